/- Runes read from the front and from the back: how many bytes they take. -/
import Derived.Test.YtegbajfmhkmolaaDoorNx0
import Derived.Lib.DecodeN
import Derived.Lib.SpaceU
namespace Go.Proofs.YtegbajfmhkmolaaDoor.D
open Go.RowKit Go.Proofs.YtegbajfmhkmolaaDoorW.PrintWords Go.Proofs.YtegbajfmhkmolaaDoorW.PrintLast
open Go.Lib (decodeN decodeL decodeLastL lastStart runeStartB)

/-- The byte at a place of a list, 0 behind it. -/
def gl (l : List UInt8) (i : Nat) : Nat := (l.getD i 0).toNat
theorem gl_lt (l : List UInt8) (i : Nat) : gl l i < 256 := (l.getD i 0).toNat_lt
theorem gl_take (l : List UInt8) (e i : Nat) (h : i < e) : gl (l.take e) i = gl l i := by
  unfold gl
  simp [List.getD_eq_getElem?_getD, h]
theorem gl_drop (l : List UInt8) (p i : Nat) : gl (l.drop p) i = gl l (p + i) := by
  unfold gl
  simp [List.getD_eq_getElem?_getD, List.getElem?_drop]
theorem get_gl (s : ByteArray) (i : Nat) : (s.get! i).toNat = gl s.data.toList i := by
  unfold gl
  congr 1
  cases s with
  | mk d =>
    show d[i]! = _
    rw [List.getD_eq_getElem?_getD, Array.getElem?_toList, getElem!_def]
    cases d[i]? <;> rfl
theorem bt_gl (s : ByteArray) (i : Nat) : bt s (i : Int) = (gl s.data.toList i : Int) := by
  unfold bt gl
  split
  · rename_i h
    have h' : i < s.data.toList.length := by rw [data_length]; simpa using h
    simp [List.getD_eq_getElem?_getD, List.getElem?_eq_getElem h']
    rfl
  · rename_i h
    have h' : s.data.toList.length ≤ i := by rw [data_length]; simpa using h
    simp [List.getD_eq_getElem?_getD, List.getElem?_eq_none h']
theorem wid {n b0 b1 b2 b3 : Nat} (hn : 1 ≤ n) : 1 ≤ (decodeN n b0 b1 b2 b3).2 ∧ (decodeN n b0 b1 b2 b3).2 ≤ 4 ∧ (decodeN n b0 b1 b2 b3).2 ≤ n := by
  unfold decodeN
  repeat' split
  all_goals (simp only; omega)
theorem asc {n b0 b1 b2 b3 : Nat} (h : b0 < 128) : decodeN n b0 b1 b2 b3 = (b0, 1) := by
  unfold decodeN
  rw [if_pos h]
theorem high {n b0 b1 b2 b3 : Nat} (h : ¬ b0 < 128) : 128 ≤ (decodeN n b0 b1 b2 b3).1 := by
  unfold decodeN
  rw [if_neg h]
  repeat' split
  all_goals (simp only; omega)
theorem cont {n b0 b1 b2 b3 : Nat} (h : b0 / 64 = 2) : decodeN n b0 b1 b2 b3 = (65533, 1) := by
  unfold decodeN
  rw [if_neg (by omega), if_neg (by omega), if_neg (by omega), if_neg (by omega)]
/-- What a wide character's bytes are. -/
theorem wide {n b0 b1 b2 b3 w : Nat} (h : (decodeN n b0 b1 b2 b3).2 = w) (hw : 2 ≤ w) :
    b0 / 64 = 3 ∨ 256 ≤ b0 := by
  unfold decodeN at h
  repeat' split at h
  all_goals (simp only at h; omega)
theorem wide1 {n b0 b1 b2 b3 w : Nat} (h : (decodeN n b0 b1 b2 b3).2 = w) (hw : 2 ≤ w) : b1 / 64 = 2 := by
  unfold decodeN at h
  repeat' split at h
  all_goals (simp only at h; omega)
theorem wide2 {n b0 b1 b2 b3 w : Nat} (h : (decodeN n b0 b1 b2 b3).2 = w) (hw : 3 ≤ w) : b2 / 64 = 2 := by
  unfold decodeN at h
  repeat' split at h
  all_goals (simp only at h; omega)
theorem wide3 {n b0 b1 b2 b3 w : Nat} (h : (decodeN n b0 b1 b2 b3).2 = w) (hw : 4 ≤ w) : b3 / 64 = 2 := by
  unfold decodeN at h
  repeat' split at h
  all_goals (simp only at h; omega)
theorem same2 {n b0 b1 b2 b3 c2 c3 : Nat} (h : (decodeN n b0 b1 b2 b3).2 = 2) : (decodeN 2 b0 b1 c2 c3).2 = 2 := by
  have h0 := wide h (by omega)
  have h1 := wide1 h (by omega)
  unfold decodeN at h ⊢
  repeat' split at h
  all_goals (simp only at h; try omega)
  rw [if_neg (by omega), if_pos (by omega), if_pos (by omega)]
theorem same3 {n b0 b1 b2 b3 c3 : Nat} (h : (decodeN n b0 b1 b2 b3).2 = 3) : (decodeN 3 b0 b1 b2 c3).2 = 3 := by
  unfold decodeN at h ⊢
  repeat' split at h
  all_goals (simp only at h; try omega)
  rw [if_neg (by omega), if_neg (by omega), if_pos (by omega), if_pos (by assumption)]
theorem same4 {n b0 b1 b2 b3 : Nat} (h : (decodeN n b0 b1 b2 b3).2 = 4) : (decodeN 4 b0 b1 b2 b3).2 = 4 := by
  unfold decodeN at h ⊢
  repeat' split at h
  all_goals (simp only at h; try omega)
  rw [if_neg (by omega), if_neg (by omega), if_neg (by omega), if_pos (by omega), if_pos (by assumption)]
theorem decodeL_drop (l : List UInt8) (p : Nat) : decodeL (l.drop p) = decodeN (l.length - p) (gl l p) (gl l (p + 1)) (gl l (p + 2)) (gl l (p + 3)) := by
  unfold decodeL
  rw [Lib.decode_at, get_gl, get_gl, get_gl, get_gl]
  have e : (⟨(l.drop p).toArray⟩ : ByteArray).data.toList = l.drop p := rfl
  have e2 : (⟨(l.drop p).toArray⟩ : ByteArray).size = l.length - p := by
    show (l.drop p).toArray.size = _
    simp
  rw [e, e2, gl_drop, gl_drop, gl_drop, gl_drop]
  rfl
/-- The width of a text's first character. -/
def fw (l : List UInt8) : Nat := (decodeN l.length (gl l 0) (gl l 1) (gl l 2) (gl l 3)).2
theorem start_lt {l : List UInt8} (h : 1 ≤ l.length) : lastStart l < l.length := by
  unfold lastStart
  simp only
  repeat' split
  all_goals omega
theorem rs_yes {l : List UInt8} {i : Nat} (h : gl l i / 64 ≠ 2) : runeStartB (l.getD i 0) = true := by
  unfold runeStartB
  unfold gl at h
  simpa using h
theorem rs_no {l : List UInt8} {i : Nat} (h : gl l i / 64 = 2) : runeStartB (l.getD i 0) = false := by
  unfold runeStartB
  unfold gl at h
  simpa using h
theorem start_zero {L : List UInt8} {e : Nat} (he : e ≤ L.length) (hw : fw L = e) (h2 : 2 ≤ e) : lastStart (L.take e) = 0 := by
  unfold fw at hw
  have hl : (L.take e).length = e := by simp; omega
  have w4 := (wid (n := L.length) (b0 := gl L 0) (b1 := gl L 1) (b2 := gl L 2) (b3 := gl L 3) (by omega)).2.1
  have h0 := wide hw h2
  have hb := gl_lt L 0
  have r0 : runeStartB ((L.take e).getD 0 0) = true := rs_yes (by rw [gl_take _ _ _ (by omega)]; omega)
  unfold lastStart
  simp only [hl]
  rw [if_neg (by omega)]
  rcases (by omega : e = 2 ∨ e = 3 ∨ e = 4) with rfl | rfl | rfl
  · rw [if_pos r0]
  · have r1 : runeStartB ((L.take 3).getD (3 - 2) 0) = false := rs_no (by rw [gl_take _ _ _ (by omega)]; exact wide1 hw (by omega))
    rw [if_neg (by rw [r1]; decide), if_neg (by omega), if_pos r0]
  · have r1 : runeStartB ((L.take 4).getD (4 - 2) 0) = false := rs_no (by rw [gl_take _ _ _ (by omega)]; exact wide2 hw (by omega))
    have r2 : runeStartB ((L.take 4).getD (4 - 3) 0) = false := rs_no (by rw [gl_take _ _ _ (by omega)]; exact wide1 hw (by omega))
    rw [if_neg (by rw [r1]; decide), if_neg (by omega), if_neg (by rw [r2]; decide), if_neg (by omega), if_pos r0]
theorem fw_last {L : List UInt8} {e : Nat} (hw : fw L = e) (h2 : 2 ≤ e) (hL : 1 ≤ L.length) : gl L (e - 1) / 64 = 2 := by
  unfold fw at hw
  have w4 := (wid (n := L.length) (b0 := gl L 0) (b1 := gl L 1) (b2 := gl L 2) (b3 := gl L 3) hL).2.1
  rcases (by omega : e = 2 ∨ e = 3 ∨ e = 4) with rfl | rfl | rfl
  · exact wide1 hw (by omega)
  · exact wide2 hw (by omega)
  · exact wide3 hw (by omega)
theorem fw_in {L : List UInt8} {j : Nat} (hL : 1 ≤ L.length) (h1 : 1 ≤ j) (h2 : j < fw L) : gl L j / 64 = 2 := by
  have hw : fw L = fw L := rfl
  unfold fw at hw
  have w4 := (wid (n := L.length) (b0 := gl L 0) (b1 := gl L 1) (b2 := gl L 2) (b3 := gl L 3) hL).2.1
  unfold fw at h2
  rcases (by omega : j = 1 ∨ j = 2 ∨ j = 3) with rfl | rfl | rfl
  · exact wide1 hw (by omega)
  · exact wide2 hw (by omega)
  · exact wide3 hw (by omega)
theorem fw_take {L : List UInt8} {e : Nat} (he : e ≤ L.length) (hw : fw L = e) (h2 : 2 ≤ e) : (decodeN e (gl (L.take e) 0) (gl (L.take e) 1) (gl (L.take e) 2) (gl (L.take e) 3)).2 = e := by
  unfold fw at hw
  have w4 := (wid (n := L.length) (b0 := gl L 0) (b1 := gl L 1) (b2 := gl L 2) (b3 := gl L 3) (by omega)).2.1
  rw [gl_take _ _ _ (by omega), gl_take _ _ _ (by omega)]
  rcases (by omega : e = 2 ∨ e = 3 ∨ e = 4) with rfl | rfl | rfl
  · exact same2 hw
  · rw [gl_take _ _ _ (by omega)]
    exact same3 hw
  · rw [gl_take _ _ _ (by omega), gl_take _ _ _ (by omega)]
    exact same4 hw
theorem last_wid {l : List UInt8} (h : 1 ≤ l.length) : 1 ≤ (decodeLastL l).2 ∧ (decodeLastL l).2 ≤ l.length := by
  have hs := start_lt h
  have hw := wid (n := l.length - lastStart l) (b0 := gl l (lastStart l)) (b1 := gl l (lastStart l + 1)) (b2 := gl l (lastStart l + 2)) (b3 := gl l (lastStart l + 3)) (by omega)
  unfold decodeLastL
  rw [if_neg (by intro e; rw [e] at h; simp at h)]
  split
  · simp only; omega
  · simp only
    rw [decodeL_drop]
    split
    · omega
    · simp only; omega
/-- What is cut off from behind never cuts the first character. -/
theorem last_keeps {L : List UInt8} {e : Nat} (he : e ≤ L.length) (h1 : 1 ≤ e) (hf : fw L ≤ e) : e - (decodeLastL (L.take e)).2 = 0 ∨ fw L ≤ e - (decodeLastL (L.take e)).2 := by
  have hl : (L.take e).length = e := by simp; omega
  have hs := start_lt (l := L.take e) (by omega)
  rw [hl] at hs
  have hw := wid (n := e - lastStart (L.take e)) (b0 := gl (L.take e) (lastStart (L.take e))) (b1 := gl (L.take e) (lastStart (L.take e) + 1)) (b2 := gl (L.take e) (lastStart (L.take e) + 2)) (b3 := gl (L.take e) (lastStart (L.take e) + 3)) (by omega)
  have hF := (wid (n := L.length) (b0 := gl L 0) (b1 := gl L 1) (b2 := gl L 2) (b3 := gl L 3) (by omega)).1
  have hF' : 1 ≤ fw L := hF
  unfold decodeLastL
  rw [if_neg (by intro e'; rw [e'] at hl; simp at hl; omega), hl]
  have hlast : (((L.take e).getD (e - 1) 0).toNat = gl L (e - 1)) := by
    have := gl_take L e (e - 1) (by omega)
    exact this
  rw [hlast]
  by_cases ha : gl L (e - 1) < 128
  · rw [if_pos ha]
    simp only
    by_cases h2 : fw L = e
    · by_cases h3 : 2 ≤ e
      · have := fw_last h2 h3 (by omega)
        omega
      · omega
    · omega
  · rw [if_neg ha]
    simp only
    rw [decodeL_drop, hl]
    split
    · rename_i h3
      by_cases h4 : lastStart (L.take e) = 0
      · omega
      by_cases h5 : fw L ≤ lastStart (L.take e)
      · omega
      · have h6 := fw_in (L := L) (j := lastStart (L.take e)) (by omega) (by omega) (by omega)
        rw [cont (by rw [gl_take _ _ _ (by omega)]; exact h6)] at h3
        simp only at h3
        have h7 : fw L = e := by omega
        have := start_zero he h7 (by omega)
        omega
    · rename_i h3
      simp only
      by_cases h2 : fw L = e
      · by_cases h4 : 2 ≤ e
        · have h5 := start_zero he h2 h4
          rw [h5, Nat.sub_zero, fw_take he h2 h4] at h3
          omega
        · omega
      · omega
/-- A text that begins with an ASCII byte keeps it when a character is cut off from behind. -/
theorem last_ascii {l : List UInt8} (h2 : 2 ≤ l.length) (ha : gl l 0 < 128) : (decodeLastL l).2 ≤ l.length - 1 := by
  unfold decodeLastL
  rw [if_neg (by intro e; rw [e] at h2; simp at h2)]
  split
  · simp only; omega
  · simp only
    rw [decodeL_drop]
    split
    · rename_i h3
      by_cases h4 : lastStart l = 0
      · rw [h4, asc ha] at h3
        simp only at h3
        omega
      · omega
    · simp only; omega
end Go.Proofs.YtegbajfmhkmolaaDoor.D
