/- What fastjson's skipWS leaves of a text (of at most 2^16 bytes) is the text behind its blanks, all of them and nothing else. No condition beyond the statement's own guards. -/
import Derived.Test.YtegbajfmhkmolaaPFnFjSkipx2
namespace Go.Proofs.Ytegbajfmhkmolaa.Pure
open Go.RowKit Go.Proofs.Ytegbajfmhkmolaa.PFnFjSkip Go.Proofs.YtegbajfmhkmolaaW.PrintWords Go.Proofs.YtegbajfmhkmolaaW.PrintLast

def blank (c : Int) : Bool := decide (c = 32 ∨ c = 9 ∨ c = 10 ∨ c = 13)

theorem Blank_some (c : Int) : spec_Blank.f c = some (blank c) := by
  unfold spec_Blank.f blank
  repeat' split
  all_goals simp_all
  rw [Bool.eq_iff_iff]
  simp

/-- The first place from i on at which no blank stands. -/
def nb (s : ByteArray) (i : Nat) : Nat :=
  if i < s.size then (if blank (bt s i) = true then nb s (i + 1) else i) else i
termination_by s.size - i

theorem nb_blank {s : ByteArray} {i : Nat} (h : i < s.size) (hb : blank (bt s i) = true) : nb s i = nb s (i + 1) := by
  rw [nb, if_pos h, if_pos hb]
theorem nb_here {s : ByteArray} {i : Nat} (hb : i < s.size → ¬ blank (bt s i) = true) : nb s i = i := by
  rw [nb]
  split
  · rename_i h
    rw [if_neg (hb h)]
  · rfl
theorem wrap_up {i : Int} {n : Nat} (h0 : 0 ≤ i) (h : i < (n : Int)) (hn : n ≤ 140737488351232) : wrap64 (i + 1) = i + 1 := by
  unfold wrap64
  omega
theorem extract_end (s : ByteArray) : s.extract s.size s.size = (⟨#[]⟩ : ByteArray) := by
  apply ByteArray.ext
  simp
theorem extract_all (s : ByteArray) : s.extract 0 s.size = s := by
  apply ByteArray.ext
  simp [ByteArray.data_extract, ← ByteArray.size_data]

theorem slow_tells (s : ByteArray) (hn : s.size ≤ 140737488351232) (d : Nat) : ∀ (k i : Nat), i ≤ s.size → s.size - i = d → d < k →
    fastjson_skipWSSlow.l0 k s i = some (s.extract (nb s i) s.size) := by
  induction d with
  | zero =>
    intro k i h1 hd hk
    obtain ⟨k, rfl⟩ : ∃ m, k = m + 1 := ⟨k - 1, by omega⟩
    obtain rfl : i = s.size := by omega
    simp only [fastjson_skipWSSlow.l0]
    rw [if_neg (by omega), nb_here (fun h => absurd h (by omega)), extract_end]
  | succ d ih =>
    intro k i h1 hd hk
    obtain ⟨k, rfl⟩ : ∃ m, k = m + 1 := ⟨k - 1, by omega⟩
    have hlt : i < s.size := by omega
    have e := ih k (i + 1) (by omega) (by omega) (by omega)
    have hw : wrap64 ((i : Int) + 1) = ((i + 1 : Nat) : Int) := by rw [wrap_up (by omega) (by omega : (i : Int) < (s.size : Int)) hn]; rfl
    simp only [fastjson_skipWSSlow.l0]
    rw [if_pos (by omega), if_pos (by omega), hw, e]
    by_cases hb : blank (bt s i) = true
    · rw [nb_blank hlt hb]
      have : bt s i = 32 ∨ bt s i = 9 ∨ bt s i = 10 ∨ bt s i = 13 := by simpa [blank] using hb
      repeat' split
      all_goals first | rfl | omega
    · rw [nb_here (fun _ => hb)]
      have : ¬ (bt s i = 32 ∨ bt s i = 9 ∨ bt s i = 10 ∨ bt s i = 13) := by simpa [blank] using hb
      rw [if_neg (by omega), if_neg (by omega), if_neg (by omega), if_neg (by omega), if_pos (by omega)]
      simp

theorem skip_tells (s : ByteArray) (hn : s.size ≤ 140737488351232) (k : Nat) (hk : s.size + 1 < k) : impl_FjSkip.f k s = some (s.extract (nb s 0) s.size) := by
  unfold impl_FjSkip.f fastjson_DoorSkip.f fastjson_skipWS.f
  by_cases h0 : (s.size : Int) = 0
  · rw [if_pos h0, nb_here (fun h => absurd h (by omega)), extract_all]; rfl
  rw [if_neg h0, if_pos (by omega)]
  by_cases h1 : bt s 0 > 32
  · rw [if_pos h1, nb_here (fun _ => by simp only [blank, decide_eq_true_eq]; have : bt s ((0 : Nat) : Int) = bt s 0 := rfl; omega), extract_all]; rfl
  rw [if_neg h1]
  have key : fastjson_skipWSSlow.f k s = some (s.extract (nb s 0) s.size) := by
    obtain ⟨k, rfl⟩ : ∃ m, k = m + 1 := ⟨k - 1, by omega⟩
    have e := slow_tells s hn (s.size - 1) k 1 (by omega) rfl (by omega)
    have hz : bt s ((0 : Nat) : Int) = bt s 0 := rfl
    unfold fastjson_skipWSSlow.f
    rw [if_neg h0, if_pos (by omega)]
    simp only [fastjson_skipWSSlow.j0]
    have e' : fastjson_skipWSSlow.l0 k s 1 = some (s.extract (nb s 1) s.size) := e
    rw [e']
    by_cases hb : blank (bt s 0) = true
    · rw [show nb s 0 = nb s 1 from nb_blank (i := 0) (by omega) (by rw [hz]; exact hb)]
      have : bt s 0 = 32 ∨ bt s 0 = 9 ∨ bt s 0 = 10 ∨ bt s 0 = 13 := by simpa [blank] using hb
      by_cases a : bt s 0 = 32
      · rw [if_pos a]; rfl
      by_cases b : bt s 0 = 10
      · rw [if_neg a, if_pos b]; rfl
      by_cases c : bt s 0 = 9
      · rw [if_neg a, if_neg b, if_pos c]; rfl
      · rw [if_neg a, if_neg b, if_neg c, if_neg (by simp; omega)]
    · rw [show nb s 0 = 0 from nb_here (i := 0) (fun _ => by rw [hz]; exact hb), extract_all]
      have : ¬ (bt s 0 = 32 ∨ bt s 0 = 9 ∨ bt s 0 = 10 ∨ bt s 0 = 13) := by simpa [blank] using hb
      rw [if_neg (by omega), if_neg (by omega), if_neg (by omega), if_pos (by simp; omega)]
  rw [key]; rfl

theorem one_tells (k : Nat) (hk : 3 < k) : (impl_FjSkip.f k (⟨#[32, 49]⟩ : ByteArray)).bind (fun t => some (t.toList == ([49] : List UInt8))) = some true := by
  have hs : (⟨#[32, 49]⟩ : ByteArray).size = 2 := rfl
  rw [skip_tells _ (by rw [hs]; omega) k (by rw [hs]; omega)]
  have h1 : nb (⟨#[32, 49]⟩ : ByteArray) 0 = 1 := by
    rw [nb_blank (by rw [hs]; omega) (by decide), nb_here (fun _ => by decide)]
  rw [h1]
  have e : ((⟨#[32, 49]⟩ : ByteArray).extract 1 (⟨#[32, 49]⟩ : ByteArray).size).toList = [49] := by
    simp [hs, ByteArray.toList_eq]
  simp only [Option.bind_some]
  rw [e]; rfl

theorem law_tells (s : ByteArray) (hn : s.size ≤ 140737488351232) (d : Nat) : ∀ (k i : Nat), i ≤ s.size → s.size - i = d → d + s.size + 5 < k → nb s i = nb s 0 →
    laws_FnFjSkip.l0 k s i = some true := by
  induction d with
  | zero =>
    intro k i h1 hd hk he
    obtain ⟨k, rfl⟩ : ∃ m, k = m + 1 := ⟨k - 1, by omega⟩
    obtain rfl : i = s.size := by omega
    have e1 : nb s s.size = s.size := nb_here (fun h => absurd h (by omega))
    simp only [laws_FnFjSkip.l0]
    rw [if_neg (by omega), skip_tells s hn k (by omega)]
    simp only [Option.bind_some]
    rw [if_pos (by omega), if_pos (by omega), if_pos (by rw [← he, e1]; simp)]
    exact one_tells k (by omega)
  | succ d ih =>
    intro k i h1 hd hk he
    obtain ⟨k, rfl⟩ : ∃ m, k = m + 1 := ⟨k - 1, by omega⟩
    have hlt : i < s.size := by omega
    have hw : wrap64 ((i : Int) + 1) = ((i + 1 : Nat) : Int) := by rw [wrap_up (by omega) (by omega : (i : Int) < (s.size : Int)) hn]; rfl
    simp only [laws_FnFjSkip.l0]
    rw [if_pos (by omega), if_pos (by omega), Blank_some]
    simp only [Option.bind_some]
    by_cases hb : blank (bt s i) = true
    · rw [if_pos hb, hw]
      exact ih k (i + 1) (by omega) (by omega) (by omega) (by rw [← nb_blank hlt hb]; exact he)
    · rw [if_neg hb, skip_tells s hn k (by omega)]
      simp only [Option.bind_some]
      rw [if_pos (by omega), if_pos (by rw [← he, nb_here (fun _ => hb)]; simp)]
      exact one_tells k (by omega)

/-- YOURS: ∀ (a0 : ByteArray), a0.size ≤ 140737488351232 → ∃ k, laws_FnFjSkip.f k a0 = some true
What it reaches (each with k first where it has rounds; `.mono`: more rounds tell the same; `.l0`, ..: its loops, with `.mono_l`): spec_Blank.f, fastjson_skipWSSlow.f, fastjson_skipWS.f, fastjson_DoorSkip.f, impl_FjSkip.f, laws_FnFjSkip.f -/
theorem FnFjSkip : laws_FnFjSkip.Pure := by
  intro s hn
  refine ⟨2 * s.size + 6, ?_⟩
  unfold laws_FnFjSkip.f
  split
  · rfl
  split
  · rfl
  exact law_tells s hn s.size _ 0 (by omega) (by omega) (by omega) rfl

end Go.Proofs.Ytegbajfmhkmolaa.Pure
