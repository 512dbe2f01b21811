/- What sjson writes of a text in UTF-8 is what the specification writes. -/
import Derived.Test.YtegbajfmhkmolaaDoorQxf3
import Derived.Lib.DecodeN
namespace Go.Proofs.YtegbajfmhkmolaaDoor.Pure
open Go.RowKit Go.Proofs.YtegbajfmhkmolaaDoor.Q Go.Proofs.YtegbajfmhkmolaaDoorW.PrintWords Go.Proofs.YtegbajfmhkmolaaDoorW.PrintLast

theorem w64 {x : Int} (h : -9223372036854775808 ≤ x ∧ x ≤ 9223372036854775807) : wrap64 x = x := by
  unfold wrap64
  omega
/-- The byte at a place, as a natural number. -/
def nb (s : ByteArray) (i : Nat) : Nat := (s.get! i).toNat
theorem nb_bt (s : ByteArray) (i : Nat) : bt s (i : Int) = (nb s i : Int) := by
  unfold bt nb
  split
  · rename_i h
    have h' : i < s.size := by simpa using h
    have e : s.get! i = s[i]'h' := by cases s with | mk d => exact getElem!_pos d i h'
    rw [e]
    simp
  · rename_i h
    have h' : ¬ i < s.size := by simpa using h
    have e : s.get! i = default := by cases s with | mk d => exact getElem!_neg d i h'
    rw [e]
    rfl
theorem nb_lt (s : ByteArray) (i : Nat) : nb s i < 256 := (s.get! i).toNat_lt
theorem Ev_same {α : Type} {g : Nat → Option α} {r r' : α} (h : Ev g r) (e : r = r') : Ev g r' := e ▸ h

/-- What a character at a place is: its number, its width; well written there. -/
structure Chr (s : ByteArray) (i c n : Nat) : Prop where
  dec : Utf8.decode s i = (c, n)
  pos : 1 ≤ n
  fit : i + n ≤ s.size
  low : nb s i < 128 → c = nb s i ∧ n = 1
  high : 128 ≤ nb s i → 128 ≤ c ∧ 2 ≤ n
  top : c ≤ 1114111 ∧ n ≤ 4

/-- One more byte of a character. -/
theorem l0_more {s : ByteArray} (hs : s.size ≤ 140737488351232) {i : Nat} (hi : i < s.size) (x7 x8 x9 x10 : Nat) (hx : x10 ≤ x8) (h7 : x7 ≤ 1000000) (hj : i + x10 < s.size) (h8 : x8 ≤ 3) {r : Int × Int × Bool}
    (hb : 128 ≤ nb s (i + x10) ∧ nb s (i + x10) ≤ 191)
    (h : Ev (fun k => spec_Character.l0 k s i ((x7 * 64 + (nb s (i + x10) - 128) : Nat) : Int) x8 x9 ((x10 + 1 : Nat) : Int)) r) :
    Ev (fun k => spec_Character.l0 k s i x7 x8 x9 (x10 : Int)) r := by
  refine Ev.step (fun k => ?_) h
  have e1 : wrap64 ((i : Int) + (x10 : Int)) = ((i + x10 : Nat) : Int) := by rw [w64 (by omega)]; omega
  have e2 : wrap64 (bt s ((i + x10 : Nat) : Int)) = (nb s (i + x10) : Int) := by rw [nb_bt, w64 (by omega)]
  simp only [spec_Character.l0, e1, e2]
  rw [if_pos (by omega), if_pos (by omega), if_pos (by omega), if_neg (by omega), if_neg (by omega)]
  congr 1
  · rw [w64 (x := (x7 : Int) * 64) (by omega), w64 (x := (x7 : Int) * 64 + _) (by omega), w64 (by omega)]
    omega
  · rw [w64 (by omega)]
    omega
/-- A byte that is none of a character. -/
theorem l0_none {s : ByteArray} (hs : s.size ≤ 140737488351232) {i : Nat} (hi : i < s.size) (x7 x8 x9 x10 : Nat) (hx : x10 ≤ x8) (hj : i + x10 < s.size) (h8 : x8 ≤ 3) (hb : ¬ (128 ≤ nb s (i + x10) ∧ nb s (i + x10) ≤ 191)) :
    Ev (fun k => spec_Character.l0 k s i x7 x8 x9 (x10 : Int)) (65533, 1, false) := by
  refine Ev.step (f := fun _ => some (65533, 1, false)) (fun k => ?_) (Ev.now _)
  have e1 : wrap64 ((i : Int) + (x10 : Int)) = ((i + x10 : Nat) : Int) := by rw [w64 (by omega)]; omega
  have e2 : wrap64 (bt s ((i + x10 : Nat) : Int)) = (nb s (i + x10) : Int) := by rw [nb_bt, w64 (by have := nb_lt s (i + x10); omega)]
  simp only [spec_Character.l0, e1, e2]
  rw [if_pos (by omega), if_pos (by omega), if_pos (by omega)]
  by_cases h : nb s (i + x10) < 128
  · rw [if_pos (by omega)]
  · rw [if_neg (by omega), if_pos (by omega)]
/-- The end of a character. -/
theorem l0_end {s : ByteArray} (_hs : s.size ≤ 140737488351232) {i : Nat} (_hi : i < s.size) (x7 x8 x9 : Nat) (h8 : x8 ≤ 3) :
    Ev (fun k => spec_Character.l0 k s i x7 x8 x9 ((x8 + 1 : Nat) : Int)) (if x9 ≤ x7 ∧ x7 ≤ 1114111 ∧ ¬ (55296 ≤ x7 ∧ x7 ≤ 57343) then ((x7 : Int), ((x8 + 1 : Nat) : Int), true) else (65533, 1, false)) := by
  refine Ev.step (f := fun _ => some _) (fun k => ?_) (Ev.now _)
  have eR : ¬ (x9 ≤ x7 ∧ x7 ≤ 1114111 ∧ ¬ (55296 ≤ x7 ∧ x7 ≤ 57343)) → (if x9 ≤ x7 ∧ x7 ≤ 1114111 ∧ ¬ (55296 ≤ x7 ∧ x7 ≤ 57343) then ((x7 : Int), ((x8 + 1 : Nat) : Int), true) else (65533, 1, false)) = (65533, 1, false) := fun h => if_neg h
  simp only [spec_Character.l0, spec_high.f, spec_low.f]
  rw [if_neg (by omega)]
  by_cases h1 : x7 < x9
  · rw [if_pos (by omega), if_neg (by omega)]
  rw [if_neg (by omega)]
  by_cases h2 : x7 > 1114111
  · rw [if_pos (by omega), if_neg (by omega)]
  rw [if_neg (by omega), w64 (x := (x8 : Int) + 1) (by omega)]
  by_cases h3 : 55296 ≤ x7 ∧ x7 ≤ 56319
  · rw [eR (by omega), if_pos (by omega)]
    simp only [Option.bind_some]
    rw [if_pos (by simp; omega)]
  have e3 : (if 55296 ≤ (x7 : Int) then some (decide ((x7 : Int) ≤ 56319)) else some false) = some false := by
    split
    · congr 1
      simp
      omega
    · rfl
  rw [e3]
  simp only [Option.bind_some]
  rw [if_neg (by decide)]
  by_cases h4 : 56320 ≤ x7 ∧ x7 ≤ 57343
  · rw [eR (by omega), if_pos (by omega)]
    simp only [Option.bind_some]
    rw [if_pos (by simp; omega)]
  have e4 : (if 56320 ≤ (x7 : Int) then some (decide ((x7 : Int) ≤ 57343)) else some false) = some false := by
    split
    · congr 1
      simp
      omega
    · rfl
  rw [e4]
  simp only [Option.bind_some]
  rw [if_neg (by decide), if_pos (by omega)]
  simp
/-- What Character answers: not well written, or a character. -/
def Ans (s : ByteArray) (i : Nat) (r : Int × Int × Bool) : Prop := r = (65533, 1, false) ∨ ∃ c n : Nat, r = ((c : Int), (n : Int), true) ∧ Chr s i c n
theorem j2_two {s : ByteArray} (hs : s.size ≤ 140737488351232) {i : Nat} (hi : i < s.size) (h0 : 194 ≤ nb s i ∧ nb s i ≤ 223) : ∃ r, Ev (fun k => spec_Character.j2 k s i ((nb s i - 192 : Nat) : Int) 1 128) r ∧ Ans s i r := by
  by_cases hn : s.size ≤ i + 1
  · refine ⟨_, Ev.step (f := fun _ => some (65533, 1, false)) (fun k => ?_) (Ev.now _), .inl rfl⟩
    simp only [spec_Character.j2]
    rw [if_pos (by rw [w64 (by omega)]; omega)]
  have st : ∀ {r}, Ev (fun k => spec_Character.l0 k s i ((nb s i - 192 : Nat) : Int) ((1 : Nat) : Int) ((128 : Nat) : Int) ((1 : Nat) : Int)) r → Ev (fun k => spec_Character.j2 k s i ((nb s i - 192 : Nat) : Int) 1 128) r := fun h => by
    refine Ev.step (fun k => ?_) h
    simp only [spec_Character.j2]
    rw [if_neg (by rw [w64 (by omega)]; omega)]
    rfl
  by_cases h1 : 128 ≤ nb s (i + 1) ∧ nb s (i + 1) ≤ 191
  · refine ⟨_, st (l0_more hs hi _ 1 128 1 (by omega) (by omega) (by omega) (by omega) h1 (l0_end hs hi _ 1 128 (by omega))), .inr ⟨(nb s i - 192) * 64 + (nb s (i + 1) - 128), 2, ?_, ?_, by omega, by omega, fun h => by omega, fun _ => by omega, by omega⟩⟩
    · rw [if_pos (by omega)]
    · rw [Lib.decode_at]
      change Lib.decodeN (s.size - i) (nb s i) (nb s (i + 1)) (nb s (i + 2)) (nb s (i + 3)) = _
      unfold Lib.decodeN
      rw [if_neg (by omega), if_pos (by omega), if_pos (by omega)]
      refine congrArg (fun x => (x, 2)) ?_
      omega
  · exact ⟨_, st (l0_none hs hi _ 1 128 1 (by omega) (by omega) (by omega) h1), .inl rfl⟩
theorem j2_three {s : ByteArray} (hs : s.size ≤ 140737488351232) {i : Nat} (hi : i < s.size) (h0 : 224 ≤ nb s i ∧ nb s i ≤ 239) : ∃ r, Ev (fun k => spec_Character.j2 k s i ((nb s i - 224 : Nat) : Int) 2 2048) r ∧ Ans s i r := by
  by_cases hn : s.size ≤ i + 2
  · refine ⟨_, Ev.step (f := fun _ => some (65533, 1, false)) (fun k => ?_) (Ev.now _), .inl rfl⟩
    simp only [spec_Character.j2]
    rw [if_pos (by rw [w64 (by omega)]; omega)]
  have st : ∀ {r}, Ev (fun k => spec_Character.l0 k s i ((nb s i - 224 : Nat) : Int) ((2 : Nat) : Int) ((2048 : Nat) : Int) ((1 : Nat) : Int)) r → Ev (fun k => spec_Character.j2 k s i ((nb s i - 224 : Nat) : Int) 2 2048) r := fun h => by
    refine Ev.step (fun k => ?_) h
    simp only [spec_Character.j2]
    rw [if_neg (by rw [w64 (by omega)]; omega)]
    rfl
  by_cases h1 : 128 ≤ nb s (i + 1) ∧ nb s (i + 1) ≤ 191
  · by_cases h2 : 128 ≤ nb s (i + 2) ∧ nb s (i + 2) ≤ 191
    · have hE := st (l0_more hs hi _ 2 2048 1 (by omega) (by omega) (by omega) (by omega) h1 (l0_more hs hi _ 2 2048 2 (by omega) (by omega) (by omega) (by omega) h2 (l0_end hs hi _ 2 2048 (by omega))))
      refine ⟨_, hE, ?_⟩
      by_cases hx : 2048 ≤ ((nb s i - 224) * 64 + (nb s (i + 1) - 128)) * 64 + (nb s (i + 2) - 128) ∧ ((nb s i - 224) * 64 + (nb s (i + 1) - 128)) * 64 + (nb s (i + 2) - 128) ≤ 1114111 ∧ ¬ (55296 ≤ ((nb s i - 224) * 64 + (nb s (i + 1) - 128)) * 64 + (nb s (i + 2) - 128) ∧ ((nb s i - 224) * 64 + (nb s (i + 1) - 128)) * 64 + (nb s (i + 2) - 128) ≤ 57343)
      · refine .inr ⟨((nb s i - 224) * 64 + (nb s (i + 1) - 128)) * 64 + (nb s (i + 2) - 128), 3, by rw [if_pos hx], ?_, by omega, by omega, fun h => by omega, fun _ => by omega, by omega⟩
        rw [Lib.decode_at]
        change Lib.decodeN (s.size - i) (nb s i) (nb s (i + 1)) (nb s (i + 2)) (nb s (i + 3)) = _
        unfold Lib.decodeN
        rw [if_neg (by omega), if_neg (by omega), if_pos (by omega), if_pos (by omega)]
        refine congrArg (fun x => (x, 3)) ?_
        omega
      · exact .inl (if_neg hx)
    · exact ⟨_, st (l0_more hs hi _ 2 2048 1 (by omega) (by omega) (by omega) (by omega) h1 (l0_none hs hi _ 2 2048 2 (by omega) (by omega) (by omega) h2)), .inl rfl⟩
  · exact ⟨_, st (l0_none hs hi _ 2 2048 1 (by omega) (by omega) (by omega) h1), .inl rfl⟩
theorem j2_four {s : ByteArray} (hs : s.size ≤ 140737488351232) {i : Nat} (hi : i < s.size) (h0 : 240 ≤ nb s i ∧ nb s i ≤ 244) : ∃ r, Ev (fun k => spec_Character.j2 k s i ((nb s i - 240 : Nat) : Int) 3 65536) r ∧ Ans s i r := by
  by_cases hn : s.size ≤ i + 3
  · refine ⟨_, Ev.step (f := fun _ => some (65533, 1, false)) (fun k => ?_) (Ev.now _), .inl rfl⟩
    simp only [spec_Character.j2]
    rw [if_pos (by rw [w64 (by omega)]; omega)]
  have st : ∀ {r}, Ev (fun k => spec_Character.l0 k s i ((nb s i - 240 : Nat) : Int) ((3 : Nat) : Int) ((65536 : Nat) : Int) ((1 : Nat) : Int)) r → Ev (fun k => spec_Character.j2 k s i ((nb s i - 240 : Nat) : Int) 3 65536) r := fun h => by
    refine Ev.step (fun k => ?_) h
    simp only [spec_Character.j2]
    rw [if_neg (by rw [w64 (by omega)]; omega)]
    rfl
  by_cases h1 : 128 ≤ nb s (i + 1) ∧ nb s (i + 1) ≤ 191
  · by_cases h2 : 128 ≤ nb s (i + 2) ∧ nb s (i + 2) ≤ 191
    · by_cases h3 : 128 ≤ nb s (i + 3) ∧ nb s (i + 3) ≤ 191
      · have hE := st (l0_more hs hi _ 3 65536 1 (by omega) (by omega) (by omega) (by omega) h1 (l0_more hs hi _ 3 65536 2 (by omega) (by omega) (by omega) (by omega) h2 (l0_more hs hi _ 3 65536 3 (by omega) (by omega) (by omega) (by omega) h3 (l0_end hs hi _ 3 65536 (by omega)))))
        refine ⟨_, hE, ?_⟩
        obtain ⟨x, hxe⟩ : ∃ x, x = (((nb s i - 240) * 64 + (nb s (i + 1) - 128)) * 64 + (nb s (i + 2) - 128)) * 64 + (nb s (i + 3) - 128) := ⟨_, rfl⟩
        rw [← hxe]
        by_cases hx : 65536 ≤ x ∧ x ≤ 1114111 ∧ ¬ (55296 ≤ x ∧ x ≤ 57343)
        · refine .inr ⟨x, 4, by rw [if_pos hx], ?_, by omega, by omega, fun h => by omega, fun _ => by omega, by omega⟩
          rw [Lib.decode_at]
          change Lib.decodeN (s.size - i) (nb s i) (nb s (i + 1)) (nb s (i + 2)) (nb s (i + 3)) = _
          unfold Lib.decodeN
          rw [if_neg (by omega), if_neg (by omega), if_neg (by omega), if_pos (by omega), if_pos (by omega)]
          congr 1
          omega
        · exact .inl (if_neg hx)
      · exact ⟨_, st (l0_more hs hi _ 3 65536 1 (by omega) (by omega) (by omega) (by omega) h1 (l0_more hs hi _ 3 65536 2 (by omega) (by omega) (by omega) (by omega) h2 (l0_none hs hi _ 3 65536 3 (by omega) (by omega) (by omega) h3))), .inl rfl⟩
    · exact ⟨_, st (l0_more hs hi _ 3 65536 1 (by omega) (by omega) (by omega) (by omega) h1 (l0_none hs hi _ 3 65536 2 (by omega) (by omega) (by omega) h2)), .inl rfl⟩
  · exact ⟨_, st (l0_none hs hi _ 3 65536 1 (by omega) (by omega) (by omega) h1), .inl rfl⟩
theorem char_ans {s : ByteArray} (hs : s.size ≤ 140737488351232) {i : Nat} (hi : i < s.size) : ∃ r, Ev (fun k => spec_Character.f k s i) r ∧ Ans s i r := by
  have hb := nb_lt s i
  have e2 : wrap64 (bt s (i : Int)) = (nb s i : Int) := by rw [nb_bt, w64 (by omega)]
  have no : ∀ {f : Nat → Option (Int × Int × Bool)}, (∀ k, f k = some (65533, 1, false)) → ∃ r, Ev f r ∧ Ans s i r := fun h => ⟨_, Ev.congr h (Ev.now _), .inl rfl⟩
  have fore : ∀ {g f : Nat → Option (Int × Int × Bool)}, (∀ k, g (k + 1) = f k) → (∃ r, Ev f r ∧ Ans s i r) → ∃ r, Ev g r ∧ Ans s i r := fun h ⟨r, h1, h2⟩ => ⟨r, Ev.step h h1, h2⟩
  have same : ∀ {g f : Nat → Option (Int × Int × Bool)}, (∀ k, g k = f k) → (∃ r, Ev f r ∧ Ans s i r) → ∃ r, Ev g r ∧ Ans s i r := fun h ⟨r, h1, h2⟩ => ⟨r, Ev.congr h h1, h2⟩
  by_cases h1 : nb s i < 128
  · refine ⟨_, Ev.congr (f := fun _ => some ((nb s i : Int), ((1 : Nat) : Int), true)) (fun k => ?_) (Ev.now _), .inr ⟨nb s i, 1, rfl, ?_, by omega, by omega, fun _ => ⟨rfl, rfl⟩, fun h => by omega, by omega⟩⟩
    · simp only [spec_Character.f, e2]
      rw [if_pos (by omega), if_pos (by omega), if_pos (by omega)]
      rfl
    · rw [Lib.decode_at]
      change Lib.decodeN (s.size - i) (nb s i) (nb s (i + 1)) (nb s (i + 2)) (nb s (i + 3)) = _
      unfold Lib.decodeN
      rw [if_pos h1]
  by_cases h2 : 194 ≤ nb s i ∧ nb s i ≤ 223
  · refine same (f := fun k => spec_Character.j0 k s i (nb s i : Int) true) (fun k => ?_) (fore (fun k => ?_) (j2_two hs hi h2))
    · simp only [spec_Character.f, e2]
      rw [if_pos (by omega), if_pos (by omega), if_neg (by omega), if_pos (by omega)]
      congr 1
      simp
      omega
    · simp only [spec_Character.j0]
      rw [if_pos trivial, w64 (by omega)]
      congr 1
      omega
  refine same (f := fun k => spec_Character.j0 k s i (nb s i : Int) false) (fun k => ?_) ?_
  · simp only [spec_Character.f, e2]
    rw [if_pos (by omega), if_pos (by omega), if_neg (by omega)]
    by_cases h : 194 ≤ nb s i
    · rw [if_pos (by omega)]
      congr 1
      simp
      omega
    · rw [if_neg (by omega)]
  by_cases h3 : 224 ≤ nb s i ∧ nb s i ≤ 239
  · refine fore (f := fun k => spec_Character.j1 k s i (nb s i : Int) true) (fun k => ?_) (fore (fun k => ?_) (j2_three hs hi h3))
    · simp only [spec_Character.j0]
      rw [if_neg (by decide), if_pos (by omega)]
      congr 1
      simp
      omega
    · simp only [spec_Character.j1]
      rw [if_pos trivial, w64 (by omega)]
      congr 1
      omega
  refine fore (f := fun k => spec_Character.j1 k s i (nb s i : Int) false) (fun k => ?_) ?_
  · simp only [spec_Character.j0]
    rw [if_neg (by decide)]
    by_cases h : 224 ≤ nb s i
    · rw [if_pos (by omega)]
      congr 1
      simp
      omega
    · rw [if_neg (by omega)]
  by_cases h4 : 240 ≤ nb s i ∧ nb s i ≤ 244
  · refine fore (fun k => ?_) (j2_four hs hi h4)
    simp only [spec_Character.j1]
    rw [if_neg (by decide), if_pos (by omega), if_pos (by omega), w64 (by omega)]
    congr 1
    omega
  · refine fore (f := fun _ => some (65533, 1, false)) (fun k => ?_) (no fun _ => rfl)
    simp only [spec_Character.j1]
    rw [if_neg (by decide)]
    by_cases h : 240 ≤ nb s i
    · rw [if_pos (by omega), if_neg (by omega)]
    · rw [if_neg (by omega)]
/-- A text from a place on, well written to its end. -/
inductive Val (s : ByteArray) : Nat → Prop
  | done : Val s s.size
  | step {i c n : Nat} : i < s.size → Chr s i c n → Ev (fun k => spec_Character.f k s i) ((c : Int), (n : Int), true) → Val s (i + n) → Val s i
theorem utf8_val {s : ByteArray} (hs : s.size ≤ 140737488351232) : ∀ d i, s.size - i = d → i ≤ s.size → ∃ t, Ev (fun k => spec_UTF8.l0 k s i) t ∧ (t = true → Val s i) := by
  intro d
  induction d using Nat.strongRecOn with
  | ind d ih =>
    intro i hd hi
    by_cases h : i < s.size
    · obtain ⟨r, h1, h2⟩ := char_ans hs h
      rcases h2 with rfl | ⟨c, n, rfl, hc⟩
      · refine ⟨false, Ev.step (f := fun k => (spec_Character.f k s i).bind fun b => if b.2.2 = true then spec_UTF8.l0 k s (wrap64 (i + b.2.1)) else some false) (fun k => ?_) (Ev.bind h1 ?_), fun h => by simp at h⟩
        · simp only [spec_UTF8.l0]
          rw [if_pos (by omega)]
        · exact Ev.congr (fun k => by rw [if_neg (by decide)]) (Ev.now _)
      · have hf := hc.fit
        have hp := hc.pos
        obtain ⟨t, h3, h4⟩ := ih (s.size - (i + n)) (by omega) (i + n) rfl hf
        refine ⟨t, Ev.step (f := fun k => (spec_Character.f k s i).bind fun b => if b.2.2 = true then spec_UTF8.l0 k s (wrap64 (i + b.2.1)) else some false) (fun k => ?_) (Ev.bind h1 ?_), fun h5 => Val.step h hc h1 (h4 h5)⟩
        · simp only [spec_UTF8.l0]
          rw [if_pos (by omega)]
        · refine Ev.congr (fun k => ?_) h3
          change spec_UTF8.l0 k s (wrap64 ((i : Int) + (n : Int))) = _
          rw [w64 (by omega)]
          congr 1
    · refine ⟨true, Ev.step (f := fun _ => some true) (fun k => ?_) (Ev.now _), fun _ => ?_⟩
      · simp only [spec_UTF8.l0]
        rw [if_neg (by omega)]
      · have e : i = s.size := by omega
        subst e
        exact Val.done
/-- A byte that stands for itself between quotes. -/
def plain (b : Nat) : Prop := 32 ≤ b ∧ b ≤ 127 ∧ b ≠ 34 ∧ b ≠ 92
theorem must_false {s : ByteArray} (hs : s.size ≤ 140737488351232) : ∀ d i, s.size - i = d → i ≤ s.size → (∀ j, i ≤ j → j < s.size → plain (nb s j)) → Ev (fun k => sjson_mustMarshalString.l0 k s i) false
  | 0, i, hd, hi, _ => by
    refine Ev.step (f := fun _ => some false) (fun k => ?_) (Ev.now _)
    simp only [sjson_mustMarshalString.l0]
    rw [if_neg (by omega)]
  | d + 1, i, hd, hi, h => by
    have hp := h i (Nat.le_refl _) (by omega)
    have ih := must_false hs d (i + 1) (by omega) (by omega) fun j hj hj2 => h j (by omega) hj2
    refine Ev.step (fun k => ?_) ih
    unfold plain at hp
    simp only [sjson_mustMarshalString.l0, nb_bt]
    rw [if_pos (by omega), if_pos (by omega), if_neg (by omega), if_neg (by omega), if_neg (by omega), if_neg (by omega), w64 (by omega)]
    congr 1
theorem must_true {s : ByteArray} (hs : s.size ≤ 140737488351232) : ∀ d i, s.size - i = d → i ≤ s.size → (∃ j, i ≤ j ∧ j < s.size ∧ ¬ plain (nb s j)) → Ev (fun k => sjson_mustMarshalString.l0 k s i) true
  | 0, i, hd, hi, h => by
    obtain ⟨j, h1, h2, _⟩ := h
    omega
  | d + 1, i, hd, hi, h => by
    by_cases hp : plain (nb s i)
    · have ih := must_true hs d (i + 1) (by omega) (by omega) (by
        obtain ⟨j, h1, h2, h3⟩ := h
        refine ⟨j, ?_, h2, h3⟩
        rcases Nat.eq_or_lt_of_le h1 with e | e
        · subst e
          exact absurd hp h3
        · omega)
      refine Ev.step (fun k => ?_) ih
      unfold plain at hp
      simp only [sjson_mustMarshalString.l0, nb_bt]
      rw [if_pos (by omega), if_pos (by omega), if_neg (by omega), if_neg (by omega), if_neg (by omega), if_neg (by omega), w64 (by omega)]
      congr 1
    · refine Ev.step (f := fun _ => some true) (fun k => ?_) (Ev.now _)
      unfold plain at hp
      simp only [sjson_mustMarshalString.l0, nb_bt]
      rw [if_pos (by omega), if_pos (by omega)]
      repeat' split
      all_goals first | rfl | (exfalso; omega)

/-- A digit of sixteen, small. -/
def hexd (n : Nat) : Int := bt (⟨#[48, 49, 50, 51, 52, 53, 54, 55, 56, 57, 97, 98, 99, 100, 101, 102]⟩ : ByteArray) (n : Int)
def D (c m : Int) : Option Int := spec_digitOf.f (Go.bits .and .i64 (shr .i64 c (IntKind.u64.wrap m)) 15) false
set_option maxRecDepth 100000 in
theorem digs : ∀ c ∈ List.range 32 ++ [38, 60, 62], D (c : Nat) 12 = some 48 ∧ D (c : Nat) 8 = some 48 ∧ D (c : Nat) 4 = some (hexd (c / 16)) ∧ D (c : Nat) 0 = some (hexd (c % 16)) := by decide +kernel
set_option maxRecDepth 100000 in
theorem digs2 : ∀ c ∈ [8232, 8233], D (c : Nat) 12 = some 50 ∧ D (c : Nat) 8 = some 48 ∧ D (c : Nat) 4 = some 50 ∧ D (c : Nat) 0 = some (hexd (c % 16)) := by decide +kernel
set_option maxRecDepth 100000 in
theorem and15 : ∀ c ∈ List.range 32 ++ [38, 60, 62], Go.bits .and .u8 ((c : Nat) : Int) 15 = ((c % 16 : Nat) : Int) := by decide
theorem and15b : ∀ c ∈ [8232, 8233], Go.bits .and .i32 ((c : Nat) : Int) 15 = ((c % 16 : Nat) : Int) := by decide
/-- What is written of a character between quotes. -/
def esc (s : ByteArray) (i c n : Nat) : List Int :=
  if c = 34 ∨ c = 92 then [92, (c : Int)] else if c = 8 then [92, 98] else if c = 12 then [92, 102] else if c = 10 then [92, 110] else if c = 13 then [92, 114] else if c = 9 then [92, 116]
  else if c < 32 ∨ c = 38 ∨ c = 60 ∨ c = 62 then [92, 117, 48, 48, hexd (c / 16), hexd (c % 16)]
  else if c = 8232 ∨ c = 8233 then [92, 117, 50, 48, 50, hexd (c % 16)]
  else bytesOf (s.extract i (i + n))
theorem ext_size (s : ByteArray) (i n : Nat) (h : i + n ≤ s.size) : (s.extract i (i + n)).size = n := by
  rw [ByteArray.size_extract]
  omega
theorem ext_one (s : ByteArray) (i : Nat) (h : i < s.size) : bytesOf (s.extract i (i + 1)) = [(nb s i : Int)] := by
  have hl : (bytesOf (s.extract i (i + 1))).length = 1 := by rw [bytesOf_length, ext_size s i 1 (by omega)]
  obtain ⟨a, ha⟩ := List.length_eq_one_iff.1 hl
  have h1 : rd (bytesOf (s.extract i (i + 1))) 0 = bt s i := by
    rw [rd_bytesOf]
    unfold bt
    have hz : (0 : Int).toNat < (s.extract i (i + 1)).size := by rw [ext_size s i 1 (by omega)]; decide
    rw [dif_pos hz, dif_pos (by simpa using h)]
    simp [ByteArray.getElem_extract]
  rw [ha] at h1 ⊢
  rw [← nb_bt, ← h1]
  rfl
theorem esc_len (s : ByteArray) {i c n : Nat} (h : i + n ≤ s.size) (hn : n ≤ 4) : (esc s i c n).length ≤ 6 := by
  unfold esc
  repeat' split
  all_goals first | simp | (rw [bytesOf_length, ext_size s i n h]; omega)
theorem nat_in {c : Nat} (h : c < 32 ∨ c = 38 ∨ c = 60 ∨ c = 62) : c ∈ List.range 32 ++ [38, 60, 62] := by
  simp only [List.mem_append, List.mem_range, List.mem_cons, List.not_mem_nil, or_false]
  exact h
theorem nat_in2 {c : Nat} (h : c = 8232 ∨ c = 8233) : c ∈ [8232, 8233] := by
  simp only [List.mem_cons, List.not_mem_nil, or_false]
  exact h
theorem nb_ext (s : ByteArray) (i j : Nat) : nb (s.extract i s.size) j = nb s (i + j) := by
  have e : bt (s.extract i s.size) ((j : Nat) : Int) = bt s ((i + j : Nat) : Int) := by
    unfold bt
    simp only [Int.toNat_natCast]
    by_cases h : i + j < s.size
    · rw [dif_pos (by rw [ByteArray.size_extract]; omega), dif_pos h]
      simp [ByteArray.getElem_extract]
    · rw [dif_neg (by rw [ByteArray.size_extract]; omega), dif_neg h]
  rw [nb_bt, nb_bt] at e
  omega
theorem decodeGo_ext (s : ByteArray) (i : Nat) (hi : i < s.size) : Lib.decodeGo (s.extract i s.size) = Utf8.decode s i := by
  have hz : (s.extract i s.size).size = s.size - i := by rw [ByteArray.size_extract]; omega
  unfold Lib.decodeGo
  rw [if_neg (by omega), Lib.decode_at, Lib.decode_at, hz]
  have e := fun j => nb_ext s i j
  unfold nb at e
  rw [e, e, e, e]
  rfl

/-- sjson writes a character. -/
theorem zz_step {s : ByteArray} (hs : s.size ≤ 140737488351232) {i c n : Nat} (hi : i < s.size) (hc : Chr s i c n) (x0 : List Int) (hx : x0.length + 6 < 140737488355328) {r : List Int}
    (h : Ev (fun k => sjson_zzMarshal.l0 k (x0 ++ esc s i c n) s ((i + n : Nat) : Int)) r) : Ev (fun k => sjson_zzMarshal.l0 k x0 s (i : Int)) r := by
  have hf := hc.fit
  have hp := hc.pos
  have ht := hc.top
  by_cases hb : nb s i < 128
  · obtain ⟨rfl, rfl⟩ := hc.low hb
    have fore : ∀ b : Bool, (nb s i = 34 ∨ nb s i = 92 ↔ b = true) → Ev (fun k => sjson_zzMarshal.j1 k x0 s ((i + 1 : Nat) : Int) (nb s i : Int) b) r → Ev (fun k => sjson_zzMarshal.l0 k x0 s (i : Int)) r := fun b hbb h1 => by
      refine Ev.step (fun k => ?_) h1
      simp only [sjson_zzMarshal.l0, nb_bt]
      rw [if_pos (by omega), if_pos (by omega), if_pos (by omega), w64 (by omega)]
      by_cases h34 : nb s i = 34
      · rw [if_pos (by omega)]
        rw [hbb.1 (.inl h34)]
        rfl
      · rw [if_neg (by omega)]
        by_cases h92 : nb s i = 92
        · rw [hbb.1 (.inr h92), h92]
          rfl
        · have e1 : b = false := by
            cases b with
            | false => rfl
            | true => have := hbb.2 rfl; omega
          rw [e1]
          congr 1
          simp
          omega
    by_cases h1 : nb s i = 34 ∨ nb s i = 92
    · refine fore true (by simpa using h1) (Ev.step (fun k => ?_) h)
      simp only [sjson_zzMarshal.j1, esc]
      rw [if_pos trivial, if_pos h1]
      simp only [Option.bind_some]
      rw [if_pos (by simp; omega)]
    refine fore false (by simpa using h1) (Ev.step (fun k => ?_) h)
    simp only [sjson_zzMarshal.j1, esc]
    rw [if_neg (by decide), if_neg h1]
    by_cases h8 : nb s i = 8
    · rw [if_pos (by omega), if_pos h8]
      simp only [Option.bind_some]
      rw [if_pos (by simp; omega)]
    rw [if_neg (by omega), if_neg h8]
    by_cases h12 : nb s i = 12
    · rw [if_pos (by omega), if_pos h12]
      simp only [Option.bind_some]
      rw [if_pos (by simp; omega)]
    rw [if_neg (by omega), if_neg h12]
    by_cases h10 : nb s i = 10
    · rw [if_pos (by omega), if_pos h10]
      simp only [Option.bind_some]
      rw [if_pos (by simp; omega)]
    rw [if_neg (by omega), if_neg h10]
    by_cases h13 : nb s i = 13
    · rw [if_pos (by omega), if_pos h13]
      simp only [Option.bind_some]
      rw [if_pos (by simp; omega)]
    rw [if_neg (by omega), if_neg h13]
    by_cases h9 : nb s i = 9
    · rw [if_pos (by omega), if_pos h9]
      simp only [Option.bind_some]
      rw [if_pos (by simp; omega)]
    rw [if_neg (by omega), if_neg h9]
    by_cases hh : nb s i < 32 ∨ nb s i = 38 ∨ nb s i = 60 ∨ nb s i = 62
    · have ha := and15 _ (nat_in hh)
      have hd : (nb s i : Int) / 16 = ((nb s i / 16 : Nat) : Int) := by omega
      rw [if_pos hh, ha, hd]
      have hm : nb s i % 16 < 16 := Nat.mod_lt _ (by decide)
      have ok : ∀ {f : List Int → Option (List Int)}, (if 0 ≤ ((nb s i / 16 : Nat) : Int) then (if ((nb s i / 16 : Nat) : Int) < 16 then (if 0 ≤ ((nb s i % 16 : Nat) : Int) then (if ((nb s i % 16 : Nat) : Int) < 16 then ((some ([92, 117, 48, 48, bt (⟨#[48, 49, 50, 51, 52, 53, 54, 55, 56, 57, 97, 98, 99, 100, 101, 102]⟩ : ByteArray) ((nb s i / 16 : Nat) : Int), bt (⟨#[48, 49, 50, 51, 52, 53, 54, 55, 56, 57, 97, 98, 99, 100, 101, 102]⟩ : ByteArray) ((nb s i % 16 : Nat) : Int)] : List Int)).bind f) else none) else none) else none) else none) = f [92, 117, 48, 48, hexd (nb s i / 16), hexd (nb s i % 16)] := by
        intro f
        rw [if_pos (by omega), if_pos (by omega), if_pos (by omega), if_pos (by omega)]
        rfl
      simp only [ok]
      have len : x0.length + [92, 117, 48, 48, hexd (nb s i / 16), hexd (nb s i % 16)].length < 140737488355328 := by simp; omega
      simp only [if_pos len]
      repeat' split
      all_goals first | rfl | (exfalso; omega)
    · rw [if_neg (by omega), if_neg (by omega), if_neg (by omega), if_neg (by omega), if_pos (by omega), if_neg hh, if_neg (by omega), ext_one s i hi]
  · have hh := hc.high (by omega)
    have hd : Lib.decodeGo (s.extract i s.size) = (c, n) := by rw [decodeGo_ext s i hi, hc.dec]
    have fore : Ev (fun k => sjson_zzMarshal.j2 k x0 s (i : Int) (c : Int) (n : Int) false) r → Ev (fun k => sjson_zzMarshal.l0 k x0 s (i : Int)) r := fun h1 => by
      refine Ev.step (fun k => ?_) h1
      simp only [sjson_zzMarshal.l0, nb_bt, utf8_DecodeRuneInString.f, Int.toNat_natCast, hd, Option.bind_some]
      rw [if_pos (by omega), if_pos (by omega), if_neg (by omega), if_pos (by omega)]
      split
      · congr 1
        simp
        omega
      · rfl
    refine fore (Ev.step (fun k => ?_) h)
    have e0 : wrap64 ((i : Int) + (n : Int)) = ((i + n : Nat) : Int) := by rw [w64 (by omega)]; omega
    by_cases h1 : c = 8232 ∨ c = 8233
    · have he : esc s i c n = [92, 117, 50, 48, 50, hexd (c % 16)] := by
        unfold esc
        rw [if_neg (by omega), if_neg (by omega), if_neg (by omega), if_neg (by omega), if_neg (by omega), if_neg (by omega), if_neg (by omega), if_pos h1]
      have ha := and15b _ (nat_in2 h1)
      have hm : c % 16 < 16 := Nat.mod_lt _ (by decide)
      have ok : ∀ {f : List Int → Option (List Int)}, (if 0 ≤ ((c % 16 : Nat) : Int) then (if ((c % 16 : Nat) : Int) < 16 then ((some ([92, 117, 50, 48, 50, bt (⟨#[48, 49, 50, 51, 52, 53, 54, 55, 56, 57, 97, 98, 99, 100, 101, 102]⟩ : ByteArray) ((c % 16 : Nat) : Int)] : List Int)).bind f) else none) else none) = f [92, 117, 50, 48, 50, hexd (c % 16)] := by
        intro f
        rw [if_pos (by omega), if_pos (by omega)]
        rfl
      have len : x0.length + [92, 117, 50, 48, 50, hexd (c % 16)].length < 140737488355328 := by simp; omega
      rw [he]
      simp only [sjson_zzMarshal.j2, e0, ha, ok, if_pos len]
      rw [if_neg (by decide)]
      rcases h1 with e | e
      · rw [if_pos (by omega)]
      · rw [if_neg (by omega), if_pos (by omega)]
    · have he : esc s i c n = bytesOf (s.extract i (i + n)) := by
        unfold esc
        rw [if_neg (by omega), if_neg (by omega), if_neg (by omega), if_neg (by omega), if_neg (by omega), if_neg (by omega), if_neg (by omega), if_neg h1]
      have len : x0.length + (s.extract i (i + n)).size < 140737488355328 := by rw [ext_size s i n hf]; omega
      rw [he]
      simp only [sjson_zzMarshal.j2, e0, Int.toNat_natCast]
      rw [if_neg (by decide), if_neg (by omega), if_neg (by omega), if_pos (by omega), if_pos (by omega), if_pos (by omega), if_pos len]
theorem wr_plain {s : ByteArray} {i c n : Nat} (hi : i < s.size) (he : Ev (fun k => spec_Character.f k s i) ((c : Int), (n : Int), true)) (x0 : List Int) {r : ByteArray} (x8 : Int) (ok : Bool) (hsh : spec_shortOf.f (nb s i : Int) = some (x8, ok)) (hok : ok = true → c = 47) (h : Ev (fun k => spec_Written.j1 k s x0 (i : Int) (c : Int) (n : Int) x8 false) r) : Ev (fun k => spec_Written.l0 k s x0 (i : Int)) r := by
  refine Ev.step (f := fun k => (spec_Character.f k s i).bind fun bt107 => (if 0 ≤ (i : Int) then ((spec_shortOf.f (bt s i)).bind fun bt110 => (if bt107.2.2 = true then (if bt110.2 = true then (spec_Written.j1 k s x0 i bt107.1 bt107.2.1 bt110.1 (bt107.1 != 47)) else (spec_Written.j1 k s x0 i bt107.1 bt107.2.1 bt110.1 false)) else ((spec_appendUTF8.f k x0 65533).bind fun t131 => (spec_Written.l0 k s t131 (wrap64 (i + bt107.2.1)))))) else (none))) (fun k => ?_) (Ev.bind he (Ev.congr (fun k => ?_) h))
  · simp only [spec_Written.l0]
    rw [if_pos (by omega)]
  · simp only [nb_bt, hsh, Option.bind_some]
    rw [if_pos (by omega), if_pos trivial]
    split
    · rename_i e
      have := hok e
      subst this
      rfl
    · rfl
theorem wr_short {s : ByteArray} (hs : s.size ≤ 140737488351232) {i c n : Nat} (hi : i < s.size) (hc : Chr s i c n) (he : Ev (fun k => spec_Character.f k s i) ((c : Int), (n : Int), true)) (x0 : List Int) (hx : x0.length + 6 < 140737488355328) {r : ByteArray} (x8 : Int) (hsh : spec_shortOf.f (nb s i : Int) = some (x8, true)) (h47 : c ≠ 47) (h : Ev (fun k => spec_Written.l0 k s (x0 ++ [92, x8]) ((i + n : Nat) : Int)) r) : Ev (fun k => spec_Written.l0 k s x0 (i : Int)) r := by
  refine Ev.step (f := fun k => (spec_Character.f k s i).bind fun bt107 => (if 0 ≤ (i : Int) then ((spec_shortOf.f (bt s i)).bind fun bt110 => (if bt107.2.2 = true then (if bt110.2 = true then (spec_Written.j1 k s x0 i bt107.1 bt107.2.1 bt110.1 (bt107.1 != 47)) else (spec_Written.j1 k s x0 i bt107.1 bt107.2.1 bt110.1 false)) else ((spec_appendUTF8.f k x0 65533).bind fun t131 => (spec_Written.l0 k s t131 (wrap64 (i + bt107.2.1)))))) else (none))) (fun k => ?_) (Ev.bind he (Ev.congr (f := fun k => spec_Written.j1 k s x0 (i : Int) (c : Int) (n : Int) x8 true) (fun k => ?_) (Ev.step (fun k => ?_) h)))
  · simp only [spec_Written.l0]
    rw [if_pos (by omega)]
  · simp only [nb_bt, hsh, Option.bind_some]
    rw [if_pos (by omega), if_pos trivial, if_pos trivial]
    congr 1
    simp
    omega
  · have hf := hc.fit
    simp only [spec_Written.j1, Option.bind_some]
    rw [if_pos trivial, if_pos (by simp; omega), w64 (by omega)]
    congr 1
theorem wr_raw {s : ByteArray} (hs : s.size ≤ 140737488351232) {i c n : Nat} (hc : Chr s i c n) (x0 : List Int) (hx : x0.length + 6 < 140737488355328) {r : ByteArray} (x8 : Int) (hn : ¬ (c < 32 ∨ c = 38 ∨ c = 60 ∨ c = 62) ∧ ¬ (c = 8232 ∨ c = 8233)) (h : Ev (fun k => spec_Written.l0 k s (x0 ++ bytesOf (s.extract i (i + n))) ((i + n : Nat) : Int)) r) : Ev (fun k => spec_Written.j1 k s x0 (i : Int) (c : Int) (n : Int) x8 false) r := by
  have hf := hc.fit
  have ht := hc.top
  refine Ev.step (f := fun k => spec_Written.j2 k s x0 (i : Int) (c : Int) (n : Int) false) (fun k => ?_) (Ev.step (fun k => ?_) h)
  · simp only [spec_Written.j1]
    rw [if_neg (by decide), if_neg (by omega), if_neg (by omega), if_neg (by omega), if_neg (by omega), if_neg (by omega)]
    congr 1
    simp
    omega
  · have e0 : wrap64 ((i : Int) + (n : Int)) = ((i + n : Nat) : Int) := by rw [w64 (by omega)]; omega
    have len : x0.length + (s.extract i (i + n)).size < 140737488355328 := by rw [ext_size s i n hf]; omega
    simp only [spec_Written.j2, e0, Int.toNat_natCast]
    rw [if_neg (by decide), if_pos (by omega), if_pos (by omega), if_pos (by omega), if_pos len]
theorem l1_step {s : ByteArray} {i c n : Nat} {r : ByteArray} (m : Nat) (hm : m ≤ 12) (y : List Int) (t : Int) (hd : D (c : Int) (m : Int) = some t) (hy : y.length + 1 < 140737488355328) (h : Ev (fun k => spec_Written.l1 k s (y ++ [t]) (i : Int) (c : Int) (n : Int) ((m : Int) - 4)) r) : Ev (fun k => spec_Written.l1 k s y (i : Int) (c : Int) (n : Int) (m : Int)) r := by
  have hw : IntKind.u64.wrap (m : Int) = (m : Int) := by simp [IntKind.wrap, IntKind.bits, IntKind.signed]; omega
  refine Ev.step (fun k => ?_) h
  unfold D at hd
  simp only [spec_Written.l1, hd, Option.bind_some]
  rw [if_pos (by omega), hw, if_pos (by omega), if_pos (by omega), w64 (by omega)]
theorem wr_hex {s : ByteArray} (hs : s.size ≤ 140737488351232) {i c n : Nat} (hc : Chr s i c n) (x0 : List Int) (hx : x0.length + 6 < 140737488355328) {r : ByteArray} (x8 d3 d2 d1 d0 : Int) (hn : c < 32 ∨ c = 38 ∨ c = 60 ∨ c = 62 ∨ c = 8232 ∨ c = 8233) (hd : D (c : Int) 12 = some d3 ∧ D (c : Int) 8 = some d2 ∧ D (c : Int) 4 = some d1 ∧ D (c : Int) 0 = some d0)
    (h : Ev (fun k => spec_Written.l0 k s (x0 ++ [92, 117, d3, d2, d1, d0]) ((i + n : Nat) : Int)) r) : Ev (fun k => spec_Written.j1 k s x0 (i : Int) (c : Int) (n : Int) x8 false) r := by
  have hf := hc.fit
  have ht := hc.top
  refine Ev.step (f := fun k => spec_Written.j2 k s x0 (i : Int) (c : Int) (n : Int) true) (fun k => ?_) (Ev.step (f := fun k => spec_Written.l1 k s (x0 ++ [92, 117]) (i : Int) (c : Int) (n : Int) ((12 : Nat) : Int)) (fun k => ?_) ?_)
  · simp only [spec_Written.j1]
    rw [if_neg (by decide)]
    by_cases h1 : c < 32
    · rw [if_pos (by omega)]
    rw [if_neg (by omega)]
    by_cases h2 : c = 60
    · rw [if_pos (by omega)]
    rw [if_neg (by omega)]
    by_cases h3 : c = 62
    · rw [if_pos (by omega)]
    rw [if_neg (by omega)]
    by_cases h4 : c = 38
    · rw [if_pos (by omega)]
    rw [if_neg (by omega)]
    by_cases h5 : c = 8232
    · rw [if_pos (by omega)]
    rw [if_neg (by omega)]
    congr 1
    simp
    omega
  · simp only [spec_Written.j2, Option.bind_some]
    rw [if_pos trivial, if_pos (by simp; omega)]
    rfl
  · refine l1_step 12 (by omega) _ d3 hd.1 (by simp; omega) (l1_step 8 (by omega) _ d2 hd.2.1 (by simp; omega) (l1_step 4 (by omega) _ d1 hd.2.2.1 (by simp; omega) (l1_step 0 (by omega) _ d0 hd.2.2.2 (by simp; omega) (Ev.step (fun k => ?_) h))))
    simp only [spec_Written.l1]
    rw [if_neg (by decide), w64 (by omega)]
    congr 1
    simp
/-- The specification writes a character. -/
theorem wr_step {s : ByteArray} (hs : s.size ≤ 140737488351232) {i c n : Nat} (hi : i < s.size) (hc : Chr s i c n) (he : Ev (fun k => spec_Character.f k s i) ((c : Int), (n : Int), true)) (x0 : List Int) (hx : x0.length + 6 < 140737488355328) {r : ByteArray} (h : Ev (fun k => spec_Written.l0 k s (x0 ++ esc s i c n) ((i + n : Nat) : Int)) r) : Ev (fun k => spec_Written.l0 k s x0 (i : Int)) r := by
  have hb := hc.low
  have hh := hc.high
  have hcb : c < 128 → c = nb s i := fun h => by
    by_cases h1 : nb s i < 128
    · exact (hb h1).1
    · have := hh (by omega)
      omega
  have sh : c = nb s i ∨ (128 ≤ c ∧ 128 ≤ nb s i) := by
    by_cases h1 : nb s i < 128
    · exact .inl (hb h1).1
    · exact .inr ⟨(hh (by omega)).1, by omega⟩
  by_cases h1 : c = 34 ∨ c = 92
  · have e : esc s i c n = [92, (c : Int)] := by unfold esc; rw [if_pos h1]
    rw [e] at h
    refine wr_short hs hi hc he x0 hx c ?_ (by omega) h
    rw [← hcb (by omega)]
    rcases h1 with e | e
    · subst e; rfl
    · subst e; rfl
  have short : ∀ (a : Nat) (l : Int), c = a → a < 32 → spec_shortOf.f (a : Int) = some (l, true) → esc s i c n = [92, l] → Ev (fun k => spec_Written.l0 k s x0 (i : Int)) r := fun a l ha h32 h2 h3 => by
    rw [h3] at h
    refine wr_short hs hi hc he x0 hx l ?_ (by omega) h
    rw [← hcb (by omega), ha]
    exact h2
  by_cases h8 : c = 8
  · exact short 8 98 h8 (by omega) rfl (by subst h8; rfl)
  by_cases h12 : c = 12
  · exact short 12 102 h12 (by omega) rfl (by subst h12; rfl)
  by_cases h10 : c = 10
  · exact short 10 110 h10 (by omega) rfl (by subst h10; rfl)
  by_cases h13 : c = 13
  · exact short 13 114 h13 (by omega) rfl (by subst h13; rfl)
  by_cases h9 : c = 9
  · exact short 9 116 h9 (by omega) rfl (by subst h9; rfl)
  have plain : ∀ x8 : Int, Ev (fun k => spec_Written.j1 k s x0 (i : Int) (c : Int) (n : Int) 0 false) r → Ev (fun k => spec_Written.j1 k s x0 (i : Int) (c : Int) (n : Int) 47 false) r → Ev (fun k => spec_Written.l0 k s x0 (i : Int)) r := fun _ h2 h3 => by
    by_cases h47 : nb s i = 47
    · refine wr_plain hi he x0 47 true (by rw [h47]; rfl) (fun _ => by omega) h3
    · refine wr_plain hi he x0 0 false ?_ (fun h => by simp at h) h2
      unfold spec_shortOf.f
      rw [if_neg (by omega), if_neg (by omega), if_neg (by omega), if_neg (by omega), if_neg (by omega), if_neg (by omega), if_neg (by omega), if_neg (by omega)]
  by_cases hx2 : c < 32 ∨ c = 38 ∨ c = 60 ∨ c = 62
  · have e : esc s i c n = [92, 117, 48, 48, hexd (c / 16), hexd (c % 16)] := by
      unfold esc
      rw [if_neg h1, if_neg h8, if_neg h12, if_neg h10, if_neg h13, if_neg h9, if_pos hx2]
    rw [e] at h
    exact plain 0 (wr_hex hs hc x0 hx 0 _ _ _ _ (by omega) (digs c (nat_in hx2)) h) (wr_hex hs hc x0 hx 47 _ _ _ _ (by omega) (digs c (nat_in hx2)) h)
  by_cases hx3 : c = 8232 ∨ c = 8233
  · have e : esc s i c n = [92, 117, 50, 48, 50, hexd (c % 16)] := by
      unfold esc
      rw [if_neg h1, if_neg h8, if_neg h12, if_neg h10, if_neg h13, if_neg h9, if_neg hx2, if_pos hx3]
    rw [e] at h
    exact plain 0 (wr_hex hs hc x0 hx 0 _ _ _ _ (by omega) (digs2 c (nat_in2 hx3)) h) (wr_hex hs hc x0 hx 47 _ _ _ _ (by omega) (digs2 c (nat_in2 hx3)) h)
  have e : esc s i c n = bytesOf (s.extract i (i + n)) := by
    unfold esc
    rw [if_neg h1, if_neg h8, if_neg h12, if_neg h10, if_neg h13, if_neg h9, if_neg hx2, if_neg hx3]
  rw [e] at h
  exact plain 0 (wr_raw hs hc x0 hx 0 ⟨hx2, hx3⟩ h) (wr_raw hs hc x0 hx 47 ⟨hx2, hx3⟩ h)
/-- Both write the same. -/
theorem both {s : ByteArray} (hs : s.size ≤ 4096) {i : Nat} (hv : Val s i) : ∀ x0 : List Int, x0.length ≤ 1 + 6 * i → ∃ L, Ev (fun k => sjson_zzMarshal.l0 k x0 s (i : Int)) L ∧ Ev (fun k => spec_Written.l0 k s x0 (i : Int)) (strOfNums L) := by
  induction hv with
  | done =>
    intro x0 hx
    refine ⟨x0 ++ [34], Ev.step (f := fun _ => some _) (fun k => ?_) (Ev.now _), Ev.step (f := fun _ => some _) (fun k => ?_) (Ev.now _)⟩
    · simp only [sjson_zzMarshal.l0]
      rw [if_neg (by omega), if_pos (by omega)]
    · simp only [spec_Written.l0]
      rw [if_neg (by omega), if_pos (by omega)]
  | @step i c n hi hc he hv ih =>
    intro x0 hx
    have hf := hc.fit
    have hp := hc.pos
    have hl := esc_len s (c := c) hf hc.top.2
    obtain ⟨L, h1, h2⟩ := ih (x0 ++ esc s i c n) (by rw [List.length_append]; omega)
    exact ⟨L, zz_step (by omega) hi hc x0 (by omega) h1, wr_step (by omega) hi hc he x0 (by omega) h2⟩
theorem nums_cat (a b : ByteArray) : numsOf (a ++ b) = numsOf a ++ numsOf b := by simp [numsOf, ByteArray.data_append]
/-- What sjson makes of a text. -/
theorem impl_ev {s : ByteArray} {L : List Int} (h : Ev (fun k => sjson_appendStringify.f k ([] : List Int) s) L) : Ev (fun k => impl_SjString.f k s) (strOfNums L) :=
  Ev.bind (Ev.bind h (Ev.now _)) (Ev.now _)
theorem str_true {s : ByteArray} {L : List Int} (hm : Ev (fun k => sjson_mustMarshalString.l0 k s ((0 : Nat) : Int)) true) (hz : Ev (fun k => sjson_zzMarshal.f k ([] : List Int) s) L) : Ev (fun k => sjson_appendStringify.f k ([] : List Int) s) L := by
  unfold sjson_appendStringify.f
  refine Ev.bind hm (Ev.congr (fun k => if_pos rfl) (Ev.bind hz (Ev.now _)))
theorem str_false {s : ByteArray} (hs : s.size ≤ 4096) (hm : Ev (fun k => sjson_mustMarshalString.l0 k s ((0 : Nat) : Int)) false) : Ev (fun k => sjson_appendStringify.f k ([] : List Int) s) ([34] ++ bytesOf s ++ [34]) := by
  unfold sjson_appendStringify.f
  refine Ev.bind hm (Ev.congr (f := fun _ => some ([34] ++ bytesOf s ++ [34])) (fun k => ?_) (Ev.now _))
  have hl : (bytesOf s).length = s.size := bytesOf_length s
  rw [if_neg (by decide), if_pos (by simp)]
  change (if ([34] : List Int).length + s.size < 140737488355328 then _ else none) = _
  rw [if_pos (by simp; omega)]
  change (if ([34] ++ bytesOf s : List Int).length < 140737488355328 then _ else none) = _
  rw [if_pos (by simp; omega)]
  rfl
/-- The law's own walk over the text's bytes. -/
theorem law_l0 {s : ByteArray} (hs : s.size ≤ 4096) (hv : Val s 0) : ∀ d i, s.size - i = d → i ≤ s.size → (∀ j, j < i → plain (nb s j)) → Ev (fun k => laws_FnSjStringExact.l0 k s (i : Int)) true
  | 0, i, hd, hi, hp => by
    have hm := must_false (s := s) (by omega) s.size 0 (by omega) (by omega) fun j _ hj => hp j (by omega)
    have ha := impl_ev (str_false hs hm)
    have e : strOfNums ([34] ++ bytesOf s ++ [34]) = ((⟨#[34]⟩ : ByteArray) ++ s) ++ (⟨#[34]⟩ : ByteArray) := by
      rw [← strOfNums_numsOf (((⟨#[34]⟩ : ByteArray) ++ s) ++ (⟨#[34]⟩ : ByteArray)), nums_cat, nums_cat]
      rfl
    rw [e] at ha
    refine Ev.step (f := fun k => (impl_SjString.f k s).bind fun t102 => some (t102.toList == (((⟨#[34]⟩ : ByteArray) ++ s) ++ (⟨#[34]⟩ : ByteArray)).toList)) (fun k => ?_) (Ev.bind ha (Ev_same (Ev.now _) (by simp)))
    have e1 : ((⟨#[34]⟩ : ByteArray) ++ s).size + 1 ≤ 9223372036854775807 := by
      rw [ByteArray.size_append]
      change 1 + s.size + 1 ≤ _
      omega
    simp only [laws_FnSjStringExact.l0]
    rw [if_neg (by omega)]
    simp only [if_pos e1, if_pos (show 1 + s.size ≤ 9223372036854775807 by omega)]
  | d + 1, i, hd, hi, hp => by
    by_cases h : plain (nb s i)
    · have ih := law_l0 hs hv d (i + 1) (by omega) (by omega) fun j hj => by
        rcases Nat.lt_or_ge j i with e | e
        · exact hp j e
        · have : j = i := by omega
          subst this
          exact h
      refine Ev.step (f := fun k => laws_FnSjStringExact.j2 k s (i : Int) false) (fun k => ?_) (Ev.step (fun k => ?_) ih)
      · unfold plain at h
        simp only [laws_FnSjStringExact.l0, nb_bt]
        rw [if_pos (by omega), if_pos (by omega), if_neg (by omega), if_neg (by omega), if_neg (by omega)]
        congr 1
        simp
        omega
      · simp only [laws_FnSjStringExact.j2]
        rw [if_neg (by decide), w64 (by omega)]
        congr 1
    · have hm := must_true (s := s) (by omega) s.size 0 (by omega) (by omega) ⟨i, by omega, by omega, h⟩
      obtain ⟨L, h1, h2⟩ := both hs hv [34] (by simp)
      have hz : Ev (fun k => sjson_zzMarshal.f k ([] : List Int) s) L := Ev.congr (fun k => by unfold sjson_zzMarshal.f; rw [if_pos (by simp)]; rfl) h1
      have ha := impl_ev (str_true hm hz)
      refine Ev.step (f := fun k => laws_FnSjStringExact.j2 k s (i : Int) true) (fun k => ?_) (Ev.step (f := fun k => (impl_SjString.f k s).bind fun t103 => ((spec_Written.f k s).bind fun t104 => (some (t103.toList == t104.toList)))) (fun k => ?_) (Ev.bind ha (Ev.bind (Ev.congr (fun k => rfl) h2) (Ev_same (Ev.now _) (by simp)))))
      · unfold plain at h
        simp only [laws_FnSjStringExact.l0, nb_bt]
        rw [if_pos (by omega), if_pos (by omega)]
        repeat' split
        all_goals first | rfl | (exfalso; omega) | skip
        congr 1
        simp
        omega
      · simp only [laws_FnSjStringExact.j2]
        rw [if_pos trivial]
theorem FnSjStringExact : laws_FnSjStringExact.Pure := by
  intro s _
  refine Ev.rounds (g := fun k => laws_FnSjStringExact.f k s) ?_
  by_cases h1 : (s.size : Int) > 2147483647
  · refine Ev.congr (f := fun _ => some true) (fun k => ?_) (Ev.now _)
    unfold laws_FnSjStringExact.f
    rw [if_pos h1]
  by_cases h2 : (s.size : Int) > 4096
  · refine Ev.congr (f := fun k => laws_FnSjStringExact.j0 k s true) (fun k => ?_) (Ev.step (f := fun _ => some true) (fun k => ?_) (Ev.now _))
    · unfold laws_FnSjStringExact.f
      rw [if_neg h1, if_pos h2]
    · simp only [laws_FnSjStringExact.j0]
      rw [if_pos trivial]
  obtain ⟨t, h3, h4⟩ := utf8_val (s := s) (by omega) s.size 0 (by omega) (by omega)
  refine Ev.congr (f := fun k => (spec_UTF8.l0 k s ((0 : Nat) : Int)).bind fun t101 => (laws_FnSjStringExact.j0 k s (!t101))) (fun k => ?_) (Ev.bind h3 ?_)
  · unfold laws_FnSjStringExact.f
    rw [if_neg h1, if_neg h2]
    rfl
  · cases t with
    | false =>
      refine Ev.step (f := fun _ => some true) (fun k => ?_) (Ev.now _)
      simp only [laws_FnSjStringExact.j0]
      rw [if_pos (by decide)]
    | true =>
      refine Ev.step (fun k => ?_) (law_l0 (by omega) (h4 rfl) s.size 0 (by omega) (by omega) fun j hj => absurd hj (Nat.not_lt_zero j))
      simp only [laws_FnSjStringExact.j0]
      rw [if_neg (by decide)]
      rfl
end Go.Proofs.YtegbajfmhkmolaaDoor.Pure
