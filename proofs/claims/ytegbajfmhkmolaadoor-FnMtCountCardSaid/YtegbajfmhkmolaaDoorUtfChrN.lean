/- Texts in UTF-8: the characters that package spec finds in them. -/
import Derived.Test.YtegbajfmhkmolaaDoorNxf29
import Derived.Lib.DecodeN
namespace Go.Proofs.YtegbajfmhkmolaaDoor.U
open Go.RowKit Go.Proofs.YtegbajfmhkmolaaDoor.N Go.Proofs.YtegbajfmhkmolaaDoorW.PrintWords Go.Proofs.YtegbajfmhkmolaaDoorW.PrintLast

theorem w64 {x : Int} (h : -9223372036854775808 ≤ x ∧ x ≤ 9223372036854775807) : wrap64 x = x := by
  unfold wrap64
  omega
/-- The byte at a place, as a natural number. -/
def nb (s : ByteArray) (i : Nat) : Nat := (s.get! i).toNat
theorem nb_bt (s : ByteArray) (i : Nat) : bt s (i : Int) = (nb s i : Int) := by
  unfold bt nb
  split
  · rename_i h
    have h' : i < s.size := by simpa using h
    have e : s.get! i = s[i]'h' := by cases s with | mk d => exact getElem!_pos d i h'
    rw [e]
    simp
  · rename_i h
    have h' : ¬ i < s.size := by simpa using h
    have e : s.get! i = default := by cases s with | mk d => exact getElem!_neg d i h'
    rw [e]
    rfl
theorem nb_lt (s : ByteArray) (i : Nat) : nb s i < 256 := (s.get! i).toNat_lt
theorem Ev_same {α : Type} {g : Nat → Option α} {r r' : α} (h : Ev g r) (e : r = r') : Ev g r' := e ▸ h

/-- What a character at a place is: its number, its width; well written there. -/
structure Chr (s : ByteArray) (i c n : Nat) : Prop where
  dec : Utf8.decode s i = (c, n)
  pos : 1 ≤ n
  fit : i + n ≤ s.size
  low : nb s i < 128 → c = nb s i ∧ n = 1
  high : 128 ≤ nb s i → 128 ≤ c ∧ 2 ≤ n
  top : c ≤ 1114111 ∧ n ≤ 4

/-- One more byte of a character. -/
theorem l0_more {s : ByteArray} (hs : s.size ≤ 140737488351232) {i : Nat} (hi : i < s.size) (x7 x8 x9 x10 : Nat) (hx : x10 ≤ x8) (h7 : x7 ≤ 1000000) (hj : i + x10 < s.size) (h8 : x8 ≤ 3) {r : Int × Int × Bool}
    (hb : 128 ≤ nb s (i + x10) ∧ nb s (i + x10) ≤ 191)
    (h : Ev (fun k => spec_Character.l0 k s i ((x7 * 64 + (nb s (i + x10) - 128) : Nat) : Int) x8 x9 ((x10 + 1 : Nat) : Int)) r) :
    Ev (fun k => spec_Character.l0 k s i x7 x8 x9 (x10 : Int)) r := by
  refine Ev.step (fun k => ?_) h
  have e1 : wrap64 ((i : Int) + (x10 : Int)) = ((i + x10 : Nat) : Int) := by rw [w64 (by omega)]; omega
  have e2 : wrap64 (bt s ((i + x10 : Nat) : Int)) = (nb s (i + x10) : Int) := by rw [nb_bt, w64 (by omega)]
  simp only [spec_Character.l0, e1, e2]
  rw [if_pos (by omega), if_pos (by omega), if_pos (by omega), if_neg (by omega), if_neg (by omega)]
  congr 1
  · rw [w64 (x := (x7 : Int) * 64) (by omega), w64 (x := (x7 : Int) * 64 + _) (by omega), w64 (by omega)]
    omega
  · rw [w64 (by omega)]
    omega
/-- A byte that is none of a character. -/
theorem l0_none {s : ByteArray} (hs : s.size ≤ 140737488351232) {i : Nat} (hi : i < s.size) (x7 x8 x9 x10 : Nat) (hx : x10 ≤ x8) (hj : i + x10 < s.size) (h8 : x8 ≤ 3) (hb : ¬ (128 ≤ nb s (i + x10) ∧ nb s (i + x10) ≤ 191)) :
    Ev (fun k => spec_Character.l0 k s i x7 x8 x9 (x10 : Int)) (65533, 1, false) := by
  refine Ev.step (f := fun _ => some (65533, 1, false)) (fun k => ?_) (Ev.now _)
  have e1 : wrap64 ((i : Int) + (x10 : Int)) = ((i + x10 : Nat) : Int) := by rw [w64 (by omega)]; omega
  have e2 : wrap64 (bt s ((i + x10 : Nat) : Int)) = (nb s (i + x10) : Int) := by rw [nb_bt, w64 (by have := nb_lt s (i + x10); omega)]
  simp only [spec_Character.l0, e1, e2]
  rw [if_pos (by omega), if_pos (by omega), if_pos (by omega)]
  by_cases h : nb s (i + x10) < 128
  · rw [if_pos (by omega)]
  · rw [if_neg (by omega), if_pos (by omega)]
/-- The end of a character. -/
theorem l0_end {s : ByteArray} (_hs : s.size ≤ 140737488351232) {i : Nat} (_hi : i < s.size) (x7 x8 x9 : Nat) (h8 : x8 ≤ 3) :
    Ev (fun k => spec_Character.l0 k s i x7 x8 x9 ((x8 + 1 : Nat) : Int)) (if x9 ≤ x7 ∧ x7 ≤ 1114111 ∧ ¬ (55296 ≤ x7 ∧ x7 ≤ 57343) then ((x7 : Int), ((x8 + 1 : Nat) : Int), true) else (65533, 1, false)) := by
  refine Ev.step (f := fun _ => some _) (fun k => ?_) (Ev.now _)
  have eR : ¬ (x9 ≤ x7 ∧ x7 ≤ 1114111 ∧ ¬ (55296 ≤ x7 ∧ x7 ≤ 57343)) → (if x9 ≤ x7 ∧ x7 ≤ 1114111 ∧ ¬ (55296 ≤ x7 ∧ x7 ≤ 57343) then ((x7 : Int), ((x8 + 1 : Nat) : Int), true) else (65533, 1, false)) = (65533, 1, false) := fun h => if_neg h
  simp only [spec_Character.l0, spec_high.f, spec_low.f]
  rw [if_neg (by omega)]
  by_cases h1 : x7 < x9
  · rw [if_pos (by omega), if_neg (by omega)]
  rw [if_neg (by omega)]
  by_cases h2 : x7 > 1114111
  · rw [if_pos (by omega), if_neg (by omega)]
  rw [if_neg (by omega), w64 (x := (x8 : Int) + 1) (by omega)]
  by_cases h3 : 55296 ≤ x7 ∧ x7 ≤ 56319
  · rw [eR (by omega), if_pos (by omega)]
    simp only [Option.bind_some]
    rw [if_pos (by simp; omega)]
  have e3 : (if 55296 ≤ (x7 : Int) then some (decide ((x7 : Int) ≤ 56319)) else some false) = some false := by
    split
    · congr 1
      simp
      omega
    · rfl
  rw [e3]
  simp only [Option.bind_some]
  rw [if_neg (by decide)]
  by_cases h4 : 56320 ≤ x7 ∧ x7 ≤ 57343
  · rw [eR (by omega), if_pos (by omega)]
    simp only [Option.bind_some]
    rw [if_pos (by simp; omega)]
  have e4 : (if 56320 ≤ (x7 : Int) then some (decide ((x7 : Int) ≤ 57343)) else some false) = some false := by
    split
    · congr 1
      simp
      omega
    · rfl
  rw [e4]
  simp only [Option.bind_some]
  rw [if_neg (by decide), if_pos (by omega)]
  simp
/-- What Character answers: not well written, or a character. -/
def Ans (s : ByteArray) (i : Nat) (r : Int × Int × Bool) : Prop := r = (65533, 1, false) ∨ ∃ c n : Nat, r = ((c : Int), (n : Int), true) ∧ Chr s i c n
theorem j2_two {s : ByteArray} (hs : s.size ≤ 140737488351232) {i : Nat} (hi : i < s.size) (h0 : 194 ≤ nb s i ∧ nb s i ≤ 223) : ∃ r, Ev (fun k => spec_Character.j2 k s i ((nb s i - 192 : Nat) : Int) 1 128) r ∧ Ans s i r := by
  by_cases hn : s.size ≤ i + 1
  · refine ⟨_, Ev.step (f := fun _ => some (65533, 1, false)) (fun k => ?_) (Ev.now _), .inl rfl⟩
    simp only [spec_Character.j2]
    rw [if_pos (by rw [w64 (by omega)]; omega)]
  have st : ∀ {r}, Ev (fun k => spec_Character.l0 k s i ((nb s i - 192 : Nat) : Int) ((1 : Nat) : Int) ((128 : Nat) : Int) ((1 : Nat) : Int)) r → Ev (fun k => spec_Character.j2 k s i ((nb s i - 192 : Nat) : Int) 1 128) r := fun h => by
    refine Ev.step (fun k => ?_) h
    simp only [spec_Character.j2]
    rw [if_neg (by rw [w64 (by omega)]; omega)]
    rfl
  by_cases h1 : 128 ≤ nb s (i + 1) ∧ nb s (i + 1) ≤ 191
  · refine ⟨_, st (l0_more hs hi _ 1 128 1 (by omega) (by omega) (by omega) (by omega) h1 (l0_end hs hi _ 1 128 (by omega))), .inr ⟨(nb s i - 192) * 64 + (nb s (i + 1) - 128), 2, ?_, ?_, by omega, by omega, fun h => by omega, fun _ => by omega, by omega⟩⟩
    · rw [if_pos (by omega)]
    · rw [Lib.decode_at]
      change Lib.decodeN (s.size - i) (nb s i) (nb s (i + 1)) (nb s (i + 2)) (nb s (i + 3)) = _
      unfold Lib.decodeN
      rw [if_neg (by omega), if_pos (by omega), if_pos (by omega)]
      refine congrArg (fun x => (x, 2)) ?_
      omega
  · exact ⟨_, st (l0_none hs hi _ 1 128 1 (by omega) (by omega) (by omega) h1), .inl rfl⟩
theorem j2_three {s : ByteArray} (hs : s.size ≤ 140737488351232) {i : Nat} (hi : i < s.size) (h0 : 224 ≤ nb s i ∧ nb s i ≤ 239) : ∃ r, Ev (fun k => spec_Character.j2 k s i ((nb s i - 224 : Nat) : Int) 2 2048) r ∧ Ans s i r := by
  by_cases hn : s.size ≤ i + 2
  · refine ⟨_, Ev.step (f := fun _ => some (65533, 1, false)) (fun k => ?_) (Ev.now _), .inl rfl⟩
    simp only [spec_Character.j2]
    rw [if_pos (by rw [w64 (by omega)]; omega)]
  have st : ∀ {r}, Ev (fun k => spec_Character.l0 k s i ((nb s i - 224 : Nat) : Int) ((2 : Nat) : Int) ((2048 : Nat) : Int) ((1 : Nat) : Int)) r → Ev (fun k => spec_Character.j2 k s i ((nb s i - 224 : Nat) : Int) 2 2048) r := fun h => by
    refine Ev.step (fun k => ?_) h
    simp only [spec_Character.j2]
    rw [if_neg (by rw [w64 (by omega)]; omega)]
    rfl
  by_cases h1 : 128 ≤ nb s (i + 1) ∧ nb s (i + 1) ≤ 191
  · by_cases h2 : 128 ≤ nb s (i + 2) ∧ nb s (i + 2) ≤ 191
    · have hE := st (l0_more hs hi _ 2 2048 1 (by omega) (by omega) (by omega) (by omega) h1 (l0_more hs hi _ 2 2048 2 (by omega) (by omega) (by omega) (by omega) h2 (l0_end hs hi _ 2 2048 (by omega))))
      refine ⟨_, hE, ?_⟩
      by_cases hx : 2048 ≤ ((nb s i - 224) * 64 + (nb s (i + 1) - 128)) * 64 + (nb s (i + 2) - 128) ∧ ((nb s i - 224) * 64 + (nb s (i + 1) - 128)) * 64 + (nb s (i + 2) - 128) ≤ 1114111 ∧ ¬ (55296 ≤ ((nb s i - 224) * 64 + (nb s (i + 1) - 128)) * 64 + (nb s (i + 2) - 128) ∧ ((nb s i - 224) * 64 + (nb s (i + 1) - 128)) * 64 + (nb s (i + 2) - 128) ≤ 57343)
      · refine .inr ⟨((nb s i - 224) * 64 + (nb s (i + 1) - 128)) * 64 + (nb s (i + 2) - 128), 3, by rw [if_pos hx], ?_, by omega, by omega, fun h => by omega, fun _ => by omega, by omega⟩
        rw [Lib.decode_at]
        change Lib.decodeN (s.size - i) (nb s i) (nb s (i + 1)) (nb s (i + 2)) (nb s (i + 3)) = _
        unfold Lib.decodeN
        rw [if_neg (by omega), if_neg (by omega), if_pos (by omega), if_pos (by omega)]
        refine congrArg (fun x => (x, 3)) ?_
        omega
      · exact .inl (if_neg hx)
    · exact ⟨_, st (l0_more hs hi _ 2 2048 1 (by omega) (by omega) (by omega) (by omega) h1 (l0_none hs hi _ 2 2048 2 (by omega) (by omega) (by omega) h2)), .inl rfl⟩
  · exact ⟨_, st (l0_none hs hi _ 2 2048 1 (by omega) (by omega) (by omega) h1), .inl rfl⟩
theorem j2_four {s : ByteArray} (hs : s.size ≤ 140737488351232) {i : Nat} (hi : i < s.size) (h0 : 240 ≤ nb s i ∧ nb s i ≤ 244) : ∃ r, Ev (fun k => spec_Character.j2 k s i ((nb s i - 240 : Nat) : Int) 3 65536) r ∧ Ans s i r := by
  by_cases hn : s.size ≤ i + 3
  · refine ⟨_, Ev.step (f := fun _ => some (65533, 1, false)) (fun k => ?_) (Ev.now _), .inl rfl⟩
    simp only [spec_Character.j2]
    rw [if_pos (by rw [w64 (by omega)]; omega)]
  have st : ∀ {r}, Ev (fun k => spec_Character.l0 k s i ((nb s i - 240 : Nat) : Int) ((3 : Nat) : Int) ((65536 : Nat) : Int) ((1 : Nat) : Int)) r → Ev (fun k => spec_Character.j2 k s i ((nb s i - 240 : Nat) : Int) 3 65536) r := fun h => by
    refine Ev.step (fun k => ?_) h
    simp only [spec_Character.j2]
    rw [if_neg (by rw [w64 (by omega)]; omega)]
    rfl
  by_cases h1 : 128 ≤ nb s (i + 1) ∧ nb s (i + 1) ≤ 191
  · by_cases h2 : 128 ≤ nb s (i + 2) ∧ nb s (i + 2) ≤ 191
    · by_cases h3 : 128 ≤ nb s (i + 3) ∧ nb s (i + 3) ≤ 191
      · have hE := st (l0_more hs hi _ 3 65536 1 (by omega) (by omega) (by omega) (by omega) h1 (l0_more hs hi _ 3 65536 2 (by omega) (by omega) (by omega) (by omega) h2 (l0_more hs hi _ 3 65536 3 (by omega) (by omega) (by omega) (by omega) h3 (l0_end hs hi _ 3 65536 (by omega)))))
        refine ⟨_, hE, ?_⟩
        obtain ⟨x, hxe⟩ : ∃ x, x = (((nb s i - 240) * 64 + (nb s (i + 1) - 128)) * 64 + (nb s (i + 2) - 128)) * 64 + (nb s (i + 3) - 128) := ⟨_, rfl⟩
        rw [← hxe]
        by_cases hx : 65536 ≤ x ∧ x ≤ 1114111 ∧ ¬ (55296 ≤ x ∧ x ≤ 57343)
        · refine .inr ⟨x, 4, by rw [if_pos hx], ?_, by omega, by omega, fun h => by omega, fun _ => by omega, by omega⟩
          rw [Lib.decode_at]
          change Lib.decodeN (s.size - i) (nb s i) (nb s (i + 1)) (nb s (i + 2)) (nb s (i + 3)) = _
          unfold Lib.decodeN
          rw [if_neg (by omega), if_neg (by omega), if_neg (by omega), if_pos (by omega), if_pos (by omega)]
          congr 1
          omega
        · exact .inl (if_neg hx)
      · exact ⟨_, st (l0_more hs hi _ 3 65536 1 (by omega) (by omega) (by omega) (by omega) h1 (l0_more hs hi _ 3 65536 2 (by omega) (by omega) (by omega) (by omega) h2 (l0_none hs hi _ 3 65536 3 (by omega) (by omega) (by omega) h3))), .inl rfl⟩
    · exact ⟨_, st (l0_more hs hi _ 3 65536 1 (by omega) (by omega) (by omega) (by omega) h1 (l0_none hs hi _ 3 65536 2 (by omega) (by omega) (by omega) h2)), .inl rfl⟩
  · exact ⟨_, st (l0_none hs hi _ 3 65536 1 (by omega) (by omega) (by omega) h1), .inl rfl⟩
theorem char_ans {s : ByteArray} (hs : s.size ≤ 140737488351232) {i : Nat} (hi : i < s.size) : ∃ r, Ev (fun k => spec_Character.f k s i) r ∧ Ans s i r := by
  have hb := nb_lt s i
  have e2 : wrap64 (bt s (i : Int)) = (nb s i : Int) := by rw [nb_bt, w64 (by omega)]
  have no : ∀ {f : Nat → Option (Int × Int × Bool)}, (∀ k, f k = some (65533, 1, false)) → ∃ r, Ev f r ∧ Ans s i r := fun h => ⟨_, Ev.congr h (Ev.now _), .inl rfl⟩
  have fore : ∀ {g f : Nat → Option (Int × Int × Bool)}, (∀ k, g (k + 1) = f k) → (∃ r, Ev f r ∧ Ans s i r) → ∃ r, Ev g r ∧ Ans s i r := fun h ⟨r, h1, h2⟩ => ⟨r, Ev.step h h1, h2⟩
  have same : ∀ {g f : Nat → Option (Int × Int × Bool)}, (∀ k, g k = f k) → (∃ r, Ev f r ∧ Ans s i r) → ∃ r, Ev g r ∧ Ans s i r := fun h ⟨r, h1, h2⟩ => ⟨r, Ev.congr h h1, h2⟩
  by_cases h1 : nb s i < 128
  · refine ⟨_, Ev.congr (f := fun _ => some ((nb s i : Int), ((1 : Nat) : Int), true)) (fun k => ?_) (Ev.now _), .inr ⟨nb s i, 1, rfl, ?_, by omega, by omega, fun _ => ⟨rfl, rfl⟩, fun h => by omega, by omega⟩⟩
    · simp only [spec_Character.f, e2]
      rw [if_pos (by omega), if_pos (by omega), if_pos (by omega)]
      rfl
    · rw [Lib.decode_at]
      change Lib.decodeN (s.size - i) (nb s i) (nb s (i + 1)) (nb s (i + 2)) (nb s (i + 3)) = _
      unfold Lib.decodeN
      rw [if_pos h1]
  by_cases h2 : 194 ≤ nb s i ∧ nb s i ≤ 223
  · refine same (f := fun k => spec_Character.j0 k s i (nb s i : Int) true) (fun k => ?_) (fore (fun k => ?_) (j2_two hs hi h2))
    · simp only [spec_Character.f, e2]
      rw [if_pos (by omega), if_pos (by omega), if_neg (by omega), if_pos (by omega)]
      congr 1
      simp
      omega
    · simp only [spec_Character.j0]
      rw [if_pos trivial, w64 (by omega)]
      congr 1
      omega
  refine same (f := fun k => spec_Character.j0 k s i (nb s i : Int) false) (fun k => ?_) ?_
  · simp only [spec_Character.f, e2]
    rw [if_pos (by omega), if_pos (by omega), if_neg (by omega)]
    by_cases h : 194 ≤ nb s i
    · rw [if_pos (by omega)]
      congr 1
      simp
      omega
    · rw [if_neg (by omega)]
  by_cases h3 : 224 ≤ nb s i ∧ nb s i ≤ 239
  · refine fore (f := fun k => spec_Character.j1 k s i (nb s i : Int) true) (fun k => ?_) (fore (fun k => ?_) (j2_three hs hi h3))
    · simp only [spec_Character.j0]
      rw [if_neg (by decide), if_pos (by omega)]
      congr 1
      simp
      omega
    · simp only [spec_Character.j1]
      rw [if_pos trivial, w64 (by omega)]
      congr 1
      omega
  refine fore (f := fun k => spec_Character.j1 k s i (nb s i : Int) false) (fun k => ?_) ?_
  · simp only [spec_Character.j0]
    rw [if_neg (by decide)]
    by_cases h : 224 ≤ nb s i
    · rw [if_pos (by omega)]
      congr 1
      simp
      omega
    · rw [if_neg (by omega)]
  by_cases h4 : 240 ≤ nb s i ∧ nb s i ≤ 244
  · refine fore (fun k => ?_) (j2_four hs hi h4)
    simp only [spec_Character.j1]
    rw [if_neg (by decide), if_pos (by omega), if_pos (by omega), w64 (by omega)]
    congr 1
    omega
  · refine fore (f := fun _ => some (65533, 1, false)) (fun k => ?_) (no fun _ => rfl)
    simp only [spec_Character.j1]
    rw [if_neg (by decide)]
    by_cases h : 240 ≤ nb s i
    · rw [if_pos (by omega), if_neg (by omega)]
    · rw [if_neg (by omega)]
theorem nb_ext (s : ByteArray) (i j : Nat) : nb (s.extract i s.size) j = nb s (i + j) := by
  have e : bt (s.extract i s.size) ((j : Nat) : Int) = bt s ((i + j : Nat) : Int) := by
    unfold bt
    simp only [Int.toNat_natCast]
    by_cases h : i + j < s.size
    · rw [dif_pos (by rw [ByteArray.size_extract]; omega), dif_pos h]
      simp [ByteArray.getElem_extract]
    · rw [dif_neg (by rw [ByteArray.size_extract]; omega), dif_neg h]
  rw [nb_bt, nb_bt] at e
  omega
theorem decodeGo_ext (s : ByteArray) (i : Nat) (hi : i < s.size) : Lib.decodeGo (s.extract i s.size) = Utf8.decode s i := by
  have hz : (s.extract i s.size).size = s.size - i := by rw [ByteArray.size_extract]; omega
  unfold Lib.decodeGo
  rw [if_neg (by omega), Lib.decode_at, Lib.decode_at, hz]
  have e := fun j => nb_ext s i j
  unfold nb at e
  rw [e, e, e, e]
  rfl
end Go.Proofs.YtegbajfmhkmolaaDoor.U
