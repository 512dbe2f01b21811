/- The words, walks and laws that the proof rests on, laid together (part 5). -/
import Derived.Test.YtaigbkkgmncipaaDoorKFnJpParseStringForms4
section
namespace Go.Proofs.YtaigbkkgmncipaaDoor.U
open Go.RowKit Go.Proofs.YtaigbkkgmncipaaDoor.Y Go.Proofs.YtaigbkkgmncipaaDoorW.PrintWords Go.Proofs.YtaigbkkgmncipaaDoorW.PrintLast
theorem w64 {x : Int} (h : -9223372036854775808 ≤ x ∧ x ≤ 9223372036854775807) : wrap64 x = x := by
 unfold wrap64
 omega
def nb (s : ByteArray) (i : Nat) : Nat := (s.get! i).toNat
theorem nb_bt (s : ByteArray) (i : Nat) : bt s (i : Int) = (nb s i : Int) := by
 unfold bt nb
 split
 ·rename_i h
  have h' : i < s.size := by simpa using h
  have e : s.get! i = s[i]'h' := by cases s with | mk d => exact getElem!_pos d i h'
  rw [e]
  simp
 ·rename_i h
  have h' : ¬ i < s.size := by simpa using h
  have e : s.get! i = default := by cases s with | mk d => exact getElem!_neg d i h'
  rw [e]
  rfl
theorem nb_lt (s : ByteArray) (i : Nat) : nb s i < 256 := (s.get! i).toNat_lt
theorem Ev_same {α : Type} {g : Nat → Option α} {r r' : α} (h : Ev g r) (e : r = r') : Ev g r' := e ▸ h
structure Chr (s : ByteArray) (i c n : Nat) : Prop where
  dec : Utf8.decode s i = (c, n)
  pos : 1 ≤ n
  fit : i + n ≤ s.size
  low : nb s i < 128 → c = nb s i ∧ n = 1
  high : 128 ≤ nb s i → 128 ≤ c ∧ 2 ≤ n
  top : c ≤ 1114111 ∧ n ≤ 4

theorem l0_more {s : ByteArray} (hs : s.size ≤ 140737488351232) {i : Nat} (hi : i < s.size) (x7 x8 x9 x10 : Nat) (hx : x10 ≤ x8) (h7 : x7 ≤ 1000000) (hj : i + x10 < s.size) (h8 : x8 ≤ 3) {r : Int × Int × Bool}
 (hb : 128 ≤ nb s (i + x10) ∧ nb s (i + x10) ≤ 191)
 (h : Ev (fun k => spec_Character.l0 k s i ((x7 * 64 + (nb s (i + x10) - 128) : Nat) : Int) x8 x9 ((x10 + 1 : Nat) : Int)) r) :
 Ev (fun k => spec_Character.l0 k s i x7 x8 x9 (x10 : Int)) r := by
 refine Ev.step (fun k => ?_) h
 have e1 : wrap64 ((i : Int) + (x10 : Int)) = ((i + x10 : Nat) : Int) := by rw [w64 (by omega)]; omega
 have e2 : wrap64 (bt s ((i + x10 : Nat) : Int)) = (nb s (i + x10) : Int) := by rw [nb_bt, w64 (by omega)]
 simp only [spec_Character.l0, e1, e2]
 rw [if_pos (by omega), if_pos (by omega), if_pos (by omega), if_neg (by omega), if_neg (by omega)]
 congr 1
 ·rw [w64 (x := (x7 : Int) * 64) (by omega), w64 (x := (x7 : Int) * 64 + _) (by omega), w64 (by omega)]
  omega
 ·rw [w64 (by omega)]
  omega
theorem l0_none {s : ByteArray} (hs : s.size ≤ 140737488351232) {i : Nat} (hi : i < s.size) (x7 x8 x9 x10 : Nat) (hx : x10 ≤ x8) (hj : i + x10 < s.size) (h8 : x8 ≤ 3) (hb : ¬ (128 ≤ nb s (i + x10) ∧ nb s (i + x10) ≤ 191)) :
 Ev (fun k => spec_Character.l0 k s i x7 x8 x9 (x10 : Int)) (65533, 1, false) := by
 refine Ev.step (f := fun _ => some (65533, 1, false)) (fun k => ?_) (Ev.now _)
 have e1 : wrap64 ((i : Int) + (x10 : Int)) = ((i + x10 : Nat) : Int) := by rw [w64 (by omega)]; omega
 have e2 : wrap64 (bt s ((i + x10 : Nat) : Int)) = (nb s (i + x10) : Int) := by rw [nb_bt, w64 (by have := nb_lt s (i + x10); omega)]
 simp only [spec_Character.l0, e1, e2]
 rw [if_pos (by omega), if_pos (by omega), if_pos (by omega)]
 by_cases h : nb s (i + x10) < 128
 ·rw [if_pos (by omega)]
 rw [if_neg (by omega), if_pos (by omega)]
theorem l0_end {s : ByteArray} (_hs : s.size ≤ 140737488351232) {i : Nat} (_hi : i < s.size) (x7 x8 x9 : Nat) (h8 : x8 ≤ 3) :
 Ev (fun k => spec_Character.l0 k s i x7 x8 x9 ((x8 + 1 : Nat) : Int)) (if x9 ≤ x7 ∧ x7 ≤ 1114111 ∧ ¬ (55296 ≤ x7 ∧ x7 ≤ 57343) then ((x7 : Int), ((x8 + 1 : Nat) : Int), true) else (65533, 1, false)) := by
 refine Ev.step (f := fun _ => some _) (fun k => ?_) (Ev.now _)
 have eR : ¬ (x9 ≤ x7 ∧ x7 ≤ 1114111 ∧ ¬ (55296 ≤ x7 ∧ x7 ≤ 57343)) → (if x9 ≤ x7 ∧ x7 ≤ 1114111 ∧ ¬ (55296 ≤ x7 ∧ x7 ≤ 57343) then ((x7 : Int), ((x8 + 1 : Nat) : Int), true) else (65533, 1, false)) = (65533, 1, false) := fun h => if_neg h
 simp only [spec_Character.l0, spec_high.f, spec_low.f]
 rw [if_neg (by omega)]
 by_cases h1 : x7 < x9
 ·rw [if_pos (by omega), if_neg (by omega)]
 rw [if_neg (by omega)]
 by_cases h2 : x7 > 1114111
 ·rw [if_pos (by omega), if_neg (by omega)]
 rw [if_neg (by omega), w64 (x := (x8 : Int) + 1) (by omega)]
 by_cases h3 : 55296 ≤ x7 ∧ x7 ≤ 56319
 ·rw [eR (by omega), if_pos (by omega)]
  simp only [Option.bind_some]
  rw [if_pos (by simp; omega)]
 have e3 : (if 55296 ≤ (x7 : Int) then some (decide ((x7 : Int) ≤ 56319)) else some false) = some false := by
  split
  ·congr 1
   simp
   omega
  ·rfl
 rw [e3]
 simp only [Option.bind_some]
 rw [if_neg zq45]
 by_cases h4 : 56320 ≤ x7 ∧ x7 ≤ 57343
 ·rw [eR (by omega), if_pos (by omega)]
  simp only [Option.bind_some]
  rw [if_pos (by simp; omega)]
 have e4 : (if 56320 ≤ (x7 : Int) then some (decide ((x7 : Int) ≤ 57343)) else some false) = some false := by
  split
  ·congr 1
   simp
   omega
  ·rfl
 rw [e4]
 simp only [Option.bind_some]
 rw [if_neg zq45, if_pos (by omega)]
 simp
def Ans (s : ByteArray) (i : Nat) (r : Int × Int × Bool) : Prop := r = (65533, 1, false) ∨ ∃ c n : Nat, r = ((c : Int), (n : Int), true) ∧ Chr s i c n
theorem j2_two {s : ByteArray} (hs : s.size ≤ 140737488351232) {i : Nat} (hi : i < s.size) (h0 : 194 ≤ nb s i ∧ nb s i ≤ 223) : ∃ r, Ev (fun k => spec_Character.j2 k s i ((nb s i - 192 : Nat) : Int) 1 128) r ∧ Ans s i r := by
 by_cases hn : s.size ≤ i + 1
 ·refine ⟨_, Ev.step (f := fun _ => some (65533, 1, false)) (fun k => ?_) (Ev.now _), .inl rfl⟩
  simp only [spec_Character.j2]
  rw [if_pos zq73]
 have st : ∀ {r}, Ev (fun k => spec_Character.l0 k s i ((nb s i - 192 : Nat) : Int) ((1 : Nat) : Int) ((128 : Nat) : Int) ((1 : Nat) : Int)) r → Ev (fun k => spec_Character.j2 k s i ((nb s i - 192 : Nat) : Int) 1 128) r := fun h => by
  refine Ev.step (fun k => ?_) h
  simp only [spec_Character.j2]
  rw [if_neg zq73]
  rfl
 by_cases h1 : 128 ≤ nb s (i + 1) ∧ nb s (i + 1) ≤ 191
 rotate_left
 ·exact ⟨_, st (l0_none hs hi _ 1 128 1 (by omega) (by omega) (by omega) h1), .inl rfl⟩
 refine ⟨_, st (l0_more hs hi _ 1 128 1 (by omega) (by omega) (by omega) (by omega) h1 (l0_end hs hi _ 1 128 (by omega))), .inr ⟨(nb s i - 192) * 64 + (nb s (i + 1) - 128), 2, ?_, ?_, by omega, by omega, fun h => by omega, fun _ => by omega, by omega⟩⟩
 ·rw [if_pos (by omega)]
 ·rw [Lib.decode_at]
  change Lib.decodeN (s.size - i) (nb s i) (nb s (i + 1)) (nb s (i + 2)) (nb s (i + 3)) = _
  unfold Lib.decodeN
  rw [if_neg (by omega), if_pos (by omega), if_pos (by omega)]
  refine congrArg (fun x => (x, 2)) ?_
  omega
theorem j2_three {s : ByteArray} (hs : s.size ≤ 140737488351232) {i : Nat} (hi : i < s.size) (h0 : 224 ≤ nb s i ∧ nb s i ≤ 239) : ∃ r, Ev (fun k => spec_Character.j2 k s i ((nb s i - 224 : Nat) : Int) 2 2048) r ∧ Ans s i r := by
 by_cases hn : s.size ≤ i + 2
 ·refine ⟨_, Ev.step (f := fun _ => some (65533, 1, false)) (fun k => ?_) (Ev.now _), .inl rfl⟩
  simp only [spec_Character.j2]
  rw [if_pos zq73]
 have st : ∀ {r}, Ev (fun k => spec_Character.l0 k s i ((nb s i - 224 : Nat) : Int) ((2 : Nat) : Int) ((2048 : Nat) : Int) ((1 : Nat) : Int)) r → Ev (fun k => spec_Character.j2 k s i ((nb s i - 224 : Nat) : Int) 2 2048) r := fun h => by
  refine Ev.step (fun k => ?_) h
  simp only [spec_Character.j2]
  rw [if_neg zq73]
  rfl
 by_cases h1 : 128 ≤ nb s (i + 1) ∧ nb s (i + 1) ≤ 191
 rotate_left
 ·exact ⟨_, st (l0_none hs hi _ 2 2048 1 (by omega) (by omega) (by omega) h1), .inl rfl⟩
 by_cases h2 : 128 ≤ nb s (i + 2) ∧ nb s (i + 2) ≤ 191
 rotate_left
 ·exact ⟨_, st (l0_more hs hi _ 2 2048 1 (by omega) (by omega) (by omega) (by omega) h1 (l0_none hs hi _ 2 2048 2 (by omega) (by omega) (by omega) h2)), .inl rfl⟩
 have hE := st (l0_more hs hi _ 2 2048 1 (by omega) (by omega) (by omega) (by omega) h1 (l0_more hs hi _ 2 2048 2 (by omega) (by omega) (by omega) (by omega) h2 (l0_end hs hi _ 2 2048 (by omega))))
 refine ⟨_, hE, ?_⟩
 by_cases hx : 2048 ≤ ((nb s i - 224) * 64 + (nb s (i + 1) - 128)) * 64 + (nb s (i + 2) - 128) ∧ ((nb s i - 224) * 64 + (nb s (i + 1) - 128)) * 64 + (nb s (i + 2) - 128) ≤ 1114111 ∧ ¬ (55296 ≤ ((nb s i - 224) * 64 + (nb s (i + 1) - 128)) * 64 + (nb s (i + 2) - 128) ∧ ((nb s i - 224) * 64 + (nb s (i + 1) - 128)) * 64 + (nb s (i + 2) - 128) ≤ 57343)
 rotate_left
 ·exact .inl (if_neg hx)
 refine .inr ⟨((nb s i - 224) * 64 + (nb s (i + 1) - 128)) * 64 + (nb s (i + 2) - 128), 3, by rw [if_pos hx], ?_, by omega, by omega, fun h => by omega, fun _ => by omega, by omega⟩
 rw [Lib.decode_at]
 change Lib.decodeN (s.size - i) (nb s i) (nb s (i + 1)) (nb s (i + 2)) (nb s (i + 3)) = _
 unfold Lib.decodeN
 rw [if_neg (by omega), if_neg (by omega), if_pos (by omega), if_pos (by omega)]
 refine congrArg (fun x => (x, 3)) ?_
 omega
theorem j2_four {s : ByteArray} (hs : s.size ≤ 140737488351232) {i : Nat} (hi : i < s.size) (h0 : 240 ≤ nb s i ∧ nb s i ≤ 244) : ∃ r, Ev (fun k => spec_Character.j2 k s i ((nb s i - 240 : Nat) : Int) 3 65536) r ∧ Ans s i r := by
 by_cases hn : s.size ≤ i + 3
 ·refine ⟨_, Ev.step (f := fun _ => some (65533, 1, false)) (fun k => ?_) (Ev.now _), .inl rfl⟩
  simp only [spec_Character.j2]
  rw [if_pos zq73]
 have st : ∀ {r}, Ev (fun k => spec_Character.l0 k s i ((nb s i - 240 : Nat) : Int) ((3 : Nat) : Int) ((65536 : Nat) : Int) ((1 : Nat) : Int)) r → Ev (fun k => spec_Character.j2 k s i ((nb s i - 240 : Nat) : Int) 3 65536) r := fun h => by
  refine Ev.step (fun k => ?_) h
  simp only [spec_Character.j2]
  rw [if_neg zq73]
  rfl
 by_cases h1 : 128 ≤ nb s (i + 1) ∧ nb s (i + 1) ≤ 191
 rotate_left
 ·exact ⟨_, st (l0_none hs hi _ 3 65536 1 (by omega) (by omega) (by omega) h1), .inl rfl⟩
 by_cases h2 : 128 ≤ nb s (i + 2) ∧ nb s (i + 2) ≤ 191
 rotate_left
 ·exact ⟨_, st (l0_more hs hi _ 3 65536 1 (by omega) (by omega) (by omega) (by omega) h1 (l0_none hs hi _ 3 65536 2 (by omega) (by omega) (by omega) h2)), .inl rfl⟩
 by_cases h3 : 128 ≤ nb s (i + 3) ∧ nb s (i + 3) ≤ 191
 rotate_left
 ·exact ⟨_, st (l0_more hs hi _ 3 65536 1 (by omega) (by omega) (by omega) (by omega) h1 (l0_more hs hi _ 3 65536 2 (by omega) (by omega) (by omega) (by omega) h2 (l0_none hs hi _ 3 65536 3 (by omega) (by omega) (by omega) h3))), .inl rfl⟩
 have hE := st (l0_more hs hi _ 3 65536 1 (by omega) (by omega) (by omega) (by omega) h1 (l0_more hs hi _ 3 65536 2 (by omega) (by omega) (by omega) (by omega) h2 (l0_more hs hi _ 3 65536 3 (by omega) (by omega) (by omega) (by omega) h3 (l0_end hs hi _ 3 65536 (by omega)))))
 refine ⟨_, hE, ?_⟩
 obtain ⟨x, hxe⟩ : ∃ x, x = (((nb s i - 240) * 64 + (nb s (i + 1) - 128)) * 64 + (nb s (i + 2) - 128)) * 64 + (nb s (i + 3) - 128) := ⟨_, rfl⟩
 rw [← hxe]
 by_cases hx : 65536 ≤ x ∧ x ≤ 1114111 ∧ ¬ (55296 ≤ x ∧ x ≤ 57343)
 rotate_left
 ·exact .inl (if_neg hx)
 refine .inr ⟨x, 4, by rw [if_pos hx], ?_, by omega, by omega, fun h => by omega, fun _ => by omega, by omega⟩
 rw [Lib.decode_at]
 change Lib.decodeN (s.size - i) (nb s i) (nb s (i + 1)) (nb s (i + 2)) (nb s (i + 3)) = _
 unfold Lib.decodeN
 rw [if_neg (by omega), if_neg (by omega), if_neg (by omega), if_pos (by omega), if_pos (by omega)]
 congr 1
 omega
theorem char_ans {s : ByteArray} (hs : s.size ≤ 140737488351232) {i : Nat} (hi : i < s.size) : ∃ r, Ev (fun k => spec_Character.f k s i) r ∧ Ans s i r := by
 have hb := nb_lt s i
 have e2 : wrap64 (bt s (i : Int)) = (nb s i : Int) := by rw [nb_bt, w64 (by omega)]
 have no : ∀ {f : Nat → Option (Int × Int × Bool)}, (∀ k, f k = some (65533, 1, false)) → ∃ r, Ev f r ∧ Ans s i r := fun h => ⟨_, Ev.congr h (Ev.now _), .inl rfl⟩
 have fore : ∀ {g f : Nat → Option (Int × Int × Bool)}, (∀ k, g (k + 1) = f k) → (∃ r, Ev f r ∧ Ans s i r) → ∃ r, Ev g r ∧ Ans s i r := fun h ⟨r, h1, h2⟩ => ⟨r, Ev.step h h1, h2⟩
 have same : ∀ {g f : Nat → Option (Int × Int × Bool)}, (∀ k, g k = f k) → (∃ r, Ev f r ∧ Ans s i r) → ∃ r, Ev g r ∧ Ans s i r := fun h ⟨r, h1, h2⟩ => ⟨r, Ev.congr h h1, h2⟩
 by_cases h1 : nb s i < 128
 ·refine ⟨_, Ev.congr (f := fun _ => some ((nb s i : Int), ((1 : Nat) : Int), true)) (fun k => ?_) (Ev.now _), .inr ⟨nb s i, 1, rfl, ?_, by omega, by omega, fun _ => ⟨rfl, rfl⟩, fun h => by omega, by omega⟩⟩
  ·simp only [spec_Character.f, e2]
   rw [if_pos (by omega), if_pos (by omega), if_pos (by omega)]
   rfl
  ·rw [Lib.decode_at]
   change Lib.decodeN (s.size - i) (nb s i) (nb s (i + 1)) (nb s (i + 2)) (nb s (i + 3)) = _
   unfold Lib.decodeN
   rw [if_pos h1]
 by_cases h2 : 194 ≤ nb s i ∧ nb s i ≤ 223
 ·refine same (f := fun k => spec_Character.j0 k s i (nb s i : Int) true) (fun k => ?_) (fore (fun k => ?_) (j2_two hs hi h2))
  ·simp only [spec_Character.f, e2]
   rw [if_pos (by omega), if_pos (by omega), if_neg (by omega), if_pos (by omega)]
   congr 1
   simp
   omega
  ·simp only [spec_Character.j0]
   rw [if_pos trivial, w64 (by omega)]
   congr 1
   omega
 refine same (f := fun k => spec_Character.j0 k s i (nb s i : Int) false) (fun k => ?_) ?_
 ·simp only [spec_Character.f, e2]
  rw [if_pos (by omega), if_pos (by omega), if_neg (by omega)]
  by_cases h : 194 ≤ nb s i
  rotate_left
  ·rw [if_neg (by omega)]
  rw [if_pos (by omega)]
  congr 1
  simp
  omega
 by_cases h3 : 224 ≤ nb s i ∧ nb s i ≤ 239
 ·refine fore (f := fun k => spec_Character.j1 k s i (nb s i : Int) true) (fun k => ?_) (fore (fun k => ?_) (j2_three hs hi h3))
  ·simp only [spec_Character.j0]
   rw [if_neg zq45, if_pos (by omega)]
   congr 1
   simp
   omega
  ·simp only [spec_Character.j1]
   rw [if_pos trivial, w64 (by omega)]
   congr 1
   omega
 refine fore (f := fun k => spec_Character.j1 k s i (nb s i : Int) false) (fun k => ?_) ?_
 ·simp only [spec_Character.j0]
  rw [if_neg zq45]
  by_cases h : 224 ≤ nb s i
  rotate_left
  ·rw [if_neg (by omega)]
  rw [if_pos (by omega)]
  congr 1
  simp
  omega
 by_cases h4 : 240 ≤ nb s i ∧ nb s i ≤ 244
 ·refine fore (fun k => ?_) (j2_four hs hi h4)
  simp only [spec_Character.j1]
  rw [if_neg zq45, if_pos (by omega), if_pos (by omega), w64 (by omega)]
  congr 1
  omega
 refine fore (f := fun _ => some (65533, 1, false)) (fun k => ?_) (no fun _ => rfl)
 simp only [spec_Character.j1]
 rw [if_neg zq45]
 by_cases h : 240 ≤ nb s i
 rotate_left
 ·rw [if_neg (by omega)]
 rw [if_pos (by omega), if_neg (by omega)]
inductive Val (s : ByteArray) : Nat → Prop
  | done : Val s s.size
  | step {i c n : Nat} : i < s.size → Chr s i c n → Ev (fun k => spec_Character.f k s i) ((c : Int), (n : Int), true) → Val s (i + n) → Val s i
theorem utf8_val {s : ByteArray} (hs : s.size ≤ 140737488351232) : ∀ d i, s.size - i = d → i ≤ s.size → ∃ t, Ev (fun k => spec_UTF8.l0 k s i) t ∧ (t = true → Val s i) := by
 intro d
 induction d using Nat.strongRecOn with
 | ind d ih =>
  intro i hd hi
  by_cases h : i < s.size
  rotate_left
  ·refine ⟨true, Ev.step (f := fun _ => some true) (fun k => ?_) (Ev.now _), fun _ => ?_⟩
   ·simp only [spec_UTF8.l0]
    rw [if_neg (by omega)]
   ·have e : i = s.size := by omega
    subst e
    exact Val.done
  obtain ⟨r, h1, h2⟩ := char_ans hs h
  rcases h2 with rfl | ⟨c, n, rfl, hc⟩
  ·refine ⟨false, Ev.step (f := fun k => (spec_Character.f k s i).bind fun b => if b.2.2 = true then spec_UTF8.l0 k s (wrap64 (i + b.2.1)) else some false) (fun k => ?_) (Ev.bind h1 ?_), fun h => by simp at h⟩
   ·simp only [spec_UTF8.l0]
    rw [if_pos (by omega)]
   ·exact Ev.congr (fun k => by rw [if_neg zq45]) (Ev.now _)
  ·have hf := hc.fit
   have hp := hc.pos
   obtain ⟨t, h3, h4⟩ := ih (s.size - (i + n)) (by omega) (i + n) rfl hf
   refine ⟨t, Ev.step (f := fun k => (spec_Character.f k s i).bind fun b => if b.2.2 = true then spec_UTF8.l0 k s (wrap64 (i + b.2.1)) else some false) (fun k => ?_) (Ev.bind h1 ?_), fun h5 => Val.step h hc h1 (h4 h5)⟩
   ·simp only [spec_UTF8.l0]
    rw [if_pos (by omega)]
   ·refine Ev.congr (fun k => ?_) h3
    change spec_UTF8.l0 k s (wrap64 ((i : Int) + (n : Int))) = _
    rw [w64 (by omega)]
    congr 1
end Go.Proofs.YtaigbkkgmncipaaDoor.U
end
section
namespace Go.Proofs.YtaigbkkgmncipaaDoor.J
open Go.RowKit Go.Proofs.YtaigbkkgmncipaaDoor.Y Go.Proofs.YtaigbkkgmncipaaDoor.U Go.Proofs.YtaigbkkgmncipaaDoorW.PrintWords Go.Proofs.YtaigbkkgmncipaaDoorW.PrintLast
set_option linter.unusedVariables false
set_option linter.unusedSimpArgs false
theorem dx_size (s : ByteArray) (i n : Nat) (h : i + n ≤ s.size) : (s.extract i (i + n)).size = n := by
 rw [ByteArray.size_extract]
 omega
theorem dx_list (s : ByteArray) (i n : Nat) (h : i + n ≤ s.size) : bytesOf (s.extract i (i + n)) = (List.range n).map fun j => (nb s (i + j) : Int) := by
 have hl : (bytesOf (s.extract i (i + n))).length = n := by rw [bytesOf_length, dx_size s i n h]
 refine List.ext_getElem (by simp [hl]) fun j h1 h2 => ?_
 have hj : j < n := by omega
 have h3 : rd (bytesOf (s.extract i (i + n))) (j : Int) = bt s ((i + j : Nat) : Int) := by
  rw [rd_bytesOf]
  unfold bt
  simp only [Int.toNat_natCast]
  rw [dif_pos (by rw [dx_size s i n h]; exact hj), dif_pos (by omega)]
  simp [ByteArray.getElem_extract]
 rw [nb_bt] at h3
 simp only [List.getElem_map, List.getElem_range]
 rw [← h3]
 simp [rd, h1]
theorem hiS_eq (c : Int) : hiS c = true ↔ 55296 ≤ c ∧ c ≤ 56319 := by unfold hiS; simp
theorem loS_eq (c : Int) : loS c = true ↔ 56320 ≤ c ∧ c ≤ 57343 := by unfold loS; simp
theorem chr_utf {s : ByteArray} {i c n : Nat} (hc : Chr s i c n) : bytesOf (s.extract i (i + n)) = utf (c : Int) ∧ ¬ (55296 ≤ c ∧ c ≤ 57343) := by
 have hd := hc.dec
 have hf := hc.fit
 have hh := hc.high
 have hlo := hc.low
 have h0 := nb_lt s i
 have h1 := nb_lt s (i + 1)
 have h2 := nb_lt s (i + 2)
 have h3 := nb_lt s (i + 3)
 rw [dx_list s i n hf]
 rw [Lib.decode_at] at hd
 change Lib.decodeN (s.size - i) (nb s i) (nb s (i + 1)) (nb s (i + 2)) (nb s (i + 3)) = _ at hd
 by_cases hl : nb s i < 128
 ·obtain ⟨rfl, rfl⟩ := hlo hl
  refine ⟨?_, by omega⟩
  unfold utf
  rw [if_pos (by omega)]
  simp
 have hh2 := hh (by omega)
 unfold Lib.decodeN at hd
 rw [if_neg hl] at hd
 unfold utf
 rw [if_neg (by omega)]
 split at hd
 ·rename_i hq
  split at hd
  ·injection hd with e1 e2
   subst e2
   refine ⟨?_, by omega⟩
   rw [if_pos (by omega)]
   simp only [List.range, List.range.loop, List.map_cons, List.map_nil, Nat.add_zero]
   congr 1
   ·omega
   ·congr 1
    omega
  ·injection hd with e1 e2
   omega
 ·split at hd
  ·rename_i hq
   split at hd
   ·rename_i hv
    injection hd with e1 e2
    subst e2
    refine ⟨?_, by omega⟩
    rw [if_neg (by omega), if_neg (by rw [hiS_eq, loS_eq]; omega), if_pos (by omega)]
    simp only [List.range, List.range.loop, List.map_cons, List.map_nil, Nat.add_zero]
    congr 1
    ·omega
    ·congr 1
     ·omega
     ·congr 1
      omega
   ·injection hd with e1 e2
    omega
  ·split at hd
   ·rename_i hq
    split at hd
    ·rename_i hv
     injection hd with e1 e2
     subst e2
     refine ⟨?_, by omega⟩
     rw [if_neg (by omega), if_neg (by rw [hiS_eq, loS_eq]; omega), if_neg (by omega)]
     simp only [List.range, List.range.loop, List.map_cons, List.map_nil, Nat.add_zero]
     congr 1
     ·omega
     ·congr 1
      ·omega
      ·congr 1
       ·omega
       ·congr 1
        omega
    ·injection hd with e1 e2
     omega
   ·injection hd with e1 e2
    omega
inductive Pc : List Int → List Int → Prop
  | raw {p : List Int} : (∀ x ∈ p, 32 ≤ x ∧ x ≠ 34 ∧ x ≠ 92) → Pc p p
  | two {d : Int} : isE d = true → Pc [92, d] [unl d]
  | six {a b c d v : Int} : hex4 [a, b, c, d] = some v → ¬ (55296 ≤ v ∧ v ≤ 57343) → Pc [92, 117, a, b, c, d] (utf v)
  | pair {a b c d v e f g h m : Int} : hex4 [a, b, c, d] = some v → hex4 [e, f, g, h] = some m → 55296 ≤ v → v ≤ 56319 → 56320 ≤ m → m ≤ 57343 → Pc [92, 117, a, b, c, d, 92, 117, e, f, g, h] (utf (65536 + (v - 55296) * 1024 + (m - 56320)))
inductive DB : List Int → List Int → Prop
  | nil : DB [] []
  | cons {p x t u : List Int} : Pc p x → DB t u → DB (p ++ t) (x ++ u)
theorem strL_raws : ∀ (p r : List Int), (∀ x ∈ p, 32 ≤ x ∧ x ≠ 34 ∧ x ≠ 92) → strL (p ++ r) = strL r
 | [], _, _ => rfl
 | c :: p, r, h => by
  have h1 := h c (by simp)
  rw [List.cons_append, strL_raw _ ⟨h1.2.1, by omega, h1.2.2⟩]
  exact strL_raws p r fun x hx => h x (by simp [hx])
theorem escL_six {a b c d v : Int} (r : List Int) (h : hex4 [a, b, c, d] = some v) : escL (117 :: a :: b :: c :: d :: r) = some r := by
 rw [escL, isE_117, if_neg zq45, if_pos rfl, hex4_more r [], h]
 rfl
theorem strL_db {t u : List Int} (h : DB t u) (r : List Int) : strL (t ++ r) = strL r := by
 induction h with
 | nil => rfl
 | cons hp _ ih =>
  rw [List.append_assoc]
  cases hp with
  | raw h1 => rw [strL_raws _ _ h1, ih]
  | two h1 =>
   rw [List.cons_append, List.cons_append, List.nil_append, strL_esc, escL_let _ h1]
   exact ih
  | six h1 h2 =>
   simp only [List.cons_append, List.nil_append]
   rw [strL_esc, escL_six _ h1]
   exact ih
  | pair h1 h2 h3 h4 h5 h6 =>
   simp only [List.cons_append, List.nil_append]
   rw [strL_esc, escL_six _ h1, Option.bind_some, strL_esc, escL_six _ h2]
   exact ih
theorem digF_hex {d up : Int} (h : 0 ≤ d ∧ d < 16) : hexv (digF d up) = some d ∧ 48 ≤ digF d up ∧ digF d up ≤ 102 := by
 unfold digF hexv
 by_cases h10 : d < 10
 ·rw [if_pos h10, if_pos (by omega)]
  exact ⟨congrArg some (by omega), by omega, by omega⟩
 rw [if_neg h10]
 by_cases hu : up = 1
 rotate_left
 ·rw [if_neg hu, if_neg (by omega), if_pos (by omega)]
  exact ⟨congrArg some (by omega), by omega, by omega⟩
 rw [if_pos hu, if_neg (by omega), if_neg (by omega), if_pos (by omega)]
 exact ⟨congrArg some (by omega), by omega, by omega⟩
theorem unit5_hex (code : List Int) {m : Int} (hm : 0 ≤ m ∧ m ≤ 65535) (used : Int) (out : List Int) : ∃ a b c d, (unit5F code m used out).2 = out ++ [92, 117, a, b, c, d] ∧ hex4 [a, b, c, d] = some m ∧ ∀ x ∈ [a, b, c, d], 48 ≤ x ∧ x ≤ 102 := by
 unfold unit5F
 simp only [unitF, List.append_assoc, List.cons_append, List.nil_append]
 refine ⟨_, _, _, _, rfl, ?_, ?_⟩
 ·simp only [hex4]
  rw [(digF_hex zq65).1, (digF_hex zq65).1, (digF_hex zq65).1, (digF_hex zq65).1]
  simp only [Option.bind_some, Int.reducePow, Nat.reducePow]
  congr 1
  omega
 ·intro x hx
  simp only [List.mem_cons, List.mem_nil_iff, or_false] at hx
  rcases hx with rfl | rfl | rfl | rfl <;> exact (digF_hex zq65).2
theorem escF_pc (code : List Int) {c : Int} (hc : 0 ≤ c ∧ c ≤ 1114111) (hs : ¬ (55296 ≤ c ∧ c ≤ 57343)) (used : Int) (out : List Int) : ∃ p, (escF code c used out).2 = out ++ p ∧ Pc p (utf c) ∧ ∀ x ∈ p, 0 ≤ x ∧ x ≤ 255 := by
 unfold escF
 split
 ·rename_i hb
  obtain ⟨a1, b1, c1, d1, e1, h1, r1⟩ := unit5_hex code (m := 55296 + (c - 65536) / 1024) (by omega) used out
  obtain ⟨a2, b2, c2, d2, e2, h2, r2⟩ := unit5_hex code (m := 56320 + (c - 65536) % 1024) (by omega) (unit5F code (55296 + (c - 65536) / 1024) used out).1 (unit5F code (55296 + (c - 65536) / 1024) used out).2
  refine ⟨[92, 117, a1, b1, c1, d1, 92, 117, a2, b2, c2, d2], by rw [e2, e1]; simp, ?_, ?_⟩
  ·have := Pc.pair h1 h2 (by omega) (by omega) (by omega) (by omega)
   rwa [show 65536 + (55296 + (c - 65536) / 1024 - 55296) * 1024 + (56320 + (c - 65536) % 1024 - 56320) = c by omega] at this
  ·intro x hx
   simp only [List.mem_cons, List.mem_nil_iff, or_false] at hx r1 r2
   rcases hx with rfl | rfl | hx | hx | hx | hx | rfl | rfl | hx | hx | hx | hx
   ·omega
   ·omega
   ·have := r1 x (by simp [hx]); omega
   ·have := r1 x (by simp [hx]); omega
   ·have := r1 x (by simp [hx]); omega
   ·have := r1 x (by simp [hx]); omega
   ·omega
   ·omega
   ·have := r2 x (by simp [hx]); omega
   ·have := r2 x (by simp [hx]); omega
   ·have := r2 x (by simp [hx]); omega
   ·have := r2 x (by simp [hx]); omega
 ·obtain ⟨a1, b1, c1, d1, e1, h1, r1⟩ := unit5_hex code (m := c) (by omega) used out
  refine ⟨[92, 117, a1, b1, c1, d1], e1, .six h1 hs, ?_⟩
  intro x hx
  simp only [List.mem_cons, List.mem_nil_iff, or_false] at hx r1
  rcases hx with rfl | rfl | hx | hx | hx | hx
  ·omega
  ·omega
  ·have := r1 x (by simp [hx]); omega
  ·have := r1 x (by simp [hx]); omega
  ·have := r1 x (by simp [hx]); omega
  ·have := r1 x (by simp [hx]); omega
theorem short_two {z l : Int} (h : spec_shortOf.f z = some (l, true)) : isE l = true ∧ unl l = z ∧ z < 128 := by
 unfold spec_shortOf.f at h
 repeat' split at h
 all_goals first
  | (simp only [Option.some.injEq, Prod.mk.injEq, Bool.false_eq_true, and_false] at h; done)
  | (simp only [Option.some.injEq, Prod.mk.injEq, and_true] at h; subst h; subst_vars; refine ⟨by decide, by decide, by decide⟩)
  | (simp only [Option.some.injEq, Prod.mk.injEq, and_true] at h; subst h; simp_all [isE, unl])
theorem short_ex (z : Int) : ∃ l ok, spec_shortOf.f z = some (l, ok) := by
 unfold spec_shortOf.f
 repeat' split
 all_goals exact ⟨_, _, rfl⟩
theorem step_pc (code : List Int) {s : ByteArray} {i c n : Nat} (hi : i < s.size) (hc : Chr s i c n) {l : Int} {ok : Bool} (hl : spec_shortOf.f (bt s i) = some (l, ok)) (used : Int) (out : List Int) :
 ∃ p, (stepF code (mustB (bt s i)) ok l c (bytesOf (s.extract i (i + n))) used out).2 = out ++ p ∧ Pc p (utf (c : Int)) ∧ ∀ x ∈ p, 0 ≤ x ∧ x ≤ 255 := by
 obtain ⟨hu, hsg⟩ := chr_utf hc
 have ht := hc.top
 have hR : ∀ x ∈ utf (c : Int), 0 ≤ x ∧ x ≤ 255 := utf_range (by omega) (by omega)
 unfold stepF
 split
 ·exact escF_pc code (by omega) (by omega) _ _
 ·rename_i hn
  split
  ·rename_i hq
   obtain ⟨rfl, _⟩ := hq
   obtain ⟨h1, h2, h3⟩ := short_two hl
   rw [nb_bt] at h2 h3
   have h4 := (hc.low (by omega)).1
   refine ⟨[92, l], rfl, ?_, ?_⟩
   ·have := Pc.two h1
    rw [h2] at this
    unfold utf
    rw [if_pos (by omega), h4]
    exact this
   ·have hE : isE l = true := h1
    simp only [isE, decide_eq_true_eq] at hE
    intro x hx
    simp only [List.mem_cons, List.mem_nil_iff, or_false] at hx
    omega
  ·rename_i hq
   refine ⟨_, rfl, ?_, by rw [hu]; exact hR⟩
   rw [hu]
   refine .raw ?_
   have hm : mustB (bt s i) = false := by
    cases hm : mustB (bt s i) with
    | false => rfl
    | true =>
     cases ok with
     | true => exact absurd ⟨rfl, .inl hm⟩ hq
     | false => exact absurd (.inr ⟨hm, rfl⟩) hn
   unfold mustB at hm
   rw [nb_bt] at hm
   have hm2 := of_decide_eq_false hm
   by_cases h128 : nb s i < 128
   ·have h4 := (hc.low h128).1
    unfold utf
    rw [if_pos (by omega), h4]
    intro x hx
    simp only [List.mem_cons, List.mem_nil_iff, or_false] at hx
    omega
   have h5 := (hc.high (by omega)).1
   intro x hx
   unfold utf at hx
   rw [if_neg (by omega)] at hx
   split at hx
   ·simp at hx; omega
   split at hx
   ·simp at hx; omega
   split at hx
   ·simp at hx; omega
   ·simp at hx; omega
theorem quL_db {s : ByteArray} (hs : s.size ≤ 140737488351232) (code : List Int) {i : Nat} (hv : Val s i) : ∀ (used : Int) (out : List Int), ∃ t ru, DB t ((bytesOf s).drop i) ∧ (∀ x ∈ t, 0 ≤ x ∧ x ≤ 255) ∧ Ev (fun k => quL code s k i used out) (ru, out ++ t) := by
 induction hv with
 | done =>
  intro used out
  refine ⟨[], used, ?_, by simp, Ev.step (f := fun _ => some (used, out ++ [])) (fun k => ?_) (Ev.now _)⟩
  ·rw [List.drop_of_length_le (by rw [bytesOf_length]; exact Nat.le_refl _)]
   exact .nil
  ·rw [quL, if_neg (by omega), List.append_nil]
 | @step i c n hi hc hch _ ih =>
  intro used out
  obtain ⟨l, ok, hl⟩ := short_ex (bt s i)
  obtain ⟨p, hp, hpc, hpr⟩ := step_pc code hi hc hl used out
  obtain ⟨t, ru, h1, h2, h3⟩ := ih (stepF code (mustB (bt s i)) ok l c (bytesOf (s.extract i (i + n))) used out).1 (stepF code (mustB (bt s i)) ok l c (bytesOf (s.extract i (i + n))) used out).2
  rw [hp] at h3
  have hf := hc.fit
  have htop := hc.top
  have hpos := hc.pos
  refine ⟨p ++ t, ru, ?_, ?_, ?_⟩
  ·have e : (bytesOf s).drop i = utf (c : Int) ++ (bytesOf s).drop (i + n) := by
    rw [← (chr_utf hc).1, bytesOf_extract, List.drop_take]
    rw [Nat.add_sub_cancel_left]
    conv => lhs; rw [← List.take_append_drop n ((bytesOf s).drop i)]
    rw [List.drop_drop]
   rw [e]
   exact .cons hpc h1
  ·intro x hx
   rcases List.mem_append.mp hx with hx | hx
   ·exact hpr x hx
   ·exact h2 x hx
  ·rw [← List.append_assoc]
   refine Ev.step (f := fun k => (spec_Character.f k s i).bind fun t => if t.2.2 = true ∧ 0 ≤ t.1 ∧ t.1 ≤ 1114111 ∧ 1 ≤ t.2.1 ∧ t.2.1 ≤ 4 ∧ (i : Int) + t.2.1 ≤ (s.size : Int) then (spec_shortOf.f (bt s i)).bind fun q => quL code s k (i + t.2.1) (stepF code (mustB (bt s i)) q.2 q.1 t.1 (bytesOf (s.extract (i : Int).toNat ((i : Int) + t.2.1).toNat)) used out).1 (stepF code (mustB (bt s i)) q.2 q.1 t.1 (bytesOf (s.extract (i : Int).toNat ((i : Int) + t.2.1).toNat)) used out).2 else none) (fun k => ?_) (Ev.bind hch ?_)
   ·rw [quL, if_pos (by omega)]
   ·refine Ev.congr (fun k => ?_) h3
    rw [if_pos ⟨rfl, by simp only; omega, by simp only; omega, by simp only; omega, by simp only; omega, by simp only; omega⟩, hl, Option.bind_some]
    simp only
    rw [show ((i : Int) + (n : Int)) = ((i + n : Nat) : Int) by omega, Int.toNat_natCast, Int.toNat_natCast, hp]
theorem blF_app (code : List Int) : ∀ (k : Nat) (used : Int) (out : List Int), ∃ a, (blF code k used out).2 = out ++ a ∧ a.length = k ∧ ∀ x ∈ a, isB x = true ∧ 0 ≤ x ∧ x ≤ 255
 | 0, used, out => ⟨[], by simp [blF], rfl, by simp⟩
 | k + 1, used, out => by
  obtain ⟨a, h1, h2, h3⟩ := blF_app code k (pickF code used 4).2 (out ++ [blk4 (pickF code used 4).1])
  refine ⟨blk4 (pickF code used 4).1 :: a, by rw [blF, h1]; simp, by simp [h2], fun x hx => ?_⟩
  rcases List.mem_cons.mp hx with rfl | hx
  ·unfold blk4
   repeat' split
   all_goals decide
  ·exact h3 x hx
theorem bl4_app {code : List Int} (hu : ∀ x ∈ code, 0 ≤ x ∧ x ≤ 255) (used : Int) (out : List Int) : ∃ a, (bl4 code used out).2 = out ++ a ∧ a.length ≤ 3 ∧ ∀ x ∈ a, isB x = true ∧ 0 ≤ x ∧ x ≤ 255 := by
 obtain ⟨a, h1, h2, h3⟩ := blF_app code (pickF code used 4).1.toNat (pickF code used 4).2 out
 have := pick_range hu used 4 zq45
 exact ⟨a, h1, by omega, h3⟩
theorem dress_eq {s : ByteArray} (hs : s.size ≤ 2147483647) {code : List Int} (hu : ∀ x ∈ code, 0 ≤ x ∧ x ≤ 255) (hv : Val s 0) :
 ∃ d a t b, Ev (fun k => spec_Dress.f k 4 s [] [] code) d ∧ bytesOf d = a ++ 34 :: (t ++ 34 :: b) ∧ (∀ x ∈ a, isB x = true) ∧ (∀ x ∈ b, isB x = true) ∧ DB t (bytesOf s) ∧ d.size ≤ 20 * s.size + 20 := by
 obtain ⟨a, ha, hal, hab⟩ := bl4_app hu 0 []
 obtain ⟨t, ru, h1, h2, h3⟩ := quL_db (by omega) code hv (bl4 code 0 []).1 ((bl4 code 0 []).2 ++ [34])
 obtain ⟨b, hb, hbl, hbb⟩ := bl4_app hu ru (((bl4 code 0 []).2 ++ [34] ++ t) ++ [34])
 obtain ⟨k, hk0⟩ := id h3
 have hk := hk0 k (Nat.le_refl _)
 have hbd := (quL_bounds s k 0 _ _ _ (Int.le_refl 0) hk).2 (by omega)
 rw [ha] at hb
 have e : (bl4 code ru ((bl4 code 0 []).2 ++ [34] ++ t ++ [34])).2 = a ++ 34 :: (t ++ 34 :: b) := by
  rw [ha, hb]
  simp
 refine ⟨strOfNums (a ++ 34 :: (t ++ 34 :: b)), a, t, b, ?_, ?_, fun x hx => (hab x hx).1, fun x hx => (hbb x hx).1, by simpa using h1, ?_⟩
 ·unfold spec_Dress.f dressS
  refine Ev.congr (fun k => if_pos ⟨rfl, rfl, rfl⟩) (Ev.congr (fun k => if_pos ⟨hu, hs⟩) (Ev.bind h3 ?_))
  simp only
  rw [e]
  exact Ev.now _
 ·apply bytesOf_strOfNums
  intro x hx
  simp only [List.mem_append, List.mem_cons] at hx
  rcases hx with hx | rfl | hx | rfl | hx
  ·exact (hab x hx).2
  ·omega
  ·exact h2 x hx
  ·omega
  ·exact (hbb x hx).2
 ·have hz : (strOfNums (a ++ 34 :: (t ++ 34 :: b))).size = (a ++ 34 :: (t ++ 34 :: b)).length := strOfNums_size _
  rw [hz]
  rw [ha] at hbd
  simp only [List.length_append, List.length_cons, List.length_nil, List.nil_append] at hbd ⊢
  omega
theorem places_str {s : ByteArray} (hs : s.size ≤ 2147483647) {a t b : List Int} (e : bytesOf s = a ++ 34 :: (t ++ 34 :: b)) (ha : ∀ x ∈ a, isB x = true) (hb : ∀ x ∈ b, isB x = true) (ht : strL (t ++ 34 :: b) = some b) :
 Ev (fun k => spec_Places.f k s) (4, (a.length : Int), ((a.length + t.length + 2 : Nat) : Int), [], [], true) := by
 have hs' : s.size ≤ 140737488351232 := by omega
 have hsz : s.size = a.length + t.length + b.length + 2 := by
  rw [← bytesOf_length, e]
  simp only [List.length_append, List.length_cons]
  omega
 have h0 := Suf.start s
 have hbl := blanks_eq hs' _ h0
 have e0 : P s (bytesOf s) = 0 := by unfold P; rw [bytesOf_length]; simp
 have ek : skB (bytesOf s) = 34 :: (t ++ 34 :: b) := by
  rw [e, skB_app _ _ ha]
  exact skB_no zq45
 have hk := h0.skB
 rw [e0, ek] at hbl
 rw [ek] at hk
 have hq := (quoted_P hs' hk).1 b ht
 have hb0 := blanks_eq hs' b (hk.tail.str ht)
 have eb : skB b = [] := by
  have := skB_app b [] hb
  rw [List.append_nil] at this
  rw [this]
  rfl
 rw [eb, P_nil] at hb0
 have p1 : P s (34 :: (t ++ 34 :: b)) = (a.length : Int) := by
  unfold P
  simp only [List.length_append, List.length_cons]
  omega
 have p2 : P s b = ((a.length + t.length + 2 : Nat) : Int) := by
  unfold P
  omega
 have hval : Ev (fun k => spec_reader_value.f k s (P s (34 :: (t ++ 34 :: b)))) (4, P s (34 :: (t ++ 34 :: b)), P s b, [], [], true, s, P s b) := by
  refine Ev.step (f := fun k => (spec_reader_quoted.f k s (P s (34 :: (t ++ 34 :: b)))).bind fun bt121 => (some (4, P s (34 :: (t ++ 34 :: b)), bt121.2.2, [], [], bt121.1, bt121.2.1, bt121.2.2))) (fun k => ?_) (Ev.bind hq (Ev.now _))
  simp only [spec_reader_value.f, here_P hk, Option.bind_some]
  rw [if_neg zq45, if_neg zq45, if_pos trivial]
 rw [p1, p2] at hval
 rw [p1] at hbl
 rw [p2] at hb0
 unfold spec_Places.f
 exact Ev.bind hbl (Ev.bind hval (Ev.congr (fun _ => if_pos rfl) (Ev.bind hb0 (Ev.congr (fun _ => if_pos rfl) (Ev.now _)))))
theorem h2I_eq {c : Int} (h : 0 ≤ c ∧ c ≤ 255) (k : Nat) : jsonparser_h2I.f (k + 4) c = some ((hexv c).getD (-1)) := by
 unfold jsonparser_h2I.f hexv
 by_cases h1 : 48 ≤ c ∧ c ≤ 57
 ·rw [if_pos (by omega), decide_eq_true h1.2, jsonparser_h2I.j0, if_pos rfl, if_pos h1]
  congr 1
  show _ = c - 48
  omega
 have e : (if c ≥ 48 then jsonparser_h2I.j0 (k + 4) c (decide (c ≤ 57)) else jsonparser_h2I.j0 (k + 4) c false) = jsonparser_h2I.j0 (k + 4) c false := by
  by_cases h48 : c ≥ 48
  rotate_left
  ·rw [if_neg h48]
  rw [if_pos h48, decide_eq_false (by omega)]
 rw [e, if_neg h1, jsonparser_h2I.j0, if_neg zq45]
 by_cases h2 : 65 ≤ c ∧ c ≤ 70
 ·rw [if_pos (by omega), decide_eq_true h2.2, jsonparser_h2I.j1, if_pos rfl, if_neg (by omega), if_pos h2]
  congr 1
  show _ = c - 55
  omega
 have e2 : (if c ≥ 65 then jsonparser_h2I.j1 (k + 3) c (decide (c ≤ 70)) else jsonparser_h2I.j1 (k + 3) c false) = jsonparser_h2I.j1 (k + 3) c false := by
  by_cases h65 : c ≥ 65
  rotate_left
  ·rw [if_neg h65]
  rw [if_pos h65, decide_eq_false (by omega)]
 rw [e2, jsonparser_h2I.j1, if_neg zq45]
 by_cases h3 : 97 ≤ c ∧ c ≤ 102
 ·rw [if_pos (by omega), if_pos (by omega), if_pos h3]
  congr 1
  show _ = c - 87
  omega
 rw [if_neg h3, if_neg h2]
 by_cases h97 : c ≥ 97
 rotate_left
 ·rw [if_neg h97]
  rfl
 rw [if_pos h97, if_neg (by omega)]
 rfl
def dS (l : List Int) : Int × Bool := if (l.length : Int) < 6 then (65533, false) else match hex4 (l.drop 2) with
  | some v => (v, true)
  | none => (65533, false)
theorem single_eq {l : List Int} (hr : ∀ x ∈ l, 0 ≤ x ∧ x ≤ 255) (k : Nat) : jsonparser_decodeSingleUnicodeEscape.f (k + 4) l = some (dS l) := by
 unfold jsonparser_decodeSingleUnicodeEscape.f dS
 by_cases h6 : (l.length : Int) < 6
 ·rw [if_pos h6, if_pos h6]
 rw [if_neg h6, if_neg h6]
 match l, h6, hr with
 | [], h6, _ => exact absurd h6 (by simp)
 | [_], h6, _ => exact absurd h6 (by simp)
 | [_, _], h6, _ => exact absurd h6 (by simp)
 | [_, _, _], h6, _ => exact absurd h6 (by simp)
 | [_, _, _, _], h6, _ => exact absurd h6 (by simp)
 | [_, _, _, _, _], h6, _ => exact absurd h6 (by simp)
 | p :: q :: a :: b :: c :: d :: r, h6, hr =>
  have ha := hr a (by simp)
  have hb := hr b (by simp)
  have hc := hr c (by simp)
  have hd := hr d (by simp)
  have e2 : rd (p :: q :: a :: b :: c :: d :: r) 2 = a := rfl
  have e3 : rd (p :: q :: a :: b :: c :: d :: r) 3 = b := rfl
  have e4 : rd (p :: q :: a :: b :: c :: d :: r) 4 = c := rfl
  have e5 : rd (p :: q :: a :: b :: c :: d :: r) 5 = d := rfl
  rw [if_pos (by omega), e2, h2I_eq ha, Option.bind_some, if_pos (by omega), e3, h2I_eq hb, Option.bind_some, if_pos (by omega), e4, h2I_eq hc, Option.bind_some, if_pos (by omega), e5, h2I_eq hd, Option.bind_some]
  simp only [List.drop_succ_cons, List.drop_zero, hex4]
  cases qa : hexv a with
  | none => simp
  | some va =>
   cases qb : hexv b with
   | none => have := hexv_range qa; simp [show va ≠ -1 by omega]
   | some vb =>
    cases qc : hexv c with
    | none => have := hexv_range qa; have := hexv_range qb; simp [show va ≠ -1 by omega, show vb ≠ -1 by omega]
    | some vc =>
     cases qd : hexv d with
     | none => have := hexv_range qa; have := hexv_range qb; have := hexv_range qc; simp [show va ≠ -1 by omega, show vb ≠ -1 by omega, show vc ≠ -1 by omega]
     | some vd =>
      have r1 := hexv_range qa
      have r2 := hexv_range qb
      have r3 := hexv_range qc
      have r4 := hexv_range qd
      simp only [Option.getD_some, Option.bind_some]
      rw [if_neg (by omega), if_neg (by omega), if_neg (by omega), if_neg (by omega)]
      have w1 : wrap64 (va * 4096) = va * 4096 := w64 (by omega)
      have w2 : wrap64 (vb * 256) = vb * 256 := w64 (by omega)
      have w3 : wrap64 (vc * 16) = vc * 16 := w64 (by omega)
      rw [w1, w2, w3, w64 (x := va * 4096 + vb * 256) (by omega), w64 (x := va * 4096 + vb * 256 + vc * 16) (by omega), w64 (x := va * 4096 + vb * 256 + vc * 16 + vd) (by omega)]
      have w4 : wrap32 (va * 4096 + vb * 256 + vc * 16 + vd) = va * 4096 + vb * 256 + vc * 16 + vd := by unfold wrap32; omega
      rw [w4]
      congr 2
      omega
def dU (l : List Int) : Int × Int :=
  if (dS l).2 = true then
    (if 55296 ≤ (dS l).1 ∧ (dS l).1 ≤ 57343 then
      (if (dS l).1 ≥ 56320 then (65533, 6)
       else if (l.length : Int) < 8 ∨ rd l 6 ≠ 92 ∨ rd l 7 ≠ 117 then (65533, 6)
       else if (dS (l.drop 6)).2 = true then
         (if (dS (l.drop 6)).1 < 56320 ∨ 57343 < (dS (l.drop 6)).1 then (65533, 6) else (65536 + ((dS l).1 - 55296) * 1024 + ((dS (l.drop 6)).1 - 56320), 12))
       else (65533, -1))
     else ((dS l).1, 6))
  else (65533, -1)
theorem dS_len {l : List Int} (h : (dS l).2 = true) : 6 ≤ l.length ∧ 0 ≤ (dS l).1 ∧ (dS l).1 ≤ 65535 := by
 unfold dS at h ⊢
 split at h
 ·cases h
 ·rename_i h6
  rw [if_neg h6]
  split at h
  ·rename_i v hv
   have := hex4_range hv
   simp only
   omega
  ·cases h
theorem decode_eq {l : List Int} (hr : ∀ x ∈ l, 0 ≤ x ∧ x ≤ 255) (k : Nat) : jsonparser_decodeUnicodeEscape.f (k + 5) l = some (dU l) := by
 have hS := single_eq hr (k + 1)
 have hS2 := single_eq (l := l.drop 6) (fun x hx => hr x (List.mem_of_mem_drop hx)) k
 have j0t : jsonparser_decodeUnicodeEscape.j0 (k + 5) l (dS l).1 true = some (65533, 6) := by rw [jsonparser_decodeUnicodeEscape.j0, if_pos rfl]
 unfold jsonparser_decodeUnicodeEscape.f dU
 rw [hS, Option.bind_some]
 cases hs : (dS l).2 with
 | false => rfl
 | true =>
  obtain ⟨h6, g0, g1⟩ := dS_len hs
  simp only [if_true, jsonparser_isUTF16EncodedRune.f]
  have e1 : (if 55296 ≤ (dS l).1 then some (decide ((dS l).1 ≤ 57343)) else some false) = some (decide (55296 ≤ (dS l).1 ∧ (dS l).1 ≤ 57343)) := by
   split <;> simp <;> omega
  rw [e1, Option.bind_some]
  by_cases hsu : 55296 ≤ (dS l).1 ∧ (dS l).1 ≤ 57343
  rotate_left
  ·rw [decide_eq_false hsu, if_neg zq45, if_neg hsu]
  rw [decide_eq_true hsu, if_pos rfl, if_pos hsu]
  by_cases hlo : (dS l).1 ≥ 56320
  ·rw [if_pos hlo, if_pos hlo]
  rw [if_neg hlo, if_neg hlo]
  by_cases h8 : (l.length : Int) < 8
  ·rw [if_pos h8, j0t, if_pos (.inl h8)]
  rw [if_neg h8, if_pos (by omega)]
  by_cases h92 : rd l 6 = 92
  rotate_left
  ·rw [if_neg h92, j0t, if_pos (.inr (.inl h92))]
  rw [if_pos h92, if_pos (by omega)]
  by_cases h117 : rd l 7 = 117
  rotate_left
  ·have e2 : (rd l 7 != 117) = true := by simp [h117]
   rw [e2, j0t, if_pos (.inr (.inr h117))]
  have e2 : (rd l 7 != 117) = false := by simp [h117]
  have hno : ¬ ((l.length : Int) < 8 ∨ rd l 6 ≠ 92 ∨ rd l 7 ≠ 117) := by rintro (h | h | h) <;> omega
  rw [e2, jsonparser_decodeUnicodeEscape.j0, if_neg zq45, if_pos (by omega), hS2, Option.bind_some, if_neg hno]
  cases hs2 : (dS (l.drop 6)).2 with
  | false => rfl
  | true =>
   obtain ⟨_, q0, q1⟩ := dS_len hs2
   simp only [if_true]
   by_cases ha : (dS (l.drop 6)).1 < 56320
   ·rw [if_pos ha, if_pos (.inl ha)]
   rw [if_neg ha]
   by_cases hb : (dS (l.drop 6)).1 > 57343
   ·rw [if_pos hb, if_pos (.inr hb)]
   rw [if_neg hb, if_neg (by omega)]
   simp only [jsonparser_combineUTF16Surrogates.f, Option.bind_some]
   congr 2
   unfold wrap32
   omega
theorem stp_eq {l : List Int} (hr : ∀ x ∈ l, 0 ≤ x ∧ x ≤ 255) (k : Nat) : stp (k + 5) l = some (if (l.length : Int) < 2 then (-1, []) else if rd l 0 = 92 then (if isE (rd l 1) = true then (2, [unl (rd l 1)]) else if rd l 1 = 117 then (if (dU l).2 = -1 then (-1, []) else ((dU l).2, eB (dU l).1)) else (-1, [])) else (-1, [])) := by
 unfold stp
 by_cases h2 : (l.length : Int) < 2
 ·rw [if_pos h2, if_pos h2]
 rw [if_neg h2, if_neg h2]
 by_cases h92 : rd l 0 = 92
 rotate_left
 ·rw [if_neg h92, if_neg h92]
 rw [if_pos h92, if_pos h92]
 by_cases hE : isE (rd l 1) = true
 ·rw [if_pos hE, if_pos hE]
 rw [if_neg hE, if_neg hE]
 by_cases hu : rd l 1 = 117
 rotate_left
 ·rw [if_neg hu, if_neg hu]
 rw [if_pos hu, if_pos hu, decode_eq hr, Option.bind_some]
 by_cases hm : (dU l).2 = -1
 ·rw [if_pos hm, if_pos hm]
 rw [if_neg hm, if_neg hm, if_pos]
 unfold dU at hm ⊢
 by_cases hs : (dS l).2 = true
 rotate_left
 ·rw [if_neg hs] at hm
  exact absurd rfl hm
 obtain ⟨h6, g0, g1⟩ := dS_len hs
 rw [if_pos hs] at hm ⊢
 by_cases hsu : 55296 ≤ (dS l).1 ∧ (dS l).1 ≤ 57343
 rotate_left
 ·rw [if_neg hsu]
  simp only
  omega
 rw [if_pos hsu] at hm ⊢
 by_cases hlo : (dS l).1 ≥ 56320
 ·rw [if_pos hlo]
  simp only
  omega
 rw [if_neg hlo] at hm ⊢
 by_cases h8 : (l.length : Int) < 8 ∨ rd l 6 ≠ 92 ∨ rd l 7 ≠ 117
 ·rw [if_pos h8]
  simp only
  omega
 rw [if_neg h8] at hm ⊢
 by_cases hs2 : (dS (l.drop 6)).2 = true
 rotate_left
 ·rw [if_neg hs2] at hm
  exact absurd rfl hm
 obtain ⟨q6, q0, q1⟩ := dS_len hs2
 rw [List.length_drop] at q6
 rw [if_pos hs2] at hm ⊢
 by_cases hab : (dS (l.drop 6)).1 < 56320 ∨ 57343 < (dS (l.drop 6)).1
 rotate_left
 ·rw [if_neg hab]
  simp only
  omega
 rw [if_pos hab]
 simp only
 omega
theorem eB_utf' {c : Int} : eB c = utf c := by
 unfold eB utf
 split
 ·rfl
 split
 ·rfl
 by_cases h : 55296 ≤ c ∧ c ≤ 57343
 ·have h' : hiS c = true ∨ loS c = true := by rw [hiS_eq, loS_eq]; omega
  rw [if_pos h, if_pos h']
 have h' : ¬ (hiS c = true ∨ loS c = true) := by rw [hiS_eq, loS_eq]; omega
 rw [if_neg h, if_neg h']
theorem ixL_no : ∀ p : List Int, (∀ x ∈ p, x ≠ 92) → ixL p = -1
 | [], _ => rfl
 | b :: l, h => by
  rw [ixL, if_neg (h b (by simp)), ixL_no l fun x hx => h x (by simp [hx]), if_pos rfl]
theorem ixL_at : ∀ (p r : List Int), (∀ x ∈ p, x ≠ 92) → ixL (p ++ 92 :: r) = (p.length : Int)
 | [], _, _ => rfl
 | b :: l, r, h => by
  rw [List.cons_append, ixL, if_neg (h b (by simp)), ixL_at l r fun x hx => h x (by simp [hx]), if_neg (by omega)]
  simp
inductive Esc : List Int → List Int → Prop
  | two {d : Int} : isE d = true → Esc [92, d] [unl d]
  | six {a b c d v : Int} : hex4 [a, b, c, d] = some v → ¬ (55296 ≤ v ∧ v ≤ 57343) → Esc [92, 117, a, b, c, d] (utf v)
  | pair {a b c d v e f g h m : Int} : hex4 [a, b, c, d] = some v → hex4 [e, f, g, h] = some m → 55296 ≤ v → v ≤ 56319 → 56320 ≤ m → m ≤ 57343 → Esc [92, 117, a, b, c, d, 92, 117, e, f, g, h] (utf (65536 + (v - 55296) * 1024 + (m - 56320)))
theorem db_split {t u : List Int} (h : DB t u) : ∃ p r u', t = p ++ r ∧ u = p ++ u' ∧ (∀ x ∈ p, x ≠ 92) ∧ (r = [] ∧ u' = [] ∨ ∃ pc x t2 u2, r = pc ++ t2 ∧ u' = x ++ u2 ∧ Esc pc x ∧ DB t2 u2) := by
 induction h with
 | nil => exact ⟨[], [], [], rfl, rfl, by simp, .inl ⟨rfl, rfl⟩⟩
 | @cons p x t u hp ht ih =>
  cases hp with
  | raw h1 =>
   obtain ⟨q, r, u', e1, e2, h2, h3⟩ := ih
   refine ⟨p ++ q, r, u', by rw [e1, List.append_assoc], by rw [e2, List.append_assoc], fun x hx => ?_, h3⟩
   rcases List.mem_append.mp hx with hx | hx
   ·exact (h1 x hx).2.2
   ·exact h2 x hx
  | two h1 => exact ⟨[], _, _, rfl, rfl, by simp, .inr ⟨_, _, t, u, rfl, rfl, .two h1, ht⟩⟩
  | six h1 h2 => exact ⟨[], _, _, rfl, rfl, by simp, .inr ⟨_, _, t, u, rfl, rfl, .six h1 h2, ht⟩⟩
  | pair h1 h2 h3 h4 h5 h6 => exact ⟨[], _, _, rfl, rfl, by simp, .inr ⟨_, _, t, u, rfl, rfl, .pair h1 h2 h3 h4 h5 h6, ht⟩⟩
theorem dS_six {a b c d v : Int} (r : List Int) (h : hex4 [a, b, c, d] = some v) (p q : Int) : dS (p :: q :: a :: b :: c :: d :: r) = (v, true) := by
 unfold dS
 rw [if_neg (by simp only [List.length_cons]; omega), show List.drop 2 (p :: q :: a :: b :: c :: d :: r) = a :: b :: c :: d :: r from rfl, hex4_more r [], h]
theorem stp_esc {pc x t2 : List Int} (h : Esc pc x) (hr : ∀ y ∈ pc ++ t2, 0 ≤ y ∧ y ≤ 255) (k : Nat) : stp (k + 5) (pc ++ t2) = some ((pc.length : Int), x) ∧ 1 ≤ pc.length ∧ x.length ≤ pc.length ∧ ∃ r, pc = 92 :: r := by
 rw [stp_eq hr]
 cases h with
 | @two d h1 =>
  refine ⟨?_, by simp, by simp, _, rfl⟩
  rw [if_neg (by simp only [List.length_append, List.length_cons, List.length_nil]; omega), if_pos (by rfl), if_pos (by exact h1)]
  rfl
 | @six a b c d v h1 h2 =>
  have hl := utf_len v
  refine ⟨?_, by simp, by simp; omega, _, rfl⟩
  have e : [92, 117, a, b, c, d] ++ t2 = 92 :: 117 :: a :: b :: c :: d :: t2 := rfl
  have hd : dU (92 :: 117 :: a :: b :: c :: d :: t2) = (v, 6) := by
   unfold dU
   rw [dS_six t2 h1]
   simp only [if_true]
   rw [if_neg h2]
  rw [e, if_neg (by simp only [List.length_cons]; omega), if_pos (by rfl), if_neg (by exact fun hh => absurd (show isE 117 = true from hh) zq45), if_pos (by rfl), hd]
  rw [if_neg (by simp only; omega), eB_utf']
  rfl
 | @pair a b c d v e f g h' m h1 h2 h3 h4 h5 h6 =>
  have hl := utf_len (65536 + (v - 55296) * 1024 + (m - 56320))
  refine ⟨?_, by simp, by simp; omega, _, rfl⟩
  have e0 : [92, 117, a, b, c, d, 92, 117, e, f, g, h'] ++ t2 = 92 :: 117 :: a :: b :: c :: d :: 92 :: 117 :: e :: f :: g :: h' :: t2 := rfl
  have hd : dU (92 :: 117 :: a :: b :: c :: d :: 92 :: 117 :: e :: f :: g :: h' :: t2) = (65536 + (v - 55296) * 1024 + (m - 56320), 12) := by
   unfold dU
   rw [dS_six _ h1]
   have e1 : List.drop 6 (92 :: 117 :: a :: b :: c :: d :: 92 :: 117 :: e :: f :: g :: h' :: t2) = 92 :: 117 :: e :: f :: g :: h' :: t2 := rfl
   have e2 : rd (92 :: 117 :: a :: b :: c :: d :: 92 :: 117 :: e :: f :: g :: h' :: t2) 6 = 92 := rfl
   have e3 : rd (92 :: 117 :: a :: b :: c :: d :: 92 :: 117 :: e :: f :: g :: h' :: t2) 7 = 117 := rfl
   have hno : ¬ (((92 :: 117 :: a :: b :: c :: d :: 92 :: 117 :: e :: f :: g :: h' :: t2 : List Int).length : Int) < 8 ∨ (92 : Int) ≠ 92 ∨ (117 : Int) ≠ 117) := by
    simp only [List.length_cons]
    omega
   simp only [if_true]
   rw [if_pos (by omega), if_neg (by omega), e1, e2, e3, if_neg hno, dS_six _ h2]
   simp only [if_true]
   rw [if_neg (by omega)]
  rw [e0, if_neg (by simp only [List.length_cons]; omega), if_pos (by rfl), if_neg (by exact fun hh => absurd (show isE 117 = true from hh) zq45), if_pos (by rfl), hd]
  rw [if_neg (by simp only; omega), eB_utf']
  rfl
theorem jun_db (k : Nat) : ∀ (n : Nat) (pc x t2 u2 E : List Int) (f : Nat), t2.length ≤ n → t2.length < f → Esc pc x → DB t2 u2 → (∀ y ∈ pc ++ t2, 0 ≤ y ∧ y ≤ 255) → jun (k + 5) f (pc ++ t2) E = some (some (E ++ x ++ u2)) := by
 intro n
 induction n with
 | zero =>
  intro pc x t2 u2 E f hn hf he hd hr
  obtain rfl := List.eq_nil_of_length_eq_zero (Nat.le_zero.mp hn)
  obtain ⟨p, r, u', e1, e2, h2, h3⟩ := db_split hd
  obtain ⟨rfl, rfl⟩ := List.append_eq_nil_iff.mp e1.symm
  have hu : u2 = [] := by
   rcases h3 with ⟨_, rfl⟩ | ⟨pc', x', t3, u3, e3, e4, h5, h6⟩
   ·exact e2
   ·obtain ⟨rfl, _⟩ := List.append_eq_nil_iff.mp e3.symm
    cases h5
  subst hu
  obtain ⟨f, rfl⟩ : ∃ g, f = g + 1 := ⟨f - 1, by omega⟩
  obtain ⟨s1, s2, s3, _⟩ := stp_esc he hr k
  rw [jun, s1, Option.bind_some]
  simp only
  rw [if_neg (by omega), if_pos ⟨by omega, by simp, by omega⟩]
  have e4 : (pc ++ []).drop ((pc.length : Int)).toNat = [] := by rw [Int.toNat_natCast]; simp
  rw [e4, show ixL [] = -1 from rfl, if_pos rfl]
 | succ n ih =>
  intro pc x t2 u2 E f hn hf he hd hr
  obtain ⟨f, rfl⟩ : ∃ g, f = g + 1 := ⟨f - 1, by omega⟩
  obtain ⟨s1, s2, s3, _⟩ := stp_esc he hr k
  rw [jun, s1, Option.bind_some]
  simp only
  rw [if_neg (by omega), if_pos ⟨by omega, by simp only [List.length_append]; omega, by omega⟩]
  have e4 : (pc ++ t2).drop ((pc.length : Int)).toNat = t2 := by rw [Int.toNat_natCast]; simp
  rw [e4]
  obtain ⟨p, r, u', e1, e2, h2, h3⟩ := db_split hd
  rcases h3 with ⟨rfl, rfl⟩ | ⟨pc', x', t3, u3, rfl, rfl, h5, h6⟩
  ·rw [List.append_nil] at e1 e2
   subst e1
   subst e2
   rw [ixL_no _ h2, if_pos rfl]
  ·have hr2 : ∀ y ∈ pc' ++ t3, 0 ≤ y ∧ y ≤ 255 := fun y hy => hr y (by rw [e1]; simp only [List.mem_append] at hy ⊢; exact .inr (.inr hy))
   obtain ⟨_, q2, _, r', hr'⟩ := stp_esc h5 hr2 k
   have e5 : ixL t2 = (p.length : Int) := by
    rw [e1, hr', List.cons_append]
    exact ixL_at p _ h2
   have e6 : t2.drop p.length = pc' ++ t3 := by rw [e1]; simp
   have e7 : t2.take p.length = p := by rw [e1]; simp
   have hlen : t2.length = p.length + (pc'.length + t3.length) := by rw [e1]; simp
   rw [e5, if_neg (by omega), Int.toNat_natCast, e6, e7, ih pc' x' t3 u3 _ f (by omega) (by omega) h5 h6 hr2, e2]
   simp only [List.append_assoc]
theorem unc_db {t u : List Int} (h : DB t u) (hr : ∀ y ∈ t, 0 ≤ y ∧ y ≤ 255) : Ev (fun k => unc k t) (some u) := by
 refine ⟨t.length + 10, fun k hk => ?_⟩
 obtain ⟨k, rfl⟩ : ∃ j, k = j + 5 := ⟨k - 5, by omega⟩
 show unc (k + 5) t = some (some u)
 unfold unc
 obtain ⟨p, r, u', e1, e2, h2, h3⟩ := db_split h
 rcases h3 with ⟨rfl, rfl⟩ | ⟨pc', x', t3, u3, rfl, rfl, h5, h6⟩
 ·rw [List.append_nil] at e1 e2
  subst e1
  subst e2
  rw [ixL_no _ h2, if_pos rfl]
 ·have hr2 : ∀ y ∈ pc' ++ t3, 0 ≤ y ∧ y ≤ 255 := fun y hy => hr y (by rw [e1]; simp only [List.mem_append] at hy ⊢; exact .inr hy)
  obtain ⟨_, q2, _, r', hr'⟩ := stp_esc h5 hr2 k
  have e5 : ixL t = (p.length : Int) := by
   rw [e1, hr', List.cons_append]
   exact ixL_at p _ h2
  have e6 : t.drop p.length = pc' ++ t3 := by rw [e1]; simp
  have e7 : t.take p.length = p := by rw [e1]; simp
  have hlen : t.length = p.length + (pc'.length + t3.length) := by rw [e1]; simp
  rw [e5, if_neg (by omega), Int.toNat_natCast, e6, e7, jun_db k t3.length pc' x' t3 u3 _ (k + 5) (Nat.le_refl _) (by omega) h5 h6 hr2, e2]
  simp only [List.append_assoc]
end Go.Proofs.YtaigbkkgmncipaaDoor.J
end
section
namespace Go.Proofs.YtaigbkkgmncipaaDoor.Pure
open Go.RowKit Go.Proofs.YtaigbkkgmncipaaDoor.Y Go.Proofs.YtaigbkkgmncipaaDoor.U Go.Proofs.YtaigbkkgmncipaaDoor.J Go.Proofs.YtaigbkkgmncipaaDoorW.PrintWords Go.Proofs.YtaigbkkgmncipaaDoorW.PrintLast
set_option linter.unusedVariables false
set_option linter.unusedSimpArgs false
theorem u8_wf {l : List Int} (h : ∀ x ∈ l, (Lit.int .u8 x).wf = true) : ∀ x ∈ l, 0 ≤ x ∧ x ≤ 255 := by
 intro x hx
 have := h x hx
 simp [Lit.wf] at this
 have e1 : IntKind.u8.min = 0 := rfl
 have e2 : IntKind.u8.max = 255 := rfl
 omega
theorem FnJpParseStringForms : laws_FnJpParseStringForms.Pure := by
 intro a0 l1 h0 _ _ hw
 have hu := u8_wf hw
 have j0t : Ev (fun k => laws_FnJpParseStringForms.j0 k a0 l1 true) true := Ev.step (f := fun _ => some true) (fun k => by simp only [laws_FnJpParseStringForms.j0, if_true]) (Ev.now _)
 have j1t : Ev (fun k => laws_FnJpParseStringForms.j1 k a0 l1 true) true := Ev.step (f := fun _ => some true) (fun k => by simp only [laws_FnJpParseStringForms.j1, if_true]) (Ev.now _)
 have main : Ev (fun k => laws_FnJpParseStringForms.f k a0 l1) true := by
  unfold laws_FnJpParseStringForms.f
  by_cases c1 : (a0.size : Int) > 2147483647
  ·exact Ev.congr (fun _ => if_pos c1) j0t
  refine Ev.congr (fun _ => if_neg c1) ?_
  by_cases c2 : (l1.length : Int) > 2147483647
  ·rw [decide_eq_true c2]; exact j0t
  rw [decide_eq_false c2]
  refine Ev.step (f := fun k => if (a0.size : Int) > 8192 then (laws_FnJpParseStringForms.j1 k a0 l1 true) else ((spec_UTF8.f k a0).bind fun t101 => (laws_FnJpParseStringForms.j1 k a0 l1 (!t101)))) (fun k => by simp only [laws_FnJpParseStringForms.j0]; rw [if_neg zq45]) ?_
  by_cases c3 : (a0.size : Int) > 8192
  ·exact Ev.congr (fun _ => if_pos c3) j1t
  refine Ev.congr (fun _ => if_neg c3) ?_
  obtain ⟨t, e1, e2⟩ := utf8_val h0 _ 0 rfl (by omega)
  refine Ev.bind (show Ev (fun k => spec_UTF8.f k a0) t from e1) ?_
  cases t with
  | false => exact j1t
  | true =>
   obtain ⟨d, a, t, b, h1, h2, h3, h4, h5, h6⟩ := dress_eq (by omega) hu (e2 rfl)
   have hsz : d.size = a.length + t.length + b.length + 2 := by
    rw [← bytesOf_length, h2]
    simp only [List.length_append, List.length_cons]
    omega
   have hp := places_str (by omega) h2 h3 h4 (by rw [strL_db h5, strL_end])
   have w1 : wrap64 ((a.length : Int) + 1) = ((a.length + 1 : Nat) : Int) := by unfold wrap64; omega
   have w2 : wrap64 (((a.length + t.length + 2 : Nat) : Int) - 1) = ((a.length + 1 + t.length : Nat) : Int) := by unfold wrap64; omega
   have hF : From d (a.length + 1) (t ++ 34 :: b) := by
    have hF0 := From.start d
    rw [h2] at hF0
    have := hF0.app.tail
    simpa using this
   have hx := hF.extract
   have hraw : spec_Raw.f d 4 (a.length : Int) ((a.length + t.length + 2 : Nat) : Int) [] [] = some (d.extract (a.length + 1) (a.length + 1 + t.length)) := by
    unfold spec_Raw.f
    rw [if_pos rfl, w1, w2, if_pos (by omega), if_pos (by omega), if_pos (by omega), Int.toNat_natCast, Int.toNat_natCast]
   have hps : Ev (fun k => impl_JpParseString.f k (d.extract (a.length + 1) (a.length + 1 + t.length))) (a0, true) := by
    unfold impl_JpParseString.f
    refine Ev.congr (fun _ => if_pos (by rw [ByteArray.size_extract]; omega)) ?_
    rw [hx]
    have hun := unc_db h5 (fun y hy => bytesOf_range d y (by rw [h2]; simp [hy]))
    refine Ev.bind hun (J.Ev_same (Ev.now _) ?_)
    rw [strOfNums_bytesOf]
   refine Ev.step (f := fun k => (spec_Dress.f k 4 a0 [] [] l1).bind fun t102 => ((spec_Places.f k t102).bind fun bt103 => (if bt103.2.2.2.2.2 = true then ((spec_Raw.f t102 bt103.1 bt103.2.1 bt103.2.2.1 bt103.2.2.2.1 bt103.2.2.2.2.1).bind fun t114 => ((impl_JpParseString.f k t114).bind fun bt115 => (if bt115.2 = true then (some (bt115.1.toList == a0.toList)) else (some false)))) else (some true)))) (fun k => by simp only [laws_FnJpParseStringForms.j1]; rw [if_neg zq45]) (Ev.bind h1 (Ev.bind hp ?_))
   refine Ev.congr (fun _ => if_pos rfl) ?_
   simp only
   rw [hraw]
   simp only [Option.bind_some]
   refine Ev.bind hps (Ev.congr (fun _ => if_pos rfl) ?_)
   exact J.Ev_same (Ev.now _) (by simp)
 obtain ⟨K, hK⟩ := main
 exact ⟨K, hK K (Nat.le_refl _)⟩
end Go.Proofs.YtaigbkkgmncipaaDoor.Pure
end
