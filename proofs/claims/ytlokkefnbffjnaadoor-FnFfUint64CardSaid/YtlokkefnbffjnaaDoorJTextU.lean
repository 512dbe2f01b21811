/- JSON texts as lists of bytes: blanks, strings, what a string's body says. -/
import Derived.Test.YtlokkefnbffjnaaDoorUx0
namespace Go.Proofs.YtlokkefnbffjnaaDoor.J
open Go.RowKit Go.Proofs.YtlokkefnbffjnaaDoorW.PrintWords Go.Proofs.YtlokkefnbffjnaaDoorW.PrintLast

theorem w64 {x : Int} (h : -9223372036854775808 ≤ x ∧ x ≤ 9223372036854775807) : wrap64 x = x := by
  unfold wrap64
  omega
theorem Ev_same {α : Type} {g : Nat → Option α} {r r' : α} (h : Ev g r) (e : r = r') : Ev g r' := e ▸ h
/-- From a place on, a text reads so. -/
def From (s : ByteArray) (i : Nat) (l : List Int) : Prop := i ≤ s.size ∧ (bytesOf s).drop i = l
theorem From.len {s : ByteArray} {i : Nat} {l : List Int} (h : From s i l) : i + l.length = s.size := by
  have h1 := h.1
  rw [← h.2, List.length_drop, bytesOf_length]
  omega
theorem From.start (s : ByteArray) : From s 0 (bytesOf s) := ⟨Nat.zero_le _, rfl⟩
theorem From.at {s : ByteArray} {i : Nat} (h : i ≤ s.size) : From s i ((bytesOf s).drop i) := ⟨h, rfl⟩
theorem From.drop {s : ByteArray} {i : Nat} {l : List Int} (h : From s i l) (n : Nat) (hn : n ≤ l.length) : From s (i + n) (l.drop n) := by
  have := h.len
  exact ⟨by omega, by rw [← h.2, List.drop_drop]⟩
theorem From.app {s : ByteArray} {i : Nat} {a l : List Int} (h : From s i (a ++ l)) : From s (i + a.length) l := by
  have := h.drop a.length (by simp)
  simpa using this
theorem From.tail {s : ByteArray} {i : Nat} {a : Int} {l : List Int} (h : From s i (a :: l)) : From s (i + 1) l := by
  have := h.drop 1 (by simp)
  simpa using this
theorem From.lt {s : ByteArray} {i : Nat} {a : Int} {l : List Int} (h : From s i (a :: l)) : i < s.size := by
  have := h.len
  simp at this
  omega
theorem From.bt {s : ByteArray} {i : Nat} {a : Int} {l : List Int} (h : From s i (a :: l)) : bt s (i : Int) = a := by
  have h1 : (bytesOf s)[i]? = some a := by
    have := congrArg (·[0]?) h.2
    simpa using this
  rw [← rd_bytesOf]
  unfold rd
  simp [List.getD_eq_getElem?_getD, h1]
theorem From.nil {s : ByteArray} {i : Nat} (h : From s i []) : i = s.size := by
  have := h.len
  simpa using this
theorem From.same {s : ByteArray} {i : Nat} {l l' : List Int} (h : From s i l) (h' : From s i l') : l = l' := h.2.symm.trans h'.2
theorem bytesOf_range (s : ByteArray) : ∀ a ∈ bytesOf s, 0 ≤ a ∧ a ≤ 255 := by
  intro a ha
  unfold bytesOf at ha
  rw [List.mem_map] at ha
  obtain ⟨b, _, rfl⟩ := ha
  have := b.toNat_lt
  omega
theorem From.range {s : ByteArray} {i : Nat} {l : List Int} (h : From s i l) : ∀ a ∈ l, 0 ≤ a ∧ a ≤ 255 := by
  intro a ha
  rw [← h.2] at ha
  exact bytesOf_range s a (List.mem_of_mem_drop ha)
theorem From.head {s : ByteArray} {i : Nat} {a : Int} {l : List Int} (h : From s i (a :: l)) : 0 ≤ a ∧ a ≤ 255 := h.range a (by simp)
theorem bytesOf_extract (s : ByteArray) (i j : Nat) : bytesOf (s.extract i j) = ((bytesOf s).take j).drop i := by
  unfold bytesOf
  rw [ByteArray.data_extract, Array.toList_extract, List.extract_eq_take_drop, List.map_take, List.map_drop, List.drop_take]
theorem From.extract {s : ByteArray} {i : Nat} {a l : List Int} (h : From s i (a ++ l)) : bytesOf (s.extract i (i + a.length)) = a := by
  rw [bytesOf_extract, List.drop_take, h.2]
  simp
theorem bytesOf_strOfNums (l : List Int) (h : ∀ a ∈ l, 0 ≤ a ∧ a ≤ 255) : bytesOf (strOfNums l) = l := by
  unfold bytesOf
  rw [strOfNums_data, List.map_map]
  conv => rhs; rw [← List.map_id l]
  apply List.map_congr_left
  intro a ha
  have := h a ha
  simp only [Function.comp, id]
  rw [show (UInt8.ofNat a.toNat).toNat = a.toNat % 256 from UInt8.toNat_ofNat ..]
  omega
theorem strOfNums_bytesOf (s : ByteArray) : strOfNums (bytesOf s) = s := by
  apply ByteArray.ext
  apply Array.toList_inj.mp
  rw [strOfNums_data]
  unfold bytesOf
  rw [List.map_map]
  conv => rhs; rw [← List.map_id s.data.toList]
  apply List.map_congr_left
  intro b _
  simp [Function.comp]
theorem bytesOf_inj {s t : ByteArray} (h : bytesOf s = bytesOf t) : s = t := by
  rw [← strOfNums_bytesOf s, h, strOfNums_bytesOf]
theorem toList_inj {s t : ByteArray} (h : s.toList = t.toList) : s = t := by
  rw [ByteArray.toList_eq, ByteArray.toList_eq] at h
  exact ByteArray.ext (Array.toList_inj.mp h)

/-- A blank. -/
def isB (c : Int) : Bool := decide (c = 32 ∨ c = 9 ∨ c = 10 ∨ c = 13)
/-- What stands behind the blanks. -/
def skB : List Int → List Int
  | [] => []
  | c :: r => if isB c = true then skB r else c :: r
theorem skB_len : ∀ l, (skB l).length ≤ l.length
  | [] => Nat.le_refl _
  | c :: r => by
    unfold skB
    split
    · have := skB_len r
      simp; omega
    · exact Nat.le_refl _
theorem skB_head : ∀ l c r, skB l = c :: r → isB c = false
  | [], _, _, h => by simp [skB] at h
  | a :: l, c, r, h => by
    unfold skB at h
    split at h
    · exact skB_head l c r h
    · rename_i hn
      obtain ⟨rfl, rfl⟩ := h
      simpa using hn
theorem skB_ex : ∀ l, ∃ b, (∀ a ∈ b, isB a = true) ∧ l = b ++ skB l
  | [] => ⟨[], by simp, rfl⟩
  | c :: r => by
    unfold skB
    split
    · rename_i h
      obtain ⟨b, hb, e⟩ := skB_ex r
      exact ⟨c :: b, by simp [h]; exact hb, by rw [List.cons_append, ← e]⟩
    · exact ⟨[], by simp, rfl⟩
theorem skB_app : ∀ (b l : List Int), (∀ a ∈ b, isB a = true) → skB (b ++ l) = skB l
  | [], _, _ => rfl
  | c :: r, l, h => by
    rw [List.cons_append, skB, if_pos (h c (by simp))]
    exact skB_app r l (fun a ha => h a (by simp [ha]))
theorem skB_skB (l : List Int) : skB (skB l) = skB l := by
  match h : skB l with
  | [] => rfl
  | c :: r => rw [skB, if_neg (by simp [skB_head l c r h])]
theorem skB_no {c : Int} {r : List Int} (h : isB c = false) : skB (c :: r) = c :: r := by
  rw [skB, if_neg (by simp [h])]

/-- A hexadecimal digit's value. -/
def hexv (c : Int) : Option Int := if 48 ≤ c ∧ c ≤ 57 then some (c - 48) else if 97 ≤ c ∧ c ≤ 102 then some (c - 87) else if 65 ≤ c ∧ c ≤ 70 then some (c - 55) else none
theorem hexv_range {c v : Int} (h : hexv c = some v) : 0 ≤ v ∧ v ≤ 15 := by
  unfold hexv at h
  split at h
  · cases h; omega
  split at h
  · cases h; omega
  split at h
  · cases h; omega
  · cases h
/-- Four hexadecimal digits' value. -/
def hex4 : List Int → Option Int
  | a :: b :: c :: d :: _ => (hexv a).bind fun x => (hexv b).bind fun y => (hexv c).bind fun z => (hexv d).bind fun u => some (((x * 16 + y) * 16 + z) * 16 + u)
  | _ => none
theorem hex4_len {l : List Int} {v : Int} (h : hex4 l = some v) : 4 ≤ l.length := by
  unfold hex4 at h
  split at h
  · simp
  · cases h
theorem hex4_range {l : List Int} {v : Int} (h : hex4 l = some v) : 0 ≤ v ∧ v ≤ 65535 := by
  unfold hex4 at h
  split at h
  · rename_i a b c d _
    obtain ⟨x, hx, h⟩ := Option.bind_eq_some_iff.mp h
    obtain ⟨y, hy, h⟩ := Option.bind_eq_some_iff.mp h
    obtain ⟨z, hz, h⟩ := Option.bind_eq_some_iff.mp h
    obtain ⟨u, hu, h⟩ := Option.bind_eq_some_iff.mp h
    have := hexv_range hx
    have := hexv_range hy
    have := hexv_range hz
    have := hexv_range hu
    cases h
    omega
  · cases h
/-- Is it a letter that may stand behind a backslash alone? -/
def isE (c : Int) : Bool := decide (c = 34 ∨ c = 92 ∨ c = 47 ∨ c = 98 ∨ c = 102 ∨ c = 110 ∨ c = 114 ∨ c = 116)
/-- What stands behind an escape, of what stands behind its backslash. -/
def escL : List Int → Option (List Int)
  | [] => none
  | c :: r => if isE c = true then some r else if c = 117 then (hex4 r).bind fun _ => some (r.drop 4) else none
theorem escL_len {l r : List Int} (h : escL l = some r) : r.length < l.length := by
  unfold escL at h
  split at h
  · cases h
  · split at h
    · cases h; simp
    · split at h
      · obtain ⟨v, hv, h⟩ := Option.bind_eq_some_iff.mp h
        have := hex4_len hv
        cases h
        simp
        omega
      · cases h
/-- What stands behind a string, of what stands behind its first quotation mark. -/
def strL (l : List Int) : Option (List Int) :=
  match l with
  | [] => none
  | c :: r => if c = 34 then some r else if c < 32 then none else if c = 92 then (match _h : escL r with
    | none => none
    | some r' => strL r') else strL r
termination_by l.length
decreasing_by
  · have := escL_len ‹_›
    simp; omega
  · simp
theorem strL_nil : strL [] = none := by rw [strL]
theorem strL_end (r : List Int) : strL (34 :: r) = some r := by rw [strL, if_pos rfl]
theorem strL_low {c : Int} (r : List Int) (h : c < 32) : strL (c :: r) = none := by
  rw [strL, if_neg (by omega), if_pos h]
theorem strL_esc (r : List Int) : strL (92 :: r) = (escL r).bind strL := by
  rw [strL, if_neg (by omega), if_neg (by omega), if_pos rfl]
  split
  · rename_i h
    rw [h]; rfl
  · rename_i r' h
    rw [h]; rfl
theorem strL_raw {c : Int} (r : List Int) (h : c ≠ 34 ∧ ¬ c < 32 ∧ c ≠ 92) : strL (c :: r) = strL r := by
  rw [strL, if_neg h.1, if_neg h.2.1, if_neg h.2.2]
theorem strL_len : ∀ (n : Nat) (l r : List Int), l.length ≤ n → strL l = some r → r.length < l.length
  | _, [], r, _, h => by rw [strL_nil] at h; cases h
  | 0, c :: l, r, hn, h => by simp at hn
  | n + 1, c :: l, r, hn, h => by
    simp only [List.length_cons] at hn ⊢
    by_cases h1 : c = 34
    · subst h1
      rw [strL_end] at h
      cases h
      omega
    by_cases h2 : c < 32
    · rw [strL_low _ h2] at h
      cases h
    by_cases h3 : c = 92
    · subst h3
      rw [strL_esc] at h
      obtain ⟨r', h4, h5⟩ := Option.bind_eq_some_iff.mp h
      have := escL_len h4
      have := strL_len n r' r (by omega) h5
      omega
    · rw [strL_raw _ ⟨h1, h2, h3⟩] at h
      have := strL_len n l r (by omega) h
      omega

/-- What a letter behind a backslash stands for. -/
def unl (b : Int) : Int := if b = 98 then 8 else if b = 102 then 12 else if b = 110 then 10 else if b = 114 then 13 else if b = 116 then 9 else b
def hiS (n : Int) : Bool := decide (55296 ≤ n ∧ n ≤ 56319)
def loS (n : Int) : Bool := decide (56320 ≤ n ∧ n ≤ 57343)
/-- A character in UTF-8; half a surrogate pair as U+FFFD. -/
def utf (c : Int) : List Int :=
  if c < 128 then [c]
  else if c < 2048 then [192 + c / 64, 128 + c % 64]
  else if hiS c = true ∨ loS c = true then [239, 191, 189]
  else if c < 65536 then [224 + c / 4096, 128 + c / 64 % 64, 128 + c % 64]
  else [240 + c / 262144, 128 + c / 4096 % 64, 128 + c / 64 % 64, 128 + c % 64]
/-- An escape of a number stands here: the number. -/
def unitL : List Int → Option Int
  | a :: b :: r => if a = 92 ∧ b = 117 then hex4 r else none
  | _ => none
theorem unitL_len {l : List Int} {v : Int} (h : unitL l = some v) : 6 ≤ l.length := by
  unfold unitL at h
  split at h
  · split at h
    · have := hex4_len h
      simp
      omega
    · cases h
  · cases h
/-- What a string's body says. -/
def unqL (l : List Int) : List Int :=
  match l with
  | [] => []
  | c :: r => if c = 92 then (match _h : unitL (c :: r) with
      | some n => if (match unitL (r.drop 5) with | some m => hiS n && loS m | none => false) = true then utf (65536 + (n - 55296) * 1024 + ((unitL (r.drop 5)).getD 0 - 56320)) ++ unqL (r.drop 11) else utf n ++ unqL (r.drop 5)
      | none => (match r with
        | [] => []
        | b :: r' => unl b :: unqL r')) else c :: unqL r
termination_by l.length
decreasing_by all_goals (simp; try omega)

/-- What may stand between a string's quotation marks. -/
inductive Body : List Int → Prop
  | nil : Body []
  | raw {c : Int} {l : List Int} : c ≠ 34 → ¬ c < 32 → c ≠ 92 → Body l → Body (c :: l)
  | two {b : Int} {l : List Int} : isE b = true → Body l → Body (92 :: b :: l)
  | six {a b c d v : Int} {l : List Int} : hex4 (a :: b :: c :: d :: l) = some v → Body l → Body (92 :: 117 :: a :: b :: c :: d :: l)
theorem hex4_more {a b c d : Int} (l l' : List Int) : hex4 (a :: b :: c :: d :: l) = hex4 (a :: b :: c :: d :: l') := rfl
theorem isE_117 : isE 117 = false := by decide
theorem escL_let {b : Int} (l : List Int) (h : isE b = true) : escL (b :: l) = some l := by
  rw [escL, if_pos h]
theorem escL_hex {a b c d v : Int} {l : List Int} (h : hex4 (a :: b :: c :: d :: l) = some v) : escL (117 :: a :: b :: c :: d :: l) = some l := by
  rw [escL, if_neg (by simp [isE_117]), if_pos rfl, h]
  rfl
theorem strL_body {b : List Int} (h : Body b) (r : List Int) : strL (b ++ 34 :: r) = some r := by
  induction h with
  | nil => exact strL_end r
  | raw h1 h2 h3 _ ih => rw [List.cons_append, strL_raw _ ⟨h1, h2, h3⟩, ih]
  | two h1 _ ih => rw [List.cons_append, List.cons_append, strL_esc, escL_let _ h1]; exact ih
  | six h1 _ ih =>
    simp only [List.cons_append]
    rw [strL_esc, escL_hex (v := by assumption) ((hex4_more _ _).trans h1)]
    exact ih
theorem escL_ex {l r : List Int} (h : escL l = some r) : (∃ b, isE b = true ∧ l = b :: r) ∨ ∃ a b c d v, hex4 (a :: b :: c :: d :: r) = some v ∧ l = 117 :: a :: b :: c :: d :: r := by
  unfold escL at h
  split at h
  · cases h
  · rename_i c l
    split at h
    · cases h
      exact .inl ⟨_, by assumption, rfl⟩
    · split at h
      · obtain ⟨v, hv, h⟩ := Option.bind_eq_some_iff.mp h
        cases h
        subst c
        match l, hv with
        | a :: b :: c :: d :: l, hv => exact .inr ⟨a, b, c, d, v, hv, rfl⟩
      · cases h
theorem body_strL : ∀ (n : Nat) {l r : List Int}, l.length ≤ n → strL l = some r → ∃ b, Body b ∧ l = b ++ 34 :: r
  | _, [], r, _, h => by rw [strL_nil] at h; cases h
  | 0, c :: l, r, hn, h => by simp at hn
  | n + 1, c :: l, r, hn, h => by
    simp only [List.length_cons] at hn
    by_cases h1 : c = 34
    · subst h1
      rw [strL_end] at h
      cases h
      exact ⟨[], .nil, rfl⟩
    by_cases h2 : c < 32
    · rw [strL_low _ h2] at h
      cases h
    by_cases h3 : c = 92
    · subst h3
      rw [strL_esc] at h
      obtain ⟨r', h4, h5⟩ := Option.bind_eq_some_iff.mp h
      have := escL_len h4
      obtain ⟨t, ht, e⟩ := body_strL n (by omega) h5
      rcases escL_ex h4 with ⟨b, hb, rfl⟩ | ⟨a, b, c, d, v, hv, rfl⟩
      · exact ⟨92 :: b :: t, .two hb ht, by rw [e]; rfl⟩
      · subst e
        exact ⟨92 :: 117 :: a :: b :: c :: d :: t, .six ((hex4_more _ _).trans hv) ht, rfl⟩
    · rw [strL_raw _ ⟨h1, h2, h3⟩] at h
      obtain ⟨t, ht, e⟩ := body_strL n (by omega) h
      exact ⟨c :: t, .raw h1 h2 h3 ht, by rw [e]; rfl⟩
theorem strL_iff {l r : List Int} : strL l = some r ↔ ∃ b, Body b ∧ l = b ++ 34 :: r :=
  ⟨fun h => body_strL _ (Nat.le_refl _) h, fun ⟨_, hb, e⟩ => e ▸ strL_body hb r⟩
/-! ### what a body says, step by step -/
theorem unqL_nil : unqL [] = [] := by rw [unqL]
theorem unqL_raw {c : Int} (l : List Int) (h : c ≠ 92) : unqL (c :: l) = c :: unqL l := by
  rw [unqL, if_neg h]
theorem unitL_six {a b c d v : Int} {l : List Int} (h : hex4 (a :: b :: c :: d :: l) = some v) : unitL (92 :: 117 :: a :: b :: c :: d :: l) = some v := by
  show (if (92 : Int) = 92 ∧ (117 : Int) = 117 then hex4 (a :: b :: c :: d :: l) else none) = some v
  rw [if_pos ⟨rfl, rfl⟩, h]
theorem unitL_two {b : Int} {l : List Int} (h : b ≠ 117) : unitL (92 :: b :: l) = none := by
  show (if (92 : Int) = 92 ∧ b = 117 then hex4 l else none) = none
  rw [if_neg (by omega)]
theorem isE_ne {b : Int} (h : isE b = true) : b ≠ 117 := fun e => by rw [e, isE_117] at h; cases h
theorem unqL_two {b : Int} (l : List Int) (h : b ≠ 117) : unqL (92 :: b :: l) = unl b :: unqL l := by
  rw [unqL, if_pos rfl]
  split
  · rename_i n hn
    rw [unitL_two h] at hn
    cases hn
  · rfl
/-- Two numbers that are the halves of one character. -/
def pairL (n : Int) (l : List Int) : Option Int := (unitL l).bind fun m => if (hiS n && loS m) = true then some m else none
theorem unqL_six {a b c d v : Int} {l : List Int} (h : hex4 (a :: b :: c :: d :: l) = some v) : unqL (92 :: 117 :: a :: b :: c :: d :: l) =
    match pairL v l with
    | some m => utf (65536 + (v - 55296) * 1024 + (m - 56320)) ++ unqL (l.drop 6)
    | none => utf v ++ unqL l := by
  rw [unqL, if_pos rfl]
  split
  · rename_i n hn
    rw [unitL_six h] at hn
    cases hn
    simp only [List.drop_succ_cons, List.drop_zero, pairL]
    cases hu : unitL l with
    | none => simp
    | some m =>
      simp only [Option.bind_some, Option.getD_some]
      by_cases e : (hiS v && loS m) = true
      · rw [if_pos e, if_pos e]
      · rw [if_neg e, if_neg e]
  · rename_i hn
    rw [unitL_six h] at hn
    cases hn
theorem body_drop6 {m : Int} {l : List Int} (hb : Body l) (h : unitL l = some m) : Body (l.drop 6) := by
  cases hb with
  | nil => simp [unitL] at h
  | raw h1 h2 h3 hb =>
    unfold unitL at h
    split at h
    · rename_i e
      injection e with e1 e2
      rw [if_neg (by omega)] at h
      cases h
    · cases h
  | two h1 hb => rw [unitL_two (isE_ne h1)] at h; cases h
  | six h1 hb => exact hb
theorem utf_len (c : Int) : 1 ≤ (utf c).length ∧ (utf c).length ≤ 4 := by
  unfold utf
  repeat' split
  all_goals simp
theorem utf_range {c : Int} (h0 : 0 ≤ c) (h1 : c ≤ 1114111) : ∀ a ∈ utf c, 0 ≤ a ∧ a ≤ 255 := by
  unfold utf
  intro a ha
  split at ha
  · simp at ha; omega
  split at ha
  · simp at ha; omega
  split at ha
  · simp at ha; omega
  split at ha
  · simp at ha; omega
  · simp at ha; omega

end Go.Proofs.YtlokkefnbffjnaaDoor.J
