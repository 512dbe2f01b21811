/- The words, walks and laws that the proof rests on, laid together (part 5). -/
import Derived.Test.YtaigbkkgmncipaaDoorKFnGjStringText4
section
namespace Go.Proofs.YtaigbkkgmncipaaDoor.J
open Go.RowKit Go.Proofs.YtaigbkkgmncipaaDoor.G Go.Proofs.YtaigbkkgmncipaaDoor.U Go.Proofs.YtaigbkkgmncipaaDoorW.PrintWords Go.Proofs.YtaigbkkgmncipaaDoorW.PrintLast
set_option linter.unusedVariables false
set_option linter.unusedSimpArgs false
theorem dx_size (s : ByteArray) (i n : Nat) (h : i + n ≤ s.size) : (s.extract i (i + n)).size = n := by
 rw [ByteArray.size_extract]
 omega
theorem dx_list (s : ByteArray) (i n : Nat) (h : i + n ≤ s.size) : bytesOf (s.extract i (i + n)) = (List.range n).map fun j => (nb s (i + j) : Int) := by
 have hl : (bytesOf (s.extract i (i + n))).length = n := by rw [bytesOf_length, dx_size s i n h]
 refine List.ext_getElem (by simp [hl]) fun j h1 h2 => ?_
 have hj : j < n := by omega
 have h3 : rd (bytesOf (s.extract i (i + n))) (j : Int) = bt s ((i + j : Nat) : Int) := by
  rw [rd_bytesOf]
  unfold bt
  simp only [Int.toNat_natCast]
  rw [dif_pos (by rw [dx_size s i n h]; exact hj), dif_pos (by omega)]
  simp [ByteArray.getElem_extract]
 rw [nb_bt] at h3
 simp only [List.getElem_map, List.getElem_range]
 rw [← h3]
 simp [rd, h1]
theorem hiS_eq (c : Int) : hiS c = true ↔ 55296 ≤ c ∧ c ≤ 56319 := by unfold hiS; simp
theorem loS_eq (c : Int) : loS c = true ↔ 56320 ≤ c ∧ c ≤ 57343 := by unfold loS; simp
theorem chr_utf {s : ByteArray} {i c n : Nat} (hc : Chr s i c n) : bytesOf (s.extract i (i + n)) = utf (c : Int) ∧ ¬ (55296 ≤ c ∧ c ≤ 57343) := by
 have hd := hc.dec
 have hf := hc.fit
 have hh := hc.high
 have hlo := hc.low
 have h0 := nb_lt s i
 have h1 := nb_lt s (i + 1)
 have h2 := nb_lt s (i + 2)
 have h3 := nb_lt s (i + 3)
 rw [dx_list s i n hf]
 rw [Lib.decode_at] at hd
 change Lib.decodeN (s.size - i) (nb s i) (nb s (i + 1)) (nb s (i + 2)) (nb s (i + 3)) = _ at hd
 by_cases hl : nb s i < 128
 ·obtain ⟨rfl, rfl⟩ := hlo hl
  refine ⟨?_, by omega⟩
  unfold utf
  rw [if_pos (by omega)]
  simp
 have hh2 := hh (by omega)
 unfold Lib.decodeN at hd
 rw [if_neg hl] at hd
 unfold utf
 rw [if_neg (by omega)]
 split at hd
 ·rename_i hq
  split at hd
  ·injection hd with e1 e2
   subst e2
   refine ⟨?_, by omega⟩
   rw [if_pos (by omega)]
   simp only [List.range, List.range.loop, List.map_cons, List.map_nil, Nat.add_zero]
   congr 1
   ·omega
   ·congr 1
    omega
  ·injection hd with e1 e2
   omega
 ·split at hd
  ·rename_i hq
   split at hd
   ·rename_i hv
    injection hd with e1 e2
    subst e2
    refine ⟨?_, by omega⟩
    rw [if_neg (by omega), if_neg (by rw [hiS_eq, loS_eq]; omega), if_pos (by omega)]
    simp only [List.range, List.range.loop, List.map_cons, List.map_nil, Nat.add_zero]
    congr 1
    ·omega
    ·congr 1
     ·omega
     ·congr 1
      omega
   ·injection hd with e1 e2
    omega
  ·split at hd
   ·rename_i hq
    split at hd
    ·rename_i hv
     injection hd with e1 e2
     subst e2
     refine ⟨?_, by omega⟩
     rw [if_neg (by omega), if_neg (by rw [hiS_eq, loS_eq]; omega), if_neg (by omega)]
     simp only [List.range, List.range.loop, List.map_cons, List.map_nil, Nat.add_zero]
     congr 1
     ·omega
     ·congr 1
      ·omega
      ·congr 1
       ·omega
       ·congr 1
        omega
    ·injection hd with e1 e2
     omega
   ·injection hd with e1 e2
    omega
inductive Pc : List Int → List Int → Prop
  | raw {p : List Int} : (∀ x ∈ p, 32 ≤ x ∧ x ≠ 34 ∧ x ≠ 92) → Pc p p
  | two {d : Int} : isE d = true → Pc [92, d] [unl d]
  | six {a b c d v : Int} : hex4 [a, b, c, d] = some v → ¬ (55296 ≤ v ∧ v ≤ 57343) → Pc [92, 117, a, b, c, d] (utf v)
  | pair {a b c d v e f g h m : Int} : hex4 [a, b, c, d] = some v → hex4 [e, f, g, h] = some m → 55296 ≤ v → v ≤ 56319 → 56320 ≤ m → m ≤ 57343 → Pc [92, 117, a, b, c, d, 92, 117, e, f, g, h] (utf (65536 + (v - 55296) * 1024 + (m - 56320)))
inductive DB : List Int → List Int → Prop
  | nil : DB [] []
  | cons {p x t u : List Int} : Pc p x → DB t u → DB (p ++ t) (x ++ u)
theorem strL_raws : ∀ (p r : List Int), (∀ x ∈ p, 32 ≤ x ∧ x ≠ 34 ∧ x ≠ 92) → strL (p ++ r) = strL r
 | [], _, _ => rfl
 | c :: p, r, h => by
  have h1 := h c (by simp)
  rw [List.cons_append, strL_raw _ ⟨h1.2.1, by omega, h1.2.2⟩]
  exact strL_raws p r fun x hx => h x (by simp [hx])
theorem escL_six {a b c d v : Int} (r : List Int) (h : hex4 [a, b, c, d] = some v) : escL (117 :: a :: b :: c :: d :: r) = some r := by
 rw [escL, isE_117, if_neg zq40, if_pos rfl, hex4_more r [], h]
 rfl
theorem strL_db {t u : List Int} (h : DB t u) (r : List Int) : strL (t ++ r) = strL r := by
 induction h with
 | nil => rfl
 | cons hp _ ih =>
  rw [List.append_assoc]
  cases hp with
  | raw h1 => rw [strL_raws _ _ h1, ih]
  | two h1 =>
   rw [List.cons_append, List.cons_append, List.nil_append, strL_esc, escL_let _ h1]
   exact ih
  | six h1 h2 =>
   simp only [List.cons_append, List.nil_append]
   rw [strL_esc, escL_six _ h1]
   exact ih
  | pair h1 h2 h3 h4 h5 h6 =>
   simp only [List.cons_append, List.nil_append]
   rw [strL_esc, escL_six _ h1, Option.bind_some, strL_esc, escL_six _ h2]
   exact ih
theorem digF_hex {d up : Int} (h : 0 ≤ d ∧ d < 16) : hexv (digF d up) = some d ∧ 48 ≤ digF d up ∧ digF d up ≤ 102 := by
 unfold digF hexv
 by_cases h10 : d < 10
 ·rw [if_pos h10, if_pos (by omega)]
  exact ⟨congrArg some (by omega), by omega, by omega⟩
 rw [if_neg h10]
 by_cases hu : up = 1
 rotate_left
 ·rw [if_neg hu, if_neg (by omega), if_pos (by omega)]
  exact ⟨congrArg some (by omega), by omega, by omega⟩
 rw [if_pos hu, if_neg (by omega), if_neg (by omega), if_pos (by omega)]
 exact ⟨congrArg some (by omega), by omega, by omega⟩
theorem unit5_hex (code : List Int) {m : Int} (hm : 0 ≤ m ∧ m ≤ 65535) (used : Int) (out : List Int) : ∃ a b c d, (unit5F code m used out).2 = out ++ [92, 117, a, b, c, d] ∧ hex4 [a, b, c, d] = some m ∧ ∀ x ∈ [a, b, c, d], 48 ≤ x ∧ x ≤ 102 := by
 unfold unit5F
 simp only [unitF, List.append_assoc, List.cons_append, List.nil_append]
 refine ⟨_, _, _, _, rfl, ?_, ?_⟩
 ·simp only [hex4]
  rw [(digF_hex zq57).1, (digF_hex zq57).1, (digF_hex zq57).1, (digF_hex zq57).1]
  simp only [Option.bind_some, Int.reducePow, Nat.reducePow]
  congr 1
  omega
 ·intro x hx
  simp only [List.mem_cons, List.mem_nil_iff, or_false] at hx
  rcases hx with rfl | rfl | rfl | rfl <;> exact (digF_hex zq57).2
theorem escF_pc (code : List Int) {c : Int} (hc : 0 ≤ c ∧ c ≤ 1114111) (hs : ¬ (55296 ≤ c ∧ c ≤ 57343)) (used : Int) (out : List Int) : ∃ p, (escF code c used out).2 = out ++ p ∧ Pc p (utf c) ∧ ∀ x ∈ p, 0 ≤ x ∧ x ≤ 255 := by
 unfold escF
 split
 ·rename_i hb
  obtain ⟨a1, b1, c1, d1, e1, h1, r1⟩ := unit5_hex code (m := 55296 + (c - 65536) / 1024) (by omega) used out
  obtain ⟨a2, b2, c2, d2, e2, h2, r2⟩ := unit5_hex code (m := 56320 + (c - 65536) % 1024) (by omega) (unit5F code (55296 + (c - 65536) / 1024) used out).1 (unit5F code (55296 + (c - 65536) / 1024) used out).2
  refine ⟨[92, 117, a1, b1, c1, d1, 92, 117, a2, b2, c2, d2], by rw [e2, e1]; simp, ?_, ?_⟩
  ·have := Pc.pair h1 h2 (by omega) (by omega) (by omega) (by omega)
   rwa [show 65536 + (55296 + (c - 65536) / 1024 - 55296) * 1024 + (56320 + (c - 65536) % 1024 - 56320) = c by omega] at this
  ·intro x hx
   simp only [List.mem_cons, List.mem_nil_iff, or_false] at hx r1 r2
   rcases hx with rfl | rfl | hx | hx | hx | hx | rfl | rfl | hx | hx | hx | hx
   ·omega
   ·omega
   ·have := r1 x (by simp [hx]); omega
   ·have := r1 x (by simp [hx]); omega
   ·have := r1 x (by simp [hx]); omega
   ·have := r1 x (by simp [hx]); omega
   ·omega
   ·omega
   ·have := r2 x (by simp [hx]); omega
   ·have := r2 x (by simp [hx]); omega
   ·have := r2 x (by simp [hx]); omega
   ·have := r2 x (by simp [hx]); omega
 ·obtain ⟨a1, b1, c1, d1, e1, h1, r1⟩ := unit5_hex code (m := c) (by omega) used out
  refine ⟨[92, 117, a1, b1, c1, d1], e1, .six h1 hs, ?_⟩
  intro x hx
  simp only [List.mem_cons, List.mem_nil_iff, or_false] at hx r1
  rcases hx with rfl | rfl | hx | hx | hx | hx
  ·omega
  ·omega
  ·have := r1 x (by simp [hx]); omega
  ·have := r1 x (by simp [hx]); omega
  ·have := r1 x (by simp [hx]); omega
  ·have := r1 x (by simp [hx]); omega
theorem short_two {z l : Int} (h : spec_shortOf.f z = some (l, true)) : isE l = true ∧ unl l = z ∧ z < 128 := by
 unfold spec_shortOf.f at h
 repeat' split at h
 all_goals first
  | (simp only [Option.some.injEq, Prod.mk.injEq, Bool.false_eq_true, and_false] at h; done)
  | (simp only [Option.some.injEq, Prod.mk.injEq, and_true] at h; subst h; subst_vars; refine ⟨by decide, by decide, by decide⟩)
  | (simp only [Option.some.injEq, Prod.mk.injEq, and_true] at h; subst h; simp_all [isE, unl])
theorem short_ex (z : Int) : ∃ l ok, spec_shortOf.f z = some (l, ok) := by
 unfold spec_shortOf.f
 repeat' split
 all_goals exact ⟨_, _, rfl⟩
theorem step_pc (code : List Int) {s : ByteArray} {i c n : Nat} (hi : i < s.size) (hc : Chr s i c n) {l : Int} {ok : Bool} (hl : spec_shortOf.f (bt s i) = some (l, ok)) (used : Int) (out : List Int) :
 ∃ p, (stepF code (mustB (bt s i)) ok l c (bytesOf (s.extract i (i + n))) used out).2 = out ++ p ∧ Pc p (utf (c : Int)) ∧ ∀ x ∈ p, 0 ≤ x ∧ x ≤ 255 := by
 obtain ⟨hu, hsg⟩ := chr_utf hc
 have ht := hc.top
 have hR : ∀ x ∈ utf (c : Int), 0 ≤ x ∧ x ≤ 255 := utf_range (by omega) (by omega)
 unfold stepF
 split
 ·exact escF_pc code (by omega) (by omega) _ _
 ·rename_i hn
  split
  ·rename_i hq
   obtain ⟨rfl, _⟩ := hq
   obtain ⟨h1, h2, h3⟩ := short_two hl
   rw [nb_bt] at h2 h3
   have h4 := (hc.low (by omega)).1
   refine ⟨[92, l], rfl, ?_, ?_⟩
   ·have := Pc.two h1
    rw [h2] at this
    unfold utf
    rw [if_pos (by omega), h4]
    exact this
   ·have hE : isE l = true := h1
    simp only [isE, decide_eq_true_eq] at hE
    intro x hx
    simp only [List.mem_cons, List.mem_nil_iff, or_false] at hx
    omega
  ·rename_i hq
   refine ⟨_, rfl, ?_, by rw [hu]; exact hR⟩
   rw [hu]
   refine .raw ?_
   have hm : mustB (bt s i) = false := by
    cases hm : mustB (bt s i) with
    | false => rfl
    | true =>
     cases ok with
     | true => exact absurd ⟨rfl, .inl hm⟩ hq
     | false => exact absurd (.inr ⟨hm, rfl⟩) hn
   unfold mustB at hm
   rw [nb_bt] at hm
   have hm2 := of_decide_eq_false hm
   by_cases h128 : nb s i < 128
   ·have h4 := (hc.low h128).1
    unfold utf
    rw [if_pos (by omega), h4]
    intro x hx
    simp only [List.mem_cons, List.mem_nil_iff, or_false] at hx
    omega
   have h5 := (hc.high (by omega)).1
   intro x hx
   unfold utf at hx
   rw [if_neg (by omega)] at hx
   split at hx
   ·simp at hx; omega
   split at hx
   ·simp at hx; omega
   split at hx
   ·simp at hx; omega
   ·simp at hx; omega
theorem quL_db {s : ByteArray} (hs : s.size ≤ 140737488351232) (code : List Int) {i : Nat} (hv : Val s i) : ∀ (used : Int) (out : List Int), ∃ t ru, DB t ((bytesOf s).drop i) ∧ (∀ x ∈ t, 0 ≤ x ∧ x ≤ 255) ∧ Ev (fun k => quL code s k i used out) (ru, out ++ t) := by
 induction hv with
 | done =>
  intro used out
  refine ⟨[], used, ?_, by simp, Ev.step (f := fun _ => some (used, out ++ [])) (fun k => ?_) (Ev.now _)⟩
  ·rw [List.drop_of_length_le (by rw [bytesOf_length]; exact Nat.le_refl _)]
   exact .nil
  ·rw [quL, if_neg (by omega), List.append_nil]
 | @step i c n hi hc hch _ ih =>
  intro used out
  obtain ⟨l, ok, hl⟩ := short_ex (bt s i)
  obtain ⟨p, hp, hpc, hpr⟩ := step_pc code hi hc hl used out
  obtain ⟨t, ru, h1, h2, h3⟩ := ih (stepF code (mustB (bt s i)) ok l c (bytesOf (s.extract i (i + n))) used out).1 (stepF code (mustB (bt s i)) ok l c (bytesOf (s.extract i (i + n))) used out).2
  rw [hp] at h3
  have hf := hc.fit
  have htop := hc.top
  have hpos := hc.pos
  refine ⟨p ++ t, ru, ?_, ?_, ?_⟩
  ·have e : (bytesOf s).drop i = utf (c : Int) ++ (bytesOf s).drop (i + n) := by
    rw [← (chr_utf hc).1, bytesOf_extract, List.drop_take]
    rw [Nat.add_sub_cancel_left]
    conv => lhs; rw [← List.take_append_drop n ((bytesOf s).drop i)]
    rw [List.drop_drop]
   rw [e]
   exact .cons hpc h1
  ·intro x hx
   rcases List.mem_append.mp hx with hx | hx
   ·exact hpr x hx
   ·exact h2 x hx
  ·rw [← List.append_assoc]
   refine Ev.step (f := fun k => (spec_Character.f k s i).bind fun t => if t.2.2 = true ∧ 0 ≤ t.1 ∧ t.1 ≤ 1114111 ∧ 1 ≤ t.2.1 ∧ t.2.1 ≤ 4 ∧ (i : Int) + t.2.1 ≤ (s.size : Int) then (spec_shortOf.f (bt s i)).bind fun q => quL code s k (i + t.2.1) (stepF code (mustB (bt s i)) q.2 q.1 t.1 (bytesOf (s.extract (i : Int).toNat ((i : Int) + t.2.1).toNat)) used out).1 (stepF code (mustB (bt s i)) q.2 q.1 t.1 (bytesOf (s.extract (i : Int).toNat ((i : Int) + t.2.1).toNat)) used out).2 else none) (fun k => ?_) (Ev.bind hch ?_)
   ·rw [quL, if_pos (by omega)]
   ·refine Ev.congr (fun k => ?_) h3
    rw [if_pos ⟨rfl, by simp only; omega, by simp only; omega, by simp only; omega, by simp only; omega, by simp only; omega⟩, hl, Option.bind_some]
    simp only
    rw [show ((i : Int) + (n : Int)) = ((i + n : Nat) : Int) by omega, Int.toNat_natCast, Int.toNat_natCast, hp]
theorem blF_app (code : List Int) : ∀ (k : Nat) (used : Int) (out : List Int), ∃ a, (blF code k used out).2 = out ++ a ∧ a.length = k ∧ ∀ x ∈ a, isB x = true ∧ 0 ≤ x ∧ x ≤ 255
 | 0, used, out => ⟨[], by simp [blF], rfl, by simp⟩
 | k + 1, used, out => by
  obtain ⟨a, h1, h2, h3⟩ := blF_app code k (pickF code used 4).2 (out ++ [blk4 (pickF code used 4).1])
  refine ⟨blk4 (pickF code used 4).1 :: a, by rw [blF, h1]; simp, by simp [h2], fun x hx => ?_⟩
  rcases List.mem_cons.mp hx with rfl | hx
  ·unfold blk4
   repeat' split
   all_goals decide
  ·exact h3 x hx
theorem bl4_app {code : List Int} (hu : ∀ x ∈ code, 0 ≤ x ∧ x ≤ 255) (used : Int) (out : List Int) : ∃ a, (bl4 code used out).2 = out ++ a ∧ a.length ≤ 3 ∧ ∀ x ∈ a, isB x = true ∧ 0 ≤ x ∧ x ≤ 255 := by
 obtain ⟨a, h1, h2, h3⟩ := blF_app code (pickF code used 4).1.toNat (pickF code used 4).2 out
 have := pick_range hu used 4 zq40
 exact ⟨a, h1, by omega, h3⟩
theorem dress_eq {s : ByteArray} (hs : s.size ≤ 2147483647) {code : List Int} (hu : ∀ x ∈ code, 0 ≤ x ∧ x ≤ 255) (hv : Val s 0) :
 ∃ d a t b, Ev (fun k => spec_Dress.f k 4 s [] [] code) d ∧ bytesOf d = a ++ 34 :: (t ++ 34 :: b) ∧ (∀ x ∈ a, isB x = true) ∧ (∀ x ∈ b, isB x = true) ∧ DB t (bytesOf s) ∧ d.size ≤ 20 * s.size + 20 := by
 obtain ⟨a, ha, hal, hab⟩ := bl4_app hu 0 []
 obtain ⟨t, ru, h1, h2, h3⟩ := quL_db (by omega) code hv (bl4 code 0 []).1 ((bl4 code 0 []).2 ++ [34])
 obtain ⟨b, hb, hbl, hbb⟩ := bl4_app hu ru (((bl4 code 0 []).2 ++ [34] ++ t) ++ [34])
 obtain ⟨k, hk0⟩ := id h3
 have hk := hk0 k (Nat.le_refl _)
 have hbd := (quL_bounds s k 0 _ _ _ (Int.le_refl 0) hk).2 (by omega)
 rw [ha] at hb
 have e : (bl4 code ru ((bl4 code 0 []).2 ++ [34] ++ t ++ [34])).2 = a ++ 34 :: (t ++ 34 :: b) := by
  rw [ha, hb]
  simp
 refine ⟨strOfNums (a ++ 34 :: (t ++ 34 :: b)), a, t, b, ?_, ?_, fun x hx => (hab x hx).1, fun x hx => (hbb x hx).1, by simpa using h1, ?_⟩
 ·unfold spec_Dress.f dressS
  refine Ev.congr (fun k => if_pos ⟨rfl, rfl, rfl⟩) (Ev.congr (fun k => if_pos ⟨hu, hs⟩) (Ev.bind h3 ?_))
  simp only
  rw [e]
  exact Ev.now _
 ·apply bytesOf_strOfNums
  intro x hx
  simp only [List.mem_append, List.mem_cons] at hx
  rcases hx with hx | rfl | hx | rfl | hx
  ·exact (hab x hx).2
  ·omega
  ·exact h2 x hx
  ·omega
  ·exact (hbb x hx).2
 ·have hz : (strOfNums (a ++ 34 :: (t ++ 34 :: b))).size = (a ++ 34 :: (t ++ 34 :: b)).length := strOfNums_size _
  rw [hz]
  rw [ha] at hbd
  simp only [List.length_append, List.length_cons, List.length_nil, List.nil_append] at hbd ⊢
  omega
theorem places_str {s : ByteArray} (hs : s.size ≤ 2147483647) {a t b : List Int} (e : bytesOf s = a ++ 34 :: (t ++ 34 :: b)) (ha : ∀ x ∈ a, isB x = true) (hb : ∀ x ∈ b, isB x = true) (ht : strL (t ++ 34 :: b) = some b) :
 Ev (fun k => spec_Places.f k s) (4, (a.length : Int), ((a.length + t.length + 2 : Nat) : Int), [], [], true) := by
 have hs' : s.size ≤ 140737488351232 := by omega
 have hsz : s.size = a.length + t.length + b.length + 2 := by
  rw [← bytesOf_length, e]
  simp only [List.length_append, List.length_cons]
  omega
 have h0 := Suf.start s
 have hbl := blanks_eq hs' _ h0
 have e0 : P s (bytesOf s) = 0 := by unfold P; rw [bytesOf_length]; simp
 have ek : skB (bytesOf s) = 34 :: (t ++ 34 :: b) := by
  rw [e, skB_app _ _ ha]
  exact skB_no zq40
 have hk := h0.skB
 rw [e0, ek] at hbl
 rw [ek] at hk
 have hq := (quoted_P hs' hk).1 b ht
 have hb0 := blanks_eq hs' b (hk.tail.str ht)
 have eb : skB b = [] := by
  have := skB_app b [] hb
  rw [List.append_nil] at this
  rw [this]
  rfl
 rw [eb, P_nil] at hb0
 have p1 : P s (34 :: (t ++ 34 :: b)) = (a.length : Int) := by
  unfold P
  simp only [List.length_append, List.length_cons]
  omega
 have p2 : P s b = ((a.length + t.length + 2 : Nat) : Int) := by
  unfold P
  omega
 have hval : Ev (fun k => spec_reader_value.f k s (P s (34 :: (t ++ 34 :: b)))) (4, P s (34 :: (t ++ 34 :: b)), P s b, [], [], true, s, P s b) := by
  refine Ev.step (f := fun k => (spec_reader_quoted.f k s (P s (34 :: (t ++ 34 :: b)))).bind fun bt121 => (some (4, P s (34 :: (t ++ 34 :: b)), bt121.2.2, [], [], bt121.1, bt121.2.1, bt121.2.2))) (fun k => ?_) (Ev.bind hq (Ev.now _))
  simp only [spec_reader_value.f, here_P hk, Option.bind_some]
  rw [if_neg zq40, if_neg zq40, if_pos trivial]
 rw [p1, p2] at hval
 rw [p1] at hbl
 rw [p2] at hb0
 unfold spec_Places.f
 exact Ev.bind hbl (Ev.bind hval (Ev.congr (fun _ => if_pos rfl) (Ev.bind hb0 (Ev.congr (fun _ => if_pos rfl) (Ev.now _)))))
theorem gU_raw {c : Int} (l : List Int) (h1 : c ≠ 92) (h2 : ¬ c < 32) : gU (c :: l) = (gU l).map (c :: ·) := by
 match l with
 | [] =>
  rw [gU_nil, gU, if_neg (by omega)]
  rfl
 | d :: r => rw [gU, if_neg h1, if_neg h2]
theorem gU_raws : ∀ (p l : List Int), (∀ x ∈ p, 32 ≤ x ∧ x ≠ 34 ∧ x ≠ 92) → gU (p ++ l) = (gU l).map (p ++ ·)
 | [], l, _ => by simp
 | c :: p, l, h => by
  have h1 := h c (by simp)
  rw [List.cons_append, gU_raw _ h1.2.2 (by omega), gU_raws p l fun x hx => h x (by simp [hx]), Option.map_map]
  rfl
theorem eB_utf {c : Int} : eB c = utf c := by
 unfold eB utf
 split
 ·rfl
 split
 ·rfl
 by_cases h : 55296 ≤ c ∧ c ≤ 57343
 ·have h' : hiS c = true ∨ loS c = true := by rw [hiS_eq, loS_eq]; omega
  rw [if_pos h, if_pos h']
 have h' : ¬ (hiS c = true ∨ loS c = true) := by rw [hiS_eq, loS_eq]; omega
 rw [if_neg h, if_neg h']
theorem gU_db {t u : List Int} (h : DB t u) (r : List Int) : gU (t ++ r) = (gU r).map (u ++ ·) := by
 induction h with
 | nil => simp
 | @cons p x t u hp _ ih =>
  have hm : (gU r).map ((x ++ u) ++ ·) = ((gU r).map (u ++ ·)).map (x ++ ·) := by
   rw [Option.map_map]
   congr 1
   funext z
   simp [Function.comp]
  rw [List.append_assoc, hm, ← ih]
  cases hp with
  | raw h1 => exact gU_raws _ _ h1
  | two h1 =>
   rw [List.cons_append, List.cons_append, List.nil_append, gU, if_pos rfl, if_pos h1]
   rfl
  | six h1 h2 =>
   simp only [List.cons_append, List.nil_append]
   rw [gU, if_pos rfl, if_neg (by rw [isE_117]; decide), if_pos rfl, hex4_more _ [], h1]
   simp only
   rw [if_neg (by omega), eB_utf]
   rfl
  | @pair a b c d v e f g h m h1 h2 h3 h4 h5 h6 =>
   simp only [List.cons_append, List.nil_append]
   rw [gU, if_pos rfl, if_neg (by rw [isE_117]; decide), if_pos rfl, hex4_more _ [], h1]
   simp only
   have hu : unitL (List.drop 4 (a :: b :: c :: d :: 92 :: 117 :: e :: f :: g :: h :: (t ++ r))) = some m := by
    simp only [List.drop_succ_cons, List.drop_zero]
    exact unitL_six ((hex4_more _ []).trans h2)
   rw [if_pos (by omega), hu]
   simp only
   rw [if_pos (by omega), eB_utf]
   rfl
theorem gunescape_eq {s t u : ByteArray} (hz : t.size ≤ 2147483647) (h : DB (bytesOf t) (bytesOf u)) : gjson_unescape.f t = some u := by
 unfold gjson_unescape.f
 rw [if_pos hz]
 have := gU_db h []
 rw [List.append_nil, gU_nil] at this
 rw [this]
 simp only [Option.map_some, List.append_nil]
 rw [strOfNums_bytesOf]
end Go.Proofs.YtaigbkkgmncipaaDoor.J
end
section
namespace Go.Proofs.YtaigbkkgmncipaaDoor.Pure
open Go.RowKit Go.Proofs.YtaigbkkgmncipaaDoor.G Go.Proofs.YtaigbkkgmncipaaDoor.U Go.Proofs.YtaigbkkgmncipaaDoor.J Go.Proofs.YtaigbkkgmncipaaDoorW.PrintWords Go.Proofs.YtaigbkkgmncipaaDoorW.PrintLast
set_option linter.unusedVariables false
set_option linter.unusedSimpArgs false

theorem u8_wf {l : List Int} (h : ∀ x ∈ l, (Lit.int .u8 x).wf = true) : ∀ x ∈ l, 0 ≤ x ∧ x ≤ 255 := by
 intro x hx
 have := h x hx
 simp [Lit.wf] at this
 have e1 : IntKind.u8.min = 0 := rfl
 have e2 : IntKind.u8.max = 255 := rfl
 omega
def rn (s : ByteArray) : Nat → Nat
  | 0 => 0
  | i + 1 => if nb s i = 92 then rn s i + 1 else 0
theorem rn_no {s : ByteArray} {i : Nat} (h : nb s i ≠ 92) : rn s (i + 1) = 0 := by
 unfold rn
 rw [if_neg h]
section
variable {s : ByteArray} (hs : s.size ≤ 2147483647)
include hs
theorem wi {i : Nat} (h : i < s.size) : wrap64 ((i : Int) + 1) = ((i + 1 : Nat) : Int) := by unfold wrap64; omega
theorem l2_go {i : Nat} (hi : i < s.size) (h1 : 1 ≤ i) {R : ByteArray × ByteArray} : ∀ (j n : Nat), j < s.size → n + j ≤ 4294967296 → nb s 0 ≠ 92 →
 ((n + rn s (j + 1)) % 2 = 0 → Ev (fun k => gjson_tostr.l1 k s ((i + 1 : Nat) : Int)) R) → ((n + rn s (j + 1)) % 2 = 1 → ∃ u, gjson_unescape.f (s.extract 1 i) = some u ∧ R = (s.extract 0 (i + 1), u)) →
 Ev (fun k => gjson_tostr.l2 k s i n j) R := by
 have hfin : ∀ (n : Nat), (n % 2 = 0 → Ev (fun k => gjson_tostr.l1 k s ((i + 1 : Nat) : Int)) R) → (n % 2 = 1 → ∃ u, gjson_unescape.f (s.extract 1 i) = some u ∧ R = (s.extract 0 (i + 1), u)) →
  Ev (fun k => if (Int.tmod (n : Int) 2) = 0 then (gjson_tostr.l1 k s (wrap64 ((i : Int) + 1))) else (if 0 ≤ (wrap64 ((i : Int) + 1)) then (if (wrap64 ((i : Int) + 1)) ≤ (s.size : Int) then (if 1 ≤ (i : Int) then (if (i : Int) ≤ (s.size : Int) then ((gjson_unescape.f (s.extract 1 (i : Int).toNat)).bind fun t104 => (some (s.extract 0 ((wrap64 ((i : Int) + 1)) : Int).toNat, t104))) else (none)) else (none)) else (none)) else (none))) R := by
  intro n hE hO
  have hm : Int.tmod (n : Int) 2 = (n : Int) % 2 := Int.tmod_eq_emod_of_nonneg (by omega)
  rw [hm, wi hs hi]
  by_cases hz : n % 2 = 0
  ·exact Ev.congr (fun _ => if_pos (by omega)) (hE hz)
  obtain ⟨u, e1, rfl⟩ := hO (by omega)
  refine Ev.congr (fun _ => ?_) (Ev.now _)
  rw [if_neg (by omega), if_pos (by omega), if_pos (by omega), if_pos (by omega), if_pos (by omega), Int.toNat_natCast, Int.toNat_natCast, e1]
  rfl
 intro j
 induction j with
 | zero =>
  intro n hj hn h0 hE hO
  have e : rn s (0 + 1) = 0 := by
   unfold rn
   rw [if_neg h0]
  rw [e] at hE hO
  refine Ev.step (fun k => ?_) (hfin n hE hO)
  simp only [gjson_tostr.l2]
  rw [if_neg (by omega)]
 | succ j ih =>
  intro n hj hn h0 hE hO
  have hb : bt s ((j + 1 : Nat) : Int) = (nb s (j + 1) : Int) := nb_bt s _
  by_cases hc : nb s (j + 1) = 92
  rotate_left
  ·have e : rn s (j + 1 + 1) = 0 := by
    conv => lhs; unfold rn
    rw [if_neg hc]
   rw [e] at hE hO
   refine Ev.step (fun k => ?_) (hfin n hE hO)
   simp only [gjson_tostr.l2]
   rw [if_pos (by omega), if_pos (by omega), if_pos (by omega), hb, if_neg (by omega)]
  have e : rn s (j + 1 + 1) = rn s (j + 1) + 1 := by
   conv => lhs; unfold rn
   rw [if_pos hc]
  rw [e] at hE hO
  have := ih (n + 1) (by omega) (by omega) h0 (fun h => hE (by omega)) (fun h => hO (by omega))
  refine Ev.step (fun k => ?_) this
  simp only [gjson_tostr.l2]
  rw [if_pos (by omega), if_pos (by omega), if_pos (by omega), hb, if_pos (by omega)]
  rw [show wrap64 ((n : Int) + 1) = ((n + 1 : Nat) : Int) by unfold wrap64; omega, show wrap64 (((j + 1 : Nat) : Int) - 1) = (j : Int) by unfold wrap64; omega]
theorem l1_go {e : Nat} (he : e < s.size) (h1 : 1 ≤ e) (h0 : nb s 0 ≠ 92) (hq : nb s e = 34) (hv : rn s e % 2 = 0) {u : ByteArray} (hu : gjson_unescape.f (s.extract 1 e) = some u) :
 ∀ (d i : Nat), e = i + d → 1 ≤ i → (∀ j, i ≤ j → j < e → nb s j = 34 → rn s j % 2 = 1) → Ev (fun k => gjson_tostr.l1 k s i) (s.extract 0 (e + 1), u) := by
 have rnp : ∀ i, 1 ≤ i → nb s (i - 1) = 92 → rn s i = rn s (i - 1) + 1 ∧ 2 ≤ i := by
  intro i hi hb
  obtain ⟨i, rfl⟩ : ∃ m, i = m + 1 := ⟨i - 1, by omega⟩
  simp only [Nat.add_sub_cancel] at hb ⊢
  have hrn : rn s (i + 1) = rn s i + 1 := by
   conv => lhs; unfold rn
   rw [if_pos hb]
  refine ⟨hrn, ?_⟩
  rcases Nat.eq_zero_or_pos i with h | h
  ·subst h
   exact absurd hb h0
  ·omega
 have rnz : ∀ i, 1 ≤ i → nb s (i - 1) ≠ 92 → rn s i = 0 := by
  intro i hi hb
  obtain ⟨i, rfl⟩ : ∃ m, i = m + 1 := ⟨i - 1, by omega⟩
  simp only [Nat.add_sub_cancel] at hb
  unfold rn
  rw [if_neg hb]
 intro d
 induction d with
 | zero =>
  intro i hi hi1 _
  obtain rfl : e = i := by omega
  have hb : bt s (e : Int) = (nb s e : Int) := nb_bt s _
  have hb1 : bt s (((e - 1 : Nat) : Int)) = (nb s (e - 1) : Int) := nb_bt s _
  have w1 : wrap64 ((e : Int) - 1) = ((e - 1 : Nat) : Int) := by unfold wrap64; omega
  by_cases hc : nb s (e - 1) = 92
  rotate_left
  ·refine Ev.step (f := fun _ => some (s.extract 0 (e + 1), u)) (fun k => ?_) (Ev.now _)
   simp only [gjson_tostr.l1]
   rw [if_pos (by omega), if_pos (by omega), hb, if_neg (by omega), if_pos (by omega), w1, if_pos (by omega), if_pos (by omega), hb1, if_neg (by omega), wi hs he, if_pos (by omega), if_pos (by omega), if_pos (by omega), if_pos (by omega), Int.toNat_natCast, Int.toNat_natCast, hu]
   rfl
  obtain ⟨r1, r2⟩ := rnp e hi1 hc
  have w2 : wrap64 ((e : Int) - 2) = ((e - 2 : Nat) : Int) := by unfold wrap64; omega
  have hl := l2_go hs he hi1 (R := (s.extract 0 (e + 1), u)) (e - 2) 0 (by omega) (by omega) h0 (fun h => by rw [show e - 2 + 1 = e - 1 by omega] at h; omega) (fun _ => ⟨u, hu, rfl⟩)
  refine Ev.step (fun k => ?_) hl
  simp only [gjson_tostr.l1]
  rw [if_pos (by omega), if_pos (by omega), hb, if_neg (by omega), if_pos (by omega), w1, if_pos (by omega), if_pos (by omega), hb1, if_pos (by omega), w2]
  rfl
 | succ d ih =>
  intro i hi hi1 hall
  have hlt : i < s.size := by omega
  have next := ih (i + 1) (by omega) (by omega) (fun j hj hj2 => hall j (by omega) hj2)
  have hb : bt s (i : Int) = (nb s i : Int) := nb_bt s _
  by_cases c1 : nb s i > 92
  ·refine Ev.step (fun k => ?_) next
   simp only [gjson_tostr.l1]
   rw [if_pos (by omega), if_pos (by omega), hb, if_pos (by omega), wi hs hlt]
  by_cases c2 : nb s i = 34
  rotate_left
  ·refine Ev.step (fun k => ?_) next
   simp only [gjson_tostr.l1]
   rw [if_pos (by omega), if_pos (by omega), hb, if_neg (by omega), if_neg (by omega), wi hs hlt]
  have hodd := hall i (Nat.le_refl _) (by omega) c2
  have hb1 : bt s (((i - 1 : Nat) : Int)) = (nb s (i - 1) : Int) := nb_bt s _
  have w1 : wrap64 ((i : Int) - 1) = ((i - 1 : Nat) : Int) := by unfold wrap64; omega
  have hc : nb s (i - 1) = 92 := by
   by_cases hc : nb s (i - 1) = 92
   ·exact hc
   rw [rnz i hi1 hc] at hodd
   omega
  obtain ⟨r1, r2⟩ := rnp i hi1 hc
  have w2 : wrap64 ((i : Int) - 2) = ((i - 2 : Nat) : Int) := by unfold wrap64; omega
  have hl := l2_go hs hlt hi1 (R := (s.extract 0 (e + 1), u)) (i - 2) 0 (by omega) (by omega) h0 (fun _ => next) (fun h => by rw [show i - 2 + 1 = i - 1 by omega] at h; omega)
  refine Ev.step (fun k => ?_) hl
  simp only [gjson_tostr.l1]
  rw [if_pos (by omega), if_pos (by omega), hb, if_neg (by omega), if_pos (by omega), w1, if_pos (by omega), if_pos (by omega), hb1, if_pos (by omega), w2]
  rfl
theorem l0_go {e : Nat} (he : e < s.size) (h0 : nb s 0 ≠ 92) (hq : nb s e = 34) (hv : rn s e % 2 = 0) {u : ByteArray} (hu : gjson_unescape.f (s.extract 1 e) = some u)
 (hraw : (∀ j, 1 ≤ j → j < e → nb s j ≠ 92) → s.extract 1 e = u) (hodd : ∀ j, 1 ≤ j → j < e → nb s j = 34 → rn s j % 2 = 1) :
 ∀ (d i : Nat), e = i + d → 1 ≤ i → (∀ j, 1 ≤ j → j < i → nb s j ≠ 92) → rn s i = 0 → Ev (fun k => gjson_tostr.l0 k s i) (s.extract 0 (e + 1), u) := by
 intro d
 induction d with
 | zero =>
  intro i hi hi1 hno _
  obtain rfl : e = i := by omega
  have hb : bt s (e : Int) = (nb s e : Int) := nb_bt s _
  refine Ev.step (f := fun _ => some (s.extract 0 (e + 1), u)) (fun k => ?_) (Ev.now _)
  simp only [gjson_tostr.l0]
  rw [if_pos (by omega), if_pos (by omega), hb, if_neg (by omega), if_pos (by omega), wi hs he, if_pos (by omega), if_pos (by omega), if_pos (by omega), if_pos (by omega), Int.toNat_natCast, Int.toNat_natCast, hraw hno]
 | succ d ih =>
  intro i hi hi1 hno hr
  have hlt : i < s.size := by omega
  have hb : bt s (i : Int) = (nb s i : Int) := nb_bt s _
  have c2 : nb s i ≠ 34 := fun c => by
   have := hodd i hi1 (by omega) c
   omega
  by_cases c3 : nb s i = 92
  ·have := l1_go hs he (by omega) h0 hq hv hu d (i + 1) (by omega) (by omega) (fun j hj hj2 => hodd j (by omega) hj2)
   refine Ev.step (fun k => ?_) this
   simp only [gjson_tostr.l0]
   rw [if_pos (by omega), if_pos (by omega), hb, if_neg (by omega), if_neg (by omega), if_pos (by omega), wi hs hlt]
  have next := ih (i + 1) (by omega) (by omega) (fun j hj hj2 => by
   by_cases hji : j = i
   ·subst hji; exact c3
   exact hno j hj (by omega)) (by unfold rn; rw [if_neg c3])
  by_cases c1 : nb s i > 92
  ·refine Ev.step (fun k => ?_) next
   simp only [gjson_tostr.l0]
   rw [if_pos (by omega), if_pos (by omega), hb, if_pos (by omega), wi hs hlt]
  refine Ev.step (fun k => ?_) next
  simp only [gjson_tostr.l0]
  rw [if_pos (by omega), if_pos (by omega), hb, if_neg (by omega), if_neg (by omega), if_neg (by omega), wi hs hlt]
end
theorem From.nb {s : ByteArray} {i : Nat} {a : Int} {l : List Int} (h : From s i (a :: l)) : (nb s i : Int) = a := by
 rw [← nb_bt]
 exact h.bt
theorem rn_raw {s : ByteArray} : ∀ (p r : List Int) (i : Nat), From s i (p ++ r) → (∀ x ∈ p, 32 ≤ x ∧ x ≠ 34 ∧ x ≠ 92) → rn s i % 2 = 0 → (∀ j, i ≤ j → j < i + p.length → nb s j = 34 → rn s j % 2 = 1) ∧ rn s (i + p.length) % 2 = 0
 | [], r, i, _, _, h => ⟨fun j h1 h2 => (by simp at h2; omega), by simpa using h⟩
 | c :: p, r, i, hF, hp, h => by
  have hc := hp c (by simp)
  have hn : (nb s i : Int) = c := From.nb hF
  have ih := rn_raw p r (i + 1) hF.tail (fun x hx => hp x (by simp [hx])) (by unfold rn; rw [if_neg (by omega)])
  refine ⟨fun j h1 h2 h3 => ?_, ?_⟩
  ·by_cases hji : j = i
   ·subst hji; omega
   exact ih.1 j (by omega) (by simp at h2; omega) h3
  ·have := ih.2
   rwa [show i + (c :: p).length = i + 1 + p.length by simp; omega]
theorem hexv_no {c v : Int} (h : hexv c = some v) : c ≠ 34 ∧ c ≠ 92 := by
 unfold hexv at h
 refine ⟨fun e => ?_, fun e => ?_⟩ <;> (subst e; simp at h)
theorem rn_six {s : ByteArray} {a b c d v : Int} {i : Nat} {r : List Int} (hF : From s i ([92, 117, a, b, c, d] ++ r)) (hx : hex4 [a, b, c, d] = some v) :
 (∀ j, i ≤ j → j < i + 6 → nb s j = 34 → rn s j % 2 = 1) ∧ rn s (i + 6) % 2 = 0 := by
 unfold hex4 at hx
 obtain ⟨x, hx1, hx⟩ := Option.bind_eq_some_iff.mp hx
 obtain ⟨y, hy1, hx⟩ := Option.bind_eq_some_iff.mp hx
 obtain ⟨z, hz1, hx⟩ := Option.bind_eq_some_iff.mp hx
 obtain ⟨w, hw1, hx⟩ := Option.bind_eq_some_iff.mp hx
 have a1 := hexv_no hx1
 have a2 := hexv_no hy1
 have a3 := hexv_no hz1
 have a4 := hexv_no hw1
 have f0 : From s i (92 :: 117 :: a :: b :: c :: d :: r) := hF
 have n0 := From.nb f0
 have n1 := From.nb f0.tail
 have n2 := From.nb f0.tail.tail
 have n3 := From.nb f0.tail.tail.tail
 have n4 := From.nb f0.tail.tail.tail.tail
 have n5 := From.nb f0.tail.tail.tail.tail.tail
 refine ⟨fun j h1 h2 h3 => ?_, ?_⟩
 ·have hj : j = i ∨ j = i + 1 ∨ j = i + 1 + 1 ∨ j = i + 1 + 1 + 1 ∨ j = i + 1 + 1 + 1 + 1 ∨ j = i + 1 + 1 + 1 + 1 + 1 := by omega
  rcases hj with rfl | rfl | rfl | rfl | rfl | rfl <;> omega
 ·show rn s (i + 1 + 1 + 1 + 1 + 1 + 1) % 2 = 0
  rw [rn_no (i := i + 1 + 1 + 1 + 1 + 1) (by omega)]
theorem rn_db {s : ByteArray} {t u : List Int} (h : DB t u) : ∀ (r : List Int) (i : Nat), From s i (t ++ r) → rn s i % 2 = 0 → (∀ j, i ≤ j → j < i + t.length → nb s j = 34 → rn s j % 2 = 1) ∧ rn s (i + t.length) % 2 = 0 := by
 induction h with
 | nil => exact fun r i _ h => ⟨fun j h1 h2 => (by simp at h2; omega), by simpa using h⟩
 | @cons p x t u hp _ ih =>
  intro r i hF h
  rw [List.append_assoc] at hF
  have key : (∀ j, i ≤ j → j < i + p.length → nb s j = 34 → rn s j % 2 = 1) ∧ rn s (i + p.length) % 2 = 0 := by
   cases hp with
   | raw h1 => exact rn_raw _ _ i hF h1 h
   | @two d h1 =>
    have f0 : From s i (92 :: d :: (t ++ r)) := hF
    have n0 := From.nb f0
    have n1 := From.nb f0.tail
    have r1 : rn s (i + 1) = rn s i + 1 := by
     conv => lhs; unfold rn
     rw [if_pos (by omega)]
    refine ⟨fun j h1 h2 h3 => ?_, ?_⟩
    ·simp only [List.length_cons, List.length_nil] at h2
     have hj : j = i ∨ j = i + 1 := by omega
     rcases hj with rfl | rfl <;> omega
    ·show rn s (i + 1 + 1) % 2 = 0
     conv => lhs; lhs; unfold rn
     split
     ·omega
     ·rfl
   | six h1 h2 => exact rn_six hF h1
   | @pair a b c d v e f g h' m h1 h2 h3 h4 h5 h6 =>
    have e0 : [92, 117, a, b, c, d, 92, 117, e, f, g, h'] ++ (t ++ r) = [92, 117, a, b, c, d] ++ ([92, 117, e, f, g, h'] ++ (t ++ r)) := rfl
    rw [e0] at hF
    have k1 := rn_six hF h1
    have k2 := rn_six (From.app hF) h2
    refine ⟨fun j q1 q2 q3 => ?_, k2.2⟩
    simp only [List.length_cons, List.length_nil] at q2 k2
    by_cases hj : j < i + 6
    ·exact k1.1 j q1 hj q3
    exact k2.1 j (by omega) (by omega) q3
  have hA : From s (i + p.length) (t ++ r) := hF.app
  have k := ih r (i + p.length) hA key.2
  rw [List.length_append]
  refine ⟨fun j h1 h2 h3 => ?_, by rw [← Nat.add_assoc]; exact k.2⟩
  by_cases hj : j < i + p.length
  ·exact key.1 j h1 hj h3
  exact k.1 j (by omega) (by omega) h3
theorem db_raw {t u : List Int} (h : DB t u) (hno : ∀ x ∈ t, x ≠ 92) : t = u := by
 induction h with
 | nil => rfl
 | @cons p x t u hp _ ih =>
  have := ih (fun x hx => hno x (by simp [hx]))
  subst this
  cases hp with
  | raw h1 => rfl
  | two h1 => exact absurd rfl (hno 92 (by simp))
  | six h1 h2 => exact absurd rfl (hno 92 (by simp))
  | pair h1 h2 h3 h4 h5 h6 => exact absurd rfl (hno 92 (by simp))
theorem bytes_app (s t : ByteArray) : bytesOf (s ++ t) = bytesOf s ++ bytesOf t := by
 unfold bytesOf
 rw [ByteArray.data_append, Array.toList_append, List.map_append]
theorem tostr_eq {s u : ByteArray} (hs : s.size ≤ 2147483647) {t r : List Int} (e : bytesOf s = 34 :: (t ++ 34 :: r)) (h : DB t (bytesOf u)) :
 Ev (fun k => gjson_tostr.f k s) (s.extract 0 (t.length + 2), u) := by
 have hF0 := From.start s
 rw [e] at hF0
 have n0 := From.nb hF0
 have r1 : rn s 1 = 0 := rn_no (i := 0) (by omega)
 have hF1 : From s 1 (t ++ 34 :: r) := hF0.tail
 have hk := rn_db h (34 :: r) 1 hF1 (by omega)
 have hE := hF1.app
 have nE := From.nb hE
 have hlt := hE.lt
 have hx : bytesOf (s.extract 1 (1 + t.length)) = t := hF1.extract
 have hu : gjson_unescape.f (s.extract 1 (1 + t.length)) = some u := gunescape_eq (s := s) (by rw [ByteArray.size_extract]; omega) (by rw [hx]; exact h)
 have hg := l0_go hs (e := 1 + t.length) hlt (by omega) (by omega) hk.2 hu (fun hno => bytesOf_inj (by
  rw [hx]
  refine db_raw h fun x hx' => ?_
  obtain ⟨j, hj, rfl⟩ := List.mem_iff_getElem.mp hx'
  have hFj := hF1.drop j (by simp; omega)
  rw [List.drop_append_of_le_length (by omega), List.drop_eq_getElem_cons hj] at hFj
  have := From.nb hFj
  have := hno (1 + j) (by omega) (by omega)
  omega)) hk.1 t.length 1 (by omega) (Nat.le_refl _) (fun j h1 h2 => (by omega)) r1
 rw [show 1 + t.length + 1 = t.length + 2 by omega] at hg
 exact hg
theorem FnGjStringText : laws_FnGjStringText.Pure := by
 intro a0 l1 a2 h0 _ _ hw _
 have hu := u8_wf hw
 have j0t : Ev (fun k => laws_FnGjStringText.j0 k a0 l1 a2 true) true := Ev.step (f := fun _ => some true) (fun k => by simp only [laws_FnGjStringText.j0, if_true]) (Ev.now _)
 have j1t : Ev (fun k => laws_FnGjStringText.j1 k a0 l1 a2 true) true := Ev.step (f := fun _ => some true) (fun k => by simp only [laws_FnGjStringText.j1, if_true]) (Ev.now _)
 have main : Ev (fun k => laws_FnGjStringText.f k a0 l1 a2) true := by
  unfold laws_FnGjStringText.f
  by_cases c1 : (a0.size : Int) > 2147483647
  ·exact Ev.congr (fun _ => if_pos c1) j0t
  refine Ev.congr (fun _ => if_neg c1) ?_
  by_cases c2 : (l1.length : Int) > 2147483647
  ·exact Ev.congr (fun _ => if_pos c2) j0t
  refine Ev.congr (fun _ => if_neg c2) ?_
  by_cases c3 : (a2.size : Int) > 2147483647
  ·rw [decide_eq_true c3]; exact j0t
  rw [decide_eq_false c3]
  refine Ev.step (f := fun k => if (a0.size : Int) > 4096 then (laws_FnGjStringText.j1 k a0 l1 a2 true) else (if (a2.size : Int) > 4096 then (laws_FnGjStringText.j1 k a0 l1 a2 true) else ((spec_UTF8.f k a0).bind fun t101 => (laws_FnGjStringText.j1 k a0 l1 a2 (!t101))))) (fun k => by simp only [laws_FnGjStringText.j0]; rw [if_neg zq40]) ?_
  by_cases c4 : (a0.size : Int) > 4096
  ·exact Ev.congr (fun _ => if_pos c4) j1t
  refine Ev.congr (fun _ => if_neg c4) ?_
  by_cases c5 : (a2.size : Int) > 4096
  ·exact Ev.congr (fun _ => if_pos c5) j1t
  refine Ev.congr (fun _ => if_neg c5) ?_
  obtain ⟨t, e1, e2⟩ := utf8_val h0 _ 0 rfl (by omega)
  refine Ev.bind (show Ev (fun k => spec_UTF8.f k a0) t from e1) ?_
  cases t with
  | false => exact j1t
  | true =>
   obtain ⟨d, a, t, b, h1, h2, h3, h4, h5, h6⟩ := dress_eq (by omega) hu (e2 rfl)
   have hsz : d.size = a.length + t.length + b.length + 2 := by
    rw [← bytesOf_length, h2]
    simp only [List.length_append, List.length_cons]
    omega
   have hp := places_str (by omega) h2 h3 h4 (by rw [strL_db h5, strL_end])
   refine Ev.step (f := fun k => (spec_Dress.f k 4 a0 [] [] l1).bind fun t102 => ((spec_Places.f k t102).bind fun bt103 => (if 0 ≤ bt103.2.1 then (if bt103.2.1 ≤ bt103.2.2.1 then (if bt103.2.2.1 ≤ (t102.size : Int) then (if (t102.extract (bt103.2.1 : Int).toNat (bt103.2.2.1 : Int).toNat).size + a2.size ≤ 9223372036854775807 then ((impl_GjStringText.f k ((t102.extract (bt103.2.1 : Int).toNat (bt103.2.2.1 : Int).toNat) ++ a2)).bind fun bt114 => (if bt114.1.toList = (t102.extract (bt103.2.1 : Int).toNat (bt103.2.2.1 : Int).toNat).toList then (some (bt114.2.toList == a0.toList)) else (some false))) else (none)) else (none)) else (none)) else (none)))) (fun k => by simp only [laws_FnGjStringText.j1]; rw [if_neg zq40]) (Ev.bind h1 (Ev.bind hp ?_))
   simp only
   rw [Int.toNat_natCast, Int.toNat_natCast]
   have hqz : (d.extract a.length (a.length + t.length + 2)).size = t.length + 2 := by rw [ByteArray.size_extract]; omega
   have hF : From d a.length ((34 :: (t ++ [34])) ++ b) := by
    have hF0 := From.start d
    rw [h2] at hF0
    have := hF0.app
    simpa using this
   have hx := hF.extract
   rw [show a.length + (34 :: (t ++ [34])).length = a.length + t.length + 2 by simp; omega] at hx
   refine Ev.congr (fun _ => if_pos (by omega)) (Ev.congr (fun _ => if_pos (by omega)) (Ev.congr (fun _ => if_pos (by omega)) (Ev.congr (fun _ => if_pos (by omega)) ?_)))
   have hall : bytesOf (d.extract a.length (a.length + t.length + 2) ++ a2) = 34 :: (t ++ 34 :: bytesOf a2) := by
    rw [bytes_app, hx]
    simp
   have hts := tostr_eq (s := d.extract a.length (a.length + t.length + 2) ++ a2) (by rw [ByteArray.size_append]; omega) hall h5
   have hcut : (d.extract a.length (a.length + t.length + 2) ++ a2).extract 0 (t.length + 2) = d.extract a.length (a.length + t.length + 2) := by
    apply bytesOf_inj
    rw [bytesOf_extract, hall, hx, List.drop_zero]
    simp only [List.take_succ_cons]
    congr 1
    rw [show t ++ 34 :: bytesOf a2 = (t ++ [34]) ++ bytesOf a2 by simp, List.take_append_of_le_length (by simp), List.take_of_length_le (by simp)]
   rw [hcut] at hts
   have hall2 : Ev (fun k => impl_GjStringText.f k (d.extract a.length (a.length + t.length + 2) ++ a2)) (d.extract a.length (a.length + t.length + 2), a0) := by
    unfold impl_GjStringText.f gjson_DoorTostr.f
    exact Ev.bind (Ev.bind hts (Ev.now _)) (Ev.now _)
   refine Ev.bind hall2 (Ev.congr (fun _ => if_pos rfl) ?_)
   exact J.Ev_same (Ev.now _) (by simp)
 obtain ⟨K, hK⟩ := main
 exact ⟨K, hK K (Nat.le_refl _)⟩
end Go.Proofs.YtaigbkkgmncipaaDoor.Pure
end
