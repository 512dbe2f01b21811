/- The words, walks and laws that the proof rests on, laid together (part 3). -/
import Derived.Test.YtafbdpdbagkbgaaDoorKFnJqParsePath2
section
namespace Go.Proofs.YtafbdpdbagkbgaaDoor.Q
open Go.RowKit Go.Proofs.YtafbdpdbagkbgaaDoorW.PrintWords Go.Proofs.YtafbdpdbagkbgaaDoorW.PrintLast Go.Proofs.YtafbdpdbagkbgaaDoorW.PrintMore
attribute [local go_sem] max2_int min2_int max_two min_two max_three min_three max_four min_four
set_option linter.unusedVariables false
set_option linter.unusedSimpArgs false

def eB (r : Int) : List Int :=
  if r < 128 then [r]
  else if r < 2048 then [192 + r / 64, 128 + r % 64]
  else if 55296 ≤ r ∧ r ≤ 57343 then [239, 191, 189]
  else if r < 65536 then [224 + r / 4096, 128 + r / 64 % 64, 128 + r % 64]
  else [240 + r / 262144, 128 + r / 4096 % 64, 128 + r / 64 % 64, 128 + r % 64]
theorem eB_len (r : Int) : 1 ≤ (eB r).length ∧ (eB r).length ≤ 4 := by
 unfold eB
 split
 ·simp
 split
 ·simp
 split
 ·simp
 split <;> simp
def setB (w : World) (g : Nat) : Nat → List Int → World
  | _, [] => w
  | o, b :: r => setB (w.setCell ⟨g, o, none⟩ (.int .u8 b)) g (o + 1) r
def EncPost (g off : Nat) (r : Int) (w : World) (e : Ending) (w' : World) : Prop := e = .returned (.int .i64 ((eB r).length : Int)) ∧ w' = setB w g off (eB r)
set_option maxHeartbeats 4000000 in
set_option maxRecDepth 100000 in
theorem encNon_at (g off n c : Nat) (r : Int) (w : World) (hr0 : 128 ≤ r) (hr1 : r ≤ 1114111) (hn : 4 ≤ n) (hn2 : n ≤ 9223372036854775807)
 (b0 b1 b2 b3 : Int) (h0 : w.cell? ⟨g, off, none⟩ = some (.int .u8 b0)) (h1 : w.cell? ⟨g, off + 1, none⟩ = some (.int .u8 b1)) (h2 : w.cell? ⟨g, off + 2, none⟩ = some (.int .u8 b2)) (h3 : w.cell? ⟨g, off + 3, none⟩ = some (.int .u8 b3))
 (f0 : w.frozen? ⟨g, off, none⟩ = false) (f1 : w.frozen? ⟨g, off + 1, none⟩ = false) (f2 : w.frozen? ⟨g, off + 2, none⟩ = false) (f3 : w.frozen? ⟨g, off + 3, none⟩ = false) :
 Calls Tryd.prog 144 #[.slice (some ⟨g, off, none⟩) n c, .int .i32 r] w (EncPost g off r w) := by
 have hu : (r % 4294967296) = r := by omega
 go_enter Tryd.func144, Tryd.ntmps144
 go_wp2
 all_goals
  go_ret
  unfold EncPost eB
  first
  | (rw [if_neg (by omega), if_pos (by omega)]; exact ⟨rfl, rfl⟩)
  | (rw [if_neg (by omega), if_neg (by omega), if_pos (by omega)]; exact ⟨rfl, rfl⟩)
  | (rw [if_neg (by omega), if_neg (by omega), if_neg (by omega), if_pos (by omega)]; exact ⟨rfl, rfl⟩)
  | (rw [if_neg (by omega), if_neg (by omega), if_neg (by omega), if_neg (by omega)]; exact ⟨rfl, rfl⟩)
set_option maxHeartbeats 4000000 in
set_option maxRecDepth 100000 in
theorem enc_at (g off n c : Nat) (r : Int) (w : World) (hr0 : 0 ≤ r) (hr1 : r ≤ 1114111) (hn : 4 ≤ n) (hn2 : n ≤ 9223372036854775807)
 (b0 b1 b2 b3 : Int) (h0 : w.cell? ⟨g, off, none⟩ = some (.int .u8 b0)) (h1 : w.cell? ⟨g, off + 1, none⟩ = some (.int .u8 b1)) (h2 : w.cell? ⟨g, off + 2, none⟩ = some (.int .u8 b2)) (h3 : w.cell? ⟨g, off + 3, none⟩ = some (.int .u8 b3))
 (f0 : w.frozen? ⟨g, off, none⟩ = false) (f1 : w.frozen? ⟨g, off + 1, none⟩ = false) (f2 : w.frozen? ⟨g, off + 2, none⟩ = false) (f3 : w.frozen? ⟨g, off + 3, none⟩ = false) :
 Calls Tryd.prog 131 #[.slice (some ⟨g, off, none⟩) n c, .int .i32 r] w (EncPost g off r w) := by
 by_cases hc : r < 128
 ·go_enter Tryd.func131, Tryd.ntmps131
  go_wp2
  go_ret
  unfold EncPost eB
  rw [if_pos hc]
  exact ⟨rfl, rfl⟩
 have hc1 : 127 < r := by omega
 have hc2 : 127 < r % 4294967296 := by omega
 go_enter Tryd.func131, Tryd.ntmps131
 go_wp2_with (go_at_call 144; (with_reducible refine (encNon_at g off n c r w (by omega) hr1 hn hn2 b0 b1 b2 b3 h0 h1 h2 h3 f0 f1 f2 f3).mono ?_); rintro e w' ⟨rfl, rfl⟩)
 go_ret
 exact ⟨rfl, rfl⟩
theorem set_mid {α : Type} (L : List α) (o : Nat) (b : α) (h : o < L.length) : L.set o b = L.take o ++ b :: L.drop (o + 1) := List.set_eq_take_append_cons_drop .. |>.trans (by rw [if_pos h])
theorem splice_cons {α : Type} (L : List α) (o : Nat) (b : α) (r : List α) (h : o < L.length) : splice (L.set o b) (o + 1) r = splice L o (b :: r) := by
 have ht : (L.take o).length = o := by rw [List.length_take]; omega
 unfold splice
 rw [set_mid L o b h]
 have e1 : (L.take o ++ b :: L.drop (o + 1)).take (o + 1) = L.take o ++ [b] := by
  rw [List.take_append, ht, Nat.add_sub_cancel_left, List.take_of_length_le (by omega)]
  rfl
 have e2 : (L.take o ++ b :: L.drop (o + 1)).drop (o + 1 + r.length) = L.drop (o + (b :: r).length) := by
  rw [List.drop_append, ht, List.drop_of_length_le (by omega), List.nil_append, show o + 1 + r.length - o = r.length + 1 by omega, List.drop_succ_cons, List.drop_drop]
  congr 1
  simp only [List.length_cons]
  omega
 rw [e1, e2]
 simp
theorem nums_set (L : List Int) (o : Nat) (b : Int) : (nums .u8 L).toArray.setIfInBounds o (.int .u8 b) = (nums .u8 (L.set o b)).toArray := by
 simp [nums, List.map_set]
theorem keep_setc {v W : World} {G j : Nat} {x : Value} (h : KeepBut v W G none) : KeepBut v (W.setCell ⟨G, j, none⟩ x) G none :=
 ⟨by have := h.1; simpa [World.setCell] using this, fun i hi hg hr => (heap_setCell_other W ⟨G, j, none⟩ i x hg).trans (h.2 i hi hg hr)⟩
theorem keep_tr {u v W : World} {G : Nat} (h : KeepBut u v G none) (k : KeepBut v W G none) : KeepBut u W G none :=
 ⟨Nat.le_trans h.1 k.1, fun i hi hg hr => (k.2 i (Nat.lt_of_lt_of_le hi h.1) hg hr).trans (h.2 i hi hg hr)⟩
structure BF (v w0 W : World) (G : Nat) (ty : Nat) (L : List Int) : Prop where
  blk : W.heap[G]? = some (.cells (nums .u8 L).toArray ty (0, 0))
  at_ : w0.heap.size ≤ G
  below : Below w0.heap.size w0 W
  keep : KeepBut v W G none
theorem BF.alloc {v w0 W : World} {G ty : Nat} {L : List Int} (h : BF v w0 W G ty L) (o : Obj) : BF v w0 (W.alloc o) G ty L := ⟨blk_alloc h.blk o, h.at_, below_alloc h.below o, keep_alloc h.keep o⟩
theorem BF.drewN {v w0 W : World} {G ty : Nat} {L : List Int} (h : BF v w0 W G ty L) (k : Nat) : BF v w0 (W.drewN k) G ty L := ⟨h.blk, h.at_, pw_below_drewN h.below k, keep_drewN h.keep k⟩
theorem BF.drawn0 {v w0 W w1 : World} {G ty : Nat} {L : List Int} (h : BF v w0 W G ty L) (hd : Drawn0 W w1) : BF v w0 w1 G ty L := by
 obtain ⟨k, rfl⟩ := hd.out
 exact h.drewN k
theorem BF.setB {v w0 : World} {G ty : Nat} : ∀ (bs : List Int) (o : Nat) (W : World) (L : List Int), BF v w0 W G ty L → o + bs.length ≤ L.length → BF v w0 (setB W G o bs) G ty (splice L o bs)
 | [], o, W, L, h, _ => by
  have e : splice L o [] = L := by simp [splice]
  rw [e]
  exact h
 | b :: r, o, W, L, h, hl => by
  simp only [List.length_cons] at hl
  rw [← splice_cons L o b r (by omega)]
  refine BF.setB r (o + 1) _ _ ⟨?_, h.at_, below_set h.below h.at_, keep_setc h.keep⟩ (by rw [List.length_set]; omega)
  rw [← nums_set]
  exact heap_setCell_same W G o _ _ _ h.blk
theorem BF.cell {v w0 W : World} {G ty : Nat} {L : List Int} (h : BF v w0 W G ty L) (i : Nat) (hi : i < L.length) : W.cell? ⟨G, i, none⟩ = some (.int .u8 (rd L i)) := by
 rw [blk_cell h.blk i]
 simp [nums, rd, hi]
theorem BF.frz {v w0 W : World} {G ty : Nat} {L : List Int} (h : BF v w0 W G ty L) (i : Nat) : W.frozen? ⟨G, i, none⟩ = false := blk_frozen h.blk i
theorem BF.self {v w0 W : World} {G ty : Nat} {L : List Int} (h : BF v w0 W G ty L) : BF W w0 W G ty L := ⟨h.blk, h.at_, h.below, KeepBut.refl _ _ _⟩
theorem BF.tr {u v w0 W : World} {G ty : Nat} {L : List Int} (k : KeepBut u v G none) (h : BF v w0 W G ty L) : BF u w0 W G ty L := ⟨h.blk, h.at_, h.below, keep_tr k h.keep⟩
def stp (k : Nat) (l : List Int) : Option (Int × List Int) :=
  if (l.length : Int) < 2 then some (-1, []) else if rd l 0 = 92 then
    (if J.isE (rd l 1) = true then some (2, [J.unl (rd l 1)])
    else if rd l 1 = 117 then (jsonparser_decodeUnicodeEscape.f k l).bind fun t => if t.2 = -1 then some (-1, []) else if 0 ≤ t.1 ∧ t.1 ≤ 1114111 ∧ 6 ≤ t.2 ∧ t.2 ≤ (l.length : Int) then some (t.2, eB t.1) else none
    else some (-1, []))
  else some (-1, [])
set_option maxHeartbeats 8000000 in
set_option maxRecDepth 100000 in
theorem u8c_calls (k : Nat) (l : List Int) (A : Option Addr) (c G q bl bc ty : Nat) (L : List Int) (n : Int) (bs : List Int) (w0 w : World) (hT : Laid w) (hr : Kd.C (Kd.int .u8) w A l.length l) (hc : l.length ≤ c) (hF : BF w w0 w G ty L) (hq : q + bl ≤ L.length) (hroom : l.length ≤ bl) (hbc : bl ≤ bc) (hl : l.length ≤ 2147483647) (hL : L.length ≤ 4294967296) (hbcm : bc ≤ 4294967296) (h : stp k l = some (n, bs)) :
 Calls Tryd.prog 117 #[.agg #[.bool false, .bool false, .int .i64 0], .slice A l.length c, .slice (some ⟨G, q, none⟩) bl bc] w fun e w' => e = .returned (.tuple #[.int .i64 n, .int .i64 (if n = -1 then -1 else (bs.length : Int))]) ∧ BF w w0 w' G ty (splice L q bs) := by
 have E0 := mk0 (show splice L q [] = L by simp [splice])
 have hFA : BF w w0 (w.alloc (.cells #[.bool false, .bool false, .int .i64 0] 147)) G ty L := hF.alloc _
 have hrA : Kd.C (Kd.int .u8) (w.alloc (.cells #[.bool false, .bool false, .int .i64 0] 147)) A l.length l := Kd.C_alloc hr _
 have HF := mk0 hFA
 have HR := mk0 hrA
 have HT := mk0 hT
 unfold stp at h
 by_cases h2 : (l.length : Int) < 2
 ·rw [if_pos h2] at h
  obtain ⟨rfl, rfl⟩ := Prod.mk.inj (Option.some.inj h)
  clear h hF hr hT hFA hrA
  have h2b : decide ((l.length : Int) < 2) = true := decide_eq_true h2
  go_enter Tryd.func117, Tryd.ntmps117
  go_wp2
  go_ret2
  rw [E0.out]
  exact ⟨rfl, HF.out⟩
 rw [if_neg h2] at h
 have h2b : decide ((l.length : Int) < 2) = false := decide_eq_false h2
 obtain ⟨ad, rfl, h0⟩ := Kd.at_int hrA 0 (by omega) (by omega)
 obtain ⟨ad', e', h1⟩ := Kd.at_int hrA 1 (by omega) (by omega)
 obtain rfl := Option.some.inj e'
 replace h0 : (w.alloc (.cells #[.bool false, .bool false, .int .i64 0] 147)).cell? ad = some (.int .u8 (rd l 0)) := h0
 replace h1 : (w.alloc (.cells #[.bool false, .bool false, .int .i64 0] 147)).cell? ⟨ad.block, ad.off + 1, none⟩ = some (.int .u8 (rd l 1)) := h1
 by_cases hb : rd l 0 = 92
 rotate_left
 ·rw [if_neg hb] at h
  obtain ⟨rfl, rfl⟩ := Prod.mk.inj (Option.some.inj h)
  clear h hF hr hT hFA hrA
  have hbb : (rd l 0 == 92) = false := by simp [hb]
  have hbd : decide (rd l 0 = 92) = false := decide_eq_false hb
  go_enter Tryd.func117, Tryd.ntmps117
  go_wp2
  go_ret2
  rw [E0.out]
  exact ⟨rfl, HF.out⟩
 rw [if_pos hb] at h
 rw [hb] at h0
 have hcG := HF.out.cell q (by omega)
 have hfG := HF.out.frz q
 by_cases hE : J.isE (rd l 1) = true
 ·rw [if_pos hE] at h
  obtain ⟨rfl, rfl⟩ := Prod.mk.inj (Option.some.inj h)
  clear h hF hr hT hFA hrA
  have hE2 : rd l 1 = 34 ∨ rd l 1 = 92 ∨ rd l 1 = 47 ∨ rd l 1 = 98 ∨ rd l 1 = 102 ∨ rd l 1 = 110 ∨ rd l 1 = 114 ∨ rd l 1 = 116 := by simpa [J.isE] using hE
  have hbel : Below w.heap.size w (w.alloc (.cells #[.bool false, .bool false, .int .i64 0] 147)) := below_alloc (Below.refl _ _) _
  have htab : ∀ j : Nat, j < 117 → (w.alloc (.cells #[.bool false, .bool false, .int .i64 0] 147)).cell? ⟨17, j, none⟩ = some (.int .u8 (tabv j)) := (HT.out.below hbel).tab
  have fin := fun (b : Int) => BF.setB [b] q _ _ HF.out (by simp only [List.length_cons, List.length_nil]; omega)
  have FIN := mk0 fin
  clear fin hE
  have HTAB := mk0 htab
  clear htab hbel
  rcases hE2 with hz | hz | hz | hz | hz | hz | hz | hz
  all_goals
   rw [hz] at h1
   have ht := HTAB.out (rd l 1).toNat (by rw [hz]; decide)
   rw [hz] at ht ⊢
   simp only [Int.reduceToNat, tabv, Nat.reduceEqDiff, if_true, if_false] at ht
   clear hz
   go_enter Tryd.func117, Tryd.ntmps117
   go_wp2
   go_ret2
   exact ⟨rfl, FIN.out _⟩
 rw [if_neg hE] at h
 have hne : rd l 1 ≠ 34 ∧ rd l 1 ≠ 92 ∧ rd l 1 ≠ 47 ∧ rd l 1 ≠ 98 ∧ rd l 1 ≠ 102 ∧ rd l 1 ≠ 110 ∧ rd l 1 ≠ 114 ∧ rd l 1 ≠ 116 := by
  simp only [J.isE, decide_eq_true_eq, not_or] at hE
  exact hE
 clear hE
 by_cases h117 : rd l 1 = 117
 rotate_left
 ·rw [if_neg h117] at h
  obtain ⟨rfl, rfl⟩ := Prod.mk.inj (Option.some.inj h)
  clear h hF hr hT hFA hrA
  obtain ⟨n1, n2, n3, n4, n5, n6, n7, n8⟩ := hne
  have b1 : (rd l 1 == 34) = false := by simp [n1]
  have b2 : (rd l 1 == 92) = false := by simp [n2]
  have b3 : (rd l 1 == 47) = false := by simp [n3]
  have b4 : (rd l 1 == 98) = false := by simp [n4]
  have b5 : (rd l 1 == 102) = false := by simp [n5]
  have b6 : (rd l 1 == 110) = false := by simp [n6]
  have b7 : (rd l 1 == 114) = false := by simp [n7]
  have b8 : (rd l 1 == 116) = false := by simp [n8]
  have b9 : (rd l 1 == 117) = false := by simp [h117]
  have d1 := decide_eq_false n1
  have d2 := decide_eq_false n2
  have d3 := decide_eq_false n3
  have d4 := decide_eq_false n4
  have d5 := decide_eq_false n5
  have d6 := decide_eq_false n6
  have d7 := decide_eq_false n7
  have d8 := decide_eq_false n8
  have d9 := decide_eq_false h117
  by_cases h39 : rd l 1 = 39
  rotate_left
  ·have b10 : (rd l 1 == 39) = false := by simp [h39]
   have d10 := decide_eq_false h39
   go_enter Tryd.func117, Tryd.ntmps117
   go_wp2
   go_ret2
   rw [E0.out]
   exact ⟨rfl, HF.out⟩
  rw [h39] at h1
  clear n1 n2 n3 n4 n5 n6 n7 n8 b1 b2 b3 b4 b5 b6 b7 b8 b9 d1 d2 d3 d4 d5 d6 d7 d8 d9 h117 h39
  go_enter Tryd.func117, Tryd.ntmps117
  go_wp2
  go_ret2
  rw [E0.out]
  exact ⟨rfl, HF.out⟩
 rw [if_pos h117] at h
 replace h := Option.bind_eq_some_iff.mp h
 obtain ⟨⟨r, m⟩, hD, h⟩ := h
 simp only at h
 rw [h117] at h1
 have HD := mk0 hD
 clear hD hne h117
 by_cases hm : m = -1
 ·rw [if_pos hm] at h
  obtain ⟨rfl, rfl⟩ := Prod.mk.inj (Option.some.inj h)
  subst hm
  clear h hF hr hT hFA hrA
  go_enter Tryd.func117, Tryd.ntmps117
  go_wp2_with (first | (go_at_call 130; (with_reducible refine (jsonparser_decodeUnicodeEscape.calls k (some ad) c l r _ _ HR.out hc HD.out).mono ?_); rintro e w1 ⟨rfl, hd1⟩; have K1 := mk0 (HF.out.drawn0 hd1); clear hd1))
  go_ret2
  rw [E0.out]
  exact ⟨rfl, K1.out⟩
 rw [if_neg hm] at h
 split at h
 case isFalse => cases h
 case isTrue hg =>
 obtain ⟨hg0, hg1, hg2, hg3⟩ := hg
 obtain ⟨rfl, rfl⟩ := Prod.mk.inj (Option.some.inj h)
 have hmb : (m == -1) = false := by simp [hm]
 have hmd : decide (m = -1) = false := decide_eq_false hm
 have hle := eB_len r
 clear h hF hr hT hFA hrA
 go_enter Tryd.func117, Tryd.ntmps117
 go_wp2_with (first | (go_at_call 130; (with_reducible refine (jsonparser_decodeUnicodeEscape.calls k (some ad) c l r _ _ HR.out hc HD.out).mono ?_); rintro e w1 ⟨rfl, hd1⟩; have K1 := mk0 (HF.out.drawn0 hd1); clear hd1) | (go_at_call 131; (with_reducible refine (enc_at G q bl bc r _ hg0 hg1 (by omega) (by omega) _ _ _ _ (K1.out.cell q (by omega)) (K1.out.cell (q + 1) (by omega)) (K1.out.cell (q + 2) (by omega)) (K1.out.cell (q + 3) (by omega)) (K1.out.frz _) (K1.out.frz _) (K1.out.frz _) (K1.out.frz _)).mono ?_); rintro e w2 ⟨rfl, rfl⟩))
 go_ret2
 try rw [if_neg hm]
 exact ⟨rfl, K1.out.setB (eB r) q _ _ (by omega)⟩
def ixL : List Int → Int
  | [] => -1
  | b :: l => if b = 92 then 0 else if ixL l = -1 then -1 else ixL l + 1
theorem ixL_lib : ∀ l : List Int, (∀ x ∈ l, 0 ≤ x ∧ x ≤ 255) → Lib.indexByte (Lib.bytesOf l) (92 : Int).toNat.toUInt8 = ixL l
 | [], _ => rfl
 | b :: l, h => by
  have ih := ixL_lib l fun x hx => h x (by simp [hx])
  have hb := h b (by simp)
  have e : Lib.bytesOf (b :: l) = UInt8.ofNat b.toNat :: Lib.bytesOf l := rfl
  rw [e, Lib.indexByte, ih, ixL]
  have hq : (UInt8.ofNat b.toNat == (92 : Int).toNat.toUInt8) = decide (b = 92) := by
   by_cases h92 : b = 92
   ·subst h92
    rfl
   rw [decide_eq_false h92]
   refine beq_eq_false_iff_ne.mpr fun hh => h92 ?_
   have := congrArg UInt8.toNat hh
   simp at this
   omega
  rw [hq]
  by_cases h92 : b = 92
  rotate_left
  ·simp [h92]
  simp [h92]
theorem ixL_range : ∀ l : List Int, ixL l = -1 ∨ ∃ j : Nat, ixL l = (j : Int) ∧ j < l.length ∧ rd l j = 92
 | [] => .inl rfl
 | b :: l => by
  rw [ixL]
  by_cases h : b = 92
  ·rw [if_pos h]
   exact .inr ⟨0, rfl, by simp, by simp [rd, h]⟩
  rw [if_neg h]
  rcases ixL_range l with h1 | ⟨j, h1, h2, h3⟩
  ·rw [if_pos h1]
   exact .inl rfl
  ·rw [if_neg (by omega), h1]
   refine .inr ⟨j + 1, by omega, by simp; omega, ?_⟩
   simpa [rd] using h3
structure IN (w : World) (b o : Nat) (l : List Int) : Prop where
  cell : ∀ i, i < l.length → w.cell? ⟨b, o + i, none⟩ = some (.int .u8 (l.getD i 0))
  lt : b < w.heap.size
  u8 : ∀ x ∈ l, 0 ≤ x ∧ x ≤ 255
  max : l.length ≤ 2147483647
theorem IN.below {w0 W : World} {b o : Nat} {l : List Int} (h : IN w0 b o l) (hb : Below w0.heap.size w0 W) : IN W b o l :=
 ⟨fun i hi => (bel_cell hb h.lt).trans (h.cell i hi), Nat.lt_of_lt_of_le h.lt hb.size, h.u8, h.max⟩
theorem IN.C {w : World} {b o : Nat} {l : List Int} (h : IN w b o l) : Kd.C (Kd.int .u8) w (some ⟨b, o, none⟩) l.length l := by
 have hm := h.max
 refine Kd.C_of_reads (enc := Value.int .u8) (d := (0 : Int)) (h1 := fun _ => rfl) ⟨rfl, by omega, fun _ => ⟨⟨b, o, none⟩, rfl, fun j hj => ?_⟩⟩
 have e : (⟨b, o, none⟩ : Addr).add j = ⟨b, o + j, none⟩ := by
  unfold Addr.add
  split
  ·rename_i h0
   subst h0
   rfl
  ·rfl
 rw [e]
 exact h.cell j hj
theorem IN.drop {w : World} {b o : Nat} {l : List Int} (h : IN w b o l) (m : Nat) (hm : m ≤ l.length) : IN w b (o + m) (l.drop m) :=
 ⟨fun i hi => by
  rw [List.length_drop] at hi
  have := h.cell (m + i) (by omega)
  rw [show o + m + i = o + (m + i) by omega, this]
  simp [List.getD_eq_getElem?_getD], h.lt, fun x hx => h.u8 x (List.mem_of_mem_drop hx), by have := h.max; rw [List.length_drop]; omega⟩
theorem IN.take {w : World} {b o : Nat} {l : List Int} (h : IN w b o l) (m : Nat) (hm : m ≤ l.length) : IN w b o (l.take m) :=
 ⟨fun i hi => by
  rw [List.length_take] at hi
  rw [h.cell i (by omega)]
  simp [List.getD_eq_getElem?_getD, List.getElem?_take, show i < m by omega], h.lt, fun x hx => h.u8 x (List.mem_of_mem_take hx), by have := h.max; rw [List.length_take]; omega⟩
theorem IN.nil {w : World} {b : Nat} (h : b < w.heap.size) (o : Nat) : IN w b o [] := ⟨fun i hi => (by simp at hi), h, fun x hx => (by simp at hx), by simp⟩
theorem slc_l (A : Option Addr) (n c m : Nat) (hm : m ≤ n) : ∀ W : World, (Instr.slice 59 (.slice A n c) (some (.int .i64 (m : Int))) none none).run Tryd.prog W = .ok (.slice (if c = m then A else A.map (·.add m)) (n - m) (c - m)) W := fun W => by
 obtain ⟨i0, hi, hzz⟩ := Option.map_eq_some_iff.1 info5
 simp only [Prod.mk.injEq] at hzz
 have hel : (Tryd.prog).elem 59 = 5 := by simp [Program.elem, Tryd.underlying59]
 have hu : (Tryd.prog).underlying 59 = some (.slice ((Tryd.prog).elem 59)) := by rw [hel]; exact Tryd.underlying59
 rw [run_slice_l W 59 A n c hu .i64 (m : Int) (Int.natCast_nonneg _) (by omega), hel]
 simp [sizeOf, typeInfo, hi, hzz.2.1, sliced, Result.andThen]
theorem slc_h (A : Option Addr) (n c m : Nat) (hm : m ≤ c) : ∀ W : World, (Instr.slice 59 (.slice A n c) none (some (.int .i64 (m : Int))) none).run Tryd.prog W = .ok (.slice A m c) W := fun W => by
 obtain ⟨i0, hi, hzz⟩ := Option.map_eq_some_iff.1 info5
 simp only [Prod.mk.injEq] at hzz
 have hel : (Tryd.prog).elem 59 = 5 := by simp [Program.elem, Tryd.underlying59]
 have hu : (Tryd.prog).underlying 59 = some (.slice ((Tryd.prog).elem 59)) := by rw [hel]; exact Tryd.underlying59
 rw [run_slice_h W 59 A n c hu .i64 (m : Int) (Int.natCast_nonneg _) (by omega), hel]
 cases A with
 | none => simp [sizeOf, typeInfo, hi, hzz.2.1, sliced, Result.andThen]
 | some a => simp [sizeOf, typeInfo, hi, hzz.2.1, sliced, Result.andThen, Addr.add]
theorem add_at (b o m : Nat) : (⟨b, o, none⟩ : Addr).add m = ⟨b, o + m, none⟩ := by
 unfold Addr.add
 split
 ·rename_i h0
  subst h0
  rfl
 ·rfl
theorem cut_in {w0 : World} {b o : Nat} {l : List Int} (h : IN w0 b o l) (c m : Nat) (hm : m ≤ l.length) (hc : l.length ≤ c) :
 ∃ o1, (∀ W : World, (Instr.slice 59 (.slice (some ⟨b, o, none⟩) l.length c) (some (.int .i64 (m : Int))) none none).run Tryd.prog W = .ok (.slice (some ⟨b, o1, none⟩) (l.drop m).length (c - m)) W) ∧ IN w0 b o1 (l.drop m) ∧ (l.drop m).length ≤ c - m := by
 refine ⟨if c = m then o else o + m, fun W => ?_, ?_, by rw [List.length_drop]; omega⟩
 ·rw [slc_l _ _ _ _ hm W, List.length_drop]
  by_cases hcm : c = m
  ·rw [if_pos hcm, if_pos hcm]
  rw [if_neg hcm, if_neg hcm]
  simp only [Option.map_some, add_at]
 ·by_cases hcm : c = m
  rotate_left
  ·rw [if_neg hcm]
   exact h.drop m hm
  rw [if_pos hcm, List.drop_of_length_le (by omega)]
  exact IN.nil h.lt o
theorem cut_buf (G q n c m : Nat) (hm : m ≤ n) (hc : n ≤ c) :
 ∃ q1, (∀ W : World, (Instr.slice 59 (.slice (some ⟨G, q, none⟩) n c) (some (.int .i64 (m : Int))) none none).run Tryd.prog W = .ok (.slice (some ⟨G, q1, none⟩) (n - m) (c - m)) W) ∧ (0 < n - m → q1 = q + m) := by
 refine ⟨if c = m then q else q + m, fun W => ?_, fun h => if_neg (by omega)⟩
 rw [slc_l _ _ _ _ hm W]
 by_cases hcm : c = m
 ·rw [if_pos hcm, if_pos hcm]
 rw [if_neg hcm, if_neg hcm]
 simp only [Option.map_some, add_at]
theorem idx_calls {W : World} {b o : Nat} {l : List Int} (h : IN W b o l) (c : Nat) :
 Calls Tryd.prog 116 #[.slice (some ⟨b, o, none⟩) l.length c, .int .u8 92] W fun e w' => e = .returned (.int .i64 (ixL l)) ∧ w' = W := by
 have := Tryd.bytes_IndexByte b o l.length c l 92 W rfl h.cell
 rw [ixL_lib l h.u8] at this
 exact this
theorem make_bytes (n : Nat) (hn : n ≤ 4294967296) : ∀ W : World, (Instr.makeSlice 59 (.int .i64 (n : Int)) (.int .i64 (n : Int))).run Tryd.prog W = .ok (.slice (some ⟨W.heap.size, 0, none⟩) n n) (W.alloc (.cells (nums .u8 (List.replicate n 0)).toArray 5)) := fun W => by
 obtain ⟨i0, hi, hzz⟩ := Option.map_eq_some_iff.1 info5
 simp only [Prod.mk.injEq] at hzz
 have h := run_make (P := Tryd.prog) W 59 5 i0 (.int .u8 0) Tryd.underlying59 hi hzz.1 .i64 .i64 (n : Int) (n : Int) (by omega) (Int.le_refl _) (by rw [hzz.2.2]; omega) (by omega)
 rw [h, hzz.2.1]
 have e : madeCells (Value.int IntKind.u8 0).cells ((n : Int).toNat * 1) = (nums .u8 (List.replicate n 0)).toArray := by
  apply Array.toList_inj.mp
  rw [show (Value.int IntKind.u8 0).cells = #[Value.int IntKind.u8 0] from rfl, toList_madeCells_one]
  simp [nums]
 rw [e]
 simp
section
variable {P : Program} {ops : Array Oper} {rest : List Oper} {o : Oper} {a : Act} {Q : Exit → Act → World → Prop}
theorem copy_BF {v w0 W : World} {G ty : Nat} {L : List Int} (hgd : o.guard = none) (d s : Operand) (dT sT : TypeId)
 (ho : o.op = .call { callee := .builtin .copy, args := #[d, s], argTypes := #[dT, sT] }) (elem : TypeId) (hu : P.underlying dT = some (.slice elem)) (hsz : (P.info? elem).map (·.size) = some 1)
 (q bl bc b o1 sl sc : Nat) (hd : a.eval d = .slice (some ⟨G, q, none⟩) bl bc) (hs : a.eval s = .slice (some ⟨b, o1, none⟩) sl sc) (off : Nat) (hF : BF v w0 W G ty L) (xs : List Int) (hx : xs.length = sl) (hle : sl ≤ bl) (hoff : 0 < sl → q = off) (hcell : ∀ i, i < sl → W.cell? ⟨b, o1 + i, none⟩ = some (.int .u8 (xs.getD i 0))) (hfit : off + sl ≤ L.length)
 (h : ∀ W', BF v w0 W' G ty (splice L off xs) → wpList P ops Q rest (a.put o.dst (goInt sl)) W') : wpList P ops Q (o :: rest) a W := by
 by_cases h0 : sl = 0
 ·subst h0
  obtain rfl : xs = [] := List.eq_nil_of_length_eq_zero hx
  refine wpList_copy_nothing hgd d s dT sT ho elem hu hsz _ _ bl bc 0 sc hd hs (by simp) ?_
  have e : splice L off [] = L := by simp [splice]
  have := h W (by rw [e]; exact hF)
  exact this
 obtain rfl := hoff (by omega)
 have hcl : (nums .u8 xs).length = sl := by simp [nums, hx]
 refine wpList_copy_own hgd d s dT sT ho elem hu hsz G q bl bc ⟨b, o1, none⟩ sl sc hd hs (nums .u8 L).toArray ty hF.blk (nums .u8 xs) (by rw [hcl]; exact (Nat.min_eq_left hle).symm) (fun j u hj => ?_) (by rw [hcl]; simp [nums]; omega) (fun u hu => by simp only [nums, List.mem_map] at hu; obtain ⟨z, _, rfl⟩ := hu; rfl) ?_
 ·rw [add_at]
  have hlt : j < sl := by
   have := (List.getElem?_eq_some_iff.mp hj).1
   omega
  rw [hcell j hlt, ← hj]
  simp [nums, List.getD_eq_getElem?_getD, show j < xs.length by omega]
 ·have e : (nums .u8 L).toArray.toList.take q ++ (nums .u8 xs ++ (nums .u8 L).toArray.toList.drop (q + (nums .u8 xs).length)) = nums .u8 (splice L q xs) := by
   simp [nums, splice, List.map_take, List.map_drop]
  rw [e, hcl]
  refine h _ ⟨setRow_heap W G _ _ ty _ hF.blk, hF.at_, hF.below.trans ⟨rfl, rfl, rfl, by simp [World.setRow], fun i hi => setRow_other W G i _ (by have := hF.at_; omega)⟩, ?_⟩
  exact keep_tr hF.keep ⟨by simp [World.setRow], fun i hi hg _ => setRow_other W G i _ hg⟩
end
def jun (k : Nat) : Nat → List Int → List Int → Option (Option (List Int))
  | 0, _, _ => none
  | f + 1, l, E => (stp k l).bind fun t => if t.1 = -1 then some none
      else if 1 ≤ t.1 ∧ t.1 ≤ (l.length : Int) ∧ (t.2.length : Int) ≤ t.1 then
        (if ixL (l.drop t.1.toNat) = -1 then some (some (E ++ t.2 ++ l.drop t.1.toNat))
         else jun k f ((l.drop t.1.toNat).drop (ixL (l.drop t.1.toNat)).toNat) (E ++ t.2 ++ (l.drop t.1.toNat).take (ixL (l.drop t.1.toNat)).toNat))
      else none
def unc (k : Nat) (l : List Int) : Option (Option (List Int)) :=
  if ixL l = -1 then some (some l) else jun k k (l.drop (ixL l).toNat) (l.take (ixL l).toNat)
theorem sz1_ : ((Tryd.prog).info? 5).map (·.size) = some 1 := by
 obtain ⟨i0, hi, hzz⟩ := Option.map_eq_some_iff.1 info5
 simp only [Prod.mk.injEq] at hzz
 rw [hi, Option.map_some, hzz.2.1]
def UPost (w0 : World) (res : Option (List Int)) (e : Ending) (w' : World) : Prop :=
  Below w0.heap.size w0 w' ∧ match res with
  | some R => ∃ A' c', e = .returned (.tuple #[.slice A' R.length c', .nilIface]) ∧ R.length ≤ c' ∧ Kd.C (Kd.int .u8) w' A' R.length R
  | none => ∃ te pe, e = .returned (.tuple #[.slice none 0 0, .iface te pe]) ∧ w0.cell? ⟨10, 0, none⟩ = some (.iface te pe)
theorem splice_take {L : List Int} {q : Nat} {bs E : List Int} (hE : L.take q = E) (hl : E.length = q) (hf : q + bs.length ≤ L.length) : (splice L q bs).take (q + bs.length) = E ++ bs := by
 unfold splice
 rw [hE, ← List.append_assoc, List.take_append_of_le_length zq28, List.take_of_length_le zq28]
theorem BF.C {v w0 W : World} {G ty : Nat} {L R : List Int} (h : BF v w0 W G ty L) (hR : L.take R.length = R) (hm : R.length ≤ 4294967296) : Kd.C (Kd.int .u8) W (some ⟨G, 0, none⟩) R.length R := by
 refine Kd.C_of_reads (enc := Value.int .u8) (d := (0 : Int)) (h1 := fun _ => rfl) ⟨rfl, by omega, fun _ => ⟨⟨G, 0, none⟩, rfl, fun j hj => ?_⟩⟩
 have hl : R.length ≤ L.length := by
  have := congrArg List.length hR
  rw [List.length_take] at this
  omega
 rw [add_at, Nat.zero_add, h.cell j (by omega)]
 have e : R.getD j 0 = L.getD j 0 := by
  conv => lhs; rw [← hR]
  simp [List.getD_eq_getElem?_getD, List.getElem?_take, hj]
 rw [e]
 rfl
theorem BF.box {v w0 W : World} {G ty X : Nat} {L : List Int} {o : Obj} (h : BF v w0 W G ty L) (hX : v.heap[X]? = some o) (hg : X ≠ G) : W.heap[X]? = some o :=
 (h.keep.2 X (blk_lt hX) hg (by simp)).trans hX
set_option maxHeartbeats 16000000 in
set_option maxRecDepth 100000 in
theorem uc_make (k : Nat) (l : List Int) (b o c : Nat) (w0 w : World) (res : Option (List Int)) (Ao : Option Addr) (on oc : Nat) (hT : Laid w0) (hB : Below w0.heap.size w0 w) (hI : IN w0 b o l) (hc : l.length ≤ c) (hcm : c ≤ 9223372036854775807) (j0 : Nat) (hj0 : ixL l = (j0 : Int)) (hj1 : j0 < l.length) (hoc : oc < l.length) (hQ : jun k k (l.drop j0) (l.take j0) = some res) :
 Calls Tryd.prog 98 #[.agg #[.bool false, .bool false, .int .i64 0], .slice (some ⟨b, o, none⟩) l.length c, .slice Ao on oc] w fun e w' => UPost w0 res e w' := by
 have HI := mk0 hI
 have HT := mk0 hT
 have HQ := mk0 hQ
 have hnl := hI.max
 have hjm : (((j0 : Nat) : Int) == -1) = false := by simp
 have hjm2 : decide (((j0 : Nat) : Int) = -1) = false := decide_eq_false (by omega)
 have HIX := mk0 (fun W_ (hB_ : Below w0.heap.size w0 W_) => idx_calls (hI.below hB_) c)
 rw [hj0] at HIX
 have HBA := mk0 (show Below w0.heap.size w0 (w.alloc (.cells #[.bool false, .bool false, .int .i64 0] 147)) from below_alloc hB _)
 clear hI hT hQ
 have hmk := make_bytes l.length (by omega)
 have hbd : decide ((oc : Int) < (l.length : Int)) = true := decide_eq_true (by omega)
 have hBw := hB.size
 obtain ⟨L0, hL0e⟩ : ∃ L0 : List Int, L0 = List.replicate l.length 0 := ⟨_, rfl⟩
 have hL0 : L0.length = l.length := by rw [hL0e]; simp
 have hnC : l.length ≤ l.length := Nat.le_refl _
 have hX : ((w.alloc (.cells #[.bool false, .bool false, .int .i64 0] 147)).alloc (.cells (nums .u8 L0).toArray 5)).heap[w.heap.size]? = some (.cells #[.bool false, .bool false, .int .i64 0] 147 (0, 0)) := blk_alloc (blk_new w _) _
 have hXG : w.heap.size ≠ w.heap.size + 1 := by omega
 have hF : BF ((w.alloc (.cells #[.bool false, .bool false, .int .i64 0] 147)).alloc (.cells (nums .u8 L0).toArray 5)) w0 ((w.alloc (.cells #[.bool false, .bool false, .int .i64 0] 147)).alloc (.cells (nums .u8 L0).toArray 5)) (w.heap.size + 1) 5 L0 :=
  ⟨by have := blk_new (w.alloc (.cells #[.bool false, .bool false, .int .i64 0] 147)) (.cells (nums .u8 L0).toArray 5); simpa using this, by omega, below_alloc HBA.out _, KeepBut.refl _ _ _⟩
 have HF := mk0 hF
 rw [← hL0e] at hmk
 clear hL0e hF
 go_enter Tryd.func98, Tryd.ntmps98
 go_upto_region 7 with (first | (go_at_call 116; (with_reducible refine (HIX.out _ HBA.out).mono ?_); rintro e_ w_ ⟨rfl, rfl⟩))
 clear HIX
 have hl0 : L0.length = l.length := hL0
 obtain ⟨o1, hcut1, HI1, hc1⟩ := cut_in HI.out c j0 (by omega) hc
 obtain ⟨q1, hcutb, hq1⟩ := cut_buf (w.heap.size + 1) 0 l.length l.length j0 (by omega) hnC
 have hcuth := slc_h (some ⟨b, o, none⟩) l.length c j0 (by omega)
 go_wp2_with (first | ((with_reducible refine gate_builtin (b := .copy) (xs := #[.tmp 30, .tmp 33]) rfl ?_); refine copy_BF (v := ((w.alloc (.cells #[.bool false, .bool false, .int .i64 0] 147)).alloc (.cells (nums .u8 L0).toArray 5))) (w0 := w0) rfl (.tmp 30) (.tmp 33) 59 59 rfl 5 Tryd.underlying59 sz1_ 0 l.length l.length b o j0 c rfl rfl 0 HF.out (l.take j0) (by rw [List.length_take]; omega) (by omega) (fun _ => rfl) (fun i_ hi_ => ((HI.out.take j0 (by omega)).below HF.out.below).cell i_ (by rw [List.length_take]; omega)) (by omega) ?_; intro w1 HF1_; have HF1 := mk0 HF1_; clear HF1_ ))
 have HI1' := mk0 HI1
 clear HI1 hcut1 hcutb hcuth HF
 go_loopg [1, 9] k (fun kq v1 v9 w' => ∃ (lc : List Int) (oc_ cc q_ bl bc : Nat) (E L : List Int), v1 = .slice (some ⟨b, oc_, none⟩) lc.length cc ∧ v9 = .slice (some ⟨(w.heap.size + 1), q_, none⟩) bl bc ∧ Aside0 (kq ≤ k) ∧ Aside0 (IN w0 b oc_ lc) ∧ (lc.length ≤ cc ∧ cc ≤ 9223372036854775807 ∧ q_ + bl = l.length ∧ q_ + bc = l.length ∧ lc.length ≤ bl ∧ 1 ≤ lc.length) ∧ Aside0 (E.length = q_ ∧ L.length = l.length ∧ L.take q_ = E) ∧ Aside0 (jun k kq lc E = some res) ∧ Aside0 (BF ((w.alloc (.cells #[.bool false, .bool false, .int .i64 0] 147)).alloc (.cells (nums .u8 L0).toArray 5)) w0 w' (w.heap.size + 1) 5 L))
 case atStart =>
  have e1 : q1 = j0 := by have := hq1 (by omega); omega
  subst e1
  refine ⟨l.drop q1, o1, c - q1, q1, l.length - q1, l.length - q1, l.take q1, splice L0 0 (l.take q1), (by first | rfl | (simp; done)), (by first | rfl | (simp; done)), ⟨Nat.le_refl _⟩, HI1', ⟨hc1, by omega, by omega, by omega, by rw [List.length_drop]; omega, by rw [List.length_drop]; omega⟩, ⟨by rw [List.length_take]; omega, by rw [length_splice _ _ _ (by rw [List.length_take]; omega)]; exact hl0, ?_⟩, HQ, HF1⟩
  have := splice_take (L := L0) (q := 0) (bs := l.take q1) (E := []) (by simp) rfl (by rw [List.length_take]; omega)
  rwa [Nat.zero_add, List.length_take, Nat.min_eq_left (by omega), List.nil_append] at this
 case round =>
  clear HF1 HI1' HQ hq1 hc1
  obtain ⟨lc, oc_, cc, q_, bl, bc, E, L, rfl, rfl, HK1, HIc, hnum, HE, HQ, HF⟩ := hrel
  obtain ⟨hcc, hccm, hqb, hqc, hlb, hl1⟩ := hnum
  cases gk with
  | zero => exact absurd HQ.out (by simp [jun])
  | succ kr =>
   have hH := HQ.out
   clear HQ
   rw [jun] at hH
   replace hH := Option.bind_eq_some_iff.mp hH
   obtain ⟨⟨m, bs⟩, hS, hH⟩ := hH
   simp only at hH
   have hbox := HF.out.box hX hXG
   have x0 := blk_cell hbox 0
   have x1 := blk_cell hbox 1
   have x2 := blk_cell hbox 2
   clear hbox
   replace x0 : wr.cell? ⟨w.heap.size, 0, none⟩ = some (.bool false) := x0
   replace x1 : wr.cell? ⟨w.heap.size, 1, none⟩ = some (.bool false) := x1
   replace x2 : wr.cell? ⟨w.heap.size, 2, none⟩ = some (.int .i64 0) := x2
   have hLl : L.length = l.length := HE.out.2.1
   have HU := mk0 (u8c_calls k lc (some ⟨b, oc_, none⟩) cc (w.heap.size + 1) q_ bl bc 5 L m bs w0 wr (HT.out.below HF.out.below) (HIc.out.below HF.out.below).C hcc HF.out.self (by omega) hlb (by omega) (by have := HIc.out.max; omega) (by omega) (by omega) hS)
   clear hS
   by_cases hm : m = -1
   ·rw [if_pos hm] at hH
    obtain rfl := Option.some.inj hH
    subst hm
    obtain ⟨te, pe, hesc0⟩ := HT.out.esc
    go_wp2_with (first | (go_at_call 117; (with_reducible refine HU.out.mono ?_); rintro e_ w5 ⟨rfl, hd5⟩; have K5 := mk0 hd5; have hesc5 : w5.cell? ⟨10, 0, none⟩ = some (.iface te pe) := (bel_cell hd5.below (World.block_lt_of_cell? w0 _ hesc0)).trans hesc0; clear hd5))
    go_quiet (fail)
    go_wp2
    go_ret2
    exact ⟨by first | exact pw_below_drewN K5.out.below _ | exact K5.out.below, te, pe, rfl, hesc0⟩
   rw [if_neg hm] at hH
   split at hH
   case isFalse => cases hH
   case isTrue hg =>
   obtain ⟨hg0, hg1, hg2⟩ := hg
   skip
   obtain ⟨mm, rfl⟩ : ∃ x : Nat, m = (x : Int) := ⟨m.toNat, by omega⟩
   rw [Int.toNat_natCast] at hH
   have hmb : (((mm : Nat) : Int) == -1) = false := by simp
   have hmd : decide (((mm : Nat) : Int) = -1) = false := decide_eq_false hm
   obtain ⟨o2, hcut2, HI2, hc2⟩ := cut_in HIc.out cc mm (by omega) hcc
   obtain ⟨q2, hcutb2, hq2⟩ := cut_buf (w.heap.size + 1) q_ bl bc bs.length (by omega) (by omega)
   have hl2 : (lc.drop mm).length = lc.length - mm := List.length_drop
   generalize lc.drop mm = l2 at hcut2 HI2 hc2 hl2 hH
   have hb2 : bs.length + l2.length ≤ bl := by omega
   have HL2 := mk0 hl2
   clear hl2
   have HI2' := mk0 HI2
   clear HI2
   have hL5 : (splice L q_ bs).length = l.length := by rw [length_splice _ _ _ (by omega)]; exact hLl
   have hT5 := splice_take (bs := bs) HE.out.2.2 HE.out.1 (by omega)
   have HU2 := mk0 (HU.out.mono (fun e_ w_ (h_ : e_ = _ ∧ BF wr w0 w_ (w.heap.size + 1) 5 (splice L q_ bs)) => (⟨by rw [h_.1, if_neg hm], h_.2⟩ : e_ = .returned (.tuple #[.int .i64 (mm : Int), .int .i64 (bs.length : Int)]) ∧ BF wr w0 w_ (w.heap.size + 1) 5 (splice L q_ bs))))
   clear HU
   generalize splice L q_ bs = L5 at HU2 hL5 hT5
   have HT5 := mk0 hT5
   clear hT5 hm
   rcases ixL_range l2 with hix | ⟨j, hix, hj1, hj2⟩
   ·rw [if_pos hix] at hH
    obtain rfl := Option.some.inj hH
    have HIX2 := mk0 (fun W_ (hB_ : Below w0.heap.size w0 W_) => idx_calls (HI2'.out.below hB_) (cc - mm))
    rw [hix] at HIX2
    obtain ⟨q3, hcutb3, hq3⟩ := cut_buf (w.heap.size + 1) q2 (bl - bs.length) (bc - bs.length) l2.length (by omega) (by omega)
    have hfin : ∀ W : World, (Instr.slice 59 (.slice (some ⟨(w.heap.size + 1), 0, none⟩) l.length l.length) none (some (.int .i64 ((l.length : Int) - (((bl - bs.length - l2.length) : Nat) : Int)))) none).run Tryd.prog W = .ok (.slice (some ⟨(w.heap.size + 1), 0, none⟩) (q_ + bs.length + l2.length) l.length) W := fun W => by
     rw [show (l.length : Int) - (((bl - bs.length - l2.length) : Nat) : Int) = ((q_ + bs.length + l2.length : Nat) : Int) by omega]
     exact slc_h (some ⟨(w.heap.size + 1), 0, none⟩) l.length l.length (q_ + bs.length + l2.length) (by omega) W
    go_wp2_with (first | (go_at_call 117; (with_reducible refine HU2.out.mono ?_); rintro e_ w5 ⟨rfl, hd5⟩; have K5 := mk0 (BF.tr HF.out.keep hd5); clear hd5) | (go_at_call 116; (with_reducible refine (HIX2.out _ (by first | exact K5.out.below | exact pw_below_drewN K5.out.below _)).mono ?_); rintro e_ w_ ⟨rfl, rfl⟩) | ((with_reducible refine gate_builtin (b := .copy) (xs := #[.tmp 61, .tmp 62]) rfl ?_); refine copy_BF (v := ((w.alloc (.cells #[.bool false, .bool false, .int .i64 0] 147)).alloc (.cells (nums .u8 L0).toArray 5))) (w0 := w0) rfl (.tmp 61) (.tmp 62) 59 59 rfl 5 Tryd.underlying59 sz1_ q2 (bl - bs.length) (bc - bs.length) b o2 l2.length (cc - mm) rfl rfl (q_ + bs.length) K5.out l2 rfl (by omega) (fun hp => hq2 (by omega)) (HI2'.out.below K5.out.below).cell (by omega) ?_; intro w6 K6_; have K6 := mk0 K6_; clear K6_ ))
    go_ret2
    have hlR : (E ++ bs ++ l2).length = q_ + bs.length + l2.length := by have := HE.out.1; simp only [List.length_append]; omega
    have hlE : (E ++ bs).length = q_ + bs.length := by have := HE.out.1; simp only [List.length_append]; omega
    have hRt := splice_take (L := L5) (q := q_ + bs.length) (bs := l2) HT5.out hlE (by omega)
    rw [← hlR] at hRt ⊢
    exact ⟨K6.out.below, _, _, rfl, by omega, K6.out.C hRt (by omega)⟩
   ·rw [if_neg (by omega), hix, Int.toNat_natCast] at hH
    have HIX2 := mk0 (fun W_ (hB_ : Below w0.heap.size w0 W_) => idx_calls (HI2'.out.below hB_) (cc - mm))
    rw [hix] at HIX2
    have hjb : (((j : Nat) : Int) == -1) = false := by simp
    have hjd : decide (((j : Nat) : Int) = -1) = false := decide_eq_false (by omega)
    obtain ⟨q3, hcutb3, hq3⟩ := cut_buf (w.heap.size + 1) q2 (bl - bs.length) (bc - bs.length) j (by omega) (by omega)
    obtain ⟨o3, hcut3, HI3, hc3⟩ := cut_in HI2'.out (cc - mm) j (by omega) hc2
    have hcuth3 := slc_h (some ⟨b, o2, none⟩) l2.length (cc - mm) j (by omega)
    have HI3' := mk0 HI3
    have HQ := mk0 hH
    clear HI3 hH
    have hlt3 : (l2.take j).length = j := by rw [List.length_take]; omega
    go_wp2_with (first | (go_at_call 117; (with_reducible refine HU2.out.mono ?_); rintro e_ w5 ⟨rfl, hd5⟩; have K5 := mk0 (BF.tr HF.out.keep hd5); clear hd5) | (go_at_call 116; (with_reducible refine (HIX2.out _ (by first | exact K5.out.below | exact pw_below_drewN K5.out.below _)).mono ?_); rintro e_ w_ ⟨rfl, rfl⟩) | ((with_reducible refine gate_builtin (b := .copy) (xs := #[.tmp 68, .tmp 71]) rfl ?_); refine copy_BF (v := ((w.alloc (.cells #[.bool false, .bool false, .int .i64 0] 147)).alloc (.cells (nums .u8 L0).toArray 5))) (w0 := w0) rfl (.tmp 68) (.tmp 71) 59 59 rfl 5 Tryd.underlying59 sz1_ q2 (bl - bs.length) (bc - bs.length) b o2 j (cc - mm) rfl rfl (q_ + bs.length) K5.out (l2.take j) hlt3 (by omega) (fun hp => hq2 (by omega)) (fun i_ hi_ => ((HI2'.out.take j (by omega)).below K5.out.below).cell i_ (by omega)) (by omega) ?_; intro w6 K6_; have K6 := mk0 K6_; clear K6_ ))
    go_roundg kr
    case measure => have := HK1.out; omega
    case rel =>
     have hl2 := HL2.out
     have hl3 : (l2.drop j).length = l2.length - j := List.length_drop
     have e2 : q2 = q_ + bs.length := hq2 (by omega)
     have e3 : q3 = q_ + bs.length + j := by have := hq3 (by omega); omega
     subst e2
     subst e3
     refine ⟨l2.drop j, o3, cc - mm - j, q_ + bs.length + j, bl - bs.length - j, bc - bs.length - j, E ++ bs ++ l2.take j, splice L5 (q_ + bs.length) (l2.take j), (by first | rfl | (simp; done)), (by first | rfl | (simp; done)), ⟨by have := HK1.out; omega⟩, HI3', ⟨hc3, by omega, by omega, by omega, by omega, by omega⟩, ⟨by have := HE.out.1; simp only [List.length_append]; omega, by rw [length_splice _ _ _ (by omega)]; exact hL5, ?_⟩, HQ, K6⟩
     have := splice_take (L := L5) (q := q_ + bs.length) (bs := l2.take j) HT5.out (by have := HE.out.1; simp only [List.length_append]; omega) (by omega)
     rwa [hlt3] at this
set_option maxHeartbeats 8000000 in
set_option maxRecDepth 100000 in
theorem uc_none (l : List Int) (b o c : Nat) (w0 w : World) (ov : Value) (hB : Below w0.heap.size w0 w) (hI : IN w0 b o l) (hc : l.length ≤ c) (hj : ixL l = -1) :
 Calls Tryd.prog 98 #[.agg #[.bool false, .bool false, .int .i64 0], .slice (some ⟨b, o, none⟩) l.length c, ov] w fun e w' => UPost w0 (some l) e w' := by
 have HI := mk0 hI
 have HIX := mk0 (fun W_ (hB_ : Below w0.heap.size w0 W_) => idx_calls (hI.below hB_) c)
 rw [hj] at HIX
 have HBA := mk0 (show Below w0.heap.size w0 (w.alloc (.cells #[.bool false, .bool false, .int .i64 0] 147)) from below_alloc hB _)
 clear hI hj hB
 go_enter Tryd.func98, Tryd.ntmps98
 go_wp2_with (first | (go_at_call 116; (with_reducible refine (HIX.out _ HBA.out).mono ?_); rintro e_ w_ ⟨rfl, rfl⟩))
 go_ret2
 exact ⟨HBA.out, _, _, rfl, hc, (HI.out.below HBA.out).C⟩
theorem unc_nil (k : Nat) (l : List Int) (b o c : Nat) (w0 w : World) (res : Option (List Int)) (hT : Laid w0) (hB : Below w0.heap.size w0 w) (hI : IN w0 b o l) (hc : l.length ≤ c) (hcm : c ≤ 9223372036854775807) (h : unc k l = some res) :
 Calls Tryd.prog 98 #[.agg #[.bool false, .bool false, .int .i64 0], .slice (some ⟨b, o, none⟩) l.length c, .slice none 0 0] w fun e w' => UPost w0 res e w' := by
 unfold unc at h
 rcases ixL_range l with hj | ⟨j, hj, hj1, _⟩
 ·rw [if_pos hj] at h
  obtain rfl := Option.some.inj h
  exact uc_none l b o c w0 w _ hB hI hc hj
 ·rw [if_neg (by omega), hj, Int.toNat_natCast] at h
  exact uc_make k l b o c w0 w res _ _ _ hT hB hI hc hcm j hj hj1 (by omega) h
set_option maxHeartbeats 8000000 in
set_option maxRecDepth 100000 in
theorem ue_calls (l : List Int) (b o c : Nat) (w0 w : World) (res : Option (List Int)) (ov : Value) (hT : Laid w0) (hB : Below w0.heap.size w0 w)
 (hU : Calls Tryd.prog 98 #[.agg #[.bool false, .bool false, .int .i64 0], .slice (some ⟨b, o, none⟩) l.length c, ov] w fun e w' => UPost w0 res e w') :
 Calls Tryd.prog 75 #[.slice (some ⟨b, o, none⟩) l.length c, ov] w fun e w' => UPost w0 res e w' := by
 have c0 := (hT.below hB).cfg0
 have c1 := (hT.below hB).cfg1
 have c2 := (hT.below hB).cfg2
 have HU := mk0 hU
 clear hT hB hU
 cases res with
 | some R =>
  go_enter Tryd.func75, Tryd.ntmps75
  go_wp2_with (first | (go_at_call 98; (with_reducible refine HU.out.mono ?_); rintro e_ w_ ⟨hb, A', c', rfl, hc', hC'⟩; have K := mk0 (And.intro hb (And.intro hc' hC')); clear hb hc' hC'))
  go_ret2
  exact ⟨K.out.1, A', c', rfl, K.out.2.1, K.out.2.2⟩
 | none =>
  go_enter Tryd.func75, Tryd.ntmps75
  go_wp2_with (first | (go_at_call 98; (with_reducible refine HU.out.mono ?_); rintro e_ w_ ⟨hb, te, pe, rfl, hesc⟩; have K := mk0 (And.intro hb hesc); clear hb hesc))
  go_ret2
  exact ⟨K.out.1, te, pe, rfl, K.out.2⟩
theorem stp_mono (k : Nat) (l : List Int) : LeO (stp k l) (stp (k + 1) l) := by
 unfold stp
 exact LeO.ite (LeO.refl _) (LeO.ite (LeO.ite (LeO.refl _) (LeO.ite (LeO.bind (jsonparser_decodeUnicodeEscape.mono _ _) (fun _ => LeO.refl _)) (LeO.refl _))) (LeO.refl _))
theorem jun_mono (k : Nat) : ∀ (f : Nat) (l E : List Int), LeO (jun k f l E) (jun (k + 1) (f + 1) l E)
 | 0, _, _ => fun r h => by simp [jun] at h
 | f + 1, l, E => by
  rw [jun, jun]
  exact LeO.bind (stp_mono k l) (fun _ => LeO.ite (LeO.refl _) (LeO.ite (LeO.ite (LeO.refl _) (jun_mono k f _ _)) (LeO.refl _)))
theorem unc_mono (k : Nat) (l : List Int) : LeO (unc k l) (unc (k + 1) l) := by
 unfold unc
 exact LeO.ite (LeO.refl _) (jun_mono k k _ _)
theorem in_bytes (w : World) (s : ByteArray) (hs : s.size ≤ 2147483647) : IN (Lib.bytesWorld w 5 s) w.heap.size 0 (bytesOf s) := by
 refine ⟨fun i hi => ?_, by rw [Lib.bytesWorld_size]; omega, J.bytesOf_range s, by rw [bytesOf_length]; exact hs⟩
 rw [bytesOf_length] at hi
 obtain ⟨ad, e, h⟩ := (bytes_reads w 5 s (by omega)).2.2 (by omega)
 cases e
 have := h i hi
 rw [add_at] at this
 exact this
def sck (a : ByteArray) : Nat → Int → Option (Option Int)
  | 0, _ => none
  | k + 1, p => if p < (a.size : Int) then (if bt a p = 92 then (if p + 1 < (a.size : Int) then sck a k (p + 1 + 1) else some none) else if bt a p = 34 then some (some p) else if bt a p < 32 then some none else sck a k (p + 1)) else some none
theorem sck_mono (a : ByteArray) : ∀ (k : Nat) (p : Int), LeO (sck a k p) (sck a (k + 1) p)
 | 0, _ => fun r h => by simp [sck] at h
 | k + 1, p => by
  rw [sck, sck]
  exact LeO.ite (LeO.ite (LeO.ite (sck_mono a k _) (LeO.refl _)) (LeO.ite (LeO.refl _) (LeO.ite (LeO.refl _) (sck_mono a k _)))) (LeO.refl _)
def pqR : Option (List Int) → Int → ByteArray × Int × Option Int
  | none, _ => (⟨#[]⟩, 0, some 0)
  | some R, p => (strOfNums R, p + 1, none)
def pqK (a : ByteArray) (k : Nat) (b : Int) : Option Int → Option (ByteArray × Int × Option Int)
  | none => some (⟨#[]⟩, 0, some 0)
  | some p => (unc k (bytesOf (a.extract b.toNat p.toNat))).bind fun r => some (pqR r p)
def jsonparser_parseQuotedPathKey.f (k : Nat) (a0 : ByteArray) (a1 : Int) : Option (ByteArray × Int × Option Int) :=
  if a0.size ≤ 2147483647 ∧ 0 ≤ a1 ∧ a1 < (a0.size : Int) then (sck a0 k (a1 + 1)).bind (pqK a0 k (a1 + 1)) else none
theorem jsonparser_parseQuotedPathKey.mono : ∀ a0 a1 k, LeO (jsonparser_parseQuotedPathKey.f k a0 a1) (jsonparser_parseQuotedPathKey.f (k + 1) a0 a1) := fun a0 a1 k =>
 LeO.ite (LeO.bind (sck_mono a0 k _) (fun p => by
  cases p with
  | none => exact LeO.refl _
  | some p => exact LeO.bind (unc_mono k _) (fun _ => LeO.refl _))) (LeO.refl _)
theorem lib_bytesOf (s : ByteArray) : Lib.bytesOf (bytesOf s) = s.data.toList := by
 unfold Lib.bytesOf bytesOf
 rw [List.map_map]
 conv => rhs; rw [← List.map_id s.data.toList]
 apply List.map_congr_left
 intro x _
 simp
theorem idx_str (s : ByteArray) : Lib.indexByte s.data.toList (92 : Int).toNat.toUInt8 = ixL (bytesOf s) := by
 rw [← ixL_lib _ (J.bytesOf_range s), lib_bytesOf]
theorem str_of_bytes (s : ByteArray) : strOfNums (bytesOf s) = s := strOfNums_numsOf s
set_option maxHeartbeats 8000000 in
set_option maxRecDepth 100000 in
theorem jsonparser_parseQuotedPathKey.calls (k : Nat) (a0 : ByteArray) (a1 : Int) (r1 : ByteArray) (r2 : Int) (r3 : Option Int) (w : World) (hG : Laid w) (h : jsonparser_parseQuotedPathKey.f k a0 a1 = some (r1, r2, r3)) :
 Calls Tryd.prog 43 #[.string a0, .int .i64 a1] w fun e w' => ∃ z_r3 : Option (TypeId × Value), Zk z_r3 r3 ∧ e = .returned (.tuple #[.string r1, .int .i64 r2, errW z_r3]) ∧ Below w.heap.size w w' := by
 unfold jsonparser_parseQuotedPathKey.f at h
 split at h
 case isFalse => cases h
 case isTrue hs =>
 obtain ⟨hs, ha0, ha1⟩ := hs
 obtain ⟨res, hS, hR⟩ := Option.bind_eq_some_iff.mp h
 clear h
 have HQ := mk0 hS
 have HR := mk0 hR
 have HT := mk0 hG
 clear hS hR hG
 have HB := mk0 (Below.refl w.heap.size w)
 go_enter Tryd.func43, Tryd.ntmps43
 go_wp2
 go_loopg [8] k (fun kq v3 w' => ∃ (i : Int), v3 = .int .i64 i ∧ Aside0 (kq ≤ k) ∧ (0 ≤ i ∧ a1 + 1 ≤ i ∧ i ≤ (a0.size : Int) + 1) ∧ Aside0 (sck a0 kq i = some res) ∧ Aside0 (Below w.heap.size w w'))
 case atStart => exact ⟨a1 + 1, rfl, ⟨Nat.le_refl _⟩, by omega, HQ, HB⟩
 case round =>
  clear HQ HB
  obtain ⟨i, rfl, HK1, hi, HQ, HB⟩ := hrel
  have hT2 := HT.out.below HB.out
  obtain ⟨te1, pe1, g1⟩ := hT2.e2
  obtain ⟨te2, pe2, g2⟩ := hT2.e3
  clear hT2
  cases gk with
  | zero => exact absurd HQ.out (by simp [sck])
  | succ kr =>
   have hH := HQ.out
   clear HQ
   rw [sck] at hH
   by_cases hlt : i < (a0.size : Int)
   rotate_left
   ·rw [if_neg hlt] at hH
    obtain rfl := Option.some.inj hH
    clear hH
    have hr := HR.out
    simp only [pqK, pqR, Option.some.injEq, Prod.mk.injEq] at hr
    obtain ⟨rfl, rfl, rfl⟩ := hr
    clear HR
    go_wp2
    repeat (go_quiet (fail); try go_wp2)
    go_ret3
    exact ⟨some (te2, pe2), Zk.ss, by first | rfl | (simp [*, errW_some] <;> rfl), by first | exact HB.out | exact pw_below_drewN HB.out _ | exact below_drew1 HB.out⟩
   rw [if_pos hlt] at hH
   have hx6 := bt_at a0 i
   have p6 : (0 ≤ i) = True := eq_true hi.1
   have q6 : (i < (a0.size : Int)) = True := eq_true hlt
   by_cases h92 : bt a0 i = 92
   ·rw [if_pos h92] at hH
    by_cases hlt2 : i + 1 < (a0.size : Int)
    ·rw [if_pos hlt2] at hH
     have HQ := mk0 hH
     clear hH
     go_wp2
     go_roundg kr
     case measure => have := HK1.out; omega
     case rel => exact ⟨i + 1 + 1, zq3, ⟨by have := HK1.out; omega⟩, by omega, HQ, HB⟩
    rw [if_neg hlt2] at hH
    obtain rfl := Option.some.inj hH
    clear hH
    have hr := HR.out
    simp only [pqK, pqR, Option.some.injEq, Prod.mk.injEq] at hr
    obtain ⟨rfl, rfl, rfl⟩ := hr
    clear HR
    have hge : ((a0.size : Int) ≤ i + 1) = True := eq_true (by omega)
    go_wp2
    repeat (go_quiet (fail); try go_wp2)
    go_ret3
    exact ⟨some (te2, pe2), Zk.ss, by first | rfl | (simp [*, errW_some] <;> rfl), by first | exact HB.out | exact pw_below_drewN HB.out _ | exact below_drew1 HB.out⟩
   rw [if_neg h92] at hH
   have hb9 : (bt a0 i == 92) = false := by simp [h92]
   have hd9 : decide (bt a0 i = 92) = false := decide_eq_false h92
   by_cases h34 : bt a0 i = 34
   rotate_left
   ·rw [if_neg h34] at hH
    have hb3 : (bt a0 i == 34) = false := by simp [h34]
    have hd3 : decide (bt a0 i = 34) = false := decide_eq_false h34
    by_cases h32 : bt a0 i < 32
    rotate_left
    ·rw [if_neg h32] at hH
     have HQ := mk0 hH
     clear hH
     go_wp2
     go_roundg kr
     case measure => have := HK1.out; omega
     case rel => exact ⟨i + 1, zq3, ⟨by have := HK1.out; omega⟩, by omega, HQ, HB⟩
    rw [if_pos h32] at hH
    obtain rfl := Option.some.inj hH
    clear hH
    have hr := HR.out
    simp only [pqK, pqR, Option.some.injEq, Prod.mk.injEq] at hr
    obtain ⟨rfl, rfl, rfl⟩ := hr
    clear HR
    go_wp2
    repeat (go_quiet (fail); try go_wp2)
    go_ret3
    exact ⟨some (te1, pe1), Zk.ss, by first | rfl | (simp [*, errW_some] <;> rfl), by first | exact HB.out | exact pw_below_drewN HB.out _ | exact below_drew1 HB.out⟩
   rw [if_pos h34] at hH
   obtain rfl := Option.some.inj hH
   clear hH
   have hr := HR.out
   clear HR
   replace hr := Option.bind_eq_some_iff.mp hr
   obtain ⟨R, hU, hr⟩ := hr
   have hct := mk0 (Eq.refl (a0.extract (a1 + 1).toNat i.toNat))
   generalize hc : a0.extract (a1 + 1).toNat i.toNat = ct at hU
   have hsz : ct.size ≤ 2147483647 := by rw [← hc, ByteArray.size_extract]; omega
   rcases ixL_range (bytesOf ct) with hj | ⟨j, hj, hj1, _⟩
   ·have hu : unc k (bytesOf ct) = some (some (bytesOf ct)) := by unfold unc; rw [if_pos hj]
    rw [hu] at hU
    obtain rfl := Option.some.inj hU
    simp only [pqK, pqR, Option.some.injEq, Prod.mk.injEq] at hr
    obtain ⟨rfl, rfl, rfl⟩ := hr
    clear hU hu
    have t1 : (0 ≤ a1 + 1) = True := eq_true (by omega)
    have t2 : (a1 + 1 ≤ i) = True := eq_true hi.2.1
    have t3 : (i ≤ (a0.size : Int)) = True := eq_true (by omega)
    have d1 : decide (0 ≤ a1 + 1) = true := decide_eq_true (by omega)
    have d2 : decide (a1 + 1 ≤ i) = true := decide_eq_true hi.2.1
    have d3 : decide (i ≤ (a0.size : Int)) = true := decide_eq_true (by omega)
    have hix : Lib.indexByte ct.data.toList (92 : Int).toNat.toUInt8 = -1 := (idx_str ct).trans hj
    go_wp2_with (first | (go_at_call 74; (with_reducible refine (Tryd.strings_IndexByte ct 92 _).mono ?_); rintro e_ w_ ⟨rfl, rfl⟩; rw [hix]))
    go_ret3
    exact ⟨none, Zk.nn, by rw [str_of_bytes]; rfl, HB.out⟩
   ·have hix : Lib.indexByte ct.data.toList (92 : Int).toNat.toUInt8 = (j : Int) := (idx_str ct).trans hj
    have t1 : (0 ≤ a1 + 1) = True := eq_true (by omega)
    have t2 : (a1 + 1 ≤ i) = True := eq_true hi.2.1
    have t3 : (i ≤ (a0.size : Int)) = True := eq_true (by omega)
    have d1 : decide (0 ≤ a1 + 1) = true := decide_eq_true (by omega)
    have d2 : decide (a1 + 1 ≤ i) = true := decide_eq_true hi.2.1
    have d3 : decide (i ≤ (a0.size : Int)) = true := decide_eq_true (by omega)
    have hb := bytes_below (B := wr.heap.size) (Below.refl _ wr) (Nat.le_refl _) 5 ct
    have hbb : Below (Lib.bytesWorld wr 5 ct).heap.size (Lib.bytesWorld wr 5 ct) (Lib.bytesWorld wr 5 ct) := Below.refl _ _
    have hT1 := (HT.out.below HB.out).below hb
    have hp := ue_calls (bytesOf ct) wr.heap.size 0 (grownCap wr ct.size 0 5) (Lib.bytesWorld wr 5 ct) (Lib.bytesWorld wr 5 ct) R (.slice none 0 0) hT1 hbb (unc_nil k (bytesOf ct) wr.heap.size 0 (grownCap wr ct.size 0 5) (Lib.bytesWorld wr 5 ct) (Lib.bytesWorld wr 5 ct) R hT1 hbb (in_bytes wr ct hsz) (by rw [bytesOf_length]; exact grownCap_ge wr ct.size 0 5) (by have := grownCap_le_maxLen wr ct.size 0 5 (by simp only [maxLen]; omega); simpa [maxLen] using this) hU)
    rw [bytesOf_length] at hp
    have HP := mk0 hp
    have HBB := mk0 hb
    have kb := fun W => print_bytes (P := Tryd.prog) 9 59 5 Tryd.underlying9 Tryd.underlying59 Tryd.underlying5 ct W
    have G1 := mk0 g1
    clear hb hp hU hbb hT1 hsz g1 hj hj1
    cases R with
    | none =>
     simp only [pqR, Option.some.injEq, Prod.mk.injEq] at hr
     obtain ⟨rfl, rfl, rfl⟩ := hr
     go_wp2_with (first | (go_at_call 74; (with_reducible refine (Tryd.strings_IndexByte ct 92 _).mono ?_); rintro e_ w_ ⟨rfl, rfl⟩; rw [hix]) | (go_at_call 75; (with_reducible refine HP.out.mono ?_); rintro e_ w_ ⟨hd, te, pe, rfl, _⟩; have hk := below_step HBB.out hd; have hg1 := (bel_cell hk (World.block_lt_of_cell? _ _ G1.out)).trans G1.out; have K := mk0 hk; clear hd hk))
     repeat (go_quiet (fail); try go_wp2)
     go_ret3
     exact ⟨some (te1, pe1), Zk.ss, by first | rfl | (simp [*, errW_some] <;> rfl), by first | exact below_step HB.out K.out | exact pw_below_drewN (below_step HB.out K.out) _⟩
    | some R =>
     simp only [pqR, Option.some.injEq, Prod.mk.injEq] at hr
     obtain ⟨rfl, rfl, rfl⟩ := hr
     go_wp2_with (first | (go_at_call 74; (with_reducible refine (Tryd.strings_IndexByte ct 92 _).mono ?_); rintro e_ w_ ⟨rfl, rfl⟩; rw [hix]) | (go_at_call 75; (with_reducible refine HP.out.mono ?_); rintro e_ w_ ⟨hd, A', c', rfl, hc', hC'⟩; have hcv := Kd.C_string (P := Tryd.prog) (n := R.length) (c := c') Tryd.underlying59 Tryd.underlying5 Tryd.underlying9 hC'; have K := mk0 (below_step HBB.out hd); clear hd hc' hC'))
     repeat (go_quiet (fail); try go_wp2)
     go_ret3
     exact ⟨none, Zk.nn, by first | rfl | (simp [*, errW_none] <;> rfl), by first | exact below_step HB.out K.out | exact pw_below_drewN (below_step HB.out K.out) _⟩
end Go.Proofs.YtafbdpdbagkbgaaDoor.Q
end
section
namespace Go.Proofs.YtafbdpdbagkbgaaDoor.Q
open Go.RowKit Go.Proofs.YtafbdpdbagkbgaaDoorW.PrintWords Go.Proofs.YtafbdpdbagkbgaaDoorW.PrintLast Go.Proofs.YtafbdpdbagkbgaaDoorW.PrintMore
attribute [local go_sem] max2_int min2_int max_two min_two max_three min_three max_four min_four
set_option linter.unusedVariables false
set_option linter.unusedSimpArgs false
def brE (a : ByteArray) : Nat → Int → Option (Option Int)
  | 0, _ => none
  | k + 1, p => if p < (a.size : Int) then (if bt a p = 93 then some (some p) else if bt a p = 91 then some none else if bt a p = 34 then some none else brE a k (p + 1)) else some none
def dgE (a : ByteArray) (e : Int) : Nat → Int → Option Bool
  | 0, _ => none
  | k + 1, p => if p < e then (if bt a p < 48 then some false else if bt a p > 57 then some false else dgE a e k (p + 1)) else some true
theorem brE_mono (a : ByteArray) : ∀ (k : Nat) (p : Int), LeO (brE a k p) (brE a (k + 1) p)
 | 0, _ => fun r h => by simp [brE] at h
 | k + 1, p => by
  rw [brE, brE]
  exact LeO.ite (LeO.ite (LeO.refl _) (LeO.ite (LeO.refl _) (LeO.ite (LeO.refl _) (brE_mono a k _)))) (LeO.refl _)
theorem dgE_mono (a : ByteArray) (e : Int) : ∀ (k : Nat) (p : Int), LeO (dgE a e k p) (dgE a e (k + 1) p)
 | 0, _ => fun r h => by simp [dgE] at h
 | k + 1, p => by
  rw [dgE, dgE]
  exact LeO.ite (LeO.ite (LeO.refl _) (LeO.ite (LeO.refl _) (dgE_mono a e k _))) (LeO.refl _)
def pbT (a : ByteArray) (s e : Int) : Bool → ByteArray × Int × Option Int
  | true => (a.extract s.toNat (e + 1).toNat, e + 1, none)
  | false => (⟨#[]⟩, 0, some 0)
def pbK (a : ByteArray) (k : Nat) (s : Int) : Option Int → Option (ByteArray × Int × Option Int)
  | none => some (⟨#[]⟩, 0, some 0)
  | some e => if e = s + 1 then some (⟨#[]⟩, 0, some 0) else if bt a (s + 1) = 42 then some (pbT a s e (decide (e = s + 2))) else (dgE a e k (s + 1)).bind fun b => some (pbT a s e b)
def jsonparser_parseBracketPathComponent.f (k : Nat) (a0 : ByteArray) (a1 : Int) : Option (ByteArray × Int × Option Int) :=
  if a0.size ≤ 2147483647 ∧ 0 ≤ a1 ∧ a1 < (a0.size : Int) then (brE a0 k (a1 + 1)).bind (pbK a0 k a1) else none
theorem jsonparser_parseBracketPathComponent.mono : ∀ a0 a1 k, LeO (jsonparser_parseBracketPathComponent.f k a0 a1) (jsonparser_parseBracketPathComponent.f (k + 1) a0 a1) := fun a0 a1 k =>
 LeO.ite (LeO.bind (brE_mono a0 k _) (fun p => by
  cases p with
  | none => exact LeO.refl _
  | some p => exact LeO.ite (LeO.refl _) (LeO.ite (LeO.refl _) (LeO.bind (dgE_mono a0 p k _) (fun _ => LeO.refl _))))) (LeO.refl _)
set_option maxHeartbeats 8000000 in
set_option maxRecDepth 100000 in
theorem jsonparser_parseBracketPathComponent.calls (k : Nat) (a0 : ByteArray) (a1 : Int) (r1 : ByteArray) (r2 : Int) (r3 : Option Int) (w : World) (hG : Laid w) (h : jsonparser_parseBracketPathComponent.f k a0 a1 = some (r1, r2, r3)) :
 Calls Tryd.prog 44 #[.string a0, .int .i64 a1] w fun e w' => ∃ z_r3 : Option (TypeId × Value), Zk z_r3 r3 ∧ e = .returned (.tuple #[.string r1, .int .i64 r2, errW z_r3]) ∧ Below w.heap.size w w' := by
 unfold jsonparser_parseBracketPathComponent.f at h
 split at h
 case isFalse => cases h
 case isTrue hs =>
 obtain ⟨hs, ha0, ha1⟩ := hs
 obtain ⟨res, hS, hR⟩ := Option.bind_eq_some_iff.mp h
 clear h
 have HQ := mk0 hS
 have HR := mk0 hR
 have HT := mk0 hG
 clear hS hR hG
 have HB := mk0 (Below.refl w.heap.size w)
 go_enter Tryd.func44, Tryd.ntmps44
 go_wp2
 go_loopg [7] k (fun kq v3 w' => ∃ (i : Int), v3 = .int .i64 i ∧ Aside0 (kq ≤ k) ∧ (0 ≤ i ∧ a1 + 1 ≤ i ∧ i ≤ (a0.size : Int)) ∧ Aside0 (brE a0 kq i = some res) ∧ Aside0 (Below w.heap.size w w'))
 case atStart => exact ⟨a1 + 1, rfl, ⟨Nat.le_refl _⟩, by omega, HQ, HB⟩
 case round =>
  clear HQ HB
  obtain ⟨i, rfl, HK1, hi, HQ, HB⟩ := hrel
  have hT2 := HT.out.below HB.out
  obtain ⟨te1, pe1, g1⟩ := hT2.e2
  clear hT2
  cases gk with
  | zero => exact absurd HQ.out (by simp [brE])
  | succ kr =>
   have hH := HQ.out
   clear HQ
   rw [brE] at hH
   by_cases hlt : i < (a0.size : Int)
   rotate_left
   ·rw [if_neg hlt] at hH
    obtain rfl := Option.some.inj hH
    clear hH
    have hr := HR.out
    simp only [pbK, Option.some.injEq, Prod.mk.injEq] at hr
    obtain ⟨rfl, rfl, rfl⟩ := hr
    have n1 : (i == (a0.size : Int)) = true := beq_iff_eq.mpr (by omega)
    have n2 : decide (i = (a0.size : Int)) = true := decide_eq_true (by omega)
    have n3 : decide (i < (a0.size : Int)) = false := decide_eq_false hlt
    go_wp2
    repeat (go_quiet (fail); try go_wp2)
    go_ret3
    exact ⟨some (te1, pe1), Zk.ss, by first | rfl | (simp [*, errW_some] <;> rfl), by first | exact HB.out | exact pw_below_drewN HB.out _ | exact below_drew1 HB.out⟩
   rw [if_pos hlt] at hH
   have hx6 := bt_at a0 i
   have p6 : (0 ≤ i) = True := eq_true hi.1
   have q6 : (i < (a0.size : Int)) = True := eq_true hlt
   by_cases h93 : bt a0 i = 93
   rotate_left
   ·rw [if_neg h93] at hH
    have hb9 : (bt a0 i == 93) = false := by simp [h93]
    have hc9 : (bt a0 i != 93) = true := by simp [h93]
    have hd9 : decide (bt a0 i = 93) = false := decide_eq_false h93
    by_cases h91 : bt a0 i = 91
    ·rw [if_pos h91] at hH
     obtain rfl := Option.some.inj hH
     clear hH
     have hr := HR.out
     simp only [pbK, Option.some.injEq, Prod.mk.injEq] at hr
     obtain ⟨rfl, rfl, rfl⟩ := hr
     have y1 : (bt a0 i == 91) = true := by simp [h91]
     have y2 : decide (bt a0 i = 91) = true := decide_eq_true h91
     clear h91 h93
     go_wp2
     repeat (go_quiet (fail); try go_wp2)
     go_ret3
     exact ⟨some (te1, pe1), Zk.ss, by first | rfl | (simp [*, errW_some] <;> rfl), by first | exact HB.out | exact pw_below_drewN HB.out _ | exact below_drew1 HB.out⟩
    rw [if_neg h91] at hH
    have y1 : (bt a0 i == 91) = false := by simp [h91]
    have y2 : decide (bt a0 i = 91) = false := decide_eq_false h91
    by_cases h34 : bt a0 i = 34
    rotate_left
    ·rw [if_neg h34] at hH
     have HQ := mk0 hH
     clear hH
     have z1 : (bt a0 i == 34) = false := by simp [h34]
     have z2 : decide (bt a0 i = 34) = false := decide_eq_false h34
     go_wp2
     go_roundg kr
     case measure => have := HK1.out; omega
     case rel => exact ⟨i + 1, zq3, ⟨by have := HK1.out; omega⟩, by omega, HQ, HB⟩
    rw [if_pos h34] at hH
    obtain rfl := Option.some.inj hH
    clear hH
    have hr := HR.out
    simp only [pbK, Option.some.injEq, Prod.mk.injEq] at hr
    obtain ⟨rfl, rfl, rfl⟩ := hr
    have z1 : (bt a0 i == 34) = true := by simp [h34]
    have z2 : decide (bt a0 i = 34) = true := decide_eq_true h34
    clear h34 h91 h93
    go_wp2
    repeat (go_quiet (fail); try go_wp2)
    go_ret3
    exact ⟨some (te1, pe1), Zk.ss, by first | rfl | (simp [*, errW_some] <;> rfl), by first | exact HB.out | exact pw_below_drewN HB.out _ | exact below_drew1 HB.out⟩
   rw [if_pos h93] at hH
   obtain rfl := Option.some.inj hH
   clear hH
   have hb9 : (bt a0 i == 93) = true := by simp [h93]
   have hc9 : (bt a0 i != 93) = false := by simp [h93]
   have n1 : (i == (a0.size : Int)) = false := beq_eq_false_iff_ne.mpr (by omega)
   have n2 : decide (i = (a0.size : Int)) = false := decide_eq_false (by omega)
   have hr := HR.out
   clear HR h93
   simp only [pbK] at hr
   by_cases he : i = a1 + 1
   ·rw [if_pos he] at hr
    simp only [Option.some.injEq, Prod.mk.injEq] at hr
    obtain ⟨rfl, rfl, rfl⟩ := hr
    have m1 : (i == a1 + 1) = true := beq_iff_eq.mpr he
    have m2 : decide (i = a1 + 1) = true := decide_eq_true he
    clear he
    go_wp2
    repeat (go_quiet (fail); try go_wp2)
    go_ret3
    exact ⟨some (te1, pe1), Zk.ss, by first | rfl | (simp [*, errW_some] <;> rfl), by first | exact HB.out | exact pw_below_drewN HB.out _ | exact below_drew1 HB.out⟩
   rw [if_neg he] at hr
   have m1 : (i == a1 + 1) = false := beq_eq_false_iff_ne.mpr he
   have m2 : decide (i = a1 + 1) = false := decide_eq_false he
   have hx7 := bt_at a0 (a1 + 1)
   have p7 : (0 ≤ a1 + 1) = True := eq_true (by omega)
   have q7 : (a1 + 1 < (a0.size : Int)) = True := eq_true (by omega)
   have t1 : (0 ≤ a1) = True := eq_true ha0
   have t2 : (a1 ≤ i + 1) = True := eq_true (by omega)
   have t3 : (i + 1 ≤ (a0.size : Int)) = True := eq_true (by omega)
   have d1 : decide (0 ≤ a1) = true := decide_eq_true ha0
   have d2 : decide (a1 ≤ i + 1) = true := decide_eq_true (by omega)
   have d3 : decide (i + 1 ≤ (a0.size : Int)) = true := decide_eq_true (by omega)
   have hei : a1 + 1 < i := by omega
   clear he
   by_cases h42 : bt a0 (a1 + 1) = 42
   ·rw [if_pos h42] at hr
    have s1 : (bt a0 (a1 + 1) == 42) = true := by simp [h42]
    have s2 : decide (bt a0 (a1 + 1) = 42) = true := decide_eq_true h42
    clear h42
    by_cases h2 : i = a1 + 2
    ·rw [decide_eq_true h2] at hr
     simp only [pbT, Option.some.injEq, Prod.mk.injEq] at hr
     obtain ⟨rfl, rfl, rfl⟩ := hr
     have u1 : (i == a1 + 2) = true := beq_iff_eq.mpr h2
     have u2 : (i != a1 + 2) = false := bne_eq_false_iff_eq.mpr h2
     have u3 : decide (i = a1 + 2) = true := decide_eq_true h2
     clear h2
     go_wp2
     repeat (go_quiet (fail); try go_wp2)
     go_ret3
     exact ⟨none, Zk.nn, by first | rfl | (simp [*, errW_none] <;> rfl), by first | exact HB.out | exact pw_below_drewN HB.out _ | exact below_drew1 HB.out⟩
    rw [decide_eq_false h2] at hr
    simp only [pbT, Option.some.injEq, Prod.mk.injEq] at hr
    obtain ⟨rfl, rfl, rfl⟩ := hr
    have u1 : (i == a1 + 2) = false := beq_eq_false_iff_ne.mpr h2
    have u2 : (i != a1 + 2) = true := bne_iff_ne.mpr h2
    have u3 : decide (i = a1 + 2) = false := decide_eq_false h2
    clear h2
    go_wp2
    repeat (go_quiet (fail); try go_wp2)
    go_ret3
    exact ⟨some (te1, pe1), Zk.ss, by first | rfl | (simp [*, errW_some] <;> rfl), by first | exact HB.out | exact pw_below_drewN HB.out _ | exact below_drew1 HB.out⟩
   rw [if_neg h42] at hr
   have s1 : (bt a0 (a1 + 1) == 42) = false := by simp [h42]
   have s2 : decide (bt a0 (a1 + 1) = 42) = false := decide_eq_false h42
   clear h42
   obtain ⟨b, hD, hr⟩ := Option.bind_eq_some_iff.mp hr
   have HD := mk0 hD
   have HR := mk0 hr
   clear hD hr
   have G1 := mk0 g1
   clear g1
   go_wp2
   go_loopg [8] k (fun kq v3 w' => ∃ (j : Int), v3 = .int .i64 j ∧ Aside0 (kq ≤ k) ∧ (0 ≤ j ∧ a1 + 1 ≤ j ∧ j ≤ i) ∧ Aside0 (dgE a0 i kq j = some b) ∧ Aside0 (w' = wr))
   case atStart => exact ⟨a1 + 1, rfl, ⟨Nat.le_refl _⟩, by omega, HD, ⟨rfl⟩⟩
   case round =>
    clear HD hx7 p7 q7 hx6 p6 q6
    obtain ⟨j, rfl, HK2, hj, HQ2, HW⟩ := hrel
    obtain rfl := HW.out
    clear HW
    have g1 := G1.out
    clear G1
    cases gk with
    | zero => exact absurd HQ2.out (by simp [dgE])
    | succ kr2 =>
     have hH := HQ2.out
     clear HQ2
     rw [dgE] at hH
     by_cases hjl : j < i
     rotate_left
     ·rw [if_neg hjl] at hH
      obtain rfl := Option.some.inj hH
      clear hH
      have hr := HR.out
      simp only [pbT, Option.some.injEq, Prod.mk.injEq] at hr
      obtain ⟨rfl, rfl, rfl⟩ := hr
      have v1 : decide (j < i) = false := decide_eq_false hjl
      go_wp2
      repeat (go_quiet (fail); try go_wp2)
      go_ret3
      exact ⟨none, Zk.nn, by first | rfl | (simp [*, errW_none] <;> rfl), by first | exact HB.out | exact pw_below_drewN HB.out _ | exact below_drew1 HB.out⟩
     rw [if_pos hjl] at hH
     have v1 : decide (j < i) = true := decide_eq_true hjl
     have hx8 := bt_at a0 j
     have p8 : (0 ≤ j) = True := eq_true hj.1
     have q8 : (j < (a0.size : Int)) = True := eq_true (by omega)
     by_cases h48 : bt a0 j < 48
     ·rw [if_pos h48] at hH
      obtain rfl := Option.some.inj hH
      clear hH
      have hr := HR.out
      simp only [pbT, Option.some.injEq, Prod.mk.injEq] at hr
      obtain ⟨rfl, rfl, rfl⟩ := hr
      have y1 : decide (bt a0 j < 48) = true := decide_eq_true h48
      clear h48
      go_wp2
      repeat (go_quiet (fail); try go_wp2)
      go_ret3
      exact ⟨some (te1, pe1), Zk.ss, by first | rfl | (simp [*, errW_some] <;> rfl), by first | exact HB.out | exact pw_below_drewN HB.out _ | exact below_drew1 HB.out⟩
     rw [if_neg h48] at hH
     have y1 : decide (bt a0 j < 48) = false := decide_eq_false h48
     by_cases h57 : bt a0 j > 57
     rotate_left
     ·rw [if_neg h57] at hH
      have HQ2 := mk0 hH
      clear hH
      have y2 : decide (bt a0 j > 57) = false := decide_eq_false h57
      go_wp2
      go_roundg kr2
      case measure => have := HK2.out; omega
      case rel => exact ⟨j + 1, zq3, ⟨by have := HK2.out; omega⟩, by omega, HQ2, ⟨rfl⟩⟩
     rw [if_pos h57] at hH
     obtain rfl := Option.some.inj hH
     clear hH
     have hr := HR.out
     simp only [pbT, Option.some.injEq, Prod.mk.injEq] at hr
     obtain ⟨rfl, rfl, rfl⟩ := hr
     have y2 : decide (bt a0 j > 57) = true := decide_eq_true h57
     go_wp2
     repeat (go_quiet (fail); try go_wp2)
     go_ret3
     exact ⟨some (te1, pe1), Zk.ss, by first | rfl | (simp [*, errW_some] <;> rfl), by first | exact HB.out | exact pw_below_drewN HB.out _ | exact below_drew1 HB.out⟩
mutual
def jsonparser_ParsePath.j0 : Nat → ByteArray → Option (List ByteArray × Option Int)
  | 0, _ => none
  | k + 1, x0 => if x0.toList = ([] : List UInt8) then (some (([] : List ByteArray), some 1)) else ((jsonparser_zzCount.f k x0 (⟨#[46]⟩ : ByteArray)).bind fun t106 => ((jsonparser_zzCount.f k x0 (⟨#[91]⟩ : ByteArray)).bind fun t107 => (if 0 ≤ (wrap64 ((wrap64 (1 + t106)) + t107)) then (if (wrap64 ((wrap64 (1 + t106)) + t107) : Int).toNat ≤ 17592186044416 then (jsonparser_ParsePath.l0 k x0 (([] : List ByteArray)) 0) else (none)) else (none))))
def jsonparser_ParsePath.l0 : Nat → ByteArray → List ByteArray → Int → Option (List ByteArray × Option Int)
  | 0, _, _, _ => none
  | k + 1, x0, x4, x5 => if x5 < (x0.size : Int) then (if 0 ≤ x5 then (if (bt x0 x5) = 46 then (some (([] : List ByteArray), some 1)) else (if (bt x0 x5) = 34 then ((jsonparser_parseQuotedPathKey.f k x0 x5).bind fun bt111 => (if bt111.2.2.isNone = true then (if x4.length < 8796093022208 then (jsonparser_ParsePath.j4 k x0 (x4 ++ [bt111.1]) bt111.2.1) else (none)) else (some (([] : List ByteArray), some (bt111.2.2.getD 0))))) else (if (bt x0 x5) = 91 then (jsonparser_ParsePath.j4 k x0 x4 x5) else (jsonparser_ParsePath.l1 k x0 x4 x5 x5)))) else (none)) else (if (x4.length : Int) = 0 then (some (([] : List ByteArray), some 1)) else (some (x4, none)))
def jsonparser_ParsePath.j4 : Nat → ByteArray → List ByteArray → Int → Option (List ByteArray × Option Int)
  | 0, _, _, _ => none
  | k + 1, x0, x4, x5 => jsonparser_ParsePath.l2 k x0 x4 x5
def jsonparser_ParsePath.l2 : Nat → ByteArray → List ByteArray → Int → Option (List ByteArray × Option Int)
  | 0, _, _, _ => none
  | k + 1, x0, x4, x5 => if x5 < (x0.size : Int) then (if 0 ≤ x5 then (jsonparser_ParsePath.j6 k x0 x4 x5 ((bt x0 x5) == 91)) else (none)) else (jsonparser_ParsePath.j6 k x0 x4 x5 false)
def jsonparser_ParsePath.j6 : Nat → ByteArray → List ByteArray → Int → Bool → Option (List ByteArray × Option Int)
  | 0, _, _, _, _ => none
  | k + 1, x0, x4, x5, x124 => if x124 = true then ((jsonparser_parseBracketPathComponent.f k x0 x5).bind fun bt121 => (if bt121.2.2.isNone = true then (if x4.length < 8796093022208 then (jsonparser_ParsePath.l2 k x0 (x4 ++ [bt121.1]) bt121.2.1) else (none)) else (some (([] : List ByteArray), some (bt121.2.2.getD 0))))) else (if x5 = (x0.size : Int) then (if (x4.length : Int) = 0 then (some (([] : List ByteArray), some 1)) else (some (x4, none))) else (if 0 ≤ x5 then (if x5 < (x0.size : Int) then (if (bt x0 x5) = 46 then (if (wrap64 (x5 + 1)) = (x0.size : Int) then (some (([] : List ByteArray), some 1)) else (jsonparser_ParsePath.l0 k x0 x4 (wrap64 (x5 + 1)))) else (some (([] : List ByteArray), some 1))) else (none)) else (none)))
def jsonparser_ParsePath.l1 : Nat → ByteArray → List ByteArray → Int → Int → Option (List ByteArray × Option Int)
  | 0, _, _, _, _ => none
  | k + 1, x0, x4, x5, x9 => if x5 < (x0.size : Int) then (if 0 ≤ x5 then (if (bt x0 x5) = 46 then (jsonparser_ParsePath.j3 k x0 x4 x5 x9 false) else (jsonparser_ParsePath.j3 k x0 x4 x5 x9 ((bt x0 x5) != 91))) else (none)) else (jsonparser_ParsePath.j3 k x0 x4 x5 x9 false)
def jsonparser_ParsePath.j3 : Nat → ByteArray → List ByteArray → Int → Int → Bool → Option (List ByteArray × Option Int)
  | 0, _, _, _, _, _ => none
  | k + 1, x0, x4, x5, x9, x68 => if x68 = true then (if 0 ≤ x5 then (if x5 < (x0.size : Int) then (if (bt x0 x5) = 93 then (some (([] : List ByteArray), some 1)) else (if (bt x0 x5) = 34 then (some (([] : List ByteArray), some 1)) else (jsonparser_ParsePath.l1 k x0 x4 (wrap64 (x5 + 1)) x9))) else (none)) else (none)) else (if x9 = x5 then (some (([] : List ByteArray), some 1)) else (if 0 ≤ x9 then (if x9 ≤ x5 then (if x5 ≤ (x0.size : Int) then (if x4.length < 8796093022208 then (jsonparser_ParsePath.j4 k x0 (x4 ++ [x0.extract (x9 : Int).toNat (x5 : Int).toNat]) x5) else (none)) else (none)) else (none)) else (none)))
end
def jsonparser_ParsePath.f (k : Nat) (a0 : ByteArray) : Option (List ByteArray × Option Int) := if a0.toList = ([] : List UInt8) then (some (([] : List ByteArray), some 0)) else (if a0.toList = ([36] : List UInt8) then (some ((([] : List ByteArray)), none)) else ((strings_HasPrefix.f a0 (⟨#[36, 46]⟩ : ByteArray)).bind fun t104 => (if t104 = true then (if 2 ≤ (a0.size : Int) then (jsonparser_ParsePath.j0 k (a0.extract 2 a0.size)) else (none)) else ((strings_HasPrefix.f a0 (⟨#[36, 91]⟩ : ByteArray)).bind fun t105 => (if t105 = true then (if 1 ≤ (a0.size : Int) then (jsonparser_ParsePath.j0 k (a0.extract 1 a0.size)) else (none)) else (if 0 < (a0.size : Int) then (if (bt a0 0) = 36 then (some (([] : List ByteArray), some 1)) else (jsonparser_ParsePath.j0 k a0)) else (none)))))))
theorem jsonparser_ParsePath.mono_l : ∀ k, (∀ y0, LeO (jsonparser_ParsePath.j0 k y0) (jsonparser_ParsePath.j0 (k + 1) y0)) ∧ (∀ y0 y1 y2, LeO (jsonparser_ParsePath.l0 k y0 y1 y2) (jsonparser_ParsePath.l0 (k + 1) y0 y1 y2)) ∧ (∀ y0 y1 y2, LeO (jsonparser_ParsePath.j4 k y0 y1 y2) (jsonparser_ParsePath.j4 (k + 1) y0 y1 y2)) ∧ (∀ y0 y1 y2, LeO (jsonparser_ParsePath.l2 k y0 y1 y2) (jsonparser_ParsePath.l2 (k + 1) y0 y1 y2)) ∧ (∀ y0 y1 y2 y3, LeO (jsonparser_ParsePath.j6 k y0 y1 y2 y3) (jsonparser_ParsePath.j6 (k + 1) y0 y1 y2 y3)) ∧ (∀ y0 y1 y2 y3, LeO (jsonparser_ParsePath.l1 k y0 y1 y2 y3) (jsonparser_ParsePath.l1 (k + 1) y0 y1 y2 y3)) ∧ (∀ y0 y1 y2 y3 y4, LeO (jsonparser_ParsePath.j3 k y0 y1 y2 y3 y4) (jsonparser_ParsePath.j3 (k + 1) y0 y1 y2 y3 y4))
 | 0 => ⟨fun _ r h => by simp [jsonparser_ParsePath.j0] at h, fun _ _ _ r h => by simp [jsonparser_ParsePath.l0] at h, fun _ _ _ r h => by simp [jsonparser_ParsePath.j4] at h, fun _ _ _ r h => by simp [jsonparser_ParsePath.l2] at h, fun _ _ _ _ r h => by simp [jsonparser_ParsePath.j6] at h, fun _ _ _ _ r h => by simp [jsonparser_ParsePath.l1] at h, fun _ _ _ _ _ r h => by simp [jsonparser_ParsePath.j3] at h⟩
 | k + 1 => by
  obtain ⟨ih0, ih1, ih2, ih3, ih4, ih5, ih6⟩ := jsonparser_ParsePath.mono_l k
  refine ⟨?_, ?_, ?_, ?_, ?_, ?_, ?_⟩
  ·intro y0
   unfold jsonparser_ParsePath.j0
   repeat' first
   | (with_reducible exact ih0 _)
   | (with_reducible exact ih1 _ _ _)
   | (with_reducible exact ih2 _ _ _)
   | (with_reducible exact ih3 _ _ _)
   | (with_reducible exact ih4 _ _ _ _)
   | (with_reducible exact ih5 _ _ _ _)
   | (with_reducible exact ih6 _ _ _ _ _)
   | (with_reducible exact jsonparser_parseBracketPathComponent.mono _ _ _)
   | (with_reducible exact jsonparser_parseQuotedPathKey.mono _ _ _)
   | (with_reducible exact jsonparser_zzCount.mono _ _ _)
   | (with_reducible exact LeO.refl _)
   | (with_reducible exact LeO.none _)
   | (with_reducible refine LeO.ite ?_ ?_)
   | (with_reducible refine LeO.bind ?_ (fun _ => ?_))
   | exact ih0 _
   | exact ih1 _ _ _
   | exact ih2 _ _ _
   | exact ih3 _ _ _
   | exact ih4 _ _ _ _
   | exact ih5 _ _ _ _
   | exact ih6 _ _ _ _ _
   | exact jsonparser_parseBracketPathComponent.mono _ _ _
   | exact jsonparser_parseQuotedPathKey.mono _ _ _
   | exact jsonparser_zzCount.mono _ _ _
   | exact LeO.none _
   | refine LeO.ite ?_ ?_
   | refine LeO.bind ?_ (fun _ => ?_)
  ·intro y0 y1 y2
   unfold jsonparser_ParsePath.l0
   repeat' first
   | (with_reducible exact ih0 _)
   | (with_reducible exact ih1 _ _ _)
   | (with_reducible exact ih2 _ _ _)
   | (with_reducible exact ih3 _ _ _)
   | (with_reducible exact ih4 _ _ _ _)
   | (with_reducible exact ih5 _ _ _ _)
   | (with_reducible exact ih6 _ _ _ _ _)
   | (with_reducible exact jsonparser_parseBracketPathComponent.mono _ _ _)
   | (with_reducible exact jsonparser_parseQuotedPathKey.mono _ _ _)
   | (with_reducible exact jsonparser_zzCount.mono _ _ _)
   | (with_reducible exact LeO.refl _)
   | (with_reducible exact LeO.none _)
   | (with_reducible refine LeO.ite ?_ ?_)
   | (with_reducible refine LeO.bind ?_ (fun _ => ?_))
   | exact ih0 _
   | exact ih1 _ _ _
   | exact ih2 _ _ _
   | exact ih3 _ _ _
   | exact ih4 _ _ _ _
   | exact ih5 _ _ _ _
   | exact ih6 _ _ _ _ _
   | exact jsonparser_parseBracketPathComponent.mono _ _ _
   | exact jsonparser_parseQuotedPathKey.mono _ _ _
   | exact jsonparser_zzCount.mono _ _ _
   | exact LeO.none _
   | refine LeO.ite ?_ ?_
   | refine LeO.bind ?_ (fun _ => ?_)
  ·intro y0 y1 y2
   unfold jsonparser_ParsePath.j4
   repeat' first
   | (with_reducible exact ih0 _)
   | (with_reducible exact ih1 _ _ _)
   | (with_reducible exact ih2 _ _ _)
   | (with_reducible exact ih3 _ _ _)
   | (with_reducible exact ih4 _ _ _ _)
   | (with_reducible exact ih5 _ _ _ _)
   | (with_reducible exact ih6 _ _ _ _ _)
   | (with_reducible exact jsonparser_parseBracketPathComponent.mono _ _ _)
   | (with_reducible exact jsonparser_parseQuotedPathKey.mono _ _ _)
   | (with_reducible exact jsonparser_zzCount.mono _ _ _)
   | (with_reducible exact LeO.refl _)
   | (with_reducible exact LeO.none _)
   | (with_reducible refine LeO.ite ?_ ?_)
   | (with_reducible refine LeO.bind ?_ (fun _ => ?_))
   | exact ih0 _
   | exact ih1 _ _ _
   | exact ih2 _ _ _
   | exact ih3 _ _ _
   | exact ih4 _ _ _ _
   | exact ih5 _ _ _ _
   | exact ih6 _ _ _ _ _
   | exact jsonparser_parseBracketPathComponent.mono _ _ _
   | exact jsonparser_parseQuotedPathKey.mono _ _ _
   | exact jsonparser_zzCount.mono _ _ _
   | exact LeO.none _
   | refine LeO.ite ?_ ?_
   | refine LeO.bind ?_ (fun _ => ?_)
  ·intro y0 y1 y2
   unfold jsonparser_ParsePath.l2
   repeat' first
   | (with_reducible exact ih0 _)
   | (with_reducible exact ih1 _ _ _)
   | (with_reducible exact ih2 _ _ _)
   | (with_reducible exact ih3 _ _ _)
   | (with_reducible exact ih4 _ _ _ _)
   | (with_reducible exact ih5 _ _ _ _)
   | (with_reducible exact ih6 _ _ _ _ _)
   | (with_reducible exact jsonparser_parseBracketPathComponent.mono _ _ _)
   | (with_reducible exact jsonparser_parseQuotedPathKey.mono _ _ _)
   | (with_reducible exact jsonparser_zzCount.mono _ _ _)
   | (with_reducible exact LeO.refl _)
   | (with_reducible exact LeO.none _)
   | (with_reducible refine LeO.ite ?_ ?_)
   | (with_reducible refine LeO.bind ?_ (fun _ => ?_))
   | exact ih0 _
   | exact ih1 _ _ _
   | exact ih2 _ _ _
   | exact ih3 _ _ _
   | exact ih4 _ _ _ _
   | exact ih5 _ _ _ _
   | exact ih6 _ _ _ _ _
   | exact jsonparser_parseBracketPathComponent.mono _ _ _
   | exact jsonparser_parseQuotedPathKey.mono _ _ _
   | exact jsonparser_zzCount.mono _ _ _
   | exact LeO.none _
   | refine LeO.ite ?_ ?_
   | refine LeO.bind ?_ (fun _ => ?_)
  ·intro y0 y1 y2 y3
   unfold jsonparser_ParsePath.j6
   repeat' first
   | (with_reducible exact ih0 _)
   | (with_reducible exact ih1 _ _ _)
   | (with_reducible exact ih2 _ _ _)
   | (with_reducible exact ih3 _ _ _)
   | (with_reducible exact ih4 _ _ _ _)
   | (with_reducible exact ih5 _ _ _ _)
   | (with_reducible exact ih6 _ _ _ _ _)
   | (with_reducible exact jsonparser_parseBracketPathComponent.mono _ _ _)
   | (with_reducible exact jsonparser_parseQuotedPathKey.mono _ _ _)
   | (with_reducible exact jsonparser_zzCount.mono _ _ _)
   | (with_reducible exact LeO.refl _)
   | (with_reducible exact LeO.none _)
   | (with_reducible refine LeO.ite ?_ ?_)
   | (with_reducible refine LeO.bind ?_ (fun _ => ?_))
   | exact ih0 _
   | exact ih1 _ _ _
   | exact ih2 _ _ _
   | exact ih3 _ _ _
   | exact ih4 _ _ _ _
   | exact ih5 _ _ _ _
   | exact ih6 _ _ _ _ _
   | exact jsonparser_parseBracketPathComponent.mono _ _ _
   | exact jsonparser_parseQuotedPathKey.mono _ _ _
   | exact jsonparser_zzCount.mono _ _ _
   | exact LeO.none _
   | refine LeO.ite ?_ ?_
   | refine LeO.bind ?_ (fun _ => ?_)
  ·intro y0 y1 y2 y3
   unfold jsonparser_ParsePath.l1
   repeat' first
   | (with_reducible exact ih0 _)
   | (with_reducible exact ih1 _ _ _)
   | (with_reducible exact ih2 _ _ _)
   | (with_reducible exact ih3 _ _ _)
   | (with_reducible exact ih4 _ _ _ _)
   | (with_reducible exact ih5 _ _ _ _)
   | (with_reducible exact ih6 _ _ _ _ _)
   | (with_reducible exact jsonparser_parseBracketPathComponent.mono _ _ _)
   | (with_reducible exact jsonparser_parseQuotedPathKey.mono _ _ _)
   | (with_reducible exact jsonparser_zzCount.mono _ _ _)
   | (with_reducible exact LeO.refl _)
   | (with_reducible exact LeO.none _)
   | (with_reducible refine LeO.ite ?_ ?_)
   | (with_reducible refine LeO.bind ?_ (fun _ => ?_))
   | exact ih0 _
   | exact ih1 _ _ _
   | exact ih2 _ _ _
   | exact ih3 _ _ _
   | exact ih4 _ _ _ _
   | exact ih5 _ _ _ _
   | exact ih6 _ _ _ _ _
   | exact jsonparser_parseBracketPathComponent.mono _ _ _
   | exact jsonparser_parseQuotedPathKey.mono _ _ _
   | exact jsonparser_zzCount.mono _ _ _
   | exact LeO.none _
   | refine LeO.ite ?_ ?_
   | refine LeO.bind ?_ (fun _ => ?_)
  ·intro y0 y1 y2 y3 y4
   unfold jsonparser_ParsePath.j3
   repeat' first
   | (with_reducible exact ih0 _)
   | (with_reducible exact ih1 _ _ _)
   | (with_reducible exact ih2 _ _ _)
   | (with_reducible exact ih3 _ _ _)
   | (with_reducible exact ih4 _ _ _ _)
   | (with_reducible exact ih5 _ _ _ _)
   | (with_reducible exact ih6 _ _ _ _ _)
   | (with_reducible exact jsonparser_parseBracketPathComponent.mono _ _ _)
   | (with_reducible exact jsonparser_parseQuotedPathKey.mono _ _ _)
   | (with_reducible exact jsonparser_zzCount.mono _ _ _)
   | (with_reducible exact LeO.refl _)
   | (with_reducible exact LeO.none _)
   | (with_reducible refine LeO.ite ?_ ?_)
   | (with_reducible refine LeO.bind ?_ (fun _ => ?_))
   | exact ih0 _
   | exact ih1 _ _ _
   | exact ih2 _ _ _
   | exact ih3 _ _ _
   | exact ih4 _ _ _ _
   | exact ih5 _ _ _ _
   | exact ih6 _ _ _ _ _
   | exact jsonparser_parseBracketPathComponent.mono _ _ _
   | exact jsonparser_parseQuotedPathKey.mono _ _ _
   | exact jsonparser_zzCount.mono _ _ _
   | exact LeO.none _
   | refine LeO.ite ?_ ?_
   | refine LeO.bind ?_ (fun _ => ?_)
theorem jsonparser_ParsePath.mono : ∀ a0 k, LeO (jsonparser_ParsePath.f k a0) (jsonparser_ParsePath.f (k + 1) a0) := by
 intro a0 k
 obtain ⟨ih0, ih1, ih2, ih3, ih4, ih5, ih6⟩ := jsonparser_ParsePath.mono_l k
 unfold jsonparser_ParsePath.f
 repeat' first
  | (with_reducible exact ih0 _)
  | (with_reducible exact ih1 _ _ _)
  | (with_reducible exact ih2 _ _ _)
  | (with_reducible exact ih3 _ _ _)
  | (with_reducible exact ih4 _ _ _ _)
  | (with_reducible exact ih5 _ _ _ _)
  | (with_reducible exact ih6 _ _ _ _ _)
  | (with_reducible exact jsonparser_parseBracketPathComponent.mono _ _ _)
  | (with_reducible exact jsonparser_parseQuotedPathKey.mono _ _ _)
  | (with_reducible exact jsonparser_zzCount.mono _ _ _)
  | (with_reducible exact LeO.refl _)
  | (with_reducible exact LeO.none _)
  | (with_reducible refine LeO.ite ?_ ?_)
  | (with_reducible refine LeO.bind ?_ (fun _ => ?_))
  | exact ih0 _
  | exact ih1 _ _ _
  | exact ih2 _ _ _
  | exact ih3 _ _ _
  | exact ih4 _ _ _ _
  | exact ih5 _ _ _ _
  | exact ih6 _ _ _ _ _
  | exact jsonparser_parseBracketPathComponent.mono _ _ _
  | exact jsonparser_parseQuotedPathKey.mono _ _ _
  | exact jsonparser_zzCount.mono _ _ _
  | exact LeO.none _
  | refine LeO.ite ?_ ?_
  | refine LeO.bind ?_ (fun _ => ?_)
set_option maxHeartbeats 8000000 in
set_option maxRecDepth 100000 in
theorem jsonparser_ParsePath.calls (k : Nat) (a0 : ByteArray) (r1 : List ByteArray) (r2 : Option Int) (w : World) (hG : Laid w) (h : jsonparser_ParsePath.f k a0 = some (r1, r2)) :
 Calls Tryd.prog 23 #[.string a0] w fun e w' => ∃ z_r2 : Option (TypeId × Value), Zk z_r2 r2 ∧ ∃ v0_ : Value, e = .returned (.tuple #[v0_, errW z_r2]) ∧ Kd.R Kd.string 9 w' w.heap.size (fun _ => True) v0_ r1 ∧ Below w.heap.size w w' := by
 have HG := mk0 hG
 clear hG
 obtain ⟨m_0, hm_0⟩ := Laid.e1_ HG.out
 have HM_0 := mk0 hm_0
 clear hm_0
 obtain ⟨m_1, hm_1⟩ := Laid.e2_ HG.out
 have HM_1 := mk0 hm_1
 clear hm_1
 have hu56 := Tryd.underlying56
 have HB := mk0 (Below.refl w.heap.size w)
 have H : (if a0.toList = ([] : List UInt8) then (some (([] : List ByteArray), some 0)) else (if a0.toList = ([36] : List UInt8) then (some ((([] : List ByteArray)), none)) else ((strings_HasPrefix.f a0 (⟨#[36, 46]⟩ : ByteArray)).bind fun t104 => (if t104 = true then (if 2 ≤ (a0.size : Int) then (jsonparser_ParsePath.j0 k (a0.extract 2 a0.size)) else (none)) else ((strings_HasPrefix.f a0 (⟨#[36, 91]⟩ : ByteArray)).bind fun t105 => (if t105 = true then (if 1 ≤ (a0.size : Int) then (jsonparser_ParsePath.j0 k (a0.extract 1 a0.size)) else (none)) else (if 0 < (a0.size : Int) then (if (bt a0 0) = 36 then (some (([] : List ByteArray), some 1)) else (jsonparser_ParsePath.j0 k a0)) else (none)))))))) = some (r1, r2) := h
 clear h
 by_cases c2 : a0.toList = ([] : List UInt8)
 ·rw [if_pos c2] at H
  have c2b0 : (a0.toList == ([] : List UInt8)) = true := beq_iff_eq.mpr c2
  have c2b1 : (a0.toList != ([] : List UInt8)) = false := bne_eq_false_iff_eq.mpr c2
  clear c2
  simp only [Option.some.injEq, Prod.mk.injEq] at H
  obtain ⟨rfl, rfl⟩ := H
  have hg3 : w.cell? ⟨0, 0, none⟩ = some (.iface m_0.1 m_0.2) := (by first | exact HM_0.out | exact (bel_cell zq0 (World.block_lt_of_cell? _ _ HM_0.out)).trans HM_0.out)
  go_enter Tryd.func23, Tryd.ntmps23
  go_wp2
  repeat (go_quiet (fail); try go_wp2)
  go_ret2
  exact ⟨some m_0, Zk.ss, _, by first | rfl | (simp [errW_none, errW_some] <;> rfl) | (simp [*, errW_none, errW_some] <;> rfl), by first | exact Kd.R_nil _ _ _ _ _ | exact Kd.N_nil _ _ _ _ _ | exact Kd.V_nil _ _ _ _ _ | exact Kd.Q_nil _ _ _ _ _ | exact Kd.S_nil _ _ _ _ _, by repeat (first | (with_reducible first | exact HB.out | apply below_alloc | apply pw_below_drewN | apply below_drew1) | exact HB.out)⟩
 rw [if_neg c2] at H
 have c2b0 : (a0.toList == ([] : List UInt8)) = false := beq_eq_false_iff_ne.mpr c2
 have c2b1 : (a0.toList != ([] : List UInt8)) = true := bne_iff_ne.mpr c2
 have HC4 := mk0 H
 clear H
 go_enter Tryd.func23, Tryd.ntmps23
 go_upto_block 0 with (fail)
 repeat (go_quiet (fail); go_upto_block 0 with (fail))
 go_cut [0] (fun v0 wc => ∃ (kq : Nat) (x0_3 : ByteArray), v0 = .string x0_3 ∧ Aside0 (jsonparser_ParsePath.j0 kq x0_3 = some (r1, r2)) ∧ Aside0 (kq ≤ k) ∧ Aside0 (Below w.heap.size w wc))
 case first => as_aux_lemma =>
  have H := HC4.out
  clear HC4
  by_cases c5 : a0.toList = ([36] : List UInt8)
  ·rw [if_pos c5] at H
   have c5b0 : (a0.toList == ([36] : List UInt8)) = true := beq_iff_eq.mpr c5
   have c5b1 : (a0.toList != ([36] : List UInt8)) = false := bne_eq_false_iff_eq.mpr c5
   clear c5
   (first | rw [c5b0] | (simp only [i64_w, i32_w]; rw [c5b0]) | skip)
   obtain ⟨y101, hy101⟩ : ∃ y_ : List ByteArray, y_ = (([] : List ByteArray)) := ⟨_, rfl⟩
   replace H : (some (y101, none)) = some (r1, r2) := by first | (rw [hy101]; with_reducible exact H) | (have H2_ := (Option.bind_some _ _).symm.trans H; rw [hy101]; with_reducible exact H2_) | (have H2_ := (Option.bind_some _ _).symm.trans H; with_reducible exact H2_) | with_reducible exact H | (rw [hy101]; exact H) | exact H
   have Ny101 := mk0 hy101
   clear hy101
   simp only [Option.some.injEq, Prod.mk.injEq] at H
   obtain ⟨rfl, rfl⟩ := H
   go_wp2_with (first | ((with_reducible refine gate_dst (N := 19) rfl ?_); refine Kd.R_lit Kd.string _ 9 ?hg (N := 19) ?hd (xs := ([] : List ByteArray)) (inner := []) (ok := fun _ => True) (okp := fun _ => True) ?hr ?hp (fun _ hk => hk) trivial (Below.refl _ _) (Nat.le_refl _) (by simp) ?_; (case hd => rfl); (case hg => rfl); (case hr => exact zq22); (case hp => exact (Reps.none _ _)); intro v102 w6 ho7 hb hg_ hnew_; clear hg_ hnew_; (first | rw [← Ny101.out] at ho7 | (simp only [Int.reduceToNat] at ho7; rw [← Ny101.out] at ho7)); have n0_ := mk0 (Kd.R_lower ho7 (below_size zq0)); have n1_ := mk0 (below_step zq0 hb); clear HB; have HO103 := n0_; have HB := n1_; clear n0_ n1_; clear hb ho7))
   repeat (go_quiet (first | ((with_reducible refine gate_dst (N := 19) rfl ?_); refine Kd.R_lit Kd.string _ 9 ?hg (N := 19) ?hd (xs := ([] : List ByteArray)) (inner := []) (ok := fun _ => True) (okp := fun _ => True) ?hr ?hp (fun _ hk => hk) trivial (Below.refl _ _) (Nat.le_refl _) (by simp) ?_; (case hd => rfl); (case hg => rfl); (case hr => exact zq22); (case hp => exact (Reps.none _ _)); intro v102 w6 ho7 hb hg_ hnew_; clear hg_ hnew_; (first | rw [← Ny101.out] at ho7 | (simp only [Int.reduceToNat] at ho7; rw [← Ny101.out] at ho7)); have n0_ := mk0 (Kd.R_lower ho7 (below_size zq0)); have n1_ := mk0 (below_step zq0 hb); clear HB; have HO103 := n0_; have HB := n1_; clear n0_ n1_; clear hb ho7)); try go_wp2_with (first | ((with_reducible refine gate_dst (N := 19) rfl ?_); refine Kd.R_lit Kd.string _ 9 ?hg (N := 19) ?hd (xs := ([] : List ByteArray)) (inner := []) (ok := fun _ => True) (okp := fun _ => True) ?hr ?hp (fun _ hk => hk) trivial (Below.refl _ _) (Nat.le_refl _) (by simp) ?_; (case hd => rfl); (case hg => rfl); (case hr => exact zq22); (case hp => exact (Reps.none _ _)); intro v102 w6 ho7 hb hg_ hnew_; clear hg_ hnew_; (first | rw [← Ny101.out] at ho7 | (simp only [Int.reduceToNat] at ho7; rw [← Ny101.out] at ho7)); have n0_ := mk0 (Kd.R_lower ho7 (below_size zq0)); have n1_ := mk0 (below_step zq0 hb); clear HB; have HO103 := n0_; have HB := n1_; clear n0_ n1_; clear hb ho7)))
   go_ret2
   exact ⟨none, Zk.nn, _, by first | rfl | (simp [errW_none, errW_some] <;> rfl) | (simp [*, errW_none, errW_some] <;> rfl), by (with_reducible repeat (first | apply Kd.R_alloc | apply Kd.R_drewN | apply Kd.R_drew)); exact HO103.out, by repeat (first | (with_reducible first | exact HB.out | apply below_alloc | apply pw_below_drewN | apply below_drew1) | exact HB.out)⟩
  rw [if_neg c5] at H
  have c5b0 : (a0.toList == ([36] : List UInt8)) = false := beq_eq_false_iff_ne.mpr c5
  have c5b1 : (a0.toList != ([36] : List UInt8)) = true := bne_iff_ne.mpr c5
  (first | rw [c5b0] | (simp only [i64_w, i32_w]; rw [c5b0]) | skip)
  replace H := Option.bind_eq_some_iff.mp H
  obtain ⟨t104, A80, H⟩ := H
  replace H : (if t104 = true then (if 2 ≤ (a0.size : Int) then (jsonparser_ParsePath.j0 k (a0.extract 2 a0.size)) else (none)) else ((strings_HasPrefix.f a0 (⟨#[36, 91]⟩ : ByteArray)).bind fun t105 => (if t105 = true then (if 1 ≤ (a0.size : Int) then (jsonparser_ParsePath.j0 k (a0.extract 1 a0.size)) else (none)) else (if 0 < (a0.size : Int) then (if (bt a0 0) = 36 then (some (([] : List ByteArray), some 1)) else (jsonparser_ParsePath.j0 k a0)) else (none))))) = some (r1, r2) := H
  have A8 := mk0 A80
  clear A80
  by_cases c9 : t104 = true
  ·subst c9
   have H1 : (if 2 ≤ (a0.size : Int) then (jsonparser_ParsePath.j0 k (a0.extract 2 a0.size)) else (none)) = some (r1, r2) := by rw [if_pos rfl] at H; exact H
   clear H
   have H := H1
   clear H1
   by_cases c10 : 2 ≤ (a0.size : Int)
   rotate_left
   ·rw [if_neg c10] at H
    exact absurd H (by simp)
   rw [if_pos c10] at H
   have c10b0 := eq_true c10
   have c10b1 : decide (2 ≤ (a0.size : Int)) = true := decide_eq_true c10
   clear c10
   have H' := mk0 H
   clear H
   go_wp2_with (first | (go_at_call 41; (with_reducible refine (strings_HasPrefix.calls a0 (⟨#[36, 46]⟩ : ByteArray) true _ A8.out).mono ?_); rintro e w' ⟨rfl, ⟨nd, rfl⟩⟩; (try first | exact ⟨rfl, _, World.drewN_drewN _ _ _⟩ | exact ⟨rfl, _, Eq.trans (World.drewN_drewN _ _ _) (congrArg (World.drewN _) (Nat.add_assoc _ _ _))⟩)))
   repeat (go_quiet (first | (go_at_call 41; (with_reducible refine (strings_HasPrefix.calls a0 (⟨#[36, 46]⟩ : ByteArray) true _ A8.out).mono ?_); rintro e w' ⟨rfl, ⟨nd, rfl⟩⟩; (try first | exact ⟨rfl, _, World.drewN_drewN _ _ _⟩ | exact ⟨rfl, _, Eq.trans (World.drewN_drewN _ _ _) (congrArg (World.drewN _) (Nat.add_assoc _ _ _))⟩))); try go_wp2_with (first | (go_at_call 41; (with_reducible refine (strings_HasPrefix.calls a0 (⟨#[36, 46]⟩ : ByteArray) true _ A8.out).mono ?_); rintro e w' ⟨rfl, ⟨nd, rfl⟩⟩; (try first | exact ⟨rfl, _, World.drewN_drewN _ _ _⟩ | exact ⟨rfl, _, Eq.trans (World.drewN_drewN _ _ _) (congrArg (World.drewN _) (Nat.add_assoc _ _ _))⟩))))
   go_meet
   case rel => exact ⟨_, (a0.extract 2 a0.size), zq3, H', ⟨by first | omega | exact Nat.le_refl _⟩, ⟨by repeat (first | (with_reducible first | exact HB.out | apply below_alloc | apply pw_below_drewN | apply below_drew1) | exact HB.out)⟩⟩
  replace c9 := Bool.eq_false_iff.mpr c9
  subst c9
  have H1 : ((strings_HasPrefix.f a0 (⟨#[36, 91]⟩ : ByteArray)).bind fun t105 => (if t105 = true then (if 1 ≤ (a0.size : Int) then (jsonparser_ParsePath.j0 k (a0.extract 1 a0.size)) else (none)) else (if 0 < (a0.size : Int) then (if (bt a0 0) = 36 then (some (([] : List ByteArray), some 1)) else (jsonparser_ParsePath.j0 k a0)) else (none)))) = some (r1, r2) := by rw [if_neg (show ¬ (false = true) by decide)] at H; exact H
  clear H
  have H := H1
  clear H1
  replace H := Option.bind_eq_some_iff.mp H
  obtain ⟨t105, A110, H⟩ := H
  replace H : (if t105 = true then (if 1 ≤ (a0.size : Int) then (jsonparser_ParsePath.j0 k (a0.extract 1 a0.size)) else (none)) else (if 0 < (a0.size : Int) then (if (bt a0 0) = 36 then (some (([] : List ByteArray), some 1)) else (jsonparser_ParsePath.j0 k a0)) else (none))) = some (r1, r2) := H
  have A11 := mk0 A110
  clear A110
  by_cases c12 : t105 = true
  ·subst c12
   have H1 : (if 1 ≤ (a0.size : Int) then (jsonparser_ParsePath.j0 k (a0.extract 1 a0.size)) else (none)) = some (r1, r2) := by rw [if_pos rfl] at H; exact H
   clear H
   have H := H1
   clear H1
   by_cases c13 : 1 ≤ (a0.size : Int)
   rotate_left
   ·rw [if_neg c13] at H
    exact absurd H (by simp)
   rw [if_pos c13] at H
   have c13b0 := eq_true c13
   have c13b1 : decide (1 ≤ (a0.size : Int)) = true := decide_eq_true c13
   clear c13
   have H' := mk0 H
   clear H
   go_wp2_with (first | (go_at_call 41; (with_reducible refine (strings_HasPrefix.calls a0 (⟨#[36, 46]⟩ : ByteArray) false _ A8.out).mono ?_); rintro e w' ⟨rfl, ⟨nd, rfl⟩⟩; (try first | exact ⟨rfl, _, World.drewN_drewN _ _ _⟩ | exact ⟨rfl, _, Eq.trans (World.drewN_drewN _ _ _) (congrArg (World.drewN _) (Nat.add_assoc _ _ _))⟩)) | (go_at_call 41; (with_reducible refine (strings_HasPrefix.calls a0 (⟨#[36, 91]⟩ : ByteArray) true _ A11.out).mono ?_); rintro e w' ⟨rfl, ⟨nd, rfl⟩⟩; (try first | exact ⟨rfl, _, World.drewN_drewN _ _ _⟩ | exact ⟨rfl, _, Eq.trans (World.drewN_drewN _ _ _) (congrArg (World.drewN _) (Nat.add_assoc _ _ _))⟩)))
   repeat (go_quiet (first | (go_at_call 41; (with_reducible refine (strings_HasPrefix.calls a0 (⟨#[36, 46]⟩ : ByteArray) false _ A8.out).mono ?_); rintro e w' ⟨rfl, ⟨nd, rfl⟩⟩; (try first | exact ⟨rfl, _, World.drewN_drewN _ _ _⟩ | exact ⟨rfl, _, Eq.trans (World.drewN_drewN _ _ _) (congrArg (World.drewN _) (Nat.add_assoc _ _ _))⟩)) | (go_at_call 41; (with_reducible refine (strings_HasPrefix.calls a0 (⟨#[36, 91]⟩ : ByteArray) true _ A11.out).mono ?_); rintro e w' ⟨rfl, ⟨nd, rfl⟩⟩; (try first | exact ⟨rfl, _, World.drewN_drewN _ _ _⟩ | exact ⟨rfl, _, Eq.trans (World.drewN_drewN _ _ _) (congrArg (World.drewN _) (Nat.add_assoc _ _ _))⟩))); try go_wp2_with (first | (go_at_call 41; (with_reducible refine (strings_HasPrefix.calls a0 (⟨#[36, 46]⟩ : ByteArray) false _ A8.out).mono ?_); rintro e w' ⟨rfl, ⟨nd, rfl⟩⟩; (try first | exact ⟨rfl, _, World.drewN_drewN _ _ _⟩ | exact ⟨rfl, _, Eq.trans (World.drewN_drewN _ _ _) (congrArg (World.drewN _) (Nat.add_assoc _ _ _))⟩)) | (go_at_call 41; (with_reducible refine (strings_HasPrefix.calls a0 (⟨#[36, 91]⟩ : ByteArray) true _ A11.out).mono ?_); rintro e w' ⟨rfl, ⟨nd, rfl⟩⟩; (try first | exact ⟨rfl, _, World.drewN_drewN _ _ _⟩ | exact ⟨rfl, _, Eq.trans (World.drewN_drewN _ _ _) (congrArg (World.drewN _) (Nat.add_assoc _ _ _))⟩))))
   go_meet
   case rel => exact ⟨_, (a0.extract 1 a0.size), zq3, H', ⟨by first | omega | exact Nat.le_refl _⟩, ⟨by repeat (first | (with_reducible first | exact HB.out | apply below_alloc | apply pw_below_drewN | apply below_drew1) | exact HB.out)⟩⟩
  replace c12 := Bool.eq_false_iff.mpr c12
  subst c12
  have H1 : (if 0 < (a0.size : Int) then (if (bt a0 0) = 36 then (some (([] : List ByteArray), some 1)) else (jsonparser_ParsePath.j0 k a0)) else (none)) = some (r1, r2) := by rw [if_neg (show ¬ (false = true) by decide)] at H; exact H
  clear H
  have H := H1
  clear H1
  by_cases c14 : 0 < (a0.size : Int)
  rotate_left
  ·rw [if_neg c14] at H
   exact absurd H (by simp)
  rw [if_pos c14] at H
  have c14b0 : decide (0 < (a0.size : Int)) = true := decide_eq_true c14
  have c14b1 : decide (0 < a0.size) = true := decide_eq_true (by omega)
  clear c14
  by_cases c16 : (bt a0 0) = 36
  rotate_left
  ·rw [if_neg c16] at H
   have c16b0 : ((bt a0 0) == 36) = false := beq_eq_false_iff_ne.mpr c16
   have c16b1 : ((bt a0 0) != 36) = true := bne_iff_ne.mpr c16
   have H' := mk0 H
   clear H
   go_wp2_with (first | (go_at_call 41; (with_reducible refine (strings_HasPrefix.calls a0 (⟨#[36, 46]⟩ : ByteArray) false _ A8.out).mono ?_); rintro e w' ⟨rfl, ⟨nd, rfl⟩⟩; (try first | exact ⟨rfl, _, World.drewN_drewN _ _ _⟩ | exact ⟨rfl, _, Eq.trans (World.drewN_drewN _ _ _) (congrArg (World.drewN _) (Nat.add_assoc _ _ _))⟩)) | (go_at_call 41; (with_reducible refine (strings_HasPrefix.calls a0 (⟨#[36, 91]⟩ : ByteArray) false _ A11.out).mono ?_); rintro e w' ⟨rfl, ⟨nd, rfl⟩⟩; (try first | exact ⟨rfl, _, World.drewN_drewN _ _ _⟩ | exact ⟨rfl, _, Eq.trans (World.drewN_drewN _ _ _) (congrArg (World.drewN _) (Nat.add_assoc _ _ _))⟩); have p15 : 0 ≤ (0 : Int) := (by omega); have q15 : 0 < a0.size := (by have : (0 : Int) < (a0.size : Int) := of_decide_eq_true zq1; omega); have hx15 : ∀ h : 0 < a0.size, ((a0[0]'h).toNat : Int) = bt a0 0 := bt_at a0 0; clear p15; have qi15 : (0 < (a0.size : Int)) = True := eq_true (of_decide_eq_true zq1); replace q15 := eq_true q15))
   repeat (go_quiet (first | (go_at_call 41; (with_reducible refine (strings_HasPrefix.calls a0 (⟨#[36, 46]⟩ : ByteArray) false _ A8.out).mono ?_); rintro e w' ⟨rfl, ⟨nd, rfl⟩⟩; (try first | exact ⟨rfl, _, World.drewN_drewN _ _ _⟩ | exact ⟨rfl, _, Eq.trans (World.drewN_drewN _ _ _) (congrArg (World.drewN _) (Nat.add_assoc _ _ _))⟩)) | (go_at_call 41; (with_reducible refine (strings_HasPrefix.calls a0 (⟨#[36, 91]⟩ : ByteArray) false _ A11.out).mono ?_); rintro e w' ⟨rfl, ⟨nd, rfl⟩⟩; (try first | exact ⟨rfl, _, World.drewN_drewN _ _ _⟩ | exact ⟨rfl, _, Eq.trans (World.drewN_drewN _ _ _) (congrArg (World.drewN _) (Nat.add_assoc _ _ _))⟩); have p15 : 0 ≤ (0 : Int) := (by omega); have q15 : 0 < a0.size := (by have : (0 : Int) < (a0.size : Int) := of_decide_eq_true zq1; omega); have hx15 : ∀ h : 0 < a0.size, ((a0[0]'h).toNat : Int) = bt a0 0 := bt_at a0 0; clear p15; have qi15 : (0 < (a0.size : Int)) = True := eq_true (of_decide_eq_true zq1); replace q15 := eq_true q15)); try go_wp2_with (first | (go_at_call 41; (with_reducible refine (strings_HasPrefix.calls a0 (⟨#[36, 46]⟩ : ByteArray) false _ A8.out).mono ?_); rintro e w' ⟨rfl, ⟨nd, rfl⟩⟩; (try first | exact ⟨rfl, _, World.drewN_drewN _ _ _⟩ | exact ⟨rfl, _, Eq.trans (World.drewN_drewN _ _ _) (congrArg (World.drewN _) (Nat.add_assoc _ _ _))⟩)) | (go_at_call 41; (with_reducible refine (strings_HasPrefix.calls a0 (⟨#[36, 91]⟩ : ByteArray) false _ A11.out).mono ?_); rintro e w' ⟨rfl, ⟨nd, rfl⟩⟩; (try first | exact ⟨rfl, _, World.drewN_drewN _ _ _⟩ | exact ⟨rfl, _, Eq.trans (World.drewN_drewN _ _ _) (congrArg (World.drewN _) (Nat.add_assoc _ _ _))⟩); have p15 : 0 ≤ (0 : Int) := (by omega); have q15 : 0 < a0.size := (by have : (0 : Int) < (a0.size : Int) := of_decide_eq_true zq1; omega); have hx15 : ∀ h : 0 < a0.size, ((a0[0]'h).toNat : Int) = bt a0 0 := bt_at a0 0; clear p15; have qi15 : (0 < (a0.size : Int)) = True := eq_true (of_decide_eq_true zq1); replace q15 := eq_true q15)))
   go_meet
   case rel => exact ⟨_, (a0), zq3, H', ⟨by first | omega | exact Nat.le_refl _⟩, ⟨by repeat (first | (with_reducible first | exact HB.out | apply below_alloc | apply pw_below_drewN | apply below_drew1) | exact HB.out)⟩⟩
  rw [if_pos c16] at H
  have c16b0 : ((bt a0 0) == 36) = true := beq_iff_eq.mpr c16
  have c16b1 : ((bt a0 0) != 36) = false := bne_eq_false_iff_eq.mpr c16
  clear c16
  simp only [Option.some.injEq, Prod.mk.injEq] at H
  obtain ⟨rfl, rfl⟩ := H
  go_wp2_with (first | (go_at_call 41; (with_reducible refine (strings_HasPrefix.calls a0 (⟨#[36, 46]⟩ : ByteArray) false _ A8.out).mono ?_); rintro e w' ⟨rfl, ⟨nd, rfl⟩⟩; (try first | exact ⟨rfl, _, World.drewN_drewN _ _ _⟩ | exact ⟨rfl, _, Eq.trans (World.drewN_drewN _ _ _) (congrArg (World.drewN _) (Nat.add_assoc _ _ _))⟩)) | (go_at_call 41; (with_reducible refine (strings_HasPrefix.calls a0 (⟨#[36, 91]⟩ : ByteArray) false _ A11.out).mono ?_); rintro e w' ⟨rfl, ⟨nd, rfl⟩⟩; (try first | exact ⟨rfl, _, World.drewN_drewN _ _ _⟩ | exact ⟨rfl, _, Eq.trans (World.drewN_drewN _ _ _) (congrArg (World.drewN _) (Nat.add_assoc _ _ _))⟩); have p15 : 0 ≤ (0 : Int) := (by omega); have q15 : 0 < a0.size := (by have : (0 : Int) < (a0.size : Int) := of_decide_eq_true zq1; omega); have hx15 : ∀ h : 0 < a0.size, ((a0[0]'h).toNat : Int) = bt a0 0 := bt_at a0 0; clear p15; have qi15 : (0 < (a0.size : Int)) = True := eq_true (of_decide_eq_true zq1); replace q15 := eq_true q15; have hg17 : w.cell? ⟨1, 0, none⟩ = some (.iface m_1.1 m_1.2) := zq12))
  repeat (go_quiet (first | (go_at_call 41; (with_reducible refine (strings_HasPrefix.calls a0 (⟨#[36, 46]⟩ : ByteArray) false _ A8.out).mono ?_); rintro e w' ⟨rfl, ⟨nd, rfl⟩⟩; (try first | exact ⟨rfl, _, World.drewN_drewN _ _ _⟩ | exact ⟨rfl, _, Eq.trans (World.drewN_drewN _ _ _) (congrArg (World.drewN _) (Nat.add_assoc _ _ _))⟩)) | (go_at_call 41; (with_reducible refine (strings_HasPrefix.calls a0 (⟨#[36, 91]⟩ : ByteArray) false _ A11.out).mono ?_); rintro e w' ⟨rfl, ⟨nd, rfl⟩⟩; (try first | exact ⟨rfl, _, World.drewN_drewN _ _ _⟩ | exact ⟨rfl, _, Eq.trans (World.drewN_drewN _ _ _) (congrArg (World.drewN _) (Nat.add_assoc _ _ _))⟩); have p15 : 0 ≤ (0 : Int) := (by omega); have q15 : 0 < a0.size := (by have : (0 : Int) < (a0.size : Int) := of_decide_eq_true zq1; omega); have hx15 : ∀ h : 0 < a0.size, ((a0[0]'h).toNat : Int) = bt a0 0 := bt_at a0 0; clear p15; have qi15 : (0 < (a0.size : Int)) = True := eq_true (of_decide_eq_true zq1); replace q15 := eq_true q15; have hg17 : w.cell? ⟨1, 0, none⟩ = some (.iface m_1.1 m_1.2) := zq12)); try go_wp2_with (first | (go_at_call 41; (with_reducible refine (strings_HasPrefix.calls a0 (⟨#[36, 46]⟩ : ByteArray) false _ A8.out).mono ?_); rintro e w' ⟨rfl, ⟨nd, rfl⟩⟩; (try first | exact ⟨rfl, _, World.drewN_drewN _ _ _⟩ | exact ⟨rfl, _, Eq.trans (World.drewN_drewN _ _ _) (congrArg (World.drewN _) (Nat.add_assoc _ _ _))⟩)) | (go_at_call 41; (with_reducible refine (strings_HasPrefix.calls a0 (⟨#[36, 91]⟩ : ByteArray) false _ A11.out).mono ?_); rintro e w' ⟨rfl, ⟨nd, rfl⟩⟩; (try first | exact ⟨rfl, _, World.drewN_drewN _ _ _⟩ | exact ⟨rfl, _, Eq.trans (World.drewN_drewN _ _ _) (congrArg (World.drewN _) (Nat.add_assoc _ _ _))⟩); have p15 : 0 ≤ (0 : Int) := (by omega); have q15 : 0 < a0.size := (by have : (0 : Int) < (a0.size : Int) := of_decide_eq_true zq1; omega); have hx15 : ∀ h : 0 < a0.size, ((a0[0]'h).toNat : Int) = bt a0 0 := bt_at a0 0; clear p15; have qi15 : (0 < (a0.size : Int)) = True := eq_true (of_decide_eq_true zq1); replace q15 := eq_true q15; have hg17 : w.cell? ⟨1, 0, none⟩ = some (.iface m_1.1 m_1.2) := zq12)))
  go_ret2
  exact ⟨some m_1, Zk.ss, _, by first | rfl | (simp [errW_none, errW_some] <;> rfl) | (simp [*, errW_none, errW_some] <;> rfl), by first | exact Kd.R_nil _ _ _ _ _ | exact Kd.N_nil _ _ _ _ _ | exact Kd.V_nil _ _ _ _ _ | exact Kd.Q_nil _ _ _ _ _ | exact Kd.S_nil _ _ _ _ _, by repeat (first | (with_reducible first | exact HB.out | apply below_alloc | apply pw_below_drewN | apply below_drew1) | exact HB.out)⟩
 case rest => as_aux_lemma =>
  clear HC4
  try clear c1
  try clear p1
  try clear q1
  try clear hx1
  try clear qi1
  try clear c2
  try clear c2b0
  try clear c2b1
  try clear p2
  try clear c5
  try clear c5b0
  try clear c5b1
  try clear c9
  try clear c10
  try clear c10b0
  try clear c10b1
  try clear c12
  try clear c13
  try clear c13b0
  try clear c13b1
  try clear c14
  try clear c14b0
  try clear c14b1
  try clear p15
  try clear q15
  try clear hx15
  try clear qi15
  try clear c16
  try clear c16b0
  try clear c16b1
  try clear p15
  try clear q15
  obtain ⟨kq, x0_3, rfl, HA, HJ3, HB⟩ := hcut
  cases kq with
  | zero => exact absurd HA.out (by simp [jsonparser_ParsePath.j0])
  | succ kj3 =>
   have H := HA.out
   clear HA
   simp only [jsonparser_ParsePath.j0] at H
   by_cases c18 : x0_3.toList = ([] : List UInt8)
   ·rw [if_pos c18] at H
    have c18b0 : (x0_3.toList == ([] : List UInt8)) = true := beq_iff_eq.mpr c18
    have c18b1 : (x0_3.toList != ([] : List UInt8)) = false := bne_eq_false_iff_eq.mpr c18
    clear c18
    simp only [Option.some.injEq, Prod.mk.injEq] at H
    obtain ⟨rfl, rfl⟩ := H
    have hg19 : wc.cell? ⟨1, 0, none⟩ = some (.iface m_1.1 m_1.2) := zq12
    go_wp2
    repeat (go_quiet (fail); try go_wp2)
    go_ret2
    exact ⟨some m_1, Zk.ss, _, by first | rfl | (simp [errW_none, errW_some] <;> rfl) | (simp [*, errW_none, errW_some] <;> rfl), by first | exact Kd.R_nil _ _ _ _ _ | exact Kd.N_nil _ _ _ _ _ | exact Kd.V_nil _ _ _ _ _ | exact Kd.Q_nil _ _ _ _ _ | exact Kd.S_nil _ _ _ _ _, by repeat (first | (with_reducible first | exact HB.out | apply below_alloc | apply pw_below_drewN | apply below_drew1) | exact HB.out)⟩
   rw [if_neg c18] at H
   have c18b0 : (x0_3.toList == ([] : List UInt8)) = false := beq_eq_false_iff_ne.mpr c18
   have c18b1 : (x0_3.toList != ([] : List UInt8)) = true := bne_iff_ne.mpr c18
   replace H := Option.bind_eq_some_iff.mp H
   obtain ⟨t106, A200, H⟩ := H
   replace H : ((jsonparser_zzCount.f kj3 x0_3 (⟨#[91]⟩ : ByteArray)).bind fun t107 => (if 0 ≤ (wrap64 ((wrap64 (1 + t106)) + t107)) then (if (wrap64 ((wrap64 (1 + t106)) + t107) : Int).toNat ≤ 17592186044416 then (jsonparser_ParsePath.l0 kj3 x0_3 (([] : List ByteArray)) 0) else (none)) else (none))) = some (r1, r2) := H
   have A20 := mk0 A200
   clear A200
   replace H := Option.bind_eq_some_iff.mp H
   obtain ⟨t107, A210, H⟩ := H
   replace H : (if 0 ≤ (wrap64 ((wrap64 (1 + t106)) + t107)) then (if (wrap64 ((wrap64 (1 + t106)) + t107) : Int).toNat ≤ 17592186044416 then (jsonparser_ParsePath.l0 kj3 x0_3 (([] : List ByteArray)) 0) else (none)) else (none)) = some (r1, r2) := H
   have A21 := mk0 A210
   clear A210
   obtain ⟨ji22, hji22⟩ : ∃ j_ : Int, (wrap64 ((wrap64 (1 + t106)) + t107)) = j_ := ⟨_, rfl⟩
   replace H : (if 0 ≤ (ji22) then (if (ji22 : Int).toNat ≤ 17592186044416 then (jsonparser_ParsePath.l0 kj3 x0_3 (([] : List ByteArray)) 0) else (none)) else (none)) = some (r1, r2) := by first | (rw [hji22] at H; exact H) | (simp only [hji22] at H ⊢; exact H)
   (try rw [hji22] at A20)
   (try rw [hji22] at A21)
   have hji22w : (IntKind.i64.wrap ((wrap64 (1 + t106)) + t107)) = ji22 := (i64_w _).trans hji22
   by_cases c23 : 0 ≤ (ji22)
   rotate_left
   ·rw [if_neg c23] at H
    exact absurd H (by simp)
   rw [if_pos c23] at H
   have c23b0 := eq_true c23
   have c23b1 : decide (0 ≤ (ji22)) = true := decide_eq_true c23
   clear c23
   by_cases c24 : (ji22 : Int).toNat ≤ 17592186044416
   rotate_left
   ·rw [if_neg c24] at H
    exact absurd H (by simp)
   rw [if_pos c24] at H
   have c24b0 := eq_true c24
   have c24b1 : decide ((ji22 : Int).toNat ≤ 17592186044416) = true := decide_eq_true c24
   clear c24
   obtain ⟨y108, hy108⟩ : ∃ y_ : List ByteArray, y_ = (([] : List ByteArray)) := ⟨_, rfl⟩
   replace H : (jsonparser_ParsePath.l0 kj3 x0_3 y108 0) = some (r1, r2) := by first | (rw [hy108]; with_reducible exact H) | (have H2_ := (Option.bind_some _ _).symm.trans H; rw [hy108]; with_reducible exact H2_) | (have H2_ := (Option.bind_some _ _).symm.trans H; with_reducible exact H2_) | with_reducible exact H | (rw [hy108]; exact H) | exact H
   have Ny108 := mk0 hy108
   clear hy108
   have H' := mk0 H
   clear H
   go_wp2_with (first | (go_at_call 42; (with_reducible refine (jsonparser_zzCount.calls kj3 x0_3 (⟨#[46]⟩ : ByteArray) t106 _ A20.out).mono ?_); rintro e w' ⟨rfl, ⟨nd, rfl⟩⟩; (try first | exact ⟨rfl, _, World.drewN_drewN _ _ _⟩ | exact ⟨rfl, _, Eq.trans (World.drewN_drewN _ _ _) (congrArg (World.drewN _) (Nat.add_assoc _ _ _))⟩)) | (go_at_call 42; (with_reducible refine (jsonparser_zzCount.calls kj3 x0_3 (⟨#[91]⟩ : ByteArray) t107 _ A21.out).mono ?_); rintro e w' ⟨rfl, ⟨nd, rfl⟩⟩; (try first | exact ⟨rfl, _, World.drewN_drewN _ _ _⟩ | exact ⟨rfl, _, Eq.trans (World.drewN_drewN _ _ _) (congrArg (World.drewN _) (Nat.add_assoc _ _ _))⟩)) | ((with_reducible refine gate_dst (N := 44) rfl ?_); refine R_make0g Kd.string _ 9 rfl (N := 44) rfl 22 _ _ rfl ji22 rfl rfl Tryd.underlying22 (.string ⟨#[]⟩) 16 info9 (by omega) (ok := fun _ => True) trivial (of_decide_eq_true zq1) (Nat.le_trans (Nat.mul_le_mul_right _ (of_decide_eq_true zq1 : ji22.toNat ≤ 17592186044416)) (by omega)) (Below.refl _ _) (Nat.le_refl _) ?_; intro v109 w25 ho26 hb hg_ hnew_; clear hg_ hnew_; (first | rw [← Ny108.out] at ho26 | (simp only [Int.reduceToNat] at ho26; rw [← Ny108.out] at ho26)); have n0_ := mk0 (Kd.R_lower ho26 (below_size zq0)); have n1_ := mk0 (below_step zq0 hb); clear HB; have HO110 := n0_; have HB := n1_; clear n0_ n1_; clear hb ho26))
   repeat (go_quiet (first | (go_at_call 42; (with_reducible refine (jsonparser_zzCount.calls kj3 x0_3 (⟨#[46]⟩ : ByteArray) t106 _ A20.out).mono ?_); rintro e w' ⟨rfl, ⟨nd, rfl⟩⟩; (try first | exact ⟨rfl, _, World.drewN_drewN _ _ _⟩ | exact ⟨rfl, _, Eq.trans (World.drewN_drewN _ _ _) (congrArg (World.drewN _) (Nat.add_assoc _ _ _))⟩)) | (go_at_call 42; (with_reducible refine (jsonparser_zzCount.calls kj3 x0_3 (⟨#[91]⟩ : ByteArray) t107 _ A21.out).mono ?_); rintro e w' ⟨rfl, ⟨nd, rfl⟩⟩; (try first | exact ⟨rfl, _, World.drewN_drewN _ _ _⟩ | exact ⟨rfl, _, Eq.trans (World.drewN_drewN _ _ _) (congrArg (World.drewN _) (Nat.add_assoc _ _ _))⟩)) | ((with_reducible refine gate_dst (N := 44) rfl ?_); refine R_make0g Kd.string _ 9 rfl (N := 44) rfl 22 _ _ rfl ji22 rfl rfl Tryd.underlying22 (.string ⟨#[]⟩) 16 info9 (by omega) (ok := fun _ => True) trivial (of_decide_eq_true zq1) (Nat.le_trans (Nat.mul_le_mul_right _ (of_decide_eq_true zq1 : ji22.toNat ≤ 17592186044416)) (by omega)) (Below.refl _ _) (Nat.le_refl _) ?_; intro v109 w25 ho26 hb hg_ hnew_; clear hg_ hnew_; (first | rw [← Ny108.out] at ho26 | (simp only [Int.reduceToNat] at ho26; rw [← Ny108.out] at ho26)); have n0_ := mk0 (Kd.R_lower ho26 (below_size zq0)); have n1_ := mk0 (below_step zq0 hb); clear HB; have HO110 := n0_; have HB := n1_; clear n0_ n1_; clear hb ho26)); try go_wp2_with (first | (go_at_call 42; (with_reducible refine (jsonparser_zzCount.calls kj3 x0_3 (⟨#[46]⟩ : ByteArray) t106 _ A20.out).mono ?_); rintro e w' ⟨rfl, ⟨nd, rfl⟩⟩; (try first | exact ⟨rfl, _, World.drewN_drewN _ _ _⟩ | exact ⟨rfl, _, Eq.trans (World.drewN_drewN _ _ _) (congrArg (World.drewN _) (Nat.add_assoc _ _ _))⟩)) | (go_at_call 42; (with_reducible refine (jsonparser_zzCount.calls kj3 x0_3 (⟨#[91]⟩ : ByteArray) t107 _ A21.out).mono ?_); rintro e w' ⟨rfl, ⟨nd, rfl⟩⟩; (try first | exact ⟨rfl, _, World.drewN_drewN _ _ _⟩ | exact ⟨rfl, _, Eq.trans (World.drewN_drewN _ _ _) (congrArg (World.drewN _) (Nat.add_assoc _ _ _))⟩)) | ((with_reducible refine gate_dst (N := 44) rfl ?_); refine R_make0g Kd.string _ 9 rfl (N := 44) rfl 22 _ _ rfl ji22 rfl rfl Tryd.underlying22 (.string ⟨#[]⟩) 16 info9 (by omega) (ok := fun _ => True) trivial (of_decide_eq_true zq1) (Nat.le_trans (Nat.mul_le_mul_right _ (of_decide_eq_true zq1 : ji22.toNat ≤ 17592186044416)) (by omega)) (Below.refl _ _) (Nat.le_refl _) ?_; intro v109 w25 ho26 hb hg_ hnew_; clear hg_ hnew_; (first | rw [← Ny108.out] at ho26 | (simp only [Int.reduceToNat] at ho26; rw [← Ny108.out] at ho26)); have n0_ := mk0 (Kd.R_lower ho26 (below_size zq0)); have n1_ := mk0 (below_step zq0 hb); clear HB; have HO110 := n0_; have HB := n1_; clear n0_ n1_; clear hb ho26)))
   (try simp only [Act.put, List.setIfInBounds_toArray, List.set_cons_zero, List.set_cons_succ])
   go_loopg [4, 5] kj3 (fun kq v4 v5 w' => ∃ (x4_2 : List ByteArray) (x5_2 : Int), v5 = .int .i64 x5_2 ∧ Aside0 (jsonparser_ParsePath.l0 kq x0_3 x4_2 x5_2 = some (r1, r2)) ∧ Aside0 (kq ≤ kj3) ∧ Aside0 (Kd.R Kd.string 9 w' w.heap.size (fun _ => True) v4 x4_2) ∧ Aside0 (Below w.heap.size w w'))
   case atStart => exact ⟨(y108), (0), zq10, H', ⟨Nat.le_refl _⟩, ⟨by (with_reducible repeat (first | apply Kd.R_alloc | apply Kd.R_drewN | apply Kd.R_drew)); exact HO110.out⟩, ⟨by repeat (first | (with_reducible first | exact HB.out | apply below_alloc | apply pw_below_drewN | apply below_drew1) | exact HB.out)⟩⟩
   case round => as_aux_lemma =>
    clear H'
    try clear c1
    try clear p1
    try clear q1
    try clear hx1
    try clear qi1
    try clear c2
    try clear c2b0
    try clear c2b1
    try clear p2
    try clear c5
    try clear c5b0
    try clear c5b1
    try clear p6
    try clear c9
    try clear c10
    try clear c10b0
    try clear c10b1
    try clear c12
    try clear c13
    try clear c13b0
    try clear c13b1
    try clear c14
    try clear c14b0
    try clear c14b1
    try clear p15
    try clear q15
    try clear hx15
    try clear qi15
    try clear c16
    try clear c16b0
    try clear c16b1
    try clear c18
    try clear c18b0
    try clear c18b1
    try clear c23
    try clear c23b0
    try clear c23b1
    try clear c24
    try clear c24b0
    try clear c24b1
    try clear p1
    try clear p15
    try clear p2
    try clear q1
    try clear q15
    obtain ⟨x4_2, x5_2, rfl, HA, HK2, HO_4, HB⟩ := hrel
    cases gk with
    | zero => exact absurd HA.out (by simp [jsonparser_ParsePath.l0])
    | succ k2 =>
     have H := HA.out
     clear HA
     simp only [jsonparser_ParsePath.l0] at H
     by_cases c27 : x5_2 < (x0_3.size : Int)
     rotate_left
     ·rw [if_neg c27] at H
      have c27b0 : decide (x5_2 < (x0_3.size : Int)) = false := decide_eq_false c27
      clear c27
      by_cases c84 : (x4_2.length : Int) = 0
      rotate_left
      ·rw [if_neg c84] at H
       have c84b0 : ((x4_2.length : Int) == 0) = false := beq_eq_false_iff_ne.mpr c84
       have c84b1 : ((x4_2.length : Int) != 0) = true := bne_iff_ne.mpr c84
       have c84b2 : ¬ (x4_2 = []) := fun h_ => c84 (by rw [h_]; rfl)
       simp only [Option.some.injEq, Prod.mk.injEq] at H
       obtain ⟨rfl, rfl⟩ := H
       obtain ⟨Ao87, co87, eo87⟩ := Kd.R_slice HO_4.out
       subst eo87
       go_wp2
       repeat (go_quiet (fail); try go_wp2)
       go_ret2
       exact ⟨none, Zk.nn, _, by first | rfl | (simp [errW_none, errW_some] <;> rfl) | (simp only [← hji22]; first | rfl | (simp [errW_none, errW_some] <;> rfl)) | (simp [*, errW_none, errW_some] <;> rfl), by (with_reducible repeat (first | apply Kd.R_alloc | apply Kd.R_drewN | apply Kd.R_drew)); exact HO_4.out, by repeat (first | (with_reducible first | exact HB.out | apply below_alloc | apply pw_below_drewN | apply below_drew1) | exact HB.out)⟩
      rw [if_pos c84] at H
      have c84b0 : ((x4_2.length : Int) == 0) = true := beq_iff_eq.mpr c84
      have c84b1 : ((x4_2.length : Int) != 0) = false := bne_eq_false_iff_eq.mpr c84
      clear c84
      simp only [Option.some.injEq, Prod.mk.injEq] at H
      obtain ⟨rfl, rfl⟩ := H
      obtain ⟨Ao86, co86, eo86⟩ := Kd.R_slice HO_4.out
      subst eo86
      have hg85 : wr.cell? ⟨1, 0, none⟩ = some (.iface m_1.1 m_1.2) := zq12
      go_wp2
      repeat (go_quiet (fail); try go_wp2)
      go_ret2
      exact ⟨some m_1, Zk.ss, _, by first | rfl | (simp [errW_none, errW_some] <;> rfl) | (simp only [← hji22]; first | rfl | (simp [errW_none, errW_some] <;> rfl)) | (simp [*, errW_none, errW_some] <;> rfl), by first | exact Kd.R_nil _ _ _ _ _ | exact Kd.N_nil _ _ _ _ _ | exact Kd.V_nil _ _ _ _ _ | exact Kd.Q_nil _ _ _ _ _ | exact Kd.S_nil _ _ _ _ _, by repeat (first | (with_reducible first | exact HB.out | apply below_alloc | apply pw_below_drewN | apply below_drew1) | exact HB.out)⟩
     rw [if_pos c27] at H
     have c27b0 : decide (x5_2 < (x0_3.size : Int)) = true := decide_eq_true c27
     clear c27
     by_cases c28 : 0 ≤ x5_2
     rotate_left
     ·rw [if_neg c28] at H
      exact absurd H (by simp)
     rw [if_pos c28] at H
     have c28b0 : decide (0 ≤ x5_2) = true := decide_eq_true c28
     clear c28
     have HC30 := mk0 H
     clear H
     have p29 : 0 ≤ (x5_2 : Int) := of_decide_eq_true zq1
     have q29 : x5_2 < (x0_3.size : Int) := of_decide_eq_true zq1
     have hx29 := bt_at x0_3 x5_2
     replace p29 := eq_true p29
     replace q29 := eq_true q29
     go_upto_block 3 with (fail)
     repeat (go_quiet (fail); go_upto_block 3 with (fail))
     go_cut [4, 5] (fun v4 v5 wc => ∃ (kq : Nat) (x4_29 : List ByteArray) (x5_29 : Int), v5 = .int .i64 x5_29 ∧ Aside0 (jsonparser_ParsePath.j4 kq x0_3 x4_29 x5_29 = some (r1, r2)) ∧ Aside0 (kq ≤ k2) ∧ Aside0 (Kd.R Kd.string 9 wc w.heap.size (fun _ => True) v4 x4_29) ∧ Aside0 (Below w.heap.size w wc))
     case first => as_aux_lemma =>
      have H := HC30.out
      clear HC30
      by_cases c31 : (bt x0_3 x5_2) = 46
      ·rw [if_pos c31] at H
       have c31b0 : ((bt x0_3 x5_2) == 46) = true := beq_iff_eq.mpr c31
       have c31b1 : ((bt x0_3 x5_2) != 46) = false := bne_eq_false_iff_eq.mpr c31
       clear c31
       (first | rw [c31b0] | (simp only [i64_w, i32_w]; rw [c31b0]) | skip)
       simp only [Option.some.injEq, Prod.mk.injEq] at H
       obtain ⟨rfl, rfl⟩ := H
       have hg32 : wr.cell? ⟨1, 0, none⟩ = some (.iface m_1.1 m_1.2) := zq12
       go_wp2
       repeat (go_quiet (fail); try go_wp2)
       go_ret2
       exact ⟨some m_1, Zk.ss, _, by first | rfl | (simp [errW_none, errW_some] <;> rfl) | (simp only [← hji22]; first | rfl | (simp [errW_none, errW_some] <;> rfl)) | (simp [*, errW_none, errW_some] <;> rfl), by first | exact Kd.R_nil _ _ _ _ _ | exact Kd.N_nil _ _ _ _ _ | exact Kd.V_nil _ _ _ _ _ | exact Kd.Q_nil _ _ _ _ _ | exact Kd.S_nil _ _ _ _ _, by repeat (first | (with_reducible first | exact HB.out | apply below_alloc | apply pw_below_drewN | apply below_drew1) | exact HB.out)⟩
      rw [if_neg c31] at H
      have c31b0 : ((bt x0_3 x5_2) == 46) = false := beq_eq_false_iff_ne.mpr c31
      have c31b1 : ((bt x0_3 x5_2) != 46) = true := bne_iff_ne.mpr c31
      (first | rw [c31b0] | (simp only [i64_w, i32_w]; rw [c31b0]) | skip)
      by_cases c33 : (bt x0_3 x5_2) = 34
      ·rw [if_pos c33] at H
       have c33b0 : ((bt x0_3 x5_2) == 34) = true := beq_iff_eq.mpr c33
       have c33b1 : ((bt x0_3 x5_2) != 34) = false := bne_eq_false_iff_eq.mpr c33
       clear c33
       replace H := Option.bind_eq_some_iff.mp H
       obtain ⟨⟨t111, t112, t113⟩, A340, H⟩ := H
       replace H : (if t113.isNone = true then (if x4_2.length < 8796093022208 then (jsonparser_ParsePath.j4 k2 x0_3 (x4_2 ++ [t111]) t112) else (none)) else (some (([] : List ByteArray), some (t113.getD 0)))) = some (r1, r2) := H
       have A34 := mk0 A340
       clear A340
       rcases t113 with _ | q114
       rotate_left
       ·have H1 : (some (([] : List ByteArray), some q114)) = some (r1, r2) := by rw [if_neg (show ¬ (some q114).isNone = true by simp)] at H; exact H
        clear H
        have H := H1
        clear H1
        (try (obtain ⟨m_q114, rfl⟩ := Zk.some_ Hz_t113.out))
        try simp only [errW_none, errW_some]
        simp only [Option.some.injEq, Prod.mk.injEq] at H
        obtain ⟨rfl, rfl⟩ := H
        go_wp2_with (first | (go_at_call 43; (with_reducible refine (jsonparser_parseQuotedPathKey.calls k2 x0_3 x5_2 t111 t112 (some q114) _ ?side1 A34.out).mono ?_); (case side1 => exact zq11); rintro e w38 ⟨zs2_, hzs2_, rfl, hb⟩; obtain ⟨m_q114, rfl⟩ := Zk.some_ hzs2_; have n0_ := mk0 (Kd.R_below zq4 hb); have n1_ := mk0 (below_step zq0 hb); clear HO_4 HB; have HO_4 := n0_; have HB := n1_; clear n0_ n1_; (try clear hb); (try clear hb2); (try clear hk); (try clear hi); (try simp only [errW_none, errW_some])))
        repeat (go_quiet (first | (go_at_call 43; (with_reducible refine (jsonparser_parseQuotedPathKey.calls k2 x0_3 x5_2 t111 t112 (some q114) _ ?side1 A34.out).mono ?_); (case side1 => exact zq11); rintro e w38 ⟨zs2_, hzs2_, rfl, hb⟩; obtain ⟨m_q114, rfl⟩ := Zk.some_ hzs2_; have n0_ := mk0 (Kd.R_below zq4 hb); have n1_ := mk0 (below_step zq0 hb); clear HO_4 HB; have HO_4 := n0_; have HB := n1_; clear n0_ n1_; (try clear hb); (try clear hb2); (try clear hk); (try clear hi); (try simp only [errW_none, errW_some]))); try go_wp2_with (first | (go_at_call 43; (with_reducible refine (jsonparser_parseQuotedPathKey.calls k2 x0_3 x5_2 t111 t112 (some q114) _ ?side1 A34.out).mono ?_); (case side1 => exact zq11); rintro e w38 ⟨zs2_, hzs2_, rfl, hb⟩; obtain ⟨m_q114, rfl⟩ := Zk.some_ hzs2_; have n0_ := mk0 (Kd.R_below zq4 hb); have n1_ := mk0 (below_step zq0 hb); clear HO_4 HB; have HO_4 := n0_; have HB := n1_; clear n0_ n1_; (try clear hb); (try clear hb2); (try clear hk); (try clear hi); (try simp only [errW_none, errW_some]))))
        go_ret2
        exact ⟨some m_q114, Zk.ss, _, by first | rfl | (simp [errW_none, errW_some] <;> rfl) | (simp only [← hji22]; first | rfl | (simp [errW_none, errW_some] <;> rfl)) | (simp [*, errW_none, errW_some] <;> rfl), by first | exact Kd.R_nil _ _ _ _ _ | exact Kd.N_nil _ _ _ _ _ | exact Kd.V_nil _ _ _ _ _ | exact Kd.Q_nil _ _ _ _ _ | exact Kd.S_nil _ _ _ _ _, by repeat (first | (with_reducible first | exact HB.out | apply below_alloc | apply pw_below_drewN | apply below_drew1) | exact HB.out)⟩
       have H1 : (if x4_2.length < 8796093022208 then (jsonparser_ParsePath.j4 k2 x0_3 (x4_2 ++ [t111]) t112) else (none)) = some (r1, r2) := by rw [if_pos (show (none : Option Int).isNone = true by rfl)] at H; exact H
       clear H
       have H := H1
       clear H1
       (try (obtain rfl := Zk.none_ Hz_t113.out))
       try simp only [errW_none, errW_some]
       by_cases c35 : x4_2.length < 8796093022208
       rotate_left
       ·rw [if_neg c35] at H
        exact absurd H (by simp)
       rw [if_pos c35] at H
       have LMc35 := mk0 c35
       clear c35
       obtain ⟨y115, hy115⟩ : ∃ y_ : List ByteArray, y_ = (x4_2 ++ [t111]) := ⟨_, rfl⟩
       replace H : (jsonparser_ParsePath.j4 k2 x0_3 y115 t112) = some (r1, r2) := by first | (rw [hy115]; with_reducible exact H) | (have H2_ := (Option.bind_some _ _).symm.trans H; rw [hy115]; with_reducible exact H2_) | (have H2_ := (Option.bind_some _ _).symm.trans H; with_reducible exact H2_) | with_reducible exact H | (rw [hy115]; exact H) | exact H
       have Ny115 := mk0 hy115
       clear hy115
       have H' := mk0 H
       clear H
       go_wp2_with (first | (go_at_call 43; (with_reducible refine (jsonparser_parseQuotedPathKey.calls k2 x0_3 x5_2 t111 t112 none _ ?side1 A34.out).mono ?_); (case side1 => exact zq11); rintro e w36 ⟨zn2_, hzn2_, rfl, hb⟩; obtain rfl := Zk.none_ hzn2_; have n0_ := mk0 (Kd.R_below zq4 hb); have n1_ := mk0 (below_step zq0 hb); clear HO_4 HB; have HO_4 := n0_; have HB := n1_; clear n0_ n1_; (try clear hb); (try clear hb2); (try clear hk); (try clear hi); (try simp only [errW_none, errW_some])) | ((with_reducible refine gate_builtin (b := .append) (xs := #[.tmp 108, .tmp 110]) rfl ?_); at_builtin; refine Kd.R_append Kd.string (w0 := w) w.heap.size rfl (.tmp 108) (.tmp 110) 22 9 (.string ⟨#[]⟩) 16 rfl Tryd.underlying22 info9 rfl zq23 (by omega) u4 x4_2 t111 [.string t111] (fun _ => True) (fun _ => False) rfl rfl ?aP (fun _ hk => hk.elim) ?aF ?aO ?aB ?aS ?aL ?_; (case aP => exact rfl); (case aB => exact zq0); (case aF => exact (fun _ _ => trivial)); (case aO => exact zq4); (case aS => exact (below_size zq0)); (case aL => have := LMc35.out; omega); intro v116 w37 ho hb hg hat; rw [← Ny115.out] at ho; have n0_ := mk0 (hb); have n1_ := mk0 (ho); clear HB HO_4; have HB := n0_; have HO117 := n1_; clear n0_ n1_; clear ho hb hg hat))
       repeat (go_quiet (first | (go_at_call 43; (with_reducible refine (jsonparser_parseQuotedPathKey.calls k2 x0_3 x5_2 t111 t112 none _ ?side1 A34.out).mono ?_); (case side1 => exact zq11); rintro e w36 ⟨zn2_, hzn2_, rfl, hb⟩; obtain rfl := Zk.none_ hzn2_; have n0_ := mk0 (Kd.R_below zq4 hb); have n1_ := mk0 (below_step zq0 hb); clear HO_4 HB; have HO_4 := n0_; have HB := n1_; clear n0_ n1_; (try clear hb); (try clear hb2); (try clear hk); (try clear hi); (try simp only [errW_none, errW_some])) | ((with_reducible refine gate_builtin (b := .append) (xs := #[.tmp 108, .tmp 110]) rfl ?_); at_builtin; refine Kd.R_append Kd.string (w0 := w) w.heap.size rfl (.tmp 108) (.tmp 110) 22 9 (.string ⟨#[]⟩) 16 rfl Tryd.underlying22 info9 rfl zq23 (by omega) u4 x4_2 t111 [.string t111] (fun _ => True) (fun _ => False) rfl rfl ?aP (fun _ hk => hk.elim) ?aF ?aO ?aB ?aS ?aL ?_; (case aP => exact rfl); (case aB => exact zq0); (case aF => exact (fun _ _ => trivial)); (case aO => exact zq4); (case aS => exact (below_size zq0)); (case aL => have := LMc35.out; omega); intro v116 w37 ho hb hg hat; rw [← Ny115.out] at ho; have n0_ := mk0 (hb); have n1_ := mk0 (ho); clear HB HO_4; have HB := n0_; have HO117 := n1_; clear n0_ n1_; clear ho hb hg hat)); try go_wp2_with (first | (go_at_call 43; (with_reducible refine (jsonparser_parseQuotedPathKey.calls k2 x0_3 x5_2 t111 t112 none _ ?side1 A34.out).mono ?_); (case side1 => exact zq11); rintro e w36 ⟨zn2_, hzn2_, rfl, hb⟩; obtain rfl := Zk.none_ hzn2_; have n0_ := mk0 (Kd.R_below zq4 hb); have n1_ := mk0 (below_step zq0 hb); clear HO_4 HB; have HO_4 := n0_; have HB := n1_; clear n0_ n1_; (try clear hb); (try clear hb2); (try clear hk); (try clear hi); (try simp only [errW_none, errW_some])) | ((with_reducible refine gate_builtin (b := .append) (xs := #[.tmp 108, .tmp 110]) rfl ?_); at_builtin; refine Kd.R_append Kd.string (w0 := w) w.heap.size rfl (.tmp 108) (.tmp 110) 22 9 (.string ⟨#[]⟩) 16 rfl Tryd.underlying22 info9 rfl zq23 (by omega) u4 x4_2 t111 [.string t111] (fun _ => True) (fun _ => False) rfl rfl ?aP (fun _ hk => hk.elim) ?aF ?aO ?aB ?aS ?aL ?_; (case aP => exact rfl); (case aB => exact zq0); (case aF => exact (fun _ _ => trivial)); (case aO => exact zq4); (case aS => exact (below_size zq0)); (case aL => have := LMc35.out; omega); intro v116 w37 ho hb hg hat; rw [← Ny115.out] at ho; have n0_ := mk0 (hb); have n1_ := mk0 (ho); clear HB HO_4; have HB := n0_; have HO117 := n1_; clear n0_ n1_; clear ho hb hg hat)))
       go_meet
       case rel => exact ⟨_, (y115), (t112), zq10, H', ⟨by have := HJ3.out; have := HK2.out; first | omega | exact Nat.le_refl _⟩, ⟨by (with_reducible repeat (first | apply Kd.R_alloc | apply Kd.R_drewN | apply Kd.R_drew)); exact HO117.out⟩, ⟨by repeat (first | (with_reducible first | exact HB.out | apply below_alloc | apply pw_below_drewN | apply below_drew1) | exact HB.out)⟩⟩
      rw [if_neg c33] at H
      have c33b0 : ((bt x0_3 x5_2) == 34) = false := beq_eq_false_iff_ne.mpr c33
      have c33b1 : ((bt x0_3 x5_2) != 34) = true := bne_iff_ne.mpr c33
      by_cases c39 : (bt x0_3 x5_2) = 91
      ·rw [if_pos c39] at H
       have c39b0 : ((bt x0_3 x5_2) == 91) = true := beq_iff_eq.mpr c39
       have c39b1 : ((bt x0_3 x5_2) != 91) = false := bne_eq_false_iff_eq.mpr c39
       clear c39
       have H' := mk0 H
       clear H
       go_wp2
       repeat (go_quiet (fail); try go_wp2)
       go_meet
       case rel => exact ⟨_, (x4_2), (x5_2), zq10, H', ⟨by have := HJ3.out; have := HK2.out; first | omega | exact Nat.le_refl _⟩, ⟨by (with_reducible repeat (first | apply Kd.R_alloc | apply Kd.R_drewN | apply Kd.R_drew)); exact HO_4.out⟩, ⟨by repeat (first | (with_reducible first | exact HB.out | apply below_alloc | apply pw_below_drewN | apply below_drew1) | exact HB.out)⟩⟩
      rw [if_neg c39] at H
      have c39b0 : ((bt x0_3 x5_2) == 91) = false := beq_eq_false_iff_ne.mpr c39
      have c39b1 : ((bt x0_3 x5_2) != 91) = true := bne_iff_ne.mpr c39
      have H' := mk0 H
      clear H
      go_wp2
      repeat (go_quiet (fail); try go_wp2)
      go_loopg [5] k2 (fun kq v5 w' => ∃ (x5_3 : Int), v5 = .int .i64 x5_3 ∧ Aside0 (jsonparser_ParsePath.l1 kq x0_3 x4_2 x5_3 x5_2 = some (r1, r2)) ∧ Aside0 (kq ≤ k2) ∧ Aside0 (Kd.R Kd.string 9 w' w.heap.size (fun _ => True) u4 x4_2) ∧ Aside0 (Below w.heap.size w w'))
      case atStart => exact ⟨(x5_2), zq10, H', ⟨Nat.le_refl _⟩, ⟨by (with_reducible repeat (first | apply Kd.R_alloc | apply Kd.R_drewN | apply Kd.R_drew)); exact HO_4.out⟩, ⟨by repeat (first | (with_reducible first | exact HB.out | apply below_alloc | apply pw_below_drewN | apply below_drew1) | exact HB.out)⟩⟩
      case round => as_aux_lemma =>
       clear H'
       try clear c1
       try clear p1
       try clear q1
       try clear hx1
       try clear qi1
       try clear c2
       try clear c2b0
       try clear c2b1
       try clear p2
       try clear q2
       try clear hx2
       try clear c3
       try clear c5
       try clear c5b0
       try clear c5b1
       try clear p6
       try clear c9
       try clear c10
       try clear c10b0
       try clear c10b1
       try clear q11
       try clear c12
       try clear c13
       try clear c13b0
       try clear c13b1
       try clear c14
       try clear c14b0
       try clear c14b1
       try clear p15
       try clear q15
       try clear hx15
       try clear qi15
       try clear c16
       try clear c16b0
       try clear c16b1
       try clear c18
       try clear c18b0
       try clear c18b1
       try clear c23
       try clear c23b0
       try clear c23b1
       try clear c24
       try clear c24b0
       try clear c24b1
       try clear c27
       try clear c27b0
       try clear c28
       try clear c28b0
       try clear p29
       try clear q29
       try clear hx29
       try clear c31
       try clear c31b0
       try clear c31b1
       try clear c33
       try clear c33b0
       try clear c33b1
       try clear c35
       try clear c39
       try clear c39b0
       try clear c39b1
       try clear p1
       try clear p15
       try clear p2
       try clear p29
       try clear p6
       try clear q1
       try clear q114
       try clear q15
       try clear q29
       obtain ⟨x5_3, rfl, HA, HK3, HO_4, HB⟩ := hrel
       cases gk with
       | zero => exact absurd HA.out (by simp [jsonparser_ParsePath.l1])
       | succ k3 =>
        have H := HA.out
        clear HA
        simp only [jsonparser_ParsePath.l1] at H
        have HC40 := mk0 H
        clear H
        go_upto_region 18 with (fail)
        repeat (go_quiet (fail); go_upto_region 18 with (fail))
        go_cut [68] (fun v68 wc => ∃ (kq : Nat) (x68_39 : Bool), v68 = .bool x68_39 ∧ Aside0 (jsonparser_ParsePath.j3 kq x0_3 x4_2 x5_3 x5_2 x68_39 = some (r1, r2)) ∧ Aside0 (kq ≤ k3) ∧ Aside0 (Kd.R Kd.string 9 wc w.heap.size (fun _ => True) u4 x4_2) ∧ Aside0 (Below w.heap.size w wc))
        case first => as_aux_lemma =>
         have H := HC40.out
         clear HC40
         by_cases c41 : x5_3 < (x0_3.size : Int)
         rotate_left
         ·rw [if_neg c41] at H
          have c41b0 : decide (x5_3 < (x0_3.size : Int)) = false := decide_eq_false c41
          clear c41
          (first | rw [c41b0] | (simp only [i64_w, i32_w]; rw [c41b0]) | skip)
          have H' := mk0 H
          clear H
          go_wp2
          repeat (go_quiet (fail); try go_wp2)
          go_meet
          case rel => exact ⟨_, (false), zq10, H', ⟨by have := HJ3.out; have := HK2.out; have := HK3.out; first | omega | exact Nat.le_refl _⟩, ⟨by (with_reducible repeat (first | apply Kd.R_alloc | apply Kd.R_drewN | apply Kd.R_drew)); exact HO_4.out⟩, ⟨by repeat (first | (with_reducible first | exact HB.out | apply below_alloc | apply pw_below_drewN | apply below_drew1) | exact HB.out)⟩⟩
         rw [if_pos c41] at H
         have c41b0 : decide (x5_3 < (x0_3.size : Int)) = true := decide_eq_true c41
         clear c41
         (first | rw [c41b0] | (simp only [i64_w, i32_w]; rw [c41b0]) | skip)
         by_cases c42 : 0 ≤ x5_3
         rotate_left
         ·rw [if_neg c42] at H
          exact absurd H (by simp)
         rw [if_pos c42] at H
         have c42b0 : decide (0 ≤ x5_3) = true := decide_eq_true c42
         clear c42
         by_cases c44 : (bt x0_3 x5_3) = 46
         ·rw [if_pos c44] at H
          have c44b0 : ((bt x0_3 x5_3) == 46) = true := beq_iff_eq.mpr c44
          have c44b1 : ((bt x0_3 x5_3) != 46) = false := bne_eq_false_iff_eq.mpr c44
          clear c44
          have H' := mk0 H
          clear H
          have p43 : 0 ≤ (x5_3 : Int) := of_decide_eq_true zq1
          have q43 : x5_3 < (x0_3.size : Int) := of_decide_eq_true zq1
          have hx43 := bt_at x0_3 x5_3
          replace p43 := eq_true p43
          replace q43 := eq_true q43
          go_wp2
          repeat (go_quiet (fail); try go_wp2)
          go_meet
          case rel => exact ⟨_, (false), zq10, H', ⟨by have := HJ3.out; have := HK2.out; have := HK3.out; first | omega | exact Nat.le_refl _⟩, ⟨by (with_reducible repeat (first | apply Kd.R_alloc | apply Kd.R_drewN | apply Kd.R_drew)); exact HO_4.out⟩, ⟨by repeat (first | (with_reducible first | exact HB.out | apply below_alloc | apply pw_below_drewN | apply below_drew1) | exact HB.out)⟩⟩
         rw [if_neg c44] at H
         have c44b0 : ((bt x0_3 x5_3) == 46) = false := beq_eq_false_iff_ne.mpr c44
         have c44b1 : ((bt x0_3 x5_3) != 46) = true := bne_iff_ne.mpr c44
         have H' := mk0 H
         clear H
         have p43 : 0 ≤ (x5_3 : Int) := of_decide_eq_true zq1
         have q43 : x5_3 < (x0_3.size : Int) := of_decide_eq_true zq1
         have hx43 := bt_at x0_3 x5_3
         replace p43 := eq_true p43
         replace q43 := eq_true q43
         have p45 : 0 ≤ (x5_3 : Int) := of_decide_eq_true zq1
         have q45 : x5_3 < (x0_3.size : Int) := of_decide_eq_true zq1
         have hx45 := bt_at x0_3 x5_3
         replace p45 := eq_true p45
         replace q45 := eq_true q45
         go_wp2
         repeat (go_quiet (fail); try go_wp2)
         go_meet
         case rel => exact ⟨_, (((bt x0_3 x5_3) != 91)), zq10, H', ⟨by have := HJ3.out; have := HK2.out; have := HK3.out; first | omega | exact Nat.le_refl _⟩, ⟨by (with_reducible repeat (first | apply Kd.R_alloc | apply Kd.R_drewN | apply Kd.R_drew)); exact HO_4.out⟩, ⟨by repeat (first | (with_reducible first | exact HB.out | apply below_alloc | apply pw_below_drewN | apply below_drew1) | exact HB.out)⟩⟩
        case rest => as_aux_lemma =>
         clear HC40
         try clear c1
         try clear p1
         try clear q1
         try clear hx1
         try clear qi1
         try clear c2
         try clear c2b0
         try clear c2b1
         try clear p2
         try clear q2
         try clear hx2
         try clear c3
         try clear c4
         try clear p4
         try clear q4
         try clear hx4
         try clear c5
         try clear c5b0
         try clear c5b1
         try clear p6
         try clear c9
         try clear c10
         try clear c10b0
         try clear c10b1
         try clear q11
         try clear c12
         try clear c13
         try clear c13b0
         try clear c13b1
         try clear c14
         try clear c14b0
         try clear c14b1
         try clear p15
         try clear q15
         try clear hx15
         try clear qi15
         try clear c16
         try clear c16b0
         try clear c16b1
         try clear c18
         try clear c18b0
         try clear c18b1
         try clear c23
         try clear c23b0
         try clear c23b1
         try clear c24
         try clear c24b0
         try clear c24b1
         try clear c27
         try clear c27b0
         try clear c28
         try clear c28b0
         try clear p29
         try clear q29
         try clear hx29
         try clear c31
         try clear c31b0
         try clear c31b1
         try clear c33
         try clear c33b0
         try clear c33b1
         try clear c35
         try clear c39
         try clear c39b0
         try clear c39b1
         try clear c41
         try clear c41b0
         try clear c42
         try clear c42b0
         try clear p43
         try clear q43
         try clear hx43
         try clear c44
         try clear c44b0
         try clear c44b1
         try clear p45
         try clear q45
         try clear hx45
         try clear p1
         try clear p15
         try clear p2
         try clear p29
         try clear p43
         try clear p45
         try clear p6
         try clear q1
         try clear q11
         try clear q114
         try clear q15
         try clear q2
         try clear q29
         try clear q43
         try clear q45
         obtain ⟨kq, x68_39, rfl, HA, HJ39, HO_4, HB⟩ := hcut
         cases kq with
         | zero => exact absurd HA.out (by simp [jsonparser_ParsePath.j3])
         | succ kj39 =>
          have H := HA.out
          clear HA
          simp only [jsonparser_ParsePath.j3] at H
          by_cases c46 : x68_39 = true
          ·subst c46
           have H1 : (if 0 ≤ x5_3 then (if x5_3 < (x0_3.size : Int) then (if (bt x0_3 x5_3) = 93 then (some (([] : List ByteArray), some 1)) else (if (bt x0_3 x5_3) = 34 then (some (([] : List ByteArray), some 1)) else (jsonparser_ParsePath.l1 kj39 x0_3 x4_2 (wrap64 (x5_3 + 1)) x5_2))) else (none)) else (none)) = some (r1, r2) := by rw [if_pos rfl] at H; exact H
           clear H
           have H := H1
           clear H1
           by_cases c47 : 0 ≤ x5_3
           rotate_left
           ·rw [if_neg c47] at H
            exact absurd H (by simp)
           rw [if_pos c47] at H
           have c47b0 : decide (0 ≤ x5_3) = true := decide_eq_true c47
           clear c47
           by_cases c48 : x5_3 < (x0_3.size : Int)
           rotate_left
           ·rw [if_neg c48] at H
            exact absurd H (by simp)
           rw [if_pos c48] at H
           have c48b0 : decide (x5_3 < (x0_3.size : Int)) = true := decide_eq_true c48
           clear c48
           by_cases c50 : (bt x0_3 x5_3) = 93
           ·rw [if_pos c50] at H
            have c50b0 : ((bt x0_3 x5_3) == 93) = true := beq_iff_eq.mpr c50
            have c50b1 : ((bt x0_3 x5_3) != 93) = false := bne_eq_false_iff_eq.mpr c50
            clear c50
            simp only [Option.some.injEq, Prod.mk.injEq] at H
            obtain ⟨rfl, rfl⟩ := H
            have p49 : 0 ≤ (x5_3 : Int) := of_decide_eq_true zq1
            have q49 : x5_3 < (x0_3.size : Int) := of_decide_eq_true zq1
            have hx49 := bt_at x0_3 x5_3
            replace p49 := eq_true p49
            replace q49 := eq_true q49
            have hg51 : wc.cell? ⟨1, 0, none⟩ = some (.iface m_1.1 m_1.2) := zq12
            go_wp2
            repeat (go_quiet (fail); try go_wp2)
            go_ret2
            exact ⟨some m_1, Zk.ss, _, by first | rfl | (simp [errW_none, errW_some] <;> rfl) | (simp only [← hji22]; first | rfl | (simp [errW_none, errW_some] <;> rfl)) | (simp [*, errW_none, errW_some] <;> rfl), by first | exact Kd.R_nil _ _ _ _ _ | exact Kd.N_nil _ _ _ _ _ | exact Kd.V_nil _ _ _ _ _ | exact Kd.Q_nil _ _ _ _ _ | exact Kd.S_nil _ _ _ _ _, by repeat (first | (with_reducible first | exact HB.out | apply below_alloc | apply pw_below_drewN | apply below_drew1) | exact HB.out)⟩
           rw [if_neg c50] at H
           have c50b0 : ((bt x0_3 x5_3) == 93) = false := beq_eq_false_iff_ne.mpr c50
           have c50b1 : ((bt x0_3 x5_3) != 93) = true := bne_iff_ne.mpr c50
           by_cases c53 : (bt x0_3 x5_3) = 34
           rotate_left
           ·rw [if_neg c53] at H
            have c53b0 : ((bt x0_3 x5_3) == 34) = false := beq_eq_false_iff_ne.mpr c53
            have c53b1 : ((bt x0_3 x5_3) != 34) = true := bne_iff_ne.mpr c53
            have H' := mk0 H
            clear H
            have p49 : 0 ≤ (x5_3 : Int) := of_decide_eq_true zq1
            have q49 : x5_3 < (x0_3.size : Int) := of_decide_eq_true zq1
            have hx49 := bt_at x0_3 x5_3
            replace p49 := eq_true p49
            replace q49 := eq_true q49
            have p52 : 0 ≤ (x5_3 : Int) := of_decide_eq_true zq1
            have q52 : x5_3 < (x0_3.size : Int) := of_decide_eq_true zq1
            have hx52 := bt_at x0_3 x5_3
            replace p52 := eq_true p52
            replace q52 := eq_true q52
            go_wp2
            repeat (go_quiet (fail); try go_wp2)
            go_roundg kj39
            case measure => have := HJ3.out; have := HK2.out; have := HK3.out; have := HJ39.out; omega
            case rel => exact ⟨(wrap64 (x5_3 + 1)), zq10, H', ⟨by have := HJ3.out; have := HK2.out; have := HK3.out; have := HJ39.out; omega⟩, ⟨by (with_reducible repeat (first | apply Kd.R_alloc | apply Kd.R_drewN | apply Kd.R_drew)); exact HO_4.out⟩, ⟨by repeat (first | (with_reducible first | exact HB.out | apply below_alloc | apply pw_below_drewN | apply below_drew1) | exact HB.out)⟩⟩
           rw [if_pos c53] at H
           have c53b0 : ((bt x0_3 x5_3) == 34) = true := beq_iff_eq.mpr c53
           have c53b1 : ((bt x0_3 x5_3) != 34) = false := bne_eq_false_iff_eq.mpr c53
           clear c53
           simp only [Option.some.injEq, Prod.mk.injEq] at H
           obtain ⟨rfl, rfl⟩ := H
           have p49 : 0 ≤ (x5_3 : Int) := of_decide_eq_true zq1
           have q49 : x5_3 < (x0_3.size : Int) := of_decide_eq_true zq1
           have hx49 := bt_at x0_3 x5_3
           replace p49 := eq_true p49
           replace q49 := eq_true q49
           have p52 : 0 ≤ (x5_3 : Int) := of_decide_eq_true zq1
           have q52 : x5_3 < (x0_3.size : Int) := of_decide_eq_true zq1
           have hx52 := bt_at x0_3 x5_3
           replace p52 := eq_true p52
           replace q52 := eq_true q52
           have hg54 : wc.cell? ⟨1, 0, none⟩ = some (.iface m_1.1 m_1.2) := zq12
           go_wp2
           repeat (go_quiet (fail); try go_wp2)
           go_ret2
           exact ⟨some m_1, Zk.ss, _, by first | rfl | (simp [errW_none, errW_some] <;> rfl) | (simp only [← hji22]; first | rfl | (simp [errW_none, errW_some] <;> rfl)) | (simp [*, errW_none, errW_some] <;> rfl), by first | exact Kd.R_nil _ _ _ _ _ | exact Kd.N_nil _ _ _ _ _ | exact Kd.V_nil _ _ _ _ _ | exact Kd.Q_nil _ _ _ _ _ | exact Kd.S_nil _ _ _ _ _, by repeat (first | (with_reducible first | exact HB.out | apply below_alloc | apply pw_below_drewN | apply below_drew1) | exact HB.out)⟩
          replace c46 := Bool.eq_false_iff.mpr c46
          subst c46
          have H1 : (if x5_2 = x5_3 then (some (([] : List ByteArray), some 1)) else (if 0 ≤ x5_2 then (if x5_2 ≤ x5_3 then (if x5_3 ≤ (x0_3.size : Int) then (if x4_2.length < 8796093022208 then (jsonparser_ParsePath.j4 kj39 x0_3 (x4_2 ++ [x0_3.extract (x5_2 : Int).toNat (x5_3 : Int).toNat]) x5_3) else (none)) else (none)) else (none)) else (none))) = some (r1, r2) := by rw [if_neg (show ¬ (false = true) by decide)] at H; exact H
          clear H
          have H := H1
          clear H1
          by_cases c55 : x5_2 = x5_3
          ·rw [if_pos c55] at H
           have c55b0 : (x5_2 == x5_3) = true := beq_iff_eq.mpr c55
           have c55b1 : (x5_2 != x5_3) = false := bne_eq_false_iff_eq.mpr c55
           clear c55
           simp only [Option.some.injEq, Prod.mk.injEq] at H
           obtain ⟨rfl, rfl⟩ := H
           have hg56 : wc.cell? ⟨1, 0, none⟩ = some (.iface m_1.1 m_1.2) := zq12
           go_wp2
           repeat (go_quiet (fail); try go_wp2)
           go_ret2
           exact ⟨some m_1, Zk.ss, _, by first | rfl | (simp [errW_none, errW_some] <;> rfl) | (simp only [← hji22]; first | rfl | (simp [errW_none, errW_some] <;> rfl)) | (simp [*, errW_none, errW_some] <;> rfl), by first | exact Kd.R_nil _ _ _ _ _ | exact Kd.N_nil _ _ _ _ _ | exact Kd.V_nil _ _ _ _ _ | exact Kd.Q_nil _ _ _ _ _ | exact Kd.S_nil _ _ _ _ _, by repeat (first | (with_reducible first | exact HB.out | apply below_alloc | apply pw_below_drewN | apply below_drew1) | exact HB.out)⟩
          rw [if_neg c55] at H
          have c55b0 : (x5_2 == x5_3) = false := beq_eq_false_iff_ne.mpr c55
          have c55b1 : (x5_2 != x5_3) = true := bne_iff_ne.mpr c55
          by_cases c57 : 0 ≤ x5_2
          rotate_left
          ·rw [if_neg c57] at H
           exact absurd H (by simp)
          rw [if_pos c57] at H
          have c57b0 := eq_true c57
          have c57b1 : decide (0 ≤ x5_2) = true := decide_eq_true c57
          clear c57
          by_cases c58 : x5_2 ≤ x5_3
          rotate_left
          ·rw [if_neg c58] at H
           exact absurd H (by simp)
          rw [if_pos c58] at H
          have c58b0 := eq_true c58
          have c58b1 : decide (x5_2 ≤ x5_3) = true := decide_eq_true c58
          clear c58
          by_cases c59 : x5_3 ≤ (x0_3.size : Int)
          rotate_left
          ·rw [if_neg c59] at H
           exact absurd H (by simp)
          rw [if_pos c59] at H
          have c59b0 := eq_true c59
          have c59b1 : decide (x5_3 ≤ (x0_3.size : Int)) = true := decide_eq_true c59
          clear c59
          by_cases c60 : x4_2.length < 8796093022208
          rotate_left
          ·rw [if_neg c60] at H
           exact absurd H (by simp)
          rw [if_pos c60] at H
          have LMc60 := mk0 c60
          clear c60
          obtain ⟨y118, hy118⟩ : ∃ y_ : List ByteArray, y_ = (x4_2 ++ [x0_3.extract (x5_2 : Int).toNat (x5_3 : Int).toNat]) := ⟨_, rfl⟩
          replace H : (jsonparser_ParsePath.j4 kj39 x0_3 y118 x5_3) = some (r1, r2) := by first | (rw [hy118]; with_reducible exact H) | (have H2_ := (Option.bind_some _ _).symm.trans H; rw [hy118]; with_reducible exact H2_) | (have H2_ := (Option.bind_some _ _).symm.trans H; with_reducible exact H2_) | with_reducible exact H | (rw [hy118]; exact H) | exact H
          have Ny118 := mk0 hy118
          clear hy118
          have H' := mk0 H
          clear H
          go_wp2_with (first | ((with_reducible refine gate_builtin (b := .append) (xs := #[.tmp 86, .tmp 91]) rfl ?_); at_builtin; refine Kd.R_append Kd.string (w0 := w) w.heap.size rfl (.tmp 86) (.tmp 91) 22 9 (.string ⟨#[]⟩) 16 rfl Tryd.underlying22 info9 rfl zq23 (by omega) u4 x4_2 (x0_3.extract (x5_2 : Int).toNat (x5_3 : Int).toNat) [.string (x0_3.extract (x5_2 : Int).toNat (x5_3 : Int).toNat)] (fun _ => True) (fun _ => False) rfl rfl ?aP (fun _ hk => hk.elim) ?aF ?aO ?aB ?aS ?aL ?_; (case aP => exact rfl); (case aB => exact zq0); (case aF => exact (fun _ _ => trivial)); (case aO => exact zq4); (case aS => exact (below_size zq0)); (case aL => have := LMc60.out; omega); intro v119 w61 ho hb hg hat; rw [← Ny118.out] at ho; have n0_ := mk0 (hb); have n1_ := mk0 (ho); clear HB HO_4; have HB := n0_; have HO120 := n1_; clear n0_ n1_; clear ho hb hg hat))
          repeat (go_quiet (first | ((with_reducible refine gate_builtin (b := .append) (xs := #[.tmp 86, .tmp 91]) rfl ?_); at_builtin; refine Kd.R_append Kd.string (w0 := w) w.heap.size rfl (.tmp 86) (.tmp 91) 22 9 (.string ⟨#[]⟩) 16 rfl Tryd.underlying22 info9 rfl zq23 (by omega) u4 x4_2 (x0_3.extract (x5_2 : Int).toNat (x5_3 : Int).toNat) [.string (x0_3.extract (x5_2 : Int).toNat (x5_3 : Int).toNat)] (fun _ => True) (fun _ => False) rfl rfl ?aP (fun _ hk => hk.elim) ?aF ?aO ?aB ?aS ?aL ?_; (case aP => exact rfl); (case aB => exact zq0); (case aF => exact (fun _ _ => trivial)); (case aO => exact zq4); (case aS => exact (below_size zq0)); (case aL => have := LMc60.out; omega); intro v119 w61 ho hb hg hat; rw [← Ny118.out] at ho; have n0_ := mk0 (hb); have n1_ := mk0 (ho); clear HB HO_4; have HB := n0_; have HO120 := n1_; clear n0_ n1_; clear ho hb hg hat)); try go_wp2_with (first | ((with_reducible refine gate_builtin (b := .append) (xs := #[.tmp 86, .tmp 91]) rfl ?_); at_builtin; refine Kd.R_append Kd.string (w0 := w) w.heap.size rfl (.tmp 86) (.tmp 91) 22 9 (.string ⟨#[]⟩) 16 rfl Tryd.underlying22 info9 rfl zq23 (by omega) u4 x4_2 (x0_3.extract (x5_2 : Int).toNat (x5_3 : Int).toNat) [.string (x0_3.extract (x5_2 : Int).toNat (x5_3 : Int).toNat)] (fun _ => True) (fun _ => False) rfl rfl ?aP (fun _ hk => hk.elim) ?aF ?aO ?aB ?aS ?aL ?_; (case aP => exact rfl); (case aB => exact zq0); (case aF => exact (fun _ _ => trivial)); (case aO => exact zq4); (case aS => exact (below_size zq0)); (case aL => have := LMc60.out; omega); intro v119 w61 ho hb hg hat; rw [← Ny118.out] at ho; have n0_ := mk0 (hb); have n1_ := mk0 (ho); clear HB HO_4; have HB := n0_; have HO120 := n1_; clear n0_ n1_; clear ho hb hg hat)))
          go_meet
          case rel => exact ⟨_, (y118), (x5_3), zq10, H', ⟨by have := HJ3.out; have := HK2.out; have := HK3.out; have := HJ39.out; first | omega | exact Nat.le_refl _⟩, ⟨by (with_reducible repeat (first | apply Kd.R_alloc | apply Kd.R_drewN | apply Kd.R_drew)); exact HO120.out⟩, ⟨by repeat (first | (with_reducible first | exact HB.out | apply below_alloc | apply pw_below_drewN | apply below_drew1) | exact HB.out)⟩⟩
     case rest => as_aux_lemma =>
      clear HC30
      try clear c1
      try clear p1
      try clear q1
      try clear hx1
      try clear qi1
      try clear c2
      try clear c2b0
      try clear c2b1
      try clear p2
      try clear q2
      try clear hx2
      try clear c3
      try clear c4
      try clear p4
      try clear q4
      try clear hx4
      try clear c5
      try clear c5b0
      try clear c5b1
      try clear p5
      try clear q5
      try clear hx5
      try clear c6
      try clear p6
      try clear c9
      try clear c10
      try clear c10b0
      try clear c10b1
      try clear q11
      try clear c12
      try clear c13
      try clear c13b0
      try clear c13b1
      try clear c14
      try clear c14b0
      try clear c14b1
      try clear p15
      try clear q15
      try clear hx15
      try clear qi15
      try clear c16
      try clear c16b0
      try clear c16b1
      try clear c18
      try clear c18b0
      try clear c18b1
      try clear c23
      try clear c23b0
      try clear c23b1
      try clear c24
      try clear c24b0
      try clear c24b1
      try clear c27
      try clear c27b0
      try clear c28
      try clear c28b0
      try clear p29
      try clear q29
      try clear hx29
      try clear c31
      try clear c31b0
      try clear c31b1
      try clear c33
      try clear c33b0
      try clear c33b1
      try clear c35
      try clear c39
      try clear c39b0
      try clear c39b1
      try clear c41
      try clear c41b0
      try clear c42
      try clear c42b0
      try clear p43
      try clear q43
      try clear hx43
      try clear c44
      try clear c44b0
      try clear c44b1
      try clear p45
      try clear q45
      try clear hx45
      try clear c46
      try clear c47
      try clear c47b0
      try clear c48
      try clear c48b0
      try clear p49
      try clear q49
      try clear hx49
      try clear c50
      try clear c50b0
      try clear c50b1
      try clear p52
      try clear q52
      try clear hx52
      try clear c53
      try clear c53b0
      try clear c53b1
      try clear c55
      try clear c55b0
      try clear c55b1
      try clear c57
      try clear c57b0
      try clear c57b1
      try clear c58
      try clear c58b0
      try clear c58b1
      try clear c59
      try clear c59b0
      try clear c59b1
      try clear c60
      try clear p1
      try clear p15
      try clear p2
      try clear p29
      try clear p4
      try clear p43
      try clear p45
      try clear p49
      try clear p52
      try clear p6
      try clear q1
      try clear q11
      try clear q114
      try clear q15
      try clear q2
      try clear q29
      try clear q4
      try clear q43
      try clear q45
      try clear q49
      try clear q52
      obtain ⟨kq, x4_29, x5_29, rfl, HA, HJ29, HO_4, HB⟩ := hcut
      cases kq with
      | zero => exact absurd HA.out (by simp [jsonparser_ParsePath.j4])
      | succ kj29 =>
       have H := HA.out
       clear HA
       simp only [jsonparser_ParsePath.j4] at H
       have H' := mk0 H
       clear H
       go_wp2
       repeat (go_quiet (fail); try go_wp2)
       go_loopg [4, 5] kj29 (fun kq v4 v5 w' => ∃ (x4_4 : List ByteArray) (x5_4 : Int), v5 = .int .i64 x5_4 ∧ Aside0 (jsonparser_ParsePath.l2 kq x0_3 x4_4 x5_4 = some (r1, r2)) ∧ Aside0 (kq ≤ kj29) ∧ Aside0 (Kd.R Kd.string 9 w' w.heap.size (fun _ => True) v4 x4_4) ∧ Aside0 (Below w.heap.size w w'))
       case atStart => exact ⟨(x4_29), (x5_29), zq10, H', ⟨Nat.le_refl _⟩, ⟨by (with_reducible repeat (first | apply Kd.R_alloc | apply Kd.R_drewN | apply Kd.R_drew)); exact HO_4.out⟩, ⟨by repeat (first | (with_reducible first | exact HB.out | apply below_alloc | apply pw_below_drewN | apply below_drew1) | exact HB.out)⟩⟩
       case round => as_aux_lemma =>
        clear H'
        try clear c1
        try clear p1
        try clear q1
        try clear hx1
        try clear qi1
        try clear c2
        try clear c2b0
        try clear c2b1
        try clear p2
        try clear q2
        try clear hx2
        try clear c3
        try clear c4
        try clear p4
        try clear q4
        try clear hx4
        try clear c5
        try clear c5b0
        try clear c5b1
        try clear p5
        try clear q5
        try clear hx5
        try clear c6
        try clear p6
        try clear c9
        try clear c10
        try clear c10b0
        try clear c10b1
        try clear q11
        try clear c12
        try clear c13
        try clear c13b0
        try clear c13b1
        try clear c14
        try clear c14b0
        try clear c14b1
        try clear p15
        try clear q15
        try clear hx15
        try clear qi15
        try clear c16
        try clear c16b0
        try clear c16b1
        try clear c18
        try clear c18b0
        try clear c18b1
        try clear c23
        try clear c23b0
        try clear c23b1
        try clear c24
        try clear c24b0
        try clear c24b1
        try clear c27
        try clear c27b0
        try clear c28
        try clear c28b0
        try clear p29
        try clear q29
        try clear hx29
        try clear c31
        try clear c31b0
        try clear c31b1
        try clear c33
        try clear c33b0
        try clear c33b1
        try clear c35
        try clear c39
        try clear c39b0
        try clear c39b1
        try clear c41
        try clear c41b0
        try clear c42
        try clear c42b0
        try clear p43
        try clear q43
        try clear hx43
        try clear c44
        try clear c44b0
        try clear c44b1
        try clear p45
        try clear q45
        try clear hx45
        try clear c46
        try clear c47
        try clear c47b0
        try clear c48
        try clear c48b0
        try clear p49
        try clear q49
        try clear hx49
        try clear c50
        try clear c50b0
        try clear c50b1
        try clear p52
        try clear q52
        try clear hx52
        try clear c53
        try clear c53b0
        try clear c53b1
        try clear c55
        try clear c55b0
        try clear c55b1
        try clear c57
        try clear c57b0
        try clear c57b1
        try clear c58
        try clear c58b0
        try clear c58b1
        try clear c59
        try clear c59b0
        try clear c59b1
        try clear c60
        try clear p1
        try clear p15
        try clear p2
        try clear p29
        try clear p4
        try clear p43
        try clear p45
        try clear p49
        try clear p5
        try clear p52
        try clear p6
        try clear q1
        try clear q11
        try clear q114
        try clear q15
        try clear q2
        try clear q29
        try clear q4
        try clear q43
        try clear q45
        try clear q49
        try clear q5
        try clear q52
        obtain ⟨x4_4, x5_4, rfl, HA, HK4, HO_4, HB⟩ := hrel
        cases gk with
        | zero => exact absurd HA.out (by simp [jsonparser_ParsePath.l2])
        | succ k4 =>
         have H := HA.out
         clear HA
         simp only [jsonparser_ParsePath.l2] at H
         have HC62 := mk0 H
         clear H
         go_upto_region 34 with (fail)
         repeat (go_quiet (fail); go_upto_region 34 with (fail))
         go_cut [124] (fun v124 wc => ∃ (kq : Nat) (x124_61 : Bool), v124 = .bool x124_61 ∧ Aside0 (jsonparser_ParsePath.j6 kq x0_3 x4_4 x5_4 x124_61 = some (r1, r2)) ∧ Aside0 (kq ≤ k4) ∧ Aside0 (Kd.R Kd.string 9 wc w.heap.size (fun _ => True) u4 x4_4) ∧ Aside0 (Below w.heap.size w wc))
         case first => as_aux_lemma =>
          have H := HC62.out
          clear HC62
          by_cases c63 : x5_4 < (x0_3.size : Int)
          rotate_left
          ·rw [if_neg c63] at H
           have c63b0 : decide (x5_4 < (x0_3.size : Int)) = false := decide_eq_false c63
           clear c63
           (first | rw [c63b0] | (simp only [i64_w, i32_w]; rw [c63b0]) | skip)
           have H' := mk0 H
           clear H
           go_wp2
           repeat (go_quiet (fail); try go_wp2)
           go_meet
           case rel => exact ⟨_, (false), zq10, H', ⟨by have := HJ3.out; have := HK2.out; have := HJ29.out; have := HK4.out; first | omega | exact Nat.le_refl _⟩, ⟨by (with_reducible repeat (first | apply Kd.R_alloc | apply Kd.R_drewN | apply Kd.R_drew)); exact HO_4.out⟩, ⟨by repeat (first | (with_reducible first | exact HB.out | apply below_alloc | apply pw_below_drewN | apply below_drew1) | exact HB.out)⟩⟩
          rw [if_pos c63] at H
          have c63b0 : decide (x5_4 < (x0_3.size : Int)) = true := decide_eq_true c63
          clear c63
          (first | rw [c63b0] | (simp only [i64_w, i32_w]; rw [c63b0]) | skip)
          by_cases c64 : 0 ≤ x5_4
          rotate_left
          ·rw [if_neg c64] at H
           exact absurd H (by simp)
          rw [if_pos c64] at H
          have c64b0 : decide (0 ≤ x5_4) = true := decide_eq_true c64
          clear c64
          have H' := mk0 H
          clear H
          have p65 : 0 ≤ (x5_4 : Int) := of_decide_eq_true zq1
          have q65 : x5_4 < (x0_3.size : Int) := of_decide_eq_true zq1
          have hx65 := bt_at x0_3 x5_4
          replace p65 := eq_true p65
          replace q65 := eq_true q65
          go_wp2
          repeat (go_quiet (fail); try go_wp2)
          go_meet
          case rel => exact ⟨_, (((bt x0_3 x5_4) == 91)), zq10, H', ⟨by have := HJ3.out; have := HK2.out; have := HJ29.out; have := HK4.out; first | omega | exact Nat.le_refl _⟩, ⟨by (with_reducible repeat (first | apply Kd.R_alloc | apply Kd.R_drewN | apply Kd.R_drew)); exact HO_4.out⟩, ⟨by repeat (first | (with_reducible first | exact HB.out | apply below_alloc | apply pw_below_drewN | apply below_drew1) | exact HB.out)⟩⟩
         case rest => as_aux_lemma =>
          clear HC62
          try clear c1
          try clear p1
          try clear q1
          try clear hx1
          try clear qi1
          try clear c2
          try clear c2b0
          try clear c2b1
          try clear p2
          try clear q2
          try clear hx2
          try clear c3
          try clear c4
          try clear p4
          try clear q4
          try clear hx4
          try clear c5
          try clear c5b0
          try clear c5b1
          try clear p5
          try clear q5
          try clear hx5
          try clear c6
          try clear p6
          try clear q6
          try clear hx6
          try clear c9
          try clear c10
          try clear c10b0
          try clear c10b1
          try clear q11
          try clear c12
          try clear c13
          try clear c13b0
          try clear c13b1
          try clear c14
          try clear c14b0
          try clear c14b1
          try clear p15
          try clear q15
          try clear hx15
          try clear qi15
          try clear c16
          try clear c16b0
          try clear c16b1
          try clear c18
          try clear c18b0
          try clear c18b1
          try clear c23
          try clear c23b0
          try clear c23b1
          try clear c24
          try clear c24b0
          try clear c24b1
          try clear c27
          try clear c27b0
          try clear c28
          try clear c28b0
          try clear p29
          try clear q29
          try clear hx29
          try clear c31
          try clear c31b0
          try clear c31b1
          try clear c33
          try clear c33b0
          try clear c33b1
          try clear c35
          try clear c39
          try clear c39b0
          try clear c39b1
          try clear c41
          try clear c41b0
          try clear c42
          try clear c42b0
          try clear p43
          try clear q43
          try clear hx43
          try clear c44
          try clear c44b0
          try clear c44b1
          try clear p45
          try clear q45
          try clear hx45
          try clear c46
          try clear c47
          try clear c47b0
          try clear c48
          try clear c48b0
          try clear p49
          try clear q49
          try clear hx49
          try clear c50
          try clear c50b0
          try clear c50b1
          try clear p52
          try clear q52
          try clear hx52
          try clear c53
          try clear c53b0
          try clear c53b1
          try clear c55
          try clear c55b0
          try clear c55b1
          try clear c57
          try clear c57b0
          try clear c57b1
          try clear c58
          try clear c58b0
          try clear c58b1
          try clear c59
          try clear c59b0
          try clear c59b1
          try clear c60
          try clear c63
          try clear c63b0
          try clear c64
          try clear c64b0
          try clear p64
          try clear p65
          try clear q65
          try clear hx65
          try clear p1
          try clear p15
          try clear p2
          try clear p29
          try clear p4
          try clear p43
          try clear p45
          try clear p49
          try clear p5
          try clear p52
          try clear p6
          try clear p65
          try clear q1
          try clear q11
          try clear q114
          try clear q15
          try clear q2
          try clear q29
          try clear q4
          try clear q43
          try clear q45
          try clear q49
          try clear q5
          try clear q52
          try clear q65
          obtain ⟨kq, x124_61, rfl, HA, HJ61, HO_4, HB⟩ := hcut
          cases kq with
          | zero => exact absurd HA.out (by simp [jsonparser_ParsePath.j6])
          | succ kj61 =>
           have H := HA.out
           clear HA
           simp only [jsonparser_ParsePath.j6] at H
           by_cases c66 : x124_61 = true
           rotate_left
           ·replace c66 := Bool.eq_false_iff.mpr c66
            subst c66
            have H1 : (if x5_4 = (x0_3.size : Int) then (if (x4_4.length : Int) = 0 then (some (([] : List ByteArray), some 1)) else (some (x4_4, none))) else (if 0 ≤ x5_4 then (if x5_4 < (x0_3.size : Int) then (if (bt x0_3 x5_4) = 46 then (if (wrap64 (x5_4 + 1)) = (x0_3.size : Int) then (some (([] : List ByteArray), some 1)) else (jsonparser_ParsePath.l0 kj61 x0_3 x4_4 (wrap64 (x5_4 + 1)))) else (some (([] : List ByteArray), some 1))) else (none)) else (none))) = some (r1, r2) := by rw [if_neg (show ¬ (false = true) by decide)] at H; exact H
            clear H
            have H := H1
            clear H1
            by_cases c72 : x5_4 = (x0_3.size : Int)
            ·rw [if_pos c72] at H
             have c72b0 : (x5_4 == (x0_3.size : Int)) = true := beq_iff_eq.mpr c72
             have c72b1 : (x5_4 != (x0_3.size : Int)) = false := bne_eq_false_iff_eq.mpr c72
             clear c72
             by_cases c73 : (x4_4.length : Int) = 0
             rotate_left
             ·rw [if_neg c73] at H
              have c73b0 : ((x4_4.length : Int) == 0) = false := beq_eq_false_iff_ne.mpr c73
              have c73b1 : ((x4_4.length : Int) != 0) = true := bne_iff_ne.mpr c73
              have c73b2 : ¬ (x4_4 = []) := fun h_ => c73 (by rw [h_]; rfl)
              simp only [Option.some.injEq, Prod.mk.injEq] at H
              obtain ⟨rfl, rfl⟩ := H
              obtain ⟨Ao76, co76, eo76⟩ := Kd.R_slice HO_4.out
              subst eo76
              go_wp2
              repeat (go_quiet (fail); try go_wp2)
              go_ret2
              exact ⟨none, Zk.nn, _, by first | rfl | (simp [errW_none, errW_some] <;> rfl) | (simp only [← hji22]; first | rfl | (simp [errW_none, errW_some] <;> rfl)) | (simp [*, errW_none, errW_some] <;> rfl), by (with_reducible repeat (first | apply Kd.R_alloc | apply Kd.R_drewN | apply Kd.R_drew)); exact HO_4.out, by repeat (first | (with_reducible first | exact HB.out | apply below_alloc | apply pw_below_drewN | apply below_drew1) | exact HB.out)⟩
             rw [if_pos c73] at H
             have c73b0 : ((x4_4.length : Int) == 0) = true := beq_iff_eq.mpr c73
             have c73b1 : ((x4_4.length : Int) != 0) = false := bne_eq_false_iff_eq.mpr c73
             clear c73
             simp only [Option.some.injEq, Prod.mk.injEq] at H
             obtain ⟨rfl, rfl⟩ := H
             obtain ⟨Ao75, co75, eo75⟩ := Kd.R_slice HO_4.out
             subst eo75
             have hg74 : wc.cell? ⟨1, 0, none⟩ = some (.iface m_1.1 m_1.2) := zq12
             go_wp2
             repeat (go_quiet (fail); try go_wp2)
             go_ret2
             exact ⟨some m_1, Zk.ss, _, by first | rfl | (simp [errW_none, errW_some] <;> rfl) | (simp only [← hji22]; first | rfl | (simp [errW_none, errW_some] <;> rfl)) | (simp [*, errW_none, errW_some] <;> rfl), by first | exact Kd.R_nil _ _ _ _ _ | exact Kd.N_nil _ _ _ _ _ | exact Kd.V_nil _ _ _ _ _ | exact Kd.Q_nil _ _ _ _ _ | exact Kd.S_nil _ _ _ _ _, by repeat (first | (with_reducible first | exact HB.out | apply below_alloc | apply pw_below_drewN | apply below_drew1) | exact HB.out)⟩
            rw [if_neg c72] at H
            have c72b0 : (x5_4 == (x0_3.size : Int)) = false := beq_eq_false_iff_ne.mpr c72
            have c72b1 : (x5_4 != (x0_3.size : Int)) = true := bne_iff_ne.mpr c72
            by_cases c77 : 0 ≤ x5_4
            rotate_left
            ·rw [if_neg c77] at H
             exact absurd H (by simp)
            rw [if_pos c77] at H
            have c77b0 : decide (0 ≤ x5_4) = true := decide_eq_true c77
            clear c77
            by_cases c78 : x5_4 < (x0_3.size : Int)
            rotate_left
            ·rw [if_neg c78] at H
             exact absurd H (by simp)
            rw [if_pos c78] at H
            have c78b0 : decide (x5_4 < (x0_3.size : Int)) = true := decide_eq_true c78
            clear c78
            by_cases c80 : (bt x0_3 x5_4) = 46
            rotate_left
            ·rw [if_neg c80] at H
             have c80b0 : ((bt x0_3 x5_4) == 46) = false := beq_eq_false_iff_ne.mpr c80
             have c80b1 : ((bt x0_3 x5_4) != 46) = true := bne_iff_ne.mpr c80
             simp only [Option.some.injEq, Prod.mk.injEq] at H
             obtain ⟨rfl, rfl⟩ := H
             have p79 : 0 ≤ (x5_4 : Int) := of_decide_eq_true zq1
             have q79 : x5_4 < (x0_3.size : Int) := of_decide_eq_true zq1
             have hx79 := bt_at x0_3 x5_4
             replace p79 := eq_true p79
             replace q79 := eq_true q79
             have hg83 : wc.cell? ⟨1, 0, none⟩ = some (.iface m_1.1 m_1.2) := zq12
             go_wp2
             repeat (go_quiet (fail); try go_wp2)
             go_ret2
             exact ⟨some m_1, Zk.ss, _, by first | rfl | (simp [errW_none, errW_some] <;> rfl) | (simp only [← hji22]; first | rfl | (simp [errW_none, errW_some] <;> rfl)) | (simp [*, errW_none, errW_some] <;> rfl), by first | exact Kd.R_nil _ _ _ _ _ | exact Kd.N_nil _ _ _ _ _ | exact Kd.V_nil _ _ _ _ _ | exact Kd.Q_nil _ _ _ _ _ | exact Kd.S_nil _ _ _ _ _, by repeat (first | (with_reducible first | exact HB.out | apply below_alloc | apply pw_below_drewN | apply below_drew1) | exact HB.out)⟩
            rw [if_pos c80] at H
            have c80b0 : ((bt x0_3 x5_4) == 46) = true := beq_iff_eq.mpr c80
            have c80b1 : ((bt x0_3 x5_4) != 46) = false := bne_eq_false_iff_eq.mpr c80
            clear c80
            by_cases c81 : (wrap64 (x5_4 + 1)) = (x0_3.size : Int)
            rotate_left
            ·rw [if_neg c81] at H
             have c81b0 : ((wrap64 (x5_4 + 1)) == (x0_3.size : Int)) = false := beq_eq_false_iff_ne.mpr c81
             have c81b1 : ((wrap64 (x5_4 + 1)) != (x0_3.size : Int)) = true := bne_iff_ne.mpr c81
             have H' := mk0 H
             clear H
             have p79 : 0 ≤ (x5_4 : Int) := of_decide_eq_true zq1
             have q79 : x5_4 < (x0_3.size : Int) := of_decide_eq_true zq1
             have hx79 := bt_at x0_3 x5_4
             replace p79 := eq_true p79
             replace q79 := eq_true q79
             go_wp2
             repeat (go_quiet (fail); try go_wp2)
             go_roundg kj61
             case measure => have := HJ3.out; have := HK2.out; have := HJ29.out; have := HK4.out; have := HJ61.out; omega
             case rel => exact ⟨(x4_4), (wrap64 (x5_4 + 1)), zq10, H', ⟨by have := HJ3.out; have := HK2.out; have := HJ29.out; have := HK4.out; have := HJ61.out; omega⟩, ⟨by (with_reducible repeat (first | apply Kd.R_alloc | apply Kd.R_drewN | apply Kd.R_drew)); exact HO_4.out⟩, ⟨by repeat (first | (with_reducible first | exact HB.out | apply below_alloc | apply pw_below_drewN | apply below_drew1) | exact HB.out)⟩⟩
            rw [if_pos c81] at H
            have c81b0 : ((wrap64 (x5_4 + 1)) == (x0_3.size : Int)) = true := beq_iff_eq.mpr c81
            have c81b1 : ((wrap64 (x5_4 + 1)) != (x0_3.size : Int)) = false := bne_eq_false_iff_eq.mpr c81
            clear c81
            simp only [Option.some.injEq, Prod.mk.injEq] at H
            obtain ⟨rfl, rfl⟩ := H
            have p79 : 0 ≤ (x5_4 : Int) := of_decide_eq_true zq1
            have q79 : x5_4 < (x0_3.size : Int) := of_decide_eq_true zq1
            have hx79 := bt_at x0_3 x5_4
            replace p79 := eq_true p79
            replace q79 := eq_true q79
            have hg82 : wc.cell? ⟨1, 0, none⟩ = some (.iface m_1.1 m_1.2) := zq12
            go_wp2
            repeat (go_quiet (fail); try go_wp2)
            go_ret2
            exact ⟨some m_1, Zk.ss, _, by first | rfl | (simp [errW_none, errW_some] <;> rfl) | (simp only [← hji22]; first | rfl | (simp [errW_none, errW_some] <;> rfl)) | (simp [*, errW_none, errW_some] <;> rfl), by first | exact Kd.R_nil _ _ _ _ _ | exact Kd.N_nil _ _ _ _ _ | exact Kd.V_nil _ _ _ _ _ | exact Kd.Q_nil _ _ _ _ _ | exact Kd.S_nil _ _ _ _ _, by repeat (first | (with_reducible first | exact HB.out | apply below_alloc | apply pw_below_drewN | apply below_drew1) | exact HB.out)⟩
           subst c66
           have H1 : ((jsonparser_parseBracketPathComponent.f kj61 x0_3 x5_4).bind fun bt121 => (if bt121.2.2.isNone = true then (if x4_4.length < 8796093022208 then (jsonparser_ParsePath.l2 kj61 x0_3 (x4_4 ++ [bt121.1]) bt121.2.1) else (none)) else (some (([] : List ByteArray), some (bt121.2.2.getD 0))))) = some (r1, r2) := by rw [if_pos rfl] at H; exact H
           clear H
           have H := H1
           clear H1
           replace H := Option.bind_eq_some_iff.mp H
           obtain ⟨⟨t121, t122, t123⟩, A670, H⟩ := H
           replace H : (if t123.isNone = true then (if x4_4.length < 8796093022208 then (jsonparser_ParsePath.l2 kj61 x0_3 (x4_4 ++ [t121]) t122) else (none)) else (some (([] : List ByteArray), some (t123.getD 0)))) = some (r1, r2) := H
           have A67 := mk0 A670
           clear A670
           rcases t123 with _ | q124
           rotate_left
           ·have H1 : (some (([] : List ByteArray), some q124)) = some (r1, r2) := by rw [if_neg (show ¬ (some q124).isNone = true by simp)] at H; exact H
            clear H
            have H := H1
            clear H1
            (try (obtain ⟨m_q124, rfl⟩ := Zk.some_ Hz_t123.out))
            try simp only [errW_none, errW_some]
            simp only [Option.some.injEq, Prod.mk.injEq] at H
            obtain ⟨rfl, rfl⟩ := H
            go_wp2_with (first | (go_at_call 44; (with_reducible refine (jsonparser_parseBracketPathComponent.calls kj61 x0_3 x5_4 t121 t122 (some q124) _ ?side1 A67.out).mono ?_); (case side1 => exact zq11); rintro e w71 ⟨zs2_, hzs2_, rfl, hb⟩; obtain ⟨m_q124, rfl⟩ := Zk.some_ hzs2_; have n0_ := mk0 (Kd.R_below zq4 hb); have n1_ := mk0 (below_step zq0 hb); clear HO_4 HB; have HO_4 := n0_; have HB := n1_; clear n0_ n1_; (try clear hb); (try clear hb2); (try clear hk); (try clear hi); (try simp only [errW_none, errW_some])))
            repeat (go_quiet (first | (go_at_call 44; (with_reducible refine (jsonparser_parseBracketPathComponent.calls kj61 x0_3 x5_4 t121 t122 (some q124) _ ?side1 A67.out).mono ?_); (case side1 => exact zq11); rintro e w71 ⟨zs2_, hzs2_, rfl, hb⟩; obtain ⟨m_q124, rfl⟩ := Zk.some_ hzs2_; have n0_ := mk0 (Kd.R_below zq4 hb); have n1_ := mk0 (below_step zq0 hb); clear HO_4 HB; have HO_4 := n0_; have HB := n1_; clear n0_ n1_; (try clear hb); (try clear hb2); (try clear hk); (try clear hi); (try simp only [errW_none, errW_some]))); try go_wp2_with (first | (go_at_call 44; (with_reducible refine (jsonparser_parseBracketPathComponent.calls kj61 x0_3 x5_4 t121 t122 (some q124) _ ?side1 A67.out).mono ?_); (case side1 => exact zq11); rintro e w71 ⟨zs2_, hzs2_, rfl, hb⟩; obtain ⟨m_q124, rfl⟩ := Zk.some_ hzs2_; have n0_ := mk0 (Kd.R_below zq4 hb); have n1_ := mk0 (below_step zq0 hb); clear HO_4 HB; have HO_4 := n0_; have HB := n1_; clear n0_ n1_; (try clear hb); (try clear hb2); (try clear hk); (try clear hi); (try simp only [errW_none, errW_some]))))
            go_ret2
            exact ⟨some m_q124, Zk.ss, _, by first | rfl | (simp [errW_none, errW_some] <;> rfl) | (simp only [← hji22]; first | rfl | (simp [errW_none, errW_some] <;> rfl)) | (simp [*, errW_none, errW_some] <;> rfl), by first | exact Kd.R_nil _ _ _ _ _ | exact Kd.N_nil _ _ _ _ _ | exact Kd.V_nil _ _ _ _ _ | exact Kd.Q_nil _ _ _ _ _ | exact Kd.S_nil _ _ _ _ _, by repeat (first | (with_reducible first | exact HB.out | apply below_alloc | apply pw_below_drewN | apply below_drew1) | exact HB.out)⟩
           have H1 : (if x4_4.length < 8796093022208 then (jsonparser_ParsePath.l2 kj61 x0_3 (x4_4 ++ [t121]) t122) else (none)) = some (r1, r2) := by rw [if_pos (show (none : Option Int).isNone = true by rfl)] at H; exact H
           clear H
           have H := H1
           clear H1
           (try (obtain rfl := Zk.none_ Hz_t123.out))
           try simp only [errW_none, errW_some]
           by_cases c68 : x4_4.length < 8796093022208
           rotate_left
           ·rw [if_neg c68] at H
            exact absurd H (by simp)
           rw [if_pos c68] at H
           have LMc68 := mk0 c68
           clear c68
           obtain ⟨y125, hy125⟩ : ∃ y_ : List ByteArray, y_ = (x4_4 ++ [t121]) := ⟨_, rfl⟩
           replace H : (jsonparser_ParsePath.l2 kj61 x0_3 y125 t122) = some (r1, r2) := by first | (rw [hy125]; with_reducible exact H) | (have H2_ := (Option.bind_some _ _).symm.trans H; rw [hy125]; with_reducible exact H2_) | (have H2_ := (Option.bind_some _ _).symm.trans H; with_reducible exact H2_) | with_reducible exact H | (rw [hy125]; exact H) | exact H
           have Ny125 := mk0 hy125
           clear hy125
           have H' := mk0 H
           clear H
           go_wp2_with (first | (go_at_call 44; (with_reducible refine (jsonparser_parseBracketPathComponent.calls kj61 x0_3 x5_4 t121 t122 none _ ?side1 A67.out).mono ?_); (case side1 => exact zq11); rintro e w69 ⟨zn2_, hzn2_, rfl, hb⟩; obtain rfl := Zk.none_ hzn2_; have n0_ := mk0 (Kd.R_below zq4 hb); have n1_ := mk0 (below_step zq0 hb); clear HO_4 HB; have HO_4 := n0_; have HB := n1_; clear n0_ n1_; (try clear hb); (try clear hb2); (try clear hk); (try clear hi); (try simp only [errW_none, errW_some])) | ((with_reducible refine gate_builtin (b := .append) (xs := #[.tmp 135, .tmp 137]) rfl ?_); at_builtin; refine Kd.R_append Kd.string (w0 := w) w.heap.size rfl (.tmp 135) (.tmp 137) 22 9 (.string ⟨#[]⟩) 16 rfl Tryd.underlying22 info9 rfl zq23 (by omega) u4 x4_4 t121 [.string t121] (fun _ => True) (fun _ => False) rfl rfl ?aP (fun _ hk => hk.elim) ?aF ?aO ?aB ?aS ?aL ?_; (case aP => exact rfl); (case aB => exact zq0); (case aF => exact (fun _ _ => trivial)); (case aO => exact zq4); (case aS => exact (below_size zq0)); (case aL => have := LMc68.out; omega); intro v126 w70 ho hb hg hat; rw [← Ny125.out] at ho; have n0_ := mk0 (hb); have n1_ := mk0 (ho); clear HB HO_4; have HB := n0_; have HO127 := n1_; clear n0_ n1_; clear ho hb hg hat))
           repeat (go_quiet (first | (go_at_call 44; (with_reducible refine (jsonparser_parseBracketPathComponent.calls kj61 x0_3 x5_4 t121 t122 none _ ?side1 A67.out).mono ?_); (case side1 => exact zq11); rintro e w69 ⟨zn2_, hzn2_, rfl, hb⟩; obtain rfl := Zk.none_ hzn2_; have n0_ := mk0 (Kd.R_below zq4 hb); have n1_ := mk0 (below_step zq0 hb); clear HO_4 HB; have HO_4 := n0_; have HB := n1_; clear n0_ n1_; (try clear hb); (try clear hb2); (try clear hk); (try clear hi); (try simp only [errW_none, errW_some])) | ((with_reducible refine gate_builtin (b := .append) (xs := #[.tmp 135, .tmp 137]) rfl ?_); at_builtin; refine Kd.R_append Kd.string (w0 := w) w.heap.size rfl (.tmp 135) (.tmp 137) 22 9 (.string ⟨#[]⟩) 16 rfl Tryd.underlying22 info9 rfl zq23 (by omega) u4 x4_4 t121 [.string t121] (fun _ => True) (fun _ => False) rfl rfl ?aP (fun _ hk => hk.elim) ?aF ?aO ?aB ?aS ?aL ?_; (case aP => exact rfl); (case aB => exact zq0); (case aF => exact (fun _ _ => trivial)); (case aO => exact zq4); (case aS => exact (below_size zq0)); (case aL => have := LMc68.out; omega); intro v126 w70 ho hb hg hat; rw [← Ny125.out] at ho; have n0_ := mk0 (hb); have n1_ := mk0 (ho); clear HB HO_4; have HB := n0_; have HO127 := n1_; clear n0_ n1_; clear ho hb hg hat)); try go_wp2_with (first | (go_at_call 44; (with_reducible refine (jsonparser_parseBracketPathComponent.calls kj61 x0_3 x5_4 t121 t122 none _ ?side1 A67.out).mono ?_); (case side1 => exact zq11); rintro e w69 ⟨zn2_, hzn2_, rfl, hb⟩; obtain rfl := Zk.none_ hzn2_; have n0_ := mk0 (Kd.R_below zq4 hb); have n1_ := mk0 (below_step zq0 hb); clear HO_4 HB; have HO_4 := n0_; have HB := n1_; clear n0_ n1_; (try clear hb); (try clear hb2); (try clear hk); (try clear hi); (try simp only [errW_none, errW_some])) | ((with_reducible refine gate_builtin (b := .append) (xs := #[.tmp 135, .tmp 137]) rfl ?_); at_builtin; refine Kd.R_append Kd.string (w0 := w) w.heap.size rfl (.tmp 135) (.tmp 137) 22 9 (.string ⟨#[]⟩) 16 rfl Tryd.underlying22 info9 rfl zq23 (by omega) u4 x4_4 t121 [.string t121] (fun _ => True) (fun _ => False) rfl rfl ?aP (fun _ hk => hk.elim) ?aF ?aO ?aB ?aS ?aL ?_; (case aP => exact rfl); (case aB => exact zq0); (case aF => exact (fun _ _ => trivial)); (case aO => exact zq4); (case aS => exact (below_size zq0)); (case aL => have := LMc68.out; omega); intro v126 w70 ho hb hg hat; rw [← Ny125.out] at ho; have n0_ := mk0 (hb); have n1_ := mk0 (ho); clear HB HO_4; have HB := n0_; have HO127 := n1_; clear n0_ n1_; clear ho hb hg hat)))
           go_roundg kj61
           case measure => have := HJ3.out; have := HK2.out; have := HJ29.out; have := HK4.out; have := HJ61.out; omega
           case rel => exact ⟨(y125), (t122), zq10, H', ⟨by have := HJ3.out; have := HK2.out; have := HJ29.out; have := HK4.out; have := HJ61.out; omega⟩, ⟨by (with_reducible repeat (first | apply Kd.R_alloc | apply Kd.R_drewN | apply Kd.R_drew)); exact HO127.out⟩, ⟨by repeat (first | (with_reducible first | exact HB.out | apply below_alloc | apply pw_below_drewN | apply below_drew1) | exact HB.out)⟩⟩
def impl_JqParsePath.f (k : Nat) (a0 : ByteArray) : Option (List ByteArray × Bool) := (jsonparser_ParsePath.f k a0).bind fun bt101 => (if bt101.2.isNone = true then (some (bt101.1, true)) else (some (bt101.1, false)))
theorem impl_JqParsePath.mono : ∀ a0 k, LeO (impl_JqParsePath.f k a0) (impl_JqParsePath.f (k + 1) a0) := by
 intro a0 k
 unfold impl_JqParsePath.f
 repeat' first
  | (with_reducible exact jsonparser_ParsePath.mono _ _)
  | (with_reducible exact LeO.refl _)
  | (with_reducible exact LeO.none _)
  | (with_reducible refine LeO.ite ?_ ?_)
  | (with_reducible refine LeO.bind ?_ (fun _ => ?_))
  | exact jsonparser_ParsePath.mono _ _
  | exact LeO.none _
  | refine LeO.ite ?_ ?_
  | refine LeO.bind ?_ (fun _ => ?_)
set_option maxHeartbeats 8000000 in
set_option maxRecDepth 100000 in
theorem impl_JqParsePath.calls (k : Nat) (a0 : ByteArray) (r1 : List ByteArray) (r2 : Bool) (w : World) (hG : Laid w) (h : impl_JqParsePath.f k a0 = some (r1, r2)) :
 Calls Tryd.prog 9 #[.string a0] w fun e w' => ∃ v0_ : Value, e = .returned (.tuple #[v0_, .bool r2]) ∧ Kd.R Kd.string 9 w' w.heap.size (fun _ => True) v0_ r1 ∧ Below w.heap.size w w' := by
 have HG := mk0 hG
 clear hG
 have hu56 := Tryd.underlying56
 have HB := mk0 (Below.refl w.heap.size w)
 have H : ((jsonparser_ParsePath.f k a0).bind fun bt101 => (if bt101.2.isNone = true then (some (bt101.1, true)) else (some (bt101.1, false)))) = some (r1, r2) := h
 clear h
 replace H := Option.bind_eq_some_iff.mp H
 obtain ⟨⟨t101, t102⟩, A20, H⟩ := H
 replace H : (if t102.isNone = true then (some (t101, true)) else (some (t101, false))) = some (r1, r2) := H
 have A2 := mk0 A20
 clear A20
 rcases t102 with _ | q105
 ·have H1 : (some (t101, true)) = some (r1, r2) := by rw [if_pos (show (none : Option Int).isNone = true by rfl)] at H; exact H
  clear H
  have H := H1
  clear H1
  (try (obtain rfl := Zk.none_ Hz_t102.out))
  try simp only [errW_none, errW_some]
  simp only [Option.some.injEq, Prod.mk.injEq] at H
  obtain ⟨rfl, rfl⟩ := H
  go_enter Tryd.func9, Tryd.ntmps9
  go_wp2_with (first | (go_at_call 23; (with_reducible refine (jsonparser_ParsePath.calls k a0 t101 none _ ?side1 A2.out).mono ?_); (case side1 => exact zq11); rintro e w3 ⟨zn1_, hzn1_, v103, rfl, ho0, hb⟩; obtain rfl := Zk.none_ hzn1_; have n0_ := mk0 (Kd.R_lower ho0 (below_size zq0)); have n1_ := mk0 (below_step zq0 hb); clear HB; have HO104 := n0_; have HB := n1_; clear n0_ n1_; (try clear hb); (try clear hb2); (try clear hk); (try clear hi); (try clear ho0); (try simp only [errW_none, errW_some])))
  repeat (go_quiet (first | (go_at_call 23; (with_reducible refine (jsonparser_ParsePath.calls k a0 t101 none _ ?side1 A2.out).mono ?_); (case side1 => exact zq11); rintro e w3 ⟨zn1_, hzn1_, v103, rfl, ho0, hb⟩; obtain rfl := Zk.none_ hzn1_; have n0_ := mk0 (Kd.R_lower ho0 (below_size zq0)); have n1_ := mk0 (below_step zq0 hb); clear HB; have HO104 := n0_; have HB := n1_; clear n0_ n1_; (try clear hb); (try clear hb2); (try clear hk); (try clear hi); (try clear ho0); (try simp only [errW_none, errW_some]))); try go_wp2_with (first | (go_at_call 23; (with_reducible refine (jsonparser_ParsePath.calls k a0 t101 none _ ?side1 A2.out).mono ?_); (case side1 => exact zq11); rintro e w3 ⟨zn1_, hzn1_, v103, rfl, ho0, hb⟩; obtain rfl := Zk.none_ hzn1_; have n0_ := mk0 (Kd.R_lower ho0 (below_size zq0)); have n1_ := mk0 (below_step zq0 hb); clear HB; have HO104 := n0_; have HB := n1_; clear n0_ n1_; (try clear hb); (try clear hb2); (try clear hk); (try clear hi); (try clear ho0); (try simp only [errW_none, errW_some]))))
  go_ret2
  exact ⟨_, by first | rfl | (simp [errW_none, errW_some] <;> rfl) | (simp [*, errW_none, errW_some] <;> rfl), by (with_reducible repeat (first | apply Kd.R_alloc | apply Kd.R_drewN | apply Kd.R_drew)); exact HO104.out, by repeat (first | (with_reducible first | exact HB.out | apply below_alloc | apply pw_below_drewN | apply below_drew1) | exact HB.out)⟩
 have H1 : (some (t101, false)) = some (r1, r2) := by rw [if_neg (show ¬ (some q105).isNone = true by simp)] at H; exact H
 clear H
 have H := H1
 clear H1
 (try (obtain ⟨m_q105, rfl⟩ := Zk.some_ Hz_t102.out))
 try simp only [errW_none, errW_some]
 simp only [Option.some.injEq, Prod.mk.injEq] at H
 obtain ⟨rfl, rfl⟩ := H
 go_enter Tryd.func9, Tryd.ntmps9
 go_wp2_with (first | (go_at_call 23; (with_reducible refine (jsonparser_ParsePath.calls k a0 t101 (some q105) _ ?side1 A2.out).mono ?_); (case side1 => exact zq11); rintro e w4 ⟨zs1_, hzs1_, v103, rfl, ho0, hb⟩; obtain ⟨m_q105, rfl⟩ := Zk.some_ hzs1_; have n0_ := mk0 (Kd.R_lower ho0 (below_size zq0)); have n1_ := mk0 (below_step zq0 hb); clear HB; have HO104 := n0_; have HB := n1_; clear n0_ n1_; (try clear hb); (try clear hb2); (try clear hk); (try clear hi); (try clear ho0); (try simp only [errW_none, errW_some])))
 repeat (go_quiet (first | (go_at_call 23; (with_reducible refine (jsonparser_ParsePath.calls k a0 t101 (some q105) _ ?side1 A2.out).mono ?_); (case side1 => exact zq11); rintro e w4 ⟨zs1_, hzs1_, v103, rfl, ho0, hb⟩; obtain ⟨m_q105, rfl⟩ := Zk.some_ hzs1_; have n0_ := mk0 (Kd.R_lower ho0 (below_size zq0)); have n1_ := mk0 (below_step zq0 hb); clear HB; have HO104 := n0_; have HB := n1_; clear n0_ n1_; (try clear hb); (try clear hb2); (try clear hk); (try clear hi); (try clear ho0); (try simp only [errW_none, errW_some]))); try go_wp2_with (first | (go_at_call 23; (with_reducible refine (jsonparser_ParsePath.calls k a0 t101 (some q105) _ ?side1 A2.out).mono ?_); (case side1 => exact zq11); rintro e w4 ⟨zs1_, hzs1_, v103, rfl, ho0, hb⟩; obtain ⟨m_q105, rfl⟩ := Zk.some_ hzs1_; have n0_ := mk0 (Kd.R_lower ho0 (below_size zq0)); have n1_ := mk0 (below_step zq0 hb); clear HB; have HO104 := n0_; have HB := n1_; clear n0_ n1_; (try clear hb); (try clear hb2); (try clear hk); (try clear hi); (try clear ho0); (try simp only [errW_none, errW_some]))))
 go_ret2
 exact ⟨_, by first | rfl | (simp [errW_none, errW_some] <;> rfl) | (simp [*, errW_none, errW_some] <;> rfl), by (with_reducible repeat (first | apply Kd.R_alloc | apply Kd.R_drewN | apply Kd.R_drew)); exact HO104.out, by repeat (first | (with_reducible first | exact HB.out | apply below_alloc | apply pw_below_drewN | apply below_drew1) | exact HB.out)⟩
def laws_sameStrings.l0 : Nat → List ByteArray → List ByteArray → Int → Option (Bool)
  | 0, _, _, _ => none
  | k + 1, x0, x1, x5 => if x5 < (x0.length : Int) then (if 0 ≤ x5 then (if x5 < (x1.length : Int) then (if (rdOf ByteArray.empty x0 x5).toList = (rdOf ByteArray.empty x1 x5).toList then (laws_sameStrings.l0 k x0 x1 (wrap64 (x5 + 1))) else (some false)) else (none)) else (none)) else (some true)
def laws_sameStrings.f (k : Nat) (l0 : List ByteArray) (l1 : List ByteArray) : Option (Bool) := if (l0.length : Int) = (l1.length : Int) then (laws_sameStrings.l0 k l0 l1 0) else (some false)
theorem laws_sameStrings.mono_l : ∀ k, (∀ y0 y1 y2, LeO (laws_sameStrings.l0 k y0 y1 y2) (laws_sameStrings.l0 (k + 1) y0 y1 y2))
 | 0 => fun _ _ _ r h => by simp [laws_sameStrings.l0] at h
 | k + 1 => by
  have ih0 := laws_sameStrings.mono_l k
  ·intro y0 y1 y2
   unfold laws_sameStrings.l0
   repeat' first
   | (with_reducible exact ih0 _ _ _)
   | (with_reducible exact LeO.refl _)
   | (with_reducible exact LeO.none _)
   | (with_reducible refine LeO.ite ?_ ?_)
   | (with_reducible refine LeO.bind ?_ (fun _ => ?_))
   | exact ih0 _ _ _
   | exact LeO.none _
   | refine LeO.ite ?_ ?_
   | refine LeO.bind ?_ (fun _ => ?_)
theorem laws_sameStrings.mono : ∀ a0 a1 k, LeO (laws_sameStrings.f k a0 a1) (laws_sameStrings.f (k + 1) a0 a1) := by
 intro a0 a1 k
 have ih0 := laws_sameStrings.mono_l k
 unfold laws_sameStrings.f
 repeat' first
  | (with_reducible exact ih0 _ _ _)
  | (with_reducible exact LeO.refl _)
  | (with_reducible exact LeO.none _)
  | (with_reducible refine LeO.ite ?_ ?_)
  | (with_reducible refine LeO.bind ?_ (fun _ => ?_))
  | exact ih0 _ _ _
  | exact LeO.none _
  | refine LeO.ite ?_ ?_
  | refine LeO.bind ?_ (fun _ => ?_)
set_option maxHeartbeats 8000000 in
set_option maxRecDepth 100000 in
theorem laws_sameStrings.calls (k : Nat) (A0 : Option Addr) (c0 : Nat) (l0 : List ByteArray) (A1 : Option Addr) (c1 : Nat) (l1 : List ByteArray) (r : Bool) (w : World) (hr0 : Kd.C Kd.string w A0 l0.length l0) (hc0 : l0.length ≤ c0) (hr1 : Kd.C Kd.string w A1 l1.length l1) (hc1 : l1.length ≤ c1) (h : laws_sameStrings.f k l0 l1 = some r) :
 Calls Tryd.prog 10 #[.slice A0 l0.length c0, .slice A1 l1.length c1] w fun e w' => e = .returned (.bool r) ∧ Drawn0 w w' := by
 have HR0 := mk0 hr0
 have HC0 := mk0 hc0
 clear hr0 hc0
 have HR1 := mk0 hr1
 have HC1 := mk0 hc1
 clear hr1 hc1
 have H : (if (l0.length : Int) = (l1.length : Int) then (laws_sameStrings.l0 k l0 l1 0) else (some false)) = some r := h
 clear h
 by_cases c3 : (l0.length : Int) = (l1.length : Int)
 rotate_left
 ·rw [if_neg c3] at H
  have c3b0 : ((l0.length : Int) == (l1.length : Int)) = false := beq_eq_false_iff_ne.mpr c3
  have c3b1 : ((l0.length : Int) != (l1.length : Int)) = true := bne_iff_ne.mpr c3
  have c3b2 : (l0.length == l1.length) = false := by first | simpa using c3 | (simp at c3 ⊢; omega)
  obtain rfl := Option.some.inj H
  go_enter Tryd.func10, Tryd.ntmps10
  go_wp2
  repeat (go_quiet (fail); try go_wp2)
  go_ret
  exact ⟨by first | rfl | (simp; done) | (simp [*]; done), by repeat (first | exact Drawn0.refl _ | apply Drawn0.step)⟩
 rw [if_pos c3] at H
 have c3b0 : ((l0.length : Int) == (l1.length : Int)) = true := beq_iff_eq.mpr c3
 have c3b1 : ((l0.length : Int) != (l1.length : Int)) = false := bne_eq_false_iff_eq.mpr c3
 have c3b2 : (l0.length == l1.length) = true := by first | simpa using c3 | (simp at c3 ⊢; omega)
 clear c3
 have H' := mk0 H
 clear H
 go_enter Tryd.func10, Tryd.ntmps10
 go_wp2
 repeat (go_quiet (fail); try go_wp2)
 go_loopg [5] k (fun kq v5 w' => ∃ (x5_1 : Int), v5 = .int .i64 x5_1 ∧ Aside0 (laws_sameStrings.l0 kq l0 l1 x5_1 = some r) ∧ Aside0 (kq ≤ k) ∧ Drawn0 w w')
 case atStart => exact ⟨(0), zq3, H', ⟨Nat.le_refl _⟩, by repeat (first | exact Drawn0.refl _ | apply Drawn0.step)⟩
 case round =>
  clear H'
  try clear c1
  try clear p2
  try clear c3
  try clear c3b0
  try clear c3b1
  try clear c3b2
  obtain ⟨x5_1, rfl, HA, HK1, ⟨m1, rfl⟩⟩ := hrel
  cases gk with
  | zero => exact absurd HA.out (by simp [laws_sameStrings.l0])
  | succ k1 =>
   have H := HA.out
   clear HA
   simp only [laws_sameStrings.l0] at H
   by_cases c4 : x5_1 < (l0.length : Int)
   rotate_left
   ·rw [if_neg c4] at H
    have c4b0 : decide (x5_1 < (l0.length : Int)) = false := decide_eq_false c4
    clear c4
    obtain rfl := Option.some.inj H
    go_wp2
    repeat (go_quiet (fail); try go_wp2)
    go_ret
    exact ⟨by first | rfl | (simp; done) | (simp [*]; done), by repeat (first | exact Drawn0.refl _ | apply Drawn0.step)⟩
   rw [if_pos c4] at H
   have c4b0 : decide (x5_1 < (l0.length : Int)) = true := decide_eq_true c4
   clear c4
   by_cases c5 : 0 ≤ x5_1
   rotate_left
   ·rw [if_neg c5] at H
    exact absurd H (by simp)
   rw [if_pos c5] at H
   have c5b0 : decide (0 ≤ x5_1) = true := decide_eq_true c5
   clear c5
   by_cases c6 : x5_1 < (l1.length : Int)
   rotate_left
   ·rw [if_neg c6] at H
    exact absurd H (by simp)
   rw [if_pos c6] at H
   have c6b0 : decide (x5_1 < (l1.length : Int)) = true := decide_eq_true c6
   clear c6
   by_cases c7 : (rdOf ByteArray.empty l0 x5_1).toList = (rdOf ByteArray.empty l1 x5_1).toList
   rotate_left
   ·rw [if_neg c7] at H
    have c7b0 : ((rdOf ByteArray.empty l0 x5_1).toList == (rdOf ByteArray.empty l1 x5_1).toList) = false := beq_eq_false_iff_ne.mpr c7
    have c7b1 : ((rdOf ByteArray.empty l0 x5_1).toList != (rdOf ByteArray.empty l1 x5_1).toList) = true := bne_iff_ne.mpr c7
    obtain rfl := Option.some.inj H
    have p101 : 0 ≤ (x5_1 : Int) := of_decide_eq_true zq1
    have q101 : x5_1 < (l0.length : Int) := of_decide_eq_true zq1
    obtain ⟨ad101, e101, hx101_0⟩ := Kd.at_string HR0.out x5_1 p101 q101
    cases e101
    replace p101 := eq_true p101
    replace q101 := eq_true q101
    have p102 : 0 ≤ (x5_1 : Int) := of_decide_eq_true zq1
    have q102 : x5_1 < (l1.length : Int) := of_decide_eq_true zq1
    obtain ⟨ad102, e102, hx102_0⟩ := Kd.at_string HR1.out x5_1 p102 q102
    cases e102
    replace p102 := eq_true p102
    replace q102 := eq_true q102
    go_wp2
    repeat (go_quiet (fail); try go_wp2)
    go_ret
    exact ⟨by first | rfl | (simp; done) | (simp [*]; done), by repeat (first | exact Drawn0.refl _ | apply Drawn0.step)⟩
   rw [if_pos c7] at H
   have c7b0 : ((rdOf ByteArray.empty l0 x5_1).toList == (rdOf ByteArray.empty l1 x5_1).toList) = true := beq_iff_eq.mpr c7
   have c7b1 : ((rdOf ByteArray.empty l0 x5_1).toList != (rdOf ByteArray.empty l1 x5_1).toList) = false := bne_eq_false_iff_eq.mpr c7
   clear c7
   have H' := mk0 H
   clear H
   have p101 : 0 ≤ (x5_1 : Int) := of_decide_eq_true zq1
   have q101 : x5_1 < (l0.length : Int) := of_decide_eq_true zq1
   obtain ⟨ad101, e101, hx101_0⟩ := Kd.at_string HR0.out x5_1 p101 q101
   cases e101
   replace p101 := eq_true p101
   replace q101 := eq_true q101
   have p102 : 0 ≤ (x5_1 : Int) := of_decide_eq_true zq1
   have q102 : x5_1 < (l1.length : Int) := of_decide_eq_true zq1
   obtain ⟨ad102, e102, hx102_0⟩ := Kd.at_string HR1.out x5_1 p102 q102
   cases e102
   replace p102 := eq_true p102
   replace q102 := eq_true q102
   go_wp2
   repeat (go_quiet (fail); try go_wp2)
   go_roundg k1
   case measure => have := HK1.out; omega
   case rel => exact ⟨(wrap64 (x5_1 + 1)), zq3, H', ⟨by have := HK1.out; omega⟩, by repeat (first | exact Drawn0.refl _ | apply Drawn0.step)⟩
def laws_FnJqParsePath.f (k : Nat) (a0 : ByteArray) : Option (Bool) := if (a0.size : Int) > 2147483647 then (some true) else (if (a0.size : Int) > 1000 then (some true) else ((spec_PathParts.f k a0).bind fun bt101 => ((impl_JqParsePath.f k a0).bind fun bt105 => ((impl_JqParsePath.f k (⟨#[97]⟩ : ByteArray)).bind fun bt109 => (if bt109.2 = true then (if (bt105.2 == bt101.2) = true then (if bt101.2 = true then ((laws_sameStrings.f k bt105.1 bt101.1).bind fun t113 => (some t113)) else (some true)) else (some false)) else (some false))))))
theorem laws_FnJqParsePath.mono : ∀ a0 k, LeO (laws_FnJqParsePath.f k a0) (laws_FnJqParsePath.f (k + 1) a0) := by
 intro a0 k
 unfold laws_FnJqParsePath.f
 repeat' first
  | (with_reducible exact impl_JqParsePath.mono _ _)
  | (with_reducible exact laws_sameStrings.mono _ _ _)
  | (with_reducible exact spec_PathParts.mono _ _)
  | (with_reducible exact LeO.refl _)
  | (with_reducible exact LeO.none _)
  | (with_reducible refine LeO.ite ?_ ?_)
  | (with_reducible refine LeO.bind ?_ (fun _ => ?_))
  | exact impl_JqParsePath.mono _ _
  | exact laws_sameStrings.mono _ _ _
  | exact spec_PathParts.mono _ _
  | exact LeO.none _
  | refine LeO.ite ?_ ?_
  | refine LeO.bind ?_ (fun _ => ?_)
set_option maxHeartbeats 8000000 in
set_option maxRecDepth 100000 in
theorem laws_FnJqParsePath.calls (k : Nat) (a0 : ByteArray) (r : Bool) (w : World) (hG : Laid w) (h : laws_FnJqParsePath.f k a0 = some r) :
 Calls Tryd.prog 3 #[.string a0] w fun e w' => e = .returned (.bool r) ∧ Below w.heap.size w w' := by
 have HG := mk0 hG
 clear hG
 have HB := mk0 (Below.refl w.heap.size w)
 have H : (if (a0.size : Int) > 2147483647 then (some true) else (if (a0.size : Int) > 1000 then (some true) else ((spec_PathParts.f k a0).bind fun bt101 => ((impl_JqParsePath.f k a0).bind fun bt105 => ((impl_JqParsePath.f k (⟨#[97]⟩ : ByteArray)).bind fun bt109 => (if bt109.2 = true then (if (bt105.2 == bt101.2) = true then (if bt101.2 = true then ((laws_sameStrings.f k bt105.1 bt101.1).bind fun t113 => (some t113)) else (some true)) else (some false)) else (some false))))))) = some r := h
 clear h
 by_cases c2 : (a0.size : Int) > 2147483647
 ·rw [if_pos c2] at H
  have c2b0 : decide (2147483647 < (a0.size : Int)) = true := decide_eq_true c2
  have c2b1 : decide (2147483647 < a0.size) = true := decide_eq_true (by omega)
  clear c2
  obtain rfl := Option.some.inj H
  go_enter Tryd.func3, Tryd.ntmps3
  go_wp2
  go_ret
  exact ⟨by first | rfl | (simp [errW_none, errW_some] <;> rfl) | (simp [*, errW_none, errW_some] <;> rfl), by repeat (first | (with_reducible first | exact HB.out | apply below_alloc | apply pw_below_drewN | apply below_drew1) | exact HB.out)⟩
 rw [if_neg c2] at H
 have c2b0 : decide (2147483647 < (a0.size : Int)) = false := decide_eq_false c2
 have c2b1 : decide (2147483647 < a0.size) = false := decide_eq_false (by omega)
 clear c2
 by_cases c3 : (a0.size : Int) > 1000
 ·rw [if_pos c3] at H
  have c3b0 : decide (1000 < (a0.size : Int)) = true := decide_eq_true c3
  have c3b1 : decide (1000 < a0.size) = true := decide_eq_true (by omega)
  clear c3
  obtain rfl := Option.some.inj H
  go_enter Tryd.func3, Tryd.ntmps3
  go_wp2
  go_ret
  exact ⟨by first | rfl | (simp [errW_none, errW_some] <;> rfl) | (simp [*, errW_none, errW_some] <;> rfl), by repeat (first | (with_reducible first | exact HB.out | apply below_alloc | apply pw_below_drewN | apply below_drew1) | exact HB.out)⟩
 rw [if_neg c3] at H
 have c3b0 : decide (1000 < (a0.size : Int)) = false := decide_eq_false c3
 have c3b1 : decide (1000 < a0.size) = false := decide_eq_false (by omega)
 clear c3
 replace H := Option.bind_eq_some_iff.mp H
 obtain ⟨⟨t101, t102⟩, A40, H⟩ := H
 replace H : ((impl_JqParsePath.f k a0).bind fun bt105 => ((impl_JqParsePath.f k (⟨#[97]⟩ : ByteArray)).bind fun bt109 => (if bt109.2 = true then (if (bt105.2 == t102) = true then (if t102 = true then ((laws_sameStrings.f k bt105.1 t101).bind fun t113 => (some t113)) else (some true)) else (some false)) else (some false)))) = some r := H
 have A4 := mk0 A40
 clear A40
 replace H := Option.bind_eq_some_iff.mp H
 obtain ⟨⟨t105, t106⟩, A50, H⟩ := H
 replace H : ((impl_JqParsePath.f k (⟨#[97]⟩ : ByteArray)).bind fun bt109 => (if bt109.2 = true then (if (t106 == t102) = true then (if t102 = true then ((laws_sameStrings.f k t105 t101).bind fun t113 => (some t113)) else (some true)) else (some false)) else (some false))) = some r := H
 have A5 := mk0 A50
 clear A50
 replace H := Option.bind_eq_some_iff.mp H
 obtain ⟨⟨t109, t110⟩, A60, H⟩ := H
 replace H : (if t110 = true then (if (t106 == t102) = true then (if t102 = true then ((laws_sameStrings.f k t105 t101).bind fun t113 => (some t113)) else (some true)) else (some false)) else (some false)) = some r := H
 have A6 := mk0 A60
 clear A60
 by_cases c7 : t110 = true
 rotate_left
 ·replace c7 := Bool.eq_false_iff.mpr c7
  subst c7
  have H1 : (some false) = some r := by rw [if_neg (show ¬ (false = true) by decide)] at H; exact H
  clear H
  have H := H1
  clear H1
  obtain rfl := Option.some.inj H
  go_enter Tryd.func3, Tryd.ntmps3
  go_wp2_with (first | ((with_reducible refine gate_callee (f := 8) rfl ?_); refine goesL_ (some 17) rfl rfl Tryd.func8 zq16 rfl #[.string a0] rfl zq2 ?_; (with_reducible refine (spec_PathParts.calls k a0 t101 t102 _ A4.out).mono ?_); rintro e w22 ⟨v103, rfl, ho0, hb⟩; refine ⟨_, rfl, ?_⟩; have n0_ := mk0 (Kd.R_lower ho0 (below_size zq0)); have n1_ := mk0 (below_step zq0 hb); clear HB; have HO104 := n0_; have HB := n1_; clear n0_ n1_; (try clear hb); (try clear hb2); (try clear hk); (try clear hi); (try clear ho0)) | ((with_reducible refine gate_callee (f := 9) rfl ?_); refine goesL_ (some 22) rfl rfl Tryd.func9 zq16 rfl #[.string a0] rfl zq2 ?_; (with_reducible refine (impl_JqParsePath.calls k a0 t105 t106 _ ?side1 A5.out).mono ?_); (case side1 => exact zq11); rintro e w23 ⟨v107, rfl, ho0, hb⟩; refine ⟨_, rfl, ?_⟩; have n0_ := mk0 (Kd.R_elder' zq7 (Kd.R_base ho0) hb); have n1_ := mk0 (Kd.R_lower (Kd.R_new' ho0 (Kd.R_lt zq7)) (below_size zq0)); have n2_ := mk0 (below_step zq0 hb); clear HO104 HB; have HO104 := n0_; have HO108 := n1_; have HB := n2_; clear n0_ n1_ n2_; (try clear hb); (try clear hb2); (try clear hk); (try clear hi); (try clear ho0)) | ((with_reducible refine gate_callee (f := 9) rfl ?_); refine goesL_ (some 26) rfl rfl Tryd.func9 zq16 rfl #[.string (⟨#[97]⟩ : ByteArray)] rfl zq2 ?_; (with_reducible refine (impl_JqParsePath.calls k (⟨#[97]⟩ : ByteArray) t109 false _ ?side1 A6.out).mono ?_); (case side1 => exact zq11); rintro e w24 ⟨v111, rfl, ho0, hb⟩; refine ⟨_, rfl, ?_⟩; have n0_ := mk0 (Kd.R_elder' zq7 (Kd.R_base ho0) hb); have n1_ := mk0 (Kd.R_elder' zq14 (Kd.R_base ho0) hb); have n2_ := mk0 (Kd.R_lower (Kd.R_new' (Kd.R_new' ho0 (Kd.R_lt zq7)) (Kd.R_lt zq14)) (below_size zq0)); have n3_ := mk0 (below_step zq0 hb); clear HO104 HO108 HB; have HO104 := n0_; have HO108 := n1_; have HO112 := n2_; have HB := n3_; clear n0_ n1_ n2_ n3_; (try clear hb); (try clear hb2); (try clear hk); (try clear hi); (try clear ho0)))
  go_ret
  exact ⟨by first | rfl | (simp [errW_none, errW_some] <;> rfl) | (simp [*, errW_none, errW_some] <;> rfl), by repeat (first | (with_reducible first | exact HB.out | apply below_alloc | apply pw_below_drewN | apply below_drew1) | exact HB.out)⟩
 subst c7
 have H1 : (if (t106 == t102) = true then (if t102 = true then ((laws_sameStrings.f k t105 t101).bind fun t113 => (some t113)) else (some true)) else (some false)) = some r := by rw [if_pos rfl] at H; exact H
 clear H
 have H := H1
 clear H1
 by_cases c8 : (t106 == t102) = true
 rotate_left
 ·rw [if_neg c8] at H
  have c8b0 : (t106 == t102) = false := by simpa using c8
  (try (have c8b1 : decide (t106 = t102) = false := by simpa using c8))
  (try (have c8b2 : (t106 == t102) = false := by simpa using c8))
  (try (have c8b3 : ¬ (t106 = t102) := by simpa using c8))
  clear c8
  obtain rfl := Option.some.inj H
  go_enter Tryd.func3, Tryd.ntmps3
  go_wp2_with (first | ((with_reducible refine gate_callee (f := 8) rfl ?_); refine goesL_ (some 17) rfl rfl Tryd.func8 zq16 rfl #[.string a0] rfl zq2 ?_; (with_reducible refine (spec_PathParts.calls k a0 t101 t102 _ A4.out).mono ?_); rintro e w19 ⟨v103, rfl, ho0, hb⟩; refine ⟨_, rfl, ?_⟩; have n0_ := mk0 (Kd.R_lower ho0 (below_size zq0)); have n1_ := mk0 (below_step zq0 hb); clear HB; have HO104 := n0_; have HB := n1_; clear n0_ n1_; (try clear hb); (try clear hb2); (try clear hk); (try clear hi); (try clear ho0)) | ((with_reducible refine gate_callee (f := 9) rfl ?_); refine goesL_ (some 22) rfl rfl Tryd.func9 zq16 rfl #[.string a0] rfl zq2 ?_; (with_reducible refine (impl_JqParsePath.calls k a0 t105 t106 _ ?side1 A5.out).mono ?_); (case side1 => exact zq11); rintro e w20 ⟨v107, rfl, ho0, hb⟩; refine ⟨_, rfl, ?_⟩; have n0_ := mk0 (Kd.R_elder' zq7 (Kd.R_base ho0) hb); have n1_ := mk0 (Kd.R_lower (Kd.R_new' ho0 (Kd.R_lt zq7)) (below_size zq0)); have n2_ := mk0 (below_step zq0 hb); clear HO104 HB; have HO104 := n0_; have HO108 := n1_; have HB := n2_; clear n0_ n1_ n2_; (try clear hb); (try clear hb2); (try clear hk); (try clear hi); (try clear ho0)) | ((with_reducible refine gate_callee (f := 9) rfl ?_); refine goesL_ (some 26) rfl rfl Tryd.func9 zq16 rfl #[.string (⟨#[97]⟩ : ByteArray)] rfl zq2 ?_; (with_reducible refine (impl_JqParsePath.calls k (⟨#[97]⟩ : ByteArray) t109 true _ ?side1 A6.out).mono ?_); (case side1 => exact zq11); rintro e w21 ⟨v111, rfl, ho0, hb⟩; refine ⟨_, rfl, ?_⟩; have n0_ := mk0 (Kd.R_elder' zq7 (Kd.R_base ho0) hb); have n1_ := mk0 (Kd.R_elder' zq14 (Kd.R_base ho0) hb); have n2_ := mk0 (Kd.R_lower (Kd.R_new' (Kd.R_new' ho0 (Kd.R_lt zq7)) (Kd.R_lt zq14)) (below_size zq0)); have n3_ := mk0 (below_step zq0 hb); clear HO104 HO108 HB; have HO104 := n0_; have HO108 := n1_; have HO112 := n2_; have HB := n3_; clear n0_ n1_ n2_ n3_; (try clear hb); (try clear hb2); (try clear hk); (try clear hi); (try clear ho0)))
  go_ret
  exact ⟨by first | rfl | (simp [errW_none, errW_some] <;> rfl) | (simp [*, errW_none, errW_some] <;> rfl), by repeat (first | (with_reducible first | exact HB.out | apply below_alloc | apply pw_below_drewN | apply below_drew1) | exact HB.out)⟩
 rw [if_pos c8] at H
 have c8b0 : (t106 == t102) = true := c8
 (try (have c8b1 : decide (t106 = t102) = true := by simpa using c8))
 (try (have c8b2 : (t106 == t102) = true := by simpa using c8))
 clear c8
 by_cases c9 : t102 = true
 rotate_left
 ·replace c9 := Bool.eq_false_iff.mpr c9
  subst c9
  have H1 : (some true) = some r := by rw [if_neg (show ¬ (false = true) by decide)] at H; exact H
  clear H
  have H := H1
  clear H1
  obtain rfl := Option.some.inj H
  go_enter Tryd.func3, Tryd.ntmps3
  go_wp2_with (first | ((with_reducible refine gate_callee (f := 8) rfl ?_); refine goesL_ (some 17) rfl rfl Tryd.func8 zq16 rfl #[.string a0] rfl zq2 ?_; (with_reducible refine (spec_PathParts.calls k a0 t101 false _ A4.out).mono ?_); rintro e w16 ⟨v103, rfl, ho0, hb⟩; refine ⟨_, rfl, ?_⟩; have n0_ := mk0 (Kd.R_lower ho0 (below_size zq0)); have n1_ := mk0 (below_step zq0 hb); clear HB; have HO104 := n0_; have HB := n1_; clear n0_ n1_; (try clear hb); (try clear hb2); (try clear hk); (try clear hi); (try clear ho0)) | ((with_reducible refine gate_callee (f := 9) rfl ?_); refine goesL_ (some 22) rfl rfl Tryd.func9 zq16 rfl #[.string a0] rfl zq2 ?_; (with_reducible refine (impl_JqParsePath.calls k a0 t105 t106 _ ?side1 A5.out).mono ?_); (case side1 => exact zq11); rintro e w17 ⟨v107, rfl, ho0, hb⟩; refine ⟨_, rfl, ?_⟩; have n0_ := mk0 (Kd.R_elder' zq7 (Kd.R_base ho0) hb); have n1_ := mk0 (Kd.R_lower (Kd.R_new' ho0 (Kd.R_lt zq7)) (below_size zq0)); have n2_ := mk0 (below_step zq0 hb); clear HO104 HB; have HO104 := n0_; have HO108 := n1_; have HB := n2_; clear n0_ n1_ n2_; (try clear hb); (try clear hb2); (try clear hk); (try clear hi); (try clear ho0)) | ((with_reducible refine gate_callee (f := 9) rfl ?_); refine goesL_ (some 26) rfl rfl Tryd.func9 zq16 rfl #[.string (⟨#[97]⟩ : ByteArray)] rfl zq2 ?_; (with_reducible refine (impl_JqParsePath.calls k (⟨#[97]⟩ : ByteArray) t109 true _ ?side1 A6.out).mono ?_); (case side1 => exact zq11); rintro e w18 ⟨v111, rfl, ho0, hb⟩; refine ⟨_, rfl, ?_⟩; have n0_ := mk0 (Kd.R_elder' zq7 (Kd.R_base ho0) hb); have n1_ := mk0 (Kd.R_elder' zq14 (Kd.R_base ho0) hb); have n2_ := mk0 (Kd.R_lower (Kd.R_new' (Kd.R_new' ho0 (Kd.R_lt zq7)) (Kd.R_lt zq14)) (below_size zq0)); have n3_ := mk0 (below_step zq0 hb); clear HO104 HO108 HB; have HO104 := n0_; have HO108 := n1_; have HO112 := n2_; have HB := n3_; clear n0_ n1_ n2_ n3_; (try clear hb); (try clear hb2); (try clear hk); (try clear hi); (try clear ho0)))
  go_ret
  exact ⟨by first | rfl | (simp [errW_none, errW_some] <;> rfl) | (simp [*, errW_none, errW_some] <;> rfl), by repeat (first | (with_reducible first | exact HB.out | apply below_alloc | apply pw_below_drewN | apply below_drew1) | exact HB.out)⟩
 subst c9
 have H1 : ((laws_sameStrings.f k t105 t101).bind fun t113 => (some t113)) = some r := by rw [if_pos rfl] at H; exact H
 clear H
 have H := H1
 clear H1
 replace H := Option.bind_eq_some_iff.mp H
 obtain ⟨t113, A100, H⟩ := H
 replace H : (some t113) = some r := H
 have A10 := mk0 A100
 clear A100
 obtain rfl := Option.some.inj H
 go_enter Tryd.func3, Tryd.ntmps3
 go_wp2_with (first | ((with_reducible refine gate_callee (f := 8) rfl ?_); refine goesL_ (some 17) rfl rfl Tryd.func8 zq16 rfl #[.string a0] rfl zq2 ?_; (with_reducible refine (spec_PathParts.calls k a0 t101 true _ A4.out).mono ?_); rintro e w11 ⟨v103, rfl, ho0, hb⟩; refine ⟨_, rfl, ?_⟩; have n0_ := mk0 (Kd.R_lower ho0 (below_size zq0)); have n1_ := mk0 (below_step zq0 hb); clear HB; have HO104 := n0_; have HB := n1_; clear n0_ n1_; (try clear hb); (try clear hb2); (try clear hk); (try clear hi); (try clear ho0)) | ((with_reducible refine gate_callee (f := 9) rfl ?_); refine goesL_ (some 22) rfl rfl Tryd.func9 zq16 rfl #[.string a0] rfl zq2 ?_; (with_reducible refine (impl_JqParsePath.calls k a0 t105 t106 _ ?side1 A5.out).mono ?_); (case side1 => exact zq11); rintro e w12 ⟨v107, rfl, ho0, hb⟩; refine ⟨_, rfl, ?_⟩; have n0_ := mk0 (Kd.R_elder' zq7 (Kd.R_base ho0) hb); have n1_ := mk0 (Kd.R_lower (Kd.R_new' ho0 (Kd.R_lt zq7)) (below_size zq0)); have n2_ := mk0 (below_step zq0 hb); clear HO104 HB; have HO104 := n0_; have HO108 := n1_; have HB := n2_; clear n0_ n1_ n2_; (try clear hb); (try clear hb2); (try clear hk); (try clear hi); (try clear ho0)) | ((with_reducible refine gate_callee (f := 9) rfl ?_); refine goesL_ (some 26) rfl rfl Tryd.func9 zq16 rfl #[.string (⟨#[97]⟩ : ByteArray)] rfl zq2 ?_; (with_reducible refine (impl_JqParsePath.calls k (⟨#[97]⟩ : ByteArray) t109 true _ ?side1 A6.out).mono ?_); (case side1 => exact zq11); rintro e w13 ⟨v111, rfl, ho0, hb⟩; refine ⟨_, rfl, ?_⟩; have n0_ := mk0 (Kd.R_elder' zq7 (Kd.R_base ho0) hb); have n1_ := mk0 (Kd.R_elder' zq14 (Kd.R_base ho0) hb); have n2_ := mk0 (Kd.R_lower (Kd.R_new' (Kd.R_new' ho0 (Kd.R_lt zq7)) (Kd.R_lt zq14)) (below_size zq0)); have n3_ := mk0 (below_step zq0 hb); clear HO104 HO108 HB; have HO104 := n0_; have HO108 := n1_; have HO112 := n2_; have HB := n3_; clear n0_ n1_ n2_ n3_; (try clear hb); (try clear hb2); (try clear hk); (try clear hi); (try clear ho0); obtain ⟨Ao14, co14, eo14⟩ := Kd.R_slice HO108.out; subst eo14; obtain ⟨Ao15, co15, eo15⟩ := Kd.R_slice HO104.out; subst eo15) | (go_at_call 10; (with_reducible refine (laws_sameStrings.calls k _ _ t105 _ _ t101 t113 _ ?side1 ?side2 ?side3 ?side4 A10.out).mono ?_); (case side1 => repeat (first | exact (Kd.R_reads' HO108.out).2.2 | (with_reducible refine Kd.C_alloc ?_ _) | (with_reducible refine Kd.C_drewN ?_ _) | (with_reducible refine Kd.C_drew ?_))); (case side2 => exact (Kd.R_reads' HO108.out).2.1); (case side3 => repeat (first | exact (Kd.R_reads' HO104.out).2.2 | (with_reducible refine Kd.C_alloc ?_ _) | (with_reducible refine Kd.C_drewN ?_ _) | (with_reducible refine Kd.C_drew ?_))); (case side4 => exact (Kd.R_reads' HO104.out).2.1); rintro e w' ⟨rfl, ⟨nd, rfl⟩⟩))
 go_ret
 exact ⟨by first | rfl | (simp [errW_none, errW_some] <;> rfl) | (simp [*, errW_none, errW_some] <;> rfl), by repeat (first | (with_reducible first | exact HB.out | apply below_alloc | apply pw_below_drewN | apply below_drew1) | exact HB.out)⟩
def laws_FnJqParsePath.Pure : Prop := ∀ (a0 : ByteArray), a0.size ≤ 140737488351232 → ∃ k, laws_FnJqParsePath.f k a0 = some true
theorem laws_FnJqParsePath.walk (P : laws_FnJqParsePath.Pure) (a0 : ByteArray) (w : World) (hG : Laid w) (w0 : a0.size ≤ 140737488351232) :
 Calls Tryd.prog 3 #[.string a0] w fun e w' => e = .returned (.bool true) ∧ Below w.heap.size w w' := by
 obtain ⟨k, h⟩ := P a0 w0
 refine (laws_FnJqParsePath.calls k a0 true w hG h).mono ?_
 rintro e w' ⟨rfl, hd⟩
 exact ⟨rfl, hd⟩
end Go.Proofs.YtafbdpdbagkbgaaDoor.Q
end
section
namespace Go.Proofs.YtafbdpdbagkbgaaDoor.J
open Go.RowKit Go.Proofs.YtafbdpdbagkbgaaDoor.Q Go.Proofs.YtafbdpdbagkbgaaDoorW.PrintWords Go.Proofs.YtafbdpdbagkbgaaDoorW.PrintLast

theorem hexDigit_eq {c : Int} (h : 0 ≤ c ∧ c ≤ 255) : Ev (fun k => spec_hexDigit.f k c) ((hexv c).getD 0, (hexv c).isSome) := by
 refine ⟨2, fun k hk => ?_⟩
 obtain ⟨k, rfl⟩ : ∃ m, k = m + 2 := ⟨k - 2, by omega⟩
 unfold spec_hexDigit.f hexv
 simp only [spec_hexDigit.j0, spec_hexDigit.j1]
 by_cases h1 : 48 ≤ c ∧ c ≤ 57
 ·rw [if_pos h1.1, if_pos zq28, if_pos h1]
  simp; omega
 rw [if_neg h1]
 have key : (if 97 ≤ c then (if decide (c ≤ 102) = true then some ((c - 97) % 256 + 10, true) else if 65 ≤ c then if c ≤ 70 then some ((c - 65) % 256 + 10, true) else some (0, false) else some (0, false))
  else (if false = true then some ((c - 97) % 256 + 10, true) else if 65 ≤ c then if c ≤ 70 then some ((c - 65) % 256 + 10, true) else some (0, false) else some (0, false))) =
  some (((if 97 ≤ c ∧ c ≤ 102 then some (c - 87) else if 65 ≤ c ∧ c ≤ 70 then some (c - 55) else none : Option Int).getD 0, (if 97 ≤ c ∧ c ≤ 102 then some (c - 87) else if 65 ≤ c ∧ c ≤ 70 then some (c - 55) else none : Option Int).isSome)) := by
  by_cases h2 : 97 ≤ c ∧ c ≤ 102
  ·rw [if_pos h2.1, if_pos zq28, if_pos h2]
   simp; omega
  rw [if_neg h2]
  by_cases h3 : 65 ≤ c ∧ c ≤ 70
  ·rw [if_neg (by omega), if_neg (by simp), if_pos h3.1, if_pos h3.2, if_pos h3]
   simp; omega
  rw [if_neg h3]
  by_cases h4 : 97 ≤ c
  ·rw [if_pos h4, if_neg zq28, if_pos (by omega), if_neg (by omega)]
   rfl
  rw [if_neg h4, if_neg (by simp)]
  by_cases h5 : 65 ≤ c
  rotate_left
  ·rw [if_neg h5]
   rfl
  rw [if_pos h5, if_neg (by omega)]
  rfl
 by_cases h6 : 48 ≤ c
 rotate_left
 ·rw [if_neg h6, if_neg (by simp)]
  exact key
 rw [if_pos h6, if_neg zq28]
 exact key
theorem here_cons {s : ByteArray} {i : Nat} {a : Int} {l : List Int} (h : From s i (a :: l)) : spec_reader_here.f s (i : Int) = some (a, s, (i : Int)) := by
 have := h.lt
 unfold spec_reader_here.f
 rw [if_pos (by omega), if_pos (by omega), h.bt]
theorem here_nil {s : ByteArray} {i : Nat} (h : From s i []) : spec_reader_here.f s (i : Int) = some (0, s, (i : Int)) := by
 have := h.nil
 unfold spec_reader_here.f
 rw [if_neg (by omega)]
theorem up {i n : Nat} (k : Nat) (h : i ≤ n) (hn : n ≤ 140737488351232) (hk : k ≤ 100) : wrap64 ((i : Int) + (k : Int)) = ((i + k : Nat) : Int) := by
 rw [w64 (by omega)]; omega
theorem up1 {i n : Nat} (h : i ≤ n) (hn : n ≤ 140737488351232) : wrap64 ((i : Int) + 1) = ((i + 1 : Nat) : Int) := up 1 h hn (by omega)
def hexs : Nat → List Int → Bool
  | 0, _ => true
  | _ + 1, [] => false
  | n + 1, a :: r => (hexv a).isSome && hexs n r
theorem hex4_hexs (l : List Int) : (hex4 l).isSome = hexs 4 l := by
 match l with
 | [] => rfl
 | [a] => simp [hex4, hexs]
 | [a, b] => simp [hex4, hexs]
 | [a, b, c] => simp [hex4, hexs]
 | a :: b :: c :: d :: r =>
  simp only [hex4, hexs]
  cases hexv a <;> cases hexv b <;> cases hexv c <;> cases hexv d <;> rfl
section
variable {s : ByteArray} (hs : s.size ≤ 140737488351232)
include hs
theorem esc_l0 : ∀ (n : Nat) (i : Nat) (l : List Int), n ≤ 4 → From s i l →
 (hexs n l = true → Ev (fun k => spec_reader_escape.l0 k (((4 - n : Nat) : Int)) s i) (true, s, ((i + n : Nat) : Int))) ∧
 (hexs n l = false → ∃ p, Ev (fun k => spec_reader_escape.l0 k (((4 - n : Nat) : Int)) s i) (false, s, p))
 | 0, i, l, _, h => ⟨fun _ => Ev.step (f := fun _ => some (true, s, (i : Int))) (fun k => by simp only [spec_reader_escape.l0]; rw [if_neg (by omega)]) (Ev.now _), fun h => by simp [hexs] at h⟩
 | n + 1, i, [], hn, h => by
  refine ⟨fun e => by simp [hexs] at e, fun _ => ⟨(i : Int), ?_⟩⟩
  refine Ev.step (f := fun k => (spec_hexDigit.f k 0).bind fun bt107 => (if bt107.2 = true then (spec_reader_escape.l0 k (wrap64 ((((4 - (n + 1) : Nat) : Int)) + 1)) s (wrap64 ((i : Int) + 1))) else some (false, s, (i : Int)))) (fun k => ?_) (Ev.bind (hexDigit_eq (by omega)) (Ev.congr (fun k => if_neg (by simp [hexv])) (Ev.now _)))
  simp only [spec_reader_escape.l0]
  rw [if_pos (by omega), here_nil h]
  rfl
 | n + 1, i, a :: l, hn, h => by
  have ih := esc_l0 n (i + 1) l (by omega) h.tail
  have e1 : wrap64 ((((4 - (n + 1) : Nat) : Int)) + 1) = (((4 - n : Nat) : Int)) := by rw [w64 (by omega)]; omega
  have e2 := up1 (Nat.le_of_lt h.lt) hs
  have st : ∀ R, Ev (fun k => if (hexv a).isSome = true then (spec_reader_escape.l0 k (((4 - n : Nat) : Int)) s ((i + 1 : Nat) : Int)) else some (false, s, (i : Int))) R → Ev (fun k => spec_reader_escape.l0 k (((4 - (n + 1) : Nat) : Int)) s i) R := fun R hR => by
   refine Ev.step (f := fun k => (spec_hexDigit.f k a).bind fun bt107 => (if bt107.2 = true then (spec_reader_escape.l0 k (((4 - n : Nat) : Int)) s ((i + 1 : Nat) : Int)) else some (false, s, (i : Int)))) (fun k => ?_) (Ev.bind (hexDigit_eq h.head) hR)
   simp only [spec_reader_escape.l0]
   rw [if_pos (by omega), here_cons h, e1]
   simp only [Option.bind_some, e2]
  by_cases ha : (hexv a).isSome = true
  rotate_left
  ·exact ⟨fun e => by simp [hexs, ha] at e, fun _ => ⟨_, st _ (Ev.congr (fun k => if_neg ha) (Ev.now _))⟩⟩
  refine ⟨fun e => ?_, fun e => ?_⟩
  ·simp only [hexs, Bool.and_eq_true] at e
   have := st _ (Ev.congr (fun k => if_pos ha) (ih.1 e.2))
   rwa [show i + 1 + n = i + (n + 1) by omega] at this
  ·rw [hexs, ha, Bool.true_and] at e
   obtain ⟨p, hp⟩ := ih.2 e
   exact ⟨p, st _ (Ev.congr (fun k => if_pos ha) hp)⟩
theorem escape_eq {i : Nat} {l : List Int} (h : From s i l) :
 (∀ r, escL l = some r → Ev (fun k => spec_reader_escape.f k s i) (true, s, ((s.size - r.length : Nat) : Int))) ∧
 (escL l = none → ∃ p, Ev (fun k => spec_reader_escape.f k s i) (false, s, p)) := by
 have j0 : ∀ a x, x = isE a → Ev (fun k => spec_reader_escape.j0 k a x s i) = Ev (fun k => if isE a = true then some (true, s, wrap64 ((i : Int) + 1)) else if a = 117 then spec_reader_escape.l0 (k - 1) 0 s (wrap64 ((i : Int) + 1)) else some (false, s, (i : Int))) := by
  intro a x e
  subst e
  funext R
  apply propext
  constructor
  ·rintro ⟨K, hK⟩
   refine ⟨K + 1, fun k hk => ?_⟩
   obtain ⟨k, rfl⟩ : ∃ m, k = m + 1 := ⟨k - 1, by omega⟩
   have := hK (k + 1) (by omega)
   simpa only [spec_reader_escape.j0, Nat.add_sub_cancel] using this
  ·rintro ⟨K, hK⟩
   refine ⟨K + 1, fun k hk => ?_⟩
   obtain ⟨k, rfl⟩ : ∃ m, k = m + 1 := ⟨k - 1, by omega⟩
   have := hK (k + 1) (by omega)
   simpa only [spec_reader_escape.j0, Nat.add_sub_cancel] using this
 have sh : ∀ {g : Nat → Option (Bool × ByteArray × Int)} {R}, Ev g R → Ev (fun k => g (k - 1)) R := by
  rintro g R ⟨K, hK⟩
  exact ⟨K + 1, fun k hk => hK _ (by omega)⟩
 match l, h with
 | [], h =>
  refine ⟨fun r hr => by simp [escL] at hr, fun _ => ⟨(i : Int), ?_⟩⟩
  refine Ev.congr (f := fun k => spec_reader_escape.j0 k 0 ((0 : Int) == 116) s i) (fun k => ?_) ?_
  ·unfold spec_reader_escape.f
   rw [here_nil h]
   rfl
  ·rw [j0 0 _ zq23]
   exact Ev.congr (fun k => by rw [if_neg zq23, if_neg zq23]) (Ev.now _)
 | a :: l, h =>
  have e2 := up1 (Nat.le_of_lt h.lt) hs
  have hl := h.len
  simp only [List.length_cons] at hl
  have key : Ev (fun k => spec_reader_escape.f k s i) = Ev (fun k => spec_reader_escape.j0 k a (isE a) s i) := by
   congr 1
   funext k
   unfold spec_reader_escape.f
   rw [here_cons h]
   simp only [Option.bind_some, isE]
   by_cases h1 : a = 34
   ·rw [if_pos h1, h1]; rfl
   rw [if_neg h1]
   by_cases h2 : a = 92
   ·rw [if_pos h2, h2]; rfl
   rw [if_neg h2]
   by_cases h3 : a = 47
   ·rw [if_pos h3, h3]; rfl
   rw [if_neg h3]
   by_cases h4 : a = 98
   ·rw [if_pos h4, h4]; rfl
   rw [if_neg h4]
   by_cases h5 : a = 102
   ·rw [if_pos h5, h5]; rfl
   rw [if_neg h5]
   by_cases h6 : a = 110
   ·rw [if_pos h6, h6]; rfl
   rw [if_neg h6]
   by_cases h7 : a = 114
   ·rw [if_pos h7, h7]; rfl
   rw [if_neg h7]
   congr 1
   rw [Bool.eq_iff_iff]
   simp
   omega
  rw [key, j0 a _ rfl]
  by_cases h1 : isE a = true
  ·refine ⟨fun r hr => ?_, fun hr => (by rw [escL_let _ h1] at hr; cases hr)⟩
   rw [escL_let _ h1] at hr
   cases hr
   refine Ev.congr (fun k => if_pos h1) (Ev_same (Ev.now _) ?_)
   rw [e2, show i + 1 = s.size - l.length by omega]
  by_cases h2 : a = 117
  rotate_left
  ·refine ⟨fun r hr => (by rw [escL, if_neg h1, if_neg h2] at hr; cases hr), fun _ => ⟨(i : Int), Ev.congr (fun k => by rw [if_neg h1, if_neg h2]) (Ev.now _)⟩⟩
  subst h2
  have hh := esc_l0 hs 4 (i + 1) l (by omega) h.tail
  refine ⟨fun r hr => ?_, fun hr => ?_⟩
  ·rw [escL, if_neg h1, if_pos rfl] at hr
   obtain ⟨v, hv, hr⟩ := Option.bind_eq_some_iff.mp hr
   cases hr
   have h4 : hexs 4 l = true := by rw [← hex4_hexs, hv]; rfl
   have hlen := hex4_len hv
   refine Ev.congr (f := fun k => spec_reader_escape.l0 (k - 1) 0 s ((i + 1 : Nat) : Int)) (fun k => by rw [if_neg h1, if_pos rfl, e2]) (Ev_same (sh (hh.1 h4)) ?_)
   rw [show i + 1 + 4 = s.size - (l.drop 4).length by rw [List.length_drop]; omega]
  ·rw [escL, if_neg h1, if_pos rfl] at hr
   have h4 : hexs 4 l = false := by
    rw [← hex4_hexs]
    cases hv : hex4 l with
    | none => rfl
    | some v => rw [hv] at hr; cases hr
   obtain ⟨p, hp⟩ := hh.2 h4
   exact ⟨p, Ev.congr (f := fun k => spec_reader_escape.l0 (k - 1) 0 s ((i + 1 : Nat) : Int)) (fun k => by rw [if_neg h1, if_pos rfl, e2]) (sh hp)⟩
end
end Go.Proofs.YtafbdpdbagkbgaaDoor.J
end
section
namespace Go.Proofs.YtafbdpdbagkbgaaDoor.J
open Go.RowKit Go.Proofs.YtafbdpdbagkbgaaDoor.Q Go.Proofs.YtafbdpdbagkbgaaDoorW.PrintWords Go.Proofs.YtafbdpdbagkbgaaDoorW.PrintLast

inductive BodyE : List Int → Prop
  | nil : BodyE []
  | raw {c : Int} {l : List Int} : True → True → c ≠ 92 → BodyE l → BodyE (c :: l)
  | two {b : Int} {l : List Int} : isE b = true → BodyE l → BodyE (92 :: b :: l)
  | six {a b c d v : Int} {l : List Int} : hex4 (a :: b :: c :: d :: l) = some v → BodyE l → BodyE (92 :: 117 :: a :: b :: c :: d :: l)
theorem body_drop6E {m : Int} {l : List Int} (hb : BodyE l) (h : unitL l = some m) : BodyE (l.drop 6) := by
 cases hb with
 | nil => simp [unitL] at h
 | raw h1 h2 h3 hb =>
  unfold unitL at h
  split at h
  ·rename_i e
   injection e with e1 e2
   rw [if_neg (by omega)] at h
   cases h
  ·cases h
 | two h1 hb => rw [unitL_two (isE_ne h1)] at h; cases h
 | six h1 hb => exact hb
theorem up2 {i n : Nat} (h : i ≤ n) (hn : n ≤ 140737488351232) : wrap64 ((i : Int) + 2) = ((i + 2 : Nat) : Int) := up 2 h hn (by omega)
theorem up6 {i n : Nat} (h : i ≤ n) (hn : n ≤ 140737488351232) : wrap64 ((i : Int) + 6) = ((i + 6 : Nat) : Int) := up 6 h hn (by omega)
theorem high_eq (n : Int) : spec_high.f n = some (hiS n) := by
 unfold spec_high.f hiS
 by_cases h : 55296 ≤ n
 rotate_left
 ·rw [if_neg h]; simp [h]
 rw [if_pos h]; simp [h]
theorem low_eq (n : Int) : spec_low.f n = some (loS n) := by
 unfold spec_low.f loS
 by_cases h : 56320 ≤ n
 rotate_left
 ·rw [if_neg h]; simp [h]
 rw [if_pos h]; simp [h]
theorem td {c : Int} (h : 0 ≤ c) (k : Int) : Int.tdiv c k = c / k := Int.tdiv_eq_ediv_of_nonneg h
theorem tm {c : Int} (h : 0 ≤ c) (k : Int) : Int.tmod c k = c % k := Int.tmod_eq_emod_of_nonneg h
theorem appendUTF8_eq {l : List Int} {c : Int} (h0 : 0 ≤ c) (h1 : c ≤ 1114111) (hl : l.length + 4 < 140737488355328) : Ev (fun k => spec_appendUTF8.f k l c) (l ++ utf c) := by
 refine ⟨1, fun k hk => ?_⟩
 obtain ⟨k, rfl⟩ : ∃ m, k = m + 1 := ⟨k - 1, by omega⟩
 unfold spec_appendUTF8.f utf
 simp only [spec_appendUTF8.j0, high_eq, low_eq, Option.bind_some, td h0, tm h0]
 have e1 : wrap64 (c / 64) = c / 64 := w64 (by omega)
 have e2 : wrap64 (c / 4096) = c / 4096 := w64 (by omega)
 have e3 : wrap64 (c / 262144) = c / 262144 := w64 (by omega)
 rw [e1, e2, e3, tm (c := c / 64) (by omega), tm (c := c / 4096) (by omega)]
 by_cases a1 : c < 128
 ·rw [if_pos a1, if_pos a1, if_pos (by omega)]
  congr 3; omega
 rw [if_neg a1, if_neg a1]
 by_cases a2 : c < 2048
 ·rw [if_pos a2, if_pos a2, if_pos zq28]
  rw [w64 (x := 192 + c / 64) (by omega), w64 (x := 128 + c % 64) (by omega)]
  congr 3
  ·omega
  ·congr 1; omega
 rw [if_neg a2, if_neg a2]
 by_cases a3 : hiS c = true
 ·rw [if_pos a3, if_pos trivial, if_pos zq28, if_pos (.inl a3)]
 rw [if_neg a3]
 by_cases a4 : loS c = true
 ·rw [if_pos a4, if_pos zq28, if_pos (.inr a4)]
 rw [if_neg a4, if_neg (show ¬ (hiS c = true ∨ loS c = true) from fun h => h.elim a3 a4)]
 by_cases a5 : c < 65536
 ·rw [if_pos a5, if_pos a5, if_pos zq28]
  rw [w64 (x := 224 + c / 4096) (by omega), w64 (x := 128 + c / 64 % 64) (by omega), w64 (x := 128 + c % 64) (by omega)]
  congr 3
  ·omega
  ·congr 1
   ·omega
   ·congr 1; omega
 rw [if_neg a5, if_neg a5, if_pos zq28]
 rw [w64 (x := 240 + c / 262144) (by omega), w64 (x := 128 + c / 4096 % 64) (by omega), w64 (x := 128 + c / 64 % 64) (by omega), w64 (x := 128 + c % 64) (by omega)]
 congr 3
 ·omega
 ·congr 1
  ·omega
  ·congr 1
   ·omega
   ·congr 1; omega
section
variable {s : ByteArray} (hs : s.size ≤ 140737488351232)
include hs
theorem unit_yes {i j : Nat} {a acc d : Int} {r : List Int} {R : Int × Bool} (h : From s j (a :: r)) (hi : i ≤ s.size) (hj : j < i + 6) (h0 : 0 ≤ acc ∧ acc ≤ 100000000) (hd : hexv a = some d)
 (k : Ev (fun k => spec_unit.l0 k s i (acc * 16 + d) ((j + 1 : Nat) : Int)) R) : Ev (fun k => spec_unit.l0 k s i acc j) R := by
 have hr := hexv_range hd
 refine Ev.step (f := fun k => (spec_hexDigit.f k a).bind fun bt101 => (if bt101.2 = true then (spec_unit.l0 k s i (wrap64 ((wrap64 (acc * 16)) + bt101.1)) ((j + 1 : Nat) : Int)) else some (0, false))) (fun k => ?_)
  (Ev.bind (hexDigit_eq h.head) (Ev.congr (fun n => ?_) k))
 ·have := h.lt
  simp only [spec_unit.l0]
  rw [up6 hi hs, if_pos (by omega), if_pos (by omega), if_pos (by omega), h.bt, up1 (Nat.le_of_lt h.lt) hs]
 ·rw [hd]
  simp only [Option.isSome_some, if_true, Option.getD_some]
  rw [w64 (x := acc * 16) (by omega), w64 (by omega)]
theorem unit_no {i j : Nat} {a acc : Int} {r : List Int} (h : From s j (a :: r)) (hi : i ≤ s.size) (hj : j < i + 6) (hd : hexv a = none) : Ev (fun k => spec_unit.l0 k s i acc j) (0, false) := by
 refine Ev.step (f := fun k => (spec_hexDigit.f k a).bind fun bt101 => (if bt101.2 = true then (spec_unit.l0 k s i (wrap64 ((wrap64 (acc * 16)) + bt101.1)) ((j + 1 : Nat) : Int)) else some (0, false))) (fun k => ?_)
  (Ev.bind (hexDigit_eq h.head) (Ev.congr (fun n => ?_) (Ev.now _)))
 ·have := h.lt
  simp only [spec_unit.l0]
  rw [up6 hi hs, if_pos (by omega), if_pos (by omega), if_pos (by omega), h.bt, up1 (Nat.le_of_lt h.lt) hs]
 ·rw [hd]
  rfl
theorem unit_l0 {i : Nat} {l : List Int} (h : From s (i + 2) l) (hl : 4 ≤ l.length) : Ev (fun k => spec_unit.l0 k s i 0 ((i + 2 : Nat) : Int)) ((hex4 l).getD 0, (hex4 l).isSome) := by
 match l, hl, h with
 | a :: b :: c :: d :: r, _, h =>
  have hz := h.len
  simp only [List.length_cons] at hz
  have hi : i ≤ s.size := by omega
  simp only [hex4]
  cases ea : hexv a with
  | none => exact Ev_same (unit_no hs h hi (by omega) ea) (by simp)
  | some x =>
   have := hexv_range ea
   refine unit_yes hs h hi (by omega) (by omega) ea ?_
   cases eb : hexv b with
   | none => exact Ev_same (unit_no hs h.tail hi (by omega) eb) (by simp)
   | some y =>
    have := hexv_range eb
    refine unit_yes hs h.tail hi (by omega) (by omega) eb ?_
    cases ec : hexv c with
    | none => exact Ev_same (unit_no hs h.tail.tail hi (by omega) ec) (by simp)
    | some z =>
     have := hexv_range ec
     refine unit_yes hs h.tail.tail hi (by omega) (by omega) ec ?_
     cases ed : hexv d with
     | none => exact Ev_same (unit_no hs h.tail.tail.tail hi (by omega) ed) (by simp)
     | some u =>
      have := hexv_range ed
      refine unit_yes hs h.tail.tail.tail hi (by omega) (by omega) ed ?_
      refine Ev.step (f := fun _ => some ((((0 * 16 + x) * 16 + y) * 16 + z) * 16 + u, true)) (fun k => ?_) (Ev_same (Ev.now _) (by simp))
      simp only [spec_unit.l0]
      rw [up6 hi hs, if_neg (by omega)]
theorem unit_eq {i : Nat} {l : List Int} (h : From s i l) : Ev (fun k => spec_unit.f k s i) ((unitL l).getD 0, (unitL l).isSome) := by
 have hz := h.len
 have no : Ev (fun k => spec_unit.j0 k s i true) (0, false) := Ev.step (f := fun _ => some (0, false)) (fun k => by simp only [spec_unit.j0]; rw [if_pos trivial]) (Ev.now _)
 unfold spec_unit.f
 have e0 : wrap64 ((s.size : Int) - (i : Int)) = ((l.length : Nat) : Int) := by rw [w64 (by omega)]; omega
 rw [e0]
 by_cases h6 : l.length < 6
 ·have e1 : unitL l = none := by
   cases e : unitL l with
   | none => rfl
   | some v => have := unitL_len e; omega
  rw [e1]
  exact Ev.congr (fun k => if_pos (by omega)) no
 match l, h, h6, hz with
 | [], _, h6, _ => exact absurd (by simp) h6
 | [a], _, h6, _ => exact absurd (by simp) h6
 | a :: b :: l, h, h6, hz =>
  simp only [List.length_cons] at h6 hz
  have hlt := h.lt
  have e1 : unitL (a :: b :: l) = if a = 92 ∧ b = 117 then hex4 l else none := rfl
  by_cases h1 : a = 92
  rotate_left
  ·rw [e1, if_neg (by omega)]
   refine Ev.congr (fun k => ?_) no
   rw [if_neg zq20, if_pos (by omega), if_pos (by omega), h.bt, if_neg h1]
  refine Ev.congr (f := fun k => spec_unit.j0 k s i (b != 117)) (fun k => ?_) ?_
  ·rw [if_neg zq20, if_pos (by omega), if_pos (by omega), h.bt, if_pos h1, up1 (Nat.le_of_lt h.lt) hs, if_pos (by omega), if_pos (by omega), h.tail.bt]
  ·by_cases h2 : b = 117
   rotate_left
   ·rw [e1, if_neg (by omega)]
    exact Ev.congr (fun k => by rw [bne_iff_ne.mpr h2]) no
   rw [e1, if_pos ⟨h1, h2⟩]
   refine Ev.congr (f := fun k => spec_unit.j0 k s i false) (fun k => by rw [h2]; rfl) ?_
   refine Ev.step (f := fun k => spec_unit.l0 k s i 0 ((i + 2 : Nat) : Int)) (fun k => ?_) (unit_l0 hs (by simpa using h.tail.tail) (by omega))
   simp only [spec_unit.j0]
   rw [if_neg zq23, up2 (Nat.le_of_lt h.lt) hs]
omit hs in
theorem short_eq (b : Int) : spec_short.f b = some (unl b) := by
 unfold spec_short.f unl
 repeat' split
 all_goals rfl
omit hs in
theorem unitL_range {l : List Int} {v : Int} (h : unitL l = some v) : 0 ≤ v ∧ v ≤ 65535 := by
 unfold unitL at h
 split at h
 ·split at h
  ·exact hex4_range h
  ·cases h
 ·cases h
theorem unquote_l0 : ∀ (n i : Nat) (l acc : List Int), l.length ≤ n → From s i l → BodyE l → acc.length + l.length ≤ 140737488351232 → Ev (fun k => spec_Unquote.l0 k acc s i) (strOfNums (acc ++ unqL l))
 | n, i, [], acc, _, h, _, _ => by
  have := h.nil
  refine Ev.step (f := fun _ => some (strOfNums acc)) (fun k => ?_) (Ev_same (Ev.now _) (by rw [unqL_nil, List.append_nil]))
  simp only [spec_Unquote.l0]
  rw [if_neg (by omega)]
 | 0, i, c :: l, acc, hn, _, _, _ => by simp at hn
 | n + 1, i, c :: l, acc, hn, h, hb, hk => by
  simp only [List.length_cons] at hn hk
  have hlt := h.lt
  have hz := h.len
  simp only [List.length_cons] at hz
  have hle := Nat.le_of_lt hlt
  have e1 := up1 hle hs
  have e2 := up2 hle hs
  have e6 := up6 hle hs
  by_cases hc : c = 92
  rotate_left
  ·cases hb with
   | two h1 hb => exact absurd rfl hc
   | six h1 hb => exact absurd rfl hc
   | raw _ _ _ hb =>
    refine Ev.step (fun k => ?_) (Ev_same (unquote_l0 n (i + 1) l (acc ++ [c]) (by omega) h.tail hb zq28) ?_)
    ·simp only [spec_Unquote.l0]
     rw [if_pos (by omega), if_pos (by omega), h.bt, if_neg hc, if_pos (by omega), e1]
    ·rw [unqL_raw _ hc, List.append_assoc]
     rfl
  subst hc
  have st : ∀ {a b R}, Ev (fun k => spec_unit.f k s i) (a, b) → Ev (fun x1 => (if b = true then ((spec_unit.f x1 s ((i + 6 : Nat) : Int)).bind fun bt110 => (if bt110.2 = true then ((spec_high.f a).bind fun t112 => (if t112 = true then ((spec_low.f bt110.1).bind fun t113 => (if t113 = true then ((spec_appendUTF8.f x1 acc (wrap64 ((wrap64 (65536 + (wrap64 ((wrap64 (a - 55296)) * 1024)))) + (wrap64 (bt110.1 - 56320))))).bind fun t114 => (spec_Unquote.l0 x1 t114 s (wrap64 (((i + 6 : Nat) : Int) + 6)))) else ((spec_appendUTF8.f x1 acc a).bind fun t117 => (spec_Unquote.l0 x1 t117 s ((i + 6 : Nat) : Int))))) else ((spec_appendUTF8.f x1 acc a).bind fun t120 => (spec_Unquote.l0 x1 t120 s ((i + 6 : Nat) : Int))))) else ((spec_appendUTF8.f x1 acc a).bind fun t123 => (spec_Unquote.l0 x1 t123 s ((i + 6 : Nat) : Int))))) else (if 0 ≤ ((i + 1 : Nat) : Int) then (if ((i + 1 : Nat) : Int) < (s.size : Int) then ((spec_short.f (bt s ((i + 1 : Nat) : Int))).bind fun t106 => (if acc.length < 140737488355328 then (spec_Unquote.l0 x1 (acc ++ [t106]) s ((i + 2 : Nat) : Int)) else (none))) else (none)) else (none)))) R → Ev (fun k => spec_Unquote.l0 k acc s i) R := fun {a b R} hx hy => by
   refine Ev.step (f := fun x1 => (spec_unit.f x1 s i).bind fun bt104 => (if bt104.2 = true then ((spec_unit.f x1 s ((i + 6 : Nat) : Int)).bind fun bt110 => (if bt110.2 = true then ((spec_high.f bt104.1).bind fun t112 => (if t112 = true then ((spec_low.f bt110.1).bind fun t113 => (if t113 = true then ((spec_appendUTF8.f x1 acc (wrap64 ((wrap64 (65536 + (wrap64 ((wrap64 (bt104.1 - 55296)) * 1024)))) + (wrap64 (bt110.1 - 56320))))).bind fun t114 => (spec_Unquote.l0 x1 t114 s (wrap64 (((i + 6 : Nat) : Int) + 6)))) else ((spec_appendUTF8.f x1 acc bt104.1).bind fun t117 => (spec_Unquote.l0 x1 t117 s ((i + 6 : Nat) : Int))))) else ((spec_appendUTF8.f x1 acc bt104.1).bind fun t120 => (spec_Unquote.l0 x1 t120 s ((i + 6 : Nat) : Int))))) else ((spec_appendUTF8.f x1 acc bt104.1).bind fun t123 => (spec_Unquote.l0 x1 t123 s ((i + 6 : Nat) : Int))))) else (if 0 ≤ ((i + 1 : Nat) : Int) then (if ((i + 1 : Nat) : Int) < (s.size : Int) then ((spec_short.f (bt s ((i + 1 : Nat) : Int))).bind fun t106 => (if acc.length < 140737488355328 then (spec_Unquote.l0 x1 (acc ++ [t106]) s ((i + 2 : Nat) : Int)) else (none))) else (none)) else (none)))) (fun k => ?_) (Ev.bind hx hy)
   simp only [spec_Unquote.l0]
   rw [if_pos (by omega), if_pos (by omega), if_pos h.bt, e1, e2, e6]
  have hu := unit_eq hs h
  cases hb with
  | raw _ _ h3 _ => exact absurd rfl h3
  | @two b l hE hb =>
   rw [unitL_two (isE_ne hE)] at hu
   refine st hu (Ev.congr (f := fun x1 => spec_Unquote.l0 x1 (acc ++ [unl b]) s ((i + 2 : Nat) : Int)) (fun k => ?_) ?_)
   ·rw [if_neg zq23, if_pos (by omega), if_pos (by have := h.tail.lt; omega), h.tail.bt, short_eq, Option.bind_some, if_pos (by omega)]
   ·simp only [List.length_cons] at hn hk
    refine Ev_same (unquote_l0 n (i + 2) l (acc ++ [unl b]) (by omega) h.tail.tail hb zq28) ?_
    rw [unqL_two _ (isE_ne hE), List.append_assoc]
    rfl
  | @six a b c d v l hx hb =>
   have hr := hex4_range hx
   rw [unitL_six hx] at hu
   simp only [List.length_cons] at hn hk
   have hF : From s (i + 6) l := h.tail.tail.tail.tail.tail.tail
   have hu2 := unit_eq hs hF
   have one : ∀ {R}, Ev (fun x1 => (spec_appendUTF8.f x1 acc v).bind fun t123 => (spec_Unquote.l0 x1 t123 s ((i + 6 : Nat) : Int))) R ↔ Ev (fun x1 => (spec_appendUTF8.f x1 acc v).bind fun t123 => (spec_Unquote.l0 x1 t123 s ((i + 6 : Nat) : Int))) R := Iff.rfl
   have hul := utf_len v
   have fin : Ev (fun x1 => (spec_appendUTF8.f x1 acc v).bind fun t123 => (spec_Unquote.l0 x1 t123 s ((i + 6 : Nat) : Int))) (strOfNums (acc ++ (utf v ++ unqL l))) := by
    refine Ev.bind (appendUTF8_eq hr.1 (by omega) (by omega)) ?_
    have := unquote_l0 n (i + 6) l (acc ++ utf v) (by omega) hF hb zq28
    rwa [List.append_assoc] at this
   refine st hu ?_
   rw [unqL_six hx]
   refine Ev.congr (fun k => if_pos rfl) (Ev.bind hu2 ?_)
   simp only [Option.getD_some]
   cases hv2 : unitL l with
   | none =>
    have e : pairL v l = none := by unfold pairL; rw [hv2]; rfl
    rw [e]
    exact Ev.congr (fun k => if_neg (by simp)) fin
   | some m =>
    have hm := unitL_range hv2
    refine Ev.congr (f := fun x1 => if hiS v = true then (if loS m = true then ((spec_appendUTF8.f x1 acc (wrap64 ((wrap64 (65536 + (wrap64 ((wrap64 (v - 55296)) * 1024)))) + (wrap64 (m - 56320))))).bind fun t114 => (spec_Unquote.l0 x1 t114 s (wrap64 (((i + 6 : Nat) : Int) + 6)))) else ((spec_appendUTF8.f x1 acc v).bind fun t117 => (spec_Unquote.l0 x1 t117 s ((i + 6 : Nat) : Int)))) else ((spec_appendUTF8.f x1 acc v).bind fun t120 => (spec_Unquote.l0 x1 t120 s ((i + 6 : Nat) : Int)))) (fun k => ?_) ?_
    ·rw [if_pos (by simp), high_eq, Option.bind_some]
     simp only [low_eq, Option.bind_some, Option.getD_some]
    by_cases h3 : hiS v = true
    rotate_left
    ·have e : pairL v l = none := by unfold pairL; rw [hv2, Option.bind_some, if_neg (by simp [h3])]
     rw [e]
     exact Ev.congr (fun k => if_neg h3) fin
    by_cases h4 : loS m = true
    rotate_left
    ·have e : pairL v l = none := by unfold pairL; rw [hv2, Option.bind_some, if_neg (by simp [h4])]
     rw [e]
     exact Ev.congr (fun k => by rw [if_pos h3, if_neg h4]) fin
    have e : pairL v l = some m := by unfold pairL; rw [hv2, Option.bind_some, h3, h4]; rfl
    rw [e]
    have h3' := h3
    have h4' := h4
    simp only [hiS, decide_eq_true_eq] at h3'
    simp only [loS, decide_eq_true_eq] at h4'
    have h6 := unitL_len hv2
    have hC : wrap64 ((wrap64 (65536 + (wrap64 ((wrap64 (v - 55296)) * 1024)))) + (wrap64 (m - 56320))) = 65536 + (v - 55296) * 1024 + (m - 56320) := by
     rw [w64 (x := v - 55296) (by omega), w64 (x := (v - 55296) * 1024) (by omega), w64 (x := 65536 + (v - 55296) * 1024) (by omega), w64 (x := m - 56320) (by omega), w64 (by omega)]
    have hul2 := utf_len (65536 + (v - 55296) * 1024 + (m - 56320))
    refine Ev.congr (f := fun x1 => (spec_appendUTF8.f x1 acc (65536 + (v - 55296) * 1024 + (m - 56320))).bind fun t114 => (spec_Unquote.l0 x1 t114 s ((i + 6 + 6 : Nat) : Int))) (fun k => ?_) (Ev.bind (appendUTF8_eq (by omega) (by omega) (by omega)) ?_)
    ·rw [if_pos h3, if_pos h4, hC, up6 (i := i + 6) (by have := hF.len; omega) hs]
    ·have := unquote_l0 n (i + 6 + 6) (l.drop 6) (acc ++ utf (65536 + (v - 55296) * 1024 + (m - 56320))) (by rw [List.length_drop]; omega) (hF.drop 6 h6) (body_drop6E hb hv2) zq28
     rwa [List.append_assoc] at this
theorem unquote_eq {b : List Int} (hq : bytesOf s = 34 :: (b ++ [34])) (hb : BodyE b) : Ev (fun k => spec_Unquote.f k s) (strOfNums (unqL b)) := by
 have hz : s.size = b.length + 2 := by
  have := congrArg List.length hq
  rw [bytesOf_length] at this
  simpa using this
 have e0 : wrap64 ((s.size : Int) - 1) = ((b.length + 1 : Nat) : Int) := by rw [w64 (by omega)]; omega
 have hF : From s 1 (b ++ [34]) := ⟨by omega, by rw [hq]; rfl⟩
 have hx : bytesOf (s.extract 1 (b.length + 1)) = b := by
  have := hF.extract
  rwa [Nat.add_comm] at this
 refine Ev.congr (f := fun k => spec_Unquote.l0 k [] (s.extract 1 (b.length + 1)) ((0 : Nat) : Int)) (fun k => ?_) ?_
 ·unfold spec_Unquote.f
  rw [e0, if_pos (by omega), if_pos (by omega), Int.toNat_natCast]
  rfl
 ·have hz2 : (s.extract 1 (b.length + 1)).size ≤ 140737488351232 := by
   rw [← bytesOf_length, hx]
   omega
  have := unquote_l0 hz2 b.length 0 b [] (Nat.le_refl _) (by have := From.start (s.extract 1 (b.length + 1)); rwa [hx] at this) hb zq28
  simpa using this
end

end Go.Proofs.YtafbdpdbagkbgaaDoor.J
end
section
namespace Go.Proofs.YtafbdpdbagkbgaaDoor.J
open Go.RowKit Go.Proofs.YtafbdpdbagkbgaaDoor.Q Go.Proofs.YtafbdpdbagkbgaaDoorW.PrintWords Go.Proofs.YtafbdpdbagkbgaaDoorW.PrintLast
set_option linter.unusedVariables false
set_option linter.unusedSimpArgs false
theorem h2I_eq {c : Int} (h : 0 ≤ c ∧ c ≤ 255) (k : Nat) : jsonparser_h2I.f (k + 4) c = some ((hexv c).getD (-1)) := by
 unfold jsonparser_h2I.f hexv
 by_cases h1 : 48 ≤ c ∧ c ≤ 57
 ·rw [if_pos (by omega), decide_eq_true h1.2, jsonparser_h2I.j0, if_pos rfl, if_pos h1]
  congr 1
  show _ = c - 48
  omega
 have e : (if c ≥ 48 then jsonparser_h2I.j0 (k + 4) c (decide (c ≤ 57)) else jsonparser_h2I.j0 (k + 4) c false) = jsonparser_h2I.j0 (k + 4) c false := by
  by_cases h48 : c ≥ 48
  rotate_left
  ·rw [if_neg h48]
  rw [if_pos h48, decide_eq_false (by omega)]
 rw [e, if_neg h1, jsonparser_h2I.j0, if_neg zq23]
 by_cases h2 : 65 ≤ c ∧ c ≤ 70
 ·rw [if_pos (by omega), decide_eq_true h2.2, jsonparser_h2I.j1, if_pos rfl, if_neg (by omega), if_pos h2]
  congr 1
  show _ = c - 55
  omega
 have e2 : (if c ≥ 65 then jsonparser_h2I.j1 (k + 3) c (decide (c ≤ 70)) else jsonparser_h2I.j1 (k + 3) c false) = jsonparser_h2I.j1 (k + 3) c false := by
  by_cases h65 : c ≥ 65
  rotate_left
  ·rw [if_neg h65]
  rw [if_pos h65, decide_eq_false (by omega)]
 rw [e2, jsonparser_h2I.j1, if_neg zq23]
 by_cases h3 : 97 ≤ c ∧ c ≤ 102
 ·rw [if_pos (by omega), if_pos (by omega), if_pos h3]
  congr 1
  show _ = c - 87
  omega
 rw [if_neg h3, if_neg h2]
 by_cases h97 : c ≥ 97
 rotate_left
 ·rw [if_neg h97]
  rfl
 rw [if_pos h97, if_neg (by omega)]
 rfl
def dS (l : List Int) : Int × Bool := if (l.length : Int) < 6 then (65533, false) else match hex4 (l.drop 2) with
  | some v => (v, true)
  | none => (65533, false)
theorem single_eq {l : List Int} (hr : ∀ x ∈ l, 0 ≤ x ∧ x ≤ 255) (k : Nat) : jsonparser_decodeSingleUnicodeEscape.f (k + 4) l = some (dS l) := by
 unfold jsonparser_decodeSingleUnicodeEscape.f dS
 by_cases h6 : (l.length : Int) < 6
 ·rw [if_pos h6, if_pos h6]
 rw [if_neg h6, if_neg h6]
 match l, h6, hr with
 | [], h6, _ => exact absurd h6 (by simp)
 | [_], h6, _ => exact absurd h6 (by simp)
 | [_, _], h6, _ => exact absurd h6 (by simp)
 | [_, _, _], h6, _ => exact absurd h6 (by simp)
 | [_, _, _, _], h6, _ => exact absurd h6 (by simp)
 | [_, _, _, _, _], h6, _ => exact absurd h6 (by simp)
 | p :: q :: a :: b :: c :: d :: r, h6, hr =>
  have ha := hr a (by simp)
  have hb := hr b (by simp)
  have hc := hr c (by simp)
  have hd := hr d (by simp)
  have e2 : rd (p :: q :: a :: b :: c :: d :: r) 2 = a := rfl
  have e3 : rd (p :: q :: a :: b :: c :: d :: r) 3 = b := rfl
  have e4 : rd (p :: q :: a :: b :: c :: d :: r) 4 = c := rfl
  have e5 : rd (p :: q :: a :: b :: c :: d :: r) 5 = d := rfl
  rw [if_pos (by omega), e2, h2I_eq ha, Option.bind_some, if_pos (by omega), e3, h2I_eq hb, Option.bind_some, if_pos (by omega), e4, h2I_eq hc, Option.bind_some, if_pos (by omega), e5, h2I_eq hd, Option.bind_some]
  simp only [List.drop_succ_cons, List.drop_zero, hex4]
  cases qa : hexv a with
  | none => simp
  | some va =>
   cases qb : hexv b with
   | none => have := hexv_range qa; simp [show va ≠ -1 by omega]
   | some vb =>
    cases qc : hexv c with
    | none => have := hexv_range qa; have := hexv_range qb; simp [show va ≠ -1 by omega, show vb ≠ -1 by omega]
    | some vc =>
     cases qd : hexv d with
     | none => have := hexv_range qa; have := hexv_range qb; have := hexv_range qc; simp [show va ≠ -1 by omega, show vb ≠ -1 by omega, show vc ≠ -1 by omega]
     | some vd =>
      have r1 := hexv_range qa
      have r2 := hexv_range qb
      have r3 := hexv_range qc
      have r4 := hexv_range qd
      simp only [Option.getD_some, Option.bind_some]
      rw [if_neg (by omega), if_neg (by omega), if_neg (by omega), if_neg (by omega)]
      have w1 : wrap64 (va * 4096) = va * 4096 := w64 (by omega)
      have w2 : wrap64 (vb * 256) = vb * 256 := w64 (by omega)
      have w3 : wrap64 (vc * 16) = vc * 16 := w64 (by omega)
      rw [w1, w2, w3, w64 (x := va * 4096 + vb * 256) (by omega), w64 (x := va * 4096 + vb * 256 + vc * 16) (by omega), w64 (x := va * 4096 + vb * 256 + vc * 16 + vd) (by omega)]
      have w4 : wrap32 (va * 4096 + vb * 256 + vc * 16 + vd) = va * 4096 + vb * 256 + vc * 16 + vd := by unfold wrap32; omega
      rw [w4]
      congr 2
      omega
def dU (l : List Int) : Int × Int :=
  if (dS l).2 = true then
    (if 55296 ≤ (dS l).1 ∧ (dS l).1 ≤ 57343 then
      (if (dS l).1 ≥ 56320 then (65533, 6)
       else if (l.length : Int) < 8 ∨ rd l 6 ≠ 92 ∨ rd l 7 ≠ 117 then (65533, 6)
       else if (dS (l.drop 6)).2 = true then
         (if (dS (l.drop 6)).1 < 56320 ∨ 57343 < (dS (l.drop 6)).1 then (65533, 6) else (65536 + ((dS l).1 - 55296) * 1024 + ((dS (l.drop 6)).1 - 56320), 12))
       else (65533, -1))
     else ((dS l).1, 6))
  else (65533, -1)
theorem dS_len {l : List Int} (h : (dS l).2 = true) : 6 ≤ l.length ∧ 0 ≤ (dS l).1 ∧ (dS l).1 ≤ 65535 := by
 unfold dS at h ⊢
 split at h
 ·cases h
 ·rename_i h6
  rw [if_neg h6]
  split at h
  ·rename_i v hv
   have := hex4_range hv
   simp only
   omega
  ·cases h
theorem decode_eq {l : List Int} (hr : ∀ x ∈ l, 0 ≤ x ∧ x ≤ 255) (k : Nat) : jsonparser_decodeUnicodeEscape.f (k + 5) l = some (dU l) := by
 have hS := single_eq hr (k + 1)
 have hS2 := single_eq (l := l.drop 6) (fun x hx => hr x (List.mem_of_mem_drop hx)) k
 have j0t : jsonparser_decodeUnicodeEscape.j0 (k + 5) l (dS l).1 true = some (65533, 6) := by rw [jsonparser_decodeUnicodeEscape.j0, if_pos rfl]
 unfold jsonparser_decodeUnicodeEscape.f dU
 rw [hS, Option.bind_some]
 cases hs : (dS l).2 with
 | false => rfl
 | true =>
  obtain ⟨h6, g0, g1⟩ := dS_len hs
  simp only [if_true, jsonparser_isUTF16EncodedRune.f]
  have e1 : (if 55296 ≤ (dS l).1 then some (decide ((dS l).1 ≤ 57343)) else some false) = some (decide (55296 ≤ (dS l).1 ∧ (dS l).1 ≤ 57343)) := by
   split <;> simp <;> omega
  rw [e1, Option.bind_some]
  by_cases hsu : 55296 ≤ (dS l).1 ∧ (dS l).1 ≤ 57343
  rotate_left
  ·rw [decide_eq_false hsu, if_neg zq23, if_neg hsu]
  rw [decide_eq_true hsu, if_pos rfl, if_pos hsu]
  by_cases hlo : (dS l).1 ≥ 56320
  ·rw [if_pos hlo, if_pos hlo]
  rw [if_neg hlo, if_neg hlo]
  by_cases h8 : (l.length : Int) < 8
  ·rw [if_pos h8, j0t, if_pos (.inl h8)]
  rw [if_neg h8, if_pos (by omega)]
  by_cases h92 : rd l 6 = 92
  rotate_left
  ·rw [if_neg h92, j0t, if_pos (.inr (.inl h92))]
  rw [if_pos h92, if_pos (by omega)]
  by_cases h117 : rd l 7 = 117
  rotate_left
  ·have e2 : (rd l 7 != 117) = true := by simp [h117]
   rw [e2, j0t, if_pos (.inr (.inr h117))]
  have e2 : (rd l 7 != 117) = false := by simp [h117]
  have hno : ¬ ((l.length : Int) < 8 ∨ rd l 6 ≠ 92 ∨ rd l 7 ≠ 117) := by rintro (h | h | h) <;> omega
  rw [e2, jsonparser_decodeUnicodeEscape.j0, if_neg zq23, if_pos (by omega), hS2, Option.bind_some, if_neg hno]
  cases hs2 : (dS (l.drop 6)).2 with
  | false => rfl
  | true =>
   obtain ⟨_, q0, q1⟩ := dS_len hs2
   simp only [if_true]
   by_cases ha : (dS (l.drop 6)).1 < 56320
   ·rw [if_pos ha, if_pos (.inl ha)]
   rw [if_neg ha]
   by_cases hb : (dS (l.drop 6)).1 > 57343
   ·rw [if_pos hb, if_pos (.inr hb)]
   rw [if_neg hb, if_neg (by omega)]
   simp only [jsonparser_combineUTF16Surrogates.f, Option.bind_some]
   congr 2
   unfold wrap32
   omega
theorem stp_eq {l : List Int} (hr : ∀ x ∈ l, 0 ≤ x ∧ x ≤ 255) (k : Nat) : stp (k + 5) l = some (if (l.length : Int) < 2 then (-1, []) else if rd l 0 = 92 then (if isE (rd l 1) = true then (2, [unl (rd l 1)]) else if rd l 1 = 117 then (if (dU l).2 = -1 then (-1, []) else ((dU l).2, eB (dU l).1)) else (-1, [])) else (-1, [])) := by
 unfold stp
 by_cases h2 : (l.length : Int) < 2
 ·rw [if_pos h2, if_pos h2]
 rw [if_neg h2, if_neg h2]
 by_cases h92 : rd l 0 = 92
 rotate_left
 ·rw [if_neg h92, if_neg h92]
 rw [if_pos h92, if_pos h92]
 by_cases hE : isE (rd l 1) = true
 ·rw [if_pos hE, if_pos hE]
 rw [if_neg hE, if_neg hE]
 by_cases hu : rd l 1 = 117
 rotate_left
 ·rw [if_neg hu, if_neg hu]
 rw [if_pos hu, if_pos hu, decode_eq hr, Option.bind_some]
 by_cases hm : (dU l).2 = -1
 ·rw [if_pos hm, if_pos hm]
 rw [if_neg hm, if_neg hm, if_pos]
 unfold dU at hm ⊢
 by_cases hs : (dS l).2 = true
 rotate_left
 ·rw [if_neg hs] at hm
  exact absurd rfl hm
 obtain ⟨h6, g0, g1⟩ := dS_len hs
 rw [if_pos hs] at hm ⊢
 by_cases hsu : 55296 ≤ (dS l).1 ∧ (dS l).1 ≤ 57343
 rotate_left
 ·rw [if_neg hsu]
  simp only
  omega
 rw [if_pos hsu] at hm ⊢
 by_cases hlo : (dS l).1 ≥ 56320
 ·rw [if_pos hlo]
  simp only
  omega
 rw [if_neg hlo] at hm ⊢
 by_cases h8 : (l.length : Int) < 8 ∨ rd l 6 ≠ 92 ∨ rd l 7 ≠ 117
 ·rw [if_pos h8]
  simp only
  omega
 rw [if_neg h8] at hm ⊢
 by_cases hs2 : (dS (l.drop 6)).2 = true
 rotate_left
 ·rw [if_neg hs2] at hm
  exact absurd rfl hm
 obtain ⟨q6, q0, q1⟩ := dS_len hs2
 rw [List.length_drop] at q6
 rw [if_pos hs2] at hm ⊢
 by_cases hab : (dS (l.drop 6)).1 < 56320 ∨ 57343 < (dS (l.drop 6)).1
 rotate_left
 ·rw [if_neg hab]
  simp only
  omega
 rw [if_pos hab]
 simp only
 omega
def okL (l : List Int) : Bool :=
  match l with
  | [] => true
  | c :: r => if c = 92 then (match _h : escL r with
    | none => false
    | some r' => okL r') else okL r
termination_by l.length
decreasing_by
  · have := escL_len ‹_›
    simp; omega
  · simp
theorem okL_raw {c : Int} (r : List Int) (h : c ≠ 92) : okL (c :: r) = okL r := by rw [okL, if_neg h]
theorem okL_none {r : List Int} (h : escL r = none) : okL (92 :: r) = false := by
 rw [okL, if_pos rfl]
 split
 ·rfl
 ·rename_i r' h'
  rw [h] at h'
  cases h'
theorem okL_some {r r' : List Int} (h : escL r = some r') : okL (92 :: r) = okL r' := by
 rw [okL, if_pos rfl]
 split
 ·rename_i h'
  rw [h] at h'
  cases h'
 ·rename_i r2 h'
  rw [h] at h'
  cases h'
  rfl
theorem okL_no : ∀ l : List Int, ixL l = -1 → okL l = true
 | [], _ => by rw [okL]
 | c :: l, h => by
  rw [ixL] at h
  split at h
  ·omega
  ·rename_i hc
   split at h
   ·rename_i h2
    rw [okL_raw _ hc]
    exact okL_no l h2
   ·have := ixL_range l
    omega
theorem okL_at : ∀ (l : List Int) (j : Nat), ixL l = (j : Int) → okL l = okL (l.drop j) ∧ ∃ r, l.drop j = 92 :: r
 | [], j, h => by simp only [ixL] at h; omega
 | c :: l, j, h => by
  rw [ixL] at h
  split at h
  ·rename_i hc
   subst hc
   obtain rfl : j = 0 := by omega
   exact ⟨rfl, l, rfl⟩
  ·rename_i hc
   split at h
   ·omega
   ·obtain ⟨j, rfl⟩ : ∃ i, j = i + 1 := ⟨j - 1, by have := ixL_range l; omega⟩
    rw [okL_raw _ hc, List.drop_succ_cons]
    exact okL_at l j (by omega)
theorem okL_body : ∀ (n : Nat) (l : List Int), l.length ≤ n → okL l = true → BodyE l
 | _, [], _, _ => .nil
 | 0, c :: l, hn, _ => by simp at hn
 | n + 1, c :: l, hn, h => by
  simp only [List.length_cons] at hn
  by_cases hc : c = 92
  rotate_left
  ·exact .raw trivial trivial hc (okL_body n l (by omega) (by rwa [okL_raw _ hc] at h))
  subst hc
  cases he : escL l with
  | none => rw [okL_none he] at h; cases h
  | some r =>
   have hl := escL_len he
   rw [okL_some he] at h
   have hb := okL_body n r (by omega) h
   cases l with
   | nil => simp [escL] at he
   | cons b l =>
    rw [escL] at he
    split at he
    ·rename_i hE
     cases he
     exact .two hE hb
    ·split at he
     ·rename_i hu
      subst hu
      obtain ⟨v, hv, he⟩ := Option.bind_eq_some_iff.mp he
      cases he
      match l, hv, hb with
      | a :: b :: c :: d :: l, hv, hb => exact .six hv hb
     ·cases he
theorem eB_len' (r : Int) : (eB r).length ≤ 4 := (eB_len r).2
theorem stp_ok {r : List Int} (hr : ∀ x ∈ 92 :: r, 0 ≤ x ∧ x ≤ 255) (k : Nat) : ∃ t, stp (k + 5) (92 :: r) = some t ∧ (t.1 = -1 ∧ okL (92 :: r) = false ∨ ∃ m : Nat, t.1 = (m : Int) ∧ 1 ≤ m ∧ m ≤ (92 :: r).length ∧ t.2.length ≤ m ∧ okL (92 :: r) = okL ((92 :: r).drop m)) := by
 refine ⟨_, stp_eq hr k, ?_⟩
 cases r with
 | nil =>
  left
  rw [if_pos (by simp)]
  exact ⟨rfl, okL_none rfl⟩
 | cons b r =>
  rw [if_neg zq20, if_pos (by rfl)]
  have e1 : rd (92 :: b :: r) 1 = b := rfl
  rw [e1]
  by_cases hE : isE b = true
  ·right
   rw [if_pos hE]
   exact ⟨2, rfl, by omega, by simp, by simp, okL_some (escL_let r hE)⟩
  rw [if_neg hE]
  by_cases hu : b = 117
  rotate_left
  ·left
   rw [if_neg hu]
   refine ⟨rfl, okL_none ?_⟩
   rw [escL, if_neg hE, if_neg hu]
  subst hu
  rw [if_pos rfl]
  have hsix : ∀ {v : Int}, hex4 r = some v → okL (92 :: 117 :: r) = okL ((92 :: 117 :: r).drop 6) ∧ 6 ≤ (92 :: 117 :: r).length := by
   intro v hv
   have hl := hex4_len hv
   refine ⟨?_, by simp; omega⟩
   have he : escL (117 :: r) = some (r.drop 4) := by
    rw [escL, if_neg hE, if_pos rfl, hv]
    rfl
   rw [okL_some he]
   rfl
  have hd6 : dS (92 :: 117 :: r) = match hex4 r with | some v => (v, true) | none => (65533, false) := by
   unfold dS
   by_cases h6 : ((92 :: 117 :: r : List Int).length : Int) < 6
   rotate_left
   ·rw [if_neg h6]
    rfl
   rw [if_pos h6]
   cases hx : hex4 r with
   | none => rfl
   | some v =>
    have := hex4_len hx
    simp only [List.length_cons] at h6
    omega
  cases hx : hex4 r with
  | none =>
   left
   rw [hx] at hd6
   have hU : dU (92 :: 117 :: r) = (65533, -1) := by
    unfold dU
    rw [hd6]
    rfl
   rw [hU, if_pos rfl]
   refine ⟨rfl, okL_none ?_⟩
   rw [escL, if_neg hE, if_pos rfl, hx]
   rfl
  | some v =>
   rw [hx] at hd6
   obtain ⟨hk6, hl6⟩ := hsix hx
   have six : ∀ {q : Int}, dU (92 :: 117 :: r) = (q, 6) → ((if (dU (92 :: 117 :: r)).2 = -1 then ((-1 : Int), ([] : List Int)) else ((dU (92 :: 117 :: r)).2, eB (dU (92 :: 117 :: r)).1)).1 = -1 ∧ okL (92 :: 117 :: r) = false ∨ ∃ m : Nat, (if (dU (92 :: 117 :: r)).2 = -1 then ((-1 : Int), ([] : List Int)) else ((dU (92 :: 117 :: r)).2, eB (dU (92 :: 117 :: r)).1)).1 = (m : Int) ∧ 1 ≤ m ∧ m ≤ (92 :: 117 :: r).length ∧ (if (dU (92 :: 117 :: r)).2 = -1 then ((-1 : Int), ([] : List Int)) else ((dU (92 :: 117 :: r)).2, eB (dU (92 :: 117 :: r)).1)).2.length ≤ m ∧ okL (92 :: 117 :: r) = okL ((92 :: 117 :: r).drop m)) := by
    intro q hq
    right
    rw [hq, if_neg (by simp only; omega)]
    have := eB_len' q
    exact ⟨6, rfl, by omega, hl6, by simp only; omega, hk6⟩
   unfold dU at six ⊢
   rw [hd6] at six ⊢
   simp only [if_true] at six ⊢
   by_cases hsu : 55296 ≤ v ∧ v ≤ 57343
   rotate_left
   ·rw [if_neg hsu] at six ⊢
    exact six rfl
   rw [if_pos hsu] at six ⊢
   by_cases hlo : v ≥ 56320
   ·rw [if_pos hlo] at six ⊢
    exact six rfl
   rw [if_neg hlo] at six ⊢
   by_cases h8 : ((92 :: 117 :: r : List Int).length : Int) < 8 ∨ rd (92 :: 117 :: r) 6 ≠ 92 ∨ rd (92 :: 117 :: r) 7 ≠ 117
   ·rw [if_pos h8] at six ⊢
    exact six rfl
   rw [if_neg h8] at six ⊢
   simp only [not_or, Decidable.not_not] at h8
   obtain ⟨q8, q92, q117⟩ := h8
   have hdr : ∃ r2, (92 :: 117 :: r : List Int).drop 6 = 92 :: 117 :: r2 := by
    simp only [List.length_cons] at q8
    match r, q8, q92, q117 with
    | a :: b :: c :: d :: e :: f :: r2, _, q92, q117 =>
     have k1 : e = 92 := q92
     have k2 : f = 117 := q117
     subst k1
     subst k2
     exact ⟨r2, rfl⟩
    | [], q, _, _ => exact absurd (by simp) q
    | [_], q, _, _ => exact absurd (by simp) q
    | [_, _], q, _, _ => exact absurd (by simp) q
    | [_, _, _], q, _, _ => exact absurd (by simp) q
    | [_, _, _, _], q, _, _ => exact absurd (by simp) q
    | [_, _, _, _, _], q, _, _ => exact absurd (by simp) q
   obtain ⟨r2, hdr⟩ := hdr
   rw [hdr] at six hk6 ⊢
   have hd2 : dS (92 :: 117 :: r2) = match hex4 r2 with | some v => (v, true) | none => (65533, false) := by
    unfold dS
    by_cases h6 : ((92 :: 117 :: r2 : List Int).length : Int) < 6
    rotate_left
    ·rw [if_neg h6]
     rfl
    rw [if_pos h6]
    cases hx : hex4 r2 with
    | none => rfl
    | some v =>
     have := hex4_len hx
     simp only [List.length_cons] at h6
     omega
   cases hx2 : hex4 r2 with
   | none =>
    left
    rw [hx2] at hd2
    rw [hd2]
    simp only [Bool.false_eq_true, if_false, if_true]
    refine ⟨trivial, ?_⟩
    rw [hk6]
    refine okL_none ?_
    rw [escL, if_neg hE, if_pos rfl, hx2]
    rfl
   | some m =>
    rw [hx2] at hd2
    rw [hd2] at six ⊢
    simp only [if_true] at six ⊢
    by_cases hab : m < 56320 ∨ 57343 < m
    ·rw [if_pos hab] at six ⊢
     exact six rfl
    right
    rw [if_neg hab, if_neg (by simp only; omega)]
    have h4 := eB_len' (65536 + (v - 55296) * 1024 + (m - 56320))
    have hl2 := hex4_len hx2
    have hlen : (92 :: 117 :: r : List Int).length = 6 + (92 :: 117 :: r2 : List Int).length := by
     rw [← hdr, List.length_drop]
     omega
    refine ⟨12, rfl, by omega, by rw [hlen]; simp; omega, by simp only; omega, ?_⟩
    rw [hk6]
    have he : escL (117 :: r2) = some (r2.drop 4) := by
     rw [escL, if_neg hE, if_pos rfl, hx2]
     rfl
    rw [okL_some he, show (12 : Nat) = 6 + 6 from rfl, ← List.drop_drop, hdr]
    rfl
theorem jun_ok (k : Nat) : ∀ (n : Nat) (r E : List Int) (f : Nat), (92 :: r).length ≤ n → n < f → (∀ x ∈ 92 :: r, 0 ≤ x ∧ x ≤ 255) → ∃ res, jun (k + 5) f (92 :: r) E = some res ∧ res.isSome = okL (92 :: r) := by
 intro n
 induction n with
 | zero => intro r E f hn; simp at hn
 | succ n ih =>
  intro r E f hn hf hr
  obtain ⟨f, rfl⟩ : ∃ g, f = g + 1 := ⟨f - 1, by omega⟩
  obtain ⟨t, h1, h2⟩ := stp_ok hr k
  rw [jun, h1, Option.bind_some]
  rcases h2 with ⟨h3, h4⟩ | ⟨m, h3, h4, h5, h6, h7⟩
  ·rw [if_pos h3, h4]
   exact ⟨none, rfl, rfl⟩
  ·rw [if_neg (by omega), if_pos ⟨by omega, by omega, by omega⟩, h3, Int.toNat_natCast, h7]
   have hld : ((92 :: r).drop m).length = (92 :: r).length - m := List.length_drop
   have hrd : ∀ x ∈ (92 :: r).drop m, 0 ≤ x ∧ x ≤ 255 := fun x hx => hr x (List.mem_of_mem_drop hx)
   generalize (92 :: r).drop m = l2 at hld hrd ⊢
   rcases ixL_range l2 with hj | ⟨j, hj, hj1, _⟩
   ·rw [if_pos hj, okL_no l2 hj]
    exact ⟨_, rfl, rfl⟩
   ·obtain ⟨h8, r3, h9⟩ := okL_at l2 j hj
    rw [if_neg (by omega), hj, Int.toNat_natCast, h8, h9]
    have hl3 : (92 :: r3).length = l2.length - j := by rw [← h9]; exact List.length_drop
    exact ih r3 _ f (by omega) (by omega) (fun x hx => hrd x (List.mem_of_mem_drop (by rw [h9]; exact hx)))
theorem unc_ok {l : List Int} (hr : ∀ x ∈ l, 0 ≤ x ∧ x ≤ 255) (k : Nat) (hk : l.length + 10 ≤ k) : ∃ res, unc k l = some res ∧ res.isSome = okL l := by
 obtain ⟨k, rfl⟩ : ∃ j, k = j + 5 := ⟨k - 5, by omega⟩
 unfold unc
 rcases ixL_range l with hj | ⟨j, hj, hj1, _⟩
 ·rw [if_pos hj, okL_no l hj]
  exact ⟨_, rfl, rfl⟩
 ·obtain ⟨h8, r3, h9⟩ := okL_at l j hj
  rw [if_neg (by omega), hj, Int.toNat_natCast, h8, h9]
  have hl3 : (92 :: r3).length = l.length - j := by rw [← h9]; exact List.length_drop
  exact jun_ok k (92 :: r3).length r3 _ (k + 5) (Nat.le_refl _) (by omega) (fun x hx => hr x (List.mem_of_mem_drop (by rw [h9]; exact hx)))
theorem eB_utf2 {c : Int} : eB c = utf c := by
 unfold eB utf
 split
 ·rfl
 split
 ·rfl
 by_cases h : 55296 ≤ c ∧ c ≤ 57343
 ·have h' : hiS c = true ∨ loS c = true := by simp only [hiS, loS, decide_eq_true_eq]; omega
  rw [if_pos h, if_pos h']
 have h' : ¬ (hiS c = true ∨ loS c = true) := by simp only [hiS, loS, decide_eq_true_eq]; omega
 rw [if_neg h, if_neg h']
theorem utf_half {v : Int} (h : 55296 ≤ v ∧ v ≤ 57343) : utf v = [239, 191, 189] := by
 have h' : hiS v = true ∨ loS v = true := by simp only [hiS, loS, decide_eq_true_eq]; omega
 unfold utf
 rw [if_neg (by omega), if_neg (by omega), if_pos h']
theorem eB_fffd : eB 65533 = [239, 191, 189] := by decide
theorem dS_six2 {a b c d v : Int} (r : List Int) (h : hex4 (a :: b :: c :: d :: r) = some v) (p q : Int) : dS (p :: q :: a :: b :: c :: d :: r) = (v, true) := by
 unfold dS
 rw [if_neg zq20, show List.drop 2 (p :: q :: a :: b :: c :: d :: r) = a :: b :: c :: d :: r from rfl, h]
theorem stp_body {r : List Int} (hb : Body (92 :: r)) (hr : ∀ x ∈ 92 :: r, 0 ≤ x ∧ x ≤ 255) (k : Nat) : ∃ (m : Nat) (x : List Int), stp (k + 5) (92 :: r) = some ((m : Int), x) ∧ 1 ≤ m ∧ m ≤ (92 :: r).length ∧ x.length ≤ m ∧ unqL (92 :: r) = x ++ unqL ((92 :: r).drop m) ∧ Body ((92 :: r).drop m) := by
 rw [stp_eq hr]
 cases hb with
 | raw h1 h2 h3 _ => exact absurd rfl h3
 | @two b l hE hb =>
  refine ⟨2, [unl b], ?_, by omega, by simp, by simp, ?_, hb⟩
  ·rw [if_neg zq20, if_pos (by rfl), if_pos (by exact hE)]
   rfl
  ·rw [unqL_two _ (isE_ne hE)]
   rfl
 | @six a b c d v l hx hb =>
  have hrg := hex4_range hx
  have hl := utf_len v
  have ht : (if ((92 :: 117 :: a :: b :: c :: d :: l : List Int).length : Int) < 2 then ((-1 : Int), ([] : List Int)) else if rd (92 :: 117 :: a :: b :: c :: d :: l) 0 = 92 then (if isE (rd (92 :: 117 :: a :: b :: c :: d :: l) 1) = true then (2, [unl (rd (92 :: 117 :: a :: b :: c :: d :: l) 1)]) else if rd (92 :: 117 :: a :: b :: c :: d :: l) 1 = 117 then (if (dU (92 :: 117 :: a :: b :: c :: d :: l)).2 = -1 then (-1, []) else ((dU (92 :: 117 :: a :: b :: c :: d :: l)).2, eB (dU (92 :: 117 :: a :: b :: c :: d :: l)).1)) else (-1, [])) else (-1, [])) = (if (dU (92 :: 117 :: a :: b :: c :: d :: l)).2 = -1 then (-1, []) else ((dU (92 :: 117 :: a :: b :: c :: d :: l)).2, eB (dU (92 :: 117 :: a :: b :: c :: d :: l)).1)) := by
   rw [if_neg zq20, if_pos (by rfl), if_neg (by exact fun hh => absurd (show isE 117 = true from hh) zq23), if_pos (by rfl)]
  rw [ht]
  have six : ∀ {q : Int} {x : List Int}, dU (92 :: 117 :: a :: b :: c :: d :: l) = (q, 6) → eB q = utf v → pairL v l = none → ∃ (m : Nat) (x : List Int), some (if (dU (92 :: 117 :: a :: b :: c :: d :: l)).2 = -1 then ((-1 : Int), ([] : List Int)) else ((dU (92 :: 117 :: a :: b :: c :: d :: l)).2, eB (dU (92 :: 117 :: a :: b :: c :: d :: l)).1)) = some ((m : Int), x) ∧ 1 ≤ m ∧ m ≤ (92 :: 117 :: a :: b :: c :: d :: l).length ∧ x.length ≤ m ∧ unqL (92 :: 117 :: a :: b :: c :: d :: l) = x ++ unqL ((92 :: 117 :: a :: b :: c :: d :: l).drop m) ∧ Body ((92 :: 117 :: a :: b :: c :: d :: l).drop m) := by
   intro q _ hq he hp
   rw [hq, if_neg (by simp only; omega)]
   refine ⟨6, utf v, by simp only [he]; rfl, by omega, by simp, by omega, ?_, hb⟩
   rw [unqL_six hx, hp]
   rfl
  have hdS := dS_six2 (p := 92) (q := 117) l hx
  by_cases hsu : 55296 ≤ v ∧ v ≤ 57343
  rotate_left
  ·refine six (x := []) (q := v) ?_ eB_utf2 ?_
   ·unfold dU
    rw [hdS]
    simp only [if_true]
    rw [if_neg hsu]
   ·unfold pairL
    have h1 : hiS v = false := by simp only [hiS, decide_eq_false_iff_not]; omega
    rw [h1]
    cases unitL l <;> rfl
  by_cases hlo : v ≥ 56320
  ·refine six (x := []) (q := 65533) ?_ (by rw [eB_fffd, utf_half hsu]) ?_
   ·unfold dU
    rw [hdS]
    simp only [if_true]
    rw [if_pos hsu, if_pos hlo]
   ·unfold pairL
    have h1 : hiS v = false := by simp only [hiS, decide_eq_false_iff_not]; omega
    rw [h1]
    cases unitL l <;> rfl
  cases hu : unitL l with
  | none =>
   refine six (x := []) (q := 65533) ?_ (by rw [eB_fffd, utf_half hsu]) (by unfold pairL; rw [hu]; rfl)
   unfold dU
   rw [hdS]
   simp only [if_true]
   rw [if_pos hsu, if_neg hlo]
   rw [if_pos]
   cases hb with
   | nil => exact .inl (by simp only [List.length_cons, List.length_nil]; omega)
   | @raw c2 l2 g1 g2 g3 _ =>
    refine .inr (.inl ?_)
    show c2 ≠ 92
    exact g3
   | @two b2 l2 hE2 _ =>
    refine .inr (.inr ?_)
    show b2 ≠ 117
    exact isE_ne hE2
   | six hx2 _ =>
    rw [unitL_six hx2] at hu
    cases hu
  | some m =>
   cases hb with
   | nil => simp [unitL] at hu
   | @raw c2 l2 g1 g2 g3 _ =>
    cases l2 with
    | nil => simp [unitL] at hu
    | cons z l2 =>
     simp only [unitL] at hu
     rw [if_neg (fun hh => g3 hh.1)] at hu
     cases hu
   | @two b2 l2 hE2 _ =>
    rw [unitL_two (isE_ne hE2)] at hu
    cases hu
   | @six a2 b2 c2 d2 m2 l2 hx2 hb2 =>
    rw [unitL_six hx2] at hu
    obtain rfl := Option.some.inj hu
    have hrg2 := hex4_range hx2
    have e1 : List.drop 6 (92 :: 117 :: a :: b :: c :: d :: 92 :: 117 :: a2 :: b2 :: c2 :: d2 :: l2) = 92 :: 117 :: a2 :: b2 :: c2 :: d2 :: l2 := rfl
    have e2 : rd (92 :: 117 :: a :: b :: c :: d :: 92 :: 117 :: a2 :: b2 :: c2 :: d2 :: l2) 6 = 92 := rfl
    have e3 : rd (92 :: 117 :: a :: b :: c :: d :: 92 :: 117 :: a2 :: b2 :: c2 :: d2 :: l2) 7 = 117 := rfl
    have hno : ¬ (((92 :: 117 :: a :: b :: c :: d :: 92 :: 117 :: a2 :: b2 :: c2 :: d2 :: l2 : List Int).length : Int) < 8 ∨ (92 : Int) ≠ 92 ∨ (117 : Int) ≠ 117) := by
     simp only [List.length_cons]
     omega
    have hdS2 := dS_six2 (p := 92) (q := 117) l2 hx2
    by_cases hm2 : m2 < 56320 ∨ 57343 < m2
    ·refine six (x := []) (q := 65533) ?_ (by rw [eB_fffd, utf_half hsu]) ?_
     ·unfold dU
      rw [hdS]
      simp only [if_true]
      rw [if_pos hsu, if_neg hlo, e1, e2, e3, if_neg hno, hdS2]
      simp only [if_true]
      rw [if_pos hm2]
     ·unfold pairL
      have h1 : loS m2 = false := by simp only [loS, decide_eq_false_iff_not]; omega
      rw [unitL_six hx2, Option.bind_some, h1, Bool.and_false, if_neg zq23]
    have hU : dU (92 :: 117 :: a :: b :: c :: d :: 92 :: 117 :: a2 :: b2 :: c2 :: d2 :: l2) = (65536 + (v - 55296) * 1024 + (m2 - 56320), 12) := by
     unfold dU
     rw [hdS]
     simp only [if_true]
     rw [if_pos hsu, if_neg hlo, e1, e2, e3, if_neg hno, hdS2]
     simp only [if_true]
     rw [if_neg hm2]
    have hul := utf_len (65536 + (v - 55296) * 1024 + (m2 - 56320))
    rw [hU, if_neg (by simp only; omega)]
    refine ⟨12, utf (65536 + (v - 55296) * 1024 + (m2 - 56320)), by simp only [eB_utf2]; rfl, by omega, by simp, by omega, ?_, hb2⟩
    have hp : pairL v (92 :: 117 :: a2 :: b2 :: c2 :: d2 :: l2) = some m2 := by
     unfold pairL
     have h1 : hiS v = true := by simp only [hiS, decide_eq_true_eq]; omega
     have h2 : loS m2 = true := by simp only [loS, decide_eq_true_eq]; omega
     rw [unitL_six hx2, Option.bind_some, h1, h2]
     rfl
    rw [unqL_six hx, hp]
    rfl
theorem unqL_no : ∀ l : List Int, ixL l = -1 → unqL l = l
 | [], _ => unqL_nil
 | c :: l, h => by
  rw [ixL] at h
  split at h
  ·omega
  ·rename_i hc
   split at h
   ·rename_i h2
    rw [unqL_raw _ hc, unqL_no l h2]
   ·have := ixL_range l
    omega
theorem unqL_at : ∀ (l : List Int) (j : Nat), ixL l = (j : Int) → Body l → unqL l = l.take j ++ unqL (l.drop j) ∧ Body (l.drop j) ∧ ∃ r, l.drop j = 92 :: r
 | [], j, h, _ => by simp only [ixL] at h; omega
 | c :: l, j, h, hb => by
  rw [ixL] at h
  split at h
  ·rename_i hc
   subst hc
   obtain rfl : j = 0 := by omega
   exact ⟨rfl, hb, l, rfl⟩
  ·rename_i hc
   split at h
   ·omega
   ·obtain ⟨j, rfl⟩ : ∃ i, j = i + 1 := ⟨j - 1, by have := ixL_range l; omega⟩
    have hb2 : Body l := by
     cases hb with
     | raw _ _ _ hb => exact hb
     | two _ _ => exact absurd rfl hc
     | six _ _ => exact absurd rfl hc
    obtain ⟨h1, h2, h3⟩ := unqL_at l j (by omega) hb2
    rw [unqL_raw _ hc, List.drop_succ_cons, List.take_succ_cons, List.cons_append, ← h1]
    exact ⟨rfl, h2, h3⟩
theorem jun_body (k : Nat) : ∀ (n : Nat) (r E : List Int) (f : Nat), (92 :: r).length ≤ n → n < f → Body (92 :: r) → (∀ x ∈ 92 :: r, 0 ≤ x ∧ x ≤ 255) → jun (k + 5) f (92 :: r) E = some (some (E ++ unqL (92 :: r))) := by
 intro n
 induction n with
 | zero => intro r E f hn; simp at hn
 | succ n ih =>
  intro r E f hn hf hb hr
  obtain ⟨f, rfl⟩ : ∃ g, f = g + 1 := ⟨f - 1, by omega⟩
  obtain ⟨m, x, h1, h4, h5, h6, h7, h8⟩ := stp_body hb hr k
  rw [jun, h1, Option.bind_some]
  simp only
  rw [if_neg (by omega), if_pos ⟨by omega, by omega, by omega⟩, Int.toNat_natCast, h7]
  have hld : ((92 :: r).drop m).length = (92 :: r).length - m := List.length_drop
  have hrd : ∀ x ∈ (92 :: r).drop m, 0 ≤ x ∧ x ≤ 255 := fun x hx => hr x (List.mem_of_mem_drop hx)
  generalize (92 :: r).drop m = l2 at hld hrd h8 ⊢
  rcases ixL_range l2 with hj | ⟨j, hj, hj1, _⟩
  ·rw [if_pos hj, unqL_no l2 hj, List.append_assoc]
  ·obtain ⟨h9, h10, r3, h11⟩ := unqL_at l2 j hj h8
   rw [if_neg (by omega), hj, Int.toNat_natCast, h9, h11]
   have hl3 : (92 :: r3).length = l2.length - j := by rw [← h11]; exact List.length_drop
   rw [ih r3 _ f (by omega) (by omega) (by rw [← h11]; exact h10) (fun x hx => hrd x (List.mem_of_mem_drop (by rw [h11]; exact hx)))]
   simp only [List.append_assoc]
theorem unc_body {b : List Int} (hb : Body b) (hr : ∀ x ∈ b, 0 ≤ x ∧ x ≤ 255) (k : Nat) (hk : b.length + 10 ≤ k) : unc k b = some (some (unqL b)) := by
 obtain ⟨k, rfl⟩ : ∃ j, k = j + 5 := ⟨k - 5, by omega⟩
 unfold unc
 rcases ixL_range b with hj | ⟨j, hj, hj1, _⟩
 ·rw [if_pos hj, unqL_no b hj]
 ·obtain ⟨h9, h10, r3, h11⟩ := unqL_at b j hj hb
  rw [if_neg (by omega), hj, Int.toNat_natCast, h9, h11]
  have hl3 : (92 :: r3).length = b.length - j := by rw [← h11]; exact List.length_drop
  exact jun_body k (92 :: r3).length r3 _ (k + 5) (Nat.le_refl _) (by omega) (by rw [← h11]; exact h10) (fun x hx => hr x (List.mem_of_mem_drop (by rw [h11]; exact hx)))
def scL : List Int → Option (List Int × List Int)
  | [] => none
  | [c] => if c = 34 then some ([], []) else none
  | c :: d :: l => if c = 92 then (scL l).map (fun x => (c :: d :: x.1, x.2)) else if c = 34 then some ([], d :: l) else if c < 32 then none else (scL (d :: l)).map (fun x => (c :: x.1, x.2))
termination_by l => l.length
theorem scL_nil : scL [] = none := by rw [scL]
theorem scL_end (t : List Int) : scL (34 :: t) = some ([], t) := by
 cases t with
 | nil => rw [scL, if_pos rfl]
 | cons d l => rw [scL, if_neg zq23, if_pos rfl]
theorem scL_raw {c : Int} (t : List Int) (h1 : c ≠ 34) (h2 : ¬ c < 32) (h3 : c ≠ 92) : scL (c :: t) = (scL t).map (fun x => (c :: x.1, x.2)) := by
 cases t with
 | nil =>
  have e : scL [c] = if c = 34 then some ([], []) else none := by rw [scL]
  rw [e, if_neg h1, scL_nil]
  rfl
 | cons d l => rw [scL, if_neg h3, if_neg h1, if_neg h2]
theorem scL_low {c : Int} (t : List Int) (h2 : c < 32) : scL (c :: t) = none := by
 cases t with
 | nil => rw [scL, if_neg (by omega)]
 | cons d l => rw [scL, if_neg (by omega), if_neg (by omega), if_pos h2]
theorem scL_esc (d : Int) (t : List Int) : scL (92 :: d :: t) = (scL t).map (fun x => (92 :: d :: x.1, x.2)) := by rw [scL, if_pos rfl]
theorem scL_esc1 : scL [92] = none := by rw [scL, if_neg zq23]
theorem scL_split : ∀ (n : Nat) (l x r : List Int), l.length ≤ n → scL l = some (x, r) → l = x ++ 34 :: r
 | 0, l, x, r, hn, h => by
  obtain rfl := List.length_eq_zero_iff.mp (Nat.le_zero.mp hn)
  rw [scL_nil] at h
  cases h
 | n + 1, [], x, r, _, h => by rw [scL_nil] at h; cases h
 | n + 1, c :: t, x, r, hn, h => by
  simp only [List.length_cons] at hn
  by_cases h1 : c = 34
  ·subst h1
   rw [scL_end] at h
   cases h
   rfl
  by_cases h3 : c = 92
  ·subst h3
   match t, hn, h with
   | [], _, h => rw [scL_esc1] at h; cases h
   | d :: t, hn, h =>
    rw [scL_esc] at h
    obtain ⟨⟨x', r'⟩, h4, h5⟩ := Option.map_eq_some_iff.mp h
    cases h5
    have := scL_split n t x' r' (by simp only [List.length_cons] at hn; omega) h4
    subst this
    rfl
  by_cases h2 : c < 32
  ·rw [scL_low _ h2] at h
   cases h
  rw [scL_raw _ h1 h2 h3] at h
  obtain ⟨⟨x', r'⟩, h4, h5⟩ := Option.map_eq_some_iff.mp h
  cases h5
  have := scL_split n t x' r' (by omega) h4
  subst this
  rfl
theorem hexv_raw {c v : Int} (h : hexv c = some v) : c ≠ 34 ∧ ¬ c < 32 ∧ c ≠ 92 := by
 unfold hexv at h
 split at h
 ·omega
 split at h
 ·omega
 split at h
 ·omega
 ·cases h
theorem hex4_raw {a b c d v : Int} {l : List Int} (h : hex4 (a :: b :: c :: d :: l) = some v) : (a ≠ 34 ∧ ¬ a < 32 ∧ a ≠ 92) ∧ (b ≠ 34 ∧ ¬ b < 32 ∧ b ≠ 92) ∧ (c ≠ 34 ∧ ¬ c < 32 ∧ c ≠ 92) ∧ (d ≠ 34 ∧ ¬ d < 32 ∧ d ≠ 92) := by
 simp only [hex4] at h
 cases ha : hexv a with
 | none => simp [ha] at h
 | some va =>
  cases hb : hexv b with
  | none => simp [ha, hb] at h
  | some vb =>
   cases hc : hexv c with
   | none => simp [ha, hb, hc] at h
   | some vc =>
    cases hd : hexv d with
    | none => simp [ha, hb, hc, hd] at h
    | some vd => exact ⟨hexv_raw ha, hexv_raw hb, hexv_raw hc, hexv_raw hd⟩
theorem scL_body {b : List Int} (h : Body b) (r : List Int) : scL (b ++ 34 :: r) = some (b, r) := by
 induction h with
 | nil => exact scL_end r
 | raw h1 h2 h3 _ ih =>
  rw [List.cons_append, scL_raw _ h1 h2 h3, ih]
  rfl
 | two _ _ ih =>
  rw [List.cons_append, List.cons_append, scL_esc, ih]
  rfl
 | six hx _ ih =>
  obtain ⟨⟨a1, a2, a3⟩, ⟨b1, b2, b3⟩, ⟨c1, c2, c3⟩, d1, d2, d3⟩ := hex4_raw hx
  simp only [List.cons_append]
  rw [scL_esc, scL_raw _ a1 a2 a3, scL_raw _ b1 b2 b3, scL_raw _ c1 c2 c3, scL_raw _ d1 d2 d3, ih]
  rfl
theorem scL_inv {l y r : List Int} {c : Int} (h : scL l = some (c :: y, r)) (hc : c ≠ 92) : ∃ t, l = c :: t ∧ scL t = some (y, r) := by
 match l, h with
 | [], h => rw [scL_nil] at h; cases h
 | e :: t, h =>
  by_cases h1 : e = 34
  ·subst h1
   rw [scL_end] at h
   cases h
  by_cases h3 : e = 92
  ·subst h3
   match t, h with
   | [], h => rw [scL_esc1] at h; cases h
   | d :: t, h =>
    rw [scL_esc] at h
    obtain ⟨⟨x', r'⟩, h4, h5⟩ := Option.map_eq_some_iff.mp h
    cases h5
    exact absurd rfl hc
  by_cases h2 : e < 32
  ·rw [scL_low _ h2] at h
   cases h
  rw [scL_raw _ h1 h2 h3] at h
  obtain ⟨⟨x', r'⟩, h4, h5⟩ := Option.map_eq_some_iff.mp h
  cases h5
  exact ⟨t, rfl, h4⟩
theorem scL_ok : ∀ (n : Nat) (l x r : List Int), l.length ≤ n → scL l = some (x, r) → okL x = true → Body x
 | 0, l, x, r, hn, h, _ => by
  obtain rfl := List.length_eq_zero_iff.mp (Nat.le_zero.mp hn)
  rw [scL_nil] at h
  cases h
 | n + 1, [], x, r, _, h, _ => by rw [scL_nil] at h; cases h
 | n + 1, c :: t, x, r, hn, h, hk => by
  simp only [List.length_cons] at hn
  by_cases h1 : c = 34
  ·subst h1
   rw [scL_end] at h
   cases h
   exact .nil
  by_cases h3 : c = 92
  ·subst h3
   match t, hn, h with
   | [], _, h => rw [scL_esc1] at h; cases h
   | d :: t, hn, h =>
    simp only [List.length_cons] at hn
    rw [scL_esc] at h
    obtain ⟨⟨x', r'⟩, h4, h5⟩ := Option.map_eq_some_iff.mp h
    cases h5
    cases he : escL (d :: x') with
    | none =>
     rw [okL_none he] at hk
     cases hk
    | some y =>
     rw [okL_some he] at hk
     rcases escL_ex he with ⟨b, hb, e⟩ | ⟨p, q, u, w, v, hv, e⟩
     ·cases e
      exact .two hb (scL_ok n t _ r' (by omega) h4 hk)
     ·cases e
      obtain ⟨⟨_, _, a3⟩, ⟨_, _, b3⟩, ⟨_, _, c3⟩, _, _, d3⟩ := hex4_raw hv
      obtain ⟨t1, rfl, g1⟩ := scL_inv h4 a3
      obtain ⟨t2, rfl, g2⟩ := scL_inv g1 b3
      obtain ⟨t3, rfl, g3⟩ := scL_inv g2 c3
      obtain ⟨t4, rfl, g4⟩ := scL_inv g3 d3
      simp only [List.length_cons] at hn
      exact .six hv (scL_ok n t4 _ r' (by omega) g4 hk)
  by_cases h2 : c < 32
  ·rw [scL_low _ h2] at h
   cases h
  rw [scL_raw _ h1 h2 h3] at h
  obtain ⟨⟨x', r'⟩, h4, h5⟩ := Option.map_eq_some_iff.mp h
  cases h5
  rw [okL_raw _ h3] at hk
  exact .raw h1 h2 h3 (scL_ok n t x' r' (by omega) h4 hk)
theorem okB {b : List Int} (h : Body b) : okL b = true := by
 induction h with
 | nil => rw [okL]
 | raw _ _ h3 _ ih => rw [okL_raw _ h3, ih]
 | two hE _ ih => rw [okL_some (escL_let _ hE), ih]
 | six hx _ ih => rw [okL_some (escL_hex hx), ih]
theorem strL_sc (l : List Int) : (∀ r, strL l = some r → ∃ b, Body b ∧ scL l = some (b, r) ∧ okL b = true) ∧ (strL l = none → ∀ x r, scL l = some (x, r) → okL x = false) := by
 refine ⟨fun r h => ?_, fun h x r hx => ?_⟩
 ·obtain ⟨b, hb, rfl⟩ := strL_iff.mp h
  refine ⟨b, hb, scL_body hb r, ?_⟩
  exact okB hb
 ·cases hk : okL x with
  | false => rfl
  | true =>
   have hb := scL_ok l.length l x r (Nat.le_refl _) hx hk
   have e := scL_split l.length l x r (Nat.le_refl _) hx
   rw [e, strL_body hb] at h
   cases h
theorem sck_eq {a : ByteArray} : ∀ (n i : Nat) (l : List Int) (k : Nat), l.length ≤ n → n < k → From a i l → sck a k (i : Int) = some ((scL l).map fun x => ((i + x.1.length : Nat) : Int))
 | n, i, [], k, _, hk, h => by
  obtain ⟨k, rfl⟩ : ∃ j, k = j + 1 := ⟨k - 1, by omega⟩
  have := h.nil
  rw [sck, if_neg (by omega), scL_nil]
  rfl
 | 0, i, c :: t, k, hn, _, _ => by simp at hn
 | n + 1, i, c :: t, k, hn, hk, h => by
  obtain ⟨k, rfl⟩ : ∃ j, k = j + 1 := ⟨k - 1, by omega⟩
  simp only [List.length_cons] at hn
  rw [sck, if_pos (by have := h.lt; omega), h.bt]
  by_cases h3 : c = 92
  ·subst h3
   rw [if_pos rfl]
   match t, hn, h with
   | [], _, h =>
    have := h.tail.nil
    rw [if_neg (by omega), scL_esc1]
    rfl
   | d :: t, hn, h =>
    simp only [List.length_cons] at hn
    rw [if_pos (by have := h.tail.lt; omega), show (i : Int) + 1 + 1 = ((i + 1 + 1 : Nat) : Int) by omega, sck_eq n (i + 1 + 1) t k (by omega) (by omega) h.tail.tail, scL_esc, Option.map_map]
    cases scL t with
    | none => rfl
    | some x =>
     simp only [Option.map_some, Function.comp, List.length_cons, Option.some.injEq]
     omega
  rw [if_neg h3]
  by_cases h1 : c = 34
  ·subst h1
   rw [if_pos rfl, scL_end]
   simp
  rw [if_neg h1]
  by_cases h2 : c < 32
  ·rw [if_pos h2, scL_low _ h2]
   rfl
  rw [if_neg h2, show (i : Int) + 1 = ((i + 1 : Nat) : Int) by omega, sck_eq n (i + 1) t k (by omega) (by omega) h.tail, scL_raw _ h1 h2 h3, Option.map_map]
  cases scL t with
  | none => rfl
  | some x =>
   simp only [Option.map_some, Function.comp, List.length_cons, Option.some.injEq]
   omega
theorem pqk_eq {a : ByteArray} {i : Nat} {l : List Int} (hs : a.size ≤ 2147483647) (h : From a i (34 :: l)) (k : Nat) (hk : a.size + 20 ≤ k) :
 (∀ r, strL l = some r → ∃ b, Body b ∧ l = b ++ 34 :: r ∧ jsonparser_parseQuotedPathKey.f k a (i : Int) = some (strOfNums (unqL b), ((a.size - r.length : Nat) : Int), none)) ∧
 (strL l = none → jsonparser_parseQuotedPathKey.f k a (i : Int) = some (⟨#[]⟩, 0, some 0)) := by
 have hlen := h.len
 have hlt := h.lt
 simp only [List.length_cons] at hlen
 have hf : jsonparser_parseQuotedPathKey.f k a (i : Int) = (some ((scL l).map fun x => ((i + 1 + x.1.length : Nat) : Int))).bind (pqK a k ((i + 1 : Nat) : Int)) := by
  unfold jsonparser_parseQuotedPathKey.f
  rw [if_pos ⟨hs, by omega, by omega⟩, show (i : Int) + 1 = ((i + 1 : Nat) : Int) by omega, sck_eq l.length (i + 1) l k (Nat.le_refl _) (by omega) h.tail]
 have at_ : ∀ b r, scL l = some (b, r) → jsonparser_parseQuotedPathKey.f k a (i : Int) = (unc k b).bind fun q => some (pqR q ((i + 1 + b.length : Nat) : Int)) := fun b r hb => by
  have e := scL_split l.length l b r (Nat.le_refl _) hb
  rw [hf, hb, Option.map_some, Option.bind_some, pqK, Int.toNat_natCast, Int.toNat_natCast, (show From a (i + 1) (b ++ 34 :: r) by rw [← e]; exact h.tail).extract]
 have hS := strL_sc l
 refine ⟨fun r hr => ?_, fun hr => ?_⟩
 ·obtain ⟨b, hb, hsc, _⟩ := hS.1 r hr
  have e := scL_split l.length l b r (Nat.le_refl _) hsc
  refine ⟨b, hb, e, ?_⟩
  have hl2 : l.length = b.length + (r.length + 1) := by rw [e]; simp
  rw [at_ b r hsc, unc_body hb (fun x hx => h.tail.range x (by rw [e]; simp [hx])) k (by omega), Option.bind_some, pqR]
  congr 3
  omega
 ·cases hsc : scL l with
  | none =>
   rw [hf, hsc]
   rfl
  | some x =>
   obtain ⟨b, r⟩ := x
   have e := scL_split l.length l b r (Nat.le_refl _) hsc
   have hl2 : l.length = b.length + (r.length + 1) := by rw [e]; simp
   obtain ⟨res, h1, h2⟩ := unc_ok (fun x hx => h.tail.range x (by rw [e]; simp [hx])) k (show b.length + 10 ≤ k by omega)
   rw [hS.2 hr b r hsc] at h2
   cases res with
   | some _ => cases h2
   | none =>
    rw [at_ b r hsc, h1]
    rfl
end Go.Proofs.YtafbdpdbagkbgaaDoor.J
end
