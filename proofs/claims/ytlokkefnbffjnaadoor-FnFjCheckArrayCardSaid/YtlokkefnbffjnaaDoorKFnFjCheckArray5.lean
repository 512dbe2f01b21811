/- The words, walks and laws that the proof rests on, laid together (part 5). -/
import Derived.Test.YtlokkefnbffjnaaDoorKFnFjCheckArray4
section
namespace Go.Proofs.YtlokkefnbffjnaaDoor.J
open Go.RowKit Go.Proofs.YtlokkefnbffjnaaDoorW.PrintWords Go.Proofs.YtlokkefnbffjnaaDoorW.PrintLast Go.Proofs.YtlokkefnbffjnaaDoorW.PrintMore
attribute [local go_sem] max2_int min2_int max_two min_two max_three min_three max_four min_four
set_option linter.unusedVariables false
set_option linter.unusedSimpArgs false
attribute [-simp] ByteArray.size_extract
def spec_short.f (a0 : Int) : Option (Int) := if a0 = 98 then (some 8) else (if a0 = 102 then (some 12) else (if a0 = 110 then (some 10) else (if a0 = 114 then (some 13) else (if a0 = 116 then (some 9) else (some a0)))))
set_option maxHeartbeats 8000000 in
set_option maxRecDepth 100000 in
theorem spec_short.calls (a0 : Int) (r : Int) (w : World) (h : spec_short.f a0 = some r) :
 Calls Tryd.prog 49 #[.int .u8 a0] w fun e w' => e = .returned (.int .u8 r) ∧ Drawn0 w w' := by
 have H : (if a0 = 98 then (some 8) else (if a0 = 102 then (some 12) else (if a0 = 110 then (some 10) else (if a0 = 114 then (some 13) else (if a0 = 116 then (some 9) else (some a0)))))) = some r := h
 clear h
 by_cases c2 : a0 = 98
 ·rw [if_pos c2] at H
  have c2b0 : (a0 == 98) = true := beq_iff_eq.mpr c2
  have c2b1 : (a0 != 98) = false := bne_eq_false_iff_eq.mpr c2
  clear c2
  obtain rfl := Option.some.inj H
  go_enter Tryd.func49, Tryd.ntmps49
  go_wp2
  go_ret
  exact ⟨by rfl, by repeat (first | exact Drawn0.refl _ | apply Drawn0.step)⟩
 rw [if_neg c2] at H
 have c2b0 : (a0 == 98) = false := beq_eq_false_iff_ne.mpr c2
 have c2b1 : (a0 != 98) = true := bne_iff_ne.mpr c2
 by_cases c3 : a0 = 102
 ·rw [if_pos c3] at H
  have c3b0 : (a0 == 102) = true := beq_iff_eq.mpr c3
  have c3b1 : (a0 != 102) = false := bne_eq_false_iff_eq.mpr c3
  clear c3
  obtain rfl := Option.some.inj H
  go_enter Tryd.func49, Tryd.ntmps49
  go_wp2
  go_ret
  exact ⟨by rfl, by repeat (first | exact Drawn0.refl _ | apply Drawn0.step)⟩
 rw [if_neg c3] at H
 have c3b0 : (a0 == 102) = false := beq_eq_false_iff_ne.mpr c3
 have c3b1 : (a0 != 102) = true := bne_iff_ne.mpr c3
 by_cases c4 : a0 = 110
 ·rw [if_pos c4] at H
  have c4b0 : (a0 == 110) = true := beq_iff_eq.mpr c4
  have c4b1 : (a0 != 110) = false := bne_eq_false_iff_eq.mpr c4
  clear c4
  obtain rfl := Option.some.inj H
  go_enter Tryd.func49, Tryd.ntmps49
  go_wp2
  go_ret
  exact ⟨by rfl, by repeat (first | exact Drawn0.refl _ | apply Drawn0.step)⟩
 rw [if_neg c4] at H
 have c4b0 : (a0 == 110) = false := beq_eq_false_iff_ne.mpr c4
 have c4b1 : (a0 != 110) = true := bne_iff_ne.mpr c4
 by_cases c5 : a0 = 114
 ·rw [if_pos c5] at H
  have c5b0 : (a0 == 114) = true := beq_iff_eq.mpr c5
  have c5b1 : (a0 != 114) = false := bne_eq_false_iff_eq.mpr c5
  clear c5
  obtain rfl := Option.some.inj H
  go_enter Tryd.func49, Tryd.ntmps49
  go_wp2
  go_ret
  exact ⟨by rfl, by repeat (first | exact Drawn0.refl _ | apply Drawn0.step)⟩
 rw [if_neg c5] at H
 have c5b0 : (a0 == 114) = false := beq_eq_false_iff_ne.mpr c5
 have c5b1 : (a0 != 114) = true := bne_iff_ne.mpr c5
 by_cases c6 : a0 = 116
 rotate_left
 ·rw [if_neg c6] at H
  have c6b0 : (a0 == 116) = false := beq_eq_false_iff_ne.mpr c6
  have c6b1 : (a0 != 116) = true := bne_iff_ne.mpr c6
  obtain rfl := Option.some.inj H
  go_enter Tryd.func49, Tryd.ntmps49
  go_wp2
  go_ret
  exact ⟨by rfl, by repeat (first | exact Drawn0.refl _ | apply Drawn0.step)⟩
 rw [if_pos c6] at H
 have c6b0 : (a0 == 116) = true := beq_iff_eq.mpr c6
 have c6b1 : (a0 != 116) = false := bne_eq_false_iff_eq.mpr c6
 clear c6
 obtain rfl := Option.some.inj H
 go_enter Tryd.func49, Tryd.ntmps49
 go_wp2
 go_ret
 exact ⟨by rfl, by repeat (first | exact Drawn0.refl _ | apply Drawn0.step)⟩
def spec_high.f (a0 : Int) : Option (Bool) := if 55296 ≤ a0 then (some (decide (a0 ≤ 56319))) else (some false)
set_option maxHeartbeats 8000000 in
set_option maxRecDepth 100000 in
theorem spec_high.calls (a0 : Int) (r : Bool) (w : World) (h : spec_high.f a0 = some r) :
 Calls Tryd.prog 50 #[.int .i64 a0] w fun e w' => e = .returned (.bool r) ∧ Drawn0 w w' := by
 have H : (if 55296 ≤ a0 then (some (decide (a0 ≤ 56319))) else (some false)) = some r := h
 clear h
 by_cases c2 : 55296 ≤ a0
 ·rw [if_pos c2] at H
  have c2b0 : decide (55296 ≤ a0) = true := decide_eq_true c2
  clear c2
  obtain rfl := Option.some.inj H
  go_enter Tryd.func50, Tryd.ntmps50
  go_wp2
  go_ret
  exact ⟨by rfl, by repeat (first | exact Drawn0.refl _ | apply Drawn0.step)⟩
 rw [if_neg c2] at H
 have c2b0 : decide (55296 ≤ a0) = false := decide_eq_false c2
 clear c2
 obtain rfl := Option.some.inj H
 go_enter Tryd.func50, Tryd.ntmps50
 go_wp2
 go_ret
 exact ⟨by rfl, by repeat (first | exact Drawn0.refl _ | apply Drawn0.step)⟩
def spec_low.f (a0 : Int) : Option (Bool) := if 56320 ≤ a0 then (some (decide (a0 ≤ 57343))) else (some false)
set_option maxHeartbeats 8000000 in
set_option maxRecDepth 100000 in
theorem spec_low.calls (a0 : Int) (r : Bool) (w : World) (h : spec_low.f a0 = some r) :
 Calls Tryd.prog 51 #[.int .i64 a0] w fun e w' => e = .returned (.bool r) ∧ Drawn0 w w' := by
 have H : (if 56320 ≤ a0 then (some (decide (a0 ≤ 57343))) else (some false)) = some r := h
 clear h
 by_cases c2 : 56320 ≤ a0
 ·rw [if_pos c2] at H
  have c2b0 : decide (56320 ≤ a0) = true := decide_eq_true c2
  clear c2
  obtain rfl := Option.some.inj H
  go_enter Tryd.func51, Tryd.ntmps51
  go_wp2
  go_ret
  exact ⟨by rfl, by repeat (first | exact Drawn0.refl _ | apply Drawn0.step)⟩
 rw [if_neg c2] at H
 have c2b0 : decide (56320 ≤ a0) = false := decide_eq_false c2
 clear c2
 obtain rfl := Option.some.inj H
 go_enter Tryd.func51, Tryd.ntmps51
 go_wp2
 go_ret
 exact ⟨by rfl, by repeat (first | exact Drawn0.refl _ | apply Drawn0.step)⟩
def spec_appendUTF8.j0 : Nat → List Int → Int → Bool → Option (List Int)
  | 0, _, _, _ => none
  | k + 1, x0, x1, x27 => if x27 = true then ((some (([239, 191, 189] : List Int) : List Int)).bind fun y112 => (if x0.length + y112.length < 140737488355328 then (some (x0 ++ y112)) else (none))) else (if x1 < 65536 then ((some (([(wrap64 (224 + (wrap64 (Int.tdiv x1 4096)))) % 256, (wrap64 (128 + (Int.tmod (wrap64 (Int.tdiv x1 64)) 64))) % 256, (wrap64 (128 + (Int.tmod x1 64))) % 256] : List Int) : List Int)).bind fun y118 => (if x0.length + y118.length < 140737488355328 then (some (x0 ++ y118)) else (none))) else ((some (([(wrap64 (240 + (wrap64 (Int.tdiv x1 262144)))) % 256, (wrap64 (128 + (Int.tmod (wrap64 (Int.tdiv x1 4096)) 64))) % 256, (wrap64 (128 + (Int.tmod (wrap64 (Int.tdiv x1 64)) 64))) % 256, (wrap64 (128 + (Int.tmod x1 64))) % 256] : List Int) : List Int)).bind fun y124 => (if x0.length + y124.length < 140737488355328 then (some (x0 ++ y124)) else (none))))
def spec_appendUTF8.f (k : Nat) (l0 : List Int) (a1 : Int) : Option (List Int) := if a1 < 128 then (if l0.length < 140737488355328 then (some (l0 ++ [(a1) % 256])) else (none)) else (if a1 < 2048 then ((some (([(wrap64 (192 + (wrap64 (Int.tdiv a1 64)))) % 256, (wrap64 (128 + (Int.tmod a1 64))) % 256] : List Int) : List Int)).bind fun y104 => (if l0.length + y104.length < 140737488355328 then (some (l0 ++ y104)) else (none))) else ((spec_high.f a1).bind fun t110 => (if t110 = true then (spec_appendUTF8.j0 k l0 a1 true) else ((spec_low.f a1).bind fun t111 => (spec_appendUTF8.j0 k l0 a1 t111)))))
theorem spec_appendUTF8.mono_l : ∀ k, (∀ y0 y1 y2, LeO (spec_appendUTF8.j0 k y0 y1 y2) (spec_appendUTF8.j0 (k + 1) y0 y1 y2))
 | 0 => fun _ _ _ r h => by simp [spec_appendUTF8.j0] at h
 | k + 1 => by
  have ih0 := spec_appendUTF8.mono_l k
  ·intro y0 y1 y2
   unfold spec_appendUTF8.j0
   repeat' first
   | (with_reducible exact ih0 _ _ _)
   | (with_reducible exact LeO.refl _)
   | (with_reducible exact LeO.none _)
   | (with_reducible refine LeO.ite ?_ ?_)
   | (with_reducible refine LeO.bind ?_ (fun _ => ?_))
   | exact ih0 _ _ _
   | exact LeO.none _
   | refine LeO.ite ?_ ?_
   | refine LeO.bind ?_ (fun _ => ?_)
theorem spec_appendUTF8.mono : ∀ a0 a1 k, LeO (spec_appendUTF8.f k a0 a1) (spec_appendUTF8.f (k + 1) a0 a1) := by
 intro a0 a1 k
 have ih0 := spec_appendUTF8.mono_l k
 unfold spec_appendUTF8.f
 repeat' first
  | (with_reducible exact ih0 _ _ _)
  | (with_reducible exact LeO.refl _)
  | (with_reducible exact LeO.none _)
  | (with_reducible refine LeO.ite ?_ ?_)
  | (with_reducible refine LeO.bind ?_ (fun _ => ?_))
  | exact ih0 _ _ _
  | exact LeO.none _
  | refine LeO.ite ?_ ?_
  | refine LeO.bind ?_ (fun _ => ?_)
set_option maxHeartbeats 8000000 in
set_option maxRecDepth 100000 in
theorem spec_appendUTF8.calls (k : Nat) (P0_ : Nat → Prop) (u9000_ : Value) (l0 : List Int) (a1 : Int) (r : List Int) (w0 w : World) (hB : Below w0.heap.size w0 w) (ho0 : Kd.R (Kd.int .u8) 5 w w0.heap.size P0_ u9000_ l0) (h : spec_appendUTF8.f k l0 a1 = some r) :
 Calls Tryd.prog 52 #[u9000_, .int .i64 a1] w fun e w' => ∃ v0_ : Value, e = .returned (v0_) ∧ Kd.R (Kd.int .u8) 5 w' w0.heap.size (fun k_ => (P0_ k_ ∨ w.heap.size ≤ k_)) v0_ r ∧ Below w0.heap.size w0 w' ∧ Kept w w' (fun k_ => P0_ k_) := by
 have HO0 := mk0 (show Kd.R (Kd.int .u8) 5 w w0.heap.size (fun k_ => (P0_ k_ ∨ w.heap.size ≤ k_)) u9000_ l0 from Kd.R_mono ho0 (fun k_ hk => (.inl hk)))
 have HK := mk0 (Kept.refl w (fun k_ => P0_ k_))
 have HW0 := mk0 hB.size
 have HB := mk0 hB
 clear hB
 have H : (if a1 < 128 then (if l0.length < 140737488355328 then (some (l0 ++ [(a1) % 256])) else (none)) else (if a1 < 2048 then ((some (([(wrap64 (192 + (wrap64 (Int.tdiv a1 64)))) % 256, (wrap64 (128 + (Int.tmod a1 64))) % 256] : List Int) : List Int)).bind fun y104 => (if l0.length + y104.length < 140737488355328 then (some (l0 ++ y104)) else (none))) else ((spec_high.f a1).bind fun t110 => (if t110 = true then (spec_appendUTF8.j0 k l0 a1 true) else ((spec_low.f a1).bind fun t111 => (spec_appendUTF8.j0 k l0 a1 t111)))))) = some r := h
 clear h
 by_cases c3 : a1 < 128
 ·rw [if_pos c3] at H
  have c3b0 : decide (a1 < 128) = true := decide_eq_true c3
  clear c3
  by_cases c4 : l0.length < 140737488355328
  rotate_left
  ·rw [if_neg c4] at H
   exact absurd H (by simp)
  rw [if_pos c4] at H
  have LMc4 := mk0 c4
  clear c4
  obtain ⟨y101, hy101⟩ : ∃ y_ : List Int, y_ = (l0 ++ [(a1) % 256]) := ⟨_, rfl⟩
  replace H : (some y101) = some r := by (rw [hy101]; with_reducible exact H)
  have Ny101 := mk0 hy101
  clear hy101
  obtain rfl := Option.some.inj H
  go_enter Tryd.func52, Tryd.ntmps52
  go_wp2_with (first | ((with_reducible refine gate_builtin (b := .append) (xs := #[.tmp 8, .tmp 11]) rfl ?_); at_builtin; refine Kd.R_append (Kd.int .u8) (w0 := w0) w0.heap.size rfl (.tmp 8) (.tmp 11) 29 5 (.int .u8 0) 1 rfl Tryd.underlying29 info5 rfl zq47 (by omega) u9000_ l0 ((a1) % 256) [.int .u8 ((a1) % 256)] (fun k_ => (P0_ k_ ∨ w.heap.size ≤ k_)) (fun _ => False) rfl rfl ?aP (fun _ hk => hk.elim) ?aF ?aO ?aB ?aS ?aL ?_; (case aP => exact rfl); (case aB => exact zq1); (case aF => exact (fun k_ hk => (.inr (Nat.le_trans (by exact HK.out.1) hk)))); (case aO => exact zq57); (case aS => exact (below_size zq1)); (case aL => have := LMc4.out; omega); intro v102 w5 ho hb hg hat; rw [← Ny101.out] at ho; have n0_ := mk0 (hb); have n1_ := mk0 (Kept.of_grown (S := (fun k_ => P0_ k_)) hg zq34 (fun k_ e_ => (HO0.out.1 k_ e_))); have n2_ := mk0 (ho); clear HB HK HO0; have HB := n0_; have HK := n1_; have HO103 := n2_; clear n0_ n1_ n2_; clear ho hb hg hat))
  go_ret
  exact ⟨_, by rfl, by (with_reducible repeat (first | apply Kd.R_alloc | apply Kd.R_drewN | apply Kd.R_drew)); exact HO103.out, by repeat (first | (with_reducible first | exact HB.out | apply below_alloc | apply pw_below_drewN | apply below_drew1) | exact HB.out), by repeat (first | (with_reducible first | exact HK.out | apply Kept.alloc | apply Kept.drewN | apply Kept.drew) | exact HK.out)⟩
 rw [if_neg c3] at H
 have c3b0 : decide (a1 < 128) = false := decide_eq_false c3
 clear c3
 by_cases c6 : a1 < 2048
 ·rw [if_pos c6] at H
  have c6b0 : decide (a1 < 2048) = true := decide_eq_true c6
  clear c6
  obtain ⟨y104, hy104⟩ : ∃ y_ : List Int, y_ = (([(wrap64 (192 + (wrap64 (Int.tdiv a1 64)))) % 256, (wrap64 (128 + (Int.tmod a1 64))) % 256] : List Int)) := ⟨_, rfl⟩
  replace H : (if l0.length + y104.length < 140737488355328 then (some (l0 ++ y104)) else (none)) = some r := by (have H2_ := (Option.bind_some _ _).symm.trans H; rw [hy104]; with_reducible exact H2_)
  have Ny104 := mk0 hy104
  clear hy104
  by_cases c7 : l0.length + y104.length < 140737488355328
  rotate_left
  ·rw [if_neg c7] at H
   exact absurd H (by simp)
  rw [if_pos c7] at H
  have LMc7 := mk0 c7
  clear c7
  obtain ⟨y107, hy107⟩ : ∃ y_ : List Int, y_ = (l0 ++ y104) := ⟨_, rfl⟩
  replace H : (some y107) = some r := by (rw [hy107]; with_reducible exact H)
  have Ny107 := mk0 hy107
  clear hy107
  obtain rfl := Option.some.inj H
  go_enter Tryd.func52, Tryd.ntmps52
  go_wp2_with (first | ((with_reducible refine gate_dst (N := 25) rfl ?_); refine Kd.R_lit (Kd.int .u8) _ 5 ?hg (N := 25) ?hd (xs := ([(wrap64 (192 + (wrap64 (Int.tdiv a1 64)))) % 256, (wrap64 (128 + (Int.tmod a1 64))) % 256] : List Int)) (inner := [.int .u8 ((wrap64 (192 + (wrap64 (Int.tdiv a1 64)))) % 256), .int .u8 ((wrap64 (128 + (Int.tmod a1 64))) % 256)]) (ok := fun _ => True) (okp := fun _ => True) ?hr ?hp (fun _ hk => hk) trivial (Below.refl _ _) (Nat.le_refl _) (by simp) ?_; (case hd => rfl); (case hg => rfl); (case hr => exact zq32); (case hp => exact (Reps.one (show Kd.M (Kd.int .u8) _ _ _ ((wrap64 (192 + (wrap64 (Int.tdiv a1 64)))) % 256) [.int .u8 ((wrap64 (192 + (wrap64 (Int.tdiv a1 64)))) % 256)] from rfl) (Reps.one (show Kd.M (Kd.int .u8) _ _ _ ((wrap64 (128 + (Int.tmod a1 64))) % 256) [.int .u8 ((wrap64 (128 + (Int.tmod a1 64))) % 256)] from rfl) (Reps.none _ _)))); intro v105 w8 ho9 hb hg_ hnew_; clear hg_ hnew_; (first | rw [← Ny104.out] at ho9 | (simp only [Int.reduceToNat] at ho9; rw [← Ny104.out] at ho9)); have HO106 := mk0 (Kd.R_lower (Kd.R_new' (Kd.R_newM (M := fun k_ => (P0_ k_ ∨ w.heap.size ≤ k_)) ho9 (by exact HK.out.1) (fun k_ h_ => .inr h_)) (Kd.R_lt zq57)) (below_size zq1)); replace HO0 := mk0 (Kd.R_elder' zq57 (Kd.R_base ho9) hb); replace HK := mk0 (Kept.below (S := (fun k_ => P0_ k_)) zq34 hb); replace HB := mk0 (below_step zq1 hb); clear hb ho9; obtain ⟨Ao11, co11, eo11⟩ := Kd.R_slice HO106.out; subst eo11) | ((with_reducible refine gate_builtin (b := .append) (xs := #[.tmp 16, .tmp 25]) rfl ?_); at_builtin; refine Kd.R_append_rows (Kd.int .u8) (w0 := w0) w0.heap.size rfl (.tmp 16) (.tmp 25) 29 5 (.int .u8 0) 1 rfl Tryd.underlying29 info5 rfl zq47 (by omega) u9000_ l0 y104 _ _ _ (fun k_ => (P0_ k_ ∨ w.heap.size ≤ k_) ∧ some k_ ≠ (.slice Ao11 y104.length co11 : Value).ownBlock) (fun _ => False) rfl rfl ?aO ?aR (fun _ _ h => h) (fun _ h => h.elim) ?aF ?aB ?aS ?aL ?_; (case aR => repeat (first | exact (Kd.R_reads' HO106.out).2.2 | (with_reducible refine Kd.C_alloc ?_ _) | (with_reducible refine Kd.C_drewN ?_ _) | (with_reducible refine Kd.C_drew ?_))); (case aB => exact zq1); (case aF => exact (fun k_ hk => ⟨(.inr (Nat.le_trans (by exact HK.out.1) hk)), Kd.fresh' (Kd.R_lt zq64) k_ hk⟩)); (case aO => exact zq57); (case aS => exact (below_size zq1)); (case aL => have := LMc7.out; omega); intro v108 w10 ho hb hg hat; rw [← Ny107.out] at ho; have n0_ := mk0 (Kd.R_after (ok := (fun k_ => (P0_ k_ ∨ w.heap.size ≤ k_))) (by (with_reducible repeat (first | apply Kd.R_alloc | apply Kd.R_drewN | apply Kd.R_drew)); exact Kd.R_mono HO106.out (fun _ hk => ⟨hk.1.1, hk.2⟩)) hg hat); have n1_ := mk0 (hb); have n2_ := mk0 (Kept.of_grown (S := (fun k_ => P0_ k_)) hg zq34 (fun k_ e_ => (HO0.out.1 k_ e_).1)); have n3_ := mk0 (ho); clear HO106 HB HK HO0; have HO106 := n0_; have HB := n1_; have HK := n2_; have HO109 := n3_; clear n0_ n1_ n2_ n3_; clear ho hb hg hat))
  go_ret
  exact ⟨_, by rfl, by (with_reducible repeat (first | apply Kd.R_alloc | apply Kd.R_drewN | apply Kd.R_drew)); exact Kd.R_mono HO109.out (fun _ hk => hk.1), by repeat (first | (with_reducible first | exact HB.out | apply below_alloc | apply pw_below_drewN | apply below_drew1) | exact HB.out), by repeat (first | (with_reducible first | exact HK.out | apply Kept.alloc | apply Kept.drewN | apply Kept.drew) | exact HK.out)⟩
 rw [if_neg c6] at H
 have c6b0 : decide (a1 < 2048) = false := decide_eq_false c6
 clear c6
 have HC12 := mk0 H
 clear H
 go_enter Tryd.func52, Tryd.ntmps52
 go_upto_region 5 with (fail)
 go_cut [27] (fun v27 wc => ∃ (kq : Nat) (x27_11 : Bool), v27 = .bool x27_11 ∧ Aside0 (spec_appendUTF8.j0 kq l0 a1 x27_11 = some r) ∧ Aside0 (kq ≤ k) ∧ Aside0 (Kd.R (Kd.int .u8) 5 wc w0.heap.size (fun k_ => (P0_ k_ ∨ w.heap.size ≤ k_)) u9000_ l0) ∧ Aside0 (Kept w wc (fun k_ => P0_ k_)) ∧ Aside0 (Below w0.heap.size w0 wc))
 case first =>
  have H := HC12.out
  clear HC12
  replace H := Option.bind_eq_some_iff.mp H
  obtain ⟨t110, A130, H⟩ := H
  (try dsimp only at H)
  have A13 := mk0 A130
  clear A130
  by_cases c14 : t110 = true
  ·subst c14
   rw [if_pos rfl] at H
   have H' := mk0 H
   clear H
   go_wp2_with (first | ((with_reducible refine gate_callee (f := 50) rfl ?_); refine goesL_ (some 29) rfl rfl Tryd.func50 zq24 rfl #[.int .i64 a1] rfl zq0 ?_; (with_reducible refine (spec_high.calls a1 true _ A13.out).mono ?_); rintro e w' ⟨rfl, ⟨nd, rfl⟩⟩; refine ⟨_, rfl, ?_⟩))
   go_meet
   case rel => exact ⟨_, (true), (by rfl), H', ⟨by omega⟩, ⟨by (with_reducible repeat (first | apply Kd.R_alloc | apply Kd.R_drewN | apply Kd.R_drew)); exact HO0.out⟩, ⟨by repeat (first | (with_reducible first | exact HK.out | apply Kept.alloc | apply Kept.drewN | apply Kept.drew) | exact HK.out)⟩, ⟨by repeat (first | (with_reducible first | exact HB.out | apply below_alloc | apply pw_below_drewN | apply below_drew1) | exact HB.out)⟩⟩
  replace c14 := Bool.eq_false_iff.mpr c14
  subst c14
  rw [if_neg (show ¬ (false = true) by decide)] at H
  replace H := Option.bind_eq_some_iff.mp H
  obtain ⟨t111, A150, H⟩ := H
  (try dsimp only at H)
  have A15 := mk0 A150
  clear A150
  have H' := mk0 H
  clear H
  go_wp2_with (first | ((with_reducible refine gate_callee (f := 50) rfl ?_); refine goesL_ (some 29) rfl rfl Tryd.func50 zq24 rfl #[.int .i64 a1] rfl zq0 ?_; (with_reducible refine (spec_high.calls a1 false _ A13.out).mono ?_); rintro e w' ⟨rfl, ⟨nd, rfl⟩⟩; refine ⟨_, rfl, ?_⟩) | (go_at_call 51; (with_reducible refine (spec_low.calls a1 t111 _ A15.out).mono ?_); rintro e w' ⟨rfl, ⟨nd, rfl⟩⟩))
  go_meet
  case rel => exact ⟨_, (t111), (by rfl), H', ⟨by omega⟩, ⟨by (with_reducible repeat (first | apply Kd.R_alloc | apply Kd.R_drewN | apply Kd.R_drew)); exact HO0.out⟩, ⟨by repeat (first | (with_reducible first | exact HK.out | apply Kept.alloc | apply Kept.drewN | apply Kept.drew) | exact HK.out)⟩, ⟨by repeat (first | (with_reducible first | exact HB.out | apply below_alloc | apply pw_below_drewN | apply below_drew1) | exact HB.out)⟩⟩
 case rest =>
  clear HC12 c3b0 c6b0
  obtain ⟨kq, x27_11, rfl, HA, HJ11, HO_0, HK, HB⟩ := hcut
  cases kq with
  | zero => exact absurd HA.out (by simp [spec_appendUTF8.j0])
  | succ kj11 =>
   have H := HA.out
   clear HA
   simp only [spec_appendUTF8.j0] at H
   by_cases c16 : x27_11 = true
   ·subst c16
    rw [if_pos rfl] at H
    obtain ⟨y112, hy112⟩ : ∃ y_ : List Int, y_ = (([239, 191, 189] : List Int)) := ⟨_, rfl⟩
    replace H : (if l0.length + y112.length < 140737488355328 then (some (l0 ++ y112)) else (none)) = some r := by (have H2_ := (Option.bind_some _ _).symm.trans H; rw [hy112]; with_reducible exact H2_)
    have Ny112 := mk0 hy112
    clear hy112
    by_cases c17 : l0.length + y112.length < 140737488355328
    rotate_left
    ·rw [if_neg c17] at H
     exact absurd H (by simp)
    rw [if_pos c17] at H
    have LMc17 := mk0 c17
    clear c17
    obtain ⟨y115, hy115⟩ : ∃ y_ : List Int, y_ = (l0 ++ y112) := ⟨_, rfl⟩
    replace H : (some y115) = some r := by (rw [hy115]; with_reducible exact H)
    have Ny115 := mk0 hy115
    clear hy115
    obtain rfl := Option.some.inj H
    go_wp2_with (first | ((with_reducible refine gate_dst (N := 35) rfl ?_); refine Kd.R_lit (Kd.int .u8) _ 5 ?hg (N := 35) ?hd (xs := ([239, 191, 189] : List Int)) (inner := [.int .u8 239, .int .u8 191, .int .u8 189]) (ok := fun _ => True) (okp := fun _ => True) ?hr ?hp (fun _ hk => hk) trivial (Below.refl _ _) (Nat.le_refl _) (by simp) ?_; (case hd => rfl); (case hg => rfl); (case hr => exact zq32); (case hp => exact (Reps.one (show Kd.M (Kd.int .u8) _ _ _ 239 [.int .u8 239] from rfl) (Reps.one (show Kd.M (Kd.int .u8) _ _ _ 191 [.int .u8 191] from rfl) (Reps.one (show Kd.M (Kd.int .u8) _ _ _ 189 [.int .u8 189] from rfl) (Reps.none _ _))))); intro v113 w18 ho19 hb hg_ hnew_; clear hg_ hnew_; (first | rw [← Ny112.out] at ho19 | (simp only [Int.reduceToNat] at ho19; rw [← Ny112.out] at ho19)); have HO114 := mk0 (Kd.R_lower (Kd.R_new' (Kd.R_newM (M := fun k_ => (P0_ k_ ∨ w.heap.size ≤ k_)) ho19 (by exact HK.out.1) (fun k_ h_ => .inr h_)) (Kd.R_lt zq38)) (below_size zq1)); replace HO_0 := mk0 (Kd.R_elder' zq38 (Kd.R_base ho19) hb); replace HK := mk0 (Kept.below (S := (fun k_ => P0_ k_)) zq34 hb); replace HB := mk0 (below_step zq1 hb); clear hb ho19; obtain ⟨Ao21, co21, eo21⟩ := Kd.R_slice HO114.out; subst eo21) | ((with_reducible refine gate_builtin (b := .append) (xs := #[.tmp 34, .tmp 35]) rfl ?_); at_builtin; refine Kd.R_append_rows (Kd.int .u8) (w0 := w0) w0.heap.size rfl (.tmp 34) (.tmp 35) 29 5 (.int .u8 0) 1 rfl Tryd.underlying29 info5 rfl zq47 (by omega) u9000_ l0 y112 _ _ _ (fun k_ => (P0_ k_ ∨ w.heap.size ≤ k_) ∧ some k_ ≠ (.slice Ao21 y112.length co21 : Value).ownBlock) (fun _ => False) rfl rfl ?aO ?aR (fun _ _ h => h) (fun _ h => h.elim) ?aF ?aB ?aS ?aL ?_; (case aR => repeat (first | exact (Kd.R_reads' HO114.out).2.2 | (with_reducible refine Kd.C_alloc ?_ _) | (with_reducible refine Kd.C_drewN ?_ _) | (with_reducible refine Kd.C_drew ?_))); (case aB => exact zq1); (case aF => exact (fun k_ hk => ⟨(.inr (Nat.le_trans (by exact HK.out.1) hk)), Kd.fresh' (Kd.R_lt (by (with_reducible repeat (first | apply Kd.R_alloc | apply Kd.R_drewN | apply Kd.R_drew)); exact HO114.out)) k_ hk⟩)); (case aO => exact zq38); (case aS => exact (below_size zq1)); (case aL => have := LMc17.out; omega); intro v116 w20 ho hb hg hat; rw [← Ny115.out] at ho; have n0_ := mk0 (Kd.R_after (ok := (fun k_ => (P0_ k_ ∨ w.heap.size ≤ k_))) (by (with_reducible repeat (first | apply Kd.R_alloc | apply Kd.R_drewN | apply Kd.R_drew)); exact Kd.R_mono HO114.out (fun _ hk => ⟨hk.1.1, hk.2⟩)) hg hat); have n1_ := mk0 (hb); have n2_ := mk0 (Kept.of_grown (S := (fun k_ => P0_ k_)) hg zq34 (fun k_ e_ => (HO_0.out.1 k_ e_).1)); have n3_ := mk0 (ho); clear HO114 HB HK HO_0; have HO114 := n0_; have HB := n1_; have HK := n2_; have HO117 := n3_; clear n0_ n1_ n2_ n3_; clear ho hb hg hat))
    go_ret
    exact ⟨_, by rfl, by (with_reducible repeat (first | apply Kd.R_alloc | apply Kd.R_drewN | apply Kd.R_drew)); exact Kd.R_mono HO117.out (fun _ hk => hk.1), by repeat (first | (with_reducible first | exact HB.out | apply below_alloc | apply pw_below_drewN | apply below_drew1) | exact HB.out), by repeat (first | (with_reducible first | exact HK.out | apply Kept.alloc | apply Kept.drewN | apply Kept.drew) | exact HK.out)⟩
   replace c16 := Bool.eq_false_iff.mpr c16
   subst c16
   rw [if_neg (show ¬ (false = true) by decide)] at H
   by_cases c22 : a1 < 65536
   ·rw [if_pos c22] at H
    have c22b0 : decide (a1 < 65536) = true := decide_eq_true c22
    clear c22
    obtain ⟨y118, hy118⟩ : ∃ y_ : List Int, y_ = (([(wrap64 (224 + (wrap64 (Int.tdiv a1 4096)))) % 256, (wrap64 (128 + (Int.tmod (wrap64 (Int.tdiv a1 64)) 64))) % 256, (wrap64 (128 + (Int.tmod a1 64))) % 256] : List Int)) := ⟨_, rfl⟩
    replace H : (if l0.length + y118.length < 140737488355328 then (some (l0 ++ y118)) else (none)) = some r := by (have H2_ := (Option.bind_some _ _).symm.trans H; rw [hy118]; with_reducible exact H2_)
    have Ny118 := mk0 hy118
    clear hy118
    by_cases c23 : l0.length + y118.length < 140737488355328
    rotate_left
    ·rw [if_neg c23] at H
     exact absurd H (by simp)
    rw [if_pos c23] at H
    have LMc23 := mk0 c23
    clear c23
    obtain ⟨y121, hy121⟩ : ∃ y_ : List Int, y_ = (l0 ++ y118) := ⟨_, rfl⟩
    replace H : (some y121) = some r := by (rw [hy121]; with_reducible exact H)
    have Ny121 := mk0 hy121
    clear hy121
    obtain rfl := Option.some.inj H
    go_wp2_with (first | ((with_reducible refine gate_dst (N := 54) rfl ?_); refine Kd.R_lit (Kd.int .u8) _ 5 ?hg (N := 54) ?hd (xs := ([(wrap64 (224 + (wrap64 (Int.tdiv a1 4096)))) % 256, (wrap64 (128 + (Int.tmod (wrap64 (Int.tdiv a1 64)) 64))) % 256, (wrap64 (128 + (Int.tmod a1 64))) % 256] : List Int)) (inner := [.int .u8 ((wrap64 (224 + (wrap64 (Int.tdiv a1 4096)))) % 256), .int .u8 ((wrap64 (128 + (Int.tmod (wrap64 (Int.tdiv a1 64)) 64))) % 256), .int .u8 ((wrap64 (128 + (Int.tmod a1 64))) % 256)]) (ok := fun _ => True) (okp := fun _ => True) ?hr ?hp (fun _ hk => hk) trivial (Below.refl _ _) (Nat.le_refl _) (by simp) ?_; (case hd => rfl); (case hg => rfl); (case hr => exact zq32); (case hp => exact (Reps.one (show Kd.M (Kd.int .u8) _ _ _ ((wrap64 (224 + (wrap64 (Int.tdiv a1 4096)))) % 256) [.int .u8 ((wrap64 (224 + (wrap64 (Int.tdiv a1 4096)))) % 256)] from rfl) (Reps.one (show Kd.M (Kd.int .u8) _ _ _ ((wrap64 (128 + (Int.tmod (wrap64 (Int.tdiv a1 64)) 64))) % 256) [.int .u8 ((wrap64 (128 + (Int.tmod (wrap64 (Int.tdiv a1 64)) 64))) % 256)] from rfl) (Reps.one (show Kd.M (Kd.int .u8) _ _ _ ((wrap64 (128 + (Int.tmod a1 64))) % 256) [.int .u8 ((wrap64 (128 + (Int.tmod a1 64))) % 256)] from rfl) (Reps.none _ _))))); intro v119 w24 ho25 hb hg_ hnew_; clear hg_ hnew_; (first | rw [← Ny118.out] at ho25 | (simp only [Int.reduceToNat] at ho25; rw [← Ny118.out] at ho25)); have HO120 := mk0 (Kd.R_lower (Kd.R_new' (Kd.R_newM (M := fun k_ => (P0_ k_ ∨ w.heap.size ≤ k_)) ho25 (by exact HK.out.1) (fun k_ h_ => .inr h_)) (Kd.R_lt zq38)) (below_size zq1)); replace HO_0 := mk0 (Kd.R_elder' zq38 (Kd.R_base ho25) hb); replace HK := mk0 (Kept.below (S := (fun k_ => P0_ k_)) zq34 hb); replace HB := mk0 (below_step zq1 hb); clear hb ho25; obtain ⟨Ao27, co27, eo27⟩ := Kd.R_slice HO120.out; subst eo27) | ((with_reducible refine gate_builtin (b := .append) (xs := #[.tmp 40, .tmp 54]) rfl ?_); at_builtin; refine Kd.R_append_rows (Kd.int .u8) (w0 := w0) w0.heap.size rfl (.tmp 40) (.tmp 54) 29 5 (.int .u8 0) 1 rfl Tryd.underlying29 info5 rfl zq47 (by omega) u9000_ l0 y118 _ _ _ (fun k_ => (P0_ k_ ∨ w.heap.size ≤ k_) ∧ some k_ ≠ (.slice Ao27 y118.length co27 : Value).ownBlock) (fun _ => False) rfl rfl ?aO ?aR (fun _ _ h => h) (fun _ h => h.elim) ?aF ?aB ?aS ?aL ?_; (case aR => repeat (first | exact (Kd.R_reads' HO120.out).2.2 | (with_reducible refine Kd.C_alloc ?_ _) | (with_reducible refine Kd.C_drewN ?_ _) | (with_reducible refine Kd.C_drew ?_))); (case aB => exact zq1); (case aF => exact (fun k_ hk => ⟨(.inr (Nat.le_trans (by exact HK.out.1) hk)), Kd.fresh' (Kd.R_lt (by (with_reducible repeat (first | apply Kd.R_alloc | apply Kd.R_drewN | apply Kd.R_drew)); exact HO120.out)) k_ hk⟩)); (case aO => exact zq38); (case aS => exact (below_size zq1)); (case aL => have := LMc23.out; omega); intro v122 w26 ho hb hg hat; rw [← Ny121.out] at ho; have n0_ := mk0 (Kd.R_after (ok := (fun k_ => (P0_ k_ ∨ w.heap.size ≤ k_))) (by (with_reducible repeat (first | apply Kd.R_alloc | apply Kd.R_drewN | apply Kd.R_drew)); exact Kd.R_mono HO120.out (fun _ hk => ⟨hk.1.1, hk.2⟩)) hg hat); have n1_ := mk0 (hb); have n2_ := mk0 (Kept.of_grown (S := (fun k_ => P0_ k_)) hg zq34 (fun k_ e_ => (HO_0.out.1 k_ e_).1)); have n3_ := mk0 (ho); clear HO120 HB HK HO_0; have HO120 := n0_; have HB := n1_; have HK := n2_; have HO123 := n3_; clear n0_ n1_ n2_ n3_; clear ho hb hg hat))
    go_ret
    exact ⟨_, by rfl, by (with_reducible repeat (first | apply Kd.R_alloc | apply Kd.R_drewN | apply Kd.R_drew)); exact Kd.R_mono HO123.out (fun _ hk => hk.1), by repeat (first | (with_reducible first | exact HB.out | apply below_alloc | apply pw_below_drewN | apply below_drew1) | exact HB.out), by repeat (first | (with_reducible first | exact HK.out | apply Kept.alloc | apply Kept.drewN | apply Kept.drew) | exact HK.out)⟩
   rw [if_neg c22] at H
   have c22b0 : decide (a1 < 65536) = false := decide_eq_false c22
   clear c22
   obtain ⟨y124, hy124⟩ : ∃ y_ : List Int, y_ = (([(wrap64 (240 + (wrap64 (Int.tdiv a1 262144)))) % 256, (wrap64 (128 + (Int.tmod (wrap64 (Int.tdiv a1 4096)) 64))) % 256, (wrap64 (128 + (Int.tmod (wrap64 (Int.tdiv a1 64)) 64))) % 256, (wrap64 (128 + (Int.tmod a1 64))) % 256] : List Int)) := ⟨_, rfl⟩
   replace H : (if l0.length + y124.length < 140737488355328 then (some (l0 ++ y124)) else (none)) = some r := by (have H2_ := (Option.bind_some _ _).symm.trans H; rw [hy124]; with_reducible exact H2_)
   have Ny124 := mk0 hy124
   clear hy124
   by_cases c28 : l0.length + y124.length < 140737488355328
   rotate_left
   ·rw [if_neg c28] at H
    exact absurd H (by simp)
   rw [if_pos c28] at H
   have LMc28 := mk0 c28
   clear c28
   obtain ⟨y127, hy127⟩ : ∃ y_ : List Int, y_ = (l0 ++ y124) := ⟨_, rfl⟩
   replace H : (some y127) = some r := by (rw [hy127]; with_reducible exact H)
   have Ny127 := mk0 hy127
   clear hy127
   obtain rfl := Option.some.inj H
   go_wp2_with (first | ((with_reducible refine gate_dst (N := 75) rfl ?_); refine Kd.R_lit (Kd.int .u8) _ 5 ?hg (N := 75) ?hd (xs := ([(wrap64 (240 + (wrap64 (Int.tdiv a1 262144)))) % 256, (wrap64 (128 + (Int.tmod (wrap64 (Int.tdiv a1 4096)) 64))) % 256, (wrap64 (128 + (Int.tmod (wrap64 (Int.tdiv a1 64)) 64))) % 256, (wrap64 (128 + (Int.tmod a1 64))) % 256] : List Int)) (inner := [.int .u8 ((wrap64 (240 + (wrap64 (Int.tdiv a1 262144)))) % 256), .int .u8 ((wrap64 (128 + (Int.tmod (wrap64 (Int.tdiv a1 4096)) 64))) % 256), .int .u8 ((wrap64 (128 + (Int.tmod (wrap64 (Int.tdiv a1 64)) 64))) % 256), .int .u8 ((wrap64 (128 + (Int.tmod a1 64))) % 256)]) (ok := fun _ => True) (okp := fun _ => True) ?hr ?hp (fun _ hk => hk) trivial (Below.refl _ _) (Nat.le_refl _) (by simp) ?_; (case hd => rfl); (case hg => rfl); (case hr => exact zq32); (case hp => exact (Reps.one (show Kd.M (Kd.int .u8) _ _ _ ((wrap64 (240 + (wrap64 (Int.tdiv a1 262144)))) % 256) [.int .u8 ((wrap64 (240 + (wrap64 (Int.tdiv a1 262144)))) % 256)] from rfl) (Reps.one (show Kd.M (Kd.int .u8) _ _ _ ((wrap64 (128 + (Int.tmod (wrap64 (Int.tdiv a1 4096)) 64))) % 256) [.int .u8 ((wrap64 (128 + (Int.tmod (wrap64 (Int.tdiv a1 4096)) 64))) % 256)] from rfl) (Reps.one (show Kd.M (Kd.int .u8) _ _ _ ((wrap64 (128 + (Int.tmod (wrap64 (Int.tdiv a1 64)) 64))) % 256) [.int .u8 ((wrap64 (128 + (Int.tmod (wrap64 (Int.tdiv a1 64)) 64))) % 256)] from rfl) (Reps.one (show Kd.M (Kd.int .u8) _ _ _ ((wrap64 (128 + (Int.tmod a1 64))) % 256) [.int .u8 ((wrap64 (128 + (Int.tmod a1 64))) % 256)] from rfl) (Reps.none _ _)))))); intro v125 w29 ho30 hb hg_ hnew_; clear hg_ hnew_; (first | rw [← Ny124.out] at ho30 | (simp only [Int.reduceToNat] at ho30; rw [← Ny124.out] at ho30)); have HO126 := mk0 (Kd.R_lower (Kd.R_new' (Kd.R_newM (M := fun k_ => (P0_ k_ ∨ w.heap.size ≤ k_)) ho30 (by exact HK.out.1) (fun k_ h_ => .inr h_)) (Kd.R_lt zq38)) (below_size zq1)); replace HO_0 := mk0 (Kd.R_elder' zq38 (Kd.R_base ho30) hb); replace HK := mk0 (Kept.below (S := (fun k_ => P0_ k_)) zq34 hb); replace HB := mk0 (below_step zq1 hb); clear hb ho30; obtain ⟨Ao32, co32, eo32⟩ := Kd.R_slice HO126.out; subst eo32) | ((with_reducible refine gate_builtin (b := .append) (xs := #[.tmp 56, .tmp 75]) rfl ?_); at_builtin; refine Kd.R_append_rows (Kd.int .u8) (w0 := w0) w0.heap.size rfl (.tmp 56) (.tmp 75) 29 5 (.int .u8 0) 1 rfl Tryd.underlying29 info5 rfl zq47 (by omega) u9000_ l0 y124 _ _ _ (fun k_ => (P0_ k_ ∨ w.heap.size ≤ k_) ∧ some k_ ≠ (.slice Ao32 y124.length co32 : Value).ownBlock) (fun _ => False) rfl rfl ?aO ?aR (fun _ _ h => h) (fun _ h => h.elim) ?aF ?aB ?aS ?aL ?_; (case aR => repeat (first | exact (Kd.R_reads' HO126.out).2.2 | (with_reducible refine Kd.C_alloc ?_ _) | (with_reducible refine Kd.C_drewN ?_ _) | (with_reducible refine Kd.C_drew ?_))); (case aB => exact zq1); (case aF => exact (fun k_ hk => ⟨(.inr (Nat.le_trans (by exact HK.out.1) hk)), Kd.fresh' (Kd.R_lt (by (with_reducible repeat (first | apply Kd.R_alloc | apply Kd.R_drewN | apply Kd.R_drew)); exact HO126.out)) k_ hk⟩)); (case aO => exact zq38); (case aS => exact (below_size zq1)); (case aL => have := LMc28.out; omega); intro v128 w31 ho hb hg hat; rw [← Ny127.out] at ho; have n0_ := mk0 (Kd.R_after (ok := (fun k_ => (P0_ k_ ∨ w.heap.size ≤ k_))) (by (with_reducible repeat (first | apply Kd.R_alloc | apply Kd.R_drewN | apply Kd.R_drew)); exact Kd.R_mono HO126.out (fun _ hk => ⟨hk.1.1, hk.2⟩)) hg hat); have n1_ := mk0 (hb); have n2_ := mk0 (Kept.of_grown (S := (fun k_ => P0_ k_)) hg zq34 (fun k_ e_ => (HO_0.out.1 k_ e_).1)); have n3_ := mk0 (ho); clear HO126 HB HK HO_0; have HO126 := n0_; have HB := n1_; have HK := n2_; have HO129 := n3_; clear n0_ n1_ n2_ n3_; clear ho hb hg hat))
   go_ret
   exact ⟨_, by rfl, by (with_reducible repeat (first | apply Kd.R_alloc | apply Kd.R_drewN | apply Kd.R_drew)); exact Kd.R_mono HO129.out (fun _ hk => hk.1), by repeat (first | (with_reducible first | exact HB.out | apply below_alloc | apply pw_below_drewN | apply below_drew1) | exact HB.out), by repeat (first | (with_reducible first | exact HK.out | apply Kept.alloc | apply Kept.drewN | apply Kept.drew) | exact HK.out)⟩
def spec_Unquote.l0 : Nat → List Int → ByteArray → Int → Option (ByteArray)
  | 0, _, _, _ => none
  | k + 1, x3, x4, x5 => if x5 < (x4.size : Int) then (if 0 ≤ x5 then (if (bt x4 x5) = 92 then ((spec_unit.f k x4 x5).bind fun bt104 => (if bt104.2 = true then ((spec_unit.f k x4 (wrap64 (x5 + 6))).bind fun bt110 => (if bt110.2 = true then ((spec_high.f bt104.1).bind fun t112 => (if t112 = true then ((spec_low.f bt110.1).bind fun t113 => (if t113 = true then ((spec_appendUTF8.f k x3 (wrap64 ((wrap64 (65536 + (wrap64 ((wrap64 (bt104.1 - 55296)) * 1024)))) + (wrap64 (bt110.1 - 56320))))).bind fun t114 => (spec_Unquote.l0 k t114 x4 (wrap64 ((wrap64 (x5 + 6)) + 6)))) else ((spec_appendUTF8.f k x3 bt104.1).bind fun t117 => (spec_Unquote.l0 k t117 x4 (wrap64 (x5 + 6)))))) else ((spec_appendUTF8.f k x3 bt104.1).bind fun t120 => (spec_Unquote.l0 k t120 x4 (wrap64 (x5 + 6)))))) else ((spec_appendUTF8.f k x3 bt104.1).bind fun t123 => (spec_Unquote.l0 k t123 x4 (wrap64 (x5 + 6)))))) else (if 0 ≤ (wrap64 (x5 + 1)) then (if (wrap64 (x5 + 1)) < (x4.size : Int) then ((spec_short.f (bt x4 (wrap64 (x5 + 1)))).bind fun t106 => (if x3.length < 140737488355328 then (spec_Unquote.l0 k (x3 ++ [t106]) x4 (wrap64 (x5 + 2))) else (none))) else (none)) else (none)))) else (if x3.length < 140737488355328 then (spec_Unquote.l0 k (x3 ++ [bt x4 x5]) x4 (wrap64 (x5 + 1))) else (none))) else (none)) else (some (strOfNums x3))
def spec_Unquote.f (k : Nat) (a0 : ByteArray) : Option (ByteArray) := if 1 ≤ (wrap64 ((a0.size : Int) - 1)) then (if (wrap64 ((a0.size : Int) - 1)) ≤ (a0.size : Int) then (spec_Unquote.l0 k ([] : List Int) (a0.extract 1 ((wrap64 ((a0.size : Int) - 1)) : Int).toNat) 0) else (none)) else (none)
theorem spec_Unquote.mono_l : ∀ k, (∀ y0 y1 y2, LeO (spec_Unquote.l0 k y0 y1 y2) (spec_Unquote.l0 (k + 1) y0 y1 y2))
 | 0 => fun _ _ _ r h => by simp [spec_Unquote.l0] at h
 | k + 1 => by
  have ih0 := spec_Unquote.mono_l k
  ·intro y0 y1 y2
   unfold spec_Unquote.l0
   repeat' first
   | (with_reducible exact ih0 _ _ _)
   | (with_reducible exact spec_appendUTF8.mono _ _ _)
   | (with_reducible exact spec_unit.mono _ _ _)
   | (with_reducible exact LeO.refl _)
   | (with_reducible exact LeO.none _)
   | (with_reducible refine LeO.ite ?_ ?_)
   | (with_reducible refine LeO.bind ?_ (fun _ => ?_))
   | exact ih0 _ _ _
   | exact spec_appendUTF8.mono _ _ _
   | exact spec_unit.mono _ _ _
   | exact LeO.none _
   | refine LeO.ite ?_ ?_
   | refine LeO.bind ?_ (fun _ => ?_)
theorem spec_Unquote.mono : ∀ a0 k, LeO (spec_Unquote.f k a0) (spec_Unquote.f (k + 1) a0) := by
 intro a0 k
 have ih0 := spec_Unquote.mono_l k
 unfold spec_Unquote.f
 repeat' first
  | (with_reducible exact ih0 _ _ _)
  | (with_reducible exact spec_appendUTF8.mono _ _ _)
  | (with_reducible exact spec_unit.mono _ _ _)
  | (with_reducible exact LeO.refl _)
  | (with_reducible exact LeO.none _)
  | (with_reducible refine LeO.ite ?_ ?_)
  | (with_reducible refine LeO.bind ?_ (fun _ => ?_))
  | exact ih0 _ _ _
  | exact spec_appendUTF8.mono _ _ _
  | exact spec_unit.mono _ _ _
  | exact LeO.none _
  | refine LeO.ite ?_ ?_
  | refine LeO.bind ?_ (fun _ => ?_)
set_option maxHeartbeats 8000000 in
set_option maxRecDepth 100000 in
theorem spec_Unquote.calls (k : Nat) (a0 : ByteArray) (r : ByteArray) (w : World) (h : spec_Unquote.f k a0 = some r) :
 Calls Tryd.prog 27 #[.string a0] w fun e w' => e = .returned (.string r) ∧ Below w.heap.size w w' := by
 have HB := mk0 (Below.refl w.heap.size w)
 have H : (if 1 ≤ (wrap64 ((a0.size : Int) - 1)) then (if (wrap64 ((a0.size : Int) - 1)) ≤ (a0.size : Int) then (spec_Unquote.l0 k ([] : List Int) (a0.extract 1 ((wrap64 ((a0.size : Int) - 1)) : Int).toNat) 0) else (none)) else (none)) = some r := h
 clear h
 by_cases c2 : 1 ≤ (wrap64 ((a0.size : Int) - 1))
 rotate_left
 ·rw [if_neg c2] at H
  exact absurd H (by simp)
 rw [if_pos c2] at H
 have c2b0 := eq_true c2
 have c2b1 : decide (1 ≤ (wrap64 ((a0.size : Int) - 1))) = true := decide_eq_true c2
 clear c2
 by_cases c3 : (wrap64 ((a0.size : Int) - 1)) ≤ (a0.size : Int)
 rotate_left
 ·rw [if_neg c3] at H
  exact absurd H (by simp)
 rw [if_pos c3] at H
 have c3b0 := eq_true c3
 have c3b1 : decide ((wrap64 ((a0.size : Int) - 1)) ≤ (a0.size : Int)) = true := decide_eq_true c3
 clear c3
 have H' := mk0 H
 clear H
 go_enter Tryd.func27, Tryd.ntmps27
 go_wp2
 generalize (a0.extract 1 ((wrap64 ((a0.size : Int) - 1)) : Int).toNat) = X_1 at *
 go_loopg [3, 5] k (fun kq v3 v5 w' => ∃ (x3_1 : List Int) (x5_1 : Int), v5 = .int .i64 x5_1 ∧ Aside0 (spec_Unquote.l0 kq x3_1 X_1 x5_1 = some r) ∧ Aside0 (kq ≤ k) ∧ Aside0 (Kd.R (Kd.int .u8) 5 w' w.heap.size (fun _ => True) v3 x3_1) ∧ Aside0 (Below w.heap.size w w'))
 case atStart => exact ⟨(([] : List Int)), (0), (by rfl), H', ⟨Nat.le_refl _⟩, ⟨by exact Kd.R_nil _ _ _ _ _⟩, ⟨by repeat (first | (with_reducible first | exact HB.out | apply below_alloc | apply pw_below_drewN | apply below_drew1) | exact HB.out)⟩⟩
 case round =>
  clear H'
  clear c2b0 c2b1 c3b0 c3b1
  obtain ⟨x3_1, x5_1, rfl, HA, HK1, HO_3, HB⟩ := hrel
  cases gk with
  | zero => exact absurd HA.out (by simp [spec_Unquote.l0])
  | succ k1 =>
   have H := HA.out
   clear HA
   simp only [spec_Unquote.l0] at H
   by_cases c4 : x5_1 < (X_1.size : Int)
   rotate_left
   ·rw [if_neg c4] at H
    have c4b0 : decide (x5_1 < (X_1.size : Int)) = false := decide_eq_false c4
    clear c4
    obtain rfl := Option.some.inj H
    have hcv38 := own_string (P := Tryd.prog) Tryd.underlying29 Tryd.underlying5 Tryd.underlying9 (Kd.own_of_R HO_3.out)
    go_wp2
    go_ret
    exact ⟨by rfl, by repeat (first | (with_reducible first | exact HB.out | apply below_alloc | apply pw_below_drewN | apply below_drew1) | exact HB.out)⟩
   rw [if_pos c4] at H
   have c4b0 : decide (x5_1 < (X_1.size : Int)) = true := decide_eq_true c4
   clear c4
   by_cases c5 : 0 ≤ x5_1
   rotate_left
   ·rw [if_neg c5] at H
    exact absurd H (by simp)
   rw [if_pos c5] at H
   have c5b0 : decide (0 ≤ x5_1) = true := decide_eq_true c5
   clear c5
   by_cases c7 : (bt X_1 x5_1) = 92
   rotate_left
   ·rw [if_neg c7] at H
    have c7b0 : ((bt X_1 x5_1) == 92) = false := beq_eq_false_iff_ne.mpr c7
    have c7b1 : ((bt X_1 x5_1) != 92) = true := bne_iff_ne.mpr c7
    by_cases c36 : x3_1.length < 140737488355328
    rotate_left
    ·rw [if_neg c36] at H
     exact absurd H (by simp)
    rw [if_pos c36] at H
    have LMc36 := mk0 c36
    clear c36
    obtain ⟨y101, hy101⟩ : ∃ y_ : List Int, y_ = (x3_1 ++ [bt X_1 x5_1]) := ⟨_, rfl⟩
    replace H : (spec_Unquote.l0 k1 y101 X_1 (wrap64 (x5_1 + 1))) = some r := by (rw [hy101]; with_reducible exact H)
    have Ny101 := mk0 hy101
    clear hy101
    have H' := mk0 H
    clear H
    have p6 : 0 ≤ (x5_1 : Int) := of_decide_eq_true zq5
    have q6 : x5_1 < (X_1.size : Int) := of_decide_eq_true zq5
    have hx6 := bt_at X_1 x5_1
    replace p6 := eq_true p6
    replace q6 := eq_true q6
    have p35 : 0 ≤ (x5_1 : Int) := of_decide_eq_true zq5
    have q35 : x5_1 < (X_1.size : Int) := of_decide_eq_true zq5
    have hx35 := bt_at X_1 x5_1
    replace p35 := eq_true p35
    replace q35 := eq_true q35
    go_wp2_with (first | ((with_reducible refine gate_builtin (b := .append) (xs := #[.tmp 23, .tmp 27]) rfl ?_); at_builtin; refine Kd.R_append (Kd.int .u8) (w0 := w) w.heap.size rfl (.tmp 23) (.tmp 27) 29 5 (.int .u8 0) 1 rfl Tryd.underlying29 info5 rfl zq47 (by omega) u3 x3_1 (bt X_1 x5_1) [.int .u8 (bt X_1 x5_1)] (fun _ => True) (fun _ => False) rfl rfl ?aP (fun _ hk => hk.elim) ?aF ?aO ?aB ?aS ?aL ?_; (case aP => exact rfl); (case aB => exact zq1); (case aF => exact (fun _ _ => trivial)); (case aO => exact (by (with_reducible repeat (first | apply Kd.R_alloc | apply Kd.R_drewN | apply Kd.R_drew)); exact HO_3.out)); (case aS => exact (below_size zq1)); (case aL => have := LMc36.out; omega); intro v102 w37 ho hb hg hat; rw [← Ny101.out] at ho; have n0_ := mk0 (hb); have n1_ := mk0 (ho); clear HB HO_3; have HB := n0_; have HO103 := n1_; clear n0_ n1_; clear ho hb hg hat))
    go_roundg k1
    case measure => have := HK1.out; omega
    case rel => exact ⟨(y101), (wrap64 (x5_1 + 1)), (by rfl), H', ⟨by have := HK1.out; omega⟩, ⟨by (with_reducible repeat (first | apply Kd.R_alloc | apply Kd.R_drewN | apply Kd.R_drew)); exact HO103.out⟩, ⟨by repeat (first | (with_reducible first | exact HB.out | apply below_alloc | apply pw_below_drewN | apply below_drew1) | exact HB.out)⟩⟩
   rw [if_pos c7] at H
   have c7b0 : ((bt X_1 x5_1) == 92) = true := beq_iff_eq.mpr c7
   have c7b1 : ((bt X_1 x5_1) != 92) = false := bne_eq_false_iff_eq.mpr c7
   clear c7
   replace H := Option.bind_eq_some_iff.mp H
   obtain ⟨⟨t104, t105⟩, A80, H⟩ := H
   (try dsimp only at H)
   have A8 := mk0 A80
   clear A80
   by_cases c9 : t105 = true
   rotate_left
   ·replace c9 := Bool.eq_false_iff.mpr c9
    subst c9
    rw [if_neg (show ¬ (false = true) by decide)] at H
    obtain ⟨ji28, hji28⟩ : ∃ j_ : Int, (wrap64 (x5_1 + 1)) = j_ := ⟨_, rfl⟩
    replace H : (if 0 ≤ (ji28) then (if (ji28) < (X_1.size : Int) then ((spec_short.f (bt X_1 (ji28))).bind fun t106 => (if x3_1.length < 140737488355328 then (spec_Unquote.l0 k1 (x3_1 ++ [t106]) X_1 (wrap64 (x5_1 + 2))) else (none))) else (none)) else (none)) = some r := by (rw [hji28] at H; exact H)
    (try rw [hji28] at A8)
    have hji28w : (IntKind.i64.wrap (x5_1 + 1)) = ji28 := (i64_w _).trans hji28
    by_cases c29 : 0 ≤ (ji28)
    rotate_left
    ·rw [if_neg c29] at H
     exact absurd H (by simp)
    rw [if_pos c29] at H
    have c29b0 : decide (0 ≤ (ji28)) = true := decide_eq_true c29
    clear c29
    by_cases c30 : (ji28) < (X_1.size : Int)
    rotate_left
    ·rw [if_neg c30] at H
     exact absurd H (by simp)
    rw [if_pos c30] at H
    have c30b0 : decide ((ji28) < (X_1.size : Int)) = true := decide_eq_true c30
    clear c30
    replace H := Option.bind_eq_some_iff.mp H
    obtain ⟨t106, A320, H⟩ := H
    (try dsimp only at H)
    have A32 := mk0 A320
    clear A320
    by_cases c33 : x3_1.length < 140737488355328
    rotate_left
    ·rw [if_neg c33] at H
     exact absurd H (by simp)
    rw [if_pos c33] at H
    have LMc33 := mk0 c33
    clear c33
    obtain ⟨y107, hy107⟩ : ∃ y_ : List Int, y_ = (x3_1 ++ [t106]) := ⟨_, rfl⟩
    replace H : (spec_Unquote.l0 k1 y107 X_1 (wrap64 (x5_1 + 2))) = some r := by (rw [hy107]; with_reducible exact H)
    have Ny107 := mk0 hy107
    clear hy107
    have H' := mk0 H
    clear H
    have p6 : 0 ≤ (x5_1 : Int) := of_decide_eq_true zq5
    have q6 : x5_1 < (X_1.size : Int) := of_decide_eq_true zq5
    have hx6 := bt_at X_1 x5_1
    replace p6 := eq_true p6
    replace q6 := eq_true q6
    go_wp2_with (first | ((with_reducible refine gate_callee (f := 48) rfl ?_); refine goesL_ (some 34) rfl rfl Tryd.func48 zq24 rfl #[.string X_1, .int .i64 x5_1] rfl zq0 ?_; (with_reducible refine (spec_unit.calls k1 X_1 x5_1 t104 false _ A8.out).mono ?_); rintro e w' ⟨rfl, ⟨nd, rfl⟩⟩; refine ⟨_, rfl, ?_⟩; have p31 : 0 ≤ ((ji28) : Int) := of_decide_eq_true zq5; have q31 : (ji28) < (X_1.size : Int) := of_decide_eq_true zq5; have hx31 := bt_at X_1 (ji28); replace p31 := eq_true p31; replace q31 := eq_true q31) | ((with_reducible refine gate_callee (f := 49) rfl ?_); refine goesL_ (some 44) rfl rfl Tryd.func49 zq24 rfl #[.int .u8 (bt X_1 (ji28))] rfl (by (try simp only [List.map_toArray, List.map_cons, List.map_nil]); first | done | (simp only [hji28]; rfl) | rfl | (simp only [List.length_drop, List.length_take]; rfl)) ?_; (with_reducible refine (spec_short.calls (bt X_1 (ji28)) t106 _ A32.out).mono ?_); rintro e w' ⟨rfl, ⟨nd, rfl⟩⟩; refine ⟨_, rfl, ?_⟩) | ((with_reducible refine gate_builtin (b := .append) (xs := #[.tmp 39, .tmp 45]) rfl ?_); at_builtin; refine Kd.R_append (Kd.int .u8) (w0 := w) w.heap.size rfl (.tmp 39) (.tmp 45) 29 5 (.int .u8 0) 1 rfl Tryd.underlying29 info5 rfl zq47 (by omega) u3 x3_1 t106 [.int .u8 t106] (fun _ => True) (fun _ => False) rfl rfl ?aP (fun _ hk => hk.elim) ?aF ?aO ?aB ?aS ?aL ?_; (case aP => exact rfl); (case aB => exact zq1); (case aF => exact (fun _ _ => trivial)); (case aO => exact (by (with_reducible repeat (first | apply Kd.R_alloc | apply Kd.R_drewN | apply Kd.R_drew)); exact HO_3.out)); (case aS => exact (below_size zq1)); (case aL => have := LMc33.out; omega); intro v108 w34 ho hb hg hat; rw [← Ny107.out] at ho; have n0_ := mk0 (hb); have n1_ := mk0 (ho); clear HB HO_3; have HB := n0_; have HO109 := n1_; clear n0_ n1_; clear ho hb hg hat))
    (try simp only [← hji28])
    go_roundg k1
    case measure => have := HK1.out; omega
    case rel => exact ⟨(y107), (wrap64 (x5_1 + 2)), (by rfl), (by exact H'), ⟨by have := HK1.out; omega⟩, ⟨by (with_reducible repeat (first | apply Kd.R_alloc | apply Kd.R_drewN | apply Kd.R_drew)); exact HO109.out⟩, ⟨by repeat (first | (with_reducible first | exact HB.out | apply below_alloc | apply pw_below_drewN | apply below_drew1) | exact HB.out)⟩⟩
   subst c9
   rw [if_pos rfl] at H
   replace H := Option.bind_eq_some_iff.mp H
   obtain ⟨⟨t110, t111⟩, A100, H⟩ := H
   (try dsimp only at H)
   have A10 := mk0 A100
   clear A100
   by_cases c11 : t111 = true
   rotate_left
   ·replace c11 := Bool.eq_false_iff.mpr c11
    subst c11
    rw [if_neg (show ¬ (false = true) by decide)] at H
    replace H := Option.bind_eq_some_iff.mp H
    obtain ⟨t123, A250, H⟩ := H
    (try dsimp only at H)
    have A25 := mk0 A250
    clear A250
    have H' := mk0 H
    clear H
    have p6 : 0 ≤ (x5_1 : Int) := of_decide_eq_true zq5
    have q6 : x5_1 < (X_1.size : Int) := of_decide_eq_true zq5
    have hx6 := bt_at X_1 x5_1
    replace p6 := eq_true p6
    replace q6 := eq_true q6
    go_wp2_with (first | ((with_reducible refine gate_callee (f := 48) rfl ?_); refine goesL_ (some 34) rfl rfl Tryd.func48 zq24 rfl #[.string X_1, .int .i64 x5_1] rfl zq0 ?_; (with_reducible refine (spec_unit.calls k1 X_1 x5_1 t104 true _ A8.out).mono ?_); rintro e w' ⟨rfl, ⟨nd, rfl⟩⟩; refine ⟨_, rfl, ?_⟩) | ((with_reducible refine gate_callee (f := 48) rfl ?_); refine goesL_ (some 54) rfl rfl Tryd.func48 zq24 rfl #[.string X_1, .int .i64 (wrap64 (x5_1 + 6))] rfl zq0 ?_; (with_reducible refine (spec_unit.calls k1 X_1 (wrap64 (x5_1 + 6)) t110 false _ A10.out).mono ?_); rintro e w' ⟨rfl, ⟨nd, rfl⟩⟩; refine ⟨_, rfl, ?_⟩; obtain ⟨Ao26, co26, eo26⟩ := Kd.R_slice HO_3.out; subst eo26) | ((with_reducible refine gate_callee (f := 52) rfl ?_); refine goesL_ (some 77) rfl rfl Tryd.func52 zq24 rfl #[.slice Ao26 x3_1.length co26, .int .i64 t104] rfl zq0 ?_; (with_reducible refine (spec_appendUTF8.calls k1 (fun k_ => some k_ = (.slice Ao26 x3_1.length co26 : Value).ownBlock) (.slice Ao26 x3_1.length co26) x3_1 t104 t123 w _ ?side1 ?side2 A25.out).mono ?_); (case side1 => exact zq1); (case side2 => exact Kd.R_tight rfl HO_3.out); rintro e w27 ⟨v124, rfl, ho0, hb, hkp⟩; refine ⟨_, rfl, ?_⟩; have n0_ := mk0 (Kd.R_mono (ok' := fun k_ => True) ho0 (fun k_ hk_ => trivial)); have n1_ := mk0 (hb); clear HB HO_3; have HO125 := n0_; have HB := n1_; clear n0_ n1_; clear hb hkp ho0))
    go_roundg k1
    case measure => have := HK1.out; omega
    case rel => exact ⟨(t123), (wrap64 (x5_1 + 6)), (by rfl), H', ⟨by have := HK1.out; omega⟩, ⟨by (with_reducible repeat (first | apply Kd.R_alloc | apply Kd.R_drewN | apply Kd.R_drew)); exact HO125.out⟩, ⟨by repeat (first | (with_reducible first | exact HB.out | apply below_alloc | apply pw_below_drewN | apply below_drew1) | exact HB.out)⟩⟩
   subst c11
   rw [if_pos rfl] at H
   replace H := Option.bind_eq_some_iff.mp H
   obtain ⟨t112, A120, H⟩ := H
   (try dsimp only at H)
   have A12 := mk0 A120
   clear A120
   by_cases c13 : t112 = true
   rotate_left
   ·replace c13 := Bool.eq_false_iff.mpr c13
    subst c13
    rw [if_neg (show ¬ (false = true) by decide)] at H
    replace H := Option.bind_eq_some_iff.mp H
    obtain ⟨t120, A220, H⟩ := H
    (try dsimp only at H)
    have A22 := mk0 A220
    clear A220
    have H' := mk0 H
    clear H
    have p6 : 0 ≤ (x5_1 : Int) := of_decide_eq_true zq5
    have q6 : x5_1 < (X_1.size : Int) := of_decide_eq_true zq5
    have hx6 := bt_at X_1 x5_1
    replace p6 := eq_true p6
    replace q6 := eq_true q6
    go_wp2_with (first | ((with_reducible refine gate_callee (f := 48) rfl ?_); refine goesL_ (some 34) rfl rfl Tryd.func48 zq24 rfl #[.string X_1, .int .i64 x5_1] rfl zq0 ?_; (with_reducible refine (spec_unit.calls k1 X_1 x5_1 t104 true _ A8.out).mono ?_); rintro e w' ⟨rfl, ⟨nd, rfl⟩⟩; refine ⟨_, rfl, ?_⟩) | ((with_reducible refine gate_callee (f := 48) rfl ?_); refine goesL_ (some 54) rfl rfl Tryd.func48 zq24 rfl #[.string X_1, .int .i64 (wrap64 (x5_1 + 6))] rfl zq0 ?_; (with_reducible refine (spec_unit.calls k1 X_1 (wrap64 (x5_1 + 6)) t110 true _ A10.out).mono ?_); rintro e w' ⟨rfl, ⟨nd, rfl⟩⟩; refine ⟨_, rfl, ?_⟩) | (go_at_call 50; (with_reducible refine (spec_high.calls t104 false _ A12.out).mono ?_); rintro e w' ⟨rfl, ⟨nd, rfl⟩⟩; obtain ⟨Ao23, co23, eo23⟩ := Kd.R_slice HO_3.out; subst eo23) | ((with_reducible refine gate_callee (f := 52) rfl ?_); refine goesL_ (some 77) rfl rfl Tryd.func52 zq24 rfl #[.slice Ao23 x3_1.length co23, .int .i64 t104] rfl zq0 ?_; (with_reducible refine (spec_appendUTF8.calls k1 (fun k_ => some k_ = (.slice Ao23 x3_1.length co23 : Value).ownBlock) (.slice Ao23 x3_1.length co23) x3_1 t104 t120 w _ ?side1 ?side2 A22.out).mono ?_); (case side1 => exact zq1); (case side2 => exact Kd.R_tight rfl HO_3.out); rintro e w24 ⟨v121, rfl, ho0, hb, hkp⟩; refine ⟨_, rfl, ?_⟩; have n0_ := mk0 (Kd.R_mono (ok' := fun k_ => True) ho0 (fun k_ hk_ => trivial)); have n1_ := mk0 (hb); clear HB HO_3; have HO122 := n0_; have HB := n1_; clear n0_ n1_; clear hb hkp ho0))
    go_roundg k1
    case measure => have := HK1.out; omega
    case rel => exact ⟨(t120), (wrap64 (x5_1 + 6)), (by rfl), H', ⟨by have := HK1.out; omega⟩, ⟨by (with_reducible repeat (first | apply Kd.R_alloc | apply Kd.R_drewN | apply Kd.R_drew)); exact HO122.out⟩, ⟨by repeat (first | (with_reducible first | exact HB.out | apply below_alloc | apply pw_below_drewN | apply below_drew1) | exact HB.out)⟩⟩
   subst c13
   rw [if_pos rfl] at H
   replace H := Option.bind_eq_some_iff.mp H
   obtain ⟨t113, A140, H⟩ := H
   (try dsimp only at H)
   have A14 := mk0 A140
   clear A140
   by_cases c15 : t113 = true
   rotate_left
   ·replace c15 := Bool.eq_false_iff.mpr c15
    subst c15
    rw [if_neg (show ¬ (false = true) by decide)] at H
    replace H := Option.bind_eq_some_iff.mp H
    obtain ⟨t117, A190, H⟩ := H
    (try dsimp only at H)
    have A19 := mk0 A190
    clear A190
    have H' := mk0 H
    clear H
    have p6 : 0 ≤ (x5_1 : Int) := of_decide_eq_true zq5
    have q6 : x5_1 < (X_1.size : Int) := of_decide_eq_true zq5
    have hx6 := bt_at X_1 x5_1
    replace p6 := eq_true p6
    replace q6 := eq_true q6
    go_wp2_with (first | ((with_reducible refine gate_callee (f := 48) rfl ?_); refine goesL_ (some 34) rfl rfl Tryd.func48 zq24 rfl #[.string X_1, .int .i64 x5_1] rfl zq0 ?_; (with_reducible refine (spec_unit.calls k1 X_1 x5_1 t104 true _ A8.out).mono ?_); rintro e w' ⟨rfl, ⟨nd, rfl⟩⟩; refine ⟨_, rfl, ?_⟩) | ((with_reducible refine gate_callee (f := 48) rfl ?_); refine goesL_ (some 54) rfl rfl Tryd.func48 zq24 rfl #[.string X_1, .int .i64 (wrap64 (x5_1 + 6))] rfl zq0 ?_; (with_reducible refine (spec_unit.calls k1 X_1 (wrap64 (x5_1 + 6)) t110 true _ A10.out).mono ?_); rintro e w' ⟨rfl, ⟨nd, rfl⟩⟩; refine ⟨_, rfl, ?_⟩) | (go_at_call 50; (with_reducible refine (spec_high.calls t104 true _ A12.out).mono ?_); rintro e w' ⟨rfl, ⟨nd, rfl⟩⟩) | (go_at_call 51; (with_reducible refine (spec_low.calls t110 false _ A14.out).mono ?_); rintro e w' ⟨rfl, ⟨nd, rfl⟩⟩; obtain ⟨Ao20, co20, eo20⟩ := Kd.R_slice HO_3.out; subst eo20) | ((with_reducible refine gate_callee (f := 52) rfl ?_); refine goesL_ (some 77) rfl rfl Tryd.func52 zq24 rfl #[.slice Ao20 x3_1.length co20, .int .i64 t104] rfl zq0 ?_; (with_reducible refine (spec_appendUTF8.calls k1 (fun k_ => some k_ = (.slice Ao20 x3_1.length co20 : Value).ownBlock) (.slice Ao20 x3_1.length co20) x3_1 t104 t117 w _ ?side1 ?side2 A19.out).mono ?_); (case side1 => exact zq1); (case side2 => exact Kd.R_tight rfl HO_3.out); rintro e w21 ⟨v118, rfl, ho0, hb, hkp⟩; refine ⟨_, rfl, ?_⟩; have n0_ := mk0 (Kd.R_mono (ok' := fun k_ => True) ho0 (fun k_ hk_ => trivial)); have n1_ := mk0 (hb); clear HB HO_3; have HO119 := n0_; have HB := n1_; clear n0_ n1_; clear hb hkp ho0))
    go_roundg k1
    case measure => have := HK1.out; omega
    case rel => exact ⟨(t117), (wrap64 (x5_1 + 6)), (by rfl), H', ⟨by have := HK1.out; omega⟩, ⟨by (with_reducible repeat (first | apply Kd.R_alloc | apply Kd.R_drewN | apply Kd.R_drew)); exact HO119.out⟩, ⟨by repeat (first | (with_reducible first | exact HB.out | apply below_alloc | apply pw_below_drewN | apply below_drew1) | exact HB.out)⟩⟩
   subst c15
   rw [if_pos rfl] at H
   replace H := Option.bind_eq_some_iff.mp H
   obtain ⟨t114, A160, H⟩ := H
   (try dsimp only at H)
   have A16 := mk0 A160
   clear A160
   have H' := mk0 H
   clear H
   have p6 : 0 ≤ (x5_1 : Int) := of_decide_eq_true zq5
   have q6 : x5_1 < (X_1.size : Int) := of_decide_eq_true zq5
   have hx6 := bt_at X_1 x5_1
   replace p6 := eq_true p6
   replace q6 := eq_true q6
   go_wp2_with (first | ((with_reducible refine gate_callee (f := 48) rfl ?_); refine goesL_ (some 34) rfl rfl Tryd.func48 zq24 rfl #[.string X_1, .int .i64 x5_1] rfl zq0 ?_; (with_reducible refine (spec_unit.calls k1 X_1 x5_1 t104 true _ A8.out).mono ?_); rintro e w' ⟨rfl, ⟨nd, rfl⟩⟩; refine ⟨_, rfl, ?_⟩) | ((with_reducible refine gate_callee (f := 48) rfl ?_); refine goesL_ (some 54) rfl rfl Tryd.func48 zq24 rfl #[.string X_1, .int .i64 (wrap64 (x5_1 + 6))] rfl zq0 ?_; (with_reducible refine (spec_unit.calls k1 X_1 (wrap64 (x5_1 + 6)) t110 true _ A10.out).mono ?_); rintro e w' ⟨rfl, ⟨nd, rfl⟩⟩; refine ⟨_, rfl, ?_⟩) | (go_at_call 50; (with_reducible refine (spec_high.calls t104 true _ A12.out).mono ?_); rintro e w' ⟨rfl, ⟨nd, rfl⟩⟩) | (go_at_call 51; (with_reducible refine (spec_low.calls t110 true _ A14.out).mono ?_); rintro e w' ⟨rfl, ⟨nd, rfl⟩⟩; obtain ⟨Ao17, co17, eo17⟩ := Kd.R_slice HO_3.out; subst eo17) | ((with_reducible refine gate_callee (f := 52) rfl ?_); refine goesL_ (some 77) rfl rfl Tryd.func52 zq24 rfl #[.slice Ao17 x3_1.length co17, .int .i64 (wrap64 ((wrap64 (65536 + (wrap64 ((wrap64 (t104 - 55296)) * 1024)))) + (wrap64 (t110 - 56320))))] rfl zq0 ?_; (with_reducible refine (spec_appendUTF8.calls k1 (fun k_ => some k_ = (.slice Ao17 x3_1.length co17 : Value).ownBlock) (.slice Ao17 x3_1.length co17) x3_1 (wrap64 ((wrap64 (65536 + (wrap64 ((wrap64 (t104 - 55296)) * 1024)))) + (wrap64 (t110 - 56320)))) t114 w _ ?side1 ?side2 A16.out).mono ?_); (case side1 => exact zq1); (case side2 => exact Kd.R_tight rfl HO_3.out); rintro e w18 ⟨v115, rfl, ho0, hb, hkp⟩; refine ⟨_, rfl, ?_⟩; have n0_ := mk0 (Kd.R_mono (ok' := fun k_ => True) ho0 (fun k_ hk_ => trivial)); have n1_ := mk0 (hb); clear HB HO_3; have HO116 := n0_; have HB := n1_; clear n0_ n1_; clear hb hkp ho0))
   go_roundg k1
   case measure => have := HK1.out; omega
   case rel => exact ⟨(t114), (wrap64 ((wrap64 (x5_1 + 6)) + 6)), (by rfl), H', ⟨by have := HK1.out; omega⟩, ⟨by (with_reducible repeat (first | apply Kd.R_alloc | apply Kd.R_drewN | apply Kd.R_drew)); exact HO116.out⟩, ⟨by repeat (first | (with_reducible first | exact HB.out | apply below_alloc | apply pw_below_drewN | apply below_drew1) | exact HB.out)⟩⟩
mutual
def spec_Tree.j0 : Nat → ByteArray → Int → Int → Int → List (S122) → List (S38) → Int → ByteArray → Option (Int × ByteArray × List ByteArray × (List (S34)))
  | 0, _, _, _, _, _, _, _, _ => none
  | k + 1, x0, x102000, x102001, x102002, x102003, x102004, x104000, x104001 => spec_Tree.l0 k x0 0 x102000 x102001 x102002 x102003 x102004 x104000 x104001 ([] : List ByteArray)
def spec_Tree.l0 : Nat → ByteArray → Int → Int → Int → Int → List (S122) → List (S38) → Int → ByteArray → List ByteArray → Option (Int × ByteArray × List ByteArray × (List (S34)))
  | 0, _, _, _, _, _, _, _, _, _, _ => none
  | k + 1, x0, x6, x102000, x102001, x102002, x102003, x102004, x104000, x104001, x104002 => if x6 < (x102003.length : Int) then (if 0 ≤ x6 then (if 0 ≤ ((rd_T122 x102003 x6).f0) then (if ((rd_T122 x102003 x6).f0) ≤ ((rd_T122 x102003 x6).f1) then (if ((rd_T122 x102003 x6).f1) ≤ (x0.size : Int) then ((spec_Unquote.f k (x0.extract (((rd_T122 x102003 x6).f0) : Int).toNat (((rd_T122 x102003 x6).f1) : Int).toNat)).bind fun t107 => (if x104002.length < 8796093022208 then (spec_Tree.l0 k x0 (wrap64 (x6 + 1)) x102000 x102001 x102002 x102003 x102004 x104000 x104001 (x104002 ++ [t107])) else (none))) else (none)) else (none)) else (none)) else (none)) else (spec_Tree.l1 k x0 0 x102000 x102001 x102002 x102003 x102004 x104000 x104001 x104002 ([] : List (S34)))
def spec_Tree.l1 : Nat → ByteArray → Int → Int → Int → Int → List (S122) → List (S38) → Int → ByteArray → List ByteArray → List (S34) → Option (Int × ByteArray × List ByteArray × (List (S34)))
  | 0, _, _, _, _, _, _, _, _, _, _, _ => none
  | k + 1, x0, x7, x102000, x102001, x102002, x102003, x102004, x104000, x104001, x104002, x104003 => if x7 < (x102004.length : Int) then (if 0 ≤ x7 then ((spec_Tree.f k x0 ((rd_T38 x102004 x7).f0) ((rd_T38 x102004 x7).f1) ((rd_T38 x102004 x7).f2) ((rd_T38 x102004 x7).f3) ((rd_T38 x102004 x7).f4)).bind fun bt112 => (if x104003.length < 1954687338268 then (spec_Tree.l1 k x0 (wrap64 (x7 + 1)) x102000 x102001 x102002 x102003 x102004 x104000 x104001 x104002 (x104003 ++ [(⟨bt112.1, bt112.2.1, bt112.2.2.1, bt112.2.2.2⟩ : S34)])) else (none))) else (none)) else (some (x104000, x104001, x104002, x104003))
def spec_Tree.f : Nat → ByteArray → Int → Int → Int → List (S122) → List (S38) → Option (Int × ByteArray × List ByteArray × (List (S34)))
  | 0, _, _, _, _, _, _ => none
  | k + 1, a0, a1_0, a1_1, a1_2, l1_3, l1_4 => if a1_0 = 3 then (if 0 ≤ a1_1 then (if a1_1 ≤ a1_2 then (if a1_2 ≤ (a0.size : Int) then (spec_Tree.j0 k a0 a1_0 a1_1 a1_2 l1_3 l1_4 a1_0 (a0.extract (a1_1 : Int).toNat (a1_2 : Int).toNat)) else (none)) else (none)) else (none)) else (if a1_0 = 4 then (if 0 ≤ a1_1 then (if a1_1 ≤ a1_2 then (if a1_2 ≤ (a0.size : Int) then ((spec_Unquote.f k (a0.extract (a1_1 : Int).toNat (a1_2 : Int).toNat)).bind fun t104 => (spec_Tree.j0 k a0 a1_0 a1_1 a1_2 l1_3 l1_4 a1_0 t104)) else (none)) else (none)) else (none)) else (spec_Tree.j0 k a0 a1_0 a1_1 a1_2 l1_3 l1_4 a1_0 (⟨#[]⟩ : ByteArray)))
end
theorem spec_Tree.mono_l : ∀ k, (∀ y0 y1 y2 y3 y4 y5, LeO (spec_Tree.f k y0 y1 y2 y3 y4 y5) (spec_Tree.f (k + 1) y0 y1 y2 y3 y4 y5)) ∧ (∀ y0 y1 y2 y3 y4 y5 y6 y7, LeO (spec_Tree.j0 k y0 y1 y2 y3 y4 y5 y6 y7) (spec_Tree.j0 (k + 1) y0 y1 y2 y3 y4 y5 y6 y7)) ∧ (∀ y0 y1 y2 y3 y4 y5 y6 y7 y8 y9, LeO (spec_Tree.l0 k y0 y1 y2 y3 y4 y5 y6 y7 y8 y9) (spec_Tree.l0 (k + 1) y0 y1 y2 y3 y4 y5 y6 y7 y8 y9)) ∧ (∀ y0 y1 y2 y3 y4 y5 y6 y7 y8 y9 y10, LeO (spec_Tree.l1 k y0 y1 y2 y3 y4 y5 y6 y7 y8 y9 y10) (spec_Tree.l1 (k + 1) y0 y1 y2 y3 y4 y5 y6 y7 y8 y9 y10))
 | 0 => ⟨fun _ _ _ _ _ _ r h => by simp [spec_Tree.f] at h, fun _ _ _ _ _ _ _ _ r h => by simp [spec_Tree.j0] at h, fun _ _ _ _ _ _ _ _ _ _ r h => by simp [spec_Tree.l0] at h, fun _ _ _ _ _ _ _ _ _ _ _ r h => by simp [spec_Tree.l1] at h⟩
 | k + 1 => by
  obtain ⟨ih0, ih1, ih2, ih3⟩ := spec_Tree.mono_l k
  refine ⟨?_, ?_, ?_, ?_⟩
  ·intro y0 y1 y2 y3 y4 y5
   unfold spec_Tree.f
   repeat' first
   | (with_reducible exact ih0 _ _ _ _ _ _)
   | (with_reducible exact ih1 _ _ _ _ _ _ _ _)
   | (with_reducible exact ih2 _ _ _ _ _ _ _ _ _ _)
   | (with_reducible exact ih3 _ _ _ _ _ _ _ _ _ _ _)
   | (with_reducible exact spec_Unquote.mono _ _)
   | (with_reducible exact LeO.refl _)
   | (with_reducible exact LeO.none _)
   | (with_reducible refine LeO.ite ?_ ?_)
   | (with_reducible refine LeO.bind ?_ (fun _ => ?_))
   | exact ih0 _ _ _ _ _ _
   | exact ih1 _ _ _ _ _ _ _ _
   | exact ih2 _ _ _ _ _ _ _ _ _ _
   | exact ih3 _ _ _ _ _ _ _ _ _ _ _
   | exact spec_Unquote.mono _ _
   | exact LeO.none _
   | refine LeO.ite ?_ ?_
   | refine LeO.bind ?_ (fun _ => ?_)
  ·intro y0 y1 y2 y3 y4 y5 y6 y7
   unfold spec_Tree.j0
   repeat' first
   | (with_reducible exact ih0 _ _ _ _ _ _)
   | (with_reducible exact ih1 _ _ _ _ _ _ _ _)
   | (with_reducible exact ih2 _ _ _ _ _ _ _ _ _ _)
   | (with_reducible exact ih3 _ _ _ _ _ _ _ _ _ _ _)
   | (with_reducible exact spec_Unquote.mono _ _)
   | (with_reducible exact LeO.refl _)
   | (with_reducible exact LeO.none _)
   | (with_reducible refine LeO.ite ?_ ?_)
   | (with_reducible refine LeO.bind ?_ (fun _ => ?_))
   | exact ih0 _ _ _ _ _ _
   | exact ih1 _ _ _ _ _ _ _ _
   | exact ih2 _ _ _ _ _ _ _ _ _ _
   | exact ih3 _ _ _ _ _ _ _ _ _ _ _
   | exact spec_Unquote.mono _ _
   | exact LeO.none _
   | refine LeO.ite ?_ ?_
   | refine LeO.bind ?_ (fun _ => ?_)
  ·intro y0 y1 y2 y3 y4 y5 y6 y7 y8 y9
   unfold spec_Tree.l0
   repeat' first
   | (with_reducible exact ih0 _ _ _ _ _ _)
   | (with_reducible exact ih1 _ _ _ _ _ _ _ _)
   | (with_reducible exact ih2 _ _ _ _ _ _ _ _ _ _)
   | (with_reducible exact ih3 _ _ _ _ _ _ _ _ _ _ _)
   | (with_reducible exact spec_Unquote.mono _ _)
   | (with_reducible exact LeO.refl _)
   | (with_reducible exact LeO.none _)
   | (with_reducible refine LeO.ite ?_ ?_)
   | (with_reducible refine LeO.bind ?_ (fun _ => ?_))
   | exact ih0 _ _ _ _ _ _
   | exact ih1 _ _ _ _ _ _ _ _
   | exact ih2 _ _ _ _ _ _ _ _ _ _
   | exact ih3 _ _ _ _ _ _ _ _ _ _ _
   | exact spec_Unquote.mono _ _
   | exact LeO.none _
   | refine LeO.ite ?_ ?_
   | refine LeO.bind ?_ (fun _ => ?_)
  ·intro y0 y1 y2 y3 y4 y5 y6 y7 y8 y9 y10
   unfold spec_Tree.l1
   repeat' first
   | (with_reducible exact ih0 _ _ _ _ _ _)
   | (with_reducible exact ih1 _ _ _ _ _ _ _ _)
   | (with_reducible exact ih2 _ _ _ _ _ _ _ _ _ _)
   | (with_reducible exact ih3 _ _ _ _ _ _ _ _ _ _ _)
   | (with_reducible exact spec_Unquote.mono _ _)
   | (with_reducible exact LeO.refl _)
   | (with_reducible exact LeO.none _)
   | (with_reducible refine LeO.ite ?_ ?_)
   | (with_reducible refine LeO.bind ?_ (fun _ => ?_))
   | exact ih0 _ _ _ _ _ _
   | exact ih1 _ _ _ _ _ _ _ _
   | exact ih2 _ _ _ _ _ _ _ _ _ _
   | exact ih3 _ _ _ _ _ _ _ _ _ _ _
   | exact spec_Unquote.mono _ _
   | exact LeO.none _
   | refine LeO.ite ?_ ?_
   | refine LeO.bind ?_ (fun _ => ?_)
theorem spec_Tree.mono : ∀ a0 a1 a2 a3 a4 a5 k, LeO (spec_Tree.f k a0 a1 a2 a3 a4 a5) (spec_Tree.f (k + 1) a0 a1 a2 a3 a4 a5) := by
 intro a0 a1 a2 a3 a4 a5 k
 obtain ⟨ih0, ih1, ih2, ih3⟩ := spec_Tree.mono_l k
 exact ih0 a0 a1 a2 a3 a4 a5
def spec_Tree.T10 : Bool × List (List Nat × List Nat) := (true, [([], []), ([0], [0]), ([], []), ([], []), ([3], [3]), ([], []), ([4, 5], [4, 5]), ([6], [6]), ([7], [7]), ([], []), ([9], [9]), ([], []), ([10, 11], [10, 11]), ([12], [12]), ([13], [13]), ([2, 8, 14], [2, 8, 14]), ([15], [15]), ([16], [16]), ([1, 17, 16], [1, 17]), ([0, 1, 2, 3, 4, 5, 6, 7, 8, 9, 10, 11, 12, 13, 14, 15, 16, 17, 18], []), ([19, 18, 18, 0, 1, 2, 3, 4, 5, 6, 7, 8, 9, 10, 11, 12, 13, 14, 15, 16, 17, 18], [18, 19])])
def spec_Tree.B10 : List Nat := [0, 1, 0, 0, 8, 0, 56, 120, 248, 0, 512, 0, 3584, 7680, 15872, 32764, 65532, 131068, 262143, 524287, 1048575]
theorem spec_Tree.tab10 : rtab .any (opsOf Tryd.f44 10) = spec_Tree.T10 := by kernel_rfl
theorem spec_Tree.bits10 : waitsOk spec_Tree.T10.2 spec_Tree.B10 = true := by kernel_rfl
def spec_Tree.T14 : Bool × List (List Nat × List Nat) := (true, [([], []), ([0], [0]), ([], []), ([], []), ([3], [3]), ([], []), ([4, 5], [4, 5]), ([6], [6]), ([2, 7], [2, 7]), ([8], [8]), ([1, 9, 8], [1, 9]), ([0, 1, 2, 3, 4, 5, 6, 7, 8, 9, 10], []), ([11, 10, 10, 0, 1, 2, 3, 4, 5, 6, 7, 8, 9, 10], [10, 11])])
def spec_Tree.B14 : List Nat := [0, 1, 0, 0, 8, 0, 56, 120, 252, 508, 1023, 2047, 4095]
theorem spec_Tree.tab14 : rtab .any (opsOf Tryd.f44 14) = spec_Tree.T14 := by kernel_rfl
theorem spec_Tree.bits14 : waitsOk spec_Tree.T14.2 spec_Tree.B14 = true := by kernel_rfl
set_option maxHeartbeats 8000000 in
set_option maxRecDepth 100000 in
theorem spec_Tree.calls (k : Nat) : ∀ (a0 : ByteArray) (a1_0 : Int) (a1_1 : Int) (a1_2 : Int) (A1_3 : Option Addr) (c1_3 : Nat) (l1_3 : List (S122)) (A1_4 : Option Addr) (c1_4 : Nat) (l1_4 : List (S38)) (r1 : Int) (r2 : ByteArray) (r3 : List ByteArray) (r4 : List (S34)) (w : World) (hr1_3 : Kd.C k122 w A1_3 l1_3.length l1_3) (hc1_3 : l1_3.length ≤ c1_3) (hr1_4 : Kd.C k38 w A1_4 l1_4.length l1_4) (hc1_4 : l1_4.length ≤ c1_4) (h : spec_Tree.f k a0 a1_0 a1_1 a1_2 l1_3 l1_4 = some (r1, r2, r3, r4)),
 Calls Tryd.prog 44 #[.string a0, .agg #[.int .i64 a1_0, .int .i64 a1_1, .int .i64 a1_2, .slice A1_3 l1_3.length c1_3, .slice A1_4 l1_4.length c1_4]] w fun e w' => ∃ v2_ v3_ : Value, e = .returned (.agg #[.int .i64 r1, .string r2, v2_, v3_]) ∧ Kd.R Kd.string 9 w' w.heap.size (fun _ => True) v2_ r3 ∧ Kd.R k34 34 w' w.heap.size (fun k_ => some k_ ≠ (v2_ : Value).ownBlock) v3_ r4 ∧ Below w.heap.size w w' := by
 induction k using Nat.strongRecOn with
 | _ k ih =>
 intro a0 a1_0 a1_1 a1_2 A1_3 c1_3 l1_3 A1_4 c1_4 l1_4 r1 r2 r3 r4 w hr1_3 hc1_3 hr1_4 hc1_4 h
 cases k with
 | zero => exact absurd h (by simp [spec_Tree.f])
 | succ k =>
 simp only [spec_Tree.f] at h
 have hu38 := Tryd.underlying38
 have hu34 := Tryd.underlying34
 have HR1_3 := mk0 hr1_3
 have HC1_3 := mk0 hc1_3
 clear hr1_3 hc1_3
 have HR1_4 := mk0 hr1_4
 have HC1_4 := mk0 hc1_4
 clear hr1_4 hc1_4
 have HB := mk0 (Below.refl w.heap.size w)
 have H : (if a1_0 = 3 then (if 0 ≤ a1_1 then (if a1_1 ≤ a1_2 then (if a1_2 ≤ (a0.size : Int) then (spec_Tree.j0 k a0 a1_0 a1_1 a1_2 l1_3 l1_4 a1_0 (a0.extract (a1_1 : Int).toNat (a1_2 : Int).toNat)) else (none)) else (none)) else (none)) else (if a1_0 = 4 then (if 0 ≤ a1_1 then (if a1_1 ≤ a1_2 then (if a1_2 ≤ (a0.size : Int) then ((spec_Unquote.f k (a0.extract (a1_1 : Int).toNat (a1_2 : Int).toNat)).bind fun t104 => (spec_Tree.j0 k a0 a1_0 a1_1 a1_2 l1_3 l1_4 a1_0 t104)) else (none)) else (none)) else (none)) else (spec_Tree.j0 k a0 a1_0 a1_1 a1_2 l1_3 l1_4 a1_0 (⟨#[]⟩ : ByteArray)))) = some (r1, r2, r3, r4) := h
 clear h
 have HC3 := mk0 H
 clear H
 go_enter Tryd.func44, Tryd.ntmps44
 go_upto_block 0 with (first | ((with_reducible refine gate_dst (N := 3) rfl ?_); refine box_event ?hg (N := 3) ?hd (cs := #[.int .i64 a1_0, .int .i64 a1_1, .int .i64 a1_2, .slice A1_3 l1_3.length c1_3, .slice A1_4 l1_4.length c1_4]) (t := 38) ?hr ?_; (case hd => rfl); (case hg => rfl); (case hr => exact zq32); intro gb101 hg w4 hbox hb; have BK101 := mk0 (hbox); have GW101 := mk0 ((zq62 : w.heap.size ≤ gb101)); have GE101 := mk0 ((zq62 : w.heap.size ≤ gb101)); replace HB := mk0 (below_step zq1 hb); clear hb hbox hg) | ((with_reducible refine gate_dst (N := 4) rfl ?_); refine box_event ?hg (N := 4) ?hd (cs := #[.int .i64 0, .string (⟨#[]⟩ : ByteArray), .slice none 0 0, .slice none 0 0]) (t := 34) ?hr ?_; (case hd => rfl); (case hg => rfl); (case hr => exact zq32); intro gb102 hg w5 hbox hb; have BK102 := mk0 (hbox); have GW102 := mk0 ((zq73 : w.heap.size ≤ gb102)); have GE102 := mk0 ((zq73 : w.heap.size ≤ gb102)); replace HB := mk0 (below_step zq20 hb); have NB101_102 := mk0 ((zq66 : gb101 ≠ gb102)); have NB102_101 := mk0 ((zq67 : gb102 ≠ gb101)); replace BK101 := mk0 (blk_below (g := gb101) (o := .cells #[.int .i64 a1_0, .int .i64 a1_1, .int .i64 a1_2, .slice A1_3 l1_3.length c1_3, .slice A1_4 l1_4.length c1_4] 38 (0, 0)) zq9 hb); clear hb hbox hg; have hnb6 := NB101_102.out; have hnc6 := NB102_101.out; have hcz7_0 : w5.cell? ⟨gb101, 0, none⟩ = some (.int .i64 a1_0) := (blk_cell BK101.out 0).trans rfl; have hcz7_1 : w5.cell? ⟨gb101, 1, none⟩ = some (.int .i64 a1_1) := (blk_cell BK101.out 1).trans rfl; have hcz7_2 : w5.cell? ⟨gb101, 2, none⟩ = some (.int .i64 a1_2) := (blk_cell BK101.out 2).trans rfl; have hcz7_3 : w5.cell? ⟨gb101, 3, none⟩ = some (.slice A1_3 l1_3.length c1_3) := (blk_cell BK101.out 3).trans rfl; have hcz7_4 : w5.cell? ⟨gb101, 4, none⟩ = some (.slice A1_4 l1_4.length c1_4) := (blk_cell BK101.out 4).trans rfl; have hfz7_0 := blk_frozen BK101.out 0; have hfz7_1 := blk_frozen BK101.out 1; have hfz7_2 := blk_frozen BK101.out 2; have hfz7_3 := blk_frozen BK101.out 3; have hfz7_4 := blk_frozen BK101.out 4) | ((with_reducible refine gate_dst (N := 5) rfl ?_); refine box_event ?hg (N := 5) ?hd (cs := #[.int .i64 0, .string (⟨#[]⟩ : ByteArray), .slice none 0 0, .slice none 0 0]) (t := 34) ?hr ?_; (case hd => rfl); (case hg => rfl); (case hr => exact zq32); intro gb103 hg w8 hbox hb; have BK103 := mk0 (hbox); have GW103 := mk0 ((by rw [hg]; exact (below_size zq51) : w.heap.size ≤ gb103)); have GE103 := mk0 ((by rw [hg]; exact (below_size zq51) : w.heap.size ≤ gb103)); replace HB := mk0 (below_step zq51 hb); have NB101_103 := mk0 ((zq66 : gb101 ≠ gb103)); have NB103_101 := mk0 ((zq67 : gb103 ≠ gb101)); replace BK101 := mk0 (blk_below (g := gb101) (o := .cells #[.int .i64 a1_0, .int .i64 a1_1, .int .i64 a1_2, .slice A1_3 l1_3.length c1_3, .slice A1_4 l1_4.length c1_4] 38 (0, 0)) zq9 hb); have NB102_103 := mk0 ((by rw [hg]; exact Nat.ne_of_lt (blk_lt (g := gb102) (o := .cells #[.int .i64 0, .string (⟨#[]⟩ : ByteArray), .slice none 0 0, .slice none 0 0] 34 (0, 0)) zq23) : gb102 ≠ gb103)); have NB103_102 := mk0 ((by rw [hg]; exact Nat.ne_of_gt (blk_lt (g := gb102) (o := .cells #[.int .i64 0, .string (⟨#[]⟩ : ByteArray), .slice none 0 0, .slice none 0 0] 34 (0, 0)) zq23) : gb103 ≠ gb102)); replace BK102 := mk0 (blk_below (g := gb102) (o := .cells #[.int .i64 0, .string (⟨#[]⟩ : ByteArray), .slice none 0 0, .slice none 0 0] 34 (0, 0)) zq23 hb); clear hb hbox hg; have hnb9 := NB103_101.out; have hnc9 := NB101_103.out; have hnb10 := NB103_102.out; have hnc10 := NB102_103.out; have hcz11_0 : w8.cell? ⟨gb103, 0, none⟩ = some (.int .i64 0) := (blk_cell BK103.out 0).trans rfl; have hcz11_1 : w8.cell? ⟨gb103, 1, none⟩ = some (.string (⟨#[]⟩ : ByteArray)) := (blk_cell BK103.out 1).trans rfl; have hcz11_2 : w8.cell? ⟨gb103, 2, none⟩ = some (.slice none 0 0) := (blk_cell BK103.out 2).trans rfl; have hcz11_3 : w8.cell? ⟨gb103, 3, none⟩ = some (.slice none 0 0) := (blk_cell BK103.out 3).trans rfl; have hfz11_0 := blk_frozen BK103.out 0; have hfz11_1 := blk_frozen BK103.out 1; have hfz11_2 := blk_frozen BK103.out 2; have hfz11_3 := blk_frozen BK103.out 3; have hcz12_0 : w8.cell? ⟨gb101, 0, none⟩ = some (.int .i64 a1_0) := (blk_cell BK101.out 0).trans rfl; have hcz12_1 : w8.cell? ⟨gb101, 1, none⟩ = some (.int .i64 a1_1) := (blk_cell BK101.out 1).trans rfl; have hcz12_2 : w8.cell? ⟨gb101, 2, none⟩ = some (.int .i64 a1_2) := (blk_cell BK101.out 2).trans rfl; have hcz12_3 : w8.cell? ⟨gb101, 3, none⟩ = some (.slice A1_3 l1_3.length c1_3) := (blk_cell BK101.out 3).trans rfl; have hcz12_4 : w8.cell? ⟨gb101, 4, none⟩ = some (.slice A1_4 l1_4.length c1_4) := (blk_cell BK101.out 4).trans rfl; have hfz12_0 := blk_frozen BK101.out 0; have hfz12_1 := blk_frozen BK101.out 1; have hfz12_2 := blk_frozen BK101.out 2; have hfz12_3 := blk_frozen BK101.out 3; have hfz12_4 := blk_frozen BK101.out 4))
 (try simp only [Act.put, List.setIfInBounds_toArray, List.set_cons_zero, List.set_cons_succ])
 go_cut [] (fun wc => ∃ (kq : Nat) (x104001_2 : ByteArray), Aside0 (spec_Tree.j0 kq a0 a1_0 a1_1 a1_2 l1_3 l1_4 a1_0 x104001_2 = some (r1, r2, r3, r4)) ∧ Aside0 (kq ≤ k) ∧ Aside0 (wc.heap[gb101]? = some (.cells #[.int .i64 a1_0, .int .i64 a1_1, .int .i64 a1_2, (.slice A1_3 l1_3.length c1_3), (.slice A1_4 l1_4.length c1_4)] 38 (0, 0))) ∧ Aside0 (wc.heap[gb102]? = some (.cells #[.int .i64 0, .string (⟨#[]⟩ : ByteArray), (.slice none 0 0), (.slice none 0 0)] 34 (0, 0))) ∧ Aside0 (wc.heap[gb103]? = some (.cells #[.int .i64 a1_0, .string x104001_2, (.slice none 0 0), (.slice none 0 0)] 34 (0, 0))) ∧ Aside0 (Below w.heap.size w wc))
 case first =>
  have H := HC3.out
  clear HC3
  by_cases c13 : a1_0 = 3
  ·rw [if_pos c13] at H
   have c13b0 : (a1_0 == 3) = true := beq_iff_eq.mpr c13
   have c13b1 : (a1_0 != 3) = false := bne_eq_false_iff_eq.mpr c13
   clear c13
   (skip)
   by_cases c14 : 0 ≤ a1_1
   rotate_left
   ·rw [if_neg c14] at H
    exact absurd H (by simp)
   rw [if_pos c14] at H
   have c14b0 := eq_true c14
   have c14b1 : decide (0 ≤ a1_1) = true := decide_eq_true c14
   clear c14
   by_cases c15 : a1_1 ≤ a1_2
   rotate_left
   ·rw [if_neg c15] at H
    exact absurd H (by simp)
   rw [if_pos c15] at H
   have c15b0 := eq_true c15
   have c15b1 : decide (a1_1 ≤ a1_2) = true := decide_eq_true c15
   clear c15
   by_cases c16 : a1_2 ≤ (a0.size : Int)
   rotate_left
   ·rw [if_neg c16] at H
    exact absurd H (by simp)
   rw [if_pos c16] at H
   have c16b0 := eq_true c16
   have c16b1 : decide (a1_2 ≤ (a0.size : Int)) = true := decide_eq_true c16
   clear c16
   have H' := mk0 H
   clear H
   have hnb17 := NB101_102.out
   have hnc17 := NB102_101.out
   have hnb18 := NB101_103.out
   have hnc18 := NB103_101.out
   have hcz19_0 : w8.cell? ⟨gb101, 0, none⟩ = some (.int .i64 a1_0) := (blk_cell BK101.out 0).trans rfl
   have hcz19_1 : w8.cell? ⟨gb101, 1, none⟩ = some (.int .i64 a1_1) := (blk_cell BK101.out 1).trans rfl
   have hcz19_2 : w8.cell? ⟨gb101, 2, none⟩ = some (.int .i64 a1_2) := (blk_cell BK101.out 2).trans rfl
   have hcz19_3 : w8.cell? ⟨gb101, 3, none⟩ = some (.slice A1_3 l1_3.length c1_3) := (blk_cell BK101.out 3).trans rfl
   have hcz19_4 : w8.cell? ⟨gb101, 4, none⟩ = some (.slice A1_4 l1_4.length c1_4) := (blk_cell BK101.out 4).trans rfl
   have hfz19_0 := blk_frozen BK101.out 0
   have hfz19_1 := blk_frozen BK101.out 1
   have hfz19_2 := blk_frozen BK101.out 2
   have hfz19_3 := blk_frozen BK101.out 3
   have hfz19_4 := blk_frozen BK101.out 4
   have hnb20 := NB103_102.out
   have hnc20 := NB102_103.out
   have hcz21_0 : w8.cell? ⟨gb103, 0, none⟩ = some (.int .i64 0) := (blk_cell BK103.out 0).trans rfl
   have hcz21_1 : w8.cell? ⟨gb103, 1, none⟩ = some (.string (⟨#[]⟩ : ByteArray)) := (blk_cell BK103.out 1).trans rfl
   have hcz21_2 : w8.cell? ⟨gb103, 2, none⟩ = some (.slice none 0 0) := (blk_cell BK103.out 2).trans rfl
   have hcz21_3 : w8.cell? ⟨gb103, 3, none⟩ = some (.slice none 0 0) := (blk_cell BK103.out 3).trans rfl
   have hfz21_0 := blk_frozen BK103.out 0
   have hfz21_1 := blk_frozen BK103.out 1
   have hfz21_2 := blk_frozen BK103.out 2
   have hfz21_3 := blk_frozen BK103.out 3
   go_wp2
   go_meet
   case rel => exact ⟨_, (a0.extract (a1_1 : Int).toNat (a1_2 : Int).toNat), H', ⟨by omega⟩, ⟨by (with_reducible repeat (first | refine blk_drewN ?_ _ | refine blk_drew ?_ | refine blk_alloc ?_ _)); refine blk_far ?_ NB101_103.out _; (with_reducible repeat (first | refine blk_drewN ?_ _ | refine blk_drew ?_ | refine blk_alloc ?_ _)); refine blk_far ?_ NB101_103.out _; (with_reducible repeat (first | refine blk_drewN ?_ _ | refine blk_drew ?_ | refine blk_alloc ?_ _)); refine blk_far ?_ NB101_103.out _; (with_reducible repeat (first | refine blk_drewN ?_ _ | refine blk_drew ?_ | refine blk_alloc ?_ _)); refine blk_far ?_ NB101_103.out _; (with_reducible repeat (first | refine blk_drewN ?_ _ | refine blk_drew ?_ | refine blk_alloc ?_ _)); refine blk_far ?_ NB101_103.out _; (with_reducible repeat (first | refine blk_drewN ?_ _ | refine blk_drew ?_ | refine blk_alloc ?_ _)); exact BK101.out⟩, ⟨by (with_reducible repeat (first | refine blk_drewN ?_ _ | refine blk_drew ?_ | refine blk_alloc ?_ _)); refine blk_far ?_ NB102_103.out _; (with_reducible repeat (first | refine blk_drewN ?_ _ | refine blk_drew ?_ | refine blk_alloc ?_ _)); refine blk_far ?_ NB102_103.out _; (with_reducible repeat (first | refine blk_drewN ?_ _ | refine blk_drew ?_ | refine blk_alloc ?_ _)); refine blk_far ?_ NB102_103.out _; (with_reducible repeat (first | refine blk_drewN ?_ _ | refine blk_drew ?_ | refine blk_alloc ?_ _)); refine blk_far ?_ NB102_103.out _; (with_reducible repeat (first | refine blk_drewN ?_ _ | refine blk_drew ?_ | refine blk_alloc ?_ _)); refine blk_far ?_ NB102_103.out _; (with_reducible repeat (first | refine blk_drewN ?_ _ | refine blk_drew ?_ | refine blk_alloc ?_ _)); exact BK102.out⟩, ⟨by (with_reducible repeat (first | refine blk_drewN ?_ _ | refine blk_drew ?_ | refine blk_alloc ?_ _)); refine blk_put (cs := #[.int .i64 a1_0, .string (⟨#[]⟩ : ByteArray), .slice none 0 0, .slice none 0 0]) ?_ 1 _ rfl; (with_reducible repeat (first | refine blk_drewN ?_ _ | refine blk_drew ?_ | refine blk_alloc ?_ _)); refine blk_put (cs := #[.int .i64 a1_0, .string (⟨#[]⟩ : ByteArray), .slice none 0 0, .slice none 0 0]) ?_ 3 _ rfl; (with_reducible repeat (first | refine blk_drewN ?_ _ | refine blk_drew ?_ | refine blk_alloc ?_ _)); refine blk_put (cs := #[.int .i64 a1_0, .string (⟨#[]⟩ : ByteArray), .slice none 0 0, .slice none 0 0]) ?_ 2 _ rfl; (with_reducible repeat (first | refine blk_drewN ?_ _ | refine blk_drew ?_ | refine blk_alloc ?_ _)); refine blk_put (cs := #[.int .i64 a1_0, .string (⟨#[]⟩ : ByteArray), .slice none 0 0, .slice none 0 0]) ?_ 1 _ rfl; (with_reducible repeat (first | refine blk_drewN ?_ _ | refine blk_drew ?_ | refine blk_alloc ?_ _)); refine blk_put (cs := #[.int .i64 0, .string (⟨#[]⟩ : ByteArray), .slice none 0 0, .slice none 0 0]) ?_ 0 _ rfl; (with_reducible repeat (first | refine blk_drewN ?_ _ | refine blk_drew ?_ | refine blk_alloc ?_ _)); exact BK103.out⟩, ⟨by repeat (first | (with_reducible first | exact HB.out | apply below_alloc | apply pw_below_drewN | apply below_drew1 | refine below_set ?_ GE101.out | refine below_set ?_ GE102.out | refine below_set ?_ GE103.out) | exact HB.out)⟩⟩
  rw [if_neg c13] at H
  have c13b0 : (a1_0 == 3) = false := beq_eq_false_iff_ne.mpr c13
  have c13b1 : (a1_0 != 3) = true := bne_iff_ne.mpr c13
  (skip)
  by_cases c22 : a1_0 = 4
  rotate_left
  ·rw [if_neg c22] at H
   have c22b0 : (a1_0 == 4) = false := beq_eq_false_iff_ne.mpr c22
   have c22b1 : (a1_0 != 4) = true := bne_iff_ne.mpr c22
   have H' := mk0 H
   clear H
   go_wp2
   go_meet
   case rel => exact ⟨_, ((⟨#[]⟩ : ByteArray)), H', ⟨by omega⟩, ⟨by (with_reducible repeat (first | refine blk_drewN ?_ _ | refine blk_drew ?_ | refine blk_alloc ?_ _)); refine blk_far ?_ NB101_103.out _; (with_reducible repeat (first | refine blk_drewN ?_ _ | refine blk_drew ?_ | refine blk_alloc ?_ _)); refine blk_far ?_ NB101_103.out _; (with_reducible repeat (first | refine blk_drewN ?_ _ | refine blk_drew ?_ | refine blk_alloc ?_ _)); refine blk_far ?_ NB101_103.out _; (with_reducible repeat (first | refine blk_drewN ?_ _ | refine blk_drew ?_ | refine blk_alloc ?_ _)); refine blk_far ?_ NB101_103.out _; (with_reducible repeat (first | refine blk_drewN ?_ _ | refine blk_drew ?_ | refine blk_alloc ?_ _)); exact BK101.out⟩, ⟨by (with_reducible repeat (first | refine blk_drewN ?_ _ | refine blk_drew ?_ | refine blk_alloc ?_ _)); refine blk_far ?_ NB102_103.out _; (with_reducible repeat (first | refine blk_drewN ?_ _ | refine blk_drew ?_ | refine blk_alloc ?_ _)); refine blk_far ?_ NB102_103.out _; (with_reducible repeat (first | refine blk_drewN ?_ _ | refine blk_drew ?_ | refine blk_alloc ?_ _)); refine blk_far ?_ NB102_103.out _; (with_reducible repeat (first | refine blk_drewN ?_ _ | refine blk_drew ?_ | refine blk_alloc ?_ _)); refine blk_far ?_ NB102_103.out _; (with_reducible repeat (first | refine blk_drewN ?_ _ | refine blk_drew ?_ | refine blk_alloc ?_ _)); exact BK102.out⟩, ⟨by (with_reducible repeat (first | refine blk_drewN ?_ _ | refine blk_drew ?_ | refine blk_alloc ?_ _)); refine blk_put (cs := #[.int .i64 a1_0, .string (⟨#[]⟩ : ByteArray), .slice none 0 0, .slice none 0 0]) ?_ 3 _ rfl; (with_reducible repeat (first | refine blk_drewN ?_ _ | refine blk_drew ?_ | refine blk_alloc ?_ _)); refine blk_put (cs := #[.int .i64 a1_0, .string (⟨#[]⟩ : ByteArray), .slice none 0 0, .slice none 0 0]) ?_ 2 _ rfl; (with_reducible repeat (first | refine blk_drewN ?_ _ | refine blk_drew ?_ | refine blk_alloc ?_ _)); refine blk_put (cs := #[.int .i64 a1_0, .string (⟨#[]⟩ : ByteArray), .slice none 0 0, .slice none 0 0]) ?_ 1 _ rfl; (with_reducible repeat (first | refine blk_drewN ?_ _ | refine blk_drew ?_ | refine blk_alloc ?_ _)); refine blk_put (cs := #[.int .i64 0, .string (⟨#[]⟩ : ByteArray), .slice none 0 0, .slice none 0 0]) ?_ 0 _ rfl; (with_reducible repeat (first | refine blk_drewN ?_ _ | refine blk_drew ?_ | refine blk_alloc ?_ _)); exact BK103.out⟩, ⟨by repeat (first | (with_reducible first | exact HB.out | apply below_alloc | apply pw_below_drewN | apply below_drew1 | refine below_set ?_ GE101.out | refine below_set ?_ GE102.out | refine below_set ?_ GE103.out) | exact HB.out)⟩⟩
  rw [if_pos c22] at H
  have c22b0 : (a1_0 == 4) = true := beq_iff_eq.mpr c22
  have c22b1 : (a1_0 != 4) = false := bne_eq_false_iff_eq.mpr c22
  clear c22
  by_cases c23 : 0 ≤ a1_1
  rotate_left
  ·rw [if_neg c23] at H
   exact absurd H (by simp)
  rw [if_pos c23] at H
  have c23b0 := eq_true c23
  have c23b1 : decide (0 ≤ a1_1) = true := decide_eq_true c23
  clear c23
  by_cases c24 : a1_1 ≤ a1_2
  rotate_left
  ·rw [if_neg c24] at H
   exact absurd H (by simp)
  rw [if_pos c24] at H
  have c24b0 := eq_true c24
  have c24b1 : decide (a1_1 ≤ a1_2) = true := decide_eq_true c24
  clear c24
  by_cases c25 : a1_2 ≤ (a0.size : Int)
  rotate_left
  ·rw [if_neg c25] at H
   exact absurd H (by simp)
  rw [if_pos c25] at H
  have c25b0 := eq_true c25
  have c25b1 : decide (a1_2 ≤ (a0.size : Int)) = true := decide_eq_true c25
  clear c25
  replace H := Option.bind_eq_some_iff.mp H
  obtain ⟨t104, A260, H⟩ := H
  (try dsimp only at H)
  have A26 := mk0 A260
  clear A260
  have H' := mk0 H
  clear H
  have hnb27 := NB101_102.out
  have hnc27 := NB102_101.out
  have hnb28 := NB101_103.out
  have hnc28 := NB103_101.out
  have hcz29_0 : w8.cell? ⟨gb101, 0, none⟩ = some (.int .i64 a1_0) := (blk_cell BK101.out 0).trans rfl
  have hcz29_1 : w8.cell? ⟨gb101, 1, none⟩ = some (.int .i64 a1_1) := (blk_cell BK101.out 1).trans rfl
  have hcz29_2 : w8.cell? ⟨gb101, 2, none⟩ = some (.int .i64 a1_2) := (blk_cell BK101.out 2).trans rfl
  have hcz29_3 : w8.cell? ⟨gb101, 3, none⟩ = some (.slice A1_3 l1_3.length c1_3) := (blk_cell BK101.out 3).trans rfl
  have hcz29_4 : w8.cell? ⟨gb101, 4, none⟩ = some (.slice A1_4 l1_4.length c1_4) := (blk_cell BK101.out 4).trans rfl
  have hfz29_0 := blk_frozen BK101.out 0
  have hfz29_1 := blk_frozen BK101.out 1
  have hfz29_2 := blk_frozen BK101.out 2
  have hfz29_3 := blk_frozen BK101.out 3
  have hfz29_4 := blk_frozen BK101.out 4
  go_wp2_with (first | ((with_reducible refine gate_callee (f := 27) rfl ?_); refine goesL_ (some 30) rfl rfl Tryd.func27 zq24 rfl #[.string (a0.extract (a1_1 : Int).toNat (a1_2 : Int).toNat)] rfl zq0 ?_; (with_reducible refine (spec_Unquote.calls k (a0.extract (a1_1 : Int).toNat (a1_2 : Int).toNat) t104 _ A26.out).mono ?_); rintro e w30 ⟨rfl, hb⟩; refine ⟨_, rfl, ?_⟩; replace BK101 := mk0 (blk_below (g := gb101) (o := .cells #[.int .i64 a1_0, .int .i64 a1_1, .int .i64 a1_2, .slice A1_3 l1_3.length c1_3, .slice A1_4 l1_4.length c1_4] 38 (0, 0)) (by (with_reducible repeat (first | refine blk_drewN ?_ _ | refine blk_drew ?_ | refine blk_alloc ?_ _)); refine blk_far ?_ NB101_103.out _; (with_reducible repeat (first | refine blk_drewN ?_ _ | refine blk_drew ?_ | refine blk_alloc ?_ _)); refine blk_far ?_ NB101_103.out _; (with_reducible repeat (first | refine blk_drewN ?_ _ | refine blk_drew ?_ | refine blk_alloc ?_ _)); refine blk_far ?_ NB101_103.out _; (with_reducible repeat (first | refine blk_drewN ?_ _ | refine blk_drew ?_ | refine blk_alloc ?_ _)); refine blk_far ?_ NB101_103.out _; (with_reducible repeat (first | refine blk_drewN ?_ _ | refine blk_drew ?_ | refine blk_alloc ?_ _)); exact BK101.out) hb); replace BK102 := mk0 (blk_below (g := gb102) (o := .cells #[.int .i64 0, .string (⟨#[]⟩ : ByteArray), .slice none 0 0, .slice none 0 0] 34 (0, 0)) (by (with_reducible repeat (first | refine blk_drewN ?_ _ | refine blk_drew ?_ | refine blk_alloc ?_ _)); refine blk_far ?_ NB102_103.out _; (with_reducible repeat (first | refine blk_drewN ?_ _ | refine blk_drew ?_ | refine blk_alloc ?_ _)); refine blk_far ?_ NB102_103.out _; (with_reducible repeat (first | refine blk_drewN ?_ _ | refine blk_drew ?_ | refine blk_alloc ?_ _)); refine blk_far ?_ NB102_103.out _; (with_reducible repeat (first | refine blk_drewN ?_ _ | refine blk_drew ?_ | refine blk_alloc ?_ _)); refine blk_far ?_ NB102_103.out _; (with_reducible repeat (first | refine blk_drewN ?_ _ | refine blk_drew ?_ | refine blk_alloc ?_ _)); exact BK102.out) hb); replace BK103 := mk0 (blk_below (g := gb103) (o := .cells #[.int .i64 a1_0, .string (⟨#[]⟩ : ByteArray), .slice none 0 0, .slice none 0 0] 34 (0, 0)) (by (with_reducible repeat (first | refine blk_drewN ?_ _ | refine blk_drew ?_ | refine blk_alloc ?_ _)); refine blk_put (cs := #[.int .i64 a1_0, .string (⟨#[]⟩ : ByteArray), .slice none 0 0, .slice none 0 0]) ?_ 3 _ rfl; (with_reducible repeat (first | refine blk_drewN ?_ _ | refine blk_drew ?_ | refine blk_alloc ?_ _)); refine blk_put (cs := #[.int .i64 a1_0, .string (⟨#[]⟩ : ByteArray), .slice none 0 0, .slice none 0 0]) ?_ 2 _ rfl; (with_reducible repeat (first | refine blk_drewN ?_ _ | refine blk_drew ?_ | refine blk_alloc ?_ _)); refine blk_put (cs := #[.int .i64 a1_0, .string (⟨#[]⟩ : ByteArray), .slice none 0 0, .slice none 0 0]) ?_ 1 _ rfl; (with_reducible repeat (first | refine blk_drewN ?_ _ | refine blk_drew ?_ | refine blk_alloc ?_ _)); refine blk_put (cs := #[.int .i64 0, .string (⟨#[]⟩ : ByteArray), .slice none 0 0, .slice none 0 0]) ?_ 0 _ rfl; (with_reducible repeat (first | refine blk_drewN ?_ _ | refine blk_drew ?_ | refine blk_alloc ?_ _)); exact BK103.out) hb); replace HB := mk0 (below_step zq26 hb); clear hb; have hnb31 := NB103_102.out; have hnc31 := NB102_103.out; have hcz32_0 : w30.cell? ⟨gb103, 0, none⟩ = some (.int .i64 a1_0) := (blk_cell BK103.out 0).trans rfl; have hcz32_1 : w30.cell? ⟨gb103, 1, none⟩ = some (.string (⟨#[]⟩ : ByteArray)) := (blk_cell BK103.out 1).trans rfl; have hcz32_2 : w30.cell? ⟨gb103, 2, none⟩ = some (.slice none 0 0) := (blk_cell BK103.out 2).trans rfl; have hcz32_3 : w30.cell? ⟨gb103, 3, none⟩ = some (.slice none 0 0) := (blk_cell BK103.out 3).trans rfl; have hfz32_0 := blk_frozen BK103.out 0; have hfz32_1 := blk_frozen BK103.out 1; have hfz32_2 := blk_frozen BK103.out 2; have hfz32_3 := blk_frozen BK103.out 3))
  go_meet
  case rel => exact ⟨_, (t104), H', ⟨by omega⟩, ⟨by (with_reducible repeat (first | refine blk_drewN ?_ _ | refine blk_drew ?_ | refine blk_alloc ?_ _)); refine blk_far ?_ NB101_103.out _; (with_reducible repeat (first | refine blk_drewN ?_ _ | refine blk_drew ?_ | refine blk_alloc ?_ _)); exact BK101.out⟩, ⟨by (with_reducible repeat (first | refine blk_drewN ?_ _ | refine blk_drew ?_ | refine blk_alloc ?_ _)); refine blk_far ?_ NB102_103.out _; (with_reducible repeat (first | refine blk_drewN ?_ _ | refine blk_drew ?_ | refine blk_alloc ?_ _)); exact BK102.out⟩, ⟨by (with_reducible repeat (first | refine blk_drewN ?_ _ | refine blk_drew ?_ | refine blk_alloc ?_ _)); refine blk_put (cs := #[.int .i64 a1_0, .string (⟨#[]⟩ : ByteArray), .slice none 0 0, .slice none 0 0]) ?_ 1 _ rfl; (with_reducible repeat (first | refine blk_drewN ?_ _ | refine blk_drew ?_ | refine blk_alloc ?_ _)); exact BK103.out⟩, ⟨by repeat (first | (with_reducible first | exact HB.out | apply below_alloc | apply pw_below_drewN | apply below_drew1 | refine below_set ?_ GE101.out | refine below_set ?_ GE102.out | refine below_set ?_ GE103.out) | exact HB.out)⟩⟩
 case rest =>
  clear HC3 hcz11_0 hcz11_1 hcz11_2 hcz11_3 hcz12_0 hcz12_1 hcz12_2 hcz12_3 hcz12_4 hcz7_0 hcz7_1 hcz7_2 hcz7_3 hcz7_4 hfz11_0 hfz11_1 hfz11_2 hfz11_3 hfz12_0 hfz12_1 hfz12_2 hfz12_3 hfz12_4 hfz7_0 hfz7_1 hfz7_2 hfz7_3 hfz7_4
  obtain ⟨kq, x104001_2, HA, HJ2, BK101, BK102, BK103, HB⟩ := hcut
  cases kq with
  | zero => exact absurd HA.out (by simp [spec_Tree.j0])
  | succ kj2 =>
   have H := HA.out
   clear HA
   simp only [spec_Tree.j0] at H
   have H' := mk0 H
   clear H
   go_wp2
   go_loopg [6] kj2 (fun kq v6 w' => ∃ (x6_2 : Int) (x104002_2 : List ByteArray) (u104002 : Value), v6 = .int .i64 x6_2 ∧ Aside0 (spec_Tree.l0 kq a0 x6_2 a1_0 a1_1 a1_2 l1_3 l1_4 a1_0 x104001_2 x104002_2 = some (r1, r2, r3, r4)) ∧ Aside0 (kq ≤ kj2) ∧ Aside0 (Kd.R Kd.string 9 w' w.heap.size (fun _ => True) u104002 x104002_2) ∧ Aside0 (w'.heap[gb101]? = some (.cells #[.int .i64 a1_0, .int .i64 a1_1, .int .i64 a1_2, (.slice A1_3 l1_3.length c1_3), (.slice A1_4 l1_4.length c1_4)] 38 (0, 0))) ∧ Aside0 (w'.heap[gb102]? = some (.cells #[.int .i64 0, .string (⟨#[]⟩ : ByteArray), (.slice none 0 0), (.slice none 0 0)] 34 (0, 0))) ∧ Aside0 (w'.heap[gb103]? = some (.cells #[.int .i64 a1_0, .string x104001_2, u104002, (.slice none 0 0)] 34 (0, 0))) ∧ Aside0 (Below w.heap.size w w'))
   case atStart => exact ⟨(0), (([] : List ByteArray)), (.slice none 0 0), (by rfl), H', ⟨Nat.le_refl _⟩, ⟨by exact Kd.R_nil _ _ _ _ _⟩, ⟨by (with_reducible repeat (first | refine blk_drewN ?_ _ | refine blk_drew ?_ | refine blk_alloc ?_ _)); exact BK101.out⟩, ⟨by (with_reducible repeat (first | refine blk_drewN ?_ _ | refine blk_drew ?_ | refine blk_alloc ?_ _)); exact BK102.out⟩, ⟨by (with_reducible repeat (first | refine blk_drewN ?_ _ | refine blk_drew ?_ | refine blk_alloc ?_ _)); exact BK103.out⟩, ⟨by repeat (first | (with_reducible first | exact HB.out | apply below_alloc | apply pw_below_drewN | apply below_drew1 | refine below_set ?_ GE101.out | refine below_set ?_ GE102.out | refine below_set ?_ GE103.out) | exact HB.out)⟩⟩
   case round =>
    clear H'
    obtain ⟨x6_2, x104002_2, u104002, rfl, HA, HK2, HO_104002, BK101, BK102, BK103, HB⟩ := hrel
    cases gk with
    | zero => exact absurd HA.out (by simp [spec_Tree.l0])
    | succ k2 =>
     have H := HA.out
     clear HA
     simp only [spec_Tree.l0] at H
     by_cases c33 : x6_2 < (l1_3.length : Int)
     ·rw [if_pos c33] at H
      have c33b0 : decide (x6_2 < (l1_3.length : Int)) = true := decide_eq_true c33
      clear c33
      by_cases c34 : 0 ≤ x6_2
      rotate_left
      ·rw [if_neg c34] at H
       exact absurd H (by simp)
      rw [if_pos c34] at H
      have c34b0 : decide (0 ≤ x6_2) = true := decide_eq_true c34
      clear c34
      by_cases c35 : 0 ≤ ((rd_T122 l1_3 x6_2).f0)
      rotate_left
      ·rw [if_neg c35] at H
       exact absurd H (by simp)
      rw [if_pos c35] at H
      have c35b0 := eq_true c35
      have c35b1 : decide (0 ≤ ((rd_T122 l1_3 x6_2).f0)) = true := decide_eq_true c35
      clear c35
      by_cases c36 : ((rd_T122 l1_3 x6_2).f0) ≤ ((rd_T122 l1_3 x6_2).f1)
      rotate_left
      ·rw [if_neg c36] at H
       exact absurd H (by simp)
      rw [if_pos c36] at H
      have c36b0 := eq_true c36
      have c36b1 : decide (((rd_T122 l1_3 x6_2).f0) ≤ ((rd_T122 l1_3 x6_2).f1)) = true := decide_eq_true c36
      clear c36
      by_cases c37 : ((rd_T122 l1_3 x6_2).f1) ≤ (a0.size : Int)
      rotate_left
      ·rw [if_neg c37] at H
       exact absurd H (by simp)
      rw [if_pos c37] at H
      have c37b0 := eq_true c37
      have c37b1 : decide (((rd_T122 l1_3 x6_2).f1) ≤ (a0.size : Int)) = true := decide_eq_true c37
      clear c37
      replace H := Option.bind_eq_some_iff.mp H
      obtain ⟨t107, A380, H⟩ := H
      (try dsimp only at H)
      have A38 := mk0 A380
      clear A380
      by_cases c39 : x104002_2.length < 8796093022208
      rotate_left
      ·rw [if_neg c39] at H
       exact absurd H (by simp)
      rw [if_pos c39] at H
      have LMc39 := mk0 c39
      clear c39
      obtain ⟨y108, hy108⟩ : ∃ y_ : List ByteArray, y_ = (x104002_2 ++ [t107]) := ⟨_, rfl⟩
      replace H : (spec_Tree.l0 k2 a0 (wrap64 (x6_2 + 1)) a1_0 a1_1 a1_2 l1_3 l1_4 a1_0 x104001_2 y108) = some (r1, r2, r3, r4) := by (rw [hy108]; with_reducible exact H)
      have Ny108 := mk0 hy108
      clear hy108
      have H' := mk0 H
      clear H
      have hnb40 := NB101_102.out
      have hnc40 := NB102_101.out
      have hnb41 := NB101_103.out
      have hnc41 := NB103_101.out
      have hcz42_0 : wr.cell? ⟨gb101, 0, none⟩ = some (.int .i64 a1_0) := (blk_cell BK101.out 0).trans rfl
      have hcz42_1 : wr.cell? ⟨gb101, 1, none⟩ = some (.int .i64 a1_1) := (blk_cell BK101.out 1).trans rfl
      have hcz42_2 : wr.cell? ⟨gb101, 2, none⟩ = some (.int .i64 a1_2) := (blk_cell BK101.out 2).trans rfl
      have hcz42_3 : wr.cell? ⟨gb101, 3, none⟩ = some (.slice A1_3 l1_3.length c1_3) := (blk_cell BK101.out 3).trans rfl
      have hcz42_4 : wr.cell? ⟨gb101, 4, none⟩ = some (.slice A1_4 l1_4.length c1_4) := (blk_cell BK101.out 4).trans rfl
      have hfz42_0 := blk_frozen BK101.out 0
      have hfz42_1 := blk_frozen BK101.out 1
      have hfz42_2 := blk_frozen BK101.out 2
      have hfz42_3 := blk_frozen BK101.out 3
      have hfz42_4 := blk_frozen BK101.out 4
      try go_wp2
      have n0_ := mk0 (Kd.R_drew HO_104002.out)
      have n1_ := mk0 (blk_drew BK101.out)
      have n2_ := mk0 (blk_drew BK102.out)
      have n3_ := mk0 (blk_drew BK103.out)
      have n4_ := mk0 (below_drew1 HB.out)
      clear HO_104002 BK101 BK102 BK103 HB
      have HO_104002 := n0_
      have BK101 := n1_
      have BK102 := n2_
      have BK103 := n3_
      have HB := n4_
      clear n0_ n1_ n2_ n3_ n4_
      have p105 : 0 ≤ (x6_2 : Int) := of_decide_eq_true zq5
      have q105 : x6_2 < (l1_3.length : Int) := of_decide_eq_true zq5
      obtain ⟨ad105, e105, hx105_0, hx105_1⟩ := at_T122 HR1_3.out x6_2 p105 q105
      have hw105_1 := hx105_1
      have hw105_0 := hx105_0
      cases e105
      replace hx105_0 := (HB.out.cell (World.block_lt_of_cell? w _ hx105_0)).trans hx105_0
      replace hx105_1 := (HB.out.cell (World.block_lt_of_cell? w _ hx105_1)).trans hx105_1
      replace p105 := eq_true p105
      replace q105 := eq_true q105
      have p106 : 0 ≤ (x6_2 : Int) := of_decide_eq_true zq5
      have q106 : x6_2 < (l1_3.length : Int) := of_decide_eq_true zq5
      obtain ⟨ad106, e106, hx106_0, hx106_1⟩ := at_T122 HR1_3.out x6_2 p106 q106
      have hw106_1 := hx106_1
      have hw106_0 := hx106_0
      obtain rfl : ad105 = ad106 := (by injection e106)
      replace hx106_0 := (HB.out.cell (World.block_lt_of_cell? w _ hx106_0)).trans hx106_0
      replace hx106_1 := (HB.out.cell (World.block_lt_of_cell? w _ hx106_1)).trans hx106_1
      replace p106 := eq_true p106
      replace q106 := eq_true q106
      refine start_ (n := 21) (S := fun w' => w'.cell? ⟨gb103, 0, none⟩ = some (.int .i64 a1_0) ∧ w'.cell? ⟨gb103, 1, none⟩ = some (.string x104001_2) ∧ w'.cell? ⟨gb103, 2, none⟩ = some (u104002) ∧ w'.cell? ⟨gb103, 3, none⟩ = some (.slice none 0 0) ∧ w'.cell? ⟨gb101, 0, none⟩ = some (.int .i64 a1_0) ∧ w'.cell? ⟨gb101, 1, none⟩ = some (.int .i64 a1_1) ∧ w'.cell? ⟨gb101, 2, none⟩ = some (.int .i64 a1_2) ∧ w'.cell? ⟨gb101, 3, none⟩ = some (.slice (some ad105) l1_3.length c1_3) ∧ w'.cell? ⟨gb101, 4, none⟩ = some (.slice A1_4 l1_4.length c1_4) ∧ w'.cell? (ad105.add ((x6_2).toNat * 2)) = some (.int .i64 ((rd_T122 l1_3 x6_2).f0)) ∧ w'.cell? ⟨(ad105.add ((x6_2).toNat * 2)).block, (ad105.add ((x6_2).toNat * 2)).off + 1, none⟩ = some (.int .i64 ((rd_T122 l1_3 x6_2).f1)) ∧ w'.cell? (ad105.add ((x6_2).toNat * 2)) = some (.int .i64 ((rd_T122 l1_3 x6_2).f0)) ∧ w'.cell? ⟨(ad105.add ((x6_2).toNat * 2)).block, (ad105.add ((x6_2).toNat * 2)).off + 1, none⟩ = some (.int .i64 ((rd_T122 l1_3 x6_2).f1))) (ds := [20]) #[false, false, false, false, false, false, false, false, false, false, false, false, false, false, false, false, false, false, false, false, false] zq24 rfl rfl ⟨(blk_cell BK103.out 0).trans rfl, (blk_cell BK103.out 1).trans rfl, (blk_cell BK103.out 2).trans rfl, (blk_cell BK103.out 3).trans rfl, (blk_cell BK101.out 0).trans rfl, (blk_cell BK101.out 1).trans rfl, (blk_cell BK101.out 2).trans rfl, (blk_cell BK101.out 3).trans rfl, (blk_cell BK101.out 4).trans rfl, ((HB.out.cell (World.block_lt_of_cell? w _ hw105_0)).trans hw105_0), ((HB.out.cell (World.block_lt_of_cell? w _ hw105_1)).trans hw105_1), ((HB.out.cell (World.block_lt_of_cell? w _ hw106_0)).trans hw106_0), ((HB.out.cell (World.block_lt_of_cell? w _ hw106_1)).trans hw106_1)⟩ (fun hHeld => ?_); refine with_tabW spec_Tree.tab10 spec_Tree.bits10 (fun HT_ HW_ => ?_)
      generalize wr.drew = w43 at HO_104002 BK101 BK102 BK103 HB hx105_0 hx105_1 hx106_0 hx106_1 hHeld ⊢
      refine pure_ (i := 0) (N := some 39) (v := ?_) (a' := ?_) #[true, false, false, false, false, false, false, false, false, false, false, false, false, false, false, false, false, false, false, false, false] rfl rfl (any_of HT_.out zq24) (fun _ _ _ h => h) (Or.inl ⟨by rfl, ?_⟩) ?_ ?_
      rotate_left
      ·intro w'
       go_simp
       with_reducible rfl
      rotate_left
      ·simp only [Act.put, List.setIfInBounds_toArray, List.set_cons_zero, List.set_cons_succ, i64_w, i32_w]
       rfl
      refine pure_ (i := 2) (N := some 41) (v := ?_) (a' := ?_) #[true, false, true, false, false, false, false, false, false, false, false, false, false, false, false, false, false, false, false, false, false] rfl rfl (any_of HT_.out zq24) (fun _ _ _ h => h) (Or.inl ⟨by rfl, ?_⟩) ?_ ?_
      rotate_left
      ·intro w'
       go_simp
       with_reducible rfl
      rotate_left
      ·simp only [Act.put, List.setIfInBounds_toArray, List.set_cons_zero, List.set_cons_succ, i64_w, i32_w]
       rfl
      refine pure_ (i := 3) (N := some 42) (v := ?_) (a' := ?_) #[true, false, true, true, false, false, false, false, false, false, false, false, false, false, false, false, false, false, false, false, false] rfl rfl (any_of HT_.out zq24) (fun _ _ _ h => h) (Or.inl ⟨by rfl, ?_⟩) ?_ ?_
      rotate_left
      ·intro w'
       go_simp
       with_reducible rfl
      rotate_left
      ·simp only [Act.put, List.setIfInBounds_toArray, List.set_cons_zero, List.set_cons_succ, i64_w, i32_w]
       rfl
      refine pure_ (i := 5) (N := some 44) (v := ?_) (a' := ?_) #[true, false, true, true, false, true, false, false, false, false, false, false, false, false, false, false, false, false, false, false, false] rfl rfl (any_of HT_.out zq24) (fun _ _ _ h => h) (Or.inl ⟨by rfl, ?_⟩) ?_ ?_
      rotate_left
      ·intro w'
       go_simp
       with_reducible rfl
      rotate_left
      ·simp only [Act.put, List.setIfInBounds_toArray, List.set_cons_zero, List.set_cons_succ, i64_w, i32_w]
       rfl
      refine pure_ (i := 9) (N := some 48) (v := ?_) (a' := ?_) #[true, false, true, true, false, true, false, false, false, true, false, false, false, false, false, false, false, false, false, false, false] rfl rfl (any_of HT_.out zq24) (fun _ _ _ h => h) (Or.inl ⟨by rfl, ?_⟩) ?_ ?_
      rotate_left
      ·intro w'
       go_simp
       with_reducible rfl
      rotate_left
      ·simp only [Act.put, List.setIfInBounds_toArray, List.set_cons_zero, List.set_cons_succ, i64_w, i32_w]
       rfl
      refine pure_ (i := 11) (N := some 50) (v := ?_) (a' := ?_) #[true, false, true, true, false, true, false, false, false, true, false, true, false, false, false, false, false, false, false, false, false] rfl rfl (any_of HT_.out zq24) (fun _ _ _ h => h) (Or.inl ⟨by rfl, ?_⟩) ?_ ?_
      rotate_left
      ·intro w'
       go_simp
       with_reducible rfl
      rotate_left
      ·simp only [Act.put, List.setIfInBounds_toArray, List.set_cons_zero, List.set_cons_succ, i64_w, i32_w]
       rfl
      refine take_ (i := 1) (N := some 40) (v := ?_) (a' := ?_) #[true, true, true, true, false, true, false, false, false, true, false, true, false, false, false, false, false, false, false, false, false] rfl rfl (take_ofW HT_.out HW_.out zq24) (fun _ _ _ h => h) (Or.inl ⟨by rfl, ?_⟩) hHeld ?_ ?_
      rotate_left
      ·rintro w' ⟨s0, s1, s2, s3, s4, s5, s6, s7, s8, s9, s10, s11, s12⟩
       go_simp
       with_reducible rfl
      rotate_left
      ·simp only [Act.put, List.setIfInBounds_toArray, List.set_cons_zero, List.set_cons_succ, i64_w, i32_w]
       rfl
      refine take_ (i := 4) (N := some 43) (v := ?_) (a' := ?_) #[true, true, true, true, true, true, false, false, false, true, false, true, false, false, false, false, false, false, false, false, false] rfl rfl (take_ofW HT_.out HW_.out zq24) (fun _ _ _ h => h) (Or.inl ⟨by rfl, ?_⟩) hHeld ?_ ?_
      rotate_left
      ·rintro w' ⟨s0, s1, s2, s3, s4, s5, s6, s7, s8, s9, s10, s11, s12⟩
       go_simp
       with_reducible rfl
      rotate_left
      ·simp only [Act.put, List.setIfInBounds_toArray, List.set_cons_zero, List.set_cons_succ, i64_w, i32_w]
       rfl
      refine pure_ (i := 6) (N := some 45) (v := ?_) (a' := ?_) #[true, true, true, true, true, true, true, false, false, true, false, true, false, false, false, false, false, false, false, false, false] rfl rfl (any_of HT_.out zq24) (fun _ _ _ h => h) (Or.inl ⟨by rfl, ?_⟩) ?_ ?_
      rotate_left
      ·intro w'
       go_simp
       with_reducible rfl
      rotate_left
      ·simp only [Act.put, List.setIfInBounds_toArray, List.set_cons_zero, List.set_cons_succ, i64_w, i32_w]
       rfl
      refine pure_ (i := 7) (N := some 46) (v := ?_) (a' := ?_) #[true, true, true, true, true, true, true, true, false, true, false, true, false, false, false, false, false, false, false, false, false] rfl rfl (any_of HT_.out zq24) (fun _ _ _ h => h) (Or.inl ⟨by rfl, ?_⟩) ?_ ?_
      rotate_left
      ·intro w'
       go_simp
       with_reducible rfl
      rotate_left
      ·simp only [Act.put, List.setIfInBounds_toArray, List.set_cons_zero, List.set_cons_succ, i64_w, i32_w]
       rfl
      refine take_ (i := 8) (N := some 47) (v := ?_) (a' := ?_) #[true, true, true, true, true, true, true, true, true, true, false, true, false, false, false, false, false, false, false, false, false] rfl rfl (take_ofW HT_.out HW_.out zq24) (fun _ _ _ h => h) (Or.inl ⟨by rfl, ?_⟩) hHeld ?_ ?_
      rotate_left
      ·rintro w' ⟨s0, s1, s2, s3, s4, s5, s6, s7, s8, s9, s10, s11, s12⟩
       go_simp
       with_reducible rfl
      rotate_left
      ·simp only [Act.put, List.setIfInBounds_toArray, List.set_cons_zero, List.set_cons_succ, i64_w, i32_w]
       rfl
      refine take_ (i := 10) (N := some 49) (v := ?_) (a' := ?_) #[true, true, true, true, true, true, true, true, true, true, true, true, false, false, false, false, false, false, false, false, false] rfl rfl (take_ofW HT_.out HW_.out zq24) (fun _ _ _ h => h) (Or.inl ⟨by rfl, ?_⟩) hHeld ?_ ?_
      rotate_left
      ·rintro w' ⟨s0, s1, s2, s3, s4, s5, s6, s7, s8, s9, s10, s11, s12⟩
       go_simp
       with_reducible rfl
      rotate_left
      ·simp only [Act.put, List.setIfInBounds_toArray, List.set_cons_zero, List.set_cons_succ, i64_w, i32_w]
       rfl
      refine pure_ (i := 12) (N := some 51) (v := ?_) (a' := ?_) #[true, true, true, true, true, true, true, true, true, true, true, true, true, false, false, false, false, false, false, false, false] rfl rfl (any_of HT_.out zq24) (fun _ _ _ h => h) (Or.inl ⟨by rfl, ?_⟩) ?_ ?_
      rotate_left
      ·intro w'
       go_simp
       with_reducible rfl
      rotate_left
      ·simp only [Act.put, List.setIfInBounds_toArray, List.set_cons_zero, List.set_cons_succ, i64_w, i32_w]
       rfl
      refine pure_ (i := 13) (N := some 52) (v := ?_) (a' := ?_) #[true, true, true, true, true, true, true, true, true, true, true, true, true, true, false, false, false, false, false, false, false] rfl rfl (any_of HT_.out zq24) (fun _ _ _ h => h) (Or.inl ⟨by rfl, ?_⟩) ?_ ?_
      rotate_left
      ·intro w'
       go_simp
       with_reducible rfl
      rotate_left
      ·simp only [Act.put, List.setIfInBounds_toArray, List.set_cons_zero, List.set_cons_succ, i64_w, i32_w]
       rfl
      refine take_ (i := 14) (N := some 53) (v := ?_) (a' := ?_) #[true, true, true, true, true, true, true, true, true, true, true, true, true, true, true, false, false, false, false, false, false] rfl rfl (take_ofW HT_.out HW_.out zq24) (fun _ _ _ h => h) (Or.inl ⟨by rfl, ?_⟩) hHeld ?_ ?_
      rotate_left
      ·rintro w' ⟨s0, s1, s2, s3, s4, s5, s6, s7, s8, s9, s10, s11, s12⟩
       go_simp
       with_reducible rfl
      rotate_left
      ·simp only [Act.put, List.setIfInBounds_toArray, List.set_cons_zero, List.set_cons_succ, i64_w, i32_w]
       rfl
      refine pure_ (i := 15) (N := some 54) (v := ?_) (a' := ?_) #[true, true, true, true, true, true, true, true, true, true, true, true, true, true, true, true, false, false, false, false, false] rfl rfl (any_of HT_.out zq24) (fun _ _ _ h => h) (Or.inl ⟨by rfl, ?_⟩) ?_ ?_
      rotate_left
      ·intro w'
       go_simp
       with_reducible rfl
      rotate_left
      ·simp only [Act.put, List.setIfInBounds_toArray, List.set_cons_zero, List.set_cons_succ, i64_w, i32_w]
       rfl
      refine one_ (i := 16) (N := some 55) #[true, true, true, true, true, true, true, true, true, true, true, true, true, true, true, true, true, false, false, false, false] rfl rfl (one_of HT_.out zq24) zq47 (fun K hK => ?_)
      refine goes_ Tryd.func27 zq24 rfl #[.string (a0.extract (((rd_T122 l1_3 x6_2).f0) : Int).toNat (((rd_T122 l1_3 x6_2).f1) : Int).toNat)] (by rfl) rfl rfl zq0 ?_
      with_reducible refine (spec_Unquote.calls k2 (a0.extract (((rd_T122 l1_3 x6_2).f0) : Int).toNat (((rd_T122 l1_3 x6_2).f1) : Int).toNat) t107 _ A38.out).mono ?_
      rintro e w44 ⟨rfl, hb⟩
      refine ⟨_, rfl, ?_⟩
      have n0_ := mk0 (Kd.R_below zq40 hb)
      have n1_ := mk0 (blk_below (g := gb101) (o := .cells #[.int .i64 a1_0, .int .i64 a1_1, .int .i64 a1_2, .slice (some ad105) l1_3.length c1_3, .slice A1_4 l1_4.length c1_4] 38 (0, 0)) zq9 hb)
      have n2_ := mk0 (blk_below (g := gb102) (o := .cells #[.int .i64 0, .string (⟨#[]⟩ : ByteArray), .slice none 0 0, .slice none 0 0] 34 (0, 0)) zq23 hb)
      have n3_ := mk0 (blk_below (g := gb103) (o := .cells #[.int .i64 a1_0, .string x104001_2, u104002, .slice none 0 0] 34 (0, 0)) zq43 hb)
      have n4_ := mk0 (below_step zq26 hb)
      clear HO_104002 BK101 BK102 BK103 HB
      have HO_104002 := n0_
      have BK101 := n1_
      have BK102 := n2_
      have BK103 := n3_
      have HB := n4_
      clear n0_ n1_ n2_ n3_ n4_ hb
      refine hK.out _ _ ⟨(blk_cell BK103.out 0).trans rfl, (blk_cell BK103.out 1).trans rfl, (blk_cell BK103.out 2).trans rfl, (blk_cell BK103.out 3).trans rfl, (blk_cell BK101.out 0).trans rfl, (blk_cell BK101.out 1).trans rfl, (blk_cell BK101.out 2).trans rfl, (blk_cell BK101.out 3).trans rfl, (blk_cell BK101.out 4).trans rfl, ((HB.out.cell (World.block_lt_of_cell? w _ hw105_0)).trans hw105_0), ((HB.out.cell (World.block_lt_of_cell? w _ hw105_1)).trans hw105_1), ((HB.out.cell (World.block_lt_of_cell? w _ hw106_0)).trans hw106_0), ((HB.out.cell (World.block_lt_of_cell? w _ hw106_1)).trans hw106_1)⟩ (fun hHeld => ?_)
      clear hK K
      refine norm_ (a' := ?_) ?_ ?_
      rotate_left
      ·show Act.put _ (some 55) _ = _
       simp only [Act.put, List.setIfInBounds_toArray, List.set_cons_zero, List.set_cons_succ, i64_w, i32_w]
       rfl
      refine one_ (i := 17) (N := some 56) #[true, true, true, true, true, true, true, true, true, true, true, true, true, true, true, true, true, true, false, false, false] rfl rfl (one_of HT_.out zq24) zq47 (fun K hK => ?_)
      refine value_ (w1 := ?_) (v := ?_) (by rfl) rfl ?_ ?_
      rotate_left 2
      ·go_simp
       constructor
       ·rfl
       ·rfl
      refine hK.out _ _ ⟨(blk_cell (blk_alloc BK103.out _) 0).trans rfl, (blk_cell (blk_alloc BK103.out _) 1).trans rfl, (blk_cell (blk_alloc BK103.out _) 2).trans rfl, (blk_cell (blk_alloc BK103.out _) 3).trans rfl, (blk_cell (blk_alloc BK101.out _) 0).trans rfl, (blk_cell (blk_alloc BK101.out _) 1).trans rfl, (blk_cell (blk_alloc BK101.out _) 2).trans rfl, (blk_cell (blk_alloc BK101.out _) 3).trans rfl, (blk_cell (blk_alloc BK101.out _) 4).trans rfl, (World.cell?_alloc_lt _ _ _ (World.block_lt_of_cell? _ _ (((HB.out.cell (World.block_lt_of_cell? w _ hw105_0)).trans hw105_0)))).trans (((HB.out.cell (World.block_lt_of_cell? w _ hw105_0)).trans hw105_0)), (World.cell?_alloc_lt _ _ _ (World.block_lt_of_cell? _ _ (((HB.out.cell (World.block_lt_of_cell? w _ hw105_1)).trans hw105_1)))).trans (((HB.out.cell (World.block_lt_of_cell? w _ hw105_1)).trans hw105_1)), (World.cell?_alloc_lt _ _ _ (World.block_lt_of_cell? _ _ (((HB.out.cell (World.block_lt_of_cell? w _ hw106_0)).trans hw106_0)))).trans (((HB.out.cell (World.block_lt_of_cell? w _ hw106_0)).trans hw106_0)), (World.cell?_alloc_lt _ _ _ (World.block_lt_of_cell? _ _ (((HB.out.cell (World.block_lt_of_cell? w _ hw106_1)).trans hw106_1)))).trans (((HB.out.cell (World.block_lt_of_cell? w _ hw106_1)).trans hw106_1))⟩ (fun hHeld => ?_)
      clear hK K
      refine norm_ (a' := ?_) ?_ ?_
      rotate_left
      ·show Act.put _ (some 56) _ = _
       simp only [Act.put, List.setIfInBounds_toArray, List.set_cons_zero, List.set_cons_succ, i64_w, i32_w]
       rfl
      refine one_ (i := 18) (N := some 57) #[true, true, true, true, true, true, true, true, true, true, true, true, true, true, true, true, true, true, true, false, false] rfl rfl (one_of HT_.out zq24) zq47 (fun K hK => ?_)
      refine Kd.R_append_step Kd.string (w0 := w) w.heap.size (by rfl) (.tmp 40) (.tmp 56) 31 9 (.string ⟨#[]⟩) 16 rfl Tryd.underlying31 info9 rfl zq47 (by omega) u104002 x104002_2 t107 [.string t107] (fun _ => True) (fun _ => False) rfl rfl ?aP (fun _ hk => hk.elim) ?aF ?aO ?aB ?aS ?aL ?_
      (case aP => exact rfl)
      (case aB => exact zq26)
      (case aF => exact (fun _ _ => trivial))
      (case aO => exact zq40)
      (case aS => exact (below_size zq26))
      (case aL => have := LMc39.out; omega)
      intro v109 w45 ho hb hg hat
      rw [← Ny108.out] at ho
      have n0_ := mk0 (blk_grown (g := gb101) (o := .cells #[.int .i64 a1_0, .int .i64 a1_1, .int .i64 a1_2, .slice (some ad105) l1_3.length c1_3, .slice A1_4 l1_4.length c1_4] 38 (0, 0)) zq9 hg (Kd.R_ne HO_104002.out BK101.out zq47))
      have n1_ := mk0 (blk_grown (g := gb102) (o := .cells #[.int .i64 0, .string (⟨#[]⟩ : ByteArray), .slice none 0 0, .slice none 0 0] 34 (0, 0)) zq23 hg (Kd.R_ne HO_104002.out BK102.out zq47))
      have n2_ := mk0 (blk_grown (g := gb103) (o := .cells #[.int .i64 a1_0, .string x104001_2, u104002, .slice none 0 0] 34 (0, 0)) zq43 hg (Kd.R_ne HO_104002.out BK103.out zq47))
      have n3_ := mk0 (hb)
      have n4_ := mk0 (ho)
      clear BK101 BK102 BK103 HB HO_104002
      have BK101 := n0_
      have BK102 := n1_
      have BK103 := n2_
      have HB := n3_
      have HO110 := n4_
      clear n0_ n1_ n2_ n3_ n4_ ho hb hg hat
      obtain ⟨Ao46, co46, eo46⟩ := Kd.R_slice HO110.out
      (subst eo46)
      refine hK.out _ _ ⟨(blk_cell BK103.out 0).trans rfl, (blk_cell BK103.out 1).trans rfl, (blk_cell BK103.out 2).trans rfl, (blk_cell BK103.out 3).trans rfl, (blk_cell BK101.out 0).trans rfl, (blk_cell BK101.out 1).trans rfl, (blk_cell BK101.out 2).trans rfl, (blk_cell BK101.out 3).trans rfl, (blk_cell BK101.out 4).trans rfl, ((HB.out.cell (World.block_lt_of_cell? w _ hw105_0)).trans hw105_0), ((HB.out.cell (World.block_lt_of_cell? w _ hw105_1)).trans hw105_1), ((HB.out.cell (World.block_lt_of_cell? w _ hw106_0)).trans hw106_0), ((HB.out.cell (World.block_lt_of_cell? w _ hw106_1)).trans hw106_1)⟩ (fun hHeld => ?_)
      clear hK K
      refine norm_ (a' := ?_) ?_ ?_
      rotate_left
      ·show Act.put _ (some 57) _ = _
       simp only [Act.put, List.setIfInBounds_toArray, List.set_cons_zero, List.set_cons_succ, i64_w, i32_w]
       rfl
      refine pure_ (i := 19) (N := some 58) (v := ?_) (a' := ?_) #[true, true, true, true, true, true, true, true, true, true, true, true, true, true, true, true, true, true, true, true, false] rfl rfl (any_of HT_.out zq24) (fun _ _ _ h => h) (Or.inl ⟨by rfl, ?_⟩) ?_ ?_
      rotate_left
      ·intro w'
       go_simp
       with_reducible rfl
      rotate_left
      ·simp only [Act.put, List.setIfInBounds_toArray, List.set_cons_zero, List.set_cons_succ, i64_w, i32_w]
       rfl
      refine last_ (i := 20) (N := none) #[true, true, true, true, true, true, true, true, true, true, true, true, true, true, true, true, true, true, true, true, true] rfl rfl (one_of HT_.out zq24) zq47 (fun K hK => ?_)
      have hs47 : w45.cell? ⟨gb103, 2, none⟩ = some (u104002) := (blk_cell BK103.out 2).trans rfl
      have hfs47 := blk_frozen BK103.out 2
      have hns47_0 := NB101_103.out
      have hns47_1 := NB102_103.out
      have hms47_0 := NB103_101.out
      have hms47_1 := NB103_102.out
      refine skip_ (w1 := ?_) (by rfl) rfl ?_ ?_
      rotate_left
      ·go_simp
       rfl
      refine hK.out _ _ ?_
      clear hK K
      refine done_ (done_of HT_.out zq24) ?_
      try go_wp2
      go_roundg k2
      case measure => have := HJ2.out; have := HK2.out; omega
      case rel => exact ⟨(wrap64 (x6_2 + 1)), (y108), (.slice Ao46 y108.length co46), (by rfl), H', ⟨by have := HJ2.out; have := HK2.out; omega⟩, ⟨by (with_reducible repeat (first | apply Kd.R_alloc | apply Kd.R_drewN | apply Kd.R_drew)); exact Kd.R_mono (Kd.R_far (p := ⟨gb103, 2, none⟩) (Kd.R_types HO110.out BK103.out zq47) (fun _ hk => hk.2) (.slice Ao46 y108.length co46)) (fun _ hk => trivial)⟩, ⟨by (with_reducible repeat (first | refine blk_drewN ?_ _ | refine blk_drew ?_ | refine blk_alloc ?_ _)); refine blk_far ?_ NB101_103.out _; (with_reducible repeat (first | refine blk_drewN ?_ _ | refine blk_drew ?_ | refine blk_alloc ?_ _)); exact BK101.out⟩, ⟨by (with_reducible repeat (first | refine blk_drewN ?_ _ | refine blk_drew ?_ | refine blk_alloc ?_ _)); refine blk_far ?_ NB102_103.out _; (with_reducible repeat (first | refine blk_drewN ?_ _ | refine blk_drew ?_ | refine blk_alloc ?_ _)); exact BK102.out⟩, ⟨by (with_reducible repeat (first | refine blk_drewN ?_ _ | refine blk_drew ?_ | refine blk_alloc ?_ _)); refine blk_put (cs := #[.int .i64 a1_0, .string x104001_2, u104002, .slice none 0 0]) ?_ 2 _ rfl; (with_reducible repeat (first | refine blk_drewN ?_ _ | refine blk_drew ?_ | refine blk_alloc ?_ _)); exact BK103.out⟩, ⟨by repeat (first | (with_reducible first | exact HB.out | apply below_alloc | apply pw_below_drewN | apply below_drew1 | refine below_set ?_ GE101.out | refine below_set ?_ GE102.out | refine below_set ?_ GE103.out) | exact HB.out)⟩⟩
     rw [if_neg c33] at H
     have c33b0 : decide (x6_2 < (l1_3.length : Int)) = false := decide_eq_false c33
     clear c33
     have H' := mk0 H
     clear H
     have hnb48 := NB101_102.out
     have hnc48 := NB102_101.out
     have hnb49 := NB101_103.out
     have hnc49 := NB103_101.out
     have hcz50_0 : wr.cell? ⟨gb101, 0, none⟩ = some (.int .i64 a1_0) := (blk_cell BK101.out 0).trans rfl
     have hcz50_1 : wr.cell? ⟨gb101, 1, none⟩ = some (.int .i64 a1_1) := (blk_cell BK101.out 1).trans rfl
     have hcz50_2 : wr.cell? ⟨gb101, 2, none⟩ = some (.int .i64 a1_2) := (blk_cell BK101.out 2).trans rfl
     have hcz50_3 : wr.cell? ⟨gb101, 3, none⟩ = some (.slice A1_3 l1_3.length c1_3) := (blk_cell BK101.out 3).trans rfl
     have hcz50_4 : wr.cell? ⟨gb101, 4, none⟩ = some (.slice A1_4 l1_4.length c1_4) := (blk_cell BK101.out 4).trans rfl
     have hfz50_0 := blk_frozen BK101.out 0
     have hfz50_1 := blk_frozen BK101.out 1
     have hfz50_2 := blk_frozen BK101.out 2
     have hfz50_3 := blk_frozen BK101.out 3
     have hfz50_4 := blk_frozen BK101.out 4
     go_wp2
     go_loopg [7] k2 (fun kq v7 w' => ∃ (x7_3 : Int) (x104003_3 : List (S34)) (u104003 : Value), v7 = .int .i64 x7_3 ∧ Aside0 (spec_Tree.l1 kq a0 x7_3 a1_0 a1_1 a1_2 l1_3 l1_4 a1_0 x104001_2 x104002_2 x104003_3 = some (r1, r2, r3, r4)) ∧ Aside0 (kq ≤ k2) ∧ Aside0 (Kd.R Kd.string 9 w' w.heap.size (fun _ => True) u104002 x104002_2) ∧ Aside0 (Kd.R k34 34 w' w.heap.size (fun k_ => some k_ ≠ (u104002 : Value).ownBlock ∧ k_ ≠ gb102 ∧ k_ ≠ gb103) u104003 x104003_3) ∧ Aside0 (w'.heap[gb101]? = some (.cells #[.int .i64 a1_0, .int .i64 a1_1, .int .i64 a1_2, (.slice A1_3 l1_3.length c1_3), (.slice A1_4 l1_4.length c1_4)] 38 (0, 0))) ∧ Aside0 (w'.heap[gb102]? = some (.cells #[.int .i64 0, .string (⟨#[]⟩ : ByteArray), (.slice none 0 0), (.slice none 0 0)] 34 (0, 0))) ∧ Aside0 (w'.heap[gb103]? = some (.cells #[.int .i64 a1_0, .string x104001_2, u104002, u104003] 34 (0, 0))) ∧ Aside0 (Below w.heap.size w w'))
     case atStart => exact ⟨(0), (([] : List (S34))), (.slice none 0 0), (by rfl), H', ⟨Nat.le_refl _⟩, ⟨by (with_reducible repeat (first | apply Kd.R_alloc | apply Kd.R_drewN | apply Kd.R_drew)); exact HO_104002.out⟩, ⟨by exact Kd.R_nil _ _ _ _ _⟩, ⟨by (with_reducible repeat (first | refine blk_drewN ?_ _ | refine blk_drew ?_ | refine blk_alloc ?_ _)); exact BK101.out⟩, ⟨by (with_reducible repeat (first | refine blk_drewN ?_ _ | refine blk_drew ?_ | refine blk_alloc ?_ _)); exact BK102.out⟩, ⟨by (with_reducible repeat (first | refine blk_drewN ?_ _ | refine blk_drew ?_ | refine blk_alloc ?_ _)); exact BK103.out⟩, ⟨by repeat (first | (with_reducible first | exact HB.out | apply below_alloc | apply pw_below_drewN | apply below_drew1 | refine below_set ?_ GE101.out | refine below_set ?_ GE102.out | refine below_set ?_ GE103.out) | exact HB.out)⟩⟩
     case round =>
      clear H'
      clear c33b0 hcz50_0 hcz50_1 hcz50_2 hcz50_3 hcz50_4 hfz50_0 hfz50_1 hfz50_2 hfz50_3 hfz50_4
      obtain ⟨x7_3, x104003_3, u104003, rfl, HA, HK3, HO_104002, HO_104003, BK101, BK102, BK103, HB⟩ := hrel
      cases gk with
      | zero => exact absurd HA.out (by simp [spec_Tree.l1])
      | succ k3 =>
       have H := HA.out
       clear HA
       simp only [spec_Tree.l1] at H
       by_cases c51 : x7_3 < (l1_4.length : Int)
       rotate_left
       ·rw [if_neg c51] at H
        have c51b0 : decide (x7_3 < (l1_4.length : Int)) = false := decide_eq_false c51
        clear c51
        simp only [Option.some.injEq, Prod.mk.injEq] at H
        obtain ⟨rfl, rfl, rfl, rfl⟩ := H
        have hnb65 := NB101_102.out
        have hnc65 := NB102_101.out
        have hnb66 := NB101_103.out
        have hnc66 := NB103_101.out
        have hcz67_0 : wr.cell? ⟨gb101, 0, none⟩ = some (.int .i64 a1_0) := (blk_cell BK101.out 0).trans rfl
        have hcz67_1 : wr.cell? ⟨gb101, 1, none⟩ = some (.int .i64 a1_1) := (blk_cell BK101.out 1).trans rfl
        have hcz67_2 : wr.cell? ⟨gb101, 2, none⟩ = some (.int .i64 a1_2) := (blk_cell BK101.out 2).trans rfl
        have hcz67_3 : wr.cell? ⟨gb101, 3, none⟩ = some (.slice A1_3 l1_3.length c1_3) := (blk_cell BK101.out 3).trans rfl
        have hcz67_4 : wr.cell? ⟨gb101, 4, none⟩ = some (.slice A1_4 l1_4.length c1_4) := (blk_cell BK101.out 4).trans rfl
        have hfz67_0 := blk_frozen BK101.out 0
        have hfz67_1 := blk_frozen BK101.out 1
        have hfz67_2 := blk_frozen BK101.out 2
        have hfz67_3 := blk_frozen BK101.out 3
        have hfz67_4 := blk_frozen BK101.out 4
        have hnb68 := NB103_102.out
        have hnc68 := NB102_103.out
        have hcz69_0 : wr.cell? ⟨gb103, 0, none⟩ = some (.int .i64 a1_0) := (blk_cell BK103.out 0).trans rfl
        have hcz69_1 : wr.cell? ⟨gb103, 1, none⟩ = some (.string x104001_2) := (blk_cell BK103.out 1).trans rfl
        have hcz69_2 : wr.cell? ⟨gb103, 2, none⟩ = some (u104002) := (blk_cell BK103.out 2).trans rfl
        have hcz69_3 : wr.cell? ⟨gb103, 3, none⟩ = some (u104003) := (blk_cell BK103.out 3).trans rfl
        have hfz69_0 := blk_frozen BK103.out 0
        have hfz69_1 := blk_frozen BK103.out 1
        have hfz69_2 := blk_frozen BK103.out 2
        have hfz69_3 := blk_frozen BK103.out 3
        have hcz70_0 : wr.cell? ⟨gb102, 0, none⟩ = some (.int .i64 0) := (blk_cell BK102.out 0).trans rfl
        have hcz70_1 : wr.cell? ⟨gb102, 1, none⟩ = some (.string (⟨#[]⟩ : ByteArray)) := (blk_cell BK102.out 1).trans rfl
        have hcz70_2 : wr.cell? ⟨gb102, 2, none⟩ = some (.slice none 0 0) := (blk_cell BK102.out 2).trans rfl
        have hcz70_3 : wr.cell? ⟨gb102, 3, none⟩ = some (.slice none 0 0) := (blk_cell BK102.out 3).trans rfl
        have hfz70_0 := blk_frozen BK102.out 0
        have hfz70_1 := blk_frozen BK102.out 1
        have hfz70_2 := blk_frozen BK102.out 2
        have hfz70_3 := blk_frozen BK102.out 3
        obtain ⟨Ao71, co71, eo71⟩ := Kd.R_slice HO_104002.out
        subst eo71
        obtain ⟨Ao72, co72, eo72⟩ := Kd.R_slice HO_104003.out
        subst eo72
        go_wp2
        refine bodyPost_ret (results_cell_row rfl _ _ gb102 34 #[.int .i64 a1_0, .string x104001_2, .slice Ao71 x104002_2.length co71, .slice Ao72 x104003_3.length co72] (0, 0) _ rfl (by (with_reducible repeat (first | refine blk_drewN ?_ _ | refine blk_drew ?_ | refine blk_alloc ?_ _)); refine blk_put (cs := #[.int .i64 a1_0, .string x104001_2, .slice Ao71 x104002_2.length co71, .slice none 0 0]) ?_ 3 _ rfl; (with_reducible repeat (first | refine blk_drewN ?_ _ | refine blk_drew ?_ | refine blk_alloc ?_ _)); refine blk_put (cs := #[.int .i64 a1_0, .string x104001_2, .slice none 0 0, .slice none 0 0]) ?_ 2 _ rfl; (with_reducible repeat (first | refine blk_drewN ?_ _ | refine blk_drew ?_ | refine blk_alloc ?_ _)); refine blk_put (cs := #[.int .i64 a1_0, .string (⟨#[]⟩ : ByteArray), .slice none 0 0, .slice none 0 0]) ?_ 1 _ rfl; (with_reducible repeat (first | refine blk_drewN ?_ _ | refine blk_drew ?_ | refine blk_alloc ?_ _)); refine blk_put (cs := #[.int .i64 0, .string (⟨#[]⟩ : ByteArray), .slice none 0 0, .slice none 0 0]) ?_ 0 _ rfl; (with_reducible repeat (first | refine blk_drewN ?_ _ | refine blk_drew ?_ | refine blk_alloc ?_ _)); exact BK102.out) Tryd.underlying34 rfl zq24) rfl ?_
        exact ⟨_, _, by rfl, by (with_reducible repeat (first | apply Kd.R_alloc | apply Kd.R_drewN | apply Kd.R_drew)); exact Kd.R_mono (Kd.R_far (p := ⟨gb102, 3, none⟩) (Kd.R_far (p := ⟨gb102, 2, none⟩) (Kd.R_far (p := ⟨gb102, 1, none⟩) (Kd.R_far (p := ⟨gb102, 0, none⟩) (Kd.R_types HO_104002.out BK102.out zq47) (fun _ hk => hk.2) (.int .i64 a1_0)) (fun _ hk => hk.2) (.string x104001_2)) (fun _ hk => hk.2) (.slice Ao71 x104002_2.length co71)) (fun _ hk => hk.2) (.slice Ao72 x104003_3.length co72)) (fun _ hk => trivial), by (with_reducible repeat (first | apply Kd.R_alloc | apply Kd.R_drewN | apply Kd.R_drew)); exact Kd.R_mono (Kd.R_far (p := ⟨gb102, 3, none⟩) (Kd.R_far (p := ⟨gb102, 2, none⟩) (Kd.R_far (p := ⟨gb102, 1, none⟩) (Kd.R_far (p := ⟨gb102, 0, none⟩) (Kd.R_mono HO_104003.out (fun k_ hk => (⟨hk, hk.2.1⟩ : _ ∧ k_ ≠ gb102))) (fun _ hk => hk.2) (.int .i64 a1_0)) (fun _ hk => hk.2) (.string x104001_2)) (fun _ hk => hk.2) (.slice Ao71 x104002_2.length co71)) (fun _ hk => hk.2) (.slice Ao72 x104003_3.length co72)) (fun _ hk => hk.1.1), by repeat (first | (with_reducible first | exact HB.out | apply below_alloc | apply pw_below_drewN | apply below_drew1 | refine below_set ?_ GE101.out | refine below_set ?_ GE102.out | refine below_set ?_ GE103.out) | exact HB.out)⟩
       rw [if_pos c51] at H
       have c51b0 : decide (x7_3 < (l1_4.length : Int)) = true := decide_eq_true c51
       clear c51
       by_cases c52 : 0 ≤ x7_3
       rotate_left
       ·rw [if_neg c52] at H
        exact absurd H (by simp)
       rw [if_pos c52] at H
       have c52b0 : decide (0 ≤ x7_3) = true := decide_eq_true c52
       clear c52
       replace H := Option.bind_eq_some_iff.mp H
       obtain ⟨⟨t112, t113, t114, t117⟩, A530, H⟩ := H
       (try dsimp only at H)
       have A53 := mk0 A530
       clear A530
       by_cases c54 : x104003_3.length < 1954687338268
       rotate_left
       ·rw [if_neg c54] at H
        exact absurd H (by simp)
       rw [if_pos c54] at H
       have LMc54 := mk0 c54
       clear c54
       obtain ⟨y120, hy120⟩ : ∃ y_ : List (S34), y_ = (x104003_3 ++ [(⟨t112, t113, t114, t117⟩ : S34)]) := ⟨_, rfl⟩
       replace H : (spec_Tree.l1 k3 a0 (wrap64 (x7_3 + 1)) a1_0 a1_1 a1_2 l1_3 l1_4 a1_0 x104001_2 x104002_2 y120) = some (r1, r2, r3, r4) := by (rw [hy120]; with_reducible exact H)
       have Ny120 := mk0 hy120
       clear hy120
       have H' := mk0 H
       clear H
       have hnb55 := NB101_102.out
       have hnc55 := NB102_101.out
       have hnb56 := NB101_103.out
       have hnc56 := NB103_101.out
       have hcz57_0 : wr.cell? ⟨gb101, 0, none⟩ = some (.int .i64 a1_0) := (blk_cell BK101.out 0).trans rfl
       have hcz57_1 : wr.cell? ⟨gb101, 1, none⟩ = some (.int .i64 a1_1) := (blk_cell BK101.out 1).trans rfl
       have hcz57_2 : wr.cell? ⟨gb101, 2, none⟩ = some (.int .i64 a1_2) := (blk_cell BK101.out 2).trans rfl
       have hcz57_3 : wr.cell? ⟨gb101, 3, none⟩ = some (.slice A1_3 l1_3.length c1_3) := (blk_cell BK101.out 3).trans rfl
       have hcz57_4 : wr.cell? ⟨gb101, 4, none⟩ = some (.slice A1_4 l1_4.length c1_4) := (blk_cell BK101.out 4).trans rfl
       have hfz57_0 := blk_frozen BK101.out 0
       have hfz57_1 := blk_frozen BK101.out 1
       have hfz57_2 := blk_frozen BK101.out 2
       have hfz57_3 := blk_frozen BK101.out 3
       have hfz57_4 := blk_frozen BK101.out 4
       try go_wp2
       have n0_ := mk0 (Kd.R_drew HO_104002.out)
       have n1_ := mk0 (Kd.R_drew HO_104003.out)
       have n2_ := mk0 (blk_drew BK101.out)
       have n3_ := mk0 (blk_drew BK102.out)
       have n4_ := mk0 (blk_drew BK103.out)
       have n5_ := mk0 (below_drew1 HB.out)
       clear HO_104002 HO_104003 BK101 BK102 BK103 HB
       have HO_104002 := n0_
       have HO_104003 := n1_
       have BK101 := n2_
       have BK102 := n3_
       have BK103 := n4_
       have HB := n5_
       clear n0_ n1_ n2_ n3_ n4_ n5_
       have p111 : 0 ≤ (x7_3 : Int) := of_decide_eq_true zq5
       have q111 : x7_3 < (l1_4.length : Int) := of_decide_eq_true zq5
       obtain ⟨ad111, A111_3, c111_3, A111_4, c111_4, e111, hx111_0, hx111_1, hx111_2, hx111_3, hx111_4, hl111_3, hi111_3, hl111_4, hi111_4⟩ := at_T38 HR1_4.out x7_3 p111 q111
       have hw111_4 := hx111_4
       have hw111_3 := hx111_3
       have hw111_2 := hx111_2
       have hw111_1 := hx111_1
       have hw111_0 := hx111_0
       cases e111
       replace hx111_0 := (HB.out.cell (World.block_lt_of_cell? w _ hx111_0)).trans hx111_0
       replace hx111_1 := (HB.out.cell (World.block_lt_of_cell? w _ hx111_1)).trans hx111_1
       replace hx111_2 := (HB.out.cell (World.block_lt_of_cell? w _ hx111_2)).trans hx111_2
       replace hx111_3 := (HB.out.cell (World.block_lt_of_cell? w _ hx111_3)).trans hx111_3
       replace hx111_4 := (HB.out.cell (World.block_lt_of_cell? w _ hx111_4)).trans hx111_4
       have HR111_3 := mk0 hi111_3
       have HC111_3 := mk0 hl111_3
       clear hi111_3 hl111_3
       have HR111_4 := mk0 hi111_4
       have HC111_4 := mk0 hl111_4
       clear hi111_4 hl111_4
       replace p111 := eq_true p111
       replace q111 := eq_true q111
       refine start_ (n := 13) (S := fun w' => w'.cell? ⟨gb103, 0, none⟩ = some (.int .i64 a1_0) ∧ w'.cell? ⟨gb103, 1, none⟩ = some (.string x104001_2) ∧ w'.cell? ⟨gb103, 2, none⟩ = some (u104002) ∧ w'.cell? ⟨gb103, 3, none⟩ = some (u104003) ∧ w'.cell? ⟨gb101, 0, none⟩ = some (.int .i64 a1_0) ∧ w'.cell? ⟨gb101, 1, none⟩ = some (.int .i64 a1_1) ∧ w'.cell? ⟨gb101, 2, none⟩ = some (.int .i64 a1_2) ∧ w'.cell? ⟨gb101, 3, none⟩ = some (.slice A1_3 l1_3.length c1_3) ∧ w'.cell? ⟨gb101, 4, none⟩ = some (.slice (some ad111) l1_4.length c1_4) ∧ w'.cell? (ad111.add ((x7_3).toNat * 5)) = some (.int .i64 ((rd_T38 l1_4 x7_3).f0)) ∧ w'.cell? ⟨(ad111.add ((x7_3).toNat * 5)).block, (ad111.add ((x7_3).toNat * 5)).off + 1, none⟩ = some (.int .i64 ((rd_T38 l1_4 x7_3).f1)) ∧ w'.cell? ⟨(ad111.add ((x7_3).toNat * 5)).block, (ad111.add ((x7_3).toNat * 5)).off + 2, none⟩ = some (.int .i64 ((rd_T38 l1_4 x7_3).f2)) ∧ w'.cell? ⟨(ad111.add ((x7_3).toNat * 5)).block, (ad111.add ((x7_3).toNat * 5)).off + 3, none⟩ = some (.slice A111_3 ((rd_T38 l1_4 x7_3).f3).length c111_3) ∧ w'.cell? ⟨(ad111.add ((x7_3).toNat * 5)).block, (ad111.add ((x7_3).toNat * 5)).off + 4, none⟩ = some (.slice A111_4 ((rd_T38 l1_4 x7_3).f4).length c111_4)) (ds := [12]) #[false, false, false, false, false, false, false, false, false, false, false, false, false] zq24 rfl rfl ⟨(blk_cell BK103.out 0).trans rfl, (blk_cell BK103.out 1).trans rfl, (blk_cell BK103.out 2).trans rfl, (blk_cell BK103.out 3).trans rfl, (blk_cell BK101.out 0).trans rfl, (blk_cell BK101.out 1).trans rfl, (blk_cell BK101.out 2).trans rfl, (blk_cell BK101.out 3).trans rfl, (blk_cell BK101.out 4).trans rfl, ((HB.out.cell (World.block_lt_of_cell? w _ hw111_0)).trans hw111_0), ((HB.out.cell (World.block_lt_of_cell? w _ hw111_1)).trans hw111_1), ((HB.out.cell (World.block_lt_of_cell? w _ hw111_2)).trans hw111_2), ((HB.out.cell (World.block_lt_of_cell? w _ hw111_3)).trans hw111_3), ((HB.out.cell (World.block_lt_of_cell? w _ hw111_4)).trans hw111_4)⟩ (fun hHeld => ?_); refine with_tabW spec_Tree.tab14 spec_Tree.bits14 (fun HT_ HW_ => ?_)
       generalize wr.drew = w58 at HO_104002 HO_104003 BK101 BK102 BK103 HB HR111_3 HR111_4 hx111_0 hx111_1 hx111_2 hx111_3 hx111_4 hHeld ⊢
       refine pure_ (i := 0) (N := some 66) (v := ?_) (a' := ?_) #[true, false, false, false, false, false, false, false, false, false, false, false, false] rfl rfl (any_of HT_.out zq24) (fun _ _ _ h => h) (Or.inl ⟨by rfl, ?_⟩) ?_ ?_
       rotate_left
       ·intro w'
        go_simp
        with_reducible rfl
       rotate_left
       ·simp only [Act.put, List.setIfInBounds_toArray, List.set_cons_zero, List.set_cons_succ, i64_w, i32_w]
        rfl
       refine pure_ (i := 2) (N := some 68) (v := ?_) (a' := ?_) #[true, false, true, false, false, false, false, false, false, false, false, false, false] rfl rfl (any_of HT_.out zq24) (fun _ _ _ h => h) (Or.inl ⟨by rfl, ?_⟩) ?_ ?_
       rotate_left
       ·intro w'
        go_simp
        with_reducible rfl
       rotate_left
       ·simp only [Act.put, List.setIfInBounds_toArray, List.set_cons_zero, List.set_cons_succ, i64_w, i32_w]
        rfl
       refine pure_ (i := 3) (N := some 69) (v := ?_) (a' := ?_) #[true, false, true, true, false, false, false, false, false, false, false, false, false] rfl rfl (any_of HT_.out zq24) (fun _ _ _ h => h) (Or.inl ⟨by rfl, ?_⟩) ?_ ?_
       rotate_left
       ·intro w'
        go_simp
        with_reducible rfl
       rotate_left
       ·simp only [Act.put, List.setIfInBounds_toArray, List.set_cons_zero, List.set_cons_succ, i64_w, i32_w]
        rfl
       refine pure_ (i := 5) (N := some 71) (v := ?_) (a' := ?_) #[true, false, true, true, false, true, false, false, false, false, false, false, false] rfl rfl (any_of HT_.out zq24) (fun _ _ _ h => h) (Or.inl ⟨by rfl, ?_⟩) ?_ ?_
       rotate_left
       ·intro w'
        go_simp
        with_reducible rfl
       rotate_left
       ·simp only [Act.put, List.setIfInBounds_toArray, List.set_cons_zero, List.set_cons_succ, i64_w, i32_w]
        rfl
       refine take_ (i := 1) (N := some 67) (v := ?_) (a' := ?_) #[true, true, true, true, false, true, false, false, false, false, false, false, false] rfl rfl (take_ofW HT_.out HW_.out zq24) (fun _ _ _ h => h) (Or.inl ⟨by rfl, ?_⟩) hHeld ?_ ?_
       rotate_left
       ·rintro w' ⟨s0, s1, s2, s3, s4, s5, s6, s7, s8, s9, s10, s11, s12, s13⟩
        go_simp
        with_reducible rfl
       rotate_left
       ·simp only [Act.put, List.setIfInBounds_toArray, List.set_cons_zero, List.set_cons_succ, i64_w, i32_w]
        rfl
       refine take_ (i := 4) (N := some 70) (v := ?_) (a' := ?_) #[true, true, true, true, true, true, false, false, false, false, false, false, false] rfl rfl (take_ofW HT_.out HW_.out zq24) (fun _ _ _ h => h) (Or.inl ⟨by rfl, ?_⟩) hHeld ?_ ?_
       rotate_left
       ·rintro w' ⟨s0, s1, s2, s3, s4, s5, s6, s7, s8, s9, s10, s11, s12, s13⟩
        go_simp
        with_reducible rfl
       rotate_left
       ·simp only [Act.put, List.setIfInBounds_toArray, List.set_cons_zero, List.set_cons_succ, i64_w, i32_w]
        rfl
       refine pure_ (i := 6) (N := some 72) (v := ?_) (a' := ?_) #[true, true, true, true, true, true, true, false, false, false, false, false, false] rfl rfl (any_of HT_.out zq24) (fun _ _ _ h => h) (Or.inl ⟨by rfl, ?_⟩) ?_ ?_
       rotate_left
       ·intro w'
        go_simp
        with_reducible rfl
       rotate_left
       ·simp only [Act.put, List.setIfInBounds_toArray, List.set_cons_zero, List.set_cons_succ, i64_w, i32_w]
        rfl
       refine take_ (i := 7) (N := some 73) (v := ?_) (a' := ?_) #[true, true, true, true, true, true, true, true, false, false, false, false, false] rfl rfl (take_ofW HT_.out HW_.out zq24) (fun _ _ _ h => h) (Or.inl ⟨by rfl, ?_⟩) hHeld ?_ ?_
       rotate_left
       ·rintro w' ⟨s0, s1, s2, s3, s4, s5, s6, s7, s8, s9, s10, s11, s12, s13⟩
        go_simp
        with_reducible rfl
       rotate_left
       ·simp only [Act.put, List.setIfInBounds_toArray, List.set_cons_zero, List.set_cons_succ, i64_w, i32_w]
        rfl
       refine one_ (i := 8) (N := some 74) #[true, true, true, true, true, true, true, true, true, false, false, false, false] rfl rfl (one_of HT_.out zq24) zq47 (fun K hK => ?_)
       refine goes_ Tryd.func44 zq24 rfl #[.string a0, .agg #[.int .i64 ((rd_T38 l1_4 x7_3).f0), .int .i64 ((rd_T38 l1_4 x7_3).f1), .int .i64 ((rd_T38 l1_4 x7_3).f2), .slice A111_3 ((rd_T38 l1_4 x7_3).f3).length c111_3, .slice A111_4 ((rd_T38 l1_4 x7_3).f4).length c111_4]] (by rfl) rfl rfl zq0 ?_
       with_reducible refine (ih k3 (by have := HJ2.out; have := HK2.out; have := HK3.out; omega) a0 ((rd_T38 l1_4 x7_3).f0) ((rd_T38 l1_4 x7_3).f1) ((rd_T38 l1_4 x7_3).f2) _ _ ((rd_T38 l1_4 x7_3).f3) _ _ ((rd_T38 l1_4 x7_3).f4) t112 t113 t114 t117 _ ?side1 ?side2 ?side3 ?side4 A53.out).mono ?_
       (case side1 => repeat (first | exact (Kd.C_below HR111_3.out HB.out) | (with_reducible refine Kd.C_alloc ?_ _) | (with_reducible refine Kd.C_drewN ?_ _) | (with_reducible refine Kd.C_drew ?_)))
       (case side2 => exact HC111_3.out)
       (case side3 => repeat (first | exact (Kd.C_below HR111_4.out HB.out) | (with_reducible refine Kd.C_alloc ?_ _) | (with_reducible refine Kd.C_drewN ?_ _) | (with_reducible refine Kd.C_drew ?_)))
       (case side4 => exact HC111_4.out)
       rintro e w59 ⟨v115, v118, rfl, ho0, ho1, hb⟩
       refine ⟨_, rfl, ?_⟩
       have n0_ := mk0 (Kd.R_elder' zq40 (Kd.R_base ho0) hb)
       have n1_ := mk0 (Kd.R_mono (Kd.R_told (Kd.R_told (Kd.R_old zq63 hb) (Kd.R_base ho0)) (Kd.R_base ho1)) (fun _ h_ => h_.1))
       have n2_ := mk0 (Kd.R_lower (Kd.R_new' ho0 (Kd.R_lt zq40)) (below_size zq26))
       have n3_ := mk0 (Kd.R_lower (Kd.R_newB (Kd.R_newB (Kd.R_new' (Kd.R_new' ho1 (Kd.R_lt zq40)) (Kd.R_lt zq63)) (g := gb102) (o := .cells #[.int .i64 0, .string (⟨#[]⟩ : ByteArray), .slice none 0 0, .slice none 0 0] 34 (0, 0)) zq23) (g := gb103) (o := .cells #[.int .i64 a1_0, .string x104001_2, u104002, u104003] 34 (0, 0)) zq43) (below_size zq26))
       have n4_ := mk0 (blk_below (g := gb101) (o := .cells #[.int .i64 a1_0, .int .i64 a1_1, .int .i64 a1_2, .slice A1_3 l1_3.length c1_3, .slice (some ad111) l1_4.length c1_4] 38 (0, 0)) zq9 hb)
       have n5_ := mk0 (blk_below (g := gb102) (o := .cells #[.int .i64 0, .string (⟨#[]⟩ : ByteArray), .slice none 0 0, .slice none 0 0] 34 (0, 0)) zq23 hb)
       have n6_ := mk0 (blk_below (g := gb103) (o := .cells #[.int .i64 a1_0, .string x104001_2, u104002, u104003] 34 (0, 0)) zq43 hb)
       have n7_ := mk0 (below_step zq26 hb)
       clear HO_104002 HO_104003 BK101 BK102 BK103 HB
       have HO_104002 := n0_
       have HO_104003 := n1_
       have HO116 := n2_
       have HO119 := n3_
       have BK101 := n4_
       have BK102 := n5_
       have BK103 := n6_
       have HB := n7_
       clear n0_ n1_ n2_ n3_ n4_ n5_ n6_ n7_ hb ho0 ho1
       obtain ⟨Ao61, co61, eo61⟩ := Kd.R_slice HO116.out
       (subst eo61)
       obtain ⟨Ao62, co62, eo62⟩ := Kd.R_slice HO119.out
       (subst eo62)
       refine hK.out _ _ ⟨(blk_cell BK103.out 0).trans rfl, (blk_cell BK103.out 1).trans rfl, (blk_cell BK103.out 2).trans rfl, (blk_cell BK103.out 3).trans rfl, (blk_cell BK101.out 0).trans rfl, (blk_cell BK101.out 1).trans rfl, (blk_cell BK101.out 2).trans rfl, (blk_cell BK101.out 3).trans rfl, (blk_cell BK101.out 4).trans rfl, ((HB.out.cell (World.block_lt_of_cell? w _ hw111_0)).trans hw111_0), ((HB.out.cell (World.block_lt_of_cell? w _ hw111_1)).trans hw111_1), ((HB.out.cell (World.block_lt_of_cell? w _ hw111_2)).trans hw111_2), ((HB.out.cell (World.block_lt_of_cell? w _ hw111_3)).trans hw111_3), ((HB.out.cell (World.block_lt_of_cell? w _ hw111_4)).trans hw111_4)⟩ (fun hHeld => ?_)
       clear hK K
       refine norm_ (a' := ?_) ?_ ?_
       rotate_left
       ·show Act.put _ (some 74) _ = _
        simp only [Act.put, List.setIfInBounds_toArray, List.set_cons_zero, List.set_cons_succ, i64_w, i32_w]
        rfl
       refine one_ (i := 9) (N := some 75) #[true, true, true, true, true, true, true, true, true, true, false, false, false] rfl rfl (one_of HT_.out zq24) zq47 (fun K hK => ?_)
       refine value_ (w1 := ?_) (v := ?_) (by rfl) rfl ?_ ?_
       rotate_left 2
       ·go_simp
        constructor
        ·rfl
        ·rfl
       refine hK.out _ _ ⟨(blk_cell (blk_alloc BK103.out _) 0).trans rfl, (blk_cell (blk_alloc BK103.out _) 1).trans rfl, (blk_cell (blk_alloc BK103.out _) 2).trans rfl, (blk_cell (blk_alloc BK103.out _) 3).trans rfl, (blk_cell (blk_alloc BK101.out _) 0).trans rfl, (blk_cell (blk_alloc BK101.out _) 1).trans rfl, (blk_cell (blk_alloc BK101.out _) 2).trans rfl, (blk_cell (blk_alloc BK101.out _) 3).trans rfl, (blk_cell (blk_alloc BK101.out _) 4).trans rfl, (World.cell?_alloc_lt _ _ _ (World.block_lt_of_cell? _ _ (((HB.out.cell (World.block_lt_of_cell? w _ hw111_0)).trans hw111_0)))).trans (((HB.out.cell (World.block_lt_of_cell? w _ hw111_0)).trans hw111_0)), (World.cell?_alloc_lt _ _ _ (World.block_lt_of_cell? _ _ (((HB.out.cell (World.block_lt_of_cell? w _ hw111_1)).trans hw111_1)))).trans (((HB.out.cell (World.block_lt_of_cell? w _ hw111_1)).trans hw111_1)), (World.cell?_alloc_lt _ _ _ (World.block_lt_of_cell? _ _ (((HB.out.cell (World.block_lt_of_cell? w _ hw111_2)).trans hw111_2)))).trans (((HB.out.cell (World.block_lt_of_cell? w _ hw111_2)).trans hw111_2)), (World.cell?_alloc_lt _ _ _ (World.block_lt_of_cell? _ _ (((HB.out.cell (World.block_lt_of_cell? w _ hw111_3)).trans hw111_3)))).trans (((HB.out.cell (World.block_lt_of_cell? w _ hw111_3)).trans hw111_3)), (World.cell?_alloc_lt _ _ _ (World.block_lt_of_cell? _ _ (((HB.out.cell (World.block_lt_of_cell? w _ hw111_4)).trans hw111_4)))).trans (((HB.out.cell (World.block_lt_of_cell? w _ hw111_4)).trans hw111_4))⟩ (fun hHeld => ?_)
       clear hK K
       refine norm_ (a' := ?_) ?_ ?_
       rotate_left
       ·show Act.put _ (some 75) _ = _
        simp only [Act.put, List.setIfInBounds_toArray, List.set_cons_zero, List.set_cons_succ, i64_w, i32_w]
        rfl
       refine one_ (i := 10) (N := some 76) #[true, true, true, true, true, true, true, true, true, true, true, false, false] rfl rfl (one_of HT_.out zq24) zq47 (fun K hK => ?_)
       refine Kd.R_append_step k34 (w0 := w) w.heap.size (by rfl) (.tmp 67) (.tmp 75) 32 34 (.agg #[(.int .i64 0), (.string ⟨#[]⟩), (.slice none 0 0), (.slice none 0 0)]) 72 rfl Tryd.underlying32 info34 rfl zq47 (by omega) u104003 x104003_3 (⟨t112, t113, t114, t117⟩ : S34) [.int .i64 t112, .string t113, .slice Ao61 t114.length co61, .slice Ao62 t117.length co62] (fun k_ => some k_ ≠ (u104002 : Value).ownBlock ∧ k_ ≠ gb102 ∧ k_ ≠ gb103) (fun k_ => ((fun k_ => some k_ ≠ (u104002 : Value).ownBlock ∧ k_ ≠ gb102 ∧ k_ ≠ gb103)) k_ ∧ some k_ ≠ (u104003 : Value).ownBlock) rfl rfl ?aP (fun _ hk => hk) ?aF ?aO ?aB ?aS ?aL ?_
       (case aP => exact k34_mkM _ _ _ (⟨t112, t113, t114, t117⟩ : S34) (Kd.R_mono (Kd.R_types (Kd.R_types (Kd.R_apart' (HO116.out) (Kd.R_typed HO_104003.out) zq47) BK102.out zq47) BK103.out zq47) (fun k_ hk => ⟨⟨hk.1.1.1.2, ⟨hk.1.2, hk.2⟩⟩, hk.1.1.2⟩)) (Kd.R_mono (HO119.out) (fun k_ hk => ⟨⟨hk.1.1.1.2, ⟨hk.1.2, hk.2⟩⟩, hk.1.1.2⟩)))
       (case aB => exact zq26)
       (case aF => exact (fun k_ hk => ⟨Kd.fresh' (Kd.R_lt zq40) k_ hk, Kd.freshB (g := gb102) (o := .cells #[.int .i64 0, .string (⟨#[]⟩ : ByteArray), .slice none 0 0, .slice none 0 0] 34 (0, 0)) zq23 k_ hk, Kd.freshB (g := gb103) (o := .cells #[.int .i64 a1_0, .string x104001_2, u104002, u104003] 34 (0, 0)) zq43 k_ hk⟩))
       (case aO => exact (by (with_reducible repeat (first | apply Kd.R_alloc | apply Kd.R_drewN | apply Kd.R_drew)); exact Kd.R_mono HO_104003.out (fun _ hk => ⟨hk.1.1.1, ⟨hk.1.1.2.1, hk.1.1.2.2⟩⟩)))
       (case aS => exact (below_size zq26))
       (case aL => have := LMc54.out; omega)
       intro v121 w60 ho hb hg hat
       rw [← Ny120.out] at ho
       have n0_ := mk0 (Kd.R_over' zq40 (Kd.R_typed zq63) zq47 hg)
       have n1_ := mk0 (blk_grown (g := gb101) (o := .cells #[.int .i64 a1_0, .int .i64 a1_1, .int .i64 a1_2, .slice A1_3 l1_3.length c1_3, .slice (some ad111) l1_4.length c1_4] 38 (0, 0)) zq9 hg (Kd.R_ne HO_104003.out BK101.out zq47))
       have n2_ := mk0 (blk_grown (g := gb102) (o := .cells #[.int .i64 0, .string (⟨#[]⟩ : ByteArray), .slice none 0 0, .slice none 0 0] 34 (0, 0)) zq23 hg (Kd.R_away HO_104003.out (fun _ hk => hk.1.1.2.1)))
       have n3_ := mk0 (blk_grown (g := gb103) (o := .cells #[.int .i64 a1_0, .string x104001_2, u104002, u104003] 34 (0, 0)) zq43 hg (Kd.R_away HO_104003.out (fun _ hk => hk.1.1.2.2)))
       have n4_ := mk0 (hb)
       have n5_ := mk0 (ho)
       clear HO_104002 BK101 BK102 BK103 HB HO_104003 HO116 HO119
       have HO_104002 := n0_
       have BK101 := n1_
       have BK102 := n2_
       have BK103 := n3_
       have HB := n4_
       have HO122 := n5_
       clear n0_ n1_ n2_ n3_ n4_ n5_ ho hb hg hat
       obtain ⟨Ao63, co63, eo63⟩ := Kd.R_slice HO122.out
       (subst eo63)
       refine hK.out _ _ ⟨(blk_cell BK103.out 0).trans rfl, (blk_cell BK103.out 1).trans rfl, (blk_cell BK103.out 2).trans rfl, (blk_cell BK103.out 3).trans rfl, (blk_cell BK101.out 0).trans rfl, (blk_cell BK101.out 1).trans rfl, (blk_cell BK101.out 2).trans rfl, (blk_cell BK101.out 3).trans rfl, (blk_cell BK101.out 4).trans rfl, ((HB.out.cell (World.block_lt_of_cell? w _ hw111_0)).trans hw111_0), ((HB.out.cell (World.block_lt_of_cell? w _ hw111_1)).trans hw111_1), ((HB.out.cell (World.block_lt_of_cell? w _ hw111_2)).trans hw111_2), ((HB.out.cell (World.block_lt_of_cell? w _ hw111_3)).trans hw111_3), ((HB.out.cell (World.block_lt_of_cell? w _ hw111_4)).trans hw111_4)⟩ (fun hHeld => ?_)
       clear hK K
       refine norm_ (a' := ?_) ?_ ?_
       rotate_left
       ·show Act.put _ (some 76) _ = _
        simp only [Act.put, List.setIfInBounds_toArray, List.set_cons_zero, List.set_cons_succ, i64_w, i32_w]
        rfl
       refine pure_ (i := 11) (N := some 77) (v := ?_) (a' := ?_) #[true, true, true, true, true, true, true, true, true, true, true, true, false] rfl rfl (any_of HT_.out zq24) (fun _ _ _ h => h) (Or.inl ⟨by rfl, ?_⟩) ?_ ?_
       rotate_left
       ·intro w'
        go_simp
        with_reducible rfl
       rotate_left
       ·simp only [Act.put, List.setIfInBounds_toArray, List.set_cons_zero, List.set_cons_succ, i64_w, i32_w]
        rfl
       refine last_ (i := 12) (N := none) #[true, true, true, true, true, true, true, true, true, true, true, true, true] rfl rfl (one_of HT_.out zq24) zq47 (fun K hK => ?_)
       have hs64 : w60.cell? ⟨gb103, 3, none⟩ = some (u104003) := (blk_cell BK103.out 3).trans rfl
       have hfs64 := blk_frozen BK103.out 3
       have hns64_0 := NB101_103.out
       have hns64_1 := NB102_103.out
       have hms64_0 := NB103_101.out
       have hms64_1 := NB103_102.out
       refine skip_ (w1 := ?_) (by rfl) rfl ?_ ?_
       rotate_left
       ·go_simp
        rfl
       refine hK.out _ _ ?_
       clear hK K
       refine done_ (done_of HT_.out zq24) ?_
       try go_wp2
       go_roundg k3
       case measure => have := HJ2.out; have := HK2.out; have := HK3.out; omega
       case rel => exact ⟨(wrap64 (x7_3 + 1)), (y120), (.slice Ao63 y120.length co63), (by rfl), H', ⟨by have := HJ2.out; have := HK2.out; have := HK3.out; omega⟩, ⟨by (with_reducible repeat (first | apply Kd.R_alloc | apply Kd.R_drewN | apply Kd.R_drew)); exact Kd.R_mono (Kd.R_far (p := ⟨gb103, 3, none⟩) (Kd.R_types HO_104002.out BK103.out zq47) (fun _ hk => hk.2) (.slice Ao63 y120.length co63)) (fun _ hk => trivial)⟩, ⟨by (with_reducible repeat (first | apply Kd.R_alloc | apply Kd.R_drewN | apply Kd.R_drew)); exact Kd.R_mono (Kd.R_far (p := ⟨gb103, 3, none⟩) (Kd.R_mono HO122.out (fun k_ hk => (⟨hk, hk.2.2⟩ : _ ∧ k_ ≠ gb103))) (fun _ hk => hk.2) (.slice Ao63 y120.length co63)) (fun _ hk => ⟨hk.1.1, ⟨hk.1.2.1, hk.1.2.2⟩⟩)⟩, ⟨by (with_reducible repeat (first | refine blk_drewN ?_ _ | refine blk_drew ?_ | refine blk_alloc ?_ _)); refine blk_far ?_ NB101_103.out _; (with_reducible repeat (first | refine blk_drewN ?_ _ | refine blk_drew ?_ | refine blk_alloc ?_ _)); exact BK101.out⟩, ⟨by (with_reducible repeat (first | refine blk_drewN ?_ _ | refine blk_drew ?_ | refine blk_alloc ?_ _)); refine blk_far ?_ NB102_103.out _; (with_reducible repeat (first | refine blk_drewN ?_ _ | refine blk_drew ?_ | refine blk_alloc ?_ _)); exact BK102.out⟩, ⟨by (with_reducible repeat (first | refine blk_drewN ?_ _ | refine blk_drew ?_ | refine blk_alloc ?_ _)); refine blk_put (cs := #[.int .i64 a1_0, .string x104001_2, u104002, u104003]) ?_ 3 _ rfl; (with_reducible repeat (first | refine blk_drewN ?_ _ | refine blk_drew ?_ | refine blk_alloc ?_ _)); exact BK103.out⟩, ⟨by repeat (first | (with_reducible first | exact HB.out | apply below_alloc | apply pw_below_drewN | apply below_drew1 | refine below_set ?_ GE101.out | refine below_set ?_ GE102.out | refine below_set ?_ GE103.out) | exact HB.out)⟩⟩
def spec_Read.f (k : Nat) (a0 : ByteArray) : Option (Int × ByteArray × List ByteArray × (List (S34)) × Bool) := (spec_Places.f k a0).bind fun bt102 => (if bt102.2.2.2.2.2 = true then ((spec_Tree.f k a0 bt102.1 bt102.2.1 bt102.2.2.1 bt102.2.2.2.1 bt102.2.2.2.2.1).bind fun bt113 => (some (bt113.1, bt113.2.1, bt113.2.2.1, bt113.2.2.2, true))) else (some (0, (⟨#[]⟩ : ByteArray), ([] : List ByteArray), ([] : List (S34)), false)))
theorem spec_Read.mono : ∀ a0 k, LeO (spec_Read.f k a0) (spec_Read.f (k + 1) a0) := by
 intro a0 k
 unfold spec_Read.f
 repeat' first
  | (with_reducible exact spec_Places.mono _ _)
  | (with_reducible exact spec_Tree.mono _ _ _ _ _ _ _)
  | (with_reducible exact LeO.refl _)
  | (with_reducible exact LeO.none _)
  | (with_reducible refine LeO.ite ?_ ?_)
  | (with_reducible refine LeO.bind ?_ (fun _ => ?_))
  | exact spec_Places.mono _ _
  | exact spec_Tree.mono _ _ _ _ _ _ _
  | exact LeO.none _
  | refine LeO.ite ?_ ?_
  | refine LeO.bind ?_ (fun _ => ?_)
set_option maxHeartbeats 8000000 in
set_option maxRecDepth 100000 in
theorem spec_Read.calls (k : Nat) (a0 : ByteArray) (r1 : Int) (r2 : ByteArray) (r3 : List ByteArray) (r4 : List (S34)) (r5 : Bool) (w : World) (h : spec_Read.f k a0 = some (r1, r2, r3, r4, r5)) :
 Calls Tryd.prog 24 #[.string a0] w fun e w' => ∃ v2_ v3_ : Value, e = .returned (.tuple #[.agg #[.int .i64 r1, .string r2, v2_, v3_], .bool r5]) ∧ Kd.R Kd.string 9 w' w.heap.size (fun _ => True) v2_ r3 ∧ Kd.R k34 34 w' w.heap.size (fun k_ => some k_ ≠ (v2_ : Value).ownBlock) v3_ r4 ∧ Below w.heap.size w w' := by
 have hu34 := Tryd.underlying34
 have hu38 := Tryd.underlying38
 have HB := mk0 (Below.refl w.heap.size w)
 have H : ((spec_Places.f k a0).bind fun bt102 => (if bt102.2.2.2.2.2 = true then ((spec_Tree.f k a0 bt102.1 bt102.2.1 bt102.2.2.1 bt102.2.2.2.1 bt102.2.2.2.2.1).bind fun bt113 => (some (bt113.1, bt113.2.1, bt113.2.2.1, bt113.2.2.2, true))) else (some (0, (⟨#[]⟩ : ByteArray), ([] : List ByteArray), ([] : List (S34)), false)))) = some (r1, r2, r3, r4, r5) := h
 clear h
 replace H := Option.bind_eq_some_iff.mp H
 obtain ⟨⟨t102, t103, t104, t105, t108, t111⟩, A20, H⟩ := H
 (try dsimp only at H)
 have A2 := mk0 A20
 clear A20
 by_cases c3 : t111 = true
 rotate_left
 ·replace c3 := Bool.eq_false_iff.mpr c3
  subst c3
  rw [if_neg (show ¬ (false = true) by decide)] at H
  simp only [Option.some.injEq, Prod.mk.injEq] at H
  obtain ⟨rfl, rfl, rfl, rfl, rfl⟩ := H
  go_enter Tryd.func24, Tryd.ntmps24
  go_wp2_with (first | ((with_reducible refine gate_dst (N := 2) rfl ?_); refine box_event ?hg (N := 2) ?hd (cs := #[.int .i64 0, .string (⟨#[]⟩ : ByteArray), .slice none 0 0, .slice none 0 0]) (t := 34) ?hr ?_; (case hd => rfl); (case hg => rfl); (case hr => exact zq32); intro gb101 hg w16 hbox hb; have BK101 := mk0 (hbox); have GW101 := mk0 ((zq62 : w.heap.size ≤ gb101)); have GE101 := mk0 ((zq62 : w.heap.size ≤ gb101)); replace HB := mk0 (below_step zq1 hb); clear hb hbox hg) | ((with_reducible refine gate_callee (f := 16) rfl ?_); refine goesL_ (some 8) rfl rfl Tryd.func16 zq24 rfl #[.string a0] rfl zq0 ?_; (with_reducible refine (spec_Places.calls k a0 t102 t103 t104 t105 t108 false _ A2.out).mono ?_); rintro e w17 ⟨v106, v109, rfl, ho0, ho1, hb⟩; refine ⟨_, rfl, ?_⟩; have HO107 := mk0 (Kd.R_lower ho0 (below_size zq20)); have HO110 := mk0 (Kd.R_lower ho1 (below_size zq20)); replace BK101 := mk0 (blk_below (g := gb101) (o := .cells #[.int .i64 0, .string (⟨#[]⟩ : ByteArray), .slice none 0 0, .slice none 0 0] 34 (0, 0)) zq9 hb); replace HB := mk0 (below_step zq20 hb); clear hb ho0 ho1) | ((with_reducible refine gate_dst (N := 4) rfl ?_); refine box_event ?hg (N := 4) ?hd (cs := #[.int .i64 0, .int .i64 0, .int .i64 0, .slice none 0 0, .slice none 0 0]) (t := 38) ?hr ?_; (case hd => rfl); (case hg => rfl); (case hr => exact zq32); intro gb112 hg w18 hbox hb; replace HO107 := mk0 (Kd.R_below (by (with_reducible repeat (first | apply Kd.R_alloc | apply Kd.R_drewN | apply Kd.R_drew)); exact HO107.out) hb); replace HO110 := mk0 (Kd.R_below (Kd.R_elderB (by (with_reducible repeat (first | apply Kd.R_alloc | apply Kd.R_drewN | apply Kd.R_drew)); exact HO110.out) gb112 (Nat.le_of_eq hg.symm)) hb); have BK112 := mk0 (hbox); have GW112 := mk0 ((zq73 : w.heap.size ≤ gb112)); have GE112 := mk0 ((zq73 : w.heap.size ≤ gb112)); replace HB := mk0 (below_step zq20 hb); have NB101_112 := mk0 ((zq70 : gb101 ≠ gb112)); have NB112_101 := mk0 ((zq71 : gb112 ≠ gb101)); replace BK101 := mk0 (blk_below (g := gb101) (o := .cells #[.int .i64 0, .string (⟨#[]⟩ : ByteArray), .slice none 0 0, .slice none 0 0] 34 (0, 0)) zq9 hb); clear hb hbox hg; have hnb19 := NB112_101.out; have hnc19 := NB101_112.out; have hcz20_0 : w18.cell? ⟨gb112, 0, none⟩ = some (.int .i64 0) := (blk_cell BK112.out 0).trans rfl; have hcz20_1 : w18.cell? ⟨gb112, 1, none⟩ = some (.int .i64 0) := (blk_cell BK112.out 1).trans rfl; have hcz20_2 : w18.cell? ⟨gb112, 2, none⟩ = some (.int .i64 0) := (blk_cell BK112.out 2).trans rfl; have hcz20_3 : w18.cell? ⟨gb112, 3, none⟩ = some (.slice none 0 0) := (blk_cell BK112.out 3).trans rfl; have hcz20_4 : w18.cell? ⟨gb112, 4, none⟩ = some (.slice none 0 0) := (blk_cell BK112.out 4).trans rfl; have hfz20_0 := blk_frozen BK112.out 0; have hfz20_1 := blk_frozen BK112.out 1; have hfz20_2 := blk_frozen BK112.out 2; have hfz20_3 := blk_frozen BK112.out 3; have hfz20_4 := blk_frozen BK112.out 4; obtain ⟨Ao21, co21, eo21⟩ := Kd.R_slice HO107.out; subst eo21; obtain ⟨Ao22, co22, eo22⟩ := Kd.R_slice HO110.out; subst eo22; have hcz23_0 : w18.cell? ⟨gb101, 0, none⟩ = some (.int .i64 0) := (blk_cell BK101.out 0).trans rfl; have hcz23_1 : w18.cell? ⟨gb101, 1, none⟩ = some (.string (⟨#[]⟩ : ByteArray)) := (blk_cell BK101.out 1).trans rfl; have hcz23_2 : w18.cell? ⟨gb101, 2, none⟩ = some (.slice none 0 0) := (blk_cell BK101.out 2).trans rfl; have hcz23_3 : w18.cell? ⟨gb101, 3, none⟩ = some (.slice none 0 0) := (blk_cell BK101.out 3).trans rfl; have hfz23_0 := blk_frozen BK101.out 0; have hfz23_1 := blk_frozen BK101.out 1; have hfz23_2 := blk_frozen BK101.out 2; have hfz23_3 := blk_frozen BK101.out 3))
  refine bodyPost_ret (results_ct rfl _ _ gb101 34 #[.int .i64 0, .string (⟨#[]⟩ : ByteArray), .slice none 0 0, .slice none 0 0] (0, 0) _ rfl (by (with_reducible repeat (first | refine blk_drewN ?_ _ | refine blk_drew ?_ | refine blk_alloc ?_ _)); refine blk_put (cs := #[.int .i64 0, .string (⟨#[]⟩ : ByteArray), .slice none 0 0, .slice none 0 0]) ?_ 3 _ rfl; (with_reducible repeat (first | refine blk_drewN ?_ _ | refine blk_drew ?_ | refine blk_alloc ?_ _)); refine blk_put (cs := #[.int .i64 0, .string (⟨#[]⟩ : ByteArray), .slice none 0 0, .slice none 0 0]) ?_ 2 _ rfl; (with_reducible repeat (first | refine blk_drewN ?_ _ | refine blk_drew ?_ | refine blk_alloc ?_ _)); refine blk_put (cs := #[.int .i64 0, .string (⟨#[]⟩ : ByteArray), .slice none 0 0, .slice none 0 0]) ?_ 1 _ rfl; (with_reducible repeat (first | refine blk_drewN ?_ _ | refine blk_drew ?_ | refine blk_alloc ?_ _)); refine blk_put (cs := #[.int .i64 0, .string (⟨#[]⟩ : ByteArray), .slice none 0 0, .slice none 0 0]) ?_ 0 _ rfl; (with_reducible repeat (first | refine blk_drewN ?_ _ | refine blk_drew ?_ | refine blk_alloc ?_ _)); refine blk_far ?_ NB101_112.out _; (with_reducible repeat (first | refine blk_drewN ?_ _ | refine blk_drew ?_ | refine blk_alloc ?_ _)); refine blk_far ?_ NB101_112.out _; (with_reducible repeat (first | refine blk_drewN ?_ _ | refine blk_drew ?_ | refine blk_alloc ?_ _)); refine blk_far ?_ NB101_112.out _; (with_reducible repeat (first | refine blk_drewN ?_ _ | refine blk_drew ?_ | refine blk_alloc ?_ _)); refine blk_far ?_ NB101_112.out _; (with_reducible repeat (first | refine blk_drewN ?_ _ | refine blk_drew ?_ | refine blk_alloc ?_ _)); refine blk_far ?_ NB101_112.out _; (with_reducible repeat (first | refine blk_drewN ?_ _ | refine blk_drew ?_ | refine blk_alloc ?_ _)); exact BK101.out) Tryd.underlying34 rfl zq24) rfl ?_
  exact ⟨_, _, by rfl, by exact Kd.R_nil _ _ _ _ _, by exact Kd.R_nil _ _ _ _ _, by repeat (first | (with_reducible first | exact HB.out | apply below_alloc | apply pw_below_drewN | apply below_drew1 | refine below_set ?_ GE101.out | refine below_set ?_ GE112.out) | exact HB.out)⟩
 subst c3
 rw [if_pos rfl] at H
 replace H := Option.bind_eq_some_iff.mp H
 obtain ⟨⟨t113, t114, t115, t118⟩, A40, H⟩ := H
 (try dsimp only at H)
 have A4 := mk0 A40
 clear A40
 simp only [Option.some.injEq, Prod.mk.injEq] at H
 obtain ⟨rfl, rfl, rfl, rfl, rfl⟩ := H
 go_enter Tryd.func24, Tryd.ntmps24
 go_wp2_with (first | ((with_reducible refine gate_dst (N := 2) rfl ?_); refine box_event ?hg (N := 2) ?hd (cs := #[.int .i64 0, .string (⟨#[]⟩ : ByteArray), .slice none 0 0, .slice none 0 0]) (t := 34) ?hr ?_; (case hd => rfl); (case hg => rfl); (case hr => exact zq32); intro gb101 hg w5 hbox hb; have BK101 := mk0 (hbox); have GW101 := mk0 ((zq62 : w.heap.size ≤ gb101)); have GE101 := mk0 ((zq62 : w.heap.size ≤ gb101)); replace HB := mk0 (below_step zq1 hb); clear hb hbox hg) | ((with_reducible refine gate_callee (f := 16) rfl ?_); refine goesL_ (some 8) rfl rfl Tryd.func16 zq24 rfl #[.string a0] rfl zq0 ?_; (with_reducible refine (spec_Places.calls k a0 t102 t103 t104 t105 t108 true _ A2.out).mono ?_); rintro e w6 ⟨v106, v109, rfl, ho0, ho1, hb⟩; refine ⟨_, rfl, ?_⟩; have HO107 := mk0 (Kd.R_lower ho0 (below_size zq20)); have HO110 := mk0 (Kd.R_lower ho1 (below_size zq20)); replace BK101 := mk0 (blk_below (g := gb101) (o := .cells #[.int .i64 0, .string (⟨#[]⟩ : ByteArray), .slice none 0 0, .slice none 0 0] 34 (0, 0)) zq9 hb); replace HB := mk0 (below_step zq20 hb); clear hb ho0 ho1) | ((with_reducible refine gate_dst (N := 4) rfl ?_); refine box_event ?hg (N := 4) ?hd (cs := #[.int .i64 0, .int .i64 0, .int .i64 0, .slice none 0 0, .slice none 0 0]) (t := 38) ?hr ?_; (case hd => rfl); (case hg => rfl); (case hr => exact zq32); intro gb112 hg w7 hbox hb; replace HO107 := mk0 (Kd.R_below (by (with_reducible repeat (first | apply Kd.R_alloc | apply Kd.R_drewN | apply Kd.R_drew)); exact HO107.out) hb); replace HO110 := mk0 (Kd.R_below (Kd.R_elderB (by (with_reducible repeat (first | apply Kd.R_alloc | apply Kd.R_drewN | apply Kd.R_drew)); exact HO110.out) gb112 (Nat.le_of_eq hg.symm)) hb); have BK112 := mk0 (hbox); have GW112 := mk0 ((zq73 : w.heap.size ≤ gb112)); have GE112 := mk0 ((zq73 : w.heap.size ≤ gb112)); replace HB := mk0 (below_step zq20 hb); have NB101_112 := mk0 ((zq70 : gb101 ≠ gb112)); have NB112_101 := mk0 ((zq71 : gb112 ≠ gb101)); replace BK101 := mk0 (blk_below (g := gb101) (o := .cells #[.int .i64 0, .string (⟨#[]⟩ : ByteArray), .slice none 0 0, .slice none 0 0] 34 (0, 0)) zq9 hb); clear hb hbox hg; have hnb8 := NB112_101.out; have hnc8 := NB101_112.out; have hcz9_0 : w7.cell? ⟨gb112, 0, none⟩ = some (.int .i64 0) := (blk_cell BK112.out 0).trans rfl; have hcz9_1 : w7.cell? ⟨gb112, 1, none⟩ = some (.int .i64 0) := (blk_cell BK112.out 1).trans rfl; have hcz9_2 : w7.cell? ⟨gb112, 2, none⟩ = some (.int .i64 0) := (blk_cell BK112.out 2).trans rfl; have hcz9_3 : w7.cell? ⟨gb112, 3, none⟩ = some (.slice none 0 0) := (blk_cell BK112.out 3).trans rfl; have hcz9_4 : w7.cell? ⟨gb112, 4, none⟩ = some (.slice none 0 0) := (blk_cell BK112.out 4).trans rfl; have hfz9_0 := blk_frozen BK112.out 0; have hfz9_1 := blk_frozen BK112.out 1; have hfz9_2 := blk_frozen BK112.out 2; have hfz9_3 := blk_frozen BK112.out 3; have hfz9_4 := blk_frozen BK112.out 4; obtain ⟨Ao10, co10, eo10⟩ := Kd.R_slice HO107.out; subst eo10; obtain ⟨Ao11, co11, eo11⟩ := Kd.R_slice HO110.out; subst eo11) | ((with_reducible refine gate_callee (f := 44) rfl ?_); refine goesL_ (some 16) rfl rfl Tryd.func44 zq24 rfl #[.string a0, .agg #[.int .i64 t102, .int .i64 t103, .int .i64 t104, .slice Ao10 t105.length co10, .slice Ao11 t108.length co11]] rfl zq0 ?_; (with_reducible refine (spec_Tree.calls k a0 t102 t103 t104 _ _ t105 _ _ t108 t113 t114 t115 t118 _ ?side1 ?side2 ?side3 ?side4 A4.out).mono ?_); (case side1 => refine (Kd.R_reads' (e := 122) (base := w.heap.size) (ok := fun k_ => True) (n := t105.length) (c := co10) ?_).2.2; exact zq44); (case side2 => exact (Kd.R_reads' HO107.out).2.1); (case side3 => refine (Kd.R_reads' (e := 38) (base := w.heap.size) (ok := fun k_ => (some k_ ≠ (.slice Ao10 t105.length co10 : Value).ownBlock ∧ k_ ≠ gb112)) (n := t108.length) (c := co11) ?_).2.2; exact zq42); (case side4 => exact (Kd.R_reads' HO110.out).2.1); rintro e w12 ⟨v116, v119, rfl, ho0, ho1, hb⟩; refine ⟨_, rfl, ?_⟩; replace HO107 := mk0 (Kd.R_below zq44 hb); replace HO110 := mk0 (Kd.R_below zq42 hb); have HO117 := mk0 (Kd.R_lower ho0 (below_size zq52)); have HO120 := mk0 (Kd.R_lower (Kd.R_newB ho1 (g := gb101) (o := .cells #[.int .i64 0, .string (⟨#[]⟩ : ByteArray), .slice none 0 0, .slice none 0 0] 34 (0, 0)) zq37) (below_size zq52)); replace BK101 := mk0 (blk_below (g := gb101) (o := .cells #[.int .i64 0, .string (⟨#[]⟩ : ByteArray), .slice none 0 0, .slice none 0 0] 34 (0, 0)) zq37 hb); replace BK112 := mk0 (blk_below (g := gb112) (o := .cells #[.int .i64 t102, .int .i64 t103, .int .i64 t104, .slice Ao10 t105.length co10, .slice Ao11 t108.length co11] 38 (0, 0)) (by (with_reducible repeat (first | refine blk_drewN ?_ _ | refine blk_drew ?_ | refine blk_alloc ?_ _)); refine blk_put (cs := #[.int .i64 t102, .int .i64 t103, .int .i64 t104, .slice Ao10 t105.length co10, .slice none 0 0]) ?_ 4 _ rfl; (with_reducible repeat (first | refine blk_drewN ?_ _ | refine blk_drew ?_ | refine blk_alloc ?_ _)); refine blk_put (cs := #[.int .i64 t102, .int .i64 t103, .int .i64 t104, .slice none 0 0, .slice none 0 0]) ?_ 3 _ rfl; (with_reducible repeat (first | refine blk_drewN ?_ _ | refine blk_drew ?_ | refine blk_alloc ?_ _)); refine blk_put (cs := #[.int .i64 t102, .int .i64 t103, .int .i64 0, .slice none 0 0, .slice none 0 0]) ?_ 2 _ rfl; (with_reducible repeat (first | refine blk_drewN ?_ _ | refine blk_drew ?_ | refine blk_alloc ?_ _)); refine blk_put (cs := #[.int .i64 t102, .int .i64 0, .int .i64 0, .slice none 0 0, .slice none 0 0]) ?_ 1 _ rfl; (with_reducible repeat (first | refine blk_drewN ?_ _ | refine blk_drew ?_ | refine blk_alloc ?_ _)); refine blk_put (cs := #[.int .i64 0, .int .i64 0, .int .i64 0, .slice none 0 0, .slice none 0 0]) ?_ 0 _ rfl; (with_reducible repeat (first | refine blk_drewN ?_ _ | refine blk_drew ?_ | refine blk_alloc ?_ _)); exact BK112.out) hb); replace HB := mk0 (below_step zq52 hb); clear hb ho0 ho1; have hcz13_0 : w12.cell? ⟨gb101, 0, none⟩ = some (.int .i64 0) := (blk_cell BK101.out 0).trans rfl; have hcz13_1 : w12.cell? ⟨gb101, 1, none⟩ = some (.string (⟨#[]⟩ : ByteArray)) := (blk_cell BK101.out 1).trans rfl; have hcz13_2 : w12.cell? ⟨gb101, 2, none⟩ = some (.slice none 0 0) := (blk_cell BK101.out 2).trans rfl; have hcz13_3 : w12.cell? ⟨gb101, 3, none⟩ = some (.slice none 0 0) := (blk_cell BK101.out 3).trans rfl; have hfz13_0 := blk_frozen BK101.out 0; have hfz13_1 := blk_frozen BK101.out 1; have hfz13_2 := blk_frozen BK101.out 2; have hfz13_3 := blk_frozen BK101.out 3; obtain ⟨Ao14, co14, eo14⟩ := Kd.R_slice HO117.out; subst eo14; obtain ⟨Ao15, co15, eo15⟩ := Kd.R_slice HO120.out; subst eo15))
 refine bodyPost_ret (results_ct rfl _ _ gb101 34 #[.int .i64 t113, .string t114, .slice Ao14 t115.length co14, .slice Ao15 t118.length co15] (0, 0) _ rfl (by (with_reducible repeat (first | refine blk_drewN ?_ _ | refine blk_drew ?_ | refine blk_alloc ?_ _)); refine blk_put (cs := #[.int .i64 t113, .string t114, .slice Ao14 t115.length co14, .slice none 0 0]) ?_ 3 _ rfl; (with_reducible repeat (first | refine blk_drewN ?_ _ | refine blk_drew ?_ | refine blk_alloc ?_ _)); refine blk_put (cs := #[.int .i64 t113, .string t114, .slice none 0 0, .slice none 0 0]) ?_ 2 _ rfl; (with_reducible repeat (first | refine blk_drewN ?_ _ | refine blk_drew ?_ | refine blk_alloc ?_ _)); refine blk_put (cs := #[.int .i64 t113, .string (⟨#[]⟩ : ByteArray), .slice none 0 0, .slice none 0 0]) ?_ 1 _ rfl; (with_reducible repeat (first | refine blk_drewN ?_ _ | refine blk_drew ?_ | refine blk_alloc ?_ _)); refine blk_put (cs := #[.int .i64 0, .string (⟨#[]⟩ : ByteArray), .slice none 0 0, .slice none 0 0]) ?_ 0 _ rfl; (with_reducible repeat (first | refine blk_drewN ?_ _ | refine blk_drew ?_ | refine blk_alloc ?_ _)); exact BK101.out) Tryd.underlying34 rfl zq24) rfl ?_
 exact ⟨_, _, by rfl, by (with_reducible repeat (first | apply Kd.R_alloc | apply Kd.R_drewN | apply Kd.R_drew)); exact Kd.R_mono (Kd.R_far (p := ⟨gb101, 3, none⟩) (Kd.R_far (p := ⟨gb101, 2, none⟩) (Kd.R_far (p := ⟨gb101, 1, none⟩) (Kd.R_far (p := ⟨gb101, 0, none⟩) (Kd.R_types HO117.out BK101.out zq47) (fun _ hk => hk.2) (.int .i64 t113)) (fun _ hk => hk.2) (.string t114)) (fun _ hk => hk.2) (.slice Ao14 t115.length co14)) (fun _ hk => hk.2) (.slice Ao15 t118.length co15)) (fun _ hk => trivial), by (with_reducible repeat (first | apply Kd.R_alloc | apply Kd.R_drewN | apply Kd.R_drew)); exact Kd.R_mono (Kd.R_far (p := ⟨gb101, 3, none⟩) (Kd.R_far (p := ⟨gb101, 2, none⟩) (Kd.R_far (p := ⟨gb101, 1, none⟩) (Kd.R_far (p := ⟨gb101, 0, none⟩) (Kd.R_mono HO120.out (fun k_ hk => (⟨hk, hk.2⟩ : _ ∧ k_ ≠ gb101))) (fun _ hk => hk.2) (.int .i64 t113)) (fun _ hk => hk.2) (.string t114)) (fun _ hk => hk.2) (.slice Ao14 t115.length co14)) (fun _ hk => hk.2) (.slice Ao15 t118.length co15)) (fun _ hk => hk.1.1), by repeat (first | (with_reducible first | exact HB.out | apply below_alloc | apply pw_below_drewN | apply below_drew1 | refine below_set ?_ GE101.out | refine below_set ?_ GE112.out) | exact HB.out)⟩
end Go.Proofs.YtlokkefnbffjnaaDoor.J
end
section
namespace Go.Proofs.YtlokkefnbffjnaaDoor.J
open Go.RowKit Go.Proofs.YtlokkefnbffjnaaDoor.J Go.Proofs.YtlokkefnbffjnaaDoorW.PrintWords Go.Proofs.YtlokkefnbffjnaaDoorW.PrintLast

theorem hexDigit_eq {c : Int} (h : 0 ≤ c ∧ c ≤ 255) : Ev (fun k => spec_hexDigit.f k c) ((hexv c).getD 0, (hexv c).isSome) := by
 refine ⟨2, fun k hk => ?_⟩
 obtain ⟨k, rfl⟩ : ∃ m, k = m + 2 := ⟨k - 2, by omega⟩
 unfold spec_hexDigit.f hexv
 simp only [spec_hexDigit.j0, spec_hexDigit.j1]
 by_cases h1 : 48 ≤ c ∧ c ≤ 57
 ·rw [if_pos h1.1, if_pos (by simp; omega), if_pos h1]
  simp; omega
 rw [if_neg h1]
 have key : (if 97 ≤ c then (if decide (c ≤ 102) = true then some ((c - 97) % 256 + 10, true) else if 65 ≤ c then if c ≤ 70 then some ((c - 65) % 256 + 10, true) else some (0, false) else some (0, false))
  else (if false = true then some ((c - 97) % 256 + 10, true) else if 65 ≤ c then if c ≤ 70 then some ((c - 65) % 256 + 10, true) else some (0, false) else some (0, false))) =
  some (((if 97 ≤ c ∧ c ≤ 102 then some (c - 87) else if 65 ≤ c ∧ c ≤ 70 then some (c - 55) else none : Option Int).getD 0, (if 97 ≤ c ∧ c ≤ 102 then some (c - 87) else if 65 ≤ c ∧ c ≤ 70 then some (c - 55) else none : Option Int).isSome)) := by
  by_cases h2 : 97 ≤ c ∧ c ≤ 102
  ·rw [if_pos h2.1, if_pos (by simp; omega), if_pos h2]
   simp; omega
  rw [if_neg h2]
  by_cases h3 : 65 ≤ c ∧ c ≤ 70
  ·rw [if_neg (by omega), if_neg (by simp), if_pos h3.1, if_pos h3.2, if_pos h3]
   simp; omega
  rw [if_neg h3]
  by_cases h4 : 97 ≤ c
  ·rw [if_pos h4, if_neg (by simp; omega), if_pos (by omega), if_neg (by omega)]
   rfl
  rw [if_neg h4, if_neg (by simp)]
  by_cases h5 : 65 ≤ c
  rotate_left
  ·rw [if_neg h5]
   rfl
  rw [if_pos h5, if_neg (by omega)]
  rfl
 by_cases h6 : 48 ≤ c
 rotate_left
 ·rw [if_neg h6, if_neg (by simp)]
  exact key
 rw [if_pos h6, if_neg (by simp; omega)]
 exact key
theorem here_cons {s : ByteArray} {i : Nat} {a : Int} {l : List Int} (h : From s i (a :: l)) : spec_reader_here.f s (i : Int) = some (a, s, (i : Int)) := by
 have := h.lt
 unfold spec_reader_here.f
 rw [if_pos (by omega), if_pos (by omega), h.bt]
theorem here_nil {s : ByteArray} {i : Nat} (h : From s i []) : spec_reader_here.f s (i : Int) = some (0, s, (i : Int)) := by
 have := h.nil
 unfold spec_reader_here.f
 rw [if_neg (by omega)]
theorem up {i n : Nat} (k : Nat) (h : i ≤ n) (hn : n ≤ 140737488351232) (hk : k ≤ 100) : wrap64 ((i : Int) + (k : Int)) = ((i + k : Nat) : Int) := by
 rw [w64 (by omega)]; omega
theorem up1 {i n : Nat} (h : i ≤ n) (hn : n ≤ 140737488351232) : wrap64 ((i : Int) + 1) = ((i + 1 : Nat) : Int) := up 1 h hn (by omega)
def hexs : Nat → List Int → Bool
  | 0, _ => true
  | _ + 1, [] => false
  | n + 1, a :: r => (hexv a).isSome && hexs n r
theorem hex4_hexs (l : List Int) : (hex4 l).isSome = hexs 4 l := by
 match l with
 | [] => rfl
 | [a] => simp [hex4, hexs]
 | [a, b] => simp [hex4, hexs]
 | [a, b, c] => simp [hex4, hexs]
 | a :: b :: c :: d :: r =>
  simp only [hex4, hexs]
  cases hexv a <;> cases hexv b <;> cases hexv c <;> cases hexv d <;> rfl
section
variable {s : ByteArray} (hs : s.size ≤ 140737488351232)
include hs
theorem esc_l0 : ∀ (n : Nat) (i : Nat) (l : List Int), n ≤ 4 → From s i l →
 (hexs n l = true → Ev (fun k => spec_reader_escape.l0 k (((4 - n : Nat) : Int)) s i) (true, s, ((i + n : Nat) : Int))) ∧
 (hexs n l = false → ∃ p, Ev (fun k => spec_reader_escape.l0 k (((4 - n : Nat) : Int)) s i) (false, s, p))
 | 0, i, l, _, h => ⟨fun _ => Ev.step (f := fun _ => some (true, s, (i : Int))) (fun k => by simp only [spec_reader_escape.l0]; rw [if_neg (by omega)]) (Ev.now _), fun h => by simp [hexs] at h⟩
 | n + 1, i, [], hn, h => by
  refine ⟨fun e => by simp [hexs] at e, fun _ => ⟨(i : Int), ?_⟩⟩
  refine Ev.step (f := fun k => (spec_hexDigit.f k 0).bind fun bt107 => (if bt107.2 = true then (spec_reader_escape.l0 k (wrap64 ((((4 - (n + 1) : Nat) : Int)) + 1)) s (wrap64 ((i : Int) + 1))) else some (false, s, (i : Int)))) (fun k => ?_) (Ev.bind (hexDigit_eq (by omega)) (Ev.congr (fun k => if_neg (by simp [hexv])) (Ev.now _)))
  simp only [spec_reader_escape.l0]
  rw [if_pos (by omega), here_nil h]
  rfl
 | n + 1, i, a :: l, hn, h => by
  have ih := esc_l0 n (i + 1) l (by omega) h.tail
  have e1 : wrap64 ((((4 - (n + 1) : Nat) : Int)) + 1) = (((4 - n : Nat) : Int)) := by rw [w64 (by omega)]; omega
  have e2 := up1 (Nat.le_of_lt h.lt) hs
  have st : ∀ R, Ev (fun k => if (hexv a).isSome = true then (spec_reader_escape.l0 k (((4 - n : Nat) : Int)) s ((i + 1 : Nat) : Int)) else some (false, s, (i : Int))) R → Ev (fun k => spec_reader_escape.l0 k (((4 - (n + 1) : Nat) : Int)) s i) R := fun R hR => by
   refine Ev.step (f := fun k => (spec_hexDigit.f k a).bind fun bt107 => (if bt107.2 = true then (spec_reader_escape.l0 k (((4 - n : Nat) : Int)) s ((i + 1 : Nat) : Int)) else some (false, s, (i : Int)))) (fun k => ?_) (Ev.bind (hexDigit_eq h.head) hR)
   simp only [spec_reader_escape.l0]
   rw [if_pos (by omega), here_cons h, e1]
   simp only [Option.bind_some, e2]
  by_cases ha : (hexv a).isSome = true
  rotate_left
  ·exact ⟨fun e => by simp [hexs, ha] at e, fun _ => ⟨_, st _ (Ev.congr (fun k => if_neg ha) (Ev.now _))⟩⟩
  refine ⟨fun e => ?_, fun e => ?_⟩
  ·simp only [hexs, Bool.and_eq_true] at e
   have := st _ (Ev.congr (fun k => if_pos ha) (ih.1 e.2))
   rwa [show i + 1 + n = i + (n + 1) by omega] at this
  ·rw [hexs, ha, Bool.true_and] at e
   obtain ⟨p, hp⟩ := ih.2 e
   exact ⟨p, st _ (Ev.congr (fun k => if_pos ha) hp)⟩
theorem escape_eq {i : Nat} {l : List Int} (h : From s i l) :
 (∀ r, escL l = some r → Ev (fun k => spec_reader_escape.f k s i) (true, s, ((s.size - r.length : Nat) : Int))) ∧
 (escL l = none → ∃ p, Ev (fun k => spec_reader_escape.f k s i) (false, s, p)) := by
 have j0 : ∀ a x, x = isE a → Ev (fun k => spec_reader_escape.j0 k a x s i) = Ev (fun k => if isE a = true then some (true, s, wrap64 ((i : Int) + 1)) else if a = 117 then spec_reader_escape.l0 (k - 1) 0 s (wrap64 ((i : Int) + 1)) else some (false, s, (i : Int))) := by
  intro a x e
  subst e
  funext R
  apply propext
  constructor
  ·rintro ⟨K, hK⟩
   refine ⟨K + 1, fun k hk => ?_⟩
   obtain ⟨k, rfl⟩ : ∃ m, k = m + 1 := ⟨k - 1, by omega⟩
   have := hK (k + 1) (by omega)
   simpa only [spec_reader_escape.j0, Nat.add_sub_cancel] using this
  ·rintro ⟨K, hK⟩
   refine ⟨K + 1, fun k hk => ?_⟩
   obtain ⟨k, rfl⟩ : ∃ m, k = m + 1 := ⟨k - 1, by omega⟩
   have := hK (k + 1) (by omega)
   simpa only [spec_reader_escape.j0, Nat.add_sub_cancel] using this
 have sh : ∀ {g : Nat → Option (Bool × ByteArray × Int)} {R}, Ev g R → Ev (fun k => g (k - 1)) R := by
  rintro g R ⟨K, hK⟩
  exact ⟨K + 1, fun k hk => hK _ (by omega)⟩
 match l, h with
 | [], h =>
  refine ⟨fun r hr => by simp [escL] at hr, fun _ => ⟨(i : Int), ?_⟩⟩
  refine Ev.congr (f := fun k => spec_reader_escape.j0 k 0 ((0 : Int) == 116) s i) (fun k => ?_) ?_
  ·unfold spec_reader_escape.f
   rw [here_nil h]
   rfl
  ·rw [j0 0 _ zq47]
   exact Ev.congr (fun k => by rw [if_neg zq47, if_neg zq47]) (Ev.now _)
 | a :: l, h =>
  have e2 := up1 (Nat.le_of_lt h.lt) hs
  have hl := h.len
  simp only [List.length_cons] at hl
  have key : Ev (fun k => spec_reader_escape.f k s i) = Ev (fun k => spec_reader_escape.j0 k a (isE a) s i) := by
   congr 1
   funext k
   unfold spec_reader_escape.f
   rw [here_cons h]
   simp only [Option.bind_some, isE]
   by_cases h1 : a = 34
   ·rw [if_pos h1, h1]; rfl
   rw [if_neg h1]
   by_cases h2 : a = 92
   ·rw [if_pos h2, h2]; rfl
   rw [if_neg h2]
   by_cases h3 : a = 47
   ·rw [if_pos h3, h3]; rfl
   rw [if_neg h3]
   by_cases h4 : a = 98
   ·rw [if_pos h4, h4]; rfl
   rw [if_neg h4]
   by_cases h5 : a = 102
   ·rw [if_pos h5, h5]; rfl
   rw [if_neg h5]
   by_cases h6 : a = 110
   ·rw [if_pos h6, h6]; rfl
   rw [if_neg h6]
   by_cases h7 : a = 114
   ·rw [if_pos h7, h7]; rfl
   rw [if_neg h7]
   congr 1
   rw [Bool.eq_iff_iff]
   simp
   omega
  rw [key, j0 a _ rfl]
  by_cases h1 : isE a = true
  ·refine ⟨fun r hr => ?_, fun hr => (by rw [escL_let _ h1] at hr; cases hr)⟩
   rw [escL_let _ h1] at hr
   cases hr
   refine Ev.congr (fun k => if_pos h1) (Ev_same (Ev.now _) ?_)
   rw [e2, show i + 1 = s.size - l.length by omega]
  by_cases h2 : a = 117
  rotate_left
  ·refine ⟨fun r hr => (by rw [escL, if_neg h1, if_neg h2] at hr; cases hr), fun _ => ⟨(i : Int), Ev.congr (fun k => by rw [if_neg h1, if_neg h2]) (Ev.now _)⟩⟩
  subst h2
  have hh := esc_l0 hs 4 (i + 1) l (by omega) h.tail
  refine ⟨fun r hr => ?_, fun hr => ?_⟩
  ·rw [escL, if_neg h1, if_pos rfl] at hr
   obtain ⟨v, hv, hr⟩ := Option.bind_eq_some_iff.mp hr
   cases hr
   have h4 : hexs 4 l = true := by rw [← hex4_hexs, hv]; rfl
   have hlen := hex4_len hv
   refine Ev.congr (f := fun k => spec_reader_escape.l0 (k - 1) 0 s ((i + 1 : Nat) : Int)) (fun k => by rw [if_neg h1, if_pos rfl, e2]) (Ev_same (sh (hh.1 h4)) ?_)
   rw [show i + 1 + 4 = s.size - (l.drop 4).length by rw [List.length_drop]; omega]
  ·rw [escL, if_neg h1, if_pos rfl] at hr
   have h4 : hexs 4 l = false := by
    rw [← hex4_hexs]
    cases hv : hex4 l with
    | none => rfl
    | some v => rw [hv] at hr; cases hr
   obtain ⟨p, hp⟩ := hh.2 h4
   exact ⟨p, Ev.congr (f := fun k => spec_reader_escape.l0 (k - 1) 0 s ((i + 1 : Nat) : Int)) (fun k => by rw [if_neg h1, if_pos rfl, e2]) (sh hp)⟩
theorem quoted_l0 : ∀ (n i : Nat) (l : List Int), l.length ≤ n → From s i l →
 (∀ r, strL l = some r → Ev (fun k => spec_reader_quoted.l0 k s i) (true, s, ((s.size - r.length : Nat) : Int))) ∧
 (strL l = none → ∃ p, Ev (fun k => spec_reader_quoted.l0 k s i) (false, s, p))
 | n, i, [], _, h => by
  have := h.nil
  refine ⟨fun r hr => (by rw [strL_nil] at hr; cases hr), fun _ => ⟨(i : Int), Ev.step (f := fun _ => some (false, s, (i : Int))) (fun k => ?_) (Ev.now _)⟩⟩
  simp only [spec_reader_quoted.l0]
  rw [if_neg (by omega)]
 | 0, i, c :: l, hn, h => by simp at hn
 | n + 1, i, c :: l, hn, h => by
  simp only [List.length_cons] at hn
  have hl := h.len
  simp only [List.length_cons] at hl
  have e2 := up1 (Nat.le_of_lt h.lt) hs
  have st : ∀ k, spec_reader_quoted.l0 (k + 1) s i = (if c = 34 then (some (true, s, ((i + 1 : Nat) : Int))) else (if c < 32 then (some (false, s, ((i + 1 : Nat) : Int))) else (if c = 92 then ((spec_reader_escape.f k s ((i + 1 : Nat) : Int)).bind fun bt101 => (if bt101.1 = true then (spec_reader_quoted.l0 k bt101.2.1 bt101.2.2) else (some (false, bt101.2.1, bt101.2.2)))) else (spec_reader_quoted.l0 k s ((i + 1 : Nat) : Int))))) := fun k => by
   simp only [spec_reader_quoted.l0]
   rw [if_pos (by have := h.lt; omega), if_pos (by omega), h.bt, e2]
  by_cases h1 : c = 34
  ·subst h1
   refine ⟨fun r hr => ?_, fun hr => (by rw [strL_end] at hr; cases hr)⟩
   rw [strL_end] at hr
   cases hr
   refine Ev.step (fun k => (st k).trans (if_pos rfl)) (Ev_same (Ev.now _) ?_)
   rw [show i + 1 = s.size - l.length by omega]
  by_cases h2 : c < 32
  ·refine ⟨fun r hr => (by rw [strL_low _ h2] at hr; cases hr), fun _ => ⟨_, Ev.step (fun k => (st k).trans ((if_neg h1).trans (if_pos h2))) (Ev.now _)⟩⟩
  by_cases h3 : c = 92
  rotate_left
  ·rw [strL_raw _ ⟨h1, h2, h3⟩]
   have ih := quoted_l0 n (i + 1) l (by omega) h.tail
   have go : ∀ k, spec_reader_quoted.l0 (k + 1) s i = spec_reader_quoted.l0 k s ((i + 1 : Nat) : Int) := fun k => (st k).trans ((if_neg h1).trans ((if_neg h2).trans (if_neg h3)))
   refine ⟨fun r hr => Ev.step go (ih.1 r hr), fun hr => ?_⟩
   obtain ⟨p, hq⟩ := ih.2 hr
   exact ⟨p, Ev.step go hq⟩
  subst h3
  have hh := escape_eq hs h.tail
  rw [strL_esc]
  have go : ∀ {a q R}, Ev (fun k => spec_reader_escape.f k s ((i + 1 : Nat) : Int)) (a, s, q) → Ev (fun k => if a = true then (spec_reader_quoted.l0 k s q) else (some (false, s, q))) R → Ev (fun k => spec_reader_quoted.l0 k s i) R := fun {a q R} hx hy =>
   Ev.step (fun k => (st k).trans ((if_neg h1).trans ((if_neg h2).trans (if_pos rfl)))) (Ev.bind hx hy)
  cases he : escL l with
  | none =>
   refine ⟨fun r hr => (by cases hr), fun _ => ?_⟩
   obtain ⟨p, hp⟩ := hh.2 he
   exact ⟨p, go hp (Ev.congr (fun k => if_neg zq47) (Ev.now _))⟩
  | some r' =>
   have hlen := escL_len he
   have hp := hh.1 r' he
   have hF : From s (s.size - r'.length) r' := by
    rcases escL_ex he with ⟨b, _, rfl⟩ | ⟨a, b, c, d, v, _, rfl⟩
    ·have := h.tail.tail
     have hz := this.len
     rwa [show i + 1 + 1 = s.size - r'.length by omega] at this
    ·have := h.tail.tail.tail.tail.tail.tail
     have hz := this.len
     rwa [show i + 1 + 1 + 1 + 1 + 1 + 1 = s.size - r'.length by omega] at this
   have ih := quoted_l0 n (s.size - r'.length) r' (by omega) hF
   refine ⟨fun r hr => go hp (Ev.congr (fun k => if_pos rfl) (ih.1 r hr)), fun hr => ?_⟩
   obtain ⟨p, hq⟩ := ih.2 hr
   exact ⟨p, go hp (Ev.congr (fun k => if_pos rfl) hq)⟩
theorem quoted_eq {i : Nat} {c : Int} {l : List Int} (h : From s i (c :: l)) :
 (∀ r, strL l = some r → Ev (fun k => spec_reader_quoted.f k s i) (true, s, ((s.size - r.length : Nat) : Int))) ∧
 (strL l = none → ∃ p, Ev (fun k => spec_reader_quoted.f k s i) (false, s, p)) := by
 have e2 := up1 (Nat.le_of_lt h.lt) hs
 have := quoted_l0 hs l.length (i + 1) l (Nat.le_refl _) h.tail
 unfold spec_reader_quoted.f
 rw [e2]
 exact this
end

end Go.Proofs.YtlokkefnbffjnaaDoor.J
end
section
namespace Go.Proofs.YtlokkefnbffjnaaDoor.RN
open Go.RowKit Go.Proofs.YtlokkefnbffjnaaDoor.J Go.Proofs.YtlokkefnbffjnaaDoorW.PrintWords Go.Proofs.YtlokkefnbffjnaaDoorW.PrintLast
theorem wrap_up {i : Nat} {n : Nat} (h : i ≤ n) (hn : n ≤ 140737488351232) : wrap64 ((i : Int) + 1) = ((i + 1 : Nat) : Int) := by
 unfold wrap64
 omega
def tk (s : ByteArray) (i : Nat) (c : Int) : Bool := decide (i < s.size ∧ bt s i = c)
def dg (s : ByteArray) (i : Nat) : Bool := decide (i < s.size ∧ 48 ≤ bt s i ∧ bt s i ≤ 57)
def dE (s : ByteArray) (i : Nat) : Nat := if i < s.size then (if dg s i = true then dE s (i + 1) else i) else i
termination_by s.size - i
theorem dE_dg {s : ByteArray} {i : Nat} (h : dg s i = true) : dE s i = dE s (i + 1) := by
 have h' := h
 simp only [dg, decide_eq_true_eq] at h'
 rw [dE, if_pos h'.1, if_pos h]
theorem dE_no {s : ByteArray} {i : Nat} (h : dg s i = false) : dE s i = i := by
 rw [dE]
 split
 ·rw [if_neg (by simp [h])]
 ·rfl
theorem dE_le (s : ByteArray) (d : Nat) : ∀ i, s.size - i = d → i ≤ s.size → i ≤ dE s i ∧ dE s i ≤ s.size := by
 induction d with
 | zero =>
  intro i hd hi
  rw [dE_no (by simp [dg]; omega)]
  omega
 | succ d ih =>
  intro i hd hi
  by_cases h : dg s i = true
  rotate_left
  ·rw [dE_no (by simpa using h)]
   omega
  rw [dE_dg h]
  have := ih (i + 1) (by omega) (by omega)
  omega
theorem dE_bounds {s : ByteArray} {i : Nat} (hi : i ≤ s.size) : i ≤ dE s i ∧ dE s i ≤ s.size := dE_le s _ i rfl hi
theorem dE_more {s : ByteArray} {i : Nat} (_hi : i ≤ s.size) : decide (dE s i > i) = dg s i := by
 by_cases h : dg s i = true
 rotate_left
 ·rw [dE_no (by simpa using h)]
  simp at h
  simp [h]
 have h' := h
 simp only [dg, decide_eq_true_eq] at h'
 rw [dE_dg h, h]
 have := dE_bounds (s := s) (i := i + 1) (by omega)
 simp only [decide_eq_true_eq]
 omega
theorem take_eq {s : ByteArray} {i : Nat} (hs : s.size ≤ 140737488351232) (hi : i ≤ s.size) (c : Int) :
 spec_reader_take.f s (i : Int) c = some (tk s i c, s, ((if tk s i c = true then i + 1 else i : Nat) : Int)) := by
 unfold spec_reader_take.f tk
 by_cases h1 : i < s.size
 rotate_left
 ·rw [if_neg (by omega)]
  simp [h1]
 rw [if_pos (by omega), if_pos (by omega)]
 by_cases h2 : bt s i = c
 rotate_left
 ·rw [if_neg h2]
  simp [h1, h2]
 rw [if_pos h2, wrap_up hi hs]
 simp [h1, h2]
theorem here_eq {s : ByteArray} {i : Nat} : spec_reader_here.f s (i : Int) = some (if i < s.size then bt s i else 0, s, (i : Int)) := by
 unfold spec_reader_here.f
 by_cases h1 : i < s.size
 rotate_left
 ·rw [if_neg (by omega), if_neg h1]
 rw [if_pos (by omega), if_pos (by omega), if_pos h1]
theorem digits_l0 {s : ByteArray} (hs : s.size ≤ 140737488351232) (x3 : Nat) (d : Nat) : ∀ i, s.size - i = d → i ≤ s.size →
 Ev (fun k => spec_reader_digits.l0 k x3 (if i < s.size then bt s i else 0) s i) (decide (((dE s i : Nat) : Int) > x3), s, ((dE s i : Nat) : Int)) := by
 induction d with
 | zero =>
  intro i hd hi
  have hn : ¬ i < s.size := by omega
  have hz : dg s i = false := by simp [dg]; omega
  rw [dE_no hz]
  refine Ev.step (f := fun _ => some (decide (((i : Nat) : Int) > x3), s, ((i : Nat) : Int))) (fun k => ?_) (Ev.now _)
  simp only [spec_reader_digits.l0]
  rw [if_neg hn, if_neg (by omega)]
 | succ d ih =>
  intro i hd hi
  have hlt : i < s.size := by omega
  by_cases h : dg s i = true
  ·have h' := h
   simp only [dg, decide_eq_true_eq] at h'
   rw [dE_dg h]
   refine Ev.step (f := fun k => spec_reader_digits.l0 k x3 (if i + 1 < s.size then bt s ((i + 1 : Nat) : Int) else 0) s ((i + 1 : Nat) : Int)) (fun k => ?_) (ih (i + 1) (by omega) (by omega))
   simp only [spec_reader_digits.l0]
   rw [if_pos hlt, if_pos h'.2.1, if_pos h'.2.2, wrap_up hi hs, here_eq]
   rfl
  have hz : dg s i = false := by simpa using h
  have h' := hz
  simp only [dg, decide_eq_false_iff_not] at h'
  rw [dE_no hz]
  refine Ev.step (f := fun _ => some (decide (((i : Nat) : Int) > x3), s, ((i : Nat) : Int))) (fun k => ?_) (Ev.now _)
  simp only [spec_reader_digits.l0]
  rw [if_pos hlt]
  by_cases h48 : 48 ≤ bt s i
  rotate_left
  ·rw [if_neg h48]
  rw [if_pos h48, if_neg (by omega)]
theorem digits_eq {s : ByteArray} (hs : s.size ≤ 140737488351232) {i : Nat} (hi : i ≤ s.size) :
 Ev (fun k => spec_reader_digits.f k s i) (dg s i, s, ((dE s i : Nat) : Int)) := by
 have h := digits_l0 hs i _ i rfl hi
 refine Ev.congr (f := fun k => spec_reader_digits.l0 k i (if i < s.size then bt s i else 0) s i) (fun k => ?_) ?_
 ·unfold spec_reader_digits.f
  rw [here_eq]
  rfl
 ·have e : decide (((dE s i : Nat) : Int) > (i : Int)) = dg s i := by
   rw [← dE_more hi, Bool.eq_iff_iff, decide_eq_true_eq, decide_eq_true_eq]
   omega
  rw [e] at h
  exact h
def numX (s : ByteArray) (i : Nat) : Bool × Nat :=
  if (tk s i 101 || tk s i 69) = true then (let j := if (tk s (i + 1) 43 || tk s (i + 1) 45) = true then i + 2 else i + 1; (dg s j, dE s j)) else (true, i)
def numF (s : ByteArray) (i : Nat) : Bool × Nat :=
  if tk s i 46 = true then (if dg s (i + 1) = true then numX s (dE s (i + 1)) else (false, i + 1)) else numX s i
def numE (s : ByteArray) (i : Nat) : Bool × Nat :=
  let j := if tk s i 45 = true then i + 1 else i
  if tk s j 48 = true then numF s (j + 1) else if dg s j = true then numF s (dE s j) else (false, j)

theorem tk_lt {s : ByteArray} {i : Nat} {c : Int} (h : tk s i c = true) : i < s.size := by
 simp only [tk, decide_eq_true_eq] at h
 exact h.1
theorem tk_out {s : ByteArray} {i : Nat} {c : Int} (h : ¬ i < s.size) : tk s i c = false := decide_eq_false fun x => h x.1
theorem dg_out {s : ByteArray} {i : Nat} (h : ¬ i < s.size) : dg s i = false := decide_eq_false fun x => h x.1
theorem take_yes {s : ByteArray} {i : Nat} {c : Int} (hs : s.size ≤ 140737488351232) (h : tk s i c = true) : spec_reader_take.f s (i : Int) c = some (true, s, ((i + 1 : Nat) : Int)) := by
 have := tk_lt h
 rw [take_eq hs (by omega), h]
 rfl
theorem take_no {s : ByteArray} {i : Nat} {c : Int} (hs : s.size ≤ 140737488351232) (hi : i ≤ s.size) (h : ¬ tk s i c = true) : spec_reader_take.f s (i : Int) c = some (false, s, (i : Int)) := by
 have h' : tk s i c = false := by simpa using h
 rw [take_eq hs hi, h']
 rfl
theorem Ev_same {α : Type} {g : Nat → Option α} {r r' : α} (h : Ev g r) (e : r = r') : Ev g r' := e ▸ h
theorem number_j2 {s : ByteArray} (hs : s.size ≤ 140737488351232) {i : Nat} (hi : i + 1 ≤ s.size) :
 Ev (fun k => spec_reader_number.j2 k true s ((i + 1 : Nat) : Int)) (let j := if (tk s (i + 1) 43 || tk s (i + 1) 45) = true then i + 2 else i + 1; (dg s j, s, ((dE s j : Nat) : Int))) := by
 have key : ∀ j, j ≤ s.size → Ev (fun k => (spec_reader_digits.f k s (j : Int)).bind fun b => some (b.1, b.2.1, b.2.2)) (dg s j, s, ((dE s j : Nat) : Int)) := fun j hj => Ev.bind (digits_eq hs hj) (Ev.now _)
 by_cases h1 : tk s (i + 1) 43 = true
 ·have hl := tk_lt h1
  refine Ev_same (Ev.step (fun k => ?_) (key (i + 2) hl)) (by simp [h1])
  simp only [spec_reader_number.j2, take_yes hs h1, Option.bind_some, if_true]
 by_cases h2 : tk s (i + 1) 45 = true
 rotate_left
 ·refine Ev_same (Ev.step (fun k => ?_) (key (i + 1) hi)) (by simp [h1, h2])
  simp only [spec_reader_number.j2, take_no hs hi h1, take_no hs hi h2, Option.bind_some, if_true, Bool.false_eq_true, if_false]
 have hl := tk_lt h2
 refine Ev_same (Ev.step (fun k => ?_) (key (i + 2) hl)) (by simp [h2])
 simp only [spec_reader_number.j2, take_no hs hi h1, take_yes hs h2, Option.bind_some, if_true, Bool.false_eq_true, if_false]
theorem number_j1 {s : ByteArray} (hs : s.size ≤ 140737488351232) {i : Nat} (hi : i ≤ s.size) :
 Ev (fun k => spec_reader_number.j1 k false s (i : Int)) ((numX s i).1, s, (((numX s i).2 : Nat) : Int)) := by
 by_cases h1 : tk s i 101 = true
 ·have hl := tk_lt h1
  refine Ev_same (Ev.step (fun k => ?_) (number_j2 hs hl)) (by simp [numX, h1])
  simp only [spec_reader_number.j1, take_yes hs h1, Option.bind_some, if_true, Bool.false_eq_true, if_false]
 by_cases h2 : tk s i 69 = true
 ·have hl := tk_lt h2
  refine Ev_same (Ev.step (fun k => ?_) (number_j2 hs hl)) (by simp [numX, h2])
  simp only [spec_reader_number.j1, take_no hs hi h1, take_yes hs h2, Option.bind_some, Bool.false_eq_true, if_false]
 refine Ev_same (Ev.step (f := fun k => spec_reader_number.j2 k false s (i : Int)) (fun k => ?_) (Ev.step (f := fun _ => some (true, s, (i : Int))) (fun k => ?_) (Ev.now _))) (by simp [numX, h1, h2])
 ·simp only [spec_reader_number.j1, take_no hs hi h1, take_no hs hi h2, Option.bind_some, Bool.false_eq_true, if_false]
 ·simp only [spec_reader_number.j2, Bool.false_eq_true, if_false]
theorem number_j0 {s : ByteArray} (hs : s.size ≤ 140737488351232) {i : Nat} (hi : i ≤ s.size) :
 Ev (fun k => spec_reader_number.j0 k false s (i : Int)) ((numF s i).1, s, (((numF s i).2 : Nat) : Int)) := by
 by_cases h1 : tk s i 46 = true
 rotate_left
 ·refine Ev_same (Ev.step (fun k => ?_) (number_j1 hs hi)) (by simp [numF, h1])
  simp only [spec_reader_number.j0, take_no hs hi h1, Option.bind_some, Bool.false_eq_true, if_false]
 have hl := tk_lt h1
 have hb := dE_bounds (s := s) hl
 have key : Ev (fun k => (spec_reader_digits.f k s ((i + 1 : Nat) : Int)).bind fun b => spec_reader_number.j1 k (!b.1) b.2.1 b.2.2) ((numF s i).1, s, (((numF s i).2 : Nat) : Int)) := by
  refine Ev.bind (digits_eq hs hl) ?_
  by_cases h2 : dg s (i + 1) = true
  ·refine Ev_same (Ev.congr (fun k => ?_) (number_j1 hs hb.2)) (by simp [numF, h1, h2])
   simp only [h2, Bool.not_true]
  have h2' : dg s (i + 1) = false := by simpa using h2
  refine Ev_same (Ev.step (f := fun _ => some (false, s, ((i + 1 : Nat) : Int))) (fun k => ?_) (Ev.now _)) (by simp [numF, h1, h2])
  simp only [spec_reader_number.j1, h2', Bool.not_false, if_true, dE_no h2']
 refine Ev.step (fun k => ?_) key
 simp only [spec_reader_number.j0, take_yes hs h1, Option.bind_some, if_true, Bool.false_eq_true, if_false]
theorem number_eq {s : ByteArray} (hs : s.size ≤ 140737488351232) {i : Nat} (hi : i ≤ s.size) :
 Ev (fun k => spec_reader_number.f k s (i : Int)) ((numE s i).1, s, (((numE s i).2 : Nat) : Int)) := by
 have key : ∀ j, j ≤ s.size → Ev (fun k => (spec_reader_take.f s (j : Int) 48).bind fun b => if b.1 = true then spec_reader_number.j0 k false b.2.1 b.2.2 else (spec_reader_digits.f k b.2.1 b.2.2).bind fun c => spec_reader_number.j0 k (!c.1) c.2.1 c.2.2)
  ((if tk s j 48 = true then numF s (j + 1) else if dg s j = true then numF s (dE s j) else (false, j)).1, s, (((if tk s j 48 = true then numF s (j + 1) else if dg s j = true then numF s (dE s j) else (false, j)).2 : Nat) : Int)) := by
  intro j hj
  by_cases h1 : tk s j 48 = true
  ·refine Ev_same (Ev.congr (fun k => ?_) (number_j0 hs (tk_lt h1))) (by simp [h1])
   simp only [take_yes hs h1, Option.bind_some, if_true]
  have hb := dE_bounds (s := s) hj
  refine Ev.congr (f := fun k => (spec_reader_digits.f k s (j : Int)).bind fun c => spec_reader_number.j0 k (!c.1) c.2.1 c.2.2) (fun k => ?_) (Ev.bind (digits_eq hs hj) ?_)
  ·simp only [take_no hs hj h1, Option.bind_some, Bool.false_eq_true, if_false]
  ·by_cases h2 : dg s j = true
   ·refine Ev_same (Ev.congr (fun k => ?_) (number_j0 hs hb.2)) (by simp [h1, h2])
    simp only [h2, Bool.not_true]
   have h2' : dg s j = false := by simpa using h2
   refine Ev_same (Ev.step (f := fun _ => some (false, s, (j : Int))) (fun k => ?_) (Ev.now _)) (by simp [h1, h2])
   simp only [spec_reader_number.j0, h2', Bool.not_false, if_true, dE_no h2']
 by_cases h0 : tk s i 45 = true
 rotate_left
 ·refine Ev_same (Ev.congr (fun k => ?_) (key i hi)) (by simp [numE, h0])
  unfold spec_reader_number.f
  simp only [take_no hs hi h0, Option.bind_some]
 refine Ev_same (Ev.congr (fun k => ?_) (key (i + 1) (tk_lt h0))) (by simp [numE, h0])
 unfold spec_reader_number.f
 simp only [take_yes hs h0, Option.bind_some]
end Go.Proofs.YtlokkefnbffjnaaDoor.RN
end
section
namespace Go.Proofs.YtlokkefnbffjnaaDoor.J
open Go.RowKit Go.Proofs.YtlokkefnbffjnaaDoor.J Go.Proofs.YtlokkefnbffjnaaDoorW.PrintWords Go.Proofs.YtlokkefnbffjnaaDoorW.PrintLast

def Suf (s : ByteArray) (l : List Int) : Prop := From s (s.size - l.length) l
def P (s : ByteArray) (l : List Int) : Int := ((s.size - l.length : Nat) : Int)
theorem Suf.le {s : ByteArray} {l : List Int} (h : Suf s l) : l.length ≤ s.size := by
 have := From.len h
 omega
theorem Suf.tail {s : ByteArray} {a : Int} {l : List Int} (h : Suf s (a :: l)) : Suf s l := by
 have h1 := h.le
 have := From.tail h
 simp only [List.length_cons] at this h1
 unfold Suf
 rwa [show s.size - l.length = s.size - (l.length + 1) + 1 by omega]
theorem Suf.app {s : ByteArray} {a l : List Int} (h : Suf s (a ++ l)) : Suf s l := by
 induction a with
 | nil => exact h
 | cons x a ih => exact ih (Suf.tail h)
theorem Suf.of {s : ByteArray} {i : Nat} {l : List Int} (h : From s i l) : Suf s l ∧ i = s.size - l.length := by
 have := h.len
 have e : i = s.size - l.length := by omega
 refine ⟨?_, e⟩
 unfold Suf
 rw [← e]
 exact h
theorem Suf.start (s : ByteArray) : Suf s (bytesOf s) := by
 unfold Suf
 rw [bytesOf_length, Nat.sub_self]
 exact From.start s
theorem P_cons {s : ByteArray} {a : Int} {l : List Int} (h : Suf s (a :: l)) : P s l = P s (a :: l) + 1 := by
 have := h.le
 unfold P
 simp only [List.length_cons] at this ⊢
 omega
theorem P_le (s : ByteArray) (l : List Int) : 0 ≤ P s l ∧ P s l ≤ s.size := by unfold P; omega
theorem P_lt {s : ByteArray} {a : Int} {l : List Int} (h : Suf s (a :: l)) : P s (a :: l) < s.size := by
 have := h.le
 unfold P
 simp only [List.length_cons] at this ⊢
 omega
theorem P_nil (s : ByteArray) : P s [] = s.size := by unfold P; simp
theorem Suf.bt {s : ByteArray} {a : Int} {l : List Int} (h : Suf s (a :: l)) : bt s (P s (a :: l)) = a := From.bt h
theorem Suf.skB {s : ByteArray} {l : List Int} (h : Suf s l) : Suf s (skB l) := by
 obtain ⟨b, _, e⟩ := skB_ex l
 rw [e] at h
 exact h.app
theorem Suf.str {s : ByteArray} {l r : List Int} (h : Suf s l) (k : strL l = some r) : Suf s r := by
 obtain ⟨b, _, e⟩ := strL_iff.mp k
 rw [e] at h
 exact Suf.tail h.app
theorem skD_ex : ∀ l, ∃ b, l = b ++ skD l
 | [] => ⟨[], rfl⟩
 | c :: r => by
  unfold skD
  split
  ·obtain ⟨b, e⟩ := skD_ex r
   exact ⟨c :: b, by rw [List.cons_append, ← e]⟩
  ·exact ⟨[], rfl⟩
theorem Suf.skD {s : ByteArray} {l : List Int} (h : Suf s l) : Suf s (skD l) := by
 obtain ⟨b, e⟩ := skD_ex l
 rw [e] at h
 exact h.app
theorem Suf.drop {s : ByteArray} {l : List Int} (h : Suf s l) (n : Nat) : Suf s (l.drop n) := by
 rw [← List.take_append_drop n l] at h
 exact h.app
section
variable {s : ByteArray} (hs : s.size ≤ 140737488351232)
include hs
theorem up_P {a : Int} {l : List Int} (h : Suf s (a :: l)) : wrap64 (P s (a :: l) + 1) = P s l := by
 have := P_le s (a :: l)
 rw [P_cons h, w64 (by omega)]
theorem take_cons {a : Int} {l : List Int} (h : Suf s (a :: l)) (c : Int) : spec_reader_take.f s (P s (a :: l)) c = if a = c then some (true, s, P s l) else some (false, s, P s (a :: l)) := by
 have h1 := P_lt h
 have h2 := P_le s (a :: l)
 unfold spec_reader_take.f
 rw [if_pos (by omega), if_pos (by omega), h.bt, up_P hs h]
omit hs in
theorem take_nil (c : Int) : spec_reader_take.f s (P s []) c = some (false, s, P s []) := by
 unfold spec_reader_take.f
 rw [P_nil, if_neg (by omega)]
omit hs in
theorem here_P {a : Int} {l : List Int} (h : Suf s (a :: l)) : spec_reader_here.f s (P s (a :: l)) = some (a, s, P s (a :: l)) := here_cons h
omit hs in
theorem here_P0 : spec_reader_here.f s (P s []) = some (0, s, P s []) := by
 unfold spec_reader_here.f
 rw [P_nil, if_neg (by omega)]
theorem blanks_eq : ∀ l, Suf s l → Ev (fun k => spec_reader_blanks.f k s (P s l)) (s, P s (skB l))
 | [], _ => by
  refine Ev.step (f := fun _ => some (s, P s [])) (fun k => ?_) (Ev.now _)
  unfold spec_reader_blanks.f
  simp only [spec_reader_blanks.l0]
  rw [P_nil, if_neg (by omega)]
 | c :: l, h => by
  have h1 := P_lt h
  have h2 := P_le s (c :: l)
  have hb : spec_Blank.f c = some (isB c) := by
   unfold spec_Blank.f isB
   by_cases e1 : c = 32
   ·rw [if_pos e1, e1]; rfl
   by_cases e2 : c = 9
   ·rw [if_neg e1, if_pos e2, e2]; rfl
   by_cases e3 : c = 10
   ·rw [if_neg e1, if_neg e2, if_pos e3, e3]; rfl
   rw [if_neg e1, if_neg e2, if_neg e3]
   congr 1
   rw [Bool.eq_iff_iff]
   simp [e1, e2, e3]
  unfold spec_reader_blanks.f
  by_cases e : isB c = true
  ·refine Ev.step (fun k => ?_) (Ev_same (blanks_eq l h.tail) (by rw [skB, if_pos e]))
   simp only [spec_reader_blanks.l0]
   rw [if_pos (by omega), if_pos (by omega), h.bt, hb, Option.bind_some, if_pos e, up_P hs h]
   rfl
  refine Ev.step (f := fun _ => some (s, P s (c :: l))) (fun k => ?_) (Ev_same (Ev.now _) (by rw [skB, if_neg e]))
  simp only [spec_reader_blanks.l0]
  rw [if_pos (by omega), if_pos (by omega), h.bt, hb, Option.bind_some, if_neg e]
theorem quoted_P {a : Int} {l : List Int} (h : Suf s (a :: l)) :
 (∀ r, strL l = some r → Ev (fun k => spec_reader_quoted.f k s (P s (a :: l))) (true, s, P s r)) ∧ (strL l = none → ∃ p, Ev (fun k => spec_reader_quoted.f k s (P s (a :: l))) (false, s, p)) := quoted_eq hs h
theorem word_eq {l : List Int} (h : Suf s l) (w : ByteArray) (hw : w.size ≤ 10) : spec_reader_word.f s (P s l) w = match wordL (bytesOf w) l with
 | some r => some (true, s, P s r)
 | none => some (false, s, P s l) := by
 have h1 := h.le
 have h2 := P_le s l
 have hl : (bytesOf w).length = w.size := bytesOf_length w
 have e0 : wrap64 ((s.size : Int) - P s l) = l.length := by
  unfold P at h2 ⊢
  rw [w64 (by omega)]
  omega
 have e1 : wrap64 (P s l + (w.size : Int)) = ((s.size - l.length + w.size : Nat) : Int) := by
  unfold P at h2 ⊢
  rw [w64 (by omega)]
  omega
 unfold spec_reader_word.f wordL
 rw [e0, e1, hl]
 by_cases e2 : (l.length : Int) < (w.size : Int)
 ·rw [if_pos e2, if_neg]
  intro e
  have := congrArg List.length e
  rw [hl, List.length_take] at this
  omega
 rw [if_neg e2, if_pos (by omega), if_pos (by unfold P; omega), if_pos (by omega)]
 have e3 : bytesOf (s.extract (P s l).toNat ((s.size - l.length + w.size : Nat) : Int).toNat) = l.take w.size := by
  have := h.2
  unfold P
  rw [Int.toNat_natCast, Int.toNat_natCast, bytesOf_extract, List.drop_take, this, Nat.add_sub_cancel_left]
 have e4 : ((s.extract (P s l).toNat ((s.size - l.length + w.size : Nat) : Int).toNat).toList = w.toList) = (l.take w.size = bytesOf w) := by
  apply propext
  constructor
  ·intro e
   rw [← e3, toList_inj e]
  ·intro e
   rw [← e3] at e
   rw [bytesOf_inj e]
 have e5 : ((s.size - l.length + w.size : Nat) : Int) = P s (l.drop w.size) := by
  unfold P
  rw [List.length_drop]
  omega
 by_cases e6 : l.take w.size = bytesOf w
 rotate_left
 ·rw [if_neg (e4 ▸ e6), if_neg e6]
 rw [if_pos (e4 ▸ e6), if_pos e6, e5]
omit hs in
theorem tk_cons {a : Int} {l : List Int} {i : Nat} (h : From s i (a :: l)) (c : Int) : RN.tk s i c = decide (a = c) := by
 unfold RN.tk
 have := h.lt
 rw [h.bt]
 simp [this]
omit hs in
theorem tk_nil {i : Nat} (h : From s i []) (c : Int) : RN.tk s i c = false := RN.tk_out (by have := h.nil; omega)
omit hs in
theorem dg_cons {a : Int} {l : List Int} {i : Nat} (h : From s i (a :: l)) : RN.dg s i = isD a := by
 unfold RN.dg isD
 have := h.lt
 rw [h.bt]
 simp [this]
omit hs in
theorem dg_nil {i : Nat} (h : From s i []) : RN.dg s i = false := RN.dg_out (by have := h.nil; omega)
omit hs in
theorem dE_eq : ∀ (l : List Int) (i : Nat), From s i l → From s (RN.dE s i) (skD l)
 | [], i, h => by rw [RN.dE_no (dg_nil h)]; exact h
 | c :: l, i, h => by
  by_cases e : isD c = true
  rotate_left
  ·rw [RN.dE_no (by rw [dg_cons h]; simpa using e), skD, if_neg e]
   exact h
  rw [RN.dE_dg (by rw [dg_cons h, e]), skD, if_pos e]
  exact dE_eq l (i + 1) h.tail
omit hs in
theorem digs {l : List Int} {i : Nat} (h : From s i l) : (∀ r, digL l = some r → RN.dg s i = true ∧ From s (RN.dE s i) r) ∧ (digL l = none → RN.dg s i = false) := by
 match l, h with
 | [], h => exact ⟨fun r hr => (by simp [digL] at hr), fun _ => dg_nil h⟩
 | c :: l, h =>
  by_cases e : isD c = true
  rotate_left
  ·exact ⟨fun r hr => (by rw [digL, if_neg e] at hr; cases hr), fun _ => (by rw [dg_cons h]; simpa using e)⟩
  refine ⟨fun r hr => ?_, fun hr => (by rw [digL, if_pos e] at hr; cases hr)⟩
  rw [digL, if_pos e] at hr
  cases hr
  have := dE_eq _ _ h
  rw [skD, if_pos e] at this
  exact ⟨by rw [dg_cons h, e], this⟩
omit hs in
theorem expL_other {c : Int} {l : List Int} (e : ¬ (c = 101 ∨ c = 69)) : expL (c :: l) = some (c :: l) := by
 unfold expL
 exact if_neg e
omit hs in
theorem numX_eq {l : List Int} {i : Nat} (h : From s i l) : (∀ r, expL l = some r → (RN.numX s i).1 = true ∧ From s (RN.numX s i).2 r) ∧ (expL l = none → (RN.numX s i).1 = false) := by
 match l, h with
 | [], h =>
  have e : RN.numX s i = (true, i) := by unfold RN.numX; rw [tk_nil h, tk_nil h]; rfl
  rw [e]
  refine ⟨fun r hr => ?_, fun hr => (by simp [expL] at hr)⟩
  simp only [expL, Option.some.injEq] at hr
  subst hr
  exact ⟨rfl, h⟩
 | c :: l, h =>
  by_cases e : c = 101 ∨ c = 69
  rotate_left
  ·have e1 : (RN.tk s i 101 || RN.tk s i 69) = false := by
    rw [tk_cons h, tk_cons h]
    simpa using e
   unfold RN.numX
   rw [if_neg (by rw [e1]; decide)]
   refine ⟨fun r hr => ?_, fun hr => (by rw [expL_other e] at hr; cases hr)⟩
   rw [expL_other e] at hr
   cases hr
   exact ⟨rfl, h⟩
  have e1 : (RN.tk s i 101 || RN.tk s i 69) = true := by
   rw [tk_cons h, tk_cons h]
   simpa using e
  unfold RN.numX
  rw [if_pos e1]
  have h1 := h.tail
  match l, h1 with
  | [], h1 =>
   have e2 : (RN.tk s (i + 1) 43 || RN.tk s (i + 1) 45) = false := by rw [tk_nil h1, tk_nil h1]; rfl
   refine ⟨fun r hr => (by rw [expL, if_pos e] at hr; cases hr), fun _ => ?_⟩
   simp only [e2, Bool.false_eq_true, if_false]
   exact dg_nil h1
  | d :: t, h1 =>
   by_cases e2 : d = 43 ∨ d = 45
   rotate_left
   ·have e3 : (RN.tk s (i + 1) 43 || RN.tk s (i + 1) 45) = false := by
     rw [tk_cons h1, tk_cons h1]
     simpa using e2
    have hd := digs h1
    simp only [e3, Bool.false_eq_true, if_false]
    refine ⟨fun r hr => ?_, fun hr => ?_⟩
    ·simp only [expL, if_pos e, if_neg e2] at hr
     exact hd.1 r hr
    ·simp only [expL, if_pos e, if_neg e2] at hr
     exact hd.2 hr
   have e3 : (RN.tk s (i + 1) 43 || RN.tk s (i + 1) 45) = true := by rw [tk_cons h1, tk_cons h1]; simpa using e2
   have hd := digs h1.tail
   simp only [e3, if_true]
   refine ⟨fun r hr => ?_, fun hr => ?_⟩
   ·rw [expL, if_pos e] at hr
    simp only [if_pos e2] at hr
    exact hd.1 r hr
   ·rw [expL, if_pos e] at hr
    simp only [if_pos e2] at hr
    exact hd.2 hr
omit hs in
theorem numF_eq {l : List Int} {i : Nat} (h : From s i l) : (∀ r, fracL l = some r → (RN.numF s i).1 = true ∧ From s (RN.numF s i).2 r) ∧ (fracL l = none → (RN.numF s i).1 = false) := by
 match l, h with
 | [], h =>
  have e : RN.numF s i = RN.numX s i := by unfold RN.numF; rw [tk_nil h]; rfl
  rw [e]
  exact numX_eq h
 | c :: l, h =>
  by_cases e : c = 46
  rotate_left
  ·have e1 : RN.tk s i 46 = false := by rw [tk_cons h]; simpa using e
   have e3 : RN.numF s i = RN.numX s i := by unfold RN.numF; rw [e1]; rfl
   rw [e3]
   have h3 := numX_eq h
   refine ⟨fun r hr => ?_, fun hr => ?_⟩
   ·rw [fracL, if_neg e] at hr
    exact h3.1 r hr
   ·rw [fracL, if_neg e] at hr
    exact h3.2 hr
  have hd := digs h.tail
  have e1 : RN.tk s i 46 = true := by rw [tk_cons h]; simpa using e
  unfold RN.numF
  rw [if_pos e1]
  cases e2 : digL l with
  | none =>
   rw [if_neg (by rw [hd.2 e2]; decide)]
   exact ⟨fun r hr => (by rw [fracL, if_pos e, e2] at hr; cases hr), fun _ => rfl⟩
  | some t =>
   have h2 := hd.1 t e2
   rw [if_pos h2.1]
   have h3 := numX_eq h2.2
   refine ⟨fun r hr => ?_, fun hr => ?_⟩
   ·rw [fracL, if_pos e, e2] at hr
    exact h3.1 r hr
   ·rw [fracL, if_pos e, e2] at hr
    exact h3.2 hr
omit hs in
theorem intE_eq {l : List Int} {i : Nat} (h : From s i l) :
 (∀ r, intL l = some r → (if RN.tk s i 48 = true then RN.numF s (i + 1) else if RN.dg s i = true then RN.numF s (RN.dE s i) else (false, i)).1 = true ∧ From s (if RN.tk s i 48 = true then RN.numF s (i + 1) else if RN.dg s i = true then RN.numF s (RN.dE s i) else (false, i)).2 r) ∧
 (intL l = none → (if RN.tk s i 48 = true then RN.numF s (i + 1) else if RN.dg s i = true then RN.numF s (RN.dE s i) else (false, i)).1 = false) := by
 match l, h with
 | [], h =>
  rw [if_neg (by rw [tk_nil h]; decide), if_neg (by rw [dg_nil h]; decide)]
  exact ⟨fun r hr => (by simp [intL] at hr), fun _ => rfl⟩
 | c :: l, h =>
  by_cases e : c = 48
  ·rw [if_pos (by rw [tk_cons h]; simpa using e), intL, if_pos e]
   exact numF_eq h.tail
  rw [if_neg (by rw [tk_cons h]; simpa using e), intL, if_neg e]
  by_cases e2 : isD c = true
  rotate_left
  ·have e4 : ¬ RN.dg s i = true := by rw [dg_cons h]; exact e2
   simp only [if_neg e4, if_neg e2]
   exact ⟨fun r hr => (by cases hr), fun _ => trivial⟩
  have h2 := dE_eq _ _ h
  rw [skD, if_pos e2] at h2
  have e4 : RN.dg s i = true := by rw [dg_cons h]; exact e2
  simp only [if_pos e4, if_pos e2]
  exact numF_eq h2
omit hs in
theorem numE_eq {l : List Int} {i : Nat} (h : From s i l) : (∀ r, numL l = some r → (RN.numE s i).1 = true ∧ From s (RN.numE s i).2 r) ∧ (numL l = none → (RN.numE s i).1 = false) := by
 match l, h with
 | [], h =>
  have hd := intE_eq h
  have e : RN.numE s i = (if RN.tk s i 48 = true then RN.numF s (i + 1) else if RN.dg s i = true then RN.numF s (RN.dE s i) else (false, i)) := by
   unfold RN.numE
   have e0 : ¬ RN.tk s i 45 = true := by rw [tk_nil h]; decide
   simp only [if_neg e0]
  rw [e]
  exact ⟨fun r hr => (by simp [numL] at hr), fun _ => hd.2 rfl⟩
 | c :: l, h =>
  by_cases e : c = 45
  rotate_left
  ·have e1 : RN.numE s i = (if RN.tk s i 48 = true then RN.numF s (i + 1) else if RN.dg s i = true then RN.numF s (RN.dE s i) else (false, i)) := by
    unfold RN.numE
    have e0 : ¬ RN.tk s i 45 = true := by rw [tk_cons h]; simpa using e
    simp only [if_neg e0]
   rw [e1, numL, if_neg e]
   exact intE_eq h
  have e1 : RN.numE s i = (if RN.tk s (i + 1) 48 = true then RN.numF s (i + 1 + 1) else if RN.dg s (i + 1) = true then RN.numF s (RN.dE s (i + 1)) else (false, i + 1)) := by
   unfold RN.numE
   have e0 : RN.tk s i 45 = true := by rw [tk_cons h]; simpa using e
   simp only [if_pos e0]
  rw [e1, numL, if_pos e]
  exact intE_eq h.tail
theorem number_P {l : List Int} (h : Suf s l) : (∀ r, numL l = some r → Ev (fun k => spec_reader_number.f k s (P s l)) (true, s, P s r) ∧ Suf s r) ∧ (numL l = none → ∃ p, Ev (fun k => spec_reader_number.f k s (P s l)) (false, s, p)) := by
 have hn := RN.number_eq hs (i := s.size - l.length) (by omega)
 have he := numE_eq h
 refine ⟨fun r hr => ?_, fun hr => ?_⟩
 ·obtain ⟨h1, h2⟩ := he.1 r hr
  rw [h1] at hn
  obtain ⟨h3, h4⟩ := Suf.of h2
  rw [h4] at hn
  exact ⟨hn, h3⟩
 ·rw [he.2 hr] at hn
  exact ⟨_, hn⟩
end
end Go.Proofs.YtlokkefnbffjnaaDoor.J
end
section
namespace Go.Proofs.YtlokkefnbffjnaaDoor.J
open Go.RowKit Go.Proofs.YtlokkefnbffjnaaDoor.J Go.Proofs.YtlokkefnbffjnaaDoorW.PrintWords Go.Proofs.YtlokkefnbffjnaaDoorW.PrintLast
set_option linter.unusedVariables false

theorem Ev_shift {α : Type} {g : Nat → Option α} {r : α} (h : Ev (fun k => g (k + 1)) r) : Ev g r := Ev.step (fun _ => rfl) h
def Quo (s : ByteArray) (b e : Int) : Prop := ∃ t l, Suf s (34 :: (t ++ 34 :: l)) ∧ Body t ∧ b = P s (34 :: (t ++ 34 :: l)) ∧ e = P s l
inductive POK (s : ByteArray) : S38 → Prop
  | mk {p : S38} : 0 ≤ p.f1 → p.f1 ≤ p.f2 → p.f2 ≤ s.size → (p.f0 = 4 → Quo s p.f1 p.f2) → (∀ n ∈ p.f3, Quo s n.f0 n.f1) → (∀ q ∈ p.f4, POK s q) → p.f3.length ≤ s.size → p.f4.length ≤ s.size → POK s p
theorem P_mono {s : ByteArray} {l r : List Int} (h : r.length ≤ l.length) : P s l ≤ P s r := by unfold P; omega
def VA (s : ByteArray) (l : List Int) : Prop :=
  (∀ r, valL l = some r → ∃ p : S38, POK s p ∧ Suf s r ∧ Ev (fun k => spec_reader_value.f k s (P s l)) (p.f0, p.f1, p.f2, p.f3, p.f4, true, s, P s r)) ∧
  (valL l = none → ∃ a b c d e q, Ev (fun k => spec_reader_value.f k s (P s l)) (a, b, c, d, e, false, s, q))
def EA (s : ByteArray) (l : List Int) : Prop := ∀ x4 : List S38, (∀ q ∈ x4, POK s q) → x4.length + l.length ≤ s.size →
  (∀ r, elsL l = some r → ∃ ys, ((∀ q ∈ ys, POK s q) ∧ ys.length ≤ s.size) ∧ Suf s r ∧ Ev (fun k => spec_reader_elements.l0 k x4 s (P s l)) (ys, true, s, P s r)) ∧
  (elsL l = none → ∃ ys q, Ev (fun k => spec_reader_elements.l0 k x4 s (P s l)) (ys, false, s, q))
def MA (s : ByteArray) (l : List Int) : Prop := ∀ (x5 : List S122) (x6 : List S38), (∀ n ∈ x5, Quo s n.f0 n.f1) → (∀ q ∈ x6, POK s q) → x5.length + l.length ≤ s.size → x6.length + l.length ≤ s.size →
  (∀ r, memL l = some r → ∃ ns ys, ((∀ n ∈ ns, Quo s n.f0 n.f1) ∧ ns.length ≤ s.size) ∧ ((∀ q ∈ ys, POK s q) ∧ ys.length ≤ s.size) ∧ Suf s r ∧ Ev (fun k => spec_reader_members.l0 k x5 x6 s (P s l)) (ns, ys, true, s, P s r)) ∧
  (memL l = none → ∃ ns ys q, Ev (fun k => spec_reader_members.l0 k x5 x6 s (P s l)) (ns, ys, false, s, q))
section
variable {s : ByteArray} (hs : s.size ≤ 2147483647)
include hs
theorem els_of {l : List Int} (h : Suf s l) (hv : VA s l) (ih : ∀ u, u.length < l.length → Suf s u → EA s u) : EA s l := by
 intro x4 h4 hn
 have hs' : s.size ≤ 140737488351232 := by omega
 cases e : valL l with
 | none =>
  obtain ⟨a, b, c, d, e', q, hq⟩ := hv.2 e
  refine ⟨fun r hr => (by rw [elsL.eq_def, e] at hr; cases hr), fun _ => ⟨[], q, Ev_shift ?_⟩⟩
  simp only [spec_reader_elements.l0]
  exact Ev.bind hq (Ev.congr (fun _ => if_neg (by simp)) (Ev.now _))
 | some t =>
  obtain ⟨⟨p0, p1, p2, p3, p4⟩, hp, ht, hq⟩ := hv.1 t e
  have hlen := valL_len e
  have e1 : elsL l = (match skB t with
   | [] => none
   | c :: u => if c = 93 then some u else if c = 44 then elsL (skB u) else none) := by
   rw [elsL.eq_def, e]
   simp only [if_pos hlen]
   split <;> rename_i h1 <;> rw [h1]
  have hys : ∀ q ∈ x4 ++ [(⟨p0, p1, p2, p3, p4⟩ : S38)], POK s q := fun q hq => (List.mem_append.mp hq).elim (h4 q) (fun h => by rw [List.mem_singleton.mp h]; exact hp)
  have hb := blanks_eq hs' t ht
  have hbS := ht.skB
  have hbl := skB_len t
  have go : ∀ {R}, Ev (fun k => (spec_reader_take.f s (P s (skB t)) 93).bind fun bt206 => (if bt206.1 = true then (some (x4 ++ [(⟨p0, p1, p2, p3, p4⟩ : S38)], true, bt206.2.1, bt206.2.2)) else ((spec_reader_take.f bt206.2.1 bt206.2.2 44).bind fun bt209 => (if bt209.1 = true then ((spec_reader_blanks.f k bt209.2.1 bt209.2.2).bind fun bt212 => (spec_reader_elements.l0 k (x4 ++ [(⟨p0, p1, p2, p3, p4⟩ : S38)]) bt212.1 bt212.2)) else (some (([] : List S38), false, bt209.2.1, bt209.2.2)))))) R →
   Ev (fun k => spec_reader_elements.l0 k x4 s (P s l)) R := fun {R} hR => by
   refine Ev_shift ?_
   simp only [spec_reader_elements.l0]
   refine Ev.bind hq (Ev.congr (fun _ => if_pos rfl) (Ev.congr (fun _ => if_pos (by omega)) ?_))
   exact Ev.bind (a := x4 ++ [(⟨p0, p1, p2, p3, p4⟩ : S38)]) (Ev.now _) (Ev.bind hb hR)
  rw [e1]
  match h5 : skB t, hbS with
  | [], _ =>
   refine ⟨fun r hr => (by cases hr), fun _ => ⟨[], P s [], go ?_⟩⟩
   rw [h5]
   refine Ev.congr (fun k => ?_) (Ev.now _)
   simp only [take_nil, Option.bind_some, Bool.false_eq_true, if_false]
  | c :: u, hbS =>
   rw [h5] at hbl
   simp only [List.length_cons] at hbl
   by_cases e93 : c = 93
   ·refine ⟨fun r hr => ?_, fun hr => (by simp only [if_pos e93] at hr; cases hr)⟩
    simp only [if_pos e93, Option.some.injEq] at hr
    subst hr
    refine ⟨x4 ++ [(⟨p0, p1, p2, p3, p4⟩ : S38)], ⟨hys, by simp; omega⟩, hbS.tail, go ?_⟩
    rw [h5]
    refine Ev.congr (fun k => ?_) (Ev.now _)
    simp only [take_cons hs' hbS, if_pos e93, Option.bind_some, if_true]
   by_cases e44 : c = 44
   rotate_left
   ·refine ⟨fun r hr => (by simp only [if_neg e93, if_neg e44] at hr; cases hr), fun _ => ⟨[], P s (c :: u), go ?_⟩⟩
    rw [h5]
    refine Ev.congr (fun k => ?_) (Ev.now _)
    simp only [take_cons hs' hbS, if_neg e93, if_neg e44, Option.bind_some, Bool.false_eq_true, if_false]
   have hu := skB_len u
   have hE := ih (skB u) (by omega) hbS.tail.skB (x4 ++ [(⟨p0, p1, p2, p3, p4⟩ : S38)]) hys (by simp; omega)
   have hb2 := blanks_eq hs' u hbS.tail
   have go2 : ∀ {R}, Ev (fun k => spec_reader_elements.l0 k (x4 ++ [(⟨p0, p1, p2, p3, p4⟩ : S38)]) s (P s (skB u))) R → Ev (fun k => spec_reader_elements.l0 k x4 s (P s l)) R := fun {R} hR => by
    refine go ?_
    rw [h5]
    simp only [take_cons hs' hbS, if_neg e93, if_pos e44, Option.bind_some, if_true, Bool.false_eq_true, if_false]
    exact Ev.bind hb2 hR
   simp only [if_neg e93, if_pos e44]
   refine ⟨fun r hr => ?_, fun hr => ?_⟩
   ·obtain ⟨ys, h6, h7, h8⟩ := hE.1 r hr
    exact ⟨ys, h6, h7, go2 h8⟩
   ·obtain ⟨ys, q, h8⟩ := hE.2 hr
    exact ⟨ys, q, go2 h8⟩
theorem mem_of {l : List Int} (h : Suf s l) (hv : ∀ u, u.length < l.length → Suf s u → VA s u) (ih : ∀ u, u.length < l.length → Suf s u → MA s u) : MA s l := by
 intro x5 x6 h5 h6 hn hm
 have hs' : s.size ≤ 140737488351232 := by omega
 have bad : ∀ q, Ev (fun k => spec_reader_members.j1 k x5 x6 (P s l) true s q) ([], [], false, s, q) := fun q => by
  refine Ev_shift ?_
  simp only [spec_reader_members.j1]
  exact Ev.congr (fun _ => if_pos trivial) (Ev.now _)
 match l, h with
 | [], h =>
  refine ⟨fun r hr => (by rw [memL.eq_def] at hr; cases hr), fun _ => ⟨[], [], P s [], Ev_shift ?_⟩⟩
  simp only [spec_reader_members.l0, here_P0, Option.bind_some]
  exact Ev.congr (fun _ => if_neg zq47) (bad _)
 | c :: l, h =>
  by_cases e34 : c = 34
  rotate_left
  ·refine ⟨fun r hr => (by rw [memL.eq_def] at hr; simp only [if_neg e34] at hr; cases hr), fun _ => ⟨[], [], P s (c :: l), Ev_shift ?_⟩⟩
   simp only [spec_reader_members.l0, here_P h, Option.bind_some]
   exact Ev.congr (fun _ => if_neg e34) (bad _)
  subst e34
  have hq := quoted_P hs' h
  have st : ∀ {b q R}, Ev (fun k => spec_reader_quoted.f k s (P s (34 :: l))) (b, s, q) → Ev (fun k => spec_reader_members.j1 k x5 x6 (P s (34 :: l)) (!b) s q) R → Ev (fun k => spec_reader_members.l0 k x5 x6 s (P s (34 :: l))) R := fun {b q R} ha hb => by
   refine Ev_shift ?_
   simp only [spec_reader_members.l0, here_P h, Option.bind_some]
   exact Ev.congr (fun _ => if_pos trivial) (Ev.bind ha hb)
  cases e : strL l with
  | none =>
   obtain ⟨q, hq2⟩ := hq.2 e
   refine ⟨fun r hr => (by rw [memL_bad e] at hr; cases hr), fun _ => ⟨[], [], q, st hq2 (bad _)⟩⟩
  | some t =>
   have hq2 := hq.1 t e
   obtain ⟨b, hB, eB⟩ := strL_iff.mp e
   have ht : Suf s t := h.tail.str e
   have hlen := strL_len _ _ _ (Nat.le_refl _) e
   simp only [List.length_cons] at hn hm hlen
   have hQ : Quo s (P s (34 :: l)) (P s t) := ⟨b, t, by rw [← eB]; exact h, hB, by rw [← eB], rfl⟩
   have hns : ∀ n ∈ x5 ++ [(⟨P s (34 :: l), P s t⟩ : S122)], Quo s n.f0 n.f1 := fun n hn => (List.mem_append.mp hn).elim (h5 n) (fun h => by rw [List.mem_singleton.mp h]; exact hQ)
   have hb := blanks_eq hs' t ht
   have hbS := ht.skB
   have hbl := skB_len t
   have go : ∀ {R}, Ev (fun k => (spec_reader_take.f s (P s (skB t)) 58).bind fun bt152 => (if bt152.1 = true then ((spec_reader_blanks.f k bt152.2.1 bt152.2.2).bind fun bt155 => ((spec_reader_value.f k bt155.1 bt155.2).bind fun bt157 => (if bt157.2.2.2.2.2.1 = true then (if x6.length < 1954687338268 then ((some (x6 ++ [(⟨bt157.1, bt157.2.1, bt157.2.2.1, bt157.2.2.2.1, bt157.2.2.2.2.1⟩ : S38)] : List S38)).bind fun y170 => ((spec_reader_blanks.f k bt157.2.2.2.2.2.2.1 bt157.2.2.2.2.2.2.2).bind fun bt173 => ((spec_reader_take.f bt173.1 bt173.2 125).bind fun bt175 => (if bt175.1 = true then (some (x5 ++ [(⟨P s (34 :: l), P s t⟩ : S122)], y170, true, bt175.2.1, bt175.2.2)) else ((spec_reader_take.f bt175.2.1 bt175.2.2 44).bind fun bt178 => (if bt178.1 = true then ((spec_reader_blanks.f k bt178.2.1 bt178.2.2).bind fun bt181 => (spec_reader_members.l0 k (x5 ++ [(⟨P s (34 :: l), P s t⟩ : S122)]) y170 bt181.1 bt181.2)) else (some (([] : List S122), ([] : List S38), false, bt178.2.1, bt178.2.2)))))))) else (none)) else (some (([] : List S122), ([] : List S38), false, bt157.2.2.2.2.2.2.1, bt157.2.2.2.2.2.2.2))))) else (some (([] : List S122), ([] : List S38), false, bt152.2.1, bt152.2.2)))) R →
    Ev (fun k => spec_reader_members.l0 k x5 x6 s (P s (34 :: l))) R := fun {R} hR => by
    refine st hq2 (Ev_shift ?_)
    simp only [spec_reader_members.j1]
    refine Ev.congr (fun _ => if_neg zq47) (Ev.congr (fun _ => if_pos (by omega)) ?_)
    exact Ev.bind (a := x5 ++ [(⟨P s (34 :: l), P s t⟩ : S122)]) (Ev.now _) (Ev.bind hb hR)
   have e1 : memL (34 :: l) = (match skB t with
    | [] => none
    | d :: u => if d = 58 then (match valL (skB u) with
     | none => none
     | some v => (match skB v with
      | [] => none
      | e :: x => if e = 125 then some x else if e = 44 then memL (skB x) else none)) else none) := by
    rw [memL.eq_def]
    simp only [if_true]
    split
    ·rename_i h0
     rw [h0] at e
     cases e
    ·rename_i t' h0
     rw [h0] at e
     cases e
     split
     ·rename_i h1; rw [h1]
     ·rename_i d u h1
      rw [h1]
      simp only
      split
      ·split
       ·rename_i h2; first | rfl | rw [h2]
       ·rename_i v h2
        first | rw [h2] | skip
        try simp only
        have k1 := valL_len h2
        have k2 := skB_len u
        have k3 := skB_len t
        rw [h1] at k3
        simp only [List.length_cons] at k3
        rw [if_pos (by omega)]
        split <;> rename_i h3 <;> rw [h3]
      ·rfl
   rw [e1]
   match h7 : skB t, hbS with
   | [], _ =>
    refine ⟨fun r hr => (by cases hr), fun _ => ⟨[], [], P s [], go ?_⟩⟩
    rw [h7]
    refine Ev.congr (fun k => ?_) (Ev.now _)
    simp only [take_nil, Option.bind_some, Bool.false_eq_true, if_false]
   | d :: u, hbS =>
    rw [h7] at hbl
    simp only [List.length_cons] at hbl
    by_cases e58 : d = 58
    rotate_left
    ·refine ⟨fun r hr => (by simp only [if_neg e58] at hr; cases hr), fun _ => ⟨[], [], P s (d :: u), go ?_⟩⟩
     rw [h7]
     refine Ev.congr (fun k => ?_) (Ev.now _)
     simp only [take_cons hs' hbS, if_neg e58, Option.bind_some, Bool.false_eq_true, if_false]
    have hu := skB_len u
    have hb2 := blanks_eq hs' u hbS.tail
    have hV := hv (skB u) zq65 hbS.tail.skB
    simp only [if_pos e58]
    cases e3 : valL (skB u) with
    | none =>
     obtain ⟨a1, a2, a3, a4, a5, q, hq3⟩ := hV.2 e3
     refine ⟨fun r hr => (by cases hr), fun _ => ⟨[], [], q, go ?_⟩⟩
     rw [h7]
     simp only [take_cons hs' hbS, if_pos e58, Option.bind_some, if_true]
     exact Ev.bind hb2 (Ev.bind hq3 (Ev.congr (fun _ => if_neg (by simp)) (Ev.now _)))
    | some v =>
     obtain ⟨⟨p0, p1, p2, p3, p4⟩, hp, hvS, hq3⟩ := hV.1 v e3
     have hvl := valL_len e3
     have hb3 := blanks_eq hs' v hvS
     have hb3S := hvS.skB
     have hb3l := skB_len v
     have hys : ∀ q ∈ x6 ++ [(⟨p0, p1, p2, p3, p4⟩ : S38)], POK s q := fun q hq => (List.mem_append.mp hq).elim (h6 q) (fun h => by rw [List.mem_singleton.mp h]; exact hp)
     have go3 : ∀ {R}, Ev (fun k => (spec_reader_take.f s (P s (skB v)) 125).bind fun bt175 => (if bt175.1 = true then (some (x5 ++ [(⟨P s (34 :: l), P s t⟩ : S122)], x6 ++ [(⟨p0, p1, p2, p3, p4⟩ : S38)], true, bt175.2.1, bt175.2.2)) else ((spec_reader_take.f bt175.2.1 bt175.2.2 44).bind fun bt178 => (if bt178.1 = true then ((spec_reader_blanks.f k bt178.2.1 bt178.2.2).bind fun bt181 => (spec_reader_members.l0 k (x5 ++ [(⟨P s (34 :: l), P s t⟩ : S122)]) (x6 ++ [(⟨p0, p1, p2, p3, p4⟩ : S38)]) bt181.1 bt181.2)) else (some (([] : List S122), ([] : List S38), false, bt178.2.1, bt178.2.2)))))) R →
      Ev (fun k => spec_reader_members.l0 k x5 x6 s (P s (34 :: l))) R := fun {R} hR => by
      refine go ?_
      rw [h7]
      simp only [take_cons hs' hbS, if_pos e58, Option.bind_some, if_true]
      refine Ev.bind hb2 (Ev.bind hq3 (Ev.congr (fun _ => if_pos rfl) (Ev.congr (fun _ => if_pos (by omega)) ?_)))
      exact Ev.bind hb3 hR
     simp only
     match h8 : skB v, hb3S with
     | [], _ =>
      refine ⟨fun r hr => (by cases hr), fun _ => ⟨[], [], P s [], go3 ?_⟩⟩
      rw [h8]
      refine Ev.congr (fun k => ?_) (Ev.now _)
      simp only [take_nil, Option.bind_some, Bool.false_eq_true, if_false]
     | e :: x, hb3S =>
      rw [h8] at hb3l
      simp only [List.length_cons] at hb3l
      by_cases e125 : e = 125
      ·refine ⟨fun r hr => ?_, fun hr => (by simp only [if_pos e125] at hr; cases hr)⟩
       simp only [if_pos e125, Option.some.injEq] at hr
       subst hr
       refine ⟨_, _, ⟨hns, by simp; omega⟩, ⟨hys, by simp; omega⟩, hb3S.tail, go3 ?_⟩
       rw [h8]
       refine Ev.congr (fun k => ?_) (Ev.now _)
       simp only [take_cons hs' hb3S, if_pos e125, Option.bind_some, if_true]
      by_cases e44 : e = 44
      rotate_left
      ·refine ⟨fun r hr => (by simp only [if_neg e125, if_neg e44] at hr; cases hr), fun _ => ⟨[], [], P s (e :: x), go3 ?_⟩⟩
       rw [h8]
       refine Ev.congr (fun k => ?_) (Ev.now _)
       simp only [take_cons hs' hb3S, if_neg e125, if_neg e44, Option.bind_some, Bool.false_eq_true, if_false]
      have hx := skB_len x
      have hM := ih (skB x) zq65 hb3S.tail.skB _ _ hns hys (by simp; omega) (by simp; omega)
      have hb4 := blanks_eq hs' x hb3S.tail
      have go4 : ∀ {R}, Ev (fun k => spec_reader_members.l0 k (x5 ++ [(⟨P s (34 :: l), P s t⟩ : S122)]) (x6 ++ [(⟨p0, p1, p2, p3, p4⟩ : S38)]) s (P s (skB x))) R → Ev (fun k => spec_reader_members.l0 k x5 x6 s (P s (34 :: l))) R := fun {R} hR => by
       refine go3 ?_
       rw [h8]
       simp only [take_cons hs' hb3S, if_neg e125, if_pos e44, Option.bind_some, if_true, Bool.false_eq_true, if_false]
       exact Ev.bind hb4 hR
      simp only [if_neg e125, if_pos e44]
      refine ⟨fun r hr => ?_, fun hr => ?_⟩
      ·obtain ⟨ns, ys, k1, k2, k3, k4⟩ := hM.1 r hr
       exact ⟨ns, ys, k1, k2, k3, go4 k4⟩
      ·obtain ⟨ns, ys, q, k4⟩ := hM.2 hr
       exact ⟨ns, ys, q, go4 k4⟩
end
end Go.Proofs.YtlokkefnbffjnaaDoor.J
end
section
namespace Go.Proofs.YtlokkefnbffjnaaDoor.J
open Go.RowKit Go.Proofs.YtlokkefnbffjnaaDoor.J Go.Proofs.YtlokkefnbffjnaaDoorW.PrintWords Go.Proofs.YtlokkefnbffjnaaDoorW.PrintLast
set_option linter.unusedVariables false

theorem wordL_head {w0 : Int} {w : List Int} {c : Int} {r : List Int} (h : c ≠ w0) : wordL (w0 :: w) (c :: r) = none := by
 unfold wordL
 rw [if_neg]
 intro e
 simp only [List.length_cons, List.take_succ_cons, List.cons.injEq] at e
 exact h e.1
theorem nullB : bytesOf (⟨#[110, 117, 108, 108]⟩ : ByteArray) = nullW := by decide
theorem falseB : bytesOf (⟨#[102, 97, 108, 115, 101]⟩ : ByteArray) = falseW := by decide
theorem trueB : bytesOf (⟨#[116, 114, 117, 101]⟩ : ByteArray) = trueW := by decide
theorem wordL_suf {s : ByteArray} {w l r : List Int} (h : Suf s l) (k : wordL w l = some r) : Suf s r := by
 unfold wordL at k
 split at k
 ·cases k
  exact h.drop _
 ·cases k
def wdL (l : List Int) : Option (List Int) :=
  match l with
  | [] => none
  | c :: r => if c = 110 then wordL nullW (c :: r) else if c = 102 then wordL falseW (c :: r) else if c = 116 then wordL trueW (c :: r) else none
section
variable {s : ByteArray} (hs : s.size ≤ 2147483647)
include hs
omit hs in
theorem plain {l r : List Int} (hr : r.length ≤ l.length) {kd : Int} (hk : kd ≠ 4) : POK s ⟨kd, P s l, P s r, [], []⟩ :=
 .mk (P_le s l).1 (P_mono hr) (P_le s r).2 (fun h => absurd h hk) (fun _ h => (by simp at h)) (fun _ h => (by simp at h)) (Nat.zero_le _) (Nat.zero_le _)
theorem words_of {l : List Int} (h : Suf s l) :
 (∀ r, wdL l = some r → ∃ p : S38, POK s p ∧ Suf s r ∧ Ev (fun k => spec_reader_value.j0 k true false s (P s l) 0 (P s l) 0) (p.f0, p.f1, p.f2, p.f3, p.f4, true, s, P s r)) ∧
 (wdL l = none → ∃ a b c d e q, Ev (fun k => spec_reader_value.j0 k true false s (P s l) 0 (P s l) 0) (a, b, c, d, e, false, s, q)) := by
 have hs' : s.size ≤ 140737488351232 := by omega
 have w1 := word_eq hs' h (⟨#[110, 117, 108, 108]⟩ : ByteArray) zq47
 have w2 := word_eq hs' h (⟨#[102, 97, 108, 115, 101]⟩ : ByteArray) zq47
 have w3 := word_eq hs' h (⟨#[116, 114, 117, 101]⟩ : ByteArray) zq47
 rw [nullB] at w1
 rw [falseB] at w2
 rw [trueB] at w3
 have yes : ∀ {kd : Int} {r}, kd ≠ 4 → Suf s r → r.length ≤ l.length → Ev (fun k => spec_reader_value.j0 k true false s (P s l) 0 (P s l) 0) (kd, P s l, P s r, [], [], true, s, P s r) →
  ∃ p : S38, POK s p ∧ Suf s r ∧ Ev (fun k => spec_reader_value.j0 k true false s (P s l) 0 (P s l) 0) (p.f0, p.f1, p.f2, p.f3, p.f4, true, s, P s r) := fun {kd r} hk hS hl hE =>
  ⟨⟨kd, P s l, P s r, [], []⟩, plain hl hk, hS, hE⟩
 have no : wordL nullW l = none → wordL falseW l = none → wordL trueW l = none → ∃ a b c d e q, Ev (fun k => spec_reader_value.j0 k true false s (P s l) 0 (P s l) 0) (a, b, c, d, e, false, s, q) := fun k1 k2 k3 => by
  rw [k1] at w1
  rw [k2] at w2
  rw [k3] at w3
  refine ⟨0, P s l, P s l, [], [], P s l, Ev_shift (Ev.congr (fun k => ?_) (Ev.now _))⟩
  simp only [spec_reader_value.j0, Bool.false_eq_true, if_false, w1, w2, w3, Option.bind_some]
 match l, h with
 | [], h => exact ⟨fun r hr => (by cases hr), fun _ => no rfl rfl rfl⟩
 | c :: r0, h =>
  unfold wdL
  by_cases e1 : c = 110
  ·simp only [if_pos e1]
   have k2 : wordL falseW (c :: r0) = none := wordL_head (by omega)
   have k3 : wordL trueW (c :: r0) = none := wordL_head (by omega)
   refine ⟨fun r hr => ?_, fun hr => no hr k2 k3⟩
   have hl := wordL_len zq47 hr
   rw [hr] at w1
   refine yes (kd := 0) zq47 (wordL_suf h hr) (by omega) (Ev_shift (Ev.congr (fun k => ?_) (Ev.now _)))
   simp only [spec_reader_value.j0, Bool.false_eq_true, if_false, w1, Option.bind_some, if_true]
  have k1 : wordL nullW (c :: r0) = none := wordL_head e1
  simp only [if_neg e1]
  by_cases e2 : c = 102
  ·simp only [if_pos e2]
   have k3 : wordL trueW (c :: r0) = none := wordL_head (by omega)
   refine ⟨fun r hr => ?_, fun hr => no k1 hr k3⟩
   have hl := wordL_len zq47 hr
   rw [k1] at w1
   rw [hr] at w2
   refine yes (kd := 1) zq47 (wordL_suf h hr) (by omega) (Ev_shift (Ev.congr (fun k => ?_) (Ev.now _)))
   simp only [spec_reader_value.j0, Bool.false_eq_true, if_false, w1, w2, Option.bind_some, if_true]
  have k2 : wordL falseW (c :: r0) = none := wordL_head e2
  simp only [if_neg e2]
  by_cases e3 : c = 116
  rotate_left
  ·simp only [if_neg e3]
   exact ⟨fun r hr => (by cases hr), fun _ => no k1 k2 (wordL_head e3)⟩
  simp only [if_pos e3]
  refine ⟨fun r hr => ?_, fun hr => no k1 k2 hr⟩
  have hl := wordL_len zq47 hr
  rw [k1] at w1
  rw [k2] at w2
  rw [hr] at w3
  refine yes (kd := 2) zq47 (wordL_suf h hr) (by omega) (Ev_shift (Ev.congr (fun k => ?_) (Ev.now _)))
  simp only [spec_reader_value.j0, Bool.false_eq_true, if_false, w1, w2, w3, Option.bind_some, if_true]
theorem obj_of {c : Int} {l : List Int} (h : Suf s (c :: l)) (ih : ∀ u, u.length < l.length + 1 → Suf s u → MA s u) :
 (∀ r, objL l = some r → ∃ ns ys, ((∀ n ∈ ns, Quo s n.f0 n.f1) ∧ ns.length ≤ s.size) ∧ ((∀ q ∈ ys, POK s q) ∧ ys.length ≤ s.size) ∧ Suf s r ∧ Ev (fun k => spec_reader_members.f k s (P s (c :: l))) (ns, ys, true, s, P s r)) ∧
 (objL l = none → ∃ ns ys q, Ev (fun k => spec_reader_members.f k s (P s (c :: l))) (ns, ys, false, s, q)) := by
 have hs' : s.size ≤ 140737488351232 := by omega
 have hb := blanks_eq hs' l h.tail
 have hbS := h.tail.skB
 have hbl := skB_len l
 have go : ∀ {R}, Ev (fun k => (spec_reader_take.f s (P s (skB l)) 125).bind fun bt138 => (if bt138.1 = true then (some (([] : List S122), ([] : List S38), true, bt138.2.1, bt138.2.2)) else (spec_reader_members.l0 k ([] : List S122) ([] : List S38) bt138.2.1 bt138.2.2))) R → Ev (fun k => spec_reader_members.f k s (P s (c :: l))) R := fun {R} hR => by
  refine Ev_shift ?_
  simp only [spec_reader_members.f, up_P hs' h]
  exact Ev.bind hb hR
 have e1 : objL l = (match skB l with
  | [] => none
  | c :: r => if c = 125 then some r else memL (c :: r)) := by
  rw [objL.eq_def]
  split <;> rename_i h1 <;> rw [h1]
 rw [e1]
 match h5 : skB l, hbS with
 | [], hbS =>
  rw [h5] at go hbl
  have hM := ih [] (by simp) hbS [] [] (fun _ h => (by simp at h)) (fun _ h => (by simp at h)) (by simp) (by simp)
  refine ⟨fun r hr => (by cases hr), fun _ => ?_⟩
  obtain ⟨ns, ys, q, hq⟩ := hM.2 (by rw [memL.eq_def])
  refine ⟨ns, ys, q, go ?_⟩
  simp only [take_nil, Option.bind_some, Bool.false_eq_true, if_false]
  exact hq
 | d :: u, hbS =>
  rw [h5] at go hbl
  simp only [List.length_cons] at hbl
  by_cases e : d = 125
  ·refine ⟨fun r hr => ?_, fun hr => (by simp only [if_pos e] at hr; cases hr)⟩
   simp only [if_pos e, Option.some.injEq] at hr
   subst hr
   refine ⟨[], [], ⟨fun _ h => (by simp at h), Nat.zero_le _⟩, ⟨fun _ h => (by simp at h), Nat.zero_le _⟩, hbS.tail, go (Ev.congr (fun k => ?_) (Ev.now _))⟩
   simp only [take_cons hs' hbS, if_pos e, Option.bind_some, if_true]
  have hle := hbS.le
  have hM := ih (d :: u) zq65 hbS [] [] (fun _ h => (by simp at h)) (fun _ h => (by simp at h)) (by simpa using hle) (by simpa using hle)
  have go2 : ∀ {R}, Ev (fun k => spec_reader_members.l0 k [] [] s (P s (d :: u))) R → Ev (fun k => spec_reader_members.f k s (P s (c :: l))) R := fun {R} hR => by
   refine go ?_
   simp only [take_cons hs' hbS, if_neg e, Option.bind_some, Bool.false_eq_true, if_false]
   exact hR
  simp only [if_neg e]
  refine ⟨fun r hr => ?_, fun hr => ?_⟩
  ·obtain ⟨ns, ys, k1, k2, k3, k4⟩ := hM.1 r hr
   exact ⟨ns, ys, k1, k2, k3, go2 k4⟩
  ·obtain ⟨ns, ys, q, k4⟩ := hM.2 hr
   exact ⟨ns, ys, q, go2 k4⟩
theorem arr_of {c : Int} {l : List Int} (h : Suf s (c :: l)) (ih : ∀ u, u.length < l.length + 1 → Suf s u → EA s u) :
 (∀ r, arrL l = some r → ∃ ys, ((∀ q ∈ ys, POK s q) ∧ ys.length ≤ s.size) ∧ Suf s r ∧ Ev (fun k => spec_reader_elements.f k s (P s (c :: l))) (ys, true, s, P s r)) ∧
 (arrL l = none → ∃ ys q, Ev (fun k => spec_reader_elements.f k s (P s (c :: l))) (ys, false, s, q)) := by
 have hs' : s.size ≤ 140737488351232 := by omega
 have hb := blanks_eq hs' l h.tail
 have hbS := h.tail.skB
 have hbl := skB_len l
 have go : ∀ {R}, Ev (fun k => (spec_reader_take.f s (P s (skB l)) 93).bind fun bt185 => (if bt185.1 = true then (some (([] : List S38), true, bt185.2.1, bt185.2.2)) else (spec_reader_elements.l0 k ([] : List S38) bt185.2.1 bt185.2.2))) R → Ev (fun k => spec_reader_elements.f k s (P s (c :: l))) R := fun {R} hR => by
  refine Ev_shift ?_
  simp only [spec_reader_elements.f, up_P hs' h]
  exact Ev.bind hb hR
 have e1 : arrL l = (match skB l with
  | [] => none
  | c :: r => if c = 93 then some r else elsL (c :: r)) := by
  rw [arrL.eq_def]
  split <;> rename_i h1 <;> rw [h1]
 rw [e1]
 match h5 : skB l, hbS with
 | [], hbS =>
  rw [h5] at go hbl
  have hM := ih [] (by simp) hbS [] (fun _ h => (by simp at h)) (by simp)
  refine ⟨fun r hr => (by cases hr), fun _ => ?_⟩
  obtain ⟨ys, q, hq⟩ := hM.2 (by rw [elsL.eq_def, valL.eq_def])
  refine ⟨ys, q, go ?_⟩
  simp only [take_nil, Option.bind_some, Bool.false_eq_true, if_false]
  exact hq
 | d :: u, hbS =>
  rw [h5] at go hbl
  simp only [List.length_cons] at hbl
  by_cases e : d = 93
  ·refine ⟨fun r hr => ?_, fun hr => (by simp only [if_pos e] at hr; cases hr)⟩
   simp only [if_pos e, Option.some.injEq] at hr
   subst hr
   refine ⟨[], ⟨fun _ h => (by simp at h), Nat.zero_le _⟩, hbS.tail, go (Ev.congr (fun k => ?_) (Ev.now _))⟩
   simp only [take_cons hs' hbS, if_pos e, Option.bind_some, if_true]
  have hle := hbS.le
  have hM := ih (d :: u) zq65 hbS [] (fun _ h => (by simp at h)) (by simpa using hle)
  have go2 : ∀ {R}, Ev (fun k => spec_reader_elements.l0 k [] s (P s (d :: u))) R → Ev (fun k => spec_reader_elements.f k s (P s (c :: l))) R := fun {R} hR => by
   refine go ?_
   simp only [take_cons hs' hbS, if_neg e, Option.bind_some, Bool.false_eq_true, if_false]
   exact hR
  simp only [if_neg e]
  refine ⟨fun r hr => ?_, fun hr => ?_⟩
  ·obtain ⟨ys, k2, k3, k4⟩ := hM.1 r hr
   exact ⟨ys, k2, k3, go2 k4⟩
  ·obtain ⟨ys, q, k4⟩ := hM.2 hr
   exact ⟨ys, q, go2 k4⟩
theorem val_of {l : List Int} (h : Suf s l) (ihE : ∀ u, u.length < l.length → Suf s u → EA s u) (ihM : ∀ u, u.length < l.length → Suf s u → MA s u) : VA s l := by
 have hs' : s.size ≤ 140737488351232 := by omega
 match l, h with
 | [], h =>
  refine ⟨fun r hr => (by rw [valL.eq_def] at hr; cases hr), fun _ => ?_⟩
  obtain ⟨a, b, c, d, e, q, hq⟩ := (words_of hs h).2 rfl
  refine ⟨a, b, c, d, e, q, Ev_shift ?_⟩
  simp only [spec_reader_value.f, here_P0, Option.bind_some]
  refine Ev.congr (fun k => ?_) hq
  rw [if_neg zq47, if_neg zq47, if_neg zq47, if_neg zq47, if_neg zq47]
 | c :: l, h =>
  have st : ∀ {R}, Ev (fun k => if c = 123 then ((spec_reader_members.f k s (P s (c :: l))).bind fun bt106 => (some (6, P s (c :: l), bt106.2.2.2.2, bt106.1, bt106.2.1, bt106.2.2.1, bt106.2.2.2.1, bt106.2.2.2.2))) else (if c = 91 then ((spec_reader_elements.f k s (P s (c :: l))).bind fun bt115 => (some (5, P s (c :: l), bt115.2.2.2, ([] : List S122), bt115.1, bt115.2.1, bt115.2.2.1, bt115.2.2.2))) else (if c = 34 then ((spec_reader_quoted.f k s (P s (c :: l))).bind fun bt121 => (some (4, P s (c :: l), bt121.2.2, ([] : List S122), ([] : List S38), bt121.1, bt121.2.1, bt121.2.2))) else (if c = 45 then (spec_reader_value.j0 k true true s (P s (c :: l)) 0 (P s (c :: l)) 0) else (if 48 ≤ c then (spec_reader_value.j0 k true (decide (c ≤ 57)) s (P s (c :: l)) 0 (P s (c :: l)) 0) else (spec_reader_value.j0 k true false s (P s (c :: l)) 0 (P s (c :: l)) 0)))))) R →
   Ev (fun k => spec_reader_value.f k s (P s (c :: l))) R := fun {R} hR => by
   refine Ev_shift ?_
   simp only [spec_reader_value.f, here_P h, Option.bind_some]
   exact hR
  have hnum : Ev (fun k => spec_reader_value.j0 k true true s (P s (c :: l)) 0 (P s (c :: l)) 0) = Ev (fun k => (spec_reader_number.f (k - 1) s (P s (c :: l))).bind fun bt124 => (some (3, P s (c :: l), bt124.2.2, ([] : List S122), ([] : List S38), bt124.1, bt124.2.1, bt124.2.2))) := by
   funext R
   apply propext
   constructor
   ·rintro ⟨K, hK⟩
    refine ⟨K + 1, fun k hk => ?_⟩
    obtain ⟨k, rfl⟩ : ∃ m, k = m + 1 := ⟨k - 1, by omega⟩
    have := hK (k + 1) (by omega)
    simpa only [spec_reader_value.j0, if_true, Nat.add_sub_cancel] using this
   ·rintro ⟨K, hK⟩
    refine ⟨K + 1, fun k hk => ?_⟩
    obtain ⟨k, rfl⟩ : ∃ m, k = m + 1 := ⟨k - 1, by omega⟩
    have := hK (k + 1) (by omega)
    simpa only [spec_reader_value.j0, if_true, Nat.add_sub_cancel] using this
  have sh : ∀ {α : Type} {g : Nat → Option α} {R}, Ev g R → Ev (fun k => g (k - 1)) R := by
   rintro α g R ⟨K, hK⟩
   exact ⟨K + 1, fun k hk => hK _ (by omega)⟩
  rw [VA, valL.eq_def]
  simp only
  by_cases e123 : c = 123
  ·have hO := obj_of hs h (fun u hu hS => ihM u (by simpa using hu) hS)
   simp only [if_pos e123]
   refine ⟨fun r hr => ?_, fun hr => ?_⟩
   ·obtain ⟨ns, ys, k1, k2, k3, k4⟩ := hO.1 r hr
    have hl : r.length ≤ (c :: l).length := by
     have := valL_len (l := c :: l) (r := r) (by rw [valL.eq_def]; simp only [if_pos e123]; exact hr)
     omega
    exact ⟨⟨6, P s (c :: l), P s r, ns, ys⟩, .mk (P_le s _).1 (P_mono hl) (P_le s r).2 (fun h => (by simp at h)) k1.1 k2.1 k1.2 k2.2, k3, st (Ev.congr (fun _ => if_pos e123) (Ev.bind k4 (Ev.now _)))⟩
   ·obtain ⟨ns, ys, q, k4⟩ := hO.2 hr
    exact ⟨_, _, _, _, _, _, st (Ev.congr (fun _ => if_pos e123) (Ev.bind k4 (Ev.now _)))⟩
  simp only [if_neg e123]
  by_cases e91 : c = 91
  ·have hO := arr_of hs h (fun u hu hS => ihE u (by simpa using hu) hS)
   simp only [if_pos e91]
   refine ⟨fun r hr => ?_, fun hr => ?_⟩
   ·obtain ⟨ys, k2, k3, k4⟩ := hO.1 r hr
    have hl : r.length ≤ (c :: l).length := by
     have := valL_len (l := c :: l) (r := r) (by rw [valL.eq_def]; simp only [if_neg e123, if_pos e91]; exact hr)
     omega
    exact ⟨⟨5, P s (c :: l), P s r, [], ys⟩, .mk (P_le s _).1 (P_mono hl) (P_le s r).2 (fun h => (by simp at h)) (fun _ h => (by simp at h)) k2.1 (Nat.zero_le _) k2.2, k3, st (Ev.congr (fun _ => by rw [if_neg e123, if_pos e91]) (Ev.bind k4 (Ev.now _)))⟩
   ·obtain ⟨ys, q, k4⟩ := hO.2 hr
    exact ⟨_, _, _, _, _, _, st (Ev.congr (fun _ => by rw [if_neg e123, if_pos e91]) (Ev.bind k4 (Ev.now _)))⟩
  simp only [if_neg e91]
  by_cases e34 : c = 34
  ·subst e34
   have hq := quoted_P hs' h
   simp only [if_true]
   refine ⟨fun r hr => ?_, fun hr => ?_⟩
   ·obtain ⟨b, hB, eB⟩ := strL_iff.mp hr
    have hQ : Quo s (P s (34 :: l)) (P s r) := ⟨b, r, by rw [← eB]; exact h, hB, by rw [← eB], rfl⟩
    have hl := strL_len _ _ _ (Nat.le_refl _) hr
    exact ⟨⟨4, P s (34 :: l), P s r, [], []⟩, .mk (P_le s _).1 (P_mono (by simp; omega)) (P_le s r).2 (fun _ => hQ) (fun _ h => (by simp at h)) (fun _ h => (by simp at h)) (Nat.zero_le _) (Nat.zero_le _), h.tail.str hr, st (Ev.congr (fun _ => by rw [if_neg zq47, if_neg zq47, if_pos rfl]) (Ev.bind (hq.1 r hr) (Ev.now _)))⟩
   ·obtain ⟨q, k4⟩ := hq.2 hr
    exact ⟨_, _, _, _, _, _, st (Ev.congr (fun _ => by rw [if_neg zq47, if_neg zq47, if_pos rfl]) (Ev.bind k4 (Ev.now _)))⟩
  simp only [if_neg e34]
  by_cases eN : c = 45 ∨ isD c = true
  rotate_left
  ·simp only [if_neg eN]
   have st2 : ∀ {R}, Ev (fun k => spec_reader_value.j0 k true false s (P s (c :: l)) 0 (P s (c :: l)) 0) R → Ev (fun k => spec_reader_value.f k s (P s (c :: l))) R := fun {R} hR => by
    refine st (Ev.congr (fun k => ?_) hR)
    have e45 : c ≠ 45 := fun e => eN (.inl e)
    rw [if_neg e123, if_neg e91, if_neg e34, if_neg e45]
    by_cases e48 : 48 ≤ c
    rotate_left
    ·rw [if_neg e48]
    have : ¬ c ≤ 57 := fun e => eN (.inr (by simp [isD, e48, e]))
    rw [if_pos e48, decide_eq_false this]
   have hw := words_of hs h
   refine ⟨fun r hr => ?_, fun hr => ?_⟩
   ·obtain ⟨p, k1, k2, k3⟩ := hw.1 r hr
    exact ⟨p, k1, k2, st2 k3⟩
   ·obtain ⟨a, b, c', d, e, q, k3⟩ := hw.2 hr
    exact ⟨a, b, c', d, e, q, st2 k3⟩
  simp only [if_pos eN]
  have st2 : ∀ {R}, Ev (fun k => spec_reader_value.j0 k true true s (P s (c :: l)) 0 (P s (c :: l)) 0) R → Ev (fun k => spec_reader_value.f k s (P s (c :: l))) R := fun {R} hR => by
   refine st (Ev.congr (fun k => ?_) hR)
   rw [if_neg e123, if_neg e91, if_neg e34]
   by_cases e45 : c = 45
   ·rw [if_pos e45]
   have hd : isD c = true := eN.resolve_left e45
   simp only [isD, decide_eq_true_eq] at hd
   rw [if_neg e45, if_pos hd.1, decide_eq_true hd.2]
  have hn := number_P hs' h
  refine ⟨fun r hr => ?_, fun hr => ?_⟩
  ·obtain ⟨k1, k2⟩ := hn.1 r hr
   have hl := numL_len hr
   refine ⟨⟨3, P s (c :: l), P s r, [], []⟩, plain (by omega) zq47, k2, st2 ?_⟩
   rw [hnum]
   exact Ev.bind (sh k1) (Ev.now _)
  ·obtain ⟨q, k1⟩ := hn.2 hr
   refine ⟨3, P s (c :: l), q, [], [], q, st2 ?_⟩
   rw [hnum]
   exact Ev.bind (sh k1) (Ev.now _)
theorem reader_all : ∀ n : Nat, ∀ l, l.length ≤ n → Suf s l → VA s l ∧ EA s l ∧ MA s l := by
 intro n
 induction n with
 | zero =>
  intro l hl h
  have e := List.length_eq_zero_iff.mp (Nat.le_zero.mp hl)
  subst e
  have hv := val_of hs h (fun u hu _ => (by simp at hu)) (fun u hu _ => (by simp at hu))
  exact ⟨hv, els_of hs h hv (fun u hu _ => (by simp at hu)), mem_of hs h (fun u hu _ => (by simp at hu)) (fun u hu _ => (by simp at hu))⟩
 | succ n ih =>
  intro l hl h
  have hv := val_of hs h (fun u hu hS => (ih u (by omega) hS).2.1) (fun u hu hS => (ih u (by omega) hS).2.2)
  exact ⟨hv, els_of hs h hv (fun u hu hS => (ih u (by omega) hS).2.1), mem_of hs h (fun u hu hS => (ih u (by omega) hS).1) (fun u hu hS => (ih u (by omega) hS).2.2)⟩
end
end Go.Proofs.YtlokkefnbffjnaaDoor.J
end
section
namespace Go.Proofs.YtlokkefnbffjnaaDoor.J
open Go.RowKit Go.Proofs.YtlokkefnbffjnaaDoor.J Go.Proofs.YtlokkefnbffjnaaDoorW.PrintWords Go.Proofs.YtlokkefnbffjnaaDoorW.PrintLast
set_option linter.unusedVariables false
def valF : List Int → Option (List Int)
  | [] => none
  | c :: r => if c = 123 then objL r else if c = 91 then arrL r else if c = 34 then strL r else if c = 116 then wordL trueW (c :: r) else if c = 102 then wordL falseW (c :: r) else if c = 110 then wordL nullW (c :: r) else numV (c :: r)
theorem intV_intL (l : List Int) : intV l = intL l ∨ (intV l = none ∧ ∃ d u, intL l = some (d :: u) ∧ isD d = true) := by
 unfold intV
 by_cases h : zeroD l = true
 rotate_left
 ·rw [if_neg h]
  exact .inl rfl
 rw [if_pos h]
 unfold zeroD at h
 split at h
 ·rename_i c d u
  simp only [Bool.and_eq_true, decide_eq_true_eq] at h
  obtain ⟨rfl, hd⟩ := h
  refine .inr ⟨rfl, d, u, ?_, hd⟩
  unfold isD at hd
  simp only [decide_eq_true_eq] at hd
  rw [intL, if_pos rfl, fracL, if_neg (by omega), expL_other (by omega)]
 ·cases h
theorem valF_valL (l : List Int) : valF l = valL l ∨ (valF l = none ∧ ∃ d u, valL l = some (d :: u) ∧ isD d = true) := by
 match l with
 | [] => left; rw [valL]; rfl
 | c :: r =>
  rw [valL.eq_def]
  simp only [valF]
  by_cases h1 : c = 123
  ·simp only [if_pos h1]; exact .inl trivial
  simp only [if_neg h1]
  by_cases h2 : c = 91
  ·simp only [if_pos h2]; exact .inl trivial
  simp only [if_neg h2]
  by_cases h3 : c = 34
  ·simp only [if_pos h3]; exact .inl trivial
  simp only [if_neg h3]
  by_cases h4 : c = 45
  ·subst h4
   simp only [show ¬ (45 : Int) = 116 by decide, show ¬ (45 : Int) = 102 by decide, show ¬ (45 : Int) = 110 by decide, if_false, true_or, if_true, numV, numL]
   exact intV_intL r
  by_cases h5 : isD c = true
  ·have h5' := h5
   unfold isD at h5'
   simp only [decide_eq_true_eq] at h5'
   rw [if_neg (show ¬ c = 116 by omega), if_neg (show ¬ c = 102 by omega), if_neg (show ¬ c = 110 by omega), if_pos (show c = 45 ∨ isD c = true from .inr h5), numV, numL, if_neg h4, if_neg h4]
   exact intV_intL _
  rw [if_neg (show ¬ (c = 45 ∨ isD c = true) from fun e => e.elim h4 h5)]
  by_cases h6 : c = 116
  ·subst h6
   simp only [show ¬ (116 : Int) = 110 by decide, show ¬ (116 : Int) = 102 by decide, if_true, if_false]
   exact .inl trivial
  by_cases h7 : c = 102
  ·subst h7
   simp only [show ¬ (102 : Int) = 110 by decide, show ¬ (102 : Int) = 116 by decide, if_true, if_false]
   exact .inl trivial
  by_cases h8 : c = 110
  ·subst h8
   simp only [show ¬ (110 : Int) = 102 by decide, show ¬ (110 : Int) = 116 by decide, if_true, if_false]
   exact .inl trivial
  simp only [if_neg h6, if_neg h7, if_neg h8]
  left
  have hz : ¬ zeroD (c :: r) = true := by
   have : ¬ c = 48 := by intro e; subst e; exact h5 zq47
   cases r <;> simp [zeroD, this]
  have h48 : ¬ c = 48 := by intro e; subst e; exact h5 zq47
  rw [numV, if_neg h4, intV, if_neg hz, intL, if_neg h48, if_neg h5]
theorem valF_some {l r : List Int} (h : valF l = some r) : valL l = some r := by
 rcases valF_valL l with e | ⟨e, _⟩
 ·rw [← e, h]
 ·rw [e] at h; cases h
theorem arrL_nil {l : List Int} (h : skB l = []) : arrL l = none := by
 rw [arrL]
 split <;> rename_i e
 ·rfl
 ·rw [h] at e; cases e
theorem arrL_cons {l r : List Int} {c : Int} (h : skB l = c :: r) : arrL l = if c = 93 then some r else elsL (c :: r) := by
 rw [arrL]
 split <;> rename_i e
 ·rw [h] at e; cases e
 ·rw [h] at e; cases e; rfl
theorem objL_nil {l : List Int} (h : skB l = []) : objL l = none := by
 rw [objL]
 split <;> rename_i e
 ·rfl
 ·rw [h] at e; cases e
theorem objL_cons {l r : List Int} {c : Int} (h : skB l = c :: r) : objL l = if c = 125 then some r else memL (c :: r) := by
 rw [objL]
 split <;> rename_i e
 ·rw [h] at e; cases e
 ·rw [h] at e; cases e; rfl
def aftA (t : List Int) : Option (List Int) := match skB t with
  | [] => none
  | c :: u => if c = 93 then some u else if c = 44 then elsL (skB u) else none
theorem aftA_dig {d : Int} {u : List Int} (h : isD d = true) : aftA (d :: u) = none := by
 unfold isD at h
 simp only [decide_eq_true_eq] at h
 unfold aftA
 rw [skB_no (by simp [isB]; omega)]
 simp only
 rw [if_neg (by omega), if_neg (by omega)]
theorem elsL_aft (l : List Int) : elsL l = (valL l).bind aftA := by
 rw [elsL]
 cases h : valL l with
 | none => rfl
 | some t =>
  simp only [Option.bind_some, if_pos (valL_len h)]
  unfold aftA
  split <;> rename_i e <;> simp only [e]
theorem elsL_F (l : List Int) : elsL l = (valF l).bind aftA := by
 rw [elsL_aft]
 rcases valF_valL l with e | ⟨e, d, u, e2, hd⟩
 ·rw [e]
 ·rw [e, e2, Option.bind_some, aftA_dig hd]
  rfl
def aftO (v : List Int) : Option (List Int) := match skB v with
  | [] => none
  | e :: x => if e = 125 then some x else if e = 44 then memL (skB x) else none
theorem aftO_dig {d : Int} {u : List Int} (h : isD d = true) : aftO (d :: u) = none := by
 unfold isD at h
 simp only [decide_eq_true_eq] at h
 unfold aftO
 rw [skB_no (by simp [isB]; omega)]
 simp only
 rw [if_neg (by omega), if_neg (by omega)]
def aftK (t : List Int) : Option (List Int) := match skB t with
  | [] => none
  | d :: u => if d = 58 then (valF (skB u)).bind aftO else none
theorem memL_F (r : List Int) : memL (34 :: r) = (strL r).bind aftK := by
 rw [memL.eq_def]
 simp only [if_true]
 split
 ·rename_i h1
  rw [h1]
  rfl
 ·rename_i t h1
  rw [h1, Option.bind_some]
  have k1 := strL_len _ _ _ (Nat.le_refl _) h1
  unfold aftK
  have k2 := skB_len t
  split
  ·rename_i h2
   simp only [h2]
  ·rename_i d u h2
   rw [h2] at k2
   simp only [List.length_cons] at k2
   simp only [h2]
   by_cases h58 : d = 58
   rotate_left
   ·rw [if_neg h58, if_neg h58]
   rw [if_pos h58, if_pos h58]
   have hV : (match valL (skB u) with
    | none => none
    | some v => if v.length ≤ r.length then (match _h3 : skB v with
     | [] => none
     | e :: x => if e = 125 then some x else if e = 44 then memL (skB x) else none) else none) = (valL (skB u)).bind aftO := by
    cases h3 : valL (skB u) with
    | none => rfl
    | some v =>
     have k3 := valL_len h3
     have k4 := skB_len u
     simp only [Option.bind_some, if_pos (show v.length ≤ r.length by omega)]
     unfold aftO
     split <;> rename_i e <;> simp only [e]
   refine hV.trans ?_
   rcases valF_valL (skB u) with e | ⟨e, d', u', e2, hd⟩
   ·rw [e]
   ·rw [e, e2, Option.bind_some, aftO_dig hd]
    rfl
theorem suf_std {s : ByteArray} {l r : List Int} (h : Suf s l) (hs : stdy false (bytesOf s) = true) : stdy false l = true := by
 have := h.2
 have e : bytesOf s = (bytesOf s).take (s.size - l.length) ++ l := by
  conv => lhs; rw [← List.take_append_drop (s.size - l.length) (bytesOf s)]
  rw [this]
 rw [e] at hs
 exact stdy_app _ _ _ hs
theorem val_std {s : ByteArray} (hs : s.size ≤ 2147483647) {r : List Int} (h : stdy false (bytesOf s) = true) (e : valF (bytesOf s) = some r) : stdy false r = true ∧ r.length < s.size := by
 have h1 := valF_some e
 obtain ⟨p, _, hS, _⟩ := (reader_all hs _ _ (Nat.le_refl _) (Suf.start s)).1.1 r h1
 have := valL_len h1
 rw [bytesOf_length] at this
 exact ⟨suf_std (r := r) hS h, this⟩
theorem skB_std {l : List Int} (h : stdy false l = true) : stdy false (skB l) = true := by
 obtain ⟨b, _, e⟩ := skB_ex l
 rw [e] at h
 exact stdy_app _ _ _ h
theorem scanV {z y : ByteArray} (hz : z.size ≤ 2147483647) : ∀ (l p : List Int), bytesOf z = p ++ l → (anyLow l = false → Ev (fun k => fastjson_validateValue.l0 k z y (z.size : Int) (p.length : Int)) (y, none)) ∧ (anyLow l = true → ∃ q, Ev (fun k => fastjson_validateValue.l0 k z y (z.size : Int) (p.length : Int)) (y, some q)) := by
 intro l
 induction l with
 | nil =>
  intro p hp
  have h1 := sz_of hp
  simp only [List.length_append, List.length_nil] at h1
  refine ⟨fun _ => Ev_sh ?_, fun h => by simp [anyLow] at h⟩
  simp only [fastjson_validateValue.l0]
  exact Ev.congr (fun _ => if_neg (by omega)) (Ev.now _)
 | cons c r ih =>
  intro p hp
  have h1 := sz_of hp
  simp only [List.length_append, List.length_cons] at h1
  have hbt : bt z (p.length : Int) = c := bt_mid hp
  have hw : wrap64 ((p.length : Int) + 1) = (((p ++ [c]).length : Nat) : Int) := by rw [w64 (by omega)]; simp
  have hI := ih (p ++ [c]) (by rw [hp]; simp)
  by_cases hc : c < 32
  ·have e : anyLow (c :: r) = true := by simp [anyLow, hc]
   refine ⟨fun h => (by rw [e] at h; cases h), fun _ => ⟨0, Ev_sh ?_⟩⟩
   simp only [fastjson_validateValue.l0, hbt, errors_New.f, Option.bind_some]
   exact Ev.congr (fun _ => if_pos (by omega)) (Ev.congr (fun _ => if_pos (by omega)) (Ev.congr (fun _ => if_pos (by omega)) (Ev.congr (fun _ => if_pos hc) (Ev.now _))))
  have e : anyLow (c :: r) = anyLow r := by simp [anyLow, hc]
  rw [e]
  refine ⟨fun h => Ev_sh ?_, fun h => ?_⟩
  ·simp only [fastjson_validateValue.l0, hbt, hw]
   exact Ev.congr (fun _ => if_pos (by omega)) (Ev.congr (fun _ => if_pos (by omega)) (Ev.congr (fun _ => if_pos (by omega)) (Ev.congr (fun _ => if_neg hc) (hI.1 h))))
  ·obtain ⟨q, hq⟩ := hI.2 h
   refine ⟨q, Ev_sh ?_⟩
   simp only [fastjson_validateValue.l0, hbt, hw]
   exact Ev.congr (fun _ => if_pos (by omega)) (Ev.congr (fun _ => if_pos (by omega)) (Ev.congr (fun _ => if_pos (by omega)) (Ev.congr (fun _ => if_neg hc) hq)))
theorem scanO {z y : ByteArray} (hz : z.size ≤ 2147483647) {o : Option (List Int)} (hgo : Tl (fun k => (fastjson_skipWS.f k y).bind fun t145 => (if (t145.size : Int) = 0 then (fastjson_validateObject.j3 k t145 true) else (if 0 < (t145.size : Int) then (fastjson_validateObject.j3 k t145 ((bt t145 0) != 58)) else (none)))) o) :
 ∀ (l p : List Int), bytesOf z = p ++ l → Tl (fun k => fastjson_validateObject.l1 k y z (z.size : Int) (p.length : Int)) (if anyLow l = true then none else o) := by
 intro l
 induction l with
 | nil =>
  intro p hp
  have h1 := sz_of hp
  simp only [List.length_append, List.length_nil] at h1
  refine Tl.sh ?_
  simp only [fastjson_validateObject.l1]
  exact Tl.congr (fun _ => if_neg (by omega)) hgo
 | cons c r ih =>
  intro p hp
  have h1 := sz_of hp
  simp only [List.length_append, List.length_cons] at h1
  have hbt : bt z (p.length : Int) = c := bt_mid hp
  have hw : wrap64 ((p.length : Int) + 1) = (((p ++ [c]).length : Nat) : Int) := by rw [w64 (by omega)]; simp
  have hI := ih (p ++ [c]) (by rw [hp]; simp)
  refine Tl.sh ?_
  by_cases hc : c < 32
  rotate_left
  ·have e : anyLow (c :: r) = anyLow r := by simp [anyLow, hc]
   rw [e]
   simp only [fastjson_validateObject.l1, hbt, hw]
   exact Tl.congr (fun _ => if_pos (by omega)) (Tl.congr (fun _ => if_pos (by omega)) (Tl.congr (fun _ => if_pos (by omega)) (Tl.congr (fun _ => if_neg hc) hI)))
  have e : anyLow (c :: r) = true := by simp [anyLow, hc]
  rw [if_pos e]
  simp only [fastjson_validateObject.l1, hbt, errors_New.f, Option.bind_some]
  exact Tl.congr (fun _ => if_pos (by omega)) (Tl.congr (fun _ => if_pos (by omega)) (Tl.congr (fun _ => if_pos (by omega)) (Tl.congr (fun _ => if_pos hc) (Tl.err (fun _ => rfl)))))
theorem ST.str {g : Nat → Option (ByteArray × ByteArray × Option Int)} {l : List Int} (h : ST g (rawL l)) (hs : stdy false l = true) :
 (∀ t, strL l = some t → ∃ z y, anyLow (bytesOf z) = false ∧ z.size ≤ 2147483647 ∧ bytesOf y = t ∧ Ev g (z, y, none)) ∧
 (strL l = none → (∃ z y q, Ev g (z, y, some q)) ∨ ∃ z y, anyLow (bytesOf z) = true ∧ z.size ≤ 2147483647 ∧ Ev g (z, y, none)) := by
 have e := steady_str _ l false (Nat.le_refl _) hs
 simp only [Bool.false_eq_true, if_false] at e
 rw [← e]
 unfold fjS
 unfold ST at h
 cases hr : rawL l with
 | none =>
  rw [hr] at h
  exact ⟨fun t ht => (by cases ht), fun _ => .inl h⟩
 | some x =>
  obtain ⟨raw, tail⟩ := x
  rw [hr] at h
  simp only [Option.bind_some] at h ⊢
  cases hl : lowS false raw with
  | none =>
   rw [hl] at h
   exact ⟨fun t ht => (by cases ht), fun _ => .inl h⟩
  | some b =>
   rw [hl] at h
   obtain ⟨z, y, ⟨h1, h2⟩, h3, h4⟩ := h
   cases b with
   | false => exact ⟨fun t ht => (by cases ht; exact ⟨z, y, h1, h2, h3, h4⟩), fun ht => (by cases ht)⟩
   | true => exact ⟨fun t ht => (by cases ht), fun _ => .inr ⟨z, y, h1, h2, h4⟩⟩
theorem ws_of {s : ByteArray} (hs : s.size ≤ 2147483647) (h : stdy false (bytesOf s) = true) : ∃ t, Ev (fun k => fastjson_skipWS.f k s) t ∧ bytesOf t = skB (bytesOf s) ∧ t.size ≤ s.size ∧ stdy false (bytesOf t) = true := by
 obtain ⟨t, h1, h2⟩ := ws_eq hs
 refine ⟨t, h1, h2, ?_, by rw [h2]; exact skB_std h⟩
 have := skB_len (bytesOf s)
 have h3 := sz_of h2
 rw [bytesOf_length] at this
 omega
theorem Tl.bind {g : Nat → Option ByteArray} {f : Nat → ByteArray → Option (ByteArray × Option Int)} {o : Option (List Int)} {t : ByteArray} (h : Ev g t) (k : Tl (fun k => f k t) o) : Tl (fun k => (g k).bind (f k)) o := by
 cases o with
 | none => obtain ⟨z, q, hz⟩ := k; exact ⟨z, q, Ev.bind h hz⟩
 | some r => obtain ⟨z, hy, hz⟩ := k; exact ⟨z, hy, Ev.bind h hz⟩
theorem Tl.bind2 {g : Nat → Option (ByteArray × Option Int)} {f : Nat → ByteArray × Option Int → Option (ByteArray × Option Int)} {o : Option (List Int)} {t : ByteArray × Option Int} (h : Ev g t) (k : Tl (fun k => f k t) o) : Tl (fun k => (g k).bind (f k)) o := by
 cases o with
 | none => obtain ⟨z, q, hz⟩ := k; exact ⟨z, q, Ev.bind h hz⟩
 | some r => obtain ⟨z, hy, hz⟩ := k; exact ⟨z, hy, Ev.bind h hz⟩
theorem Tl.bind3 {g : Nat → Option (ByteArray × ByteArray × Option Int)} {f : Nat → ByteArray × ByteArray × Option Int → Option (ByteArray × Option Int)} {o : Option (List Int)} {t : ByteArray × ByteArray × Option Int} (h : Ev g t) (k : Tl (fun k => f k t) o) : Tl (fun k => (g k).bind (f k)) o := by
 cases o with
 | none => obtain ⟨z, q, hz⟩ := k; exact ⟨z, q, Ev.bind h hz⟩
 | some r => obtain ⟨z, hy, hz⟩ := k; exact ⟨z, hy, Ev.bind h hz⟩
def OK (n : Nat) (s : ByteArray) : Prop := s.size ≤ n ∧ s.size ≤ 2147483647 ∧ stdy false (bytesOf s) = true
def VV (s : ByteArray) : Prop := Tl (fun k => fastjson_validateValue.f k s) (valF (bytesOf s))
def AV (s : ByteArray) : Prop := Tl (fun k => fastjson_validateArray.f k s) (arrL (bytesOf s))
def OV (s : ByteArray) : Prop := Tl (fun k => fastjson_validateObject.f k s) (objL (bytesOf s))
theorem arr_loop {n : Nat} (hV : ∀ s, OK n s → VV s) : ∀ (m : Nat) (s : ByteArray), OK m s → m ≤ n → Tl (fun k => fastjson_validateArray.l0 k s) (elsL (skB (bytesOf s))) := by
 intro m
 induction m with
 | zero =>
  intro s hs hm
  obtain ⟨h1, h2, h3⟩ := hs
  have e : bytesOf s = [] := List.length_eq_zero_iff.mp (by rw [bytesOf_length]; omega)
  obtain ⟨t, k1, k2, k3, k4⟩ := ws_of h2 h3
  have hv := hV t ⟨by omega, by omega, k4⟩
  unfold VV at hv
  rw [k2, e] at hv
  rw [e]
  obtain ⟨z, q, hz⟩ := hv
  rw [elsL_F]
  refine Tl.sh ?_
  simp only [fastjson_validateArray.l0, errors_New.f, Option.bind_some]
  exact Tl.bind k1 (Tl.bind2 hz (Tl.congr (fun _ => if_neg (by simp)) (Tl.err (fun _ => rfl))))
 | succ m ih =>
  intro s hs hm
  obtain ⟨h1, h2, h3⟩ := hs
  obtain ⟨t, k1, k2, k3, k4⟩ := ws_of h2 h3
  have hv := hV t ⟨by omega, by omega, k4⟩
  rw [← k2, elsL_F]
  unfold VV at hv
  refine Tl.sh ?_
  simp only [fastjson_validateArray.l0, errors_New.f, Option.bind_some]
  cases hr : valF (bytesOf t) with
  | none =>
   rw [hr] at hv
   obtain ⟨z, q, hz⟩ := hv
   exact Tl.bind k1 (Tl.bind2 hz (Tl.congr (fun _ => if_neg (by simp)) (Tl.err (fun _ => rfl))))
  | some r =>
   rw [hr] at hv
   obtain ⟨z, hy, hz⟩ := hv
   obtain ⟨g1, g2⟩ := val_std (by omega) k4 hr
   have hzz := sz_of hy
   obtain ⟨t', j1, j2, j3, j4⟩ := ws_of (s := z) (by omega) (by rw [hy]; exact g1)
   refine Tl.bind k1 (Tl.bind2 hz (Tl.congr (fun _ => if_pos (by simp)) (Tl.bind j1 ?_)))
   rw [Option.bind_some]
   unfold aftA
   rw [← hy, ← j2]
   have hz' := sz_of (s := t') rfl
   match ht : bytesOf t' with
   | [] =>
    rw [ht] at hz'
    simp only [List.length_nil] at hz'
    exact Tl.congr (fun _ => if_pos (by omega)) (Tl.err (fun _ => rfl))
   | c :: u =>
    rw [ht] at hz'
    simp only [List.length_cons] at hz'
    have hb := bt_of ht
    have hcut := cut1 ht
    have hsz := sz_of hcut
    simp only
    rw [hb]
    refine Tl.congr (fun _ => if_neg (by omega)) (Tl.congr (fun _ => if_pos (by omega)) ?_)
    by_cases e1 : c = 44
    ·refine Tl.congr (fun _ => if_pos e1) (Tl.congr (fun _ => if_pos (by omega)) ?_)
     rw [if_neg (show ¬ c = 93 by omega), if_pos e1, ← hcut]
     refine ih (t'.extract 1 t'.size) ⟨by omega, by omega, ?_⟩ (by omega)
     rw [hcut]
     rw [ht] at j4
     exact stdy_app [c] u _ j4
    refine Tl.congr (fun _ => if_neg e1) ?_
    by_cases e2 : c = 93
    rotate_left
    ·refine Tl.congr (fun _ => if_neg e2) ?_
     rw [if_neg e2, if_neg e1]
     exact Tl.err (fun _ => rfl)
    refine Tl.congr (fun _ => if_pos e2) (Tl.congr (fun _ => if_pos (by omega)) ?_)
    rw [if_pos e2]
    exact Tl.ok hcut (fun _ => rfl)
theorem arr_eq {n : Nat} (hV : ∀ s, OK n s → VV s) : ∀ s, OK n s → AV s := by
 intro s hs
 obtain ⟨h1, h2, h3⟩ := hs
 obtain ⟨t, k1, k2, k3, k4⟩ := ws_of h2 h3
 unfold AV
 have hl := arr_loop hV t.size t ⟨Nat.le_refl _, by omega, k4⟩ (by omega)
 rw [k2, skB_skB] at hl
 refine Tl.sh ?_
 simp only [fastjson_validateArray.f, errors_New.f, Option.bind_some]
 refine Tl.bind k1 ?_
 have hz := sz_of k2
 match e : skB (bytesOf s) with
 | [] =>
  rw [e] at hz
  simp only [List.length_nil] at hz
  rw [arrL_nil e]
  exact Tl.congr (fun _ => if_pos (by omega)) (Tl.err (fun _ => rfl))
 | c :: r =>
  rw [e] at hz k2 hl
  simp only [List.length_cons] at hz
  rw [arrL_cons e]
  have hb := bt_of k2
  have hcut := cut1 k2
  rw [hb]
  refine Tl.congr (fun _ => if_neg (by omega)) (Tl.congr (fun _ => if_pos (by omega)) ?_)
  by_cases e1 : c = 93
  rotate_left
  ·refine Tl.congr (fun _ => if_neg e1) ?_
   rw [if_neg e1]
   exact hl
  refine Tl.congr (fun _ => if_pos e1) (Tl.congr (fun _ => if_pos (by omega)) ?_)
  rw [if_pos e1]
  exact Tl.ok hcut (fun _ => rfl)
theorem obj_j3 {n : Nat} (hV : ∀ s, OK n s → VV s) {m : Nat} (ih : ∀ s, OK m s → Tl (fun k => fastjson_validateObject.l0 k s) (memL (skB (bytesOf s)))) {y : ByteArray} (hy : OK (m + 1) y) (hm : m + 1 ≤ n) :
 Tl (fun k => (fastjson_skipWS.f k y).bind fun t145 => (if (t145.size : Int) = 0 then (fastjson_validateObject.j3 k t145 true) else (if 0 < (t145.size : Int) then (fastjson_validateObject.j3 k t145 ((bt t145 0) != 58)) else (none)))) (aftK (bytesOf y)) := by
 obtain ⟨h1, h2, h3⟩ := hy
 obtain ⟨t, k1, k2, k3, k4⟩ := ws_of h2 h3
 refine Tl.bind k1 ?_
 unfold aftK
 rw [← k2]
 have hz := sz_of (s := t) rfl
 match ht : bytesOf t with
 | [] =>
  rw [ht] at hz
  simp only [List.length_nil] at hz
  refine Tl.congr (fun _ => if_pos (by omega)) (Tl.sh ?_)
  simp only [fastjson_validateObject.j3, errors_New.f, Option.bind_some, if_true]
  exact Tl.err (fun _ => rfl)
 | c :: u =>
  rw [ht] at hz
  simp only [List.length_cons] at hz
  have hb := bt_of ht
  have hcut := cut1 ht
  have hsz := sz_of hcut
  simp only
  rw [hb]
  refine Tl.congr (fun _ => if_neg (by omega)) (Tl.congr (fun _ => if_pos (by omega)) (Tl.sh ?_))
  simp only [fastjson_validateObject.j3, errors_New.f, Option.bind_some]
  by_cases e1 : c = 58
  rotate_left
  ·refine Tl.congr (fun _ => if_pos (by simpa using e1)) ?_
   rw [if_neg e1]
   exact Tl.err (fun _ => rfl)
  have e2 : ¬ ((c != 58) = true) := by simp [e1]
  have hu : stdy false u = true := by
   rw [ht] at k4
   exact stdy_app [c] u _ k4
  obtain ⟨t2, q1, q2, q3, q4⟩ := ws_of (s := t.extract 1 t.size) (by omega) (by rw [hcut]; exact hu)
  rw [hcut] at q2
  have hv := hV t2 ⟨by omega, by omega, q4⟩
  unfold VV at hv
  refine Tl.congr (fun _ => if_neg e2) (Tl.congr (fun _ => if_pos (by omega)) (Tl.bind q1 ?_))
  rw [if_pos e1]
  rw [← q2]
  cases hr : valF (bytesOf t2) with
  | none =>
   rw [hr] at hv
   obtain ⟨z, q, hz⟩ := hv
   exact Tl.bind2 hz (Tl.congr (fun _ => if_neg (by simp)) (Tl.err (fun _ => rfl)))
  | some r =>
   rw [hr] at hv
   obtain ⟨z, hzy, hz⟩ := hv
   obtain ⟨g1, g2⟩ := val_std (by omega) q4 hr
   have hzz := sz_of hzy
   obtain ⟨t', j1, j2, j3, j4⟩ := ws_of (s := z) (by omega) (by rw [hzy]; exact g1)
   refine Tl.bind2 hz (Tl.congr (fun _ => if_pos (by simp)) (Tl.bind j1 ?_))
   rw [Option.bind_some]
   unfold aftO
   rw [← hzy, ← j2]
   have hz' := sz_of (s := t') rfl
   match ht : bytesOf t' with
   | [] =>
    rw [ht] at hz'
    simp only [List.length_nil] at hz'
    exact Tl.congr (fun _ => if_pos (by omega)) (Tl.err (fun _ => rfl))
   | c :: u =>
    rw [ht] at hz'
    simp only [List.length_cons] at hz'
    have hb := bt_of ht
    have hcut := cut1 ht
    have hsz := sz_of hcut
    simp only
    rw [hb]
    refine Tl.congr (fun _ => if_neg (by omega)) (Tl.congr (fun _ => if_pos (by omega)) ?_)
    by_cases e1 : c = 44
    ·refine Tl.congr (fun _ => if_pos e1) (Tl.congr (fun _ => if_pos (by omega)) ?_)
     rw [if_neg (show ¬ c = 125 by omega), if_pos e1, ← hcut]
     refine ih (t'.extract 1 t'.size) ⟨by omega, by omega, ?_⟩
     rw [hcut]
     rw [ht] at j4
     exact stdy_app [c] u _ j4
    refine Tl.congr (fun _ => if_neg e1) ?_
    by_cases e2 : c = 125
    rotate_left
    ·refine Tl.congr (fun _ => if_neg e2) ?_
     rw [if_neg e2, if_neg e1]
     exact Tl.err (fun _ => rfl)
    refine Tl.congr (fun _ => if_pos e2) (Tl.congr (fun _ => if_pos (by omega)) ?_)
    rw [if_pos e2]
    exact Tl.ok hcut (fun _ => rfl)
theorem obj_loop {n : Nat} (hV : ∀ s, OK n s → VV s) : ∀ (m : Nat) (s : ByteArray), OK m s → m ≤ n → Tl (fun k => fastjson_validateObject.l0 k s) (memL (skB (bytesOf s))) := by
 intro m
 induction m with
 | zero =>
  intro s hs hm
  obtain ⟨h1, h2, h3⟩ := hs
  have e : bytesOf s = [] := List.length_eq_zero_iff.mp (by rw [bytesOf_length]; omega)
  obtain ⟨t, k1, k2, k3, k4⟩ := ws_of h2 h3
  rw [e]
  show Tl _ (memL [])
  rw [memL.eq_def]
  refine Tl.sh ?_
  simp only [fastjson_validateObject.l0]
  refine Tl.bind k1 (Tl.congr (fun _ => if_pos (by omega)) (Tl.sh ?_))
  simp only [fastjson_validateObject.j1, errors_New.f, Option.bind_some, if_true]
  exact Tl.err (fun _ => rfl)
 | succ m ih =>
  intro s hs hm
  obtain ⟨h1, h2, h3⟩ := hs
  obtain ⟨t, k1, k2, k3, k4⟩ := ws_of h2 h3
  rw [← k2]
  have hz := sz_of (s := t) rfl
  refine Tl.sh ?_
  simp only [fastjson_validateObject.l0]
  refine Tl.bind k1 ?_
  match ht : bytesOf t with
  | [] =>
   rw [ht] at hz
   simp only [List.length_nil] at hz
   rw [memL.eq_def]
   refine Tl.congr (fun _ => if_pos (by omega)) (Tl.sh ?_)
   simp only [fastjson_validateObject.j1, errors_New.f, Option.bind_some, if_true]
   exact Tl.err (fun _ => rfl)
  | c :: u =>
   rw [ht] at hz
   simp only [List.length_cons] at hz
   have hb := bt_of ht
   have hcut := cut1 ht
   have hsz := sz_of hcut
   rw [hb]
   refine Tl.congr (fun _ => if_neg (by omega)) (Tl.congr (fun _ => if_pos (by omega)) (Tl.sh ?_))
   simp only [fastjson_validateObject.j1, errors_New.f, Option.bind_some]
   by_cases e1 : c = 34
   rotate_left
   ·rw [memL_not e1]
    exact Tl.congr (fun _ => if_pos (by simpa using e1)) (Tl.err (fun _ => rfl))
   subst e1
   rw [memL_F]
   have hu : stdy false u = true := by
    rw [ht] at k4
    exact stdy_app [34] u _ k4
   have hk := key_eq (s := t.extract 1 t.size) (by omega)
   rw [hcut] at hk
   obtain ⟨p1, p2⟩ := hk.str hu
   refine Tl.congr (fun _ => if_neg zq47) (Tl.congr (fun _ => if_pos (by omega)) ?_)
   cases hS : strL u with
   | none =>
    rcases p2 hS with ⟨z, y, q, hz⟩ | ⟨z, y, g1, g2, hz⟩
    ·exact Tl.bind3 hz (Tl.congr (fun _ => if_neg (by simp)) (Tl.err (fun _ => rfl)))
    ·refine Tl.bind3 hz (Tl.congr (fun _ => if_pos (by simp)) ?_)
     -- what is behind does not matter
     have hrun : ∀ (l p : List Int), bytesOf z = p ++ l → anyLow l = true → Tl (fun k => fastjson_validateObject.l1 k y z (z.size : Int) (p.length : Int)) none := by
      intro l
      induction l with
      | nil => intro p hp h; simp [anyLow] at h
      | cons c r ihl =>
       intro p hp h
       have h1 := sz_of hp
       simp only [List.length_append, List.length_cons] at h1
       have hbt : bt z (p.length : Int) = c := bt_mid hp
       have hw : wrap64 ((p.length : Int) + 1) = (((p ++ [c]).length : Nat) : Int) := by rw [w64 (by omega)]; simp
       refine Tl.sh ?_
       simp only [fastjson_validateObject.l1, hbt, hw, errors_New.f, Option.bind_some]
       refine Tl.congr (fun _ => if_pos (by omega)) (Tl.congr (fun _ => if_pos (by omega)) (Tl.congr (fun _ => if_pos (by omega)) ?_))
       by_cases hc : c < 32
       ·exact Tl.congr (fun _ => if_pos hc) (Tl.err (fun _ => rfl))
       refine Tl.congr (fun _ => if_neg hc) (ihl (p ++ [c]) (by rw [hp]; simp) ?_)
       simpa [anyLow, hc] using h
     exact hrun (bytesOf z) [] rfl g1
   | some r =>
    obtain ⟨z, y, g1, g2, g3, hz⟩ := p1 r hS
    have hyS : stdy false (bytesOf y) = true := by
     have hsu : Suf (t.extract 1 t.size) r := Suf.str (l := u) (by have := Suf.start (t.extract 1 t.size); rw [hcut] at this; exact this) hS
     rw [g3]
     exact suf_std (r := r) hsu (by rw [hcut]; exact hu)
    have hyl := strL_len _ _ _ (Nat.le_refl _) hS
    have hyz := sz_of g3
    have hgo := obj_j3 hV (m := m) (fun s hs => ih s hs (by omega)) (y := y) ⟨by omega, by omega, hyS⟩ hm
    have h4 := scanO g2 hgo (bytesOf z) [] rfl
    rw [g1, g3] at h4
    simp only [Bool.false_eq_true, if_false] at h4
    exact Tl.bind3 hz (Tl.congr (fun _ => if_pos (by simp)) h4)
theorem obj_eq {n : Nat} (hV : ∀ s, OK n s → VV s) : ∀ s, OK n s → OV s := by
 intro s hs
 obtain ⟨h1, h2, h3⟩ := hs
 obtain ⟨t, k1, k2, k3, k4⟩ := ws_of h2 h3
 unfold OV
 have hl := obj_loop hV t.size t ⟨Nat.le_refl _, by omega, k4⟩ (by omega)
 rw [k2, skB_skB] at hl
 refine Tl.sh ?_
 simp only [fastjson_validateObject.f, errors_New.f, Option.bind_some]
 refine Tl.bind k1 ?_
 have hz := sz_of k2
 match e : skB (bytesOf s) with
 | [] =>
  rw [e] at hz
  simp only [List.length_nil] at hz
  rw [objL_nil e]
  exact Tl.congr (fun _ => if_pos (by omega)) (Tl.err (fun _ => rfl))
 | c :: r =>
  rw [e] at hz k2 hl
  simp only [List.length_cons] at hz
  rw [objL_cons e]
  have hb := bt_of k2
  have hcut := cut1 k2
  rw [hb]
  refine Tl.congr (fun _ => if_neg (by omega)) (Tl.congr (fun _ => if_pos (by omega)) ?_)
  by_cases e1 : c = 125
  rotate_left
  ·refine Tl.congr (fun _ => if_neg e1) ?_
   rw [if_neg e1]
   exact hl
  refine Tl.congr (fun _ => if_pos e1) (Tl.congr (fun _ => if_pos (by omega)) ?_)
  rw [if_pos e1]
  exact Tl.ok hcut (fun _ => rfl)
theorem toList_bytes (x : ByteArray) (wl : List UInt8) : x.toList = wl ↔ bytesOf x = wl.map fun b => (b.toNat : Int) := by
 rw [ByteArray.toList_eq]
 unfold bytesOf
 constructor
 ·intro h; rw [h]
 ·intro h
  have hinj : ∀ a b : UInt8, (a.toNat : Int) = (b.toNat : Int) → a = b := fun a b e => UInt8.toNat_inj.mp (by omega)
  generalize x.data.toList = l at h
  induction l generalizing wl with
  | nil => cases wl with
   | nil => rfl
   | cons b r => simp at h
  | cons a l ih => cases wl with
   | nil => simp at h
   | cons b r =>
    simp only [List.map_cons, List.cons.injEq] at h
    rw [hinj _ _ h.1, ih _ h.2]
theorem word_V {s : ByteArray} (n : Nat) (w : List Int) (wl : List UInt8) (hw : w = wl.map fun b => (b.toNat : Int)) (hn : w.length = n) (hs : s.size ≤ 2147483647) {q1 q2 : Int} :
 Tl (fun k => if (s.size : Int) < (n : Int) then some (s, some q1) else (if 0 ≤ (n : Int) then (if (n : Int) ≤ (s.size : Int) then (if (s.extract 0 n).toList = wl then some (s.extract n s.size, none) else some (s, some q2)) else none) else none)) (wordL w (bytesOf s)) := by
 unfold wordL
 rw [hn]
 by_cases h : s.size < n
 ·have hne : ¬ (bytesOf s).take n = w := by
   intro e
   have := congrArg List.length e
   rw [List.length_take, bytesOf_length] at this
   omega
  refine Tl.congr (fun _ => if_pos (by omega)) ?_
  rw [if_neg hne]
  exact Tl.err (fun _ => rfl)
 refine Tl.congr (fun _ => if_neg (by omega)) (Tl.congr (fun _ => if_pos (by omega)) (Tl.congr (fun _ => if_pos (by omega)) ?_))
 have hiff : ((s.extract 0 n).toList = wl) ↔ ((bytesOf s).take n = w) := by
  rw [toList_bytes, bytesOf_extract, List.drop_zero, hw]
 by_cases e : (bytesOf s).take n = w
 rotate_left
 ·rw [if_neg e]
  exact Tl.congr (fun _ => if_neg (fun h => e (hiff.mp h))) (Tl.err (fun _ => rfl))
 rw [if_pos e]
 exact Tl.congr (fun _ => if_pos (hiff.mpr e)) (Tl.ok (cut_of rfl n _ (Nat.le_refl _)) (fun _ => rfl))
theorem val_eq {n : Nat} (hA : ∀ s, OK n s → AV s) (hO : ∀ s, OK n s → OV s) : ∀ s, OK (n + 1) s → VV s := by
 intro s hs
 obtain ⟨h1, h2, h3⟩ := hs
 unfold VV
 refine Tl.sh ?_
 simp only [fastjson_validateValue.f, errors_New.f, Option.bind_some]
 have hz := sz_of (s := s) rfl
 match ht : bytesOf s with
 | [] =>
  rw [ht] at hz
  simp only [List.length_nil] at hz
  exact Tl.congr (fun _ => if_pos (by omega)) (Tl.err (fun _ => rfl))
 | c :: u =>
  have hb := bt_of ht
  have hcut := cut1 ht
  have hsz := sz_of hcut
  rw [ht] at hz
  simp only [List.length_cons] at hz
  have hu : stdy false u = true := by
   rw [ht] at h3
   exact stdy_app [c] u _ h3
  rw [hb]
  simp only [valF]
  refine Tl.congr (fun _ => if_neg (by omega)) (Tl.congr (fun _ => if_pos (by omega)) ?_)
  by_cases e1 : c = 123
  ·refine Tl.congr (fun _ => if_pos e1) (Tl.congr (fun _ => if_pos (by omega)) ?_)
   rw [if_pos e1]
   have h := hO (s.extract 1 s.size) ⟨by omega, by omega, by rw [hcut]; exact hu⟩
   unfold OV at h
   rw [hcut] at h
   cases ho : objL u with
   | none =>
    rw [ho] at h
    obtain ⟨z, q, hz⟩ := h
    exact Tl.bind2 hz (Tl.congr (fun _ => if_neg (by simp)) (Tl.err (fun _ => rfl)))
   | some r =>
    rw [ho] at h
    obtain ⟨z, hy, hz⟩ := h
    exact Tl.bind2 hz (Tl.congr (fun _ => if_pos (by simp)) (Tl.ok hy (fun _ => rfl)))
  refine Tl.congr (fun _ => if_neg e1) ?_
  rw [if_neg e1]
  by_cases e2 : c = 91
  ·refine Tl.congr (fun _ => if_pos e2) (Tl.congr (fun _ => if_pos (by omega)) ?_)
   rw [if_pos e2]
   have h := hA (s.extract 1 s.size) ⟨by omega, by omega, by rw [hcut]; exact hu⟩
   unfold AV at h
   rw [hcut] at h
   cases ho : arrL u with
   | none =>
    rw [ho] at h
    obtain ⟨z, q, hz⟩ := h
    exact Tl.bind2 hz (Tl.congr (fun _ => if_neg (by simp)) (Tl.err (fun _ => rfl)))
   | some r =>
    rw [ho] at h
    obtain ⟨z, hy, hz⟩ := h
    exact Tl.bind2 hz (Tl.congr (fun _ => if_pos (by simp)) (Tl.ok hy (fun _ => rfl)))
  refine Tl.congr (fun _ => if_neg e2) ?_
  rw [if_neg e2]
  by_cases e3 : c = 34
  ·refine Tl.congr (fun _ => if_pos e3) (Tl.congr (fun _ => if_pos (by omega)) ?_)
   rw [if_pos e3]
   have hk := str_eq (s := s.extract 1 s.size) (by omega)
   rw [hcut] at hk
   obtain ⟨p1, p2⟩ := hk.str hu
   cases hS : strL u with
   | none =>
    rcases p2 hS with ⟨z, y, q, hz⟩ | ⟨z, y, g1, g2, hz⟩
    ·exact Tl.bind3 hz (Tl.congr (fun _ => if_neg (by simp)) (Tl.err (fun _ => rfl)))
    ·obtain ⟨q, hq⟩ := (scanV (y := y) g2 (bytesOf z) [] rfl).2 g1
     exact Tl.bind3 hz (Tl.congr (fun _ => if_pos (by simp)) ⟨_, _, hq⟩)
   | some r =>
    obtain ⟨z, y, g1, g2, g3, hz⟩ := p1 r hS
    have hq := (scanV (y := y) g2 (bytesOf z) [] rfl).1 g1
    exact Tl.bind3 hz (Tl.congr (fun _ => if_pos (by simp)) ⟨_, g3, hq⟩)
  refine Tl.congr (fun _ => if_neg e3) ?_
  rw [if_neg e3]
  by_cases e4 : c = 116
  ·refine Tl.congr (fun _ => if_pos e4) ?_
   rw [if_pos e4, ← ht]
   exact (word_V 4 trueW _ zq47 zq47 h2)
  refine Tl.congr (fun _ => if_neg e4) ?_
  rw [if_neg e4]
  by_cases e5 : c = 102
  ·refine Tl.congr (fun _ => if_pos e5) ?_
   rw [if_pos e5, ← ht]
   exact (word_V 5 falseW _ zq47 zq47 h2)
  refine Tl.congr (fun _ => if_neg e5) ?_
  rw [if_neg e5]
  by_cases e6 : c = 110
  ·refine Tl.congr (fun _ => if_pos e6) ?_
   rw [if_pos e6, ← ht]
   exact (word_V 4 nullW _ zq47 zq47 h2)
  refine Tl.congr (fun _ => if_neg e6) ?_
  rw [if_neg e6]
  have h := num_eq h2 ht
  cases ho : numV (c :: u) with
  | none =>
   rw [ho] at h
   obtain ⟨z, q, hz⟩ := h
   exact Tl.bind2 hz (Tl.congr (fun _ => if_neg (by simp)) (Tl.err (fun _ => rfl)))
  | some r =>
   rw [ho] at h
   obtain ⟨z, hy, hz⟩ := h
   exact Tl.bind2 hz (Tl.congr (fun _ => if_pos (by simp)) (Tl.ok hy (fun _ => rfl)))
theorem val_zero : ∀ s, OK 0 s → VV s := by
 intro s hs
 obtain ⟨h1, h2, h3⟩ := hs
 have e : bytesOf s = [] := List.length_eq_zero_iff.mp (by rw [bytesOf_length]; omega)
 unfold VV
 rw [e]
 refine Tl.sh ?_
 simp only [fastjson_validateValue.f, errors_New.f, Option.bind_some]
 exact Tl.congr (fun _ => if_pos (by omega)) (Tl.err (fun _ => rfl))
theorem all_V : ∀ n : Nat, ∀ s, OK n s → VV s
 | 0 => val_zero
 | n + 1 => val_eq (arr_eq (all_V n)) (obj_eq (all_V n))
theorem steady_loop {s : ByteArray} (hs : s.size ≤ 2147483647) : ∀ (l : List Int) (i : Nat) (b : Bool), From s i l → Ev (fun k => laws_fjSteady.l0 k s b (i : Int)) (stdy b l) := by
 intro l
 induction l with
 | nil =>
  intro i b h
  have := h.nil
  refine Ev_sh ?_
  simp only [laws_fjSteady.l0]
  exact Ev.congr (fun _ => if_neg (by omega)) (Ev.now _)
 | cons c r ih =>
  intro i b h
  have hlt := h.lt
  have hb := h.bt
  have hn := ih (i + 1)
  have hw : wrap64 ((i : Int) + 1) = ((i + 1 : Nat) : Int) := by rw [w64 (by omega)]; omega
  refine Ev_sh ?_
  simp only [laws_fjSteady.l0, hb, hw]
  refine Ev.congr (fun _ => if_pos (by omega)) (Ev.congr (fun _ => if_pos (by omega)) ?_)
  by_cases h1 : c = 34
  ·rw [stdy, if_pos h1]
   exact Ev.congr (fun _ => if_pos h1) (hn false h.tail)
  refine Ev.congr (fun _ => if_neg h1) ?_
  have hj : Ev (fun k => laws_fjSteady.j1 k s b (i : Int) false) (if c < 32 then stdy true r else stdy b r) := by
   refine Ev_sh ?_
   simp only [laws_fjSteady.j1, hb, hw]
   refine Ev.congr (fun _ => if_neg zq47) (Ev.congr (fun _ => if_pos (by omega)) (Ev.congr (fun _ => if_pos (by omega)) ?_))
   by_cases h3 : c < 32
   rotate_left
   ·rw [if_neg h3]
    exact Ev.congr (fun _ => if_neg h3) (hn b h.tail)
   rw [if_pos h3]
   exact Ev.congr (fun _ => if_pos h3) (hn true h.tail)
  rw [stdy, if_neg h1]
  by_cases h2 : c = 92
  rotate_left
  ·rw [if_neg (fun e => h2 e.1)]
   exact Ev.congr (fun _ => if_neg h2) hj
  refine Ev.congr (fun _ => if_pos h2) ?_
  cases b with
  | true =>
   rw [if_pos ⟨h2, rfl⟩]
   refine Ev_sh ?_
   simp only [laws_fjSteady.j1]
   exact Ev.congr (fun _ => if_pos trivial) (Ev.now _)
  | false =>
   rw [if_neg (fun e => (by cases e.2))]
   exact hj
theorem steady_eq {s : ByteArray} (hs : s.size ≤ 2147483647) : Ev (fun k => laws_fjSteady.f k s) (stdy false (bytesOf s)) := steady_loop hs _ 0 false (From.start s)
end Go.Proofs.YtlokkefnbffjnaaDoor.J
end
section
namespace Go.Proofs.YtlokkefnbffjnaaDoor.J
open Go.RowKit Go.Proofs.YtlokkefnbffjnaaDoor.J Go.Proofs.YtlokkefnbffjnaaDoorW.PrintWords Go.Proofs.YtlokkefnbffjnaaDoorW.PrintLast
set_option linter.unusedVariables false

theorem begins_arr {s : ByteArray} (hs : s.size ≤ 2147483647) {l : List Int} (hb : bytesOf s = 91 :: l) :
 (∀ r, arrL l = some r → Suf s r ∧ ∃ ys, Ev (fun k => spec_Begins.f k s) (5, 0, P s r, [], ys, true)) ∧ (arrL l = none → Ev (fun k => spec_Begins.f k s) (0, 0, 0, [], [], false)) := by
 have h0 : Suf s (91 :: l) := by rw [← hb]; exact Suf.start s
 have e0 : P s (91 :: l) = 0 := by
  have := sz_of hb
  unfold P
  omega
 have hA := arr_of hs h0 (fun u hu hS => (reader_all hs u.length u (Nat.le_refl _) hS).2.1)
 have go : ∀ {ys : List S38} {b : Bool} {t : ByteArray} {q : Int}, Ev (fun k => spec_reader_elements.f k s (P s (91 :: l))) (ys, b, t, q) → Ev (fun k => spec_reader_value.f k s 0) (5, 0, q, [], ys, b, t, q) := fun {ys b t q} hR => by
  rw [← e0]
  refine Ev_shift ?_
  simp only [spec_reader_value.f, here_P h0, Option.bind_some]
  exact Ev.congr (fun _ => if_neg zq47) (Ev.congr (fun _ => if_pos zq47) (Ev.bind hR (Ev.now _)))
 refine ⟨fun r hr => ?_, fun hn => ?_⟩
 ·obtain ⟨ys, _, hS, hE⟩ := hA.1 r hr
  refine ⟨hS, ys, ?_⟩
  unfold spec_Begins.f
  exact Ev.bind (go hE) (Ev.congr (fun _ => if_pos rfl) (Ev.congr (fun _ => if_neg (show ¬ (5 : Int) = 3 by decide)) (Ev.now _)))
 ·obtain ⟨ys, q, hE⟩ := hA.2 hn
  unfold spec_Begins.f
  exact Ev.bind (go hE) (Ev.congr (fun _ => if_neg (show ¬ (false = true) by decide)) (Ev.now _))
theorem behind_arr {s : ByteArray} (hs : s.size ≤ 2147483647) {l : List Int} (hb : bytesOf s = 91 :: l) :
 (∀ r, arrL l = some r → ∃ t, bytesOf t = r ∧ Ev (fun k => laws_behind.f k s) (t, true)) ∧ (arrL l = none → ∃ t, Ev (fun k => laws_behind.f k s) (t, false)) := by
 obtain ⟨h1, h2⟩ := begins_arr hs hb
 unfold laws_behind.f
 refine ⟨fun r hr => ?_, fun hn => ?_⟩
 ·obtain ⟨hS, ys, hE⟩ := h1 r hr
  have hle := P_le s r
  refine ⟨s.extract (P s r).toNat s.size, ?_, Ev.bind hE (Ev.congr (fun _ => if_pos rfl) (Ev.congr (fun _ => if_pos hle.1) (Ev.congr (fun _ => if_pos hle.2) (Ev.now _))))⟩
  unfold P
  rw [Int.toNat_natCast]
  exact From.cut hS
 ·exact ⟨_, Ev.bind (h2 hn) (Ev.congr (fun _ => if_neg zq47) (Ev.now _))⟩
theorem check_arr {s : ByteArray} (hs : s.size ≤ 2147483647) (h : stdy false (bytesOf s) = true) :
 (∀ r, arrL (bytesOf s) = some r → ∃ t, bytesOf t = r ∧ Ev (fun k => impl_FjCheckArray.f k s) (t, true)) ∧ (arrL (bytesOf s) = none → ∃ t, Ev (fun k => impl_FjCheckArray.f k s) (t, false)) := by
 have hv := arr_eq (all_V s.size) s ⟨Nat.le_refl _, hs, h⟩
 unfold AV at hv
 unfold impl_FjCheckArray.f fastjson_DoorCheckArray.f
 cases e : arrL (bytesOf s) with
 | none =>
  rw [e] at hv
  obtain ⟨z, q, hz⟩ := hv
  exact ⟨fun r hr => (by cases hr), fun _ => ⟨_, Ev.bind (Ev.bind hz (Ev.now _)) (Ev.congr (fun _ => if_neg (by simp)) (Ev.now _))⟩⟩
 | some r =>
  rw [e] at hv
  obtain ⟨z, hy, hz⟩ := hv
  exact ⟨fun r hr => (by cases hr; exact ⟨z, hy, Ev.bind (Ev.bind hz (Ev.now _)) (Ev.congr (fun _ => if_pos (by simp)) (Ev.now _))⟩), fun hn => (by cases hn)⟩
end Go.Proofs.YtlokkefnbffjnaaDoor.J
namespace Go.Proofs.YtlokkefnbffjnaaDoor.Pure
open Go.RowKit Go.Proofs.YtlokkefnbffjnaaDoor.J Go.Proofs.YtlokkefnbffjnaaDoor.J Go.Proofs.YtlokkefnbffjnaaDoorW.PrintWords Go.Proofs.YtlokkefnbffjnaaDoorW.PrintLast
theorem FnFjCheckArray : laws_FnFjCheckArray.Pure := by
 intro s hsz
 have go : Ev (fun k => laws_FnFjCheckArray.f k s) true := by
  unfold laws_FnFjCheckArray.f
  by_cases h0 : (s.size : Int) > 2147483647
  ·exact Ev.congr (fun _ => if_pos h0) (Ev.now _)
  refine Ev.congr (fun _ => if_neg h0) ?_
  have hs : s.size ≤ 2147483647 := by omega
  have jt : Ev (fun k => laws_FnFjCheckArray.j0 k s true) true := by
   refine Ev_sh ?_
   simp only [laws_FnFjCheckArray.j0, if_true]
   exact Ev.now _
  by_cases h1 : (s.size : Int) > 4000
  ·exact Ev.congr (fun _ => if_pos h1) jt
  refine Ev.congr (fun _ => if_neg h1) (Ev.bind (steady_eq hs) ?_)
  cases hst : stdy false (bytesOf s) with
  | false => exact jt
  | true =>
   refine Ev_sh ?_
   simp only [laws_FnFjCheckArray.j0, Bool.not_true, Bool.false_eq_true, if_false]
   have hb : bytesOf ((⟨#[91]⟩ : ByteArray) ++ s) = 91 :: bytesOf s := by
    unfold bytesOf
    rw [ByteArray.data_append, Array.toList_append, List.map_append]
    rfl
   have hbz : ((⟨#[91]⟩ : ByteArray) ++ s).size ≤ 2147483647 := by
    have := sz_of hb
    rw [List.length_cons, bytesOf_length] at this
    omega
   have hone : ∃ t, Ev (fun k => impl_FjCheckArray.f k (⟨#[93]⟩ : ByteArray)) (t, true) := by
    obtain ⟨t, _, ht⟩ := (check_arr (s := (⟨#[93]⟩ : ByteArray)) zq47 zq47).1 [] (by rw [arrL_cons (c := 93) (r := []) zq47]; rfl)
    exact ⟨t, ht⟩
   obtain ⟨t0, hone⟩ := hone
   obtain ⟨b1, b2⟩ := behind_arr hbz hb
   obtain ⟨c1, c2⟩ := check_arr hs hst
   refine Ev.congr (fun _ => if_pos (by omega)) ?_
   cases e : arrL (bytesOf s) with
   | none =>
    obtain ⟨t1, g1⟩ := b2 e
    obtain ⟨t2, g2⟩ := c2 e
    exact Ev.bind g1 (Ev.bind g2 (Ev.bind hone (Ev.congr (fun _ => if_pos rfl) (Ev.congr (fun _ => if_pos rfl) (Ev.congr (fun _ => if_neg (show ¬ (false = true) by decide)) (Ev.now _))))))
   | some r =>
    obtain ⟨t1, k1, g1⟩ := b1 r e
    obtain ⟨t2, k2, g2⟩ := c1 r e
    have : t1 = t2 := bytesOf_inj (k1.trans k2.symm)
    subst this
    refine Ev.bind g1 (Ev.bind g2 (Ev.bind hone (Ev.congr (fun _ => if_pos rfl) (Ev.congr (fun _ => if_pos rfl) (Ev.congr (fun _ => if_pos rfl) ?_)))))
    simp only [beq_self_eq_true]
    exact Ev.now _
 exact go.rounds
end Go.Proofs.YtlokkefnbffjnaaDoor.Pure
end
