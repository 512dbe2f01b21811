/- The words, walks and laws that the proof rests on, laid together (part 3). -/
import Derived.Test.YtlokkefnbffjnaaDoorKFnFjCheckArray2
section
namespace Go.Proofs.YtlokkefnbffjnaaDoor.J
open Go.RowKit Go.Proofs.YtlokkefnbffjnaaDoorW.PrintWords Go.Proofs.YtlokkefnbffjnaaDoorW.PrintLast Go.Proofs.YtlokkefnbffjnaaDoorW.PrintMore
attribute [local go_sem] max2_int min2_int max_two min_two max_three min_three max_four min_four
set_option linter.unusedVariables false
set_option linter.unusedSimpArgs false
attribute [-simp] ByteArray.size_extract
def spec_Begins.f (k : Nat) (a0 : ByteArray) : Option (Int × Int × Int × (List (S122)) × (List (S38)) × Bool) :=
  (spec_reader_value.f k a0 0).bind fun v => (if v.2.2.2.2.2.1 = true then (if v.1 = 3 then (if 0 ≤ (wrap64 (v.2.2.1 - 1)) then (if (wrap64 (v.2.2.1 - 1)) < (a0.size : Int) then (if (bt a0 (wrap64 (v.2.2.1 - 1))) = 48 then (if v.2.2.1 = 1 then (if v.2.2.1 < (a0.size : Int) then (if 0 ≤ v.2.2.1 then (if 48 ≤ bt a0 v.2.2.1 then (if bt a0 v.2.2.1 ≤ 57 then (some (0, 0, 0, [], [], false)) else (some (v.1, v.2.1, v.2.2.1, v.2.2.2.1, v.2.2.2.2.1, true))) else (some (v.1, v.2.1, v.2.2.1, v.2.2.2.1, v.2.2.2.2.1, true))) else (none)) else (some (v.1, v.2.1, v.2.2.1, v.2.2.2.1, v.2.2.2.2.1, true))) else (if v.2.2.1 = 2 then (if 0 < (a0.size : Int) then (if (bt a0 0) = 45 then (if v.2.2.1 < (a0.size : Int) then (if 0 ≤ v.2.2.1 then (if 48 ≤ bt a0 v.2.2.1 then (if bt a0 v.2.2.1 ≤ 57 then (some (0, 0, 0, [], [], false)) else (some (v.1, v.2.1, v.2.2.1, v.2.2.2.1, v.2.2.2.2.1, true))) else (some (v.1, v.2.1, v.2.2.1, v.2.2.2.1, v.2.2.2.2.1, true))) else (none)) else (some (v.1, v.2.1, v.2.2.1, v.2.2.2.1, v.2.2.2.2.1, true))) else (some (v.1, v.2.1, v.2.2.1, v.2.2.2.1, v.2.2.2.2.1, true))) else (none)) else (some (v.1, v.2.1, v.2.2.1, v.2.2.2.1, v.2.2.2.2.1, true)))) else (some (v.1, v.2.1, v.2.2.1, v.2.2.2.1, v.2.2.2.2.1, true))) else (none)) else (none)) else (some (v.1, v.2.1, v.2.2.1, v.2.2.2.1, v.2.2.2.2.1, true))) else (some (0, 0, 0, [], [], false)))
theorem spec_Begins.mono : ∀ a0 k, LeO (spec_Begins.f k a0) (spec_Begins.f (k + 1) a0) := fun a0 k => LeO.bind (spec_reader_value.mono _ _ k) (fun _ => LeO.refl _)
theorem Begins_R_keep {α : Type} {d : Kd α} {e : Nat} {w w1 : World} {base : Nat} {ok : Nat → Prop} {v : Value} {xs : List α} (h : d.R e w base ok v xs) {g : Nat} (hk : KeepBut w w1 g none) (hg : g < base) : d.R e w1 base ok v xs :=
 Kd.R_mono (Kd.R_move (Kd.R_bound h) (fun k hk' => hk.2 k hk'.2.2.1 (by omega) (by simp))) (fun _ hk => hk.1)
set_option maxHeartbeats 8000000 in
set_option maxRecDepth 100000 in
theorem spec_Begins.calls (k : Nat) (a0 : ByteArray) (r1 r2 r3 : Int) (r4 : List (S122)) (r5 : List (S38)) (r6 : Bool) (w : World) (h : spec_Begins.f k a0 = some (r1, r2, r3, r4, r5, r6)) :
 Calls Tryd.prog 42 #[.string a0] w fun e w' => ∃ v3_ v4_ : Value, e = .returned (.tuple #[.agg #[.int .i64 r1, .int .i64 r2, .int .i64 r3, v3_, v4_], .bool r6]) ∧ Kd.R k122 122 w' w.heap.size (fun _ => True) v3_ r4 ∧ Kd.R k38 38 w' w.heap.size (fun k_ => some k_ ≠ (v3_ : Value).ownBlock) v4_ r5 ∧ Below w.heap.size w w' := by
 unfold spec_Begins.f at h
 replace h := Option.bind_eq_some_iff.mp h
 obtain ⟨⟨t1, t2, t3, t4, t5, ok, s2, at2⟩, A2, h⟩ := h
 have B2 := mk0 A2
 have HR := mk0 h
 clear A2 h
 go_enter Tryd.func42, Tryd.ntmps42
 go_wp2_with fail
 refine (spec_reader_value.calls k (w.heap.size + 1) a0 0 t1 t2 t3 t4 t5 ok s2 at2 w _ ?i1 ?b1 B2.out).mono ?_
 case i1 =>
  have := IsS52.new w (w.alloc (.cells #[.int .i64 0, .int .i64 0, .int .i64 0, .slice none 0 0, .slice none 0 0] 38)) a0 0 (below_alloc (Below.refl _ _) _)
  simpa using this
 case b1 => exact below_alloc (below_alloc (Below.refl _ _) _) _
 rintro e w2 ⟨v3, v4, rfl, hv3, hv4, hI, hB, hK⟩
 obtain ⟨i3, ho3⟩ := Kd.R_own hv3
 obtain ⟨A3, c3, e3⟩ := own_slice ho3
 subst e3
 obtain ⟨i4, ho4⟩ := Kd.R_own hv4
 obtain ⟨A4, c4, e4⟩ := own_slice ho4
 subst e4
 clear ho3 ho4
 have hl : w.heap.size + 1 < w2.heap.size := hI.lt
 have hZ2 : w2.heap[w.heap.size]? = some (.cells #[.int .i64 0, .int .i64 0, .int .i64 0, .slice none 0 0, .slice none 0 0] 38 (0, 0)) := KeepBut.blk hK (blk_alloc (blk_new w _) _) (by omega) (by simp)
 have HB2 := mk0 hB
 have HZ2 := mk0 hZ2
 have HP2 := mk0 (blk_new w2 (.cells #[.int .i64 t1, .int .i64 t2, .int .i64 t3, .slice A3 t4.length c3, .slice A4 t5.length c4] 38 (0, 0)))
 have HV3 := mk0 hv3
 have HV4 := mk0 hv4
 have HL := mk0 hl
 have HL0 : Aside0 (w.heap.size < ((w.alloc (.cells #[.int .i64 0, .int .i64 0, .int .i64 0, .slice none 0 0, .slice none 0 0] 38)).alloc (.cells #[.string a0, .int .i64 0] 52)).heap.size) := mk0 (by simp; try omega)
 have HL1 : Aside0 (w.heap.size ≤ ((w.alloc (.cells #[.int .i64 0, .int .i64 0, .int .i64 0, .slice none 0 0, .slice none 0 0] 38)).alloc (.cells #[.string a0, .int .i64 0] 52)).heap.size) := mk0 (by simp; try omega)
 clear hI hB hK hZ2 hv3 hv4 hl
 have HR1 := HR.out
 clear HR
 cases ok with
 | false =>
  rw [if_neg zq47] at HR1
  simp only [Option.some.injEq, Prod.mk.injEq] at HR1
  obtain ⟨rfl, rfl, rfl, rfl, rfl, rfl⟩ := HR1
  go_wp2_with (((with_reducible refine gate_store (t := 38) (p := 2) rfl ?_); refine box_store (g := w.heap.size) (new := #[.int .i64 0, .int .i64 0, .int .i64 0, .slice none 0 0, .slice none 0 0]) rfl rfl rfl rfl rfl (blk_alloc HZ2.out _) rfl zq24 zq61 ?_; intro w3 hz3 hk3 hb3; have HZ3 := mk0 hz3; have HB3 := mk0 (hb3 w.heap.size (Nat.le_refl _)); clear hz3 hk3 hb3))
  refine bodyPost_ret (results_ct rfl _ _ w.heap.size 38 #[.int .i64 0, .int .i64 0, .int .i64 0, .slice none 0 0, .slice none 0 0] (0, 0) _ rfl HZ3.out Tryd.underlying38 rfl zq24) rfl ?_
  exact ⟨_, _, rfl, Kd.R_nil _ _ _ _ _, Kd.R_nil _ _ _ _ _, (below_alloc HB2.out _).trans HB3.out⟩
 | true =>
  rw [if_pos rfl] at HR1
  by_cases c1 : t1 = 3
  rotate_left
  ·rw [if_neg c1] at HR1
   have c1b0 : (t1 == 3) = false := beq_eq_false_iff_ne.mpr c1
   clear c1
   simp only [Option.some.injEq, Prod.mk.injEq] at HR1
   obtain ⟨rfl, rfl, rfl, rfl, rfl, rfl⟩ := HR1
   have hx1 := bt_at a0 (wrap64 (t3 - 1))
   have hx2 := bt_at a0 t3
   have hx3 : ∀ h : 0 < a0.size, ((a0[0]'h).toNat : Int) = bt a0 0 := bt_at a0 0
   go_wp2_with (first | ((with_reducible refine gate_dst (N := 65) rfl ?_); refine wpList_load_row rfl 38 _ rfl w2.heap.size rfl 38 _ (0, 0) _ HP2.out Tryd.underlying38 rfl zq24 ?_) | ((with_reducible refine gate_store (t := 38) (p := 2) rfl ?_); refine box_store (g := w.heap.size) (new := #[.int .i64 t1, .int .i64 t2, .int .i64 t3, .slice A3 t4.length c3, .slice A4 t5.length c4]) rfl rfl rfl rfl rfl (blk_alloc HZ2.out _) rfl zq24 zq61 ?_; intro w4 hz4 hk4 hb4; have HZ4 := mk0 hz4; have HK4 := mk0 hk4; have HB4 := mk0 (hb4 w.heap.size (Nat.le_refl _)); clear hz4 hk4 hb4))
   refine bodyPost_ret (results_ct rfl _ _ w.heap.size 38 #[.int .i64 t1, .int .i64 t2, .int .i64 t3, .slice A3 t4.length c3, .slice A4 t5.length c4] (0, 0) _ rfl HZ4.out Tryd.underlying38 rfl zq24) rfl ?_
   exact ⟨_, _, rfl, Kd.R_lower (Begins_R_keep (Kd.R_alloc HV3.out _) HK4.out HL0.out) HL1.out, Kd.R_lower (Begins_R_keep (Kd.R_alloc HV4.out _) HK4.out HL0.out) HL1.out, (below_alloc HB2.out _).trans HB4.out⟩
  rw [if_pos c1] at HR1
  have c1b0 : (t1 == 3) = true := beq_iff_eq.mpr c1
  clear c1
  by_cases c2 : 0 ≤ (wrap64 (t3 - 1))
  rotate_left
  ·rw [if_neg c2] at HR1
   skip
   exact absurd HR1 (by simp)
  rw [if_pos c2] at HR1
  have c2b0 : 0 ≤ (wrap64 (t3 - 1)) := c2
  clear c2
  by_cases c3 : (wrap64 (t3 - 1)) < (a0.size : Int)
  rotate_left
  ·rw [if_neg c3] at HR1
   skip
   exact absurd HR1 (by simp)
  rw [if_pos c3] at HR1
  have c3b0 : (wrap64 (t3 - 1)) < (a0.size : Int) := c3
  clear c3
  by_cases c4 : (bt a0 (wrap64 (t3 - 1))) = 48
  rotate_left
  ·rw [if_neg c4] at HR1
   have c4b0 : ((bt a0 (wrap64 (t3 - 1))) == 48) = false := beq_eq_false_iff_ne.mpr c4
   clear c4
   simp only [Option.some.injEq, Prod.mk.injEq] at HR1
   obtain ⟨rfl, rfl, rfl, rfl, rfl, rfl⟩ := HR1
   have hx1 := bt_at a0 (wrap64 (t3 - 1))
   have hx2 := bt_at a0 t3
   have hx3 : ∀ h : 0 < a0.size, ((a0[0]'h).toNat : Int) = bt a0 0 := bt_at a0 0
   go_wp2_with (first | ((with_reducible refine gate_dst (N := 65) rfl ?_); refine wpList_load_row rfl 38 _ rfl w2.heap.size rfl 38 _ (0, 0) _ HP2.out Tryd.underlying38 rfl zq24 ?_) | ((with_reducible refine gate_store (t := 38) (p := 2) rfl ?_); refine box_store (g := w.heap.size) (new := #[.int .i64 t1, .int .i64 t2, .int .i64 t3, .slice A3 t4.length c3, .slice A4 t5.length c4]) rfl rfl rfl rfl rfl (blk_alloc HZ2.out _) rfl zq24 zq61 ?_; intro w4 hz4 hk4 hb4; have HZ4 := mk0 hz4; have HK4 := mk0 hk4; have HB4 := mk0 (hb4 w.heap.size (Nat.le_refl _)); clear hz4 hk4 hb4))
   refine bodyPost_ret (results_ct rfl _ _ w.heap.size 38 #[.int .i64 t1, .int .i64 t2, .int .i64 t3, .slice A3 t4.length c3, .slice A4 t5.length c4] (0, 0) _ rfl HZ4.out Tryd.underlying38 rfl zq24) rfl ?_
   exact ⟨_, _, rfl, Kd.R_lower (Begins_R_keep (Kd.R_alloc HV3.out _) HK4.out HL0.out) HL1.out, Kd.R_lower (Begins_R_keep (Kd.R_alloc HV4.out _) HK4.out HL0.out) HL1.out, (below_alloc HB2.out _).trans HB4.out⟩
  rw [if_pos c4] at HR1
  have c4b0 : ((bt a0 (wrap64 (t3 - 1))) == 48) = true := beq_iff_eq.mpr c4
  clear c4
  by_cases c5 : t3 = 1
  ·rw [if_pos c5] at HR1
   have c5b0 : (t3 == 1) = true := beq_iff_eq.mpr c5
   clear c5
   by_cases c6 : t3 < (a0.size : Int)
   rotate_left
   ·rw [if_neg c6] at HR1
    have c6b0 : decide (t3 < (a0.size : Int)) = false := decide_eq_false c6
    clear c6
    simp only [Option.some.injEq, Prod.mk.injEq] at HR1
    obtain ⟨rfl, rfl, rfl, rfl, rfl, rfl⟩ := HR1
    have hx1 := bt_at a0 (wrap64 (t3 - 1))
    have hx2 := bt_at a0 t3
    have hx3 : ∀ h : 0 < a0.size, ((a0[0]'h).toNat : Int) = bt a0 0 := bt_at a0 0
    go_wp2_with (first | ((with_reducible refine gate_dst (N := 65) rfl ?_); refine wpList_load_row rfl 38 _ rfl w2.heap.size rfl 38 _ (0, 0) _ HP2.out Tryd.underlying38 rfl zq24 ?_) | ((with_reducible refine gate_store (t := 38) (p := 2) rfl ?_); refine box_store (g := w.heap.size) (new := #[.int .i64 t1, .int .i64 t2, .int .i64 t3, .slice A3 t4.length c3, .slice A4 t5.length c4]) rfl rfl rfl rfl rfl (blk_alloc HZ2.out _) rfl zq24 zq61 ?_; intro w4 hz4 hk4 hb4; have HZ4 := mk0 hz4; have HK4 := mk0 hk4; have HB4 := mk0 (hb4 w.heap.size (Nat.le_refl _)); clear hz4 hk4 hb4))
    refine bodyPost_ret (results_ct rfl _ _ w.heap.size 38 #[.int .i64 t1, .int .i64 t2, .int .i64 t3, .slice A3 t4.length c3, .slice A4 t5.length c4] (0, 0) _ rfl HZ4.out Tryd.underlying38 rfl zq24) rfl ?_
    exact ⟨_, _, rfl, Kd.R_lower (Begins_R_keep (Kd.R_alloc HV3.out _) HK4.out HL0.out) HL1.out, Kd.R_lower (Begins_R_keep (Kd.R_alloc HV4.out _) HK4.out HL0.out) HL1.out, (below_alloc HB2.out _).trans HB4.out⟩
   rw [if_pos c6] at HR1
   have c6b0 : decide (t3 < (a0.size : Int)) = true := decide_eq_true c6
   have c6b1 := eq_true c6
   have c6b2 := c6
   clear c6
   by_cases c7 : 0 ≤ t3
   rotate_left
   ·rw [if_neg c7] at HR1
    skip
    exact absurd HR1 (by simp)
   rw [if_pos c7] at HR1
   have c7b0 : 0 ≤ t3 := c7
   clear c7
   by_cases c8 : 48 ≤ bt a0 t3
   rotate_left
   ·rw [if_neg c8] at HR1
    have c8b0 : decide (48 ≤ bt a0 t3) = false := decide_eq_false c8
    clear c8
    simp only [Option.some.injEq, Prod.mk.injEq] at HR1
    obtain ⟨rfl, rfl, rfl, rfl, rfl, rfl⟩ := HR1
    have hx1 := bt_at a0 (wrap64 (t3 - 1))
    have hx2 := bt_at a0 t3
    have hx3 : ∀ h : 0 < a0.size, ((a0[0]'h).toNat : Int) = bt a0 0 := bt_at a0 0
    go_wp2_with (first | ((with_reducible refine gate_dst (N := 65) rfl ?_); refine wpList_load_row rfl 38 _ rfl w2.heap.size rfl 38 _ (0, 0) _ HP2.out Tryd.underlying38 rfl zq24 ?_) | ((with_reducible refine gate_store (t := 38) (p := 2) rfl ?_); refine box_store (g := w.heap.size) (new := #[.int .i64 t1, .int .i64 t2, .int .i64 t3, .slice A3 t4.length c3, .slice A4 t5.length c4]) rfl rfl rfl rfl rfl (blk_alloc HZ2.out _) rfl zq24 zq61 ?_; intro w4 hz4 hk4 hb4; have HZ4 := mk0 hz4; have HK4 := mk0 hk4; have HB4 := mk0 (hb4 w.heap.size (Nat.le_refl _)); clear hz4 hk4 hb4))
    refine bodyPost_ret (results_ct rfl _ _ w.heap.size 38 #[.int .i64 t1, .int .i64 t2, .int .i64 t3, .slice A3 t4.length c3, .slice A4 t5.length c4] (0, 0) _ rfl HZ4.out Tryd.underlying38 rfl zq24) rfl ?_
    exact ⟨_, _, rfl, Kd.R_lower (Begins_R_keep (Kd.R_alloc HV3.out _) HK4.out HL0.out) HL1.out, Kd.R_lower (Begins_R_keep (Kd.R_alloc HV4.out _) HK4.out HL0.out) HL1.out, (below_alloc HB2.out _).trans HB4.out⟩
   rw [if_pos c8] at HR1
   have c8b0 : decide (48 ≤ bt a0 t3) = true := decide_eq_true c8
   clear c8
   by_cases c9 : bt a0 t3 ≤ 57
   ·rw [if_pos c9] at HR1
    have c9b0 : decide (bt a0 t3 ≤ 57) = true := decide_eq_true c9
    clear c9
    simp only [Option.some.injEq, Prod.mk.injEq] at HR1
    obtain ⟨rfl, rfl, rfl, rfl, rfl, rfl⟩ := HR1
    have hx1 := bt_at a0 (wrap64 (t3 - 1))
    have hx2 := bt_at a0 t3
    have hx3 : ∀ h : 0 < a0.size, ((a0[0]'h).toNat : Int) = bt a0 0 := bt_at a0 0
    go_wp2_with (((with_reducible refine gate_store (t := 38) (p := 2) rfl ?_); refine box_store (g := w.heap.size) (new := #[.int .i64 0, .int .i64 0, .int .i64 0, .slice none 0 0, .slice none 0 0]) rfl rfl rfl rfl rfl (blk_alloc HZ2.out _) rfl zq24 zq61 ?_; intro w3 hz3 hk3 hb3; have HZ3 := mk0 hz3; have HB3 := mk0 (hb3 w.heap.size (Nat.le_refl _)); clear hz3 hk3 hb3))
    refine bodyPost_ret (results_ct rfl _ _ w.heap.size 38 #[.int .i64 0, .int .i64 0, .int .i64 0, .slice none 0 0, .slice none 0 0] (0, 0) _ rfl HZ3.out Tryd.underlying38 rfl zq24) rfl ?_
    exact ⟨_, _, rfl, Kd.R_nil _ _ _ _ _, Kd.R_nil _ _ _ _ _, (below_alloc HB2.out _).trans HB3.out⟩
   rw [if_neg c9] at HR1
   have c9b0 : decide (bt a0 t3 ≤ 57) = false := decide_eq_false c9
   clear c9
   simp only [Option.some.injEq, Prod.mk.injEq] at HR1
   obtain ⟨rfl, rfl, rfl, rfl, rfl, rfl⟩ := HR1
   have hx1 := bt_at a0 (wrap64 (t3 - 1))
   have hx2 := bt_at a0 t3
   have hx3 : ∀ h : 0 < a0.size, ((a0[0]'h).toNat : Int) = bt a0 0 := bt_at a0 0
   go_wp2_with (first | ((with_reducible refine gate_dst (N := 65) rfl ?_); refine wpList_load_row rfl 38 _ rfl w2.heap.size rfl 38 _ (0, 0) _ HP2.out Tryd.underlying38 rfl zq24 ?_) | ((with_reducible refine gate_store (t := 38) (p := 2) rfl ?_); refine box_store (g := w.heap.size) (new := #[.int .i64 t1, .int .i64 t2, .int .i64 t3, .slice A3 t4.length c3, .slice A4 t5.length c4]) rfl rfl rfl rfl rfl (blk_alloc HZ2.out _) rfl zq24 zq61 ?_; intro w4 hz4 hk4 hb4; have HZ4 := mk0 hz4; have HK4 := mk0 hk4; have HB4 := mk0 (hb4 w.heap.size (Nat.le_refl _)); clear hz4 hk4 hb4))
   refine bodyPost_ret (results_ct rfl _ _ w.heap.size 38 #[.int .i64 t1, .int .i64 t2, .int .i64 t3, .slice A3 t4.length c3, .slice A4 t5.length c4] (0, 0) _ rfl HZ4.out Tryd.underlying38 rfl zq24) rfl ?_
   exact ⟨_, _, rfl, Kd.R_lower (Begins_R_keep (Kd.R_alloc HV3.out _) HK4.out HL0.out) HL1.out, Kd.R_lower (Begins_R_keep (Kd.R_alloc HV4.out _) HK4.out HL0.out) HL1.out, (below_alloc HB2.out _).trans HB4.out⟩
  rw [if_neg c5] at HR1
  have c5b0 : (t3 == 1) = false := beq_eq_false_iff_ne.mpr c5
  clear c5
  by_cases c10 : t3 = 2
  rotate_left
  ·rw [if_neg c10] at HR1
   have c10b0 : (t3 == 2) = false := beq_eq_false_iff_ne.mpr c10
   clear c10
   simp only [Option.some.injEq, Prod.mk.injEq] at HR1
   obtain ⟨rfl, rfl, rfl, rfl, rfl, rfl⟩ := HR1
   have hx1 := bt_at a0 (wrap64 (t3 - 1))
   have hx2 := bt_at a0 t3
   have hx3 : ∀ h : 0 < a0.size, ((a0[0]'h).toNat : Int) = bt a0 0 := bt_at a0 0
   go_wp2_with (first | ((with_reducible refine gate_dst (N := 65) rfl ?_); refine wpList_load_row rfl 38 _ rfl w2.heap.size rfl 38 _ (0, 0) _ HP2.out Tryd.underlying38 rfl zq24 ?_) | ((with_reducible refine gate_store (t := 38) (p := 2) rfl ?_); refine box_store (g := w.heap.size) (new := #[.int .i64 t1, .int .i64 t2, .int .i64 t3, .slice A3 t4.length c3, .slice A4 t5.length c4]) rfl rfl rfl rfl rfl (blk_alloc HZ2.out _) rfl zq24 zq61 ?_; intro w4 hz4 hk4 hb4; have HZ4 := mk0 hz4; have HK4 := mk0 hk4; have HB4 := mk0 (hb4 w.heap.size (Nat.le_refl _)); clear hz4 hk4 hb4))
   refine bodyPost_ret (results_ct rfl _ _ w.heap.size 38 #[.int .i64 t1, .int .i64 t2, .int .i64 t3, .slice A3 t4.length c3, .slice A4 t5.length c4] (0, 0) _ rfl HZ4.out Tryd.underlying38 rfl zq24) rfl ?_
   exact ⟨_, _, rfl, Kd.R_lower (Begins_R_keep (Kd.R_alloc HV3.out _) HK4.out HL0.out) HL1.out, Kd.R_lower (Begins_R_keep (Kd.R_alloc HV4.out _) HK4.out HL0.out) HL1.out, (below_alloc HB2.out _).trans HB4.out⟩
  rw [if_pos c10] at HR1
  have c10b0 : (t3 == 2) = true := beq_iff_eq.mpr c10
  clear c10
  by_cases c11 : 0 < (a0.size : Int)
  rotate_left
  ·rw [if_neg c11] at HR1
   skip
   exact absurd HR1 (by simp)
  rw [if_pos c11] at HR1
  have c11b0 : 0 < (a0.size : Int) := c11
  clear c11
  by_cases c12 : (bt a0 0) = 45
  rotate_left
  ·rw [if_neg c12] at HR1
   have c12b0 : ((bt a0 0) == 45) = false := beq_eq_false_iff_ne.mpr c12
   clear c12
   simp only [Option.some.injEq, Prod.mk.injEq] at HR1
   obtain ⟨rfl, rfl, rfl, rfl, rfl, rfl⟩ := HR1
   have hx1 := bt_at a0 (wrap64 (t3 - 1))
   have hx2 := bt_at a0 t3
   have hx3 : ∀ h : 0 < a0.size, ((a0[0]'h).toNat : Int) = bt a0 0 := bt_at a0 0
   go_wp2_with (first | ((with_reducible refine gate_dst (N := 65) rfl ?_); refine wpList_load_row rfl 38 _ rfl w2.heap.size rfl 38 _ (0, 0) _ HP2.out Tryd.underlying38 rfl zq24 ?_) | ((with_reducible refine gate_store (t := 38) (p := 2) rfl ?_); refine box_store (g := w.heap.size) (new := #[.int .i64 t1, .int .i64 t2, .int .i64 t3, .slice A3 t4.length c3, .slice A4 t5.length c4]) rfl rfl rfl rfl rfl (blk_alloc HZ2.out _) rfl zq24 zq61 ?_; intro w4 hz4 hk4 hb4; have HZ4 := mk0 hz4; have HK4 := mk0 hk4; have HB4 := mk0 (hb4 w.heap.size (Nat.le_refl _)); clear hz4 hk4 hb4))
   refine bodyPost_ret (results_ct rfl _ _ w.heap.size 38 #[.int .i64 t1, .int .i64 t2, .int .i64 t3, .slice A3 t4.length c3, .slice A4 t5.length c4] (0, 0) _ rfl HZ4.out Tryd.underlying38 rfl zq24) rfl ?_
   exact ⟨_, _, rfl, Kd.R_lower (Begins_R_keep (Kd.R_alloc HV3.out _) HK4.out HL0.out) HL1.out, Kd.R_lower (Begins_R_keep (Kd.R_alloc HV4.out _) HK4.out HL0.out) HL1.out, (below_alloc HB2.out _).trans HB4.out⟩
  rw [if_pos c12] at HR1
  have c12b0 : ((bt a0 0) == 45) = true := beq_iff_eq.mpr c12
  clear c12
  by_cases c13 : t3 < (a0.size : Int)
  rotate_left
  ·rw [if_neg c13] at HR1
   have c13b0 : decide (t3 < (a0.size : Int)) = false := decide_eq_false c13
   clear c13
   simp only [Option.some.injEq, Prod.mk.injEq] at HR1
   obtain ⟨rfl, rfl, rfl, rfl, rfl, rfl⟩ := HR1
   have hx1 := bt_at a0 (wrap64 (t3 - 1))
   have hx2 := bt_at a0 t3
   have hx3 : ∀ h : 0 < a0.size, ((a0[0]'h).toNat : Int) = bt a0 0 := bt_at a0 0
   go_wp2_with (first | ((with_reducible refine gate_dst (N := 65) rfl ?_); refine wpList_load_row rfl 38 _ rfl w2.heap.size rfl 38 _ (0, 0) _ HP2.out Tryd.underlying38 rfl zq24 ?_) | ((with_reducible refine gate_store (t := 38) (p := 2) rfl ?_); refine box_store (g := w.heap.size) (new := #[.int .i64 t1, .int .i64 t2, .int .i64 t3, .slice A3 t4.length c3, .slice A4 t5.length c4]) rfl rfl rfl rfl rfl (blk_alloc HZ2.out _) rfl zq24 zq61 ?_; intro w4 hz4 hk4 hb4; have HZ4 := mk0 hz4; have HK4 := mk0 hk4; have HB4 := mk0 (hb4 w.heap.size (Nat.le_refl _)); clear hz4 hk4 hb4))
   refine bodyPost_ret (results_ct rfl _ _ w.heap.size 38 #[.int .i64 t1, .int .i64 t2, .int .i64 t3, .slice A3 t4.length c3, .slice A4 t5.length c4] (0, 0) _ rfl HZ4.out Tryd.underlying38 rfl zq24) rfl ?_
   exact ⟨_, _, rfl, Kd.R_lower (Begins_R_keep (Kd.R_alloc HV3.out _) HK4.out HL0.out) HL1.out, Kd.R_lower (Begins_R_keep (Kd.R_alloc HV4.out _) HK4.out HL0.out) HL1.out, (below_alloc HB2.out _).trans HB4.out⟩
  rw [if_pos c13] at HR1
  have c13b0 : decide (t3 < (a0.size : Int)) = true := decide_eq_true c13
  have c13b1 := eq_true c13
  have c13b2 := c13
  clear c13
  by_cases c14 : 0 ≤ t3
  rotate_left
  ·rw [if_neg c14] at HR1
   skip
   exact absurd HR1 (by simp)
  rw [if_pos c14] at HR1
  have c14b0 : 0 ≤ t3 := c14
  clear c14
  by_cases c15 : 48 ≤ bt a0 t3
  rotate_left
  ·rw [if_neg c15] at HR1
   have c15b0 : decide (48 ≤ bt a0 t3) = false := decide_eq_false c15
   clear c15
   simp only [Option.some.injEq, Prod.mk.injEq] at HR1
   obtain ⟨rfl, rfl, rfl, rfl, rfl, rfl⟩ := HR1
   have hx1 := bt_at a0 (wrap64 (t3 - 1))
   have hx2 := bt_at a0 t3
   have hx3 : ∀ h : 0 < a0.size, ((a0[0]'h).toNat : Int) = bt a0 0 := bt_at a0 0
   go_wp2_with (first | ((with_reducible refine gate_dst (N := 65) rfl ?_); refine wpList_load_row rfl 38 _ rfl w2.heap.size rfl 38 _ (0, 0) _ HP2.out Tryd.underlying38 rfl zq24 ?_) | ((with_reducible refine gate_store (t := 38) (p := 2) rfl ?_); refine box_store (g := w.heap.size) (new := #[.int .i64 t1, .int .i64 t2, .int .i64 t3, .slice A3 t4.length c3, .slice A4 t5.length c4]) rfl rfl rfl rfl rfl (blk_alloc HZ2.out _) rfl zq24 zq61 ?_; intro w4 hz4 hk4 hb4; have HZ4 := mk0 hz4; have HK4 := mk0 hk4; have HB4 := mk0 (hb4 w.heap.size (Nat.le_refl _)); clear hz4 hk4 hb4))
   refine bodyPost_ret (results_ct rfl _ _ w.heap.size 38 #[.int .i64 t1, .int .i64 t2, .int .i64 t3, .slice A3 t4.length c3, .slice A4 t5.length c4] (0, 0) _ rfl HZ4.out Tryd.underlying38 rfl zq24) rfl ?_
   exact ⟨_, _, rfl, Kd.R_lower (Begins_R_keep (Kd.R_alloc HV3.out _) HK4.out HL0.out) HL1.out, Kd.R_lower (Begins_R_keep (Kd.R_alloc HV4.out _) HK4.out HL0.out) HL1.out, (below_alloc HB2.out _).trans HB4.out⟩
  rw [if_pos c15] at HR1
  have c15b0 : decide (48 ≤ bt a0 t3) = true := decide_eq_true c15
  clear c15
  by_cases c16 : bt a0 t3 ≤ 57
  ·rw [if_pos c16] at HR1
   have c16b0 : decide (bt a0 t3 ≤ 57) = true := decide_eq_true c16
   clear c16
   simp only [Option.some.injEq, Prod.mk.injEq] at HR1
   obtain ⟨rfl, rfl, rfl, rfl, rfl, rfl⟩ := HR1
   have hx1 := bt_at a0 (wrap64 (t3 - 1))
   have hx2 := bt_at a0 t3
   have hx3 : ∀ h : 0 < a0.size, ((a0[0]'h).toNat : Int) = bt a0 0 := bt_at a0 0
   go_wp2_with (((with_reducible refine gate_store (t := 38) (p := 2) rfl ?_); refine box_store (g := w.heap.size) (new := #[.int .i64 0, .int .i64 0, .int .i64 0, .slice none 0 0, .slice none 0 0]) rfl rfl rfl rfl rfl (blk_alloc HZ2.out _) rfl zq24 zq61 ?_; intro w3 hz3 hk3 hb3; have HZ3 := mk0 hz3; have HB3 := mk0 (hb3 w.heap.size (Nat.le_refl _)); clear hz3 hk3 hb3))
   refine bodyPost_ret (results_ct rfl _ _ w.heap.size 38 #[.int .i64 0, .int .i64 0, .int .i64 0, .slice none 0 0, .slice none 0 0] (0, 0) _ rfl HZ3.out Tryd.underlying38 rfl zq24) rfl ?_
   exact ⟨_, _, rfl, Kd.R_nil _ _ _ _ _, Kd.R_nil _ _ _ _ _, (below_alloc HB2.out _).trans HB3.out⟩
  rw [if_neg c16] at HR1
  have c16b0 : decide (bt a0 t3 ≤ 57) = false := decide_eq_false c16
  clear c16
  simp only [Option.some.injEq, Prod.mk.injEq] at HR1
  obtain ⟨rfl, rfl, rfl, rfl, rfl, rfl⟩ := HR1
  have hx1 := bt_at a0 (wrap64 (t3 - 1))
  have hx2 := bt_at a0 t3
  have hx3 : ∀ h : 0 < a0.size, ((a0[0]'h).toNat : Int) = bt a0 0 := bt_at a0 0
  go_wp2_with (first | ((with_reducible refine gate_dst (N := 65) rfl ?_); refine wpList_load_row rfl 38 _ rfl w2.heap.size rfl 38 _ (0, 0) _ HP2.out Tryd.underlying38 rfl zq24 ?_) | ((with_reducible refine gate_store (t := 38) (p := 2) rfl ?_); refine box_store (g := w.heap.size) (new := #[.int .i64 t1, .int .i64 t2, .int .i64 t3, .slice A3 t4.length c3, .slice A4 t5.length c4]) rfl rfl rfl rfl rfl (blk_alloc HZ2.out _) rfl zq24 zq61 ?_; intro w4 hz4 hk4 hb4; have HZ4 := mk0 hz4; have HK4 := mk0 hk4; have HB4 := mk0 (hb4 w.heap.size (Nat.le_refl _)); clear hz4 hk4 hb4))
  refine bodyPost_ret (results_ct rfl _ _ w.heap.size 38 #[.int .i64 t1, .int .i64 t2, .int .i64 t3, .slice A3 t4.length c3, .slice A4 t5.length c4] (0, 0) _ rfl HZ4.out Tryd.underlying38 rfl zq24) rfl ?_
  exact ⟨_, _, rfl, Kd.R_lower (Begins_R_keep (Kd.R_alloc HV3.out _) HK4.out HL0.out) HL1.out, Kd.R_lower (Begins_R_keep (Kd.R_alloc HV4.out _) HK4.out HL0.out) HL1.out, (below_alloc HB2.out _).trans HB4.out⟩
def laws_behind.f (k : Nat) (a0 : ByteArray) : Option (ByteArray × Bool) := (spec_Begins.f k a0).bind fun bt101 => (if bt101.2.2.2.2.2 = true then (if 0 ≤ bt101.2.2.1 then (if bt101.2.2.1 ≤ (a0.size : Int) then (some (a0.extract (bt101.2.2.1 : Int).toNat a0.size, true)) else (none)) else (none)) else (some ((⟨#[]⟩ : ByteArray), false)))
theorem laws_behind.mono : ∀ a0 k, LeO (laws_behind.f k a0) (laws_behind.f (k + 1) a0) := by
 intro a0 k
 unfold laws_behind.f
 repeat' first
  | (with_reducible exact spec_Begins.mono _ _)
  | (with_reducible exact LeO.refl _)
  | (with_reducible exact LeO.none _)
  | (with_reducible refine LeO.ite ?_ ?_)
  | (with_reducible refine LeO.bind ?_ (fun _ => ?_))
  | exact spec_Begins.mono _ _
  | exact LeO.none _
  | refine LeO.ite ?_ ?_
  | refine LeO.bind ?_ (fun _ => ?_)
set_option maxHeartbeats 8000000 in
set_option maxRecDepth 100000 in
theorem laws_behind.calls (k : Nat) (a0 : ByteArray) (r1 : ByteArray) (r2 : Bool) (w : World) (h : laws_behind.f k a0 = some (r1, r2)) :
 Calls Tryd.prog 22 #[.string a0] w fun e w' => e = .returned (.tuple #[.string r1, .bool r2]) ∧ Below w.heap.size w w' := by
 have hu38 := Tryd.underlying38
 have HB := mk0 (Below.refl w.heap.size w)
 have H : ((spec_Begins.f k a0).bind fun bt101 => (if bt101.2.2.2.2.2 = true then (if 0 ≤ bt101.2.2.1 then (if bt101.2.2.1 ≤ (a0.size : Int) then (some (a0.extract (bt101.2.2.1 : Int).toNat a0.size, true)) else (none)) else (none)) else (some ((⟨#[]⟩ : ByteArray), false)))) = some (r1, r2) := h
 clear h
 replace H := Option.bind_eq_some_iff.mp H
 obtain ⟨⟨t101, t102, t103, t104, t107, t110⟩, A20, H⟩ := H
 (try dsimp only at H)
 have A2 := mk0 A20
 clear A20
 by_cases c3 : t110 = true
 rotate_left
 ·replace c3 := Bool.eq_false_iff.mpr c3
  subst c3
  rw [if_neg (show ¬ (false = true) by decide)] at H
  simp only [Option.some.injEq, Prod.mk.injEq] at H
  obtain ⟨rfl, rfl⟩ := H
  go_enter Tryd.func22, Tryd.ntmps22
  go_wp2_with (first | ((with_reducible refine gate_callee (f := 42) rfl ?_); refine goesL_ (some 8) rfl rfl Tryd.func42 zq24 rfl #[.string a0] rfl zq0 ?_; (with_reducible refine (spec_Begins.calls k a0 t101 t102 t103 t104 t107 false _ A2.out).mono ?_); rintro e w11 ⟨v105, v108, rfl, ho0, ho1, hb⟩; refine ⟨_, rfl, ?_⟩; have HO106 := mk0 (Kd.R_lower ho0 (below_size zq1)); have HO109 := mk0 (Kd.R_lower ho1 (below_size zq1)); replace HB := mk0 (below_step zq1 hb); clear hb ho0 ho1) | ((with_reducible refine gate_dst (N := 4) rfl ?_); refine box_event ?hg (N := 4) ?hd (cs := #[.int .i64 0, .int .i64 0, .int .i64 0, .slice none 0 0, .slice none 0 0]) (t := 38) ?hr ?_; (case hd => rfl); (case hg => rfl); (case hr => exact zq32); intro gb111 hg w12 hbox hb; replace HO106 := mk0 (Kd.R_below zq64 hb); replace HO109 := mk0 (Kd.R_below (Kd.R_elderB (by (with_reducible repeat (first | apply Kd.R_alloc | apply Kd.R_drewN | apply Kd.R_drew)); exact HO109.out) gb111 (Nat.le_of_eq hg.symm)) hb); have BK111 := mk0 (hbox); have GW111 := mk0 ((zq62 : w.heap.size ≤ gb111)); have GE111 := mk0 ((zq62 : w.heap.size ≤ gb111)); replace HB := mk0 (below_step zq1 hb); clear hb hbox hg; have hcz13_0 : w12.cell? ⟨gb111, 0, none⟩ = some (.int .i64 0) := (blk_cell BK111.out 0).trans rfl; have hcz13_1 : w12.cell? ⟨gb111, 1, none⟩ = some (.int .i64 0) := (blk_cell BK111.out 1).trans rfl; have hcz13_2 : w12.cell? ⟨gb111, 2, none⟩ = some (.int .i64 0) := (blk_cell BK111.out 2).trans rfl; have hcz13_3 : w12.cell? ⟨gb111, 3, none⟩ = some (.slice none 0 0) := (blk_cell BK111.out 3).trans rfl; have hcz13_4 : w12.cell? ⟨gb111, 4, none⟩ = some (.slice none 0 0) := (blk_cell BK111.out 4).trans rfl; have hfz13_0 := blk_frozen BK111.out 0; have hfz13_1 := blk_frozen BK111.out 1; have hfz13_2 := blk_frozen BK111.out 2; have hfz13_3 := blk_frozen BK111.out 3; have hfz13_4 := blk_frozen BK111.out 4; obtain ⟨Ao14, co14, eo14⟩ := Kd.R_slice HO106.out; subst eo14; obtain ⟨Ao15, co15, eo15⟩ := Kd.R_slice HO109.out; subst eo15))
  go_ret2
  exact ⟨by rfl, by repeat (first | (with_reducible first | exact HB.out | apply below_alloc | apply pw_below_drewN | apply below_drew1 | refine below_set ?_ GE111.out) | exact HB.out)⟩
 subst c3
 rw [if_pos rfl] at H
 by_cases c4 : 0 ≤ t103
 rotate_left
 ·rw [if_neg c4] at H
  exact absurd H (by simp)
 rw [if_pos c4] at H
 have c4b0 := eq_true c4
 have c4b1 : decide (0 ≤ t103) = true := decide_eq_true c4
 clear c4
 by_cases c5 : t103 ≤ (a0.size : Int)
 rotate_left
 ·rw [if_neg c5] at H
  exact absurd H (by simp)
 rw [if_pos c5] at H
 have c5b0 := eq_true c5
 have c5b1 : decide (t103 ≤ (a0.size : Int)) = true := decide_eq_true c5
 clear c5
 simp only [Option.some.injEq, Prod.mk.injEq] at H
 obtain ⟨rfl, rfl⟩ := H
 go_enter Tryd.func22, Tryd.ntmps22
 go_wp2_with (first | ((with_reducible refine gate_callee (f := 42) rfl ?_); refine goesL_ (some 8) rfl rfl Tryd.func42 zq24 rfl #[.string a0] rfl zq0 ?_; (with_reducible refine (spec_Begins.calls k a0 t101 t102 t103 t104 t107 true _ A2.out).mono ?_); rintro e w6 ⟨v105, v108, rfl, ho0, ho1, hb⟩; refine ⟨_, rfl, ?_⟩; have HO106 := mk0 (Kd.R_lower ho0 (below_size zq1)); have HO109 := mk0 (Kd.R_lower ho1 (below_size zq1)); replace HB := mk0 (below_step zq1 hb); clear hb ho0 ho1) | ((with_reducible refine gate_dst (N := 4) rfl ?_); refine box_event ?hg (N := 4) ?hd (cs := #[.int .i64 0, .int .i64 0, .int .i64 0, .slice none 0 0, .slice none 0 0]) (t := 38) ?hr ?_; (case hd => rfl); (case hg => rfl); (case hr => exact zq32); intro gb111 hg w7 hbox hb; replace HO106 := mk0 (Kd.R_below zq64 hb); replace HO109 := mk0 (Kd.R_below (Kd.R_elderB (by (with_reducible repeat (first | apply Kd.R_alloc | apply Kd.R_drewN | apply Kd.R_drew)); exact HO109.out) gb111 (Nat.le_of_eq hg.symm)) hb); have BK111 := mk0 (hbox); have GW111 := mk0 ((zq62 : w.heap.size ≤ gb111)); have GE111 := mk0 ((zq62 : w.heap.size ≤ gb111)); replace HB := mk0 (below_step zq1 hb); clear hb hbox hg; have hcz8_0 : w7.cell? ⟨gb111, 0, none⟩ = some (.int .i64 0) := (blk_cell BK111.out 0).trans rfl; have hcz8_1 : w7.cell? ⟨gb111, 1, none⟩ = some (.int .i64 0) := (blk_cell BK111.out 1).trans rfl; have hcz8_2 : w7.cell? ⟨gb111, 2, none⟩ = some (.int .i64 0) := (blk_cell BK111.out 2).trans rfl; have hcz8_3 : w7.cell? ⟨gb111, 3, none⟩ = some (.slice none 0 0) := (blk_cell BK111.out 3).trans rfl; have hcz8_4 : w7.cell? ⟨gb111, 4, none⟩ = some (.slice none 0 0) := (blk_cell BK111.out 4).trans rfl; have hfz8_0 := blk_frozen BK111.out 0; have hfz8_1 := blk_frozen BK111.out 1; have hfz8_2 := blk_frozen BK111.out 2; have hfz8_3 := blk_frozen BK111.out 3; have hfz8_4 := blk_frozen BK111.out 4; obtain ⟨Ao9, co9, eo9⟩ := Kd.R_slice HO106.out; subst eo9; obtain ⟨Ao10, co10, eo10⟩ := Kd.R_slice HO109.out; subst eo10))
 go_ret2
 exact ⟨by rfl, by repeat (first | (with_reducible first | exact HB.out | apply below_alloc | apply pw_below_drewN | apply below_drew1 | refine below_set ?_ GE111.out) | exact HB.out)⟩
def errors_New.f (a0 : ByteArray) : Option (Option Int) := some (some 0)
theorem errors_New.calls (a0 : ByteArray) (r : Option Int) (w : World) (h : errors_New.f a0 = some r) :
 Calls Tryd.prog 54 #[.string a0] w fun e w' => ∃ z_r : Option Int, Zk z_r r ∧ e = .returned (errW z_r) ∧ Below w.heap.size w w' := by
 obtain rfl := Option.some.inj h
 go_enter Tryd.func54, Tryd.ntmps54
 go_wp2
 go_ret
 obtain ⟨z, hz, e⟩ := errW_mk 126 w.heap.size (by omega)
 exact ⟨z, hz, by rw [← e]; rfl, (Below.refl _ w).alloc (Nat.le_refl _) _⟩
mutual
def fastjson_skipWSSlow.j0 : Nat → ByteArray → Bool → Option (ByteArray)
  | 0, _, _ => none
  | k + 1, x0, x26 => if x26 = true then (some x0) else (fastjson_skipWSSlow.l0 k x0 1)
def fastjson_skipWSSlow.l0 : Nat → ByteArray → Int → Option (ByteArray)
  | 0, _, _ => none
  | k + 1, x0, x3 => if x3 < (x0.size : Int) then (if 0 ≤ x3 then (if (bt x0 x3) = 32 then (fastjson_skipWSSlow.l0 k x0 (wrap64 (x3 + 1))) else (if (bt x0 x3) = 10 then (fastjson_skipWSSlow.l0 k x0 (wrap64 (x3 + 1))) else (if (bt x0 x3) = 9 then (fastjson_skipWSSlow.l0 k x0 (wrap64 (x3 + 1))) else (if (bt x0 x3) = 13 then (fastjson_skipWSSlow.l0 k x0 (wrap64 (x3 + 1))) else (if x3 ≤ (x0.size : Int) then (some (x0.extract (x3 : Int).toNat x0.size)) else (none)))))) else (none)) else (some (⟨#[]⟩ : ByteArray))
end
def fastjson_skipWSSlow.f (k : Nat) (a0 : ByteArray) : Option (ByteArray) := if (a0.size : Int) = 0 then (fastjson_skipWSSlow.j0 k a0 true) else (if 0 < (a0.size : Int) then (if (bt a0 0) = 32 then (fastjson_skipWSSlow.j0 k a0 false) else (if (bt a0 0) = 10 then (fastjson_skipWSSlow.j0 k a0 false) else (if (bt a0 0) = 9 then (fastjson_skipWSSlow.j0 k a0 false) else (fastjson_skipWSSlow.j0 k a0 ((bt a0 0) != 13))))) else (none))
theorem fastjson_skipWSSlow.mono_l : ∀ k, (∀ y0 y1, LeO (fastjson_skipWSSlow.j0 k y0 y1) (fastjson_skipWSSlow.j0 (k + 1) y0 y1)) ∧ (∀ y0 y1, LeO (fastjson_skipWSSlow.l0 k y0 y1) (fastjson_skipWSSlow.l0 (k + 1) y0 y1))
 | 0 => ⟨fun _ _ r h => by simp [fastjson_skipWSSlow.j0] at h, fun _ _ r h => by simp [fastjson_skipWSSlow.l0] at h⟩
 | k + 1 => by
  obtain ⟨ih0, ih1⟩ := fastjson_skipWSSlow.mono_l k
  refine ⟨?_, ?_⟩
  ·intro y0 y1
   unfold fastjson_skipWSSlow.j0
   repeat' first
   | (with_reducible exact ih0 _ _)
   | (with_reducible exact ih1 _ _)
   | (with_reducible exact LeO.refl _)
   | (with_reducible exact LeO.none _)
   | (with_reducible refine LeO.ite ?_ ?_)
   | (with_reducible refine LeO.bind ?_ (fun _ => ?_))
   | exact ih0 _ _
   | exact ih1 _ _
   | exact LeO.none _
   | refine LeO.ite ?_ ?_
   | refine LeO.bind ?_ (fun _ => ?_)
  ·intro y0 y1
   unfold fastjson_skipWSSlow.l0
   repeat' first
   | (with_reducible exact ih0 _ _)
   | (with_reducible exact ih1 _ _)
   | (with_reducible exact LeO.refl _)
   | (with_reducible exact LeO.none _)
   | (with_reducible refine LeO.ite ?_ ?_)
   | (with_reducible refine LeO.bind ?_ (fun _ => ?_))
   | exact ih0 _ _
   | exact ih1 _ _
   | exact LeO.none _
   | refine LeO.ite ?_ ?_
   | refine LeO.bind ?_ (fun _ => ?_)
theorem fastjson_skipWSSlow.mono : ∀ a0 k, LeO (fastjson_skipWSSlow.f k a0) (fastjson_skipWSSlow.f (k + 1) a0) := by
 intro a0 k
 obtain ⟨ih0, ih1⟩ := fastjson_skipWSSlow.mono_l k
 unfold fastjson_skipWSSlow.f
 repeat' first
  | (with_reducible exact ih0 _ _)
  | (with_reducible exact ih1 _ _)
  | (with_reducible exact LeO.refl _)
  | (with_reducible exact LeO.none _)
  | (with_reducible refine LeO.ite ?_ ?_)
  | (with_reducible refine LeO.bind ?_ (fun _ => ?_))
  | exact ih0 _ _
  | exact ih1 _ _
  | exact LeO.none _
  | refine LeO.ite ?_ ?_
  | refine LeO.bind ?_ (fun _ => ?_)
set_option maxHeartbeats 8000000 in
set_option maxRecDepth 100000 in
theorem fastjson_skipWSSlow.calls (k : Nat) (a0 : ByteArray) (r : ByteArray) (w : World) (h : fastjson_skipWSSlow.f k a0 = some r) :
 Calls Tryd.prog 96 #[.string a0] w fun e w' => e = .returned (.string r) ∧ Drawn0 w w' := by
 have H : (if (a0.size : Int) = 0 then (fastjson_skipWSSlow.j0 k a0 true) else (if 0 < (a0.size : Int) then (if (bt a0 0) = 32 then (fastjson_skipWSSlow.j0 k a0 false) else (if (bt a0 0) = 10 then (fastjson_skipWSSlow.j0 k a0 false) else (if (bt a0 0) = 9 then (fastjson_skipWSSlow.j0 k a0 false) else (fastjson_skipWSSlow.j0 k a0 ((bt a0 0) != 13))))) else (none))) = some r := h
 clear h
 have HC2 := mk0 H
 clear H
 go_enter Tryd.func96, Tryd.ntmps96
 go_upto_region 1 with (fail)
 go_cut [26] (fun v26 wc => ∃ (kq : Nat) (x26_1 : Bool), v26 = .bool x26_1 ∧ Aside0 (fastjson_skipWSSlow.j0 kq a0 x26_1 = some r) ∧ Aside0 (kq ≤ k) ∧ Drawn0 w wc)
 case first =>
  have H := HC2.out
  clear HC2
  by_cases c3 : (a0.size : Int) = 0
  ·rw [if_pos c3] at H
   have c3b0 : ((a0.size : Int) == 0) = true := beq_iff_eq.mpr c3
   have c3b1 : ((a0.size : Int) != 0) = false := bne_eq_false_iff_eq.mpr c3
   clear c3
   (skip)
   have H' := mk0 H
   clear H
   go_wp2
   go_meet
   case rel => exact ⟨_, (true), (by rfl), H', ⟨by omega⟩, by repeat (first | exact Drawn0.refl _ | apply Drawn0.step)⟩
  rw [if_neg c3] at H
  have c3b0 : ((a0.size : Int) == 0) = false := beq_eq_false_iff_ne.mpr c3
  have c3b1 : ((a0.size : Int) != 0) = true := bne_iff_ne.mpr c3
  (skip)
  by_cases c4 : 0 < (a0.size : Int)
  rotate_left
  ·rw [if_neg c4] at H
   exact absurd H (by simp)
  rw [if_pos c4] at H
  have c4b0 : decide (0 < (a0.size : Int)) = true := decide_eq_true c4
  have c4b1 : decide (0 < a0.size) = true := decide_eq_true (by omega)
  clear c4
  by_cases c6 : (bt a0 0) = 32
  ·rw [if_pos c6] at H
   have c6b0 : ((bt a0 0) == 32) = true := beq_iff_eq.mpr c6
   have c6b1 : ((bt a0 0) != 32) = false := bne_eq_false_iff_eq.mpr c6
   clear c6
   have H' := mk0 H
   clear H
   have p5 : 0 ≤ (0 : Int) := (by omega)
   have q5 : 0 < a0.size := (by have : (0 : Int) < (a0.size : Int) := of_decide_eq_true zq5; omega)
   have hx5 : ∀ h : 0 < a0.size, ((a0[0]'h).toNat : Int) = bt a0 0 := bt_at a0 0
   clear p5
   have qi5 : (0 < (a0.size : Int)) = True := eq_true (of_decide_eq_true zq5)
   replace q5 := eq_true q5
   go_wp2
   go_meet
   case rel => exact ⟨_, (false), (by rfl), H', ⟨by omega⟩, by repeat (first | exact Drawn0.refl _ | apply Drawn0.step)⟩
  rw [if_neg c6] at H
  have c6b0 : ((bt a0 0) == 32) = false := beq_eq_false_iff_ne.mpr c6
  have c6b1 : ((bt a0 0) != 32) = true := bne_iff_ne.mpr c6
  by_cases c8 : (bt a0 0) = 10
  ·rw [if_pos c8] at H
   have c8b0 : ((bt a0 0) == 10) = true := beq_iff_eq.mpr c8
   have c8b1 : ((bt a0 0) != 10) = false := bne_eq_false_iff_eq.mpr c8
   clear c8
   have H' := mk0 H
   clear H
   have p5 : 0 ≤ (0 : Int) := (by omega)
   have q5 : 0 < a0.size := (by have : (0 : Int) < (a0.size : Int) := of_decide_eq_true zq5; omega)
   have hx5 : ∀ h : 0 < a0.size, ((a0[0]'h).toNat : Int) = bt a0 0 := bt_at a0 0
   clear p5
   have qi5 : (0 < (a0.size : Int)) = True := eq_true (of_decide_eq_true zq5)
   replace q5 := eq_true q5
   have p7 : 0 ≤ (0 : Int) := (by omega)
   have q7 : 0 < a0.size := (by have : (0 : Int) < (a0.size : Int) := of_decide_eq_true zq5; omega)
   have hx7 : ∀ h : 0 < a0.size, ((a0[0]'h).toNat : Int) = bt a0 0 := bt_at a0 0
   clear p7
   have qi7 : (0 < (a0.size : Int)) = True := eq_true (of_decide_eq_true zq5)
   replace q7 := eq_true q7
   go_wp2
   go_meet
   case rel => exact ⟨_, (false), (by rfl), H', ⟨by omega⟩, by repeat (first | exact Drawn0.refl _ | apply Drawn0.step)⟩
  rw [if_neg c8] at H
  have c8b0 : ((bt a0 0) == 10) = false := beq_eq_false_iff_ne.mpr c8
  have c8b1 : ((bt a0 0) != 10) = true := bne_iff_ne.mpr c8
  by_cases c10 : (bt a0 0) = 9
  ·rw [if_pos c10] at H
   have c10b0 : ((bt a0 0) == 9) = true := beq_iff_eq.mpr c10
   have c10b1 : ((bt a0 0) != 9) = false := bne_eq_false_iff_eq.mpr c10
   clear c10
   have H' := mk0 H
   clear H
   have p5 : 0 ≤ (0 : Int) := (by omega)
   have q5 : 0 < a0.size := (by have : (0 : Int) < (a0.size : Int) := of_decide_eq_true zq5; omega)
   have hx5 : ∀ h : 0 < a0.size, ((a0[0]'h).toNat : Int) = bt a0 0 := bt_at a0 0
   clear p5
   have qi5 : (0 < (a0.size : Int)) = True := eq_true (of_decide_eq_true zq5)
   replace q5 := eq_true q5
   have p7 : 0 ≤ (0 : Int) := (by omega)
   have q7 : 0 < a0.size := (by have : (0 : Int) < (a0.size : Int) := of_decide_eq_true zq5; omega)
   have hx7 : ∀ h : 0 < a0.size, ((a0[0]'h).toNat : Int) = bt a0 0 := bt_at a0 0
   clear p7
   have qi7 : (0 < (a0.size : Int)) = True := eq_true (of_decide_eq_true zq5)
   replace q7 := eq_true q7
   have p9 : 0 ≤ (0 : Int) := (by omega)
   have q9 : 0 < a0.size := (by have : (0 : Int) < (a0.size : Int) := of_decide_eq_true zq5; omega)
   have hx9 : ∀ h : 0 < a0.size, ((a0[0]'h).toNat : Int) = bt a0 0 := bt_at a0 0
   clear p9
   have qi9 : (0 < (a0.size : Int)) = True := eq_true (of_decide_eq_true zq5)
   replace q9 := eq_true q9
   go_wp2
   go_meet
   case rel => exact ⟨_, (false), (by rfl), H', ⟨by omega⟩, by repeat (first | exact Drawn0.refl _ | apply Drawn0.step)⟩
  rw [if_neg c10] at H
  have c10b0 : ((bt a0 0) == 9) = false := beq_eq_false_iff_ne.mpr c10
  have c10b1 : ((bt a0 0) != 9) = true := bne_iff_ne.mpr c10
  have H' := mk0 H
  clear H
  have p5 : 0 ≤ (0 : Int) := (by omega)
  have q5 : 0 < a0.size := (by have : (0 : Int) < (a0.size : Int) := of_decide_eq_true zq5; omega)
  have hx5 : ∀ h : 0 < a0.size, ((a0[0]'h).toNat : Int) = bt a0 0 := bt_at a0 0
  clear p5
  have qi5 : (0 < (a0.size : Int)) = True := eq_true (of_decide_eq_true zq5)
  replace q5 := eq_true q5
  have p7 : 0 ≤ (0 : Int) := (by omega)
  have q7 : 0 < a0.size := (by have : (0 : Int) < (a0.size : Int) := of_decide_eq_true zq5; omega)
  have hx7 : ∀ h : 0 < a0.size, ((a0[0]'h).toNat : Int) = bt a0 0 := bt_at a0 0
  clear p7
  have qi7 : (0 < (a0.size : Int)) = True := eq_true (of_decide_eq_true zq5)
  replace q7 := eq_true q7
  have p9 : 0 ≤ (0 : Int) := (by omega)
  have q9 : 0 < a0.size := (by have : (0 : Int) < (a0.size : Int) := of_decide_eq_true zq5; omega)
  have hx9 : ∀ h : 0 < a0.size, ((a0[0]'h).toNat : Int) = bt a0 0 := bt_at a0 0
  clear p9
  have qi9 : (0 < (a0.size : Int)) = True := eq_true (of_decide_eq_true zq5)
  replace q9 := eq_true q9
  have p11 : 0 ≤ (0 : Int) := (by omega)
  have q11 : 0 < a0.size := (by have : (0 : Int) < (a0.size : Int) := of_decide_eq_true zq5; omega)
  have hx11 : ∀ h : 0 < a0.size, ((a0[0]'h).toNat : Int) = bt a0 0 := bt_at a0 0
  clear p11
  have qi11 : (0 < (a0.size : Int)) = True := eq_true (of_decide_eq_true zq5)
  replace q11 := eq_true q11
  go_wp2
  go_meet
  case rel => exact ⟨_, (((bt a0 0) != 13)), (by rfl), H', ⟨by omega⟩, by repeat (first | exact Drawn0.refl _ | apply Drawn0.step)⟩
 case rest =>
  clear HC2
  obtain ⟨kq, x26_1, rfl, HA, HJ1, ⟨mc1, rfl⟩⟩ := hcut
  cases kq with
  | zero => exact absurd HA.out (by simp [fastjson_skipWSSlow.j0])
  | succ kj1 =>
   have H := HA.out
   clear HA
   simp only [fastjson_skipWSSlow.j0] at H
   by_cases c12 : x26_1 = true
   ·subst c12
    rw [if_pos rfl] at H
    obtain rfl := Option.some.inj H
    go_wp2
    go_ret
    exact ⟨by rfl, by repeat (first | exact Drawn0.refl _ | apply Drawn0.step)⟩
   replace c12 := Bool.eq_false_iff.mpr c12
   subst c12
   rw [if_neg (show ¬ (false = true) by decide)] at H
   have H' := mk0 H
   clear H
   go_wp2
   go_loopg [3] kj1 (fun kq v3 w' => ∃ (x3_2 : Int), v3 = .int .i64 x3_2 ∧ Aside0 (fastjson_skipWSSlow.l0 kq a0 x3_2 = some r) ∧ Aside0 (kq ≤ kj1) ∧ Drawn0 w w')
   case atStart => exact ⟨(1), (by rfl), H', ⟨Nat.le_refl _⟩, by repeat (first | exact Drawn0.refl _ | apply Drawn0.step)⟩
   case round =>
    clear H'
    obtain ⟨x3_2, rfl, HA, HK2, ⟨m2, rfl⟩⟩ := hrel
    cases gk with
    | zero => exact absurd HA.out (by simp [fastjson_skipWSSlow.l0])
    | succ k2 =>
     have H := HA.out
     clear HA
     simp only [fastjson_skipWSSlow.l0] at H
     by_cases c13 : x3_2 < (a0.size : Int)
     rotate_left
     ·rw [if_neg c13] at H
      have c13b0 : decide (x3_2 < (a0.size : Int)) = false := decide_eq_false c13
      clear c13
      obtain rfl := Option.some.inj H
      go_wp2
      go_ret
      exact ⟨by rfl, by repeat (first | exact Drawn0.refl _ | apply Drawn0.step)⟩
     rw [if_pos c13] at H
     have c13b0 : decide (x3_2 < (a0.size : Int)) = true := decide_eq_true c13
     clear c13
     by_cases c14 : 0 ≤ x3_2
     rotate_left
     ·rw [if_neg c14] at H
      exact absurd H (by simp)
     rw [if_pos c14] at H
     have c14b0 : decide (0 ≤ x3_2) = true := decide_eq_true c14
     clear c14
     by_cases c16 : (bt a0 x3_2) = 32
     ·rw [if_pos c16] at H
      have c16b0 : ((bt a0 x3_2) == 32) = true := beq_iff_eq.mpr c16
      have c16b1 : ((bt a0 x3_2) != 32) = false := bne_eq_false_iff_eq.mpr c16
      clear c16
      have H' := mk0 H
      clear H
      have p15 : 0 ≤ (x3_2 : Int) := of_decide_eq_true zq5
      have q15 : x3_2 < (a0.size : Int) := of_decide_eq_true zq5
      have hx15 := bt_at a0 x3_2
      replace p15 := eq_true p15
      replace q15 := eq_true q15
      go_wp2
      go_roundg k2
      case measure => have := HJ1.out; have := HK2.out; omega
      case rel => exact ⟨(wrap64 (x3_2 + 1)), (by rfl), H', ⟨by have := HJ1.out; have := HK2.out; omega⟩, by repeat (first | exact Drawn0.refl _ | apply Drawn0.step)⟩
     rw [if_neg c16] at H
     have c16b0 : ((bt a0 x3_2) == 32) = false := beq_eq_false_iff_ne.mpr c16
     have c16b1 : ((bt a0 x3_2) != 32) = true := bne_iff_ne.mpr c16
     by_cases c18 : (bt a0 x3_2) = 10
     ·rw [if_pos c18] at H
      have c18b0 : ((bt a0 x3_2) == 10) = true := beq_iff_eq.mpr c18
      have c18b1 : ((bt a0 x3_2) != 10) = false := bne_eq_false_iff_eq.mpr c18
      clear c18
      have H' := mk0 H
      clear H
      have p15 : 0 ≤ (x3_2 : Int) := of_decide_eq_true zq5
      have q15 : x3_2 < (a0.size : Int) := of_decide_eq_true zq5
      have hx15 := bt_at a0 x3_2
      replace p15 := eq_true p15
      replace q15 := eq_true q15
      have p17 : 0 ≤ (x3_2 : Int) := of_decide_eq_true zq5
      have q17 : x3_2 < (a0.size : Int) := of_decide_eq_true zq5
      have hx17 := bt_at a0 x3_2
      replace p17 := eq_true p17
      replace q17 := eq_true q17
      go_wp2
      go_roundg k2
      case measure => have := HJ1.out; have := HK2.out; omega
      case rel => exact ⟨(wrap64 (x3_2 + 1)), (by rfl), H', ⟨by have := HJ1.out; have := HK2.out; omega⟩, by repeat (first | exact Drawn0.refl _ | apply Drawn0.step)⟩
     rw [if_neg c18] at H
     have c18b0 : ((bt a0 x3_2) == 10) = false := beq_eq_false_iff_ne.mpr c18
     have c18b1 : ((bt a0 x3_2) != 10) = true := bne_iff_ne.mpr c18
     by_cases c20 : (bt a0 x3_2) = 9
     ·rw [if_pos c20] at H
      have c20b0 : ((bt a0 x3_2) == 9) = true := beq_iff_eq.mpr c20
      have c20b1 : ((bt a0 x3_2) != 9) = false := bne_eq_false_iff_eq.mpr c20
      clear c20
      have H' := mk0 H
      clear H
      have p15 : 0 ≤ (x3_2 : Int) := of_decide_eq_true zq5
      have q15 : x3_2 < (a0.size : Int) := of_decide_eq_true zq5
      have hx15 := bt_at a0 x3_2
      replace p15 := eq_true p15
      replace q15 := eq_true q15
      have p17 : 0 ≤ (x3_2 : Int) := of_decide_eq_true zq5
      have q17 : x3_2 < (a0.size : Int) := of_decide_eq_true zq5
      have hx17 := bt_at a0 x3_2
      replace p17 := eq_true p17
      replace q17 := eq_true q17
      have p19 : 0 ≤ (x3_2 : Int) := of_decide_eq_true zq5
      have q19 : x3_2 < (a0.size : Int) := of_decide_eq_true zq5
      have hx19 := bt_at a0 x3_2
      replace p19 := eq_true p19
      replace q19 := eq_true q19
      go_wp2
      go_roundg k2
      case measure => have := HJ1.out; have := HK2.out; omega
      case rel => exact ⟨(wrap64 (x3_2 + 1)), (by rfl), H', ⟨by have := HJ1.out; have := HK2.out; omega⟩, by repeat (first | exact Drawn0.refl _ | apply Drawn0.step)⟩
     rw [if_neg c20] at H
     have c20b0 : ((bt a0 x3_2) == 9) = false := beq_eq_false_iff_ne.mpr c20
     have c20b1 : ((bt a0 x3_2) != 9) = true := bne_iff_ne.mpr c20
     by_cases c22 : (bt a0 x3_2) = 13
     ·rw [if_pos c22] at H
      have c22b0 : ((bt a0 x3_2) == 13) = true := beq_iff_eq.mpr c22
      have c22b1 : ((bt a0 x3_2) != 13) = false := bne_eq_false_iff_eq.mpr c22
      clear c22
      have H' := mk0 H
      clear H
      have p15 : 0 ≤ (x3_2 : Int) := of_decide_eq_true zq5
      have q15 : x3_2 < (a0.size : Int) := of_decide_eq_true zq5
      have hx15 := bt_at a0 x3_2
      replace p15 := eq_true p15
      replace q15 := eq_true q15
      have p17 : 0 ≤ (x3_2 : Int) := of_decide_eq_true zq5
      have q17 : x3_2 < (a0.size : Int) := of_decide_eq_true zq5
      have hx17 := bt_at a0 x3_2
      replace p17 := eq_true p17
      replace q17 := eq_true q17
      have p19 : 0 ≤ (x3_2 : Int) := of_decide_eq_true zq5
      have q19 : x3_2 < (a0.size : Int) := of_decide_eq_true zq5
      have hx19 := bt_at a0 x3_2
      replace p19 := eq_true p19
      replace q19 := eq_true q19
      have p21 : 0 ≤ (x3_2 : Int) := of_decide_eq_true zq5
      have q21 : x3_2 < (a0.size : Int) := of_decide_eq_true zq5
      have hx21 := bt_at a0 x3_2
      replace p21 := eq_true p21
      replace q21 := eq_true q21
      go_wp2
      go_roundg k2
      case measure => have := HJ1.out; have := HK2.out; omega
      case rel => exact ⟨(wrap64 (x3_2 + 1)), (by rfl), H', ⟨by have := HJ1.out; have := HK2.out; omega⟩, by repeat (first | exact Drawn0.refl _ | apply Drawn0.step)⟩
     rw [if_neg c22] at H
     have c22b0 : ((bt a0 x3_2) == 13) = false := beq_eq_false_iff_ne.mpr c22
     have c22b1 : ((bt a0 x3_2) != 13) = true := bne_iff_ne.mpr c22
     have c23b0 := eq_true (of_decide_eq_true zq5 : 0 ≤ x3_2)
     by_cases c24 : x3_2 ≤ (a0.size : Int)
     rotate_left
     ·rw [if_neg c24] at H
      exact absurd H (by simp)
     rw [if_pos c24] at H
     have c24b0 := eq_true c24
     have c24b1 : decide (x3_2 ≤ (a0.size : Int)) = true := decide_eq_true c24
     clear c24
     obtain rfl := Option.some.inj H
     have p15 : 0 ≤ (x3_2 : Int) := of_decide_eq_true zq5
     have q15 : x3_2 < (a0.size : Int) := of_decide_eq_true zq5
     have hx15 := bt_at a0 x3_2
     replace p15 := eq_true p15
     replace q15 := eq_true q15
     have p17 : 0 ≤ (x3_2 : Int) := of_decide_eq_true zq5
     have q17 : x3_2 < (a0.size : Int) := of_decide_eq_true zq5
     have hx17 := bt_at a0 x3_2
     replace p17 := eq_true p17
     replace q17 := eq_true q17
     have p19 : 0 ≤ (x3_2 : Int) := of_decide_eq_true zq5
     have q19 : x3_2 < (a0.size : Int) := of_decide_eq_true zq5
     have hx19 := bt_at a0 x3_2
     replace p19 := eq_true p19
     replace q19 := eq_true q19
     have p21 : 0 ≤ (x3_2 : Int) := of_decide_eq_true zq5
     have q21 : x3_2 < (a0.size : Int) := of_decide_eq_true zq5
     have hx21 := bt_at a0 x3_2
     replace p21 := eq_true p21
     replace q21 := eq_true q21
     go_wp2
     go_ret
     exact ⟨by rfl, by repeat (first | exact Drawn0.refl _ | apply Drawn0.step)⟩
def fastjson_skipWS.f (k : Nat) (a0 : ByteArray) : Option (ByteArray) := if (a0.size : Int) = 0 then (some a0) else (if 0 < (a0.size : Int) then (if (bt a0 0) > 32 then (some a0) else ((fastjson_skipWSSlow.f k a0).bind fun t101 => (some t101))) else (none))
theorem fastjson_skipWS.mono : ∀ a0 k, LeO (fastjson_skipWS.f k a0) (fastjson_skipWS.f (k + 1) a0) := by
 intro a0 k
 unfold fastjson_skipWS.f
 repeat' first
  | (with_reducible exact fastjson_skipWSSlow.mono _ _)
  | (with_reducible exact LeO.refl _)
  | (with_reducible exact LeO.none _)
  | (with_reducible refine LeO.ite ?_ ?_)
  | (with_reducible refine LeO.bind ?_ (fun _ => ?_))
  | exact fastjson_skipWSSlow.mono _ _
  | exact LeO.none _
  | refine LeO.ite ?_ ?_
  | refine LeO.bind ?_ (fun _ => ?_)
set_option maxHeartbeats 8000000 in
set_option maxRecDepth 100000 in
theorem fastjson_skipWS.calls (k : Nat) (a0 : ByteArray) (r : ByteArray) (w : World) (h : fastjson_skipWS.f k a0 = some r) :
 Calls Tryd.prog 74 #[.string a0] w fun e w' => e = .returned (.string r) ∧ Drawn0 w w' := by
 have H : (if (a0.size : Int) = 0 then (some a0) else (if 0 < (a0.size : Int) then (if (bt a0 0) > 32 then (some a0) else ((fastjson_skipWSSlow.f k a0).bind fun t101 => (some t101))) else (none))) = some r := h
 clear h
 by_cases c2 : (a0.size : Int) = 0
 ·rw [if_pos c2] at H
  have c2b0 : ((a0.size : Int) == 0) = true := beq_iff_eq.mpr c2
  have c2b1 : ((a0.size : Int) != 0) = false := bne_eq_false_iff_eq.mpr c2
  clear c2
  obtain rfl := Option.some.inj H
  go_enter Tryd.func74, Tryd.ntmps74
  go_wp2
  go_ret
  exact ⟨by rfl, by repeat (first | exact Drawn0.refl _ | apply Drawn0.step)⟩
 rw [if_neg c2] at H
 have c2b0 : ((a0.size : Int) == 0) = false := beq_eq_false_iff_ne.mpr c2
 have c2b1 : ((a0.size : Int) != 0) = true := bne_iff_ne.mpr c2
 by_cases c3 : 0 < (a0.size : Int)
 rotate_left
 ·rw [if_neg c3] at H
  exact absurd H (by simp)
 rw [if_pos c3] at H
 have c3b0 : decide (0 < (a0.size : Int)) = true := decide_eq_true c3
 have c3b1 : decide (0 < a0.size) = true := decide_eq_true (by omega)
 clear c3
 by_cases c5 : (bt a0 0) > 32
 ·rw [if_pos c5] at H
  have c5b0 : decide (32 < (bt a0 0)) = true := decide_eq_true c5
  clear c5
  obtain rfl := Option.some.inj H
  have p4 : 0 ≤ (0 : Int) := (by omega)
  have q4 : 0 < a0.size := (by have : (0 : Int) < (a0.size : Int) := of_decide_eq_true zq5; omega)
  have hx4 : ∀ h : 0 < a0.size, ((a0[0]'h).toNat : Int) = bt a0 0 := bt_at a0 0
  clear p4
  have qi4 : (0 < (a0.size : Int)) = True := eq_true (of_decide_eq_true zq5)
  replace q4 := eq_true q4
  go_enter Tryd.func74, Tryd.ntmps74
  go_wp2
  go_ret
  exact ⟨by rfl, by repeat (first | exact Drawn0.refl _ | apply Drawn0.step)⟩
 rw [if_neg c5] at H
 have c5b0 : decide (32 < (bt a0 0)) = false := decide_eq_false c5
 clear c5
 replace H := Option.bind_eq_some_iff.mp H
 obtain ⟨t101, A60, H⟩ := H
 (try dsimp only at H)
 have A6 := mk0 A60
 clear A60
 obtain rfl := Option.some.inj H
 have p4 : 0 ≤ (0 : Int) := (by omega)
 have q4 : 0 < a0.size := (by have : (0 : Int) < (a0.size : Int) := of_decide_eq_true zq5; omega)
 have hx4 : ∀ h : 0 < a0.size, ((a0[0]'h).toNat : Int) = bt a0 0 := bt_at a0 0
 clear p4
 have qi4 : (0 < (a0.size : Int)) = True := eq_true (of_decide_eq_true zq5)
 replace q4 := eq_true q4
 go_enter Tryd.func74, Tryd.ntmps74
 go_wp2_with (first | ((with_reducible refine gate_callee (f := 96) rfl ?_); refine goesL_ (some 13) rfl rfl Tryd.func96 zq24 rfl #[.string a0] rfl zq0 ?_; (with_reducible refine (fastjson_skipWSSlow.calls k a0 t101 _ A6.out).mono ?_); rintro e w' ⟨rfl, ⟨nd, rfl⟩⟩; refine ⟨_, rfl, ?_⟩))
 go_ret
 exact ⟨by rfl, by repeat (first | exact Drawn0.refl _ | apply Drawn0.step)⟩
def loB (c : Int) : Int := bits .or .u8 c 32
def hxd (c : Int) : Option Int := if 48 ≤ c ∧ c ≤ 57 then some (c - 48) else if 97 ≤ loB c ∧ loB c ≤ 102 then some (loB c - 87) else none
def hxs : Int → List UInt8 → Option Int
  | acc, [] => some acc
  | acc, c :: r => (hxd (c.toNat : Int)).bind fun d => hxs (acc * 16 + d) r
def hxT : Option Int → Value
  | some v => .tuple #[.int .u64 v, .nilIface]
  | none => .tuple #[.int .u64 0, .iface 148 (.int .i64 2)]
theorem lower_calls (c : Int) (w : World) : Calls Tryd.prog 111 #[.int .u8 c] w fun e w' => e = .returned (.int .u8 (loB c)) ∧ w' = w := by
 go_enter Tryd.func111, Tryd.ntmps111
 go_wp2
 go_ret
 exact ⟨rfl, rfl⟩
set_option maxHeartbeats 32000000 in
set_option maxRecDepth 100000 in
theorem pu16 (t : ByteArray) (hsz : t.size = 4) (w : World) :
 Calls Tryd.prog 84 #[.string t, .int .i64 16, .int .i64 16] w fun e w' => e = .returned (hxT (hxs 0 t.data.toList)) ∧ w' = Lib.bytesWorld w 5 t := by
 have hemp : t.toList.isEmpty = false := by
  rw [← decide_eq_emptyBytes]
  exact decide_eq_false (fun h => by rw [h] at hsz; revert hsz; decide)
 have hcv := Lib.run_convert_string_bytes (P := Tryd.prog) w 9 29 5 t (u := .string) Tryd.underlying9 Tryd.underlying29 Tryd.underlying5
 have hB : ∀ j, j < t.size → (Lib.bytesWorld w 5 t).cell? ⟨w.heap.size, j, none⟩ = some (.int .u8 (t.data.toList.getD j 0).toNat) := fun j hj => Lib.bytesWorld_cell w 5 t j hj
 obtain ⟨W1, hW1⟩ : ∃ W1, W1 = Lib.bytesWorld w 5 t := ⟨_, rfl⟩
 rw [← hW1] at hcv hB ⊢
 clear hW1
 obtain ⟨bs, hL⟩ : ∃ bs, bs = t.data.toList := ⟨_, rfl⟩
 have hLn : bs.length = t.size := by rw [hL, Lib.size_eq]
 rw [← hL] at hB ⊢
 clear hL
 go_enter Tryd.func84, Tryd.ntmps84
 go_wp2
 go_loop [12, 13, 101] (fun vu vn vi => ∃ (k : Nat) (a : Int), vu = .bool false ∧ vn = .int .u64 a ∧ vi = .int .i64 k ∧ k ≤ t.size ∧ Hid (0 ≤ a ∧ a < 16 ^ k ∧ hxs 0 bs = hxs a (bs.drop k)))
  (fun _ _ vi => t.size - (intOf vi).toNat)
 case atStart => exact ⟨0, 0, rfl, rfl, rfl, by omega, Lib.hid ⟨by omega, by decide, rfl⟩⟩
 case round =>
  obtain ⟨k, a, rfl, rfl, rfl, hk, hh⟩ := hrel
  obtain ⟨ha, hacc, hdec⟩ := hh.out
  clear hh
  have h4 : k ≤ 4 := by omega
  have hle : a < 65536 := by
   have h1 : (16 : Nat) ^ k ≤ 16 ^ 4 := Nat.pow_le_pow_right zq47 h4
   have h2 : ((16 ^ k : Nat) : Int) ≤ ((16 ^ 4 : Nat) : Int) := by exact_mod_cast h1
   have h3 : (16 : Int) ^ k ≤ 65536 := by simpa using h2
   omega
  by_cases hkn : k < t.size
  rotate_left
  ·have hkk : k = t.size := by omega
   subst hkk
   have hF : hxs a (bs.drop t.size) = some a := by rw [List.drop_eq_nil_of_le (by omega)]; rfl
   rw [hF] at hdec
   clear hF hacc
   go_wp2
   go_ret2
   exact ⟨rfl, rfl⟩
  have hc := hB k hkn
  have hdrop : bs.drop k = bs[k]'(by omega) :: bs.drop (k + 1) := List.drop_eq_getElem_cons (by omega)
  have hget : bs.getD k 0 = bs[k]'(by omega) := by simp [List.getD, List.getElem?_eq_getElem (show k < bs.length by omega)]
  rw [hdrop] at hdec
  rw [hget] at hc
  generalize bs[k]'(by omega) = c at hc hdec
  have hc256 : c.toNat < 256 := c.toNat_lt
  clear hB hdrop hget
  have hle2 : a < 4096 := by
   have h1 : (16 : Nat) ^ k ≤ 16 ^ 3 := Nat.pow_le_pow_right zq47 (by omega)
   have h2 : ((16 ^ k : Nat) : Int) ≤ ((16 ^ 3 : Nat) : Int) := by exact_mod_cast h1
   have h3 : (16 : Int) ^ k ≤ 4096 := by simpa using h2
   omega
  have hv0 : 0 ≤ loB (c.toNat : Int) := bits_lo_u8 .or (c.toNat : Int) 32
  have hv1 : loB (c.toNat : Int) ≤ 255 := by have := bits_hi_u8 .or (c.toNat : Int) 32; unfold loB; omega
  by_cases hdig : 48 ≤ c.toNat ∧ c.toNat ≤ 57
  ·obtain ⟨hd0, hd1⟩ := hdig
   have hF : hxd (c.toNat : Int) = some ((c.toNat : Int) - 48) := by rw [hxd, if_pos (by omega)]
   have HN : Hid (0 ≤ a * 16 + ((c.toNat : Int) - 48) ∧ a * 16 + ((c.toNat : Int) - 48) < 16 ^ (k + 1) ∧ hxs 0 bs = hxs (a * 16 + ((c.toNat : Int) - 48)) (bs.drop (k + 1))) := Lib.hid ⟨by omega, by rw [Int.pow_succ]; omega, by rw [hdec, hxs, hF, Option.bind_some]⟩
   have icut : a < 1152921504606846976 := by omega
   have iov : a * 16 + ((c.toNat : Int) - 48) ≤ 65535 := by omega
   clear hF hdec hacc hv0 hv1
   go_wp2
   refine ⟨⟨k + 1, a * 16 + ((c.toNat : Int) - 48), rfl, (by rfl), (by rfl), by omega, HN⟩, by simp [intOf]; omega⟩
  have low : ∀ W, Calls Tryd.prog 111 #[.int .u8 (c.toNat : Int)] W fun e w' => e = .returned (.int .u8 (loB (c.toNat : Int))) ∧ w' = W := fun W => lower_calls _ W
  have hX0 : ∀ v, hxd (c.toNat : Int) = v → hxs 0 bs = v.bind fun d => hxs (a * 16 + d) (bs.drop (k + 1)) := fun v e => by rw [hdec, hxs, e]
  have hY : hxd (c.toNat : Int) = if 97 ≤ loB (c.toNat : Int) ∧ loB (c.toNat : Int) ≤ 102 then some (loB (c.toNat : Int) - 87) else none := by rw [hxd, if_neg (by omega)]
  have hX := hX0 _ hY
  clear hX0 hY hdec
  have h95L : (c.toNat : Int) = 95 → loB (c.toNat : Int) = 127 := fun e => by
   rw [e]
   decide
  generalize loB (c.toNat : Int) = L at hv0 hv1 low hX h95L
  by_cases hlet : 97 ≤ L ∧ L ≤ 122
  rotate_left
  ·rw [if_neg (by omega), Option.bind_none] at hX
   clear hacc
   by_cases h95 : (c.toNat : Int) = 95
   rotate_left
   ·go_wp2_with (go_at_call 111; refine (low _).mono ?_; rintro e w' ⟨rfl, rfl⟩)
    all_goals go_ret2
    all_goals first | exact ⟨rfl, rfl⟩ | exact ⟨by rw [hX]; rfl, rfl⟩
   have hl := h95L h95
   subst hl
   clear h95L
   rw [h95] at low hc
   go_wp2_with (go_at_call 111; refine (low _).mono ?_; rintro e w' ⟨rfl, rfl⟩)
   all_goals go_ret2
   all_goals first | exact ⟨rfl, rfl⟩ | exact ⟨by rw [hX]; rfl, rfl⟩
  obtain ⟨hl0, hl1⟩ := hlet
  have hn95 : ¬ (c.toNat : Int) = 95 := fun e => by
   have := h95L e
   omega
  clear h95L
  by_cases hx : L ≤ 102
  rotate_left
  ·rw [if_neg (by omega), Option.bind_none] at hX
   have hx' : 103 ≤ L := by omega
   clear hacc hx
   go_wp2_with (go_at_call 111; refine (low _).mono ?_; rintro e w' ⟨rfl, rfl⟩)
   all_goals go_ret2
   all_goals first | exact ⟨rfl, rfl⟩ | exact ⟨by rw [hX]; rfl, rfl⟩
  rw [if_pos ⟨hl0, hx⟩, Option.bind_some] at hX
  have HN : Hid (0 ≤ a * 16 + (L - 87) ∧ a * 16 + (L - 87) < 16 ^ (k + 1) ∧ hxs 0 bs = hxs (a * 16 + (L - 87)) (bs.drop (k + 1))) := Lib.hid ⟨by omega, by rw [Int.pow_succ]; omega, hX⟩
  have icut : a < 1152921504606846976 := by omega
  have iov : a * 16 + (L - 87) ≤ 65535 := by omega
  clear hX hacc
  go_wp2_with (go_at_call 111; refine (low _).mono ?_; rintro e w' ⟨rfl, rfl⟩)
  all_goals refine ⟨⟨k + 1, a * 16 + (L - 87), rfl, (by (congr 1; omega)), (by rfl), by omega, HN⟩, by simp [intOf]; omega⟩
theorem pub16 (t : ByteArray) (hsz : t.size = 4) (ev : Value) (w : World) (hv : w.cell? ⟨13, 0, none⟩ = some ev) (hev : ev = .nilIface ∨ ∃ te pe, ev = .iface te pe) :
 Calls Tryd.prog 55 #[.string t, .int .i64 16, .int .i64 16] w fun e w' => (∀ v, hxs 0 t.data.toList = some v → e = .returned (.tuple #[.int .u64 v, .nilIface])) ∧ (hxs 0 t.data.toList = none → ∃ N, e = .returned (.tuple #[.int .u64 0, .iface 149 (.pointer (some ⟨N, 0, none⟩))])) ∧ Below w.heap.size w w' := by
 have hG : (13 : Nat) < w.heap.size := Lib.lt_of_cell hv
 have hI := pu16 t hsz w
 have hT : ∀ W, W.cell? ⟨13, 0, none⟩ = some ev → Calls Tryd.prog 85 #[.string ⟨#[80, 97, 114, 115, 101, 85, 105, 110, 116]⟩, .string t, .int .i64 16, .int .i64 16, .iface 148 (.int .i64 2)] W fun e w' => ∃ N, e = .returned (.iface 149 (.pointer (some ⟨N, 0, none⟩))) ∧ Below W.heap.size W w' := fun W hW => by
  refine (show Calls Tryd.prog 85 #[.string ⟨#[80, 97, 114, 115, 101, 85, 105, 110, 116]⟩, .string t, .int .i64 16, .int .i64 16, .iface 148 (.int .i64 2)] W _ from AnyPu.strconv_toError_syntax (ρ := Tryd.laysPu14_ren) { Tryd.laysPu14 with } ⟨#[80, 97, 114, 115, 101, 85, 105, 110, 116]⟩ t 16 16 ev W (by omega) hW hev).mono ?_
  rintro e w' ⟨N, rfl, _, _, hb⟩
  exact ⟨N, rfl, hb⟩
 have hb1 : Below w.heap.size w (Lib.bytesWorld w 5 t) := Lib.bytesWorld_below _ _ _
 have hv1 : (Lib.bytesWorld w 5 t).cell? ⟨13, 0, none⟩ = some ev := (hb1.cell (show (⟨13, 0, none⟩ : Addr).block < w.heap.size from hG)).trans hv
 generalize Lib.bytesWorld w 5 t = W1 at hI hb1 hv1
 cases hx : hxs 0 t.data.toList with
 | some v =>
  rw [hx] at hI
  have hI : Calls Tryd.prog 84 #[.string t, .int .i64 16, .int .i64 16] w fun e w' => e = .returned (.tuple #[.int .u64 v, .nilIface]) ∧ w' = W1 := hI
  clear hT
  go_enter Tryd.func55, Tryd.ntmps55
  go_wp2_with (go_at_call 84; refine hI.mono ?_; rintro e W2 ⟨rfl, rfl⟩)
  go_wp2
  go_ret2
  exact ⟨fun v' e => (by cases e; rfl), fun e => (by cases e), hb1⟩
 | none =>
  rw [hx] at hI
  have hI : Calls Tryd.prog 84 #[.string t, .int .i64 16, .int .i64 16] w fun e w' => e = .returned (.tuple #[.int .u64 0, .iface 148 (.int .i64 2)]) ∧ w' = W1 := hI
  have hT := hT W1 hv1
  go_enter Tryd.func55, Tryd.ntmps55
  go_wp2_with (go_at_call 84; refine hI.mono ?_; rintro e W2 ⟨rfl, rfl⟩)
  go_wp2_with (go_at_call 85; refine hT.mono ?_; rintro e W3 ⟨N, rfl, h3⟩)
  go_wp2
  go_ret2
  exact ⟨fun v' e => (by cases e), fun _ => ⟨N, rfl⟩, hb1.trans (h3.mono hb1.size)⟩
def strconv_ParseUint_55.f (a0 : ByteArray) (a1 a2 : Int) : Option (Int × Option Int) :=
  if a1 = 10 ∧ a2 = 64 ∧ a0.size ≤ 281474976710656 then some (match Lib.parseUintB 64 a0.data.toList with | .ok u => ((u : Int), none) | .range => (18446744073709551615, some 0) | _ => (0, some 0))
  else if a1 = 16 ∧ a2 = 16 ∧ a0.size = 4 then some (match hxs 0 a0.data.toList with | some v => (v, none) | none => (0, some 0)) else none
theorem strconv_ParseUint_55.calls (a0 : ByteArray) (a1 a2 : Int) (r1 : Int) (r2 : Option Int) (w : World) (hG : Laid w) (h : strconv_ParseUint_55.f a0 a1 a2 = some (r1, r2)) :
 Calls Tryd.prog 55 #[.string a0, .int .i64 a1, .int .i64 a2] w fun e w' => ∃ z_r2 : Option Int, Zk z_r2 r2 ∧ e = .returned (.tuple #[.int .u64 r1, errW z_r2]) ∧ Below w.heap.size w w' := by
 simp only [strconv_ParseUint_55.f] at h
 split at h
 case isFalse =>
  split at h
  case isFalse => cases h
  case isTrue hc =>
  obtain ⟨rfl, rfl, hs⟩ := hc
  obtain ⟨te, pe, hes⟩ := hG.errS
  refine (pub16 a0 hs _ w hes (Or.inr ⟨_, _, rfl⟩)).mono ?_
  rintro e w' ⟨h1, h2, hb⟩
  cases hx : hxs 0 a0.data.toList with
  | some v =>
   rw [hx] at h
   cases h
   exact ⟨none, rfl, h1 _ hx, hb⟩
  | none =>
   rw [hx] at h
   cases h
   obtain ⟨N, rfl⟩ := h2 hx
   obtain ⟨z, hz, e⟩ := errW_mk 149 N zq47
   exact ⟨z, hz, by rw [← e], hb⟩
 case isTrue hc =>
 obtain ⟨rfl, rfl, hs⟩ := hc
 obtain ⟨te, pe, hes⟩ := hG.errS
 obtain ⟨te', pe', her⟩ := hG.errR
 cases hp : Lib.parseUintB 64 a0.data.toList with
 | ok u =>
  rw [hp] at h
  cases h
  refine (Tryd.strconv_ParseUint_10_at64_ok a0 (by omega) u hp w).mono ?_
  rintro e w' ⟨rfl, hw⟩
  refine ⟨none, rfl, rfl, ?_⟩
  rcases hw with rfl | rfl
  ·exact Below.refl _ _
  exact Lib.bytesWorld_below _ _ _
 | range =>
  rw [hp] at h
  cases h
  refine (Tryd.strconv_ParseUint_10_at64_range a0 hs hp _ w her (Or.inr ⟨_, _, rfl⟩)).mono ?_
  rintro e w' ⟨N, rfl, _, _, hb⟩
  obtain ⟨z, hz, e⟩ := errW_mk 149 N zq47
  exact ⟨z, hz, by rw [← e], hb⟩
 | _ =>
  rw [hp] at h
  cases h
  refine (Tryd.strconv_ParseUint_10_at64_syntax a0 hs hp _ w hes (Or.inr ⟨_, _, rfl⟩)).mono ?_
  rintro e w' ⟨N, rfl, _, _, hb⟩
  obtain ⟨z, hz, e⟩ := errW_mk 149 N zq47
  exact ⟨z, hz, by rw [← e], hb⟩
def strings_IndexByte.f (a0 : ByteArray) (a1 : Int) : Option Int := some (Lib.indexByte a0.data.toList a1.toNat.toUInt8)
theorem strings_IndexByte.calls (a0 : ByteArray) (a1 : Int) (r : Int) (w : World) (h : strings_IndexByte.f a0 a1 = some r) :
 Calls Tryd.prog 123 #[.string a0, .int .u8 a1] w fun e w' => e = .returned (.int .i64 r) ∧ Drawn0 w w' := by
 obtain rfl := Option.some.inj h
 refine (Tryd.strings_IndexByte a0 a1 w).mono ?_
 rintro e w' ⟨rfl, rfl⟩
 exact ⟨rfl, Drawn0.refl _⟩
mutual
def fastjson_parseRawString.j0 : Nat → ByteArray → Int → Bool → Option (ByteArray × ByteArray × Option Int)
  | 0, _, _, _ => none
  | k + 1, x0, x5, x22 => if x22 = true then (if 0 ≤ x5 then (if x5 ≤ (x0.size : Int) then (if 0 ≤ (wrap64 (x5 + 1)) then (if (wrap64 (x5 + 1)) ≤ (x0.size : Int) then (some (x0.extract 0 (x5 : Int).toNat, x0.extract ((wrap64 (x5 + 1)) : Int).toNat x0.size, none)) else (none)) else (none)) else (none)) else (none)) else (fastjson_parseRawString.l0 k x0 x5 x0)
def fastjson_parseRawString.l0 : Nat → ByteArray → Int → ByteArray → Option (ByteArray × ByteArray × Option Int)
  | 0, _, _, _ => none
  | k + 1, x0, x5, x6 => fastjson_parseRawString.l1 k x0 x5 x6 (wrap64 (x5 - 1))
def fastjson_parseRawString.j3 : Nat → ByteArray → Int → ByteArray → Int → Option (ByteArray × ByteArray × Option Int)
  | 0, _, _, _, _ => none
  | k + 1, x0, x5, x6, x7 => if (Int.tmod (IntKind.u64.wrap (wrap64 (x5 - x7))) 2) = 0 then (if 0 ≤ (wrap64 ((wrap64 ((x6.size : Int) - (x0.size : Int))) + x5)) then (if (wrap64 ((wrap64 ((x6.size : Int) - (x0.size : Int))) + x5)) ≤ (x6.size : Int) then (if 0 ≤ (wrap64 (x5 + 1)) then (if (wrap64 (x5 + 1)) ≤ (x0.size : Int) then (some (x6.extract 0 ((wrap64 ((wrap64 ((x6.size : Int) - (x0.size : Int))) + x5)) : Int).toNat, x0.extract ((wrap64 (x5 + 1)) : Int).toNat x0.size, none)) else (none)) else (none)) else (none)) else (none)) else (if 0 ≤ (wrap64 (x5 + 1)) then (if (wrap64 (x5 + 1)) ≤ (x0.size : Int) then ((strings_IndexByte.f (x0.extract ((wrap64 (x5 + 1)) : Int).toNat x0.size) 34).bind fun t103 => (if t103 < 0 then ((errors_New.f (⟨#[109, 105, 115, 115, 105, 110, 103, 32, 99, 108, 111, 115, 105, 110, 103]⟩ : ByteArray)).bind fun t104 => (some (x6, (⟨#[]⟩ : ByteArray), t104))) else (if t103 = 0 then (if 0 ≤ (wrap64 ((wrap64 ((x6.size : Int) - ((x0.extract ((wrap64 (x5 + 1)) : Int).toNat x0.size).size : Int))) + t103)) then (if (wrap64 ((wrap64 ((x6.size : Int) - ((x0.extract ((wrap64 (x5 + 1)) : Int).toNat x0.size).size : Int))) + t103)) ≤ (x6.size : Int) then (if 0 ≤ (wrap64 (t103 + 1)) then (if (wrap64 (t103 + 1)) ≤ ((x0.extract ((wrap64 (x5 + 1)) : Int).toNat x0.size).size : Int) then (some (x6.extract 0 ((wrap64 ((wrap64 ((x6.size : Int) - ((x0.extract ((wrap64 (x5 + 1)) : Int).toNat x0.size).size : Int))) + t103)) : Int).toNat, (x0.extract ((wrap64 (x5 + 1)) : Int).toNat x0.size).extract ((wrap64 (t103 + 1)) : Int).toNat (x0.extract ((wrap64 (x5 + 1)) : Int).toNat x0.size).size, none)) else (none)) else (none)) else (none)) else (none)) else (if 0 ≤ (wrap64 (t103 - 1)) then (if (wrap64 (t103 - 1)) < ((x0.extract ((wrap64 (x5 + 1)) : Int).toNat x0.size).size : Int) then (if (bt (x0.extract ((wrap64 (x5 + 1)) : Int).toNat x0.size) (wrap64 (t103 - 1))) = 92 then (fastjson_parseRawString.l0 k (x0.extract ((wrap64 (x5 + 1)) : Int).toNat x0.size) t103 x6) else (if 0 ≤ (wrap64 ((wrap64 ((x6.size : Int) - ((x0.extract ((wrap64 (x5 + 1)) : Int).toNat x0.size).size : Int))) + t103)) then (if (wrap64 ((wrap64 ((x6.size : Int) - ((x0.extract ((wrap64 (x5 + 1)) : Int).toNat x0.size).size : Int))) + t103)) ≤ (x6.size : Int) then (if 0 ≤ (wrap64 (t103 + 1)) then (if (wrap64 (t103 + 1)) ≤ ((x0.extract ((wrap64 (x5 + 1)) : Int).toNat x0.size).size : Int) then (some (x6.extract 0 ((wrap64 ((wrap64 ((x6.size : Int) - ((x0.extract ((wrap64 (x5 + 1)) : Int).toNat x0.size).size : Int))) + t103)) : Int).toNat, (x0.extract ((wrap64 (x5 + 1)) : Int).toNat x0.size).extract ((wrap64 (t103 + 1)) : Int).toNat (x0.extract ((wrap64 (x5 + 1)) : Int).toNat x0.size).size, none)) else (none)) else (none)) else (none)) else (none))) else (none)) else (none))))) else (none)) else (none))
def fastjson_parseRawString.l1 : Nat → ByteArray → Int → ByteArray → Int → Option (ByteArray × ByteArray × Option Int)
  | 0, _, _, _, _ => none
  | k + 1, x0, x5, x6, x7 => if x7 > 0 then (if 0 ≤ (wrap64 (x7 - 1)) then (if (wrap64 (x7 - 1)) < (x0.size : Int) then (if (bt x0 (wrap64 (x7 - 1))) = 92 then (fastjson_parseRawString.l1 k x0 x5 x6 (wrap64 (x7 - 1))) else (fastjson_parseRawString.j3 k x0 x5 x6 x7)) else (none)) else (none)) else (fastjson_parseRawString.j3 k x0 x5 x6 x7)
end
def fastjson_parseRawString.f (k : Nat) (a0 : ByteArray) : Option (ByteArray × ByteArray × Option Int) := (strings_IndexByte.f a0 34).bind fun t101 => (if t101 < 0 then ((errors_New.f (⟨#[109, 105, 115, 115, 105, 110, 103, 32, 99, 108, 111, 115, 105, 110, 103]⟩ : ByteArray)).bind fun t102 => (some (a0, (⟨#[]⟩ : ByteArray), t102))) else (if t101 = 0 then (fastjson_parseRawString.j0 k a0 t101 true) else (if 0 ≤ (wrap64 (t101 - 1)) then (if (wrap64 (t101 - 1)) < (a0.size : Int) then (fastjson_parseRawString.j0 k a0 t101 ((bt a0 (wrap64 (t101 - 1))) != 92)) else (none)) else (none))))
theorem fastjson_parseRawString.mono_l : ∀ k, (∀ y0 y1 y2, LeO (fastjson_parseRawString.j0 k y0 y1 y2) (fastjson_parseRawString.j0 (k + 1) y0 y1 y2)) ∧ (∀ y0 y1 y2, LeO (fastjson_parseRawString.l0 k y0 y1 y2) (fastjson_parseRawString.l0 (k + 1) y0 y1 y2)) ∧ (∀ y0 y1 y2 y3, LeO (fastjson_parseRawString.j3 k y0 y1 y2 y3) (fastjson_parseRawString.j3 (k + 1) y0 y1 y2 y3)) ∧ (∀ y0 y1 y2 y3, LeO (fastjson_parseRawString.l1 k y0 y1 y2 y3) (fastjson_parseRawString.l1 (k + 1) y0 y1 y2 y3))
 | 0 => ⟨fun _ _ _ r h => by simp [fastjson_parseRawString.j0] at h, fun _ _ _ r h => by simp [fastjson_parseRawString.l0] at h, fun _ _ _ _ r h => by simp [fastjson_parseRawString.j3] at h, fun _ _ _ _ r h => by simp [fastjson_parseRawString.l1] at h⟩
 | k + 1 => by
  obtain ⟨ih0, ih1, ih2, ih3⟩ := fastjson_parseRawString.mono_l k
  refine ⟨?_, ?_, ?_, ?_⟩
  ·intro y0 y1 y2
   unfold fastjson_parseRawString.j0
   repeat' first
   | (with_reducible exact ih0 _ _ _)
   | (with_reducible exact ih1 _ _ _)
   | (with_reducible exact ih2 _ _ _ _)
   | (with_reducible exact ih3 _ _ _ _)
   | (with_reducible exact LeO.refl _)
   | (with_reducible exact LeO.none _)
   | (with_reducible refine LeO.ite ?_ ?_)
   | (with_reducible refine LeO.bind ?_ (fun _ => ?_))
   | exact ih0 _ _ _
   | exact ih1 _ _ _
   | exact ih2 _ _ _ _
   | exact ih3 _ _ _ _
   | exact LeO.none _
   | refine LeO.ite ?_ ?_
   | refine LeO.bind ?_ (fun _ => ?_)
  ·intro y0 y1 y2
   unfold fastjson_parseRawString.l0
   repeat' first
   | (with_reducible exact ih0 _ _ _)
   | (with_reducible exact ih1 _ _ _)
   | (with_reducible exact ih2 _ _ _ _)
   | (with_reducible exact ih3 _ _ _ _)
   | (with_reducible exact LeO.refl _)
   | (with_reducible exact LeO.none _)
   | (with_reducible refine LeO.ite ?_ ?_)
   | (with_reducible refine LeO.bind ?_ (fun _ => ?_))
   | exact ih0 _ _ _
   | exact ih1 _ _ _
   | exact ih2 _ _ _ _
   | exact ih3 _ _ _ _
   | exact LeO.none _
   | refine LeO.ite ?_ ?_
   | refine LeO.bind ?_ (fun _ => ?_)
  ·intro y0 y1 y2 y3
   unfold fastjson_parseRawString.j3
   repeat' first
   | (with_reducible exact ih0 _ _ _)
   | (with_reducible exact ih1 _ _ _)
   | (with_reducible exact ih2 _ _ _ _)
   | (with_reducible exact ih3 _ _ _ _)
   | (with_reducible exact LeO.refl _)
   | (with_reducible exact LeO.none _)
   | (with_reducible refine LeO.ite ?_ ?_)
   | (with_reducible refine LeO.bind ?_ (fun _ => ?_))
   | exact ih0 _ _ _
   | exact ih1 _ _ _
   | exact ih2 _ _ _ _
   | exact ih3 _ _ _ _
   | exact LeO.none _
   | refine LeO.ite ?_ ?_
   | refine LeO.bind ?_ (fun _ => ?_)
  ·intro y0 y1 y2 y3
   unfold fastjson_parseRawString.l1
   repeat' first
   | (with_reducible exact ih0 _ _ _)
   | (with_reducible exact ih1 _ _ _)
   | (with_reducible exact ih2 _ _ _ _)
   | (with_reducible exact ih3 _ _ _ _)
   | (with_reducible exact LeO.refl _)
   | (with_reducible exact LeO.none _)
   | (with_reducible refine LeO.ite ?_ ?_)
   | (with_reducible refine LeO.bind ?_ (fun _ => ?_))
   | exact ih0 _ _ _
   | exact ih1 _ _ _
   | exact ih2 _ _ _ _
   | exact ih3 _ _ _ _
   | exact LeO.none _
   | refine LeO.ite ?_ ?_
   | refine LeO.bind ?_ (fun _ => ?_)
theorem fastjson_parseRawString.mono : ∀ a0 k, LeO (fastjson_parseRawString.f k a0) (fastjson_parseRawString.f (k + 1) a0) := by
 intro a0 k
 obtain ⟨ih0, ih1, ih2, ih3⟩ := fastjson_parseRawString.mono_l k
 unfold fastjson_parseRawString.f
 repeat' first
  | (with_reducible exact ih0 _ _ _)
  | (with_reducible exact ih1 _ _ _)
  | (with_reducible exact ih2 _ _ _ _)
  | (with_reducible exact ih3 _ _ _ _)
  | (with_reducible exact LeO.refl _)
  | (with_reducible exact LeO.none _)
  | (with_reducible refine LeO.ite ?_ ?_)
  | (with_reducible refine LeO.bind ?_ (fun _ => ?_))
  | exact ih0 _ _ _
  | exact ih1 _ _ _
  | exact ih2 _ _ _ _
  | exact ih3 _ _ _ _
  | exact LeO.none _
  | refine LeO.ite ?_ ?_
  | refine LeO.bind ?_ (fun _ => ?_)
set_option maxHeartbeats 8000000 in
set_option maxRecDepth 100000 in
theorem fastjson_parseRawString.calls (k : Nat) (a0 : ByteArray) (r1 : ByteArray) (r2 : ByteArray) (r3 : Option Int) (w : World) (h : fastjson_parseRawString.f k a0 = some (r1, r2, r3)) :
 Calls Tryd.prog 100 #[.string a0] w fun e w' => ∃ z_r3 : Option Int, Zk z_r3 r3 ∧ e = .returned (.tuple #[.string r1, .string r2, errW z_r3]) ∧ Below w.heap.size w w' := by
 have HB := mk0 (Below.refl w.heap.size w)
 have H : ((strings_IndexByte.f a0 34).bind fun t101 => (if t101 < 0 then ((errors_New.f (⟨#[109, 105, 115, 115, 105, 110, 103, 32, 99, 108, 111, 115, 105, 110, 103]⟩ : ByteArray)).bind fun t102 => (some (a0, (⟨#[]⟩ : ByteArray), t102))) else (if t101 = 0 then (fastjson_parseRawString.j0 k a0 t101 true) else (if 0 ≤ (wrap64 (t101 - 1)) then (if (wrap64 (t101 - 1)) < (a0.size : Int) then (fastjson_parseRawString.j0 k a0 t101 ((bt a0 (wrap64 (t101 - 1))) != 92)) else (none)) else (none))))) = some (r1, r2, r3) := h
 clear h
 replace H := Option.bind_eq_some_iff.mp H
 obtain ⟨t101, A20, H⟩ := H
 (try dsimp only at H)
 have A2 := mk0 A20
 clear A20
 by_cases c3 : t101 < 0
 ·rw [if_pos c3] at H
  have c3b0 : decide (t101 < 0) = true := decide_eq_true c3
  clear c3
  replace H := Option.bind_eq_some_iff.mp H
  obtain ⟨t102, A40, H⟩ := H
  (try dsimp only at H)
  have A4 := mk0 A40
  clear A40
  simp only [Option.some.injEq, Prod.mk.injEq] at H
  obtain ⟨rfl, rfl, rfl⟩ := H
  go_enter Tryd.func100, Tryd.ntmps100
  go_wp2_with (first | (go_at_call 123; (with_reducible refine (strings_IndexByte.calls a0 34 t101 _ A2.out).mono ?_); rintro e w' ⟨rfl, ⟨nd, rfl⟩⟩; (try first | exact ⟨rfl, _, World.drewN_drewN _ _ _⟩ | exact ⟨rfl, _, Eq.trans (World.drewN_drewN _ _ _) (congrArg (World.drewN _) (Nat.add_assoc _ _ _))⟩)) | (go_at_call 54; (with_reducible refine (errors_New.calls (⟨#[109, 105, 115, 115, 105, 110, 103, 32, 99, 108, 111, 115, 105, 110, 103]⟩ : ByteArray) t102 _ A4.out).mono ?_); rintro e w5 ⟨z_t102, hz_t102, rfl, hb⟩; have Hz_t102 := mk0 hz_t102; clear hz_t102; have n0_ := mk0 (below_step zq1 hb); clear HB; have HB := n0_; clear n0_ hb; (try simp only [errW_none, errW_some])))
  repeat (go_quiet (first | (go_at_call 123; (with_reducible refine (strings_IndexByte.calls a0 34 t101 _ A2.out).mono ?_); rintro e w' ⟨rfl, ⟨nd, rfl⟩⟩; (try first | exact ⟨rfl, _, World.drewN_drewN _ _ _⟩ | exact ⟨rfl, _, Eq.trans (World.drewN_drewN _ _ _) (congrArg (World.drewN _) (Nat.add_assoc _ _ _))⟩)) | (go_at_call 54; (with_reducible refine (errors_New.calls (⟨#[109, 105, 115, 115, 105, 110, 103, 32, 99, 108, 111, 115, 105, 110, 103]⟩ : ByteArray) t102 _ A4.out).mono ?_); rintro e w5 ⟨z_t102, hz_t102, rfl, hb⟩; have Hz_t102 := mk0 hz_t102; clear hz_t102; replace HB := mk0 (below_step zq1 hb); (try simp only [errW_none, errW_some]))); try go_wp2_with (first | (go_at_call 123; (with_reducible refine (strings_IndexByte.calls a0 34 t101 _ A2.out).mono ?_); rintro e w' ⟨rfl, ⟨nd, rfl⟩⟩; (try first | exact ⟨rfl, _, World.drewN_drewN _ _ _⟩ | exact ⟨rfl, _, Eq.trans (World.drewN_drewN _ _ _) (congrArg (World.drewN _) (Nat.add_assoc _ _ _))⟩)) | (go_at_call 54; (with_reducible refine (errors_New.calls (⟨#[109, 105, 115, 115, 105, 110, 103, 32, 99, 108, 111, 115, 105, 110, 103]⟩ : ByteArray) t102 _ A4.out).mono ?_); rintro e w5 ⟨z_t102, hz_t102, rfl, hb⟩; have Hz_t102 := mk0 hz_t102; clear hz_t102; replace HB := mk0 (below_step zq1 hb); (try simp only [errW_none, errW_some]))))
  go_ret3
  exact ⟨z_t102, Hz_t102.out, by rfl, by repeat (first | (with_reducible first | exact HB.out | apply below_alloc | apply pw_below_drewN | apply below_drew1) | exact HB.out)⟩
 rw [if_neg c3] at H
 have c3b0 : decide (t101 < 0) = false := decide_eq_false c3
 clear c3
 have HC6 := mk0 H
 clear H
 go_enter Tryd.func100, Tryd.ntmps100
 go_upto_region 4 with (first | (go_at_call 123; (with_reducible refine (strings_IndexByte.calls a0 34 t101 _ A2.out).mono ?_); rintro e w' ⟨rfl, ⟨nd, rfl⟩⟩; (try first | exact ⟨rfl, _, World.drewN_drewN _ _ _⟩ | exact ⟨rfl, _, Eq.trans (World.drewN_drewN _ _ _) (congrArg (World.drewN _) (Nat.add_assoc _ _ _))⟩)))
 repeat (go_quiet (first | (go_at_call 123; (with_reducible refine (strings_IndexByte.calls a0 34 t101 _ A2.out).mono ?_); rintro e w' ⟨rfl, ⟨nd, rfl⟩⟩; (try first | exact ⟨rfl, _, World.drewN_drewN _ _ _⟩ | exact ⟨rfl, _, Eq.trans (World.drewN_drewN _ _ _) (congrArg (World.drewN _) (Nat.add_assoc _ _ _))⟩))); go_upto_region 4 with (first | (go_at_call 123; (with_reducible refine (strings_IndexByte.calls a0 34 t101 _ A2.out).mono ?_); rintro e w' ⟨rfl, ⟨nd, rfl⟩⟩; (try first | exact ⟨rfl, _, World.drewN_drewN _ _ _⟩ | exact ⟨rfl, _, Eq.trans (World.drewN_drewN _ _ _) (congrArg (World.drewN _) (Nat.add_assoc _ _ _))⟩))))
 (try simp only [Act.put, List.setIfInBounds_toArray, List.set_cons_zero, List.set_cons_succ])
 go_cut [22] (fun v22 wc => ∃ (kq : Nat) (x22_5 : Bool), v22 = .bool x22_5 ∧ Aside0 (fastjson_parseRawString.j0 kq a0 t101 x22_5 = some (r1, r2, r3)) ∧ Aside0 (kq ≤ k) ∧ Aside0 (Below w.heap.size w wc))
 case first =>
  have H := HC6.out
  clear HC6
  by_cases c7 : t101 = 0
  ·rw [if_pos c7] at H
   have c7b0 : (t101 == 0) = true := beq_iff_eq.mpr c7
   have c7b1 : (t101 != 0) = false := bne_eq_false_iff_eq.mpr c7
   clear c7
   (skip)
   have H' := mk0 H
   clear H
   go_wp2
   repeat (go_quiet (fail); try go_wp2)
   go_meet
   case rel => exact ⟨_, (true), (by rfl), H', ⟨by omega⟩, ⟨by repeat (first | (with_reducible first | exact HB.out | apply below_alloc | apply pw_below_drewN | apply below_drew1) | exact HB.out)⟩⟩
  rw [if_neg c7] at H
  have c7b0 : (t101 == 0) = false := beq_eq_false_iff_ne.mpr c7
  have c7b1 : (t101 != 0) = true := bne_iff_ne.mpr c7
  (skip)
  obtain ⟨ji8, hji8⟩ : ∃ j_ : Int, (wrap64 (t101 - 1)) = j_ := ⟨_, rfl⟩
  replace H : (if 0 ≤ (ji8) then (if (ji8) < (a0.size : Int) then (fastjson_parseRawString.j0 k a0 t101 ((bt a0 (ji8)) != 92)) else (none)) else (none)) = some (r1, r2, r3) := by (rw [hji8] at H; exact H)
  have hji8w : (IntKind.i64.wrap (t101 - 1)) = ji8 := (i64_w _).trans hji8
  by_cases c9 : 0 ≤ (ji8)
  rotate_left
  ·rw [if_neg c9] at H
   exact absurd H (by simp)
  rw [if_pos c9] at H
  have c9b0 : decide (0 ≤ (ji8)) = true := decide_eq_true c9
  clear c9
  by_cases c10 : (ji8) < (a0.size : Int)
  rotate_left
  ·rw [if_neg c10] at H
   exact absurd H (by simp)
  rw [if_pos c10] at H
  have c10b0 : decide ((ji8) < (a0.size : Int)) = true := decide_eq_true c10
  clear c10
  have H' := mk0 H
  clear H
  have p11 : 0 ≤ ((ji8) : Int) := of_decide_eq_true zq5
  have q11 : (ji8) < (a0.size : Int) := of_decide_eq_true zq5
  have hx11 := bt_at a0 (ji8)
  replace p11 := eq_true p11
  replace q11 := eq_true q11
  go_wp2
  repeat (go_quiet (fail); try go_wp2)
  (try simp only [← hji8])
  go_meet
  case rel => exact ⟨_, (((bt a0 (ji8)) != 92)), (by (simp only [← hji8] <;> (first | rfl | (simp; done)))), (by exact H'), ⟨by omega⟩, ⟨by repeat (first | (with_reducible first | exact HB.out | apply below_alloc | apply pw_below_drewN | apply below_drew1) | exact HB.out)⟩⟩
 case rest =>
  clear HC6 c3b0
  obtain ⟨kq, x22_5, rfl, HA, HJ5, HB⟩ := hcut
  cases kq with
  | zero => exact absurd HA.out (by simp [fastjson_parseRawString.j0])
  | succ kj5 =>
   have H := HA.out
   clear HA
   simp only [fastjson_parseRawString.j0] at H
   by_cases c12 : x22_5 = true
   ·subst c12
    rw [if_pos rfl] at H
    by_cases c13 : 0 ≤ t101
    rotate_left
    ·rw [if_neg c13] at H
     exact absurd H (by simp)
    rw [if_pos c13] at H
    have c13b0 := eq_true c13
    have c13b1 : decide (0 ≤ t101) = true := decide_eq_true c13
    clear c13
    by_cases c14 : t101 ≤ (a0.size : Int)
    rotate_left
    ·rw [if_neg c14] at H
     exact absurd H (by simp)
    rw [if_pos c14] at H
    have c14b0 := eq_true c14
    have c14b1 : decide (t101 ≤ (a0.size : Int)) = true := decide_eq_true c14
    clear c14
    obtain ⟨ji15, hji15⟩ : ∃ j_ : Int, (wrap64 (t101 + 1)) = j_ := ⟨_, rfl⟩
    replace H : (if 0 ≤ (ji15) then (if (ji15) ≤ (a0.size : Int) then (some (a0.extract 0 (t101 : Int).toNat, a0.extract ((ji15) : Int).toNat a0.size, none)) else (none)) else (none)) = some (r1, r2, r3) := by (rw [hji15] at H; exact H)
    have hji15w : (IntKind.i64.wrap (t101 + 1)) = ji15 := (i64_w _).trans hji15
    by_cases c16 : 0 ≤ (ji15)
    rotate_left
    ·rw [if_neg c16] at H
     exact absurd H (by simp)
    rw [if_pos c16] at H
    have c16b0 := eq_true c16
    have c16b1 : decide (0 ≤ (ji15)) = true := decide_eq_true c16
    clear c16
    by_cases c17 : (ji15) ≤ (a0.size : Int)
    rotate_left
    ·rw [if_neg c17] at H
     exact absurd H (by simp)
    rw [if_pos c17] at H
    have c17b0 := eq_true c17
    have c17b1 : decide ((ji15) ≤ (a0.size : Int)) = true := decide_eq_true c17
    clear c17
    simp only [Option.some.injEq, Prod.mk.injEq] at H
    obtain ⟨rfl, rfl, rfl⟩ := H
    go_wp2
    repeat (go_quiet (fail); try go_wp2)
    go_ret3
    exact ⟨none, Zk.nn, by rfl, by repeat (first | (with_reducible first | exact HB.out | apply below_alloc | apply pw_below_drewN | apply below_drew1) | exact HB.out)⟩
   replace c12 := Bool.eq_false_iff.mpr c12
   subst c12
   rw [if_neg (show ¬ (false = true) by decide)] at H
   have H' := mk0 H
   clear H
   go_wp2
   repeat (go_quiet (fail); try go_wp2)
   go_loopg [0, 5] kj5 (fun kq v0 v5 w' => ∃ (x0_2 : ByteArray) (x5_2 : Int), v0 = .string x0_2 ∧ v5 = .int .i64 x5_2 ∧ Aside0 (fastjson_parseRawString.l0 kq x0_2 x5_2 a0 = some (r1, r2, r3)) ∧ Aside0 (kq ≤ kj5) ∧ Aside0 (Below w.heap.size w w'))
   case atStart => exact ⟨(a0), (t101), (by rfl), (by rfl), H', ⟨Nat.le_refl _⟩, ⟨by repeat (first | (with_reducible first | exact HB.out | apply below_alloc | apply pw_below_drewN | apply below_drew1) | exact HB.out)⟩⟩
   case round =>
    clear H'
    obtain ⟨x0_2, x5_2, rfl, rfl, HA, HK2, HB⟩ := hrel
    cases gk with
    | zero => exact absurd HA.out (by simp [fastjson_parseRawString.l0])
    | succ k2 =>
     have H := HA.out
     clear HA
     simp only [fastjson_parseRawString.l0] at H
     have HC18 := mk0 H
     clear H
     go_upto_block 2 with (fail)
     repeat (go_quiet (fail); go_upto_block 2 with (fail))
     go_cut [7] (fun v7 wc => ∃ (kq : Nat) (x7_17 : Int), v7 = .int .i64 x7_17 ∧ Aside0 (fastjson_parseRawString.j3 kq x0_2 x5_2 a0 x7_17 = some (r1, r2, r3)) ∧ Aside0 (kq ≤ k2) ∧ Aside0 (Below w.heap.size w wc))
     case first =>
      have H := HC18.out
      clear HC18
      have H' := mk0 H
      clear H
      go_wp2
      repeat (go_quiet (fail); try go_wp2)
      go_loopg [7] k2 (fun kq v7 w' => ∃ (x7_3 : Int), v7 = .int .i64 x7_3 ∧ Aside0 (fastjson_parseRawString.l1 kq x0_2 x5_2 a0 x7_3 = some (r1, r2, r3)) ∧ Aside0 (kq ≤ k2) ∧ Aside0 (Below w.heap.size w w'))
      case atStart => exact ⟨(wrap64 (x5_2 - 1)), (by rfl), H', ⟨Nat.le_refl _⟩, ⟨by repeat (first | (with_reducible first | exact HB.out | apply below_alloc | apply pw_below_drewN | apply below_drew1) | exact HB.out)⟩⟩
      case round =>
       clear H'
       obtain ⟨x7_3, rfl, HA, HK3, HB⟩ := hrel
       cases gk with
       | zero => exact absurd HA.out (by simp [fastjson_parseRawString.l1])
       | succ k3 =>
        have H := HA.out
        clear HA
        simp only [fastjson_parseRawString.l1] at H
        by_cases c19 : x7_3 > 0
        rotate_left
        ·rw [if_neg c19] at H
         have c19b0 : decide (0 < x7_3) = false := decide_eq_false c19
         clear c19
         (skip)
         have H' := mk0 H
         clear H
         go_wp2
         repeat (go_quiet (fail); try go_wp2)
         go_meet
         case rel => exact ⟨_, (x7_3), (by rfl), H', ⟨by have := HJ5.out; have := HK2.out; have := HK3.out; first | omega | exact Nat.le_refl _⟩, ⟨by repeat (first | (with_reducible first | exact HB.out | apply below_alloc | apply pw_below_drewN | apply below_drew1) | exact HB.out)⟩⟩
        rw [if_pos c19] at H
        have c19b0 : decide (0 < x7_3) = true := decide_eq_true c19
        clear c19
        (skip)
        obtain ⟨ji20, hji20⟩ : ∃ j_ : Int, (wrap64 (x7_3 - 1)) = j_ := ⟨_, rfl⟩
        replace H : (if 0 ≤ (ji20) then (if (ji20) < (x0_2.size : Int) then (if (bt x0_2 (ji20)) = 92 then (fastjson_parseRawString.l1 k3 x0_2 x5_2 a0 ji20) else (fastjson_parseRawString.j3 k3 x0_2 x5_2 a0 x7_3)) else (none)) else (none)) = some (r1, r2, r3) := by (rw [hji20] at H; exact H)
        have hji20w : (IntKind.i64.wrap (x7_3 - 1)) = ji20 := (i64_w _).trans hji20
        by_cases c21 : 0 ≤ (ji20)
        rotate_left
        ·rw [if_neg c21] at H
         exact absurd H (by simp)
        rw [if_pos c21] at H
        have c21b0 : decide (0 ≤ (ji20)) = true := decide_eq_true c21
        clear c21
        by_cases c22 : (ji20) < (x0_2.size : Int)
        rotate_left
        ·rw [if_neg c22] at H
         exact absurd H (by simp)
        rw [if_pos c22] at H
        have c22b0 : decide ((ji20) < (x0_2.size : Int)) = true := decide_eq_true c22
        clear c22
        by_cases c24 : (bt x0_2 (ji20)) = 92
        rotate_left
        ·rw [if_neg c24] at H
         have c24b0 : ((bt x0_2 (ji20)) == 92) = false := beq_eq_false_iff_ne.mpr c24
         have c24b1 : ((bt x0_2 (ji20)) != 92) = true := bne_iff_ne.mpr c24
         have H' := mk0 H
         clear H
         have p23 : 0 ≤ ((ji20) : Int) := of_decide_eq_true zq5
         have q23 : (ji20) < (x0_2.size : Int) := of_decide_eq_true zq5
         have hx23 := bt_at x0_2 (ji20)
         replace p23 := eq_true p23
         replace q23 := eq_true q23
         go_wp2
         repeat (go_quiet (fail); try go_wp2)
         (try simp only [← hji20])
         go_meet
         case rel => exact ⟨_, (x7_3), (by rfl), (by exact H'), ⟨by have := HJ5.out; have := HK2.out; have := HK3.out; first | omega | exact Nat.le_refl _⟩, ⟨by repeat (first | (with_reducible first | exact HB.out | apply below_alloc | apply pw_below_drewN | apply below_drew1) | exact HB.out)⟩⟩
        rw [if_pos c24] at H
        have c24b0 : ((bt x0_2 (ji20)) == 92) = true := beq_iff_eq.mpr c24
        have c24b1 : ((bt x0_2 (ji20)) != 92) = false := bne_eq_false_iff_eq.mpr c24
        clear c24
        have H' := mk0 H
        clear H
        have p23 : 0 ≤ ((ji20) : Int) := of_decide_eq_true zq5
        have q23 : (ji20) < (x0_2.size : Int) := of_decide_eq_true zq5
        have hx23 := bt_at x0_2 (ji20)
        replace p23 := eq_true p23
        replace q23 := eq_true q23
        go_wp2
        repeat (go_quiet (fail); try go_wp2)
        (try simp only [← hji20])
        go_roundg k3
        case measure => have := HJ5.out; have := HK2.out; have := HK3.out; omega
        case rel => exact ⟨(ji20), (by (simp only [← hji20] <;> (first | rfl | (simp; done)))), (by exact H'), ⟨by have := HJ5.out; have := HK2.out; have := HK3.out; omega⟩, ⟨by repeat (first | (with_reducible first | exact HB.out | apply below_alloc | apply pw_below_drewN | apply below_drew1) | exact HB.out)⟩⟩
     case rest =>
      clear HC18
      obtain ⟨kq, x7_17, rfl, HA, HJ17, HB⟩ := hcut
      cases kq with
      | zero => exact absurd HA.out (by simp [fastjson_parseRawString.j3])
      | succ kj17 =>
       have H := HA.out
       clear HA
       simp only [fastjson_parseRawString.j3] at H
       by_cases c25 : (Int.tmod (IntKind.u64.wrap (wrap64 (x5_2 - x7_17))) 2) = 0
       ·rw [if_pos c25] at H
        have c25b0 : ((Int.tmod (IntKind.u64.wrap (wrap64 (x5_2 - x7_17))) 2) == 0) = true := beq_iff_eq.mpr c25
        have c25b1 : ((Int.tmod (IntKind.u64.wrap (wrap64 (x5_2 - x7_17))) 2) != 0) = false := bne_eq_false_iff_eq.mpr c25
        clear c25
        obtain ⟨ji26, hji26⟩ : ∃ j_ : Int, (wrap64 ((wrap64 ((a0.size : Int) - (x0_2.size : Int))) + x5_2)) = j_ := ⟨_, rfl⟩
        replace H : (if 0 ≤ (ji26) then (if (ji26) ≤ (a0.size : Int) then (if 0 ≤ (wrap64 (x5_2 + 1)) then (if (wrap64 (x5_2 + 1)) ≤ (x0_2.size : Int) then (some (a0.extract 0 ((ji26) : Int).toNat, x0_2.extract ((wrap64 (x5_2 + 1)) : Int).toNat x0_2.size, none)) else (none)) else (none)) else (none)) else (none)) = some (r1, r2, r3) := by (rw [hji26] at H; exact H)
        have hji26w : (IntKind.i64.wrap ((wrap64 ((a0.size : Int) - (x0_2.size : Int))) + x5_2)) = ji26 := (i64_w _).trans hji26
        by_cases c27 : 0 ≤ (ji26)
        rotate_left
        ·rw [if_neg c27] at H
         exact absurd H (by simp)
        rw [if_pos c27] at H
        have c27b0 := eq_true c27
        have c27b1 : decide (0 ≤ (ji26)) = true := decide_eq_true c27
        clear c27
        by_cases c28 : (ji26) ≤ (a0.size : Int)
        rotate_left
        ·rw [if_neg c28] at H
         exact absurd H (by simp)
        rw [if_pos c28] at H
        have c28b0 := eq_true c28
        have c28b1 : decide ((ji26) ≤ (a0.size : Int)) = true := decide_eq_true c28
        clear c28
        obtain ⟨ji29, hji29⟩ : ∃ j_ : Int, (wrap64 (x5_2 + 1)) = j_ := ⟨_, rfl⟩
        replace H : (if 0 ≤ (ji29) then (if (ji29) ≤ (x0_2.size : Int) then (some (a0.extract 0 ((ji26) : Int).toNat, x0_2.extract ((ji29) : Int).toNat x0_2.size, none)) else (none)) else (none)) = some (r1, r2, r3) := by (rw [hji29] at H; exact H)
        have hji29w : (IntKind.i64.wrap (x5_2 + 1)) = ji29 := (i64_w _).trans hji29
        by_cases c30 : 0 ≤ (ji29)
        rotate_left
        ·rw [if_neg c30] at H
         exact absurd H (by simp)
        rw [if_pos c30] at H
        have c30b0 := eq_true c30
        have c30b1 : decide (0 ≤ (ji29)) = true := decide_eq_true c30
        clear c30
        by_cases c31 : (ji29) ≤ (x0_2.size : Int)
        rotate_left
        ·rw [if_neg c31] at H
         exact absurd H (by simp)
        rw [if_pos c31] at H
        have c31b0 := eq_true c31
        have c31b1 : decide ((ji29) ≤ (x0_2.size : Int)) = true := decide_eq_true c31
        clear c31
        simp only [Option.some.injEq, Prod.mk.injEq] at H
        obtain ⟨rfl, rfl, rfl⟩ := H
        go_wp2
        repeat (go_quiet (fail); try go_wp2)
        go_ret3
        exact ⟨none, Zk.nn, by rfl, by repeat (first | (with_reducible first | exact HB.out | apply below_alloc | apply pw_below_drewN | apply below_drew1) | exact HB.out)⟩
       rw [if_neg c25] at H
       have c25b0 : ((Int.tmod (IntKind.u64.wrap (wrap64 (x5_2 - x7_17))) 2) == 0) = false := beq_eq_false_iff_ne.mpr c25
       have c25b1 : ((Int.tmod (IntKind.u64.wrap (wrap64 (x5_2 - x7_17))) 2) != 0) = true := bne_iff_ne.mpr c25
       obtain ⟨ji32, hji32⟩ : ∃ j_ : Int, (wrap64 (x5_2 + 1)) = j_ := ⟨_, rfl⟩
       replace H : (if 0 ≤ (ji32) then (if (ji32) ≤ (x0_2.size : Int) then ((strings_IndexByte.f (x0_2.extract ((ji32) : Int).toNat x0_2.size) 34).bind fun t103 => (if t103 < 0 then ((errors_New.f (⟨#[109, 105, 115, 115, 105, 110, 103, 32, 99, 108, 111, 115, 105, 110, 103]⟩ : ByteArray)).bind fun t104 => (some (a0, (⟨#[]⟩ : ByteArray), t104))) else (if t103 = 0 then (if 0 ≤ (wrap64 ((wrap64 ((a0.size : Int) - ((x0_2.extract ((ji32) : Int).toNat x0_2.size).size : Int))) + t103)) then (if (wrap64 ((wrap64 ((a0.size : Int) - ((x0_2.extract ((ji32) : Int).toNat x0_2.size).size : Int))) + t103)) ≤ (a0.size : Int) then (if 0 ≤ (wrap64 (t103 + 1)) then (if (wrap64 (t103 + 1)) ≤ ((x0_2.extract ((ji32) : Int).toNat x0_2.size).size : Int) then (some (a0.extract 0 ((wrap64 ((wrap64 ((a0.size : Int) - ((x0_2.extract ((ji32) : Int).toNat x0_2.size).size : Int))) + t103)) : Int).toNat, (x0_2.extract ((ji32) : Int).toNat x0_2.size).extract ((wrap64 (t103 + 1)) : Int).toNat (x0_2.extract ((ji32) : Int).toNat x0_2.size).size, none)) else (none)) else (none)) else (none)) else (none)) else (if 0 ≤ (wrap64 (t103 - 1)) then (if (wrap64 (t103 - 1)) < ((x0_2.extract ((ji32) : Int).toNat x0_2.size).size : Int) then (if (bt (x0_2.extract ((ji32) : Int).toNat x0_2.size) (wrap64 (t103 - 1))) = 92 then (fastjson_parseRawString.l0 kj17 (x0_2.extract ((ji32) : Int).toNat x0_2.size) t103 a0) else (if 0 ≤ (wrap64 ((wrap64 ((a0.size : Int) - ((x0_2.extract ((ji32) : Int).toNat x0_2.size).size : Int))) + t103)) then (if (wrap64 ((wrap64 ((a0.size : Int) - ((x0_2.extract ((ji32) : Int).toNat x0_2.size).size : Int))) + t103)) ≤ (a0.size : Int) then (if 0 ≤ (wrap64 (t103 + 1)) then (if (wrap64 (t103 + 1)) ≤ ((x0_2.extract ((ji32) : Int).toNat x0_2.size).size : Int) then (some (a0.extract 0 ((wrap64 ((wrap64 ((a0.size : Int) - ((x0_2.extract ((ji32) : Int).toNat x0_2.size).size : Int))) + t103)) : Int).toNat, (x0_2.extract ((ji32) : Int).toNat x0_2.size).extract ((wrap64 (t103 + 1)) : Int).toNat (x0_2.extract ((ji32) : Int).toNat x0_2.size).size, none)) else (none)) else (none)) else (none)) else (none))) else (none)) else (none))))) else (none)) else (none)) = some (r1, r2, r3) := by (rw [hji32] at H; exact H)
       have hji32w : (IntKind.i64.wrap (x5_2 + 1)) = ji32 := (i64_w _).trans hji32
       by_cases c33 : 0 ≤ (ji32)
       rotate_left
       ·rw [if_neg c33] at H
        exact absurd H (by simp)
       rw [if_pos c33] at H
       have c33b0 := eq_true c33
       have c33b1 : decide (0 ≤ (ji32)) = true := decide_eq_true c33
       clear c33
       by_cases c34 : (ji32) ≤ (x0_2.size : Int)
       rotate_left
       ·rw [if_neg c34] at H
        exact absurd H (by simp)
       rw [if_pos c34] at H
       have c34b0 := eq_true c34
       have c34b1 : decide ((ji32) ≤ (x0_2.size : Int)) = true := decide_eq_true c34
       clear c34
       replace H := Option.bind_eq_some_iff.mp H
       obtain ⟨t103, A350, H⟩ := H
       (try dsimp only at H)
       have A35 := mk0 A350
       clear A350
       by_cases c36 : t103 < 0
       ·rw [if_pos c36] at H
        have c36b0 : decide (t103 < 0) = true := decide_eq_true c36
        clear c36
        replace H := Option.bind_eq_some_iff.mp H
        obtain ⟨t104, A370, H⟩ := H
        (try dsimp only at H)
        have A37 := mk0 A370
        clear A370
        simp only [Option.some.injEq, Prod.mk.injEq] at H
        obtain ⟨rfl, rfl, rfl⟩ := H
        go_wp2_with (first | (go_at_call 123; (with_reducible refine (strings_IndexByte.calls (x0_2.extract ((ji32) : Int).toNat x0_2.size) 34 t103 _ A35.out).mono ?_); rintro e w' ⟨rfl, ⟨nd, rfl⟩⟩; (try first | exact ⟨rfl, _, World.drewN_drewN _ _ _⟩ | exact ⟨rfl, _, Eq.trans (World.drewN_drewN _ _ _) (congrArg (World.drewN _) (Nat.add_assoc _ _ _))⟩)) | (go_at_call 54; (with_reducible refine (errors_New.calls (⟨#[109, 105, 115, 115, 105, 110, 103, 32, 99, 108, 111, 115, 105, 110, 103]⟩ : ByteArray) t104 _ A37.out).mono ?_); rintro e w38 ⟨z_t104, hz_t104, rfl, hb⟩; have Hz_t104 := mk0 hz_t104; clear hz_t104; have n0_ := mk0 (below_step zq1 hb); clear HB; have HB := n0_; clear n0_ hb; (try simp only [errW_none, errW_some])))
        repeat (go_quiet (first | (go_at_call 123; (with_reducible refine (strings_IndexByte.calls (x0_2.extract ((ji32) : Int).toNat x0_2.size) 34 t103 _ A35.out).mono ?_); rintro e w' ⟨rfl, ⟨nd, rfl⟩⟩; (try first | exact ⟨rfl, _, World.drewN_drewN _ _ _⟩ | exact ⟨rfl, _, Eq.trans (World.drewN_drewN _ _ _) (congrArg (World.drewN _) (Nat.add_assoc _ _ _))⟩)) | (go_at_call 54; (with_reducible refine (errors_New.calls (⟨#[109, 105, 115, 115, 105, 110, 103, 32, 99, 108, 111, 115, 105, 110, 103]⟩ : ByteArray) t104 _ A37.out).mono ?_); rintro e w38 ⟨z_t104, hz_t104, rfl, hb⟩; have Hz_t104 := mk0 hz_t104; clear hz_t104; replace HB := mk0 (below_step zq1 hb); (try simp only [errW_none, errW_some]))); try go_wp2_with (first | (go_at_call 123; (with_reducible refine (strings_IndexByte.calls (x0_2.extract ((ji32) : Int).toNat x0_2.size) 34 t103 _ A35.out).mono ?_); rintro e w' ⟨rfl, ⟨nd, rfl⟩⟩; (try first | exact ⟨rfl, _, World.drewN_drewN _ _ _⟩ | exact ⟨rfl, _, Eq.trans (World.drewN_drewN _ _ _) (congrArg (World.drewN _) (Nat.add_assoc _ _ _))⟩)) | (go_at_call 54; (with_reducible refine (errors_New.calls (⟨#[109, 105, 115, 115, 105, 110, 103, 32, 99, 108, 111, 115, 105, 110, 103]⟩ : ByteArray) t104 _ A37.out).mono ?_); rintro e w38 ⟨z_t104, hz_t104, rfl, hb⟩; have Hz_t104 := mk0 hz_t104; clear hz_t104; replace HB := mk0 (below_step zq1 hb); (try simp only [errW_none, errW_some]))))
        go_ret3
        exact ⟨z_t104, Hz_t104.out, by rfl, by repeat (first | (with_reducible first | exact HB.out | apply below_alloc | apply pw_below_drewN | apply below_drew1) | exact HB.out)⟩
       rw [if_neg c36] at H
       have c36b0 : decide (t103 < 0) = false := decide_eq_false c36
       clear c36
       by_cases c39 : t103 = 0
       ·rw [if_pos c39] at H
        have c39b0 : (t103 == 0) = true := beq_iff_eq.mpr c39
        have c39b1 : (t103 != 0) = false := bne_eq_false_iff_eq.mpr c39
        clear c39
        obtain ⟨ji40, hji40⟩ : ∃ j_ : Int, (wrap64 ((wrap64 ((a0.size : Int) - ((x0_2.extract ((ji32) : Int).toNat x0_2.size).size : Int))) + t103)) = j_ := ⟨_, rfl⟩
        replace H : (if 0 ≤ (ji40) then (if (ji40) ≤ (a0.size : Int) then (if 0 ≤ (wrap64 (t103 + 1)) then (if (wrap64 (t103 + 1)) ≤ ((x0_2.extract ((ji32) : Int).toNat x0_2.size).size : Int) then (some (a0.extract 0 ((ji40) : Int).toNat, (x0_2.extract ((ji32) : Int).toNat x0_2.size).extract ((wrap64 (t103 + 1)) : Int).toNat (x0_2.extract ((ji32) : Int).toNat x0_2.size).size, none)) else (none)) else (none)) else (none)) else (none)) = some (r1, r2, r3) := by (rw [hji40] at H; exact H)
        (try rw [hji40] at A35)
        have hji40w : (IntKind.i64.wrap ((wrap64 ((a0.size : Int) - ((x0_2.extract ((ji32) : Int).toNat x0_2.size).size : Int))) + t103)) = ji40 := (i64_w _).trans hji40
        have hji40ws := hji40w; simp only [ByteArray.size_extract, Nat.min_self] at hji40ws
        by_cases c41 : 0 ≤ (ji40)
        rotate_left
        ·rw [if_neg c41] at H
         exact absurd H (by simp)
        rw [if_pos c41] at H
        have c41b0 := eq_true c41
        have c41b1 : decide (0 ≤ (ji40)) = true := decide_eq_true c41
        clear c41
        by_cases c42 : (ji40) ≤ (a0.size : Int)
        rotate_left
        ·rw [if_neg c42] at H
         exact absurd H (by simp)
        rw [if_pos c42] at H
        have c42b0 := eq_true c42
        have c42b1 : decide ((ji40) ≤ (a0.size : Int)) = true := decide_eq_true c42
        clear c42
        obtain ⟨ji43, hji43⟩ : ∃ j_ : Int, (wrap64 (t103 + 1)) = j_ := ⟨_, rfl⟩
        replace H : (if 0 ≤ (ji43) then (if (ji43) ≤ ((x0_2.extract ((ji32) : Int).toNat x0_2.size).size : Int) then (some (a0.extract 0 ((ji40) : Int).toNat, (x0_2.extract ((ji32) : Int).toNat x0_2.size).extract ((ji43) : Int).toNat (x0_2.extract ((ji32) : Int).toNat x0_2.size).size, none)) else (none)) else (none)) = some (r1, r2, r3) := by (rw [hji43] at H; exact H)
        (try rw [hji43] at A35)
        have hji43w : (IntKind.i64.wrap (t103 + 1)) = ji43 := (i64_w _).trans hji43
        by_cases c44 : 0 ≤ (ji43)
        rotate_left
        ·rw [if_neg c44] at H
         exact absurd H (by simp)
        rw [if_pos c44] at H
        have c44b0 := eq_true c44
        have c44b1 : decide (0 ≤ (ji43)) = true := decide_eq_true c44
        clear c44
        by_cases c45 : (ji43) ≤ ((x0_2.extract ((ji32) : Int).toNat x0_2.size).size : Int)
        rotate_left
        ·rw [if_neg c45] at H
         exact absurd H (by simp)
        rw [if_pos c45] at H
        have c45b0 := eq_true c45
        have c45b1 : decide ((ji43) ≤ ((x0_2.extract ((ji32) : Int).toNat x0_2.size).size : Int)) = true := decide_eq_true c45
        have c45b1s := c45b1; simp only [ByteArray.size_extract, Nat.min_self] at c45b1s
        clear c45
        simp only [Option.some.injEq, Prod.mk.injEq] at H
        obtain ⟨rfl, rfl, rfl⟩ := H
        go_wp2_with (first | (go_at_call 123; (with_reducible refine (strings_IndexByte.calls (x0_2.extract ((ji32) : Int).toNat x0_2.size) 34 t103 _ A35.out).mono ?_); rintro e w' ⟨rfl, ⟨nd, rfl⟩⟩; (try first | exact ⟨rfl, _, World.drewN_drewN _ _ _⟩ | exact ⟨rfl, _, Eq.trans (World.drewN_drewN _ _ _) (congrArg (World.drewN _) (Nat.add_assoc _ _ _))⟩)))
        repeat (go_quiet (first | (go_at_call 123; (with_reducible refine (strings_IndexByte.calls (x0_2.extract ((ji32) : Int).toNat x0_2.size) 34 t103 _ A35.out).mono ?_); rintro e w' ⟨rfl, ⟨nd, rfl⟩⟩; (try first | exact ⟨rfl, _, World.drewN_drewN _ _ _⟩ | exact ⟨rfl, _, Eq.trans (World.drewN_drewN _ _ _) (congrArg (World.drewN _) (Nat.add_assoc _ _ _))⟩))); try go_wp2_with (first | (go_at_call 123; (with_reducible refine (strings_IndexByte.calls (x0_2.extract ((ji32) : Int).toNat x0_2.size) 34 t103 _ A35.out).mono ?_); rintro e w' ⟨rfl, ⟨nd, rfl⟩⟩; (try first | exact ⟨rfl, _, World.drewN_drewN _ _ _⟩ | exact ⟨rfl, _, Eq.trans (World.drewN_drewN _ _ _) (congrArg (World.drewN _) (Nat.add_assoc _ _ _))⟩))))
        go_ret3
        exact ⟨none, Zk.nn, by rfl, by repeat (first | (with_reducible first | exact HB.out | apply below_alloc | apply pw_below_drewN | apply below_drew1) | exact HB.out)⟩
       rw [if_neg c39] at H
       have c39b0 : (t103 == 0) = false := beq_eq_false_iff_ne.mpr c39
       have c39b1 : (t103 != 0) = true := bne_iff_ne.mpr c39
       obtain ⟨ji46, hji46⟩ : ∃ j_ : Int, (wrap64 (t103 - 1)) = j_ := ⟨_, rfl⟩
       replace H : (if 0 ≤ (ji46) then (if (ji46) < ((x0_2.extract ((ji32) : Int).toNat x0_2.size).size : Int) then (if (bt (x0_2.extract ((ji32) : Int).toNat x0_2.size) (ji46)) = 92 then (fastjson_parseRawString.l0 kj17 (x0_2.extract ((ji32) : Int).toNat x0_2.size) t103 a0) else (if 0 ≤ (wrap64 ((wrap64 ((a0.size : Int) - ((x0_2.extract ((ji32) : Int).toNat x0_2.size).size : Int))) + t103)) then (if (wrap64 ((wrap64 ((a0.size : Int) - ((x0_2.extract ((ji32) : Int).toNat x0_2.size).size : Int))) + t103)) ≤ (a0.size : Int) then (if 0 ≤ (wrap64 (t103 + 1)) then (if (wrap64 (t103 + 1)) ≤ ((x0_2.extract ((ji32) : Int).toNat x0_2.size).size : Int) then (some (a0.extract 0 ((wrap64 ((wrap64 ((a0.size : Int) - ((x0_2.extract ((ji32) : Int).toNat x0_2.size).size : Int))) + t103)) : Int).toNat, (x0_2.extract ((ji32) : Int).toNat x0_2.size).extract ((wrap64 (t103 + 1)) : Int).toNat (x0_2.extract ((ji32) : Int).toNat x0_2.size).size, none)) else (none)) else (none)) else (none)) else (none))) else (none)) else (none)) = some (r1, r2, r3) := by (rw [hji46] at H; exact H)
       (try rw [hji46] at A35)
       have hji46w : (IntKind.i64.wrap (t103 - 1)) = ji46 := (i64_w _).trans hji46
       by_cases c47 : 0 ≤ (ji46)
       rotate_left
       ·rw [if_neg c47] at H
        exact absurd H (by simp)
       rw [if_pos c47] at H
       have c47b0 : decide (0 ≤ (ji46)) = true := decide_eq_true c47
       clear c47
       by_cases c48 : (ji46) < ((x0_2.extract ((ji32) : Int).toNat x0_2.size).size : Int)
       rotate_left
       ·rw [if_neg c48] at H
        exact absurd H (by simp)
       rw [if_pos c48] at H
       have c48b0 : decide ((ji46) < ((x0_2.extract ((ji32) : Int).toNat x0_2.size).size : Int)) = true := decide_eq_true c48
       have c48b0s := c48b0; simp only [ByteArray.size_extract, Nat.min_self] at c48b0s
       clear c48
       by_cases c50 : (bt (x0_2.extract ((ji32) : Int).toNat x0_2.size) (ji46)) = 92
       ·rw [if_pos c50] at H
        have c50b0 : ((bt (x0_2.extract ((ji32) : Int).toNat x0_2.size) (ji46)) == 92) = true := beq_iff_eq.mpr c50
        have c50b1 : ((bt (x0_2.extract ((ji32) : Int).toNat x0_2.size) (ji46)) != 92) = false := bne_eq_false_iff_eq.mpr c50
        clear c50
        have H' := mk0 H
        clear H
        go_wp2_with (first | (go_at_call 123; (with_reducible refine (strings_IndexByte.calls (x0_2.extract ((ji32) : Int).toNat x0_2.size) 34 t103 _ A35.out).mono ?_); rintro e w' ⟨rfl, ⟨nd, rfl⟩⟩; (try first | exact ⟨rfl, _, World.drewN_drewN _ _ _⟩ | exact ⟨rfl, _, Eq.trans (World.drewN_drewN _ _ _) (congrArg (World.drewN _) (Nat.add_assoc _ _ _))⟩); have p49 : 0 ≤ ((ji46) : Int) := of_decide_eq_true zq5; have q49 : (ji46) < ((x0_2.extract ((ji32) : Int).toNat x0_2.size).size : Int) := of_decide_eq_true zq5; have hx49 := bt_at (x0_2.extract ((ji32) : Int).toNat x0_2.size) (ji46); replace p49 := eq_true p49; replace q49 := eq_true q49))
        repeat (go_quiet (first | (go_at_call 123; (with_reducible refine (strings_IndexByte.calls (x0_2.extract ((ji32) : Int).toNat x0_2.size) 34 t103 _ A35.out).mono ?_); rintro e w' ⟨rfl, ⟨nd, rfl⟩⟩; (try first | exact ⟨rfl, _, World.drewN_drewN _ _ _⟩ | exact ⟨rfl, _, Eq.trans (World.drewN_drewN _ _ _) (congrArg (World.drewN _) (Nat.add_assoc _ _ _))⟩); have p49 : 0 ≤ ((ji46) : Int) := of_decide_eq_true zq46; have q49 : (ji46) < ((x0_2.extract ((ji32) : Int).toNat x0_2.size).size : Int) := of_decide_eq_true zq46; have hx49 := bt_at (x0_2.extract ((ji32) : Int).toNat x0_2.size) (ji46); replace p49 := eq_true p49; replace q49 := eq_true q49)); try go_wp2_with (first | (go_at_call 123; (with_reducible refine (strings_IndexByte.calls (x0_2.extract ((ji32) : Int).toNat x0_2.size) 34 t103 _ A35.out).mono ?_); rintro e w' ⟨rfl, ⟨nd, rfl⟩⟩; (try first | exact ⟨rfl, _, World.drewN_drewN _ _ _⟩ | exact ⟨rfl, _, Eq.trans (World.drewN_drewN _ _ _) (congrArg (World.drewN _) (Nat.add_assoc _ _ _))⟩); have p49 : 0 ≤ ((ji46) : Int) := of_decide_eq_true zq46; have q49 : (ji46) < ((x0_2.extract ((ji32) : Int).toNat x0_2.size).size : Int) := of_decide_eq_true zq46; have hx49 := bt_at (x0_2.extract ((ji32) : Int).toNat x0_2.size) (ji46); replace p49 := eq_true p49; replace q49 := eq_true q49)))
        (try simp only [← hji32, ← hji46])
        go_roundg kj17
        case measure => have := HJ5.out; have := HK2.out; have := HJ17.out; omega
        case rel => exact ⟨(x0_2.extract ((ji32) : Int).toNat x0_2.size), (t103), (by (simp only [← hji32] <;> (first | rfl | (simp; done)))), (by rfl), (by exact H'), ⟨by have := HJ5.out; have := HK2.out; have := HJ17.out; omega⟩, ⟨by repeat (first | (with_reducible first | exact HB.out | apply below_alloc | apply pw_below_drewN | apply below_drew1) | exact HB.out)⟩⟩
       rw [if_neg c50] at H
       have c50b0 : ((bt (x0_2.extract ((ji32) : Int).toNat x0_2.size) (ji46)) == 92) = false := beq_eq_false_iff_ne.mpr c50
       have c50b1 : ((bt (x0_2.extract ((ji32) : Int).toNat x0_2.size) (ji46)) != 92) = true := bne_iff_ne.mpr c50
       obtain ⟨ji51, hji51⟩ : ∃ j_ : Int, (wrap64 ((wrap64 ((a0.size : Int) - ((x0_2.extract ((ji32) : Int).toNat x0_2.size).size : Int))) + t103)) = j_ := ⟨_, rfl⟩
       replace H : (if 0 ≤ (ji51) then (if (ji51) ≤ (a0.size : Int) then (if 0 ≤ (wrap64 (t103 + 1)) then (if (wrap64 (t103 + 1)) ≤ ((x0_2.extract ((ji32) : Int).toNat x0_2.size).size : Int) then (some (a0.extract 0 ((ji51) : Int).toNat, (x0_2.extract ((ji32) : Int).toNat x0_2.size).extract ((wrap64 (t103 + 1)) : Int).toNat (x0_2.extract ((ji32) : Int).toNat x0_2.size).size, none)) else (none)) else (none)) else (none)) else (none)) = some (r1, r2, r3) := by (rw [hji51] at H; exact H)
       (try rw [hji51] at A35)
       have hji51w : (IntKind.i64.wrap ((wrap64 ((a0.size : Int) - ((x0_2.extract ((ji32) : Int).toNat x0_2.size).size : Int))) + t103)) = ji51 := (i64_w _).trans hji51
       have hji51ws := hji51w; simp only [ByteArray.size_extract, Nat.min_self] at hji51ws
       by_cases c52 : 0 ≤ (ji51)
       rotate_left
       ·rw [if_neg c52] at H
        exact absurd H (by simp)
       rw [if_pos c52] at H
       have c52b0 := eq_true c52
       have c52b1 : decide (0 ≤ (ji51)) = true := decide_eq_true c52
       clear c52
       by_cases c53 : (ji51) ≤ (a0.size : Int)
       rotate_left
       ·rw [if_neg c53] at H
        exact absurd H (by simp)
       rw [if_pos c53] at H
       have c53b0 := eq_true c53
       have c53b1 : decide ((ji51) ≤ (a0.size : Int)) = true := decide_eq_true c53
       clear c53
       obtain ⟨ji54, hji54⟩ : ∃ j_ : Int, (wrap64 (t103 + 1)) = j_ := ⟨_, rfl⟩
       replace H : (if 0 ≤ (ji54) then (if (ji54) ≤ ((x0_2.extract ((ji32) : Int).toNat x0_2.size).size : Int) then (some (a0.extract 0 ((ji51) : Int).toNat, (x0_2.extract ((ji32) : Int).toNat x0_2.size).extract ((ji54) : Int).toNat (x0_2.extract ((ji32) : Int).toNat x0_2.size).size, none)) else (none)) else (none)) = some (r1, r2, r3) := by (rw [hji54] at H; exact H)
       (try rw [hji54] at A35)
       have hji54w : (IntKind.i64.wrap (t103 + 1)) = ji54 := (i64_w _).trans hji54
       by_cases c55 : 0 ≤ (ji54)
       rotate_left
       ·rw [if_neg c55] at H
        exact absurd H (by simp)
       rw [if_pos c55] at H
       have c55b0 := eq_true c55
       have c55b1 : decide (0 ≤ (ji54)) = true := decide_eq_true c55
       clear c55
       by_cases c56 : (ji54) ≤ ((x0_2.extract ((ji32) : Int).toNat x0_2.size).size : Int)
       rotate_left
       ·rw [if_neg c56] at H
        exact absurd H (by simp)
       rw [if_pos c56] at H
       have c56b0 := eq_true c56
       have c56b1 : decide ((ji54) ≤ ((x0_2.extract ((ji32) : Int).toNat x0_2.size).size : Int)) = true := decide_eq_true c56
       have c56b1s := c56b1; simp only [ByteArray.size_extract, Nat.min_self] at c56b1s
       clear c56
       simp only [Option.some.injEq, Prod.mk.injEq] at H
       obtain ⟨rfl, rfl, rfl⟩ := H
       go_wp2_with (first | (go_at_call 123; (with_reducible refine (strings_IndexByte.calls (x0_2.extract ((ji32) : Int).toNat x0_2.size) 34 t103 _ A35.out).mono ?_); rintro e w' ⟨rfl, ⟨nd, rfl⟩⟩; (try first | exact ⟨rfl, _, World.drewN_drewN _ _ _⟩ | exact ⟨rfl, _, Eq.trans (World.drewN_drewN _ _ _) (congrArg (World.drewN _) (Nat.add_assoc _ _ _))⟩); have p49 : 0 ≤ ((ji46) : Int) := of_decide_eq_true zq5; have q49 : (ji46) < ((x0_2.extract ((ji32) : Int).toNat x0_2.size).size : Int) := of_decide_eq_true zq5; have hx49 := bt_at (x0_2.extract ((ji32) : Int).toNat x0_2.size) (ji46); replace p49 := eq_true p49; replace q49 := eq_true q49))
       repeat (go_quiet (first | (go_at_call 123; (with_reducible refine (strings_IndexByte.calls (x0_2.extract ((ji32) : Int).toNat x0_2.size) 34 t103 _ A35.out).mono ?_); rintro e w' ⟨rfl, ⟨nd, rfl⟩⟩; (try first | exact ⟨rfl, _, World.drewN_drewN _ _ _⟩ | exact ⟨rfl, _, Eq.trans (World.drewN_drewN _ _ _) (congrArg (World.drewN _) (Nat.add_assoc _ _ _))⟩); have p49 : 0 ≤ ((ji46) : Int) := of_decide_eq_true zq46; have q49 : (ji46) < ((x0_2.extract ((ji32) : Int).toNat x0_2.size).size : Int) := of_decide_eq_true zq46; have hx49 := bt_at (x0_2.extract ((ji32) : Int).toNat x0_2.size) (ji46); replace p49 := eq_true p49; replace q49 := eq_true q49)); try go_wp2_with (first | (go_at_call 123; (with_reducible refine (strings_IndexByte.calls (x0_2.extract ((ji32) : Int).toNat x0_2.size) 34 t103 _ A35.out).mono ?_); rintro e w' ⟨rfl, ⟨nd, rfl⟩⟩; (try first | exact ⟨rfl, _, World.drewN_drewN _ _ _⟩ | exact ⟨rfl, _, Eq.trans (World.drewN_drewN _ _ _) (congrArg (World.drewN _) (Nat.add_assoc _ _ _))⟩); have p49 : 0 ≤ ((ji46) : Int) := of_decide_eq_true zq46; have q49 : (ji46) < ((x0_2.extract ((ji32) : Int).toNat x0_2.size).size : Int) := of_decide_eq_true zq46; have hx49 := bt_at (x0_2.extract ((ji32) : Int).toNat x0_2.size) (ji46); replace p49 := eq_true p49; replace q49 := eq_true q49)))
       go_ret3
       exact ⟨none, Zk.nn, by rfl, by repeat (first | (with_reducible first | exact HB.out | apply below_alloc | apply pw_below_drewN | apply below_drew1) | exact HB.out)⟩
mutual
def fastjson_validateString.j0 : Nat → ByteArray → Int → Bool → Option (ByteArray × ByteArray × Option Int)
  | 0, _, _, _ => none
  | k + 1, x0, x5, x24 => if x24 = true then (if 0 ≤ x5 then (if x5 ≤ (x0.size : Int) then (if 0 ≤ (wrap64 (x5 + 1)) then (if (wrap64 (x5 + 1)) ≤ (x0.size : Int) then (some (x0.extract 0 (x5 : Int).toNat, x0.extract ((wrap64 (x5 + 1)) : Int).toNat x0.size, none)) else (none)) else (none)) else (none)) else (none)) else ((fastjson_parseRawString.f k x0).bind fun bt103 => (if bt103.2.2.isNone = true then (fastjson_validateString.l0 k bt103.1 bt103.2.1) else (some (bt103.1, bt103.2.1, some (bt103.2.2.getD 0)))))
def fastjson_validateString.l0 : Nat → ByteArray → ByteArray → Option (ByteArray × ByteArray × Option Int)
  | 0, _, _ => none
  | k + 1, x6, x7 => (strings_IndexByte.f x6 92).bind fun t107 => (if t107 < 0 then (some (x6, x7, none)) else (if (wrap64 (t107 + 1)) ≥ (x6.size : Int) then ((errors_New.f (⟨#[66, 85, 71, 58, 32, 112, 97, 114, 115, 101, 82, 97, 119, 83, 116, 114, 105, 110, 103, 32, 114, 101, 116, 117, 114, 110, 101, 100, 32, 105, 110, 118, 97, 108, 105, 100, 32, 115, 116, 114, 105, 110, 103, 32, 119, 105, 116, 104, 32, 116, 114, 97, 105, 108, 105, 110, 103, 32, 98, 97, 99, 107, 115, 108, 97, 115, 104]⟩ : ByteArray)).bind fun t108 => (some (x6, x7, t108))) else (if 0 ≤ (wrap64 (t107 + 1)) then (if (wrap64 (t107 + 1)) < (x6.size : Int) then (if 0 ≤ (wrap64 ((wrap64 (t107 + 1)) + 1)) then (if (wrap64 ((wrap64 (t107 + 1)) + 1)) ≤ (x6.size : Int) then (if (bt x6 (wrap64 (t107 + 1))) = 34 then (fastjson_validateString.j2 k (x6.extract ((wrap64 ((wrap64 (t107 + 1)) + 1)) : Int).toNat x6.size) x7 (bt x6 (wrap64 (t107 + 1))) ((bt x6 (wrap64 (t107 + 1))) == 34)) else (if (bt x6 (wrap64 (t107 + 1))) = 92 then (fastjson_validateString.j2 k (x6.extract ((wrap64 ((wrap64 (t107 + 1)) + 1)) : Int).toNat x6.size) x7 (bt x6 (wrap64 (t107 + 1))) ((bt x6 (wrap64 (t107 + 1))) == 92)) else (if (bt x6 (wrap64 (t107 + 1))) = 47 then (fastjson_validateString.j2 k (x6.extract ((wrap64 ((wrap64 (t107 + 1)) + 1)) : Int).toNat x6.size) x7 (bt x6 (wrap64 (t107 + 1))) ((bt x6 (wrap64 (t107 + 1))) == 47)) else (if (bt x6 (wrap64 (t107 + 1))) = 98 then (fastjson_validateString.j2 k (x6.extract ((wrap64 ((wrap64 (t107 + 1)) + 1)) : Int).toNat x6.size) x7 (bt x6 (wrap64 (t107 + 1))) ((bt x6 (wrap64 (t107 + 1))) == 98)) else (if (bt x6 (wrap64 (t107 + 1))) = 102 then (fastjson_validateString.j2 k (x6.extract ((wrap64 ((wrap64 (t107 + 1)) + 1)) : Int).toNat x6.size) x7 (bt x6 (wrap64 (t107 + 1))) ((bt x6 (wrap64 (t107 + 1))) == 102)) else (if (bt x6 (wrap64 (t107 + 1))) = 110 then (fastjson_validateString.j2 k (x6.extract ((wrap64 ((wrap64 (t107 + 1)) + 1)) : Int).toNat x6.size) x7 (bt x6 (wrap64 (t107 + 1))) ((bt x6 (wrap64 (t107 + 1))) == 110)) else (if (bt x6 (wrap64 (t107 + 1))) = 114 then (fastjson_validateString.j2 k (x6.extract ((wrap64 ((wrap64 (t107 + 1)) + 1)) : Int).toNat x6.size) x7 (bt x6 (wrap64 (t107 + 1))) ((bt x6 (wrap64 (t107 + 1))) == 114)) else (fastjson_validateString.j2 k (x6.extract ((wrap64 ((wrap64 (t107 + 1)) + 1)) : Int).toNat x6.size) x7 (bt x6 (wrap64 (t107 + 1))) ((bt x6 (wrap64 (t107 + 1))) == 116))))))))) else (none)) else (none)) else (none)) else (none))))
def fastjson_validateString.j2 : Nat → ByteArray → ByteArray → Int → Bool → Option (ByteArray × ByteArray × Option Int)
  | 0, _, _, _, _ => none
  | k + 1, x6, x7, x65, x69 => if x69 = true then (fastjson_validateString.l0 k x6 x7) else (if x65 = 117 then (if (x6.size : Int) < 4 then ((errors_New.f (⟨#[116, 111, 111, 32, 115, 104, 111, 114, 116, 32, 101, 115, 99, 97, 112, 101, 32, 115, 101, 113, 117, 101, 110, 99, 101, 58, 32, 92, 117]⟩ : ByteArray)).bind fun t109 => (some (x6, x7, t109))) else (if 0 ≤ 4 then (if 4 ≤ (x6.size : Int) then ((strconv_ParseUint_55.f (x6.extract 0 4) 16 16).bind fun bt110 => (if bt110.2.isNone = true then (fastjson_validateString.l0 k (x6.extract 4 x6.size) x7) else ((errors_New.f (⟨#[105, 110, 118, 97, 108, 105, 100, 32, 101, 115, 99, 97, 112, 101, 32, 115, 101, 113, 117, 101, 110, 99, 101, 32, 92, 117]⟩ : ByteArray)).bind fun t113 => (some (x6, x7, t113))))) else (none)) else (none))) else ((errors_New.f (⟨#[117, 110, 107, 110, 111, 119, 110, 32, 101, 115, 99, 97, 112, 101, 32, 115, 101, 113, 117, 101, 110, 99, 101]⟩ : ByteArray)).bind fun t114 => (some (x6, x7, t114))))
end
def fastjson_validateString.f (k : Nat) (a0 : ByteArray) : Option (ByteArray × ByteArray × Option Int) := (strings_IndexByte.f a0 34).bind fun t101 => (if t101 ≥ 0 then (if 0 ≤ t101 then (if t101 ≤ (a0.size : Int) then ((strings_IndexByte.f (a0.extract 0 (t101 : Int).toNat) 92).bind fun t102 => (fastjson_validateString.j0 k a0 t101 (decide (t102 < 0)))) else (none)) else (none)) else (fastjson_validateString.j0 k a0 t101 false))
theorem fastjson_validateString.mono_l : ∀ k, (∀ y0 y1 y2, LeO (fastjson_validateString.j0 k y0 y1 y2) (fastjson_validateString.j0 (k + 1) y0 y1 y2)) ∧ (∀ y0 y1, LeO (fastjson_validateString.l0 k y0 y1) (fastjson_validateString.l0 (k + 1) y0 y1)) ∧ (∀ y0 y1 y2 y3, LeO (fastjson_validateString.j2 k y0 y1 y2 y3) (fastjson_validateString.j2 (k + 1) y0 y1 y2 y3))
 | 0 => ⟨fun _ _ _ r h => by simp [fastjson_validateString.j0] at h, fun _ _ r h => by simp [fastjson_validateString.l0] at h, fun _ _ _ _ r h => by simp [fastjson_validateString.j2] at h⟩
 | k + 1 => by
  obtain ⟨ih0, ih1, ih2⟩ := fastjson_validateString.mono_l k
  refine ⟨?_, ?_, ?_⟩
  ·intro y0 y1 y2
   unfold fastjson_validateString.j0
   repeat' first
   | (with_reducible exact ih0 _ _ _)
   | (with_reducible exact ih1 _ _)
   | (with_reducible exact ih2 _ _ _ _)
   | (with_reducible exact fastjson_parseRawString.mono _ _)
   | (with_reducible exact LeO.refl _)
   | (with_reducible exact LeO.none _)
   | (with_reducible refine LeO.ite ?_ ?_)
   | (with_reducible refine LeO.bind ?_ (fun _ => ?_))
   | exact ih0 _ _ _
   | exact ih1 _ _
   | exact ih2 _ _ _ _
   | exact fastjson_parseRawString.mono _ _
   | exact LeO.none _
   | refine LeO.ite ?_ ?_
   | refine LeO.bind ?_ (fun _ => ?_)
  ·intro y0 y1
   unfold fastjson_validateString.l0
   repeat' first
   | (with_reducible exact ih0 _ _ _)
   | (with_reducible exact ih1 _ _)
   | (with_reducible exact ih2 _ _ _ _)
   | (with_reducible exact fastjson_parseRawString.mono _ _)
   | (with_reducible exact LeO.refl _)
   | (with_reducible exact LeO.none _)
   | (with_reducible refine LeO.ite ?_ ?_)
   | (with_reducible refine LeO.bind ?_ (fun _ => ?_))
   | exact ih0 _ _ _
   | exact ih1 _ _
   | exact ih2 _ _ _ _
   | exact fastjson_parseRawString.mono _ _
   | exact LeO.none _
   | refine LeO.ite ?_ ?_
   | refine LeO.bind ?_ (fun _ => ?_)
  ·intro y0 y1 y2 y3
   unfold fastjson_validateString.j2
   repeat' first
   | (with_reducible exact ih0 _ _ _)
   | (with_reducible exact ih1 _ _)
   | (with_reducible exact ih2 _ _ _ _)
   | (with_reducible exact fastjson_parseRawString.mono _ _)
   | (with_reducible exact LeO.refl _)
   | (with_reducible exact LeO.none _)
   | (with_reducible refine LeO.ite ?_ ?_)
   | (with_reducible refine LeO.bind ?_ (fun _ => ?_))
   | exact ih0 _ _ _
   | exact ih1 _ _
   | exact ih2 _ _ _ _
   | exact fastjson_parseRawString.mono _ _
   | exact LeO.none _
   | refine LeO.ite ?_ ?_
   | refine LeO.bind ?_ (fun _ => ?_)
theorem fastjson_validateString.mono : ∀ a0 k, LeO (fastjson_validateString.f k a0) (fastjson_validateString.f (k + 1) a0) := by
 intro a0 k
 obtain ⟨ih0, ih1, ih2⟩ := fastjson_validateString.mono_l k
 unfold fastjson_validateString.f
 repeat' first
  | (with_reducible exact ih0 _ _ _)
  | (with_reducible exact ih1 _ _)
  | (with_reducible exact ih2 _ _ _ _)
  | (with_reducible exact fastjson_parseRawString.mono _ _)
  | (with_reducible exact LeO.refl _)
  | (with_reducible exact LeO.none _)
  | (with_reducible refine LeO.ite ?_ ?_)
  | (with_reducible refine LeO.bind ?_ (fun _ => ?_))
  | exact ih0 _ _ _
  | exact ih1 _ _
  | exact ih2 _ _ _ _
  | exact fastjson_parseRawString.mono _ _
  | exact LeO.none _
  | refine LeO.ite ?_ ?_
  | refine LeO.bind ?_ (fun _ => ?_)
set_option maxHeartbeats 8000000 in
set_option maxRecDepth 100000 in
theorem fastjson_validateString.calls (k : Nat) (a0 : ByteArray) (r1 : ByteArray) (r2 : ByteArray) (r3 : Option Int) (w : World) (hG : Laid w) (h : fastjson_validateString.f k a0 = some (r1, r2, r3)) :
 Calls Tryd.prog 107 #[.string a0] w fun e w' => ∃ z_r3 : Option Int, Zk z_r3 r3 ∧ e = .returned (.tuple #[.string r1, .string r2, errW z_r3]) ∧ Below w.heap.size w w' := by
 have HG := mk0 hG
 clear hG
 have hu55 := Tryd.underlying55
 have hu148 := Tryd.underlying148
 have HB := mk0 (Below.refl w.heap.size w)
 have H : ((strings_IndexByte.f a0 34).bind fun t101 => (if t101 ≥ 0 then (if 0 ≤ t101 then (if t101 ≤ (a0.size : Int) then ((strings_IndexByte.f (a0.extract 0 (t101 : Int).toNat) 92).bind fun t102 => (fastjson_validateString.j0 k a0 t101 (decide (t102 < 0)))) else (none)) else (none)) else (fastjson_validateString.j0 k a0 t101 false))) = some (r1, r2, r3) := h
 clear h
 replace H := Option.bind_eq_some_iff.mp H
 obtain ⟨t101, A20, H⟩ := H
 (try dsimp only at H)
 have A2 := mk0 A20
 clear A20
 have HC3 := mk0 H
 clear H
 go_enter Tryd.func107, Tryd.ntmps107
 go_upto_region 2 with (first | (go_at_call 123; (with_reducible refine (strings_IndexByte.calls a0 34 t101 _ A2.out).mono ?_); rintro e w' ⟨rfl, ⟨nd, rfl⟩⟩; (try first | exact ⟨rfl, _, World.drewN_drewN _ _ _⟩ | exact ⟨rfl, _, Eq.trans (World.drewN_drewN _ _ _) (congrArg (World.drewN _) (Nat.add_assoc _ _ _))⟩)))
 repeat (go_quiet (first | (go_at_call 123; (with_reducible refine (strings_IndexByte.calls a0 34 t101 _ A2.out).mono ?_); rintro e w' ⟨rfl, ⟨nd, rfl⟩⟩; (try first | exact ⟨rfl, _, World.drewN_drewN _ _ _⟩ | exact ⟨rfl, _, Eq.trans (World.drewN_drewN _ _ _) (congrArg (World.drewN _) (Nat.add_assoc _ _ _))⟩))); go_upto_region 2 with (first | (go_at_call 123; (with_reducible refine (strings_IndexByte.calls a0 34 t101 _ A2.out).mono ?_); rintro e w' ⟨rfl, ⟨nd, rfl⟩⟩; (try first | exact ⟨rfl, _, World.drewN_drewN _ _ _⟩ | exact ⟨rfl, _, Eq.trans (World.drewN_drewN _ _ _) (congrArg (World.drewN _) (Nat.add_assoc _ _ _))⟩))))
 (try simp only [Act.put, List.setIfInBounds_toArray, List.set_cons_zero, List.set_cons_succ])
 go_cut [24] (fun v24 wc => ∃ (kq : Nat) (x24_2 : Bool), v24 = .bool x24_2 ∧ Aside0 (fastjson_validateString.j0 kq a0 t101 x24_2 = some (r1, r2, r3)) ∧ Aside0 (kq ≤ k) ∧ Aside0 (Below w.heap.size w wc))
 case first =>
  have H := HC3.out
  clear HC3
  by_cases c4 : t101 ≥ 0
  rotate_left
  ·rw [if_neg c4] at H
   have c4b0 : decide (0 ≤ t101) = false := decide_eq_false c4
   clear c4
   (skip)
   have H' := mk0 H
   clear H
   go_wp2
   repeat (go_quiet (fail); try go_wp2)
   go_meet
   case rel => exact ⟨_, (false), (by rfl), H', ⟨by omega⟩, ⟨by repeat (first | (with_reducible first | exact HB.out | apply below_alloc | apply pw_below_drewN | apply below_drew1) | exact HB.out)⟩⟩
  rw [if_pos c4] at H
  have c4b0 : decide (0 ≤ t101) = true := decide_eq_true c4
  clear c4
  (skip)
  by_cases c5 : 0 ≤ t101
  rotate_left
  ·rw [if_neg c5] at H
   exact absurd H (by simp)
  rw [if_pos c5] at H
  have c5b0 := eq_true c5
  have c5b1 : decide (0 ≤ t101) = true := decide_eq_true c5
  clear c5
  by_cases c6 : t101 ≤ (a0.size : Int)
  rotate_left
  ·rw [if_neg c6] at H
   exact absurd H (by simp)
  rw [if_pos c6] at H
  have c6b0 := eq_true c6
  have c6b1 : decide (t101 ≤ (a0.size : Int)) = true := decide_eq_true c6
  clear c6
  replace H := Option.bind_eq_some_iff.mp H
  obtain ⟨t102, A70, H⟩ := H
  (try dsimp only at H)
  have A7 := mk0 A70
  clear A70
  have H' := mk0 H
  clear H
  go_wp2_with (first | (go_at_call 123; (with_reducible refine (strings_IndexByte.calls (a0.extract 0 (t101 : Int).toNat) 92 t102 _ A7.out).mono ?_); rintro e w' ⟨rfl, ⟨nd, rfl⟩⟩; (try first | exact ⟨rfl, _, World.drewN_drewN _ _ _⟩ | exact ⟨rfl, _, Eq.trans (World.drewN_drewN _ _ _) (congrArg (World.drewN _) (Nat.add_assoc _ _ _))⟩)))
  repeat (go_quiet (first | (go_at_call 123; (with_reducible refine (strings_IndexByte.calls (a0.extract 0 (t101 : Int).toNat) 92 t102 _ A7.out).mono ?_); rintro e w' ⟨rfl, ⟨nd, rfl⟩⟩; (try first | exact ⟨rfl, _, World.drewN_drewN _ _ _⟩ | exact ⟨rfl, _, Eq.trans (World.drewN_drewN _ _ _) (congrArg (World.drewN _) (Nat.add_assoc _ _ _))⟩))); try go_wp2_with (first | (go_at_call 123; (with_reducible refine (strings_IndexByte.calls (a0.extract 0 (t101 : Int).toNat) 92 t102 _ A7.out).mono ?_); rintro e w' ⟨rfl, ⟨nd, rfl⟩⟩; (try first | exact ⟨rfl, _, World.drewN_drewN _ _ _⟩ | exact ⟨rfl, _, Eq.trans (World.drewN_drewN _ _ _) (congrArg (World.drewN _) (Nat.add_assoc _ _ _))⟩))))
  go_meet
  case rel => exact ⟨_, (decide (t102 < 0)), (by rfl), H', ⟨by omega⟩, ⟨by repeat (first | (with_reducible first | exact HB.out | apply below_alloc | apply pw_below_drewN | apply below_drew1) | exact HB.out)⟩⟩
 case rest =>
  clear HC3
  obtain ⟨kq, x24_2, rfl, HA, HJ2, HB⟩ := hcut
  cases kq with
  | zero => exact absurd HA.out (by simp [fastjson_validateString.j0])
  | succ kj2 =>
   have H := HA.out
   clear HA
   simp only [fastjson_validateString.j0] at H
   by_cases c8 : x24_2 = true
   ·subst c8
    rw [if_pos rfl] at H
    by_cases c9 : 0 ≤ t101
    rotate_left
    ·rw [if_neg c9] at H
     exact absurd H (by simp)
    rw [if_pos c9] at H
    have c9b0 := eq_true c9
    have c9b1 : decide (0 ≤ t101) = true := decide_eq_true c9
    clear c9
    by_cases c10 : t101 ≤ (a0.size : Int)
    rotate_left
    ·rw [if_neg c10] at H
     exact absurd H (by simp)
    rw [if_pos c10] at H
    have c10b0 := eq_true c10
    have c10b1 : decide (t101 ≤ (a0.size : Int)) = true := decide_eq_true c10
    clear c10
    obtain ⟨ji11, hji11⟩ : ∃ j_ : Int, (wrap64 (t101 + 1)) = j_ := ⟨_, rfl⟩
    replace H : (if 0 ≤ (ji11) then (if (ji11) ≤ (a0.size : Int) then (some (a0.extract 0 (t101 : Int).toNat, a0.extract ((ji11) : Int).toNat a0.size, none)) else (none)) else (none)) = some (r1, r2, r3) := by (rw [hji11] at H; exact H)
    have hji11w : (IntKind.i64.wrap (t101 + 1)) = ji11 := (i64_w _).trans hji11
    by_cases c12 : 0 ≤ (ji11)
    rotate_left
    ·rw [if_neg c12] at H
     exact absurd H (by simp)
    rw [if_pos c12] at H
    have c12b0 := eq_true c12
    have c12b1 : decide (0 ≤ (ji11)) = true := decide_eq_true c12
    clear c12
    by_cases c13 : (ji11) ≤ (a0.size : Int)
    rotate_left
    ·rw [if_neg c13] at H
     exact absurd H (by simp)
    rw [if_pos c13] at H
    have c13b0 := eq_true c13
    have c13b1 : decide ((ji11) ≤ (a0.size : Int)) = true := decide_eq_true c13
    clear c13
    simp only [Option.some.injEq, Prod.mk.injEq] at H
    obtain ⟨rfl, rfl, rfl⟩ := H
    go_wp2
    repeat (go_quiet (fail); try go_wp2)
    go_ret3
    exact ⟨none, Zk.nn, by rfl, by repeat (first | (with_reducible first | exact HB.out | apply below_alloc | apply pw_below_drewN | apply below_drew1) | exact HB.out)⟩
   replace c8 := Bool.eq_false_iff.mpr c8
   subst c8
   rw [if_neg (show ¬ (false = true) by decide)] at H
   replace H := Option.bind_eq_some_iff.mp H
   obtain ⟨⟨t103, t104, t105⟩, A140, H⟩ := H
   (try dsimp only at H)
   have A14 := mk0 A140
   clear A140
   rcases t105 with _ | q106
   rotate_left
   ·rw [if_neg (show ¬ (some q106).isNone = true by simp)] at H
    (try (obtain ⟨m_q106, rfl⟩ := Zk.some_ Hz_t105.out))
    try simp only [errW_none, errW_some]
    simp only [Option.some.injEq, Prod.mk.injEq] at H
    obtain ⟨rfl, rfl, rfl⟩ := H
    go_wp2_with (first | (go_at_call 100; (with_reducible refine (fastjson_parseRawString.calls kj2 a0 t103 t104 (some q106) _ A14.out).mono ?_); rintro e w51 ⟨zs2_, hzs2_, rfl, hb⟩; obtain ⟨m_q106, rfl⟩ := Zk.some_ hzs2_; have n0_ := mk0 (below_step zq1 hb); clear HB; have HB := n0_; clear n0_ hb; (try simp only [errW_none, errW_some])))
    repeat (go_quiet (first | (go_at_call 100; (with_reducible refine (fastjson_parseRawString.calls kj2 a0 t103 t104 (some q106) _ A14.out).mono ?_); rintro e w51 ⟨zs2_, hzs2_, rfl, hb⟩; obtain ⟨m_q106, rfl⟩ := Zk.some_ hzs2_; replace HB := mk0 (below_step zq1 hb); (try simp only [errW_none, errW_some]))); try go_wp2_with (first | (go_at_call 100; (with_reducible refine (fastjson_parseRawString.calls kj2 a0 t103 t104 (some q106) _ A14.out).mono ?_); rintro e w51 ⟨zs2_, hzs2_, rfl, hb⟩; obtain ⟨m_q106, rfl⟩ := Zk.some_ hzs2_; replace HB := mk0 (below_step zq1 hb); (try simp only [errW_none, errW_some]))))
    go_ret3
    exact ⟨some m_q106, Zk.ss, by rfl, by repeat (first | (with_reducible first | exact HB.out | apply below_alloc | apply pw_below_drewN | apply below_drew1) | exact HB.out)⟩
   rw [if_pos (show (none : Option Int).isNone = true by rfl)] at H
   (try (obtain rfl := Zk.none_ Hz_t105.out))
   try simp only [errW_none, errW_some]
   have H' := mk0 H
   clear H
   go_wp2_with (first | (go_at_call 100; (with_reducible refine (fastjson_parseRawString.calls kj2 a0 t103 t104 none _ A14.out).mono ?_); rintro e w15 ⟨zn2_, hzn2_, rfl, hb⟩; obtain rfl := Zk.none_ hzn2_; have n0_ := mk0 (below_step zq1 hb); clear HB; have HB := n0_; clear n0_ hb; (try simp only [errW_none, errW_some])))
   repeat (go_quiet (first | (go_at_call 100; (with_reducible refine (fastjson_parseRawString.calls kj2 a0 t103 t104 none _ A14.out).mono ?_); rintro e w15 ⟨zn2_, hzn2_, rfl, hb⟩; obtain rfl := Zk.none_ hzn2_; replace HB := mk0 (below_step zq1 hb); (try simp only [errW_none, errW_some]))); try go_wp2_with (first | (go_at_call 100; (with_reducible refine (fastjson_parseRawString.calls kj2 a0 t103 t104 none _ A14.out).mono ?_); rintro e w15 ⟨zn2_, hzn2_, rfl, hb⟩; obtain rfl := Zk.none_ hzn2_; replace HB := mk0 (below_step zq1 hb); (try simp only [errW_none, errW_some]))))
   (try simp only [Act.put, List.setIfInBounds_toArray, List.set_cons_zero, List.set_cons_succ])
   go_loopg [6] kj2 (fun kq v6 w' => ∃ (x6_2 : ByteArray), v6 = .string x6_2 ∧ Aside0 (fastjson_validateString.l0 kq x6_2 t104 = some (r1, r2, r3)) ∧ Aside0 (kq ≤ kj2) ∧ Aside0 (Below w.heap.size w w'))
   case atStart => exact ⟨(t103), (by rfl), H', ⟨Nat.le_refl _⟩, ⟨by repeat (first | (with_reducible first | exact HB.out | apply below_alloc | apply pw_below_drewN | apply below_drew1) | exact HB.out)⟩⟩
   case round =>
    clear H'
    obtain ⟨x6_2, rfl, HA, HK2, HB⟩ := hrel
    cases gk with
    | zero => exact absurd HA.out (by simp [fastjson_validateString.l0])
    | succ k2 =>
     have H := HA.out
     clear HA
     simp only [fastjson_validateString.l0] at H
     replace H := Option.bind_eq_some_iff.mp H
     obtain ⟨t107, A160, H⟩ := H
     (try dsimp only at H)
     have A16 := mk0 A160
     clear A160
     by_cases c17 : t107 < 0
     ·rw [if_pos c17] at H
      have c17b0 : decide (t107 < 0) = true := decide_eq_true c17
      clear c17
      simp only [Option.some.injEq, Prod.mk.injEq] at H
      obtain ⟨rfl, rfl, rfl⟩ := H
      go_wp2_with (first | (go_at_call 123; (with_reducible refine (strings_IndexByte.calls x6_2 92 t107 _ A16.out).mono ?_); rintro e w' ⟨rfl, ⟨nd, rfl⟩⟩; (try first | exact ⟨rfl, _, World.drewN_drewN _ _ _⟩ | exact ⟨rfl, _, Eq.trans (World.drewN_drewN _ _ _) (congrArg (World.drewN _) (Nat.add_assoc _ _ _))⟩)))
      repeat (go_quiet (first | (go_at_call 123; (with_reducible refine (strings_IndexByte.calls x6_2 92 t107 _ A16.out).mono ?_); rintro e w' ⟨rfl, ⟨nd, rfl⟩⟩; (try first | exact ⟨rfl, _, World.drewN_drewN _ _ _⟩ | exact ⟨rfl, _, Eq.trans (World.drewN_drewN _ _ _) (congrArg (World.drewN _) (Nat.add_assoc _ _ _))⟩))); try go_wp2_with (first | (go_at_call 123; (with_reducible refine (strings_IndexByte.calls x6_2 92 t107 _ A16.out).mono ?_); rintro e w' ⟨rfl, ⟨nd, rfl⟩⟩; (try first | exact ⟨rfl, _, World.drewN_drewN _ _ _⟩ | exact ⟨rfl, _, Eq.trans (World.drewN_drewN _ _ _) (congrArg (World.drewN _) (Nat.add_assoc _ _ _))⟩))))
      go_ret3
      exact ⟨none, Zk.nn, by rfl, by repeat (first | (with_reducible first | exact HB.out | apply below_alloc | apply pw_below_drewN | apply below_drew1) | exact HB.out)⟩
     rw [if_neg c17] at H
     have c17b0 : decide (t107 < 0) = false := decide_eq_false c17
     clear c17
     by_cases c18 : (wrap64 (t107 + 1)) ≥ (x6_2.size : Int)
     ·rw [if_pos c18] at H
      have c18b0 : decide ((x6_2.size : Int) ≤ (wrap64 (t107 + 1))) = true := decide_eq_true c18
      clear c18
      replace H := Option.bind_eq_some_iff.mp H
      obtain ⟨t108, A190, H⟩ := H
      (try dsimp only at H)
      have A19 := mk0 A190
      clear A190
      simp only [Option.some.injEq, Prod.mk.injEq] at H
      obtain ⟨rfl, rfl, rfl⟩ := H
      go_wp2_with (first | (go_at_call 123; (with_reducible refine (strings_IndexByte.calls x6_2 92 t107 _ A16.out).mono ?_); rintro e w' ⟨rfl, ⟨nd, rfl⟩⟩; (try first | exact ⟨rfl, _, World.drewN_drewN _ _ _⟩ | exact ⟨rfl, _, Eq.trans (World.drewN_drewN _ _ _) (congrArg (World.drewN _) (Nat.add_assoc _ _ _))⟩)) | (go_at_call 54; (with_reducible refine (errors_New.calls (⟨#[66, 85, 71, 58, 32, 112, 97, 114, 115, 101, 82, 97, 119, 83, 116, 114, 105, 110, 103, 32, 114, 101, 116, 117, 114, 110, 101, 100, 32, 105, 110, 118, 97, 108, 105, 100, 32, 115, 116, 114, 105, 110, 103, 32, 119, 105, 116, 104, 32, 116, 114, 97, 105, 108, 105, 110, 103, 32, 98, 97, 99, 107, 115, 108, 97, 115, 104]⟩ : ByteArray) t108 _ A19.out).mono ?_); rintro e w20 ⟨z_t108, hz_t108, rfl, hb⟩; have Hz_t108 := mk0 hz_t108; clear hz_t108; have n0_ := mk0 (below_step zq1 hb); clear HB; have HB := n0_; clear n0_ hb; (try simp only [errW_none, errW_some])))
      repeat (go_quiet (first | (go_at_call 123; (with_reducible refine (strings_IndexByte.calls x6_2 92 t107 _ A16.out).mono ?_); rintro e w' ⟨rfl, ⟨nd, rfl⟩⟩; (try first | exact ⟨rfl, _, World.drewN_drewN _ _ _⟩ | exact ⟨rfl, _, Eq.trans (World.drewN_drewN _ _ _) (congrArg (World.drewN _) (Nat.add_assoc _ _ _))⟩)) | (go_at_call 54; (with_reducible refine (errors_New.calls (⟨#[66, 85, 71, 58, 32, 112, 97, 114, 115, 101, 82, 97, 119, 83, 116, 114, 105, 110, 103, 32, 114, 101, 116, 117, 114, 110, 101, 100, 32, 105, 110, 118, 97, 108, 105, 100, 32, 115, 116, 114, 105, 110, 103, 32, 119, 105, 116, 104, 32, 116, 114, 97, 105, 108, 105, 110, 103, 32, 98, 97, 99, 107, 115, 108, 97, 115, 104]⟩ : ByteArray) t108 _ A19.out).mono ?_); rintro e w20 ⟨z_t108, hz_t108, rfl, hb⟩; have Hz_t108 := mk0 hz_t108; clear hz_t108; replace HB := mk0 (below_step zq1 hb); (try simp only [errW_none, errW_some]))); try go_wp2_with (first | (go_at_call 123; (with_reducible refine (strings_IndexByte.calls x6_2 92 t107 _ A16.out).mono ?_); rintro e w' ⟨rfl, ⟨nd, rfl⟩⟩; (try first | exact ⟨rfl, _, World.drewN_drewN _ _ _⟩ | exact ⟨rfl, _, Eq.trans (World.drewN_drewN _ _ _) (congrArg (World.drewN _) (Nat.add_assoc _ _ _))⟩)) | (go_at_call 54; (with_reducible refine (errors_New.calls (⟨#[66, 85, 71, 58, 32, 112, 97, 114, 115, 101, 82, 97, 119, 83, 116, 114, 105, 110, 103, 32, 114, 101, 116, 117, 114, 110, 101, 100, 32, 105, 110, 118, 97, 108, 105, 100, 32, 115, 116, 114, 105, 110, 103, 32, 119, 105, 116, 104, 32, 116, 114, 97, 105, 108, 105, 110, 103, 32, 98, 97, 99, 107, 115, 108, 97, 115, 104]⟩ : ByteArray) t108 _ A19.out).mono ?_); rintro e w20 ⟨z_t108, hz_t108, rfl, hb⟩; have Hz_t108 := mk0 hz_t108; clear hz_t108; replace HB := mk0 (below_step zq1 hb); (try simp only [errW_none, errW_some]))))
      go_ret3
      exact ⟨z_t108, Hz_t108.out, by rfl, by repeat (first | (with_reducible first | exact HB.out | apply below_alloc | apply pw_below_drewN | apply below_drew1) | exact HB.out)⟩
     rw [if_neg c18] at H
     have c18b0 : decide ((x6_2.size : Int) ≤ (wrap64 (t107 + 1))) = false := decide_eq_false c18
     clear c18
     obtain ⟨ji21, hji21⟩ : ∃ j_ : Int, (wrap64 (t107 + 1)) = j_ := ⟨_, rfl⟩
     replace H : (if 0 ≤ (ji21) then (if (ji21) < (x6_2.size : Int) then (if 0 ≤ (wrap64 ((ji21) + 1)) then (if (wrap64 ((ji21) + 1)) ≤ (x6_2.size : Int) then (if (bt x6_2 (ji21)) = 34 then (fastjson_validateString.j2 k2 (x6_2.extract ((wrap64 ((ji21) + 1)) : Int).toNat x6_2.size) t104 (bt x6_2 (ji21)) ((bt x6_2 (ji21)) == 34)) else (if (bt x6_2 (ji21)) = 92 then (fastjson_validateString.j2 k2 (x6_2.extract ((wrap64 ((ji21) + 1)) : Int).toNat x6_2.size) t104 (bt x6_2 (ji21)) ((bt x6_2 (ji21)) == 92)) else (if (bt x6_2 (ji21)) = 47 then (fastjson_validateString.j2 k2 (x6_2.extract ((wrap64 ((ji21) + 1)) : Int).toNat x6_2.size) t104 (bt x6_2 (ji21)) ((bt x6_2 (ji21)) == 47)) else (if (bt x6_2 (ji21)) = 98 then (fastjson_validateString.j2 k2 (x6_2.extract ((wrap64 ((ji21) + 1)) : Int).toNat x6_2.size) t104 (bt x6_2 (ji21)) ((bt x6_2 (ji21)) == 98)) else (if (bt x6_2 (ji21)) = 102 then (fastjson_validateString.j2 k2 (x6_2.extract ((wrap64 ((ji21) + 1)) : Int).toNat x6_2.size) t104 (bt x6_2 (ji21)) ((bt x6_2 (ji21)) == 102)) else (if (bt x6_2 (ji21)) = 110 then (fastjson_validateString.j2 k2 (x6_2.extract ((wrap64 ((ji21) + 1)) : Int).toNat x6_2.size) t104 (bt x6_2 (ji21)) ((bt x6_2 (ji21)) == 110)) else (if (bt x6_2 (ji21)) = 114 then (fastjson_validateString.j2 k2 (x6_2.extract ((wrap64 ((ji21) + 1)) : Int).toNat x6_2.size) t104 (bt x6_2 (ji21)) ((bt x6_2 (ji21)) == 114)) else (fastjson_validateString.j2 k2 (x6_2.extract ((wrap64 ((ji21) + 1)) : Int).toNat x6_2.size) t104 (bt x6_2 (ji21)) ((bt x6_2 (ji21)) == 116))))))))) else (none)) else (none)) else (none)) else (none)) = some (r1, r2, r3) := by (rw [hji21] at H; exact H)
     (try rw [hji21] at c18b0)
     (try rw [hji21] at A16)
     have hji21w : (IntKind.i64.wrap (t107 + 1)) = ji21 := (i64_w _).trans hji21
     by_cases c22 : 0 ≤ (ji21)
     rotate_left
     ·rw [if_neg c22] at H
      exact absurd H (by simp)
     rw [if_pos c22] at H
     have c22b0 : decide (0 ≤ (ji21)) = true := decide_eq_true c22
     clear c22
     by_cases c23 : (ji21) < (x6_2.size : Int)
     rotate_left
     ·rw [if_neg c23] at H
      exact absurd H (by simp)
     rw [if_pos c23] at H
     have c23b0 : decide ((ji21) < (x6_2.size : Int)) = true := decide_eq_true c23
     clear c23
     obtain ⟨ji25, hji25⟩ : ∃ j_ : Int, (wrap64 ((ji21) + 1)) = j_ := ⟨_, rfl⟩
     replace H : (if 0 ≤ (ji25) then (if (ji25) ≤ (x6_2.size : Int) then (if (bt x6_2 (ji21)) = 34 then (fastjson_validateString.j2 k2 (x6_2.extract ((ji25) : Int).toNat x6_2.size) t104 (bt x6_2 (ji21)) ((bt x6_2 (ji21)) == 34)) else (if (bt x6_2 (ji21)) = 92 then (fastjson_validateString.j2 k2 (x6_2.extract ((ji25) : Int).toNat x6_2.size) t104 (bt x6_2 (ji21)) ((bt x6_2 (ji21)) == 92)) else (if (bt x6_2 (ji21)) = 47 then (fastjson_validateString.j2 k2 (x6_2.extract ((ji25) : Int).toNat x6_2.size) t104 (bt x6_2 (ji21)) ((bt x6_2 (ji21)) == 47)) else (if (bt x6_2 (ji21)) = 98 then (fastjson_validateString.j2 k2 (x6_2.extract ((ji25) : Int).toNat x6_2.size) t104 (bt x6_2 (ji21)) ((bt x6_2 (ji21)) == 98)) else (if (bt x6_2 (ji21)) = 102 then (fastjson_validateString.j2 k2 (x6_2.extract ((ji25) : Int).toNat x6_2.size) t104 (bt x6_2 (ji21)) ((bt x6_2 (ji21)) == 102)) else (if (bt x6_2 (ji21)) = 110 then (fastjson_validateString.j2 k2 (x6_2.extract ((ji25) : Int).toNat x6_2.size) t104 (bt x6_2 (ji21)) ((bt x6_2 (ji21)) == 110)) else (if (bt x6_2 (ji21)) = 114 then (fastjson_validateString.j2 k2 (x6_2.extract ((ji25) : Int).toNat x6_2.size) t104 (bt x6_2 (ji21)) ((bt x6_2 (ji21)) == 114)) else (fastjson_validateString.j2 k2 (x6_2.extract ((ji25) : Int).toNat x6_2.size) t104 (bt x6_2 (ji21)) ((bt x6_2 (ji21)) == 116))))))))) else (none)) else (none)) = some (r1, r2, r3) := by (rw [hji25] at H; exact H)
     (try rw [hji25] at A16)
     have hji25w : (IntKind.i64.wrap ((ji21) + 1)) = ji25 := (i64_w _).trans hji25
     by_cases c26 : 0 ≤ (ji25)
     rotate_left
     ·rw [if_neg c26] at H
      exact absurd H (by simp)
     rw [if_pos c26] at H
     have c26b0 := eq_true c26
     have c26b1 : decide (0 ≤ (ji25)) = true := decide_eq_true c26
     clear c26
     by_cases c27 : (ji25) ≤ (x6_2.size : Int)
     rotate_left
     ·rw [if_neg c27] at H
      exact absurd H (by simp)
     rw [if_pos c27] at H
     have c27b0 := eq_true c27
     have c27b1 : decide ((ji25) ≤ (x6_2.size : Int)) = true := decide_eq_true c27
     clear c27
     have HC28 := mk0 H
     clear H
     go_upto_if 69 with (first | (go_at_call 123; (with_reducible refine (strings_IndexByte.calls x6_2 92 t107 _ A16.out).mono ?_); rintro e w' ⟨rfl, ⟨nd, rfl⟩⟩; (try first | exact ⟨rfl, _, World.drewN_drewN _ _ _⟩ | exact ⟨rfl, _, Eq.trans (World.drewN_drewN _ _ _) (congrArg (World.drewN _) (Nat.add_assoc _ _ _))⟩); have p24 : 0 ≤ ((ji21) : Int) := of_decide_eq_true zq5; have q24 : (ji21) < (x6_2.size : Int) := of_decide_eq_true zq5; have hx24 := bt_at x6_2 (ji21); replace p24 := eq_true p24; replace q24 := eq_true q24))
     repeat (go_quiet (first | (go_at_call 123; (with_reducible refine (strings_IndexByte.calls x6_2 92 t107 _ A16.out).mono ?_); rintro e w' ⟨rfl, ⟨nd, rfl⟩⟩; (try first | exact ⟨rfl, _, World.drewN_drewN _ _ _⟩ | exact ⟨rfl, _, Eq.trans (World.drewN_drewN _ _ _) (congrArg (World.drewN _) (Nat.add_assoc _ _ _))⟩); have p24 : 0 ≤ ((ji21) : Int) := of_decide_eq_true zq46; have q24 : (ji21) < (x6_2.size : Int) := of_decide_eq_true zq46; have hx24 := bt_at x6_2 (ji21); replace p24 := eq_true p24; replace q24 := eq_true q24)); go_upto_if 69 with (first | (go_at_call 123; (with_reducible refine (strings_IndexByte.calls x6_2 92 t107 _ A16.out).mono ?_); rintro e w' ⟨rfl, ⟨nd, rfl⟩⟩; (try first | exact ⟨rfl, _, World.drewN_drewN _ _ _⟩ | exact ⟨rfl, _, Eq.trans (World.drewN_drewN _ _ _) (congrArg (World.drewN _) (Nat.add_assoc _ _ _))⟩); have p24 : 0 ≤ ((ji21) : Int) := of_decide_eq_true zq46; have q24 : (ji21) < (x6_2.size : Int) := of_decide_eq_true zq46; have hx24 := bt_at x6_2 (ji21); replace p24 := eq_true p24; replace q24 := eq_true q24)))
     (try simp only [Act.put, List.setIfInBounds_toArray, List.set_cons_zero, List.set_cons_succ])
     go_cut [69] (fun v69 wc => ∃ (kq : Nat) (x69_27 : Bool), v69 = .bool x69_27 ∧ Aside0 (fastjson_validateString.j2 kq (x6_2.extract ((ji25) : Int).toNat x6_2.size) t104 (bt x6_2 (ji21)) x69_27 = some (r1, r2, r3)) ∧ Aside0 (kq ≤ k2) ∧ Aside0 (Below w.heap.size w wc))
     case first =>
      have H := HC28.out
      clear HC28
      by_cases c29 : (bt x6_2 (ji21)) = 34
      ·rw [if_pos c29] at H
       have c29b0 : ((bt x6_2 (ji21)) == 34) = true := beq_iff_eq.mpr c29
       have c29b1 : ((bt x6_2 (ji21)) != 34) = false := bne_eq_false_iff_eq.mpr c29
       clear c29
       (rw [c29b0])
       have H' := mk0 H
       clear H
       go_wp2
       repeat (go_quiet (fail); try go_wp2)
       go_meet
       case rel => exact ⟨_, (((bt x6_2 (ji21)) == 34)), zq69, H', ⟨by have := HJ2.out; have := HK2.out; first | omega | exact Nat.le_refl _⟩, ⟨by repeat (first | (with_reducible first | exact HB.out | apply below_alloc | apply pw_below_drewN | apply below_drew1) | exact HB.out)⟩⟩
      rw [if_neg c29] at H
      have c29b0 : ((bt x6_2 (ji21)) == 34) = false := beq_eq_false_iff_ne.mpr c29
      have c29b1 : ((bt x6_2 (ji21)) != 34) = true := bne_iff_ne.mpr c29
      (rw [c29b0])
      by_cases c30 : (bt x6_2 (ji21)) = 92
      ·rw [if_pos c30] at H
       have c30b0 : ((bt x6_2 (ji21)) == 92) = true := beq_iff_eq.mpr c30
       have c30b1 : ((bt x6_2 (ji21)) != 92) = false := bne_eq_false_iff_eq.mpr c30
       clear c30
       have H' := mk0 H
       clear H
       go_wp2
       repeat (go_quiet (fail); try go_wp2)
       go_meet
       case rel => exact ⟨_, (((bt x6_2 (ji21)) == 92)), zq69, H', ⟨by have := HJ2.out; have := HK2.out; first | omega | exact Nat.le_refl _⟩, ⟨by repeat (first | (with_reducible first | exact HB.out | apply below_alloc | apply pw_below_drewN | apply below_drew1) | exact HB.out)⟩⟩
      rw [if_neg c30] at H
      have c30b0 : ((bt x6_2 (ji21)) == 92) = false := beq_eq_false_iff_ne.mpr c30
      have c30b1 : ((bt x6_2 (ji21)) != 92) = true := bne_iff_ne.mpr c30
      by_cases c31 : (bt x6_2 (ji21)) = 47
      ·rw [if_pos c31] at H
       have c31b0 : ((bt x6_2 (ji21)) == 47) = true := beq_iff_eq.mpr c31
       have c31b1 : ((bt x6_2 (ji21)) != 47) = false := bne_eq_false_iff_eq.mpr c31
       clear c31
       have H' := mk0 H
       clear H
       go_wp2
       repeat (go_quiet (fail); try go_wp2)
       go_meet
       case rel => exact ⟨_, (((bt x6_2 (ji21)) == 47)), zq69, H', ⟨by have := HJ2.out; have := HK2.out; first | omega | exact Nat.le_refl _⟩, ⟨by repeat (first | (with_reducible first | exact HB.out | apply below_alloc | apply pw_below_drewN | apply below_drew1) | exact HB.out)⟩⟩
      rw [if_neg c31] at H
      have c31b0 : ((bt x6_2 (ji21)) == 47) = false := beq_eq_false_iff_ne.mpr c31
      have c31b1 : ((bt x6_2 (ji21)) != 47) = true := bne_iff_ne.mpr c31
      by_cases c32 : (bt x6_2 (ji21)) = 98
      ·rw [if_pos c32] at H
       have c32b0 : ((bt x6_2 (ji21)) == 98) = true := beq_iff_eq.mpr c32
       have c32b1 : ((bt x6_2 (ji21)) != 98) = false := bne_eq_false_iff_eq.mpr c32
       clear c32
       have H' := mk0 H
       clear H
       go_wp2
       repeat (go_quiet (fail); try go_wp2)
       go_meet
       case rel => exact ⟨_, (((bt x6_2 (ji21)) == 98)), zq69, H', ⟨by have := HJ2.out; have := HK2.out; first | omega | exact Nat.le_refl _⟩, ⟨by repeat (first | (with_reducible first | exact HB.out | apply below_alloc | apply pw_below_drewN | apply below_drew1) | exact HB.out)⟩⟩
      rw [if_neg c32] at H
      have c32b0 : ((bt x6_2 (ji21)) == 98) = false := beq_eq_false_iff_ne.mpr c32
      have c32b1 : ((bt x6_2 (ji21)) != 98) = true := bne_iff_ne.mpr c32
      by_cases c33 : (bt x6_2 (ji21)) = 102
      ·rw [if_pos c33] at H
       have c33b0 : ((bt x6_2 (ji21)) == 102) = true := beq_iff_eq.mpr c33
       have c33b1 : ((bt x6_2 (ji21)) != 102) = false := bne_eq_false_iff_eq.mpr c33
       clear c33
       have H' := mk0 H
       clear H
       go_wp2
       repeat (go_quiet (fail); try go_wp2)
       go_meet
       case rel => exact ⟨_, (((bt x6_2 (ji21)) == 102)), zq69, H', ⟨by have := HJ2.out; have := HK2.out; first | omega | exact Nat.le_refl _⟩, ⟨by repeat (first | (with_reducible first | exact HB.out | apply below_alloc | apply pw_below_drewN | apply below_drew1) | exact HB.out)⟩⟩
      rw [if_neg c33] at H
      have c33b0 : ((bt x6_2 (ji21)) == 102) = false := beq_eq_false_iff_ne.mpr c33
      have c33b1 : ((bt x6_2 (ji21)) != 102) = true := bne_iff_ne.mpr c33
      by_cases c34 : (bt x6_2 (ji21)) = 110
      ·rw [if_pos c34] at H
       have c34b0 : ((bt x6_2 (ji21)) == 110) = true := beq_iff_eq.mpr c34
       have c34b1 : ((bt x6_2 (ji21)) != 110) = false := bne_eq_false_iff_eq.mpr c34
       clear c34
       have H' := mk0 H
       clear H
       go_wp2
       repeat (go_quiet (fail); try go_wp2)
       go_meet
       case rel => exact ⟨_, (((bt x6_2 (ji21)) == 110)), zq69, H', ⟨by have := HJ2.out; have := HK2.out; first | omega | exact Nat.le_refl _⟩, ⟨by repeat (first | (with_reducible first | exact HB.out | apply below_alloc | apply pw_below_drewN | apply below_drew1) | exact HB.out)⟩⟩
      rw [if_neg c34] at H
      have c34b0 : ((bt x6_2 (ji21)) == 110) = false := beq_eq_false_iff_ne.mpr c34
      have c34b1 : ((bt x6_2 (ji21)) != 110) = true := bne_iff_ne.mpr c34
      by_cases c35 : (bt x6_2 (ji21)) = 114
      rotate_left
      ·rw [if_neg c35] at H
       have c35b0 : ((bt x6_2 (ji21)) == 114) = false := beq_eq_false_iff_ne.mpr c35
       have c35b1 : ((bt x6_2 (ji21)) != 114) = true := bne_iff_ne.mpr c35
       have H' := mk0 H
       clear H
       go_wp2
       repeat (go_quiet (fail); try go_wp2)
       go_meet
       case rel => exact ⟨_, (((bt x6_2 (ji21)) == 116)), (by with_reducible rfl), H', ⟨by have := HJ2.out; have := HK2.out; first | omega | exact Nat.le_refl _⟩, ⟨by repeat (first | (with_reducible first | exact HB.out | apply below_alloc | apply pw_below_drewN | apply below_drew1) | exact HB.out)⟩⟩
      rw [if_pos c35] at H
      have c35b0 : ((bt x6_2 (ji21)) == 114) = true := beq_iff_eq.mpr c35
      have c35b1 : ((bt x6_2 (ji21)) != 114) = false := bne_eq_false_iff_eq.mpr c35
      clear c35
      have H' := mk0 H
      clear H
      go_wp2
      repeat (go_quiet (fail); try go_wp2)
      go_meet
      case rel => exact ⟨_, (((bt x6_2 (ji21)) == 114)), zq69, H', ⟨by have := HJ2.out; have := HK2.out; first | omega | exact Nat.le_refl _⟩, ⟨by repeat (first | (with_reducible first | exact HB.out | apply below_alloc | apply pw_below_drewN | apply below_drew1) | exact HB.out)⟩⟩
     case rest =>
      clear HC28 c17b0 c18b0 c22b0 c23b0 p24 q24 hx24 c26b0 c26b1 c27b0 c27b1
      obtain ⟨kq, x69_27, rfl, HA, HJ27, HB⟩ := hcut
      cases kq with
      | zero => exact absurd HA.out (by simp [fastjson_validateString.j2])
      | succ kj27 =>
       have H := HA.out
       clear HA
       simp only [fastjson_validateString.j2] at H
       by_cases c36 : x69_27 = true
       ·subst c36
        rw [if_pos rfl] at H
        have H' := mk0 H
        clear H
        go_wp2
        repeat (go_quiet (fail); try go_wp2)
        (try simp only [← hji21, ← hji25])
        go_roundg kj27
        case measure => have := HJ2.out; have := HK2.out; have := HJ27.out; omega
        case rel => exact ⟨((x6_2.extract ((ji25) : Int).toNat x6_2.size)), (by (simp only [← hji21, ← hji25]; done)), (by exact H'), ⟨by have := HJ2.out; have := HK2.out; have := HJ27.out; omega⟩, ⟨by repeat (first | (with_reducible first | exact HB.out | apply below_alloc | apply pw_below_drewN | apply below_drew1) | exact HB.out)⟩⟩
       replace c36 := Bool.eq_false_iff.mpr c36
       subst c36
       rw [if_neg (show ¬ (false = true) by decide)] at H
       by_cases c37 : (bt x6_2 (ji21)) = 117
       rotate_left
       ·rw [if_neg c37] at H
        have c37b0 : ((bt x6_2 (ji21)) == 117) = false := beq_eq_false_iff_ne.mpr c37
        have c37b1 : ((bt x6_2 (ji21)) != 117) = true := bne_iff_ne.mpr c37
        replace H := Option.bind_eq_some_iff.mp H
        obtain ⟨t114, A490, H⟩ := H
        (try dsimp only at H)
        have A49 := mk0 A490
        clear A490
        simp only [Option.some.injEq, Prod.mk.injEq] at H
        obtain ⟨rfl, rfl, rfl⟩ := H
        go_wp2_with (first | (go_at_call 54; (with_reducible refine (errors_New.calls (⟨#[117, 110, 107, 110, 111, 119, 110, 32, 101, 115, 99, 97, 112, 101, 32, 115, 101, 113, 117, 101, 110, 99, 101]⟩ : ByteArray) t114 _ A49.out).mono ?_); rintro e w50 ⟨z_t114, hz_t114, rfl, hb⟩; have Hz_t114 := mk0 hz_t114; clear hz_t114; have n0_ := mk0 (below_step zq1 hb); clear HB; have HB := n0_; clear n0_ hb; (try simp only [errW_none, errW_some])))
        repeat (go_quiet (first | (go_at_call 54; (with_reducible refine (errors_New.calls (⟨#[117, 110, 107, 110, 111, 119, 110, 32, 101, 115, 99, 97, 112, 101, 32, 115, 101, 113, 117, 101, 110, 99, 101]⟩ : ByteArray) t114 _ A49.out).mono ?_); rintro e w50 ⟨z_t114, hz_t114, rfl, hb⟩; have Hz_t114 := mk0 hz_t114; clear hz_t114; replace HB := mk0 (below_step zq1 hb); (try simp only [errW_none, errW_some]))); try go_wp2_with (first | (go_at_call 54; (with_reducible refine (errors_New.calls (⟨#[117, 110, 107, 110, 111, 119, 110, 32, 101, 115, 99, 97, 112, 101, 32, 115, 101, 113, 117, 101, 110, 99, 101]⟩ : ByteArray) t114 _ A49.out).mono ?_); rintro e w50 ⟨z_t114, hz_t114, rfl, hb⟩; have Hz_t114 := mk0 hz_t114; clear hz_t114; replace HB := mk0 (below_step zq1 hb); (try simp only [errW_none, errW_some]))))
        go_ret3
        exact ⟨z_t114, Hz_t114.out, by rfl, by repeat (first | (with_reducible first | exact HB.out | apply below_alloc | apply pw_below_drewN | apply below_drew1) | exact HB.out)⟩
       rw [if_pos c37] at H
       have c37b0 : ((bt x6_2 (ji21)) == 117) = true := beq_iff_eq.mpr c37
       have c37b1 : ((bt x6_2 (ji21)) != 117) = false := bne_eq_false_iff_eq.mpr c37
       clear c37
       by_cases c38 : ((x6_2.extract ((ji25) : Int).toNat x6_2.size).size : Int) < 4
       ·rw [if_pos c38] at H
        have c38b0 : decide (((x6_2.extract ((ji25) : Int).toNat x6_2.size).size : Int) < 4) = true := decide_eq_true c38
        have c38b0s := c38b0; simp only [ByteArray.size_extract, Nat.min_self] at c38b0s
        have c38b1 : decide ((x6_2.extract ((ji25) : Int).toNat x6_2.size).size < 4) = true := decide_eq_true (by omega)
        have c38b1s := c38b1; simp only [ByteArray.size_extract, Nat.min_self] at c38b1s
        clear c38
        replace H := Option.bind_eq_some_iff.mp H
        obtain ⟨t109, A390, H⟩ := H
        (try dsimp only at H)
        have A39 := mk0 A390
        clear A390
        simp only [Option.some.injEq, Prod.mk.injEq] at H
        obtain ⟨rfl, rfl, rfl⟩ := H
        go_wp2_with (first | (go_at_call 54; (with_reducible refine (errors_New.calls (⟨#[116, 111, 111, 32, 115, 104, 111, 114, 116, 32, 101, 115, 99, 97, 112, 101, 32, 115, 101, 113, 117, 101, 110, 99, 101, 58, 32, 92, 117]⟩ : ByteArray) t109 _ A39.out).mono ?_); rintro e w40 ⟨z_t109, hz_t109, rfl, hb⟩; have Hz_t109 := mk0 hz_t109; clear hz_t109; have n0_ := mk0 (below_step zq1 hb); clear HB; have HB := n0_; clear n0_ hb; (try simp only [errW_none, errW_some])))
        repeat (go_quiet (first | (go_at_call 54; (with_reducible refine (errors_New.calls (⟨#[116, 111, 111, 32, 115, 104, 111, 114, 116, 32, 101, 115, 99, 97, 112, 101, 32, 115, 101, 113, 117, 101, 110, 99, 101, 58, 32, 92, 117]⟩ : ByteArray) t109 _ A39.out).mono ?_); rintro e w40 ⟨z_t109, hz_t109, rfl, hb⟩; have Hz_t109 := mk0 hz_t109; clear hz_t109; replace HB := mk0 (below_step zq1 hb); (try simp only [errW_none, errW_some]))); try go_wp2_with (first | (go_at_call 54; (with_reducible refine (errors_New.calls (⟨#[116, 111, 111, 32, 115, 104, 111, 114, 116, 32, 101, 115, 99, 97, 112, 101, 32, 115, 101, 113, 117, 101, 110, 99, 101, 58, 32, 92, 117]⟩ : ByteArray) t109 _ A39.out).mono ?_); rintro e w40 ⟨z_t109, hz_t109, rfl, hb⟩; have Hz_t109 := mk0 hz_t109; clear hz_t109; replace HB := mk0 (below_step zq1 hb); (try simp only [errW_none, errW_some]))))
        go_ret3
        exact ⟨z_t109, Hz_t109.out, by rfl, by repeat (first | (with_reducible first | exact HB.out | apply below_alloc | apply pw_below_drewN | apply below_drew1) | exact HB.out)⟩
       rw [if_neg c38] at H
       have c38b0 : decide (((x6_2.extract ((ji25) : Int).toNat x6_2.size).size : Int) < 4) = false := decide_eq_false c38
       have c38b0s := c38b0; simp only [ByteArray.size_extract, Nat.min_self] at c38b0s
       have c38b1 : decide ((x6_2.extract ((ji25) : Int).toNat x6_2.size).size < 4) = false := decide_eq_false (by omega)
       have c38b1s := c38b1; simp only [ByteArray.size_extract, Nat.min_self] at c38b1s
       clear c38
       by_cases c41 : 0 ≤ 4
       rotate_left
       ·rw [if_neg c41] at H
        exact absurd H (by simp)
       rw [if_pos c41] at H
       have c41b0 := eq_true c41
       have c41b1 : decide (0 ≤ 4) = true := decide_eq_true c41
       clear c41
       by_cases c42 : 4 ≤ ((x6_2.extract ((ji25) : Int).toNat x6_2.size).size : Int)
       rotate_left
       ·rw [if_neg c42] at H
        exact absurd H (by simp)
       rw [if_pos c42] at H
       have c42b0 := eq_true c42
       have c42b1 : decide (4 ≤ ((x6_2.extract ((ji25) : Int).toNat x6_2.size).size : Int)) = true := decide_eq_true c42
       have c42b1s := c42b1; simp only [ByteArray.size_extract, Nat.min_self] at c42b1s
       clear c42
       replace H := Option.bind_eq_some_iff.mp H
       obtain ⟨⟨t110, t111⟩, A430, H⟩ := H
       (try dsimp only at H)
       have A43 := mk0 A430
       clear A430
       rcases t111 with _ | q112
       ·rw [if_pos (show (none : Option Int).isNone = true by rfl)] at H
        (try (obtain rfl := Zk.none_ Hz_t111.out))
        try simp only [errW_none, errW_some]
        have c44b0 := eq_true (of_decide_eq_true zq5 : 4 ≤ ((x6_2.extract ((ji25) : Int).toNat x6_2.size).size : Int))
        have H' := mk0 H
        clear H
        go_wp2_with (first | (go_at_call 55; (with_reducible refine (strconv_ParseUint_55.calls ((x6_2.extract ((ji25) : Int).toNat x6_2.size).extract 0 4) 16 16 t110 none _ ?side1 A43.out).mono ?_); (case side1 => exact zq25); rintro e w45 ⟨zn1_, hzn1_, rfl, hb⟩; obtain rfl := Zk.none_ hzn1_; have n0_ := mk0 (below_step zq1 hb); clear HB; have HB := n0_; clear n0_ hb; (try simp only [errW_none, errW_some])))
        repeat (go_quiet (first | (go_at_call 55; (with_reducible refine (strconv_ParseUint_55.calls ((x6_2.extract ((ji25) : Int).toNat x6_2.size).extract 0 4) 16 16 t110 none _ ?side1 A43.out).mono ?_); (case side1 => exact zq25); rintro e w45 ⟨zn1_, hzn1_, rfl, hb⟩; obtain rfl := Zk.none_ hzn1_; replace HB := mk0 (below_step zq1 hb); (try simp only [errW_none, errW_some]))); try go_wp2_with (first | (go_at_call 55; (with_reducible refine (strconv_ParseUint_55.calls ((x6_2.extract ((ji25) : Int).toNat x6_2.size).extract 0 4) 16 16 t110 none _ ?side1 A43.out).mono ?_); (case side1 => exact zq25); rintro e w45 ⟨zn1_, hzn1_, rfl, hb⟩; obtain rfl := Zk.none_ hzn1_; replace HB := mk0 (below_step zq1 hb); (try simp only [errW_none, errW_some]))))
        (try simp only [← hji21, ← hji25])
        go_roundg kj27
        case measure => have := HJ2.out; have := HK2.out; have := HJ27.out; omega
        case rel => exact ⟨((x6_2.extract ((ji25) : Int).toNat x6_2.size).extract 4 (x6_2.extract ((ji25) : Int).toNat x6_2.size).size), (by (simp only [← hji21, ← hji25]; done)), (by exact H'), ⟨by have := HJ2.out; have := HK2.out; have := HJ27.out; omega⟩, ⟨by repeat (first | (with_reducible first | exact HB.out | apply below_alloc | apply pw_below_drewN | apply below_drew1) | exact HB.out)⟩⟩
       rw [if_neg (show ¬ (some q112).isNone = true by simp)] at H
       (try (obtain ⟨m_q112, rfl⟩ := Zk.some_ Hz_t111.out))
       try simp only [errW_none, errW_some]
       replace H := Option.bind_eq_some_iff.mp H
       obtain ⟨t113, A460, H⟩ := H
       (try dsimp only at H)
       have A46 := mk0 A460
       clear A460
       simp only [Option.some.injEq, Prod.mk.injEq] at H
       obtain ⟨rfl, rfl, rfl⟩ := H
       go_wp2_with (first | (go_at_call 55; (with_reducible refine (strconv_ParseUint_55.calls ((x6_2.extract ((ji25) : Int).toNat x6_2.size).extract 0 4) 16 16 t110 (some q112) _ ?side1 A43.out).mono ?_); (case side1 => exact zq25); rintro e w47 ⟨zs1_, hzs1_, rfl, hb⟩; obtain ⟨m_q112, rfl⟩ := Zk.some_ hzs1_; have n0_ := mk0 (below_step zq1 hb); clear HB; have HB := n0_; clear n0_ hb; (try simp only [errW_none, errW_some])) | (go_at_call 54; (with_reducible refine (errors_New.calls (⟨#[105, 110, 118, 97, 108, 105, 100, 32, 101, 115, 99, 97, 112, 101, 32, 115, 101, 113, 117, 101, 110, 99, 101, 32, 92, 117]⟩ : ByteArray) t113 _ A46.out).mono ?_); rintro e w48 ⟨z_t113, hz_t113, rfl, hb⟩; have Hz_t113 := mk0 hz_t113; clear hz_t113; have n0_ := mk0 (below_step zq1 hb); clear HB; have HB := n0_; clear n0_ hb; (try simp only [errW_none, errW_some])))
       repeat (go_quiet (first | (go_at_call 55; (with_reducible refine (strconv_ParseUint_55.calls ((x6_2.extract ((ji25) : Int).toNat x6_2.size).extract 0 4) 16 16 t110 (some q112) _ ?side1 A43.out).mono ?_); (case side1 => exact zq25); rintro e w47 ⟨zs1_, hzs1_, rfl, hb⟩; obtain ⟨m_q112, rfl⟩ := Zk.some_ hzs1_; replace HB := mk0 (below_step zq1 hb); (try simp only [errW_none, errW_some])) | (go_at_call 54; (with_reducible refine (errors_New.calls (⟨#[105, 110, 118, 97, 108, 105, 100, 32, 101, 115, 99, 97, 112, 101, 32, 115, 101, 113, 117, 101, 110, 99, 101, 32, 92, 117]⟩ : ByteArray) t113 _ A46.out).mono ?_); rintro e w48 ⟨z_t113, hz_t113, rfl, hb⟩; have Hz_t113 := mk0 hz_t113; clear hz_t113; replace HB := mk0 (below_step zq1 hb); (try simp only [errW_none, errW_some]))); try go_wp2_with (first | (go_at_call 55; (with_reducible refine (strconv_ParseUint_55.calls ((x6_2.extract ((ji25) : Int).toNat x6_2.size).extract 0 4) 16 16 t110 (some q112) _ ?side1 A43.out).mono ?_); (case side1 => exact zq25); rintro e w47 ⟨zs1_, hzs1_, rfl, hb⟩; obtain ⟨m_q112, rfl⟩ := Zk.some_ hzs1_; replace HB := mk0 (below_step zq1 hb); (try simp only [errW_none, errW_some])) | (go_at_call 54; (with_reducible refine (errors_New.calls (⟨#[105, 110, 118, 97, 108, 105, 100, 32, 101, 115, 99, 97, 112, 101, 32, 115, 101, 113, 117, 101, 110, 99, 101, 32, 92, 117]⟩ : ByteArray) t113 _ A46.out).mono ?_); rintro e w48 ⟨z_t113, hz_t113, rfl, hb⟩; have Hz_t113 := mk0 hz_t113; clear hz_t113; replace HB := mk0 (below_step zq1 hb); (try simp only [errW_none, errW_some]))))
       go_ret3
       exact ⟨z_t113, Hz_t113.out, by rfl, by repeat (first | (with_reducible first | exact HB.out | apply below_alloc | apply pw_below_drewN | apply below_drew1) | exact HB.out)⟩
def fastjson_validateKey.l0 : Nat → ByteArray → Int → Int → Option (ByteArray × ByteArray × Option Int)
  | 0, _, _, _ => none
  | k + 1, x0, x7, x8 => if x8 < x7 then (if 0 ≤ x8 then (if x8 < (x0.size : Int) then (if (bt x0 x8) = 34 then (if x8 ≤ (x0.size : Int) then (if 0 ≤ (wrap64 (x8 + 1)) then (if (wrap64 (x8 + 1)) ≤ (x0.size : Int) then (some (x0.extract 0 (x8 : Int).toNat, x0.extract ((wrap64 (x8 + 1)) : Int).toNat x0.size, none)) else (none)) else (none)) else (none)) else (if (bt x0 x8) = 92 then ((fastjson_validateString.f k x0).bind fun bt102 => (some (bt102.1, bt102.2.1, bt102.2.2))) else (fastjson_validateKey.l0 k x0 x7 (wrap64 (x8 + 1))))) else (none)) else (none)) else ((errors_New.f (⟨#[109, 105, 115, 115, 105, 110, 103, 32, 99, 108, 111, 115, 105, 110, 103]⟩ : ByteArray)).bind fun t101 => (some ((⟨#[]⟩ : ByteArray), x0, t101)))
def fastjson_validateKey.f (k : Nat) (a0 : ByteArray) : Option (ByteArray × ByteArray × Option Int) := fastjson_validateKey.l0 k a0 (a0.size : Int) 0
theorem fastjson_validateKey.mono_l : ∀ k, (∀ y0 y1 y2, LeO (fastjson_validateKey.l0 k y0 y1 y2) (fastjson_validateKey.l0 (k + 1) y0 y1 y2))
 | 0 => fun _ _ _ r h => by simp [fastjson_validateKey.l0] at h
 | k + 1 => by
  have ih0 := fastjson_validateKey.mono_l k
  ·intro y0 y1 y2
   unfold fastjson_validateKey.l0
   repeat' first
   | (with_reducible exact ih0 _ _ _)
   | (with_reducible exact fastjson_validateString.mono _ _)
   | (with_reducible exact LeO.refl _)
   | (with_reducible exact LeO.none _)
   | (with_reducible refine LeO.ite ?_ ?_)
   | (with_reducible refine LeO.bind ?_ (fun _ => ?_))
   | exact ih0 _ _ _
   | exact fastjson_validateString.mono _ _
   | exact LeO.none _
   | refine LeO.ite ?_ ?_
   | refine LeO.bind ?_ (fun _ => ?_)
theorem fastjson_validateKey.mono : ∀ a0 k, LeO (fastjson_validateKey.f k a0) (fastjson_validateKey.f (k + 1) a0) := by
 intro a0 k
 have ih0 := fastjson_validateKey.mono_l k
 unfold fastjson_validateKey.f
 repeat' first
  | (with_reducible exact ih0 _ _ _)
  | (with_reducible exact fastjson_validateString.mono _ _)
  | (with_reducible exact LeO.refl _)
  | (with_reducible exact LeO.none _)
  | (with_reducible refine LeO.ite ?_ ?_)
  | (with_reducible refine LeO.bind ?_ (fun _ => ?_))
  | exact ih0 _ _ _
  | exact fastjson_validateString.mono _ _
  | exact LeO.none _
  | refine LeO.ite ?_ ?_
  | refine LeO.bind ?_ (fun _ => ?_)
set_option maxHeartbeats 8000000 in
set_option maxRecDepth 100000 in
theorem fastjson_validateKey.calls (k : Nat) (a0 : ByteArray) (r1 : ByteArray) (r2 : ByteArray) (r3 : Option Int) (w : World) (hG : Laid w) (h : fastjson_validateKey.f k a0 = some (r1, r2, r3)) :
 Calls Tryd.prog 125 #[.string a0] w fun e w' => ∃ z_r3 : Option Int, Zk z_r3 r3 ∧ e = .returned (.tuple #[.string r1, .string r2, errW z_r3]) ∧ Below w.heap.size w w' := by
 have HG := mk0 hG
 clear hG
 have HB := mk0 (Below.refl w.heap.size w)
 have H : (fastjson_validateKey.l0 k a0 (a0.size : Int) 0) = some (r1, r2, r3) := h
 clear h
 have H' := mk0 H
 clear H
 go_enter Tryd.func125, Tryd.ntmps125
 go_wp2
 repeat (go_quiet (fail); try go_wp2)
 go_loopg [8] k (fun kq v8 w' => ∃ (x8_1 : Int), v8 = .int .i64 x8_1 ∧ Aside0 (fastjson_validateKey.l0 kq a0 (a0.size : Int) x8_1 = some (r1, r2, r3)) ∧ Aside0 (kq ≤ k) ∧ Aside0 (Below w.heap.size w w'))
 case atStart => exact ⟨(0), (by rfl), H', ⟨Nat.le_refl _⟩, ⟨by repeat (first | (with_reducible first | exact HB.out | apply below_alloc | apply pw_below_drewN | apply below_drew1) | exact HB.out)⟩⟩
 case round =>
  clear H'
  obtain ⟨x8_1, rfl, HA, HK1, HB⟩ := hrel
  cases gk with
  | zero => exact absurd HA.out (by simp [fastjson_validateKey.l0])
  | succ k1 =>
   have H := HA.out
   clear HA
   simp only [fastjson_validateKey.l0] at H
   by_cases c2 : x8_1 < (a0.size : Int)
   rotate_left
   ·rw [if_neg c2] at H
    have c2b0 : decide (x8_1 < (a0.size : Int)) = false := decide_eq_false c2
    clear c2
    replace H := Option.bind_eq_some_iff.mp H
    obtain ⟨t101, A160, H⟩ := H
    (try dsimp only at H)
    have A16 := mk0 A160
    clear A160
    simp only [Option.some.injEq, Prod.mk.injEq] at H
    obtain ⟨rfl, rfl, rfl⟩ := H
    go_wp2_with (first | (go_at_call 54; (with_reducible refine (errors_New.calls (⟨#[109, 105, 115, 115, 105, 110, 103, 32, 99, 108, 111, 115, 105, 110, 103]⟩ : ByteArray) t101 _ A16.out).mono ?_); rintro e w17 ⟨z_t101, hz_t101, rfl, hb⟩; have Hz_t101 := mk0 hz_t101; clear hz_t101; have n0_ := mk0 (below_step zq1 hb); clear HB; have HB := n0_; clear n0_ hb; (try simp only [errW_none, errW_some])))
    repeat (go_quiet (first | (go_at_call 54; (with_reducible refine (errors_New.calls (⟨#[109, 105, 115, 115, 105, 110, 103, 32, 99, 108, 111, 115, 105, 110, 103]⟩ : ByteArray) t101 _ A16.out).mono ?_); rintro e w17 ⟨z_t101, hz_t101, rfl, hb⟩; have Hz_t101 := mk0 hz_t101; clear hz_t101; replace HB := mk0 (below_step zq1 hb); (try simp only [errW_none, errW_some]))); try go_wp2_with (first | (go_at_call 54; (with_reducible refine (errors_New.calls (⟨#[109, 105, 115, 115, 105, 110, 103, 32, 99, 108, 111, 115, 105, 110, 103]⟩ : ByteArray) t101 _ A16.out).mono ?_); rintro e w17 ⟨z_t101, hz_t101, rfl, hb⟩; have Hz_t101 := mk0 hz_t101; clear hz_t101; replace HB := mk0 (below_step zq1 hb); (try simp only [errW_none, errW_some]))))
    go_ret3
    exact ⟨z_t101, Hz_t101.out, by rfl, by repeat (first | (with_reducible first | exact HB.out | apply below_alloc | apply pw_below_drewN | apply below_drew1) | exact HB.out)⟩
   rw [if_pos c2] at H
   have c2b0 : decide (x8_1 < (a0.size : Int)) = true := decide_eq_true c2
   clear c2
   by_cases c3 : 0 ≤ x8_1
   rotate_left
   ·rw [if_neg c3] at H
    exact absurd H (by simp)
   rw [if_pos c3] at H
   have c3b0 : decide (0 ≤ x8_1) = true := decide_eq_true c3
   clear c3
   by_cases c4 : x8_1 < (a0.size : Int)
   rotate_left
   ·rw [if_neg c4] at H
    exact absurd H (by simp)
   rw [if_pos c4] at H
   have c4b0 : decide (x8_1 < (a0.size : Int)) = true := decide_eq_true c4
   clear c4
   by_cases c6 : (bt a0 x8_1) = 34
   ·rw [if_pos c6] at H
    have c6b0 : ((bt a0 x8_1) == 34) = true := beq_iff_eq.mpr c6
    have c6b1 : ((bt a0 x8_1) != 34) = false := bne_eq_false_iff_eq.mpr c6
    clear c6
    have c7b0 := eq_true (of_decide_eq_true zq5 : 0 ≤ x8_1)
    by_cases c8 : x8_1 ≤ (a0.size : Int)
    rotate_left
    ·rw [if_neg c8] at H
     exact absurd H (by simp)
    rw [if_pos c8] at H
    have c8b0 := eq_true c8
    have c8b1 : decide (x8_1 ≤ (a0.size : Int)) = true := decide_eq_true c8
    clear c8
    obtain ⟨ji9, hji9⟩ : ∃ j_ : Int, (wrap64 (x8_1 + 1)) = j_ := ⟨_, rfl⟩
    replace H : (if 0 ≤ (ji9) then (if (ji9) ≤ (a0.size : Int) then (some (a0.extract 0 (x8_1 : Int).toNat, a0.extract ((ji9) : Int).toNat a0.size, none)) else (none)) else (none)) = some (r1, r2, r3) := by (rw [hji9] at H; exact H)
    have hji9w : (IntKind.i64.wrap (x8_1 + 1)) = ji9 := (i64_w _).trans hji9
    by_cases c10 : 0 ≤ (ji9)
    rotate_left
    ·rw [if_neg c10] at H
     exact absurd H (by simp)
    rw [if_pos c10] at H
    have c10b0 := eq_true c10
    have c10b1 : decide (0 ≤ (ji9)) = true := decide_eq_true c10
    clear c10
    by_cases c11 : (ji9) ≤ (a0.size : Int)
    rotate_left
    ·rw [if_neg c11] at H
     exact absurd H (by simp)
    rw [if_pos c11] at H
    have c11b0 := eq_true c11
    have c11b1 : decide ((ji9) ≤ (a0.size : Int)) = true := decide_eq_true c11
    clear c11
    simp only [Option.some.injEq, Prod.mk.injEq] at H
    obtain ⟨rfl, rfl, rfl⟩ := H
    have p5 : 0 ≤ (x8_1 : Int) := of_decide_eq_true zq5
    have q5 : x8_1 < (a0.size : Int) := of_decide_eq_true zq5
    have hx5 := bt_at a0 x8_1
    replace p5 := eq_true p5
    replace q5 := eq_true q5
    go_wp2
    repeat (go_quiet (fail); try go_wp2)
    go_ret3
    exact ⟨none, Zk.nn, by rfl, by repeat (first | (with_reducible first | exact HB.out | apply below_alloc | apply pw_below_drewN | apply below_drew1) | exact HB.out)⟩
   rw [if_neg c6] at H
   have c6b0 : ((bt a0 x8_1) == 34) = false := beq_eq_false_iff_ne.mpr c6
   have c6b1 : ((bt a0 x8_1) != 34) = true := bne_iff_ne.mpr c6
   by_cases c13 : (bt a0 x8_1) = 92
   rotate_left
   ·rw [if_neg c13] at H
    have c13b0 : ((bt a0 x8_1) == 92) = false := beq_eq_false_iff_ne.mpr c13
    have c13b1 : ((bt a0 x8_1) != 92) = true := bne_iff_ne.mpr c13
    have H' := mk0 H
    clear H
    have p5 : 0 ≤ (x8_1 : Int) := of_decide_eq_true zq5
    have q5 : x8_1 < (a0.size : Int) := of_decide_eq_true zq5
    have hx5 := bt_at a0 x8_1
    replace p5 := eq_true p5
    replace q5 := eq_true q5
    have p12 : 0 ≤ (x8_1 : Int) := of_decide_eq_true zq5
    have q12 : x8_1 < (a0.size : Int) := of_decide_eq_true zq5
    have hx12 := bt_at a0 x8_1
    replace p12 := eq_true p12
    replace q12 := eq_true q12
    go_wp2
    repeat (go_quiet (fail); try go_wp2)
    go_roundg k1
    case measure => have := HK1.out; omega
    case rel => exact ⟨(wrap64 (x8_1 + 1)), (by rfl), H', ⟨by have := HK1.out; omega⟩, ⟨by repeat (first | (with_reducible first | exact HB.out | apply below_alloc | apply pw_below_drewN | apply below_drew1) | exact HB.out)⟩⟩
   rw [if_pos c13] at H
   have c13b0 : ((bt a0 x8_1) == 92) = true := beq_iff_eq.mpr c13
   have c13b1 : ((bt a0 x8_1) != 92) = false := bne_eq_false_iff_eq.mpr c13
   clear c13
   replace H := Option.bind_eq_some_iff.mp H
   obtain ⟨⟨t102, t103, t104⟩, A140, H⟩ := H
   (try dsimp only at H)
   have A14 := mk0 A140
   clear A140
   simp only [Option.some.injEq, Prod.mk.injEq] at H
   obtain ⟨rfl, rfl, rfl⟩ := H
   have p5 : 0 ≤ (x8_1 : Int) := of_decide_eq_true zq5
   have q5 : x8_1 < (a0.size : Int) := of_decide_eq_true zq5
   have hx5 := bt_at a0 x8_1
   replace p5 := eq_true p5
   replace q5 := eq_true q5
   have p12 : 0 ≤ (x8_1 : Int) := of_decide_eq_true zq5
   have q12 : x8_1 < (a0.size : Int) := of_decide_eq_true zq5
   have hx12 := bt_at a0 x8_1
   replace p12 := eq_true p12
   replace q12 := eq_true q12
   go_wp2_with (first | (go_at_call 107; (with_reducible refine (fastjson_validateString.calls k1 a0 t102 t103 t104 _ ?side1 A14.out).mono ?_); (case side1 => exact zq25); rintro e w15 ⟨z_t104, hz_t104, rfl, hb⟩; have Hz_t104 := mk0 hz_t104; clear hz_t104; have n0_ := mk0 (below_step zq1 hb); clear HB; have HB := n0_; clear n0_ hb; (try simp only [errW_none, errW_some])))
   repeat (go_quiet (first | (go_at_call 107; (with_reducible refine (fastjson_validateString.calls k1 a0 t102 t103 t104 _ ?side1 A14.out).mono ?_); (case side1 => exact zq25); rintro e w15 ⟨z_t104, hz_t104, rfl, hb⟩; have Hz_t104 := mk0 hz_t104; clear hz_t104; replace HB := mk0 (below_step zq1 hb); (try simp only [errW_none, errW_some]))); try go_wp2_with (first | (go_at_call 107; (with_reducible refine (fastjson_validateString.calls k1 a0 t102 t103 t104 _ ?side1 A14.out).mono ?_); (case side1 => exact zq25); rintro e w15 ⟨z_t104, hz_t104, rfl, hb⟩; have Hz_t104 := mk0 hz_t104; clear hz_t104; replace HB := mk0 (below_step zq1 hb); (try simp only [errW_none, errW_some]))))
   go_ret3
   exact ⟨z_t104, Hz_t104.out, by rfl, by repeat (first | (with_reducible first | exact HB.out | apply below_alloc | apply pw_below_drewN | apply below_drew1) | exact HB.out)⟩
mutual
def fastjson_validateNumber.j0 : Nat → ByteArray → Option (ByteArray × Option Int)
  | 0, _ => none
  | k + 1, x0 => fastjson_validateNumber.l0 k x0 0
def fastjson_validateNumber.j2 : Nat → ByteArray → Int → Option (ByteArray × Option Int)
  | 0, _, _ => none
  | k + 1, x0, x4 => if x4 ≤ 0 then ((errors_New.f (⟨#[101, 120, 112, 101, 99, 116, 105, 110, 103, 32, 48, 46, 46, 57, 32, 100, 105, 103, 105, 116, 44, 32, 103, 111, 116]⟩ : ByteArray)).bind fun t103 => (some (x0, t103))) else (if 0 < (x0.size : Int) then (if (bt x0 0) = 48 then (fastjson_validateNumber.j3 k x0 x4 (x4 != 1)) else (fastjson_validateNumber.j3 k x0 x4 false)) else (none))
def fastjson_validateNumber.j3 : Nat → ByteArray → Int → Bool → Option (ByteArray × Option Int)
  | 0, _, _, _ => none
  | k + 1, x0, x4, x46 => if x46 = true then ((errors_New.f (⟨#[117, 110, 101, 120, 112, 101, 99, 116, 101, 100, 32, 110, 117, 109, 98, 101, 114, 32, 115, 116, 97, 114, 116, 105, 110, 103, 32, 102, 114, 111, 109, 32, 48]⟩ : ByteArray)).bind fun t104 => (some (x0, t104))) else (if x4 ≥ (x0.size : Int) then (some ((⟨#[]⟩ : ByteArray), none)) else (if 0 ≤ x4 then (if x4 < (x0.size : Int) then (if (bt x0 x4) = 46 then (if 0 ≤ (wrap64 (x4 + 1)) then (if (wrap64 (x4 + 1)) ≤ (x0.size : Int) then (if ((x0.extract ((wrap64 (x4 + 1)) : Int).toNat x0.size).size : Int) = 0 then ((errors_New.f (⟨#[109, 105, 115, 115, 105, 110, 103, 32, 102, 114, 97, 99, 116, 105, 111, 110, 97, 108, 32, 112, 97, 114, 116]⟩ : ByteArray)).bind fun t105 => (some (x0.extract ((wrap64 (x4 + 1)) : Int).toNat x0.size, t105))) else (fastjson_validateNumber.l1 k (x0.extract ((wrap64 (x4 + 1)) : Int).toNat x0.size) 0)) else (none)) else (none)) else (fastjson_validateNumber.j6 k x0 x4)) else (none)) else (none)))
def fastjson_validateNumber.j6 : Nat → ByteArray → Int → Option (ByteArray × Option Int)
  | 0, _, _ => none
  | k + 1, x0, x4 => if 0 ≤ x4 then (if x4 < (x0.size : Int) then (if (bt x0 x4) = 101 then (fastjson_validateNumber.j7 k x0 x4 true) else (fastjson_validateNumber.j7 k x0 x4 ((bt x0 x4) == 69))) else (none)) else (none)
def fastjson_validateNumber.j7 : Nat → ByteArray → Int → Bool → Option (ByteArray × Option Int)
  | 0, _, _, _ => none
  | k + 1, x0, x4, x99 => if x99 = true then (if 0 ≤ (wrap64 (x4 + 1)) then (if (wrap64 (x4 + 1)) ≤ (x0.size : Int) then (if ((x0.extract ((wrap64 (x4 + 1)) : Int).toNat x0.size).size : Int) = 0 then ((errors_New.f (⟨#[109, 105, 115, 115, 105, 110, 103, 32, 101, 120, 112, 111, 110, 101, 110, 116, 32, 112, 97, 114, 116]⟩ : ByteArray)).bind fun t107 => (some (x0.extract ((wrap64 (x4 + 1)) : Int).toNat x0.size, t107))) else (if 0 < ((x0.extract ((wrap64 (x4 + 1)) : Int).toNat x0.size).size : Int) then (if (bt (x0.extract ((wrap64 (x4 + 1)) : Int).toNat x0.size) 0) = 45 then (fastjson_validateNumber.j8 k (x0.extract ((wrap64 (x4 + 1)) : Int).toNat x0.size) true) else (fastjson_validateNumber.j8 k (x0.extract ((wrap64 (x4 + 1)) : Int).toNat x0.size) ((bt (x0.extract ((wrap64 (x4 + 1)) : Int).toNat x0.size) 0) == 43))) else (none))) else (none)) else (none)) else (if 0 ≤ x4 then (if x4 ≤ (x0.size : Int) then (some (x0.extract (x4 : Int).toNat x0.size, none)) else (none)) else (none))
def fastjson_validateNumber.j8 : Nat → ByteArray → Bool → Option (ByteArray × Option Int)
  | 0, _, _ => none
  | k + 1, x0, x116 => if x116 = true then (if 1 ≤ (x0.size : Int) then (if ((x0.extract 1 x0.size).size : Int) = 0 then ((errors_New.f (⟨#[109, 105, 115, 115, 105, 110, 103, 32, 101, 120, 112, 111, 110, 101, 110, 116, 32, 112, 97, 114, 116]⟩ : ByteArray)).bind fun t108 => (some (x0.extract 1 x0.size, t108))) else (fastjson_validateNumber.j9 k (x0.extract 1 x0.size))) else (none)) else (fastjson_validateNumber.j9 k x0)
def fastjson_validateNumber.j9 : Nat → ByteArray → Option (ByteArray × Option Int)
  | 0, _ => none
  | k + 1, x0 => fastjson_validateNumber.l2 k x0 0
def fastjson_validateNumber.j11 : Nat → ByteArray → Int → Option (ByteArray × Option Int)
  | 0, _, _ => none
  | k + 1, x0, x4 => if x4 = 0 then ((errors_New.f (⟨#[101, 120, 112, 101, 99, 116, 105, 110, 103, 32, 48, 46, 46, 57, 32, 100, 105, 103, 105, 116, 32, 105, 110, 32, 101, 120, 112, 111, 110, 101, 110, 116, 32, 112, 97, 114, 116, 44, 32, 103, 111, 116]⟩ : ByteArray)).bind fun t109 => (some (x0, t109))) else (if x4 ≥ (x0.size : Int) then (some ((⟨#[]⟩ : ByteArray), none)) else (if 0 ≤ x4 then (if x4 ≤ (x0.size : Int) then (some (x0.extract (x4 : Int).toNat x0.size, none)) else (none)) else (none)))
def fastjson_validateNumber.l2 : Nat → ByteArray → Int → Option (ByteArray × Option Int)
  | 0, _, _ => none
  | k + 1, x0, x4 => if x4 < (x0.size : Int) then (if 0 ≤ x4 then (if (bt x0 x4) < 48 then (fastjson_validateNumber.j11 k x0 x4) else (if (bt x0 x4) > 57 then (fastjson_validateNumber.j11 k x0 x4) else (fastjson_validateNumber.l2 k x0 (wrap64 (x4 + 1))))) else (none)) else (fastjson_validateNumber.j11 k x0 x4)
def fastjson_validateNumber.j5 : Nat → ByteArray → Int → Option (ByteArray × Option Int)
  | 0, _, _ => none
  | k + 1, x0, x4 => if x4 = 0 then ((errors_New.f (⟨#[101, 120, 112, 101, 99, 116, 105, 110, 103, 32, 48, 46, 46, 57, 32, 100, 105, 103, 105, 116, 32, 105, 110, 32, 102, 114, 97, 99, 116, 105, 111, 110, 97, 108, 32, 112, 97, 114, 116, 44, 32, 103, 111, 116]⟩ : ByteArray)).bind fun t106 => (some (x0, t106))) else (if x4 ≥ (x0.size : Int) then (some ((⟨#[]⟩ : ByteArray), none)) else (fastjson_validateNumber.j6 k x0 x4))
def fastjson_validateNumber.l1 : Nat → ByteArray → Int → Option (ByteArray × Option Int)
  | 0, _, _ => none
  | k + 1, x0, x4 => if x4 < (x0.size : Int) then (if 0 ≤ x4 then (if (bt x0 x4) < 48 then (fastjson_validateNumber.j5 k x0 x4) else (if (bt x0 x4) > 57 then (fastjson_validateNumber.j5 k x0 x4) else (fastjson_validateNumber.l1 k x0 (wrap64 (x4 + 1))))) else (none)) else (fastjson_validateNumber.j5 k x0 x4)
def fastjson_validateNumber.l0 : Nat → ByteArray → Int → Option (ByteArray × Option Int)
  | 0, _, _ => none
  | k + 1, x0, x4 => if x4 < (x0.size : Int) then (if 0 ≤ x4 then (if (bt x0 x4) < 48 then (fastjson_validateNumber.j2 k x0 x4) else (if (bt x0 x4) > 57 then (fastjson_validateNumber.j2 k x0 x4) else (fastjson_validateNumber.l0 k x0 (wrap64 (x4 + 1))))) else (none)) else (fastjson_validateNumber.j2 k x0 x4)
end
def fastjson_validateNumber.f (k : Nat) (a0 : ByteArray) : Option (ByteArray × Option Int) := if (a0.size : Int) = 0 then ((errors_New.f (⟨#[122, 101, 114, 111, 45, 108, 101, 110, 103, 116, 104, 32, 110, 117, 109, 98, 101, 114]⟩ : ByteArray)).bind fun t101 => (some (a0, t101))) else (if 0 < (a0.size : Int) then (if (bt a0 0) = 45 then (if 1 ≤ (a0.size : Int) then (if ((a0.extract 1 a0.size).size : Int) = 0 then ((errors_New.f (⟨#[109, 105, 115, 115, 105, 110, 103, 32, 110, 117, 109, 98, 101, 114, 32, 97, 102, 116, 101, 114, 32, 109, 105, 110, 117, 115]⟩ : ByteArray)).bind fun t102 => (some (a0.extract 1 a0.size, t102))) else (fastjson_validateNumber.j0 k (a0.extract 1 a0.size))) else (none)) else (fastjson_validateNumber.j0 k a0)) else (none))
theorem fastjson_validateNumber.mono_l : ∀ k, (∀ y0, LeO (fastjson_validateNumber.j0 k y0) (fastjson_validateNumber.j0 (k + 1) y0)) ∧ (∀ y0 y1, LeO (fastjson_validateNumber.j2 k y0 y1) (fastjson_validateNumber.j2 (k + 1) y0 y1)) ∧ (∀ y0 y1 y2, LeO (fastjson_validateNumber.j3 k y0 y1 y2) (fastjson_validateNumber.j3 (k + 1) y0 y1 y2)) ∧ (∀ y0 y1, LeO (fastjson_validateNumber.j6 k y0 y1) (fastjson_validateNumber.j6 (k + 1) y0 y1)) ∧ (∀ y0 y1 y2, LeO (fastjson_validateNumber.j7 k y0 y1 y2) (fastjson_validateNumber.j7 (k + 1) y0 y1 y2)) ∧ (∀ y0 y1, LeO (fastjson_validateNumber.j8 k y0 y1) (fastjson_validateNumber.j8 (k + 1) y0 y1)) ∧ (∀ y0, LeO (fastjson_validateNumber.j9 k y0) (fastjson_validateNumber.j9 (k + 1) y0)) ∧ (∀ y0 y1, LeO (fastjson_validateNumber.j11 k y0 y1) (fastjson_validateNumber.j11 (k + 1) y0 y1)) ∧ (∀ y0 y1, LeO (fastjson_validateNumber.l2 k y0 y1) (fastjson_validateNumber.l2 (k + 1) y0 y1)) ∧ (∀ y0 y1, LeO (fastjson_validateNumber.j5 k y0 y1) (fastjson_validateNumber.j5 (k + 1) y0 y1)) ∧ (∀ y0 y1, LeO (fastjson_validateNumber.l1 k y0 y1) (fastjson_validateNumber.l1 (k + 1) y0 y1)) ∧ (∀ y0 y1, LeO (fastjson_validateNumber.l0 k y0 y1) (fastjson_validateNumber.l0 (k + 1) y0 y1))
 | 0 => ⟨fun _ r h => by simp [fastjson_validateNumber.j0] at h, fun _ _ r h => by simp [fastjson_validateNumber.j2] at h, fun _ _ _ r h => by simp [fastjson_validateNumber.j3] at h, fun _ _ r h => by simp [fastjson_validateNumber.j6] at h, fun _ _ _ r h => by simp [fastjson_validateNumber.j7] at h, fun _ _ r h => by simp [fastjson_validateNumber.j8] at h, fun _ r h => by simp [fastjson_validateNumber.j9] at h, fun _ _ r h => by simp [fastjson_validateNumber.j11] at h, fun _ _ r h => by simp [fastjson_validateNumber.l2] at h, fun _ _ r h => by simp [fastjson_validateNumber.j5] at h, fun _ _ r h => by simp [fastjson_validateNumber.l1] at h, fun _ _ r h => by simp [fastjson_validateNumber.l0] at h⟩
 | k + 1 => by
  obtain ⟨ih0, ih1, ih2, ih3, ih4, ih5, ih6, ih7, ih8, ih9, ih10, ih11⟩ := fastjson_validateNumber.mono_l k
  refine ⟨?_, ?_, ?_, ?_, ?_, ?_, ?_, ?_, ?_, ?_, ?_, ?_⟩
  ·intro y0
   unfold fastjson_validateNumber.j0
   repeat' first
   | (with_reducible exact ih0 _)
   | (with_reducible exact ih1 _ _)
   | (with_reducible exact ih2 _ _ _)
   | (with_reducible exact ih3 _ _)
   | (with_reducible exact ih4 _ _ _)
   | (with_reducible exact ih5 _ _)
   | (with_reducible exact ih6 _)
   | (with_reducible exact ih7 _ _)
   | (with_reducible exact ih8 _ _)
   | (with_reducible exact ih9 _ _)
   | (with_reducible exact ih10 _ _)
   | (with_reducible exact ih11 _ _)
   | (with_reducible exact LeO.refl _)
   | (with_reducible exact LeO.none _)
   | (with_reducible refine LeO.ite ?_ ?_)
   | (with_reducible refine LeO.bind ?_ (fun _ => ?_))
   | exact ih0 _
   | exact ih1 _ _
   | exact ih2 _ _ _
   | exact ih3 _ _
   | exact ih4 _ _ _
   | exact ih5 _ _
   | exact ih6 _
   | exact ih7 _ _
   | exact ih8 _ _
   | exact ih9 _ _
   | exact ih10 _ _
   | exact ih11 _ _
   | exact LeO.none _
   | refine LeO.ite ?_ ?_
   | refine LeO.bind ?_ (fun _ => ?_)
  ·intro y0 y1
   unfold fastjson_validateNumber.j2
   repeat' first
   | (with_reducible exact ih0 _)
   | (with_reducible exact ih1 _ _)
   | (with_reducible exact ih2 _ _ _)
   | (with_reducible exact ih3 _ _)
   | (with_reducible exact ih4 _ _ _)
   | (with_reducible exact ih5 _ _)
   | (with_reducible exact ih6 _)
   | (with_reducible exact ih7 _ _)
   | (with_reducible exact ih8 _ _)
   | (with_reducible exact ih9 _ _)
   | (with_reducible exact ih10 _ _)
   | (with_reducible exact ih11 _ _)
   | (with_reducible exact LeO.refl _)
   | (with_reducible exact LeO.none _)
   | (with_reducible refine LeO.ite ?_ ?_)
   | (with_reducible refine LeO.bind ?_ (fun _ => ?_))
   | exact ih0 _
   | exact ih1 _ _
   | exact ih2 _ _ _
   | exact ih3 _ _
   | exact ih4 _ _ _
   | exact ih5 _ _
   | exact ih6 _
   | exact ih7 _ _
   | exact ih8 _ _
   | exact ih9 _ _
   | exact ih10 _ _
   | exact ih11 _ _
   | exact LeO.none _
   | refine LeO.ite ?_ ?_
   | refine LeO.bind ?_ (fun _ => ?_)
  ·intro y0 y1 y2
   unfold fastjson_validateNumber.j3
   repeat' first
   | (with_reducible exact ih0 _)
   | (with_reducible exact ih1 _ _)
   | (with_reducible exact ih2 _ _ _)
   | (with_reducible exact ih3 _ _)
   | (with_reducible exact ih4 _ _ _)
   | (with_reducible exact ih5 _ _)
   | (with_reducible exact ih6 _)
   | (with_reducible exact ih7 _ _)
   | (with_reducible exact ih8 _ _)
   | (with_reducible exact ih9 _ _)
   | (with_reducible exact ih10 _ _)
   | (with_reducible exact ih11 _ _)
   | (with_reducible exact LeO.refl _)
   | (with_reducible exact LeO.none _)
   | (with_reducible refine LeO.ite ?_ ?_)
   | (with_reducible refine LeO.bind ?_ (fun _ => ?_))
   | exact ih0 _
   | exact ih1 _ _
   | exact ih2 _ _ _
   | exact ih3 _ _
   | exact ih4 _ _ _
   | exact ih5 _ _
   | exact ih6 _
   | exact ih7 _ _
   | exact ih8 _ _
   | exact ih9 _ _
   | exact ih10 _ _
   | exact ih11 _ _
   | exact LeO.none _
   | refine LeO.ite ?_ ?_
   | refine LeO.bind ?_ (fun _ => ?_)
  ·intro y0 y1
   unfold fastjson_validateNumber.j6
   repeat' first
   | (with_reducible exact ih0 _)
   | (with_reducible exact ih1 _ _)
   | (with_reducible exact ih2 _ _ _)
   | (with_reducible exact ih3 _ _)
   | (with_reducible exact ih4 _ _ _)
   | (with_reducible exact ih5 _ _)
   | (with_reducible exact ih6 _)
   | (with_reducible exact ih7 _ _)
   | (with_reducible exact ih8 _ _)
   | (with_reducible exact ih9 _ _)
   | (with_reducible exact ih10 _ _)
   | (with_reducible exact ih11 _ _)
   | (with_reducible exact LeO.refl _)
   | (with_reducible exact LeO.none _)
   | (with_reducible refine LeO.ite ?_ ?_)
   | (with_reducible refine LeO.bind ?_ (fun _ => ?_))
   | exact ih0 _
   | exact ih1 _ _
   | exact ih2 _ _ _
   | exact ih3 _ _
   | exact ih4 _ _ _
   | exact ih5 _ _
   | exact ih6 _
   | exact ih7 _ _
   | exact ih8 _ _
   | exact ih9 _ _
   | exact ih10 _ _
   | exact ih11 _ _
   | exact LeO.none _
   | refine LeO.ite ?_ ?_
   | refine LeO.bind ?_ (fun _ => ?_)
  ·intro y0 y1 y2
   unfold fastjson_validateNumber.j7
   repeat' first
   | (with_reducible exact ih0 _)
   | (with_reducible exact ih1 _ _)
   | (with_reducible exact ih2 _ _ _)
   | (with_reducible exact ih3 _ _)
   | (with_reducible exact ih4 _ _ _)
   | (with_reducible exact ih5 _ _)
   | (with_reducible exact ih6 _)
   | (with_reducible exact ih7 _ _)
   | (with_reducible exact ih8 _ _)
   | (with_reducible exact ih9 _ _)
   | (with_reducible exact ih10 _ _)
   | (with_reducible exact ih11 _ _)
   | (with_reducible exact LeO.refl _)
   | (with_reducible exact LeO.none _)
   | (with_reducible refine LeO.ite ?_ ?_)
   | (with_reducible refine LeO.bind ?_ (fun _ => ?_))
   | exact ih0 _
   | exact ih1 _ _
   | exact ih2 _ _ _
   | exact ih3 _ _
   | exact ih4 _ _ _
   | exact ih5 _ _
   | exact ih6 _
   | exact ih7 _ _
   | exact ih8 _ _
   | exact ih9 _ _
   | exact ih10 _ _
   | exact ih11 _ _
   | exact LeO.none _
   | refine LeO.ite ?_ ?_
   | refine LeO.bind ?_ (fun _ => ?_)
  ·intro y0 y1
   unfold fastjson_validateNumber.j8
   repeat' first
   | (with_reducible exact ih0 _)
   | (with_reducible exact ih1 _ _)
   | (with_reducible exact ih2 _ _ _)
   | (with_reducible exact ih3 _ _)
   | (with_reducible exact ih4 _ _ _)
   | (with_reducible exact ih5 _ _)
   | (with_reducible exact ih6 _)
   | (with_reducible exact ih7 _ _)
   | (with_reducible exact ih8 _ _)
   | (with_reducible exact ih9 _ _)
   | (with_reducible exact ih10 _ _)
   | (with_reducible exact ih11 _ _)
   | (with_reducible exact LeO.refl _)
   | (with_reducible exact LeO.none _)
   | (with_reducible refine LeO.ite ?_ ?_)
   | (with_reducible refine LeO.bind ?_ (fun _ => ?_))
   | exact ih0 _
   | exact ih1 _ _
   | exact ih2 _ _ _
   | exact ih3 _ _
   | exact ih4 _ _ _
   | exact ih5 _ _
   | exact ih6 _
   | exact ih7 _ _
   | exact ih8 _ _
   | exact ih9 _ _
   | exact ih10 _ _
   | exact ih11 _ _
   | exact LeO.none _
   | refine LeO.ite ?_ ?_
   | refine LeO.bind ?_ (fun _ => ?_)
  ·intro y0
   unfold fastjson_validateNumber.j9
   repeat' first
   | (with_reducible exact ih0 _)
   | (with_reducible exact ih1 _ _)
   | (with_reducible exact ih2 _ _ _)
   | (with_reducible exact ih3 _ _)
   | (with_reducible exact ih4 _ _ _)
   | (with_reducible exact ih5 _ _)
   | (with_reducible exact ih6 _)
   | (with_reducible exact ih7 _ _)
   | (with_reducible exact ih8 _ _)
   | (with_reducible exact ih9 _ _)
   | (with_reducible exact ih10 _ _)
   | (with_reducible exact ih11 _ _)
   | (with_reducible exact LeO.refl _)
   | (with_reducible exact LeO.none _)
   | (with_reducible refine LeO.ite ?_ ?_)
   | (with_reducible refine LeO.bind ?_ (fun _ => ?_))
   | exact ih0 _
   | exact ih1 _ _
   | exact ih2 _ _ _
   | exact ih3 _ _
   | exact ih4 _ _ _
   | exact ih5 _ _
   | exact ih6 _
   | exact ih7 _ _
   | exact ih8 _ _
   | exact ih9 _ _
   | exact ih10 _ _
   | exact ih11 _ _
   | exact LeO.none _
   | refine LeO.ite ?_ ?_
   | refine LeO.bind ?_ (fun _ => ?_)
  ·intro y0 y1
   unfold fastjson_validateNumber.j11
   repeat' first
   | (with_reducible exact ih0 _)
   | (with_reducible exact ih1 _ _)
   | (with_reducible exact ih2 _ _ _)
   | (with_reducible exact ih3 _ _)
   | (with_reducible exact ih4 _ _ _)
   | (with_reducible exact ih5 _ _)
   | (with_reducible exact ih6 _)
   | (with_reducible exact ih7 _ _)
   | (with_reducible exact ih8 _ _)
   | (with_reducible exact ih9 _ _)
   | (with_reducible exact ih10 _ _)
   | (with_reducible exact ih11 _ _)
   | (with_reducible exact LeO.refl _)
   | (with_reducible exact LeO.none _)
   | (with_reducible refine LeO.ite ?_ ?_)
   | (with_reducible refine LeO.bind ?_ (fun _ => ?_))
   | exact ih0 _
   | exact ih1 _ _
   | exact ih2 _ _ _
   | exact ih3 _ _
   | exact ih4 _ _ _
   | exact ih5 _ _
   | exact ih6 _
   | exact ih7 _ _
   | exact ih8 _ _
   | exact ih9 _ _
   | exact ih10 _ _
   | exact ih11 _ _
   | exact LeO.none _
   | refine LeO.ite ?_ ?_
   | refine LeO.bind ?_ (fun _ => ?_)
  ·intro y0 y1
   unfold fastjson_validateNumber.l2
   repeat' first
   | (with_reducible exact ih0 _)
   | (with_reducible exact ih1 _ _)
   | (with_reducible exact ih2 _ _ _)
   | (with_reducible exact ih3 _ _)
   | (with_reducible exact ih4 _ _ _)
   | (with_reducible exact ih5 _ _)
   | (with_reducible exact ih6 _)
   | (with_reducible exact ih7 _ _)
   | (with_reducible exact ih8 _ _)
   | (with_reducible exact ih9 _ _)
   | (with_reducible exact ih10 _ _)
   | (with_reducible exact ih11 _ _)
   | (with_reducible exact LeO.refl _)
   | (with_reducible exact LeO.none _)
   | (with_reducible refine LeO.ite ?_ ?_)
   | (with_reducible refine LeO.bind ?_ (fun _ => ?_))
   | exact ih0 _
   | exact ih1 _ _
   | exact ih2 _ _ _
   | exact ih3 _ _
   | exact ih4 _ _ _
   | exact ih5 _ _
   | exact ih6 _
   | exact ih7 _ _
   | exact ih8 _ _
   | exact ih9 _ _
   | exact ih10 _ _
   | exact ih11 _ _
   | exact LeO.none _
   | refine LeO.ite ?_ ?_
   | refine LeO.bind ?_ (fun _ => ?_)
  ·intro y0 y1
   unfold fastjson_validateNumber.j5
   repeat' first
   | (with_reducible exact ih0 _)
   | (with_reducible exact ih1 _ _)
   | (with_reducible exact ih2 _ _ _)
   | (with_reducible exact ih3 _ _)
   | (with_reducible exact ih4 _ _ _)
   | (with_reducible exact ih5 _ _)
   | (with_reducible exact ih6 _)
   | (with_reducible exact ih7 _ _)
   | (with_reducible exact ih8 _ _)
   | (with_reducible exact ih9 _ _)
   | (with_reducible exact ih10 _ _)
   | (with_reducible exact ih11 _ _)
   | (with_reducible exact LeO.refl _)
   | (with_reducible exact LeO.none _)
   | (with_reducible refine LeO.ite ?_ ?_)
   | (with_reducible refine LeO.bind ?_ (fun _ => ?_))
   | exact ih0 _
   | exact ih1 _ _
   | exact ih2 _ _ _
   | exact ih3 _ _
   | exact ih4 _ _ _
   | exact ih5 _ _
   | exact ih6 _
   | exact ih7 _ _
   | exact ih8 _ _
   | exact ih9 _ _
   | exact ih10 _ _
   | exact ih11 _ _
   | exact LeO.none _
   | refine LeO.ite ?_ ?_
   | refine LeO.bind ?_ (fun _ => ?_)
  ·intro y0 y1
   unfold fastjson_validateNumber.l1
   repeat' first
   | (with_reducible exact ih0 _)
   | (with_reducible exact ih1 _ _)
   | (with_reducible exact ih2 _ _ _)
   | (with_reducible exact ih3 _ _)
   | (with_reducible exact ih4 _ _ _)
   | (with_reducible exact ih5 _ _)
   | (with_reducible exact ih6 _)
   | (with_reducible exact ih7 _ _)
   | (with_reducible exact ih8 _ _)
   | (with_reducible exact ih9 _ _)
   | (with_reducible exact ih10 _ _)
   | (with_reducible exact ih11 _ _)
   | (with_reducible exact LeO.refl _)
   | (with_reducible exact LeO.none _)
   | (with_reducible refine LeO.ite ?_ ?_)
   | (with_reducible refine LeO.bind ?_ (fun _ => ?_))
   | exact ih0 _
   | exact ih1 _ _
   | exact ih2 _ _ _
   | exact ih3 _ _
   | exact ih4 _ _ _
   | exact ih5 _ _
   | exact ih6 _
   | exact ih7 _ _
   | exact ih8 _ _
   | exact ih9 _ _
   | exact ih10 _ _
   | exact ih11 _ _
   | exact LeO.none _
   | refine LeO.ite ?_ ?_
   | refine LeO.bind ?_ (fun _ => ?_)
  ·intro y0 y1
   unfold fastjson_validateNumber.l0
   repeat' first
   | (with_reducible exact ih0 _)
   | (with_reducible exact ih1 _ _)
   | (with_reducible exact ih2 _ _ _)
   | (with_reducible exact ih3 _ _)
   | (with_reducible exact ih4 _ _ _)
   | (with_reducible exact ih5 _ _)
   | (with_reducible exact ih6 _)
   | (with_reducible exact ih7 _ _)
   | (with_reducible exact ih8 _ _)
   | (with_reducible exact ih9 _ _)
   | (with_reducible exact ih10 _ _)
   | (with_reducible exact ih11 _ _)
   | (with_reducible exact LeO.refl _)
   | (with_reducible exact LeO.none _)
   | (with_reducible refine LeO.ite ?_ ?_)
   | (with_reducible refine LeO.bind ?_ (fun _ => ?_))
   | exact ih0 _
   | exact ih1 _ _
   | exact ih2 _ _ _
   | exact ih3 _ _
   | exact ih4 _ _ _
   | exact ih5 _ _
   | exact ih6 _
   | exact ih7 _ _
   | exact ih8 _ _
   | exact ih9 _ _
   | exact ih10 _ _
   | exact ih11 _ _
   | exact LeO.none _
   | refine LeO.ite ?_ ?_
   | refine LeO.bind ?_ (fun _ => ?_)
theorem fastjson_validateNumber.mono : ∀ a0 k, LeO (fastjson_validateNumber.f k a0) (fastjson_validateNumber.f (k + 1) a0) := by
 intro a0 k
 obtain ⟨ih0, ih1, ih2, ih3, ih4, ih5, ih6, ih7, ih8, ih9, ih10, ih11⟩ := fastjson_validateNumber.mono_l k
 unfold fastjson_validateNumber.f
 repeat' first
  | (with_reducible exact ih0 _)
  | (with_reducible exact ih1 _ _)
  | (with_reducible exact ih2 _ _ _)
  | (with_reducible exact ih3 _ _)
  | (with_reducible exact ih4 _ _ _)
  | (with_reducible exact ih5 _ _)
  | (with_reducible exact ih6 _)
  | (with_reducible exact ih7 _ _)
  | (with_reducible exact ih8 _ _)
  | (with_reducible exact ih9 _ _)
  | (with_reducible exact ih10 _ _)
  | (with_reducible exact ih11 _ _)
  | (with_reducible exact LeO.refl _)
  | (with_reducible exact LeO.none _)
  | (with_reducible refine LeO.ite ?_ ?_)
  | (with_reducible refine LeO.bind ?_ (fun _ => ?_))
  | exact ih0 _
  | exact ih1 _ _
  | exact ih2 _ _ _
  | exact ih3 _ _
  | exact ih4 _ _ _
  | exact ih5 _ _
  | exact ih6 _
  | exact ih7 _ _
  | exact ih8 _ _
  | exact ih9 _ _
  | exact ih10 _ _
  | exact ih11 _ _
  | exact LeO.none _
  | refine LeO.ite ?_ ?_
  | refine LeO.bind ?_ (fun _ => ?_)
set_option maxHeartbeats 8000000 in
set_option maxRecDepth 100000 in
theorem fastjson_validateNumber.calls (k : Nat) (a0 : ByteArray) (r1 : ByteArray) (r2 : Option Int) (w : World) (h : fastjson_validateNumber.f k a0 = some (r1, r2)) :
 Calls Tryd.prog 108 #[.string a0] w fun e w' => ∃ z_r2 : Option Int, Zk z_r2 r2 ∧ e = .returned (.tuple #[.string r1, errW z_r2]) ∧ Below w.heap.size w w' := by
 have HB := mk0 (Below.refl w.heap.size w)
 have H : (if (a0.size : Int) = 0 then ((errors_New.f (⟨#[122, 101, 114, 111, 45, 108, 101, 110, 103, 116, 104, 32, 110, 117, 109, 98, 101, 114]⟩ : ByteArray)).bind fun t101 => (some (a0, t101))) else (if 0 < (a0.size : Int) then (if (bt a0 0) = 45 then (if 1 ≤ (a0.size : Int) then (if ((a0.extract 1 a0.size).size : Int) = 0 then ((errors_New.f (⟨#[109, 105, 115, 115, 105, 110, 103, 32, 110, 117, 109, 98, 101, 114, 32, 97, 102, 116, 101, 114, 32, 109, 105, 110, 117, 115]⟩ : ByteArray)).bind fun t102 => (some (a0.extract 1 a0.size, t102))) else (fastjson_validateNumber.j0 k (a0.extract 1 a0.size))) else (none)) else (fastjson_validateNumber.j0 k a0)) else (none))) = some (r1, r2) := h
 clear h
 by_cases c2 : (a0.size : Int) = 0
 ·rw [if_pos c2] at H
  have c2b0 : ((a0.size : Int) == 0) = true := beq_iff_eq.mpr c2
  have c2b1 : ((a0.size : Int) != 0) = false := bne_eq_false_iff_eq.mpr c2
  clear c2
  replace H := Option.bind_eq_some_iff.mp H
  obtain ⟨t101, A30, H⟩ := H
  (try dsimp only at H)
  have A3 := mk0 A30
  clear A30
  simp only [Option.some.injEq, Prod.mk.injEq] at H
  obtain ⟨rfl, rfl⟩ := H
  go_enter Tryd.func108, Tryd.ntmps108
  go_wp2_with (first | ((with_reducible refine gate_callee (f := 54) rfl ?_); refine goesL_ (some 9) rfl rfl Tryd.func54 zq24 rfl #[.string (⟨#[122, 101, 114, 111, 45, 108, 101, 110, 103, 116, 104, 32, 110, 117, 109, 98, 101, 114]⟩ : ByteArray)] rfl zq0 ?_; (with_reducible refine (errors_New.calls (⟨#[122, 101, 114, 111, 45, 108, 101, 110, 103, 116, 104, 32, 110, 117, 109, 98, 101, 114]⟩ : ByteArray) t101 _ A3.out).mono ?_); rintro e w4 ⟨z_t101, hz_t101, rfl, hb⟩; have Hz_t101 := mk0 hz_t101; clear hz_t101; refine ⟨_, rfl, ?_⟩; have n0_ := mk0 (below_step zq1 hb); clear HB; have HB := n0_; clear n0_ hb; (try simp only [errW_none, errW_some])))
  go_ret2
  exact ⟨z_t101, Hz_t101.out, by rfl, by repeat (first | (with_reducible first | exact HB.out | apply below_alloc | apply pw_below_drewN | apply below_drew1) | exact HB.out)⟩
 rw [if_neg c2] at H
 have c2b0 : ((a0.size : Int) == 0) = false := beq_eq_false_iff_ne.mpr c2
 have c2b1 : ((a0.size : Int) != 0) = true := bne_iff_ne.mpr c2
 by_cases c5 : 0 < (a0.size : Int)
 rotate_left
 ·rw [if_neg c5] at H
  exact absurd H (by simp)
 rw [if_pos c5] at H
 have c5b0 : decide (0 < (a0.size : Int)) = true := decide_eq_true c5
 have c5b1 : decide (0 < a0.size) = true := decide_eq_true (by omega)
 clear c5
 have HC7 := mk0 H
 clear H
 have p6 : 0 ≤ (0 : Int) := (by omega)
 have q6 : 0 < a0.size := (by have : (0 : Int) < (a0.size : Int) := of_decide_eq_true zq5; omega)
 have hx6 : ∀ h : 0 < a0.size, ((a0[0]'h).toNat : Int) = bt a0 0 := bt_at a0 0
 clear p6
 have qi6 : (0 < (a0.size : Int)) = True := eq_true (of_decide_eq_true zq5)
 replace q6 := eq_true q6
 go_enter Tryd.func108, Tryd.ntmps108
 go_upto_if 12 with (fail)
 go_cut [0] (fun v0 wc => ∃ (kq : Nat) (x0_6 : ByteArray), v0 = .string x0_6 ∧ Aside0 (fastjson_validateNumber.j0 kq x0_6 = some (r1, r2)) ∧ Aside0 (kq ≤ k) ∧ Aside0 (Below w.heap.size w wc))
 case first =>
  have H := HC7.out
  clear HC7
  by_cases c8 : (bt a0 0) = 45
  rotate_left
  ·rw [if_neg c8] at H
   have c8b0 : ((bt a0 0) == 45) = false := beq_eq_false_iff_ne.mpr c8
   have c8b1 : ((bt a0 0) != 45) = true := bne_iff_ne.mpr c8
   (rw [c8b0])
   have H' := mk0 H
   clear H
   go_wp2
   go_meet
   case rel => exact ⟨_, (a0), (by rfl), H', ⟨by omega⟩, ⟨by repeat (first | (with_reducible first | exact HB.out | apply below_alloc | apply pw_below_drewN | apply below_drew1) | exact HB.out)⟩⟩
  rw [if_pos c8] at H
  have c8b0 : ((bt a0 0) == 45) = true := beq_iff_eq.mpr c8
  have c8b1 : ((bt a0 0) != 45) = false := bne_eq_false_iff_eq.mpr c8
  clear c8
  (rw [c8b0])
  by_cases c9 : 1 ≤ (a0.size : Int)
  rotate_left
  ·rw [if_neg c9] at H
   exact absurd H (by simp)
  rw [if_pos c9] at H
  have c9b0 := eq_true c9
  have c9b1 : decide (1 ≤ (a0.size : Int)) = true := decide_eq_true c9
  clear c9
  by_cases c10 : ((a0.extract 1 a0.size).size : Int) = 0
  rotate_left
  ·rw [if_neg c10] at H
   have c10b0 : (((a0.extract 1 a0.size).size : Int) == 0) = false := beq_eq_false_iff_ne.mpr c10
   have c10b0s := c10b0; simp only [ByteArray.size_extract, Nat.min_self] at c10b0s
   have c10b1 : (((a0.extract 1 a0.size).size : Int) != 0) = true := bne_iff_ne.mpr c10
   have c10b1s := c10b1; simp only [ByteArray.size_extract, Nat.min_self] at c10b1s
   have H' := mk0 H
   clear H
   go_wp2
   go_meet
   case rel => exact ⟨_, (a0.extract 1 a0.size), (by rfl), H', ⟨by omega⟩, ⟨by repeat (first | (with_reducible first | exact HB.out | apply below_alloc | apply pw_below_drewN | apply below_drew1) | exact HB.out)⟩⟩
  rw [if_pos c10] at H
  have c10b0 : (((a0.extract 1 a0.size).size : Int) == 0) = true := beq_iff_eq.mpr c10
  have c10b0s := c10b0; simp only [ByteArray.size_extract, Nat.min_self] at c10b0s
  have c10b1 : (((a0.extract 1 a0.size).size : Int) != 0) = false := bne_eq_false_iff_eq.mpr c10
  have c10b1s := c10b1; simp only [ByteArray.size_extract, Nat.min_self] at c10b1s
  clear c10
  replace H := Option.bind_eq_some_iff.mp H
  obtain ⟨t102, A110, H⟩ := H
  (try dsimp only at H)
  have A11 := mk0 A110
  clear A110
  simp only [Option.some.injEq, Prod.mk.injEq] at H
  obtain ⟨rfl, rfl⟩ := H
  go_wp2_with (first | ((with_reducible refine gate_callee (f := 54) rfl ?_); refine goesL_ (some 19) rfl rfl Tryd.func54 zq24 rfl #[.string (⟨#[109, 105, 115, 115, 105, 110, 103, 32, 110, 117, 109, 98, 101, 114, 32, 97, 102, 116, 101, 114, 32, 109, 105, 110, 117, 115]⟩ : ByteArray)] rfl zq0 ?_; (with_reducible refine (errors_New.calls (⟨#[109, 105, 115, 115, 105, 110, 103, 32, 110, 117, 109, 98, 101, 114, 32, 97, 102, 116, 101, 114, 32, 109, 105, 110, 117, 115]⟩ : ByteArray) t102 _ A11.out).mono ?_); rintro e w12 ⟨z_t102, hz_t102, rfl, hb⟩; have Hz_t102 := mk0 hz_t102; clear hz_t102; refine ⟨_, rfl, ?_⟩; have n0_ := mk0 (below_step zq1 hb); clear HB; have HB := n0_; clear n0_ hb; (try simp only [errW_none, errW_some])))
  go_ret2
  exact ⟨z_t102, Hz_t102.out, by rfl, by repeat (first | (with_reducible first | exact HB.out | apply below_alloc | apply pw_below_drewN | apply below_drew1) | exact HB.out)⟩
 case rest =>
  clear HC7 c2 c2b0 c2b1 c5b0 c5b1 q6 hx6 qi6
  obtain ⟨kq, x0_6, rfl, HA, HJ6, HB⟩ := hcut
  cases kq with
  | zero => exact absurd HA.out (by simp [fastjson_validateNumber.j0])
  | succ kj6 =>
   have H := HA.out
   clear HA
   simp only [fastjson_validateNumber.j0] at H
   have HC13 := mk0 H
   clear H
   go_upto_block 0 with (fail)
   go_cut [4] (fun v4 wc => ∃ (kq : Nat) (x4_12 : Int), v4 = .int .i64 x4_12 ∧ Aside0 (fastjson_validateNumber.j2 kq x0_6 x4_12 = some (r1, r2)) ∧ Aside0 (kq ≤ kj6) ∧ Aside0 (Below w.heap.size w wc))
   case first =>
    have H := HC13.out
    clear HC13
    have H' := mk0 H
    clear H
    go_wp2
    go_loopg [4] kj6 (fun kq v4 w' => ∃ (x4_2 : Int), v4 = .int .i64 x4_2 ∧ Aside0 (fastjson_validateNumber.l0 kq x0_6 x4_2 = some (r1, r2)) ∧ Aside0 (kq ≤ kj6) ∧ Aside0 (Below w.heap.size w w'))
    case atStart => exact ⟨(0), (by rfl), H', ⟨Nat.le_refl _⟩, ⟨by repeat (first | (with_reducible first | exact HB.out | apply below_alloc | apply pw_below_drewN | apply below_drew1) | exact HB.out)⟩⟩
    case round =>
     clear H'
     obtain ⟨x4_2, rfl, HA, HK2, HB⟩ := hrel
     cases gk with
     | zero => exact absurd HA.out (by simp [fastjson_validateNumber.l0])
     | succ k2 =>
      have H := HA.out
      clear HA
      simp only [fastjson_validateNumber.l0] at H
      by_cases c14 : x4_2 < (x0_6.size : Int)
      rotate_left
      ·rw [if_neg c14] at H
       have c14b0 : decide (x4_2 < (x0_6.size : Int)) = false := decide_eq_false c14
       clear c14
       (skip)
       have H' := mk0 H
       clear H
       go_wp2
       go_meet
       case rel => exact ⟨_, (x4_2), (by rfl), H', ⟨by have := HJ6.out; have := HK2.out; first | omega | exact Nat.le_refl _⟩, ⟨by repeat (first | (with_reducible first | exact HB.out | apply below_alloc | apply pw_below_drewN | apply below_drew1) | exact HB.out)⟩⟩
      rw [if_pos c14] at H
      have c14b0 : decide (x4_2 < (x0_6.size : Int)) = true := decide_eq_true c14
      clear c14
      (skip)
      by_cases c15 : 0 ≤ x4_2
      rotate_left
      ·rw [if_neg c15] at H
       exact absurd H (by simp)
      rw [if_pos c15] at H
      have c15b0 : decide (0 ≤ x4_2) = true := decide_eq_true c15
      clear c15
      by_cases c17 : (bt x0_6 x4_2) < 48
      ·rw [if_pos c17] at H
       have c17b0 : decide ((bt x0_6 x4_2) < 48) = true := decide_eq_true c17
       clear c17
       have H' := mk0 H
       clear H
       have p16 : 0 ≤ (x4_2 : Int) := of_decide_eq_true zq5
       have q16 : x4_2 < (x0_6.size : Int) := of_decide_eq_true zq5
       have hx16 := bt_at x0_6 x4_2
       replace p16 := eq_true p16
       replace q16 := eq_true q16
       go_wp2
       go_meet
       case rel => exact ⟨_, (x4_2), (by rfl), H', ⟨by have := HJ6.out; have := HK2.out; first | omega | exact Nat.le_refl _⟩, ⟨by repeat (first | (with_reducible first | exact HB.out | apply below_alloc | apply pw_below_drewN | apply below_drew1) | exact HB.out)⟩⟩
      rw [if_neg c17] at H
      have c17b0 : decide ((bt x0_6 x4_2) < 48) = false := decide_eq_false c17
      clear c17
      by_cases c19 : (bt x0_6 x4_2) > 57
      ·rw [if_pos c19] at H
       have c19b0 : decide (57 < (bt x0_6 x4_2)) = true := decide_eq_true c19
       clear c19
       have H' := mk0 H
       clear H
       have p16 : 0 ≤ (x4_2 : Int) := of_decide_eq_true zq5
       have q16 : x4_2 < (x0_6.size : Int) := of_decide_eq_true zq5
       have hx16 := bt_at x0_6 x4_2
       replace p16 := eq_true p16
       replace q16 := eq_true q16
       have p18 : 0 ≤ (x4_2 : Int) := of_decide_eq_true zq5
       have q18 : x4_2 < (x0_6.size : Int) := of_decide_eq_true zq5
       have hx18 := bt_at x0_6 x4_2
       replace p18 := eq_true p18
       replace q18 := eq_true q18
       go_wp2
       go_meet
       case rel => exact ⟨_, (x4_2), (by rfl), H', ⟨by have := HJ6.out; have := HK2.out; first | omega | exact Nat.le_refl _⟩, ⟨by repeat (first | (with_reducible first | exact HB.out | apply below_alloc | apply pw_below_drewN | apply below_drew1) | exact HB.out)⟩⟩
      rw [if_neg c19] at H
      have c19b0 : decide (57 < (bt x0_6 x4_2)) = false := decide_eq_false c19
      clear c19
      have H' := mk0 H
      clear H
      have p16 : 0 ≤ (x4_2 : Int) := of_decide_eq_true zq5
      have q16 : x4_2 < (x0_6.size : Int) := of_decide_eq_true zq5
      have hx16 := bt_at x0_6 x4_2
      replace p16 := eq_true p16
      replace q16 := eq_true q16
      have p18 : 0 ≤ (x4_2 : Int) := of_decide_eq_true zq5
      have q18 : x4_2 < (x0_6.size : Int) := of_decide_eq_true zq5
      have hx18 := bt_at x0_6 x4_2
      replace p18 := eq_true p18
      replace q18 := eq_true q18
      go_wp2
      go_roundg k2
      case measure => have := HJ6.out; have := HK2.out; omega
      case rel => exact ⟨(wrap64 (x4_2 + 1)), (by rfl), H', ⟨by have := HJ6.out; have := HK2.out; omega⟩, ⟨by repeat (first | (with_reducible first | exact HB.out | apply below_alloc | apply pw_below_drewN | apply below_drew1) | exact HB.out)⟩⟩
   case rest =>
    clear HC13
    obtain ⟨kq, x4_12, rfl, HA, HJ12, HB⟩ := hcut
    cases kq with
    | zero => exact absurd HA.out (by simp [fastjson_validateNumber.j2])
    | succ kj12 =>
     have H := HA.out
     clear HA
     simp only [fastjson_validateNumber.j2] at H
     by_cases c20 : x4_12 ≤ 0
     ·rw [if_pos c20] at H
      have c20b0 : decide (x4_12 ≤ 0) = true := decide_eq_true c20
      clear c20
      replace H := Option.bind_eq_some_iff.mp H
      obtain ⟨t103, A210, H⟩ := H
      (try dsimp only at H)
      have A21 := mk0 A210
      clear A210
      simp only [Option.some.injEq, Prod.mk.injEq] at H
      obtain ⟨rfl, rfl⟩ := H
      go_wp2_with (first | ((with_reducible refine gate_callee (f := 54) rfl ?_); refine goesL_ (some 39) rfl rfl Tryd.func54 zq24 rfl #[.string (⟨#[101, 120, 112, 101, 99, 116, 105, 110, 103, 32, 48, 46, 46, 57, 32, 100, 105, 103, 105, 116, 44, 32, 103, 111, 116]⟩ : ByteArray)] rfl zq0 ?_; (with_reducible refine (errors_New.calls (⟨#[101, 120, 112, 101, 99, 116, 105, 110, 103, 32, 48, 46, 46, 57, 32, 100, 105, 103, 105, 116, 44, 32, 103, 111, 116]⟩ : ByteArray) t103 _ A21.out).mono ?_); rintro e w22 ⟨z_t103, hz_t103, rfl, hb⟩; have Hz_t103 := mk0 hz_t103; clear hz_t103; refine ⟨_, rfl, ?_⟩; have n0_ := mk0 (below_step zq1 hb); clear HB; have HB := n0_; clear n0_ hb; (try simp only [errW_none, errW_some])))
      go_ret2
      exact ⟨z_t103, Hz_t103.out, by rfl, by repeat (first | (with_reducible first | exact HB.out | apply below_alloc | apply pw_below_drewN | apply below_drew1) | exact HB.out)⟩
     rw [if_neg c20] at H
     have c20b0 : decide (x4_12 ≤ 0) = false := decide_eq_false c20
     clear c20
     have HC23 := mk0 H
     clear H
     go_upto_region 13 with (fail)
     go_cut [46] (fun v46 wc => ∃ (kq : Nat) (x46_22 : Bool), v46 = .bool x46_22 ∧ Aside0 (fastjson_validateNumber.j3 kq x0_6 x4_12 x46_22 = some (r1, r2)) ∧ Aside0 (kq ≤ kj12) ∧ Aside0 (Below w.heap.size w wc))
     case first =>
      have H := HC23.out
      clear HC23
      by_cases c24 : 0 < (x0_6.size : Int)
      rotate_left
      ·rw [if_neg c24] at H
       exact absurd H (by simp)
      rw [if_pos c24] at H
      have c24b0 : decide (0 < (x0_6.size : Int)) = true := decide_eq_true c24
      have c24b1 : decide (0 < x0_6.size) = true := decide_eq_true (by omega)
      clear c24
      (skip)
      by_cases c26 : (bt x0_6 0) = 48
      rotate_left
      ·rw [if_neg c26] at H
       have c26b0 : ((bt x0_6 0) == 48) = false := beq_eq_false_iff_ne.mpr c26
       have c26b1 : ((bt x0_6 0) != 48) = true := bne_iff_ne.mpr c26
       have H' := mk0 H
       clear H
       have p25 : 0 ≤ (0 : Int) := (by omega)
       have q25 : 0 < x0_6.size := (by have : (0 : Int) < (x0_6.size : Int) := of_decide_eq_true zq5; omega)
       have hx25 : ∀ h : 0 < x0_6.size, ((x0_6[0]'h).toNat : Int) = bt x0_6 0 := bt_at x0_6 0
       clear p25
       have qi25 : (0 < (x0_6.size : Int)) = True := eq_true (of_decide_eq_true zq5)
       replace q25 := eq_true q25
       go_wp2
       go_meet
       case rel => exact ⟨_, (false), (by rfl), H', ⟨by have := HJ6.out; have := HJ12.out; first | omega | exact Nat.le_refl _⟩, ⟨by repeat (first | (with_reducible first | exact HB.out | apply below_alloc | apply pw_below_drewN | apply below_drew1) | exact HB.out)⟩⟩
      rw [if_pos c26] at H
      have c26b0 : ((bt x0_6 0) == 48) = true := beq_iff_eq.mpr c26
      have c26b1 : ((bt x0_6 0) != 48) = false := bne_eq_false_iff_eq.mpr c26
      clear c26
      have H' := mk0 H
      clear H
      have p25 : 0 ≤ (0 : Int) := (by omega)
      have q25 : 0 < x0_6.size := (by have : (0 : Int) < (x0_6.size : Int) := of_decide_eq_true zq5; omega)
      have hx25 : ∀ h : 0 < x0_6.size, ((x0_6[0]'h).toNat : Int) = bt x0_6 0 := bt_at x0_6 0
      clear p25
      have qi25 : (0 < (x0_6.size : Int)) = True := eq_true (of_decide_eq_true zq5)
      replace q25 := eq_true q25
      go_wp2
      go_meet
      case rel => exact ⟨_, ((x4_12 != 1)), (by rfl), H', ⟨by have := HJ6.out; have := HJ12.out; first | omega | exact Nat.le_refl _⟩, ⟨by repeat (first | (with_reducible first | exact HB.out | apply below_alloc | apply pw_below_drewN | apply below_drew1) | exact HB.out)⟩⟩
     case rest =>
      clear HC23 c20b0
      obtain ⟨kq, x46_22, rfl, HA, HJ22, HB⟩ := hcut
      cases kq with
      | zero => exact absurd HA.out (by simp [fastjson_validateNumber.j3])
      | succ kj22 =>
       have H := HA.out
       clear HA
       simp only [fastjson_validateNumber.j3] at H
       by_cases c27 : x46_22 = true
       ·subst c27
        rw [if_pos rfl] at H
        replace H := Option.bind_eq_some_iff.mp H
        obtain ⟨t104, A280, H⟩ := H
        (try dsimp only at H)
        have A28 := mk0 A280
        clear A280
        simp only [Option.some.injEq, Prod.mk.injEq] at H
        obtain ⟨rfl, rfl⟩ := H
        go_wp2_with (first | ((with_reducible refine gate_callee (f := 54) rfl ?_); refine goesL_ (some 48) rfl rfl Tryd.func54 zq24 rfl #[.string (⟨#[117, 110, 101, 120, 112, 101, 99, 116, 101, 100, 32, 110, 117, 109, 98, 101, 114, 32, 115, 116, 97, 114, 116, 105, 110, 103, 32, 102, 114, 111, 109, 32, 48]⟩ : ByteArray)] rfl zq0 ?_; (with_reducible refine (errors_New.calls (⟨#[117, 110, 101, 120, 112, 101, 99, 116, 101, 100, 32, 110, 117, 109, 98, 101, 114, 32, 115, 116, 97, 114, 116, 105, 110, 103, 32, 102, 114, 111, 109, 32, 48]⟩ : ByteArray) t104 _ A28.out).mono ?_); rintro e w29 ⟨z_t104, hz_t104, rfl, hb⟩; have Hz_t104 := mk0 hz_t104; clear hz_t104; refine ⟨_, rfl, ?_⟩; have n0_ := mk0 (below_step zq1 hb); clear HB; have HB := n0_; clear n0_ hb; (try simp only [errW_none, errW_some])))
        go_ret2
        exact ⟨z_t104, Hz_t104.out, by rfl, by repeat (first | (with_reducible first | exact HB.out | apply below_alloc | apply pw_below_drewN | apply below_drew1) | exact HB.out)⟩
       replace c27 := Bool.eq_false_iff.mpr c27
       subst c27
       rw [if_neg (show ¬ (false = true) by decide)] at H
       by_cases c30 : x4_12 ≥ (x0_6.size : Int)
       ·rw [if_pos c30] at H
        have c30b0 : decide ((x0_6.size : Int) ≤ x4_12) = true := decide_eq_true c30
        clear c30
        simp only [Option.some.injEq, Prod.mk.injEq] at H
        obtain ⟨rfl, rfl⟩ := H
        go_wp2
        go_ret2
        exact ⟨none, Zk.nn, by rfl, by repeat (first | (with_reducible first | exact HB.out | apply below_alloc | apply pw_below_drewN | apply below_drew1) | exact HB.out)⟩
       rw [if_neg c30] at H
       have c30b0 : decide ((x0_6.size : Int) ≤ x4_12) = false := decide_eq_false c30
       clear c30
       by_cases c31 : 0 ≤ x4_12
       rotate_left
       ·rw [if_neg c31] at H
        exact absurd H (by simp)
       rw [if_pos c31] at H
       have c31b0 : decide (0 ≤ x4_12) = true := decide_eq_true c31
       clear c31
       by_cases c32 : x4_12 < (x0_6.size : Int)
       rotate_left
       ·rw [if_neg c32] at H
        exact absurd H (by simp)
       rw [if_pos c32] at H
       have c32b0 : decide (x4_12 < (x0_6.size : Int)) = true := decide_eq_true c32
       clear c32
       have HC34 := mk0 H
       clear H
       have p33 : 0 ≤ (x4_12 : Int) := of_decide_eq_true zq5
       have q33 : x4_12 < (x0_6.size : Int) := of_decide_eq_true zq5
       have hx33 := bt_at x0_6 x4_12
       replace p33 := eq_true p33
       replace q33 := eq_true q33
       go_upto_if 56 with (fail)
       go_cut [0, 4] (fun v0 v4 wc => ∃ (kq : Nat) (x0_33 : ByteArray) (x4_33 : Int), v0 = .string x0_33 ∧ v4 = .int .i64 x4_33 ∧ Aside0 (fastjson_validateNumber.j6 kq x0_33 x4_33 = some (r1, r2)) ∧ Aside0 (kq ≤ kj22) ∧ Aside0 (Below w.heap.size w wc))
       case first =>
        have H := HC34.out
        clear HC34
        by_cases c35 : (bt x0_6 x4_12) = 46
        rotate_left
        ·rw [if_neg c35] at H
         have c35b0 : ((bt x0_6 x4_12) == 46) = false := beq_eq_false_iff_ne.mpr c35
         have c35b1 : ((bt x0_6 x4_12) != 46) = true := bne_iff_ne.mpr c35
         (rw [c35b0])
         have H' := mk0 H
         clear H
         go_wp2
         go_meet
         case rel => exact ⟨_, (x0_6), (x4_12), (by rfl), (by rfl), H', ⟨by have := HJ6.out; have := HJ12.out; have := HJ22.out; first | omega | exact Nat.le_refl _⟩, ⟨by repeat (first | (with_reducible first | exact HB.out | apply below_alloc | apply pw_below_drewN | apply below_drew1) | exact HB.out)⟩⟩
        rw [if_pos c35] at H
        have c35b0 : ((bt x0_6 x4_12) == 46) = true := beq_iff_eq.mpr c35
        have c35b1 : ((bt x0_6 x4_12) != 46) = false := bne_eq_false_iff_eq.mpr c35
        clear c35
        (rw [c35b0])
        obtain ⟨ji36, hji36⟩ : ∃ j_ : Int, (wrap64 (x4_12 + 1)) = j_ := ⟨_, rfl⟩
        replace H : (if 0 ≤ (ji36) then (if (ji36) ≤ (x0_6.size : Int) then (if ((x0_6.extract ((ji36) : Int).toNat x0_6.size).size : Int) = 0 then ((errors_New.f (⟨#[109, 105, 115, 115, 105, 110, 103, 32, 102, 114, 97, 99, 116, 105, 111, 110, 97, 108, 32, 112, 97, 114, 116]⟩ : ByteArray)).bind fun t105 => (some (x0_6.extract ((ji36) : Int).toNat x0_6.size, t105))) else (fastjson_validateNumber.l1 kj22 (x0_6.extract ((ji36) : Int).toNat x0_6.size) 0)) else (none)) else (none)) = some (r1, r2) := by (rw [hji36] at H; exact H)
        have hji36w : (IntKind.i64.wrap (x4_12 + 1)) = ji36 := (i64_w _).trans hji36
        by_cases c37 : 0 ≤ (ji36)
        rotate_left
        ·rw [if_neg c37] at H
         exact absurd H (by simp)
        rw [if_pos c37] at H
        have c37b0 := eq_true c37
        have c37b1 : decide (0 ≤ (ji36)) = true := decide_eq_true c37
        clear c37
        by_cases c38 : (ji36) ≤ (x0_6.size : Int)
        rotate_left
        ·rw [if_neg c38] at H
         exact absurd H (by simp)
        rw [if_pos c38] at H
        have c38b0 := eq_true c38
        have c38b1 : decide ((ji36) ≤ (x0_6.size : Int)) = true := decide_eq_true c38
        clear c38
        by_cases c39 : ((x0_6.extract ((ji36) : Int).toNat x0_6.size).size : Int) = 0
        ·rw [if_pos c39] at H
         have c39b0 : (((x0_6.extract ((ji36) : Int).toNat x0_6.size).size : Int) == 0) = true := beq_iff_eq.mpr c39
         have c39b0s := c39b0; simp only [ByteArray.size_extract, Nat.min_self] at c39b0s
         have c39b1 : (((x0_6.extract ((ji36) : Int).toNat x0_6.size).size : Int) != 0) = false := bne_eq_false_iff_eq.mpr c39
         have c39b1s := c39b1; simp only [ByteArray.size_extract, Nat.min_self] at c39b1s
         clear c39
         replace H := Option.bind_eq_some_iff.mp H
         obtain ⟨t105, A400, H⟩ := H
         (try dsimp only at H)
         have A40 := mk0 A400
         clear A400
         simp only [Option.some.injEq, Prod.mk.injEq] at H
         obtain ⟨rfl, rfl⟩ := H
         go_wp2_with (first | ((with_reducible refine gate_callee (f := 54) rfl ?_); refine goesL_ (some 65) rfl rfl Tryd.func54 zq24 rfl #[.string (⟨#[109, 105, 115, 115, 105, 110, 103, 32, 102, 114, 97, 99, 116, 105, 111, 110, 97, 108, 32, 112, 97, 114, 116]⟩ : ByteArray)] rfl zq0 ?_; (with_reducible refine (errors_New.calls (⟨#[109, 105, 115, 115, 105, 110, 103, 32, 102, 114, 97, 99, 116, 105, 111, 110, 97, 108, 32, 112, 97, 114, 116]⟩ : ByteArray) t105 _ A40.out).mono ?_); rintro e w41 ⟨z_t105, hz_t105, rfl, hb⟩; have Hz_t105 := mk0 hz_t105; clear hz_t105; refine ⟨_, rfl, ?_⟩; have n0_ := mk0 (below_step zq1 hb); clear HB; have HB := n0_; clear n0_ hb; (try simp only [errW_none, errW_some])))
         go_ret2
         exact ⟨z_t105, Hz_t105.out, by rfl, by repeat (first | (with_reducible first | exact HB.out | apply below_alloc | apply pw_below_drewN | apply below_drew1) | exact HB.out)⟩
        rw [if_neg c39] at H
        have c39b0 : (((x0_6.extract ((ji36) : Int).toNat x0_6.size).size : Int) == 0) = false := beq_eq_false_iff_ne.mpr c39
        have c39b0s := c39b0; simp only [ByteArray.size_extract, Nat.min_self] at c39b0s
        have c39b1 : (((x0_6.extract ((ji36) : Int).toNat x0_6.size).size : Int) != 0) = true := bne_iff_ne.mpr c39
        have c39b1s := c39b1; simp only [ByteArray.size_extract, Nat.min_self] at c39b1s
        have HC42 := mk0 H
        clear H
        go_upto_block 2 with (fail)
        go_cut [4] (fun v4 wc => ∃ (kq : Nat) (x4_41 : Int), v4 = .int .i64 x4_41 ∧ Aside0 (fastjson_validateNumber.j5 kq (x0_6.extract ((ji36) : Int).toNat x0_6.size) x4_41 = some (r1, r2)) ∧ Aside0 (kq ≤ kj22) ∧ Aside0 (Below w.heap.size w wc))
        case first =>
         have H := HC42.out
         clear HC42
         have H' := mk0 H
         clear H
         go_wp2
         generalize (x0_6.extract ((ji36) : Int).toNat x0_6.size) = X_1 at *
         go_loopg [4] kj22 (fun kq v4 w' => ∃ (x4_4 : Int), v4 = .int .i64 x4_4 ∧ Aside0 (fastjson_validateNumber.l1 kq X_1 x4_4 = some (r1, r2)) ∧ Aside0 (kq ≤ kj22) ∧ Aside0 (Below w.heap.size w w'))
         case atStart => exact ⟨(0), (by rfl), H', ⟨Nat.le_refl _⟩, ⟨by repeat (first | (with_reducible first | exact HB.out | apply below_alloc | apply pw_below_drewN | apply below_drew1) | exact HB.out)⟩⟩
         case round =>
          clear H'
          clear c30b0 c31b0 c32b0 p33 q33 hx33 c35b0 c35b1 c37b0 c37b1 c38b0 c38b1 c39 c39b0 c39b1
          obtain ⟨x4_4, rfl, HA, HK4, HB⟩ := hrel
          cases gk with
          | zero => exact absurd HA.out (by simp [fastjson_validateNumber.l1])
          | succ k4 =>
           have H := HA.out
           clear HA
           simp only [fastjson_validateNumber.l1] at H
           by_cases c43 : x4_4 < (X_1.size : Int)
           rotate_left
           ·rw [if_neg c43] at H
            have c43b0 : decide (x4_4 < (X_1.size : Int)) = false := decide_eq_false c43
            clear c43
            (skip)
            have H' := mk0 H
            clear H
            go_wp2
            go_meet
            case rel => exact ⟨_, (x4_4), (by rfl), H', ⟨by have := HJ6.out; have := HJ12.out; have := HJ22.out; have := HK4.out; first | omega | exact Nat.le_refl _⟩, ⟨by repeat (first | (with_reducible first | exact HB.out | apply below_alloc | apply pw_below_drewN | apply below_drew1) | exact HB.out)⟩⟩
           rw [if_pos c43] at H
           have c43b0 : decide (x4_4 < (X_1.size : Int)) = true := decide_eq_true c43
           clear c43
           (skip)
           by_cases c44 : 0 ≤ x4_4
           rotate_left
           ·rw [if_neg c44] at H
            exact absurd H (by simp)
           rw [if_pos c44] at H
           have c44b0 : decide (0 ≤ x4_4) = true := decide_eq_true c44
           clear c44
           by_cases c46 : (bt X_1 x4_4) < 48
           ·rw [if_pos c46] at H
            have c46b0 : decide ((bt X_1 x4_4) < 48) = true := decide_eq_true c46
            clear c46
            have H' := mk0 H
            clear H
            have p45 : 0 ≤ (x4_4 : Int) := of_decide_eq_true zq5
            have q45 : x4_4 < (X_1.size : Int) := of_decide_eq_true zq5
            have hx45 := bt_at X_1 x4_4
            replace p45 := eq_true p45
            replace q45 := eq_true q45
            go_wp2
            go_meet
            case rel => exact ⟨_, (x4_4), (by rfl), H', ⟨by have := HJ6.out; have := HJ12.out; have := HJ22.out; have := HK4.out; first | omega | exact Nat.le_refl _⟩, ⟨by repeat (first | (with_reducible first | exact HB.out | apply below_alloc | apply pw_below_drewN | apply below_drew1) | exact HB.out)⟩⟩
           rw [if_neg c46] at H
           have c46b0 : decide ((bt X_1 x4_4) < 48) = false := decide_eq_false c46
           clear c46
           by_cases c48 : (bt X_1 x4_4) > 57
           ·rw [if_pos c48] at H
            have c48b0 : decide (57 < (bt X_1 x4_4)) = true := decide_eq_true c48
            clear c48
            have H' := mk0 H
            clear H
            have p45 : 0 ≤ (x4_4 : Int) := of_decide_eq_true zq5
            have q45 : x4_4 < (X_1.size : Int) := of_decide_eq_true zq5
            have hx45 := bt_at X_1 x4_4
            replace p45 := eq_true p45
            replace q45 := eq_true q45
            have p47 : 0 ≤ (x4_4 : Int) := of_decide_eq_true zq5
            have q47 : x4_4 < (X_1.size : Int) := of_decide_eq_true zq5
            have hx47 := bt_at X_1 x4_4
            replace p47 := eq_true p47
            replace q47 := eq_true q47
            go_wp2
            go_meet
            case rel => exact ⟨_, (x4_4), (by rfl), H', ⟨by have := HJ6.out; have := HJ12.out; have := HJ22.out; have := HK4.out; first | omega | exact Nat.le_refl _⟩, ⟨by repeat (first | (with_reducible first | exact HB.out | apply below_alloc | apply pw_below_drewN | apply below_drew1) | exact HB.out)⟩⟩
           rw [if_neg c48] at H
           have c48b0 : decide (57 < (bt X_1 x4_4)) = false := decide_eq_false c48
           clear c48
           have H' := mk0 H
           clear H
           have p45 : 0 ≤ (x4_4 : Int) := of_decide_eq_true zq5
           have q45 : x4_4 < (X_1.size : Int) := of_decide_eq_true zq5
           have hx45 := bt_at X_1 x4_4
           replace p45 := eq_true p45
           replace q45 := eq_true q45
           have p47 : 0 ≤ (x4_4 : Int) := of_decide_eq_true zq5
           have q47 : x4_4 < (X_1.size : Int) := of_decide_eq_true zq5
           have hx47 := bt_at X_1 x4_4
           replace p47 := eq_true p47
           replace q47 := eq_true q47
           go_wp2
           go_roundg k4
           case measure => have := HJ6.out; have := HJ12.out; have := HJ22.out; have := HK4.out; omega
           case rel => exact ⟨(wrap64 (x4_4 + 1)), (by rfl), H', ⟨by have := HJ6.out; have := HJ12.out; have := HJ22.out; have := HK4.out; omega⟩, ⟨by repeat (first | (with_reducible first | exact HB.out | apply below_alloc | apply pw_below_drewN | apply below_drew1) | exact HB.out)⟩⟩
        case rest =>
         clear HC42 c30b0 c31b0 c32b0 p33 q33 hx33 c35b0 c35b1 c37b0 c37b1 c38b0 c38b1 c39 c39b0 c39b1
         obtain ⟨kq, x4_41, rfl, HA, HJ41, HB⟩ := hcut
         cases kq with
         | zero => exact absurd HA.out (by simp [fastjson_validateNumber.j5])
         | succ kj41 =>
          have H := HA.out
          clear HA
          simp only [fastjson_validateNumber.j5] at H
          by_cases c49 : x4_41 = 0
          rotate_left
          ·rw [if_neg c49] at H
           have c49b0 : (x4_41 == 0) = false := beq_eq_false_iff_ne.mpr c49
           have c49b1 : (x4_41 != 0) = true := bne_iff_ne.mpr c49
           by_cases c52 : x4_41 ≥ ((x0_6.extract ((ji36) : Int).toNat x0_6.size).size : Int)
           ·rw [if_pos c52] at H
            have c52b0 : decide (((x0_6.extract ((ji36) : Int).toNat x0_6.size).size : Int) ≤ x4_41) = true := decide_eq_true c52
            have c52b0s := c52b0; simp only [ByteArray.size_extract, Nat.min_self] at c52b0s
            clear c52
            simp only [Option.some.injEq, Prod.mk.injEq] at H
            obtain ⟨rfl, rfl⟩ := H
            go_wp2
            go_ret2
            exact ⟨none, Zk.nn, by rfl, by repeat (first | (with_reducible first | exact HB.out | apply below_alloc | apply pw_below_drewN | apply below_drew1) | exact HB.out)⟩
           rw [if_neg c52] at H
           have c52b0 : decide (((x0_6.extract ((ji36) : Int).toNat x0_6.size).size : Int) ≤ x4_41) = false := decide_eq_false c52
           have c52b0s := c52b0; simp only [ByteArray.size_extract, Nat.min_self] at c52b0s
           clear c52
           have H' := mk0 H
           clear H
           go_wp2
           (try simp only [← hji36])
           go_meet
           case rel => exact ⟨_, ((x0_6.extract ((ji36) : Int).toNat x0_6.size)), (x4_41), (by (simp only [← hji36] <;> (first | rfl | (simp; done)))), (by rfl), (by exact H'), ⟨by have := HJ6.out; have := HJ12.out; have := HJ22.out; have := HJ41.out; first | omega | exact Nat.le_refl _⟩, ⟨by repeat (first | (with_reducible first | exact HB.out | apply below_alloc | apply pw_below_drewN | apply below_drew1) | exact HB.out)⟩⟩
          rw [if_pos c49] at H
          have c49b0 : (x4_41 == 0) = true := beq_iff_eq.mpr c49
          have c49b1 : (x4_41 != 0) = false := bne_eq_false_iff_eq.mpr c49
          clear c49
          replace H := Option.bind_eq_some_iff.mp H
          obtain ⟨t106, A500, H⟩ := H
          (try dsimp only at H)
          have A50 := mk0 A500
          clear A500
          simp only [Option.some.injEq, Prod.mk.injEq] at H
          obtain ⟨rfl, rfl⟩ := H
          go_wp2_with (first | ((with_reducible refine gate_callee (f := 54) rfl ?_); refine goesL_ (some 85) rfl rfl Tryd.func54 zq24 rfl #[.string (⟨#[101, 120, 112, 101, 99, 116, 105, 110, 103, 32, 48, 46, 46, 57, 32, 100, 105, 103, 105, 116, 32, 105, 110, 32, 102, 114, 97, 99, 116, 105, 111, 110, 97, 108, 32, 112, 97, 114, 116, 44, 32, 103, 111, 116]⟩ : ByteArray)] rfl zq0 ?_; (with_reducible refine (errors_New.calls (⟨#[101, 120, 112, 101, 99, 116, 105, 110, 103, 32, 48, 46, 46, 57, 32, 100, 105, 103, 105, 116, 32, 105, 110, 32, 102, 114, 97, 99, 116, 105, 111, 110, 97, 108, 32, 112, 97, 114, 116, 44, 32, 103, 111, 116]⟩ : ByteArray) t106 _ A50.out).mono ?_); rintro e w51 ⟨z_t106, hz_t106, rfl, hb⟩; have Hz_t106 := mk0 hz_t106; clear hz_t106; refine ⟨_, rfl, ?_⟩; have n0_ := mk0 (below_step zq1 hb); clear HB; have HB := n0_; clear n0_ hb; (try simp only [errW_none, errW_some])))
          go_ret2
          exact ⟨z_t106, Hz_t106.out, by rfl, by repeat (first | (with_reducible first | exact HB.out | apply below_alloc | apply pw_below_drewN | apply below_drew1) | exact HB.out)⟩
       case rest =>
        clear HC34 c30b0 c31b0 c32b0 p33 q33 hx33
        obtain ⟨kq, x0_33, x4_33, rfl, rfl, HA, HJ33, HB⟩ := hcut
        cases kq with
        | zero => exact absurd HA.out (by simp [fastjson_validateNumber.j6])
        | succ kj33 =>
         have H := HA.out
         clear HA
         simp only [fastjson_validateNumber.j6] at H
         have HC53 := mk0 H
         clear H
         go_upto_region 29 with (fail)
         go_cut [99] (fun v99 wc => ∃ (kq : Nat) (x99_52 : Bool), v99 = .bool x99_52 ∧ Aside0 (fastjson_validateNumber.j7 kq x0_33 x4_33 x99_52 = some (r1, r2)) ∧ Aside0 (kq ≤ kj33) ∧ Aside0 (Below w.heap.size w wc))
         case first =>
          have H := HC53.out
          clear HC53
          by_cases c54 : 0 ≤ x4_33
          rotate_left
          ·rw [if_neg c54] at H
           exact absurd H (by simp)
          rw [if_pos c54] at H
          have c54b0 : decide (0 ≤ x4_33) = true := decide_eq_true c54
          clear c54
          (skip)
          by_cases c55 : x4_33 < (x0_33.size : Int)
          rotate_left
          ·rw [if_neg c55] at H
           exact absurd H (by simp)
          rw [if_pos c55] at H
          have c55b0 : decide (x4_33 < (x0_33.size : Int)) = true := decide_eq_true c55
          clear c55
          by_cases c57 : (bt x0_33 x4_33) = 101
          ·rw [if_pos c57] at H
           have c57b0 : ((bt x0_33 x4_33) == 101) = true := beq_iff_eq.mpr c57
           have c57b1 : ((bt x0_33 x4_33) != 101) = false := bne_eq_false_iff_eq.mpr c57
           clear c57
           have H' := mk0 H
           clear H
           have p56 : 0 ≤ (x4_33 : Int) := of_decide_eq_true zq5
           have q56 : x4_33 < (x0_33.size : Int) := of_decide_eq_true zq5
           have hx56 := bt_at x0_33 x4_33
           replace p56 := eq_true p56
           replace q56 := eq_true q56
           go_wp2
           go_meet
           case rel => exact ⟨_, (true), (by rfl), H', ⟨by have := HJ6.out; have := HJ12.out; have := HJ22.out; have := HJ33.out; first | omega | exact Nat.le_refl _⟩, ⟨by repeat (first | (with_reducible first | exact HB.out | apply below_alloc | apply pw_below_drewN | apply below_drew1) | exact HB.out)⟩⟩
          rw [if_neg c57] at H
          have c57b0 : ((bt x0_33 x4_33) == 101) = false := beq_eq_false_iff_ne.mpr c57
          have c57b1 : ((bt x0_33 x4_33) != 101) = true := bne_iff_ne.mpr c57
          have H' := mk0 H
          clear H
          have p56 : 0 ≤ (x4_33 : Int) := of_decide_eq_true zq5
          have q56 : x4_33 < (x0_33.size : Int) := of_decide_eq_true zq5
          have hx56 := bt_at x0_33 x4_33
          replace p56 := eq_true p56
          replace q56 := eq_true q56
          have p58 : 0 ≤ (x4_33 : Int) := of_decide_eq_true zq5
          have q58 : x4_33 < (x0_33.size : Int) := of_decide_eq_true zq5
          have hx58 := bt_at x0_33 x4_33
          replace p58 := eq_true p58
          replace q58 := eq_true q58
          go_wp2
          go_meet
          case rel => exact ⟨_, (((bt x0_33 x4_33) == 69)), (by rfl), H', ⟨by have := HJ6.out; have := HJ12.out; have := HJ22.out; have := HJ33.out; first | omega | exact Nat.le_refl _⟩, ⟨by repeat (first | (with_reducible first | exact HB.out | apply below_alloc | apply pw_below_drewN | apply below_drew1) | exact HB.out)⟩⟩
         case rest =>
          clear HC53
          obtain ⟨kq, x99_52, rfl, HA, HJ52, HB⟩ := hcut
          cases kq with
          | zero => exact absurd HA.out (by simp [fastjson_validateNumber.j7])
          | succ kj52 =>
           have H := HA.out
           clear HA
           simp only [fastjson_validateNumber.j7] at H
           by_cases c59 : x99_52 = true
           rotate_left
           ·replace c59 := Bool.eq_false_iff.mpr c59
            subst c59
            rw [if_neg (show ¬ (false = true) by decide)] at H
            by_cases c90 : 0 ≤ x4_33
            rotate_left
            ·rw [if_neg c90] at H
             exact absurd H (by simp)
            rw [if_pos c90] at H
            have c90b0 := eq_true c90
            have c90b1 : decide (0 ≤ x4_33) = true := decide_eq_true c90
            clear c90
            by_cases c91 : x4_33 ≤ (x0_33.size : Int)
            rotate_left
            ·rw [if_neg c91] at H
             exact absurd H (by simp)
            rw [if_pos c91] at H
            have c91b0 := eq_true c91
            have c91b1 : decide (x4_33 ≤ (x0_33.size : Int)) = true := decide_eq_true c91
            clear c91
            simp only [Option.some.injEq, Prod.mk.injEq] at H
            obtain ⟨rfl, rfl⟩ := H
            go_wp2
            go_ret2
            exact ⟨none, Zk.nn, by rfl, by repeat (first | (with_reducible first | exact HB.out | apply below_alloc | apply pw_below_drewN | apply below_drew1) | exact HB.out)⟩
           subst c59
           rw [if_pos rfl] at H
           obtain ⟨ji60, hji60⟩ : ∃ j_ : Int, (wrap64 (x4_33 + 1)) = j_ := ⟨_, rfl⟩
           replace H : (if 0 ≤ (ji60) then (if (ji60) ≤ (x0_33.size : Int) then (if ((x0_33.extract ((ji60) : Int).toNat x0_33.size).size : Int) = 0 then ((errors_New.f (⟨#[109, 105, 115, 115, 105, 110, 103, 32, 101, 120, 112, 111, 110, 101, 110, 116, 32, 112, 97, 114, 116]⟩ : ByteArray)).bind fun t107 => (some (x0_33.extract ((ji60) : Int).toNat x0_33.size, t107))) else (if 0 < ((x0_33.extract ((ji60) : Int).toNat x0_33.size).size : Int) then (if (bt (x0_33.extract ((ji60) : Int).toNat x0_33.size) 0) = 45 then (fastjson_validateNumber.j8 kj52 (x0_33.extract ((ji60) : Int).toNat x0_33.size) true) else (fastjson_validateNumber.j8 kj52 (x0_33.extract ((ji60) : Int).toNat x0_33.size) ((bt (x0_33.extract ((ji60) : Int).toNat x0_33.size) 0) == 43))) else (none))) else (none)) else (none)) = some (r1, r2) := by (rw [hji60] at H; exact H)
           have hji60w : (IntKind.i64.wrap (x4_33 + 1)) = ji60 := (i64_w _).trans hji60
           by_cases c61 : 0 ≤ (ji60)
           rotate_left
           ·rw [if_neg c61] at H
            exact absurd H (by simp)
           rw [if_pos c61] at H
           have c61b0 := eq_true c61
           have c61b1 : decide (0 ≤ (ji60)) = true := decide_eq_true c61
           clear c61
           by_cases c62 : (ji60) ≤ (x0_33.size : Int)
           rotate_left
           ·rw [if_neg c62] at H
            exact absurd H (by simp)
           rw [if_pos c62] at H
           have c62b0 := eq_true c62
           have c62b1 : decide ((ji60) ≤ (x0_33.size : Int)) = true := decide_eq_true c62
           clear c62
           by_cases c63 : ((x0_33.extract ((ji60) : Int).toNat x0_33.size).size : Int) = 0
           ·rw [if_pos c63] at H
            have c63b0 : (((x0_33.extract ((ji60) : Int).toNat x0_33.size).size : Int) == 0) = true := beq_iff_eq.mpr c63
            have c63b0s := c63b0; simp only [ByteArray.size_extract, Nat.min_self] at c63b0s
            have c63b1 : (((x0_33.extract ((ji60) : Int).toNat x0_33.size).size : Int) != 0) = false := bne_eq_false_iff_eq.mpr c63
            have c63b1s := c63b1; simp only [ByteArray.size_extract, Nat.min_self] at c63b1s
            clear c63
            replace H := Option.bind_eq_some_iff.mp H
            obtain ⟨t107, A640, H⟩ := H
            (try dsimp only at H)
            have A64 := mk0 A640
            clear A640
            simp only [Option.some.injEq, Prod.mk.injEq] at H
            obtain ⟨rfl, rfl⟩ := H
            go_wp2_with (first | ((with_reducible refine gate_callee (f := 54) rfl ?_); refine goesL_ (some 108) rfl rfl Tryd.func54 zq24 rfl #[.string (⟨#[109, 105, 115, 115, 105, 110, 103, 32, 101, 120, 112, 111, 110, 101, 110, 116, 32, 112, 97, 114, 116]⟩ : ByteArray)] rfl zq0 ?_; (with_reducible refine (errors_New.calls (⟨#[109, 105, 115, 115, 105, 110, 103, 32, 101, 120, 112, 111, 110, 101, 110, 116, 32, 112, 97, 114, 116]⟩ : ByteArray) t107 _ A64.out).mono ?_); rintro e w65 ⟨z_t107, hz_t107, rfl, hb⟩; have Hz_t107 := mk0 hz_t107; clear hz_t107; refine ⟨_, rfl, ?_⟩; have n0_ := mk0 (below_step zq1 hb); clear HB; have HB := n0_; clear n0_ hb; (try simp only [errW_none, errW_some])))
            go_ret2
            exact ⟨z_t107, Hz_t107.out, by rfl, by repeat (first | (with_reducible first | exact HB.out | apply below_alloc | apply pw_below_drewN | apply below_drew1) | exact HB.out)⟩
           rw [if_neg c63] at H
           have c63b0 : (((x0_33.extract ((ji60) : Int).toNat x0_33.size).size : Int) == 0) = false := beq_eq_false_iff_ne.mpr c63
           have c63b0s := c63b0; simp only [ByteArray.size_extract, Nat.min_self] at c63b0s
           have c63b1 : (((x0_33.extract ((ji60) : Int).toNat x0_33.size).size : Int) != 0) = true := bne_iff_ne.mpr c63
           have c63b1s := c63b1; simp only [ByteArray.size_extract, Nat.min_self] at c63b1s
           have HC66 := mk0 H
           clear H
           go_upto_region 33 with (fail)
           go_cut [116] (fun v116 wc => ∃ (kq : Nat) (x116_65 : Bool), v116 = .bool x116_65 ∧ Aside0 (fastjson_validateNumber.j8 kq (x0_33.extract ((ji60) : Int).toNat x0_33.size) x116_65 = some (r1, r2)) ∧ Aside0 (kq ≤ kj52) ∧ Aside0 (Below w.heap.size w wc))
           case first =>
            have H := HC66.out
            clear HC66
            by_cases c67 : 0 < ((x0_33.extract ((ji60) : Int).toNat x0_33.size).size : Int)
            rotate_left
            ·rw [if_neg c67] at H
             exact absurd H (by simp)
            rw [if_pos c67] at H
            have c67b0 : decide (0 < ((x0_33.extract ((ji60) : Int).toNat x0_33.size).size : Int)) = true := decide_eq_true c67
            have c67b0s := c67b0; simp only [ByteArray.size_extract, Nat.min_self] at c67b0s
            have c67b1 : decide (0 < (x0_33.extract ((ji60) : Int).toNat x0_33.size).size) = true := decide_eq_true (by omega)
            have c67b1s := c67b1; simp only [ByteArray.size_extract, Nat.min_self] at c67b1s
            clear c67
            (skip)
            by_cases c69 : (bt (x0_33.extract ((ji60) : Int).toNat x0_33.size) 0) = 45
            ·rw [if_pos c69] at H
             have c69b0 : ((bt (x0_33.extract ((ji60) : Int).toNat x0_33.size) 0) == 45) = true := beq_iff_eq.mpr c69
             have c69b1 : ((bt (x0_33.extract ((ji60) : Int).toNat x0_33.size) 0) != 45) = false := bne_eq_false_iff_eq.mpr c69
             clear c69
             have H' := mk0 H
             clear H
             have p68 : 0 ≤ (0 : Int) := (by omega)
             have q68 : 0 < (x0_33.extract ((ji60) : Int).toNat x0_33.size).size := (by have : (0 : Int) < ((x0_33.extract ((ji60) : Int).toNat x0_33.size).size : Int) := of_decide_eq_true zq5; omega)
             have hx68 : ∀ h : 0 < (x0_33.extract ((ji60) : Int).toNat x0_33.size).size, (((x0_33.extract ((ji60) : Int).toNat x0_33.size)[0]'h).toNat : Int) = bt (x0_33.extract ((ji60) : Int).toNat x0_33.size) 0 := bt_at (x0_33.extract ((ji60) : Int).toNat x0_33.size) 0
             clear p68
             have qi68 : (0 < ((x0_33.extract ((ji60) : Int).toNat x0_33.size).size : Int)) = True := eq_true (of_decide_eq_true zq5)
             replace q68 := eq_true q68
             go_wp2
             go_meet
             case rel => exact ⟨_, (true), (by rfl), H', ⟨by have := HJ6.out; have := HJ12.out; have := HJ22.out; have := HJ33.out; have := HJ52.out; first | omega | exact Nat.le_refl _⟩, ⟨by repeat (first | (with_reducible first | exact HB.out | apply below_alloc | apply pw_below_drewN | apply below_drew1) | exact HB.out)⟩⟩
            rw [if_neg c69] at H
            have c69b0 : ((bt (x0_33.extract ((ji60) : Int).toNat x0_33.size) 0) == 45) = false := beq_eq_false_iff_ne.mpr c69
            have c69b1 : ((bt (x0_33.extract ((ji60) : Int).toNat x0_33.size) 0) != 45) = true := bne_iff_ne.mpr c69
            have H' := mk0 H
            clear H
            have p68 : 0 ≤ (0 : Int) := (by omega)
            have q68 : 0 < (x0_33.extract ((ji60) : Int).toNat x0_33.size).size := (by have : (0 : Int) < ((x0_33.extract ((ji60) : Int).toNat x0_33.size).size : Int) := of_decide_eq_true zq5; omega)
            have hx68 : ∀ h : 0 < (x0_33.extract ((ji60) : Int).toNat x0_33.size).size, (((x0_33.extract ((ji60) : Int).toNat x0_33.size)[0]'h).toNat : Int) = bt (x0_33.extract ((ji60) : Int).toNat x0_33.size) 0 := bt_at (x0_33.extract ((ji60) : Int).toNat x0_33.size) 0
            clear p68
            have qi68 : (0 < ((x0_33.extract ((ji60) : Int).toNat x0_33.size).size : Int)) = True := eq_true (of_decide_eq_true zq5)
            replace q68 := eq_true q68
            have p70 : 0 ≤ (0 : Int) := (by omega)
            have q70 : 0 < (x0_33.extract ((ji60) : Int).toNat x0_33.size).size := (by have : (0 : Int) < ((x0_33.extract ((ji60) : Int).toNat x0_33.size).size : Int) := of_decide_eq_true zq5; omega)
            have hx70 : ∀ h : 0 < (x0_33.extract ((ji60) : Int).toNat x0_33.size).size, (((x0_33.extract ((ji60) : Int).toNat x0_33.size)[0]'h).toNat : Int) = bt (x0_33.extract ((ji60) : Int).toNat x0_33.size) 0 := bt_at (x0_33.extract ((ji60) : Int).toNat x0_33.size) 0
            clear p70
            have qi70 : (0 < ((x0_33.extract ((ji60) : Int).toNat x0_33.size).size : Int)) = True := eq_true (of_decide_eq_true zq5)
            replace q70 := eq_true q70
            go_wp2
            go_meet
            case rel => exact ⟨_, (((bt (x0_33.extract ((ji60) : Int).toNat x0_33.size) 0) == 43)), (by rfl), H', ⟨by have := HJ6.out; have := HJ12.out; have := HJ22.out; have := HJ33.out; have := HJ52.out; first | omega | exact Nat.le_refl _⟩, ⟨by repeat (first | (with_reducible first | exact HB.out | apply below_alloc | apply pw_below_drewN | apply below_drew1) | exact HB.out)⟩⟩
           case rest =>
            clear HC66 c61b0 c61b1 c62b0 c62b1 c63 c63b0 c63b1
            obtain ⟨kq, x116_65, rfl, HA, HJ65, HB⟩ := hcut
            cases kq with
            | zero => exact absurd HA.out (by simp [fastjson_validateNumber.j8])
            | succ kj65 =>
             have H := HA.out
             clear HA
             simp only [fastjson_validateNumber.j8] at H
             have HC71 := mk0 H
             clear H
             go_upto_if 116 with (fail)
             go_cut [0] (fun v0 wc => ∃ (kq : Nat) (x0_70 : ByteArray), v0 = .string x0_70 ∧ Aside0 (fastjson_validateNumber.j9 kq x0_70 = some (r1, r2)) ∧ Aside0 (kq ≤ kj65) ∧ Aside0 (Below w.heap.size w wc))
             case first =>
              have H := HC71.out
              clear HC71
              by_cases c72 : x116_65 = true
              rotate_left
              ·replace c72 := Bool.eq_false_iff.mpr c72
               subst c72
               rw [if_neg (show ¬ (false = true) by decide)] at H
               have H' := mk0 H
               clear H
               go_wp2
               go_meet
               case rel => exact ⟨_, ((x0_33.extract ((ji60) : Int).toNat x0_33.size)), (by rfl), H', ⟨by have := HJ6.out; have := HJ12.out; have := HJ22.out; have := HJ33.out; have := HJ52.out; have := HJ65.out; first | omega | exact Nat.le_refl _⟩, ⟨by repeat (first | (with_reducible first | exact HB.out | apply below_alloc | apply pw_below_drewN | apply below_drew1) | exact HB.out)⟩⟩
              subst c72
              rw [if_pos rfl] at H
              by_cases c73 : 1 ≤ ((x0_33.extract ((ji60) : Int).toNat x0_33.size).size : Int)
              rotate_left
              ·rw [if_neg c73] at H
               exact absurd H (by simp)
              rw [if_pos c73] at H
              have c73b0 := eq_true c73
              have c73b1 : decide (1 ≤ ((x0_33.extract ((ji60) : Int).toNat x0_33.size).size : Int)) = true := decide_eq_true c73
              have c73b1s := c73b1; simp only [ByteArray.size_extract, Nat.min_self] at c73b1s
              clear c73
              by_cases c74 : (((x0_33.extract ((ji60) : Int).toNat x0_33.size).extract 1 (x0_33.extract ((ji60) : Int).toNat x0_33.size).size).size : Int) = 0
              rotate_left
              ·rw [if_neg c74] at H
               have c74b0 : ((((x0_33.extract ((ji60) : Int).toNat x0_33.size).extract 1 (x0_33.extract ((ji60) : Int).toNat x0_33.size).size).size : Int) == 0) = false := beq_eq_false_iff_ne.mpr c74
               have c74b0s := c74b0; simp only [ByteArray.size_extract, Nat.min_self] at c74b0s
               have c74b1 : ((((x0_33.extract ((ji60) : Int).toNat x0_33.size).extract 1 (x0_33.extract ((ji60) : Int).toNat x0_33.size).size).size : Int) != 0) = true := bne_iff_ne.mpr c74
               have c74b1s := c74b1; simp only [ByteArray.size_extract, Nat.min_self] at c74b1s
               (skip)
               have H' := mk0 H
               clear H
               go_wp2
               go_meet
               case rel => exact ⟨_, ((x0_33.extract ((ji60) : Int).toNat x0_33.size).extract 1 (x0_33.extract ((ji60) : Int).toNat x0_33.size).size), (by rfl), H', ⟨by have := HJ6.out; have := HJ12.out; have := HJ22.out; have := HJ33.out; have := HJ52.out; have := HJ65.out; first | omega | exact Nat.le_refl _⟩, ⟨by repeat (first | (with_reducible first | exact HB.out | apply below_alloc | apply pw_below_drewN | apply below_drew1) | exact HB.out)⟩⟩
              rw [if_pos c74] at H
              have c74b0 : ((((x0_33.extract ((ji60) : Int).toNat x0_33.size).extract 1 (x0_33.extract ((ji60) : Int).toNat x0_33.size).size).size : Int) == 0) = true := beq_iff_eq.mpr c74
              have c74b0s := c74b0; simp only [ByteArray.size_extract, Nat.min_self] at c74b0s
              have c74b1 : ((((x0_33.extract ((ji60) : Int).toNat x0_33.size).extract 1 (x0_33.extract ((ji60) : Int).toNat x0_33.size).size).size : Int) != 0) = false := bne_eq_false_iff_eq.mpr c74
              have c74b1s := c74b1; simp only [ByteArray.size_extract, Nat.min_self] at c74b1s
              clear c74
              (skip)
              replace H := Option.bind_eq_some_iff.mp H
              obtain ⟨t108, A750, H⟩ := H
              (try dsimp only at H)
              have A75 := mk0 A750
              clear A750
              simp only [Option.some.injEq, Prod.mk.injEq] at H
              obtain ⟨rfl, rfl⟩ := H
              go_wp2_with (first | ((with_reducible refine gate_callee (f := 54) rfl ?_); refine goesL_ (some 123) rfl rfl Tryd.func54 zq24 rfl #[.string (⟨#[109, 105, 115, 115, 105, 110, 103, 32, 101, 120, 112, 111, 110, 101, 110, 116, 32, 112, 97, 114, 116]⟩ : ByteArray)] rfl zq0 ?_; (with_reducible refine (errors_New.calls (⟨#[109, 105, 115, 115, 105, 110, 103, 32, 101, 120, 112, 111, 110, 101, 110, 116, 32, 112, 97, 114, 116]⟩ : ByteArray) t108 _ A75.out).mono ?_); rintro e w76 ⟨z_t108, hz_t108, rfl, hb⟩; have Hz_t108 := mk0 hz_t108; clear hz_t108; refine ⟨_, rfl, ?_⟩; have n0_ := mk0 (below_step zq1 hb); clear HB; have HB := n0_; clear n0_ hb; (try simp only [errW_none, errW_some])))
              go_ret2
              exact ⟨z_t108, Hz_t108.out, by rfl, by repeat (first | (with_reducible first | exact HB.out | apply below_alloc | apply pw_below_drewN | apply below_drew1) | exact HB.out)⟩
             case rest =>
              clear HC71
              obtain ⟨kq, x0_70, rfl, HA, HJ70, HB⟩ := hcut
              cases kq with
              | zero => exact absurd HA.out (by simp [fastjson_validateNumber.j9])
              | succ kj70 =>
               have H := HA.out
               clear HA
               simp only [fastjson_validateNumber.j9] at H
               have HC77 := mk0 H
               clear H
               go_upto_block 4 with (fail)
               go_cut [4] (fun v4 wc => ∃ (kq : Nat) (x4_76 : Int), v4 = .int .i64 x4_76 ∧ Aside0 (fastjson_validateNumber.j11 kq x0_70 x4_76 = some (r1, r2)) ∧ Aside0 (kq ≤ kj70) ∧ Aside0 (Below w.heap.size w wc))
               case first =>
                have H := HC77.out
                clear HC77
                have H' := mk0 H
                clear H
                go_wp2
                go_loopg [4] kj70 (fun kq v4 w' => ∃ (x4_8 : Int), v4 = .int .i64 x4_8 ∧ Aside0 (fastjson_validateNumber.l2 kq x0_70 x4_8 = some (r1, r2)) ∧ Aside0 (kq ≤ kj70) ∧ Aside0 (Below w.heap.size w w'))
                case atStart => exact ⟨(0), (by rfl), H', ⟨Nat.le_refl _⟩, ⟨by repeat (first | (with_reducible first | exact HB.out | apply below_alloc | apply pw_below_drewN | apply below_drew1) | exact HB.out)⟩⟩
                case round =>
                 clear H'
                 obtain ⟨x4_8, rfl, HA, HK8, HB⟩ := hrel
                 cases gk with
                 | zero => exact absurd HA.out (by simp [fastjson_validateNumber.l2])
                 | succ k8 =>
                  have H := HA.out
                  clear HA
                  simp only [fastjson_validateNumber.l2] at H
                  by_cases c78 : x4_8 < (x0_70.size : Int)
                  rotate_left
                  ·rw [if_neg c78] at H
                   have c78b0 : decide (x4_8 < (x0_70.size : Int)) = false := decide_eq_false c78
                   clear c78
                   (skip)
                   have H' := mk0 H
                   clear H
                   go_wp2
                   go_meet
                   case rel => exact ⟨_, (x4_8), (by rfl), H', ⟨by have := HJ6.out; have := HJ12.out; have := HJ22.out; have := HJ33.out; have := HJ52.out; have := HJ65.out; have := HJ70.out; have := HK8.out; first | omega | exact Nat.le_refl _⟩, ⟨by repeat (first | (with_reducible first | exact HB.out | apply below_alloc | apply pw_below_drewN | apply below_drew1) | exact HB.out)⟩⟩
                  rw [if_pos c78] at H
                  have c78b0 : decide (x4_8 < (x0_70.size : Int)) = true := decide_eq_true c78
                  clear c78
                  (skip)
                  by_cases c79 : 0 ≤ x4_8
                  rotate_left
                  ·rw [if_neg c79] at H
                   exact absurd H (by simp)
                  rw [if_pos c79] at H
                  have c79b0 : decide (0 ≤ x4_8) = true := decide_eq_true c79
                  clear c79
                  by_cases c81 : (bt x0_70 x4_8) < 48
                  ·rw [if_pos c81] at H
                   have c81b0 : decide ((bt x0_70 x4_8) < 48) = true := decide_eq_true c81
                   clear c81
                   have H' := mk0 H
                   clear H
                   have p80 : 0 ≤ (x4_8 : Int) := of_decide_eq_true zq5
                   have q80 : x4_8 < (x0_70.size : Int) := of_decide_eq_true zq5
                   have hx80 := bt_at x0_70 x4_8
                   replace p80 := eq_true p80
                   replace q80 := eq_true q80
                   go_wp2
                   go_meet
                   case rel => exact ⟨_, (x4_8), (by rfl), H', ⟨by have := HJ6.out; have := HJ12.out; have := HJ22.out; have := HJ33.out; have := HJ52.out; have := HJ65.out; have := HJ70.out; have := HK8.out; first | omega | exact Nat.le_refl _⟩, ⟨by repeat (first | (with_reducible first | exact HB.out | apply below_alloc | apply pw_below_drewN | apply below_drew1) | exact HB.out)⟩⟩
                  rw [if_neg c81] at H
                  have c81b0 : decide ((bt x0_70 x4_8) < 48) = false := decide_eq_false c81
                  clear c81
                  by_cases c83 : (bt x0_70 x4_8) > 57
                  ·rw [if_pos c83] at H
                   have c83b0 : decide (57 < (bt x0_70 x4_8)) = true := decide_eq_true c83
                   clear c83
                   have H' := mk0 H
                   clear H
                   have p80 : 0 ≤ (x4_8 : Int) := of_decide_eq_true zq5
                   have q80 : x4_8 < (x0_70.size : Int) := of_decide_eq_true zq5
                   have hx80 := bt_at x0_70 x4_8
                   replace p80 := eq_true p80
                   replace q80 := eq_true q80
                   have p82 : 0 ≤ (x4_8 : Int) := of_decide_eq_true zq5
                   have q82 : x4_8 < (x0_70.size : Int) := of_decide_eq_true zq5
                   have hx82 := bt_at x0_70 x4_8
                   replace p82 := eq_true p82
                   replace q82 := eq_true q82
                   go_wp2
                   go_meet
                   case rel => exact ⟨_, (x4_8), (by rfl), H', ⟨by have := HJ6.out; have := HJ12.out; have := HJ22.out; have := HJ33.out; have := HJ52.out; have := HJ65.out; have := HJ70.out; have := HK8.out; first | omega | exact Nat.le_refl _⟩, ⟨by repeat (first | (with_reducible first | exact HB.out | apply below_alloc | apply pw_below_drewN | apply below_drew1) | exact HB.out)⟩⟩
                  rw [if_neg c83] at H
                  have c83b0 : decide (57 < (bt x0_70 x4_8)) = false := decide_eq_false c83
                  clear c83
                  have H' := mk0 H
                  clear H
                  have p80 : 0 ≤ (x4_8 : Int) := of_decide_eq_true zq5
                  have q80 : x4_8 < (x0_70.size : Int) := of_decide_eq_true zq5
                  have hx80 := bt_at x0_70 x4_8
                  replace p80 := eq_true p80
                  replace q80 := eq_true q80
                  have p82 : 0 ≤ (x4_8 : Int) := of_decide_eq_true zq5
                  have q82 : x4_8 < (x0_70.size : Int) := of_decide_eq_true zq5
                  have hx82 := bt_at x0_70 x4_8
                  replace p82 := eq_true p82
                  replace q82 := eq_true q82
                  go_wp2
                  go_roundg k8
                  case measure => have := HJ6.out; have := HJ12.out; have := HJ22.out; have := HJ33.out; have := HJ52.out; have := HJ65.out; have := HJ70.out; have := HK8.out; omega
                  case rel => exact ⟨(wrap64 (x4_8 + 1)), (by rfl), H', ⟨by have := HJ6.out; have := HJ12.out; have := HJ22.out; have := HJ33.out; have := HJ52.out; have := HJ65.out; have := HJ70.out; have := HK8.out; omega⟩, ⟨by repeat (first | (with_reducible first | exact HB.out | apply below_alloc | apply pw_below_drewN | apply below_drew1) | exact HB.out)⟩⟩
               case rest =>
                clear HC77
                obtain ⟨kq, x4_76, rfl, HA, HJ76, HB⟩ := hcut
                cases kq with
                | zero => exact absurd HA.out (by simp [fastjson_validateNumber.j11])
                | succ kj76 =>
                 have H := HA.out
                 clear HA
                 simp only [fastjson_validateNumber.j11] at H
                 by_cases c84 : x4_76 = 0
                 rotate_left
                 ·rw [if_neg c84] at H
                  have c84b0 : (x4_76 == 0) = false := beq_eq_false_iff_ne.mpr c84
                  have c84b1 : (x4_76 != 0) = true := bne_iff_ne.mpr c84
                  by_cases c87 : x4_76 ≥ (x0_70.size : Int)
                  ·rw [if_pos c87] at H
                   have c87b0 : decide ((x0_70.size : Int) ≤ x4_76) = true := decide_eq_true c87
                   clear c87
                   simp only [Option.some.injEq, Prod.mk.injEq] at H
                   obtain ⟨rfl, rfl⟩ := H
                   go_wp2
                   go_ret2
                   exact ⟨none, Zk.nn, by rfl, by repeat (first | (with_reducible first | exact HB.out | apply below_alloc | apply pw_below_drewN | apply below_drew1) | exact HB.out)⟩
                  rw [if_neg c87] at H
                  have c87b0 : decide ((x0_70.size : Int) ≤ x4_76) = false := decide_eq_false c87
                  clear c87
                  by_cases c88 : 0 ≤ x4_76
                  rotate_left
                  ·rw [if_neg c88] at H
                   exact absurd H (by simp)
                  rw [if_pos c88] at H
                  have c88b0 := eq_true c88
                  have c88b1 : decide (0 ≤ x4_76) = true := decide_eq_true c88
                  clear c88
                  by_cases c89 : x4_76 ≤ (x0_70.size : Int)
                  rotate_left
                  ·rw [if_neg c89] at H
                   exact absurd H (by simp)
                  rw [if_pos c89] at H
                  have c89b0 := eq_true c89
                  have c89b1 : decide (x4_76 ≤ (x0_70.size : Int)) = true := decide_eq_true c89
                  clear c89
                  simp only [Option.some.injEq, Prod.mk.injEq] at H
                  obtain ⟨rfl, rfl⟩ := H
                  go_wp2
                  go_ret2
                  exact ⟨none, Zk.nn, by rfl, by repeat (first | (with_reducible first | exact HB.out | apply below_alloc | apply pw_below_drewN | apply below_drew1) | exact HB.out)⟩
                 rw [if_pos c84] at H
                 have c84b0 : (x4_76 == 0) = true := beq_iff_eq.mpr c84
                 have c84b1 : (x4_76 != 0) = false := bne_eq_false_iff_eq.mpr c84
                 clear c84
                 replace H := Option.bind_eq_some_iff.mp H
                 obtain ⟨t109, A850, H⟩ := H
                 (try dsimp only at H)
                 have A85 := mk0 A850
                 clear A850
                 simp only [Option.some.injEq, Prod.mk.injEq] at H
                 obtain ⟨rfl, rfl⟩ := H
                 go_wp2_with (first | ((with_reducible refine gate_callee (f := 54) rfl ?_); refine goesL_ (some 143) rfl rfl Tryd.func54 zq24 rfl #[.string (⟨#[101, 120, 112, 101, 99, 116, 105, 110, 103, 32, 48, 46, 46, 57, 32, 100, 105, 103, 105, 116, 32, 105, 110, 32, 101, 120, 112, 111, 110, 101, 110, 116, 32, 112, 97, 114, 116, 44, 32, 103, 111, 116]⟩ : ByteArray)] rfl zq0 ?_; (with_reducible refine (errors_New.calls (⟨#[101, 120, 112, 101, 99, 116, 105, 110, 103, 32, 48, 46, 46, 57, 32, 100, 105, 103, 105, 116, 32, 105, 110, 32, 101, 120, 112, 111, 110, 101, 110, 116, 32, 112, 97, 114, 116, 44, 32, 103, 111, 116]⟩ : ByteArray) t109 _ A85.out).mono ?_); rintro e w86 ⟨z_t109, hz_t109, rfl, hb⟩; have Hz_t109 := mk0 hz_t109; clear hz_t109; refine ⟨_, rfl, ?_⟩; have n0_ := mk0 (below_step zq1 hb); clear HB; have HB := n0_; clear n0_ hb; (try simp only [errW_none, errW_some])))
                 go_ret2
                 exact ⟨z_t109, Hz_t109.out, by rfl, by repeat (first | (with_reducible first | exact HB.out | apply below_alloc | apply pw_below_drewN | apply below_drew1) | exact HB.out)⟩
end Go.Proofs.YtlokkefnbffjnaaDoor.J
end
