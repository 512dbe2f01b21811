-- printed by a turned copy of the kit's print (wip/tools/patch_print.py)
import Derived.Test.YtlokkefnbffjnaaDoorUx0
import Derived.Test.YtlokkefnbffjnaaDoorUxf54
import Derived.Test.YtlokkefnbffjnaaDoorUxf55
namespace Go.Proofs.YtlokkefnbffjnaaDoor.U
open Go.RowKit Go.Proofs.YtlokkefnbffjnaaDoorW.PrintWords Go.Proofs.YtlokkefnbffjnaaDoorW.PrintLast Go.Proofs.YtlokkefnbffjnaaDoorW.PrintMore
attribute [local go_sem] max2_int min2_int max_two min_two max_three min_three max_four min_four   -- for this text's walks alone
set_option linter.unusedVariables false
set_option linter.unusedSimpArgs false

/-! ### fastfloat_ParseUint64: function 30 -/
mutual
def fastfloat_ParseUint64.j2 : Nat → ByteArray → Int → Int → Int → Option (Int × Option Int)
  | 0, _, _, _, _ => none
  | k + 1, x0, x4, x5, x6 => if x4 ≤ x6 then ((errors_New.f (⟨#[99, 97, 110, 110, 111, 116, 32, 112, 97, 114, 115, 101, 32, 117, 105, 110, 116, 54, 52, 32, 102, 114, 111, 109]⟩ : ByteArray)).bind fun t105 => (some (0, t105))) else (if x4 < (IntKind.u64.wrap ((x0.size : Int))) then ((errors_New.f (⟨#[117, 110, 112, 97, 114, 115, 101, 100, 32, 116, 97, 105, 108, 32, 108, 101, 102, 116, 32, 97, 102, 116, 101, 114, 32, 112, 97, 114, 115, 105, 110, 103, 32, 117, 105, 110, 116, 54, 52, 32, 102, 114, 111, 109]⟩ : ByteArray)).bind fun t106 => (some (0, t106))) else (some (x5, none)))
def fastfloat_ParseUint64.l0 : Nat → ByteArray → Int → Int → Int → Option (Int × Option Int)
  | 0, _, _, _, _ => none
  | k + 1, x0, x4, x5, x6 => if x4 < (IntKind.u64.wrap ((x0.size : Int))) then (if 0 ≤ x4 then (if x4 < (x0.size : Int) then (if (bt x0 x4) ≥ 48 then (fastfloat_ParseUint64.j1 k x0 x4 x5 x6 (decide ((bt x0 x4) ≤ 57))) else (fastfloat_ParseUint64.j1 k x0 x4 x5 x6 false)) else (none)) else (none)) else (fastfloat_ParseUint64.j2 k x0 x4 x5 x6)
def fastfloat_ParseUint64.j1 : Nat → ByteArray → Int → Int → Int → Bool → Option (Int × Option Int)
  | 0, _, _, _, _, _ => none
  | k + 1, x0, x4, x5, x6, x28 => if x28 = true then (if 0 ≤ x4 then (if x4 < (x0.size : Int) then (if (IntKind.u64.wrap (x4 + 1)) > 18 then ((strconv_ParseUint_55.f x0 10 64).bind fun bt102 => (if bt102.2.isNone = true then (some (bt102.1, none)) else (some (0, some (bt102.2.getD 0))))) else (fastfloat_ParseUint64.l0 k x0 (IntKind.u64.wrap (x4 + 1)) (IntKind.u64.wrap ((IntKind.u64.wrap (x5 * 10)) + (((bt x0 x4) - 48) % 256))) x6)) else (none)) else (none)) else (fastfloat_ParseUint64.j2 k x0 x4 x5 x6)
end
def fastfloat_ParseUint64.f (k : Nat) (a0 : ByteArray) : Option (Int × Option Int) := if (a0.size : Int) = 0 then ((errors_New.f (⟨#[99, 97, 110, 110, 111, 116, 32, 112, 97, 114, 115, 101, 32, 117, 105, 110, 116, 54, 52, 32, 102, 114, 111, 109, 32, 101, 109, 112, 116, 121, 32, 115, 116, 114, 105, 110, 103]⟩ : ByteArray)).bind fun t101 => (some (0, t101))) else (fastfloat_ParseUint64.l0 k a0 0 0 0)
theorem fastfloat_ParseUint64.mono_l : ∀ k, (∀ y0 y1 y2 y3, LeO (fastfloat_ParseUint64.j2 k y0 y1 y2 y3) (fastfloat_ParseUint64.j2 (k + 1) y0 y1 y2 y3)) ∧ (∀ y0 y1 y2 y3, LeO (fastfloat_ParseUint64.l0 k y0 y1 y2 y3) (fastfloat_ParseUint64.l0 (k + 1) y0 y1 y2 y3)) ∧ (∀ y0 y1 y2 y3 y4, LeO (fastfloat_ParseUint64.j1 k y0 y1 y2 y3 y4) (fastfloat_ParseUint64.j1 (k + 1) y0 y1 y2 y3 y4))
  | 0 => ⟨fun _ _ _ _ r h => by simp [fastfloat_ParseUint64.j2] at h, fun _ _ _ _ r h => by simp [fastfloat_ParseUint64.l0] at h, fun _ _ _ _ _ r h => by simp [fastfloat_ParseUint64.j1] at h⟩
  | k + 1 => by
    obtain ⟨ih0, ih1, ih2⟩ := fastfloat_ParseUint64.mono_l k
    refine ⟨?_, ?_, ?_⟩
    · intro y0 y1 y2 y3
      unfold fastfloat_ParseUint64.j2
      repeat' first
      | (with_reducible exact ih0 _ _ _ _)
      | (with_reducible exact ih1 _ _ _ _)
      | (with_reducible exact ih2 _ _ _ _ _)
      | (with_reducible exact LeO.refl _)
      | (with_reducible exact LeO.none _)
      | (with_reducible refine LeO.ite ?_ ?_)
      | (with_reducible refine LeO.bind ?_ (fun _ => ?_))
      | exact ih0 _ _ _ _
      | exact ih1 _ _ _ _
      | exact ih2 _ _ _ _ _
      | exact LeO.none _
      | refine LeO.ite ?_ ?_
      | refine LeO.bind ?_ (fun _ => ?_)
    · intro y0 y1 y2 y3
      unfold fastfloat_ParseUint64.l0
      repeat' first
      | (with_reducible exact ih0 _ _ _ _)
      | (with_reducible exact ih1 _ _ _ _)
      | (with_reducible exact ih2 _ _ _ _ _)
      | (with_reducible exact LeO.refl _)
      | (with_reducible exact LeO.none _)
      | (with_reducible refine LeO.ite ?_ ?_)
      | (with_reducible refine LeO.bind ?_ (fun _ => ?_))
      | exact ih0 _ _ _ _
      | exact ih1 _ _ _ _
      | exact ih2 _ _ _ _ _
      | exact LeO.none _
      | refine LeO.ite ?_ ?_
      | refine LeO.bind ?_ (fun _ => ?_)
    · intro y0 y1 y2 y3 y4
      unfold fastfloat_ParseUint64.j1
      repeat' first
      | (with_reducible exact ih0 _ _ _ _)
      | (with_reducible exact ih1 _ _ _ _)
      | (with_reducible exact ih2 _ _ _ _ _)
      | (with_reducible exact LeO.refl _)
      | (with_reducible exact LeO.none _)
      | (with_reducible refine LeO.ite ?_ ?_)
      | (with_reducible refine LeO.bind ?_ (fun _ => ?_))
      | exact ih0 _ _ _ _
      | exact ih1 _ _ _ _
      | exact ih2 _ _ _ _ _
      | exact LeO.none _
      | refine LeO.ite ?_ ?_
      | refine LeO.bind ?_ (fun _ => ?_)
theorem fastfloat_ParseUint64.mono : ∀ a0 k, LeO (fastfloat_ParseUint64.f k a0) (fastfloat_ParseUint64.f (k + 1) a0) := by
  intro a0 k
  obtain ⟨ih0, ih1, ih2⟩ := fastfloat_ParseUint64.mono_l k
  unfold fastfloat_ParseUint64.f
  repeat' first
      | (with_reducible exact ih0 _ _ _ _)
      | (with_reducible exact ih1 _ _ _ _)
      | (with_reducible exact ih2 _ _ _ _ _)
      | (with_reducible exact LeO.refl _)
      | (with_reducible exact LeO.none _)
      | (with_reducible refine LeO.ite ?_ ?_)
      | (with_reducible refine LeO.bind ?_ (fun _ => ?_))
      | exact ih0 _ _ _ _
      | exact ih1 _ _ _ _
      | exact ih2 _ _ _ _ _
      | exact LeO.none _
      | refine LeO.ite ?_ ?_
      | refine LeO.bind ?_ (fun _ => ?_)
set_option maxHeartbeats 8000000 in
set_option maxRecDepth 100000 in
theorem fastfloat_ParseUint64.calls (k : Nat) (a0 : ByteArray) (r1 : Int) (r2 : Option Int) (w : World) (hG : Laid w) (h : fastfloat_ParseUint64.f k a0 = some (r1, r2)) :
    Calls Tryd.prog 30 #[.string a0] w fun e w' => ∃ z_r2 : Option Int, Zk z_r2 r2 ∧ e = .returned (.tuple #[.int .u64 r1, errW z_r2]) ∧ Below w.heap.size w w' := by
  have HG := Aside0.mk hG
  clear hG
  have hu55 := Tryd.underlying55
  have hu148 := Tryd.underlying148
  have HB := Aside0.mk (Below.refl w.heap.size w)
  have H : (if (a0.size : Int) = 0 then ((errors_New.f (⟨#[99, 97, 110, 110, 111, 116, 32, 112, 97, 114, 115, 101, 32, 117, 105, 110, 116, 54, 52, 32, 102, 114, 111, 109, 32, 101, 109, 112, 116, 121, 32, 115, 116, 114, 105, 110, 103]⟩ : ByteArray)).bind fun t101 => (some (0, t101))) else (fastfloat_ParseUint64.l0 k a0 0 0 0)) = some (r1, r2) := h
  clear h
  by_cases c2 : (a0.size : Int) = 0
  · rw [if_pos c2] at H
    have c2b0 : ((a0.size : Int) == 0) = true := beq_iff_eq.mpr c2
    have c2b1 : ((a0.size : Int) != 0) = false := bne_eq_false_iff_eq.mpr c2
    clear c2
    replace H := Option.bind_eq_some_iff.mp H
    obtain ⟨t101, A30, H⟩ := H
    replace H : (some (0, t101)) = some (r1, r2) := H
    have A3 := Aside0.mk A30
    clear A30
    simp only [Option.some.injEq, Prod.mk.injEq] at H
    obtain ⟨rfl, rfl⟩ := H
    go_enter Tryd.func30, Tryd.ntmps30
    go_wp2_with (first | ((with_reducible refine gate_callee (f := 54) rfl ?_); refine goesL_ (some 12) rfl rfl Tryd.func54 (by kernel_rfl) rfl #[.string (⟨#[99, 97, 110, 110, 111, 116, 32, 112, 97, 114, 115, 101, 32, 117, 105, 110, 116, 54, 52, 32, 102, 114, 111, 109, 32, 101, 109, 112, 116, 121, 32, 115, 116, 114, 105, 110, 103]⟩ : ByteArray)] rfl (by (try simp only [List.map_toArray, List.map_cons, List.map_nil]); first | done | rfl | (simp only [List.length_drop, List.length_take]; rfl)) ?_; (with_reducible refine (errors_New.calls (⟨#[99, 97, 110, 110, 111, 116, 32, 112, 97, 114, 115, 101, 32, 117, 105, 110, 116, 54, 52, 32, 102, 114, 111, 109, 32, 101, 109, 112, 116, 121, 32, 115, 116, 114, 105, 110, 103]⟩ : ByteArray) t101 _ A3.out).mono ?_); rintro e w4 ⟨z_t101, hz_t101, rfl, hb⟩; have Hz_t101 := Aside0.mk hz_t101; clear hz_t101; refine ⟨_, rfl, ?_⟩; have n0_ := Aside0.mk (below_step (by repeat (first | (with_reducible first | exact HB.out | apply below_alloc | apply pw_below_drewN | apply below_drew1) | exact HB.out)) hb); clear HB; have HB := n0_; clear n0_; (try clear hb); (try clear hb2); (try clear hk); (try clear hi); (try simp only [errW_none, errW_some])))
    go_ret2
    exact ⟨z_t101, Hz_t101.out, by first | rfl | (simp [errW_none, errW_some] <;> rfl) | (simp [*, errW_none, errW_some] <;> rfl), by repeat (first | (with_reducible first | exact HB.out | apply below_alloc | apply pw_below_drewN | apply below_drew1) | exact HB.out)⟩
  · rw [if_neg c2] at H
    have c2b0 : ((a0.size : Int) == 0) = false := beq_eq_false_iff_ne.mpr c2
    have c2b1 : ((a0.size : Int) != 0) = true := bne_iff_ne.mpr c2
    have HC5 := Aside0.mk H
    clear H
    go_enter Tryd.func30, Tryd.ntmps30
    go_upto_block 0 with (fail)
    go_cut [4, 5] (fun v4 v5 wc => ∃ (kq : Nat) (x4_4 : Int) (x5_4 : Int), v4 = .int .u64 x4_4 ∧ v5 = .int .u64 x5_4 ∧ Aside0 (fastfloat_ParseUint64.j2 kq a0 x4_4 x5_4 0 = some (r1, r2)) ∧ Aside0 (kq ≤ k) ∧ Aside0 (Below w.heap.size w wc))
    case first =>
      have H := HC5.out
      clear HC5
      have H' := Aside0.mk H
      clear H
      go_wp2
      go_loopg [4, 5] k (fun kq v4 v5 w' => ∃ (x4_1 : Int) (x5_1 : Int), v4 = .int .u64 x4_1 ∧ v5 = .int .u64 x5_1 ∧ Aside0 (fastfloat_ParseUint64.l0 kq a0 x4_1 x5_1 0 = some (r1, r2)) ∧ Aside0 (kq ≤ k) ∧ Aside0 (Below w.heap.size w w'))
      case atStart => exact ⟨(0), (0), (by first | rfl | (simp; done) | (simp [*]; done)), (by first | rfl | (simp; done) | (simp [*]; done)), H', ⟨Nat.le_refl _⟩, ⟨by repeat (first | (with_reducible first | exact HB.out | apply below_alloc | apply pw_below_drewN | apply below_drew1) | exact HB.out)⟩⟩
      case round =>
        clear H'
        try clear c2
        try clear c2b0
        try clear c2b1
        try clear p2
        try clear c3
        try clear c5
        obtain ⟨x4_1, x5_1, rfl, rfl, HA, HK1, HB⟩ := hrel
        cases gk with
        | zero => exact absurd HA.out (by simp [fastfloat_ParseUint64.l0])
        | succ k1 =>
          have H := HA.out
          clear HA
          simp only [fastfloat_ParseUint64.l0] at H
          by_cases c6 : x4_1 < (IntKind.u64.wrap ((a0.size : Int)))
          · rw [if_pos c6] at H
            have c6b0 : decide (x4_1 < (IntKind.u64.wrap ((a0.size : Int)))) = true := decide_eq_true c6
            clear c6
            (first | rw [c6b0] | (simp only [i64_w, i32_w]; rw [c6b0]) | skip)
            have HC7 := Aside0.mk H
            clear H
            go_upto_region 7 with (fail)
            go_cut [28] (fun v28 wc => ∃ (kq : Nat) (x28_6 : Bool), v28 = .bool x28_6 ∧ Aside0 (fastfloat_ParseUint64.j1 kq a0 x4_1 x5_1 0 x28_6 = some (r1, r2)) ∧ Aside0 (kq ≤ k1) ∧ Aside0 (Below w.heap.size w wc))
            case first =>
              have H := HC7.out
              clear HC7
              by_cases c8 : 0 ≤ x4_1
              · rw [if_pos c8] at H
                have c8b0 : decide (0 ≤ x4_1) = true := decide_eq_true c8
                clear c8
                (first | rw [c8b0] | (simp only [i64_w, i32_w]; rw [c8b0]) | skip)
                by_cases c9 : x4_1 < (a0.size : Int)
                · rw [if_pos c9] at H
                  have c9b0 : decide (x4_1 < (a0.size : Int)) = true := decide_eq_true c9
                  clear c9
                  by_cases c11 : (bt a0 x4_1) ≥ 48
                  · rw [if_pos c11] at H
                    have c11b0 : decide (48 ≤ (bt a0 x4_1)) = true := decide_eq_true c11
                    clear c11
                    have H' := Aside0.mk H
                    clear H
                    have p10 : 0 ≤ (x4_1 : Int) := of_decide_eq_true (by first | (with_reducible assumption) | assumption)
                    have q10 : x4_1 < (a0.size : Int) := of_decide_eq_true (by first | (with_reducible assumption) | assumption)
                    have hx10 := bt_at a0 x4_1
                    replace p10 := eq_true p10
                    replace q10 := eq_true q10
                    have p12 : 0 ≤ (x4_1 : Int) := of_decide_eq_true (by first | (with_reducible assumption) | assumption)
                    have q12 : x4_1 < (a0.size : Int) := of_decide_eq_true (by first | (with_reducible assumption) | assumption)
                    have hx12 := bt_at a0 x4_1
                    replace p12 := eq_true p12
                    replace q12 := eq_true q12
                    go_wp2
                    go_meet
                    case rel => exact ⟨_, (decide ((bt a0 x4_1) ≤ 57)), (by first | rfl | (simp; done) | (simp [*]; done)), H', ⟨by have := HK1.out; first | omega | exact Nat.le_refl _⟩, ⟨by repeat (first | (with_reducible first | exact HB.out | apply below_alloc | apply pw_below_drewN | apply below_drew1) | exact HB.out)⟩⟩
                  · rw [if_neg c11] at H
                    have c11b0 : decide (48 ≤ (bt a0 x4_1)) = false := decide_eq_false c11
                    clear c11
                    have H' := Aside0.mk H
                    clear H
                    have p10 : 0 ≤ (x4_1 : Int) := of_decide_eq_true (by first | (with_reducible assumption) | assumption)
                    have q10 : x4_1 < (a0.size : Int) := of_decide_eq_true (by first | (with_reducible assumption) | assumption)
                    have hx10 := bt_at a0 x4_1
                    replace p10 := eq_true p10
                    replace q10 := eq_true q10
                    go_wp2
                    go_meet
                    case rel => exact ⟨_, (false), (by first | rfl | (simp; done) | (simp [*]; done)), H', ⟨by have := HK1.out; first | omega | exact Nat.le_refl _⟩, ⟨by repeat (first | (with_reducible first | exact HB.out | apply below_alloc | apply pw_below_drewN | apply below_drew1) | exact HB.out)⟩⟩
                · rw [if_neg c9] at H
                  exact absurd H (by simp)
              · rw [if_neg c8] at H
                exact absurd H (by simp)
            case rest =>
              clear HC7
              try clear c1
              try clear p1
              try clear q1
              try clear hx1
              try clear c2
              try clear c2b0
              try clear c2b1
              try clear p2
              try clear c3
              try clear c5
              try clear c6
              try clear c6b0
              try clear c8
              try clear c8b0
              try clear c9
              try clear c9b0
              try clear p10
              try clear q10
              try clear hx10
              try clear c11
              try clear c11b0
              try clear p12
              try clear q12
              try clear hx12
              try clear p10
              try clear p12
              try clear p2
              try clear q10
              try clear q12
              obtain ⟨kq, x28_6, rfl, HA, HJ6, HB⟩ := hcut
              cases kq with
              | zero => exact absurd HA.out (by simp [fastfloat_ParseUint64.j1])
              | succ kj6 =>
                have H := HA.out
                clear HA
                simp only [fastfloat_ParseUint64.j1] at H
                by_cases c13 : x28_6 = true
                · subst c13
                  have H1 : (if 0 ≤ x4_1 then (if x4_1 < (a0.size : Int) then (if (IntKind.u64.wrap (x4_1 + 1)) > 18 then ((strconv_ParseUint_55.f a0 10 64).bind fun bt102 => (if bt102.2.isNone = true then (some (bt102.1, none)) else (some (0, some (bt102.2.getD 0))))) else (fastfloat_ParseUint64.l0 kj6 a0 (IntKind.u64.wrap (x4_1 + 1)) (IntKind.u64.wrap ((IntKind.u64.wrap (x5_1 * 10)) + (((bt a0 x4_1) - 48) % 256))) 0)) else (none)) else (none)) = some (r1, r2) := by rw [if_pos rfl] at H; exact H
                  clear H
                  have H := H1
                  clear H1
                  by_cases c14 : 0 ≤ x4_1
                  · rw [if_pos c14] at H
                    have c14b0 : decide (0 ≤ x4_1) = true := decide_eq_true c14
                    clear c14
                    by_cases c15 : x4_1 < (a0.size : Int)
                    · rw [if_pos c15] at H
                      have c15b0 : decide (x4_1 < (a0.size : Int)) = true := decide_eq_true c15
                      clear c15
                      by_cases c17 : (IntKind.u64.wrap (x4_1 + 1)) > 18
                      · rw [if_pos c17] at H
                        have c17b0 : decide (18 < (IntKind.u64.wrap (x4_1 + 1))) = true := decide_eq_true c17
                        clear c17
                        replace H := Option.bind_eq_some_iff.mp H
                        obtain ⟨⟨t102, t103⟩, A180, H⟩ := H
                        replace H : (if t103.isNone = true then (some (t102, none)) else (some (0, some (t103.getD 0)))) = some (r1, r2) := H
                        have A18 := Aside0.mk A180
                        clear A180
                        rcases t103 with _ | q104
                        · have H1 : (some (t102, none)) = some (r1, r2) := by rw [if_pos (show (none : Option Int).isNone = true by rfl)] at H; exact H
                          clear H
                          have H := H1
                          clear H1
                          (try (obtain rfl := Zk.none_ Hz_t103.out))
                          try simp only [errW_none, errW_some]
                          simp only [Option.some.injEq, Prod.mk.injEq] at H
                          obtain ⟨rfl, rfl⟩ := H
                          have p16 : 0 ≤ (x4_1 : Int) := of_decide_eq_true (by first | (with_reducible assumption) | assumption)
                          have q16 : x4_1 < (a0.size : Int) := of_decide_eq_true (by first | (with_reducible assumption) | assumption)
                          have hx16 := bt_at a0 x4_1
                          replace p16 := eq_true p16
                          replace q16 := eq_true q16
                          go_wp2_with (first | ((with_reducible refine gate_callee (f := 55) rfl ?_); refine goesL_ (some 43) rfl rfl Tryd.func55 (by kernel_rfl) rfl #[.string a0, .int .i64 10, .int .i64 64] rfl (by (try simp only [List.map_toArray, List.map_cons, List.map_nil]); first | done | rfl | (simp only [List.length_drop, List.length_take]; rfl)) ?_; (with_reducible refine (strconv_ParseUint_55.calls a0 10 64 t102 none _ ?side1 A18.out).mono ?_); (case side1 => first | exact HG.out | exact Laid.below HG.out (by repeat (first | (with_reducible first | exact HB.out | apply below_alloc | apply pw_below_drewN | apply below_drew1) | exact HB.out))); rintro e w19 ⟨zn1_, hzn1_, rfl, hb⟩; obtain rfl := Zk.none_ hzn1_; refine ⟨_, rfl, ?_⟩; have n0_ := Aside0.mk (below_step (by repeat (first | (with_reducible first | exact HB.out | apply below_alloc | apply pw_below_drewN | apply below_drew1) | exact HB.out)) hb); clear HB; have HB := n0_; clear n0_; (try clear hb); (try clear hb2); (try clear hk); (try clear hi); (try simp only [errW_none, errW_some])))
                          go_ret2
                          exact ⟨none, Zk.nn, by first | rfl | (simp [errW_none, errW_some] <;> rfl) | (simp [*, errW_none, errW_some] <;> rfl), by repeat (first | (with_reducible first | exact HB.out | apply below_alloc | apply pw_below_drewN | apply below_drew1) | exact HB.out)⟩
                        · have H1 : (some (0, some q104)) = some (r1, r2) := by rw [if_neg (show ¬ (some q104).isNone = true by simp)] at H; exact H
                          clear H
                          have H := H1
                          clear H1
                          (try (obtain ⟨m_q104, rfl⟩ := Zk.some_ Hz_t103.out))
                          try simp only [errW_none, errW_some]
                          simp only [Option.some.injEq, Prod.mk.injEq] at H
                          obtain ⟨rfl, rfl⟩ := H
                          have p16 : 0 ≤ (x4_1 : Int) := of_decide_eq_true (by first | (with_reducible assumption) | assumption)
                          have q16 : x4_1 < (a0.size : Int) := of_decide_eq_true (by first | (with_reducible assumption) | assumption)
                          have hx16 := bt_at a0 x4_1
                          replace p16 := eq_true p16
                          replace q16 := eq_true q16
                          go_wp2_with (first | ((with_reducible refine gate_callee (f := 55) rfl ?_); refine goesL_ (some 43) rfl rfl Tryd.func55 (by kernel_rfl) rfl #[.string a0, .int .i64 10, .int .i64 64] rfl (by (try simp only [List.map_toArray, List.map_cons, List.map_nil]); first | done | rfl | (simp only [List.length_drop, List.length_take]; rfl)) ?_; (with_reducible refine (strconv_ParseUint_55.calls a0 10 64 t102 (some q104) _ ?side1 A18.out).mono ?_); (case side1 => first | exact HG.out | exact Laid.below HG.out (by repeat (first | (with_reducible first | exact HB.out | apply below_alloc | apply pw_below_drewN | apply below_drew1) | exact HB.out))); rintro e w20 ⟨zs1_, hzs1_, rfl, hb⟩; obtain ⟨m_q104, rfl⟩ := Zk.some_ hzs1_; refine ⟨_, rfl, ?_⟩; have n0_ := Aside0.mk (below_step (by repeat (first | (with_reducible first | exact HB.out | apply below_alloc | apply pw_below_drewN | apply below_drew1) | exact HB.out)) hb); clear HB; have HB := n0_; clear n0_; (try clear hb); (try clear hb2); (try clear hk); (try clear hi); (try simp only [errW_none, errW_some])))
                          go_ret2
                          exact ⟨some m_q104, Zk.ss, by first | rfl | (simp [errW_none, errW_some] <;> rfl) | (simp [*, errW_none, errW_some] <;> rfl), by repeat (first | (with_reducible first | exact HB.out | apply below_alloc | apply pw_below_drewN | apply below_drew1) | exact HB.out)⟩
                      · rw [if_neg c17] at H
                        have c17b0 : decide (18 < (IntKind.u64.wrap (x4_1 + 1))) = false := decide_eq_false c17
                        clear c17
                        have H' := Aside0.mk H
                        clear H
                        have p16 : 0 ≤ (x4_1 : Int) := of_decide_eq_true (by first | (with_reducible assumption) | assumption)
                        have q16 : x4_1 < (a0.size : Int) := of_decide_eq_true (by first | (with_reducible assumption) | assumption)
                        have hx16 := bt_at a0 x4_1
                        replace p16 := eq_true p16
                        replace q16 := eq_true q16
                        go_wp2
                        go_roundg kj6
                        case measure => have := HK1.out; have := HJ6.out; omega
                        case rel => exact ⟨(IntKind.u64.wrap (x4_1 + 1)), (IntKind.u64.wrap ((IntKind.u64.wrap (x5_1 * 10)) + (((bt a0 x4_1) - 48) % 256))), (by first | rfl | (simp; done) | (simp [*]; done)), (by first | rfl | (simp; done) | (simp [*]; done)), H', ⟨by have := HK1.out; have := HJ6.out; omega⟩, ⟨by repeat (first | (with_reducible first | exact HB.out | apply below_alloc | apply pw_below_drewN | apply below_drew1) | exact HB.out)⟩⟩
                    · rw [if_neg c15] at H
                      exact absurd H (by simp)
                  · rw [if_neg c14] at H
                    exact absurd H (by simp)
                · replace c13 := Bool.eq_false_iff.mpr c13
                  subst c13
                  have H1 : (fastfloat_ParseUint64.j2 kj6 a0 x4_1 x5_1 0) = some (r1, r2) := by rw [if_neg (show ¬ (false = true) by decide)] at H; exact H
                  clear H
                  have H := H1
                  clear H1
                  have H' := Aside0.mk H
                  clear H
                  go_wp2
                  go_meet
                  case rel => exact ⟨_, (x4_1), (x5_1), (by first | rfl | (simp; done) | (simp [*]; done)), (by first | rfl | (simp; done) | (simp [*]; done)), H', ⟨by have := HK1.out; have := HJ6.out; first | omega | exact Nat.le_refl _⟩, ⟨by repeat (first | (with_reducible first | exact HB.out | apply below_alloc | apply pw_below_drewN | apply below_drew1) | exact HB.out)⟩⟩
          · rw [if_neg c6] at H
            have c6b0 : decide (x4_1 < (IntKind.u64.wrap ((a0.size : Int)))) = false := decide_eq_false c6
            clear c6
            (first | rw [c6b0] | (simp only [i64_w, i32_w]; rw [c6b0]) | skip)
            have H' := Aside0.mk H
            clear H
            go_wp2
            go_meet
            case rel => exact ⟨_, (x4_1), (x5_1), (by first | rfl | (simp; done) | (simp [*]; done)), (by first | rfl | (simp; done) | (simp [*]; done)), H', ⟨by have := HK1.out; first | omega | exact Nat.le_refl _⟩, ⟨by repeat (first | (with_reducible first | exact HB.out | apply below_alloc | apply pw_below_drewN | apply below_drew1) | exact HB.out)⟩⟩
    case rest =>
      clear HC5
      try clear c1
      try clear p1
      try clear q1
      try clear hx1
      try clear c2
      try clear c2b0
      try clear c2b1
      try clear p2
      try clear c3
      try clear c5
      try clear c6
      try clear c6b0
      try clear c8
      try clear c8b0
      try clear c9
      try clear c9b0
      try clear p10
      try clear q10
      try clear hx10
      try clear c11
      try clear c11b0
      try clear p12
      try clear q12
      try clear hx12
      try clear c13
      try clear c14
      try clear c14b0
      try clear c15
      try clear c15b0
      try clear p16
      try clear q16
      try clear hx16
      try clear c17
      try clear c17b0
      try clear p1
      try clear p10
      try clear p12
      try clear p16
      try clear p2
      try clear q1
      try clear q10
      try clear q104
      try clear q12
      try clear q16
      obtain ⟨kq, x4_4, x5_4, rfl, rfl, HA, HJ4, HB⟩ := hcut
      cases kq with
      | zero => exact absurd HA.out (by simp [fastfloat_ParseUint64.j2])
      | succ kj4 =>
        have H := HA.out
        clear HA
        simp only [fastfloat_ParseUint64.j2] at H
        by_cases c21 : x4_4 ≤ 0
        · rw [if_pos c21] at H
          have c21b0 : decide (x4_4 ≤ 0) = true := decide_eq_true c21
          clear c21
          replace H := Option.bind_eq_some_iff.mp H
          obtain ⟨t105, A220, H⟩ := H
          replace H : (some (0, t105)) = some (r1, r2) := H
          have A22 := Aside0.mk A220
          clear A220
          simp only [Option.some.injEq, Prod.mk.injEq] at H
          obtain ⟨rfl, rfl⟩ := H
          go_wp2_with (first | ((with_reducible refine gate_callee (f := 54) rfl ?_); refine goesL_ (some 53) rfl rfl Tryd.func54 (by kernel_rfl) rfl #[.string (⟨#[99, 97, 110, 110, 111, 116, 32, 112, 97, 114, 115, 101, 32, 117, 105, 110, 116, 54, 52, 32, 102, 114, 111, 109]⟩ : ByteArray)] rfl (by (try simp only [List.map_toArray, List.map_cons, List.map_nil]); first | done | rfl | (simp only [List.length_drop, List.length_take]; rfl)) ?_; (with_reducible refine (errors_New.calls (⟨#[99, 97, 110, 110, 111, 116, 32, 112, 97, 114, 115, 101, 32, 117, 105, 110, 116, 54, 52, 32, 102, 114, 111, 109]⟩ : ByteArray) t105 _ A22.out).mono ?_); rintro e w23 ⟨z_t105, hz_t105, rfl, hb⟩; have Hz_t105 := Aside0.mk hz_t105; clear hz_t105; refine ⟨_, rfl, ?_⟩; have n0_ := Aside0.mk (below_step (by repeat (first | (with_reducible first | exact HB.out | apply below_alloc | apply pw_below_drewN | apply below_drew1) | exact HB.out)) hb); clear HB; have HB := n0_; clear n0_; (try clear hb); (try clear hb2); (try clear hk); (try clear hi); (try simp only [errW_none, errW_some])))
          go_ret2
          exact ⟨z_t105, Hz_t105.out, by first | rfl | (simp [errW_none, errW_some] <;> rfl) | (simp [*, errW_none, errW_some] <;> rfl), by repeat (first | (with_reducible first | exact HB.out | apply below_alloc | apply pw_below_drewN | apply below_drew1) | exact HB.out)⟩
        · rw [if_neg c21] at H
          have c21b0 : decide (x4_4 ≤ 0) = false := decide_eq_false c21
          clear c21
          by_cases c24 : x4_4 < (IntKind.u64.wrap ((a0.size : Int)))
          · rw [if_pos c24] at H
            have c24b0 : decide (x4_4 < (IntKind.u64.wrap ((a0.size : Int)))) = true := decide_eq_true c24
            clear c24
            replace H := Option.bind_eq_some_iff.mp H
            obtain ⟨t106, A250, H⟩ := H
            replace H : (some (0, t106)) = some (r1, r2) := H
            have A25 := Aside0.mk A250
            clear A250
            simp only [Option.some.injEq, Prod.mk.injEq] at H
            obtain ⟨rfl, rfl⟩ := H
            go_wp2_with (first | ((with_reducible refine gate_callee (f := 54) rfl ?_); refine goesL_ (some 59) rfl rfl Tryd.func54 (by kernel_rfl) rfl #[.string (⟨#[117, 110, 112, 97, 114, 115, 101, 100, 32, 116, 97, 105, 108, 32, 108, 101, 102, 116, 32, 97, 102, 116, 101, 114, 32, 112, 97, 114, 115, 105, 110, 103, 32, 117, 105, 110, 116, 54, 52, 32, 102, 114, 111, 109]⟩ : ByteArray)] rfl (by (try simp only [List.map_toArray, List.map_cons, List.map_nil]); first | done | rfl | (simp only [List.length_drop, List.length_take]; rfl)) ?_; (with_reducible refine (errors_New.calls (⟨#[117, 110, 112, 97, 114, 115, 101, 100, 32, 116, 97, 105, 108, 32, 108, 101, 102, 116, 32, 97, 102, 116, 101, 114, 32, 112, 97, 114, 115, 105, 110, 103, 32, 117, 105, 110, 116, 54, 52, 32, 102, 114, 111, 109]⟩ : ByteArray) t106 _ A25.out).mono ?_); rintro e w26 ⟨z_t106, hz_t106, rfl, hb⟩; have Hz_t106 := Aside0.mk hz_t106; clear hz_t106; refine ⟨_, rfl, ?_⟩; have n0_ := Aside0.mk (below_step (by repeat (first | (with_reducible first | exact HB.out | apply below_alloc | apply pw_below_drewN | apply below_drew1) | exact HB.out)) hb); clear HB; have HB := n0_; clear n0_; (try clear hb); (try clear hb2); (try clear hk); (try clear hi); (try simp only [errW_none, errW_some])))
            go_ret2
            exact ⟨z_t106, Hz_t106.out, by first | rfl | (simp [errW_none, errW_some] <;> rfl) | (simp [*, errW_none, errW_some] <;> rfl), by repeat (first | (with_reducible first | exact HB.out | apply below_alloc | apply pw_below_drewN | apply below_drew1) | exact HB.out)⟩
          · rw [if_neg c24] at H
            have c24b0 : decide (x4_4 < (IntKind.u64.wrap ((a0.size : Int)))) = false := decide_eq_false c24
            clear c24
            simp only [Option.some.injEq, Prod.mk.injEq] at H
            obtain ⟨rfl, rfl⟩ := H
            go_wp2
            go_ret2
            exact ⟨none, Zk.nn, by first | rfl | (simp [errW_none, errW_some] <;> rfl) | (simp [*, errW_none, errW_some] <;> rfl), by repeat (first | (with_reducible first | exact HB.out | apply below_alloc | apply pw_below_drewN | apply below_drew1) | exact HB.out)⟩

end Go.Proofs.YtlokkefnbffjnaaDoor.U
