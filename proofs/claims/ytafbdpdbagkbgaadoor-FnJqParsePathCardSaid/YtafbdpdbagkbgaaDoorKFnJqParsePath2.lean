/- The words, walks and laws that the proof rests on, laid together (part 2). -/
import Derived.Test.YtafbdpdbagkbgaaDoorKFnJqParsePath1
section
namespace Go.Proofs.YtafbdpdbagkbgaaDoor.Q
open Go.RowKit Go.Proofs.YtafbdpdbagkbgaaDoorW.PrintWords Go.Proofs.YtafbdpdbagkbgaaDoorW.PrintLast Go.Proofs.YtafbdpdbagkbgaaDoorW.PrintMore
attribute [local go_sem] max2_int min2_int max_two min_two max_three min_three max_four min_four
set_option linter.unusedVariables false
set_option linter.unusedSimpArgs false
def spec_Unquote.l0 : Nat → List Int → ByteArray → Int → Option (ByteArray)
  | 0, _, _, _ => none
  | k + 1, x3, x4, x5 => if x5 < (x4.size : Int) then (if 0 ≤ x5 then (if (bt x4 x5) = 92 then ((spec_unit.f k x4 x5).bind fun bt104 => (if bt104.2 = true then ((spec_unit.f k x4 (wrap64 (x5 + 6))).bind fun bt110 => (if bt110.2 = true then ((spec_high.f bt104.1).bind fun t112 => (if t112 = true then ((spec_low.f bt110.1).bind fun t113 => (if t113 = true then ((spec_appendUTF8.f k x3 (wrap64 ((wrap64 (65536 + (wrap64 ((wrap64 (bt104.1 - 55296)) * 1024)))) + (wrap64 (bt110.1 - 56320))))).bind fun t114 => (spec_Unquote.l0 k t114 x4 (wrap64 ((wrap64 (x5 + 6)) + 6)))) else ((spec_appendUTF8.f k x3 bt104.1).bind fun t117 => (spec_Unquote.l0 k t117 x4 (wrap64 (x5 + 6)))))) else ((spec_appendUTF8.f k x3 bt104.1).bind fun t120 => (spec_Unquote.l0 k t120 x4 (wrap64 (x5 + 6)))))) else ((spec_appendUTF8.f k x3 bt104.1).bind fun t123 => (spec_Unquote.l0 k t123 x4 (wrap64 (x5 + 6)))))) else (if 0 ≤ (wrap64 (x5 + 1)) then (if (wrap64 (x5 + 1)) < (x4.size : Int) then ((spec_short.f (bt x4 (wrap64 (x5 + 1)))).bind fun t106 => (if x3.length < 140737488355328 then (spec_Unquote.l0 k (x3 ++ [t106]) x4 (wrap64 (x5 + 2))) else (none))) else (none)) else (none)))) else (if x3.length < 140737488355328 then (spec_Unquote.l0 k (x3 ++ [bt x4 x5]) x4 (wrap64 (x5 + 1))) else (none))) else (none)) else (some (strOfNums x3))
def spec_Unquote.f (k : Nat) (a0 : ByteArray) : Option (ByteArray) := if 1 ≤ (wrap64 ((a0.size : Int) - 1)) then (if (wrap64 ((a0.size : Int) - 1)) ≤ (a0.size : Int) then (spec_Unquote.l0 k ([] : List Int) (a0.extract 1 ((wrap64 ((a0.size : Int) - 1)) : Int).toNat) 0) else (none)) else (none)
theorem spec_Unquote.mono_l : ∀ k, (∀ y0 y1 y2, LeO (spec_Unquote.l0 k y0 y1 y2) (spec_Unquote.l0 (k + 1) y0 y1 y2))
 | 0 => fun _ _ _ r h => by simp [spec_Unquote.l0] at h
 | k + 1 => by
  have ih0 := spec_Unquote.mono_l k
  ·intro y0 y1 y2
   unfold spec_Unquote.l0
   repeat' first
   | (with_reducible exact ih0 _ _ _)
   | (with_reducible exact spec_appendUTF8.mono _ _ _)
   | (with_reducible exact spec_unit.mono _ _ _)
   | (with_reducible exact LeO.refl _)
   | (with_reducible exact LeO.none _)
   | (with_reducible refine LeO.ite ?_ ?_)
   | (with_reducible refine LeO.bind ?_ (fun _ => ?_))
   | exact ih0 _ _ _
   | exact spec_appendUTF8.mono _ _ _
   | exact spec_unit.mono _ _ _
   | exact LeO.none _
   | refine LeO.ite ?_ ?_
   | refine LeO.bind ?_ (fun _ => ?_)
theorem spec_Unquote.mono : ∀ a0 k, LeO (spec_Unquote.f k a0) (spec_Unquote.f (k + 1) a0) := by
 intro a0 k
 have ih0 := spec_Unquote.mono_l k
 unfold spec_Unquote.f
 repeat' first
  | (with_reducible exact ih0 _ _ _)
  | (with_reducible exact spec_appendUTF8.mono _ _ _)
  | (with_reducible exact spec_unit.mono _ _ _)
  | (with_reducible exact LeO.refl _)
  | (with_reducible exact LeO.none _)
  | (with_reducible refine LeO.ite ?_ ?_)
  | (with_reducible refine LeO.bind ?_ (fun _ => ?_))
  | exact ih0 _ _ _
  | exact spec_appendUTF8.mono _ _ _
  | exact spec_unit.mono _ _ _
  | exact LeO.none _
  | refine LeO.ite ?_ ?_
  | refine LeO.bind ?_ (fun _ => ?_)
set_option maxHeartbeats 8000000 in
set_option maxRecDepth 100000 in
theorem spec_Unquote.calls (k : Nat) (a0 : ByteArray) (r : ByteArray) (w : World) (h : spec_Unquote.f k a0 = some r) :
 Calls Tryd.prog 40 #[.string a0] w fun e w' => e = .returned (.string r) ∧ Below w.heap.size w w' := by
 have HB := mk0 (Below.refl w.heap.size w)
 have H : (if 1 ≤ (wrap64 ((a0.size : Int) - 1)) then (if (wrap64 ((a0.size : Int) - 1)) ≤ (a0.size : Int) then (spec_Unquote.l0 k ([] : List Int) (a0.extract 1 ((wrap64 ((a0.size : Int) - 1)) : Int).toNat) 0) else (none)) else (none)) = some r := h
 clear h
 by_cases c2 : 1 ≤ (wrap64 ((a0.size : Int) - 1))
 rotate_left
 ·rw [if_neg c2] at H
  exact absurd H (by simp)
 rw [if_pos c2] at H
 have c2b0 := eq_true c2
 have c2b1 : decide (1 ≤ (wrap64 ((a0.size : Int) - 1))) = true := decide_eq_true c2
 clear c2
 by_cases c3 : (wrap64 ((a0.size : Int) - 1)) ≤ (a0.size : Int)
 rotate_left
 ·rw [if_neg c3] at H
  exact absurd H (by simp)
 rw [if_pos c3] at H
 have c3b0 := eq_true c3
 have c3b1 : decide ((wrap64 ((a0.size : Int) - 1)) ≤ (a0.size : Int)) = true := decide_eq_true c3
 clear c3
 have H' := mk0 H
 clear H
 go_enter Tryd.func40, Tryd.ntmps40
 go_wp2
 generalize (a0.extract 1 ((wrap64 ((a0.size : Int) - 1)) : Int).toNat) = X_1 at *
 go_loopg [3, 5] k (fun kq v3 v5 w' => ∃ (x3_1 : List Int) (x5_1 : Int), v5 = .int .i64 x5_1 ∧ Aside0 (spec_Unquote.l0 kq x3_1 X_1 x5_1 = some r) ∧ Aside0 (kq ≤ k) ∧ Aside0 (Kd.R (Kd.int .u8) 5 w' w.heap.size (fun _ => True) v3 x3_1) ∧ Aside0 (Below w.heap.size w w'))
 case atStart => exact ⟨(([] : List Int)), (0), zq3, H', ⟨Nat.le_refl _⟩, ⟨by first | exact Kd.R_nil _ _ _ _ _ | exact Kd.N_nil _ _ _ _ _ | exact Kd.V_nil _ _ _ _ _ | exact Kd.Q_nil _ _ _ _ _ | exact Kd.S_nil _ _ _ _ _⟩, ⟨by repeat (first | (with_reducible first | exact HB.out | apply below_alloc | apply pw_below_drewN | apply below_drew1) | exact HB.out)⟩⟩
 case round =>
  clear H'
  try clear c2
  try clear c2b0
  try clear c2b1
  try clear p2
  try clear c3
  try clear c3b0
  try clear c3b1
  obtain ⟨x3_1, x5_1, rfl, HA, HK1, HO_3, HB⟩ := hrel
  cases gk with
  | zero => exact absurd HA.out (by simp [spec_Unquote.l0])
  | succ k1 =>
   have H := HA.out
   clear HA
   simp only [spec_Unquote.l0] at H
   by_cases c4 : x5_1 < (X_1.size : Int)
   rotate_left
   ·rw [if_neg c4] at H
    have c4b0 : decide (x5_1 < (X_1.size : Int)) = false := decide_eq_false c4
    clear c4
    obtain rfl := Option.some.inj H
    have hcv38 := own_string (P := Tryd.prog) Tryd.underlying59 Tryd.underlying5 Tryd.underlying9 (Kd.own_of_R HO_3.out)
    go_wp2
    go_ret
    exact ⟨by first | rfl | (simp [errW_none, errW_some] <;> rfl) | (simp [*, errW_none, errW_some] <;> rfl), by repeat (first | (with_reducible first | exact HB.out | apply below_alloc | apply pw_below_drewN | apply below_drew1) | exact HB.out)⟩
   rw [if_pos c4] at H
   have c4b0 : decide (x5_1 < (X_1.size : Int)) = true := decide_eq_true c4
   clear c4
   by_cases c5 : 0 ≤ x5_1
   rotate_left
   ·rw [if_neg c5] at H
    exact absurd H (by simp)
   rw [if_pos c5] at H
   have c5b0 : decide (0 ≤ x5_1) = true := decide_eq_true c5
   clear c5
   by_cases c7 : (bt X_1 x5_1) = 92
   rotate_left
   ·rw [if_neg c7] at H
    have c7b0 : ((bt X_1 x5_1) == 92) = false := beq_eq_false_iff_ne.mpr c7
    have c7b1 : ((bt X_1 x5_1) != 92) = true := bne_iff_ne.mpr c7
    by_cases c36 : x3_1.length < 140737488355328
    rotate_left
    ·rw [if_neg c36] at H
     exact absurd H (by simp)
    rw [if_pos c36] at H
    have LMc36 := mk0 c36
    clear c36
    obtain ⟨y101, hy101⟩ : ∃ y_ : List Int, y_ = (x3_1 ++ [bt X_1 x5_1]) := ⟨_, rfl⟩
    replace H : (spec_Unquote.l0 k1 y101 X_1 (wrap64 (x5_1 + 1))) = some r := by first | (rw [hy101]; with_reducible exact H) | (have H2_ := (Option.bind_some _ _).symm.trans H; rw [hy101]; with_reducible exact H2_) | (have H2_ := (Option.bind_some _ _).symm.trans H; with_reducible exact H2_) | with_reducible exact H | (rw [hy101]; exact H) | exact H
    have Ny101 := mk0 hy101
    clear hy101
    have H' := mk0 H
    clear H
    have p6 : 0 ≤ (x5_1 : Int) := of_decide_eq_true zq1
    have q6 : x5_1 < (X_1.size : Int) := of_decide_eq_true zq1
    have hx6 := bt_at X_1 x5_1
    replace p6 := eq_true p6
    replace q6 := eq_true q6
    have p35 : 0 ≤ (x5_1 : Int) := of_decide_eq_true zq1
    have q35 : x5_1 < (X_1.size : Int) := of_decide_eq_true zq1
    have hx35 := bt_at X_1 x5_1
    replace p35 := eq_true p35
    replace q35 := eq_true q35
    go_wp2_with (first | ((with_reducible refine gate_builtin (b := .append) (xs := #[.tmp 23, .tmp 27]) rfl ?_); at_builtin; refine Kd.R_append (Kd.int .u8) (w0 := w) w.heap.size rfl (.tmp 23) (.tmp 27) 59 5 (.int .u8 0) 1 rfl Tryd.underlying59 info5 rfl zq23 (by omega) u3 x3_1 (bt X_1 x5_1) [.int .u8 (bt X_1 x5_1)] (fun _ => True) (fun _ => False) rfl rfl ?aP (fun _ hk => hk.elim) ?aF ?aO ?aB ?aS ?aL ?_; (case aP => exact rfl); (case aB => exact zq0); (case aF => exact (fun _ _ => trivial)); (case aO => exact (by (with_reducible repeat (first | apply Kd.R_alloc | apply Kd.R_drewN | apply Kd.R_drew)); exact HO_3.out)); (case aS => exact (below_size zq0)); (case aL => have := LMc36.out; omega); intro v102 w37 ho hb hg hat; rw [← Ny101.out] at ho; have n0_ := mk0 (hb); have n1_ := mk0 (ho); clear HB HO_3; have HB := n0_; have HO103 := n1_; clear n0_ n1_; clear ho hb hg hat))
    go_roundg k1
    case measure => have := HK1.out; omega
    case rel => exact ⟨(y101), (wrap64 (x5_1 + 1)), zq3, H', ⟨by have := HK1.out; omega⟩, ⟨by (with_reducible repeat (first | apply Kd.R_alloc | apply Kd.R_drewN | apply Kd.R_drew)); exact HO103.out⟩, ⟨by repeat (first | (with_reducible first | exact HB.out | apply below_alloc | apply pw_below_drewN | apply below_drew1) | exact HB.out)⟩⟩
   rw [if_pos c7] at H
   have c7b0 : ((bt X_1 x5_1) == 92) = true := beq_iff_eq.mpr c7
   have c7b1 : ((bt X_1 x5_1) != 92) = false := bne_eq_false_iff_eq.mpr c7
   clear c7
   replace H := Option.bind_eq_some_iff.mp H
   obtain ⟨⟨t104, t105⟩, A80, H⟩ := H
   replace H : (if t105 = true then ((spec_unit.f k1 X_1 (wrap64 (x5_1 + 6))).bind fun bt110 => (if bt110.2 = true then ((spec_high.f t104).bind fun t112 => (if t112 = true then ((spec_low.f bt110.1).bind fun t113 => (if t113 = true then ((spec_appendUTF8.f k1 x3_1 (wrap64 ((wrap64 (65536 + (wrap64 ((wrap64 (t104 - 55296)) * 1024)))) + (wrap64 (bt110.1 - 56320))))).bind fun t114 => (spec_Unquote.l0 k1 t114 X_1 (wrap64 ((wrap64 (x5_1 + 6)) + 6)))) else ((spec_appendUTF8.f k1 x3_1 t104).bind fun t117 => (spec_Unquote.l0 k1 t117 X_1 (wrap64 (x5_1 + 6)))))) else ((spec_appendUTF8.f k1 x3_1 t104).bind fun t120 => (spec_Unquote.l0 k1 t120 X_1 (wrap64 (x5_1 + 6)))))) else ((spec_appendUTF8.f k1 x3_1 t104).bind fun t123 => (spec_Unquote.l0 k1 t123 X_1 (wrap64 (x5_1 + 6)))))) else (if 0 ≤ (wrap64 (x5_1 + 1)) then (if (wrap64 (x5_1 + 1)) < (X_1.size : Int) then ((spec_short.f (bt X_1 (wrap64 (x5_1 + 1)))).bind fun t106 => (if x3_1.length < 140737488355328 then (spec_Unquote.l0 k1 (x3_1 ++ [t106]) X_1 (wrap64 (x5_1 + 2))) else (none))) else (none)) else (none))) = some r := H
   have A8 := mk0 A80
   clear A80
   by_cases c9 : t105 = true
   rotate_left
   ·replace c9 := Bool.eq_false_iff.mpr c9
    subst c9
    have H1 : (if 0 ≤ (wrap64 (x5_1 + 1)) then (if (wrap64 (x5_1 + 1)) < (X_1.size : Int) then ((spec_short.f (bt X_1 (wrap64 (x5_1 + 1)))).bind fun t106 => (if x3_1.length < 140737488355328 then (spec_Unquote.l0 k1 (x3_1 ++ [t106]) X_1 (wrap64 (x5_1 + 2))) else (none))) else (none)) else (none)) = some r := by rw [if_neg (show ¬ (false = true) by decide)] at H; exact H
    clear H
    have H := H1
    clear H1
    obtain ⟨ji28, hji28⟩ : ∃ j_ : Int, (wrap64 (x5_1 + 1)) = j_ := ⟨_, rfl⟩
    replace H : (if 0 ≤ (ji28) then (if (ji28) < (X_1.size : Int) then ((spec_short.f (bt X_1 (ji28))).bind fun t106 => (if x3_1.length < 140737488355328 then (spec_Unquote.l0 k1 (x3_1 ++ [t106]) X_1 (wrap64 (x5_1 + 2))) else (none))) else (none)) else (none)) = some r := by first | (rw [hji28] at H; exact H) | (simp only [hji28] at H ⊢; exact H)
    (try rw [hji28] at A8)
    have hji28w : (IntKind.i64.wrap (x5_1 + 1)) = ji28 := (i64_w _).trans hji28
    by_cases c29 : 0 ≤ (ji28)
    rotate_left
    ·rw [if_neg c29] at H
     exact absurd H (by simp)
    rw [if_pos c29] at H
    have c29b0 : decide (0 ≤ (ji28)) = true := decide_eq_true c29
    clear c29
    by_cases c30 : (ji28) < (X_1.size : Int)
    rotate_left
    ·rw [if_neg c30] at H
     exact absurd H (by simp)
    rw [if_pos c30] at H
    have c30b0 : decide ((ji28) < (X_1.size : Int)) = true := decide_eq_true c30
    clear c30
    replace H := Option.bind_eq_some_iff.mp H
    obtain ⟨t106, A320, H⟩ := H
    replace H : (if x3_1.length < 140737488355328 then (spec_Unquote.l0 k1 (x3_1 ++ [t106]) X_1 (wrap64 (x5_1 + 2))) else (none)) = some r := H
    have A32 := mk0 A320
    clear A320
    by_cases c33 : x3_1.length < 140737488355328
    rotate_left
    ·rw [if_neg c33] at H
     exact absurd H (by simp)
    rw [if_pos c33] at H
    have LMc33 := mk0 c33
    clear c33
    obtain ⟨y107, hy107⟩ : ∃ y_ : List Int, y_ = (x3_1 ++ [t106]) := ⟨_, rfl⟩
    replace H : (spec_Unquote.l0 k1 y107 X_1 (wrap64 (x5_1 + 2))) = some r := by first | (rw [hy107]; with_reducible exact H) | (have H2_ := (Option.bind_some _ _).symm.trans H; rw [hy107]; with_reducible exact H2_) | (have H2_ := (Option.bind_some _ _).symm.trans H; with_reducible exact H2_) | with_reducible exact H | (rw [hy107]; exact H) | exact H
    have Ny107 := mk0 hy107
    clear hy107
    have H' := mk0 H
    clear H
    have p6 : 0 ≤ (x5_1 : Int) := of_decide_eq_true zq1
    have q6 : x5_1 < (X_1.size : Int) := of_decide_eq_true zq1
    have hx6 := bt_at X_1 x5_1
    replace p6 := eq_true p6
    replace q6 := eq_true q6
    go_wp2_with (first | ((with_reducible refine gate_callee (f := 68) rfl ?_); refine goesL_ (some 34) rfl rfl Tryd.func68 zq16 rfl #[.string X_1, .int .i64 x5_1] rfl zq2 ?_; (with_reducible refine (spec_unit.calls k1 X_1 x5_1 t104 false _ A8.out).mono ?_); rintro e w' ⟨rfl, ⟨nd, rfl⟩⟩; refine ⟨_, rfl, ?_⟩; have p31 : 0 ≤ ((ji28) : Int) := of_decide_eq_true zq1; have q31 : (ji28) < (X_1.size : Int) := of_decide_eq_true zq1; have hx31 := bt_at X_1 (ji28); replace p31 := eq_true p31; replace q31 := eq_true q31) | ((with_reducible refine gate_callee (f := 69) rfl ?_); refine goesL_ (some 44) rfl rfl Tryd.func69 zq16 rfl #[.int .u8 (bt X_1 (ji28))] rfl (by (try simp only [List.map_toArray, List.map_cons, List.map_nil]); first | done | (simp only [hji28]; rfl) | rfl | (simp only [List.length_drop, List.length_take]; rfl)) ?_; (with_reducible refine (spec_short.calls (bt X_1 (ji28)) t106 _ A32.out).mono ?_); rintro e w' ⟨rfl, ⟨nd, rfl⟩⟩; refine ⟨_, rfl, ?_⟩) | ((with_reducible refine gate_builtin (b := .append) (xs := #[.tmp 39, .tmp 45]) rfl ?_); at_builtin; refine Kd.R_append (Kd.int .u8) (w0 := w) w.heap.size rfl (.tmp 39) (.tmp 45) 59 5 (.int .u8 0) 1 rfl Tryd.underlying59 info5 rfl zq23 (by omega) u3 x3_1 t106 [.int .u8 t106] (fun _ => True) (fun _ => False) rfl rfl ?aP (fun _ hk => hk.elim) ?aF ?aO ?aB ?aS ?aL ?_; (case aP => exact rfl); (case aB => exact zq0); (case aF => exact (fun _ _ => trivial)); (case aO => exact (by (with_reducible repeat (first | apply Kd.R_alloc | apply Kd.R_drewN | apply Kd.R_drew)); exact HO_3.out)); (case aS => exact (below_size zq0)); (case aL => have := LMc33.out; omega); intro v108 w34 ho hb hg hat; rw [← Ny107.out] at ho; have n0_ := mk0 (hb); have n1_ := mk0 (ho); clear HB HO_3; have HB := n0_; have HO109 := n1_; clear n0_ n1_; clear ho hb hg hat))
    (try simp only [← hji28])
    go_roundg k1
    case measure => have := HK1.out; omega
    case rel => exact ⟨(y107), (wrap64 (x5_1 + 2)), (by first | with_reducible rfl | (simp only [← hji28]; done) | rfl | (simp; done) | (simp [*]; done)), (by first | exact H' | (simp only [← hji28] at H' ⊢; exact H')), ⟨by have := HK1.out; omega⟩, ⟨by (with_reducible repeat (first | apply Kd.R_alloc | apply Kd.R_drewN | apply Kd.R_drew)); exact HO109.out⟩, ⟨by repeat (first | (with_reducible first | exact HB.out | apply below_alloc | apply pw_below_drewN | apply below_drew1) | exact HB.out)⟩⟩
   subst c9
   have H1 : ((spec_unit.f k1 X_1 (wrap64 (x5_1 + 6))).bind fun bt110 => (if bt110.2 = true then ((spec_high.f t104).bind fun t112 => (if t112 = true then ((spec_low.f bt110.1).bind fun t113 => (if t113 = true then ((spec_appendUTF8.f k1 x3_1 (wrap64 ((wrap64 (65536 + (wrap64 ((wrap64 (t104 - 55296)) * 1024)))) + (wrap64 (bt110.1 - 56320))))).bind fun t114 => (spec_Unquote.l0 k1 t114 X_1 (wrap64 ((wrap64 (x5_1 + 6)) + 6)))) else ((spec_appendUTF8.f k1 x3_1 t104).bind fun t117 => (spec_Unquote.l0 k1 t117 X_1 (wrap64 (x5_1 + 6)))))) else ((spec_appendUTF8.f k1 x3_1 t104).bind fun t120 => (spec_Unquote.l0 k1 t120 X_1 (wrap64 (x5_1 + 6)))))) else ((spec_appendUTF8.f k1 x3_1 t104).bind fun t123 => (spec_Unquote.l0 k1 t123 X_1 (wrap64 (x5_1 + 6)))))) = some r := by rw [if_pos rfl] at H; exact H
   clear H
   have H := H1
   clear H1
   replace H := Option.bind_eq_some_iff.mp H
   obtain ⟨⟨t110, t111⟩, A100, H⟩ := H
   replace H : (if t111 = true then ((spec_high.f t104).bind fun t112 => (if t112 = true then ((spec_low.f t110).bind fun t113 => (if t113 = true then ((spec_appendUTF8.f k1 x3_1 (wrap64 ((wrap64 (65536 + (wrap64 ((wrap64 (t104 - 55296)) * 1024)))) + (wrap64 (t110 - 56320))))).bind fun t114 => (spec_Unquote.l0 k1 t114 X_1 (wrap64 ((wrap64 (x5_1 + 6)) + 6)))) else ((spec_appendUTF8.f k1 x3_1 t104).bind fun t117 => (spec_Unquote.l0 k1 t117 X_1 (wrap64 (x5_1 + 6)))))) else ((spec_appendUTF8.f k1 x3_1 t104).bind fun t120 => (spec_Unquote.l0 k1 t120 X_1 (wrap64 (x5_1 + 6)))))) else ((spec_appendUTF8.f k1 x3_1 t104).bind fun t123 => (spec_Unquote.l0 k1 t123 X_1 (wrap64 (x5_1 + 6))))) = some r := H
   have A10 := mk0 A100
   clear A100
   by_cases c11 : t111 = true
   rotate_left
   ·replace c11 := Bool.eq_false_iff.mpr c11
    subst c11
    have H1 : ((spec_appendUTF8.f k1 x3_1 t104).bind fun t123 => (spec_Unquote.l0 k1 t123 X_1 (wrap64 (x5_1 + 6)))) = some r := by rw [if_neg (show ¬ (false = true) by decide)] at H; exact H
    clear H
    have H := H1
    clear H1
    replace H := Option.bind_eq_some_iff.mp H
    obtain ⟨t123, A250, H⟩ := H
    replace H : (spec_Unquote.l0 k1 t123 X_1 (wrap64 (x5_1 + 6))) = some r := H
    have A25 := mk0 A250
    clear A250
    have H' := mk0 H
    clear H
    have p6 : 0 ≤ (x5_1 : Int) := of_decide_eq_true zq1
    have q6 : x5_1 < (X_1.size : Int) := of_decide_eq_true zq1
    have hx6 := bt_at X_1 x5_1
    replace p6 := eq_true p6
    replace q6 := eq_true q6
    go_wp2_with (first | ((with_reducible refine gate_callee (f := 68) rfl ?_); refine goesL_ (some 34) rfl rfl Tryd.func68 zq16 rfl #[.string X_1, .int .i64 x5_1] rfl zq2 ?_; (with_reducible refine (spec_unit.calls k1 X_1 x5_1 t104 true _ A8.out).mono ?_); rintro e w' ⟨rfl, ⟨nd, rfl⟩⟩; refine ⟨_, rfl, ?_⟩) | ((with_reducible refine gate_callee (f := 68) rfl ?_); refine goesL_ (some 54) rfl rfl Tryd.func68 zq16 rfl #[.string X_1, .int .i64 (wrap64 (x5_1 + 6))] rfl zq2 ?_; (with_reducible refine (spec_unit.calls k1 X_1 (wrap64 (x5_1 + 6)) t110 false _ A10.out).mono ?_); rintro e w' ⟨rfl, ⟨nd, rfl⟩⟩; refine ⟨_, rfl, ?_⟩; obtain ⟨Ao26, co26, eo26⟩ := Kd.R_slice HO_3.out; subst eo26) | ((with_reducible refine gate_callee (f := 72) rfl ?_); refine goesL_ (some 77) rfl rfl Tryd.func72 zq16 rfl #[.slice Ao26 x3_1.length co26, .int .i64 t104] rfl zq2 ?_; (with_reducible refine (spec_appendUTF8.calls k1 (fun k_ => some k_ = (.slice Ao26 x3_1.length co26 : Value).ownBlock) (.slice Ao26 x3_1.length co26) x3_1 t104 t123 w _ ?side1 ?side2 A25.out).mono ?_); (case side1 => exact zq0); (case side2 => exact Kd.R_tight rfl HO_3.out); rintro e w27 ⟨v124, rfl, ho0, hb, hkp⟩; refine ⟨_, rfl, ?_⟩; have n0_ := mk0 (Kd.R_mono (ok' := fun k_ => True) ho0 (fun k_ hk_ => trivial)); have n1_ := mk0 (hb); clear HB HO_3; have HO125 := n0_; have HB := n1_; clear n0_ n1_; (try clear hb); (try clear hkp); (try clear ho0)))
    go_roundg k1
    case measure => have := HK1.out; omega
    case rel => exact ⟨(t123), (wrap64 (x5_1 + 6)), zq3, H', ⟨by have := HK1.out; omega⟩, ⟨by (with_reducible repeat (first | apply Kd.R_alloc | apply Kd.R_drewN | apply Kd.R_drew)); exact HO125.out⟩, ⟨by repeat (first | (with_reducible first | exact HB.out | apply below_alloc | apply pw_below_drewN | apply below_drew1) | exact HB.out)⟩⟩
   subst c11
   have H1 : ((spec_high.f t104).bind fun t112 => (if t112 = true then ((spec_low.f t110).bind fun t113 => (if t113 = true then ((spec_appendUTF8.f k1 x3_1 (wrap64 ((wrap64 (65536 + (wrap64 ((wrap64 (t104 - 55296)) * 1024)))) + (wrap64 (t110 - 56320))))).bind fun t114 => (spec_Unquote.l0 k1 t114 X_1 (wrap64 ((wrap64 (x5_1 + 6)) + 6)))) else ((spec_appendUTF8.f k1 x3_1 t104).bind fun t117 => (spec_Unquote.l0 k1 t117 X_1 (wrap64 (x5_1 + 6)))))) else ((spec_appendUTF8.f k1 x3_1 t104).bind fun t120 => (spec_Unquote.l0 k1 t120 X_1 (wrap64 (x5_1 + 6)))))) = some r := by rw [if_pos rfl] at H; exact H
   clear H
   have H := H1
   clear H1
   replace H := Option.bind_eq_some_iff.mp H
   obtain ⟨t112, A120, H⟩ := H
   replace H : (if t112 = true then ((spec_low.f t110).bind fun t113 => (if t113 = true then ((spec_appendUTF8.f k1 x3_1 (wrap64 ((wrap64 (65536 + (wrap64 ((wrap64 (t104 - 55296)) * 1024)))) + (wrap64 (t110 - 56320))))).bind fun t114 => (spec_Unquote.l0 k1 t114 X_1 (wrap64 ((wrap64 (x5_1 + 6)) + 6)))) else ((spec_appendUTF8.f k1 x3_1 t104).bind fun t117 => (spec_Unquote.l0 k1 t117 X_1 (wrap64 (x5_1 + 6)))))) else ((spec_appendUTF8.f k1 x3_1 t104).bind fun t120 => (spec_Unquote.l0 k1 t120 X_1 (wrap64 (x5_1 + 6))))) = some r := H
   have A12 := mk0 A120
   clear A120
   by_cases c13 : t112 = true
   rotate_left
   ·replace c13 := Bool.eq_false_iff.mpr c13
    subst c13
    have H1 : ((spec_appendUTF8.f k1 x3_1 t104).bind fun t120 => (spec_Unquote.l0 k1 t120 X_1 (wrap64 (x5_1 + 6)))) = some r := by rw [if_neg (show ¬ (false = true) by decide)] at H; exact H
    clear H
    have H := H1
    clear H1
    replace H := Option.bind_eq_some_iff.mp H
    obtain ⟨t120, A220, H⟩ := H
    replace H : (spec_Unquote.l0 k1 t120 X_1 (wrap64 (x5_1 + 6))) = some r := H
    have A22 := mk0 A220
    clear A220
    have H' := mk0 H
    clear H
    have p6 : 0 ≤ (x5_1 : Int) := of_decide_eq_true zq1
    have q6 : x5_1 < (X_1.size : Int) := of_decide_eq_true zq1
    have hx6 := bt_at X_1 x5_1
    replace p6 := eq_true p6
    replace q6 := eq_true q6
    go_wp2_with (first | ((with_reducible refine gate_callee (f := 68) rfl ?_); refine goesL_ (some 34) rfl rfl Tryd.func68 zq16 rfl #[.string X_1, .int .i64 x5_1] rfl zq2 ?_; (with_reducible refine (spec_unit.calls k1 X_1 x5_1 t104 true _ A8.out).mono ?_); rintro e w' ⟨rfl, ⟨nd, rfl⟩⟩; refine ⟨_, rfl, ?_⟩) | ((with_reducible refine gate_callee (f := 68) rfl ?_); refine goesL_ (some 54) rfl rfl Tryd.func68 zq16 rfl #[.string X_1, .int .i64 (wrap64 (x5_1 + 6))] rfl zq2 ?_; (with_reducible refine (spec_unit.calls k1 X_1 (wrap64 (x5_1 + 6)) t110 true _ A10.out).mono ?_); rintro e w' ⟨rfl, ⟨nd, rfl⟩⟩; refine ⟨_, rfl, ?_⟩) | (go_at_call 70; (with_reducible refine (spec_high.calls t104 false _ A12.out).mono ?_); rintro e w' ⟨rfl, ⟨nd, rfl⟩⟩; obtain ⟨Ao23, co23, eo23⟩ := Kd.R_slice HO_3.out; subst eo23) | ((with_reducible refine gate_callee (f := 72) rfl ?_); refine goesL_ (some 77) rfl rfl Tryd.func72 zq16 rfl #[.slice Ao23 x3_1.length co23, .int .i64 t104] rfl zq2 ?_; (with_reducible refine (spec_appendUTF8.calls k1 (fun k_ => some k_ = (.slice Ao23 x3_1.length co23 : Value).ownBlock) (.slice Ao23 x3_1.length co23) x3_1 t104 t120 w _ ?side1 ?side2 A22.out).mono ?_); (case side1 => exact zq0); (case side2 => exact Kd.R_tight rfl HO_3.out); rintro e w24 ⟨v121, rfl, ho0, hb, hkp⟩; refine ⟨_, rfl, ?_⟩; have n0_ := mk0 (Kd.R_mono (ok' := fun k_ => True) ho0 (fun k_ hk_ => trivial)); have n1_ := mk0 (hb); clear HB HO_3; have HO122 := n0_; have HB := n1_; clear n0_ n1_; (try clear hb); (try clear hkp); (try clear ho0)))
    go_roundg k1
    case measure => have := HK1.out; omega
    case rel => exact ⟨(t120), (wrap64 (x5_1 + 6)), zq3, H', ⟨by have := HK1.out; omega⟩, ⟨by (with_reducible repeat (first | apply Kd.R_alloc | apply Kd.R_drewN | apply Kd.R_drew)); exact HO122.out⟩, ⟨by repeat (first | (with_reducible first | exact HB.out | apply below_alloc | apply pw_below_drewN | apply below_drew1) | exact HB.out)⟩⟩
   subst c13
   have H1 : ((spec_low.f t110).bind fun t113 => (if t113 = true then ((spec_appendUTF8.f k1 x3_1 (wrap64 ((wrap64 (65536 + (wrap64 ((wrap64 (t104 - 55296)) * 1024)))) + (wrap64 (t110 - 56320))))).bind fun t114 => (spec_Unquote.l0 k1 t114 X_1 (wrap64 ((wrap64 (x5_1 + 6)) + 6)))) else ((spec_appendUTF8.f k1 x3_1 t104).bind fun t117 => (spec_Unquote.l0 k1 t117 X_1 (wrap64 (x5_1 + 6)))))) = some r := by rw [if_pos rfl] at H; exact H
   clear H
   have H := H1
   clear H1
   replace H := Option.bind_eq_some_iff.mp H
   obtain ⟨t113, A140, H⟩ := H
   replace H : (if t113 = true then ((spec_appendUTF8.f k1 x3_1 (wrap64 ((wrap64 (65536 + (wrap64 ((wrap64 (t104 - 55296)) * 1024)))) + (wrap64 (t110 - 56320))))).bind fun t114 => (spec_Unquote.l0 k1 t114 X_1 (wrap64 ((wrap64 (x5_1 + 6)) + 6)))) else ((spec_appendUTF8.f k1 x3_1 t104).bind fun t117 => (spec_Unquote.l0 k1 t117 X_1 (wrap64 (x5_1 + 6))))) = some r := H
   have A14 := mk0 A140
   clear A140
   by_cases c15 : t113 = true
   rotate_left
   ·replace c15 := Bool.eq_false_iff.mpr c15
    subst c15
    have H1 : ((spec_appendUTF8.f k1 x3_1 t104).bind fun t117 => (spec_Unquote.l0 k1 t117 X_1 (wrap64 (x5_1 + 6)))) = some r := by rw [if_neg (show ¬ (false = true) by decide)] at H; exact H
    clear H
    have H := H1
    clear H1
    replace H := Option.bind_eq_some_iff.mp H
    obtain ⟨t117, A190, H⟩ := H
    replace H : (spec_Unquote.l0 k1 t117 X_1 (wrap64 (x5_1 + 6))) = some r := H
    have A19 := mk0 A190
    clear A190
    have H' := mk0 H
    clear H
    have p6 : 0 ≤ (x5_1 : Int) := of_decide_eq_true zq1
    have q6 : x5_1 < (X_1.size : Int) := of_decide_eq_true zq1
    have hx6 := bt_at X_1 x5_1
    replace p6 := eq_true p6
    replace q6 := eq_true q6
    go_wp2_with (first | ((with_reducible refine gate_callee (f := 68) rfl ?_); refine goesL_ (some 34) rfl rfl Tryd.func68 zq16 rfl #[.string X_1, .int .i64 x5_1] rfl zq2 ?_; (with_reducible refine (spec_unit.calls k1 X_1 x5_1 t104 true _ A8.out).mono ?_); rintro e w' ⟨rfl, ⟨nd, rfl⟩⟩; refine ⟨_, rfl, ?_⟩) | ((with_reducible refine gate_callee (f := 68) rfl ?_); refine goesL_ (some 54) rfl rfl Tryd.func68 zq16 rfl #[.string X_1, .int .i64 (wrap64 (x5_1 + 6))] rfl zq2 ?_; (with_reducible refine (spec_unit.calls k1 X_1 (wrap64 (x5_1 + 6)) t110 true _ A10.out).mono ?_); rintro e w' ⟨rfl, ⟨nd, rfl⟩⟩; refine ⟨_, rfl, ?_⟩) | (go_at_call 70; (with_reducible refine (spec_high.calls t104 true _ A12.out).mono ?_); rintro e w' ⟨rfl, ⟨nd, rfl⟩⟩) | (go_at_call 71; (with_reducible refine (spec_low.calls t110 false _ A14.out).mono ?_); rintro e w' ⟨rfl, ⟨nd, rfl⟩⟩; obtain ⟨Ao20, co20, eo20⟩ := Kd.R_slice HO_3.out; subst eo20) | ((with_reducible refine gate_callee (f := 72) rfl ?_); refine goesL_ (some 77) rfl rfl Tryd.func72 zq16 rfl #[.slice Ao20 x3_1.length co20, .int .i64 t104] rfl zq2 ?_; (with_reducible refine (spec_appendUTF8.calls k1 (fun k_ => some k_ = (.slice Ao20 x3_1.length co20 : Value).ownBlock) (.slice Ao20 x3_1.length co20) x3_1 t104 t117 w _ ?side1 ?side2 A19.out).mono ?_); (case side1 => exact zq0); (case side2 => exact Kd.R_tight rfl HO_3.out); rintro e w21 ⟨v118, rfl, ho0, hb, hkp⟩; refine ⟨_, rfl, ?_⟩; have n0_ := mk0 (Kd.R_mono (ok' := fun k_ => True) ho0 (fun k_ hk_ => trivial)); have n1_ := mk0 (hb); clear HB HO_3; have HO119 := n0_; have HB := n1_; clear n0_ n1_; (try clear hb); (try clear hkp); (try clear ho0)))
    go_roundg k1
    case measure => have := HK1.out; omega
    case rel => exact ⟨(t117), (wrap64 (x5_1 + 6)), zq3, H', ⟨by have := HK1.out; omega⟩, ⟨by (with_reducible repeat (first | apply Kd.R_alloc | apply Kd.R_drewN | apply Kd.R_drew)); exact HO119.out⟩, ⟨by repeat (first | (with_reducible first | exact HB.out | apply below_alloc | apply pw_below_drewN | apply below_drew1) | exact HB.out)⟩⟩
   subst c15
   have H1 : ((spec_appendUTF8.f k1 x3_1 (wrap64 ((wrap64 (65536 + (wrap64 ((wrap64 (t104 - 55296)) * 1024)))) + (wrap64 (t110 - 56320))))).bind fun t114 => (spec_Unquote.l0 k1 t114 X_1 (wrap64 ((wrap64 (x5_1 + 6)) + 6)))) = some r := by rw [if_pos rfl] at H; exact H
   clear H
   have H := H1
   clear H1
   replace H := Option.bind_eq_some_iff.mp H
   obtain ⟨t114, A160, H⟩ := H
   replace H : (spec_Unquote.l0 k1 t114 X_1 (wrap64 ((wrap64 (x5_1 + 6)) + 6))) = some r := H
   have A16 := mk0 A160
   clear A160
   have H' := mk0 H
   clear H
   have p6 : 0 ≤ (x5_1 : Int) := of_decide_eq_true zq1
   have q6 : x5_1 < (X_1.size : Int) := of_decide_eq_true zq1
   have hx6 := bt_at X_1 x5_1
   replace p6 := eq_true p6
   replace q6 := eq_true q6
   go_wp2_with (first | ((with_reducible refine gate_callee (f := 68) rfl ?_); refine goesL_ (some 34) rfl rfl Tryd.func68 zq16 rfl #[.string X_1, .int .i64 x5_1] rfl zq2 ?_; (with_reducible refine (spec_unit.calls k1 X_1 x5_1 t104 true _ A8.out).mono ?_); rintro e w' ⟨rfl, ⟨nd, rfl⟩⟩; refine ⟨_, rfl, ?_⟩) | ((with_reducible refine gate_callee (f := 68) rfl ?_); refine goesL_ (some 54) rfl rfl Tryd.func68 zq16 rfl #[.string X_1, .int .i64 (wrap64 (x5_1 + 6))] rfl zq2 ?_; (with_reducible refine (spec_unit.calls k1 X_1 (wrap64 (x5_1 + 6)) t110 true _ A10.out).mono ?_); rintro e w' ⟨rfl, ⟨nd, rfl⟩⟩; refine ⟨_, rfl, ?_⟩) | (go_at_call 70; (with_reducible refine (spec_high.calls t104 true _ A12.out).mono ?_); rintro e w' ⟨rfl, ⟨nd, rfl⟩⟩) | (go_at_call 71; (with_reducible refine (spec_low.calls t110 true _ A14.out).mono ?_); rintro e w' ⟨rfl, ⟨nd, rfl⟩⟩; obtain ⟨Ao17, co17, eo17⟩ := Kd.R_slice HO_3.out; subst eo17) | ((with_reducible refine gate_callee (f := 72) rfl ?_); refine goesL_ (some 77) rfl rfl Tryd.func72 zq16 rfl #[.slice Ao17 x3_1.length co17, .int .i64 (wrap64 ((wrap64 (65536 + (wrap64 ((wrap64 (t104 - 55296)) * 1024)))) + (wrap64 (t110 - 56320))))] rfl zq2 ?_; (with_reducible refine (spec_appendUTF8.calls k1 (fun k_ => some k_ = (.slice Ao17 x3_1.length co17 : Value).ownBlock) (.slice Ao17 x3_1.length co17) x3_1 (wrap64 ((wrap64 (65536 + (wrap64 ((wrap64 (t104 - 55296)) * 1024)))) + (wrap64 (t110 - 56320)))) t114 w _ ?side1 ?side2 A16.out).mono ?_); (case side1 => exact zq0); (case side2 => exact Kd.R_tight rfl HO_3.out); rintro e w18 ⟨v115, rfl, ho0, hb, hkp⟩; refine ⟨_, rfl, ?_⟩; have n0_ := mk0 (Kd.R_mono (ok' := fun k_ => True) ho0 (fun k_ hk_ => trivial)); have n1_ := mk0 (hb); clear HB HO_3; have HO116 := n0_; have HB := n1_; clear n0_ n1_; (try clear hb); (try clear hkp); (try clear ho0)))
   go_roundg k1
   case measure => have := HK1.out; omega
   case rel => exact ⟨(t114), (wrap64 ((wrap64 (x5_1 + 6)) + 6)), zq3, H', ⟨by have := HK1.out; omega⟩, ⟨by (with_reducible repeat (first | apply Kd.R_alloc | apply Kd.R_drewN | apply Kd.R_drew)); exact HO116.out⟩, ⟨by repeat (first | (with_reducible first | exact HB.out | apply below_alloc | apply pw_below_drewN | apply below_drew1) | exact HB.out)⟩⟩
mutual
def spec_pathPartB.j1 : Nat → ByteArray → Int → Option (ByteArray × ByteArray × Bool)
  | 0, _, _ => none
  | k + 1, x0, x6 => if x6 = 1 then (if x6 < (x0.size : Int) then (if 0 ≤ x6 then (spec_pathPartB.j2 k x0 x6 ((bt x0 x6) == 42)) else (none)) else (spec_pathPartB.j2 k x0 x6 false)) else (spec_pathPartB.j2 k x0 x6 false)
def spec_pathPartB.j2 : Nat → ByteArray → Int → Bool → Option (ByteArray × ByteArray × Bool)
  | 0, _, _, _ => none
  | k + 1, x0, x6, x60 => if x60 = true then (if (wrap64 (x6 + 1)) = 1 then (some ((⟨#[]⟩ : ByteArray), (⟨#[]⟩ : ByteArray), false)) else (if (wrap64 (x6 + 1)) = (x0.size : Int) then (some ((⟨#[]⟩ : ByteArray), (⟨#[]⟩ : ByteArray), false)) else (if 0 ≤ (wrap64 (x6 + 1)) then (if (wrap64 (x6 + 1)) < (x0.size : Int) then (if (bt x0 (wrap64 (x6 + 1))) = 93 then (if 0 ≤ (wrap64 ((wrap64 (x6 + 1)) + 1)) then (if (wrap64 ((wrap64 (x6 + 1)) + 1)) ≤ (x0.size : Int) then (some (x0.extract 0 ((wrap64 ((wrap64 (x6 + 1)) + 1)) : Int).toNat, x0.extract ((wrap64 ((wrap64 (x6 + 1)) + 1)) : Int).toNat x0.size, true)) else (none)) else (none)) else (some ((⟨#[]⟩ : ByteArray), (⟨#[]⟩ : ByteArray), false))) else (none)) else (none)))) else (if x6 = 1 then (some ((⟨#[]⟩ : ByteArray), (⟨#[]⟩ : ByteArray), false)) else (if x6 = (x0.size : Int) then (some ((⟨#[]⟩ : ByteArray), (⟨#[]⟩ : ByteArray), false)) else (if 0 ≤ x6 then (if x6 < (x0.size : Int) then (if (bt x0 x6) = 93 then (if 0 ≤ (wrap64 (x6 + 1)) then (if (wrap64 (x6 + 1)) ≤ (x0.size : Int) then (some (x0.extract 0 ((wrap64 (x6 + 1)) : Int).toNat, x0.extract ((wrap64 (x6 + 1)) : Int).toNat x0.size, true)) else (none)) else (none)) else (some ((⟨#[]⟩ : ByteArray), (⟨#[]⟩ : ByteArray), false))) else (none)) else (none))))
def spec_pathPartB.l0 : Nat → ByteArray → Int → Option (ByteArray × ByteArray × Bool)
  | 0, _, _ => none
  | k + 1, x0, x6 => if x6 < (x0.size : Int) then (if 0 ≤ x6 then (if 48 ≤ (bt x0 x6) then (if (bt x0 x6) ≤ 57 then (spec_pathPartB.l0 k x0 (wrap64 (x6 + 1))) else (spec_pathPartB.j1 k x0 x6)) else (spec_pathPartB.j1 k x0 x6)) else (none)) else (spec_pathPartB.j1 k x0 x6)
def spec_pathPartB.l1 : Nat → ByteArray → Int → Option (ByteArray × ByteArray × Bool)
  | 0, _, _ => none
  | k + 1, x0, x7 => if x7 < (x0.size : Int) then (if 0 ≤ x7 then (if (bt x0 x7) = 46 then (spec_pathPartB.j4 k x0 x7 false) else (spec_pathPartB.j4 k x0 x7 ((bt x0 x7) != 91))) else (none)) else (spec_pathPartB.j4 k x0 x7 false)
def spec_pathPartB.j4 : Nat → ByteArray → Int → Bool → Option (ByteArray × ByteArray × Bool)
  | 0, _, _, _ => none
  | k + 1, x0, x7, x100 => if x100 = true then (if 0 ≤ x7 then (if x7 < (x0.size : Int) then (if (bt x0 x7) = 93 then (some ((⟨#[]⟩ : ByteArray), (⟨#[]⟩ : ByteArray), false)) else (if (bt x0 x7) = 34 then (some ((⟨#[]⟩ : ByteArray), (⟨#[]⟩ : ByteArray), false)) else (spec_pathPartB.l1 k x0 (wrap64 (x7 + 1))))) else (none)) else (none)) else (if 0 ≤ x7 then (if x7 ≤ (x0.size : Int) then (some (x0.extract 0 (x7 : Int).toNat, x0.extract (x7 : Int).toNat x0.size, decide (x7 > 0))) else (none)) else (none))
end
def spec_pathPartB.f (k : Nat) (a0 : ByteArray) : Option (ByteArray × ByteArray × Bool) := if a0.toList = ([] : List UInt8) then (some ((⟨#[]⟩ : ByteArray), (⟨#[]⟩ : ByteArray), false)) else (if 0 < (a0.size : Int) then (if (bt a0 0) = 34 then (none) else (if (bt a0 0) = 91 then (spec_pathPartB.l0 k a0 1) else (spec_pathPartB.l1 k a0 0))) else (none))
theorem spec_pathPartB.mono_l : ∀ k, (∀ y0 y1, LeO (spec_pathPartB.j1 k y0 y1) (spec_pathPartB.j1 (k + 1) y0 y1)) ∧ (∀ y0 y1 y2, LeO (spec_pathPartB.j2 k y0 y1 y2) (spec_pathPartB.j2 (k + 1) y0 y1 y2)) ∧ (∀ y0 y1, LeO (spec_pathPartB.l0 k y0 y1) (spec_pathPartB.l0 (k + 1) y0 y1)) ∧ (∀ y0 y1, LeO (spec_pathPartB.l1 k y0 y1) (spec_pathPartB.l1 (k + 1) y0 y1)) ∧ (∀ y0 y1 y2, LeO (spec_pathPartB.j4 k y0 y1 y2) (spec_pathPartB.j4 (k + 1) y0 y1 y2))
 | 0 => ⟨fun _ _ r h => by simp [spec_pathPartB.j1] at h, fun _ _ _ r h => by simp [spec_pathPartB.j2] at h, fun _ _ r h => by simp [spec_pathPartB.l0] at h, fun _ _ r h => by simp [spec_pathPartB.l1] at h, fun _ _ _ r h => by simp [spec_pathPartB.j4] at h⟩
 | k + 1 => by
  obtain ⟨ih0, ih1, ih2, ih3, ih4⟩ := spec_pathPartB.mono_l k
  refine ⟨?_, ?_, ?_, ?_, ?_⟩
  ·intro y0 y1
   unfold spec_pathPartB.j1
   repeat' first
   | (with_reducible exact ih0 _ _)
   | (with_reducible exact ih1 _ _ _)
   | (with_reducible exact ih2 _ _)
   | (with_reducible exact ih3 _ _)
   | (with_reducible exact ih4 _ _ _)
   | (with_reducible exact LeO.refl _)
   | (with_reducible exact LeO.none _)
   | (with_reducible refine LeO.ite ?_ ?_)
   | (with_reducible refine LeO.bind ?_ (fun _ => ?_))
   | exact ih0 _ _
   | exact ih1 _ _ _
   | exact ih2 _ _
   | exact ih3 _ _
   | exact ih4 _ _ _
   | exact LeO.none _
   | refine LeO.ite ?_ ?_
   | refine LeO.bind ?_ (fun _ => ?_)
  ·intro y0 y1 y2
   unfold spec_pathPartB.j2
   repeat' first
   | (with_reducible exact ih0 _ _)
   | (with_reducible exact ih1 _ _ _)
   | (with_reducible exact ih2 _ _)
   | (with_reducible exact ih3 _ _)
   | (with_reducible exact ih4 _ _ _)
   | (with_reducible exact LeO.refl _)
   | (with_reducible exact LeO.none _)
   | (with_reducible refine LeO.ite ?_ ?_)
   | (with_reducible refine LeO.bind ?_ (fun _ => ?_))
   | exact ih0 _ _
   | exact ih1 _ _ _
   | exact ih2 _ _
   | exact ih3 _ _
   | exact ih4 _ _ _
   | exact LeO.none _
   | refine LeO.ite ?_ ?_
   | refine LeO.bind ?_ (fun _ => ?_)
  ·intro y0 y1
   unfold spec_pathPartB.l0
   repeat' first
   | (with_reducible exact ih0 _ _)
   | (with_reducible exact ih1 _ _ _)
   | (with_reducible exact ih2 _ _)
   | (with_reducible exact ih3 _ _)
   | (with_reducible exact ih4 _ _ _)
   | (with_reducible exact LeO.refl _)
   | (with_reducible exact LeO.none _)
   | (with_reducible refine LeO.ite ?_ ?_)
   | (with_reducible refine LeO.bind ?_ (fun _ => ?_))
   | exact ih0 _ _
   | exact ih1 _ _ _
   | exact ih2 _ _
   | exact ih3 _ _
   | exact ih4 _ _ _
   | exact LeO.none _
   | refine LeO.ite ?_ ?_
   | refine LeO.bind ?_ (fun _ => ?_)
  ·intro y0 y1
   unfold spec_pathPartB.l1
   repeat' first
   | (with_reducible exact ih0 _ _)
   | (with_reducible exact ih1 _ _ _)
   | (with_reducible exact ih2 _ _)
   | (with_reducible exact ih3 _ _)
   | (with_reducible exact ih4 _ _ _)
   | (with_reducible exact LeO.refl _)
   | (with_reducible exact LeO.none _)
   | (with_reducible refine LeO.ite ?_ ?_)
   | (with_reducible refine LeO.bind ?_ (fun _ => ?_))
   | exact ih0 _ _
   | exact ih1 _ _ _
   | exact ih2 _ _
   | exact ih3 _ _
   | exact ih4 _ _ _
   | exact LeO.none _
   | refine LeO.ite ?_ ?_
   | refine LeO.bind ?_ (fun _ => ?_)
  ·intro y0 y1 y2
   unfold spec_pathPartB.j4
   repeat' first
   | (with_reducible exact ih0 _ _)
   | (with_reducible exact ih1 _ _ _)
   | (with_reducible exact ih2 _ _)
   | (with_reducible exact ih3 _ _)
   | (with_reducible exact ih4 _ _ _)
   | (with_reducible exact LeO.refl _)
   | (with_reducible exact LeO.none _)
   | (with_reducible refine LeO.ite ?_ ?_)
   | (with_reducible refine LeO.bind ?_ (fun _ => ?_))
   | exact ih0 _ _
   | exact ih1 _ _ _
   | exact ih2 _ _
   | exact ih3 _ _
   | exact ih4 _ _ _
   | exact LeO.none _
   | refine LeO.ite ?_ ?_
   | refine LeO.bind ?_ (fun _ => ?_)
theorem spec_pathPartB.mono : ∀ a0 k, LeO (spec_pathPartB.f k a0) (spec_pathPartB.f (k + 1) a0) := by
 intro a0 k
 obtain ⟨ih0, ih1, ih2, ih3, ih4⟩ := spec_pathPartB.mono_l k
 unfold spec_pathPartB.f
 repeat' first
  | (with_reducible exact ih0 _ _)
  | (with_reducible exact ih1 _ _ _)
  | (with_reducible exact ih2 _ _)
  | (with_reducible exact ih3 _ _)
  | (with_reducible exact ih4 _ _ _)
  | (with_reducible exact LeO.refl _)
  | (with_reducible exact LeO.none _)
  | (with_reducible refine LeO.ite ?_ ?_)
  | (with_reducible refine LeO.bind ?_ (fun _ => ?_))
  | exact ih0 _ _
  | exact ih1 _ _ _
  | exact ih2 _ _
  | exact ih3 _ _
  | exact ih4 _ _ _
  | exact LeO.none _
  | refine LeO.ite ?_ ?_
  | refine LeO.bind ?_ (fun _ => ?_)
def spec_pathPartB.T17 : Bool × List (List Nat × List Nat) := (true, [([], []), ([], []), ([1], [1]), ([0, 2], [0, 2]), ([], []), ([], []), ([5], [5]), ([4, 6], [4, 6]), ([3, 0, 1, 2, 3], [3]), ([7, 8, 0, 1, 2, 3, 4, 5, 6, 7, 8], [7]), ([9, 0, 1, 2, 3, 4, 5, 6, 7, 8, 9], [])])
def spec_pathPartB.B17 : List Nat := [0, 0, 2, 7, 0, 0, 32, 112, 15, 511, 1023]
theorem spec_pathPartB.tab17 : rtab .any (opsOf Tryd.f22 17) = spec_pathPartB.T17 := by kernel_rfl
theorem spec_pathPartB.bits17 : waitsOk spec_pathPartB.T17.2 spec_pathPartB.B17 = true := by kernel_rfl
def spec_pathPartB.T23 : Bool × List (List Nat × List Nat) := (true, [([], []), ([], []), ([0, 1], [0, 1]), ([], []), ([], []), ([3, 4], [3, 4]), ([], []), ([6], [6]), ([2, 0, 1, 2], [2]), ([5, 8, 0, 1, 2, 3, 4, 5, 8], [5]), ([7, 9, 0, 1, 2, 3, 4, 5, 6, 7, 8, 9], [7])])
def spec_pathPartB.B23 : List Nat := [0, 0, 3, 0, 0, 24, 0, 64, 7, 319, 1023]
theorem spec_pathPartB.tab23 : rtab .any (opsOf Tryd.f22 23) = spec_pathPartB.T23 := by kernel_rfl
theorem spec_pathPartB.bits23 : waitsOk spec_pathPartB.T23.2 spec_pathPartB.B23 = true := by kernel_rfl
set_option maxHeartbeats 8000000 in
set_option maxRecDepth 100000 in
theorem spec_pathPartB.calls (k : Nat) (a0 : ByteArray) (r1 : ByteArray) (r2 : ByteArray) (r3 : Bool) (w : World) (h : spec_pathPartB.f k a0 = some (r1, r2, r3)) :
 Calls Tryd.prog 22 #[.string a0] w fun e w' => e = .returned (.tuple #[.string r1, .string r2, .bool r3]) ∧ Below w.heap.size w w' := by
 have hu84 := Tryd.underlying84
 have HB := mk0 (Below.refl w.heap.size w)
 have H : (if a0.toList = ([] : List UInt8) then (some ((⟨#[]⟩ : ByteArray), (⟨#[]⟩ : ByteArray), false)) else (if 0 < (a0.size : Int) then (if (bt a0 0) = 34 then (none) else (if (bt a0 0) = 91 then (spec_pathPartB.l0 k a0 1) else (spec_pathPartB.l1 k a0 0))) else (none))) = some (r1, r2, r3) := h
 clear h
 by_cases c2 : a0.toList = ([] : List UInt8)
 ·rw [if_pos c2] at H
  have c2b0 : (a0.toList == ([] : List UInt8)) = true := beq_iff_eq.mpr c2
  have c2b1 : (a0.toList != ([] : List UInt8)) = false := bne_eq_false_iff_eq.mpr c2
  clear c2
  simp only [Option.some.injEq, Prod.mk.injEq] at H
  obtain ⟨rfl, rfl, rfl⟩ := H
  go_enter Tryd.func22, Tryd.ntmps22
  go_wp2
  go_ret3
  exact ⟨by first | rfl | (simp [errW_none, errW_some] <;> rfl) | (simp [*, errW_none, errW_some] <;> rfl), by repeat (first | (with_reducible first | exact HB.out | apply below_alloc | apply pw_below_drewN | apply below_drew1) | exact HB.out)⟩
 rw [if_neg c2] at H
 have c2b0 : (a0.toList == ([] : List UInt8)) = false := beq_eq_false_iff_ne.mpr c2
 have c2b1 : (a0.toList != ([] : List UInt8)) = true := bne_iff_ne.mpr c2
 by_cases c3 : 0 < (a0.size : Int)
 rotate_left
 ·rw [if_neg c3] at H
  exact absurd H (by simp)
 rw [if_pos c3] at H
 have c3b0 : decide (0 < (a0.size : Int)) = true := decide_eq_true c3
 have c3b1 : decide (0 < a0.size) = true := decide_eq_true (by omega)
 clear c3
 by_cases c5 : (bt a0 0) = 34
 ·rw [if_pos c5] at H
  exact absurd H (by simp)
 rw [if_neg c5] at H
 have c5b0 : ((bt a0 0) == 34) = false := beq_eq_false_iff_ne.mpr c5
 have c5b1 : ((bt a0 0) != 34) = true := bne_iff_ne.mpr c5
 by_cases c6 : (bt a0 0) = 91
 rotate_left
 ·rw [if_neg c6] at H
  have c6b0 : ((bt a0 0) == 91) = false := beq_eq_false_iff_ne.mpr c6
  have c6b1 : ((bt a0 0) != 91) = true := bne_iff_ne.mpr c6
  have H' := mk0 H
  clear H
  have p4 : 0 ≤ (0 : Int) := (by omega)
  have q4 : 0 < a0.size := (by have : (0 : Int) < (a0.size : Int) := of_decide_eq_true zq1; omega)
  have hx4 : ∀ h : 0 < a0.size, ((a0[0]'h).toNat : Int) = bt a0 0 := bt_at a0 0
  clear p4
  have qi4 : (0 < (a0.size : Int)) = True := eq_true (of_decide_eq_true zq1)
  replace q4 := eq_true q4
  go_enter Tryd.func22, Tryd.ntmps22
  go_wp2
  go_loopg [7] k (fun kq v7 w' => ∃ (x7_1 : Int), v7 = .int .i64 x7_1 ∧ Aside0 (spec_pathPartB.l1 kq a0 x7_1 = some (r1, r2, r3)) ∧ Aside0 (kq ≤ k) ∧ Aside0 (Below w.heap.size w w'))
  case atStart => exact ⟨(0), zq3, H', ⟨Nat.le_refl _⟩, ⟨by repeat (first | (with_reducible first | exact HB.out | apply below_alloc | apply pw_below_drewN | apply below_drew1) | exact HB.out)⟩⟩
  case round =>
   clear H'
   try clear c1
   try clear p1
   try clear q1
   try clear hx1
   try clear c2
   try clear c2b0
   try clear c2b1
   try clear p2
   try clear q2
   try clear hx2
   try clear c3
   try clear c3b0
   try clear c3b1
   try clear p3
   try clear q3
   try clear hx3
   try clear c4
   try clear p4
   try clear q4
   try clear hx4
   try clear qi4
   try clear c5
   try clear c5b0
   try clear c5b1
   try clear c6
   try clear c6b0
   try clear c6b1
   try clear p6
   try clear c8
   try clear c8b0
   try clear c9
   try clear c9b0
   try clear p10
   try clear q10
   try clear hx10
   try clear c11
   try clear c11b0
   try clear p12
   try clear q12
   try clear hx12
   try clear c13
   try clear c13b0
   try clear c15
   try clear c15b0
   try clear c15b1
   try clear c16
   try clear c16b0
   try clear c17
   try clear c17b0
   try clear p18
   try clear q18
   try clear hx18
   try clear c19
   try clear c20
   try clear c20b0
   try clear c20b1
   try clear c21
   try clear c21b0
   try clear c21b1
   try clear c22
   try clear c23
   try clear c23b0
   try clear c24
   try clear c24b0
   try clear p25
   try clear q25
   try clear hx25
   try clear c26
   try clear c26b0
   try clear c26b1
   try clear c28
   try clear c28b0
   try clear c28b1
   try clear c29
   try clear c29b0
   try clear c29b1
   try clear c30
   try clear c30b0
   try clear c31
   try clear c31b0
   try clear c33
   try clear c33b0
   try clear c33b1
   try clear c34
   try clear c34b0
   try clear c34b1
   try clear c35
   try clear c35b0
   try clear c36
   try clear c36b0
   try clear p37
   try clear q37
   try clear hx37
   try clear c38
   try clear c38b0
   try clear c38b1
   try clear c40
   try clear c40b0
   try clear c40b1
   try clear c41
   try clear c41b0
   try clear c41b1
   try clear c42
   try clear c42b0
   try clear c43
   try clear c43b0
   try clear p1
   try clear p10
   try clear p12
   try clear p18
   try clear p2
   try clear p25
   try clear p37
   try clear p4
   try clear p6
   try clear q1
   try clear q10
   try clear q12
   try clear q18
   try clear q25
   try clear q37
   try clear q4
   obtain ⟨x7_1, rfl, HA, HK1, HB⟩ := hrel
   cases gk with
   | zero => exact absurd HA.out (by simp [spec_pathPartB.l1])
   | succ k1 =>
    have H := HA.out
    clear HA
    simp only [spec_pathPartB.l1] at H
    have HC45 := mk0 H
    clear H
    go_upto_region 19 with (fail)
    go_cut [100] (fun v100 wc => ∃ (kq : Nat) (x100_44 : Bool), v100 = .bool x100_44 ∧ Aside0 (spec_pathPartB.j4 kq a0 x7_1 x100_44 = some (r1, r2, r3)) ∧ Aside0 (kq ≤ k1) ∧ Aside0 (Below w.heap.size w wc))
    case first =>
     have H := HC45.out
     clear HC45
     by_cases c46 : x7_1 < (a0.size : Int)
     rotate_left
     ·rw [if_neg c46] at H
      have c46b0 : decide (x7_1 < (a0.size : Int)) = false := decide_eq_false c46
      clear c46
      (first | rw [c46b0] | (simp only [i64_w, i32_w]; rw [c46b0]) | skip)
      have H' := mk0 H
      clear H
      go_wp2
      go_meet
      case rel => exact ⟨_, (false), zq3, H', ⟨by have := HK1.out; first | omega | exact Nat.le_refl _⟩, ⟨by repeat (first | (with_reducible first | exact HB.out | apply below_alloc | apply pw_below_drewN | apply below_drew1) | exact HB.out)⟩⟩
     rw [if_pos c46] at H
     have c46b0 : decide (x7_1 < (a0.size : Int)) = true := decide_eq_true c46
     clear c46
     (first | rw [c46b0] | (simp only [i64_w, i32_w]; rw [c46b0]) | skip)
     by_cases c47 : 0 ≤ x7_1
     rotate_left
     ·rw [if_neg c47] at H
      exact absurd H (by simp)
     rw [if_pos c47] at H
     have c47b0 : decide (0 ≤ x7_1) = true := decide_eq_true c47
     clear c47
     by_cases c49 : (bt a0 x7_1) = 46
     ·rw [if_pos c49] at H
      have c49b0 : ((bt a0 x7_1) == 46) = true := beq_iff_eq.mpr c49
      have c49b1 : ((bt a0 x7_1) != 46) = false := bne_eq_false_iff_eq.mpr c49
      clear c49
      have H' := mk0 H
      clear H
      have p48 : 0 ≤ (x7_1 : Int) := of_decide_eq_true zq1
      have q48 : x7_1 < (a0.size : Int) := of_decide_eq_true zq1
      have hx48 := bt_at a0 x7_1
      replace p48 := eq_true p48
      replace q48 := eq_true q48
      go_wp2
      go_meet
      case rel => exact ⟨_, (false), zq3, H', ⟨by have := HK1.out; first | omega | exact Nat.le_refl _⟩, ⟨by repeat (first | (with_reducible first | exact HB.out | apply below_alloc | apply pw_below_drewN | apply below_drew1) | exact HB.out)⟩⟩
     rw [if_neg c49] at H
     have c49b0 : ((bt a0 x7_1) == 46) = false := beq_eq_false_iff_ne.mpr c49
     have c49b1 : ((bt a0 x7_1) != 46) = true := bne_iff_ne.mpr c49
     have H' := mk0 H
     clear H
     have p48 : 0 ≤ (x7_1 : Int) := of_decide_eq_true zq1
     have q48 : x7_1 < (a0.size : Int) := of_decide_eq_true zq1
     have hx48 := bt_at a0 x7_1
     replace p48 := eq_true p48
     replace q48 := eq_true q48
     have p50 : 0 ≤ (x7_1 : Int) := of_decide_eq_true zq1
     have q50 : x7_1 < (a0.size : Int) := of_decide_eq_true zq1
     have hx50 := bt_at a0 x7_1
     replace p50 := eq_true p50
     replace q50 := eq_true q50
     go_wp2
     go_meet
     case rel => exact ⟨_, (((bt a0 x7_1) != 91)), zq3, H', ⟨by have := HK1.out; first | omega | exact Nat.le_refl _⟩, ⟨by repeat (first | (with_reducible first | exact HB.out | apply below_alloc | apply pw_below_drewN | apply below_drew1) | exact HB.out)⟩⟩
    case rest =>
     clear HC45
     try clear c1
     try clear p1
     try clear q1
     try clear hx1
     try clear c2
     try clear c2b0
     try clear c2b1
     try clear p2
     try clear q2
     try clear hx2
     try clear c3
     try clear c3b0
     try clear c3b1
     try clear p3
     try clear q3
     try clear hx3
     try clear c4
     try clear p4
     try clear q4
     try clear hx4
     try clear qi4
     try clear c5
     try clear c5b0
     try clear c5b1
     try clear p5
     try clear q5
     try clear hx5
     try clear c6
     try clear c6b0
     try clear c6b1
     try clear p6
     try clear c8
     try clear c8b0
     try clear c9
     try clear c9b0
     try clear p10
     try clear q10
     try clear hx10
     try clear c11
     try clear c11b0
     try clear p12
     try clear q12
     try clear hx12
     try clear c13
     try clear c13b0
     try clear c15
     try clear c15b0
     try clear c15b1
     try clear c16
     try clear c16b0
     try clear c17
     try clear c17b0
     try clear p18
     try clear q18
     try clear hx18
     try clear c19
     try clear c20
     try clear c20b0
     try clear c20b1
     try clear c21
     try clear c21b0
     try clear c21b1
     try clear c22
     try clear c23
     try clear c23b0
     try clear c24
     try clear c24b0
     try clear p25
     try clear q25
     try clear hx25
     try clear c26
     try clear c26b0
     try clear c26b1
     try clear c28
     try clear c28b0
     try clear c28b1
     try clear c29
     try clear c29b0
     try clear c29b1
     try clear c30
     try clear c30b0
     try clear c31
     try clear c31b0
     try clear c33
     try clear c33b0
     try clear c33b1
     try clear c34
     try clear c34b0
     try clear c34b1
     try clear c35
     try clear c35b0
     try clear c36
     try clear c36b0
     try clear p37
     try clear q37
     try clear hx37
     try clear c38
     try clear c38b0
     try clear c38b1
     try clear c40
     try clear c40b0
     try clear c40b1
     try clear c41
     try clear c41b0
     try clear c41b1
     try clear c42
     try clear c42b0
     try clear c43
     try clear c43b0
     try clear c46
     try clear c46b0
     try clear c47
     try clear c47b0
     try clear p48
     try clear q48
     try clear hx48
     try clear c49
     try clear c49b0
     try clear c49b1
     try clear p50
     try clear q50
     try clear hx50
     try clear p1
     try clear p10
     try clear p12
     try clear p18
     try clear p2
     try clear p25
     try clear p3
     try clear p37
     try clear p4
     try clear p48
     try clear p50
     try clear p6
     try clear q1
     try clear q10
     try clear q12
     try clear q18
     try clear q2
     try clear q25
     try clear q3
     try clear q37
     try clear q4
     try clear q48
     try clear q50
     obtain ⟨kq, x100_44, rfl, HA, HJ44, HB⟩ := hcut
     cases kq with
     | zero => exact absurd HA.out (by simp [spec_pathPartB.j4])
     | succ kj44 =>
      have H := HA.out
      clear HA
      simp only [spec_pathPartB.j4] at H
      by_cases c51 : x100_44 = true
      ·subst c51
       have H1 : (if 0 ≤ x7_1 then (if x7_1 < (a0.size : Int) then (if (bt a0 x7_1) = 93 then (some ((⟨#[]⟩ : ByteArray), (⟨#[]⟩ : ByteArray), false)) else (if (bt a0 x7_1) = 34 then (some ((⟨#[]⟩ : ByteArray), (⟨#[]⟩ : ByteArray), false)) else (spec_pathPartB.l1 kj44 a0 (wrap64 (x7_1 + 1))))) else (none)) else (none)) = some (r1, r2, r3) := by rw [if_pos rfl] at H; exact H
       clear H
       have H := H1
       clear H1
       by_cases c52 : 0 ≤ x7_1
       rotate_left
       ·rw [if_neg c52] at H
        exact absurd H (by simp)
       rw [if_pos c52] at H
       have c52b0 : decide (0 ≤ x7_1) = true := decide_eq_true c52
       clear c52
       by_cases c53 : x7_1 < (a0.size : Int)
       rotate_left
       ·rw [if_neg c53] at H
        exact absurd H (by simp)
       rw [if_pos c53] at H
       have c53b0 : decide (x7_1 < (a0.size : Int)) = true := decide_eq_true c53
       clear c53
       by_cases c55 : (bt a0 x7_1) = 93
       ·rw [if_pos c55] at H
        have c55b0 : ((bt a0 x7_1) == 93) = true := beq_iff_eq.mpr c55
        have c55b1 : ((bt a0 x7_1) != 93) = false := bne_eq_false_iff_eq.mpr c55
        clear c55
        simp only [Option.some.injEq, Prod.mk.injEq] at H
        obtain ⟨rfl, rfl, rfl⟩ := H
        have p54 : 0 ≤ (x7_1 : Int) := of_decide_eq_true zq1
        have q54 : x7_1 < (a0.size : Int) := of_decide_eq_true zq1
        have hx54 := bt_at a0 x7_1
        replace p54 := eq_true p54
        replace q54 := eq_true q54
        go_wp2
        go_ret3
        exact ⟨by first | rfl | (simp [errW_none, errW_some] <;> rfl) | (simp [*, errW_none, errW_some] <;> rfl), by repeat (first | (with_reducible first | exact HB.out | apply below_alloc | apply pw_below_drewN | apply below_drew1) | exact HB.out)⟩
       rw [if_neg c55] at H
       have c55b0 : ((bt a0 x7_1) == 93) = false := beq_eq_false_iff_ne.mpr c55
       have c55b1 : ((bt a0 x7_1) != 93) = true := bne_iff_ne.mpr c55
       by_cases c57 : (bt a0 x7_1) = 34
       ·rw [if_pos c57] at H
        have c57b0 : ((bt a0 x7_1) == 34) = true := beq_iff_eq.mpr c57
        have c57b1 : ((bt a0 x7_1) != 34) = false := bne_eq_false_iff_eq.mpr c57
        clear c57
        simp only [Option.some.injEq, Prod.mk.injEq] at H
        obtain ⟨rfl, rfl, rfl⟩ := H
        have p54 : 0 ≤ (x7_1 : Int) := of_decide_eq_true zq1
        have q54 : x7_1 < (a0.size : Int) := of_decide_eq_true zq1
        have hx54 := bt_at a0 x7_1
        replace p54 := eq_true p54
        replace q54 := eq_true q54
        have p56 : 0 ≤ (x7_1 : Int) := of_decide_eq_true zq1
        have q56 : x7_1 < (a0.size : Int) := of_decide_eq_true zq1
        have hx56 := bt_at a0 x7_1
        replace p56 := eq_true p56
        replace q56 := eq_true q56
        go_wp2
        go_ret3
        exact ⟨by first | rfl | (simp [errW_none, errW_some] <;> rfl) | (simp [*, errW_none, errW_some] <;> rfl), by repeat (first | (with_reducible first | exact HB.out | apply below_alloc | apply pw_below_drewN | apply below_drew1) | exact HB.out)⟩
       rw [if_neg c57] at H
       have c57b0 : ((bt a0 x7_1) == 34) = false := beq_eq_false_iff_ne.mpr c57
       have c57b1 : ((bt a0 x7_1) != 34) = true := bne_iff_ne.mpr c57
       have H' := mk0 H
       clear H
       have p54 : 0 ≤ (x7_1 : Int) := of_decide_eq_true zq1
       have q54 : x7_1 < (a0.size : Int) := of_decide_eq_true zq1
       have hx54 := bt_at a0 x7_1
       replace p54 := eq_true p54
       replace q54 := eq_true q54
       have p56 : 0 ≤ (x7_1 : Int) := of_decide_eq_true zq1
       have q56 : x7_1 < (a0.size : Int) := of_decide_eq_true zq1
       have hx56 := bt_at a0 x7_1
       replace p56 := eq_true p56
       replace q56 := eq_true q56
       go_wp2
       go_roundg kj44
       case measure => have := HK1.out; have := HJ44.out; omega
       case rel => exact ⟨(wrap64 (x7_1 + 1)), zq3, H', ⟨by have := HK1.out; have := HJ44.out; omega⟩, ⟨by repeat (first | (with_reducible first | exact HB.out | apply below_alloc | apply pw_below_drewN | apply below_drew1) | exact HB.out)⟩⟩
      replace c51 := Bool.eq_false_iff.mpr c51
      subst c51
      have H1 : (if 0 ≤ x7_1 then (if x7_1 ≤ (a0.size : Int) then (some (a0.extract 0 (x7_1 : Int).toNat, a0.extract (x7_1 : Int).toNat a0.size, decide (x7_1 > 0))) else (none)) else (none)) = some (r1, r2, r3) := by rw [if_neg (show ¬ (false = true) by decide)] at H; exact H
      clear H
      have H := H1
      clear H1
      by_cases c58 : 0 ≤ x7_1
      rotate_left
      ·rw [if_neg c58] at H
       exact absurd H (by simp)
      rw [if_pos c58] at H
      have c58b0 := eq_true c58
      have c58b1 : decide (0 ≤ x7_1) = true := decide_eq_true c58
      clear c58
      by_cases c59 : x7_1 ≤ (a0.size : Int)
      rotate_left
      ·rw [if_neg c59] at H
       exact absurd H (by simp)
      rw [if_pos c59] at H
      have c59b0 := eq_true c59
      have c59b1 : decide (x7_1 ≤ (a0.size : Int)) = true := decide_eq_true c59
      clear c59
      have c60b0 := eq_true (of_decide_eq_true zq1 : 0 ≤ x7_1)
      have c61b0 := eq_true (of_decide_eq_true zq1 : x7_1 ≤ (a0.size : Int))
      simp only [Option.some.injEq, Prod.mk.injEq] at H
      obtain ⟨rfl, rfl, rfl⟩ := H
      try go_wp2
      have n0_ := mk0 (below_drew1 HB.out)
      clear HB
      have HB := n0_
      clear n0_
      refine start_ (n := 11) (S := fun w' => True) (ds := []) #[false, false, false, false, false, false, false, false, false, false, false] zq16 rfl rfl trivial (fun hHeld => ?_); refine with_tabW spec_pathPartB.tab23 spec_pathPartB.bits23 (fun HT_ HW_ => ?_)
      generalize wc.drew = w62 at HB hHeld ⊢
      refine pure_ (i := 0) (N := some 113) (v := ?_) (a' := ?_) #[true, false, false, false, false, false, false, false, false, false, false] rfl rfl (any_of HT_.out zq16) (fun _ _ _ h => h) (Or.inl ⟨by rfl, ?_⟩) ?_ ?_
      rotate_left
      ·intro w'
       go_simp
       with_reducible rfl
      rotate_left
      ·simp only [Act.put, List.setIfInBounds_toArray, List.set_cons_zero, List.set_cons_succ, i64_w, i32_w]
       rfl
      refine pure_ (i := 1) (N := some 114) (v := ?_) (a' := ?_) #[true, true, false, false, false, false, false, false, false, false, false] rfl rfl (any_of HT_.out zq16) (fun _ _ _ h => h) (Or.inl ⟨by rfl, ?_⟩) ?_ ?_
      rotate_left
      ·intro w'
       go_simp
       with_reducible rfl
      rotate_left
      ·simp only [Act.put, List.setIfInBounds_toArray, List.set_cons_zero, List.set_cons_succ, i64_w, i32_w]
       rfl
      refine pure_ (i := 2) (N := some 115) (v := ?_) (a' := ?_) #[true, true, true, false, false, false, false, false, false, false, false] rfl rfl (any_of HT_.out zq16) (fun _ _ _ h => h) (Or.inl ⟨by rfl, ?_⟩) ?_ ?_
      rotate_left
      ·intro w'
       go_simp
       with_reducible rfl
      rotate_left
      ·simp only [Act.put, List.setIfInBounds_toArray, List.set_cons_zero, List.set_cons_succ, i64_w, i32_w]
       rfl
      refine pure_ (i := 3) (N := some 116) (v := ?_) (a' := ?_) #[true, true, true, true, false, false, false, false, false, false, false] rfl rfl (any_of HT_.out zq16) (fun _ _ _ h => h) (Or.inl ⟨by rfl, ?_⟩) ?_ ?_
      rotate_left
      ·intro w'
       go_simp
       with_reducible rfl
      rotate_left
      ·simp only [Act.put, List.setIfInBounds_toArray, List.set_cons_zero, List.set_cons_succ, i64_w, i32_w]
       rfl
      refine pure_ (i := 4) (N := some 117) (v := ?_) (a' := ?_) #[true, true, true, true, true, false, false, false, false, false, false] rfl rfl (any_of HT_.out zq16) (fun _ _ _ h => h) (Or.inl ⟨by rfl, ?_⟩) ?_ ?_
      rotate_left
      ·intro w'
       go_simp
       with_reducible rfl
      rotate_left
      ·simp only [Act.put, List.setIfInBounds_toArray, List.set_cons_zero, List.set_cons_succ, i64_w, i32_w]
       rfl
      refine pure_ (i := 5) (N := some 118) (v := ?_) (a' := ?_) #[true, true, true, true, true, true, false, false, false, false, false] rfl rfl (any_of HT_.out zq16) (fun _ _ _ h => h) (Or.inl ⟨by rfl, ?_⟩) ?_ ?_
      rotate_left
      ·intro w'
       go_simp
       with_reducible rfl
      rotate_left
      ·simp only [Act.put, List.setIfInBounds_toArray, List.set_cons_zero, List.set_cons_succ, i64_w, i32_w]
       rfl
      refine pure_ (i := 6) (N := some 119) (v := ?_) (a' := ?_) #[true, true, true, true, true, true, true, false, false, false, false] rfl rfl (any_of HT_.out zq16) (fun _ _ _ h => h) (Or.inl ⟨by rfl, ?_⟩) ?_ ?_
      rotate_left
      ·intro w'
       go_simp
       with_reducible rfl
      rotate_left
      ·simp only [Act.put, List.setIfInBounds_toArray, List.set_cons_zero, List.set_cons_succ, i64_w, i32_w]
       rfl
      refine pure_ (i := 7) (N := some 120) (v := ?_) (a' := ?_) #[true, true, true, true, true, true, true, true, false, false, false] rfl rfl (any_of HT_.out zq16) (fun _ _ _ h => h) (Or.inl ⟨by rfl, ?_⟩) ?_ ?_
      rotate_left
      ·intro w'
       go_simp
       with_reducible rfl
      rotate_left
      ·simp only [Act.put, List.setIfInBounds_toArray, List.set_cons_zero, List.set_cons_succ, i64_w, i32_w]
       rfl
      refine pure_ (i := 8) (N := some 2) (v := ?_) (a' := ?_) #[true, true, true, true, true, true, true, true, true, false, false] rfl rfl (any_of HT_.out zq16) (fun _ _ _ h => h) (Or.inl ⟨by rfl, ?_⟩) ?_ ?_
      rotate_left
      ·intro w'
       go_simp
       with_reducible rfl
      rotate_left
      ·simp only [Act.put, List.setIfInBounds_toArray, List.set_cons_zero, List.set_cons_succ, i64_w, i32_w]
       rfl
      refine pure_ (i := 9) (N := some 3) (v := ?_) (a' := ?_) #[true, true, true, true, true, true, true, true, true, true, false] rfl rfl (any_of HT_.out zq16) (fun _ _ _ h => h) (Or.inl ⟨by rfl, ?_⟩) ?_ ?_
      rotate_left
      ·intro w'
       go_simp
       with_reducible rfl
      rotate_left
      ·simp only [Act.put, List.setIfInBounds_toArray, List.set_cons_zero, List.set_cons_succ, i64_w, i32_w]
       rfl
      refine pure_ (i := 10) (N := some 4) (v := ?_) (a' := ?_) #[true, true, true, true, true, true, true, true, true, true, true] rfl rfl (any_of HT_.out zq16) (fun _ _ _ h => h) (Or.inl ⟨by rfl, ?_⟩) ?_ ?_
      rotate_left
      ·intro w'
       go_simp
       with_reducible rfl
      rotate_left
      ·simp only [Act.put, List.setIfInBounds_toArray, List.set_cons_zero, List.set_cons_succ, i64_w, i32_w]
       rfl
      refine done_ (done_of HT_.out zq16) ?_
      try go_wp2
      go_ret3
      exact ⟨by first | rfl | (simp [errW_none, errW_some] <;> rfl) | (simp [*, errW_none, errW_some] <;> rfl), by repeat (first | (with_reducible first | exact HB.out | apply below_alloc | apply pw_below_drewN | apply below_drew1) | exact HB.out)⟩
 rw [if_pos c6] at H
 have c6b0 : ((bt a0 0) == 91) = true := beq_iff_eq.mpr c6
 have c6b1 : ((bt a0 0) != 91) = false := bne_eq_false_iff_eq.mpr c6
 clear c6
 have HC7 := mk0 H
 clear H
 have p4 : 0 ≤ (0 : Int) := (by omega)
 have q4 : 0 < a0.size := (by have : (0 : Int) < (a0.size : Int) := of_decide_eq_true zq1; omega)
 have hx4 : ∀ h : 0 < a0.size, ((a0[0]'h).toNat : Int) = bt a0 0 := bt_at a0 0
 clear p4
 have qi4 : (0 < (a0.size : Int)) = True := eq_true (of_decide_eq_true zq1)
 replace q4 := eq_true q4
 go_enter Tryd.func22, Tryd.ntmps22
 go_upto_block 1 with (fail)
 go_cut [6] (fun v6 wc => ∃ (kq : Nat) (x6_6 : Int), v6 = .int .i64 x6_6 ∧ Aside0 (spec_pathPartB.j1 kq a0 x6_6 = some (r1, r2, r3)) ∧ Aside0 (kq ≤ k) ∧ Aside0 (Below w.heap.size w wc))
 case first =>
  have H := HC7.out
  clear HC7
  have H' := mk0 H
  clear H
  go_wp2
  go_loopg [6] k (fun kq v6 w' => ∃ (x6_1 : Int), v6 = .int .i64 x6_1 ∧ Aside0 (spec_pathPartB.l0 kq a0 x6_1 = some (r1, r2, r3)) ∧ Aside0 (kq ≤ k) ∧ Aside0 (Below w.heap.size w w'))
  case atStart => exact ⟨(1), zq3, H', ⟨Nat.le_refl _⟩, ⟨by repeat (first | (with_reducible first | exact HB.out | apply below_alloc | apply pw_below_drewN | apply below_drew1) | exact HB.out)⟩⟩
  case round =>
   clear H'
   try clear c2
   try clear c2b0
   try clear c2b1
   try clear p2
   try clear c3
   try clear c3b0
   try clear c3b1
   try clear p4
   try clear q4
   try clear hx4
   try clear qi4
   try clear c5
   try clear c5b0
   try clear c5b1
   try clear c6
   try clear c6b0
   try clear c6b1
   try clear p4
   try clear q4
   obtain ⟨x6_1, rfl, HA, HK1, HB⟩ := hrel
   cases gk with
   | zero => exact absurd HA.out (by simp [spec_pathPartB.l0])
   | succ k1 =>
    have H := HA.out
    clear HA
    simp only [spec_pathPartB.l0] at H
    by_cases c8 : x6_1 < (a0.size : Int)
    rotate_left
    ·rw [if_neg c8] at H
     have c8b0 : decide (x6_1 < (a0.size : Int)) = false := decide_eq_false c8
     clear c8
     (first | rw [c8b0] | (simp only [i64_w, i32_w]; rw [c8b0]) | skip)
     have H' := mk0 H
     clear H
     go_wp2
     go_meet
     case rel => exact ⟨_, (x6_1), zq3, H', ⟨by have := HK1.out; first | omega | exact Nat.le_refl _⟩, ⟨by repeat (first | (with_reducible first | exact HB.out | apply below_alloc | apply pw_below_drewN | apply below_drew1) | exact HB.out)⟩⟩
    rw [if_pos c8] at H
    have c8b0 : decide (x6_1 < (a0.size : Int)) = true := decide_eq_true c8
    clear c8
    (first | rw [c8b0] | (simp only [i64_w, i32_w]; rw [c8b0]) | skip)
    by_cases c9 : 0 ≤ x6_1
    rotate_left
    ·rw [if_neg c9] at H
     exact absurd H (by simp)
    rw [if_pos c9] at H
    have c9b0 : decide (0 ≤ x6_1) = true := decide_eq_true c9
    clear c9
    by_cases c11 : 48 ≤ (bt a0 x6_1)
    rotate_left
    ·rw [if_neg c11] at H
     have c11b0 : decide (48 ≤ (bt a0 x6_1)) = false := decide_eq_false c11
     clear c11
     have H' := mk0 H
     clear H
     have p10 : 0 ≤ (x6_1 : Int) := of_decide_eq_true zq1
     have q10 : x6_1 < (a0.size : Int) := of_decide_eq_true zq1
     have hx10 := bt_at a0 x6_1
     replace p10 := eq_true p10
     replace q10 := eq_true q10
     go_wp2
     go_meet
     case rel => exact ⟨_, (x6_1), zq3, H', ⟨by have := HK1.out; first | omega | exact Nat.le_refl _⟩, ⟨by repeat (first | (with_reducible first | exact HB.out | apply below_alloc | apply pw_below_drewN | apply below_drew1) | exact HB.out)⟩⟩
    rw [if_pos c11] at H
    have c11b0 : decide (48 ≤ (bt a0 x6_1)) = true := decide_eq_true c11
    clear c11
    by_cases c13 : (bt a0 x6_1) ≤ 57
    rotate_left
    ·rw [if_neg c13] at H
     have c13b0 : decide ((bt a0 x6_1) ≤ 57) = false := decide_eq_false c13
     clear c13
     have H' := mk0 H
     clear H
     have p10 : 0 ≤ (x6_1 : Int) := of_decide_eq_true zq1
     have q10 : x6_1 < (a0.size : Int) := of_decide_eq_true zq1
     have hx10 := bt_at a0 x6_1
     replace p10 := eq_true p10
     replace q10 := eq_true q10
     have p12 : 0 ≤ (x6_1 : Int) := of_decide_eq_true zq1
     have q12 : x6_1 < (a0.size : Int) := of_decide_eq_true zq1
     have hx12 := bt_at a0 x6_1
     replace p12 := eq_true p12
     replace q12 := eq_true q12
     go_wp2
     go_meet
     case rel => exact ⟨_, (x6_1), zq3, H', ⟨by have := HK1.out; first | omega | exact Nat.le_refl _⟩, ⟨by repeat (first | (with_reducible first | exact HB.out | apply below_alloc | apply pw_below_drewN | apply below_drew1) | exact HB.out)⟩⟩
    rw [if_pos c13] at H
    have c13b0 : decide ((bt a0 x6_1) ≤ 57) = true := decide_eq_true c13
    clear c13
    have H' := mk0 H
    clear H
    have p10 : 0 ≤ (x6_1 : Int) := of_decide_eq_true zq1
    have q10 : x6_1 < (a0.size : Int) := of_decide_eq_true zq1
    have hx10 := bt_at a0 x6_1
    replace p10 := eq_true p10
    replace q10 := eq_true q10
    have p12 : 0 ≤ (x6_1 : Int) := of_decide_eq_true zq1
    have q12 : x6_1 < (a0.size : Int) := of_decide_eq_true zq1
    have hx12 := bt_at a0 x6_1
    replace p12 := eq_true p12
    replace q12 := eq_true q12
    go_wp2
    go_roundg k1
    case measure => have := HK1.out; omega
    case rel => exact ⟨(wrap64 (x6_1 + 1)), zq3, H', ⟨by have := HK1.out; omega⟩, ⟨by repeat (first | (with_reducible first | exact HB.out | apply below_alloc | apply pw_below_drewN | apply below_drew1) | exact HB.out)⟩⟩
 case rest =>
  clear HC7
  try clear c1
  try clear p1
  try clear q1
  try clear hx1
  try clear c2
  try clear c2b0
  try clear c2b1
  try clear p2
  try clear c3
  try clear c3b0
  try clear c3b1
  try clear p4
  try clear q4
  try clear hx4
  try clear qi4
  try clear c5
  try clear c5b0
  try clear c5b1
  try clear c6
  try clear c6b0
  try clear c6b1
  try clear p6
  try clear c8
  try clear c8b0
  try clear c9
  try clear c9b0
  try clear p10
  try clear q10
  try clear hx10
  try clear c11
  try clear c11b0
  try clear p12
  try clear q12
  try clear hx12
  try clear c13
  try clear c13b0
  try clear p10
  try clear p12
  try clear p2
  try clear p4
  try clear q10
  try clear q12
  try clear q4
  obtain ⟨kq, x6_6, rfl, HA, HJ6, HB⟩ := hcut
  cases kq with
  | zero => exact absurd HA.out (by simp [spec_pathPartB.j1])
  | succ kj6 =>
   have H := HA.out
   clear HA
   simp only [spec_pathPartB.j1] at H
   have HC14 := mk0 H
   clear H
   go_upto_region 13 with (fail)
   go_cut [60] (fun v60 wc => ∃ (kq : Nat) (x60_13 : Bool), v60 = .bool x60_13 ∧ Aside0 (spec_pathPartB.j2 kq a0 x6_6 x60_13 = some (r1, r2, r3)) ∧ Aside0 (kq ≤ kj6) ∧ Aside0 (Below w.heap.size w wc))
   case first =>
    have H := HC14.out
    clear HC14
    by_cases c15 : x6_6 = 1
    rotate_left
    ·rw [if_neg c15] at H
     have c15b0 : (x6_6 == 1) = false := beq_eq_false_iff_ne.mpr c15
     have c15b1 : (x6_6 != 1) = true := bne_iff_ne.mpr c15
     (first | rw [c15b0] | (simp only [i64_w, i32_w]; rw [c15b0]) | skip)
     have H' := mk0 H
     clear H
     go_wp2
     go_meet
     case rel => exact ⟨_, (false), zq3, H', ⟨by have := HJ6.out; first | omega | exact Nat.le_refl _⟩, ⟨by repeat (first | (with_reducible first | exact HB.out | apply below_alloc | apply pw_below_drewN | apply below_drew1) | exact HB.out)⟩⟩
    rw [if_pos c15] at H
    have c15b0 : (x6_6 == 1) = true := beq_iff_eq.mpr c15
    have c15b1 : (x6_6 != 1) = false := bne_eq_false_iff_eq.mpr c15
    clear c15
    (first | rw [c15b0] | (simp only [i64_w, i32_w]; rw [c15b0]) | skip)
    by_cases c16 : x6_6 < (a0.size : Int)
    rotate_left
    ·rw [if_neg c16] at H
     have c16b0 : decide (x6_6 < (a0.size : Int)) = false := decide_eq_false c16
     clear c16
     have H' := mk0 H
     clear H
     go_wp2
     go_meet
     case rel => exact ⟨_, (false), zq3, H', ⟨by have := HJ6.out; first | omega | exact Nat.le_refl _⟩, ⟨by repeat (first | (with_reducible first | exact HB.out | apply below_alloc | apply pw_below_drewN | apply below_drew1) | exact HB.out)⟩⟩
    rw [if_pos c16] at H
    have c16b0 : decide (x6_6 < (a0.size : Int)) = true := decide_eq_true c16
    clear c16
    by_cases c17 : 0 ≤ x6_6
    rotate_left
    ·rw [if_neg c17] at H
     exact absurd H (by simp)
    rw [if_pos c17] at H
    have c17b0 : decide (0 ≤ x6_6) = true := decide_eq_true c17
    clear c17
    have H' := mk0 H
    clear H
    have p18 : 0 ≤ (x6_6 : Int) := of_decide_eq_true zq1
    have q18 : x6_6 < (a0.size : Int) := of_decide_eq_true zq1
    have hx18 := bt_at a0 x6_6
    replace p18 := eq_true p18
    replace q18 := eq_true q18
    go_wp2
    go_meet
    case rel => exact ⟨_, (((bt a0 x6_6) == 42)), zq3, H', ⟨by have := HJ6.out; first | omega | exact Nat.le_refl _⟩, ⟨by repeat (first | (with_reducible first | exact HB.out | apply below_alloc | apply pw_below_drewN | apply below_drew1) | exact HB.out)⟩⟩
   case rest =>
    clear HC14
    try clear c1
    try clear p1
    try clear q1
    try clear hx1
    try clear c2
    try clear c2b0
    try clear c2b1
    try clear p2
    try clear c3
    try clear c3b0
    try clear c3b1
    try clear p4
    try clear q4
    try clear hx4
    try clear qi4
    try clear c5
    try clear c5b0
    try clear c5b1
    try clear c6
    try clear c6b0
    try clear c6b1
    try clear p6
    try clear c8
    try clear c8b0
    try clear c9
    try clear c9b0
    try clear p10
    try clear q10
    try clear hx10
    try clear c11
    try clear c11b0
    try clear p12
    try clear q12
    try clear hx12
    try clear c13
    try clear c13b0
    try clear c15
    try clear c15b0
    try clear c15b1
    try clear c16
    try clear c16b0
    try clear c17
    try clear c17b0
    try clear p18
    try clear q18
    try clear hx18
    try clear p1
    try clear p10
    try clear p12
    try clear p18
    try clear p2
    try clear p4
    try clear p6
    try clear q1
    try clear q10
    try clear q12
    try clear q18
    try clear q4
    obtain ⟨kq, x60_13, rfl, HA, HJ13, HB⟩ := hcut
    cases kq with
    | zero => exact absurd HA.out (by simp [spec_pathPartB.j2])
    | succ kj13 =>
     have H := HA.out
     clear HA
     simp only [spec_pathPartB.j2] at H
     by_cases c19 : x60_13 = true
     rotate_left
     ·replace c19 := Bool.eq_false_iff.mpr c19
      subst c19
      have H1 : (if x6_6 = 1 then (some ((⟨#[]⟩ : ByteArray), (⟨#[]⟩ : ByteArray), false)) else (if x6_6 = (a0.size : Int) then (some ((⟨#[]⟩ : ByteArray), (⟨#[]⟩ : ByteArray), false)) else (if 0 ≤ x6_6 then (if x6_6 < (a0.size : Int) then (if (bt a0 x6_6) = 93 then (if 0 ≤ (wrap64 (x6_6 + 1)) then (if (wrap64 (x6_6 + 1)) ≤ (a0.size : Int) then (some (a0.extract 0 ((wrap64 (x6_6 + 1)) : Int).toNat, a0.extract ((wrap64 (x6_6 + 1)) : Int).toNat a0.size, true)) else (none)) else (none)) else (some ((⟨#[]⟩ : ByteArray), (⟨#[]⟩ : ByteArray), false))) else (none)) else (none)))) = some (r1, r2, r3) := by rw [if_neg (show ¬ (false = true) by decide)] at H; exact H
      clear H
      have H := H1
      clear H1
      by_cases c33 : x6_6 = 1
      ·rw [if_pos c33] at H
       have c33b0 : (x6_6 == 1) = true := beq_iff_eq.mpr c33
       have c33b1 : (x6_6 != 1) = false := bne_eq_false_iff_eq.mpr c33
       clear c33
       simp only [Option.some.injEq, Prod.mk.injEq] at H
       obtain ⟨rfl, rfl, rfl⟩ := H
       go_wp2
       go_ret3
       exact ⟨by first | rfl | (simp [errW_none, errW_some] <;> rfl) | (simp [*, errW_none, errW_some] <;> rfl), by repeat (first | (with_reducible first | exact HB.out | apply below_alloc | apply pw_below_drewN | apply below_drew1) | exact HB.out)⟩
      rw [if_neg c33] at H
      have c33b0 : (x6_6 == 1) = false := beq_eq_false_iff_ne.mpr c33
      have c33b1 : (x6_6 != 1) = true := bne_iff_ne.mpr c33
      by_cases c34 : x6_6 = (a0.size : Int)
      ·rw [if_pos c34] at H
       have c34b0 : (x6_6 == (a0.size : Int)) = true := beq_iff_eq.mpr c34
       have c34b1 : (x6_6 != (a0.size : Int)) = false := bne_eq_false_iff_eq.mpr c34
       clear c34
       simp only [Option.some.injEq, Prod.mk.injEq] at H
       obtain ⟨rfl, rfl, rfl⟩ := H
       go_wp2
       go_ret3
       exact ⟨by first | rfl | (simp [errW_none, errW_some] <;> rfl) | (simp [*, errW_none, errW_some] <;> rfl), by repeat (first | (with_reducible first | exact HB.out | apply below_alloc | apply pw_below_drewN | apply below_drew1) | exact HB.out)⟩
      rw [if_neg c34] at H
      have c34b0 : (x6_6 == (a0.size : Int)) = false := beq_eq_false_iff_ne.mpr c34
      have c34b1 : (x6_6 != (a0.size : Int)) = true := bne_iff_ne.mpr c34
      by_cases c35 : 0 ≤ x6_6
      rotate_left
      ·rw [if_neg c35] at H
       exact absurd H (by simp)
      rw [if_pos c35] at H
      have c35b0 : decide (0 ≤ x6_6) = true := decide_eq_true c35
      clear c35
      by_cases c36 : x6_6 < (a0.size : Int)
      rotate_left
      ·rw [if_neg c36] at H
       exact absurd H (by simp)
      rw [if_pos c36] at H
      have c36b0 : decide (x6_6 < (a0.size : Int)) = true := decide_eq_true c36
      clear c36
      by_cases c38 : (bt a0 x6_6) = 93
      rotate_left
      ·rw [if_neg c38] at H
       have c38b0 : ((bt a0 x6_6) == 93) = false := beq_eq_false_iff_ne.mpr c38
       have c38b1 : ((bt a0 x6_6) != 93) = true := bne_iff_ne.mpr c38
       simp only [Option.some.injEq, Prod.mk.injEq] at H
       obtain ⟨rfl, rfl, rfl⟩ := H
       have p37 : 0 ≤ (x6_6 : Int) := of_decide_eq_true zq1
       have q37 : x6_6 < (a0.size : Int) := of_decide_eq_true zq1
       have hx37 := bt_at a0 x6_6
       replace p37 := eq_true p37
       replace q37 := eq_true q37
       go_wp2
       go_ret3
       exact ⟨by first | rfl | (simp [errW_none, errW_some] <;> rfl) | (simp [*, errW_none, errW_some] <;> rfl), by repeat (first | (with_reducible first | exact HB.out | apply below_alloc | apply pw_below_drewN | apply below_drew1) | exact HB.out)⟩
      rw [if_pos c38] at H
      have c38b0 : ((bt a0 x6_6) == 93) = true := beq_iff_eq.mpr c38
      have c38b1 : ((bt a0 x6_6) != 93) = false := bne_eq_false_iff_eq.mpr c38
      clear c38
      obtain ⟨ji39, hji39⟩ : ∃ j_ : Int, (wrap64 (x6_6 + 1)) = j_ := ⟨_, rfl⟩
      replace H : (if 0 ≤ (ji39) then (if (ji39) ≤ (a0.size : Int) then (some (a0.extract 0 ((ji39) : Int).toNat, a0.extract ((ji39) : Int).toNat a0.size, true)) else (none)) else (none)) = some (r1, r2, r3) := by first | (rw [hji39] at H; exact H) | (simp only [hji39] at H ⊢; exact H)
      have hji39w : (IntKind.i64.wrap (x6_6 + 1)) = ji39 := (i64_w _).trans hji39
      by_cases c40 : 0 ≤ (ji39)
      rotate_left
      ·rw [if_neg c40] at H
       exact absurd H (by simp)
      rw [if_pos c40] at H
      have c40b0 := eq_true c40
      have c40b1 : decide (0 ≤ (ji39)) = true := decide_eq_true c40
      clear c40
      by_cases c41 : (ji39) ≤ (a0.size : Int)
      rotate_left
      ·rw [if_neg c41] at H
       exact absurd H (by simp)
      rw [if_pos c41] at H
      have c41b0 := eq_true c41
      have c41b1 : decide ((ji39) ≤ (a0.size : Int)) = true := decide_eq_true c41
      clear c41
      have c42b0 := eq_true (of_decide_eq_true zq1 : 0 ≤ (ji39))
      have c43b0 := eq_true (of_decide_eq_true zq1 : (ji39) ≤ (a0.size : Int))
      simp only [Option.some.injEq, Prod.mk.injEq] at H
      obtain ⟨rfl, rfl, rfl⟩ := H
      have p37 : 0 ≤ (x6_6 : Int) := of_decide_eq_true zq1
      have q37 : x6_6 < (a0.size : Int) := of_decide_eq_true zq1
      have hx37 := bt_at a0 x6_6
      replace p37 := eq_true p37
      replace q37 := eq_true q37
      try go_wp2
      have n0_ := mk0 (below_drew1 HB.out)
      clear HB
      have HB := n0_
      clear n0_
      refine start_ (n := 11) (S := fun w' => True) (ds := []) #[false, false, false, false, false, false, false, false, false, false, false] zq16 rfl rfl trivial (fun hHeld => ?_); refine with_tabW spec_pathPartB.tab17 spec_pathPartB.bits17 (fun HT_ HW_ => ?_)
      generalize wc.drew = w44 at HB hHeld ⊢
      refine pure_ (i := 0) (N := some 77) (v := ?_) (a' := ?_) #[true, false, false, false, false, false, false, false, false, false, false] rfl rfl (any_of HT_.out zq16) (fun _ _ _ h => h) (Or.inl ⟨by rfl, ?_⟩) ?_ ?_
      rotate_left
      ·intro w'
       go_simp
       with_reducible rfl
      rotate_left
      ·simp only [Act.put, List.setIfInBounds_toArray, List.set_cons_zero, List.set_cons_succ, i64_w, i32_w]
       rfl
      refine pure_ (i := 1) (N := some 78) (v := ?_) (a' := ?_) #[true, true, false, false, false, false, false, false, false, false, false] rfl rfl (any_of HT_.out zq16) (fun _ _ _ h => h) (Or.inl ⟨by rfl, ?_⟩) ?_ ?_
      rotate_left
      ·intro w'
       go_simp
       with_reducible rfl
      rotate_left
      ·simp only [Act.put, List.setIfInBounds_toArray, List.set_cons_zero, List.set_cons_succ, i64_w, i32_w]
       rfl
      refine pure_ (i := 2) (N := some 79) (v := ?_) (a' := ?_) #[true, true, true, false, false, false, false, false, false, false, false] rfl rfl (any_of HT_.out zq16) (fun _ _ _ h => h) (Or.inl ⟨by rfl, ?_⟩) ?_ ?_
      rotate_left
      ·intro w'
       go_simp
       with_reducible rfl
      rotate_left
      ·simp only [Act.put, List.setIfInBounds_toArray, List.set_cons_zero, List.set_cons_succ, i64_w, i32_w]
       rfl
      refine pure_ (i := 3) (N := some 80) (v := ?_) (a' := ?_) #[true, true, true, true, false, false, false, false, false, false, false] rfl rfl (any_of HT_.out zq16) (fun _ _ _ h => h) (Or.inl ⟨by rfl, ?_⟩) ?_ ?_
      rotate_left
      ·intro w'
       go_simp
       with_reducible rfl
      rotate_left
      ·simp only [Act.put, List.setIfInBounds_toArray, List.set_cons_zero, List.set_cons_succ, i64_w, i32_w]
       rfl
      refine pure_ (i := 4) (N := some 81) (v := ?_) (a' := ?_) #[true, true, true, true, true, false, false, false, false, false, false] rfl rfl (any_of HT_.out zq16) (fun _ _ _ h => h) (Or.inl ⟨by rfl, ?_⟩) ?_ ?_
      rotate_left
      ·intro w'
       go_simp
       with_reducible rfl
      rotate_left
      ·simp only [Act.put, List.setIfInBounds_toArray, List.set_cons_zero, List.set_cons_succ, i64_w, i32_w]
       rfl
      refine pure_ (i := 5) (N := some 82) (v := ?_) (a' := ?_) #[true, true, true, true, true, true, false, false, false, false, false] rfl rfl (any_of HT_.out zq16) (fun _ _ _ h => h) (Or.inl ⟨by rfl, ?_⟩) ?_ ?_
      rotate_left
      ·intro w'
       go_simp
       with_reducible rfl
      rotate_left
      ·simp only [Act.put, List.setIfInBounds_toArray, List.set_cons_zero, List.set_cons_succ, i64_w, i32_w]
       rfl
      refine pure_ (i := 6) (N := some 83) (v := ?_) (a' := ?_) #[true, true, true, true, true, true, true, false, false, false, false] rfl rfl (any_of HT_.out zq16) (fun _ _ _ h => h) (Or.inl ⟨by rfl, ?_⟩) ?_ ?_
      rotate_left
      ·intro w'
       go_simp
       with_reducible rfl
      rotate_left
      ·simp only [Act.put, List.setIfInBounds_toArray, List.set_cons_zero, List.set_cons_succ, i64_w, i32_w]
       rfl
      refine pure_ (i := 7) (N := some 84) (v := ?_) (a' := ?_) #[true, true, true, true, true, true, true, true, false, false, false] rfl rfl (any_of HT_.out zq16) (fun _ _ _ h => h) (Or.inl ⟨by rfl, ?_⟩) ?_ ?_
      rotate_left
      ·intro w'
       go_simp
       with_reducible rfl
      rotate_left
      ·simp only [Act.put, List.setIfInBounds_toArray, List.set_cons_zero, List.set_cons_succ, i64_w, i32_w]
       rfl
      refine pure_ (i := 8) (N := some 2) (v := ?_) (a' := ?_) #[true, true, true, true, true, true, true, true, true, false, false] rfl rfl (any_of HT_.out zq16) (fun _ _ _ h => h) (Or.inl ⟨by rfl, ?_⟩) ?_ ?_
      rotate_left
      ·intro w'
       go_simp
       with_reducible rfl
      rotate_left
      ·simp only [Act.put, List.setIfInBounds_toArray, List.set_cons_zero, List.set_cons_succ, i64_w, i32_w]
       rfl
      refine pure_ (i := 9) (N := some 3) (v := ?_) (a' := ?_) #[true, true, true, true, true, true, true, true, true, true, false] rfl rfl (any_of HT_.out zq16) (fun _ _ _ h => h) (Or.inl ⟨by rfl, ?_⟩) ?_ ?_
      rotate_left
      ·intro w'
       go_simp
       with_reducible rfl
      rotate_left
      ·simp only [Act.put, List.setIfInBounds_toArray, List.set_cons_zero, List.set_cons_succ, i64_w, i32_w]
       rfl
      refine pure_ (i := 10) (N := some 4) (v := ?_) (a' := ?_) #[true, true, true, true, true, true, true, true, true, true, true] rfl rfl (any_of HT_.out zq16) (fun _ _ _ h => h) (Or.inl ⟨by rfl, ?_⟩) ?_ ?_
      rotate_left
      ·intro w'
       go_simp
       with_reducible rfl
      rotate_left
      ·simp only [Act.put, List.setIfInBounds_toArray, List.set_cons_zero, List.set_cons_succ, i64_w, i32_w]
       rfl
      refine done_ (done_of HT_.out zq16) ?_
      try go_wp2
      go_ret3
      exact ⟨by first | rfl | (simp [errW_none, errW_some] <;> rfl) | (simp only [← hji39]; first | rfl | (simp [errW_none, errW_some] <;> rfl)) | (simp [*, errW_none, errW_some] <;> rfl), by repeat (first | (with_reducible first | exact HB.out | apply below_alloc | apply pw_below_drewN | apply below_drew1) | exact HB.out)⟩
     subst c19
     have H1 : (if (wrap64 (x6_6 + 1)) = 1 then (some ((⟨#[]⟩ : ByteArray), (⟨#[]⟩ : ByteArray), false)) else (if (wrap64 (x6_6 + 1)) = (a0.size : Int) then (some ((⟨#[]⟩ : ByteArray), (⟨#[]⟩ : ByteArray), false)) else (if 0 ≤ (wrap64 (x6_6 + 1)) then (if (wrap64 (x6_6 + 1)) < (a0.size : Int) then (if (bt a0 (wrap64 (x6_6 + 1))) = 93 then (if 0 ≤ (wrap64 ((wrap64 (x6_6 + 1)) + 1)) then (if (wrap64 ((wrap64 (x6_6 + 1)) + 1)) ≤ (a0.size : Int) then (some (a0.extract 0 ((wrap64 ((wrap64 (x6_6 + 1)) + 1)) : Int).toNat, a0.extract ((wrap64 ((wrap64 (x6_6 + 1)) + 1)) : Int).toNat a0.size, true)) else (none)) else (none)) else (some ((⟨#[]⟩ : ByteArray), (⟨#[]⟩ : ByteArray), false))) else (none)) else (none)))) = some (r1, r2, r3) := by rw [if_pos rfl] at H; exact H
     clear H
     have H := H1
     clear H1
     by_cases c20 : (wrap64 (x6_6 + 1)) = 1
     ·rw [if_pos c20] at H
      have c20b0 : ((wrap64 (x6_6 + 1)) == 1) = true := beq_iff_eq.mpr c20
      have c20b1 : ((wrap64 (x6_6 + 1)) != 1) = false := bne_eq_false_iff_eq.mpr c20
      clear c20
      simp only [Option.some.injEq, Prod.mk.injEq] at H
      obtain ⟨rfl, rfl, rfl⟩ := H
      go_wp2
      go_ret3
      exact ⟨by first | rfl | (simp [errW_none, errW_some] <;> rfl) | (simp [*, errW_none, errW_some] <;> rfl), by repeat (first | (with_reducible first | exact HB.out | apply below_alloc | apply pw_below_drewN | apply below_drew1) | exact HB.out)⟩
     rw [if_neg c20] at H
     have c20b0 : ((wrap64 (x6_6 + 1)) == 1) = false := beq_eq_false_iff_ne.mpr c20
     have c20b1 : ((wrap64 (x6_6 + 1)) != 1) = true := bne_iff_ne.mpr c20
     by_cases c21 : (wrap64 (x6_6 + 1)) = (a0.size : Int)
     ·rw [if_pos c21] at H
      have c21b0 : ((wrap64 (x6_6 + 1)) == (a0.size : Int)) = true := beq_iff_eq.mpr c21
      have c21b1 : ((wrap64 (x6_6 + 1)) != (a0.size : Int)) = false := bne_eq_false_iff_eq.mpr c21
      clear c21
      simp only [Option.some.injEq, Prod.mk.injEq] at H
      obtain ⟨rfl, rfl, rfl⟩ := H
      go_wp2
      go_ret3
      exact ⟨by first | rfl | (simp [errW_none, errW_some] <;> rfl) | (simp [*, errW_none, errW_some] <;> rfl), by repeat (first | (with_reducible first | exact HB.out | apply below_alloc | apply pw_below_drewN | apply below_drew1) | exact HB.out)⟩
     rw [if_neg c21] at H
     have c21b0 : ((wrap64 (x6_6 + 1)) == (a0.size : Int)) = false := beq_eq_false_iff_ne.mpr c21
     have c21b1 : ((wrap64 (x6_6 + 1)) != (a0.size : Int)) = true := bne_iff_ne.mpr c21
     obtain ⟨ji22, hji22⟩ : ∃ j_ : Int, (wrap64 (x6_6 + 1)) = j_ := ⟨_, rfl⟩
     replace H : (if 0 ≤ (ji22) then (if (ji22) < (a0.size : Int) then (if (bt a0 (ji22)) = 93 then (if 0 ≤ (wrap64 ((ji22) + 1)) then (if (wrap64 ((ji22) + 1)) ≤ (a0.size : Int) then (some (a0.extract 0 ((wrap64 ((ji22) + 1)) : Int).toNat, a0.extract ((wrap64 ((ji22) + 1)) : Int).toNat a0.size, true)) else (none)) else (none)) else (some ((⟨#[]⟩ : ByteArray), (⟨#[]⟩ : ByteArray), false))) else (none)) else (none)) = some (r1, r2, r3) := by first | (rw [hji22] at H; exact H) | (simp only [hji22] at H ⊢; exact H)
     (try rw [hji22] at c20b0)
     (try rw [hji22] at c20b1)
     (try rw [hji22] at c21b0)
     (try rw [hji22] at c21b1)
     have hji22w : (IntKind.i64.wrap (x6_6 + 1)) = ji22 := (i64_w _).trans hji22
     by_cases c23 : 0 ≤ (ji22)
     rotate_left
     ·rw [if_neg c23] at H
      exact absurd H (by simp)
     rw [if_pos c23] at H
     have c23b0 : decide (0 ≤ (ji22)) = true := decide_eq_true c23
     clear c23
     by_cases c24 : (ji22) < (a0.size : Int)
     rotate_left
     ·rw [if_neg c24] at H
      exact absurd H (by simp)
     rw [if_pos c24] at H
     have c24b0 : decide ((ji22) < (a0.size : Int)) = true := decide_eq_true c24
     clear c24
     by_cases c26 : (bt a0 (ji22)) = 93
     rotate_left
     ·rw [if_neg c26] at H
      have c26b0 : ((bt a0 (ji22)) == 93) = false := beq_eq_false_iff_ne.mpr c26
      have c26b1 : ((bt a0 (ji22)) != 93) = true := bne_iff_ne.mpr c26
      simp only [Option.some.injEq, Prod.mk.injEq] at H
      obtain ⟨rfl, rfl, rfl⟩ := H
      have p25 : 0 ≤ ((ji22) : Int) := of_decide_eq_true zq1
      have q25 : (ji22) < (a0.size : Int) := of_decide_eq_true zq1
      have hx25 := bt_at a0 (ji22)
      replace p25 := eq_true p25
      replace q25 := eq_true q25
      go_wp2
      go_ret3
      exact ⟨by first | rfl | (simp [errW_none, errW_some] <;> rfl) | (simp only [← hji22]; first | rfl | (simp [errW_none, errW_some] <;> rfl)) | (simp [*, errW_none, errW_some] <;> rfl), by repeat (first | (with_reducible first | exact HB.out | apply below_alloc | apply pw_below_drewN | apply below_drew1) | exact HB.out)⟩
     rw [if_pos c26] at H
     have c26b0 : ((bt a0 (ji22)) == 93) = true := beq_iff_eq.mpr c26
     have c26b1 : ((bt a0 (ji22)) != 93) = false := bne_eq_false_iff_eq.mpr c26
     clear c26
     obtain ⟨ji27, hji27⟩ : ∃ j_ : Int, (wrap64 ((ji22) + 1)) = j_ := ⟨_, rfl⟩
     replace H : (if 0 ≤ (ji27) then (if (ji27) ≤ (a0.size : Int) then (some (a0.extract 0 ((ji27) : Int).toNat, a0.extract ((ji27) : Int).toNat a0.size, true)) else (none)) else (none)) = some (r1, r2, r3) := by first | (rw [hji27] at H; exact H) | (simp only [hji27] at H ⊢; exact H)
     have hji27w : (IntKind.i64.wrap ((ji22) + 1)) = ji27 := (i64_w _).trans hji27
     by_cases c28 : 0 ≤ (ji27)
     rotate_left
     ·rw [if_neg c28] at H
      exact absurd H (by simp)
     rw [if_pos c28] at H
     have c28b0 := eq_true c28
     have c28b1 : decide (0 ≤ (ji27)) = true := decide_eq_true c28
     clear c28
     by_cases c29 : (ji27) ≤ (a0.size : Int)
     rotate_left
     ·rw [if_neg c29] at H
      exact absurd H (by simp)
     rw [if_pos c29] at H
     have c29b0 := eq_true c29
     have c29b1 : decide ((ji27) ≤ (a0.size : Int)) = true := decide_eq_true c29
     clear c29
     have c30b0 := eq_true (of_decide_eq_true zq1 : 0 ≤ (ji27))
     have c31b0 := eq_true (of_decide_eq_true zq1 : (ji27) ≤ (a0.size : Int))
     simp only [Option.some.injEq, Prod.mk.injEq] at H
     obtain ⟨rfl, rfl, rfl⟩ := H
     have p25 : 0 ≤ ((ji22) : Int) := of_decide_eq_true zq1
     have q25 : (ji22) < (a0.size : Int) := of_decide_eq_true zq1
     have hx25 := bt_at a0 (ji22)
     replace p25 := eq_true p25
     replace q25 := eq_true q25
     try go_wp2
     have n0_ := mk0 (below_drew1 HB.out)
     clear HB
     have HB := n0_
     clear n0_
     refine start_ (n := 11) (S := fun w' => True) (ds := []) #[false, false, false, false, false, false, false, false, false, false, false] zq16 rfl rfl trivial (fun hHeld => ?_); refine with_tabW spec_pathPartB.tab17 spec_pathPartB.bits17 (fun HT_ HW_ => ?_)
     generalize wc.drew = w32 at HB hHeld ⊢
     refine pure_ (i := 0) (N := some 77) (v := ?_) (a' := ?_) #[true, false, false, false, false, false, false, false, false, false, false] rfl rfl (any_of HT_.out zq16) (fun _ _ _ h => h) (Or.inl ⟨by rfl, ?_⟩) ?_ ?_
     rotate_left
     ·intro w'
      go_simp
      with_reducible rfl
     rotate_left
     ·simp only [Act.put, List.setIfInBounds_toArray, List.set_cons_zero, List.set_cons_succ, i64_w, i32_w]
      rfl
     refine pure_ (i := 1) (N := some 78) (v := ?_) (a' := ?_) #[true, true, false, false, false, false, false, false, false, false, false] rfl rfl (any_of HT_.out zq16) (fun _ _ _ h => h) (Or.inl ⟨by rfl, ?_⟩) ?_ ?_
     rotate_left
     ·intro w'
      go_simp
      with_reducible rfl
     rotate_left
     ·simp only [Act.put, List.setIfInBounds_toArray, List.set_cons_zero, List.set_cons_succ, i64_w, i32_w]
      rfl
     refine pure_ (i := 2) (N := some 79) (v := ?_) (a' := ?_) #[true, true, true, false, false, false, false, false, false, false, false] rfl rfl (any_of HT_.out zq16) (fun _ _ _ h => h) (Or.inl ⟨by rfl, ?_⟩) ?_ ?_
     rotate_left
     ·intro w'
      go_simp
      with_reducible rfl
     rotate_left
     ·simp only [Act.put, List.setIfInBounds_toArray, List.set_cons_zero, List.set_cons_succ, i64_w, i32_w]
      rfl
     refine pure_ (i := 3) (N := some 80) (v := ?_) (a' := ?_) #[true, true, true, true, false, false, false, false, false, false, false] rfl rfl (any_of HT_.out zq16) (fun _ _ _ h => h) (Or.inl ⟨by rfl, ?_⟩) ?_ ?_
     rotate_left
     ·intro w'
      go_simp
      with_reducible rfl
     rotate_left
     ·simp only [Act.put, List.setIfInBounds_toArray, List.set_cons_zero, List.set_cons_succ, i64_w, i32_w]
      rfl
     refine pure_ (i := 4) (N := some 81) (v := ?_) (a' := ?_) #[true, true, true, true, true, false, false, false, false, false, false] rfl rfl (any_of HT_.out zq16) (fun _ _ _ h => h) (Or.inl ⟨by rfl, ?_⟩) ?_ ?_
     rotate_left
     ·intro w'
      go_simp
      with_reducible rfl
     rotate_left
     ·simp only [Act.put, List.setIfInBounds_toArray, List.set_cons_zero, List.set_cons_succ, i64_w, i32_w]
      rfl
     refine pure_ (i := 5) (N := some 82) (v := ?_) (a' := ?_) #[true, true, true, true, true, true, false, false, false, false, false] rfl rfl (any_of HT_.out zq16) (fun _ _ _ h => h) (Or.inl ⟨by rfl, ?_⟩) ?_ ?_
     rotate_left
     ·intro w'
      go_simp
      with_reducible rfl
     rotate_left
     ·simp only [Act.put, List.setIfInBounds_toArray, List.set_cons_zero, List.set_cons_succ, i64_w, i32_w]
      rfl
     refine pure_ (i := 6) (N := some 83) (v := ?_) (a' := ?_) #[true, true, true, true, true, true, true, false, false, false, false] rfl rfl (any_of HT_.out zq16) (fun _ _ _ h => h) (Or.inl ⟨by rfl, ?_⟩) ?_ ?_
     rotate_left
     ·intro w'
      go_simp
      with_reducible rfl
     rotate_left
     ·simp only [Act.put, List.setIfInBounds_toArray, List.set_cons_zero, List.set_cons_succ, i64_w, i32_w]
      rfl
     refine pure_ (i := 7) (N := some 84) (v := ?_) (a' := ?_) #[true, true, true, true, true, true, true, true, false, false, false] rfl rfl (any_of HT_.out zq16) (fun _ _ _ h => h) (Or.inl ⟨by rfl, ?_⟩) ?_ ?_
     rotate_left
     ·intro w'
      go_simp
      with_reducible rfl
     rotate_left
     ·simp only [Act.put, List.setIfInBounds_toArray, List.set_cons_zero, List.set_cons_succ, i64_w, i32_w]
      rfl
     refine pure_ (i := 8) (N := some 2) (v := ?_) (a' := ?_) #[true, true, true, true, true, true, true, true, true, false, false] rfl rfl (any_of HT_.out zq16) (fun _ _ _ h => h) (Or.inl ⟨by rfl, ?_⟩) ?_ ?_
     rotate_left
     ·intro w'
      go_simp
      with_reducible rfl
     rotate_left
     ·simp only [Act.put, List.setIfInBounds_toArray, List.set_cons_zero, List.set_cons_succ, i64_w, i32_w]
      rfl
     refine pure_ (i := 9) (N := some 3) (v := ?_) (a' := ?_) #[true, true, true, true, true, true, true, true, true, true, false] rfl rfl (any_of HT_.out zq16) (fun _ _ _ h => h) (Or.inl ⟨by rfl, ?_⟩) ?_ ?_
     rotate_left
     ·intro w'
      go_simp
      with_reducible rfl
     rotate_left
     ·simp only [Act.put, List.setIfInBounds_toArray, List.set_cons_zero, List.set_cons_succ, i64_w, i32_w]
      rfl
     refine pure_ (i := 10) (N := some 4) (v := ?_) (a' := ?_) #[true, true, true, true, true, true, true, true, true, true, true] rfl rfl (any_of HT_.out zq16) (fun _ _ _ h => h) (Or.inl ⟨by rfl, ?_⟩) ?_ ?_
     rotate_left
     ·intro w'
      go_simp
      with_reducible rfl
     rotate_left
     ·simp only [Act.put, List.setIfInBounds_toArray, List.set_cons_zero, List.set_cons_succ, i64_w, i32_w]
      rfl
     refine done_ (done_of HT_.out zq16) ?_
     try go_wp2
     go_ret3
     exact ⟨by first | rfl | (simp [errW_none, errW_some] <;> rfl) | (simp only [← hji22, ← hji27]; first | rfl | (simp [errW_none, errW_some] <;> rfl)) | (simp [*, errW_none, errW_some] <;> rfl), by repeat (first | (with_reducible first | exact HB.out | apply below_alloc | apply pw_below_drewN | apply below_drew1) | exact HB.out)⟩
def spec_pathPart.q (k : Nat) (a0 : ByteArray) : Option (ByteArray × ByteArray × Bool) := (spec_reader_quoted.f k a0 0).bind fun t => if t.1 = true then (if 0 ≤ t.2.2 ∧ t.2.2 ≤ (a0.size : Int) then (spec_Unquote.f k (a0.extract 0 t.2.2.toNat)).bind fun q => some (q, a0.extract t.2.2.toNat a0.size, true) else none) else some (⟨#[]⟩, ⟨#[]⟩, false)
theorem spec_pathPart.mono_q : ∀ a0 k, LeO (spec_pathPart.q k a0) (spec_pathPart.q (k + 1) a0) := fun a0 k => LeO.bind (spec_reader_quoted.mono _ _ _) (fun _ => LeO.ite (LeO.ite (LeO.bind (spec_Unquote.mono _ _) (fun _ => LeO.refl _)) (LeO.refl _)) (LeO.refl _))
def spec_pathPart.T8 : Bool × List (List Nat × List Nat) := (true, [([], []), ([], []), ([1], [1]), ([0, 2], [0, 2]), ([3], [3]), ([], []), ([], []), ([6], [6]), ([5, 7], [5, 7]), ([4, 4, 0, 1, 2, 3, 4], [4]), ([8, 9, 0, 1, 2, 3, 4, 5, 6, 7, 8, 9], [8]), ([10, 0, 1, 2, 3, 4, 5, 6, 7, 8, 9, 10], [])])
def spec_pathPart.B8 : List Nat := [0, 0, 2, 7, 15, 0, 0, 64, 224, 31, 1023, 2047]
theorem spec_pathPart.tab8 : rtab .any (opsOf Tryd.f22 8) = spec_pathPart.T8 := by kernel_rfl
theorem spec_pathPart.bits8 : waitsOk spec_pathPart.T8.2 spec_pathPart.B8 = true := by kernel_rfl
set_option maxHeartbeats 8000000 in
set_option maxRecDepth 100000 in
theorem spec_pathPart.calls_q (k : Nat) (a0 : ByteArray) (r1 : ByteArray) (r2 : ByteArray) (r3 : Bool) (w : World) (h0 : 0 < (a0.size : Int)) (h34 : bt a0 0 = 34) (h : spec_pathPart.q k a0 = some (r1, r2, r3)) :
 Calls Tryd.prog 22 #[.string a0] w fun e w' => e = .returned (.tuple #[.string r1, .string r2, .bool r3]) ∧ Below w.heap.size w w' := by
 unfold spec_pathPart.q at h
 replace h := Option.bind_eq_some_iff.mp h
 obtain ⟨⟨b, s1, at1⟩, A0, H⟩ := h
 have A := mk0 A0
 have HR := mk0 H
 clear A0 H
 have hne : ¬ a0.toList = ([] : List UInt8) := fun e => by
  have e2 : a0 = ⟨#[]⟩ := J.toList_inj (e.trans (by rw [ByteArray.toList_eq]))
  rw [e2] at h0
  exact absurd h0 zq23
 have c2b0 : (a0.toList == ([] : List UInt8)) = false := beq_eq_false_iff_ne.mpr hne
 have c2b1 : (a0.toList != ([] : List UInt8)) = true := bne_iff_ne.mpr hne
 have q4 : (0 < a0.size) = True := eq_true (by omega)
 have hx4 : ∀ h : 0 < a0.size, ((a0[0]'h).toNat : Int) = bt a0 0 := bt_at a0 0
 have qi4 : (0 < (a0.size : Int)) = True := eq_true h0
 have c3b0 : decide (0 < (a0.size : Int)) = true := decide_eq_true h0
 have c3b1 : decide (0 < a0.size) = true := decide_eq_true (by omega)
 have c5b0 : ((bt a0 0) == 34) = true := beq_iff_eq.mpr h34
 have c5b1 : ((bt a0 0) != 34) = false := bne_eq_false_iff_eq.mpr h34
 clear hne h0
 have HB := mk0 (Below.refl w.heap.size w)
 cases b with
 | false =>
  have hH := HR.out
  clear HR
  simp only [Bool.false_eq_true, if_false, Option.some.injEq, Prod.mk.injEq] at hH
  obtain ⟨rfl, rfl, rfl⟩ := hH
  go_enter Tryd.func22, Tryd.ntmps22
  go_wp2_with (first | (go_at_call 39; (refine (spec_reader_quoted.calls k w.heap.size a0 0 false s1 at1 w _ (IsS84.new w w a0 0 (Below.refl _ _)) (below_alloc (Below.refl _ _) _) A.out).mono ?_); rintro e_ w4 ⟨rfl, hI4, hB4, _⟩; have HB4 := mk0 hB4; clear hI4 hB4))
  go_ret3
  exact ⟨rfl, HB4.out⟩
 | true =>
  have hH := HR.out
  clear HR
  rw [if_pos rfl] at hH
  split at hH
  case isFalse => cases hH
  case isTrue hg =>
  obtain ⟨q, hU, hH⟩ := Option.bind_eq_some_iff.mp hH
  simp only [Option.some.injEq, Prod.mk.injEq] at hH
  obtain ⟨rfl, rfl, rfl⟩ := hH
  have HU := mk0 hU
  clear hU
  simp only at hg
  have t1 : (0 ≤ at1) = True := eq_true hg.1
  have t2 : (at1 ≤ (a0.size : Int)) = True := eq_true hg.2
  have d1 : decide (0 ≤ at1) = true := decide_eq_true hg.1
  have d2 : decide (at1 ≤ (a0.size : Int)) = true := decide_eq_true hg.2
  clear hg
  go_enter Tryd.func22, Tryd.ntmps22
  go_wp2_with (first | (go_at_call 39; (refine (spec_reader_quoted.calls k w.heap.size a0 0 true s1 at1 w _ (IsS84.new w w a0 0 (Below.refl _ _)) (below_alloc (Below.refl _ _) _) A.out).mono ?_); rintro e_ w4 ⟨rfl, hI4, hB4, _⟩; have hc4 := cellS84_1 hI4.1; have HC4 := mk0 hc4; have HB4x := mk0 hB4; clear hI4 hB4 hc4))
  have HB4 := mk0 (below_drew1 HB4x.out)
  have hc4 : w4.drew.cell? ⟨w.heap.size, 1, none⟩ = some (.int .i64 at1) := HC4.out
  clear HB4x HC4
  refine start_ (n := 12) (S := fun w' => w'.cell? ⟨w.heap.size, 1, none⟩ = some (.int .i64 at1)) (ds := []) #[false, false, false, false, false, false, false, false, false, false, false, false] zq16 rfl rfl hc4 (fun hHeld => ?_); refine with_tabW spec_pathPart.tab8 spec_pathPart.bits8 (fun HT_ HW_ => ?_)
  clear hc4
  generalize w4.drew = w4d at HB4 hHeld ⊢
  refine pure_ (i := 0) (N := some 18) (v := ?_) (a' := ?_) #[true, false, false, false, false, false, false, false, false, false, false, false] rfl rfl (any_of HT_.out zq16) (fun _ _ _ h => h) (Or.inl ⟨by rfl, ?_⟩) ?_ ?_
  rotate_left
  ·intro w'
   go_simp
   with_reducible rfl
  rotate_left
  ·simp only [Act.put, List.setIfInBounds_toArray, List.set_cons_zero, List.set_cons_succ, i64_w, i32_w]
   rfl
  refine pure_ (i := 1) (N := some 19) (v := ?_) (a' := ?_) #[true, true, false, false, false, false, false, false, false, false, false, false] rfl rfl (any_of HT_.out zq16) (fun _ _ _ h => h) (Or.inl ⟨by rfl, ?_⟩) ?_ ?_
  rotate_left
  ·intro w'
   go_simp
   with_reducible rfl
  rotate_left
  ·simp only [Act.put, List.setIfInBounds_toArray, List.set_cons_zero, List.set_cons_succ, i64_w, i32_w]
   rfl
  refine take_ (i := 2) (N := some 20) (v := ?_) (a' := ?_) #[true, true, true, false, false, false, false, false, false, false, false, false] rfl rfl (take_ofW HT_.out HW_.out zq16) (fun _ _ _ h => h) (Or.inl ⟨by rfl, ?_⟩) hHeld ?_ ?_
  rotate_left
  ·intro w' s0
   go_simp
   with_reducible rfl
  rotate_left
  ·simp only [Act.put, List.setIfInBounds_toArray, List.set_cons_zero, List.set_cons_succ, i64_w, i32_w]
   rfl
  refine pure_ (i := 3) (N := some 21) (v := ?_) (a' := ?_) #[true, true, true, true, false, false, false, false, false, false, false, false] rfl rfl (any_of HT_.out zq16) (fun _ _ _ h => h) (Or.inl ⟨by rfl, ?_⟩) ?_ ?_
  rotate_left
  ·intro w'
   go_simp
   with_reducible rfl
  rotate_left
  ·simp only [Act.put, List.setIfInBounds_toArray, List.set_cons_zero, List.set_cons_succ, i64_w, i32_w]
   rfl
  refine pure_ (i := 5) (N := some 23) (v := ?_) (a' := ?_) #[true, true, true, true, false, true, false, false, false, false, false, false] rfl rfl (any_of HT_.out zq16) (fun _ _ _ h => h) (Or.inl ⟨by rfl, ?_⟩) ?_ ?_
  rotate_left
  ·intro w'
   go_simp
   with_reducible rfl
  rotate_left
  ·simp only [Act.put, List.setIfInBounds_toArray, List.set_cons_zero, List.set_cons_succ, i64_w, i32_w]
   rfl
  refine pure_ (i := 6) (N := some 24) (v := ?_) (a' := ?_) #[true, true, true, true, false, true, true, false, false, false, false, false] rfl rfl (any_of HT_.out zq16) (fun _ _ _ h => h) (Or.inl ⟨by rfl, ?_⟩) ?_ ?_
  rotate_left
  ·intro w'
   go_simp
   with_reducible rfl
  rotate_left
  ·simp only [Act.put, List.setIfInBounds_toArray, List.set_cons_zero, List.set_cons_succ, i64_w, i32_w]
   rfl
  refine take_ (i := 7) (N := some 25) (v := ?_) (a' := ?_) #[true, true, true, true, false, true, true, true, false, false, false, false] rfl rfl (take_ofW HT_.out HW_.out zq16) (fun _ _ _ h => h) (Or.inl ⟨by rfl, ?_⟩) hHeld ?_ ?_
  rotate_left
  ·intro w' s0
   go_simp
   with_reducible rfl
  rotate_left
  ·simp only [Act.put, List.setIfInBounds_toArray, List.set_cons_zero, List.set_cons_succ, i64_w, i32_w]
   rfl
  refine pure_ (i := 8) (N := some 26) (v := ?_) (a' := ?_) #[true, true, true, true, false, true, true, true, true, false, false, false] rfl rfl (any_of HT_.out zq16) (fun _ _ _ h => h) (Or.inl ⟨by rfl, ?_⟩) ?_ ?_
  rotate_left
  ·intro w'
   go_simp
   with_reducible rfl
  rotate_left
  ·simp only [Act.put, List.setIfInBounds_toArray, List.set_cons_zero, List.set_cons_succ, i64_w, i32_w]
   rfl
  refine one_ (i := 4) (N := some 22) #[true, true, true, true, true, true, true, true, true, false, false, false] rfl rfl (one_of HT_.out zq16) zq23 (fun K hK => ?_)
  refine goes_ Tryd.func40 zq16 rfl #[.string (a0.extract 0 at1.toNat)] (by rfl) rfl rfl (by (try simp only [List.map_toArray, List.map_cons, List.map_nil]); first | done | rfl) ?_
  refine (spec_Unquote.calls k _ q _ HU.out).mono ?_
  rintro e w5 ⟨rfl, hB5⟩
  have HB5 := mk0 (below_step HB4.out hB5)
  have hc5 := (bel_cell hB5 (World.block_lt_of_cell? _ _ hHeld)).trans hHeld
  clear hB5
  refine ⟨_, rfl, ?_⟩
  refine hK.out _ _ hc5 (fun hHeld => ?_)
  clear hc5
  clear hK K
  refine norm_ (a' := ?_) ?_ ?_
  rotate_left
  ·show Act.put _ (some 22) _ = _
   simp only [Act.put, List.setIfInBounds_toArray, List.set_cons_zero, List.set_cons_succ, i64_w, i32_w]
   rfl
  refine pure_ (i := 9) (N := some 2) (v := ?_) (a' := ?_) #[true, true, true, true, true, true, true, true, true, true, false, false] rfl rfl (any_of HT_.out zq16) (fun _ _ _ h => h) (Or.inl ⟨by rfl, ?_⟩) ?_ ?_
  rotate_left
  ·intro w'
   go_simp
   with_reducible rfl
  rotate_left
  ·simp only [Act.put, List.setIfInBounds_toArray, List.set_cons_zero, List.set_cons_succ, i64_w, i32_w]
   rfl
  refine pure_ (i := 10) (N := some 3) (v := ?_) (a' := ?_) #[true, true, true, true, true, true, true, true, true, true, true, false] rfl rfl (any_of HT_.out zq16) (fun _ _ _ h => h) (Or.inl ⟨by rfl, ?_⟩) ?_ ?_
  rotate_left
  ·intro w'
   go_simp
   with_reducible rfl
  rotate_left
  ·simp only [Act.put, List.setIfInBounds_toArray, List.set_cons_zero, List.set_cons_succ, i64_w, i32_w]
   rfl
  refine pure_ (i := 11) (N := some 4) (v := ?_) (a' := ?_) #[true, true, true, true, true, true, true, true, true, true, true, true] rfl rfl (any_of HT_.out zq16) (fun _ _ _ h => h) (Or.inl ⟨by rfl, ?_⟩) ?_ ?_
  rotate_left
  ·intro w'
   go_simp
   with_reducible rfl
  rotate_left
  ·simp only [Act.put, List.setIfInBounds_toArray, List.set_cons_zero, List.set_cons_succ, i64_w, i32_w]
   rfl
  refine done_ (done_of HT_.out zq16) ?_
  try go_wp2
  go_ret3
  exact ⟨by first | rfl | (simp; done) | (simp [*]; done), HB5.out⟩
def spec_pathPart.f (k : Nat) (a0 : ByteArray) : Option (ByteArray × ByteArray × Bool) := if 0 < (a0.size : Int) ∧ bt a0 0 = 34 then spec_pathPart.q k a0 else spec_pathPartB.f k a0
theorem spec_pathPart.mono : ∀ a0 k, LeO (spec_pathPart.f k a0) (spec_pathPart.f (k + 1) a0) := fun a0 k => LeO.ite (spec_pathPart.mono_q _ _) (spec_pathPartB.mono _ _)
theorem spec_pathPart.calls (k : Nat) (a0 : ByteArray) (r1 : ByteArray) (r2 : ByteArray) (r3 : Bool) (w : World) (h : spec_pathPart.f k a0 = some (r1, r2, r3)) :
 Calls Tryd.prog 22 #[.string a0] w fun e w' => e = .returned (.tuple #[.string r1, .string r2, .bool r3]) ∧ Below w.heap.size w w' := by
 unfold spec_pathPart.f at h
 split at h
 ·rename_i hc
  exact spec_pathPart.calls_q k a0 r1 r2 r3 w hc.1 hc.2 h
 ·exact spec_pathPartB.calls k a0 r1 r2 r3 w h
mutual
def spec_PathParts.j0 : Nat → ByteArray → Bool → Option (List ByteArray × Bool)
  | 0, _, _ => none
  | k + 1, x0, x17 => if x17 = true then (if 1 < (x0.size : Int) then (if (bt x0 1) = 46 then (if 2 ≤ (x0.size : Int) then (spec_PathParts.j1 k (x0.extract 2 x0.size)) else (none)) else (if (bt x0 1) = 91 then (if 1 ≤ (x0.size : Int) then (spec_PathParts.j1 k (x0.extract 1 x0.size)) else (none)) else (some (([] : List ByteArray), false)))) else (none)) else (spec_PathParts.j1 k x0)
def spec_PathParts.j1 : Nat → ByteArray → Option (List ByteArray × Bool)
  | 0, _ => none
  | k + 1, x0 => spec_PathParts.l0 k x0 ([] : List ByteArray) true
def spec_PathParts.l0 : Nat → ByteArray → List ByteArray → Bool → Option (List ByteArray × Bool)
  | 0, _, _, _ => none
  | k + 1, x0, x4, x5 => if x5 = true then (spec_PathParts.j3 k x0 x4 x5 true) else (spec_PathParts.j3 k x0 x4 x5 (x0.toList != ([] : List UInt8)))
def spec_PathParts.j3 : Nat → ByteArray → List ByteArray → Bool → Bool → Option (List ByteArray × Bool)
  | 0, _, _, _, _ => none
  | k + 1, x0, x4, x5, x34 => if x34 = true then (if x5 = true then ((spec_pathPart.f k x0).bind fun bt101 => (if bt101.2.2 = true then (if x4.length < 8796093022208 then (spec_PathParts.l0 k bt101.2.1 (x4 ++ [bt101.1]) false) else (none)) else (some (([] : List ByteArray), false)))) else (if 0 < (x0.size : Int) then (if (bt x0 0) = 46 then (if 1 ≤ (x0.size : Int) then ((spec_pathPart.f k (x0.extract 1 x0.size)).bind fun bt107 => (if bt107.2.2 = true then (if x4.length < 8796093022208 then (spec_PathParts.l0 k bt107.2.1 (x4 ++ [bt107.1]) false) else (none)) else (some (([] : List ByteArray), false)))) else (none)) else (if (bt x0 0) = 91 then ((spec_pathPart.f k x0).bind fun bt113 => (if bt113.2.2 = true then (if x4.length < 8796093022208 then (spec_PathParts.l0 k bt113.2.1 (x4 ++ [bt113.1]) false) else (none)) else (some (([] : List ByteArray), false)))) else (some (([] : List ByteArray), false)))) else (none))) else (some (x4, true))
end
def spec_PathParts.f (k : Nat) (a0 : ByteArray) : Option (List ByteArray × Bool) := if a0.toList = ([36] : List UInt8) then (some (([] : List ByteArray), true)) else (if a0.toList = ([] : List UInt8) then (spec_PathParts.j0 k a0 false) else (if 0 < (a0.size : Int) then (spec_PathParts.j0 k a0 ((bt a0 0) == 36)) else (none)))
theorem spec_PathParts.mono_l : ∀ k, (∀ y0 y1, LeO (spec_PathParts.j0 k y0 y1) (spec_PathParts.j0 (k + 1) y0 y1)) ∧ (∀ y0, LeO (spec_PathParts.j1 k y0) (spec_PathParts.j1 (k + 1) y0)) ∧ (∀ y0 y1 y2, LeO (spec_PathParts.l0 k y0 y1 y2) (spec_PathParts.l0 (k + 1) y0 y1 y2)) ∧ (∀ y0 y1 y2 y3, LeO (spec_PathParts.j3 k y0 y1 y2 y3) (spec_PathParts.j3 (k + 1) y0 y1 y2 y3))
 | 0 => ⟨fun _ _ r h => by simp [spec_PathParts.j0] at h, fun _ r h => by simp [spec_PathParts.j1] at h, fun _ _ _ r h => by simp [spec_PathParts.l0] at h, fun _ _ _ _ r h => by simp [spec_PathParts.j3] at h⟩
 | k + 1 => by
  obtain ⟨ih0, ih1, ih2, ih3⟩ := spec_PathParts.mono_l k
  refine ⟨?_, ?_, ?_, ?_⟩
  ·intro y0 y1
   unfold spec_PathParts.j0
   repeat' first
   | (with_reducible exact ih0 _ _)
   | (with_reducible exact ih1 _)
   | (with_reducible exact ih2 _ _ _)
   | (with_reducible exact ih3 _ _ _ _)
   | (with_reducible exact spec_pathPart.mono _ _)
   | (with_reducible exact LeO.refl _)
   | (with_reducible exact LeO.none _)
   | (with_reducible refine LeO.ite ?_ ?_)
   | (with_reducible refine LeO.bind ?_ (fun _ => ?_))
   | exact ih0 _ _
   | exact ih1 _
   | exact ih2 _ _ _
   | exact ih3 _ _ _ _
   | exact spec_pathPart.mono _ _
   | exact LeO.none _
   | refine LeO.ite ?_ ?_
   | refine LeO.bind ?_ (fun _ => ?_)
  ·intro y0
   unfold spec_PathParts.j1
   repeat' first
   | (with_reducible exact ih0 _ _)
   | (with_reducible exact ih1 _)
   | (with_reducible exact ih2 _ _ _)
   | (with_reducible exact ih3 _ _ _ _)
   | (with_reducible exact spec_pathPart.mono _ _)
   | (with_reducible exact LeO.refl _)
   | (with_reducible exact LeO.none _)
   | (with_reducible refine LeO.ite ?_ ?_)
   | (with_reducible refine LeO.bind ?_ (fun _ => ?_))
   | exact ih0 _ _
   | exact ih1 _
   | exact ih2 _ _ _
   | exact ih3 _ _ _ _
   | exact spec_pathPart.mono _ _
   | exact LeO.none _
   | refine LeO.ite ?_ ?_
   | refine LeO.bind ?_ (fun _ => ?_)
  ·intro y0 y1 y2
   unfold spec_PathParts.l0
   repeat' first
   | (with_reducible exact ih0 _ _)
   | (with_reducible exact ih1 _)
   | (with_reducible exact ih2 _ _ _)
   | (with_reducible exact ih3 _ _ _ _)
   | (with_reducible exact spec_pathPart.mono _ _)
   | (with_reducible exact LeO.refl _)
   | (with_reducible exact LeO.none _)
   | (with_reducible refine LeO.ite ?_ ?_)
   | (with_reducible refine LeO.bind ?_ (fun _ => ?_))
   | exact ih0 _ _
   | exact ih1 _
   | exact ih2 _ _ _
   | exact ih3 _ _ _ _
   | exact spec_pathPart.mono _ _
   | exact LeO.none _
   | refine LeO.ite ?_ ?_
   | refine LeO.bind ?_ (fun _ => ?_)
  ·intro y0 y1 y2 y3
   unfold spec_PathParts.j3
   repeat' first
   | (with_reducible exact ih0 _ _)
   | (with_reducible exact ih1 _)
   | (with_reducible exact ih2 _ _ _)
   | (with_reducible exact ih3 _ _ _ _)
   | (with_reducible exact spec_pathPart.mono _ _)
   | (with_reducible exact LeO.refl _)
   | (with_reducible exact LeO.none _)
   | (with_reducible refine LeO.ite ?_ ?_)
   | (with_reducible refine LeO.bind ?_ (fun _ => ?_))
   | exact ih0 _ _
   | exact ih1 _
   | exact ih2 _ _ _
   | exact ih3 _ _ _ _
   | exact spec_pathPart.mono _ _
   | exact LeO.none _
   | refine LeO.ite ?_ ?_
   | refine LeO.bind ?_ (fun _ => ?_)
theorem spec_PathParts.mono : ∀ a0 k, LeO (spec_PathParts.f k a0) (spec_PathParts.f (k + 1) a0) := by
 intro a0 k
 obtain ⟨ih0, ih1, ih2, ih3⟩ := spec_PathParts.mono_l k
 unfold spec_PathParts.f
 repeat' first
  | (with_reducible exact ih0 _ _)
  | (with_reducible exact ih1 _)
  | (with_reducible exact ih2 _ _ _)
  | (with_reducible exact ih3 _ _ _ _)
  | (with_reducible exact spec_pathPart.mono _ _)
  | (with_reducible exact LeO.refl _)
  | (with_reducible exact LeO.none _)
  | (with_reducible refine LeO.ite ?_ ?_)
  | (with_reducible refine LeO.bind ?_ (fun _ => ?_))
  | exact ih0 _ _
  | exact ih1 _
  | exact ih2 _ _ _
  | exact ih3 _ _ _ _
  | exact spec_pathPart.mono _ _
  | exact LeO.none _
  | refine LeO.ite ?_ ?_
  | refine LeO.bind ?_ (fun _ => ?_)
set_option maxHeartbeats 8000000 in
set_option maxRecDepth 100000 in
theorem spec_PathParts.calls (k : Nat) (a0 : ByteArray) (r1 : List ByteArray) (r2 : Bool) (w : World) (h : spec_PathParts.f k a0 = some (r1, r2)) :
 Calls Tryd.prog 8 #[.string a0] w fun e w' => ∃ v0_ : Value, e = .returned (.tuple #[v0_, .bool r2]) ∧ Kd.R Kd.string 9 w' w.heap.size (fun _ => True) v0_ r1 ∧ Below w.heap.size w w' := by
 have HB := mk0 (Below.refl w.heap.size w)
 have H : (if a0.toList = ([36] : List UInt8) then (some (([] : List ByteArray), true)) else (if a0.toList = ([] : List UInt8) then (spec_PathParts.j0 k a0 false) else (if 0 < (a0.size : Int) then (spec_PathParts.j0 k a0 ((bt a0 0) == 36)) else (none)))) = some (r1, r2) := h
 clear h
 by_cases c2 : a0.toList = ([36] : List UInt8)
 ·rw [if_pos c2] at H
  have c2b0 : (a0.toList == ([36] : List UInt8)) = true := beq_iff_eq.mpr c2
  have c2b1 : (a0.toList != ([36] : List UInt8)) = false := bne_eq_false_iff_eq.mpr c2
  clear c2
  simp only [Option.some.injEq, Prod.mk.injEq] at H
  obtain ⟨rfl, rfl⟩ := H
  go_enter Tryd.func8, Tryd.ntmps8
  go_wp2
  go_ret2
  exact ⟨_, by first | rfl | (simp [errW_none, errW_some] <;> rfl) | (simp [*, errW_none, errW_some] <;> rfl), by first | exact Kd.R_nil _ _ _ _ _ | exact Kd.N_nil _ _ _ _ _ | exact Kd.V_nil _ _ _ _ _ | exact Kd.Q_nil _ _ _ _ _ | exact Kd.S_nil _ _ _ _ _, by repeat (first | (with_reducible first | exact HB.out | apply below_alloc | apply pw_below_drewN | apply below_drew1) | exact HB.out)⟩
 rw [if_neg c2] at H
 have c2b0 : (a0.toList == ([36] : List UInt8)) = false := beq_eq_false_iff_ne.mpr c2
 have c2b1 : (a0.toList != ([36] : List UInt8)) = true := bne_iff_ne.mpr c2
 have HC3 := mk0 H
 clear H
 go_enter Tryd.func8, Tryd.ntmps8
 go_upto_region 3 with (fail)
 go_cut [17] (fun v17 wc => ∃ (kq : Nat) (x17_2 : Bool), v17 = .bool x17_2 ∧ Aside0 (spec_PathParts.j0 kq a0 x17_2 = some (r1, r2)) ∧ Aside0 (kq ≤ k) ∧ Aside0 (Below w.heap.size w wc))
 case first =>
  have H := HC3.out
  clear HC3
  by_cases c4 : a0.toList = ([] : List UInt8)
  ·rw [if_pos c4] at H
   have c4b0 : (a0.toList == ([] : List UInt8)) = true := beq_iff_eq.mpr c4
   have c4b1 : (a0.toList != ([] : List UInt8)) = false := bne_eq_false_iff_eq.mpr c4
   clear c4
   (first | rw [c4b0] | (simp only [i64_w, i32_w]; rw [c4b0]) | skip)
   have H' := mk0 H
   clear H
   go_wp2
   go_meet
   case rel => exact ⟨_, (false), zq3, H', ⟨by first | omega | exact Nat.le_refl _⟩, ⟨by repeat (first | (with_reducible first | exact HB.out | apply below_alloc | apply pw_below_drewN | apply below_drew1) | exact HB.out)⟩⟩
  rw [if_neg c4] at H
  have c4b0 : (a0.toList == ([] : List UInt8)) = false := beq_eq_false_iff_ne.mpr c4
  have c4b1 : (a0.toList != ([] : List UInt8)) = true := bne_iff_ne.mpr c4
  (first | rw [c4b0] | (simp only [i64_w, i32_w]; rw [c4b0]) | skip)
  by_cases c5 : 0 < (a0.size : Int)
  rotate_left
  ·rw [if_neg c5] at H
   exact absurd H (by simp)
  rw [if_pos c5] at H
  have c5b0 : decide (0 < (a0.size : Int)) = true := decide_eq_true c5
  have c5b1 : decide (0 < a0.size) = true := decide_eq_true (by omega)
  clear c5
  have H' := mk0 H
  clear H
  have p6 : 0 ≤ (0 : Int) := (by omega)
  have q6 : 0 < a0.size := (by have : (0 : Int) < (a0.size : Int) := of_decide_eq_true zq1; omega)
  have hx6 : ∀ h : 0 < a0.size, ((a0[0]'h).toNat : Int) = bt a0 0 := bt_at a0 0
  clear p6
  have qi6 : (0 < (a0.size : Int)) = True := eq_true (of_decide_eq_true zq1)
  replace q6 := eq_true q6
  go_wp2
  go_meet
  case rel => exact ⟨_, (((bt a0 0) == 36)), zq3, H', ⟨by first | omega | exact Nat.le_refl _⟩, ⟨by repeat (first | (with_reducible first | exact HB.out | apply below_alloc | apply pw_below_drewN | apply below_drew1) | exact HB.out)⟩⟩
 case rest =>
  clear HC3
  try clear c2
  try clear c2b0
  try clear c2b1
  try clear p2
  try clear c4
  try clear c4b0
  try clear c4b1
  try clear c5
  try clear c5b0
  try clear c5b1
  try clear p6
  try clear q6
  try clear hx6
  try clear qi6
  try clear p6
  try clear q6
  obtain ⟨kq, x17_2, rfl, HA, HJ2, HB⟩ := hcut
  cases kq with
  | zero => exact absurd HA.out (by simp [spec_PathParts.j0])
  | succ kj2 =>
   have H := HA.out
   clear HA
   simp only [spec_PathParts.j0] at H
   have HC7 := mk0 H
   clear H
   go_upto_if 17 with (fail)
   go_cut [0] (fun v0 wc => ∃ (kq : Nat) (x0_6 : ByteArray), v0 = .string x0_6 ∧ Aside0 (spec_PathParts.j1 kq x0_6 = some (r1, r2)) ∧ Aside0 (kq ≤ kj2) ∧ Aside0 (Below w.heap.size w wc))
   case first =>
    have H := HC7.out
    clear HC7
    by_cases c8 : x17_2 = true
    rotate_left
    ·replace c8 := Bool.eq_false_iff.mpr c8
     subst c8
     have H1 : (spec_PathParts.j1 kj2 a0) = some (r1, r2) := by rw [if_neg (show ¬ (false = true) by decide)] at H; exact H
     clear H
     have H := H1
     clear H1
     have H' := mk0 H
     clear H
     go_wp2
     go_meet
     case rel => exact ⟨_, (a0), zq3, H', ⟨by have := HJ2.out; first | omega | exact Nat.le_refl _⟩, ⟨by repeat (first | (with_reducible first | exact HB.out | apply below_alloc | apply pw_below_drewN | apply below_drew1) | exact HB.out)⟩⟩
    subst c8
    have H1 : (if 1 < (a0.size : Int) then (if (bt a0 1) = 46 then (if 2 ≤ (a0.size : Int) then (spec_PathParts.j1 kj2 (a0.extract 2 a0.size)) else (none)) else (if (bt a0 1) = 91 then (if 1 ≤ (a0.size : Int) then (spec_PathParts.j1 kj2 (a0.extract 1 a0.size)) else (none)) else (some (([] : List ByteArray), false)))) else (none)) = some (r1, r2) := by rw [if_pos rfl] at H; exact H
    clear H
    have H := H1
    clear H1
    by_cases c9 : 1 < (a0.size : Int)
    rotate_left
    ·rw [if_neg c9] at H
     exact absurd H (by simp)
    rw [if_pos c9] at H
    have c9b0 : decide (1 < (a0.size : Int)) = true := decide_eq_true c9
    have c9b1 : decide (1 < a0.size) = true := decide_eq_true (by omega)
    clear c9
    (first | rw [c9b0] | (simp only [i64_w, i32_w]; rw [c9b0]) | rw [c9b1] | rw [if_pos (of_decide_eq_true c9b1)] | skip)
    by_cases c11 : (bt a0 1) = 46
    ·rw [if_pos c11] at H
     have c11b0 : ((bt a0 1) == 46) = true := beq_iff_eq.mpr c11
     have c11b1 : ((bt a0 1) != 46) = false := bne_eq_false_iff_eq.mpr c11
     clear c11
     by_cases c12 : 2 ≤ (a0.size : Int)
     rotate_left
     ·rw [if_neg c12] at H
      exact absurd H (by simp)
     rw [if_pos c12] at H
     have c12b0 := eq_true c12
     have c12b1 : decide (2 ≤ (a0.size : Int)) = true := decide_eq_true c12
     clear c12
     have H' := mk0 H
     clear H
     have p10 : 0 ≤ (1 : Int) := (by omega)
     have q10 : 1 < a0.size := (by have : (1 : Int) < (a0.size : Int) := of_decide_eq_true zq1; omega)
     have hx10 : ∀ h : 1 < a0.size, ((a0[1]'h).toNat : Int) = bt a0 1 := bt_at a0 1
     clear p10
     have qi10 : (1 < (a0.size : Int)) = True := eq_true (of_decide_eq_true zq1)
     replace q10 := eq_true q10
     go_wp2
     go_meet
     case rel => exact ⟨_, (a0.extract 2 a0.size), zq3, H', ⟨by have := HJ2.out; first | omega | exact Nat.le_refl _⟩, ⟨by repeat (first | (with_reducible first | exact HB.out | apply below_alloc | apply pw_below_drewN | apply below_drew1) | exact HB.out)⟩⟩
    rw [if_neg c11] at H
    have c11b0 : ((bt a0 1) == 46) = false := beq_eq_false_iff_ne.mpr c11
    have c11b1 : ((bt a0 1) != 46) = true := bne_iff_ne.mpr c11
    by_cases c14 : (bt a0 1) = 91
    rotate_left
    ·rw [if_neg c14] at H
     have c14b0 : ((bt a0 1) == 91) = false := beq_eq_false_iff_ne.mpr c14
     have c14b1 : ((bt a0 1) != 91) = true := bne_iff_ne.mpr c14
     simp only [Option.some.injEq, Prod.mk.injEq] at H
     obtain ⟨rfl, rfl⟩ := H
     have p10 : 0 ≤ (1 : Int) := (by omega)
     have q10 : 1 < a0.size := (by have : (1 : Int) < (a0.size : Int) := of_decide_eq_true zq1; omega)
     have hx10 : ∀ h : 1 < a0.size, ((a0[1]'h).toNat : Int) = bt a0 1 := bt_at a0 1
     clear p10
     have qi10 : (1 < (a0.size : Int)) = True := eq_true (of_decide_eq_true zq1)
     replace q10 := eq_true q10
     have p13 : 0 ≤ (1 : Int) := (by omega)
     have q13 : 1 < a0.size := (by have : (1 : Int) < (a0.size : Int) := of_decide_eq_true zq1; omega)
     have hx13 : ∀ h : 1 < a0.size, ((a0[1]'h).toNat : Int) = bt a0 1 := bt_at a0 1
     clear p13
     have qi13 : (1 < (a0.size : Int)) = True := eq_true (of_decide_eq_true zq1)
     replace q13 := eq_true q13
     go_wp2
     go_ret2
     exact ⟨_, by first | rfl | (simp [errW_none, errW_some] <;> rfl) | (simp [*, errW_none, errW_some] <;> rfl), by first | exact Kd.R_nil _ _ _ _ _ | exact Kd.N_nil _ _ _ _ _ | exact Kd.V_nil _ _ _ _ _ | exact Kd.Q_nil _ _ _ _ _ | exact Kd.S_nil _ _ _ _ _, by repeat (first | (with_reducible first | exact HB.out | apply below_alloc | apply pw_below_drewN | apply below_drew1) | exact HB.out)⟩
    rw [if_pos c14] at H
    have c14b0 : ((bt a0 1) == 91) = true := beq_iff_eq.mpr c14
    have c14b1 : ((bt a0 1) != 91) = false := bne_eq_false_iff_eq.mpr c14
    clear c14
    by_cases c15 : 1 ≤ (a0.size : Int)
    rotate_left
    ·rw [if_neg c15] at H
     exact absurd H (by simp)
    rw [if_pos c15] at H
    have c15b0 := eq_true c15
    have c15b1 : decide (1 ≤ (a0.size : Int)) = true := decide_eq_true c15
    clear c15
    have H' := mk0 H
    clear H
    have p10 : 0 ≤ (1 : Int) := (by omega)
    have q10 : 1 < a0.size := (by have : (1 : Int) < (a0.size : Int) := of_decide_eq_true zq1; omega)
    have hx10 : ∀ h : 1 < a0.size, ((a0[1]'h).toNat : Int) = bt a0 1 := bt_at a0 1
    clear p10
    have qi10 : (1 < (a0.size : Int)) = True := eq_true (of_decide_eq_true zq1)
    replace q10 := eq_true q10
    have p13 : 0 ≤ (1 : Int) := (by omega)
    have q13 : 1 < a0.size := (by have : (1 : Int) < (a0.size : Int) := of_decide_eq_true zq1; omega)
    have hx13 : ∀ h : 1 < a0.size, ((a0[1]'h).toNat : Int) = bt a0 1 := bt_at a0 1
    clear p13
    have qi13 : (1 < (a0.size : Int)) = True := eq_true (of_decide_eq_true zq1)
    replace q13 := eq_true q13
    go_wp2
    go_meet
    case rel => exact ⟨_, (a0.extract 1 a0.size), zq3, H', ⟨by have := HJ2.out; first | omega | exact Nat.le_refl _⟩, ⟨by repeat (first | (with_reducible first | exact HB.out | apply below_alloc | apply pw_below_drewN | apply below_drew1) | exact HB.out)⟩⟩
   case rest =>
    clear HC7
    try clear c1
    try clear p1
    try clear q1
    try clear hx1
    try clear qi1
    try clear c2
    try clear c2b0
    try clear c2b1
    try clear p2
    try clear c4
    try clear c4b0
    try clear c4b1
    try clear c5
    try clear c5b0
    try clear c5b1
    try clear p6
    try clear q6
    try clear hx6
    try clear qi6
    try clear c8
    try clear c9
    try clear c9b0
    try clear c9b1
    try clear p10
    try clear q10
    try clear hx10
    try clear qi10
    try clear c11
    try clear c11b0
    try clear c11b1
    try clear c12
    try clear c12b0
    try clear c12b1
    try clear p13
    try clear q13
    try clear hx13
    try clear qi13
    try clear c14
    try clear c14b0
    try clear c14b1
    try clear c15
    try clear c15b0
    try clear c15b1
    try clear p10
    try clear p13
    try clear p2
    try clear p6
    try clear q10
    try clear q13
    try clear q6
    obtain ⟨kq, x0_6, rfl, HA, HJ6, HB⟩ := hcut
    cases kq with
    | zero => exact absurd HA.out (by simp [spec_PathParts.j1])
    | succ kj6 =>
     have H := HA.out
     clear HA
     simp only [spec_PathParts.j1] at H
     have H' := mk0 H
     clear H
     go_wp2
     go_loopg [0, 4, 5] kj6 (fun kq v0 v4 v5 w' => ∃ (x0_3 : ByteArray) (x4_3 : List ByteArray) (x5_3 : Bool), v0 = .string x0_3 ∧ v5 = .bool x5_3 ∧ Aside0 (spec_PathParts.l0 kq x0_3 x4_3 x5_3 = some (r1, r2)) ∧ Aside0 (kq ≤ kj6) ∧ Aside0 (Kd.R Kd.string 9 w' w.heap.size (fun _ => True) v4 x4_3) ∧ Aside0 (Below w.heap.size w w'))
     case atStart => exact ⟨(x0_6), (([] : List ByteArray)), (true), zq3, zq3, H', ⟨Nat.le_refl _⟩, ⟨by first | exact Kd.R_nil _ _ _ _ _ | exact Kd.N_nil _ _ _ _ _ | exact Kd.V_nil _ _ _ _ _ | exact Kd.Q_nil _ _ _ _ _ | exact Kd.S_nil _ _ _ _ _⟩, ⟨by repeat (first | (with_reducible first | exact HB.out | apply below_alloc | apply pw_below_drewN | apply below_drew1) | exact HB.out)⟩⟩
     case round =>
      clear H'
      try clear c1
      try clear p1
      try clear q1
      try clear hx1
      try clear qi1
      try clear c2
      try clear c2b0
      try clear c2b1
      try clear p2
      try clear c4
      try clear c4b0
      try clear c4b1
      try clear c5
      try clear c5b0
      try clear c5b1
      try clear p6
      try clear q6
      try clear hx6
      try clear qi6
      try clear c8
      try clear c9
      try clear c9b0
      try clear c9b1
      try clear p10
      try clear q10
      try clear hx10
      try clear qi10
      try clear c11
      try clear c11b0
      try clear c11b1
      try clear c12
      try clear c12b0
      try clear c12b1
      try clear p13
      try clear q13
      try clear hx13
      try clear qi13
      try clear c14
      try clear c14b0
      try clear c14b1
      try clear c15
      try clear c15b0
      try clear c15b1
      try clear p1
      try clear p10
      try clear p13
      try clear p2
      try clear p6
      try clear q1
      try clear q10
      try clear q13
      try clear q6
      obtain ⟨x0_3, x4_3, x5_3, rfl, rfl, HA, HK3, HO_4, HB⟩ := hrel
      cases gk with
      | zero => exact absurd HA.out (by simp [spec_PathParts.l0])
      | succ k3 =>
       have H := HA.out
       clear HA
       simp only [spec_PathParts.l0] at H
       have HC16 := mk0 H
       clear H
       go_upto_region 11 with (fail)
       go_cut [34] (fun v34 wc => ∃ (kq : Nat) (x34_15 : Bool), v34 = .bool x34_15 ∧ Aside0 (spec_PathParts.j3 kq x0_3 x4_3 x5_3 x34_15 = some (r1, r2)) ∧ Aside0 (kq ≤ k3) ∧ Aside0 (Kd.R Kd.string 9 wc w.heap.size (fun _ => True) u4 x4_3) ∧ Aside0 (Below w.heap.size w wc))
       case first =>
        have H := HC16.out
        clear HC16
        by_cases c17 : x5_3 = true
        ·subst c17
         have H1 : (spec_PathParts.j3 k3 x0_3 x4_3 true true) = some (r1, r2) := by rw [if_pos rfl] at H; exact H
         clear H
         have H := H1
         clear H1
         have H' := mk0 H
         clear H
         go_wp2
         go_meet
         case rel => exact ⟨_, (true), zq3, H', ⟨by have := HJ2.out; have := HJ6.out; have := HK3.out; first | omega | exact Nat.le_refl _⟩, ⟨by (with_reducible repeat (first | apply Kd.R_alloc | apply Kd.R_drewN | apply Kd.R_drew)); exact HO_4.out⟩, ⟨by repeat (first | (with_reducible first | exact HB.out | apply below_alloc | apply pw_below_drewN | apply below_drew1) | exact HB.out)⟩⟩
        replace c17 := Bool.eq_false_iff.mpr c17
        subst c17
        have H1 : (spec_PathParts.j3 k3 x0_3 x4_3 false (x0_3.toList != ([] : List UInt8))) = some (r1, r2) := by rw [if_neg (show ¬ (false = true) by decide)] at H; exact H
        clear H
        have H := H1
        clear H1
        have H' := mk0 H
        clear H
        go_wp2
        go_meet
        case rel => exact ⟨_, ((x0_3.toList != ([] : List UInt8))), (by first | rfl | (simp; done) | (simp [*]; done) | (generalize x0_3.toList = q_; cases q_ <;> rfl) | (generalize x0_3.toList = q_; cases q_ <;> (simp; done))), H', ⟨by have := HJ2.out; have := HJ6.out; have := HK3.out; first | omega | exact Nat.le_refl _⟩, ⟨by (with_reducible repeat (first | apply Kd.R_alloc | apply Kd.R_drewN | apply Kd.R_drew)); exact HO_4.out⟩, ⟨by repeat (first | (with_reducible first | exact HB.out | apply below_alloc | apply pw_below_drewN | apply below_drew1) | exact HB.out)⟩⟩
       case rest =>
        clear HC16
        try clear c1
        try clear p1
        try clear q1
        try clear hx1
        try clear qi1
        try clear c2
        try clear c2b0
        try clear c2b1
        try clear p2
        try clear c4
        try clear c4b0
        try clear c4b1
        try clear c5
        try clear c5b0
        try clear c5b1
        try clear p6
        try clear q6
        try clear hx6
        try clear qi6
        try clear c8
        try clear c9
        try clear c9b0
        try clear c9b1
        try clear p10
        try clear q10
        try clear hx10
        try clear qi10
        try clear c11
        try clear c11b0
        try clear c11b1
        try clear c12
        try clear c12b0
        try clear c12b1
        try clear p13
        try clear q13
        try clear hx13
        try clear qi13
        try clear c14
        try clear c14b0
        try clear c14b1
        try clear c15
        try clear c15b0
        try clear c15b1
        try clear c17
        try clear p1
        try clear p10
        try clear p13
        try clear p2
        try clear p6
        try clear q1
        try clear q10
        try clear q13
        try clear q6
        obtain ⟨kq, x34_15, rfl, HA, HJ15, HO_4, HB⟩ := hcut
        cases kq with
        | zero => exact absurd HA.out (by simp [spec_PathParts.j3])
        | succ kj15 =>
         have H := HA.out
         clear HA
         simp only [spec_PathParts.j3] at H
         by_cases c18 : x34_15 = true
         rotate_left
         ·replace c18 := Bool.eq_false_iff.mpr c18
          subst c18
          have H1 : (some (x4_3, true)) = some (r1, r2) := by rw [if_neg (show ¬ (false = true) by decide)] at H; exact H
          clear H
          have H := H1
          clear H1
          simp only [Option.some.injEq, Prod.mk.injEq] at H
          obtain ⟨rfl, rfl⟩ := H
          go_wp2
          go_ret2
          exact ⟨_, by first | rfl | (simp [errW_none, errW_some] <;> rfl) | (simp [*, errW_none, errW_some] <;> rfl), by (with_reducible repeat (first | apply Kd.R_alloc | apply Kd.R_drewN | apply Kd.R_drew)); exact HO_4.out, by repeat (first | (with_reducible first | exact HB.out | apply below_alloc | apply pw_below_drewN | apply below_drew1) | exact HB.out)⟩
         subst c18
         have H1 : (if x5_3 = true then ((spec_pathPart.f kj15 x0_3).bind fun bt101 => (if bt101.2.2 = true then (if x4_3.length < 8796093022208 then (spec_PathParts.l0 kj15 bt101.2.1 (x4_3 ++ [bt101.1]) false) else (none)) else (some (([] : List ByteArray), false)))) else (if 0 < (x0_3.size : Int) then (if (bt x0_3 0) = 46 then (if 1 ≤ (x0_3.size : Int) then ((spec_pathPart.f kj15 (x0_3.extract 1 x0_3.size)).bind fun bt107 => (if bt107.2.2 = true then (if x4_3.length < 8796093022208 then (spec_PathParts.l0 kj15 bt107.2.1 (x4_3 ++ [bt107.1]) false) else (none)) else (some (([] : List ByteArray), false)))) else (none)) else (if (bt x0_3 0) = 91 then ((spec_pathPart.f kj15 x0_3).bind fun bt113 => (if bt113.2.2 = true then (if x4_3.length < 8796093022208 then (spec_PathParts.l0 kj15 bt113.2.1 (x4_3 ++ [bt113.1]) false) else (none)) else (some (([] : List ByteArray), false)))) else (some (([] : List ByteArray), false)))) else (none))) = some (r1, r2) := by rw [if_pos rfl] at H; exact H
         clear H
         have H := H1
         clear H1
         by_cases c19 : x5_3 = true
         ·subst c19
          have H1 : ((spec_pathPart.f kj15 x0_3).bind fun bt101 => (if bt101.2.2 = true then (if x4_3.length < 8796093022208 then (spec_PathParts.l0 kj15 bt101.2.1 (x4_3 ++ [bt101.1]) false) else (none)) else (some (([] : List ByteArray), false)))) = some (r1, r2) := by rw [if_pos rfl] at H; exact H
          clear H
          have H := H1
          clear H1
          replace H := Option.bind_eq_some_iff.mp H
          obtain ⟨⟨t101, t102, t103⟩, A200, H⟩ := H
          replace H : (if t103 = true then (if x4_3.length < 8796093022208 then (spec_PathParts.l0 kj15 t102 (x4_3 ++ [t101]) false) else (none)) else (some (([] : List ByteArray), false))) = some (r1, r2) := H
          have A20 := mk0 A200
          clear A200
          by_cases c21 : t103 = true
          rotate_left
          ·replace c21 := Bool.eq_false_iff.mpr c21
           subst c21
           have H1 : (some (([] : List ByteArray), false)) = some (r1, r2) := by rw [if_neg (show ¬ (false = true) by decide)] at H; exact H
           clear H
           have H := H1
           clear H1
           simp only [Option.some.injEq, Prod.mk.injEq] at H
           obtain ⟨rfl, rfl⟩ := H
           go_wp2_with (first | ((with_reducible refine gate_callee (f := 22) rfl ?_); refine goesL_ (some 47) rfl rfl Tryd.func22 zq16 rfl #[.string x0_3] rfl zq2 ?_; (with_reducible refine (spec_pathPart.calls kj15 x0_3 t101 t102 false _ A20.out).mono ?_); rintro e w25 ⟨rfl, hb⟩; refine ⟨_, rfl, ?_⟩; have n0_ := mk0 (Kd.R_below zq4 hb); have n1_ := mk0 (below_step zq0 hb); clear HO_4 HB; have HO_4 := n0_; have HB := n1_; clear n0_ n1_; (try clear hb); (try clear hb2); (try clear hk); (try clear hi)))
           go_ret2
           exact ⟨_, by first | rfl | (simp [errW_none, errW_some] <;> rfl) | (simp [*, errW_none, errW_some] <;> rfl), by first | exact Kd.R_nil _ _ _ _ _ | exact Kd.N_nil _ _ _ _ _ | exact Kd.V_nil _ _ _ _ _ | exact Kd.Q_nil _ _ _ _ _ | exact Kd.S_nil _ _ _ _ _, by repeat (first | (with_reducible first | exact HB.out | apply below_alloc | apply pw_below_drewN | apply below_drew1) | exact HB.out)⟩
          subst c21
          have H1 : (if x4_3.length < 8796093022208 then (spec_PathParts.l0 kj15 t102 (x4_3 ++ [t101]) false) else (none)) = some (r1, r2) := by rw [if_pos rfl] at H; exact H
          clear H
          have H := H1
          clear H1
          by_cases c22 : x4_3.length < 8796093022208
          rotate_left
          ·rw [if_neg c22] at H
           exact absurd H (by simp)
          rw [if_pos c22] at H
          have LMc22 := mk0 c22
          clear c22
          obtain ⟨y104, hy104⟩ : ∃ y_ : List ByteArray, y_ = (x4_3 ++ [t101]) := ⟨_, rfl⟩
          replace H : (spec_PathParts.l0 kj15 t102 y104 false) = some (r1, r2) := by first | (rw [hy104]; with_reducible exact H) | (have H2_ := (Option.bind_some _ _).symm.trans H; rw [hy104]; with_reducible exact H2_) | (have H2_ := (Option.bind_some _ _).symm.trans H; with_reducible exact H2_) | with_reducible exact H | (rw [hy104]; exact H) | exact H
          have Ny104 := mk0 hy104
          clear hy104
          have H' := mk0 H
          clear H
          go_wp2_with (first | ((with_reducible refine gate_callee (f := 22) rfl ?_); refine goesL_ (some 47) rfl rfl Tryd.func22 zq16 rfl #[.string x0_3] rfl zq2 ?_; (with_reducible refine (spec_pathPart.calls kj15 x0_3 t101 t102 true _ A20.out).mono ?_); rintro e w23 ⟨rfl, hb⟩; refine ⟨_, rfl, ?_⟩; have n0_ := mk0 (Kd.R_below zq4 hb); have n1_ := mk0 (below_step zq0 hb); clear HO_4 HB; have HO_4 := n0_; have HB := n1_; clear n0_ n1_; (try clear hb); (try clear hb2); (try clear hk); (try clear hi)) | ((with_reducible refine gate_builtin (b := .append) (xs := #[.tmp 53, .tmp 55]) rfl ?_); at_builtin; refine Kd.R_append Kd.string (w0 := w) w.heap.size rfl (.tmp 53) (.tmp 55) 22 9 (.string ⟨#[]⟩) 16 rfl Tryd.underlying22 info9 rfl zq23 (by omega) u4 x4_3 t101 [.string t101] (fun _ => True) (fun _ => False) rfl rfl ?aP (fun _ hk => hk.elim) ?aF ?aO ?aB ?aS ?aL ?_; (case aP => exact rfl); (case aB => exact zq0); (case aF => exact (fun _ _ => trivial)); (case aO => exact zq4); (case aS => exact (below_size zq0)); (case aL => have := LMc22.out; omega); intro v105 w24 ho hb hg hat; rw [← Ny104.out] at ho; have n0_ := mk0 (hb); have n1_ := mk0 (ho); clear HB HO_4; have HB := n0_; have HO106 := n1_; clear n0_ n1_; clear ho hb hg hat))
          go_roundg kj15
          case measure => have := HJ2.out; have := HJ6.out; have := HK3.out; have := HJ15.out; omega
          case rel => exact ⟨(t102), (y104), (false), zq3, zq3, H', ⟨by have := HJ2.out; have := HJ6.out; have := HK3.out; have := HJ15.out; omega⟩, ⟨by (with_reducible repeat (first | apply Kd.R_alloc | apply Kd.R_drewN | apply Kd.R_drew)); exact HO106.out⟩, ⟨by repeat (first | (with_reducible first | exact HB.out | apply below_alloc | apply pw_below_drewN | apply below_drew1) | exact HB.out)⟩⟩
         replace c19 := Bool.eq_false_iff.mpr c19
         subst c19
         have H1 : (if 0 < (x0_3.size : Int) then (if (bt x0_3 0) = 46 then (if 1 ≤ (x0_3.size : Int) then ((spec_pathPart.f kj15 (x0_3.extract 1 x0_3.size)).bind fun bt107 => (if bt107.2.2 = true then (if x4_3.length < 8796093022208 then (spec_PathParts.l0 kj15 bt107.2.1 (x4_3 ++ [bt107.1]) false) else (none)) else (some (([] : List ByteArray), false)))) else (none)) else (if (bt x0_3 0) = 91 then ((spec_pathPart.f kj15 x0_3).bind fun bt113 => (if bt113.2.2 = true then (if x4_3.length < 8796093022208 then (spec_PathParts.l0 kj15 bt113.2.1 (x4_3 ++ [bt113.1]) false) else (none)) else (some (([] : List ByteArray), false)))) else (some (([] : List ByteArray), false)))) else (none)) = some (r1, r2) := by rw [if_neg (show ¬ (false = true) by decide)] at H; exact H
         clear H
         have H := H1
         clear H1
         by_cases c26 : 0 < (x0_3.size : Int)
         rotate_left
         ·rw [if_neg c26] at H
          exact absurd H (by simp)
         rw [if_pos c26] at H
         have c26b0 : decide (0 < (x0_3.size : Int)) = true := decide_eq_true c26
         have c26b1 : decide (0 < x0_3.size) = true := decide_eq_true (by omega)
         clear c26
         by_cases c28 : (bt x0_3 0) = 46
         ·rw [if_pos c28] at H
          have c28b0 : ((bt x0_3 0) == 46) = true := beq_iff_eq.mpr c28
          have c28b1 : ((bt x0_3 0) != 46) = false := bne_eq_false_iff_eq.mpr c28
          clear c28
          by_cases c29 : 1 ≤ (x0_3.size : Int)
          rotate_left
          ·rw [if_neg c29] at H
           exact absurd H (by simp)
          rw [if_pos c29] at H
          have c29b0 := eq_true c29
          have c29b1 : decide (1 ≤ (x0_3.size : Int)) = true := decide_eq_true c29
          clear c29
          replace H := Option.bind_eq_some_iff.mp H
          obtain ⟨⟨t107, t108, t109⟩, A300, H⟩ := H
          replace H : (if t109 = true then (if x4_3.length < 8796093022208 then (spec_PathParts.l0 kj15 t108 (x4_3 ++ [t107]) false) else (none)) else (some (([] : List ByteArray), false))) = some (r1, r2) := H
          have A30 := mk0 A300
          clear A300
          by_cases c31 : t109 = true
          rotate_left
          ·replace c31 := Bool.eq_false_iff.mpr c31
           subst c31
           have H1 : (some (([] : List ByteArray), false)) = some (r1, r2) := by rw [if_neg (show ¬ (false = true) by decide)] at H; exact H
           clear H
           have H := H1
           clear H1
           simp only [Option.some.injEq, Prod.mk.injEq] at H
           obtain ⟨rfl, rfl⟩ := H
           have p27 : 0 ≤ (0 : Int) := (by omega)
           have q27 : 0 < x0_3.size := (by have : (0 : Int) < (x0_3.size : Int) := of_decide_eq_true zq1; omega)
           have hx27 : ∀ h : 0 < x0_3.size, ((x0_3[0]'h).toNat : Int) = bt x0_3 0 := bt_at x0_3 0
           clear p27
           have qi27 : (0 < (x0_3.size : Int)) = True := eq_true (of_decide_eq_true zq1)
           replace q27 := eq_true q27
           go_wp2_with (first | ((with_reducible refine gate_callee (f := 22) rfl ?_); refine goesL_ (some 47) rfl rfl Tryd.func22 zq16 rfl #[.string (x0_3.extract 1 x0_3.size)] rfl zq2 ?_; (with_reducible refine (spec_pathPart.calls kj15 (x0_3.extract 1 x0_3.size) t107 t108 false _ A30.out).mono ?_); rintro e w35 ⟨rfl, hb⟩; refine ⟨_, rfl, ?_⟩; have n0_ := mk0 (Kd.R_below zq4 hb); have n1_ := mk0 (below_step zq0 hb); clear HO_4 HB; have HO_4 := n0_; have HB := n1_; clear n0_ n1_; (try clear hb); (try clear hb2); (try clear hk); (try clear hi)))
           go_ret2
           exact ⟨_, by first | rfl | (simp [errW_none, errW_some] <;> rfl) | (simp [*, errW_none, errW_some] <;> rfl), by first | exact Kd.R_nil _ _ _ _ _ | exact Kd.N_nil _ _ _ _ _ | exact Kd.V_nil _ _ _ _ _ | exact Kd.Q_nil _ _ _ _ _ | exact Kd.S_nil _ _ _ _ _, by repeat (first | (with_reducible first | exact HB.out | apply below_alloc | apply pw_below_drewN | apply below_drew1) | exact HB.out)⟩
          subst c31
          have H1 : (if x4_3.length < 8796093022208 then (spec_PathParts.l0 kj15 t108 (x4_3 ++ [t107]) false) else (none)) = some (r1, r2) := by rw [if_pos rfl] at H; exact H
          clear H
          have H := H1
          clear H1
          by_cases c32 : x4_3.length < 8796093022208
          rotate_left
          ·rw [if_neg c32] at H
           exact absurd H (by simp)
          rw [if_pos c32] at H
          have LMc32 := mk0 c32
          clear c32
          obtain ⟨y110, hy110⟩ : ∃ y_ : List ByteArray, y_ = (x4_3 ++ [t107]) := ⟨_, rfl⟩
          replace H : (spec_PathParts.l0 kj15 t108 y110 false) = some (r1, r2) := by first | (rw [hy110]; with_reducible exact H) | (have H2_ := (Option.bind_some _ _).symm.trans H; rw [hy110]; with_reducible exact H2_) | (have H2_ := (Option.bind_some _ _).symm.trans H; with_reducible exact H2_) | with_reducible exact H | (rw [hy110]; exact H) | exact H
          have Ny110 := mk0 hy110
          clear hy110
          have H' := mk0 H
          clear H
          have p27 : 0 ≤ (0 : Int) := (by omega)
          have q27 : 0 < x0_3.size := (by have : (0 : Int) < (x0_3.size : Int) := of_decide_eq_true zq1; omega)
          have hx27 : ∀ h : 0 < x0_3.size, ((x0_3[0]'h).toNat : Int) = bt x0_3 0 := bt_at x0_3 0
          clear p27
          have qi27 : (0 < (x0_3.size : Int)) = True := eq_true (of_decide_eq_true zq1)
          replace q27 := eq_true q27
          go_wp2_with (first | ((with_reducible refine gate_callee (f := 22) rfl ?_); refine goesL_ (some 47) rfl rfl Tryd.func22 zq16 rfl #[.string (x0_3.extract 1 x0_3.size)] rfl zq2 ?_; (with_reducible refine (spec_pathPart.calls kj15 (x0_3.extract 1 x0_3.size) t107 t108 true _ A30.out).mono ?_); rintro e w33 ⟨rfl, hb⟩; refine ⟨_, rfl, ?_⟩; have n0_ := mk0 (Kd.R_below zq4 hb); have n1_ := mk0 (below_step zq0 hb); clear HO_4 HB; have HO_4 := n0_; have HB := n1_; clear n0_ n1_; (try clear hb); (try clear hb2); (try clear hk); (try clear hi)) | ((with_reducible refine gate_builtin (b := .append) (xs := #[.tmp 53, .tmp 55]) rfl ?_); at_builtin; refine Kd.R_append Kd.string (w0 := w) w.heap.size rfl (.tmp 53) (.tmp 55) 22 9 (.string ⟨#[]⟩) 16 rfl Tryd.underlying22 info9 rfl zq23 (by omega) u4 x4_3 t107 [.string t107] (fun _ => True) (fun _ => False) rfl rfl ?aP (fun _ hk => hk.elim) ?aF ?aO ?aB ?aS ?aL ?_; (case aP => exact rfl); (case aB => exact zq0); (case aF => exact (fun _ _ => trivial)); (case aO => exact zq4); (case aS => exact (below_size zq0)); (case aL => have := LMc32.out; omega); intro v111 w34 ho hb hg hat; rw [← Ny110.out] at ho; have n0_ := mk0 (hb); have n1_ := mk0 (ho); clear HB HO_4; have HB := n0_; have HO112 := n1_; clear n0_ n1_; clear ho hb hg hat))
          go_roundg kj15
          case measure => have := HJ2.out; have := HJ6.out; have := HK3.out; have := HJ15.out; omega
          case rel => exact ⟨(t108), (y110), (false), zq3, zq3, H', ⟨by have := HJ2.out; have := HJ6.out; have := HK3.out; have := HJ15.out; omega⟩, ⟨by (with_reducible repeat (first | apply Kd.R_alloc | apply Kd.R_drewN | apply Kd.R_drew)); exact HO112.out⟩, ⟨by repeat (first | (with_reducible first | exact HB.out | apply below_alloc | apply pw_below_drewN | apply below_drew1) | exact HB.out)⟩⟩
         rw [if_neg c28] at H
         have c28b0 : ((bt x0_3 0) == 46) = false := beq_eq_false_iff_ne.mpr c28
         have c28b1 : ((bt x0_3 0) != 46) = true := bne_iff_ne.mpr c28
         by_cases c37 : (bt x0_3 0) = 91
         rotate_left
         ·rw [if_neg c37] at H
          have c37b0 : ((bt x0_3 0) == 91) = false := beq_eq_false_iff_ne.mpr c37
          have c37b1 : ((bt x0_3 0) != 91) = true := bne_iff_ne.mpr c37
          simp only [Option.some.injEq, Prod.mk.injEq] at H
          obtain ⟨rfl, rfl⟩ := H
          have p27 : 0 ≤ (0 : Int) := (by omega)
          have q27 : 0 < x0_3.size := (by have : (0 : Int) < (x0_3.size : Int) := of_decide_eq_true zq1; omega)
          have hx27 : ∀ h : 0 < x0_3.size, ((x0_3[0]'h).toNat : Int) = bt x0_3 0 := bt_at x0_3 0
          clear p27
          have qi27 : (0 < (x0_3.size : Int)) = True := eq_true (of_decide_eq_true zq1)
          replace q27 := eq_true q27
          have p36 : 0 ≤ (0 : Int) := (by omega)
          have q36 : 0 < x0_3.size := (by have : (0 : Int) < (x0_3.size : Int) := of_decide_eq_true zq1; omega)
          have hx36 : ∀ h : 0 < x0_3.size, ((x0_3[0]'h).toNat : Int) = bt x0_3 0 := bt_at x0_3 0
          clear p36
          have qi36 : (0 < (x0_3.size : Int)) = True := eq_true (of_decide_eq_true zq1)
          replace q36 := eq_true q36
          go_wp2
          go_ret2
          exact ⟨_, by first | rfl | (simp [errW_none, errW_some] <;> rfl) | (simp [*, errW_none, errW_some] <;> rfl), by first | exact Kd.R_nil _ _ _ _ _ | exact Kd.N_nil _ _ _ _ _ | exact Kd.V_nil _ _ _ _ _ | exact Kd.Q_nil _ _ _ _ _ | exact Kd.S_nil _ _ _ _ _, by repeat (first | (with_reducible first | exact HB.out | apply below_alloc | apply pw_below_drewN | apply below_drew1) | exact HB.out)⟩
         rw [if_pos c37] at H
         have c37b0 : ((bt x0_3 0) == 91) = true := beq_iff_eq.mpr c37
         have c37b1 : ((bt x0_3 0) != 91) = false := bne_eq_false_iff_eq.mpr c37
         clear c37
         replace H := Option.bind_eq_some_iff.mp H
         obtain ⟨⟨t113, t114, t115⟩, A380, H⟩ := H
         replace H : (if t115 = true then (if x4_3.length < 8796093022208 then (spec_PathParts.l0 kj15 t114 (x4_3 ++ [t113]) false) else (none)) else (some (([] : List ByteArray), false))) = some (r1, r2) := H
         have A38 := mk0 A380
         clear A380
         by_cases c39 : t115 = true
         rotate_left
         ·replace c39 := Bool.eq_false_iff.mpr c39
          subst c39
          have H1 : (some (([] : List ByteArray), false)) = some (r1, r2) := by rw [if_neg (show ¬ (false = true) by decide)] at H; exact H
          clear H
          have H := H1
          clear H1
          simp only [Option.some.injEq, Prod.mk.injEq] at H
          obtain ⟨rfl, rfl⟩ := H
          have p27 : 0 ≤ (0 : Int) := (by omega)
          have q27 : 0 < x0_3.size := (by have : (0 : Int) < (x0_3.size : Int) := of_decide_eq_true zq1; omega)
          have hx27 : ∀ h : 0 < x0_3.size, ((x0_3[0]'h).toNat : Int) = bt x0_3 0 := bt_at x0_3 0
          clear p27
          have qi27 : (0 < (x0_3.size : Int)) = True := eq_true (of_decide_eq_true zq1)
          replace q27 := eq_true q27
          have p36 : 0 ≤ (0 : Int) := (by omega)
          have q36 : 0 < x0_3.size := (by have : (0 : Int) < (x0_3.size : Int) := of_decide_eq_true zq1; omega)
          have hx36 : ∀ h : 0 < x0_3.size, ((x0_3[0]'h).toNat : Int) = bt x0_3 0 := bt_at x0_3 0
          clear p36
          have qi36 : (0 < (x0_3.size : Int)) = True := eq_true (of_decide_eq_true zq1)
          replace q36 := eq_true q36
          go_wp2_with (first | ((with_reducible refine gate_callee (f := 22) rfl ?_); refine goesL_ (some 47) rfl rfl Tryd.func22 zq16 rfl #[.string x0_3] rfl zq2 ?_; (with_reducible refine (spec_pathPart.calls kj15 x0_3 t113 t114 false _ A38.out).mono ?_); rintro e w43 ⟨rfl, hb⟩; refine ⟨_, rfl, ?_⟩; have n0_ := mk0 (Kd.R_below zq4 hb); have n1_ := mk0 (below_step zq0 hb); clear HO_4 HB; have HO_4 := n0_; have HB := n1_; clear n0_ n1_; (try clear hb); (try clear hb2); (try clear hk); (try clear hi)))
          go_ret2
          exact ⟨_, by first | rfl | (simp [errW_none, errW_some] <;> rfl) | (simp [*, errW_none, errW_some] <;> rfl), by first | exact Kd.R_nil _ _ _ _ _ | exact Kd.N_nil _ _ _ _ _ | exact Kd.V_nil _ _ _ _ _ | exact Kd.Q_nil _ _ _ _ _ | exact Kd.S_nil _ _ _ _ _, by repeat (first | (with_reducible first | exact HB.out | apply below_alloc | apply pw_below_drewN | apply below_drew1) | exact HB.out)⟩
         subst c39
         have H1 : (if x4_3.length < 8796093022208 then (spec_PathParts.l0 kj15 t114 (x4_3 ++ [t113]) false) else (none)) = some (r1, r2) := by rw [if_pos rfl] at H; exact H
         clear H
         have H := H1
         clear H1
         by_cases c40 : x4_3.length < 8796093022208
         rotate_left
         ·rw [if_neg c40] at H
          exact absurd H (by simp)
         rw [if_pos c40] at H
         have LMc40 := mk0 c40
         clear c40
         obtain ⟨y116, hy116⟩ : ∃ y_ : List ByteArray, y_ = (x4_3 ++ [t113]) := ⟨_, rfl⟩
         replace H : (spec_PathParts.l0 kj15 t114 y116 false) = some (r1, r2) := by first | (rw [hy116]; with_reducible exact H) | (have H2_ := (Option.bind_some _ _).symm.trans H; rw [hy116]; with_reducible exact H2_) | (have H2_ := (Option.bind_some _ _).symm.trans H; with_reducible exact H2_) | with_reducible exact H | (rw [hy116]; exact H) | exact H
         have Ny116 := mk0 hy116
         clear hy116
         have H' := mk0 H
         clear H
         have p27 : 0 ≤ (0 : Int) := (by omega)
         have q27 : 0 < x0_3.size := (by have : (0 : Int) < (x0_3.size : Int) := of_decide_eq_true zq1; omega)
         have hx27 : ∀ h : 0 < x0_3.size, ((x0_3[0]'h).toNat : Int) = bt x0_3 0 := bt_at x0_3 0
         clear p27
         have qi27 : (0 < (x0_3.size : Int)) = True := eq_true (of_decide_eq_true zq1)
         replace q27 := eq_true q27
         have p36 : 0 ≤ (0 : Int) := (by omega)
         have q36 : 0 < x0_3.size := (by have : (0 : Int) < (x0_3.size : Int) := of_decide_eq_true zq1; omega)
         have hx36 : ∀ h : 0 < x0_3.size, ((x0_3[0]'h).toNat : Int) = bt x0_3 0 := bt_at x0_3 0
         clear p36
         have qi36 : (0 < (x0_3.size : Int)) = True := eq_true (of_decide_eq_true zq1)
         replace q36 := eq_true q36
         go_wp2_with (first | ((with_reducible refine gate_callee (f := 22) rfl ?_); refine goesL_ (some 47) rfl rfl Tryd.func22 zq16 rfl #[.string x0_3] rfl zq2 ?_; (with_reducible refine (spec_pathPart.calls kj15 x0_3 t113 t114 true _ A38.out).mono ?_); rintro e w41 ⟨rfl, hb⟩; refine ⟨_, rfl, ?_⟩; have n0_ := mk0 (Kd.R_below zq4 hb); have n1_ := mk0 (below_step zq0 hb); clear HO_4 HB; have HO_4 := n0_; have HB := n1_; clear n0_ n1_; (try clear hb); (try clear hb2); (try clear hk); (try clear hi)) | ((with_reducible refine gate_builtin (b := .append) (xs := #[.tmp 53, .tmp 55]) rfl ?_); at_builtin; refine Kd.R_append Kd.string (w0 := w) w.heap.size rfl (.tmp 53) (.tmp 55) 22 9 (.string ⟨#[]⟩) 16 rfl Tryd.underlying22 info9 rfl zq23 (by omega) u4 x4_3 t113 [.string t113] (fun _ => True) (fun _ => False) rfl rfl ?aP (fun _ hk => hk.elim) ?aF ?aO ?aB ?aS ?aL ?_; (case aP => exact rfl); (case aB => exact zq0); (case aF => exact (fun _ _ => trivial)); (case aO => exact zq4); (case aS => exact (below_size zq0)); (case aL => have := LMc40.out; omega); intro v117 w42 ho hb hg hat; rw [← Ny116.out] at ho; have n0_ := mk0 (hb); have n1_ := mk0 (ho); clear HB HO_4; have HB := n0_; have HO118 := n1_; clear n0_ n1_; clear ho hb hg hat))
         go_roundg kj15
         case measure => have := HJ2.out; have := HJ6.out; have := HK3.out; have := HJ15.out; omega
         case rel => exact ⟨(t114), (y116), (false), zq3, zq3, H', ⟨by have := HJ2.out; have := HJ6.out; have := HK3.out; have := HJ15.out; omega⟩, ⟨by (with_reducible repeat (first | apply Kd.R_alloc | apply Kd.R_drewN | apply Kd.R_drew)); exact HO118.out⟩, ⟨by repeat (first | (with_reducible first | exact HB.out | apply below_alloc | apply pw_below_drewN | apply below_drew1) | exact HB.out)⟩⟩
def stringslite_HasPrefix.f (a0 : ByteArray) (a1 : ByteArray) : Option (Bool) := if (a0.size : Int) ≥ (a1.size : Int) then (if 0 ≤ (a1.size : Int) then (if (a1.size : Int) ≤ (a0.size : Int) then (some ((a0.extract 0 ((a1.size : Int) : Int).toNat).toList == a1.toList)) else (none)) else (none)) else (some false)
set_option maxHeartbeats 8000000 in
set_option maxRecDepth 100000 in
theorem stringslite_HasPrefix.calls (a0 : ByteArray) (a1 : ByteArray) (r : Bool) (w : World) (h : stringslite_HasPrefix.f a0 a1 = some r) :
 Calls Tryd.prog 73 #[.string a0, .string a1] w fun e w' => e = .returned (.bool r) ∧ Drawn0 w w' := by
 have H : (if (a0.size : Int) ≥ (a1.size : Int) then (if 0 ≤ (a1.size : Int) then (if (a1.size : Int) ≤ (a0.size : Int) then (some ((a0.extract 0 ((a1.size : Int) : Int).toNat).toList == a1.toList)) else (none)) else (none)) else (some false)) = some r := h
 clear h
 by_cases c3 : (a0.size : Int) ≥ (a1.size : Int)
 rotate_left
 ·rw [if_neg c3] at H
  have c3b0 : decide ((a1.size : Int) ≤ (a0.size : Int)) = false := decide_eq_false c3
  have c3b1 : decide (a1.size ≤ a0.size) = false := decide_eq_false (fun h => c3 (Int.ofNat_le.mpr h))
  clear c3
  obtain rfl := Option.some.inj H
  go_enter Tryd.func73, Tryd.ntmps73
  go_wp2
  go_ret
  exact ⟨by first | rfl | (simp; done) | (simp [*]; done), by repeat (first | exact Drawn0.refl _ | apply Drawn0.step)⟩
 rw [if_pos c3] at H
 have c3b0 : decide ((a1.size : Int) ≤ (a0.size : Int)) = true := decide_eq_true c3
 have c3b1 : decide (a1.size ≤ a0.size) = true := decide_eq_true (Int.ofNat_le.mp c3)
 clear c3
 by_cases c4 : 0 ≤ (a1.size : Int)
 rotate_left
 ·rw [if_neg c4] at H
  exact absurd H (by simp)
 rw [if_pos c4] at H
 have c4b0 := eq_true c4
 have c4b1 : decide (0 ≤ (a1.size : Int)) = true := decide_eq_true c4
 clear c4
 by_cases c5 : (a1.size : Int) ≤ (a0.size : Int)
 rotate_left
 ·rw [if_neg c5] at H
  exact absurd H (by simp)
 rw [if_pos c5] at H
 have c5b0 := eq_true c5
 have c5b1 : decide ((a1.size : Int) ≤ (a0.size : Int)) = true := decide_eq_true c5
 clear c5
 obtain rfl := Option.some.inj H
 go_enter Tryd.func73, Tryd.ntmps73
 go_wp2
 go_ret
 exact ⟨by first | rfl | (simp; done) | (simp [*]; done), by repeat (first | exact Drawn0.refl _ | apply Drawn0.step)⟩
def strings_HasPrefix.f (a0 : ByteArray) (a1 : ByteArray) : Option (Bool) := (stringslite_HasPrefix.f a0 a1).bind fun t101 => (some t101)
set_option maxHeartbeats 8000000 in
set_option maxRecDepth 100000 in
theorem strings_HasPrefix.calls (a0 : ByteArray) (a1 : ByteArray) (r : Bool) (w : World) (h : strings_HasPrefix.f a0 a1 = some r) :
 Calls Tryd.prog 41 #[.string a0, .string a1] w fun e w' => e = .returned (.bool r) ∧ Drawn0 w w' := by
 have H : ((stringslite_HasPrefix.f a0 a1).bind fun t101 => (some t101)) = some r := h
 clear h
 replace H := Option.bind_eq_some_iff.mp H
 obtain ⟨t101, A30, H⟩ := H
 replace H : (some t101) = some r := H
 have A3 := mk0 A30
 clear A30
 obtain rfl := Option.some.inj H
 go_enter Tryd.func41, Tryd.ntmps41
 go_wp2_with (first | ((with_reducible refine gate_callee (f := 73) rfl ?_); refine goesL_ (some 7) rfl rfl Tryd.func73 zq16 rfl #[.string a0, .string a1] rfl zq2 ?_; (with_reducible refine (stringslite_HasPrefix.calls a0 a1 t101 _ A3.out).mono ?_); rintro e w' ⟨rfl, ⟨nd, rfl⟩⟩; refine ⟨_, rfl, ?_⟩))
 go_ret
 exact ⟨by first | rfl | (simp; done) | (simp [*]; done), by repeat (first | exact Drawn0.refl _ | apply Drawn0.step)⟩
def jsonparser_zzCount.l1 : Nat → ByteArray → ByteArray → Int → Int → Option (Int)
  | 0, _, _, _, _ => none
  | k + 1, x0, x1, x5, x6 => if (wrap64 (x6 + (x1.size : Int))) ≤ (x0.size : Int) then (if 0 ≤ x6 then (if x6 ≤ (wrap64 (x6 + (x1.size : Int))) then (if (x0.extract (x6 : Int).toNat ((wrap64 (x6 + (x1.size : Int))) : Int).toNat).toList = x1.toList then (jsonparser_zzCount.l1 k x0 x1 (wrap64 (x5 + 1)) (wrap64 (x6 + (x1.size : Int)))) else (jsonparser_zzCount.l1 k x0 x1 x5 (wrap64 (x6 + 1)))) else (none)) else (none)) else (some x5)
def jsonparser_zzCount.f (k : Nat) (a0 : ByteArray) (a1 : ByteArray) : Option (Int) := if (a1.size : Int) = 0 then (none) else (jsonparser_zzCount.l1 k a0 a1 0 0)
theorem jsonparser_zzCount.mono_l : ∀ k, (∀ y0 y1 y2 y3, LeO (jsonparser_zzCount.l1 k y0 y1 y2 y3) (jsonparser_zzCount.l1 (k + 1) y0 y1 y2 y3))
 | 0 => fun _ _ _ _ r h => by simp [jsonparser_zzCount.l1] at h
 | k + 1 => by
  have ih0 := jsonparser_zzCount.mono_l k
  ·intro y0 y1 y2 y3
   unfold jsonparser_zzCount.l1
   repeat' first
   | (with_reducible exact ih0 _ _ _ _)
   | (with_reducible exact LeO.refl _)
   | (with_reducible exact LeO.none _)
   | (with_reducible refine LeO.ite ?_ ?_)
   | (with_reducible refine LeO.bind ?_ (fun _ => ?_))
   | exact ih0 _ _ _ _
   | exact LeO.none _
   | refine LeO.ite ?_ ?_
   | refine LeO.bind ?_ (fun _ => ?_)
theorem jsonparser_zzCount.mono : ∀ a0 a1 k, LeO (jsonparser_zzCount.f k a0 a1) (jsonparser_zzCount.f (k + 1) a0 a1) := by
 intro a0 a1 k
 have ih0 := jsonparser_zzCount.mono_l k
 unfold jsonparser_zzCount.f
 repeat' first
  | (with_reducible exact ih0 _ _ _ _)
  | (with_reducible exact LeO.refl _)
  | (with_reducible exact LeO.none _)
  | (with_reducible refine LeO.ite ?_ ?_)
  | (with_reducible refine LeO.bind ?_ (fun _ => ?_))
  | exact ih0 _ _ _ _
  | exact LeO.none _
  | refine LeO.ite ?_ ?_
  | refine LeO.bind ?_ (fun _ => ?_)
set_option maxHeartbeats 8000000 in
set_option maxRecDepth 100000 in
theorem jsonparser_zzCount.calls (k : Nat) (a0 : ByteArray) (a1 : ByteArray) (r : Int) (w : World) (h : jsonparser_zzCount.f k a0 a1 = some r) :
 Calls Tryd.prog 42 #[.string a0, .string a1] w fun e w' => e = .returned (.int .i64 r) ∧ Drawn0 w w' := by
 have H : (if (a1.size : Int) = 0 then (none) else (jsonparser_zzCount.l1 k a0 a1 0 0)) = some r := h
 clear h
 by_cases c3 : (a1.size : Int) = 0
 ·rw [if_pos c3] at H
  exact absurd H (by simp)
 rw [if_neg c3] at H
 have c3b0 : ((a1.size : Int) == 0) = false := beq_eq_false_iff_ne.mpr c3
 have c3b1 : ((a1.size : Int) != 0) = true := bne_iff_ne.mpr c3
 have H' := mk0 H
 clear H
 go_enter Tryd.func42, Tryd.ntmps42
 go_wp2
 go_loopg [5, 6] k (fun kq v5 v6 w' => ∃ (x5_1 : Int) (x6_1 : Int), v5 = .int .i64 x5_1 ∧ v6 = .int .i64 x6_1 ∧ Aside0 (jsonparser_zzCount.l1 kq a0 a1 x5_1 x6_1 = some r) ∧ Aside0 (kq ≤ k) ∧ Drawn0 w w')
 case atStart => exact ⟨(0), (0), zq3, zq3, H', ⟨Nat.le_refl _⟩, by repeat (first | exact Drawn0.refl _ | apply Drawn0.step)⟩
 case round =>
  clear H'
  try clear p2
  try clear c3
  try clear c3b0
  try clear c3b1
  obtain ⟨x5_1, x6_1, rfl, rfl, HA, HK1, ⟨m1, rfl⟩⟩ := hrel
  cases gk with
  | zero => exact absurd HA.out (by simp [jsonparser_zzCount.l1])
  | succ k1 =>
   have H := HA.out
   clear HA
   simp only [jsonparser_zzCount.l1] at H
   by_cases c4 : (wrap64 (x6_1 + (a1.size : Int))) ≤ (a0.size : Int)
   rotate_left
   ·rw [if_neg c4] at H
    have c4b0 : decide ((wrap64 (x6_1 + (a1.size : Int))) ≤ (a0.size : Int)) = false := decide_eq_false c4
    clear c4
    obtain rfl := Option.some.inj H
    go_wp2
    go_ret
    exact ⟨by first | rfl | (simp; done) | (simp [*]; done), by repeat (first | exact Drawn0.refl _ | apply Drawn0.step)⟩
   rw [if_pos c4] at H
   have c4b0 : decide ((wrap64 (x6_1 + (a1.size : Int))) ≤ (a0.size : Int)) = true := decide_eq_true c4
   clear c4
   by_cases c5 : 0 ≤ x6_1
   rotate_left
   ·rw [if_neg c5] at H
    exact absurd H (by simp)
   rw [if_pos c5] at H
   have c5b0 := eq_true c5
   have c5b1 : decide (0 ≤ x6_1) = true := decide_eq_true c5
   clear c5
   by_cases c6 : x6_1 ≤ (wrap64 (x6_1 + (a1.size : Int)))
   rotate_left
   ·rw [if_neg c6] at H
    exact absurd H (by simp)
   rw [if_pos c6] at H
   have c6b0 := eq_true c6
   have c6b1 : decide (x6_1 ≤ (wrap64 (x6_1 + (a1.size : Int)))) = true := decide_eq_true c6
   have c7b0 := eq_true (of_decide_eq_true zq1 : (wrap64 (x6_1 + (a1.size : Int))) ≤ (a0.size : Int))
   by_cases c8 : (a0.extract (x6_1 : Int).toNat ((wrap64 (x6_1 + (a1.size : Int))) : Int).toNat).toList = a1.toList
   rotate_left
   ·rw [if_neg c8] at H
    have c8b0 : ((a0.extract (x6_1 : Int).toNat ((wrap64 (x6_1 + (a1.size : Int))) : Int).toNat).toList == a1.toList) = false := beq_eq_false_iff_ne.mpr c8
    (try (have c8b0s := c8b0; simp only [ByteArray.size_extract, Nat.min_self] at c8b0s))
    have c8b1 : ((a0.extract (x6_1 : Int).toNat ((wrap64 (x6_1 + (a1.size : Int))) : Int).toNat).toList != a1.toList) = true := bne_iff_ne.mpr c8
    (try (have c8b1s := c8b1; simp only [ByteArray.size_extract, Nat.min_self] at c8b1s))
    have H' := mk0 H
    clear H
    go_wp2
    go_roundg k1
    case measure => have := HK1.out; omega
    case rel => exact ⟨(x5_1), (wrap64 (x6_1 + 1)), zq3, zq3, H', ⟨by have := HK1.out; omega⟩, by repeat (first | exact Drawn0.refl _ | apply Drawn0.step)⟩
   rw [if_pos c8] at H
   have c8b0 : ((a0.extract (x6_1 : Int).toNat ((wrap64 (x6_1 + (a1.size : Int))) : Int).toNat).toList == a1.toList) = true := beq_iff_eq.mpr c8
   (try (have c8b0s := c8b0; simp only [ByteArray.size_extract, Nat.min_self] at c8b0s))
   have c8b1 : ((a0.extract (x6_1 : Int).toNat ((wrap64 (x6_1 + (a1.size : Int))) : Int).toNat).toList != a1.toList) = false := bne_eq_false_iff_eq.mpr c8
   (try (have c8b1s := c8b1; simp only [ByteArray.size_extract, Nat.min_self] at c8b1s))
   clear c8
   have H' := mk0 H
   clear H
   go_wp2
   go_roundg k1
   case measure => have := HK1.out; omega
   case rel => exact ⟨(wrap64 (x5_1 + 1)), (wrap64 (x6_1 + (a1.size : Int))), zq3, zq3, H', ⟨by have := HK1.out; omega⟩, by repeat (first | exact Drawn0.refl _ | apply Drawn0.step)⟩
mutual
def jsonparser_h2I.j0 : Nat → Int → Bool → Option (Int)
  | 0, _, _ => none
  | k + 1, x0, x8 => if x8 = true then (some ((x0 - 48) % 256)) else (if x0 ≥ 65 then (jsonparser_h2I.j1 k x0 (decide (x0 ≤ 70))) else (jsonparser_h2I.j1 k x0 false))
def jsonparser_h2I.j1 : Nat → Int → Bool → Option (Int)
  | 0, _, _ => none
  | k + 1, x0, x17 => if x17 = true then (some (((x0 - 65) % 256) + 10)) else (if x0 ≥ 97 then (if x0 ≤ 102 then (some (((x0 - 97) % 256) + 10)) else (some (-1))) else (some (-1)))
end
def jsonparser_h2I.f (k : Nat) (a0 : Int) : Option (Int) := if a0 ≥ 48 then (jsonparser_h2I.j0 k a0 (decide (a0 ≤ 57))) else (jsonparser_h2I.j0 k a0 false)
theorem jsonparser_h2I.mono_l : ∀ k, (∀ y0 y1, LeO (jsonparser_h2I.j0 k y0 y1) (jsonparser_h2I.j0 (k + 1) y0 y1)) ∧ (∀ y0 y1, LeO (jsonparser_h2I.j1 k y0 y1) (jsonparser_h2I.j1 (k + 1) y0 y1))
 | 0 => ⟨fun _ _ r h => by simp [jsonparser_h2I.j0] at h, fun _ _ r h => by simp [jsonparser_h2I.j1] at h⟩
 | k + 1 => by
  obtain ⟨ih0, ih1⟩ := jsonparser_h2I.mono_l k
  refine ⟨?_, ?_⟩
  ·intro y0 y1
   unfold jsonparser_h2I.j0
   repeat' first
   | (with_reducible exact ih0 _ _)
   | (with_reducible exact ih1 _ _)
   | (with_reducible exact LeO.refl _)
   | (with_reducible exact LeO.none _)
   | (with_reducible refine LeO.ite ?_ ?_)
   | (with_reducible refine LeO.bind ?_ (fun _ => ?_))
   | exact ih0 _ _
   | exact ih1 _ _
   | exact LeO.none _
   | refine LeO.ite ?_ ?_
   | refine LeO.bind ?_ (fun _ => ?_)
  ·intro y0 y1
   unfold jsonparser_h2I.j1
   repeat' first
   | (with_reducible exact ih0 _ _)
   | (with_reducible exact ih1 _ _)
   | (with_reducible exact LeO.refl _)
   | (with_reducible exact LeO.none _)
   | (with_reducible refine LeO.ite ?_ ?_)
   | (with_reducible refine LeO.bind ?_ (fun _ => ?_))
   | exact ih0 _ _
   | exact ih1 _ _
   | exact LeO.none _
   | refine LeO.ite ?_ ?_
   | refine LeO.bind ?_ (fun _ => ?_)
theorem jsonparser_h2I.mono : ∀ a0 k, LeO (jsonparser_h2I.f k a0) (jsonparser_h2I.f (k + 1) a0) := by
 intro a0 k
 obtain ⟨ih0, ih1⟩ := jsonparser_h2I.mono_l k
 unfold jsonparser_h2I.f
 repeat' first
  | (with_reducible exact ih0 _ _)
  | (with_reducible exact ih1 _ _)
  | (with_reducible exact LeO.refl _)
  | (with_reducible exact LeO.none _)
  | (with_reducible refine LeO.ite ?_ ?_)
  | (with_reducible refine LeO.bind ?_ (fun _ => ?_))
  | exact ih0 _ _
  | exact ih1 _ _
  | exact LeO.none _
  | refine LeO.ite ?_ ?_
  | refine LeO.bind ?_ (fun _ => ?_)
set_option maxHeartbeats 8000000 in
set_option maxRecDepth 100000 in
theorem jsonparser_h2I.calls (k : Nat) (a0 : Int) (r : Int) (w : World) (h : jsonparser_h2I.f k a0 = some r) :
 Calls Tryd.prog 150 #[.int .u8 a0] w fun e w' => e = .returned (.int .i64 r) ∧ Drawn0 w w' := by
 have H : (if a0 ≥ 48 then (jsonparser_h2I.j0 k a0 (decide (a0 ≤ 57))) else (jsonparser_h2I.j0 k a0 false)) = some r := h
 clear h
 have HC2 := mk0 H
 clear H
 go_enter Tryd.func150, Tryd.ntmps150
 go_upto_region 1 with (fail)
 go_cut [8] (fun v8 wc => ∃ (kq : Nat) (x8_1 : Bool), v8 = .bool x8_1 ∧ Aside0 (jsonparser_h2I.j0 kq a0 x8_1 = some r) ∧ Aside0 (kq ≤ k) ∧ Drawn0 w wc)
 case first =>
  have H := HC2.out
  clear HC2
  by_cases c3 : a0 ≥ 48
  rotate_left
  ·rw [if_neg c3] at H
   have c3b0 : decide (48 ≤ a0) = false := decide_eq_false c3
   clear c3
   (first | rw [c3b0] | (simp only [i64_w, i32_w]; rw [c3b0]) | skip)
   have H' := mk0 H
   clear H
   go_wp2
   go_meet
   case rel => exact ⟨_, (false), zq3, H', ⟨by first | omega | exact Nat.le_refl _⟩, by repeat (first | exact Drawn0.refl _ | apply Drawn0.step)⟩
  rw [if_pos c3] at H
  have c3b0 : decide (48 ≤ a0) = true := decide_eq_true c3
  clear c3
  (first | rw [c3b0] | (simp only [i64_w, i32_w]; rw [c3b0]) | skip)
  have H' := mk0 H
  clear H
  go_wp2
  go_meet
  case rel => exact ⟨_, (decide (a0 ≤ 57)), zq3, H', ⟨by first | omega | exact Nat.le_refl _⟩, by repeat (first | exact Drawn0.refl _ | apply Drawn0.step)⟩
 case rest =>
  clear HC2
  try clear c1
  try clear p2
  try clear c3
  try clear c3b0
  obtain ⟨kq, x8_1, rfl, HA, HJ1, ⟨mc1, rfl⟩⟩ := hcut
  cases kq with
  | zero => exact absurd HA.out (by simp [jsonparser_h2I.j0])
  | succ kj1 =>
   have H := HA.out
   clear HA
   simp only [jsonparser_h2I.j0] at H
   by_cases c4 : x8_1 = true
   ·subst c4
    have H1 : (some ((a0 - 48) % 256)) = some r := by rw [if_pos rfl] at H; exact H
    clear H
    have H := H1
    clear H1
    obtain rfl := Option.some.inj H
    go_wp2
    go_ret
    exact ⟨by first | rfl | (simp; done) | (simp [*]; done), by repeat (first | exact Drawn0.refl _ | apply Drawn0.step)⟩
   replace c4 := Bool.eq_false_iff.mpr c4
   subst c4
   have H1 : (if a0 ≥ 65 then (jsonparser_h2I.j1 kj1 a0 (decide (a0 ≤ 70))) else (jsonparser_h2I.j1 kj1 a0 false)) = some r := by rw [if_neg (show ¬ (false = true) by decide)] at H; exact H
   clear H
   have H := H1
   clear H1
   have HC5 := mk0 H
   clear H
   go_upto_region 3 with (fail)
   go_cut [17] (fun v17 wc => ∃ (kq : Nat) (x17_4 : Bool), v17 = .bool x17_4 ∧ Aside0 (jsonparser_h2I.j1 kq a0 x17_4 = some r) ∧ Aside0 (kq ≤ kj1) ∧ Drawn0 w wc)
   case first =>
    have H := HC5.out
    clear HC5
    by_cases c6 : a0 ≥ 65
    rotate_left
    ·rw [if_neg c6] at H
     have c6b0 : decide (65 ≤ a0) = false := decide_eq_false c6
     clear c6
     (first | rw [c6b0] | (simp only [i64_w, i32_w]; rw [c6b0]) | skip)
     have H' := mk0 H
     clear H
     go_wp2
     go_meet
     case rel => exact ⟨_, (false), zq3, H', ⟨by have := HJ1.out; first | omega | exact Nat.le_refl _⟩, by repeat (first | exact Drawn0.refl _ | apply Drawn0.step)⟩
    rw [if_pos c6] at H
    have c6b0 : decide (65 ≤ a0) = true := decide_eq_true c6
    clear c6
    (first | rw [c6b0] | (simp only [i64_w, i32_w]; rw [c6b0]) | skip)
    have H' := mk0 H
    clear H
    go_wp2
    go_meet
    case rel => exact ⟨_, (decide (a0 ≤ 70)), zq3, H', ⟨by have := HJ1.out; first | omega | exact Nat.le_refl _⟩, by repeat (first | exact Drawn0.refl _ | apply Drawn0.step)⟩
   case rest =>
    clear HC5
    try clear c1
    try clear p2
    try clear c3
    try clear c3b0
    try clear c4
    try clear c6
    try clear c6b0
    try clear p2
    obtain ⟨kq, x17_4, rfl, HA, HJ4, ⟨mc4, rfl⟩⟩ := hcut
    cases kq with
    | zero => exact absurd HA.out (by simp [jsonparser_h2I.j1])
    | succ kj4 =>
     have H := HA.out
     clear HA
     simp only [jsonparser_h2I.j1] at H
     by_cases c7 : x17_4 = true
     ·subst c7
      have H1 : (some (((a0 - 65) % 256) + 10)) = some r := by rw [if_pos rfl] at H; exact H
      clear H
      have H := H1
      clear H1
      obtain rfl := Option.some.inj H
      go_wp2
      go_ret
      exact ⟨by first | rfl | (simp; done) | (simp [*]; done), by repeat (first | exact Drawn0.refl _ | apply Drawn0.step)⟩
     replace c7 := Bool.eq_false_iff.mpr c7
     subst c7
     have H1 : (if a0 ≥ 97 then (if a0 ≤ 102 then (some (((a0 - 97) % 256) + 10)) else (some (-1))) else (some (-1))) = some r := by rw [if_neg (show ¬ (false = true) by decide)] at H; exact H
     clear H
     have H := H1
     clear H1
     by_cases c8 : a0 ≥ 97
     rotate_left
     ·rw [if_neg c8] at H
      have c8b0 : decide (97 ≤ a0) = false := decide_eq_false c8
      clear c8
      obtain rfl := Option.some.inj H
      go_wp2
      go_ret
      exact ⟨by first | rfl | (simp; done) | (simp [*]; done), by repeat (first | exact Drawn0.refl _ | apply Drawn0.step)⟩
     rw [if_pos c8] at H
     have c8b0 : decide (97 ≤ a0) = true := decide_eq_true c8
     clear c8
     by_cases c9 : a0 ≤ 102
     ·rw [if_pos c9] at H
      have c9b0 : decide (a0 ≤ 102) = true := decide_eq_true c9
      clear c9
      obtain rfl := Option.some.inj H
      go_wp2
      go_ret
      exact ⟨by first | rfl | (simp; done) | (simp [*]; done), by repeat (first | exact Drawn0.refl _ | apply Drawn0.step)⟩
     rw [if_neg c9] at H
     have c9b0 : decide (a0 ≤ 102) = false := decide_eq_false c9
     clear c9
     obtain rfl := Option.some.inj H
     go_wp2
     go_ret
     exact ⟨by first | rfl | (simp; done) | (simp [*]; done), by repeat (first | exact Drawn0.refl _ | apply Drawn0.step)⟩
def jsonparser_decodeSingleUnicodeEscape.f (k : Nat) (l0 : List Int) : Option (Int × Bool) := if (l0.length : Int) < 6 then (some (65533, false)) else (if 2 < (l0.length : Int) then ((jsonparser_h2I.f k (rd l0 2)).bind fun t102 => (if 3 < (l0.length : Int) then ((jsonparser_h2I.f k (rd l0 3)).bind fun t104 => (if 4 < (l0.length : Int) then ((jsonparser_h2I.f k (rd l0 4)).bind fun t106 => (if 5 < (l0.length : Int) then ((jsonparser_h2I.f k (rd l0 5)).bind fun t108 => (if t102 = (-1) then (some (65533, false)) else (if t104 = (-1) then (some (65533, false)) else (if t106 = (-1) then (some (65533, false)) else (if t108 = (-1) then (some (65533, false)) else (some (wrap32 (wrap64 ((wrap64 ((wrap64 ((wrap64 (t102 * 4096)) + (wrap64 (t104 * 256)))) + (wrap64 (t106 * 16)))) + t108)), true))))))) else (none))) else (none))) else (none))) else (none))
theorem jsonparser_decodeSingleUnicodeEscape.mono : ∀ a0 k, LeO (jsonparser_decodeSingleUnicodeEscape.f k a0) (jsonparser_decodeSingleUnicodeEscape.f (k + 1) a0) := by
 intro a0 k
 unfold jsonparser_decodeSingleUnicodeEscape.f
 repeat' first
  | (with_reducible exact jsonparser_h2I.mono _ _)
  | (with_reducible exact LeO.refl _)
  | (with_reducible exact LeO.none _)
  | (with_reducible refine LeO.ite ?_ ?_)
  | (with_reducible refine LeO.bind ?_ (fun _ => ?_))
  | exact jsonparser_h2I.mono _ _
  | exact LeO.none _
  | refine LeO.ite ?_ ?_
  | refine LeO.bind ?_ (fun _ => ?_)
set_option maxHeartbeats 8000000 in
set_option maxRecDepth 100000 in
theorem jsonparser_decodeSingleUnicodeEscape.calls (k : Nat) (A0 : Option Addr) (c0 : Nat) (l0 : List Int) (r1 : Int) (r2 : Bool) (w : World) (hr0 : Kd.C (Kd.int .u8) w A0 l0.length l0) (hc0 : l0.length ≤ c0) (h : jsonparser_decodeSingleUnicodeEscape.f k l0 = some (r1, r2)) :
 Calls Tryd.prog 141 #[.slice A0 l0.length c0] w fun e w' => e = .returned (.tuple #[.int .i32 r1, .bool r2]) ∧ Drawn0 w w' := by
 have HR0 := mk0 hr0
 have HC0 := mk0 hc0
 clear hr0 hc0
 have H : (if (l0.length : Int) < 6 then (some (65533, false)) else (if 2 < (l0.length : Int) then ((jsonparser_h2I.f k (rd l0 2)).bind fun t102 => (if 3 < (l0.length : Int) then ((jsonparser_h2I.f k (rd l0 3)).bind fun t104 => (if 4 < (l0.length : Int) then ((jsonparser_h2I.f k (rd l0 4)).bind fun t106 => (if 5 < (l0.length : Int) then ((jsonparser_h2I.f k (rd l0 5)).bind fun t108 => (if t102 = (-1) then (some (65533, false)) else (if t104 = (-1) then (some (65533, false)) else (if t106 = (-1) then (some (65533, false)) else (if t108 = (-1) then (some (65533, false)) else (some (wrap32 (wrap64 ((wrap64 ((wrap64 ((wrap64 (t102 * 4096)) + (wrap64 (t104 * 256)))) + (wrap64 (t106 * 16)))) + t108)), true))))))) else (none))) else (none))) else (none))) else (none))) = some (r1, r2) := h
 clear h
 by_cases c2 : (l0.length : Int) < 6
 ·rw [if_pos c2] at H
  have c2b0 : decide ((l0.length : Int) < 6) = true := decide_eq_true c2
  have c2b1 : decide (l0.length < 6) = true := decide_eq_true (by omega)
  clear c2
  simp only [Option.some.injEq, Prod.mk.injEq] at H
  obtain ⟨rfl, rfl⟩ := H
  go_enter Tryd.func141, Tryd.ntmps141
  go_wp2
  repeat (go_quiet (fail); try go_wp2)
  go_ret2
  exact ⟨by first | rfl | (simp; done) | (simp [*]; done), by repeat (first | exact Drawn0.refl _ | apply Drawn0.step)⟩
 rw [if_neg c2] at H
 have c2b0 : decide ((l0.length : Int) < 6) = false := decide_eq_false c2
 have c2b1 : decide (l0.length < 6) = false := decide_eq_false (by omega)
 clear c2
 by_cases c3 : 2 < (l0.length : Int)
 rotate_left
 ·rw [if_neg c3] at H
  exact absurd H (by simp)
 rw [if_pos c3] at H
 have c3b0 : decide (2 < (l0.length : Int)) = true := decide_eq_true c3
 have c3b1 : decide (2 < l0.length) = true := decide_eq_true (by omega)
 clear c3
 replace H := Option.bind_eq_some_iff.mp H
 obtain ⟨t102, A40, H⟩ := H
 replace H : (if 3 < (l0.length : Int) then ((jsonparser_h2I.f k (rd l0 3)).bind fun t104 => (if 4 < (l0.length : Int) then ((jsonparser_h2I.f k (rd l0 4)).bind fun t106 => (if 5 < (l0.length : Int) then ((jsonparser_h2I.f k (rd l0 5)).bind fun t108 => (if t102 = (-1) then (some (65533, false)) else (if t104 = (-1) then (some (65533, false)) else (if t106 = (-1) then (some (65533, false)) else (if t108 = (-1) then (some (65533, false)) else (some (wrap32 (wrap64 ((wrap64 ((wrap64 ((wrap64 (t102 * 4096)) + (wrap64 (t104 * 256)))) + (wrap64 (t106 * 16)))) + t108)), true))))))) else (none))) else (none))) else (none)) = some (r1, r2) := H
 have A4 := mk0 A40
 clear A40
 by_cases c5 : 3 < (l0.length : Int)
 rotate_left
 ·rw [if_neg c5] at H
  exact absurd H (by simp)
 rw [if_pos c5] at H
 have c5b0 : decide (3 < (l0.length : Int)) = true := decide_eq_true c5
 have c5b1 : decide (3 < l0.length) = true := decide_eq_true (by omega)
 clear c5
 replace H := Option.bind_eq_some_iff.mp H
 obtain ⟨t104, A60, H⟩ := H
 replace H : (if 4 < (l0.length : Int) then ((jsonparser_h2I.f k (rd l0 4)).bind fun t106 => (if 5 < (l0.length : Int) then ((jsonparser_h2I.f k (rd l0 5)).bind fun t108 => (if t102 = (-1) then (some (65533, false)) else (if t104 = (-1) then (some (65533, false)) else (if t106 = (-1) then (some (65533, false)) else (if t108 = (-1) then (some (65533, false)) else (some (wrap32 (wrap64 ((wrap64 ((wrap64 ((wrap64 (t102 * 4096)) + (wrap64 (t104 * 256)))) + (wrap64 (t106 * 16)))) + t108)), true))))))) else (none))) else (none)) = some (r1, r2) := H
 have A6 := mk0 A60
 clear A60
 by_cases c7 : 4 < (l0.length : Int)
 rotate_left
 ·rw [if_neg c7] at H
  exact absurd H (by simp)
 rw [if_pos c7] at H
 have c7b0 : decide (4 < (l0.length : Int)) = true := decide_eq_true c7
 have c7b1 : decide (4 < l0.length) = true := decide_eq_true (by omega)
 clear c7
 replace H := Option.bind_eq_some_iff.mp H
 obtain ⟨t106, A80, H⟩ := H
 replace H : (if 5 < (l0.length : Int) then ((jsonparser_h2I.f k (rd l0 5)).bind fun t108 => (if t102 = (-1) then (some (65533, false)) else (if t104 = (-1) then (some (65533, false)) else (if t106 = (-1) then (some (65533, false)) else (if t108 = (-1) then (some (65533, false)) else (some (wrap32 (wrap64 ((wrap64 ((wrap64 ((wrap64 (t102 * 4096)) + (wrap64 (t104 * 256)))) + (wrap64 (t106 * 16)))) + t108)), true))))))) else (none)) = some (r1, r2) := H
 have A8 := mk0 A80
 clear A80
 by_cases c9 : 5 < (l0.length : Int)
 rotate_left
 ·rw [if_neg c9] at H
  exact absurd H (by simp)
 rw [if_pos c9] at H
 have c9b0 : decide (5 < (l0.length : Int)) = true := decide_eq_true c9
 have c9b1 : decide (5 < l0.length) = true := decide_eq_true (by omega)
 clear c9
 replace H := Option.bind_eq_some_iff.mp H
 obtain ⟨t108, A100, H⟩ := H
 replace H : (if t102 = (-1) then (some (65533, false)) else (if t104 = (-1) then (some (65533, false)) else (if t106 = (-1) then (some (65533, false)) else (if t108 = (-1) then (some (65533, false)) else (some (wrap32 (wrap64 ((wrap64 ((wrap64 ((wrap64 (t102 * 4096)) + (wrap64 (t104 * 256)))) + (wrap64 (t106 * 16)))) + t108)), true)))))) = some (r1, r2) := H
 have A10 := mk0 A100
 clear A100
 by_cases c11 : t102 = (-1)
 ·rw [if_pos c11] at H
  have c11b0 : (t102 == (-1)) = true := beq_iff_eq.mpr c11
  have c11b1 : (t102 != (-1)) = false := bne_eq_false_iff_eq.mpr c11
  clear c11
  simp only [Option.some.injEq, Prod.mk.injEq] at H
  obtain ⟨rfl, rfl⟩ := H
  have p101 : 0 ≤ (2 : Int) := (by omega)
  have q101 : 2 < (l0.length : Int) := of_decide_eq_true zq1
  obtain ⟨ad101, e101, hx101_0⟩ := Kd.at_int HR0.out 2 p101 q101
  cases e101
  (try simp only [show (2 : Int).toNat = 2 from rfl, Nat.reduceMul, Nat.reduceEqDiff, Go.Addr.add, ↓reduceIte] at hx101_0)
  have qi101 : (2 < l0.length) = True := eq_true (by omega)
  (try rw [show ((2 : Int)).toNat = 2 from rfl] at hx101_0)
  replace p101 := eq_true p101
  replace q101 := eq_true q101
  go_enter Tryd.func141, Tryd.ntmps141
  go_wp2_with (first | (go_at_call 150; (with_reducible refine (jsonparser_h2I.calls k (rd l0 2) t102 _ A4.out).mono ?_); rintro e w' ⟨rfl, ⟨nd, rfl⟩⟩; (try first | exact ⟨rfl, _, World.drewN_drewN _ _ _⟩ | exact ⟨rfl, _, Eq.trans (World.drewN_drewN _ _ _) (congrArg (World.drewN _) (Nat.add_assoc _ _ _))⟩); have p103 : 0 ≤ (3 : Int) := (by omega); have q103 : 3 < (l0.length : Int) := of_decide_eq_true zq1; obtain ⟨ad103, e103, hx103_0⟩ := Kd.at_int HR0.out 3 p103 q103; obtain rfl : ad101 = ad103 := zq26; (try simp only [show (3 : Int).toNat = 3 from rfl, Nat.reduceMul, Nat.reduceEqDiff, Go.Addr.add, ↓reduceIte] at hx103_0); have qi103 : (3 < l0.length) = True := eq_true (by omega); (try rw [show ((3 : Int)).toNat = 3 from rfl] at hx103_0); replace p103 := eq_true p103; replace q103 := eq_true q103) | (go_at_call 150; (with_reducible refine (jsonparser_h2I.calls k (rd l0 3) t104 _ A6.out).mono ?_); rintro e w' ⟨rfl, ⟨nd, rfl⟩⟩; (try first | exact ⟨rfl, _, World.drewN_drewN _ _ _⟩ | exact ⟨rfl, _, Eq.trans (World.drewN_drewN _ _ _) (congrArg (World.drewN _) (Nat.add_assoc _ _ _))⟩); have p105 : 0 ≤ (4 : Int) := (by omega); have q105 : 4 < (l0.length : Int) := of_decide_eq_true zq1; obtain ⟨ad105, e105, hx105_0⟩ := Kd.at_int HR0.out 4 p105 q105; obtain rfl : ad101 = ad105 := zq24; (try simp only [show (4 : Int).toNat = 4 from rfl, Nat.reduceMul, Nat.reduceEqDiff, Go.Addr.add, ↓reduceIte] at hx105_0); have qi105 : (4 < l0.length) = True := eq_true (by omega); (try rw [show ((4 : Int)).toNat = 4 from rfl] at hx105_0); replace p105 := eq_true p105; replace q105 := eq_true q105) | (go_at_call 150; (with_reducible refine (jsonparser_h2I.calls k (rd l0 4) t106 _ A8.out).mono ?_); rintro e w' ⟨rfl, ⟨nd, rfl⟩⟩; (try first | exact ⟨rfl, _, World.drewN_drewN _ _ _⟩ | exact ⟨rfl, _, Eq.trans (World.drewN_drewN _ _ _) (congrArg (World.drewN _) (Nat.add_assoc _ _ _))⟩); have p107 : 0 ≤ (5 : Int) := (by omega); have q107 : 5 < (l0.length : Int) := of_decide_eq_true zq1; obtain ⟨ad107, e107, hx107_0⟩ := Kd.at_int HR0.out 5 p107 q107; obtain rfl : ad101 = ad107 := zq27; (try simp only [show (5 : Int).toNat = 5 from rfl, Nat.reduceMul, Nat.reduceEqDiff, Go.Addr.add, ↓reduceIte] at hx107_0); have qi107 : (5 < l0.length) = True := eq_true (by omega); (try rw [show ((5 : Int)).toNat = 5 from rfl] at hx107_0); replace p107 := eq_true p107; replace q107 := eq_true q107) | (go_at_call 150; (with_reducible refine (jsonparser_h2I.calls k (rd l0 5) t108 _ A10.out).mono ?_); rintro e w' ⟨rfl, ⟨nd, rfl⟩⟩; (try first | exact ⟨rfl, _, World.drewN_drewN _ _ _⟩ | exact ⟨rfl, _, Eq.trans (World.drewN_drewN _ _ _) (congrArg (World.drewN _) (Nat.add_assoc _ _ _))⟩)))
  repeat (go_quiet (first | (go_at_call 150; (with_reducible refine (jsonparser_h2I.calls k (rd l0 2) t102 _ A4.out).mono ?_); rintro e w' ⟨rfl, ⟨nd, rfl⟩⟩; (try first | exact ⟨rfl, _, World.drewN_drewN _ _ _⟩ | exact ⟨rfl, _, Eq.trans (World.drewN_drewN _ _ _) (congrArg (World.drewN _) (Nat.add_assoc _ _ _))⟩); have p103 : 0 ≤ (3 : Int) := (by omega); have q103 : 3 < (l0.length : Int) := of_decide_eq_true zq1; obtain ⟨ad103, e103, hx103_0⟩ := Kd.at_int HR0.out 3 p103 q103; obtain rfl : ad101 = ad103 := zq26; (try simp only [show (3 : Int).toNat = 3 from rfl, Nat.reduceMul, Nat.reduceEqDiff, Go.Addr.add, ↓reduceIte] at hx103_0); have qi103 : (3 < l0.length) = True := eq_true (by omega); (try rw [show ((3 : Int)).toNat = 3 from rfl] at hx103_0); replace p103 := eq_true p103; replace q103 := eq_true q103) | (go_at_call 150; (with_reducible refine (jsonparser_h2I.calls k (rd l0 3) t104 _ A6.out).mono ?_); rintro e w' ⟨rfl, ⟨nd, rfl⟩⟩; (try first | exact ⟨rfl, _, World.drewN_drewN _ _ _⟩ | exact ⟨rfl, _, Eq.trans (World.drewN_drewN _ _ _) (congrArg (World.drewN _) (Nat.add_assoc _ _ _))⟩); have p105 : 0 ≤ (4 : Int) := (by omega); have q105 : 4 < (l0.length : Int) := of_decide_eq_true zq1; obtain ⟨ad105, e105, hx105_0⟩ := Kd.at_int HR0.out 4 p105 q105; obtain rfl : ad101 = ad105 := zq24; (try simp only [show (4 : Int).toNat = 4 from rfl, Nat.reduceMul, Nat.reduceEqDiff, Go.Addr.add, ↓reduceIte] at hx105_0); have qi105 : (4 < l0.length) = True := eq_true (by omega); (try rw [show ((4 : Int)).toNat = 4 from rfl] at hx105_0); replace p105 := eq_true p105; replace q105 := eq_true q105) | (go_at_call 150; (with_reducible refine (jsonparser_h2I.calls k (rd l0 4) t106 _ A8.out).mono ?_); rintro e w' ⟨rfl, ⟨nd, rfl⟩⟩; (try first | exact ⟨rfl, _, World.drewN_drewN _ _ _⟩ | exact ⟨rfl, _, Eq.trans (World.drewN_drewN _ _ _) (congrArg (World.drewN _) (Nat.add_assoc _ _ _))⟩); have p107 : 0 ≤ (5 : Int) := (by omega); have q107 : 5 < (l0.length : Int) := of_decide_eq_true zq1; obtain ⟨ad107, e107, hx107_0⟩ := Kd.at_int HR0.out 5 p107 q107; obtain rfl : ad101 = ad107 := zq27; (try simp only [show (5 : Int).toNat = 5 from rfl, Nat.reduceMul, Nat.reduceEqDiff, Go.Addr.add, ↓reduceIte] at hx107_0); have qi107 : (5 < l0.length) = True := eq_true (by omega); (try rw [show ((5 : Int)).toNat = 5 from rfl] at hx107_0); replace p107 := eq_true p107; replace q107 := eq_true q107) | (go_at_call 150; (with_reducible refine (jsonparser_h2I.calls k (rd l0 5) t108 _ A10.out).mono ?_); rintro e w' ⟨rfl, ⟨nd, rfl⟩⟩; (try first | exact ⟨rfl, _, World.drewN_drewN _ _ _⟩ | exact ⟨rfl, _, Eq.trans (World.drewN_drewN _ _ _) (congrArg (World.drewN _) (Nat.add_assoc _ _ _))⟩))); try go_wp2_with (first | (go_at_call 150; (with_reducible refine (jsonparser_h2I.calls k (rd l0 2) t102 _ A4.out).mono ?_); rintro e w' ⟨rfl, ⟨nd, rfl⟩⟩; (try first | exact ⟨rfl, _, World.drewN_drewN _ _ _⟩ | exact ⟨rfl, _, Eq.trans (World.drewN_drewN _ _ _) (congrArg (World.drewN _) (Nat.add_assoc _ _ _))⟩); have p103 : 0 ≤ (3 : Int) := (by omega); have q103 : 3 < (l0.length : Int) := of_decide_eq_true zq1; obtain ⟨ad103, e103, hx103_0⟩ := Kd.at_int HR0.out 3 p103 q103; obtain rfl : ad101 = ad103 := zq26; (try simp only [show (3 : Int).toNat = 3 from rfl, Nat.reduceMul, Nat.reduceEqDiff, Go.Addr.add, ↓reduceIte] at hx103_0); have qi103 : (3 < l0.length) = True := eq_true (by omega); (try rw [show ((3 : Int)).toNat = 3 from rfl] at hx103_0); replace p103 := eq_true p103; replace q103 := eq_true q103) | (go_at_call 150; (with_reducible refine (jsonparser_h2I.calls k (rd l0 3) t104 _ A6.out).mono ?_); rintro e w' ⟨rfl, ⟨nd, rfl⟩⟩; (try first | exact ⟨rfl, _, World.drewN_drewN _ _ _⟩ | exact ⟨rfl, _, Eq.trans (World.drewN_drewN _ _ _) (congrArg (World.drewN _) (Nat.add_assoc _ _ _))⟩); have p105 : 0 ≤ (4 : Int) := (by omega); have q105 : 4 < (l0.length : Int) := of_decide_eq_true zq1; obtain ⟨ad105, e105, hx105_0⟩ := Kd.at_int HR0.out 4 p105 q105; obtain rfl : ad101 = ad105 := zq24; (try simp only [show (4 : Int).toNat = 4 from rfl, Nat.reduceMul, Nat.reduceEqDiff, Go.Addr.add, ↓reduceIte] at hx105_0); have qi105 : (4 < l0.length) = True := eq_true (by omega); (try rw [show ((4 : Int)).toNat = 4 from rfl] at hx105_0); replace p105 := eq_true p105; replace q105 := eq_true q105) | (go_at_call 150; (with_reducible refine (jsonparser_h2I.calls k (rd l0 4) t106 _ A8.out).mono ?_); rintro e w' ⟨rfl, ⟨nd, rfl⟩⟩; (try first | exact ⟨rfl, _, World.drewN_drewN _ _ _⟩ | exact ⟨rfl, _, Eq.trans (World.drewN_drewN _ _ _) (congrArg (World.drewN _) (Nat.add_assoc _ _ _))⟩); have p107 : 0 ≤ (5 : Int) := (by omega); have q107 : 5 < (l0.length : Int) := of_decide_eq_true zq1; obtain ⟨ad107, e107, hx107_0⟩ := Kd.at_int HR0.out 5 p107 q107; obtain rfl : ad101 = ad107 := zq27; (try simp only [show (5 : Int).toNat = 5 from rfl, Nat.reduceMul, Nat.reduceEqDiff, Go.Addr.add, ↓reduceIte] at hx107_0); have qi107 : (5 < l0.length) = True := eq_true (by omega); (try rw [show ((5 : Int)).toNat = 5 from rfl] at hx107_0); replace p107 := eq_true p107; replace q107 := eq_true q107) | (go_at_call 150; (with_reducible refine (jsonparser_h2I.calls k (rd l0 5) t108 _ A10.out).mono ?_); rintro e w' ⟨rfl, ⟨nd, rfl⟩⟩; (try first | exact ⟨rfl, _, World.drewN_drewN _ _ _⟩ | exact ⟨rfl, _, Eq.trans (World.drewN_drewN _ _ _) (congrArg (World.drewN _) (Nat.add_assoc _ _ _))⟩))))
  go_ret2
  exact ⟨by first | rfl | (simp; done) | (simp [*]; done), by repeat (first | exact Drawn0.refl _ | apply Drawn0.step)⟩
 rw [if_neg c11] at H
 have c11b0 : (t102 == (-1)) = false := beq_eq_false_iff_ne.mpr c11
 have c11b1 : (t102 != (-1)) = true := bne_iff_ne.mpr c11
 by_cases c12 : t104 = (-1)
 ·rw [if_pos c12] at H
  have c12b0 : (t104 == (-1)) = true := beq_iff_eq.mpr c12
  have c12b1 : (t104 != (-1)) = false := bne_eq_false_iff_eq.mpr c12
  clear c12
  simp only [Option.some.injEq, Prod.mk.injEq] at H
  obtain ⟨rfl, rfl⟩ := H
  have p101 : 0 ≤ (2 : Int) := (by omega)
  have q101 : 2 < (l0.length : Int) := of_decide_eq_true zq1
  obtain ⟨ad101, e101, hx101_0⟩ := Kd.at_int HR0.out 2 p101 q101
  cases e101
  (try simp only [show (2 : Int).toNat = 2 from rfl, Nat.reduceMul, Nat.reduceEqDiff, Go.Addr.add, ↓reduceIte] at hx101_0)
  have qi101 : (2 < l0.length) = True := eq_true (by omega)
  (try rw [show ((2 : Int)).toNat = 2 from rfl] at hx101_0)
  replace p101 := eq_true p101
  replace q101 := eq_true q101
  go_enter Tryd.func141, Tryd.ntmps141
  go_wp2_with (first | (go_at_call 150; (with_reducible refine (jsonparser_h2I.calls k (rd l0 2) t102 _ A4.out).mono ?_); rintro e w' ⟨rfl, ⟨nd, rfl⟩⟩; (try first | exact ⟨rfl, _, World.drewN_drewN _ _ _⟩ | exact ⟨rfl, _, Eq.trans (World.drewN_drewN _ _ _) (congrArg (World.drewN _) (Nat.add_assoc _ _ _))⟩); have p103 : 0 ≤ (3 : Int) := (by omega); have q103 : 3 < (l0.length : Int) := of_decide_eq_true zq1; obtain ⟨ad103, e103, hx103_0⟩ := Kd.at_int HR0.out 3 p103 q103; obtain rfl : ad101 = ad103 := zq26; (try simp only [show (3 : Int).toNat = 3 from rfl, Nat.reduceMul, Nat.reduceEqDiff, Go.Addr.add, ↓reduceIte] at hx103_0); have qi103 : (3 < l0.length) = True := eq_true (by omega); (try rw [show ((3 : Int)).toNat = 3 from rfl] at hx103_0); replace p103 := eq_true p103; replace q103 := eq_true q103) | (go_at_call 150; (with_reducible refine (jsonparser_h2I.calls k (rd l0 3) t104 _ A6.out).mono ?_); rintro e w' ⟨rfl, ⟨nd, rfl⟩⟩; (try first | exact ⟨rfl, _, World.drewN_drewN _ _ _⟩ | exact ⟨rfl, _, Eq.trans (World.drewN_drewN _ _ _) (congrArg (World.drewN _) (Nat.add_assoc _ _ _))⟩); have p105 : 0 ≤ (4 : Int) := (by omega); have q105 : 4 < (l0.length : Int) := of_decide_eq_true zq1; obtain ⟨ad105, e105, hx105_0⟩ := Kd.at_int HR0.out 4 p105 q105; obtain rfl : ad101 = ad105 := zq24; (try simp only [show (4 : Int).toNat = 4 from rfl, Nat.reduceMul, Nat.reduceEqDiff, Go.Addr.add, ↓reduceIte] at hx105_0); have qi105 : (4 < l0.length) = True := eq_true (by omega); (try rw [show ((4 : Int)).toNat = 4 from rfl] at hx105_0); replace p105 := eq_true p105; replace q105 := eq_true q105) | (go_at_call 150; (with_reducible refine (jsonparser_h2I.calls k (rd l0 4) t106 _ A8.out).mono ?_); rintro e w' ⟨rfl, ⟨nd, rfl⟩⟩; (try first | exact ⟨rfl, _, World.drewN_drewN _ _ _⟩ | exact ⟨rfl, _, Eq.trans (World.drewN_drewN _ _ _) (congrArg (World.drewN _) (Nat.add_assoc _ _ _))⟩); have p107 : 0 ≤ (5 : Int) := (by omega); have q107 : 5 < (l0.length : Int) := of_decide_eq_true zq1; obtain ⟨ad107, e107, hx107_0⟩ := Kd.at_int HR0.out 5 p107 q107; obtain rfl : ad101 = ad107 := zq27; (try simp only [show (5 : Int).toNat = 5 from rfl, Nat.reduceMul, Nat.reduceEqDiff, Go.Addr.add, ↓reduceIte] at hx107_0); have qi107 : (5 < l0.length) = True := eq_true (by omega); (try rw [show ((5 : Int)).toNat = 5 from rfl] at hx107_0); replace p107 := eq_true p107; replace q107 := eq_true q107) | (go_at_call 150; (with_reducible refine (jsonparser_h2I.calls k (rd l0 5) t108 _ A10.out).mono ?_); rintro e w' ⟨rfl, ⟨nd, rfl⟩⟩; (try first | exact ⟨rfl, _, World.drewN_drewN _ _ _⟩ | exact ⟨rfl, _, Eq.trans (World.drewN_drewN _ _ _) (congrArg (World.drewN _) (Nat.add_assoc _ _ _))⟩)))
  repeat (go_quiet (first | (go_at_call 150; (with_reducible refine (jsonparser_h2I.calls k (rd l0 2) t102 _ A4.out).mono ?_); rintro e w' ⟨rfl, ⟨nd, rfl⟩⟩; (try first | exact ⟨rfl, _, World.drewN_drewN _ _ _⟩ | exact ⟨rfl, _, Eq.trans (World.drewN_drewN _ _ _) (congrArg (World.drewN _) (Nat.add_assoc _ _ _))⟩); have p103 : 0 ≤ (3 : Int) := (by omega); have q103 : 3 < (l0.length : Int) := of_decide_eq_true zq1; obtain ⟨ad103, e103, hx103_0⟩ := Kd.at_int HR0.out 3 p103 q103; obtain rfl : ad101 = ad103 := zq26; (try simp only [show (3 : Int).toNat = 3 from rfl, Nat.reduceMul, Nat.reduceEqDiff, Go.Addr.add, ↓reduceIte] at hx103_0); have qi103 : (3 < l0.length) = True := eq_true (by omega); (try rw [show ((3 : Int)).toNat = 3 from rfl] at hx103_0); replace p103 := eq_true p103; replace q103 := eq_true q103) | (go_at_call 150; (with_reducible refine (jsonparser_h2I.calls k (rd l0 3) t104 _ A6.out).mono ?_); rintro e w' ⟨rfl, ⟨nd, rfl⟩⟩; (try first | exact ⟨rfl, _, World.drewN_drewN _ _ _⟩ | exact ⟨rfl, _, Eq.trans (World.drewN_drewN _ _ _) (congrArg (World.drewN _) (Nat.add_assoc _ _ _))⟩); have p105 : 0 ≤ (4 : Int) := (by omega); have q105 : 4 < (l0.length : Int) := of_decide_eq_true zq1; obtain ⟨ad105, e105, hx105_0⟩ := Kd.at_int HR0.out 4 p105 q105; obtain rfl : ad101 = ad105 := zq24; (try simp only [show (4 : Int).toNat = 4 from rfl, Nat.reduceMul, Nat.reduceEqDiff, Go.Addr.add, ↓reduceIte] at hx105_0); have qi105 : (4 < l0.length) = True := eq_true (by omega); (try rw [show ((4 : Int)).toNat = 4 from rfl] at hx105_0); replace p105 := eq_true p105; replace q105 := eq_true q105) | (go_at_call 150; (with_reducible refine (jsonparser_h2I.calls k (rd l0 4) t106 _ A8.out).mono ?_); rintro e w' ⟨rfl, ⟨nd, rfl⟩⟩; (try first | exact ⟨rfl, _, World.drewN_drewN _ _ _⟩ | exact ⟨rfl, _, Eq.trans (World.drewN_drewN _ _ _) (congrArg (World.drewN _) (Nat.add_assoc _ _ _))⟩); have p107 : 0 ≤ (5 : Int) := (by omega); have q107 : 5 < (l0.length : Int) := of_decide_eq_true zq1; obtain ⟨ad107, e107, hx107_0⟩ := Kd.at_int HR0.out 5 p107 q107; obtain rfl : ad101 = ad107 := zq27; (try simp only [show (5 : Int).toNat = 5 from rfl, Nat.reduceMul, Nat.reduceEqDiff, Go.Addr.add, ↓reduceIte] at hx107_0); have qi107 : (5 < l0.length) = True := eq_true (by omega); (try rw [show ((5 : Int)).toNat = 5 from rfl] at hx107_0); replace p107 := eq_true p107; replace q107 := eq_true q107) | (go_at_call 150; (with_reducible refine (jsonparser_h2I.calls k (rd l0 5) t108 _ A10.out).mono ?_); rintro e w' ⟨rfl, ⟨nd, rfl⟩⟩; (try first | exact ⟨rfl, _, World.drewN_drewN _ _ _⟩ | exact ⟨rfl, _, Eq.trans (World.drewN_drewN _ _ _) (congrArg (World.drewN _) (Nat.add_assoc _ _ _))⟩))); try go_wp2_with (first | (go_at_call 150; (with_reducible refine (jsonparser_h2I.calls k (rd l0 2) t102 _ A4.out).mono ?_); rintro e w' ⟨rfl, ⟨nd, rfl⟩⟩; (try first | exact ⟨rfl, _, World.drewN_drewN _ _ _⟩ | exact ⟨rfl, _, Eq.trans (World.drewN_drewN _ _ _) (congrArg (World.drewN _) (Nat.add_assoc _ _ _))⟩); have p103 : 0 ≤ (3 : Int) := (by omega); have q103 : 3 < (l0.length : Int) := of_decide_eq_true zq1; obtain ⟨ad103, e103, hx103_0⟩ := Kd.at_int HR0.out 3 p103 q103; obtain rfl : ad101 = ad103 := zq26; (try simp only [show (3 : Int).toNat = 3 from rfl, Nat.reduceMul, Nat.reduceEqDiff, Go.Addr.add, ↓reduceIte] at hx103_0); have qi103 : (3 < l0.length) = True := eq_true (by omega); (try rw [show ((3 : Int)).toNat = 3 from rfl] at hx103_0); replace p103 := eq_true p103; replace q103 := eq_true q103) | (go_at_call 150; (with_reducible refine (jsonparser_h2I.calls k (rd l0 3) t104 _ A6.out).mono ?_); rintro e w' ⟨rfl, ⟨nd, rfl⟩⟩; (try first | exact ⟨rfl, _, World.drewN_drewN _ _ _⟩ | exact ⟨rfl, _, Eq.trans (World.drewN_drewN _ _ _) (congrArg (World.drewN _) (Nat.add_assoc _ _ _))⟩); have p105 : 0 ≤ (4 : Int) := (by omega); have q105 : 4 < (l0.length : Int) := of_decide_eq_true zq1; obtain ⟨ad105, e105, hx105_0⟩ := Kd.at_int HR0.out 4 p105 q105; obtain rfl : ad101 = ad105 := zq24; (try simp only [show (4 : Int).toNat = 4 from rfl, Nat.reduceMul, Nat.reduceEqDiff, Go.Addr.add, ↓reduceIte] at hx105_0); have qi105 : (4 < l0.length) = True := eq_true (by omega); (try rw [show ((4 : Int)).toNat = 4 from rfl] at hx105_0); replace p105 := eq_true p105; replace q105 := eq_true q105) | (go_at_call 150; (with_reducible refine (jsonparser_h2I.calls k (rd l0 4) t106 _ A8.out).mono ?_); rintro e w' ⟨rfl, ⟨nd, rfl⟩⟩; (try first | exact ⟨rfl, _, World.drewN_drewN _ _ _⟩ | exact ⟨rfl, _, Eq.trans (World.drewN_drewN _ _ _) (congrArg (World.drewN _) (Nat.add_assoc _ _ _))⟩); have p107 : 0 ≤ (5 : Int) := (by omega); have q107 : 5 < (l0.length : Int) := of_decide_eq_true zq1; obtain ⟨ad107, e107, hx107_0⟩ := Kd.at_int HR0.out 5 p107 q107; obtain rfl : ad101 = ad107 := zq27; (try simp only [show (5 : Int).toNat = 5 from rfl, Nat.reduceMul, Nat.reduceEqDiff, Go.Addr.add, ↓reduceIte] at hx107_0); have qi107 : (5 < l0.length) = True := eq_true (by omega); (try rw [show ((5 : Int)).toNat = 5 from rfl] at hx107_0); replace p107 := eq_true p107; replace q107 := eq_true q107) | (go_at_call 150; (with_reducible refine (jsonparser_h2I.calls k (rd l0 5) t108 _ A10.out).mono ?_); rintro e w' ⟨rfl, ⟨nd, rfl⟩⟩; (try first | exact ⟨rfl, _, World.drewN_drewN _ _ _⟩ | exact ⟨rfl, _, Eq.trans (World.drewN_drewN _ _ _) (congrArg (World.drewN _) (Nat.add_assoc _ _ _))⟩))))
  go_ret2
  exact ⟨by first | rfl | (simp; done) | (simp [*]; done), by repeat (first | exact Drawn0.refl _ | apply Drawn0.step)⟩
 rw [if_neg c12] at H
 have c12b0 : (t104 == (-1)) = false := beq_eq_false_iff_ne.mpr c12
 have c12b1 : (t104 != (-1)) = true := bne_iff_ne.mpr c12
 by_cases c13 : t106 = (-1)
 ·rw [if_pos c13] at H
  have c13b0 : (t106 == (-1)) = true := beq_iff_eq.mpr c13
  have c13b1 : (t106 != (-1)) = false := bne_eq_false_iff_eq.mpr c13
  clear c13
  simp only [Option.some.injEq, Prod.mk.injEq] at H
  obtain ⟨rfl, rfl⟩ := H
  have p101 : 0 ≤ (2 : Int) := (by omega)
  have q101 : 2 < (l0.length : Int) := of_decide_eq_true zq1
  obtain ⟨ad101, e101, hx101_0⟩ := Kd.at_int HR0.out 2 p101 q101
  cases e101
  (try simp only [show (2 : Int).toNat = 2 from rfl, Nat.reduceMul, Nat.reduceEqDiff, Go.Addr.add, ↓reduceIte] at hx101_0)
  have qi101 : (2 < l0.length) = True := eq_true (by omega)
  (try rw [show ((2 : Int)).toNat = 2 from rfl] at hx101_0)
  replace p101 := eq_true p101
  replace q101 := eq_true q101
  go_enter Tryd.func141, Tryd.ntmps141
  go_wp2_with (first | (go_at_call 150; (with_reducible refine (jsonparser_h2I.calls k (rd l0 2) t102 _ A4.out).mono ?_); rintro e w' ⟨rfl, ⟨nd, rfl⟩⟩; (try first | exact ⟨rfl, _, World.drewN_drewN _ _ _⟩ | exact ⟨rfl, _, Eq.trans (World.drewN_drewN _ _ _) (congrArg (World.drewN _) (Nat.add_assoc _ _ _))⟩); have p103 : 0 ≤ (3 : Int) := (by omega); have q103 : 3 < (l0.length : Int) := of_decide_eq_true zq1; obtain ⟨ad103, e103, hx103_0⟩ := Kd.at_int HR0.out 3 p103 q103; obtain rfl : ad101 = ad103 := zq26; (try simp only [show (3 : Int).toNat = 3 from rfl, Nat.reduceMul, Nat.reduceEqDiff, Go.Addr.add, ↓reduceIte] at hx103_0); have qi103 : (3 < l0.length) = True := eq_true (by omega); (try rw [show ((3 : Int)).toNat = 3 from rfl] at hx103_0); replace p103 := eq_true p103; replace q103 := eq_true q103) | (go_at_call 150; (with_reducible refine (jsonparser_h2I.calls k (rd l0 3) t104 _ A6.out).mono ?_); rintro e w' ⟨rfl, ⟨nd, rfl⟩⟩; (try first | exact ⟨rfl, _, World.drewN_drewN _ _ _⟩ | exact ⟨rfl, _, Eq.trans (World.drewN_drewN _ _ _) (congrArg (World.drewN _) (Nat.add_assoc _ _ _))⟩); have p105 : 0 ≤ (4 : Int) := (by omega); have q105 : 4 < (l0.length : Int) := of_decide_eq_true zq1; obtain ⟨ad105, e105, hx105_0⟩ := Kd.at_int HR0.out 4 p105 q105; obtain rfl : ad101 = ad105 := zq24; (try simp only [show (4 : Int).toNat = 4 from rfl, Nat.reduceMul, Nat.reduceEqDiff, Go.Addr.add, ↓reduceIte] at hx105_0); have qi105 : (4 < l0.length) = True := eq_true (by omega); (try rw [show ((4 : Int)).toNat = 4 from rfl] at hx105_0); replace p105 := eq_true p105; replace q105 := eq_true q105) | (go_at_call 150; (with_reducible refine (jsonparser_h2I.calls k (rd l0 4) t106 _ A8.out).mono ?_); rintro e w' ⟨rfl, ⟨nd, rfl⟩⟩; (try first | exact ⟨rfl, _, World.drewN_drewN _ _ _⟩ | exact ⟨rfl, _, Eq.trans (World.drewN_drewN _ _ _) (congrArg (World.drewN _) (Nat.add_assoc _ _ _))⟩); have p107 : 0 ≤ (5 : Int) := (by omega); have q107 : 5 < (l0.length : Int) := of_decide_eq_true zq1; obtain ⟨ad107, e107, hx107_0⟩ := Kd.at_int HR0.out 5 p107 q107; obtain rfl : ad101 = ad107 := zq27; (try simp only [show (5 : Int).toNat = 5 from rfl, Nat.reduceMul, Nat.reduceEqDiff, Go.Addr.add, ↓reduceIte] at hx107_0); have qi107 : (5 < l0.length) = True := eq_true (by omega); (try rw [show ((5 : Int)).toNat = 5 from rfl] at hx107_0); replace p107 := eq_true p107; replace q107 := eq_true q107) | (go_at_call 150; (with_reducible refine (jsonparser_h2I.calls k (rd l0 5) t108 _ A10.out).mono ?_); rintro e w' ⟨rfl, ⟨nd, rfl⟩⟩; (try first | exact ⟨rfl, _, World.drewN_drewN _ _ _⟩ | exact ⟨rfl, _, Eq.trans (World.drewN_drewN _ _ _) (congrArg (World.drewN _) (Nat.add_assoc _ _ _))⟩)))
  repeat (go_quiet (first | (go_at_call 150; (with_reducible refine (jsonparser_h2I.calls k (rd l0 2) t102 _ A4.out).mono ?_); rintro e w' ⟨rfl, ⟨nd, rfl⟩⟩; (try first | exact ⟨rfl, _, World.drewN_drewN _ _ _⟩ | exact ⟨rfl, _, Eq.trans (World.drewN_drewN _ _ _) (congrArg (World.drewN _) (Nat.add_assoc _ _ _))⟩); have p103 : 0 ≤ (3 : Int) := (by omega); have q103 : 3 < (l0.length : Int) := of_decide_eq_true zq1; obtain ⟨ad103, e103, hx103_0⟩ := Kd.at_int HR0.out 3 p103 q103; obtain rfl : ad101 = ad103 := zq26; (try simp only [show (3 : Int).toNat = 3 from rfl, Nat.reduceMul, Nat.reduceEqDiff, Go.Addr.add, ↓reduceIte] at hx103_0); have qi103 : (3 < l0.length) = True := eq_true (by omega); (try rw [show ((3 : Int)).toNat = 3 from rfl] at hx103_0); replace p103 := eq_true p103; replace q103 := eq_true q103) | (go_at_call 150; (with_reducible refine (jsonparser_h2I.calls k (rd l0 3) t104 _ A6.out).mono ?_); rintro e w' ⟨rfl, ⟨nd, rfl⟩⟩; (try first | exact ⟨rfl, _, World.drewN_drewN _ _ _⟩ | exact ⟨rfl, _, Eq.trans (World.drewN_drewN _ _ _) (congrArg (World.drewN _) (Nat.add_assoc _ _ _))⟩); have p105 : 0 ≤ (4 : Int) := (by omega); have q105 : 4 < (l0.length : Int) := of_decide_eq_true zq1; obtain ⟨ad105, e105, hx105_0⟩ := Kd.at_int HR0.out 4 p105 q105; obtain rfl : ad101 = ad105 := zq24; (try simp only [show (4 : Int).toNat = 4 from rfl, Nat.reduceMul, Nat.reduceEqDiff, Go.Addr.add, ↓reduceIte] at hx105_0); have qi105 : (4 < l0.length) = True := eq_true (by omega); (try rw [show ((4 : Int)).toNat = 4 from rfl] at hx105_0); replace p105 := eq_true p105; replace q105 := eq_true q105) | (go_at_call 150; (with_reducible refine (jsonparser_h2I.calls k (rd l0 4) t106 _ A8.out).mono ?_); rintro e w' ⟨rfl, ⟨nd, rfl⟩⟩; (try first | exact ⟨rfl, _, World.drewN_drewN _ _ _⟩ | exact ⟨rfl, _, Eq.trans (World.drewN_drewN _ _ _) (congrArg (World.drewN _) (Nat.add_assoc _ _ _))⟩); have p107 : 0 ≤ (5 : Int) := (by omega); have q107 : 5 < (l0.length : Int) := of_decide_eq_true zq1; obtain ⟨ad107, e107, hx107_0⟩ := Kd.at_int HR0.out 5 p107 q107; obtain rfl : ad101 = ad107 := zq27; (try simp only [show (5 : Int).toNat = 5 from rfl, Nat.reduceMul, Nat.reduceEqDiff, Go.Addr.add, ↓reduceIte] at hx107_0); have qi107 : (5 < l0.length) = True := eq_true (by omega); (try rw [show ((5 : Int)).toNat = 5 from rfl] at hx107_0); replace p107 := eq_true p107; replace q107 := eq_true q107) | (go_at_call 150; (with_reducible refine (jsonparser_h2I.calls k (rd l0 5) t108 _ A10.out).mono ?_); rintro e w' ⟨rfl, ⟨nd, rfl⟩⟩; (try first | exact ⟨rfl, _, World.drewN_drewN _ _ _⟩ | exact ⟨rfl, _, Eq.trans (World.drewN_drewN _ _ _) (congrArg (World.drewN _) (Nat.add_assoc _ _ _))⟩))); try go_wp2_with (first | (go_at_call 150; (with_reducible refine (jsonparser_h2I.calls k (rd l0 2) t102 _ A4.out).mono ?_); rintro e w' ⟨rfl, ⟨nd, rfl⟩⟩; (try first | exact ⟨rfl, _, World.drewN_drewN _ _ _⟩ | exact ⟨rfl, _, Eq.trans (World.drewN_drewN _ _ _) (congrArg (World.drewN _) (Nat.add_assoc _ _ _))⟩); have p103 : 0 ≤ (3 : Int) := (by omega); have q103 : 3 < (l0.length : Int) := of_decide_eq_true zq1; obtain ⟨ad103, e103, hx103_0⟩ := Kd.at_int HR0.out 3 p103 q103; obtain rfl : ad101 = ad103 := zq26; (try simp only [show (3 : Int).toNat = 3 from rfl, Nat.reduceMul, Nat.reduceEqDiff, Go.Addr.add, ↓reduceIte] at hx103_0); have qi103 : (3 < l0.length) = True := eq_true (by omega); (try rw [show ((3 : Int)).toNat = 3 from rfl] at hx103_0); replace p103 := eq_true p103; replace q103 := eq_true q103) | (go_at_call 150; (with_reducible refine (jsonparser_h2I.calls k (rd l0 3) t104 _ A6.out).mono ?_); rintro e w' ⟨rfl, ⟨nd, rfl⟩⟩; (try first | exact ⟨rfl, _, World.drewN_drewN _ _ _⟩ | exact ⟨rfl, _, Eq.trans (World.drewN_drewN _ _ _) (congrArg (World.drewN _) (Nat.add_assoc _ _ _))⟩); have p105 : 0 ≤ (4 : Int) := (by omega); have q105 : 4 < (l0.length : Int) := of_decide_eq_true zq1; obtain ⟨ad105, e105, hx105_0⟩ := Kd.at_int HR0.out 4 p105 q105; obtain rfl : ad101 = ad105 := zq24; (try simp only [show (4 : Int).toNat = 4 from rfl, Nat.reduceMul, Nat.reduceEqDiff, Go.Addr.add, ↓reduceIte] at hx105_0); have qi105 : (4 < l0.length) = True := eq_true (by omega); (try rw [show ((4 : Int)).toNat = 4 from rfl] at hx105_0); replace p105 := eq_true p105; replace q105 := eq_true q105) | (go_at_call 150; (with_reducible refine (jsonparser_h2I.calls k (rd l0 4) t106 _ A8.out).mono ?_); rintro e w' ⟨rfl, ⟨nd, rfl⟩⟩; (try first | exact ⟨rfl, _, World.drewN_drewN _ _ _⟩ | exact ⟨rfl, _, Eq.trans (World.drewN_drewN _ _ _) (congrArg (World.drewN _) (Nat.add_assoc _ _ _))⟩); have p107 : 0 ≤ (5 : Int) := (by omega); have q107 : 5 < (l0.length : Int) := of_decide_eq_true zq1; obtain ⟨ad107, e107, hx107_0⟩ := Kd.at_int HR0.out 5 p107 q107; obtain rfl : ad101 = ad107 := zq27; (try simp only [show (5 : Int).toNat = 5 from rfl, Nat.reduceMul, Nat.reduceEqDiff, Go.Addr.add, ↓reduceIte] at hx107_0); have qi107 : (5 < l0.length) = True := eq_true (by omega); (try rw [show ((5 : Int)).toNat = 5 from rfl] at hx107_0); replace p107 := eq_true p107; replace q107 := eq_true q107) | (go_at_call 150; (with_reducible refine (jsonparser_h2I.calls k (rd l0 5) t108 _ A10.out).mono ?_); rintro e w' ⟨rfl, ⟨nd, rfl⟩⟩; (try first | exact ⟨rfl, _, World.drewN_drewN _ _ _⟩ | exact ⟨rfl, _, Eq.trans (World.drewN_drewN _ _ _) (congrArg (World.drewN _) (Nat.add_assoc _ _ _))⟩))))
  go_ret2
  exact ⟨by first | rfl | (simp; done) | (simp [*]; done), by repeat (first | exact Drawn0.refl _ | apply Drawn0.step)⟩
 rw [if_neg c13] at H
 have c13b0 : (t106 == (-1)) = false := beq_eq_false_iff_ne.mpr c13
 have c13b1 : (t106 != (-1)) = true := bne_iff_ne.mpr c13
 by_cases c14 : t108 = (-1)
 rotate_left
 ·rw [if_neg c14] at H
  have c14b0 : (t108 == (-1)) = false := beq_eq_false_iff_ne.mpr c14
  have c14b1 : (t108 != (-1)) = true := bne_iff_ne.mpr c14
  simp only [Option.some.injEq, Prod.mk.injEq] at H
  obtain ⟨rfl, rfl⟩ := H
  have p101 : 0 ≤ (2 : Int) := (by omega)
  have q101 : 2 < (l0.length : Int) := of_decide_eq_true zq1
  obtain ⟨ad101, e101, hx101_0⟩ := Kd.at_int HR0.out 2 p101 q101
  cases e101
  (try simp only [show (2 : Int).toNat = 2 from rfl, Nat.reduceMul, Nat.reduceEqDiff, Go.Addr.add, ↓reduceIte] at hx101_0)
  have qi101 : (2 < l0.length) = True := eq_true (by omega)
  (try rw [show ((2 : Int)).toNat = 2 from rfl] at hx101_0)
  replace p101 := eq_true p101
  replace q101 := eq_true q101
  go_enter Tryd.func141, Tryd.ntmps141
  go_wp2_with (first | (go_at_call 150; (with_reducible refine (jsonparser_h2I.calls k (rd l0 2) t102 _ A4.out).mono ?_); rintro e w' ⟨rfl, ⟨nd, rfl⟩⟩; (try first | exact ⟨rfl, _, World.drewN_drewN _ _ _⟩ | exact ⟨rfl, _, Eq.trans (World.drewN_drewN _ _ _) (congrArg (World.drewN _) (Nat.add_assoc _ _ _))⟩); have p103 : 0 ≤ (3 : Int) := (by omega); have q103 : 3 < (l0.length : Int) := of_decide_eq_true zq1; obtain ⟨ad103, e103, hx103_0⟩ := Kd.at_int HR0.out 3 p103 q103; obtain rfl : ad101 = ad103 := zq26; (try simp only [show (3 : Int).toNat = 3 from rfl, Nat.reduceMul, Nat.reduceEqDiff, Go.Addr.add, ↓reduceIte] at hx103_0); have qi103 : (3 < l0.length) = True := eq_true (by omega); (try rw [show ((3 : Int)).toNat = 3 from rfl] at hx103_0); replace p103 := eq_true p103; replace q103 := eq_true q103) | (go_at_call 150; (with_reducible refine (jsonparser_h2I.calls k (rd l0 3) t104 _ A6.out).mono ?_); rintro e w' ⟨rfl, ⟨nd, rfl⟩⟩; (try first | exact ⟨rfl, _, World.drewN_drewN _ _ _⟩ | exact ⟨rfl, _, Eq.trans (World.drewN_drewN _ _ _) (congrArg (World.drewN _) (Nat.add_assoc _ _ _))⟩); have p105 : 0 ≤ (4 : Int) := (by omega); have q105 : 4 < (l0.length : Int) := of_decide_eq_true zq1; obtain ⟨ad105, e105, hx105_0⟩ := Kd.at_int HR0.out 4 p105 q105; obtain rfl : ad101 = ad105 := zq24; (try simp only [show (4 : Int).toNat = 4 from rfl, Nat.reduceMul, Nat.reduceEqDiff, Go.Addr.add, ↓reduceIte] at hx105_0); have qi105 : (4 < l0.length) = True := eq_true (by omega); (try rw [show ((4 : Int)).toNat = 4 from rfl] at hx105_0); replace p105 := eq_true p105; replace q105 := eq_true q105) | (go_at_call 150; (with_reducible refine (jsonparser_h2I.calls k (rd l0 4) t106 _ A8.out).mono ?_); rintro e w' ⟨rfl, ⟨nd, rfl⟩⟩; (try first | exact ⟨rfl, _, World.drewN_drewN _ _ _⟩ | exact ⟨rfl, _, Eq.trans (World.drewN_drewN _ _ _) (congrArg (World.drewN _) (Nat.add_assoc _ _ _))⟩); have p107 : 0 ≤ (5 : Int) := (by omega); have q107 : 5 < (l0.length : Int) := of_decide_eq_true zq1; obtain ⟨ad107, e107, hx107_0⟩ := Kd.at_int HR0.out 5 p107 q107; obtain rfl : ad101 = ad107 := zq27; (try simp only [show (5 : Int).toNat = 5 from rfl, Nat.reduceMul, Nat.reduceEqDiff, Go.Addr.add, ↓reduceIte] at hx107_0); have qi107 : (5 < l0.length) = True := eq_true (by omega); (try rw [show ((5 : Int)).toNat = 5 from rfl] at hx107_0); replace p107 := eq_true p107; replace q107 := eq_true q107) | (go_at_call 150; (with_reducible refine (jsonparser_h2I.calls k (rd l0 5) t108 _ A10.out).mono ?_); rintro e w' ⟨rfl, ⟨nd, rfl⟩⟩; (try first | exact ⟨rfl, _, World.drewN_drewN _ _ _⟩ | exact ⟨rfl, _, Eq.trans (World.drewN_drewN _ _ _) (congrArg (World.drewN _) (Nat.add_assoc _ _ _))⟩)))
  repeat (go_quiet (first | (go_at_call 150; (with_reducible refine (jsonparser_h2I.calls k (rd l0 2) t102 _ A4.out).mono ?_); rintro e w' ⟨rfl, ⟨nd, rfl⟩⟩; (try first | exact ⟨rfl, _, World.drewN_drewN _ _ _⟩ | exact ⟨rfl, _, Eq.trans (World.drewN_drewN _ _ _) (congrArg (World.drewN _) (Nat.add_assoc _ _ _))⟩); have p103 : 0 ≤ (3 : Int) := (by omega); have q103 : 3 < (l0.length : Int) := of_decide_eq_true zq1; obtain ⟨ad103, e103, hx103_0⟩ := Kd.at_int HR0.out 3 p103 q103; obtain rfl : ad101 = ad103 := zq26; (try simp only [show (3 : Int).toNat = 3 from rfl, Nat.reduceMul, Nat.reduceEqDiff, Go.Addr.add, ↓reduceIte] at hx103_0); have qi103 : (3 < l0.length) = True := eq_true (by omega); (try rw [show ((3 : Int)).toNat = 3 from rfl] at hx103_0); replace p103 := eq_true p103; replace q103 := eq_true q103) | (go_at_call 150; (with_reducible refine (jsonparser_h2I.calls k (rd l0 3) t104 _ A6.out).mono ?_); rintro e w' ⟨rfl, ⟨nd, rfl⟩⟩; (try first | exact ⟨rfl, _, World.drewN_drewN _ _ _⟩ | exact ⟨rfl, _, Eq.trans (World.drewN_drewN _ _ _) (congrArg (World.drewN _) (Nat.add_assoc _ _ _))⟩); have p105 : 0 ≤ (4 : Int) := (by omega); have q105 : 4 < (l0.length : Int) := of_decide_eq_true zq1; obtain ⟨ad105, e105, hx105_0⟩ := Kd.at_int HR0.out 4 p105 q105; obtain rfl : ad101 = ad105 := zq24; (try simp only [show (4 : Int).toNat = 4 from rfl, Nat.reduceMul, Nat.reduceEqDiff, Go.Addr.add, ↓reduceIte] at hx105_0); have qi105 : (4 < l0.length) = True := eq_true (by omega); (try rw [show ((4 : Int)).toNat = 4 from rfl] at hx105_0); replace p105 := eq_true p105; replace q105 := eq_true q105) | (go_at_call 150; (with_reducible refine (jsonparser_h2I.calls k (rd l0 4) t106 _ A8.out).mono ?_); rintro e w' ⟨rfl, ⟨nd, rfl⟩⟩; (try first | exact ⟨rfl, _, World.drewN_drewN _ _ _⟩ | exact ⟨rfl, _, Eq.trans (World.drewN_drewN _ _ _) (congrArg (World.drewN _) (Nat.add_assoc _ _ _))⟩); have p107 : 0 ≤ (5 : Int) := (by omega); have q107 : 5 < (l0.length : Int) := of_decide_eq_true zq1; obtain ⟨ad107, e107, hx107_0⟩ := Kd.at_int HR0.out 5 p107 q107; obtain rfl : ad101 = ad107 := zq27; (try simp only [show (5 : Int).toNat = 5 from rfl, Nat.reduceMul, Nat.reduceEqDiff, Go.Addr.add, ↓reduceIte] at hx107_0); have qi107 : (5 < l0.length) = True := eq_true (by omega); (try rw [show ((5 : Int)).toNat = 5 from rfl] at hx107_0); replace p107 := eq_true p107; replace q107 := eq_true q107) | (go_at_call 150; (with_reducible refine (jsonparser_h2I.calls k (rd l0 5) t108 _ A10.out).mono ?_); rintro e w' ⟨rfl, ⟨nd, rfl⟩⟩; (try first | exact ⟨rfl, _, World.drewN_drewN _ _ _⟩ | exact ⟨rfl, _, Eq.trans (World.drewN_drewN _ _ _) (congrArg (World.drewN _) (Nat.add_assoc _ _ _))⟩))); try go_wp2_with (first | (go_at_call 150; (with_reducible refine (jsonparser_h2I.calls k (rd l0 2) t102 _ A4.out).mono ?_); rintro e w' ⟨rfl, ⟨nd, rfl⟩⟩; (try first | exact ⟨rfl, _, World.drewN_drewN _ _ _⟩ | exact ⟨rfl, _, Eq.trans (World.drewN_drewN _ _ _) (congrArg (World.drewN _) (Nat.add_assoc _ _ _))⟩); have p103 : 0 ≤ (3 : Int) := (by omega); have q103 : 3 < (l0.length : Int) := of_decide_eq_true zq1; obtain ⟨ad103, e103, hx103_0⟩ := Kd.at_int HR0.out 3 p103 q103; obtain rfl : ad101 = ad103 := zq26; (try simp only [show (3 : Int).toNat = 3 from rfl, Nat.reduceMul, Nat.reduceEqDiff, Go.Addr.add, ↓reduceIte] at hx103_0); have qi103 : (3 < l0.length) = True := eq_true (by omega); (try rw [show ((3 : Int)).toNat = 3 from rfl] at hx103_0); replace p103 := eq_true p103; replace q103 := eq_true q103) | (go_at_call 150; (with_reducible refine (jsonparser_h2I.calls k (rd l0 3) t104 _ A6.out).mono ?_); rintro e w' ⟨rfl, ⟨nd, rfl⟩⟩; (try first | exact ⟨rfl, _, World.drewN_drewN _ _ _⟩ | exact ⟨rfl, _, Eq.trans (World.drewN_drewN _ _ _) (congrArg (World.drewN _) (Nat.add_assoc _ _ _))⟩); have p105 : 0 ≤ (4 : Int) := (by omega); have q105 : 4 < (l0.length : Int) := of_decide_eq_true zq1; obtain ⟨ad105, e105, hx105_0⟩ := Kd.at_int HR0.out 4 p105 q105; obtain rfl : ad101 = ad105 := zq24; (try simp only [show (4 : Int).toNat = 4 from rfl, Nat.reduceMul, Nat.reduceEqDiff, Go.Addr.add, ↓reduceIte] at hx105_0); have qi105 : (4 < l0.length) = True := eq_true (by omega); (try rw [show ((4 : Int)).toNat = 4 from rfl] at hx105_0); replace p105 := eq_true p105; replace q105 := eq_true q105) | (go_at_call 150; (with_reducible refine (jsonparser_h2I.calls k (rd l0 4) t106 _ A8.out).mono ?_); rintro e w' ⟨rfl, ⟨nd, rfl⟩⟩; (try first | exact ⟨rfl, _, World.drewN_drewN _ _ _⟩ | exact ⟨rfl, _, Eq.trans (World.drewN_drewN _ _ _) (congrArg (World.drewN _) (Nat.add_assoc _ _ _))⟩); have p107 : 0 ≤ (5 : Int) := (by omega); have q107 : 5 < (l0.length : Int) := of_decide_eq_true zq1; obtain ⟨ad107, e107, hx107_0⟩ := Kd.at_int HR0.out 5 p107 q107; obtain rfl : ad101 = ad107 := zq27; (try simp only [show (5 : Int).toNat = 5 from rfl, Nat.reduceMul, Nat.reduceEqDiff, Go.Addr.add, ↓reduceIte] at hx107_0); have qi107 : (5 < l0.length) = True := eq_true (by omega); (try rw [show ((5 : Int)).toNat = 5 from rfl] at hx107_0); replace p107 := eq_true p107; replace q107 := eq_true q107) | (go_at_call 150; (with_reducible refine (jsonparser_h2I.calls k (rd l0 5) t108 _ A10.out).mono ?_); rintro e w' ⟨rfl, ⟨nd, rfl⟩⟩; (try first | exact ⟨rfl, _, World.drewN_drewN _ _ _⟩ | exact ⟨rfl, _, Eq.trans (World.drewN_drewN _ _ _) (congrArg (World.drewN _) (Nat.add_assoc _ _ _))⟩))))
  go_ret2
  exact ⟨by first | rfl | (simp; done) | (simp [*]; done), by repeat (first | exact Drawn0.refl _ | apply Drawn0.step)⟩
 rw [if_pos c14] at H
 have c14b0 : (t108 == (-1)) = true := beq_iff_eq.mpr c14
 have c14b1 : (t108 != (-1)) = false := bne_eq_false_iff_eq.mpr c14
 clear c14
 simp only [Option.some.injEq, Prod.mk.injEq] at H
 obtain ⟨rfl, rfl⟩ := H
 have p101 : 0 ≤ (2 : Int) := (by omega)
 have q101 : 2 < (l0.length : Int) := of_decide_eq_true zq1
 obtain ⟨ad101, e101, hx101_0⟩ := Kd.at_int HR0.out 2 p101 q101
 cases e101
 (try simp only [show (2 : Int).toNat = 2 from rfl, Nat.reduceMul, Nat.reduceEqDiff, Go.Addr.add, ↓reduceIte] at hx101_0)
 have qi101 : (2 < l0.length) = True := eq_true (by omega)
 (try rw [show ((2 : Int)).toNat = 2 from rfl] at hx101_0)
 replace p101 := eq_true p101
 replace q101 := eq_true q101
 go_enter Tryd.func141, Tryd.ntmps141
 go_wp2_with (first | (go_at_call 150; (with_reducible refine (jsonparser_h2I.calls k (rd l0 2) t102 _ A4.out).mono ?_); rintro e w' ⟨rfl, ⟨nd, rfl⟩⟩; (try first | exact ⟨rfl, _, World.drewN_drewN _ _ _⟩ | exact ⟨rfl, _, Eq.trans (World.drewN_drewN _ _ _) (congrArg (World.drewN _) (Nat.add_assoc _ _ _))⟩); have p103 : 0 ≤ (3 : Int) := (by omega); have q103 : 3 < (l0.length : Int) := of_decide_eq_true zq1; obtain ⟨ad103, e103, hx103_0⟩ := Kd.at_int HR0.out 3 p103 q103; obtain rfl : ad101 = ad103 := zq26; (try simp only [show (3 : Int).toNat = 3 from rfl, Nat.reduceMul, Nat.reduceEqDiff, Go.Addr.add, ↓reduceIte] at hx103_0); have qi103 : (3 < l0.length) = True := eq_true (by omega); (try rw [show ((3 : Int)).toNat = 3 from rfl] at hx103_0); replace p103 := eq_true p103; replace q103 := eq_true q103) | (go_at_call 150; (with_reducible refine (jsonparser_h2I.calls k (rd l0 3) t104 _ A6.out).mono ?_); rintro e w' ⟨rfl, ⟨nd, rfl⟩⟩; (try first | exact ⟨rfl, _, World.drewN_drewN _ _ _⟩ | exact ⟨rfl, _, Eq.trans (World.drewN_drewN _ _ _) (congrArg (World.drewN _) (Nat.add_assoc _ _ _))⟩); have p105 : 0 ≤ (4 : Int) := (by omega); have q105 : 4 < (l0.length : Int) := of_decide_eq_true zq1; obtain ⟨ad105, e105, hx105_0⟩ := Kd.at_int HR0.out 4 p105 q105; obtain rfl : ad101 = ad105 := zq24; (try simp only [show (4 : Int).toNat = 4 from rfl, Nat.reduceMul, Nat.reduceEqDiff, Go.Addr.add, ↓reduceIte] at hx105_0); have qi105 : (4 < l0.length) = True := eq_true (by omega); (try rw [show ((4 : Int)).toNat = 4 from rfl] at hx105_0); replace p105 := eq_true p105; replace q105 := eq_true q105) | (go_at_call 150; (with_reducible refine (jsonparser_h2I.calls k (rd l0 4) t106 _ A8.out).mono ?_); rintro e w' ⟨rfl, ⟨nd, rfl⟩⟩; (try first | exact ⟨rfl, _, World.drewN_drewN _ _ _⟩ | exact ⟨rfl, _, Eq.trans (World.drewN_drewN _ _ _) (congrArg (World.drewN _) (Nat.add_assoc _ _ _))⟩); have p107 : 0 ≤ (5 : Int) := (by omega); have q107 : 5 < (l0.length : Int) := of_decide_eq_true zq1; obtain ⟨ad107, e107, hx107_0⟩ := Kd.at_int HR0.out 5 p107 q107; obtain rfl : ad101 = ad107 := zq27; (try simp only [show (5 : Int).toNat = 5 from rfl, Nat.reduceMul, Nat.reduceEqDiff, Go.Addr.add, ↓reduceIte] at hx107_0); have qi107 : (5 < l0.length) = True := eq_true (by omega); (try rw [show ((5 : Int)).toNat = 5 from rfl] at hx107_0); replace p107 := eq_true p107; replace q107 := eq_true q107) | (go_at_call 150; (with_reducible refine (jsonparser_h2I.calls k (rd l0 5) t108 _ A10.out).mono ?_); rintro e w' ⟨rfl, ⟨nd, rfl⟩⟩; (try first | exact ⟨rfl, _, World.drewN_drewN _ _ _⟩ | exact ⟨rfl, _, Eq.trans (World.drewN_drewN _ _ _) (congrArg (World.drewN _) (Nat.add_assoc _ _ _))⟩)))
 repeat (go_quiet (first | (go_at_call 150; (with_reducible refine (jsonparser_h2I.calls k (rd l0 2) t102 _ A4.out).mono ?_); rintro e w' ⟨rfl, ⟨nd, rfl⟩⟩; (try first | exact ⟨rfl, _, World.drewN_drewN _ _ _⟩ | exact ⟨rfl, _, Eq.trans (World.drewN_drewN _ _ _) (congrArg (World.drewN _) (Nat.add_assoc _ _ _))⟩); have p103 : 0 ≤ (3 : Int) := (by omega); have q103 : 3 < (l0.length : Int) := of_decide_eq_true zq1; obtain ⟨ad103, e103, hx103_0⟩ := Kd.at_int HR0.out 3 p103 q103; obtain rfl : ad101 = ad103 := zq26; (try simp only [show (3 : Int).toNat = 3 from rfl, Nat.reduceMul, Nat.reduceEqDiff, Go.Addr.add, ↓reduceIte] at hx103_0); have qi103 : (3 < l0.length) = True := eq_true (by omega); (try rw [show ((3 : Int)).toNat = 3 from rfl] at hx103_0); replace p103 := eq_true p103; replace q103 := eq_true q103) | (go_at_call 150; (with_reducible refine (jsonparser_h2I.calls k (rd l0 3) t104 _ A6.out).mono ?_); rintro e w' ⟨rfl, ⟨nd, rfl⟩⟩; (try first | exact ⟨rfl, _, World.drewN_drewN _ _ _⟩ | exact ⟨rfl, _, Eq.trans (World.drewN_drewN _ _ _) (congrArg (World.drewN _) (Nat.add_assoc _ _ _))⟩); have p105 : 0 ≤ (4 : Int) := (by omega); have q105 : 4 < (l0.length : Int) := of_decide_eq_true zq1; obtain ⟨ad105, e105, hx105_0⟩ := Kd.at_int HR0.out 4 p105 q105; obtain rfl : ad101 = ad105 := zq24; (try simp only [show (4 : Int).toNat = 4 from rfl, Nat.reduceMul, Nat.reduceEqDiff, Go.Addr.add, ↓reduceIte] at hx105_0); have qi105 : (4 < l0.length) = True := eq_true (by omega); (try rw [show ((4 : Int)).toNat = 4 from rfl] at hx105_0); replace p105 := eq_true p105; replace q105 := eq_true q105) | (go_at_call 150; (with_reducible refine (jsonparser_h2I.calls k (rd l0 4) t106 _ A8.out).mono ?_); rintro e w' ⟨rfl, ⟨nd, rfl⟩⟩; (try first | exact ⟨rfl, _, World.drewN_drewN _ _ _⟩ | exact ⟨rfl, _, Eq.trans (World.drewN_drewN _ _ _) (congrArg (World.drewN _) (Nat.add_assoc _ _ _))⟩); have p107 : 0 ≤ (5 : Int) := (by omega); have q107 : 5 < (l0.length : Int) := of_decide_eq_true zq1; obtain ⟨ad107, e107, hx107_0⟩ := Kd.at_int HR0.out 5 p107 q107; obtain rfl : ad101 = ad107 := zq27; (try simp only [show (5 : Int).toNat = 5 from rfl, Nat.reduceMul, Nat.reduceEqDiff, Go.Addr.add, ↓reduceIte] at hx107_0); have qi107 : (5 < l0.length) = True := eq_true (by omega); (try rw [show ((5 : Int)).toNat = 5 from rfl] at hx107_0); replace p107 := eq_true p107; replace q107 := eq_true q107) | (go_at_call 150; (with_reducible refine (jsonparser_h2I.calls k (rd l0 5) t108 _ A10.out).mono ?_); rintro e w' ⟨rfl, ⟨nd, rfl⟩⟩; (try first | exact ⟨rfl, _, World.drewN_drewN _ _ _⟩ | exact ⟨rfl, _, Eq.trans (World.drewN_drewN _ _ _) (congrArg (World.drewN _) (Nat.add_assoc _ _ _))⟩))); try go_wp2_with (first | (go_at_call 150; (with_reducible refine (jsonparser_h2I.calls k (rd l0 2) t102 _ A4.out).mono ?_); rintro e w' ⟨rfl, ⟨nd, rfl⟩⟩; (try first | exact ⟨rfl, _, World.drewN_drewN _ _ _⟩ | exact ⟨rfl, _, Eq.trans (World.drewN_drewN _ _ _) (congrArg (World.drewN _) (Nat.add_assoc _ _ _))⟩); have p103 : 0 ≤ (3 : Int) := (by omega); have q103 : 3 < (l0.length : Int) := of_decide_eq_true zq1; obtain ⟨ad103, e103, hx103_0⟩ := Kd.at_int HR0.out 3 p103 q103; obtain rfl : ad101 = ad103 := zq26; (try simp only [show (3 : Int).toNat = 3 from rfl, Nat.reduceMul, Nat.reduceEqDiff, Go.Addr.add, ↓reduceIte] at hx103_0); have qi103 : (3 < l0.length) = True := eq_true (by omega); (try rw [show ((3 : Int)).toNat = 3 from rfl] at hx103_0); replace p103 := eq_true p103; replace q103 := eq_true q103) | (go_at_call 150; (with_reducible refine (jsonparser_h2I.calls k (rd l0 3) t104 _ A6.out).mono ?_); rintro e w' ⟨rfl, ⟨nd, rfl⟩⟩; (try first | exact ⟨rfl, _, World.drewN_drewN _ _ _⟩ | exact ⟨rfl, _, Eq.trans (World.drewN_drewN _ _ _) (congrArg (World.drewN _) (Nat.add_assoc _ _ _))⟩); have p105 : 0 ≤ (4 : Int) := (by omega); have q105 : 4 < (l0.length : Int) := of_decide_eq_true zq1; obtain ⟨ad105, e105, hx105_0⟩ := Kd.at_int HR0.out 4 p105 q105; obtain rfl : ad101 = ad105 := zq24; (try simp only [show (4 : Int).toNat = 4 from rfl, Nat.reduceMul, Nat.reduceEqDiff, Go.Addr.add, ↓reduceIte] at hx105_0); have qi105 : (4 < l0.length) = True := eq_true (by omega); (try rw [show ((4 : Int)).toNat = 4 from rfl] at hx105_0); replace p105 := eq_true p105; replace q105 := eq_true q105) | (go_at_call 150; (with_reducible refine (jsonparser_h2I.calls k (rd l0 4) t106 _ A8.out).mono ?_); rintro e w' ⟨rfl, ⟨nd, rfl⟩⟩; (try first | exact ⟨rfl, _, World.drewN_drewN _ _ _⟩ | exact ⟨rfl, _, Eq.trans (World.drewN_drewN _ _ _) (congrArg (World.drewN _) (Nat.add_assoc _ _ _))⟩); have p107 : 0 ≤ (5 : Int) := (by omega); have q107 : 5 < (l0.length : Int) := of_decide_eq_true zq1; obtain ⟨ad107, e107, hx107_0⟩ := Kd.at_int HR0.out 5 p107 q107; obtain rfl : ad101 = ad107 := zq27; (try simp only [show (5 : Int).toNat = 5 from rfl, Nat.reduceMul, Nat.reduceEqDiff, Go.Addr.add, ↓reduceIte] at hx107_0); have qi107 : (5 < l0.length) = True := eq_true (by omega); (try rw [show ((5 : Int)).toNat = 5 from rfl] at hx107_0); replace p107 := eq_true p107; replace q107 := eq_true q107) | (go_at_call 150; (with_reducible refine (jsonparser_h2I.calls k (rd l0 5) t108 _ A10.out).mono ?_); rintro e w' ⟨rfl, ⟨nd, rfl⟩⟩; (try first | exact ⟨rfl, _, World.drewN_drewN _ _ _⟩ | exact ⟨rfl, _, Eq.trans (World.drewN_drewN _ _ _) (congrArg (World.drewN _) (Nat.add_assoc _ _ _))⟩))))
 go_ret2
 exact ⟨by first | rfl | (simp; done) | (simp [*]; done), by repeat (first | exact Drawn0.refl _ | apply Drawn0.step)⟩
def jsonparser_isUTF16EncodedRune.f (a0 : Int) : Option (Bool) := if 55296 ≤ a0 then (some (decide (a0 ≤ 57343))) else (some false)
set_option maxHeartbeats 8000000 in
set_option maxRecDepth 100000 in
theorem jsonparser_isUTF16EncodedRune.calls (a0 : Int) (r : Bool) (w : World) (h : jsonparser_isUTF16EncodedRune.f a0 = some r) :
 Calls Tryd.prog 142 #[.int .i32 a0] w fun e w' => e = .returned (.bool r) ∧ Drawn0 w w' := by
 have H : (if 55296 ≤ a0 then (some (decide (a0 ≤ 57343))) else (some false)) = some r := h
 clear h
 by_cases c2 : 55296 ≤ a0
 ·rw [if_pos c2] at H
  have c2b0 : decide (55296 ≤ a0) = true := decide_eq_true c2
  clear c2
  obtain rfl := Option.some.inj H
  go_enter Tryd.func142, Tryd.ntmps142
  go_wp2
  go_ret
  exact ⟨by first | rfl | (simp; done) | (simp [*]; done), by repeat (first | exact Drawn0.refl _ | apply Drawn0.step)⟩
 rw [if_neg c2] at H
 have c2b0 : decide (55296 ≤ a0) = false := decide_eq_false c2
 clear c2
 obtain rfl := Option.some.inj H
 go_enter Tryd.func142, Tryd.ntmps142
 go_wp2
 go_ret
 exact ⟨by first | rfl | (simp; done) | (simp [*]; done), by repeat (first | exact Drawn0.refl _ | apply Drawn0.step)⟩
def jsonparser_combineUTF16Surrogates.f (a0 : Int) (a1 : Int) : Option (Int) := some (wrap32 ((wrap32 (65536 + (wrap32 ((wrap32 (a0 - 55296)) * 1024)))) + (wrap32 (a1 - 56320))))
set_option maxHeartbeats 8000000 in
set_option maxRecDepth 100000 in
theorem jsonparser_combineUTF16Surrogates.calls (a0 : Int) (a1 : Int) (r : Int) (w : World) (h : jsonparser_combineUTF16Surrogates.f a0 a1 = some r) :
 Calls Tryd.prog 143 #[.int .i32 a0, .int .i32 a1] w fun e w' => e = .returned (.int .i32 r) ∧ Drawn0 w w' := by
 have H : (some (wrap32 ((wrap32 (65536 + (wrap32 ((wrap32 (a0 - 55296)) * 1024)))) + (wrap32 (a1 - 56320))))) = some r := h
 clear h
 obtain rfl := Option.some.inj H
 go_enter Tryd.func143, Tryd.ntmps143
 go_wp2
 go_ret
 exact ⟨by first | rfl | (simp; done) | (simp [*]; done), by repeat (first | exact Drawn0.refl _ | apply Drawn0.step)⟩
def jsonparser_decodeUnicodeEscape.j0 : Nat → List Int → Int → Bool → Option (Int × Int)
  | 0, _, _, _ => none
  | k + 1, x0, x4, x35 => if x35 = true then (some (65533, 6)) else (if 6 ≤ (x0.length : Int) then ((jsonparser_decodeSingleUnicodeEscape.f k (x0.drop 6)).bind fun bt107 => (if bt107.2 = true then (if bt107.1 < 56320 then (some (65533, 6)) else (if bt107.1 > 57343 then (some (65533, 6)) else ((jsonparser_combineUTF16Surrogates.f x4 bt107.1).bind fun t109 => (some (t109, 12))))) else (some (65533, (-1))))) else (none))
def jsonparser_decodeUnicodeEscape.f (k : Nat) (l0 : List Int) : Option (Int × Int) := (jsonparser_decodeSingleUnicodeEscape.f k l0).bind fun bt101 => (if bt101.2 = true then ((jsonparser_isUTF16EncodedRune.f bt101.1).bind fun t103 => (if t103 = true then (if bt101.1 ≥ 56320 then (some (65533, 6)) else (if (l0.length : Int) < 8 then (jsonparser_decodeUnicodeEscape.j0 k l0 bt101.1 true) else (if 6 < (l0.length : Int) then (if (rd l0 6) = 92 then (if 7 < (l0.length : Int) then (jsonparser_decodeUnicodeEscape.j0 k l0 bt101.1 ((rd l0 7) != 117)) else (none)) else (jsonparser_decodeUnicodeEscape.j0 k l0 bt101.1 true)) else (none)))) else (some (bt101.1, 6)))) else (some (65533, (-1))))
theorem jsonparser_decodeUnicodeEscape.mono_l : ∀ k, (∀ y0 y1 y2, LeO (jsonparser_decodeUnicodeEscape.j0 k y0 y1 y2) (jsonparser_decodeUnicodeEscape.j0 (k + 1) y0 y1 y2))
 | 0 => fun _ _ _ r h => by simp [jsonparser_decodeUnicodeEscape.j0] at h
 | k + 1 => by
  have ih0 := jsonparser_decodeUnicodeEscape.mono_l k
  ·intro y0 y1 y2
   unfold jsonparser_decodeUnicodeEscape.j0
   repeat' first
   | (with_reducible exact ih0 _ _ _)
   | (with_reducible exact jsonparser_decodeSingleUnicodeEscape.mono _ _)
   | (with_reducible exact LeO.refl _)
   | (with_reducible exact LeO.none _)
   | (with_reducible refine LeO.ite ?_ ?_)
   | (with_reducible refine LeO.bind ?_ (fun _ => ?_))
   | exact ih0 _ _ _
   | exact jsonparser_decodeSingleUnicodeEscape.mono _ _
   | exact LeO.none _
   | refine LeO.ite ?_ ?_
   | refine LeO.bind ?_ (fun _ => ?_)
theorem jsonparser_decodeUnicodeEscape.mono : ∀ a0 k, LeO (jsonparser_decodeUnicodeEscape.f k a0) (jsonparser_decodeUnicodeEscape.f (k + 1) a0) := by
 intro a0 k
 have ih0 := jsonparser_decodeUnicodeEscape.mono_l k
 unfold jsonparser_decodeUnicodeEscape.f
 repeat' first
  | (with_reducible exact ih0 _ _ _)
  | (with_reducible exact jsonparser_decodeSingleUnicodeEscape.mono _ _)
  | (with_reducible exact LeO.refl _)
  | (with_reducible exact LeO.none _)
  | (with_reducible refine LeO.ite ?_ ?_)
  | (with_reducible refine LeO.bind ?_ (fun _ => ?_))
  | exact ih0 _ _ _
  | exact jsonparser_decodeSingleUnicodeEscape.mono _ _
  | exact LeO.none _
  | refine LeO.ite ?_ ?_
  | refine LeO.bind ?_ (fun _ => ?_)
set_option maxHeartbeats 8000000 in
set_option maxRecDepth 100000 in
theorem jsonparser_decodeUnicodeEscape.calls (k : Nat) (A0 : Option Addr) (c0 : Nat) (l0 : List Int) (r1 : Int) (r2 : Int) (w : World) (hr0 : Kd.C (Kd.int .u8) w A0 l0.length l0) (hc0 : l0.length ≤ c0) (h : jsonparser_decodeUnicodeEscape.f k l0 = some (r1, r2)) :
 Calls Tryd.prog 130 #[.slice A0 l0.length c0] w fun e w' => e = .returned (.tuple #[.int .i32 r1, .int .i64 r2]) ∧ Drawn0 w w' := by
 have HR0 := mk0 hr0
 have HC0 := mk0 hc0
 clear hr0 hc0
 have H : ((jsonparser_decodeSingleUnicodeEscape.f k l0).bind fun bt101 => (if bt101.2 = true then ((jsonparser_isUTF16EncodedRune.f bt101.1).bind fun t103 => (if t103 = true then (if bt101.1 ≥ 56320 then (some (65533, 6)) else (if (l0.length : Int) < 8 then (jsonparser_decodeUnicodeEscape.j0 k l0 bt101.1 true) else (if 6 < (l0.length : Int) then (if (rd l0 6) = 92 then (if 7 < (l0.length : Int) then (jsonparser_decodeUnicodeEscape.j0 k l0 bt101.1 ((rd l0 7) != 117)) else (none)) else (jsonparser_decodeUnicodeEscape.j0 k l0 bt101.1 true)) else (none)))) else (some (bt101.1, 6)))) else (some (65533, (-1))))) = some (r1, r2) := h
 clear h
 replace H := Option.bind_eq_some_iff.mp H
 obtain ⟨⟨t101, t102⟩, A20, H⟩ := H
 replace H : (if t102 = true then ((jsonparser_isUTF16EncodedRune.f t101).bind fun t103 => (if t103 = true then (if t101 ≥ 56320 then (some (65533, 6)) else (if (l0.length : Int) < 8 then (jsonparser_decodeUnicodeEscape.j0 k l0 t101 true) else (if 6 < (l0.length : Int) then (if (rd l0 6) = 92 then (if 7 < (l0.length : Int) then (jsonparser_decodeUnicodeEscape.j0 k l0 t101 ((rd l0 7) != 117)) else (none)) else (jsonparser_decodeUnicodeEscape.j0 k l0 t101 true)) else (none)))) else (some (t101, 6)))) else (some (65533, (-1)))) = some (r1, r2) := H
 have A2 := mk0 A20
 clear A20
 by_cases c3 : t102 = true
 rotate_left
 ·replace c3 := Bool.eq_false_iff.mpr c3
  subst c3
  have H1 : (some (65533, (-1))) = some (r1, r2) := by rw [if_neg (show ¬ (false = true) by decide)] at H; exact H
  clear H
  have H := H1
  clear H1
  simp only [Option.some.injEq, Prod.mk.injEq] at H
  obtain ⟨rfl, rfl⟩ := H
  go_enter Tryd.func130, Tryd.ntmps130
  go_wp2_with (first | ((with_reducible refine gate_callee (f := 141) rfl ?_); refine goesL_ (some 10) rfl rfl Tryd.func141 zq16 rfl #[.slice A0 l0.length c0] rfl zq2 ?_; (with_reducible refine (jsonparser_decodeSingleUnicodeEscape.calls k _ _ l0 t101 false _ ?side1 ?side2 A2.out).mono ?_); (case side1 => exact zq19); (case side2 => exact HC0.out); rintro e w' ⟨rfl, ⟨nd, rfl⟩⟩; refine ⟨_, rfl, ?_⟩))
  go_ret2
  exact ⟨by first | rfl | (simp; done) | (simp [*]; done), by repeat (first | exact Drawn0.refl _ | apply Drawn0.step)⟩
 subst c3
 have H1 : ((jsonparser_isUTF16EncodedRune.f t101).bind fun t103 => (if t103 = true then (if t101 ≥ 56320 then (some (65533, 6)) else (if (l0.length : Int) < 8 then (jsonparser_decodeUnicodeEscape.j0 k l0 t101 true) else (if 6 < (l0.length : Int) then (if (rd l0 6) = 92 then (if 7 < (l0.length : Int) then (jsonparser_decodeUnicodeEscape.j0 k l0 t101 ((rd l0 7) != 117)) else (none)) else (jsonparser_decodeUnicodeEscape.j0 k l0 t101 true)) else (none)))) else (some (t101, 6)))) = some (r1, r2) := by rw [if_pos rfl] at H; exact H
 clear H
 have H := H1
 clear H1
 replace H := Option.bind_eq_some_iff.mp H
 obtain ⟨t103, A40, H⟩ := H
 replace H : (if t103 = true then (if t101 ≥ 56320 then (some (65533, 6)) else (if (l0.length : Int) < 8 then (jsonparser_decodeUnicodeEscape.j0 k l0 t101 true) else (if 6 < (l0.length : Int) then (if (rd l0 6) = 92 then (if 7 < (l0.length : Int) then (jsonparser_decodeUnicodeEscape.j0 k l0 t101 ((rd l0 7) != 117)) else (none)) else (jsonparser_decodeUnicodeEscape.j0 k l0 t101 true)) else (none)))) else (some (t101, 6))) = some (r1, r2) := H
 have A4 := mk0 A40
 clear A40
 by_cases c5 : t103 = true
 rotate_left
 ·replace c5 := Bool.eq_false_iff.mpr c5
  subst c5
  have H1 : (some (t101, 6)) = some (r1, r2) := by rw [if_neg (show ¬ (false = true) by decide)] at H; exact H
  clear H
  have H := H1
  clear H1
  simp only [Option.some.injEq, Prod.mk.injEq] at H
  obtain ⟨rfl, rfl⟩ := H
  go_enter Tryd.func130, Tryd.ntmps130
  go_wp2_with (first | ((with_reducible refine gate_callee (f := 141) rfl ?_); refine goesL_ (some 10) rfl rfl Tryd.func141 zq16 rfl #[.slice A0 l0.length c0] rfl zq2 ?_; (with_reducible refine (jsonparser_decodeSingleUnicodeEscape.calls k _ _ l0 t101 true _ ?side1 ?side2 A2.out).mono ?_); (case side1 => exact zq19); (case side2 => exact HC0.out); rintro e w' ⟨rfl, ⟨nd, rfl⟩⟩; refine ⟨_, rfl, ?_⟩) | ((with_reducible refine gate_callee (f := 142) rfl ?_); refine goesL_ (some 16) rfl rfl Tryd.func142 zq16 rfl #[.int .i32 t101] rfl zq2 ?_; (with_reducible refine (jsonparser_isUTF16EncodedRune.calls t101 false _ A4.out).mono ?_); rintro e w' ⟨rfl, ⟨nd, rfl⟩⟩; refine ⟨_, rfl, ?_⟩))
  go_ret2
  exact ⟨by first | rfl | (simp; done) | (simp [*]; done), by repeat (first | exact Drawn0.refl _ | apply Drawn0.step)⟩
 subst c5
 have H1 : (if t101 ≥ 56320 then (some (65533, 6)) else (if (l0.length : Int) < 8 then (jsonparser_decodeUnicodeEscape.j0 k l0 t101 true) else (if 6 < (l0.length : Int) then (if (rd l0 6) = 92 then (if 7 < (l0.length : Int) then (jsonparser_decodeUnicodeEscape.j0 k l0 t101 ((rd l0 7) != 117)) else (none)) else (jsonparser_decodeUnicodeEscape.j0 k l0 t101 true)) else (none)))) = some (r1, r2) := by rw [if_pos rfl] at H; exact H
 clear H
 have H := H1
 clear H1
 by_cases c6 : t101 ≥ 56320
 ·rw [if_pos c6] at H
  have c6b0 : decide (56320 ≤ t101) = true := decide_eq_true c6
  clear c6
  simp only [Option.some.injEq, Prod.mk.injEq] at H
  obtain ⟨rfl, rfl⟩ := H
  go_enter Tryd.func130, Tryd.ntmps130
  go_wp2_with (first | ((with_reducible refine gate_callee (f := 141) rfl ?_); refine goesL_ (some 10) rfl rfl Tryd.func141 zq16 rfl #[.slice A0 l0.length c0] rfl zq2 ?_; (with_reducible refine (jsonparser_decodeSingleUnicodeEscape.calls k _ _ l0 t101 true _ ?side1 ?side2 A2.out).mono ?_); (case side1 => exact zq19); (case side2 => exact HC0.out); rintro e w' ⟨rfl, ⟨nd, rfl⟩⟩; refine ⟨_, rfl, ?_⟩) | ((with_reducible refine gate_callee (f := 142) rfl ?_); refine goesL_ (some 16) rfl rfl Tryd.func142 zq16 rfl #[.int .i32 t101] rfl zq2 ?_; (with_reducible refine (jsonparser_isUTF16EncodedRune.calls t101 true _ A4.out).mono ?_); rintro e w' ⟨rfl, ⟨nd, rfl⟩⟩; refine ⟨_, rfl, ?_⟩))
  go_ret2
  exact ⟨by first | rfl | (simp; done) | (simp [*]; done), by repeat (first | exact Drawn0.refl _ | apply Drawn0.step)⟩
 rw [if_neg c6] at H
 have c6b0 : decide (56320 ≤ t101) = false := decide_eq_false c6
 clear c6
 have HC7 := mk0 H
 clear H
 go_enter Tryd.func130, Tryd.ntmps130
 go_upto_region 8 with (first | ((with_reducible refine gate_callee (f := 141) rfl ?_); refine goesL_ (some 10) rfl rfl Tryd.func141 zq16 rfl #[.slice A0 l0.length c0] rfl zq2 ?_; (with_reducible refine (jsonparser_decodeSingleUnicodeEscape.calls k _ _ l0 t101 true _ ?side1 ?side2 A2.out).mono ?_); (case side1 => exact zq19); (case side2 => exact HC0.out); rintro e w' ⟨rfl, ⟨nd, rfl⟩⟩; refine ⟨_, rfl, ?_⟩) | ((with_reducible refine gate_callee (f := 142) rfl ?_); refine goesL_ (some 16) rfl rfl Tryd.func142 zq16 rfl #[.int .i32 t101] rfl zq2 ?_; (with_reducible refine (jsonparser_isUTF16EncodedRune.calls t101 true _ A4.out).mono ?_); rintro e w' ⟨rfl, ⟨nd, rfl⟩⟩; refine ⟨_, rfl, ?_⟩))
 (try simp only [Act.put, List.setIfInBounds_toArray, List.set_cons_zero, List.set_cons_succ])
 go_cut [35] (fun v35 wc => ∃ (kq : Nat) (x35_6 : Bool), v35 = .bool x35_6 ∧ Aside0 (jsonparser_decodeUnicodeEscape.j0 kq l0 t101 x35_6 = some (r1, r2)) ∧ Aside0 (kq ≤ k) ∧ Drawn0 w wc)
 case first =>
  have H := HC7.out
  clear HC7
  by_cases c8 : (l0.length : Int) < 8
  ·rw [if_pos c8] at H
   have c8b0 : decide ((l0.length : Int) < 8) = true := decide_eq_true c8
   have c8b1 : decide (l0.length < 8) = true := decide_eq_true (by omega)
   clear c8
   (first | rw [c8b0] | (simp only [i64_w, i32_w]; rw [c8b0]) | rw [c8b1] | rw [if_pos (of_decide_eq_true c8b1)] | skip)
   have H' := mk0 H
   clear H
   go_wp2
   go_meet
   case rel => exact ⟨_, (true), zq3, H', ⟨by first | omega | exact Nat.le_refl _⟩, by repeat (first | exact Drawn0.refl _ | apply Drawn0.step)⟩
  rw [if_neg c8] at H
  have c8b0 : decide ((l0.length : Int) < 8) = false := decide_eq_false c8
  have c8b1 : decide (l0.length < 8) = false := decide_eq_false (by omega)
  clear c8
  (first | rw [c8b0] | (simp only [i64_w, i32_w]; rw [c8b0]) | rw [c8b1] | rw [if_neg (of_decide_eq_false c8b1)] | skip)
  by_cases c9 : 6 < (l0.length : Int)
  rotate_left
  ·rw [if_neg c9] at H
   exact absurd H (by simp)
  rw [if_pos c9] at H
  have c9b0 : decide (6 < (l0.length : Int)) = true := decide_eq_true c9
  have c9b1 : decide (6 < l0.length) = true := decide_eq_true (by omega)
  clear c9
  by_cases c10 : (rd l0 6) = 92
  rotate_left
  ·rw [if_neg c10] at H
   have c10b0 : ((rd l0 6) == 92) = false := beq_eq_false_iff_ne.mpr c10
   have c10b1 : ((rd l0 6) != 92) = true := bne_iff_ne.mpr c10
   have H' := mk0 H
   clear H
   have p104 : 0 ≤ (6 : Int) := (by omega)
   have q104 : 6 < (l0.length : Int) := of_decide_eq_true zq1
   obtain ⟨ad104, e104, hx104_0⟩ := Kd.at_int HR0.out 6 p104 q104
   cases e104
   (try simp only [show (6 : Int).toNat = 6 from rfl, Nat.reduceMul, Nat.reduceEqDiff, Go.Addr.add, ↓reduceIte] at hx104_0)
   have qi104 : (6 < l0.length) = True := eq_true (by omega)
   (try rw [show ((6 : Int)).toNat = 6 from rfl] at hx104_0)
   replace p104 := eq_true p104
   replace q104 := eq_true q104
   go_wp2
   go_meet
   case rel => exact ⟨_, (true), zq3, H', ⟨by first | omega | exact Nat.le_refl _⟩, by repeat (first | exact Drawn0.refl _ | apply Drawn0.step)⟩
  rw [if_pos c10] at H
  have c10b0 : ((rd l0 6) == 92) = true := beq_iff_eq.mpr c10
  have c10b1 : ((rd l0 6) != 92) = false := bne_eq_false_iff_eq.mpr c10
  clear c10
  by_cases c11 : 7 < (l0.length : Int)
  rotate_left
  ·rw [if_neg c11] at H
   exact absurd H (by simp)
  rw [if_pos c11] at H
  have c11b0 : decide (7 < (l0.length : Int)) = true := decide_eq_true c11
  have c11b1 : decide (7 < l0.length) = true := decide_eq_true (by omega)
  clear c11
  have H' := mk0 H
  clear H
  have p104 : 0 ≤ (6 : Int) := (by omega)
  have q104 : 6 < (l0.length : Int) := of_decide_eq_true zq1
  obtain ⟨ad104, e104, hx104_0⟩ := Kd.at_int HR0.out 6 p104 q104
  cases e104
  (try simp only [show (6 : Int).toNat = 6 from rfl, Nat.reduceMul, Nat.reduceEqDiff, Go.Addr.add, ↓reduceIte] at hx104_0)
  have qi104 : (6 < l0.length) = True := eq_true (by omega)
  (try rw [show ((6 : Int)).toNat = 6 from rfl] at hx104_0)
  replace p104 := eq_true p104
  replace q104 := eq_true q104
  have p105 : 0 ≤ (7 : Int) := (by omega)
  have q105 : 7 < (l0.length : Int) := of_decide_eq_true zq1
  obtain ⟨ad105, e105, hx105_0⟩ := Kd.at_int HR0.out 7 p105 q105
  obtain rfl : ad104 = ad105 := zq24
  (try simp only [show (7 : Int).toNat = 7 from rfl, Nat.reduceMul, Nat.reduceEqDiff, Go.Addr.add, ↓reduceIte] at hx105_0)
  have qi105 : (7 < l0.length) = True := eq_true (by omega)
  (try rw [show ((7 : Int)).toNat = 7 from rfl] at hx105_0)
  replace p105 := eq_true p105
  replace q105 := eq_true q105
  go_wp2
  go_meet
  case rel => exact ⟨_, (((rd l0 7) != 117)), zq3, H', ⟨by first | omega | exact Nat.le_refl _⟩, by repeat (first | exact Drawn0.refl _ | apply Drawn0.step)⟩
 case rest =>
  clear HC7
  try clear c1
  try clear p1
  try clear q1
  try clear hx1
  try clear qi1
  try clear p2
  try clear c3
  try clear c5
  try clear c6
  try clear c6b0
  try clear c8
  try clear c8b0
  try clear c8b1
  try clear c9
  try clear c9b0
  try clear c9b1
  try clear c10
  try clear c10b0
  try clear c10b1
  try clear p10
  try clear q10
  try clear hx10
  try clear qi10
  try clear c11
  try clear c11b0
  try clear c11b1
  try clear hx104_0
  try clear hx105_0
  try clear p104
  try clear p105
  try clear q104
  try clear q105
  obtain ⟨kq, x35_6, rfl, HA, HJ6, ⟨mc6, rfl⟩⟩ := hcut
  cases kq with
  | zero => exact absurd HA.out (by simp [jsonparser_decodeUnicodeEscape.j0])
  | succ kj6 =>
   have H := HA.out
   clear HA
   simp only [jsonparser_decodeUnicodeEscape.j0] at H
   by_cases c12 : x35_6 = true
   ·subst c12
    have H1 : (some (65533, 6)) = some (r1, r2) := by rw [if_pos rfl] at H; exact H
    clear H
    have H := H1
    clear H1
    simp only [Option.some.injEq, Prod.mk.injEq] at H
    obtain ⟨rfl, rfl⟩ := H
    go_wp2
    go_ret2
    exact ⟨by first | rfl | (simp; done) | (simp [*]; done), by repeat (first | exact Drawn0.refl _ | apply Drawn0.step)⟩
   replace c12 := Bool.eq_false_iff.mpr c12
   subst c12
   have H1 : (if 6 ≤ (l0.length : Int) then ((jsonparser_decodeSingleUnicodeEscape.f kj6 (l0.drop 6)).bind fun bt107 => (if bt107.2 = true then (if bt107.1 < 56320 then (some (65533, 6)) else (if bt107.1 > 57343 then (some (65533, 6)) else ((jsonparser_combineUTF16Surrogates.f t101 bt107.1).bind fun t109 => (some (t109, 12))))) else (some (65533, (-1))))) else (none)) = some (r1, r2) := by rw [if_neg (show ¬ (false = true) by decide)] at H; exact H
   clear H
   have H := H1
   clear H1
   by_cases c13 : 6 ≤ (l0.length : Int)
   rotate_left
   ·rw [if_neg c13] at H
    exact absurd H (by simp)
   rw [if_pos c13] at H
   have c13b0 := eq_true c13
   have c13b1 : decide (6 ≤ (l0.length : Int)) = true := decide_eq_true c13
   clear c13
   replace H := Option.bind_eq_some_iff.mp H
   obtain ⟨⟨t107, t108⟩, A140, H⟩ := H
   replace H : (if t108 = true then (if t107 < 56320 then (some (65533, 6)) else (if t107 > 57343 then (some (65533, 6)) else ((jsonparser_combineUTF16Surrogates.f t101 t107).bind fun t109 => (some (t109, 12))))) else (some (65533, (-1)))) = some (r1, r2) := H
   have A14 := mk0 A140
   clear A140
   by_cases c15 : t108 = true
   rotate_left
   ·replace c15 := Bool.eq_false_iff.mpr c15
    subst c15
    have H1 : (some (65533, (-1))) = some (r1, r2) := by rw [if_neg (show ¬ (false = true) by decide)] at H; exact H
    clear H
    have H := H1
    clear H1
    simp only [Option.some.injEq, Prod.mk.injEq] at H
    obtain ⟨rfl, rfl⟩ := H
    obtain ⟨i022, hi022, _, hsz22, _⟩ := info_parts info5
    obtain ⟨A22, hcut22, hA22, hC22⟩ := print_drop_of (P := Tryd.prog) (Value.int .u8) 0 59 5 .i64 Tryd.underlying59 hi022 hsz22 A0 c0 l0 6 (by omega) (of_decide_eq_true zq1) HC0.out
    have HR106 := mk0 (Kd.C_of_reads (h1 := fun _ => rfl) (hA22 _ (Kd.reads_of_C HR0.out)))
    have HC106 := mk0 hC22
    clear hA22 hC22 hi022 hsz22
    go_wp2_with (first | ((with_reducible refine gate_callee (f := 141) rfl ?_); refine goesL_ (some 39) rfl rfl Tryd.func141 zq16 rfl #[.slice A22 (l0.drop 6).length (c0 - 6)] rfl zq15 ?_; (with_reducible refine (jsonparser_decodeSingleUnicodeEscape.calls kj6 _ _ (l0.drop 6) t107 false _ ?side1 ?side2 A14.out).mono ?_); (case side1 => exact zq18); (case side2 => exact HC106.out); rintro e w' ⟨rfl, ⟨nd, rfl⟩⟩; refine ⟨_, rfl, ?_⟩))
    go_ret2
    exact ⟨by first | rfl | (simp; done) | (simp [*]; done), by repeat (first | exact Drawn0.refl _ | apply Drawn0.step)⟩
   subst c15
   have H1 : (if t107 < 56320 then (some (65533, 6)) else (if t107 > 57343 then (some (65533, 6)) else ((jsonparser_combineUTF16Surrogates.f t101 t107).bind fun t109 => (some (t109, 12))))) = some (r1, r2) := by rw [if_pos rfl] at H; exact H
   clear H
   have H := H1
   clear H1
   by_cases c16 : t107 < 56320
   ·rw [if_pos c16] at H
    have c16b0 : decide (t107 < 56320) = true := decide_eq_true c16
    clear c16
    simp only [Option.some.injEq, Prod.mk.injEq] at H
    obtain ⟨rfl, rfl⟩ := H
    obtain ⟨i017, hi017, _, hsz17, _⟩ := info_parts info5
    obtain ⟨A17, hcut17, hA17, hC17⟩ := print_drop_of (P := Tryd.prog) (Value.int .u8) 0 59 5 .i64 Tryd.underlying59 hi017 hsz17 A0 c0 l0 6 (by omega) (of_decide_eq_true zq1) HC0.out
    have HR106 := mk0 (Kd.C_of_reads (h1 := fun _ => rfl) (hA17 _ (Kd.reads_of_C HR0.out)))
    have HC106 := mk0 hC17
    clear hA17 hC17 hi017 hsz17
    go_wp2_with (first | ((with_reducible refine gate_callee (f := 141) rfl ?_); refine goesL_ (some 39) rfl rfl Tryd.func141 zq16 rfl #[.slice A17 (l0.drop 6).length (c0 - 6)] rfl zq15 ?_; (with_reducible refine (jsonparser_decodeSingleUnicodeEscape.calls kj6 _ _ (l0.drop 6) t107 true _ ?side1 ?side2 A14.out).mono ?_); (case side1 => exact zq18); (case side2 => exact HC106.out); rintro e w' ⟨rfl, ⟨nd, rfl⟩⟩; refine ⟨_, rfl, ?_⟩))
    go_ret2
    exact ⟨by first | rfl | (simp; done) | (simp [*]; done), by repeat (first | exact Drawn0.refl _ | apply Drawn0.step)⟩
   rw [if_neg c16] at H
   have c16b0 : decide (t107 < 56320) = false := decide_eq_false c16
   clear c16
   by_cases c18 : t107 > 57343
   ·rw [if_pos c18] at H
    have c18b0 : decide (57343 < t107) = true := decide_eq_true c18
    clear c18
    simp only [Option.some.injEq, Prod.mk.injEq] at H
    obtain ⟨rfl, rfl⟩ := H
    obtain ⟨i019, hi019, _, hsz19, _⟩ := info_parts info5
    obtain ⟨A19, hcut19, hA19, hC19⟩ := print_drop_of (P := Tryd.prog) (Value.int .u8) 0 59 5 .i64 Tryd.underlying59 hi019 hsz19 A0 c0 l0 6 (by omega) (of_decide_eq_true zq1) HC0.out
    have HR106 := mk0 (Kd.C_of_reads (h1 := fun _ => rfl) (hA19 _ (Kd.reads_of_C HR0.out)))
    have HC106 := mk0 hC19
    clear hA19 hC19 hi019 hsz19
    go_wp2_with (first | ((with_reducible refine gate_callee (f := 141) rfl ?_); refine goesL_ (some 39) rfl rfl Tryd.func141 zq16 rfl #[.slice A19 (l0.drop 6).length (c0 - 6)] rfl zq15 ?_; (with_reducible refine (jsonparser_decodeSingleUnicodeEscape.calls kj6 _ _ (l0.drop 6) t107 true _ ?side1 ?side2 A14.out).mono ?_); (case side1 => exact zq18); (case side2 => exact HC106.out); rintro e w' ⟨rfl, ⟨nd, rfl⟩⟩; refine ⟨_, rfl, ?_⟩))
    go_ret2
    exact ⟨by first | rfl | (simp; done) | (simp [*]; done), by repeat (first | exact Drawn0.refl _ | apply Drawn0.step)⟩
   rw [if_neg c18] at H
   have c18b0 : decide (57343 < t107) = false := decide_eq_false c18
   clear c18
   replace H := Option.bind_eq_some_iff.mp H
   obtain ⟨t109, A200, H⟩ := H
   replace H : (some (t109, 12)) = some (r1, r2) := H
   have A20 := mk0 A200
   clear A200
   simp only [Option.some.injEq, Prod.mk.injEq] at H
   obtain ⟨rfl, rfl⟩ := H
   obtain ⟨i021, hi021, _, hsz21, _⟩ := info_parts info5
   obtain ⟨A21, hcut21, hA21, hC21⟩ := print_drop_of (P := Tryd.prog) (Value.int .u8) 0 59 5 .i64 Tryd.underlying59 hi021 hsz21 A0 c0 l0 6 (by omega) (of_decide_eq_true zq1) HC0.out
   have HR106 := mk0 (Kd.C_of_reads (h1 := fun _ => rfl) (hA21 _ (Kd.reads_of_C HR0.out)))
   have HC106 := mk0 hC21
   clear hA21 hC21 hi021 hsz21
   go_wp2_with (first | ((with_reducible refine gate_callee (f := 141) rfl ?_); refine goesL_ (some 39) rfl rfl Tryd.func141 zq16 rfl #[.slice A21 (l0.drop 6).length (c0 - 6)] rfl zq15 ?_; (with_reducible refine (jsonparser_decodeSingleUnicodeEscape.calls kj6 _ _ (l0.drop 6) t107 true _ ?side1 ?side2 A14.out).mono ?_); (case side1 => exact zq18); (case side2 => exact HC106.out); rintro e w' ⟨rfl, ⟨nd, rfl⟩⟩; refine ⟨_, rfl, ?_⟩) | ((with_reducible refine gate_callee (f := 143) rfl ?_); refine goesL_ (some 52) rfl rfl Tryd.func143 zq16 rfl #[.int .i32 t101, .int .i32 t107] rfl zq2 ?_; (with_reducible refine (jsonparser_combineUTF16Surrogates.calls t101 t107 t109 _ A20.out).mono ?_); rintro e w' ⟨rfl, ⟨nd, rfl⟩⟩; refine ⟨_, rfl, ?_⟩))
   go_ret2
   exact ⟨by first | rfl | (simp; done) | (simp [*]; done), by repeat (first | exact Drawn0.refl _ | apply Drawn0.step)⟩
end Go.Proofs.YtafbdpdbagkbgaaDoor.Q
end
