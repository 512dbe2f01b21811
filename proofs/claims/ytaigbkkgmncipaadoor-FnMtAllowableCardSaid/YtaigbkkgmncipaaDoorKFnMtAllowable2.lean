/- The words, walks and laws that the proof rests on, laid together (part 2). -/
import Derived.Test.YtaigbkkgmncipaaDoorKFnMtAllowable1
section
namespace Go.Proofs.YtaigbkkgmncipaaDoor.A
open Go.RowKit Go.Proofs.YtaigbkkgmncipaaDoorW.PrintWords Go.Proofs.YtaigbkkgmncipaaDoorW.PrintLast Go.Proofs.YtaigbkkgmncipaaDoorW.PrintMore
attribute [local go_sem] max2_int min2_int max_two min_two max_three min_three max_four min_four
set_option linter.unusedVariables false
set_option linter.unusedSimpArgs false
mutual
def spec_Fits.l0 : Nat → List Int → List Bool → List (S97) → Int → Int → Option (Bool)
  | 0, _, _, _, _, _ => none
  | k + 1, x0, x5, x16, x17, x18 => if x18 < x17 then (if 0 ≤ x18 then (if x18 < (x16.length : Int) then (if 0 ≤ (wrap64 ((x0.length : Int) + 1)) then (if (wrap64 ((x0.length : Int) + 1) : Int).toNat ≤ 281474976710656 then (spec_Fits.l1 k x0 x5 (List.replicate (wrap64 ((x0.length : Int) + 1) : Int).toNat false) 0 x16 x17 x18 ((rd_T97 x16 x18).f0) ((rd_T97 x16 x18).f1) ((rd_T97 x16 x18).f2)) else (none)) else (none)) else (none)) else (none)) else (if 0 ≤ (x0.length : Int) then (if (x0.length : Int) < (x5.length : Int) then (some (rdOf false x5 (x0.length : Int))) else (none)) else (none))
def spec_Fits.l1 : Nat → List Int → List Bool → List Bool → Int → List (S97) → Int → Int → Bool → Bool → Int → Option (Bool)
  | 0, _, _, _, _, _, _, _, _, _, _ => none
  | k + 1, x0, x5, x8, x9, x16, x17, x18, x108000, x108001, x108002 => if x9 ≤ (x0.length : Int) then (if x108000 = true then (if 0 ≤ x9 then (if x9 < (x5.length : Int) then (if rdOf false x5 x9 = true then (if x9 < (x8.length : Int) then (spec_Fits.l1 k x0 x5 (x8.set (x9 : Int).toNat true) (wrap64 (x9 + 1)) x16 x17 x18 x108000 x108001 x108002) else (none)) else (if x9 > 0 then (if 0 ≤ (wrap64 (x9 - 1)) then (if (wrap64 (x9 - 1)) < (x8.length : Int) then (if x9 < (x8.length : Int) then (spec_Fits.l1 k x0 x5 (x8.set (x9 : Int).toNat (rdOf false x8 (wrap64 (x9 - 1)))) (wrap64 (x9 + 1)) x16 x17 x18 x108000 x108001 x108002) else (none)) else (none)) else (none)) else (if x9 < (x8.length : Int) then (spec_Fits.l1 k x0 x5 (x8.set (x9 : Int).toNat false) (wrap64 (x9 + 1)) x16 x17 x18 x108000 x108001 x108002) else (none)))) else (none)) else (none)) else (if x9 > 0 then (if 0 ≤ (wrap64 (x9 - 1)) then (if (wrap64 (x9 - 1)) < (x5.length : Int) then (if rdOf false x5 (wrap64 (x9 - 1)) = true then (if x108001 = true then (if 0 ≤ x9 then (if x9 < (x8.length : Int) then (spec_Fits.l1 k x0 x5 (x8.set (x9 : Int).toNat true) (wrap64 (x9 + 1)) x16 x17 x18 x108000 x108001 x108002) else (none)) else (none)) else (if (wrap64 (x9 - 1)) < (x0.length : Int) then (if 0 ≤ x9 then (if x9 < (x8.length : Int) then (spec_Fits.l1 k x0 x5 (x8.set (x9 : Int).toNat (x108002 == (rd x0 (wrap64 (x9 - 1))))) (wrap64 (x9 + 1)) x16 x17 x18 x108000 x108001 x108002) else (none)) else (none)) else (none))) else (spec_Fits.l1 k x0 x5 x8 (wrap64 (x9 + 1)) x16 x17 x18 x108000 x108001 x108002)) else (none)) else (none)) else (spec_Fits.l1 k x0 x5 x8 (wrap64 (x9 + 1)) x16 x17 x18 x108000 x108001 x108002))) else (spec_Fits.l0 k x0 x8 x16 x17 (wrap64 (x18 + 1)))
end
def spec_Fits.f (k : Nat) (l0 : List Int) (l1 : List (S97)) : Option (Bool) := if 0 ≤ (wrap64 ((l0.length : Int) + 1)) then (if (wrap64 ((l0.length : Int) + 1) : Int).toNat ≤ 281474976710656 then ((some (List.replicate (wrap64 ((l0.length : Int) + 1) : Int).toNat false : List Bool)).bind fun y101 => (if 0 < (y101.length : Int) then (spec_Fits.l0 k l0 (y101.set (0 : Int).toNat true) l1 (l1.length : Int) 0) else (none))) else (none)) else (none)
theorem spec_Fits.mono_l : ∀ k, (∀ y0 y1 y2 y3 y4, LeO (spec_Fits.l0 k y0 y1 y2 y3 y4) (spec_Fits.l0 (k + 1) y0 y1 y2 y3 y4)) ∧ (∀ y0 y1 y2 y3 y4 y5 y6 y7 y8 y9, LeO (spec_Fits.l1 k y0 y1 y2 y3 y4 y5 y6 y7 y8 y9) (spec_Fits.l1 (k + 1) y0 y1 y2 y3 y4 y5 y6 y7 y8 y9))
 | 0 => ⟨fun _ _ _ _ _ r h => by simp [spec_Fits.l0] at h, fun _ _ _ _ _ _ _ _ _ _ r h => by simp [spec_Fits.l1] at h⟩
 | k + 1 => by
  obtain ⟨ih0, ih1⟩ := spec_Fits.mono_l k
  refine ⟨?_, ?_⟩
  ·intro y0 y1 y2 y3 y4
   unfold spec_Fits.l0
   repeat' first
   | (with_reducible exact ih0 _ _ _ _ _)
   | (with_reducible exact ih1 _ _ _ _ _ _ _ _ _ _)
   | (with_reducible exact LeO.refl _)
   | (with_reducible exact LeO.none _)
   | (with_reducible refine LeO.ite ?_ ?_)
   | (with_reducible refine LeO.bind ?_ (fun _ => ?_))
   | exact ih0 _ _ _ _ _
   | exact ih1 _ _ _ _ _ _ _ _ _ _
   | exact LeO.none _
   | refine LeO.ite ?_ ?_
   | refine LeO.bind ?_ (fun _ => ?_)
  ·intro y0 y1 y2 y3 y4 y5 y6 y7 y8 y9
   unfold spec_Fits.l1
   repeat' first
   | (with_reducible exact ih0 _ _ _ _ _)
   | (with_reducible exact ih1 _ _ _ _ _ _ _ _ _ _)
   | (with_reducible exact LeO.refl _)
   | (with_reducible exact LeO.none _)
   | (with_reducible refine LeO.ite ?_ ?_)
   | (with_reducible refine LeO.bind ?_ (fun _ => ?_))
   | exact ih0 _ _ _ _ _
   | exact ih1 _ _ _ _ _ _ _ _ _ _
   | exact LeO.none _
   | refine LeO.ite ?_ ?_
   | refine LeO.bind ?_ (fun _ => ?_)
theorem spec_Fits.mono : ∀ a0 a1 k, LeO (spec_Fits.f k a0 a1) (spec_Fits.f (k + 1) a0 a1) := by
 intro a0 a1 k
 obtain ⟨ih0, ih1⟩ := spec_Fits.mono_l k
 unfold spec_Fits.f
 repeat' first
  | (with_reducible exact ih0 _ _ _ _ _)
  | (with_reducible exact ih1 _ _ _ _ _ _ _ _ _ _)
  | (with_reducible exact LeO.refl _)
  | (with_reducible exact LeO.none _)
  | (with_reducible refine LeO.ite ?_ ?_)
  | (with_reducible refine LeO.bind ?_ (fun _ => ?_))
  | exact ih0 _ _ _ _ _
  | exact ih1 _ _ _ _ _ _ _ _ _ _
  | exact LeO.none _
  | refine LeO.ite ?_ ?_
  | refine LeO.bind ?_ (fun _ => ?_)
def spec_Fits.T13 : Bool × List (List Nat × List Nat) := (true, [([], []), ([], []), ([], []), ([2], [2]), ([3], [3]), ([4], [4]), ([5, 4], [4, 5]), ([4], [4]), ([4], [4]), ([8, 4], [4, 8]), ([7, 9, 4], [4, 7, 9]), ([10, 4], [4, 10]), ([6, 11, 4], [4, 6, 11]), ([4, 12], [4, 12]), ([0, 1, 0, 1, 2, 3, 4, 5, 6, 7, 8, 9, 10, 11, 12, 13], [0, 1]), ([14, 13, 4, 0, 1, 2, 3, 4, 5, 6, 7, 8, 9, 10, 11, 12, 13], [13, 14])])
def spec_Fits.B13 : List Nat := [0, 0, 0, 4, 12, 28, 60, 28, 28, 284, 924, 1948, 4092, 8188, 16383, 32767]
theorem spec_Fits.tab13 : rtab .any (opsOf Tryd.f38 13) = spec_Fits.T13 := by kernel_rfl
theorem spec_Fits.bits13 : waitsOk spec_Fits.T13.2 spec_Fits.B13 = true := by kernel_rfl
set_option maxHeartbeats 8000000 in
set_option maxRecDepth 100000 in
theorem spec_Fits.calls (k : Nat) (A0 : Option Addr) (c0 : Nat) (l0 : List Int) (A1 : Option Addr) (c1 : Nat) (l1 : List (S97)) (r : Bool) (w : World) (hr0 : Kd.C (Kd.int .i64) w A0 l0.length l0) (hc0 : l0.length ≤ c0) (hr1 : Kd.C k97 w A1 l1.length l1) (hc1 : l1.length ≤ c1) (h : spec_Fits.f k l0 l1 = some r) :
 Calls Tryd.prog 38 #[.slice A0 l0.length c0, .slice A1 l1.length c1] w fun e w' => e = .returned (.bool r) ∧ Below w.heap.size w w' := by
 have hu97 := Tryd.underlying97
 have HR0 := mk0 hr0
 have HC0 := mk0 hc0
 clear hr0 hc0
 have HR1 := mk0 hr1
 have HC1 := mk0 hc1
 clear hr1 hc1
 have HB := mk0 (Below.refl w.heap.size w)
 have H : (if 0 ≤ (wrap64 ((l0.length : Int) + 1)) then (if (wrap64 ((l0.length : Int) + 1) : Int).toNat ≤ 281474976710656 then ((some (List.replicate (wrap64 ((l0.length : Int) + 1) : Int).toNat false : List Bool)).bind fun y101 => (if 0 < (y101.length : Int) then (spec_Fits.l0 k l0 (y101.set (0 : Int).toNat true) l1 (l1.length : Int) 0) else (none))) else (none)) else (none)) = some r := h
 clear h
 obtain ⟨ji3, hji3⟩ : ∃ j_ : Int, (wrap64 ((l0.length : Int) + 1)) = j_ := ⟨_, rfl⟩
 replace H : (if 0 ≤ (ji3) then (if (ji3 : Int).toNat ≤ 281474976710656 then ((some (List.replicate (ji3 : Int).toNat false : List Bool)).bind fun y101 => (if 0 < (y101.length : Int) then (spec_Fits.l0 k l0 (y101.set (0 : Int).toNat true) l1 (l1.length : Int) 0) else (none))) else (none)) else (none)) = some r := by first | (rw [hji3] at H; exact H) | (simp only [hji3] at H ⊢; exact H)
 have hji3w : (IntKind.i64.wrap ((l0.length : Int) + 1)) = ji3 := (i64_w _).trans hji3
 by_cases c4 : 0 ≤ (ji3)
 rotate_left
 ·rw [if_neg c4] at H
  exact absurd H (by simp)
 rw [if_pos c4] at H
 have c4b0 := eq_true c4
 have c4b1 : decide (0 ≤ (ji3)) = true := decide_eq_true c4
 clear c4
 by_cases c5 : (ji3 : Int).toNat ≤ 281474976710656
 rotate_left
 ·rw [if_neg c5] at H
  exact absurd H (by simp)
 rw [if_pos c5] at H
 have c5b0 := eq_true c5
 have c5b1 : decide ((ji3 : Int).toNat ≤ 281474976710656) = true := decide_eq_true c5
 clear c5
 obtain ⟨y101, hy101⟩ : ∃ y_ : List Bool, y_ = (List.replicate (ji3 : Int).toNat false) := ⟨_, rfl⟩
 replace H : (if 0 < (y101.length : Int) then (spec_Fits.l0 k l0 (y101.set (0 : Int).toNat true) l1 (l1.length : Int) 0) else (none)) = some r := by first | (rw [hy101]; with_reducible exact H) | (have H2_ := (Option.bind_some _ _).symm.trans H; rw [hy101]; with_reducible exact H2_) | (have H2_ := (Option.bind_some _ _).symm.trans H; with_reducible exact H2_) | with_reducible exact H | (rw [hy101]; exact H) | exact H
 have Ny101 := mk0 hy101
 clear hy101
 by_cases c6 : 0 < (y101.length : Int)
 rotate_left
 ·rw [if_neg c6] at H
  exact absurd H (by simp)
 rw [if_pos c6] at H
 have c6b0 : decide (0 < (y101.length : Int)) = true := decide_eq_true c6
 have c6b1 : decide (0 < y101.length) = true := decide_eq_true (by omega)
 clear c6
 obtain ⟨y104, hy104⟩ : ∃ y_ : List Bool, y_ = (y101.set (0 : Int).toNat true) := ⟨_, rfl⟩
 replace H : (spec_Fits.l0 k l0 y104 l1 (l1.length : Int) 0) = some r := by first | (rw [hy104]; with_reducible exact H) | (have H2_ := (Option.bind_some _ _).symm.trans H; rw [hy104]; with_reducible exact H2_) | (have H2_ := (Option.bind_some _ _).symm.trans H; with_reducible exact H2_) | with_reducible exact H | (rw [hy104]; exact H) | exact H
 have Ny104 := mk0 hy104
 clear hy104
 have H' := mk0 H
 clear H
 go_enter Tryd.func38, Tryd.ntmps38
 go_wp2_with (first | ((with_reducible refine gate_dst (N := 13) rfl ?_); refine Kd.R_make Kd.bool _ 4 rfl (N := 13) rfl 98 _ _ rfl ji3 rfl rfl Tryd.underlying98 (.bool false) 1 info4 rfl zq25 (by omega) false (ok := fun _ => True) (okp := fun _ => True) rfl (fun _ hk => hk) trivial (of_decide_eq_true zq2) (Nat.le_trans (Nat.mul_le_mul_right _ (of_decide_eq_true zq2 : ji3.toNat ≤ 281474976710656)) (by omega)) (Below.refl _ _) (Nat.le_refl _) ?_; intro v102 w8 ho9 hb hg_ hnew_; clear hg_ hnew_; (first | rw [← Ny101.out] at ho9 | (simp only [Int.reduceToNat] at ho9; rw [← Ny101.out] at ho9)); have n0_ := mk0 (Kd.R_lower ho9 (below_size zq0)); have n1_ := mk0 (below_step zq0 hb); clear HB; have HO103 := n0_; have HB := n1_; clear n0_ n1_; clear hb ho9; have p7 : 0 ≤ (0 : Int) := (by omega); have q7 : (0 : Int) < ((y101.length : Int) : Int) := of_decide_eq_true zq2; have qi7 : (0 < y101.length) = True := eq_true (by omega); obtain ⟨go7, co7, eo7, gb7, gl7, cl7, HG7⟩ := Kd.R_form HO103.out (by omega); (first | cases eo7 | (injection eo7 with ea_ en_ ec_; (first | subst ea_ | (injection ea_ with ea_; subst ea_)); subst ec_; clear en_)); have GB7 := mk0 gb7; have GG7 := mk0 HG7; clear gb7 gl7 HG7; obtain ⟨hx7_0, hf7_0⟩ := Kd.R_celln false HO103.out (0 : Int) p7 q7; (try rw [show ((0 : Int)).toNat = 0 from rfl] at hx7_0); (try simp only [Nat.reduceMul, Nat.zero_mul, Nat.zero_add, Nat.reduceAdd] at hx7_0); (try rw [show ((0 : Int)).toNat = 0 from rfl] at hf7_0); (try simp only [Nat.reduceMul, Nat.zero_mul, Nat.zero_add, Nat.reduceAdd] at hf7_0); replace p7 := eq_true p7; replace q7 := eq_true q7; obtain ⟨hy10_, hz10_⟩ := Kd.R_celln false HO103.out (0 : Int) (by omega) (of_decide_eq_true zq2); (try simp only [Int.reduceToNat, Int.toNat_zero, Int.toNat_ofNat, Nat.reduceMul, Nat.zero_mul, Nat.zero_add] at hy10_ hz10_); (try rw [show ((0 : Int)).toNat = 0 from rfl] at hy10_); (try rw [show ((0 : Int)).toNat = 0 from rfl] at hz10_); have HP10 := Kd.R_putg HO103.out (0 : Int) true) | ((with_reducible refine gate_store (t := 4) (p := 15) rfl ?_); refine store_event (t := 4) (p := 15) (v := ?vo_w11) (w1 := (w8.setCell ⟨go7, (0 : Int).toNat, none⟩ (.bool true))) ?hg ?ho ?hn ?hr ?_; (case ho => rfl); (case hg => rfl); (case hn => rfl); (case hr => exact zq16); intro w11 hw; have hg : w8.grownBy w11 (some go7) := (by rw [hw]; exact HP10.2); have hp_ : Kd.R Kd.bool 4 w11 w.heap.size (fun _ => True) (.slice (some ⟨go7, 0, none⟩) y101.length co7) y104 := (by rw [hw, Ny104.out]; exact HP10.1); clear HP10; have n0_ := mk0 (hp_); have n1_ := mk0 ((by rw [hw]; exact below_set (HB.out) GB7.out : Below w.heap.size w w11)); clear HO103 HB; have HO103 := n0_; have HB := n1_; clear n0_ n1_; clear hg hw hp_))
 (try simp only [Act.put, List.setIfInBounds_toArray, List.set_cons_zero, List.set_cons_succ])
 go_loopg [5, 18] k (fun kq v5 v18 w' => ∃ (x5_1 : List Bool) (x18_1 : Int), v18 = .int .i64 x18_1 ∧ Aside0 (spec_Fits.l0 kq l0 x5_1 l1 (l1.length : Int) x18_1 = some r) ∧ Aside0 (kq ≤ k) ∧ Aside0 (Kd.R Kd.bool 4 w' w.heap.size (fun _ => True) v5 x5_1) ∧ Aside0 (Below w.heap.size w w'))
 case atStart => exact ⟨(y104), (0), (by first | with_reducible rfl | (simp only [← hji3]; done) | rfl | (simp; done) | (simp [*]; done)), H', ⟨Nat.le_refl _⟩, ⟨by (with_reducible repeat (first | apply Kd.R_alloc | apply Kd.R_drewN | apply Kd.R_drew)); exact HO103.out⟩, ⟨by repeat (first | (with_reducible first | exact HB.out | apply below_alloc | apply pw_below_drewN | apply below_drew1) | exact HB.out)⟩⟩
 case round =>
  clear H'
  try clear c1
  try clear p2
  try clear c3
  try clear c4
  try clear c4b0
  try clear c4b1
  try clear c5
  try clear c5b0
  try clear c5b1
  try clear c6
  try clear c6b0
  try clear c6b1
  try clear p6
  try clear p7
  try clear q7
  try clear hx7
  try clear qi7
  try clear hf7
  try clear hx7_0
  try clear p7
  try clear q7
  obtain ⟨x5_1, x18_1, rfl, HA, HK1, HO_5, HB⟩ := hrel
  cases gk with
  | zero => exact absurd HA.out (by simp [spec_Fits.l0])
  | succ k1 =>
   have H := HA.out
   clear HA
   simp only [spec_Fits.l0] at H
   by_cases c12 : x18_1 < (l1.length : Int)
   rotate_left
   ·rw [if_neg c12] at H
    have c12b0 : decide (x18_1 < (l1.length : Int)) = false := decide_eq_false c12
    clear c12
    by_cases c75 : 0 ≤ (l0.length : Int)
    rotate_left
    ·rw [if_neg c75] at H
     exact absurd H (by simp)
    rw [if_pos c75] at H
    have c75b0 : decide (0 ≤ (l0.length : Int)) = true := decide_eq_true c75
    have c75b1 : decide (0 ≤ l0.length) = true := decide_eq_true (by omega)
    clear c75
    by_cases c76 : (l0.length : Int) < (x5_1.length : Int)
    rotate_left
    ·rw [if_neg c76] at H
     exact absurd H (by simp)
    rw [if_pos c76] at H
    have c76b0 : decide ((l0.length : Int) < (x5_1.length : Int)) = true := decide_eq_true c76
    have c76b1 : decide (l0.length < x5_1.length) = true := decide_eq_true (Int.ofNat_lt.mp c76)
    clear c76
    obtain rfl := Option.some.inj H
    obtain ⟨Ao77, co77, eo77⟩ := Kd.R_slice HO_5.out
    subst eo77
    have p105 : 0 ≤ ((l0.length : Int) : Int) := of_decide_eq_true zq2
    have q105 : (l0.length : Int) < (x5_1.length : Int) := of_decide_eq_true zq2
    obtain ⟨ad105, e105, hx105_0⟩ := Kd.at_bool (Kd.R_reads' HO_5.out).2.2 (l0.length : Int) p105 q105
    cases e105
    (try simp only [Go.IntWalk.toNatUp] at hx105_0)
    replace p105 := eq_true p105
    replace q105 := eq_true q105
    go_wp2
    go_ret
    exact ⟨by first | rfl | (simp [errW_none, errW_some] <;> rfl) | (simp only [← hji3]; first | rfl | (simp [errW_none, errW_some] <;> rfl)) | (simp [*, errW_none, errW_some] <;> rfl), by repeat (first | (with_reducible first | exact HB.out | apply below_alloc | apply pw_below_drewN | apply below_drew1) | exact HB.out)⟩
   rw [if_pos c12] at H
   have c12b0 : decide (x18_1 < (l1.length : Int)) = true := decide_eq_true c12
   clear c12
   by_cases c13 : 0 ≤ x18_1
   rotate_left
   ·rw [if_neg c13] at H
    exact absurd H (by simp)
   rw [if_pos c13] at H
   have c13b0 : decide (0 ≤ x18_1) = true := decide_eq_true c13
   clear c13
   by_cases c14 : x18_1 < (l1.length : Int)
   rotate_left
   ·rw [if_neg c14] at H
    exact absurd H (by simp)
   rw [if_pos c14] at H
   have c14b0 : decide (x18_1 < (l1.length : Int)) = true := decide_eq_true c14
   clear c14
   replace H : (if 0 ≤ (ji3) then (if (ji3 : Int).toNat ≤ 281474976710656 then (spec_Fits.l1 k1 l0 x5_1 (List.replicate (ji3 : Int).toNat false) 0 l1 (l1.length : Int) x18_1 ((rd_T97 l1 x18_1).f0) ((rd_T97 l1 x18_1).f1) ((rd_T97 l1 x18_1).f2)) else (none)) else (none)) = some r := by first | (rw [hji3] at H; exact H) | (simp only [hji3] at H ⊢; exact H)
   by_cases c15 : 0 ≤ (ji3)
   rotate_left
   ·rw [if_neg c15] at H
    exact absurd H (by simp)
   rw [if_pos c15] at H
   have c15b0 := eq_true c15
   have c15b1 : decide (0 ≤ (ji3)) = true := decide_eq_true c15
   clear c15
   by_cases c16 : (ji3 : Int).toNat ≤ 281474976710656
   rotate_left
   ·rw [if_neg c16] at H
    exact absurd H (by simp)
   rw [if_pos c16] at H
   have c16b0 := eq_true c16
   have c16b1 : decide ((ji3 : Int).toNat ≤ 281474976710656) = true := decide_eq_true c16
   clear c16
   obtain ⟨y108, hy108⟩ : ∃ y_ : List Bool, y_ = (List.replicate (ji3 : Int).toNat false) := ⟨_, rfl⟩
   replace H : (spec_Fits.l1 k1 l0 x5_1 y108 0 l1 (l1.length : Int) x18_1 ((rd_T97 l1 x18_1).f0) ((rd_T97 l1 x18_1).f1) ((rd_T97 l1 x18_1).f2)) = some r := by first | (rw [hy108]; with_reducible exact H) | (have H2_ := (Option.bind_some _ _).symm.trans H; rw [hy108]; with_reducible exact H2_) | (have H2_ := (Option.bind_some _ _).symm.trans H; with_reducible exact H2_) | with_reducible exact H | (rw [hy108]; exact H) | exact H
   have Ny108 := mk0 hy108
   clear hy108
   have H' := mk0 H
   clear H
   have p106 : 0 ≤ (x18_1 : Int) := of_decide_eq_true zq2
   have q106 : x18_1 < (l1.length : Int) := of_decide_eq_true zq2
   obtain ⟨ad106, e106, hx106_0, hx106_1, hx106_2⟩ := at_T97 HR1.out x18_1 p106 q106
   cases e106
   replace hx106_0 := (HB.out.cell (World.block_lt_of_cell? w _ hx106_0)).trans hx106_0
   replace hx106_1 := (HB.out.cell (World.block_lt_of_cell? w _ hx106_1)).trans hx106_1
   replace hx106_2 := (HB.out.cell (World.block_lt_of_cell? w _ hx106_2)).trans hx106_2
   replace p106 := eq_true p106
   replace q106 := eq_true q106
   go_wp2_with (first | ((with_reducible refine gate_dst (N := 7) rfl ?_); refine box_event ?hg (N := 7) ?hd (cs := #[.bool false, .bool false, .int .i64 0]) (t := 97) ?hr ?_; (case hd => rfl); (case hg => rfl); (case hr => exact zq16); intro gb107 hg w17 hbox hb; have n0_ := mk0 (Kd.R_below zq5 hb); have n1_ := mk0 (below_step zq0 hb); have n2_ := mk0 (hbox); have n3_ := mk0 ((by rw [hg]; exact (below_size zq0) : w.heap.size ≤ gb107)); have n4_ := mk0 ((by rw [hg]; exact (below_size zq0) : w.heap.size ≤ gb107)); clear HO_5 HB; have HO_5 := n0_; have HB := n1_; have BK107 := n2_; have GW107 := n3_; have GE107 := n4_; clear n0_ n1_ n2_ n3_ n4_; clear hb hbox hg; have hcz18_0 : w17.cell? ⟨gb107, 0, none⟩ = some (.bool false) := (blk_cell BK107.out 0).trans rfl; have hcz18_1 : w17.cell? ⟨gb107, 1, none⟩ = some (.bool false) := (blk_cell BK107.out 1).trans rfl; have hcz18_2 : w17.cell? ⟨gb107, 2, none⟩ = some (.int .i64 0) := (blk_cell BK107.out 2).trans rfl; have hfz18_0 := blk_frozen BK107.out 0; have hfz18_1 := blk_frozen BK107.out 1; have hfz18_2 := blk_frozen BK107.out 2) | ((with_reducible refine gate_dst (N := 25) rfl ?_); refine Kd.R_make Kd.bool _ 4 rfl (N := 25) rfl 98 _ _ rfl ji3 rfl rfl Tryd.underlying98 (.bool false) 1 info4 rfl zq25 (by omega) false (ok := fun _ => True) (okp := fun _ => True) rfl (fun _ hk => hk) trivial (of_decide_eq_true zq2) (Nat.le_trans (Nat.mul_le_mul_right _ (of_decide_eq_true zq2 : ji3.toNat ≤ 281474976710656)) (by omega)) (Below.refl _ _) (Nat.le_refl _) ?_; intro v109 w19 ho20 hb hg_ hnew_; clear hg_ hnew_; (first | rw [← Ny108.out] at ho20 | (simp only [Int.reduceToNat] at ho20; rw [← Ny108.out] at ho20)); have n0_ := mk0 (Kd.R_elder' zq11 (Kd.R_base ho20) hb); have n1_ := mk0 (Kd.R_lower (Kd.R_new' ho20 (Kd.R_lt zq11)) (below_size zq17)); have n2_ := mk0 (blk_below (g := gb107) (o := .cells #[.bool ((rd_T97 l1 x18_1).f0), .bool ((rd_T97 l1 x18_1).f1), .int .i64 ((rd_T97 l1 x18_1).f2)] 97 (0, 0)) (by (with_reducible repeat (first | refine blk_drewN ?_ _ | refine blk_drew ?_ | refine blk_alloc ?_ _)); refine blk_put (cs := #[.bool ((rd_T97 l1 x18_1).f0), .bool ((rd_T97 l1 x18_1).f1), .int .i64 0]) ?_ 2 _ rfl; (with_reducible repeat (first | refine blk_drewN ?_ _ | refine blk_drew ?_ | refine blk_alloc ?_ _)); refine blk_put (cs := #[.bool ((rd_T97 l1 x18_1).f0), .bool false, .int .i64 0]) ?_ 1 _ rfl; (with_reducible repeat (first | refine blk_drewN ?_ _ | refine blk_drew ?_ | refine blk_alloc ?_ _)); refine blk_put (cs := #[.bool false, .bool false, .int .i64 0]) ?_ 0 _ rfl; (with_reducible repeat (first | refine blk_drewN ?_ _ | refine blk_drew ?_ | refine blk_alloc ?_ _)); exact BK107.out) hb); have n3_ := mk0 (below_step zq17 hb); clear HO_5 BK107 HB; have HO_5 := n0_; have HO110 := n1_; have BK107 := n2_; have HB := n3_; clear n0_ n1_ n2_ n3_; clear hb ho20))
   (try simp only [Act.put, List.setIfInBounds_toArray, List.set_cons_zero, List.set_cons_succ])
   go_loopg [9] k1 (fun kq v9 w' => ∃ (x8_2 : List Bool) (x9_2 : Int), v9 = .int .i64 x9_2 ∧ Aside0 (spec_Fits.l1 kq l0 x5_1 x8_2 x9_2 l1 (l1.length : Int) x18_1 ((rd_T97 l1 x18_1).f0) ((rd_T97 l1 x18_1).f1) ((rd_T97 l1 x18_1).f2) = some r) ∧ Aside0 (kq ≤ k1) ∧ Aside0 (Kd.R Kd.bool 4 w' w.heap.size (fun k_ => some k_ ≠ (v109 : Value).ownBlock) u5 x5_1) ∧ Aside0 (Kd.R Kd.bool 4 w' w.heap.size (fun k_ => some k_ ≠ (u5 : Value).ownBlock) v109 x8_2) ∧ Aside0 (w'.heap[gb107]? = some (.cells #[.bool ((rd_T97 l1 x18_1).f0), .bool ((rd_T97 l1 x18_1).f1), .int .i64 ((rd_T97 l1 x18_1).f2)] 97 (0, 0))) ∧ Aside0 (Below w.heap.size w w'))
   case atStart => exact ⟨(y108), (0), zq12, H', ⟨Nat.le_refl _⟩, ⟨by (with_reducible repeat (first | apply Kd.R_alloc | apply Kd.R_drewN | apply Kd.R_drew)); exact Kd.R_mono HO_5.out (fun _ hk => hk.2)⟩, ⟨by (with_reducible repeat (first | apply Kd.R_alloc | apply Kd.R_drewN | apply Kd.R_drew)); exact Kd.R_mono HO110.out (fun _ hk => hk.2)⟩, ⟨by (with_reducible repeat (first | refine blk_drewN ?_ _ | refine blk_drew ?_ | refine blk_alloc ?_ _)); exact BK107.out⟩, ⟨by repeat (first | (with_reducible first | exact HB.out | apply below_alloc | apply pw_below_drewN | apply below_drew1 | refine below_set ?_ GE107.out) | exact HB.out)⟩⟩
   case round =>
    clear H'
    try clear c1
    try clear p1
    try clear q1
    try clear hx1
    try clear p2
    try clear c3
    try clear c4
    try clear c4b0
    try clear c4b1
    try clear c5
    try clear c5b0
    try clear c5b1
    try clear c6
    try clear c6b0
    try clear c6b1
    try clear p6
    try clear p7
    try clear q7
    try clear hx7
    try clear qi7
    try clear hf7
    try clear p10
    try clear q10
    try clear hx10
    try clear c12
    try clear c12b0
    try clear c13
    try clear c13b0
    try clear c14
    try clear c14b0
    try clear c15
    try clear c15b0
    try clear c15b1
    try clear c16
    try clear c16b0
    try clear c16b1
    try clear hcz18_0
    try clear hcz18_1
    try clear hcz18_2
    try clear hfz18_0
    try clear hfz18_1
    try clear hfz18_2
    try clear hx106_0
    try clear hx106_1
    try clear hx106_2
    try clear hx7_0
    try clear p106
    try clear p2
    try clear p6
    try clear p7
    try clear q106
    try clear q7
    obtain ⟨x8_2, x9_2, rfl, HA, HK2, HO_5, HO_8, BK107, HB⟩ := hrel
    cases gk with
    | zero => exact absurd HA.out (by simp [spec_Fits.l1])
    | succ k2 =>
     have H := HA.out
     clear HA
     simp only [spec_Fits.l1] at H
     by_cases c21 : x9_2 ≤ (l0.length : Int)
     rotate_left
     ·rw [if_neg c21] at H
      have c21b0 : decide (x9_2 ≤ (l0.length : Int)) = false := decide_eq_false c21
      clear c21
      have H' := mk0 H
      clear H
      go_wp2
      go_roundg k2
      case measure => have := HK1.out; have := HK2.out; omega
      case rel => exact ⟨(x8_2), (wrap64 (x18_1 + 1)), zq12, H', ⟨by have := HK1.out; have := HK2.out; omega⟩, ⟨by (with_reducible repeat (first | apply Kd.R_alloc | apply Kd.R_drewN | apply Kd.R_drew)); exact Kd.R_mono HO_8.out (fun _ hk => trivial)⟩, ⟨by repeat (first | (with_reducible first | exact HB.out | apply below_alloc | apply pw_below_drewN | apply below_drew1 | refine below_set ?_ GE107.out) | exact HB.out)⟩⟩
     rw [if_pos c21] at H
     have c21b0 : decide (x9_2 ≤ (l0.length : Int)) = true := decide_eq_true c21
     clear c21
     by_cases c22 : ((rd_T97 l1 x18_1).f0) = true
     ·rw [if_pos c22] at H
      have c22b0 : ((rd_T97 l1 x18_1).f0) = true := c22
      clear c22
      by_cases c23 : 0 ≤ x9_2
      rotate_left
      ·rw [if_neg c23] at H
       exact absurd H (by simp)
      rw [if_pos c23] at H
      have c23b0 : decide (0 ≤ x9_2) = true := decide_eq_true c23
      clear c23
      by_cases c24 : x9_2 < (x5_1.length : Int)
      rotate_left
      ·rw [if_neg c24] at H
       exact absurd H (by simp)
      rw [if_pos c24] at H
      have c24b0 : decide (x9_2 < (x5_1.length : Int)) = true := decide_eq_true c24
      clear c24
      obtain ⟨bq25, hbq25⟩ : ∃ b_ : Bool, b_ = (rdOf false x5_1 x9_2) := ⟨_, rfl⟩
      replace H : (if bq25 = true then (if x9_2 < (x8_2.length : Int) then (spec_Fits.l1 k2 l0 x5_1 (x8_2.set (x9_2 : Int).toNat true) (wrap64 (x9_2 + 1)) l1 (l1.length : Int) x18_1 ((rd_T97 l1 x18_1).f0) ((rd_T97 l1 x18_1).f1) ((rd_T97 l1 x18_1).f2)) else (none)) else (if x9_2 > 0 then (if 0 ≤ (wrap64 (x9_2 - 1)) then (if (wrap64 (x9_2 - 1)) < (x8_2.length : Int) then (if x9_2 < (x8_2.length : Int) then (spec_Fits.l1 k2 l0 x5_1 (x8_2.set (x9_2 : Int).toNat (rdOf false x8_2 (wrap64 (x9_2 - 1)))) (wrap64 (x9_2 + 1)) l1 (l1.length : Int) x18_1 ((rd_T97 l1 x18_1).f0) ((rd_T97 l1 x18_1).f1) ((rd_T97 l1 x18_1).f2)) else (none)) else (none)) else (none)) else (if x9_2 < (x8_2.length : Int) then (spec_Fits.l1 k2 l0 x5_1 (x8_2.set (x9_2 : Int).toNat false) (wrap64 (x9_2 + 1)) l1 (l1.length : Int) x18_1 ((rd_T97 l1 x18_1).f0) ((rd_T97 l1 x18_1).f1) ((rd_T97 l1 x18_1).f2)) else (none)))) = some r := by rw [← hbq25] at H; exact H
      have Nbq25 := mk0 hbq25
      clear hbq25
      by_cases c26 : bq25 = true
      ·subst c26
       have H1 : (if x9_2 < (x8_2.length : Int) then (spec_Fits.l1 k2 l0 x5_1 (x8_2.set (x9_2 : Int).toNat true) (wrap64 (x9_2 + 1)) l1 (l1.length : Int) x18_1 ((rd_T97 l1 x18_1).f0) ((rd_T97 l1 x18_1).f1) ((rd_T97 l1 x18_1).f2)) else (none)) = some r := by rw [if_pos rfl] at H; exact H
       clear H
       have H := H1
       clear H1
       by_cases c27 : x9_2 < (x8_2.length : Int)
       rotate_left
       ·rw [if_neg c27] at H
        exact absurd H (by simp)
       rw [if_pos c27] at H
       have c27b0 : decide (x9_2 < (x8_2.length : Int)) = true := decide_eq_true c27
       clear c27
       obtain ⟨y112, hy112⟩ : ∃ y_ : List Bool, y_ = (x8_2.set (x9_2 : Int).toNat true) := ⟨_, rfl⟩
       replace H : (spec_Fits.l1 k2 l0 x5_1 y112 (wrap64 (x9_2 + 1)) l1 (l1.length : Int) x18_1 ((rd_T97 l1 x18_1).f0) ((rd_T97 l1 x18_1).f1) ((rd_T97 l1 x18_1).f2)) = some r := by first | (rw [hy112]; with_reducible exact H) | (have H2_ := (Option.bind_some _ _).symm.trans H; rw [hy112]; with_reducible exact H2_) | (have H2_ := (Option.bind_some _ _).symm.trans H; with_reducible exact H2_) | with_reducible exact H | (rw [hy112]; exact H) | exact H
       have Ny112 := mk0 hy112
       clear hy112
       have H' := mk0 H
       clear H
       have hcz29_0 : wr.cell? ⟨gb107, 0, none⟩ = some (.bool ((rd_T97 l1 x18_1).f0)) := (blk_cell BK107.out 0).trans rfl
       have hcz29_1 : wr.cell? ⟨gb107, 1, none⟩ = some (.bool ((rd_T97 l1 x18_1).f1)) := (blk_cell BK107.out 1).trans rfl
       have hcz29_2 : wr.cell? ⟨gb107, 2, none⟩ = some (.int .i64 ((rd_T97 l1 x18_1).f2)) := (blk_cell BK107.out 2).trans rfl
       have hfz29_0 := blk_frozen BK107.out 0
       have hfz29_1 := blk_frozen BK107.out 1
       have hfz29_2 := blk_frozen BK107.out 2
       obtain ⟨Ao30, co30, eo30⟩ := Kd.R_slice HO_5.out
       subst eo30
       have p111 : 0 ≤ (x9_2 : Int) := of_decide_eq_true zq2
       have q111 : x9_2 < (x5_1.length : Int) := of_decide_eq_true zq2
       obtain ⟨ad111, e111, hx111_0⟩ := Kd.at_bool (Kd.R_reads' HO_5.out).2.2 x9_2 p111 q111
       (try rw [← Nbq25.out] at hx111_0)
       cases e111
       replace p111 := eq_true p111
       replace q111 := eq_true q111
       have p28 : 0 ≤ (x9_2 : Int) := of_decide_eq_true zq2
       have q28 : (x9_2 : Int) < ((x8_2.length : Int) : Int) := of_decide_eq_true zq2
       obtain ⟨go28, co28, eo28, gb28, gl28, cl28, HG28⟩ := Kd.R_form HO_8.out (by omega)
       (first | cases eo28 | (injection eo28 with ea_ en_ ec_; (first | subst ea_ | (injection ea_ with ea_; subst ea_)); subst ec_; clear en_))
       have GB28 := mk0 gb28
       have GG28 := mk0 HG28
       clear gb28 gl28 HG28
       obtain ⟨hx28_0, hf28_0⟩ := Kd.R_celln false HO_8.out (x9_2 : Int) p28 q28
       replace p28 := eq_true p28
       replace q28 := eq_true q28
       have HP31 := Kd.R_putg HO_8.out (x9_2 : Int) true
       go_wp2_with (first | ((with_reducible refine gate_store (t := 4) (p := 52) rfl ?_); refine store_event (t := 4) (p := 52) (v := ?vo_w32) (w1 := (wr.setCell ⟨go28, (x9_2 : Int).toNat, none⟩ (.bool true))) ?hg ?ho ?hn ?hr ?_; (case ho => rfl); (case hg => rfl); (case hn => rfl); (case hr => exact zq16); intro w32 hw; have hg : wr.grownBy w32 (some go28) := (by rw [hw]; exact HP31.2); have hp_ : Kd.R Kd.bool 4 w32 w.heap.size (fun k_ => some k_ ≠ (.slice (some ad111) x5_1.length co30 : Value).ownBlock) (.slice (some ⟨go28, 0, none⟩) x8_2.length co28) y112 := (by rw [hw, Ny112.out]; exact HP31.1); clear HP31; have n0_ := mk0 (Kd.R_after (v := (.slice (some ⟨go28, 0, none⟩) x8_2.length co28)) (v1 := (.slice (some ⟨go28, 0, none⟩) x8_2.length co28)) (ok := (fun _ => True)) zq8 hg (.inl rfl)); have n1_ := mk0 (hp_); have n2_ := mk0 (blk_grown (g := gb107) (o := .cells #[.bool ((rd_T97 l1 x18_1).f0), .bool ((rd_T97 l1 x18_1).f1), .int .i64 ((rd_T97 l1 x18_1).f2)] 97 (0, 0)) zq14 hg (Kd.R_ne HO_8.out BK107.out zq25)); have n3_ := mk0 ((by rw [hw]; exact below_set (HB.out) GB28.out : Below w.heap.size w w32)); clear HO_5 HO_8 BK107 HB; have HO_5 := n0_; have HO_8 := n1_; have BK107 := n2_; have HB := n3_; clear n0_ n1_ n2_ n3_; clear hg hw hp_))
       go_roundg k2
       case measure => have := HK1.out; have := HK2.out; omega
       case rel => exact ⟨(y112), (wrap64 (x9_2 + 1)), zq12, H', ⟨by have := HK1.out; have := HK2.out; omega⟩, ⟨by (with_reducible repeat (first | apply Kd.R_alloc | apply Kd.R_drewN | apply Kd.R_drew)); exact Kd.R_mono HO_5.out (fun _ hk => hk.2)⟩, ⟨by (with_reducible repeat (first | apply Kd.R_alloc | apply Kd.R_drewN | apply Kd.R_drew)); exact HO_8.out⟩, ⟨by (with_reducible repeat (first | refine blk_drewN ?_ _ | refine blk_drew ?_ | refine blk_alloc ?_ _)); exact BK107.out⟩, ⟨by repeat (first | (with_reducible first | exact HB.out | apply below_alloc | apply pw_below_drewN | apply below_drew1 | refine below_set ?_ GE107.out) | exact HB.out)⟩⟩
      replace c26 := Bool.eq_false_iff.mpr c26
      subst c26
      have H1 : (if x9_2 > 0 then (if 0 ≤ (wrap64 (x9_2 - 1)) then (if (wrap64 (x9_2 - 1)) < (x8_2.length : Int) then (if x9_2 < (x8_2.length : Int) then (spec_Fits.l1 k2 l0 x5_1 (x8_2.set (x9_2 : Int).toNat (rdOf false x8_2 (wrap64 (x9_2 - 1)))) (wrap64 (x9_2 + 1)) l1 (l1.length : Int) x18_1 ((rd_T97 l1 x18_1).f0) ((rd_T97 l1 x18_1).f1) ((rd_T97 l1 x18_1).f2)) else (none)) else (none)) else (none)) else (if x9_2 < (x8_2.length : Int) then (spec_Fits.l1 k2 l0 x5_1 (x8_2.set (x9_2 : Int).toNat false) (wrap64 (x9_2 + 1)) l1 (l1.length : Int) x18_1 ((rd_T97 l1 x18_1).f0) ((rd_T97 l1 x18_1).f1) ((rd_T97 l1 x18_1).f2)) else (none))) = some r := by rw [if_neg (show ¬ (false = true) by decide)] at H; exact H
      clear H
      have H := H1
      clear H1
      by_cases c33 : x9_2 > 0
      rotate_left
      ·rw [if_neg c33] at H
       have c33b0 : decide (0 < x9_2) = false := decide_eq_false c33
       clear c33
       by_cases c44 : x9_2 < (x8_2.length : Int)
       rotate_left
       ·rw [if_neg c44] at H
        exact absurd H (by simp)
       rw [if_pos c44] at H
       have c44b0 : decide (x9_2 < (x8_2.length : Int)) = true := decide_eq_true c44
       clear c44
       obtain ⟨y115, hy115⟩ : ∃ y_ : List Bool, y_ = (x8_2.set (x9_2 : Int).toNat false) := ⟨_, rfl⟩
       replace H : (spec_Fits.l1 k2 l0 x5_1 y115 (wrap64 (x9_2 + 1)) l1 (l1.length : Int) x18_1 ((rd_T97 l1 x18_1).f0) ((rd_T97 l1 x18_1).f1) ((rd_T97 l1 x18_1).f2)) = some r := by first | (rw [hy115]; with_reducible exact H) | (have H2_ := (Option.bind_some _ _).symm.trans H; rw [hy115]; with_reducible exact H2_) | (have H2_ := (Option.bind_some _ _).symm.trans H; with_reducible exact H2_) | with_reducible exact H | (rw [hy115]; exact H) | exact H
       have Ny115 := mk0 hy115
       clear hy115
       have H' := mk0 H
       clear H
       have hcz46_0 : wr.cell? ⟨gb107, 0, none⟩ = some (.bool ((rd_T97 l1 x18_1).f0)) := (blk_cell BK107.out 0).trans rfl
       have hcz46_1 : wr.cell? ⟨gb107, 1, none⟩ = some (.bool ((rd_T97 l1 x18_1).f1)) := (blk_cell BK107.out 1).trans rfl
       have hcz46_2 : wr.cell? ⟨gb107, 2, none⟩ = some (.int .i64 ((rd_T97 l1 x18_1).f2)) := (blk_cell BK107.out 2).trans rfl
       have hfz46_0 := blk_frozen BK107.out 0
       have hfz46_1 := blk_frozen BK107.out 1
       have hfz46_2 := blk_frozen BK107.out 2
       obtain ⟨Ao47, co47, eo47⟩ := Kd.R_slice HO_5.out
       subst eo47
       have p111 : 0 ≤ (x9_2 : Int) := of_decide_eq_true zq2
       have q111 : x9_2 < (x5_1.length : Int) := of_decide_eq_true zq2
       obtain ⟨ad111, e111, hx111_0⟩ := Kd.at_bool (Kd.R_reads' HO_5.out).2.2 x9_2 p111 q111
       (try rw [← Nbq25.out] at hx111_0)
       cases e111
       replace p111 := eq_true p111
       replace q111 := eq_true q111
       have p45 : 0 ≤ (x9_2 : Int) := of_decide_eq_true zq2
       have q45 : (x9_2 : Int) < ((x8_2.length : Int) : Int) := of_decide_eq_true zq2
       obtain ⟨go45, co45, eo45, gb45, gl45, cl45, HG45⟩ := Kd.R_form HO_8.out (by omega)
       (first | cases eo45 | (injection eo45 with ea_ en_ ec_; (first | subst ea_ | (injection ea_ with ea_; subst ea_)); subst ec_; clear en_))
       have GB45 := mk0 gb45
       have GG45 := mk0 HG45
       clear gb45 gl45 HG45
       obtain ⟨hx45_0, hf45_0⟩ := Kd.R_celln false HO_8.out (x9_2 : Int) p45 q45
       replace p45 := eq_true p45
       replace q45 := eq_true q45
       have HP48 := Kd.R_putg HO_8.out (x9_2 : Int) false
       go_wp2_with (first | ((with_reducible refine gate_store (t := 4) (p := 52) rfl ?_); refine store_event (t := 4) (p := 52) (v := ?vo_w49) (w1 := (wr.setCell ⟨go45, (x9_2 : Int).toNat, none⟩ (.bool false))) ?hg ?ho ?hn ?hr ?_; (case ho => rfl); (case hg => rfl); (case hn => rfl); (case hr => exact zq16); intro w49 hw; have hg : wr.grownBy w49 (some go45) := (by rw [hw]; exact HP48.2); have hp_ : Kd.R Kd.bool 4 w49 w.heap.size (fun k_ => some k_ ≠ (.slice (some ad111) x5_1.length co47 : Value).ownBlock) (.slice (some ⟨go45, 0, none⟩) x8_2.length co45) y115 := (by rw [hw, Ny115.out]; exact HP48.1); clear HP48; have n0_ := mk0 (Kd.R_after (v := (.slice (some ⟨go45, 0, none⟩) x8_2.length co45)) (v1 := (.slice (some ⟨go45, 0, none⟩) x8_2.length co45)) (ok := (fun _ => True)) zq8 hg (.inl rfl)); have n1_ := mk0 (hp_); have n2_ := mk0 (blk_grown (g := gb107) (o := .cells #[.bool ((rd_T97 l1 x18_1).f0), .bool ((rd_T97 l1 x18_1).f1), .int .i64 ((rd_T97 l1 x18_1).f2)] 97 (0, 0)) zq14 hg (Kd.R_ne HO_8.out BK107.out zq25)); have n3_ := mk0 ((by rw [hw]; exact below_set (HB.out) GB45.out : Below w.heap.size w w49)); clear HO_5 HO_8 BK107 HB; have HO_5 := n0_; have HO_8 := n1_; have BK107 := n2_; have HB := n3_; clear n0_ n1_ n2_ n3_; clear hg hw hp_))
       go_roundg k2
       case measure => have := HK1.out; have := HK2.out; omega
       case rel => exact ⟨(y115), (wrap64 (x9_2 + 1)), zq12, H', ⟨by have := HK1.out; have := HK2.out; omega⟩, ⟨by (with_reducible repeat (first | apply Kd.R_alloc | apply Kd.R_drewN | apply Kd.R_drew)); exact Kd.R_mono HO_5.out (fun _ hk => hk.2)⟩, ⟨by (with_reducible repeat (first | apply Kd.R_alloc | apply Kd.R_drewN | apply Kd.R_drew)); exact HO_8.out⟩, ⟨by (with_reducible repeat (first | refine blk_drewN ?_ _ | refine blk_drew ?_ | refine blk_alloc ?_ _)); exact BK107.out⟩, ⟨by repeat (first | (with_reducible first | exact HB.out | apply below_alloc | apply pw_below_drewN | apply below_drew1 | refine below_set ?_ GE107.out) | exact HB.out)⟩⟩
      rw [if_pos c33] at H
      have c33b0 : decide (0 < x9_2) = true := decide_eq_true c33
      clear c33
      obtain ⟨ji34, hji34⟩ : ∃ j_ : Int, (wrap64 (x9_2 - 1)) = j_ := ⟨_, rfl⟩
      replace H : (if 0 ≤ (ji34) then (if (ji34) < (x8_2.length : Int) then (if x9_2 < (x8_2.length : Int) then (spec_Fits.l1 k2 l0 x5_1 (x8_2.set (x9_2 : Int).toNat (rdOf false x8_2 (ji34))) (wrap64 (x9_2 + 1)) l1 (l1.length : Int) x18_1 ((rd_T97 l1 x18_1).f0) ((rd_T97 l1 x18_1).f1) ((rd_T97 l1 x18_1).f2)) else (none)) else (none)) else (none)) = some r := by first | (rw [hji34] at H; exact H) | (simp only [hji34] at H ⊢; exact H)
      have hji34w : (IntKind.i64.wrap (x9_2 - 1)) = ji34 := (i64_w _).trans hji34
      by_cases c35 : 0 ≤ (ji34)
      rotate_left
      ·rw [if_neg c35] at H
       exact absurd H (by simp)
      rw [if_pos c35] at H
      have c35b0 : decide (0 ≤ (ji34)) = true := decide_eq_true c35
      clear c35
      by_cases c36 : (ji34) < (x8_2.length : Int)
      rotate_left
      ·rw [if_neg c36] at H
       exact absurd H (by simp)
      rw [if_pos c36] at H
      have c36b0 : decide ((ji34) < (x8_2.length : Int)) = true := decide_eq_true c36
      clear c36
      by_cases c37 : x9_2 < (x8_2.length : Int)
      rotate_left
      ·rw [if_neg c37] at H
       exact absurd H (by simp)
      rw [if_pos c37] at H
      have c37b0 : decide (x9_2 < (x8_2.length : Int)) = true := decide_eq_true c37
      clear c37
      obtain ⟨y114, hy114⟩ : ∃ y_ : List Bool, y_ = (x8_2.set (x9_2 : Int).toNat (rdOf false x8_2 (ji34))) := ⟨_, rfl⟩
      replace H : (spec_Fits.l1 k2 l0 x5_1 y114 (wrap64 (x9_2 + 1)) l1 (l1.length : Int) x18_1 ((rd_T97 l1 x18_1).f0) ((rd_T97 l1 x18_1).f1) ((rd_T97 l1 x18_1).f2)) = some r := by first | (rw [hy114]; with_reducible exact H) | (have H2_ := (Option.bind_some _ _).symm.trans H; rw [hy114]; with_reducible exact H2_) | (have H2_ := (Option.bind_some _ _).symm.trans H; with_reducible exact H2_) | with_reducible exact H | (rw [hy114]; exact H) | exact H
      have Ny114 := mk0 hy114
      clear hy114
      have H' := mk0 H
      clear H
      have hcz39_0 : wr.cell? ⟨gb107, 0, none⟩ = some (.bool ((rd_T97 l1 x18_1).f0)) := (blk_cell BK107.out 0).trans rfl
      have hcz39_1 : wr.cell? ⟨gb107, 1, none⟩ = some (.bool ((rd_T97 l1 x18_1).f1)) := (blk_cell BK107.out 1).trans rfl
      have hcz39_2 : wr.cell? ⟨gb107, 2, none⟩ = some (.int .i64 ((rd_T97 l1 x18_1).f2)) := (blk_cell BK107.out 2).trans rfl
      have hfz39_0 := blk_frozen BK107.out 0
      have hfz39_1 := blk_frozen BK107.out 1
      have hfz39_2 := blk_frozen BK107.out 2
      obtain ⟨Ao40, co40, eo40⟩ := Kd.R_slice HO_5.out
      subst eo40
      have p111 : 0 ≤ (x9_2 : Int) := of_decide_eq_true zq2
      have q111 : x9_2 < (x5_1.length : Int) := of_decide_eq_true zq2
      obtain ⟨ad111, e111, hx111_0⟩ := Kd.at_bool (Kd.R_reads' HO_5.out).2.2 x9_2 p111 q111
      (try rw [← Nbq25.out] at hx111_0)
      cases e111
      replace p111 := eq_true p111
      replace q111 := eq_true q111
      obtain ⟨Ao41, co41, eo41⟩ := Kd.R_slice HO_8.out
      subst eo41
      have p113 : 0 ≤ ((ji34) : Int) := of_decide_eq_true zq2
      have q113 : (ji34) < (x8_2.length : Int) := of_decide_eq_true zq2
      obtain ⟨ad113, e113, hx113_0⟩ := Kd.at_bool (Kd.R_reads' HO_8.out).2.2 (ji34) p113 q113
      (try rw [← Nbq25.out] at hx113_0)
      cases e113
      replace p113 := eq_true p113
      replace q113 := eq_true q113
      have p38 : 0 ≤ (x9_2 : Int) := of_decide_eq_true zq2
      have q38 : (x9_2 : Int) < ((x8_2.length : Int) : Int) := of_decide_eq_true zq2
      obtain ⟨go38, co38, eo38, gb38, gl38, cl38, HG38⟩ := Kd.R_form HO_8.out (by omega)
      (first | cases eo38 | (injection eo38 with ea_ en_ ec_; (first | subst ea_ | (injection ea_ with ea_; subst ea_)); subst ec_; clear en_))
      have GB38 := mk0 gb38
      have GG38 := mk0 HG38
      clear gb38 gl38 HG38
      (first | simp only [add_plain] at hx113_0 | skip)
      obtain ⟨hx38_0, hf38_0⟩ := Kd.R_celln false HO_8.out (x9_2 : Int) p38 q38
      replace p38 := eq_true p38
      replace q38 := eq_true q38
      have HP42 := Kd.R_putg HO_8.out (x9_2 : Int) (rdOf false x8_2 (ji34))
      go_wp2_with (first | ((with_reducible refine gate_store (t := 4) (p := 52) rfl ?_); refine store_event (t := 4) (p := 52) (v := ?vo_w43) (w1 := (wr.setCell ⟨go38, (x9_2 : Int).toNat, none⟩ (.bool (rdOf false x8_2 (ji34))))) ?hg ?ho ?hn ?hr ?_; (case ho => rfl); (case hg => rfl); (case hn => rfl); (case hr => exact zq16); intro w43 hw; have hg : wr.grownBy w43 (some go38) := (by rw [hw]; exact HP42.2); have hp_ : Kd.R Kd.bool 4 w43 w.heap.size (fun k_ => some k_ ≠ (.slice (some ad111) x5_1.length co40 : Value).ownBlock) (.slice (some ⟨go38, 0, none⟩) x8_2.length co41) y114 := (by rw [hw, Ny114.out]; exact HP42.1); clear HP42; have n0_ := mk0 (Kd.R_after (v := (.slice (some ⟨go38, 0, none⟩) x8_2.length co41)) (v1 := (.slice (some ⟨go38, 0, none⟩) x8_2.length co41)) (ok := (fun _ => True)) zq8 hg (.inl rfl)); have n1_ := mk0 (hp_); have n2_ := mk0 (blk_grown (g := gb107) (o := .cells #[.bool ((rd_T97 l1 x18_1).f0), .bool ((rd_T97 l1 x18_1).f1), .int .i64 ((rd_T97 l1 x18_1).f2)] 97 (0, 0)) zq14 hg (Kd.R_ne HO_8.out BK107.out zq25)); have n3_ := mk0 ((by rw [hw]; exact below_set (HB.out) GB38.out : Below w.heap.size w w43)); clear HO_5 HO_8 BK107 HB; have HO_5 := n0_; have HO_8 := n1_; have BK107 := n2_; have HB := n3_; clear n0_ n1_ n2_ n3_; clear hg hw hp_))
      (try simp only [← hji34])
      go_roundg k2
      case measure => have := HK1.out; have := HK2.out; omega
      case rel => (try simp only [hji34]); exact ⟨(y114), (wrap64 (x9_2 + 1)), (by first | with_reducible rfl | (simp only [← hji3, ← hji3, ← hji34]; done) | rfl | (simp; done) | (simp [*]; done)), (by first | exact H' | (simp only [← hji34] at H' ⊢; exact H')), ⟨by have := HK1.out; have := HK2.out; omega⟩, ⟨by (with_reducible repeat (first | apply Kd.R_alloc | apply Kd.R_drewN | apply Kd.R_drew)); exact Kd.R_mono HO_5.out (fun _ hk => hk.2)⟩, ⟨by (with_reducible repeat (first | apply Kd.R_alloc | apply Kd.R_drewN | apply Kd.R_drew)); exact HO_8.out⟩, ⟨by (with_reducible repeat (first | refine blk_drewN ?_ _ | refine blk_drew ?_ | refine blk_alloc ?_ _)); exact BK107.out⟩, ⟨by repeat (first | (with_reducible first | exact HB.out | apply below_alloc | apply pw_below_drewN | apply below_drew1 | refine below_set ?_ GE107.out) | exact HB.out)⟩⟩
     rw [if_neg c22] at H
     have c22b0 : ((rd_T97 l1 x18_1).f0) = false := by simpa using c22
     clear c22
     by_cases c50 : x9_2 > 0
     rotate_left
     ·rw [if_neg c50] at H
      have c50b0 : decide (0 < x9_2) = false := decide_eq_false c50
      clear c50
      have H' := mk0 H
      clear H
      have hcz74_0 : wr.cell? ⟨gb107, 0, none⟩ = some (.bool ((rd_T97 l1 x18_1).f0)) := (blk_cell BK107.out 0).trans rfl
      have hcz74_1 : wr.cell? ⟨gb107, 1, none⟩ = some (.bool ((rd_T97 l1 x18_1).f1)) := (blk_cell BK107.out 1).trans rfl
      have hcz74_2 : wr.cell? ⟨gb107, 2, none⟩ = some (.int .i64 ((rd_T97 l1 x18_1).f2)) := (blk_cell BK107.out 2).trans rfl
      have hfz74_0 := blk_frozen BK107.out 0
      have hfz74_1 := blk_frozen BK107.out 1
      have hfz74_2 := blk_frozen BK107.out 2
      go_wp2
      go_roundg k2
      case measure => have := HK1.out; have := HK2.out; omega
      case rel => exact ⟨(x8_2), (wrap64 (x9_2 + 1)), zq12, H', ⟨by have := HK1.out; have := HK2.out; omega⟩, ⟨by (with_reducible repeat (first | apply Kd.R_alloc | apply Kd.R_drewN | apply Kd.R_drew)); exact HO_5.out⟩, ⟨by (with_reducible repeat (first | apply Kd.R_alloc | apply Kd.R_drewN | apply Kd.R_drew)); exact HO_8.out⟩, ⟨by (with_reducible repeat (first | refine blk_drewN ?_ _ | refine blk_drew ?_ | refine blk_alloc ?_ _)); exact BK107.out⟩, ⟨by repeat (first | (with_reducible first | exact HB.out | apply below_alloc | apply pw_below_drewN | apply below_drew1 | refine below_set ?_ GE107.out) | exact HB.out)⟩⟩
     rw [if_pos c50] at H
     have c50b0 : decide (0 < x9_2) = true := decide_eq_true c50
     clear c50
     obtain ⟨ji51, hji51⟩ : ∃ j_ : Int, (wrap64 (x9_2 - 1)) = j_ := ⟨_, rfl⟩
     replace H : (if 0 ≤ (ji51) then (if (ji51) < (x5_1.length : Int) then (if rdOf false x5_1 (ji51) = true then (if ((rd_T97 l1 x18_1).f1) = true then (if 0 ≤ x9_2 then (if x9_2 < (x8_2.length : Int) then (spec_Fits.l1 k2 l0 x5_1 (x8_2.set (x9_2 : Int).toNat true) (wrap64 (x9_2 + 1)) l1 (l1.length : Int) x18_1 ((rd_T97 l1 x18_1).f0) ((rd_T97 l1 x18_1).f1) ((rd_T97 l1 x18_1).f2)) else (none)) else (none)) else (if (ji51) < (l0.length : Int) then (if 0 ≤ x9_2 then (if x9_2 < (x8_2.length : Int) then (spec_Fits.l1 k2 l0 x5_1 (x8_2.set (x9_2 : Int).toNat (((rd_T97 l1 x18_1).f2) == (rd l0 (ji51)))) (wrap64 (x9_2 + 1)) l1 (l1.length : Int) x18_1 ((rd_T97 l1 x18_1).f0) ((rd_T97 l1 x18_1).f1) ((rd_T97 l1 x18_1).f2)) else (none)) else (none)) else (none))) else (spec_Fits.l1 k2 l0 x5_1 x8_2 (wrap64 (x9_2 + 1)) l1 (l1.length : Int) x18_1 ((rd_T97 l1 x18_1).f0) ((rd_T97 l1 x18_1).f1) ((rd_T97 l1 x18_1).f2))) else (none)) else (none)) = some r := by first | (rw [hji51] at H; exact H) | (simp only [hji51] at H ⊢; exact H)
     have hji51w : (IntKind.i64.wrap (x9_2 - 1)) = ji51 := (i64_w _).trans hji51
     by_cases c52 : 0 ≤ (ji51)
     rotate_left
     ·rw [if_neg c52] at H
      exact absurd H (by simp)
     rw [if_pos c52] at H
     have c52b0 : decide (0 ≤ (ji51)) = true := decide_eq_true c52
     clear c52
     by_cases c53 : (ji51) < (x5_1.length : Int)
     rotate_left
     ·rw [if_neg c53] at H
      exact absurd H (by simp)
     rw [if_pos c53] at H
     have c53b0 : decide ((ji51) < (x5_1.length : Int)) = true := decide_eq_true c53
     clear c53
     obtain ⟨bq54, hbq54⟩ : ∃ b_ : Bool, b_ = (rdOf false x5_1 (ji51)) := ⟨_, rfl⟩
     replace H : (if bq54 = true then (if ((rd_T97 l1 x18_1).f1) = true then (if 0 ≤ x9_2 then (if x9_2 < (x8_2.length : Int) then (spec_Fits.l1 k2 l0 x5_1 (x8_2.set (x9_2 : Int).toNat true) (wrap64 (x9_2 + 1)) l1 (l1.length : Int) x18_1 ((rd_T97 l1 x18_1).f0) ((rd_T97 l1 x18_1).f1) ((rd_T97 l1 x18_1).f2)) else (none)) else (none)) else (if (ji51) < (l0.length : Int) then (if 0 ≤ x9_2 then (if x9_2 < (x8_2.length : Int) then (spec_Fits.l1 k2 l0 x5_1 (x8_2.set (x9_2 : Int).toNat (((rd_T97 l1 x18_1).f2) == (rd l0 (ji51)))) (wrap64 (x9_2 + 1)) l1 (l1.length : Int) x18_1 ((rd_T97 l1 x18_1).f0) ((rd_T97 l1 x18_1).f1) ((rd_T97 l1 x18_1).f2)) else (none)) else (none)) else (none))) else (spec_Fits.l1 k2 l0 x5_1 x8_2 (wrap64 (x9_2 + 1)) l1 (l1.length : Int) x18_1 ((rd_T97 l1 x18_1).f0) ((rd_T97 l1 x18_1).f1) ((rd_T97 l1 x18_1).f2))) = some r := by rw [← hbq54] at H; exact H
     have Nbq54 := mk0 hbq54
     clear hbq54
     by_cases c55 : bq54 = true
     rotate_left
     ·replace c55 := Bool.eq_false_iff.mpr c55
      subst c55
      have H1 : (spec_Fits.l1 k2 l0 x5_1 x8_2 (wrap64 (x9_2 + 1)) l1 (l1.length : Int) x18_1 ((rd_T97 l1 x18_1).f0) ((rd_T97 l1 x18_1).f1) ((rd_T97 l1 x18_1).f2)) = some r := by rw [if_neg (show ¬ (false = true) by decide)] at H; exact H
      clear H
      have H := H1
      clear H1
      have H' := mk0 H
      clear H
      have hcz72_0 : wr.cell? ⟨gb107, 0, none⟩ = some (.bool ((rd_T97 l1 x18_1).f0)) := (blk_cell BK107.out 0).trans rfl
      have hcz72_1 : wr.cell? ⟨gb107, 1, none⟩ = some (.bool ((rd_T97 l1 x18_1).f1)) := (blk_cell BK107.out 1).trans rfl
      have hcz72_2 : wr.cell? ⟨gb107, 2, none⟩ = some (.int .i64 ((rd_T97 l1 x18_1).f2)) := (blk_cell BK107.out 2).trans rfl
      have hfz72_0 := blk_frozen BK107.out 0
      have hfz72_1 := blk_frozen BK107.out 1
      have hfz72_2 := blk_frozen BK107.out 2
      obtain ⟨Ao73, co73, eo73⟩ := Kd.R_slice HO_5.out
      subst eo73
      have p116 : 0 ≤ ((ji51) : Int) := of_decide_eq_true zq2
      have q116 : (ji51) < (x5_1.length : Int) := of_decide_eq_true zq2
      obtain ⟨ad116, e116, hx116_0⟩ := Kd.at_bool (Kd.R_reads' HO_5.out).2.2 (ji51) p116 q116
      (try rw [← Nbq54.out] at hx116_0)
      cases e116
      replace p116 := eq_true p116
      replace q116 := eq_true q116
      go_wp2
      (try simp only [← hji51])
      go_roundg k2
      case measure => have := HK1.out; have := HK2.out; omega
      case rel => (try simp only [hji51]); exact ⟨(x8_2), (wrap64 (x9_2 + 1)), zq15, (by first | exact H' | (simp only [← hji51] at H' ⊢; exact H')), ⟨by have := HK1.out; have := HK2.out; omega⟩, ⟨by (with_reducible repeat (first | apply Kd.R_alloc | apply Kd.R_drewN | apply Kd.R_drew)); exact HO_5.out⟩, ⟨by (with_reducible repeat (first | apply Kd.R_alloc | apply Kd.R_drewN | apply Kd.R_drew)); exact HO_8.out⟩, ⟨by (with_reducible repeat (first | refine blk_drewN ?_ _ | refine blk_drew ?_ | refine blk_alloc ?_ _)); exact BK107.out⟩, ⟨by repeat (first | (with_reducible first | exact HB.out | apply below_alloc | apply pw_below_drewN | apply below_drew1 | refine below_set ?_ GE107.out) | exact HB.out)⟩⟩
     subst c55
     have H1 : (if ((rd_T97 l1 x18_1).f1) = true then (if 0 ≤ x9_2 then (if x9_2 < (x8_2.length : Int) then (spec_Fits.l1 k2 l0 x5_1 (x8_2.set (x9_2 : Int).toNat true) (wrap64 (x9_2 + 1)) l1 (l1.length : Int) x18_1 ((rd_T97 l1 x18_1).f0) ((rd_T97 l1 x18_1).f1) ((rd_T97 l1 x18_1).f2)) else (none)) else (none)) else (if (ji51) < (l0.length : Int) then (if 0 ≤ x9_2 then (if x9_2 < (x8_2.length : Int) then (spec_Fits.l1 k2 l0 x5_1 (x8_2.set (x9_2 : Int).toNat (((rd_T97 l1 x18_1).f2) == (rd l0 (ji51)))) (wrap64 (x9_2 + 1)) l1 (l1.length : Int) x18_1 ((rd_T97 l1 x18_1).f0) ((rd_T97 l1 x18_1).f1) ((rd_T97 l1 x18_1).f2)) else (none)) else (none)) else (none))) = some r := by rw [if_pos rfl] at H; exact H
     clear H
     have H := H1
     clear H1
     by_cases c56 : ((rd_T97 l1 x18_1).f1) = true
     ·rw [if_pos c56] at H
      have c56b0 : ((rd_T97 l1 x18_1).f1) = true := c56
      clear c56
      by_cases c57 : 0 ≤ x9_2
      rotate_left
      ·rw [if_neg c57] at H
       exact absurd H (by simp)
      rw [if_pos c57] at H
      have c57b0 : decide (0 ≤ x9_2) = true := decide_eq_true c57
      clear c57
      by_cases c58 : x9_2 < (x8_2.length : Int)
      rotate_left
      ·rw [if_neg c58] at H
       exact absurd H (by simp)
      rw [if_pos c58] at H
      have c58b0 : decide (x9_2 < (x8_2.length : Int)) = true := decide_eq_true c58
      clear c58
      obtain ⟨y117, hy117⟩ : ∃ y_ : List Bool, y_ = (x8_2.set (x9_2 : Int).toNat true) := ⟨_, rfl⟩
      replace H : (spec_Fits.l1 k2 l0 x5_1 y117 (wrap64 (x9_2 + 1)) l1 (l1.length : Int) x18_1 ((rd_T97 l1 x18_1).f0) ((rd_T97 l1 x18_1).f1) ((rd_T97 l1 x18_1).f2)) = some r := by first | (rw [hy117]; with_reducible exact H) | (have H2_ := (Option.bind_some _ _).symm.trans H; rw [hy117]; with_reducible exact H2_) | (have H2_ := (Option.bind_some _ _).symm.trans H; with_reducible exact H2_) | with_reducible exact H | (rw [hy117]; exact H) | exact H
      have Ny117 := mk0 hy117
      clear hy117
      have H' := mk0 H
      clear H
      have hcz60_0 : wr.cell? ⟨gb107, 0, none⟩ = some (.bool ((rd_T97 l1 x18_1).f0)) := (blk_cell BK107.out 0).trans rfl
      have hcz60_1 : wr.cell? ⟨gb107, 1, none⟩ = some (.bool ((rd_T97 l1 x18_1).f1)) := (blk_cell BK107.out 1).trans rfl
      have hcz60_2 : wr.cell? ⟨gb107, 2, none⟩ = some (.int .i64 ((rd_T97 l1 x18_1).f2)) := (blk_cell BK107.out 2).trans rfl
      have hfz60_0 := blk_frozen BK107.out 0
      have hfz60_1 := blk_frozen BK107.out 1
      have hfz60_2 := blk_frozen BK107.out 2
      obtain ⟨Ao61, co61, eo61⟩ := Kd.R_slice HO_5.out
      subst eo61
      have p116 : 0 ≤ ((ji51) : Int) := of_decide_eq_true zq2
      have q116 : (ji51) < (x5_1.length : Int) := of_decide_eq_true zq2
      obtain ⟨ad116, e116, hx116_0⟩ := Kd.at_bool (Kd.R_reads' HO_5.out).2.2 (ji51) p116 q116
      (try rw [← Nbq54.out] at hx116_0)
      cases e116
      replace p116 := eq_true p116
      replace q116 := eq_true q116
      try go_wp2
      have n0_ := mk0 (Kd.R_drew HO_5.out)
      have n1_ := mk0 (Kd.R_drew HO_8.out)
      have n2_ := mk0 (blk_drew BK107.out)
      have n3_ := mk0 (below_drew1 HB.out)
      clear HO_5
      clear HO_8
      clear BK107
      clear HB
      have HO_5 := n0_
      have HO_8 := n1_
      have BK107 := n2_
      have HB := n3_
      clear n0_ n1_ n2_ n3_
      have p59 : 0 ≤ (x9_2 : Int) := of_decide_eq_true zq2
      have q59 : (x9_2 : Int) < ((x8_2.length : Int) : Int) := of_decide_eq_true zq2
      obtain ⟨go59, co59, eo59, gb59, gl59, cl59, HG59⟩ := Kd.R_form HO_8.out (by omega)
      (first | cases eo59 | (injection eo59 with ea_ en_ ec_; (first | subst ea_ | (injection ea_ with ea_; subst ea_)); subst ec_; clear en_))
      have GB59 := mk0 gb59
      have GG59 := mk0 HG59
      clear gb59 gl59 HG59
      obtain ⟨hx59_0, hf59_0⟩ := Kd.R_celln false HO_8.out (x9_2 : Int) p59 q59
      replace p59 := eq_true p59
      replace q59 := eq_true q59
      have HP63 := Kd.R_putn HO_8.out (x9_2 : Int) true
      rw [← Ny117.out] at HP63
      have HQ63 := mk0 HP63
      clear HP63
      refine start_ (n := 16) (S := fun w' => w'.cell? ⟨gb107, 0, none⟩ = some (.bool ((rd_T97 l1 x18_1).f0)) ∧ w'.cell? ⟨gb107, 1, none⟩ = some (.bool ((rd_T97 l1 x18_1).f1)) ∧ w'.cell? ⟨gb107, 2, none⟩ = some (.int .i64 ((rd_T97 l1 x18_1).f2))) (ds := [15]) #[false, false, false, false, false, false, false, false, false, false, false, false, false, false, false, false] zq6 rfl rfl ⟨(blk_cell BK107.out 0).trans rfl, (blk_cell BK107.out 1).trans rfl, (blk_cell BK107.out 2).trans rfl⟩ (fun hHeld => ?_); refine with_tabW spec_Fits.tab13 spec_Fits.bits13 (fun HT_ HW_ => ?_)
      generalize wr.drew = w62 at HO_5 HO_8 BK107 HB GG59 HQ63 hf59_0 hx59_0 hHeld ⊢
      refine pure_ (i := 0) (N := some 63) (v := ?_) (a' := ?_) #[true, false, false, false, false, false, false, false, false, false, false, false, false, false, false, false] rfl rfl (any_of HT_.out zq6) (fun _ _ _ h => h) (Or.inl ⟨by rfl, ?_⟩) ?_ ?_
      rotate_left
      ·intro w'
       go_simp
       with_reducible rfl
      rotate_left
      ·simp only [Act.put, List.setIfInBounds_toArray, List.set_cons_zero, List.set_cons_succ, i64_w, i32_w]
       rfl
      refine pure_ (i := 1) (N := some 64) (v := ?_) (a' := ?_) #[true, true, false, false, false, false, false, false, false, false, false, false, false, false, false, false] rfl rfl (any_of HT_.out zq6) (fun _ _ _ h => h) (Or.inl ⟨by rfl, ?_⟩) ?_ ?_
      rotate_left
      ·intro w'
       go_simp
       with_reducible rfl
      rotate_left
      ·simp only [Act.put, List.setIfInBounds_toArray, List.set_cons_zero, List.set_cons_succ, i64_w, i32_w]
       rfl
      refine pure_ (i := 2) (N := some 65) (v := ?_) (a' := ?_) #[true, true, true, false, false, false, false, false, false, false, false, false, false, false, false, false] rfl rfl (any_of HT_.out zq6) (fun _ _ _ h => h) (Or.inl ⟨by rfl, ?_⟩) ?_ ?_
      rotate_left
      ·intro w'
       go_simp
       with_reducible rfl
      rotate_left
      ·simp only [Act.put, List.setIfInBounds_toArray, List.set_cons_zero, List.set_cons_succ, i64_w, i32_w]
       rfl
      refine take_ (i := 3) (N := some 66) (v := ?_) (a' := ?_) #[true, true, true, true, false, false, false, false, false, false, false, false, false, false, false, false] rfl rfl (take_ofW HT_.out HW_.out zq6) (fun _ _ _ h => h) (Or.inl ⟨by rfl, ?_⟩) hHeld ?_ ?_
      rotate_left
      ·rintro w' ⟨s0, s1, s2⟩
       go_simp
       with_reducible rfl
      rotate_left
      ·simp only [Act.put, List.setIfInBounds_toArray, List.set_cons_zero, List.set_cons_succ, i64_w, i32_w]
       rfl
      refine pure_ (i := 4) (N := some 67) (v := ?_) (a' := ?_) #[true, true, true, true, true, false, false, false, false, false, false, false, false, false, false, false] rfl rfl (any_of HT_.out zq6) (fun _ _ _ h => h) (Or.inl ⟨by rfl, ?_⟩) ?_ ?_
      rotate_left
      ·intro w'
       go_simp
       with_reducible rfl
      rotate_left
      ·simp only [Act.put, List.setIfInBounds_toArray, List.set_cons_zero, List.set_cons_succ, i64_w, i32_w]
       rfl
      refine pure_ (i := 5) (N := some 68) (v := undef) (a' := ?_) #[true, true, true, true, true, true, false, false, false, false, false, false, false, false, false, false] rfl rfl (any_of HT_.out zq6) (fun _ _ _ h => h) (Or.inr ⟨by rfl, rfl⟩) ?_ ?_
      rotate_left
      ·simp only [Act.put, List.setIfInBounds_toArray, List.set_cons_zero, List.set_cons_succ, i64_w, i32_w]
       rfl
      refine pure_ (i := 6) (N := some 69) (v := undef) (a' := ?_) #[true, true, true, true, true, true, true, false, false, false, false, false, false, false, false, false] rfl rfl (any_of HT_.out zq6) (fun _ _ _ h => h) (Or.inr ⟨by rfl, rfl⟩) ?_ ?_
      rotate_left
      ·simp only [Act.put, List.setIfInBounds_toArray, List.set_cons_zero, List.set_cons_succ, i64_w, i32_w]
       rfl
      refine pure_ (i := 7) (N := some 70) (v := undef) (a' := ?_) #[true, true, true, true, true, true, true, true, false, false, false, false, false, false, false, false] rfl rfl (any_of HT_.out zq6) (fun _ _ _ h => h) (Or.inr ⟨by rfl, rfl⟩) ?_ ?_
      rotate_left
      ·simp only [Act.put, List.setIfInBounds_toArray, List.set_cons_zero, List.set_cons_succ, i64_w, i32_w]
       rfl
      refine pure_ (i := 8) (N := some 71) (v := undef) (a' := ?_) #[true, true, true, true, true, true, true, true, true, false, false, false, false, false, false, false] rfl rfl (any_of HT_.out zq6) (fun _ _ _ h => h) (Or.inr ⟨by rfl, rfl⟩) ?_ ?_
      rotate_left
      ·simp only [Act.put, List.setIfInBounds_toArray, List.set_cons_zero, List.set_cons_succ, i64_w, i32_w]
       rfl
      refine pure_ (i := 9) (N := some 72) (v := undef) (a' := ?_) #[true, true, true, true, true, true, true, true, true, true, false, false, false, false, false, false] rfl rfl (any_of HT_.out zq6) (fun _ _ _ h => h) (Or.inr ⟨by rfl, rfl⟩) ?_ ?_
      rotate_left
      ·simp only [Act.put, List.setIfInBounds_toArray, List.set_cons_zero, List.set_cons_succ, i64_w, i32_w]
       rfl
      refine pure_ (i := 10) (N := some 73) (v := undef) (a' := ?_) #[true, true, true, true, true, true, true, true, true, true, true, false, false, false, false, false] rfl rfl (any_of HT_.out zq6) (fun _ _ _ h => h) (Or.inr ⟨by rfl, rfl⟩) ?_ ?_
      rotate_left
      ·simp only [Act.put, List.setIfInBounds_toArray, List.set_cons_zero, List.set_cons_succ, i64_w, i32_w]
       rfl
      refine pure_ (i := 11) (N := some 74) (v := undef) (a' := ?_) #[true, true, true, true, true, true, true, true, true, true, true, true, false, false, false, false] rfl rfl (any_of HT_.out zq6) (fun _ _ _ h => h) (Or.inr ⟨by rfl, rfl⟩) ?_ ?_
      rotate_left
      ·simp only [Act.put, List.setIfInBounds_toArray, List.set_cons_zero, List.set_cons_succ, i64_w, i32_w]
       rfl
      refine pure_ (i := 12) (N := some 75) (v := undef) (a' := ?_) #[true, true, true, true, true, true, true, true, true, true, true, true, true, false, false, false] rfl rfl (any_of HT_.out zq6) (fun _ _ _ h => h) (Or.inr ⟨by rfl, rfl⟩) ?_ ?_
      rotate_left
      ·simp only [Act.put, List.setIfInBounds_toArray, List.set_cons_zero, List.set_cons_succ, i64_w, i32_w]
       rfl
      refine pure_ (i := 13) (N := some 76) (v := ?_) (a' := ?_) #[true, true, true, true, true, true, true, true, true, true, true, true, true, true, false, false] rfl rfl (any_of HT_.out zq6) (fun _ _ _ h => h) (Or.inl ⟨by rfl, ?_⟩) ?_ ?_
      rotate_left
      ·intro w'
       go_simp
       with_reducible rfl
      rotate_left
      ·simp only [Act.put, List.setIfInBounds_toArray, List.set_cons_zero, List.set_cons_succ, i64_w, i32_w]
       rfl
      refine pure_ (i := 14) (N := some 77) (v := ?_) (a' := ?_) #[true, true, true, true, true, true, true, true, true, true, true, true, true, true, true, false] rfl rfl (any_of HT_.out zq6) (fun _ _ _ h => h) (Or.inl ⟨by rfl, ?_⟩) ?_ ?_
      rotate_left
      ·intro w'
       go_simp
       with_reducible rfl
      rotate_left
      ·simp only [Act.put, List.setIfInBounds_toArray, List.set_cons_zero, List.set_cons_succ, i64_w, i32_w]
       rfl
      refine last_ (i := 15) (N := none) #[true, true, true, true, true, true, true, true, true, true, true, true, true, true, true, true] rfl rfl (one_of HT_.out zq6) zq25 (fun K hK => ?_)
      refine skip_ (w1 := ?_) (by rfl) rfl ?_ ?_
      rotate_left
      ·go_simp
       rfl
      refine hK.out _ _ ?_
      clear hK K
      refine done_ (done_of HT_.out zq6) ?_
      try go_wp2
      (try simp only [← hji51])
      go_roundg k2
      case measure => have := HK1.out; have := HK2.out; omega
      case rel => (try simp only [hji51]); exact ⟨(y117), (wrap64 (x9_2 + 1)), zq15, (by first | exact H' | (simp only [← hji51] at H' ⊢; exact H')), ⟨by have := HK1.out; have := HK2.out; omega⟩, ⟨by (with_reducible repeat (first | apply Kd.R_alloc | apply Kd.R_drewN | apply Kd.R_drew)); exact Kd.R_mono (Kd.R_far (p := ⟨go59, (x9_2 : Int).toNat, none⟩) (Kd.R_mono HO_5.out (fun k_ hk => (⟨hk, fun e_ => hk (by rw [e_]; rfl)⟩ : _ ∧ k_ ≠ go59))) (fun _ hk => hk.2) (.bool true)) (fun _ hk => hk.1)⟩, ⟨by (with_reducible repeat (first | apply Kd.R_alloc | apply Kd.R_drewN | apply Kd.R_drew)); exact HQ63.out⟩, ⟨by (with_reducible repeat (first | refine blk_drewN ?_ _ | refine blk_drew ?_ | refine blk_alloc ?_ _)); refine blk_far ?_ (by have h_ := Kd.R_ne HO_8.out BK107.out zq25; intro e_; exact h_ (by rw [e_]; rfl)) _; (with_reducible repeat (first | refine blk_drewN ?_ _ | refine blk_drew ?_ | refine blk_alloc ?_ _)); exact BK107.out⟩, ⟨by repeat (first | (with_reducible first | exact HB.out | apply below_alloc | apply pw_below_drewN | apply below_drew1 | refine below_set ?_ GB59.out | refine below_set ?_ GE107.out) | exact HB.out)⟩⟩
     rw [if_neg c56] at H
     have c56b0 : ((rd_T97 l1 x18_1).f1) = false := by simpa using c56
     clear c56
     by_cases c64 : (ji51) < (l0.length : Int)
     rotate_left
     ·rw [if_neg c64] at H
      exact absurd H (by simp)
     rw [if_pos c64] at H
     have c64b0 : decide ((ji51) < (l0.length : Int)) = true := decide_eq_true c64
     clear c64
     by_cases c65 : 0 ≤ x9_2
     rotate_left
     ·rw [if_neg c65] at H
      exact absurd H (by simp)
     rw [if_pos c65] at H
     have c65b0 : decide (0 ≤ x9_2) = true := decide_eq_true c65
     clear c65
     by_cases c66 : x9_2 < (x8_2.length : Int)
     rotate_left
     ·rw [if_neg c66] at H
      exact absurd H (by simp)
     rw [if_pos c66] at H
     have c66b0 : decide (x9_2 < (x8_2.length : Int)) = true := decide_eq_true c66
     clear c66
     obtain ⟨y119, hy119⟩ : ∃ y_ : List Bool, y_ = (x8_2.set (x9_2 : Int).toNat (((rd_T97 l1 x18_1).f2) == (rd l0 (ji51)))) := ⟨_, rfl⟩
     replace H : (spec_Fits.l1 k2 l0 x5_1 y119 (wrap64 (x9_2 + 1)) l1 (l1.length : Int) x18_1 ((rd_T97 l1 x18_1).f0) ((rd_T97 l1 x18_1).f1) ((rd_T97 l1 x18_1).f2)) = some r := by first | (rw [hy119]; with_reducible exact H) | (have H2_ := (Option.bind_some _ _).symm.trans H; rw [hy119]; with_reducible exact H2_) | (have H2_ := (Option.bind_some _ _).symm.trans H; with_reducible exact H2_) | with_reducible exact H | (rw [hy119]; exact H) | exact H
     have Ny119 := mk0 hy119
     clear hy119
     have H' := mk0 H
     clear H
     have hcz68_0 : wr.cell? ⟨gb107, 0, none⟩ = some (.bool ((rd_T97 l1 x18_1).f0)) := (blk_cell BK107.out 0).trans rfl
     have hcz68_1 : wr.cell? ⟨gb107, 1, none⟩ = some (.bool ((rd_T97 l1 x18_1).f1)) := (blk_cell BK107.out 1).trans rfl
     have hcz68_2 : wr.cell? ⟨gb107, 2, none⟩ = some (.int .i64 ((rd_T97 l1 x18_1).f2)) := (blk_cell BK107.out 2).trans rfl
     have hfz68_0 := blk_frozen BK107.out 0
     have hfz68_1 := blk_frozen BK107.out 1
     have hfz68_2 := blk_frozen BK107.out 2
     obtain ⟨Ao69, co69, eo69⟩ := Kd.R_slice HO_5.out
     subst eo69
     have p116 : 0 ≤ ((ji51) : Int) := of_decide_eq_true zq2
     have q116 : (ji51) < (x5_1.length : Int) := of_decide_eq_true zq2
     obtain ⟨ad116, e116, hx116_0⟩ := Kd.at_bool (Kd.R_reads' HO_5.out).2.2 (ji51) p116 q116
     (try rw [← Nbq54.out] at hx116_0)
     cases e116
     replace p116 := eq_true p116
     replace q116 := eq_true q116
     try go_wp2
     have n0_ := mk0 (Kd.R_drew HO_5.out)
     have n1_ := mk0 (Kd.R_drew HO_8.out)
     have n2_ := mk0 (blk_drew BK107.out)
     have n3_ := mk0 (below_drew1 HB.out)
     clear HO_5
     clear HO_8
     clear BK107
     clear HB
     have HO_5 := n0_
     have HO_8 := n1_
     have BK107 := n2_
     have HB := n3_
     clear n0_ n1_ n2_ n3_
     have p118 : 0 ≤ ((ji51) : Int) := of_decide_eq_true zq2
     have q118 : (ji51) < (l0.length : Int) := of_decide_eq_true zq2
     obtain ⟨ad118, e118, hx118_0⟩ := Kd.at_int HR0.out (ji51) p118 q118
     have hw118_0 := hx118_0
     cases e118
     replace hx118_0 := (HB.out.cell (World.block_lt_of_cell? w _ hx118_0)).trans hx118_0
     replace p118 := eq_true p118
     replace q118 := eq_true q118
     have p67 : 0 ≤ (x9_2 : Int) := of_decide_eq_true zq2
     have q67 : (x9_2 : Int) < ((x8_2.length : Int) : Int) := of_decide_eq_true zq2
     obtain ⟨go67, co67, eo67, gb67, gl67, cl67, HG67⟩ := Kd.R_form HO_8.out (by omega)
     (first | cases eo67 | (injection eo67 with ea_ en_ ec_; (first | subst ea_ | (injection ea_ with ea_; subst ea_)); subst ec_; clear en_))
     have GB67 := mk0 gb67
     have GG67 := mk0 HG67
     clear gb67 gl67 HG67
     obtain ⟨hx67_0, hf67_0⟩ := Kd.R_celln false HO_8.out (x9_2 : Int) p67 q67
     replace p67 := eq_true p67
     replace q67 := eq_true q67
     have HP71 := Kd.R_putn HO_8.out (x9_2 : Int) (((rd_T97 l1 x18_1).f2) == (rd l0 (ji51)))
     rw [← Ny119.out] at HP71
     have HQ71 := mk0 HP71
     clear HP71
     refine start_ (n := 16) (S := fun w' => w'.cell? ⟨gb107, 0, none⟩ = some (.bool ((rd_T97 l1 x18_1).f0)) ∧ w'.cell? ⟨gb107, 1, none⟩ = some (.bool ((rd_T97 l1 x18_1).f1)) ∧ w'.cell? ⟨gb107, 2, none⟩ = some (.int .i64 ((rd_T97 l1 x18_1).f2)) ∧ w'.cell? (ad118.add ((ji51)).toNat) = some (.int .i64 (rd l0 (ji51)))) (ds := [15]) #[false, false, false, false, false, false, false, false, false, false, false, false, false, false, false, false] zq6 rfl rfl ⟨(blk_cell BK107.out 0).trans rfl, (blk_cell BK107.out 1).trans rfl, (blk_cell BK107.out 2).trans rfl, ((HB.out.cell (World.block_lt_of_cell? w _ hw118_0)).trans hw118_0)⟩ (fun hHeld => ?_); refine with_tabW spec_Fits.tab13 spec_Fits.bits13 (fun HT_ HW_ => ?_)
     generalize wr.drew = w70 at HO_5 HO_8 BK107 HB GG67 HQ71 hf67_0 hx118_0 hx67_0 hHeld ⊢
     refine pure_ (i := 0) (N := some 63) (v := ?_) (a' := ?_) #[true, false, false, false, false, false, false, false, false, false, false, false, false, false, false, false] rfl rfl (any_of HT_.out zq6) (fun _ _ _ h => h) (Or.inl ⟨by rfl, ?_⟩) ?_ ?_
     rotate_left
     ·intro w'
      go_simp
      with_reducible rfl
     rotate_left
     ·simp only [Act.put, List.setIfInBounds_toArray, List.set_cons_zero, List.set_cons_succ, i64_w, i32_w]
      rfl
     refine pure_ (i := 1) (N := some 64) (v := ?_) (a' := ?_) #[true, true, false, false, false, false, false, false, false, false, false, false, false, false, false, false] rfl rfl (any_of HT_.out zq6) (fun _ _ _ h => h) (Or.inl ⟨by rfl, ?_⟩) ?_ ?_
     rotate_left
     ·intro w'
      go_simp
      with_reducible rfl
     rotate_left
     ·simp only [Act.put, List.setIfInBounds_toArray, List.set_cons_zero, List.set_cons_succ, i64_w, i32_w]
      rfl
     refine pure_ (i := 2) (N := some 65) (v := ?_) (a' := ?_) #[true, true, true, false, false, false, false, false, false, false, false, false, false, false, false, false] rfl rfl (any_of HT_.out zq6) (fun _ _ _ h => h) (Or.inl ⟨by rfl, ?_⟩) ?_ ?_
     rotate_left
     ·intro w'
      go_simp
      with_reducible rfl
     rotate_left
     ·simp only [Act.put, List.setIfInBounds_toArray, List.set_cons_zero, List.set_cons_succ, i64_w, i32_w]
      rfl
     refine take_ (i := 3) (N := some 66) (v := ?_) (a' := ?_) #[true, true, true, true, false, false, false, false, false, false, false, false, false, false, false, false] rfl rfl (take_ofW HT_.out HW_.out zq6) (fun _ _ _ h => h) (Or.inl ⟨by rfl, ?_⟩) hHeld ?_ ?_
     rotate_left
     ·rintro w' ⟨s0, s1, s2, s3⟩
      go_simp
      with_reducible rfl
     rotate_left
     ·simp only [Act.put, List.setIfInBounds_toArray, List.set_cons_zero, List.set_cons_succ, i64_w, i32_w]
      rfl
     refine pure_ (i := 4) (N := some 67) (v := ?_) (a' := ?_) #[true, true, true, true, true, false, false, false, false, false, false, false, false, false, false, false] rfl rfl (any_of HT_.out zq6) (fun _ _ _ h => h) (Or.inl ⟨by rfl, ?_⟩) ?_ ?_
     rotate_left
     ·intro w'
      go_simp
      with_reducible rfl
     rotate_left
     ·simp only [Act.put, List.setIfInBounds_toArray, List.set_cons_zero, List.set_cons_succ, i64_w, i32_w]
      rfl
     refine pure_ (i := 5) (N := some 68) (v := ?_) (a' := ?_) #[true, true, true, true, true, true, false, false, false, false, false, false, false, false, false, false] rfl rfl (any_of HT_.out zq6) (fun _ _ _ h => h) (Or.inl ⟨by rfl, ?_⟩) ?_ ?_
     rotate_left
     ·intro w'
      go_simp
      with_reducible rfl
     rotate_left
     ·simp only [Act.put, List.setIfInBounds_toArray, List.set_cons_zero, List.set_cons_succ, i64_w, i32_w]
      rfl
     refine pure_ (i := 7) (N := some 70) (v := ?_) (a' := ?_) #[true, true, true, true, true, true, false, true, false, false, false, false, false, false, false, false] rfl rfl (any_of HT_.out zq6) (fun _ _ _ h => h) (Or.inl ⟨by rfl, ?_⟩) ?_ ?_
     rotate_left
     ·intro w'
      go_simp
      with_reducible rfl
     rotate_left
     ·simp only [Act.put, List.setIfInBounds_toArray, List.set_cons_zero, List.set_cons_succ, i64_w, i32_w]
      rfl
     refine pure_ (i := 8) (N := some 71) (v := ?_) (a' := ?_) #[true, true, true, true, true, true, false, true, true, false, false, false, false, false, false, false] rfl rfl (any_of HT_.out zq6) (fun _ _ _ h => h) (Or.inl ⟨by rfl, ?_⟩) ?_ ?_
     rotate_left
     ·intro w'
      go_simp
      with_reducible rfl
     rotate_left
     ·simp only [Act.put, List.setIfInBounds_toArray, List.set_cons_zero, List.set_cons_succ, i64_w, i32_w]
      rfl
     refine pure_ (i := 9) (N := some 72) (v := ?_) (a' := ?_) #[true, true, true, true, true, true, false, true, true, true, false, false, false, false, false, false] rfl rfl (any_of HT_.out zq6) (fun _ _ _ h => h) (Or.inl ⟨by rfl, ?_⟩) ?_ ?_
     rotate_left
     ·intro w'
      go_simp
      with_reducible rfl
     rotate_left
     ·simp only [Act.put, List.setIfInBounds_toArray, List.set_cons_zero, List.set_cons_succ, i64_w, i32_w]
      rfl
     refine pure_ (i := 10) (N := some 73) (v := ?_) (a' := ?_) #[true, true, true, true, true, true, false, true, true, true, true, false, false, false, false, false] rfl rfl (any_of HT_.out zq6) (fun _ _ _ h => h) (Or.inl ⟨by rfl, ?_⟩) ?_ ?_
     rotate_left
     ·intro w'
      go_simp
      with_reducible rfl
     rotate_left
     ·simp only [Act.put, List.setIfInBounds_toArray, List.set_cons_zero, List.set_cons_succ, i64_w, i32_w]
      rfl
     refine take_ (i := 6) (N := some 69) (v := ?_) (a' := ?_) #[true, true, true, true, true, true, true, true, true, true, true, false, false, false, false, false] rfl rfl (take_ofW HT_.out HW_.out zq6) (fun _ _ _ h => h) (Or.inl ⟨by rfl, ?_⟩) hHeld ?_ ?_
     rotate_left
     ·rintro w' ⟨s0, s1, s2, s3⟩
      go_simp
      with_reducible rfl
     rotate_left
     ·simp only [Act.put, List.setIfInBounds_toArray, List.set_cons_zero, List.set_cons_succ, i64_w, i32_w]
      rfl
     refine take_ (i := 11) (N := some 74) (v := ?_) (a' := ?_) #[true, true, true, true, true, true, true, true, true, true, true, true, false, false, false, false] rfl rfl (take_ofW HT_.out HW_.out zq6) (fun _ _ _ h => h) (Or.inl ⟨by rfl, ?_⟩) hHeld ?_ ?_
     rotate_left
     ·rintro w' ⟨s0, s1, s2, s3⟩
      go_simp
      with_reducible rfl
     rotate_left
     ·simp only [Act.put, List.setIfInBounds_toArray, List.set_cons_zero, List.set_cons_succ, i64_w, i32_w]
      rfl
     refine pure_ (i := 12) (N := some 75) (v := ?_) (a' := ?_) #[true, true, true, true, true, true, true, true, true, true, true, true, true, false, false, false] rfl rfl (any_of HT_.out zq6) (fun _ _ _ h => h) (Or.inl ⟨by rfl, ?_⟩) ?_ ?_
     rotate_left
     ·intro w'
      go_simp
      with_reducible rfl
     rotate_left
     ·simp only [Act.put, List.setIfInBounds_toArray, List.set_cons_zero, List.set_cons_succ, i64_w, i32_w]
      rfl
     refine pure_ (i := 13) (N := some 76) (v := ?_) (a' := ?_) #[true, true, true, true, true, true, true, true, true, true, true, true, true, true, false, false] rfl rfl (any_of HT_.out zq6) (fun _ _ _ h => h) (Or.inl ⟨by rfl, ?_⟩) ?_ ?_
     rotate_left
     ·intro w'
      go_simp
      with_reducible rfl
     rotate_left
     ·simp only [Act.put, List.setIfInBounds_toArray, List.set_cons_zero, List.set_cons_succ, i64_w, i32_w]
      rfl
     refine pure_ (i := 14) (N := some 77) (v := ?_) (a' := ?_) #[true, true, true, true, true, true, true, true, true, true, true, true, true, true, true, false] rfl rfl (any_of HT_.out zq6) (fun _ _ _ h => h) (Or.inl ⟨by rfl, ?_⟩) ?_ ?_
     rotate_left
     ·intro w'
      go_simp
      with_reducible rfl
     rotate_left
     ·simp only [Act.put, List.setIfInBounds_toArray, List.set_cons_zero, List.set_cons_succ, i64_w, i32_w]
      rfl
     refine last_ (i := 15) (N := none) #[true, true, true, true, true, true, true, true, true, true, true, true, true, true, true, true] rfl rfl (one_of HT_.out zq6) zq25 (fun K hK => ?_)
     refine skip_ (w1 := ?_) (by rfl) rfl ?_ ?_
     rotate_left
     ·go_simp
      rfl
     refine hK.out _ _ ?_
     clear hK K
     refine done_ (done_of HT_.out zq6) ?_
     try go_wp2
     (try simp only [← hji51])
     go_roundg k2
     case measure => have := HK1.out; have := HK2.out; omega
     case rel => (try simp only [hji51]); exact ⟨(y119), (wrap64 (x9_2 + 1)), zq15, (by first | exact H' | (simp only [← hji51] at H' ⊢; exact H')), ⟨by have := HK1.out; have := HK2.out; omega⟩, ⟨by (with_reducible repeat (first | apply Kd.R_alloc | apply Kd.R_drewN | apply Kd.R_drew)); exact Kd.R_mono (Kd.R_far (p := ⟨go67, (x9_2 : Int).toNat, none⟩) (Kd.R_mono HO_5.out (fun k_ hk => (⟨hk, fun e_ => hk (by rw [e_]; rfl)⟩ : _ ∧ k_ ≠ go67))) (fun _ hk => hk.2) (.bool (((rd_T97 l1 x18_1).f2) == (rd l0 (ji51))))) (fun _ hk => hk.1)⟩, ⟨by (with_reducible repeat (first | apply Kd.R_alloc | apply Kd.R_drewN | apply Kd.R_drew)); exact HQ71.out⟩, ⟨by (with_reducible repeat (first | refine blk_drewN ?_ _ | refine blk_drew ?_ | refine blk_alloc ?_ _)); refine blk_far ?_ (by have h_ := Kd.R_ne HO_8.out BK107.out zq25; intro e_; exact h_ (by rw [e_]; rfl)) _; (with_reducible repeat (first | refine blk_drewN ?_ _ | refine blk_drew ?_ | refine blk_alloc ?_ _)); exact BK107.out⟩, ⟨by repeat (first | (with_reducible first | exact HB.out | apply below_alloc | apply pw_below_drewN | apply below_drew1 | refine below_set ?_ GB67.out | refine below_set ?_ GE107.out) | exact HB.out)⟩⟩
def spec_Matches.f (k : Nat) (a0 : ByteArray) (a1 : ByteArray) : Option (Bool × Bool) := (spec_Characters.f k a0).bind fun bt101 => ((spec_Globs.f k a1).bind fun bt105 => (if bt101.2 = true then (if bt105.2 = true then ((spec_Fits.f k bt101.1 bt105.1).bind fun t109 => (some (t109, true))) else (some (false, false))) else (some (false, false))))
theorem spec_Matches.mono : ∀ a0 a1 k, LeO (spec_Matches.f k a0 a1) (spec_Matches.f (k + 1) a0 a1) := by
 intro a0 a1 k
 unfold spec_Matches.f
 repeat' first
  | (with_reducible exact spec_Characters.mono _ _)
  | (with_reducible exact spec_Fits.mono _ _ _)
  | (with_reducible exact spec_Globs.mono _ _)
  | (with_reducible exact LeO.refl _)
  | (with_reducible exact LeO.none _)
  | (with_reducible refine LeO.ite ?_ ?_)
  | (with_reducible refine LeO.bind ?_ (fun _ => ?_))
  | exact spec_Characters.mono _ _
  | exact spec_Fits.mono _ _ _
  | exact spec_Globs.mono _ _
  | exact LeO.none _
  | refine LeO.ite ?_ ?_
  | refine LeO.bind ?_ (fun _ => ?_)
set_option maxHeartbeats 8000000 in
set_option maxRecDepth 100000 in
theorem spec_Matches.calls (k : Nat) (a0 : ByteArray) (a1 : ByteArray) (r1 : Bool) (r2 : Bool) (w : World) (h : spec_Matches.f k a0 a1 = some (r1, r2)) :
 Calls Tryd.prog 22 #[.string a0, .string a1] w fun e w' => e = .returned (.tuple #[.bool r1, .bool r2]) ∧ Below w.heap.size w w' := by
 have HB := mk0 (Below.refl w.heap.size w)
 have H : ((spec_Characters.f k a0).bind fun bt101 => ((spec_Globs.f k a1).bind fun bt105 => (if bt101.2 = true then (if bt105.2 = true then ((spec_Fits.f k bt101.1 bt105.1).bind fun t109 => (some (t109, true))) else (some (false, false))) else (some (false, false))))) = some (r1, r2) := h
 clear h
 replace H := Option.bind_eq_some_iff.mp H
 obtain ⟨⟨t101, t102⟩, A30, H⟩ := H
 replace H : ((spec_Globs.f k a1).bind fun bt105 => (if t102 = true then (if bt105.2 = true then ((spec_Fits.f k t101 bt105.1).bind fun t109 => (some (t109, true))) else (some (false, false))) else (some (false, false)))) = some (r1, r2) := H
 have A3 := mk0 A30
 clear A30
 replace H := Option.bind_eq_some_iff.mp H
 obtain ⟨⟨t105, t106⟩, A40, H⟩ := H
 replace H : (if t102 = true then (if t106 = true then ((spec_Fits.f k t101 t105).bind fun t109 => (some (t109, true))) else (some (false, false))) else (some (false, false))) = some (r1, r2) := H
 have A4 := mk0 A40
 clear A40
 by_cases c5 : t102 = true
 rotate_left
 ·replace c5 := Bool.eq_false_iff.mpr c5
  subst c5
  have H1 : (some (false, false)) = some (r1, r2) := by rw [if_neg (show ¬ (false = true) by decide)] at H; exact H
  clear H
  have H := H1
  clear H1
  simp only [Option.some.injEq, Prod.mk.injEq] at H
  obtain ⟨rfl, rfl⟩ := H
  go_enter Tryd.func22, Tryd.ntmps22
  go_wp2_with (first | ((with_reducible refine gate_callee (f := 23) rfl ?_); refine goesL_ (some 12) rfl rfl Tryd.func23 zq6 rfl #[.string a0] rfl zq1 ?_; (with_reducible refine (spec_Characters.calls k a0 t101 false _ A3.out).mono ?_); rintro e w15 ⟨v103, rfl, ho0, hb⟩; refine ⟨_, rfl, ?_⟩; have n0_ := mk0 (Kd.R_lower ho0 (below_size zq0)); have n1_ := mk0 (below_step zq0 hb); clear HB; have HO104 := n0_; have HB := n1_; clear n0_ n1_; (try clear hb); (try clear hb2); (try clear hk); (try clear hi); (try clear ho0)) | ((with_reducible refine gate_callee (f := 37) rfl ?_); refine goesL_ (some 17) rfl rfl Tryd.func37 zq6 rfl #[.string a1] rfl zq1 ?_; (with_reducible refine (spec_Globs.calls k a1 t105 t106 _ A4.out).mono ?_); rintro e w16 ⟨v107, rfl, ho0, hb⟩; refine ⟨_, rfl, ?_⟩; have n0_ := mk0 (Kd.R_below zq13 hb); have n1_ := mk0 (Kd.R_lower ho0 (below_size zq0)); have n2_ := mk0 (below_step zq0 hb); clear HO104 HB; have HO104 := n0_; have HO108 := n1_; have HB := n2_; clear n0_ n1_ n2_; (try clear hb); (try clear hb2); (try clear hk); (try clear hi); (try clear ho0)))
  go_ret2
  exact ⟨by first | rfl | (simp [errW_none, errW_some] <;> rfl) | (simp [*, errW_none, errW_some] <;> rfl), by repeat (first | (with_reducible first | exact HB.out | apply below_alloc | apply pw_below_drewN | apply below_drew1) | exact HB.out)⟩
 subst c5
 have H1 : (if t106 = true then ((spec_Fits.f k t101 t105).bind fun t109 => (some (t109, true))) else (some (false, false))) = some (r1, r2) := by rw [if_pos rfl] at H; exact H
 clear H
 have H := H1
 clear H1
 by_cases c6 : t106 = true
 rotate_left
 ·replace c6 := Bool.eq_false_iff.mpr c6
  subst c6
  have H1 : (some (false, false)) = some (r1, r2) := by rw [if_neg (show ¬ (false = true) by decide)] at H; exact H
  clear H
  have H := H1
  clear H1
  simp only [Option.some.injEq, Prod.mk.injEq] at H
  obtain ⟨rfl, rfl⟩ := H
  go_enter Tryd.func22, Tryd.ntmps22
  go_wp2_with (first | ((with_reducible refine gate_callee (f := 23) rfl ?_); refine goesL_ (some 12) rfl rfl Tryd.func23 zq6 rfl #[.string a0] rfl zq1 ?_; (with_reducible refine (spec_Characters.calls k a0 t101 true _ A3.out).mono ?_); rintro e w13 ⟨v103, rfl, ho0, hb⟩; refine ⟨_, rfl, ?_⟩; have n0_ := mk0 (Kd.R_lower ho0 (below_size zq0)); have n1_ := mk0 (below_step zq0 hb); clear HB; have HO104 := n0_; have HB := n1_; clear n0_ n1_; (try clear hb); (try clear hb2); (try clear hk); (try clear hi); (try clear ho0)) | ((with_reducible refine gate_callee (f := 37) rfl ?_); refine goesL_ (some 17) rfl rfl Tryd.func37 zq6 rfl #[.string a1] rfl zq1 ?_; (with_reducible refine (spec_Globs.calls k a1 t105 false _ A4.out).mono ?_); rintro e w14 ⟨v107, rfl, ho0, hb⟩; refine ⟨_, rfl, ?_⟩; have n0_ := mk0 (Kd.R_below zq13 hb); have n1_ := mk0 (Kd.R_lower ho0 (below_size zq0)); have n2_ := mk0 (below_step zq0 hb); clear HO104 HB; have HO104 := n0_; have HO108 := n1_; have HB := n2_; clear n0_ n1_ n2_; (try clear hb); (try clear hb2); (try clear hk); (try clear hi); (try clear ho0)))
  go_ret2
  exact ⟨by first | rfl | (simp [errW_none, errW_some] <;> rfl) | (simp [*, errW_none, errW_some] <;> rfl), by repeat (first | (with_reducible first | exact HB.out | apply below_alloc | apply pw_below_drewN | apply below_drew1) | exact HB.out)⟩
 subst c6
 have H1 : ((spec_Fits.f k t101 t105).bind fun t109 => (some (t109, true))) = some (r1, r2) := by rw [if_pos rfl] at H; exact H
 clear H
 have H := H1
 clear H1
 replace H := Option.bind_eq_some_iff.mp H
 obtain ⟨t109, A70, H⟩ := H
 replace H : (some (t109, true)) = some (r1, r2) := H
 have A7 := mk0 A70
 clear A70
 simp only [Option.some.injEq, Prod.mk.injEq] at H
 obtain ⟨rfl, rfl⟩ := H
 go_enter Tryd.func22, Tryd.ntmps22
 go_wp2_with (first | ((with_reducible refine gate_callee (f := 23) rfl ?_); refine goesL_ (some 12) rfl rfl Tryd.func23 zq6 rfl #[.string a0] rfl zq1 ?_; (with_reducible refine (spec_Characters.calls k a0 t101 true _ A3.out).mono ?_); rintro e w8 ⟨v103, rfl, ho0, hb⟩; refine ⟨_, rfl, ?_⟩; have n0_ := mk0 (Kd.R_lower ho0 (below_size zq0)); have n1_ := mk0 (below_step zq0 hb); clear HB; have HO104 := n0_; have HB := n1_; clear n0_ n1_; (try clear hb); (try clear hb2); (try clear hk); (try clear hi); (try clear ho0)) | ((with_reducible refine gate_callee (f := 37) rfl ?_); refine goesL_ (some 17) rfl rfl Tryd.func37 zq6 rfl #[.string a1] rfl zq1 ?_; (with_reducible refine (spec_Globs.calls k a1 t105 true _ A4.out).mono ?_); rintro e w9 ⟨v107, rfl, ho0, hb⟩; refine ⟨_, rfl, ?_⟩; have n0_ := mk0 (Kd.R_below zq13 hb); have n1_ := mk0 (Kd.R_lower ho0 (below_size zq0)); have n2_ := mk0 (below_step zq0 hb); clear HO104 HB; have HO104 := n0_; have HO108 := n1_; have HB := n2_; clear n0_ n1_ n2_; (try clear hb); (try clear hb2); (try clear hk); (try clear hi); (try clear ho0); obtain ⟨Ao10, co10, eo10⟩ := Kd.R_slice HO104.out; subst eo10; obtain ⟨Ao11, co11, eo11⟩ := Kd.R_slice HO108.out; subst eo11) | ((with_reducible refine gate_callee (f := 38) rfl ?_); refine goesL_ (some 28) rfl rfl Tryd.func38 zq6 rfl #[.slice Ao10 t101.length co10, .slice Ao11 t105.length co11] rfl zq1 ?_; (with_reducible refine (spec_Fits.calls k _ _ t101 _ _ t105 t109 _ ?side1 ?side2 ?side3 ?side4 A7.out).mono ?_); (case side1 => repeat (first | exact (Kd.R_reads' HO104.out).2.2 | (with_reducible refine Kd.C_alloc ?_ _) | (with_reducible refine Kd.C_drewN ?_ _) | (with_reducible refine Kd.C_drew ?_))); (case side2 => exact (Kd.R_reads' HO104.out).2.1); (case side3 => repeat (first | exact (Kd.R_reads' HO108.out).2.2 | (with_reducible refine Kd.C_alloc ?_ _) | (with_reducible refine Kd.C_drewN ?_ _) | (with_reducible refine Kd.C_drew ?_))); (case side4 => exact (Kd.R_reads' HO108.out).2.1); rintro e w12 ⟨rfl, hb⟩; refine ⟨_, rfl, ?_⟩; have n0_ := mk0 (Kd.R_below zq13 hb); have n1_ := mk0 (Kd.R_below (by (with_reducible repeat (first | apply Kd.R_alloc | apply Kd.R_drewN | apply Kd.R_drew)); exact HO108.out) hb); have n2_ := mk0 (below_step zq0 hb); clear HO104 HO108 HB; have HO104 := n0_; have HO108 := n1_; have HB := n2_; clear n0_ n1_ n2_; (try clear hb); (try clear hb2); (try clear hk); (try clear hi)))
 go_ret2
 exact ⟨by first | rfl | (simp [errW_none, errW_some] <;> rfl) | (simp [*, errW_none, errW_some] <;> rfl), by repeat (first | (with_reducible first | exact HB.out | apply below_alloc | apply pw_below_drewN | apply below_drew1) | exact HB.out)⟩
def laws_mtTold.f (k : Nat) (a0 : ByteArray) (a1 : ByteArray) : Option (Bool × Bool) := if (a0.size : Int) > 4096 then (some (false, false)) else (if (a1.size : Int) > 4096 then (some (false, false)) else ((spec_Matches.f k a0 a1).bind fun bt101 => (some (bt101.1, bt101.2))))
theorem laws_mtTold.mono : ∀ a0 a1 k, LeO (laws_mtTold.f k a0 a1) (laws_mtTold.f (k + 1) a0 a1) := by
 intro a0 a1 k
 unfold laws_mtTold.f
 repeat' first
  | (with_reducible exact spec_Matches.mono _ _ _)
  | (with_reducible exact LeO.refl _)
  | (with_reducible exact LeO.none _)
  | (with_reducible refine LeO.ite ?_ ?_)
  | (with_reducible refine LeO.bind ?_ (fun _ => ?_))
  | exact spec_Matches.mono _ _ _
  | exact LeO.none _
  | refine LeO.ite ?_ ?_
  | refine LeO.bind ?_ (fun _ => ?_)
set_option maxHeartbeats 8000000 in
set_option maxRecDepth 100000 in
theorem laws_mtTold.calls (k : Nat) (a0 : ByteArray) (a1 : ByteArray) (r1 : Bool) (r2 : Bool) (w : World) (h : laws_mtTold.f k a0 a1 = some (r1, r2)) :
 Calls Tryd.prog 8 #[.string a0, .string a1] w fun e w' => e = .returned (.tuple #[.bool r1, .bool r2]) ∧ Below w.heap.size w w' := by
 have HB := mk0 (Below.refl w.heap.size w)
 have H : (if (a0.size : Int) > 4096 then (some (false, false)) else (if (a1.size : Int) > 4096 then (some (false, false)) else ((spec_Matches.f k a0 a1).bind fun bt101 => (some (bt101.1, bt101.2))))) = some (r1, r2) := h
 clear h
 by_cases c3 : (a0.size : Int) > 4096
 ·rw [if_pos c3] at H
  have c3b0 : decide (4096 < (a0.size : Int)) = true := decide_eq_true c3
  have c3b1 : decide (4096 < a0.size) = true := decide_eq_true (by omega)
  clear c3
  simp only [Option.some.injEq, Prod.mk.injEq] at H
  obtain ⟨rfl, rfl⟩ := H
  go_enter Tryd.func8, Tryd.ntmps8
  go_wp2
  go_ret2
  exact ⟨by first | rfl | (simp [errW_none, errW_some] <;> rfl) | (simp [*, errW_none, errW_some] <;> rfl), by repeat (first | (with_reducible first | exact HB.out | apply below_alloc | apply pw_below_drewN | apply below_drew1) | exact HB.out)⟩
 rw [if_neg c3] at H
 have c3b0 : decide (4096 < (a0.size : Int)) = false := decide_eq_false c3
 have c3b1 : decide (4096 < a0.size) = false := decide_eq_false (by omega)
 clear c3
 by_cases c4 : (a1.size : Int) > 4096
 ·rw [if_pos c4] at H
  have c4b0 : decide (4096 < (a1.size : Int)) = true := decide_eq_true c4
  have c4b1 : decide (4096 < a1.size) = true := decide_eq_true (by omega)
  clear c4
  simp only [Option.some.injEq, Prod.mk.injEq] at H
  obtain ⟨rfl, rfl⟩ := H
  go_enter Tryd.func8, Tryd.ntmps8
  go_wp2
  go_ret2
  exact ⟨by first | rfl | (simp [errW_none, errW_some] <;> rfl) | (simp [*, errW_none, errW_some] <;> rfl), by repeat (first | (with_reducible first | exact HB.out | apply below_alloc | apply pw_below_drewN | apply below_drew1) | exact HB.out)⟩
 rw [if_neg c4] at H
 have c4b0 : decide (4096 < (a1.size : Int)) = false := decide_eq_false c4
 have c4b1 : decide (4096 < a1.size) = false := decide_eq_false (by omega)
 clear c4
 replace H := Option.bind_eq_some_iff.mp H
 obtain ⟨⟨t101, t102⟩, A50, H⟩ := H
 replace H : (some (t101, t102)) = some (r1, r2) := H
 have A5 := mk0 A50
 clear A50
 simp only [Option.some.injEq, Prod.mk.injEq] at H
 obtain ⟨rfl, rfl⟩ := H
 go_enter Tryd.func8, Tryd.ntmps8
 go_wp2_with (first | ((with_reducible refine gate_callee (f := 22) rfl ?_); refine goesL_ (some 16) rfl rfl Tryd.func22 zq6 rfl #[.string a0, .string a1] rfl zq1 ?_; (with_reducible refine (spec_Matches.calls k a0 a1 t101 t102 _ A5.out).mono ?_); rintro e w6 ⟨rfl, hb⟩; refine ⟨_, rfl, ?_⟩; have n0_ := mk0 (below_step zq0 hb); clear HB; have HB := n0_; clear n0_; (try clear hb); (try clear hb2); (try clear hk); (try clear hi)))
 go_ret2
 exact ⟨by first | rfl | (simp [errW_none, errW_some] <;> rfl) | (simp [*, errW_none, errW_some] <;> rfl), by repeat (first | (with_reducible first | exact HB.out | apply below_alloc | apply pw_below_drewN | apply below_drew1) | exact HB.out)⟩
def laws_mtOdd.l0 : Nat → Bool → List Int → Int → Int → Option (Bool)
  | 0, _, _, _, _ => none
  | k + 1, x4, x12, x13, x14 => if x14 < x13 then (if 0 ≤ x14 then (if x14 < (x12.length : Int) then (if (rd x12 x14) = 92 then (some true) else (if (rd x12 x14) = 65533 then (some true) else (if (rd x12 x14) = 1114111 then (some true) else (laws_mtOdd.l0 k x4 x12 x13 (wrap64 (x14 + 1)))))) else (none)) else (none)) else (some (!x4))
def laws_mtOdd.f (k : Nat) (a0 : ByteArray) : Option (Bool) := (spec_Characters.f k a0).bind fun bt101 => (laws_mtOdd.l0 k bt101.2 bt101.1 (bt101.1.length : Int) 0)
theorem laws_mtOdd.mono_l : ∀ k, (∀ y0 y1 y2 y3, LeO (laws_mtOdd.l0 k y0 y1 y2 y3) (laws_mtOdd.l0 (k + 1) y0 y1 y2 y3))
 | 0 => fun _ _ _ _ r h => by simp [laws_mtOdd.l0] at h
 | k + 1 => by
  have ih0 := laws_mtOdd.mono_l k
  ·intro y0 y1 y2 y3
   unfold laws_mtOdd.l0
   repeat' first
   | (with_reducible exact ih0 _ _ _ _)
   | (with_reducible exact spec_Characters.mono _ _)
   | (with_reducible exact LeO.refl _)
   | (with_reducible exact LeO.none _)
   | (with_reducible refine LeO.ite ?_ ?_)
   | (with_reducible refine LeO.bind ?_ (fun _ => ?_))
   | exact ih0 _ _ _ _
   | exact spec_Characters.mono _ _
   | exact LeO.none _
   | refine LeO.ite ?_ ?_
   | refine LeO.bind ?_ (fun _ => ?_)
theorem laws_mtOdd.mono : ∀ a0 k, LeO (laws_mtOdd.f k a0) (laws_mtOdd.f (k + 1) a0) := by
 intro a0 k
 have ih0 := laws_mtOdd.mono_l k
 unfold laws_mtOdd.f
 repeat' first
  | (with_reducible exact ih0 _ _ _ _)
  | (with_reducible exact spec_Characters.mono _ _)
  | (with_reducible exact LeO.refl _)
  | (with_reducible exact LeO.none _)
  | (with_reducible refine LeO.ite ?_ ?_)
  | (with_reducible refine LeO.bind ?_ (fun _ => ?_))
  | exact ih0 _ _ _ _
  | exact spec_Characters.mono _ _
  | exact LeO.none _
  | refine LeO.ite ?_ ?_
  | refine LeO.bind ?_ (fun _ => ?_)
set_option maxHeartbeats 8000000 in
set_option maxRecDepth 100000 in
theorem laws_mtOdd.calls (k : Nat) (a0 : ByteArray) (r : Bool) (w : World) (h : laws_mtOdd.f k a0 = some r) :
 Calls Tryd.prog 9 #[.string a0] w fun e w' => e = .returned (.bool r) ∧ Below w.heap.size w w' := by
 have HB := mk0 (Below.refl w.heap.size w)
 have H : ((spec_Characters.f k a0).bind fun bt101 => (laws_mtOdd.l0 k bt101.2 bt101.1 (bt101.1.length : Int) 0)) = some r := h
 clear h
 replace H := Option.bind_eq_some_iff.mp H
 obtain ⟨⟨t101, t102⟩, A20, H⟩ := H
 replace H : (laws_mtOdd.l0 k t102 t101 (t101.length : Int) 0) = some r := H
 have A2 := mk0 A20
 clear A20
 have H' := mk0 H
 clear H
 go_enter Tryd.func9, Tryd.ntmps9
 go_wp2_with (first | ((with_reducible refine gate_callee (f := 23) rfl ?_); refine goesL_ (some 9) rfl rfl Tryd.func23 zq6 rfl #[.string a0] rfl zq1 ?_; (with_reducible refine (spec_Characters.calls k a0 t101 t102 _ A2.out).mono ?_); rintro e w3 ⟨v103, rfl, ho0, hb⟩; refine ⟨_, rfl, ?_⟩; have n0_ := mk0 (Kd.R_lower ho0 (below_size zq0)); have n1_ := mk0 (below_step zq0 hb); clear HB; have HO104 := n0_; have HB := n1_; clear n0_ n1_; (try clear hb); (try clear hb2); (try clear hk); (try clear hi); (try clear ho0); obtain ⟨Ao4, co4, eo4⟩ := Kd.R_slice HO104.out; subst eo4))
 (try simp only [Act.put, List.setIfInBounds_toArray, List.set_cons_zero, List.set_cons_succ])
 go_loopg [14] k (fun kq v14 w' => ∃ (x14_1 : Int), v14 = .int .i64 x14_1 ∧ Aside0 (laws_mtOdd.l0 kq t102 t101 (t101.length : Int) x14_1 = some r) ∧ Aside0 (kq ≤ k) ∧ Aside0 (Kd.R (Kd.int .i64) 3 w' w.heap.size (fun _ => True) (.slice Ao4 t101.length co4) t101) ∧ Aside0 (Below w.heap.size w w'))
 case atStart => exact ⟨(0), zq4, H', ⟨Nat.le_refl _⟩, ⟨by (with_reducible repeat (first | apply Kd.R_alloc | apply Kd.R_drewN | apply Kd.R_drew)); exact HO104.out⟩, ⟨by repeat (first | (with_reducible first | exact HB.out | apply below_alloc | apply pw_below_drewN | apply below_drew1) | exact HB.out)⟩⟩
 case round =>
  clear H'
  try clear c2
  try clear p2
  obtain ⟨x14_1, rfl, HA, HK1, HO_12, HB⟩ := hrel
  cases gk with
  | zero => exact absurd HA.out (by simp [laws_mtOdd.l0])
  | succ k1 =>
   have H := HA.out
   clear HA
   simp only [laws_mtOdd.l0] at H
   by_cases c5 : x14_1 < (t101.length : Int)
   rotate_left
   ·rw [if_neg c5] at H
    have c5b0 : decide (x14_1 < (t101.length : Int)) = false := decide_eq_false c5
    clear c5
    obtain rfl := Option.some.inj H
    go_wp2
    go_ret
    exact ⟨by first | rfl | (simp [errW_none, errW_some] <;> rfl) | (simp [*, errW_none, errW_some] <;> rfl), by repeat (first | (with_reducible first | exact HB.out | apply below_alloc | apply pw_below_drewN | apply below_drew1) | exact HB.out)⟩
   rw [if_pos c5] at H
   have c5b0 : decide (x14_1 < (t101.length : Int)) = true := decide_eq_true c5
   clear c5
   by_cases c6 : 0 ≤ x14_1
   rotate_left
   ·rw [if_neg c6] at H
    exact absurd H (by simp)
   rw [if_pos c6] at H
   have c6b0 : decide (0 ≤ x14_1) = true := decide_eq_true c6
   clear c6
   by_cases c7 : x14_1 < (t101.length : Int)
   rotate_left
   ·rw [if_neg c7] at H
    exact absurd H (by simp)
   rw [if_pos c7] at H
   have c7b0 : decide (x14_1 < (t101.length : Int)) = true := decide_eq_true c7
   clear c7
   by_cases c8 : (rd t101 x14_1) = 92
   ·rw [if_pos c8] at H
    have c8b0 : ((rd t101 x14_1) == 92) = true := beq_iff_eq.mpr c8
    have c8b1 : ((rd t101 x14_1) != 92) = false := bne_eq_false_iff_eq.mpr c8
    clear c8
    obtain rfl := Option.some.inj H
    have p105 : 0 ≤ (x14_1 : Int) := of_decide_eq_true zq2
    have q105 : x14_1 < (t101.length : Int) := of_decide_eq_true zq2
    obtain ⟨ad105, e105, hx105_0⟩ := Kd.at_int (Kd.R_reads' HO_12.out).2.2 x14_1 p105 q105
    cases e105
    replace p105 := eq_true p105
    replace q105 := eq_true q105
    go_wp2
    go_ret
    exact ⟨by first | rfl | (simp [errW_none, errW_some] <;> rfl) | (simp [*, errW_none, errW_some] <;> rfl), by repeat (first | (with_reducible first | exact HB.out | apply below_alloc | apply pw_below_drewN | apply below_drew1) | exact HB.out)⟩
   rw [if_neg c8] at H
   have c8b0 : ((rd t101 x14_1) == 92) = false := beq_eq_false_iff_ne.mpr c8
   have c8b1 : ((rd t101 x14_1) != 92) = true := bne_iff_ne.mpr c8
   by_cases c9 : (rd t101 x14_1) = 65533
   ·rw [if_pos c9] at H
    have c9b0 : ((rd t101 x14_1) == 65533) = true := beq_iff_eq.mpr c9
    have c9b1 : ((rd t101 x14_1) != 65533) = false := bne_eq_false_iff_eq.mpr c9
    clear c9
    obtain rfl := Option.some.inj H
    have p105 : 0 ≤ (x14_1 : Int) := of_decide_eq_true zq2
    have q105 : x14_1 < (t101.length : Int) := of_decide_eq_true zq2
    obtain ⟨ad105, e105, hx105_0⟩ := Kd.at_int (Kd.R_reads' HO_12.out).2.2 x14_1 p105 q105
    cases e105
    replace p105 := eq_true p105
    replace q105 := eq_true q105
    go_wp2
    go_ret
    exact ⟨by first | rfl | (simp [errW_none, errW_some] <;> rfl) | (simp [*, errW_none, errW_some] <;> rfl), by repeat (first | (with_reducible first | exact HB.out | apply below_alloc | apply pw_below_drewN | apply below_drew1) | exact HB.out)⟩
   rw [if_neg c9] at H
   have c9b0 : ((rd t101 x14_1) == 65533) = false := beq_eq_false_iff_ne.mpr c9
   have c9b1 : ((rd t101 x14_1) != 65533) = true := bne_iff_ne.mpr c9
   by_cases c10 : (rd t101 x14_1) = 1114111
   ·rw [if_pos c10] at H
    have c10b0 : ((rd t101 x14_1) == 1114111) = true := beq_iff_eq.mpr c10
    have c10b1 : ((rd t101 x14_1) != 1114111) = false := bne_eq_false_iff_eq.mpr c10
    clear c10
    obtain rfl := Option.some.inj H
    have p105 : 0 ≤ (x14_1 : Int) := of_decide_eq_true zq2
    have q105 : x14_1 < (t101.length : Int) := of_decide_eq_true zq2
    obtain ⟨ad105, e105, hx105_0⟩ := Kd.at_int (Kd.R_reads' HO_12.out).2.2 x14_1 p105 q105
    cases e105
    replace p105 := eq_true p105
    replace q105 := eq_true q105
    go_wp2
    go_ret
    exact ⟨by first | rfl | (simp [errW_none, errW_some] <;> rfl) | (simp [*, errW_none, errW_some] <;> rfl), by repeat (first | (with_reducible first | exact HB.out | apply below_alloc | apply pw_below_drewN | apply below_drew1) | exact HB.out)⟩
   rw [if_neg c10] at H
   have c10b0 : ((rd t101 x14_1) == 1114111) = false := beq_eq_false_iff_ne.mpr c10
   have c10b1 : ((rd t101 x14_1) != 1114111) = true := bne_iff_ne.mpr c10
   have H' := mk0 H
   clear H
   have p105 : 0 ≤ (x14_1 : Int) := of_decide_eq_true zq2
   have q105 : x14_1 < (t101.length : Int) := of_decide_eq_true zq2
   obtain ⟨ad105, e105, hx105_0⟩ := Kd.at_int (Kd.R_reads' HO_12.out).2.2 x14_1 p105 q105
   cases e105
   replace p105 := eq_true p105
   replace q105 := eq_true q105
   go_wp2
   go_roundg k1
   case measure => have := HK1.out; omega
   case rel => exact ⟨(wrap64 (x14_1 + 1)), zq4, H', ⟨by have := HK1.out; omega⟩, ⟨by (with_reducible repeat (first | apply Kd.R_alloc | apply Kd.R_drewN | apply Kd.R_drew)); exact HO_12.out⟩, ⟨by repeat (first | (with_reducible first | exact HB.out | apply below_alloc | apply pw_below_drewN | apply below_drew1) | exact HB.out)⟩⟩
def laws_mtBare.l0 : Nat → ByteArray → List Int → Int → Option (ByteArray)
  | 0, _, _, _ => none
  | k + 1, x0, x3, x4 => if x4 < (x0.size : Int) then (if 0 ≤ x4 then (if (bt x0 x4) = 92 then (laws_mtBare.l0 k x0 x3 (wrap64 (x4 + 1))) else (if x3.length < 140737488355328 then (laws_mtBare.l0 k x0 (x3 ++ [bt x0 x4]) (wrap64 (x4 + 1))) else (none))) else (none)) else (some (strOfNums x3))
def laws_mtBare.f (k : Nat) (a0 : ByteArray) : Option (ByteArray) := laws_mtBare.l0 k a0 ([] : List Int) 0
theorem laws_mtBare.mono_l : ∀ k, (∀ y0 y1 y2, LeO (laws_mtBare.l0 k y0 y1 y2) (laws_mtBare.l0 (k + 1) y0 y1 y2))
 | 0 => fun _ _ _ r h => by simp [laws_mtBare.l0] at h
 | k + 1 => by
  have ih0 := laws_mtBare.mono_l k
  ·intro y0 y1 y2
   unfold laws_mtBare.l0
   repeat' first
   | (with_reducible exact ih0 _ _ _)
   | (with_reducible exact LeO.refl _)
   | (with_reducible exact LeO.none _)
   | (with_reducible refine LeO.ite ?_ ?_)
   | (with_reducible refine LeO.bind ?_ (fun _ => ?_))
   | exact ih0 _ _ _
   | exact LeO.none _
   | refine LeO.ite ?_ ?_
   | refine LeO.bind ?_ (fun _ => ?_)
theorem laws_mtBare.mono : ∀ a0 k, LeO (laws_mtBare.f k a0) (laws_mtBare.f (k + 1) a0) := by
 intro a0 k
 have ih0 := laws_mtBare.mono_l k
 unfold laws_mtBare.f
 repeat' first
  | (with_reducible exact ih0 _ _ _)
  | (with_reducible exact LeO.refl _)
  | (with_reducible exact LeO.none _)
  | (with_reducible refine LeO.ite ?_ ?_)
  | (with_reducible refine LeO.bind ?_ (fun _ => ?_))
  | exact ih0 _ _ _
  | exact LeO.none _
  | refine LeO.ite ?_ ?_
  | refine LeO.bind ?_ (fun _ => ?_)
set_option maxHeartbeats 8000000 in
set_option maxRecDepth 100000 in
theorem laws_mtBare.calls (k : Nat) (a0 : ByteArray) (r : ByteArray) (w : World) (h : laws_mtBare.f k a0 = some r) :
 Calls Tryd.prog 10 #[.string a0] w fun e w' => e = .returned (.string r) ∧ Below w.heap.size w w' := by
 have HB := mk0 (Below.refl w.heap.size w)
 have H : (laws_mtBare.l0 k a0 ([] : List Int) 0) = some r := h
 clear h
 have H' := mk0 H
 clear H
 go_enter Tryd.func10, Tryd.ntmps10
 go_wp2
 go_loopg [3, 4] k (fun kq v3 v4 w' => ∃ (x3_1 : List Int) (x4_1 : Int), v4 = .int .i64 x4_1 ∧ Aside0 (laws_mtBare.l0 kq a0 x3_1 x4_1 = some r) ∧ Aside0 (kq ≤ k) ∧ Aside0 (Kd.R (Kd.int .u8) 5 w' w.heap.size (fun _ => True) v3 x3_1) ∧ Aside0 (Below w.heap.size w w'))
 case atStart => exact ⟨(([] : List Int)), (0), zq4, H', ⟨Nat.le_refl _⟩, ⟨by first | exact Kd.R_nil _ _ _ _ _ | exact Kd.N_nil _ _ _ _ _ | exact Kd.V_nil _ _ _ _ _ | exact Kd.Q_nil _ _ _ _ _ | exact Kd.S_nil _ _ _ _ _⟩, ⟨by repeat (first | (with_reducible first | exact HB.out | apply below_alloc | apply pw_below_drewN | apply below_drew1) | exact HB.out)⟩⟩
 case round =>
  clear H'
  try clear c1
  obtain ⟨x3_1, x4_1, rfl, HA, HK1, HO_3, HB⟩ := hrel
  cases gk with
  | zero => exact absurd HA.out (by simp [laws_mtBare.l0])
  | succ k1 =>
   have H := HA.out
   clear HA
   simp only [laws_mtBare.l0] at H
   by_cases c2 : x4_1 < (a0.size : Int)
   rotate_left
   ·rw [if_neg c2] at H
    have c2b0 : decide (x4_1 < (a0.size : Int)) = false := decide_eq_false c2
    clear c2
    obtain rfl := Option.some.inj H
    have hcv9 := own_string (P := Tryd.prog) Tryd.underlying29 Tryd.underlying5 Tryd.underlying9 (Kd.own_of_R HO_3.out)
    go_wp2
    go_ret
    exact ⟨by first | rfl | (simp [errW_none, errW_some] <;> rfl) | (simp [*, errW_none, errW_some] <;> rfl), by repeat (first | (with_reducible first | exact HB.out | apply below_alloc | apply pw_below_drewN | apply below_drew1) | exact HB.out)⟩
   rw [if_pos c2] at H
   have c2b0 : decide (x4_1 < (a0.size : Int)) = true := decide_eq_true c2
   clear c2
   by_cases c3 : 0 ≤ x4_1
   rotate_left
   ·rw [if_neg c3] at H
    exact absurd H (by simp)
   rw [if_pos c3] at H
   have c3b0 : decide (0 ≤ x4_1) = true := decide_eq_true c3
   clear c3
   by_cases c5 : (bt a0 x4_1) = 92
   ·rw [if_pos c5] at H
    have c5b0 : ((bt a0 x4_1) == 92) = true := beq_iff_eq.mpr c5
    have c5b1 : ((bt a0 x4_1) != 92) = false := bne_eq_false_iff_eq.mpr c5
    clear c5
    have H' := mk0 H
    clear H
    have p4 : 0 ≤ (x4_1 : Int) := of_decide_eq_true zq2
    have q4 : x4_1 < (a0.size : Int) := of_decide_eq_true zq2
    have hx4 := bt_at a0 x4_1
    replace p4 := eq_true p4
    replace q4 := eq_true q4
    go_wp2
    go_roundg k1
    case measure => have := HK1.out; omega
    case rel => exact ⟨(x3_1), (wrap64 (x4_1 + 1)), zq4, H', ⟨by have := HK1.out; omega⟩, ⟨by (with_reducible repeat (first | apply Kd.R_alloc | apply Kd.R_drewN | apply Kd.R_drew)); exact HO_3.out⟩, ⟨by repeat (first | (with_reducible first | exact HB.out | apply below_alloc | apply pw_below_drewN | apply below_drew1) | exact HB.out)⟩⟩
   rw [if_neg c5] at H
   have c5b0 : ((bt a0 x4_1) == 92) = false := beq_eq_false_iff_ne.mpr c5
   have c5b1 : ((bt a0 x4_1) != 92) = true := bne_iff_ne.mpr c5
   by_cases c7 : x3_1.length < 140737488355328
   rotate_left
   ·rw [if_neg c7] at H
    exact absurd H (by simp)
   rw [if_pos c7] at H
   have LMc7 := mk0 c7
   clear c7
   obtain ⟨y101, hy101⟩ : ∃ y_ : List Int, y_ = (x3_1 ++ [bt a0 x4_1]) := ⟨_, rfl⟩
   replace H : (laws_mtBare.l0 k1 a0 y101 (wrap64 (x4_1 + 1))) = some r := by first | (rw [hy101]; with_reducible exact H) | (have H2_ := (Option.bind_some _ _).symm.trans H; rw [hy101]; with_reducible exact H2_) | (have H2_ := (Option.bind_some _ _).symm.trans H; with_reducible exact H2_) | with_reducible exact H | (rw [hy101]; exact H) | exact H
   have Ny101 := mk0 hy101
   clear hy101
   have H' := mk0 H
   clear H
   have p4 : 0 ≤ (x4_1 : Int) := of_decide_eq_true zq2
   have q4 : x4_1 < (a0.size : Int) := of_decide_eq_true zq2
   have hx4 := bt_at a0 x4_1
   replace p4 := eq_true p4
   replace q4 := eq_true q4
   have p6 : 0 ≤ (x4_1 : Int) := of_decide_eq_true zq2
   have q6 : x4_1 < (a0.size : Int) := of_decide_eq_true zq2
   have hx6 := bt_at a0 x4_1
   replace p6 := eq_true p6
   replace q6 := eq_true q6
   go_wp2_with (first | ((with_reducible refine gate_builtin (b := .append) (xs := #[.tmp 15, .tmp 19]) rfl ?_); at_builtin; refine Kd.R_append (Kd.int .u8) (w0 := w) w.heap.size rfl (.tmp 15) (.tmp 19) 29 5 (.int .u8 0) 1 rfl Tryd.underlying29 info5 rfl zq25 (by omega) u3 x3_1 (bt a0 x4_1) [.int .u8 (bt a0 x4_1)] (fun _ => True) (fun _ => False) rfl rfl ?aP (fun _ hk => hk.elim) ?aF ?aO ?aB ?aS ?aL ?_; (case aP => exact rfl); (case aB => exact zq0); (case aF => exact (fun _ _ => trivial)); (case aO => exact (by (with_reducible repeat (first | apply Kd.R_alloc | apply Kd.R_drewN | apply Kd.R_drew)); exact HO_3.out)); (case aS => exact (below_size zq0)); (case aL => have := LMc7.out; first | omega | (simp only [List.length_cons, List.length_nil] at this ⊢; omega)); intro v102 w8 ho hb hg hat; rw [← Ny101.out] at ho; have n0_ := mk0 (hb); have n1_ := mk0 (ho); clear HB HO_3; have HB := n0_; have HO103 := n1_; clear n0_ n1_; clear ho hb hg hat))
   go_roundg k1
   case measure => have := HK1.out; omega
   case rel => exact ⟨(y101), (wrap64 (x4_1 + 1)), zq4, H', ⟨by have := HK1.out; omega⟩, ⟨by (with_reducible repeat (first | apply Kd.R_alloc | apply Kd.R_drewN | apply Kd.R_drew)); exact HO103.out⟩, ⟨by repeat (first | (with_reducible first | exact HB.out | apply below_alloc | apply pw_below_drewN | apply below_drew1) | exact HB.out)⟩⟩
theorem firstT_lead2 {x : Nat} (h : Lib.firstT x = 2) : 194 ≤ x ∧ x ≤ 223 := by
 unfold Lib.firstT at h
 repeat' split at h
 all_goals omega
set_option maxHeartbeats 8000000 in
set_option maxRecDepth 100000 in
theorem drs_2 (b o c x0 x1 : Nat) (w : World) (hT : Lib.Utf8Tabs 13 14 w) (hX : Lib.firstT x0 = 2) (h1 : 128 ≤ x1 ∧ x1 ≤ 191) (hc0 : w.cell? ⟨b, o, none⟩ = some (.int .u8 (x0 : Int))) (hc1 : w.cell? ⟨b, o + 1, none⟩ = some (.int .u8 (x1 : Int))) :
 Calls Tryd.prog 74 #[.slice (some ⟨b, o, none⟩) 2 c] w fun e w' => e = .returned (.tuple #[.int .i32 (((x0 : Int) - 192) * 64 + ((x1 : Int) - 128)), .int .i64 2]) ∧ Below w.heap.size w w' := by
 have hl := firstT_lead2 hX
 have ev : ((x0 : Int) - 192) * 64 + ((x1 : Int) - 128) = (x0 : Int) % 32 * 64 + (x1 : Int) % 64 := by omega
 rw [ev]
 clear ev
 have ht := hT.1 x0 (by omega)
 have ha0 := (hT.2 0 (by omega)).1
 have ha1 := (hT.2 0 (by omega)).2
 rw [hX] at ht
 simp only [Lib.accLo, Lib.accHi, Nat.reduceMul, Nat.reduceAdd, Nat.reduceEqDiff, if_true, if_false] at ha0 ha1
 have al := fun (p : Addr) (v : Value) (h : w.cell? p = some v) (ob : Obj) => (bel_cell (below_alloc (Below.refl w.heap.size w) ob) (World.block_lt_of_cell? _ _ h)).trans h
 have hd0 := al _ _ hc0
 have hd1 := al _ _ hc1
 clear hT hX al
 go_enter Tryd.func74, Tryd.ntmps74
 go_wp2
 go_ret2
 exact ⟨rfl, (Below.refl _ _).alloc (Nat.le_refl _) _⟩
theorem firstT_lead19 {x : Nat} (h : Lib.firstT x = 19) : 224 ≤ x ∧ x ≤ 224 := by
 unfold Lib.firstT at h
 repeat' split at h
 all_goals omega
set_option maxHeartbeats 8000000 in
set_option maxRecDepth 100000 in
theorem drs_19 (b o c x0 x1 x2 : Nat) (w : World) (hT : Lib.Utf8Tabs 13 14 w) (hX : Lib.firstT x0 = 19) (h1 : 160 ≤ x1 ∧ x1 ≤ 191) (h2 : 128 ≤ x2 ∧ x2 ≤ 191) (hc0 : w.cell? ⟨b, o, none⟩ = some (.int .u8 (x0 : Int))) (hc1 : w.cell? ⟨b, o + 1, none⟩ = some (.int .u8 (x1 : Int))) (hc2 : w.cell? ⟨b, o + 2, none⟩ = some (.int .u8 (x2 : Int))) :
 Calls Tryd.prog 74 #[.slice (some ⟨b, o, none⟩) 3 c] w fun e w' => e = .returned (.tuple #[.int .i32 (((x0 : Int) - 224) * 4096 + ((x1 : Int) - 128) * 64 + ((x2 : Int) - 128)), .int .i64 3]) ∧ Below w.heap.size w w' := by
 have hl := firstT_lead19 hX
 have ev : ((x0 : Int) - 224) * 4096 + ((x1 : Int) - 128) * 64 + ((x2 : Int) - 128) = (x0 : Int) % 16 * 4096 + (x1 : Int) % 64 * 64 + (x2 : Int) % 64 := by omega
 rw [ev]
 clear ev
 have ht := hT.1 x0 (by omega)
 have ha0 := (hT.2 1 (by omega)).1
 have ha1 := (hT.2 1 (by omega)).2
 rw [hX] at ht
 simp only [Lib.accLo, Lib.accHi, Nat.reduceMul, Nat.reduceAdd, Nat.reduceEqDiff, if_true, if_false] at ha0 ha1
 have al := fun (p : Addr) (v : Value) (h : w.cell? p = some v) (ob : Obj) => (bel_cell (below_alloc (Below.refl w.heap.size w) ob) (World.block_lt_of_cell? _ _ h)).trans h
 have hd0 := al _ _ hc0
 have hd1 := al _ _ hc1
 have hd2 := al _ _ hc2
 clear hT hX al
 go_enter Tryd.func74, Tryd.ntmps74
 go_wp2
 go_ret2
 exact ⟨rfl, (Below.refl _ _).alloc (Nat.le_refl _) _⟩
theorem firstT_lead3 {x : Nat} (h : Lib.firstT x = 3) : 225 ≤ x ∧ x ≤ 239 := by
 unfold Lib.firstT at h
 repeat' split at h
 all_goals omega
set_option maxHeartbeats 8000000 in
set_option maxRecDepth 100000 in
theorem drs_3 (b o c x0 x1 x2 : Nat) (w : World) (hT : Lib.Utf8Tabs 13 14 w) (hX : Lib.firstT x0 = 3) (h1 : 128 ≤ x1 ∧ x1 ≤ 191) (h2 : 128 ≤ x2 ∧ x2 ≤ 191) (hc0 : w.cell? ⟨b, o, none⟩ = some (.int .u8 (x0 : Int))) (hc1 : w.cell? ⟨b, o + 1, none⟩ = some (.int .u8 (x1 : Int))) (hc2 : w.cell? ⟨b, o + 2, none⟩ = some (.int .u8 (x2 : Int))) :
 Calls Tryd.prog 74 #[.slice (some ⟨b, o, none⟩) 3 c] w fun e w' => e = .returned (.tuple #[.int .i32 (((x0 : Int) - 224) * 4096 + ((x1 : Int) - 128) * 64 + ((x2 : Int) - 128)), .int .i64 3]) ∧ Below w.heap.size w w' := by
 have hl := firstT_lead3 hX
 have ev : ((x0 : Int) - 224) * 4096 + ((x1 : Int) - 128) * 64 + ((x2 : Int) - 128) = (x0 : Int) % 16 * 4096 + (x1 : Int) % 64 * 64 + (x2 : Int) % 64 := by omega
 rw [ev]
 clear ev
 have ht := hT.1 x0 (by omega)
 have ha0 := (hT.2 0 (by omega)).1
 have ha1 := (hT.2 0 (by omega)).2
 rw [hX] at ht
 simp only [Lib.accLo, Lib.accHi, Nat.reduceMul, Nat.reduceAdd, Nat.reduceEqDiff, if_true, if_false] at ha0 ha1
 have al := fun (p : Addr) (v : Value) (h : w.cell? p = some v) (ob : Obj) => (bel_cell (below_alloc (Below.refl w.heap.size w) ob) (World.block_lt_of_cell? _ _ h)).trans h
 have hd0 := al _ _ hc0
 have hd1 := al _ _ hc1
 have hd2 := al _ _ hc2
 clear hT hX al
 go_enter Tryd.func74, Tryd.ntmps74
 go_wp2
 go_ret2
 exact ⟨rfl, (Below.refl _ _).alloc (Nat.le_refl _) _⟩
theorem firstT_lead35 {x : Nat} (h : Lib.firstT x = 35) : 237 ≤ x ∧ x ≤ 237 := by
 unfold Lib.firstT at h
 repeat' split at h
 all_goals omega
set_option maxHeartbeats 8000000 in
set_option maxRecDepth 100000 in
theorem drs_35 (b o c x0 x1 x2 : Nat) (w : World) (hT : Lib.Utf8Tabs 13 14 w) (hX : Lib.firstT x0 = 35) (h1 : 128 ≤ x1 ∧ x1 ≤ 159) (h2 : 128 ≤ x2 ∧ x2 ≤ 191) (hc0 : w.cell? ⟨b, o, none⟩ = some (.int .u8 (x0 : Int))) (hc1 : w.cell? ⟨b, o + 1, none⟩ = some (.int .u8 (x1 : Int))) (hc2 : w.cell? ⟨b, o + 2, none⟩ = some (.int .u8 (x2 : Int))) :
 Calls Tryd.prog 74 #[.slice (some ⟨b, o, none⟩) 3 c] w fun e w' => e = .returned (.tuple #[.int .i32 (((x0 : Int) - 224) * 4096 + ((x1 : Int) - 128) * 64 + ((x2 : Int) - 128)), .int .i64 3]) ∧ Below w.heap.size w w' := by
 have hl := firstT_lead35 hX
 have ev : ((x0 : Int) - 224) * 4096 + ((x1 : Int) - 128) * 64 + ((x2 : Int) - 128) = (x0 : Int) % 16 * 4096 + (x1 : Int) % 64 * 64 + (x2 : Int) % 64 := by omega
 rw [ev]
 clear ev
 have ht := hT.1 x0 (by omega)
 have ha0 := (hT.2 2 (by omega)).1
 have ha1 := (hT.2 2 (by omega)).2
 rw [hX] at ht
 simp only [Lib.accLo, Lib.accHi, Nat.reduceMul, Nat.reduceAdd, Nat.reduceEqDiff, if_true, if_false] at ha0 ha1
 have al := fun (p : Addr) (v : Value) (h : w.cell? p = some v) (ob : Obj) => (bel_cell (below_alloc (Below.refl w.heap.size w) ob) (World.block_lt_of_cell? _ _ h)).trans h
 have hd0 := al _ _ hc0
 have hd1 := al _ _ hc1
 have hd2 := al _ _ hc2
 clear hT hX al
 go_enter Tryd.func74, Tryd.ntmps74
 go_wp2
 go_ret2
 exact ⟨rfl, (Below.refl _ _).alloc (Nat.le_refl _) _⟩
theorem firstT_lead52 {x : Nat} (h : Lib.firstT x = 52) : 240 ≤ x ∧ x ≤ 240 := by
 unfold Lib.firstT at h
 repeat' split at h
 all_goals omega
set_option maxHeartbeats 8000000 in
set_option maxRecDepth 100000 in
theorem drs_52 (b o c x0 x1 x2 x3 : Nat) (w : World) (hT : Lib.Utf8Tabs 13 14 w) (hX : Lib.firstT x0 = 52) (h1 : 144 ≤ x1 ∧ x1 ≤ 191) (h2 : 128 ≤ x2 ∧ x2 ≤ 191) (h3 : 128 ≤ x3 ∧ x3 ≤ 191) (hc0 : w.cell? ⟨b, o, none⟩ = some (.int .u8 (x0 : Int))) (hc1 : w.cell? ⟨b, o + 1, none⟩ = some (.int .u8 (x1 : Int))) (hc2 : w.cell? ⟨b, o + 2, none⟩ = some (.int .u8 (x2 : Int))) (hc3 : w.cell? ⟨b, o + 3, none⟩ = some (.int .u8 (x3 : Int))) :
 Calls Tryd.prog 74 #[.slice (some ⟨b, o, none⟩) 4 c] w fun e w' => e = .returned (.tuple #[.int .i32 (((x0 : Int) - 240) * 262144 + ((x1 : Int) - 128) * 4096 + ((x2 : Int) - 128) * 64 + ((x3 : Int) - 128)), .int .i64 4]) ∧ Below w.heap.size w w' := by
 have hl := firstT_lead52 hX
 have ev : ((x0 : Int) - 240) * 262144 + ((x1 : Int) - 128) * 4096 + ((x2 : Int) - 128) * 64 + ((x3 : Int) - 128) = (x0 : Int) % 8 * 262144 + (x1 : Int) % 64 * 4096 + (x2 : Int) % 64 * 64 + (x3 : Int) % 64 := by omega
 rw [ev]
 clear ev
 have ht := hT.1 x0 (by omega)
 have ha0 := (hT.2 3 (by omega)).1
 have ha1 := (hT.2 3 (by omega)).2
 rw [hX] at ht
 simp only [Lib.accLo, Lib.accHi, Nat.reduceMul, Nat.reduceAdd, Nat.reduceEqDiff, if_true, if_false] at ha0 ha1
 have al := fun (p : Addr) (v : Value) (h : w.cell? p = some v) (ob : Obj) => (bel_cell (below_alloc (Below.refl w.heap.size w) ob) (World.block_lt_of_cell? _ _ h)).trans h
 have hd0 := al _ _ hc0
 have hd1 := al _ _ hc1
 have hd2 := al _ _ hc2
 have hd3 := al _ _ hc3
 clear hT hX al
 go_enter Tryd.func74, Tryd.ntmps74
 go_wp2
 go_ret2
 exact ⟨rfl, (Below.refl _ _).alloc (Nat.le_refl _) _⟩
theorem firstT_lead4 {x : Nat} (h : Lib.firstT x = 4) : 241 ≤ x ∧ x ≤ 243 := by
 unfold Lib.firstT at h
 repeat' split at h
 all_goals omega
set_option maxHeartbeats 8000000 in
set_option maxRecDepth 100000 in
theorem drs_4 (b o c x0 x1 x2 x3 : Nat) (w : World) (hT : Lib.Utf8Tabs 13 14 w) (hX : Lib.firstT x0 = 4) (h1 : 128 ≤ x1 ∧ x1 ≤ 191) (h2 : 128 ≤ x2 ∧ x2 ≤ 191) (h3 : 128 ≤ x3 ∧ x3 ≤ 191) (hc0 : w.cell? ⟨b, o, none⟩ = some (.int .u8 (x0 : Int))) (hc1 : w.cell? ⟨b, o + 1, none⟩ = some (.int .u8 (x1 : Int))) (hc2 : w.cell? ⟨b, o + 2, none⟩ = some (.int .u8 (x2 : Int))) (hc3 : w.cell? ⟨b, o + 3, none⟩ = some (.int .u8 (x3 : Int))) :
 Calls Tryd.prog 74 #[.slice (some ⟨b, o, none⟩) 4 c] w fun e w' => e = .returned (.tuple #[.int .i32 (((x0 : Int) - 240) * 262144 + ((x1 : Int) - 128) * 4096 + ((x2 : Int) - 128) * 64 + ((x3 : Int) - 128)), .int .i64 4]) ∧ Below w.heap.size w w' := by
 have hl := firstT_lead4 hX
 have ev : ((x0 : Int) - 240) * 262144 + ((x1 : Int) - 128) * 4096 + ((x2 : Int) - 128) * 64 + ((x3 : Int) - 128) = (x0 : Int) % 8 * 262144 + (x1 : Int) % 64 * 4096 + (x2 : Int) % 64 * 64 + (x3 : Int) % 64 := by omega
 rw [ev]
 clear ev
 have ht := hT.1 x0 (by omega)
 have ha0 := (hT.2 0 (by omega)).1
 have ha1 := (hT.2 0 (by omega)).2
 rw [hX] at ht
 simp only [Lib.accLo, Lib.accHi, Nat.reduceMul, Nat.reduceAdd, Nat.reduceEqDiff, if_true, if_false] at ha0 ha1
 have al := fun (p : Addr) (v : Value) (h : w.cell? p = some v) (ob : Obj) => (bel_cell (below_alloc (Below.refl w.heap.size w) ob) (World.block_lt_of_cell? _ _ h)).trans h
 have hd0 := al _ _ hc0
 have hd1 := al _ _ hc1
 have hd2 := al _ _ hc2
 have hd3 := al _ _ hc3
 clear hT hX al
 go_enter Tryd.func74, Tryd.ntmps74
 go_wp2
 go_ret2
 exact ⟨rfl, (Below.refl _ _).alloc (Nat.le_refl _) _⟩
theorem firstT_lead68 {x : Nat} (h : Lib.firstT x = 68) : 244 ≤ x ∧ x ≤ 244 := by
 unfold Lib.firstT at h
 repeat' split at h
 all_goals omega
set_option maxHeartbeats 8000000 in
set_option maxRecDepth 100000 in
theorem drs_68 (b o c x0 x1 x2 x3 : Nat) (w : World) (hT : Lib.Utf8Tabs 13 14 w) (hX : Lib.firstT x0 = 68) (h1 : 128 ≤ x1 ∧ x1 ≤ 143) (h2 : 128 ≤ x2 ∧ x2 ≤ 191) (h3 : 128 ≤ x3 ∧ x3 ≤ 191) (hc0 : w.cell? ⟨b, o, none⟩ = some (.int .u8 (x0 : Int))) (hc1 : w.cell? ⟨b, o + 1, none⟩ = some (.int .u8 (x1 : Int))) (hc2 : w.cell? ⟨b, o + 2, none⟩ = some (.int .u8 (x2 : Int))) (hc3 : w.cell? ⟨b, o + 3, none⟩ = some (.int .u8 (x3 : Int))) :
 Calls Tryd.prog 74 #[.slice (some ⟨b, o, none⟩) 4 c] w fun e w' => e = .returned (.tuple #[.int .i32 (((x0 : Int) - 240) * 262144 + ((x1 : Int) - 128) * 4096 + ((x2 : Int) - 128) * 64 + ((x3 : Int) - 128)), .int .i64 4]) ∧ Below w.heap.size w w' := by
 have hl := firstT_lead68 hX
 have ev : ((x0 : Int) - 240) * 262144 + ((x1 : Int) - 128) * 4096 + ((x2 : Int) - 128) * 64 + ((x3 : Int) - 128) = (x0 : Int) % 8 * 262144 + (x1 : Int) % 64 * 4096 + (x2 : Int) % 64 * 64 + (x3 : Int) % 64 := by omega
 rw [ev]
 clear ev
 have ht := hT.1 x0 (by omega)
 have ha0 := (hT.2 4 (by omega)).1
 have ha1 := (hT.2 4 (by omega)).2
 rw [hX] at ht
 simp only [Lib.accLo, Lib.accHi, Nat.reduceMul, Nat.reduceAdd, Nat.reduceEqDiff, if_true, if_false] at ha0 ha1
 have al := fun (p : Addr) (v : Value) (h : w.cell? p = some v) (ob : Obj) => (bel_cell (below_alloc (Below.refl w.heap.size w) ob) (World.block_lt_of_cell? _ _ h)).trans h
 have hd0 := al _ _ hc0
 have hd1 := al _ _ hc1
 have hd2 := al _ _ hc2
 have hd3 := al _ _ hc3
 clear hT hX al
 go_enter Tryd.func74, Tryd.ntmps74
 go_wp2
 go_ret2
 exact ⟨rfl, (Below.refl _ _).alloc (Nat.le_refl _) _⟩
set_option maxHeartbeats 8000000 in
set_option maxRecDepth 100000 in
theorem dr_slow (b o c n : Nat) (x0 r m : Int) (w : World) (hn : 0 < n) (hx : 128 ≤ x0) (hc0 : w.cell? ⟨b, o, none⟩ = some (.int .u8 x0))
 (h : Calls Tryd.prog 74 #[.slice (some ⟨b, o, none⟩) n c] w fun e w' => e = .returned (.tuple #[.int .i32 r, .int .i64 m]) ∧ Below w.heap.size w w') :
 Calls Tryd.prog 62 #[.slice (some ⟨b, o, none⟩) n c] w fun e w' => e = .returned (.tuple #[.int .i32 r, .int .i64 m]) ∧ Below w.heap.size w w' := by
 have HS := mk0 h
 clear h
 have n1 : decide (0 < n) = true := decide_eq_true hn
 have n2 : decide ((0 : Int) < (n : Int)) = true := decide_eq_true (by omega)
 have n3 : ((0 : Int) < (n : Int)) = True := eq_true (by omega)
 have y1 : decide (x0 < 128) = false := decide_eq_false (by omega)
 have HC := mk0 hc0
 go_enter Tryd.func62, Tryd.ntmps62
 go_wp2
 go_loopg [8] 1 (fun kq v8 w' => v8 = .int .i64 0 ∧ w' = w)
 case atStart => exact ⟨rfl, rfl⟩
 case round =>
  obtain ⟨rfl, rfl⟩ := hrel
  have hc0 := HC.out
  go_wp2_with (first | (go_at_call 74; (with_reducible refine HS.out.mono ?_); rintro e_ w_ ⟨rfl, hb⟩; have K := mk0 hb; clear hb))
  go_ret2
  exact ⟨rfl, K.out⟩
theorem rs_lead {x : Int} (h : 192 ≤ x ∧ x ≤ 255) : Lib.runeStart x = true := bne_iff_ne.mpr (by omega)
theorem rs_cont {x : Int} (h : 128 ≤ x ∧ x ≤ 191) : Lib.runeStart x = false := bne_eq_false_iff_eq.mpr (by omega)
theorem slc_lh (A : Option Addr) (n c l m : Nat) (hl : l ≤ m) (hm : m ≤ c) : ∀ W : World, (Instr.slice 29 (.slice A n c) (some (.int .i64 (l : Int))) (some (.int .i64 (m : Int))) none).run Tryd.prog W = .ok (.slice (if c = l then A else A.map (·.add l)) (m - l) (c - l)) W := fun W => by
 obtain ⟨i0, hi, hzz⟩ := Option.map_eq_some_iff.1 info5
 simp only [Prod.mk.injEq] at hzz
 have hel : (Tryd.prog).elem 29 = 5 := by simp [Program.elem, Tryd.underlying29]
 have hu : (Tryd.prog).underlying 29 = some (.slice ((Tryd.prog).elem 29)) := by rw [hel]; exact Tryd.underlying29
 rw [run_slice_lh W 29 A n c hu .i64 .i64 (l : Int) (m : Int) (Int.natCast_nonneg _) (by omega) (by omega), hel]
 simp [sizeOf, typeInfo, hi, hzz.2.1, sliced, Result.andThen]
set_option maxHeartbeats 8000000 in
set_option maxRecDepth 100000 in
theorem dl_many (b o c p m : Nat) (r : Int) (w : World) (x : Nat → Int) (hm : 2 ≤ m ∧ m ≤ 4) (hc : p + m ≤ c) (hcm : p + m ≤ 2147483647)
 (hcell : ∀ i, i < m → w.cell? ⟨b, o + (p + i), none⟩ = some (.int .u8 (x i))) (h0 : 192 ≤ x 0 ∧ x 0 ≤ 255) (hx : ∀ i, 1 ≤ i → i < m → 128 ≤ x i ∧ x i ≤ 191)
 (HD : ∀ c', Calls Tryd.prog 62 #[.slice (some ⟨b, o + p, none⟩) m c'] w fun e w' => e = .returned (.tuple #[.int .i32 r, .int .i64 (m : Int)]) ∧ Below w.heap.size w w') :
 Calls Tryd.prog 39 #[.slice (some ⟨b, o, none⟩) (p + m) c] w fun e w' => e = .returned (.tuple #[.int .i32 r, .int .i64 (m : Int)]) ∧ Below w.heap.size w w' := by
 obtain ⟨n, hn⟩ : ∃ n, n = p + m := ⟨_, rfl⟩
 have HS := mk0 HD
 have HX := mk0 hx
 have HC := mk0 hcell
 have HN := mk0 hn
 have hl := hcell (m - 1) (by omega)
 have hxl := hx (m - 1) (by omega) (by omega)
 rw [show p + (m - 1) = n - 1 by omega] at hl
 generalize x (m - 1) = xl at hl hxl
 rw [← hn] at hc hcm ⊢
 have hn2 : 2 ≤ n := by omega
 clear HD hx hcell hn
 have i1 : (0 ≤ ((n - 1 : Nat) : Int)) = True := eq_true (by omega)
 have i2 : (((n - 1 : Nat) : Int) < (n : Int)) = True := eq_true (by omega)
 have e1 : (n : Int) - 1 = ((n - 1 : Nat) : Int) := by omega
 have z1 : ((n : Int) == 0) = false := beq_eq_false_iff_ne.mpr (by omega)
 have z2 : decide ((n : Int) = 0) = false := decide_eq_false (by omega)
 have y1 : decide (xl < 128) = false := decide_eq_false (by omega)
 go_enter Tryd.func39, Tryd.ntmps39
 go_wp2
 ·go_loopg [5] (m - 1) (fun kq v5 w' => ∃ q t : Nat, v5 = .int .i64 (q : Int) ∧ Aside0 (q = p + t) ∧ t + 2 ≤ m ∧ kq = t + 1 ∧ w' = w)
  case atStart => exact ⟨n - 2, m - 2, by first | rfl | (congr 1; omega), ⟨by have := HN.out; omega⟩, by omega, by omega, rfl⟩
  case round =>
   obtain ⟨q, t, rfl, HQ, htm, hk, rfl⟩ := hrel
   have hq := HQ.out
   have hn := HN.out
   have hct := HC.out t (by omega)
   rw [← hq] at hct
   have hqb : q < n := by omega
   have j1 : (0 ≤ (q : Int)) = True := eq_true (by omega)
   have j2 : ((q : Int) < (n : Int)) = True := eq_true (by omega)
   have g4 : ((n : Int) - 4 ≤ (q : Int)) = True := eq_true (by omega)
   have d4 : decide ((n : Int) - 4 ≤ (q : Int)) = true := decide_eq_true (by omega)
   have d0 : decide (0 ≤ (q : Int)) = true := decide_eq_true (by omega)
   cases t with
   | zero =>
    have hrs2 := rs_lead h0
    have hx0 := h0
    generalize x 0 = x0 at hct hrs2 hx0
    have hsl := slc_lh (some ⟨b, o, none⟩) n c q n (by omega) hc
    rw [if_neg (by omega), show n - q = m by omega] at hsl
    simp only [Option.map_some, add_at] at hsl
    have hqp : q = p := by omega
    have HS2 : Aside0 (∀ c', Calls Tryd.prog 62 #[.slice (some ⟨b, o + q, none⟩) m c'] wr fun e w' => e = .returned (.tuple #[.int .i32 r, .int .i64 (m : Int)]) ∧ Below wr.heap.size wr w') := ⟨fun c' => by rw [hqp]; exact HS.out c'⟩
    clear hqp
    have n0 : decide ((q : Int) < 0) = false := decide_eq_false (by omega)
    have hqm : q + m ≤ 2147483647 := by omega
    have n1 : ((q : Int) + (m : Int) != (n : Int)) = false := bne_eq_false_iff_eq.mpr (by omega)
    have n2 : decide ((q : Int) + (m : Int) = (n : Int)) = true := decide_eq_true (by omega)
    clear hn hl hxl hk htm hq HQ h0
    go_wp2_with (first | (go_at_call 61; (with_reducible refine (Tryd.utf8_RuneStart x0 _ (by omega) (by omega)).mono ?_); rintro e_ w_ ⟨rfl, rfl⟩; rw [hrs2]) | (go_at_call 62; (with_reducible refine (HS2.out _).mono ?_); rintro e_ w_ ⟨rfl, hb⟩; have K := mk0 hb; clear hb))
    go_ret2
    exact ⟨rfl, K.out⟩
   | succ t =>
    have hxt := HX.out (t + 1) (by omega) (by omega)
    have hrs2 := rs_cont hxt
    generalize x (t + 1) = xt at hct hxt hrs2
    have hq1 : 1 ≤ q := by omega
    clear hn hl hxl hq
    go_wp2_with (first | (go_at_call 61; (with_reducible refine (Tryd.utf8_RuneStart xt _ (by omega) (by omega)).mono ?_); rintro e_ w_ ⟨rfl, rfl⟩; rw [hrs2]))
    go_roundg (t + 1)
    case measure => omega
    case rel => exact ⟨q - 1, t, (by have := HQ.out; first | rfl | (congr 1; omega)), ⟨by have := HQ.out; omega⟩, by omega, rfl, rfl⟩
 ·go_loopg [5] (m - 1) (fun kq v5 w' => ∃ q t : Nat, v5 = .int .i64 (q : Int) ∧ Aside0 (q = p + t) ∧ t + 2 ≤ m ∧ kq = t + 1 ∧ w' = w)
  case atStart => exact ⟨n - 2, m - 2, by first | rfl | (congr 1; omega), ⟨by have := HN.out; omega⟩, by omega, by omega, rfl⟩
  case round =>
   obtain ⟨q, t, rfl, HQ, htm, hk, rfl⟩ := hrel
   have hq := HQ.out
   have hn := HN.out
   have hct := HC.out t (by omega)
   rw [← hq] at hct
   have hqb : q < n := by omega
   have j1 : (0 ≤ (q : Int)) = True := eq_true (by omega)
   have j2 : ((q : Int) < (n : Int)) = True := eq_true (by omega)
   have g4 : ((n : Int) - 4 ≤ (q : Int)) = True := eq_true (by omega)
   have d4 : decide ((n : Int) - 4 ≤ (q : Int)) = true := decide_eq_true (by omega)
   have d0 : decide (0 ≤ (q : Int)) = true := decide_eq_true (by omega)
   cases t with
   | zero =>
    have hrs2 := rs_lead h0
    have hx0 := h0
    generalize x 0 = x0 at hct hrs2 hx0
    have hsl := slc_lh (some ⟨b, o, none⟩) n c q n (by omega) hc
    rw [if_neg (by omega), show n - q = m by omega] at hsl
    simp only [Option.map_some, add_at] at hsl
    have hqp : q = p := by omega
    have HS2 : Aside0 (∀ c', Calls Tryd.prog 62 #[.slice (some ⟨b, o + q, none⟩) m c'] wr fun e w' => e = .returned (.tuple #[.int .i32 r, .int .i64 (m : Int)]) ∧ Below wr.heap.size wr w') := ⟨fun c' => by rw [hqp]; exact HS.out c'⟩
    clear hqp
    have n0 : decide ((q : Int) < 0) = false := decide_eq_false (by omega)
    have hqm : q + m ≤ 2147483647 := by omega
    have n1 : ((q : Int) + (m : Int) != (n : Int)) = false := bne_eq_false_iff_eq.mpr (by omega)
    have n2 : decide ((q : Int) + (m : Int) = (n : Int)) = true := decide_eq_true (by omega)
    clear hn hl hxl hk htm hq HQ h0
    go_wp2_with (first | (go_at_call 61; (with_reducible refine (Tryd.utf8_RuneStart x0 _ (by omega) (by omega)).mono ?_); rintro e_ w_ ⟨rfl, rfl⟩; rw [hrs2]) | (go_at_call 62; (with_reducible refine (HS2.out _).mono ?_); rintro e_ w_ ⟨rfl, hb⟩; have K := mk0 hb; clear hb))
    go_ret2
    exact ⟨rfl, K.out⟩
   | succ t =>
    have hxt := HX.out (t + 1) (by omega) (by omega)
    have hrs2 := rs_cont hxt
    generalize x (t + 1) = xt at hct hxt hrs2
    have hq1 : 1 ≤ q := by omega
    clear hn hl hxl hq
    go_wp2_with (first | (go_at_call 61; (with_reducible refine (Tryd.utf8_RuneStart xt _ (by omega) (by omega)).mono ?_); rintro e_ w_ ⟨rfl, rfl⟩; rw [hrs2]))
    go_roundg (t + 1)
    case measure => omega
    case rel => exact ⟨q - 1, t, (by have := HQ.out; first | rfl | (congr 1; omega)), ⟨by have := HQ.out; omega⟩, by omega, rfl, rfl⟩
set_option maxHeartbeats 8000000 in
set_option maxRecDepth 100000 in
theorem dl_one (b o c n : Nat) (x : Int) (w : World) (hn : 1 ≤ n) (hc : n ≤ c) (hcm : n ≤ 2147483647) (hcell : w.cell? ⟨b, o + (n - 1), none⟩ = some (.int .u8 x)) (hx : 0 ≤ x ∧ x < 128) :
 Calls Tryd.prog 39 #[.slice (some ⟨b, o, none⟩) n c] w fun e w' => e = .returned (.tuple #[.int .i32 x, .int .i64 1]) ∧ Below w.heap.size w w' := by
 have i1 : (0 ≤ ((n - 1 : Nat) : Int)) = True := eq_true (by omega)
 have i2 : (((n - 1 : Nat) : Int) < (n : Int)) = True := eq_true (by omega)
 have e1 : (n : Int) - 1 = ((n - 1 : Nat) : Int) := by omega
 have z1 : ((n : Int) == 0) = false := beq_eq_false_iff_ne.mpr (by omega)
 have z2 : decide ((n : Int) = 0) = false := decide_eq_false (by omega)
 have y1 : decide (x < 128) = true := decide_eq_true hx.2
 go_enter Tryd.func39, Tryd.ntmps39
 go_wp2
 go_ret2
 exact ⟨rfl, Below.refl _ _⟩
def utf8_DecodeLastRune.f (l : List Int) : Option (Int × Int) :=
  if (l.length : Int) < 1 ∨ 2147483647 < l.length then none
  else if 0 ≤ rd l (l.length - 1) ∧ rd l (l.length - 1) < 128 then some (rd l (l.length - 1), 1)
  else if (l.length : Int) < 2 ∨ ¬ (128 ≤ rd l (l.length - 1) ∧ rd l (l.length - 1) ≤ 191) then none
  else if 194 ≤ rd l (l.length - 2) ∧ rd l (l.length - 2) ≤ 223 then some ((rd l (l.length - 2) - 192) * 64 + (rd l (l.length - 1) - 128), 2)
  else if (l.length : Int) < 3 ∨ ¬ (128 ≤ rd l (l.length - 2) ∧ rd l (l.length - 2) ≤ 191) then none
  else if (rd l (l.length - 3) = 224 ∧ 160 ≤ rd l (l.length - 2)) ∨ (225 ≤ rd l (l.length - 3) ∧ rd l (l.length - 3) ≤ 239 ∧ rd l (l.length - 3) ≠ 237) ∨ (rd l (l.length - 3) = 237 ∧ rd l (l.length - 2) ≤ 159) then
    some ((rd l (l.length - 3) - 224) * 4096 + (rd l (l.length - 2) - 128) * 64 + (rd l (l.length - 1) - 128), 3)
  else if (l.length : Int) < 4 ∨ ¬ (128 ≤ rd l (l.length - 3) ∧ rd l (l.length - 3) ≤ 191) then none
  else if (rd l (l.length - 4) = 240 ∧ 144 ≤ rd l (l.length - 3)) ∨ (241 ≤ rd l (l.length - 4) ∧ rd l (l.length - 4) ≤ 243) ∨ (rd l (l.length - 4) = 244 ∧ rd l (l.length - 3) ≤ 143) then
    some ((rd l (l.length - 4) - 240) * 262144 + (rd l (l.length - 3) - 128) * 4096 + (rd l (l.length - 2) - 128) * 64 + (rd l (l.length - 1) - 128), 4)
  else none
theorem firstT_2 {x : Nat} (h : 194 ≤ x ∧ x ≤ 223) : Lib.firstT x = 2 := by unfold Lib.firstT; rw [if_neg (by omega), if_neg (by omega), if_pos (by omega)]
theorem firstT_19 {x : Nat} (h : x = 224) : Lib.firstT x = 19 := by subst h; rfl
theorem firstT_35 {x : Nat} (h : x = 237) : Lib.firstT x = 35 := by subst h; rfl
theorem firstT_3 {x : Nat} (h : 225 ≤ x ∧ x ≤ 239 ∧ x ≠ 237) : Lib.firstT x = 3 := by
 unfold Lib.firstT
 rw [if_neg (by omega), if_neg (by omega), if_neg (by omega), if_neg (by omega)]
 by_cases h1 : x < 237
 ·rw [if_pos h1]
 rw [if_neg h1, if_neg (by omega), if_pos (by omega)]
theorem firstT_52 {x : Nat} (h : x = 240) : Lib.firstT x = 52 := by subst h; rfl
theorem firstT_4 {x : Nat} (h : 241 ≤ x ∧ x ≤ 243) : Lib.firstT x = 4 := by
 unfold Lib.firstT
 rw [if_neg (by omega), if_neg (by omega), if_neg (by omega), if_neg (by omega), if_neg (by omega), if_neg (by omega), if_neg (by omega), if_neg (by omega), if_pos (by omega)]
theorem firstT_68 {x : Nat} (h : x = 244) : Lib.firstT x = 68 := by subst h; rfl
theorem rd_cell {w : World} {b o : Nat} {l : List Int} (h : Kd.C (Kd.int .u8) w (some ⟨b, o, none⟩) l.length l) (i : Nat) (hi : i < l.length) : w.cell? ⟨b, o + i, none⟩ = some (.int .u8 (rd l (i : Int))) := by
 obtain ⟨ad, e, hc⟩ := Kd.at_int h (i : Int) (by omega) (by omega)
 obtain rfl := Option.some.inj e
 rw [Int.toNat_natCast] at hc
 cases i with
 | zero => simpa [Addr.add] using hc
 | succ i => simpa [Addr.add] using hc
theorem dlx_2 (b o c : Nat) (l : List Int) (w : World) (hT : Lib.Utf8Tabs 13 14 w) (hC : Kd.C (Kd.int .u8) w (some ⟨b, o, none⟩) l.length l) (hc : l.length ≤ c) (hl : l.length ≤ 2147483647) (hn : 2 ≤ l.length) (x0 x1 : Nat) (hX : Lib.firstT x0 = 2) (h1 : 128 ≤ x1 ∧ x1 ≤ 191) (e0 : rd l (l.length - 2) = (x0 : Int)) (e1 : rd l (l.length - 1) = (x1 : Int)) :
 Calls Tryd.prog 39 #[.slice (some ⟨b, o, none⟩) l.length c] w fun e w' => e = .returned (.tuple #[.int .i32 (((x0 : Int) - 192) * 64 + ((x1 : Int) - 128)), .int .i64 2]) ∧ Below w.heap.size w w' := by
 have hL := firstT_lead2 hX
 obtain ⟨p, hp⟩ : ∃ p, l.length = p + 2 := ⟨l.length - 2, by omega⟩
 have g0 := rd_cell hC (p + 0) (by omega)
 rw [show (((p + 0 : Nat) : Int)) = (l.length : Int) - 2 by omega, e0] at g0
 have g1 := rd_cell hC (p + 1) (by omega)
 rw [show (((p + 1 : Nat) : Int)) = (l.length : Int) - 1 by omega, e1] at g1
 rw [hp] at hc hl ⊢
 have k0 := g0
 rw [show o + (p + 0) = o + p + 0 by omega] at k0
 have k1 := g1
 rw [show o + (p + 1) = o + p + 1 by omega] at k1
 refine dl_many b o c p 2 _ w (fun i => rd l ((p + i : Nat) : Int)) (by omega) hc hl (fun i hi => rd_cell hC (p + i) (by omega)) ?_ ?_ (fun c' => dr_slow b (o + p) c' 2 (x0 : Int) _ 2 w (by omega) (by omega) k0 (drs_2 b (o + p) c' x0 x1 w hT hX h1 k0 k1))
 ·show 192 ≤ rd l ((p + 0 : Nat) : Int) ∧ rd l ((p + 0 : Nat) : Int) ≤ 255
  rw [show (((p + 0 : Nat) : Int)) = (l.length : Int) - 2 by omega, e0]
  omega
 ·intro i hi1 hi2
  show 128 ≤ rd l ((p + i : Nat) : Int) ∧ rd l ((p + i : Nat) : Int) ≤ 191
  obtain rfl : i = 1 := by omega
  ·rw [show (((p + 1 : Nat) : Int)) = (l.length : Int) - 1 by omega, e1]
   omega
theorem dlx_19 (b o c : Nat) (l : List Int) (w : World) (hT : Lib.Utf8Tabs 13 14 w) (hC : Kd.C (Kd.int .u8) w (some ⟨b, o, none⟩) l.length l) (hc : l.length ≤ c) (hl : l.length ≤ 2147483647) (hn : 3 ≤ l.length) (x0 x1 x2 : Nat) (hX : Lib.firstT x0 = 19) (h1 : 160 ≤ x1 ∧ x1 ≤ 191) (h2 : 128 ≤ x2 ∧ x2 ≤ 191) (e0 : rd l (l.length - 3) = (x0 : Int)) (e1 : rd l (l.length - 2) = (x1 : Int)) (e2 : rd l (l.length - 1) = (x2 : Int)) :
 Calls Tryd.prog 39 #[.slice (some ⟨b, o, none⟩) l.length c] w fun e w' => e = .returned (.tuple #[.int .i32 (((x0 : Int) - 224) * 4096 + ((x1 : Int) - 128) * 64 + ((x2 : Int) - 128)), .int .i64 3]) ∧ Below w.heap.size w w' := by
 have hL := firstT_lead19 hX
 obtain ⟨p, hp⟩ : ∃ p, l.length = p + 3 := ⟨l.length - 3, by omega⟩
 have g0 := rd_cell hC (p + 0) (by omega)
 rw [show (((p + 0 : Nat) : Int)) = (l.length : Int) - 3 by omega, e0] at g0
 have g1 := rd_cell hC (p + 1) (by omega)
 rw [show (((p + 1 : Nat) : Int)) = (l.length : Int) - 2 by omega, e1] at g1
 have g2 := rd_cell hC (p + 2) (by omega)
 rw [show (((p + 2 : Nat) : Int)) = (l.length : Int) - 1 by omega, e2] at g2
 rw [hp] at hc hl ⊢
 have k0 := g0
 rw [show o + (p + 0) = o + p + 0 by omega] at k0
 have k1 := g1
 rw [show o + (p + 1) = o + p + 1 by omega] at k1
 have k2 := g2
 rw [show o + (p + 2) = o + p + 2 by omega] at k2
 refine dl_many b o c p 3 _ w (fun i => rd l ((p + i : Nat) : Int)) (by omega) hc hl (fun i hi => rd_cell hC (p + i) (by omega)) ?_ ?_ (fun c' => dr_slow b (o + p) c' 3 (x0 : Int) _ 3 w (by omega) (by omega) k0 (drs_19 b (o + p) c' x0 x1 x2 w hT hX h1 h2 k0 k1 k2))
 ·show 192 ≤ rd l ((p + 0 : Nat) : Int) ∧ rd l ((p + 0 : Nat) : Int) ≤ 255
  rw [show (((p + 0 : Nat) : Int)) = (l.length : Int) - 3 by omega, e0]
  omega
 ·intro i hi1 hi2
  show 128 ≤ rd l ((p + i : Nat) : Int) ∧ rd l ((p + i : Nat) : Int) ≤ 191
  obtain rfl | rfl : i = 1 ∨ i = 2 := by omega
  ·rw [show (((p + 1 : Nat) : Int)) = (l.length : Int) - 2 by omega, e1]
   omega
  ·rw [show (((p + 2 : Nat) : Int)) = (l.length : Int) - 1 by omega, e2]
   omega
theorem dlx_3 (b o c : Nat) (l : List Int) (w : World) (hT : Lib.Utf8Tabs 13 14 w) (hC : Kd.C (Kd.int .u8) w (some ⟨b, o, none⟩) l.length l) (hc : l.length ≤ c) (hl : l.length ≤ 2147483647) (hn : 3 ≤ l.length) (x0 x1 x2 : Nat) (hX : Lib.firstT x0 = 3) (h1 : 128 ≤ x1 ∧ x1 ≤ 191) (h2 : 128 ≤ x2 ∧ x2 ≤ 191) (e0 : rd l (l.length - 3) = (x0 : Int)) (e1 : rd l (l.length - 2) = (x1 : Int)) (e2 : rd l (l.length - 1) = (x2 : Int)) :
 Calls Tryd.prog 39 #[.slice (some ⟨b, o, none⟩) l.length c] w fun e w' => e = .returned (.tuple #[.int .i32 (((x0 : Int) - 224) * 4096 + ((x1 : Int) - 128) * 64 + ((x2 : Int) - 128)), .int .i64 3]) ∧ Below w.heap.size w w' := by
 have hL := firstT_lead3 hX
 obtain ⟨p, hp⟩ : ∃ p, l.length = p + 3 := ⟨l.length - 3, by omega⟩
 have g0 := rd_cell hC (p + 0) (by omega)
 rw [show (((p + 0 : Nat) : Int)) = (l.length : Int) - 3 by omega, e0] at g0
 have g1 := rd_cell hC (p + 1) (by omega)
 rw [show (((p + 1 : Nat) : Int)) = (l.length : Int) - 2 by omega, e1] at g1
 have g2 := rd_cell hC (p + 2) (by omega)
 rw [show (((p + 2 : Nat) : Int)) = (l.length : Int) - 1 by omega, e2] at g2
 rw [hp] at hc hl ⊢
 have k0 := g0
 rw [show o + (p + 0) = o + p + 0 by omega] at k0
 have k1 := g1
 rw [show o + (p + 1) = o + p + 1 by omega] at k1
 have k2 := g2
 rw [show o + (p + 2) = o + p + 2 by omega] at k2
 refine dl_many b o c p 3 _ w (fun i => rd l ((p + i : Nat) : Int)) (by omega) hc hl (fun i hi => rd_cell hC (p + i) (by omega)) ?_ ?_ (fun c' => dr_slow b (o + p) c' 3 (x0 : Int) _ 3 w (by omega) (by omega) k0 (drs_3 b (o + p) c' x0 x1 x2 w hT hX h1 h2 k0 k1 k2))
 ·show 192 ≤ rd l ((p + 0 : Nat) : Int) ∧ rd l ((p + 0 : Nat) : Int) ≤ 255
  rw [show (((p + 0 : Nat) : Int)) = (l.length : Int) - 3 by omega, e0]
  omega
 ·intro i hi1 hi2
  show 128 ≤ rd l ((p + i : Nat) : Int) ∧ rd l ((p + i : Nat) : Int) ≤ 191
  obtain rfl | rfl : i = 1 ∨ i = 2 := by omega
  ·rw [show (((p + 1 : Nat) : Int)) = (l.length : Int) - 2 by omega, e1]
   omega
  ·rw [show (((p + 2 : Nat) : Int)) = (l.length : Int) - 1 by omega, e2]
   omega
theorem dlx_35 (b o c : Nat) (l : List Int) (w : World) (hT : Lib.Utf8Tabs 13 14 w) (hC : Kd.C (Kd.int .u8) w (some ⟨b, o, none⟩) l.length l) (hc : l.length ≤ c) (hl : l.length ≤ 2147483647) (hn : 3 ≤ l.length) (x0 x1 x2 : Nat) (hX : Lib.firstT x0 = 35) (h1 : 128 ≤ x1 ∧ x1 ≤ 159) (h2 : 128 ≤ x2 ∧ x2 ≤ 191) (e0 : rd l (l.length - 3) = (x0 : Int)) (e1 : rd l (l.length - 2) = (x1 : Int)) (e2 : rd l (l.length - 1) = (x2 : Int)) :
 Calls Tryd.prog 39 #[.slice (some ⟨b, o, none⟩) l.length c] w fun e w' => e = .returned (.tuple #[.int .i32 (((x0 : Int) - 224) * 4096 + ((x1 : Int) - 128) * 64 + ((x2 : Int) - 128)), .int .i64 3]) ∧ Below w.heap.size w w' := by
 have hL := firstT_lead35 hX
 obtain ⟨p, hp⟩ : ∃ p, l.length = p + 3 := ⟨l.length - 3, by omega⟩
 have g0 := rd_cell hC (p + 0) (by omega)
 rw [show (((p + 0 : Nat) : Int)) = (l.length : Int) - 3 by omega, e0] at g0
 have g1 := rd_cell hC (p + 1) (by omega)
 rw [show (((p + 1 : Nat) : Int)) = (l.length : Int) - 2 by omega, e1] at g1
 have g2 := rd_cell hC (p + 2) (by omega)
 rw [show (((p + 2 : Nat) : Int)) = (l.length : Int) - 1 by omega, e2] at g2
 rw [hp] at hc hl ⊢
 have k0 := g0
 rw [show o + (p + 0) = o + p + 0 by omega] at k0
 have k1 := g1
 rw [show o + (p + 1) = o + p + 1 by omega] at k1
 have k2 := g2
 rw [show o + (p + 2) = o + p + 2 by omega] at k2
 refine dl_many b o c p 3 _ w (fun i => rd l ((p + i : Nat) : Int)) (by omega) hc hl (fun i hi => rd_cell hC (p + i) (by omega)) ?_ ?_ (fun c' => dr_slow b (o + p) c' 3 (x0 : Int) _ 3 w (by omega) (by omega) k0 (drs_35 b (o + p) c' x0 x1 x2 w hT hX h1 h2 k0 k1 k2))
 ·show 192 ≤ rd l ((p + 0 : Nat) : Int) ∧ rd l ((p + 0 : Nat) : Int) ≤ 255
  rw [show (((p + 0 : Nat) : Int)) = (l.length : Int) - 3 by omega, e0]
  omega
 ·intro i hi1 hi2
  show 128 ≤ rd l ((p + i : Nat) : Int) ∧ rd l ((p + i : Nat) : Int) ≤ 191
  obtain rfl | rfl : i = 1 ∨ i = 2 := by omega
  ·rw [show (((p + 1 : Nat) : Int)) = (l.length : Int) - 2 by omega, e1]
   omega
  ·rw [show (((p + 2 : Nat) : Int)) = (l.length : Int) - 1 by omega, e2]
   omega
theorem dlx_52 (b o c : Nat) (l : List Int) (w : World) (hT : Lib.Utf8Tabs 13 14 w) (hC : Kd.C (Kd.int .u8) w (some ⟨b, o, none⟩) l.length l) (hc : l.length ≤ c) (hl : l.length ≤ 2147483647) (hn : 4 ≤ l.length) (x0 x1 x2 x3 : Nat) (hX : Lib.firstT x0 = 52) (h1 : 144 ≤ x1 ∧ x1 ≤ 191) (h2 : 128 ≤ x2 ∧ x2 ≤ 191) (h3 : 128 ≤ x3 ∧ x3 ≤ 191) (e0 : rd l (l.length - 4) = (x0 : Int)) (e1 : rd l (l.length - 3) = (x1 : Int)) (e2 : rd l (l.length - 2) = (x2 : Int)) (e3 : rd l (l.length - 1) = (x3 : Int)) :
 Calls Tryd.prog 39 #[.slice (some ⟨b, o, none⟩) l.length c] w fun e w' => e = .returned (.tuple #[.int .i32 (((x0 : Int) - 240) * 262144 + ((x1 : Int) - 128) * 4096 + ((x2 : Int) - 128) * 64 + ((x3 : Int) - 128)), .int .i64 4]) ∧ Below w.heap.size w w' := by
 have hL := firstT_lead52 hX
 obtain ⟨p, hp⟩ : ∃ p, l.length = p + 4 := ⟨l.length - 4, by omega⟩
 have g0 := rd_cell hC (p + 0) (by omega)
 rw [show (((p + 0 : Nat) : Int)) = (l.length : Int) - 4 by omega, e0] at g0
 have g1 := rd_cell hC (p + 1) (by omega)
 rw [show (((p + 1 : Nat) : Int)) = (l.length : Int) - 3 by omega, e1] at g1
 have g2 := rd_cell hC (p + 2) (by omega)
 rw [show (((p + 2 : Nat) : Int)) = (l.length : Int) - 2 by omega, e2] at g2
 have g3 := rd_cell hC (p + 3) (by omega)
 rw [show (((p + 3 : Nat) : Int)) = (l.length : Int) - 1 by omega, e3] at g3
 rw [hp] at hc hl ⊢
 have k0 := g0
 rw [show o + (p + 0) = o + p + 0 by omega] at k0
 have k1 := g1
 rw [show o + (p + 1) = o + p + 1 by omega] at k1
 have k2 := g2
 rw [show o + (p + 2) = o + p + 2 by omega] at k2
 have k3 := g3
 rw [show o + (p + 3) = o + p + 3 by omega] at k3
 refine dl_many b o c p 4 _ w (fun i => rd l ((p + i : Nat) : Int)) (by omega) hc hl (fun i hi => rd_cell hC (p + i) (by omega)) ?_ ?_ (fun c' => dr_slow b (o + p) c' 4 (x0 : Int) _ 4 w (by omega) (by omega) k0 (drs_52 b (o + p) c' x0 x1 x2 x3 w hT hX h1 h2 h3 k0 k1 k2 k3))
 ·show 192 ≤ rd l ((p + 0 : Nat) : Int) ∧ rd l ((p + 0 : Nat) : Int) ≤ 255
  rw [show (((p + 0 : Nat) : Int)) = (l.length : Int) - 4 by omega, e0]
  omega
 ·intro i hi1 hi2
  show 128 ≤ rd l ((p + i : Nat) : Int) ∧ rd l ((p + i : Nat) : Int) ≤ 191
  obtain rfl | rfl | rfl : i = 1 ∨ i = 2 ∨ i = 3 := by omega
  ·rw [show (((p + 1 : Nat) : Int)) = (l.length : Int) - 3 by omega, e1]
   omega
  ·rw [show (((p + 2 : Nat) : Int)) = (l.length : Int) - 2 by omega, e2]
   omega
  ·rw [show (((p + 3 : Nat) : Int)) = (l.length : Int) - 1 by omega, e3]
   omega
theorem dlx_4 (b o c : Nat) (l : List Int) (w : World) (hT : Lib.Utf8Tabs 13 14 w) (hC : Kd.C (Kd.int .u8) w (some ⟨b, o, none⟩) l.length l) (hc : l.length ≤ c) (hl : l.length ≤ 2147483647) (hn : 4 ≤ l.length) (x0 x1 x2 x3 : Nat) (hX : Lib.firstT x0 = 4) (h1 : 128 ≤ x1 ∧ x1 ≤ 191) (h2 : 128 ≤ x2 ∧ x2 ≤ 191) (h3 : 128 ≤ x3 ∧ x3 ≤ 191) (e0 : rd l (l.length - 4) = (x0 : Int)) (e1 : rd l (l.length - 3) = (x1 : Int)) (e2 : rd l (l.length - 2) = (x2 : Int)) (e3 : rd l (l.length - 1) = (x3 : Int)) :
 Calls Tryd.prog 39 #[.slice (some ⟨b, o, none⟩) l.length c] w fun e w' => e = .returned (.tuple #[.int .i32 (((x0 : Int) - 240) * 262144 + ((x1 : Int) - 128) * 4096 + ((x2 : Int) - 128) * 64 + ((x3 : Int) - 128)), .int .i64 4]) ∧ Below w.heap.size w w' := by
 have hL := firstT_lead4 hX
 obtain ⟨p, hp⟩ : ∃ p, l.length = p + 4 := ⟨l.length - 4, by omega⟩
 have g0 := rd_cell hC (p + 0) (by omega)
 rw [show (((p + 0 : Nat) : Int)) = (l.length : Int) - 4 by omega, e0] at g0
 have g1 := rd_cell hC (p + 1) (by omega)
 rw [show (((p + 1 : Nat) : Int)) = (l.length : Int) - 3 by omega, e1] at g1
 have g2 := rd_cell hC (p + 2) (by omega)
 rw [show (((p + 2 : Nat) : Int)) = (l.length : Int) - 2 by omega, e2] at g2
 have g3 := rd_cell hC (p + 3) (by omega)
 rw [show (((p + 3 : Nat) : Int)) = (l.length : Int) - 1 by omega, e3] at g3
 rw [hp] at hc hl ⊢
 have k0 := g0
 rw [show o + (p + 0) = o + p + 0 by omega] at k0
 have k1 := g1
 rw [show o + (p + 1) = o + p + 1 by omega] at k1
 have k2 := g2
 rw [show o + (p + 2) = o + p + 2 by omega] at k2
 have k3 := g3
 rw [show o + (p + 3) = o + p + 3 by omega] at k3
 refine dl_many b o c p 4 _ w (fun i => rd l ((p + i : Nat) : Int)) (by omega) hc hl (fun i hi => rd_cell hC (p + i) (by omega)) ?_ ?_ (fun c' => dr_slow b (o + p) c' 4 (x0 : Int) _ 4 w (by omega) (by omega) k0 (drs_4 b (o + p) c' x0 x1 x2 x3 w hT hX h1 h2 h3 k0 k1 k2 k3))
 ·show 192 ≤ rd l ((p + 0 : Nat) : Int) ∧ rd l ((p + 0 : Nat) : Int) ≤ 255
  rw [show (((p + 0 : Nat) : Int)) = (l.length : Int) - 4 by omega, e0]
  omega
 ·intro i hi1 hi2
  show 128 ≤ rd l ((p + i : Nat) : Int) ∧ rd l ((p + i : Nat) : Int) ≤ 191
  obtain rfl | rfl | rfl : i = 1 ∨ i = 2 ∨ i = 3 := by omega
  ·rw [show (((p + 1 : Nat) : Int)) = (l.length : Int) - 3 by omega, e1]
   omega
  ·rw [show (((p + 2 : Nat) : Int)) = (l.length : Int) - 2 by omega, e2]
   omega
  ·rw [show (((p + 3 : Nat) : Int)) = (l.length : Int) - 1 by omega, e3]
   omega
theorem dlx_68 (b o c : Nat) (l : List Int) (w : World) (hT : Lib.Utf8Tabs 13 14 w) (hC : Kd.C (Kd.int .u8) w (some ⟨b, o, none⟩) l.length l) (hc : l.length ≤ c) (hl : l.length ≤ 2147483647) (hn : 4 ≤ l.length) (x0 x1 x2 x3 : Nat) (hX : Lib.firstT x0 = 68) (h1 : 128 ≤ x1 ∧ x1 ≤ 143) (h2 : 128 ≤ x2 ∧ x2 ≤ 191) (h3 : 128 ≤ x3 ∧ x3 ≤ 191) (e0 : rd l (l.length - 4) = (x0 : Int)) (e1 : rd l (l.length - 3) = (x1 : Int)) (e2 : rd l (l.length - 2) = (x2 : Int)) (e3 : rd l (l.length - 1) = (x3 : Int)) :
 Calls Tryd.prog 39 #[.slice (some ⟨b, o, none⟩) l.length c] w fun e w' => e = .returned (.tuple #[.int .i32 (((x0 : Int) - 240) * 262144 + ((x1 : Int) - 128) * 4096 + ((x2 : Int) - 128) * 64 + ((x3 : Int) - 128)), .int .i64 4]) ∧ Below w.heap.size w w' := by
 have hL := firstT_lead68 hX
 obtain ⟨p, hp⟩ : ∃ p, l.length = p + 4 := ⟨l.length - 4, by omega⟩
 have g0 := rd_cell hC (p + 0) (by omega)
 rw [show (((p + 0 : Nat) : Int)) = (l.length : Int) - 4 by omega, e0] at g0
 have g1 := rd_cell hC (p + 1) (by omega)
 rw [show (((p + 1 : Nat) : Int)) = (l.length : Int) - 3 by omega, e1] at g1
 have g2 := rd_cell hC (p + 2) (by omega)
 rw [show (((p + 2 : Nat) : Int)) = (l.length : Int) - 2 by omega, e2] at g2
 have g3 := rd_cell hC (p + 3) (by omega)
 rw [show (((p + 3 : Nat) : Int)) = (l.length : Int) - 1 by omega, e3] at g3
 rw [hp] at hc hl ⊢
 have k0 := g0
 rw [show o + (p + 0) = o + p + 0 by omega] at k0
 have k1 := g1
 rw [show o + (p + 1) = o + p + 1 by omega] at k1
 have k2 := g2
 rw [show o + (p + 2) = o + p + 2 by omega] at k2
 have k3 := g3
 rw [show o + (p + 3) = o + p + 3 by omega] at k3
 refine dl_many b o c p 4 _ w (fun i => rd l ((p + i : Nat) : Int)) (by omega) hc hl (fun i hi => rd_cell hC (p + i) (by omega)) ?_ ?_ (fun c' => dr_slow b (o + p) c' 4 (x0 : Int) _ 4 w (by omega) (by omega) k0 (drs_68 b (o + p) c' x0 x1 x2 x3 w hT hX h1 h2 h3 k0 k1 k2 k3))
 ·show 192 ≤ rd l ((p + 0 : Nat) : Int) ∧ rd l ((p + 0 : Nat) : Int) ≤ 255
  rw [show (((p + 0 : Nat) : Int)) = (l.length : Int) - 4 by omega, e0]
  omega
 ·intro i hi1 hi2
  show 128 ≤ rd l ((p + i : Nat) : Int) ∧ rd l ((p + i : Nat) : Int) ≤ 191
  obtain rfl | rfl | rfl : i = 1 ∨ i = 2 ∨ i = 3 := by omega
  ·rw [show (((p + 1 : Nat) : Int)) = (l.length : Int) - 3 by omega, e1]
   omega
  ·rw [show (((p + 2 : Nat) : Int)) = (l.length : Int) - 2 by omega, e2]
   omega
  ·rw [show (((p + 3 : Nat) : Int)) = (l.length : Int) - 1 by omega, e3]
   omega
theorem cell_spot {w : World} {ad : Addr} {v : Value} (h : w.cell? ad = some v) : ad = ⟨ad.block, ad.off, none⟩ := by
 unfold World.cell? at h
 split at h
 ·split at h
  ·cases h
  ·rename_i hs
   cases ad with
   | mk b o s => cases s with
    | none => rfl
    | some s => exact absurd rfl hs
 ·cases h
theorem C_addr {w : World} {A : Option Addr} {l : List Int} (h : Kd.C (Kd.int .u8) w A l.length l) (hl : 0 < l.length) : ∃ b o, A = some ⟨b, o, none⟩ := by
 obtain ⟨ad, e, hc⟩ := Kd.at_int h 0 (by omega) (by omega)
 have h0 : ad.add (0 : Int).toNat = ad := by simp [Addr.add]
 rw [h0] at hc
 exact ⟨ad.block, ad.off, by rw [e, ← cell_spot hc]⟩
theorem nat_of {x : Int} (h : 0 ≤ x) : ∃ n : Nat, x = (n : Int) := Int.eq_ofNat_of_zero_le h
theorem utf8_DecodeLastRune.calls (A0 : Option Addr) (c0 : Nat) (l0 : List Int) (r1 r2 : Int) (w : World) (hr0 : Kd.C (Kd.int .u8) w A0 l0.length l0) (hc0 : l0.length ≤ c0) (hG : Laid w) (h : utf8_DecodeLastRune.f l0 = some (r1, r2)) :
 Calls Tryd.prog 39 #[.slice A0 l0.length c0] w fun e w' => e = .returned (.tuple #[.int .i32 r1, .int .i64 r2]) ∧ Below w.heap.size w w' := by
 unfold utf8_DecodeLastRune.f at h
 split at h
 ·cases h
 rename_i hl
 obtain ⟨b, o, rfl⟩ := C_addr hr0 (by omega)
 split at h
 ·rename_i h1
  obtain ⟨rfl, rfl⟩ := Prod.mk.inj (Option.some.inj h)
  have g := rd_cell hr0 (l0.length - 1) (by omega)
  rw [show (((l0.length - 1 : Nat) : Int)) = (l0.length : Int) - 1 by omega] at g
  exact dl_one b o c0 l0.length _ w (by omega) hc0 (by omega) g h1
 split at h
 ·cases h
 split at h
 ·rename_i n1 n2 h1
  obtain ⟨rfl, rfl⟩ := Prod.mk.inj (Option.some.inj h)
  obtain ⟨x0, e0⟩ := nat_of (x := rd l0 (l0.length - 2)) (by omega)
  obtain ⟨x1, e1⟩ := nat_of (x := rd l0 (l0.length - 1)) (by omega)
  rw [e0, e1]
  exact dlx_2 b o c0 l0 w hG.utf8 hr0 hc0 (by omega) (by omega) x0 x1 (firstT_2 (by omega)) (by omega) e0 e1
 split at h
 ·cases h
 split at h
 ·rename_i n1 n2 n3 n4 h1
  obtain ⟨rfl, rfl⟩ := Prod.mk.inj (Option.some.inj h)
  obtain ⟨x0, e0⟩ := nat_of (x := rd l0 (l0.length - 3)) (by omega)
  obtain ⟨x1, e1⟩ := nat_of (x := rd l0 (l0.length - 2)) (by omega)
  obtain ⟨x2, e2⟩ := nat_of (x := rd l0 (l0.length - 1)) (by omega)
  rw [e0, e1, e2]
  rcases h1 with h1 | h1 | h1
  ·exact dlx_19 b o c0 l0 w hG.utf8 hr0 hc0 (by omega) (by omega) x0 x1 x2 (firstT_19 (by omega)) (by omega) (by omega) e0 e1 e2
  ·exact dlx_3 b o c0 l0 w hG.utf8 hr0 hc0 (by omega) (by omega) x0 x1 x2 (firstT_3 (by omega)) (by omega) (by omega) e0 e1 e2
  ·exact dlx_35 b o c0 l0 w hG.utf8 hr0 hc0 (by omega) (by omega) x0 x1 x2 (firstT_35 (by omega)) (by omega) (by omega) e0 e1 e2
 split at h
 ·cases h
 split at h
 ·rename_i n1 n2 n3 n4 n5 n6 h1
  obtain ⟨rfl, rfl⟩ := Prod.mk.inj (Option.some.inj h)
  obtain ⟨x0, e0⟩ := nat_of (x := rd l0 (l0.length - 4)) (by omega)
  obtain ⟨x1, e1⟩ := nat_of (x := rd l0 (l0.length - 3)) (by omega)
  obtain ⟨x2, e2⟩ := nat_of (x := rd l0 (l0.length - 2)) (by omega)
  obtain ⟨x3, e3⟩ := nat_of (x := rd l0 (l0.length - 1)) (by omega)
  rw [e0, e1, e2, e3]
  rcases h1 with h1 | h1 | h1
  ·exact dlx_52 b o c0 l0 w hG.utf8 hr0 hc0 (by omega) (by omega) x0 x1 x2 x3 (firstT_52 (by omega)) (by omega) (by omega) (by omega) e0 e1 e2 e3
  ·exact dlx_4 b o c0 l0 w hG.utf8 hr0 hc0 (by omega) (by omega) x0 x1 x2 x3 (firstT_4 (by omega)) (by omega) (by omega) (by omega) e0 e1 e2 e3
  ·exact dlx_68 b o c0 l0 w hG.utf8 hr0 hc0 (by omega) (by omega) x0 x1 x2 x3 (firstT_68 (by omega)) (by omega) (by omega) (by omega) e0 e1 e2 e3
 ·cases h
def eB (r : Int) : List Int :=
  if r < 128 then [r]
  else if r < 2048 then [192 + r / 64, 128 + r % 64]
  else if 55296 ≤ r ∧ r ≤ 57343 then [239, 191, 189]
  else if r < 65536 then [224 + r / 4096, 128 + r / 64 % 64, 128 + r % 64]
  else [240 + r / 262144, 128 + r / 4096 % 64, 128 + r / 64 % 64, 128 + r % 64]
theorem eB_len (r : Int) : 1 ≤ (eB r).length ∧ (eB r).length ≤ 4 := by
 unfold eB
 split
 ·simp
 split
 ·simp
 split
 ·simp
 split <;> simp
def setB (w : World) (g : Nat) : Nat → List Int → World
  | _, [] => w
  | o, b :: r => setB (w.setCell ⟨g, o, none⟩ (.int .u8 b)) g (o + 1) r
def EncPost (g off : Nat) (r : Int) (w : World) (e : Ending) (w' : World) : Prop := e = .returned (.int .i64 ((eB r).length : Int)) ∧ w' = setB w g off (eB r)
set_option maxHeartbeats 4000000 in
set_option maxRecDepth 100000 in
theorem encNon_at (g off n c : Nat) (r : Int) (w : World) (hr0 : 128 ≤ r) (hr1 : r ≤ 1114111) (hn : 4 ≤ n) (hn2 : n ≤ 9223372036854775807)
 (b0 b1 b2 b3 : Int) (h0 : w.cell? ⟨g, off, none⟩ = some (.int .u8 b0)) (h1 : w.cell? ⟨g, off + 1, none⟩ = some (.int .u8 b1)) (h2 : w.cell? ⟨g, off + 2, none⟩ = some (.int .u8 b2)) (h3 : w.cell? ⟨g, off + 3, none⟩ = some (.int .u8 b3))
 (f0 : w.frozen? ⟨g, off, none⟩ = false) (f1 : w.frozen? ⟨g, off + 1, none⟩ = false) (f2 : w.frozen? ⟨g, off + 2, none⟩ = false) (f3 : w.frozen? ⟨g, off + 3, none⟩ = false) :
 Calls Tryd.prog 63 #[.slice (some ⟨g, off, none⟩) n c, .int .i32 r] w (EncPost g off r w) := by
 have hu : (r % 4294967296) = r := by omega
 go_enter Tryd.func63, Tryd.ntmps63
 go_wp2
 all_goals
  go_ret
  unfold EncPost eB
  first
  | (rw [if_neg (by omega), if_pos (by omega)]; exact ⟨rfl, rfl⟩)
  | (rw [if_neg (by omega), if_neg (by omega), if_pos (by omega)]; exact ⟨rfl, rfl⟩)
  | (rw [if_neg (by omega), if_neg (by omega), if_neg (by omega), if_pos (by omega)]; exact ⟨rfl, rfl⟩)
  | (rw [if_neg (by omega), if_neg (by omega), if_neg (by omega), if_neg (by omega)]; exact ⟨rfl, rfl⟩)
theorem set_mid {α : Type} (L : List α) (o : Nat) (b : α) (h : o < L.length) : L.set o b = L.take o ++ b :: L.drop (o + 1) := List.set_eq_take_append_cons_drop .. |>.trans (by rw [if_pos h])
theorem splice_cons {α : Type} (L : List α) (o : Nat) (b : α) (r : List α) (h : o < L.length) : splice (L.set o b) (o + 1) r = splice L o (b :: r) := by
 have ht : (L.take o).length = o := by rw [List.length_take]; omega
 unfold splice
 rw [set_mid L o b h]
 have e1 : (L.take o ++ b :: L.drop (o + 1)).take (o + 1) = L.take o ++ [b] := by
  rw [List.take_append, ht, Nat.add_sub_cancel_left, List.take_of_length_le (by omega)]
  rfl
 have e2 : (L.take o ++ b :: L.drop (o + 1)).drop (o + 1 + r.length) = L.drop (o + (b :: r).length) := by
  rw [List.drop_append, ht, List.drop_of_length_le (by omega), List.nil_append, show o + 1 + r.length - o = r.length + 1 by omega, List.drop_succ_cons, List.drop_drop]
  congr 1
  simp only [List.length_cons]
  omega
 rw [e1, e2]
 simp
theorem setB_own (e g cap : Nat) (w0 w : World) (P S : Nat → Prop) (hS : S g ∨ w.heap.size ≤ g) (hg : w0.heap.size ≤ g) : ∀ (bs : List Int) (o : Nat) (W : World) (l : List Int), Kd.R (Kd.int .u8) e W w0.heap.size P (.slice (some ⟨g, 0, none⟩) l.length cap) l → Below w0.heap.size w0 W → Kept w W S → o + bs.length ≤ l.length →
 Kd.R (Kd.int .u8) e (setB W g o bs) w0.heap.size P (.slice (some ⟨g, 0, none⟩) l.length cap) (splice l o bs) ∧ Below w0.heap.size w0 (setB W g o bs) ∧ Kept w (setB W g o bs) S
 | [], o, W, l, hR, hB, hK, _ => by
  have e : splice l o [] = l := by simp [splice]
  rw [e]
  exact ⟨hR, hB, hK⟩
 | b :: r, o, W, l, hR, hB, hK, hl => by
  simp only [List.length_cons] at hl
  obtain ⟨h1, h2⟩ := Kd.R_putg hR (o : Int) b
  rw [Int.toNat_natCast] at h1 h2
  have h3 := setB_own e g cap w0 w P S hS hg r (o + 1) (W.setCell ⟨g, o, none⟩ (.int .u8 b)) (l.set o b) (by rw [List.length_set]; exact h1) (below_set hB hg) (Kept.of_grown h2 hK (fun k hk => by obtain rfl := Option.some.inj hk; exact hS)) (by rw [List.length_set]; omega)
  rw [List.length_set, splice_cons l o b r (by omega)] at h3
  exact h3
def utf8_encodeRuneNonASCII.f (k : Nat) (l0 : List Int) (a1 : Int) : Option (Int × List Int) := if 128 ≤ a1 ∧ a1 ≤ 1114111 ∧ 4 ≤ l0.length then some (((eB a1).length : Int), splice l0 0 (eB a1)) else none
theorem utf8_encodeRuneNonASCII.mono : ∀ a0 a1 k, LeO (utf8_encodeRuneNonASCII.f k a0 a1) (utf8_encodeRuneNonASCII.f (k + 1) a0 a1) := fun _ _ _ => LeO.refl _
theorem utf8_encodeRuneNonASCII.calls (k : Nat) (P0_ : Nat → Prop) (u9000_ : Value) (l0 : List Int) (a1 : Int) (r1 : Int) (r2 : List Int) (w0 w : World) (hB : Below w0.heap.size w0 w) (ho0 : Kd.R (Kd.int .u8) 5 w w0.heap.size P0_ u9000_ l0) (h : utf8_encodeRuneNonASCII.f k l0 a1 = some (r1, r2)) :
 Calls Tryd.prog 63 #[u9000_, .int .i32 a1] w fun e w' => e = .returned (.int .i64 r1) ∧ Kd.R (Kd.int .u8) 5 w' w0.heap.size (fun k_ => (P0_ k_ ∨ w.heap.size ≤ k_)) u9000_ r2 ∧ Below w0.heap.size w0 w' ∧ Kept w w' (fun k_ => P0_ k_) := by
 unfold utf8_encodeRuneNonASCII.f at h
 split at h
 case isFalse => cases h
 case isTrue hs =>
 obtain ⟨hr0, hr1, hn⟩ := hs
 obtain ⟨rfl, rfl⟩ := Prod.mk.inj (Option.some.inj h)
 have hown := Kd.own_of_R ho0
 rcases hown.2 with ⟨_, hx0⟩ | ⟨g, cap, cur, hv, hb, hh, hnc, hcm, hcs, htake⟩
 ·have : l0.length = 0 := by simpa using hx0
  omega
 ·subst hv
  have hP := ho0.1 g rfl
  have c := fun (i : Nat) (hi : i < l0.length) => Kd.R_cell (0 : Int) ho0 (i : Int) (by omega) (by omega)
  have c0 := c 0 (by omega)
  have c1 := c 1 (by omega)
  have c2 := c 2 (by omega)
  have c3 := c 3 (by omega)
  simp only [Int.toNat_natCast] at c0 c1 c2 c3
  have hl := eB_len a1
  have fin := setB_own 5 g cap w0 w (fun k_ => (P0_ k_ ∨ w.heap.size ≤ k_)) (fun k_ => P0_ k_) (.inl hP) hb (eB a1) 0 w l0 (Kd.R_mono ho0 (fun k_ hk => .inl hk)) hB (Kept.refl _ _) (by omega)
  refine (encNon_at g 0 l0.length cap a1 w hr0 hr1 hn (by unfold maxLen at *; omega) _ _ _ _ c0.1 c1.1 c2.1 c3.1 c0.2 c1.2 c2.2 c3.2).mono ?_
  rintro e w' ⟨rfl, rfl⟩
  exact ⟨rfl, fin⟩
def utf8_EncodeRune.f (k : Nat) (l0 : List Int) (a1 : Int) : Option (Int × List Int) := if ((a1) % 4294967296) ≤ 127 then (if 0 < (l0.length : Int) then (some (1, (l0.set (0 : Int).toNat ((a1) % 256)))) else (none)) else ((utf8_encodeRuneNonASCII.f k l0 a1).bind fun bt102 => (some (bt102.1, bt102.2)))
theorem utf8_EncodeRune.mono : ∀ a0 a1 k, LeO (utf8_EncodeRune.f k a0 a1) (utf8_EncodeRune.f (k + 1) a0 a1) := by
 intro a0 a1 k
 unfold utf8_EncodeRune.f
 repeat' first
  | (with_reducible exact utf8_encodeRuneNonASCII.mono _ _ _)
  | (with_reducible exact LeO.refl _)
  | (with_reducible exact LeO.none _)
  | (with_reducible refine LeO.ite ?_ ?_)
  | (with_reducible refine LeO.bind ?_ (fun _ => ?_))
  | exact utf8_encodeRuneNonASCII.mono _ _ _
  | exact LeO.none _
  | refine LeO.ite ?_ ?_
  | refine LeO.bind ?_ (fun _ => ?_)
set_option maxHeartbeats 8000000 in
set_option maxRecDepth 100000 in
theorem utf8_EncodeRune.calls (k : Nat) (P0_ : Nat → Prop) (u9000_ : Value) (l0 : List Int) (a1 : Int) (r1 : Int) (r2 : List Int) (w0 w : World) (hB : Below w0.heap.size w0 w) (ho0 : Kd.R (Kd.int .u8) 5 w w0.heap.size P0_ u9000_ l0) (h : utf8_EncodeRune.f k l0 a1 = some (r1, r2)) :
 Calls Tryd.prog 40 #[u9000_, .int .i32 a1] w fun e w' => e = .returned (.int .i64 r1) ∧ Kd.R (Kd.int .u8) 5 w' w0.heap.size (fun k_ => (P0_ k_ ∨ w.heap.size ≤ k_)) u9000_ r2 ∧ Below w0.heap.size w0 w' ∧ Kept w w' (fun k_ => P0_ k_) := by
 have HO0 := mk0 (show Kd.R (Kd.int .u8) 5 w w0.heap.size (fun k_ => (P0_ k_ ∨ w.heap.size ≤ k_)) u9000_ l0 from Kd.R_mono ho0 (fun k_ hk => (.inl hk)))
 have HK := mk0 (Kept.refl w (fun k_ => P0_ k_))
 have HW0 := mk0 hB.size
 have HB := mk0 hB
 clear hB
 have H : (if ((a1) % 4294967296) ≤ 127 then (if 0 < (l0.length : Int) then (some (1, (l0.set (0 : Int).toNat ((a1) % 256)))) else (none)) else ((utf8_encodeRuneNonASCII.f k l0 a1).bind fun bt102 => (some (bt102.1, bt102.2)))) = some (r1, r2) := h
 clear h
 by_cases c3 : ((a1) % 4294967296) ≤ 127
 rotate_left
 ·rw [if_neg c3] at H
  have c3b0 : decide (((a1) % 4294967296) ≤ 127) = false := decide_eq_false c3
  clear c3
  replace H := Option.bind_eq_some_iff.mp H
  obtain ⟨⟨t102, t103⟩, A80, H⟩ := H
  replace H : (some (t102, t103)) = some (r1, r2) := H
  have A8 := mk0 A80
  clear A80
  simp only [Option.some.injEq, Prod.mk.injEq] at H
  obtain ⟨rfl, rfl⟩ := H
  obtain ⟨Ao9, co9, eo9⟩ := Kd.R_slice HO0.out
  subst eo9
  go_enter Tryd.func40, Tryd.ntmps40
  go_wp2_with (first | ((with_reducible refine gate_callee (f := 63) rfl ?_); refine goesL_ (some 14) rfl rfl Tryd.func63 zq6 rfl #[.slice Ao9 l0.length co9, .int .i32 a1] rfl zq1 ?_; (with_reducible refine (utf8_encodeRuneNonASCII.calls k (fun k_ => some k_ = (.slice Ao9 l0.length co9 : Value).ownBlock) (.slice Ao9 l0.length co9) l0 a1 t102 t103 w0 _ ?side1 ?side2 A8.out).mono ?_); (case side1 => exact zq0); (case side2 => exact Kd.R_tight rfl HO0.out); rintro e w10 ⟨rfl, hy0, hb, hkp⟩; refine ⟨_, rfl, ?_⟩; have n0_ := mk0 (Kd.R_reok rfl hy0 (fun k_ e_ => HO0.out.1 k_ e_)); have n1_ := mk0 (Kept.then_ (S := (fun k_ => P0_ k_)) zq24 hkp (fun k_ hs_ => (fun e_ => (HO0.out.1 k_ e_.symm)) hs_)); have n2_ := mk0 (hb); clear HO0 HK HB; have HO0 := n0_; have HK := n1_; have HB := n2_; clear n0_ n1_ n2_; (try clear hb); (try clear hkp); (try clear hy0)))
  go_ret
  exact ⟨by first | rfl | (simp [errW_none, errW_some] <;> rfl) | (simp [*, errW_none, errW_some] <;> rfl), by (with_reducible repeat (first | apply Kd.R_alloc | apply Kd.R_drewN | apply Kd.R_drew)); exact HO0.out, by repeat (first | (with_reducible first | exact HB.out | apply below_alloc | apply pw_below_drewN | apply below_drew1) | exact HB.out), by repeat (first | (with_reducible first | exact HK.out | apply Kept.alloc | apply Kept.drewN | apply Kept.drew) | exact HK.out)⟩
 rw [if_pos c3] at H
 have c3b0 : decide (((a1) % 4294967296) ≤ 127) = true := decide_eq_true c3
 clear c3
 by_cases c4 : 0 < (l0.length : Int)
 rotate_left
 ·rw [if_neg c4] at H
  exact absurd H (by simp)
 rw [if_pos c4] at H
 have c4b0 : decide (0 < (l0.length : Int)) = true := decide_eq_true c4
 have c4b1 : decide (0 < l0.length) = true := decide_eq_true (by omega)
 clear c4
 obtain ⟨y101, hy101⟩ : ∃ y_ : List Int, y_ = (l0.set (0 : Int).toNat ((a1) % 256)) := ⟨_, rfl⟩
 replace H : (some (1, y101)) = some (r1, r2) := by first | (rw [hy101]; with_reducible exact H) | (have H2_ := (Option.bind_some _ _).symm.trans H; rw [hy101]; with_reducible exact H2_) | (have H2_ := (Option.bind_some _ _).symm.trans H; with_reducible exact H2_) | with_reducible exact H | (rw [hy101]; exact H) | exact H
 have Ny101 := mk0 hy101
 clear hy101
 simp only [Option.some.injEq, Prod.mk.injEq] at H
 obtain ⟨rfl, rfl⟩ := H
 have p5 : 0 ≤ (0 : Int) := (by omega)
 have q5 : (0 : Int) < ((l0.length : Int) : Int) := of_decide_eq_true zq2
 have qi5 : (0 < l0.length) = True := eq_true (by omega)
 obtain ⟨go5, co5, eo5, gb5, gl5, cl5, HG5⟩ := Kd.R_form HO0.out (by omega)
 (first | cases eo5 | (injection eo5 with ea_ en_ ec_; (first | subst ea_ | (injection ea_ with ea_; subst ea_)); subst ec_; clear en_))
 have GB5 := mk0 gb5
 have GG5 := mk0 HG5
 clear gb5 gl5 HG5
 have HMgo5 := mk0 (show (P0_ go5 ∨ w.heap.size ≤ go5) from (HO0.out.1 _ rfl))
 obtain ⟨hx5_0, hf5_0⟩ := Kd.R_celln 0 HO0.out (0 : Int) p5 q5
 (try rw [show ((0 : Int)).toNat = 0 from rfl] at hx5_0)
 (try simp only [Nat.reduceMul, Nat.zero_mul, Nat.zero_add, Nat.reduceAdd] at hx5_0)
 (try rw [show ((0 : Int)).toNat = 0 from rfl] at hf5_0)
 (try simp only [Nat.reduceMul, Nat.zero_mul, Nat.zero_add, Nat.reduceAdd] at hf5_0)
 replace p5 := eq_true p5
 replace q5 := eq_true q5
 have HP6 := Kd.R_putg HO0.out (0 : Int) ((a1) % 256)
 go_enter Tryd.func40, Tryd.ntmps40
 go_wp2_with (first | ((with_reducible refine gate_store (t := 5) (p := 11) rfl ?_); refine store_event (t := 5) (p := 11) (v := ?vo_w7) (w1 := (w.setCell ⟨go5, (0 : Int).toNat, none⟩ (.int .u8 ((a1) % 256)))) ?hg ?ho ?hn ?hr ?_; (case ho => rfl); (case hg => rfl); (case hn => rfl); (case hr => exact zq16); intro w7 hw; have hg : w.grownBy w7 (some go5) := (by rw [hw]; exact HP6.2); have hp_ : Kd.R (Kd.int .u8) 5 w7 w0.heap.size (fun k_ => (P0_ k_ ∨ w.heap.size ≤ k_)) (.slice (some ⟨go5, 0, none⟩) l0.length co5) y101 := (by rw [hw, Ny101.out]; exact HP6.1); clear HP6; have n0_ := mk0 (hp_); have n1_ := mk0 ((by rw [hw]; exact below_set (HB.out) GB5.out : Below w0.heap.size w0 w7)); have n2_ := mk0 (Kept.of_grown (S := (fun k_ => P0_ k_)) hg zq24 (fun k_ e_ => (HO0.out.1 k_ e_))); clear HO0 HB HK; have HO0 := n0_; have HB := n1_; have HK := n2_; clear n0_ n1_ n2_; clear hg hw hp_))
 go_ret
 exact ⟨by first | rfl | (simp [errW_none, errW_some] <;> rfl) | (simp [*, errW_none, errW_some] <;> rfl), by (with_reducible repeat (first | apply Kd.R_alloc | apply Kd.R_drewN | apply Kd.R_drew)); exact HO0.out, by repeat (first | (with_reducible first | exact HB.out | apply below_alloc | apply pw_below_drewN | apply below_drew1) | exact HB.out), by repeat (first | (with_reducible first | exact HK.out | apply Kept.alloc | apply Kept.drewN | apply Kept.drew) | exact HK.out)⟩
mutual
def match_Allowable.j0 : Nat → ByteArray → Bool → Option (ByteArray × ByteArray)
  | 0, _, _ => none
  | k + 1, x0, x18 => if x18 = true then (some ((⟨#[]⟩ : ByteArray), (⟨#[]⟩ : ByteArray))) else (if 0 ≤ (x0.size : Int) then (if ((x0.size : Int) : Int).toNat ≤ 281474976710656 then (match_Allowable.l0 k x0 (([] : List Int)) (([] : List Int)) false 0) else (none)) else (none))
def match_Allowable.j2 : Nat → List Int → List Int → Bool → Option (ByteArray × ByteArray)
  | 0, _, _, _ => none
  | k + 1, x4, x5, x6 => if x6 = true then ((utf8_DecodeLastRune.f x5).bind fun bt119 => (if bt119.1 = 65533 then (some (strOfNums x4, strOfNums x5)) else (if bt119.1 < 1114111 then (if (wrap32 (bt119.1 + 1)) > 127 then (if 4 ≤ 281474976710656 then ((some (List.replicate 4 0 : List Int)).bind fun y121 => ((utf8_EncodeRune.f k y121 (wrap32 (bt119.1 + 1))).bind fun bt124 => (if 0 ≤ (wrap64 ((x5.length : Int) - bt119.2)) then (if (wrap64 ((x5.length : Int) - bt119.2)) ≤ (x5.length : Int) then ((some (x5.take ((wrap64 ((x5.length : Int) - bt119.2)) : Int).toNat : List Int)).bind fun y126 => (if 0 ≤ bt124.1 then (if bt124.1 ≤ (y121.length : Int) then ((some (bt124.2.take (bt124.1 : Int).toNat : List Int)).bind fun y129 => (if y126.length + y129.length < 140737488355328 then (some (strOfNums x4, strOfNums (y126 ++ y129))) else (none))) else (none)) else (none))) else (none)) else (none)))) else (none)) else (if 0 ≤ (wrap64 ((x5.length : Int) - bt119.2)) then (if (wrap64 ((x5.length : Int) - bt119.2)) ≤ (x5.length : Int) then ((some (x5.take ((wrap64 ((x5.length : Int) - bt119.2)) : Int).toNat : List Int)).bind fun y136 => (if y136.length < 140737488355328 then (some (strOfNums x4, strOfNums (y136 ++ [(wrap32 (bt119.1 + 1)) % 256]))) else (none))) else (none)) else (none))) else (some (strOfNums x4, strOfNums x5))))) else (some (strOfNums x4, strOfNums x5))
def match_Allowable.l0 : Nat → ByteArray → List Int → List Int → Bool → Int → Option (ByteArray × ByteArray)
  | 0, _, _, _, _, _ => none
  | k + 1, x0, x4, x5, x6, x7 => if x7 < (x0.size : Int) then (if 0 ≤ x7 then (if (bt x0 x7) = 42 then (match_Allowable.j2 k x4 x5 true) else (if (bt x0 x7) = 63 then (if x4.length < 140737488355328 then (if x5.length + ([244, 143, 191, 191] : List Int).length < 140737488355328 then (match_Allowable.l0 k x0 (x4 ++ [0]) (x5 ++ ([244, 143, 191, 191] : List Int)) x6 (wrap64 (x7 + 1))) else (none)) else (none)) else (if x4.length < 140737488355328 then (if x5.length < 140737488355328 then (match_Allowable.l0 k x0 (x4 ++ [bt x0 x7]) (x5 ++ [bt x0 x7]) x6 (wrap64 (x7 + 1))) else (none)) else (none)))) else (none)) else (match_Allowable.j2 k x4 x5 x6)
end
def match_Allowable.f (k : Nat) (a0 : ByteArray) : Option (ByteArray × ByteArray) := if a0.toList = ([] : List UInt8) then (match_Allowable.j0 k a0 true) else (if 0 < (a0.size : Int) then (match_Allowable.j0 k a0 ((bt a0 0) == 42)) else (none))
theorem match_Allowable.mono_l : ∀ k, (∀ y0 y1, LeO (match_Allowable.j0 k y0 y1) (match_Allowable.j0 (k + 1) y0 y1)) ∧ (∀ y0 y1 y2, LeO (match_Allowable.j2 k y0 y1 y2) (match_Allowable.j2 (k + 1) y0 y1 y2)) ∧ (∀ y0 y1 y2 y3 y4, LeO (match_Allowable.l0 k y0 y1 y2 y3 y4) (match_Allowable.l0 (k + 1) y0 y1 y2 y3 y4))
 | 0 => ⟨fun _ _ r h => by simp [match_Allowable.j0] at h, fun _ _ _ r h => by simp [match_Allowable.j2] at h, fun _ _ _ _ _ r h => by simp [match_Allowable.l0] at h⟩
 | k + 1 => by
  obtain ⟨ih0, ih1, ih2⟩ := match_Allowable.mono_l k
  refine ⟨?_, ?_, ?_⟩
  ·intro y0 y1
   unfold match_Allowable.j0
   repeat' first
   | (with_reducible exact ih0 _ _)
   | (with_reducible exact ih1 _ _ _)
   | (with_reducible exact ih2 _ _ _ _ _)
   | (with_reducible exact utf8_EncodeRune.mono _ _ _)
   | (with_reducible exact LeO.refl _)
   | (with_reducible exact LeO.none _)
   | (with_reducible refine LeO.ite ?_ ?_)
   | (with_reducible refine LeO.bind ?_ (fun _ => ?_))
   | exact ih0 _ _
   | exact ih1 _ _ _
   | exact ih2 _ _ _ _ _
   | exact utf8_EncodeRune.mono _ _ _
   | exact LeO.none _
   | refine LeO.ite ?_ ?_
   | refine LeO.bind ?_ (fun _ => ?_)
  ·intro y0 y1 y2
   unfold match_Allowable.j2
   repeat' first
   | (with_reducible exact ih0 _ _)
   | (with_reducible exact ih1 _ _ _)
   | (with_reducible exact ih2 _ _ _ _ _)
   | (with_reducible exact utf8_EncodeRune.mono _ _ _)
   | (with_reducible exact LeO.refl _)
   | (with_reducible exact LeO.none _)
   | (with_reducible refine LeO.ite ?_ ?_)
   | (with_reducible refine LeO.bind ?_ (fun _ => ?_))
   | exact ih0 _ _
   | exact ih1 _ _ _
   | exact ih2 _ _ _ _ _
   | exact utf8_EncodeRune.mono _ _ _
   | exact LeO.none _
   | refine LeO.ite ?_ ?_
   | refine LeO.bind ?_ (fun _ => ?_)
  ·intro y0 y1 y2 y3 y4
   unfold match_Allowable.l0
   repeat' first
   | (with_reducible exact ih0 _ _)
   | (with_reducible exact ih1 _ _ _)
   | (with_reducible exact ih2 _ _ _ _ _)
   | (with_reducible exact utf8_EncodeRune.mono _ _ _)
   | (with_reducible exact LeO.refl _)
   | (with_reducible exact LeO.none _)
   | (with_reducible refine LeO.ite ?_ ?_)
   | (with_reducible refine LeO.bind ?_ (fun _ => ?_))
   | exact ih0 _ _
   | exact ih1 _ _ _
   | exact ih2 _ _ _ _ _
   | exact utf8_EncodeRune.mono _ _ _
   | exact LeO.none _
   | refine LeO.ite ?_ ?_
   | refine LeO.bind ?_ (fun _ => ?_)
theorem match_Allowable.mono : ∀ a0 k, LeO (match_Allowable.f k a0) (match_Allowable.f (k + 1) a0) := by
 intro a0 k
 obtain ⟨ih0, ih1, ih2⟩ := match_Allowable.mono_l k
 unfold match_Allowable.f
 repeat' first
  | (with_reducible exact ih0 _ _)
  | (with_reducible exact ih1 _ _ _)
  | (with_reducible exact ih2 _ _ _ _ _)
  | (with_reducible exact utf8_EncodeRune.mono _ _ _)
  | (with_reducible exact LeO.refl _)
  | (with_reducible exact LeO.none _)
  | (with_reducible refine LeO.ite ?_ ?_)
  | (with_reducible refine LeO.bind ?_ (fun _ => ?_))
  | exact ih0 _ _
  | exact ih1 _ _ _
  | exact ih2 _ _ _ _ _
  | exact utf8_EncodeRune.mono _ _ _
  | exact LeO.none _
  | refine LeO.ite ?_ ?_
  | refine LeO.bind ?_ (fun _ => ?_)
def match_Allowable.T24 : Bool × List (List Nat × List Nat) := (true, [([], []), ([], []), ([1], [1]), ([], []), ([2, 3], [2, 3]), ([0, 4], [0, 4]), ([], []), ([], []), ([6, 7], [6, 7]), ([5, 8], [5, 8]), ([9, 9, 0, 1, 2, 3, 4, 5, 6, 7, 8, 9], [0, 1, 9])])
def match_Allowable.B24 : List Nat := [0, 0, 2, 0, 14, 31, 0, 0, 192, 511, 1023]
theorem match_Allowable.tab24 : rtab .any (opsOf Tryd.f24 24) = match_Allowable.T24 := by kernel_rfl
theorem match_Allowable.bits24 : waitsOk match_Allowable.T24.2 match_Allowable.B24 = true := by kernel_rfl
set_option maxHeartbeats 8000000 in
set_option maxRecDepth 100000 in
theorem match_Allowable.calls (k : Nat) (a0 : ByteArray) (r1 : ByteArray) (r2 : ByteArray) (w : World) (hG : Laid w) (h : match_Allowable.f k a0 = some (r1, r2)) :
 Calls Tryd.prog 24 #[.string a0] w fun e w' => e = .returned (.tuple #[.string r1, .string r2]) ∧ Below w.heap.size w w' := by
 have HG := mk0 hG
 clear hG
 have HRG0 := mk0 (Laid.mrb_ HG.out)
 have HB := mk0 (Below.refl w.heap.size w)
 have H : (if a0.toList = ([] : List UInt8) then (match_Allowable.j0 k a0 true) else (if 0 < (a0.size : Int) then (match_Allowable.j0 k a0 ((bt a0 0) == 42)) else (none))) = some (r1, r2) := h
 clear h
 have HC2 := mk0 H
 clear H
 go_enter Tryd.func24, Tryd.ntmps24
 go_upto_region 1 with (fail)
 go_cut [18] (fun v18 wc => ∃ (kq : Nat) (x18_1 : Bool), v18 = .bool x18_1 ∧ Aside0 (match_Allowable.j0 kq a0 x18_1 = some (r1, r2)) ∧ Aside0 (kq ≤ k) ∧ Aside0 (Below w.heap.size w wc))
 case first =>
  have H := HC2.out
  clear HC2
  by_cases c3 : a0.toList = ([] : List UInt8)
  ·rw [if_pos c3] at H
   have c3b0 : (a0.toList == ([] : List UInt8)) = true := beq_iff_eq.mpr c3
   have c3b1 : (a0.toList != ([] : List UInt8)) = false := bne_eq_false_iff_eq.mpr c3
   clear c3
   (first | rw [c3b0] | (simp only [i64_w, i32_w]; rw [c3b0]) | skip)
   have H' := mk0 H
   clear H
   go_wp2
   go_meet
   case rel => exact ⟨_, (true), zq4, H', ⟨by first | omega | exact Nat.le_refl _⟩, ⟨by repeat (first | (with_reducible first | exact HB.out | apply below_alloc | apply pw_below_drewN | apply below_drew1) | exact HB.out)⟩⟩
  rw [if_neg c3] at H
  have c3b0 : (a0.toList == ([] : List UInt8)) = false := beq_eq_false_iff_ne.mpr c3
  have c3b1 : (a0.toList != ([] : List UInt8)) = true := bne_iff_ne.mpr c3
  (first | rw [c3b0] | (simp only [i64_w, i32_w]; rw [c3b0]) | skip)
  by_cases c4 : 0 < (a0.size : Int)
  rotate_left
  ·rw [if_neg c4] at H
   exact absurd H (by simp)
  rw [if_pos c4] at H
  have c4b0 : decide (0 < (a0.size : Int)) = true := decide_eq_true c4
  have c4b1 : decide (0 < a0.size) = true := decide_eq_true (by omega)
  clear c4
  have H' := mk0 H
  clear H
  have p5 : 0 ≤ (0 : Int) := (by omega)
  have q5 : 0 < a0.size := (by have : (0 : Int) < (a0.size : Int) := of_decide_eq_true zq2; omega)
  have hx5 : ∀ h : 0 < a0.size, ((a0[0]'h).toNat : Int) = bt a0 0 := bt_at a0 0
  clear p5
  have qi5 : (0 < (a0.size : Int)) = True := eq_true (of_decide_eq_true zq2)
  replace q5 := eq_true q5
  go_wp2
  go_meet
  case rel => exact ⟨_, (((bt a0 0) == 42)), zq4, H', ⟨by first | omega | exact Nat.le_refl _⟩, ⟨by repeat (first | (with_reducible first | exact HB.out | apply below_alloc | apply pw_below_drewN | apply below_drew1) | exact HB.out)⟩⟩
 case rest =>
  clear HC2
  try clear c2
  try clear p2
  try clear c3
  try clear c3b0
  try clear c3b1
  try clear c4
  try clear c4b0
  try clear c4b1
  try clear p5
  try clear q5
  try clear hx5
  try clear qi5
  try clear p5
  try clear q5
  obtain ⟨kq, x18_1, rfl, HA, HJ1, HB⟩ := hcut
  cases kq with
  | zero => exact absurd HA.out (by simp [match_Allowable.j0])
  | succ kj1 =>
   have H := HA.out
   clear HA
   simp only [match_Allowable.j0] at H
   by_cases c6 : x18_1 = true
   ·subst c6
    have H1 : (some ((⟨#[]⟩ : ByteArray), (⟨#[]⟩ : ByteArray))) = some (r1, r2) := by rw [if_pos rfl] at H; exact H
    clear H
    have H := H1
    clear H1
    simp only [Option.some.injEq, Prod.mk.injEq] at H
    obtain ⟨rfl, rfl⟩ := H
    go_wp2
    go_ret2
    exact ⟨by first | rfl | (simp [errW_none, errW_some] <;> rfl) | (simp [*, errW_none, errW_some] <;> rfl), by repeat (first | (with_reducible first | exact HB.out | apply below_alloc | apply pw_below_drewN | apply below_drew1) | exact HB.out)⟩
   replace c6 := Bool.eq_false_iff.mpr c6
   subst c6
   have H1 : (if 0 ≤ (a0.size : Int) then (if ((a0.size : Int) : Int).toNat ≤ 281474976710656 then (match_Allowable.l0 kj1 a0 (([] : List Int)) (([] : List Int)) false 0) else (none)) else (none)) = some (r1, r2) := by rw [if_neg (show ¬ (false = true) by decide)] at H; exact H
   clear H
   have H := H1
   clear H1
   by_cases c7 : 0 ≤ (a0.size : Int)
   rotate_left
   ·rw [if_neg c7] at H
    exact absurd H (by simp)
   rw [if_pos c7] at H
   have c7b0 := eq_true c7
   have c7b1 : decide (0 ≤ (a0.size : Int)) = true := decide_eq_true c7
   clear c7
   by_cases c8 : ((a0.size : Int) : Int).toNat ≤ 281474976710656
   rotate_left
   ·rw [if_neg c8] at H
    exact absurd H (by simp)
   rw [if_pos c8] at H
   have c8b0 := eq_true c8
   have c8b1 : decide (((a0.size : Int) : Int).toNat ≤ 281474976710656) = true := decide_eq_true c8
   clear c8
   obtain ⟨y101, hy101⟩ : ∃ y_ : List Int, y_ = (([] : List Int)) := ⟨_, rfl⟩
   replace H : (match_Allowable.l0 kj1 a0 y101 (([] : List Int)) false 0) = some (r1, r2) := by first | (rw [hy101]; with_reducible exact H) | (have H2_ := (Option.bind_some _ _).symm.trans H; rw [hy101]; with_reducible exact H2_) | (have H2_ := (Option.bind_some _ _).symm.trans H; with_reducible exact H2_) | with_reducible exact H | (rw [hy101]; exact H) | exact H
   have Ny101 := mk0 hy101
   clear hy101
   obtain ⟨y104, hy104⟩ : ∃ y_ : List Int, y_ = (([] : List Int)) := ⟨_, rfl⟩
   replace H : (match_Allowable.l0 kj1 a0 y101 y104 false 0) = some (r1, r2) := by first | (rw [hy104]; with_reducible exact H) | (have H2_ := (Option.bind_some _ _).symm.trans H; rw [hy104]; with_reducible exact H2_) | (have H2_ := (Option.bind_some _ _).symm.trans H; with_reducible exact H2_) | with_reducible exact H | (rw [hy104]; exact H) | exact H
   have Ny104 := mk0 hy104
   clear hy104
   have HC9 := mk0 H
   clear H
   go_upto_block 0 with (first | ((with_reducible refine gate_dst (N := 21) rfl ?_); refine R_make0g (Kd.int .u8) _ 5 rfl (N := 21) rfl 29 _ _ rfl (a0.size : Int) rfl rfl Tryd.underlying29 (.int .u8 0) 1 info5 (by omega) (ok := fun _ => True) trivial (of_decide_eq_true zq2) (Nat.le_trans (Nat.mul_le_mul_right _ (of_decide_eq_true zq2 : (a0.size : Int).toNat ≤ 281474976710656)) (by omega)) (Below.refl _ _) (Nat.le_refl _) ?_; intro v102 w10 ho11 hb hg_ hnew_; clear hg_ hnew_; (first | rw [← Ny101.out] at ho11 | (simp only [Int.reduceToNat] at ho11; rw [← Ny101.out] at ho11)); have n0_ := mk0 (Kd.R_lower ho11 (below_size zq0)); have n1_ := mk0 (below_step zq0 hb); clear HB; have HO103 := n0_; have HB := n1_; clear n0_ n1_; clear hb ho11) | ((with_reducible refine gate_dst (N := 24) rfl ?_); refine R_make0g (Kd.int .u8) _ 5 rfl (N := 24) rfl 29 _ _ rfl (a0.size : Int) rfl rfl Tryd.underlying29 (.int .u8 0) 1 info5 (by omega) (ok := fun _ => True) trivial (of_decide_eq_true zq2) (Nat.le_trans (Nat.mul_le_mul_right _ (of_decide_eq_true zq2 : (a0.size : Int).toNat ≤ 281474976710656)) (by omega)) (Below.refl _ _) (Nat.le_refl _) ?_; intro v105 w12 ho13 hb hg_ hnew_; clear hg_ hnew_; (first | rw [← Ny104.out] at ho13 | (simp only [Int.reduceToNat] at ho13; rw [← Ny104.out] at ho13)); have n0_ := mk0 (Kd.R_elder' (by (with_reducible repeat (first | apply Kd.R_alloc | apply Kd.R_drewN | apply Kd.R_drew)); exact HO103.out) (Kd.R_base ho13) hb); have n1_ := mk0 (Kd.R_lower (Kd.R_new' ho13 (Kd.R_lt (by (with_reducible repeat (first | apply Kd.R_alloc | apply Kd.R_drewN | apply Kd.R_drew)); exact HO103.out))) (below_size zq0)); have n2_ := mk0 (below_step zq0 hb); clear HO103 HB; have HO103 := n0_; have HO106 := n1_; have HB := n2_; clear n0_ n1_ n2_; clear hb ho13))
   (try simp only [Act.put, List.setIfInBounds_toArray, List.set_cons_zero, List.set_cons_succ])
   go_cut [4, 5, 6] (fun v4 v5 v6 wc => ∃ (kq : Nat) (x4_8 : List Int) (x5_8 : List Int) (x6_8 : Bool), v6 = .bool x6_8 ∧ Aside0 (match_Allowable.j2 kq x4_8 x5_8 x6_8 = some (r1, r2)) ∧ Aside0 (kq ≤ kj1) ∧ Aside0 (Kd.R (Kd.int .u8) 5 wc w.heap.size (fun k_ => some k_ ≠ (v5 : Value).ownBlock) v4 x4_8) ∧ Aside0 (Kd.R (Kd.int .u8) 5 wc w.heap.size (fun k_ => some k_ ≠ (v4 : Value).ownBlock) v5 x5_8) ∧ Aside0 (Below w.heap.size w wc))
   case first =>
    have H := HC9.out
    clear HC9
    have H' := mk0 H
    clear H
    go_wp2
    go_loopg [4, 5, 6, 7] kj1 (fun kq v4 v5 v6 v7 w' => ∃ (x4_2 : List Int) (x5_2 : List Int) (x6_2 : Bool) (x7_2 : Int), v6 = .bool x6_2 ∧ v7 = .int .i64 x7_2 ∧ Aside0 (match_Allowable.l0 kq a0 x4_2 x5_2 x6_2 x7_2 = some (r1, r2)) ∧ Aside0 (kq ≤ kj1) ∧ Aside0 (Kd.R (Kd.int .u8) 5 w' w.heap.size (fun k_ => some k_ ≠ (v5 : Value).ownBlock) v4 x4_2) ∧ Aside0 (Kd.R (Kd.int .u8) 5 w' w.heap.size (fun k_ => some k_ ≠ (v4 : Value).ownBlock) v5 x5_2) ∧ Aside0 (Below w.heap.size w w'))
    case atStart => exact ⟨(y101), (y104), (false), (0), zq4, zq4, H', ⟨Nat.le_refl _⟩, ⟨by (with_reducible repeat (first | apply Kd.R_alloc | apply Kd.R_drewN | apply Kd.R_drew)); exact Kd.R_mono HO103.out (fun _ hk => hk.2)⟩, ⟨by (with_reducible repeat (first | apply Kd.R_alloc | apply Kd.R_drewN | apply Kd.R_drew)); exact Kd.R_mono HO106.out (fun _ hk => hk.2)⟩, ⟨by repeat (first | (with_reducible first | exact HB.out | apply below_alloc | apply pw_below_drewN | apply below_drew1) | exact HB.out)⟩⟩
    case round =>
     clear H'
     try clear c2
     try clear p2
     try clear c3
     try clear c3b0
     try clear c3b1
     try clear c4
     try clear c4b0
     try clear c4b1
     try clear p5
     try clear q5
     try clear hx5
     try clear qi5
     try clear c6
     try clear c7
     try clear c7b0
     try clear c7b1
     try clear c8
     try clear c8b0
     try clear c8b1
     try clear p2
     try clear p5
     try clear q5
     obtain ⟨x4_2, x5_2, x6_2, x7_2, rfl, rfl, HA, HK2, HO_4, HO_5, HB⟩ := hrel
     cases gk with
     | zero => exact absurd HA.out (by simp [match_Allowable.l0])
     | succ k2 =>
      have H := HA.out
      clear HA
      simp only [match_Allowable.l0] at H
      by_cases c14 : x7_2 < (a0.size : Int)
      rotate_left
      ·rw [if_neg c14] at H
       have c14b0 : decide (x7_2 < (a0.size : Int)) = false := decide_eq_false c14
       clear c14
       (first | rw [c14b0] | (simp only [i64_w, i32_w]; rw [c14b0]) | skip)
       have H' := mk0 H
       clear H
       go_wp2
       go_meet
       case rel => exact ⟨_, (x4_2), (x5_2), (x6_2), zq4, H', ⟨by have := HJ1.out; have := HK2.out; first | omega | exact Nat.le_refl _⟩, ⟨by (with_reducible repeat (first | apply Kd.R_alloc | apply Kd.R_drewN | apply Kd.R_drew)); exact HO_4.out⟩, ⟨by (with_reducible repeat (first | apply Kd.R_alloc | apply Kd.R_drewN | apply Kd.R_drew)); exact HO_5.out⟩, ⟨by repeat (first | (with_reducible first | exact HB.out | apply below_alloc | apply pw_below_drewN | apply below_drew1) | exact HB.out)⟩⟩
      rw [if_pos c14] at H
      have c14b0 : decide (x7_2 < (a0.size : Int)) = true := decide_eq_true c14
      clear c14
      (first | rw [c14b0] | (simp only [i64_w, i32_w]; rw [c14b0]) | skip)
      by_cases c15 : 0 ≤ x7_2
      rotate_left
      ·rw [if_neg c15] at H
       exact absurd H (by simp)
      rw [if_pos c15] at H
      have c15b0 : decide (0 ≤ x7_2) = true := decide_eq_true c15
      clear c15
      by_cases c17 : (bt a0 x7_2) = 42
      ·rw [if_pos c17] at H
       have c17b0 : ((bt a0 x7_2) == 42) = true := beq_iff_eq.mpr c17
       have c17b1 : ((bt a0 x7_2) != 42) = false := bne_eq_false_iff_eq.mpr c17
       clear c17
       have H' := mk0 H
       clear H
       have p16 : 0 ≤ (x7_2 : Int) := of_decide_eq_true zq2
       have q16 : x7_2 < (a0.size : Int) := of_decide_eq_true zq2
       have hx16 := bt_at a0 x7_2
       replace p16 := eq_true p16
       replace q16 := eq_true q16
       go_wp2
       go_meet
       case rel => exact ⟨_, (x4_2), (x5_2), (true), zq4, H', ⟨by have := HJ1.out; have := HK2.out; first | omega | exact Nat.le_refl _⟩, ⟨by (with_reducible repeat (first | apply Kd.R_alloc | apply Kd.R_drewN | apply Kd.R_drew)); exact HO_4.out⟩, ⟨by (with_reducible repeat (first | apply Kd.R_alloc | apply Kd.R_drewN | apply Kd.R_drew)); exact HO_5.out⟩, ⟨by repeat (first | (with_reducible first | exact HB.out | apply below_alloc | apply pw_below_drewN | apply below_drew1) | exact HB.out)⟩⟩
      rw [if_neg c17] at H
      have c17b0 : ((bt a0 x7_2) == 42) = false := beq_eq_false_iff_ne.mpr c17
      have c17b1 : ((bt a0 x7_2) != 42) = true := bne_iff_ne.mpr c17
      by_cases c19 : (bt a0 x7_2) = 63
      ·rw [if_pos c19] at H
       have c19b0 : ((bt a0 x7_2) == 63) = true := beq_iff_eq.mpr c19
       have c19b1 : ((bt a0 x7_2) != 63) = false := bne_eq_false_iff_eq.mpr c19
       clear c19
       by_cases c20 : x4_2.length < 140737488355328
       rotate_left
       ·rw [if_neg c20] at H
        exact absurd H (by simp)
       rw [if_pos c20] at H
       have LMc20 := mk0 c20
       clear c20
       obtain ⟨y107, hy107⟩ : ∃ y_ : List Int, y_ = (x4_2 ++ [0]) := ⟨_, rfl⟩
       replace H : (if x5_2.length + ([244, 143, 191, 191] : List Int).length < 140737488355328 then (match_Allowable.l0 k2 a0 y107 (x5_2 ++ ([244, 143, 191, 191] : List Int)) x6_2 (wrap64 (x7_2 + 1))) else (none)) = some (r1, r2) := by first | (rw [hy107]; with_reducible exact H) | (have H2_ := (Option.bind_some _ _).symm.trans H; rw [hy107]; with_reducible exact H2_) | (have H2_ := (Option.bind_some _ _).symm.trans H; with_reducible exact H2_) | with_reducible exact H | (rw [hy107]; exact H) | exact H
       have Ny107 := mk0 hy107
       clear hy107
       by_cases c21 : x5_2.length + ([244, 143, 191, 191] : List Int).length < 140737488355328
       rotate_left
       ·rw [if_neg c21] at H
        exact absurd H (by simp)
       rw [if_pos c21] at H
       have LMc21 := mk0 c21
       clear c21
       obtain ⟨y110, hy110⟩ : ∃ y_ : List Int, y_ = (x5_2 ++ ([244, 143, 191, 191] : List Int)) := ⟨_, rfl⟩
       replace H : (match_Allowable.l0 k2 a0 y107 y110 x6_2 (wrap64 (x7_2 + 1))) = some (r1, r2) := by first | (rw [hy110]; with_reducible exact H) | (have H2_ := (Option.bind_some _ _).symm.trans H; rw [hy110]; with_reducible exact H2_) | (have H2_ := (Option.bind_some _ _).symm.trans H; with_reducible exact H2_) | with_reducible exact H | (rw [hy110]; exact H) | exact H
       have Ny110 := mk0 hy110
       clear hy110
       have H' := mk0 H
       clear H
       have p16 : 0 ≤ (x7_2 : Int) := of_decide_eq_true zq2
       have q16 : x7_2 < (a0.size : Int) := of_decide_eq_true zq2
       have hx16 := bt_at a0 x7_2
       replace p16 := eq_true p16
       replace q16 := eq_true q16
       have p18 : 0 ≤ (x7_2 : Int) := of_decide_eq_true zq2
       have q18 : x7_2 < (a0.size : Int) := of_decide_eq_true zq2
       have hx18 := bt_at a0 x7_2
       replace p18 := eq_true p18
       replace q18 := eq_true q18
       go_wp2_with (first | ((with_reducible refine gate_builtin (b := .append) (xs := #[.tmp 39, .tmp 40]) rfl ?_); at_builtin; refine Kd.R_append (Kd.int .u8) (w0 := w) w.heap.size rfl (.tmp 39) (.tmp 40) 29 5 (.int .u8 0) 1 rfl Tryd.underlying29 info5 rfl zq25 (by omega) u4 x4_2 0 [.int .u8 0] (fun k_ => some k_ ≠ (u5 : Value).ownBlock) (fun _ => False) rfl rfl ?aP (fun _ hk => hk.elim) ?aF ?aO ?aB ?aS ?aL ?_; (case aP => exact rfl); (case aB => exact zq0); (case aF => exact (fun k_ hk => Kd.fresh' (Kd.R_lt zq5) k_ hk)); (case aO => exact zq3); (case aS => exact (below_size zq0)); (case aL => have := LMc20.out; first | omega | (simp only [List.length_cons, List.length_nil] at this ⊢; omega)); intro v108 w22 ho hb hg hat; rw [← Ny107.out] at ho; have n0_ := mk0 (Kd.R_after (ok := (fun _ => True)) zq8 hg hat); have n1_ := mk0 (hb); have n2_ := mk0 (ho); clear HO_5 HB HO_4; have HO_5 := n0_; have HB := n1_; have HO109 := n2_; clear n0_ n1_ n2_; clear ho hb hg hat) | ((with_reducible refine gate_builtin (b := .append) (xs := #[.tmp 42, .tmp 43]) rfl ?_); at_builtin; refine Kd.R_append_rows (Kd.int .u8) (w0 := w) w.heap.size rfl (.tmp 42) (.tmp 43) 29 5 (.int .u8 0) 1 rfl Tryd.underlying29 info5 rfl zq25 (by omega) u5 x5_2 ([244, 143, 191, 191] : List Int) _ _ _ (fun k_ => some k_ ≠ (v108 : Value).ownBlock) (fun _ => False) rfl rfl ?aO ?aR (fun _ _ h => h) (fun _ h => h.elim) ?aF ?aB ?aS ?aL ?_; (case aR => repeat (first | exact (Kd.C_below HRG0.out HB.out) | (with_reducible refine Kd.C_alloc ?_ _) | (with_reducible refine Kd.C_drewN ?_ _) | (with_reducible refine Kd.C_drew ?_))); (case aB => exact zq0); (case aF => exact (fun k_ hk => Kd.fresh' (Kd.R_lt (by (with_reducible repeat (first | apply Kd.R_alloc | apply Kd.R_drewN | apply Kd.R_drew)); exact HO109.out)) k_ hk)); (case aO => exact zq21); (case aS => exact (below_size zq0)); (case aL => have := LMc21.out; first | omega | (simp only [List.length_cons, List.length_nil] at this ⊢; omega)); intro v111 w23 ho hb hg hat; rw [← Ny110.out] at ho; have n0_ := mk0 (Kd.R_after (ok := (fun _ => True)) (by (with_reducible repeat (first | apply Kd.R_alloc | apply Kd.R_drewN | apply Kd.R_drew)); exact Kd.R_mono HO109.out (fun _ hk => ⟨trivial, hk⟩)) hg hat); have n1_ := mk0 (hb); have n2_ := mk0 (ho); clear HO109 HB HO_5; have HO109 := n0_; have HB := n1_; have HO112 := n2_; clear n0_ n1_ n2_; clear ho hb hg hat))
       go_roundg k2
       case measure => have := HJ1.out; have := HK2.out; omega
       case rel => exact ⟨(y107), (y110), (x6_2), (wrap64 (x7_2 + 1)), zq4, zq4, H', ⟨by have := HJ1.out; have := HK2.out; omega⟩, ⟨by (with_reducible repeat (first | apply Kd.R_alloc | apply Kd.R_drewN | apply Kd.R_drew)); exact Kd.R_mono HO109.out (fun _ hk => hk.2)⟩, ⟨by (with_reducible repeat (first | apply Kd.R_alloc | apply Kd.R_drewN | apply Kd.R_drew)); exact HO112.out⟩, ⟨by repeat (first | (with_reducible first | exact HB.out | apply below_alloc | apply pw_below_drewN | apply below_drew1) | exact HB.out)⟩⟩
      rw [if_neg c19] at H
      have c19b0 : ((bt a0 x7_2) == 63) = false := beq_eq_false_iff_ne.mpr c19
      have c19b1 : ((bt a0 x7_2) != 63) = true := bne_iff_ne.mpr c19
      by_cases c25 : x4_2.length < 140737488355328
      rotate_left
      ·rw [if_neg c25] at H
       exact absurd H (by simp)
      rw [if_pos c25] at H
      have LMc25 := mk0 c25
      clear c25
      obtain ⟨y113, hy113⟩ : ∃ y_ : List Int, y_ = (x4_2 ++ [bt a0 x7_2]) := ⟨_, rfl⟩
      replace H : (if x5_2.length < 140737488355328 then (match_Allowable.l0 k2 a0 y113 (x5_2 ++ [bt a0 x7_2]) x6_2 (wrap64 (x7_2 + 1))) else (none)) = some (r1, r2) := by first | (rw [hy113]; with_reducible exact H) | (have H2_ := (Option.bind_some _ _).symm.trans H; rw [hy113]; with_reducible exact H2_) | (have H2_ := (Option.bind_some _ _).symm.trans H; with_reducible exact H2_) | with_reducible exact H | (rw [hy113]; exact H) | exact H
      have Ny113 := mk0 hy113
      clear hy113
      by_cases c27 : x5_2.length < 140737488355328
      rotate_left
      ·rw [if_neg c27] at H
       exact absurd H (by simp)
      rw [if_pos c27] at H
      have LMc27 := mk0 c27
      clear c27
      obtain ⟨y116, hy116⟩ : ∃ y_ : List Int, y_ = (x5_2 ++ [bt a0 x7_2]) := ⟨_, rfl⟩
      replace H : (match_Allowable.l0 k2 a0 y113 y116 x6_2 (wrap64 (x7_2 + 1))) = some (r1, r2) := by first | (rw [hy116]; with_reducible exact H) | (have H2_ := (Option.bind_some _ _).symm.trans H; rw [hy116]; with_reducible exact H2_) | (have H2_ := (Option.bind_some _ _).symm.trans H; with_reducible exact H2_) | with_reducible exact H | (rw [hy116]; exact H) | exact H
      have Ny116 := mk0 hy116
      clear hy116
      have H' := mk0 H
      clear H
      have p16 : 0 ≤ (x7_2 : Int) := of_decide_eq_true zq2
      have q16 : x7_2 < (a0.size : Int) := of_decide_eq_true zq2
      have hx16 := bt_at a0 x7_2
      replace p16 := eq_true p16
      replace q16 := eq_true q16
      have p18 : 0 ≤ (x7_2 : Int) := of_decide_eq_true zq2
      have q18 : x7_2 < (a0.size : Int) := of_decide_eq_true zq2
      have hx18 := bt_at a0 x7_2
      replace p18 := eq_true p18
      replace q18 := eq_true q18
      have p24 : 0 ≤ (x7_2 : Int) := of_decide_eq_true zq2
      have q24 : x7_2 < (a0.size : Int) := of_decide_eq_true zq2
      have hx24 := bt_at a0 x7_2
      replace p24 := eq_true p24
      replace q24 := eq_true q24
      go_wp2_with (first | ((with_reducible refine gate_builtin (b := .append) (xs := #[.tmp 45, .tmp 49]) rfl ?_); at_builtin; refine Kd.R_append (Kd.int .u8) (w0 := w) w.heap.size rfl (.tmp 45) (.tmp 49) 29 5 (.int .u8 0) 1 rfl Tryd.underlying29 info5 rfl zq25 (by omega) u4 x4_2 (bt a0 x7_2) [.int .u8 (bt a0 x7_2)] (fun k_ => some k_ ≠ (u5 : Value).ownBlock) (fun _ => False) rfl rfl ?aP (fun _ hk => hk.elim) ?aF ?aO ?aB ?aS ?aL ?_; (case aP => exact rfl); (case aB => exact zq0); (case aF => exact (fun k_ hk => Kd.fresh' (Kd.R_lt zq5) k_ hk)); (case aO => exact zq3); (case aS => exact (below_size zq0)); (case aL => have := LMc25.out; first | omega | (simp only [List.length_cons, List.length_nil] at this ⊢; omega)); intro v114 w28 ho hb hg hat; rw [← Ny113.out] at ho; have n0_ := mk0 (Kd.R_after (ok := (fun _ => True)) zq8 hg hat); have n1_ := mk0 (hb); have n2_ := mk0 (ho); clear HO_5 HB HO_4; have HO_5 := n0_; have HB := n1_; have HO115 := n2_; clear n0_ n1_ n2_; clear ho hb hg hat; have p26 : 0 ≤ (x7_2 : Int) := of_decide_eq_true zq2; have q26 : x7_2 < (a0.size : Int) := of_decide_eq_true zq2; have hx26 := bt_at a0 x7_2; replace p26 := eq_true p26; replace q26 := eq_true q26) | ((with_reducible refine gate_builtin (b := .append) (xs := #[.tmp 51, .tmp 55]) rfl ?_); at_builtin; refine Kd.R_append (Kd.int .u8) (w0 := w) w.heap.size rfl (.tmp 51) (.tmp 55) 29 5 (.int .u8 0) 1 rfl Tryd.underlying29 info5 rfl zq25 (by omega) u5 x5_2 (bt a0 x7_2) [.int .u8 (bt a0 x7_2)] (fun k_ => some k_ ≠ (v114 : Value).ownBlock) (fun _ => False) rfl rfl ?aP (fun _ hk => hk.elim) ?aF ?aO ?aB ?aS ?aL ?_; (case aP => exact rfl); (case aB => exact zq0); (case aF => exact (fun k_ hk => Kd.fresh' (Kd.R_lt (by (with_reducible repeat (first | apply Kd.R_alloc | apply Kd.R_drewN | apply Kd.R_drew)); exact HO115.out)) k_ hk)); (case aO => exact zq21); (case aS => exact (below_size zq0)); (case aL => have := LMc27.out; first | omega | (simp only [List.length_cons, List.length_nil] at this ⊢; omega)); intro v117 w29 ho hb hg hat; rw [← Ny116.out] at ho; have n0_ := mk0 (Kd.R_after (ok := (fun _ => True)) (by (with_reducible repeat (first | apply Kd.R_alloc | apply Kd.R_drewN | apply Kd.R_drew)); exact Kd.R_mono HO115.out (fun _ hk => ⟨trivial, hk⟩)) hg hat); have n1_ := mk0 (hb); have n2_ := mk0 (ho); clear HO115 HB HO_5; have HO115 := n0_; have HB := n1_; have HO118 := n2_; clear n0_ n1_ n2_; clear ho hb hg hat))
      go_roundg k2
      case measure => have := HJ1.out; have := HK2.out; omega
      case rel => exact ⟨(y113), (y116), (x6_2), (wrap64 (x7_2 + 1)), zq4, zq4, H', ⟨by have := HJ1.out; have := HK2.out; omega⟩, ⟨by (with_reducible repeat (first | apply Kd.R_alloc | apply Kd.R_drewN | apply Kd.R_drew)); exact Kd.R_mono HO115.out (fun _ hk => hk.2)⟩, ⟨by (with_reducible repeat (first | apply Kd.R_alloc | apply Kd.R_drewN | apply Kd.R_drew)); exact HO118.out⟩, ⟨by repeat (first | (with_reducible first | exact HB.out | apply below_alloc | apply pw_below_drewN | apply below_drew1) | exact HB.out)⟩⟩
   case rest =>
    clear HC9
    try clear c1
    try clear p1
    try clear q1
    try clear hx1
    try clear c2
    try clear p2
    try clear q2
    try clear hx2
    try clear c3
    try clear c3b0
    try clear c3b1
    try clear c4
    try clear c4b0
    try clear c4b1
    try clear p5
    try clear q5
    try clear hx5
    try clear qi5
    try clear c6
    try clear p6
    try clear c7
    try clear c7b0
    try clear c7b1
    try clear c8
    try clear c8b0
    try clear c8b1
    try clear c14
    try clear c14b0
    try clear c15
    try clear c15b0
    try clear p16
    try clear q16
    try clear hx16
    try clear c17
    try clear c17b0
    try clear c17b1
    try clear p18
    try clear q18
    try clear hx18
    try clear c19
    try clear c19b0
    try clear c19b1
    try clear c20
    try clear c21
    try clear c24
    try clear p24
    try clear q24
    try clear hx24
    try clear c25
    try clear p26
    try clear q26
    try clear hx26
    try clear c27
    try clear p16
    try clear p18
    try clear p2
    try clear p24
    try clear p26
    try clear p5
    try clear q16
    try clear q18
    try clear q24
    try clear q26
    try clear q5
    obtain ⟨kq, x4_8, x5_8, x6_8, rfl, HA, HJ8, HO_4, HO_5, HB⟩ := hcut
    cases kq with
    | zero => exact absurd HA.out (by simp [match_Allowable.j2])
    | succ kj8 =>
     have H := HA.out
     clear HA
     simp only [match_Allowable.j2] at H
     by_cases c30 : x6_8 = true
     rotate_left
     ·replace c30 := Bool.eq_false_iff.mpr c30
      subst c30
      have H1 : (some (strOfNums x4_8, strOfNums x5_8)) = some (r1, r2) := by rw [if_neg (show ¬ (false = true) by decide)] at H; exact H
      clear H
      have H := H1
      clear H1
      simp only [Option.some.injEq, Prod.mk.injEq] at H
      obtain ⟨rfl, rfl⟩ := H
      try go_wp2
      have n0_ := mk0 (Kd.R_drew HO_4.out)
      have n1_ := mk0 (Kd.R_drew HO_5.out)
      have n2_ := mk0 (below_drew1 HB.out)
      clear HO_4
      clear HO_5
      clear HB
      have HO_4 := n0_
      have HO_5 := n1_
      have HB := n2_
      clear n0_ n1_ n2_
      refine start_ (n := 6) (S := fun w' => True) (ds := []) #[false, false, false, false, false, false] zq6 rfl rfl trivial (fun hHeld => ?_)
      generalize wc.drew = w81 at HO_4 HO_5 HB hHeld ⊢
      refine pure_ (i := 0) (N := some 95) (v := ?_) (a' := ?_) #[true, false, false, false, false, false] rfl rfl zq6 (fun _ _ _ h => h) (Or.inl ⟨by rfl, ?_⟩) ?_ ?_
      rotate_left
      ·intro w'
       go_simp
       with_reducible rfl
      rotate_left
      ·simp only [Act.put, List.setIfInBounds_toArray, List.set_cons_zero, List.set_cons_succ, i64_w, i32_w]
       rfl
      refine pure_ (i := 2) (N := some 97) (v := ?_) (a' := ?_) #[true, false, true, false, false, false] rfl rfl zq6 (fun _ _ _ h => h) (Or.inl ⟨by rfl, ?_⟩) ?_ ?_
      rotate_left
      ·intro w'
       go_simp
       with_reducible rfl
      rotate_left
      ·simp only [Act.put, List.setIfInBounds_toArray, List.set_cons_zero, List.set_cons_succ, i64_w, i32_w]
       rfl
      refine join_ (σ := Unit) 1 #[true, true, true, true, true, false] (fun s_ => [(96, .string (strOfNums x4_8)), (98, .string (strOfNums x5_8)), (2, .string (strOfNums x4_8))]) (fun s_ w' => (Kd.R (Kd.int .u8) 5 w' w.heap.size (fun k_ => some k_ ≠ (u5 : Value).ownBlock) u4 x4_8) ∧ (Kd.R (Kd.int .u8) 5 w' w.heap.size (fun k_ => some k_ ≠ (u4 : Value).ownBlock) u5 x5_8) ∧ (Below w.heap.size w w')) ?_ ?_
      rotate_left
      ·intro hCont
       refine two_ (i := 1) (j := 3) (Ni := some 96) (Nj := some 98) #[true, true, true, false, false, false] #[true, false, true, true, false, false] rfl rfl rfl rfl zq6 zq25 zq25 (fun K hK => ?_) (fun K hK => ?_)
       ·skip
        have hcv82 := own_string (P := Tryd.prog) Tryd.underlying29 Tryd.underlying5 Tryd.underlying9 (Kd.own_of_R HO_4.out)
        refine value_ (w1 := ?_) (v := ?_) (by rfl) rfl ?_ ?_
        rotate_left 2
        ·go_simp
         constructor
         ·rfl
         ·rfl
        clear hcv82
        refine hK.out _ _ trivial (fun hHeld => ?_)
        clear hK K
        refine norm_ (a' := ?_) ?_ ?_
        rotate_left
        ·show Act.put _ (some 96) _ = _
         simp only [Act.put, List.setIfInBounds_toArray, List.set_cons_zero, List.set_cons_succ, i64_w, i32_w]
         rfl
        refine pure_ (i := 4) (N := some 2) (v := ?_) (a' := ?_) #[true, true, true, false, true, false] rfl rfl zq6 (fun _ _ _ h => h) (Or.inl ⟨by rfl, ?_⟩) ?_ ?_
        rotate_left
        ·intro w'
         go_simp
         with_reducible rfl
        rotate_left
        ·simp only [Act.put, List.setIfInBounds_toArray, List.set_cons_zero, List.set_cons_succ, i64_w, i32_w]
         rfl
        refine one_ (i := 3) (N := some 98) #[true, true, true, true, true, false] rfl rfl zq6 zq25 (fun K hK => ?_)
        have hcv83 := own_string (P := Tryd.prog) Tryd.underlying29 Tryd.underlying5 Tryd.underlying9 (Kd.own_of_R HO_5.out)
        refine value_ (w1 := ?_) (v := ?_) (by rfl) rfl ?_ ?_
        rotate_left 2
        ·go_simp
         constructor
         ·rfl
         ·rfl
        clear hcv83
        refine hK.out _ _ trivial (fun hHeld => ?_)
        clear hK K
        refine norm_ (a' := ?_) ?_ ?_
        rotate_left
        ·show Act.put _ (some 98) _ = _
         simp only [Act.put, List.setIfInBounds_toArray, List.set_cons_zero, List.set_cons_succ, i64_w, i32_w]
         rfl
        exact norm_ zq7 (hCont () _ ⟨zq3, zq5, zq0⟩)
       ·skip
        have hcv82 := own_string (P := Tryd.prog) Tryd.underlying29 Tryd.underlying5 Tryd.underlying9 (Kd.own_of_R HO_5.out)
        refine value_ (w1 := ?_) (v := ?_) (by rfl) rfl ?_ ?_
        rotate_left 2
        ·go_simp
         constructor
         ·rfl
         ·rfl
        clear hcv82
        refine hK.out _ _ trivial (fun hHeld => ?_)
        clear hK K
        refine norm_ (a' := ?_) ?_ ?_
        rotate_left
        ·show Act.put _ (some 98) _ = _
         simp only [Act.put, List.setIfInBounds_toArray, List.set_cons_zero, List.set_cons_succ, i64_w, i32_w]
         rfl
        refine one_ (i := 1) (N := some 96) #[true, true, true, true, false, false] rfl rfl zq6 zq25 (fun K hK => ?_)
        have hcv83 := own_string (P := Tryd.prog) Tryd.underlying29 Tryd.underlying5 Tryd.underlying9 (Kd.own_of_R HO_4.out)
        refine value_ (w1 := ?_) (v := ?_) (by rfl) rfl ?_ ?_
        rotate_left 2
        ·go_simp
         constructor
         ·rfl
         ·rfl
        clear hcv83
        refine hK.out _ _ trivial (fun hHeld => ?_)
        clear hK K
        refine norm_ (a' := ?_) ?_ ?_
        rotate_left
        ·show Act.put _ (some 96) _ = _
         simp only [Act.put, List.setIfInBounds_toArray, List.set_cons_zero, List.set_cons_succ, i64_w, i32_w]
         rfl
        refine pure_ (i := 4) (N := some 2) (v := ?_) (a' := ?_) #[true, true, true, true, true, false] rfl rfl zq6 (fun _ _ _ h => h) (Or.inl ⟨by rfl, ?_⟩) ?_ ?_
        rotate_left
        ·intro w'
         go_simp
         with_reducible rfl
        rotate_left
        ·simp only [Act.put, List.setIfInBounds_toArray, List.set_cons_zero, List.set_cons_succ, i64_w, i32_w]
         rfl
        exact norm_ zq7 (hCont () _ ⟨zq3, zq5, zq0⟩)
      rintro _ w84 ⟨h0_, h1_, h2_⟩
      have n0_ : Aside0 (Kd.R (Kd.int .u8) 5 w84 w.heap.size (fun k_ => some k_ ≠ (u5 : Value).ownBlock) u4 x4_8) := ⟨h0_⟩
      have n1_ : Aside0 (Kd.R (Kd.int .u8) 5 w84 w.heap.size (fun k_ => some k_ ≠ (u4 : Value).ownBlock) u5 x5_8) := ⟨h1_⟩
      have n2_ : Aside0 (Below w.heap.size w w84) := ⟨h2_⟩
      clear HO_4
      clear HO_5
      clear HB
      clear h0_ h1_ h2_
      have HO_4 := n0_
      have HO_5 := n1_
      have HB := n2_
      clear n0_ n1_ n2_
      have hHeld := trivial
      refine norm_ (a' := ?_) ?_ ?_
      rotate_left
      ·simp only [putAll, Act.put, List.setIfInBounds_toArray, List.set_cons_zero, List.set_cons_succ]
       rfl
      refine pure_ (i := 5) (N := some 3) (v := ?_) (a' := ?_) #[true, true, true, true, true, true] rfl rfl zq6 (fun _ _ _ h => h) (Or.inl ⟨by rfl, ?_⟩) ?_ ?_
      rotate_left
      ·intro w'
       go_simp
       with_reducible rfl
      rotate_left
      ·simp only [Act.put, List.setIfInBounds_toArray, List.set_cons_zero, List.set_cons_succ, i64_w, i32_w]
       rfl
      refine done_ zq6 ?_
      try go_wp2
      go_ret2
      exact ⟨by first | rfl | (simp [errW_none, errW_some] <;> rfl) | (simp [*, errW_none, errW_some] <;> rfl), by repeat (first | (with_reducible first | exact HB.out | apply below_alloc | apply pw_below_drewN | apply below_drew1) | exact HB.out)⟩
     subst c30
     have H1 : ((utf8_DecodeLastRune.f x5_8).bind fun bt119 => (if bt119.1 = 65533 then (some (strOfNums x4_8, strOfNums x5_8)) else (if bt119.1 < 1114111 then (if (wrap32 (bt119.1 + 1)) > 127 then (if 4 ≤ 281474976710656 then ((some (List.replicate 4 0 : List Int)).bind fun y121 => ((utf8_EncodeRune.f kj8 y121 (wrap32 (bt119.1 + 1))).bind fun bt124 => (if 0 ≤ (wrap64 ((x5_8.length : Int) - bt119.2)) then (if (wrap64 ((x5_8.length : Int) - bt119.2)) ≤ (x5_8.length : Int) then ((some (x5_8.take ((wrap64 ((x5_8.length : Int) - bt119.2)) : Int).toNat : List Int)).bind fun y126 => (if 0 ≤ bt124.1 then (if bt124.1 ≤ (y121.length : Int) then ((some (bt124.2.take (bt124.1 : Int).toNat : List Int)).bind fun y129 => (if y126.length + y129.length < 140737488355328 then (some (strOfNums x4_8, strOfNums (y126 ++ y129))) else (none))) else (none)) else (none))) else (none)) else (none)))) else (none)) else (if 0 ≤ (wrap64 ((x5_8.length : Int) - bt119.2)) then (if (wrap64 ((x5_8.length : Int) - bt119.2)) ≤ (x5_8.length : Int) then ((some (x5_8.take ((wrap64 ((x5_8.length : Int) - bt119.2)) : Int).toNat : List Int)).bind fun y136 => (if y136.length < 140737488355328 then (some (strOfNums x4_8, strOfNums (y136 ++ [(wrap32 (bt119.1 + 1)) % 256]))) else (none))) else (none)) else (none))) else (some (strOfNums x4_8, strOfNums x5_8))))) = some (r1, r2) := by rw [if_pos rfl] at H; exact H
     clear H
     have H := H1
     clear H1
     replace H := Option.bind_eq_some_iff.mp H
     obtain ⟨⟨t119, t120⟩, A310, H⟩ := H
     replace H : (if t119 = 65533 then (some (strOfNums x4_8, strOfNums x5_8)) else (if t119 < 1114111 then (if (wrap32 (t119 + 1)) > 127 then (if 4 ≤ 281474976710656 then ((some (List.replicate 4 0 : List Int)).bind fun y121 => ((utf8_EncodeRune.f kj8 y121 (wrap32 (t119 + 1))).bind fun bt124 => (if 0 ≤ (wrap64 ((x5_8.length : Int) - t120)) then (if (wrap64 ((x5_8.length : Int) - t120)) ≤ (x5_8.length : Int) then ((some (x5_8.take ((wrap64 ((x5_8.length : Int) - t120)) : Int).toNat : List Int)).bind fun y126 => (if 0 ≤ bt124.1 then (if bt124.1 ≤ (y121.length : Int) then ((some (bt124.2.take (bt124.1 : Int).toNat : List Int)).bind fun y129 => (if y126.length + y129.length < 140737488355328 then (some (strOfNums x4_8, strOfNums (y126 ++ y129))) else (none))) else (none)) else (none))) else (none)) else (none)))) else (none)) else (if 0 ≤ (wrap64 ((x5_8.length : Int) - t120)) then (if (wrap64 ((x5_8.length : Int) - t120)) ≤ (x5_8.length : Int) then ((some (x5_8.take ((wrap64 ((x5_8.length : Int) - t120)) : Int).toNat : List Int)).bind fun y136 => (if y136.length < 140737488355328 then (some (strOfNums x4_8, strOfNums (y136 ++ [(wrap32 (t119 + 1)) % 256]))) else (none))) else (none)) else (none))) else (some (strOfNums x4_8, strOfNums x5_8)))) = some (r1, r2) := H
     have A31 := mk0 A310
     clear A310
     by_cases c32 : t119 = 65533
     ·rw [if_pos c32] at H
      have c32b0 : (t119 == 65533) = true := beq_iff_eq.mpr c32
      have c32b1 : (t119 != 65533) = false := bne_eq_false_iff_eq.mpr c32
      clear c32
      simp only [Option.some.injEq, Prod.mk.injEq] at H
      obtain ⟨rfl, rfl⟩ := H
      obtain ⟨Ao33, co33, eo33⟩ := Kd.R_slice HO_5.out
      subst eo33
      try go_wp2_with (first | ((with_reducible refine gate_callee (f := 39) rfl ?_); refine goesL_ (some 60) rfl rfl Tryd.func39 zq6 rfl #[.slice Ao33 x5_8.length co33] rfl zq1 ?_; (with_reducible refine (utf8_DecodeLastRune.calls _ _ x5_8 t119 t120 _ ?side1 ?side2 ?side3 A31.out).mono ?_); (case side1 => exact zq9); (case side2 => exact (Kd.R_reads' HO_5.out).2.1); (case side3 => exact zq10); rintro e w34 ⟨rfl, hb⟩; refine ⟨_, rfl, ?_⟩; have n0_ := mk0 (Kd.R_below zq3 hb); have n1_ := mk0 (Kd.R_below zq5 hb); have n2_ := mk0 (below_step zq0 hb); clear HO_4 HO_5 HB; have HO_4 := n0_; have HO_5 := n1_; have HB := n2_; clear n0_ n1_ n2_; (try clear hb); (try clear hb2); (try clear hk); (try clear hi)))
      have n0_ := mk0 (Kd.R_drew HO_4.out)
      have n1_ := mk0 (Kd.R_drew HO_5.out)
      have n2_ := mk0 (below_drew1 HB.out)
      clear HO_4
      clear HO_5
      clear HB
      have HO_4 := n0_
      have HO_5 := n1_
      have HB := n2_
      clear n0_ n1_ n2_
      refine start_ (n := 6) (S := fun w' => True) (ds := []) #[false, false, false, false, false, false] zq6 rfl rfl trivial (fun hHeld => ?_)
      generalize w34.drew = w35 at HO_4 HO_5 HB hHeld ⊢
      refine pure_ (i := 0) (N := some 95) (v := ?_) (a' := ?_) #[true, false, false, false, false, false] rfl rfl zq6 (fun _ _ _ h => h) (Or.inl ⟨by rfl, ?_⟩) ?_ ?_
      rotate_left
      ·intro w'
       go_simp
       with_reducible rfl
      rotate_left
      ·simp only [Act.put, List.setIfInBounds_toArray, List.set_cons_zero, List.set_cons_succ, i64_w, i32_w]
       rfl
      refine pure_ (i := 2) (N := some 97) (v := ?_) (a' := ?_) #[true, false, true, false, false, false] rfl rfl zq6 (fun _ _ _ h => h) (Or.inl ⟨by rfl, ?_⟩) ?_ ?_
      rotate_left
      ·intro w'
       go_simp
       with_reducible rfl
      rotate_left
      ·simp only [Act.put, List.setIfInBounds_toArray, List.set_cons_zero, List.set_cons_succ, i64_w, i32_w]
       rfl
      refine join_ (σ := Unit) 1 #[true, true, true, true, true, false] (fun s_ => [(96, .string (strOfNums x4_8)), (98, .string (strOfNums x5_8)), (2, .string (strOfNums x4_8))]) (fun s_ w' => (Kd.R (Kd.int .u8) 5 w' w.heap.size (fun k_ => some k_ ≠ (.slice Ao33 x5_8.length co33 : Value).ownBlock) u4 x4_8) ∧ (Kd.R (Kd.int .u8) 5 w' w.heap.size (fun k_ => some k_ ≠ (u4 : Value).ownBlock) (.slice Ao33 x5_8.length co33) x5_8) ∧ (Below w.heap.size w w')) ?_ ?_
      rotate_left
      ·intro hCont
       refine two_ (i := 1) (j := 3) (Ni := some 96) (Nj := some 98) #[true, true, true, false, false, false] #[true, false, true, true, false, false] rfl rfl rfl rfl zq6 zq25 zq25 (fun K hK => ?_) (fun K hK => ?_)
       ·skip
        have hcv36 := own_string (P := Tryd.prog) Tryd.underlying29 Tryd.underlying5 Tryd.underlying9 (Kd.own_of_R HO_4.out)
        refine value_ (w1 := ?_) (v := ?_) (by rfl) rfl ?_ ?_
        rotate_left 2
        ·go_simp
         constructor
         ·rfl
         ·rfl
        clear hcv36
        refine hK.out _ _ trivial (fun hHeld => ?_)
        clear hK K
        refine norm_ (a' := ?_) ?_ ?_
        rotate_left
        ·show Act.put _ (some 96) _ = _
         simp only [Act.put, List.setIfInBounds_toArray, List.set_cons_zero, List.set_cons_succ, i64_w, i32_w]
         rfl
        refine pure_ (i := 4) (N := some 2) (v := ?_) (a' := ?_) #[true, true, true, false, true, false] rfl rfl zq6 (fun _ _ _ h => h) (Or.inl ⟨by rfl, ?_⟩) ?_ ?_
        rotate_left
        ·intro w'
         go_simp
         with_reducible rfl
        rotate_left
        ·simp only [Act.put, List.setIfInBounds_toArray, List.set_cons_zero, List.set_cons_succ, i64_w, i32_w]
         rfl
        refine one_ (i := 3) (N := some 98) #[true, true, true, true, true, false] rfl rfl zq6 zq25 (fun K hK => ?_)
        have hcv37 := own_string (P := Tryd.prog) Tryd.underlying29 Tryd.underlying5 Tryd.underlying9 (Kd.own_of_R HO_5.out)
        refine value_ (w1 := ?_) (v := ?_) (by rfl) rfl ?_ ?_
        rotate_left 2
        ·go_simp
         constructor
         ·rfl
         ·rfl
        clear hcv37
        refine hK.out _ _ trivial (fun hHeld => ?_)
        clear hK K
        refine norm_ (a' := ?_) ?_ ?_
        rotate_left
        ·show Act.put _ (some 98) _ = _
         simp only [Act.put, List.setIfInBounds_toArray, List.set_cons_zero, List.set_cons_succ, i64_w, i32_w]
         rfl
        exact norm_ zq7 (hCont () _ ⟨zq3, zq5, zq0⟩)
       ·skip
        have hcv36 := own_string (P := Tryd.prog) Tryd.underlying29 Tryd.underlying5 Tryd.underlying9 (Kd.own_of_R HO_5.out)
        refine value_ (w1 := ?_) (v := ?_) (by rfl) rfl ?_ ?_
        rotate_left 2
        ·go_simp
         constructor
         ·rfl
         ·rfl
        clear hcv36
        refine hK.out _ _ trivial (fun hHeld => ?_)
        clear hK K
        refine norm_ (a' := ?_) ?_ ?_
        rotate_left
        ·show Act.put _ (some 98) _ = _
         simp only [Act.put, List.setIfInBounds_toArray, List.set_cons_zero, List.set_cons_succ, i64_w, i32_w]
         rfl
        refine one_ (i := 1) (N := some 96) #[true, true, true, true, false, false] rfl rfl zq6 zq25 (fun K hK => ?_)
        have hcv37 := own_string (P := Tryd.prog) Tryd.underlying29 Tryd.underlying5 Tryd.underlying9 (Kd.own_of_R HO_4.out)
        refine value_ (w1 := ?_) (v := ?_) (by rfl) rfl ?_ ?_
        rotate_left 2
        ·go_simp
         constructor
         ·rfl
         ·rfl
        clear hcv37
        refine hK.out _ _ trivial (fun hHeld => ?_)
        clear hK K
        refine norm_ (a' := ?_) ?_ ?_
        rotate_left
        ·show Act.put _ (some 96) _ = _
         simp only [Act.put, List.setIfInBounds_toArray, List.set_cons_zero, List.set_cons_succ, i64_w, i32_w]
         rfl
        refine pure_ (i := 4) (N := some 2) (v := ?_) (a' := ?_) #[true, true, true, true, true, false] rfl rfl zq6 (fun _ _ _ h => h) (Or.inl ⟨by rfl, ?_⟩) ?_ ?_
        rotate_left
        ·intro w'
         go_simp
         with_reducible rfl
        rotate_left
        ·simp only [Act.put, List.setIfInBounds_toArray, List.set_cons_zero, List.set_cons_succ, i64_w, i32_w]
         rfl
        exact norm_ zq7 (hCont () _ ⟨zq3, zq5, zq0⟩)
      rintro _ w38 ⟨h0_, h1_, h2_⟩
      have n0_ : Aside0 (Kd.R (Kd.int .u8) 5 w38 w.heap.size (fun k_ => some k_ ≠ (.slice Ao33 x5_8.length co33 : Value).ownBlock) u4 x4_8) := ⟨h0_⟩
      have n1_ : Aside0 (Kd.R (Kd.int .u8) 5 w38 w.heap.size (fun k_ => some k_ ≠ (u4 : Value).ownBlock) (.slice Ao33 x5_8.length co33) x5_8) := ⟨h1_⟩
      have n2_ : Aside0 (Below w.heap.size w w38) := ⟨h2_⟩
      clear HO_4
      clear HO_5
      clear HB
      clear h0_ h1_ h2_
      have HO_4 := n0_
      have HO_5 := n1_
      have HB := n2_
      clear n0_ n1_ n2_
      have hHeld := trivial
      refine norm_ (a' := ?_) ?_ ?_
      rotate_left
      ·simp only [putAll, Act.put, List.setIfInBounds_toArray, List.set_cons_zero, List.set_cons_succ]
       rfl
      refine pure_ (i := 5) (N := some 3) (v := ?_) (a' := ?_) #[true, true, true, true, true, true] rfl rfl zq6 (fun _ _ _ h => h) (Or.inl ⟨by rfl, ?_⟩) ?_ ?_
      rotate_left
      ·intro w'
       go_simp
       with_reducible rfl
      rotate_left
      ·simp only [Act.put, List.setIfInBounds_toArray, List.set_cons_zero, List.set_cons_succ, i64_w, i32_w]
       rfl
      refine done_ zq6 ?_
      try go_wp2
      go_ret2
      exact ⟨by first | rfl | (simp [errW_none, errW_some] <;> rfl) | (simp [*, errW_none, errW_some] <;> rfl), by repeat (first | (with_reducible first | exact HB.out | apply below_alloc | apply pw_below_drewN | apply below_drew1) | exact HB.out)⟩
     rw [if_neg c32] at H
     have c32b0 : (t119 == 65533) = false := beq_eq_false_iff_ne.mpr c32
     have c32b1 : (t119 != 65533) = true := bne_iff_ne.mpr c32
     by_cases c39 : t119 < 1114111
     rotate_left
     ·rw [if_neg c39] at H
      have c39b0 : decide (t119 < 1114111) = false := decide_eq_false c39
      clear c39
      simp only [Option.some.injEq, Prod.mk.injEq] at H
      obtain ⟨rfl, rfl⟩ := H
      obtain ⟨Ao75, co75, eo75⟩ := Kd.R_slice HO_5.out
      subst eo75
      try go_wp2_with (first | ((with_reducible refine gate_callee (f := 39) rfl ?_); refine goesL_ (some 60) rfl rfl Tryd.func39 zq6 rfl #[.slice Ao75 x5_8.length co75] rfl zq1 ?_; (with_reducible refine (utf8_DecodeLastRune.calls _ _ x5_8 t119 t120 _ ?side1 ?side2 ?side3 A31.out).mono ?_); (case side1 => exact zq9); (case side2 => exact (Kd.R_reads' HO_5.out).2.1); (case side3 => exact zq10); rintro e w76 ⟨rfl, hb⟩; refine ⟨_, rfl, ?_⟩; have n0_ := mk0 (Kd.R_below zq3 hb); have n1_ := mk0 (Kd.R_below zq5 hb); have n2_ := mk0 (below_step zq0 hb); clear HO_4 HO_5 HB; have HO_4 := n0_; have HO_5 := n1_; have HB := n2_; clear n0_ n1_ n2_; (try clear hb); (try clear hb2); (try clear hk); (try clear hi)))
      have n0_ := mk0 (Kd.R_drew HO_4.out)
      have n1_ := mk0 (Kd.R_drew HO_5.out)
      have n2_ := mk0 (below_drew1 HB.out)
      clear HO_4
      clear HO_5
      clear HB
      have HO_4 := n0_
      have HO_5 := n1_
      have HB := n2_
      clear n0_ n1_ n2_
      refine start_ (n := 6) (S := fun w' => True) (ds := []) #[false, false, false, false, false, false] zq6 rfl rfl trivial (fun hHeld => ?_)
      generalize w76.drew = w77 at HO_4 HO_5 HB hHeld ⊢
      refine pure_ (i := 0) (N := some 95) (v := ?_) (a' := ?_) #[true, false, false, false, false, false] rfl rfl zq6 (fun _ _ _ h => h) (Or.inl ⟨by rfl, ?_⟩) ?_ ?_
      rotate_left
      ·intro w'
       go_simp
       with_reducible rfl
      rotate_left
      ·simp only [Act.put, List.setIfInBounds_toArray, List.set_cons_zero, List.set_cons_succ, i64_w, i32_w]
       rfl
      refine pure_ (i := 2) (N := some 97) (v := ?_) (a' := ?_) #[true, false, true, false, false, false] rfl rfl zq6 (fun _ _ _ h => h) (Or.inl ⟨by rfl, ?_⟩) ?_ ?_
      rotate_left
      ·intro w'
       go_simp
       with_reducible rfl
      rotate_left
      ·simp only [Act.put, List.setIfInBounds_toArray, List.set_cons_zero, List.set_cons_succ, i64_w, i32_w]
       rfl
      refine join_ (σ := Unit) 1 #[true, true, true, true, true, false] (fun s_ => [(96, .string (strOfNums x4_8)), (98, .string (strOfNums x5_8)), (2, .string (strOfNums x4_8))]) (fun s_ w' => (Kd.R (Kd.int .u8) 5 w' w.heap.size (fun k_ => some k_ ≠ (.slice Ao75 x5_8.length co75 : Value).ownBlock) u4 x4_8) ∧ (Kd.R (Kd.int .u8) 5 w' w.heap.size (fun k_ => some k_ ≠ (u4 : Value).ownBlock) (.slice Ao75 x5_8.length co75) x5_8) ∧ (Below w.heap.size w w')) ?_ ?_
      rotate_left
      ·intro hCont
       refine two_ (i := 1) (j := 3) (Ni := some 96) (Nj := some 98) #[true, true, true, false, false, false] #[true, false, true, true, false, false] rfl rfl rfl rfl zq6 zq25 zq25 (fun K hK => ?_) (fun K hK => ?_)
       ·skip
        have hcv78 := own_string (P := Tryd.prog) Tryd.underlying29 Tryd.underlying5 Tryd.underlying9 (Kd.own_of_R HO_4.out)
        refine value_ (w1 := ?_) (v := ?_) (by rfl) rfl ?_ ?_
        rotate_left 2
        ·go_simp
         constructor
         ·rfl
         ·rfl
        clear hcv78
        refine hK.out _ _ trivial (fun hHeld => ?_)
        clear hK K
        refine norm_ (a' := ?_) ?_ ?_
        rotate_left
        ·show Act.put _ (some 96) _ = _
         simp only [Act.put, List.setIfInBounds_toArray, List.set_cons_zero, List.set_cons_succ, i64_w, i32_w]
         rfl
        refine pure_ (i := 4) (N := some 2) (v := ?_) (a' := ?_) #[true, true, true, false, true, false] rfl rfl zq6 (fun _ _ _ h => h) (Or.inl ⟨by rfl, ?_⟩) ?_ ?_
        rotate_left
        ·intro w'
         go_simp
         with_reducible rfl
        rotate_left
        ·simp only [Act.put, List.setIfInBounds_toArray, List.set_cons_zero, List.set_cons_succ, i64_w, i32_w]
         rfl
        refine one_ (i := 3) (N := some 98) #[true, true, true, true, true, false] rfl rfl zq6 zq25 (fun K hK => ?_)
        have hcv79 := own_string (P := Tryd.prog) Tryd.underlying29 Tryd.underlying5 Tryd.underlying9 (Kd.own_of_R HO_5.out)
        refine value_ (w1 := ?_) (v := ?_) (by rfl) rfl ?_ ?_
        rotate_left 2
        ·go_simp
         constructor
         ·rfl
         ·rfl
        clear hcv79
        refine hK.out _ _ trivial (fun hHeld => ?_)
        clear hK K
        refine norm_ (a' := ?_) ?_ ?_
        rotate_left
        ·show Act.put _ (some 98) _ = _
         simp only [Act.put, List.setIfInBounds_toArray, List.set_cons_zero, List.set_cons_succ, i64_w, i32_w]
         rfl
        exact norm_ zq7 (hCont () _ ⟨zq3, zq5, zq0⟩)
       ·skip
        have hcv78 := own_string (P := Tryd.prog) Tryd.underlying29 Tryd.underlying5 Tryd.underlying9 (Kd.own_of_R HO_5.out)
        refine value_ (w1 := ?_) (v := ?_) (by rfl) rfl ?_ ?_
        rotate_left 2
        ·go_simp
         constructor
         ·rfl
         ·rfl
        clear hcv78
        refine hK.out _ _ trivial (fun hHeld => ?_)
        clear hK K
        refine norm_ (a' := ?_) ?_ ?_
        rotate_left
        ·show Act.put _ (some 98) _ = _
         simp only [Act.put, List.setIfInBounds_toArray, List.set_cons_zero, List.set_cons_succ, i64_w, i32_w]
         rfl
        refine one_ (i := 1) (N := some 96) #[true, true, true, true, false, false] rfl rfl zq6 zq25 (fun K hK => ?_)
        have hcv79 := own_string (P := Tryd.prog) Tryd.underlying29 Tryd.underlying5 Tryd.underlying9 (Kd.own_of_R HO_4.out)
        refine value_ (w1 := ?_) (v := ?_) (by rfl) rfl ?_ ?_
        rotate_left 2
        ·go_simp
         constructor
         ·rfl
         ·rfl
        clear hcv79
        refine hK.out _ _ trivial (fun hHeld => ?_)
        clear hK K
        refine norm_ (a' := ?_) ?_ ?_
        rotate_left
        ·show Act.put _ (some 96) _ = _
         simp only [Act.put, List.setIfInBounds_toArray, List.set_cons_zero, List.set_cons_succ, i64_w, i32_w]
         rfl
        refine pure_ (i := 4) (N := some 2) (v := ?_) (a' := ?_) #[true, true, true, true, true, false] rfl rfl zq6 (fun _ _ _ h => h) (Or.inl ⟨by rfl, ?_⟩) ?_ ?_
        rotate_left
        ·intro w'
         go_simp
         with_reducible rfl
        rotate_left
        ·simp only [Act.put, List.setIfInBounds_toArray, List.set_cons_zero, List.set_cons_succ, i64_w, i32_w]
         rfl
        exact norm_ zq7 (hCont () _ ⟨zq3, zq5, zq0⟩)
      rintro _ w80 ⟨h0_, h1_, h2_⟩
      have n0_ : Aside0 (Kd.R (Kd.int .u8) 5 w80 w.heap.size (fun k_ => some k_ ≠ (.slice Ao75 x5_8.length co75 : Value).ownBlock) u4 x4_8) := ⟨h0_⟩
      have n1_ : Aside0 (Kd.R (Kd.int .u8) 5 w80 w.heap.size (fun k_ => some k_ ≠ (u4 : Value).ownBlock) (.slice Ao75 x5_8.length co75) x5_8) := ⟨h1_⟩
      have n2_ : Aside0 (Below w.heap.size w w80) := ⟨h2_⟩
      clear HO_4
      clear HO_5
      clear HB
      clear h0_ h1_ h2_
      have HO_4 := n0_
      have HO_5 := n1_
      have HB := n2_
      clear n0_ n1_ n2_
      have hHeld := trivial
      refine norm_ (a' := ?_) ?_ ?_
      rotate_left
      ·simp only [putAll, Act.put, List.setIfInBounds_toArray, List.set_cons_zero, List.set_cons_succ]
       rfl
      refine pure_ (i := 5) (N := some 3) (v := ?_) (a' := ?_) #[true, true, true, true, true, true] rfl rfl zq6 (fun _ _ _ h => h) (Or.inl ⟨by rfl, ?_⟩) ?_ ?_
      rotate_left
      ·intro w'
       go_simp
       with_reducible rfl
      rotate_left
      ·simp only [Act.put, List.setIfInBounds_toArray, List.set_cons_zero, List.set_cons_succ, i64_w, i32_w]
       rfl
      refine done_ zq6 ?_
      try go_wp2
      go_ret2
      exact ⟨by first | rfl | (simp [errW_none, errW_some] <;> rfl) | (simp [*, errW_none, errW_some] <;> rfl), by repeat (first | (with_reducible first | exact HB.out | apply below_alloc | apply pw_below_drewN | apply below_drew1) | exact HB.out)⟩
     rw [if_pos c39] at H
     have c39b0 : decide (t119 < 1114111) = true := decide_eq_true c39
     clear c39
     by_cases c40 : (wrap32 (t119 + 1)) > 127
     rotate_left
     ·rw [if_neg c40] at H
      have c40b0 : decide (127 < (wrap32 (t119 + 1))) = false := decide_eq_false c40
      clear c40
      obtain ⟨ji63, hji63⟩ : ∃ j_ : Int, (wrap64 ((x5_8.length : Int) - t120)) = j_ := ⟨_, rfl⟩
      replace H : (if 0 ≤ (ji63) then (if (ji63) ≤ (x5_8.length : Int) then ((some (x5_8.take ((ji63) : Int).toNat : List Int)).bind fun y136 => (if y136.length < 140737488355328 then (some (strOfNums x4_8, strOfNums (y136 ++ [(wrap32 (t119 + 1)) % 256]))) else (none))) else (none)) else (none)) = some (r1, r2) := by first | (rw [hji63] at H; exact H) | (simp only [hji63] at H ⊢; exact H)
      (try rw [hji63] at A31)
      have hji63w : (IntKind.i64.wrap ((x5_8.length : Int) - t120)) = ji63 := (i64_w _).trans hji63
      by_cases c64 : 0 ≤ (ji63)
      rotate_left
      ·rw [if_neg c64] at H
       exact absurd H (by simp)
      rw [if_pos c64] at H
      have c64b0 := eq_true c64
      have c64b1 : decide (0 ≤ (ji63)) = true := decide_eq_true c64
      clear c64
      by_cases c65 : (ji63) ≤ (x5_8.length : Int)
      rotate_left
      ·rw [if_neg c65] at H
       exact absurd H (by simp)
      rw [if_pos c65] at H
      have c65b0 := eq_true c65
      have c65b1 : decide ((ji63) ≤ (x5_8.length : Int)) = true := decide_eq_true c65
      clear c65
      obtain ⟨y136, hy136⟩ : ∃ y_ : List Int, y_ = (x5_8.take ((ji63) : Int).toNat) := ⟨_, rfl⟩
      replace H : (if y136.length < 140737488355328 then (some (strOfNums x4_8, strOfNums (y136 ++ [(wrap32 (t119 + 1)) % 256]))) else (none)) = some (r1, r2) := by first | (rw [hy136]; with_reducible exact H) | (have H2_ := (Option.bind_some _ _).symm.trans H; rw [hy136]; with_reducible exact H2_) | (have H2_ := (Option.bind_some _ _).symm.trans H; with_reducible exact H2_) | with_reducible exact H | (rw [hy136]; exact H) | exact H
      have Ny136 := mk0 hy136
      clear hy136
      by_cases c66 : y136.length < 140737488355328
      rotate_left
      ·rw [if_neg c66] at H
       exact absurd H (by simp)
      rw [if_pos c66] at H
      have LMc66 := mk0 c66
      clear c66
      obtain ⟨y139, hy139⟩ : ∃ y_ : List Int, y_ = (y136 ++ [(wrap32 (t119 + 1)) % 256]) := ⟨_, rfl⟩
      replace H : (some (strOfNums x4_8, strOfNums y139)) = some (r1, r2) := by first | (rw [hy139]; with_reducible exact H) | (have H2_ := (Option.bind_some _ _).symm.trans H; rw [hy139]; with_reducible exact H2_) | (have H2_ := (Option.bind_some _ _).symm.trans H; with_reducible exact H2_) | with_reducible exact H | (rw [hy139]; exact H) | exact H
      have Ny139 := mk0 hy139
      clear hy139
      simp only [Option.some.injEq, Prod.mk.injEq] at H
      obtain ⟨rfl, rfl⟩ := H
      obtain ⟨Ao67, co67, eo67⟩ := Kd.R_slice HO_5.out
      subst eo67
      try go_wp2_with (first | ((with_reducible refine gate_callee (f := 39) rfl ?_); refine goesL_ (some 60) rfl rfl Tryd.func39 zq6 rfl #[.slice Ao67 x5_8.length co67] rfl zq1 ?_; (with_reducible refine (utf8_DecodeLastRune.calls _ _ x5_8 t119 t120 _ ?side1 ?side2 ?side3 A31.out).mono ?_); (case side1 => exact zq9); (case side2 => exact (Kd.R_reads' HO_5.out).2.1); (case side3 => exact zq10); rintro e w68 ⟨rfl, hb⟩; refine ⟨_, rfl, ?_⟩; have n0_ := mk0 (Kd.R_below zq3 hb); have n1_ := mk0 (Kd.R_below zq5 hb); have n2_ := mk0 (below_step zq0 hb); clear HO_4 HO_5 HB; have HO_4 := n0_; have HO_5 := n1_; have HB := n2_; clear n0_ n1_ n2_; (try clear hb); (try clear hb2); (try clear hk); (try clear hi); have q69 : ((ji63) : Int) ≤ ((x5_8.length : Int) : Int) := of_decide_eq_true zq2; obtain ⟨i069, hi069, _, hsz69, _⟩ := info_parts info5; have hcut69 := cut_to (P := Tryd.prog) 29 5 .i64 Tryd.underlying29 hi069 Ao67 x5_8.length co67 (ji63) (of_decide_eq_true zq2) q69 (Kd.R_reads' HO_5.out).2.1; have hr69 := Kd.R_take (m := ((ji63) : Int).toNat) HO_5.out (by omega); have hy69 : y136.length = ((ji63) : Int).toNat := (by rw [Ny136.out, List.length_take]; omega); rw [← Ny136.out] at hr69; rw [← hy69] at hr69 hcut69; clear hy69 hi069 hsz69 HO_5; have HO138 := mk0 hr69; clear hr69; replace q69 := eq_true q69; have hob69 := own_len Ao67 x5_8.length y136.length co67; (try simp only [hob69] at HO_4); clear hob69) | ((with_reducible refine gate_builtin (b := .append) (xs := #[.tmp 90, .tmp 93]) rfl ?_); at_builtin; refine Kd.R_append (Kd.int .u8) (w0 := w) w.heap.size rfl (.tmp 90) (.tmp 93) 29 5 (.int .u8 0) 1 rfl Tryd.underlying29 info5 rfl zq25 (by omega) (.slice Ao67 y136.length co67) y136 ((wrap32 (t119 + 1)) % 256) [.int .u8 ((wrap32 (t119 + 1)) % 256)] (fun k_ => some k_ ≠ (u4 : Value).ownBlock) (fun _ => False) rfl rfl ?aP (fun _ hk => hk.elim) ?aF ?aO ?aB ?aS ?aL ?_; (case aP => exact rfl); (case aB => exact zq0); (case aF => exact (fun k_ hk => Kd.fresh' (Kd.R_lt zq3) k_ hk)); (case aO => exact (by (with_reducible repeat (first | apply Kd.R_alloc | apply Kd.R_drewN | apply Kd.R_drew)); exact HO138.out)); (case aS => exact (below_size zq0)); (case aL => have := LMc66.out; first | omega | (simp only [List.length_cons, List.length_nil] at this ⊢; omega)); intro v140 w70 ho hb hg hat; rw [← Ny139.out] at ho; have n0_ := mk0 (Kd.R_after (ok := (fun _ => True)) (by (with_reducible repeat (first | apply Kd.R_alloc | apply Kd.R_drewN | apply Kd.R_drew)); exact Kd.R_mono HO_4.out (fun _ hk => ⟨trivial, hk⟩)) hg hat); have n1_ := mk0 (hb); have n2_ := mk0 (ho); clear HO_4 HB HO138; have HO_4 := n0_; have HB := n1_; have HO141 := n2_; clear n0_ n1_ n2_; clear ho hb hg hat))
      have n0_ := mk0 (Kd.R_drew HO_4.out)
      have n1_ := mk0 (Kd.R_drew HO141.out)
      have n2_ := mk0 (below_drew1 HB.out)
      clear HO_4
      clear HO141
      clear HB
      have HO_4 := n0_
      have HO141 := n1_
      have HB := n2_
      clear n0_ n1_ n2_
      refine start_ (n := 6) (S := fun w' => True) (ds := []) #[false, false, false, false, false, false] zq6 rfl rfl trivial (fun hHeld => ?_)
      generalize w70.drew = w71 at HO_4 HO141 HB hHeld ⊢
      refine pure_ (i := 0) (N := some 95) (v := ?_) (a' := ?_) #[true, false, false, false, false, false] rfl rfl zq6 (fun _ _ _ h => h) (Or.inl ⟨by rfl, ?_⟩) ?_ ?_
      rotate_left
      ·intro w'
       go_simp
       with_reducible rfl
      rotate_left
      ·simp only [Act.put, List.setIfInBounds_toArray, List.set_cons_zero, List.set_cons_succ, i64_w, i32_w]
       rfl
      refine pure_ (i := 2) (N := some 97) (v := ?_) (a' := ?_) #[true, false, true, false, false, false] rfl rfl zq6 (fun _ _ _ h => h) (Or.inl ⟨by rfl, ?_⟩) ?_ ?_
      rotate_left
      ·intro w'
       go_simp
       with_reducible rfl
      rotate_left
      ·simp only [Act.put, List.setIfInBounds_toArray, List.set_cons_zero, List.set_cons_succ, i64_w, i32_w]
       rfl
      refine join_ (σ := Unit) 1 #[true, true, true, true, true, false] (fun s_ => [(96, .string (strOfNums x4_8)), (98, .string (strOfNums y139)), (2, .string (strOfNums x4_8))]) (fun s_ w' => (Kd.R (Kd.int .u8) 5 w' w.heap.size (fun k_ => some k_ ≠ (u4 : Value).ownBlock) v140 y139) ∧ (Kd.R (Kd.int .u8) 5 w' w.heap.size (fun k_ => some k_ ≠ (v140 : Value).ownBlock) u4 x4_8) ∧ (Below w.heap.size w w')) ?_ ?_
      rotate_left
      ·intro hCont
       refine two_ (i := 1) (j := 3) (Ni := some 96) (Nj := some 98) #[true, true, true, false, false, false] #[true, false, true, true, false, false] rfl rfl rfl rfl zq6 zq25 zq25 (fun K hK => ?_) (fun K hK => ?_)
       ·skip
        have hcv72 := own_string (P := Tryd.prog) Tryd.underlying29 Tryd.underlying5 Tryd.underlying9 (Kd.own_of_R HO_4.out)
        refine value_ (w1 := ?_) (v := ?_) (by rfl) rfl ?_ ?_
        rotate_left 2
        ·go_simp
         constructor
         ·rfl
         ·rfl
        clear hcv72
        refine hK.out _ _ trivial (fun hHeld => ?_)
        clear hK K
        refine norm_ (a' := ?_) ?_ ?_
        rotate_left
        ·show Act.put _ (some 96) _ = _
         simp only [Act.put, List.setIfInBounds_toArray, List.set_cons_zero, List.set_cons_succ, i64_w, i32_w]
         rfl
        refine pure_ (i := 4) (N := some 2) (v := ?_) (a' := ?_) #[true, true, true, false, true, false] rfl rfl zq6 (fun _ _ _ h => h) (Or.inl ⟨by rfl, ?_⟩) ?_ ?_
        rotate_left
        ·intro w'
         go_simp
         with_reducible rfl
        rotate_left
        ·simp only [Act.put, List.setIfInBounds_toArray, List.set_cons_zero, List.set_cons_succ, i64_w, i32_w]
         rfl
        refine one_ (i := 3) (N := some 98) #[true, true, true, true, true, false] rfl rfl zq6 zq25 (fun K hK => ?_)
        have hcv73 := own_string (P := Tryd.prog) Tryd.underlying29 Tryd.underlying5 Tryd.underlying9 (Kd.own_of_R HO141.out)
        refine value_ (w1 := ?_) (v := ?_) (by rfl) rfl ?_ ?_
        rotate_left 2
        ·go_simp
         constructor
         ·rfl
         ·rfl
        clear hcv73
        refine hK.out _ _ trivial (fun hHeld => ?_)
        clear hK K
        refine norm_ (a' := ?_) ?_ ?_
        rotate_left
        ·show Act.put _ (some 98) _ = _
         simp only [Act.put, List.setIfInBounds_toArray, List.set_cons_zero, List.set_cons_succ, i64_w, i32_w]
         rfl
        exact norm_ zq7 (hCont () _ ⟨(by (with_reducible repeat (first | apply Kd.R_alloc | apply Kd.R_drewN | apply Kd.R_drew)); exact HO141.out), zq22, zq0⟩)
       ·skip
        have hcv72 := own_string (P := Tryd.prog) Tryd.underlying29 Tryd.underlying5 Tryd.underlying9 (Kd.own_of_R HO141.out)
        refine value_ (w1 := ?_) (v := ?_) (by rfl) rfl ?_ ?_
        rotate_left 2
        ·go_simp
         constructor
         ·rfl
         ·rfl
        clear hcv72
        refine hK.out _ _ trivial (fun hHeld => ?_)
        clear hK K
        refine norm_ (a' := ?_) ?_ ?_
        rotate_left
        ·show Act.put _ (some 98) _ = _
         simp only [Act.put, List.setIfInBounds_toArray, List.set_cons_zero, List.set_cons_succ, i64_w, i32_w]
         rfl
        refine one_ (i := 1) (N := some 96) #[true, true, true, true, false, false] rfl rfl zq6 zq25 (fun K hK => ?_)
        have hcv73 := own_string (P := Tryd.prog) Tryd.underlying29 Tryd.underlying5 Tryd.underlying9 (Kd.own_of_R HO_4.out)
        refine value_ (w1 := ?_) (v := ?_) (by rfl) rfl ?_ ?_
        rotate_left 2
        ·go_simp
         constructor
         ·rfl
         ·rfl
        clear hcv73
        refine hK.out _ _ trivial (fun hHeld => ?_)
        clear hK K
        refine norm_ (a' := ?_) ?_ ?_
        rotate_left
        ·show Act.put _ (some 96) _ = _
         simp only [Act.put, List.setIfInBounds_toArray, List.set_cons_zero, List.set_cons_succ, i64_w, i32_w]
         rfl
        refine pure_ (i := 4) (N := some 2) (v := ?_) (a' := ?_) #[true, true, true, true, true, false] rfl rfl zq6 (fun _ _ _ h => h) (Or.inl ⟨by rfl, ?_⟩) ?_ ?_
        rotate_left
        ·intro w'
         go_simp
         with_reducible rfl
        rotate_left
        ·simp only [Act.put, List.setIfInBounds_toArray, List.set_cons_zero, List.set_cons_succ, i64_w, i32_w]
         rfl
        exact norm_ zq7 (hCont () _ ⟨(by (with_reducible repeat (first | apply Kd.R_alloc | apply Kd.R_drewN | apply Kd.R_drew)); exact HO141.out), zq22, zq0⟩)
      rintro _ w74 ⟨h0_, h1_, h2_⟩
      have n0_ : Aside0 (Kd.R (Kd.int .u8) 5 w74 w.heap.size (fun k_ => some k_ ≠ (u4 : Value).ownBlock) v140 y139) := ⟨h0_⟩
      have n1_ : Aside0 (Kd.R (Kd.int .u8) 5 w74 w.heap.size (fun k_ => some k_ ≠ (v140 : Value).ownBlock) u4 x4_8) := ⟨h1_⟩
      have n2_ : Aside0 (Below w.heap.size w w74) := ⟨h2_⟩
      clear HO_4
      clear HO141
      clear HB
      clear h0_ h1_ h2_
      have HO141 := n0_
      have HO_4 := n1_
      have HB := n2_
      clear n0_ n1_ n2_
      have hHeld := trivial
      refine norm_ (a' := ?_) ?_ ?_
      rotate_left
      ·simp only [putAll, Act.put, List.setIfInBounds_toArray, List.set_cons_zero, List.set_cons_succ]
       rfl
      refine pure_ (i := 5) (N := some 3) (v := ?_) (a' := ?_) #[true, true, true, true, true, true] rfl rfl zq6 (fun _ _ _ h => h) (Or.inl ⟨by rfl, ?_⟩) ?_ ?_
      rotate_left
      ·intro w'
       go_simp
       with_reducible rfl
      rotate_left
      ·simp only [Act.put, List.setIfInBounds_toArray, List.set_cons_zero, List.set_cons_succ, i64_w, i32_w]
       rfl
      refine done_ zq6 ?_
      try go_wp2
      go_ret2
      exact ⟨by first | rfl | (simp [errW_none, errW_some] <;> rfl) | (simp only [← hji63]; first | rfl | (simp [errW_none, errW_some] <;> rfl)) | (simp [*, errW_none, errW_some] <;> rfl), by repeat (first | (with_reducible first | exact HB.out | apply below_alloc | apply pw_below_drewN | apply below_drew1) | exact HB.out)⟩
     rw [if_pos c40] at H
     have c40b0 : decide (127 < (wrap32 (t119 + 1))) = true := decide_eq_true c40
     clear c40
     by_cases c41 : 4 ≤ 281474976710656
     rotate_left
     ·rw [if_neg c41] at H
      exact absurd H (by simp)
     rw [if_pos c41] at H
     have c41b0 := eq_true c41
     have c41b1 : decide (4 ≤ 281474976710656) = true := decide_eq_true c41
     clear c41
     obtain ⟨y121, hy121⟩ : ∃ y_ : List Int, y_ = (List.replicate 4 0) := ⟨_, rfl⟩
     replace H : ((utf8_EncodeRune.f kj8 y121 (wrap32 (t119 + 1))).bind fun bt124 => (if 0 ≤ (wrap64 ((x5_8.length : Int) - t120)) then (if (wrap64 ((x5_8.length : Int) - t120)) ≤ (x5_8.length : Int) then ((some (x5_8.take ((wrap64 ((x5_8.length : Int) - t120)) : Int).toNat : List Int)).bind fun y126 => (if 0 ≤ bt124.1 then (if bt124.1 ≤ (y121.length : Int) then ((some (bt124.2.take (bt124.1 : Int).toNat : List Int)).bind fun y129 => (if y126.length + y129.length < 140737488355328 then (some (strOfNums x4_8, strOfNums (y126 ++ y129))) else (none))) else (none)) else (none))) else (none)) else (none))) = some (r1, r2) := by first | (rw [hy121]; with_reducible exact H) | (have H2_ := (Option.bind_some _ _).symm.trans H; rw [hy121]; with_reducible exact H2_) | (have H2_ := (Option.bind_some _ _).symm.trans H; with_reducible exact H2_) | with_reducible exact H | (rw [hy121]; exact H) | exact H
     have Ny121 := mk0 hy121
     clear hy121
     replace H := Option.bind_eq_some_iff.mp H
     obtain ⟨⟨t124, t125⟩, A420, H⟩ := H
     replace H : (if 0 ≤ (wrap64 ((x5_8.length : Int) - t120)) then (if (wrap64 ((x5_8.length : Int) - t120)) ≤ (x5_8.length : Int) then ((some (x5_8.take ((wrap64 ((x5_8.length : Int) - t120)) : Int).toNat : List Int)).bind fun y126 => (if 0 ≤ t124 then (if t124 ≤ (y121.length : Int) then ((some (t125.take (t124 : Int).toNat : List Int)).bind fun y129 => (if y126.length + y129.length < 140737488355328 then (some (strOfNums x4_8, strOfNums (y126 ++ y129))) else (none))) else (none)) else (none))) else (none)) else (none)) = some (r1, r2) := H
     have A42 := mk0 A420
     clear A420
     obtain ⟨ji43, hji43⟩ : ∃ j_ : Int, (wrap64 ((x5_8.length : Int) - t120)) = j_ := ⟨_, rfl⟩
     replace H : (if 0 ≤ (ji43) then (if (ji43) ≤ (x5_8.length : Int) then ((some (x5_8.take ((ji43) : Int).toNat : List Int)).bind fun y126 => (if 0 ≤ t124 then (if t124 ≤ (y121.length : Int) then ((some (t125.take (t124 : Int).toNat : List Int)).bind fun y129 => (if y126.length + y129.length < 140737488355328 then (some (strOfNums x4_8, strOfNums (y126 ++ y129))) else (none))) else (none)) else (none))) else (none)) else (none)) = some (r1, r2) := by first | (rw [hji43] at H; exact H) | (simp only [hji43] at H ⊢; exact H)
     (try rw [hji43] at A31)
     (try rw [hji43] at A42)
     have hji43w : (IntKind.i64.wrap ((x5_8.length : Int) - t120)) = ji43 := (i64_w _).trans hji43
     by_cases c44 : 0 ≤ (ji43)
     rotate_left
     ·rw [if_neg c44] at H
      exact absurd H (by simp)
     rw [if_pos c44] at H
     have c44b0 := eq_true c44
     have c44b1 : decide (0 ≤ (ji43)) = true := decide_eq_true c44
     clear c44
     by_cases c45 : (ji43) ≤ (x5_8.length : Int)
     rotate_left
     ·rw [if_neg c45] at H
      exact absurd H (by simp)
     rw [if_pos c45] at H
     have c45b0 := eq_true c45
     have c45b1 : decide ((ji43) ≤ (x5_8.length : Int)) = true := decide_eq_true c45
     clear c45
     obtain ⟨y126, hy126⟩ : ∃ y_ : List Int, y_ = (x5_8.take ((ji43) : Int).toNat) := ⟨_, rfl⟩
     replace H : (if 0 ≤ t124 then (if t124 ≤ (y121.length : Int) then ((some (t125.take (t124 : Int).toNat : List Int)).bind fun y129 => (if y126.length + y129.length < 140737488355328 then (some (strOfNums x4_8, strOfNums (y126 ++ y129))) else (none))) else (none)) else (none)) = some (r1, r2) := by first | (rw [hy126]; with_reducible exact H) | (have H2_ := (Option.bind_some _ _).symm.trans H; rw [hy126]; with_reducible exact H2_) | (have H2_ := (Option.bind_some _ _).symm.trans H; with_reducible exact H2_) | with_reducible exact H | (rw [hy126]; exact H) | exact H
     have Ny126 := mk0 hy126
     clear hy126
     by_cases c46 : 0 ≤ t124
     rotate_left
     ·rw [if_neg c46] at H
      exact absurd H (by simp)
     rw [if_pos c46] at H
     have c46b0 := eq_true c46
     have c46b1 : decide (0 ≤ t124) = true := decide_eq_true c46
     clear c46
     by_cases c47 : t124 ≤ (y121.length : Int)
     rotate_left
     ·rw [if_neg c47] at H
      exact absurd H (by simp)
     rw [if_pos c47] at H
     have c47b0 := eq_true c47
     have c47b1 : decide (t124 ≤ (y121.length : Int)) = true := decide_eq_true c47
     clear c47
     obtain ⟨y129, hy129⟩ : ∃ y_ : List Int, y_ = (t125.take (t124 : Int).toNat) := ⟨_, rfl⟩
     replace H : (if y126.length + y129.length < 140737488355328 then (some (strOfNums x4_8, strOfNums (y126 ++ y129))) else (none)) = some (r1, r2) := by first | (rw [hy129]; with_reducible exact H) | (have H2_ := (Option.bind_some _ _).symm.trans H; rw [hy129]; with_reducible exact H2_) | (have H2_ := (Option.bind_some _ _).symm.trans H; with_reducible exact H2_) | with_reducible exact H | (rw [hy129]; exact H) | exact H
     have Ny129 := mk0 hy129
     clear hy129
     by_cases c48 : y126.length + y129.length < 140737488355328
     rotate_left
     ·rw [if_neg c48] at H
      exact absurd H (by simp)
     rw [if_pos c48] at H
     have LMc48 := mk0 c48
     clear c48
     obtain ⟨y133, hy133⟩ : ∃ y_ : List Int, y_ = (y126 ++ y129) := ⟨_, rfl⟩
     replace H : (some (strOfNums x4_8, strOfNums y133)) = some (r1, r2) := by first | (rw [hy133]; with_reducible exact H) | (have H2_ := (Option.bind_some _ _).symm.trans H; rw [hy133]; with_reducible exact H2_) | (have H2_ := (Option.bind_some _ _).symm.trans H; with_reducible exact H2_) | with_reducible exact H | (rw [hy133]; exact H) | exact H
     have Ny133 := mk0 hy133
     clear hy133
     simp only [Option.some.injEq, Prod.mk.injEq] at H
     obtain ⟨rfl, rfl⟩ := H
     obtain ⟨Ao49, co49, eo49⟩ := Kd.R_slice HO_5.out
     subst eo49
     try go_wp2_with (first | ((with_reducible refine gate_callee (f := 39) rfl ?_); refine goesL_ (some 60) rfl rfl Tryd.func39 zq6 rfl #[.slice Ao49 x5_8.length co49] rfl zq1 ?_; (with_reducible refine (utf8_DecodeLastRune.calls _ _ x5_8 t119 t120 _ ?side1 ?side2 ?side3 A31.out).mono ?_); (case side1 => exact zq9); (case side2 => exact (Kd.R_reads' HO_5.out).2.1); (case side3 => exact zq10); rintro e w50 ⟨rfl, hb⟩; refine ⟨_, rfl, ?_⟩; have n0_ := mk0 (Kd.R_below zq3 hb); have n1_ := mk0 (Kd.R_below zq5 hb); have n2_ := mk0 (below_step zq0 hb); clear HO_4 HO_5 HB; have HO_4 := n0_; have HO_5 := n1_; have HB := n2_; clear n0_ n1_ n2_; (try clear hb); (try clear hb2); (try clear hk); (try clear hi)) | ((with_reducible refine gate_dst (N := 71) rfl ?_); refine Kd.R_make (Kd.int .u8) _ 5 rfl (N := 71) rfl 29 _ _ rfl 4 rfl rfl Tryd.underlying29 (.int .u8 0) 1 info5 rfl zq25 (by omega) 0 (ok := fun _ => True) (okp := fun _ => True) rfl (fun _ hk => hk) trivial (by omega) (by omega) (Below.refl _ _) (Nat.le_refl _) ?_; intro v122 w51 ho52 hb hg_ hnew_; clear hg_ hnew_; (first | rw [← Ny121.out] at ho52 | (simp only [Int.reduceToNat] at ho52; rw [← Ny121.out] at ho52)); have n0_ := mk0 (Kd.R_elder' zq3 (Kd.R_base ho52) hb); have n1_ := mk0 (Kd.R_elder' zq5 (Kd.R_base ho52) hb); have n2_ := mk0 (Kd.R_lower (Kd.R_new' (Kd.R_new' ho52 (Kd.R_lt zq3)) (Kd.R_lt zq5)) (below_size zq0)); have n3_ := mk0 (below_step zq0 hb); clear HO_4 HO_5 HB; have HO_4 := n0_; have HO_5 := n1_; have HO123 := n2_; have HB := n3_; clear n0_ n1_ n2_ n3_; clear hb ho52; obtain ⟨Ao53, co53, eo53⟩ := Kd.R_slice HO123.out; subst eo53) | ((with_reducible refine gate_callee (f := 40) rfl ?_); refine goesL_ (some 74) rfl rfl Tryd.func40 zq6 rfl #[.slice Ao53 y121.length co53, .int .i32 (wrap32 (t119 + 1))] rfl zq1 ?_; (with_reducible refine (utf8_EncodeRune.calls kj8 (fun k_ => some k_ = (.slice Ao53 y121.length co53 : Value).ownBlock) (.slice Ao53 y121.length co53) y121 (wrap32 (t119 + 1)) t124 t125 w _ ?side1 ?side2 A42.out).mono ?_); (case side1 => exact zq0); (case side2 => exact Kd.R_tight rfl HO123.out); rintro e w54 ⟨rfl, hy0, hb, hkp⟩; refine ⟨_, rfl, ?_⟩; have n0_ := mk0 (Kd.R_mono (ok' := fun k_ => some k_ ≠ (.slice Ao49 x5_8.length co49 : Value).ownBlock ∧ some k_ ≠ (.slice Ao53 y121.length co53 : Value).ownBlock) (Kd.R_keptB (HO_4.out) hkp (fun k_ hk_ hs_ => (hk_.2) hs_)) (fun k_ hk_ => ⟨hk_.1.1, hk_.1.2⟩)); have n1_ := mk0 (Kd.R_mono (ok' := fun k_ => some k_ ≠ (u4 : Value).ownBlock ∧ some k_ ≠ (.slice Ao53 y121.length co53 : Value).ownBlock) (Kd.R_keptB (HO_5.out) hkp (fun k_ hk_ hs_ => (hk_.2) hs_)) (fun k_ hk_ => ⟨hk_.1.1, hk_.1.2⟩)); have n2_ := mk0 (Kd.R_reok rfl hy0 (fun k_ e_ => HO123.out.1 k_ e_)); have n3_ := mk0 (hb); clear HO_4 HO_5 HO123 HB; have HO_4 := n0_; have HO_5 := n1_; have HO123 := n2_; have HB := n3_; clear n0_ n1_ n2_ n3_; (try clear hb); (try clear hkp); (try clear hy0)))
     have n0_ := mk0 (Kd.R_drew HO_4.out)
     have n1_ := mk0 (Kd.R_drew HO_5.out)
     have n2_ := mk0 (Kd.R_drew HO123.out)
     have n3_ := mk0 (below_drew1 HB.out)
     clear HO_4
     clear HO_5
     clear HO123
     clear HB
     have HO_4 := n0_
     have HO_5 := n1_
     have HO123 := n2_
     have HB := n3_
     clear n0_ n1_ n2_ n3_
     have q56 : ((ji43) : Int) ≤ ((x5_8.length : Int) : Int) := of_decide_eq_true zq2
     obtain ⟨i056, hi056, _, hsz56, _⟩ := info_parts info5
     have hcut56 := cut_to (P := Tryd.prog) 29 5 .i64 Tryd.underlying29 hi056 Ao49 x5_8.length co49 (ji43) (of_decide_eq_true zq2) q56 (Kd.R_reads' HO_5.out).2.1
     have hr56 := Kd.R_take (m := ((ji43) : Int).toNat) HO_5.out (by omega)
     have hy56 : y126.length = ((ji43) : Int).toNat := (by rw [Ny126.out, List.length_take]; omega)
     rw [← Ny126.out] at hr56
     rw [← hy56] at hr56 hcut56
     clear hy56 hi056 hsz56 HO_5
     have HO128 := mk0 hr56
     clear hr56
     replace q56 := eq_true q56
     have hob56 := own_len Ao49 x5_8.length y126.length co49
     (try simp only [hob56] at HO_4)
     (try simp only [hob56] at HO123)
     clear hob56
     have hlx57 := (Kd.R_reads' HO123.out).1
     have q57 : (t124 : Int) ≤ ((y121.length : Int) : Int) := of_decide_eq_true zq2
     obtain ⟨i057, hi057, _, hsz57, _⟩ := info_parts info5
     have hroom57 : y121.length ≤ co53 := (Kd.R_reads' HO123.out).2.1
     have hroomc57 : t125.length ≤ co53 := (by rw [← hlx57]; exact hroom57)
     have hC57 : Kd.C (Kd.int .u8) _ Ao53 t125.length t125 := (Kd.R_reads' HO123.out).2.2
     have hcut57 := cut_to (P := Tryd.prog) 29 5 .i64 Tryd.underlying29 hi057 Ao53 y121.length co53 t124 (of_decide_eq_true zq2) q57 hroom57
     have hr57 := Kd.C_take (m := (t124 : Int).toNat) hC57 (by omega)
     have hy57 : y129.length = (t124 : Int).toNat := (by rw [Ny129.out, List.length_take]; omega)
     rw [← Ny129.out] at hr57
     rw [← hy57] at hcut57
     have HR132 := mk0 hr57
     have HC132 := mk0 (show y129.length ≤ co53 from by omega)
     clear hr57 hC57 hroom57 hi057 hsz57 hroomc57
     have KY57 := mk0 hy57
     clear hy57
     have KE57 := mk0 hlx57
     have KL57 := mk0 (show (t124 : Int).toNat ≤ t125.length from by omega)
     clear hlx57
     replace q57 := eq_true q57
     refine start_ (n := 11) (S := fun w' => True) (ds := []) #[false, false, false, false, false, false, false, false, false, false, false] zq6 rfl rfl trivial (fun hHeld => ?_); refine with_tabW match_Allowable.tab24 match_Allowable.bits24 (fun HT_ HW_ => ?_)
     generalize w54.drew = w55 at HO_4 HO123 HB HO128 HR132 hHeld ⊢
     refine pure_ (i := 0) (N := some 75) (v := ?_) (a' := ?_) #[true, false, false, false, false, false, false, false, false, false, false] rfl rfl (any_of HT_.out zq6) (fun _ _ _ h => h) (Or.inl ⟨by rfl, ?_⟩) ?_ ?_
     rotate_left
     ·intro w'
      go_simp
      with_reducible rfl
     rotate_left
     ·simp only [Act.put, List.setIfInBounds_toArray, List.set_cons_zero, List.set_cons_succ, i64_w, i32_w]
      rfl
     refine pure_ (i := 1) (N := some 76) (v := ?_) (a' := ?_) #[true, true, false, false, false, false, false, false, false, false, false] rfl rfl (any_of HT_.out zq6) (fun _ _ _ h => h) (Or.inl ⟨by rfl, ?_⟩) ?_ ?_
     rotate_left
     ·intro w'
      go_simp
      with_reducible rfl
     rotate_left
     ·simp only [Act.put, List.setIfInBounds_toArray, List.set_cons_zero, List.set_cons_succ, i64_w, i32_w]
      rfl
     refine pure_ (i := 2) (N := some 77) (v := ?_) (a' := ?_) #[true, true, true, false, false, false, false, false, false, false, false] rfl rfl (any_of HT_.out zq6) (fun _ _ _ h => h) (Or.inl ⟨by rfl, ?_⟩) ?_ ?_
     rotate_left
     ·intro w'
      go_simp
      with_reducible rfl
     rotate_left
     ·simp only [Act.put, List.setIfInBounds_toArray, List.set_cons_zero, List.set_cons_succ, i64_w, i32_w]
      rfl
     refine pure_ (i := 3) (N := some 78) (v := ?_) (a' := ?_) #[true, true, true, true, false, false, false, false, false, false, false] rfl rfl (any_of HT_.out zq6) (fun _ _ _ h => h) (Or.inl ⟨by rfl, ?_⟩) ?_ ?_
     rotate_left
     ·intro w'
      go_simp
      with_reducible rfl
     rotate_left
     ·simp only [Act.put, List.setIfInBounds_toArray, List.set_cons_zero, List.set_cons_succ, i64_w, i32_w]
      rfl
     refine pure_ (i := 4) (N := some 79) (v := ?_) (a' := ?_) #[true, true, true, true, true, false, false, false, false, false, false] rfl rfl (any_of HT_.out zq6) (fun _ _ _ h => h) (Or.inl ⟨by rfl, ?_⟩) ?_ ?_
     rotate_left
     ·intro w'
      go_simp
      with_reducible rfl
     rotate_left
     ·simp only [Act.put, List.setIfInBounds_toArray, List.set_cons_zero, List.set_cons_succ, i64_w, i32_w]
      rfl
     refine pure_ (i := 5) (N := some 80) (v := ?_) (a' := ?_) #[true, true, true, true, true, true, false, false, false, false, false] rfl rfl (any_of HT_.out zq6) (fun _ _ _ h => h) (Or.inl ⟨by rfl, ?_⟩) ?_ ?_
     rotate_left
     ·intro w'
      go_simp
      with_reducible rfl
     rotate_left
     ·simp only [Act.put, List.setIfInBounds_toArray, List.set_cons_zero, List.set_cons_succ, i64_w, i32_w]
      rfl
     refine pure_ (i := 6) (N := some 81) (v := ?_) (a' := ?_) #[true, true, true, true, true, true, true, false, false, false, false] rfl rfl (any_of HT_.out zq6) (fun _ _ _ h => h) (Or.inl ⟨by rfl, ?_⟩) ?_ ?_
     rotate_left
     ·intro w'
      go_simp
      with_reducible rfl
     rotate_left
     ·simp only [Act.put, List.setIfInBounds_toArray, List.set_cons_zero, List.set_cons_succ, i64_w, i32_w]
      rfl
     refine pure_ (i := 7) (N := some 82) (v := ?_) (a' := ?_) #[true, true, true, true, true, true, true, true, false, false, false] rfl rfl (any_of HT_.out zq6) (fun _ _ _ h => h) (Or.inl ⟨by rfl, ?_⟩) ?_ ?_
     rotate_left
     ·intro w'
      go_simp
      with_reducible rfl
     rotate_left
     ·simp only [Act.put, List.setIfInBounds_toArray, List.set_cons_zero, List.set_cons_succ, i64_w, i32_w]
      rfl
     refine pure_ (i := 8) (N := some 83) (v := ?_) (a' := ?_) #[true, true, true, true, true, true, true, true, true, false, false] rfl rfl (any_of HT_.out zq6) (fun _ _ _ h => h) (Or.inl ⟨by rfl, ?_⟩) ?_ ?_
     rotate_left
     ·intro w'
      go_simp
      with_reducible rfl
     rotate_left
     ·simp only [Act.put, List.setIfInBounds_toArray, List.set_cons_zero, List.set_cons_succ, i64_w, i32_w]
      rfl
     refine one_ (i := 9) (N := some 84) #[true, true, true, true, true, true, true, true, true, true, false] rfl rfl (one_of HT_.out zq6) zq25 (fun K hK => ?_)
     refine Kd.R_append_rows_step (Kd.int .u8) (w0 := w) w.heap.size (by rfl) (.tmp 80) (.tmp 83) 29 5 (.int .u8 0) 1 rfl Tryd.underlying29 info5 rfl zq25 (by omega) (.slice Ao49 y126.length co49) y126 y129 _ _ _ (fun k_ => some k_ ≠ (u4 : Value).ownBlock ∧ some k_ ≠ (.slice Ao53 y121.length co53 : Value).ownBlock) (fun _ => False) rfl rfl ?aO ?aR (fun _ _ h => h) (fun _ h => h.elim) ?aF ?aB ?aS ?aL ?_
     (case aR => repeat (first | exact (by repeat (first | (with_reducible exact HR132.out) | (with_reducible refine Kd.C_alloc ?_ _) | (with_reducible refine Kd.C_drewN ?_ _) | (with_reducible refine Kd.C_drew ?_) | exact HR132.out)) | (with_reducible refine Kd.C_alloc ?_ _) | (with_reducible refine Kd.C_drewN ?_ _) | (with_reducible refine Kd.C_drew ?_)))
     (case aB => exact zq0)
     (case aF => exact (fun k_ hk => ⟨Kd.fresh' (Kd.R_lt zq3) k_ hk, Kd.fresh' (Kd.R_lt (by (with_reducible repeat (first | apply Kd.R_alloc | apply Kd.R_drewN | apply Kd.R_drew)); exact HO123.out)) k_ hk⟩))
     (case aO => exact (by (with_reducible repeat (first | apply Kd.R_alloc | apply Kd.R_drewN | apply Kd.R_drew)); exact HO128.out))
     (case aS => exact (below_size zq0))
     (case aL => have := LMc48.out; first | omega | (simp only [List.length_cons, List.length_nil] at this ⊢; omega))
     intro v134 w58 ho hb hg hat
     rw [← Ny133.out] at ho
     have n0_ := mk0 (Kd.R_after (ok := (fun k_ => some k_ ≠ (.slice Ao53 y121.length co53 : Value).ownBlock)) (by (with_reducible repeat (first | apply Kd.R_alloc | apply Kd.R_drewN | apply Kd.R_drew)); exact Kd.R_mono HO_4.out (fun _ hk => ⟨hk.2, hk.1⟩)) hg hat)
     have n1_ := mk0 (Kd.R_after (ok := (fun k_ => some k_ ≠ (u4 : Value).ownBlock)) zq18 hg hat)
     have n2_ := mk0 (hb)
     have n3_ := mk0 ((show Kd.C (Kd.int .u8) w58 Ao53 y129.length y129 from by rw [Ny129.out]; exact Kd.C_take (m := (t124 : Int).toNat) ((Kd.R_reads' (Kd.R_after (ok := (fun k_ => some k_ ≠ (u4 : Value).ownBlock)) zq18 hg hat)).2.2) KL57.out))
     have n4_ := mk0 (ho)
     clear HO_4
     clear HO123
     clear HB
     clear HR132
     clear HO128
     have HO_4 := n0_
     have HO123 := n1_
     have HB := n2_
     have HR132 := n3_
     have HO135 := n4_
     clear n0_ n1_ n2_ n3_ n4_
     clear ho hb hg hat
     refine hK.out _ _ trivial (fun hHeld => ?_)
     clear hK K
     refine norm_ (a' := ?_) ?_ ?_
     rotate_left
     ·show Act.put _ (some 84) _ = _
      simp only [Act.put, List.setIfInBounds_toArray, List.set_cons_zero, List.set_cons_succ, i64_w, i32_w]
      rfl
     refine pure_ (i := 10) (N := some 5) (v := ?_) (a' := ?_) #[true, true, true, true, true, true, true, true, true, true, true] rfl rfl (any_of HT_.out zq6) (fun _ _ _ h => h) (Or.inl ⟨by rfl, ?_⟩) ?_ ?_
     rotate_left
     ·intro w'
      go_simp
      with_reducible rfl
     rotate_left
     ·simp only [Act.put, List.setIfInBounds_toArray, List.set_cons_zero, List.set_cons_succ, i64_w, i32_w]
      rfl
     refine done_ (done_of HT_.out zq6) ?_
     try go_wp2
     have n0_ := mk0 (Kd.R_drew HO_4.out)
     have n1_ := mk0 (Kd.R_drew HO123.out)
     have n2_ := mk0 (Kd.R_drew HO135.out)
     have n3_ := mk0 (Kd.C_drew HR132.out)
     have n4_ := mk0 (below_drew1 HB.out)
     clear HO_4
     clear HO123
     clear HO135
     clear HR132
     clear HB
     have HO_4 := n0_
     have HO123 := n1_
     have HO135 := n2_
     have HR132 := n3_
     have HB := n4_
     clear n0_ n1_ n2_ n3_ n4_
     refine start_ (n := 6) (S := fun w' => True) (ds := []) #[false, false, false, false, false, false] zq6 rfl rfl trivial (fun hHeld => ?_)
     generalize w58.drew = w59 at HO_4 HO123 HO135 HR132 HB hHeld ⊢
     refine pure_ (i := 0) (N := some 95) (v := ?_) (a' := ?_) #[true, false, false, false, false, false] rfl rfl zq6 (fun _ _ _ h => h) (Or.inl ⟨by rfl, ?_⟩) ?_ ?_
     rotate_left
     ·intro w'
      go_simp
      with_reducible rfl
     rotate_left
     ·simp only [Act.put, List.setIfInBounds_toArray, List.set_cons_zero, List.set_cons_succ, i64_w, i32_w]
      rfl
     refine pure_ (i := 2) (N := some 97) (v := ?_) (a' := ?_) #[true, false, true, false, false, false] rfl rfl zq6 (fun _ _ _ h => h) (Or.inl ⟨by rfl, ?_⟩) ?_ ?_
     rotate_left
     ·intro w'
      go_simp
      with_reducible rfl
     rotate_left
     ·simp only [Act.put, List.setIfInBounds_toArray, List.set_cons_zero, List.set_cons_succ, i64_w, i32_w]
      rfl
     refine join_ (σ := Unit) 1 #[true, true, true, true, true, false] (fun s_ => [(96, .string (strOfNums x4_8)), (98, .string (strOfNums y133)), (2, .string (strOfNums x4_8))]) (fun s_ w' => (Kd.R (Kd.int .u8) 5 w' w.heap.size (fun k_ => some k_ ≠ (v134 : Value).ownBlock ∧ some k_ ≠ (u4 : Value).ownBlock) (.slice Ao53 y121.length co53) t125) ∧ (Kd.R (Kd.int .u8) 5 w' w.heap.size (fun k_ => some k_ ≠ (.slice Ao53 y121.length co53 : Value).ownBlock ∧ some k_ ≠ (u4 : Value).ownBlock) v134 y133) ∧ (Kd.R (Kd.int .u8) 5 w' w.heap.size (fun k_ => some k_ ≠ (.slice Ao53 y121.length co53 : Value).ownBlock ∧ some k_ ≠ (v134 : Value).ownBlock) u4 x4_8) ∧ (Below w.heap.size w w')) ?_ ?_
     rotate_left
     ·intro hCont
      refine two_ (i := 1) (j := 3) (Ni := some 96) (Nj := some 98) #[true, true, true, false, false, false] #[true, false, true, true, false, false] rfl rfl rfl rfl zq6 zq25 zq25 (fun K hK => ?_) (fun K hK => ?_)
      ·skip
       have hcv60 := own_string (P := Tryd.prog) Tryd.underlying29 Tryd.underlying5 Tryd.underlying9 (Kd.own_of_R HO_4.out)
       refine value_ (w1 := ?_) (v := ?_) (by rfl) rfl ?_ ?_
       rotate_left 2
       ·go_simp
        constructor
        ·rfl
        ·rfl
       clear hcv60
       refine hK.out _ _ trivial (fun hHeld => ?_)
       clear hK K
       refine norm_ (a' := ?_) ?_ ?_
       rotate_left
       ·show Act.put _ (some 96) _ = _
        simp only [Act.put, List.setIfInBounds_toArray, List.set_cons_zero, List.set_cons_succ, i64_w, i32_w]
        rfl
       refine pure_ (i := 4) (N := some 2) (v := ?_) (a' := ?_) #[true, true, true, false, true, false] rfl rfl zq6 (fun _ _ _ h => h) (Or.inl ⟨by rfl, ?_⟩) ?_ ?_
       rotate_left
       ·intro w'
        go_simp
        with_reducible rfl
       rotate_left
       ·simp only [Act.put, List.setIfInBounds_toArray, List.set_cons_zero, List.set_cons_succ, i64_w, i32_w]
        rfl
       refine one_ (i := 3) (N := some 98) #[true, true, true, true, true, false] rfl rfl zq6 zq25 (fun K hK => ?_)
       have hcv61 := own_string (P := Tryd.prog) Tryd.underlying29 Tryd.underlying5 Tryd.underlying9 (Kd.own_of_R HO135.out)
       refine value_ (w1 := ?_) (v := ?_) (by rfl) rfl ?_ ?_
       rotate_left 2
       ·go_simp
        constructor
        ·rfl
        ·rfl
       clear hcv61
       refine hK.out _ _ trivial (fun hHeld => ?_)
       clear hK K
       refine norm_ (a' := ?_) ?_ ?_
       rotate_left
       ·show Act.put _ (some 98) _ = _
        simp only [Act.put, List.setIfInBounds_toArray, List.set_cons_zero, List.set_cons_succ, i64_w, i32_w]
        rfl
       exact norm_ zq7 (hCont () _ ⟨zq19, zq20, zq3, zq0⟩)
      ·skip
       have hcv60 := own_string (P := Tryd.prog) Tryd.underlying29 Tryd.underlying5 Tryd.underlying9 (Kd.own_of_R HO135.out)
       refine value_ (w1 := ?_) (v := ?_) (by rfl) rfl ?_ ?_
       rotate_left 2
       ·go_simp
        constructor
        ·rfl
        ·rfl
       clear hcv60
       refine hK.out _ _ trivial (fun hHeld => ?_)
       clear hK K
       refine norm_ (a' := ?_) ?_ ?_
       rotate_left
       ·show Act.put _ (some 98) _ = _
        simp only [Act.put, List.setIfInBounds_toArray, List.set_cons_zero, List.set_cons_succ, i64_w, i32_w]
        rfl
       refine one_ (i := 1) (N := some 96) #[true, true, true, true, false, false] rfl rfl zq6 zq25 (fun K hK => ?_)
       have hcv61 := own_string (P := Tryd.prog) Tryd.underlying29 Tryd.underlying5 Tryd.underlying9 (Kd.own_of_R HO_4.out)
       refine value_ (w1 := ?_) (v := ?_) (by rfl) rfl ?_ ?_
       rotate_left 2
       ·go_simp
        constructor
        ·rfl
        ·rfl
       clear hcv61
       refine hK.out _ _ trivial (fun hHeld => ?_)
       clear hK K
       refine norm_ (a' := ?_) ?_ ?_
       rotate_left
       ·show Act.put _ (some 96) _ = _
        simp only [Act.put, List.setIfInBounds_toArray, List.set_cons_zero, List.set_cons_succ, i64_w, i32_w]
        rfl
       refine pure_ (i := 4) (N := some 2) (v := ?_) (a' := ?_) #[true, true, true, true, true, false] rfl rfl zq6 (fun _ _ _ h => h) (Or.inl ⟨by rfl, ?_⟩) ?_ ?_
       rotate_left
       ·intro w'
        go_simp
        with_reducible rfl
       rotate_left
       ·simp only [Act.put, List.setIfInBounds_toArray, List.set_cons_zero, List.set_cons_succ, i64_w, i32_w]
        rfl
       exact norm_ zq7 (hCont () _ ⟨zq19, zq20, zq3, zq0⟩)
     rintro _ w62 ⟨h0_, h1_, h2_, h3_⟩
     have n0_ : Aside0 (Kd.R (Kd.int .u8) 5 w62 w.heap.size (fun k_ => some k_ ≠ (v134 : Value).ownBlock ∧ some k_ ≠ (u4 : Value).ownBlock) (.slice Ao53 y121.length co53) t125) := ⟨h0_⟩
     have n1_ : Aside0 (Kd.R (Kd.int .u8) 5 w62 w.heap.size (fun k_ => some k_ ≠ (.slice Ao53 y121.length co53 : Value).ownBlock ∧ some k_ ≠ (u4 : Value).ownBlock) v134 y133) := ⟨h1_⟩
     have n2_ : Aside0 (Kd.R (Kd.int .u8) 5 w62 w.heap.size (fun k_ => some k_ ≠ (.slice Ao53 y121.length co53 : Value).ownBlock ∧ some k_ ≠ (v134 : Value).ownBlock) u4 x4_8) := ⟨h2_⟩
     have n3_ : Aside0 (Below w.heap.size w w62) := ⟨h3_⟩
     clear HO_4
     clear HO123
     clear HO135
     clear HR132
     clear HB
     clear h0_ h1_ h2_ h3_
     have HO123 := n0_
     have HO135 := n1_
     have HO_4 := n2_
     have HB := n3_
     clear n0_ n1_ n2_ n3_
     have hHeld := trivial
     refine norm_ (a' := ?_) ?_ ?_
     rotate_left
     ·simp only [putAll, Act.put, List.setIfInBounds_toArray, List.set_cons_zero, List.set_cons_succ]
      rfl
     refine pure_ (i := 5) (N := some 3) (v := ?_) (a' := ?_) #[true, true, true, true, true, true] rfl rfl zq6 (fun _ _ _ h => h) (Or.inl ⟨by rfl, ?_⟩) ?_ ?_
     rotate_left
     ·intro w'
      go_simp
      with_reducible rfl
     rotate_left
     ·simp only [Act.put, List.setIfInBounds_toArray, List.set_cons_zero, List.set_cons_succ, i64_w, i32_w]
      rfl
     refine done_ zq6 ?_
     try go_wp2
     go_ret2
     exact ⟨by first | rfl | (simp [errW_none, errW_some] <;> rfl) | (simp only [← hji43]; first | rfl | (simp [errW_none, errW_some] <;> rfl)) | (simp [*, errW_none, errW_some] <;> rfl), by repeat (first | (with_reducible first | exact HB.out | apply below_alloc | apply pw_below_drewN | apply below_drew1) | exact HB.out)⟩
def impl_MtAllowable.f (k : Nat) (a0 : ByteArray) : Option (ByteArray × ByteArray) := (match_Allowable.f k a0).bind fun bt101 => (some (bt101.1, bt101.2))
theorem impl_MtAllowable.mono : ∀ a0 k, LeO (impl_MtAllowable.f k a0) (impl_MtAllowable.f (k + 1) a0) := by
 intro a0 k
 unfold impl_MtAllowable.f
 repeat' first
  | (with_reducible exact match_Allowable.mono _ _)
  | (with_reducible exact LeO.refl _)
  | (with_reducible exact LeO.none _)
  | (with_reducible refine LeO.ite ?_ ?_)
  | (with_reducible refine LeO.bind ?_ (fun _ => ?_))
  | exact match_Allowable.mono _ _
  | exact LeO.none _
  | refine LeO.ite ?_ ?_
  | refine LeO.bind ?_ (fun _ => ?_)
set_option maxHeartbeats 8000000 in
set_option maxRecDepth 100000 in
theorem impl_MtAllowable.calls (k : Nat) (a0 : ByteArray) (r1 : ByteArray) (r2 : ByteArray) (w : World) (hG : Laid w) (h : impl_MtAllowable.f k a0 = some (r1, r2)) :
 Calls Tryd.prog 11 #[.string a0] w fun e w' => e = .returned (.tuple #[.string r1, .string r2]) ∧ Below w.heap.size w w' := by
 have HG := mk0 hG
 clear hG
 have HB := mk0 (Below.refl w.heap.size w)
 have H : ((match_Allowable.f k a0).bind fun bt101 => (some (bt101.1, bt101.2))) = some (r1, r2) := h
 clear h
 replace H := Option.bind_eq_some_iff.mp H
 obtain ⟨⟨t101, t102⟩, A20, H⟩ := H
 replace H : (some (t101, t102)) = some (r1, r2) := H
 have A2 := mk0 A20
 clear A20
 simp only [Option.some.injEq, Prod.mk.injEq] at H
 obtain ⟨rfl, rfl⟩ := H
 go_enter Tryd.func11, Tryd.ntmps11
 go_wp2_with (first | ((with_reducible refine gate_callee (f := 24) rfl ?_); refine goesL_ (some 5) rfl rfl Tryd.func24 zq6 rfl #[.string a0] rfl zq1 ?_; (with_reducible refine (match_Allowable.calls k a0 t101 t102 _ ?side1 A2.out).mono ?_); (case side1 => exact zq10); rintro e w3 ⟨rfl, hb⟩; refine ⟨_, rfl, ?_⟩; have n0_ := mk0 (below_step zq0 hb); clear HB; have HB := n0_; clear n0_; (try clear hb); (try clear hb2); (try clear hk); (try clear hi)))
 go_ret2
 exact ⟨by first | rfl | (simp [errW_none, errW_some] <;> rfl) | (simp [*, errW_none, errW_some] <;> rfl), by repeat (first | (with_reducible first | exact HB.out | apply below_alloc | apply pw_below_drewN | apply below_drew1) | exact HB.out)⟩
def laws_mtHead.l0 : Nat → ByteArray → Int → Option (ByteArray)
  | 0, _, _ => none
  | k + 1, x0, x3 => if x3 < (x0.size : Int) then (if 0 ≤ x3 then (if (bt x0 x3) = 42 then (if x3 ≤ (x0.size : Int) then (some (x0.extract 0 (x3 : Int).toNat)) else (none)) else (if (bt x0 x3) = 63 then (if x3 ≤ (x0.size : Int) then (some (x0.extract 0 (x3 : Int).toNat)) else (none)) else (laws_mtHead.l0 k x0 (wrap64 (x3 + 1))))) else (none)) else (some x0)
def laws_mtHead.f (k : Nat) (a0 : ByteArray) : Option (ByteArray) := laws_mtHead.l0 k a0 0
theorem laws_mtHead.mono_l : ∀ k, (∀ y0 y1, LeO (laws_mtHead.l0 k y0 y1) (laws_mtHead.l0 (k + 1) y0 y1))
 | 0 => fun _ _ r h => by simp [laws_mtHead.l0] at h
 | k + 1 => by
  have ih0 := laws_mtHead.mono_l k
  ·intro y0 y1
   unfold laws_mtHead.l0
   repeat' first
   | (with_reducible exact ih0 _ _)
   | (with_reducible exact LeO.refl _)
   | (with_reducible exact LeO.none _)
   | (with_reducible refine LeO.ite ?_ ?_)
   | (with_reducible refine LeO.bind ?_ (fun _ => ?_))
   | exact ih0 _ _
   | exact LeO.none _
   | refine LeO.ite ?_ ?_
   | refine LeO.bind ?_ (fun _ => ?_)
theorem laws_mtHead.mono : ∀ a0 k, LeO (laws_mtHead.f k a0) (laws_mtHead.f (k + 1) a0) := by
 intro a0 k
 have ih0 := laws_mtHead.mono_l k
 unfold laws_mtHead.f
 repeat' first
  | (with_reducible exact ih0 _ _)
  | (with_reducible exact LeO.refl _)
  | (with_reducible exact LeO.none _)
  | (with_reducible refine LeO.ite ?_ ?_)
  | (with_reducible refine LeO.bind ?_ (fun _ => ?_))
  | exact ih0 _ _
  | exact LeO.none _
  | refine LeO.ite ?_ ?_
  | refine LeO.bind ?_ (fun _ => ?_)
set_option maxHeartbeats 8000000 in
set_option maxRecDepth 100000 in
theorem laws_mtHead.calls (k : Nat) (a0 : ByteArray) (r : ByteArray) (w : World) (h : laws_mtHead.f k a0 = some r) :
 Calls Tryd.prog 12 #[.string a0] w fun e w' => e = .returned (.string r) ∧ Drawn0 w w' := by
 have H : (laws_mtHead.l0 k a0 0) = some r := h
 clear h
 have H' := mk0 H
 clear H
 go_enter Tryd.func12, Tryd.ntmps12
 go_wp2
 go_loopg [3] k (fun kq v3 w' => ∃ (x3_1 : Int), v3 = .int .i64 x3_1 ∧ Aside0 (laws_mtHead.l0 kq a0 x3_1 = some r) ∧ Aside0 (kq ≤ k) ∧ Drawn0 w w')
 case atStart => exact ⟨(0), zq4, H', ⟨Nat.le_refl _⟩, by repeat (first | exact Drawn0.refl _ | apply Drawn0.step)⟩
 case round =>
  clear H'
  try clear c1
  obtain ⟨x3_1, rfl, HA, HK1, ⟨m1, rfl⟩⟩ := hrel
  cases gk with
  | zero => exact absurd HA.out (by simp [laws_mtHead.l0])
  | succ k1 =>
   have H := HA.out
   clear HA
   simp only [laws_mtHead.l0] at H
   by_cases c2 : x3_1 < (a0.size : Int)
   rotate_left
   ·rw [if_neg c2] at H
    have c2b0 : decide (x3_1 < (a0.size : Int)) = false := decide_eq_false c2
    clear c2
    obtain rfl := Option.some.inj H
    go_wp2
    go_ret
    exact ⟨by first | rfl | (simp; done) | (simp [*]; done), by repeat (first | exact Drawn0.refl _ | apply Drawn0.step)⟩
   rw [if_pos c2] at H
   have c2b0 : decide (x3_1 < (a0.size : Int)) = true := decide_eq_true c2
   clear c2
   by_cases c3 : 0 ≤ x3_1
   rotate_left
   ·rw [if_neg c3] at H
    exact absurd H (by simp)
   rw [if_pos c3] at H
   have c3b0 : decide (0 ≤ x3_1) = true := decide_eq_true c3
   clear c3
   by_cases c5 : (bt a0 x3_1) = 42
   ·rw [if_pos c5] at H
    have c5b0 : ((bt a0 x3_1) == 42) = true := beq_iff_eq.mpr c5
    have c5b1 : ((bt a0 x3_1) != 42) = false := bne_eq_false_iff_eq.mpr c5
    clear c5
    have c6b0 := eq_true (of_decide_eq_true zq2 : 0 ≤ x3_1)
    by_cases c7 : x3_1 ≤ (a0.size : Int)
    rotate_left
    ·rw [if_neg c7] at H
     exact absurd H (by simp)
    rw [if_pos c7] at H
    have c7b0 := eq_true c7
    have c7b1 : decide (x3_1 ≤ (a0.size : Int)) = true := decide_eq_true c7
    clear c7
    obtain rfl := Option.some.inj H
    have p4 : 0 ≤ (x3_1 : Int) := of_decide_eq_true zq2
    have q4 : x3_1 < (a0.size : Int) := of_decide_eq_true zq2
    have hx4 := bt_at a0 x3_1
    replace p4 := eq_true p4
    replace q4 := eq_true q4
    go_wp2
    go_ret
    exact ⟨by first | rfl | (simp; done) | (simp [*]; done), by repeat (first | exact Drawn0.refl _ | apply Drawn0.step)⟩
   rw [if_neg c5] at H
   have c5b0 : ((bt a0 x3_1) == 42) = false := beq_eq_false_iff_ne.mpr c5
   have c5b1 : ((bt a0 x3_1) != 42) = true := bne_iff_ne.mpr c5
   by_cases c9 : (bt a0 x3_1) = 63
   rotate_left
   ·rw [if_neg c9] at H
    have c9b0 : ((bt a0 x3_1) == 63) = false := beq_eq_false_iff_ne.mpr c9
    have c9b1 : ((bt a0 x3_1) != 63) = true := bne_iff_ne.mpr c9
    have H' := mk0 H
    clear H
    have p4 : 0 ≤ (x3_1 : Int) := of_decide_eq_true zq2
    have q4 : x3_1 < (a0.size : Int) := of_decide_eq_true zq2
    have hx4 := bt_at a0 x3_1
    replace p4 := eq_true p4
    replace q4 := eq_true q4
    have p8 : 0 ≤ (x3_1 : Int) := of_decide_eq_true zq2
    have q8 : x3_1 < (a0.size : Int) := of_decide_eq_true zq2
    have hx8 := bt_at a0 x3_1
    replace p8 := eq_true p8
    replace q8 := eq_true q8
    go_wp2
    go_roundg k1
    case measure => have := HK1.out; omega
    case rel => exact ⟨(wrap64 (x3_1 + 1)), zq4, H', ⟨by have := HK1.out; omega⟩, by repeat (first | exact Drawn0.refl _ | apply Drawn0.step)⟩
   rw [if_pos c9] at H
   have c9b0 : ((bt a0 x3_1) == 63) = true := beq_iff_eq.mpr c9
   have c9b1 : ((bt a0 x3_1) != 63) = false := bne_eq_false_iff_eq.mpr c9
   clear c9
   have c10b0 := eq_true (of_decide_eq_true zq2 : 0 ≤ x3_1)
   by_cases c11 : x3_1 ≤ (a0.size : Int)
   rotate_left
   ·rw [if_neg c11] at H
    exact absurd H (by simp)
   rw [if_pos c11] at H
   have c11b0 := eq_true c11
   have c11b1 : decide (x3_1 ≤ (a0.size : Int)) = true := decide_eq_true c11
   clear c11
   obtain rfl := Option.some.inj H
   have p4 : 0 ≤ (x3_1 : Int) := of_decide_eq_true zq2
   have q4 : x3_1 < (a0.size : Int) := of_decide_eq_true zq2
   have hx4 := bt_at a0 x3_1
   replace p4 := eq_true p4
   replace q4 := eq_true q4
   have p8 : 0 ≤ (x3_1 : Int) := of_decide_eq_true zq2
   have q8 : x3_1 < (a0.size : Int) := of_decide_eq_true zq2
   have hx8 := bt_at a0 x3_1
   replace p8 := eq_true p8
   replace q8 := eq_true q8
   go_wp2
   go_ret
   exact ⟨by first | rfl | (simp; done) | (simp [*]; done), by repeat (first | exact Drawn0.refl _ | apply Drawn0.step)⟩
end Go.Proofs.YtaigbkkgmncipaaDoor.A
end
