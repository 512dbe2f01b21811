/- The words, walks and laws that the proof rests on, laid together (part 3). -/
import Derived.Test.YtaigbkkgmncipaaDoorKFnMtAllowable2
section
namespace Go.Proofs.YtaigbkkgmncipaaDoor.A
open Go.RowKit Go.Proofs.YtaigbkkgmncipaaDoorW.PrintWords Go.Proofs.YtaigbkkgmncipaaDoorW.PrintLast Go.Proofs.YtaigbkkgmncipaaDoorW.PrintMore
attribute [local go_sem] max2_int min2_int max_two min_two max_three min_three max_four min_four bl_tri bl_or
set_option linter.unusedVariables false
set_option linter.unusedSimpArgs false
mutual
def laws_FnMtAllowable.j0 : Nat → ByteArray → ByteArray → Bool → Option (Bool)
  | 0, _, _, _ => none
  | k + 1, x0, x1, x17 => if x17 = true then (some true) else ((laws_mtTold.f k x0 x1).bind fun bt101 => (if bt101.2 = true then ((laws_mtOdd.f k x1).bind fun t103 => (if t103 = true then (laws_FnMtAllowable.j1 k x0 x1 bt101.1 true) else ((laws_mtBare.f k x0).bind fun t104 => ((laws_mtOdd.f k t104).bind fun t105 => (laws_FnMtAllowable.j1 k x0 x1 bt101.1 t105))))) else (laws_FnMtAllowable.j1 k x0 x1 bt101.1 true)))
def laws_FnMtAllowable.j1 : Nat → ByteArray → ByteArray → Bool → Bool → Option (Bool)
  | 0, _, _, _, _ => none
  | k + 1, x0, x1, x5, x34 => if x34 = true then (some true) else ((impl_MtAllowable.f k x1).bind fun bt106 => ((laws_mtHead.f k x1).bind fun t108 => (if (bt106.1.size : Int) < (t108.size : Int) then (some false) else (if 0 ≤ (t108.size : Int) then (if (t108.size : Int) ≤ (bt106.1.size : Int) then (if (bt106.1.extract 0 ((t108.size : Int) : Int).toNat).toList = t108.toList then (if x5 = true then (if ((Op.bytesLess x0.toList bt106.1.toList) = true) then (some false) else (if bt106.2.toList = ([] : List UInt8) then (some true) else (some (!(Op.bytesLess bt106.2.toList x0.toList))))) else (some true)) else (some false)) else (none)) else (none)))))
end
def laws_FnMtAllowable.f (k : Nat) (a0 : ByteArray) (a1 : ByteArray) : Option (Bool) := if (a0.size : Int) > 2147483647 then (laws_FnMtAllowable.j0 k a0 a1 true) else (laws_FnMtAllowable.j0 k a0 a1 (decide ((a1.size : Int) > 2147483647)))
theorem laws_FnMtAllowable.mono_l : ∀ k, (∀ y0 y1 y2, LeO (laws_FnMtAllowable.j0 k y0 y1 y2) (laws_FnMtAllowable.j0 (k + 1) y0 y1 y2)) ∧ (∀ y0 y1 y2 y3, LeO (laws_FnMtAllowable.j1 k y0 y1 y2 y3) (laws_FnMtAllowable.j1 (k + 1) y0 y1 y2 y3))
 | 0 => ⟨fun _ _ _ r h => by simp [laws_FnMtAllowable.j0] at h, fun _ _ _ _ r h => by simp [laws_FnMtAllowable.j1] at h⟩
 | k + 1 => by
  obtain ⟨ih0, ih1⟩ := laws_FnMtAllowable.mono_l k
  refine ⟨?_, ?_⟩
  ·intro y0 y1 y2
   unfold laws_FnMtAllowable.j0
   repeat' first
   | (with_reducible exact ih0 _ _ _)
   | (with_reducible exact ih1 _ _ _ _)
   | (with_reducible exact impl_MtAllowable.mono _ _)
   | (with_reducible exact laws_mtBare.mono _ _)
   | (with_reducible exact laws_mtHead.mono _ _)
   | (with_reducible exact laws_mtOdd.mono _ _)
   | (with_reducible exact laws_mtTold.mono _ _ _)
   | (with_reducible exact LeO.refl _)
   | (with_reducible exact LeO.none _)
   | (with_reducible refine LeO.ite ?_ ?_)
   | (with_reducible refine LeO.bind ?_ (fun _ => ?_))
   | exact ih0 _ _ _
   | exact ih1 _ _ _ _
   | exact impl_MtAllowable.mono _ _
   | exact laws_mtBare.mono _ _
   | exact laws_mtHead.mono _ _
   | exact laws_mtOdd.mono _ _
   | exact laws_mtTold.mono _ _ _
   | exact LeO.none _
   | refine LeO.ite ?_ ?_
   | refine LeO.bind ?_ (fun _ => ?_)
  ·intro y0 y1 y2 y3
   unfold laws_FnMtAllowable.j1
   repeat' first
   | (with_reducible exact ih0 _ _ _)
   | (with_reducible exact ih1 _ _ _ _)
   | (with_reducible exact impl_MtAllowable.mono _ _)
   | (with_reducible exact laws_mtBare.mono _ _)
   | (with_reducible exact laws_mtHead.mono _ _)
   | (with_reducible exact laws_mtOdd.mono _ _)
   | (with_reducible exact laws_mtTold.mono _ _ _)
   | (with_reducible exact LeO.refl _)
   | (with_reducible exact LeO.none _)
   | (with_reducible refine LeO.ite ?_ ?_)
   | (with_reducible refine LeO.bind ?_ (fun _ => ?_))
   | exact ih0 _ _ _
   | exact ih1 _ _ _ _
   | exact impl_MtAllowable.mono _ _
   | exact laws_mtBare.mono _ _
   | exact laws_mtHead.mono _ _
   | exact laws_mtOdd.mono _ _
   | exact laws_mtTold.mono _ _ _
   | exact LeO.none _
   | refine LeO.ite ?_ ?_
   | refine LeO.bind ?_ (fun _ => ?_)
theorem laws_FnMtAllowable.mono : ∀ a0 a1 k, LeO (laws_FnMtAllowable.f k a0 a1) (laws_FnMtAllowable.f (k + 1) a0 a1) := by
 intro a0 a1 k
 obtain ⟨ih0, ih1⟩ := laws_FnMtAllowable.mono_l k
 unfold laws_FnMtAllowable.f
 repeat' first
  | (with_reducible exact ih0 _ _ _)
  | (with_reducible exact ih1 _ _ _ _)
  | (with_reducible exact impl_MtAllowable.mono _ _)
  | (with_reducible exact laws_mtBare.mono _ _)
  | (with_reducible exact laws_mtHead.mono _ _)
  | (with_reducible exact laws_mtOdd.mono _ _)
  | (with_reducible exact laws_mtTold.mono _ _ _)
  | (with_reducible exact LeO.refl _)
  | (with_reducible exact LeO.none _)
  | (with_reducible refine LeO.ite ?_ ?_)
  | (with_reducible refine LeO.bind ?_ (fun _ => ?_))
  | exact ih0 _ _ _
  | exact ih1 _ _ _ _
  | exact impl_MtAllowable.mono _ _
  | exact laws_mtBare.mono _ _
  | exact laws_mtHead.mono _ _
  | exact laws_mtOdd.mono _ _
  | exact laws_mtTold.mono _ _ _
  | exact LeO.none _
  | refine LeO.ite ?_ ?_
  | refine LeO.bind ?_ (fun _ => ?_)
set_option maxHeartbeats 8000000 in
set_option maxRecDepth 100000 in
theorem laws_FnMtAllowable.calls (k : Nat) (a0 : ByteArray) (a1 : ByteArray) (r : Bool) (w : World) (hG : Laid w) (h : laws_FnMtAllowable.f k a0 a1 = some r) :
 Calls Tryd.prog 3 #[.string a0, .string a1] w fun e w' => e = .returned (.bool r) ∧ Below w.heap.size w w' := by
 have HG := mk0 hG
 clear hG
 have HB := mk0 (Below.refl w.heap.size w)
 have H : (if (a0.size : Int) > 2147483647 then (laws_FnMtAllowable.j0 k a0 a1 true) else (laws_FnMtAllowable.j0 k a0 a1 (decide ((a1.size : Int) > 2147483647)))) = some r := h
 clear h
 have HC3 := mk0 H
 clear H
 go_enter Tryd.func3, Tryd.ntmps3
 go_upto_region 1 with (fail)
 go_cut [17] (fun v17 wc => ∃ (kq : Nat) (x17_2 : Bool), v17 = .bool x17_2 ∧ Aside0 (laws_FnMtAllowable.j0 kq a0 a1 x17_2 = some r) ∧ Aside0 (kq ≤ k) ∧ Aside0 (Below w.heap.size w wc))
 case first =>
  have H := HC3.out
  clear HC3
  by_cases c4 : (a0.size : Int) > 2147483647
  ·rw [if_pos c4] at H
   have c4b0 : decide (2147483647 < (a0.size : Int)) = true := decide_eq_true c4
   have c4b1 : decide (2147483647 < a0.size) = true := decide_eq_true (by omega)
   clear c4
   (first | rw [c4b0] | (simp only [i64_w, i32_w]; rw [c4b0]) | rw [c4b1] | rw [if_pos (of_decide_eq_true c4b1)] | skip)
   have H' := mk0 H
   clear H
   go_wp2
   go_meet
   case rel => exact ⟨_, (true), zq4, H', ⟨by first | omega | exact Nat.le_refl _⟩, ⟨by repeat (first | (with_reducible first | exact HB.out | apply below_alloc | apply pw_below_drewN | apply below_drew1) | exact HB.out)⟩⟩
  rw [if_neg c4] at H
  have c4b0 : decide (2147483647 < (a0.size : Int)) = false := decide_eq_false c4
  have c4b1 : decide (2147483647 < a0.size) = false := decide_eq_false (by omega)
  clear c4
  (first | rw [c4b0] | (simp only [i64_w, i32_w]; rw [c4b0]) | rw [c4b1] | rw [if_neg (of_decide_eq_false c4b1)] | skip)
  have H' := mk0 H
  clear H
  go_wp2
  go_meet
  case rel => exact ⟨_, (decide ((a1.size : Int) > 2147483647)), zq4, H', ⟨by first | omega | exact Nat.le_refl _⟩, ⟨by repeat (first | (with_reducible first | exact HB.out | apply below_alloc | apply pw_below_drewN | apply below_drew1) | exact HB.out)⟩⟩
 case rest =>
  clear HC3
  try clear p2
  try clear c3
  try clear c4
  try clear c4b0
  try clear c4b1
  obtain ⟨kq, x17_2, rfl, HA, HJ2, HB⟩ := hcut
  cases kq with
  | zero => exact absurd HA.out (by simp [laws_FnMtAllowable.j0])
  | succ kj2 =>
   have H := HA.out
   clear HA
   simp only [laws_FnMtAllowable.j0] at H
   by_cases c5 : x17_2 = true
   ·subst c5
    have H1 : (some true) = some r := by rw [if_pos rfl] at H; exact H
    clear H
    have H := H1
    clear H1
    obtain rfl := Option.some.inj H
    go_wp2
    go_ret
    exact ⟨by first | rfl | (simp [errW_none, errW_some] <;> rfl) | (simp [*, errW_none, errW_some] <;> rfl), by repeat (first | (with_reducible first | exact HB.out | apply below_alloc | apply pw_below_drewN | apply below_drew1) | exact HB.out)⟩
   replace c5 := Bool.eq_false_iff.mpr c5
   subst c5
   have H1 : ((laws_mtTold.f kj2 a0 a1).bind fun bt101 => (if bt101.2 = true then ((laws_mtOdd.f kj2 a1).bind fun t103 => (if t103 = true then (laws_FnMtAllowable.j1 kj2 a0 a1 bt101.1 true) else ((laws_mtBare.f kj2 a0).bind fun t104 => ((laws_mtOdd.f kj2 t104).bind fun t105 => (laws_FnMtAllowable.j1 kj2 a0 a1 bt101.1 t105))))) else (laws_FnMtAllowable.j1 kj2 a0 a1 bt101.1 true))) = some r := by rw [if_neg (show ¬ (false = true) by decide)] at H; exact H
   clear H
   have H := H1
   clear H1
   replace H := Option.bind_eq_some_iff.mp H
   obtain ⟨⟨t101, t102⟩, A60, H⟩ := H
   replace H : (if t102 = true then ((laws_mtOdd.f kj2 a1).bind fun t103 => (if t103 = true then (laws_FnMtAllowable.j1 kj2 a0 a1 t101 true) else ((laws_mtBare.f kj2 a0).bind fun t104 => ((laws_mtOdd.f kj2 t104).bind fun t105 => (laws_FnMtAllowable.j1 kj2 a0 a1 t101 t105))))) else (laws_FnMtAllowable.j1 kj2 a0 a1 t101 true)) = some r := H
   have A6 := mk0 A60
   clear A60
   have HC7 := mk0 H
   clear H
   go_upto_region 4 with (first | ((with_reducible refine gate_callee (f := 8) rfl ?_); refine goesL_ (some 21) rfl rfl Tryd.func8 zq6 rfl #[.string a0, .string a1] rfl zq1 ?_; (with_reducible refine (laws_mtTold.calls kj2 a0 a1 t101 t102 _ A6.out).mono ?_); rintro e w8 ⟨rfl, hb⟩; refine ⟨_, rfl, ?_⟩; have n0_ := mk0 (below_step zq0 hb); clear HB; have HB := n0_; clear n0_; (try clear hb); (try clear hb2); (try clear hk); (try clear hi)))
   (try simp only [Act.put, List.setIfInBounds_toArray, List.set_cons_zero, List.set_cons_succ])
   go_cut [34] (fun v34 wc => ∃ (kq : Nat) (x34_6 : Bool), v34 = .bool x34_6 ∧ Aside0 (laws_FnMtAllowable.j1 kq a0 a1 t101 x34_6 = some r) ∧ Aside0 (kq ≤ kj2) ∧ Aside0 (Below w.heap.size w wc))
   case first =>
    have H := HC7.out
    clear HC7
    by_cases c9 : t102 = true
    rotate_left
    ·replace c9 := Bool.eq_false_iff.mpr c9
     subst c9
     have H1 : (laws_FnMtAllowable.j1 kj2 a0 a1 t101 true) = some r := by rw [if_neg (show ¬ (false = true) by decide)] at H; exact H
     clear H
     have H := H1
     clear H1
     have H' := mk0 H
     clear H
     go_wp2
     go_meet
     case rel => exact ⟨_, (true), zq4, H', ⟨by have := HJ2.out; first | omega | exact Nat.le_refl _⟩, ⟨by repeat (first | (with_reducible first | exact HB.out | apply below_alloc | apply pw_below_drewN | apply below_drew1) | exact HB.out)⟩⟩
    subst c9
    have H1 : ((laws_mtOdd.f kj2 a1).bind fun t103 => (if t103 = true then (laws_FnMtAllowable.j1 kj2 a0 a1 t101 true) else ((laws_mtBare.f kj2 a0).bind fun t104 => ((laws_mtOdd.f kj2 t104).bind fun t105 => (laws_FnMtAllowable.j1 kj2 a0 a1 t101 t105))))) = some r := by rw [if_pos rfl] at H; exact H
    clear H
    have H := H1
    clear H1
    replace H := Option.bind_eq_some_iff.mp H
    obtain ⟨t103, A100, H⟩ := H
    replace H : (if t103 = true then (laws_FnMtAllowable.j1 kj2 a0 a1 t101 true) else ((laws_mtBare.f kj2 a0).bind fun t104 => ((laws_mtOdd.f kj2 t104).bind fun t105 => (laws_FnMtAllowable.j1 kj2 a0 a1 t101 t105)))) = some r := H
    have A10 := mk0 A100
    clear A100
    by_cases c11 : t103 = true
    ·subst c11
     have H1 : (laws_FnMtAllowable.j1 kj2 a0 a1 t101 true) = some r := by rw [if_pos rfl] at H; exact H
     clear H
     have H := H1
     clear H1
     have H' := mk0 H
     clear H
     go_wp2_with (first | (go_at_call 9; (with_reducible refine (laws_mtOdd.calls kj2 a1 true _ A10.out).mono ?_); rintro e w12 ⟨rfl, hb⟩; have n0_ := mk0 (below_step zq0 hb); clear HB; have HB := n0_; clear n0_; (try clear hb); (try clear hb2); (try clear hk); (try clear hi)))
     go_meet
     case rel => exact ⟨_, (true), zq4, H', ⟨by have := HJ2.out; first | omega | exact Nat.le_refl _⟩, ⟨by repeat (first | (with_reducible first | exact HB.out | apply below_alloc | apply pw_below_drewN | apply below_drew1) | exact HB.out)⟩⟩
    replace c11 := Bool.eq_false_iff.mpr c11
    subst c11
    have H1 : ((laws_mtBare.f kj2 a0).bind fun t104 => ((laws_mtOdd.f kj2 t104).bind fun t105 => (laws_FnMtAllowable.j1 kj2 a0 a1 t101 t105))) = some r := by rw [if_neg (show ¬ (false = true) by decide)] at H; exact H
    clear H
    have H := H1
    clear H1
    replace H := Option.bind_eq_some_iff.mp H
    obtain ⟨t104, A130, H⟩ := H
    replace H : ((laws_mtOdd.f kj2 t104).bind fun t105 => (laws_FnMtAllowable.j1 kj2 a0 a1 t101 t105)) = some r := H
    have A13 := mk0 A130
    clear A130
    replace H := Option.bind_eq_some_iff.mp H
    obtain ⟨t105, A140, H⟩ := H
    replace H : (laws_FnMtAllowable.j1 kj2 a0 a1 t101 t105) = some r := H
    have A14 := mk0 A140
    clear A140
    have H' := mk0 H
    clear H
    go_wp2_with (first | (go_at_call 9; (with_reducible refine (laws_mtOdd.calls kj2 a1 false _ A10.out).mono ?_); rintro e w15 ⟨rfl, hb⟩; have n0_ := mk0 (below_step zq0 hb); clear HB; have HB := n0_; clear n0_; (try clear hb); (try clear hb2); (try clear hk); (try clear hi)) | (go_at_call 10; (with_reducible refine (laws_mtBare.calls kj2 a0 t104 _ A13.out).mono ?_); rintro e w16 ⟨rfl, hb⟩; have n0_ := mk0 (below_step zq0 hb); clear HB; have HB := n0_; clear n0_; (try clear hb); (try clear hb2); (try clear hk); (try clear hi)) | (go_at_call 9; (with_reducible refine (laws_mtOdd.calls kj2 t104 t105 _ A14.out).mono ?_); rintro e w17 ⟨rfl, hb⟩; have n0_ := mk0 (below_step zq0 hb); clear HB; have HB := n0_; clear n0_; (try clear hb); (try clear hb2); (try clear hk); (try clear hi)))
    go_meet
    case rel => exact ⟨_, (t105), zq4, H', ⟨by have := HJ2.out; first | omega | exact Nat.le_refl _⟩, ⟨by repeat (first | (with_reducible first | exact HB.out | apply below_alloc | apply pw_below_drewN | apply below_drew1) | exact HB.out)⟩⟩
   case rest =>
    clear HC7
    try clear c1
    try clear p2
    try clear c3
    try clear c4
    try clear c4b0
    try clear c4b1
    try clear c5
    try clear c8
    try clear c9
    try clear c11
    try clear p2
    obtain ⟨kq, x34_6, rfl, HA, HJ6, HB⟩ := hcut
    cases kq with
    | zero => exact absurd HA.out (by simp [laws_FnMtAllowable.j1])
    | succ kj6 =>
     have H := HA.out
     clear HA
     simp only [laws_FnMtAllowable.j1] at H
     by_cases c18 : x34_6 = true
     ·subst c18
      have H1 : (some true) = some r := by rw [if_pos rfl] at H; exact H
      clear H
      have H := H1
      clear H1
      obtain rfl := Option.some.inj H
      go_wp2
      go_ret
      exact ⟨by first | rfl | (simp [errW_none, errW_some] <;> rfl) | (simp [*, errW_none, errW_some] <;> rfl), by repeat (first | (with_reducible first | exact HB.out | apply below_alloc | apply pw_below_drewN | apply below_drew1) | exact HB.out)⟩
     replace c18 := Bool.eq_false_iff.mpr c18
     subst c18
     have H1 : ((impl_MtAllowable.f kj6 a1).bind fun bt106 => ((laws_mtHead.f kj6 a1).bind fun t108 => (if (bt106.1.size : Int) < (t108.size : Int) then (some false) else (if 0 ≤ (t108.size : Int) then (if (t108.size : Int) ≤ (bt106.1.size : Int) then (if (bt106.1.extract 0 ((t108.size : Int) : Int).toNat).toList = t108.toList then (if t101 = true then (if ((Op.bytesLess a0.toList bt106.1.toList) = true) then (some false) else (if bt106.2.toList = ([] : List UInt8) then (some true) else (some (!(Op.bytesLess bt106.2.toList a0.toList))))) else (some true)) else (some false)) else (none)) else (none))))) = some r := by rw [if_neg (show ¬ (false = true) by decide)] at H; exact H
     clear H
     have H := H1
     clear H1
     replace H := Option.bind_eq_some_iff.mp H
     obtain ⟨⟨t106, t107⟩, A190, H⟩ := H
     replace H : ((laws_mtHead.f kj6 a1).bind fun t108 => (if (t106.size : Int) < (t108.size : Int) then (some false) else (if 0 ≤ (t108.size : Int) then (if (t108.size : Int) ≤ (t106.size : Int) then (if (t106.extract 0 ((t108.size : Int) : Int).toNat).toList = t108.toList then (if t101 = true then (if ((Op.bytesLess a0.toList t106.toList) = true) then (some false) else (if t107.toList = ([] : List UInt8) then (some true) else (some (!(Op.bytesLess t107.toList a0.toList))))) else (some true)) else (some false)) else (none)) else (none)))) = some r := H
     have A19 := mk0 A190
     clear A190
     replace H := Option.bind_eq_some_iff.mp H
     obtain ⟨t108, A200, H⟩ := H
     replace H : (if (t106.size : Int) < (t108.size : Int) then (some false) else (if 0 ≤ (t108.size : Int) then (if (t108.size : Int) ≤ (t106.size : Int) then (if (t106.extract 0 ((t108.size : Int) : Int).toNat).toList = t108.toList then (if t101 = true then (if ((Op.bytesLess a0.toList t106.toList) = true) then (some false) else (if t107.toList = ([] : List UInt8) then (some true) else (some (!(Op.bytesLess t107.toList a0.toList))))) else (some true)) else (some false)) else (none)) else (none))) = some r := H
     have A20 := mk0 A200
     clear A200
     by_cases c21 : (t106.size : Int) < (t108.size : Int)
     ·rw [if_pos c21] at H
      have c21b0 : decide ((t106.size : Int) < (t108.size : Int)) = true := decide_eq_true c21
      have c21b1 : decide (t106.size < t108.size) = true := decide_eq_true (Int.ofNat_lt.mp c21)
      clear c21
      obtain rfl := Option.some.inj H
      go_wp2_with (first | ((with_reducible refine gate_callee (f := 11) rfl ?_); refine goesL_ (some 37) rfl rfl Tryd.func11 zq6 rfl #[.string a1] rfl zq1 ?_; (with_reducible refine (impl_MtAllowable.calls kj6 a1 t106 t107 _ ?side1 A19.out).mono ?_); (case side1 => exact zq10); rintro e w22 ⟨rfl, hb⟩; refine ⟨_, rfl, ?_⟩; have n0_ := mk0 (below_step zq0 hb); clear HB; have HB := n0_; clear n0_; (try clear hb); (try clear hb2); (try clear hk); (try clear hi)) | ((with_reducible refine gate_callee (f := 12) rfl ?_); refine goesL_ (some 41) rfl rfl Tryd.func12 zq6 rfl #[.string a1] rfl zq1 ?_; (with_reducible refine (laws_mtHead.calls kj6 a1 t108 _ A20.out).mono ?_); rintro e w' ⟨rfl, ⟨nd, rfl⟩⟩; refine ⟨_, rfl, ?_⟩))
      go_ret
      exact ⟨by first | rfl | (simp [errW_none, errW_some] <;> rfl) | (simp [*, errW_none, errW_some] <;> rfl), by repeat (first | (with_reducible first | exact HB.out | apply below_alloc | apply pw_below_drewN | apply below_drew1) | exact HB.out)⟩
     rw [if_neg c21] at H
     have c21b0 : decide ((t106.size : Int) < (t108.size : Int)) = false := decide_eq_false c21
     have c21b1 : decide (t106.size < t108.size) = false := decide_eq_false (fun h => c21 (Int.ofNat_lt.mpr h))
     clear c21
     by_cases c23 : 0 ≤ (t108.size : Int)
     rotate_left
     ·rw [if_neg c23] at H
      exact absurd H (by simp)
     rw [if_pos c23] at H
     have c23b0 := eq_true c23
     have c23b1 : decide (0 ≤ (t108.size : Int)) = true := decide_eq_true c23
     clear c23
     by_cases c24 : (t108.size : Int) ≤ (t106.size : Int)
     rotate_left
     ·rw [if_neg c24] at H
      exact absurd H (by simp)
     rw [if_pos c24] at H
     have c24b0 := eq_true c24
     have c24b1 : decide ((t108.size : Int) ≤ (t106.size : Int)) = true := decide_eq_true c24
     clear c24
     by_cases c25 : (t106.extract 0 ((t108.size : Int) : Int).toNat).toList = t108.toList
     rotate_left
     ·rw [if_neg c25] at H
      have c25b0 : ((t106.extract 0 ((t108.size : Int) : Int).toNat).toList == t108.toList) = false := beq_eq_false_iff_ne.mpr c25
      (try (have c25b0s := c25b0; simp only [ByteArray.size_extract, Nat.min_self, Int.toNat_natCast] at c25b0s))
      have c25b1 : ((t106.extract 0 ((t108.size : Int) : Int).toNat).toList != t108.toList) = true := bne_iff_ne.mpr c25
      (try (have c25b1s := c25b1; simp only [ByteArray.size_extract, Nat.min_self, Int.toNat_natCast] at c25b1s))
      obtain rfl := Option.some.inj H
      go_wp2_with (first | ((with_reducible refine gate_callee (f := 11) rfl ?_); refine goesL_ (some 37) rfl rfl Tryd.func11 zq6 rfl #[.string a1] rfl zq1 ?_; (with_reducible refine (impl_MtAllowable.calls kj6 a1 t106 t107 _ ?side1 A19.out).mono ?_); (case side1 => exact zq10); rintro e w33 ⟨rfl, hb⟩; refine ⟨_, rfl, ?_⟩; have n0_ := mk0 (below_step zq0 hb); clear HB; have HB := n0_; clear n0_; (try clear hb); (try clear hb2); (try clear hk); (try clear hi)) | ((with_reducible refine gate_callee (f := 12) rfl ?_); refine goesL_ (some 41) rfl rfl Tryd.func12 zq6 rfl #[.string a1] rfl zq1 ?_; (with_reducible refine (laws_mtHead.calls kj6 a1 t108 _ A20.out).mono ?_); rintro e w' ⟨rfl, ⟨nd, rfl⟩⟩; refine ⟨_, rfl, ?_⟩))
      go_ret
      exact ⟨by first | rfl | (simp [errW_none, errW_some] <;> rfl) | (simp [*, errW_none, errW_some] <;> rfl), by repeat (first | (with_reducible first | exact HB.out | apply below_alloc | apply pw_below_drewN | apply below_drew1) | exact HB.out)⟩
     rw [if_pos c25] at H
     have c25b0 : ((t106.extract 0 ((t108.size : Int) : Int).toNat).toList == t108.toList) = true := beq_iff_eq.mpr c25
     (try (have c25b0s := c25b0; simp only [ByteArray.size_extract, Nat.min_self, Int.toNat_natCast] at c25b0s))
     have c25b1 : ((t106.extract 0 ((t108.size : Int) : Int).toNat).toList != t108.toList) = false := bne_eq_false_iff_eq.mpr c25
     (try (have c25b1s := c25b1; simp only [ByteArray.size_extract, Nat.min_self, Int.toNat_natCast] at c25b1s))
     clear c25
     by_cases c26 : t101 = true
     rotate_left
     ·replace c26 := Bool.eq_false_iff.mpr c26
      subst c26
      have H1 : (some true) = some r := by rw [if_neg (show ¬ (false = true) by decide)] at H; exact H
      clear H
      have H := H1
      clear H1
      obtain rfl := Option.some.inj H
      go_wp2_with (first | ((with_reducible refine gate_callee (f := 11) rfl ?_); refine goesL_ (some 37) rfl rfl Tryd.func11 zq6 rfl #[.string a1] rfl zq1 ?_; (with_reducible refine (impl_MtAllowable.calls kj6 a1 t106 t107 _ ?side1 A19.out).mono ?_); (case side1 => exact zq10); rintro e w32 ⟨rfl, hb⟩; refine ⟨_, rfl, ?_⟩; have n0_ := mk0 (below_step zq0 hb); clear HB; have HB := n0_; clear n0_; (try clear hb); (try clear hb2); (try clear hk); (try clear hi)) | ((with_reducible refine gate_callee (f := 12) rfl ?_); refine goesL_ (some 41) rfl rfl Tryd.func12 zq6 rfl #[.string a1] rfl zq1 ?_; (with_reducible refine (laws_mtHead.calls kj6 a1 t108 _ A20.out).mono ?_); rintro e w' ⟨rfl, ⟨nd, rfl⟩⟩; refine ⟨_, rfl, ?_⟩))
      go_ret
      exact ⟨by first | rfl | (simp [errW_none, errW_some] <;> rfl) | (simp [*, errW_none, errW_some] <;> rfl), by repeat (first | (with_reducible first | exact HB.out | apply below_alloc | apply pw_below_drewN | apply below_drew1) | exact HB.out)⟩
     subst c26
     have H1 : (if ((Op.bytesLess a0.toList t106.toList) = true) then (some false) else (if t107.toList = ([] : List UInt8) then (some true) else (some (!(Op.bytesLess t107.toList a0.toList))))) = some r := by rw [if_pos rfl] at H; exact H
     clear H
     have H := H1
     clear H1
     by_cases c27 : ((Op.bytesLess a0.toList t106.toList) = true)
     ·rw [if_pos c27] at H
      have c27b0 : (Op.bytesLess a0.toList t106.toList) = true := c27
      clear c27
      obtain rfl := Option.some.inj H
      go_wp2_with (first | ((with_reducible refine gate_callee (f := 11) rfl ?_); refine goesL_ (some 37) rfl rfl Tryd.func11 zq6 rfl #[.string a1] rfl zq1 ?_; (with_reducible refine (impl_MtAllowable.calls kj6 a1 t106 t107 _ ?side1 A19.out).mono ?_); (case side1 => exact zq10); rintro e w28 ⟨rfl, hb⟩; refine ⟨_, rfl, ?_⟩; have n0_ := mk0 (below_step zq0 hb); clear HB; have HB := n0_; clear n0_; (try clear hb); (try clear hb2); (try clear hk); (try clear hi)) | ((with_reducible refine gate_callee (f := 12) rfl ?_); refine goesL_ (some 41) rfl rfl Tryd.func12 zq6 rfl #[.string a1] rfl zq1 ?_; (with_reducible refine (laws_mtHead.calls kj6 a1 t108 _ A20.out).mono ?_); rintro e w' ⟨rfl, ⟨nd, rfl⟩⟩; refine ⟨_, rfl, ?_⟩))
      go_ret
      exact ⟨by first | rfl | (simp [errW_none, errW_some] <;> rfl) | (simp [*, errW_none, errW_some] <;> rfl), by repeat (first | (with_reducible first | exact HB.out | apply below_alloc | apply pw_below_drewN | apply below_drew1) | exact HB.out)⟩
     rw [if_neg c27] at H
     have c27b0 : (Op.bytesLess a0.toList t106.toList) = false := by simpa using c27
     clear c27
     by_cases c29 : t107.toList = ([] : List UInt8)
     rotate_left
     ·rw [if_neg c29] at H
      have c29b0 : (t107.toList == ([] : List UInt8)) = false := beq_eq_false_iff_ne.mpr c29
      have c29b1 : (t107.toList != ([] : List UInt8)) = true := bne_iff_ne.mpr c29
      obtain rfl := Option.some.inj H
      go_wp2_with (first | ((with_reducible refine gate_callee (f := 11) rfl ?_); refine goesL_ (some 37) rfl rfl Tryd.func11 zq6 rfl #[.string a1] rfl zq1 ?_; (with_reducible refine (impl_MtAllowable.calls kj6 a1 t106 t107 _ ?side1 A19.out).mono ?_); (case side1 => exact zq10); rintro e w31 ⟨rfl, hb⟩; refine ⟨_, rfl, ?_⟩; have n0_ := mk0 (below_step zq0 hb); clear HB; have HB := n0_; clear n0_; (try clear hb); (try clear hb2); (try clear hk); (try clear hi)) | ((with_reducible refine gate_callee (f := 12) rfl ?_); refine goesL_ (some 41) rfl rfl Tryd.func12 zq6 rfl #[.string a1] rfl zq1 ?_; (with_reducible refine (laws_mtHead.calls kj6 a1 t108 _ A20.out).mono ?_); rintro e w' ⟨rfl, ⟨nd, rfl⟩⟩; refine ⟨_, rfl, ?_⟩))
      go_ret
      exact ⟨by first | rfl | (simp [errW_none, errW_some] <;> rfl) | (simp [*, errW_none, errW_some] <;> rfl), by repeat (first | (with_reducible first | exact HB.out | apply below_alloc | apply pw_below_drewN | apply below_drew1) | exact HB.out)⟩
     rw [if_pos c29] at H
     have c29b0 : (t107.toList == ([] : List UInt8)) = true := beq_iff_eq.mpr c29
     have c29b1 : (t107.toList != ([] : List UInt8)) = false := bne_eq_false_iff_eq.mpr c29
     clear c29
     obtain rfl := Option.some.inj H
     go_wp2_with (first | ((with_reducible refine gate_callee (f := 11) rfl ?_); refine goesL_ (some 37) rfl rfl Tryd.func11 zq6 rfl #[.string a1] rfl zq1 ?_; (with_reducible refine (impl_MtAllowable.calls kj6 a1 t106 t107 _ ?side1 A19.out).mono ?_); (case side1 => exact zq10); rintro e w30 ⟨rfl, hb⟩; refine ⟨_, rfl, ?_⟩; have n0_ := mk0 (below_step zq0 hb); clear HB; have HB := n0_; clear n0_; (try clear hb); (try clear hb2); (try clear hk); (try clear hi)) | ((with_reducible refine gate_callee (f := 12) rfl ?_); refine goesL_ (some 41) rfl rfl Tryd.func12 zq6 rfl #[.string a1] rfl zq1 ?_; (with_reducible refine (laws_mtHead.calls kj6 a1 t108 _ A20.out).mono ?_); rintro e w' ⟨rfl, ⟨nd, rfl⟩⟩; refine ⟨_, rfl, ?_⟩))
     go_ret
     exact ⟨by first | rfl | (simp [errW_none, errW_some] <;> rfl) | (simp [*, errW_none, errW_some] <;> rfl), by repeat (first | (with_reducible first | exact HB.out | apply below_alloc | apply pw_below_drewN | apply below_drew1) | exact HB.out)⟩
def laws_FnMtAllowable.Pure : Prop := ∀ (a0 : ByteArray) (a1 : ByteArray), a0.size ≤ 140737488351232 → a1.size ≤ 140737488351232 → ∃ k, laws_FnMtAllowable.f k a0 a1 = some true
theorem laws_FnMtAllowable.walk (P : laws_FnMtAllowable.Pure) (a0 : ByteArray) (a1 : ByteArray) (w : World) (hG : Laid w) (w0 : a0.size ≤ 140737488351232) (w1 : a1.size ≤ 140737488351232) :
 Calls Tryd.prog 3 #[.string a0, .string a1] w fun e w' => e = .returned (.bool true) ∧ Below w.heap.size w w' := by
 obtain ⟨k, h⟩ := P a0 a1 w0 w1
 refine (laws_FnMtAllowable.calls k a0 a1 true w hG h).mono ?_
 rintro e w' ⟨rfl, hd⟩
 exact ⟨rfl, hd⟩
end Go.Proofs.YtaigbkkgmncipaaDoor.A
end
section
namespace Go.Proofs.YtaigbkkgmncipaaDoor.U
open Go.RowKit Go.Proofs.YtaigbkkgmncipaaDoor.A Go.Proofs.YtaigbkkgmncipaaDoorW.PrintWords Go.Proofs.YtaigbkkgmncipaaDoorW.PrintLast
theorem w64 {x : Int} (h : -9223372036854775808 ≤ x ∧ x ≤ 9223372036854775807) : wrap64 x = x := by
 unfold wrap64
 omega
def nb (s : ByteArray) (i : Nat) : Nat := (s.get! i).toNat
theorem nb_bt (s : ByteArray) (i : Nat) : bt s (i : Int) = (nb s i : Int) := by
 unfold bt nb
 split
 ·rename_i h
  have h' : i < s.size := by simpa using h
  have e : s.get! i = s[i]'h' := by cases s with | mk d => exact getElem!_pos d i h'
  rw [e]
  simp
 ·rename_i h
  have h' : ¬ i < s.size := by simpa using h
  have e : s.get! i = default := by cases s with | mk d => exact getElem!_neg d i h'
  rw [e]
  rfl
theorem nb_lt (s : ByteArray) (i : Nat) : nb s i < 256 := (s.get! i).toNat_lt
theorem Ev_same {α : Type} {g : Nat → Option α} {r r' : α} (h : Ev g r) (e : r = r') : Ev g r' := e ▸ h
structure Chr (s : ByteArray) (i c n : Nat) : Prop where
  dec : Utf8.decode s i = (c, n)
  pos : 1 ≤ n
  fit : i + n ≤ s.size
  low : nb s i < 128 → c = nb s i ∧ n = 1
  high : 128 ≤ nb s i → 128 ≤ c ∧ 2 ≤ n
  top : c ≤ 1114111 ∧ n ≤ 4

theorem l0_more {s : ByteArray} (hs : s.size ≤ 140737488351232) {i : Nat} (hi : i < s.size) (x7 x8 x9 x10 : Nat) (hx : x10 ≤ x8) (h7 : x7 ≤ 1000000) (hj : i + x10 < s.size) (h8 : x8 ≤ 3) {r : Int × Int × Bool}
 (hb : 128 ≤ nb s (i + x10) ∧ nb s (i + x10) ≤ 191)
 (h : Ev (fun k => spec_Character.l0 k s i ((x7 * 64 + (nb s (i + x10) - 128) : Nat) : Int) x8 x9 ((x10 + 1 : Nat) : Int)) r) :
 Ev (fun k => spec_Character.l0 k s i x7 x8 x9 (x10 : Int)) r := by
 refine Ev.step (fun k => ?_) h
 have e1 : wrap64 ((i : Int) + (x10 : Int)) = ((i + x10 : Nat) : Int) := by rw [w64 (by omega)]; omega
 have e2 : wrap64 (bt s ((i + x10 : Nat) : Int)) = (nb s (i + x10) : Int) := by rw [nb_bt, w64 (by omega)]
 simp only [spec_Character.l0, e1, e2]
 rw [if_pos (by omega), if_pos (by omega), if_pos (by omega), if_neg (by omega), if_neg (by omega)]
 congr 1
 ·rw [w64 (x := (x7 : Int) * 64) (by omega), w64 (x := (x7 : Int) * 64 + _) (by omega), w64 (by omega)]
  omega
 ·rw [w64 (by omega)]
  omega
theorem l0_none {s : ByteArray} (hs : s.size ≤ 140737488351232) {i : Nat} (hi : i < s.size) (x7 x8 x9 x10 : Nat) (hx : x10 ≤ x8) (hj : i + x10 < s.size) (h8 : x8 ≤ 3) (hb : ¬ (128 ≤ nb s (i + x10) ∧ nb s (i + x10) ≤ 191)) :
 Ev (fun k => spec_Character.l0 k s i x7 x8 x9 (x10 : Int)) (65533, 1, false) := by
 refine Ev.step (f := fun _ => some (65533, 1, false)) (fun k => ?_) (Ev.now _)
 have e1 : wrap64 ((i : Int) + (x10 : Int)) = ((i + x10 : Nat) : Int) := by rw [w64 (by omega)]; omega
 have e2 : wrap64 (bt s ((i + x10 : Nat) : Int)) = (nb s (i + x10) : Int) := by rw [nb_bt, w64 (by have := nb_lt s (i + x10); omega)]
 simp only [spec_Character.l0, e1, e2]
 rw [if_pos (by omega), if_pos (by omega), if_pos (by omega)]
 by_cases h : nb s (i + x10) < 128
 ·rw [if_pos (by omega)]
 rw [if_neg (by omega), if_pos (by omega)]
theorem l0_end {s : ByteArray} (_hs : s.size ≤ 140737488351232) {i : Nat} (_hi : i < s.size) (x7 x8 x9 : Nat) (h8 : x8 ≤ 3) :
 Ev (fun k => spec_Character.l0 k s i x7 x8 x9 ((x8 + 1 : Nat) : Int)) (if x9 ≤ x7 ∧ x7 ≤ 1114111 ∧ ¬ (55296 ≤ x7 ∧ x7 ≤ 57343) then ((x7 : Int), ((x8 + 1 : Nat) : Int), true) else (65533, 1, false)) := by
 refine Ev.step (f := fun _ => some _) (fun k => ?_) (Ev.now _)
 have eR : ¬ (x9 ≤ x7 ∧ x7 ≤ 1114111 ∧ ¬ (55296 ≤ x7 ∧ x7 ≤ 57343)) → (if x9 ≤ x7 ∧ x7 ≤ 1114111 ∧ ¬ (55296 ≤ x7 ∧ x7 ≤ 57343) then ((x7 : Int), ((x8 + 1 : Nat) : Int), true) else (65533, 1, false)) = (65533, 1, false) := fun h => if_neg h
 simp only [spec_Character.l0, spec_high.f, spec_low.f]
 rw [if_neg (by omega)]
 by_cases h1 : x7 < x9
 ·rw [if_pos (by omega), if_neg (by omega)]
 rw [if_neg (by omega)]
 by_cases h2 : x7 > 1114111
 ·rw [if_pos (by omega), if_neg (by omega)]
 rw [if_neg (by omega), w64 (x := (x8 : Int) + 1) (by omega)]
 by_cases h3 : 55296 ≤ x7 ∧ x7 ≤ 56319
 ·rw [eR (by omega), if_pos (by omega)]
  simp only [Option.bind_some]
  rw [if_pos zq23]
 have e3 : (if 55296 ≤ (x7 : Int) then some (decide ((x7 : Int) ≤ 56319)) else some false) = some false := by
  split
  ·congr 1
   simp
   omega
  ·rfl
 rw [e3]
 simp only [Option.bind_some]
 rw [if_neg zq25]
 by_cases h4 : 56320 ≤ x7 ∧ x7 ≤ 57343
 ·rw [eR (by omega), if_pos (by omega)]
  simp only [Option.bind_some]
  rw [if_pos zq23]
 have e4 : (if 56320 ≤ (x7 : Int) then some (decide ((x7 : Int) ≤ 57343)) else some false) = some false := by
  split
  ·congr 1
   simp
   omega
  ·rfl
 rw [e4]
 simp only [Option.bind_some]
 rw [if_neg zq25, if_pos (by omega)]
 simp
def Ans (s : ByteArray) (i : Nat) (r : Int × Int × Bool) : Prop := r = (65533, 1, false) ∨ ∃ c n : Nat, r = ((c : Int), (n : Int), true) ∧ Chr s i c n
theorem j2_two {s : ByteArray} (hs : s.size ≤ 140737488351232) {i : Nat} (hi : i < s.size) (h0 : 194 ≤ nb s i ∧ nb s i ≤ 223) : ∃ r, Ev (fun k => spec_Character.j2 k s i ((nb s i - 192 : Nat) : Int) 1 128) r ∧ Ans s i r := by
 by_cases hn : s.size ≤ i + 1
 ·refine ⟨_, Ev.step (f := fun _ => some (65533, 1, false)) (fun k => ?_) (Ev.now _), .inl rfl⟩
  simp only [spec_Character.j2]
  rw [if_pos zq26]
 have st : ∀ {r}, Ev (fun k => spec_Character.l0 k s i ((nb s i - 192 : Nat) : Int) ((1 : Nat) : Int) ((128 : Nat) : Int) ((1 : Nat) : Int)) r → Ev (fun k => spec_Character.j2 k s i ((nb s i - 192 : Nat) : Int) 1 128) r := fun h => by
  refine Ev.step (fun k => ?_) h
  simp only [spec_Character.j2]
  rw [if_neg zq26]
  rfl
 by_cases h1 : 128 ≤ nb s (i + 1) ∧ nb s (i + 1) ≤ 191
 rotate_left
 ·exact ⟨_, st (l0_none hs hi _ 1 128 1 (by omega) (by omega) (by omega) h1), .inl rfl⟩
 refine ⟨_, st (l0_more hs hi _ 1 128 1 (by omega) (by omega) (by omega) (by omega) h1 (l0_end hs hi _ 1 128 (by omega))), .inr ⟨(nb s i - 192) * 64 + (nb s (i + 1) - 128), 2, ?_, ?_, by omega, by omega, fun h => by omega, fun _ => by omega, by omega⟩⟩
 ·rw [if_pos (by omega)]
 ·rw [Lib.decode_at]
  change Lib.decodeN (s.size - i) (nb s i) (nb s (i + 1)) (nb s (i + 2)) (nb s (i + 3)) = _
  unfold Lib.decodeN
  rw [if_neg (by omega), if_pos (by omega), if_pos (by omega)]
  refine congrArg (fun x => (x, 2)) ?_
  omega
theorem j2_three {s : ByteArray} (hs : s.size ≤ 140737488351232) {i : Nat} (hi : i < s.size) (h0 : 224 ≤ nb s i ∧ nb s i ≤ 239) : ∃ r, Ev (fun k => spec_Character.j2 k s i ((nb s i - 224 : Nat) : Int) 2 2048) r ∧ Ans s i r := by
 by_cases hn : s.size ≤ i + 2
 ·refine ⟨_, Ev.step (f := fun _ => some (65533, 1, false)) (fun k => ?_) (Ev.now _), .inl rfl⟩
  simp only [spec_Character.j2]
  rw [if_pos zq26]
 have st : ∀ {r}, Ev (fun k => spec_Character.l0 k s i ((nb s i - 224 : Nat) : Int) ((2 : Nat) : Int) ((2048 : Nat) : Int) ((1 : Nat) : Int)) r → Ev (fun k => spec_Character.j2 k s i ((nb s i - 224 : Nat) : Int) 2 2048) r := fun h => by
  refine Ev.step (fun k => ?_) h
  simp only [spec_Character.j2]
  rw [if_neg zq26]
  rfl
 by_cases h1 : 128 ≤ nb s (i + 1) ∧ nb s (i + 1) ≤ 191
 rotate_left
 ·exact ⟨_, st (l0_none hs hi _ 2 2048 1 (by omega) (by omega) (by omega) h1), .inl rfl⟩
 by_cases h2 : 128 ≤ nb s (i + 2) ∧ nb s (i + 2) ≤ 191
 rotate_left
 ·exact ⟨_, st (l0_more hs hi _ 2 2048 1 (by omega) (by omega) (by omega) (by omega) h1 (l0_none hs hi _ 2 2048 2 (by omega) (by omega) (by omega) h2)), .inl rfl⟩
 have hE := st (l0_more hs hi _ 2 2048 1 (by omega) (by omega) (by omega) (by omega) h1 (l0_more hs hi _ 2 2048 2 (by omega) (by omega) (by omega) (by omega) h2 (l0_end hs hi _ 2 2048 (by omega))))
 refine ⟨_, hE, ?_⟩
 by_cases hx : 2048 ≤ ((nb s i - 224) * 64 + (nb s (i + 1) - 128)) * 64 + (nb s (i + 2) - 128) ∧ ((nb s i - 224) * 64 + (nb s (i + 1) - 128)) * 64 + (nb s (i + 2) - 128) ≤ 1114111 ∧ ¬ (55296 ≤ ((nb s i - 224) * 64 + (nb s (i + 1) - 128)) * 64 + (nb s (i + 2) - 128) ∧ ((nb s i - 224) * 64 + (nb s (i + 1) - 128)) * 64 + (nb s (i + 2) - 128) ≤ 57343)
 rotate_left
 ·exact .inl (if_neg hx)
 refine .inr ⟨((nb s i - 224) * 64 + (nb s (i + 1) - 128)) * 64 + (nb s (i + 2) - 128), 3, by rw [if_pos hx], ?_, by omega, by omega, fun h => by omega, fun _ => by omega, by omega⟩
 rw [Lib.decode_at]
 change Lib.decodeN (s.size - i) (nb s i) (nb s (i + 1)) (nb s (i + 2)) (nb s (i + 3)) = _
 unfold Lib.decodeN
 rw [if_neg (by omega), if_neg (by omega), if_pos (by omega), if_pos (by omega)]
 refine congrArg (fun x => (x, 3)) ?_
 omega
theorem j2_four {s : ByteArray} (hs : s.size ≤ 140737488351232) {i : Nat} (hi : i < s.size) (h0 : 240 ≤ nb s i ∧ nb s i ≤ 244) : ∃ r, Ev (fun k => spec_Character.j2 k s i ((nb s i - 240 : Nat) : Int) 3 65536) r ∧ Ans s i r := by
 by_cases hn : s.size ≤ i + 3
 ·refine ⟨_, Ev.step (f := fun _ => some (65533, 1, false)) (fun k => ?_) (Ev.now _), .inl rfl⟩
  simp only [spec_Character.j2]
  rw [if_pos zq26]
 have st : ∀ {r}, Ev (fun k => spec_Character.l0 k s i ((nb s i - 240 : Nat) : Int) ((3 : Nat) : Int) ((65536 : Nat) : Int) ((1 : Nat) : Int)) r → Ev (fun k => spec_Character.j2 k s i ((nb s i - 240 : Nat) : Int) 3 65536) r := fun h => by
  refine Ev.step (fun k => ?_) h
  simp only [spec_Character.j2]
  rw [if_neg zq26]
  rfl
 by_cases h1 : 128 ≤ nb s (i + 1) ∧ nb s (i + 1) ≤ 191
 rotate_left
 ·exact ⟨_, st (l0_none hs hi _ 3 65536 1 (by omega) (by omega) (by omega) h1), .inl rfl⟩
 by_cases h2 : 128 ≤ nb s (i + 2) ∧ nb s (i + 2) ≤ 191
 rotate_left
 ·exact ⟨_, st (l0_more hs hi _ 3 65536 1 (by omega) (by omega) (by omega) (by omega) h1 (l0_none hs hi _ 3 65536 2 (by omega) (by omega) (by omega) h2)), .inl rfl⟩
 by_cases h3 : 128 ≤ nb s (i + 3) ∧ nb s (i + 3) ≤ 191
 rotate_left
 ·exact ⟨_, st (l0_more hs hi _ 3 65536 1 (by omega) (by omega) (by omega) (by omega) h1 (l0_more hs hi _ 3 65536 2 (by omega) (by omega) (by omega) (by omega) h2 (l0_none hs hi _ 3 65536 3 (by omega) (by omega) (by omega) h3))), .inl rfl⟩
 have hE := st (l0_more hs hi _ 3 65536 1 (by omega) (by omega) (by omega) (by omega) h1 (l0_more hs hi _ 3 65536 2 (by omega) (by omega) (by omega) (by omega) h2 (l0_more hs hi _ 3 65536 3 (by omega) (by omega) (by omega) (by omega) h3 (l0_end hs hi _ 3 65536 (by omega)))))
 refine ⟨_, hE, ?_⟩
 obtain ⟨x, hxe⟩ : ∃ x, x = (((nb s i - 240) * 64 + (nb s (i + 1) - 128)) * 64 + (nb s (i + 2) - 128)) * 64 + (nb s (i + 3) - 128) := ⟨_, rfl⟩
 rw [← hxe]
 by_cases hx : 65536 ≤ x ∧ x ≤ 1114111 ∧ ¬ (55296 ≤ x ∧ x ≤ 57343)
 rotate_left
 ·exact .inl (if_neg hx)
 refine .inr ⟨x, 4, by rw [if_pos hx], ?_, by omega, by omega, fun h => by omega, fun _ => by omega, by omega⟩
 rw [Lib.decode_at]
 change Lib.decodeN (s.size - i) (nb s i) (nb s (i + 1)) (nb s (i + 2)) (nb s (i + 3)) = _
 unfold Lib.decodeN
 rw [if_neg (by omega), if_neg (by omega), if_neg (by omega), if_pos (by omega), if_pos (by omega)]
 congr 1
 omega
theorem char_ans {s : ByteArray} (hs : s.size ≤ 140737488351232) {i : Nat} (hi : i < s.size) : ∃ r, Ev (fun k => spec_Character.f k s i) r ∧ Ans s i r := by
 have hb := nb_lt s i
 have e2 : wrap64 (bt s (i : Int)) = (nb s i : Int) := by rw [nb_bt, w64 (by omega)]
 have no : ∀ {f : Nat → Option (Int × Int × Bool)}, (∀ k, f k = some (65533, 1, false)) → ∃ r, Ev f r ∧ Ans s i r := fun h => ⟨_, Ev.congr h (Ev.now _), .inl rfl⟩
 have fore : ∀ {g f : Nat → Option (Int × Int × Bool)}, (∀ k, g (k + 1) = f k) → (∃ r, Ev f r ∧ Ans s i r) → ∃ r, Ev g r ∧ Ans s i r := fun h ⟨r, h1, h2⟩ => ⟨r, Ev.step h h1, h2⟩
 have same : ∀ {g f : Nat → Option (Int × Int × Bool)}, (∀ k, g k = f k) → (∃ r, Ev f r ∧ Ans s i r) → ∃ r, Ev g r ∧ Ans s i r := fun h ⟨r, h1, h2⟩ => ⟨r, Ev.congr h h1, h2⟩
 by_cases h1 : nb s i < 128
 ·refine ⟨_, Ev.congr (f := fun _ => some ((nb s i : Int), ((1 : Nat) : Int), true)) (fun k => ?_) (Ev.now _), .inr ⟨nb s i, 1, rfl, ?_, by omega, by omega, fun _ => ⟨rfl, rfl⟩, fun h => by omega, by omega⟩⟩
  ·simp only [spec_Character.f, e2]
   rw [if_pos (by omega), if_pos (by omega), if_pos (by omega)]
   rfl
  ·rw [Lib.decode_at]
   change Lib.decodeN (s.size - i) (nb s i) (nb s (i + 1)) (nb s (i + 2)) (nb s (i + 3)) = _
   unfold Lib.decodeN
   rw [if_pos h1]
 by_cases h2 : 194 ≤ nb s i ∧ nb s i ≤ 223
 ·refine same (f := fun k => spec_Character.j0 k s i (nb s i : Int) true) (fun k => ?_) (fore (fun k => ?_) (j2_two hs hi h2))
  ·simp only [spec_Character.f, e2]
   rw [if_pos (by omega), if_pos (by omega), if_neg (by omega), if_pos (by omega)]
   congr 1
   simp
   omega
  ·simp only [spec_Character.j0]
   rw [if_pos trivial, w64 (by omega)]
   congr 1
   omega
 refine same (f := fun k => spec_Character.j0 k s i (nb s i : Int) false) (fun k => ?_) ?_
 ·simp only [spec_Character.f, e2]
  rw [if_pos (by omega), if_pos (by omega), if_neg (by omega)]
  by_cases h : 194 ≤ nb s i
  rotate_left
  ·rw [if_neg (by omega)]
  rw [if_pos (by omega)]
  congr 1
  simp
  omega
 by_cases h3 : 224 ≤ nb s i ∧ nb s i ≤ 239
 ·refine fore (f := fun k => spec_Character.j1 k s i (nb s i : Int) true) (fun k => ?_) (fore (fun k => ?_) (j2_three hs hi h3))
  ·simp only [spec_Character.j0]
   rw [if_neg zq25, if_pos (by omega)]
   congr 1
   simp
   omega
  ·simp only [spec_Character.j1]
   rw [if_pos trivial, w64 (by omega)]
   congr 1
   omega
 refine fore (f := fun k => spec_Character.j1 k s i (nb s i : Int) false) (fun k => ?_) ?_
 ·simp only [spec_Character.j0]
  rw [if_neg zq25]
  by_cases h : 224 ≤ nb s i
  rotate_left
  ·rw [if_neg (by omega)]
  rw [if_pos (by omega)]
  congr 1
  simp
  omega
 by_cases h4 : 240 ≤ nb s i ∧ nb s i ≤ 244
 ·refine fore (fun k => ?_) (j2_four hs hi h4)
  simp only [spec_Character.j1]
  rw [if_neg zq25, if_pos (by omega), if_pos (by omega), w64 (by omega)]
  congr 1
  omega
 refine fore (f := fun _ => some (65533, 1, false)) (fun k => ?_) (no fun _ => rfl)
 simp only [spec_Character.j1]
 rw [if_neg zq25]
 by_cases h : 240 ≤ nb s i
 rotate_left
 ·rw [if_neg (by omega)]
 rw [if_pos (by omega), if_neg (by omega)]
end Go.Proofs.YtaigbkkgmncipaaDoor.U
end
section
namespace Go.Proofs.YtaigbkkgmncipaaDoor.J
open Go.RowKit Go.Proofs.YtaigbkkgmncipaaDoorW.PrintWords Go.Proofs.YtaigbkkgmncipaaDoorW.PrintLast
theorem w64 {x : Int} (h : -9223372036854775808 ≤ x ∧ x ≤ 9223372036854775807) : wrap64 x = x := by
 unfold wrap64
 omega
theorem Ev_same {α : Type} {g : Nat → Option α} {r r' : α} (h : Ev g r) (e : r = r') : Ev g r' := e ▸ h
def From (s : ByteArray) (i : Nat) (l : List Int) : Prop := i ≤ s.size ∧ (bytesOf s).drop i = l
theorem From.len {s : ByteArray} {i : Nat} {l : List Int} (h : From s i l) : i + l.length = s.size := by
 have h1 := h.1
 rw [← h.2, List.length_drop, bytesOf_length]
 omega
theorem From.start (s : ByteArray) : From s 0 (bytesOf s) := ⟨Nat.zero_le _, rfl⟩
theorem From.at {s : ByteArray} {i : Nat} (h : i ≤ s.size) : From s i ((bytesOf s).drop i) := ⟨h, rfl⟩
theorem From.drop {s : ByteArray} {i : Nat} {l : List Int} (h : From s i l) (n : Nat) (hn : n ≤ l.length) : From s (i + n) (l.drop n) := by
 have := h.len
 exact ⟨by omega, by rw [← h.2, List.drop_drop]⟩
theorem From.tail {s : ByteArray} {i : Nat} {a : Int} {l : List Int} (h : From s i (a :: l)) : From s (i + 1) l := by
 have := h.drop 1 (by simp)
 simpa using this
theorem From.lt {s : ByteArray} {i : Nat} {a : Int} {l : List Int} (h : From s i (a :: l)) : i < s.size := by
 have := h.len
 simp at this
 omega
theorem From.bt {s : ByteArray} {i : Nat} {a : Int} {l : List Int} (h : From s i (a :: l)) : bt s (i : Int) = a := by
 have h1 : (bytesOf s)[i]? = some a := by
  have := congrArg (·[0]?) h.2
  simpa using this
 rw [← rd_bytesOf]
 unfold rd
 simp [List.getD_eq_getElem?_getD, h1]
theorem From.nil {s : ByteArray} {i : Nat} (h : From s i []) : i = s.size := by
 have := h.len
 simpa using this
theorem From.same {s : ByteArray} {i : Nat} {l l' : List Int} (h : From s i l) (h' : From s i l') : l = l' := h.2.symm.trans h'.2
theorem bytesOf_range (s : ByteArray) : ∀ a ∈ bytesOf s, 0 ≤ a ∧ a ≤ 255 := by
 intro a ha
 unfold bytesOf at ha
 rw [List.mem_map] at ha
 obtain ⟨b, _, rfl⟩ := ha
 have := b.toNat_lt
 omega
theorem From.range {s : ByteArray} {i : Nat} {l : List Int} (h : From s i l) : ∀ a ∈ l, 0 ≤ a ∧ a ≤ 255 := by
 intro a ha
 rw [← h.2] at ha
 exact bytesOf_range s a (List.mem_of_mem_drop ha)
theorem From.head {s : ByteArray} {i : Nat} {a : Int} {l : List Int} (h : From s i (a :: l)) : 0 ≤ a ∧ a ≤ 255 := h.range a (by simp)
theorem bytesOf_extract (s : ByteArray) (i j : Nat) : bytesOf (s.extract i j) = ((bytesOf s).take j).drop i := by
 unfold bytesOf
 rw [ByteArray.data_extract, Array.toList_extract, List.extract_eq_take_drop, List.map_take, List.map_drop, List.drop_take]
theorem From.extract {s : ByteArray} {i : Nat} {a l : List Int} (h : From s i (a ++ l)) : bytesOf (s.extract i (i + a.length)) = a := by
 rw [bytesOf_extract, List.drop_take, h.2]
 simp
theorem bytesOf_strOfNums (l : List Int) (h : ∀ a ∈ l, 0 ≤ a ∧ a ≤ 255) : bytesOf (strOfNums l) = l := by
 unfold bytesOf
 rw [strOfNums_data, List.map_map]
 conv => rhs; rw [← List.map_id l]
 apply List.map_congr_left
 intro a ha
 have := h a ha
 simp only [Function.comp, id]
 rw [show (UInt8.ofNat a.toNat).toNat = a.toNat % 256 from UInt8.toNat_ofNat ..]
 omega
theorem strOfNums_bytesOf (s : ByteArray) : strOfNums (bytesOf s) = s := by
 apply ByteArray.ext
 apply Array.toList_inj.mp
 rw [strOfNums_data]
 unfold bytesOf
 rw [List.map_map]
 conv => rhs; rw [← List.map_id s.data.toList]
 apply List.map_congr_left
 intro b _
 simp [Function.comp]
theorem bytesOf_inj {s t : ByteArray} (h : bytesOf s = bytesOf t) : s = t := by
 rw [← strOfNums_bytesOf s, h, strOfNums_bytesOf]
theorem toList_inj {s t : ByteArray} (h : s.toList = t.toList) : s = t := by
 rw [ByteArray.toList_eq, ByteArray.toList_eq] at h
 exact ByteArray.ext (Array.toList_inj.mp h)
def hexv (c : Int) : Option Int := if 48 ≤ c ∧ c ≤ 57 then some (c - 48) else if 97 ≤ c ∧ c ≤ 102 then some (c - 87) else if 65 ≤ c ∧ c ≤ 70 then some (c - 55) else none
def hex4 : List Int → Option Int
  | a :: b :: c :: d :: _ => (hexv a).bind fun x => (hexv b).bind fun y => (hexv c).bind fun z => (hexv d).bind fun u => some (((x * 16 + y) * 16 + z) * 16 + u)
  | _ => none
def isE (c : Int) : Bool := decide (c = 34 ∨ c = 92 ∨ c = 47 ∨ c = 98 ∨ c = 102 ∨ c = 110 ∨ c = 114 ∨ c = 116)
inductive Body : List Int → Prop
  | nil : Body []
  | raw {c : Int} {l : List Int} : c ≠ 34 → ¬ c < 32 → c ≠ 92 → Body l → Body (c :: l)
  | two {b : Int} {l : List Int} : isE b = true → Body l → Body (92 :: b :: l)
  | six {a b c d v : Int} {l : List Int} : hex4 (a :: b :: c :: d :: l) = some v → Body l → Body (92 :: 117 :: a :: b :: c :: d :: l)
end Go.Proofs.YtaigbkkgmncipaaDoor.J
end
section
set_option linter.unusedVariables false
namespace Go.Proofs.YtaigbkkgmncipaaDoor.Al
open Go.RowKit Go.Proofs.YtaigbkkgmncipaaDoor.A Go.Proofs.YtaigbkkgmncipaaDoorW.PrintWords Go.Proofs.YtaigbkkgmncipaaDoorW.PrintLast
open J (From w64 Ev_same)
open U (Chr nb nb_bt char_ans)
def okc (c : Int) : Prop := 0 ≤ c ∧ c ≤ 1114111 ∧ ¬ (55296 ≤ c ∧ c ≤ 57343)
def fl : List Int → List Int
  | [] => []
  | c :: cs => eB c ++ fl cs
theorem fl_app : ∀ a b : List Int, fl (a ++ b) = fl a ++ fl b
 | [], _ => rfl
 | c :: a, b => by simp only [List.cons_append, fl, fl_app a b, List.append_assoc]
theorem eB_one {c : Int} (h : c < 128) : eB c = [c] := by unfold eB; rw [if_pos h]
theorem eB_two {c : Int} (h : 128 ≤ c ∧ c < 2048) : eB c = [192 + c / 64, 128 + c % 64] := by unfold eB; rw [if_neg (by omega), if_pos (by omega)]
theorem eB_sur {c : Int} (h : 55296 ≤ c ∧ c ≤ 57343) : eB c = [239, 191, 189] := by unfold eB; rw [if_neg (by omega), if_neg (by omega), if_pos h]
theorem eB_three {c : Int} (h : 2048 ≤ c ∧ c < 65536) (h2 : ¬ (55296 ≤ c ∧ c ≤ 57343)) : eB c = [224 + c / 4096, 128 + c / 64 % 64, 128 + c % 64] := by unfold eB; rw [if_neg (by omega), if_neg (by omega), if_neg h2, if_pos (by omega)]
theorem eB_four {c : Int} (h : 65536 ≤ c) : eB c = [240 + c / 262144, 128 + c / 4096 % 64, 128 + c / 64 % 64, 128 + c % 64] := by unfold eB; rw [if_neg (by omega), if_neg (by omega), if_neg (by omega), if_neg (by omega)]
theorem eB_ways {c : Int} (h : okc c) : (c < 128 ∧ eB c = [c]) ∨ (128 ≤ c ∧ c < 2048 ∧ eB c = [192 + c / 64, 128 + c % 64]) ∨ (2048 ≤ c ∧ c < 65536 ∧ ¬ (55296 ≤ c ∧ c ≤ 57343) ∧ eB c = [224 + c / 4096, 128 + c / 64 % 64, 128 + c % 64]) ∨ (65536 ≤ c ∧ c ≤ 1114111 ∧ eB c = [240 + c / 262144, 128 + c / 4096 % 64, 128 + c / 64 % 64, 128 + c % 64]) := by
 obtain ⟨h0, h1, h2⟩ := h
 by_cases k1 : c < 128
 ·exact .inl ⟨k1, eB_one k1⟩
 by_cases k2 : c < 2048
 ·exact .inr (.inl ⟨by omega, k2, eB_two (by omega)⟩)
 by_cases k3 : c < 65536
 rotate_left
 ·exact .inr (.inr (.inr ⟨by omega, h1, eB_four (by omega)⟩))
 exact .inr (.inr (.inl ⟨by omega, k3, h2, eB_three (by omega) h2⟩))
theorem eB_byte {c : Int} (h : okc c) : ∀ b ∈ eB c, (b = c ∧ c < 128) ∨ (128 ≤ b ∧ b ≤ 255) := by
 obtain ⟨h0, h1, h2⟩ := id h
 intro b hb
 rcases eB_ways h with ⟨k, e⟩ | ⟨k1, k2, e⟩ | ⟨k1, k2, k3, e⟩ | ⟨k1, k2, e⟩ <;> rw [e] at hb <;> simp only [List.mem_cons, List.not_mem_nil, or_false] at hb
 ·exact .inl ⟨hb, k⟩
 ·rcases hb with rfl | rfl <;> (right; omega)
 ·rcases hb with rfl | rfl | rfl <;> (right; omega)
 ·rcases hb with rfl | rfl | rfl | rfl <;> (right; omega)
theorem eB_range {c : Int} (h : okc c) : ∀ b ∈ eB c, 0 ≤ b ∧ b ≤ 255 := by
 intro b hb
 have := h.1
 rcases eB_byte h b hb with ⟨rfl, k⟩ | k <;> omega
theorem eB_pos (c : Int) : 1 ≤ (eB c).length := (eB_len c).1
theorem fl_len : ∀ cs : List Int, cs.length ≤ (fl cs).length
 | [] => Nat.le_refl _
 | c :: cs => by
  have := fl_len cs
  have := eB_pos c
  simp only [fl, List.length_append, List.length_cons]
  omega
set_option maxHeartbeats 2000000 in
theorem eB_inj {c d : Int} (hc : okc c) (hd : okc d) {l m : List Int} (h : eB c ++ l = eB d ++ m) : c = d ∧ l = m := by
 obtain ⟨c0, c1, c2⟩ := id hc
 obtain ⟨d0, d1, d2⟩ := id hd
 rcases eB_ways hc with ⟨k, e⟩ | ⟨k1, k2, e⟩ | ⟨k1, k2, k3, e⟩ | ⟨k1, k2, e⟩ <;> rcases eB_ways hd with ⟨j, f⟩ | ⟨j1, j2, f⟩ | ⟨j1, j2, j3, f⟩ | ⟨j1, j2, f⟩ <;> rw [e, f] at h <;> simp only [List.cons_append, List.nil_append, List.cons.injEq] at h
 ·exact ⟨h.1, h.2⟩
 ·exfalso; omega
 ·exfalso; omega
 ·exfalso; omega
 ·exfalso; omega
 ·obtain ⟨h1, h2, h3⟩ := h
  exact ⟨by omega, h3⟩
 ·exfalso; omega
 ·exfalso; omega
 ·exfalso; omega
 ·exfalso; omega
 ·obtain ⟨h1, h2, h3, h4⟩ := h
  exact ⟨by omega, h4⟩
 ·exfalso; omega
 ·exfalso; omega
 ·exfalso; omega
 ·exfalso; omega
 ·obtain ⟨h1, h2, h3, h4, h5⟩ := h
  exact ⟨by omega, h5⟩
theorem fl_inj : ∀ (cs ds : List Int), (∀ c ∈ cs, okc c) → (∀ d ∈ ds, okc d) → fl cs = fl ds → cs = ds
 | [], [], _, _, _ => rfl
 | [], d :: ds, _, _, h => by
  have := congrArg List.length h
  have := eB_pos d
  simp only [fl, List.length_append, List.length_nil] at *
  omega
 | c :: cs, [], _, _, h => by
  have := congrArg List.length h
  have := eB_pos c
  simp only [fl, List.length_append, List.length_nil] at *
  omega
 | c :: cs, d :: ds, hc, hd, h => by
  obtain ⟨rfl, h2⟩ := eB_inj (hc c (by simp)) (hd d (by simp)) h
  rw [fl_inj cs ds (fun x hx => hc x (by simp [hx])) (fun x hx => hd x (by simp [hx])) h2]
theorem drop_nb {s : ByteArray} {i : Nat} (h : i < s.size) : (bytesOf s).drop i = (nb s i : Int) :: (bytesOf s).drop (i + 1) := by
 have hl : i < (bytesOf s).length := by rw [bytesOf_length]; exact h
 have e := List.drop_eq_getElem_cons hl
 have f : From s i ((bytesOf s)[i] :: (bytesOf s).drop (i + 1)) := ⟨Nat.le_of_lt h, e⟩
 have g := f.bt
 rw [nb_bt] at g
 rw [e, g]
theorem chr_bytes {s : ByteArray} {i c n : Nat} (hi : i < s.size) (h : Chr s i c n) : okc c ∧ (eB c).length = n ∧ (bytesOf s).drop i = eB c ++ (bytesOf s).drop (i + n) := by
 have d := h.dec
 have hf := h.fit
 have hl := h.low
 have hh := h.high
 rw [Lib.decode_at] at d
 change Lib.decodeN (s.size - i) (nb s i) (nb s (i + 1)) (nb s (i + 2)) (nb s (i + 3)) = (c, n) at d
 have b0 := U.nb_lt s i
 have b1 := U.nb_lt s (i + 1)
 have b2 := U.nb_lt s (i + 2)
 have b3 := U.nb_lt s (i + 3)
 by_cases h1 : nb s i < 128
 ·obtain ⟨rfl, rfl⟩ := hl h1
  have e : eB ((nb s i : Nat) : Int) = [((nb s i : Nat) : Int)] := eB_one (by omega)
  rw [e]
  exact ⟨⟨by omega, by omega, by omega⟩, rfl, drop_nb hi⟩
 obtain ⟨h2, h3⟩ := hh (by omega)
 unfold Lib.decodeN at d
 rw [if_neg h1] at d
 split at d
 ·rename_i g
  split at d
  ·rename_i g2
   obtain ⟨rfl, rfl⟩ := Prod.mk.inj d
   rw [drop_nb hi, drop_nb (i := i + 1) (by omega)]
   generalize nb s i = x at *
   generalize nb s (i + 1) = y at *
   rw [eB_two (by omega)]
   refine ⟨⟨by omega, by omega, by omega⟩, rfl, ?_⟩
   simp only [List.cons_append, List.nil_append, List.cons.injEq]
   exact ⟨by omega, by omega, trivial⟩
  ·have := (Prod.mk.inj d).2
   omega
 split at d
 ·rename_i g
  split at d
  ·rename_i g2
   obtain ⟨rfl, rfl⟩ := Prod.mk.inj d
   rw [drop_nb hi, drop_nb (i := i + 1) (by omega), drop_nb (i := i + 2) (by omega)]
   generalize nb s i = x at *
   generalize nb s (i + 1) = y at *
   generalize nb s (i + 2) = z at *
   rw [eB_three (by omega) (by omega)]
   refine ⟨⟨by omega, by omega, by omega⟩, rfl, ?_⟩
   simp only [List.cons_append, List.nil_append, List.cons.injEq]
   exact ⟨by omega, by omega, by omega, trivial⟩
  ·have := (Prod.mk.inj d).2
   omega
 split at d
 ·rename_i g
  split at d
  ·rename_i g2
   obtain ⟨rfl, rfl⟩ := Prod.mk.inj d
   rw [drop_nb hi, drop_nb (i := i + 1) (by omega), drop_nb (i := i + 2) (by omega), drop_nb (i := i + 3) (by omega)]
   generalize nb s i = x at *
   generalize nb s (i + 1) = y at *
   generalize nb s (i + 2) = z at *
   generalize nb s (i + 3) = u at *
   rw [eB_four (by omega)]
   refine ⟨⟨by omega, by omega, by omega⟩, rfl, ?_⟩
   simp only [List.cons_append, List.nil_append, List.cons.injEq]
   exact ⟨by omega, by omega, by omega, by omega, trivial⟩
  ·have := (Prod.mk.inj d).2
   omega
 ·have := (Prod.mk.inj d).2
  omega
theorem chars_go {s : ByteArray} (hs : s.size ≤ 2147483647) : ∀ (d i : Nat) (acc : List Int), s.size - i = d → i ≤ s.size → acc.length ≤ i →
 ∃ cs ok, Ev (fun k => spec_Characters.l0 k s acc i) (cs, ok) ∧ cs.length ≤ s.size ∧ (ok = true → ∃ ds, cs = acc ++ ds ∧ (bytesOf s).drop i = fl ds ∧ ∀ c ∈ ds, okc c) := by
 intro d
 induction d using Nat.strongRecOn with
 | ind d ih =>
  intro i acc hd hi ha
  by_cases h : i < s.size
  rotate_left
  ·refine ⟨acc, true, Ev.step (f := fun _ => some (acc, true)) (fun k => ?_) (Ev.now _), by omega, fun _ => ⟨[], by simp, ?_, by simp⟩⟩
   ·simp only [spec_Characters.l0]
    rw [if_neg (by omega)]
   ·rw [List.drop_of_length_le (by rw [bytesOf_length]; omega)]
    rfl
  obtain ⟨r, h1, h2⟩ := char_ans (s := s) (by omega) h
  rcases h2 with rfl | ⟨c, n, rfl, hc⟩
  ·refine ⟨[], false, Ev.step (f := fun k => (spec_Character.f k s i).bind fun b => if b.2.2 = true then (if acc.length < 17592186044416 then spec_Characters.l0 k s (acc ++ [b.1]) (wrap64 (i + b.2.1)) else none) else some ([], false)) (fun k => ?_) (Ev.bind h1 ?_), Nat.zero_le _, fun h => by simp at h⟩
   ·simp only [spec_Characters.l0]
    rw [if_pos (by omega)]
   ·exact Ev.congr (fun k => by rw [if_neg zq25]) (Ev.now _)
  ·have hf := hc.fit
   have hp := hc.pos
   obtain ⟨ho, hn, hb⟩ := chr_bytes h hc
   obtain ⟨cs, ok, h3, hlen, h4⟩ := ih (s.size - (i + n)) (by omega) (i + n) (acc ++ [(c : Int)]) rfl hf zq23
   refine ⟨cs, ok, Ev.step (f := fun k => (spec_Character.f k s i).bind fun b => if b.2.2 = true then (if acc.length < 17592186044416 then spec_Characters.l0 k s (acc ++ [b.1]) (wrap64 (i + b.2.1)) else none) else some ([], false)) (fun k => ?_) (Ev.bind h1 ?_), hlen, fun h5 => ?_⟩
   ·simp only [spec_Characters.l0]
    rw [if_pos (by omega)]
   ·refine Ev.congr (fun k => ?_) h3
    rw [if_pos rfl, if_pos (by omega)]
    change spec_Characters.l0 k s _ (wrap64 ((i : Int) + (n : Int))) = _
    rw [w64 (by omega)]
    congr 1
   ·obtain ⟨ds, h6, h7, h8⟩ := h4 h5
    refine ⟨(c : Int) :: ds, by rw [h6]; simp, by rw [hb, h7]; rfl, ?_⟩
    intro x hx
    rcases List.mem_cons.mp hx with rfl | hx
    ·exact ho
    ·exact h8 x hx
theorem chars_ans {s : ByteArray} (hs : s.size ≤ 2147483647) : ∃ cs ok, Ev (fun k => spec_Characters.f k s) (cs, ok) ∧ cs.length ≤ s.size ∧ (ok = true → bytesOf s = fl cs ∧ ∀ c ∈ cs, okc c) := by
 obtain ⟨cs, ok, h1, hlen, h2⟩ := chars_go hs _ 0 [] rfl (Nat.zero_le _) (Nat.le_refl _)
 refine ⟨cs, ok, Ev.congr (fun k => rfl) h1, hlen, fun h => ?_⟩
 obtain ⟨ds, rfl, h4, h5⟩ := h2 h
 exact ⟨h4, h5⟩
def lt : List Int → List Int → Prop
  | _, [] => False
  | [], _ :: _ => True
  | a :: x, b :: y => a < b ∨ (a = b ∧ lt x y)
theorem lt_app : ∀ (p x y : List Int), lt (p ++ x) (p ++ y) ↔ lt x y
 | [], _, _ => Iff.rfl
 | a :: p, x, y => by
  simp only [List.cons_append, lt]
  constructor
  ·rintro (h | ⟨_, h⟩)
   ·exact absurd h (by omega)
   ·exact (lt_app p x y).mp h
  ·intro h
   exact .inr ⟨trivial, (lt_app p x y).mpr h⟩
theorem lt_bytes : ∀ (x y : List UInt8), Op.bytesLess x y = true ↔ lt (x.map fun b => (b.toNat : Int)) (y.map fun b => (b.toNat : Int))
 | [], [] => by simp [Op.bytesLess, lt]
 | _ :: _, [] => by simp [Op.bytesLess, lt]
 | [], _ :: _ => by simp [Op.bytesLess, lt]
 | a :: x, b :: y => by
  have e1 : (a = b) ↔ (a.toNat : Int) = (b.toNat : Int) := by
   rw [← UInt8.toNat_inj]
   omega
  have e2 : ((a.toNat : Int) < (b.toNat : Int)) ↔ a.toNat < b.toNat := Int.ofNat_lt
  simp only [Op.bytesLess, List.map_cons, lt, Bool.or_eq_true, Bool.and_eq_true, decide_eq_true_eq, beq_iff_eq, lt_bytes x y, UInt8.lt_iff_toNat_lt, e1, e2]
theorem less_lt (s t : ByteArray) : Op.bytesLess s.toList t.toList = true ↔ lt (bytesOf s) (bytesOf t) := by
 rw [Lib.toList_data, Lib.toList_data]
 exact lt_bytes _ _
theorem less_no {s t : ByteArray} (h : ¬ lt (bytesOf s) (bytesOf t)) : Op.bytesLess s.toList t.toList = false := by
 cases e : Op.bytesLess s.toList t.toList with
 | false => rfl
 | true => exact absurd ((less_lt s t).mp e) h
abbrev Gl := S97
def glob (c : Int) : Gl := if c = 42 then ⟨true, false, 0⟩ else if c = 63 then ⟨false, true, 0⟩ else ⟨false, false, c⟩
theorem wr_add {i n : Nat} (h : i + n ≤ 2147483647) : wrap64 ((i : Int) + (n : Int)) = ((i + n : Nat) : Int) := by rw [w64 (by omega)]; omega
theorem globs_go {p : ByteArray} (hs : p.size ≤ 2147483647) : ∀ (d i : Nat) (acc : List Gl), p.size - i = d → i ≤ p.size → acc.length ≤ i →
 ∃ T ok, Ev (fun k => spec_Globs.l0 k p acc i) (T, ok) ∧ (ok = true → T.length ≤ p.size ∧ ∃ ds, (bytesOf p).drop i = fl ds ∧ (∀ c ∈ ds, okc c) ∧ ((∀ c ∈ ds, c ≠ 92) → T = acc ++ ds.map glob)) := by
 intro d
 induction d using Nat.strongRecOn with
 | ind d ih =>
  intro i acc hd hi ha
  by_cases h : i < p.size
  rotate_left
  ·refine ⟨acc, true, Ev.step (f := fun _ => some (acc, true)) (fun k => ?_) (Ev.now _), fun _ => ⟨by omega, [], ?_, by simp, fun _ => by simp⟩⟩
   ·simp only [spec_Globs.l0]
    rw [if_neg (by omega)]
   ·rw [List.drop_of_length_le (by rw [bytesOf_length]; omega)]
    rfl
  obtain ⟨r, h1, h2⟩ := char_ans (s := p) (by omega) h
  have st : ∀ k, spec_Globs.l0 (k + 1) p acc i = (spec_Character.f k p i).bind fun bt101 => (if bt101.2.2 = true then (if bt101.1 = 42 then (if acc.length < 8796093022208 then (spec_Globs.l0 k p (acc ++ [(⟨true, false, 0⟩ : Gl)]) (wrap64 (i + bt101.2.1))) else (none)) else (if bt101.1 = 63 then (if acc.length < 8796093022208 then (spec_Globs.l0 k p (acc ++ [(⟨false, true, 0⟩ : Gl)]) (wrap64 (i + bt101.2.1))) else (none)) else (if bt101.1 = 92 then (if (wrap64 (i + bt101.2.1)) = (p.size : Int) then (some (([] : List Gl), false)) else ((spec_Character.f k p (wrap64 (i + bt101.2.1))).bind fun bt110 => (if bt110.2.2 = true then (if acc.length < 8796093022208 then (spec_Globs.l0 k p (acc ++ [(⟨false, false, bt110.1⟩ : Gl)]) (wrap64 ((wrap64 (i + bt101.2.1)) + bt110.2.1))) else (none)) else (some (([] : List Gl), false))))) else (if acc.length < 8796093022208 then (spec_Globs.l0 k p (acc ++ [(⟨false, false, bt101.1⟩ : Gl)]) (wrap64 (i + bt101.2.1))) else (none))))) else (some (([] : List Gl), false))) := fun k => by
   simp only [spec_Globs.l0]
   rw [if_pos (by omega)]
  rcases h2 with rfl | ⟨c, n, rfl, hc⟩
  ·exact ⟨[], false, Ev.step st (Ev.bind h1 (Ev.congr (fun k => by rw [if_neg zq25]) (Ev.now _))), fun h => by simp at h⟩
  ·have hf := hc.fit
   have hp := hc.pos
   obtain ⟨ho, hn, hb⟩ := chr_bytes h hc
   have hw : i + n ≤ 2147483647 := by omega
   by_cases c92 : (c : Int) = 92
   rotate_left
   ·obtain ⟨T, ok, h3, h4⟩ := ih (p.size - (i + n)) (by omega) (i + n) (acc ++ [glob (c : Int)]) rfl hf zq23
    refine ⟨T, ok, Ev.step st (Ev.bind h1 (Ev.congr (fun k => ?_) h3)), fun h5 => ?_⟩
    ·simp only
     rw [if_pos trivial, wr_add hw]
     unfold glob
     by_cases c42 : (c : Int) = 42
     ·rw [if_pos c42, if_pos (by omega), if_pos c42]
     rw [if_neg c42, if_neg c42]
     by_cases c63 : (c : Int) = 63
     ·rw [if_pos c63, if_pos (by omega), if_pos c63]
     rw [if_neg c63, if_neg c92, if_pos (by omega), if_neg c63]
    ·obtain ⟨h6, ds, h7, h8, h9⟩ := h4 h5
     refine ⟨h6, (c : Int) :: ds, by rw [hb, h7]; rfl, ?_, fun hh => ?_⟩
     ·intro x hx
      rcases List.mem_cons.mp hx with rfl | hx
      ·exact ho
      ·exact h8 x hx
     ·rw [h9 (fun x hx => hh x (by simp [hx]))]
      simp
   by_cases he : i + n = p.size
   ·refine ⟨[], false, Ev.step st (Ev.bind h1 (Ev.congr (f := fun _ => some ([], false)) (fun k => ?_) (Ev.now _))), fun h => by simp at h⟩
    simp only
    rw [if_pos trivial, if_neg (by omega), if_neg (by omega), if_pos c92, if_pos (by rw [wr_add hw]; omega)]
   have hi2 : i + n < p.size := by omega
   obtain ⟨r2, g1, g2⟩ := char_ans (s := p) (by omega) hi2
   rcases g2 with rfl | ⟨c2, n2, rfl, hc2⟩
   ·refine ⟨[], false, Ev.step st (Ev.bind h1 (Ev.congr (f := fun k => (spec_Character.f k p ((i + n : Nat) : Int)).bind fun bt110 => (if bt110.2.2 = true then (if acc.length < 8796093022208 then (spec_Globs.l0 k p (acc ++ [(⟨false, false, bt110.1⟩ : Gl)]) (wrap64 (((i + n : Nat) : Int) + bt110.2.1))) else (none)) else (some (([] : List Gl), false)))) (fun k => ?_) (Ev.bind g1 (Ev.congr (f := fun _ => some ([], false)) (fun k => by rw [if_neg zq25]) (Ev.now _))))), fun h => by simp at h⟩
    simp only
    rw [if_pos trivial, if_neg (by omega), if_neg (by omega), if_pos c92, if_neg (by rw [wr_add hw]; omega), wr_add hw]
   ·have hf2 := hc2.fit
    have hp2 := hc2.pos
    obtain ⟨ho2, hn2, hb2⟩ := chr_bytes hi2 hc2
    have hw2 : i + n + n2 ≤ 2147483647 := by omega
    obtain ⟨T, ok, h3, h4⟩ := ih (p.size - (i + n + n2)) (by omega) (i + n + n2) (acc ++ [(⟨false, false, (c2 : Int)⟩ : Gl)]) rfl hf2 zq23
    refine ⟨T, ok, Ev.step st (Ev.bind h1 (Ev.congr (f := fun k => (spec_Character.f k p ((i + n : Nat) : Int)).bind fun bt110 => (if bt110.2.2 = true then (if acc.length < 8796093022208 then (spec_Globs.l0 k p (acc ++ [(⟨false, false, bt110.1⟩ : Gl)]) (wrap64 (((i + n : Nat) : Int) + bt110.2.1))) else (none)) else (some (([] : List Gl), false)))) (fun k => ?_) (Ev.bind g1 (Ev.congr (fun k => ?_) h3)))), fun h5 => ?_⟩
    ·simp only
     rw [if_pos trivial, if_neg (by omega), if_neg (by omega), if_pos c92, if_neg (by rw [wr_add hw]; omega), wr_add hw]
    ·simp only
     rw [if_pos trivial, if_pos (by omega), wr_add hw2]
    ·obtain ⟨h6, ds, h7, h8, h9⟩ := h4 h5
     refine ⟨h6, (c : Int) :: (c2 : Int) :: ds, by rw [hb, hb2, h7]; simp [fl], ?_, fun hh => absurd c92 (hh _ (by simp))⟩
     intro x hx
     rcases List.mem_cons.mp hx with rfl | hx
     ·exact ho
     rcases List.mem_cons.mp hx with rfl | hx
     ·exact ho2
     ·exact h8 x hx
theorem globs_ans {p : ByteArray} (hs : p.size ≤ 2147483647) : ∃ T ok, Ev (fun k => spec_Globs.f k p) (T, ok) ∧ (ok = true → T.length ≤ p.size ∧ ∃ ds, bytesOf p = fl ds ∧ (∀ c ∈ ds, okc c) ∧ ((∀ c ∈ ds, c ≠ 92) → T = ds.map glob)) := by
 obtain ⟨T, ok, h1, h2⟩ := globs_go hs _ 0 [] rfl (Nat.zero_le _) (Nat.le_refl _)
 refine ⟨T, ok, Ev.congr (fun k => rfl) h1, fun h => ?_⟩
 obtain ⟨h3, ds, h4, h5, h6⟩ := h2 h
 exact ⟨h3, ds, h4, h5, h6⟩
inductive Fit : List Int → List Gl → Prop
  | nil : Fit [] []
  | one {a ts c t} : Fit a ts → t.f0 = false → (t.f1 = true ∨ t.f2 = c) → Fit (a ++ [c]) (ts ++ [t])
  | star {a ts b t} : Fit a ts → t.f0 = true → Fit (a ++ b) (ts ++ [t])
def Gm (cs : List Int) (T : List Gl) (q m : Nat) (t : Gl) : Prop :=
  (t.f0 = true ∧ ∃ m', m' ≤ m ∧ Fit (cs.take m') (T.take q)) ∨ (t.f0 = false ∧ ∃ m', m = m' + 1 ∧ m' < cs.length ∧ Fit (cs.take m') (T.take q) ∧ (t.f1 = true ∨ t.f2 = rd cs (m' : Int)))
theorem Gm.fit {cs : List Int} {T : List Gl} {q m : Nat} (hq : q < T.length) (hm : m ≤ cs.length) (h : Gm cs T q m (rd_T97 T (q : Int))) : Fit (cs.take m) (T.take (q + 1)) := by
 have e : T.take (q + 1) = T.take q ++ [rd_T97 T (q : Int)] := by
  have := List.take_succ_eq_append_getElem hq
  rw [this]
  congr 2
  unfold rd_T97
  rw [Int.toNat_natCast, List.getD_eq_getElem?_getD, List.getElem?_eq_getElem hq]
  rfl
 rw [e]
 rcases h with ⟨h0, m', h1, h2⟩ | ⟨h0, m', rfl, h1, h2, h3⟩
 ·have e2 : cs.take m = cs.take m' ++ (cs.take m).drop m' := by
   have := List.take_append_drop m' (cs.take m)
   rw [List.take_take, Nat.min_eq_left h1] at this
   exact this.symm
  rw [e2]
  exact .star h2 h0
 ·have e2 : cs.take (m' + 1) = cs.take m' ++ [rd cs (m' : Int)] := by
   rw [List.take_succ_eq_append_getElem h1]
   congr 2
   unfold rd
   rw [Int.toNat_natCast, List.getD_eq_getElem?_getD, List.getElem?_eq_getElem h1]
   rfl
  rw [e2]
  exact .one h2 h0 h3
theorem getD_set {l : List Bool} {k m : Nat} {b : Bool} (hk : k < l.length) : (l.set k b).getD m false = if m = k then b else l.getD m false := by
 rw [List.getD_eq_getElem?_getD, List.getD_eq_getElem?_getD, List.getElem?_set]
 by_cases h : k = m
 rotate_left
 ·rw [if_neg h, if_neg (Ne.symm h)]
 subst h
 rw [if_pos rfl, if_pos hk, if_pos rfl]
 rfl
theorem fits_l1 (cs : List Int) (R : List Bool) (T : List Gl) (q : Nat) (hR : R.length = cs.length + 1) (hc : cs.length ≤ 5000)
 (HR : ∀ m, m ≤ cs.length → R.getD m false = true → Fit (cs.take m) (T.take q)) (hq : q < T.length) (hT : T.length ≤ 5000) :
 ∀ (d k : Nat) (Nx : List Bool), cs.length + 1 - k = d → k ≤ cs.length + 1 → Nx.length = cs.length + 1 → (∀ m, m < k → Nx.getD m false = true → Gm cs T q m (rd_T97 T (q : Int))) → (∀ m, k ≤ m → Nx.getD m false = false) →
 ∃ Nx', Nx'.length = cs.length + 1 ∧ (∀ m, m ≤ cs.length → Nx'.getD m false = true → Gm cs T q m (rd_T97 T (q : Int))) ∧ ∀ r, Ev (fun n => spec_Fits.l0 n cs Nx' T (T.length : Int) ((q + 1 : Nat) : Int)) r →
  Ev (fun n => spec_Fits.l1 n cs R Nx (k : Int) T (T.length : Int) (q : Int) (rd_T97 T (q : Int)).f0 (rd_T97 T (q : Int)).f1 (rd_T97 T (q : Int)).f2) r := by
 intro d
 induction d with
 | zero =>
  intro k Nx hd hk hN h1 h2
  refine ⟨Nx, hN, fun m hm => h1 m (by omega), fun r hr => Ev.step (fun n => ?_) hr⟩
  simp only [spec_Fits.l1]
  rw [if_neg (by omega), w64 (by omega)]
  rfl
 | succ d ih =>
  intro k Nx hd hk hN h1 h2
  have w1 : wrap64 ((k : Int) + 1) = ((k + 1 : Nat) : Int) := by rw [w64 (by omega)]; rfl
  have st : ∀ n, spec_Fits.l1 (n + 1) cs R Nx (k : Int) T (T.length : Int) (q : Int) (rd_T97 T (q : Int)).f0 (rd_T97 T (q : Int)).f1 (rd_T97 T (q : Int)).f2 =
   (if (rd_T97 T (q : Int)).f0 = true then (if R.getD k false = true then (spec_Fits.l1 n cs R (Nx.set k true) ((k + 1 : Nat) : Int) T (T.length : Int) (q : Int) (rd_T97 T (q : Int)).f0 (rd_T97 T (q : Int)).f1 (rd_T97 T (q : Int)).f2)
    else spec_Fits.l1 n cs R (Nx.set k (if 0 < k then Nx.getD (k - 1) false else false)) ((k + 1 : Nat) : Int) T (T.length : Int) (q : Int) (rd_T97 T (q : Int)).f0 (rd_T97 T (q : Int)).f1 (rd_T97 T (q : Int)).f2)
   else if 0 < k ∧ R.getD (k - 1) false = true then spec_Fits.l1 n cs R (Nx.set k (if (rd_T97 T (q : Int)).f1 = true then true else (rd_T97 T (q : Int)).f2 == rd cs ((k - 1 : Nat) : Int))) ((k + 1 : Nat) : Int) T (T.length : Int) (q : Int) (rd_T97 T (q : Int)).f0 (rd_T97 T (q : Int)).f1 (rd_T97 T (q : Int)).f2
   else spec_Fits.l1 n cs R Nx ((k + 1 : Nat) : Int) T (T.length : Int) (q : Int) (rd_T97 T (q : Int)).f0 (rd_T97 T (q : Int)).f1 (rd_T97 T (q : Int)).f2) := fun n => by
   simp only [spec_Fits.l1, w1]
   rw [if_pos (by omega)]
   by_cases c0 : (rd_T97 T (q : Int)).f0 = true
   ·rw [if_pos c0, if_pos c0, if_pos (by omega), if_pos (by omega)]
    unfold rdOf
    rw [Int.toNat_natCast]
    by_cases c1 : R.getD k false = true
    ·rw [if_pos c1, if_pos c1, if_pos (by omega)]
    rw [if_neg c1, if_neg c1]
    by_cases c2 : 0 < k
    rotate_left
    ·rw [if_neg (by omega), if_pos (by omega), if_neg c2]
    rw [if_pos (by omega), w64 (by omega), if_pos (by omega), if_pos (by omega), if_pos (by omega), if_pos c2]
    rw [show ((k : Int) - 1).toNat = k - 1 by omega]
   rw [if_neg c0, if_neg c0]
   by_cases c2 : 0 < k
   rotate_left
   ·rw [if_neg (by omega), if_neg (show ¬ (0 < k ∧ R.getD (k - 1) false = true) from fun h => c2 h.1)]
   rw [if_pos (by omega), w64 (by omega), if_pos (by omega), if_pos (by omega)]
   unfold rdOf
   rw [show ((k : Int) - 1).toNat = k - 1 by omega, show ((k : Int) - 1) = ((k - 1 : Nat) : Int) by omega]
   by_cases c3 : R.getD (k - 1) false = true
   rotate_left
   ·rw [if_neg c3, if_neg (show ¬ (0 < k ∧ R.getD (k - 1) false = true) from fun h => c3 h.2)]
   rw [if_pos c3, if_pos (show 0 < k ∧ R.getD (k - 1) false = true from ⟨c2, c3⟩)]
   by_cases c4 : (rd_T97 T (q : Int)).f1 = true
   ·rw [if_pos c4, if_pos (by omega), if_pos (by omega), if_pos c4, Int.toNat_natCast]
   rw [if_neg c4, if_pos (by omega), if_pos (by omega), if_pos (by omega), if_neg c4, Int.toNat_natCast]
  have go : ∀ (b : Bool), (b = true → Gm cs T q k (rd_T97 T (q : Int))) → (∀ n, spec_Fits.l1 (n + 1) cs R Nx (k : Int) T (T.length : Int) (q : Int) (rd_T97 T (q : Int)).f0 (rd_T97 T (q : Int)).f1 (rd_T97 T (q : Int)).f2 = spec_Fits.l1 n cs R (Nx.set k b) ((k + 1 : Nat) : Int) T (T.length : Int) (q : Int) (rd_T97 T (q : Int)).f0 (rd_T97 T (q : Int)).f1 (rd_T97 T (q : Int)).f2) →
   ∃ Nx', Nx'.length = cs.length + 1 ∧ (∀ m, m ≤ cs.length → Nx'.getD m false = true → Gm cs T q m (rd_T97 T (q : Int))) ∧ ∀ r, Ev (fun n => spec_Fits.l0 n cs Nx' T (T.length : Int) ((q + 1 : Nat) : Int)) r →
    Ev (fun n => spec_Fits.l1 n cs R Nx (k : Int) T (T.length : Int) (q : Int) (rd_T97 T (q : Int)).f0 (rd_T97 T (q : Int)).f1 (rd_T97 T (q : Int)).f2) r := by
   intro b hb hs
   obtain ⟨N', g1, g2, g3⟩ := ih (k + 1) (Nx.set k b) (by omega) (by omega) (by rw [List.length_set]; exact hN) (fun m hm hv => by
    rw [getD_set (by omega)] at hv
    by_cases e : m = k
    ·subst e
     rw [if_pos rfl] at hv
     exact hb hv
    ·rw [if_neg e] at hv
     exact h1 m (by omega) hv) (fun m hm => by
    rw [getD_set (by omega), if_neg (by omega)]
    exact h2 m (by omega))
   exact ⟨N', g1, g2, fun r hr => Ev.step hs (g3 r hr)⟩
  by_cases c0 : (rd_T97 T (q : Int)).f0 = true
  ·by_cases c1 : R.getD k false = true
   ·exact go true (fun _ => .inl ⟨c0, k, Nat.le_refl _, HR k (by omega) c1⟩) (fun n => by rw [st, if_pos c0, if_pos c1])
   refine go _ (fun hb => ?_) (fun n => by rw [st, if_pos c0, if_neg c1])
   split at hb
   ·rename_i c2
    rcases h1 (k - 1) (by omega) hb with ⟨_, m', h3, h4⟩ | ⟨h3, _⟩
    ·exact .inl ⟨c0, m', by omega, h4⟩
    ·rw [c0] at h3
     cases h3
   ·cases hb
  have c0' : (rd_T97 T (q : Int)).f0 = false := by simpa using c0
  by_cases c2 : 0 < k ∧ R.getD (k - 1) false = true
  ·refine go _ (fun hb => ?_) (fun n => by rw [st, if_neg c0, if_pos c2])
   refine .inr ⟨c0', k - 1, by omega, by omega, HR (k - 1) (by omega) c2.2, ?_⟩
   split at hb
   ·rename_i c3
    exact .inl c3
   ·exact .inr (by simpa using hb)
  have e : Nx.set k false = Nx := by
   apply List.ext_getElem (by simp)
   intro j h3 h4
   rw [List.getElem_set]
   split
   ·rename_i h5
    subst h5
    have h6 := h2 k (Nat.le_refl _)
    rw [List.getD_eq_getElem?_getD, List.getElem?_eq_getElem h4] at h6
    exact h6.symm
   ·rfl
  exact go false (fun h => by cases h) (fun n => by rw [st, if_neg c0, if_neg c2, e])
theorem fits_l0 (cs : List Int) (T : List Gl) (hc : cs.length ≤ 5000) (hT : T.length ≤ 5000) : ∀ (d q : Nat) (R : List Bool), T.length - q = d → q ≤ T.length → R.length = cs.length + 1 → (∀ m, m ≤ cs.length → R.getD m false = true → Fit (cs.take m) (T.take q)) →
 ∃ b, Ev (fun n => spec_Fits.l0 n cs R T (T.length : Int) (q : Int)) b ∧ (b = true → Fit cs T) := by
 intro d
 induction d with
 | zero =>
  intro q R hd hq hR HR
  refine ⟨R.getD cs.length false, Ev.step (f := fun _ => some (R.getD cs.length false)) (fun n => ?_) (Ev.now _), fun h => ?_⟩
  ·simp only [spec_Fits.l0]
   rw [if_neg (by omega), if_pos (by omega), if_pos (by omega)]
   unfold rdOf
   rw [Int.toNat_natCast]
  ·have := HR cs.length (Nat.le_refl _) h
   rw [List.take_length, List.take_of_length_le (by omega)] at this
   exact this
 | succ d ih =>
  intro q R hd hq hR HR
  obtain ⟨Nx', g1, g2, g3⟩ := fits_l1 cs R T q hR hc HR (by omega) hT _ 0 (List.replicate (cs.length + 1) false) rfl (Nat.zero_le _) (by simp) (fun m hm => by omega) (fun m hm => by
   rw [List.getD_eq_getElem?_getD, List.getElem?_replicate]
   split <;> rfl)
  obtain ⟨b, h1, h2⟩ := ih (q + 1) Nx' (by omega) (by omega) g1 (fun m hm hv => Gm.fit (by omega) hm (g2 m hm hv))
  refine ⟨b, Ev.step (fun n => ?_) (g3 b h1), h2⟩
  simp only [spec_Fits.l0]
  have w1 : wrap64 ((cs.length : Int) + 1) = ((cs.length + 1 : Nat) : Int) := by rw [w64 (by omega)]; rfl
  rw [if_pos (by omega), if_pos (by omega), if_pos (by omega), w1, if_pos (by omega), Int.toNat_natCast, if_pos (by omega)]
  rfl
theorem fits_ans (cs : List Int) (T : List Gl) (hc : cs.length ≤ 5000) (hT : T.length ≤ 5000) : ∃ b, Ev (fun n => spec_Fits.f n cs T) b ∧ (b = true → Fit cs T) := by
 have w1 : wrap64 ((cs.length : Int) + 1) = ((cs.length + 1 : Nat) : Int) := by rw [w64 (by omega)]; rfl
 obtain ⟨b, h1, h2⟩ := fits_l0 cs T hc hT _ 0 ((List.replicate (cs.length + 1) false).set 0 true) rfl (Nat.zero_le _) (by simp) (fun m hm hv => by
  rw [getD_set (by simp)] at hv
  by_cases e : m = 0
  ·subst e
   exact .nil
  rw [if_neg e, List.getD_eq_getElem?_getD, List.getElem?_replicate] at hv
  split at hv <;> cases hv)
 refine ⟨b, Ev.congr (fun n => ?_) h1, h2⟩
 unfold spec_Fits.f
 rw [w1, if_pos (by omega), Int.toNat_natCast, if_pos (by omega)]
 simp only [Option.bind_some]
 rw [if_pos (by simp)]
 rfl
inductive PW : List Int → List Gl → Prop
  | nil : PW [] []
  | cons {c E t ts} : (t.f1 = true ∨ t.f2 = c) → PW E ts → PW (c :: E) (t :: ts)
theorem PW.snoc {E : List Int} {ts : List Gl} {c : Int} {t : Gl} (h : PW E ts) (k : t.f1 = true ∨ t.f2 = c) : PW (E ++ [c]) (ts ++ [t]) := by
 induction h with
 | nil => exact .cons k .nil
 | cons k2 _ ih => exact .cons k2 ih
theorem tw_self : ∀ {ts : List Gl}, (∀ x ∈ ts, x.f0 = false) → ts.takeWhile (fun x => !x.f0) = ts
 | [], _ => rfl
 | t :: ts, h => by rw [List.takeWhile_cons, h t (by simp), if_pos (by rfl), tw_self (fun x hx => h x (by simp [hx]))]
theorem tw_snoc_all {ts : List Gl} {t : Gl} (h : ∀ x ∈ ts, x.f0 = false) : (ts ++ [t]).takeWhile (fun x => !x.f0) = ts ++ [t].takeWhile (fun x => !x.f0) := by
 induction ts with
 | nil => rfl
 | cons a ts ih =>
  have := h a (by simp)
  rw [List.cons_append, List.takeWhile_cons, this, if_pos (by rfl), ih (fun x hx => h x (by simp [hx]))]
  rfl
theorem tw_snoc_some {ts : List Gl} {t : Gl} (h : ¬ ∀ x ∈ ts, x.f0 = false) : (ts ++ [t]).takeWhile (fun x => !x.f0) = ts.takeWhile (fun x => !x.f0) := by
 induction ts with
 | nil => exact absurd (by simp) h
 | cons a ts ih =>
  simp only [List.cons_append, List.takeWhile_cons]
  by_cases e : a.f0 = true
  ·simp [e]
  have e' : a.f0 = false := by simpa using e
  simp only [e', Bool.not_false, if_true]
  rw [ih (fun hh => h (fun x hx => by
   rcases List.mem_cons.mp hx with rfl | hx
   ·exact e'
   ·exact hh x hx))]
theorem Fit.pre {a : List Int} {ts : List Gl} (h : Fit a ts) : ∃ E X, a = E ++ X ∧ PW E (ts.takeWhile fun x => !x.f0) ∧ ((∀ x ∈ ts, x.f0 = false) → X = []) := by
 induction h with
 | nil => exact ⟨[], [], rfl, .nil, fun _ => rfl⟩
 | @one a ts c t _ h0 h1 ih =>
  obtain ⟨E, X, e1, e2, e3⟩ := ih
  by_cases ha : ∀ x ∈ ts, x.f0 = false
  rotate_left
  ·exact ⟨E, X ++ [c], by rw [e1]; simp, by rw [tw_snoc_some ha]; exact e2, fun hh => absurd (fun x hx => hh x (by simp [hx])) ha⟩
  obtain rfl := e3 ha
  refine ⟨E ++ [c], [], by rw [e1]; simp, ?_, fun _ => rfl⟩
  rw [tw_snoc_all ha]
  have e4 : ts.takeWhile (fun x => !x.f0) = ts := tw_self ha
  rw [e4] at e2
  simp only [List.takeWhile_cons, h0, Bool.not_false, if_true, List.takeWhile_nil]
  exact e2.snoc h1
 | @star a ts b t _ h0 ih =>
  obtain ⟨E, X, e1, e2, e3⟩ := ih
  refine ⟨E, X ++ b, by rw [e1]; simp, ?_, fun hh => absurd (hh t (by simp)) (by simp [h0])⟩
  by_cases ha : ∀ x ∈ ts, x.f0 = false
  rotate_left
  ·rw [tw_snoc_some ha]
   exact e2
  rw [tw_snoc_all ha]
  have e4 : ts.takeWhile (fun x => !x.f0) = ts := tw_self ha
  rw [e4] at e2
  simp only [List.takeWhile_cons, h0, Bool.not_true]
  simpa using e2
end Go.Proofs.YtaigbkkgmncipaaDoor.Al
end
section
set_option linter.unusedVariables false
namespace Go.Proofs.YtaigbkkgmncipaaDoor.Al
open Go.RowKit Go.Proofs.YtaigbkkgmncipaaDoor.A Go.Proofs.YtaigbkkgmncipaaDoorW.PrintWords Go.Proofs.YtaigbkkgmncipaaDoorW.PrintLast
open J (From w64 Ev_same)
def mnb : List Int → List Int
  | [] => []
  | b :: B => if b = 42 then [] else (if b = 63 then [0] else [b]) ++ mnb B
def mxb : List Int → List Int
  | [] => []
  | b :: B => if b = 42 then [] else (if b = 63 then [244, 143, 191, 191] else [b]) ++ mxb B
def hdb : List Int → List Int
  | [] => []
  | b :: B => if b = 42 ∨ b = 63 then [] else b :: hdb B
theorem hdb_mnb : ∀ B : List Int, ∃ Y, mnb B = hdb B ++ Y
 | [] => ⟨[], rfl⟩
 | b :: B => by
  obtain ⟨Y, h⟩ := hdb_mnb B
  simp only [mnb, hdb]
  by_cases h1 : b = 42
  ·rw [if_pos h1, if_pos (.inl h1)]
   exact ⟨[], rfl⟩
  by_cases h2 : b = 63
  ·rw [if_neg h1, if_pos h2, if_pos (.inr h2)]
   exact ⟨_, rfl⟩
  rw [if_neg h1, if_neg h2, if_neg (by omega), h]
  exact ⟨Y, rfl⟩
theorem mnb_app : ∀ (P B : List Int), (∀ b ∈ P, b ≠ 42 ∧ b ≠ 63) → mnb (P ++ B) = P ++ mnb B
 | [], _, _ => rfl
 | p :: P, B, h => by
  have h1 := h p (by simp)
  simp only [List.cons_append, mnb]
  rw [if_neg h1.1, if_neg h1.2, mnb_app P B (fun b hb => h b (by simp [hb]))]
  rfl
theorem mxb_app : ∀ (P B : List Int), (∀ b ∈ P, b ≠ 42 ∧ b ≠ 63) → mxb (P ++ B) = P ++ mxb B
 | [], _, _ => rfl
 | p :: P, B, h => by
  have h1 := h p (by simp)
  simp only [List.cons_append, mxb]
  rw [if_neg h1.1, if_neg h1.2, mxb_app P B (fun b hb => h b (by simp [hb]))]
  rfl
def mnc (c : Int) : List Int := if c = 63 then [0] else eB c
def mxc (c : Int) : List Int := if c = 63 then [244, 143, 191, 191] else eB c
def mnL : List Int → List Int
  | [] => []
  | c :: cs => mnc c ++ mnL cs
def mxL : List Int → List Int
  | [] => []
  | c :: cs => mxc c ++ mxL cs
theorem mxL_app : ∀ a b : List Int, mxL (a ++ b) = mxL a ++ mxL b
 | [], _ => rfl
 | c :: a, b => by simp only [List.cons_append, mxL, mxL_app a b, List.append_assoc]
def tw (cs : List Int) : List Int := cs.takeWhile fun c => !(c == 42)
theorem eB_no {c : Int} (h : okc c) (h1 : c ≠ 42) (h2 : c ≠ 63) : ∀ b ∈ eB c, b ≠ 42 ∧ b ≠ 63 := by
 intro b hb
 rcases eB_byte h b hb with ⟨rfl, _⟩ | k
 ·exact ⟨h1, h2⟩
 ·exact ⟨by omega, by omega⟩
theorem mnb_fl : ∀ cs : List Int, (∀ c ∈ cs, okc c) → mnb (fl cs) = mnL (tw cs)
 | [], _ => rfl
 | c :: cs, h => by
  have ih := mnb_fl cs (fun x hx => h x (by simp [hx]))
  simp only [fl, tw, List.takeWhile_cons]
  by_cases h1 : c = 42
  ·subst h1
   rw [eB_one (by omega)]
   simp [mnb, mnL]
  have e : (!(c == 42)) = true := by simp [h1]
  rw [if_pos e]
  simp only [mnL, mnc]
  by_cases h2 : c = 63
  rotate_left
  ·rw [if_neg h2, mnb_app _ _ (eB_no (h c (by simp)) h1 h2), ih]
   rfl
  subst h2
  rw [eB_one (by omega)]
  simp only [List.cons_append, List.nil_append, mnb]
  rw [if_neg h1, ih]
  rfl
theorem mxb_fl : ∀ cs : List Int, (∀ c ∈ cs, okc c) → mxb (fl cs) = mxL (tw cs)
 | [], _ => rfl
 | c :: cs, h => by
  have ih := mxb_fl cs (fun x hx => h x (by simp [hx]))
  simp only [fl, tw, List.takeWhile_cons]
  by_cases h1 : c = 42
  ·subst h1
   rw [eB_one (by omega)]
   simp [mxb, mxL]
  have e : (!(c == 42)) = true := by simp [h1]
  rw [if_pos e]
  simp only [mxL, mxc]
  by_cases h2 : c = 63
  rotate_left
  ·rw [if_neg h2, mxb_app _ _ (eB_no (h c (by simp)) h1 h2), ih]
   rfl
  subst h2
  rw [eB_one (by omega)]
  simp only [List.cons_append, List.nil_append, mxb]
  rw [if_neg h1, ih]
  rfl
theorem mem_fl : ∀ cs : List Int, (∀ c ∈ cs, okc c) → (42 ∈ fl cs ↔ 42 ∈ cs)
 | [], _ => by simp [fl]
 | c :: cs, h => by
  have ih := mem_fl cs (fun x hx => h x (by simp [hx]))
  simp only [fl, List.mem_append, List.mem_cons, ih]
  constructor
  ·rintro (h1 | h1)
   ·rcases eB_byte (h c (by simp)) 42 h1 with ⟨h2, _⟩ | h2
    ·exact .inl h2
    ·omega
   ·exact .inr h1
  ·rintro (h1 | h1)
   ·left
    rw [← h1, eB_one (by omega)]
    simp
   ·exact .inr h1
theorem mnb_range : ∀ B : List Int, (∀ b ∈ B, 0 ≤ b ∧ b ≤ 255) → ∀ b ∈ mnb B, 0 ≤ b ∧ b ≤ 255
 | [], _ => fun b hb => by simp [mnb] at hb
 | b :: B, h => fun x hx => by
  simp only [mnb] at hx
  have ih := mnb_range B (fun y hy => h y (by simp [hy]))
  have h0 := h b (by simp)
  split at hx
  ·simp at hx
  ·rw [List.mem_append] at hx
   rcases hx with hx | hx
   rotate_left
   ·exact ih x hx
   split at hx
   ·obtain rfl := List.mem_singleton.mp hx
    omega
   ·obtain rfl := List.mem_singleton.mp hx
    exact h0
theorem allow_l0 {p : ByteArray} (hp : p.size ≤ 4096) : ∀ (B : List Int) (i : Nat) (x4 x5 : List Int), From p i B → x4.length ≤ i → x5.length ≤ 4 * i → ∀ r,
 Ev (fun k => match_Allowable.j2 k (x4 ++ mnb B) (x5 ++ mxb B) (decide (42 ∈ B))) r → Ev (fun k => match_Allowable.l0 k p x4 x5 false (i : Int)) r := by
 intro B
 induction B with
 | nil =>
  intro i x4 x5 hf h4 h5 r h
  have hi := hf.nil
  refine Ev.step (fun k => ?_) h
  simp only [match_Allowable.l0]
  rw [if_neg (by omega)]
  simp [mnb, mxb]
 | cons b B ih =>
  intro i x4 x5 hf h4 h5 r h
  have hi := hf.lt
  have hb := hf.bt
  by_cases h1 : b = 42
  ·refine Ev.step (fun k => ?_) h
   simp only [match_Allowable.l0]
   rw [if_pos (by omega), if_pos (by omega), hb, if_pos h1]
   simp [mnb, mxb, h1]
  have hm : decide (42 ∈ b :: B) = decide (42 ∈ B) := by
   have : ¬ (42 : Int) = b := fun e => h1 e.symm
   simp [this]
  rw [hm] at h
  have w1 : wrap64 ((i : Int) + 1) = ((i + 1 : Nat) : Int) := by rw [w64 (by omega)]; rfl
  by_cases h2 : b = 63
  rotate_left
  ·refine Ev.step (fun k => ?_) (ih (i + 1) (x4 ++ [b]) (x5 ++ [b]) hf.tail zq23 zq23 r ?_)
   ·simp only [match_Allowable.l0]
    rw [if_pos (by omega), if_pos (by omega), hb, if_neg h1, if_neg h2, if_pos (by omega), if_pos (by omega), w1]
   ·simp only [mnb, mxb] at h
    rw [if_neg h1, if_neg h2, if_neg h1, if_neg h2] at h
    simpa using h
  refine Ev.step (fun k => ?_) (ih (i + 1) (x4 ++ [0]) (x5 ++ [244, 143, 191, 191]) hf.tail zq23 zq23 r ?_)
  ·simp only [match_Allowable.l0]
   rw [if_pos (by omega), if_pos (by omega), hb, if_neg h1, if_pos h2, if_pos (by omega), if_pos zq23, w1]
  ·simp only [mnb, mxb] at h
   rw [if_neg h1, if_pos h2, if_neg h1, if_pos h2] at h
   simpa using h
theorem rd_end (P L : List Int) (m : Nat) (hm : 1 ≤ m) (h : m ≤ L.length) : rd (P ++ L) (((P ++ L).length : Int) - m) = L.getD (L.length - m) 0 := by
 unfold rd
 rw [List.length_append, show (((P.length + L.length : Nat) : Int) - m).toNat = P.length + (L.length - m) by omega]
 rw [List.getD_eq_getElem?_getD, List.getD_eq_getElem?_getD, List.getElem?_append_right (by omega)]
 congr 2
 omega
set_option maxHeartbeats 2000000 in
theorem last_eq {c : Int} (h : okc c) (P : List Int) (hP : P.length ≤ 100000) : utf8_DecodeLastRune.f (P ++ eB c) = some (c, ((eB c).length : Int)) := by
 obtain ⟨c0, c1, c2⟩ := id h
 have e1 := fun (L : List Int) (hL : 1 ≤ L.length) => rd_end P L 1 (by omega) hL
 have e2 := fun (L : List Int) (hL : 2 ≤ L.length) => rd_end P L 2 (by omega) hL
 have e3 := fun (L : List Int) (hL : 3 ≤ L.length) => rd_end P L 3 (by omega) hL
 have e4 := fun (L : List Int) (hL : 4 ≤ L.length) => rd_end P L 4 (by omega) hL
 unfold utf8_DecodeLastRune.f
 rcases eB_ways h with ⟨k, e⟩ | ⟨k1, k2, e⟩ | ⟨k1, k2, k3, e⟩ | ⟨k1, k2, e⟩
 ·rw [e]
  have a1 := e1 [c] (by simp)
  simp only [List.length_singleton, List.getD_cons_zero, Nat.sub_self] at a1
  have hl : ((P ++ [c]).length : Int) = P.length + 1 := by simp
  rw [show (((1 : Nat)) : Int) = 1 by rfl] at a1
  rw [a1, if_neg zq23, if_pos (by omega)]
  rfl
 ·rw [e]
  have a1 := e1 [192 + c / 64, 128 + c % 64] (by simp)
  have a2 := e2 [192 + c / 64, 128 + c % 64] (by simp)
  simp only [List.length_cons, List.length_nil, Nat.zero_add, Nat.reduceAdd, Nat.reduceSub, List.getD_cons_succ, List.getD_cons_zero] at a1 a2
  rw [show (((1 : Nat)) : Int) = 1 by rfl] at a1
  rw [show (((2 : Nat)) : Int) = 2 by rfl] at a2
  have hl : ((P ++ [192 + c / 64, 128 + c % 64]).length : Int) = P.length + 2 := by simp
  rw [a1, a2, if_neg zq23, if_neg (by omega), if_neg (by omega), if_pos (by omega)]
  congr 1
  exact Prod.ext (by simp only; omega) rfl
 ·rw [e]
  have a1 := e1 [224 + c / 4096, 128 + c / 64 % 64, 128 + c % 64] (by simp)
  have a2 := e2 [224 + c / 4096, 128 + c / 64 % 64, 128 + c % 64] (by simp)
  have a3 := e3 [224 + c / 4096, 128 + c / 64 % 64, 128 + c % 64] (by simp)
  simp only [List.length_cons, List.length_nil, Nat.zero_add, Nat.reduceAdd, Nat.reduceSub, List.getD_cons_succ, List.getD_cons_zero] at a1 a2 a3
  rw [show (((1 : Nat)) : Int) = 1 by rfl] at a1
  rw [show (((2 : Nat)) : Int) = 2 by rfl] at a2
  rw [show (((3 : Nat)) : Int) = 3 by rfl] at a3
  have hl : ((P ++ [224 + c / 4096, 128 + c / 64 % 64, 128 + c % 64]).length : Int) = P.length + 3 := by simp
  rw [a1, a2, a3, if_neg zq23, if_neg (by omega), if_neg (by omega), if_neg (by omega), if_neg (by omega), if_pos (by omega)]
  congr 1
  exact Prod.ext (by simp only; omega) rfl
 ·rw [e]
  have a1 := e1 [240 + c / 262144, 128 + c / 4096 % 64, 128 + c / 64 % 64, 128 + c % 64] (by simp)
  have a2 := e2 [240 + c / 262144, 128 + c / 4096 % 64, 128 + c / 64 % 64, 128 + c % 64] (by simp)
  have a3 := e3 [240 + c / 262144, 128 + c / 4096 % 64, 128 + c / 64 % 64, 128 + c % 64] (by simp)
  have a4 := e4 [240 + c / 262144, 128 + c / 4096 % 64, 128 + c / 64 % 64, 128 + c % 64] (by simp)
  simp only [List.length_cons, List.length_nil, Nat.zero_add, Nat.reduceAdd, Nat.reduceSub, List.getD_cons_succ, List.getD_cons_zero] at a1 a2 a3 a4
  rw [show (((1 : Nat)) : Int) = 1 by rfl] at a1
  rw [show (((2 : Nat)) : Int) = 2 by rfl] at a2
  rw [show (((3 : Nat)) : Int) = 3 by rfl] at a3
  rw [show (((4 : Nat)) : Int) = 4 by rfl] at a4
  have hl : ((P ++ [240 + c / 262144, 128 + c / 4096 % 64, 128 + c / 64 % 64, 128 + c % 64]).length : Int) = P.length + 4 := by simp
  rw [a1, a2, a3, a4, if_neg zq23, if_neg (by omega), if_neg (by omega), if_neg (by omega), if_neg (by omega), if_neg (by omega), if_neg (by omega), if_pos (by omega)]
  congr 1
  exact Prod.ext (by simp only; omega) rfl
theorem w32 {x : Int} (h : -2147483648 ≤ x ∧ x ≤ 2147483647) : wrap32 x = x := by
 unfold wrap32
 omega
def up (c : Int) : List Int := if c < 1114111 then eB (c + 1) else eB c
theorem enc_eq {r : Int} (h : 128 ≤ r ∧ r ≤ 1114111) (k : Nat) : utf8_EncodeRune.f k (List.replicate 4 0) r = some (((eB r).length : Int), splice (List.replicate 4 0) 0 (eB r)) := by
 unfold utf8_EncodeRune.f utf8_encodeRuneNonASCII.f
 rw [if_neg (by omega), if_pos ⟨h.1, h.2, by simp⟩]
 rfl
theorem allow_j2 {c : Int} (h : okc c) (hf : c ≠ 65533) (P x4 : List Int) (hP : P.length ≤ 100000) : Ev (fun k => match_Allowable.j2 k x4 (P ++ eB c) true) (strOfNums x4, strOfNums (P ++ up c)) := by
 obtain ⟨c0, c1, c2⟩ := id h
 have hl := last_eq h P hP
 have hle := eB_len c
 refine Ev.step (f := fun _ => some (strOfNums x4, strOfNums (P ++ up c))) (fun k => ?_) (Ev.now _)
 simp only [match_Allowable.j2]
 rw [if_pos trivial, hl]
 simp only [Option.bind_some]
 rw [if_neg hf]
 unfold up
 have ew : wrap64 (((P ++ eB c).length : Int) - ((eB c).length : Int)) = (P.length : Int) := by
  rw [w64 zq23]
  simp
 have et : (P ++ eB c).take (P.length : Int).toNat = P := by simp
 by_cases hm : c < 1114111
 rotate_left
 ·rw [if_neg hm, if_neg hm]
 rw [if_pos hm, if_pos hm, w32 (by omega)]
 by_cases h1 : c + 1 > 127
 rotate_left
 ·rw [if_neg h1, ew, if_pos (by omega), if_pos zq23, et, if_pos (by omega)]
  rw [eB_one (by omega), show (c + 1) % 256 = c + 1 by omega]
 have hle2 := eB_len (c + 1)
 rw [if_pos h1, if_pos (by omega), enc_eq (by omega)]
 simp only [Option.bind_some]
 rw [ew, if_pos (by omega), if_pos zq23, et]
 rw [if_pos (by omega), if_pos zq23]
 have es : (splice (List.replicate 4 0) 0 (eB (c + 1))).take (((eB (c + 1)).length : Nat) : Int).toNat = eB (c + 1) := by
  unfold splice
  rw [Int.toNat_natCast]
  simp
 rw [es, if_pos (by omega)]
theorem allow_j2n (x4 x5 : List Int) : Ev (fun k => match_Allowable.j2 k x4 x5 false) (strOfNums x4, strOfNums x5) := by
 refine Ev.step (f := fun _ => some (strOfNums x4, strOfNums x5)) (fun k => ?_) (Ev.now _)
 simp only [match_Allowable.j2]
 rw [if_neg zq25]
def most (cs : List Int) : List Int :=
  if 42 ∈ cs then (match (tw cs).reverse with
    | [] => []
    | c :: R => mxL R.reverse ++ up (if c = 63 then 1114111 else c))
  else mxL cs
theorem tw_all : ∀ cs : List Int, 42 ∉ cs → tw cs = cs
 | [], _ => rfl
 | c :: cs, h => by
  have h1 : ¬ c = 42 := fun e => h (by simp [e])
  have ih := tw_all cs (fun hh => h (by simp [hh]))
  unfold tw at *
  rw [List.takeWhile_cons, if_pos (by simp [h1]), ih]
theorem tw_mem {c : Int} : ∀ {cs : List Int}, c ∈ tw cs → c ∈ cs ∧ c ≠ 42
 | [], h => by simp [tw] at h
 | a :: cs, h => by
  unfold tw at h
  rw [List.takeWhile_cons] at h
  split at h
  ·rename_i e
   rcases List.mem_cons.mp h with rfl | h
   ·exact ⟨by simp, by simpa using e⟩
   ·have := tw_mem (cs := cs) h
    exact ⟨by simp [this.1], this.2⟩
  ·simp at h
theorem okc_top : okc 1114111 := ⟨by omega, by omega, by omega⟩
theorem eB_top : eB 1114111 = [244, 143, 191, 191] := by rw [eB_four (by omega)]; rfl
theorem tw_len (cs : List Int) : (tw cs).length ≤ cs.length := (List.takeWhile_sublist _).length_le
theorem mxL_len : ∀ cs : List Int, (mxL cs).length ≤ 4 * cs.length
 | [] => Nat.le_refl _
 | c :: cs => by
  have := mxL_len cs
  have := eB_len c
  simp only [mxL, mxc, List.length_append, List.length_cons]
  split
  ·simp; omega
  ·omega
theorem allow_ans {p : ByteArray} (hp : p.size ≤ 4096) {cs : List Int} (hb : bytesOf p = fl cs) (hv : ∀ c ∈ cs, okc c ∧ c ≠ 65533 ∧ c ≠ 1114111) :
 ∃ a b, Ev (fun k => match_Allowable.f k p) (strOfNums a, strOfNums b) ∧ a = mnL (tw cs) ∧ (b = most cs ∨ b = []) := by
 have hok : ∀ c ∈ cs, okc c := fun c hc => (hv c hc).1
 have hlen : cs.length ≤ 4096 := by
  have := fl_len cs
  rw [← hb, bytesOf_length] at this
  omega
 have e0 : strOfNums [] = (⟨#[]⟩ : ByteArray) := rfl
 have none_ : ∀ x, Ev (fun k => match_Allowable.j0 k x true) (strOfNums [], strOfNums []) := fun x => by
  refine Ev.step (f := fun _ => some (strOfNums [], strOfNums [])) (fun k => ?_) (Ev.now _)
  simp only [match_Allowable.j0]
  rw [if_pos trivial, e0]
 cases cs with
 | nil =>
  refine ⟨[], [], Ev.congr (fun k => ?_) (none_ p), rfl, .inr rfl⟩
  unfold match_Allowable.f
  rw [if_pos]
  rw [Lib.toList_data]
  have h1 : bytesOf p = [] := hb
  unfold bytesOf at h1
  simpa using h1
 | cons c cs =>
  have hc := hok c (by simp)
  have hpos : 0 < p.size := by
   have := congrArg List.length hb
   have := eB_pos c
   simp only [fl, List.length_append, bytesOf_length] at *
   omega
  have hne : ¬ p.toList = ([] : List UInt8) := by
   rw [Lib.toList_data]
   intro e
   have : p.size = 0 := by
    have h2 := congrArg List.length e
    simpa using h2
   omega
  by_cases c42 : c = 42
  ·subst c42
   have hf : From p 0 (42 :: fl cs) := ⟨Nat.zero_le _, by rw [List.drop_zero, hb]; simp only [fl]; rw [eB_one (by omega)]; rfl⟩
   refine ⟨[], [], Ev.congr (fun k => ?_) (none_ p), by simp [tw, mnL], .inr rfl⟩
   unfold match_Allowable.f
   have := hf.bt
   rw [if_neg hne, if_pos (by omega)]
   rw [show bt p 0 = 42 from this]
   rfl
  have h0 : (bt p 0 == 42) = false := by
   obtain ⟨b, B, hB⟩ : ∃ b B, eB c = b :: B := by
    have := eB_pos c
    cases h : eB c with
    | nil => rw [h] at this; simp at this
    | cons b B => exact ⟨b, B, rfl⟩
   have hf : From p 0 (b :: (B ++ fl cs)) := ⟨Nat.zero_le _, by rw [List.drop_zero, hb]; simp only [fl]; rw [hB]; rfl⟩
   have h1 := hf.bt
   rw [show bt p 0 = b from h1]
   rcases eB_byte hc b (by rw [hB]; simp) with ⟨rfl, _⟩ | h2
   ·simp [c42]
   ·exact beq_eq_false_iff_ne.mpr (by omega)
  have hdone : ∀ r, Ev (fun k => match_Allowable.j2 k (mnL (tw (c :: cs))) (mxL (tw (c :: cs))) (decide (42 ∈ c :: cs))) r → Ev (fun k => match_Allowable.f k p) r := by
   intro r hr
   have h1 := allow_l0 hp (fl (c :: cs)) 0 [] [] ⟨Nat.zero_le _, by rw [List.drop_zero, hb]⟩ (by simp) (by simp) r (by
    rw [mnb_fl _ hok, mxb_fl _ hok, List.nil_append, List.nil_append, show decide (42 ∈ fl (c :: cs)) = decide (42 ∈ c :: cs) from decide_eq_decide.mpr (mem_fl _ hok)]
    exact hr)
   refine Ev.congr (fun k => ?_) (Ev.step (g := fun k => match_Allowable.j0 k p false) (fun k => ?_) h1)
   ·unfold match_Allowable.f
    rw [if_neg hne, if_pos (by omega), h0]
   ·simp only [match_Allowable.j0]
    rw [if_neg zq25, if_pos (by omega), if_pos (by omega)]
    rfl
  by_cases hm : 42 ∈ c :: cs
  rotate_left
  ·refine ⟨_, _, hdone _ (by
    rw [show decide (42 ∈ c :: cs) = false from decide_eq_false hm]
    exact allow_j2n _ _), rfl, .inl ?_⟩
   unfold most
   rw [if_neg hm, tw_all _ hm]
  have hz : tw (c :: cs) ≠ [] := by
   unfold tw
   rw [List.takeWhile_cons, if_pos (by simp [c42])]
   simp
  obtain ⟨x, R, hR⟩ : ∃ x R, (tw (c :: cs)).reverse = x :: R := by
   cases h : (tw (c :: cs)).reverse with
   | nil => exact absurd (List.reverse_eq_nil_iff.mp h) hz
   | cons x R => exact ⟨x, R, rfl⟩
  have hT : tw (c :: cs) = R.reverse ++ [x] := by
   have := congrArg List.reverse hR
   simpa using this
  have hx : x ∈ tw (c :: cs) := by rw [hT]; simp
  have hx2 := hv x (tw_mem hx).1
  have hxl : mxL (tw (c :: cs)) = mxL R.reverse ++ eB (if x = 63 then 1114111 else x) := by
   rw [hT, mxL_app]
   simp only [mxL, mxc, List.append_nil]
   split
   ·rw [eB_top]
   ·rfl
  refine ⟨_, _, hdone _ (by
   rw [show decide (42 ∈ c :: cs) = true from decide_eq_true hm, hxl]
   refine allow_j2 (c := if x = 63 then 1114111 else x) ?_ ?_ _ _ ?_
   ·split
    ·exact okc_top
    ·exact hx2.1
   ·split
    ·omega
    ·exact hx2.2.1
   ·have h1 := mxL_len R.reverse
    have h2 := tw_len (c :: cs)
    have h3 := congrArg List.length hT
    simp only [List.length_append, List.length_reverse, List.length_singleton] at h1 h3
    omega), rfl, .inl ?_⟩
  unfold most
  rw [if_pos hm, hR]
end Go.Proofs.YtaigbkkgmncipaaDoor.Al
end
section
set_option linter.unusedVariables false
namespace Go.Proofs.YtaigbkkgmncipaaDoor.Al
open Go.RowKit Go.Proofs.YtaigbkkgmncipaaDoor.A Go.Proofs.YtaigbkkgmncipaaDoorW.PrintWords Go.Proofs.YtaigbkkgmncipaaDoorW.PrintLast
open J (From w64 Ev_same)

theorem lt_nil (l : List Int) : ¬ lt l [] := by cases l <;> simp [lt]
theorem cmp_min : ∀ (A E X : List Int), PW E (A.map glob) → (∀ a ∈ A, okc a ∧ a ≠ 42) → (∀ e ∈ E, okc e) → ¬ lt (fl E ++ X) (mnL A)
 | [], E, X, _, _, _ => lt_nil _
 | a :: A, E, X, h, hA, hE => by
  obtain ⟨oka, n42⟩ := hA a (by simp)
  cases h with
  | @cons e E' t ts hc ht =>
   have oke := hE e (by simp)
   have ih := cmp_min A E' X ht (fun x hx => hA x (by simp [hx])) (fun x hx => hE x (by simp [hx]))
   simp only [fl, mnL, mnc, List.append_assoc]
   by_cases h63 : a = 63
   rotate_left
   ·rw [if_neg h63]
    have : a = e := by
     unfold glob at hc
     rw [if_neg n42, if_neg h63] at hc
     rcases hc with hc | hc
     rotate_left
     ·exact hc
     cases hc
    subst this
    rw [lt_app]
    exact ih
   rw [if_pos h63]
   obtain ⟨e0, e1, e2⟩ := id oke
   rcases eB_ways oke with ⟨k, f⟩ | ⟨k1, k2, f⟩ | ⟨k1, k2, k3, f⟩ | ⟨k1, k2, f⟩ <;> rw [f] <;> simp only [List.cons_append, List.nil_append, lt]
   ·rintro (h | ⟨_, h⟩)
    ·omega
    ·exact ih h
   ·rintro (h | ⟨h, _⟩) <;> omega
   ·rintro (h | ⟨h, _⟩) <;> omega
   ·rintro (h | ⟨h, _⟩) <;> omega
set_option maxHeartbeats 1000000 in
theorem top_lt {e : Int} (oke : okc e) (h : e ≠ 1114111) (u v : List Int) : ¬ lt ([244, 143, 191, 191] ++ u) (eB e ++ v) := by
 obtain ⟨e0, e1, e2⟩ := id oke
 rcases eB_ways oke with ⟨k, f⟩ | ⟨k1, k2, f⟩ | ⟨k1, k2, k3, f⟩ | ⟨k1, k2, f⟩ <;> rw [f] <;> simp only [List.cons_append, List.nil_append, lt]
 ·rintro (h | ⟨h, _⟩) <;> omega
 ·rintro (h | ⟨h, _⟩) <;> omega
 ·rintro (h | ⟨h, _⟩) <;> omega
 ·rintro (h1 | ⟨h1, (h2 | ⟨h2, (h3 | ⟨h3, (h4 | ⟨h4, _⟩)⟩)⟩)⟩) <;> omega
theorem cmp_max : ∀ (A E Z Y : List Int), PW E (A.map glob) → (∀ a ∈ A, okc a ∧ a ≠ 42) → (∀ e ∈ E, okc e ∧ e ≠ 1114111) → ¬ lt Z Y → ¬ lt (mxL A ++ Z) (fl E ++ Y)
 | [], E, Z, Y, h, _, _, hz => by
  cases h with
  | nil => exact hz
 | a :: A, E, Z, Y, h, hA, hE, hz => by
  obtain ⟨oka, n42⟩ := hA a (by simp)
  cases h with
  | @cons e E' t ts hc ht =>
   obtain ⟨oke, hne⟩ := hE e (by simp)
   have ih := cmp_max A E' Z Y ht (fun x hx => hA x (by simp [hx])) (fun x hx => hE x (by simp [hx])) hz
   simp only [fl, mxL, mxc, List.append_assoc]
   by_cases h63 : a = 63
   ·rw [if_pos h63]
    exact top_lt oke hne _ _
   rw [if_neg h63]
   have : a = e := by
    unfold glob at hc
    rw [if_neg n42, if_neg h63] at hc
    rcases hc with hc | hc
    rotate_left
    ·exact hc
    cases hc
   subst this
   rw [lt_app]
   exact ih
set_option maxHeartbeats 2000000 in
theorem cmp_up {c : Int} (h : okc c) (h1 : c < 1114111) (u v : List Int) : ¬ lt (eB (c + 1) ++ u) (eB c ++ v) := by
 obtain ⟨c0, c1, c2⟩ := id h
 by_cases hs : c = 55295
 ·subst hs
  rw [eB_sur (by omega), eB_three (by omega) (by omega)]
  simp only [List.cons_append, List.nil_append, lt]
  rintro (h | ⟨h, _⟩) <;> omega
 have oks : okc (c + 1) := ⟨by omega, by omega, by omega⟩
 rcases eB_ways h with ⟨k, e⟩ | ⟨k1, k2, e⟩ | ⟨k1, k2, k3, e⟩ | ⟨k1, k2, e⟩ <;> rcases eB_ways oks with ⟨j, f⟩ | ⟨j1, j2, f⟩ | ⟨j1, j2, j3, f⟩ | ⟨j1, j2, f⟩ <;> rw [e, f] <;> simp only [List.cons_append, List.nil_append, lt]
 ·rintro (h | ⟨h, _⟩) <;> omega
 ·rintro (h | ⟨h, _⟩) <;> omega
 ·rintro (h | ⟨h, _⟩) <;> omega
 ·rintro (h | ⟨h, _⟩) <;> omega
 ·rintro (h | ⟨h, _⟩) <;> omega
 ·rintro (h1 | ⟨h1, (h2 | ⟨h2, _⟩)⟩) <;> omega
 ·rintro (h | ⟨h, _⟩) <;> omega
 ·rintro (h | ⟨h, _⟩) <;> omega
 ·rintro (h | ⟨h, _⟩) <;> omega
 ·rintro (h | ⟨h, _⟩) <;> omega
 ·rintro (h1 | ⟨h1, (h2 | ⟨h2, (h3 | ⟨h3, _⟩)⟩)⟩) <;> omega
 ·rintro (h | ⟨h, _⟩) <;> omega
 ·rintro (h | ⟨h, _⟩) <;> omega
 ·rintro (h | ⟨h, _⟩) <;> omega
 ·rintro (h | ⟨h, _⟩) <;> omega
 ·rintro (h1 | ⟨h1, (h2 | ⟨h2, (h3 | ⟨h3, (h4 | ⟨h4, _⟩)⟩)⟩)⟩) <;> omega
theorem PW.split : ∀ (t1 : List Gl) {t2 : List Gl} {E : List Int}, PW E (t1 ++ t2) → ∃ E1 E2, E = E1 ++ E2 ∧ PW E1 t1 ∧ PW E2 t2
 | [], t2, E, h => ⟨[], E, rfl, .nil, h⟩
 | t :: t1, t2, E, h => by
  cases h with
  | @cons e E' _ _ hc ht =>
   obtain ⟨E1, E2, rfl, h1, h2⟩ := PW.split t1 ht
   exact ⟨e :: E1, E2, rfl, .cons hc h1, h2⟩
theorem tw_glob : ∀ cs : List Int, (cs.map glob).takeWhile (fun x => !x.f0) = (tw cs).map glob
 | [] => rfl
 | c :: cs => by
  have ih := tw_glob cs
  unfold tw at *
  rw [List.map_cons, List.takeWhile_cons, List.takeWhile_cons]
  by_cases h : c = 42
  ·subst h
   rfl
  have e1 : (glob c).f0 = false := by
   unfold glob
   rw [if_neg h]
   split <;> rfl
  rw [e1, if_pos (show (!false) = true from rfl), if_pos (by simp [h]), List.map_cons, ih]
theorem no_star : ∀ cs : List Int, 42 ∉ cs → ∀ x ∈ cs.map glob, x.f0 = false := by
 intro cs h x hx
 obtain ⟨c, hc, rfl⟩ := List.mem_map.mp hx
 unfold glob
 rw [if_neg (show ¬ c = 42 from fun e => h (e ▸ hc))]
 split <;> rfl
theorem cmp_most {cs ds : List Int} (hf : Fit ds (cs.map glob)) (hc : ∀ c ∈ cs, okc c ∧ c ≠ 65533 ∧ c ≠ 1114111) (hd : ∀ d ∈ ds, okc d ∧ d ≠ 1114111) (hne : most cs ≠ []) : ¬ lt (most cs) (fl ds) := by
 obtain ⟨E, X, e1, e2, e3⟩ := hf.pre
 rw [tw_glob] at e2
 have hA : ∀ a ∈ tw cs, okc a ∧ a ≠ 42 := fun a ha => ⟨(hc a (tw_mem ha).1).1, (tw_mem ha).2⟩
 have hE : ∀ e ∈ E, okc e ∧ e ≠ 1114111 := fun e he => hd e (by rw [e1]; simp [he])
 rw [e1, fl_app]
 unfold most
 by_cases hm : 42 ∈ cs
 rotate_left
 ·rw [if_neg hm]
  have hX := e3 (no_star cs hm)
  subst hX
  rw [tw_all _ hm] at e2
  have := cmp_max cs E [] [] e2 (fun a ha => ⟨(hc a ha).1, fun e => hm (e ▸ ha)⟩) hE (lt_nil _)
  simpa [fl] using this
 rw [if_pos hm]
 cases hR : (tw cs).reverse with
 | nil =>
  unfold most at hne
  rw [if_pos hm, hR] at hne
  exact absurd rfl hne
 | cons x R =>
  simp only
  have hT : tw cs = R.reverse ++ [x] := by
   have := congrArg List.reverse hR
   simpa using this
  rw [hT, List.map_append] at e2
  obtain ⟨E1, E2, rfl, p1, p2⟩ := PW.split _ e2
  cases p2 with
  | @cons e E' _ _ hce ht =>
   cases ht
   have hx := hc x (tw_mem (by rw [hT]; simp)).1
   have hx42 : x ≠ 42 := (tw_mem (cs := cs) (by rw [hT]; simp)).2
   obtain ⟨oke, hne⟩ := hE e (by simp)
   rw [fl_app, List.append_assoc]
   refine cmp_max R.reverse E1 _ _ p1 (fun a ha => hA a (by rw [hT]; exact List.mem_append_left _ ha)) (fun a ha => hE a (by simp [ha])) ?_
   simp only [fl, List.append_nil]
   by_cases h63 : x = 63
   ·rw [if_pos h63]
    unfold up
    rw [if_neg (by omega), eB_top]
    have := top_lt oke hne [] (fl X)
    simpa using this
   rw [if_neg h63]
   have : x = e := by
    unfold glob at hce
    rw [if_neg hx42, if_neg h63] at hce
    rcases hce with hce | hce
    rotate_left
    ·exact hce
    cases hce
   subst this
   have hlt : x < 1114111 := by
    have := hx.1.2.1
    have := hx.2.2
    omega
   unfold up
   rw [if_pos hlt]
   have := cmp_up oke hlt [] (fl X)
   simpa using this
theorem eB_rangeA {c : Int} (h0 : 0 ≤ c) (h1 : c ≤ 1114111) : ∀ b ∈ eB c, 0 ≤ b ∧ b ≤ 255 := by
 by_cases hs : 55296 ≤ c ∧ c ≤ 57343
 ·rw [eB_sur hs]
  simp
 exact eB_range ⟨h0, h1, hs⟩
theorem mxL_range : ∀ cs : List Int, (∀ c ∈ cs, okc c) → ∀ b ∈ mxL cs, 0 ≤ b ∧ b ≤ 255
 | [], _ => fun b hb => by simp [mxL] at hb
 | c :: cs, h => fun b hb => by
  simp only [mxL, mxc, List.mem_append] at hb
  rcases hb with hb | hb
  rotate_left
  ·exact mxL_range cs (fun x hx => h x (by simp [hx])) b hb
  split at hb
  ·simp only [List.mem_cons, List.not_mem_nil, or_false] at hb
   rcases hb with rfl | rfl | rfl | rfl <;> omega
  ·exact eB_range (h c (by simp)) b hb
theorem up_range {c : Int} (h : okc c) : ∀ b ∈ up c, 0 ≤ b ∧ b ≤ 255 := by
 obtain ⟨h0, h1, h2⟩ := id h
 unfold up
 split
 ·exact eB_rangeA (by omega) (by omega)
 ·exact eB_range h
theorem most_range {cs : List Int} (h : ∀ c ∈ cs, okc c) : ∀ b ∈ most cs, 0 ≤ b ∧ b ≤ 255 := by
 unfold most
 split
 ·split
  ·intro b hb
   simp at hb
  ·rename_i x R hR
   have hT : tw cs = R.reverse ++ [x] := by
    have := congrArg List.reverse hR
    simpa using this
   intro b hb
   rcases List.mem_append.mp hb with hb | hb
   ·exact mxL_range _ (fun y hy => h y (tw_mem (by rw [hT]; exact List.mem_append_left _ hy)).1) b hb
   ·refine up_range ?_ b hb
    split
    ·exact okc_top
    ·exact h x (tw_mem (cs := cs) (by rw [hT]; simp)).1
 ·exact mxL_range _ h
theorem odd_l0 (ok : Bool) (cs : List Int) (hc : cs.length ≤ 2147483647) : ∀ (d i : Nat), cs.length - i = d → i ≤ cs.length →
 ∃ b, Ev (fun k => laws_mtOdd.l0 k ok cs (cs.length : Int) (i : Int)) b ∧ (b = false → ok = true ∧ ∀ c ∈ cs.drop i, c ≠ 92 ∧ c ≠ 65533 ∧ c ≠ 1114111) := by
 intro d
 induction d with
 | zero =>
  intro i hd hi
  refine ⟨!ok, Ev.step (f := fun _ => some (!ok)) (fun k => ?_) (Ev.now _), fun h => ⟨by simpa using h, ?_⟩⟩
  ·simp only [laws_mtOdd.l0]
   rw [if_neg (by omega)]
  ·rw [List.drop_of_length_le (by omega)]
   simp
 | succ d ih =>
  intro i hd hi
  have hlt : i < cs.length := by omega
  have hr : rd cs (i : Int) = cs[i] := by
   unfold rd
   rw [Int.toNat_natCast, List.getD_eq_getElem?_getD, List.getElem?_eq_getElem hlt]
   rfl
  have hcons := List.drop_eq_getElem_cons hlt
  have no : ∀ {P : Prop}, (∀ k, laws_mtOdd.l0 (k + 1) ok cs (cs.length : Int) (i : Int) = some true) → ∃ b, Ev (fun k => laws_mtOdd.l0 k ok cs (cs.length : Int) (i : Int)) b ∧ (b = false → P) := fun h => ⟨true, Ev.step h (Ev.now _), fun h => by cases h⟩
  by_cases h1 : cs[i] = 92
  ·refine no fun k => ?_
   simp only [laws_mtOdd.l0]
   rw [if_pos (by omega), if_pos (by omega), if_pos (by omega), hr, if_pos h1]
  by_cases h2 : cs[i] = 65533
  ·refine no fun k => ?_
   simp only [laws_mtOdd.l0]
   rw [if_pos (by omega), if_pos (by omega), if_pos (by omega), hr, if_neg h1, if_pos h2]
  by_cases h3 : cs[i] = 1114111
  ·refine no fun k => ?_
   simp only [laws_mtOdd.l0]
   rw [if_pos (by omega), if_pos (by omega), if_pos (by omega), hr, if_neg h1, if_neg h2, if_pos h3]
  obtain ⟨b, g1, g2⟩ := ih (i + 1) (by omega) (by omega)
  refine ⟨b, Ev.step (fun k => ?_) g1, fun hb => ⟨(g2 hb).1, ?_⟩⟩
  ·simp only [laws_mtOdd.l0]
   rw [if_pos (by omega), if_pos (by omega), if_pos (by omega), hr, if_neg h1, if_neg h2, if_neg h3, w64 (by omega)]
   rfl
  ·rw [hcons]
   intro c hcm
   rcases List.mem_cons.mp hcm with rfl | hcm
   ·exact ⟨h1, h2, h3⟩
   ·exact (g2 hb).2 c hcm
theorem odd_ans {s : ByteArray} (hs : s.size ≤ 2147483647) : ∃ b, Ev (fun k => laws_mtOdd.f k s) b ∧ (b = false → ∃ cs, bytesOf s = fl cs ∧ ∀ c ∈ cs, okc c ∧ c ≠ 92 ∧ c ≠ 65533 ∧ c ≠ 1114111) := by
 obtain ⟨cs, ok, h1, hl, h2⟩ := chars_ans hs
 obtain ⟨b, h3, h4⟩ := odd_l0 ok cs (by omega) _ 0 rfl (Nat.zero_le _)
 refine ⟨b, Ev.congr (fun k => rfl) (Ev.bind h1 h3), fun hb => ?_⟩
 obtain ⟨h5, h6⟩ := h4 hb
 obtain ⟨h7, h8⟩ := h2 h5
 exact ⟨cs, h7, fun c hc => ⟨h8 c hc, h6 c (by simpa using hc)⟩⟩
theorem bare_l0 {s : ByteArray} (hs : s.size ≤ 2147483647) : ∀ (B : List Int) (i : Nat) (acc : List Int), From s i B → acc.length ≤ i → Ev (fun k => laws_mtBare.l0 k s acc (i : Int)) (strOfNums (acc ++ B.filter fun b => !(b == 92))) := by
 intro B
 induction B with
 | nil =>
  intro i acc hf ha
  have := hf.nil
  refine Ev.step (f := fun _ => some (strOfNums (acc ++ [].filter fun b => !(b == 92)))) (fun k => ?_) (Ev.now _)
  simp only [laws_mtBare.l0]
  rw [if_neg (by omega)]
  simp
 | cons b B ih =>
  intro i acc hf ha
  have hi := hf.lt
  have hb := hf.bt
  have w1 : wrap64 ((i : Int) + 1) = ((i + 1 : Nat) : Int) := by rw [w64 (by omega)]; rfl
  by_cases h : b = 92
  ·have := ih (i + 1) acc hf.tail (by omega)
   refine Ev.step (fun k => ?_) (Ev_same this (by rw [List.filter_cons_of_neg (by simp [h])]))
   simp only [laws_mtBare.l0]
   rw [if_pos (by omega), if_pos (by omega), hb, if_pos h, w1]
  have := ih (i + 1) (acc ++ [b]) hf.tail zq23
  refine Ev.step (fun k => ?_) (Ev_same this (by rw [List.filter_cons_of_pos (by simp [h])]; simp))
  simp only [laws_mtBare.l0]
  rw [if_pos (by omega), if_pos (by omega), hb, if_neg h, if_pos (by omega), w1]
theorem bare_ans {s : ByteArray} (hs : s.size ≤ 2147483647) : Ev (fun k => laws_mtBare.f k s) (strOfNums ((bytesOf s).filter fun b => !(b == 92))) :=
 Ev.congr (fun k => rfl) (bare_l0 hs (bytesOf s) 0 [] (From.start s) (Nat.le_refl _))
theorem fl_filter : ∀ cs : List Int, (∀ c ∈ cs, okc c) → (fl cs).filter (fun b => !(b == 92)) = fl (cs.filter fun b => !(b == 92))
 | [], _ => rfl
 | c :: cs, h => by
  have ih := fl_filter cs (fun x hx => h x (by simp [hx]))
  simp only [fl, List.filter_append, ih]
  by_cases h1 : c = 92
  ·subst h1
   rw [eB_one (by omega), List.filter_cons_of_neg (by simp)]
   rfl
  rw [List.filter_cons_of_pos (by simp [h1])]
  simp only [fl]
  congr 1
  refine List.filter_eq_self.mpr fun b hb => ?_
  rcases eB_byte (h c (by simp)) b hb with ⟨rfl, _⟩ | k
  ·simp [h1]
  ·simp
   omega
theorem head_l0 {p : ByteArray} (hp : p.size ≤ 2147483647) : ∀ (B : List Int) (i : Nat), From p i B → ∃ h, Ev (fun k => laws_mtHead.l0 k p (i : Int)) h ∧ bytesOf h = (bytesOf p).take i ++ hdb B := by
 intro B
 induction B with
 | nil =>
  intro i hf
  have := hf.nil
  refine ⟨p, Ev.step (f := fun _ => some p) (fun k => ?_) (Ev.now _), ?_⟩
  ·simp only [laws_mtHead.l0]
   rw [if_neg (by omega)]
  ·rw [List.take_of_length_le (by rw [bytesOf_length]; omega)]
   simp [hdb]
 | cons b B ih =>
  intro i hf
  have hi := hf.lt
  have hb := hf.bt
  have w1 : wrap64 ((i : Int) + 1) = ((i + 1 : Nat) : Int) := by rw [w64 (by omega)]; rfl
  have stop : (b = 42 ∨ b = 63) → bytesOf (p.extract 0 i) = (bytesOf p).take i ++ hdb (b :: B) := fun h => by
   rw [J.bytesOf_extract]
   simp [hdb, h]
  by_cases h1 : b = 42
  ·refine ⟨p.extract 0 i, Ev.step (f := fun _ => some (p.extract 0 i)) (fun k => ?_) (Ev.now _), stop (.inl h1)⟩
   simp only [laws_mtHead.l0]
   rw [if_pos (by omega), if_pos (by omega), hb, if_pos h1, if_pos (by omega), Int.toNat_natCast]
  by_cases h2 : b = 63
  ·refine ⟨p.extract 0 i, Ev.step (f := fun _ => some (p.extract 0 i)) (fun k => ?_) (Ev.now _), stop (.inr h2)⟩
   simp only [laws_mtHead.l0]
   rw [if_pos (by omega), if_pos (by omega), hb, if_neg h1, if_pos h2, if_pos (by omega), Int.toNat_natCast]
  obtain ⟨h, g1, g2⟩ := ih (i + 1) hf.tail
  refine ⟨h, Ev.step (fun k => ?_) g1, ?_⟩
  ·simp only [laws_mtHead.l0]
   rw [if_pos (by omega), if_pos (by omega), hb, if_neg h1, if_neg h2, w1]
  ·rw [g2]
   have e : (bytesOf p).take (i + 1) = (bytesOf p).take i ++ [b] := by
    have h3 : (bytesOf p).drop i = b :: B := hf.2
    have h4 := List.take_append_drop i (bytesOf p)
    rw [h3] at h4
    have h5 : ((bytesOf p).take i).length = i := by rw [List.length_take, bytesOf_length]; omega
    conv => lhs; rw [← h4]
    rw [List.take_append, h5, List.take_of_length_le (by omega), Nat.add_sub_cancel_left]
    rfl
   rw [e]
   simp only [hdb]
   rw [if_neg (by omega)]
   simp
theorem head_ans {p : ByteArray} (hp : p.size ≤ 2147483647) : ∃ h, Ev (fun k => laws_mtHead.f k p) h ∧ bytesOf h = hdb (bytesOf p) := by
 obtain ⟨h, h1, h2⟩ := head_l0 hp (bytesOf p) 0 (From.start p)
 exact ⟨h, Ev.congr (fun k => rfl) h1, by simpa using h2⟩
theorem matches_ans {s p : ByteArray} (hs : s.size ≤ 4096) (hp : p.size ≤ 4096) : ∃ a g, Ev (fun k => spec_Matches.f k s p) (a, g) ∧ (g = true → ∃ cs ds, bytesOf s = fl cs ∧ (∀ c ∈ cs, okc c) ∧ bytesOf p = fl ds ∧ (∀ c ∈ ds, okc c) ∧ ((∀ c ∈ ds, c ≠ 92) → a = true → Fit cs (ds.map glob))) := by
 obtain ⟨cs, ok, h1, hl, h2⟩ := chars_ans (s := s) (by omega)
 obtain ⟨T, ok2, h3, h4⟩ := globs_ans (p := p) (by omega)
 have st : ∀ k, spec_Matches.f k s p = (spec_Characters.f k s).bind fun bt101 => ((spec_Globs.f k p).bind fun bt105 => (if bt101.2 = true then (if bt105.2 = true then ((spec_Fits.f k bt101.1 bt105.1).bind fun t109 => (some (t109, true))) else (some (false, false))) else (some (false, false)))) := fun k => rfl
 by_cases hk : ok = true
 rotate_left
 ·refine ⟨false, false, Ev.congr st (Ev.bind h1 (Ev.bind h3 (Ev.congr (fun k => ?_) (Ev.now _)))), fun h => by cases h⟩
  simp only
  rw [if_neg hk]
 by_cases hk2 : ok2 = true
 rotate_left
 ·refine ⟨false, false, Ev.congr st (Ev.bind h1 (Ev.bind h3 (Ev.congr (fun k => ?_) (Ev.now _)))), fun h => by cases h⟩
  simp only
  rw [if_pos hk, if_neg hk2]
 obtain ⟨h5, ds, h6, h7, h8⟩ := h4 hk2
 obtain ⟨h9, h10⟩ := h2 hk
 obtain ⟨b, g1, g2⟩ := fits_ans cs T (by omega) (by omega)
 refine ⟨b, true, Ev.congr st (Ev.bind h1 (Ev.bind h3 (Ev.congr (fun k => ?_) (Ev.bind (f := fun _ b => some (b, true)) g1 (Ev.now _))))), fun _ => ⟨cs, ds, h9, h10, h6, h7, fun h11 hb => ?_⟩⟩
 ·simp only
  rw [if_pos hk, if_pos hk2]
 ·rw [← h8 h11]
  exact g2 hb
theorem size_of (l : List Int) (h : ∀ b ∈ l, 0 ≤ b ∧ b ≤ 255) : (strOfNums l).size = l.length := by
 rw [← bytesOf_length, J.bytesOf_strOfNums l h]
theorem told {s p : ByteArray} {cs ds : List Int} (hp : p.size ≤ 4096) (hb : bytesOf s = fl cs) (hok : ∀ c ∈ cs, okc c ∧ c ≠ 1114111) (hbp : bytesOf p = fl ds) (hv : ∀ c ∈ ds, okc c ∧ c ≠ 65533 ∧ c ≠ 1114111) (a : Bool) (hf : a = true → Fit cs (ds.map glob)) :
 Ev (fun k => laws_FnMtAllowable.j1 k s p a false) true := by
 obtain ⟨l, m, h1, h2, h3⟩ := allow_ans hp hbp hv
 obtain ⟨h, h4, h5⟩ := head_ans (p := p) (by omega)
 have hok2 : ∀ c ∈ ds, okc c := fun c hc => (hv c hc).1
 have hl : l = mnb (bytesOf p) := by rw [h2, hbp, mnb_fl _ hok2]
 have rl : ∀ b ∈ l, 0 ≤ b ∧ b ≤ 255 := by rw [hl]; exact mnb_range _ (J.bytesOf_range p)
 have rm : ∀ b ∈ m, 0 ≤ b ∧ b ≤ 255 := by
  rcases h3 with rfl | rfl
  rotate_left
  ·simp
  exact most_range hok2
 have hlb : bytesOf (strOfNums l) = l := J.bytesOf_strOfNums l rl
 have hmb : bytesOf (strOfNums m) = m := J.bytesOf_strOfNums m rm
 obtain ⟨Y, hY⟩ := hdb_mnb (bytesOf p)
 rw [← hl, ← h5] at hY
 have hz : (strOfNums l).size = h.size + Y.length := by rw [size_of l rl, hY, List.length_append, bytesOf_length]
 have hx : (strOfNums l).extract 0 h.size = h := by
  apply J.bytesOf_inj
  rw [J.bytesOf_extract, hlb, hY, List.drop_zero, ← bytesOf_length h, List.take_left]
 refine Ev.step (f := fun k => (impl_MtAllowable.f k p).bind fun bt106 => ((laws_mtHead.f k p).bind fun t108 => (if (bt106.1.size : Int) < (t108.size : Int) then (some false) else (if 0 ≤ (t108.size : Int) then (if (t108.size : Int) ≤ (bt106.1.size : Int) then (if (bt106.1.extract 0 ((t108.size : Int) : Int).toNat).toList = t108.toList then (if a = true then (if ((Op.bytesLess s.toList bt106.1.toList) = true) then (some false) else (if bt106.2.toList = ([] : List UInt8) then (some true) else (some (!(Op.bytesLess bt106.2.toList s.toList))))) else (some true)) else (some false)) else (none)) else (none))))) (fun k => ?_) ?_
 ·simp only [laws_FnMtAllowable.j1]
  rw [if_neg zq25]
 ·refine Ev.bind (a := (strOfNums l, strOfNums m)) (Ev.congr (fun k => rfl) (Ev.bind h1 (Ev.now _))) (Ev.bind h4 (Ev.congr (f := fun _ => some true) (fun k => ?_) (Ev.now _)))
  simp only
  rw [if_neg (by omega), if_pos (by omega), if_pos (by omega), Int.toNat_natCast, hx, if_pos rfl]
  by_cases ha : a = true
  rotate_left
  ·rw [if_neg ha]
  have F := hf ha
  rw [if_pos ha]
  have c1 : Op.bytesLess s.toList (strOfNums l).toList = false := by
   apply less_no
   rw [hlb, hb, h2]
   obtain ⟨E, X, e1, e2, e3⟩ := F.pre
   rw [tw_glob] at e2
   rw [e1, fl_app]
   exact cmp_min _ E _ e2 (fun x hx => ⟨hok2 x (tw_mem hx).1, (tw_mem hx).2⟩) (fun x hx => (hok x (by rw [e1]; simp [hx])).1)
  rw [if_neg (by rw [c1]; decide)]
  by_cases hm : (strOfNums m).toList = ([] : List UInt8)
  ·rw [if_pos hm]
  rw [if_neg hm]
  have c2 : Op.bytesLess (strOfNums m).toList s.toList = false := by
   apply less_no
   rw [hmb, hb]
   rcases h3 with rfl | rfl
   rotate_left
   ·exact absurd (by rw [Lib.toList_data]; rfl) hm
   exact cmp_most F hv hok (fun e => hm (by rw [e, Lib.toList_data]; rfl))
  rw [c2]
  rfl
theorem odd_true (s p : ByteArray) (a : Bool) : Ev (fun k => laws_FnMtAllowable.j1 k s p a true) true := by
 refine Ev.step (f := fun _ => some true) (fun k => ?_) (Ev.now _)
 simp only [laws_FnMtAllowable.j1]
 rw [if_pos trivial]
theorem j0_true (s p : ByteArray) : Ev (fun k => laws_FnMtAllowable.j0 k s p true) true := by
 refine Ev.step (f := fun _ => some true) (fun k => ?_) (Ev.now _)
 simp only [laws_FnMtAllowable.j0]
 rw [if_pos trivial]
end Go.Proofs.YtaigbkkgmncipaaDoor.Al
namespace Go.Proofs.YtaigbkkgmncipaaDoor.Pure
open Go.RowKit Go.Proofs.YtaigbkkgmncipaaDoor.A Go.Proofs.YtaigbkkgmncipaaDoorW.PrintWords Go.Proofs.YtaigbkkgmncipaaDoorW.PrintLast Go.Proofs.YtaigbkkgmncipaaDoor.Al
theorem FnMtAllowable : laws_FnMtAllowable.Pure := by
 intro s p _ _
 suffices h : Ev (fun k => laws_FnMtAllowable.f k s p) true from h.rounds
 by_cases b1 : (s.size : Int) > 2147483647
 ·exact Ev.congr (fun k => by unfold laws_FnMtAllowable.f; rw [if_pos b1]) (j0_true s p)
 by_cases b2 : (p.size : Int) > 2147483647
 ·exact Ev.congr (fun k => by unfold laws_FnMtAllowable.f; rw [if_neg b1, decide_eq_true b2]) (j0_true s p)
 refine Ev.congr (f := fun k => laws_FnMtAllowable.j0 k s p false) (fun k => by unfold laws_FnMtAllowable.f; rw [if_neg b1, decide_eq_false b2]) ?_
 refine Ev.step (f := fun k => (laws_mtTold.f k s p).bind fun bt101 => (if bt101.2 = true then ((laws_mtOdd.f k p).bind fun t103 => (if t103 = true then (laws_FnMtAllowable.j1 k s p bt101.1 true) else ((laws_mtBare.f k s).bind fun t104 => ((laws_mtOdd.f k t104).bind fun t105 => (laws_FnMtAllowable.j1 k s p bt101.1 t105))))) else (laws_FnMtAllowable.j1 k s p bt101.1 true))) (fun k => ?_) ?_
 ·simp only [laws_FnMtAllowable.j0]
  rw [if_neg zq25]
 have bad : ∀ a, Ev (fun k => laws_mtTold.f k s p) (a, false) → Ev (fun k => (laws_mtTold.f k s p).bind fun bt101 => (if bt101.2 = true then ((laws_mtOdd.f k p).bind fun t103 => (if t103 = true then (laws_FnMtAllowable.j1 k s p bt101.1 true) else ((laws_mtBare.f k s).bind fun t104 => ((laws_mtOdd.f k t104).bind fun t105 => (laws_FnMtAllowable.j1 k s p bt101.1 t105))))) else (laws_FnMtAllowable.j1 k s p bt101.1 true))) true := fun a h => Ev.bind h (Ev.congr (fun k => by simp only; rw [if_neg zq25]) (odd_true s p a))
 by_cases c1 : (s.size : Int) > 4096
 ·exact bad false (Ev.congr (f := fun _ => some (false, false)) (fun k => by unfold laws_mtTold.f; rw [if_pos c1]) (Ev.now _))
 by_cases c2 : (p.size : Int) > 4096
 ·exact bad false (Ev.congr (f := fun _ => some (false, false)) (fun k => by unfold laws_mtTold.f; rw [if_neg c1, if_pos c2]) (Ev.now _))
 obtain ⟨a, g, h1, h2⟩ := matches_ans (s := s) (p := p) (by omega) (by omega)
 have h3 : Ev (fun k => laws_mtTold.f k s p) (a, g) := Ev.congr (f := fun k => (spec_Matches.f k s p).bind fun bt101 => (some (bt101.1, bt101.2))) (fun k => by unfold laws_mtTold.f; rw [if_neg c1, if_neg c2]) (Ev.bind h1 (Ev.now _))
 cases g with
 | false => exact bad a h3
 | true =>
  obtain ⟨cs, ds, e1, e2, e3, e4, e5⟩ := h2 rfl
  refine Ev.bind h3 ?_
  obtain ⟨o1, g1, g2⟩ := odd_ans (s := p) (by omega)
  refine Ev.congr (fun k => by simp only; rw [if_pos trivial]) (Ev.bind g1 ?_)
  cases o1 with
  | true => exact Ev.congr (fun k => by rw [if_pos rfl]) (odd_true s p a)
  | false =>
   obtain ⟨ds', q1, q2⟩ := g2 rfl
   have hds : ds = ds' := fl_inj _ _ e4 (fun x hx => (q2 x hx).1) (e3.symm.trans q1)
   subst hds
   have hflt := fl_filter cs e2
   have hrange : ∀ b ∈ (bytesOf s).filter (fun b => !(b == 92)), 0 ≤ b ∧ b ≤ 255 := fun b hb => J.bytesOf_range s b (List.mem_filter.mp hb).1
   have hbare : bytesOf (strOfNums ((bytesOf s).filter fun b => !(b == 92))) = fl (cs.filter fun b => !(b == 92)) := by rw [J.bytesOf_strOfNums _ hrange, e1, hflt]
   have hsz : (strOfNums ((bytesOf s).filter fun b => !(b == 92))).size ≤ 2147483647 := by
    rw [size_of _ hrange]
    have := List.length_filter_le (fun b => !(b == 92)) (bytesOf s)
    rw [bytesOf_length] at this
    omega
   obtain ⟨o2, k1, k2⟩ := odd_ans hsz
   refine Ev.congr (fun k => by rw [if_neg zq25]) (Ev.bind (bare_ans (s := s) (by omega)) (Ev.bind k1 ?_))
   cases o2 with
   | true => exact odd_true s p a
   | false =>
    obtain ⟨fs, r1, r2⟩ := k2 rfl
    have hfs : cs.filter (fun b => !(b == 92)) = fs := fl_inj _ _ (fun x hx => e2 x (List.mem_filter.mp hx).1) (fun x hx => (r2 x hx).1) (hbare.symm.trans r1)
    refine told (by omega) e1 (fun c hc => ⟨e2 c hc, fun h => ?_⟩) e3 (fun c hc => ⟨(q2 c hc).1, (q2 c hc).2.2⟩) a (e5 (fun c hc => (q2 c hc).2.1))
    subst h
    have : (1114111 : Int) ∈ fs := by
     rw [← hfs]
     exact List.mem_filter.mpr ⟨hc, by decide⟩
    exact (r2 _ this).2.2.2 rfl
end Go.Proofs.YtaigbkkgmncipaaDoor.Pure
end
