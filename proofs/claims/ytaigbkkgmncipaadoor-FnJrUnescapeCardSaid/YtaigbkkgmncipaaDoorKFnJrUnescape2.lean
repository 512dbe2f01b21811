/- The words, walks and laws that the proof rests on, laid together (part 2). -/
import Derived.Test.YtaigbkkgmncipaaDoorKFnJrUnescape1
section
namespace Go.Proofs.YtaigbkkgmncipaaDoor.Z
open Go.RowKit Go.Proofs.YtaigbkkgmncipaaDoorW.PrintWords Go.Proofs.YtaigbkkgmncipaaDoorW.PrintLast Go.Proofs.YtaigbkkgmncipaaDoorW.PrintMore
attribute [local go_sem] max2_int min2_int max_two min_two max_three min_three max_four min_four
set_option linter.unusedVariables false
set_option linter.unusedSimpArgs false
def jsonparser_decodeSingleUnicodeEscape.f (k : Nat) (l0 : List Int) : Option (Int × Bool) := if (l0.length : Int) < 6 then (some (65533, false)) else (if 2 < (l0.length : Int) then ((jsonparser_h2I.f k (rd l0 2)).bind fun t102 => (if 3 < (l0.length : Int) then ((jsonparser_h2I.f k (rd l0 3)).bind fun t104 => (if 4 < (l0.length : Int) then ((jsonparser_h2I.f k (rd l0 4)).bind fun t106 => (if 5 < (l0.length : Int) then ((jsonparser_h2I.f k (rd l0 5)).bind fun t108 => (if t102 = (-1) then (some (65533, false)) else (if t104 = (-1) then (some (65533, false)) else (if t106 = (-1) then (some (65533, false)) else (if t108 = (-1) then (some (65533, false)) else (some (wrap32 (wrap64 ((wrap64 ((wrap64 ((wrap64 (t102 * 4096)) + (wrap64 (t104 * 256)))) + (wrap64 (t106 * 16)))) + t108)), true))))))) else (none))) else (none))) else (none))) else (none))
theorem jsonparser_decodeSingleUnicodeEscape.mono : ∀ a0 k, LeO (jsonparser_decodeSingleUnicodeEscape.f k a0) (jsonparser_decodeSingleUnicodeEscape.f (k + 1) a0) := by
 intro a0 k
 unfold jsonparser_decodeSingleUnicodeEscape.f
 repeat' first
  | (with_reducible exact jsonparser_h2I.mono _ _)
  | (with_reducible exact LeO.refl _)
  | (with_reducible exact LeO.none _)
  | (with_reducible refine LeO.ite ?_ ?_)
  | (with_reducible refine LeO.bind ?_ (fun _ => ?_))
  | exact jsonparser_h2I.mono _ _
  | exact LeO.none _
  | refine LeO.ite ?_ ?_
  | refine LeO.bind ?_ (fun _ => ?_)
set_option maxHeartbeats 8000000 in
set_option maxRecDepth 100000 in
theorem jsonparser_decodeSingleUnicodeEscape.calls (k : Nat) (A0 : Option Addr) (c0 : Nat) (l0 : List Int) (r1 : Int) (r2 : Bool) (w : World) (hr0 : Kd.C (Kd.int .u8) w A0 l0.length l0) (hc0 : l0.length ≤ c0) (h : jsonparser_decodeSingleUnicodeEscape.f k l0 = some (r1, r2)) :
 Calls Tryd.prog 80 #[.slice A0 l0.length c0] w fun e w' => e = .returned (.tuple #[.int .i32 r1, .bool r2]) ∧ Drawn0 w w' := by
 have HR0 := mk0 hr0
 have HC0 := mk0 hc0
 clear hr0 hc0
 have H : (if (l0.length : Int) < 6 then (some (65533, false)) else (if 2 < (l0.length : Int) then ((jsonparser_h2I.f k (rd l0 2)).bind fun t102 => (if 3 < (l0.length : Int) then ((jsonparser_h2I.f k (rd l0 3)).bind fun t104 => (if 4 < (l0.length : Int) then ((jsonparser_h2I.f k (rd l0 4)).bind fun t106 => (if 5 < (l0.length : Int) then ((jsonparser_h2I.f k (rd l0 5)).bind fun t108 => (if t102 = (-1) then (some (65533, false)) else (if t104 = (-1) then (some (65533, false)) else (if t106 = (-1) then (some (65533, false)) else (if t108 = (-1) then (some (65533, false)) else (some (wrap32 (wrap64 ((wrap64 ((wrap64 ((wrap64 (t102 * 4096)) + (wrap64 (t104 * 256)))) + (wrap64 (t106 * 16)))) + t108)), true))))))) else (none))) else (none))) else (none))) else (none))) = some (r1, r2) := h
 clear h
 by_cases c2 : (l0.length : Int) < 6
 ·rw [if_pos c2] at H
  have c2b0 : decide ((l0.length : Int) < 6) = true := decide_eq_true c2
  have c2b1 : decide (l0.length < 6) = true := decide_eq_true (by omega)
  clear c2
  simp only [Option.some.injEq, Prod.mk.injEq] at H
  obtain ⟨rfl, rfl⟩ := H
  go_enter Tryd.func80, Tryd.ntmps80
  go_wp2
  repeat (go_quiet (fail); try go_wp2)
  go_ret2
  exact ⟨by first | rfl | (simp; done) | (simp [*]; done), by repeat (first | exact Drawn0.refl _ | apply Drawn0.step)⟩
 rw [if_neg c2] at H
 have c2b0 : decide ((l0.length : Int) < 6) = false := decide_eq_false c2
 have c2b1 : decide (l0.length < 6) = false := decide_eq_false (by omega)
 clear c2
 by_cases c3 : 2 < (l0.length : Int)
 rotate_left
 ·rw [if_neg c3] at H
  exact absurd H (by simp)
 rw [if_pos c3] at H
 have c3b0 : decide (2 < (l0.length : Int)) = true := decide_eq_true c3
 have c3b1 : decide (2 < l0.length) = true := decide_eq_true (by omega)
 clear c3
 replace H := Option.bind_eq_some_iff.mp H
 obtain ⟨t102, A40, H⟩ := H
 replace H : (if 3 < (l0.length : Int) then ((jsonparser_h2I.f k (rd l0 3)).bind fun t104 => (if 4 < (l0.length : Int) then ((jsonparser_h2I.f k (rd l0 4)).bind fun t106 => (if 5 < (l0.length : Int) then ((jsonparser_h2I.f k (rd l0 5)).bind fun t108 => (if t102 = (-1) then (some (65533, false)) else (if t104 = (-1) then (some (65533, false)) else (if t106 = (-1) then (some (65533, false)) else (if t108 = (-1) then (some (65533, false)) else (some (wrap32 (wrap64 ((wrap64 ((wrap64 ((wrap64 (t102 * 4096)) + (wrap64 (t104 * 256)))) + (wrap64 (t106 * 16)))) + t108)), true))))))) else (none))) else (none))) else (none)) = some (r1, r2) := H
 have A4 := mk0 A40
 clear A40
 by_cases c5 : 3 < (l0.length : Int)
 rotate_left
 ·rw [if_neg c5] at H
  exact absurd H (by simp)
 rw [if_pos c5] at H
 have c5b0 : decide (3 < (l0.length : Int)) = true := decide_eq_true c5
 have c5b1 : decide (3 < l0.length) = true := decide_eq_true (by omega)
 clear c5
 replace H := Option.bind_eq_some_iff.mp H
 obtain ⟨t104, A60, H⟩ := H
 replace H : (if 4 < (l0.length : Int) then ((jsonparser_h2I.f k (rd l0 4)).bind fun t106 => (if 5 < (l0.length : Int) then ((jsonparser_h2I.f k (rd l0 5)).bind fun t108 => (if t102 = (-1) then (some (65533, false)) else (if t104 = (-1) then (some (65533, false)) else (if t106 = (-1) then (some (65533, false)) else (if t108 = (-1) then (some (65533, false)) else (some (wrap32 (wrap64 ((wrap64 ((wrap64 ((wrap64 (t102 * 4096)) + (wrap64 (t104 * 256)))) + (wrap64 (t106 * 16)))) + t108)), true))))))) else (none))) else (none)) = some (r1, r2) := H
 have A6 := mk0 A60
 clear A60
 by_cases c7 : 4 < (l0.length : Int)
 rotate_left
 ·rw [if_neg c7] at H
  exact absurd H (by simp)
 rw [if_pos c7] at H
 have c7b0 : decide (4 < (l0.length : Int)) = true := decide_eq_true c7
 have c7b1 : decide (4 < l0.length) = true := decide_eq_true (by omega)
 clear c7
 replace H := Option.bind_eq_some_iff.mp H
 obtain ⟨t106, A80, H⟩ := H
 replace H : (if 5 < (l0.length : Int) then ((jsonparser_h2I.f k (rd l0 5)).bind fun t108 => (if t102 = (-1) then (some (65533, false)) else (if t104 = (-1) then (some (65533, false)) else (if t106 = (-1) then (some (65533, false)) else (if t108 = (-1) then (some (65533, false)) else (some (wrap32 (wrap64 ((wrap64 ((wrap64 ((wrap64 (t102 * 4096)) + (wrap64 (t104 * 256)))) + (wrap64 (t106 * 16)))) + t108)), true))))))) else (none)) = some (r1, r2) := H
 have A8 := mk0 A80
 clear A80
 by_cases c9 : 5 < (l0.length : Int)
 rotate_left
 ·rw [if_neg c9] at H
  exact absurd H (by simp)
 rw [if_pos c9] at H
 have c9b0 : decide (5 < (l0.length : Int)) = true := decide_eq_true c9
 have c9b1 : decide (5 < l0.length) = true := decide_eq_true (by omega)
 clear c9
 replace H := Option.bind_eq_some_iff.mp H
 obtain ⟨t108, A100, H⟩ := H
 replace H : (if t102 = (-1) then (some (65533, false)) else (if t104 = (-1) then (some (65533, false)) else (if t106 = (-1) then (some (65533, false)) else (if t108 = (-1) then (some (65533, false)) else (some (wrap32 (wrap64 ((wrap64 ((wrap64 ((wrap64 (t102 * 4096)) + (wrap64 (t104 * 256)))) + (wrap64 (t106 * 16)))) + t108)), true)))))) = some (r1, r2) := H
 have A10 := mk0 A100
 clear A100
 by_cases c11 : t102 = (-1)
 ·rw [if_pos c11] at H
  have c11b0 : (t102 == (-1)) = true := beq_iff_eq.mpr c11
  have c11b1 : (t102 != (-1)) = false := bne_eq_false_iff_eq.mpr c11
  clear c11
  simp only [Option.some.injEq, Prod.mk.injEq] at H
  obtain ⟨rfl, rfl⟩ := H
  have p101 : 0 ≤ (2 : Int) := (by omega)
  have q101 : 2 < (l0.length : Int) := of_decide_eq_true zq2
  obtain ⟨ad101, e101, hx101_0⟩ := Kd.at_int HR0.out 2 p101 q101
  cases e101
  (try simp only [show (2 : Int).toNat = 2 from rfl, Nat.reduceMul, Nat.reduceEqDiff, Go.Addr.add, ↓reduceIte] at hx101_0)
  have qi101 : (2 < l0.length) = True := eq_true (by omega)
  (try rw [show ((2 : Int)).toNat = 2 from rfl] at hx101_0)
  replace p101 := eq_true p101
  replace q101 := eq_true q101
  go_enter Tryd.func80, Tryd.ntmps80
  go_wp2_with (first | (go_at_call 85; (with_reducible refine (jsonparser_h2I.calls k (rd l0 2) t102 _ A4.out).mono ?_); rintro e w' ⟨rfl, ⟨nd, rfl⟩⟩; (try first | exact ⟨rfl, _, World.drewN_drewN _ _ _⟩ | exact ⟨rfl, _, Eq.trans (World.drewN_drewN _ _ _) (congrArg (World.drewN _) (Nat.add_assoc _ _ _))⟩); have p103 : 0 ≤ (3 : Int) := (by omega); have q103 : 3 < (l0.length : Int) := of_decide_eq_true zq2; obtain ⟨ad103, e103, hx103_0⟩ := Kd.at_int HR0.out 3 p103 q103; obtain rfl : ad101 = ad103 := zq17; (try simp only [show (3 : Int).toNat = 3 from rfl, Nat.reduceMul, Nat.reduceEqDiff, Go.Addr.add, ↓reduceIte] at hx103_0); have qi103 : (3 < l0.length) = True := eq_true (by omega); (try rw [show ((3 : Int)).toNat = 3 from rfl] at hx103_0); replace p103 := eq_true p103; replace q103 := eq_true q103) | (go_at_call 85; (with_reducible refine (jsonparser_h2I.calls k (rd l0 3) t104 _ A6.out).mono ?_); rintro e w' ⟨rfl, ⟨nd, rfl⟩⟩; (try first | exact ⟨rfl, _, World.drewN_drewN _ _ _⟩ | exact ⟨rfl, _, Eq.trans (World.drewN_drewN _ _ _) (congrArg (World.drewN _) (Nat.add_assoc _ _ _))⟩); have p105 : 0 ≤ (4 : Int) := (by omega); have q105 : 4 < (l0.length : Int) := of_decide_eq_true zq2; obtain ⟨ad105, e105, hx105_0⟩ := Kd.at_int HR0.out 4 p105 q105; obtain rfl : ad101 = ad105 := zq16; (try simp only [show (4 : Int).toNat = 4 from rfl, Nat.reduceMul, Nat.reduceEqDiff, Go.Addr.add, ↓reduceIte] at hx105_0); have qi105 : (4 < l0.length) = True := eq_true (by omega); (try rw [show ((4 : Int)).toNat = 4 from rfl] at hx105_0); replace p105 := eq_true p105; replace q105 := eq_true q105) | (go_at_call 85; (with_reducible refine (jsonparser_h2I.calls k (rd l0 4) t106 _ A8.out).mono ?_); rintro e w' ⟨rfl, ⟨nd, rfl⟩⟩; (try first | exact ⟨rfl, _, World.drewN_drewN _ _ _⟩ | exact ⟨rfl, _, Eq.trans (World.drewN_drewN _ _ _) (congrArg (World.drewN _) (Nat.add_assoc _ _ _))⟩); have p107 : 0 ≤ (5 : Int) := (by omega); have q107 : 5 < (l0.length : Int) := of_decide_eq_true zq2; obtain ⟨ad107, e107, hx107_0⟩ := Kd.at_int HR0.out 5 p107 q107; obtain rfl : ad101 = ad107 := zq18; (try simp only [show (5 : Int).toNat = 5 from rfl, Nat.reduceMul, Nat.reduceEqDiff, Go.Addr.add, ↓reduceIte] at hx107_0); have qi107 : (5 < l0.length) = True := eq_true (by omega); (try rw [show ((5 : Int)).toNat = 5 from rfl] at hx107_0); replace p107 := eq_true p107; replace q107 := eq_true q107) | (go_at_call 85; (with_reducible refine (jsonparser_h2I.calls k (rd l0 5) t108 _ A10.out).mono ?_); rintro e w' ⟨rfl, ⟨nd, rfl⟩⟩; (try first | exact ⟨rfl, _, World.drewN_drewN _ _ _⟩ | exact ⟨rfl, _, Eq.trans (World.drewN_drewN _ _ _) (congrArg (World.drewN _) (Nat.add_assoc _ _ _))⟩)))
  repeat (go_quiet (first | (go_at_call 85; (with_reducible refine (jsonparser_h2I.calls k (rd l0 2) t102 _ A4.out).mono ?_); rintro e w' ⟨rfl, ⟨nd, rfl⟩⟩; (try first | exact ⟨rfl, _, World.drewN_drewN _ _ _⟩ | exact ⟨rfl, _, Eq.trans (World.drewN_drewN _ _ _) (congrArg (World.drewN _) (Nat.add_assoc _ _ _))⟩); have p103 : 0 ≤ (3 : Int) := (by omega); have q103 : 3 < (l0.length : Int) := of_decide_eq_true zq2; obtain ⟨ad103, e103, hx103_0⟩ := Kd.at_int HR0.out 3 p103 q103; obtain rfl : ad101 = ad103 := zq17; (try simp only [show (3 : Int).toNat = 3 from rfl, Nat.reduceMul, Nat.reduceEqDiff, Go.Addr.add, ↓reduceIte] at hx103_0); have qi103 : (3 < l0.length) = True := eq_true (by omega); (try rw [show ((3 : Int)).toNat = 3 from rfl] at hx103_0); replace p103 := eq_true p103; replace q103 := eq_true q103) | (go_at_call 85; (with_reducible refine (jsonparser_h2I.calls k (rd l0 3) t104 _ A6.out).mono ?_); rintro e w' ⟨rfl, ⟨nd, rfl⟩⟩; (try first | exact ⟨rfl, _, World.drewN_drewN _ _ _⟩ | exact ⟨rfl, _, Eq.trans (World.drewN_drewN _ _ _) (congrArg (World.drewN _) (Nat.add_assoc _ _ _))⟩); have p105 : 0 ≤ (4 : Int) := (by omega); have q105 : 4 < (l0.length : Int) := of_decide_eq_true zq2; obtain ⟨ad105, e105, hx105_0⟩ := Kd.at_int HR0.out 4 p105 q105; obtain rfl : ad101 = ad105 := zq16; (try simp only [show (4 : Int).toNat = 4 from rfl, Nat.reduceMul, Nat.reduceEqDiff, Go.Addr.add, ↓reduceIte] at hx105_0); have qi105 : (4 < l0.length) = True := eq_true (by omega); (try rw [show ((4 : Int)).toNat = 4 from rfl] at hx105_0); replace p105 := eq_true p105; replace q105 := eq_true q105) | (go_at_call 85; (with_reducible refine (jsonparser_h2I.calls k (rd l0 4) t106 _ A8.out).mono ?_); rintro e w' ⟨rfl, ⟨nd, rfl⟩⟩; (try first | exact ⟨rfl, _, World.drewN_drewN _ _ _⟩ | exact ⟨rfl, _, Eq.trans (World.drewN_drewN _ _ _) (congrArg (World.drewN _) (Nat.add_assoc _ _ _))⟩); have p107 : 0 ≤ (5 : Int) := (by omega); have q107 : 5 < (l0.length : Int) := of_decide_eq_true zq2; obtain ⟨ad107, e107, hx107_0⟩ := Kd.at_int HR0.out 5 p107 q107; obtain rfl : ad101 = ad107 := zq18; (try simp only [show (5 : Int).toNat = 5 from rfl, Nat.reduceMul, Nat.reduceEqDiff, Go.Addr.add, ↓reduceIte] at hx107_0); have qi107 : (5 < l0.length) = True := eq_true (by omega); (try rw [show ((5 : Int)).toNat = 5 from rfl] at hx107_0); replace p107 := eq_true p107; replace q107 := eq_true q107) | (go_at_call 85; (with_reducible refine (jsonparser_h2I.calls k (rd l0 5) t108 _ A10.out).mono ?_); rintro e w' ⟨rfl, ⟨nd, rfl⟩⟩; (try first | exact ⟨rfl, _, World.drewN_drewN _ _ _⟩ | exact ⟨rfl, _, Eq.trans (World.drewN_drewN _ _ _) (congrArg (World.drewN _) (Nat.add_assoc _ _ _))⟩))); try go_wp2_with (first | (go_at_call 85; (with_reducible refine (jsonparser_h2I.calls k (rd l0 2) t102 _ A4.out).mono ?_); rintro e w' ⟨rfl, ⟨nd, rfl⟩⟩; (try first | exact ⟨rfl, _, World.drewN_drewN _ _ _⟩ | exact ⟨rfl, _, Eq.trans (World.drewN_drewN _ _ _) (congrArg (World.drewN _) (Nat.add_assoc _ _ _))⟩); have p103 : 0 ≤ (3 : Int) := (by omega); have q103 : 3 < (l0.length : Int) := of_decide_eq_true zq2; obtain ⟨ad103, e103, hx103_0⟩ := Kd.at_int HR0.out 3 p103 q103; obtain rfl : ad101 = ad103 := zq17; (try simp only [show (3 : Int).toNat = 3 from rfl, Nat.reduceMul, Nat.reduceEqDiff, Go.Addr.add, ↓reduceIte] at hx103_0); have qi103 : (3 < l0.length) = True := eq_true (by omega); (try rw [show ((3 : Int)).toNat = 3 from rfl] at hx103_0); replace p103 := eq_true p103; replace q103 := eq_true q103) | (go_at_call 85; (with_reducible refine (jsonparser_h2I.calls k (rd l0 3) t104 _ A6.out).mono ?_); rintro e w' ⟨rfl, ⟨nd, rfl⟩⟩; (try first | exact ⟨rfl, _, World.drewN_drewN _ _ _⟩ | exact ⟨rfl, _, Eq.trans (World.drewN_drewN _ _ _) (congrArg (World.drewN _) (Nat.add_assoc _ _ _))⟩); have p105 : 0 ≤ (4 : Int) := (by omega); have q105 : 4 < (l0.length : Int) := of_decide_eq_true zq2; obtain ⟨ad105, e105, hx105_0⟩ := Kd.at_int HR0.out 4 p105 q105; obtain rfl : ad101 = ad105 := zq16; (try simp only [show (4 : Int).toNat = 4 from rfl, Nat.reduceMul, Nat.reduceEqDiff, Go.Addr.add, ↓reduceIte] at hx105_0); have qi105 : (4 < l0.length) = True := eq_true (by omega); (try rw [show ((4 : Int)).toNat = 4 from rfl] at hx105_0); replace p105 := eq_true p105; replace q105 := eq_true q105) | (go_at_call 85; (with_reducible refine (jsonparser_h2I.calls k (rd l0 4) t106 _ A8.out).mono ?_); rintro e w' ⟨rfl, ⟨nd, rfl⟩⟩; (try first | exact ⟨rfl, _, World.drewN_drewN _ _ _⟩ | exact ⟨rfl, _, Eq.trans (World.drewN_drewN _ _ _) (congrArg (World.drewN _) (Nat.add_assoc _ _ _))⟩); have p107 : 0 ≤ (5 : Int) := (by omega); have q107 : 5 < (l0.length : Int) := of_decide_eq_true zq2; obtain ⟨ad107, e107, hx107_0⟩ := Kd.at_int HR0.out 5 p107 q107; obtain rfl : ad101 = ad107 := zq18; (try simp only [show (5 : Int).toNat = 5 from rfl, Nat.reduceMul, Nat.reduceEqDiff, Go.Addr.add, ↓reduceIte] at hx107_0); have qi107 : (5 < l0.length) = True := eq_true (by omega); (try rw [show ((5 : Int)).toNat = 5 from rfl] at hx107_0); replace p107 := eq_true p107; replace q107 := eq_true q107) | (go_at_call 85; (with_reducible refine (jsonparser_h2I.calls k (rd l0 5) t108 _ A10.out).mono ?_); rintro e w' ⟨rfl, ⟨nd, rfl⟩⟩; (try first | exact ⟨rfl, _, World.drewN_drewN _ _ _⟩ | exact ⟨rfl, _, Eq.trans (World.drewN_drewN _ _ _) (congrArg (World.drewN _) (Nat.add_assoc _ _ _))⟩))))
  go_ret2
  exact ⟨by first | rfl | (simp; done) | (simp [*]; done), by repeat (first | exact Drawn0.refl _ | apply Drawn0.step)⟩
 rw [if_neg c11] at H
 have c11b0 : (t102 == (-1)) = false := beq_eq_false_iff_ne.mpr c11
 have c11b1 : (t102 != (-1)) = true := bne_iff_ne.mpr c11
 by_cases c12 : t104 = (-1)
 ·rw [if_pos c12] at H
  have c12b0 : (t104 == (-1)) = true := beq_iff_eq.mpr c12
  have c12b1 : (t104 != (-1)) = false := bne_eq_false_iff_eq.mpr c12
  clear c12
  simp only [Option.some.injEq, Prod.mk.injEq] at H
  obtain ⟨rfl, rfl⟩ := H
  have p101 : 0 ≤ (2 : Int) := (by omega)
  have q101 : 2 < (l0.length : Int) := of_decide_eq_true zq2
  obtain ⟨ad101, e101, hx101_0⟩ := Kd.at_int HR0.out 2 p101 q101
  cases e101
  (try simp only [show (2 : Int).toNat = 2 from rfl, Nat.reduceMul, Nat.reduceEqDiff, Go.Addr.add, ↓reduceIte] at hx101_0)
  have qi101 : (2 < l0.length) = True := eq_true (by omega)
  (try rw [show ((2 : Int)).toNat = 2 from rfl] at hx101_0)
  replace p101 := eq_true p101
  replace q101 := eq_true q101
  go_enter Tryd.func80, Tryd.ntmps80
  go_wp2_with (first | (go_at_call 85; (with_reducible refine (jsonparser_h2I.calls k (rd l0 2) t102 _ A4.out).mono ?_); rintro e w' ⟨rfl, ⟨nd, rfl⟩⟩; (try first | exact ⟨rfl, _, World.drewN_drewN _ _ _⟩ | exact ⟨rfl, _, Eq.trans (World.drewN_drewN _ _ _) (congrArg (World.drewN _) (Nat.add_assoc _ _ _))⟩); have p103 : 0 ≤ (3 : Int) := (by omega); have q103 : 3 < (l0.length : Int) := of_decide_eq_true zq2; obtain ⟨ad103, e103, hx103_0⟩ := Kd.at_int HR0.out 3 p103 q103; obtain rfl : ad101 = ad103 := zq17; (try simp only [show (3 : Int).toNat = 3 from rfl, Nat.reduceMul, Nat.reduceEqDiff, Go.Addr.add, ↓reduceIte] at hx103_0); have qi103 : (3 < l0.length) = True := eq_true (by omega); (try rw [show ((3 : Int)).toNat = 3 from rfl] at hx103_0); replace p103 := eq_true p103; replace q103 := eq_true q103) | (go_at_call 85; (with_reducible refine (jsonparser_h2I.calls k (rd l0 3) t104 _ A6.out).mono ?_); rintro e w' ⟨rfl, ⟨nd, rfl⟩⟩; (try first | exact ⟨rfl, _, World.drewN_drewN _ _ _⟩ | exact ⟨rfl, _, Eq.trans (World.drewN_drewN _ _ _) (congrArg (World.drewN _) (Nat.add_assoc _ _ _))⟩); have p105 : 0 ≤ (4 : Int) := (by omega); have q105 : 4 < (l0.length : Int) := of_decide_eq_true zq2; obtain ⟨ad105, e105, hx105_0⟩ := Kd.at_int HR0.out 4 p105 q105; obtain rfl : ad101 = ad105 := zq16; (try simp only [show (4 : Int).toNat = 4 from rfl, Nat.reduceMul, Nat.reduceEqDiff, Go.Addr.add, ↓reduceIte] at hx105_0); have qi105 : (4 < l0.length) = True := eq_true (by omega); (try rw [show ((4 : Int)).toNat = 4 from rfl] at hx105_0); replace p105 := eq_true p105; replace q105 := eq_true q105) | (go_at_call 85; (with_reducible refine (jsonparser_h2I.calls k (rd l0 4) t106 _ A8.out).mono ?_); rintro e w' ⟨rfl, ⟨nd, rfl⟩⟩; (try first | exact ⟨rfl, _, World.drewN_drewN _ _ _⟩ | exact ⟨rfl, _, Eq.trans (World.drewN_drewN _ _ _) (congrArg (World.drewN _) (Nat.add_assoc _ _ _))⟩); have p107 : 0 ≤ (5 : Int) := (by omega); have q107 : 5 < (l0.length : Int) := of_decide_eq_true zq2; obtain ⟨ad107, e107, hx107_0⟩ := Kd.at_int HR0.out 5 p107 q107; obtain rfl : ad101 = ad107 := zq18; (try simp only [show (5 : Int).toNat = 5 from rfl, Nat.reduceMul, Nat.reduceEqDiff, Go.Addr.add, ↓reduceIte] at hx107_0); have qi107 : (5 < l0.length) = True := eq_true (by omega); (try rw [show ((5 : Int)).toNat = 5 from rfl] at hx107_0); replace p107 := eq_true p107; replace q107 := eq_true q107) | (go_at_call 85; (with_reducible refine (jsonparser_h2I.calls k (rd l0 5) t108 _ A10.out).mono ?_); rintro e w' ⟨rfl, ⟨nd, rfl⟩⟩; (try first | exact ⟨rfl, _, World.drewN_drewN _ _ _⟩ | exact ⟨rfl, _, Eq.trans (World.drewN_drewN _ _ _) (congrArg (World.drewN _) (Nat.add_assoc _ _ _))⟩)))
  repeat (go_quiet (first | (go_at_call 85; (with_reducible refine (jsonparser_h2I.calls k (rd l0 2) t102 _ A4.out).mono ?_); rintro e w' ⟨rfl, ⟨nd, rfl⟩⟩; (try first | exact ⟨rfl, _, World.drewN_drewN _ _ _⟩ | exact ⟨rfl, _, Eq.trans (World.drewN_drewN _ _ _) (congrArg (World.drewN _) (Nat.add_assoc _ _ _))⟩); have p103 : 0 ≤ (3 : Int) := (by omega); have q103 : 3 < (l0.length : Int) := of_decide_eq_true zq2; obtain ⟨ad103, e103, hx103_0⟩ := Kd.at_int HR0.out 3 p103 q103; obtain rfl : ad101 = ad103 := zq17; (try simp only [show (3 : Int).toNat = 3 from rfl, Nat.reduceMul, Nat.reduceEqDiff, Go.Addr.add, ↓reduceIte] at hx103_0); have qi103 : (3 < l0.length) = True := eq_true (by omega); (try rw [show ((3 : Int)).toNat = 3 from rfl] at hx103_0); replace p103 := eq_true p103; replace q103 := eq_true q103) | (go_at_call 85; (with_reducible refine (jsonparser_h2I.calls k (rd l0 3) t104 _ A6.out).mono ?_); rintro e w' ⟨rfl, ⟨nd, rfl⟩⟩; (try first | exact ⟨rfl, _, World.drewN_drewN _ _ _⟩ | exact ⟨rfl, _, Eq.trans (World.drewN_drewN _ _ _) (congrArg (World.drewN _) (Nat.add_assoc _ _ _))⟩); have p105 : 0 ≤ (4 : Int) := (by omega); have q105 : 4 < (l0.length : Int) := of_decide_eq_true zq2; obtain ⟨ad105, e105, hx105_0⟩ := Kd.at_int HR0.out 4 p105 q105; obtain rfl : ad101 = ad105 := zq16; (try simp only [show (4 : Int).toNat = 4 from rfl, Nat.reduceMul, Nat.reduceEqDiff, Go.Addr.add, ↓reduceIte] at hx105_0); have qi105 : (4 < l0.length) = True := eq_true (by omega); (try rw [show ((4 : Int)).toNat = 4 from rfl] at hx105_0); replace p105 := eq_true p105; replace q105 := eq_true q105) | (go_at_call 85; (with_reducible refine (jsonparser_h2I.calls k (rd l0 4) t106 _ A8.out).mono ?_); rintro e w' ⟨rfl, ⟨nd, rfl⟩⟩; (try first | exact ⟨rfl, _, World.drewN_drewN _ _ _⟩ | exact ⟨rfl, _, Eq.trans (World.drewN_drewN _ _ _) (congrArg (World.drewN _) (Nat.add_assoc _ _ _))⟩); have p107 : 0 ≤ (5 : Int) := (by omega); have q107 : 5 < (l0.length : Int) := of_decide_eq_true zq2; obtain ⟨ad107, e107, hx107_0⟩ := Kd.at_int HR0.out 5 p107 q107; obtain rfl : ad101 = ad107 := zq18; (try simp only [show (5 : Int).toNat = 5 from rfl, Nat.reduceMul, Nat.reduceEqDiff, Go.Addr.add, ↓reduceIte] at hx107_0); have qi107 : (5 < l0.length) = True := eq_true (by omega); (try rw [show ((5 : Int)).toNat = 5 from rfl] at hx107_0); replace p107 := eq_true p107; replace q107 := eq_true q107) | (go_at_call 85; (with_reducible refine (jsonparser_h2I.calls k (rd l0 5) t108 _ A10.out).mono ?_); rintro e w' ⟨rfl, ⟨nd, rfl⟩⟩; (try first | exact ⟨rfl, _, World.drewN_drewN _ _ _⟩ | exact ⟨rfl, _, Eq.trans (World.drewN_drewN _ _ _) (congrArg (World.drewN _) (Nat.add_assoc _ _ _))⟩))); try go_wp2_with (first | (go_at_call 85; (with_reducible refine (jsonparser_h2I.calls k (rd l0 2) t102 _ A4.out).mono ?_); rintro e w' ⟨rfl, ⟨nd, rfl⟩⟩; (try first | exact ⟨rfl, _, World.drewN_drewN _ _ _⟩ | exact ⟨rfl, _, Eq.trans (World.drewN_drewN _ _ _) (congrArg (World.drewN _) (Nat.add_assoc _ _ _))⟩); have p103 : 0 ≤ (3 : Int) := (by omega); have q103 : 3 < (l0.length : Int) := of_decide_eq_true zq2; obtain ⟨ad103, e103, hx103_0⟩ := Kd.at_int HR0.out 3 p103 q103; obtain rfl : ad101 = ad103 := zq17; (try simp only [show (3 : Int).toNat = 3 from rfl, Nat.reduceMul, Nat.reduceEqDiff, Go.Addr.add, ↓reduceIte] at hx103_0); have qi103 : (3 < l0.length) = True := eq_true (by omega); (try rw [show ((3 : Int)).toNat = 3 from rfl] at hx103_0); replace p103 := eq_true p103; replace q103 := eq_true q103) | (go_at_call 85; (with_reducible refine (jsonparser_h2I.calls k (rd l0 3) t104 _ A6.out).mono ?_); rintro e w' ⟨rfl, ⟨nd, rfl⟩⟩; (try first | exact ⟨rfl, _, World.drewN_drewN _ _ _⟩ | exact ⟨rfl, _, Eq.trans (World.drewN_drewN _ _ _) (congrArg (World.drewN _) (Nat.add_assoc _ _ _))⟩); have p105 : 0 ≤ (4 : Int) := (by omega); have q105 : 4 < (l0.length : Int) := of_decide_eq_true zq2; obtain ⟨ad105, e105, hx105_0⟩ := Kd.at_int HR0.out 4 p105 q105; obtain rfl : ad101 = ad105 := zq16; (try simp only [show (4 : Int).toNat = 4 from rfl, Nat.reduceMul, Nat.reduceEqDiff, Go.Addr.add, ↓reduceIte] at hx105_0); have qi105 : (4 < l0.length) = True := eq_true (by omega); (try rw [show ((4 : Int)).toNat = 4 from rfl] at hx105_0); replace p105 := eq_true p105; replace q105 := eq_true q105) | (go_at_call 85; (with_reducible refine (jsonparser_h2I.calls k (rd l0 4) t106 _ A8.out).mono ?_); rintro e w' ⟨rfl, ⟨nd, rfl⟩⟩; (try first | exact ⟨rfl, _, World.drewN_drewN _ _ _⟩ | exact ⟨rfl, _, Eq.trans (World.drewN_drewN _ _ _) (congrArg (World.drewN _) (Nat.add_assoc _ _ _))⟩); have p107 : 0 ≤ (5 : Int) := (by omega); have q107 : 5 < (l0.length : Int) := of_decide_eq_true zq2; obtain ⟨ad107, e107, hx107_0⟩ := Kd.at_int HR0.out 5 p107 q107; obtain rfl : ad101 = ad107 := zq18; (try simp only [show (5 : Int).toNat = 5 from rfl, Nat.reduceMul, Nat.reduceEqDiff, Go.Addr.add, ↓reduceIte] at hx107_0); have qi107 : (5 < l0.length) = True := eq_true (by omega); (try rw [show ((5 : Int)).toNat = 5 from rfl] at hx107_0); replace p107 := eq_true p107; replace q107 := eq_true q107) | (go_at_call 85; (with_reducible refine (jsonparser_h2I.calls k (rd l0 5) t108 _ A10.out).mono ?_); rintro e w' ⟨rfl, ⟨nd, rfl⟩⟩; (try first | exact ⟨rfl, _, World.drewN_drewN _ _ _⟩ | exact ⟨rfl, _, Eq.trans (World.drewN_drewN _ _ _) (congrArg (World.drewN _) (Nat.add_assoc _ _ _))⟩))))
  go_ret2
  exact ⟨by first | rfl | (simp; done) | (simp [*]; done), by repeat (first | exact Drawn0.refl _ | apply Drawn0.step)⟩
 rw [if_neg c12] at H
 have c12b0 : (t104 == (-1)) = false := beq_eq_false_iff_ne.mpr c12
 have c12b1 : (t104 != (-1)) = true := bne_iff_ne.mpr c12
 by_cases c13 : t106 = (-1)
 ·rw [if_pos c13] at H
  have c13b0 : (t106 == (-1)) = true := beq_iff_eq.mpr c13
  have c13b1 : (t106 != (-1)) = false := bne_eq_false_iff_eq.mpr c13
  clear c13
  simp only [Option.some.injEq, Prod.mk.injEq] at H
  obtain ⟨rfl, rfl⟩ := H
  have p101 : 0 ≤ (2 : Int) := (by omega)
  have q101 : 2 < (l0.length : Int) := of_decide_eq_true zq2
  obtain ⟨ad101, e101, hx101_0⟩ := Kd.at_int HR0.out 2 p101 q101
  cases e101
  (try simp only [show (2 : Int).toNat = 2 from rfl, Nat.reduceMul, Nat.reduceEqDiff, Go.Addr.add, ↓reduceIte] at hx101_0)
  have qi101 : (2 < l0.length) = True := eq_true (by omega)
  (try rw [show ((2 : Int)).toNat = 2 from rfl] at hx101_0)
  replace p101 := eq_true p101
  replace q101 := eq_true q101
  go_enter Tryd.func80, Tryd.ntmps80
  go_wp2_with (first | (go_at_call 85; (with_reducible refine (jsonparser_h2I.calls k (rd l0 2) t102 _ A4.out).mono ?_); rintro e w' ⟨rfl, ⟨nd, rfl⟩⟩; (try first | exact ⟨rfl, _, World.drewN_drewN _ _ _⟩ | exact ⟨rfl, _, Eq.trans (World.drewN_drewN _ _ _) (congrArg (World.drewN _) (Nat.add_assoc _ _ _))⟩); have p103 : 0 ≤ (3 : Int) := (by omega); have q103 : 3 < (l0.length : Int) := of_decide_eq_true zq2; obtain ⟨ad103, e103, hx103_0⟩ := Kd.at_int HR0.out 3 p103 q103; obtain rfl : ad101 = ad103 := zq17; (try simp only [show (3 : Int).toNat = 3 from rfl, Nat.reduceMul, Nat.reduceEqDiff, Go.Addr.add, ↓reduceIte] at hx103_0); have qi103 : (3 < l0.length) = True := eq_true (by omega); (try rw [show ((3 : Int)).toNat = 3 from rfl] at hx103_0); replace p103 := eq_true p103; replace q103 := eq_true q103) | (go_at_call 85; (with_reducible refine (jsonparser_h2I.calls k (rd l0 3) t104 _ A6.out).mono ?_); rintro e w' ⟨rfl, ⟨nd, rfl⟩⟩; (try first | exact ⟨rfl, _, World.drewN_drewN _ _ _⟩ | exact ⟨rfl, _, Eq.trans (World.drewN_drewN _ _ _) (congrArg (World.drewN _) (Nat.add_assoc _ _ _))⟩); have p105 : 0 ≤ (4 : Int) := (by omega); have q105 : 4 < (l0.length : Int) := of_decide_eq_true zq2; obtain ⟨ad105, e105, hx105_0⟩ := Kd.at_int HR0.out 4 p105 q105; obtain rfl : ad101 = ad105 := zq16; (try simp only [show (4 : Int).toNat = 4 from rfl, Nat.reduceMul, Nat.reduceEqDiff, Go.Addr.add, ↓reduceIte] at hx105_0); have qi105 : (4 < l0.length) = True := eq_true (by omega); (try rw [show ((4 : Int)).toNat = 4 from rfl] at hx105_0); replace p105 := eq_true p105; replace q105 := eq_true q105) | (go_at_call 85; (with_reducible refine (jsonparser_h2I.calls k (rd l0 4) t106 _ A8.out).mono ?_); rintro e w' ⟨rfl, ⟨nd, rfl⟩⟩; (try first | exact ⟨rfl, _, World.drewN_drewN _ _ _⟩ | exact ⟨rfl, _, Eq.trans (World.drewN_drewN _ _ _) (congrArg (World.drewN _) (Nat.add_assoc _ _ _))⟩); have p107 : 0 ≤ (5 : Int) := (by omega); have q107 : 5 < (l0.length : Int) := of_decide_eq_true zq2; obtain ⟨ad107, e107, hx107_0⟩ := Kd.at_int HR0.out 5 p107 q107; obtain rfl : ad101 = ad107 := zq18; (try simp only [show (5 : Int).toNat = 5 from rfl, Nat.reduceMul, Nat.reduceEqDiff, Go.Addr.add, ↓reduceIte] at hx107_0); have qi107 : (5 < l0.length) = True := eq_true (by omega); (try rw [show ((5 : Int)).toNat = 5 from rfl] at hx107_0); replace p107 := eq_true p107; replace q107 := eq_true q107) | (go_at_call 85; (with_reducible refine (jsonparser_h2I.calls k (rd l0 5) t108 _ A10.out).mono ?_); rintro e w' ⟨rfl, ⟨nd, rfl⟩⟩; (try first | exact ⟨rfl, _, World.drewN_drewN _ _ _⟩ | exact ⟨rfl, _, Eq.trans (World.drewN_drewN _ _ _) (congrArg (World.drewN _) (Nat.add_assoc _ _ _))⟩)))
  repeat (go_quiet (first | (go_at_call 85; (with_reducible refine (jsonparser_h2I.calls k (rd l0 2) t102 _ A4.out).mono ?_); rintro e w' ⟨rfl, ⟨nd, rfl⟩⟩; (try first | exact ⟨rfl, _, World.drewN_drewN _ _ _⟩ | exact ⟨rfl, _, Eq.trans (World.drewN_drewN _ _ _) (congrArg (World.drewN _) (Nat.add_assoc _ _ _))⟩); have p103 : 0 ≤ (3 : Int) := (by omega); have q103 : 3 < (l0.length : Int) := of_decide_eq_true zq2; obtain ⟨ad103, e103, hx103_0⟩ := Kd.at_int HR0.out 3 p103 q103; obtain rfl : ad101 = ad103 := zq17; (try simp only [show (3 : Int).toNat = 3 from rfl, Nat.reduceMul, Nat.reduceEqDiff, Go.Addr.add, ↓reduceIte] at hx103_0); have qi103 : (3 < l0.length) = True := eq_true (by omega); (try rw [show ((3 : Int)).toNat = 3 from rfl] at hx103_0); replace p103 := eq_true p103; replace q103 := eq_true q103) | (go_at_call 85; (with_reducible refine (jsonparser_h2I.calls k (rd l0 3) t104 _ A6.out).mono ?_); rintro e w' ⟨rfl, ⟨nd, rfl⟩⟩; (try first | exact ⟨rfl, _, World.drewN_drewN _ _ _⟩ | exact ⟨rfl, _, Eq.trans (World.drewN_drewN _ _ _) (congrArg (World.drewN _) (Nat.add_assoc _ _ _))⟩); have p105 : 0 ≤ (4 : Int) := (by omega); have q105 : 4 < (l0.length : Int) := of_decide_eq_true zq2; obtain ⟨ad105, e105, hx105_0⟩ := Kd.at_int HR0.out 4 p105 q105; obtain rfl : ad101 = ad105 := zq16; (try simp only [show (4 : Int).toNat = 4 from rfl, Nat.reduceMul, Nat.reduceEqDiff, Go.Addr.add, ↓reduceIte] at hx105_0); have qi105 : (4 < l0.length) = True := eq_true (by omega); (try rw [show ((4 : Int)).toNat = 4 from rfl] at hx105_0); replace p105 := eq_true p105; replace q105 := eq_true q105) | (go_at_call 85; (with_reducible refine (jsonparser_h2I.calls k (rd l0 4) t106 _ A8.out).mono ?_); rintro e w' ⟨rfl, ⟨nd, rfl⟩⟩; (try first | exact ⟨rfl, _, World.drewN_drewN _ _ _⟩ | exact ⟨rfl, _, Eq.trans (World.drewN_drewN _ _ _) (congrArg (World.drewN _) (Nat.add_assoc _ _ _))⟩); have p107 : 0 ≤ (5 : Int) := (by omega); have q107 : 5 < (l0.length : Int) := of_decide_eq_true zq2; obtain ⟨ad107, e107, hx107_0⟩ := Kd.at_int HR0.out 5 p107 q107; obtain rfl : ad101 = ad107 := zq18; (try simp only [show (5 : Int).toNat = 5 from rfl, Nat.reduceMul, Nat.reduceEqDiff, Go.Addr.add, ↓reduceIte] at hx107_0); have qi107 : (5 < l0.length) = True := eq_true (by omega); (try rw [show ((5 : Int)).toNat = 5 from rfl] at hx107_0); replace p107 := eq_true p107; replace q107 := eq_true q107) | (go_at_call 85; (with_reducible refine (jsonparser_h2I.calls k (rd l0 5) t108 _ A10.out).mono ?_); rintro e w' ⟨rfl, ⟨nd, rfl⟩⟩; (try first | exact ⟨rfl, _, World.drewN_drewN _ _ _⟩ | exact ⟨rfl, _, Eq.trans (World.drewN_drewN _ _ _) (congrArg (World.drewN _) (Nat.add_assoc _ _ _))⟩))); try go_wp2_with (first | (go_at_call 85; (with_reducible refine (jsonparser_h2I.calls k (rd l0 2) t102 _ A4.out).mono ?_); rintro e w' ⟨rfl, ⟨nd, rfl⟩⟩; (try first | exact ⟨rfl, _, World.drewN_drewN _ _ _⟩ | exact ⟨rfl, _, Eq.trans (World.drewN_drewN _ _ _) (congrArg (World.drewN _) (Nat.add_assoc _ _ _))⟩); have p103 : 0 ≤ (3 : Int) := (by omega); have q103 : 3 < (l0.length : Int) := of_decide_eq_true zq2; obtain ⟨ad103, e103, hx103_0⟩ := Kd.at_int HR0.out 3 p103 q103; obtain rfl : ad101 = ad103 := zq17; (try simp only [show (3 : Int).toNat = 3 from rfl, Nat.reduceMul, Nat.reduceEqDiff, Go.Addr.add, ↓reduceIte] at hx103_0); have qi103 : (3 < l0.length) = True := eq_true (by omega); (try rw [show ((3 : Int)).toNat = 3 from rfl] at hx103_0); replace p103 := eq_true p103; replace q103 := eq_true q103) | (go_at_call 85; (with_reducible refine (jsonparser_h2I.calls k (rd l0 3) t104 _ A6.out).mono ?_); rintro e w' ⟨rfl, ⟨nd, rfl⟩⟩; (try first | exact ⟨rfl, _, World.drewN_drewN _ _ _⟩ | exact ⟨rfl, _, Eq.trans (World.drewN_drewN _ _ _) (congrArg (World.drewN _) (Nat.add_assoc _ _ _))⟩); have p105 : 0 ≤ (4 : Int) := (by omega); have q105 : 4 < (l0.length : Int) := of_decide_eq_true zq2; obtain ⟨ad105, e105, hx105_0⟩ := Kd.at_int HR0.out 4 p105 q105; obtain rfl : ad101 = ad105 := zq16; (try simp only [show (4 : Int).toNat = 4 from rfl, Nat.reduceMul, Nat.reduceEqDiff, Go.Addr.add, ↓reduceIte] at hx105_0); have qi105 : (4 < l0.length) = True := eq_true (by omega); (try rw [show ((4 : Int)).toNat = 4 from rfl] at hx105_0); replace p105 := eq_true p105; replace q105 := eq_true q105) | (go_at_call 85; (with_reducible refine (jsonparser_h2I.calls k (rd l0 4) t106 _ A8.out).mono ?_); rintro e w' ⟨rfl, ⟨nd, rfl⟩⟩; (try first | exact ⟨rfl, _, World.drewN_drewN _ _ _⟩ | exact ⟨rfl, _, Eq.trans (World.drewN_drewN _ _ _) (congrArg (World.drewN _) (Nat.add_assoc _ _ _))⟩); have p107 : 0 ≤ (5 : Int) := (by omega); have q107 : 5 < (l0.length : Int) := of_decide_eq_true zq2; obtain ⟨ad107, e107, hx107_0⟩ := Kd.at_int HR0.out 5 p107 q107; obtain rfl : ad101 = ad107 := zq18; (try simp only [show (5 : Int).toNat = 5 from rfl, Nat.reduceMul, Nat.reduceEqDiff, Go.Addr.add, ↓reduceIte] at hx107_0); have qi107 : (5 < l0.length) = True := eq_true (by omega); (try rw [show ((5 : Int)).toNat = 5 from rfl] at hx107_0); replace p107 := eq_true p107; replace q107 := eq_true q107) | (go_at_call 85; (with_reducible refine (jsonparser_h2I.calls k (rd l0 5) t108 _ A10.out).mono ?_); rintro e w' ⟨rfl, ⟨nd, rfl⟩⟩; (try first | exact ⟨rfl, _, World.drewN_drewN _ _ _⟩ | exact ⟨rfl, _, Eq.trans (World.drewN_drewN _ _ _) (congrArg (World.drewN _) (Nat.add_assoc _ _ _))⟩))))
  go_ret2
  exact ⟨by first | rfl | (simp; done) | (simp [*]; done), by repeat (first | exact Drawn0.refl _ | apply Drawn0.step)⟩
 rw [if_neg c13] at H
 have c13b0 : (t106 == (-1)) = false := beq_eq_false_iff_ne.mpr c13
 have c13b1 : (t106 != (-1)) = true := bne_iff_ne.mpr c13
 by_cases c14 : t108 = (-1)
 rotate_left
 ·rw [if_neg c14] at H
  have c14b0 : (t108 == (-1)) = false := beq_eq_false_iff_ne.mpr c14
  have c14b1 : (t108 != (-1)) = true := bne_iff_ne.mpr c14
  simp only [Option.some.injEq, Prod.mk.injEq] at H
  obtain ⟨rfl, rfl⟩ := H
  have p101 : 0 ≤ (2 : Int) := (by omega)
  have q101 : 2 < (l0.length : Int) := of_decide_eq_true zq2
  obtain ⟨ad101, e101, hx101_0⟩ := Kd.at_int HR0.out 2 p101 q101
  cases e101
  (try simp only [show (2 : Int).toNat = 2 from rfl, Nat.reduceMul, Nat.reduceEqDiff, Go.Addr.add, ↓reduceIte] at hx101_0)
  have qi101 : (2 < l0.length) = True := eq_true (by omega)
  (try rw [show ((2 : Int)).toNat = 2 from rfl] at hx101_0)
  replace p101 := eq_true p101
  replace q101 := eq_true q101
  go_enter Tryd.func80, Tryd.ntmps80
  go_wp2_with (first | (go_at_call 85; (with_reducible refine (jsonparser_h2I.calls k (rd l0 2) t102 _ A4.out).mono ?_); rintro e w' ⟨rfl, ⟨nd, rfl⟩⟩; (try first | exact ⟨rfl, _, World.drewN_drewN _ _ _⟩ | exact ⟨rfl, _, Eq.trans (World.drewN_drewN _ _ _) (congrArg (World.drewN _) (Nat.add_assoc _ _ _))⟩); have p103 : 0 ≤ (3 : Int) := (by omega); have q103 : 3 < (l0.length : Int) := of_decide_eq_true zq2; obtain ⟨ad103, e103, hx103_0⟩ := Kd.at_int HR0.out 3 p103 q103; obtain rfl : ad101 = ad103 := zq17; (try simp only [show (3 : Int).toNat = 3 from rfl, Nat.reduceMul, Nat.reduceEqDiff, Go.Addr.add, ↓reduceIte] at hx103_0); have qi103 : (3 < l0.length) = True := eq_true (by omega); (try rw [show ((3 : Int)).toNat = 3 from rfl] at hx103_0); replace p103 := eq_true p103; replace q103 := eq_true q103) | (go_at_call 85; (with_reducible refine (jsonparser_h2I.calls k (rd l0 3) t104 _ A6.out).mono ?_); rintro e w' ⟨rfl, ⟨nd, rfl⟩⟩; (try first | exact ⟨rfl, _, World.drewN_drewN _ _ _⟩ | exact ⟨rfl, _, Eq.trans (World.drewN_drewN _ _ _) (congrArg (World.drewN _) (Nat.add_assoc _ _ _))⟩); have p105 : 0 ≤ (4 : Int) := (by omega); have q105 : 4 < (l0.length : Int) := of_decide_eq_true zq2; obtain ⟨ad105, e105, hx105_0⟩ := Kd.at_int HR0.out 4 p105 q105; obtain rfl : ad101 = ad105 := zq16; (try simp only [show (4 : Int).toNat = 4 from rfl, Nat.reduceMul, Nat.reduceEqDiff, Go.Addr.add, ↓reduceIte] at hx105_0); have qi105 : (4 < l0.length) = True := eq_true (by omega); (try rw [show ((4 : Int)).toNat = 4 from rfl] at hx105_0); replace p105 := eq_true p105; replace q105 := eq_true q105) | (go_at_call 85; (with_reducible refine (jsonparser_h2I.calls k (rd l0 4) t106 _ A8.out).mono ?_); rintro e w' ⟨rfl, ⟨nd, rfl⟩⟩; (try first | exact ⟨rfl, _, World.drewN_drewN _ _ _⟩ | exact ⟨rfl, _, Eq.trans (World.drewN_drewN _ _ _) (congrArg (World.drewN _) (Nat.add_assoc _ _ _))⟩); have p107 : 0 ≤ (5 : Int) := (by omega); have q107 : 5 < (l0.length : Int) := of_decide_eq_true zq2; obtain ⟨ad107, e107, hx107_0⟩ := Kd.at_int HR0.out 5 p107 q107; obtain rfl : ad101 = ad107 := zq18; (try simp only [show (5 : Int).toNat = 5 from rfl, Nat.reduceMul, Nat.reduceEqDiff, Go.Addr.add, ↓reduceIte] at hx107_0); have qi107 : (5 < l0.length) = True := eq_true (by omega); (try rw [show ((5 : Int)).toNat = 5 from rfl] at hx107_0); replace p107 := eq_true p107; replace q107 := eq_true q107) | (go_at_call 85; (with_reducible refine (jsonparser_h2I.calls k (rd l0 5) t108 _ A10.out).mono ?_); rintro e w' ⟨rfl, ⟨nd, rfl⟩⟩; (try first | exact ⟨rfl, _, World.drewN_drewN _ _ _⟩ | exact ⟨rfl, _, Eq.trans (World.drewN_drewN _ _ _) (congrArg (World.drewN _) (Nat.add_assoc _ _ _))⟩)))
  repeat (go_quiet (first | (go_at_call 85; (with_reducible refine (jsonparser_h2I.calls k (rd l0 2) t102 _ A4.out).mono ?_); rintro e w' ⟨rfl, ⟨nd, rfl⟩⟩; (try first | exact ⟨rfl, _, World.drewN_drewN _ _ _⟩ | exact ⟨rfl, _, Eq.trans (World.drewN_drewN _ _ _) (congrArg (World.drewN _) (Nat.add_assoc _ _ _))⟩); have p103 : 0 ≤ (3 : Int) := (by omega); have q103 : 3 < (l0.length : Int) := of_decide_eq_true zq2; obtain ⟨ad103, e103, hx103_0⟩ := Kd.at_int HR0.out 3 p103 q103; obtain rfl : ad101 = ad103 := zq17; (try simp only [show (3 : Int).toNat = 3 from rfl, Nat.reduceMul, Nat.reduceEqDiff, Go.Addr.add, ↓reduceIte] at hx103_0); have qi103 : (3 < l0.length) = True := eq_true (by omega); (try rw [show ((3 : Int)).toNat = 3 from rfl] at hx103_0); replace p103 := eq_true p103; replace q103 := eq_true q103) | (go_at_call 85; (with_reducible refine (jsonparser_h2I.calls k (rd l0 3) t104 _ A6.out).mono ?_); rintro e w' ⟨rfl, ⟨nd, rfl⟩⟩; (try first | exact ⟨rfl, _, World.drewN_drewN _ _ _⟩ | exact ⟨rfl, _, Eq.trans (World.drewN_drewN _ _ _) (congrArg (World.drewN _) (Nat.add_assoc _ _ _))⟩); have p105 : 0 ≤ (4 : Int) := (by omega); have q105 : 4 < (l0.length : Int) := of_decide_eq_true zq2; obtain ⟨ad105, e105, hx105_0⟩ := Kd.at_int HR0.out 4 p105 q105; obtain rfl : ad101 = ad105 := zq16; (try simp only [show (4 : Int).toNat = 4 from rfl, Nat.reduceMul, Nat.reduceEqDiff, Go.Addr.add, ↓reduceIte] at hx105_0); have qi105 : (4 < l0.length) = True := eq_true (by omega); (try rw [show ((4 : Int)).toNat = 4 from rfl] at hx105_0); replace p105 := eq_true p105; replace q105 := eq_true q105) | (go_at_call 85; (with_reducible refine (jsonparser_h2I.calls k (rd l0 4) t106 _ A8.out).mono ?_); rintro e w' ⟨rfl, ⟨nd, rfl⟩⟩; (try first | exact ⟨rfl, _, World.drewN_drewN _ _ _⟩ | exact ⟨rfl, _, Eq.trans (World.drewN_drewN _ _ _) (congrArg (World.drewN _) (Nat.add_assoc _ _ _))⟩); have p107 : 0 ≤ (5 : Int) := (by omega); have q107 : 5 < (l0.length : Int) := of_decide_eq_true zq2; obtain ⟨ad107, e107, hx107_0⟩ := Kd.at_int HR0.out 5 p107 q107; obtain rfl : ad101 = ad107 := zq18; (try simp only [show (5 : Int).toNat = 5 from rfl, Nat.reduceMul, Nat.reduceEqDiff, Go.Addr.add, ↓reduceIte] at hx107_0); have qi107 : (5 < l0.length) = True := eq_true (by omega); (try rw [show ((5 : Int)).toNat = 5 from rfl] at hx107_0); replace p107 := eq_true p107; replace q107 := eq_true q107) | (go_at_call 85; (with_reducible refine (jsonparser_h2I.calls k (rd l0 5) t108 _ A10.out).mono ?_); rintro e w' ⟨rfl, ⟨nd, rfl⟩⟩; (try first | exact ⟨rfl, _, World.drewN_drewN _ _ _⟩ | exact ⟨rfl, _, Eq.trans (World.drewN_drewN _ _ _) (congrArg (World.drewN _) (Nat.add_assoc _ _ _))⟩))); try go_wp2_with (first | (go_at_call 85; (with_reducible refine (jsonparser_h2I.calls k (rd l0 2) t102 _ A4.out).mono ?_); rintro e w' ⟨rfl, ⟨nd, rfl⟩⟩; (try first | exact ⟨rfl, _, World.drewN_drewN _ _ _⟩ | exact ⟨rfl, _, Eq.trans (World.drewN_drewN _ _ _) (congrArg (World.drewN _) (Nat.add_assoc _ _ _))⟩); have p103 : 0 ≤ (3 : Int) := (by omega); have q103 : 3 < (l0.length : Int) := of_decide_eq_true zq2; obtain ⟨ad103, e103, hx103_0⟩ := Kd.at_int HR0.out 3 p103 q103; obtain rfl : ad101 = ad103 := zq17; (try simp only [show (3 : Int).toNat = 3 from rfl, Nat.reduceMul, Nat.reduceEqDiff, Go.Addr.add, ↓reduceIte] at hx103_0); have qi103 : (3 < l0.length) = True := eq_true (by omega); (try rw [show ((3 : Int)).toNat = 3 from rfl] at hx103_0); replace p103 := eq_true p103; replace q103 := eq_true q103) | (go_at_call 85; (with_reducible refine (jsonparser_h2I.calls k (rd l0 3) t104 _ A6.out).mono ?_); rintro e w' ⟨rfl, ⟨nd, rfl⟩⟩; (try first | exact ⟨rfl, _, World.drewN_drewN _ _ _⟩ | exact ⟨rfl, _, Eq.trans (World.drewN_drewN _ _ _) (congrArg (World.drewN _) (Nat.add_assoc _ _ _))⟩); have p105 : 0 ≤ (4 : Int) := (by omega); have q105 : 4 < (l0.length : Int) := of_decide_eq_true zq2; obtain ⟨ad105, e105, hx105_0⟩ := Kd.at_int HR0.out 4 p105 q105; obtain rfl : ad101 = ad105 := zq16; (try simp only [show (4 : Int).toNat = 4 from rfl, Nat.reduceMul, Nat.reduceEqDiff, Go.Addr.add, ↓reduceIte] at hx105_0); have qi105 : (4 < l0.length) = True := eq_true (by omega); (try rw [show ((4 : Int)).toNat = 4 from rfl] at hx105_0); replace p105 := eq_true p105; replace q105 := eq_true q105) | (go_at_call 85; (with_reducible refine (jsonparser_h2I.calls k (rd l0 4) t106 _ A8.out).mono ?_); rintro e w' ⟨rfl, ⟨nd, rfl⟩⟩; (try first | exact ⟨rfl, _, World.drewN_drewN _ _ _⟩ | exact ⟨rfl, _, Eq.trans (World.drewN_drewN _ _ _) (congrArg (World.drewN _) (Nat.add_assoc _ _ _))⟩); have p107 : 0 ≤ (5 : Int) := (by omega); have q107 : 5 < (l0.length : Int) := of_decide_eq_true zq2; obtain ⟨ad107, e107, hx107_0⟩ := Kd.at_int HR0.out 5 p107 q107; obtain rfl : ad101 = ad107 := zq18; (try simp only [show (5 : Int).toNat = 5 from rfl, Nat.reduceMul, Nat.reduceEqDiff, Go.Addr.add, ↓reduceIte] at hx107_0); have qi107 : (5 < l0.length) = True := eq_true (by omega); (try rw [show ((5 : Int)).toNat = 5 from rfl] at hx107_0); replace p107 := eq_true p107; replace q107 := eq_true q107) | (go_at_call 85; (with_reducible refine (jsonparser_h2I.calls k (rd l0 5) t108 _ A10.out).mono ?_); rintro e w' ⟨rfl, ⟨nd, rfl⟩⟩; (try first | exact ⟨rfl, _, World.drewN_drewN _ _ _⟩ | exact ⟨rfl, _, Eq.trans (World.drewN_drewN _ _ _) (congrArg (World.drewN _) (Nat.add_assoc _ _ _))⟩))))
  go_ret2
  exact ⟨by first | rfl | (simp; done) | (simp [*]; done), by repeat (first | exact Drawn0.refl _ | apply Drawn0.step)⟩
 rw [if_pos c14] at H
 have c14b0 : (t108 == (-1)) = true := beq_iff_eq.mpr c14
 have c14b1 : (t108 != (-1)) = false := bne_eq_false_iff_eq.mpr c14
 clear c14
 simp only [Option.some.injEq, Prod.mk.injEq] at H
 obtain ⟨rfl, rfl⟩ := H
 have p101 : 0 ≤ (2 : Int) := (by omega)
 have q101 : 2 < (l0.length : Int) := of_decide_eq_true zq2
 obtain ⟨ad101, e101, hx101_0⟩ := Kd.at_int HR0.out 2 p101 q101
 cases e101
 (try simp only [show (2 : Int).toNat = 2 from rfl, Nat.reduceMul, Nat.reduceEqDiff, Go.Addr.add, ↓reduceIte] at hx101_0)
 have qi101 : (2 < l0.length) = True := eq_true (by omega)
 (try rw [show ((2 : Int)).toNat = 2 from rfl] at hx101_0)
 replace p101 := eq_true p101
 replace q101 := eq_true q101
 go_enter Tryd.func80, Tryd.ntmps80
 go_wp2_with (first | (go_at_call 85; (with_reducible refine (jsonparser_h2I.calls k (rd l0 2) t102 _ A4.out).mono ?_); rintro e w' ⟨rfl, ⟨nd, rfl⟩⟩; (try first | exact ⟨rfl, _, World.drewN_drewN _ _ _⟩ | exact ⟨rfl, _, Eq.trans (World.drewN_drewN _ _ _) (congrArg (World.drewN _) (Nat.add_assoc _ _ _))⟩); have p103 : 0 ≤ (3 : Int) := (by omega); have q103 : 3 < (l0.length : Int) := of_decide_eq_true zq2; obtain ⟨ad103, e103, hx103_0⟩ := Kd.at_int HR0.out 3 p103 q103; obtain rfl : ad101 = ad103 := zq17; (try simp only [show (3 : Int).toNat = 3 from rfl, Nat.reduceMul, Nat.reduceEqDiff, Go.Addr.add, ↓reduceIte] at hx103_0); have qi103 : (3 < l0.length) = True := eq_true (by omega); (try rw [show ((3 : Int)).toNat = 3 from rfl] at hx103_0); replace p103 := eq_true p103; replace q103 := eq_true q103) | (go_at_call 85; (with_reducible refine (jsonparser_h2I.calls k (rd l0 3) t104 _ A6.out).mono ?_); rintro e w' ⟨rfl, ⟨nd, rfl⟩⟩; (try first | exact ⟨rfl, _, World.drewN_drewN _ _ _⟩ | exact ⟨rfl, _, Eq.trans (World.drewN_drewN _ _ _) (congrArg (World.drewN _) (Nat.add_assoc _ _ _))⟩); have p105 : 0 ≤ (4 : Int) := (by omega); have q105 : 4 < (l0.length : Int) := of_decide_eq_true zq2; obtain ⟨ad105, e105, hx105_0⟩ := Kd.at_int HR0.out 4 p105 q105; obtain rfl : ad101 = ad105 := zq16; (try simp only [show (4 : Int).toNat = 4 from rfl, Nat.reduceMul, Nat.reduceEqDiff, Go.Addr.add, ↓reduceIte] at hx105_0); have qi105 : (4 < l0.length) = True := eq_true (by omega); (try rw [show ((4 : Int)).toNat = 4 from rfl] at hx105_0); replace p105 := eq_true p105; replace q105 := eq_true q105) | (go_at_call 85; (with_reducible refine (jsonparser_h2I.calls k (rd l0 4) t106 _ A8.out).mono ?_); rintro e w' ⟨rfl, ⟨nd, rfl⟩⟩; (try first | exact ⟨rfl, _, World.drewN_drewN _ _ _⟩ | exact ⟨rfl, _, Eq.trans (World.drewN_drewN _ _ _) (congrArg (World.drewN _) (Nat.add_assoc _ _ _))⟩); have p107 : 0 ≤ (5 : Int) := (by omega); have q107 : 5 < (l0.length : Int) := of_decide_eq_true zq2; obtain ⟨ad107, e107, hx107_0⟩ := Kd.at_int HR0.out 5 p107 q107; obtain rfl : ad101 = ad107 := zq18; (try simp only [show (5 : Int).toNat = 5 from rfl, Nat.reduceMul, Nat.reduceEqDiff, Go.Addr.add, ↓reduceIte] at hx107_0); have qi107 : (5 < l0.length) = True := eq_true (by omega); (try rw [show ((5 : Int)).toNat = 5 from rfl] at hx107_0); replace p107 := eq_true p107; replace q107 := eq_true q107) | (go_at_call 85; (with_reducible refine (jsonparser_h2I.calls k (rd l0 5) t108 _ A10.out).mono ?_); rintro e w' ⟨rfl, ⟨nd, rfl⟩⟩; (try first | exact ⟨rfl, _, World.drewN_drewN _ _ _⟩ | exact ⟨rfl, _, Eq.trans (World.drewN_drewN _ _ _) (congrArg (World.drewN _) (Nat.add_assoc _ _ _))⟩)))
 repeat (go_quiet (first | (go_at_call 85; (with_reducible refine (jsonparser_h2I.calls k (rd l0 2) t102 _ A4.out).mono ?_); rintro e w' ⟨rfl, ⟨nd, rfl⟩⟩; (try first | exact ⟨rfl, _, World.drewN_drewN _ _ _⟩ | exact ⟨rfl, _, Eq.trans (World.drewN_drewN _ _ _) (congrArg (World.drewN _) (Nat.add_assoc _ _ _))⟩); have p103 : 0 ≤ (3 : Int) := (by omega); have q103 : 3 < (l0.length : Int) := of_decide_eq_true zq2; obtain ⟨ad103, e103, hx103_0⟩ := Kd.at_int HR0.out 3 p103 q103; obtain rfl : ad101 = ad103 := zq17; (try simp only [show (3 : Int).toNat = 3 from rfl, Nat.reduceMul, Nat.reduceEqDiff, Go.Addr.add, ↓reduceIte] at hx103_0); have qi103 : (3 < l0.length) = True := eq_true (by omega); (try rw [show ((3 : Int)).toNat = 3 from rfl] at hx103_0); replace p103 := eq_true p103; replace q103 := eq_true q103) | (go_at_call 85; (with_reducible refine (jsonparser_h2I.calls k (rd l0 3) t104 _ A6.out).mono ?_); rintro e w' ⟨rfl, ⟨nd, rfl⟩⟩; (try first | exact ⟨rfl, _, World.drewN_drewN _ _ _⟩ | exact ⟨rfl, _, Eq.trans (World.drewN_drewN _ _ _) (congrArg (World.drewN _) (Nat.add_assoc _ _ _))⟩); have p105 : 0 ≤ (4 : Int) := (by omega); have q105 : 4 < (l0.length : Int) := of_decide_eq_true zq2; obtain ⟨ad105, e105, hx105_0⟩ := Kd.at_int HR0.out 4 p105 q105; obtain rfl : ad101 = ad105 := zq16; (try simp only [show (4 : Int).toNat = 4 from rfl, Nat.reduceMul, Nat.reduceEqDiff, Go.Addr.add, ↓reduceIte] at hx105_0); have qi105 : (4 < l0.length) = True := eq_true (by omega); (try rw [show ((4 : Int)).toNat = 4 from rfl] at hx105_0); replace p105 := eq_true p105; replace q105 := eq_true q105) | (go_at_call 85; (with_reducible refine (jsonparser_h2I.calls k (rd l0 4) t106 _ A8.out).mono ?_); rintro e w' ⟨rfl, ⟨nd, rfl⟩⟩; (try first | exact ⟨rfl, _, World.drewN_drewN _ _ _⟩ | exact ⟨rfl, _, Eq.trans (World.drewN_drewN _ _ _) (congrArg (World.drewN _) (Nat.add_assoc _ _ _))⟩); have p107 : 0 ≤ (5 : Int) := (by omega); have q107 : 5 < (l0.length : Int) := of_decide_eq_true zq2; obtain ⟨ad107, e107, hx107_0⟩ := Kd.at_int HR0.out 5 p107 q107; obtain rfl : ad101 = ad107 := zq18; (try simp only [show (5 : Int).toNat = 5 from rfl, Nat.reduceMul, Nat.reduceEqDiff, Go.Addr.add, ↓reduceIte] at hx107_0); have qi107 : (5 < l0.length) = True := eq_true (by omega); (try rw [show ((5 : Int)).toNat = 5 from rfl] at hx107_0); replace p107 := eq_true p107; replace q107 := eq_true q107) | (go_at_call 85; (with_reducible refine (jsonparser_h2I.calls k (rd l0 5) t108 _ A10.out).mono ?_); rintro e w' ⟨rfl, ⟨nd, rfl⟩⟩; (try first | exact ⟨rfl, _, World.drewN_drewN _ _ _⟩ | exact ⟨rfl, _, Eq.trans (World.drewN_drewN _ _ _) (congrArg (World.drewN _) (Nat.add_assoc _ _ _))⟩))); try go_wp2_with (first | (go_at_call 85; (with_reducible refine (jsonparser_h2I.calls k (rd l0 2) t102 _ A4.out).mono ?_); rintro e w' ⟨rfl, ⟨nd, rfl⟩⟩; (try first | exact ⟨rfl, _, World.drewN_drewN _ _ _⟩ | exact ⟨rfl, _, Eq.trans (World.drewN_drewN _ _ _) (congrArg (World.drewN _) (Nat.add_assoc _ _ _))⟩); have p103 : 0 ≤ (3 : Int) := (by omega); have q103 : 3 < (l0.length : Int) := of_decide_eq_true zq2; obtain ⟨ad103, e103, hx103_0⟩ := Kd.at_int HR0.out 3 p103 q103; obtain rfl : ad101 = ad103 := zq17; (try simp only [show (3 : Int).toNat = 3 from rfl, Nat.reduceMul, Nat.reduceEqDiff, Go.Addr.add, ↓reduceIte] at hx103_0); have qi103 : (3 < l0.length) = True := eq_true (by omega); (try rw [show ((3 : Int)).toNat = 3 from rfl] at hx103_0); replace p103 := eq_true p103; replace q103 := eq_true q103) | (go_at_call 85; (with_reducible refine (jsonparser_h2I.calls k (rd l0 3) t104 _ A6.out).mono ?_); rintro e w' ⟨rfl, ⟨nd, rfl⟩⟩; (try first | exact ⟨rfl, _, World.drewN_drewN _ _ _⟩ | exact ⟨rfl, _, Eq.trans (World.drewN_drewN _ _ _) (congrArg (World.drewN _) (Nat.add_assoc _ _ _))⟩); have p105 : 0 ≤ (4 : Int) := (by omega); have q105 : 4 < (l0.length : Int) := of_decide_eq_true zq2; obtain ⟨ad105, e105, hx105_0⟩ := Kd.at_int HR0.out 4 p105 q105; obtain rfl : ad101 = ad105 := zq16; (try simp only [show (4 : Int).toNat = 4 from rfl, Nat.reduceMul, Nat.reduceEqDiff, Go.Addr.add, ↓reduceIte] at hx105_0); have qi105 : (4 < l0.length) = True := eq_true (by omega); (try rw [show ((4 : Int)).toNat = 4 from rfl] at hx105_0); replace p105 := eq_true p105; replace q105 := eq_true q105) | (go_at_call 85; (with_reducible refine (jsonparser_h2I.calls k (rd l0 4) t106 _ A8.out).mono ?_); rintro e w' ⟨rfl, ⟨nd, rfl⟩⟩; (try first | exact ⟨rfl, _, World.drewN_drewN _ _ _⟩ | exact ⟨rfl, _, Eq.trans (World.drewN_drewN _ _ _) (congrArg (World.drewN _) (Nat.add_assoc _ _ _))⟩); have p107 : 0 ≤ (5 : Int) := (by omega); have q107 : 5 < (l0.length : Int) := of_decide_eq_true zq2; obtain ⟨ad107, e107, hx107_0⟩ := Kd.at_int HR0.out 5 p107 q107; obtain rfl : ad101 = ad107 := zq18; (try simp only [show (5 : Int).toNat = 5 from rfl, Nat.reduceMul, Nat.reduceEqDiff, Go.Addr.add, ↓reduceIte] at hx107_0); have qi107 : (5 < l0.length) = True := eq_true (by omega); (try rw [show ((5 : Int)).toNat = 5 from rfl] at hx107_0); replace p107 := eq_true p107; replace q107 := eq_true q107) | (go_at_call 85; (with_reducible refine (jsonparser_h2I.calls k (rd l0 5) t108 _ A10.out).mono ?_); rintro e w' ⟨rfl, ⟨nd, rfl⟩⟩; (try first | exact ⟨rfl, _, World.drewN_drewN _ _ _⟩ | exact ⟨rfl, _, Eq.trans (World.drewN_drewN _ _ _) (congrArg (World.drewN _) (Nat.add_assoc _ _ _))⟩))))
 go_ret2
 exact ⟨by first | rfl | (simp; done) | (simp [*]; done), by repeat (first | exact Drawn0.refl _ | apply Drawn0.step)⟩
def jsonparser_isUTF16EncodedRune.f (a0 : Int) : Option (Bool) := if 55296 ≤ a0 then (some (decide (a0 ≤ 57343))) else (some false)
set_option maxHeartbeats 8000000 in
set_option maxRecDepth 100000 in
theorem jsonparser_isUTF16EncodedRune.calls (a0 : Int) (r : Bool) (w : World) (h : jsonparser_isUTF16EncodedRune.f a0 = some r) :
 Calls Tryd.prog 81 #[.int .i32 a0] w fun e w' => e = .returned (.bool r) ∧ Drawn0 w w' := by
 have H : (if 55296 ≤ a0 then (some (decide (a0 ≤ 57343))) else (some false)) = some r := h
 clear h
 by_cases c2 : 55296 ≤ a0
 ·rw [if_pos c2] at H
  have c2b0 : decide (55296 ≤ a0) = true := decide_eq_true c2
  clear c2
  obtain rfl := Option.some.inj H
  go_enter Tryd.func81, Tryd.ntmps81
  go_wp2
  go_ret
  exact ⟨by first | rfl | (simp; done) | (simp [*]; done), by repeat (first | exact Drawn0.refl _ | apply Drawn0.step)⟩
 rw [if_neg c2] at H
 have c2b0 : decide (55296 ≤ a0) = false := decide_eq_false c2
 clear c2
 obtain rfl := Option.some.inj H
 go_enter Tryd.func81, Tryd.ntmps81
 go_wp2
 go_ret
 exact ⟨by first | rfl | (simp; done) | (simp [*]; done), by repeat (first | exact Drawn0.refl _ | apply Drawn0.step)⟩
def jsonparser_combineUTF16Surrogates.f (a0 : Int) (a1 : Int) : Option (Int) := some (wrap32 ((wrap32 (65536 + (wrap32 ((wrap32 (a0 - 55296)) * 1024)))) + (wrap32 (a1 - 56320))))
set_option maxHeartbeats 8000000 in
set_option maxRecDepth 100000 in
theorem jsonparser_combineUTF16Surrogates.calls (a0 : Int) (a1 : Int) (r : Int) (w : World) (h : jsonparser_combineUTF16Surrogates.f a0 a1 = some r) :
 Calls Tryd.prog 82 #[.int .i32 a0, .int .i32 a1] w fun e w' => e = .returned (.int .i32 r) ∧ Drawn0 w w' := by
 have H : (some (wrap32 ((wrap32 (65536 + (wrap32 ((wrap32 (a0 - 55296)) * 1024)))) + (wrap32 (a1 - 56320))))) = some r := h
 clear h
 obtain rfl := Option.some.inj H
 go_enter Tryd.func82, Tryd.ntmps82
 go_wp2
 go_ret
 exact ⟨by first | rfl | (simp; done) | (simp [*]; done), by repeat (first | exact Drawn0.refl _ | apply Drawn0.step)⟩
def jsonparser_decodeUnicodeEscape.j0 : Nat → List Int → Int → Bool → Option (Int × Int)
  | 0, _, _, _ => none
  | k + 1, x0, x4, x35 => if x35 = true then (some (65533, 6)) else (if 6 ≤ (x0.length : Int) then ((jsonparser_decodeSingleUnicodeEscape.f k (x0.drop 6)).bind fun bt107 => (if bt107.2 = true then (if bt107.1 < 56320 then (some (65533, 6)) else (if bt107.1 > 57343 then (some (65533, 6)) else ((jsonparser_combineUTF16Surrogates.f x4 bt107.1).bind fun t109 => (some (t109, 12))))) else (some (65533, (-1))))) else (none))
def jsonparser_decodeUnicodeEscape.f (k : Nat) (l0 : List Int) : Option (Int × Int) := (jsonparser_decodeSingleUnicodeEscape.f k l0).bind fun bt101 => (if bt101.2 = true then ((jsonparser_isUTF16EncodedRune.f bt101.1).bind fun t103 => (if t103 = true then (if bt101.1 ≥ 56320 then (some (65533, 6)) else (if (l0.length : Int) < 8 then (jsonparser_decodeUnicodeEscape.j0 k l0 bt101.1 true) else (if 6 < (l0.length : Int) then (if (rd l0 6) = 92 then (if 7 < (l0.length : Int) then (jsonparser_decodeUnicodeEscape.j0 k l0 bt101.1 ((rd l0 7) != 117)) else (none)) else (jsonparser_decodeUnicodeEscape.j0 k l0 bt101.1 true)) else (none)))) else (some (bt101.1, 6)))) else (some (65533, (-1))))
theorem jsonparser_decodeUnicodeEscape.mono_l : ∀ k, (∀ y0 y1 y2, LeO (jsonparser_decodeUnicodeEscape.j0 k y0 y1 y2) (jsonparser_decodeUnicodeEscape.j0 (k + 1) y0 y1 y2))
 | 0 => fun _ _ _ r h => by simp [jsonparser_decodeUnicodeEscape.j0] at h
 | k + 1 => by
  have ih0 := jsonparser_decodeUnicodeEscape.mono_l k
  ·intro y0 y1 y2
   unfold jsonparser_decodeUnicodeEscape.j0
   repeat' first
   | (with_reducible exact ih0 _ _ _)
   | (with_reducible exact jsonparser_decodeSingleUnicodeEscape.mono _ _)
   | (with_reducible exact LeO.refl _)
   | (with_reducible exact LeO.none _)
   | (with_reducible refine LeO.ite ?_ ?_)
   | (with_reducible refine LeO.bind ?_ (fun _ => ?_))
   | exact ih0 _ _ _
   | exact jsonparser_decodeSingleUnicodeEscape.mono _ _
   | exact LeO.none _
   | refine LeO.ite ?_ ?_
   | refine LeO.bind ?_ (fun _ => ?_)
theorem jsonparser_decodeUnicodeEscape.mono : ∀ a0 k, LeO (jsonparser_decodeUnicodeEscape.f k a0) (jsonparser_decodeUnicodeEscape.f (k + 1) a0) := by
 intro a0 k
 have ih0 := jsonparser_decodeUnicodeEscape.mono_l k
 unfold jsonparser_decodeUnicodeEscape.f
 repeat' first
  | (with_reducible exact ih0 _ _ _)
  | (with_reducible exact jsonparser_decodeSingleUnicodeEscape.mono _ _)
  | (with_reducible exact LeO.refl _)
  | (with_reducible exact LeO.none _)
  | (with_reducible refine LeO.ite ?_ ?_)
  | (with_reducible refine LeO.bind ?_ (fun _ => ?_))
  | exact ih0 _ _ _
  | exact jsonparser_decodeSingleUnicodeEscape.mono _ _
  | exact LeO.none _
  | refine LeO.ite ?_ ?_
  | refine LeO.bind ?_ (fun _ => ?_)
set_option maxHeartbeats 8000000 in
set_option maxRecDepth 100000 in
theorem jsonparser_decodeUnicodeEscape.calls (k : Nat) (A0 : Option Addr) (c0 : Nat) (l0 : List Int) (r1 : Int) (r2 : Int) (w : World) (hr0 : Kd.C (Kd.int .u8) w A0 l0.length l0) (hc0 : l0.length ≤ c0) (h : jsonparser_decodeUnicodeEscape.f k l0 = some (r1, r2)) :
 Calls Tryd.prog 78 #[.slice A0 l0.length c0] w fun e w' => e = .returned (.tuple #[.int .i32 r1, .int .i64 r2]) ∧ Drawn0 w w' := by
 have HR0 := mk0 hr0
 have HC0 := mk0 hc0
 clear hr0 hc0
 have H : ((jsonparser_decodeSingleUnicodeEscape.f k l0).bind fun bt101 => (if bt101.2 = true then ((jsonparser_isUTF16EncodedRune.f bt101.1).bind fun t103 => (if t103 = true then (if bt101.1 ≥ 56320 then (some (65533, 6)) else (if (l0.length : Int) < 8 then (jsonparser_decodeUnicodeEscape.j0 k l0 bt101.1 true) else (if 6 < (l0.length : Int) then (if (rd l0 6) = 92 then (if 7 < (l0.length : Int) then (jsonparser_decodeUnicodeEscape.j0 k l0 bt101.1 ((rd l0 7) != 117)) else (none)) else (jsonparser_decodeUnicodeEscape.j0 k l0 bt101.1 true)) else (none)))) else (some (bt101.1, 6)))) else (some (65533, (-1))))) = some (r1, r2) := h
 clear h
 replace H := Option.bind_eq_some_iff.mp H
 obtain ⟨⟨t101, t102⟩, A20, H⟩ := H
 replace H : (if t102 = true then ((jsonparser_isUTF16EncodedRune.f t101).bind fun t103 => (if t103 = true then (if t101 ≥ 56320 then (some (65533, 6)) else (if (l0.length : Int) < 8 then (jsonparser_decodeUnicodeEscape.j0 k l0 t101 true) else (if 6 < (l0.length : Int) then (if (rd l0 6) = 92 then (if 7 < (l0.length : Int) then (jsonparser_decodeUnicodeEscape.j0 k l0 t101 ((rd l0 7) != 117)) else (none)) else (jsonparser_decodeUnicodeEscape.j0 k l0 t101 true)) else (none)))) else (some (t101, 6)))) else (some (65533, (-1)))) = some (r1, r2) := H
 have A2 := mk0 A20
 clear A20
 by_cases c3 : t102 = true
 rotate_left
 ·replace c3 := Bool.eq_false_iff.mpr c3
  subst c3
  have H1 : (some (65533, (-1))) = some (r1, r2) := by rw [if_neg (show ¬ (false = true) by decide)] at H; exact H
  clear H
  have H := H1
  clear H1
  simp only [Option.some.injEq, Prod.mk.injEq] at H
  obtain ⟨rfl, rfl⟩ := H
  go_enter Tryd.func78, Tryd.ntmps78
  go_wp2_with (first | ((with_reducible refine gate_callee (f := 80) rfl ?_); refine goesL_ (some 10) rfl rfl Tryd.func80 zq14 rfl #[.slice A0 l0.length c0] rfl zq1 ?_; (with_reducible refine (jsonparser_decodeSingleUnicodeEscape.calls k _ _ l0 t101 false _ ?side1 ?side2 A2.out).mono ?_); (case side1 => exact zq11); (case side2 => exact HC0.out); rintro e w' ⟨rfl, ⟨nd, rfl⟩⟩; refine ⟨_, rfl, ?_⟩))
  go_ret2
  exact ⟨by first | rfl | (simp; done) | (simp [*]; done), by repeat (first | exact Drawn0.refl _ | apply Drawn0.step)⟩
 subst c3
 have H1 : ((jsonparser_isUTF16EncodedRune.f t101).bind fun t103 => (if t103 = true then (if t101 ≥ 56320 then (some (65533, 6)) else (if (l0.length : Int) < 8 then (jsonparser_decodeUnicodeEscape.j0 k l0 t101 true) else (if 6 < (l0.length : Int) then (if (rd l0 6) = 92 then (if 7 < (l0.length : Int) then (jsonparser_decodeUnicodeEscape.j0 k l0 t101 ((rd l0 7) != 117)) else (none)) else (jsonparser_decodeUnicodeEscape.j0 k l0 t101 true)) else (none)))) else (some (t101, 6)))) = some (r1, r2) := by rw [if_pos rfl] at H; exact H
 clear H
 have H := H1
 clear H1
 replace H := Option.bind_eq_some_iff.mp H
 obtain ⟨t103, A40, H⟩ := H
 replace H : (if t103 = true then (if t101 ≥ 56320 then (some (65533, 6)) else (if (l0.length : Int) < 8 then (jsonparser_decodeUnicodeEscape.j0 k l0 t101 true) else (if 6 < (l0.length : Int) then (if (rd l0 6) = 92 then (if 7 < (l0.length : Int) then (jsonparser_decodeUnicodeEscape.j0 k l0 t101 ((rd l0 7) != 117)) else (none)) else (jsonparser_decodeUnicodeEscape.j0 k l0 t101 true)) else (none)))) else (some (t101, 6))) = some (r1, r2) := H
 have A4 := mk0 A40
 clear A40
 by_cases c5 : t103 = true
 rotate_left
 ·replace c5 := Bool.eq_false_iff.mpr c5
  subst c5
  have H1 : (some (t101, 6)) = some (r1, r2) := by rw [if_neg (show ¬ (false = true) by decide)] at H; exact H
  clear H
  have H := H1
  clear H1
  simp only [Option.some.injEq, Prod.mk.injEq] at H
  obtain ⟨rfl, rfl⟩ := H
  go_enter Tryd.func78, Tryd.ntmps78
  go_wp2_with (first | ((with_reducible refine gate_callee (f := 80) rfl ?_); refine goesL_ (some 10) rfl rfl Tryd.func80 zq14 rfl #[.slice A0 l0.length c0] rfl zq1 ?_; (with_reducible refine (jsonparser_decodeSingleUnicodeEscape.calls k _ _ l0 t101 true _ ?side1 ?side2 A2.out).mono ?_); (case side1 => exact zq11); (case side2 => exact HC0.out); rintro e w' ⟨rfl, ⟨nd, rfl⟩⟩; refine ⟨_, rfl, ?_⟩) | ((with_reducible refine gate_callee (f := 81) rfl ?_); refine goesL_ (some 16) rfl rfl Tryd.func81 zq14 rfl #[.int .i32 t101] rfl zq1 ?_; (with_reducible refine (jsonparser_isUTF16EncodedRune.calls t101 false _ A4.out).mono ?_); rintro e w' ⟨rfl, ⟨nd, rfl⟩⟩; refine ⟨_, rfl, ?_⟩))
  go_ret2
  exact ⟨by first | rfl | (simp; done) | (simp [*]; done), by repeat (first | exact Drawn0.refl _ | apply Drawn0.step)⟩
 subst c5
 have H1 : (if t101 ≥ 56320 then (some (65533, 6)) else (if (l0.length : Int) < 8 then (jsonparser_decodeUnicodeEscape.j0 k l0 t101 true) else (if 6 < (l0.length : Int) then (if (rd l0 6) = 92 then (if 7 < (l0.length : Int) then (jsonparser_decodeUnicodeEscape.j0 k l0 t101 ((rd l0 7) != 117)) else (none)) else (jsonparser_decodeUnicodeEscape.j0 k l0 t101 true)) else (none)))) = some (r1, r2) := by rw [if_pos rfl] at H; exact H
 clear H
 have H := H1
 clear H1
 by_cases c6 : t101 ≥ 56320
 ·rw [if_pos c6] at H
  have c6b0 : decide (56320 ≤ t101) = true := decide_eq_true c6
  clear c6
  simp only [Option.some.injEq, Prod.mk.injEq] at H
  obtain ⟨rfl, rfl⟩ := H
  go_enter Tryd.func78, Tryd.ntmps78
  go_wp2_with (first | ((with_reducible refine gate_callee (f := 80) rfl ?_); refine goesL_ (some 10) rfl rfl Tryd.func80 zq14 rfl #[.slice A0 l0.length c0] rfl zq1 ?_; (with_reducible refine (jsonparser_decodeSingleUnicodeEscape.calls k _ _ l0 t101 true _ ?side1 ?side2 A2.out).mono ?_); (case side1 => exact zq11); (case side2 => exact HC0.out); rintro e w' ⟨rfl, ⟨nd, rfl⟩⟩; refine ⟨_, rfl, ?_⟩) | ((with_reducible refine gate_callee (f := 81) rfl ?_); refine goesL_ (some 16) rfl rfl Tryd.func81 zq14 rfl #[.int .i32 t101] rfl zq1 ?_; (with_reducible refine (jsonparser_isUTF16EncodedRune.calls t101 true _ A4.out).mono ?_); rintro e w' ⟨rfl, ⟨nd, rfl⟩⟩; refine ⟨_, rfl, ?_⟩))
  go_ret2
  exact ⟨by first | rfl | (simp; done) | (simp [*]; done), by repeat (first | exact Drawn0.refl _ | apply Drawn0.step)⟩
 rw [if_neg c6] at H
 have c6b0 : decide (56320 ≤ t101) = false := decide_eq_false c6
 clear c6
 have HC7 := mk0 H
 clear H
 go_enter Tryd.func78, Tryd.ntmps78
 go_upto_region 8 with (first | ((with_reducible refine gate_callee (f := 80) rfl ?_); refine goesL_ (some 10) rfl rfl Tryd.func80 zq14 rfl #[.slice A0 l0.length c0] rfl zq1 ?_; (with_reducible refine (jsonparser_decodeSingleUnicodeEscape.calls k _ _ l0 t101 true _ ?side1 ?side2 A2.out).mono ?_); (case side1 => exact zq11); (case side2 => exact HC0.out); rintro e w' ⟨rfl, ⟨nd, rfl⟩⟩; refine ⟨_, rfl, ?_⟩) | ((with_reducible refine gate_callee (f := 81) rfl ?_); refine goesL_ (some 16) rfl rfl Tryd.func81 zq14 rfl #[.int .i32 t101] rfl zq1 ?_; (with_reducible refine (jsonparser_isUTF16EncodedRune.calls t101 true _ A4.out).mono ?_); rintro e w' ⟨rfl, ⟨nd, rfl⟩⟩; refine ⟨_, rfl, ?_⟩))
 (try simp only [Act.put, List.setIfInBounds_toArray, List.set_cons_zero, List.set_cons_succ])
 go_cut [35] (fun v35 wc => ∃ (kq : Nat) (x35_6 : Bool), v35 = .bool x35_6 ∧ Aside0 (jsonparser_decodeUnicodeEscape.j0 kq l0 t101 x35_6 = some (r1, r2)) ∧ Aside0 (kq ≤ k) ∧ Drawn0 w wc)
 case first =>
  have H := HC7.out
  clear HC7
  by_cases c8 : (l0.length : Int) < 8
  ·rw [if_pos c8] at H
   have c8b0 : decide ((l0.length : Int) < 8) = true := decide_eq_true c8
   have c8b1 : decide (l0.length < 8) = true := decide_eq_true (by omega)
   clear c8
   (first | rw [c8b0] | (simp only [i64_w, i32_w]; rw [c8b0]) | rw [c8b1] | rw [if_pos (of_decide_eq_true c8b1)] | skip)
   have H' := mk0 H
   clear H
   go_wp2
   go_meet
   case rel => exact ⟨_, (true), zq4, H', ⟨by first | omega | exact Nat.le_refl _⟩, by repeat (first | exact Drawn0.refl _ | apply Drawn0.step)⟩
  rw [if_neg c8] at H
  have c8b0 : decide ((l0.length : Int) < 8) = false := decide_eq_false c8
  have c8b1 : decide (l0.length < 8) = false := decide_eq_false (by omega)
  clear c8
  (first | rw [c8b0] | (simp only [i64_w, i32_w]; rw [c8b0]) | rw [c8b1] | rw [if_neg (of_decide_eq_false c8b1)] | skip)
  by_cases c9 : 6 < (l0.length : Int)
  rotate_left
  ·rw [if_neg c9] at H
   exact absurd H (by simp)
  rw [if_pos c9] at H
  have c9b0 : decide (6 < (l0.length : Int)) = true := decide_eq_true c9
  have c9b1 : decide (6 < l0.length) = true := decide_eq_true (by omega)
  clear c9
  by_cases c10 : (rd l0 6) = 92
  rotate_left
  ·rw [if_neg c10] at H
   have c10b0 : ((rd l0 6) == 92) = false := beq_eq_false_iff_ne.mpr c10
   have c10b1 : ((rd l0 6) != 92) = true := bne_iff_ne.mpr c10
   have H' := mk0 H
   clear H
   have p104 : 0 ≤ (6 : Int) := (by omega)
   have q104 : 6 < (l0.length : Int) := of_decide_eq_true zq2
   obtain ⟨ad104, e104, hx104_0⟩ := Kd.at_int HR0.out 6 p104 q104
   cases e104
   (try simp only [show (6 : Int).toNat = 6 from rfl, Nat.reduceMul, Nat.reduceEqDiff, Go.Addr.add, ↓reduceIte] at hx104_0)
   have qi104 : (6 < l0.length) = True := eq_true (by omega)
   (try rw [show ((6 : Int)).toNat = 6 from rfl] at hx104_0)
   replace p104 := eq_true p104
   replace q104 := eq_true q104
   go_wp2
   go_meet
   case rel => exact ⟨_, (true), zq4, H', ⟨by first | omega | exact Nat.le_refl _⟩, by repeat (first | exact Drawn0.refl _ | apply Drawn0.step)⟩
  rw [if_pos c10] at H
  have c10b0 : ((rd l0 6) == 92) = true := beq_iff_eq.mpr c10
  have c10b1 : ((rd l0 6) != 92) = false := bne_eq_false_iff_eq.mpr c10
  clear c10
  by_cases c11 : 7 < (l0.length : Int)
  rotate_left
  ·rw [if_neg c11] at H
   exact absurd H (by simp)
  rw [if_pos c11] at H
  have c11b0 : decide (7 < (l0.length : Int)) = true := decide_eq_true c11
  have c11b1 : decide (7 < l0.length) = true := decide_eq_true (by omega)
  clear c11
  have H' := mk0 H
  clear H
  have p104 : 0 ≤ (6 : Int) := (by omega)
  have q104 : 6 < (l0.length : Int) := of_decide_eq_true zq2
  obtain ⟨ad104, e104, hx104_0⟩ := Kd.at_int HR0.out 6 p104 q104
  cases e104
  (try simp only [show (6 : Int).toNat = 6 from rfl, Nat.reduceMul, Nat.reduceEqDiff, Go.Addr.add, ↓reduceIte] at hx104_0)
  have qi104 : (6 < l0.length) = True := eq_true (by omega)
  (try rw [show ((6 : Int)).toNat = 6 from rfl] at hx104_0)
  replace p104 := eq_true p104
  replace q104 := eq_true q104
  have p105 : 0 ≤ (7 : Int) := (by omega)
  have q105 : 7 < (l0.length : Int) := of_decide_eq_true zq2
  obtain ⟨ad105, e105, hx105_0⟩ := Kd.at_int HR0.out 7 p105 q105
  obtain rfl : ad104 = ad105 := zq16
  (try simp only [show (7 : Int).toNat = 7 from rfl, Nat.reduceMul, Nat.reduceEqDiff, Go.Addr.add, ↓reduceIte] at hx105_0)
  have qi105 : (7 < l0.length) = True := eq_true (by omega)
  (try rw [show ((7 : Int)).toNat = 7 from rfl] at hx105_0)
  replace p105 := eq_true p105
  replace q105 := eq_true q105
  go_wp2
  go_meet
  case rel => exact ⟨_, (((rd l0 7) != 117)), zq4, H', ⟨by first | omega | exact Nat.le_refl _⟩, by repeat (first | exact Drawn0.refl _ | apply Drawn0.step)⟩
 case rest =>
  clear HC7
  try clear c1
  try clear p1
  try clear q1
  try clear hx1
  try clear qi1
  try clear p2
  try clear c3
  try clear c5
  try clear c6
  try clear c6b0
  try clear c7
  try clear c8
  try clear c8b0
  try clear c8b1
  try clear c9
  try clear c9b0
  try clear c9b1
  try clear c10
  try clear c10b0
  try clear c10b1
  try clear p10
  try clear q10
  try clear hx10
  try clear qi10
  try clear c11
  try clear c11b0
  try clear c11b1
  try clear hx104_0
  try clear hx105_0
  try clear p104
  try clear p105
  try clear q104
  try clear q105
  obtain ⟨kq, x35_6, rfl, HA, HJ6, ⟨mc6, rfl⟩⟩ := hcut
  cases kq with
  | zero => exact absurd HA.out (by simp [jsonparser_decodeUnicodeEscape.j0])
  | succ kj6 =>
   have H := HA.out
   clear HA
   simp only [jsonparser_decodeUnicodeEscape.j0] at H
   by_cases c12 : x35_6 = true
   ·subst c12
    have H1 : (some (65533, 6)) = some (r1, r2) := by rw [if_pos rfl] at H; exact H
    clear H
    have H := H1
    clear H1
    simp only [Option.some.injEq, Prod.mk.injEq] at H
    obtain ⟨rfl, rfl⟩ := H
    go_wp2
    go_ret2
    exact ⟨by first | rfl | (simp; done) | (simp [*]; done), by repeat (first | exact Drawn0.refl _ | apply Drawn0.step)⟩
   replace c12 := Bool.eq_false_iff.mpr c12
   subst c12
   have H1 : (if 6 ≤ (l0.length : Int) then ((jsonparser_decodeSingleUnicodeEscape.f kj6 (l0.drop 6)).bind fun bt107 => (if bt107.2 = true then (if bt107.1 < 56320 then (some (65533, 6)) else (if bt107.1 > 57343 then (some (65533, 6)) else ((jsonparser_combineUTF16Surrogates.f t101 bt107.1).bind fun t109 => (some (t109, 12))))) else (some (65533, (-1))))) else (none)) = some (r1, r2) := by rw [if_neg (show ¬ (false = true) by decide)] at H; exact H
   clear H
   have H := H1
   clear H1
   by_cases c13 : 6 ≤ (l0.length : Int)
   rotate_left
   ·rw [if_neg c13] at H
    exact absurd H (by simp)
   rw [if_pos c13] at H
   have c13b0 := eq_true c13
   have c13b1 : decide (6 ≤ (l0.length : Int)) = true := decide_eq_true c13
   clear c13
   replace H := Option.bind_eq_some_iff.mp H
   obtain ⟨⟨t107, t108⟩, A140, H⟩ := H
   replace H : (if t108 = true then (if t107 < 56320 then (some (65533, 6)) else (if t107 > 57343 then (some (65533, 6)) else ((jsonparser_combineUTF16Surrogates.f t101 t107).bind fun t109 => (some (t109, 12))))) else (some (65533, (-1)))) = some (r1, r2) := H
   have A14 := mk0 A140
   clear A140
   by_cases c15 : t108 = true
   rotate_left
   ·replace c15 := Bool.eq_false_iff.mpr c15
    subst c15
    have H1 : (some (65533, (-1))) = some (r1, r2) := by rw [if_neg (show ¬ (false = true) by decide)] at H; exact H
    clear H
    have H := H1
    clear H1
    simp only [Option.some.injEq, Prod.mk.injEq] at H
    obtain ⟨rfl, rfl⟩ := H
    obtain ⟨i022, hi022, _, hsz22, _⟩ := info_parts info5
    obtain ⟨A22, hcut22, hA22, hC22⟩ := print_drop_of (P := Tryd.prog) (Value.int .u8) 0 29 5 .i64 Tryd.underlying29 hi022 hsz22 A0 c0 l0 6 (by omega) (of_decide_eq_true zq2) HC0.out
    have HR106 := mk0 (Kd.C_of_reads (h1 := fun _ => rfl) (hA22 _ (Kd.reads_of_C HR0.out)))
    have HC106 := mk0 hC22
    clear hA22 hC22 hi022 hsz22
    go_wp2_with (first | ((with_reducible refine gate_callee (f := 80) rfl ?_); refine goesL_ (some 39) rfl rfl Tryd.func80 zq14 rfl #[.slice A22 (l0.drop 6).length (c0 - 6)] rfl zq6 ?_; (with_reducible refine (jsonparser_decodeSingleUnicodeEscape.calls kj6 _ _ (l0.drop 6) t107 false _ ?side1 ?side2 A14.out).mono ?_); (case side1 => exact zq10); (case side2 => exact HC106.out); rintro e w' ⟨rfl, ⟨nd, rfl⟩⟩; refine ⟨_, rfl, ?_⟩))
    go_ret2
    exact ⟨by first | rfl | (simp; done) | (simp [*]; done), by repeat (first | exact Drawn0.refl _ | apply Drawn0.step)⟩
   subst c15
   have H1 : (if t107 < 56320 then (some (65533, 6)) else (if t107 > 57343 then (some (65533, 6)) else ((jsonparser_combineUTF16Surrogates.f t101 t107).bind fun t109 => (some (t109, 12))))) = some (r1, r2) := by rw [if_pos rfl] at H; exact H
   clear H
   have H := H1
   clear H1
   by_cases c16 : t107 < 56320
   ·rw [if_pos c16] at H
    have c16b0 : decide (t107 < 56320) = true := decide_eq_true c16
    clear c16
    simp only [Option.some.injEq, Prod.mk.injEq] at H
    obtain ⟨rfl, rfl⟩ := H
    obtain ⟨i017, hi017, _, hsz17, _⟩ := info_parts info5
    obtain ⟨A17, hcut17, hA17, hC17⟩ := print_drop_of (P := Tryd.prog) (Value.int .u8) 0 29 5 .i64 Tryd.underlying29 hi017 hsz17 A0 c0 l0 6 (by omega) (of_decide_eq_true zq2) HC0.out
    have HR106 := mk0 (Kd.C_of_reads (h1 := fun _ => rfl) (hA17 _ (Kd.reads_of_C HR0.out)))
    have HC106 := mk0 hC17
    clear hA17 hC17 hi017 hsz17
    go_wp2_with (first | ((with_reducible refine gate_callee (f := 80) rfl ?_); refine goesL_ (some 39) rfl rfl Tryd.func80 zq14 rfl #[.slice A17 (l0.drop 6).length (c0 - 6)] rfl zq6 ?_; (with_reducible refine (jsonparser_decodeSingleUnicodeEscape.calls kj6 _ _ (l0.drop 6) t107 true _ ?side1 ?side2 A14.out).mono ?_); (case side1 => exact zq10); (case side2 => exact HC106.out); rintro e w' ⟨rfl, ⟨nd, rfl⟩⟩; refine ⟨_, rfl, ?_⟩))
    go_ret2
    exact ⟨by first | rfl | (simp; done) | (simp [*]; done), by repeat (first | exact Drawn0.refl _ | apply Drawn0.step)⟩
   rw [if_neg c16] at H
   have c16b0 : decide (t107 < 56320) = false := decide_eq_false c16
   clear c16
   by_cases c18 : t107 > 57343
   ·rw [if_pos c18] at H
    have c18b0 : decide (57343 < t107) = true := decide_eq_true c18
    clear c18
    simp only [Option.some.injEq, Prod.mk.injEq] at H
    obtain ⟨rfl, rfl⟩ := H
    obtain ⟨i019, hi019, _, hsz19, _⟩ := info_parts info5
    obtain ⟨A19, hcut19, hA19, hC19⟩ := print_drop_of (P := Tryd.prog) (Value.int .u8) 0 29 5 .i64 Tryd.underlying29 hi019 hsz19 A0 c0 l0 6 (by omega) (of_decide_eq_true zq2) HC0.out
    have HR106 := mk0 (Kd.C_of_reads (h1 := fun _ => rfl) (hA19 _ (Kd.reads_of_C HR0.out)))
    have HC106 := mk0 hC19
    clear hA19 hC19 hi019 hsz19
    go_wp2_with (first | ((with_reducible refine gate_callee (f := 80) rfl ?_); refine goesL_ (some 39) rfl rfl Tryd.func80 zq14 rfl #[.slice A19 (l0.drop 6).length (c0 - 6)] rfl zq6 ?_; (with_reducible refine (jsonparser_decodeSingleUnicodeEscape.calls kj6 _ _ (l0.drop 6) t107 true _ ?side1 ?side2 A14.out).mono ?_); (case side1 => exact zq10); (case side2 => exact HC106.out); rintro e w' ⟨rfl, ⟨nd, rfl⟩⟩; refine ⟨_, rfl, ?_⟩))
    go_ret2
    exact ⟨by first | rfl | (simp; done) | (simp [*]; done), by repeat (first | exact Drawn0.refl _ | apply Drawn0.step)⟩
   rw [if_neg c18] at H
   have c18b0 : decide (57343 < t107) = false := decide_eq_false c18
   clear c18
   replace H := Option.bind_eq_some_iff.mp H
   obtain ⟨t109, A200, H⟩ := H
   replace H : (some (t109, 12)) = some (r1, r2) := H
   have A20 := mk0 A200
   clear A200
   simp only [Option.some.injEq, Prod.mk.injEq] at H
   obtain ⟨rfl, rfl⟩ := H
   obtain ⟨i021, hi021, _, hsz21, _⟩ := info_parts info5
   obtain ⟨A21, hcut21, hA21, hC21⟩ := print_drop_of (P := Tryd.prog) (Value.int .u8) 0 29 5 .i64 Tryd.underlying29 hi021 hsz21 A0 c0 l0 6 (by omega) (of_decide_eq_true zq2) HC0.out
   have HR106 := mk0 (Kd.C_of_reads (h1 := fun _ => rfl) (hA21 _ (Kd.reads_of_C HR0.out)))
   have HC106 := mk0 hC21
   clear hA21 hC21 hi021 hsz21
   go_wp2_with (first | ((with_reducible refine gate_callee (f := 80) rfl ?_); refine goesL_ (some 39) rfl rfl Tryd.func80 zq14 rfl #[.slice A21 (l0.drop 6).length (c0 - 6)] rfl zq6 ?_; (with_reducible refine (jsonparser_decodeSingleUnicodeEscape.calls kj6 _ _ (l0.drop 6) t107 true _ ?side1 ?side2 A14.out).mono ?_); (case side1 => exact zq10); (case side2 => exact HC106.out); rintro e w' ⟨rfl, ⟨nd, rfl⟩⟩; refine ⟨_, rfl, ?_⟩) | ((with_reducible refine gate_callee (f := 82) rfl ?_); refine goesL_ (some 52) rfl rfl Tryd.func82 zq14 rfl #[.int .i32 t101, .int .i32 t107] rfl zq1 ?_; (with_reducible refine (jsonparser_combineUTF16Surrogates.calls t101 t107 t109 _ A20.out).mono ?_); rintro e w' ⟨rfl, ⟨nd, rfl⟩⟩; refine ⟨_, rfl, ?_⟩))
   go_ret2
   exact ⟨by first | rfl | (simp; done) | (simp [*]; done), by repeat (first | exact Drawn0.refl _ | apply Drawn0.step)⟩
end Go.Proofs.YtaigbkkgmncipaaDoor.Z
end
section
namespace Go.Proofs.YtaigbkkgmncipaaDoor.Z
open Go.RowKit Go.Proofs.YtaigbkkgmncipaaDoorW.PrintWords Go.Proofs.YtaigbkkgmncipaaDoorW.PrintLast Go.Proofs.YtaigbkkgmncipaaDoorW.PrintMore
attribute [local go_sem] max2_int min2_int max_two min_two max_three min_three max_four min_four
set_option linter.unusedVariables false
set_option linter.unusedSimpArgs false

def eB (r : Int) : List Int :=
  if r < 128 then [r]
  else if r < 2048 then [192 + r / 64, 128 + r % 64]
  else if 55296 ≤ r ∧ r ≤ 57343 then [239, 191, 189]
  else if r < 65536 then [224 + r / 4096, 128 + r / 64 % 64, 128 + r % 64]
  else [240 + r / 262144, 128 + r / 4096 % 64, 128 + r / 64 % 64, 128 + r % 64]
theorem eB_len (r : Int) : 1 ≤ (eB r).length ∧ (eB r).length ≤ 4 := by
 unfold eB
 split
 ·simp
 split
 ·simp
 split
 ·simp
 split <;> simp
def setB (w : World) (g : Nat) : Nat → List Int → World
  | _, [] => w
  | o, b :: r => setB (w.setCell ⟨g, o, none⟩ (.int .u8 b)) g (o + 1) r
def EncPost (g off : Nat) (r : Int) (w : World) (e : Ending) (w' : World) : Prop := e = .returned (.int .i64 ((eB r).length : Int)) ∧ w' = setB w g off (eB r)
set_option maxHeartbeats 4000000 in
set_option maxRecDepth 100000 in
theorem encNon_at (g off n c : Nat) (r : Int) (w : World) (hr0 : 128 ≤ r) (hr1 : r ≤ 1114111) (hn : 4 ≤ n) (hn2 : n ≤ 9223372036854775807)
 (b0 b1 b2 b3 : Int) (h0 : w.cell? ⟨g, off, none⟩ = some (.int .u8 b0)) (h1 : w.cell? ⟨g, off + 1, none⟩ = some (.int .u8 b1)) (h2 : w.cell? ⟨g, off + 2, none⟩ = some (.int .u8 b2)) (h3 : w.cell? ⟨g, off + 3, none⟩ = some (.int .u8 b3))
 (f0 : w.frozen? ⟨g, off, none⟩ = false) (f1 : w.frozen? ⟨g, off + 1, none⟩ = false) (f2 : w.frozen? ⟨g, off + 2, none⟩ = false) (f3 : w.frozen? ⟨g, off + 3, none⟩ = false) :
 Calls Tryd.prog 63 #[.slice (some ⟨g, off, none⟩) n c, .int .i32 r] w (EncPost g off r w) := by
 have hu : (r % 4294967296) = r := by omega
 go_enter Tryd.func63, Tryd.ntmps63
 go_wp2
 all_goals
  go_ret
  unfold EncPost eB
  first
  | (rw [if_neg (by omega), if_pos (by omega)]; exact ⟨rfl, rfl⟩)
  | (rw [if_neg (by omega), if_neg (by omega), if_pos (by omega)]; exact ⟨rfl, rfl⟩)
  | (rw [if_neg (by omega), if_neg (by omega), if_neg (by omega), if_pos (by omega)]; exact ⟨rfl, rfl⟩)
  | (rw [if_neg (by omega), if_neg (by omega), if_neg (by omega), if_neg (by omega)]; exact ⟨rfl, rfl⟩)
set_option maxHeartbeats 4000000 in
set_option maxRecDepth 100000 in
theorem enc_at (g off n c : Nat) (r : Int) (w : World) (hr0 : 0 ≤ r) (hr1 : r ≤ 1114111) (hn : 4 ≤ n) (hn2 : n ≤ 9223372036854775807)
 (b0 b1 b2 b3 : Int) (h0 : w.cell? ⟨g, off, none⟩ = some (.int .u8 b0)) (h1 : w.cell? ⟨g, off + 1, none⟩ = some (.int .u8 b1)) (h2 : w.cell? ⟨g, off + 2, none⟩ = some (.int .u8 b2)) (h3 : w.cell? ⟨g, off + 3, none⟩ = some (.int .u8 b3))
 (f0 : w.frozen? ⟨g, off, none⟩ = false) (f1 : w.frozen? ⟨g, off + 1, none⟩ = false) (f2 : w.frozen? ⟨g, off + 2, none⟩ = false) (f3 : w.frozen? ⟨g, off + 3, none⟩ = false) :
 Calls Tryd.prog 40 #[.slice (some ⟨g, off, none⟩) n c, .int .i32 r] w (EncPost g off r w) := by
 by_cases hc : r < 128
 ·go_enter Tryd.func40, Tryd.ntmps40
  go_wp2
  go_ret
  unfold EncPost eB
  rw [if_pos hc]
  exact ⟨rfl, rfl⟩
 have hc1 : 127 < r := by omega
 have hc2 : 127 < r % 4294967296 := by omega
 go_enter Tryd.func40, Tryd.ntmps40
 go_wp2_with (go_at_call 63; (with_reducible refine (encNon_at g off n c r w (by omega) hr1 hn hn2 b0 b1 b2 b3 h0 h1 h2 h3 f0 f1 f2 f3).mono ?_); rintro e w' ⟨rfl, rfl⟩)
 go_ret
 exact ⟨rfl, rfl⟩
theorem set_mid {α : Type} (L : List α) (o : Nat) (b : α) (h : o < L.length) : L.set o b = L.take o ++ b :: L.drop (o + 1) := List.set_eq_take_append_cons_drop .. |>.trans (by rw [if_pos h])
theorem splice_cons {α : Type} (L : List α) (o : Nat) (b : α) (r : List α) (h : o < L.length) : splice (L.set o b) (o + 1) r = splice L o (b :: r) := by
 have ht : (L.take o).length = o := by rw [List.length_take]; omega
 unfold splice
 rw [set_mid L o b h]
 have e1 : (L.take o ++ b :: L.drop (o + 1)).take (o + 1) = L.take o ++ [b] := by
  rw [List.take_append, ht, Nat.add_sub_cancel_left, List.take_of_length_le (by omega)]
  rfl
 have e2 : (L.take o ++ b :: L.drop (o + 1)).drop (o + 1 + r.length) = L.drop (o + (b :: r).length) := by
  rw [List.drop_append, ht, List.drop_of_length_le (by omega), List.nil_append, show o + 1 + r.length - o = r.length + 1 by omega, List.drop_succ_cons, List.drop_drop]
  congr 1
  simp only [List.length_cons]
  omega
 rw [e1, e2]
 simp
theorem nums_set (L : List Int) (o : Nat) (b : Int) : (nums .u8 L).toArray.setIfInBounds o (.int .u8 b) = (nums .u8 (L.set o b)).toArray := by
 simp [nums, List.map_set]
theorem keep_setc {v W : World} {G j : Nat} {x : Value} (h : KeepBut v W G none) : KeepBut v (W.setCell ⟨G, j, none⟩ x) G none :=
 ⟨by have := h.1; simpa [World.setCell] using this, fun i hi hg hr => (heap_setCell_other W ⟨G, j, none⟩ i x hg).trans (h.2 i hi hg hr)⟩
theorem keep_tr {u v W : World} {G : Nat} (h : KeepBut u v G none) (k : KeepBut v W G none) : KeepBut u W G none :=
 ⟨Nat.le_trans h.1 k.1, fun i hi hg hr => (k.2 i (Nat.lt_of_lt_of_le hi h.1) hg hr).trans (h.2 i hi hg hr)⟩
structure BF (v w0 W : World) (G : Nat) (ty : Nat) (L : List Int) : Prop where
  blk : W.heap[G]? = some (.cells (nums .u8 L).toArray ty (0, 0))
  at_ : w0.heap.size ≤ G
  below : Below w0.heap.size w0 W
  keep : KeepBut v W G none
theorem BF.alloc {v w0 W : World} {G ty : Nat} {L : List Int} (h : BF v w0 W G ty L) (o : Obj) : BF v w0 (W.alloc o) G ty L := ⟨blk_alloc h.blk o, h.at_, below_alloc h.below o, keep_alloc h.keep o⟩
theorem BF.drewN {v w0 W : World} {G ty : Nat} {L : List Int} (h : BF v w0 W G ty L) (k : Nat) : BF v w0 (W.drewN k) G ty L := ⟨h.blk, h.at_, pw_below_drewN h.below k, keep_drewN h.keep k⟩
theorem BF.drawn0 {v w0 W w1 : World} {G ty : Nat} {L : List Int} (h : BF v w0 W G ty L) (hd : Drawn0 W w1) : BF v w0 w1 G ty L := by
 obtain ⟨k, rfl⟩ := hd.out
 exact h.drewN k
theorem BF.setB {v w0 : World} {G ty : Nat} : ∀ (bs : List Int) (o : Nat) (W : World) (L : List Int), BF v w0 W G ty L → o + bs.length ≤ L.length → BF v w0 (setB W G o bs) G ty (splice L o bs)
 | [], o, W, L, h, _ => by
  have e : splice L o [] = L := by simp [splice]
  rw [e]
  exact h
 | b :: r, o, W, L, h, hl => by
  simp only [List.length_cons] at hl
  rw [← splice_cons L o b r (by omega)]
  refine BF.setB r (o + 1) _ _ ⟨?_, h.at_, below_set h.below h.at_, keep_setc h.keep⟩ (by rw [List.length_set]; omega)
  rw [← nums_set]
  exact heap_setCell_same W G o _ _ _ h.blk
theorem BF.cell {v w0 W : World} {G ty : Nat} {L : List Int} (h : BF v w0 W G ty L) (i : Nat) (hi : i < L.length) : W.cell? ⟨G, i, none⟩ = some (.int .u8 (rd L i)) := by
 rw [blk_cell h.blk i]
 simp [nums, rd, hi]
theorem BF.frz {v w0 W : World} {G ty : Nat} {L : List Int} (h : BF v w0 W G ty L) (i : Nat) : W.frozen? ⟨G, i, none⟩ = false := blk_frozen h.blk i
theorem BF.self {v w0 W : World} {G ty : Nat} {L : List Int} (h : BF v w0 W G ty L) : BF W w0 W G ty L := ⟨h.blk, h.at_, h.below, KeepBut.refl _ _ _⟩
theorem BF.tr {u v w0 W : World} {G ty : Nat} {L : List Int} (k : KeepBut u v G none) (h : BF v w0 W G ty L) : BF u w0 W G ty L := ⟨h.blk, h.at_, h.below, keep_tr k h.keep⟩
def stp (k : Nat) (l : List Int) : Option (Int × List Int) :=
  if (l.length : Int) < 2 then some (-1, []) else if rd l 0 = 92 then
    (if J.isE (rd l 1) = true then some (2, [J.unl (rd l 1)])
    else if rd l 1 = 117 then (jsonparser_decodeUnicodeEscape.f k l).bind fun t => if t.2 = -1 then some (-1, []) else if 0 ≤ t.1 ∧ t.1 ≤ 1114111 ∧ 6 ≤ t.2 ∧ t.2 ≤ (l.length : Int) then some (t.2, eB t.1) else none
    else some (-1, []))
  else some (-1, [])
set_option maxHeartbeats 8000000 in
set_option maxRecDepth 100000 in
theorem u8c_calls (k : Nat) (l : List Int) (A : Option Addr) (c G q bl bc ty : Nat) (L : List Int) (n : Int) (bs : List Int) (w0 w : World) (hT : Laid w) (hr : Kd.C (Kd.int .u8) w A l.length l) (hc : l.length ≤ c) (hF : BF w w0 w G ty L) (hq : q + bl ≤ L.length) (hroom : l.length ≤ bl) (hbc : bl ≤ bc) (hl : l.length ≤ 2147483647) (hL : L.length ≤ 4294967296) (hbcm : bc ≤ 4294967296) (h : stp k l = some (n, bs)) :
 Calls Tryd.prog 70 #[.agg #[.bool false, .bool false, .int .i64 0], .slice A l.length c, .slice (some ⟨G, q, none⟩) bl bc] w fun e w' => e = .returned (.tuple #[.int .i64 n, .int .i64 (if n = -1 then -1 else (bs.length : Int))]) ∧ BF w w0 w' G ty (splice L q bs) := by
 have E0 := mk0 (show splice L q [] = L by simp [splice])
 have hFA : BF w w0 (w.alloc (.cells #[.bool false, .bool false, .int .i64 0] 95)) G ty L := hF.alloc _
 have hrA : Kd.C (Kd.int .u8) (w.alloc (.cells #[.bool false, .bool false, .int .i64 0] 95)) A l.length l := Kd.C_alloc hr _
 have HF := mk0 hFA
 have HR := mk0 hrA
 have HT := mk0 hT
 unfold stp at h
 by_cases h2 : (l.length : Int) < 2
 ·rw [if_pos h2] at h
  obtain ⟨rfl, rfl⟩ := Prod.mk.inj (Option.some.inj h)
  clear h hF hr hT hFA hrA
  have h2b : decide ((l.length : Int) < 2) = true := decide_eq_true h2
  go_enter Tryd.func70, Tryd.ntmps70
  go_wp2
  go_ret2
  rw [E0.out]
  exact ⟨rfl, HF.out⟩
 rw [if_neg h2] at h
 have h2b : decide ((l.length : Int) < 2) = false := decide_eq_false h2
 obtain ⟨ad, rfl, h0⟩ := Kd.at_int hrA 0 (by omega) (by omega)
 obtain ⟨ad', e', h1⟩ := Kd.at_int hrA 1 (by omega) (by omega)
 obtain rfl := Option.some.inj e'
 replace h0 : (w.alloc (.cells #[.bool false, .bool false, .int .i64 0] 95)).cell? ad = some (.int .u8 (rd l 0)) := h0
 replace h1 : (w.alloc (.cells #[.bool false, .bool false, .int .i64 0] 95)).cell? ⟨ad.block, ad.off + 1, none⟩ = some (.int .u8 (rd l 1)) := h1
 by_cases hb : rd l 0 = 92
 rotate_left
 ·rw [if_neg hb] at h
  obtain ⟨rfl, rfl⟩ := Prod.mk.inj (Option.some.inj h)
  clear h hF hr hT hFA hrA
  have hbb : (rd l 0 == 92) = false := by simp [hb]
  have hbd : decide (rd l 0 = 92) = false := decide_eq_false hb
  go_enter Tryd.func70, Tryd.ntmps70
  go_wp2
  go_ret2
  rw [E0.out]
  exact ⟨rfl, HF.out⟩
 rw [if_pos hb] at h
 rw [hb] at h0
 have hcG := HF.out.cell q (by omega)
 have hfG := HF.out.frz q
 by_cases hE : J.isE (rd l 1) = true
 ·rw [if_pos hE] at h
  obtain ⟨rfl, rfl⟩ := Prod.mk.inj (Option.some.inj h)
  clear h hF hr hT hFA hrA
  have hE2 : rd l 1 = 34 ∨ rd l 1 = 92 ∨ rd l 1 = 47 ∨ rd l 1 = 98 ∨ rd l 1 = 102 ∨ rd l 1 = 110 ∨ rd l 1 = 114 ∨ rd l 1 = 116 := by simpa [J.isE] using hE
  have hbel : Below w.heap.size w (w.alloc (.cells #[.bool false, .bool false, .int .i64 0] 95)) := below_alloc (Below.refl _ _) _
  have htab : ∀ j : Nat, j < 117 → (w.alloc (.cells #[.bool false, .bool false, .int .i64 0] 95)).cell? ⟨12, j, none⟩ = some (.int .u8 (tabv j)) := (HT.out.below hbel).tab
  have fin := fun (b : Int) => BF.setB [b] q _ _ HF.out (by simp only [List.length_cons, List.length_nil]; omega)
  have FIN := mk0 fin
  clear fin hE
  have HTAB := mk0 htab
  clear htab hbel
  rcases hE2 with hz | hz | hz | hz | hz | hz | hz | hz
  all_goals
   rw [hz] at h1
   have ht := HTAB.out (rd l 1).toNat (by rw [hz]; decide)
   rw [hz] at ht ⊢
   simp only [Int.reduceToNat, tabv, Nat.reduceEqDiff, if_true, if_false] at ht
   clear hz
   go_enter Tryd.func70, Tryd.ntmps70
   go_wp2
   go_ret2
   exact ⟨rfl, FIN.out _⟩
 rw [if_neg hE] at h
 have hne : rd l 1 ≠ 34 ∧ rd l 1 ≠ 92 ∧ rd l 1 ≠ 47 ∧ rd l 1 ≠ 98 ∧ rd l 1 ≠ 102 ∧ rd l 1 ≠ 110 ∧ rd l 1 ≠ 114 ∧ rd l 1 ≠ 116 := by
  simp only [J.isE, decide_eq_true_eq, not_or] at hE
  exact hE
 clear hE
 by_cases h117 : rd l 1 = 117
 rotate_left
 ·rw [if_neg h117] at h
  obtain ⟨rfl, rfl⟩ := Prod.mk.inj (Option.some.inj h)
  clear h hF hr hT hFA hrA
  obtain ⟨n1, n2, n3, n4, n5, n6, n7, n8⟩ := hne
  have b1 : (rd l 1 == 34) = false := by simp [n1]
  have b2 : (rd l 1 == 92) = false := by simp [n2]
  have b3 : (rd l 1 == 47) = false := by simp [n3]
  have b4 : (rd l 1 == 98) = false := by simp [n4]
  have b5 : (rd l 1 == 102) = false := by simp [n5]
  have b6 : (rd l 1 == 110) = false := by simp [n6]
  have b7 : (rd l 1 == 114) = false := by simp [n7]
  have b8 : (rd l 1 == 116) = false := by simp [n8]
  have b9 : (rd l 1 == 117) = false := by simp [h117]
  have d1 := decide_eq_false n1
  have d2 := decide_eq_false n2
  have d3 := decide_eq_false n3
  have d4 := decide_eq_false n4
  have d5 := decide_eq_false n5
  have d6 := decide_eq_false n6
  have d7 := decide_eq_false n7
  have d8 := decide_eq_false n8
  have d9 := decide_eq_false h117
  by_cases h39 : rd l 1 = 39
  rotate_left
  ·have b10 : (rd l 1 == 39) = false := by simp [h39]
   have d10 := decide_eq_false h39
   go_enter Tryd.func70, Tryd.ntmps70
   go_wp2
   go_ret2
   rw [E0.out]
   exact ⟨rfl, HF.out⟩
  rw [h39] at h1
  clear n1 n2 n3 n4 n5 n6 n7 n8 b1 b2 b3 b4 b5 b6 b7 b8 b9 d1 d2 d3 d4 d5 d6 d7 d8 d9 h117 h39
  go_enter Tryd.func70, Tryd.ntmps70
  go_wp2
  go_ret2
  rw [E0.out]
  exact ⟨rfl, HF.out⟩
 rw [if_pos h117] at h
 replace h := Option.bind_eq_some_iff.mp h
 obtain ⟨⟨r, m⟩, hD, h⟩ := h
 simp only at h
 rw [h117] at h1
 have HD := mk0 hD
 clear hD hne h117
 by_cases hm : m = -1
 ·rw [if_pos hm] at h
  obtain ⟨rfl, rfl⟩ := Prod.mk.inj (Option.some.inj h)
  subst hm
  clear h hF hr hT hFA hrA
  go_enter Tryd.func70, Tryd.ntmps70
  go_wp2_with (first | (go_at_call 78; (with_reducible refine (jsonparser_decodeUnicodeEscape.calls k (some ad) c l r _ _ HR.out hc HD.out).mono ?_); rintro e w1 ⟨rfl, hd1⟩; have K1 := mk0 (HF.out.drawn0 hd1); clear hd1))
  go_ret2
  rw [E0.out]
  exact ⟨rfl, K1.out⟩
 rw [if_neg hm] at h
 split at h
 case isFalse => cases h
 case isTrue hg =>
 obtain ⟨hg0, hg1, hg2, hg3⟩ := hg
 obtain ⟨rfl, rfl⟩ := Prod.mk.inj (Option.some.inj h)
 have hmb : (m == -1) = false := by simp [hm]
 have hmd : decide (m = -1) = false := decide_eq_false hm
 have hle := eB_len r
 clear h hF hr hT hFA hrA
 go_enter Tryd.func70, Tryd.ntmps70
 go_wp2_with (first | (go_at_call 78; (with_reducible refine (jsonparser_decodeUnicodeEscape.calls k (some ad) c l r _ _ HR.out hc HD.out).mono ?_); rintro e w1 ⟨rfl, hd1⟩; have K1 := mk0 (HF.out.drawn0 hd1); clear hd1) | (go_at_call 40; (with_reducible refine (enc_at G q bl bc r _ hg0 hg1 (by omega) (by omega) _ _ _ _ (K1.out.cell q (by omega)) (K1.out.cell (q + 1) (by omega)) (K1.out.cell (q + 2) (by omega)) (K1.out.cell (q + 3) (by omega)) (K1.out.frz _) (K1.out.frz _) (K1.out.frz _) (K1.out.frz _)).mono ?_); rintro e w2 ⟨rfl, rfl⟩))
 go_ret2
 try rw [if_neg hm]
 exact ⟨rfl, K1.out.setB (eB r) q _ _ (by omega)⟩
def ixL : List Int → Int
  | [] => -1
  | b :: l => if b = 92 then 0 else if ixL l = -1 then -1 else ixL l + 1
theorem ixL_lib : ∀ l : List Int, (∀ x ∈ l, 0 ≤ x ∧ x ≤ 255) → Lib.indexByte (Lib.bytesOf l) (92 : Int).toNat.toUInt8 = ixL l
 | [], _ => rfl
 | b :: l, h => by
  have ih := ixL_lib l fun x hx => h x (by simp [hx])
  have hb := h b (by simp)
  have e : Lib.bytesOf (b :: l) = UInt8.ofNat b.toNat :: Lib.bytesOf l := rfl
  rw [e, Lib.indexByte, ih, ixL]
  have hq : (UInt8.ofNat b.toNat == (92 : Int).toNat.toUInt8) = decide (b = 92) := by
   by_cases h92 : b = 92
   ·subst h92
    rfl
   rw [decide_eq_false h92]
   refine beq_eq_false_iff_ne.mpr fun hh => h92 ?_
   have := congrArg UInt8.toNat hh
   simp at this
   omega
  rw [hq]
  by_cases h92 : b = 92
  rotate_left
  ·simp [h92]
  simp [h92]
theorem ixL_range : ∀ l : List Int, ixL l = -1 ∨ ∃ j : Nat, ixL l = (j : Int) ∧ j < l.length ∧ rd l j = 92
 | [] => .inl rfl
 | b :: l => by
  rw [ixL]
  by_cases h : b = 92
  ·rw [if_pos h]
   exact .inr ⟨0, rfl, by simp, by simp [rd, h]⟩
  rw [if_neg h]
  rcases ixL_range l with h1 | ⟨j, h1, h2, h3⟩
  ·rw [if_pos h1]
   exact .inl rfl
  ·rw [if_neg (by omega), h1]
   refine .inr ⟨j + 1, by omega, by simp; omega, ?_⟩
   simpa [rd] using h3
structure IN (w : World) (b o : Nat) (l : List Int) : Prop where
  cell : ∀ i, i < l.length → w.cell? ⟨b, o + i, none⟩ = some (.int .u8 (l.getD i 0))
  lt : b < w.heap.size
  u8 : ∀ x ∈ l, 0 ≤ x ∧ x ≤ 255
  max : l.length ≤ 2147483647
theorem IN.below {w0 W : World} {b o : Nat} {l : List Int} (h : IN w0 b o l) (hb : Below w0.heap.size w0 W) : IN W b o l :=
 ⟨fun i hi => (bel_cell hb h.lt).trans (h.cell i hi), Nat.lt_of_lt_of_le h.lt hb.size, h.u8, h.max⟩
theorem IN.C {w : World} {b o : Nat} {l : List Int} (h : IN w b o l) : Kd.C (Kd.int .u8) w (some ⟨b, o, none⟩) l.length l := by
 have hm := h.max
 refine Kd.C_of_reads (enc := Value.int .u8) (d := (0 : Int)) (h1 := fun _ => rfl) ⟨rfl, by omega, fun _ => ⟨⟨b, o, none⟩, rfl, fun j hj => ?_⟩⟩
 have e : (⟨b, o, none⟩ : Addr).add j = ⟨b, o + j, none⟩ := by
  unfold Addr.add
  split
  ·rename_i h0
   subst h0
   rfl
  ·rfl
 rw [e]
 exact h.cell j hj
theorem IN.drop {w : World} {b o : Nat} {l : List Int} (h : IN w b o l) (m : Nat) (hm : m ≤ l.length) : IN w b (o + m) (l.drop m) :=
 ⟨fun i hi => by
  rw [List.length_drop] at hi
  have := h.cell (m + i) (by omega)
  rw [show o + m + i = o + (m + i) by omega, this]
  simp [List.getD_eq_getElem?_getD], h.lt, fun x hx => h.u8 x (List.mem_of_mem_drop hx), by have := h.max; rw [List.length_drop]; omega⟩
theorem IN.take {w : World} {b o : Nat} {l : List Int} (h : IN w b o l) (m : Nat) (hm : m ≤ l.length) : IN w b o (l.take m) :=
 ⟨fun i hi => by
  rw [List.length_take] at hi
  rw [h.cell i (by omega)]
  simp [List.getD_eq_getElem?_getD, List.getElem?_take, show i < m by omega], h.lt, fun x hx => h.u8 x (List.mem_of_mem_take hx), by have := h.max; rw [List.length_take]; omega⟩
theorem IN.nil {w : World} {b : Nat} (h : b < w.heap.size) (o : Nat) : IN w b o [] := ⟨fun i hi => (by simp at hi), h, fun x hx => (by simp at hx), by simp⟩
theorem slc_l (A : Option Addr) (n c m : Nat) (hm : m ≤ n) : ∀ W : World, (Instr.slice 29 (.slice A n c) (some (.int .i64 (m : Int))) none none).run Tryd.prog W = .ok (.slice (if c = m then A else A.map (·.add m)) (n - m) (c - m)) W := fun W => by
 obtain ⟨i0, hi, hzz⟩ := Option.map_eq_some_iff.1 info5
 simp only [Prod.mk.injEq] at hzz
 have hel : (Tryd.prog).elem 29 = 5 := by simp [Program.elem, Tryd.underlying29]
 have hu : (Tryd.prog).underlying 29 = some (.slice ((Tryd.prog).elem 29)) := by rw [hel]; exact Tryd.underlying29
 rw [run_slice_l W 29 A n c hu .i64 (m : Int) (Int.natCast_nonneg _) (by omega), hel]
 simp [sizeOf, typeInfo, hi, hzz.2.1, sliced, Result.andThen]
theorem slc_h (A : Option Addr) (n c m : Nat) (hm : m ≤ c) : ∀ W : World, (Instr.slice 29 (.slice A n c) none (some (.int .i64 (m : Int))) none).run Tryd.prog W = .ok (.slice A m c) W := fun W => by
 obtain ⟨i0, hi, hzz⟩ := Option.map_eq_some_iff.1 info5
 simp only [Prod.mk.injEq] at hzz
 have hel : (Tryd.prog).elem 29 = 5 := by simp [Program.elem, Tryd.underlying29]
 have hu : (Tryd.prog).underlying 29 = some (.slice ((Tryd.prog).elem 29)) := by rw [hel]; exact Tryd.underlying29
 rw [run_slice_h W 29 A n c hu .i64 (m : Int) (Int.natCast_nonneg _) (by omega), hel]
 cases A with
 | none => simp [sizeOf, typeInfo, hi, hzz.2.1, sliced, Result.andThen]
 | some a => simp [sizeOf, typeInfo, hi, hzz.2.1, sliced, Result.andThen, Addr.add]
theorem add_at (b o m : Nat) : (⟨b, o, none⟩ : Addr).add m = ⟨b, o + m, none⟩ := by
 unfold Addr.add
 split
 ·rename_i h0
  subst h0
  rfl
 ·rfl
theorem cut_in {w0 : World} {b o : Nat} {l : List Int} (h : IN w0 b o l) (c m : Nat) (hm : m ≤ l.length) (hc : l.length ≤ c) :
 ∃ o1, (∀ W : World, (Instr.slice 29 (.slice (some ⟨b, o, none⟩) l.length c) (some (.int .i64 (m : Int))) none none).run Tryd.prog W = .ok (.slice (some ⟨b, o1, none⟩) (l.drop m).length (c - m)) W) ∧ IN w0 b o1 (l.drop m) ∧ (l.drop m).length ≤ c - m := by
 refine ⟨if c = m then o else o + m, fun W => ?_, ?_, by rw [List.length_drop]; omega⟩
 ·rw [slc_l _ _ _ _ hm W, List.length_drop]
  by_cases hcm : c = m
  ·rw [if_pos hcm, if_pos hcm]
  rw [if_neg hcm, if_neg hcm]
  simp only [Option.map_some, add_at]
 ·by_cases hcm : c = m
  rotate_left
  ·rw [if_neg hcm]
   exact h.drop m hm
  rw [if_pos hcm, List.drop_of_length_le (by omega)]
  exact IN.nil h.lt o
theorem cut_buf (G q n c m : Nat) (hm : m ≤ n) (hc : n ≤ c) :
 ∃ q1, (∀ W : World, (Instr.slice 29 (.slice (some ⟨G, q, none⟩) n c) (some (.int .i64 (m : Int))) none none).run Tryd.prog W = .ok (.slice (some ⟨G, q1, none⟩) (n - m) (c - m)) W) ∧ (0 < n - m → q1 = q + m) := by
 refine ⟨if c = m then q else q + m, fun W => ?_, fun h => if_neg (by omega)⟩
 rw [slc_l _ _ _ _ hm W]
 by_cases hcm : c = m
 ·rw [if_pos hcm, if_pos hcm]
 rw [if_neg hcm, if_neg hcm]
 simp only [Option.map_some, add_at]
theorem idx_calls {W : World} {b o : Nat} {l : List Int} (h : IN W b o l) (c : Nat) :
 Calls Tryd.prog 69 #[.slice (some ⟨b, o, none⟩) l.length c, .int .u8 92] W fun e w' => e = .returned (.int .i64 (ixL l)) ∧ w' = W := by
 have := Tryd.bytes_IndexByte b o l.length c l 92 W rfl h.cell
 rw [ixL_lib l h.u8] at this
 exact this
theorem make_bytes (n : Nat) (hn : n ≤ 4294967296) : ∀ W : World, (Instr.makeSlice 29 (.int .i64 (n : Int)) (.int .i64 (n : Int))).run Tryd.prog W = .ok (.slice (some ⟨W.heap.size, 0, none⟩) n n) (W.alloc (.cells (nums .u8 (List.replicate n 0)).toArray 5)) := fun W => by
 obtain ⟨i0, hi, hzz⟩ := Option.map_eq_some_iff.1 info5
 simp only [Prod.mk.injEq] at hzz
 have h := run_make (P := Tryd.prog) W 29 5 i0 (.int .u8 0) Tryd.underlying29 hi hzz.1 .i64 .i64 (n : Int) (n : Int) (by omega) (Int.le_refl _) (by rw [hzz.2.2]; omega) (by omega)
 rw [h, hzz.2.1]
 have e : madeCells (Value.int IntKind.u8 0).cells ((n : Int).toNat * 1) = (nums .u8 (List.replicate n 0)).toArray := by
  apply Array.toList_inj.mp
  rw [show (Value.int IntKind.u8 0).cells = #[Value.int IntKind.u8 0] from rfl, toList_madeCells_one]
  simp [nums]
 rw [e]
 simp
section
variable {P : Program} {ops : Array Oper} {rest : List Oper} {o : Oper} {a : Act} {Q : Exit → Act → World → Prop}
theorem copy_BF {v w0 W : World} {G ty : Nat} {L : List Int} (hgd : o.guard = none) (d s : Operand) (dT sT : TypeId)
 (ho : o.op = .call { callee := .builtin .copy, args := #[d, s], argTypes := #[dT, sT] }) (elem : TypeId) (hu : P.underlying dT = some (.slice elem)) (hsz : (P.info? elem).map (·.size) = some 1)
 (q bl bc b o1 sl sc : Nat) (hd : a.eval d = .slice (some ⟨G, q, none⟩) bl bc) (hs : a.eval s = .slice (some ⟨b, o1, none⟩) sl sc) (off : Nat) (hF : BF v w0 W G ty L) (xs : List Int) (hx : xs.length = sl) (hle : sl ≤ bl) (hoff : 0 < sl → q = off) (hcell : ∀ i, i < sl → W.cell? ⟨b, o1 + i, none⟩ = some (.int .u8 (xs.getD i 0))) (hfit : off + sl ≤ L.length)
 (h : ∀ W', BF v w0 W' G ty (splice L off xs) → wpList P ops Q rest (a.put o.dst (goInt sl)) W') : wpList P ops Q (o :: rest) a W := by
 by_cases h0 : sl = 0
 ·subst h0
  obtain rfl : xs = [] := List.eq_nil_of_length_eq_zero hx
  refine wpList_copy_nothing hgd d s dT sT ho elem hu hsz _ _ bl bc 0 sc hd hs (by simp) ?_
  have e : splice L off [] = L := by simp [splice]
  have := h W (by rw [e]; exact hF)
  exact this
 obtain rfl := hoff (by omega)
 have hcl : (nums .u8 xs).length = sl := by simp [nums, hx]
 refine wpList_copy_own hgd d s dT sT ho elem hu hsz G q bl bc ⟨b, o1, none⟩ sl sc hd hs (nums .u8 L).toArray ty hF.blk (nums .u8 xs) (by rw [hcl]; exact (Nat.min_eq_left hle).symm) (fun j u hj => ?_) (by rw [hcl]; simp [nums]; omega) (fun u hu => by simp only [nums, List.mem_map] at hu; obtain ⟨z, _, rfl⟩ := hu; rfl) ?_
 ·rw [add_at]
  have hlt : j < sl := by
   have := (List.getElem?_eq_some_iff.mp hj).1
   omega
  rw [hcell j hlt, ← hj]
  simp [nums, List.getD_eq_getElem?_getD, show j < xs.length by omega]
 ·have e : (nums .u8 L).toArray.toList.take q ++ (nums .u8 xs ++ (nums .u8 L).toArray.toList.drop (q + (nums .u8 xs).length)) = nums .u8 (splice L q xs) := by
   simp [nums, splice, List.map_take, List.map_drop]
  rw [e, hcl]
  refine h _ ⟨setRow_heap W G _ _ ty _ hF.blk, hF.at_, hF.below.trans ⟨rfl, rfl, rfl, by simp [World.setRow], fun i hi => setRow_other W G i _ (by have := hF.at_; omega)⟩, ?_⟩
  exact keep_tr hF.keep ⟨by simp [World.setRow], fun i hi hg _ => setRow_other W G i _ hg⟩
end
def jun (k : Nat) : Nat → List Int → List Int → Option (Option (List Int))
  | 0, _, _ => none
  | f + 1, l, E => (stp k l).bind fun t => if t.1 = -1 then some none
      else if 1 ≤ t.1 ∧ t.1 ≤ (l.length : Int) ∧ (t.2.length : Int) ≤ t.1 then
        (if ixL (l.drop t.1.toNat) = -1 then some (some (E ++ t.2 ++ l.drop t.1.toNat))
         else jun k f ((l.drop t.1.toNat).drop (ixL (l.drop t.1.toNat)).toNat) (E ++ t.2 ++ (l.drop t.1.toNat).take (ixL (l.drop t.1.toNat)).toNat))
      else none
def unc (k : Nat) (l : List Int) : Option (Option (List Int)) :=
  if ixL l = -1 then some (some l) else jun k k (l.drop (ixL l).toNat) (l.take (ixL l).toNat)
theorem sz1_ : ((Tryd.prog).info? 5).map (·.size) = some 1 := by
 obtain ⟨i0, hi, hzz⟩ := Option.map_eq_some_iff.1 info5
 simp only [Prod.mk.injEq] at hzz
 rw [hi, Option.map_some, hzz.2.1]
def UPost (w0 : World) (res : Option (List Int)) (e : Ending) (w' : World) : Prop :=
  Below w0.heap.size w0 w' ∧ match res with
  | some R => ∃ A' c', e = .returned (.tuple #[.slice A' R.length c', .nilIface]) ∧ R.length ≤ c' ∧ Kd.C (Kd.int .u8) w' A' R.length R
  | none => ∃ te pe, e = .returned (.tuple #[.slice none 0 0, .iface te pe]) ∧ w0.cell? ⟨10, 0, none⟩ = some (.iface te pe)
theorem splice_take {L : List Int} {q : Nat} {bs E : List Int} (hE : L.take q = E) (hl : E.length = q) (hf : q + bs.length ≤ L.length) : (splice L q bs).take (q + bs.length) = E ++ bs := by
 unfold splice
 rw [hE, ← List.append_assoc, List.take_append_of_le_length (by simp; omega), List.take_of_length_le (by simp; omega)]
theorem BF.C {v w0 W : World} {G ty : Nat} {L R : List Int} (h : BF v w0 W G ty L) (hR : L.take R.length = R) (hm : R.length ≤ 4294967296) : Kd.C (Kd.int .u8) W (some ⟨G, 0, none⟩) R.length R := by
 refine Kd.C_of_reads (enc := Value.int .u8) (d := (0 : Int)) (h1 := fun _ => rfl) ⟨rfl, by omega, fun _ => ⟨⟨G, 0, none⟩, rfl, fun j hj => ?_⟩⟩
 have hl : R.length ≤ L.length := by
  have := congrArg List.length hR
  rw [List.length_take] at this
  omega
 rw [add_at, Nat.zero_add, h.cell j (by omega)]
 have e : R.getD j 0 = L.getD j 0 := by
  conv => lhs; rw [← hR]
  simp [List.getD_eq_getElem?_getD, List.getElem?_take, hj]
 rw [e]
 rfl
theorem BF.box {v w0 W : World} {G ty X : Nat} {L : List Int} {o : Obj} (h : BF v w0 W G ty L) (hX : v.heap[X]? = some o) (hg : X ≠ G) : W.heap[X]? = some o :=
 (h.keep.2 X (blk_lt hX) hg (by simp)).trans hX
set_option maxHeartbeats 16000000 in
set_option maxRecDepth 100000 in
theorem uc_make (k : Nat) (l : List Int) (b o c : Nat) (w0 w : World) (res : Option (List Int)) (Ao : Option Addr) (on oc : Nat) (hT : Laid w0) (hB : Below w0.heap.size w0 w) (hI : IN w0 b o l) (hc : l.length ≤ c) (hcm : c ≤ 9223372036854775807) (j0 : Nat) (hj0 : ixL l = (j0 : Int)) (hj1 : j0 < l.length) (hoc : oc < l.length) (hQ : jun k k (l.drop j0) (l.take j0) = some res) :
 Calls Tryd.prog 58 #[.agg #[.bool false, .bool false, .int .i64 0], .slice (some ⟨b, o, none⟩) l.length c, .slice Ao on oc] w fun e w' => UPost w0 res e w' := by
 have HI := mk0 hI
 have HT := mk0 hT
 have HQ := mk0 hQ
 have hnl := hI.max
 have hjm : (((j0 : Nat) : Int) == -1) = false := by simp
 have hjm2 : decide (((j0 : Nat) : Int) = -1) = false := decide_eq_false (by omega)
 have HIX := mk0 (fun W_ (hB_ : Below w0.heap.size w0 W_) => idx_calls (hI.below hB_) c)
 rw [hj0] at HIX
 have HBA := mk0 (show Below w0.heap.size w0 (w.alloc (.cells #[.bool false, .bool false, .int .i64 0] 95)) from below_alloc hB _)
 clear hI hT hQ
 have hmk := make_bytes l.length (by omega)
 have hbd : decide ((oc : Int) < (l.length : Int)) = true := decide_eq_true (by omega)
 have hBw := hB.size
 obtain ⟨L0, hL0e⟩ : ∃ L0 : List Int, L0 = List.replicate l.length 0 := ⟨_, rfl⟩
 have hL0 : L0.length = l.length := by rw [hL0e]; simp
 have hnC : l.length ≤ l.length := Nat.le_refl _
 have hX : ((w.alloc (.cells #[.bool false, .bool false, .int .i64 0] 95)).alloc (.cells (nums .u8 L0).toArray 5)).heap[w.heap.size]? = some (.cells #[.bool false, .bool false, .int .i64 0] 95 (0, 0)) := blk_alloc (blk_new w _) _
 have hXG : w.heap.size ≠ w.heap.size + 1 := by omega
 have hF : BF ((w.alloc (.cells #[.bool false, .bool false, .int .i64 0] 95)).alloc (.cells (nums .u8 L0).toArray 5)) w0 ((w.alloc (.cells #[.bool false, .bool false, .int .i64 0] 95)).alloc (.cells (nums .u8 L0).toArray 5)) (w.heap.size + 1) 5 L0 :=
  ⟨by have := blk_new (w.alloc (.cells #[.bool false, .bool false, .int .i64 0] 95)) (.cells (nums .u8 L0).toArray 5); simpa using this, by omega, below_alloc HBA.out _, KeepBut.refl _ _ _⟩
 have HF := mk0 hF
 rw [← hL0e] at hmk
 clear hL0e hF
 go_enter Tryd.func58, Tryd.ntmps58
 go_upto_region 7 with (first | (go_at_call 69; (with_reducible refine (HIX.out _ HBA.out).mono ?_); rintro e_ w_ ⟨rfl, rfl⟩))
 clear HIX
 have hl0 : L0.length = l.length := hL0
 obtain ⟨o1, hcut1, HI1, hc1⟩ := cut_in HI.out c j0 (by omega) hc
 obtain ⟨q1, hcutb, hq1⟩ := cut_buf (w.heap.size + 1) 0 l.length l.length j0 (by omega) hnC
 have hcuth := slc_h (some ⟨b, o, none⟩) l.length c j0 (by omega)
 go_wp2_with (first | ((with_reducible refine gate_builtin (b := .copy) (xs := #[.tmp 30, .tmp 33]) rfl ?_); refine copy_BF (v := ((w.alloc (.cells #[.bool false, .bool false, .int .i64 0] 95)).alloc (.cells (nums .u8 L0).toArray 5))) (w0 := w0) rfl (.tmp 30) (.tmp 33) 29 29 rfl 5 Tryd.underlying29 sz1_ 0 l.length l.length b o j0 c rfl rfl 0 HF.out (l.take j0) (by rw [List.length_take]; omega) (by omega) (fun _ => rfl) (fun i_ hi_ => ((HI.out.take j0 (by omega)).below HF.out.below).cell i_ (by rw [List.length_take]; omega)) (by omega) ?_; intro w1 HF1_; have HF1 := mk0 HF1_; clear HF1_ ))
 have HI1' := mk0 HI1
 clear HI1 hcut1 hcutb hcuth HF
 go_loopg [1, 9] k (fun kq v1 v9 w' => ∃ (lc : List Int) (oc_ cc q_ bl bc : Nat) (E L : List Int), v1 = .slice (some ⟨b, oc_, none⟩) lc.length cc ∧ v9 = .slice (some ⟨(w.heap.size + 1), q_, none⟩) bl bc ∧ Aside0 (kq ≤ k) ∧ Aside0 (IN w0 b oc_ lc) ∧ (lc.length ≤ cc ∧ cc ≤ 9223372036854775807 ∧ q_ + bl = l.length ∧ q_ + bc = l.length ∧ lc.length ≤ bl ∧ 1 ≤ lc.length) ∧ Aside0 (E.length = q_ ∧ L.length = l.length ∧ L.take q_ = E) ∧ Aside0 (jun k kq lc E = some res) ∧ Aside0 (BF ((w.alloc (.cells #[.bool false, .bool false, .int .i64 0] 95)).alloc (.cells (nums .u8 L0).toArray 5)) w0 w' (w.heap.size + 1) 5 L))
 case atStart =>
  have e1 : q1 = j0 := by have := hq1 (by omega); omega
  subst e1
  refine ⟨l.drop q1, o1, c - q1, q1, l.length - q1, l.length - q1, l.take q1, splice L0 0 (l.take q1), (by first | rfl | (simp; done)), (by first | rfl | (simp; done)), ⟨Nat.le_refl _⟩, HI1', ⟨hc1, by omega, by omega, by omega, by rw [List.length_drop]; omega, by rw [List.length_drop]; omega⟩, ⟨by rw [List.length_take]; omega, by rw [length_splice _ _ _ (by rw [List.length_take]; omega)]; exact hl0, ?_⟩, HQ, HF1⟩
  have := splice_take (L := L0) (q := 0) (bs := l.take q1) (E := []) (by simp) rfl (by rw [List.length_take]; omega)
  rwa [Nat.zero_add, List.length_take, Nat.min_eq_left (by omega), List.nil_append] at this
 case round =>
  clear HF1 HI1' HQ hq1 hc1
  obtain ⟨lc, oc_, cc, q_, bl, bc, E, L, rfl, rfl, HK1, HIc, hnum, HE, HQ, HF⟩ := hrel
  obtain ⟨hcc, hccm, hqb, hqc, hlb, hl1⟩ := hnum
  cases gk with
  | zero => exact absurd HQ.out (by simp [jun])
  | succ kr =>
   have hH := HQ.out
   clear HQ
   rw [jun] at hH
   replace hH := Option.bind_eq_some_iff.mp hH
   obtain ⟨⟨m, bs⟩, hS, hH⟩ := hH
   simp only at hH
   have hbox := HF.out.box hX hXG
   have x0 := blk_cell hbox 0
   have x1 := blk_cell hbox 1
   have x2 := blk_cell hbox 2
   clear hbox
   replace x0 : wr.cell? ⟨w.heap.size, 0, none⟩ = some (.bool false) := x0
   replace x1 : wr.cell? ⟨w.heap.size, 1, none⟩ = some (.bool false) := x1
   replace x2 : wr.cell? ⟨w.heap.size, 2, none⟩ = some (.int .i64 0) := x2
   have hLl : L.length = l.length := HE.out.2.1
   have HU := mk0 (u8c_calls k lc (some ⟨b, oc_, none⟩) cc (w.heap.size + 1) q_ bl bc 5 L m bs w0 wr (HT.out.below HF.out.below) (HIc.out.below HF.out.below).C hcc HF.out.self (by omega) hlb (by omega) (by have := HIc.out.max; omega) (by omega) (by omega) hS)
   clear hS
   by_cases hm : m = -1
   ·rw [if_pos hm] at hH
    obtain rfl := Option.some.inj hH
    subst hm
    obtain ⟨te, pe, hesc0⟩ := HT.out.esc
    go_wp2_with (first | (go_at_call 70; (with_reducible refine HU.out.mono ?_); rintro e_ w5 ⟨rfl, hd5⟩; have K5 := mk0 hd5; have hesc5 : w5.cell? ⟨10, 0, none⟩ = some (.iface te pe) := (bel_cell hd5.below (World.block_lt_of_cell? w0 _ hesc0)).trans hesc0; clear hd5))
    go_quiet (fail)
    go_wp2
    go_ret2
    exact ⟨by first | exact pw_below_drewN K5.out.below _ | exact K5.out.below, te, pe, rfl, hesc0⟩
   rw [if_neg hm] at hH
   split at hH
   case isFalse => cases hH
   case isTrue hg =>
   obtain ⟨hg0, hg1, hg2⟩ := hg
   skip
   obtain ⟨mm, rfl⟩ : ∃ x : Nat, m = (x : Int) := ⟨m.toNat, by omega⟩
   rw [Int.toNat_natCast] at hH
   have hmb : (((mm : Nat) : Int) == -1) = false := by simp
   have hmd : decide (((mm : Nat) : Int) = -1) = false := decide_eq_false hm
   obtain ⟨o2, hcut2, HI2, hc2⟩ := cut_in HIc.out cc mm (by omega) hcc
   obtain ⟨q2, hcutb2, hq2⟩ := cut_buf (w.heap.size + 1) q_ bl bc bs.length (by omega) (by omega)
   have hl2 : (lc.drop mm).length = lc.length - mm := List.length_drop
   generalize lc.drop mm = l2 at hcut2 HI2 hc2 hl2 hH
   have hb2 : bs.length + l2.length ≤ bl := by omega
   have HL2 := mk0 hl2
   clear hl2
   have HI2' := mk0 HI2
   clear HI2
   have hL5 : (splice L q_ bs).length = l.length := by rw [length_splice _ _ _ (by omega)]; exact hLl
   have hT5 := splice_take (bs := bs) HE.out.2.2 HE.out.1 (by omega)
   have HU2 := mk0 (HU.out.mono (fun e_ w_ (h_ : e_ = _ ∧ BF wr w0 w_ (w.heap.size + 1) 5 (splice L q_ bs)) => (⟨by rw [h_.1, if_neg hm], h_.2⟩ : e_ = .returned (.tuple #[.int .i64 (mm : Int), .int .i64 (bs.length : Int)]) ∧ BF wr w0 w_ (w.heap.size + 1) 5 (splice L q_ bs))))
   clear HU
   generalize splice L q_ bs = L5 at HU2 hL5 hT5
   have HT5 := mk0 hT5
   clear hT5 hm
   rcases ixL_range l2 with hix | ⟨j, hix, hj1, hj2⟩
   ·rw [if_pos hix] at hH
    obtain rfl := Option.some.inj hH
    have HIX2 := mk0 (fun W_ (hB_ : Below w0.heap.size w0 W_) => idx_calls (HI2'.out.below hB_) (cc - mm))
    rw [hix] at HIX2
    obtain ⟨q3, hcutb3, hq3⟩ := cut_buf (w.heap.size + 1) q2 (bl - bs.length) (bc - bs.length) l2.length (by omega) (by omega)
    have hfin : ∀ W : World, (Instr.slice 29 (.slice (some ⟨(w.heap.size + 1), 0, none⟩) l.length l.length) none (some (.int .i64 ((l.length : Int) - (((bl - bs.length - l2.length) : Nat) : Int)))) none).run Tryd.prog W = .ok (.slice (some ⟨(w.heap.size + 1), 0, none⟩) (q_ + bs.length + l2.length) l.length) W := fun W => by
     rw [show (l.length : Int) - (((bl - bs.length - l2.length) : Nat) : Int) = ((q_ + bs.length + l2.length : Nat) : Int) by omega]
     exact slc_h (some ⟨(w.heap.size + 1), 0, none⟩) l.length l.length (q_ + bs.length + l2.length) (by omega) W
    go_wp2_with (first | (go_at_call 70; (with_reducible refine HU2.out.mono ?_); rintro e_ w5 ⟨rfl, hd5⟩; have K5 := mk0 (BF.tr HF.out.keep hd5); clear hd5) | (go_at_call 69; (with_reducible refine (HIX2.out _ (by first | exact K5.out.below | exact pw_below_drewN K5.out.below _)).mono ?_); rintro e_ w_ ⟨rfl, rfl⟩) | ((with_reducible refine gate_builtin (b := .copy) (xs := #[.tmp 61, .tmp 62]) rfl ?_); refine copy_BF (v := ((w.alloc (.cells #[.bool false, .bool false, .int .i64 0] 95)).alloc (.cells (nums .u8 L0).toArray 5))) (w0 := w0) rfl (.tmp 61) (.tmp 62) 29 29 rfl 5 Tryd.underlying29 sz1_ q2 (bl - bs.length) (bc - bs.length) b o2 l2.length (cc - mm) rfl rfl (q_ + bs.length) K5.out l2 rfl (by omega) (fun hp => hq2 (by omega)) (HI2'.out.below K5.out.below).cell (by omega) ?_; intro w6 K6_; have K6 := mk0 K6_; clear K6_ ))
    go_ret2
    have hlR : (E ++ bs ++ l2).length = q_ + bs.length + l2.length := by have := HE.out.1; simp only [List.length_append]; omega
    have hlE : (E ++ bs).length = q_ + bs.length := by have := HE.out.1; simp only [List.length_append]; omega
    have hRt := splice_take (L := L5) (q := q_ + bs.length) (bs := l2) HT5.out hlE (by omega)
    rw [← hlR] at hRt ⊢
    exact ⟨K6.out.below, _, _, rfl, by omega, K6.out.C hRt (by omega)⟩
   ·rw [if_neg (by omega), hix, Int.toNat_natCast] at hH
    have HIX2 := mk0 (fun W_ (hB_ : Below w0.heap.size w0 W_) => idx_calls (HI2'.out.below hB_) (cc - mm))
    rw [hix] at HIX2
    have hjb : (((j : Nat) : Int) == -1) = false := by simp
    have hjd : decide (((j : Nat) : Int) = -1) = false := decide_eq_false (by omega)
    obtain ⟨q3, hcutb3, hq3⟩ := cut_buf (w.heap.size + 1) q2 (bl - bs.length) (bc - bs.length) j (by omega) (by omega)
    obtain ⟨o3, hcut3, HI3, hc3⟩ := cut_in HI2'.out (cc - mm) j (by omega) hc2
    have hcuth3 := slc_h (some ⟨b, o2, none⟩) l2.length (cc - mm) j (by omega)
    have HI3' := mk0 HI3
    have HQ := mk0 hH
    clear HI3 hH
    have hlt3 : (l2.take j).length = j := by rw [List.length_take]; omega
    go_wp2_with (first | (go_at_call 70; (with_reducible refine HU2.out.mono ?_); rintro e_ w5 ⟨rfl, hd5⟩; have K5 := mk0 (BF.tr HF.out.keep hd5); clear hd5) | (go_at_call 69; (with_reducible refine (HIX2.out _ (by first | exact K5.out.below | exact pw_below_drewN K5.out.below _)).mono ?_); rintro e_ w_ ⟨rfl, rfl⟩) | ((with_reducible refine gate_builtin (b := .copy) (xs := #[.tmp 68, .tmp 71]) rfl ?_); refine copy_BF (v := ((w.alloc (.cells #[.bool false, .bool false, .int .i64 0] 95)).alloc (.cells (nums .u8 L0).toArray 5))) (w0 := w0) rfl (.tmp 68) (.tmp 71) 29 29 rfl 5 Tryd.underlying29 sz1_ q2 (bl - bs.length) (bc - bs.length) b o2 j (cc - mm) rfl rfl (q_ + bs.length) K5.out (l2.take j) hlt3 (by omega) (fun hp => hq2 (by omega)) (fun i_ hi_ => ((HI2'.out.take j (by omega)).below K5.out.below).cell i_ (by omega)) (by omega) ?_; intro w6 K6_; have K6 := mk0 K6_; clear K6_ ))
    go_roundg kr
    case measure => have := HK1.out; omega
    case rel =>
     have hl2 := HL2.out
     have hl3 : (l2.drop j).length = l2.length - j := List.length_drop
     have e2 : q2 = q_ + bs.length := hq2 (by omega)
     have e3 : q3 = q_ + bs.length + j := by have := hq3 (by omega); omega
     subst e2
     subst e3
     refine ⟨l2.drop j, o3, cc - mm - j, q_ + bs.length + j, bl - bs.length - j, bc - bs.length - j, E ++ bs ++ l2.take j, splice L5 (q_ + bs.length) (l2.take j), (by first | rfl | (simp; done)), (by first | rfl | (simp; done)), ⟨by have := HK1.out; omega⟩, HI3', ⟨hc3, by omega, by omega, by omega, by omega, by omega⟩, ⟨by have := HE.out.1; simp only [List.length_append]; omega, by rw [length_splice _ _ _ (by omega)]; exact hL5, ?_⟩, HQ, K6⟩
     have := splice_take (L := L5) (q := q_ + bs.length) (bs := l2.take j) HT5.out (by have := HE.out.1; simp only [List.length_append]; omega) (by omega)
     rwa [hlt3] at this
set_option maxHeartbeats 8000000 in
set_option maxRecDepth 100000 in
theorem uc_none (l : List Int) (b o c : Nat) (w0 w : World) (ov : Value) (hB : Below w0.heap.size w0 w) (hI : IN w0 b o l) (hc : l.length ≤ c) (hj : ixL l = -1) :
 Calls Tryd.prog 58 #[.agg #[.bool false, .bool false, .int .i64 0], .slice (some ⟨b, o, none⟩) l.length c, ov] w fun e w' => UPost w0 (some l) e w' := by
 have HI := mk0 hI
 have HIX := mk0 (fun W_ (hB_ : Below w0.heap.size w0 W_) => idx_calls (hI.below hB_) c)
 rw [hj] at HIX
 have HBA := mk0 (show Below w0.heap.size w0 (w.alloc (.cells #[.bool false, .bool false, .int .i64 0] 95)) from below_alloc hB _)
 clear hI hj hB
 go_enter Tryd.func58, Tryd.ntmps58
 go_wp2_with (first | (go_at_call 69; (with_reducible refine (HIX.out _ HBA.out).mono ?_); rintro e_ w_ ⟨rfl, rfl⟩))
 go_ret2
 exact ⟨HBA.out, _, _, rfl, hc, (HI.out.below HBA.out).C⟩
theorem unc_nil (k : Nat) (l : List Int) (b o c : Nat) (w0 w : World) (res : Option (List Int)) (hT : Laid w0) (hB : Below w0.heap.size w0 w) (hI : IN w0 b o l) (hc : l.length ≤ c) (hcm : c ≤ 9223372036854775807) (h : unc k l = some res) :
 Calls Tryd.prog 58 #[.agg #[.bool false, .bool false, .int .i64 0], .slice (some ⟨b, o, none⟩) l.length c, .slice none 0 0] w fun e w' => UPost w0 res e w' := by
 unfold unc at h
 rcases ixL_range l with hj | ⟨j, hj, hj1, _⟩
 ·rw [if_pos hj] at h
  obtain rfl := Option.some.inj h
  exact uc_none l b o c w0 w _ hB hI hc hj
 ·rw [if_neg (by omega), hj, Int.toNat_natCast] at h
  exact uc_make k l b o c w0 w res _ _ _ hT hB hI hc hcm j hj hj1 (by omega) h
set_option maxHeartbeats 8000000 in
set_option maxRecDepth 100000 in
theorem ue_calls (l : List Int) (b o c : Nat) (w0 w : World) (res : Option (List Int)) (ov : Value) (hT : Laid w0) (hB : Below w0.heap.size w0 w)
 (hU : Calls Tryd.prog 58 #[.agg #[.bool false, .bool false, .int .i64 0], .slice (some ⟨b, o, none⟩) l.length c, ov] w fun e w' => UPost w0 res e w') :
 Calls Tryd.prog 33 #[.slice (some ⟨b, o, none⟩) l.length c, ov] w fun e w' => UPost w0 res e w' := by
 have c0 := (hT.below hB).cfg0
 have c1 := (hT.below hB).cfg1
 have c2 := (hT.below hB).cfg2
 have HU := mk0 hU
 clear hT hB hU
 cases res with
 | some R =>
  go_enter Tryd.func33, Tryd.ntmps33
  go_wp2_with (first | (go_at_call 58; (with_reducible refine HU.out.mono ?_); rintro e_ w_ ⟨hb, A', c', rfl, hc', hC'⟩; have K := mk0 (And.intro hb (And.intro hc' hC')); clear hb hc' hC'))
  go_ret2
  exact ⟨K.out.1, A', c', rfl, K.out.2.1, K.out.2.2⟩
 | none =>
  go_enter Tryd.func33, Tryd.ntmps33
  go_wp2_with (first | (go_at_call 58; (with_reducible refine HU.out.mono ?_); rintro e_ w_ ⟨hb, te, pe, rfl, hesc⟩; have K := mk0 (And.intro hb hesc); clear hb hesc))
  go_ret2
  exact ⟨K.out.1, te, pe, rfl, K.out.2⟩
theorem stp_mono (k : Nat) (l : List Int) : LeO (stp k l) (stp (k + 1) l) := by
 unfold stp
 exact LeO.ite (LeO.refl _) (LeO.ite (LeO.ite (LeO.refl _) (LeO.ite (LeO.bind (jsonparser_decodeUnicodeEscape.mono _ _) (fun _ => LeO.refl _)) (LeO.refl _))) (LeO.refl _))
theorem jun_mono (k : Nat) : ∀ (f : Nat) (l E : List Int), LeO (jun k f l E) (jun (k + 1) (f + 1) l E)
 | 0, _, _ => fun r h => by simp [jun] at h
 | f + 1, l, E => by
  rw [jun, jun]
  exact LeO.bind (stp_mono k l) (fun _ => LeO.ite (LeO.refl _) (LeO.ite (LeO.ite (LeO.refl _) (jun_mono k f _ _)) (LeO.refl _)))
theorem unc_mono (k : Nat) (l : List Int) : LeO (unc k l) (unc (k + 1) l) := by
 unfold unc
 exact LeO.ite (LeO.refl _) (jun_mono k k _ _)
theorem in_bytes (w : World) (s : ByteArray) (hs : s.size ≤ 2147483647) : IN (Lib.bytesWorld w 5 s) w.heap.size 0 (bytesOf s) := by
 refine ⟨fun i hi => ?_, by rw [Lib.bytesWorld_size]; omega, J.bytesOf_range s, by rw [bytesOf_length]; exact hs⟩
 rw [bytesOf_length] at hi
 obtain ⟨ad, e, h⟩ := (bytes_reads w 5 s (by omega)).2.2 (by omega)
 cases e
 have := h i hi
 rw [add_at] at this
 exact this
theorem Snt.ne {w : World} {p p' : Addr} {s s' : ByteArray} {c c' : UInt8} (h1 : w.cell? p = some (.string s)) (h2 : s.data.toList.head? = some c) (k1 : w.cell? p' = some (.string s')) (k2 : s'.data.toList.head? = some c') (hc : c ≠ c') : p ≠ p' := by
 rintro rfl
 rw [h1] at k1
 cases k1
 rw [h2] at k2
 exact hc (Option.some.inj k2)
theorem cmp_err : ((Tryd.prog).info? 134).map (·.comparable) = some true := by kernel_rfl
theorem siz_err : ((Tryd.prog).info? 136).map (·.size) = some 1 := by kernel_rfl
theorem eql_no {W : World} {x a : Addr} {cx ca : Array Value} {tx ta : TypeId} (hx : W.heap[x.block]? = some (.cells cx tx (0, 0))) (ha : W.heap[a.block]? = some (.cells ca ta (0, 0))) (h : x ≠ a) :
 (binOp .eql 59 (.iface 134 (.pointer (some x))) (.iface 134 (.pointer (some a)))).run Tryd.prog W = .ok (.bool false) W := by
 obtain ⟨i, hi, hcmp⟩ := Option.map_eq_some_iff.1 cmp_err
 obtain ⟨j, hj, hjs⟩ := Option.map_eq_some_iff.1 siz_err
 exact run_eql_iface_ptr_other (P := Tryd.prog) W Tryd.underlying59 Tryd.underlying134 hi hcmp hj (by rw [hjs]; decide) h hx ha
theorem eql_yes (W : World) (x : Addr) : (binOp .eql 59 (.iface 134 (.pointer (some x))) (.iface 134 (.pointer (some x)))).run Tryd.prog W = .ok (.bool true) W := by
 obtain ⟨i, hi, hcmp⟩ := Option.map_eq_some_iff.1 cmp_err
 obtain ⟨j, hj, hjs⟩ := Option.map_eq_some_iff.1 siz_err
 exact run_eql_iface_ptr_same (P := Tryd.prog) W x Tryd.underlying59 Tryd.underlying134 hi hcmp hj
set_option maxHeartbeats 8000000 in
set_option maxRecDepth 100000 in
theorem jk_nil (w : World) : Calls Tryd.prog 34 #[.nilIface] w fun e w' => e = .returned (.int .i64 0) ∧ w' = w := by
 go_enter Tryd.func34, Tryd.ntmps34
 go_wp2
 go_ret
 exact ⟨rfl, rfl⟩
set_option maxHeartbeats 8000000 in
set_option maxRecDepth 100000 in
theorem jk_esc (w : World) (hT : Laid w) (te : Nat) (pe : Value) (he : w.cell? ⟨10, 0, none⟩ = some (.iface te pe)) : Calls Tryd.prog 34 #[.iface te pe] w fun e w' => e = .returned (.int .i64 9) ∧ Drawn0 w w' := by
 obtain ⟨p9, t9, b9, y9, g9, c9, d9, k9⟩ := hT.s9
 rw [g9] at he
 cases he
 obtain ⟨p1, t1, b1, y1, g1, c1, d1, k1⟩ := hT.s1
 obtain ⟨p2, t2, b2, y2, g2, c2, d2, k2⟩ := hT.s2
 obtain ⟨p3, t3, b3, y3, g3, c3, d3, k3⟩ := hT.s3
 obtain ⟨p4, t4, b4, y4, g4, c4, d4, k4⟩ := hT.s4
 obtain ⟨p5, t5, b5, y5, g5, c5, d5, k5⟩ := hT.s5
 obtain ⟨p6, t6, b6, y6, g6, c6, d6, k6⟩ := hT.s6
 obtain ⟨p7, t7, b7, y7, g7, c7, d7, k7⟩ := hT.s7
 obtain ⟨p8, t8, b8, y8, g8, c8, d8, k8⟩ := hT.s8
 have n1 := eql_no k9 k1 (Snt.ne c9 d9 c1 d1 (by decide))
 have n2 := eql_no k9 k2 (Snt.ne c9 d9 c2 d2 (by decide))
 have n3 := eql_no k9 k3 (Snt.ne c9 d9 c3 d3 (by decide))
 have n4 := eql_no k9 k4 (Snt.ne c9 d9 c4 d4 (by decide))
 have n5 := eql_no k9 k5 (Snt.ne c9 d9 c5 d5 (by decide))
 have n6 := eql_no k9 k6 (Snt.ne c9 d9 c6 d6 (by decide))
 have n7 := eql_no k9 k7 (Snt.ne c9 d9 c7 d7 (by decide))
 have n8 := eql_no k9 k8 (Snt.ne c9 d9 c8 d8 (by decide))
 have n9 := eql_yes w p9
 clear hT c1 c2 c3 c4 c5 c6 c7 c8 c9 d1 d2 d3 d4 d5 d6 d7 d8 d9 k1 k2 k3 k4 k5 k6 k7 k8 k9
 go_enter Tryd.func34, Tryd.ntmps34
 go_wp2
 go_ret
 exact ⟨rfl, by repeat (first | exact Drawn0.refl _ | apply Drawn0.step)⟩
def impl_JrUnescape.f (k : Nat) (a0 : ByteArray) : Option Int := if a0.size ≤ 2147483647 then (unc k (bytesOf a0)).bind fun r => some (if r.isSome = true then 0 else 9) else none
theorem impl_JrUnescape.mono : ∀ a0 k, LeO (impl_JrUnescape.f k a0) (impl_JrUnescape.f (k + 1) a0) := fun a0 k => LeO.ite (LeO.bind (unc_mono k _) (fun _ => LeO.refl _)) (LeO.refl _)
set_option maxHeartbeats 8000000 in
set_option maxRecDepth 100000 in
theorem impl_JrUnescape.calls (k : Nat) (a0 : ByteArray) (r : Int) (w : World) (hG : Laid w) (h : impl_JrUnescape.f k a0 = some r) :
 Calls Tryd.prog 19 #[.string a0] w fun e w' => e = .returned (.int .i64 r) ∧ Below w.heap.size w w' := by
 unfold impl_JrUnescape.f at h
 split at h
 case isFalse => cases h
 case isTrue hs =>
 obtain ⟨res, hU, h⟩ := Option.bind_eq_some_iff.mp h
 have hb := bytes_below (B := w.heap.size) (Below.refl _ w) (Nat.le_refl _) 5 a0
 have hbb : Below (Lib.bytesWorld w 5 a0).heap.size (Lib.bytesWorld w 5 a0) (Lib.bytesWorld w 5 a0) := Below.refl _ _
 have hT1 := hG.below hb
 have hp := ue_calls (bytesOf a0) w.heap.size 0 (grownCap w a0.size 0 5) (Lib.bytesWorld w 5 a0) (Lib.bytesWorld w 5 a0) res (.slice none 0 0) hT1 hbb (unc_nil k (bytesOf a0) w.heap.size 0 (grownCap w a0.size 0 5) (Lib.bytesWorld w 5 a0) (Lib.bytesWorld w 5 a0) res hT1 hbb (in_bytes w a0 hs) (by rw [bytesOf_length]; exact grownCap_ge w a0.size 0 5) (by have := grownCap_le_maxLen w a0.size 0 5 (by simp only [maxLen]; omega); simpa [maxLen] using this) hU)
 rw [bytesOf_length] at hp
 have HP := mk0 hp
 have HB := mk0 hb
 have HT := mk0 hG
 have HT1 := mk0 hT1
 have kb := fun W => print_bytes (P := Tryd.prog) 9 29 5 Tryd.underlying9 Tryd.underlying29 Tryd.underlying5 a0 W
 clear hb hp hU hG hbb hT1
 cases res with
 | some R =>
  obtain rfl := Option.some.inj h
  clear h
  go_enter Tryd.func19, Tryd.ntmps19
  go_wp2_with (first | (go_at_call 33; (with_reducible refine HP.out.mono ?_); rintro e_ w_ ⟨hd, A', c', rfl, _, _⟩; have K := mk0 (below_step HB.out hd); clear hd) | (go_at_call 34; (with_reducible refine (jk_nil _).mono ?_); rintro e_ w_ ⟨rfl, rfl⟩))
  go_ret
  exact ⟨rfl, by first | exact K.out | exact pw_below_drewN K.out _⟩
 | none =>
  obtain rfl := Option.some.inj h
  clear h
  go_enter Tryd.func19, Tryd.ntmps19
  go_wp2_with (first | (go_at_call 33; (with_reducible refine HP.out.mono ?_); rintro e_ w_ ⟨hd, te, pe, rfl, hesc⟩; have K := mk0 (below_step HB.out hd); have hcl := (bel_cell hd (World.block_lt_of_cell? _ _ hesc)).trans hesc; have KC := mk0 hcl; clear hd hesc hcl) | (go_at_call 34; (with_reducible refine (jk_esc _ (HT.out.below K.out) te pe KC.out).mono ?_); rintro e_ w_ ⟨rfl, ⟨nd, rfl⟩⟩))
  go_ret
  exact ⟨rfl, by first | exact K.out | exact pw_below_drewN K.out _⟩
end Go.Proofs.YtaigbkkgmncipaaDoor.Z
end
section
namespace Go.Proofs.YtaigbkkgmncipaaDoor.Z
open Go.RowKit Go.Proofs.YtaigbkkgmncipaaDoorW.PrintWords Go.Proofs.YtaigbkkgmncipaaDoorW.PrintLast Go.Proofs.YtaigbkkgmncipaaDoorW.PrintMore
attribute [local go_sem] max2_int min2_int max_two min_two max_three min_three max_four min_four
set_option linter.unusedVariables false
set_option linter.unusedSimpArgs false
def laws_FnJrUnescape.f (k : Nat) (a0 : ByteArray) : Option (Bool) := if (a0.size : Int) > 2147483647 then (some true) else (if (a0.size : Int) > 65536 then (some true) else ((spec_Unescape.f k a0).bind fun bt101 => (if bt101.2 = true then ((impl_JrUnescape.f k a0).bind fun t103 => (if t103 = 0 then ((impl_JrUnescape.f k (⟨#[92]⟩ : ByteArray)).bind fun t104 => (some (t104 == 9))) else (some false))) else ((impl_JrUnescape.f k a0).bind fun t105 => (if t105 = 9 then ((impl_JrUnescape.f k (⟨#[92]⟩ : ByteArray)).bind fun t106 => (some (t106 == 9))) else (some false))))))
theorem laws_FnJrUnescape.mono : ∀ a0 k, LeO (laws_FnJrUnescape.f k a0) (laws_FnJrUnescape.f (k + 1) a0) := by
 intro a0 k
 unfold laws_FnJrUnescape.f
 repeat' first
  | (with_reducible exact impl_JrUnescape.mono _ _)
  | (with_reducible exact spec_Unescape.mono _ _)
  | (with_reducible exact LeO.refl _)
  | (with_reducible exact LeO.none _)
  | (with_reducible refine LeO.ite ?_ ?_)
  | (with_reducible refine LeO.bind ?_ (fun _ => ?_))
  | exact impl_JrUnescape.mono _ _
  | exact spec_Unescape.mono _ _
  | exact LeO.none _
  | refine LeO.ite ?_ ?_
  | refine LeO.bind ?_ (fun _ => ?_)
set_option maxHeartbeats 8000000 in
set_option maxRecDepth 100000 in
theorem laws_FnJrUnescape.calls (k : Nat) (a0 : ByteArray) (r : Bool) (w : World) (hG : Laid w) (h : laws_FnJrUnescape.f k a0 = some r) :
 Calls Tryd.prog 5 #[.string a0] w fun e w' => e = .returned (.bool r) ∧ Below w.heap.size w w' := by
 have HG := mk0 hG
 clear hG
 have HB := mk0 (Below.refl w.heap.size w)
 have H : (if (a0.size : Int) > 2147483647 then (some true) else (if (a0.size : Int) > 65536 then (some true) else ((spec_Unescape.f k a0).bind fun bt101 => (if bt101.2 = true then ((impl_JrUnescape.f k a0).bind fun t103 => (if t103 = 0 then ((impl_JrUnescape.f k (⟨#[92]⟩ : ByteArray)).bind fun t104 => (some (t104 == 9))) else (some false))) else ((impl_JrUnescape.f k a0).bind fun t105 => (if t105 = 9 then ((impl_JrUnescape.f k (⟨#[92]⟩ : ByteArray)).bind fun t106 => (some (t106 == 9))) else (some false))))))) = some r := h
 clear h
 by_cases c2 : (a0.size : Int) > 2147483647
 ·rw [if_pos c2] at H
  have c2b0 : decide (2147483647 < (a0.size : Int)) = true := decide_eq_true c2
  have c2b1 : decide (2147483647 < a0.size) = true := decide_eq_true (by omega)
  clear c2
  obtain rfl := Option.some.inj H
  go_enter Tryd.func5, Tryd.ntmps5
  go_wp2
  go_ret
  exact ⟨by first | rfl | (simp [errW_none, errW_some] <;> rfl) | (simp [*, errW_none, errW_some] <;> rfl), by repeat (first | (with_reducible first | exact HB.out | apply below_alloc | apply pw_below_drewN | apply below_drew1) | exact HB.out)⟩
 rw [if_neg c2] at H
 have c2b0 : decide (2147483647 < (a0.size : Int)) = false := decide_eq_false c2
 have c2b1 : decide (2147483647 < a0.size) = false := decide_eq_false (by omega)
 clear c2
 by_cases c3 : (a0.size : Int) > 65536
 ·rw [if_pos c3] at H
  have c3b0 : decide (65536 < (a0.size : Int)) = true := decide_eq_true c3
  have c3b1 : decide (65536 < a0.size) = true := decide_eq_true (by omega)
  clear c3
  obtain rfl := Option.some.inj H
  go_enter Tryd.func5, Tryd.ntmps5
  go_wp2
  go_ret
  exact ⟨by first | rfl | (simp [errW_none, errW_some] <;> rfl) | (simp [*, errW_none, errW_some] <;> rfl), by repeat (first | (with_reducible first | exact HB.out | apply below_alloc | apply pw_below_drewN | apply below_drew1) | exact HB.out)⟩
 rw [if_neg c3] at H
 have c3b0 : decide (65536 < (a0.size : Int)) = false := decide_eq_false c3
 have c3b1 : decide (65536 < a0.size) = false := decide_eq_false (by omega)
 clear c3
 replace H := Option.bind_eq_some_iff.mp H
 obtain ⟨⟨t101, t102⟩, A40, H⟩ := H
 replace H : (if t102 = true then ((impl_JrUnescape.f k a0).bind fun t103 => (if t103 = 0 then ((impl_JrUnescape.f k (⟨#[92]⟩ : ByteArray)).bind fun t104 => (some (t104 == 9))) else (some false))) else ((impl_JrUnescape.f k a0).bind fun t105 => (if t105 = 9 then ((impl_JrUnescape.f k (⟨#[92]⟩ : ByteArray)).bind fun t106 => (some (t106 == 9))) else (some false)))) = some r := H
 have A4 := mk0 A40
 clear A40
 by_cases c5 : t102 = true
 ·subst c5
  have H1 : ((impl_JrUnescape.f k a0).bind fun t103 => (if t103 = 0 then ((impl_JrUnescape.f k (⟨#[92]⟩ : ByteArray)).bind fun t104 => (some (t104 == 9))) else (some false))) = some r := by rw [if_pos rfl] at H; exact H
  clear H
  have H := H1
  clear H1
  replace H := Option.bind_eq_some_iff.mp H
  obtain ⟨t103, A60, H⟩ := H
  replace H : (if t103 = 0 then ((impl_JrUnescape.f k (⟨#[92]⟩ : ByteArray)).bind fun t104 => (some (t104 == 9))) else (some false)) = some r := H
  have A6 := mk0 A60
  clear A60
  by_cases c7 : t103 = 0
  rotate_left
  ·rw [if_neg c7] at H
   have c7b0 : (t103 == 0) = false := beq_eq_false_iff_ne.mpr c7
   have c7b1 : (t103 != 0) = true := bne_iff_ne.mpr c7
   obtain rfl := Option.some.inj H
   go_enter Tryd.func5, Tryd.ntmps5
   go_wp2_with (first | ((with_reducible refine gate_callee (f := 18) rfl ?_); refine goesL_ (some 14) rfl rfl Tryd.func18 zq14 rfl #[.string a0] rfl zq1 ?_; (with_reducible refine (spec_Unescape.calls k a0 t101 true _ A4.out).mono ?_); rintro e w12 ⟨rfl, hb⟩; refine ⟨_, rfl, ?_⟩; have n0_ := mk0 (below_step zq0 hb); clear HB; have HB := n0_; clear n0_; (try clear hb); (try clear hb2); (try clear hk); (try clear hi)) | ((with_reducible refine gate_callee (f := 19) rfl ?_); refine goesL_ (some 19) rfl rfl Tryd.func19 zq14 rfl #[.string a0] rfl zq1 ?_; (with_reducible refine (impl_JrUnescape.calls k a0 t103 _ ?side1 A6.out).mono ?_); (case side1 => exact zq15); rintro e w13 ⟨rfl, hb⟩; refine ⟨_, rfl, ?_⟩; have n0_ := mk0 (below_step zq0 hb); clear HB; have HB := n0_; clear n0_; (try clear hb); (try clear hb2); (try clear hk); (try clear hi)))
   go_ret
   exact ⟨by first | rfl | (simp [errW_none, errW_some] <;> rfl) | (simp [*, errW_none, errW_some] <;> rfl), by repeat (first | (with_reducible first | exact HB.out | apply below_alloc | apply pw_below_drewN | apply below_drew1) | exact HB.out)⟩
  rw [if_pos c7] at H
  have c7b0 : (t103 == 0) = true := beq_iff_eq.mpr c7
  have c7b1 : (t103 != 0) = false := bne_eq_false_iff_eq.mpr c7
  clear c7
  replace H := Option.bind_eq_some_iff.mp H
  obtain ⟨t104, A80, H⟩ := H
  replace H : (some (t104 == 9)) = some r := H
  have A8 := mk0 A80
  clear A80
  obtain rfl := Option.some.inj H
  go_enter Tryd.func5, Tryd.ntmps5
  go_wp2_with (first | ((with_reducible refine gate_callee (f := 18) rfl ?_); refine goesL_ (some 14) rfl rfl Tryd.func18 zq14 rfl #[.string a0] rfl zq1 ?_; (with_reducible refine (spec_Unescape.calls k a0 t101 true _ A4.out).mono ?_); rintro e w9 ⟨rfl, hb⟩; refine ⟨_, rfl, ?_⟩; have n0_ := mk0 (below_step zq0 hb); clear HB; have HB := n0_; clear n0_; (try clear hb); (try clear hb2); (try clear hk); (try clear hi)) | ((with_reducible refine gate_callee (f := 19) rfl ?_); refine goesL_ (some 19) rfl rfl Tryd.func19 zq14 rfl #[.string a0] rfl zq1 ?_; (with_reducible refine (impl_JrUnescape.calls k a0 t103 _ ?side1 A6.out).mono ?_); (case side1 => exact zq15); rintro e w10 ⟨rfl, hb⟩; refine ⟨_, rfl, ?_⟩; have n0_ := mk0 (below_step zq0 hb); clear HB; have HB := n0_; clear n0_; (try clear hb); (try clear hb2); (try clear hk); (try clear hi)) | (go_at_call 19; (with_reducible refine (impl_JrUnescape.calls k (⟨#[92]⟩ : ByteArray) t104 _ ?side1 A8.out).mono ?_); (case side1 => exact zq15); rintro e w11 ⟨rfl, hb⟩; have n0_ := mk0 (below_step zq0 hb); clear HB; have HB := n0_; clear n0_; (try clear hb); (try clear hb2); (try clear hk); (try clear hi)))
  go_ret
  exact ⟨by first | rfl | (simp [errW_none, errW_some] <;> rfl) | (simp [*, errW_none, errW_some] <;> rfl), by repeat (first | (with_reducible first | exact HB.out | apply below_alloc | apply pw_below_drewN | apply below_drew1) | exact HB.out)⟩
 replace c5 := Bool.eq_false_iff.mpr c5
 subst c5
 have H1 : ((impl_JrUnescape.f k a0).bind fun t105 => (if t105 = 9 then ((impl_JrUnescape.f k (⟨#[92]⟩ : ByteArray)).bind fun t106 => (some (t106 == 9))) else (some false))) = some r := by rw [if_neg (show ¬ (false = true) by decide)] at H; exact H
 clear H
 have H := H1
 clear H1
 replace H := Option.bind_eq_some_iff.mp H
 obtain ⟨t105, A140, H⟩ := H
 replace H : (if t105 = 9 then ((impl_JrUnescape.f k (⟨#[92]⟩ : ByteArray)).bind fun t106 => (some (t106 == 9))) else (some false)) = some r := H
 have A14 := mk0 A140
 clear A140
 by_cases c15 : t105 = 9
 rotate_left
 ·rw [if_neg c15] at H
  have c15b0 : (t105 == 9) = false := beq_eq_false_iff_ne.mpr c15
  have c15b1 : (t105 != 9) = true := bne_iff_ne.mpr c15
  obtain rfl := Option.some.inj H
  go_enter Tryd.func5, Tryd.ntmps5
  go_wp2_with (first | ((with_reducible refine gate_callee (f := 18) rfl ?_); refine goesL_ (some 14) rfl rfl Tryd.func18 zq14 rfl #[.string a0] rfl zq1 ?_; (with_reducible refine (spec_Unescape.calls k a0 t101 false _ A4.out).mono ?_); rintro e w20 ⟨rfl, hb⟩; refine ⟨_, rfl, ?_⟩; have n0_ := mk0 (below_step zq0 hb); clear HB; have HB := n0_; clear n0_; (try clear hb); (try clear hb2); (try clear hk); (try clear hi)) | ((with_reducible refine gate_callee (f := 19) rfl ?_); refine goesL_ (some 19) rfl rfl Tryd.func19 zq14 rfl #[.string a0] rfl zq1 ?_; (with_reducible refine (impl_JrUnescape.calls k a0 t105 _ ?side1 A14.out).mono ?_); (case side1 => exact zq15); rintro e w21 ⟨rfl, hb⟩; refine ⟨_, rfl, ?_⟩; have n0_ := mk0 (below_step zq0 hb); clear HB; have HB := n0_; clear n0_; (try clear hb); (try clear hb2); (try clear hk); (try clear hi)))
  go_ret
  exact ⟨by first | rfl | (simp [errW_none, errW_some] <;> rfl) | (simp [*, errW_none, errW_some] <;> rfl), by repeat (first | (with_reducible first | exact HB.out | apply below_alloc | apply pw_below_drewN | apply below_drew1) | exact HB.out)⟩
 rw [if_pos c15] at H
 have c15b0 : (t105 == 9) = true := beq_iff_eq.mpr c15
 have c15b1 : (t105 != 9) = false := bne_eq_false_iff_eq.mpr c15
 clear c15
 replace H := Option.bind_eq_some_iff.mp H
 obtain ⟨t106, A160, H⟩ := H
 replace H : (some (t106 == 9)) = some r := H
 have A16 := mk0 A160
 clear A160
 obtain rfl := Option.some.inj H
 go_enter Tryd.func5, Tryd.ntmps5
 go_wp2_with (first | ((with_reducible refine gate_callee (f := 18) rfl ?_); refine goesL_ (some 14) rfl rfl Tryd.func18 zq14 rfl #[.string a0] rfl zq1 ?_; (with_reducible refine (spec_Unescape.calls k a0 t101 false _ A4.out).mono ?_); rintro e w17 ⟨rfl, hb⟩; refine ⟨_, rfl, ?_⟩; have n0_ := mk0 (below_step zq0 hb); clear HB; have HB := n0_; clear n0_; (try clear hb); (try clear hb2); (try clear hk); (try clear hi)) | ((with_reducible refine gate_callee (f := 19) rfl ?_); refine goesL_ (some 19) rfl rfl Tryd.func19 zq14 rfl #[.string a0] rfl zq1 ?_; (with_reducible refine (impl_JrUnescape.calls k a0 t105 _ ?side1 A14.out).mono ?_); (case side1 => exact zq15); rintro e w18 ⟨rfl, hb⟩; refine ⟨_, rfl, ?_⟩; have n0_ := mk0 (below_step zq0 hb); clear HB; have HB := n0_; clear n0_; (try clear hb); (try clear hb2); (try clear hk); (try clear hi)) | (go_at_call 19; (with_reducible refine (impl_JrUnescape.calls k (⟨#[92]⟩ : ByteArray) t106 _ ?side1 A16.out).mono ?_); (case side1 => exact zq15); rintro e w19 ⟨rfl, hb⟩; have n0_ := mk0 (below_step zq0 hb); clear HB; have HB := n0_; clear n0_; (try clear hb); (try clear hb2); (try clear hk); (try clear hi)))
 go_ret
 exact ⟨by first | rfl | (simp [errW_none, errW_some] <;> rfl) | (simp [*, errW_none, errW_some] <;> rfl), by repeat (first | (with_reducible first | exact HB.out | apply below_alloc | apply pw_below_drewN | apply below_drew1) | exact HB.out)⟩
def laws_FnJrUnescape.Pure : Prop := ∀ (a0 : ByteArray), a0.size ≤ 140737488351232 → ∃ k, laws_FnJrUnescape.f k a0 = some true
theorem laws_FnJrUnescape.walk (P : laws_FnJrUnescape.Pure) (a0 : ByteArray) (w : World) (hG : Laid w) (w0 : a0.size ≤ 140737488351232) :
 Calls Tryd.prog 5 #[.string a0] w fun e w' => e = .returned (.bool true) ∧ Below w.heap.size w w' := by
 obtain ⟨k, h⟩ := P a0 w0
 refine (laws_FnJrUnescape.calls k a0 true w hG h).mono ?_
 rintro e w' ⟨rfl, hd⟩
 exact ⟨rfl, hd⟩
end Go.Proofs.YtaigbkkgmncipaaDoor.Z
end
section
namespace Go.Proofs.YtaigbkkgmncipaaDoor.J
open Go.RowKit Go.Proofs.YtaigbkkgmncipaaDoor.Z Go.Proofs.YtaigbkkgmncipaaDoorW.PrintWords Go.Proofs.YtaigbkkgmncipaaDoorW.PrintLast

theorem hexDigit_eq {c : Int} (h : 0 ≤ c ∧ c ≤ 255) : Ev (fun k => spec_hexDigit.f k c) ((hexv c).getD 0, (hexv c).isSome) := by
 refine ⟨2, fun k hk => ?_⟩
 obtain ⟨k, rfl⟩ : ∃ m, k = m + 2 := ⟨k - 2, by omega⟩
 unfold spec_hexDigit.f hexv
 simp only [spec_hexDigit.j0, spec_hexDigit.j1]
 by_cases h1 : 48 ≤ c ∧ c ≤ 57
 ·rw [if_pos h1.1, if_pos (by simp; omega), if_pos h1]
  simp; omega
 rw [if_neg h1]
 have key : (if 97 ≤ c then (if decide (c ≤ 102) = true then some ((c - 97) % 256 + 10, true) else if 65 ≤ c then if c ≤ 70 then some ((c - 65) % 256 + 10, true) else some (0, false) else some (0, false))
  else (if false = true then some ((c - 97) % 256 + 10, true) else if 65 ≤ c then if c ≤ 70 then some ((c - 65) % 256 + 10, true) else some (0, false) else some (0, false))) =
  some (((if 97 ≤ c ∧ c ≤ 102 then some (c - 87) else if 65 ≤ c ∧ c ≤ 70 then some (c - 55) else none : Option Int).getD 0, (if 97 ≤ c ∧ c ≤ 102 then some (c - 87) else if 65 ≤ c ∧ c ≤ 70 then some (c - 55) else none : Option Int).isSome)) := by
  by_cases h2 : 97 ≤ c ∧ c ≤ 102
  ·rw [if_pos h2.1, if_pos (by simp; omega), if_pos h2]
   simp; omega
  rw [if_neg h2]
  by_cases h3 : 65 ≤ c ∧ c ≤ 70
  ·rw [if_neg (by omega), if_neg (by simp), if_pos h3.1, if_pos h3.2, if_pos h3]
   simp; omega
  rw [if_neg h3]
  by_cases h4 : 97 ≤ c
  ·rw [if_pos h4, if_neg (by simp; omega), if_pos (by omega), if_neg (by omega)]
   rfl
  rw [if_neg h4, if_neg (by simp)]
  by_cases h5 : 65 ≤ c
  rotate_left
  ·rw [if_neg h5]
   rfl
  rw [if_pos h5, if_neg (by omega)]
  rfl
 by_cases h6 : 48 ≤ c
 rotate_left
 ·rw [if_neg h6, if_neg (by simp)]
  exact key
 rw [if_pos h6, if_neg (by simp; omega)]
 exact key
theorem here_cons {s : ByteArray} {i : Nat} {a : Int} {l : List Int} (h : From s i (a :: l)) : spec_reader_here.f s (i : Int) = some (a, s, (i : Int)) := by
 have := h.lt
 unfold spec_reader_here.f
 rw [if_pos (by omega), if_pos (by omega), h.bt]
theorem here_nil {s : ByteArray} {i : Nat} (h : From s i []) : spec_reader_here.f s (i : Int) = some (0, s, (i : Int)) := by
 have := h.nil
 unfold spec_reader_here.f
 rw [if_neg (by omega)]
theorem up {i n : Nat} (k : Nat) (h : i ≤ n) (hn : n ≤ 140737488351232) (hk : k ≤ 100) : wrap64 ((i : Int) + (k : Int)) = ((i + k : Nat) : Int) := by
 rw [w64 (by omega)]; omega
theorem up1 {i n : Nat} (h : i ≤ n) (hn : n ≤ 140737488351232) : wrap64 ((i : Int) + 1) = ((i + 1 : Nat) : Int) := up 1 h hn (by omega)
def hexs : Nat → List Int → Bool
  | 0, _ => true
  | _ + 1, [] => false
  | n + 1, a :: r => (hexv a).isSome && hexs n r
theorem hex4_hexs (l : List Int) : (hex4 l).isSome = hexs 4 l := by
 match l with
 | [] => rfl
 | [a] => simp [hex4, hexs]
 | [a, b] => simp [hex4, hexs]
 | [a, b, c] => simp [hex4, hexs]
 | a :: b :: c :: d :: r =>
  simp only [hex4, hexs]
  cases hexv a <;> cases hexv b <;> cases hexv c <;> cases hexv d <;> rfl
section
variable {s : ByteArray} (hs : s.size ≤ 140737488351232)
include hs
theorem esc_l0 : ∀ (n : Nat) (i : Nat) (l : List Int), n ≤ 4 → From s i l →
 (hexs n l = true → Ev (fun k => spec_reader_escape.l0 k (((4 - n : Nat) : Int)) s i) (true, s, ((i + n : Nat) : Int))) ∧
 (hexs n l = false → ∃ p, Ev (fun k => spec_reader_escape.l0 k (((4 - n : Nat) : Int)) s i) (false, s, p))
 | 0, i, l, _, h => ⟨fun _ => Ev.step (f := fun _ => some (true, s, (i : Int))) (fun k => by simp only [spec_reader_escape.l0]; rw [if_neg (by omega)]) (Ev.now _), fun h => by simp [hexs] at h⟩
 | n + 1, i, [], hn, h => by
  refine ⟨fun e => by simp [hexs] at e, fun _ => ⟨(i : Int), ?_⟩⟩
  refine Ev.step (f := fun k => (spec_hexDigit.f k 0).bind fun bt107 => (if bt107.2 = true then (spec_reader_escape.l0 k (wrap64 ((((4 - (n + 1) : Nat) : Int)) + 1)) s (wrap64 ((i : Int) + 1))) else some (false, s, (i : Int)))) (fun k => ?_) (Ev.bind (hexDigit_eq (by omega)) (Ev.congr (fun k => if_neg (by simp [hexv])) (Ev.now _)))
  simp only [spec_reader_escape.l0]
  rw [if_pos (by omega), here_nil h]
  rfl
 | n + 1, i, a :: l, hn, h => by
  have ih := esc_l0 n (i + 1) l (by omega) h.tail
  have e1 : wrap64 ((((4 - (n + 1) : Nat) : Int)) + 1) = (((4 - n : Nat) : Int)) := by rw [w64 (by omega)]; omega
  have e2 := up1 (Nat.le_of_lt h.lt) hs
  have st : ∀ R, Ev (fun k => if (hexv a).isSome = true then (spec_reader_escape.l0 k (((4 - n : Nat) : Int)) s ((i + 1 : Nat) : Int)) else some (false, s, (i : Int))) R → Ev (fun k => spec_reader_escape.l0 k (((4 - (n + 1) : Nat) : Int)) s i) R := fun R hR => by
   refine Ev.step (f := fun k => (spec_hexDigit.f k a).bind fun bt107 => (if bt107.2 = true then (spec_reader_escape.l0 k (((4 - n : Nat) : Int)) s ((i + 1 : Nat) : Int)) else some (false, s, (i : Int)))) (fun k => ?_) (Ev.bind (hexDigit_eq h.head) hR)
   simp only [spec_reader_escape.l0]
   rw [if_pos (by omega), here_cons h, e1]
   simp only [Option.bind_some, e2]
  by_cases ha : (hexv a).isSome = true
  rotate_left
  ·exact ⟨fun e => by simp [hexs, ha] at e, fun _ => ⟨_, st _ (Ev.congr (fun k => if_neg ha) (Ev.now _))⟩⟩
  refine ⟨fun e => ?_, fun e => ?_⟩
  ·simp only [hexs, Bool.and_eq_true] at e
   have := st _ (Ev.congr (fun k => if_pos ha) (ih.1 e.2))
   rwa [show i + 1 + n = i + (n + 1) by omega] at this
  ·rw [hexs, ha, Bool.true_and] at e
   obtain ⟨p, hp⟩ := ih.2 e
   exact ⟨p, st _ (Ev.congr (fun k => if_pos ha) hp)⟩
theorem escape_eq {i : Nat} {l : List Int} (h : From s i l) :
 (∀ r, escL l = some r → Ev (fun k => spec_reader_escape.f k s i) (true, s, ((s.size - r.length : Nat) : Int))) ∧
 (escL l = none → ∃ p, Ev (fun k => spec_reader_escape.f k s i) (false, s, p)) := by
 have j0 : ∀ a x, x = isE a → Ev (fun k => spec_reader_escape.j0 k a x s i) = Ev (fun k => if isE a = true then some (true, s, wrap64 ((i : Int) + 1)) else if a = 117 then spec_reader_escape.l0 (k - 1) 0 s (wrap64 ((i : Int) + 1)) else some (false, s, (i : Int))) := by
  intro a x e
  subst e
  funext R
  apply propext
  constructor
  ·rintro ⟨K, hK⟩
   refine ⟨K + 1, fun k hk => ?_⟩
   obtain ⟨k, rfl⟩ : ∃ m, k = m + 1 := ⟨k - 1, by omega⟩
   have := hK (k + 1) (by omega)
   simpa only [spec_reader_escape.j0, Nat.add_sub_cancel] using this
  ·rintro ⟨K, hK⟩
   refine ⟨K + 1, fun k hk => ?_⟩
   obtain ⟨k, rfl⟩ : ∃ m, k = m + 1 := ⟨k - 1, by omega⟩
   have := hK (k + 1) (by omega)
   simpa only [spec_reader_escape.j0, Nat.add_sub_cancel] using this
 have sh : ∀ {g : Nat → Option (Bool × ByteArray × Int)} {R}, Ev g R → Ev (fun k => g (k - 1)) R := by
  rintro g R ⟨K, hK⟩
  exact ⟨K + 1, fun k hk => hK _ (by omega)⟩
 match l, h with
 | [], h =>
  refine ⟨fun r hr => by simp [escL] at hr, fun _ => ⟨(i : Int), ?_⟩⟩
  refine Ev.congr (f := fun k => spec_reader_escape.j0 k 0 ((0 : Int) == 116) s i) (fun k => ?_) ?_
  ·unfold spec_reader_escape.f
   rw [here_nil h]
   rfl
  ·rw [j0 0 _ (by decide)]
   exact Ev.congr (fun k => by rw [if_neg (by decide), if_neg (by decide)]) (Ev.now _)
 | a :: l, h =>
  have e2 := up1 (Nat.le_of_lt h.lt) hs
  have hl := h.len
  simp only [List.length_cons] at hl
  have key : Ev (fun k => spec_reader_escape.f k s i) = Ev (fun k => spec_reader_escape.j0 k a (isE a) s i) := by
   congr 1
   funext k
   unfold spec_reader_escape.f
   rw [here_cons h]
   simp only [Option.bind_some, isE]
   by_cases h1 : a = 34
   ·rw [if_pos h1, h1]; rfl
   rw [if_neg h1]
   by_cases h2 : a = 92
   ·rw [if_pos h2, h2]; rfl
   rw [if_neg h2]
   by_cases h3 : a = 47
   ·rw [if_pos h3, h3]; rfl
   rw [if_neg h3]
   by_cases h4 : a = 98
   ·rw [if_pos h4, h4]; rfl
   rw [if_neg h4]
   by_cases h5 : a = 102
   ·rw [if_pos h5, h5]; rfl
   rw [if_neg h5]
   by_cases h6 : a = 110
   ·rw [if_pos h6, h6]; rfl
   rw [if_neg h6]
   by_cases h7 : a = 114
   ·rw [if_pos h7, h7]; rfl
   rw [if_neg h7]
   congr 1
   rw [Bool.eq_iff_iff]
   simp
   omega
  rw [key, j0 a _ rfl]
  by_cases h1 : isE a = true
  ·refine ⟨fun r hr => ?_, fun hr => (by rw [escL_let _ h1] at hr; cases hr)⟩
   rw [escL_let _ h1] at hr
   cases hr
   refine Ev.congr (fun k => if_pos h1) (Ev_same (Ev.now _) ?_)
   rw [e2, show i + 1 = s.size - l.length by omega]
  by_cases h2 : a = 117
  rotate_left
  ·refine ⟨fun r hr => (by rw [escL, if_neg h1, if_neg h2] at hr; cases hr), fun _ => ⟨(i : Int), Ev.congr (fun k => by rw [if_neg h1, if_neg h2]) (Ev.now _)⟩⟩
  subst h2
  have hh := esc_l0 hs 4 (i + 1) l (by omega) h.tail
  refine ⟨fun r hr => ?_, fun hr => ?_⟩
  ·rw [escL, if_neg h1, if_pos rfl] at hr
   obtain ⟨v, hv, hr⟩ := Option.bind_eq_some_iff.mp hr
   cases hr
   have h4 : hexs 4 l = true := by rw [← hex4_hexs, hv]; rfl
   have hlen := hex4_len hv
   refine Ev.congr (f := fun k => spec_reader_escape.l0 (k - 1) 0 s ((i + 1 : Nat) : Int)) (fun k => by rw [if_neg h1, if_pos rfl, e2]) (Ev_same (sh (hh.1 h4)) ?_)
   rw [show i + 1 + 4 = s.size - (l.drop 4).length by rw [List.length_drop]; omega]
  ·rw [escL, if_neg h1, if_pos rfl] at hr
   have h4 : hexs 4 l = false := by
    rw [← hex4_hexs]
    cases hv : hex4 l with
    | none => rfl
    | some v => rw [hv] at hr; cases hr
   obtain ⟨p, hp⟩ := hh.2 h4
   exact ⟨p, Ev.congr (f := fun k => spec_reader_escape.l0 (k - 1) 0 s ((i + 1 : Nat) : Int)) (fun k => by rw [if_neg h1, if_pos rfl, e2]) (sh hp)⟩
end
end Go.Proofs.YtaigbkkgmncipaaDoor.J
end
section
namespace Go.Proofs.YtaigbkkgmncipaaDoor.J
open Go.RowKit Go.Proofs.YtaigbkkgmncipaaDoor.Z Go.Proofs.YtaigbkkgmncipaaDoorW.PrintWords Go.Proofs.YtaigbkkgmncipaaDoorW.PrintLast

inductive BodyE : List Int → Prop
  | nil : BodyE []
  | raw {c : Int} {l : List Int} : True → True → c ≠ 92 → BodyE l → BodyE (c :: l)
  | two {b : Int} {l : List Int} : isE b = true → BodyE l → BodyE (92 :: b :: l)
  | six {a b c d v : Int} {l : List Int} : hex4 (a :: b :: c :: d :: l) = some v → BodyE l → BodyE (92 :: 117 :: a :: b :: c :: d :: l)
theorem body_drop6E {m : Int} {l : List Int} (hb : BodyE l) (h : unitL l = some m) : BodyE (l.drop 6) := by
 cases hb with
 | nil => simp [unitL] at h
 | raw h1 h2 h3 hb =>
  unfold unitL at h
  split at h
  ·rename_i e
   injection e with e1 e2
   rw [if_neg (by omega)] at h
   cases h
  ·cases h
 | two h1 hb => rw [unitL_two (isE_ne h1)] at h; cases h
 | six h1 hb => exact hb
theorem up2 {i n : Nat} (h : i ≤ n) (hn : n ≤ 140737488351232) : wrap64 ((i : Int) + 2) = ((i + 2 : Nat) : Int) := up 2 h hn (by omega)
theorem up6 {i n : Nat} (h : i ≤ n) (hn : n ≤ 140737488351232) : wrap64 ((i : Int) + 6) = ((i + 6 : Nat) : Int) := up 6 h hn (by omega)
theorem high_eq (n : Int) : spec_high.f n = some (hiS n) := by
 unfold spec_high.f hiS
 by_cases h : 55296 ≤ n
 rotate_left
 ·rw [if_neg h]; simp [h]
 rw [if_pos h]; simp [h]
theorem low_eq (n : Int) : spec_low.f n = some (loS n) := by
 unfold spec_low.f loS
 by_cases h : 56320 ≤ n
 rotate_left
 ·rw [if_neg h]; simp [h]
 rw [if_pos h]; simp [h]
theorem td {c : Int} (h : 0 ≤ c) (k : Int) : Int.tdiv c k = c / k := Int.tdiv_eq_ediv_of_nonneg h
theorem tm {c : Int} (h : 0 ≤ c) (k : Int) : Int.tmod c k = c % k := Int.tmod_eq_emod_of_nonneg h
theorem appendUTF8_eq {l : List Int} {c : Int} (h0 : 0 ≤ c) (h1 : c ≤ 1114111) (hl : l.length + 4 < 140737488355328) : Ev (fun k => spec_appendUTF8.f k l c) (l ++ utf c) := by
 refine ⟨1, fun k hk => ?_⟩
 obtain ⟨k, rfl⟩ : ∃ m, k = m + 1 := ⟨k - 1, by omega⟩
 unfold spec_appendUTF8.f utf
 simp only [spec_appendUTF8.j0, high_eq, low_eq, Option.bind_some, td h0, tm h0]
 have e1 : wrap64 (c / 64) = c / 64 := w64 (by omega)
 have e2 : wrap64 (c / 4096) = c / 4096 := w64 (by omega)
 have e3 : wrap64 (c / 262144) = c / 262144 := w64 (by omega)
 rw [e1, e2, e3, tm (c := c / 64) (by omega), tm (c := c / 4096) (by omega)]
 by_cases a1 : c < 128
 ·rw [if_pos a1, if_pos a1, if_pos (by omega)]
  congr 3; omega
 rw [if_neg a1, if_neg a1]
 by_cases a2 : c < 2048
 ·rw [if_pos a2, if_pos a2, if_pos (by simp; omega)]
  rw [w64 (x := 192 + c / 64) (by omega), w64 (x := 128 + c % 64) (by omega)]
  congr 3
  ·omega
  ·congr 1; omega
 rw [if_neg a2, if_neg a2]
 by_cases a3 : hiS c = true
 ·rw [if_pos a3, if_pos trivial, if_pos (by simp; omega), if_pos (.inl a3)]
 rw [if_neg a3]
 by_cases a4 : loS c = true
 ·rw [if_pos a4, if_pos (by simp; omega), if_pos (.inr a4)]
 rw [if_neg a4, if_neg (show ¬ (hiS c = true ∨ loS c = true) from fun h => h.elim a3 a4)]
 by_cases a5 : c < 65536
 ·rw [if_pos a5, if_pos a5, if_pos (by simp; omega)]
  rw [w64 (x := 224 + c / 4096) (by omega), w64 (x := 128 + c / 64 % 64) (by omega), w64 (x := 128 + c % 64) (by omega)]
  congr 3
  ·omega
  ·congr 1
   ·omega
   ·congr 1; omega
 rw [if_neg a5, if_neg a5, if_pos (by simp; omega)]
 rw [w64 (x := 240 + c / 262144) (by omega), w64 (x := 128 + c / 4096 % 64) (by omega), w64 (x := 128 + c / 64 % 64) (by omega), w64 (x := 128 + c % 64) (by omega)]
 congr 3
 ·omega
 ·congr 1
  ·omega
  ·congr 1
   ·omega
   ·congr 1; omega
section
variable {s : ByteArray} (hs : s.size ≤ 140737488351232)
include hs
theorem unit_yes {i j : Nat} {a acc d : Int} {r : List Int} {R : Int × Bool} (h : From s j (a :: r)) (hi : i ≤ s.size) (hj : j < i + 6) (h0 : 0 ≤ acc ∧ acc ≤ 100000000) (hd : hexv a = some d)
 (k : Ev (fun k => spec_unit.l0 k s i (acc * 16 + d) ((j + 1 : Nat) : Int)) R) : Ev (fun k => spec_unit.l0 k s i acc j) R := by
 have hr := hexv_range hd
 refine Ev.step (f := fun k => (spec_hexDigit.f k a).bind fun bt101 => (if bt101.2 = true then (spec_unit.l0 k s i (wrap64 ((wrap64 (acc * 16)) + bt101.1)) ((j + 1 : Nat) : Int)) else some (0, false))) (fun k => ?_)
  (Ev.bind (hexDigit_eq h.head) (Ev.congr (fun n => ?_) k))
 ·have := h.lt
  simp only [spec_unit.l0]
  rw [up6 hi hs, if_pos (by omega), if_pos (by omega), if_pos (by omega), h.bt, up1 (Nat.le_of_lt h.lt) hs]
 ·rw [hd]
  simp only [Option.isSome_some, if_true, Option.getD_some]
  rw [w64 (x := acc * 16) (by omega), w64 (by omega)]
theorem unit_no {i j : Nat} {a acc : Int} {r : List Int} (h : From s j (a :: r)) (hi : i ≤ s.size) (hj : j < i + 6) (hd : hexv a = none) : Ev (fun k => spec_unit.l0 k s i acc j) (0, false) := by
 refine Ev.step (f := fun k => (spec_hexDigit.f k a).bind fun bt101 => (if bt101.2 = true then (spec_unit.l0 k s i (wrap64 ((wrap64 (acc * 16)) + bt101.1)) ((j + 1 : Nat) : Int)) else some (0, false))) (fun k => ?_)
  (Ev.bind (hexDigit_eq h.head) (Ev.congr (fun n => ?_) (Ev.now _)))
 ·have := h.lt
  simp only [spec_unit.l0]
  rw [up6 hi hs, if_pos (by omega), if_pos (by omega), if_pos (by omega), h.bt, up1 (Nat.le_of_lt h.lt) hs]
 ·rw [hd]
  rfl
theorem unit_l0 {i : Nat} {l : List Int} (h : From s (i + 2) l) (hl : 4 ≤ l.length) : Ev (fun k => spec_unit.l0 k s i 0 ((i + 2 : Nat) : Int)) ((hex4 l).getD 0, (hex4 l).isSome) := by
 match l, hl, h with
 | a :: b :: c :: d :: r, _, h =>
  have hz := h.len
  simp only [List.length_cons] at hz
  have hi : i ≤ s.size := by omega
  simp only [hex4]
  cases ea : hexv a with
  | none => exact Ev_same (unit_no hs h hi (by omega) ea) (by simp)
  | some x =>
   have := hexv_range ea
   refine unit_yes hs h hi (by omega) (by omega) ea ?_
   cases eb : hexv b with
   | none => exact Ev_same (unit_no hs h.tail hi (by omega) eb) (by simp)
   | some y =>
    have := hexv_range eb
    refine unit_yes hs h.tail hi (by omega) (by omega) eb ?_
    cases ec : hexv c with
    | none => exact Ev_same (unit_no hs h.tail.tail hi (by omega) ec) (by simp)
    | some z =>
     have := hexv_range ec
     refine unit_yes hs h.tail.tail hi (by omega) (by omega) ec ?_
     cases ed : hexv d with
     | none => exact Ev_same (unit_no hs h.tail.tail.tail hi (by omega) ed) (by simp)
     | some u =>
      have := hexv_range ed
      refine unit_yes hs h.tail.tail.tail hi (by omega) (by omega) ed ?_
      refine Ev.step (f := fun _ => some ((((0 * 16 + x) * 16 + y) * 16 + z) * 16 + u, true)) (fun k => ?_) (Ev_same (Ev.now _) (by simp))
      simp only [spec_unit.l0]
      rw [up6 hi hs, if_neg (by omega)]
theorem unit_eq {i : Nat} {l : List Int} (h : From s i l) : Ev (fun k => spec_unit.f k s i) ((unitL l).getD 0, (unitL l).isSome) := by
 have hz := h.len
 have no : Ev (fun k => spec_unit.j0 k s i true) (0, false) := Ev.step (f := fun _ => some (0, false)) (fun k => by simp only [spec_unit.j0]; rw [if_pos trivial]) (Ev.now _)
 unfold spec_unit.f
 have e0 : wrap64 ((s.size : Int) - (i : Int)) = ((l.length : Nat) : Int) := by rw [w64 (by omega)]; omega
 rw [e0]
 by_cases h6 : l.length < 6
 ·have e1 : unitL l = none := by
   cases e : unitL l with
   | none => rfl
   | some v => have := unitL_len e; omega
  rw [e1]
  exact Ev.congr (fun k => if_pos (by omega)) no
 match l, h, h6, hz with
 | [], _, h6, _ => exact absurd (by simp) h6
 | [a], _, h6, _ => exact absurd (by simp) h6
 | a :: b :: l, h, h6, hz =>
  simp only [List.length_cons] at h6 hz
  have hlt := h.lt
  have e1 : unitL (a :: b :: l) = if a = 92 ∧ b = 117 then hex4 l else none := rfl
  by_cases h1 : a = 92
  rotate_left
  ·rw [e1, if_neg (by omega)]
   refine Ev.congr (fun k => ?_) no
   rw [if_neg (by simp only [List.length_cons]; omega), if_pos (by omega), if_pos (by omega), h.bt, if_neg h1]
  refine Ev.congr (f := fun k => spec_unit.j0 k s i (b != 117)) (fun k => ?_) ?_
  ·rw [if_neg (by simp only [List.length_cons]; omega), if_pos (by omega), if_pos (by omega), h.bt, if_pos h1, up1 (Nat.le_of_lt h.lt) hs, if_pos (by omega), if_pos (by omega), h.tail.bt]
  ·by_cases h2 : b = 117
   rotate_left
   ·rw [e1, if_neg (by omega)]
    exact Ev.congr (fun k => by rw [bne_iff_ne.mpr h2]) no
   rw [e1, if_pos ⟨h1, h2⟩]
   refine Ev.congr (f := fun k => spec_unit.j0 k s i false) (fun k => by rw [h2]; rfl) ?_
   refine Ev.step (f := fun k => spec_unit.l0 k s i 0 ((i + 2 : Nat) : Int)) (fun k => ?_) (unit_l0 hs (by simpa using h.tail.tail) (by omega))
   simp only [spec_unit.j0]
   rw [if_neg (by decide), up2 (Nat.le_of_lt h.lt) hs]
omit hs in
theorem short_eq (b : Int) : spec_short.f b = some (unl b) := by
 unfold spec_short.f unl
 repeat' split
 all_goals rfl
omit hs in
theorem unitL_range {l : List Int} {v : Int} (h : unitL l = some v) : 0 ≤ v ∧ v ≤ 65535 := by
 unfold unitL at h
 split at h
 ·split at h
  ·exact hex4_range h
  ·cases h
 ·cases h
theorem unquote_l0 : ∀ (n i : Nat) (l acc : List Int), l.length ≤ n → From s i l → BodyE l → acc.length + l.length ≤ 140737488351232 → Ev (fun k => spec_Unquote.l0 k acc s i) (strOfNums (acc ++ unqL l))
 | n, i, [], acc, _, h, _, _ => by
  have := h.nil
  refine Ev.step (f := fun _ => some (strOfNums acc)) (fun k => ?_) (Ev_same (Ev.now _) (by rw [unqL_nil, List.append_nil]))
  simp only [spec_Unquote.l0]
  rw [if_neg (by omega)]
 | 0, i, c :: l, acc, hn, _, _, _ => by simp at hn
 | n + 1, i, c :: l, acc, hn, h, hb, hk => by
  simp only [List.length_cons] at hn hk
  have hlt := h.lt
  have hz := h.len
  simp only [List.length_cons] at hz
  have hle := Nat.le_of_lt hlt
  have e1 := up1 hle hs
  have e2 := up2 hle hs
  have e6 := up6 hle hs
  by_cases hc : c = 92
  rotate_left
  ·cases hb with
   | two h1 hb => exact absurd rfl hc
   | six h1 hb => exact absurd rfl hc
   | raw _ _ _ hb =>
    refine Ev.step (fun k => ?_) (Ev_same (unquote_l0 n (i + 1) l (acc ++ [c]) (by omega) h.tail hb (by simp; omega)) ?_)
    ·simp only [spec_Unquote.l0]
     rw [if_pos (by omega), if_pos (by omega), h.bt, if_neg hc, if_pos (by omega), e1]
    ·rw [unqL_raw _ hc, List.append_assoc]
     rfl
  subst hc
  have st : ∀ {a b R}, Ev (fun k => spec_unit.f k s i) (a, b) → Ev (fun x1 => (if b = true then ((spec_unit.f x1 s ((i + 6 : Nat) : Int)).bind fun bt110 => (if bt110.2 = true then ((spec_high.f a).bind fun t112 => (if t112 = true then ((spec_low.f bt110.1).bind fun t113 => (if t113 = true then ((spec_appendUTF8.f x1 acc (wrap64 ((wrap64 (65536 + (wrap64 ((wrap64 (a - 55296)) * 1024)))) + (wrap64 (bt110.1 - 56320))))).bind fun t114 => (spec_Unquote.l0 x1 t114 s (wrap64 (((i + 6 : Nat) : Int) + 6)))) else ((spec_appendUTF8.f x1 acc a).bind fun t117 => (spec_Unquote.l0 x1 t117 s ((i + 6 : Nat) : Int))))) else ((spec_appendUTF8.f x1 acc a).bind fun t120 => (spec_Unquote.l0 x1 t120 s ((i + 6 : Nat) : Int))))) else ((spec_appendUTF8.f x1 acc a).bind fun t123 => (spec_Unquote.l0 x1 t123 s ((i + 6 : Nat) : Int))))) else (if 0 ≤ ((i + 1 : Nat) : Int) then (if ((i + 1 : Nat) : Int) < (s.size : Int) then ((spec_short.f (bt s ((i + 1 : Nat) : Int))).bind fun t106 => (if acc.length < 140737488355328 then (spec_Unquote.l0 x1 (acc ++ [t106]) s ((i + 2 : Nat) : Int)) else (none))) else (none)) else (none)))) R → Ev (fun k => spec_Unquote.l0 k acc s i) R := fun {a b R} hx hy => by
   refine Ev.step (f := fun x1 => (spec_unit.f x1 s i).bind fun bt104 => (if bt104.2 = true then ((spec_unit.f x1 s ((i + 6 : Nat) : Int)).bind fun bt110 => (if bt110.2 = true then ((spec_high.f bt104.1).bind fun t112 => (if t112 = true then ((spec_low.f bt110.1).bind fun t113 => (if t113 = true then ((spec_appendUTF8.f x1 acc (wrap64 ((wrap64 (65536 + (wrap64 ((wrap64 (bt104.1 - 55296)) * 1024)))) + (wrap64 (bt110.1 - 56320))))).bind fun t114 => (spec_Unquote.l0 x1 t114 s (wrap64 (((i + 6 : Nat) : Int) + 6)))) else ((spec_appendUTF8.f x1 acc bt104.1).bind fun t117 => (spec_Unquote.l0 x1 t117 s ((i + 6 : Nat) : Int))))) else ((spec_appendUTF8.f x1 acc bt104.1).bind fun t120 => (spec_Unquote.l0 x1 t120 s ((i + 6 : Nat) : Int))))) else ((spec_appendUTF8.f x1 acc bt104.1).bind fun t123 => (spec_Unquote.l0 x1 t123 s ((i + 6 : Nat) : Int))))) else (if 0 ≤ ((i + 1 : Nat) : Int) then (if ((i + 1 : Nat) : Int) < (s.size : Int) then ((spec_short.f (bt s ((i + 1 : Nat) : Int))).bind fun t106 => (if acc.length < 140737488355328 then (spec_Unquote.l0 x1 (acc ++ [t106]) s ((i + 2 : Nat) : Int)) else (none))) else (none)) else (none)))) (fun k => ?_) (Ev.bind hx hy)
   simp only [spec_Unquote.l0]
   rw [if_pos (by omega), if_pos (by omega), if_pos h.bt, e1, e2, e6]
  have hu := unit_eq hs h
  cases hb with
  | raw _ _ h3 _ => exact absurd rfl h3
  | @two b l hE hb =>
   rw [unitL_two (isE_ne hE)] at hu
   refine st hu (Ev.congr (f := fun x1 => spec_Unquote.l0 x1 (acc ++ [unl b]) s ((i + 2 : Nat) : Int)) (fun k => ?_) ?_)
   ·rw [if_neg (by decide), if_pos (by omega), if_pos (by have := h.tail.lt; omega), h.tail.bt, short_eq, Option.bind_some, if_pos (by omega)]
   ·simp only [List.length_cons] at hn hk
    refine Ev_same (unquote_l0 n (i + 2) l (acc ++ [unl b]) (by omega) h.tail.tail hb (by simp; omega)) ?_
    rw [unqL_two _ (isE_ne hE), List.append_assoc]
    rfl
  | @six a b c d v l hx hb =>
   have hr := hex4_range hx
   rw [unitL_six hx] at hu
   simp only [List.length_cons] at hn hk
   have hF : From s (i + 6) l := h.tail.tail.tail.tail.tail.tail
   have hu2 := unit_eq hs hF
   have one : ∀ {R}, Ev (fun x1 => (spec_appendUTF8.f x1 acc v).bind fun t123 => (spec_Unquote.l0 x1 t123 s ((i + 6 : Nat) : Int))) R ↔ Ev (fun x1 => (spec_appendUTF8.f x1 acc v).bind fun t123 => (spec_Unquote.l0 x1 t123 s ((i + 6 : Nat) : Int))) R := Iff.rfl
   have hul := utf_len v
   have fin : Ev (fun x1 => (spec_appendUTF8.f x1 acc v).bind fun t123 => (spec_Unquote.l0 x1 t123 s ((i + 6 : Nat) : Int))) (strOfNums (acc ++ (utf v ++ unqL l))) := by
    refine Ev.bind (appendUTF8_eq hr.1 (by omega) (by omega)) ?_
    have := unquote_l0 n (i + 6) l (acc ++ utf v) (by omega) hF hb (by simp; omega)
    rwa [List.append_assoc] at this
   refine st hu ?_
   rw [unqL_six hx]
   refine Ev.congr (fun k => if_pos rfl) (Ev.bind hu2 ?_)
   simp only [Option.getD_some]
   cases hv2 : unitL l with
   | none =>
    have e : pairL v l = none := by unfold pairL; rw [hv2]; rfl
    rw [e]
    exact Ev.congr (fun k => if_neg (by simp)) fin
   | some m =>
    have hm := unitL_range hv2
    refine Ev.congr (f := fun x1 => if hiS v = true then (if loS m = true then ((spec_appendUTF8.f x1 acc (wrap64 ((wrap64 (65536 + (wrap64 ((wrap64 (v - 55296)) * 1024)))) + (wrap64 (m - 56320))))).bind fun t114 => (spec_Unquote.l0 x1 t114 s (wrap64 (((i + 6 : Nat) : Int) + 6)))) else ((spec_appendUTF8.f x1 acc v).bind fun t117 => (spec_Unquote.l0 x1 t117 s ((i + 6 : Nat) : Int)))) else ((spec_appendUTF8.f x1 acc v).bind fun t120 => (spec_Unquote.l0 x1 t120 s ((i + 6 : Nat) : Int)))) (fun k => ?_) ?_
    ·rw [if_pos (by simp), high_eq, Option.bind_some]
     simp only [low_eq, Option.bind_some, Option.getD_some]
    by_cases h3 : hiS v = true
    rotate_left
    ·have e : pairL v l = none := by unfold pairL; rw [hv2, Option.bind_some, if_neg (by simp [h3])]
     rw [e]
     exact Ev.congr (fun k => if_neg h3) fin
    by_cases h4 : loS m = true
    rotate_left
    ·have e : pairL v l = none := by unfold pairL; rw [hv2, Option.bind_some, if_neg (by simp [h4])]
     rw [e]
     exact Ev.congr (fun k => by rw [if_pos h3, if_neg h4]) fin
    have e : pairL v l = some m := by unfold pairL; rw [hv2, Option.bind_some, h3, h4]; rfl
    rw [e]
    have h3' := h3
    have h4' := h4
    simp only [hiS, decide_eq_true_eq] at h3'
    simp only [loS, decide_eq_true_eq] at h4'
    have h6 := unitL_len hv2
    have hC : wrap64 ((wrap64 (65536 + (wrap64 ((wrap64 (v - 55296)) * 1024)))) + (wrap64 (m - 56320))) = 65536 + (v - 55296) * 1024 + (m - 56320) := by
     rw [w64 (x := v - 55296) (by omega), w64 (x := (v - 55296) * 1024) (by omega), w64 (x := 65536 + (v - 55296) * 1024) (by omega), w64 (x := m - 56320) (by omega), w64 (by omega)]
    have hul2 := utf_len (65536 + (v - 55296) * 1024 + (m - 56320))
    refine Ev.congr (f := fun x1 => (spec_appendUTF8.f x1 acc (65536 + (v - 55296) * 1024 + (m - 56320))).bind fun t114 => (spec_Unquote.l0 x1 t114 s ((i + 6 + 6 : Nat) : Int))) (fun k => ?_) (Ev.bind (appendUTF8_eq (by omega) (by omega) (by omega)) ?_)
    ·rw [if_pos h3, if_pos h4, hC, up6 (i := i + 6) (by have := hF.len; omega) hs]
    ·have := unquote_l0 n (i + 6 + 6) (l.drop 6) (acc ++ utf (65536 + (v - 55296) * 1024 + (m - 56320))) (by rw [List.length_drop]; omega) (hF.drop 6 h6) (body_drop6E hb hv2) (by simp; omega)
     rwa [List.append_assoc] at this
theorem unquote_eq {b : List Int} (hq : bytesOf s = 34 :: (b ++ [34])) (hb : BodyE b) : Ev (fun k => spec_Unquote.f k s) (strOfNums (unqL b)) := by
 have hz : s.size = b.length + 2 := by
  have := congrArg List.length hq
  rw [bytesOf_length] at this
  simpa using this
 have e0 : wrap64 ((s.size : Int) - 1) = ((b.length + 1 : Nat) : Int) := by rw [w64 (by omega)]; omega
 have hF : From s 1 (b ++ [34]) := ⟨by omega, by rw [hq]; rfl⟩
 have hx : bytesOf (s.extract 1 (b.length + 1)) = b := by
  have := hF.extract
  rwa [Nat.add_comm] at this
 refine Ev.congr (f := fun k => spec_Unquote.l0 k [] (s.extract 1 (b.length + 1)) ((0 : Nat) : Int)) (fun k => ?_) ?_
 ·unfold spec_Unquote.f
  rw [e0, if_pos (by omega), if_pos (by omega), Int.toNat_natCast]
  rfl
 ·have hz2 : (s.extract 1 (b.length + 1)).size ≤ 140737488351232 := by
   rw [← bytesOf_length, hx]
   omega
  have := unquote_l0 hz2 b.length 0 b [] (Nat.le_refl _) (by have := From.start (s.extract 1 (b.length + 1)); rwa [hx] at this) hb (by simp; omega)
  simpa using this
end

end Go.Proofs.YtaigbkkgmncipaaDoor.J
end
section
namespace Go.Proofs.YtaigbkkgmncipaaDoor.J
open Go.RowKit Go.Proofs.YtaigbkkgmncipaaDoor.Z Go.Proofs.YtaigbkkgmncipaaDoorW.PrintWords Go.Proofs.YtaigbkkgmncipaaDoorW.PrintLast
set_option linter.unusedVariables false
set_option linter.unusedSimpArgs false
theorem h2I_eq {c : Int} (h : 0 ≤ c ∧ c ≤ 255) (k : Nat) : jsonparser_h2I.f (k + 4) c = some ((hexv c).getD (-1)) := by
 unfold jsonparser_h2I.f hexv
 by_cases h1 : 48 ≤ c ∧ c ≤ 57
 ·rw [if_pos (by omega), decide_eq_true h1.2, jsonparser_h2I.j0, if_pos rfl, if_pos h1]
  congr 1
  show _ = c - 48
  omega
 have e : (if c ≥ 48 then jsonparser_h2I.j0 (k + 4) c (decide (c ≤ 57)) else jsonparser_h2I.j0 (k + 4) c false) = jsonparser_h2I.j0 (k + 4) c false := by
  by_cases h48 : c ≥ 48
  rotate_left
  ·rw [if_neg h48]
  rw [if_pos h48, decide_eq_false (by omega)]
 rw [e, if_neg h1, jsonparser_h2I.j0, if_neg (by decide)]
 by_cases h2 : 65 ≤ c ∧ c ≤ 70
 ·rw [if_pos (by omega), decide_eq_true h2.2, jsonparser_h2I.j1, if_pos rfl, if_neg (by omega), if_pos h2]
  congr 1
  show _ = c - 55
  omega
 have e2 : (if c ≥ 65 then jsonparser_h2I.j1 (k + 3) c (decide (c ≤ 70)) else jsonparser_h2I.j1 (k + 3) c false) = jsonparser_h2I.j1 (k + 3) c false := by
  by_cases h65 : c ≥ 65
  rotate_left
  ·rw [if_neg h65]
  rw [if_pos h65, decide_eq_false (by omega)]
 rw [e2, jsonparser_h2I.j1, if_neg (by decide)]
 by_cases h3 : 97 ≤ c ∧ c ≤ 102
 ·rw [if_pos (by omega), if_pos (by omega), if_pos h3]
  congr 1
  show _ = c - 87
  omega
 rw [if_neg h3, if_neg h2]
 by_cases h97 : c ≥ 97
 rotate_left
 ·rw [if_neg h97]
  rfl
 rw [if_pos h97, if_neg (by omega)]
 rfl
def dS (l : List Int) : Int × Bool := if (l.length : Int) < 6 then (65533, false) else match hex4 (l.drop 2) with
  | some v => (v, true)
  | none => (65533, false)
theorem single_eq {l : List Int} (hr : ∀ x ∈ l, 0 ≤ x ∧ x ≤ 255) (k : Nat) : jsonparser_decodeSingleUnicodeEscape.f (k + 4) l = some (dS l) := by
 unfold jsonparser_decodeSingleUnicodeEscape.f dS
 by_cases h6 : (l.length : Int) < 6
 ·rw [if_pos h6, if_pos h6]
 rw [if_neg h6, if_neg h6]
 match l, h6, hr with
 | [], h6, _ => exact absurd h6 (by simp)
 | [_], h6, _ => exact absurd h6 (by simp)
 | [_, _], h6, _ => exact absurd h6 (by simp)
 | [_, _, _], h6, _ => exact absurd h6 (by simp)
 | [_, _, _, _], h6, _ => exact absurd h6 (by simp)
 | [_, _, _, _, _], h6, _ => exact absurd h6 (by simp)
 | p :: q :: a :: b :: c :: d :: r, h6, hr =>
  have ha := hr a (by simp)
  have hb := hr b (by simp)
  have hc := hr c (by simp)
  have hd := hr d (by simp)
  have e2 : rd (p :: q :: a :: b :: c :: d :: r) 2 = a := rfl
  have e3 : rd (p :: q :: a :: b :: c :: d :: r) 3 = b := rfl
  have e4 : rd (p :: q :: a :: b :: c :: d :: r) 4 = c := rfl
  have e5 : rd (p :: q :: a :: b :: c :: d :: r) 5 = d := rfl
  rw [if_pos (by omega), e2, h2I_eq ha, Option.bind_some, if_pos (by omega), e3, h2I_eq hb, Option.bind_some, if_pos (by omega), e4, h2I_eq hc, Option.bind_some, if_pos (by omega), e5, h2I_eq hd, Option.bind_some]
  simp only [List.drop_succ_cons, List.drop_zero, hex4]
  cases qa : hexv a with
  | none => simp
  | some va =>
   cases qb : hexv b with
   | none => have := hexv_range qa; simp [show va ≠ -1 by omega]
   | some vb =>
    cases qc : hexv c with
    | none => have := hexv_range qa; have := hexv_range qb; simp [show va ≠ -1 by omega, show vb ≠ -1 by omega]
    | some vc =>
     cases qd : hexv d with
     | none => have := hexv_range qa; have := hexv_range qb; have := hexv_range qc; simp [show va ≠ -1 by omega, show vb ≠ -1 by omega, show vc ≠ -1 by omega]
     | some vd =>
      have r1 := hexv_range qa
      have r2 := hexv_range qb
      have r3 := hexv_range qc
      have r4 := hexv_range qd
      simp only [Option.getD_some, Option.bind_some]
      rw [if_neg (by omega), if_neg (by omega), if_neg (by omega), if_neg (by omega)]
      have w1 : wrap64 (va * 4096) = va * 4096 := w64 (by omega)
      have w2 : wrap64 (vb * 256) = vb * 256 := w64 (by omega)
      have w3 : wrap64 (vc * 16) = vc * 16 := w64 (by omega)
      rw [w1, w2, w3, w64 (x := va * 4096 + vb * 256) (by omega), w64 (x := va * 4096 + vb * 256 + vc * 16) (by omega), w64 (x := va * 4096 + vb * 256 + vc * 16 + vd) (by omega)]
      have w4 : wrap32 (va * 4096 + vb * 256 + vc * 16 + vd) = va * 4096 + vb * 256 + vc * 16 + vd := by unfold wrap32; omega
      rw [w4]
      congr 2
      omega
def dU (l : List Int) : Int × Int :=
  if (dS l).2 = true then
    (if 55296 ≤ (dS l).1 ∧ (dS l).1 ≤ 57343 then
      (if (dS l).1 ≥ 56320 then (65533, 6)
       else if (l.length : Int) < 8 ∨ rd l 6 ≠ 92 ∨ rd l 7 ≠ 117 then (65533, 6)
       else if (dS (l.drop 6)).2 = true then
         (if (dS (l.drop 6)).1 < 56320 ∨ 57343 < (dS (l.drop 6)).1 then (65533, 6) else (65536 + ((dS l).1 - 55296) * 1024 + ((dS (l.drop 6)).1 - 56320), 12))
       else (65533, -1))
     else ((dS l).1, 6))
  else (65533, -1)
theorem dS_len {l : List Int} (h : (dS l).2 = true) : 6 ≤ l.length ∧ 0 ≤ (dS l).1 ∧ (dS l).1 ≤ 65535 := by
 unfold dS at h ⊢
 split at h
 ·cases h
 ·rename_i h6
  rw [if_neg h6]
  split at h
  ·rename_i v hv
   have := hex4_range hv
   simp only
   omega
  ·cases h
theorem decode_eq {l : List Int} (hr : ∀ x ∈ l, 0 ≤ x ∧ x ≤ 255) (k : Nat) : jsonparser_decodeUnicodeEscape.f (k + 5) l = some (dU l) := by
 have hS := single_eq hr (k + 1)
 have hS2 := single_eq (l := l.drop 6) (fun x hx => hr x (List.mem_of_mem_drop hx)) k
 have j0t : jsonparser_decodeUnicodeEscape.j0 (k + 5) l (dS l).1 true = some (65533, 6) := by rw [jsonparser_decodeUnicodeEscape.j0, if_pos rfl]
 unfold jsonparser_decodeUnicodeEscape.f dU
 rw [hS, Option.bind_some]
 cases hs : (dS l).2 with
 | false => rfl
 | true =>
  obtain ⟨h6, g0, g1⟩ := dS_len hs
  simp only [if_true, jsonparser_isUTF16EncodedRune.f]
  have e1 : (if 55296 ≤ (dS l).1 then some (decide ((dS l).1 ≤ 57343)) else some false) = some (decide (55296 ≤ (dS l).1 ∧ (dS l).1 ≤ 57343)) := by
   split <;> simp <;> omega
  rw [e1, Option.bind_some]
  by_cases hsu : 55296 ≤ (dS l).1 ∧ (dS l).1 ≤ 57343
  rotate_left
  ·rw [decide_eq_false hsu, if_neg (by decide), if_neg hsu]
  rw [decide_eq_true hsu, if_pos rfl, if_pos hsu]
  by_cases hlo : (dS l).1 ≥ 56320
  ·rw [if_pos hlo, if_pos hlo]
  rw [if_neg hlo, if_neg hlo]
  by_cases h8 : (l.length : Int) < 8
  ·rw [if_pos h8, j0t, if_pos (.inl h8)]
  rw [if_neg h8, if_pos (by omega)]
  by_cases h92 : rd l 6 = 92
  rotate_left
  ·rw [if_neg h92, j0t, if_pos (.inr (.inl h92))]
  rw [if_pos h92, if_pos (by omega)]
  by_cases h117 : rd l 7 = 117
  rotate_left
  ·have e2 : (rd l 7 != 117) = true := by simp [h117]
   rw [e2, j0t, if_pos (.inr (.inr h117))]
  have e2 : (rd l 7 != 117) = false := by simp [h117]
  have hno : ¬ ((l.length : Int) < 8 ∨ rd l 6 ≠ 92 ∨ rd l 7 ≠ 117) := by rintro (h | h | h) <;> omega
  rw [e2, jsonparser_decodeUnicodeEscape.j0, if_neg (by decide), if_pos (by omega), hS2, Option.bind_some, if_neg hno]
  cases hs2 : (dS (l.drop 6)).2 with
  | false => rfl
  | true =>
   obtain ⟨_, q0, q1⟩ := dS_len hs2
   simp only [if_true]
   by_cases ha : (dS (l.drop 6)).1 < 56320
   ·rw [if_pos ha, if_pos (.inl ha)]
   rw [if_neg ha]
   by_cases hb : (dS (l.drop 6)).1 > 57343
   ·rw [if_pos hb, if_pos (.inr hb)]
   rw [if_neg hb, if_neg (by omega)]
   simp only [jsonparser_combineUTF16Surrogates.f, Option.bind_some]
   congr 2
   unfold wrap32
   omega
theorem stp_eq {l : List Int} (hr : ∀ x ∈ l, 0 ≤ x ∧ x ≤ 255) (k : Nat) : stp (k + 5) l = some (if (l.length : Int) < 2 then (-1, []) else if rd l 0 = 92 then (if isE (rd l 1) = true then (2, [unl (rd l 1)]) else if rd l 1 = 117 then (if (dU l).2 = -1 then (-1, []) else ((dU l).2, eB (dU l).1)) else (-1, [])) else (-1, [])) := by
 unfold stp
 by_cases h2 : (l.length : Int) < 2
 ·rw [if_pos h2, if_pos h2]
 rw [if_neg h2, if_neg h2]
 by_cases h92 : rd l 0 = 92
 rotate_left
 ·rw [if_neg h92, if_neg h92]
 rw [if_pos h92, if_pos h92]
 by_cases hE : isE (rd l 1) = true
 ·rw [if_pos hE, if_pos hE]
 rw [if_neg hE, if_neg hE]
 by_cases hu : rd l 1 = 117
 rotate_left
 ·rw [if_neg hu, if_neg hu]
 rw [if_pos hu, if_pos hu, decode_eq hr, Option.bind_some]
 by_cases hm : (dU l).2 = -1
 ·rw [if_pos hm, if_pos hm]
 rw [if_neg hm, if_neg hm, if_pos]
 unfold dU at hm ⊢
 by_cases hs : (dS l).2 = true
 rotate_left
 ·rw [if_neg hs] at hm
  exact absurd rfl hm
 obtain ⟨h6, g0, g1⟩ := dS_len hs
 rw [if_pos hs] at hm ⊢
 by_cases hsu : 55296 ≤ (dS l).1 ∧ (dS l).1 ≤ 57343
 rotate_left
 ·rw [if_neg hsu]
  simp only
  omega
 rw [if_pos hsu] at hm ⊢
 by_cases hlo : (dS l).1 ≥ 56320
 ·rw [if_pos hlo]
  simp only
  omega
 rw [if_neg hlo] at hm ⊢
 by_cases h8 : (l.length : Int) < 8 ∨ rd l 6 ≠ 92 ∨ rd l 7 ≠ 117
 ·rw [if_pos h8]
  simp only
  omega
 rw [if_neg h8] at hm ⊢
 by_cases hs2 : (dS (l.drop 6)).2 = true
 rotate_left
 ·rw [if_neg hs2] at hm
  exact absurd rfl hm
 obtain ⟨q6, q0, q1⟩ := dS_len hs2
 rw [List.length_drop] at q6
 rw [if_pos hs2] at hm ⊢
 by_cases hab : (dS (l.drop 6)).1 < 56320 ∨ 57343 < (dS (l.drop 6)).1
 rotate_left
 ·rw [if_neg hab]
  simp only
  omega
 rw [if_pos hab]
 simp only
 omega
def okL (l : List Int) : Bool :=
  match l with
  | [] => true
  | c :: r => if c = 92 then (match _h : escL r with
    | none => false
    | some r' => okL r') else okL r
termination_by l.length
decreasing_by
  · have := escL_len ‹_›
    simp; omega
  · simp
theorem okL_raw {c : Int} (r : List Int) (h : c ≠ 92) : okL (c :: r) = okL r := by rw [okL, if_neg h]
theorem okL_none {r : List Int} (h : escL r = none) : okL (92 :: r) = false := by
 rw [okL, if_pos rfl]
 split
 ·rfl
 ·rename_i r' h'
  rw [h] at h'
  cases h'
theorem okL_some {r r' : List Int} (h : escL r = some r') : okL (92 :: r) = okL r' := by
 rw [okL, if_pos rfl]
 split
 ·rename_i h'
  rw [h] at h'
  cases h'
 ·rename_i r2 h'
  rw [h] at h'
  cases h'
  rfl
theorem okL_no : ∀ l : List Int, ixL l = -1 → okL l = true
 | [], _ => by rw [okL]
 | c :: l, h => by
  rw [ixL] at h
  split at h
  ·omega
  ·rename_i hc
   split at h
   ·rename_i h2
    rw [okL_raw _ hc]
    exact okL_no l h2
   ·have := ixL_range l
    omega
theorem okL_at : ∀ (l : List Int) (j : Nat), ixL l = (j : Int) → okL l = okL (l.drop j) ∧ ∃ r, l.drop j = 92 :: r
 | [], j, h => by simp only [ixL] at h; omega
 | c :: l, j, h => by
  rw [ixL] at h
  split at h
  ·rename_i hc
   subst hc
   obtain rfl : j = 0 := by omega
   exact ⟨rfl, l, rfl⟩
  ·rename_i hc
   split at h
   ·omega
   ·obtain ⟨j, rfl⟩ : ∃ i, j = i + 1 := ⟨j - 1, by have := ixL_range l; omega⟩
    rw [okL_raw _ hc, List.drop_succ_cons]
    exact okL_at l j (by omega)
theorem okL_body : ∀ (n : Nat) (l : List Int), l.length ≤ n → okL l = true → BodyE l
 | _, [], _, _ => .nil
 | 0, c :: l, hn, _ => by simp at hn
 | n + 1, c :: l, hn, h => by
  simp only [List.length_cons] at hn
  by_cases hc : c = 92
  rotate_left
  ·exact .raw trivial trivial hc (okL_body n l (by omega) (by rwa [okL_raw _ hc] at h))
  subst hc
  cases he : escL l with
  | none => rw [okL_none he] at h; cases h
  | some r =>
   have hl := escL_len he
   rw [okL_some he] at h
   have hb := okL_body n r (by omega) h
   cases l with
   | nil => simp [escL] at he
   | cons b l =>
    rw [escL] at he
    split at he
    ·rename_i hE
     cases he
     exact .two hE hb
    ·split at he
     ·rename_i hu
      subst hu
      obtain ⟨v, hv, he⟩ := Option.bind_eq_some_iff.mp he
      cases he
      match l, hv, hb with
      | a :: b :: c :: d :: l, hv, hb => exact .six hv hb
     ·cases he
theorem eB_len' (r : Int) : (eB r).length ≤ 4 := (eB_len r).2
theorem stp_ok {r : List Int} (hr : ∀ x ∈ 92 :: r, 0 ≤ x ∧ x ≤ 255) (k : Nat) : ∃ t, stp (k + 5) (92 :: r) = some t ∧ (t.1 = -1 ∧ okL (92 :: r) = false ∨ ∃ m : Nat, t.1 = (m : Int) ∧ 1 ≤ m ∧ m ≤ (92 :: r).length ∧ t.2.length ≤ m ∧ okL (92 :: r) = okL ((92 :: r).drop m)) := by
 refine ⟨_, stp_eq hr k, ?_⟩
 cases r with
 | nil =>
  left
  rw [if_pos (by simp)]
  exact ⟨rfl, okL_none rfl⟩
 | cons b r =>
  rw [if_neg (by simp only [List.length_cons]; omega), if_pos (by rfl)]
  have e1 : rd (92 :: b :: r) 1 = b := rfl
  rw [e1]
  by_cases hE : isE b = true
  ·right
   rw [if_pos hE]
   exact ⟨2, rfl, by omega, by simp, by simp, okL_some (escL_let r hE)⟩
  rw [if_neg hE]
  by_cases hu : b = 117
  rotate_left
  ·left
   rw [if_neg hu]
   refine ⟨rfl, okL_none ?_⟩
   rw [escL, if_neg hE, if_neg hu]
  subst hu
  rw [if_pos rfl]
  have hsix : ∀ {v : Int}, hex4 r = some v → okL (92 :: 117 :: r) = okL ((92 :: 117 :: r).drop 6) ∧ 6 ≤ (92 :: 117 :: r).length := by
   intro v hv
   have hl := hex4_len hv
   refine ⟨?_, by simp; omega⟩
   have he : escL (117 :: r) = some (r.drop 4) := by
    rw [escL, if_neg hE, if_pos rfl, hv]
    rfl
   rw [okL_some he]
   rfl
  have hd6 : dS (92 :: 117 :: r) = match hex4 r with | some v => (v, true) | none => (65533, false) := by
   unfold dS
   by_cases h6 : ((92 :: 117 :: r : List Int).length : Int) < 6
   rotate_left
   ·rw [if_neg h6]
    rfl
   rw [if_pos h6]
   cases hx : hex4 r with
   | none => rfl
   | some v =>
    have := hex4_len hx
    simp only [List.length_cons] at h6
    omega
  cases hx : hex4 r with
  | none =>
   left
   rw [hx] at hd6
   have hU : dU (92 :: 117 :: r) = (65533, -1) := by
    unfold dU
    rw [hd6]
    rfl
   rw [hU, if_pos rfl]
   refine ⟨rfl, okL_none ?_⟩
   rw [escL, if_neg hE, if_pos rfl, hx]
   rfl
  | some v =>
   rw [hx] at hd6
   obtain ⟨hk6, hl6⟩ := hsix hx
   have six : ∀ {q : Int}, dU (92 :: 117 :: r) = (q, 6) → ((if (dU (92 :: 117 :: r)).2 = -1 then ((-1 : Int), ([] : List Int)) else ((dU (92 :: 117 :: r)).2, eB (dU (92 :: 117 :: r)).1)).1 = -1 ∧ okL (92 :: 117 :: r) = false ∨ ∃ m : Nat, (if (dU (92 :: 117 :: r)).2 = -1 then ((-1 : Int), ([] : List Int)) else ((dU (92 :: 117 :: r)).2, eB (dU (92 :: 117 :: r)).1)).1 = (m : Int) ∧ 1 ≤ m ∧ m ≤ (92 :: 117 :: r).length ∧ (if (dU (92 :: 117 :: r)).2 = -1 then ((-1 : Int), ([] : List Int)) else ((dU (92 :: 117 :: r)).2, eB (dU (92 :: 117 :: r)).1)).2.length ≤ m ∧ okL (92 :: 117 :: r) = okL ((92 :: 117 :: r).drop m)) := by
    intro q hq
    right
    rw [hq, if_neg (by simp only; omega)]
    have := eB_len' q
    exact ⟨6, rfl, by omega, hl6, by simp only; omega, hk6⟩
   unfold dU at six ⊢
   rw [hd6] at six ⊢
   simp only [if_true] at six ⊢
   by_cases hsu : 55296 ≤ v ∧ v ≤ 57343
   rotate_left
   ·rw [if_neg hsu] at six ⊢
    exact six rfl
   rw [if_pos hsu] at six ⊢
   by_cases hlo : v ≥ 56320
   ·rw [if_pos hlo] at six ⊢
    exact six rfl
   rw [if_neg hlo] at six ⊢
   by_cases h8 : ((92 :: 117 :: r : List Int).length : Int) < 8 ∨ rd (92 :: 117 :: r) 6 ≠ 92 ∨ rd (92 :: 117 :: r) 7 ≠ 117
   ·rw [if_pos h8] at six ⊢
    exact six rfl
   rw [if_neg h8] at six ⊢
   simp only [not_or, Decidable.not_not] at h8
   obtain ⟨q8, q92, q117⟩ := h8
   have hdr : ∃ r2, (92 :: 117 :: r : List Int).drop 6 = 92 :: 117 :: r2 := by
    simp only [List.length_cons] at q8
    match r, q8, q92, q117 with
    | a :: b :: c :: d :: e :: f :: r2, _, q92, q117 =>
     have k1 : e = 92 := q92
     have k2 : f = 117 := q117
     subst k1
     subst k2
     exact ⟨r2, rfl⟩
    | [], q, _, _ => exact absurd (by simp) q
    | [_], q, _, _ => exact absurd (by simp) q
    | [_, _], q, _, _ => exact absurd (by simp) q
    | [_, _, _], q, _, _ => exact absurd (by simp) q
    | [_, _, _, _], q, _, _ => exact absurd (by simp) q
    | [_, _, _, _, _], q, _, _ => exact absurd (by simp) q
   obtain ⟨r2, hdr⟩ := hdr
   rw [hdr] at six hk6 ⊢
   have hd2 : dS (92 :: 117 :: r2) = match hex4 r2 with | some v => (v, true) | none => (65533, false) := by
    unfold dS
    by_cases h6 : ((92 :: 117 :: r2 : List Int).length : Int) < 6
    rotate_left
    ·rw [if_neg h6]
     rfl
    rw [if_pos h6]
    cases hx : hex4 r2 with
    | none => rfl
    | some v =>
     have := hex4_len hx
     simp only [List.length_cons] at h6
     omega
   cases hx2 : hex4 r2 with
   | none =>
    left
    rw [hx2] at hd2
    rw [hd2]
    simp only [Bool.false_eq_true, if_false, if_true]
    refine ⟨trivial, ?_⟩
    rw [hk6]
    refine okL_none ?_
    rw [escL, if_neg hE, if_pos rfl, hx2]
    rfl
   | some m =>
    rw [hx2] at hd2
    rw [hd2] at six ⊢
    simp only [if_true] at six ⊢
    by_cases hab : m < 56320 ∨ 57343 < m
    ·rw [if_pos hab] at six ⊢
     exact six rfl
    right
    rw [if_neg hab, if_neg (by simp only; omega)]
    have h4 := eB_len' (65536 + (v - 55296) * 1024 + (m - 56320))
    have hl2 := hex4_len hx2
    have hlen : (92 :: 117 :: r : List Int).length = 6 + (92 :: 117 :: r2 : List Int).length := by
     rw [← hdr, List.length_drop]
     omega
    refine ⟨12, rfl, by omega, by rw [hlen]; simp; omega, by simp only; omega, ?_⟩
    rw [hk6]
    have he : escL (117 :: r2) = some (r2.drop 4) := by
     rw [escL, if_neg hE, if_pos rfl, hx2]
     rfl
    rw [okL_some he, show (12 : Nat) = 6 + 6 from rfl, ← List.drop_drop, hdr]
    rfl
theorem jun_ok (k : Nat) : ∀ (n : Nat) (r E : List Int) (f : Nat), (92 :: r).length ≤ n → n < f → (∀ x ∈ 92 :: r, 0 ≤ x ∧ x ≤ 255) → ∃ res, jun (k + 5) f (92 :: r) E = some res ∧ res.isSome = okL (92 :: r) := by
 intro n
 induction n with
 | zero => intro r E f hn; simp at hn
 | succ n ih =>
  intro r E f hn hf hr
  obtain ⟨f, rfl⟩ : ∃ g, f = g + 1 := ⟨f - 1, by omega⟩
  obtain ⟨t, h1, h2⟩ := stp_ok hr k
  rw [jun, h1, Option.bind_some]
  rcases h2 with ⟨h3, h4⟩ | ⟨m, h3, h4, h5, h6, h7⟩
  ·rw [if_pos h3, h4]
   exact ⟨none, rfl, rfl⟩
  ·rw [if_neg (by omega), if_pos ⟨by omega, by omega, by omega⟩, h3, Int.toNat_natCast, h7]
   have hld : ((92 :: r).drop m).length = (92 :: r).length - m := List.length_drop
   have hrd : ∀ x ∈ (92 :: r).drop m, 0 ≤ x ∧ x ≤ 255 := fun x hx => hr x (List.mem_of_mem_drop hx)
   generalize (92 :: r).drop m = l2 at hld hrd ⊢
   rcases ixL_range l2 with hj | ⟨j, hj, hj1, _⟩
   ·rw [if_pos hj, okL_no l2 hj]
    exact ⟨_, rfl, rfl⟩
   ·obtain ⟨h8, r3, h9⟩ := okL_at l2 j hj
    rw [if_neg (by omega), hj, Int.toNat_natCast, h8, h9]
    have hl3 : (92 :: r3).length = l2.length - j := by rw [← h9]; exact List.length_drop
    exact ih r3 _ f (by omega) (by omega) (fun x hx => hrd x (List.mem_of_mem_drop (by rw [h9]; exact hx)))
theorem unc_ok {l : List Int} (hr : ∀ x ∈ l, 0 ≤ x ∧ x ≤ 255) (k : Nat) (hk : l.length + 10 ≤ k) : ∃ res, unc k l = some res ∧ res.isSome = okL l := by
 obtain ⟨k, rfl⟩ : ∃ j, k = j + 5 := ⟨k - 5, by omega⟩
 unfold unc
 rcases ixL_range l with hj | ⟨j, hj, hj1, _⟩
 ·rw [if_pos hj, okL_no l hj]
  exact ⟨_, rfl, rfl⟩
 ·obtain ⟨h8, r3, h9⟩ := okL_at l j hj
  rw [if_neg (by omega), hj, Int.toNat_natCast, h8, h9]
  have hl3 : (92 :: r3).length = l.length - j := by rw [← h9]; exact List.length_drop
  exact jun_ok k (92 :: r3).length r3 _ (k + 5) (Nat.le_refl _) (by omega) (fun x hx => hr x (List.mem_of_mem_drop (by rw [h9]; exact hx)))
end Go.Proofs.YtaigbkkgmncipaaDoor.J
end
section
namespace Go.Proofs.YtaigbkkgmncipaaDoor.Pure
open Go.RowKit Go.Proofs.YtaigbkkgmncipaaDoor.Z Go.Proofs.YtaigbkkgmncipaaDoor.J Go.Proofs.YtaigbkkgmncipaaDoorW.PrintWords Go.Proofs.YtaigbkkgmncipaaDoorW.PrintLast
set_option linter.unusedVariables false
set_option linter.unusedSimpArgs false
theorem bytes_app (s t : ByteArray) : bytesOf (s ++ t) = bytesOf s ++ bytesOf t := by
 unfold bytesOf
 rw [ByteArray.data_append, Array.toList_append, List.map_append]
theorem okL_nil : okL [] = true := by rw [okL]
theorem un_end {s : ByteArray} {q : ByteArray} {i : Nat} (h : From s i []) (hq : Ev (fun k => spec_Unquote.f k (⟨#[34]⟩ ++ s ++ ⟨#[34]⟩)) q) : Ev (fun k => spec_Unescape.l0 k s i) (q, true) := by
 have hz := h.nil
 refine Ev.step (f := fun k => (spec_Unquote.f k (⟨#[34]⟩ ++ s ++ ⟨#[34]⟩)).bind fun q => some (q, true)) (fun k => ?_) ?_
 ·rw [spec_Unescape.l0, if_neg (by omega)]
 ·exact Ev.bind hq (Ev.now _)
theorem unesc_l0 {s : ByteArray} (hs : s.size ≤ 2147483647) {q : ByteArray} (n : Nat) : ∀ (i : Nat) (l : List Int), l.length ≤ n → From s i l → (okL l = true → Ev (fun k => spec_Unquote.f k (⟨#[34]⟩ ++ s ++ ⟨#[34]⟩)) q) → ∃ r, Ev (fun k => spec_Unescape.l0 k s i) (r, okL l) := by
 have nilc : ∀ (i : Nat), From s i [] → (okL [] = true → Ev (fun k => spec_Unquote.f k (⟨#[34]⟩ ++ s ++ ⟨#[34]⟩)) q) → ∃ r, Ev (fun k => spec_Unescape.l0 k s i) (r, okL []) := fun i h hq => ⟨q, by rw [okL_nil]; exact un_end h (hq okL_nil)⟩
 induction n with
 | zero =>
  intro i l hn h hq
  obtain rfl := List.eq_nil_of_length_eq_zero (Nat.le_zero.mp hn)
  exact nilc i h hq
 | succ n ih =>
  intro i l hn h hq
  cases l with
  | nil => exact nilc i h hq
  | cons c l =>
   simp only [List.length_cons] at hn
   have hlt := h.lt
   have e1 : (i : Int) + 1 = ((i + 1 : Nat) : Int) := by omega
   by_cases hc : c = 92
   rotate_left
   ·rw [okL_raw _ hc] at hq ⊢
    obtain ⟨x, hx⟩ := ih (i + 1) l (by omega) h.tail hq
    refine ⟨x, Ev.step (fun k => ?_) hx⟩
    rw [spec_Unescape.l0, if_pos (by omega), h.bt, if_neg hc, e1]
   subst hc
   have he := escape_eq (s := s) (by omega) h.tail
   have st : ∀ {R}, Ev (fun k => (spec_reader_escape.f k s ((i + 1 : Nat) : Int)).bind fun t => (if t.1 = true then (if 0 ≤ t.2.2 ∧ t.2.2 ≤ (s.size : Int) then spec_Unescape.l0 k s t.2.2 else none) else some (⟨#[]⟩, false))) R → Ev (fun k => spec_Unescape.l0 k s i) R := fun {R} hR => by
    refine Ev.step (fun k => ?_) hR
    rw [spec_Unescape.l0, if_pos (by omega), if_pos h.bt, e1]
   cases hl : escL l with
   | none =>
    obtain ⟨p, hp⟩ := he.2 hl
    rw [okL_none hl]
    exact ⟨_, st (Ev.bind hp (Ev.congr (fun _ => if_neg Bool.false_ne_true) (Ev.now _)))⟩
   | some r =>
    have hrl := escL_len hl
    have hF : From s (s.size - r.length) r := by
     have hz := h.tail.len
     have hsuf : ∃ a, l = a ++ r := by
      cases l with
      | nil => simp [escL] at hl
      | cons b l =>
       rw [escL] at hl
       split at hl
       ·cases hl
        exact ⟨[b], rfl⟩
       ·split at hl
        ·obtain ⟨v, _, hl⟩ := Option.bind_eq_some_iff.mp hl
         cases hl
         exact ⟨b :: l.take 4, by rw [List.cons_append, List.take_append_drop]⟩
        ·cases hl
     obtain ⟨a, ha⟩ := hsuf
     have hFa := h.tail
     rw [ha] at hFa
     have := hFa.app
     have hzz : s.size - r.length = i + 1 + a.length := by
      have := hFa.len
      simp only [List.length_append] at this
      omega
     rw [hzz]
     exact this
    rw [okL_some hl] at hq ⊢
    obtain ⟨x, hx⟩ := ih (s.size - r.length) r (by omega) hF hq
    have h7 : (0 : Int) ≤ ((s.size - r.length : Nat) : Int) ∧ ((s.size - r.length : Nat) : Int) ≤ (s.size : Int) := by omega
    have he1 := he.1 r hl
    generalize ((s.size - r.length : Nat) : Int) = z at he1 hx h7
    exact ⟨x, st (Ev.bind he1 (Ev.congr (fun _ => if_pos rfl) (Ev.congr (fun _ => if_pos h7) hx)))⟩
theorem FnJrUnescape : laws_FnJrUnescape.Pure := by
 intro a0 h0
 have main : Ev (fun k => laws_FnJrUnescape.f k a0) true := by
  unfold laws_FnJrUnescape.f
  by_cases c1 : (a0.size : Int) > 2147483647
  ·exact Ev.congr (fun _ => if_pos c1) (Ev.now _)
  refine Ev.congr (fun _ => if_neg c1) ?_
  by_cases c2 : (a0.size : Int) > 65536
  ·exact Ev.congr (fun _ => if_pos c2) (Ev.now _)
  refine Ev.congr (fun _ => if_neg c2) ?_
  have hs : a0.size ≤ 2147483647 := by omega
  have hu : okL (bytesOf a0) = true → Ev (fun k => spec_Unquote.f k (⟨#[34]⟩ ++ a0 ++ ⟨#[34]⟩)) (strOfNums (unqL (bytesOf a0))) := fun hok => by
   have hb := okL_body _ _ (Nat.le_refl _) hok
   have hq : bytesOf ((⟨#[34]⟩ : ByteArray) ++ a0 ++ ⟨#[34]⟩) = 34 :: (bytesOf a0 ++ [34]) := by
    rw [bytes_app, bytes_app]
    rfl
   have hz : ((⟨#[34]⟩ : ByteArray) ++ a0 ++ ⟨#[34]⟩).size ≤ 140737488351232 := by
    rw [← bytesOf_length, hq]
    simp only [List.length_cons, List.length_append, List.length_nil, bytesOf_length]
    omega
   exact unquote_eq hz hq hb
  obtain ⟨x, hx⟩ := unesc_l0 hs (bytesOf a0).length 0 (bytesOf a0) (Nat.le_refl _) (From.start a0) hu
  have hx2 : Ev (fun k => spec_Unescape.f k a0) (x, okL (bytesOf a0)) := by
   unfold spec_Unescape.f
   exact Ev.congr (fun _ => if_pos hs) hx
  have hj : ∀ s : ByteArray, s.size ≤ 2147483647 → Ev (fun k => impl_JrUnescape.f k s) (if okL (bytesOf s) = true then 0 else 9) := fun s hz => by
   refine ⟨(bytesOf s).length + 10, fun k hk => ?_⟩
   obtain ⟨res, h1, h2⟩ := unc_ok (bytesOf_range s) k hk
   show impl_JrUnescape.f k s = _
   unfold impl_JrUnescape.f
   rw [if_pos hz, h1, Option.bind_some, h2]
  have hb := hj (⟨#[92]⟩ : ByteArray) (by decide)
  have e9 : okL (bytesOf (⟨#[92]⟩ : ByteArray)) = false := by
   rw [show bytesOf (⟨#[92]⟩ : ByteArray) = [92] by decide]
   exact okL_none rfl
  rw [e9, if_neg (by decide)] at hb
  have ha := hj a0 hs
  refine Ev.bind hx2 ?_
  cases ho : okL (bytesOf a0) with
  | true =>
   rw [ho, if_pos rfl] at ha
   refine Ev.congr (fun _ => if_pos rfl) (Ev.bind ha (Ev.congr (fun _ => if_pos rfl) (Ev.bind hb ?_)))
   exact Ev.now _
  | false =>
   rw [ho, if_neg (by decide)] at ha
   refine Ev.congr (fun _ => if_neg Bool.false_ne_true) (Ev.bind ha (Ev.congr (fun _ => if_pos rfl) (Ev.bind hb ?_)))
   exact Ev.now _
 obtain ⟨K, hK⟩ := main
 exact ⟨K, hK K (Nat.le_refl _)⟩
end Go.Proofs.YtaigbkkgmncipaaDoor.Pure
end
