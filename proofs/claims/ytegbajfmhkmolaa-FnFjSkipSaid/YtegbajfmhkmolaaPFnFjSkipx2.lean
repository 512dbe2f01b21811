-- PRINTED BY print.sh 35421559b90ae4d0a3588c463048766b98c2df88dd9212a6774a882060cdf62d: not written by this session
import Derived.Test.YtegbajfmhkmolaaPFnFjSkipx0
import Derived.Test.YtegbajfmhkmolaaPFnFjSkipx1
namespace Go.Proofs.Ytegbajfmhkmolaa.PFnFjSkip
open Go.RowKit Go.Proofs.YtegbajfmhkmolaaW.PrintWords Go.Proofs.YtegbajfmhkmolaaW.PrintLast Go.Proofs.YtegbajfmhkmolaaW.PrintMore
attribute [local go_sem] max2_int min2_int max_two min_two max_three min_three max_four min_four   -- for this text's walks alone
set_option linter.unusedVariables false
set_option linter.unusedSimpArgs false

/-! ### laws_FnFjSkip: function 3 -/
def laws_FnFjSkip.l0 : Nat → ByteArray → Int → Option (Bool)
  | 0, _, _ => none
  | k + 1, x0, x3 => if x3 < (x0.size : Int) then (if 0 ≤ x3 then ((spec_Blank.f (bt x0 x3)).bind fun t104 => (if t104 = true then (laws_FnFjSkip.l0 k x0 (wrap64 (x3 + 1))) else ((impl_FjSkip.f k x0).bind fun t105 => (if x3 ≤ (x0.size : Int) then (if t105.toList = (x0.extract (x3 : Int).toNat x0.size).toList then ((impl_FjSkip.f k (⟨#[32, 49]⟩ : ByteArray)).bind fun t106 => (some (t106.toList == ([49] : List UInt8)))) else (some false)) else (none))))) else (none)) else ((impl_FjSkip.f k x0).bind fun t107 => (if 0 ≤ x3 then (if x3 ≤ (x0.size : Int) then (if t107.toList = (x0.extract (x3 : Int).toNat x0.size).toList then ((impl_FjSkip.f k (⟨#[32, 49]⟩ : ByteArray)).bind fun t108 => (some (t108.toList == ([49] : List UInt8)))) else (some false)) else (none)) else (none)))
def laws_FnFjSkip.f (k : Nat) (a0 : ByteArray) : Option (Bool) := if (a0.size : Int) > 2147483647 then (some true) else (if (a0.size : Int) > 65536 then (some true) else (laws_FnFjSkip.l0 k a0 0))
theorem laws_FnFjSkip.mono_l : ∀ k, (∀ y0 y1, LeO (laws_FnFjSkip.l0 k y0 y1) (laws_FnFjSkip.l0 (k + 1) y0 y1))
  | 0 => fun _ _ r h => by simp [laws_FnFjSkip.l0] at h
  | k + 1 => by
    have ih0 := laws_FnFjSkip.mono_l k
    · intro y0 y1
      unfold laws_FnFjSkip.l0
      repeat' first
      | (with_reducible exact ih0 _ _)
      | (with_reducible exact impl_FjSkip.mono _ _)
      | (with_reducible exact LeO.refl _)
      | (with_reducible exact LeO.none _)
      | (with_reducible refine LeO.ite ?_ ?_)
      | (with_reducible refine LeO.bind ?_ (fun _ => ?_))
      | exact ih0 _ _
      | exact impl_FjSkip.mono _ _
      | exact LeO.none _
      | refine LeO.ite ?_ ?_
      | refine LeO.bind ?_ (fun _ => ?_)
theorem laws_FnFjSkip.mono : ∀ a0 k, LeO (laws_FnFjSkip.f k a0) (laws_FnFjSkip.f (k + 1) a0) := by
  intro a0 k
  have ih0 := laws_FnFjSkip.mono_l k
  unfold laws_FnFjSkip.f
  repeat' first
      | (with_reducible exact ih0 _ _)
      | (with_reducible exact impl_FjSkip.mono _ _)
      | (with_reducible exact LeO.refl _)
      | (with_reducible exact LeO.none _)
      | (with_reducible refine LeO.ite ?_ ?_)
      | (with_reducible refine LeO.bind ?_ (fun _ => ?_))
      | exact ih0 _ _
      | exact impl_FjSkip.mono _ _
      | exact LeO.none _
      | refine LeO.ite ?_ ?_
      | refine LeO.bind ?_ (fun _ => ?_)
set_option maxHeartbeats 8000000 in
set_option maxRecDepth 100000 in
theorem laws_FnFjSkip.calls (k : Nat) (a0 : ByteArray) (r : Bool) (w : World) (h : laws_FnFjSkip.f k a0 = some r) :
    Calls Try.prog 3 #[.string a0] w fun e w' => e = .returned (.bool r) ∧ Drawn0 w w' := by
  have H : (if (a0.size : Int) > 2147483647 then (some true) else (if (a0.size : Int) > 65536 then (some true) else (laws_FnFjSkip.l0 k a0 0))) = some r := h
  clear h
  by_cases c2 : (a0.size : Int) > 2147483647
  · rw [if_pos c2] at H
    have c2b0 : decide (2147483647 < (a0.size : Int)) = true := decide_eq_true c2
    have c2b1 : decide (2147483647 < a0.size) = true := decide_eq_true (by omega)
    clear c2
    obtain rfl := Option.some.inj H
    go_enter Try.func3, Try.ntmps3
    go_wp2
    repeat (go_quiet (fail); try go_wp2)
    go_ret
    exact ⟨by first | rfl | (simp; done) | (simp [*]; done), by repeat (first | exact Drawn0.refl _ | apply Drawn0.step)⟩
  · rw [if_neg c2] at H
    have c2b0 : decide (2147483647 < (a0.size : Int)) = false := decide_eq_false c2
    have c2b1 : decide (2147483647 < a0.size) = false := decide_eq_false (by omega)
    clear c2
    by_cases c3 : (a0.size : Int) > 65536
    · rw [if_pos c3] at H
      have c3b0 : decide (65536 < (a0.size : Int)) = true := decide_eq_true c3
      have c3b1 : decide (65536 < a0.size) = true := decide_eq_true (by omega)
      clear c3
      obtain rfl := Option.some.inj H
      go_enter Try.func3, Try.ntmps3
      go_wp2
      repeat (go_quiet (fail); try go_wp2)
      go_ret
      exact ⟨by first | rfl | (simp; done) | (simp [*]; done), by repeat (first | exact Drawn0.refl _ | apply Drawn0.step)⟩
    · rw [if_neg c3] at H
      have c3b0 : decide (65536 < (a0.size : Int)) = false := decide_eq_false c3
      have c3b1 : decide (65536 < a0.size) = false := decide_eq_false (by omega)
      clear c3
      have H' := Aside0.mk H
      clear H
      go_enter Try.func3, Try.ntmps3
      go_wp2
      repeat (go_quiet (fail); try go_wp2)
      go_loopg [3] k (fun kq v3 w' => ∃ (x3_1 : Int), v3 = .int .i64 x3_1 ∧ Aside0 (laws_FnFjSkip.l0 kq a0 x3_1 = some r) ∧ Aside0 (kq ≤ k) ∧ Drawn0 w w')
      case atStart => exact ⟨(0), (by first | rfl | (simp; done) | (simp [*]; done)), H', ⟨Nat.le_refl _⟩, by repeat (first | exact Drawn0.refl _ | apply Drawn0.step)⟩
      case round =>
        clear H'
        try clear c2
        try clear c2b0
        try clear c2b1
        try clear p2
        try clear c3
        try clear c3b0
        try clear c3b1
        obtain ⟨x3_1, rfl, HA, HK1, ⟨m1, rfl⟩⟩ := hrel
        cases gk with
        | zero => exact absurd HA.out (by simp [laws_FnFjSkip.l0])
        | succ k1 =>
          have H := HA.out
          clear HA
          simp only [laws_FnFjSkip.l0] at H
          by_cases c4 : x3_1 < (a0.size : Int)
          · rw [if_pos c4] at H
            have c4b0 : decide (x3_1 < (a0.size : Int)) = true := decide_eq_true c4
            clear c4
            by_cases c5 : 0 ≤ x3_1
            · rw [if_pos c5] at H
              have c5b0 : decide (0 ≤ x3_1) = true := decide_eq_true c5
              clear c5
              replace H := Option.bind_eq_some_iff.mp H
              obtain ⟨t104, A70, H⟩ := H
              replace H : (if t104 = true then (laws_FnFjSkip.l0 k1 a0 (wrap64 (x3_1 + 1))) else ((impl_FjSkip.f k1 a0).bind fun t105 => (if x3_1 ≤ (a0.size : Int) then (if t105.toList = (a0.extract (x3_1 : Int).toNat a0.size).toList then ((impl_FjSkip.f k1 (⟨#[32, 49]⟩ : ByteArray)).bind fun t106 => (some (t106.toList == ([49] : List UInt8)))) else (some false)) else (none)))) = some r := H
              have A7 := Aside0.mk A70
              clear A70
              by_cases c8 : t104 = true
              · subst c8
                have H1 : (laws_FnFjSkip.l0 k1 a0 (wrap64 (x3_1 + 1))) = some r := by rw [if_pos rfl] at H; exact H
                clear H
                have H := H1
                clear H1
                have H' := Aside0.mk H
                clear H
                have p6 : 0 ≤ (x3_1 : Int) := of_decide_eq_true (by first | (with_reducible assumption) | assumption)
                have q6 : x3_1 < (a0.size : Int) := of_decide_eq_true (by first | (with_reducible assumption) | assumption)
                have hx6 := bt_at a0 x3_1
                replace p6 := eq_true p6
                replace q6 := eq_true q6
                go_wp2_with (first | (go_at_call 8; (with_reducible refine (spec_Blank.calls (bt a0 x3_1) true _ A7.out).mono ?_); rintro e w' ⟨rfl, ⟨nd, rfl⟩⟩; (try first | exact ⟨rfl, _, World.drewN_drewN _ _ _⟩ | exact ⟨rfl, _, Eq.trans (World.drewN_drewN _ _ _) (congrArg (World.drewN _) (Nat.add_assoc _ _ _))⟩)))
                repeat (go_quiet (first | (go_at_call 8; (with_reducible refine (spec_Blank.calls (bt a0 x3_1) true _ A7.out).mono ?_); rintro e w' ⟨rfl, ⟨nd, rfl⟩⟩; (try first | exact ⟨rfl, _, World.drewN_drewN _ _ _⟩ | exact ⟨rfl, _, Eq.trans (World.drewN_drewN _ _ _) (congrArg (World.drewN _) (Nat.add_assoc _ _ _))⟩))); try go_wp2_with (first | (go_at_call 8; (with_reducible refine (spec_Blank.calls (bt a0 x3_1) true _ A7.out).mono ?_); rintro e w' ⟨rfl, ⟨nd, rfl⟩⟩; (try first | exact ⟨rfl, _, World.drewN_drewN _ _ _⟩ | exact ⟨rfl, _, Eq.trans (World.drewN_drewN _ _ _) (congrArg (World.drewN _) (Nat.add_assoc _ _ _))⟩))))
                go_roundg k1
                case measure => have := HK1.out; omega
                case rel => exact ⟨(wrap64 (x3_1 + 1)), (by first | rfl | (simp; done) | (simp [*]; done)), H', ⟨by have := HK1.out; omega⟩, by repeat (first | exact Drawn0.refl _ | apply Drawn0.step)⟩
              · replace c8 := Bool.eq_false_iff.mpr c8
                subst c8
                have H1 : ((impl_FjSkip.f k1 a0).bind fun t105 => (if x3_1 ≤ (a0.size : Int) then (if t105.toList = (a0.extract (x3_1 : Int).toNat a0.size).toList then ((impl_FjSkip.f k1 (⟨#[32, 49]⟩ : ByteArray)).bind fun t106 => (some (t106.toList == ([49] : List UInt8)))) else (some false)) else (none))) = some r := by rw [if_neg (show ¬ (false = true) by decide)] at H; exact H
                clear H
                have H := H1
                clear H1
                replace H := Option.bind_eq_some_iff.mp H
                obtain ⟨t105, A90, H⟩ := H
                replace H : (if x3_1 ≤ (a0.size : Int) then (if t105.toList = (a0.extract (x3_1 : Int).toNat a0.size).toList then ((impl_FjSkip.f k1 (⟨#[32, 49]⟩ : ByteArray)).bind fun t106 => (some (t106.toList == ([49] : List UInt8)))) else (some false)) else (none)) = some r := H
                have A9 := Aside0.mk A90
                clear A90
                have c10b0 := eq_true (of_decide_eq_true (by first | (with_reducible assumption) | assumption) : 0 ≤ x3_1)
                by_cases c11 : x3_1 ≤ (a0.size : Int)
                · rw [if_pos c11] at H
                  have c11b0 := eq_true c11
                  have c11b1 : decide (x3_1 ≤ (a0.size : Int)) = true := decide_eq_true c11
                  clear c11
                  by_cases c12 : t105.toList = (a0.extract (x3_1 : Int).toNat a0.size).toList
                  · rw [if_pos c12] at H
                    have c12b0 : (t105.toList == (a0.extract (x3_1 : Int).toNat a0.size).toList) = true := beq_iff_eq.mpr c12
                    have c12b1 : (t105.toList != (a0.extract (x3_1 : Int).toNat a0.size).toList) = false := bne_eq_false_iff_eq.mpr c12
                    clear c12
                    replace H := Option.bind_eq_some_iff.mp H
                    obtain ⟨t106, A130, H⟩ := H
                    replace H : (some (t106.toList == ([49] : List UInt8))) = some r := H
                    have A13 := Aside0.mk A130
                    clear A130
                    obtain rfl := Option.some.inj H
                    have p6 : 0 ≤ (x3_1 : Int) := of_decide_eq_true (by first | (with_reducible assumption) | assumption)
                    have q6 : x3_1 < (a0.size : Int) := of_decide_eq_true (by first | (with_reducible assumption) | assumption)
                    have hx6 := bt_at a0 x3_1
                    replace p6 := eq_true p6
                    replace q6 := eq_true q6
                    go_wp2_with (first | (go_at_call 8; (with_reducible refine (spec_Blank.calls (bt a0 x3_1) false _ A7.out).mono ?_); rintro e w' ⟨rfl, ⟨nd, rfl⟩⟩; (try first | exact ⟨rfl, _, World.drewN_drewN _ _ _⟩ | exact ⟨rfl, _, Eq.trans (World.drewN_drewN _ _ _) (congrArg (World.drewN _) (Nat.add_assoc _ _ _))⟩)) | (go_at_call 9; (with_reducible refine (impl_FjSkip.calls k1 a0 t105 _ A9.out).mono ?_); rintro e w' ⟨rfl, ⟨nd, rfl⟩⟩; (try first | exact ⟨rfl, _, World.drewN_drewN _ _ _⟩ | exact ⟨rfl, _, Eq.trans (World.drewN_drewN _ _ _) (congrArg (World.drewN _) (Nat.add_assoc _ _ _))⟩)) | (go_at_call 9; (with_reducible refine (impl_FjSkip.calls k1 (⟨#[32, 49]⟩ : ByteArray) t106 _ A13.out).mono ?_); rintro e w' ⟨rfl, ⟨nd, rfl⟩⟩; (try first | exact ⟨rfl, _, World.drewN_drewN _ _ _⟩ | exact ⟨rfl, _, Eq.trans (World.drewN_drewN _ _ _) (congrArg (World.drewN _) (Nat.add_assoc _ _ _))⟩)))
                    repeat (go_quiet (first | (go_at_call 8; (with_reducible refine (spec_Blank.calls (bt a0 x3_1) false _ A7.out).mono ?_); rintro e w' ⟨rfl, ⟨nd, rfl⟩⟩; (try first | exact ⟨rfl, _, World.drewN_drewN _ _ _⟩ | exact ⟨rfl, _, Eq.trans (World.drewN_drewN _ _ _) (congrArg (World.drewN _) (Nat.add_assoc _ _ _))⟩)) | (go_at_call 9; (with_reducible refine (impl_FjSkip.calls k1 a0 t105 _ A9.out).mono ?_); rintro e w' ⟨rfl, ⟨nd, rfl⟩⟩; (try first | exact ⟨rfl, _, World.drewN_drewN _ _ _⟩ | exact ⟨rfl, _, Eq.trans (World.drewN_drewN _ _ _) (congrArg (World.drewN _) (Nat.add_assoc _ _ _))⟩)) | (go_at_call 9; (with_reducible refine (impl_FjSkip.calls k1 (⟨#[32, 49]⟩ : ByteArray) t106 _ A13.out).mono ?_); rintro e w' ⟨rfl, ⟨nd, rfl⟩⟩; (try first | exact ⟨rfl, _, World.drewN_drewN _ _ _⟩ | exact ⟨rfl, _, Eq.trans (World.drewN_drewN _ _ _) (congrArg (World.drewN _) (Nat.add_assoc _ _ _))⟩))); try go_wp2_with (first | (go_at_call 8; (with_reducible refine (spec_Blank.calls (bt a0 x3_1) false _ A7.out).mono ?_); rintro e w' ⟨rfl, ⟨nd, rfl⟩⟩; (try first | exact ⟨rfl, _, World.drewN_drewN _ _ _⟩ | exact ⟨rfl, _, Eq.trans (World.drewN_drewN _ _ _) (congrArg (World.drewN _) (Nat.add_assoc _ _ _))⟩)) | (go_at_call 9; (with_reducible refine (impl_FjSkip.calls k1 a0 t105 _ A9.out).mono ?_); rintro e w' ⟨rfl, ⟨nd, rfl⟩⟩; (try first | exact ⟨rfl, _, World.drewN_drewN _ _ _⟩ | exact ⟨rfl, _, Eq.trans (World.drewN_drewN _ _ _) (congrArg (World.drewN _) (Nat.add_assoc _ _ _))⟩)) | (go_at_call 9; (with_reducible refine (impl_FjSkip.calls k1 (⟨#[32, 49]⟩ : ByteArray) t106 _ A13.out).mono ?_); rintro e w' ⟨rfl, ⟨nd, rfl⟩⟩; (try first | exact ⟨rfl, _, World.drewN_drewN _ _ _⟩ | exact ⟨rfl, _, Eq.trans (World.drewN_drewN _ _ _) (congrArg (World.drewN _) (Nat.add_assoc _ _ _))⟩))))
                    go_ret
                    exact ⟨by first | rfl | (simp; done) | (simp [*]; done), by repeat (first | exact Drawn0.refl _ | apply Drawn0.step)⟩
                  · rw [if_neg c12] at H
                    have c12b0 : (t105.toList == (a0.extract (x3_1 : Int).toNat a0.size).toList) = false := beq_eq_false_iff_ne.mpr c12
                    have c12b1 : (t105.toList != (a0.extract (x3_1 : Int).toNat a0.size).toList) = true := bne_iff_ne.mpr c12
                    obtain rfl := Option.some.inj H
                    have p6 : 0 ≤ (x3_1 : Int) := of_decide_eq_true (by first | (with_reducible assumption) | assumption)
                    have q6 : x3_1 < (a0.size : Int) := of_decide_eq_true (by first | (with_reducible assumption) | assumption)
                    have hx6 := bt_at a0 x3_1
                    replace p6 := eq_true p6
                    replace q6 := eq_true q6
                    go_wp2_with (first | (go_at_call 8; (with_reducible refine (spec_Blank.calls (bt a0 x3_1) false _ A7.out).mono ?_); rintro e w' ⟨rfl, ⟨nd, rfl⟩⟩; (try first | exact ⟨rfl, _, World.drewN_drewN _ _ _⟩ | exact ⟨rfl, _, Eq.trans (World.drewN_drewN _ _ _) (congrArg (World.drewN _) (Nat.add_assoc _ _ _))⟩)) | (go_at_call 9; (with_reducible refine (impl_FjSkip.calls k1 a0 t105 _ A9.out).mono ?_); rintro e w' ⟨rfl, ⟨nd, rfl⟩⟩; (try first | exact ⟨rfl, _, World.drewN_drewN _ _ _⟩ | exact ⟨rfl, _, Eq.trans (World.drewN_drewN _ _ _) (congrArg (World.drewN _) (Nat.add_assoc _ _ _))⟩)))
                    repeat (go_quiet (first | (go_at_call 8; (with_reducible refine (spec_Blank.calls (bt a0 x3_1) false _ A7.out).mono ?_); rintro e w' ⟨rfl, ⟨nd, rfl⟩⟩; (try first | exact ⟨rfl, _, World.drewN_drewN _ _ _⟩ | exact ⟨rfl, _, Eq.trans (World.drewN_drewN _ _ _) (congrArg (World.drewN _) (Nat.add_assoc _ _ _))⟩)) | (go_at_call 9; (with_reducible refine (impl_FjSkip.calls k1 a0 t105 _ A9.out).mono ?_); rintro e w' ⟨rfl, ⟨nd, rfl⟩⟩; (try first | exact ⟨rfl, _, World.drewN_drewN _ _ _⟩ | exact ⟨rfl, _, Eq.trans (World.drewN_drewN _ _ _) (congrArg (World.drewN _) (Nat.add_assoc _ _ _))⟩))); try go_wp2_with (first | (go_at_call 8; (with_reducible refine (spec_Blank.calls (bt a0 x3_1) false _ A7.out).mono ?_); rintro e w' ⟨rfl, ⟨nd, rfl⟩⟩; (try first | exact ⟨rfl, _, World.drewN_drewN _ _ _⟩ | exact ⟨rfl, _, Eq.trans (World.drewN_drewN _ _ _) (congrArg (World.drewN _) (Nat.add_assoc _ _ _))⟩)) | (go_at_call 9; (with_reducible refine (impl_FjSkip.calls k1 a0 t105 _ A9.out).mono ?_); rintro e w' ⟨rfl, ⟨nd, rfl⟩⟩; (try first | exact ⟨rfl, _, World.drewN_drewN _ _ _⟩ | exact ⟨rfl, _, Eq.trans (World.drewN_drewN _ _ _) (congrArg (World.drewN _) (Nat.add_assoc _ _ _))⟩))))
                    go_ret
                    exact ⟨by first | rfl | (simp; done) | (simp [*]; done), by repeat (first | exact Drawn0.refl _ | apply Drawn0.step)⟩
                · rw [if_neg c11] at H
                  exact absurd H (by simp)
            · rw [if_neg c5] at H
              exact absurd H (by simp)
          · rw [if_neg c4] at H
            have c4b0 : decide (x3_1 < (a0.size : Int)) = false := decide_eq_false c4
            clear c4
            replace H := Option.bind_eq_some_iff.mp H
            obtain ⟨t107, A140, H⟩ := H
            replace H : (if 0 ≤ x3_1 then (if x3_1 ≤ (a0.size : Int) then (if t107.toList = (a0.extract (x3_1 : Int).toNat a0.size).toList then ((impl_FjSkip.f k1 (⟨#[32, 49]⟩ : ByteArray)).bind fun t108 => (some (t108.toList == ([49] : List UInt8)))) else (some false)) else (none)) else (none)) = some r := H
            have A14 := Aside0.mk A140
            clear A140
            by_cases c15 : 0 ≤ x3_1
            · rw [if_pos c15] at H
              have c15b0 := eq_true c15
              have c15b1 : decide (0 ≤ x3_1) = true := decide_eq_true c15
              clear c15
              by_cases c16 : x3_1 ≤ (a0.size : Int)
              · rw [if_pos c16] at H
                have c16b0 := eq_true c16
                have c16b1 : decide (x3_1 ≤ (a0.size : Int)) = true := decide_eq_true c16
                clear c16
                by_cases c17 : t107.toList = (a0.extract (x3_1 : Int).toNat a0.size).toList
                · rw [if_pos c17] at H
                  have c17b0 : (t107.toList == (a0.extract (x3_1 : Int).toNat a0.size).toList) = true := beq_iff_eq.mpr c17
                  have c17b1 : (t107.toList != (a0.extract (x3_1 : Int).toNat a0.size).toList) = false := bne_eq_false_iff_eq.mpr c17
                  clear c17
                  replace H := Option.bind_eq_some_iff.mp H
                  obtain ⟨t108, A180, H⟩ := H
                  replace H : (some (t108.toList == ([49] : List UInt8))) = some r := H
                  have A18 := Aside0.mk A180
                  clear A180
                  obtain rfl := Option.some.inj H
                  go_wp2_with (first | (go_at_call 9; (with_reducible refine (impl_FjSkip.calls k1 a0 t107 _ A14.out).mono ?_); rintro e w' ⟨rfl, ⟨nd, rfl⟩⟩; (try first | exact ⟨rfl, _, World.drewN_drewN _ _ _⟩ | exact ⟨rfl, _, Eq.trans (World.drewN_drewN _ _ _) (congrArg (World.drewN _) (Nat.add_assoc _ _ _))⟩)) | (go_at_call 9; (with_reducible refine (impl_FjSkip.calls k1 (⟨#[32, 49]⟩ : ByteArray) t108 _ A18.out).mono ?_); rintro e w' ⟨rfl, ⟨nd, rfl⟩⟩; (try first | exact ⟨rfl, _, World.drewN_drewN _ _ _⟩ | exact ⟨rfl, _, Eq.trans (World.drewN_drewN _ _ _) (congrArg (World.drewN _) (Nat.add_assoc _ _ _))⟩)))
                  repeat (go_quiet (first | (go_at_call 9; (with_reducible refine (impl_FjSkip.calls k1 a0 t107 _ A14.out).mono ?_); rintro e w' ⟨rfl, ⟨nd, rfl⟩⟩; (try first | exact ⟨rfl, _, World.drewN_drewN _ _ _⟩ | exact ⟨rfl, _, Eq.trans (World.drewN_drewN _ _ _) (congrArg (World.drewN _) (Nat.add_assoc _ _ _))⟩)) | (go_at_call 9; (with_reducible refine (impl_FjSkip.calls k1 (⟨#[32, 49]⟩ : ByteArray) t108 _ A18.out).mono ?_); rintro e w' ⟨rfl, ⟨nd, rfl⟩⟩; (try first | exact ⟨rfl, _, World.drewN_drewN _ _ _⟩ | exact ⟨rfl, _, Eq.trans (World.drewN_drewN _ _ _) (congrArg (World.drewN _) (Nat.add_assoc _ _ _))⟩))); try go_wp2_with (first | (go_at_call 9; (with_reducible refine (impl_FjSkip.calls k1 a0 t107 _ A14.out).mono ?_); rintro e w' ⟨rfl, ⟨nd, rfl⟩⟩; (try first | exact ⟨rfl, _, World.drewN_drewN _ _ _⟩ | exact ⟨rfl, _, Eq.trans (World.drewN_drewN _ _ _) (congrArg (World.drewN _) (Nat.add_assoc _ _ _))⟩)) | (go_at_call 9; (with_reducible refine (impl_FjSkip.calls k1 (⟨#[32, 49]⟩ : ByteArray) t108 _ A18.out).mono ?_); rintro e w' ⟨rfl, ⟨nd, rfl⟩⟩; (try first | exact ⟨rfl, _, World.drewN_drewN _ _ _⟩ | exact ⟨rfl, _, Eq.trans (World.drewN_drewN _ _ _) (congrArg (World.drewN _) (Nat.add_assoc _ _ _))⟩))))
                  go_ret
                  exact ⟨by first | rfl | (simp; done) | (simp [*]; done), by repeat (first | exact Drawn0.refl _ | apply Drawn0.step)⟩
                · rw [if_neg c17] at H
                  have c17b0 : (t107.toList == (a0.extract (x3_1 : Int).toNat a0.size).toList) = false := beq_eq_false_iff_ne.mpr c17
                  have c17b1 : (t107.toList != (a0.extract (x3_1 : Int).toNat a0.size).toList) = true := bne_iff_ne.mpr c17
                  obtain rfl := Option.some.inj H
                  go_wp2_with (first | (go_at_call 9; (with_reducible refine (impl_FjSkip.calls k1 a0 t107 _ A14.out).mono ?_); rintro e w' ⟨rfl, ⟨nd, rfl⟩⟩; (try first | exact ⟨rfl, _, World.drewN_drewN _ _ _⟩ | exact ⟨rfl, _, Eq.trans (World.drewN_drewN _ _ _) (congrArg (World.drewN _) (Nat.add_assoc _ _ _))⟩)))
                  repeat (go_quiet (first | (go_at_call 9; (with_reducible refine (impl_FjSkip.calls k1 a0 t107 _ A14.out).mono ?_); rintro e w' ⟨rfl, ⟨nd, rfl⟩⟩; (try first | exact ⟨rfl, _, World.drewN_drewN _ _ _⟩ | exact ⟨rfl, _, Eq.trans (World.drewN_drewN _ _ _) (congrArg (World.drewN _) (Nat.add_assoc _ _ _))⟩))); try go_wp2_with (first | (go_at_call 9; (with_reducible refine (impl_FjSkip.calls k1 a0 t107 _ A14.out).mono ?_); rintro e w' ⟨rfl, ⟨nd, rfl⟩⟩; (try first | exact ⟨rfl, _, World.drewN_drewN _ _ _⟩ | exact ⟨rfl, _, Eq.trans (World.drewN_drewN _ _ _) (congrArg (World.drewN _) (Nat.add_assoc _ _ _))⟩))))
                  go_ret
                  exact ⟨by first | rfl | (simp; done) | (simp [*]; done), by repeat (first | exact Drawn0.refl _ | apply Drawn0.step)⟩
              · rw [if_neg c16] at H
                exact absurd H (by simp)
            · rw [if_neg c15] at H
              exact absurd H (by simp)

/-- THE ONE PURE STATEMENT of laws_FnFjSkip: yours. -/
def laws_FnFjSkip.Pure : Prop := ∀ (a0 : ByteArray), a0.size ≤ 140737488351232 → ∃ k, laws_FnFjSkip.f k a0 = some true
theorem laws_FnFjSkip.walk (P : laws_FnFjSkip.Pure) (a0 : ByteArray) (w : World) (w0 : a0.size ≤ 140737488351232) :
    Calls Try.prog 3 #[.string a0] w fun e w' => e = .returned (.bool true) ∧ Below w.heap.size w w' := by
  obtain ⟨k, h⟩ := P a0 w0
  refine (laws_FnFjSkip.calls k a0 true w h).mono ?_
  rintro e w' ⟨rfl, hd⟩
  exact ⟨rfl, hd.below⟩

end Go.Proofs.Ytegbajfmhkmolaa.PFnFjSkip
