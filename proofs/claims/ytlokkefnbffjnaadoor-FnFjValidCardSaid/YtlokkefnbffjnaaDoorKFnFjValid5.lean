/- The words, walks and laws that the proof rests on, laid together (part 5). -/
import Derived.Test.YtlokkefnbffjnaaDoorKFnFjValid4
section
namespace Go.Proofs.YtlokkefnbffjnaaDoor.J
open Go.RowKit Go.Proofs.YtlokkefnbffjnaaDoorW.PrintWords Go.Proofs.YtlokkefnbffjnaaDoorW.PrintLast Go.Proofs.YtlokkefnbffjnaaDoorW.PrintMore
attribute [local go_sem] max2_int min2_int max_two min_two max_three min_three max_four min_four
set_option linter.unusedVariables false
set_option linter.unusedSimpArgs false
attribute [-simp] ByteArray.size_extract
set_option maxHeartbeats 8000000 in
set_option maxRecDepth 100000 in
theorem fastjson_validateObject.step (k : Nat) (ih_80 : ∀ m, m < k → fastjson_validateArray.Stmt m) (ih_81 : ∀ m, m < k → fastjson_validateValue.Stmt m) (ih_106 : ∀ m, m < k → fastjson_validateObject.Stmt m) : fastjson_validateObject.Stmt k := by
 intro a0 r1 r2 w hG h
 cases k with
 | zero => exact absurd h (by simp [fastjson_validateObject.f])
 | succ k =>
 simp only [fastjson_validateObject.f] at h
 have HG := mk0 hG
 clear hG
 have hu55 := Tryd.underlying55
 have hu148 := Tryd.underlying148
 have HB := mk0 (Below.refl w.heap.size w)
 have H : ((fastjson_skipWS.f k a0).bind fun t136 => (if (t136.size : Int) = 0 then ((errors_New.f (⟨#[109, 105, 115, 115, 105, 110, 103, 32, 39, 125]⟩ : ByteArray)).bind fun t137 => (some (t136, t137))) else (if 0 < (t136.size : Int) then (if (bt t136 0) = 125 then (if 1 ≤ (t136.size : Int) then (some (t136.extract 1 t136.size, none)) else (none)) else (fastjson_validateObject.l0 k t136)) else (none)))) = some (r1, r2) := h
 clear h
 replace H := Option.bind_eq_some_iff.mp H
 obtain ⟨t136, A20, H⟩ := H
 (try dsimp only at H)
 have A2 := mk0 A20
 clear A20
 by_cases c3 : (t136.size : Int) = 0
 ·rw [if_pos c3] at H
  have c3b0 : ((t136.size : Int) == 0) = true := beq_iff_eq.mpr c3
  have c3b1 : ((t136.size : Int) != 0) = false := bne_eq_false_iff_eq.mpr c3
  clear c3
  replace H := Option.bind_eq_some_iff.mp H
  obtain ⟨t137, A40, H⟩ := H
  (try dsimp only at H)
  have A4 := mk0 A40
  clear A40
  simp only [Option.some.injEq, Prod.mk.injEq] at H
  obtain ⟨rfl, rfl⟩ := H
  go_enter Tryd.func106, Tryd.ntmps106
  go_wp2_with (first | ((with_reducible refine gate_callee (f := 74) rfl ?_); refine goesL_ (some 8) rfl rfl Tryd.func74 zq28 rfl #[.string a0] rfl zq0 ?_; (with_reducible refine (fastjson_skipWS.calls k a0 t136 _ A2.out).mono ?_); rintro e w' ⟨rfl, ⟨nd, rfl⟩⟩; refine ⟨_, rfl, ?_⟩) | ((with_reducible refine gate_callee (f := 54) rfl ?_); refine goesL_ (some 13) rfl rfl Tryd.func54 zq28 rfl #[.string (⟨#[109, 105, 115, 115, 105, 110, 103, 32, 39, 125]⟩ : ByteArray)] rfl zq0 ?_; (with_reducible refine (errors_New.calls (⟨#[109, 105, 115, 115, 105, 110, 103, 32, 39, 125]⟩ : ByteArray) t137 _ A4.out).mono ?_); rintro e w5 ⟨z_t137, hz_t137, rfl, hb⟩; have Hz_t137 := mk0 hz_t137; clear hz_t137; refine ⟨_, rfl, ?_⟩; have n0_ := mk0 (below_step zq2 hb); clear HB; have HB := n0_; clear n0_ hb; (try simp only [errW_none, errW_some])))
  go_ret2
  exact ⟨z_t137, Hz_t137.out, by rfl, by repeat (first | (with_reducible first | exact HB.out | apply below_alloc | apply pw_below_drewN | apply below_drew1) | exact HB.out)⟩
 rw [if_neg c3] at H
 have c3b0 : ((t136.size : Int) == 0) = false := beq_eq_false_iff_ne.mpr c3
 have c3b1 : ((t136.size : Int) != 0) = true := bne_iff_ne.mpr c3
 by_cases c6 : 0 < (t136.size : Int)
 rotate_left
 ·rw [if_neg c6] at H
  exact absurd H (by simp)
 rw [if_pos c6] at H
 have c6b0 : decide (0 < (t136.size : Int)) = true := decide_eq_true c6
 have c6b1 : decide (0 < t136.size) = true := decide_eq_true (by omega)
 clear c6
 by_cases c8 : (bt t136 0) = 125
 ·rw [if_pos c8] at H
  have c8b0 : ((bt t136 0) == 125) = true := beq_iff_eq.mpr c8
  have c8b1 : ((bt t136 0) != 125) = false := bne_eq_false_iff_eq.mpr c8
  clear c8
  by_cases c9 : 1 ≤ (t136.size : Int)
  rotate_left
  ·rw [if_neg c9] at H
   exact absurd H (by simp)
  rw [if_pos c9] at H
  have c9b0 := eq_true c9
  have c9b1 : decide (1 ≤ (t136.size : Int)) = true := decide_eq_true c9
  clear c9
  simp only [Option.some.injEq, Prod.mk.injEq] at H
  obtain ⟨rfl, rfl⟩ := H
  go_enter Tryd.func106, Tryd.ntmps106
  go_wp2_with (first | ((with_reducible refine gate_callee (f := 74) rfl ?_); refine goesL_ (some 8) rfl rfl Tryd.func74 zq28 rfl #[.string a0] rfl zq0 ?_; (with_reducible refine (fastjson_skipWS.calls k a0 t136 _ A2.out).mono ?_); rintro e w' ⟨rfl, ⟨nd, rfl⟩⟩; refine ⟨_, rfl, ?_⟩; have p7 : 0 ≤ (0 : Int) := (by omega); have q7 : 0 < t136.size := (by have : (0 : Int) < (t136.size : Int) := of_decide_eq_true zq5; omega); have hx7 : ∀ h : 0 < t136.size, ((t136[0]'h).toNat : Int) = bt t136 0 := bt_at t136 0; clear p7; have qi7 : (0 < (t136.size : Int)) = True := eq_true (of_decide_eq_true zq5); replace q7 := eq_true q7))
  go_ret2
  exact ⟨none, Zk.nn, by rfl, by repeat (first | (with_reducible first | exact HB.out | apply below_alloc | apply pw_below_drewN | apply below_drew1) | exact HB.out)⟩
 rw [if_neg c8] at H
 have c8b0 : ((bt t136 0) == 125) = false := beq_eq_false_iff_ne.mpr c8
 have c8b1 : ((bt t136 0) != 125) = true := bne_iff_ne.mpr c8
 have H' := mk0 H
 clear H
 go_enter Tryd.func106, Tryd.ntmps106
 go_wp2_with (first | ((with_reducible refine gate_callee (f := 74) rfl ?_); refine goesL_ (some 8) rfl rfl Tryd.func74 zq28 rfl #[.string a0] rfl zq0 ?_; (with_reducible refine (fastjson_skipWS.calls k a0 t136 _ A2.out).mono ?_); rintro e w' ⟨rfl, ⟨nd, rfl⟩⟩; refine ⟨_, rfl, ?_⟩; have p7 : 0 ≤ (0 : Int) := (by omega); have q7 : 0 < t136.size := (by have : (0 : Int) < (t136.size : Int) := of_decide_eq_true zq5; omega); have hx7 : ∀ h : 0 < t136.size, ((t136[0]'h).toNat : Int) = bt t136 0 := bt_at t136 0; clear p7; have qi7 : (0 < (t136.size : Int)) = True := eq_true (of_decide_eq_true zq5); replace q7 := eq_true q7))
 (try simp only [Act.put, List.setIfInBounds_toArray, List.set_cons_zero, List.set_cons_succ])
 go_loopg [0] k (fun kq v0 w' => ∃ (x0_1 : ByteArray), v0 = .string x0_1 ∧ Aside0 (fastjson_validateObject.l0 kq x0_1 = some (r1, r2)) ∧ Aside0 (kq ≤ k) ∧ Aside0 (Below w.heap.size w w'))
 case atStart => exact ⟨(t136), (by rfl), H', ⟨Nat.le_refl _⟩, ⟨by repeat (first | (with_reducible first | exact HB.out | apply below_alloc | apply pw_below_drewN | apply below_drew1) | exact HB.out)⟩⟩
 case round =>
  clear H'
  clear c3 c3b0 c3b1 c6b0 c6b1 q7 hx7 qi7 c8 c8b0 c8b1
  obtain ⟨x0_1, rfl, HA, HK1, HB⟩ := hrel
  cases gk with
  | zero => exact absurd HA.out (by simp [fastjson_validateObject.l0])
  | succ k1 =>
   have H := HA.out
   clear HA
   simp only [fastjson_validateObject.l0] at H
   replace H := Option.bind_eq_some_iff.mp H
   obtain ⟨t138, A100, H⟩ := H
   (try dsimp only at H)
   have A10 := mk0 A100
   clear A100
   have HC11 := mk0 H
   clear H
   go_upto_region 8 with (first | ((with_reducible refine gate_callee (f := 74) rfl ?_); refine goesL_ (some 20) rfl rfl Tryd.func74 zq28 rfl #[.string x0_1] rfl zq0 ?_; (with_reducible refine (fastjson_skipWS.calls k1 x0_1 t138 _ A10.out).mono ?_); rintro e w' ⟨rfl, ⟨nd, rfl⟩⟩; refine ⟨_, rfl, ?_⟩))
   (try simp only [Act.put, List.setIfInBounds_toArray, List.set_cons_zero, List.set_cons_succ])
   go_cut [28] (fun v28 wc => ∃ (kq : Nat) (x28_10 : Bool), v28 = .bool x28_10 ∧ Aside0 (fastjson_validateObject.j1 kq t138 x28_10 = some (r1, r2)) ∧ Aside0 (kq ≤ k1) ∧ Aside0 (Below w.heap.size w wc))
   case first =>
    have H := HC11.out
    clear HC11
    by_cases c12 : (t138.size : Int) = 0
    ·rw [if_pos c12] at H
     have c12b0 : ((t138.size : Int) == 0) = true := beq_iff_eq.mpr c12
     have c12b1 : ((t138.size : Int) != 0) = false := bne_eq_false_iff_eq.mpr c12
     clear c12
     (skip)
     have H' := mk0 H
     clear H
     go_wp2
     go_meet
     case rel => exact ⟨_, (true), (by rfl), H', ⟨by have := HK1.out; first | omega | exact Nat.le_refl _⟩, ⟨by repeat (first | (with_reducible first | exact HB.out | apply below_alloc | apply pw_below_drewN | apply below_drew1) | exact HB.out)⟩⟩
    rw [if_neg c12] at H
    have c12b0 : ((t138.size : Int) == 0) = false := beq_eq_false_iff_ne.mpr c12
    have c12b1 : ((t138.size : Int) != 0) = true := bne_iff_ne.mpr c12
    (skip)
    by_cases c13 : 0 < (t138.size : Int)
    rotate_left
    ·rw [if_neg c13] at H
     exact absurd H (by simp)
    rw [if_pos c13] at H
    have c13b0 : decide (0 < (t138.size : Int)) = true := decide_eq_true c13
    have c13b1 : decide (0 < t138.size) = true := decide_eq_true (by omega)
    clear c13
    have H' := mk0 H
    clear H
    have p14 : 0 ≤ (0 : Int) := (by omega)
    have q14 : 0 < t138.size := (by have : (0 : Int) < (t138.size : Int) := of_decide_eq_true zq5; omega)
    have hx14 : ∀ h : 0 < t138.size, ((t138[0]'h).toNat : Int) = bt t138 0 := bt_at t138 0
    clear p14
    have qi14 : (0 < (t138.size : Int)) = True := eq_true (of_decide_eq_true zq5)
    replace q14 := eq_true q14
    go_wp2
    go_meet
    case rel => exact ⟨_, (((bt t138 0) != 34)), (by rfl), H', ⟨by have := HK1.out; first | omega | exact Nat.le_refl _⟩, ⟨by repeat (first | (with_reducible first | exact HB.out | apply below_alloc | apply pw_below_drewN | apply below_drew1) | exact HB.out)⟩⟩
   case rest =>
    clear HC11
    obtain ⟨kq, x28_10, rfl, HA, HJ10, HB⟩ := hcut
    cases kq with
    | zero => exact absurd HA.out (by simp [fastjson_validateObject.j1])
    | succ kj10 =>
     have H := HA.out
     clear HA
     simp only [fastjson_validateObject.j1] at H
     by_cases c15 : x28_10 = true
     ·subst c15
      rw [if_pos rfl] at H
      replace H := Option.bind_eq_some_iff.mp H
      obtain ⟨t139, A160, H⟩ := H
      (try dsimp only at H)
      have A16 := mk0 A160
      clear A160
      simp only [Option.some.injEq, Prod.mk.injEq] at H
      obtain ⟨rfl, rfl⟩ := H
      go_wp2_with (first | ((with_reducible refine gate_callee (f := 54) rfl ?_); refine goesL_ (some 30) rfl rfl Tryd.func54 zq28 rfl #[.string (⟨#[99, 97, 110, 110, 111, 116, 32, 102, 105, 110, 100, 32, 111, 112, 101, 110, 105, 110, 103, 32, 39, 34, 34, 32, 102, 111, 114, 32, 111, 98, 106, 101, 99, 116, 32, 107, 101, 121]⟩ : ByteArray)] rfl zq0 ?_; (with_reducible refine (errors_New.calls (⟨#[99, 97, 110, 110, 111, 116, 32, 102, 105, 110, 100, 32, 111, 112, 101, 110, 105, 110, 103, 32, 39, 34, 34, 32, 102, 111, 114, 32, 111, 98, 106, 101, 99, 116, 32, 107, 101, 121]⟩ : ByteArray) t139 _ A16.out).mono ?_); rintro e w17 ⟨z_t139, hz_t139, rfl, hb⟩; have Hz_t139 := mk0 hz_t139; clear hz_t139; refine ⟨_, rfl, ?_⟩; have n0_ := mk0 (below_step zq2 hb); clear HB; have HB := n0_; clear n0_ hb; (try simp only [errW_none, errW_some])))
      go_ret2
      exact ⟨z_t139, Hz_t139.out, by rfl, by repeat (first | (with_reducible first | exact HB.out | apply below_alloc | apply pw_below_drewN | apply below_drew1) | exact HB.out)⟩
     replace c15 := Bool.eq_false_iff.mpr c15
     subst c15
     rw [if_neg (show ¬ (false = true) by decide)] at H
     by_cases c18 : 1 ≤ (t138.size : Int)
     rotate_left
     ·rw [if_neg c18] at H
      exact absurd H (by simp)
     rw [if_pos c18] at H
     have c18b0 := eq_true c18
     have c18b1 : decide (1 ≤ (t138.size : Int)) = true := decide_eq_true c18
     clear c18
     replace H := Option.bind_eq_some_iff.mp H
     obtain ⟨⟨t140, t141, t142⟩, A190, H⟩ := H
     (try dsimp only at H)
     have A19 := mk0 A190
     clear A190
     rcases t142 with _ | q143
     rotate_left
     ·rw [if_neg (show ¬ (some q143).isNone = true by simp)] at H
      (try (obtain ⟨m_q143, rfl⟩ := Zk.some_ Hz_t142.out))
      try simp only [errW_none, errW_some]
      replace H := Option.bind_eq_some_iff.mp H
      obtain ⟨t155, A590, H⟩ := H
      (try dsimp only at H)
      have A59 := mk0 A590
      clear A590
      simp only [Option.some.injEq, Prod.mk.injEq] at H
      obtain ⟨rfl, rfl⟩ := H
      go_wp2_with (first | ((with_reducible refine gate_callee (f := 125) rfl ?_); refine goesL_ (some 34) rfl rfl Tryd.func125 zq28 rfl #[.string (t138.extract 1 t138.size)] rfl zq0 ?_; (with_reducible refine (fastjson_validateKey.calls kj10 (t138.extract 1 t138.size) t140 t141 (some q143) _ ?side1 A19.out).mono ?_); (case side1 => exact zq29); rintro e w60 ⟨zs2_, hzs2_, rfl, hb⟩; obtain ⟨m_q143, rfl⟩ := Zk.some_ hzs2_; refine ⟨_, rfl, ?_⟩; have n0_ := mk0 (below_step zq2 hb); clear HB; have HB := n0_; clear n0_ hb; (try simp only [errW_none, errW_some])) | ((with_reducible refine gate_callee (f := 54) rfl ?_); refine goesL_ (some 41) rfl rfl Tryd.func54 zq28 rfl #[.string (⟨#[99, 97, 110, 110, 111, 116, 32, 112, 97, 114, 115, 101, 32, 111, 98, 106, 101, 99, 116, 32, 107, 101, 121]⟩ : ByteArray)] rfl zq0 ?_; (with_reducible refine (errors_New.calls (⟨#[99, 97, 110, 110, 111, 116, 32, 112, 97, 114, 115, 101, 32, 111, 98, 106, 101, 99, 116, 32, 107, 101, 121]⟩ : ByteArray) t155 _ A59.out).mono ?_); rintro e w61 ⟨z_t155, hz_t155, rfl, hb⟩; have Hz_t155 := mk0 hz_t155; clear hz_t155; refine ⟨_, rfl, ?_⟩; have n0_ := mk0 (below_step zq2 hb); clear HB; have HB := n0_; clear n0_ hb; (try simp only [errW_none, errW_some])))
      go_ret2
      exact ⟨z_t155, Hz_t155.out, by rfl, by repeat (first | (with_reducible first | exact HB.out | apply below_alloc | apply pw_below_drewN | apply below_drew1) | exact HB.out)⟩
     rw [if_pos (show (none : Option Int).isNone = true by rfl)] at H
     (try (obtain rfl := Zk.none_ Hz_t142.out))
     try simp only [errW_none, errW_some]
     have H' := mk0 H
     clear H
     go_wp2_with (first | ((with_reducible refine gate_callee (f := 125) rfl ?_); refine goesL_ (some 34) rfl rfl Tryd.func125 zq28 rfl #[.string (t138.extract 1 t138.size)] rfl zq0 ?_; (with_reducible refine (fastjson_validateKey.calls kj10 (t138.extract 1 t138.size) t140 t141 none _ ?side1 A19.out).mono ?_); (case side1 => exact zq29); rintro e w20 ⟨zn2_, hzn2_, rfl, hb⟩; obtain rfl := Zk.none_ hzn2_; refine ⟨_, rfl, ?_⟩; have n0_ := mk0 (below_step zq2 hb); clear HB; have HB := n0_; clear n0_ hb; (try simp only [errW_none, errW_some])))
     (try simp only [Act.put, List.setIfInBounds_toArray, List.set_cons_zero, List.set_cons_succ])
     go_loopg [44] kj10 (fun kq v44 w' => ∃ (x44_3 : Int), v44 = .int .i64 x44_3 ∧ Aside0 (fastjson_validateObject.l1 kq t141 t140 (t140.size : Int) x44_3 = some (r1, r2)) ∧ Aside0 (kq ≤ kj10) ∧ Aside0 (Below w.heap.size w w'))
     case atStart => exact ⟨(0), (by rfl), H', ⟨Nat.le_refl _⟩, ⟨by repeat (first | (with_reducible first | exact HB.out | apply below_alloc | apply pw_below_drewN | apply below_drew1) | exact HB.out)⟩⟩
     case round =>
      clear H'
      clear c18b0 c18b1
      obtain ⟨x44_3, rfl, HA, HK3, HB⟩ := hrel
      cases gk with
      | zero => exact absurd HA.out (by simp [fastjson_validateObject.l1])
      | succ k3 =>
       have H := HA.out
       clear HA
       simp only [fastjson_validateObject.l1] at H
       by_cases c21 : x44_3 < (t140.size : Int)
       ·rw [if_pos c21] at H
        have c21b0 : decide (x44_3 < (t140.size : Int)) = true := decide_eq_true c21
        clear c21
        by_cases c22 : 0 ≤ x44_3
        rotate_left
        ·rw [if_neg c22] at H
         exact absurd H (by simp)
        rw [if_pos c22] at H
        have c22b0 : decide (0 ≤ x44_3) = true := decide_eq_true c22
        clear c22
        by_cases c23 : x44_3 < (t140.size : Int)
        rotate_left
        ·rw [if_neg c23] at H
         exact absurd H (by simp)
        rw [if_pos c23] at H
        have c23b0 : decide (x44_3 < (t140.size : Int)) = true := decide_eq_true c23
        clear c23
        by_cases c25 : (bt t140 x44_3) < 32
        rotate_left
        ·rw [if_neg c25] at H
         have c25b0 : decide ((bt t140 x44_3) < 32) = false := decide_eq_false c25
         clear c25
         have H' := mk0 H
         clear H
         have p24 : 0 ≤ (x44_3 : Int) := of_decide_eq_true zq5
         have q24 : x44_3 < (t140.size : Int) := of_decide_eq_true zq5
         have hx24 := bt_at t140 x44_3
         replace p24 := eq_true p24
         replace q24 := eq_true q24
         go_wp2
         go_roundg k3
         case measure => have := HK1.out; have := HJ10.out; have := HK3.out; omega
         case rel => exact ⟨(wrap64 (x44_3 + 1)), (by rfl), H', ⟨by have := HK1.out; have := HJ10.out; have := HK3.out; omega⟩, ⟨by repeat (first | (with_reducible first | exact HB.out | apply below_alloc | apply pw_below_drewN | apply below_drew1) | exact HB.out)⟩⟩
        rw [if_pos c25] at H
        have c25b0 : decide ((bt t140 x44_3) < 32) = true := decide_eq_true c25
        clear c25
        replace H := Option.bind_eq_some_iff.mp H
        obtain ⟨t144, A260, H⟩ := H
        (try dsimp only at H)
        have A26 := mk0 A260
        clear A260
        simp only [Option.some.injEq, Prod.mk.injEq] at H
        obtain ⟨rfl, rfl⟩ := H
        have p24 : 0 ≤ (x44_3 : Int) := of_decide_eq_true zq5
        have q24 : x44_3 < (t140.size : Int) := of_decide_eq_true zq5
        have hx24 := bt_at t140 x44_3
        replace p24 := eq_true p24
        replace q24 := eq_true q24
        go_wp2_with (first | ((with_reducible refine gate_callee (f := 54) rfl ?_); refine goesL_ (some 52) rfl rfl Tryd.func54 zq28 rfl #[.string (⟨#[111, 98, 106, 101, 99, 116, 32, 107, 101, 121, 32, 99, 97, 110, 110, 111, 116, 32, 99, 111, 110, 116, 97, 105, 110, 32, 99, 111, 110, 116, 114, 111, 108, 32, 99, 104, 97, 114, 32, 48, 120]⟩ : ByteArray)] rfl zq0 ?_; (with_reducible refine (errors_New.calls (⟨#[111, 98, 106, 101, 99, 116, 32, 107, 101, 121, 32, 99, 97, 110, 110, 111, 116, 32, 99, 111, 110, 116, 97, 105, 110, 32, 99, 111, 110, 116, 114, 111, 108, 32, 99, 104, 97, 114, 32, 48, 120]⟩ : ByteArray) t144 _ A26.out).mono ?_); rintro e w27 ⟨z_t144, hz_t144, rfl, hb⟩; have Hz_t144 := mk0 hz_t144; clear hz_t144; refine ⟨_, rfl, ?_⟩; have n0_ := mk0 (below_step zq2 hb); clear HB; have HB := n0_; clear n0_ hb; (try simp only [errW_none, errW_some])))
        go_ret2
        exact ⟨z_t144, Hz_t144.out, by rfl, by repeat (first | (with_reducible first | exact HB.out | apply below_alloc | apply pw_below_drewN | apply below_drew1) | exact HB.out)⟩
       rw [if_neg c21] at H
       have c21b0 : decide (x44_3 < (t140.size : Int)) = false := decide_eq_false c21
       clear c21
       replace H := Option.bind_eq_some_iff.mp H
       obtain ⟨t145, A280, H⟩ := H
       (try dsimp only at H)
       have A28 := mk0 A280
       clear A280
       have HC29 := mk0 H
       clear H
       go_upto_region 21 with (first | ((with_reducible refine gate_callee (f := 74) rfl ?_); refine goesL_ (some 55) rfl rfl Tryd.func74 zq28 rfl #[.string t141] rfl zq0 ?_; (with_reducible refine (fastjson_skipWS.calls k3 t141 t145 _ A28.out).mono ?_); rintro e w' ⟨rfl, ⟨nd, rfl⟩⟩; refine ⟨_, rfl, ?_⟩))
       (try simp only [Act.put, List.setIfInBounds_toArray, List.set_cons_zero, List.set_cons_succ])
       go_cut [63] (fun v63 wc => ∃ (kq : Nat) (x63_28 : Bool), v63 = .bool x63_28 ∧ Aside0 (fastjson_validateObject.j3 kq t145 x63_28 = some (r1, r2)) ∧ Aside0 (kq ≤ k3) ∧ Aside0 (Below w.heap.size w wc))
       case first =>
        have H := HC29.out
        clear HC29
        by_cases c30 : (t145.size : Int) = 0
        ·rw [if_pos c30] at H
         have c30b0 : ((t145.size : Int) == 0) = true := beq_iff_eq.mpr c30
         have c30b1 : ((t145.size : Int) != 0) = false := bne_eq_false_iff_eq.mpr c30
         clear c30
         (skip)
         have H' := mk0 H
         clear H
         go_wp2
         go_meet
         case rel => exact ⟨_, (true), (by rfl), H', ⟨by have := HK1.out; have := HJ10.out; have := HK3.out; first | omega | exact Nat.le_refl _⟩, ⟨by repeat (first | (with_reducible first | exact HB.out | apply below_alloc | apply pw_below_drewN | apply below_drew1) | exact HB.out)⟩⟩
        rw [if_neg c30] at H
        have c30b0 : ((t145.size : Int) == 0) = false := beq_eq_false_iff_ne.mpr c30
        have c30b1 : ((t145.size : Int) != 0) = true := bne_iff_ne.mpr c30
        (skip)
        by_cases c31 : 0 < (t145.size : Int)
        rotate_left
        ·rw [if_neg c31] at H
         exact absurd H (by simp)
        rw [if_pos c31] at H
        have c31b0 : decide (0 < (t145.size : Int)) = true := decide_eq_true c31
        have c31b1 : decide (0 < t145.size) = true := decide_eq_true (by omega)
        clear c31
        have H' := mk0 H
        clear H
        have p32 : 0 ≤ (0 : Int) := (by omega)
        have q32 : 0 < t145.size := (by have : (0 : Int) < (t145.size : Int) := of_decide_eq_true zq5; omega)
        have hx32 : ∀ h : 0 < t145.size, ((t145[0]'h).toNat : Int) = bt t145 0 := bt_at t145 0
        clear p32
        have qi32 : (0 < (t145.size : Int)) = True := eq_true (of_decide_eq_true zq5)
        replace q32 := eq_true q32
        go_wp2
        go_meet
        case rel => exact ⟨_, (((bt t145 0) != 58)), (by rfl), H', ⟨by have := HK1.out; have := HJ10.out; have := HK3.out; first | omega | exact Nat.le_refl _⟩, ⟨by repeat (first | (with_reducible first | exact HB.out | apply below_alloc | apply pw_below_drewN | apply below_drew1) | exact HB.out)⟩⟩
       case rest =>
        clear HC29 c21b0
        obtain ⟨kq, x63_28, rfl, HA, HJ28, HB⟩ := hcut
        cases kq with
        | zero => exact absurd HA.out (by simp [fastjson_validateObject.j3])
        | succ kj28 =>
         have H := HA.out
         clear HA
         simp only [fastjson_validateObject.j3] at H
         by_cases c33 : x63_28 = true
         ·subst c33
          rw [if_pos rfl] at H
          replace H := Option.bind_eq_some_iff.mp H
          obtain ⟨t146, A340, H⟩ := H
          (try dsimp only at H)
          have A34 := mk0 A340
          clear A340
          simp only [Option.some.injEq, Prod.mk.injEq] at H
          obtain ⟨rfl, rfl⟩ := H
          go_wp2_with (first | ((with_reducible refine gate_callee (f := 54) rfl ?_); refine goesL_ (some 65) rfl rfl Tryd.func54 zq28 rfl #[.string (⟨#[109, 105, 115, 115, 105, 110, 103, 32, 39, 58, 39, 32, 97, 102, 116, 101, 114, 32, 111, 98, 106, 101, 99, 116, 32, 107, 101, 121]⟩ : ByteArray)] rfl zq0 ?_; (with_reducible refine (errors_New.calls (⟨#[109, 105, 115, 115, 105, 110, 103, 32, 39, 58, 39, 32, 97, 102, 116, 101, 114, 32, 111, 98, 106, 101, 99, 116, 32, 107, 101, 121]⟩ : ByteArray) t146 _ A34.out).mono ?_); rintro e w35 ⟨z_t146, hz_t146, rfl, hb⟩; have Hz_t146 := mk0 hz_t146; clear hz_t146; refine ⟨_, rfl, ?_⟩; have n0_ := mk0 (below_step zq2 hb); clear HB; have HB := n0_; clear n0_ hb; (try simp only [errW_none, errW_some])))
          go_ret2
          exact ⟨z_t146, Hz_t146.out, by rfl, by repeat (first | (with_reducible first | exact HB.out | apply below_alloc | apply pw_below_drewN | apply below_drew1) | exact HB.out)⟩
         replace c33 := Bool.eq_false_iff.mpr c33
         subst c33
         rw [if_neg (show ¬ (false = true) by decide)] at H
         by_cases c36 : 1 ≤ (t145.size : Int)
         rotate_left
         ·rw [if_neg c36] at H
          exact absurd H (by simp)
         rw [if_pos c36] at H
         have c36b0 := eq_true c36
         have c36b1 : decide (1 ≤ (t145.size : Int)) = true := decide_eq_true c36
         clear c36
         replace H := Option.bind_eq_some_iff.mp H
         obtain ⟨t147, A370, H⟩ := H
         (try dsimp only at H)
         have A37 := mk0 A370
         clear A370
         replace H := Option.bind_eq_some_iff.mp H
         obtain ⟨⟨t148, t149⟩, A380, H⟩ := H
         (try dsimp only at H)
         have A38 := mk0 A380
         clear A380
         rcases t149 with _ | q150
         rotate_left
         ·rw [if_neg (show ¬ (some q150).isNone = true by simp)] at H
          (try (obtain ⟨m_q150, rfl⟩ := Zk.some_ Hz_t149.out))
          try simp only [errW_none, errW_some]
          replace H := Option.bind_eq_some_iff.mp H
          obtain ⟨t154, A560, H⟩ := H
          (try dsimp only at H)
          have A56 := mk0 A560
          clear A560
          simp only [Option.some.injEq, Prod.mk.injEq] at H
          obtain ⟨rfl, rfl⟩ := H
          go_wp2_with (first | ((with_reducible refine gate_callee (f := 74) rfl ?_); refine goesL_ (some 69) rfl rfl Tryd.func74 zq28 rfl #[.string (t145.extract 1 t145.size)] rfl zq0 ?_; (with_reducible refine (fastjson_skipWS.calls kj28 (t145.extract 1 t145.size) t147 _ A37.out).mono ?_); rintro e w' ⟨rfl, ⟨nd, rfl⟩⟩; refine ⟨_, rfl, ?_⟩) | ((with_reducible refine gate_callee (f := 81) rfl ?_); refine goesL_ (some 72) rfl rfl Tryd.func81 zq28 rfl #[.string t147] rfl zq0 ?_; (with_reducible refine (ih_81 kj28 zq58 t147 t148 (some q150) _ ?side1 A38.out).mono ?_); (case side1 => exact zq29); rintro e w57 ⟨zs1_, hzs1_, rfl, hb⟩; obtain ⟨m_q150, rfl⟩ := Zk.some_ hzs1_; refine ⟨_, rfl, ?_⟩; have n0_ := mk0 (below_step zq2 hb); clear HB; have HB := n0_; clear n0_ hb; (try simp only [errW_none, errW_some])) | ((with_reducible refine gate_callee (f := 54) rfl ?_); refine goesL_ (some 78) rfl rfl Tryd.func54 zq28 rfl #[.string (⟨#[99, 97, 110, 110, 111, 116, 32, 112, 97, 114, 115, 101, 32, 111, 98, 106, 101, 99, 116, 32, 118, 97, 108, 117, 101]⟩ : ByteArray)] rfl zq0 ?_; (with_reducible refine (errors_New.calls (⟨#[99, 97, 110, 110, 111, 116, 32, 112, 97, 114, 115, 101, 32, 111, 98, 106, 101, 99, 116, 32, 118, 97, 108, 117, 101]⟩ : ByteArray) t154 _ A56.out).mono ?_); rintro e w58 ⟨z_t154, hz_t154, rfl, hb⟩; have Hz_t154 := mk0 hz_t154; clear hz_t154; refine ⟨_, rfl, ?_⟩; have n0_ := mk0 (below_step zq2 hb); clear HB; have HB := n0_; clear n0_ hb; (try simp only [errW_none, errW_some])))
          go_ret2
          exact ⟨z_t154, Hz_t154.out, by rfl, by repeat (first | (with_reducible first | exact HB.out | apply below_alloc | apply pw_below_drewN | apply below_drew1) | exact HB.out)⟩
         rw [if_pos (show (none : Option Int).isNone = true by rfl)] at H
         (try (obtain rfl := Zk.none_ Hz_t149.out))
         try simp only [errW_none, errW_some]
         replace H := Option.bind_eq_some_iff.mp H
         obtain ⟨t151, A390, H⟩ := H
         (try dsimp only at H)
         have A39 := mk0 A390
         clear A390
         by_cases c40 : (t151.size : Int) = 0
         ·rw [if_pos c40] at H
          have c40b0 : ((t151.size : Int) == 0) = true := beq_iff_eq.mpr c40
          have c40b1 : ((t151.size : Int) != 0) = false := bne_eq_false_iff_eq.mpr c40
          clear c40
          replace H := Option.bind_eq_some_iff.mp H
          obtain ⟨t152, A410, H⟩ := H
          (try dsimp only at H)
          have A41 := mk0 A410
          clear A410
          simp only [Option.some.injEq, Prod.mk.injEq] at H
          obtain ⟨rfl, rfl⟩ := H
          go_wp2_with (first | ((with_reducible refine gate_callee (f := 74) rfl ?_); refine goesL_ (some 69) rfl rfl Tryd.func74 zq28 rfl #[.string (t145.extract 1 t145.size)] rfl zq0 ?_; (with_reducible refine (fastjson_skipWS.calls kj28 (t145.extract 1 t145.size) t147 _ A37.out).mono ?_); rintro e w' ⟨rfl, ⟨nd, rfl⟩⟩; refine ⟨_, rfl, ?_⟩) | ((with_reducible refine gate_callee (f := 81) rfl ?_); refine goesL_ (some 72) rfl rfl Tryd.func81 zq28 rfl #[.string t147] rfl zq0 ?_; (with_reducible refine (ih_81 kj28 zq58 t147 t148 none _ ?side1 A38.out).mono ?_); (case side1 => exact zq29); rintro e w42 ⟨zn1_, hzn1_, rfl, hb⟩; obtain rfl := Zk.none_ hzn1_; refine ⟨_, rfl, ?_⟩; have n0_ := mk0 (below_step zq2 hb); clear HB; have HB := n0_; clear n0_ hb; (try simp only [errW_none, errW_some])) | ((with_reducible refine gate_callee (f := 74) rfl ?_); refine goesL_ (some 80) rfl rfl Tryd.func74 zq28 rfl #[.string t148] rfl zq0 ?_; (with_reducible refine (fastjson_skipWS.calls kj28 t148 t151 _ A39.out).mono ?_); rintro e w' ⟨rfl, ⟨nd, rfl⟩⟩; refine ⟨_, rfl, ?_⟩) | ((with_reducible refine gate_callee (f := 54) rfl ?_); refine goesL_ (some 85) rfl rfl Tryd.func54 zq28 rfl #[.string (⟨#[117, 110, 101, 120, 112, 101, 99, 116, 101, 100, 32, 101, 110, 100, 32, 111, 102, 32, 111, 98, 106, 101, 99, 116]⟩ : ByteArray)] rfl zq0 ?_; (with_reducible refine (errors_New.calls (⟨#[117, 110, 101, 120, 112, 101, 99, 116, 101, 100, 32, 101, 110, 100, 32, 111, 102, 32, 111, 98, 106, 101, 99, 116]⟩ : ByteArray) t152 _ A41.out).mono ?_); rintro e w43 ⟨z_t152, hz_t152, rfl, hb⟩; have Hz_t152 := mk0 hz_t152; clear hz_t152; refine ⟨_, rfl, ?_⟩; have n0_ := mk0 (below_step zq2 hb); clear HB; have HB := n0_; clear n0_ hb; (try simp only [errW_none, errW_some])))
          go_ret2
          exact ⟨z_t152, Hz_t152.out, by rfl, by repeat (first | (with_reducible first | exact HB.out | apply below_alloc | apply pw_below_drewN | apply below_drew1) | exact HB.out)⟩
         rw [if_neg c40] at H
         have c40b0 : ((t151.size : Int) == 0) = false := beq_eq_false_iff_ne.mpr c40
         have c40b1 : ((t151.size : Int) != 0) = true := bne_iff_ne.mpr c40
         by_cases c44 : 0 < (t151.size : Int)
         rotate_left
         ·rw [if_neg c44] at H
          exact absurd H (by simp)
         rw [if_pos c44] at H
         have c44b0 : decide (0 < (t151.size : Int)) = true := decide_eq_true c44
         have c44b1 : decide (0 < t151.size) = true := decide_eq_true (by omega)
         clear c44
         by_cases c46 : (bt t151 0) = 44
         ·rw [if_pos c46] at H
          have c46b0 : ((bt t151 0) == 44) = true := beq_iff_eq.mpr c46
          have c46b1 : ((bt t151 0) != 44) = false := bne_eq_false_iff_eq.mpr c46
          clear c46
          by_cases c47 : 1 ≤ (t151.size : Int)
          rotate_left
          ·rw [if_neg c47] at H
           exact absurd H (by simp)
          rw [if_pos c47] at H
          have c47b0 := eq_true c47
          have c47b1 : decide (1 ≤ (t151.size : Int)) = true := decide_eq_true c47
          clear c47
          have H' := mk0 H
          clear H
          go_wp2_with (first | ((with_reducible refine gate_callee (f := 74) rfl ?_); refine goesL_ (some 69) rfl rfl Tryd.func74 zq28 rfl #[.string (t145.extract 1 t145.size)] rfl zq0 ?_; (with_reducible refine (fastjson_skipWS.calls kj28 (t145.extract 1 t145.size) t147 _ A37.out).mono ?_); rintro e w' ⟨rfl, ⟨nd, rfl⟩⟩; refine ⟨_, rfl, ?_⟩) | ((with_reducible refine gate_callee (f := 81) rfl ?_); refine goesL_ (some 72) rfl rfl Tryd.func81 zq28 rfl #[.string t147] rfl zq0 ?_; (with_reducible refine (ih_81 kj28 zq58 t147 t148 none _ ?side1 A38.out).mono ?_); (case side1 => exact zq29); rintro e w48 ⟨zn1_, hzn1_, rfl, hb⟩; obtain rfl := Zk.none_ hzn1_; refine ⟨_, rfl, ?_⟩; have n0_ := mk0 (below_step zq2 hb); clear HB; have HB := n0_; clear n0_ hb; (try simp only [errW_none, errW_some])) | ((with_reducible refine gate_callee (f := 74) rfl ?_); refine goesL_ (some 80) rfl rfl Tryd.func74 zq28 rfl #[.string t148] rfl zq0 ?_; (with_reducible refine (fastjson_skipWS.calls kj28 t148 t151 _ A39.out).mono ?_); rintro e w' ⟨rfl, ⟨nd, rfl⟩⟩; refine ⟨_, rfl, ?_⟩; have p45 : 0 ≤ (0 : Int) := (by omega); have q45 : 0 < t151.size := (by have : (0 : Int) < (t151.size : Int) := of_decide_eq_true zq5; omega); have hx45 : ∀ h : 0 < t151.size, ((t151[0]'h).toNat : Int) = bt t151 0 := bt_at t151 0; clear p45; have qi45 : (0 < (t151.size : Int)) = True := eq_true (of_decide_eq_true zq5); replace q45 := eq_true q45))
          go_roundg kj28
          case measure => have := HK1.out; have := HJ10.out; have := HK3.out; have := HJ28.out; omega
          case rel => exact ⟨(t151.extract 1 t151.size), (by rfl), H', ⟨by have := HK1.out; have := HJ10.out; have := HK3.out; have := HJ28.out; omega⟩, ⟨by repeat (first | (with_reducible first | exact HB.out | apply below_alloc | apply pw_below_drewN | apply below_drew1) | exact HB.out)⟩⟩
         rw [if_neg c46] at H
         have c46b0 : ((bt t151 0) == 44) = false := beq_eq_false_iff_ne.mpr c46
         have c46b1 : ((bt t151 0) != 44) = true := bne_iff_ne.mpr c46
         by_cases c50 : (bt t151 0) = 125
         ·rw [if_pos c50] at H
          have c50b0 : ((bt t151 0) == 125) = true := beq_iff_eq.mpr c50
          have c50b1 : ((bt t151 0) != 125) = false := bne_eq_false_iff_eq.mpr c50
          clear c50
          by_cases c51 : 1 ≤ (t151.size : Int)
          rotate_left
          ·rw [if_neg c51] at H
           exact absurd H (by simp)
          rw [if_pos c51] at H
          have c51b0 := eq_true c51
          have c51b1 : decide (1 ≤ (t151.size : Int)) = true := decide_eq_true c51
          clear c51
          simp only [Option.some.injEq, Prod.mk.injEq] at H
          obtain ⟨rfl, rfl⟩ := H
          go_wp2_with (first | ((with_reducible refine gate_callee (f := 74) rfl ?_); refine goesL_ (some 69) rfl rfl Tryd.func74 zq28 rfl #[.string (t145.extract 1 t145.size)] rfl zq0 ?_; (with_reducible refine (fastjson_skipWS.calls kj28 (t145.extract 1 t145.size) t147 _ A37.out).mono ?_); rintro e w' ⟨rfl, ⟨nd, rfl⟩⟩; refine ⟨_, rfl, ?_⟩) | ((with_reducible refine gate_callee (f := 81) rfl ?_); refine goesL_ (some 72) rfl rfl Tryd.func81 zq28 rfl #[.string t147] rfl zq0 ?_; (with_reducible refine (ih_81 kj28 zq58 t147 t148 none _ ?side1 A38.out).mono ?_); (case side1 => exact zq29); rintro e w52 ⟨zn1_, hzn1_, rfl, hb⟩; obtain rfl := Zk.none_ hzn1_; refine ⟨_, rfl, ?_⟩; have n0_ := mk0 (below_step zq2 hb); clear HB; have HB := n0_; clear n0_ hb; (try simp only [errW_none, errW_some])) | ((with_reducible refine gate_callee (f := 74) rfl ?_); refine goesL_ (some 80) rfl rfl Tryd.func74 zq28 rfl #[.string t148] rfl zq0 ?_; (with_reducible refine (fastjson_skipWS.calls kj28 t148 t151 _ A39.out).mono ?_); rintro e w' ⟨rfl, ⟨nd, rfl⟩⟩; refine ⟨_, rfl, ?_⟩; have p45 : 0 ≤ (0 : Int) := (by omega); have q45 : 0 < t151.size := (by have : (0 : Int) < (t151.size : Int) := of_decide_eq_true zq5; omega); have hx45 : ∀ h : 0 < t151.size, ((t151[0]'h).toNat : Int) = bt t151 0 := bt_at t151 0; clear p45; have qi45 : (0 < (t151.size : Int)) = True := eq_true (of_decide_eq_true zq5); replace q45 := eq_true q45; have p49 : 0 ≤ (0 : Int) := (by omega); have q49 : 0 < t151.size := (by have : (0 : Int) < (t151.size : Int) := of_decide_eq_true zq5; omega); have hx49 : ∀ h : 0 < t151.size, ((t151[0]'h).toNat : Int) = bt t151 0 := bt_at t151 0; clear p49; have qi49 : (0 < (t151.size : Int)) = True := eq_true (of_decide_eq_true zq5); replace q49 := eq_true q49))
          go_ret2
          exact ⟨none, Zk.nn, by rfl, by repeat (first | (with_reducible first | exact HB.out | apply below_alloc | apply pw_below_drewN | apply below_drew1) | exact HB.out)⟩
         rw [if_neg c50] at H
         have c50b0 : ((bt t151 0) == 125) = false := beq_eq_false_iff_ne.mpr c50
         have c50b1 : ((bt t151 0) != 125) = true := bne_iff_ne.mpr c50
         replace H := Option.bind_eq_some_iff.mp H
         obtain ⟨t153, A530, H⟩ := H
         (try dsimp only at H)
         have A53 := mk0 A530
         clear A530
         simp only [Option.some.injEq, Prod.mk.injEq] at H
         obtain ⟨rfl, rfl⟩ := H
         go_wp2_with (first | ((with_reducible refine gate_callee (f := 74) rfl ?_); refine goesL_ (some 69) rfl rfl Tryd.func74 zq28 rfl #[.string (t145.extract 1 t145.size)] rfl zq0 ?_; (with_reducible refine (fastjson_skipWS.calls kj28 (t145.extract 1 t145.size) t147 _ A37.out).mono ?_); rintro e w' ⟨rfl, ⟨nd, rfl⟩⟩; refine ⟨_, rfl, ?_⟩) | ((with_reducible refine gate_callee (f := 81) rfl ?_); refine goesL_ (some 72) rfl rfl Tryd.func81 zq28 rfl #[.string t147] rfl zq0 ?_; (with_reducible refine (ih_81 kj28 zq58 t147 t148 none _ ?side1 A38.out).mono ?_); (case side1 => exact zq29); rintro e w54 ⟨zn1_, hzn1_, rfl, hb⟩; obtain rfl := Zk.none_ hzn1_; refine ⟨_, rfl, ?_⟩; have n0_ := mk0 (below_step zq2 hb); clear HB; have HB := n0_; clear n0_ hb; (try simp only [errW_none, errW_some])) | ((with_reducible refine gate_callee (f := 74) rfl ?_); refine goesL_ (some 80) rfl rfl Tryd.func74 zq28 rfl #[.string t148] rfl zq0 ?_; (with_reducible refine (fastjson_skipWS.calls kj28 t148 t151 _ A39.out).mono ?_); rintro e w' ⟨rfl, ⟨nd, rfl⟩⟩; refine ⟨_, rfl, ?_⟩; have p45 : 0 ≤ (0 : Int) := (by omega); have q45 : 0 < t151.size := (by have : (0 : Int) < (t151.size : Int) := of_decide_eq_true zq5; omega); have hx45 : ∀ h : 0 < t151.size, ((t151[0]'h).toNat : Int) = bt t151 0 := bt_at t151 0; clear p45; have qi45 : (0 < (t151.size : Int)) = True := eq_true (of_decide_eq_true zq5); replace q45 := eq_true q45; have p49 : 0 ≤ (0 : Int) := (by omega); have q49 : 0 < t151.size := (by have : (0 : Int) < (t151.size : Int) := of_decide_eq_true zq5; omega); have hx49 : ∀ h : 0 < t151.size, ((t151[0]'h).toNat : Int) = bt t151 0 := bt_at t151 0; clear p49; have qi49 : (0 < (t151.size : Int)) = True := eq_true (of_decide_eq_true zq5); replace q49 := eq_true q49) | ((with_reducible refine gate_callee (f := 54) rfl ?_); refine goesL_ (some 97) rfl rfl Tryd.func54 zq28 rfl #[.string (⟨#[109, 105, 115, 115, 105, 110, 103, 32, 39, 44, 39, 32, 97, 102, 116, 101, 114, 32, 111, 98, 106, 101, 99, 116, 32, 118, 97, 108, 117, 101]⟩ : ByteArray)] rfl zq0 ?_; (with_reducible refine (errors_New.calls (⟨#[109, 105, 115, 115, 105, 110, 103, 32, 39, 44, 39, 32, 97, 102, 116, 101, 114, 32, 111, 98, 106, 101, 99, 116, 32, 118, 97, 108, 117, 101]⟩ : ByteArray) t153 _ A53.out).mono ?_); rintro e w55 ⟨z_t153, hz_t153, rfl, hb⟩; have Hz_t153 := mk0 hz_t153; clear hz_t153; refine ⟨_, rfl, ?_⟩; have n0_ := mk0 (below_step zq2 hb); clear HB; have HB := n0_; clear n0_ hb; (try simp only [errW_none, errW_some])))
         go_ret2
         exact ⟨z_t153, Hz_t153.out, by rfl, by repeat (first | (with_reducible first | exact HB.out | apply below_alloc | apply pw_below_drewN | apply below_drew1) | exact HB.out)⟩
theorem grp80.calls (k : Nat) : fastjson_validateArray.Stmt k ∧ fastjson_validateValue.Stmt k ∧ fastjson_validateObject.Stmt k := by
 induction k using Nat.strongRecOn with
 | _ k ih => exact ⟨fastjson_validateArray.step k (fun m h => (ih m h).1) (fun m h => (ih m h).2.1) (fun m h => (ih m h).2.2), fastjson_validateValue.step k (fun m h => (ih m h).1) (fun m h => (ih m h).2.1) (fun m h => (ih m h).2.2), fastjson_validateObject.step k (fun m h => (ih m h).1) (fun m h => (ih m h).2.1) (fun m h => (ih m h).2.2)⟩
theorem fastjson_validateArray.calls (k : Nat) : ∀ (a0 : ByteArray) (r1 : ByteArray) (r2 : Option Int) (w : World) (hG : Laid w) (h : fastjson_validateArray.f k a0 = some (r1, r2)),
 Calls Tryd.prog 80 #[.string a0] w fun e w' => ∃ z_r2 : Option Int, Zk z_r2 r2 ∧ e = .returned (.tuple #[.string r1, errW z_r2]) ∧ Below w.heap.size w w' := (grp80.calls k).1
theorem fastjson_validateValue.calls (k : Nat) : ∀ (a0 : ByteArray) (r1 : ByteArray) (r2 : Option Int) (w : World) (hG : Laid w) (h : fastjson_validateValue.f k a0 = some (r1, r2)),
 Calls Tryd.prog 81 #[.string a0] w fun e w' => ∃ z_r2 : Option Int, Zk z_r2 r2 ∧ e = .returned (.tuple #[.string r1, errW z_r2]) ∧ Below w.heap.size w w' := (grp80.calls k).2.1
theorem fastjson_validateObject.calls (k : Nat) : ∀ (a0 : ByteArray) (r1 : ByteArray) (r2 : Option Int) (w : World) (hG : Laid w) (h : fastjson_validateObject.f k a0 = some (r1, r2)),
 Calls Tryd.prog 106 #[.string a0] w fun e w' => ∃ z_r2 : Option Int, Zk z_r2 r2 ∧ e = .returned (.tuple #[.string r1, errW z_r2]) ∧ Below w.heap.size w w' := (grp80.calls k).2.2
def fastjson_Validate.f (k : Nat) (a0 : ByteArray) : Option (Option Int) := (fastjson_skipWS.f k a0).bind fun t101 => ((fastjson_validateValue.f k t101).bind fun bt102 => (if bt102.2.isNone = true then ((fastjson_skipWS.f k bt102.1).bind fun t105 => (if (t105.size : Int) > 0 then ((errors_New.f (⟨#[117, 110, 101, 120, 112, 101, 99, 116, 101, 100, 32, 116, 97, 105, 108]⟩ : ByteArray)).bind fun t106 => (some t106)) else (some none))) else ((errors_New.f (⟨#[99, 97, 110, 110, 111, 116, 32, 112, 97, 114, 115, 101, 32, 74, 83, 79, 78]⟩ : ByteArray)).bind fun t107 => (some t107))))
theorem fastjson_Validate.mono : ∀ a0 k, LeO (fastjson_Validate.f k a0) (fastjson_Validate.f (k + 1) a0) := by
 intro a0 k
 unfold fastjson_Validate.f
 repeat' first
  | (with_reducible exact fastjson_skipWS.mono _ _)
  | (with_reducible exact fastjson_validateValue.mono _ _)
  | (with_reducible exact LeO.refl _)
  | (with_reducible exact LeO.none _)
  | (with_reducible refine LeO.ite ?_ ?_)
  | (with_reducible refine LeO.bind ?_ (fun _ => ?_))
  | exact fastjson_skipWS.mono _ _
  | exact fastjson_validateValue.mono _ _
  | exact LeO.none _
  | refine LeO.ite ?_ ?_
  | refine LeO.bind ?_ (fun _ => ?_)
set_option maxHeartbeats 8000000 in
set_option maxRecDepth 100000 in
theorem fastjson_Validate.calls (k : Nat) (a0 : ByteArray) (r : Option Int) (w : World) (hG : Laid w) (h : fastjson_Validate.f k a0 = some r) :
 Calls Tryd.prog 45 #[.string a0] w fun e w' => ∃ z_r : Option Int, Zk z_r r ∧ e = .returned (errW z_r) ∧ Below w.heap.size w w' := by
 have HG := mk0 hG
 clear hG
 have hu55 := Tryd.underlying55
 have hu148 := Tryd.underlying148
 have HB := mk0 (Below.refl w.heap.size w)
 have H : ((fastjson_skipWS.f k a0).bind fun t101 => ((fastjson_validateValue.f k t101).bind fun bt102 => (if bt102.2.isNone = true then ((fastjson_skipWS.f k bt102.1).bind fun t105 => (if (t105.size : Int) > 0 then ((errors_New.f (⟨#[117, 110, 101, 120, 112, 101, 99, 116, 101, 100, 32, 116, 97, 105, 108]⟩ : ByteArray)).bind fun t106 => (some t106)) else (some none))) else ((errors_New.f (⟨#[99, 97, 110, 110, 111, 116, 32, 112, 97, 114, 115, 101, 32, 74, 83, 79, 78]⟩ : ByteArray)).bind fun t107 => (some t107))))) = some r := h
 clear h
 replace H := Option.bind_eq_some_iff.mp H
 obtain ⟨t101, A20, H⟩ := H
 (try dsimp only at H)
 have A2 := mk0 A20
 clear A20
 replace H := Option.bind_eq_some_iff.mp H
 obtain ⟨⟨t102, t103⟩, A30, H⟩ := H
 (try dsimp only at H)
 have A3 := mk0 A30
 clear A30
 rcases t103 with _ | q104
 rotate_left
 ·rw [if_neg (show ¬ (some q104).isNone = true by simp)] at H
  (try (obtain ⟨m_q104, rfl⟩ := Zk.some_ Hz_t103.out))
  try simp only [errW_none, errW_some]
  replace H := Option.bind_eq_some_iff.mp H
  obtain ⟨t107, A100, H⟩ := H
  (try dsimp only at H)
  have A10 := mk0 A100
  clear A100
  obtain rfl := Option.some.inj H
  go_enter Tryd.func45, Tryd.ntmps45
  go_wp2_with (first | ((with_reducible refine gate_callee (f := 74) rfl ?_); refine goesL_ (some 6) rfl rfl Tryd.func74 zq28 rfl #[.string a0] rfl zq0 ?_; (with_reducible refine (fastjson_skipWS.calls k a0 t101 _ A2.out).mono ?_); rintro e w' ⟨rfl, ⟨nd, rfl⟩⟩; refine ⟨_, rfl, ?_⟩) | ((with_reducible refine gate_callee (f := 81) rfl ?_); refine goesL_ (some 9) rfl rfl Tryd.func81 zq28 rfl #[.string t101] rfl zq0 ?_; (with_reducible refine (fastjson_validateValue.calls k t101 t102 (some q104) _ ?side1 A3.out).mono ?_); (case side1 => exact zq29); rintro e w11 ⟨zs1_, hzs1_, rfl, hb⟩; obtain ⟨m_q104, rfl⟩ := Zk.some_ hzs1_; refine ⟨_, rfl, ?_⟩; have n0_ := mk0 (below_step zq2 hb); clear HB; have HB := n0_; clear n0_ hb; (try simp only [errW_none, errW_some])) | ((with_reducible refine gate_callee (f := 54) rfl ?_); refine goesL_ (some 14) rfl rfl Tryd.func54 zq28 rfl #[.string (⟨#[99, 97, 110, 110, 111, 116, 32, 112, 97, 114, 115, 101, 32, 74, 83, 79, 78]⟩ : ByteArray)] rfl zq0 ?_; (with_reducible refine (errors_New.calls (⟨#[99, 97, 110, 110, 111, 116, 32, 112, 97, 114, 115, 101, 32, 74, 83, 79, 78]⟩ : ByteArray) t107 _ A10.out).mono ?_); rintro e w12 ⟨z_t107, hz_t107, rfl, hb⟩; have Hz_t107 := mk0 hz_t107; clear hz_t107; refine ⟨_, rfl, ?_⟩; have n0_ := mk0 (below_step zq2 hb); clear HB; have HB := n0_; clear n0_ hb; (try simp only [errW_none, errW_some])))
  go_ret
  exact ⟨z_t107, Hz_t107.out, by rfl, by repeat (first | (with_reducible first | exact HB.out | apply below_alloc | apply pw_below_drewN | apply below_drew1) | exact HB.out)⟩
 rw [if_pos (show (none : Option Int).isNone = true by rfl)] at H
 (try (obtain rfl := Zk.none_ Hz_t103.out))
 try simp only [errW_none, errW_some]
 replace H := Option.bind_eq_some_iff.mp H
 obtain ⟨t105, A40, H⟩ := H
 (try dsimp only at H)
 have A4 := mk0 A40
 clear A40
 by_cases c5 : (t105.size : Int) > 0
 rotate_left
 ·rw [if_neg c5] at H
  have c5b0 : decide (0 < (t105.size : Int)) = false := decide_eq_false c5
  have c5b1 : decide (0 < t105.size) = false := decide_eq_false (by omega)
  clear c5
  obtain rfl := Option.some.inj H
  go_enter Tryd.func45, Tryd.ntmps45
  go_wp2_with (first | ((with_reducible refine gate_callee (f := 74) rfl ?_); refine goesL_ (some 6) rfl rfl Tryd.func74 zq28 rfl #[.string a0] rfl zq0 ?_; (with_reducible refine (fastjson_skipWS.calls k a0 t101 _ A2.out).mono ?_); rintro e w' ⟨rfl, ⟨nd, rfl⟩⟩; refine ⟨_, rfl, ?_⟩) | ((with_reducible refine gate_callee (f := 81) rfl ?_); refine goesL_ (some 9) rfl rfl Tryd.func81 zq28 rfl #[.string t101] rfl zq0 ?_; (with_reducible refine (fastjson_validateValue.calls k t101 t102 none _ ?side1 A3.out).mono ?_); (case side1 => exact zq29); rintro e w9 ⟨zn1_, hzn1_, rfl, hb⟩; obtain rfl := Zk.none_ hzn1_; refine ⟨_, rfl, ?_⟩; have n0_ := mk0 (below_step zq2 hb); clear HB; have HB := n0_; clear n0_ hb; (try simp only [errW_none, errW_some])) | ((with_reducible refine gate_callee (f := 74) rfl ?_); refine goesL_ (some 16) rfl rfl Tryd.func74 zq28 rfl #[.string t102] rfl zq0 ?_; (with_reducible refine (fastjson_skipWS.calls k t102 t105 _ A4.out).mono ?_); rintro e w' ⟨rfl, ⟨nd, rfl⟩⟩; refine ⟨_, rfl, ?_⟩))
  go_ret
  exact ⟨none, Zk.nn, by rfl, by repeat (first | (with_reducible first | exact HB.out | apply below_alloc | apply pw_below_drewN | apply below_drew1) | exact HB.out)⟩
 rw [if_pos c5] at H
 have c5b0 : decide (0 < (t105.size : Int)) = true := decide_eq_true c5
 have c5b1 : decide (0 < t105.size) = true := decide_eq_true (by omega)
 clear c5
 replace H := Option.bind_eq_some_iff.mp H
 obtain ⟨t106, A60, H⟩ := H
 (try dsimp only at H)
 have A6 := mk0 A60
 clear A60
 obtain rfl := Option.some.inj H
 go_enter Tryd.func45, Tryd.ntmps45
 go_wp2_with (first | ((with_reducible refine gate_callee (f := 74) rfl ?_); refine goesL_ (some 6) rfl rfl Tryd.func74 zq28 rfl #[.string a0] rfl zq0 ?_; (with_reducible refine (fastjson_skipWS.calls k a0 t101 _ A2.out).mono ?_); rintro e w' ⟨rfl, ⟨nd, rfl⟩⟩; refine ⟨_, rfl, ?_⟩) | ((with_reducible refine gate_callee (f := 81) rfl ?_); refine goesL_ (some 9) rfl rfl Tryd.func81 zq28 rfl #[.string t101] rfl zq0 ?_; (with_reducible refine (fastjson_validateValue.calls k t101 t102 none _ ?side1 A3.out).mono ?_); (case side1 => exact zq29); rintro e w7 ⟨zn1_, hzn1_, rfl, hb⟩; obtain rfl := Zk.none_ hzn1_; refine ⟨_, rfl, ?_⟩; have n0_ := mk0 (below_step zq2 hb); clear HB; have HB := n0_; clear n0_ hb; (try simp only [errW_none, errW_some])) | ((with_reducible refine gate_callee (f := 74) rfl ?_); refine goesL_ (some 16) rfl rfl Tryd.func74 zq28 rfl #[.string t102] rfl zq0 ?_; (with_reducible refine (fastjson_skipWS.calls k t102 t105 _ A4.out).mono ?_); rintro e w' ⟨rfl, ⟨nd, rfl⟩⟩; refine ⟨_, rfl, ?_⟩) | ((with_reducible refine gate_callee (f := 54) rfl ?_); refine goesL_ (some 20) rfl rfl Tryd.func54 zq28 rfl #[.string (⟨#[117, 110, 101, 120, 112, 101, 99, 116, 101, 100, 32, 116, 97, 105, 108]⟩ : ByteArray)] rfl zq0 ?_; (with_reducible refine (errors_New.calls (⟨#[117, 110, 101, 120, 112, 101, 99, 116, 101, 100, 32, 116, 97, 105, 108]⟩ : ByteArray) t106 _ A6.out).mono ?_); rintro e w8 ⟨z_t106, hz_t106, rfl, hb⟩; have Hz_t106 := mk0 hz_t106; clear hz_t106; refine ⟨_, rfl, ?_⟩; have n0_ := mk0 (below_step zq2 hb); clear HB; have HB := n0_; clear n0_ hb; (try simp only [errW_none, errW_some])))
 go_ret
 exact ⟨z_t106, Hz_t106.out, by rfl, by repeat (first | (with_reducible first | exact HB.out | apply below_alloc | apply pw_below_drewN | apply below_drew1) | exact HB.out)⟩
def impl_FjValid.f (k : Nat) (a0 : ByteArray) : Option (Bool) := (fastjson_Validate.f k a0).bind fun t101 => (if t101.isNone = true then (some true) else (some false))
theorem impl_FjValid.mono : ∀ a0 k, LeO (impl_FjValid.f k a0) (impl_FjValid.f (k + 1) a0) := by
 intro a0 k
 unfold impl_FjValid.f
 repeat' first
  | (with_reducible exact fastjson_Validate.mono _ _)
  | (with_reducible exact LeO.refl _)
  | (with_reducible exact LeO.none _)
  | (with_reducible refine LeO.ite ?_ ?_)
  | (with_reducible refine LeO.bind ?_ (fun _ => ?_))
  | exact fastjson_Validate.mono _ _
  | exact LeO.none _
  | refine LeO.ite ?_ ?_
  | refine LeO.bind ?_ (fun _ => ?_)
set_option maxHeartbeats 8000000 in
set_option maxRecDepth 100000 in
theorem impl_FjValid.calls (k : Nat) (a0 : ByteArray) (r : Bool) (w : World) (hG : Laid w) (h : impl_FjValid.f k a0 = some r) :
 Calls Tryd.prog 25 #[.string a0] w fun e w' => e = .returned (.bool r) ∧ Below w.heap.size w w' := by
 have HG := mk0 hG
 clear hG
 have hu55 := Tryd.underlying55
 have hu148 := Tryd.underlying148
 have HB := mk0 (Below.refl w.heap.size w)
 have H : ((fastjson_Validate.f k a0).bind fun t101 => (if t101.isNone = true then (some true) else (some false))) = some r := h
 clear h
 replace H := Option.bind_eq_some_iff.mp H
 obtain ⟨t101, A20, H⟩ := H
 (try dsimp only at H)
 have A2 := mk0 A20
 clear A20
 rcases t101 with _ | q102
 ·rw [if_pos (show (none : Option Int).isNone = true by rfl)] at H
  (try (obtain rfl := Zk.none_ Hz_t101.out))
  try simp only [errW_none, errW_some]
  obtain rfl := Option.some.inj H
  go_enter Tryd.func25, Tryd.ntmps25
  go_wp2_with (first | ((with_reducible refine gate_callee (f := 45) rfl ?_); refine goesL_ (some 4) rfl rfl Tryd.func45 zq28 rfl #[.string a0] rfl zq0 ?_; (with_reducible refine (fastjson_Validate.calls k a0 none _ ?side1 A2.out).mono ?_); (case side1 => exact zq29); rintro e w3 ⟨zn0_, hzn0_, rfl, hb⟩; obtain rfl := Zk.none_ hzn0_; refine ⟨_, rfl, ?_⟩; have n0_ := mk0 (below_step zq2 hb); clear HB; have HB := n0_; clear n0_ hb; (try simp only [errW_none, errW_some])))
  go_ret
  exact ⟨by rfl, by repeat (first | (with_reducible first | exact HB.out | apply below_alloc | apply pw_below_drewN | apply below_drew1) | exact HB.out)⟩
 rw [if_neg (show ¬ (some q102).isNone = true by simp)] at H
 (try (obtain ⟨m_q102, rfl⟩ := Zk.some_ Hz_t101.out))
 try simp only [errW_none, errW_some]
 obtain rfl := Option.some.inj H
 go_enter Tryd.func25, Tryd.ntmps25
 go_wp2_with (first | ((with_reducible refine gate_callee (f := 45) rfl ?_); refine goesL_ (some 4) rfl rfl Tryd.func45 zq28 rfl #[.string a0] rfl zq0 ?_; (with_reducible refine (fastjson_Validate.calls k a0 (some q102) _ ?side1 A2.out).mono ?_); (case side1 => exact zq29); rintro e w4 ⟨zs0_, hzs0_, rfl, hb⟩; obtain ⟨m_q102, rfl⟩ := Zk.some_ hzs0_; refine ⟨_, rfl, ?_⟩; have n0_ := mk0 (below_step zq2 hb); clear HB; have HB := n0_; clear n0_ hb; (try simp only [errW_none, errW_some])))
 go_ret
 exact ⟨by rfl, by repeat (first | (with_reducible first | exact HB.out | apply below_alloc | apply pw_below_drewN | apply below_drew1) | exact HB.out)⟩
def laws_FnFjValid.j0 : Nat → ByteArray → Bool → Option (Bool)
  | 0, _, _ => none
  | k + 1, x0, x15 => if x15 = true then (some true) else ((spec_Read.f k x0).bind fun bt102 => ((impl_FjValid.f k x0).bind fun t112 => (some (t112 == bt102.2.2.2.2))))
def laws_FnFjValid.f (k : Nat) (a0 : ByteArray) : Option (Bool) := if (a0.size : Int) > 2147483647 then (some true) else (if (a0.size : Int) > 4000 then (laws_FnFjValid.j0 k a0 true) else ((laws_fjSteady.f k a0).bind fun t101 => (laws_FnFjValid.j0 k a0 (!t101))))
theorem laws_FnFjValid.mono_l : ∀ k, (∀ y0 y1, LeO (laws_FnFjValid.j0 k y0 y1) (laws_FnFjValid.j0 (k + 1) y0 y1))
 | 0 => fun _ _ r h => by simp [laws_FnFjValid.j0] at h
 | k + 1 => by
  have ih0 := laws_FnFjValid.mono_l k
  ·intro y0 y1
   unfold laws_FnFjValid.j0
   repeat' first
   | (with_reducible exact ih0 _ _)
   | (with_reducible exact impl_FjValid.mono _ _)
   | (with_reducible exact laws_fjSteady.mono _ _)
   | (with_reducible exact spec_Read.mono _ _)
   | (with_reducible exact LeO.refl _)
   | (with_reducible exact LeO.none _)
   | (with_reducible refine LeO.ite ?_ ?_)
   | (with_reducible refine LeO.bind ?_ (fun _ => ?_))
   | exact ih0 _ _
   | exact impl_FjValid.mono _ _
   | exact laws_fjSteady.mono _ _
   | exact spec_Read.mono _ _
   | exact LeO.none _
   | refine LeO.ite ?_ ?_
   | refine LeO.bind ?_ (fun _ => ?_)
theorem laws_FnFjValid.mono : ∀ a0 k, LeO (laws_FnFjValid.f k a0) (laws_FnFjValid.f (k + 1) a0) := by
 intro a0 k
 have ih0 := laws_FnFjValid.mono_l k
 unfold laws_FnFjValid.f
 repeat' first
  | (with_reducible exact ih0 _ _)
  | (with_reducible exact impl_FjValid.mono _ _)
  | (with_reducible exact laws_fjSteady.mono _ _)
  | (with_reducible exact spec_Read.mono _ _)
  | (with_reducible exact LeO.refl _)
  | (with_reducible exact LeO.none _)
  | (with_reducible refine LeO.ite ?_ ?_)
  | (with_reducible refine LeO.bind ?_ (fun _ => ?_))
  | exact ih0 _ _
  | exact impl_FjValid.mono _ _
  | exact laws_fjSteady.mono _ _
  | exact spec_Read.mono _ _
  | exact LeO.none _
  | refine LeO.ite ?_ ?_
  | refine LeO.bind ?_ (fun _ => ?_)
set_option maxHeartbeats 8000000 in
set_option maxRecDepth 100000 in
theorem laws_FnFjValid.calls (k : Nat) (a0 : ByteArray) (r : Bool) (w : World) (hG : Laid w) (h : laws_FnFjValid.f k a0 = some r) :
 Calls Tryd.prog 9 #[.string a0] w fun e w' => e = .returned (.bool r) ∧ Below w.heap.size w w' := by
 have HG := mk0 hG
 clear hG
 have hu34 := Tryd.underlying34
 have HB := mk0 (Below.refl w.heap.size w)
 have H : (if (a0.size : Int) > 2147483647 then (some true) else (if (a0.size : Int) > 4000 then (laws_FnFjValid.j0 k a0 true) else ((laws_fjSteady.f k a0).bind fun t101 => (laws_FnFjValid.j0 k a0 (!t101))))) = some r := h
 clear h
 by_cases c2 : (a0.size : Int) > 2147483647
 ·rw [if_pos c2] at H
  have c2b0 : decide (2147483647 < (a0.size : Int)) = true := decide_eq_true c2
  have c2b1 : decide (2147483647 < a0.size) = true := decide_eq_true (by omega)
  clear c2
  obtain rfl := Option.some.inj H
  go_enter Tryd.func9, Tryd.ntmps9
  go_wp2
  go_ret
  exact ⟨by rfl, by repeat (first | (with_reducible first | exact HB.out | apply below_alloc | apply pw_below_drewN | apply below_drew1) | exact HB.out)⟩
 rw [if_neg c2] at H
 have c2b0 : decide (2147483647 < (a0.size : Int)) = false := decide_eq_false c2
 have c2b1 : decide (2147483647 < a0.size) = false := decide_eq_false (by omega)
 clear c2
 have HC3 := mk0 H
 clear H
 go_enter Tryd.func9, Tryd.ntmps9
 go_upto_region 3 with (fail)
 go_cut [15] (fun v15 wc => ∃ (kq : Nat) (x15_2 : Bool), v15 = .bool x15_2 ∧ Aside0 (laws_FnFjValid.j0 kq a0 x15_2 = some r) ∧ Aside0 (kq ≤ k) ∧ Aside0 (Below w.heap.size w wc))
 case first =>
  have H := HC3.out
  clear HC3
  by_cases c4 : (a0.size : Int) > 4000
  ·rw [if_pos c4] at H
   have c4b0 : decide (4000 < (a0.size : Int)) = true := decide_eq_true c4
   have c4b1 : decide (4000 < a0.size) = true := decide_eq_true (by omega)
   clear c4
   (skip)
   have H' := mk0 H
   clear H
   go_wp2
   go_meet
   case rel => exact ⟨_, (true), (by rfl), H', ⟨by omega⟩, ⟨by repeat (first | (with_reducible first | exact HB.out | apply below_alloc | apply pw_below_drewN | apply below_drew1) | exact HB.out)⟩⟩
  rw [if_neg c4] at H
  have c4b0 : decide (4000 < (a0.size : Int)) = false := decide_eq_false c4
  have c4b1 : decide (4000 < a0.size) = false := decide_eq_false (by omega)
  clear c4
  (skip)
  replace H := Option.bind_eq_some_iff.mp H
  obtain ⟨t101, A50, H⟩ := H
  (try dsimp only at H)
  have A5 := mk0 A50
  clear A50
  have H' := mk0 H
  clear H
  go_wp2_with (first | (go_at_call 21; (with_reducible refine (laws_fjSteady.calls k a0 t101 _ A5.out).mono ?_); rintro e w' ⟨rfl, ⟨nd, rfl⟩⟩))
  go_meet
  case rel => exact ⟨_, (!t101), (by rfl), H', ⟨by omega⟩, ⟨by repeat (first | (with_reducible first | exact HB.out | apply below_alloc | apply pw_below_drewN | apply below_drew1) | exact HB.out)⟩⟩
 case rest =>
  clear HC3 c2b0 c2b1
  obtain ⟨kq, x15_2, rfl, HA, HJ2, HB⟩ := hcut
  cases kq with
  | zero => exact absurd HA.out (by simp [laws_FnFjValid.j0])
  | succ kj2 =>
   have H := HA.out
   clear HA
   simp only [laws_FnFjValid.j0] at H
   by_cases c6 : x15_2 = true
   ·subst c6
    rw [if_pos rfl] at H
    obtain rfl := Option.some.inj H
    go_wp2
    go_ret
    exact ⟨by rfl, by repeat (first | (with_reducible first | exact HB.out | apply below_alloc | apply pw_below_drewN | apply below_drew1) | exact HB.out)⟩
   replace c6 := Bool.eq_false_iff.mpr c6
   subst c6
   rw [if_neg (show ¬ (false = true) by decide)] at H
   replace H := Option.bind_eq_some_iff.mp H
   obtain ⟨⟨t102, t103, t104, t107, t110⟩, A70, H⟩ := H
   (try dsimp only at H)
   have A7 := mk0 A70
   clear A70
   replace H := Option.bind_eq_some_iff.mp H
   obtain ⟨t112, A80, H⟩ := H
   (try dsimp only at H)
   have A8 := mk0 A80
   clear A80
   obtain rfl := Option.some.inj H
   go_wp2_with (first | ((with_reducible refine gate_callee (f := 24) rfl ?_); refine goesL_ (some 18) rfl rfl Tryd.func24 zq28 rfl #[.string a0] rfl zq0 ?_; (with_reducible refine (spec_Read.calls kj2 a0 t102 t103 t104 t107 t110 _ A7.out).mono ?_); rintro e w9 ⟨v105, v108, rfl, ho0, ho1, hb⟩; refine ⟨_, rfl, ?_⟩; have HO106 := mk0 (Kd.R_lower ho0 (below_size zq2)); have HO109 := mk0 (Kd.R_lower ho1 (below_size zq2)); replace HB := mk0 (below_step zq2 hb); clear hb ho0 ho1) | ((with_reducible refine gate_dst (N := 3) rfl ?_); refine box_event ?hg (N := 3) ?hd (cs := #[.int .i64 0, .string (⟨#[]⟩ : ByteArray), .slice none 0 0, .slice none 0 0]) (t := 34) ?hr ?_; (case hd => rfl); (case hg => rfl); (case hr => exact zq32); intro gb111 hg w10 hbox hb; replace HO106 := mk0 (Kd.R_below (by (with_reducible repeat (first | apply Kd.R_alloc | apply Kd.R_drewN | apply Kd.R_drew)); exact HO106.out) hb); replace HO109 := mk0 (Kd.R_below (Kd.R_elderB (by (with_reducible repeat (first | apply Kd.R_alloc | apply Kd.R_drewN | apply Kd.R_drew)); exact HO109.out) gb111 (Nat.le_of_eq hg.symm)) hb); have BK111 := mk0 (hbox); have GW111 := mk0 ((zq63 : w.heap.size ≤ gb111)); have GE111 := mk0 ((zq63 : w.heap.size ≤ gb111)); replace HB := mk0 (below_step zq2 hb); clear hb hbox hg; have hcz11_0 : w10.cell? ⟨gb111, 0, none⟩ = some (.int .i64 0) := (blk_cell BK111.out 0).trans rfl; have hcz11_1 : w10.cell? ⟨gb111, 1, none⟩ = some (.string (⟨#[]⟩ : ByteArray)) := (blk_cell BK111.out 1).trans rfl; have hcz11_2 : w10.cell? ⟨gb111, 2, none⟩ = some (.slice none 0 0) := (blk_cell BK111.out 2).trans rfl; have hcz11_3 : w10.cell? ⟨gb111, 3, none⟩ = some (.slice none 0 0) := (blk_cell BK111.out 3).trans rfl; have hfz11_0 := blk_frozen BK111.out 0; have hfz11_1 := blk_frozen BK111.out 1; have hfz11_2 := blk_frozen BK111.out 2; have hfz11_3 := blk_frozen BK111.out 3; obtain ⟨Ao12, co12, eo12⟩ := Kd.R_slice HO106.out; subst eo12; obtain ⟨Ao13, co13, eo13⟩ := Kd.R_slice HO109.out; subst eo13) | ((with_reducible refine gate_callee (f := 25) rfl ?_); refine goesL_ (some 22) rfl rfl Tryd.func25 zq28 rfl #[.string a0] rfl zq0 ?_; (with_reducible refine (impl_FjValid.calls kj2 a0 t112 _ ?side1 A8.out).mono ?_); (case side1 => first | exact HG.out | exact Laid.below HG.out zq67); rintro e w14 ⟨rfl, hb⟩; refine ⟨_, rfl, ?_⟩; replace HO106 := mk0 (Kd.R_below (by (with_reducible repeat (first | apply Kd.R_alloc | apply Kd.R_drewN | apply Kd.R_drew)); exact (Kd.R_mono (Kd.R_far (p := ⟨gb111, 3, none⟩) (Kd.R_far (p := ⟨gb111, 2, none⟩) (Kd.R_far (p := ⟨gb111, 1, none⟩) (Kd.R_far (p := ⟨gb111, 0, none⟩) (Kd.R_types HO106.out BK111.out zq49) (fun _ hk => hk.2) (.int .i64 t102)) (fun _ hk => hk.2) (.string t103)) (fun _ hk => hk.2) (.slice Ao12 t104.length co12)) (fun _ hk => hk.2) (.slice Ao13 t107.length co13)) (fun _ h_ => h_.1))) hb); replace HO109 := mk0 (Kd.R_below (by (with_reducible repeat (first | apply Kd.R_alloc | apply Kd.R_drewN | apply Kd.R_drew)); exact (Kd.R_mono (Kd.R_far (p := ⟨gb111, 3, none⟩) (Kd.R_far (p := ⟨gb111, 2, none⟩) (Kd.R_far (p := ⟨gb111, 1, none⟩) (Kd.R_far (p := ⟨gb111, 0, none⟩) (Kd.R_mono HO109.out (fun k_ hk => (⟨hk, hk.2⟩ : _ ∧ k_ ≠ gb111))) (fun _ hk => hk.2) (.int .i64 t102)) (fun _ hk => hk.2) (.string t103)) (fun _ hk => hk.2) (.slice Ao12 t104.length co12)) (fun _ hk => hk.2) (.slice Ao13 t107.length co13)) (fun _ h_ => h_.1))) hb); replace BK111 := mk0 (blk_below (g := gb111) (o := .cells #[.int .i64 t102, .string t103, .slice Ao12 t104.length co12, .slice Ao13 t107.length co13] 34 (0, 0)) (by (with_reducible repeat (first | refine blk_drewN ?_ _ | refine blk_drew ?_ | refine blk_alloc ?_ _)); refine blk_put (cs := #[.int .i64 t102, .string t103, .slice Ao12 t104.length co12, .slice none 0 0]) ?_ 3 _ rfl; (with_reducible repeat (first | refine blk_drewN ?_ _ | refine blk_drew ?_ | refine blk_alloc ?_ _)); refine blk_put (cs := #[.int .i64 t102, .string t103, .slice none 0 0, .slice none 0 0]) ?_ 2 _ rfl; (with_reducible repeat (first | refine blk_drewN ?_ _ | refine blk_drew ?_ | refine blk_alloc ?_ _)); refine blk_put (cs := #[.int .i64 t102, .string (⟨#[]⟩ : ByteArray), .slice none 0 0, .slice none 0 0]) ?_ 1 _ rfl; (with_reducible repeat (first | refine blk_drewN ?_ _ | refine blk_drew ?_ | refine blk_alloc ?_ _)); refine blk_put (cs := #[.int .i64 0, .string (⟨#[]⟩ : ByteArray), .slice none 0 0, .slice none 0 0]) ?_ 0 _ rfl; (with_reducible repeat (first | refine blk_drewN ?_ _ | refine blk_drew ?_ | refine blk_alloc ?_ _)); exact BK111.out) hb); replace HB := mk0 (below_step zq67 hb); clear hb))
   go_ret
   exact ⟨by rfl, by repeat (first | (with_reducible first | exact HB.out | apply below_alloc | apply pw_below_drewN | apply below_drew1 | refine below_set ?_ GE111.out) | exact HB.out)⟩
def laws_FnFjValid.Pure : Prop := ∀ (a0 : ByteArray), a0.size ≤ 140737488351232 → ∃ k, laws_FnFjValid.f k a0 = some true
theorem laws_FnFjValid.walk (P : laws_FnFjValid.Pure) (a0 : ByteArray) (w : World) (hG : Laid w) (w0 : a0.size ≤ 140737488351232) :
 Calls Tryd.prog 9 #[.string a0] w fun e w' => e = .returned (.bool true) ∧ Below w.heap.size w w' := by
 obtain ⟨k, h⟩ := P a0 w0
 refine (laws_FnFjValid.calls k a0 true w hG h).mono ?_
 rintro e w' ⟨rfl, hd⟩
 exact ⟨rfl, hd⟩
end Go.Proofs.YtlokkefnbffjnaaDoor.J
end
section
namespace Go.Proofs.YtlokkefnbffjnaaDoor.J
open Go.RowKit Go.Proofs.YtlokkefnbffjnaaDoorW.PrintWords Go.Proofs.YtlokkefnbffjnaaDoorW.PrintLast
theorem w64 {x : Int} (h : -9223372036854775808 ≤ x ∧ x ≤ 9223372036854775807) : wrap64 x = x := by
 unfold wrap64
 omega
theorem Ev_same {α : Type} {g : Nat → Option α} {r r' : α} (h : Ev g r) (e : r = r') : Ev g r' := e ▸ h
def From (s : ByteArray) (i : Nat) (l : List Int) : Prop := i ≤ s.size ∧ (bytesOf s).drop i = l
theorem From.len {s : ByteArray} {i : Nat} {l : List Int} (h : From s i l) : i + l.length = s.size := by
 have h1 := h.1
 rw [← h.2, List.length_drop, bytesOf_length]
 omega
theorem From.start (s : ByteArray) : From s 0 (bytesOf s) := ⟨Nat.zero_le _, rfl⟩
theorem From.at {s : ByteArray} {i : Nat} (h : i ≤ s.size) : From s i ((bytesOf s).drop i) := ⟨h, rfl⟩
theorem From.drop {s : ByteArray} {i : Nat} {l : List Int} (h : From s i l) (n : Nat) (hn : n ≤ l.length) : From s (i + n) (l.drop n) := by
 have := h.len
 exact ⟨by omega, by rw [← h.2, List.drop_drop]⟩
theorem From.app {s : ByteArray} {i : Nat} {a l : List Int} (h : From s i (a ++ l)) : From s (i + a.length) l := by
 have := h.drop a.length (by simp)
 simpa using this
theorem From.tail {s : ByteArray} {i : Nat} {a : Int} {l : List Int} (h : From s i (a :: l)) : From s (i + 1) l := by
 have := h.drop 1 (by simp)
 simpa using this
theorem From.lt {s : ByteArray} {i : Nat} {a : Int} {l : List Int} (h : From s i (a :: l)) : i < s.size := by
 have := h.len
 simp at this
 omega
theorem From.bt {s : ByteArray} {i : Nat} {a : Int} {l : List Int} (h : From s i (a :: l)) : bt s (i : Int) = a := by
 have h1 : (bytesOf s)[i]? = some a := by
  have := congrArg (·[0]?) h.2
  simpa using this
 rw [← rd_bytesOf]
 unfold rd
 simp [List.getD_eq_getElem?_getD, h1]
theorem From.nil {s : ByteArray} {i : Nat} (h : From s i []) : i = s.size := by
 have := h.len
 simpa using this
theorem bytesOf_range (s : ByteArray) : ∀ a ∈ bytesOf s, 0 ≤ a ∧ a ≤ 255 := by
 intro a ha
 unfold bytesOf at ha
 rw [List.mem_map] at ha
 obtain ⟨b, _, rfl⟩ := ha
 have := b.toNat_lt
 omega
theorem From.range {s : ByteArray} {i : Nat} {l : List Int} (h : From s i l) : ∀ a ∈ l, 0 ≤ a ∧ a ≤ 255 := by
 intro a ha
 rw [← h.2] at ha
 exact bytesOf_range s a (List.mem_of_mem_drop ha)
theorem From.head {s : ByteArray} {i : Nat} {a : Int} {l : List Int} (h : From s i (a :: l)) : 0 ≤ a ∧ a ≤ 255 := h.range a (by simp)
theorem bytesOf_extract (s : ByteArray) (i j : Nat) : bytesOf (s.extract i j) = ((bytesOf s).take j).drop i := by
 unfold bytesOf
 rw [ByteArray.data_extract, Array.toList_extract, List.extract_eq_take_drop, List.map_take, List.map_drop, List.drop_take]
theorem From.extract {s : ByteArray} {i : Nat} {a l : List Int} (h : From s i (a ++ l)) : bytesOf (s.extract i (i + a.length)) = a := by
 rw [bytesOf_extract, List.drop_take, h.2]
 simp
theorem strOfNums_bytesOf (s : ByteArray) : strOfNums (bytesOf s) = s := by
 apply ByteArray.ext
 apply Array.toList_inj.mp
 rw [strOfNums_data]
 unfold bytesOf
 rw [List.map_map]
 conv => rhs; rw [← List.map_id s.data.toList]
 apply List.map_congr_left
 intro b _
 simp [Function.comp]
theorem bytesOf_inj {s t : ByteArray} (h : bytesOf s = bytesOf t) : s = t := by
 rw [← strOfNums_bytesOf s, h, strOfNums_bytesOf]
theorem toList_inj {s t : ByteArray} (h : s.toList = t.toList) : s = t := by
 rw [ByteArray.toList_eq, ByteArray.toList_eq] at h
 exact ByteArray.ext (Array.toList_inj.mp h)
def isB (c : Int) : Bool := decide (c = 32 ∨ c = 9 ∨ c = 10 ∨ c = 13)
def skB : List Int → List Int
  | [] => []
  | c :: r => if isB c = true then skB r else c :: r
theorem skB_len : ∀ l, (skB l).length ≤ l.length
 | [] => Nat.le_refl _
 | c :: r => by
  unfold skB
  split
  ·have := skB_len r
   simp; omega
  ·exact Nat.le_refl _
theorem skB_head : ∀ l c r, skB l = c :: r → isB c = false
 | [], _, _, h => by simp [skB] at h
 | a :: l, c, r, h => by
  unfold skB at h
  split at h
  ·exact skB_head l c r h
  ·rename_i hn
   obtain ⟨rfl, rfl⟩ := h
   simpa using hn
theorem skB_ex : ∀ l, ∃ b, (∀ a ∈ b, isB a = true) ∧ l = b ++ skB l
 | [] => ⟨[], by simp, rfl⟩
 | c :: r => by
  unfold skB
  split
  ·rename_i h
   obtain ⟨b, hb, e⟩ := skB_ex r
   exact ⟨c :: b, by simp [h]; exact hb, by rw [List.cons_append, ← e]⟩
  ·exact ⟨[], by simp, rfl⟩
theorem skB_skB (l : List Int) : skB (skB l) = skB l := by
 match h : skB l with
 | [] => rfl
 | c :: r => rw [skB, if_neg (by simp [skB_head l c r h])]
theorem skB_no {c : Int} {r : List Int} (h : isB c = false) : skB (c :: r) = c :: r := by
 rw [skB, if_neg (by simp [h])]
def hexv (c : Int) : Option Int := if 48 ≤ c ∧ c ≤ 57 then some (c - 48) else if 97 ≤ c ∧ c ≤ 102 then some (c - 87) else if 65 ≤ c ∧ c ≤ 70 then some (c - 55) else none
theorem hexv_range {c v : Int} (h : hexv c = some v) : 0 ≤ v ∧ v ≤ 15 := by
 unfold hexv at h
 split at h
 ·cases h; omega
 split at h
 ·cases h; omega
 split at h
 ·cases h; omega
 ·cases h
def hex4 : List Int → Option Int
  | a :: b :: c :: d :: _ => (hexv a).bind fun x => (hexv b).bind fun y => (hexv c).bind fun z => (hexv d).bind fun u => some (((x * 16 + y) * 16 + z) * 16 + u)
  | _ => none
theorem hex4_len {l : List Int} {v : Int} (h : hex4 l = some v) : 4 ≤ l.length := by
 unfold hex4 at h
 split at h
 ·simp
 ·cases h
theorem hex4_range {l : List Int} {v : Int} (h : hex4 l = some v) : 0 ≤ v ∧ v ≤ 65535 := by
 unfold hex4 at h
 split at h
 ·rename_i a b c d _
  obtain ⟨x, hx, h⟩ := Option.bind_eq_some_iff.mp h
  obtain ⟨y, hy, h⟩ := Option.bind_eq_some_iff.mp h
  obtain ⟨z, hz, h⟩ := Option.bind_eq_some_iff.mp h
  obtain ⟨u, hu, h⟩ := Option.bind_eq_some_iff.mp h
  have := hexv_range hx
  have := hexv_range hy
  have := hexv_range hz
  have := hexv_range hu
  cases h
  omega
 ·cases h
def isE (c : Int) : Bool := decide (c = 34 ∨ c = 92 ∨ c = 47 ∨ c = 98 ∨ c = 102 ∨ c = 110 ∨ c = 114 ∨ c = 116)
def escL : List Int → Option (List Int)
  | [] => none
  | c :: r => if isE c = true then some r else if c = 117 then (hex4 r).bind fun _ => some (r.drop 4) else none
theorem escL_len {l r : List Int} (h : escL l = some r) : r.length < l.length := by
 unfold escL at h
 split at h
 ·cases h
 ·split at h
  ·cases h; simp
  ·split at h
   ·obtain ⟨v, hv, h⟩ := Option.bind_eq_some_iff.mp h
    have := hex4_len hv
    cases h
    simp
    omega
   ·cases h
def strL (l : List Int) : Option (List Int) :=
  match l with
  | [] => none
  | c :: r => if c = 34 then some r else if c < 32 then none else if c = 92 then (match _h : escL r with
    | none => none
    | some r' => strL r') else strL r
termination_by l.length
decreasing_by
  · have := escL_len ‹_›
    simp; omega
  · simp
theorem strL_nil : strL [] = none := by rw [strL]
theorem strL_end (r : List Int) : strL (34 :: r) = some r := by rw [strL, if_pos rfl]
theorem strL_low {c : Int} (r : List Int) (h : c < 32) : strL (c :: r) = none := by
 rw [strL, if_neg (by omega), if_pos h]
theorem strL_esc (r : List Int) : strL (92 :: r) = (escL r).bind strL := by
 rw [strL, if_neg (by omega), if_neg (by omega), if_pos rfl]
 split
 ·rename_i h
  rw [h]; rfl
 ·rename_i r' h
  rw [h]; rfl
theorem strL_raw {c : Int} (r : List Int) (h : c ≠ 34 ∧ ¬ c < 32 ∧ c ≠ 92) : strL (c :: r) = strL r := by
 rw [strL, if_neg h.1, if_neg h.2.1, if_neg h.2.2]
theorem strL_len : ∀ (n : Nat) (l r : List Int), l.length ≤ n → strL l = some r → r.length < l.length
 | _, [], r, _, h => by rw [strL_nil] at h; cases h
 | 0, c :: l, r, hn, h => by simp at hn
 | n + 1, c :: l, r, hn, h => by
  simp only [List.length_cons] at hn ⊢
  by_cases h1 : c = 34
  ·subst h1
   rw [strL_end] at h
   cases h
   omega
  by_cases h2 : c < 32
  ·rw [strL_low _ h2] at h
   cases h
  by_cases h3 : c = 92
  rotate_left
  ·rw [strL_raw _ ⟨h1, h2, h3⟩] at h
   have := strL_len n l r (by omega) h
   omega
  subst h3
  rw [strL_esc] at h
  obtain ⟨r', h4, h5⟩ := Option.bind_eq_some_iff.mp h
  have := escL_len h4
  have := strL_len n r' r (by omega) h5
  omega
def unl (b : Int) : Int := if b = 98 then 8 else if b = 102 then 12 else if b = 110 then 10 else if b = 114 then 13 else if b = 116 then 9 else b
def hiS (n : Int) : Bool := decide (55296 ≤ n ∧ n ≤ 56319)
def loS (n : Int) : Bool := decide (56320 ≤ n ∧ n ≤ 57343)
def utf (c : Int) : List Int :=
  if c < 128 then [c]
  else if c < 2048 then [192 + c / 64, 128 + c % 64]
  else if hiS c = true ∨ loS c = true then [239, 191, 189]
  else if c < 65536 then [224 + c / 4096, 128 + c / 64 % 64, 128 + c % 64]
  else [240 + c / 262144, 128 + c / 4096 % 64, 128 + c / 64 % 64, 128 + c % 64]
def unitL : List Int → Option Int
  | a :: b :: r => if a = 92 ∧ b = 117 then hex4 r else none
  | _ => none
theorem unitL_len {l : List Int} {v : Int} (h : unitL l = some v) : 6 ≤ l.length := by
 unfold unitL at h
 split at h
 ·split at h
  ·have := hex4_len h
   simp
   omega
  ·cases h
 ·cases h
def unqL (l : List Int) : List Int :=
  match l with
  | [] => []
  | c :: r => if c = 92 then (match _h : unitL (c :: r) with
      | some n => if (match unitL (r.drop 5) with | some m => hiS n && loS m | none => false) = true then utf (65536 + (n - 55296) * 1024 + ((unitL (r.drop 5)).getD 0 - 56320)) ++ unqL (r.drop 11) else utf n ++ unqL (r.drop 5)
      | none => (match r with
        | [] => []
        | b :: r' => unl b :: unqL r')) else c :: unqL r
termination_by l.length
decreasing_by all_goals (simp; try omega)

inductive Body : List Int → Prop
  | nil : Body []
  | raw {c : Int} {l : List Int} : c ≠ 34 → ¬ c < 32 → c ≠ 92 → Body l → Body (c :: l)
  | two {b : Int} {l : List Int} : isE b = true → Body l → Body (92 :: b :: l)
  | six {a b c d v : Int} {l : List Int} : hex4 (a :: b :: c :: d :: l) = some v → Body l → Body (92 :: 117 :: a :: b :: c :: d :: l)
theorem hex4_more {a b c d : Int} (l l' : List Int) : hex4 (a :: b :: c :: d :: l) = hex4 (a :: b :: c :: d :: l') := rfl
theorem isE_117 : isE 117 = false := by decide
theorem escL_let {b : Int} (l : List Int) (h : isE b = true) : escL (b :: l) = some l := by
 rw [escL, if_pos h]
theorem escL_hex {a b c d v : Int} {l : List Int} (h : hex4 (a :: b :: c :: d :: l) = some v) : escL (117 :: a :: b :: c :: d :: l) = some l := by
 rw [escL, if_neg (by simp [isE_117]), if_pos rfl, h]
 rfl
theorem strL_body {b : List Int} (h : Body b) (r : List Int) : strL (b ++ 34 :: r) = some r := by
 induction h with
 | nil => exact strL_end r
 | raw h1 h2 h3 _ ih => rw [List.cons_append, strL_raw _ ⟨h1, h2, h3⟩, ih]
 | two h1 _ ih => rw [List.cons_append, List.cons_append, strL_esc, escL_let _ h1]; exact ih
 | six h1 _ ih =>
  simp only [List.cons_append]
  rw [strL_esc, escL_hex (v := by assumption) ((hex4_more _ _).trans h1)]
  exact ih
theorem escL_ex {l r : List Int} (h : escL l = some r) : (∃ b, isE b = true ∧ l = b :: r) ∨ ∃ a b c d v, hex4 (a :: b :: c :: d :: r) = some v ∧ l = 117 :: a :: b :: c :: d :: r := by
 unfold escL at h
 split at h
 ·cases h
 ·rename_i c l
  split at h
  ·cases h
   exact .inl ⟨_, by assumption, rfl⟩
  ·split at h
   ·obtain ⟨v, hv, h⟩ := Option.bind_eq_some_iff.mp h
    cases h
    subst c
    match l, hv with
    | a :: b :: c :: d :: l, hv => exact .inr ⟨a, b, c, d, v, hv, rfl⟩
   ·cases h
theorem body_strL : ∀ (n : Nat) {l r : List Int}, l.length ≤ n → strL l = some r → ∃ b, Body b ∧ l = b ++ 34 :: r
 | _, [], r, _, h => by rw [strL_nil] at h; cases h
 | 0, c :: l, r, hn, h => by simp at hn
 | n + 1, c :: l, r, hn, h => by
  simp only [List.length_cons] at hn
  by_cases h1 : c = 34
  ·subst h1
   rw [strL_end] at h
   cases h
   exact ⟨[], .nil, rfl⟩
  by_cases h2 : c < 32
  ·rw [strL_low _ h2] at h
   cases h
  by_cases h3 : c = 92
  rotate_left
  ·rw [strL_raw _ ⟨h1, h2, h3⟩] at h
   obtain ⟨t, ht, e⟩ := body_strL n (by omega) h
   exact ⟨c :: t, .raw h1 h2 h3 ht, by rw [e]; rfl⟩
  subst h3
  rw [strL_esc] at h
  obtain ⟨r', h4, h5⟩ := Option.bind_eq_some_iff.mp h
  have := escL_len h4
  obtain ⟨t, ht, e⟩ := body_strL n (by omega) h5
  rcases escL_ex h4 with ⟨b, hb, rfl⟩ | ⟨a, b, c, d, v, hv, rfl⟩
  ·exact ⟨92 :: b :: t, .two hb ht, by rw [e]; rfl⟩
  ·subst e
   exact ⟨92 :: 117 :: a :: b :: c :: d :: t, .six ((hex4_more _ _).trans hv) ht, rfl⟩
theorem strL_iff {l r : List Int} : strL l = some r ↔ ∃ b, Body b ∧ l = b ++ 34 :: r :=
 ⟨fun h => body_strL _ (Nat.le_refl _) h, fun ⟨_, hb, e⟩ => e ▸ strL_body hb r⟩
theorem unqL_nil : unqL [] = [] := by rw [unqL]
theorem unqL_raw {c : Int} (l : List Int) (h : c ≠ 92) : unqL (c :: l) = c :: unqL l := by
 rw [unqL, if_neg h]
theorem unitL_six {a b c d v : Int} {l : List Int} (h : hex4 (a :: b :: c :: d :: l) = some v) : unitL (92 :: 117 :: a :: b :: c :: d :: l) = some v := by
 show (if (92 : Int) = 92 ∧ (117 : Int) = 117 then hex4 (a :: b :: c :: d :: l) else none) = some v
 rw [if_pos ⟨rfl, rfl⟩, h]
theorem unitL_two {b : Int} {l : List Int} (h : b ≠ 117) : unitL (92 :: b :: l) = none := by
 show (if (92 : Int) = 92 ∧ b = 117 then hex4 l else none) = none
 rw [if_neg (by omega)]
theorem isE_ne {b : Int} (h : isE b = true) : b ≠ 117 := fun e => by rw [e, isE_117] at h; cases h
theorem unqL_two {b : Int} (l : List Int) (h : b ≠ 117) : unqL (92 :: b :: l) = unl b :: unqL l := by
 rw [unqL, if_pos rfl]
 split
 ·rename_i n hn
  rw [unitL_two h] at hn
  cases hn
 ·rfl
def pairL (n : Int) (l : List Int) : Option Int := (unitL l).bind fun m => if (hiS n && loS m) = true then some m else none
theorem unqL_six {a b c d v : Int} {l : List Int} (h : hex4 (a :: b :: c :: d :: l) = some v) : unqL (92 :: 117 :: a :: b :: c :: d :: l) =
 match pairL v l with
 | some m => utf (65536 + (v - 55296) * 1024 + (m - 56320)) ++ unqL (l.drop 6)
 | none => utf v ++ unqL l := by
 rw [unqL, if_pos rfl]
 split
 ·rename_i n hn
  rw [unitL_six h] at hn
  cases hn
  simp only [List.drop_succ_cons, List.drop_zero, pairL]
  cases hu : unitL l with
  | none => simp
  | some m =>
   simp only [Option.bind_some, Option.getD_some]
   by_cases e : (hiS v && loS m) = true
   rotate_left
   ·rw [if_neg e, if_neg e]
   rw [if_pos e, if_pos e]
 ·rename_i hn
  rw [unitL_six h] at hn
  cases hn
theorem body_drop6 {m : Int} {l : List Int} (hb : Body l) (h : unitL l = some m) : Body (l.drop 6) := by
 cases hb with
 | nil => simp [unitL] at h
 | raw h1 h2 h3 hb =>
  unfold unitL at h
  split at h
  ·rename_i e
   injection e with e1 e2
   rw [if_neg (by omega)] at h
   cases h
  ·cases h
 | two h1 hb => rw [unitL_two (isE_ne h1)] at h; cases h
 | six h1 hb => exact hb
theorem utf_len (c : Int) : 1 ≤ (utf c).length ∧ (utf c).length ≤ 4 := by
 unfold utf
 repeat' split
 all_goals simp
end Go.Proofs.YtlokkefnbffjnaaDoor.J
end
section
namespace Go.Proofs.YtlokkefnbffjnaaDoor.J
def isD (c : Int) : Bool := decide (48 ≤ c ∧ c ≤ 57)
def skD : List Int → List Int
  | [] => []
  | c :: r => if isD c = true then skD r else c :: r
theorem skD_len : ∀ l, (skD l).length ≤ l.length
 | [] => Nat.le_refl _
 | c :: r => by
  unfold skD
  split
  ·have := skD_len r
   simp; omega
  ·exact Nat.le_refl _
def digL : List Int → Option (List Int)
  | [] => none
  | c :: r => if isD c = true then some (skD r) else none
def expL : List Int → Option (List Int)
  | [] => some []
  | c :: r => if c = 101 ∨ c = 69 then (match r with
    | [] => none
    | d :: t => if d = 43 ∨ d = 45 then digL t else digL (d :: t)) else some (c :: r)
def fracL : List Int → Option (List Int)
  | [] => some []
  | c :: r => if c = 46 then (digL r).bind expL else expL (c :: r)
def intL : List Int → Option (List Int)
  | [] => none
  | c :: r => if c = 48 then fracL r else if isD c = true then fracL (skD r) else none
def numL : List Int → Option (List Int)
  | [] => none
  | c :: r => if c = 45 then intL r else intL (c :: r)
theorem digL_len {l r : List Int} (h : digL l = some r) : r.length < l.length := by
 unfold digL at h
 split at h
 ·cases h
 ·split at h
  ·cases h
   have := skD_len (by assumption)
   simp; omega
  ·cases h
theorem expL_len {l r : List Int} (h : expL l = some r) : r.length ≤ l.length := by
 unfold expL at h
 split at h
 ·cases h; exact Nat.le_refl _
 ·split at h
  ·split at h
   ·cases h
   ·split at h
    ·have := digL_len h
     simp; omega
    ·have := digL_len h
     simp at this ⊢; omega
  ·cases h; exact Nat.le_refl _
theorem fracL_len {l r : List Int} (h : fracL l = some r) : r.length ≤ l.length := by
 unfold fracL at h
 split at h
 ·cases h; exact Nat.le_refl _
 ·split at h
  ·obtain ⟨t, h1, h2⟩ := Option.bind_eq_some_iff.mp h
   have := digL_len h1
   have := expL_len h2
   simp; omega
  ·exact expL_len h
theorem intL_len {l r : List Int} (h : intL l = some r) : r.length < l.length := by
 unfold intL at h
 split at h
 ·cases h
 ·rename_i c t
  split at h
  ·have := fracL_len h
   simp; omega
  ·split at h
   ·have := fracL_len h
    have := skD_len t
    simp; omega
   ·cases h
theorem numL_len {l r : List Int} (h : numL l = some r) : r.length < l.length := by
 unfold numL at h
 split at h
 ·cases h
 ·split at h
  ·have := intL_len h
   simp; omega
  ·exact intL_len h
def wordL (w l : List Int) : Option (List Int) := if l.take w.length = w then some (l.drop w.length) else none
theorem wordL_len {w l r : List Int} (hw : w ≠ []) (h : wordL w l = some r) : r.length < l.length := by
 unfold wordL at h
 split at h
 ·rename_i e
  cases h
  have h1 : 0 < w.length := List.length_pos_iff.mpr hw
  have h2 := congrArg List.length e
  simp at h2 ⊢
  omega
 ·cases h
def nullW : List Int := [110, 117, 108, 108]
def falseW : List Int := [102, 97, 108, 115, 101]
def trueW : List Int := [116, 114, 117, 101]

mutual
def valL (l : List Int) : Option (List Int) :=
  match l with
  | [] => none
  | c :: r => if c = 123 then objL r else if c = 91 then arrL r else if c = 34 then strL r else if c = 45 ∨ isD c = true then numL (c :: r)
    else if c = 110 then wordL nullW (c :: r) else if c = 102 then wordL falseW (c :: r) else if c = 116 then wordL trueW (c :: r) else none
termination_by 3 * l.length
decreasing_by all_goals (simp; omega)
def arrL (l : List Int) : Option (List Int) :=
  match _h : skB l with
  | [] => none
  | c :: r => if c = 93 then some r else elsL (c :: r)
termination_by 3 * l.length + 2
decreasing_by
  have := skB_len l
  rw [_h] at this
  simp at this ⊢
  omega
def elsL (l : List Int) : Option (List Int) :=
  match valL l with
  | none => none
  | some t => if t.length < l.length then (match _h : skB t with
    | [] => none
    | c :: u => if c = 93 then some u else if c = 44 then elsL (skB u) else none) else none
termination_by 3 * l.length + 1
decreasing_by
  · omega
  · have h1 := skB_len t
    rw [_h] at h1
    have h2 := skB_len u
    simp at h1
    omega
def objL (l : List Int) : Option (List Int) :=
  match _h : skB l with
  | [] => none
  | c :: r => if c = 125 then some r else memL (c :: r)
termination_by 3 * l.length + 2
decreasing_by
  have := skB_len l
  rw [_h] at this
  simp at this ⊢
  omega
def memL (l : List Int) : Option (List Int) :=
  match l with
  | [] => none
  | c :: r => if c = 34 then (match _h1 : strL r with
    | none => none
    | some t => (match _h2 : skB t with
      | [] => none
      | d :: u => if d = 58 then (match valL (skB u) with
        | none => none
        | some v => if v.length ≤ r.length then (match _h3 : skB v with
          | [] => none
          | e :: x => if e = 125 then some x else if e = 44 then memL (skB x) else none) else none) else none)) else none
termination_by 3 * l.length + 1
decreasing_by
  · have h0 := strL_len _ _ _ (Nat.le_refl _) _h1
    have h1 := skB_len t
    rw [_h2] at h1
    have h2 := skB_len u
    simp at h1 ⊢
    omega
  · have h1 := skB_len v
    rw [_h3] at h1
    have h2 := skB_len x
    simp only [List.length_cons] at *
    omega
end
theorem arrL_of {l r : List Int} (h : arrL l = some r) : r.length < l.length ∨ ∃ b, b.length ≤ l.length ∧ elsL b = some r := by
 rw [arrL] at h
 have := skB_len l
 split at h
 ·cases h
 ·rename_i c t e
  rw [e] at this
  split at h
  ·cases h
   simp at this
   omega
  ·exact .inr ⟨_, this, h⟩
theorem objL_of {l r : List Int} (h : objL l = some r) : r.length < l.length ∨ ∃ b, b.length ≤ l.length ∧ memL b = some r := by
 rw [objL] at h
 have := skB_len l
 split at h
 ·cases h
 ·rename_i c t e
  rw [e] at this
  split at h
  ·cases h
   simp at this
   omega
  ·exact .inr ⟨_, this, h⟩
theorem all_len : ∀ n : Nat, (∀ l r : List Int, l.length ≤ n → valL l = some r → r.length < l.length) ∧ (∀ l r : List Int, l.length ≤ n → elsL l = some r → r.length < l.length) ∧ (∀ l r : List Int, l.length ≤ n → memL l = some r → r.length < l.length) := by
 intro n
 induction n with
 | zero =>
  refine ⟨fun l r hl h => ?_, fun l r hl h => ?_, fun l r hl h => ?_⟩
  ·obtain rfl := List.length_eq_zero_iff.mp (Nat.le_zero.mp hl)
   rw [valL] at h
   cases h
  ·obtain rfl := List.length_eq_zero_iff.mp (Nat.le_zero.mp hl)
   rw [elsL, valL] at h
   cases h
  ·obtain rfl := List.length_eq_zero_iff.mp (Nat.le_zero.mp hl)
   rw [memL] at h
   cases h
 | succ n ih =>
  obtain ⟨ih1, ih2, ih3⟩ := ih
  have hv : ∀ l r : List Int, l.length ≤ n + 1 → valL l = some r → r.length < l.length := by
   intro l r hl h
   rw [valL.eq_def] at h
   split at h
   ·cases h
   ·rename_i c t
    simp only [List.length_cons] at hl ⊢
    split at h
    ·rcases objL_of h with h1 | ⟨b, h1, h2⟩
     ·omega
     ·have := ih3 b r (by omega) h2
      omega
    split at h
    ·rcases arrL_of h with h1 | ⟨b, h1, h2⟩
     ·omega
     ·have := ih2 b r (by omega) h2
      omega
    split at h
    ·have := strL_len _ _ _ (Nat.le_refl _) h
     omega
    split at h
    ·exact numL_len h
    split at h
    ·exact wordL_len zq49 h
    split at h
    ·exact wordL_len zq49 h
    split at h
    ·exact wordL_len zq49 h
    ·cases h
  refine ⟨hv, fun l r hl h => ?_, fun l r hl h => ?_⟩
  ·rw [elsL] at h
   split at h
   ·cases h
   ·rename_i t e1
    split at h
    ·rename_i e2
     have h1 := skB_len t
     split at h
     ·cases h
     ·rename_i c u e3
      rw [e3] at h1
      simp only [List.length_cons] at h1
      split at h
      ·cases h
       omega
      split at h
      ·have h2 := skB_len u
       have := ih2 (skB u) r (by omega) h
       omega
      ·cases h
    ·cases h
  ·rw [memL.eq_def] at h
   split at h
   ·cases h
   ·rename_i c r0
    simp only [List.length_cons] at hl h ⊢
    split at h
    ·split at h
     ·cases h
     ·rename_i t e1
      have k1 := strL_len _ _ _ (Nat.le_refl _) e1
      split at h
      ·cases h
      ·rename_i d u e2
       have k2 := skB_len t
       rw [e2] at k2
       simp only [List.length_cons] at k2
       split at h
       ·split at h
        ·cases h
        ·rename_i v e3
         split at h
         ·rename_i e4
          have k3 := skB_len v
          split at h
          ·cases h
          ·rename_i e x e5
           rw [e5] at k3
           simp only [List.length_cons] at k3
           split at h
           ·cases h
            omega
           split at h
           ·have k4 := skB_len x
            have := ih3 (skB x) r (by omega) h
            omega
           ·cases h
         ·cases h
       ·cases h
    ·cases h
theorem valL_len {l r : List Int} (h : valL l = some r) : r.length < l.length := (all_len l.length).1 l r (Nat.le_refl _) h
theorem memL_bad {l : List Int} (e : strL l = none) : memL (34 :: l) = none := by
 rw [memL.eq_def]
 simp only [if_true]
 split
 ·rfl
 ·rename_i h1
  rw [h1] at e
  cases e
theorem memL_not {c : Int} {l : List Int} (e : c ≠ 34) : memL (c :: l) = none := by
 rw [memL.eq_def]
 simp only [if_neg e]
end Go.Proofs.YtlokkefnbffjnaaDoor.J
end
section
namespace Go.Proofs.YtlokkefnbffjnaaDoor.J
open Go.RowKit Go.Proofs.YtlokkefnbffjnaaDoor.J Go.Proofs.YtlokkefnbffjnaaDoorW.PrintWords Go.Proofs.YtlokkefnbffjnaaDoorW.PrintLast
set_option linter.unusedVariables false

theorem Ev_sh {α : Type} {g : Nat → Option α} {r : α} (h : Ev (fun k => g (k + 1)) r) : Ev g r := Ev.step (fun _ => rfl) h
theorem sz_of {s : ByteArray} {l : List Int} (h : bytesOf s = l) : s.size = l.length := by rw [← h, bytesOf_length]
theorem bt_of {s : ByteArray} {c : Int} {l : List Int} (h : bytesOf s = c :: l) : bt s 0 = c := by
 have h0 := From.start s
 rw [h] at h0
 exact h0.bt
theorem cut_of {s : ByteArray} {l : List Int} (h : bytesOf s = l) (n m : Nat) (hm : s.size ≤ m) : bytesOf (s.extract n m) = l.drop n := by
 rw [bytesOf_extract, h, List.take_of_length_le (by rw [← sz_of h]; exact hm)]
theorem cut1 {s : ByteArray} {c : Int} {l : List Int} (h : bytesOf s = c :: l) : bytesOf (s.extract 1 s.size) = l := by
 rw [cut_of h 1 _ (Nat.le_refl _)]
 rfl
theorem From.cut {s : ByteArray} {i : Nat} {l : List Int} (h : From s i l) : bytesOf (s.extract i s.size) = l := by
 rw [cut_of rfl i _ (Nat.le_refl _)]
 exact h.2
def Tl (g : Nat → Option (ByteArray × Option Int)) (o : Option (List Int)) : Prop :=
  match o with
  | some r => ∃ z, bytesOf z = r ∧ Ev g (z, none)
  | none => ∃ z q, Ev g (z, some q)
theorem Tl.sh {g : Nat → Option (ByteArray × Option Int)} {o : Option (List Int)} (h : Tl (fun k => g (k + 1)) o) : Tl g o := by
 cases o with
 | none => obtain ⟨z, q, hz⟩ := h; exact ⟨z, q, Ev_sh hz⟩
 | some r => obtain ⟨z, q, hz⟩ := h; exact ⟨z, q, Ev_sh hz⟩
theorem Tl.congr {g f : Nat → Option (ByteArray × Option Int)} {o : Option (List Int)} (e : ∀ k, g k = f k) (h : Tl f o) : Tl g o := by
 have : g = f := funext e
 rw [this]
 exact h
theorem Tl.err {g : Nat → Option (ByteArray × Option Int)} {z : ByteArray} {q : Int} (e : ∀ k, g k = some (z, some q)) : Tl g none := ⟨z, q, Ev.congr e (Ev.now _)⟩
theorem Tl.ok {g : Nat → Option (ByteArray × Option Int)} {z : ByteArray} {r : List Int} (hz : bytesOf z = r) (e : ∀ k, g k = some (z, none)) : Tl g (some r) := ⟨z, hz, Ev.congr e (Ev.now _)⟩
variable {s : ByteArray} (hs : s.size ≤ 2147483647)
include hs
theorem slow_eq : ∀ (l : List Int) (i : Nat), From s i l → ∃ t, Ev (fun k => fastjson_skipWSSlow.l0 k s i) t ∧ bytesOf t = skB l := by
 intro l
 induction l with
 | nil =>
  intro i h
  refine ⟨⟨#[]⟩, Ev_sh ?_, rfl⟩
  simp only [fastjson_skipWSSlow.l0]
  exact Ev.congr (fun _ => if_neg (by have := h.nil; omega)) (Ev.now _)
 | cons c r ih =>
  intro i h
  have hb := h.bt
  have hlt := h.lt
  by_cases hc : isB c = true
  ·obtain ⟨t, h1, h2⟩ := ih (i + 1) h.tail
   refine ⟨t, Ev_sh ?_, by rw [skB, if_pos hc]; exact h2⟩
   simp only [fastjson_skipWSSlow.l0, hb]
   refine Ev.congr (fun _ => if_pos (by omega)) (Ev.congr (fun _ => if_pos (by omega)) ?_)
   rw [w64 (by omega)]
   simp only [isB, decide_eq_true_eq] at hc
   refine Ev.congr (fun k => ?_) h1
   rcases hc with e | e | e | e <;> subst e <;> rfl
  refine ⟨s.extract i s.size, Ev_sh ?_, by rw [skB, if_neg hc]; exact h.cut⟩
  simp only [fastjson_skipWSSlow.l0, hb]
  refine Ev.congr (fun _ => if_pos (by omega)) (Ev.congr (fun _ => if_pos (by omega)) ?_)
  simp only [isB, decide_eq_true_eq, not_or] at hc
  refine Ev.congr (fun _ => if_neg hc.1) (Ev.congr (fun _ => if_neg hc.2.2.1) (Ev.congr (fun _ => if_neg hc.2.1) (Ev.congr (fun _ => if_neg hc.2.2.2) (Ev.congr (fun _ => if_pos (by omega)) ?_))))
  rw [Int.toNat_natCast]
  exact Ev.now _
theorem ws_eq : ∃ t, Ev (fun k => fastjson_skipWS.f k s) t ∧ bytesOf t = skB (bytesOf s) := by
 unfold fastjson_skipWS.f
 match hl : bytesOf s with
 | [] =>
  have hz := sz_of hl
  simp only [List.length_nil] at hz
  exact ⟨s, Ev.congr (fun _ => if_pos (by omega)) (Ev.now _), hl⟩
 | c :: r =>
  have hz := sz_of hl
  simp only [List.length_cons] at hz
  have hb := bt_of hl
  by_cases h32 : c > 32
  ·have hc : ¬ isB c = true := by simp only [isB, decide_eq_true_eq]; omega
   refine ⟨s, ?_, by rw [skB, if_neg hc]; exact hl⟩
   rw [hb]
   exact Ev.congr (fun _ => if_neg (by omega)) (Ev.congr (fun _ => if_pos (by omega)) (Ev.congr (fun _ => if_pos h32) (Ev.now _)))
  have go : ∃ t, Ev (fun k => fastjson_skipWSSlow.f k s) t ∧ bytesOf t = skB (c :: r) := by
   have h0 := From.start s
   rw [hl] at h0
   by_cases hc : isB c = true
   rotate_left
   ·refine ⟨s, ?_, by rw [skB, if_neg hc]; exact hl⟩
    unfold fastjson_skipWSSlow.f
    rw [hb]
    refine Ev.congr (fun _ => if_neg (by omega)) (Ev.congr (fun _ => if_pos (by omega)) ?_)
    simp only [isB, decide_eq_true_eq, not_or] at hc
    refine Ev.congr (fun _ => if_neg hc.1) (Ev.congr (fun _ => if_neg hc.2.2.1) (Ev.congr (fun _ => if_neg hc.2.1) ?_))
    rw [show (c != 13) = true by simpa using hc.2.2.2]
    refine Ev_sh ?_
    simp only [fastjson_skipWSSlow.j0]
    exact Ev.congr (fun _ => if_pos trivial) (Ev.now _)
   obtain ⟨t, h1, h2⟩ := slow_eq hs r 1 h0.tail
   refine ⟨t, ?_, by rw [skB, if_pos hc]; exact h2⟩
   unfold fastjson_skipWSSlow.f
   rw [hb]
   refine Ev.congr (fun _ => if_neg (by omega)) (Ev.congr (fun _ => if_pos (by omega)) ?_)
   have hj : Ev (fun k => fastjson_skipWSSlow.j0 k s false) t := by
    refine Ev_sh ?_
    simp only [fastjson_skipWSSlow.j0]
    exact Ev.congr (fun _ => if_neg zq49) h1
   simp only [isB, decide_eq_true_eq] at hc
   refine Ev.congr (fun k => ?_) hj
   rcases hc with e | e | e | e <;> subst e <;> rfl
  obtain ⟨t, h1, h2⟩ := go
  refine ⟨t, ?_, h2⟩
  rw [hb]
  exact Ev.congr (fun _ => if_neg (by omega)) (Ev.congr (fun _ => if_pos (by omega)) (Ev.congr (fun _ => if_neg h32) (Ev.bind h1 (Ev.now _))))
theorem l2_eq : ∀ (l : List Int) (i : Nat), From s i l → ∃ j : Nat, From s j (skD l) ∧ ∀ R, Tl (fun k => fastjson_validateNumber.j11 k s j) R → Tl (fun k => fastjson_validateNumber.l2 k s i) R := by
 intro l
 induction l with
 | nil =>
  intro i h
  refine ⟨i, h, fun R hR => Tl.sh ?_⟩
  simp only [fastjson_validateNumber.l2]
  exact Tl.congr (fun _ => if_neg (by have := h.nil; omega)) hR
 | cons c r ih =>
  intro i h
  have hb := h.bt
  have hlt := h.lt
  by_cases hc : isD c = true
  ·obtain ⟨j, h1, h2⟩ := ih (i + 1) h.tail
   refine ⟨j, by rw [skD, if_pos hc]; exact h1, fun R hR => Tl.sh ?_⟩
   simp only [fastjson_validateNumber.l2, hb]
   simp only [isD, decide_eq_true_eq] at hc
   rw [w64 (by omega)]
   exact Tl.congr (fun _ => if_pos (by omega)) (Tl.congr (fun _ => if_pos (by omega)) (Tl.congr (fun _ => if_neg (by omega)) (Tl.congr (fun _ => if_neg (by omega)) (h2 R hR))))
  refine ⟨i, by rw [skD, if_neg hc]; exact h, fun R hR => Tl.sh ?_⟩
  simp only [fastjson_validateNumber.l2, hb]
  simp only [isD, decide_eq_true_eq] at hc
  refine Tl.congr (fun _ => if_pos (by omega)) (Tl.congr (fun _ => if_pos (by omega)) ?_)
  by_cases h48 : c < 48
  ·exact Tl.congr (fun _ => if_pos h48) hR
  exact Tl.congr (fun _ => if_neg h48) (Tl.congr (fun _ => if_pos (by omega)) hR)
theorem l1_eq : ∀ (l : List Int) (i : Nat), From s i l → ∃ j : Nat, From s j (skD l) ∧ ∀ R, Tl (fun k => fastjson_validateNumber.j5 k s j) R → Tl (fun k => fastjson_validateNumber.l1 k s i) R := by
 intro l
 induction l with
 | nil =>
  intro i h
  refine ⟨i, h, fun R hR => Tl.sh ?_⟩
  simp only [fastjson_validateNumber.l1]
  exact Tl.congr (fun _ => if_neg (by have := h.nil; omega)) hR
 | cons c r ih =>
  intro i h
  have hb := h.bt
  have hlt := h.lt
  by_cases hc : isD c = true
  ·obtain ⟨j, h1, h2⟩ := ih (i + 1) h.tail
   refine ⟨j, by rw [skD, if_pos hc]; exact h1, fun R hR => Tl.sh ?_⟩
   simp only [fastjson_validateNumber.l1, hb]
   simp only [isD, decide_eq_true_eq] at hc
   rw [w64 (by omega)]
   exact Tl.congr (fun _ => if_pos (by omega)) (Tl.congr (fun _ => if_pos (by omega)) (Tl.congr (fun _ => if_neg (by omega)) (Tl.congr (fun _ => if_neg (by omega)) (h2 R hR))))
  refine ⟨i, by rw [skD, if_neg hc]; exact h, fun R hR => Tl.sh ?_⟩
  simp only [fastjson_validateNumber.l1, hb]
  simp only [isD, decide_eq_true_eq] at hc
  refine Tl.congr (fun _ => if_pos (by omega)) (Tl.congr (fun _ => if_pos (by omega)) ?_)
  by_cases h48 : c < 48
  ·exact Tl.congr (fun _ => if_pos h48) hR
  exact Tl.congr (fun _ => if_neg h48) (Tl.congr (fun _ => if_pos (by omega)) hR)
theorem l0_eq : ∀ (l : List Int) (i : Nat), From s i l → ∃ j : Nat, From s j (skD l) ∧ ∀ R, Tl (fun k => fastjson_validateNumber.j2 k s j) R → Tl (fun k => fastjson_validateNumber.l0 k s i) R := by
 intro l
 induction l with
 | nil =>
  intro i h
  refine ⟨i, h, fun R hR => Tl.sh ?_⟩
  simp only [fastjson_validateNumber.l0]
  exact Tl.congr (fun _ => if_neg (by have := h.nil; omega)) hR
 | cons c r ih =>
  intro i h
  have hb := h.bt
  have hlt := h.lt
  by_cases hc : isD c = true
  ·obtain ⟨j, h1, h2⟩ := ih (i + 1) h.tail
   refine ⟨j, by rw [skD, if_pos hc]; exact h1, fun R hR => Tl.sh ?_⟩
   simp only [fastjson_validateNumber.l0, hb]
   simp only [isD, decide_eq_true_eq] at hc
   rw [w64 (by omega)]
   exact Tl.congr (fun _ => if_pos (by omega)) (Tl.congr (fun _ => if_pos (by omega)) (Tl.congr (fun _ => if_neg (by omega)) (Tl.congr (fun _ => if_neg (by omega)) (h2 R hR))))
  refine ⟨i, by rw [skD, if_neg hc]; exact h, fun R hR => Tl.sh ?_⟩
  simp only [fastjson_validateNumber.l0, hb]
  simp only [isD, decide_eq_true_eq] at hc
  refine Tl.congr (fun _ => if_pos (by omega)) (Tl.congr (fun _ => if_pos (by omega)) ?_)
  by_cases h48 : c < 48
  ·exact Tl.congr (fun _ => if_pos h48) hR
  exact Tl.congr (fun _ => if_neg h48) (Tl.congr (fun _ => if_pos (by omega)) hR)
omit hs in
theorem skD_lt {l : List Int} {j n : Nat} (hn : l.length = n) (h : j + (skD l).length = n) : (j = 0 ↔ ∀ c r, l = c :: r → isD c = false) := by
 constructor
 ·intro e c r hl
  subst hl
  by_cases hc : isD c = true
  rotate_left
  ·simpa using hc
  rw [skD, if_pos hc] at h
  have := skD_len r
  simp only [List.length_cons] at hn
  omega
 ·intro e
  match l with
  | [] =>
   simp only [List.length_nil] at hn
   omega
  | c :: r =>
   have hc := e c r rfl
   rw [skD, if_neg (by rw [hc]; decide)] at h
   omega
theorem j9_eq {l : List Int} (hl : bytesOf s = l) : Tl (fun k => fastjson_validateNumber.j9 k s) (digL l) := by
 have h0 := From.start s
 rw [hl] at h0
 obtain ⟨j, h1, h2⟩ := l2_eq hs l 0 h0
 have hz := sz_of hl
 have hlen := h1.len
 have hj := skD_lt hz.symm hlen
 refine Tl.sh ?_
 simp only [fastjson_validateNumber.j9]
 refine h2 _ (Tl.sh ?_)
 simp only [fastjson_validateNumber.j11, errors_New.f, Option.bind_some]
 by_cases e : j = 0
 ·have hd : digL l = none := by
   have := hj.mp e
   match l with
   | [] => rfl
   | c :: r => rw [digL, if_neg (by rw [this c r rfl]; decide)]
  rw [hd]
  exact Tl.congr (fun _ => if_pos (by omega)) (Tl.err (fun _ => rfl))
 have hd : digL l = some (skD l) := by
  match l with
  | [] =>
   simp only [List.length_nil] at hz
   have := h1.1
   omega
  | c :: r =>
   by_cases hc : isD c = true
   ·rw [digL, if_pos hc, skD, if_pos hc]
   exact absurd (hj.mpr (fun c' r' e' => by cases e'; simpa using hc)) e
 rw [hd]
 refine Tl.congr (fun _ => if_neg (by omega)) ?_
 by_cases hg : (j : Int) ≥ (s.size : Int)
 ·refine Tl.congr (fun _ => if_pos hg) (Tl.ok (z := ⟨#[]⟩) ?_ (fun _ => rfl))
  have : skD l = [] := List.length_eq_zero_iff.mp (by omega)
  rw [this]
  rfl
 refine Tl.congr (fun _ => if_neg hg) (Tl.congr (fun _ => if_pos (by omega)) (Tl.congr (fun _ => if_pos (by omega)) ?_))
 rw [Int.toNat_natCast]
 exact Tl.ok h1.cut (fun _ => rfl)
theorem j8_true {d : Int} {t : List Int} (hl : bytesOf s = d :: t) : Tl (fun k => fastjson_validateNumber.j8 k s true) (digL t) := by
 have hz := sz_of hl
 simp only [List.length_cons] at hz
 have hc := cut1 hl
 have hz2 := sz_of hc
 refine Tl.sh ?_
 simp only [fastjson_validateNumber.j8, errors_New.f, Option.bind_some]
 refine Tl.congr (fun _ => if_pos trivial) (Tl.congr (fun _ => if_pos (by omega)) ?_)
 by_cases e : t.length = 0
 rotate_left
 ·exact Tl.congr (fun _ => if_neg (by omega)) (j9_eq (by omega) hc)
 obtain rfl := List.length_eq_zero_iff.mp e
 exact Tl.congr (fun _ => if_pos (by omega)) (Tl.err (fun _ => rfl))
theorem j8_false {l : List Int} (hl : bytesOf s = l) : Tl (fun k => fastjson_validateNumber.j8 k s false) (digL l) := by
 refine Tl.sh ?_
 simp only [fastjson_validateNumber.j8]
 exact Tl.congr (fun _ => if_neg zq49) (j9_eq hs hl)
theorem j6_eq {c : Int} {r : List Int} {i : Nat} (h : From s i (c :: r)) : Tl (fun k => fastjson_validateNumber.j6 k s i) (expL (c :: r)) := by
 have hb := h.bt
 have hlt := h.lt
 have hlen := h.len
 simp only [List.length_cons] at hlen
 have hE : c = 101 ∨ c = 69 → Tl (fun k => fastjson_validateNumber.j7 k s i true) (expL (c :: r)) := fun e => by
  have hcut := h.tail.cut
  have hz := sz_of hcut
  refine Tl.sh ?_
  simp only [fastjson_validateNumber.j7, errors_New.f, Option.bind_some]
  rw [w64 (by omega), show ((i : Int) + 1).toNat = i + 1 by omega]
  refine Tl.congr (fun _ => if_pos trivial) (Tl.congr (fun _ => if_pos (by omega)) (Tl.congr (fun _ => if_pos (by omega)) ?_))
  match r, hcut, hz with
  | [], hcut, hz =>
   have : expL [c] = none := by
    unfold expL
    exact if_pos e
   rw [this]
   simp only [List.length_nil] at hz
   exact Tl.congr (fun _ => if_pos (by omega)) (Tl.err (fun _ => rfl))
  | d :: t, hcut, hz =>
   simp only [List.length_cons] at hz hlen
   have hd := bt_of hcut
   have hx : expL (c :: d :: t) = if d = 43 ∨ d = 45 then digL t else digL (d :: t) := by
    simp only [expL, if_pos e]
   rw [hx, hd]
   refine Tl.congr (fun _ => if_neg (by omega)) (Tl.congr (fun _ => if_pos (by omega)) ?_)
   by_cases h45 : d = 45
   ·rw [if_pos (Or.inr h45)]
    exact Tl.congr (fun _ => if_pos h45) (j8_true (by omega) hcut)
   refine Tl.congr (fun _ => if_neg h45) ?_
   by_cases h43 : d = 43
   rotate_left
   ·rw [if_neg (by omega), show (d == 43) = false by simpa using h43]
    exact j8_false (by omega) hcut
   rw [if_pos (Or.inl h43), show (d == 43) = true by simpa using h43]
   exact j8_true (by omega) hcut
 refine Tl.sh ?_
 simp only [fastjson_validateNumber.j6, hb]
 refine Tl.congr (fun _ => if_pos (by omega)) (Tl.congr (fun _ => if_pos (by omega)) ?_)
 by_cases h1 : c = 101
 ·exact Tl.congr (fun _ => if_pos h1) (hE (Or.inl h1))
 refine Tl.congr (fun _ => if_neg h1) ?_
 by_cases h2 : c = 69
 ·rw [show (c == 69) = true by simpa using h2]
  exact hE (Or.inr h2)
 rw [show (c == 69) = false by simpa using h2]
 have hx : expL (c :: r) = some (c :: r) := by
  unfold expL
  exact if_neg (by omega)
 rw [hx]
 refine Tl.sh ?_
 simp only [fastjson_validateNumber.j7]
 refine Tl.congr (fun _ => if_neg zq49) (Tl.congr (fun _ => if_pos (by omega)) (Tl.congr (fun _ => if_pos (by omega)) ?_))
 rw [Int.toNat_natCast]
 exact Tl.ok h.cut (fun _ => rfl)
theorem l1_frac {l : List Int} (hl : bytesOf s = l) : Tl (fun k => fastjson_validateNumber.l1 k s 0) ((digL l).bind expL) := by
 have h0 := From.start s
 rw [hl] at h0
 obtain ⟨j, h1, h2⟩ := l1_eq hs l 0 h0
 have hz := sz_of hl
 have hlen := h1.len
 have hj := skD_lt hz.symm hlen
 refine h2 _ (Tl.sh ?_)
 simp only [fastjson_validateNumber.j5, errors_New.f, Option.bind_some]
 by_cases e : j = 0
 ·have hd : digL l = none := by
   have := hj.mp e
   match l with
   | [] => rfl
   | c :: r => rw [digL, if_neg (by rw [this c r rfl]; decide)]
  rw [hd]
  exact Tl.congr (fun _ => if_pos (by omega)) (Tl.err (fun _ => rfl))
 have hd : digL l = some (skD l) := by
  match l with
  | [] =>
   simp only [List.length_nil] at hz
   have := h1.1
   omega
  | c :: r =>
   by_cases hc : isD c = true
   ·rw [digL, if_pos hc, skD, if_pos hc]
   exact absurd (hj.mpr (fun c' r' e' => by cases e'; simpa using hc)) e
 rw [hd, Option.bind_some]
 refine Tl.congr (fun _ => if_neg (by omega)) ?_
 match hk : skD l, h1 with
 | [], h1 =>
  rw [hk] at hlen
  simp only [List.length_nil] at hlen
  exact Tl.congr (fun _ => if_pos (by omega)) (Tl.ok (z := ⟨#[]⟩) rfl (fun _ => rfl))
 | c :: r, h1 =>
  have := h1.lt
  exact Tl.congr (fun _ => if_neg (by omega)) (j6_eq hs h1)
def zeroD : List Int → Bool
  | c :: d :: _ => c = 48 && isD d
  | _ => false
def intV (l : List Int) : Option (List Int) := if zeroD l = true then none else intL l
theorem j3_eq {l : List Int} {j : Nat} (h : From s j l) (hj : 0 < j) : Tl (fun k => fastjson_validateNumber.j3 k s j false) (fracL l) := by
 have hlen := h.len
 refine Tl.sh ?_
 simp only [fastjson_validateNumber.j3, errors_New.f, Option.bind_some]
 refine Tl.congr (fun _ => if_neg zq49) ?_
 match l, h with
 | [], h =>
  simp only [List.length_nil] at hlen
  exact Tl.congr (fun _ => if_pos (by omega)) (Tl.ok (z := ⟨#[]⟩) rfl (fun _ => rfl))
 | c :: r, h =>
  simp only [List.length_cons] at hlen
  have hb := h.bt
  rw [hb]
  refine Tl.congr (fun _ => if_neg (by omega)) (Tl.congr (fun _ => if_pos (by omega)) (Tl.congr (fun _ => if_pos (by omega)) ?_))
  by_cases h46 : c = 46
  rotate_left
  ·rw [fracL, if_neg h46]
   exact Tl.congr (fun _ => if_neg h46) (j6_eq hs h)
  rw [fracL, if_pos h46, w64 (by omega), show ((j : Int) + 1).toNat = j + 1 by omega]
  have hcut := h.tail.cut
  have hz := sz_of hcut
  refine Tl.congr (fun _ => if_pos h46) (Tl.congr (fun _ => if_pos (by omega)) (Tl.congr (fun _ => if_pos (by omega)) ?_))
  by_cases e : r.length = 0
  rotate_left
  ·exact Tl.congr (fun _ => if_neg (by omega)) (l1_frac (by omega) hcut)
  obtain rfl := List.length_eq_zero_iff.mp e
  exact Tl.congr (fun _ => if_pos (by omega)) (Tl.err (fun _ => rfl))
theorem j0_eq {l : List Int} (hl : bytesOf s = l) : Tl (fun k => fastjson_validateNumber.j0 k s) (intV l) := by
 have h0 := From.start s
 rw [hl] at h0
 obtain ⟨j, h1, h2⟩ := l0_eq hs l 0 h0
 have hz := sz_of hl
 have hlen := h1.len
 have hj := skD_lt hz.symm hlen
 refine Tl.sh ?_
 simp only [fastjson_validateNumber.j0]
 refine h2 _ (Tl.sh ?_)
 simp only [fastjson_validateNumber.j2, errors_New.f, Option.bind_some]
 by_cases e : j = 0
 ·have hd : intV l = none := by
   have := hj.mp e
   match l with
   | [] => rfl
   | c :: r =>
    have hc := this c r rfl
    have h48 : c ≠ 48 := fun e => by subst e; revert hc; decide
    unfold intV
    split
    ·rfl
    ·rw [intL, if_neg h48, if_neg (by rw [hc]; decide)]
  rw [hd]
  exact Tl.congr (fun _ => if_pos (by omega)) (Tl.err (fun _ => rfl))
 refine Tl.congr (fun _ => if_neg (by omega)) ?_
 match l with
 | [] =>
  simp only [List.length_nil] at hz
  have := h1.1
  omega
 | c :: r =>
  have hc : isD c = true := by
   by_cases hc : isD c = true
   ·exact hc
   exact absurd (hj.mpr (fun c' r' e' => by cases e'; simpa using hc)) e
  have hb := bt_of hl
  have h1' := h1
  rw [skD, if_pos hc] at h1' hlen
  simp only [List.length_cons] at hz
  rw [hb]
  refine Tl.congr (fun _ => if_pos (by omega)) ?_
  by_cases h48 : c = 48
  rotate_left
  ·have hz2 : ¬ zeroD (c :: r) = true := by
    cases r <;> simp [zeroD, h48]
   rw [intV, if_neg hz2, intL, if_neg h48, if_pos hc]
   exact Tl.congr (fun _ => if_neg h48) (j3_eq hs h1' (by omega))
  refine Tl.congr (fun _ => if_pos h48) ?_
  by_cases hz2 : zeroD (c :: r) = true
  rotate_left
  ·have hr : skD r = r := by
    match r with
    | [] => rfl
    | d :: t =>
     simp only [zeroD, h48, decide_true, Bool.true_and] at hz2
     rw [skD, if_neg hz2]
   rw [hr] at h1' hlen
   rw [intV, if_neg hz2, intL, if_pos h48, show ((j : Int) != 1) = false by simpa using (show (j : Int) = 1 by omega)]
   exact j3_eq hs h1' (by omega)
  have hj2 : j ≠ 1 := by
   match r with
   | [] => simp [zeroD] at hz2
   | d :: t =>
    simp only [zeroD, Bool.and_eq_true] at hz2
    rw [skD, if_pos hz2.2] at hlen
    have := skD_len t
    simp only [List.length_cons] at hz
    omega
  rw [intV, if_pos hz2, show ((j : Int) != 1) = true by simpa using (show (j : Int) ≠ 1 by omega)]
  refine Tl.sh ?_
  simp only [fastjson_validateNumber.j3, errors_New.f, Option.bind_some]
  exact Tl.congr (fun _ => if_pos trivial) (Tl.err (fun _ => rfl))
def numV : List Int → Option (List Int)
  | [] => none
  | c :: r => if c = 45 then intV r else intV (c :: r)
theorem num_eq {l : List Int} (hl : bytesOf s = l) : Tl (fun k => fastjson_validateNumber.f k s) (numV l) := by
 have hz := sz_of hl
 unfold fastjson_validateNumber.f
 simp only [errors_New.f, Option.bind_some]
 match l with
 | [] =>
  simp only [List.length_nil] at hz
  exact Tl.congr (fun _ => if_pos (by omega)) (Tl.err (fun _ => rfl))
 | c :: r =>
  simp only [List.length_cons] at hz
  have hb := bt_of hl
  have hcut := cut1 hl
  have hz2 := sz_of hcut
  rw [hb]
  refine Tl.congr (fun _ => if_neg (by omega)) (Tl.congr (fun _ => if_pos (by omega)) ?_)
  by_cases h45 : c = 45
  rotate_left
  ·rw [numV, if_neg h45]
   exact Tl.congr (fun _ => if_neg h45) (j0_eq hs hl)
  rw [numV, if_pos h45]
  refine Tl.congr (fun _ => if_pos h45) (Tl.congr (fun _ => if_pos (by omega)) ?_)
  by_cases e : r.length = 0
  rotate_left
  ·exact Tl.congr (fun _ => if_neg (by omega)) (j0_eq (by omega) hcut)
  obtain rfl := List.length_eq_zero_iff.mp e
  exact Tl.congr (fun _ => if_pos (by omega)) (Tl.err (fun _ => rfl))
end Go.Proofs.YtlokkefnbffjnaaDoor.J
end
section
namespace Go.Proofs.YtlokkefnbffjnaaDoor.J
open Go.RowKit Go.Proofs.YtlokkefnbffjnaaDoorW.PrintWords Go.Proofs.YtlokkefnbffjnaaDoorW.PrintLast
set_option linter.unusedVariables false
def rawL : List Int → Option (List Int × List Int)
  | [] => none
  | [c] => if c = 34 then some ([], []) else none
  | c :: d :: t => if c = 34 then some ([], d :: t) else if c = 92 then (rawL t).map fun x => (92 :: d :: x.1, x.2) else (rawL (d :: t)).map fun x => (c :: x.1, x.2)
theorem rawL_end (r : List Int) : rawL (34 :: r) = some ([], r) := by
 cases r <;> simp [rawL]
theorem rawL_esc (d : Int) (t : List Int) : rawL (92 :: d :: t) = (rawL t).map fun x => (92 :: d :: x.1, x.2) := by
 simp [rawL]
theorem rawL_esc1 : rawL [92] = none := by simp [rawL]
theorem rawL_raw {c : Int} (r : List Int) (h1 : c ≠ 34) (h2 : c ≠ 92) : rawL (c :: r) = (rawL r).map fun x => (c :: x.1, x.2) := by
 cases r <;> simp [rawL, h1, h2]
theorem rawL_eq : ∀ (n : Nat) (l raw tail : List Int), l.length ≤ n → rawL l = some (raw, tail) → l = raw ++ 34 :: tail := by
 intro n
 induction n with
 | zero =>
  intro l raw tail hn h
  have : l = [] := List.length_eq_zero_iff.mp (by omega)
  subst this
  simp [rawL] at h
 | succ n ih =>
  intro l raw tail hn h
  match l with
  | [] => simp [rawL] at h
  | c :: r =>
   by_cases h1 : c = 34
   ·subst h1
    rw [rawL_end] at h
    cases h
    rfl
   by_cases h2 : c = 92
   rotate_left
   ·rw [rawL_raw r h1 h2, Option.map_eq_some_iff] at h
    obtain ⟨⟨x, y⟩, hx, he⟩ := h
    cases he
    rw [ih r x y (by simp only [List.length_cons] at hn; omega) hx]
    rfl
   subst h2
   match r with
   | [] => rw [rawL_esc1] at h; cases h
   | d :: t =>
    rw [rawL_esc, Option.map_eq_some_iff] at h
    obtain ⟨⟨x, y⟩, hx, he⟩ := h
    cases he
    rw [ih t x y (by simp only [List.length_cons] at hn; omega) hx]
    rfl
def lowS (low : Bool) (l : List Int) : Option Bool :=
  match l with
  | [] => some low
  | c :: r => if c = 92 then (match _h : escL r with
    | none => none
    | some t => lowS false t) else lowS (low || decide (c < 32)) r
termination_by l.length
decreasing_by
  · have := escL_len ‹_›
    simp; omega
  · simp
theorem lowS_nil (low : Bool) : lowS low [] = some low := by rw [lowS]
theorem lowS_esc (low : Bool) (r : List Int) : lowS low (92 :: r) = (escL r).bind (lowS false) := by
 rw [lowS, if_pos rfl]
 split
 ·rename_i h
  rw [h]; rfl
 ·rename_i t h
  rw [h]; rfl
theorem lowS_raw (low : Bool) {c : Int} (r : List Int) (h : c ≠ 92) : lowS low (c :: r) = lowS (low || decide (c < 32)) r := by
 rw [lowS, if_neg h]
def stdy : Bool → List Int → Bool
  | _, [] => true
  | low, c :: r => if c = 34 then stdy false r else if c = 92 ∧ low = true then false else if c < 32 then stdy true r else stdy low r
theorem stdy_more {low : Bool} {c : Int} {r : List Int} (h : stdy low (c :: r) = true) (hc : 32 ≤ c) (h34 : c ≠ 34) : stdy low r = true := by
 rw [stdy, if_neg h34] at h
 split at h
 ·cases h
 ·rwa [if_neg (by omega)] at h
theorem stdy_false : ∀ (l : List Int) (low : Bool), stdy low l = true → stdy false l = true := by
 intro l
 induction l with
 | nil => intro low h; rfl
 | cons c r ih =>
  intro low h
  cases low with
  | false => exact h
  | true =>
   rw [stdy] at h ⊢
   by_cases h1 : c = 34
   ·rw [if_pos h1] at h ⊢
    exact h
   rw [if_neg h1] at h ⊢
   by_cases h2 : c = 92
   ·rw [if_pos ⟨h2, rfl⟩] at h
    cases h
   rw [if_neg (fun e => h2 e.1)] at h ⊢
   by_cases h3 : c < 32
   ·rw [if_pos h3] at h ⊢
    exact h
   rw [if_neg h3] at h ⊢
   exact ih true h
theorem stdy_app : ∀ (a l : List Int) (low : Bool), stdy low (a ++ l) = true → stdy false l = true := by
 intro a
 induction a with
 | nil => intro l low h; exact stdy_false l low h
 | cons c r ih =>
  intro l low h
  rw [List.cons_append, stdy] at h
  split at h
  ·exact ih l _ h
  ·split at h
   ·cases h
   ·split at h
    ·exact ih l _ h
    ·exact ih l _ h
def fjS (low : Bool) (l : List Int) : Option (List Int) :=
  match rawL l with
  | none => none
  | some (raw, tail) => (match lowS low raw with
    | some false => some tail
    | _ => none)
theorem hexv_ge {c v : Int} (h : hexv c = some v) : 48 ≤ c ∧ c ≠ 92 := by
 unfold hexv at h
 split at h
 ·omega
 split at h
 ·omega
 split at h
 ·omega
 ·cases h
theorem hex4_app {a l : List Int} {v : Int} (h : hex4 a = some v) : hex4 (a ++ l) = some v := by
 unfold hex4 at h
 split at h
 ·exact h
 ·cases h
theorem steady_str : ∀ (n : Nat) (l : List Int) (low : Bool), l.length ≤ n → stdy low l = true → fjS low l = if low = true then none else strL l := by
 intro n
 induction n with
 | zero =>
  intro l low hn h
  have : l = [] := List.length_eq_zero_iff.mp (by omega)
  subst this
  rw [strL_nil]
  cases low <;> rfl
 | succ n ih =>
  intro l low hn h
  match l with
  | [] =>
   rw [strL_nil]
   cases low <;> rfl
  | c :: r =>
   simp only [List.length_cons] at hn
   by_cases h1 : c = 34
   ·subst h1
    rw [strL_end]
    unfold fjS
    rw [rawL_end]
    simp only [lowS_nil]
    cases low <;> rfl
   by_cases h2 : c = 92
   rotate_left
   ·have hfs : fjS low (c :: r) = fjS (low || decide (c < 32)) r := by
     unfold fjS
     rw [rawL_raw r h1 h2]
     cases rawL r with
     | none => rfl
     | some x => simp only [Option.map_some, lowS_raw low _ h2]
    rw [hfs]
    by_cases h3 : c < 32
    rotate_left
    ·have hs : stdy low r = true := stdy_more h (by omega) h1
     rw [decide_eq_false h3, Bool.or_false, ih r low (by omega) hs, strL_raw r ⟨h1, h3, h2⟩]
    have hs : stdy true r = true := by
     rw [stdy, if_neg h1, if_neg (fun e => h2 e.1), if_pos h3] at h
     exact h
    rw [decide_eq_true h3, Bool.or_true, ih r true (by omega) hs, strL_low r h3]
    cases low <;> rfl
   subst h2
   have hlow : low = false := by
    cases low with
    | false => rfl
    | true =>
     rw [stdy, if_neg zq49, if_pos ⟨rfl, rfl⟩] at h
     cases h
   subst hlow
   have h' := stdy_more h zq49 zq49
   rw [strL_esc]
   simp only [Bool.false_eq_true, if_false]
   match r with
   | [] =>
    unfold fjS
    rw [rawL_esc1]
    rfl
   | d :: t =>
    simp only [List.length_cons] at hn
    have hfs : fjS false (92 :: d :: t) = (match rawL t with
     | none => none
     | some (raw, tail) => (match (escL (d :: raw)).bind (lowS false) with
      | some false => some tail
      | _ => none)) := by
     unfold fjS
     rw [rawL_esc]
     cases rawL t with
     | none => rfl
     | some x => simp only [Option.map_some, lowS_esc]
    rw [hfs]
    by_cases h3 : isE d = true
    ·have ht : stdy false t = true := stdy_app [d] t false h'
     have e1 : ∀ raw, escL (d :: raw) = some raw := fun raw => by rw [escL, if_pos h3]
     have := ih t false (by omega) ht
     rw [e1]
     simp only [e1, Option.bind_some]
     unfold fjS at this
     simp only [Bool.false_eq_true, if_false] at this
     exact this
    by_cases h4 : d = 117
    rotate_left
    ·have e1 : ∀ raw, escL (d :: raw) = none := fun raw => by rw [escL, if_neg h3, if_neg h4]
     simp only [e1, Option.bind_none]
     cases rawL t <;> rfl
    subst h4
    have e1 : ∀ raw, escL (117 :: raw) = (hex4 raw).bind fun _ => some (raw.drop 4) := fun raw => by rw [escL, if_neg h3, if_pos rfl]
    simp only [e1]
    have ht : stdy false t = true := stdy_more h' zq49 zq49
    cases hx : hex4 t with
    | none =>
     simp only [Option.bind_none]
     cases hr : rawL t with
     | none => rfl
     | some x =>
      obtain ⟨raw, tail⟩ := x
      have he := rawL_eq _ _ _ _ (Nat.le_refl _) hr
      cases hy : hex4 raw with
      | none => simp only [hy, Option.bind_none]
      | some v =>
       rw [he, hex4_app hy] at hx
       cases hx
    | some v =>
     have hx' := hx
     unfold hex4 at hx'
     split at hx'
     ·rename_i a b c' e u
      obtain ⟨x1, g1, hx'⟩ := Option.bind_eq_some_iff.mp hx'
      obtain ⟨x2, g2, hx'⟩ := Option.bind_eq_some_iff.mp hx'
      obtain ⟨x3, g3, hx'⟩ := Option.bind_eq_some_iff.mp hx'
      obtain ⟨x4, g4, hx'⟩ := Option.bind_eq_some_iff.mp hx'
      have k1 := hexv_ge g1
      have k2 := hexv_ge g2
      have k3 := hexv_ge g3
      have k4 := hexv_ge g4
      have hu : stdy false u = true := stdy_app [a, b, c', e] u false ht
      simp only [List.length_cons] at hn
      have hI := ih u false (by omega) hu
      rw [rawL_raw _ (by omega) k1.2, rawL_raw _ (by omega) k2.2, rawL_raw _ (by omega) k3.2, rawL_raw _ (by omega) k4.2]
      simp only [Option.bind_some, List.drop_succ_cons, List.drop_zero]
      unfold fjS at hI
      simp only [Bool.false_eq_true, if_false] at hI
      rw [← hI]
      cases rawL u with
      | none => rfl
      | some x =>
       have e2 : ∀ z : List Int, hex4 (a :: b :: c' :: e :: z) = some v := fun z => by
        rw [← hx]
        rfl
       simp only [Option.map_some, e2, Option.bind_some, List.drop_succ_cons, List.drop_zero]
     ·cases hx'
def par : List Int → Bool
  | [] => true
  | [c] => c ≠ 92
  | c :: d :: t => if c = 92 then par t else par (d :: t)
theorem par_raw {c : Int} (t : List Int) (h : c ≠ 92) : par (c :: t) = par t := by
 cases t <;> simp [par, h]
theorem par_esc (d : Int) (t : List Int) : par (92 :: d :: t) = par t := by simp [par]
theorem rawL_split (r : List Int) : ∀ (n : Nat) (p : List Int), p.length ≤ n → 34 ∉ p → rawL (p ++ 34 :: r) = if par p = true then some (p, r) else (rawL r).map fun x => (p ++ 34 :: x.1, x.2) := by
 intro n
 induction n with
 | zero =>
  intro p hn h
  have : p = [] := List.length_eq_zero_iff.mp (by omega)
  subst this
  rw [List.nil_append, rawL_end]
  rfl
 | succ n ih =>
  intro p hn h
  match p with
  | [] =>
   rw [List.nil_append, rawL_end]
   rfl
  | [c] =>
   simp only [List.mem_singleton] at h
   by_cases h2 : c = 92
   ·subst h2
    simp only [List.cons_append, List.nil_append, rawL_esc]
    rfl
   rw [List.cons_append, rawL_raw _ (fun e => h e.symm) h2, List.nil_append, rawL_end]
   simp [par, h2]
  | c :: d :: t =>
   simp only [List.mem_cons, not_or] at h
   simp only [List.length_cons] at hn
   by_cases h2 : c = 92
   ·subst h2
    simp only [List.cons_append, rawL_esc, par_esc]
    rw [ih t (by omega) h.2.2]
    split
    ·rfl
    ·cases rawL r <;> rfl
   rw [List.cons_append, rawL_raw _ (fun e => h.1 e.symm) h2, par_raw _ h2, ih (d :: t) zq61 (by simp only [List.mem_cons, not_or]; exact h.2)]
   split
   ·rfl
   ·cases rawL r <;> rfl
theorem rawL_noq : ∀ (n : Nat) (l : List Int), l.length ≤ n → 34 ∉ l → rawL l = none := by
 intro n
 induction n with
 | zero =>
  intro l hn h
  have : l = [] := List.length_eq_zero_iff.mp (by omega)
  subst this
  rfl
 | succ n ih =>
  intro l hn h
  match l with
  | [] => rfl
  | [c] =>
   simp only [List.mem_singleton] at h
   simp [rawL, Ne.symm h]
  | c :: d :: t =>
   simp only [List.mem_cons, not_or] at h
   simp only [List.length_cons] at hn
   by_cases h2 : c = 92
   ·subst h2
    rw [rawL_esc, ih t (by omega) h.2.2]
    rfl
   rw [rawL_raw _ (fun e => h.1 e.symm) h2, ih (d :: t) zq61 (by simp only [List.mem_cons, not_or]; exact h.2)]
   rfl
theorem par_app : ∀ (n : Nat) (q t : List Int), q.length ≤ n → (∀ x, q.getLast? = some x → x ≠ 92) → par (q ++ t) = par t := by
 intro n
 induction n with
 | zero =>
  intro q t hn h
  have : q = [] := List.length_eq_zero_iff.mp (by omega)
  subst this
  rfl
 | succ n ih =>
  intro q t hn h
  match q with
  | [] => rfl
  | [c] =>
   have h2 := h c rfl
   rw [List.cons_append, par_raw _ h2, List.nil_append]
  | c :: d :: u =>
   simp only [List.length_cons] at hn
   by_cases h2 : c = 92
   rotate_left
   ·rw [List.cons_append, par_raw _ h2]
    refine ih (d :: u) t zq61 fun x hx => h x ?_
    rw [List.getLast?_cons_cons]
    exact hx
   subst h2
   rw [List.cons_append, List.cons_append, par_esc]
   refine ih u t (by omega) fun x hx => ?_
   refine h x ?_
   rw [List.getLast?_cons_cons]
   cases u with
   | nil => cases hx
   | cons e u => rw [List.getLast?_cons_cons]; exact hx
theorem par_rep : ∀ (n k : Nat), k ≤ n → par (List.replicate k 92) = decide (k % 2 = 0) := by
 intro n
 induction n with
 | zero =>
  intro k hk
  obtain rfl : k = 0 := by omega
  rfl
 | succ n ih =>
  intro k hk
  match k with
  | 0 => rfl
  | 1 => rfl
  | k + 2 =>
   rw [List.replicate_succ, List.replicate_succ, par_esc, ih k (by omega)]
   simp
theorem par_no {l : List Int} (h : 92 ∉ l) : par l = true := by
 induction l with
 | nil => rfl
 | cons c t ih =>
  simp only [List.mem_cons, not_or] at h
  rw [par_raw _ (fun e => h.1 e.symm), ih h.2]
def anyLow (l : List Int) : Bool := l.any fun c => decide (c < 32)
theorem lowS_no {l : List Int} (low : Bool) (h : 92 ∉ l) : lowS low l = some (low || anyLow l) := by
 induction l generalizing low with
 | nil => rw [lowS_nil]; simp [anyLow]
 | cons c t ih =>
  simp only [List.mem_cons, not_or] at h
  rw [lowS_raw _ _ (fun e => h.1 e.symm), ih _ h.2]
  simp [anyLow, Bool.or_assoc]
theorem lowS_first (low : Bool) {u : List Int} (t : List Int) (h : 92 ∉ u) : lowS low (u ++ 92 :: t) = (escL t).bind (lowS false) := by
 induction u generalizing low with
 | nil => rw [List.nil_append, lowS_esc]
 | cons c u ih =>
  simp only [List.mem_cons, not_or] at h
  rw [List.cons_append, lowS_raw _ _ (fun e => h.1 e.symm), ih _ h.2]
end Go.Proofs.YtlokkefnbffjnaaDoor.J
end
section
namespace Go.Proofs.YtlokkefnbffjnaaDoor.J
open Go.RowKit Go.Proofs.YtlokkefnbffjnaaDoor.J Go.Proofs.YtlokkefnbffjnaaDoorW.PrintWords Go.Proofs.YtlokkefnbffjnaaDoorW.PrintLast
set_option linter.unusedVariables false
theorem ib : ∀ (l : List UInt8) (b : UInt8), (∃ p r, l = p ++ b :: r ∧ b ∉ p ∧ Lib.indexByte l b = (p.length : Int)) ∨ (b ∉ l ∧ Lib.indexByte l b = -1)
 | [], b => Or.inr ⟨by simp, rfl⟩
 | a :: l, b => by
  by_cases e : a = b
  ·subst e
   exact Or.inl ⟨[], l, rfl, by simp, by simp [Lib.indexByte]⟩
  rcases ib l b with ⟨p, r, h1, h2, h3⟩ | ⟨h1, h2⟩
  ·refine Or.inl ⟨a :: p, r, by rw [h1]; rfl, by simp [h2, Ne.symm e], ?_⟩
   rw [Lib.indexByte, if_neg (by simpa using e), h3, if_neg (by simp only [beq_iff_eq]; omega), List.length_cons]
   omega
  ·refine Or.inr ⟨by simp [h1, Ne.symm e], ?_⟩
   rw [Lib.indexByte, if_neg (by simpa using e), h2]
   rfl
theorem idx (s : ByteArray) (c : Int) (hc : 0 ≤ c ∧ c ≤ 255) : (∃ p r, bytesOf s = p ++ c :: r ∧ c ∉ p ∧ strings_IndexByte.f s c = some (p.length : Int)) ∨ (c ∉ bytesOf s ∧ strings_IndexByte.f s c = some (-1)) := by
 have hn : ((c.toNat.toUInt8).toNat : Int) = c := by
  have : c.toNat.toUInt8.toNat = c.toNat := by
   simp only [Nat.toUInt8, UInt8.toNat_ofNat']
   omega
  omega
 have hmem : ∀ l : List UInt8, c.toNat.toUInt8 ∉ l → c ∉ l.map fun b => (b.toNat : Int) := fun l h hm => by
  obtain ⟨b, hb, e⟩ := List.mem_map.mp hm
  apply h
  have : b = c.toNat.toUInt8 := by
   apply UInt8.toNat_inj.mp
   omega
  rw [← this]
  exact hb
 rcases ib s.data.toList c.toNat.toUInt8 with ⟨p, r, h1, h2, h3⟩ | ⟨h1, h2⟩
 ·refine Or.inl ⟨p.map fun b => (b.toNat : Int), r.map fun b => (b.toNat : Int), ?_, hmem p h2, ?_⟩
  ·rw [bytesOf, h1, List.map_append, List.map_cons, hn]
  ·rw [strings_IndexByte.f, h3, List.length_map]
 ·exact Or.inr ⟨hmem _ h1, by rw [strings_IndexByte.f, h2]⟩
def RT (g : Nat → Option (ByteArray × ByteArray × Option Int)) (o : Option (List Int × List Int)) : Prop :=
  match o with
  | some x => ∃ z y, bytesOf z = x.1 ∧ bytesOf y = x.2 ∧ Ev g (z, y, none)
  | none => ∃ z y q, Ev g (z, y, some q)
theorem RT.sh {g : Nat → Option (ByteArray × ByteArray × Option Int)} {o : Option (List Int × List Int)} (h : RT (fun k => g (k + 1)) o) : RT g o := by
 cases o with
 | none => obtain ⟨z, y, q, hz⟩ := h; exact ⟨z, y, q, Ev_sh hz⟩
 | some x => obtain ⟨z, y, h1, h2, hz⟩ := h; exact ⟨z, y, h1, h2, Ev_sh hz⟩
theorem RT.congr {g f : Nat → Option (ByteArray × ByteArray × Option Int)} {o : Option (List Int × List Int)} (e : ∀ k, g k = f k) (h : RT f o) : RT g o := by
 have : g = f := funext e
 rw [this]
 exact h
theorem RT.err {g : Nat → Option (ByteArray × ByteArray × Option Int)} {z y : ByteArray} {q : Int} (e : ∀ k, g k = some (z, y, some q)) : RT g none := ⟨z, y, q, Ev.congr e (Ev.now _)⟩
theorem RT.ok {g : Nat → Option (ByteArray × ByteArray × Option Int)} {z y : ByteArray} {a b : List Int} (hz : bytesOf z = a) (hy : bytesOf y = b) (e : ∀ k, g k = some (z, y, none)) : RT g (some (a, b)) := ⟨z, y, hz, hy, Ev.congr e (Ev.now _)⟩
theorem take_of {s : ByteArray} {a b : List Int} {n : Nat} (h : bytesOf s = a ++ b) (hn : n = a.length) : bytesOf (s.extract 0 n) = a := by
 rw [bytesOf_extract, h, hn, List.take_left, List.drop_zero]
theorem rest_of {s : ByteArray} {a b : List Int} {n : Nat} (h : bytesOf s = a ++ b) (hn : n = a.length) : bytesOf (s.extract n s.size) = b := by
 rw [cut_of h n _ (Nat.le_refl _), hn, List.drop_left]
theorem bt_mid {s : ByteArray} {p r : List Int} {c : Int} (h : bytesOf s = p ++ c :: r) : bt s (p.length : Int) = c := by
 have h0 := From.start s
 rw [h] at h0
 have := h0.app.bt
 simpa using this
theorem last_or (p : List Int) (h : p ≠ []) : ∃ q c, p = q ++ [c] := ⟨p.dropLast, p.getLast h, (by rw [List.dropLast_concat_getLast])⟩
theorem back_eq {s w : ByteArray} (hs : s.size ≤ 2147483647) {n : Int} {r : List Int} : ∀ (q : List Int) (m : Nat), bytesOf s = q ++ List.replicate m 92 ++ r →
 ∃ q' m', q ++ List.replicate m (92 : Int) = q' ++ List.replicate m' 92 ∧ (∀ x, q'.getLast? = some x → x ≠ 92) ∧
  ∀ R, RT (fun k => fastjson_parseRawString.j3 k s n w (q'.length : Int)) R → RT (fun k => fastjson_parseRawString.l1 k s n w (q.length : Int)) R := by
 intro q
 induction hq : q.length generalizing q with
 | zero =>
  intro m h
  have : q = [] := List.length_eq_zero_iff.mp hq
  subst this
  refine ⟨[], m, rfl, by simp, fun R hR => RT.sh ?_⟩
  simp only [fastjson_parseRawString.l1]
  exact RT.congr (fun _ => if_neg (by simp)) hR
 | succ d ih =>
  intro m h
  obtain ⟨u, c, rfl⟩ := last_or q (by intro e; subst e; simp at hq)
  simp only [List.length_append, List.length_cons, List.length_nil] at hq
  have hsz := sz_of h
  simp only [List.length_append, List.length_cons, List.length_nil] at hsz
  have hb : bt s (u.length : Int) = c := bt_mid (p := u) (r := List.replicate m 92 ++ r) (by rw [h]; simp)
  have hw : wrap64 (((d + 1 : Nat) : Int) - 1) = (u.length : Int) := by rw [w64 (by omega)]; omega
  by_cases hc : c = 92
  ·subst hc
   obtain ⟨q', m', h1, h2, h3⟩ := ih u (by omega) (m + 1) (by rw [h, List.replicate_succ]; simp)
   refine ⟨q', m', by rw [← h1, List.replicate_succ]; simp, h2, fun R hR => RT.sh ?_⟩
   simp only [fastjson_parseRawString.l1, hw, hb]
   refine RT.congr (fun _ => if_pos (by omega)) (RT.congr (fun _ => if_pos (by omega)) (RT.congr (fun _ => if_pos (by omega)) (RT.congr (fun _ => if_pos trivial) ?_)))
   rw [show u.length = d by omega]
   exact h3 R hR
  refine ⟨u ++ [c], m, rfl, fun x hx => ?_, fun R hR => RT.sh ?_⟩
  ·rw [List.getLast?_append] at hx
   simp at hx
   omega
  ·simp only [fastjson_parseRawString.l1, hw, hb]
   refine RT.congr (fun _ => if_pos (by omega)) (RT.congr (fun _ => if_pos (by omega)) (RT.congr (fun _ => if_pos (by omega)) (RT.congr (fun _ => if_neg hc) ?_)))
   simp only [List.length_append, List.length_cons, List.length_nil] at hR
   rw [show ((d + 1 : Nat) : Int) = ((u.length + (0 + 1) : Nat) : Int) by omega]
   exact hR
theorem tmod_even {a b : Nat} (h : b ≤ a) (ha : a ≤ 2147483647) : (Int.tmod (IntKind.u64.wrap (wrap64 ((a : Int) - (b : Int)))) 2 = 0) ↔ (a - b) % 2 = 0 := by
 have e : IntKind.u64.wrap (wrap64 ((a : Int) - (b : Int))) = ((a - b : Nat) : Int) := by
  rw [w64 (by omega)]
  have e2 : IntKind.u64.wrap ((a : Int) - (b : Int)) = ((a : Int) - (b : Int)) % 18446744073709551616 := by simp [IntKind.wrap, IntKind.bits, IntKind.signed]
  rw [e2]
  omega
 rw [e, Int.tmod_eq_emod_of_nonneg (by omega)]
 omega
theorem raw_ok {w s : ByteArray} {pre p r : List Int} {n : Nat} (hw : w.size ≤ 2147483647) (hpre : bytesOf w = pre ++ bytesOf s) (hb : bytesOf s = p ++ 34 :: r) (hn : n = pre.length + p.length) :
 RT (fun _ => if (0 : Int) ≤ (n : Int) then (if (n : Int) ≤ (w.size : Int) then (if 0 ≤ wrap64 ((p.length : Int) + 1) then (if wrap64 ((p.length : Int) + 1) ≤ (s.size : Int) then (some (w.extract 0 ((n : Int)).toNat, s.extract (wrap64 ((p.length : Int) + 1)).toNat s.size, none)) else (none)) else (none)) else (none)) else (none)) (some (pre ++ p, r)) := by
 have hz := sz_of hb
 simp only [List.length_append, List.length_cons] at hz
 have hzw := sz_of hpre
 rw [List.length_append, bytesOf_length] at hzw
 have hw4 : wrap64 ((p.length : Int) + 1) = ((p.length + 1 : Nat) : Int) := by rw [w64 (by omega)]; omega
 rw [hw4]
 refine RT.congr (fun _ => if_pos (by omega)) (RT.congr (fun _ => if_pos (by omega)) (RT.congr (fun _ => if_pos (by omega)) (RT.congr (fun _ => if_pos (by omega)) ?_)))
 simp only [Int.toNat_natCast]
 exact RT.ok (take_of (b := 34 :: r) (by rw [hpre, hb]; simp) zq71) (rest_of (a := p ++ [34]) (by rw [hb]; simp) (by simp)) (fun _ => rfl)
theorem w64_add1 {n : Nat} (h : n ≤ 2147483647) : wrap64 ((n : Int) + 1) = ((n + 1 : Nat) : Int) := by rw [w64 (by omega)]; omega
theorem w64_at {w s n a : Nat} (h : w ≤ 2147483647) (h1 : s ≤ w) (h2 : n ≤ s) (e : a = w - s + n) : wrap64 (wrap64 ((w : Int) - (s : Int)) + (n : Int)) = (a : Int) := by
 rw [w64 (x := (w : Int) - (s : Int)) (by omega), w64 (by omega)]
 omega
theorem raw_even {w s : ByteArray} (hw : w.size ≤ 2147483647) {pre p r : List Int} {q : Nat} (hb : bytesOf s = p ++ 34 :: r) (hpre : bytesOf w = pre ++ bytesOf s) (hq : q ≤ p.length) (hm : (p.length - q) % 2 = 0) :
 RT (fun k => fastjson_parseRawString.j3 k s (p.length : Int) w (q : Int)) (some (pre ++ p, r)) := by
 have hz := sz_of hb
 simp only [List.length_append, List.length_cons] at hz
 have hzw := sz_of hpre
 rw [List.length_append, bytesOf_length] at hzw
 have hc := (tmod_even (a := p.length) (b := q) hq (by omega)).mpr hm
 refine RT.sh ?_
 simp only [fastjson_parseRawString.j3]
 rw [w64_at (a := pre.length + p.length) hw (by omega) (by omega) (by omega)]
 exact RT.congr (fun _ => if_pos hc) (raw_ok hw hpre hb rfl)
theorem raw_odd {w s : ByteArray} (hw : w.size ≤ 2147483647) {pre p r : List Int} {q : Nat} (hb : bytesOf s = p ++ 34 :: r) (hpre : bytesOf w = pre ++ bytesOf s) (hq : q ≤ p.length) (hm : ¬ (p.length - q) % 2 = 0)
 (ih : ∀ (s' : ByteArray) (pre' p' r' : List Int), s'.size < s.size → bytesOf s' = p' ++ 34 :: r' → 34 ∉ p' → p'.getLast? = some 92 → bytesOf w = pre' ++ bytesOf s' →
  RT (fun k => fastjson_parseRawString.l0 k s' (p'.length : Int) w) ((rawL (bytesOf s')).map fun x => (pre' ++ x.1, x.2))) :
 RT (fun k => fastjson_parseRawString.j3 k s (p.length : Int) w (q : Int)) ((rawL r).map fun x => (pre ++ (p ++ 34 :: x.1), x.2)) := by
 have hz := sz_of hb
 simp only [List.length_append, List.length_cons] at hz
 have hzw := sz_of hpre
 rw [List.length_append, bytesOf_length] at hzw
 have hc : ¬ (Int.tmod (IntKind.u64.wrap (wrap64 ((p.length : Int) - (q : Int)))) 2 = 0) := fun e => hm ((tmod_even (a := p.length) (b := q) hq (by omega)).mp e)
 refine RT.sh ?_
 simp only [fastjson_parseRawString.j3, errors_New.f]
 refine RT.congr (fun _ => if_neg hc) ?_
 clear hc hm hq
 rw [w64_add1 (n := p.length) (by omega)]
 have hr : bytesOf (s.extract (p.length + 1) s.size) = r := rest_of (a := p ++ [34]) (by rw [hb]; simp) (by simp)
 have hrz := sz_of hr
 refine RT.congr (fun _ => if_pos (by omega)) (RT.congr (fun _ => if_pos (by omega)) ?_)
 simp only [Int.toNat_natCast]
 generalize s.extract (p.length + 1) s.size = s' at hr hrz
 have hpre' : bytesOf w = (pre ++ p ++ [34]) ++ bytesOf s' := by rw [hpre, hb, hr]; simp
 rcases idx s' 34 (by omega) with ⟨p', r', e1, e2, e3⟩ | ⟨e1, e2⟩
 ·have hrz' := sz_of e1
  simp only [List.length_append, List.length_cons] at hrz'
  rw [e3]
  simp only [Option.bind_some]
  rw [w64_at (w := w.size) (s := s'.size) (n := p'.length) (a := pre.length + (p.length + 1) + p'.length) hw (by omega) (by omega) (by omega)]
  have hok : par p' = true → RT (fun _ => if (0 : Int) ≤ ((pre.length + (p.length + 1) + p'.length : Nat) : Int) then (if ((pre.length + (p.length + 1) + p'.length : Nat) : Int) ≤ (w.size : Int) then (if 0 ≤ wrap64 ((p'.length : Int) + 1) then (if wrap64 ((p'.length : Int) + 1) ≤ (s'.size : Int) then (some (w.extract 0 (((pre.length + (p.length + 1) + p'.length : Nat) : Int)).toNat, s'.extract (wrap64 ((p'.length : Int) + 1)).toNat s'.size, none)) else (none)) else (none)) else (none)) else (none)) ((rawL r).map fun x => (pre ++ (p ++ 34 :: x.1), x.2)) := fun hpp => by
   have h5 := raw_ok (n := pre.length + (p.length + 1) + p'.length) hw hpre' e1 (by simp)
   rw [← hr, e1, rawL_split r' _ p' (Nat.le_refl _) e2, if_pos hpp, Option.map_some]
   simp only [List.append_assoc, List.cons_append, List.nil_append] at h5 ⊢
   exact h5
  refine RT.congr (fun _ => if_neg (by omega)) ?_
  by_cases h0 : p'.length = 0
  ·obtain rfl := List.length_eq_zero_iff.mp h0
   exact RT.congr (fun _ => if_pos (by simp)) (hok rfl)
  obtain ⟨u', c', hu'⟩ := last_or p' (by intro e; subst e; simp at h0)
  have hul' : p'.length = u'.length + 1 := by rw [hu']; simp
  have hbt : bt s' (u'.length : Int) = c' := bt_mid (p := u') (r := 34 :: r') (by rw [e1, hu']; simp)
  have hw5 : wrap64 ((p'.length : Int) - 1) = (u'.length : Int) := by rw [w64 (by omega)]; omega
  rw [hw5, hbt]
  refine RT.congr (fun _ => if_neg (by omega)) (RT.congr (fun _ => if_pos (by omega)) (RT.congr (fun _ => if_pos (by omega)) ?_))
  by_cases h92 : c' = 92
  rotate_left
  ·refine RT.congr (fun _ => if_neg h92) (hok ?_)
   have := par_app _ p' [] (Nat.le_refl _) (fun x hx => by rw [hu', List.getLast?_append] at hx; simp at hx; omega)
   rw [List.append_nil] at this
   rw [this]
   rfl
  refine RT.congr (fun _ => if_pos h92) ?_
  have hI := ih s' (pre ++ p ++ [34]) p' r' (by omega) e1 e2 (by rw [hu', h92]; simp) hpre'
  rw [hr] at hI
  cases hx : rawL r with
  | none => rw [hx] at hI; exact hI
  | some y =>
   rw [hx] at hI
   simp only [Option.map_some, List.append_assoc, List.cons_append, List.nil_append] at hI ⊢
   exact hI
 ·rw [e2, ← hr, rawL_noq _ _ (Nat.le_refl _) e1]
  simp only [Option.bind_some]
  exact RT.congr (fun _ => if_pos (by omega)) (RT.err (fun _ => rfl))
theorem raw_loop {w : ByteArray} (hw : w.size ≤ 2147483647) : ∀ (n : Nat) (s : ByteArray) (pre p r : List Int), s.size ≤ n → bytesOf s = p ++ 34 :: r → 34 ∉ p → p.getLast? = some 92 → bytesOf w = pre ++ bytesOf s →
 RT (fun k => fastjson_parseRawString.l0 k s (p.length : Int) w) ((rawL (bytesOf s)).map fun x => (pre ++ x.1, x.2)) := by
 intro n
 induction n with
 | zero =>
  intro s pre p r hn hb
  have := sz_of hb
  simp only [List.length_append, List.length_cons] at this
  omega
 | succ n ih =>
  intro s pre p r hn hb hp hl hpre
  have hz := sz_of hb
  simp only [List.length_append, List.length_cons] at hz
  have hzw := sz_of hpre
  rw [List.length_append, bytesOf_length] at hzw
  obtain ⟨u, c, hu⟩ := last_or p (by intro e; subst e; simp at hl)
  have hc : c = 92 := by rw [hu, List.getLast?_append] at hl; simpa using hl
  subst hc
  have hul : p.length = u.length + 1 := by rw [hu]; simp
  obtain ⟨q', m', h1, h2, h3⟩ := back_eq (s := s) (w := w) (by omega) (n := (p.length : Int)) (r := 34 :: r) u 1 (by rw [hb, hu]; rfl)
  have hpq : p = q' ++ List.replicate m' 92 := by rw [hu, ← h1]; rfl
  have hpl : p.length = q'.length + m' := by rw [hpq]; simp
  have hpar : par p = decide (m' % 2 = 0) := by rw [hpq, par_app _ _ _ (Nat.le_refl _) h2, par_rep _ _ (Nat.le_refl _)]
  have hw0 : wrap64 ((p.length : Int) - 1) = (u.length : Int) := by rw [w64 (by omega)]; omega
  have hsp := rawL_split r _ p (Nat.le_refl _) hp
  rw [hpar] at hsp
  refine RT.sh ?_
  simp only [fastjson_parseRawString.l0, hw0]
  refine h3 _ ?_
  rw [← hb] at hsp
  rw [hsp]
  by_cases hm : m' % 2 = 0
  ·rw [if_pos (show decide (m' % 2 = 0) = true from decide_eq_true hm), Option.map_some]
   exact raw_even hw hb hpre (by omega) (by omega)
  rw [if_neg (show ¬ decide (m' % 2 = 0) = true from fun e => hm (of_decide_eq_true e)), Option.map_map]
  exact raw_odd hw hb hpre (by omega) (by omega) (fun s' pre' p' r' g => ih s' pre' p' r' (by omega))
theorem par_last {p : List Int} (h : ∀ x, p.getLast? = some x → x ≠ 92) : par p = true := by
 have := par_app _ p [] (Nat.le_refl _) h
 rw [List.append_nil] at this
 rw [this]
 rfl
theorem raw_j0 {s : ByteArray} (hs : s.size ≤ 2147483647) {p r : List Int} (hb : bytesOf s = p ++ 34 :: r) : RT (fun k => fastjson_parseRawString.j0 k s (p.length : Int) true) (some (p, r)) := by
 refine RT.sh ?_
 simp only [fastjson_parseRawString.j0, if_true]
 exact raw_ok (w := s) (s := s) (pre := []) hs rfl hb (by simp)
theorem raw_eq {s : ByteArray} (hs : s.size ≤ 2147483647) : RT (fun k => fastjson_parseRawString.f k s) (rawL (bytesOf s)) := by
 simp only [fastjson_parseRawString.f, errors_New.f]
 rcases idx s 34 (by omega) with ⟨p, r, e1, e2, e3⟩ | ⟨e1, e2⟩
 ·have hz := sz_of e1
  simp only [List.length_append, List.length_cons] at hz
  rw [e3]
  simp only [Option.bind_some]
  refine RT.congr (fun _ => if_neg (by omega)) ?_
  by_cases h0 : p.length = 0
  ·obtain rfl := List.length_eq_zero_iff.mp h0
   refine RT.congr (fun _ => if_pos (by simp)) ?_
   rw [e1, List.nil_append, rawL_end]
   exact raw_j0 hs e1
  obtain ⟨u, c, hu⟩ := last_or p (by intro e; subst e; simp at h0)
  have hul : p.length = u.length + 1 := by rw [hu]; simp
  have hbt : bt s (u.length : Int) = c := bt_mid (p := u) (r := 34 :: r) (by rw [e1, hu]; simp)
  have hw5 : wrap64 ((p.length : Int) - 1) = (u.length : Int) := by rw [w64 (by omega)]; omega
  rw [hw5, hbt]
  refine RT.congr (fun _ => if_neg (by omega)) (RT.congr (fun _ => if_pos (by omega)) (RT.congr (fun _ => if_pos (by omega)) ?_))
  by_cases h92 : c = 92
  rotate_left
  ·have h8 : ((c != 92) = true) := by simpa using h92
   rw [h8, e1, rawL_split r _ p (Nat.le_refl _) e2, if_pos (par_last (fun x hx => by rw [hu, List.getLast?_append] at hx; simp at hx; omega))]
   exact raw_j0 hs e1
  subst h92
  have h6 := raw_loop (w := s) hs _ s [] p r (Nat.le_refl _) e1 e2 (by rw [hu]; simp) rfl
  simp only [List.nil_append] at h6
  have h7 : (rawL (bytesOf s)).map (fun x => (x.1, x.2)) = rawL (bytesOf s) := by cases rawL (bytesOf s) <;> rfl
  rw [h7] at h6
  refine RT.sh ?_
  simp only [fastjson_parseRawString.j0]
  exact RT.congr (fun _ => if_neg zq49) h6
 ·rw [e2, rawL_noq _ _ (Nat.le_refl _) e1]
  simp only [Option.bind_some]
  exact RT.congr (fun _ => if_pos (by omega)) (RT.err (fun _ => rfl))
end Go.Proofs.YtlokkefnbffjnaaDoor.J
end
section
namespace Go.Proofs.YtlokkefnbffjnaaDoor.J
open Go.RowKit Go.Proofs.YtlokkefnbffjnaaDoor.J Go.Proofs.YtlokkefnbffjnaaDoorW.PrintWords Go.Proofs.YtlokkefnbffjnaaDoorW.PrintLast
set_option linter.unusedVariables false
set_option linter.unusedSimpArgs false
theorem hxd_hexv : ∀ n : Fin 256, hxd ((n.val : Nat) : Int) = hexv ((n.val : Nat) : Int) := by decide +kernel
theorem hxd_of (b : UInt8) : hxd (b.toNat : Int) = hexv (b.toNat : Int) := hxd_hexv ⟨b.toNat, b.toNat_lt⟩
theorem hxs_none : ∀ (l : List UInt8) (a : Int), (hxs a l).isSome = l.all fun b => (hexv (b.toNat : Int)).isSome
 | [], _ => rfl
 | b :: r, a => by
  rw [hxs, hxd_of, List.all_cons]
  cases h : hexv (b.toNat : Int) with
  | none => rfl
  | some v => simp only [Option.bind_some, hxs_none r, Option.isSome_some, Bool.true_and]
theorem all_of (s : ByteArray) : (s.data.toList.all fun b => (hexv (b.toNat : Int)).isSome) = (bytesOf s).all fun c => (hexv c).isSome := by
 unfold bytesOf
 rw [List.all_map]
 rfl
theorem hex4_all {a b c d : Int} (l : List Int) : (hex4 (a :: b :: c :: d :: l)).isSome = [a, b, c, d].all fun x => (hexv x).isSome := by
 rw [hex4]
 simp only [List.all_cons, List.all_nil]
 cases hexv a <;> cases hexv b <;> cases hexv c <;> cases hexv d <;> rfl
theorem pu_eq {x : ByteArray} {a b c d : Int} {r : List Int} (h : bytesOf x = a :: b :: c :: d :: r) :
 ∃ v : Int, strconv_ParseUint_55.f (x.extract 0 4) 16 16 = some (v, if (hex4 (a :: b :: c :: d :: r)).isSome = true then none else some 0) := by
 have hz := sz_of h
 simp only [List.length_cons] at hz
 have hsz : (x.extract 0 4).size = 4 := by rw [ByteArray.size_extract]; omega
 have hb : bytesOf (x.extract 0 4) = [a, b, c, d] := take_of (a := [a, b, c, d]) (b := r) (n := 4) h rfl
 have he : (hxs 0 (x.extract 0 4).data.toList).isSome = (hex4 (a :: b :: c :: d :: r)).isSome := by
  rw [hxs_none, all_of, hb, hex4_all]
 unfold strconv_ParseUint_55.f
 rw [if_neg (by simp), if_pos ⟨rfl, rfl, hsz⟩, ← he]
 cases hxs 0 (x.extract 0 4).data.toList with
 | none => exact ⟨_, rfl⟩
 | some v => exact ⟨_, rfl⟩
def LT (g : Nat → Option (ByteArray × ByteArray × Option Int)) (y : ByteArray) (o : Option Bool) : Prop :=
  match o with
  | some b => ∃ z, (anyLow (bytesOf z) = b ∧ z.size ≤ 2147483647) ∧ Ev g (z, y, none)
  | none => ∃ z q, Ev g (z, y, some q)
theorem LT.sh {g : Nat → Option (ByteArray × ByteArray × Option Int)} {y : ByteArray} {o : Option Bool} (h : LT (fun k => g (k + 1)) y o) : LT g y o := by
 cases o with
 | none => obtain ⟨z, q, hz⟩ := h; exact ⟨z, q, Ev_sh hz⟩
 | some x => obtain ⟨z, h1, hz⟩ := h; exact ⟨z, h1, Ev_sh hz⟩
theorem LT.congr {g f : Nat → Option (ByteArray × ByteArray × Option Int)} {y : ByteArray} {o : Option Bool} (e : ∀ k, g k = f k) (h : LT f y o) : LT g y o := by
 have : g = f := funext e
 rw [this]
 exact h
theorem LT.err {g : Nat → Option (ByteArray × ByteArray × Option Int)} {z y : ByteArray} {q : Int} (e : ∀ k, g k = some (z, y, some q)) : LT g y none := ⟨z, q, Ev.congr e (Ev.now _)⟩
theorem LT.ok {g : Nat → Option (ByteArray × ByteArray × Option Int)} {z y : ByteArray} {b : Bool} (hz : anyLow (bytesOf z) = b ∧ z.size ≤ 2147483647) (e : ∀ k, g k = some (z, y, none)) : LT g y (some b) := ⟨z, hz, Ev.congr e (Ev.now _)⟩
theorem LT.bnd {α : Type} {g : Nat → Option α} {f : Nat → α → Option (ByteArray × ByteArray × Option Int)} {y : ByteArray} {o : Option Bool} {t : α} (e : ∀ k, g k = some t) (h : LT (fun k => f k t) y o) : LT (fun k => (g k).bind (f k)) y o :=
 LT.congr (fun k => by rw [e k]; rfl) h
theorem escS {s : ByteArray} (hs : s.size ≤ 2147483647) {y : ByteArray} {d : Int} {r : List Int} (hb : bytesOf s = r)
 (ih : ∀ t : ByteArray, t.size ≤ s.size → LT (fun k => fastjson_validateString.l0 k t y) y (lowS false (bytesOf t))) (hd : isE d = false) :
 LT (fun k => fastjson_validateString.j2 k s y d (d == 116)) y ((escL (d :: r)).bind (lowS false)) := by
 have hz := sz_of hb
 refine LT.sh ?_
 have h116 : (d == 116) = false := by
  unfold isE at hd
  simp only [decide_eq_false_iff_not, not_or] at hd
  simp only [beq_eq_false_iff_ne, ne_eq]
  exact hd.2.2.2.2.2.2.2
 simp only [fastjson_validateString.j2, errors_New.f, Option.bind_some]
 rw [h116, escL, if_neg (by simp [hd])]
 refine LT.congr (fun _ => if_neg zq49) ?_
 by_cases hu : d = 117
 rotate_left
 ·rw [if_neg hu]
  exact LT.congr (fun _ => if_neg hu) (LT.err (fun _ => rfl))
 rw [if_pos hu]
 refine LT.congr (fun _ => if_pos hu) ?_
 match r, hb, hz with
 | a :: b :: c :: e :: r', hb, hz =>
  simp only [List.length_cons] at hz
  obtain ⟨v, hv⟩ := pu_eq hb
  rw [hv]
  simp only [Option.bind_some]
  refine LT.congr (fun _ => if_neg (by omega)) (LT.congr (fun _ => if_pos (by omega)) (LT.congr (fun _ => if_pos (by omega)) ?_))
  cases hh : hex4 (a :: b :: c :: e :: r') with
  | none =>
   simp only [Option.bind_none]
   exact LT.congr (fun _ => if_neg (by simp)) (LT.err (fun _ => rfl))
  | some w =>
   simp only [Option.bind_some, List.drop_succ_cons, List.drop_zero]
   have hc : bytesOf (s.extract 4 s.size) = r' := rest_of (a := [a, b, c, e]) hb rfl
   have := ih (s.extract 4 s.size) (by rw [ByteArray.size_extract]; omega)
   rw [hc] at this
   exact LT.congr (fun _ => if_pos (by simp)) this
 | [], hb, hz => exact LT.congr (fun _ => if_pos zq66) (LT.err (fun _ => rfl))
 | [_], hb, hz => exact LT.congr (fun _ => if_pos zq66) (LT.err (fun _ => rfl))
 | [_, _], hb, hz => exact LT.congr (fun _ => if_pos zq66) (LT.err (fun _ => rfl))
 | [_, _, _], hb, hz => exact LT.congr (fun _ => if_pos zq66) (LT.err (fun _ => rfl))
theorem escE {s : ByteArray} {y : ByteArray} {d : Int} {b : Bool} {r : List Int} (hb : bytesOf s = r)
 (ih : ∀ t : ByteArray, t.size ≤ s.size → LT (fun k => fastjson_validateString.l0 k t y) y (lowS false (bytesOf t))) (hd : isE d = true) (he : b = true) :
 LT (fun k => fastjson_validateString.j2 k s y d b) y ((escL (d :: r)).bind (lowS false)) := by
 refine LT.sh ?_
 subst he
 simp only [fastjson_validateString.j2, if_true]
 rw [escL, if_pos hd, Option.bind_some, ← hb]
 exact ih s (Nat.le_refl _)
theorem escA {s : ByteArray} (hs : s.size ≤ 2147483647) {y : ByteArray} {d : Int} {r : List Int} (hc : bytesOf s = r)
 (ih' : ∀ t : ByteArray, t.size ≤ s.size → LT (fun k => fastjson_validateString.l0 k t y) y (lowS false (bytesOf t))) :
 LT (fun k => if d = 34 then (fastjson_validateString.j2 k s y d (d == 34)) else (if d = 92 then (fastjson_validateString.j2 k s y d (d == 92)) else (if d = 47 then (fastjson_validateString.j2 k s y d (d == 47)) else (if d = 98 then (fastjson_validateString.j2 k s y d (d == 98)) else (if d = 102 then (fastjson_validateString.j2 k s y d (d == 102)) else (if d = 110 then (fastjson_validateString.j2 k s y d (d == 110)) else (if d = 114 then (fastjson_validateString.j2 k s y d (d == 114)) else (fastjson_validateString.j2 k s y d (d == 116))))))))) y ((escL (d :: r)).bind (lowS false)) := by
 by_cases k1 : d = 34
 ·exact LT.congr (fun _ => if_pos k1) (escE hc ih' (by subst k1; decide) (by subst k1; decide))
 refine LT.congr (fun _ => if_neg k1) ?_
 by_cases k2 : d = 92
 ·exact LT.congr (fun _ => if_pos k2) (escE hc ih' (by subst k2; decide) (by subst k2; decide))
 refine LT.congr (fun _ => if_neg k2) ?_
 by_cases k3 : d = 47
 ·exact LT.congr (fun _ => if_pos k3) (escE hc ih' (by subst k3; decide) (by subst k3; decide))
 refine LT.congr (fun _ => if_neg k3) ?_
 by_cases k4 : d = 98
 ·exact LT.congr (fun _ => if_pos k4) (escE hc ih' (by subst k4; decide) (by subst k4; decide))
 refine LT.congr (fun _ => if_neg k4) ?_
 by_cases k5 : d = 102
 ·exact LT.congr (fun _ => if_pos k5) (escE hc ih' (by subst k5; decide) (by subst k5; decide))
 refine LT.congr (fun _ => if_neg k5) ?_
 by_cases k6 : d = 110
 ·exact LT.congr (fun _ => if_pos k6) (escE hc ih' (by subst k6; decide) (by subst k6; decide))
 refine LT.congr (fun _ => if_neg k6) ?_
 by_cases k7 : d = 114
 ·exact LT.congr (fun _ => if_pos k7) (escE hc ih' (by subst k7; decide) (by subst k7; decide))
 refine LT.congr (fun _ => if_neg k7) ?_
 by_cases k8 : d = 116
 ·exact escE hc ih' (by subst k8; decide) (by subst k8; decide)
 exact escS hs hc ih' (by simp [isE, k1, k2, k3, k4, k5, k6, k7, k8])
theorem low_loop {y : ByteArray} : ∀ (n : Nat) (s : ByteArray), s.size ≤ n → s.size ≤ 2147483647 → LT (fun k => fastjson_validateString.l0 k s y) y (lowS false (bytesOf s)) := by
 intro n
 induction n with
 | zero =>
  intro s hn hs
  have : bytesOf s = [] := List.length_eq_zero_iff.mp (by rw [bytesOf_length]; omega)
  rw [this, lowS_nil]
  refine LT.sh ?_
  simp only [fastjson_validateString.l0]
  rcases idx s 92 (by omega) with ⟨p, r, e1, e2, e3⟩ | ⟨e1, e2⟩
  ·rw [this] at e1
   have := congrArg List.length e1
   simp at this
  ·rw [e2]
   simp only [Option.bind_some]
   exact LT.congr (fun _ => if_pos (by omega)) (LT.ok ⟨by rw [this]; rfl, hs⟩ (fun _ => rfl))
 | succ n ih =>
  intro s hn hs
  refine LT.sh ?_
  simp only [fastjson_validateString.l0, errors_New.f]
  rcases idx s 92 (by omega) with ⟨p, r, e1, e2, e3⟩ | ⟨e1, e2⟩
  ·have hz := sz_of e1
   simp only [List.length_append, List.length_cons] at hz
   rw [e1, lowS_first false r e2]
   refine LT.bnd (fun _ => e3) ?_
   have w1 : wrap64 ((p.length : Int) + 1) = ((p.length + 1 : Nat) : Int) := by rw [w64 (by omega)]; omega
   have w2 : wrap64 (((p.length + 1 : Nat) : Int) + 1) = ((p.length + 2 : Nat) : Int) := by rw [w64 (by omega)]; omega
   rw [w1, w2]
   refine LT.congr (fun _ => if_neg (by omega)) ?_
   match r, e1, hz with
   | [], e1, hz => exact LT.congr (fun _ => if_pos (by simp only [List.length_nil] at hz; omega)) (LT.err (fun _ => rfl))
   | d :: r', e1, hz =>
    simp only [List.length_cons] at hz
    have hbt : bt s ((p.length + 1 : Nat) : Int) = d := by
     have := bt_mid (s := s) (p := p ++ [92]) (c := d) (r := r') (by rw [e1]; simp)
     simpa using this
    rw [hbt]
    have hc : bytesOf (s.extract (p.length + 2) s.size) = r' := rest_of (a := p ++ [92, d]) (by rw [e1]; simp) (by simp)
    have hcz : (s.extract (p.length + 2) s.size).size ≤ n ∧ (s.extract (p.length + 2) s.size).size ≤ 2147483647 := by rw [ByteArray.size_extract]; omega
    simp only [Int.toNat_natCast]
    generalize s.extract (p.length + 2) s.size = s' at hc hcz
    have ih' : ∀ t : ByteArray, t.size ≤ s'.size → LT (fun k => fastjson_validateString.l0 k t y) y (lowS false (bytesOf t)) := fun t ht => ih t (by omega) (by omega)
    refine LT.congr (fun _ => if_neg (by omega)) (LT.congr (fun _ => if_pos (by omega)) (LT.congr (fun _ => if_pos (by omega)) (LT.congr (fun _ => if_pos (by omega)) (LT.congr (fun _ => if_pos (by omega)) ?_))))
    exact escA (by omega) hc ih'
  ·rw [e2, lowS_no false e1]
   simp only [Option.bind_some]
   exact LT.congr (fun _ => if_pos (by omega)) (LT.ok ⟨by simp, hs⟩ (fun _ => rfl))
def ST (g : Nat → Option (ByteArray × ByteArray × Option Int)) (o : Option (List Int × List Int)) : Prop :=
  match o.bind (fun x => (lowS false x.1).map fun b => (b, x.2)) with
  | some x => ∃ z y, (anyLow (bytesOf z) = x.1 ∧ z.size ≤ 2147483647) ∧ bytesOf y = x.2 ∧ Ev g (z, y, none)
  | none => ∃ z y q, Ev g (z, y, some q)
theorem str_eq {s : ByteArray} (hs : s.size ≤ 2147483647) : ST (fun k => fastjson_validateString.f k s) (rawL (bytesOf s)) := by
 have slow : ST (fun k => fastjson_validateString.j0 k s ((-1 : Int)) false) (rawL (bytesOf s)) ∧ ∀ x, ST (fun k => fastjson_validateString.j0 k s x false) (rawL (bytesOf s)) := by
  have h : ∀ x, ST (fun k => fastjson_validateString.j0 k s x false) (rawL (bytesOf s)) := fun x => by
   have h1 := raw_eq hs
   unfold ST
   cases hr : rawL (bytesOf s) with
   | none =>
    rw [hr] at h1
    obtain ⟨z, y, q, hz⟩ := h1
    refine ⟨z, y, q, Ev_sh ?_⟩
    simp only [fastjson_validateString.j0]
    exact Ev.congr (fun _ => if_neg zq49) (Ev.bind hz (Ev.congr (fun _ => if_neg (by simp)) (Ev.now _)))
   | some o =>
    rw [hr] at h1
    obtain ⟨z, y, hz, hy, he⟩ := h1
    have hzz := rawL_eq _ _ _ _ (Nat.le_refl _) hr
    have hsz := sz_of hzz
    simp only [List.length_append] at hsz
    have hz2 := sz_of hz
    have h2 := low_loop (y := y) z.size z (Nat.le_refl _) (by omega)
    rw [hz] at h2
    simp only [Option.bind_some]
    cases hl : lowS false o.1 with
    | none =>
     rw [hl] at h2
     obtain ⟨z', q, h3⟩ := h2
     refine ⟨z', y, q, Ev_sh ?_⟩
     simp only [fastjson_validateString.j0]
     exact Ev.congr (fun _ => if_neg zq49) (Ev.bind he (Ev.congr (fun _ => if_pos (by simp)) h3))
    | some b =>
     rw [hl] at h2
     obtain ⟨z', h4, h3⟩ := h2
     refine ⟨z', y, h4, hy, Ev_sh ?_⟩
     simp only [fastjson_validateString.j0]
     exact Ev.congr (fun _ => if_neg zq49) (Ev.bind he (Ev.congr (fun _ => if_pos (by simp)) h3))
  exact ⟨h _, h⟩
 simp only [fastjson_validateString.f]
 rcases idx s 34 (by omega) with ⟨p, r, e1, e2, e3⟩ | ⟨e1, e2⟩
 ·have hz := sz_of e1
  simp only [List.length_append, List.length_cons] at hz
  rw [e3]
  simp only [Option.bind_some, Int.toNat_natCast]
  have hp : bytesOf (s.extract 0 p.length) = p := take_of e1 rfl
  rcases idx (s.extract 0 p.length) 92 (by omega) with ⟨p', r', g1, g2, g3⟩ | ⟨g1, g2⟩
  ·rw [g3]
   simp only [Option.bind_some]
   have e : (decide ((p'.length : Int) < 0)) = false := decide_eq_false (by omega)
   rw [e]
   have h := slow.2 (p.length : Int)
   have hc : (fun k => if (p.length : Int) ≥ 0 then (if 0 ≤ (p.length : Int) then (if (p.length : Int) ≤ (s.size : Int) then (fastjson_validateString.j0 k s (p.length : Int) false) else (none)) else (none)) else (fastjson_validateString.j0 k s (p.length : Int) false)) = fun k => fastjson_validateString.j0 k s (p.length : Int) false := by
    funext k
    rw [if_pos (by omega), if_pos (by omega), if_pos (by omega)]
   rw [hc]
   exact h
  ·rw [g2]
   simp only [Option.bind_some]
   have hn : 92 ∉ p := by rw [← hp]; exact g1
   have hr : rawL (bytesOf s) = some (p, r) := by rw [e1, rawL_split r _ p (Nat.le_refl _) e2, if_pos (par_no hn)]
   have hy : bytesOf (s.extract (p.length + 1) s.size) = r := rest_of (a := p ++ [34]) (by rw [e1]; simp) (by simp)
   unfold ST
   rw [hr]
   simp only [Option.bind_some, lowS_no false hn, Option.map_some, Bool.false_or]
   refine ⟨s.extract 0 p.length, s.extract (p.length + 1) s.size, ⟨by rw [hp], by rw [ByteArray.size_extract]; omega⟩, hy, ?_⟩
   refine Ev.congr (fun _ => if_pos (by omega)) (Ev.congr (fun _ => if_pos (by omega)) (Ev.congr (fun _ => if_pos (by omega)) (Ev_sh ?_)))
   simp only [fastjson_validateString.j0]
   have hw : wrap64 ((p.length : Int) + 1) = ((p.length + 1 : Nat) : Int) := by rw [w64 (by omega)]; omega
   rw [hw]
   refine Ev.congr (fun _ => if_pos zq49) (Ev.congr (fun _ => if_pos (by omega)) (Ev.congr (fun _ => if_pos (by omega)) (Ev.congr (fun _ => if_pos (by omega)) (Ev.congr (fun _ => if_pos (by omega)) ?_))))
   simp only [Int.toNat_natCast]
   exact Ev.now _
 ·rw [e2]
  simp only [Option.bind_some]
  have hc : (fun k => if (-1 : Int) ≥ 0 then (if 0 ≤ (-1 : Int) then (if (-1 : Int) ≤ (s.size : Int) then ((strings_IndexByte.f (s.extract 0 ((-1 : Int)).toNat) 92).bind fun t102 => (fastjson_validateString.j0 k s (-1) (decide (t102 < 0)))) else (none)) else (none)) else (fastjson_validateString.j0 k s (-1) false)) = fun k => fastjson_validateString.j0 k s (-1) false := by
   funext k
   rw [if_neg (by omega)]
  rw [hc]
  exact slow.1
theorem key_eq {s : ByteArray} (hs : s.size ≤ 2147483647) : ST (fun k => fastjson_validateKey.f k s) (rawL (bytesOf s)) := by
 have loop : ∀ (l p : List Int), bytesOf s = p ++ l → 34 ∉ p → 92 ∉ p → ST (fun k => fastjson_validateKey.l0 k s (s.size : Int) (p.length : Int)) (rawL (bytesOf s)) := by
  intro l
  induction l with
  | nil =>
   intro p hp h34 h92
   have hz := sz_of hp
   simp only [List.length_append, List.length_nil] at hz
   unfold ST
   rw [hp, List.append_nil, rawL_noq _ _ (Nat.le_refl _) h34]
   refine ⟨(⟨#[]⟩ : ByteArray), s, 0, Ev_sh ?_⟩
   simp only [fastjson_validateKey.l0, errors_New.f, Option.bind_some]
   exact Ev.congr (fun _ => if_neg (by omega)) (Ev.now _)
  | cons c r ih =>
   intro p hp h34 h92
   have hz := sz_of hp
   simp only [List.length_append, List.length_cons] at hz
   have hbt : bt s (p.length : Int) = c := bt_mid hp
   have hw : wrap64 ((p.length : Int) + 1) = ((p.length + 1 : Nat) : Int) := by rw [w64 (by omega)]; omega
   by_cases h1 : c = 34
   ·subst h1
    have hr : rawL (bytesOf s) = some (p, r) := by rw [hp, rawL_split r _ p (Nat.le_refl _) h34, if_pos (par_no h92)]
    unfold ST
    rw [hr]
    simp only [Option.bind_some, lowS_no false h92, Option.map_some, Bool.false_or]
    refine ⟨s.extract 0 p.length, s.extract (p.length + 1) s.size, ⟨by rw [take_of hp rfl], by rw [ByteArray.size_extract]; omega⟩, rest_of (a := p ++ [34]) (by rw [hp]; simp) (by simp), Ev_sh ?_⟩
    simp only [fastjson_validateKey.l0, hbt, hw]
    refine Ev.congr (fun _ => if_pos (by omega)) (Ev.congr (fun _ => if_pos (by omega)) (Ev.congr (fun _ => if_pos (by omega)) (Ev.congr (fun _ => if_pos trivial) (Ev.congr (fun _ => if_pos (by omega)) (Ev.congr (fun _ => if_pos (by omega)) (Ev.congr (fun _ => if_pos (by omega)) ?_))))))
    simp only [Int.toNat_natCast]
    exact Ev.now _
   by_cases h2 : c = 92
   ·have h3 := str_eq hs
    unfold ST at h3 ⊢
    generalize (rawL (bytesOf s)).bind (fun x => (lowS false x.1).map fun b => (b, x.2)) = o at h3 ⊢
    have hgo : ∀ R, Ev (fun k => fastjson_validateString.f k s) R → Ev (fun k => fastjson_validateKey.l0 k s (s.size : Int) (p.length : Int)) R := fun R hR => by
     refine Ev_sh ?_
     simp only [fastjson_validateKey.l0, hbt]
     exact Ev.congr (fun _ => if_pos (by omega)) (Ev.congr (fun _ => if_pos (by omega)) (Ev.congr (fun _ => if_pos (by omega)) (Ev.congr (fun _ => if_neg h1) (Ev.congr (fun _ => if_pos h2) (Ev.bind hR (Ev.now _))))))
    cases o with
    | none => obtain ⟨z, y, q, hz⟩ := h3; exact ⟨z, y, q, hgo _ hz⟩
    | some x => obtain ⟨z, y, g1, g2, hz⟩ := h3; exact ⟨z, y, g1, g2, hgo _ hz⟩
   have h3 := ih (p ++ [c]) (by rw [hp]; simp) (by simp [h34, Ne.symm h1]) (by simp [h92, Ne.symm h2])
   unfold ST at h3 ⊢
   generalize (rawL (bytesOf s)).bind (fun x => (lowS false x.1).map fun b => (b, x.2)) = o at h3 ⊢
   have hgo : ∀ R, Ev (fun k => fastjson_validateKey.l0 k s (s.size : Int) ((p ++ [c]).length : Int)) R → Ev (fun k => fastjson_validateKey.l0 k s (s.size : Int) (p.length : Int)) R := fun R hR => by
    refine Ev_sh ?_
    simp only [fastjson_validateKey.l0, hbt, hw]
    rw [List.length_append, List.length_singleton] at hR
    exact Ev.congr (fun _ => if_pos (by omega)) (Ev.congr (fun _ => if_pos (by omega)) (Ev.congr (fun _ => if_pos (by omega)) (Ev.congr (fun _ => if_neg h1) (Ev.congr (fun _ => if_neg h2) hR))))
   cases o with
   | none => obtain ⟨z, y, q, hz⟩ := h3; exact ⟨z, y, q, hgo _ hz⟩
   | some x => obtain ⟨z, y, g1, g2, hz⟩ := h3; exact ⟨z, y, g1, g2, hgo _ hz⟩
 exact loop (bytesOf s) [] rfl (by simp) (by simp)
end Go.Proofs.YtlokkefnbffjnaaDoor.J
end
section
namespace Go.Proofs.YtlokkefnbffjnaaDoor.J
open Go.RowKit Go.Proofs.YtlokkefnbffjnaaDoor.J Go.Proofs.YtlokkefnbffjnaaDoorW.PrintWords Go.Proofs.YtlokkefnbffjnaaDoorW.PrintLast

theorem hexDigit_eq {c : Int} (h : 0 ≤ c ∧ c ≤ 255) : Ev (fun k => spec_hexDigit.f k c) ((hexv c).getD 0, (hexv c).isSome) := by
 refine ⟨2, fun k hk => ?_⟩
 obtain ⟨k, rfl⟩ : ∃ m, k = m + 2 := ⟨k - 2, by omega⟩
 unfold spec_hexDigit.f hexv
 simp only [spec_hexDigit.j0, spec_hexDigit.j1]
 by_cases h1 : 48 ≤ c ∧ c ≤ 57
 ·rw [if_pos h1.1, if_pos zq71, if_pos h1]
  simp; omega
 rw [if_neg h1]
 have key : (if 97 ≤ c then (if decide (c ≤ 102) = true then some ((c - 97) % 256 + 10, true) else if 65 ≤ c then if c ≤ 70 then some ((c - 65) % 256 + 10, true) else some (0, false) else some (0, false))
  else (if false = true then some ((c - 97) % 256 + 10, true) else if 65 ≤ c then if c ≤ 70 then some ((c - 65) % 256 + 10, true) else some (0, false) else some (0, false))) =
  some (((if 97 ≤ c ∧ c ≤ 102 then some (c - 87) else if 65 ≤ c ∧ c ≤ 70 then some (c - 55) else none : Option Int).getD 0, (if 97 ≤ c ∧ c ≤ 102 then some (c - 87) else if 65 ≤ c ∧ c ≤ 70 then some (c - 55) else none : Option Int).isSome)) := by
  by_cases h2 : 97 ≤ c ∧ c ≤ 102
  ·rw [if_pos h2.1, if_pos zq71, if_pos h2]
   simp; omega
  rw [if_neg h2]
  by_cases h3 : 65 ≤ c ∧ c ≤ 70
  ·rw [if_neg (by omega), if_neg (by simp), if_pos h3.1, if_pos h3.2, if_pos h3]
   simp; omega
  rw [if_neg h3]
  by_cases h4 : 97 ≤ c
  ·rw [if_pos h4, if_neg zq71, if_pos (by omega), if_neg (by omega)]
   rfl
  rw [if_neg h4, if_neg (by simp)]
  by_cases h5 : 65 ≤ c
  rotate_left
  ·rw [if_neg h5]
   rfl
  rw [if_pos h5, if_neg (by omega)]
  rfl
 by_cases h6 : 48 ≤ c
 rotate_left
 ·rw [if_neg h6, if_neg (by simp)]
  exact key
 rw [if_pos h6, if_neg zq71]
 exact key
theorem here_cons {s : ByteArray} {i : Nat} {a : Int} {l : List Int} (h : From s i (a :: l)) : spec_reader_here.f s (i : Int) = some (a, s, (i : Int)) := by
 have := h.lt
 unfold spec_reader_here.f
 rw [if_pos (by omega), if_pos (by omega), h.bt]
theorem here_nil {s : ByteArray} {i : Nat} (h : From s i []) : spec_reader_here.f s (i : Int) = some (0, s, (i : Int)) := by
 have := h.nil
 unfold spec_reader_here.f
 rw [if_neg (by omega)]
theorem up {i n : Nat} (k : Nat) (h : i ≤ n) (hn : n ≤ 140737488351232) (hk : k ≤ 100) : wrap64 ((i : Int) + (k : Int)) = ((i + k : Nat) : Int) := by
 rw [w64 (by omega)]; omega
theorem up1 {i n : Nat} (h : i ≤ n) (hn : n ≤ 140737488351232) : wrap64 ((i : Int) + 1) = ((i + 1 : Nat) : Int) := up 1 h hn (by omega)
def hexs : Nat → List Int → Bool
  | 0, _ => true
  | _ + 1, [] => false
  | n + 1, a :: r => (hexv a).isSome && hexs n r
theorem hex4_hexs (l : List Int) : (hex4 l).isSome = hexs 4 l := by
 match l with
 | [] => rfl
 | [a] => simp [hex4, hexs]
 | [a, b] => simp [hex4, hexs]
 | [a, b, c] => simp [hex4, hexs]
 | a :: b :: c :: d :: r =>
  simp only [hex4, hexs]
  cases hexv a <;> cases hexv b <;> cases hexv c <;> cases hexv d <;> rfl
section
variable {s : ByteArray} (hs : s.size ≤ 140737488351232)
include hs
theorem esc_l0 : ∀ (n : Nat) (i : Nat) (l : List Int), n ≤ 4 → From s i l →
 (hexs n l = true → Ev (fun k => spec_reader_escape.l0 k (((4 - n : Nat) : Int)) s i) (true, s, ((i + n : Nat) : Int))) ∧
 (hexs n l = false → ∃ p, Ev (fun k => spec_reader_escape.l0 k (((4 - n : Nat) : Int)) s i) (false, s, p))
 | 0, i, l, _, h => ⟨fun _ => Ev.step (f := fun _ => some (true, s, (i : Int))) (fun k => by simp only [spec_reader_escape.l0]; rw [if_neg (by omega)]) (Ev.now _), fun h => by simp [hexs] at h⟩
 | n + 1, i, [], hn, h => by
  refine ⟨fun e => by simp [hexs] at e, fun _ => ⟨(i : Int), ?_⟩⟩
  refine Ev.step (f := fun k => (spec_hexDigit.f k 0).bind fun bt107 => (if bt107.2 = true then (spec_reader_escape.l0 k (wrap64 ((((4 - (n + 1) : Nat) : Int)) + 1)) s (wrap64 ((i : Int) + 1))) else some (false, s, (i : Int)))) (fun k => ?_) (Ev.bind (hexDigit_eq (by omega)) (Ev.congr (fun k => if_neg (by simp [hexv])) (Ev.now _)))
  simp only [spec_reader_escape.l0]
  rw [if_pos (by omega), here_nil h]
  rfl
 | n + 1, i, a :: l, hn, h => by
  have ih := esc_l0 n (i + 1) l (by omega) h.tail
  have e1 : wrap64 ((((4 - (n + 1) : Nat) : Int)) + 1) = (((4 - n : Nat) : Int)) := by rw [w64 (by omega)]; omega
  have e2 := up1 (Nat.le_of_lt h.lt) hs
  have st : ∀ R, Ev (fun k => if (hexv a).isSome = true then (spec_reader_escape.l0 k (((4 - n : Nat) : Int)) s ((i + 1 : Nat) : Int)) else some (false, s, (i : Int))) R → Ev (fun k => spec_reader_escape.l0 k (((4 - (n + 1) : Nat) : Int)) s i) R := fun R hR => by
   refine Ev.step (f := fun k => (spec_hexDigit.f k a).bind fun bt107 => (if bt107.2 = true then (spec_reader_escape.l0 k (((4 - n : Nat) : Int)) s ((i + 1 : Nat) : Int)) else some (false, s, (i : Int)))) (fun k => ?_) (Ev.bind (hexDigit_eq h.head) hR)
   simp only [spec_reader_escape.l0]
   rw [if_pos (by omega), here_cons h, e1]
   simp only [Option.bind_some, e2]
  by_cases ha : (hexv a).isSome = true
  rotate_left
  ·exact ⟨fun e => by simp [hexs, ha] at e, fun _ => ⟨_, st _ (Ev.congr (fun k => if_neg ha) (Ev.now _))⟩⟩
  refine ⟨fun e => ?_, fun e => ?_⟩
  ·simp only [hexs, Bool.and_eq_true] at e
   have := st _ (Ev.congr (fun k => if_pos ha) (ih.1 e.2))
   rwa [show i + 1 + n = i + (n + 1) by omega] at this
  ·rw [hexs, ha, Bool.true_and] at e
   obtain ⟨p, hp⟩ := ih.2 e
   exact ⟨p, st _ (Ev.congr (fun k => if_pos ha) hp)⟩
theorem escape_eq {i : Nat} {l : List Int} (h : From s i l) :
 (∀ r, escL l = some r → Ev (fun k => spec_reader_escape.f k s i) (true, s, ((s.size - r.length : Nat) : Int))) ∧
 (escL l = none → ∃ p, Ev (fun k => spec_reader_escape.f k s i) (false, s, p)) := by
 have j0 : ∀ a x, x = isE a → Ev (fun k => spec_reader_escape.j0 k a x s i) = Ev (fun k => if isE a = true then some (true, s, wrap64 ((i : Int) + 1)) else if a = 117 then spec_reader_escape.l0 (k - 1) 0 s (wrap64 ((i : Int) + 1)) else some (false, s, (i : Int))) := by
  intro a x e
  subst e
  funext R
  apply propext
  constructor
  ·rintro ⟨K, hK⟩
   refine ⟨K + 1, fun k hk => ?_⟩
   obtain ⟨k, rfl⟩ : ∃ m, k = m + 1 := ⟨k - 1, by omega⟩
   have := hK (k + 1) (by omega)
   simpa only [spec_reader_escape.j0, Nat.add_sub_cancel] using this
  ·rintro ⟨K, hK⟩
   refine ⟨K + 1, fun k hk => ?_⟩
   obtain ⟨k, rfl⟩ : ∃ m, k = m + 1 := ⟨k - 1, by omega⟩
   have := hK (k + 1) (by omega)
   simpa only [spec_reader_escape.j0, Nat.add_sub_cancel] using this
 have sh : ∀ {g : Nat → Option (Bool × ByteArray × Int)} {R}, Ev g R → Ev (fun k => g (k - 1)) R := by
  rintro g R ⟨K, hK⟩
  exact ⟨K + 1, fun k hk => hK _ (by omega)⟩
 match l, h with
 | [], h =>
  refine ⟨fun r hr => by simp [escL] at hr, fun _ => ⟨(i : Int), ?_⟩⟩
  refine Ev.congr (f := fun k => spec_reader_escape.j0 k 0 ((0 : Int) == 116) s i) (fun k => ?_) ?_
  ·unfold spec_reader_escape.f
   rw [here_nil h]
   rfl
  ·rw [j0 0 _ zq49]
   exact Ev.congr (fun k => by rw [if_neg zq49, if_neg zq49]) (Ev.now _)
 | a :: l, h =>
  have e2 := up1 (Nat.le_of_lt h.lt) hs
  have hl := h.len
  simp only [List.length_cons] at hl
  have key : Ev (fun k => spec_reader_escape.f k s i) = Ev (fun k => spec_reader_escape.j0 k a (isE a) s i) := by
   congr 1
   funext k
   unfold spec_reader_escape.f
   rw [here_cons h]
   simp only [Option.bind_some, isE]
   by_cases h1 : a = 34
   ·rw [if_pos h1, h1]; rfl
   rw [if_neg h1]
   by_cases h2 : a = 92
   ·rw [if_pos h2, h2]; rfl
   rw [if_neg h2]
   by_cases h3 : a = 47
   ·rw [if_pos h3, h3]; rfl
   rw [if_neg h3]
   by_cases h4 : a = 98
   ·rw [if_pos h4, h4]; rfl
   rw [if_neg h4]
   by_cases h5 : a = 102
   ·rw [if_pos h5, h5]; rfl
   rw [if_neg h5]
   by_cases h6 : a = 110
   ·rw [if_pos h6, h6]; rfl
   rw [if_neg h6]
   by_cases h7 : a = 114
   ·rw [if_pos h7, h7]; rfl
   rw [if_neg h7]
   congr 1
   rw [Bool.eq_iff_iff]
   simp
   omega
  rw [key, j0 a _ rfl]
  by_cases h1 : isE a = true
  ·refine ⟨fun r hr => ?_, fun hr => (by rw [escL_let _ h1] at hr; cases hr)⟩
   rw [escL_let _ h1] at hr
   cases hr
   refine Ev.congr (fun k => if_pos h1) (Ev_same (Ev.now _) ?_)
   rw [e2, show i + 1 = s.size - l.length by omega]
  by_cases h2 : a = 117
  rotate_left
  ·refine ⟨fun r hr => (by rw [escL, if_neg h1, if_neg h2] at hr; cases hr), fun _ => ⟨(i : Int), Ev.congr (fun k => by rw [if_neg h1, if_neg h2]) (Ev.now _)⟩⟩
  subst h2
  have hh := esc_l0 hs 4 (i + 1) l (by omega) h.tail
  refine ⟨fun r hr => ?_, fun hr => ?_⟩
  ·rw [escL, if_neg h1, if_pos rfl] at hr
   obtain ⟨v, hv, hr⟩ := Option.bind_eq_some_iff.mp hr
   cases hr
   have h4 : hexs 4 l = true := by rw [← hex4_hexs, hv]; rfl
   have hlen := hex4_len hv
   refine Ev.congr (f := fun k => spec_reader_escape.l0 (k - 1) 0 s ((i + 1 : Nat) : Int)) (fun k => by rw [if_neg h1, if_pos rfl, e2]) (Ev_same (sh (hh.1 h4)) ?_)
   rw [show i + 1 + 4 = s.size - (l.drop 4).length by rw [List.length_drop]; omega]
  ·rw [escL, if_neg h1, if_pos rfl] at hr
   have h4 : hexs 4 l = false := by
    rw [← hex4_hexs]
    cases hv : hex4 l with
    | none => rfl
    | some v => rw [hv] at hr; cases hr
   obtain ⟨p, hp⟩ := hh.2 h4
   exact ⟨p, Ev.congr (f := fun k => spec_reader_escape.l0 (k - 1) 0 s ((i + 1 : Nat) : Int)) (fun k => by rw [if_neg h1, if_pos rfl, e2]) (sh hp)⟩
theorem quoted_l0 : ∀ (n i : Nat) (l : List Int), l.length ≤ n → From s i l →
 (∀ r, strL l = some r → Ev (fun k => spec_reader_quoted.l0 k s i) (true, s, ((s.size - r.length : Nat) : Int))) ∧
 (strL l = none → ∃ p, Ev (fun k => spec_reader_quoted.l0 k s i) (false, s, p))
 | n, i, [], _, h => by
  have := h.nil
  refine ⟨fun r hr => (by rw [strL_nil] at hr; cases hr), fun _ => ⟨(i : Int), Ev.step (f := fun _ => some (false, s, (i : Int))) (fun k => ?_) (Ev.now _)⟩⟩
  simp only [spec_reader_quoted.l0]
  rw [if_neg (by omega)]
 | 0, i, c :: l, hn, h => by simp at hn
 | n + 1, i, c :: l, hn, h => by
  simp only [List.length_cons] at hn
  have hl := h.len
  simp only [List.length_cons] at hl
  have e2 := up1 (Nat.le_of_lt h.lt) hs
  have st : ∀ k, spec_reader_quoted.l0 (k + 1) s i = (if c = 34 then (some (true, s, ((i + 1 : Nat) : Int))) else (if c < 32 then (some (false, s, ((i + 1 : Nat) : Int))) else (if c = 92 then ((spec_reader_escape.f k s ((i + 1 : Nat) : Int)).bind fun bt101 => (if bt101.1 = true then (spec_reader_quoted.l0 k bt101.2.1 bt101.2.2) else (some (false, bt101.2.1, bt101.2.2)))) else (spec_reader_quoted.l0 k s ((i + 1 : Nat) : Int))))) := fun k => by
   simp only [spec_reader_quoted.l0]
   rw [if_pos (by have := h.lt; omega), if_pos (by omega), h.bt, e2]
  by_cases h1 : c = 34
  ·subst h1
   refine ⟨fun r hr => ?_, fun hr => (by rw [strL_end] at hr; cases hr)⟩
   rw [strL_end] at hr
   cases hr
   refine Ev.step (fun k => (st k).trans (if_pos rfl)) (Ev_same (Ev.now _) ?_)
   rw [show i + 1 = s.size - l.length by omega]
  by_cases h2 : c < 32
  ·refine ⟨fun r hr => (by rw [strL_low _ h2] at hr; cases hr), fun _ => ⟨_, Ev.step (fun k => (st k).trans ((if_neg h1).trans (if_pos h2))) (Ev.now _)⟩⟩
  by_cases h3 : c = 92
  rotate_left
  ·rw [strL_raw _ ⟨h1, h2, h3⟩]
   have ih := quoted_l0 n (i + 1) l (by omega) h.tail
   have go : ∀ k, spec_reader_quoted.l0 (k + 1) s i = spec_reader_quoted.l0 k s ((i + 1 : Nat) : Int) := fun k => (st k).trans ((if_neg h1).trans ((if_neg h2).trans (if_neg h3)))
   refine ⟨fun r hr => Ev.step go (ih.1 r hr), fun hr => ?_⟩
   obtain ⟨p, hq⟩ := ih.2 hr
   exact ⟨p, Ev.step go hq⟩
  subst h3
  have hh := escape_eq hs h.tail
  rw [strL_esc]
  have go : ∀ {a q R}, Ev (fun k => spec_reader_escape.f k s ((i + 1 : Nat) : Int)) (a, s, q) → Ev (fun k => if a = true then (spec_reader_quoted.l0 k s q) else (some (false, s, q))) R → Ev (fun k => spec_reader_quoted.l0 k s i) R := fun {a q R} hx hy =>
   Ev.step (fun k => (st k).trans ((if_neg h1).trans ((if_neg h2).trans (if_pos rfl)))) (Ev.bind hx hy)
  cases he : escL l with
  | none =>
   refine ⟨fun r hr => (by cases hr), fun _ => ?_⟩
   obtain ⟨p, hp⟩ := hh.2 he
   exact ⟨p, go hp (Ev.congr (fun k => if_neg zq49) (Ev.now _))⟩
  | some r' =>
   have hlen := escL_len he
   have hp := hh.1 r' he
   have hF : From s (s.size - r'.length) r' := by
    rcases escL_ex he with ⟨b, _, rfl⟩ | ⟨a, b, c, d, v, _, rfl⟩
    ·have := h.tail.tail
     have hz := this.len
     rwa [show i + 1 + 1 = s.size - r'.length by omega] at this
    ·have := h.tail.tail.tail.tail.tail.tail
     have hz := this.len
     rwa [show i + 1 + 1 + 1 + 1 + 1 + 1 = s.size - r'.length by omega] at this
   have ih := quoted_l0 n (s.size - r'.length) r' (by omega) hF
   refine ⟨fun r hr => go hp (Ev.congr (fun k => if_pos rfl) (ih.1 r hr)), fun hr => ?_⟩
   obtain ⟨p, hq⟩ := ih.2 hr
   exact ⟨p, go hp (Ev.congr (fun k => if_pos rfl) hq)⟩
theorem quoted_eq {i : Nat} {c : Int} {l : List Int} (h : From s i (c :: l)) :
 (∀ r, strL l = some r → Ev (fun k => spec_reader_quoted.f k s i) (true, s, ((s.size - r.length : Nat) : Int))) ∧
 (strL l = none → ∃ p, Ev (fun k => spec_reader_quoted.f k s i) (false, s, p)) := by
 have e2 := up1 (Nat.le_of_lt h.lt) hs
 have := quoted_l0 hs l.length (i + 1) l (Nat.le_refl _) h.tail
 unfold spec_reader_quoted.f
 rw [e2]
 exact this
end

end Go.Proofs.YtlokkefnbffjnaaDoor.J
end
section
namespace Go.Proofs.YtlokkefnbffjnaaDoor.RN
open Go.RowKit Go.Proofs.YtlokkefnbffjnaaDoor.J Go.Proofs.YtlokkefnbffjnaaDoorW.PrintWords Go.Proofs.YtlokkefnbffjnaaDoorW.PrintLast
theorem wrap_up {i : Nat} {n : Nat} (h : i ≤ n) (hn : n ≤ 140737488351232) : wrap64 ((i : Int) + 1) = ((i + 1 : Nat) : Int) := by
 unfold wrap64
 omega
def tk (s : ByteArray) (i : Nat) (c : Int) : Bool := decide (i < s.size ∧ bt s i = c)
def dg (s : ByteArray) (i : Nat) : Bool := decide (i < s.size ∧ 48 ≤ bt s i ∧ bt s i ≤ 57)
def dE (s : ByteArray) (i : Nat) : Nat := if i < s.size then (if dg s i = true then dE s (i + 1) else i) else i
termination_by s.size - i
theorem dE_dg {s : ByteArray} {i : Nat} (h : dg s i = true) : dE s i = dE s (i + 1) := by
 have h' := h
 simp only [dg, decide_eq_true_eq] at h'
 rw [dE, if_pos h'.1, if_pos h]
theorem dE_no {s : ByteArray} {i : Nat} (h : dg s i = false) : dE s i = i := by
 rw [dE]
 split
 ·rw [if_neg (by simp [h])]
 ·rfl
theorem dE_le (s : ByteArray) (d : Nat) : ∀ i, s.size - i = d → i ≤ s.size → i ≤ dE s i ∧ dE s i ≤ s.size := by
 induction d with
 | zero =>
  intro i hd hi
  rw [dE_no (by simp [dg]; omega)]
  omega
 | succ d ih =>
  intro i hd hi
  by_cases h : dg s i = true
  rotate_left
  ·rw [dE_no (by simpa using h)]
   omega
  rw [dE_dg h]
  have := ih (i + 1) (by omega) (by omega)
  omega
theorem dE_bounds {s : ByteArray} {i : Nat} (hi : i ≤ s.size) : i ≤ dE s i ∧ dE s i ≤ s.size := dE_le s _ i rfl hi
theorem dE_more {s : ByteArray} {i : Nat} (_hi : i ≤ s.size) : decide (dE s i > i) = dg s i := by
 by_cases h : dg s i = true
 rotate_left
 ·rw [dE_no (by simpa using h)]
  simp at h
  simp [h]
 have h' := h
 simp only [dg, decide_eq_true_eq] at h'
 rw [dE_dg h, h]
 have := dE_bounds (s := s) (i := i + 1) (by omega)
 simp only [decide_eq_true_eq]
 omega
theorem take_eq {s : ByteArray} {i : Nat} (hs : s.size ≤ 140737488351232) (hi : i ≤ s.size) (c : Int) :
 spec_reader_take.f s (i : Int) c = some (tk s i c, s, ((if tk s i c = true then i + 1 else i : Nat) : Int)) := by
 unfold spec_reader_take.f tk
 by_cases h1 : i < s.size
 rotate_left
 ·rw [if_neg (by omega)]
  simp [h1]
 rw [if_pos (by omega), if_pos (by omega)]
 by_cases h2 : bt s i = c
 rotate_left
 ·rw [if_neg h2]
  simp [h1, h2]
 rw [if_pos h2, wrap_up hi hs]
 simp [h1, h2]
theorem here_eq {s : ByteArray} {i : Nat} : spec_reader_here.f s (i : Int) = some (if i < s.size then bt s i else 0, s, (i : Int)) := by
 unfold spec_reader_here.f
 by_cases h1 : i < s.size
 rotate_left
 ·rw [if_neg (by omega), if_neg h1]
 rw [if_pos (by omega), if_pos (by omega), if_pos h1]
theorem digits_l0 {s : ByteArray} (hs : s.size ≤ 140737488351232) (x3 : Nat) (d : Nat) : ∀ i, s.size - i = d → i ≤ s.size →
 Ev (fun k => spec_reader_digits.l0 k x3 (if i < s.size then bt s i else 0) s i) (decide (((dE s i : Nat) : Int) > x3), s, ((dE s i : Nat) : Int)) := by
 induction d with
 | zero =>
  intro i hd hi
  have hn : ¬ i < s.size := by omega
  have hz : dg s i = false := by simp [dg]; omega
  rw [dE_no hz]
  refine Ev.step (f := fun _ => some (decide (((i : Nat) : Int) > x3), s, ((i : Nat) : Int))) (fun k => ?_) (Ev.now _)
  simp only [spec_reader_digits.l0]
  rw [if_neg hn, if_neg (by omega)]
 | succ d ih =>
  intro i hd hi
  have hlt : i < s.size := by omega
  by_cases h : dg s i = true
  ·have h' := h
   simp only [dg, decide_eq_true_eq] at h'
   rw [dE_dg h]
   refine Ev.step (f := fun k => spec_reader_digits.l0 k x3 (if i + 1 < s.size then bt s ((i + 1 : Nat) : Int) else 0) s ((i + 1 : Nat) : Int)) (fun k => ?_) (ih (i + 1) (by omega) (by omega))
   simp only [spec_reader_digits.l0]
   rw [if_pos hlt, if_pos h'.2.1, if_pos h'.2.2, wrap_up hi hs, here_eq]
   rfl
  have hz : dg s i = false := by simpa using h
  have h' := hz
  simp only [dg, decide_eq_false_iff_not] at h'
  rw [dE_no hz]
  refine Ev.step (f := fun _ => some (decide (((i : Nat) : Int) > x3), s, ((i : Nat) : Int))) (fun k => ?_) (Ev.now _)
  simp only [spec_reader_digits.l0]
  rw [if_pos hlt]
  by_cases h48 : 48 ≤ bt s i
  rotate_left
  ·rw [if_neg h48]
  rw [if_pos h48, if_neg (by omega)]
theorem digits_eq {s : ByteArray} (hs : s.size ≤ 140737488351232) {i : Nat} (hi : i ≤ s.size) :
 Ev (fun k => spec_reader_digits.f k s i) (dg s i, s, ((dE s i : Nat) : Int)) := by
 have h := digits_l0 hs i _ i rfl hi
 refine Ev.congr (f := fun k => spec_reader_digits.l0 k i (if i < s.size then bt s i else 0) s i) (fun k => ?_) ?_
 ·unfold spec_reader_digits.f
  rw [here_eq]
  rfl
 ·have e : decide (((dE s i : Nat) : Int) > (i : Int)) = dg s i := by
   rw [← dE_more hi, Bool.eq_iff_iff, decide_eq_true_eq, decide_eq_true_eq]
   omega
  rw [e] at h
  exact h
def numX (s : ByteArray) (i : Nat) : Bool × Nat :=
  if (tk s i 101 || tk s i 69) = true then (let j := if (tk s (i + 1) 43 || tk s (i + 1) 45) = true then i + 2 else i + 1; (dg s j, dE s j)) else (true, i)
def numF (s : ByteArray) (i : Nat) : Bool × Nat :=
  if tk s i 46 = true then (if dg s (i + 1) = true then numX s (dE s (i + 1)) else (false, i + 1)) else numX s i
def numE (s : ByteArray) (i : Nat) : Bool × Nat :=
  let j := if tk s i 45 = true then i + 1 else i
  if tk s j 48 = true then numF s (j + 1) else if dg s j = true then numF s (dE s j) else (false, j)

theorem tk_lt {s : ByteArray} {i : Nat} {c : Int} (h : tk s i c = true) : i < s.size := by
 simp only [tk, decide_eq_true_eq] at h
 exact h.1
theorem tk_out {s : ByteArray} {i : Nat} {c : Int} (h : ¬ i < s.size) : tk s i c = false := decide_eq_false fun x => h x.1
theorem dg_out {s : ByteArray} {i : Nat} (h : ¬ i < s.size) : dg s i = false := decide_eq_false fun x => h x.1
theorem take_yes {s : ByteArray} {i : Nat} {c : Int} (hs : s.size ≤ 140737488351232) (h : tk s i c = true) : spec_reader_take.f s (i : Int) c = some (true, s, ((i + 1 : Nat) : Int)) := by
 have := tk_lt h
 rw [take_eq hs (by omega), h]
 rfl
theorem take_no {s : ByteArray} {i : Nat} {c : Int} (hs : s.size ≤ 140737488351232) (hi : i ≤ s.size) (h : ¬ tk s i c = true) : spec_reader_take.f s (i : Int) c = some (false, s, (i : Int)) := by
 have h' : tk s i c = false := by simpa using h
 rw [take_eq hs hi, h']
 rfl
theorem Ev_same {α : Type} {g : Nat → Option α} {r r' : α} (h : Ev g r) (e : r = r') : Ev g r' := e ▸ h
theorem number_j2 {s : ByteArray} (hs : s.size ≤ 140737488351232) {i : Nat} (hi : i + 1 ≤ s.size) :
 Ev (fun k => spec_reader_number.j2 k true s ((i + 1 : Nat) : Int)) (let j := if (tk s (i + 1) 43 || tk s (i + 1) 45) = true then i + 2 else i + 1; (dg s j, s, ((dE s j : Nat) : Int))) := by
 have key : ∀ j, j ≤ s.size → Ev (fun k => (spec_reader_digits.f k s (j : Int)).bind fun b => some (b.1, b.2.1, b.2.2)) (dg s j, s, ((dE s j : Nat) : Int)) := fun j hj => Ev.bind (digits_eq hs hj) (Ev.now _)
 by_cases h1 : tk s (i + 1) 43 = true
 ·have hl := tk_lt h1
  refine Ev_same (Ev.step (fun k => ?_) (key (i + 2) hl)) (by simp [h1])
  simp only [spec_reader_number.j2, take_yes hs h1, Option.bind_some, if_true]
 by_cases h2 : tk s (i + 1) 45 = true
 rotate_left
 ·refine Ev_same (Ev.step (fun k => ?_) (key (i + 1) hi)) (by simp [h1, h2])
  simp only [spec_reader_number.j2, take_no hs hi h1, take_no hs hi h2, Option.bind_some, if_true, Bool.false_eq_true, if_false]
 have hl := tk_lt h2
 refine Ev_same (Ev.step (fun k => ?_) (key (i + 2) hl)) (by simp [h2])
 simp only [spec_reader_number.j2, take_no hs hi h1, take_yes hs h2, Option.bind_some, if_true, Bool.false_eq_true, if_false]
theorem number_j1 {s : ByteArray} (hs : s.size ≤ 140737488351232) {i : Nat} (hi : i ≤ s.size) :
 Ev (fun k => spec_reader_number.j1 k false s (i : Int)) ((numX s i).1, s, (((numX s i).2 : Nat) : Int)) := by
 by_cases h1 : tk s i 101 = true
 ·have hl := tk_lt h1
  refine Ev_same (Ev.step (fun k => ?_) (number_j2 hs hl)) (by simp [numX, h1])
  simp only [spec_reader_number.j1, take_yes hs h1, Option.bind_some, if_true, Bool.false_eq_true, if_false]
 by_cases h2 : tk s i 69 = true
 ·have hl := tk_lt h2
  refine Ev_same (Ev.step (fun k => ?_) (number_j2 hs hl)) (by simp [numX, h2])
  simp only [spec_reader_number.j1, take_no hs hi h1, take_yes hs h2, Option.bind_some, Bool.false_eq_true, if_false]
 refine Ev_same (Ev.step (f := fun k => spec_reader_number.j2 k false s (i : Int)) (fun k => ?_) (Ev.step (f := fun _ => some (true, s, (i : Int))) (fun k => ?_) (Ev.now _))) (by simp [numX, h1, h2])
 ·simp only [spec_reader_number.j1, take_no hs hi h1, take_no hs hi h2, Option.bind_some, Bool.false_eq_true, if_false]
 ·simp only [spec_reader_number.j2, Bool.false_eq_true, if_false]
theorem number_j0 {s : ByteArray} (hs : s.size ≤ 140737488351232) {i : Nat} (hi : i ≤ s.size) :
 Ev (fun k => spec_reader_number.j0 k false s (i : Int)) ((numF s i).1, s, (((numF s i).2 : Nat) : Int)) := by
 by_cases h1 : tk s i 46 = true
 rotate_left
 ·refine Ev_same (Ev.step (fun k => ?_) (number_j1 hs hi)) (by simp [numF, h1])
  simp only [spec_reader_number.j0, take_no hs hi h1, Option.bind_some, Bool.false_eq_true, if_false]
 have hl := tk_lt h1
 have hb := dE_bounds (s := s) hl
 have key : Ev (fun k => (spec_reader_digits.f k s ((i + 1 : Nat) : Int)).bind fun b => spec_reader_number.j1 k (!b.1) b.2.1 b.2.2) ((numF s i).1, s, (((numF s i).2 : Nat) : Int)) := by
  refine Ev.bind (digits_eq hs hl) ?_
  by_cases h2 : dg s (i + 1) = true
  ·refine Ev_same (Ev.congr (fun k => ?_) (number_j1 hs hb.2)) (by simp [numF, h1, h2])
   simp only [h2, Bool.not_true]
  have h2' : dg s (i + 1) = false := by simpa using h2
  refine Ev_same (Ev.step (f := fun _ => some (false, s, ((i + 1 : Nat) : Int))) (fun k => ?_) (Ev.now _)) (by simp [numF, h1, h2])
  simp only [spec_reader_number.j1, h2', Bool.not_false, if_true, dE_no h2']
 refine Ev.step (fun k => ?_) key
 simp only [spec_reader_number.j0, take_yes hs h1, Option.bind_some, if_true, Bool.false_eq_true, if_false]
theorem number_eq {s : ByteArray} (hs : s.size ≤ 140737488351232) {i : Nat} (hi : i ≤ s.size) :
 Ev (fun k => spec_reader_number.f k s (i : Int)) ((numE s i).1, s, (((numE s i).2 : Nat) : Int)) := by
 have key : ∀ j, j ≤ s.size → Ev (fun k => (spec_reader_take.f s (j : Int) 48).bind fun b => if b.1 = true then spec_reader_number.j0 k false b.2.1 b.2.2 else (spec_reader_digits.f k b.2.1 b.2.2).bind fun c => spec_reader_number.j0 k (!c.1) c.2.1 c.2.2)
  ((if tk s j 48 = true then numF s (j + 1) else if dg s j = true then numF s (dE s j) else (false, j)).1, s, (((if tk s j 48 = true then numF s (j + 1) else if dg s j = true then numF s (dE s j) else (false, j)).2 : Nat) : Int)) := by
  intro j hj
  by_cases h1 : tk s j 48 = true
  ·refine Ev_same (Ev.congr (fun k => ?_) (number_j0 hs (tk_lt h1))) (by simp [h1])
   simp only [take_yes hs h1, Option.bind_some, if_true]
  have hb := dE_bounds (s := s) hj
  refine Ev.congr (f := fun k => (spec_reader_digits.f k s (j : Int)).bind fun c => spec_reader_number.j0 k (!c.1) c.2.1 c.2.2) (fun k => ?_) (Ev.bind (digits_eq hs hj) ?_)
  ·simp only [take_no hs hj h1, Option.bind_some, Bool.false_eq_true, if_false]
  ·by_cases h2 : dg s j = true
   ·refine Ev_same (Ev.congr (fun k => ?_) (number_j0 hs hb.2)) (by simp [h1, h2])
    simp only [h2, Bool.not_true]
   have h2' : dg s j = false := by simpa using h2
   refine Ev_same (Ev.step (f := fun _ => some (false, s, (j : Int))) (fun k => ?_) (Ev.now _)) (by simp [h1, h2])
   simp only [spec_reader_number.j0, h2', Bool.not_false, if_true, dE_no h2']
 by_cases h0 : tk s i 45 = true
 rotate_left
 ·refine Ev_same (Ev.congr (fun k => ?_) (key i hi)) (by simp [numE, h0])
  unfold spec_reader_number.f
  simp only [take_no hs hi h0, Option.bind_some]
 refine Ev_same (Ev.congr (fun k => ?_) (key (i + 1) (tk_lt h0))) (by simp [numE, h0])
 unfold spec_reader_number.f
 simp only [take_yes hs h0, Option.bind_some]
end Go.Proofs.YtlokkefnbffjnaaDoor.RN
end
section
namespace Go.Proofs.YtlokkefnbffjnaaDoor.J
open Go.RowKit Go.Proofs.YtlokkefnbffjnaaDoor.J Go.Proofs.YtlokkefnbffjnaaDoorW.PrintWords Go.Proofs.YtlokkefnbffjnaaDoorW.PrintLast

def Suf (s : ByteArray) (l : List Int) : Prop := From s (s.size - l.length) l
def P (s : ByteArray) (l : List Int) : Int := ((s.size - l.length : Nat) : Int)
theorem Suf.le {s : ByteArray} {l : List Int} (h : Suf s l) : l.length ≤ s.size := by
 have := From.len h
 omega
theorem Suf.tail {s : ByteArray} {a : Int} {l : List Int} (h : Suf s (a :: l)) : Suf s l := by
 have h1 := h.le
 have := From.tail h
 simp only [List.length_cons] at this h1
 unfold Suf
 rwa [show s.size - l.length = s.size - (l.length + 1) + 1 by omega]
theorem Suf.app {s : ByteArray} {a l : List Int} (h : Suf s (a ++ l)) : Suf s l := by
 induction a with
 | nil => exact h
 | cons x a ih => exact ih (Suf.tail h)
theorem Suf.of {s : ByteArray} {i : Nat} {l : List Int} (h : From s i l) : Suf s l ∧ i = s.size - l.length := by
 have := h.len
 have e : i = s.size - l.length := by omega
 refine ⟨?_, e⟩
 unfold Suf
 rw [← e]
 exact h
theorem Suf.start (s : ByteArray) : Suf s (bytesOf s) := by
 unfold Suf
 rw [bytesOf_length, Nat.sub_self]
 exact From.start s
theorem P_cons {s : ByteArray} {a : Int} {l : List Int} (h : Suf s (a :: l)) : P s l = P s (a :: l) + 1 := by
 have := h.le
 unfold P
 simp only [List.length_cons] at this ⊢
 omega
theorem P_le (s : ByteArray) (l : List Int) : 0 ≤ P s l ∧ P s l ≤ s.size := by unfold P; omega
theorem P_lt {s : ByteArray} {a : Int} {l : List Int} (h : Suf s (a :: l)) : P s (a :: l) < s.size := by
 have := h.le
 unfold P
 simp only [List.length_cons] at this ⊢
 omega
theorem P_nil (s : ByteArray) : P s [] = s.size := by unfold P; simp
theorem Suf.bt {s : ByteArray} {a : Int} {l : List Int} (h : Suf s (a :: l)) : bt s (P s (a :: l)) = a := From.bt h
theorem Suf.skB {s : ByteArray} {l : List Int} (h : Suf s l) : Suf s (skB l) := by
 obtain ⟨b, _, e⟩ := skB_ex l
 rw [e] at h
 exact h.app
theorem Suf.str {s : ByteArray} {l r : List Int} (h : Suf s l) (k : strL l = some r) : Suf s r := by
 obtain ⟨b, _, e⟩ := strL_iff.mp k
 rw [e] at h
 exact Suf.tail h.app
theorem skD_ex : ∀ l, ∃ b, l = b ++ skD l
 | [] => ⟨[], rfl⟩
 | c :: r => by
  unfold skD
  split
  ·obtain ⟨b, e⟩ := skD_ex r
   exact ⟨c :: b, by rw [List.cons_append, ← e]⟩
  ·exact ⟨[], rfl⟩
theorem Suf.skD {s : ByteArray} {l : List Int} (h : Suf s l) : Suf s (skD l) := by
 obtain ⟨b, e⟩ := skD_ex l
 rw [e] at h
 exact h.app
theorem Suf.drop {s : ByteArray} {l : List Int} (h : Suf s l) (n : Nat) : Suf s (l.drop n) := by
 rw [← List.take_append_drop n l] at h
 exact h.app
section
variable {s : ByteArray} (hs : s.size ≤ 140737488351232)
include hs
theorem up_P {a : Int} {l : List Int} (h : Suf s (a :: l)) : wrap64 (P s (a :: l) + 1) = P s l := by
 have := P_le s (a :: l)
 rw [P_cons h, w64 (by omega)]
theorem take_cons {a : Int} {l : List Int} (h : Suf s (a :: l)) (c : Int) : spec_reader_take.f s (P s (a :: l)) c = if a = c then some (true, s, P s l) else some (false, s, P s (a :: l)) := by
 have h1 := P_lt h
 have h2 := P_le s (a :: l)
 unfold spec_reader_take.f
 rw [if_pos (by omega), if_pos (by omega), h.bt, up_P hs h]
omit hs in
theorem take_nil (c : Int) : spec_reader_take.f s (P s []) c = some (false, s, P s []) := by
 unfold spec_reader_take.f
 rw [P_nil, if_neg (by omega)]
omit hs in
theorem here_P {a : Int} {l : List Int} (h : Suf s (a :: l)) : spec_reader_here.f s (P s (a :: l)) = some (a, s, P s (a :: l)) := here_cons h
omit hs in
theorem here_P0 : spec_reader_here.f s (P s []) = some (0, s, P s []) := by
 unfold spec_reader_here.f
 rw [P_nil, if_neg (by omega)]
theorem blanks_eq : ∀ l, Suf s l → Ev (fun k => spec_reader_blanks.f k s (P s l)) (s, P s (skB l))
 | [], _ => by
  refine Ev.step (f := fun _ => some (s, P s [])) (fun k => ?_) (Ev.now _)
  unfold spec_reader_blanks.f
  simp only [spec_reader_blanks.l0]
  rw [P_nil, if_neg (by omega)]
 | c :: l, h => by
  have h1 := P_lt h
  have h2 := P_le s (c :: l)
  have hb : spec_Blank.f c = some (isB c) := by
   unfold spec_Blank.f isB
   by_cases e1 : c = 32
   ·rw [if_pos e1, e1]; rfl
   by_cases e2 : c = 9
   ·rw [if_neg e1, if_pos e2, e2]; rfl
   by_cases e3 : c = 10
   ·rw [if_neg e1, if_neg e2, if_pos e3, e3]; rfl
   rw [if_neg e1, if_neg e2, if_neg e3]
   congr 1
   rw [Bool.eq_iff_iff]
   simp [e1, e2, e3]
  unfold spec_reader_blanks.f
  by_cases e : isB c = true
  ·refine Ev.step (fun k => ?_) (Ev_same (blanks_eq l h.tail) (by rw [skB, if_pos e]))
   simp only [spec_reader_blanks.l0]
   rw [if_pos (by omega), if_pos (by omega), h.bt, hb, Option.bind_some, if_pos e, up_P hs h]
   rfl
  refine Ev.step (f := fun _ => some (s, P s (c :: l))) (fun k => ?_) (Ev_same (Ev.now _) (by rw [skB, if_neg e]))
  simp only [spec_reader_blanks.l0]
  rw [if_pos (by omega), if_pos (by omega), h.bt, hb, Option.bind_some, if_neg e]
theorem quoted_P {a : Int} {l : List Int} (h : Suf s (a :: l)) :
 (∀ r, strL l = some r → Ev (fun k => spec_reader_quoted.f k s (P s (a :: l))) (true, s, P s r)) ∧ (strL l = none → ∃ p, Ev (fun k => spec_reader_quoted.f k s (P s (a :: l))) (false, s, p)) := quoted_eq hs h
theorem word_eq {l : List Int} (h : Suf s l) (w : ByteArray) (hw : w.size ≤ 10) : spec_reader_word.f s (P s l) w = match wordL (bytesOf w) l with
 | some r => some (true, s, P s r)
 | none => some (false, s, P s l) := by
 have h1 := h.le
 have h2 := P_le s l
 have hl : (bytesOf w).length = w.size := bytesOf_length w
 have e0 : wrap64 ((s.size : Int) - P s l) = l.length := by
  unfold P at h2 ⊢
  rw [w64 (by omega)]
  omega
 have e1 : wrap64 (P s l + (w.size : Int)) = ((s.size - l.length + w.size : Nat) : Int) := by
  unfold P at h2 ⊢
  rw [w64 (by omega)]
  omega
 unfold spec_reader_word.f wordL
 rw [e0, e1, hl]
 by_cases e2 : (l.length : Int) < (w.size : Int)
 ·rw [if_pos e2, if_neg]
  intro e
  have := congrArg List.length e
  rw [hl, List.length_take] at this
  omega
 rw [if_neg e2, if_pos (by omega), if_pos (by unfold P; omega), if_pos (by omega)]
 have e3 : bytesOf (s.extract (P s l).toNat ((s.size - l.length + w.size : Nat) : Int).toNat) = l.take w.size := by
  have := h.2
  unfold P
  rw [Int.toNat_natCast, Int.toNat_natCast, bytesOf_extract, List.drop_take, this, Nat.add_sub_cancel_left]
 have e4 : ((s.extract (P s l).toNat ((s.size - l.length + w.size : Nat) : Int).toNat).toList = w.toList) = (l.take w.size = bytesOf w) := by
  apply propext
  constructor
  ·intro e
   rw [← e3, toList_inj e]
  ·intro e
   rw [← e3] at e
   rw [bytesOf_inj e]
 have e5 : ((s.size - l.length + w.size : Nat) : Int) = P s (l.drop w.size) := by
  unfold P
  rw [List.length_drop]
  omega
 by_cases e6 : l.take w.size = bytesOf w
 rotate_left
 ·rw [if_neg (e4 ▸ e6), if_neg e6]
 rw [if_pos (e4 ▸ e6), if_pos e6, e5]
omit hs in
theorem tk_cons {a : Int} {l : List Int} {i : Nat} (h : From s i (a :: l)) (c : Int) : RN.tk s i c = decide (a = c) := by
 unfold RN.tk
 have := h.lt
 rw [h.bt]
 simp [this]
omit hs in
theorem tk_nil {i : Nat} (h : From s i []) (c : Int) : RN.tk s i c = false := RN.tk_out (by have := h.nil; omega)
omit hs in
theorem dg_cons {a : Int} {l : List Int} {i : Nat} (h : From s i (a :: l)) : RN.dg s i = isD a := by
 unfold RN.dg isD
 have := h.lt
 rw [h.bt]
 simp [this]
omit hs in
theorem dg_nil {i : Nat} (h : From s i []) : RN.dg s i = false := RN.dg_out (by have := h.nil; omega)
omit hs in
theorem dE_eq : ∀ (l : List Int) (i : Nat), From s i l → From s (RN.dE s i) (skD l)
 | [], i, h => by rw [RN.dE_no (dg_nil h)]; exact h
 | c :: l, i, h => by
  by_cases e : isD c = true
  rotate_left
  ·rw [RN.dE_no (by rw [dg_cons h]; simpa using e), skD, if_neg e]
   exact h
  rw [RN.dE_dg (by rw [dg_cons h, e]), skD, if_pos e]
  exact dE_eq l (i + 1) h.tail
omit hs in
theorem digs {l : List Int} {i : Nat} (h : From s i l) : (∀ r, digL l = some r → RN.dg s i = true ∧ From s (RN.dE s i) r) ∧ (digL l = none → RN.dg s i = false) := by
 match l, h with
 | [], h => exact ⟨fun r hr => (by simp [digL] at hr), fun _ => dg_nil h⟩
 | c :: l, h =>
  by_cases e : isD c = true
  rotate_left
  ·exact ⟨fun r hr => (by rw [digL, if_neg e] at hr; cases hr), fun _ => (by rw [dg_cons h]; simpa using e)⟩
  refine ⟨fun r hr => ?_, fun hr => (by rw [digL, if_pos e] at hr; cases hr)⟩
  rw [digL, if_pos e] at hr
  cases hr
  have := dE_eq _ _ h
  rw [skD, if_pos e] at this
  exact ⟨by rw [dg_cons h, e], this⟩
omit hs in
theorem expL_other {c : Int} {l : List Int} (e : ¬ (c = 101 ∨ c = 69)) : expL (c :: l) = some (c :: l) := by
 unfold expL
 exact if_neg e
omit hs in
theorem numX_eq {l : List Int} {i : Nat} (h : From s i l) : (∀ r, expL l = some r → (RN.numX s i).1 = true ∧ From s (RN.numX s i).2 r) ∧ (expL l = none → (RN.numX s i).1 = false) := by
 match l, h with
 | [], h =>
  have e : RN.numX s i = (true, i) := by unfold RN.numX; rw [tk_nil h, tk_nil h]; rfl
  rw [e]
  refine ⟨fun r hr => ?_, fun hr => (by simp [expL] at hr)⟩
  simp only [expL, Option.some.injEq] at hr
  subst hr
  exact ⟨rfl, h⟩
 | c :: l, h =>
  by_cases e : c = 101 ∨ c = 69
  rotate_left
  ·have e1 : (RN.tk s i 101 || RN.tk s i 69) = false := by
    rw [tk_cons h, tk_cons h]
    simpa using e
   unfold RN.numX
   rw [if_neg (by rw [e1]; decide)]
   refine ⟨fun r hr => ?_, fun hr => (by rw [expL_other e] at hr; cases hr)⟩
   rw [expL_other e] at hr
   cases hr
   exact ⟨rfl, h⟩
  have e1 : (RN.tk s i 101 || RN.tk s i 69) = true := by
   rw [tk_cons h, tk_cons h]
   simpa using e
  unfold RN.numX
  rw [if_pos e1]
  have h1 := h.tail
  match l, h1 with
  | [], h1 =>
   have e2 : (RN.tk s (i + 1) 43 || RN.tk s (i + 1) 45) = false := by rw [tk_nil h1, tk_nil h1]; rfl
   refine ⟨fun r hr => (by rw [expL, if_pos e] at hr; cases hr), fun _ => ?_⟩
   simp only [e2, Bool.false_eq_true, if_false]
   exact dg_nil h1
  | d :: t, h1 =>
   by_cases e2 : d = 43 ∨ d = 45
   rotate_left
   ·have e3 : (RN.tk s (i + 1) 43 || RN.tk s (i + 1) 45) = false := by
     rw [tk_cons h1, tk_cons h1]
     simpa using e2
    have hd := digs h1
    simp only [e3, Bool.false_eq_true, if_false]
    refine ⟨fun r hr => ?_, fun hr => ?_⟩
    ·simp only [expL, if_pos e, if_neg e2] at hr
     exact hd.1 r hr
    ·simp only [expL, if_pos e, if_neg e2] at hr
     exact hd.2 hr
   have e3 : (RN.tk s (i + 1) 43 || RN.tk s (i + 1) 45) = true := by rw [tk_cons h1, tk_cons h1]; simpa using e2
   have hd := digs h1.tail
   simp only [e3, if_true]
   refine ⟨fun r hr => ?_, fun hr => ?_⟩
   ·rw [expL, if_pos e] at hr
    simp only [if_pos e2] at hr
    exact hd.1 r hr
   ·rw [expL, if_pos e] at hr
    simp only [if_pos e2] at hr
    exact hd.2 hr
omit hs in
theorem numF_eq {l : List Int} {i : Nat} (h : From s i l) : (∀ r, fracL l = some r → (RN.numF s i).1 = true ∧ From s (RN.numF s i).2 r) ∧ (fracL l = none → (RN.numF s i).1 = false) := by
 match l, h with
 | [], h =>
  have e : RN.numF s i = RN.numX s i := by unfold RN.numF; rw [tk_nil h]; rfl
  rw [e]
  exact numX_eq h
 | c :: l, h =>
  by_cases e : c = 46
  rotate_left
  ·have e1 : RN.tk s i 46 = false := by rw [tk_cons h]; simpa using e
   have e3 : RN.numF s i = RN.numX s i := by unfold RN.numF; rw [e1]; rfl
   rw [e3]
   have h3 := numX_eq h
   refine ⟨fun r hr => ?_, fun hr => ?_⟩
   ·rw [fracL, if_neg e] at hr
    exact h3.1 r hr
   ·rw [fracL, if_neg e] at hr
    exact h3.2 hr
  have hd := digs h.tail
  have e1 : RN.tk s i 46 = true := by rw [tk_cons h]; simpa using e
  unfold RN.numF
  rw [if_pos e1]
  cases e2 : digL l with
  | none =>
   rw [if_neg (by rw [hd.2 e2]; decide)]
   exact ⟨fun r hr => (by rw [fracL, if_pos e, e2] at hr; cases hr), fun _ => rfl⟩
  | some t =>
   have h2 := hd.1 t e2
   rw [if_pos h2.1]
   have h3 := numX_eq h2.2
   refine ⟨fun r hr => ?_, fun hr => ?_⟩
   ·rw [fracL, if_pos e, e2] at hr
    exact h3.1 r hr
   ·rw [fracL, if_pos e, e2] at hr
    exact h3.2 hr
omit hs in
theorem intE_eq {l : List Int} {i : Nat} (h : From s i l) :
 (∀ r, intL l = some r → (if RN.tk s i 48 = true then RN.numF s (i + 1) else if RN.dg s i = true then RN.numF s (RN.dE s i) else (false, i)).1 = true ∧ From s (if RN.tk s i 48 = true then RN.numF s (i + 1) else if RN.dg s i = true then RN.numF s (RN.dE s i) else (false, i)).2 r) ∧
 (intL l = none → (if RN.tk s i 48 = true then RN.numF s (i + 1) else if RN.dg s i = true then RN.numF s (RN.dE s i) else (false, i)).1 = false) := by
 match l, h with
 | [], h =>
  rw [if_neg (by rw [tk_nil h]; decide), if_neg (by rw [dg_nil h]; decide)]
  exact ⟨fun r hr => (by simp [intL] at hr), fun _ => rfl⟩
 | c :: l, h =>
  by_cases e : c = 48
  ·rw [if_pos (by rw [tk_cons h]; simpa using e), intL, if_pos e]
   exact numF_eq h.tail
  rw [if_neg (by rw [tk_cons h]; simpa using e), intL, if_neg e]
  by_cases e2 : isD c = true
  rotate_left
  ·have e4 : ¬ RN.dg s i = true := by rw [dg_cons h]; exact e2
   simp only [if_neg e4, if_neg e2]
   exact ⟨fun r hr => (by cases hr), fun _ => trivial⟩
  have h2 := dE_eq _ _ h
  rw [skD, if_pos e2] at h2
  have e4 : RN.dg s i = true := by rw [dg_cons h]; exact e2
  simp only [if_pos e4, if_pos e2]
  exact numF_eq h2
omit hs in
theorem numE_eq {l : List Int} {i : Nat} (h : From s i l) : (∀ r, numL l = some r → (RN.numE s i).1 = true ∧ From s (RN.numE s i).2 r) ∧ (numL l = none → (RN.numE s i).1 = false) := by
 match l, h with
 | [], h =>
  have hd := intE_eq h
  have e : RN.numE s i = (if RN.tk s i 48 = true then RN.numF s (i + 1) else if RN.dg s i = true then RN.numF s (RN.dE s i) else (false, i)) := by
   unfold RN.numE
   have e0 : ¬ RN.tk s i 45 = true := by rw [tk_nil h]; decide
   simp only [if_neg e0]
  rw [e]
  exact ⟨fun r hr => (by simp [numL] at hr), fun _ => hd.2 rfl⟩
 | c :: l, h =>
  by_cases e : c = 45
  rotate_left
  ·have e1 : RN.numE s i = (if RN.tk s i 48 = true then RN.numF s (i + 1) else if RN.dg s i = true then RN.numF s (RN.dE s i) else (false, i)) := by
    unfold RN.numE
    have e0 : ¬ RN.tk s i 45 = true := by rw [tk_cons h]; simpa using e
    simp only [if_neg e0]
   rw [e1, numL, if_neg e]
   exact intE_eq h
  have e1 : RN.numE s i = (if RN.tk s (i + 1) 48 = true then RN.numF s (i + 1 + 1) else if RN.dg s (i + 1) = true then RN.numF s (RN.dE s (i + 1)) else (false, i + 1)) := by
   unfold RN.numE
   have e0 : RN.tk s i 45 = true := by rw [tk_cons h]; simpa using e
   simp only [if_pos e0]
  rw [e1, numL, if_pos e]
  exact intE_eq h.tail
theorem number_P {l : List Int} (h : Suf s l) : (∀ r, numL l = some r → Ev (fun k => spec_reader_number.f k s (P s l)) (true, s, P s r) ∧ Suf s r) ∧ (numL l = none → ∃ p, Ev (fun k => spec_reader_number.f k s (P s l)) (false, s, p)) := by
 have hn := RN.number_eq hs (i := s.size - l.length) (by omega)
 have he := numE_eq h
 refine ⟨fun r hr => ?_, fun hr => ?_⟩
 ·obtain ⟨h1, h2⟩ := he.1 r hr
  rw [h1] at hn
  obtain ⟨h3, h4⟩ := Suf.of h2
  rw [h4] at hn
  exact ⟨hn, h3⟩
 ·rw [he.2 hr] at hn
  exact ⟨_, hn⟩
end
end Go.Proofs.YtlokkefnbffjnaaDoor.J
end
section
namespace Go.Proofs.YtlokkefnbffjnaaDoor.J
open Go.RowKit Go.Proofs.YtlokkefnbffjnaaDoor.J Go.Proofs.YtlokkefnbffjnaaDoorW.PrintWords Go.Proofs.YtlokkefnbffjnaaDoorW.PrintLast
set_option linter.unusedVariables false

theorem Ev_shift {α : Type} {g : Nat → Option α} {r : α} (h : Ev (fun k => g (k + 1)) r) : Ev g r := Ev.step (fun _ => rfl) h
def Quo (s : ByteArray) (b e : Int) : Prop := ∃ t l, Suf s (34 :: (t ++ 34 :: l)) ∧ Body t ∧ b = P s (34 :: (t ++ 34 :: l)) ∧ e = P s l
inductive POK (s : ByteArray) : S38 → Prop
  | mk {p : S38} : 0 ≤ p.f1 → p.f1 ≤ p.f2 → p.f2 ≤ s.size → (p.f0 = 4 → Quo s p.f1 p.f2) → (∀ n ∈ p.f3, Quo s n.f0 n.f1) → (∀ q ∈ p.f4, POK s q) → p.f3.length ≤ s.size → p.f4.length ≤ s.size → POK s p
theorem P_mono {s : ByteArray} {l r : List Int} (h : r.length ≤ l.length) : P s l ≤ P s r := by unfold P; omega
def VA (s : ByteArray) (l : List Int) : Prop :=
  (∀ r, valL l = some r → ∃ p : S38, POK s p ∧ Suf s r ∧ Ev (fun k => spec_reader_value.f k s (P s l)) (p.f0, p.f1, p.f2, p.f3, p.f4, true, s, P s r)) ∧
  (valL l = none → ∃ a b c d e q, Ev (fun k => spec_reader_value.f k s (P s l)) (a, b, c, d, e, false, s, q))
def EA (s : ByteArray) (l : List Int) : Prop := ∀ x4 : List S38, (∀ q ∈ x4, POK s q) → x4.length + l.length ≤ s.size →
  (∀ r, elsL l = some r → ∃ ys, ((∀ q ∈ ys, POK s q) ∧ ys.length ≤ s.size) ∧ Suf s r ∧ Ev (fun k => spec_reader_elements.l0 k x4 s (P s l)) (ys, true, s, P s r)) ∧
  (elsL l = none → ∃ ys q, Ev (fun k => spec_reader_elements.l0 k x4 s (P s l)) (ys, false, s, q))
def MA (s : ByteArray) (l : List Int) : Prop := ∀ (x5 : List S122) (x6 : List S38), (∀ n ∈ x5, Quo s n.f0 n.f1) → (∀ q ∈ x6, POK s q) → x5.length + l.length ≤ s.size → x6.length + l.length ≤ s.size →
  (∀ r, memL l = some r → ∃ ns ys, ((∀ n ∈ ns, Quo s n.f0 n.f1) ∧ ns.length ≤ s.size) ∧ ((∀ q ∈ ys, POK s q) ∧ ys.length ≤ s.size) ∧ Suf s r ∧ Ev (fun k => spec_reader_members.l0 k x5 x6 s (P s l)) (ns, ys, true, s, P s r)) ∧
  (memL l = none → ∃ ns ys q, Ev (fun k => spec_reader_members.l0 k x5 x6 s (P s l)) (ns, ys, false, s, q))
section
variable {s : ByteArray} (hs : s.size ≤ 2147483647)
include hs
theorem els_of {l : List Int} (h : Suf s l) (hv : VA s l) (ih : ∀ u, u.length < l.length → Suf s u → EA s u) : EA s l := by
 intro x4 h4 hn
 have hs' : s.size ≤ 140737488351232 := by omega
 cases e : valL l with
 | none =>
  obtain ⟨a, b, c, d, e', q, hq⟩ := hv.2 e
  refine ⟨fun r hr => (by rw [elsL.eq_def, e] at hr; cases hr), fun _ => ⟨[], q, Ev_shift ?_⟩⟩
  simp only [spec_reader_elements.l0]
  exact Ev.bind hq (Ev.congr (fun _ => if_neg (by simp)) (Ev.now _))
 | some t =>
  obtain ⟨⟨p0, p1, p2, p3, p4⟩, hp, ht, hq⟩ := hv.1 t e
  have hlen := valL_len e
  have e1 : elsL l = (match skB t with
   | [] => none
   | c :: u => if c = 93 then some u else if c = 44 then elsL (skB u) else none) := by
   rw [elsL.eq_def, e]
   simp only [if_pos hlen]
   split <;> rename_i h1 <;> rw [h1]
  have hys : ∀ q ∈ x4 ++ [(⟨p0, p1, p2, p3, p4⟩ : S38)], POK s q := fun q hq => (List.mem_append.mp hq).elim (h4 q) (fun h => by rw [List.mem_singleton.mp h]; exact hp)
  have hb := blanks_eq hs' t ht
  have hbS := ht.skB
  have hbl := skB_len t
  have go : ∀ {R}, Ev (fun k => (spec_reader_take.f s (P s (skB t)) 93).bind fun bt206 => (if bt206.1 = true then (some (x4 ++ [(⟨p0, p1, p2, p3, p4⟩ : S38)], true, bt206.2.1, bt206.2.2)) else ((spec_reader_take.f bt206.2.1 bt206.2.2 44).bind fun bt209 => (if bt209.1 = true then ((spec_reader_blanks.f k bt209.2.1 bt209.2.2).bind fun bt212 => (spec_reader_elements.l0 k (x4 ++ [(⟨p0, p1, p2, p3, p4⟩ : S38)]) bt212.1 bt212.2)) else (some (([] : List S38), false, bt209.2.1, bt209.2.2)))))) R →
   Ev (fun k => spec_reader_elements.l0 k x4 s (P s l)) R := fun {R} hR => by
   refine Ev_shift ?_
   simp only [spec_reader_elements.l0]
   refine Ev.bind hq (Ev.congr (fun _ => if_pos rfl) (Ev.congr (fun _ => if_pos (by omega)) ?_))
   exact Ev.bind (a := x4 ++ [(⟨p0, p1, p2, p3, p4⟩ : S38)]) (Ev.now _) (Ev.bind hb hR)
  rw [e1]
  match h5 : skB t, hbS with
  | [], _ =>
   refine ⟨fun r hr => (by cases hr), fun _ => ⟨[], P s [], go ?_⟩⟩
   rw [h5]
   refine Ev.congr (fun k => ?_) (Ev.now _)
   simp only [take_nil, Option.bind_some, Bool.false_eq_true, if_false]
  | c :: u, hbS =>
   rw [h5] at hbl
   simp only [List.length_cons] at hbl
   by_cases e93 : c = 93
   ·refine ⟨fun r hr => ?_, fun hr => (by simp only [if_pos e93] at hr; cases hr)⟩
    simp only [if_pos e93, Option.some.injEq] at hr
    subst hr
    refine ⟨x4 ++ [(⟨p0, p1, p2, p3, p4⟩ : S38)], ⟨hys, by simp; omega⟩, hbS.tail, go ?_⟩
    rw [h5]
    refine Ev.congr (fun k => ?_) (Ev.now _)
    simp only [take_cons hs' hbS, if_pos e93, Option.bind_some, if_true]
   by_cases e44 : c = 44
   rotate_left
   ·refine ⟨fun r hr => (by simp only [if_neg e93, if_neg e44] at hr; cases hr), fun _ => ⟨[], P s (c :: u), go ?_⟩⟩
    rw [h5]
    refine Ev.congr (fun k => ?_) (Ev.now _)
    simp only [take_cons hs' hbS, if_neg e93, if_neg e44, Option.bind_some, Bool.false_eq_true, if_false]
   have hu := skB_len u
   have hE := ih (skB u) (by omega) hbS.tail.skB (x4 ++ [(⟨p0, p1, p2, p3, p4⟩ : S38)]) hys zq71
   have hb2 := blanks_eq hs' u hbS.tail
   have go2 : ∀ {R}, Ev (fun k => spec_reader_elements.l0 k (x4 ++ [(⟨p0, p1, p2, p3, p4⟩ : S38)]) s (P s (skB u))) R → Ev (fun k => spec_reader_elements.l0 k x4 s (P s l)) R := fun {R} hR => by
    refine go ?_
    rw [h5]
    simp only [take_cons hs' hbS, if_neg e93, if_pos e44, Option.bind_some, if_true, Bool.false_eq_true, if_false]
    exact Ev.bind hb2 hR
   simp only [if_neg e93, if_pos e44]
   refine ⟨fun r hr => ?_, fun hr => ?_⟩
   ·obtain ⟨ys, h6, h7, h8⟩ := hE.1 r hr
    exact ⟨ys, h6, h7, go2 h8⟩
   ·obtain ⟨ys, q, h8⟩ := hE.2 hr
    exact ⟨ys, q, go2 h8⟩
theorem mem_of {l : List Int} (h : Suf s l) (hv : ∀ u, u.length < l.length → Suf s u → VA s u) (ih : ∀ u, u.length < l.length → Suf s u → MA s u) : MA s l := by
 intro x5 x6 h5 h6 hn hm
 have hs' : s.size ≤ 140737488351232 := by omega
 have bad : ∀ q, Ev (fun k => spec_reader_members.j1 k x5 x6 (P s l) true s q) ([], [], false, s, q) := fun q => by
  refine Ev_shift ?_
  simp only [spec_reader_members.j1]
  exact Ev.congr (fun _ => if_pos trivial) (Ev.now _)
 match l, h with
 | [], h =>
  refine ⟨fun r hr => (by rw [memL.eq_def] at hr; cases hr), fun _ => ⟨[], [], P s [], Ev_shift ?_⟩⟩
  simp only [spec_reader_members.l0, here_P0, Option.bind_some]
  exact Ev.congr (fun _ => if_neg zq49) (bad _)
 | c :: l, h =>
  by_cases e34 : c = 34
  rotate_left
  ·refine ⟨fun r hr => (by rw [memL.eq_def] at hr; simp only [if_neg e34] at hr; cases hr), fun _ => ⟨[], [], P s (c :: l), Ev_shift ?_⟩⟩
   simp only [spec_reader_members.l0, here_P h, Option.bind_some]
   exact Ev.congr (fun _ => if_neg e34) (bad _)
  subst e34
  have hq := quoted_P hs' h
  have st : ∀ {b q R}, Ev (fun k => spec_reader_quoted.f k s (P s (34 :: l))) (b, s, q) → Ev (fun k => spec_reader_members.j1 k x5 x6 (P s (34 :: l)) (!b) s q) R → Ev (fun k => spec_reader_members.l0 k x5 x6 s (P s (34 :: l))) R := fun {b q R} ha hb => by
   refine Ev_shift ?_
   simp only [spec_reader_members.l0, here_P h, Option.bind_some]
   exact Ev.congr (fun _ => if_pos trivial) (Ev.bind ha hb)
  cases e : strL l with
  | none =>
   obtain ⟨q, hq2⟩ := hq.2 e
   refine ⟨fun r hr => (by rw [memL_bad e] at hr; cases hr), fun _ => ⟨[], [], q, st hq2 (bad _)⟩⟩
  | some t =>
   have hq2 := hq.1 t e
   obtain ⟨b, hB, eB⟩ := strL_iff.mp e
   have ht : Suf s t := h.tail.str e
   have hlen := strL_len _ _ _ (Nat.le_refl _) e
   simp only [List.length_cons] at hn hm hlen
   have hQ : Quo s (P s (34 :: l)) (P s t) := ⟨b, t, by rw [← eB]; exact h, hB, by rw [← eB], rfl⟩
   have hns : ∀ n ∈ x5 ++ [(⟨P s (34 :: l), P s t⟩ : S122)], Quo s n.f0 n.f1 := fun n hn => (List.mem_append.mp hn).elim (h5 n) (fun h => by rw [List.mem_singleton.mp h]; exact hQ)
   have hb := blanks_eq hs' t ht
   have hbS := ht.skB
   have hbl := skB_len t
   have go : ∀ {R}, Ev (fun k => (spec_reader_take.f s (P s (skB t)) 58).bind fun bt152 => (if bt152.1 = true then ((spec_reader_blanks.f k bt152.2.1 bt152.2.2).bind fun bt155 => ((spec_reader_value.f k bt155.1 bt155.2).bind fun bt157 => (if bt157.2.2.2.2.2.1 = true then (if x6.length < 1954687338268 then ((some (x6 ++ [(⟨bt157.1, bt157.2.1, bt157.2.2.1, bt157.2.2.2.1, bt157.2.2.2.2.1⟩ : S38)] : List S38)).bind fun y170 => ((spec_reader_blanks.f k bt157.2.2.2.2.2.2.1 bt157.2.2.2.2.2.2.2).bind fun bt173 => ((spec_reader_take.f bt173.1 bt173.2 125).bind fun bt175 => (if bt175.1 = true then (some (x5 ++ [(⟨P s (34 :: l), P s t⟩ : S122)], y170, true, bt175.2.1, bt175.2.2)) else ((spec_reader_take.f bt175.2.1 bt175.2.2 44).bind fun bt178 => (if bt178.1 = true then ((spec_reader_blanks.f k bt178.2.1 bt178.2.2).bind fun bt181 => (spec_reader_members.l0 k (x5 ++ [(⟨P s (34 :: l), P s t⟩ : S122)]) y170 bt181.1 bt181.2)) else (some (([] : List S122), ([] : List S38), false, bt178.2.1, bt178.2.2)))))))) else (none)) else (some (([] : List S122), ([] : List S38), false, bt157.2.2.2.2.2.2.1, bt157.2.2.2.2.2.2.2))))) else (some (([] : List S122), ([] : List S38), false, bt152.2.1, bt152.2.2)))) R →
    Ev (fun k => spec_reader_members.l0 k x5 x6 s (P s (34 :: l))) R := fun {R} hR => by
    refine st hq2 (Ev_shift ?_)
    simp only [spec_reader_members.j1]
    refine Ev.congr (fun _ => if_neg zq49) (Ev.congr (fun _ => if_pos (by omega)) ?_)
    exact Ev.bind (a := x5 ++ [(⟨P s (34 :: l), P s t⟩ : S122)]) (Ev.now _) (Ev.bind hb hR)
   have e1 : memL (34 :: l) = (match skB t with
    | [] => none
    | d :: u => if d = 58 then (match valL (skB u) with
     | none => none
     | some v => (match skB v with
      | [] => none
      | e :: x => if e = 125 then some x else if e = 44 then memL (skB x) else none)) else none) := by
    rw [memL.eq_def]
    simp only [if_true]
    split
    ·rename_i h0
     rw [h0] at e
     cases e
    ·rename_i t' h0
     rw [h0] at e
     cases e
     split
     ·rename_i h1; rw [h1]
     ·rename_i d u h1
      rw [h1]
      simp only
      split
      ·split
       ·rename_i h2; first | rfl | rw [h2]
       ·rename_i v h2
        first | rw [h2] | skip
        try simp only
        have k1 := valL_len h2
        have k2 := skB_len u
        have k3 := skB_len t
        rw [h1] at k3
        simp only [List.length_cons] at k3
        rw [if_pos (by omega)]
        split <;> rename_i h3 <;> rw [h3]
      ·rfl
   rw [e1]
   match h7 : skB t, hbS with
   | [], _ =>
    refine ⟨fun r hr => (by cases hr), fun _ => ⟨[], [], P s [], go ?_⟩⟩
    rw [h7]
    refine Ev.congr (fun k => ?_) (Ev.now _)
    simp only [take_nil, Option.bind_some, Bool.false_eq_true, if_false]
   | d :: u, hbS =>
    rw [h7] at hbl
    simp only [List.length_cons] at hbl
    by_cases e58 : d = 58
    rotate_left
    ·refine ⟨fun r hr => (by simp only [if_neg e58] at hr; cases hr), fun _ => ⟨[], [], P s (d :: u), go ?_⟩⟩
     rw [h7]
     refine Ev.congr (fun k => ?_) (Ev.now _)
     simp only [take_cons hs' hbS, if_neg e58, Option.bind_some, Bool.false_eq_true, if_false]
    have hu := skB_len u
    have hb2 := blanks_eq hs' u hbS.tail
    have hV := hv (skB u) zq61 hbS.tail.skB
    simp only [if_pos e58]
    cases e3 : valL (skB u) with
    | none =>
     obtain ⟨a1, a2, a3, a4, a5, q, hq3⟩ := hV.2 e3
     refine ⟨fun r hr => (by cases hr), fun _ => ⟨[], [], q, go ?_⟩⟩
     rw [h7]
     simp only [take_cons hs' hbS, if_pos e58, Option.bind_some, if_true]
     exact Ev.bind hb2 (Ev.bind hq3 (Ev.congr (fun _ => if_neg (by simp)) (Ev.now _)))
    | some v =>
     obtain ⟨⟨p0, p1, p2, p3, p4⟩, hp, hvS, hq3⟩ := hV.1 v e3
     have hvl := valL_len e3
     have hb3 := blanks_eq hs' v hvS
     have hb3S := hvS.skB
     have hb3l := skB_len v
     have hys : ∀ q ∈ x6 ++ [(⟨p0, p1, p2, p3, p4⟩ : S38)], POK s q := fun q hq => (List.mem_append.mp hq).elim (h6 q) (fun h => by rw [List.mem_singleton.mp h]; exact hp)
     have go3 : ∀ {R}, Ev (fun k => (spec_reader_take.f s (P s (skB v)) 125).bind fun bt175 => (if bt175.1 = true then (some (x5 ++ [(⟨P s (34 :: l), P s t⟩ : S122)], x6 ++ [(⟨p0, p1, p2, p3, p4⟩ : S38)], true, bt175.2.1, bt175.2.2)) else ((spec_reader_take.f bt175.2.1 bt175.2.2 44).bind fun bt178 => (if bt178.1 = true then ((spec_reader_blanks.f k bt178.2.1 bt178.2.2).bind fun bt181 => (spec_reader_members.l0 k (x5 ++ [(⟨P s (34 :: l), P s t⟩ : S122)]) (x6 ++ [(⟨p0, p1, p2, p3, p4⟩ : S38)]) bt181.1 bt181.2)) else (some (([] : List S122), ([] : List S38), false, bt178.2.1, bt178.2.2)))))) R →
      Ev (fun k => spec_reader_members.l0 k x5 x6 s (P s (34 :: l))) R := fun {R} hR => by
      refine go ?_
      rw [h7]
      simp only [take_cons hs' hbS, if_pos e58, Option.bind_some, if_true]
      refine Ev.bind hb2 (Ev.bind hq3 (Ev.congr (fun _ => if_pos rfl) (Ev.congr (fun _ => if_pos (by omega)) ?_)))
      exact Ev.bind hb3 hR
     simp only
     match h8 : skB v, hb3S with
     | [], _ =>
      refine ⟨fun r hr => (by cases hr), fun _ => ⟨[], [], P s [], go3 ?_⟩⟩
      rw [h8]
      refine Ev.congr (fun k => ?_) (Ev.now _)
      simp only [take_nil, Option.bind_some, Bool.false_eq_true, if_false]
     | e :: x, hb3S =>
      rw [h8] at hb3l
      simp only [List.length_cons] at hb3l
      by_cases e125 : e = 125
      ·refine ⟨fun r hr => ?_, fun hr => (by simp only [if_pos e125] at hr; cases hr)⟩
       simp only [if_pos e125, Option.some.injEq] at hr
       subst hr
       refine ⟨_, _, ⟨hns, by simp; omega⟩, ⟨hys, by simp; omega⟩, hb3S.tail, go3 ?_⟩
       rw [h8]
       refine Ev.congr (fun k => ?_) (Ev.now _)
       simp only [take_cons hs' hb3S, if_pos e125, Option.bind_some, if_true]
      by_cases e44 : e = 44
      rotate_left
      ·refine ⟨fun r hr => (by simp only [if_neg e125, if_neg e44] at hr; cases hr), fun _ => ⟨[], [], P s (e :: x), go3 ?_⟩⟩
       rw [h8]
       refine Ev.congr (fun k => ?_) (Ev.now _)
       simp only [take_cons hs' hb3S, if_neg e125, if_neg e44, Option.bind_some, Bool.false_eq_true, if_false]
      have hx := skB_len x
      have hM := ih (skB x) zq61 hb3S.tail.skB _ _ hns hys zq71 zq71
      have hb4 := blanks_eq hs' x hb3S.tail
      have go4 : ∀ {R}, Ev (fun k => spec_reader_members.l0 k (x5 ++ [(⟨P s (34 :: l), P s t⟩ : S122)]) (x6 ++ [(⟨p0, p1, p2, p3, p4⟩ : S38)]) s (P s (skB x))) R → Ev (fun k => spec_reader_members.l0 k x5 x6 s (P s (34 :: l))) R := fun {R} hR => by
       refine go3 ?_
       rw [h8]
       simp only [take_cons hs' hb3S, if_neg e125, if_pos e44, Option.bind_some, if_true, Bool.false_eq_true, if_false]
       exact Ev.bind hb4 hR
      simp only [if_neg e125, if_pos e44]
      refine ⟨fun r hr => ?_, fun hr => ?_⟩
      ·obtain ⟨ns, ys, k1, k2, k3, k4⟩ := hM.1 r hr
       exact ⟨ns, ys, k1, k2, k3, go4 k4⟩
      ·obtain ⟨ns, ys, q, k4⟩ := hM.2 hr
       exact ⟨ns, ys, q, go4 k4⟩
end
end Go.Proofs.YtlokkefnbffjnaaDoor.J
end
section
namespace Go.Proofs.YtlokkefnbffjnaaDoor.J
open Go.RowKit Go.Proofs.YtlokkefnbffjnaaDoor.J Go.Proofs.YtlokkefnbffjnaaDoorW.PrintWords Go.Proofs.YtlokkefnbffjnaaDoorW.PrintLast

theorem up2 {i n : Nat} (h : i ≤ n) (hn : n ≤ 140737488351232) : wrap64 ((i : Int) + 2) = ((i + 2 : Nat) : Int) := up 2 h hn (by omega)
theorem up6 {i n : Nat} (h : i ≤ n) (hn : n ≤ 140737488351232) : wrap64 ((i : Int) + 6) = ((i + 6 : Nat) : Int) := up 6 h hn (by omega)
theorem high_eq (n : Int) : spec_high.f n = some (hiS n) := by
 unfold spec_high.f hiS
 by_cases h : 55296 ≤ n
 rotate_left
 ·rw [if_neg h]; simp [h]
 rw [if_pos h]; simp [h]
theorem low_eq (n : Int) : spec_low.f n = some (loS n) := by
 unfold spec_low.f loS
 by_cases h : 56320 ≤ n
 rotate_left
 ·rw [if_neg h]; simp [h]
 rw [if_pos h]; simp [h]
theorem td {c : Int} (h : 0 ≤ c) (k : Int) : Int.tdiv c k = c / k := Int.tdiv_eq_ediv_of_nonneg h
theorem tm {c : Int} (h : 0 ≤ c) (k : Int) : Int.tmod c k = c % k := Int.tmod_eq_emod_of_nonneg h
theorem appendUTF8_eq {l : List Int} {c : Int} (h0 : 0 ≤ c) (h1 : c ≤ 1114111) (hl : l.length + 4 < 140737488355328) : Ev (fun k => spec_appendUTF8.f k l c) (l ++ utf c) := by
 refine ⟨1, fun k hk => ?_⟩
 obtain ⟨k, rfl⟩ : ∃ m, k = m + 1 := ⟨k - 1, by omega⟩
 unfold spec_appendUTF8.f utf
 simp only [spec_appendUTF8.j0, high_eq, low_eq, Option.bind_some, td h0, tm h0]
 have e1 : wrap64 (c / 64) = c / 64 := w64 (by omega)
 have e2 : wrap64 (c / 4096) = c / 4096 := w64 (by omega)
 have e3 : wrap64 (c / 262144) = c / 262144 := w64 (by omega)
 rw [e1, e2, e3, tm (c := c / 64) (by omega), tm (c := c / 4096) (by omega)]
 by_cases a1 : c < 128
 ·rw [if_pos a1, if_pos a1, if_pos (by omega)]
  congr 3; omega
 rw [if_neg a1, if_neg a1]
 by_cases a2 : c < 2048
 ·rw [if_pos a2, if_pos a2, if_pos zq71]
  rw [w64 (x := 192 + c / 64) (by omega), w64 (x := 128 + c % 64) (by omega)]
  congr 3
  ·omega
  ·congr 1; omega
 rw [if_neg a2, if_neg a2]
 by_cases a3 : hiS c = true
 ·rw [if_pos a3, if_pos trivial, if_pos zq71, if_pos (.inl a3)]
 rw [if_neg a3]
 by_cases a4 : loS c = true
 ·rw [if_pos a4, if_pos zq71, if_pos (.inr a4)]
 rw [if_neg a4, if_neg (show ¬ (hiS c = true ∨ loS c = true) from fun h => h.elim a3 a4)]
 by_cases a5 : c < 65536
 ·rw [if_pos a5, if_pos a5, if_pos zq71]
  rw [w64 (x := 224 + c / 4096) (by omega), w64 (x := 128 + c / 64 % 64) (by omega), w64 (x := 128 + c % 64) (by omega)]
  congr 3
  ·omega
  ·congr 1
   ·omega
   ·congr 1; omega
 rw [if_neg a5, if_neg a5, if_pos zq71]
 rw [w64 (x := 240 + c / 262144) (by omega), w64 (x := 128 + c / 4096 % 64) (by omega), w64 (x := 128 + c / 64 % 64) (by omega), w64 (x := 128 + c % 64) (by omega)]
 congr 3
 ·omega
 ·congr 1
  ·omega
  ·congr 1
   ·omega
   ·congr 1; omega
section
variable {s : ByteArray} (hs : s.size ≤ 140737488351232)
include hs
theorem unit_yes {i j : Nat} {a acc d : Int} {r : List Int} {R : Int × Bool} (h : From s j (a :: r)) (hi : i ≤ s.size) (hj : j < i + 6) (h0 : 0 ≤ acc ∧ acc ≤ 100000000) (hd : hexv a = some d)
 (k : Ev (fun k => spec_unit.l0 k s i (acc * 16 + d) ((j + 1 : Nat) : Int)) R) : Ev (fun k => spec_unit.l0 k s i acc j) R := by
 have hr := hexv_range hd
 refine Ev.step (f := fun k => (spec_hexDigit.f k a).bind fun bt101 => (if bt101.2 = true then (spec_unit.l0 k s i (wrap64 ((wrap64 (acc * 16)) + bt101.1)) ((j + 1 : Nat) : Int)) else some (0, false))) (fun k => ?_)
  (Ev.bind (hexDigit_eq h.head) (Ev.congr (fun n => ?_) k))
 ·have := h.lt
  simp only [spec_unit.l0]
  rw [up6 hi hs, if_pos (by omega), if_pos (by omega), if_pos (by omega), h.bt, up1 (Nat.le_of_lt h.lt) hs]
 ·rw [hd]
  simp only [Option.isSome_some, if_true, Option.getD_some]
  rw [w64 (x := acc * 16) (by omega), w64 (by omega)]
theorem unit_no {i j : Nat} {a acc : Int} {r : List Int} (h : From s j (a :: r)) (hi : i ≤ s.size) (hj : j < i + 6) (hd : hexv a = none) : Ev (fun k => spec_unit.l0 k s i acc j) (0, false) := by
 refine Ev.step (f := fun k => (spec_hexDigit.f k a).bind fun bt101 => (if bt101.2 = true then (spec_unit.l0 k s i (wrap64 ((wrap64 (acc * 16)) + bt101.1)) ((j + 1 : Nat) : Int)) else some (0, false))) (fun k => ?_)
  (Ev.bind (hexDigit_eq h.head) (Ev.congr (fun n => ?_) (Ev.now _)))
 ·have := h.lt
  simp only [spec_unit.l0]
  rw [up6 hi hs, if_pos (by omega), if_pos (by omega), if_pos (by omega), h.bt, up1 (Nat.le_of_lt h.lt) hs]
 ·rw [hd]
  rfl
theorem unit_l0 {i : Nat} {l : List Int} (h : From s (i + 2) l) (hl : 4 ≤ l.length) : Ev (fun k => spec_unit.l0 k s i 0 ((i + 2 : Nat) : Int)) ((hex4 l).getD 0, (hex4 l).isSome) := by
 match l, hl, h with
 | a :: b :: c :: d :: r, _, h =>
  have hz := h.len
  simp only [List.length_cons] at hz
  have hi : i ≤ s.size := by omega
  simp only [hex4]
  cases ea : hexv a with
  | none => exact Ev_same (unit_no hs h hi (by omega) ea) (by simp)
  | some x =>
   have := hexv_range ea
   refine unit_yes hs h hi (by omega) (by omega) ea ?_
   cases eb : hexv b with
   | none => exact Ev_same (unit_no hs h.tail hi (by omega) eb) (by simp)
   | some y =>
    have := hexv_range eb
    refine unit_yes hs h.tail hi (by omega) (by omega) eb ?_
    cases ec : hexv c with
    | none => exact Ev_same (unit_no hs h.tail.tail hi (by omega) ec) (by simp)
    | some z =>
     have := hexv_range ec
     refine unit_yes hs h.tail.tail hi (by omega) (by omega) ec ?_
     cases ed : hexv d with
     | none => exact Ev_same (unit_no hs h.tail.tail.tail hi (by omega) ed) (by simp)
     | some u =>
      have := hexv_range ed
      refine unit_yes hs h.tail.tail.tail hi (by omega) (by omega) ed ?_
      refine Ev.step (f := fun _ => some ((((0 * 16 + x) * 16 + y) * 16 + z) * 16 + u, true)) (fun k => ?_) (Ev_same (Ev.now _) (by simp))
      simp only [spec_unit.l0]
      rw [up6 hi hs, if_neg (by omega)]
theorem unit_eq {i : Nat} {l : List Int} (h : From s i l) : Ev (fun k => spec_unit.f k s i) ((unitL l).getD 0, (unitL l).isSome) := by
 have hz := h.len
 have no : Ev (fun k => spec_unit.j0 k s i true) (0, false) := Ev.step (f := fun _ => some (0, false)) (fun k => by simp only [spec_unit.j0]; rw [if_pos trivial]) (Ev.now _)
 unfold spec_unit.f
 have e0 : wrap64 ((s.size : Int) - (i : Int)) = ((l.length : Nat) : Int) := by rw [w64 (by omega)]; omega
 rw [e0]
 by_cases h6 : l.length < 6
 ·have e1 : unitL l = none := by
   cases e : unitL l with
   | none => rfl
   | some v => have := unitL_len e; omega
  rw [e1]
  exact Ev.congr (fun k => if_pos (by omega)) no
 match l, h, h6, hz with
 | [], _, h6, _ => exact absurd (by simp) h6
 | [a], _, h6, _ => exact absurd (by simp) h6
 | a :: b :: l, h, h6, hz =>
  simp only [List.length_cons] at h6 hz
  have hlt := h.lt
  have e1 : unitL (a :: b :: l) = if a = 92 ∧ b = 117 then hex4 l else none := rfl
  by_cases h1 : a = 92
  rotate_left
  ·rw [e1, if_neg (by omega)]
   refine Ev.congr (fun k => ?_) no
   rw [if_neg zq61, if_pos (by omega), if_pos (by omega), h.bt, if_neg h1]
  refine Ev.congr (f := fun k => spec_unit.j0 k s i (b != 117)) (fun k => ?_) ?_
  ·rw [if_neg zq61, if_pos (by omega), if_pos (by omega), h.bt, if_pos h1, up1 (Nat.le_of_lt h.lt) hs, if_pos (by omega), if_pos (by omega), h.tail.bt]
  ·by_cases h2 : b = 117
   rotate_left
   ·rw [e1, if_neg (by omega)]
    exact Ev.congr (fun k => by rw [bne_iff_ne.mpr h2]) no
   rw [e1, if_pos ⟨h1, h2⟩]
   refine Ev.congr (f := fun k => spec_unit.j0 k s i false) (fun k => by rw [h2]; rfl) ?_
   refine Ev.step (f := fun k => spec_unit.l0 k s i 0 ((i + 2 : Nat) : Int)) (fun k => ?_) (unit_l0 hs (by simpa using h.tail.tail) (by omega))
   simp only [spec_unit.j0]
   rw [if_neg zq49, up2 (Nat.le_of_lt h.lt) hs]
omit hs in
theorem short_eq (b : Int) : spec_short.f b = some (unl b) := by
 unfold spec_short.f unl
 repeat' split
 all_goals rfl
omit hs in
theorem unitL_range {l : List Int} {v : Int} (h : unitL l = some v) : 0 ≤ v ∧ v ≤ 65535 := by
 unfold unitL at h
 split at h
 ·split at h
  ·exact hex4_range h
  ·cases h
 ·cases h
theorem unquote_l0 : ∀ (n i : Nat) (l acc : List Int), l.length ≤ n → From s i l → Body l → acc.length + l.length ≤ 140737488351232 → Ev (fun k => spec_Unquote.l0 k acc s i) (strOfNums (acc ++ unqL l))
 | n, i, [], acc, _, h, _, _ => by
  have := h.nil
  refine Ev.step (f := fun _ => some (strOfNums acc)) (fun k => ?_) (Ev_same (Ev.now _) (by rw [unqL_nil, List.append_nil]))
  simp only [spec_Unquote.l0]
  rw [if_neg (by omega)]
 | 0, i, c :: l, acc, hn, _, _, _ => by simp at hn
 | n + 1, i, c :: l, acc, hn, h, hb, hk => by
  simp only [List.length_cons] at hn hk
  have hlt := h.lt
  have hz := h.len
  simp only [List.length_cons] at hz
  have hle := Nat.le_of_lt hlt
  have e1 := up1 hle hs
  have e2 := up2 hle hs
  have e6 := up6 hle hs
  by_cases hc : c = 92
  rotate_left
  ·cases hb with
   | two h1 hb => exact absurd rfl hc
   | six h1 hb => exact absurd rfl hc
   | raw _ _ _ hb =>
    refine Ev.step (fun k => ?_) (Ev_same (unquote_l0 n (i + 1) l (acc ++ [c]) (by omega) h.tail hb zq71) ?_)
    ·simp only [spec_Unquote.l0]
     rw [if_pos (by omega), if_pos (by omega), h.bt, if_neg hc, if_pos (by omega), e1]
    ·rw [unqL_raw _ hc, List.append_assoc]
     rfl
  subst hc
  have st : ∀ {a b R}, Ev (fun k => spec_unit.f k s i) (a, b) → Ev (fun x1 => (if b = true then ((spec_unit.f x1 s ((i + 6 : Nat) : Int)).bind fun bt110 => (if bt110.2 = true then ((spec_high.f a).bind fun t112 => (if t112 = true then ((spec_low.f bt110.1).bind fun t113 => (if t113 = true then ((spec_appendUTF8.f x1 acc (wrap64 ((wrap64 (65536 + (wrap64 ((wrap64 (a - 55296)) * 1024)))) + (wrap64 (bt110.1 - 56320))))).bind fun t114 => (spec_Unquote.l0 x1 t114 s (wrap64 (((i + 6 : Nat) : Int) + 6)))) else ((spec_appendUTF8.f x1 acc a).bind fun t117 => (spec_Unquote.l0 x1 t117 s ((i + 6 : Nat) : Int))))) else ((spec_appendUTF8.f x1 acc a).bind fun t120 => (spec_Unquote.l0 x1 t120 s ((i + 6 : Nat) : Int))))) else ((spec_appendUTF8.f x1 acc a).bind fun t123 => (spec_Unquote.l0 x1 t123 s ((i + 6 : Nat) : Int))))) else (if 0 ≤ ((i + 1 : Nat) : Int) then (if ((i + 1 : Nat) : Int) < (s.size : Int) then ((spec_short.f (bt s ((i + 1 : Nat) : Int))).bind fun t106 => (if acc.length < 140737488355328 then (spec_Unquote.l0 x1 (acc ++ [t106]) s ((i + 2 : Nat) : Int)) else (none))) else (none)) else (none)))) R → Ev (fun k => spec_Unquote.l0 k acc s i) R := fun {a b R} hx hy => by
   refine Ev.step (f := fun x1 => (spec_unit.f x1 s i).bind fun bt104 => (if bt104.2 = true then ((spec_unit.f x1 s ((i + 6 : Nat) : Int)).bind fun bt110 => (if bt110.2 = true then ((spec_high.f bt104.1).bind fun t112 => (if t112 = true then ((spec_low.f bt110.1).bind fun t113 => (if t113 = true then ((spec_appendUTF8.f x1 acc (wrap64 ((wrap64 (65536 + (wrap64 ((wrap64 (bt104.1 - 55296)) * 1024)))) + (wrap64 (bt110.1 - 56320))))).bind fun t114 => (spec_Unquote.l0 x1 t114 s (wrap64 (((i + 6 : Nat) : Int) + 6)))) else ((spec_appendUTF8.f x1 acc bt104.1).bind fun t117 => (spec_Unquote.l0 x1 t117 s ((i + 6 : Nat) : Int))))) else ((spec_appendUTF8.f x1 acc bt104.1).bind fun t120 => (spec_Unquote.l0 x1 t120 s ((i + 6 : Nat) : Int))))) else ((spec_appendUTF8.f x1 acc bt104.1).bind fun t123 => (spec_Unquote.l0 x1 t123 s ((i + 6 : Nat) : Int))))) else (if 0 ≤ ((i + 1 : Nat) : Int) then (if ((i + 1 : Nat) : Int) < (s.size : Int) then ((spec_short.f (bt s ((i + 1 : Nat) : Int))).bind fun t106 => (if acc.length < 140737488355328 then (spec_Unquote.l0 x1 (acc ++ [t106]) s ((i + 2 : Nat) : Int)) else (none))) else (none)) else (none)))) (fun k => ?_) (Ev.bind hx hy)
   simp only [spec_Unquote.l0]
   rw [if_pos (by omega), if_pos (by omega), if_pos h.bt, e1, e2, e6]
  have hu := unit_eq hs h
  cases hb with
  | raw _ _ h3 _ => exact absurd rfl h3
  | @two b l hE hb =>
   rw [unitL_two (isE_ne hE)] at hu
   refine st hu (Ev.congr (f := fun x1 => spec_Unquote.l0 x1 (acc ++ [unl b]) s ((i + 2 : Nat) : Int)) (fun k => ?_) ?_)
   ·rw [if_neg zq49, if_pos (by omega), if_pos (by have := h.tail.lt; omega), h.tail.bt, short_eq, Option.bind_some, if_pos (by omega)]
   ·simp only [List.length_cons] at hn hk
    refine Ev_same (unquote_l0 n (i + 2) l (acc ++ [unl b]) (by omega) h.tail.tail hb zq71) ?_
    rw [unqL_two _ (isE_ne hE), List.append_assoc]
    rfl
  | @six a b c d v l hx hb =>
   have hr := hex4_range hx
   rw [unitL_six hx] at hu
   simp only [List.length_cons] at hn hk
   have hF : From s (i + 6) l := h.tail.tail.tail.tail.tail.tail
   have hu2 := unit_eq hs hF
   have one : ∀ {R}, Ev (fun x1 => (spec_appendUTF8.f x1 acc v).bind fun t123 => (spec_Unquote.l0 x1 t123 s ((i + 6 : Nat) : Int))) R ↔ Ev (fun x1 => (spec_appendUTF8.f x1 acc v).bind fun t123 => (spec_Unquote.l0 x1 t123 s ((i + 6 : Nat) : Int))) R := Iff.rfl
   have hul := utf_len v
   have fin : Ev (fun x1 => (spec_appendUTF8.f x1 acc v).bind fun t123 => (spec_Unquote.l0 x1 t123 s ((i + 6 : Nat) : Int))) (strOfNums (acc ++ (utf v ++ unqL l))) := by
    refine Ev.bind (appendUTF8_eq hr.1 (by omega) (by omega)) ?_
    have := unquote_l0 n (i + 6) l (acc ++ utf v) (by omega) hF hb zq71
    rwa [List.append_assoc] at this
   refine st hu ?_
   rw [unqL_six hx]
   refine Ev.congr (fun k => if_pos rfl) (Ev.bind hu2 ?_)
   simp only [Option.getD_some]
   cases hv2 : unitL l with
   | none =>
    have e : pairL v l = none := by unfold pairL; rw [hv2]; rfl
    rw [e]
    exact Ev.congr (fun k => if_neg (by simp)) fin
   | some m =>
    have hm := unitL_range hv2
    refine Ev.congr (f := fun x1 => if hiS v = true then (if loS m = true then ((spec_appendUTF8.f x1 acc (wrap64 ((wrap64 (65536 + (wrap64 ((wrap64 (v - 55296)) * 1024)))) + (wrap64 (m - 56320))))).bind fun t114 => (spec_Unquote.l0 x1 t114 s (wrap64 (((i + 6 : Nat) : Int) + 6)))) else ((spec_appendUTF8.f x1 acc v).bind fun t117 => (spec_Unquote.l0 x1 t117 s ((i + 6 : Nat) : Int)))) else ((spec_appendUTF8.f x1 acc v).bind fun t120 => (spec_Unquote.l0 x1 t120 s ((i + 6 : Nat) : Int)))) (fun k => ?_) ?_
    ·rw [if_pos (by simp), high_eq, Option.bind_some]
     simp only [low_eq, Option.bind_some, Option.getD_some]
    by_cases h3 : hiS v = true
    rotate_left
    ·have e : pairL v l = none := by unfold pairL; rw [hv2, Option.bind_some, if_neg (by simp [h3])]
     rw [e]
     exact Ev.congr (fun k => if_neg h3) fin
    by_cases h4 : loS m = true
    rotate_left
    ·have e : pairL v l = none := by unfold pairL; rw [hv2, Option.bind_some, if_neg (by simp [h4])]
     rw [e]
     exact Ev.congr (fun k => by rw [if_pos h3, if_neg h4]) fin
    have e : pairL v l = some m := by unfold pairL; rw [hv2, Option.bind_some, h3, h4]; rfl
    rw [e]
    have h3' := h3
    have h4' := h4
    simp only [hiS, decide_eq_true_eq] at h3'
    simp only [loS, decide_eq_true_eq] at h4'
    have h6 := unitL_len hv2
    have hC : wrap64 ((wrap64 (65536 + (wrap64 ((wrap64 (v - 55296)) * 1024)))) + (wrap64 (m - 56320))) = 65536 + (v - 55296) * 1024 + (m - 56320) := by
     rw [w64 (x := v - 55296) (by omega), w64 (x := (v - 55296) * 1024) (by omega), w64 (x := 65536 + (v - 55296) * 1024) (by omega), w64 (x := m - 56320) (by omega), w64 (by omega)]
    have hul2 := utf_len (65536 + (v - 55296) * 1024 + (m - 56320))
    refine Ev.congr (f := fun x1 => (spec_appendUTF8.f x1 acc (65536 + (v - 55296) * 1024 + (m - 56320))).bind fun t114 => (spec_Unquote.l0 x1 t114 s ((i + 6 + 6 : Nat) : Int))) (fun k => ?_) (Ev.bind (appendUTF8_eq (by omega) (by omega) (by omega)) ?_)
    ·rw [if_pos h3, if_pos h4, hC, up6 (i := i + 6) (by have := hF.len; omega) hs]
    ·have := unquote_l0 n (i + 6 + 6) (l.drop 6) (acc ++ utf (65536 + (v - 55296) * 1024 + (m - 56320))) (by rw [List.length_drop]; omega) (hF.drop 6 h6) (body_drop6 hb hv2) zq71
     rwa [List.append_assoc] at this
theorem unquote_eq {b : List Int} (hq : bytesOf s = 34 :: (b ++ [34])) (hb : Body b) : Ev (fun k => spec_Unquote.f k s) (strOfNums (unqL b)) := by
 have hz : s.size = b.length + 2 := by
  have := congrArg List.length hq
  rw [bytesOf_length] at this
  simpa using this
 have e0 : wrap64 ((s.size : Int) - 1) = ((b.length + 1 : Nat) : Int) := by rw [w64 (by omega)]; omega
 have hF : From s 1 (b ++ [34]) := ⟨by omega, by rw [hq]; rfl⟩
 have hx : bytesOf (s.extract 1 (b.length + 1)) = b := by
  have := hF.extract
  rwa [Nat.add_comm] at this
 refine Ev.congr (f := fun k => spec_Unquote.l0 k [] (s.extract 1 (b.length + 1)) ((0 : Nat) : Int)) (fun k => ?_) ?_
 ·unfold spec_Unquote.f
  rw [e0, if_pos (by omega), if_pos (by omega), Int.toNat_natCast]
  rfl
 ·have hz2 : (s.extract 1 (b.length + 1)).size ≤ 140737488351232 := by
   rw [← bytesOf_length, hx]
   omega
  have := unquote_l0 hz2 b.length 0 b [] (Nat.le_refl _) (by have := From.start (s.extract 1 (b.length + 1)); rwa [hx] at this) hb zq71
  simpa using this
end

end Go.Proofs.YtlokkefnbffjnaaDoor.J
end
section
namespace Go.Proofs.YtlokkefnbffjnaaDoor.J
open Go.RowKit Go.Proofs.YtlokkefnbffjnaaDoor.J Go.Proofs.YtlokkefnbffjnaaDoorW.PrintWords Go.Proofs.YtlokkefnbffjnaaDoorW.PrintLast
set_option linter.unusedVariables false

theorem wordL_head {w0 : Int} {w : List Int} {c : Int} {r : List Int} (h : c ≠ w0) : wordL (w0 :: w) (c :: r) = none := by
 unfold wordL
 rw [if_neg]
 intro e
 simp only [List.length_cons, List.take_succ_cons, List.cons.injEq] at e
 exact h e.1
theorem nullB : bytesOf (⟨#[110, 117, 108, 108]⟩ : ByteArray) = nullW := by decide
theorem falseB : bytesOf (⟨#[102, 97, 108, 115, 101]⟩ : ByteArray) = falseW := by decide
theorem trueB : bytesOf (⟨#[116, 114, 117, 101]⟩ : ByteArray) = trueW := by decide
theorem wordL_suf {s : ByteArray} {w l r : List Int} (h : Suf s l) (k : wordL w l = some r) : Suf s r := by
 unfold wordL at k
 split at k
 ·cases k
  exact h.drop _
 ·cases k
def wdL (l : List Int) : Option (List Int) :=
  match l with
  | [] => none
  | c :: r => if c = 110 then wordL nullW (c :: r) else if c = 102 then wordL falseW (c :: r) else if c = 116 then wordL trueW (c :: r) else none
section
variable {s : ByteArray} (hs : s.size ≤ 2147483647)
include hs
omit hs in
theorem plain {l r : List Int} (hr : r.length ≤ l.length) {kd : Int} (hk : kd ≠ 4) : POK s ⟨kd, P s l, P s r, [], []⟩ :=
 .mk (P_le s l).1 (P_mono hr) (P_le s r).2 (fun h => absurd h hk) (fun _ h => (by simp at h)) (fun _ h => (by simp at h)) (Nat.zero_le _) (Nat.zero_le _)
theorem words_of {l : List Int} (h : Suf s l) :
 (∀ r, wdL l = some r → ∃ p : S38, POK s p ∧ Suf s r ∧ Ev (fun k => spec_reader_value.j0 k true false s (P s l) 0 (P s l) 0) (p.f0, p.f1, p.f2, p.f3, p.f4, true, s, P s r)) ∧
 (wdL l = none → ∃ a b c d e q, Ev (fun k => spec_reader_value.j0 k true false s (P s l) 0 (P s l) 0) (a, b, c, d, e, false, s, q)) := by
 have hs' : s.size ≤ 140737488351232 := by omega
 have w1 := word_eq hs' h (⟨#[110, 117, 108, 108]⟩ : ByteArray) zq49
 have w2 := word_eq hs' h (⟨#[102, 97, 108, 115, 101]⟩ : ByteArray) zq49
 have w3 := word_eq hs' h (⟨#[116, 114, 117, 101]⟩ : ByteArray) zq49
 rw [nullB] at w1
 rw [falseB] at w2
 rw [trueB] at w3
 have yes : ∀ {kd : Int} {r}, kd ≠ 4 → Suf s r → r.length ≤ l.length → Ev (fun k => spec_reader_value.j0 k true false s (P s l) 0 (P s l) 0) (kd, P s l, P s r, [], [], true, s, P s r) →
  ∃ p : S38, POK s p ∧ Suf s r ∧ Ev (fun k => spec_reader_value.j0 k true false s (P s l) 0 (P s l) 0) (p.f0, p.f1, p.f2, p.f3, p.f4, true, s, P s r) := fun {kd r} hk hS hl hE =>
  ⟨⟨kd, P s l, P s r, [], []⟩, plain hl hk, hS, hE⟩
 have no : wordL nullW l = none → wordL falseW l = none → wordL trueW l = none → ∃ a b c d e q, Ev (fun k => spec_reader_value.j0 k true false s (P s l) 0 (P s l) 0) (a, b, c, d, e, false, s, q) := fun k1 k2 k3 => by
  rw [k1] at w1
  rw [k2] at w2
  rw [k3] at w3
  refine ⟨0, P s l, P s l, [], [], P s l, Ev_shift (Ev.congr (fun k => ?_) (Ev.now _))⟩
  simp only [spec_reader_value.j0, Bool.false_eq_true, if_false, w1, w2, w3, Option.bind_some]
 match l, h with
 | [], h => exact ⟨fun r hr => (by cases hr), fun _ => no rfl rfl rfl⟩
 | c :: r0, h =>
  unfold wdL
  by_cases e1 : c = 110
  ·simp only [if_pos e1]
   have k2 : wordL falseW (c :: r0) = none := wordL_head (by omega)
   have k3 : wordL trueW (c :: r0) = none := wordL_head (by omega)
   refine ⟨fun r hr => ?_, fun hr => no hr k2 k3⟩
   have hl := wordL_len zq49 hr
   rw [hr] at w1
   refine yes (kd := 0) zq49 (wordL_suf h hr) (by omega) (Ev_shift (Ev.congr (fun k => ?_) (Ev.now _)))
   simp only [spec_reader_value.j0, Bool.false_eq_true, if_false, w1, Option.bind_some, if_true]
  have k1 : wordL nullW (c :: r0) = none := wordL_head e1
  simp only [if_neg e1]
  by_cases e2 : c = 102
  ·simp only [if_pos e2]
   have k3 : wordL trueW (c :: r0) = none := wordL_head (by omega)
   refine ⟨fun r hr => ?_, fun hr => no k1 hr k3⟩
   have hl := wordL_len zq49 hr
   rw [k1] at w1
   rw [hr] at w2
   refine yes (kd := 1) zq49 (wordL_suf h hr) (by omega) (Ev_shift (Ev.congr (fun k => ?_) (Ev.now _)))
   simp only [spec_reader_value.j0, Bool.false_eq_true, if_false, w1, w2, Option.bind_some, if_true]
  have k2 : wordL falseW (c :: r0) = none := wordL_head e2
  simp only [if_neg e2]
  by_cases e3 : c = 116
  rotate_left
  ·simp only [if_neg e3]
   exact ⟨fun r hr => (by cases hr), fun _ => no k1 k2 (wordL_head e3)⟩
  simp only [if_pos e3]
  refine ⟨fun r hr => ?_, fun hr => no k1 k2 hr⟩
  have hl := wordL_len zq49 hr
  rw [k1] at w1
  rw [k2] at w2
  rw [hr] at w3
  refine yes (kd := 2) zq49 (wordL_suf h hr) (by omega) (Ev_shift (Ev.congr (fun k => ?_) (Ev.now _)))
  simp only [spec_reader_value.j0, Bool.false_eq_true, if_false, w1, w2, w3, Option.bind_some, if_true]
theorem obj_of {c : Int} {l : List Int} (h : Suf s (c :: l)) (ih : ∀ u, u.length < l.length + 1 → Suf s u → MA s u) :
 (∀ r, objL l = some r → ∃ ns ys, ((∀ n ∈ ns, Quo s n.f0 n.f1) ∧ ns.length ≤ s.size) ∧ ((∀ q ∈ ys, POK s q) ∧ ys.length ≤ s.size) ∧ Suf s r ∧ Ev (fun k => spec_reader_members.f k s (P s (c :: l))) (ns, ys, true, s, P s r)) ∧
 (objL l = none → ∃ ns ys q, Ev (fun k => spec_reader_members.f k s (P s (c :: l))) (ns, ys, false, s, q)) := by
 have hs' : s.size ≤ 140737488351232 := by omega
 have hb := blanks_eq hs' l h.tail
 have hbS := h.tail.skB
 have hbl := skB_len l
 have go : ∀ {R}, Ev (fun k => (spec_reader_take.f s (P s (skB l)) 125).bind fun bt138 => (if bt138.1 = true then (some (([] : List S122), ([] : List S38), true, bt138.2.1, bt138.2.2)) else (spec_reader_members.l0 k ([] : List S122) ([] : List S38) bt138.2.1 bt138.2.2))) R → Ev (fun k => spec_reader_members.f k s (P s (c :: l))) R := fun {R} hR => by
  refine Ev_shift ?_
  simp only [spec_reader_members.f, up_P hs' h]
  exact Ev.bind hb hR
 have e1 : objL l = (match skB l with
  | [] => none
  | c :: r => if c = 125 then some r else memL (c :: r)) := by
  rw [objL.eq_def]
  split <;> rename_i h1 <;> rw [h1]
 rw [e1]
 match h5 : skB l, hbS with
 | [], hbS =>
  rw [h5] at go hbl
  have hM := ih [] (by simp) hbS [] [] (fun _ h => (by simp at h)) (fun _ h => (by simp at h)) (by simp) (by simp)
  refine ⟨fun r hr => (by cases hr), fun _ => ?_⟩
  obtain ⟨ns, ys, q, hq⟩ := hM.2 (by rw [memL.eq_def])
  refine ⟨ns, ys, q, go ?_⟩
  simp only [take_nil, Option.bind_some, Bool.false_eq_true, if_false]
  exact hq
 | d :: u, hbS =>
  rw [h5] at go hbl
  simp only [List.length_cons] at hbl
  by_cases e : d = 125
  ·refine ⟨fun r hr => ?_, fun hr => (by simp only [if_pos e] at hr; cases hr)⟩
   simp only [if_pos e, Option.some.injEq] at hr
   subst hr
   refine ⟨[], [], ⟨fun _ h => (by simp at h), Nat.zero_le _⟩, ⟨fun _ h => (by simp at h), Nat.zero_le _⟩, hbS.tail, go (Ev.congr (fun k => ?_) (Ev.now _))⟩
   simp only [take_cons hs' hbS, if_pos e, Option.bind_some, if_true]
  have hle := hbS.le
  have hM := ih (d :: u) zq61 hbS [] [] (fun _ h => (by simp at h)) (fun _ h => (by simp at h)) (by simpa using hle) (by simpa using hle)
  have go2 : ∀ {R}, Ev (fun k => spec_reader_members.l0 k [] [] s (P s (d :: u))) R → Ev (fun k => spec_reader_members.f k s (P s (c :: l))) R := fun {R} hR => by
   refine go ?_
   simp only [take_cons hs' hbS, if_neg e, Option.bind_some, Bool.false_eq_true, if_false]
   exact hR
  simp only [if_neg e]
  refine ⟨fun r hr => ?_, fun hr => ?_⟩
  ·obtain ⟨ns, ys, k1, k2, k3, k4⟩ := hM.1 r hr
   exact ⟨ns, ys, k1, k2, k3, go2 k4⟩
  ·obtain ⟨ns, ys, q, k4⟩ := hM.2 hr
   exact ⟨ns, ys, q, go2 k4⟩
theorem arr_of {c : Int} {l : List Int} (h : Suf s (c :: l)) (ih : ∀ u, u.length < l.length + 1 → Suf s u → EA s u) :
 (∀ r, arrL l = some r → ∃ ys, ((∀ q ∈ ys, POK s q) ∧ ys.length ≤ s.size) ∧ Suf s r ∧ Ev (fun k => spec_reader_elements.f k s (P s (c :: l))) (ys, true, s, P s r)) ∧
 (arrL l = none → ∃ ys q, Ev (fun k => spec_reader_elements.f k s (P s (c :: l))) (ys, false, s, q)) := by
 have hs' : s.size ≤ 140737488351232 := by omega
 have hb := blanks_eq hs' l h.tail
 have hbS := h.tail.skB
 have hbl := skB_len l
 have go : ∀ {R}, Ev (fun k => (spec_reader_take.f s (P s (skB l)) 93).bind fun bt185 => (if bt185.1 = true then (some (([] : List S38), true, bt185.2.1, bt185.2.2)) else (spec_reader_elements.l0 k ([] : List S38) bt185.2.1 bt185.2.2))) R → Ev (fun k => spec_reader_elements.f k s (P s (c :: l))) R := fun {R} hR => by
  refine Ev_shift ?_
  simp only [spec_reader_elements.f, up_P hs' h]
  exact Ev.bind hb hR
 have e1 : arrL l = (match skB l with
  | [] => none
  | c :: r => if c = 93 then some r else elsL (c :: r)) := by
  rw [arrL.eq_def]
  split <;> rename_i h1 <;> rw [h1]
 rw [e1]
 match h5 : skB l, hbS with
 | [], hbS =>
  rw [h5] at go hbl
  have hM := ih [] (by simp) hbS [] (fun _ h => (by simp at h)) (by simp)
  refine ⟨fun r hr => (by cases hr), fun _ => ?_⟩
  obtain ⟨ys, q, hq⟩ := hM.2 (by rw [elsL.eq_def, valL.eq_def])
  refine ⟨ys, q, go ?_⟩
  simp only [take_nil, Option.bind_some, Bool.false_eq_true, if_false]
  exact hq
 | d :: u, hbS =>
  rw [h5] at go hbl
  simp only [List.length_cons] at hbl
  by_cases e : d = 93
  ·refine ⟨fun r hr => ?_, fun hr => (by simp only [if_pos e] at hr; cases hr)⟩
   simp only [if_pos e, Option.some.injEq] at hr
   subst hr
   refine ⟨[], ⟨fun _ h => (by simp at h), Nat.zero_le _⟩, hbS.tail, go (Ev.congr (fun k => ?_) (Ev.now _))⟩
   simp only [take_cons hs' hbS, if_pos e, Option.bind_some, if_true]
  have hle := hbS.le
  have hM := ih (d :: u) zq61 hbS [] (fun _ h => (by simp at h)) (by simpa using hle)
  have go2 : ∀ {R}, Ev (fun k => spec_reader_elements.l0 k [] s (P s (d :: u))) R → Ev (fun k => spec_reader_elements.f k s (P s (c :: l))) R := fun {R} hR => by
   refine go ?_
   simp only [take_cons hs' hbS, if_neg e, Option.bind_some, Bool.false_eq_true, if_false]
   exact hR
  simp only [if_neg e]
  refine ⟨fun r hr => ?_, fun hr => ?_⟩
  ·obtain ⟨ys, k2, k3, k4⟩ := hM.1 r hr
   exact ⟨ys, k2, k3, go2 k4⟩
  ·obtain ⟨ys, q, k4⟩ := hM.2 hr
   exact ⟨ys, q, go2 k4⟩
theorem val_of {l : List Int} (h : Suf s l) (ihE : ∀ u, u.length < l.length → Suf s u → EA s u) (ihM : ∀ u, u.length < l.length → Suf s u → MA s u) : VA s l := by
 have hs' : s.size ≤ 140737488351232 := by omega
 match l, h with
 | [], h =>
  refine ⟨fun r hr => (by rw [valL.eq_def] at hr; cases hr), fun _ => ?_⟩
  obtain ⟨a, b, c, d, e, q, hq⟩ := (words_of hs h).2 rfl
  refine ⟨a, b, c, d, e, q, Ev_shift ?_⟩
  simp only [spec_reader_value.f, here_P0, Option.bind_some]
  refine Ev.congr (fun k => ?_) hq
  rw [if_neg zq49, if_neg zq49, if_neg zq49, if_neg zq49, if_neg zq49]
 | c :: l, h =>
  have st : ∀ {R}, Ev (fun k => if c = 123 then ((spec_reader_members.f k s (P s (c :: l))).bind fun bt106 => (some (6, P s (c :: l), bt106.2.2.2.2, bt106.1, bt106.2.1, bt106.2.2.1, bt106.2.2.2.1, bt106.2.2.2.2))) else (if c = 91 then ((spec_reader_elements.f k s (P s (c :: l))).bind fun bt115 => (some (5, P s (c :: l), bt115.2.2.2, ([] : List S122), bt115.1, bt115.2.1, bt115.2.2.1, bt115.2.2.2))) else (if c = 34 then ((spec_reader_quoted.f k s (P s (c :: l))).bind fun bt121 => (some (4, P s (c :: l), bt121.2.2, ([] : List S122), ([] : List S38), bt121.1, bt121.2.1, bt121.2.2))) else (if c = 45 then (spec_reader_value.j0 k true true s (P s (c :: l)) 0 (P s (c :: l)) 0) else (if 48 ≤ c then (spec_reader_value.j0 k true (decide (c ≤ 57)) s (P s (c :: l)) 0 (P s (c :: l)) 0) else (spec_reader_value.j0 k true false s (P s (c :: l)) 0 (P s (c :: l)) 0)))))) R →
   Ev (fun k => spec_reader_value.f k s (P s (c :: l))) R := fun {R} hR => by
   refine Ev_shift ?_
   simp only [spec_reader_value.f, here_P h, Option.bind_some]
   exact hR
  have hnum : Ev (fun k => spec_reader_value.j0 k true true s (P s (c :: l)) 0 (P s (c :: l)) 0) = Ev (fun k => (spec_reader_number.f (k - 1) s (P s (c :: l))).bind fun bt124 => (some (3, P s (c :: l), bt124.2.2, ([] : List S122), ([] : List S38), bt124.1, bt124.2.1, bt124.2.2))) := by
   funext R
   apply propext
   constructor
   ·rintro ⟨K, hK⟩
    refine ⟨K + 1, fun k hk => ?_⟩
    obtain ⟨k, rfl⟩ : ∃ m, k = m + 1 := ⟨k - 1, by omega⟩
    have := hK (k + 1) (by omega)
    simpa only [spec_reader_value.j0, if_true, Nat.add_sub_cancel] using this
   ·rintro ⟨K, hK⟩
    refine ⟨K + 1, fun k hk => ?_⟩
    obtain ⟨k, rfl⟩ : ∃ m, k = m + 1 := ⟨k - 1, by omega⟩
    have := hK (k + 1) (by omega)
    simpa only [spec_reader_value.j0, if_true, Nat.add_sub_cancel] using this
  have sh : ∀ {α : Type} {g : Nat → Option α} {R}, Ev g R → Ev (fun k => g (k - 1)) R := by
   rintro α g R ⟨K, hK⟩
   exact ⟨K + 1, fun k hk => hK _ (by omega)⟩
  rw [VA, valL.eq_def]
  simp only
  by_cases e123 : c = 123
  ·have hO := obj_of hs h (fun u hu hS => ihM u (by simpa using hu) hS)
   simp only [if_pos e123]
   refine ⟨fun r hr => ?_, fun hr => ?_⟩
   ·obtain ⟨ns, ys, k1, k2, k3, k4⟩ := hO.1 r hr
    have hl : r.length ≤ (c :: l).length := by
     have := valL_len (l := c :: l) (r := r) (by rw [valL.eq_def]; simp only [if_pos e123]; exact hr)
     omega
    exact ⟨⟨6, P s (c :: l), P s r, ns, ys⟩, .mk (P_le s _).1 (P_mono hl) (P_le s r).2 (fun h => (by simp at h)) k1.1 k2.1 k1.2 k2.2, k3, st (Ev.congr (fun _ => if_pos e123) (Ev.bind k4 (Ev.now _)))⟩
   ·obtain ⟨ns, ys, q, k4⟩ := hO.2 hr
    exact ⟨_, _, _, _, _, _, st (Ev.congr (fun _ => if_pos e123) (Ev.bind k4 (Ev.now _)))⟩
  simp only [if_neg e123]
  by_cases e91 : c = 91
  ·have hO := arr_of hs h (fun u hu hS => ihE u (by simpa using hu) hS)
   simp only [if_pos e91]
   refine ⟨fun r hr => ?_, fun hr => ?_⟩
   ·obtain ⟨ys, k2, k3, k4⟩ := hO.1 r hr
    have hl : r.length ≤ (c :: l).length := by
     have := valL_len (l := c :: l) (r := r) (by rw [valL.eq_def]; simp only [if_neg e123, if_pos e91]; exact hr)
     omega
    exact ⟨⟨5, P s (c :: l), P s r, [], ys⟩, .mk (P_le s _).1 (P_mono hl) (P_le s r).2 (fun h => (by simp at h)) (fun _ h => (by simp at h)) k2.1 (Nat.zero_le _) k2.2, k3, st (Ev.congr (fun _ => by rw [if_neg e123, if_pos e91]) (Ev.bind k4 (Ev.now _)))⟩
   ·obtain ⟨ys, q, k4⟩ := hO.2 hr
    exact ⟨_, _, _, _, _, _, st (Ev.congr (fun _ => by rw [if_neg e123, if_pos e91]) (Ev.bind k4 (Ev.now _)))⟩
  simp only [if_neg e91]
  by_cases e34 : c = 34
  ·subst e34
   have hq := quoted_P hs' h
   simp only [if_true]
   refine ⟨fun r hr => ?_, fun hr => ?_⟩
   ·obtain ⟨b, hB, eB⟩ := strL_iff.mp hr
    have hQ : Quo s (P s (34 :: l)) (P s r) := ⟨b, r, by rw [← eB]; exact h, hB, by rw [← eB], rfl⟩
    have hl := strL_len _ _ _ (Nat.le_refl _) hr
    exact ⟨⟨4, P s (34 :: l), P s r, [], []⟩, .mk (P_le s _).1 (P_mono zq71) (P_le s r).2 (fun _ => hQ) (fun _ h => (by simp at h)) (fun _ h => (by simp at h)) (Nat.zero_le _) (Nat.zero_le _), h.tail.str hr, st (Ev.congr (fun _ => by rw [if_neg zq49, if_neg zq49, if_pos rfl]) (Ev.bind (hq.1 r hr) (Ev.now _)))⟩
   ·obtain ⟨q, k4⟩ := hq.2 hr
    exact ⟨_, _, _, _, _, _, st (Ev.congr (fun _ => by rw [if_neg zq49, if_neg zq49, if_pos rfl]) (Ev.bind k4 (Ev.now _)))⟩
  simp only [if_neg e34]
  by_cases eN : c = 45 ∨ isD c = true
  rotate_left
  ·simp only [if_neg eN]
   have st2 : ∀ {R}, Ev (fun k => spec_reader_value.j0 k true false s (P s (c :: l)) 0 (P s (c :: l)) 0) R → Ev (fun k => spec_reader_value.f k s (P s (c :: l))) R := fun {R} hR => by
    refine st (Ev.congr (fun k => ?_) hR)
    have e45 : c ≠ 45 := fun e => eN (.inl e)
    rw [if_neg e123, if_neg e91, if_neg e34, if_neg e45]
    by_cases e48 : 48 ≤ c
    rotate_left
    ·rw [if_neg e48]
    have : ¬ c ≤ 57 := fun e => eN (.inr (by simp [isD, e48, e]))
    rw [if_pos e48, decide_eq_false this]
   have hw := words_of hs h
   refine ⟨fun r hr => ?_, fun hr => ?_⟩
   ·obtain ⟨p, k1, k2, k3⟩ := hw.1 r hr
    exact ⟨p, k1, k2, st2 k3⟩
   ·obtain ⟨a, b, c', d, e, q, k3⟩ := hw.2 hr
    exact ⟨a, b, c', d, e, q, st2 k3⟩
  simp only [if_pos eN]
  have st2 : ∀ {R}, Ev (fun k => spec_reader_value.j0 k true true s (P s (c :: l)) 0 (P s (c :: l)) 0) R → Ev (fun k => spec_reader_value.f k s (P s (c :: l))) R := fun {R} hR => by
   refine st (Ev.congr (fun k => ?_) hR)
   rw [if_neg e123, if_neg e91, if_neg e34]
   by_cases e45 : c = 45
   ·rw [if_pos e45]
   have hd : isD c = true := eN.resolve_left e45
   simp only [isD, decide_eq_true_eq] at hd
   rw [if_neg e45, if_pos hd.1, decide_eq_true hd.2]
  have hn := number_P hs' h
  refine ⟨fun r hr => ?_, fun hr => ?_⟩
  ·obtain ⟨k1, k2⟩ := hn.1 r hr
   have hl := numL_len hr
   refine ⟨⟨3, P s (c :: l), P s r, [], []⟩, plain (by omega) zq49, k2, st2 ?_⟩
   rw [hnum]
   exact Ev.bind (sh k1) (Ev.now _)
  ·obtain ⟨q, k1⟩ := hn.2 hr
   refine ⟨3, P s (c :: l), q, [], [], q, st2 ?_⟩
   rw [hnum]
   exact Ev.bind (sh k1) (Ev.now _)
theorem reader_all : ∀ n : Nat, ∀ l, l.length ≤ n → Suf s l → VA s l ∧ EA s l ∧ MA s l := by
 intro n
 induction n with
 | zero =>
  intro l hl h
  have e := List.length_eq_zero_iff.mp (Nat.le_zero.mp hl)
  subst e
  have hv := val_of hs h (fun u hu _ => (by simp at hu)) (fun u hu _ => (by simp at hu))
  exact ⟨hv, els_of hs h hv (fun u hu _ => (by simp at hu)), mem_of hs h (fun u hu _ => (by simp at hu)) (fun u hu _ => (by simp at hu))⟩
 | succ n ih =>
  intro l hl h
  have hv := val_of hs h (fun u hu hS => (ih u (by omega) hS).2.1) (fun u hu hS => (ih u (by omega) hS).2.2)
  exact ⟨hv, els_of hs h hv (fun u hu hS => (ih u (by omega) hS).2.1), mem_of hs h (fun u hu hS => (ih u (by omega) hS).1) (fun u hu hS => (ih u (by omega) hS).2.2)⟩
end
def textL (l : List Int) : Bool := match valL (skB l) with
  | none => false
  | some r => (skB r).isEmpty
theorem places_eq {s : ByteArray} (hs : s.size ≤ 2147483647) :
 (textL (bytesOf s) = true → ∃ p : S38, POK s p ∧ Ev (fun k => spec_Places.f k s) (p.f0, p.f1, p.f2, p.f3, p.f4, true)) ∧
 (textL (bytesOf s) = false → Ev (fun k => spec_Places.f k s) (0, 0, 0, [], [], false)) := by
 have hs' : s.size ≤ 140737488351232 := by omega
 have h0 := Suf.start s
 have hb := blanks_eq hs' _ h0
 have e0 : P s (bytesOf s) = 0 := by unfold P; rw [bytesOf_length]; simp
 rw [e0] at hb
 have hV := (reader_all hs _ _ (Nat.le_refl _) h0.skB).1
 unfold textL
 cases e : valL (skB (bytesOf s)) with
 | none =>
  obtain ⟨a, b, c, d, e', q, hq⟩ := hV.2 e
  refine ⟨fun h => (by cases h), fun _ => ?_⟩
  unfold spec_Places.f
  exact Ev.bind hb (Ev.bind hq (Ev.congr (fun _ => if_neg (by simp)) (Ev.now _)))
 | some r =>
  obtain ⟨p, hp, hr, hq⟩ := hV.1 r e
  have hb2 := blanks_eq hs' r hr
  have hbS := hr.skB
  simp only
  cases e2 : skB r with
  | nil =>
   rw [e2, P_nil] at hb2
   refine ⟨fun _ => ⟨p, hp, ?_⟩, fun h => (by simp at h)⟩
   unfold spec_Places.f
   exact Ev.bind hb (Ev.bind hq (Ev.congr (fun _ => if_pos rfl) (Ev.bind hb2 (Ev.congr (fun _ => if_pos rfl) (Ev.now _)))))
  | cons c t =>
   rw [e2] at hb2 hbS
   have := P_lt hbS
   refine ⟨fun h => (by simp at h), fun _ => ?_⟩
   unfold spec_Places.f
   exact Ev.bind hb (Ev.bind hq (Ev.congr (fun _ => if_pos rfl) (Ev.bind hb2 (Ev.congr (fun _ => if_neg (by simp only; omega)) (Ev.now _)))))
theorem quo_unq {s : ByteArray} (hs : s.size ≤ 140737488351232) {b e : Int} (h : Quo s b e) : 0 ≤ b ∧ b ≤ e ∧ e ≤ s.size ∧ ∃ r, Ev (fun k => spec_Unquote.f k (s.extract b.toNat e.toNat)) r := by
 obtain ⟨t, l, hS, hB, rfl, rfl⟩ := h
 have h1 : Suf s l := by
  have : Suf s ((34 :: (t ++ [34])) ++ l) := by simpa using hS
  exact this.app
 have hle := hS.le
 simp only [List.length_cons, List.length_append] at hle
 refine ⟨(P_le s _).1, P_mono zq71, (P_le s l).2, ?_⟩
 have hx : bytesOf (s.extract (P s (34 :: (t ++ 34 :: l))).toNat (P s l).toNat) = 34 :: (t ++ [34]) := by
  have h2 : From s (s.size - (34 :: (t ++ 34 :: l)).length) ((34 :: (t ++ [34])) ++ l) := by
   rw [show (34 :: (t ++ [34])) ++ l = 34 :: (t ++ 34 :: l) by simp]
   exact hS
  have h3 := h2.extract
  unfold P
  rw [Int.toNat_natCast, Int.toNat_natCast]
  rw [show s.size - l.length = s.size - (34 :: (t ++ 34 :: l)).length + (34 :: (t ++ [34])).length by simp; omega]
  exact h3
 have hz : (s.extract (P s (34 :: (t ++ 34 :: l))).toNat (P s l).toNat).size ≤ 140737488351232 := by
  rw [ByteArray.size_extract]
  omega
 exact ⟨_, unquote_eq hz hx hB⟩
end Go.Proofs.YtlokkefnbffjnaaDoor.J
end
section
namespace Go.Proofs.YtlokkefnbffjnaaDoor.J
open Go.RowKit Go.Proofs.YtlokkefnbffjnaaDoor.J Go.Proofs.YtlokkefnbffjnaaDoorW.PrintWords Go.Proofs.YtlokkefnbffjnaaDoorW.PrintLast
set_option linter.unusedVariables false
theorem getD_mem {α : Type} (l : List α) (i : Nat) (d : α) (h : i < l.length) : l.getD i d ∈ l := by
 rw [List.getD_eq_getElem?_getD, List.getElem?_eq_getElem h]
 exact List.getElem_mem h
theorem tree_total {s : ByteArray} (hs : s.size ≤ 2147483647) {p : S38} (h : POK s p) : ∃ r, Ev (fun k => spec_Tree.f k s p.f0 p.f1 p.f2 p.f3 p.f4) r := by
 induction h with
 | @mk p h1 h2 h3 hq hn hk hl1 hl2 ih =>
  have hs' : s.size ≤ 140737488351232 := by omega
  have kids : ∀ (x0 : Int) (x1 : ByteArray) (x2 : List ByteArray) (d i : Nat) (acc : List S34), p.f4.length - i = d → i ≤ p.f4.length → acc.length ≤ i → ∃ r, Ev (fun k => spec_Tree.l1 k s (i : Int) p.f0 p.f1 p.f2 p.f3 p.f4 x0 x1 x2 acc) r := by
   intro x0 x1 x2 d
   induction d with
   | zero =>
    intro i acc hd hi ha
    refine ⟨_, Ev.step (f := fun _ => some (x0, x1, x2, acc)) (fun k => ?_) (Ev.now _)⟩
    simp only [spec_Tree.l1]
    rw [if_neg (by omega)]
   | succ d ihd =>
    intro i acc hd hi ha
    have hm : rd_T38 p.f4 (i : Int) ∈ p.f4 := by
     unfold rd_T38
     rw [Int.toNat_natCast]
     exact getD_mem _ _ _ (by omega)
    obtain ⟨⟨r1, r2, r3, r4⟩, hr⟩ := ih _ hm
    obtain ⟨R, hR⟩ := ihd (i + 1) (acc ++ [(⟨r1, r2, r3, r4⟩ : S34)]) (by omega) (by omega) zq71
    refine ⟨R, Ev_shift ?_⟩
    simp only [spec_Tree.l1]
    refine Ev.congr (fun _ => if_pos (by omega)) (Ev.congr (fun _ => if_pos (by omega)) (Ev.bind hr (Ev.congr (fun _ => if_pos (by omega)) ?_)))
    rw [w64 (x := (i : Int) + 1) (by omega)]
    exact hR
  have names : ∀ (x0 : Int) (x1 : ByteArray) (d i : Nat) (acc : List ByteArray), p.f3.length - i = d → i ≤ p.f3.length → acc.length ≤ i → ∃ r, Ev (fun k => spec_Tree.l0 k s (i : Int) p.f0 p.f1 p.f2 p.f3 p.f4 x0 x1 acc) r := by
   intro x0 x1 d
   induction d with
   | zero =>
    intro i acc hd hi ha
    obtain ⟨R, hR⟩ := kids x0 x1 acc p.f4.length 0 [] (by omega) (by omega) (by simp)
    refine ⟨R, Ev.step (fun k => ?_) hR⟩
    simp only [spec_Tree.l0]
    rw [if_neg (by omega)]
    rfl
   | succ d ihd =>
    intro i acc hd hi ha
    have hm : rd_T122 p.f3 (i : Int) ∈ p.f3 := by
     unfold rd_T122
     rw [Int.toNat_natCast]
     exact getD_mem _ _ _ (by omega)
    obtain ⟨q1, q2, q3, u, hu⟩ := quo_unq hs' (hn _ hm)
    obtain ⟨R, hR⟩ := ihd (i + 1) (acc ++ [u]) (by omega) (by omega) zq71
    refine ⟨R, Ev_shift ?_⟩
    simp only [spec_Tree.l0]
    refine Ev.congr (fun _ => if_pos (by omega)) (Ev.congr (fun _ => if_pos (by omega)) (Ev.congr (fun _ => if_pos q1) (Ev.congr (fun _ => if_pos q2) (Ev.congr (fun _ => if_pos q3) (Ev.bind hu (Ev.congr (fun _ => if_pos (by omega)) ?_))))))
    rw [w64 (x := (i : Int) + 1) (by omega)]
    exact hR
  have j0 : ∀ (x0 : Int) (x1 : ByteArray), ∃ r, Ev (fun k => spec_Tree.j0 k s p.f0 p.f1 p.f2 p.f3 p.f4 x0 x1) r := fun x0 x1 => by
   obtain ⟨R, hR⟩ := names x0 x1 p.f3.length 0 [] (by omega) (by omega) (by simp)
   exact ⟨R, Ev.step (fun k => by simp only [spec_Tree.j0]; rfl) hR⟩
  by_cases e3 : p.f0 = 3
  ·obtain ⟨R, hR⟩ := j0 p.f0 (s.extract (p.f1 : Int).toNat (p.f2 : Int).toNat)
   refine ⟨R, Ev.step (fun k => ?_) hR⟩
   simp only [spec_Tree.f]
   rw [if_pos e3, if_pos h1, if_pos h2, if_pos h3]
  by_cases e4 : p.f0 = 4
  rotate_left
  ·obtain ⟨R, hR⟩ := j0 p.f0 (⟨#[]⟩ : ByteArray)
   refine ⟨R, Ev.step (fun k => ?_) hR⟩
   simp only [spec_Tree.f]
   rw [if_neg e3, if_neg e4]
  obtain ⟨q1, q2, q3, u, hu⟩ := quo_unq hs' (hq e4)
  obtain ⟨R, hR⟩ := j0 p.f0 u
  refine ⟨R, Ev_shift ?_⟩
  simp only [spec_Tree.f]
  exact Ev.congr (fun _ => by rw [if_neg e3, if_pos e4, if_pos h1, if_pos h2, if_pos h3]) (Ev.bind hu hR)
theorem read_eq {s : ByteArray} (hs : s.size ≤ 2147483647) : ∃ a b c d, Ev (fun k => spec_Read.f k s) (a, b, c, d, textL (bytesOf s)) := by
 have hp := places_eq hs
 unfold spec_Read.f
 cases e : textL (bytesOf s) with
 | false => exact ⟨_, _, _, _, Ev.bind (hp.2 e) (Ev.congr (fun _ => if_neg (by simp)) (Ev.now _))⟩
 | true =>
  obtain ⟨p, k1, k2⟩ := hp.1 e
  obtain ⟨⟨r1, r2, r3, r4⟩, hr⟩ := tree_total hs k1
  exact ⟨r1, r2, r3, r4, Ev.bind k2 (Ev.congr (fun _ => if_pos rfl) (Ev.bind hr (Ev.now _)))⟩
end Go.Proofs.YtlokkefnbffjnaaDoor.J
end
