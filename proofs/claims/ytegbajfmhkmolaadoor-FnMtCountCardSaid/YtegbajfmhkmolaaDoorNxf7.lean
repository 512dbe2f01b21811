-- printed by a turned copy of the kit's print (wip/tools/patch_print.py)
import Derived.Test.YtegbajfmhkmolaaDoorNx0
import Derived.Test.YtegbajfmhkmolaaDoorNxf21
import Derived.Test.YtegbajfmhkmolaaDoorNxf22
namespace Go.Proofs.YtegbajfmhkmolaaDoor.N
open Go.RowKit Go.Proofs.YtegbajfmhkmolaaDoorW.PrintWords Go.Proofs.YtegbajfmhkmolaaDoorW.PrintLast Go.Proofs.YtegbajfmhkmolaaDoorW.PrintMore
attribute [local go_sem] max2_int min2_int max_two min_two max_three min_three max_four min_four   -- for this text's walks alone
set_option linter.unusedVariables false
set_option linter.unusedSimpArgs false

/-! ### laws_FnMtCount: function 7 -/
mutual
def laws_FnMtCount.j0 : Nat → ByteArray → Int → List Int → Bool → Option (Bool)
  | 0, _, _, _, _ => none
  | k + 1, x0, x1, x5, x26 => if x26 = true then (some true) else (if 0 ≤ x1 then (if (x1 : Int).toNat ≤ 281474976710656 then ((some (List.replicate (x1 : Int).toNat 0 : List Int)).bind fun y105 => (laws_FnMtCount.l0 k x0 x1 x5 y105 (y105.length : Int) 0)) else (none)) else (none))
def laws_FnMtCount.l0 : Nat → ByteArray → Int → List Int → List Int → Int → Int → Option (Bool)
  | 0, _, _, _, _, _, _ => none
  | k + 1, x0, x1, x5, x7, x30, x31 => if x31 < x30 then (if 0 ≤ x31 then (if x31 < (x7.length : Int) then (laws_FnMtCount.l0 k x0 x1 x5 (x7.set (x31 : Int).toNat 63) x30 (wrap64 (x31 + 1))) else (none)) else (none)) else ((impl_MtMatch.f k x0 (strOfNums x7)).bind fun t109 => (if (t109 == ((x5.length : Int) == x1)) = true then (if (strOfNums x7).size + 1 ≤ 9223372036854775807 then ((impl_MtMatch.f k x0 ((strOfNums x7) ++ (⟨#[42]⟩ : ByteArray))).bind fun t110 => (some (t110 == (decide ((x5.length : Int) ≥ x1))))) else (none)) else (some false)))
end
def laws_FnMtCount.f (k : Nat) (a0 : ByteArray) (a1 : Int) : Option (Bool) := if (a0.size : Int) > 2147483647 then (some true) else ((spec_Characters.f k a0).bind fun bt101 => (if a1 < 0 then (laws_FnMtCount.j0 k a0 a1 bt101.1 true) else (if a1 > 4096 then (laws_FnMtCount.j0 k a0 a1 bt101.1 true) else (laws_FnMtCount.j0 k a0 a1 bt101.1 (!bt101.2)))))
theorem laws_FnMtCount.mono_l : ∀ k, (∀ y0 y1 y2 y3, LeO (laws_FnMtCount.j0 k y0 y1 y2 y3) (laws_FnMtCount.j0 (k + 1) y0 y1 y2 y3)) ∧ (∀ y0 y1 y2 y3 y4 y5, LeO (laws_FnMtCount.l0 k y0 y1 y2 y3 y4 y5) (laws_FnMtCount.l0 (k + 1) y0 y1 y2 y3 y4 y5))
  | 0 => ⟨fun _ _ _ _ r h => by simp [laws_FnMtCount.j0] at h, fun _ _ _ _ _ _ r h => by simp [laws_FnMtCount.l0] at h⟩
  | k + 1 => by
    obtain ⟨ih0, ih1⟩ := laws_FnMtCount.mono_l k
    refine ⟨?_, ?_⟩
    · intro y0 y1 y2 y3
      unfold laws_FnMtCount.j0
      repeat' first
      | (with_reducible exact ih0 _ _ _ _)
      | (with_reducible exact ih1 _ _ _ _ _ _)
      | (with_reducible exact impl_MtMatch.mono _ _ _)
      | (with_reducible exact spec_Characters.mono _ _)
      | (with_reducible exact LeO.refl _)
      | (with_reducible exact LeO.none _)
      | (with_reducible refine LeO.ite ?_ ?_)
      | (with_reducible refine LeO.bind ?_ (fun _ => ?_))
      | exact ih0 _ _ _ _
      | exact ih1 _ _ _ _ _ _
      | exact impl_MtMatch.mono _ _ _
      | exact spec_Characters.mono _ _
      | exact LeO.none _
      | refine LeO.ite ?_ ?_
      | refine LeO.bind ?_ (fun _ => ?_)
    · intro y0 y1 y2 y3 y4 y5
      unfold laws_FnMtCount.l0
      repeat' first
      | (with_reducible exact ih0 _ _ _ _)
      | (with_reducible exact ih1 _ _ _ _ _ _)
      | (with_reducible exact impl_MtMatch.mono _ _ _)
      | (with_reducible exact spec_Characters.mono _ _)
      | (with_reducible exact LeO.refl _)
      | (with_reducible exact LeO.none _)
      | (with_reducible refine LeO.ite ?_ ?_)
      | (with_reducible refine LeO.bind ?_ (fun _ => ?_))
      | exact ih0 _ _ _ _
      | exact ih1 _ _ _ _ _ _
      | exact impl_MtMatch.mono _ _ _
      | exact spec_Characters.mono _ _
      | exact LeO.none _
      | refine LeO.ite ?_ ?_
      | refine LeO.bind ?_ (fun _ => ?_)
theorem laws_FnMtCount.mono : ∀ a0 a1 k, LeO (laws_FnMtCount.f k a0 a1) (laws_FnMtCount.f (k + 1) a0 a1) := by
  intro a0 a1 k
  obtain ⟨ih0, ih1⟩ := laws_FnMtCount.mono_l k
  unfold laws_FnMtCount.f
  repeat' first
      | (with_reducible exact ih0 _ _ _ _)
      | (with_reducible exact ih1 _ _ _ _ _ _)
      | (with_reducible exact impl_MtMatch.mono _ _ _)
      | (with_reducible exact spec_Characters.mono _ _)
      | (with_reducible exact LeO.refl _)
      | (with_reducible exact LeO.none _)
      | (with_reducible refine LeO.ite ?_ ?_)
      | (with_reducible refine LeO.bind ?_ (fun _ => ?_))
      | exact ih0 _ _ _ _
      | exact ih1 _ _ _ _ _ _
      | exact impl_MtMatch.mono _ _ _
      | exact spec_Characters.mono _ _
      | exact LeO.none _
      | refine LeO.ite ?_ ?_
      | refine LeO.bind ?_ (fun _ => ?_)
set_option maxHeartbeats 8000000 in
set_option maxRecDepth 100000 in
theorem laws_FnMtCount.calls (k : Nat) (a0 : ByteArray) (a1 : Int) (r : Bool) (w : World) (hG : Laid w) (h : laws_FnMtCount.f k a0 a1 = some r) :
    Calls Tryd.prog 7 #[.string a0, .int .i64 a1] w fun e w' => e = .returned (.bool r) ∧ Below w.heap.size w w' := by
  have HG := Aside0.mk hG
  clear hG
  have HB := Aside0.mk (Below.refl w.heap.size w)
  have H : (if (a0.size : Int) > 2147483647 then (some true) else ((spec_Characters.f k a0).bind fun bt101 => (if a1 < 0 then (laws_FnMtCount.j0 k a0 a1 bt101.1 true) else (if a1 > 4096 then (laws_FnMtCount.j0 k a0 a1 bt101.1 true) else (laws_FnMtCount.j0 k a0 a1 bt101.1 (!bt101.2)))))) = some r := h
  clear h
  by_cases c3 : (a0.size : Int) > 2147483647
  · rw [if_pos c3] at H
    have c3b0 : decide (2147483647 < (a0.size : Int)) = true := decide_eq_true c3
    have c3b1 : decide (2147483647 < a0.size) = true := decide_eq_true (by omega)
    clear c3
    obtain rfl := Option.some.inj H
    go_enter Tryd.func7, Tryd.ntmps7
    go_wp2
    go_ret
    exact ⟨by first | rfl | (simp [errW_none, errW_some] <;> rfl) | (simp [*, errW_none, errW_some] <;> rfl), by repeat (first | (with_reducible first | exact HB.out | apply below_alloc | apply pw_below_drewN | apply below_drew1) | exact HB.out)⟩
  · rw [if_neg c3] at H
    have c3b0 : decide (2147483647 < (a0.size : Int)) = false := decide_eq_false c3
    have c3b1 : decide (2147483647 < a0.size) = false := decide_eq_false (by omega)
    clear c3
    replace H := Option.bind_eq_some_iff.mp H
    obtain ⟨⟨t101, t102⟩, A40, H⟩ := H
    replace H : (if a1 < 0 then (laws_FnMtCount.j0 k a0 a1 t101 true) else (if a1 > 4096 then (laws_FnMtCount.j0 k a0 a1 t101 true) else (laws_FnMtCount.j0 k a0 a1 t101 (!t102)))) = some r := H
    have A4 := Aside0.mk A40
    clear A40
    have HC5 := Aside0.mk H
    clear H
    go_enter Tryd.func7, Tryd.ntmps7
    go_upto_region 4 with (first | ((with_reducible refine gate_callee (f := 21) rfl ?_); refine goesL_ (some 14) rfl rfl Tryd.func21 (by kernel_rfl) rfl #[.string a0] rfl (by (try simp only [List.map_toArray, List.map_cons, List.map_nil]); first | done | rfl | (simp only [List.length_drop, List.length_take]; rfl)) ?_; (with_reducible refine (spec_Characters.calls k a0 t101 t102 _ A4.out).mono ?_); rintro e w6 ⟨v103, rfl, ho0, hb⟩; refine ⟨_, rfl, ?_⟩; have n0_ := Aside0.mk (Kd.R_lower ho0 (below_size (by repeat (first | (with_reducible first | exact HB.out | apply below_alloc | apply pw_below_drewN | apply below_drew1) | exact HB.out)))); have n1_ := Aside0.mk (below_step (by repeat (first | (with_reducible first | exact HB.out | apply below_alloc | apply pw_below_drewN | apply below_drew1) | exact HB.out)) hb); clear HB; have HO104 := n0_; have HB := n1_; clear n0_ n1_; (try clear hb); (try clear hb2); (try clear hk); (try clear hi); (try clear ho0)))
    (try simp only [Act.put, List.setIfInBounds_toArray, List.set_cons_zero, List.set_cons_succ])
    go_cut [26] (fun v26 wc => ∃ (kq : Nat) (x26_4 : Bool), v26 = .bool x26_4 ∧ Aside0 (laws_FnMtCount.j0 kq a0 a1 t101 x26_4 = some r) ∧ Aside0 (kq ≤ k) ∧ Aside0 (Kd.R (Kd.int .i64) 3 wc w.heap.size (fun _ => True) v103 t101) ∧ Aside0 (Below w.heap.size w wc))
    case first =>
      have H := HC5.out
      clear HC5
      by_cases c7 : a1 < 0
      · rw [if_pos c7] at H
        have c7b0 : decide (a1 < 0) = true := decide_eq_true c7
        clear c7
        (first | rw [c7b0] | (simp only [i64_w, i32_w]; rw [c7b0]) | skip)
        have H' := Aside0.mk H
        clear H
        go_wp2
        go_meet
        case rel => exact ⟨_, (true), (by first | rfl | (simp; done) | (simp [*]; done)), H', ⟨by first | omega | exact Nat.le_refl _⟩, ⟨by (with_reducible repeat (first | apply Kd.R_alloc | apply Kd.R_drewN | apply Kd.R_drew)); exact HO104.out⟩, ⟨by repeat (first | (with_reducible first | exact HB.out | apply below_alloc | apply pw_below_drewN | apply below_drew1) | exact HB.out)⟩⟩
      · rw [if_neg c7] at H
        have c7b0 : decide (a1 < 0) = false := decide_eq_false c7
        clear c7
        (first | rw [c7b0] | (simp only [i64_w, i32_w]; rw [c7b0]) | skip)
        by_cases c8 : a1 > 4096
        · rw [if_pos c8] at H
          have c8b0 : decide (4096 < a1) = true := decide_eq_true c8
          clear c8
          have H' := Aside0.mk H
          clear H
          go_wp2
          go_meet
          case rel => exact ⟨_, (true), (by first | rfl | (simp; done) | (simp [*]; done)), H', ⟨by first | omega | exact Nat.le_refl _⟩, ⟨by (with_reducible repeat (first | apply Kd.R_alloc | apply Kd.R_drewN | apply Kd.R_drew)); exact HO104.out⟩, ⟨by repeat (first | (with_reducible first | exact HB.out | apply below_alloc | apply pw_below_drewN | apply below_drew1) | exact HB.out)⟩⟩
        · rw [if_neg c8] at H
          have c8b0 : decide (4096 < a1) = false := decide_eq_false c8
          clear c8
          have H' := Aside0.mk H
          clear H
          go_wp2
          go_meet
          case rel => exact ⟨_, (!t102), (by first | rfl | (simp; done) | (simp [*]; done)), H', ⟨by first | omega | exact Nat.le_refl _⟩, ⟨by (with_reducible repeat (first | apply Kd.R_alloc | apply Kd.R_drewN | apply Kd.R_drew)); exact HO104.out⟩, ⟨by repeat (first | (with_reducible first | exact HB.out | apply below_alloc | apply pw_below_drewN | apply below_drew1) | exact HB.out)⟩⟩
    case rest =>
      clear HC5
      try clear c2
      try clear p2
      try clear c3
      try clear c3b0
      try clear c3b1
      try clear c7
      try clear c7b0
      try clear c8
      try clear c8b0
      obtain ⟨kq, x26_4, rfl, HA, HJ4, HO_5, HB⟩ := hcut
      cases kq with
      | zero => exact absurd HA.out (by simp [laws_FnMtCount.j0])
      | succ kj4 =>
        have H := HA.out
        clear HA
        simp only [laws_FnMtCount.j0] at H
        by_cases c9 : x26_4 = true
        · subst c9
          have H1 : (some true) = some r := by rw [if_pos rfl] at H; exact H
          clear H
          have H := H1
          clear H1
          obtain rfl := Option.some.inj H
          go_wp2
          go_ret
          exact ⟨by first | rfl | (simp [errW_none, errW_some] <;> rfl) | (simp [*, errW_none, errW_some] <;> rfl), by repeat (first | (with_reducible first | exact HB.out | apply below_alloc | apply pw_below_drewN | apply below_drew1) | exact HB.out)⟩
        · replace c9 := Bool.eq_false_iff.mpr c9
          subst c9
          have H1 : (if 0 ≤ a1 then (if (a1 : Int).toNat ≤ 281474976710656 then ((some (List.replicate (a1 : Int).toNat 0 : List Int)).bind fun y105 => (laws_FnMtCount.l0 kj4 a0 a1 t101 y105 (y105.length : Int) 0)) else (none)) else (none)) = some r := by rw [if_neg (show ¬ (false = true) by decide)] at H; exact H
          clear H
          have H := H1
          clear H1
          by_cases c10 : 0 ≤ a1
          · rw [if_pos c10] at H
            have c10b0 := eq_true c10
            have c10b1 : decide (0 ≤ a1) = true := decide_eq_true c10
            clear c10
            by_cases c11 : (a1 : Int).toNat ≤ 281474976710656
            · rw [if_pos c11] at H
              have c11b0 := eq_true c11
              have c11b1 : decide ((a1 : Int).toNat ≤ 281474976710656) = true := decide_eq_true c11
              clear c11
              obtain ⟨y105, hy105⟩ : ∃ y_ : List Int, y_ = (List.replicate (a1 : Int).toNat 0) := ⟨_, rfl⟩
              replace H : (laws_FnMtCount.l0 kj4 a0 a1 t101 y105 (y105.length : Int) 0) = some r := by first | (rw [hy105]; with_reducible exact H) | (have H2_ := (Option.bind_some _ _).symm.trans H; rw [hy105]; with_reducible exact H2_) | (have H2_ := (Option.bind_some _ _).symm.trans H; with_reducible exact H2_) | with_reducible exact H | (rw [hy105]; exact H) | exact H
              have Ny105 := Aside0.mk hy105
              clear hy105
              have H' := Aside0.mk H
              clear H
              go_wp2_with (first | ((with_reducible refine gate_dst (N := 28) rfl ?_); (try (refine gate_guard (by rfl) ?_; dsimp only)); refine Kd.R_make (Kd.int .u8) _ 5 rfl (N := 28) rfl 37 _ _ rfl a1 rfl rfl Tryd.underlying37 (.int .u8 0) 1 info5 rfl (by decide) (by omega) 0 (ok := fun _ => True) (okp := fun _ => True) rfl (fun _ hk => hk) trivial (of_decide_eq_true (by first | (with_reducible assumption) | assumption)) (Nat.le_trans (Nat.mul_le_mul_right _ (of_decide_eq_true (by first | (with_reducible assumption) | assumption) : a1.toNat ≤ 281474976710656)) (by omega)) (Below.refl _ _) (Nat.le_refl _) ?_; intro v106 w12 ho13 hb hg_ hnew_; clear hg_ hnew_; (first | rw [← Ny105.out] at ho13 | (simp only [Int.reduceToNat] at ho13; rw [← Ny105.out] at ho13)); have n0_ := Aside0.mk (Kd.R_below (by (with_reducible repeat (first | apply Kd.R_alloc | apply Kd.R_drewN | apply Kd.R_drew)); exact HO_5.out) hb); have n1_ := Aside0.mk (Kd.R_lower ho13 (below_size (by repeat (first | (with_reducible first | exact HB.out | apply below_alloc | apply pw_below_drewN | apply below_drew1) | exact HB.out)))); have n2_ := Aside0.mk (below_step (by repeat (first | (with_reducible first | exact HB.out | apply below_alloc | apply pw_below_drewN | apply below_drew1) | exact HB.out)) hb); clear HO_5; clear HB; have HO_5 := n0_; have HO107 := n1_; have HB := n2_; clear n0_ n1_ n2_; clear hb ho13; obtain ⟨Ao14, co14, eo14⟩ := Kd.R_slice HO107.out; subst eo14))
              (try simp only [Act.put, List.setIfInBounds_toArray, List.set_cons_zero, List.set_cons_succ])
              go_loopg [31] kj4 (fun kq v31 w' => ∃ (x7_2 : List Int) (x31_2 : Int), v31 = .int .i64 x31_2 ∧ Aside0 (laws_FnMtCount.l0 kq a0 a1 t101 x7_2 (y105.length : Int) x31_2 = some r) ∧ Aside0 (kq ≤ kj4) ∧ Aside0 (Kd.R (Kd.int .i64) 3 w' w.heap.size (fun _ => True) v103 t101) ∧ Aside0 (Kd.R (Kd.int .u8) 5 w' w.heap.size (fun _ => True) (.slice Ao14 y105.length co14) x7_2) ∧ Aside0 (Below w.heap.size w w'))
              case atStart => exact ⟨(y105), (0), (by first | rfl | (simp; done) | (simp [*]; done)), H', ⟨Nat.le_refl _⟩, ⟨by (with_reducible repeat (first | apply Kd.R_alloc | apply Kd.R_drewN | apply Kd.R_drew)); exact HO_5.out⟩, ⟨by (with_reducible repeat (first | apply Kd.R_alloc | apply Kd.R_drewN | apply Kd.R_drew)); exact HO107.out⟩, ⟨by repeat (first | (with_reducible first | exact HB.out | apply below_alloc | apply pw_below_drewN | apply below_drew1) | exact HB.out)⟩⟩
              case round =>
                clear H'
                try clear c1
                try clear c2
                try clear p2
                try clear c3
                try clear c3b0
                try clear c3b1
                try clear c7
                try clear c7b0
                try clear c8
                try clear c8b0
                try clear c9
                try clear c10
                try clear c10b0
                try clear c10b1
                try clear c11
                try clear c11b0
                try clear c11b1
                try clear p2
                obtain ⟨x7_2, x31_2, rfl, HA, HK2, HO_5, HO_7, HB⟩ := hrel
                have hl7_2 := (Kd.R_reads' HO_7.out).1
                rw [hl7_2] at HO_7
                (try simp only [hl7_2])
                (try simp only [hl7_2] at HO_5)
                cases gk with
                | zero => exact absurd HA.out (by simp [laws_FnMtCount.l0])
                | succ k2 =>
                  have H := HA.out
                  clear HA
                  simp only [laws_FnMtCount.l0] at H
                  by_cases c15 : x31_2 < (y105.length : Int)
                  · rw [if_pos c15] at H
                    have c15b0 : decide (x31_2 < (y105.length : Int)) = true := decide_eq_true c15
                    (try (have c15b0h := c15b0; simp only [hl7_2] at c15b0h))
                    clear c15
                    by_cases c16 : 0 ≤ x31_2
                    · rw [if_pos c16] at H
                      have c16b0 : decide (0 ≤ x31_2) = true := decide_eq_true c16
                      clear c16
                      by_cases c17 : x31_2 < (x7_2.length : Int)
                      · rw [if_pos c17] at H
                        have c17b0 : decide (x31_2 < (x7_2.length : Int)) = true := decide_eq_true c17
                        (try (have c17b0h := c17b0; simp only [hl7_2] at c17b0h))
                        clear c17
                        obtain ⟨y108, hy108⟩ : ∃ y_ : List Int, y_ = (x7_2.set (x31_2 : Int).toNat 63) := ⟨_, rfl⟩
                        replace H : (laws_FnMtCount.l0 k2 a0 a1 t101 y108 (y105.length : Int) (wrap64 (x31_2 + 1))) = some r := by first | (rw [hy108]; with_reducible exact H) | (have H2_ := (Option.bind_some _ _).symm.trans H; rw [hy108]; with_reducible exact H2_) | (have H2_ := (Option.bind_some _ _).symm.trans H; with_reducible exact H2_) | with_reducible exact H | (rw [hy108]; exact H) | exact H
                        have Ny108 := Aside0.mk hy108
                        clear hy108
                        have H' := Aside0.mk H
                        clear H
                        have p18 : 0 ≤ (x31_2 : Int) := of_decide_eq_true (by first | (with_reducible assumption) | assumption)
                        have q18 : (x31_2 : Int) < ((x7_2.length : Int) : Int) := of_decide_eq_true (by first | (with_reducible assumption) | assumption)
                        obtain ⟨go18, co18, eo18, gb18, gl18, cl18, HG18⟩ := Kd.R_form HO_7.out (by omega)
                        (first | cases eo18 | (injection eo18 with ea_ en_ ec_; (first | subst ea_ | (injection ea_ with ea_; subst ea_)); subst ec_; clear en_))
                        have GB18 := Aside0.mk gb18
                        have GG18 := Aside0.mk HG18
                        clear gb18 gl18 HG18
                        obtain ⟨hx18_0, hf18_0⟩ := Kd.R_celln 0 HO_7.out (x31_2 : Int) p18 q18
                        replace p18 := eq_true p18
                        replace q18 := eq_true q18
                        have HP19 := Kd.R_putg HO_7.out (x31_2 : Int) 63
                        go_wp2_with (first | ((with_reducible refine gate_store (t := 5) (p := 36) rfl ?_); refine store_event (t := 5) (p := 36) (v := ?vo_w20) (w1 := (wr.setCell ⟨go18, (x31_2 : Int).toNat, none⟩ (.int .u8 63))) ?hg ?ho ?hn ?hr ?_; (case ho => rfl); (case hg => rfl); (case hn => rfl); (case hr => first | (go_simp; done) | (go_simp; rfl)); intro w20 hw; have hg : wr.grownBy w20 (some go18) := (by rw [hw]; exact HP19.2); have hp_ : Kd.R (Kd.int .u8) 5 w20 w.heap.size (fun _ => True) (.slice (some ⟨go18, 0, none⟩) x7_2.length co14) y108 := (by rw [hw, Ny108.out]; exact HP19.1); clear HP19; have n0_ := Aside0.mk (Kd.R_over' (v := (.slice (some ⟨go18, 0, none⟩) x7_2.length co14)) (by (with_reducible repeat (first | apply Kd.R_alloc | apply Kd.R_drewN | apply Kd.R_drew)); exact HO_5.out) (Kd.R_typed HO_7.out) (by decide) hg); have n1_ := Aside0.mk (hp_); have n2_ := Aside0.mk ((by rw [hw]; exact below_set (HB.out) GB18.out : Below w.heap.size w w20)); clear HO_5; clear HO_7; clear HB; have HO_5 := n0_; have HO_7 := n1_; have HB := n2_; clear n0_ n1_ n2_; clear hg hw hp_))
                        (try simp only [← hl7_2])
                        go_roundg k2
                        case measure => have := HJ4.out; have := HK2.out; omega
                        case rel => exact ⟨(y108), (wrap64 (x31_2 + 1)), (by first | rfl | (simp; done) | (simp [*]; done)), H', ⟨by have := HJ4.out; have := HK2.out; omega⟩, ⟨by (try simp only [hl7_2]); (with_reducible repeat (first | apply Kd.R_alloc | apply Kd.R_drewN | apply Kd.R_drew)); exact HO_5.out⟩, ⟨by (try simp only [hl7_2]); (with_reducible repeat (first | apply Kd.R_alloc | apply Kd.R_drewN | apply Kd.R_drew)); exact HO_7.out⟩, ⟨by repeat (first | (with_reducible first | exact HB.out | apply below_alloc | apply pw_below_drewN | apply below_drew1) | exact HB.out)⟩⟩
                      · rw [if_neg c17] at H
                        exact absurd H (by simp)
                    · rw [if_neg c16] at H
                      exact absurd H (by simp)
                  · rw [if_neg c15] at H
                    have c15b0 : decide (x31_2 < (y105.length : Int)) = false := decide_eq_false c15
                    (try (have c15b0h := c15b0; simp only [hl7_2] at c15b0h))
                    clear c15
                    replace H := Option.bind_eq_some_iff.mp H
                    obtain ⟨t109, A210, H⟩ := H
                    replace H : (if (t109 == ((t101.length : Int) == a1)) = true then (if (strOfNums x7_2).size + 1 ≤ 9223372036854775807 then ((impl_MtMatch.f k2 a0 ((strOfNums x7_2) ++ (⟨#[42]⟩ : ByteArray))).bind fun t110 => (some (t110 == (decide ((t101.length : Int) ≥ a1))))) else (none)) else (some false)) = some r := H
                    have A21 := Aside0.mk A210
                    clear A210
                    by_cases c22 : (t109 == ((t101.length : Int) == a1)) = true
                    · rw [if_pos c22] at H
                      have c22b0 : (t109 == ((t101.length : Int) == a1)) = true := c22
                      (try (have c22b0h := c22b0; simp only [hl7_2] at c22b0h))
                      (try (have c22b1 : decide (t109 = ((t101.length : Int) == a1)) = true := by simpa using c22))
                      (try (have c22b2 : (t109 == ((t101.length : Int) == a1)) = true := by simpa using c22))
                      clear c22
                      by_cases c23 : (strOfNums x7_2).size + 1 ≤ 9223372036854775807
                      · rw [if_pos c23] at H
                        have c23b0 := eq_true c23
                        have c23b1 : decide ((strOfNums x7_2).size + 1 ≤ 9223372036854775807) = true := decide_eq_true c23
                        try have c23b2 : (9223372036854775807 < (strOfNums x7_2).size + 1) = False := eq_false (Nat.not_lt.2 c23)
                        replace H := Option.bind_eq_some_iff.mp H
                        obtain ⟨t110, A240, H⟩ := H
                        replace H : (some (t110 == (decide ((t101.length : Int) ≥ a1)))) = some r := H
                        have A24 := Aside0.mk A240
                        clear A240
                        obtain rfl := Option.some.inj H
                        have hcv25 := own_string (P := Tryd.prog) Tryd.underlying37 Tryd.underlying5 Tryd.underlying9 (Kd.own_of_R HO_7.out)
                        go_wp2_with (first | ((with_reducible refine gate_callee (f := 22) rfl ?_); refine goesL_ (some 41) rfl rfl Tryd.func22 (by kernel_rfl) rfl #[.string a0, .string (strOfNums x7_2)] rfl (by (try simp only [List.map_toArray, List.map_cons, List.map_nil]); first | done | rfl | (simp only [List.length_drop, List.length_take]; rfl)) ?_; (with_reducible refine (impl_MtMatch.calls k2 a0 (strOfNums x7_2) t109 _ ?side1 A21.out).mono ?_); (case side1 => first | exact HG.out | exact Laid.below HG.out (by repeat (first | (with_reducible first | exact HB.out | apply below_alloc | apply pw_below_drewN | apply below_drew1) | exact HB.out))); rintro e w26 ⟨rfl, hb⟩; refine ⟨_, rfl, ?_⟩; have n0_ := Aside0.mk (Kd.R_below (by (with_reducible repeat (first | apply Kd.R_alloc | apply Kd.R_drewN | apply Kd.R_drew)); exact HO_5.out) hb); have n1_ := Aside0.mk (Kd.R_below (by (with_reducible repeat (first | apply Kd.R_alloc | apply Kd.R_drewN | apply Kd.R_drew)); exact HO_7.out) hb); have n2_ := Aside0.mk (below_step (by repeat (first | (with_reducible first | exact HB.out | apply below_alloc | apply pw_below_drewN | apply below_drew1) | exact HB.out)) hb); clear HO_5; clear HO_7; clear HB; have HO_5 := n0_; have HO_7 := n1_; have HB := n2_; clear n0_ n1_ n2_; (try clear hb); (try clear hb2); (try clear hk); (try clear hi); obtain ⟨Ao27, co27, eo27⟩ := Kd.R_slice HO_5.out; subst eo27; have hcv28 := own_string (P := Tryd.prog) Tryd.underlying37 Tryd.underlying5 Tryd.underlying9 (Kd.own_of_R HO_7.out)) | (go_at_call 22; (with_reducible refine (impl_MtMatch.calls k2 a0 ((strOfNums x7_2) ++ (⟨#[42]⟩ : ByteArray)) t110 _ ?side1 A24.out).mono ?_); (case side1 => first | exact HG.out | exact Laid.below HG.out (by repeat (first | (with_reducible first | exact HB.out | apply below_alloc | apply pw_below_drewN | apply below_drew1) | exact HB.out))); rintro e w29 ⟨rfl, hb⟩; have n0_ := Aside0.mk (Kd.R_below (by (with_reducible repeat (first | apply Kd.R_alloc | apply Kd.R_drewN | apply Kd.R_drew)); exact HO_5.out) hb); have n1_ := Aside0.mk (Kd.R_below (by (with_reducible repeat (first | apply Kd.R_alloc | apply Kd.R_drewN | apply Kd.R_drew)); exact HO_7.out) hb); have n2_ := Aside0.mk (below_step (by repeat (first | (with_reducible first | exact HB.out | apply below_alloc | apply pw_below_drewN | apply below_drew1) | exact HB.out)) hb); clear HO_5; clear HO_7; clear HB; have HO_5 := n0_; have HO_7 := n1_; have HB := n2_; clear n0_ n1_ n2_; (try clear hb); (try clear hb2); (try clear hk); (try clear hi)))
                        go_ret
                        exact ⟨by first | rfl | (simp [errW_none, errW_some] <;> rfl) | (simp [*, errW_none, errW_some] <;> rfl), by repeat (first | (with_reducible first | exact HB.out | apply below_alloc | apply pw_below_drewN | apply below_drew1) | exact HB.out)⟩
                      · rw [if_neg c23] at H
                        exact absurd H (by simp)
                    · rw [if_neg c22] at H
                      have c22b0 : (t109 == ((t101.length : Int) == a1)) = false := by simpa using c22
                      (try (have c22b0h := c22b0; simp only [hl7_2] at c22b0h))
                      (try (have c22b1 : decide (t109 = ((t101.length : Int) == a1)) = false := by simpa using c22))
                      (try (have c22b2 : (t109 == ((t101.length : Int) == a1)) = false := by simpa using c22))
                      (try (have c22b3 : ¬ (t109 = ((t101.length : Int) == a1)) := by simpa using c22))
                      clear c22
                      obtain rfl := Option.some.inj H
                      have hcv30 := own_string (P := Tryd.prog) Tryd.underlying37 Tryd.underlying5 Tryd.underlying9 (Kd.own_of_R HO_7.out)
                      go_wp2_with (first | ((with_reducible refine gate_callee (f := 22) rfl ?_); refine goesL_ (some 41) rfl rfl Tryd.func22 (by kernel_rfl) rfl #[.string a0, .string (strOfNums x7_2)] rfl (by (try simp only [List.map_toArray, List.map_cons, List.map_nil]); first | done | rfl | (simp only [List.length_drop, List.length_take]; rfl)) ?_; (with_reducible refine (impl_MtMatch.calls k2 a0 (strOfNums x7_2) t109 _ ?side1 A21.out).mono ?_); (case side1 => first | exact HG.out | exact Laid.below HG.out (by repeat (first | (with_reducible first | exact HB.out | apply below_alloc | apply pw_below_drewN | apply below_drew1) | exact HB.out))); rintro e w31 ⟨rfl, hb⟩; refine ⟨_, rfl, ?_⟩; have n0_ := Aside0.mk (Kd.R_below (by (with_reducible repeat (first | apply Kd.R_alloc | apply Kd.R_drewN | apply Kd.R_drew)); exact HO_5.out) hb); have n1_ := Aside0.mk (Kd.R_below (by (with_reducible repeat (first | apply Kd.R_alloc | apply Kd.R_drewN | apply Kd.R_drew)); exact HO_7.out) hb); have n2_ := Aside0.mk (below_step (by repeat (first | (with_reducible first | exact HB.out | apply below_alloc | apply pw_below_drewN | apply below_drew1) | exact HB.out)) hb); clear HO_5; clear HO_7; clear HB; have HO_5 := n0_; have HO_7 := n1_; have HB := n2_; clear n0_ n1_ n2_; (try clear hb); (try clear hb2); (try clear hk); (try clear hi); obtain ⟨Ao32, co32, eo32⟩ := Kd.R_slice HO_5.out; subst eo32))
                      go_ret
                      exact ⟨by first | rfl | (simp [errW_none, errW_some] <;> rfl) | (simp [*, errW_none, errW_some] <;> rfl), by repeat (first | (with_reducible first | exact HB.out | apply below_alloc | apply pw_below_drewN | apply below_drew1) | exact HB.out)⟩
            · rw [if_neg c11] at H
              exact absurd H (by simp)
          · rw [if_neg c10] at H
            exact absurd H (by simp)

/-- THE ONE PURE STATEMENT of laws_FnMtCount: yours. -/
def laws_FnMtCount.Pure : Prop := ∀ (a0 : ByteArray) (a1 : Int), a0.size ≤ 140737488351232 → (Lit.int .i64 a1).wf = true → ∃ k, laws_FnMtCount.f k a0 a1 = some true
theorem laws_FnMtCount.walk (P : laws_FnMtCount.Pure) (a0 : ByteArray) (a1 : Int) (w : World) (hG : Laid w) (w0 : a0.size ≤ 140737488351232) (w1 : (Lit.int .i64 a1).wf = true) :
    Calls Tryd.prog 7 #[.string a0, .int .i64 a1] w fun e w' => e = .returned (.bool true) ∧ Below w.heap.size w w' := by
  obtain ⟨k, h⟩ := P a0 a1 w0 w1
  refine (laws_FnMtCount.calls k a0 a1 true w hG h).mono ?_
  rintro e w' ⟨rfl, hd⟩
  exact ⟨rfl, hd⟩

end Go.Proofs.YtegbajfmhkmolaaDoor.N
