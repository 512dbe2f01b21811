-- printed by a turned copy of the kit's print (wip/tools/patch_print.py)
import Derived.Test.YtegbajfmhkmolaaDoorQx0
import Derived.Test.YtegbajfmhkmolaaDoorQxf29
import Derived.Test.YtegbajfmhkmolaaDoorQxf31
import Derived.Test.YtegbajfmhkmolaaDoorQxf32
import Derived.Test.YtegbajfmhkmolaaDoorQxf33
namespace Go.Proofs.YtegbajfmhkmolaaDoor.Q
open Go.RowKit Go.Proofs.YtegbajfmhkmolaaDoorW.PrintWords Go.Proofs.YtegbajfmhkmolaaDoorW.PrintLast Go.Proofs.YtegbajfmhkmolaaDoorW.PrintMore
attribute [local go_sem] max2_int min2_int max_two min_two max_three min_three max_four min_four   -- for this text's walks alone
set_option linter.unusedVariables false
set_option linter.unusedSimpArgs false

/-! ### spec_Written: function 12 -/
mutual
def spec_Written.l0 : Nat → ByteArray → List Int → Int → Option (ByteArray)
  | 0, _, _, _ => none
  | k + 1, x0, x3, x4 => if x4 < (x0.size : Int) then ((spec_Character.f k x0 x4).bind fun bt107 => (if 0 ≤ x4 then ((spec_shortOf.f (bt x0 x4)).bind fun bt110 => (if bt107.2.2 = true then (if bt110.2 = true then (spec_Written.j1 k x0 x3 x4 bt107.1 bt107.2.1 bt110.1 (bt107.1 != 47)) else (spec_Written.j1 k x0 x3 x4 bt107.1 bt107.2.1 bt110.1 false)) else ((spec_appendUTF8.f k x3 65533).bind fun t131 => (spec_Written.l0 k x0 t131 (wrap64 (x4 + bt107.2.1)))))) else (none))) else (if x3.length < 140737488355328 then (some (strOfNums (x3 ++ [34]))) else (none))
def spec_Written.j1 : Nat → ByteArray → List Int → Int → Int → Int → Int → Bool → Option (ByteArray)
  | 0, _, _, _, _, _, _, _ => none
  | k + 1, x0, x3, x4, x5, x6, x8, x43 => if x43 = true then ((some (([92, x8] : List Int) : List Int)).bind fun y112 => (if x3.length + y112.length < 140737488355328 then (spec_Written.l0 k x0 (x3 ++ y112) (wrap64 (x4 + x6))) else (none))) else (if x5 < 32 then (spec_Written.j2 k x0 x3 x4 x5 x6 true) else (if x5 = 60 then (spec_Written.j2 k x0 x3 x4 x5 x6 true) else (if x5 = 62 then (spec_Written.j2 k x0 x3 x4 x5 x6 true) else (if x5 = 38 then (spec_Written.j2 k x0 x3 x4 x5 x6 true) else (if x5 = 8232 then (spec_Written.j2 k x0 x3 x4 x5 x6 true) else (spec_Written.j2 k x0 x3 x4 x5 x6 (x5 == 8233)))))))
def spec_Written.j2 : Nat → ByteArray → List Int → Int → Int → Int → Bool → Option (ByteArray)
  | 0, _, _, _, _, _, _ => none
  | k + 1, x0, x3, x4, x5, x6, x53 => if x53 = true then ((some (([92, 117] : List Int) : List Int)).bind fun y118 => (if x3.length + y118.length < 140737488355328 then (spec_Written.l1 k x0 (x3 ++ y118) x4 x5 x6 12) else (none))) else (if 0 ≤ x4 then (if x4 ≤ (wrap64 (x4 + x6)) then (if (wrap64 (x4 + x6)) ≤ (x0.size : Int) then (if x3.length + (x0.extract (x4 : Int).toNat ((wrap64 (x4 + x6)) : Int).toNat).size < 140737488355328 then (spec_Written.l0 k x0 (x3 ++ bytesOf (x0.extract (x4 : Int).toNat ((wrap64 (x4 + x6)) : Int).toNat)) (wrap64 (x4 + x6))) else (none)) else (none)) else (none)) else (none))
def spec_Written.l1 : Nat → ByteArray → List Int → Int → Int → Int → Int → Option (ByteArray)
  | 0, _, _, _, _, _, _ => none
  | k + 1, x0, x3, x4, x5, x6, x10 => if x10 ≥ 0 then (if 0 ≤ (IntKind.u64.wrap (x10)) then ((spec_digitOf.f (Go.bits .and .i64 (shr .i64 x5 (IntKind.u64.wrap (x10))) 15) false).bind fun t124 => (if x3.length < 140737488355328 then (spec_Written.l1 k x0 (x3 ++ [t124]) x4 x5 x6 (wrap64 (x10 - 4))) else (none))) else (none)) else (spec_Written.l0 k x0 x3 (wrap64 (x4 + x6)))
end
def spec_Written.f (k : Nat) (a0 : ByteArray) : Option (ByteArray) := spec_Written.l0 k a0 (([34] : List Int)) 0
theorem spec_Written.mono_l : ∀ k, (∀ y0 y1 y2, LeO (spec_Written.l0 k y0 y1 y2) (spec_Written.l0 (k + 1) y0 y1 y2)) ∧ (∀ y0 y1 y2 y3 y4 y5 y6, LeO (spec_Written.j1 k y0 y1 y2 y3 y4 y5 y6) (spec_Written.j1 (k + 1) y0 y1 y2 y3 y4 y5 y6)) ∧ (∀ y0 y1 y2 y3 y4 y5, LeO (spec_Written.j2 k y0 y1 y2 y3 y4 y5) (spec_Written.j2 (k + 1) y0 y1 y2 y3 y4 y5)) ∧ (∀ y0 y1 y2 y3 y4 y5, LeO (spec_Written.l1 k y0 y1 y2 y3 y4 y5) (spec_Written.l1 (k + 1) y0 y1 y2 y3 y4 y5))
  | 0 => ⟨fun _ _ _ r h => by simp [spec_Written.l0] at h, fun _ _ _ _ _ _ _ r h => by simp [spec_Written.j1] at h, fun _ _ _ _ _ _ r h => by simp [spec_Written.j2] at h, fun _ _ _ _ _ _ r h => by simp [spec_Written.l1] at h⟩
  | k + 1 => by
    obtain ⟨ih0, ih1, ih2, ih3⟩ := spec_Written.mono_l k
    refine ⟨?_, ?_, ?_, ?_⟩
    · intro y0 y1 y2
      unfold spec_Written.l0
      repeat' first
      | (with_reducible exact ih0 _ _ _)
      | (with_reducible exact ih1 _ _ _ _ _ _ _)
      | (with_reducible exact ih2 _ _ _ _ _ _)
      | (with_reducible exact ih3 _ _ _ _ _ _)
      | (with_reducible exact spec_Character.mono _ _ _)
      | (with_reducible exact spec_appendUTF8.mono _ _ _)
      | (with_reducible exact LeO.refl _)
      | (with_reducible exact LeO.none _)
      | (with_reducible refine LeO.ite ?_ ?_)
      | (with_reducible refine LeO.bind ?_ (fun _ => ?_))
      | exact ih0 _ _ _
      | exact ih1 _ _ _ _ _ _ _
      | exact ih2 _ _ _ _ _ _
      | exact ih3 _ _ _ _ _ _
      | exact spec_Character.mono _ _ _
      | exact spec_appendUTF8.mono _ _ _
      | exact LeO.none _
      | refine LeO.ite ?_ ?_
      | refine LeO.bind ?_ (fun _ => ?_)
    · intro y0 y1 y2 y3 y4 y5 y6
      unfold spec_Written.j1
      repeat' first
      | (with_reducible exact ih0 _ _ _)
      | (with_reducible exact ih1 _ _ _ _ _ _ _)
      | (with_reducible exact ih2 _ _ _ _ _ _)
      | (with_reducible exact ih3 _ _ _ _ _ _)
      | (with_reducible exact spec_Character.mono _ _ _)
      | (with_reducible exact spec_appendUTF8.mono _ _ _)
      | (with_reducible exact LeO.refl _)
      | (with_reducible exact LeO.none _)
      | (with_reducible refine LeO.ite ?_ ?_)
      | (with_reducible refine LeO.bind ?_ (fun _ => ?_))
      | exact ih0 _ _ _
      | exact ih1 _ _ _ _ _ _ _
      | exact ih2 _ _ _ _ _ _
      | exact ih3 _ _ _ _ _ _
      | exact spec_Character.mono _ _ _
      | exact spec_appendUTF8.mono _ _ _
      | exact LeO.none _
      | refine LeO.ite ?_ ?_
      | refine LeO.bind ?_ (fun _ => ?_)
    · intro y0 y1 y2 y3 y4 y5
      unfold spec_Written.j2
      repeat' first
      | (with_reducible exact ih0 _ _ _)
      | (with_reducible exact ih1 _ _ _ _ _ _ _)
      | (with_reducible exact ih2 _ _ _ _ _ _)
      | (with_reducible exact ih3 _ _ _ _ _ _)
      | (with_reducible exact spec_Character.mono _ _ _)
      | (with_reducible exact spec_appendUTF8.mono _ _ _)
      | (with_reducible exact LeO.refl _)
      | (with_reducible exact LeO.none _)
      | (with_reducible refine LeO.ite ?_ ?_)
      | (with_reducible refine LeO.bind ?_ (fun _ => ?_))
      | exact ih0 _ _ _
      | exact ih1 _ _ _ _ _ _ _
      | exact ih2 _ _ _ _ _ _
      | exact ih3 _ _ _ _ _ _
      | exact spec_Character.mono _ _ _
      | exact spec_appendUTF8.mono _ _ _
      | exact LeO.none _
      | refine LeO.ite ?_ ?_
      | refine LeO.bind ?_ (fun _ => ?_)
    · intro y0 y1 y2 y3 y4 y5
      unfold spec_Written.l1
      repeat' first
      | (with_reducible exact ih0 _ _ _)
      | (with_reducible exact ih1 _ _ _ _ _ _ _)
      | (with_reducible exact ih2 _ _ _ _ _ _)
      | (with_reducible exact ih3 _ _ _ _ _ _)
      | (with_reducible exact spec_Character.mono _ _ _)
      | (with_reducible exact spec_appendUTF8.mono _ _ _)
      | (with_reducible exact LeO.refl _)
      | (with_reducible exact LeO.none _)
      | (with_reducible refine LeO.ite ?_ ?_)
      | (with_reducible refine LeO.bind ?_ (fun _ => ?_))
      | exact ih0 _ _ _
      | exact ih1 _ _ _ _ _ _ _
      | exact ih2 _ _ _ _ _ _
      | exact ih3 _ _ _ _ _ _
      | exact spec_Character.mono _ _ _
      | exact spec_appendUTF8.mono _ _ _
      | exact LeO.none _
      | refine LeO.ite ?_ ?_
      | refine LeO.bind ?_ (fun _ => ?_)
theorem spec_Written.mono : ∀ a0 k, LeO (spec_Written.f k a0) (spec_Written.f (k + 1) a0) := by
  intro a0 k
  obtain ⟨ih0, ih1, ih2, ih3⟩ := spec_Written.mono_l k
  unfold spec_Written.f
  repeat' first
      | (with_reducible exact ih0 _ _ _)
      | (with_reducible exact ih1 _ _ _ _ _ _ _)
      | (with_reducible exact ih2 _ _ _ _ _ _)
      | (with_reducible exact ih3 _ _ _ _ _ _)
      | (with_reducible exact spec_Character.mono _ _ _)
      | (with_reducible exact spec_appendUTF8.mono _ _ _)
      | (with_reducible exact LeO.refl _)
      | (with_reducible exact LeO.none _)
      | (with_reducible refine LeO.ite ?_ ?_)
      | (with_reducible refine LeO.bind ?_ (fun _ => ?_))
      | exact ih0 _ _ _
      | exact ih1 _ _ _ _ _ _ _
      | exact ih2 _ _ _ _ _ _
      | exact ih3 _ _ _ _ _ _
      | exact spec_Character.mono _ _ _
      | exact spec_appendUTF8.mono _ _ _
      | exact LeO.none _
      | refine LeO.ite ?_ ?_
      | refine LeO.bind ?_ (fun _ => ?_)
set_option maxHeartbeats 8000000 in
set_option maxRecDepth 100000 in
theorem spec_Written.calls (k : Nat) (a0 : ByteArray) (r : ByteArray) (w : World) (h : spec_Written.f k a0 = some r) :
    Calls Tryd.prog 12 #[.string a0] w fun e w' => e = .returned (.string r) ∧ Below w.heap.size w w' := by
  have HB := Aside0.mk (Below.refl w.heap.size w)
  have H : (spec_Written.l0 k a0 (([34] : List Int)) 0) = some r := h
  clear h
  obtain ⟨y101, hy101⟩ : ∃ y_ : List Int, y_ = (([34] : List Int)) := ⟨_, rfl⟩
  replace H : (spec_Written.l0 k a0 y101 0) = some r := by first | (rw [hy101]; with_reducible exact H) | (have H2_ := (Option.bind_some _ _).symm.trans H; rw [hy101]; with_reducible exact H2_) | (have H2_ := (Option.bind_some _ _).symm.trans H; with_reducible exact H2_) | with_reducible exact H | (rw [hy101]; exact H) | exact H
  have Ny101 := Aside0.mk hy101
  clear hy101
  have H' := Aside0.mk H
  clear H
  go_enter Tryd.func12, Tryd.ntmps12
  go_wp2_with (first | ((with_reducible refine gate_dst (N := 11) rfl ?_); refine Kd.R_lit (Kd.int .u8) _ 5 ?hg (N := 11) ?hd (xs := ([34] : List Int)) (inner := [.int .u8 34]) (ok := fun _ => True) (okp := fun _ => True) ?hr ?hp (fun _ hk => hk) trivial (Below.refl _ _) (Nat.le_refl _) (by simp) ?_; (case hd => rfl); (case hg => rfl); (case hr => first | (go_simp; done) | (go_simp; rfl)); (case hp => exact (Reps.one (show Kd.M (Kd.int .u8) _ _ _ 34 [.int .u8 34] from rfl) (Reps.none _ _))); intro v102 w2 ho3 hb hg_ hnew_; clear hg_ hnew_; (first | rw [← Ny101.out] at ho3 | (simp only [Int.reduceToNat] at ho3; rw [← Ny101.out] at ho3)); have n0_ := Aside0.mk (Kd.R_lower ho3 (below_size (by repeat (first | (with_reducible first | exact HB.out | apply below_alloc | apply pw_below_drewN | apply below_drew1) | exact HB.out)))); have n1_ := Aside0.mk (below_step (by repeat (first | (with_reducible first | exact HB.out | apply below_alloc | apply pw_below_drewN | apply below_drew1) | exact HB.out)) hb); clear HB; have HO103 := n0_; have HB := n1_; clear n0_ n1_; clear hb ho3))
  (try simp only [Act.put, List.setIfInBounds_toArray, List.set_cons_zero, List.set_cons_succ])
  go_loopg [3, 4] k (fun kq v3 v4 w' => ∃ (x3_1 : List Int) (x4_1 : Int), v4 = .int .i64 x4_1 ∧ Aside0 (spec_Written.l0 kq a0 x3_1 x4_1 = some r) ∧ Aside0 (kq ≤ k) ∧ Aside0 (Kd.R (Kd.int .u8) 5 w' w.heap.size (fun _ => True) v3 x3_1) ∧ Aside0 (Below w.heap.size w w'))
  case atStart => exact ⟨(y101), (0), (by first | rfl | (simp; done) | (simp [*]; done)), H', ⟨Nat.le_refl _⟩, ⟨by (with_reducible repeat (first | apply Kd.R_alloc | apply Kd.R_drewN | apply Kd.R_drew)); exact HO103.out⟩, ⟨by repeat (first | (with_reducible first | exact HB.out | apply below_alloc | apply pw_below_drewN | apply below_drew1) | exact HB.out)⟩⟩
  case round =>
    clear H'
    try clear c1
    try clear p2
    obtain ⟨x3_1, x4_1, rfl, HA, HK1, HO_3, HB⟩ := hrel
    cases gk with
    | zero => exact absurd HA.out (by simp [spec_Written.l0])
    | succ k1 =>
      have H := HA.out
      clear HA
      simp only [spec_Written.l0] at H
      by_cases c4 : x4_1 < (a0.size : Int)
      · rw [if_pos c4] at H
        have c4b0 : decide (x4_1 < (a0.size : Int)) = true := decide_eq_true c4
        clear c4
        replace H := Option.bind_eq_some_iff.mp H
        obtain ⟨⟨t107, t108, t109⟩, A50, H⟩ := H
        replace H : (if 0 ≤ x4_1 then ((spec_shortOf.f (bt a0 x4_1)).bind fun bt110 => (if t109 = true then (if bt110.2 = true then (spec_Written.j1 k1 a0 x3_1 x4_1 t107 t108 bt110.1 (t107 != 47)) else (spec_Written.j1 k1 a0 x3_1 x4_1 t107 t108 bt110.1 false)) else ((spec_appendUTF8.f k1 x3_1 65533).bind fun t131 => (spec_Written.l0 k1 a0 t131 (wrap64 (x4_1 + t108)))))) else (none)) = some r := H
        have A5 := Aside0.mk A50
        clear A50
        by_cases c6 : 0 ≤ x4_1
        · rw [if_pos c6] at H
          have c6b0 : decide (0 ≤ x4_1) = true := decide_eq_true c6
          clear c6
          replace H := Option.bind_eq_some_iff.mp H
          obtain ⟨⟨t110, t111⟩, A80, H⟩ := H
          replace H : (if t109 = true then (if t111 = true then (spec_Written.j1 k1 a0 x3_1 x4_1 t107 t108 t110 (t107 != 47)) else (spec_Written.j1 k1 a0 x3_1 x4_1 t107 t108 t110 false)) else ((spec_appendUTF8.f k1 x3_1 65533).bind fun t131 => (spec_Written.l0 k1 a0 t131 (wrap64 (x4_1 + t108))))) = some r := H
          have A8 := Aside0.mk A80
          clear A80
          by_cases c9 : t109 = true
          · subst c9
            have H1 : (if t111 = true then (spec_Written.j1 k1 a0 x3_1 x4_1 t107 t108 t110 (t107 != 47)) else (spec_Written.j1 k1 a0 x3_1 x4_1 t107 t108 t110 false)) = some r := by rw [if_pos rfl] at H; exact H
            clear H
            have H := H1
            clear H1
            have HC10 := Aside0.mk H
            clear H
            go_upto_region 9 with (first | ((with_reducible refine gate_callee (f := 29) rfl ?_); refine goesL_ (some 19) rfl rfl Tryd.func29 (by kernel_rfl) rfl #[.string a0, .int .i64 x4_1] rfl (by (try simp only [List.map_toArray, List.map_cons, List.map_nil]); first | done | rfl | (simp only [List.length_drop, List.length_take]; rfl)) ?_; (with_reducible refine (spec_Character.calls k1 a0 x4_1 t107 t108 true _ A5.out).mono ?_); rintro e w' ⟨rfl, ⟨nd, rfl⟩⟩; refine ⟨_, rfl, ?_⟩; have p7 : 0 ≤ (x4_1 : Int) := of_decide_eq_true (by first | (with_reducible assumption) | assumption); have q7 : x4_1 < (a0.size : Int) := of_decide_eq_true (by first | (with_reducible assumption) | assumption); have hx7 := bt_at a0 x4_1; replace p7 := eq_true p7; replace q7 := eq_true q7) | ((with_reducible refine gate_callee (f := 31) rfl ?_); refine goesL_ (some 27) rfl rfl Tryd.func31 (by kernel_rfl) rfl #[.int .u8 (bt a0 x4_1)] rfl (by (try simp only [List.map_toArray, List.map_cons, List.map_nil]); first | done | rfl | (simp only [List.length_drop, List.length_take]; rfl)) ?_; (with_reducible refine (spec_shortOf.calls (bt a0 x4_1) t110 t111 _ A8.out).mono ?_); rintro e w' ⟨rfl, ⟨nd, rfl⟩⟩; refine ⟨_, rfl, ?_⟩))
            (try simp only [Act.put, List.setIfInBounds_toArray, List.set_cons_zero, List.set_cons_succ])
            go_cut [43] (fun v43 wc => ∃ (kq : Nat) (x43_9 : Bool), v43 = .bool x43_9 ∧ Aside0 (spec_Written.j1 kq a0 x3_1 x4_1 t107 t108 t110 x43_9 = some r) ∧ Aside0 (kq ≤ k1) ∧ Aside0 (Kd.R (Kd.int .u8) 5 wc w.heap.size (fun _ => True) u3 x3_1) ∧ Aside0 (Below w.heap.size w wc))
            case first =>
              have H := HC10.out
              clear HC10
              by_cases c11 : t111 = true
              · subst c11
                have H1 : (spec_Written.j1 k1 a0 x3_1 x4_1 t107 t108 t110 (t107 != 47)) = some r := by rw [if_pos rfl] at H; exact H
                clear H
                have H := H1
                clear H1
                have H' := Aside0.mk H
                clear H
                go_wp2
                go_meet
                case rel => exact ⟨_, ((t107 != 47)), (by first | rfl | (simp; done) | (simp [*]; done)), H', ⟨by have := HK1.out; first | omega | exact Nat.le_refl _⟩, ⟨by (with_reducible repeat (first | apply Kd.R_alloc | apply Kd.R_drewN | apply Kd.R_drew)); exact HO_3.out⟩, ⟨by repeat (first | (with_reducible first | exact HB.out | apply below_alloc | apply pw_below_drewN | apply below_drew1) | exact HB.out)⟩⟩
              · replace c11 := Bool.eq_false_iff.mpr c11
                subst c11
                have H1 : (spec_Written.j1 k1 a0 x3_1 x4_1 t107 t108 t110 false) = some r := by rw [if_neg (show ¬ (false = true) by decide)] at H; exact H
                clear H
                have H := H1
                clear H1
                have H' := Aside0.mk H
                clear H
                go_wp2
                go_meet
                case rel => exact ⟨_, (false), (by first | rfl | (simp; done) | (simp [*]; done)), H', ⟨by have := HK1.out; first | omega | exact Nat.le_refl _⟩, ⟨by (with_reducible repeat (first | apply Kd.R_alloc | apply Kd.R_drewN | apply Kd.R_drew)); exact HO_3.out⟩, ⟨by repeat (first | (with_reducible first | exact HB.out | apply below_alloc | apply pw_below_drewN | apply below_drew1) | exact HB.out)⟩⟩
            case rest =>
              clear HC10
              try clear c1
              try clear c2
              try clear p2
              try clear c3
              try clear c4
              try clear c4b0
              try clear c6
              try clear c6b0
              try clear p6
              try clear p7
              try clear q7
              try clear hx7
              try clear c9
              try clear c11
              try clear p2
              try clear p7
              try clear q7
              obtain ⟨kq, x43_9, rfl, HA, HJ9, HO_3, HB⟩ := hcut
              cases kq with
              | zero => exact absurd HA.out (by simp [spec_Written.j1])
              | succ kj9 =>
                have H := HA.out
                clear HA
                simp only [spec_Written.j1] at H
                by_cases c12 : x43_9 = true
                · subst c12
                  have H1 : ((some (([92, t110] : List Int) : List Int)).bind fun y112 => (if x3_1.length + y112.length < 140737488355328 then (spec_Written.l0 kj9 a0 (x3_1 ++ y112) (wrap64 (x4_1 + t108))) else (none))) = some r := by rw [if_pos rfl] at H; exact H
                  clear H
                  have H := H1
                  clear H1
                  obtain ⟨y112, hy112⟩ : ∃ y_ : List Int, y_ = (([92, t110] : List Int)) := ⟨_, rfl⟩
                  replace H : (if x3_1.length + y112.length < 140737488355328 then (spec_Written.l0 kj9 a0 (x3_1 ++ y112) (wrap64 (x4_1 + t108))) else (none)) = some r := by first | (rw [hy112]; with_reducible exact H) | (have H2_ := (Option.bind_some _ _).symm.trans H; rw [hy112]; with_reducible exact H2_) | (have H2_ := (Option.bind_some _ _).symm.trans H; with_reducible exact H2_) | with_reducible exact H | (rw [hy112]; exact H) | exact H
                  have Ny112 := Aside0.mk hy112
                  clear hy112
                  by_cases c13 : x3_1.length + y112.length < 140737488355328
                  · rw [if_pos c13] at H
                    have LMc13 := Aside0.mk c13
                    clear c13
                    obtain ⟨y115, hy115⟩ : ∃ y_ : List Int, y_ = (x3_1 ++ y112) := ⟨_, rfl⟩
                    replace H : (spec_Written.l0 kj9 a0 y115 (wrap64 (x4_1 + t108))) = some r := by first | (rw [hy115]; with_reducible exact H) | (have H2_ := (Option.bind_some _ _).symm.trans H; rw [hy115]; with_reducible exact H2_) | (have H2_ := (Option.bind_some _ _).symm.trans H; with_reducible exact H2_) | with_reducible exact H | (rw [hy115]; exact H) | exact H
                    have Ny115 := Aside0.mk hy115
                    clear hy115
                    have H' := Aside0.mk H
                    clear H
                    go_wp2_with (first | ((with_reducible refine gate_dst (N := 51) rfl ?_); refine Kd.R_lit (Kd.int .u8) _ 5 ?hg (N := 51) ?hd (xs := ([92, t110] : List Int)) (inner := [.int .u8 92, .int .u8 t110]) (ok := fun _ => True) (okp := fun _ => True) ?hr ?hp (fun _ hk => hk) trivial (Below.refl _ _) (Nat.le_refl _) (by simp) ?_; (case hd => rfl); (case hg => rfl); (case hr => first | (go_simp; done) | (go_simp; rfl)); (case hp => exact (Reps.one (show Kd.M (Kd.int .u8) _ _ _ 92 [.int .u8 92] from rfl) (Reps.one (show Kd.M (Kd.int .u8) _ _ _ t110 [.int .u8 t110] from rfl) (Reps.none _ _)))); intro v113 w14 ho15 hb hg_ hnew_; clear hg_ hnew_; (first | rw [← Ny112.out] at ho15 | (simp only [Int.reduceToNat] at ho15; rw [← Ny112.out] at ho15)); have n0_ := Aside0.mk (Kd.R_elder' (by (with_reducible repeat (first | apply Kd.R_alloc | apply Kd.R_drewN | apply Kd.R_drew)); exact HO_3.out) (Kd.R_base ho15) hb); have n1_ := Aside0.mk (Kd.R_lower (Kd.R_new' ho15 (Kd.R_lt (by (with_reducible repeat (first | apply Kd.R_alloc | apply Kd.R_drewN | apply Kd.R_drew)); exact HO_3.out))) (below_size (by repeat (first | (with_reducible first | exact HB.out | apply below_alloc | apply pw_below_drewN | apply below_drew1) | exact HB.out)))); have n2_ := Aside0.mk (below_step (by repeat (first | (with_reducible first | exact HB.out | apply below_alloc | apply pw_below_drewN | apply below_drew1) | exact HB.out)) hb); clear HO_3; clear HB; have HO_3 := n0_; have HO114 := n1_; have HB := n2_; clear n0_ n1_ n2_; clear hb ho15; obtain ⟨Ao17, co17, eo17⟩ := Kd.R_slice HO114.out; subst eo17) | ((with_reducible refine gate_builtin (b := .append) (xs := #[.tmp 49, .tmp 51]) rfl ?_); at_builtin; refine Kd.R_append_rows (Kd.int .u8) (w0 := w) w.heap.size rfl (.tmp 49) (.tmp 51) 37 5 (.int .u8 0) 1 rfl Tryd.underlying37 info5 rfl (by decide) (by omega) u3 x3_1 y112 _ _ _ (fun k_ => some k_ ≠ (.slice Ao17 y112.length co17 : Value).ownBlock) (fun _ => False) rfl rfl ?aO ?aR (fun _ _ h => h) (fun _ h => h.elim) ?aF ?aB ?aS ?aL ?_; (case aR => repeat (first | exact (Kd.R_reads' HO114.out).2.2 | (with_reducible refine Kd.C_alloc ?_ _) | (with_reducible refine Kd.C_drewN ?_ _) | (with_reducible refine Kd.C_drew ?_))); (case aB => exact (by repeat (first | (with_reducible first | exact HB.out | apply below_alloc | apply pw_below_drewN | apply below_drew1) | exact HB.out))); (case aF => exact (fun k_ hk => Kd.fresh' (Kd.R_lt (by (with_reducible repeat (first | apply Kd.R_alloc | apply Kd.R_drewN | apply Kd.R_drew)); exact HO114.out)) k_ hk)); (case aO => exact (by (with_reducible repeat (first | apply Kd.R_alloc | apply Kd.R_drewN | apply Kd.R_drew)); exact Kd.R_mono HO_3.out (fun _ hk => hk.2))); (case aS => exact (below_size (by repeat (first | (with_reducible first | exact HB.out | apply below_alloc | apply pw_below_drewN | apply below_drew1) | exact HB.out)))); (case aL => have := LMc13.out; omega); intro v116 w16 ho hb hg hat; rw [← Ny115.out] at ho; have n0_ := Aside0.mk (Kd.R_after (ok := (fun _ => True)) (by (with_reducible repeat (first | apply Kd.R_alloc | apply Kd.R_drewN | apply Kd.R_drew)); exact HO114.out) hg hat); have n1_ := Aside0.mk (hb); have n2_ := Aside0.mk (ho); clear HO114; clear HB; clear HO_3; have HO114 := n0_; have HB := n1_; have HO117 := n2_; clear n0_ n1_ n2_; clear ho hb hg hat))
                    go_roundg kj9
                    case measure => have := HK1.out; have := HJ9.out; omega
                    case rel => exact ⟨(y115), (wrap64 (x4_1 + t108)), (by first | rfl | (simp; done) | (simp [*]; done)), H', ⟨by have := HK1.out; have := HJ9.out; omega⟩, ⟨by (with_reducible repeat (first | apply Kd.R_alloc | apply Kd.R_drewN | apply Kd.R_drew)); exact Kd.R_mono HO117.out (fun _ hk => trivial)⟩, ⟨by repeat (first | (with_reducible first | exact HB.out | apply below_alloc | apply pw_below_drewN | apply below_drew1) | exact HB.out)⟩⟩
                  · rw [if_neg c13] at H
                    exact absurd H (by simp)
                · replace c12 := Bool.eq_false_iff.mpr c12
                  subst c12
                  have H1 : (if t107 < 32 then (spec_Written.j2 kj9 a0 x3_1 x4_1 t107 t108 true) else (if t107 = 60 then (spec_Written.j2 kj9 a0 x3_1 x4_1 t107 t108 true) else (if t107 = 62 then (spec_Written.j2 kj9 a0 x3_1 x4_1 t107 t108 true) else (if t107 = 38 then (spec_Written.j2 kj9 a0 x3_1 x4_1 t107 t108 true) else (if t107 = 8232 then (spec_Written.j2 kj9 a0 x3_1 x4_1 t107 t108 true) else (spec_Written.j2 kj9 a0 x3_1 x4_1 t107 t108 (t107 == 8233))))))) = some r := by rw [if_neg (show ¬ (false = true) by decide)] at H; exact H
                  clear H
                  have H := H1
                  clear H1
                  have HC18 := Aside0.mk H
                  clear H
                  go_upto_region 11 with (fail)
                  go_cut [53] (fun v53 wc => ∃ (kq : Nat) (x53_17 : Bool), v53 = .bool x53_17 ∧ Aside0 (spec_Written.j2 kq a0 x3_1 x4_1 t107 t108 x53_17 = some r) ∧ Aside0 (kq ≤ kj9) ∧ Aside0 (Kd.R (Kd.int .u8) 5 wc w.heap.size (fun _ => True) u3 x3_1) ∧ Aside0 (Below w.heap.size w wc))
                  case first =>
                    have H := HC18.out
                    clear HC18
                    by_cases c19 : t107 < 32
                    · rw [if_pos c19] at H
                      have c19b0 : decide (t107 < 32) = true := decide_eq_true c19
                      clear c19
                      (first | rw [c19b0] | (simp only [i64_w, i32_w]; rw [c19b0]) | skip)
                      have H' := Aside0.mk H
                      clear H
                      go_wp2
                      go_meet
                      case rel => exact ⟨_, (true), (by first | rfl | (simp; done) | (simp [*]; done)), H', ⟨by have := HK1.out; have := HJ9.out; first | omega | exact Nat.le_refl _⟩, ⟨by (with_reducible repeat (first | apply Kd.R_alloc | apply Kd.R_drewN | apply Kd.R_drew)); exact HO_3.out⟩, ⟨by repeat (first | (with_reducible first | exact HB.out | apply below_alloc | apply pw_below_drewN | apply below_drew1) | exact HB.out)⟩⟩
                    · rw [if_neg c19] at H
                      have c19b0 : decide (t107 < 32) = false := decide_eq_false c19
                      clear c19
                      (first | rw [c19b0] | (simp only [i64_w, i32_w]; rw [c19b0]) | skip)
                      by_cases c20 : t107 = 60
                      · rw [if_pos c20] at H
                        have c20b0 : (t107 == 60) = true := beq_iff_eq.mpr c20
                        have c20b1 : (t107 != 60) = false := bne_eq_false_iff_eq.mpr c20
                        clear c20
                        have H' := Aside0.mk H
                        clear H
                        go_wp2
                        go_meet
                        case rel => exact ⟨_, (true), (by first | rfl | (simp; done) | (simp [*]; done)), H', ⟨by have := HK1.out; have := HJ9.out; first | omega | exact Nat.le_refl _⟩, ⟨by (with_reducible repeat (first | apply Kd.R_alloc | apply Kd.R_drewN | apply Kd.R_drew)); exact HO_3.out⟩, ⟨by repeat (first | (with_reducible first | exact HB.out | apply below_alloc | apply pw_below_drewN | apply below_drew1) | exact HB.out)⟩⟩
                      · rw [if_neg c20] at H
                        have c20b0 : (t107 == 60) = false := beq_eq_false_iff_ne.mpr c20
                        have c20b1 : (t107 != 60) = true := bne_iff_ne.mpr c20
                        by_cases c21 : t107 = 62
                        · rw [if_pos c21] at H
                          have c21b0 : (t107 == 62) = true := beq_iff_eq.mpr c21
                          have c21b1 : (t107 != 62) = false := bne_eq_false_iff_eq.mpr c21
                          clear c21
                          have H' := Aside0.mk H
                          clear H
                          go_wp2
                          go_meet
                          case rel => exact ⟨_, (true), (by first | rfl | (simp; done) | (simp [*]; done)), H', ⟨by have := HK1.out; have := HJ9.out; first | omega | exact Nat.le_refl _⟩, ⟨by (with_reducible repeat (first | apply Kd.R_alloc | apply Kd.R_drewN | apply Kd.R_drew)); exact HO_3.out⟩, ⟨by repeat (first | (with_reducible first | exact HB.out | apply below_alloc | apply pw_below_drewN | apply below_drew1) | exact HB.out)⟩⟩
                        · rw [if_neg c21] at H
                          have c21b0 : (t107 == 62) = false := beq_eq_false_iff_ne.mpr c21
                          have c21b1 : (t107 != 62) = true := bne_iff_ne.mpr c21
                          by_cases c22 : t107 = 38
                          · rw [if_pos c22] at H
                            have c22b0 : (t107 == 38) = true := beq_iff_eq.mpr c22
                            have c22b1 : (t107 != 38) = false := bne_eq_false_iff_eq.mpr c22
                            clear c22
                            have H' := Aside0.mk H
                            clear H
                            go_wp2
                            go_meet
                            case rel => exact ⟨_, (true), (by first | rfl | (simp; done) | (simp [*]; done)), H', ⟨by have := HK1.out; have := HJ9.out; first | omega | exact Nat.le_refl _⟩, ⟨by (with_reducible repeat (first | apply Kd.R_alloc | apply Kd.R_drewN | apply Kd.R_drew)); exact HO_3.out⟩, ⟨by repeat (first | (with_reducible first | exact HB.out | apply below_alloc | apply pw_below_drewN | apply below_drew1) | exact HB.out)⟩⟩
                          · rw [if_neg c22] at H
                            have c22b0 : (t107 == 38) = false := beq_eq_false_iff_ne.mpr c22
                            have c22b1 : (t107 != 38) = true := bne_iff_ne.mpr c22
                            by_cases c23 : t107 = 8232
                            · rw [if_pos c23] at H
                              have c23b0 : (t107 == 8232) = true := beq_iff_eq.mpr c23
                              have c23b1 : (t107 != 8232) = false := bne_eq_false_iff_eq.mpr c23
                              clear c23
                              have H' := Aside0.mk H
                              clear H
                              go_wp2
                              go_meet
                              case rel => exact ⟨_, (true), (by first | rfl | (simp; done) | (simp [*]; done)), H', ⟨by have := HK1.out; have := HJ9.out; first | omega | exact Nat.le_refl _⟩, ⟨by (with_reducible repeat (first | apply Kd.R_alloc | apply Kd.R_drewN | apply Kd.R_drew)); exact HO_3.out⟩, ⟨by repeat (first | (with_reducible first | exact HB.out | apply below_alloc | apply pw_below_drewN | apply below_drew1) | exact HB.out)⟩⟩
                            · rw [if_neg c23] at H
                              have c23b0 : (t107 == 8232) = false := beq_eq_false_iff_ne.mpr c23
                              have c23b1 : (t107 != 8232) = true := bne_iff_ne.mpr c23
                              have H' := Aside0.mk H
                              clear H
                              go_wp2
                              go_meet
                              case rel => exact ⟨_, ((t107 == 8233)), (by first | rfl | (simp; done) | (simp [*]; done)), H', ⟨by have := HK1.out; have := HJ9.out; first | omega | exact Nat.le_refl _⟩, ⟨by (with_reducible repeat (first | apply Kd.R_alloc | apply Kd.R_drewN | apply Kd.R_drew)); exact HO_3.out⟩, ⟨by repeat (first | (with_reducible first | exact HB.out | apply below_alloc | apply pw_below_drewN | apply below_drew1) | exact HB.out)⟩⟩
                  case rest =>
                    clear HC18
                    try clear c1
                    try clear c2
                    try clear p2
                    try clear c3
                    try clear c4
                    try clear c4b0
                    try clear c6
                    try clear c6b0
                    try clear p6
                    try clear p7
                    try clear q7
                    try clear hx7
                    try clear c9
                    try clear c11
                    try clear c12
                    try clear c13
                    try clear c19
                    try clear c19b0
                    try clear c20
                    try clear c20b0
                    try clear c20b1
                    try clear c21
                    try clear c21b0
                    try clear c21b1
                    try clear c22
                    try clear c22b0
                    try clear c22b1
                    try clear c23
                    try clear c23b0
                    try clear c23b1
                    try clear p2
                    try clear p6
                    try clear p7
                    try clear q7
                    obtain ⟨kq, x53_17, rfl, HA, HJ17, HO_3, HB⟩ := hcut
                    cases kq with
                    | zero => exact absurd HA.out (by simp [spec_Written.j2])
                    | succ kj17 =>
                      have H := HA.out
                      clear HA
                      simp only [spec_Written.j2] at H
                      by_cases c24 : x53_17 = true
                      · subst c24
                        have H1 : ((some (([92, 117] : List Int) : List Int)).bind fun y118 => (if x3_1.length + y118.length < 140737488355328 then (spec_Written.l1 kj17 a0 (x3_1 ++ y118) x4_1 t107 t108 12) else (none))) = some r := by rw [if_pos rfl] at H; exact H
                        clear H
                        have H := H1
                        clear H1
                        obtain ⟨y118, hy118⟩ : ∃ y_ : List Int, y_ = (([92, 117] : List Int)) := ⟨_, rfl⟩
                        replace H : (if x3_1.length + y118.length < 140737488355328 then (spec_Written.l1 kj17 a0 (x3_1 ++ y118) x4_1 t107 t108 12) else (none)) = some r := by first | (rw [hy118]; with_reducible exact H) | (have H2_ := (Option.bind_some _ _).symm.trans H; rw [hy118]; with_reducible exact H2_) | (have H2_ := (Option.bind_some _ _).symm.trans H; with_reducible exact H2_) | with_reducible exact H | (rw [hy118]; exact H) | exact H
                        have Ny118 := Aside0.mk hy118
                        clear hy118
                        by_cases c25 : x3_1.length + y118.length < 140737488355328
                        · rw [if_pos c25] at H
                          have LMc25 := Aside0.mk c25
                          clear c25
                          obtain ⟨y121, hy121⟩ : ∃ y_ : List Int, y_ = (x3_1 ++ y118) := ⟨_, rfl⟩
                          replace H : (spec_Written.l1 kj17 a0 y121 x4_1 t107 t108 12) = some r := by first | (rw [hy121]; with_reducible exact H) | (have H2_ := (Option.bind_some _ _).symm.trans H; rw [hy121]; with_reducible exact H2_) | (have H2_ := (Option.bind_some _ _).symm.trans H; with_reducible exact H2_) | with_reducible exact H | (rw [hy121]; exact H) | exact H
                          have Ny121 := Aside0.mk hy121
                          clear hy121
                          have H' := Aside0.mk H
                          clear H
                          go_wp2_with (first | ((with_reducible refine gate_dst (N := 77) rfl ?_); refine Kd.R_lit (Kd.int .u8) _ 5 ?hg (N := 77) ?hd (xs := ([92, 117] : List Int)) (inner := [.int .u8 92, .int .u8 117]) (ok := fun _ => True) (okp := fun _ => True) ?hr ?hp (fun _ hk => hk) trivial (Below.refl _ _) (Nat.le_refl _) (by simp) ?_; (case hd => rfl); (case hg => rfl); (case hr => first | (go_simp; done) | (go_simp; rfl)); (case hp => exact (Reps.one (show Kd.M (Kd.int .u8) _ _ _ 92 [.int .u8 92] from rfl) (Reps.one (show Kd.M (Kd.int .u8) _ _ _ 117 [.int .u8 117] from rfl) (Reps.none _ _)))); intro v119 w26 ho27 hb hg_ hnew_; clear hg_ hnew_; (first | rw [← Ny118.out] at ho27 | (simp only [Int.reduceToNat] at ho27; rw [← Ny118.out] at ho27)); have n0_ := Aside0.mk (Kd.R_elder' (by (with_reducible repeat (first | apply Kd.R_alloc | apply Kd.R_drewN | apply Kd.R_drew)); exact HO_3.out) (Kd.R_base ho27) hb); have n1_ := Aside0.mk (Kd.R_lower (Kd.R_new' ho27 (Kd.R_lt (by (with_reducible repeat (first | apply Kd.R_alloc | apply Kd.R_drewN | apply Kd.R_drew)); exact HO_3.out))) (below_size (by repeat (first | (with_reducible first | exact HB.out | apply below_alloc | apply pw_below_drewN | apply below_drew1) | exact HB.out)))); have n2_ := Aside0.mk (below_step (by repeat (first | (with_reducible first | exact HB.out | apply below_alloc | apply pw_below_drewN | apply below_drew1) | exact HB.out)) hb); clear HO_3; clear HB; have HO_3 := n0_; have HO120 := n1_; have HB := n2_; clear n0_ n1_ n2_; clear hb ho27; obtain ⟨Ao29, co29, eo29⟩ := Kd.R_slice HO120.out; subst eo29) | ((with_reducible refine gate_builtin (b := .append) (xs := #[.tmp 76, .tmp 77]) rfl ?_); at_builtin; refine Kd.R_append_rows (Kd.int .u8) (w0 := w) w.heap.size rfl (.tmp 76) (.tmp 77) 37 5 (.int .u8 0) 1 rfl Tryd.underlying37 info5 rfl (by decide) (by omega) u3 x3_1 y118 _ _ _ (fun k_ => some k_ ≠ (.slice Ao29 y118.length co29 : Value).ownBlock) (fun _ => False) rfl rfl ?aO ?aR (fun _ _ h => h) (fun _ h => h.elim) ?aF ?aB ?aS ?aL ?_; (case aR => repeat (first | exact (Kd.R_reads' HO120.out).2.2 | (with_reducible refine Kd.C_alloc ?_ _) | (with_reducible refine Kd.C_drewN ?_ _) | (with_reducible refine Kd.C_drew ?_))); (case aB => exact (by repeat (first | (with_reducible first | exact HB.out | apply below_alloc | apply pw_below_drewN | apply below_drew1) | exact HB.out))); (case aF => exact (fun k_ hk => Kd.fresh' (Kd.R_lt (by (with_reducible repeat (first | apply Kd.R_alloc | apply Kd.R_drewN | apply Kd.R_drew)); exact HO120.out)) k_ hk)); (case aO => exact (by (with_reducible repeat (first | apply Kd.R_alloc | apply Kd.R_drewN | apply Kd.R_drew)); exact Kd.R_mono HO_3.out (fun _ hk => hk.2))); (case aS => exact (below_size (by repeat (first | (with_reducible first | exact HB.out | apply below_alloc | apply pw_below_drewN | apply below_drew1) | exact HB.out)))); (case aL => have := LMc25.out; omega); intro v122 w28 ho hb hg hat; rw [← Ny121.out] at ho; have n0_ := Aside0.mk (Kd.R_after (ok := (fun _ => True)) (by (with_reducible repeat (first | apply Kd.R_alloc | apply Kd.R_drewN | apply Kd.R_drew)); exact HO120.out) hg hat); have n1_ := Aside0.mk (hb); have n2_ := Aside0.mk (ho); clear HO120; clear HB; clear HO_3; have HO120 := n0_; have HB := n1_; have HO123 := n2_; clear n0_ n1_ n2_; clear ho hb hg hat))
                          (try simp only [Act.put, List.setIfInBounds_toArray, List.set_cons_zero, List.set_cons_succ])
                          go_loopg [3, 10] kj17 (fun kq v3 v10 w' => ∃ (x3_4 : List Int) (x10_4 : Int), v10 = .int .i64 x10_4 ∧ Aside0 (spec_Written.l1 kq a0 x3_4 x4_1 t107 t108 x10_4 = some r) ∧ Aside0 (kq ≤ kj17) ∧ Aside0 (Kd.R (Kd.int .u8) 5 w' w.heap.size (fun _ => True) v3 x3_4) ∧ Aside0 (Below w.heap.size w w'))
                          case atStart => exact ⟨(y121), (12), (by first | rfl | (simp; done) | (simp [*]; done)), H', ⟨Nat.le_refl _⟩, ⟨by (with_reducible repeat (first | apply Kd.R_alloc | apply Kd.R_drewN | apply Kd.R_drew)); exact Kd.R_mono HO123.out (fun _ hk => trivial)⟩, ⟨by repeat (first | (with_reducible first | exact HB.out | apply below_alloc | apply pw_below_drewN | apply below_drew1) | exact HB.out)⟩⟩
                          case round =>
                            clear H'
                            try clear c1
                            try clear c2
                            try clear p2
                            try clear c3
                            try clear c4
                            try clear c4b0
                            try clear c6
                            try clear c6b0
                            try clear p6
                            try clear p7
                            try clear q7
                            try clear hx7
                            try clear c9
                            try clear c11
                            try clear c12
                            try clear c13
                            try clear c19
                            try clear c19b0
                            try clear c20
                            try clear c20b0
                            try clear c20b1
                            try clear c21
                            try clear c21b0
                            try clear c21b1
                            try clear c22
                            try clear c22b0
                            try clear c22b1
                            try clear c23
                            try clear c23b0
                            try clear c23b1
                            try clear c24
                            try clear c25
                            try clear c29
                            try clear p2
                            try clear p6
                            try clear p7
                            try clear q7
                            obtain ⟨x3_4, x10_4, rfl, HA, HK4, HO_3, HB⟩ := hrel
                            cases gk with
                            | zero => exact absurd HA.out (by simp [spec_Written.l1])
                            | succ k4 =>
                              have H := HA.out
                              clear HA
                              simp only [spec_Written.l1] at H
                              by_cases c30 : x10_4 ≥ 0
                              · rw [if_pos c30] at H
                                have c30b0 : decide (0 ≤ x10_4) = true := decide_eq_true c30
                                clear c30
                                obtain ⟨ji31, hji31⟩ : ∃ j_ : Int, (IntKind.u64.wrap (x10_4)) = j_ := ⟨_, rfl⟩
                                replace H : (if 0 ≤ (ji31) then ((spec_digitOf.f (Go.bits .and .i64 (shr .i64 t107 (ji31)) 15) false).bind fun t124 => (if x3_4.length < 140737488355328 then (spec_Written.l1 k4 a0 (x3_4 ++ [t124]) x4_1 t107 t108 (wrap64 (x10_4 - 4))) else (none))) else (none)) = some r := by first | (rw [hji31] at H; exact H) | (simp only [hji31] at H ⊢; exact H)
                                by_cases c32 : 0 ≤ (ji31)
                                · rw [if_pos c32] at H
                                  have c32b0 := eq_true c32
                                  have c32b1 : decide (0 ≤ (ji31)) = true := decide_eq_true c32
                                  clear c32
                                  obtain ⟨ji33, hji33⟩ : ∃ j_ : Int, (shr .i64 t107 (ji31)) = j_ := ⟨_, rfl⟩
                                  replace H : ((spec_digitOf.f (Go.bits .and .i64 (ji33) 15) false).bind fun t124 => (if x3_4.length < 140737488355328 then (spec_Written.l1 k4 a0 (x3_4 ++ [t124]) x4_1 t107 t108 (wrap64 (x10_4 - 4))) else (none))) = some r := by first | (rw [hji33] at H; exact H) | (simp only [hji33] at H ⊢; exact H)
                                  have hji33_ : (t107 / 2 ^ min (ji31).toNat 64) = ji33 := hji33
                                  have hji33z : (ji31) ≤ 64 → (t107 / 2 ^ (ji31).toNat) = ji33 := shr_small hji33
                                  replace H := Option.bind_eq_some_iff.mp H
                                  obtain ⟨t124, A340, H⟩ := H
                                  replace H : (if x3_4.length < 140737488355328 then (spec_Written.l1 k4 a0 (x3_4 ++ [t124]) x4_1 t107 t108 (wrap64 (x10_4 - 4))) else (none)) = some r := H
                                  have A34 := Aside0.mk A340
                                  clear A340
                                  by_cases c35 : x3_4.length < 140737488355328
                                  · rw [if_pos c35] at H
                                    have LMc35 := Aside0.mk c35
                                    clear c35
                                    obtain ⟨y125, hy125⟩ : ∃ y_ : List Int, y_ = (x3_4 ++ [t124]) := ⟨_, rfl⟩
                                    replace H : (spec_Written.l1 k4 a0 y125 x4_1 t107 t108 (wrap64 (x10_4 - 4))) = some r := by first | (rw [hy125]; with_reducible exact H) | (have H2_ := (Option.bind_some _ _).symm.trans H; rw [hy125]; with_reducible exact H2_) | (have H2_ := (Option.bind_some _ _).symm.trans H; with_reducible exact H2_) | with_reducible exact H | (rw [hy125]; exact H) | exact H
                                    have Ny125 := Aside0.mk hy125
                                    clear hy125
                                    have H' := Aside0.mk H
                                    clear H
                                    go_wp2_with (first | ((with_reducible refine gate_callee (f := 33) rfl ?_); refine goesL_ (some 89) rfl rfl Tryd.func33 (by kernel_rfl) rfl #[.int .i64 (Go.bits .and .i64 (ji33) 15), .bool false] rfl (by (try simp only [List.map_toArray, List.map_cons, List.map_nil]); first | done | (simp only [hji33]; rfl) | rfl | (simp only [List.length_drop, List.length_take]; rfl)) ?_; (with_reducible refine (spec_digitOf.calls (Go.bits .and .i64 (ji33) 15) false t124 _ A34.out).mono ?_); rintro e w' ⟨rfl, ⟨nd, rfl⟩⟩; refine ⟨_, rfl, ?_⟩) | ((with_reducible refine gate_builtin (b := .append) (xs := #[.tmp 83, .tmp 90]) rfl ?_); at_builtin; refine Kd.R_append (Kd.int .u8) (w0 := w) w.heap.size rfl (.tmp 83) (.tmp 90) 37 5 (.int .u8 0) 1 rfl Tryd.underlying37 info5 rfl (by decide) (by omega) u3 x3_4 t124 [.int .u8 t124] (fun _ => True) (fun _ => False) rfl rfl ?aP (fun _ hk => hk.elim) ?aF ?aO ?aB ?aS ?aL ?_; (case aP => exact rfl); (case aB => exact (by repeat (first | (with_reducible first | exact HB.out | apply below_alloc | apply pw_below_drewN | apply below_drew1) | exact HB.out))); (case aF => exact (fun _ _ => trivial)); (case aO => exact (by (with_reducible repeat (first | apply Kd.R_alloc | apply Kd.R_drewN | apply Kd.R_drew)); exact HO_3.out)); (case aS => exact (below_size (by repeat (first | (with_reducible first | exact HB.out | apply below_alloc | apply pw_below_drewN | apply below_drew1) | exact HB.out)))); (case aL => have := LMc35.out; omega); intro v126 w36 ho hb hg hat; rw [← Ny125.out] at ho; have n0_ := Aside0.mk (hb); have n1_ := Aside0.mk (ho); clear HB; clear HO_3; have HB := n0_; have HO127 := n1_; clear n0_ n1_; clear ho hb hg hat))
                                    (try simp only [← hji31, ← hji33])
                                    go_roundg k4
                                    case measure => have := HK1.out; have := HJ9.out; have := HJ17.out; have := HK4.out; omega
                                    case rel => exact ⟨(y125), (wrap64 (x10_4 - 4)), (by first | rfl | (simp; done) | (simp [*]; done)), (by first | exact H' | (simp only [← hji31, ← hji33] at H' ⊢; exact H')), ⟨by have := HK1.out; have := HJ9.out; have := HJ17.out; have := HK4.out; omega⟩, ⟨by (with_reducible repeat (first | apply Kd.R_alloc | apply Kd.R_drewN | apply Kd.R_drew)); exact HO127.out⟩, ⟨by repeat (first | (with_reducible first | exact HB.out | apply below_alloc | apply pw_below_drewN | apply below_drew1) | exact HB.out)⟩⟩
                                  · rw [if_neg c35] at H
                                    exact absurd H (by simp)
                                · rw [if_neg c32] at H
                                  exact absurd H (by simp)
                              · rw [if_neg c30] at H
                                have c30b0 : decide (0 ≤ x10_4) = false := decide_eq_false c30
                                clear c30
                                have H' := Aside0.mk H
                                clear H
                                go_wp2
                                go_roundg k4
                                case measure => have := HK1.out; have := HJ9.out; have := HJ17.out; have := HK4.out; omega
                                case rel => exact ⟨(x3_4), (wrap64 (x4_1 + t108)), (by first | rfl | (simp; done) | (simp [*]; done)), H', ⟨by have := HK1.out; have := HJ9.out; have := HJ17.out; have := HK4.out; omega⟩, ⟨by (with_reducible repeat (first | apply Kd.R_alloc | apply Kd.R_drewN | apply Kd.R_drew)); exact HO_3.out⟩, ⟨by repeat (first | (with_reducible first | exact HB.out | apply below_alloc | apply pw_below_drewN | apply below_drew1) | exact HB.out)⟩⟩
                        · rw [if_neg c25] at H
                          exact absurd H (by simp)
                      · replace c24 := Bool.eq_false_iff.mpr c24
                        subst c24
                        have H1 : (if 0 ≤ x4_1 then (if x4_1 ≤ (wrap64 (x4_1 + t108)) then (if (wrap64 (x4_1 + t108)) ≤ (a0.size : Int) then (if x3_1.length + (a0.extract (x4_1 : Int).toNat ((wrap64 (x4_1 + t108)) : Int).toNat).size < 140737488355328 then (spec_Written.l0 kj17 a0 (x3_1 ++ bytesOf (a0.extract (x4_1 : Int).toNat ((wrap64 (x4_1 + t108)) : Int).toNat)) (wrap64 (x4_1 + t108))) else (none)) else (none)) else (none)) else (none)) = some r := by rw [if_neg (show ¬ (false = true) by decide)] at H; exact H
                        clear H
                        have H := H1
                        clear H1
                        by_cases c37 : 0 ≤ x4_1
                        · rw [if_pos c37] at H
                          have c37b0 := eq_true c37
                          have c37b1 : decide (0 ≤ x4_1) = true := decide_eq_true c37
                          clear c37
                          by_cases c38 : x4_1 ≤ (wrap64 (x4_1 + t108))
                          · rw [if_pos c38] at H
                            have c38b0 := eq_true c38
                            have c38b1 : decide (x4_1 ≤ (wrap64 (x4_1 + t108))) = true := decide_eq_true c38
                            by_cases c39 : (wrap64 (x4_1 + t108)) ≤ (a0.size : Int)
                            · rw [if_pos c39] at H
                              have c39b0 := eq_true c39
                              have c39b1 : decide ((wrap64 (x4_1 + t108)) ≤ (a0.size : Int)) = true := decide_eq_true c39
                              by_cases c40 : x3_1.length + (a0.extract (x4_1 : Int).toNat ((wrap64 (x4_1 + t108)) : Int).toNat).size < 140737488355328
                              · rw [if_pos c40] at H
                                have LMc40 := Aside0.mk c40
                                clear c40
                                obtain ⟨y128, hy128⟩ : ∃ y_ : List Int, y_ = (x3_1 ++ bytesOf (a0.extract (x4_1 : Int).toNat ((wrap64 (x4_1 + t108)) : Int).toNat)) := ⟨_, rfl⟩
                                replace H : (spec_Written.l0 kj17 a0 y128 (wrap64 (x4_1 + t108))) = some r := by first | (rw [hy128]; with_reducible exact H) | (have H2_ := (Option.bind_some _ _).symm.trans H; rw [hy128]; with_reducible exact H2_) | (have H2_ := (Option.bind_some _ _).symm.trans H; with_reducible exact H2_) | with_reducible exact H | (rw [hy128]; exact H) | exact H
                                have Ny128 := Aside0.mk hy128
                                clear hy128
                                have H' := Aside0.mk H
                                clear H
                                go_wp2_with (first | (at_builtin; refine R_append_str (w0 := w) w.heap.size rfl (.tmp 30) _ 37 9 5 rfl Tryd.underlying37 Tryd.underlying9 info5 u3 x3_1 (a0.extract (x4_1 : Int).toNat ((wrap64 (x4_1 + t108)) : Int).toNat) (fun _ => True) rfl rfl ?aF ?aO ?aB ?aS ?aL ?_; (case aB => exact (by repeat (first | (with_reducible first | exact HB.out | apply below_alloc | apply pw_below_drewN | apply below_drew1) | exact HB.out))); (case aF => exact (fun _ _ => trivial)); (case aO => exact (by (with_reducible repeat (first | apply Kd.R_alloc | apply Kd.R_drewN | apply Kd.R_drew)); exact HO_3.out)); (case aS => exact (below_size (by repeat (first | (with_reducible first | exact HB.out | apply below_alloc | apply pw_below_drewN | apply below_drew1) | exact HB.out)))); (case aL => have := LMc40.out; first | omega | (exact Nat.le_of_lt (Nat.lt_of_le_of_lt (Nat.le_of_eq rfl) this))); intro v129 w41 ho hb hg hat; rw [← Ny128.out] at ho; change Kd.R (Kd.int .u8) 5 w41 w.heap.size (fun _ => True) v129 y128 at ho; have n0_ := Aside0.mk (hb); have n1_ := Aside0.mk (ho); clear HB; clear HO_3; have HB := n0_; have HO130 := n1_; clear n0_ n1_; clear ho hb hg hat))
                                go_roundg kj17
                                case measure => have := HK1.out; have := HJ9.out; have := HJ17.out; omega
                                case rel => exact ⟨(y128), (wrap64 (x4_1 + t108)), (by first | rfl | (simp; done) | (simp [*]; done)), H', ⟨by have := HK1.out; have := HJ9.out; have := HJ17.out; omega⟩, ⟨by (with_reducible repeat (first | apply Kd.R_alloc | apply Kd.R_drewN | apply Kd.R_drew)); exact HO130.out⟩, ⟨by repeat (first | (with_reducible first | exact HB.out | apply below_alloc | apply pw_below_drewN | apply below_drew1) | exact HB.out)⟩⟩
                              · rw [if_neg c40] at H
                                exact absurd H (by simp)
                            · rw [if_neg c39] at H
                              exact absurd H (by simp)
                          · rw [if_neg c38] at H
                            exact absurd H (by simp)
                        · rw [if_neg c37] at H
                          exact absurd H (by simp)
          · replace c9 := Bool.eq_false_iff.mpr c9
            subst c9
            have H1 : ((spec_appendUTF8.f k1 x3_1 65533).bind fun t131 => (spec_Written.l0 k1 a0 t131 (wrap64 (x4_1 + t108)))) = some r := by rw [if_neg (show ¬ (false = true) by decide)] at H; exact H
            clear H
            have H := H1
            clear H1
            replace H := Option.bind_eq_some_iff.mp H
            obtain ⟨t131, A420, H⟩ := H
            replace H : (spec_Written.l0 k1 a0 t131 (wrap64 (x4_1 + t108))) = some r := H
            have A42 := Aside0.mk A420
            clear A420
            have H' := Aside0.mk H
            clear H
            go_wp2_with (first | ((with_reducible refine gate_callee (f := 29) rfl ?_); refine goesL_ (some 19) rfl rfl Tryd.func29 (by kernel_rfl) rfl #[.string a0, .int .i64 x4_1] rfl (by (try simp only [List.map_toArray, List.map_cons, List.map_nil]); first | done | rfl | (simp only [List.length_drop, List.length_take]; rfl)) ?_; (with_reducible refine (spec_Character.calls k1 a0 x4_1 t107 t108 false _ A5.out).mono ?_); rintro e w' ⟨rfl, ⟨nd, rfl⟩⟩; refine ⟨_, rfl, ?_⟩; have p7 : 0 ≤ (x4_1 : Int) := of_decide_eq_true (by first | (with_reducible assumption) | assumption); have q7 : x4_1 < (a0.size : Int) := of_decide_eq_true (by first | (with_reducible assumption) | assumption); have hx7 := bt_at a0 x4_1; replace p7 := eq_true p7; replace q7 := eq_true q7) | ((with_reducible refine gate_callee (f := 31) rfl ?_); refine goesL_ (some 27) rfl rfl Tryd.func31 (by kernel_rfl) rfl #[.int .u8 (bt a0 x4_1)] rfl (by (try simp only [List.map_toArray, List.map_cons, List.map_nil]); first | done | rfl | (simp only [List.length_drop, List.length_take]; rfl)) ?_; (with_reducible refine (spec_shortOf.calls (bt a0 x4_1) t110 t111 _ A8.out).mono ?_); rintro e w' ⟨rfl, ⟨nd, rfl⟩⟩; refine ⟨_, rfl, ?_⟩; obtain ⟨Ao43, co43, eo43⟩ := Kd.R_slice HO_3.out; subst eo43) | ((with_reducible refine gate_callee (f := 32) rfl ?_); refine goesL_ (some 42) rfl rfl Tryd.func32 (by kernel_rfl) rfl #[.slice Ao43 x3_1.length co43, .int .i64 65533] rfl (by (try simp only [List.map_toArray, List.map_cons, List.map_nil]); first | done | rfl | (simp only [List.length_drop, List.length_take]; rfl)) ?_; (with_reducible refine (spec_appendUTF8.calls k1 (fun k_ => some k_ = (.slice Ao43 x3_1.length co43 : Value).ownBlock) (.slice Ao43 x3_1.length co43) x3_1 65533 t131 w _ ?side1 ?side2 A42.out).mono ?_); (case side1 => repeat (first | (with_reducible first | exact HB.out | apply below_alloc | apply pw_below_drewN | apply below_drew1) | exact HB.out)); (case side2 => exact Kd.R_tight rfl HO_3.out); rintro e w44 ⟨v132, rfl, ho0, hb, hkp⟩; refine ⟨_, rfl, ?_⟩; have n0_ := Aside0.mk (Kd.R_mono (ok' := fun k_ => True) ho0 (fun k_ hk_ => trivial)); have n1_ := Aside0.mk (hb); clear HB; clear HO_3; have HO133 := n0_; have HB := n1_; clear n0_ n1_; (try clear hb); (try clear hkp); (try clear ho0)))
            go_roundg k1
            case measure => have := HK1.out; omega
            case rel => exact ⟨(t131), (wrap64 (x4_1 + t108)), (by first | rfl | (simp; done) | (simp [*]; done)), H', ⟨by have := HK1.out; omega⟩, ⟨by (with_reducible repeat (first | apply Kd.R_alloc | apply Kd.R_drewN | apply Kd.R_drew)); exact HO133.out⟩, ⟨by repeat (first | (with_reducible first | exact HB.out | apply below_alloc | apply pw_below_drewN | apply below_drew1) | exact HB.out)⟩⟩
        · rw [if_neg c6] at H
          exact absurd H (by simp)
      · rw [if_neg c4] at H
        have c4b0 : decide (x4_1 < (a0.size : Int)) = false := decide_eq_false c4
        clear c4
        by_cases c45 : x3_1.length < 140737488355328
        · rw [if_pos c45] at H
          have LMc45 := Aside0.mk c45
          clear c45
          obtain ⟨y104, hy104⟩ : ∃ y_ : List Int, y_ = (x3_1 ++ [34]) := ⟨_, rfl⟩
          replace H : (some (strOfNums y104)) = some r := by first | (rw [hy104]; with_reducible exact H) | (have H2_ := (Option.bind_some _ _).symm.trans H; rw [hy104]; with_reducible exact H2_) | (have H2_ := (Option.bind_some _ _).symm.trans H; with_reducible exact H2_) | with_reducible exact H | (rw [hy104]; exact H) | exact H
          have Ny104 := Aside0.mk hy104
          clear hy104
          obtain rfl := Option.some.inj H
          go_wp2_with (first | ((with_reducible refine gate_builtin (b := .append) (xs := #[.tmp 95, .tmp 96]) rfl ?_); at_builtin; refine Kd.R_append (Kd.int .u8) (w0 := w) w.heap.size rfl (.tmp 95) (.tmp 96) 37 5 (.int .u8 0) 1 rfl Tryd.underlying37 info5 rfl (by decide) (by omega) u3 x3_1 34 [.int .u8 34] (fun _ => True) (fun _ => False) rfl rfl ?aP (fun _ hk => hk.elim) ?aF ?aO ?aB ?aS ?aL ?_; (case aP => exact rfl); (case aB => exact (by repeat (first | (with_reducible first | exact HB.out | apply below_alloc | apply pw_below_drewN | apply below_drew1) | exact HB.out))); (case aF => exact (fun _ _ => trivial)); (case aO => exact (by (with_reducible repeat (first | apply Kd.R_alloc | apply Kd.R_drewN | apply Kd.R_drew)); exact HO_3.out)); (case aS => exact (below_size (by repeat (first | (with_reducible first | exact HB.out | apply below_alloc | apply pw_below_drewN | apply below_drew1) | exact HB.out)))); (case aL => have := LMc45.out; omega); intro v105 w46 ho hb hg hat; rw [← Ny104.out] at ho; have n0_ := Aside0.mk (hb); have n1_ := Aside0.mk (ho); clear HB; clear HO_3; have HB := n0_; have HO106 := n1_; clear n0_ n1_; clear ho hb hg hat; have hcv47 := own_string (P := Tryd.prog) Tryd.underlying37 Tryd.underlying5 Tryd.underlying9 (Kd.own_of_R HO106.out)))
          go_ret
          exact ⟨by first | rfl | (simp [errW_none, errW_some] <;> rfl) | (simp [*, errW_none, errW_some] <;> rfl), by repeat (first | (with_reducible first | exact HB.out | apply below_alloc | apply pw_below_drewN | apply below_drew1) | exact HB.out)⟩
        · rw [if_neg c45] at H
          exact absurd H (by simp)

end Go.Proofs.YtegbajfmhkmolaaDoor.Q
