-- printed by a turned copy of the kit's print (wip/tools/patch_print.py)
import Derived.Test.YtegbajfmhkmolaaDoorRx0
import Derived.Test.YtegbajfmhkmolaaDoorRxf51
import Derived.Test.YtegbajfmhkmolaaDoorRxf52
import Derived.Test.YtegbajfmhkmolaaDoorRxf53
namespace Go.Proofs.YtegbajfmhkmolaaDoor.R
open Go.RowKit Go.Proofs.YtegbajfmhkmolaaDoorW.PrintWords Go.Proofs.YtegbajfmhkmolaaDoorW.PrintLast Go.Proofs.YtegbajfmhkmolaaDoorW.PrintMore
attribute [local go_sem] max2_int min2_int max_two min_two max_three min_three max_four min_four   -- for this text's walks alone
set_option linter.unusedVariables false
set_option linter.unusedSimpArgs false

/-! ### gjson_AppendJSONString: function 34 -/
mutual
def gjson_AppendJSONString.l0 : Nat → List Int → ByteArray → Int → Option (List Int)
  | 0, _, _, _ => none
  | k + 1, x0, x1, x5 => if x5 < (x1.size : Int) then (if 0 ≤ x5 then (if (bt x1 x5) < 32 then (if x0.length < 140737488355328 then ((some (x0 ++ [92] : List Int)).bind fun y113 => (if (bt x1 x5) = 8 then (if y113.length < 140737488355328 then (gjson_AppendJSONString.l0 k (y113 ++ [98]) x1 (wrap64 (x5 + 1))) else (none)) else (if (bt x1 x5) = 12 then (if y113.length < 140737488355328 then (gjson_AppendJSONString.l0 k (y113 ++ [102]) x1 (wrap64 (x5 + 1))) else (none)) else (if (bt x1 x5) = 10 then (if y113.length < 140737488355328 then (gjson_AppendJSONString.l0 k (y113 ++ [110]) x1 (wrap64 (x5 + 1))) else (none)) else (if (bt x1 x5) = 13 then (if y113.length < 140737488355328 then (gjson_AppendJSONString.l0 k (y113 ++ [114]) x1 (wrap64 (x5 + 1))) else (none)) else (if (bt x1 x5) = 9 then (if y113.length < 140737488355328 then (gjson_AppendJSONString.l0 k (y113 ++ [116]) x1 (wrap64 (x5 + 1))) else (none)) else (if y113.length < 140737488355328 then ((gjson_appendHex16.f (y113 ++ [117]) (IntKind.u16.wrap (bt x1 x5))).bind fun t134 => (gjson_AppendJSONString.l0 k t134 x1 (wrap64 (x5 + 1)))) else (none)))))))) else (none)) else (if (bt x1 x5) = 62 then (gjson_AppendJSONString.j1 k x0 x1 x5 true) else (if (bt x1 x5) = 60 then (gjson_AppendJSONString.j1 k x0 x1 x5 true) else (gjson_AppendJSONString.j1 k x0 x1 x5 ((bt x1 x5) == 38))))) else (none)) else (if x0.length < 140737488355328 then (some (x0 ++ [34])) else (none))
def gjson_AppendJSONString.j1 : Nat → List Int → ByteArray → Int → Bool → Option (List Int)
  | 0, _, _, _, _ => none
  | k + 1, x0, x1, x5, x88 => if x88 = true then ((gjson_escapeHTML.f).bind fun t137 => (if t137 = true then ((some (([92, 117] : List Int) : List Int)).bind fun y138 => (if x0.length + y138.length < 140737488355328 then (if 0 ≤ x5 then (if x5 < (x1.size : Int) then ((gjson_appendHex16.f (x0 ++ y138) (IntKind.u16.wrap (bt x1 x5))).bind fun t144 => (gjson_AppendJSONString.l0 k t144 x1 (wrap64 (x5 + 1)))) else (none)) else (none)) else (none))) else (if 0 ≤ x5 then (if x5 < (x1.size : Int) then (if x0.length < 140737488355328 then (gjson_AppendJSONString.l0 k (x0 ++ [bt x1 x5]) x1 (wrap64 (x5 + 1))) else (none)) else (none)) else (none)))) else (if 0 ≤ x5 then (if x5 < (x1.size : Int) then (if (bt x1 x5) = 92 then ((some (([92, 92] : List Int) : List Int)).bind fun y150 => (if x0.length + y150.length < 140737488355328 then (gjson_AppendJSONString.l0 k (x0 ++ y150) x1 (wrap64 (x5 + 1))) else (none))) else (if (bt x1 x5) = 34 then ((some (([92, 34] : List Int) : List Int)).bind fun y156 => (if x0.length + y156.length < 140737488355328 then (gjson_AppendJSONString.l0 k (x0 ++ y156) x1 (wrap64 (x5 + 1))) else (none))) else (if (bt x1 x5) > 127 then (if x5 ≤ (x1.size : Int) then ((utf8_DecodeRuneInString.f (x1.extract (x5 : Int).toNat x1.size)).bind fun bt162 => (if bt162.2 = 0 then (if x0.length < 140737488355328 then (some (x0 ++ [34])) else (none)) else (if bt162.1 = 65533 then (gjson_AppendJSONString.j2 k x0 x1 x5 bt162.1 bt162.2 (bt162.2 == 1)) else (gjson_AppendJSONString.j2 k x0 x1 x5 bt162.1 bt162.2 false)))) else (none)) else (if x0.length < 140737488355328 then (gjson_AppendJSONString.l0 k (x0 ++ [bt x1 x5]) x1 (wrap64 (x5 + 1))) else (none))))) else (none)) else (none))
def gjson_AppendJSONString.j2 : Nat → List Int → ByteArray → Int → Int → Int → Bool → Option (List Int)
  | 0, _, _, _, _, _, _ => none
  | k + 1, x0, x1, x5, x6, x7, x137 => if x137 = true then (if x0.length + 3 < 140737488355328 then (gjson_AppendJSONString.l0 k (x0 ++ bytesOf (⟨#[239, 191, 189]⟩ : ByteArray)) x1 (wrap64 ((wrap64 ((wrap64 (x5 + x7)) - 1)) + 1))) else (none)) else (if x6 = 8232 then (if x0.length + 5 < 140737488355328 then ((some (x0 ++ bytesOf (⟨#[92, 117, 50, 48, 50]⟩ : ByteArray) : List Int)).bind fun y170 => (if 0 ≤ (Go.bits .and .i32 x6 15) then (if (Go.bits .and .i32 x6 15) < 16 then (if y170.length < 140737488355328 then (gjson_AppendJSONString.l0 k (y170 ++ [bt (⟨#[48, 49, 50, 51, 52, 53, 54, 55, 56, 57, 97, 98, 99, 100, 101, 102]⟩ : ByteArray) (Go.bits .and .i32 x6 15)]) x1 (wrap64 ((wrap64 ((wrap64 (x5 + x7)) - 1)) + 1))) else (none)) else (none)) else (none))) else (none)) else (if x6 = 8233 then (if x0.length + 5 < 140737488355328 then ((some (x0 ++ bytesOf (⟨#[92, 117, 50, 48, 50]⟩ : ByteArray) : List Int)).bind fun y176 => (if 0 ≤ (Go.bits .and .i32 x6 15) then (if (Go.bits .and .i32 x6 15) < 16 then (if y176.length < 140737488355328 then (gjson_AppendJSONString.l0 k (y176 ++ [bt (⟨#[48, 49, 50, 51, 52, 53, 54, 55, 56, 57, 97, 98, 99, 100, 101, 102]⟩ : ByteArray) (Go.bits .and .i32 x6 15)]) x1 (wrap64 ((wrap64 ((wrap64 (x5 + x7)) - 1)) + 1))) else (none)) else (none)) else (none))) else (none)) else (if 0 ≤ x5 then (if x5 ≤ (wrap64 (x5 + x7)) then (if (wrap64 (x5 + x7)) ≤ (x1.size : Int) then (if x0.length + (x1.extract (x5 : Int).toNat ((wrap64 (x5 + x7)) : Int).toNat).size < 140737488355328 then (gjson_AppendJSONString.l0 k (x0 ++ bytesOf (x1.extract (x5 : Int).toNat ((wrap64 (x5 + x7)) : Int).toNat)) x1 (wrap64 ((wrap64 ((wrap64 (x5 + x7)) - 1)) + 1))) else (none)) else (none)) else (none)) else (none))))
end
def gjson_AppendJSONString.f (k : Nat) (l0 : List Int) (a1 : ByteArray) : Option (List Int) := if 0 ≤ (wrap64 ((a1.size : Int) + 2)) then (if l0.length + (wrap64 ((a1.size : Int) + 2) : Int).toNat < 140737488355328 then ((some (l0 ++ List.replicate (wrap64 ((a1.size : Int) + 2) : Int).toNat 0 : List Int)).bind fun y101 => (if 0 ≤ (wrap64 ((wrap64 ((y101.length : Int) - (a1.size : Int))) - 2)) then (if (wrap64 ((wrap64 ((y101.length : Int) - (a1.size : Int))) - 2)) ≤ (y101.length : Int) then ((some (y101.take ((wrap64 ((wrap64 ((y101.length : Int) - (a1.size : Int))) - 2)) : Int).toNat : List Int)).bind fun y104 => (if y104.length < 140737488355328 then (gjson_AppendJSONString.l0 k (y104 ++ [34]) a1 0) else (none))) else (none)) else (none))) else (none)) else (none)
theorem gjson_AppendJSONString.mono_l : ∀ k, (∀ y0 y1 y2, LeO (gjson_AppendJSONString.l0 k y0 y1 y2) (gjson_AppendJSONString.l0 (k + 1) y0 y1 y2)) ∧ (∀ y0 y1 y2 y3, LeO (gjson_AppendJSONString.j1 k y0 y1 y2 y3) (gjson_AppendJSONString.j1 (k + 1) y0 y1 y2 y3)) ∧ (∀ y0 y1 y2 y3 y4 y5, LeO (gjson_AppendJSONString.j2 k y0 y1 y2 y3 y4 y5) (gjson_AppendJSONString.j2 (k + 1) y0 y1 y2 y3 y4 y5))
  | 0 => ⟨fun _ _ _ r h => by simp [gjson_AppendJSONString.l0] at h, fun _ _ _ _ r h => by simp [gjson_AppendJSONString.j1] at h, fun _ _ _ _ _ _ r h => by simp [gjson_AppendJSONString.j2] at h⟩
  | k + 1 => by
    obtain ⟨ih0, ih1, ih2⟩ := gjson_AppendJSONString.mono_l k
    refine ⟨?_, ?_, ?_⟩
    · intro y0 y1 y2
      unfold gjson_AppendJSONString.l0
      repeat' first
      | (with_reducible exact ih0 _ _ _)
      | (with_reducible exact ih1 _ _ _ _)
      | (with_reducible exact ih2 _ _ _ _ _ _)
      | (with_reducible exact LeO.refl _)
      | (with_reducible exact LeO.none _)
      | (with_reducible refine LeO.ite ?_ ?_)
      | (with_reducible refine LeO.bind ?_ (fun _ => ?_))
      | exact ih0 _ _ _
      | exact ih1 _ _ _ _
      | exact ih2 _ _ _ _ _ _
      | exact LeO.none _
      | refine LeO.ite ?_ ?_
      | refine LeO.bind ?_ (fun _ => ?_)
    · intro y0 y1 y2 y3
      unfold gjson_AppendJSONString.j1
      repeat' first
      | (with_reducible exact ih0 _ _ _)
      | (with_reducible exact ih1 _ _ _ _)
      | (with_reducible exact ih2 _ _ _ _ _ _)
      | (with_reducible exact LeO.refl _)
      | (with_reducible exact LeO.none _)
      | (with_reducible refine LeO.ite ?_ ?_)
      | (with_reducible refine LeO.bind ?_ (fun _ => ?_))
      | exact ih0 _ _ _
      | exact ih1 _ _ _ _
      | exact ih2 _ _ _ _ _ _
      | exact LeO.none _
      | refine LeO.ite ?_ ?_
      | refine LeO.bind ?_ (fun _ => ?_)
    · intro y0 y1 y2 y3 y4 y5
      unfold gjson_AppendJSONString.j2
      repeat' first
      | (with_reducible exact ih0 _ _ _)
      | (with_reducible exact ih1 _ _ _ _)
      | (with_reducible exact ih2 _ _ _ _ _ _)
      | (with_reducible exact LeO.refl _)
      | (with_reducible exact LeO.none _)
      | (with_reducible refine LeO.ite ?_ ?_)
      | (with_reducible refine LeO.bind ?_ (fun _ => ?_))
      | exact ih0 _ _ _
      | exact ih1 _ _ _ _
      | exact ih2 _ _ _ _ _ _
      | exact LeO.none _
      | refine LeO.ite ?_ ?_
      | refine LeO.bind ?_ (fun _ => ?_)
theorem gjson_AppendJSONString.mono : ∀ a0 a1 k, LeO (gjson_AppendJSONString.f k a0 a1) (gjson_AppendJSONString.f (k + 1) a0 a1) := by
  intro a0 a1 k
  obtain ⟨ih0, ih1, ih2⟩ := gjson_AppendJSONString.mono_l k
  unfold gjson_AppendJSONString.f
  repeat' first
      | (with_reducible exact ih0 _ _ _)
      | (with_reducible exact ih1 _ _ _ _)
      | (with_reducible exact ih2 _ _ _ _ _ _)
      | (with_reducible exact LeO.refl _)
      | (with_reducible exact LeO.none _)
      | (with_reducible refine LeO.ite ?_ ?_)
      | (with_reducible refine LeO.bind ?_ (fun _ => ?_))
      | exact ih0 _ _ _
      | exact ih1 _ _ _ _
      | exact ih2 _ _ _ _ _ _
      | exact LeO.none _
      | refine LeO.ite ?_ ?_
      | refine LeO.bind ?_ (fun _ => ?_)
set_option maxHeartbeats 8000000 in
set_option maxRecDepth 100000 in
theorem gjson_AppendJSONString.calls (k : Nat) (P0_ : Nat → Prop) (u9000_ : Value) (l0 : List Int) (a1 : ByteArray) (r : List Int) (w0 w : World) (hB : Below w0.heap.size w0 w) (ho0 : Kd.R (Kd.int .u8) 5 w w0.heap.size P0_ u9000_ l0) (hG : Laid w0) (h : gjson_AppendJSONString.f k l0 a1 = some r) :
    Calls Tryd.prog 34 #[u9000_, .string a1] w fun e w' => ∃ v0_ : Value, e = .returned (v0_) ∧ Kd.R (Kd.int .u8) 5 w' w0.heap.size (fun k_ => (P0_ k_ ∨ w.heap.size ≤ k_)) v0_ r ∧ Below w0.heap.size w0 w' ∧ Kept w w' (fun k_ => P0_ k_) := by
  have HG := Aside0.mk hG
  clear hG
  have HO0 := Aside0.mk (show Kd.R (Kd.int .u8) 5 w w0.heap.size (fun k_ => (P0_ k_ ∨ w.heap.size ≤ k_)) u9000_ l0 from Kd.R_mono ho0 (fun k_ hk => (.inl hk)))
  have HK := Aside0.mk (Kept.refl w (fun k_ => P0_ k_))
  have HW0 := Aside0.mk hB.size
  have HB := Aside0.mk hB
  clear hB
  have H : (if 0 ≤ (wrap64 ((a1.size : Int) + 2)) then (if l0.length + (wrap64 ((a1.size : Int) + 2) : Int).toNat < 140737488355328 then ((some (l0 ++ List.replicate (wrap64 ((a1.size : Int) + 2) : Int).toNat 0 : List Int)).bind fun y101 => (if 0 ≤ (wrap64 ((wrap64 ((y101.length : Int) - (a1.size : Int))) - 2)) then (if (wrap64 ((wrap64 ((y101.length : Int) - (a1.size : Int))) - 2)) ≤ (y101.length : Int) then ((some (y101.take ((wrap64 ((wrap64 ((y101.length : Int) - (a1.size : Int))) - 2)) : Int).toNat : List Int)).bind fun y104 => (if y104.length < 140737488355328 then (gjson_AppendJSONString.l0 k (y104 ++ [34]) a1 0) else (none))) else (none)) else (none))) else (none)) else (none)) = some r := h
  clear h
  obtain ⟨ji3, hji3⟩ : ∃ j_ : Int, (wrap64 ((a1.size : Int) + 2)) = j_ := ⟨_, rfl⟩
  replace H : (if 0 ≤ (ji3) then (if l0.length + (ji3 : Int).toNat < 140737488355328 then ((some (l0 ++ List.replicate (ji3 : Int).toNat 0 : List Int)).bind fun y101 => (if 0 ≤ (wrap64 ((wrap64 ((y101.length : Int) - (a1.size : Int))) - 2)) then (if (wrap64 ((wrap64 ((y101.length : Int) - (a1.size : Int))) - 2)) ≤ (y101.length : Int) then ((some (y101.take ((wrap64 ((wrap64 ((y101.length : Int) - (a1.size : Int))) - 2)) : Int).toNat : List Int)).bind fun y104 => (if y104.length < 140737488355328 then (gjson_AppendJSONString.l0 k (y104 ++ [34]) a1 0) else (none))) else (none)) else (none))) else (none)) else (none)) = some r := by first | (rw [hji3] at H; exact H) | (simp only [hji3] at H ⊢; exact H)
  have hji3w : (IntKind.i64.wrap ((a1.size : Int) + 2)) = ji3 := (i64_w _).trans hji3
  by_cases c4 : 0 ≤ (ji3)
  · rw [if_pos c4] at H
    have c4b0 := eq_true c4
    have c4b1 : decide (0 ≤ (ji3)) = true := decide_eq_true c4
    clear c4
    by_cases c5 : l0.length + (ji3 : Int).toNat < 140737488355328
    · rw [if_pos c5] at H
      have LMc5 := Aside0.mk c5
      clear c5
      obtain ⟨y101, hy101⟩ : ∃ y_ : List Int, y_ = (l0 ++ List.replicate (ji3 : Int).toNat 0) := ⟨_, rfl⟩
      replace H : (if 0 ≤ (wrap64 ((wrap64 ((y101.length : Int) - (a1.size : Int))) - 2)) then (if (wrap64 ((wrap64 ((y101.length : Int) - (a1.size : Int))) - 2)) ≤ (y101.length : Int) then ((some (y101.take ((wrap64 ((wrap64 ((y101.length : Int) - (a1.size : Int))) - 2)) : Int).toNat : List Int)).bind fun y104 => (if y104.length < 140737488355328 then (gjson_AppendJSONString.l0 k (y104 ++ [34]) a1 0) else (none))) else (none)) else (none)) = some r := by first | (rw [hy101]; with_reducible exact H) | (have H2_ := (Option.bind_some _ _).symm.trans H; rw [hy101]; with_reducible exact H2_) | (have H2_ := (Option.bind_some _ _).symm.trans H; with_reducible exact H2_) | with_reducible exact H | (rw [hy101]; exact H) | exact H
      have Ny101 := Aside0.mk hy101
      clear hy101
      obtain ⟨ji6, hji6⟩ : ∃ j_ : Int, (wrap64 ((wrap64 ((y101.length : Int) - (a1.size : Int))) - 2)) = j_ := ⟨_, rfl⟩
      replace H : (if 0 ≤ (ji6) then (if (ji6) ≤ (y101.length : Int) then ((some (y101.take ((ji6) : Int).toNat : List Int)).bind fun y104 => (if y104.length < 140737488355328 then (gjson_AppendJSONString.l0 k (y104 ++ [34]) a1 0) else (none))) else (none)) else (none)) = some r := by first | (rw [hji6] at H; exact H) | (simp only [hji6] at H ⊢; exact H)
      have hji6w : (IntKind.i64.wrap ((wrap64 ((y101.length : Int) - (a1.size : Int))) - 2)) = ji6 := (i64_w _).trans hji6
      by_cases c7 : 0 ≤ (ji6)
      · rw [if_pos c7] at H
        have c7b0 := eq_true c7
        have c7b1 : decide (0 ≤ (ji6)) = true := decide_eq_true c7
        clear c7
        by_cases c8 : (ji6) ≤ (y101.length : Int)
        · rw [if_pos c8] at H
          have c8b0 := eq_true c8
          have c8b1 : decide ((ji6) ≤ (y101.length : Int)) = true := decide_eq_true c8
          clear c8
          obtain ⟨y104, hy104⟩ : ∃ y_ : List Int, y_ = (y101.take ((ji6) : Int).toNat) := ⟨_, rfl⟩
          replace H : (if y104.length < 140737488355328 then (gjson_AppendJSONString.l0 k (y104 ++ [34]) a1 0) else (none)) = some r := by first | (rw [hy104]; with_reducible exact H) | (have H2_ := (Option.bind_some _ _).symm.trans H; rw [hy104]; with_reducible exact H2_) | (have H2_ := (Option.bind_some _ _).symm.trans H; with_reducible exact H2_) | with_reducible exact H | (rw [hy104]; exact H) | exact H
          have Ny104 := Aside0.mk hy104
          clear hy104
          by_cases c9 : y104.length < 140737488355328
          · rw [if_pos c9] at H
            have LMc9 := Aside0.mk c9
            clear c9
            obtain ⟨y107, hy107⟩ : ∃ y_ : List Int, y_ = (y104 ++ [34]) := ⟨_, rfl⟩
            replace H : (gjson_AppendJSONString.l0 k y107 a1 0) = some r := by first | (rw [hy107]; with_reducible exact H) | (have H2_ := (Option.bind_some _ _).symm.trans H; rw [hy107]; with_reducible exact H2_) | (have H2_ := (Option.bind_some _ _).symm.trans H; with_reducible exact H2_) | with_reducible exact H | (rw [hy107]; exact H) | exact H
            have Ny107 := Aside0.mk hy107
            clear hy107
            have H' := Aside0.mk H
            clear H
            go_enter Tryd.func34, Tryd.ntmps34
            go_wp2_with (first | (at_builtin; refine Kd.R_append_zeros (Kd.int .u8) (w0 := w0) w0.heap.size rfl (.tmp 8) (.tmp 11) 37 3 5 (.int .u8 0) 1 rfl Tryd.underlying37 Tryd.underlying3 info5 rfl (by decide) (by omega) u9000_ l0 0 (ji3 : Int) (fun k_ => (P0_ k_ ∨ w.heap.size ≤ k_)) rfl rfl rfl ?aF ?aO (of_decide_eq_true (by first | (with_reducible assumption) | assumption)) ?aB ?aS ?aL ?_; (case aB => exact (by repeat (first | (with_reducible first | exact HB.out | apply below_alloc | apply pw_below_drewN | apply below_drew1) | exact HB.out))); (case aF => exact (fun k_ hk => (.inr (Nat.le_trans (by first | exact HK.out.1 | exact (show Kept w _ (fun k_ => P0_ k_) from by repeat (first | (with_reducible first | exact HK.out | apply Kept.alloc | apply Kept.drewN | apply Kept.drew) | exact HK.out)).1) hk)))); (case aO => exact (by (with_reducible repeat (first | apply Kd.R_alloc | apply Kd.R_drewN | apply Kd.R_drew)); exact HO0.out)); (case aS => exact (below_size (by repeat (first | (with_reducible first | exact HB.out | apply below_alloc | apply pw_below_drewN | apply below_drew1) | exact HB.out)))); (case aL => have := LMc5.out; omega); intro v102 w10 ho hb hg hat; rw [← Ny101.out] at ho; have n0_ := Aside0.mk (hb); have n1_ := Aside0.mk (Kept.of_grown (S := (fun k_ => P0_ k_)) hg (by repeat (first | (with_reducible first | exact HK.out | apply Kept.alloc | apply Kept.drewN | apply Kept.drew) | exact HK.out)) (fun k_ e_ => (HO0.out.1 k_ e_))); have n2_ := Aside0.mk (ho); clear HB; clear HK; clear HO0; have HB := n0_; have HK := n1_; have HO103 := n2_; clear n0_ n1_ n2_; clear ho hb hg hat; obtain ⟨Ao11, co11, eo11⟩ := Kd.R_slice HO103.out; subst eo11; have q12 : ((ji6) : Int) ≤ ((y101.length : Int) : Int) := of_decide_eq_true (by first | (with_reducible assumption) | assumption); obtain ⟨i012, hi012, _, hsz12, _⟩ := info_parts info5; have hcut12 := cut_to (P := Tryd.prog) 37 5 .i64 Tryd.underlying37 hi012 Ao11 y101.length co11 (ji6) (of_decide_eq_true (by first | (with_reducible assumption) | assumption)) q12 (Kd.R_reads' HO103.out).2.1; have hr12 := Kd.R_take (m := ((ji6) : Int).toNat) HO103.out (by omega); have hy12 : y104.length = ((ji6) : Int).toNat := (by rw [Ny104.out, List.length_take]; omega); rw [← Ny104.out] at hr12; rw [← hy12] at hr12 hcut12; clear hy12 hi012 hsz12 HO103; have HO106 := Aside0.mk hr12; clear hr12; replace q12 := eq_true q12) | ((with_reducible refine gate_builtin (b := .append) (xs := #[.tmp 20, .tmp 21]) rfl ?_); at_builtin; refine Kd.R_append (Kd.int .u8) (w0 := w0) w0.heap.size rfl (.tmp 20) (.tmp 21) 37 5 (.int .u8 0) 1 rfl Tryd.underlying37 info5 rfl (by decide) (by omega) (.slice Ao11 y104.length co11) y104 34 [.int .u8 34] (fun k_ => (P0_ k_ ∨ w.heap.size ≤ k_)) (fun _ => False) rfl rfl ?aP (fun _ hk => hk.elim) ?aF ?aO ?aB ?aS ?aL ?_; (case aP => exact rfl); (case aB => exact (by repeat (first | (with_reducible first | exact HB.out | apply below_alloc | apply pw_below_drewN | apply below_drew1) | exact HB.out))); (case aF => exact (fun k_ hk => (.inr (Nat.le_trans (by first | exact HK.out.1 | exact (show Kept w _ (fun k_ => P0_ k_) from by repeat (first | (with_reducible first | exact HK.out | apply Kept.alloc | apply Kept.drewN | apply Kept.drew) | exact HK.out)).1) hk)))); (case aO => exact (by (with_reducible repeat (first | apply Kd.R_alloc | apply Kd.R_drewN | apply Kd.R_drew)); exact HO106.out)); (case aS => exact (below_size (by repeat (first | (with_reducible first | exact HB.out | apply below_alloc | apply pw_below_drewN | apply below_drew1) | exact HB.out)))); (case aL => have := LMc9.out; omega); intro v108 w13 ho hb hg hat; rw [← Ny107.out] at ho; have n0_ := Aside0.mk (hb); have n1_ := Aside0.mk (Kept.of_grown (S := (fun k_ => P0_ k_)) hg (by repeat (first | (with_reducible first | exact HK.out | apply Kept.alloc | apply Kept.drewN | apply Kept.drew) | exact HK.out)) (fun k_ e_ => (HO106.out.1 k_ e_))); have n2_ := Aside0.mk (ho); clear HB; clear HK; clear HO106; have HB := n0_; have HK := n1_; have HO109 := n2_; clear n0_ n1_ n2_; clear ho hb hg hat))
            (try simp only [Act.put, List.setIfInBounds_toArray, List.set_cons_zero, List.set_cons_succ])
            go_loopg [0, 5] k (fun kq v0 v5 w' => ∃ (x0_1 : List Int) (x5_1 : Int), v5 = .int .i64 x5_1 ∧ Aside0 (gjson_AppendJSONString.l0 kq x0_1 a1 x5_1 = some r) ∧ Aside0 (kq ≤ k) ∧ Aside0 (Kd.R (Kd.int .u8) 5 w' w0.heap.size (fun k_ => (P0_ k_ ∨ w.heap.size ≤ k_)) v0 x0_1) ∧ Aside0 (Kept w w' (fun k_ => P0_ k_)) ∧ Aside0 (Below w0.heap.size w0 w'))
            case atStart => exact ⟨(y107), (0), (by first | rfl | (simp; done) | (simp [*]; done)), H', ⟨Nat.le_refl _⟩, ⟨by (with_reducible repeat (first | apply Kd.R_alloc | apply Kd.R_drewN | apply Kd.R_drew)); exact HO109.out⟩, ⟨by repeat (first | (with_reducible first | exact HK.out | apply Kept.alloc | apply Kept.drewN | apply Kept.drew) | exact HK.out)⟩, ⟨by repeat (first | (with_reducible first | exact HB.out | apply below_alloc | apply pw_below_drewN | apply below_drew1) | exact HB.out)⟩⟩
            case round => as_aux_lemma =>
              clear H'
              try clear q1
              try clear p2
              try clear c3
              try clear c4
              try clear c4b0
              try clear c4b1
              try clear c5
              try clear p6
              try clear c7
              try clear c7b0
              try clear c7b1
              try clear c8
              try clear c8b0
              try clear c8b1
              try clear c9
              try clear q12
              try clear q12
              obtain ⟨x0_1, x5_1, rfl, HA, HK1, HO_0, HK, HB⟩ := hrel
              cases gk with
              | zero => exact absurd HA.out (by simp [gjson_AppendJSONString.l0])
              | succ k1 =>
                have H := HA.out
                clear HA
                simp only [gjson_AppendJSONString.l0] at H
                by_cases c14 : x5_1 < (a1.size : Int)
                · rw [if_pos c14] at H
                  have c14b0 : decide (x5_1 < (a1.size : Int)) = true := decide_eq_true c14
                  clear c14
                  by_cases c15 : 0 ≤ x5_1
                  · rw [if_pos c15] at H
                    have c15b0 : decide (0 ≤ x5_1) = true := decide_eq_true c15
                    clear c15
                    by_cases c17 : (bt a1 x5_1) < 32
                    · rw [if_pos c17] at H
                      have c17b0 : decide ((bt a1 x5_1) < 32) = true := decide_eq_true c17
                      clear c17
                      by_cases c18 : x0_1.length < 140737488355328
                      · rw [if_pos c18] at H
                        have LMc18 := Aside0.mk c18
                        clear c18
                        obtain ⟨y113, hy113⟩ : ∃ y_ : List Int, y_ = (x0_1 ++ [92]) := ⟨_, rfl⟩
                        replace H : (if (bt a1 x5_1) = 8 then (if y113.length < 140737488355328 then (gjson_AppendJSONString.l0 k1 (y113 ++ [98]) a1 (wrap64 (x5_1 + 1))) else (none)) else (if (bt a1 x5_1) = 12 then (if y113.length < 140737488355328 then (gjson_AppendJSONString.l0 k1 (y113 ++ [102]) a1 (wrap64 (x5_1 + 1))) else (none)) else (if (bt a1 x5_1) = 10 then (if y113.length < 140737488355328 then (gjson_AppendJSONString.l0 k1 (y113 ++ [110]) a1 (wrap64 (x5_1 + 1))) else (none)) else (if (bt a1 x5_1) = 13 then (if y113.length < 140737488355328 then (gjson_AppendJSONString.l0 k1 (y113 ++ [114]) a1 (wrap64 (x5_1 + 1))) else (none)) else (if (bt a1 x5_1) = 9 then (if y113.length < 140737488355328 then (gjson_AppendJSONString.l0 k1 (y113 ++ [116]) a1 (wrap64 (x5_1 + 1))) else (none)) else (if y113.length < 140737488355328 then ((gjson_appendHex16.f (y113 ++ [117]) (IntKind.u16.wrap (bt a1 x5_1))).bind fun t134 => (gjson_AppendJSONString.l0 k1 t134 a1 (wrap64 (x5_1 + 1)))) else (none))))))) = some r := by first | (rw [hy113]; with_reducible exact H) | (have H2_ := (Option.bind_some _ _).symm.trans H; rw [hy113]; with_reducible exact H2_) | (have H2_ := (Option.bind_some _ _).symm.trans H; with_reducible exact H2_) | with_reducible exact H | (rw [hy113]; exact H) | exact H
                        have Ny113 := Aside0.mk hy113
                        clear hy113
                        by_cases c20 : (bt a1 x5_1) = 8
                        · rw [if_pos c20] at H
                          have c20b0 : ((bt a1 x5_1) == 8) = true := beq_iff_eq.mpr c20
                          have c20b1 : ((bt a1 x5_1) != 8) = false := bne_eq_false_iff_eq.mpr c20
                          clear c20
                          by_cases c21 : y113.length < 140737488355328
                          · rw [if_pos c21] at H
                            have LMc21 := Aside0.mk c21
                            clear c21
                            obtain ⟨y116, hy116⟩ : ∃ y_ : List Int, y_ = (y113 ++ [98]) := ⟨_, rfl⟩
                            replace H : (gjson_AppendJSONString.l0 k1 y116 a1 (wrap64 (x5_1 + 1))) = some r := by first | (rw [hy116]; with_reducible exact H) | (have H2_ := (Option.bind_some _ _).symm.trans H; rw [hy116]; with_reducible exact H2_) | (have H2_ := (Option.bind_some _ _).symm.trans H; with_reducible exact H2_) | with_reducible exact H | (rw [hy116]; exact H) | exact H
                            have Ny116 := Aside0.mk hy116
                            clear hy116
                            have H' := Aside0.mk H
                            clear H
                            have p16 : 0 ≤ (x5_1 : Int) := of_decide_eq_true (by first | (with_reducible assumption) | assumption)
                            have q16 : x5_1 < (a1.size : Int) := of_decide_eq_true (by first | (with_reducible assumption) | assumption)
                            have hx16 := bt_at a1 x5_1
                            replace p16 := eq_true p16
                            replace q16 := eq_true q16
                            go_wp2_with (first | ((with_reducible refine gate_builtin (b := .append) (xs := #[.tmp 33, .tmp 34]) rfl ?_); at_builtin; refine Kd.R_append (Kd.int .u8) (w0 := w0) w0.heap.size rfl (.tmp 33) (.tmp 34) 37 5 (.int .u8 0) 1 rfl Tryd.underlying37 info5 rfl (by decide) (by omega) u0 x0_1 92 [.int .u8 92] (fun k_ => (P0_ k_ ∨ w.heap.size ≤ k_)) (fun _ => False) rfl rfl ?aP (fun _ hk => hk.elim) ?aF ?aO ?aB ?aS ?aL ?_; (case aP => exact rfl); (case aB => exact (by repeat (first | (with_reducible first | exact HB.out | apply below_alloc | apply pw_below_drewN | apply below_drew1) | exact HB.out))); (case aF => exact (fun k_ hk => (.inr (Nat.le_trans (by first | exact HK.out.1 | exact (show Kept w _ (fun k_ => P0_ k_) from by repeat (first | (with_reducible first | exact HK.out | apply Kept.alloc | apply Kept.drewN | apply Kept.drew) | exact HK.out)).1) hk)))); (case aO => exact (by (with_reducible repeat (first | apply Kd.R_alloc | apply Kd.R_drewN | apply Kd.R_drew)); exact HO_0.out)); (case aS => exact (below_size (by repeat (first | (with_reducible first | exact HB.out | apply below_alloc | apply pw_below_drewN | apply below_drew1) | exact HB.out)))); (case aL => have := LMc18.out; omega); intro v114 w22 ho hb hg hat; rw [← Ny113.out] at ho; have n0_ := Aside0.mk (hb); have n1_ := Aside0.mk (Kept.of_grown (S := (fun k_ => P0_ k_)) hg (by repeat (first | (with_reducible first | exact HK.out | apply Kept.alloc | apply Kept.drewN | apply Kept.drew) | exact HK.out)) (fun k_ e_ => (HO_0.out.1 k_ e_))); have n2_ := Aside0.mk (ho); clear HB; clear HK; clear HO_0; have HB := n0_; have HK := n1_; have HO115 := n2_; clear n0_ n1_ n2_; clear ho hb hg hat; have p19 : 0 ≤ (x5_1 : Int) := of_decide_eq_true (by first | (with_reducible assumption) | assumption); have q19 : x5_1 < (a1.size : Int) := of_decide_eq_true (by first | (with_reducible assumption) | assumption); have hx19 := bt_at a1 x5_1; replace p19 := eq_true p19; replace q19 := eq_true q19) | ((with_reducible refine gate_builtin (b := .append) (xs := #[.tmp 50, .tmp 51]) rfl ?_); at_builtin; refine Kd.R_append (Kd.int .u8) (w0 := w0) w0.heap.size rfl (.tmp 50) (.tmp 51) 37 5 (.int .u8 0) 1 rfl Tryd.underlying37 info5 rfl (by decide) (by omega) v114 y113 98 [.int .u8 98] (fun k_ => (P0_ k_ ∨ w.heap.size ≤ k_)) (fun _ => False) rfl rfl ?aP (fun _ hk => hk.elim) ?aF ?aO ?aB ?aS ?aL ?_; (case aP => exact rfl); (case aB => exact (by repeat (first | (with_reducible first | exact HB.out | apply below_alloc | apply pw_below_drewN | apply below_drew1) | exact HB.out))); (case aF => exact (fun k_ hk => (.inr (Nat.le_trans (by first | exact HK.out.1 | exact (show Kept w _ (fun k_ => P0_ k_) from by repeat (first | (with_reducible first | exact HK.out | apply Kept.alloc | apply Kept.drewN | apply Kept.drew) | exact HK.out)).1) hk)))); (case aO => exact (by (with_reducible repeat (first | apply Kd.R_alloc | apply Kd.R_drewN | apply Kd.R_drew)); exact HO115.out)); (case aS => exact (below_size (by repeat (first | (with_reducible first | exact HB.out | apply below_alloc | apply pw_below_drewN | apply below_drew1) | exact HB.out)))); (case aL => have := LMc21.out; omega); intro v117 w23 ho hb hg hat; rw [← Ny116.out] at ho; have n0_ := Aside0.mk (hb); have n1_ := Aside0.mk (Kept.of_grown (S := (fun k_ => P0_ k_)) hg (by repeat (first | (with_reducible first | exact HK.out | apply Kept.alloc | apply Kept.drewN | apply Kept.drew) | exact HK.out)) (fun k_ e_ => (HO115.out.1 k_ e_))); have n2_ := Aside0.mk (ho); clear HB; clear HK; clear HO115; have HB := n0_; have HK := n1_; have HO118 := n2_; clear n0_ n1_ n2_; clear ho hb hg hat))
                            go_roundg k1
                            case measure => have := HK1.out; omega
                            case rel => exact ⟨(y116), (wrap64 (x5_1 + 1)), (by first | rfl | (simp; done) | (simp [*]; done)), H', ⟨by have := HK1.out; omega⟩, ⟨by (with_reducible repeat (first | apply Kd.R_alloc | apply Kd.R_drewN | apply Kd.R_drew)); exact HO118.out⟩, ⟨by repeat (first | (with_reducible first | exact HK.out | apply Kept.alloc | apply Kept.drewN | apply Kept.drew) | exact HK.out)⟩, ⟨by repeat (first | (with_reducible first | exact HB.out | apply below_alloc | apply pw_below_drewN | apply below_drew1) | exact HB.out)⟩⟩
                          · rw [if_neg c21] at H
                            exact absurd H (by simp)
                        · rw [if_neg c20] at H
                          have c20b0 : ((bt a1 x5_1) == 8) = false := beq_eq_false_iff_ne.mpr c20
                          have c20b1 : ((bt a1 x5_1) != 8) = true := bne_iff_ne.mpr c20
                          by_cases c24 : (bt a1 x5_1) = 12
                          · rw [if_pos c24] at H
                            have c24b0 : ((bt a1 x5_1) == 12) = true := beq_iff_eq.mpr c24
                            have c24b1 : ((bt a1 x5_1) != 12) = false := bne_eq_false_iff_eq.mpr c24
                            clear c24
                            by_cases c25 : y113.length < 140737488355328
                            · rw [if_pos c25] at H
                              have LMc25 := Aside0.mk c25
                              clear c25
                              obtain ⟨y119, hy119⟩ : ∃ y_ : List Int, y_ = (y113 ++ [102]) := ⟨_, rfl⟩
                              replace H : (gjson_AppendJSONString.l0 k1 y119 a1 (wrap64 (x5_1 + 1))) = some r := by first | (rw [hy119]; with_reducible exact H) | (have H2_ := (Option.bind_some _ _).symm.trans H; rw [hy119]; with_reducible exact H2_) | (have H2_ := (Option.bind_some _ _).symm.trans H; with_reducible exact H2_) | with_reducible exact H | (rw [hy119]; exact H) | exact H
                              have Ny119 := Aside0.mk hy119
                              clear hy119
                              have H' := Aside0.mk H
                              clear H
                              have p16 : 0 ≤ (x5_1 : Int) := of_decide_eq_true (by first | (with_reducible assumption) | assumption)
                              have q16 : x5_1 < (a1.size : Int) := of_decide_eq_true (by first | (with_reducible assumption) | assumption)
                              have hx16 := bt_at a1 x5_1
                              replace p16 := eq_true p16
                              replace q16 := eq_true q16
                              go_wp2_with (first | ((with_reducible refine gate_builtin (b := .append) (xs := #[.tmp 33, .tmp 34]) rfl ?_); at_builtin; refine Kd.R_append (Kd.int .u8) (w0 := w0) w0.heap.size rfl (.tmp 33) (.tmp 34) 37 5 (.int .u8 0) 1 rfl Tryd.underlying37 info5 rfl (by decide) (by omega) u0 x0_1 92 [.int .u8 92] (fun k_ => (P0_ k_ ∨ w.heap.size ≤ k_)) (fun _ => False) rfl rfl ?aP (fun _ hk => hk.elim) ?aF ?aO ?aB ?aS ?aL ?_; (case aP => exact rfl); (case aB => exact (by repeat (first | (with_reducible first | exact HB.out | apply below_alloc | apply pw_below_drewN | apply below_drew1) | exact HB.out))); (case aF => exact (fun k_ hk => (.inr (Nat.le_trans (by first | exact HK.out.1 | exact (show Kept w _ (fun k_ => P0_ k_) from by repeat (first | (with_reducible first | exact HK.out | apply Kept.alloc | apply Kept.drewN | apply Kept.drew) | exact HK.out)).1) hk)))); (case aO => exact (by (with_reducible repeat (first | apply Kd.R_alloc | apply Kd.R_drewN | apply Kd.R_drew)); exact HO_0.out)); (case aS => exact (below_size (by repeat (first | (with_reducible first | exact HB.out | apply below_alloc | apply pw_below_drewN | apply below_drew1) | exact HB.out)))); (case aL => have := LMc18.out; omega); intro v114 w26 ho hb hg hat; rw [← Ny113.out] at ho; have n0_ := Aside0.mk (hb); have n1_ := Aside0.mk (Kept.of_grown (S := (fun k_ => P0_ k_)) hg (by repeat (first | (with_reducible first | exact HK.out | apply Kept.alloc | apply Kept.drewN | apply Kept.drew) | exact HK.out)) (fun k_ e_ => (HO_0.out.1 k_ e_))); have n2_ := Aside0.mk (ho); clear HB; clear HK; clear HO_0; have HB := n0_; have HK := n1_; have HO115 := n2_; clear n0_ n1_ n2_; clear ho hb hg hat; have p19 : 0 ≤ (x5_1 : Int) := of_decide_eq_true (by first | (with_reducible assumption) | assumption); have q19 : x5_1 < (a1.size : Int) := of_decide_eq_true (by first | (with_reducible assumption) | assumption); have hx19 := bt_at a1 x5_1; replace p19 := eq_true p19; replace q19 := eq_true q19) | ((with_reducible refine gate_builtin (b := .append) (xs := #[.tmp 55, .tmp 56]) rfl ?_); at_builtin; refine Kd.R_append (Kd.int .u8) (w0 := w0) w0.heap.size rfl (.tmp 55) (.tmp 56) 37 5 (.int .u8 0) 1 rfl Tryd.underlying37 info5 rfl (by decide) (by omega) v114 y113 102 [.int .u8 102] (fun k_ => (P0_ k_ ∨ w.heap.size ≤ k_)) (fun _ => False) rfl rfl ?aP (fun _ hk => hk.elim) ?aF ?aO ?aB ?aS ?aL ?_; (case aP => exact rfl); (case aB => exact (by repeat (first | (with_reducible first | exact HB.out | apply below_alloc | apply pw_below_drewN | apply below_drew1) | exact HB.out))); (case aF => exact (fun k_ hk => (.inr (Nat.le_trans (by first | exact HK.out.1 | exact (show Kept w _ (fun k_ => P0_ k_) from by repeat (first | (with_reducible first | exact HK.out | apply Kept.alloc | apply Kept.drewN | apply Kept.drew) | exact HK.out)).1) hk)))); (case aO => exact (by (with_reducible repeat (first | apply Kd.R_alloc | apply Kd.R_drewN | apply Kd.R_drew)); exact HO115.out)); (case aS => exact (below_size (by repeat (first | (with_reducible first | exact HB.out | apply below_alloc | apply pw_below_drewN | apply below_drew1) | exact HB.out)))); (case aL => have := LMc25.out; omega); intro v120 w27 ho hb hg hat; rw [← Ny119.out] at ho; have n0_ := Aside0.mk (hb); have n1_ := Aside0.mk (Kept.of_grown (S := (fun k_ => P0_ k_)) hg (by repeat (first | (with_reducible first | exact HK.out | apply Kept.alloc | apply Kept.drewN | apply Kept.drew) | exact HK.out)) (fun k_ e_ => (HO115.out.1 k_ e_))); have n2_ := Aside0.mk (ho); clear HB; clear HK; clear HO115; have HB := n0_; have HK := n1_; have HO121 := n2_; clear n0_ n1_ n2_; clear ho hb hg hat))
                              go_roundg k1
                              case measure => have := HK1.out; omega
                              case rel => exact ⟨(y119), (wrap64 (x5_1 + 1)), (by first | rfl | (simp; done) | (simp [*]; done)), H', ⟨by have := HK1.out; omega⟩, ⟨by (with_reducible repeat (first | apply Kd.R_alloc | apply Kd.R_drewN | apply Kd.R_drew)); exact HO121.out⟩, ⟨by repeat (first | (with_reducible first | exact HK.out | apply Kept.alloc | apply Kept.drewN | apply Kept.drew) | exact HK.out)⟩, ⟨by repeat (first | (with_reducible first | exact HB.out | apply below_alloc | apply pw_below_drewN | apply below_drew1) | exact HB.out)⟩⟩
                            · rw [if_neg c25] at H
                              exact absurd H (by simp)
                          · rw [if_neg c24] at H
                            have c24b0 : ((bt a1 x5_1) == 12) = false := beq_eq_false_iff_ne.mpr c24
                            have c24b1 : ((bt a1 x5_1) != 12) = true := bne_iff_ne.mpr c24
                            by_cases c28 : (bt a1 x5_1) = 10
                            · rw [if_pos c28] at H
                              have c28b0 : ((bt a1 x5_1) == 10) = true := beq_iff_eq.mpr c28
                              have c28b1 : ((bt a1 x5_1) != 10) = false := bne_eq_false_iff_eq.mpr c28
                              clear c28
                              by_cases c29 : y113.length < 140737488355328
                              · rw [if_pos c29] at H
                                have LMc29 := Aside0.mk c29
                                clear c29
                                obtain ⟨y122, hy122⟩ : ∃ y_ : List Int, y_ = (y113 ++ [110]) := ⟨_, rfl⟩
                                replace H : (gjson_AppendJSONString.l0 k1 y122 a1 (wrap64 (x5_1 + 1))) = some r := by first | (rw [hy122]; with_reducible exact H) | (have H2_ := (Option.bind_some _ _).symm.trans H; rw [hy122]; with_reducible exact H2_) | (have H2_ := (Option.bind_some _ _).symm.trans H; with_reducible exact H2_) | with_reducible exact H | (rw [hy122]; exact H) | exact H
                                have Ny122 := Aside0.mk hy122
                                clear hy122
                                have H' := Aside0.mk H
                                clear H
                                have p16 : 0 ≤ (x5_1 : Int) := of_decide_eq_true (by first | (with_reducible assumption) | assumption)
                                have q16 : x5_1 < (a1.size : Int) := of_decide_eq_true (by first | (with_reducible assumption) | assumption)
                                have hx16 := bt_at a1 x5_1
                                replace p16 := eq_true p16
                                replace q16 := eq_true q16
                                go_wp2_with (first | ((with_reducible refine gate_builtin (b := .append) (xs := #[.tmp 33, .tmp 34]) rfl ?_); at_builtin; refine Kd.R_append (Kd.int .u8) (w0 := w0) w0.heap.size rfl (.tmp 33) (.tmp 34) 37 5 (.int .u8 0) 1 rfl Tryd.underlying37 info5 rfl (by decide) (by omega) u0 x0_1 92 [.int .u8 92] (fun k_ => (P0_ k_ ∨ w.heap.size ≤ k_)) (fun _ => False) rfl rfl ?aP (fun _ hk => hk.elim) ?aF ?aO ?aB ?aS ?aL ?_; (case aP => exact rfl); (case aB => exact (by repeat (first | (with_reducible first | exact HB.out | apply below_alloc | apply pw_below_drewN | apply below_drew1) | exact HB.out))); (case aF => exact (fun k_ hk => (.inr (Nat.le_trans (by first | exact HK.out.1 | exact (show Kept w _ (fun k_ => P0_ k_) from by repeat (first | (with_reducible first | exact HK.out | apply Kept.alloc | apply Kept.drewN | apply Kept.drew) | exact HK.out)).1) hk)))); (case aO => exact (by (with_reducible repeat (first | apply Kd.R_alloc | apply Kd.R_drewN | apply Kd.R_drew)); exact HO_0.out)); (case aS => exact (below_size (by repeat (first | (with_reducible first | exact HB.out | apply below_alloc | apply pw_below_drewN | apply below_drew1) | exact HB.out)))); (case aL => have := LMc18.out; omega); intro v114 w30 ho hb hg hat; rw [← Ny113.out] at ho; have n0_ := Aside0.mk (hb); have n1_ := Aside0.mk (Kept.of_grown (S := (fun k_ => P0_ k_)) hg (by repeat (first | (with_reducible first | exact HK.out | apply Kept.alloc | apply Kept.drewN | apply Kept.drew) | exact HK.out)) (fun k_ e_ => (HO_0.out.1 k_ e_))); have n2_ := Aside0.mk (ho); clear HB; clear HK; clear HO_0; have HB := n0_; have HK := n1_; have HO115 := n2_; clear n0_ n1_ n2_; clear ho hb hg hat; have p19 : 0 ≤ (x5_1 : Int) := of_decide_eq_true (by first | (with_reducible assumption) | assumption); have q19 : x5_1 < (a1.size : Int) := of_decide_eq_true (by first | (with_reducible assumption) | assumption); have hx19 := bt_at a1 x5_1; replace p19 := eq_true p19; replace q19 := eq_true q19) | ((with_reducible refine gate_builtin (b := .append) (xs := #[.tmp 60, .tmp 61]) rfl ?_); at_builtin; refine Kd.R_append (Kd.int .u8) (w0 := w0) w0.heap.size rfl (.tmp 60) (.tmp 61) 37 5 (.int .u8 0) 1 rfl Tryd.underlying37 info5 rfl (by decide) (by omega) v114 y113 110 [.int .u8 110] (fun k_ => (P0_ k_ ∨ w.heap.size ≤ k_)) (fun _ => False) rfl rfl ?aP (fun _ hk => hk.elim) ?aF ?aO ?aB ?aS ?aL ?_; (case aP => exact rfl); (case aB => exact (by repeat (first | (with_reducible first | exact HB.out | apply below_alloc | apply pw_below_drewN | apply below_drew1) | exact HB.out))); (case aF => exact (fun k_ hk => (.inr (Nat.le_trans (by first | exact HK.out.1 | exact (show Kept w _ (fun k_ => P0_ k_) from by repeat (first | (with_reducible first | exact HK.out | apply Kept.alloc | apply Kept.drewN | apply Kept.drew) | exact HK.out)).1) hk)))); (case aO => exact (by (with_reducible repeat (first | apply Kd.R_alloc | apply Kd.R_drewN | apply Kd.R_drew)); exact HO115.out)); (case aS => exact (below_size (by repeat (first | (with_reducible first | exact HB.out | apply below_alloc | apply pw_below_drewN | apply below_drew1) | exact HB.out)))); (case aL => have := LMc29.out; omega); intro v123 w31 ho hb hg hat; rw [← Ny122.out] at ho; have n0_ := Aside0.mk (hb); have n1_ := Aside0.mk (Kept.of_grown (S := (fun k_ => P0_ k_)) hg (by repeat (first | (with_reducible first | exact HK.out | apply Kept.alloc | apply Kept.drewN | apply Kept.drew) | exact HK.out)) (fun k_ e_ => (HO115.out.1 k_ e_))); have n2_ := Aside0.mk (ho); clear HB; clear HK; clear HO115; have HB := n0_; have HK := n1_; have HO124 := n2_; clear n0_ n1_ n2_; clear ho hb hg hat))
                                go_roundg k1
                                case measure => have := HK1.out; omega
                                case rel => exact ⟨(y122), (wrap64 (x5_1 + 1)), (by first | rfl | (simp; done) | (simp [*]; done)), H', ⟨by have := HK1.out; omega⟩, ⟨by (with_reducible repeat (first | apply Kd.R_alloc | apply Kd.R_drewN | apply Kd.R_drew)); exact HO124.out⟩, ⟨by repeat (first | (with_reducible first | exact HK.out | apply Kept.alloc | apply Kept.drewN | apply Kept.drew) | exact HK.out)⟩, ⟨by repeat (first | (with_reducible first | exact HB.out | apply below_alloc | apply pw_below_drewN | apply below_drew1) | exact HB.out)⟩⟩
                              · rw [if_neg c29] at H
                                exact absurd H (by simp)
                            · rw [if_neg c28] at H
                              have c28b0 : ((bt a1 x5_1) == 10) = false := beq_eq_false_iff_ne.mpr c28
                              have c28b1 : ((bt a1 x5_1) != 10) = true := bne_iff_ne.mpr c28
                              by_cases c32 : (bt a1 x5_1) = 13
                              · rw [if_pos c32] at H
                                have c32b0 : ((bt a1 x5_1) == 13) = true := beq_iff_eq.mpr c32
                                have c32b1 : ((bt a1 x5_1) != 13) = false := bne_eq_false_iff_eq.mpr c32
                                clear c32
                                by_cases c33 : y113.length < 140737488355328
                                · rw [if_pos c33] at H
                                  have LMc33 := Aside0.mk c33
                                  clear c33
                                  obtain ⟨y125, hy125⟩ : ∃ y_ : List Int, y_ = (y113 ++ [114]) := ⟨_, rfl⟩
                                  replace H : (gjson_AppendJSONString.l0 k1 y125 a1 (wrap64 (x5_1 + 1))) = some r := by first | (rw [hy125]; with_reducible exact H) | (have H2_ := (Option.bind_some _ _).symm.trans H; rw [hy125]; with_reducible exact H2_) | (have H2_ := (Option.bind_some _ _).symm.trans H; with_reducible exact H2_) | with_reducible exact H | (rw [hy125]; exact H) | exact H
                                  have Ny125 := Aside0.mk hy125
                                  clear hy125
                                  have H' := Aside0.mk H
                                  clear H
                                  have p16 : 0 ≤ (x5_1 : Int) := of_decide_eq_true (by first | (with_reducible assumption) | assumption)
                                  have q16 : x5_1 < (a1.size : Int) := of_decide_eq_true (by first | (with_reducible assumption) | assumption)
                                  have hx16 := bt_at a1 x5_1
                                  replace p16 := eq_true p16
                                  replace q16 := eq_true q16
                                  go_wp2_with (first | ((with_reducible refine gate_builtin (b := .append) (xs := #[.tmp 33, .tmp 34]) rfl ?_); at_builtin; refine Kd.R_append (Kd.int .u8) (w0 := w0) w0.heap.size rfl (.tmp 33) (.tmp 34) 37 5 (.int .u8 0) 1 rfl Tryd.underlying37 info5 rfl (by decide) (by omega) u0 x0_1 92 [.int .u8 92] (fun k_ => (P0_ k_ ∨ w.heap.size ≤ k_)) (fun _ => False) rfl rfl ?aP (fun _ hk => hk.elim) ?aF ?aO ?aB ?aS ?aL ?_; (case aP => exact rfl); (case aB => exact (by repeat (first | (with_reducible first | exact HB.out | apply below_alloc | apply pw_below_drewN | apply below_drew1) | exact HB.out))); (case aF => exact (fun k_ hk => (.inr (Nat.le_trans (by first | exact HK.out.1 | exact (show Kept w _ (fun k_ => P0_ k_) from by repeat (first | (with_reducible first | exact HK.out | apply Kept.alloc | apply Kept.drewN | apply Kept.drew) | exact HK.out)).1) hk)))); (case aO => exact (by (with_reducible repeat (first | apply Kd.R_alloc | apply Kd.R_drewN | apply Kd.R_drew)); exact HO_0.out)); (case aS => exact (below_size (by repeat (first | (with_reducible first | exact HB.out | apply below_alloc | apply pw_below_drewN | apply below_drew1) | exact HB.out)))); (case aL => have := LMc18.out; omega); intro v114 w34 ho hb hg hat; rw [← Ny113.out] at ho; have n0_ := Aside0.mk (hb); have n1_ := Aside0.mk (Kept.of_grown (S := (fun k_ => P0_ k_)) hg (by repeat (first | (with_reducible first | exact HK.out | apply Kept.alloc | apply Kept.drewN | apply Kept.drew) | exact HK.out)) (fun k_ e_ => (HO_0.out.1 k_ e_))); have n2_ := Aside0.mk (ho); clear HB; clear HK; clear HO_0; have HB := n0_; have HK := n1_; have HO115 := n2_; clear n0_ n1_ n2_; clear ho hb hg hat; have p19 : 0 ≤ (x5_1 : Int) := of_decide_eq_true (by first | (with_reducible assumption) | assumption); have q19 : x5_1 < (a1.size : Int) := of_decide_eq_true (by first | (with_reducible assumption) | assumption); have hx19 := bt_at a1 x5_1; replace p19 := eq_true p19; replace q19 := eq_true q19) | ((with_reducible refine gate_builtin (b := .append) (xs := #[.tmp 65, .tmp 66]) rfl ?_); at_builtin; refine Kd.R_append (Kd.int .u8) (w0 := w0) w0.heap.size rfl (.tmp 65) (.tmp 66) 37 5 (.int .u8 0) 1 rfl Tryd.underlying37 info5 rfl (by decide) (by omega) v114 y113 114 [.int .u8 114] (fun k_ => (P0_ k_ ∨ w.heap.size ≤ k_)) (fun _ => False) rfl rfl ?aP (fun _ hk => hk.elim) ?aF ?aO ?aB ?aS ?aL ?_; (case aP => exact rfl); (case aB => exact (by repeat (first | (with_reducible first | exact HB.out | apply below_alloc | apply pw_below_drewN | apply below_drew1) | exact HB.out))); (case aF => exact (fun k_ hk => (.inr (Nat.le_trans (by first | exact HK.out.1 | exact (show Kept w _ (fun k_ => P0_ k_) from by repeat (first | (with_reducible first | exact HK.out | apply Kept.alloc | apply Kept.drewN | apply Kept.drew) | exact HK.out)).1) hk)))); (case aO => exact (by (with_reducible repeat (first | apply Kd.R_alloc | apply Kd.R_drewN | apply Kd.R_drew)); exact HO115.out)); (case aS => exact (below_size (by repeat (first | (with_reducible first | exact HB.out | apply below_alloc | apply pw_below_drewN | apply below_drew1) | exact HB.out)))); (case aL => have := LMc33.out; omega); intro v126 w35 ho hb hg hat; rw [← Ny125.out] at ho; have n0_ := Aside0.mk (hb); have n1_ := Aside0.mk (Kept.of_grown (S := (fun k_ => P0_ k_)) hg (by repeat (first | (with_reducible first | exact HK.out | apply Kept.alloc | apply Kept.drewN | apply Kept.drew) | exact HK.out)) (fun k_ e_ => (HO115.out.1 k_ e_))); have n2_ := Aside0.mk (ho); clear HB; clear HK; clear HO115; have HB := n0_; have HK := n1_; have HO127 := n2_; clear n0_ n1_ n2_; clear ho hb hg hat))
                                  go_roundg k1
                                  case measure => have := HK1.out; omega
                                  case rel => exact ⟨(y125), (wrap64 (x5_1 + 1)), (by first | rfl | (simp; done) | (simp [*]; done)), H', ⟨by have := HK1.out; omega⟩, ⟨by (with_reducible repeat (first | apply Kd.R_alloc | apply Kd.R_drewN | apply Kd.R_drew)); exact HO127.out⟩, ⟨by repeat (first | (with_reducible first | exact HK.out | apply Kept.alloc | apply Kept.drewN | apply Kept.drew) | exact HK.out)⟩, ⟨by repeat (first | (with_reducible first | exact HB.out | apply below_alloc | apply pw_below_drewN | apply below_drew1) | exact HB.out)⟩⟩
                                · rw [if_neg c33] at H
                                  exact absurd H (by simp)
                              · rw [if_neg c32] at H
                                have c32b0 : ((bt a1 x5_1) == 13) = false := beq_eq_false_iff_ne.mpr c32
                                have c32b1 : ((bt a1 x5_1) != 13) = true := bne_iff_ne.mpr c32
                                by_cases c36 : (bt a1 x5_1) = 9
                                · rw [if_pos c36] at H
                                  have c36b0 : ((bt a1 x5_1) == 9) = true := beq_iff_eq.mpr c36
                                  have c36b1 : ((bt a1 x5_1) != 9) = false := bne_eq_false_iff_eq.mpr c36
                                  clear c36
                                  by_cases c37 : y113.length < 140737488355328
                                  · rw [if_pos c37] at H
                                    have LMc37 := Aside0.mk c37
                                    clear c37
                                    obtain ⟨y128, hy128⟩ : ∃ y_ : List Int, y_ = (y113 ++ [116]) := ⟨_, rfl⟩
                                    replace H : (gjson_AppendJSONString.l0 k1 y128 a1 (wrap64 (x5_1 + 1))) = some r := by first | (rw [hy128]; with_reducible exact H) | (have H2_ := (Option.bind_some _ _).symm.trans H; rw [hy128]; with_reducible exact H2_) | (have H2_ := (Option.bind_some _ _).symm.trans H; with_reducible exact H2_) | with_reducible exact H | (rw [hy128]; exact H) | exact H
                                    have Ny128 := Aside0.mk hy128
                                    clear hy128
                                    have H' := Aside0.mk H
                                    clear H
                                    have p16 : 0 ≤ (x5_1 : Int) := of_decide_eq_true (by first | (with_reducible assumption) | assumption)
                                    have q16 : x5_1 < (a1.size : Int) := of_decide_eq_true (by first | (with_reducible assumption) | assumption)
                                    have hx16 := bt_at a1 x5_1
                                    replace p16 := eq_true p16
                                    replace q16 := eq_true q16
                                    go_wp2_with (first | ((with_reducible refine gate_builtin (b := .append) (xs := #[.tmp 33, .tmp 34]) rfl ?_); at_builtin; refine Kd.R_append (Kd.int .u8) (w0 := w0) w0.heap.size rfl (.tmp 33) (.tmp 34) 37 5 (.int .u8 0) 1 rfl Tryd.underlying37 info5 rfl (by decide) (by omega) u0 x0_1 92 [.int .u8 92] (fun k_ => (P0_ k_ ∨ w.heap.size ≤ k_)) (fun _ => False) rfl rfl ?aP (fun _ hk => hk.elim) ?aF ?aO ?aB ?aS ?aL ?_; (case aP => exact rfl); (case aB => exact (by repeat (first | (with_reducible first | exact HB.out | apply below_alloc | apply pw_below_drewN | apply below_drew1) | exact HB.out))); (case aF => exact (fun k_ hk => (.inr (Nat.le_trans (by first | exact HK.out.1 | exact (show Kept w _ (fun k_ => P0_ k_) from by repeat (first | (with_reducible first | exact HK.out | apply Kept.alloc | apply Kept.drewN | apply Kept.drew) | exact HK.out)).1) hk)))); (case aO => exact (by (with_reducible repeat (first | apply Kd.R_alloc | apply Kd.R_drewN | apply Kd.R_drew)); exact HO_0.out)); (case aS => exact (below_size (by repeat (first | (with_reducible first | exact HB.out | apply below_alloc | apply pw_below_drewN | apply below_drew1) | exact HB.out)))); (case aL => have := LMc18.out; omega); intro v114 w38 ho hb hg hat; rw [← Ny113.out] at ho; have n0_ := Aside0.mk (hb); have n1_ := Aside0.mk (Kept.of_grown (S := (fun k_ => P0_ k_)) hg (by repeat (first | (with_reducible first | exact HK.out | apply Kept.alloc | apply Kept.drewN | apply Kept.drew) | exact HK.out)) (fun k_ e_ => (HO_0.out.1 k_ e_))); have n2_ := Aside0.mk (ho); clear HB; clear HK; clear HO_0; have HB := n0_; have HK := n1_; have HO115 := n2_; clear n0_ n1_ n2_; clear ho hb hg hat; have p19 : 0 ≤ (x5_1 : Int) := of_decide_eq_true (by first | (with_reducible assumption) | assumption); have q19 : x5_1 < (a1.size : Int) := of_decide_eq_true (by first | (with_reducible assumption) | assumption); have hx19 := bt_at a1 x5_1; replace p19 := eq_true p19; replace q19 := eq_true q19) | ((with_reducible refine gate_builtin (b := .append) (xs := #[.tmp 70, .tmp 71]) rfl ?_); at_builtin; refine Kd.R_append (Kd.int .u8) (w0 := w0) w0.heap.size rfl (.tmp 70) (.tmp 71) 37 5 (.int .u8 0) 1 rfl Tryd.underlying37 info5 rfl (by decide) (by omega) v114 y113 116 [.int .u8 116] (fun k_ => (P0_ k_ ∨ w.heap.size ≤ k_)) (fun _ => False) rfl rfl ?aP (fun _ hk => hk.elim) ?aF ?aO ?aB ?aS ?aL ?_; (case aP => exact rfl); (case aB => exact (by repeat (first | (with_reducible first | exact HB.out | apply below_alloc | apply pw_below_drewN | apply below_drew1) | exact HB.out))); (case aF => exact (fun k_ hk => (.inr (Nat.le_trans (by first | exact HK.out.1 | exact (show Kept w _ (fun k_ => P0_ k_) from by repeat (first | (with_reducible first | exact HK.out | apply Kept.alloc | apply Kept.drewN | apply Kept.drew) | exact HK.out)).1) hk)))); (case aO => exact (by (with_reducible repeat (first | apply Kd.R_alloc | apply Kd.R_drewN | apply Kd.R_drew)); exact HO115.out)); (case aS => exact (below_size (by repeat (first | (with_reducible first | exact HB.out | apply below_alloc | apply pw_below_drewN | apply below_drew1) | exact HB.out)))); (case aL => have := LMc37.out; omega); intro v129 w39 ho hb hg hat; rw [← Ny128.out] at ho; have n0_ := Aside0.mk (hb); have n1_ := Aside0.mk (Kept.of_grown (S := (fun k_ => P0_ k_)) hg (by repeat (first | (with_reducible first | exact HK.out | apply Kept.alloc | apply Kept.drewN | apply Kept.drew) | exact HK.out)) (fun k_ e_ => (HO115.out.1 k_ e_))); have n2_ := Aside0.mk (ho); clear HB; clear HK; clear HO115; have HB := n0_; have HK := n1_; have HO130 := n2_; clear n0_ n1_ n2_; clear ho hb hg hat))
                                    go_roundg k1
                                    case measure => have := HK1.out; omega
                                    case rel => exact ⟨(y128), (wrap64 (x5_1 + 1)), (by first | rfl | (simp; done) | (simp [*]; done)), H', ⟨by have := HK1.out; omega⟩, ⟨by (with_reducible repeat (first | apply Kd.R_alloc | apply Kd.R_drewN | apply Kd.R_drew)); exact HO130.out⟩, ⟨by repeat (first | (with_reducible first | exact HK.out | apply Kept.alloc | apply Kept.drewN | apply Kept.drew) | exact HK.out)⟩, ⟨by repeat (first | (with_reducible first | exact HB.out | apply below_alloc | apply pw_below_drewN | apply below_drew1) | exact HB.out)⟩⟩
                                  · rw [if_neg c37] at H
                                    exact absurd H (by simp)
                                · rw [if_neg c36] at H
                                  have c36b0 : ((bt a1 x5_1) == 9) = false := beq_eq_false_iff_ne.mpr c36
                                  have c36b1 : ((bt a1 x5_1) != 9) = true := bne_iff_ne.mpr c36
                                  by_cases c40 : y113.length < 140737488355328
                                  · rw [if_pos c40] at H
                                    have LMc40 := Aside0.mk c40
                                    clear c40
                                    obtain ⟨y131, hy131⟩ : ∃ y_ : List Int, y_ = (y113 ++ [117]) := ⟨_, rfl⟩
                                    replace H : ((gjson_appendHex16.f y131 (IntKind.u16.wrap (bt a1 x5_1))).bind fun t134 => (gjson_AppendJSONString.l0 k1 t134 a1 (wrap64 (x5_1 + 1)))) = some r := by first | (rw [hy131]; with_reducible exact H) | (have H2_ := (Option.bind_some _ _).symm.trans H; rw [hy131]; with_reducible exact H2_) | (have H2_ := (Option.bind_some _ _).symm.trans H; with_reducible exact H2_) | with_reducible exact H | (rw [hy131]; exact H) | exact H
                                    have Ny131 := Aside0.mk hy131
                                    clear hy131
                                    replace H := Option.bind_eq_some_iff.mp H
                                    obtain ⟨t134, A420, H⟩ := H
                                    replace H : (gjson_AppendJSONString.l0 k1 t134 a1 (wrap64 (x5_1 + 1))) = some r := H
                                    have A42 := Aside0.mk A420
                                    clear A420
                                    have H' := Aside0.mk H
                                    clear H
                                    have p16 : 0 ≤ (x5_1 : Int) := of_decide_eq_true (by first | (with_reducible assumption) | assumption)
                                    have q16 : x5_1 < (a1.size : Int) := of_decide_eq_true (by first | (with_reducible assumption) | assumption)
                                    have hx16 := bt_at a1 x5_1
                                    replace p16 := eq_true p16
                                    replace q16 := eq_true q16
                                    go_wp2_with (first | ((with_reducible refine gate_builtin (b := .append) (xs := #[.tmp 33, .tmp 34]) rfl ?_); at_builtin; refine Kd.R_append (Kd.int .u8) (w0 := w0) w0.heap.size rfl (.tmp 33) (.tmp 34) 37 5 (.int .u8 0) 1 rfl Tryd.underlying37 info5 rfl (by decide) (by omega) u0 x0_1 92 [.int .u8 92] (fun k_ => (P0_ k_ ∨ w.heap.size ≤ k_)) (fun _ => False) rfl rfl ?aP (fun _ hk => hk.elim) ?aF ?aO ?aB ?aS ?aL ?_; (case aP => exact rfl); (case aB => exact (by repeat (first | (with_reducible first | exact HB.out | apply below_alloc | apply pw_below_drewN | apply below_drew1) | exact HB.out))); (case aF => exact (fun k_ hk => (.inr (Nat.le_trans (by first | exact HK.out.1 | exact (show Kept w _ (fun k_ => P0_ k_) from by repeat (first | (with_reducible first | exact HK.out | apply Kept.alloc | apply Kept.drewN | apply Kept.drew) | exact HK.out)).1) hk)))); (case aO => exact (by (with_reducible repeat (first | apply Kd.R_alloc | apply Kd.R_drewN | apply Kd.R_drew)); exact HO_0.out)); (case aS => exact (below_size (by repeat (first | (with_reducible first | exact HB.out | apply below_alloc | apply pw_below_drewN | apply below_drew1) | exact HB.out)))); (case aL => have := LMc18.out; omega); intro v114 w43 ho hb hg hat; rw [← Ny113.out] at ho; have n0_ := Aside0.mk (hb); have n1_ := Aside0.mk (Kept.of_grown (S := (fun k_ => P0_ k_)) hg (by repeat (first | (with_reducible first | exact HK.out | apply Kept.alloc | apply Kept.drewN | apply Kept.drew) | exact HK.out)) (fun k_ e_ => (HO_0.out.1 k_ e_))); have n2_ := Aside0.mk (ho); clear HB; clear HK; clear HO_0; have HB := n0_; have HK := n1_; have HO115 := n2_; clear n0_ n1_ n2_; clear ho hb hg hat; have p19 : 0 ≤ (x5_1 : Int) := of_decide_eq_true (by first | (with_reducible assumption) | assumption); have q19 : x5_1 < (a1.size : Int) := of_decide_eq_true (by first | (with_reducible assumption) | assumption); have hx19 := bt_at a1 x5_1; replace p19 := eq_true p19; replace q19 := eq_true q19) | ((with_reducible refine gate_builtin (b := .append) (xs := #[.tmp 39, .tmp 40]) rfl ?_); at_builtin; refine Kd.R_append (Kd.int .u8) (w0 := w0) w0.heap.size rfl (.tmp 39) (.tmp 40) 37 5 (.int .u8 0) 1 rfl Tryd.underlying37 info5 rfl (by decide) (by omega) v114 y113 117 [.int .u8 117] (fun k_ => (P0_ k_ ∨ w.heap.size ≤ k_)) (fun _ => False) rfl rfl ?aP (fun _ hk => hk.elim) ?aF ?aO ?aB ?aS ?aL ?_; (case aP => exact rfl); (case aB => exact (by repeat (first | (with_reducible first | exact HB.out | apply below_alloc | apply pw_below_drewN | apply below_drew1) | exact HB.out))); (case aF => exact (fun k_ hk => (.inr (Nat.le_trans (by first | exact HK.out.1 | exact (show Kept w _ (fun k_ => P0_ k_) from by repeat (first | (with_reducible first | exact HK.out | apply Kept.alloc | apply Kept.drewN | apply Kept.drew) | exact HK.out)).1) hk)))); (case aO => exact (by (with_reducible repeat (first | apply Kd.R_alloc | apply Kd.R_drewN | apply Kd.R_drew)); exact HO115.out)); (case aS => exact (below_size (by repeat (first | (with_reducible first | exact HB.out | apply below_alloc | apply pw_below_drewN | apply below_drew1) | exact HB.out)))); (case aL => have := LMc40.out; omega); intro v132 w44 ho hb hg hat; rw [← Ny131.out] at ho; have n0_ := Aside0.mk (hb); have n1_ := Aside0.mk (Kept.of_grown (S := (fun k_ => P0_ k_)) hg (by repeat (first | (with_reducible first | exact HK.out | apply Kept.alloc | apply Kept.drewN | apply Kept.drew) | exact HK.out)) (fun k_ e_ => (HO115.out.1 k_ e_))); have n2_ := Aside0.mk (ho); clear HB; clear HK; clear HO115; have HB := n0_; have HK := n1_; have HO133 := n2_; clear n0_ n1_ n2_; clear ho hb hg hat; have p41 : 0 ≤ (x5_1 : Int) := of_decide_eq_true (by first | (with_reducible assumption) | assumption); have q41 : x5_1 < (a1.size : Int) := of_decide_eq_true (by first | (with_reducible assumption) | assumption); have hx41 := bt_at a1 x5_1; replace p41 := eq_true p41; replace q41 := eq_true q41; obtain ⟨Ao45, co45, eo45⟩ := Kd.R_slice HO133.out; subst eo45) | ((with_reducible refine gate_callee (f := 51) rfl ?_); refine goesL_ (some 47) rfl rfl Tryd.func51 (by kernel_rfl) rfl #[.slice Ao45 y131.length co45, .int .u16 (IntKind.u16.wrap (bt a1 x5_1))] rfl (by (try simp only [List.map_toArray, List.map_cons, List.map_nil]); first | done | rfl | (simp only [List.length_drop, List.length_take]; rfl)) ?_; (with_reducible refine (gjson_appendHex16.calls (fun k_ => some k_ = (.slice Ao45 y131.length co45 : Value).ownBlock) (.slice Ao45 y131.length co45) y131 (IntKind.u16.wrap (bt a1 x5_1)) t134 w0 _ ?side1 ?side2 ?side3 A42.out).mono ?_); (case side1 => repeat (first | (with_reducible first | exact HB.out | apply below_alloc | apply pw_below_drewN | apply below_drew1) | exact HB.out)); (case side2 => exact Kd.R_tight rfl HO133.out); (case side3 => first | exact HG.out | exact Laid.below HG.out (by repeat (first | (with_reducible first | exact HB.out | apply below_alloc | apply pw_below_drewN | apply below_drew1) | exact HB.out))); rintro e w46 ⟨v135, rfl, ho0, hb, hkp⟩; refine ⟨_, rfl, ?_⟩; have n0_ := Aside0.mk (Kd.R_mono (ok' := fun k_ => (P0_ k_ ∨ w.heap.size ≤ k_)) ho0 (fun k_ hk_ => Or.elim hk_ (fun hs_ => (HO133.out.1 k_ (hs_).symm)) (fun hn_ => (.inr (Nat.le_trans (by first | exact HK.out.1 | exact (show Kept w _ (fun k_ => P0_ k_) from by repeat (first | (with_reducible first | exact HK.out | apply Kept.alloc | apply Kept.drewN | apply Kept.drew) | exact HK.out)).1) hn_))))); have n1_ := Aside0.mk (Kept.then_ (S := (fun k_ => P0_ k_)) (by repeat (first | (with_reducible first | exact HK.out | apply Kept.alloc | apply Kept.drewN | apply Kept.drew) | exact HK.out)) hkp (fun k_ hs_ => (fun e_ => (HO133.out.1 k_ e_.symm)) hs_)); have n2_ := Aside0.mk (hb); clear HK; clear HB; clear HO133; have HO136 := n0_; have HK := n1_; have HB := n2_; clear n0_ n1_ n2_; (try clear hb); (try clear hkp); (try clear ho0)))
                                    go_roundg k1
                                    case measure => have := HK1.out; omega
                                    case rel => exact ⟨(t134), (wrap64 (x5_1 + 1)), (by first | rfl | (simp; done) | (simp [*]; done)), H', ⟨by have := HK1.out; omega⟩, ⟨by (with_reducible repeat (first | apply Kd.R_alloc | apply Kd.R_drewN | apply Kd.R_drew)); exact HO136.out⟩, ⟨by repeat (first | (with_reducible first | exact HK.out | apply Kept.alloc | apply Kept.drewN | apply Kept.drew) | exact HK.out)⟩, ⟨by repeat (first | (with_reducible first | exact HB.out | apply below_alloc | apply pw_below_drewN | apply below_drew1) | exact HB.out)⟩⟩
                                  · rw [if_neg c40] at H
                                    exact absurd H (by simp)
                      · rw [if_neg c18] at H
                        exact absurd H (by simp)
                    · rw [if_neg c17] at H
                      have c17b0 : decide ((bt a1 x5_1) < 32) = false := decide_eq_false c17
                      clear c17
                      have HC47 := Aside0.mk H
                      clear H
                      have p16 : 0 ≤ (x5_1 : Int) := of_decide_eq_true (by first | (with_reducible assumption) | assumption)
                      have q16 : x5_1 < (a1.size : Int) := of_decide_eq_true (by first | (with_reducible assumption) | assumption)
                      have hx16 := bt_at a1 x5_1
                      replace p16 := eq_true p16
                      replace q16 := eq_true q16
                      go_upto_region 21 with (fail)
                      go_cut [88] (fun v88 wc => ∃ (kq : Nat) (x88_46 : Bool), v88 = .bool x88_46 ∧ Aside0 (gjson_AppendJSONString.j1 kq x0_1 a1 x5_1 x88_46 = some r) ∧ Aside0 (kq ≤ k1) ∧ Aside0 (Kd.R (Kd.int .u8) 5 wc w0.heap.size (fun k_ => (P0_ k_ ∨ w.heap.size ≤ k_)) u0 x0_1) ∧ Aside0 (Kept w wc (fun k_ => P0_ k_)) ∧ Aside0 (Below w0.heap.size w0 wc))
                      case first => as_aux_lemma =>
                        have H := HC47.out
                        clear HC47
                        by_cases c49 : (bt a1 x5_1) = 62
                        · rw [if_pos c49] at H
                          have c49b0 : ((bt a1 x5_1) == 62) = true := beq_iff_eq.mpr c49
                          have c49b1 : ((bt a1 x5_1) != 62) = false := bne_eq_false_iff_eq.mpr c49
                          clear c49
                          (first | rw [c49b0] | (simp only [i64_w, i32_w]; rw [c49b0]) | skip)
                          have H' := Aside0.mk H
                          clear H
                          have p48 : 0 ≤ (x5_1 : Int) := of_decide_eq_true (by first | (with_reducible assumption) | assumption)
                          have q48 : x5_1 < (a1.size : Int) := of_decide_eq_true (by first | (with_reducible assumption) | assumption)
                          have hx48 := bt_at a1 x5_1
                          replace p48 := eq_true p48
                          replace q48 := eq_true q48
                          go_wp2
                          go_meet
                          case rel => exact ⟨_, (true), (by first | rfl | (simp; done) | (simp [*]; done)), H', ⟨by have := HK1.out; first | omega | exact Nat.le_refl _⟩, ⟨by (with_reducible repeat (first | apply Kd.R_alloc | apply Kd.R_drewN | apply Kd.R_drew)); exact HO_0.out⟩, ⟨by repeat (first | (with_reducible first | exact HK.out | apply Kept.alloc | apply Kept.drewN | apply Kept.drew) | exact HK.out)⟩, ⟨by repeat (first | (with_reducible first | exact HB.out | apply below_alloc | apply pw_below_drewN | apply below_drew1) | exact HB.out)⟩⟩
                        · rw [if_neg c49] at H
                          have c49b0 : ((bt a1 x5_1) == 62) = false := beq_eq_false_iff_ne.mpr c49
                          have c49b1 : ((bt a1 x5_1) != 62) = true := bne_iff_ne.mpr c49
                          (first | rw [c49b0] | (simp only [i64_w, i32_w]; rw [c49b0]) | skip)
                          by_cases c51 : (bt a1 x5_1) = 60
                          · rw [if_pos c51] at H
                            have c51b0 : ((bt a1 x5_1) == 60) = true := beq_iff_eq.mpr c51
                            have c51b1 : ((bt a1 x5_1) != 60) = false := bne_eq_false_iff_eq.mpr c51
                            clear c51
                            have H' := Aside0.mk H
                            clear H
                            have p48 : 0 ≤ (x5_1 : Int) := of_decide_eq_true (by first | (with_reducible assumption) | assumption)
                            have q48 : x5_1 < (a1.size : Int) := of_decide_eq_true (by first | (with_reducible assumption) | assumption)
                            have hx48 := bt_at a1 x5_1
                            replace p48 := eq_true p48
                            replace q48 := eq_true q48
                            have p50 : 0 ≤ (x5_1 : Int) := of_decide_eq_true (by first | (with_reducible assumption) | assumption)
                            have q50 : x5_1 < (a1.size : Int) := of_decide_eq_true (by first | (with_reducible assumption) | assumption)
                            have hx50 := bt_at a1 x5_1
                            replace p50 := eq_true p50
                            replace q50 := eq_true q50
                            go_wp2
                            go_meet
                            case rel => exact ⟨_, (true), (by first | rfl | (simp; done) | (simp [*]; done)), H', ⟨by have := HK1.out; first | omega | exact Nat.le_refl _⟩, ⟨by (with_reducible repeat (first | apply Kd.R_alloc | apply Kd.R_drewN | apply Kd.R_drew)); exact HO_0.out⟩, ⟨by repeat (first | (with_reducible first | exact HK.out | apply Kept.alloc | apply Kept.drewN | apply Kept.drew) | exact HK.out)⟩, ⟨by repeat (first | (with_reducible first | exact HB.out | apply below_alloc | apply pw_below_drewN | apply below_drew1) | exact HB.out)⟩⟩
                          · rw [if_neg c51] at H
                            have c51b0 : ((bt a1 x5_1) == 60) = false := beq_eq_false_iff_ne.mpr c51
                            have c51b1 : ((bt a1 x5_1) != 60) = true := bne_iff_ne.mpr c51
                            have H' := Aside0.mk H
                            clear H
                            have p48 : 0 ≤ (x5_1 : Int) := of_decide_eq_true (by first | (with_reducible assumption) | assumption)
                            have q48 : x5_1 < (a1.size : Int) := of_decide_eq_true (by first | (with_reducible assumption) | assumption)
                            have hx48 := bt_at a1 x5_1
                            replace p48 := eq_true p48
                            replace q48 := eq_true q48
                            have p50 : 0 ≤ (x5_1 : Int) := of_decide_eq_true (by first | (with_reducible assumption) | assumption)
                            have q50 : x5_1 < (a1.size : Int) := of_decide_eq_true (by first | (with_reducible assumption) | assumption)
                            have hx50 := bt_at a1 x5_1
                            replace p50 := eq_true p50
                            replace q50 := eq_true q50
                            have p52 : 0 ≤ (x5_1 : Int) := of_decide_eq_true (by first | (with_reducible assumption) | assumption)
                            have q52 : x5_1 < (a1.size : Int) := of_decide_eq_true (by first | (with_reducible assumption) | assumption)
                            have hx52 := bt_at a1 x5_1
                            replace p52 := eq_true p52
                            replace q52 := eq_true q52
                            go_wp2
                            go_meet
                            case rel => exact ⟨_, (((bt a1 x5_1) == 38)), (by first | rfl | (simp; done) | (simp [*]; done)), H', ⟨by have := HK1.out; first | omega | exact Nat.le_refl _⟩, ⟨by (with_reducible repeat (first | apply Kd.R_alloc | apply Kd.R_drewN | apply Kd.R_drew)); exact HO_0.out⟩, ⟨by repeat (first | (with_reducible first | exact HK.out | apply Kept.alloc | apply Kept.drewN | apply Kept.drew) | exact HK.out)⟩, ⟨by repeat (first | (with_reducible first | exact HB.out | apply below_alloc | apply pw_below_drewN | apply below_drew1) | exact HB.out)⟩⟩
                      case rest => as_aux_lemma =>
                        clear HC47
                        try clear c1
                        try clear p1
                        try clear q1
                        try clear hx1
                        try clear c2
                        try clear p2
                        try clear c3
                        try clear c4
                        try clear c4b0
                        try clear c4b1
                        try clear p4
                        try clear q4
                        try clear hx4
                        try clear c5
                        try clear p5
                        try clear q5
                        try clear hx5
                        try clear p6
                        try clear c7
                        try clear c7b0
                        try clear c7b1
                        try clear c8
                        try clear c8b0
                        try clear c8b1
                        try clear c9
                        try clear q12
                        try clear c14
                        try clear c14b0
                        try clear c15
                        try clear c15b0
                        try clear p16
                        try clear q16
                        try clear hx16
                        try clear c17
                        try clear c17b0
                        try clear c18
                        try clear p19
                        try clear q19
                        try clear hx19
                        try clear c20
                        try clear c20b0
                        try clear c20b1
                        try clear c21
                        try clear c24
                        try clear c24b0
                        try clear c24b1
                        try clear c25
                        try clear c28
                        try clear c28b0
                        try clear c28b1
                        try clear c29
                        try clear c32
                        try clear c32b0
                        try clear c32b1
                        try clear c33
                        try clear c34
                        try clear c36
                        try clear c36b0
                        try clear c36b1
                        try clear c37
                        try clear c40
                        try clear p41
                        try clear q41
                        try clear hx41
                        try clear p48
                        try clear q48
                        try clear hx48
                        try clear c49
                        try clear c49b0
                        try clear c49b1
                        try clear p50
                        try clear q50
                        try clear hx50
                        try clear c51
                        try clear c51b0
                        try clear c51b1
                        try clear p52
                        try clear q52
                        try clear hx52
                        try clear p16
                        try clear p19
                        try clear p2
                        try clear p41
                        try clear p48
                        try clear p50
                        try clear p52
                        try clear p6
                        try clear q1
                        try clear q12
                        try clear q16
                        try clear q19
                        try clear q41
                        try clear q48
                        try clear q50
                        try clear q52
                        obtain ⟨kq, x88_46, rfl, HA, HJ46, HO_0, HK, HB⟩ := hcut
                        cases kq with
                        | zero => exact absurd HA.out (by simp [gjson_AppendJSONString.j1])
                        | succ kj46 =>
                          have H := HA.out
                          clear HA
                          simp only [gjson_AppendJSONString.j1] at H
                          by_cases c53 : x88_46 = true
                          · subst c53
                            have H1 : ((gjson_escapeHTML.f).bind fun t137 => (if t137 = true then ((some (([92, 117] : List Int) : List Int)).bind fun y138 => (if x0_1.length + y138.length < 140737488355328 then (if 0 ≤ x5_1 then (if x5_1 < (a1.size : Int) then ((gjson_appendHex16.f (x0_1 ++ y138) (IntKind.u16.wrap (bt a1 x5_1))).bind fun t144 => (gjson_AppendJSONString.l0 kj46 t144 a1 (wrap64 (x5_1 + 1)))) else (none)) else (none)) else (none))) else (if 0 ≤ x5_1 then (if x5_1 < (a1.size : Int) then (if x0_1.length < 140737488355328 then (gjson_AppendJSONString.l0 kj46 (x0_1 ++ [bt a1 x5_1]) a1 (wrap64 (x5_1 + 1))) else (none)) else (none)) else (none)))) = some r := by rw [if_pos rfl] at H; exact H
                            clear H
                            have H := H1
                            clear H1
                            replace H := Option.bind_eq_some_iff.mp H
                            obtain ⟨t137, A540, H⟩ := H
                            replace H : (if t137 = true then ((some (([92, 117] : List Int) : List Int)).bind fun y138 => (if x0_1.length + y138.length < 140737488355328 then (if 0 ≤ x5_1 then (if x5_1 < (a1.size : Int) then ((gjson_appendHex16.f (x0_1 ++ y138) (IntKind.u16.wrap (bt a1 x5_1))).bind fun t144 => (gjson_AppendJSONString.l0 kj46 t144 a1 (wrap64 (x5_1 + 1)))) else (none)) else (none)) else (none))) else (if 0 ≤ x5_1 then (if x5_1 < (a1.size : Int) then (if x0_1.length < 140737488355328 then (gjson_AppendJSONString.l0 kj46 (x0_1 ++ [bt a1 x5_1]) a1 (wrap64 (x5_1 + 1))) else (none)) else (none)) else (none))) = some r := H
                            have A54 := Aside0.mk A540
                            clear A540
                            by_cases c55 : t137 = true
                            · subst c55
                              have H1 : ((some (([92, 117] : List Int) : List Int)).bind fun y138 => (if x0_1.length + y138.length < 140737488355328 then (if 0 ≤ x5_1 then (if x5_1 < (a1.size : Int) then ((gjson_appendHex16.f (x0_1 ++ y138) (IntKind.u16.wrap (bt a1 x5_1))).bind fun t144 => (gjson_AppendJSONString.l0 kj46 t144 a1 (wrap64 (x5_1 + 1)))) else (none)) else (none)) else (none))) = some r := by rw [if_pos rfl] at H; exact H
                              clear H
                              have H := H1
                              clear H1
                              obtain ⟨y138, hy138⟩ : ∃ y_ : List Int, y_ = (([92, 117] : List Int)) := ⟨_, rfl⟩
                              replace H : (if x0_1.length + y138.length < 140737488355328 then (if 0 ≤ x5_1 then (if x5_1 < (a1.size : Int) then ((gjson_appendHex16.f (x0_1 ++ y138) (IntKind.u16.wrap (bt a1 x5_1))).bind fun t144 => (gjson_AppendJSONString.l0 kj46 t144 a1 (wrap64 (x5_1 + 1)))) else (none)) else (none)) else (none)) = some r := by first | (rw [hy138]; with_reducible exact H) | (have H2_ := (Option.bind_some _ _).symm.trans H; rw [hy138]; with_reducible exact H2_) | (have H2_ := (Option.bind_some _ _).symm.trans H; with_reducible exact H2_) | with_reducible exact H | (rw [hy138]; exact H) | exact H
                              have Ny138 := Aside0.mk hy138
                              clear hy138
                              by_cases c56 : x0_1.length + y138.length < 140737488355328
                              · rw [if_pos c56] at H
                                have LMc56 := Aside0.mk c56
                                clear c56
                                obtain ⟨y141, hy141⟩ : ∃ y_ : List Int, y_ = (x0_1 ++ y138) := ⟨_, rfl⟩
                                replace H : (if 0 ≤ x5_1 then (if x5_1 < (a1.size : Int) then ((gjson_appendHex16.f y141 (IntKind.u16.wrap (bt a1 x5_1))).bind fun t144 => (gjson_AppendJSONString.l0 kj46 t144 a1 (wrap64 (x5_1 + 1)))) else (none)) else (none)) = some r := by first | (rw [hy141]; with_reducible exact H) | (have H2_ := (Option.bind_some _ _).symm.trans H; rw [hy141]; with_reducible exact H2_) | (have H2_ := (Option.bind_some _ _).symm.trans H; with_reducible exact H2_) | with_reducible exact H | (rw [hy141]; exact H) | exact H
                                have Ny141 := Aside0.mk hy141
                                clear hy141
                                by_cases c57 : 0 ≤ x5_1
                                · rw [if_pos c57] at H
                                  have c57b0 : decide (0 ≤ x5_1) = true := decide_eq_true c57
                                  clear c57
                                  by_cases c58 : x5_1 < (a1.size : Int)
                                  · rw [if_pos c58] at H
                                    have c58b0 : decide (x5_1 < (a1.size : Int)) = true := decide_eq_true c58
                                    clear c58
                                    replace H := Option.bind_eq_some_iff.mp H
                                    obtain ⟨t144, A600, H⟩ := H
                                    replace H : (gjson_AppendJSONString.l0 kj46 t144 a1 (wrap64 (x5_1 + 1))) = some r := H
                                    have A60 := Aside0.mk A600
                                    clear A600
                                    have H' := Aside0.mk H
                                    clear H
                                    go_wp2_with (first | ((with_reducible refine gate_callee (f := 52) rfl ?_); refine goesL_ (some 89) rfl rfl Tryd.func52 (by kernel_rfl) rfl #[] rfl (by (try simp only [List.map_toArray, List.map_cons, List.map_nil]); first | done | rfl | (simp only [List.length_drop, List.length_take]; rfl)) ?_; (with_reducible refine (gjson_escapeHTML.calls  true _ A54.out).mono ?_); rintro e w' ⟨rfl, ⟨nd, rfl⟩⟩; refine ⟨_, rfl, ?_⟩) | ((with_reducible refine gate_dst (N := 91) rfl ?_); refine Kd.R_lit (Kd.int .u8) _ 5 ?hg (N := 91) ?hd (xs := ([92, 117] : List Int)) (inner := [.int .u8 92, .int .u8 117]) (ok := fun _ => True) (okp := fun _ => True) ?hr ?hp (fun _ hk => hk) trivial (Below.refl _ _) (Nat.le_refl _) (by simp) ?_; (case hd => rfl); (case hg => rfl); (case hr => first | (go_simp; done) | (go_simp; rfl)); (case hp => exact (Reps.one (show Kd.M (Kd.int .u8) _ _ _ 92 [.int .u8 92] from rfl) (Reps.one (show Kd.M (Kd.int .u8) _ _ _ 117 [.int .u8 117] from rfl) (Reps.none _ _)))); intro v139 w61 ho62 hb hg_ hnew_; clear hg_ hnew_; (first | rw [← Ny138.out] at ho62 | (simp only [Int.reduceToNat] at ho62; rw [← Ny138.out] at ho62)); have n0_ := Aside0.mk (Kd.R_elder' (by (with_reducible repeat (first | apply Kd.R_alloc | apply Kd.R_drewN | apply Kd.R_drew)); exact HO_0.out) (Kd.R_base ho62) hb); have n1_ := Aside0.mk (Kd.R_lower (Kd.R_new' (Kd.R_newM (M := fun k_ => (P0_ k_ ∨ w.heap.size ≤ k_)) ho62 (by first | exact HK.out.1 | exact (show Kept w _ (fun k_ => P0_ k_) from by repeat (first | (with_reducible first | exact HK.out | apply Kept.alloc | apply Kept.drewN | apply Kept.drew) | exact HK.out)).1) (fun k_ h_ => .inr h_)) (Kd.R_lt (by (with_reducible repeat (first | apply Kd.R_alloc | apply Kd.R_drewN | apply Kd.R_drew)); exact HO_0.out))) (below_size (by repeat (first | (with_reducible first | exact HB.out | apply below_alloc | apply pw_below_drewN | apply below_drew1) | exact HB.out)))); have n2_ := Aside0.mk (Kept.below (S := (fun k_ => P0_ k_)) (by repeat (first | (with_reducible first | exact HK.out | apply Kept.alloc | apply Kept.drewN | apply Kept.drew) | exact HK.out)) hb); have n3_ := Aside0.mk (below_step (by repeat (first | (with_reducible first | exact HB.out | apply below_alloc | apply pw_below_drewN | apply below_drew1) | exact HB.out)) hb); clear HO_0; clear HK; clear HB; have HO_0 := n0_; have HO140 := n1_; have HK := n2_; have HB := n3_; clear n0_ n1_ n2_ n3_; clear hb ho62; obtain ⟨Ao64, co64, eo64⟩ := Kd.R_slice HO140.out; subst eo64) | ((with_reducible refine gate_builtin (b := .append) (xs := #[.tmp 90, .tmp 91]) rfl ?_); at_builtin; refine Kd.R_append_rows (Kd.int .u8) (w0 := w0) w0.heap.size rfl (.tmp 90) (.tmp 91) 37 5 (.int .u8 0) 1 rfl Tryd.underlying37 info5 rfl (by decide) (by omega) u0 x0_1 y138 _ _ _ (fun k_ => (P0_ k_ ∨ w.heap.size ≤ k_) ∧ some k_ ≠ (.slice Ao64 y138.length co64 : Value).ownBlock) (fun _ => False) rfl rfl ?aO ?aR (fun _ _ h => h) (fun _ h => h.elim) ?aF ?aB ?aS ?aL ?_; (case aR => repeat (first | exact (Kd.R_reads' HO140.out).2.2 | (with_reducible refine Kd.C_alloc ?_ _) | (with_reducible refine Kd.C_drewN ?_ _) | (with_reducible refine Kd.C_drew ?_))); (case aB => exact (by repeat (first | (with_reducible first | exact HB.out | apply below_alloc | apply pw_below_drewN | apply below_drew1) | exact HB.out))); (case aF => exact (fun k_ hk => ⟨(.inr (Nat.le_trans (by first | exact HK.out.1 | exact (show Kept w _ (fun k_ => P0_ k_) from by repeat (first | (with_reducible first | exact HK.out | apply Kept.alloc | apply Kept.drewN | apply Kept.drew) | exact HK.out)).1) hk)), Kd.fresh' (Kd.R_lt (by (with_reducible repeat (first | apply Kd.R_alloc | apply Kd.R_drewN | apply Kd.R_drew)); exact HO140.out)) k_ hk⟩)); (case aO => exact (by (with_reducible repeat (first | apply Kd.R_alloc | apply Kd.R_drewN | apply Kd.R_drew)); exact HO_0.out)); (case aS => exact (below_size (by repeat (first | (with_reducible first | exact HB.out | apply below_alloc | apply pw_below_drewN | apply below_drew1) | exact HB.out)))); (case aL => have := LMc56.out; omega); intro v142 w63 ho hb hg hat; rw [← Ny141.out] at ho; have n0_ := Aside0.mk (Kd.R_after (ok := (fun k_ => (P0_ k_ ∨ w.heap.size ≤ k_))) (by (with_reducible repeat (first | apply Kd.R_alloc | apply Kd.R_drewN | apply Kd.R_drew)); exact Kd.R_mono HO140.out (fun _ hk => ⟨hk.1.1, hk.2⟩)) hg hat); have n1_ := Aside0.mk (hb); have n2_ := Aside0.mk (Kept.of_grown (S := (fun k_ => P0_ k_)) hg (by repeat (first | (with_reducible first | exact HK.out | apply Kept.alloc | apply Kept.drewN | apply Kept.drew) | exact HK.out)) (fun k_ e_ => (HO_0.out.1 k_ e_).1)); have n3_ := Aside0.mk (ho); clear HO140; clear HB; clear HK; clear HO_0; have HO140 := n0_; have HB := n1_; have HK := n2_; have HO143 := n3_; clear n0_ n1_ n2_ n3_; clear ho hb hg hat; have p59 : 0 ≤ (x5_1 : Int) := of_decide_eq_true (by first | (with_reducible assumption) | assumption); have q59 : x5_1 < (a1.size : Int) := of_decide_eq_true (by first | (with_reducible assumption) | assumption); have hx59 := bt_at a1 x5_1; replace p59 := eq_true p59; replace q59 := eq_true q59; obtain ⟨Ao65, co65, eo65⟩ := Kd.R_slice HO143.out; subst eo65) | ((with_reducible refine gate_callee (f := 51) rfl ?_); refine goesL_ (some 98) rfl rfl Tryd.func51 (by kernel_rfl) rfl #[.slice Ao65 y141.length co65, .int .u16 (IntKind.u16.wrap (bt a1 x5_1))] rfl (by (try simp only [List.map_toArray, List.map_cons, List.map_nil]); first | done | rfl | (simp only [List.length_drop, List.length_take]; rfl)) ?_; (with_reducible refine (gjson_appendHex16.calls (fun k_ => some k_ = (.slice Ao65 y141.length co65 : Value).ownBlock) (.slice Ao65 y141.length co65) y141 (IntKind.u16.wrap (bt a1 x5_1)) t144 w0 _ ?side1 ?side2 ?side3 A60.out).mono ?_); (case side1 => repeat (first | (with_reducible first | exact HB.out | apply below_alloc | apply pw_below_drewN | apply below_drew1) | exact HB.out)); (case side2 => exact Kd.R_tight rfl HO143.out); (case side3 => first | exact HG.out | exact Laid.below HG.out (by repeat (first | (with_reducible first | exact HB.out | apply below_alloc | apply pw_below_drewN | apply below_drew1) | exact HB.out))); rintro e w66 ⟨v145, rfl, ho0, hb, hkp⟩; refine ⟨_, rfl, ?_⟩; have n0_ := Aside0.mk (Kd.R_mono (ok' := fun k_ => (P0_ k_ ∨ w.heap.size ≤ k_) ∧ some k_ ≠ (v145 : Value).ownBlock) (Kd.R_keptB (HO140.out) hkp (fun k_ hk_ hs_ => (hk_.2) hs_)) (fun k_ hk_ => ⟨hk_.1.1, fun e_ => Or.elim (ho0.1 k_ e_.symm) (fun hs_ => hk_.2.1 hs_) (fun hn_ => Nat.not_le.2 hk_.2.2 hn_)⟩)); have n1_ := Aside0.mk (Kd.R_mono (ok' := fun k_ => (P0_ k_ ∨ w.heap.size ≤ k_) ∧ some k_ ≠ (.slice Ao64 y138.length co64 : Value).ownBlock) ho0 (fun k_ hk_ => ⟨Or.elim hk_ (fun hs_ => (HO143.out.1 k_ (hs_).symm).1) (fun hn_ => (.inr (Nat.le_trans (by first | exact HK.out.1 | exact (show Kept w _ (fun k_ => P0_ k_) from by repeat (first | (with_reducible first | exact HK.out | apply Kept.alloc | apply Kept.drewN | apply Kept.drew) | exact HK.out)).1) hn_))), Or.elim hk_ (fun hs_ => fun e_ => (((HO140.out).1 k_ e_.symm).2) hs_) (fun hn_ => (Kd.fresh' (Kd.R_lt (by (with_reducible repeat (first | apply Kd.R_alloc | apply Kd.R_drewN | apply Kd.R_drew)); exact HO140.out)) k_ hn_))⟩)); have n2_ := Aside0.mk (Kept.then_ (S := (fun k_ => P0_ k_)) (by repeat (first | (with_reducible first | exact HK.out | apply Kept.alloc | apply Kept.drewN | apply Kept.drew) | exact HK.out)) hkp (fun k_ hs_ => (fun e_ => (HO143.out.1 k_ e_.symm).1) hs_)); have n3_ := Aside0.mk (hb); clear HO140; clear HK; clear HB; clear HO143; have HO140 := n0_; have HO146 := n1_; have HK := n2_; have HB := n3_; clear n0_ n1_ n2_ n3_; (try clear hb); (try clear hkp); (try clear ho0)))
                                    go_roundg kj46
                                    case measure => have := HK1.out; have := HJ46.out; omega
                                    case rel => exact ⟨(t144), (wrap64 (x5_1 + 1)), (by first | rfl | (simp; done) | (simp [*]; done)), H', ⟨by have := HK1.out; have := HJ46.out; omega⟩, ⟨by (with_reducible repeat (first | apply Kd.R_alloc | apply Kd.R_drewN | apply Kd.R_drew)); exact Kd.R_mono HO146.out (fun _ hk => hk.1)⟩, ⟨by repeat (first | (with_reducible first | exact HK.out | apply Kept.alloc | apply Kept.drewN | apply Kept.drew) | exact HK.out)⟩, ⟨by repeat (first | (with_reducible first | exact HB.out | apply below_alloc | apply pw_below_drewN | apply below_drew1) | exact HB.out)⟩⟩
                                  · rw [if_neg c58] at H
                                    exact absurd H (by simp)
                                · rw [if_neg c57] at H
                                  exact absurd H (by simp)
                              · rw [if_neg c56] at H
                                exact absurd H (by simp)
                            · replace c55 := Bool.eq_false_iff.mpr c55
                              subst c55
                              have H1 : (if 0 ≤ x5_1 then (if x5_1 < (a1.size : Int) then (if x0_1.length < 140737488355328 then (gjson_AppendJSONString.l0 kj46 (x0_1 ++ [bt a1 x5_1]) a1 (wrap64 (x5_1 + 1))) else (none)) else (none)) else (none)) = some r := by rw [if_neg (show ¬ (false = true) by decide)] at H; exact H
                              clear H
                              have H := H1
                              clear H1
                              by_cases c67 : 0 ≤ x5_1
                              · rw [if_pos c67] at H
                                have c67b0 : decide (0 ≤ x5_1) = true := decide_eq_true c67
                                clear c67
                                by_cases c68 : x5_1 < (a1.size : Int)
                                · rw [if_pos c68] at H
                                  have c68b0 : decide (x5_1 < (a1.size : Int)) = true := decide_eq_true c68
                                  clear c68
                                  by_cases c70 : x0_1.length < 140737488355328
                                  · rw [if_pos c70] at H
                                    have LMc70 := Aside0.mk c70
                                    clear c70
                                    obtain ⟨y147, hy147⟩ : ∃ y_ : List Int, y_ = (x0_1 ++ [bt a1 x5_1]) := ⟨_, rfl⟩
                                    replace H : (gjson_AppendJSONString.l0 kj46 y147 a1 (wrap64 (x5_1 + 1))) = some r := by first | (rw [hy147]; with_reducible exact H) | (have H2_ := (Option.bind_some _ _).symm.trans H; rw [hy147]; with_reducible exact H2_) | (have H2_ := (Option.bind_some _ _).symm.trans H; with_reducible exact H2_) | with_reducible exact H | (rw [hy147]; exact H) | exact H
                                    have Ny147 := Aside0.mk hy147
                                    clear hy147
                                    have H' := Aside0.mk H
                                    clear H
                                    go_wp2_with (first | ((with_reducible refine gate_callee (f := 52) rfl ?_); refine goesL_ (some 89) rfl rfl Tryd.func52 (by kernel_rfl) rfl #[] rfl (by (try simp only [List.map_toArray, List.map_cons, List.map_nil]); first | done | rfl | (simp only [List.length_drop, List.length_take]; rfl)) ?_; (with_reducible refine (gjson_escapeHTML.calls  false _ A54.out).mono ?_); rintro e w' ⟨rfl, ⟨nd, rfl⟩⟩; refine ⟨_, rfl, ?_⟩; have p69 : 0 ≤ (x5_1 : Int) := of_decide_eq_true (by first | (with_reducible assumption) | assumption); have q69 : x5_1 < (a1.size : Int) := of_decide_eq_true (by first | (with_reducible assumption) | assumption); have hx69 := bt_at a1 x5_1; replace p69 := eq_true p69; replace q69 := eq_true q69) | ((with_reducible refine gate_builtin (b := .append) (xs := #[.tmp 99, .tmp 103]) rfl ?_); at_builtin; refine Kd.R_append (Kd.int .u8) (w0 := w0) w0.heap.size rfl (.tmp 99) (.tmp 103) 37 5 (.int .u8 0) 1 rfl Tryd.underlying37 info5 rfl (by decide) (by omega) u0 x0_1 (bt a1 x5_1) [.int .u8 (bt a1 x5_1)] (fun k_ => (P0_ k_ ∨ w.heap.size ≤ k_)) (fun _ => False) rfl rfl ?aP (fun _ hk => hk.elim) ?aF ?aO ?aB ?aS ?aL ?_; (case aP => exact rfl); (case aB => exact (by repeat (first | (with_reducible first | exact HB.out | apply below_alloc | apply pw_below_drewN | apply below_drew1) | exact HB.out))); (case aF => exact (fun k_ hk => (.inr (Nat.le_trans (by first | exact HK.out.1 | exact (show Kept w _ (fun k_ => P0_ k_) from by repeat (first | (with_reducible first | exact HK.out | apply Kept.alloc | apply Kept.drewN | apply Kept.drew) | exact HK.out)).1) hk)))); (case aO => exact (by (with_reducible repeat (first | apply Kd.R_alloc | apply Kd.R_drewN | apply Kd.R_drew)); exact HO_0.out)); (case aS => exact (below_size (by repeat (first | (with_reducible first | exact HB.out | apply below_alloc | apply pw_below_drewN | apply below_drew1) | exact HB.out)))); (case aL => have := LMc70.out; omega); intro v148 w71 ho hb hg hat; rw [← Ny147.out] at ho; have n0_ := Aside0.mk (hb); have n1_ := Aside0.mk (Kept.of_grown (S := (fun k_ => P0_ k_)) hg (by repeat (first | (with_reducible first | exact HK.out | apply Kept.alloc | apply Kept.drewN | apply Kept.drew) | exact HK.out)) (fun k_ e_ => (HO_0.out.1 k_ e_))); have n2_ := Aside0.mk (ho); clear HB; clear HK; clear HO_0; have HB := n0_; have HK := n1_; have HO149 := n2_; clear n0_ n1_ n2_; clear ho hb hg hat))
                                    go_roundg kj46
                                    case measure => have := HK1.out; have := HJ46.out; omega
                                    case rel => exact ⟨(y147), (wrap64 (x5_1 + 1)), (by first | rfl | (simp; done) | (simp [*]; done)), H', ⟨by have := HK1.out; have := HJ46.out; omega⟩, ⟨by (with_reducible repeat (first | apply Kd.R_alloc | apply Kd.R_drewN | apply Kd.R_drew)); exact HO149.out⟩, ⟨by repeat (first | (with_reducible first | exact HK.out | apply Kept.alloc | apply Kept.drewN | apply Kept.drew) | exact HK.out)⟩, ⟨by repeat (first | (with_reducible first | exact HB.out | apply below_alloc | apply pw_below_drewN | apply below_drew1) | exact HB.out)⟩⟩
                                  · rw [if_neg c70] at H
                                    exact absurd H (by simp)
                                · rw [if_neg c68] at H
                                  exact absurd H (by simp)
                              · rw [if_neg c67] at H
                                exact absurd H (by simp)
                          · replace c53 := Bool.eq_false_iff.mpr c53
                            subst c53
                            have H1 : (if 0 ≤ x5_1 then (if x5_1 < (a1.size : Int) then (if (bt a1 x5_1) = 92 then ((some (([92, 92] : List Int) : List Int)).bind fun y150 => (if x0_1.length + y150.length < 140737488355328 then (gjson_AppendJSONString.l0 kj46 (x0_1 ++ y150) a1 (wrap64 (x5_1 + 1))) else (none))) else (if (bt a1 x5_1) = 34 then ((some (([92, 34] : List Int) : List Int)).bind fun y156 => (if x0_1.length + y156.length < 140737488355328 then (gjson_AppendJSONString.l0 kj46 (x0_1 ++ y156) a1 (wrap64 (x5_1 + 1))) else (none))) else (if (bt a1 x5_1) > 127 then (if x5_1 ≤ (a1.size : Int) then ((utf8_DecodeRuneInString.f (a1.extract (x5_1 : Int).toNat a1.size)).bind fun bt162 => (if bt162.2 = 0 then (if x0_1.length < 140737488355328 then (some (x0_1 ++ [34])) else (none)) else (if bt162.1 = 65533 then (gjson_AppendJSONString.j2 kj46 x0_1 a1 x5_1 bt162.1 bt162.2 (bt162.2 == 1)) else (gjson_AppendJSONString.j2 kj46 x0_1 a1 x5_1 bt162.1 bt162.2 false)))) else (none)) else (if x0_1.length < 140737488355328 then (gjson_AppendJSONString.l0 kj46 (x0_1 ++ [bt a1 x5_1]) a1 (wrap64 (x5_1 + 1))) else (none))))) else (none)) else (none)) = some r := by rw [if_neg (show ¬ (false = true) by decide)] at H; exact H
                            clear H
                            have H := H1
                            clear H1
                            by_cases c72 : 0 ≤ x5_1
                            · rw [if_pos c72] at H
                              have c72b0 : decide (0 ≤ x5_1) = true := decide_eq_true c72
                              clear c72
                              by_cases c73 : x5_1 < (a1.size : Int)
                              · rw [if_pos c73] at H
                                have c73b0 : decide (x5_1 < (a1.size : Int)) = true := decide_eq_true c73
                                clear c73
                                by_cases c75 : (bt a1 x5_1) = 92
                                · rw [if_pos c75] at H
                                  have c75b0 : ((bt a1 x5_1) == 92) = true := beq_iff_eq.mpr c75
                                  have c75b1 : ((bt a1 x5_1) != 92) = false := bne_eq_false_iff_eq.mpr c75
                                  clear c75
                                  obtain ⟨y150, hy150⟩ : ∃ y_ : List Int, y_ = (([92, 92] : List Int)) := ⟨_, rfl⟩
                                  replace H : (if x0_1.length + y150.length < 140737488355328 then (gjson_AppendJSONString.l0 kj46 (x0_1 ++ y150) a1 (wrap64 (x5_1 + 1))) else (none)) = some r := by first | (rw [hy150]; with_reducible exact H) | (have H2_ := (Option.bind_some _ _).symm.trans H; rw [hy150]; with_reducible exact H2_) | (have H2_ := (Option.bind_some _ _).symm.trans H; with_reducible exact H2_) | with_reducible exact H | (rw [hy150]; exact H) | exact H
                                  have Ny150 := Aside0.mk hy150
                                  clear hy150
                                  by_cases c76 : x0_1.length + y150.length < 140737488355328
                                  · rw [if_pos c76] at H
                                    have LMc76 := Aside0.mk c76
                                    clear c76
                                    obtain ⟨y153, hy153⟩ : ∃ y_ : List Int, y_ = (x0_1 ++ y150) := ⟨_, rfl⟩
                                    replace H : (gjson_AppendJSONString.l0 kj46 y153 a1 (wrap64 (x5_1 + 1))) = some r := by first | (rw [hy153]; with_reducible exact H) | (have H2_ := (Option.bind_some _ _).symm.trans H; rw [hy153]; with_reducible exact H2_) | (have H2_ := (Option.bind_some _ _).symm.trans H; with_reducible exact H2_) | with_reducible exact H | (rw [hy153]; exact H) | exact H
                                    have Ny153 := Aside0.mk hy153
                                    clear hy153
                                    have H' := Aside0.mk H
                                    clear H
                                    have p74 : 0 ≤ (x5_1 : Int) := of_decide_eq_true (by first | (with_reducible assumption) | assumption)
                                    have q74 : x5_1 < (a1.size : Int) := of_decide_eq_true (by first | (with_reducible assumption) | assumption)
                                    have hx74 := bt_at a1 x5_1
                                    replace p74 := eq_true p74
                                    replace q74 := eq_true q74
                                    go_wp2_with (first | ((with_reducible refine gate_dst (N := 110) rfl ?_); refine Kd.R_lit (Kd.int .u8) _ 5 ?hg (N := 110) ?hd (xs := ([92, 92] : List Int)) (inner := [.int .u8 92, .int .u8 92]) (ok := fun _ => True) (okp := fun _ => True) ?hr ?hp (fun _ hk => hk) trivial (Below.refl _ _) (Nat.le_refl _) (by simp) ?_; (case hd => rfl); (case hg => rfl); (case hr => first | (go_simp; done) | (go_simp; rfl)); (case hp => exact (Reps.one (show Kd.M (Kd.int .u8) _ _ _ 92 [.int .u8 92] from rfl) (Reps.one (show Kd.M (Kd.int .u8) _ _ _ 92 [.int .u8 92] from rfl) (Reps.none _ _)))); intro v151 w77 ho78 hb hg_ hnew_; clear hg_ hnew_; (first | rw [← Ny150.out] at ho78 | (simp only [Int.reduceToNat] at ho78; rw [← Ny150.out] at ho78)); have n0_ := Aside0.mk (Kd.R_elder' (by (with_reducible repeat (first | apply Kd.R_alloc | apply Kd.R_drewN | apply Kd.R_drew)); exact HO_0.out) (Kd.R_base ho78) hb); have n1_ := Aside0.mk (Kd.R_lower (Kd.R_new' (Kd.R_newM (M := fun k_ => (P0_ k_ ∨ w.heap.size ≤ k_)) ho78 (by first | exact HK.out.1 | exact (show Kept w _ (fun k_ => P0_ k_) from by repeat (first | (with_reducible first | exact HK.out | apply Kept.alloc | apply Kept.drewN | apply Kept.drew) | exact HK.out)).1) (fun k_ h_ => .inr h_)) (Kd.R_lt (by (with_reducible repeat (first | apply Kd.R_alloc | apply Kd.R_drewN | apply Kd.R_drew)); exact HO_0.out))) (below_size (by repeat (first | (with_reducible first | exact HB.out | apply below_alloc | apply pw_below_drewN | apply below_drew1) | exact HB.out)))); have n2_ := Aside0.mk (Kept.below (S := (fun k_ => P0_ k_)) (by repeat (first | (with_reducible first | exact HK.out | apply Kept.alloc | apply Kept.drewN | apply Kept.drew) | exact HK.out)) hb); have n3_ := Aside0.mk (below_step (by repeat (first | (with_reducible first | exact HB.out | apply below_alloc | apply pw_below_drewN | apply below_drew1) | exact HB.out)) hb); clear HO_0; clear HK; clear HB; have HO_0 := n0_; have HO152 := n1_; have HK := n2_; have HB := n3_; clear n0_ n1_ n2_ n3_; clear hb ho78; obtain ⟨Ao80, co80, eo80⟩ := Kd.R_slice HO152.out; subst eo80) | ((with_reducible refine gate_builtin (b := .append) (xs := #[.tmp 109, .tmp 110]) rfl ?_); at_builtin; refine Kd.R_append_rows (Kd.int .u8) (w0 := w0) w0.heap.size rfl (.tmp 109) (.tmp 110) 37 5 (.int .u8 0) 1 rfl Tryd.underlying37 info5 rfl (by decide) (by omega) u0 x0_1 y150 _ _ _ (fun k_ => (P0_ k_ ∨ w.heap.size ≤ k_) ∧ some k_ ≠ (.slice Ao80 y150.length co80 : Value).ownBlock) (fun _ => False) rfl rfl ?aO ?aR (fun _ _ h => h) (fun _ h => h.elim) ?aF ?aB ?aS ?aL ?_; (case aR => repeat (first | exact (Kd.R_reads' HO152.out).2.2 | (with_reducible refine Kd.C_alloc ?_ _) | (with_reducible refine Kd.C_drewN ?_ _) | (with_reducible refine Kd.C_drew ?_))); (case aB => exact (by repeat (first | (with_reducible first | exact HB.out | apply below_alloc | apply pw_below_drewN | apply below_drew1) | exact HB.out))); (case aF => exact (fun k_ hk => ⟨(.inr (Nat.le_trans (by first | exact HK.out.1 | exact (show Kept w _ (fun k_ => P0_ k_) from by repeat (first | (with_reducible first | exact HK.out | apply Kept.alloc | apply Kept.drewN | apply Kept.drew) | exact HK.out)).1) hk)), Kd.fresh' (Kd.R_lt (by (with_reducible repeat (first | apply Kd.R_alloc | apply Kd.R_drewN | apply Kd.R_drew)); exact HO152.out)) k_ hk⟩)); (case aO => exact (by (with_reducible repeat (first | apply Kd.R_alloc | apply Kd.R_drewN | apply Kd.R_drew)); exact HO_0.out)); (case aS => exact (below_size (by repeat (first | (with_reducible first | exact HB.out | apply below_alloc | apply pw_below_drewN | apply below_drew1) | exact HB.out)))); (case aL => have := LMc76.out; omega); intro v154 w79 ho hb hg hat; rw [← Ny153.out] at ho; have n0_ := Aside0.mk (Kd.R_after (ok := (fun k_ => (P0_ k_ ∨ w.heap.size ≤ k_))) (by (with_reducible repeat (first | apply Kd.R_alloc | apply Kd.R_drewN | apply Kd.R_drew)); exact Kd.R_mono HO152.out (fun _ hk => ⟨hk.1.1, hk.2⟩)) hg hat); have n1_ := Aside0.mk (hb); have n2_ := Aside0.mk (Kept.of_grown (S := (fun k_ => P0_ k_)) hg (by repeat (first | (with_reducible first | exact HK.out | apply Kept.alloc | apply Kept.drewN | apply Kept.drew) | exact HK.out)) (fun k_ e_ => (HO_0.out.1 k_ e_).1)); have n3_ := Aside0.mk (ho); clear HO152; clear HB; clear HK; clear HO_0; have HO152 := n0_; have HB := n1_; have HK := n2_; have HO155 := n3_; clear n0_ n1_ n2_ n3_; clear ho hb hg hat))
                                    go_roundg kj46
                                    case measure => have := HK1.out; have := HJ46.out; omega
                                    case rel => exact ⟨(y153), (wrap64 (x5_1 + 1)), (by first | rfl | (simp; done) | (simp [*]; done)), H', ⟨by have := HK1.out; have := HJ46.out; omega⟩, ⟨by (with_reducible repeat (first | apply Kd.R_alloc | apply Kd.R_drewN | apply Kd.R_drew)); exact Kd.R_mono HO155.out (fun _ hk => hk.1)⟩, ⟨by repeat (first | (with_reducible first | exact HK.out | apply Kept.alloc | apply Kept.drewN | apply Kept.drew) | exact HK.out)⟩, ⟨by repeat (first | (with_reducible first | exact HB.out | apply below_alloc | apply pw_below_drewN | apply below_drew1) | exact HB.out)⟩⟩
                                  · rw [if_neg c76] at H
                                    exact absurd H (by simp)
                                · rw [if_neg c75] at H
                                  have c75b0 : ((bt a1 x5_1) == 92) = false := beq_eq_false_iff_ne.mpr c75
                                  have c75b1 : ((bt a1 x5_1) != 92) = true := bne_iff_ne.mpr c75
                                  by_cases c82 : (bt a1 x5_1) = 34
                                  · rw [if_pos c82] at H
                                    have c82b0 : ((bt a1 x5_1) == 34) = true := beq_iff_eq.mpr c82
                                    have c82b1 : ((bt a1 x5_1) != 34) = false := bne_eq_false_iff_eq.mpr c82
                                    clear c82
                                    obtain ⟨y156, hy156⟩ : ∃ y_ : List Int, y_ = (([92, 34] : List Int)) := ⟨_, rfl⟩
                                    replace H : (if x0_1.length + y156.length < 140737488355328 then (gjson_AppendJSONString.l0 kj46 (x0_1 ++ y156) a1 (wrap64 (x5_1 + 1))) else (none)) = some r := by first | (rw [hy156]; with_reducible exact H) | (have H2_ := (Option.bind_some _ _).symm.trans H; rw [hy156]; with_reducible exact H2_) | (have H2_ := (Option.bind_some _ _).symm.trans H; with_reducible exact H2_) | with_reducible exact H | (rw [hy156]; exact H) | exact H
                                    have Ny156 := Aside0.mk hy156
                                    clear hy156
                                    by_cases c83 : x0_1.length + y156.length < 140737488355328
                                    · rw [if_pos c83] at H
                                      have LMc83 := Aside0.mk c83
                                      clear c83
                                      obtain ⟨y159, hy159⟩ : ∃ y_ : List Int, y_ = (x0_1 ++ y156) := ⟨_, rfl⟩
                                      replace H : (gjson_AppendJSONString.l0 kj46 y159 a1 (wrap64 (x5_1 + 1))) = some r := by first | (rw [hy159]; with_reducible exact H) | (have H2_ := (Option.bind_some _ _).symm.trans H; rw [hy159]; with_reducible exact H2_) | (have H2_ := (Option.bind_some _ _).symm.trans H; with_reducible exact H2_) | with_reducible exact H | (rw [hy159]; exact H) | exact H
                                      have Ny159 := Aside0.mk hy159
                                      clear hy159
                                      have H' := Aside0.mk H
                                      clear H
                                      have p74 : 0 ≤ (x5_1 : Int) := of_decide_eq_true (by first | (with_reducible assumption) | assumption)
                                      have q74 : x5_1 < (a1.size : Int) := of_decide_eq_true (by first | (with_reducible assumption) | assumption)
                                      have hx74 := bt_at a1 x5_1
                                      replace p74 := eq_true p74
                                      replace q74 := eq_true q74
                                      have p81 : 0 ≤ (x5_1 : Int) := of_decide_eq_true (by first | (with_reducible assumption) | assumption)
                                      have q81 : x5_1 < (a1.size : Int) := of_decide_eq_true (by first | (with_reducible assumption) | assumption)
                                      have hx81 := bt_at a1 x5_1
                                      replace p81 := eq_true p81
                                      replace q81 := eq_true q81
                                      go_wp2_with (first | ((with_reducible refine gate_dst (N := 117) rfl ?_); refine Kd.R_lit (Kd.int .u8) _ 5 ?hg (N := 117) ?hd (xs := ([92, 34] : List Int)) (inner := [.int .u8 92, .int .u8 34]) (ok := fun _ => True) (okp := fun _ => True) ?hr ?hp (fun _ hk => hk) trivial (Below.refl _ _) (Nat.le_refl _) (by simp) ?_; (case hd => rfl); (case hg => rfl); (case hr => first | (go_simp; done) | (go_simp; rfl)); (case hp => exact (Reps.one (show Kd.M (Kd.int .u8) _ _ _ 92 [.int .u8 92] from rfl) (Reps.one (show Kd.M (Kd.int .u8) _ _ _ 34 [.int .u8 34] from rfl) (Reps.none _ _)))); intro v157 w84 ho85 hb hg_ hnew_; clear hg_ hnew_; (first | rw [← Ny156.out] at ho85 | (simp only [Int.reduceToNat] at ho85; rw [← Ny156.out] at ho85)); have n0_ := Aside0.mk (Kd.R_elder' (by (with_reducible repeat (first | apply Kd.R_alloc | apply Kd.R_drewN | apply Kd.R_drew)); exact HO_0.out) (Kd.R_base ho85) hb); have n1_ := Aside0.mk (Kd.R_lower (Kd.R_new' (Kd.R_newM (M := fun k_ => (P0_ k_ ∨ w.heap.size ≤ k_)) ho85 (by first | exact HK.out.1 | exact (show Kept w _ (fun k_ => P0_ k_) from by repeat (first | (with_reducible first | exact HK.out | apply Kept.alloc | apply Kept.drewN | apply Kept.drew) | exact HK.out)).1) (fun k_ h_ => .inr h_)) (Kd.R_lt (by (with_reducible repeat (first | apply Kd.R_alloc | apply Kd.R_drewN | apply Kd.R_drew)); exact HO_0.out))) (below_size (by repeat (first | (with_reducible first | exact HB.out | apply below_alloc | apply pw_below_drewN | apply below_drew1) | exact HB.out)))); have n2_ := Aside0.mk (Kept.below (S := (fun k_ => P0_ k_)) (by repeat (first | (with_reducible first | exact HK.out | apply Kept.alloc | apply Kept.drewN | apply Kept.drew) | exact HK.out)) hb); have n3_ := Aside0.mk (below_step (by repeat (first | (with_reducible first | exact HB.out | apply below_alloc | apply pw_below_drewN | apply below_drew1) | exact HB.out)) hb); clear HO_0; clear HK; clear HB; have HO_0 := n0_; have HO158 := n1_; have HK := n2_; have HB := n3_; clear n0_ n1_ n2_ n3_; clear hb ho85; obtain ⟨Ao87, co87, eo87⟩ := Kd.R_slice HO158.out; subst eo87) | ((with_reducible refine gate_builtin (b := .append) (xs := #[.tmp 116, .tmp 117]) rfl ?_); at_builtin; refine Kd.R_append_rows (Kd.int .u8) (w0 := w0) w0.heap.size rfl (.tmp 116) (.tmp 117) 37 5 (.int .u8 0) 1 rfl Tryd.underlying37 info5 rfl (by decide) (by omega) u0 x0_1 y156 _ _ _ (fun k_ => (P0_ k_ ∨ w.heap.size ≤ k_) ∧ some k_ ≠ (.slice Ao87 y156.length co87 : Value).ownBlock) (fun _ => False) rfl rfl ?aO ?aR (fun _ _ h => h) (fun _ h => h.elim) ?aF ?aB ?aS ?aL ?_; (case aR => repeat (first | exact (Kd.R_reads' HO158.out).2.2 | (with_reducible refine Kd.C_alloc ?_ _) | (with_reducible refine Kd.C_drewN ?_ _) | (with_reducible refine Kd.C_drew ?_))); (case aB => exact (by repeat (first | (with_reducible first | exact HB.out | apply below_alloc | apply pw_below_drewN | apply below_drew1) | exact HB.out))); (case aF => exact (fun k_ hk => ⟨(.inr (Nat.le_trans (by first | exact HK.out.1 | exact (show Kept w _ (fun k_ => P0_ k_) from by repeat (first | (with_reducible first | exact HK.out | apply Kept.alloc | apply Kept.drewN | apply Kept.drew) | exact HK.out)).1) hk)), Kd.fresh' (Kd.R_lt (by (with_reducible repeat (first | apply Kd.R_alloc | apply Kd.R_drewN | apply Kd.R_drew)); exact HO158.out)) k_ hk⟩)); (case aO => exact (by (with_reducible repeat (first | apply Kd.R_alloc | apply Kd.R_drewN | apply Kd.R_drew)); exact HO_0.out)); (case aS => exact (below_size (by repeat (first | (with_reducible first | exact HB.out | apply below_alloc | apply pw_below_drewN | apply below_drew1) | exact HB.out)))); (case aL => have := LMc83.out; omega); intro v160 w86 ho hb hg hat; rw [← Ny159.out] at ho; have n0_ := Aside0.mk (Kd.R_after (ok := (fun k_ => (P0_ k_ ∨ w.heap.size ≤ k_))) (by (with_reducible repeat (first | apply Kd.R_alloc | apply Kd.R_drewN | apply Kd.R_drew)); exact Kd.R_mono HO158.out (fun _ hk => ⟨hk.1.1, hk.2⟩)) hg hat); have n1_ := Aside0.mk (hb); have n2_ := Aside0.mk (Kept.of_grown (S := (fun k_ => P0_ k_)) hg (by repeat (first | (with_reducible first | exact HK.out | apply Kept.alloc | apply Kept.drewN | apply Kept.drew) | exact HK.out)) (fun k_ e_ => (HO_0.out.1 k_ e_).1)); have n3_ := Aside0.mk (ho); clear HO158; clear HB; clear HK; clear HO_0; have HO158 := n0_; have HB := n1_; have HK := n2_; have HO161 := n3_; clear n0_ n1_ n2_ n3_; clear ho hb hg hat))
                                      go_roundg kj46
                                      case measure => have := HK1.out; have := HJ46.out; omega
                                      case rel => exact ⟨(y159), (wrap64 (x5_1 + 1)), (by first | rfl | (simp; done) | (simp [*]; done)), H', ⟨by have := HK1.out; have := HJ46.out; omega⟩, ⟨by (with_reducible repeat (first | apply Kd.R_alloc | apply Kd.R_drewN | apply Kd.R_drew)); exact Kd.R_mono HO161.out (fun _ hk => hk.1)⟩, ⟨by repeat (first | (with_reducible first | exact HK.out | apply Kept.alloc | apply Kept.drewN | apply Kept.drew) | exact HK.out)⟩, ⟨by repeat (first | (with_reducible first | exact HB.out | apply below_alloc | apply pw_below_drewN | apply below_drew1) | exact HB.out)⟩⟩
                                    · rw [if_neg c83] at H
                                      exact absurd H (by simp)
                                  · rw [if_neg c82] at H
                                    have c82b0 : ((bt a1 x5_1) == 34) = false := beq_eq_false_iff_ne.mpr c82
                                    have c82b1 : ((bt a1 x5_1) != 34) = true := bne_iff_ne.mpr c82
                                    by_cases c89 : (bt a1 x5_1) > 127
                                    · rw [if_pos c89] at H
                                      have c89b0 : decide (127 < (bt a1 x5_1)) = true := decide_eq_true c89
                                      clear c89
                                      have c90b0 := eq_true (of_decide_eq_true (by first | (with_reducible assumption) | assumption) : 0 ≤ x5_1)
                                      by_cases c91 : x5_1 ≤ (a1.size : Int)
                                      · rw [if_pos c91] at H
                                        have c91b0 := eq_true c91
                                        have c91b1 : decide (x5_1 ≤ (a1.size : Int)) = true := decide_eq_true c91
                                        clear c91
                                        replace H := Option.bind_eq_some_iff.mp H
                                        obtain ⟨⟨t162, t163⟩, A920, H⟩ := H
                                        replace H : (if t163 = 0 then (if x0_1.length < 140737488355328 then (some (x0_1 ++ [34])) else (none)) else (if t162 = 65533 then (gjson_AppendJSONString.j2 kj46 x0_1 a1 x5_1 t162 t163 (t163 == 1)) else (gjson_AppendJSONString.j2 kj46 x0_1 a1 x5_1 t162 t163 false))) = some r := H
                                        have A92 := Aside0.mk A920
                                        clear A920
                                        by_cases c93 : t163 = 0
                                        · rw [if_pos c93] at H
                                          have c93b0 : (t163 == 0) = true := beq_iff_eq.mpr c93
                                          have c93b1 : (t163 != 0) = false := bne_eq_false_iff_eq.mpr c93
                                          clear c93
                                          by_cases c94 : x0_1.length < 140737488355328
                                          · rw [if_pos c94] at H
                                            have LMc94 := Aside0.mk c94
                                            clear c94
                                            obtain ⟨y164, hy164⟩ : ∃ y_ : List Int, y_ = (x0_1 ++ [34]) := ⟨_, rfl⟩
                                            replace H : (some y164) = some r := by first | (rw [hy164]; with_reducible exact H) | (have H2_ := (Option.bind_some _ _).symm.trans H; rw [hy164]; with_reducible exact H2_) | (have H2_ := (Option.bind_some _ _).symm.trans H; with_reducible exact H2_) | with_reducible exact H | (rw [hy164]; exact H) | exact H
                                            have Ny164 := Aside0.mk hy164
                                            clear hy164
                                            obtain rfl := Option.some.inj H
                                            have p74 : 0 ≤ (x5_1 : Int) := of_decide_eq_true (by first | (with_reducible assumption) | assumption)
                                            have q74 : x5_1 < (a1.size : Int) := of_decide_eq_true (by first | (with_reducible assumption) | assumption)
                                            have hx74 := bt_at a1 x5_1
                                            replace p74 := eq_true p74
                                            replace q74 := eq_true q74
                                            have p81 : 0 ≤ (x5_1 : Int) := of_decide_eq_true (by first | (with_reducible assumption) | assumption)
                                            have q81 : x5_1 < (a1.size : Int) := of_decide_eq_true (by first | (with_reducible assumption) | assumption)
                                            have hx81 := bt_at a1 x5_1
                                            replace p81 := eq_true p81
                                            replace q81 := eq_true q81
                                            have p88 : 0 ≤ (x5_1 : Int) := of_decide_eq_true (by first | (with_reducible assumption) | assumption)
                                            have q88 : x5_1 < (a1.size : Int) := of_decide_eq_true (by first | (with_reducible assumption) | assumption)
                                            have hx88 := bt_at a1 x5_1
                                            replace p88 := eq_true p88
                                            replace q88 := eq_true q88
                                            go_wp2_with (first | ((with_reducible refine gate_callee (f := 53) rfl ?_); refine goesL_ (some 127) rfl rfl Tryd.func53 (by kernel_rfl) rfl #[.string (a1.extract (x5_1 : Int).toNat a1.size)] rfl (by (try simp only [List.map_toArray, List.map_cons, List.map_nil]); first | done | rfl | (simp only [List.length_drop, List.length_take]; rfl)) ?_; (with_reducible refine (utf8_DecodeRuneInString.calls (a1.extract (x5_1 : Int).toNat a1.size) t162 t163 _ ?side1 A92.out).mono ?_); (case side1 => first | exact HG.out | exact Laid.below HG.out (by repeat (first | (with_reducible first | exact HB.out | apply below_alloc | apply pw_below_drewN | apply below_drew1) | exact HB.out))); rintro e w95 ⟨rfl, hb⟩; refine ⟨_, rfl, ?_⟩; have n0_ := Aside0.mk (Kd.R_below (by (with_reducible repeat (first | apply Kd.R_alloc | apply Kd.R_drewN | apply Kd.R_drew)); exact HO_0.out) hb); have n1_ := Aside0.mk (Kept.below (S := (fun k_ => P0_ k_)) (by repeat (first | (with_reducible first | exact HK.out | apply Kept.alloc | apply Kept.drewN | apply Kept.drew) | exact HK.out)) hb); have n2_ := Aside0.mk (below_step (by repeat (first | (with_reducible first | exact HB.out | apply below_alloc | apply pw_below_drewN | apply below_drew1) | exact HB.out)) hb); clear HO_0; clear HK; clear HB; have HO_0 := n0_; have HK := n1_; have HB := n2_; clear n0_ n1_ n2_; (try clear hb); (try clear hb2); (try clear hk); (try clear hi)) | ((with_reducible refine gate_builtin (b := .append) (xs := #[.tmp 173, .tmp 174]) rfl ?_); at_builtin; refine Kd.R_append (Kd.int .u8) (w0 := w0) w0.heap.size rfl (.tmp 173) (.tmp 174) 37 5 (.int .u8 0) 1 rfl Tryd.underlying37 info5 rfl (by decide) (by omega) u0 x0_1 34 [.int .u8 34] (fun k_ => (P0_ k_ ∨ w.heap.size ≤ k_)) (fun _ => False) rfl rfl ?aP (fun _ hk => hk.elim) ?aF ?aO ?aB ?aS ?aL ?_; (case aP => exact rfl); (case aB => exact (by repeat (first | (with_reducible first | exact HB.out | apply below_alloc | apply pw_below_drewN | apply below_drew1) | exact HB.out))); (case aF => exact (fun k_ hk => (.inr (Nat.le_trans (by first | exact HK.out.1 | exact (show Kept w _ (fun k_ => P0_ k_) from by repeat (first | (with_reducible first | exact HK.out | apply Kept.alloc | apply Kept.drewN | apply Kept.drew) | exact HK.out)).1) hk)))); (case aO => exact (by (with_reducible repeat (first | apply Kd.R_alloc | apply Kd.R_drewN | apply Kd.R_drew)); exact HO_0.out)); (case aS => exact (below_size (by repeat (first | (with_reducible first | exact HB.out | apply below_alloc | apply pw_below_drewN | apply below_drew1) | exact HB.out)))); (case aL => have := LMc94.out; omega); intro v165 w96 ho hb hg hat; rw [← Ny164.out] at ho; have n0_ := Aside0.mk (hb); have n1_ := Aside0.mk (Kept.of_grown (S := (fun k_ => P0_ k_)) hg (by repeat (first | (with_reducible first | exact HK.out | apply Kept.alloc | apply Kept.drewN | apply Kept.drew) | exact HK.out)) (fun k_ e_ => (HO_0.out.1 k_ e_))); have n2_ := Aside0.mk (ho); clear HB; clear HK; clear HO_0; have HB := n0_; have HK := n1_; have HO166 := n2_; clear n0_ n1_ n2_; clear ho hb hg hat))
                                            go_ret
                                            exact ⟨_, by first | rfl | (simp [errW_none, errW_some] <;> rfl) | (simp only [← hji3, ← hji6]; first | rfl | (simp [errW_none, errW_some] <;> rfl)) | (simp [*, errW_none, errW_some] <;> rfl), by (with_reducible repeat (first | apply Kd.R_alloc | apply Kd.R_drewN | apply Kd.R_drew)); exact HO166.out, by repeat (first | (with_reducible first | exact HB.out | apply below_alloc | apply pw_below_drewN | apply below_drew1) | exact HB.out), by repeat (first | (with_reducible first | exact HK.out | apply Kept.alloc | apply Kept.drewN | apply Kept.drew) | exact HK.out)⟩
                                          · rw [if_neg c94] at H
                                            exact absurd H (by simp)
                                        · rw [if_neg c93] at H
                                          have c93b0 : (t163 == 0) = false := beq_eq_false_iff_ne.mpr c93
                                          have c93b1 : (t163 != 0) = true := bne_iff_ne.mpr c93
                                          have HC97 := Aside0.mk H
                                          clear H
                                          have p74 : 0 ≤ (x5_1 : Int) := of_decide_eq_true (by first | (with_reducible assumption) | assumption)
                                          have q74 : x5_1 < (a1.size : Int) := of_decide_eq_true (by first | (with_reducible assumption) | assumption)
                                          have hx74 := bt_at a1 x5_1
                                          replace p74 := eq_true p74
                                          replace q74 := eq_true q74
                                          have p81 : 0 ≤ (x5_1 : Int) := of_decide_eq_true (by first | (with_reducible assumption) | assumption)
                                          have q81 : x5_1 < (a1.size : Int) := of_decide_eq_true (by first | (with_reducible assumption) | assumption)
                                          have hx81 := bt_at a1 x5_1
                                          replace p81 := eq_true p81
                                          replace q81 := eq_true q81
                                          have p88 : 0 ≤ (x5_1 : Int) := of_decide_eq_true (by first | (with_reducible assumption) | assumption)
                                          have q88 : x5_1 < (a1.size : Int) := of_decide_eq_true (by first | (with_reducible assumption) | assumption)
                                          have hx88 := bt_at a1 x5_1
                                          replace p88 := eq_true p88
                                          replace q88 := eq_true q88
                                          go_upto_region 33 with (first | ((with_reducible refine gate_callee (f := 53) rfl ?_); refine goesL_ (some 127) rfl rfl Tryd.func53 (by kernel_rfl) rfl #[.string (a1.extract (x5_1 : Int).toNat a1.size)] rfl (by (try simp only [List.map_toArray, List.map_cons, List.map_nil]); first | done | rfl | (simp only [List.length_drop, List.length_take]; rfl)) ?_; (with_reducible refine (utf8_DecodeRuneInString.calls (a1.extract (x5_1 : Int).toNat a1.size) t162 t163 _ ?side1 A92.out).mono ?_); (case side1 => first | exact HG.out | exact Laid.below HG.out (by repeat (first | (with_reducible first | exact HB.out | apply below_alloc | apply pw_below_drewN | apply below_drew1) | exact HB.out))); rintro e w98 ⟨rfl, hb⟩; refine ⟨_, rfl, ?_⟩; have n0_ := Aside0.mk (Kd.R_below (by (with_reducible repeat (first | apply Kd.R_alloc | apply Kd.R_drewN | apply Kd.R_drew)); exact HO_0.out) hb); have n1_ := Aside0.mk (Kept.below (S := (fun k_ => P0_ k_)) (by repeat (first | (with_reducible first | exact HK.out | apply Kept.alloc | apply Kept.drewN | apply Kept.drew) | exact HK.out)) hb); have n2_ := Aside0.mk (below_step (by repeat (first | (with_reducible first | exact HB.out | apply below_alloc | apply pw_below_drewN | apply below_drew1) | exact HB.out)) hb); clear HO_0; clear HK; clear HB; have HO_0 := n0_; have HK := n1_; have HB := n2_; clear n0_ n1_ n2_; (try clear hb); (try clear hb2); (try clear hk); (try clear hi)))
                                          (try simp only [Act.put, List.setIfInBounds_toArray, List.set_cons_zero, List.set_cons_succ])
                                          go_cut [137] (fun v137 wc => ∃ (kq : Nat) (x137_96 : Bool), v137 = .bool x137_96 ∧ Aside0 (gjson_AppendJSONString.j2 kq x0_1 a1 x5_1 t162 t163 x137_96 = some r) ∧ Aside0 (kq ≤ kj46) ∧ Aside0 (Kd.R (Kd.int .u8) 5 wc w0.heap.size (fun k_ => (P0_ k_ ∨ w.heap.size ≤ k_)) u0 x0_1) ∧ Aside0 (Kept w wc (fun k_ => P0_ k_)) ∧ Aside0 (Below w0.heap.size w0 wc))
                                          case first => as_aux_lemma =>
                                            have H := HC97.out
                                            clear HC97
                                            by_cases c99 : t162 = 65533
                                            · rw [if_pos c99] at H
                                              have c99b0 : (t162 == 65533) = true := beq_iff_eq.mpr c99
                                              have c99b1 : (t162 != 65533) = false := bne_eq_false_iff_eq.mpr c99
                                              clear c99
                                              (first | rw [c99b0] | (simp only [i64_w, i32_w]; rw [c99b0]) | skip)
                                              have H' := Aside0.mk H
                                              clear H
                                              go_wp2
                                              go_meet
                                              case rel => exact ⟨_, ((t163 == 1)), (by first | rfl | (simp; done) | (simp [*]; done)), H', ⟨by have := HK1.out; have := HJ46.out; first | omega | exact Nat.le_refl _⟩, ⟨by (with_reducible repeat (first | apply Kd.R_alloc | apply Kd.R_drewN | apply Kd.R_drew)); exact HO_0.out⟩, ⟨by repeat (first | (with_reducible first | exact HK.out | apply Kept.alloc | apply Kept.drewN | apply Kept.drew) | exact HK.out)⟩, ⟨by repeat (first | (with_reducible first | exact HB.out | apply below_alloc | apply pw_below_drewN | apply below_drew1) | exact HB.out)⟩⟩
                                            · rw [if_neg c99] at H
                                              have c99b0 : (t162 == 65533) = false := beq_eq_false_iff_ne.mpr c99
                                              have c99b1 : (t162 != 65533) = true := bne_iff_ne.mpr c99
                                              (first | rw [c99b0] | (simp only [i64_w, i32_w]; rw [c99b0]) | skip)
                                              have H' := Aside0.mk H
                                              clear H
                                              go_wp2
                                              go_meet
                                              case rel => exact ⟨_, (false), (by first | rfl | (simp; done) | (simp [*]; done)), H', ⟨by have := HK1.out; have := HJ46.out; first | omega | exact Nat.le_refl _⟩, ⟨by (with_reducible repeat (first | apply Kd.R_alloc | apply Kd.R_drewN | apply Kd.R_drew)); exact HO_0.out⟩, ⟨by repeat (first | (with_reducible first | exact HK.out | apply Kept.alloc | apply Kept.drewN | apply Kept.drew) | exact HK.out)⟩, ⟨by repeat (first | (with_reducible first | exact HB.out | apply below_alloc | apply pw_below_drewN | apply below_drew1) | exact HB.out)⟩⟩
                                          case rest => as_aux_lemma =>
                                            clear HC97
                                            try clear c1
                                            try clear p1
                                            try clear q1
                                            try clear hx1
                                            try clear c2
                                            try clear p2
                                            try clear c3
                                            try clear c4
                                            try clear c4b0
                                            try clear c4b1
                                            try clear p4
                                            try clear q4
                                            try clear hx4
                                            try clear c5
                                            try clear p5
                                            try clear q5
                                            try clear hx5
                                            try clear c6
                                            try clear p6
                                            try clear q6
                                            try clear hx6
                                            try clear c7
                                            try clear c7b0
                                            try clear c7b1
                                            try clear p7
                                            try clear q7
                                            try clear hx7
                                            try clear c8
                                            try clear c8b0
                                            try clear c8b1
                                            try clear p8
                                            try clear q8
                                            try clear hx8
                                            try clear c9
                                            try clear q12
                                            try clear c14
                                            try clear c14b0
                                            try clear c15
                                            try clear c15b0
                                            try clear p16
                                            try clear q16
                                            try clear hx16
                                            try clear c17
                                            try clear c17b0
                                            try clear c18
                                            try clear p19
                                            try clear q19
                                            try clear hx19
                                            try clear c20
                                            try clear c20b0
                                            try clear c20b1
                                            try clear c21
                                            try clear c24
                                            try clear c24b0
                                            try clear c24b1
                                            try clear c25
                                            try clear c28
                                            try clear c28b0
                                            try clear c28b1
                                            try clear c29
                                            try clear c32
                                            try clear c32b0
                                            try clear c32b1
                                            try clear c33
                                            try clear c34
                                            try clear c36
                                            try clear c36b0
                                            try clear c36b1
                                            try clear c37
                                            try clear c40
                                            try clear p41
                                            try clear q41
                                            try clear hx41
                                            try clear p48
                                            try clear q48
                                            try clear hx48
                                            try clear c49
                                            try clear c49b0
                                            try clear c49b1
                                            try clear p50
                                            try clear q50
                                            try clear hx50
                                            try clear c51
                                            try clear c51b0
                                            try clear c51b1
                                            try clear c52
                                            try clear p52
                                            try clear q52
                                            try clear hx52
                                            try clear c53
                                            try clear c55
                                            try clear c56
                                            try clear c57
                                            try clear c57b0
                                            try clear c58
                                            try clear c58b0
                                            try clear p59
                                            try clear q59
                                            try clear hx59
                                            try clear p64
                                            try clear c67
                                            try clear c67b0
                                            try clear c68
                                            try clear c68b0
                                            try clear p69
                                            try clear q69
                                            try clear hx69
                                            try clear c70
                                            try clear c72
                                            try clear c72b0
                                            try clear c73
                                            try clear c73b0
                                            try clear p74
                                            try clear q74
                                            try clear hx74
                                            try clear c75
                                            try clear c75b0
                                            try clear c75b1
                                            try clear c76
                                            try clear p81
                                            try clear q81
                                            try clear hx81
                                            try clear c82
                                            try clear c82b0
                                            try clear c82b1
                                            try clear c83
                                            try clear p88
                                            try clear q88
                                            try clear hx88
                                            try clear c89
                                            try clear c89b0
                                            try clear c90
                                            try clear c90b0
                                            try clear c91
                                            try clear c91b0
                                            try clear c91b1
                                            try clear c93
                                            try clear c93b0
                                            try clear c93b1
                                            try clear c94
                                            try clear c99
                                            try clear c99b0
                                            try clear c99b1
                                            try clear p1
                                            try clear p16
                                            try clear p19
                                            try clear p2
                                            try clear p4
                                            try clear p41
                                            try clear p48
                                            try clear p5
                                            try clear p50
                                            try clear p52
                                            try clear p59
                                            try clear p6
                                            try clear p69
                                            try clear p74
                                            try clear p81
                                            try clear p88
                                            try clear q1
                                            try clear q12
                                            try clear q16
                                            try clear q19
                                            try clear q4
                                            try clear q41
                                            try clear q48
                                            try clear q5
                                            try clear q50
                                            try clear q52
                                            try clear q59
                                            try clear q69
                                            try clear q74
                                            try clear q81
                                            try clear q88
                                            obtain ⟨kq, x137_96, rfl, HA, HJ96, HO_0, HK, HB⟩ := hcut
                                            cases kq with
                                            | zero => exact absurd HA.out (by simp [gjson_AppendJSONString.j2])
                                            | succ kj96 =>
                                              have H := HA.out
                                              clear HA
                                              simp only [gjson_AppendJSONString.j2] at H
                                              by_cases c100 : x137_96 = true
                                              · subst c100
                                                have H1 : (if x0_1.length + 3 < 140737488355328 then (gjson_AppendJSONString.l0 kj96 (x0_1 ++ bytesOf (⟨#[239, 191, 189]⟩ : ByteArray)) a1 (wrap64 ((wrap64 ((wrap64 (x5_1 + t163)) - 1)) + 1))) else (none)) = some r := by rw [if_pos rfl] at H; exact H
                                                clear H
                                                have H := H1
                                                clear H1
                                                by_cases c101 : x0_1.length + 3 < 140737488355328
                                                · rw [if_pos c101] at H
                                                  have LMc101 := Aside0.mk c101
                                                  clear c101
                                                  obtain ⟨y167, hy167⟩ : ∃ y_ : List Int, y_ = (x0_1 ++ bytesOf (⟨#[239, 191, 189]⟩ : ByteArray)) := ⟨_, rfl⟩
                                                  replace H : (gjson_AppendJSONString.l0 kj96 y167 a1 (wrap64 ((wrap64 ((wrap64 (x5_1 + t163)) - 1)) + 1))) = some r := by first | (rw [hy167]; with_reducible exact H) | (have H2_ := (Option.bind_some _ _).symm.trans H; rw [hy167]; with_reducible exact H2_) | (have H2_ := (Option.bind_some _ _).symm.trans H; with_reducible exact H2_) | with_reducible exact H | (rw [hy167]; exact H) | exact H
                                                  have Ny167 := Aside0.mk hy167
                                                  clear hy167
                                                  have H' := Aside0.mk H
                                                  clear H
                                                  go_wp2_with (first | (at_builtin; refine R_append_str (w0 := w0) w0.heap.size rfl (.tmp 138) _ 37 9 5 rfl Tryd.underlying37 Tryd.underlying9 info5 u0 x0_1 (⟨#[239, 191, 189]⟩ : ByteArray) (fun k_ => (P0_ k_ ∨ w.heap.size ≤ k_)) rfl rfl ?aF ?aO ?aB ?aS ?aL ?_; (case aB => exact (by repeat (first | (with_reducible first | exact HB.out | apply below_alloc | apply pw_below_drewN | apply below_drew1) | exact HB.out))); (case aF => exact (fun k_ hk => (.inr (Nat.le_trans (by first | exact HK.out.1 | exact (show Kept w _ (fun k_ => P0_ k_) from by repeat (first | (with_reducible first | exact HK.out | apply Kept.alloc | apply Kept.drewN | apply Kept.drew) | exact HK.out)).1) hk)))); (case aO => exact (by (with_reducible repeat (first | apply Kd.R_alloc | apply Kd.R_drewN | apply Kd.R_drew)); exact HO_0.out)); (case aS => exact (below_size (by repeat (first | (with_reducible first | exact HB.out | apply below_alloc | apply pw_below_drewN | apply below_drew1) | exact HB.out)))); (case aL => have := LMc101.out; first | omega | (exact Nat.le_of_lt (Nat.lt_of_le_of_lt (Nat.le_of_eq rfl) this))); intro v168 w102 ho hb hg hat; rw [← Ny167.out] at ho; change Kd.R (Kd.int .u8) 5 w102 w0.heap.size (fun k_ => (P0_ k_ ∨ w.heap.size ≤ k_)) v168 y167 at ho; have n0_ := Aside0.mk (hb); have n1_ := Aside0.mk (Kept.of_grown (S := (fun k_ => P0_ k_)) hg (by repeat (first | (with_reducible first | exact HK.out | apply Kept.alloc | apply Kept.drewN | apply Kept.drew) | exact HK.out)) (fun k_ e_ => (HO_0.out.1 k_ e_))); have n2_ := Aside0.mk (ho); clear HB; clear HK; clear HO_0; have HB := n0_; have HK := n1_; have HO169 := n2_; clear n0_ n1_ n2_; clear ho hb hg hat))
                                                  go_roundg kj96
                                                  case measure => have := HK1.out; have := HJ46.out; have := HJ96.out; omega
                                                  case rel => exact ⟨(y167), (wrap64 ((wrap64 ((wrap64 (x5_1 + t163)) - 1)) + 1)), (by first | rfl | (simp; done) | (simp [*]; done)), H', ⟨by have := HK1.out; have := HJ46.out; have := HJ96.out; omega⟩, ⟨by (with_reducible repeat (first | apply Kd.R_alloc | apply Kd.R_drewN | apply Kd.R_drew)); exact HO169.out⟩, ⟨by repeat (first | (with_reducible first | exact HK.out | apply Kept.alloc | apply Kept.drewN | apply Kept.drew) | exact HK.out)⟩, ⟨by repeat (first | (with_reducible first | exact HB.out | apply below_alloc | apply pw_below_drewN | apply below_drew1) | exact HB.out)⟩⟩
                                                · rw [if_neg c101] at H
                                                  exact absurd H (by simp)
                                              · replace c100 := Bool.eq_false_iff.mpr c100
                                                subst c100
                                                have H1 : (if t162 = 8232 then (if x0_1.length + 5 < 140737488355328 then ((some (x0_1 ++ bytesOf (⟨#[92, 117, 50, 48, 50]⟩ : ByteArray) : List Int)).bind fun y170 => (if 0 ≤ (Go.bits .and .i32 t162 15) then (if (Go.bits .and .i32 t162 15) < 16 then (if y170.length < 140737488355328 then (gjson_AppendJSONString.l0 kj96 (y170 ++ [bt (⟨#[48, 49, 50, 51, 52, 53, 54, 55, 56, 57, 97, 98, 99, 100, 101, 102]⟩ : ByteArray) (Go.bits .and .i32 t162 15)]) a1 (wrap64 ((wrap64 ((wrap64 (x5_1 + t163)) - 1)) + 1))) else (none)) else (none)) else (none))) else (none)) else (if t162 = 8233 then (if x0_1.length + 5 < 140737488355328 then ((some (x0_1 ++ bytesOf (⟨#[92, 117, 50, 48, 50]⟩ : ByteArray) : List Int)).bind fun y176 => (if 0 ≤ (Go.bits .and .i32 t162 15) then (if (Go.bits .and .i32 t162 15) < 16 then (if y176.length < 140737488355328 then (gjson_AppendJSONString.l0 kj96 (y176 ++ [bt (⟨#[48, 49, 50, 51, 52, 53, 54, 55, 56, 57, 97, 98, 99, 100, 101, 102]⟩ : ByteArray) (Go.bits .and .i32 t162 15)]) a1 (wrap64 ((wrap64 ((wrap64 (x5_1 + t163)) - 1)) + 1))) else (none)) else (none)) else (none))) else (none)) else (if 0 ≤ x5_1 then (if x5_1 ≤ (wrap64 (x5_1 + t163)) then (if (wrap64 (x5_1 + t163)) ≤ (a1.size : Int) then (if x0_1.length + (a1.extract (x5_1 : Int).toNat ((wrap64 (x5_1 + t163)) : Int).toNat).size < 140737488355328 then (gjson_AppendJSONString.l0 kj96 (x0_1 ++ bytesOf (a1.extract (x5_1 : Int).toNat ((wrap64 (x5_1 + t163)) : Int).toNat)) a1 (wrap64 ((wrap64 ((wrap64 (x5_1 + t163)) - 1)) + 1))) else (none)) else (none)) else (none)) else (none)))) = some r := by rw [if_neg (show ¬ (false = true) by decide)] at H; exact H
                                                clear H
                                                have H := H1
                                                clear H1
                                                by_cases c103 : t162 = 8232
                                                · rw [if_pos c103] at H
                                                  have c103b0 : (t162 == 8232) = true := beq_iff_eq.mpr c103
                                                  have c103b1 : (t162 != 8232) = false := bne_eq_false_iff_eq.mpr c103
                                                  clear c103
                                                  by_cases c104 : x0_1.length + 5 < 140737488355328
                                                  · rw [if_pos c104] at H
                                                    have LMc104 := Aside0.mk c104
                                                    clear c104
                                                    obtain ⟨y170, hy170⟩ : ∃ y_ : List Int, y_ = (x0_1 ++ bytesOf (⟨#[92, 117, 50, 48, 50]⟩ : ByteArray)) := ⟨_, rfl⟩
                                                    replace H : (if 0 ≤ (Go.bits .and .i32 t162 15) then (if (Go.bits .and .i32 t162 15) < 16 then (if y170.length < 140737488355328 then (gjson_AppendJSONString.l0 kj96 (y170 ++ [bt (⟨#[48, 49, 50, 51, 52, 53, 54, 55, 56, 57, 97, 98, 99, 100, 101, 102]⟩ : ByteArray) (Go.bits .and .i32 t162 15)]) a1 (wrap64 ((wrap64 ((wrap64 (x5_1 + t163)) - 1)) + 1))) else (none)) else (none)) else (none)) = some r := by first | (rw [hy170]; with_reducible exact H) | (have H2_ := (Option.bind_some _ _).symm.trans H; rw [hy170]; with_reducible exact H2_) | (have H2_ := (Option.bind_some _ _).symm.trans H; with_reducible exact H2_) | with_reducible exact H | (rw [hy170]; exact H) | exact H
                                                    have Ny170 := Aside0.mk hy170
                                                    clear hy170
                                                    by_cases c105 : 0 ≤ (Go.bits .and .i32 t162 15)
                                                    · rw [if_pos c105] at H
                                                      have c105b0 : decide (0 ≤ (Go.bits .and .i32 t162 15)) = true := decide_eq_true c105
                                                      clear c105
                                                      by_cases c106 : (Go.bits .and .i32 t162 15) < 16
                                                      · rw [if_pos c106] at H
                                                        have c106b0 : decide ((Go.bits .and .i32 t162 15) < 16) = true := decide_eq_true c106
                                                        clear c106
                                                        by_cases c108 : y170.length < 140737488355328
                                                        · rw [if_pos c108] at H
                                                          have LMc108 := Aside0.mk c108
                                                          clear c108
                                                          obtain ⟨y173, hy173⟩ : ∃ y_ : List Int, y_ = (y170 ++ [bt (⟨#[48, 49, 50, 51, 52, 53, 54, 55, 56, 57, 97, 98, 99, 100, 101, 102]⟩ : ByteArray) (Go.bits .and .i32 t162 15)]) := ⟨_, rfl⟩
                                                          replace H : (gjson_AppendJSONString.l0 kj96 y173 a1 (wrap64 ((wrap64 ((wrap64 (x5_1 + t163)) - 1)) + 1))) = some r := by first | (rw [hy173]; with_reducible exact H) | (have H2_ := (Option.bind_some _ _).symm.trans H; rw [hy173]; with_reducible exact H2_) | (have H2_ := (Option.bind_some _ _).symm.trans H; with_reducible exact H2_) | with_reducible exact H | (rw [hy173]; exact H) | exact H
                                                          have Ny173 := Aside0.mk hy173
                                                          clear hy173
                                                          have H' := Aside0.mk H
                                                          clear H
                                                          go_wp2_with (first | (at_builtin; refine R_append_str (w0 := w0) w0.heap.size rfl (.tmp 146) _ 37 9 5 rfl Tryd.underlying37 Tryd.underlying9 info5 u0 x0_1 (⟨#[92, 117, 50, 48, 50]⟩ : ByteArray) (fun k_ => (P0_ k_ ∨ w.heap.size ≤ k_)) rfl rfl ?aF ?aO ?aB ?aS ?aL ?_; (case aB => exact (by repeat (first | (with_reducible first | exact HB.out | apply below_alloc | apply pw_below_drewN | apply below_drew1) | exact HB.out))); (case aF => exact (fun k_ hk => (.inr (Nat.le_trans (by first | exact HK.out.1 | exact (show Kept w _ (fun k_ => P0_ k_) from by repeat (first | (with_reducible first | exact HK.out | apply Kept.alloc | apply Kept.drewN | apply Kept.drew) | exact HK.out)).1) hk)))); (case aO => exact (by (with_reducible repeat (first | apply Kd.R_alloc | apply Kd.R_drewN | apply Kd.R_drew)); exact HO_0.out)); (case aS => exact (below_size (by repeat (first | (with_reducible first | exact HB.out | apply below_alloc | apply pw_below_drewN | apply below_drew1) | exact HB.out)))); (case aL => have := LMc104.out; first | omega | (exact Nat.le_of_lt (Nat.lt_of_le_of_lt (Nat.le_of_eq rfl) this))); intro v171 w109 ho hb hg hat; rw [← Ny170.out] at ho; change Kd.R (Kd.int .u8) 5 w109 w0.heap.size (fun k_ => (P0_ k_ ∨ w.heap.size ≤ k_)) v171 y170 at ho; have n0_ := Aside0.mk (hb); have n1_ := Aside0.mk (Kept.of_grown (S := (fun k_ => P0_ k_)) hg (by repeat (first | (with_reducible first | exact HK.out | apply Kept.alloc | apply Kept.drewN | apply Kept.drew) | exact HK.out)) (fun k_ e_ => (HO_0.out.1 k_ e_))); have n2_ := Aside0.mk (ho); clear HB; clear HK; clear HO_0; have HB := n0_; have HK := n1_; have HO172 := n2_; clear n0_ n1_ n2_; clear ho hb hg hat; have p107 : 0 ≤ ((Go.bits .and .i32 t162 15) : Int) := of_decide_eq_true (by first | (with_reducible assumption) | assumption); have q107 : (Go.bits .and .i32 t162 15) < (16 : Int) := of_decide_eq_true (by first | (with_reducible assumption) | assumption); have hx107 := bt_at (⟨#[48, 49, 50, 51, 52, 53, 54, 55, 56, 57, 97, 98, 99, 100, 101, 102]⟩ : ByteArray) (Go.bits .and .i32 t162 15); replace p107 := eq_true p107; replace q107 := eq_true q107; have hg107 : w109.cell? ⟨0, ((Go.bits .and .i32 t162 15)).toNat, none⟩ = some (.int .u8 (bt (⟨#[48, 49, 50, 51, 52, 53, 54, 55, 56, 57, 97, 98, 99, 100, 101, 102]⟩ : ByteArray) (Go.bits .and .i32 t162 15))) := (by exact Laid.hexchars (by first | exact HG.out | exact Laid.below HG.out (by repeat (first | (with_reducible first | exact HB.out | apply below_alloc | apply pw_below_drewN | apply below_drew1) | exact HB.out))) _ (of_eq_true p107) (of_eq_true q107))) | ((with_reducible refine gate_builtin (b := .append) (xs := #[.tmp 148, .tmp 153]) rfl ?_); at_builtin; refine Kd.R_append (Kd.int .u8) (w0 := w0) w0.heap.size rfl (.tmp 148) (.tmp 153) 37 5 (.int .u8 0) 1 rfl Tryd.underlying37 info5 rfl (by decide) (by omega) v171 y170 (bt (⟨#[48, 49, 50, 51, 52, 53, 54, 55, 56, 57, 97, 98, 99, 100, 101, 102]⟩ : ByteArray) (Go.bits .and .i32 t162 15)) [.int .u8 (bt (⟨#[48, 49, 50, 51, 52, 53, 54, 55, 56, 57, 97, 98, 99, 100, 101, 102]⟩ : ByteArray) (Go.bits .and .i32 t162 15))] (fun k_ => (P0_ k_ ∨ w.heap.size ≤ k_)) (fun _ => False) rfl rfl ?aP (fun _ hk => hk.elim) ?aF ?aO ?aB ?aS ?aL ?_; (case aP => exact rfl); (case aB => exact (by repeat (first | (with_reducible first | exact HB.out | apply below_alloc | apply pw_below_drewN | apply below_drew1) | exact HB.out))); (case aF => exact (fun k_ hk => (.inr (Nat.le_trans (by first | exact HK.out.1 | exact (show Kept w _ (fun k_ => P0_ k_) from by repeat (first | (with_reducible first | exact HK.out | apply Kept.alloc | apply Kept.drewN | apply Kept.drew) | exact HK.out)).1) hk)))); (case aO => exact (by (with_reducible repeat (first | apply Kd.R_alloc | apply Kd.R_drewN | apply Kd.R_drew)); exact HO172.out)); (case aS => exact (below_size (by repeat (first | (with_reducible first | exact HB.out | apply below_alloc | apply pw_below_drewN | apply below_drew1) | exact HB.out)))); (case aL => have := LMc108.out; omega); intro v174 w110 ho hb hg hat; rw [← Ny173.out] at ho; have n0_ := Aside0.mk (hb); have n1_ := Aside0.mk (Kept.of_grown (S := (fun k_ => P0_ k_)) hg (by repeat (first | (with_reducible first | exact HK.out | apply Kept.alloc | apply Kept.drewN | apply Kept.drew) | exact HK.out)) (fun k_ e_ => (HO172.out.1 k_ e_))); have n2_ := Aside0.mk (ho); clear HB; clear HK; clear HO172; have HB := n0_; have HK := n1_; have HO175 := n2_; clear n0_ n1_ n2_; clear ho hb hg hat))
                                                          go_roundg kj96
                                                          case measure => have := HK1.out; have := HJ46.out; have := HJ96.out; omega
                                                          case rel => exact ⟨(y173), (wrap64 ((wrap64 ((wrap64 (x5_1 + t163)) - 1)) + 1)), (by first | rfl | (simp; done) | (simp [*]; done)), H', ⟨by have := HK1.out; have := HJ46.out; have := HJ96.out; omega⟩, ⟨by (with_reducible repeat (first | apply Kd.R_alloc | apply Kd.R_drewN | apply Kd.R_drew)); exact HO175.out⟩, ⟨by repeat (first | (with_reducible first | exact HK.out | apply Kept.alloc | apply Kept.drewN | apply Kept.drew) | exact HK.out)⟩, ⟨by repeat (first | (with_reducible first | exact HB.out | apply below_alloc | apply pw_below_drewN | apply below_drew1) | exact HB.out)⟩⟩
                                                        · rw [if_neg c108] at H
                                                          exact absurd H (by simp)
                                                      · rw [if_neg c106] at H
                                                        exact absurd H (by simp)
                                                    · rw [if_neg c105] at H
                                                      exact absurd H (by simp)
                                                  · rw [if_neg c104] at H
                                                    exact absurd H (by simp)
                                                · rw [if_neg c103] at H
                                                  have c103b0 : (t162 == 8232) = false := beq_eq_false_iff_ne.mpr c103
                                                  have c103b1 : (t162 != 8232) = true := bne_iff_ne.mpr c103
                                                  by_cases c111 : t162 = 8233
                                                  · rw [if_pos c111] at H
                                                    have c111b0 : (t162 == 8233) = true := beq_iff_eq.mpr c111
                                                    have c111b1 : (t162 != 8233) = false := bne_eq_false_iff_eq.mpr c111
                                                    clear c111
                                                    by_cases c112 : x0_1.length + 5 < 140737488355328
                                                    · rw [if_pos c112] at H
                                                      have LMc112 := Aside0.mk c112
                                                      clear c112
                                                      obtain ⟨y176, hy176⟩ : ∃ y_ : List Int, y_ = (x0_1 ++ bytesOf (⟨#[92, 117, 50, 48, 50]⟩ : ByteArray)) := ⟨_, rfl⟩
                                                      replace H : (if 0 ≤ (Go.bits .and .i32 t162 15) then (if (Go.bits .and .i32 t162 15) < 16 then (if y176.length < 140737488355328 then (gjson_AppendJSONString.l0 kj96 (y176 ++ [bt (⟨#[48, 49, 50, 51, 52, 53, 54, 55, 56, 57, 97, 98, 99, 100, 101, 102]⟩ : ByteArray) (Go.bits .and .i32 t162 15)]) a1 (wrap64 ((wrap64 ((wrap64 (x5_1 + t163)) - 1)) + 1))) else (none)) else (none)) else (none)) = some r := by first | (rw [hy176]; with_reducible exact H) | (have H2_ := (Option.bind_some _ _).symm.trans H; rw [hy176]; with_reducible exact H2_) | (have H2_ := (Option.bind_some _ _).symm.trans H; with_reducible exact H2_) | with_reducible exact H | (rw [hy176]; exact H) | exact H
                                                      have Ny176 := Aside0.mk hy176
                                                      clear hy176
                                                      by_cases c113 : 0 ≤ (Go.bits .and .i32 t162 15)
                                                      · rw [if_pos c113] at H
                                                        have c113b0 : decide (0 ≤ (Go.bits .and .i32 t162 15)) = true := decide_eq_true c113
                                                        clear c113
                                                        by_cases c114 : (Go.bits .and .i32 t162 15) < 16
                                                        · rw [if_pos c114] at H
                                                          have c114b0 : decide ((Go.bits .and .i32 t162 15) < 16) = true := decide_eq_true c114
                                                          clear c114
                                                          by_cases c116 : y176.length < 140737488355328
                                                          · rw [if_pos c116] at H
                                                            have LMc116 := Aside0.mk c116
                                                            clear c116
                                                            obtain ⟨y179, hy179⟩ : ∃ y_ : List Int, y_ = (y176 ++ [bt (⟨#[48, 49, 50, 51, 52, 53, 54, 55, 56, 57, 97, 98, 99, 100, 101, 102]⟩ : ByteArray) (Go.bits .and .i32 t162 15)]) := ⟨_, rfl⟩
                                                            replace H : (gjson_AppendJSONString.l0 kj96 y179 a1 (wrap64 ((wrap64 ((wrap64 (x5_1 + t163)) - 1)) + 1))) = some r := by first | (rw [hy179]; with_reducible exact H) | (have H2_ := (Option.bind_some _ _).symm.trans H; rw [hy179]; with_reducible exact H2_) | (have H2_ := (Option.bind_some _ _).symm.trans H; with_reducible exact H2_) | with_reducible exact H | (rw [hy179]; exact H) | exact H
                                                            have Ny179 := Aside0.mk hy179
                                                            clear hy179
                                                            have H' := Aside0.mk H
                                                            clear H
                                                            go_wp2_with (first | (at_builtin; refine R_append_str (w0 := w0) w0.heap.size rfl (.tmp 146) _ 37 9 5 rfl Tryd.underlying37 Tryd.underlying9 info5 u0 x0_1 (⟨#[92, 117, 50, 48, 50]⟩ : ByteArray) (fun k_ => (P0_ k_ ∨ w.heap.size ≤ k_)) rfl rfl ?aF ?aO ?aB ?aS ?aL ?_; (case aB => exact (by repeat (first | (with_reducible first | exact HB.out | apply below_alloc | apply pw_below_drewN | apply below_drew1) | exact HB.out))); (case aF => exact (fun k_ hk => (.inr (Nat.le_trans (by first | exact HK.out.1 | exact (show Kept w _ (fun k_ => P0_ k_) from by repeat (first | (with_reducible first | exact HK.out | apply Kept.alloc | apply Kept.drewN | apply Kept.drew) | exact HK.out)).1) hk)))); (case aO => exact (by (with_reducible repeat (first | apply Kd.R_alloc | apply Kd.R_drewN | apply Kd.R_drew)); exact HO_0.out)); (case aS => exact (below_size (by repeat (first | (with_reducible first | exact HB.out | apply below_alloc | apply pw_below_drewN | apply below_drew1) | exact HB.out)))); (case aL => have := LMc112.out; first | omega | (exact Nat.le_of_lt (Nat.lt_of_le_of_lt (Nat.le_of_eq rfl) this))); intro v177 w117 ho hb hg hat; rw [← Ny176.out] at ho; change Kd.R (Kd.int .u8) 5 w117 w0.heap.size (fun k_ => (P0_ k_ ∨ w.heap.size ≤ k_)) v177 y176 at ho; have n0_ := Aside0.mk (hb); have n1_ := Aside0.mk (Kept.of_grown (S := (fun k_ => P0_ k_)) hg (by repeat (first | (with_reducible first | exact HK.out | apply Kept.alloc | apply Kept.drewN | apply Kept.drew) | exact HK.out)) (fun k_ e_ => (HO_0.out.1 k_ e_))); have n2_ := Aside0.mk (ho); clear HB; clear HK; clear HO_0; have HB := n0_; have HK := n1_; have HO178 := n2_; clear n0_ n1_ n2_; clear ho hb hg hat; have p115 : 0 ≤ ((Go.bits .and .i32 t162 15) : Int) := of_decide_eq_true (by first | (with_reducible assumption) | assumption); have q115 : (Go.bits .and .i32 t162 15) < (16 : Int) := of_decide_eq_true (by first | (with_reducible assumption) | assumption); have hx115 := bt_at (⟨#[48, 49, 50, 51, 52, 53, 54, 55, 56, 57, 97, 98, 99, 100, 101, 102]⟩ : ByteArray) (Go.bits .and .i32 t162 15); replace p115 := eq_true p115; replace q115 := eq_true q115; have hg115 : w117.cell? ⟨0, ((Go.bits .and .i32 t162 15)).toNat, none⟩ = some (.int .u8 (bt (⟨#[48, 49, 50, 51, 52, 53, 54, 55, 56, 57, 97, 98, 99, 100, 101, 102]⟩ : ByteArray) (Go.bits .and .i32 t162 15))) := (by exact Laid.hexchars (by first | exact HG.out | exact Laid.below HG.out (by repeat (first | (with_reducible first | exact HB.out | apply below_alloc | apply pw_below_drewN | apply below_drew1) | exact HB.out))) _ (of_eq_true p115) (of_eq_true q115))) | ((with_reducible refine gate_builtin (b := .append) (xs := #[.tmp 148, .tmp 153]) rfl ?_); at_builtin; refine Kd.R_append (Kd.int .u8) (w0 := w0) w0.heap.size rfl (.tmp 148) (.tmp 153) 37 5 (.int .u8 0) 1 rfl Tryd.underlying37 info5 rfl (by decide) (by omega) v177 y176 (bt (⟨#[48, 49, 50, 51, 52, 53, 54, 55, 56, 57, 97, 98, 99, 100, 101, 102]⟩ : ByteArray) (Go.bits .and .i32 t162 15)) [.int .u8 (bt (⟨#[48, 49, 50, 51, 52, 53, 54, 55, 56, 57, 97, 98, 99, 100, 101, 102]⟩ : ByteArray) (Go.bits .and .i32 t162 15))] (fun k_ => (P0_ k_ ∨ w.heap.size ≤ k_)) (fun _ => False) rfl rfl ?aP (fun _ hk => hk.elim) ?aF ?aO ?aB ?aS ?aL ?_; (case aP => exact rfl); (case aB => exact (by repeat (first | (with_reducible first | exact HB.out | apply below_alloc | apply pw_below_drewN | apply below_drew1) | exact HB.out))); (case aF => exact (fun k_ hk => (.inr (Nat.le_trans (by first | exact HK.out.1 | exact (show Kept w _ (fun k_ => P0_ k_) from by repeat (first | (with_reducible first | exact HK.out | apply Kept.alloc | apply Kept.drewN | apply Kept.drew) | exact HK.out)).1) hk)))); (case aO => exact (by (with_reducible repeat (first | apply Kd.R_alloc | apply Kd.R_drewN | apply Kd.R_drew)); exact HO178.out)); (case aS => exact (below_size (by repeat (first | (with_reducible first | exact HB.out | apply below_alloc | apply pw_below_drewN | apply below_drew1) | exact HB.out)))); (case aL => have := LMc116.out; omega); intro v180 w118 ho hb hg hat; rw [← Ny179.out] at ho; have n0_ := Aside0.mk (hb); have n1_ := Aside0.mk (Kept.of_grown (S := (fun k_ => P0_ k_)) hg (by repeat (first | (with_reducible first | exact HK.out | apply Kept.alloc | apply Kept.drewN | apply Kept.drew) | exact HK.out)) (fun k_ e_ => (HO178.out.1 k_ e_))); have n2_ := Aside0.mk (ho); clear HB; clear HK; clear HO178; have HB := n0_; have HK := n1_; have HO181 := n2_; clear n0_ n1_ n2_; clear ho hb hg hat))
                                                            go_roundg kj96
                                                            case measure => have := HK1.out; have := HJ46.out; have := HJ96.out; omega
                                                            case rel => exact ⟨(y179), (wrap64 ((wrap64 ((wrap64 (x5_1 + t163)) - 1)) + 1)), (by first | rfl | (simp; done) | (simp [*]; done)), H', ⟨by have := HK1.out; have := HJ46.out; have := HJ96.out; omega⟩, ⟨by (with_reducible repeat (first | apply Kd.R_alloc | apply Kd.R_drewN | apply Kd.R_drew)); exact HO181.out⟩, ⟨by repeat (first | (with_reducible first | exact HK.out | apply Kept.alloc | apply Kept.drewN | apply Kept.drew) | exact HK.out)⟩, ⟨by repeat (first | (with_reducible first | exact HB.out | apply below_alloc | apply pw_below_drewN | apply below_drew1) | exact HB.out)⟩⟩
                                                          · rw [if_neg c116] at H
                                                            exact absurd H (by simp)
                                                        · rw [if_neg c114] at H
                                                          exact absurd H (by simp)
                                                      · rw [if_neg c113] at H
                                                        exact absurd H (by simp)
                                                    · rw [if_neg c112] at H
                                                      exact absurd H (by simp)
                                                  · rw [if_neg c111] at H
                                                    have c111b0 : (t162 == 8233) = false := beq_eq_false_iff_ne.mpr c111
                                                    have c111b1 : (t162 != 8233) = true := bne_iff_ne.mpr c111
                                                    by_cases c119 : 0 ≤ x5_1
                                                    · rw [if_pos c119] at H
                                                      have c119b0 := eq_true c119
                                                      have c119b1 : decide (0 ≤ x5_1) = true := decide_eq_true c119
                                                      clear c119
                                                      by_cases c120 : x5_1 ≤ (wrap64 (x5_1 + t163))
                                                      · rw [if_pos c120] at H
                                                        have c120b0 := eq_true c120
                                                        have c120b1 : decide (x5_1 ≤ (wrap64 (x5_1 + t163))) = true := decide_eq_true c120
                                                        by_cases c121 : (wrap64 (x5_1 + t163)) ≤ (a1.size : Int)
                                                        · rw [if_pos c121] at H
                                                          have c121b0 := eq_true c121
                                                          have c121b1 : decide ((wrap64 (x5_1 + t163)) ≤ (a1.size : Int)) = true := decide_eq_true c121
                                                          by_cases c122 : x0_1.length + (a1.extract (x5_1 : Int).toNat ((wrap64 (x5_1 + t163)) : Int).toNat).size < 140737488355328
                                                          · rw [if_pos c122] at H
                                                            have LMc122 := Aside0.mk c122
                                                            clear c122
                                                            obtain ⟨y182, hy182⟩ : ∃ y_ : List Int, y_ = (x0_1 ++ bytesOf (a1.extract (x5_1 : Int).toNat ((wrap64 (x5_1 + t163)) : Int).toNat)) := ⟨_, rfl⟩
                                                            replace H : (gjson_AppendJSONString.l0 kj96 y182 a1 (wrap64 ((wrap64 ((wrap64 (x5_1 + t163)) - 1)) + 1))) = some r := by first | (rw [hy182]; with_reducible exact H) | (have H2_ := (Option.bind_some _ _).symm.trans H; rw [hy182]; with_reducible exact H2_) | (have H2_ := (Option.bind_some _ _).symm.trans H; with_reducible exact H2_) | with_reducible exact H | (rw [hy182]; exact H) | exact H
                                                            have Ny182 := Aside0.mk hy182
                                                            clear hy182
                                                            have H' := Aside0.mk H
                                                            clear H
                                                            go_wp2_with (first | (at_builtin; refine R_append_str (w0 := w0) w0.heap.size rfl (.tmp 155) _ 37 9 5 rfl Tryd.underlying37 Tryd.underlying9 info5 u0 x0_1 (a1.extract (x5_1 : Int).toNat ((wrap64 (x5_1 + t163)) : Int).toNat) (fun k_ => (P0_ k_ ∨ w.heap.size ≤ k_)) rfl rfl ?aF ?aO ?aB ?aS ?aL ?_; (case aB => exact (by repeat (first | (with_reducible first | exact HB.out | apply below_alloc | apply pw_below_drewN | apply below_drew1) | exact HB.out))); (case aF => exact (fun k_ hk => (.inr (Nat.le_trans (by first | exact HK.out.1 | exact (show Kept w _ (fun k_ => P0_ k_) from by repeat (first | (with_reducible first | exact HK.out | apply Kept.alloc | apply Kept.drewN | apply Kept.drew) | exact HK.out)).1) hk)))); (case aO => exact (by (with_reducible repeat (first | apply Kd.R_alloc | apply Kd.R_drewN | apply Kd.R_drew)); exact HO_0.out)); (case aS => exact (below_size (by repeat (first | (with_reducible first | exact HB.out | apply below_alloc | apply pw_below_drewN | apply below_drew1) | exact HB.out)))); (case aL => have := LMc122.out; first | omega | (exact Nat.le_of_lt (Nat.lt_of_le_of_lt (Nat.le_of_eq rfl) this))); intro v183 w123 ho hb hg hat; rw [← Ny182.out] at ho; change Kd.R (Kd.int .u8) 5 w123 w0.heap.size (fun k_ => (P0_ k_ ∨ w.heap.size ≤ k_)) v183 y182 at ho; have n0_ := Aside0.mk (hb); have n1_ := Aside0.mk (Kept.of_grown (S := (fun k_ => P0_ k_)) hg (by repeat (first | (with_reducible first | exact HK.out | apply Kept.alloc | apply Kept.drewN | apply Kept.drew) | exact HK.out)) (fun k_ e_ => (HO_0.out.1 k_ e_))); have n2_ := Aside0.mk (ho); clear HB; clear HK; clear HO_0; have HB := n0_; have HK := n1_; have HO184 := n2_; clear n0_ n1_ n2_; clear ho hb hg hat))
                                                            go_roundg kj96
                                                            case measure => have := HK1.out; have := HJ46.out; have := HJ96.out; omega
                                                            case rel => exact ⟨(y182), (wrap64 ((wrap64 ((wrap64 (x5_1 + t163)) - 1)) + 1)), (by first | rfl | (simp; done) | (simp [*]; done)), H', ⟨by have := HK1.out; have := HJ46.out; have := HJ96.out; omega⟩, ⟨by (with_reducible repeat (first | apply Kd.R_alloc | apply Kd.R_drewN | apply Kd.R_drew)); exact HO184.out⟩, ⟨by repeat (first | (with_reducible first | exact HK.out | apply Kept.alloc | apply Kept.drewN | apply Kept.drew) | exact HK.out)⟩, ⟨by repeat (first | (with_reducible first | exact HB.out | apply below_alloc | apply pw_below_drewN | apply below_drew1) | exact HB.out)⟩⟩
                                                          · rw [if_neg c122] at H
                                                            exact absurd H (by simp)
                                                        · rw [if_neg c121] at H
                                                          exact absurd H (by simp)
                                                      · rw [if_neg c120] at H
                                                        exact absurd H (by simp)
                                                    · rw [if_neg c119] at H
                                                      exact absurd H (by simp)
                                      · rw [if_neg c91] at H
                                        exact absurd H (by simp)
                                    · rw [if_neg c89] at H
                                      have c89b0 : decide (127 < (bt a1 x5_1)) = false := decide_eq_false c89
                                      clear c89
                                      by_cases c125 : x0_1.length < 140737488355328
                                      · rw [if_pos c125] at H
                                        have LMc125 := Aside0.mk c125
                                        clear c125
                                        obtain ⟨y185, hy185⟩ : ∃ y_ : List Int, y_ = (x0_1 ++ [bt a1 x5_1]) := ⟨_, rfl⟩
                                        replace H : (gjson_AppendJSONString.l0 kj46 y185 a1 (wrap64 (x5_1 + 1))) = some r := by first | (rw [hy185]; with_reducible exact H) | (have H2_ := (Option.bind_some _ _).symm.trans H; rw [hy185]; with_reducible exact H2_) | (have H2_ := (Option.bind_some _ _).symm.trans H; with_reducible exact H2_) | with_reducible exact H | (rw [hy185]; exact H) | exact H
                                        have Ny185 := Aside0.mk hy185
                                        clear hy185
                                        have H' := Aside0.mk H
                                        clear H
                                        have p74 : 0 ≤ (x5_1 : Int) := of_decide_eq_true (by first | (with_reducible assumption) | assumption)
                                        have q74 : x5_1 < (a1.size : Int) := of_decide_eq_true (by first | (with_reducible assumption) | assumption)
                                        have hx74 := bt_at a1 x5_1
                                        replace p74 := eq_true p74
                                        replace q74 := eq_true q74
                                        have p81 : 0 ≤ (x5_1 : Int) := of_decide_eq_true (by first | (with_reducible assumption) | assumption)
                                        have q81 : x5_1 < (a1.size : Int) := of_decide_eq_true (by first | (with_reducible assumption) | assumption)
                                        have hx81 := bt_at a1 x5_1
                                        replace p81 := eq_true p81
                                        replace q81 := eq_true q81
                                        have p88 : 0 ≤ (x5_1 : Int) := of_decide_eq_true (by first | (with_reducible assumption) | assumption)
                                        have q88 : x5_1 < (a1.size : Int) := of_decide_eq_true (by first | (with_reducible assumption) | assumption)
                                        have hx88 := bt_at a1 x5_1
                                        replace p88 := eq_true p88
                                        replace q88 := eq_true q88
                                        have p124 : 0 ≤ (x5_1 : Int) := of_decide_eq_true (by first | (with_reducible assumption) | assumption)
                                        have q124 : x5_1 < (a1.size : Int) := of_decide_eq_true (by first | (with_reducible assumption) | assumption)
                                        have hx124 := bt_at a1 x5_1
                                        replace p124 := eq_true p124
                                        replace q124 := eq_true q124
                                        go_wp2_with (first | ((with_reducible refine gate_builtin (b := .append) (xs := #[.tmp 167, .tmp 171]) rfl ?_); at_builtin; refine Kd.R_append (Kd.int .u8) (w0 := w0) w0.heap.size rfl (.tmp 167) (.tmp 171) 37 5 (.int .u8 0) 1 rfl Tryd.underlying37 info5 rfl (by decide) (by omega) u0 x0_1 (bt a1 x5_1) [.int .u8 (bt a1 x5_1)] (fun k_ => (P0_ k_ ∨ w.heap.size ≤ k_)) (fun _ => False) rfl rfl ?aP (fun _ hk => hk.elim) ?aF ?aO ?aB ?aS ?aL ?_; (case aP => exact rfl); (case aB => exact (by repeat (first | (with_reducible first | exact HB.out | apply below_alloc | apply pw_below_drewN | apply below_drew1) | exact HB.out))); (case aF => exact (fun k_ hk => (.inr (Nat.le_trans (by first | exact HK.out.1 | exact (show Kept w _ (fun k_ => P0_ k_) from by repeat (first | (with_reducible first | exact HK.out | apply Kept.alloc | apply Kept.drewN | apply Kept.drew) | exact HK.out)).1) hk)))); (case aO => exact (by (with_reducible repeat (first | apply Kd.R_alloc | apply Kd.R_drewN | apply Kd.R_drew)); exact HO_0.out)); (case aS => exact (below_size (by repeat (first | (with_reducible first | exact HB.out | apply below_alloc | apply pw_below_drewN | apply below_drew1) | exact HB.out)))); (case aL => have := LMc125.out; omega); intro v186 w126 ho hb hg hat; rw [← Ny185.out] at ho; have n0_ := Aside0.mk (hb); have n1_ := Aside0.mk (Kept.of_grown (S := (fun k_ => P0_ k_)) hg (by repeat (first | (with_reducible first | exact HK.out | apply Kept.alloc | apply Kept.drewN | apply Kept.drew) | exact HK.out)) (fun k_ e_ => (HO_0.out.1 k_ e_))); have n2_ := Aside0.mk (ho); clear HB; clear HK; clear HO_0; have HB := n0_; have HK := n1_; have HO187 := n2_; clear n0_ n1_ n2_; clear ho hb hg hat))
                                        go_roundg kj46
                                        case measure => have := HK1.out; have := HJ46.out; omega
                                        case rel => exact ⟨(y185), (wrap64 (x5_1 + 1)), (by first | rfl | (simp; done) | (simp [*]; done)), H', ⟨by have := HK1.out; have := HJ46.out; omega⟩, ⟨by (with_reducible repeat (first | apply Kd.R_alloc | apply Kd.R_drewN | apply Kd.R_drew)); exact HO187.out⟩, ⟨by repeat (first | (with_reducible first | exact HK.out | apply Kept.alloc | apply Kept.drewN | apply Kept.drew) | exact HK.out)⟩, ⟨by repeat (first | (with_reducible first | exact HB.out | apply below_alloc | apply pw_below_drewN | apply below_drew1) | exact HB.out)⟩⟩
                                      · rw [if_neg c125] at H
                                        exact absurd H (by simp)
                              · rw [if_neg c73] at H
                                exact absurd H (by simp)
                            · rw [if_neg c72] at H
                              exact absurd H (by simp)
                  · rw [if_neg c15] at H
                    exact absurd H (by simp)
                · rw [if_neg c14] at H
                  have c14b0 : decide (x5_1 < (a1.size : Int)) = false := decide_eq_false c14
                  clear c14
                  by_cases c127 : x0_1.length < 140737488355328
                  · rw [if_pos c127] at H
                    have LMc127 := Aside0.mk c127
                    clear c127
                    obtain ⟨y110, hy110⟩ : ∃ y_ : List Int, y_ = (x0_1 ++ [34]) := ⟨_, rfl⟩
                    replace H : (some y110) = some r := by first | (rw [hy110]; with_reducible exact H) | (have H2_ := (Option.bind_some _ _).symm.trans H; rw [hy110]; with_reducible exact H2_) | (have H2_ := (Option.bind_some _ _).symm.trans H; with_reducible exact H2_) | with_reducible exact H | (rw [hy110]; exact H) | exact H
                    have Ny110 := Aside0.mk hy110
                    clear hy110
                    obtain rfl := Option.some.inj H
                    go_wp2_with (first | ((with_reducible refine gate_builtin (b := .append) (xs := #[.tmp 173, .tmp 174]) rfl ?_); at_builtin; refine Kd.R_append (Kd.int .u8) (w0 := w0) w0.heap.size rfl (.tmp 173) (.tmp 174) 37 5 (.int .u8 0) 1 rfl Tryd.underlying37 info5 rfl (by decide) (by omega) u0 x0_1 34 [.int .u8 34] (fun k_ => (P0_ k_ ∨ w.heap.size ≤ k_)) (fun _ => False) rfl rfl ?aP (fun _ hk => hk.elim) ?aF ?aO ?aB ?aS ?aL ?_; (case aP => exact rfl); (case aB => exact (by repeat (first | (with_reducible first | exact HB.out | apply below_alloc | apply pw_below_drewN | apply below_drew1) | exact HB.out))); (case aF => exact (fun k_ hk => (.inr (Nat.le_trans (by first | exact HK.out.1 | exact (show Kept w _ (fun k_ => P0_ k_) from by repeat (first | (with_reducible first | exact HK.out | apply Kept.alloc | apply Kept.drewN | apply Kept.drew) | exact HK.out)).1) hk)))); (case aO => exact (by (with_reducible repeat (first | apply Kd.R_alloc | apply Kd.R_drewN | apply Kd.R_drew)); exact HO_0.out)); (case aS => exact (below_size (by repeat (first | (with_reducible first | exact HB.out | apply below_alloc | apply pw_below_drewN | apply below_drew1) | exact HB.out)))); (case aL => have := LMc127.out; omega); intro v111 w128 ho hb hg hat; rw [← Ny110.out] at ho; have n0_ := Aside0.mk (hb); have n1_ := Aside0.mk (Kept.of_grown (S := (fun k_ => P0_ k_)) hg (by repeat (first | (with_reducible first | exact HK.out | apply Kept.alloc | apply Kept.drewN | apply Kept.drew) | exact HK.out)) (fun k_ e_ => (HO_0.out.1 k_ e_))); have n2_ := Aside0.mk (ho); clear HB; clear HK; clear HO_0; have HB := n0_; have HK := n1_; have HO112 := n2_; clear n0_ n1_ n2_; clear ho hb hg hat))
                    go_ret
                    exact ⟨_, by first | rfl | (simp [errW_none, errW_some] <;> rfl) | (simp only [← hji3, ← hji6]; first | rfl | (simp [errW_none, errW_some] <;> rfl)) | (simp [*, errW_none, errW_some] <;> rfl), by (with_reducible repeat (first | apply Kd.R_alloc | apply Kd.R_drewN | apply Kd.R_drew)); exact HO112.out, by repeat (first | (with_reducible first | exact HB.out | apply below_alloc | apply pw_below_drewN | apply below_drew1) | exact HB.out), by repeat (first | (with_reducible first | exact HK.out | apply Kept.alloc | apply Kept.drewN | apply Kept.drew) | exact HK.out)⟩
                  · rw [if_neg c127] at H
                    exact absurd H (by simp)
          · rw [if_neg c9] at H
            exact absurd H (by simp)
        · rw [if_neg c8] at H
          exact absurd H (by simp)
      · rw [if_neg c7] at H
        exact absurd H (by simp)
    · rw [if_neg c5] at H
      exact absurd H (by simp)
  · rw [if_neg c4] at H
    exact absurd H (by simp)

end Go.Proofs.YtegbajfmhkmolaaDoor.R
