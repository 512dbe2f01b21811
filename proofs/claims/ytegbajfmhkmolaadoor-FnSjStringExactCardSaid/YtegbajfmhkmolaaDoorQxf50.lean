-- printed by a turned copy of the kit's print (wip/tools/patch_print.py)
import Derived.Test.YtegbajfmhkmolaaDoorQx0
import Derived.Test.YtegbajfmhkmolaaDoorQxf74
import Derived.Test.YtegbajfmhkmolaaDoorQxf75
namespace Go.Proofs.YtegbajfmhkmolaaDoor.Q
open Go.RowKit Go.Proofs.YtegbajfmhkmolaaDoorW.PrintWords Go.Proofs.YtegbajfmhkmolaaDoorW.PrintLast Go.Proofs.YtegbajfmhkmolaaDoorW.PrintMore
attribute [local go_sem] max2_int min2_int max_two min_two max_three min_three max_four min_four   -- for this text's walks alone
set_option linter.unusedVariables false
set_option linter.unusedSimpArgs false

/-! ### sjson_appendStringify: function 50 -/
def sjson_appendStringify.f (k : Nat) (l0 : List Int) (a1 : ByteArray) : Option (List Int) := (sjson_mustMarshalString.f k a1).bind fun t101 => (if t101 = true then ((sjson_zzMarshal.f k l0 a1).bind fun t102 => (some t102)) else (if l0.length < 140737488355328 then ((some (l0 ++ [34] : List Int)).bind fun y105 => (if y105.length + a1.size < 140737488355328 then ((some (y105 ++ bytesOf a1 : List Int)).bind fun y108 => (if y108.length < 140737488355328 then (some (y108 ++ [34])) else (none))) else (none))) else (none)))
theorem sjson_appendStringify.mono : ∀ a0 a1 k, LeO (sjson_appendStringify.f k a0 a1) (sjson_appendStringify.f (k + 1) a0 a1) := by
  intro a0 a1 k
  unfold sjson_appendStringify.f
  repeat' first
      | (with_reducible exact sjson_mustMarshalString.mono _ _)
      | (with_reducible exact sjson_zzMarshal.mono _ _ _)
      | (with_reducible exact LeO.refl _)
      | (with_reducible exact LeO.none _)
      | (with_reducible refine LeO.ite ?_ ?_)
      | (with_reducible refine LeO.bind ?_ (fun _ => ?_))
      | exact sjson_mustMarshalString.mono _ _
      | exact sjson_zzMarshal.mono _ _ _
      | exact LeO.none _
      | refine LeO.ite ?_ ?_
      | refine LeO.bind ?_ (fun _ => ?_)
set_option maxHeartbeats 8000000 in
set_option maxRecDepth 100000 in
theorem sjson_appendStringify.calls (k : Nat) (P0_ : Nat → Prop) (u9000_ : Value) (l0 : List Int) (a1 : ByteArray) (r : List Int) (w0 w : World) (hB : Below w0.heap.size w0 w) (ho0 : Kd.R (Kd.int .u8) 5 w w0.heap.size P0_ u9000_ l0) (hG : Laid w0) (h : sjson_appendStringify.f k l0 a1 = some r) :
    Calls Tryd.prog 50 #[u9000_, .string a1] w fun e w' => ∃ v0_ : Value, e = .returned (v0_) ∧ Kd.R (Kd.int .u8) 5 w' w0.heap.size (fun k_ => (P0_ k_ ∨ w.heap.size ≤ k_)) v0_ r ∧ Below w0.heap.size w0 w' ∧ Kept w w' (fun k_ => P0_ k_) := by
  have HG := Aside0.mk hG
  clear hG
  have HO0 := Aside0.mk (show Kd.R (Kd.int .u8) 5 w w0.heap.size (fun k_ => (P0_ k_ ∨ w.heap.size ≤ k_)) u9000_ l0 from Kd.R_mono ho0 (fun k_ hk => (.inl hk)))
  have HK := Aside0.mk (Kept.refl w (fun k_ => P0_ k_))
  have HW0 := Aside0.mk hB.size
  have HB := Aside0.mk hB
  clear hB
  have H : ((sjson_mustMarshalString.f k a1).bind fun t101 => (if t101 = true then ((sjson_zzMarshal.f k l0 a1).bind fun t102 => (some t102)) else (if l0.length < 140737488355328 then ((some (l0 ++ [34] : List Int)).bind fun y105 => (if y105.length + a1.size < 140737488355328 then ((some (y105 ++ bytesOf a1 : List Int)).bind fun y108 => (if y108.length < 140737488355328 then (some (y108 ++ [34])) else (none))) else (none))) else (none)))) = some r := h
  clear h
  replace H := Option.bind_eq_some_iff.mp H
  obtain ⟨t101, A30, H⟩ := H
  replace H : (if t101 = true then ((sjson_zzMarshal.f k l0 a1).bind fun t102 => (some t102)) else (if l0.length < 140737488355328 then ((some (l0 ++ [34] : List Int)).bind fun y105 => (if y105.length + a1.size < 140737488355328 then ((some (y105 ++ bytesOf a1 : List Int)).bind fun y108 => (if y108.length < 140737488355328 then (some (y108 ++ [34])) else (none))) else (none))) else (none))) = some r := H
  have A3 := Aside0.mk A30
  clear A30
  by_cases c4 : t101 = true
  · subst c4
    have H1 : ((sjson_zzMarshal.f k l0 a1).bind fun t102 => (some t102)) = some r := by rw [if_pos rfl] at H; exact H
    clear H
    have H := H1
    clear H1
    replace H := Option.bind_eq_some_iff.mp H
    obtain ⟨t102, A50, H⟩ := H
    replace H : (some t102) = some r := H
    have A5 := Aside0.mk A50
    clear A50
    obtain rfl := Option.some.inj H
    go_enter Tryd.func50, Tryd.ntmps50
    go_wp2_with (first | ((with_reducible refine gate_callee (f := 74) rfl ?_); refine goesL_ (some 6) rfl rfl Tryd.func74 (by kernel_rfl) rfl #[.string a1] rfl (by (try simp only [List.map_toArray, List.map_cons, List.map_nil]); first | done | rfl | (simp only [List.length_drop, List.length_take]; rfl)) ?_; (with_reducible refine (sjson_mustMarshalString.calls k a1 true _ A3.out).mono ?_); rintro e w' ⟨rfl, ⟨nd, rfl⟩⟩; refine ⟨_, rfl, ?_⟩; obtain ⟨Ao6, co6, eo6⟩ := Kd.R_slice HO0.out; subst eo6) | ((with_reducible refine gate_callee (f := 75) rfl ?_); refine goesL_ (some 9) rfl rfl Tryd.func75 (by kernel_rfl) rfl #[.slice Ao6 l0.length co6, .string a1] rfl (by (try simp only [List.map_toArray, List.map_cons, List.map_nil]); first | done | rfl | (simp only [List.length_drop, List.length_take]; rfl)) ?_; (with_reducible refine (sjson_zzMarshal.calls k (fun k_ => some k_ = (.slice Ao6 l0.length co6 : Value).ownBlock) (.slice Ao6 l0.length co6) l0 a1 t102 w0 _ ?side1 ?side2 ?side3 A5.out).mono ?_); (case side1 => repeat (first | (with_reducible first | exact HB.out | apply below_alloc | apply pw_below_drewN | apply below_drew1) | exact HB.out)); (case side2 => exact Kd.R_tight rfl HO0.out); (case side3 => first | exact HG.out | exact Laid.below HG.out (by repeat (first | (with_reducible first | exact HB.out | apply below_alloc | apply pw_below_drewN | apply below_drew1) | exact HB.out))); rintro e w7 ⟨v103, rfl, ho0, hb, hkp⟩; refine ⟨_, rfl, ?_⟩; have n0_ := Aside0.mk (Kd.R_mono (ok' := fun k_ => (P0_ k_ ∨ w.heap.size ≤ k_)) ho0 (fun k_ hk_ => Or.elim hk_ (fun hs_ => (HO0.out.1 k_ (hs_).symm)) (fun hn_ => (.inr (Nat.le_trans (by first | exact HK.out.1 | exact (show Kept w _ (fun k_ => P0_ k_) from by repeat (first | (with_reducible first | exact HK.out | apply Kept.alloc | apply Kept.drewN | apply Kept.drew) | exact HK.out)).1) hn_))))); have n1_ := Aside0.mk (Kept.then_ (S := (fun k_ => P0_ k_)) (by repeat (first | (with_reducible first | exact HK.out | apply Kept.alloc | apply Kept.drewN | apply Kept.drew) | exact HK.out)) hkp (fun k_ hs_ => (fun e_ => (HO0.out.1 k_ e_.symm)) hs_)); have n2_ := Aside0.mk (hb); clear HK; clear HB; clear HO0; have HO104 := n0_; have HK := n1_; have HB := n2_; clear n0_ n1_ n2_; (try clear hb); (try clear hkp); (try clear ho0)))
    go_ret
    exact ⟨_, by first | rfl | (simp [errW_none, errW_some] <;> rfl) | (simp [*, errW_none, errW_some] <;> rfl), by (with_reducible repeat (first | apply Kd.R_alloc | apply Kd.R_drewN | apply Kd.R_drew)); exact HO104.out, by repeat (first | (with_reducible first | exact HB.out | apply below_alloc | apply pw_below_drewN | apply below_drew1) | exact HB.out), by repeat (first | (with_reducible first | exact HK.out | apply Kept.alloc | apply Kept.drewN | apply Kept.drew) | exact HK.out)⟩
  · replace c4 := Bool.eq_false_iff.mpr c4
    subst c4
    have H1 : (if l0.length < 140737488355328 then ((some (l0 ++ [34] : List Int)).bind fun y105 => (if y105.length + a1.size < 140737488355328 then ((some (y105 ++ bytesOf a1 : List Int)).bind fun y108 => (if y108.length < 140737488355328 then (some (y108 ++ [34])) else (none))) else (none))) else (none)) = some r := by rw [if_neg (show ¬ (false = true) by decide)] at H; exact H
    clear H
    have H := H1
    clear H1
    by_cases c8 : l0.length < 140737488355328
    · rw [if_pos c8] at H
      have LMc8 := Aside0.mk c8
      clear c8
      obtain ⟨y105, hy105⟩ : ∃ y_ : List Int, y_ = (l0 ++ [34]) := ⟨_, rfl⟩
      replace H : (if y105.length + a1.size < 140737488355328 then ((some (y105 ++ bytesOf a1 : List Int)).bind fun y108 => (if y108.length < 140737488355328 then (some (y108 ++ [34])) else (none))) else (none)) = some r := by first | (rw [hy105]; with_reducible exact H) | (have H2_ := (Option.bind_some _ _).symm.trans H; rw [hy105]; with_reducible exact H2_) | (have H2_ := (Option.bind_some _ _).symm.trans H; with_reducible exact H2_) | with_reducible exact H | (rw [hy105]; exact H) | exact H
      have Ny105 := Aside0.mk hy105
      clear hy105
      by_cases c9 : y105.length + a1.size < 140737488355328
      · rw [if_pos c9] at H
        have LMc9 := Aside0.mk c9
        clear c9
        obtain ⟨y108, hy108⟩ : ∃ y_ : List Int, y_ = (y105 ++ bytesOf a1) := ⟨_, rfl⟩
        replace H : (if y108.length < 140737488355328 then (some (y108 ++ [34])) else (none)) = some r := by first | (rw [hy108]; with_reducible exact H) | (have H2_ := (Option.bind_some _ _).symm.trans H; rw [hy108]; with_reducible exact H2_) | (have H2_ := (Option.bind_some _ _).symm.trans H; with_reducible exact H2_) | with_reducible exact H | (rw [hy108]; exact H) | exact H
        have Ny108 := Aside0.mk hy108
        clear hy108
        by_cases c10 : y108.length < 140737488355328
        · rw [if_pos c10] at H
          have LMc10 := Aside0.mk c10
          clear c10
          obtain ⟨y111, hy111⟩ : ∃ y_ : List Int, y_ = (y108 ++ [34]) := ⟨_, rfl⟩
          replace H : (some y111) = some r := by first | (rw [hy111]; with_reducible exact H) | (have H2_ := (Option.bind_some _ _).symm.trans H; rw [hy111]; with_reducible exact H2_) | (have H2_ := (Option.bind_some _ _).symm.trans H; with_reducible exact H2_) | with_reducible exact H | (rw [hy111]; exact H) | exact H
          have Ny111 := Aside0.mk hy111
          clear hy111
          obtain rfl := Option.some.inj H
          go_enter Tryd.func50, Tryd.ntmps50
          go_wp2_with (first | ((with_reducible refine gate_callee (f := 74) rfl ?_); refine goesL_ (some 6) rfl rfl Tryd.func74 (by kernel_rfl) rfl #[.string a1] rfl (by (try simp only [List.map_toArray, List.map_cons, List.map_nil]); first | done | rfl | (simp only [List.length_drop, List.length_take]; rfl)) ?_; (with_reducible refine (sjson_mustMarshalString.calls k a1 false _ A3.out).mono ?_); rintro e w' ⟨rfl, ⟨nd, rfl⟩⟩; refine ⟨_, rfl, ?_⟩) | ((with_reducible refine gate_builtin (b := .append) (xs := #[.tmp 10, .tmp 11]) rfl ?_); at_builtin; refine Kd.R_append (Kd.int .u8) (w0 := w0) w0.heap.size rfl (.tmp 10) (.tmp 11) 37 5 (.int .u8 0) 1 rfl Tryd.underlying37 info5 rfl (by decide) (by omega) u9000_ l0 34 [.int .u8 34] (fun k_ => (P0_ k_ ∨ w.heap.size ≤ k_)) (fun _ => False) rfl rfl ?aP (fun _ hk => hk.elim) ?aF ?aO ?aB ?aS ?aL ?_; (case aP => exact rfl); (case aB => exact (by repeat (first | (with_reducible first | exact HB.out | apply below_alloc | apply pw_below_drewN | apply below_drew1) | exact HB.out))); (case aF => exact (fun k_ hk => (.inr (Nat.le_trans (by first | exact HK.out.1 | exact (show Kept w _ (fun k_ => P0_ k_) from by repeat (first | (with_reducible first | exact HK.out | apply Kept.alloc | apply Kept.drewN | apply Kept.drew) | exact HK.out)).1) hk)))); (case aO => exact (by (with_reducible repeat (first | apply Kd.R_alloc | apply Kd.R_drewN | apply Kd.R_drew)); exact HO0.out)); (case aS => exact (below_size (by repeat (first | (with_reducible first | exact HB.out | apply below_alloc | apply pw_below_drewN | apply below_drew1) | exact HB.out)))); (case aL => have := LMc8.out; omega); intro v106 w11 ho hb hg hat; rw [← Ny105.out] at ho; have n0_ := Aside0.mk (hb); have n1_ := Aside0.mk (Kept.of_grown (S := (fun k_ => P0_ k_)) hg (by repeat (first | (with_reducible first | exact HK.out | apply Kept.alloc | apply Kept.drewN | apply Kept.drew) | exact HK.out)) (fun k_ e_ => (HO0.out.1 k_ e_))); have n2_ := Aside0.mk (ho); clear HB; clear HK; clear HO0; have HB := n0_; have HK := n1_; have HO107 := n2_; clear n0_ n1_ n2_; clear ho hb hg hat) | (at_builtin; refine R_append_str (w0 := w0) w0.heap.size rfl (.tmp 13) _ 37 9 5 rfl Tryd.underlying37 Tryd.underlying9 info5 v106 y105 a1 (fun k_ => (P0_ k_ ∨ w.heap.size ≤ k_)) rfl rfl ?aF ?aO ?aB ?aS ?aL ?_; (case aB => exact (by repeat (first | (with_reducible first | exact HB.out | apply below_alloc | apply pw_below_drewN | apply below_drew1) | exact HB.out))); (case aF => exact (fun k_ hk => (.inr (Nat.le_trans (by first | exact HK.out.1 | exact (show Kept w _ (fun k_ => P0_ k_) from by repeat (first | (with_reducible first | exact HK.out | apply Kept.alloc | apply Kept.drewN | apply Kept.drew) | exact HK.out)).1) hk)))); (case aO => exact (by (with_reducible repeat (first | apply Kd.R_alloc | apply Kd.R_drewN | apply Kd.R_drew)); exact HO107.out)); (case aS => exact (below_size (by repeat (first | (with_reducible first | exact HB.out | apply below_alloc | apply pw_below_drewN | apply below_drew1) | exact HB.out)))); (case aL => have := LMc9.out; first | omega | (exact Nat.le_of_lt (Nat.lt_of_le_of_lt (Nat.le_of_eq rfl) this))); intro v109 w12 ho hb hg hat; rw [← Ny108.out] at ho; change Kd.R (Kd.int .u8) 5 w12 w0.heap.size (fun k_ => (P0_ k_ ∨ w.heap.size ≤ k_)) v109 y108 at ho; have n0_ := Aside0.mk (hb); have n1_ := Aside0.mk (Kept.of_grown (S := (fun k_ => P0_ k_)) hg (by repeat (first | (with_reducible first | exact HK.out | apply Kept.alloc | apply Kept.drewN | apply Kept.drew) | exact HK.out)) (fun k_ e_ => (HO107.out.1 k_ e_))); have n2_ := Aside0.mk (ho); clear HB; clear HK; clear HO107; have HB := n0_; have HK := n1_; have HO110 := n2_; clear n0_ n1_ n2_; clear ho hb hg hat) | ((with_reducible refine gate_builtin (b := .append) (xs := #[.tmp 16, .tmp 17]) rfl ?_); at_builtin; refine Kd.R_append (Kd.int .u8) (w0 := w0) w0.heap.size rfl (.tmp 16) (.tmp 17) 37 5 (.int .u8 0) 1 rfl Tryd.underlying37 info5 rfl (by decide) (by omega) v109 y108 34 [.int .u8 34] (fun k_ => (P0_ k_ ∨ w.heap.size ≤ k_)) (fun _ => False) rfl rfl ?aP (fun _ hk => hk.elim) ?aF ?aO ?aB ?aS ?aL ?_; (case aP => exact rfl); (case aB => exact (by repeat (first | (with_reducible first | exact HB.out | apply below_alloc | apply pw_below_drewN | apply below_drew1) | exact HB.out))); (case aF => exact (fun k_ hk => (.inr (Nat.le_trans (by first | exact HK.out.1 | exact (show Kept w _ (fun k_ => P0_ k_) from by repeat (first | (with_reducible first | exact HK.out | apply Kept.alloc | apply Kept.drewN | apply Kept.drew) | exact HK.out)).1) hk)))); (case aO => exact (by (with_reducible repeat (first | apply Kd.R_alloc | apply Kd.R_drewN | apply Kd.R_drew)); exact HO110.out)); (case aS => exact (below_size (by repeat (first | (with_reducible first | exact HB.out | apply below_alloc | apply pw_below_drewN | apply below_drew1) | exact HB.out)))); (case aL => have := LMc10.out; omega); intro v112 w13 ho hb hg hat; rw [← Ny111.out] at ho; have n0_ := Aside0.mk (hb); have n1_ := Aside0.mk (Kept.of_grown (S := (fun k_ => P0_ k_)) hg (by repeat (first | (with_reducible first | exact HK.out | apply Kept.alloc | apply Kept.drewN | apply Kept.drew) | exact HK.out)) (fun k_ e_ => (HO110.out.1 k_ e_))); have n2_ := Aside0.mk (ho); clear HB; clear HK; clear HO110; have HB := n0_; have HK := n1_; have HO113 := n2_; clear n0_ n1_ n2_; clear ho hb hg hat))
          go_ret
          exact ⟨_, by first | rfl | (simp [errW_none, errW_some] <;> rfl) | (simp [*, errW_none, errW_some] <;> rfl), by (with_reducible repeat (first | apply Kd.R_alloc | apply Kd.R_drewN | apply Kd.R_drew)); exact HO113.out, by repeat (first | (with_reducible first | exact HB.out | apply below_alloc | apply pw_below_drewN | apply below_drew1) | exact HB.out), by repeat (first | (with_reducible first | exact HK.out | apply Kept.alloc | apply Kept.drewN | apply Kept.drew) | exact HK.out)⟩
        · rw [if_neg c10] at H
          exact absurd H (by simp)
      · rw [if_neg c9] at H
        exact absurd H (by simp)
    · rw [if_neg c8] at H
      exact absurd H (by simp)

end Go.Proofs.YtegbajfmhkmolaaDoor.Q
