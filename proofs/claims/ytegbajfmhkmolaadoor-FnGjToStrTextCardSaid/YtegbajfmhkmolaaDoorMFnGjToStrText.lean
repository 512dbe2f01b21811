/- Texts of one proof, laid together: Rxf55, Rxf37, Rxf15, Rxf5, GjQBR, SpecStrR, SpecUnqR, PureFnGjToStrText. -/
import Derived.Test.YtegbajfmhkmolaaDoorRx0
import Derived.Test.YtegbajfmhkmolaaDoorRxf34
import Derived.Test.YtegbajfmhkmolaaDoorRxf10
import Derived.Test.YtegbajfmhkmolaaDoorRxf14
import Derived.Test.YtegbajfmhkmolaaDoorGjQR
import Derived.Test.YtegbajfmhkmolaaDoorJTextR
import Derived.Test.YtegbajfmhkmolaaDoorRxf69
import Derived.Test.YtegbajfmhkmolaaDoorRxf77
-- printed by a turned copy of the kit's print (wip/tools/patch_print.py)
namespace Go.Proofs.YtegbajfmhkmolaaDoor.R
open Go.RowKit Go.Proofs.YtegbajfmhkmolaaDoorW.PrintWords Go.Proofs.YtegbajfmhkmolaaDoorW.PrintLast Go.Proofs.YtegbajfmhkmolaaDoorW.PrintMore
attribute [local go_sem] max2_int min2_int max_two min_two max_three min_three max_four min_four   -- for this text's walks alone
set_option linter.unusedVariables false
set_option linter.unusedSimpArgs false

/-! ### gjson_modToStr: function 55 -/
def gjson_modToStr.f (k : Nat) (a0 : ByteArray) (a1 : ByteArray) : Option (ByteArray) := (gjson_AppendJSONString.f k ([] : List Int) a0).bind fun t101 => (some (strOfNums t101))
theorem gjson_modToStr.mono : ∀ a0 a1 k, LeO (gjson_modToStr.f k a0 a1) (gjson_modToStr.f (k + 1) a0 a1) := by
  intro a0 a1 k
  unfold gjson_modToStr.f
  repeat' first
      | (with_reducible exact gjson_AppendJSONString.mono _ _ _)
      | (with_reducible exact LeO.refl _)
      | (with_reducible exact LeO.none _)
      | (with_reducible refine LeO.ite ?_ ?_)
      | (with_reducible refine LeO.bind ?_ (fun _ => ?_))
      | exact gjson_AppendJSONString.mono _ _ _
      | exact LeO.none _
      | refine LeO.ite ?_ ?_
      | refine LeO.bind ?_ (fun _ => ?_)
set_option maxHeartbeats 8000000 in
set_option maxRecDepth 100000 in
theorem gjson_modToStr.calls (k : Nat) (a0 : ByteArray) (a1 : ByteArray) (r : ByteArray) (w : World) (hG : Laid w) (h : gjson_modToStr.f k a0 a1 = some r) :
    Calls Tryd.prog 55 #[.string a0, .string a1] w fun e w' => e = .returned (.string r) ∧ Below w.heap.size w w' := by
  have HG := Aside0.mk hG
  clear hG
  have HB := Aside0.mk (Below.refl w.heap.size w)
  have H : ((gjson_AppendJSONString.f k ([] : List Int) a0).bind fun t101 => (some (strOfNums t101))) = some r := h
  clear h
  replace H := Option.bind_eq_some_iff.mp H
  obtain ⟨t101, A30, H⟩ := H
  replace H : (some (strOfNums t101)) = some r := H
  have A3 := Aside0.mk A30
  clear A30
  obtain rfl := Option.some.inj H
  go_enter Tryd.func55, Tryd.ntmps55
  go_wp2_with (first | ((with_reducible refine gate_callee (f := 34) rfl ?_); refine goesL_ (some 6) rfl rfl Tryd.func34 (by kernel_rfl) rfl #[.slice none 0 0, .string a0] rfl (by (try simp only [List.map_toArray, List.map_cons, List.map_nil]); first | done | rfl | (simp only [List.length_drop, List.length_take]; rfl)) ?_; (refine (gjson_AppendJSONString.calls k (fun k_ => some k_ = (.slice none 0 0 : Value).ownBlock) (.slice none 0 0) ([] : List Int) a0 t101 w _ ?side1 ?side2 ?side3 A3.out).mono ?_); (case side1 => repeat (first | (with_reducible first | exact HB.out | apply below_alloc | apply pw_below_drewN | apply below_drew1) | exact HB.out)); (case side2 => exact Kd.R_nil _ _ _ _ _); (case side3 => first | exact HG.out | exact Laid.below HG.out (by repeat (first | (with_reducible first | exact HB.out | apply below_alloc | apply pw_below_drewN | apply below_drew1) | exact HB.out))); rintro e w4 ⟨v102, rfl, ho0, hb, hkp⟩; refine ⟨_, rfl, ?_⟩; have n0_ := Aside0.mk (Kd.R_mono (ok' := fun k_ => True) ho0 (fun k_ hk_ => trivial)); have n1_ := Aside0.mk (hb); clear HB; have HO103 := n0_; have HB := n1_; clear n0_ n1_; (try clear hb); (try clear hkp); (try clear ho0); have hcv5 := own_string (P := Tryd.prog) Tryd.underlying37 Tryd.underlying5 Tryd.underlying9 (Kd.own_of_R HO103.out)))
  go_ret
  exact ⟨by first | rfl | (simp [errW_none, errW_some] <;> rfl) | (simp [*, errW_none, errW_some] <;> rfl), by repeat (first | (with_reducible first | exact HB.out | apply below_alloc | apply pw_below_drewN | apply below_drew1) | exact HB.out)⟩

end Go.Proofs.YtegbajfmhkmolaaDoor.R

-- printed by a turned copy of the kit's print (wip/tools/patch_print.py)
namespace Go.Proofs.YtegbajfmhkmolaaDoor.R
open Go.RowKit Go.Proofs.YtegbajfmhkmolaaDoorW.PrintWords Go.Proofs.YtegbajfmhkmolaaDoorW.PrintLast Go.Proofs.YtegbajfmhkmolaaDoorW.PrintMore
attribute [local go_sem] max2_int min2_int max_two min_two max_three min_three max_four min_four   -- for this text's walks alone
set_option linter.unusedVariables false
set_option linter.unusedSimpArgs false

/-! ### gjson_DoorToStr: function 37 -/
def gjson_DoorToStr.f (k : Nat) (a0 : ByteArray) : Option (ByteArray) := (gjson_modToStr.f k a0 (⟨#[]⟩ : ByteArray)).bind fun t101 => (some t101)
theorem gjson_DoorToStr.mono : ∀ a0 k, LeO (gjson_DoorToStr.f k a0) (gjson_DoorToStr.f (k + 1) a0) := by
  intro a0 k
  unfold gjson_DoorToStr.f
  repeat' first
      | (with_reducible exact gjson_modToStr.mono _ _ _)
      | (with_reducible exact LeO.refl _)
      | (with_reducible exact LeO.none _)
      | (with_reducible refine LeO.ite ?_ ?_)
      | (with_reducible refine LeO.bind ?_ (fun _ => ?_))
      | exact gjson_modToStr.mono _ _ _
      | exact LeO.none _
      | refine LeO.ite ?_ ?_
      | refine LeO.bind ?_ (fun _ => ?_)
set_option maxHeartbeats 8000000 in
set_option maxRecDepth 100000 in
theorem gjson_DoorToStr.calls (k : Nat) (a0 : ByteArray) (r : ByteArray) (w : World) (hG : Laid w) (h : gjson_DoorToStr.f k a0 = some r) :
    Calls Tryd.prog 37 #[.string a0] w fun e w' => e = .returned (.string r) ∧ Below w.heap.size w w' := by
  have HG := Aside0.mk hG
  clear hG
  have HB := Aside0.mk (Below.refl w.heap.size w)
  have H : ((gjson_modToStr.f k a0 (⟨#[]⟩ : ByteArray)).bind fun t101 => (some t101)) = some r := h
  clear h
  replace H := Option.bind_eq_some_iff.mp H
  obtain ⟨t101, A20, H⟩ := H
  replace H : (some t101) = some r := H
  have A2 := Aside0.mk A20
  clear A20
  obtain rfl := Option.some.inj H
  go_enter Tryd.func37, Tryd.ntmps37
  go_wp2_with (first | ((with_reducible refine gate_callee (f := 55) rfl ?_); refine goesL_ (some 4) rfl rfl Tryd.func55 (by kernel_rfl) rfl #[.string a0, .string (⟨#[]⟩ : ByteArray)] rfl (by (try simp only [List.map_toArray, List.map_cons, List.map_nil]); first | done | rfl | (simp only [List.length_drop, List.length_take]; rfl)) ?_; (with_reducible refine (gjson_modToStr.calls k a0 (⟨#[]⟩ : ByteArray) t101 _ ?side1 A2.out).mono ?_); (case side1 => first | exact HG.out | exact Laid.below HG.out (by repeat (first | (with_reducible first | exact HB.out | apply below_alloc | apply pw_below_drewN | apply below_drew1) | exact HB.out))); rintro e w3 ⟨rfl, hb⟩; refine ⟨_, rfl, ?_⟩; have n0_ := Aside0.mk (below_step (by repeat (first | (with_reducible first | exact HB.out | apply below_alloc | apply pw_below_drewN | apply below_drew1) | exact HB.out)) hb); clear HB; have HB := n0_; clear n0_; (try clear hb); (try clear hb2); (try clear hk); (try clear hi)))
  go_ret
  exact ⟨by first | rfl | (simp [errW_none, errW_some] <;> rfl) | (simp [*, errW_none, errW_some] <;> rfl), by repeat (first | (with_reducible first | exact HB.out | apply below_alloc | apply pw_below_drewN | apply below_drew1) | exact HB.out)⟩

end Go.Proofs.YtegbajfmhkmolaaDoor.R

-- printed by a turned copy of the kit's print (wip/tools/patch_print.py)
namespace Go.Proofs.YtegbajfmhkmolaaDoor.R
open Go.RowKit Go.Proofs.YtegbajfmhkmolaaDoorW.PrintWords Go.Proofs.YtegbajfmhkmolaaDoorW.PrintLast Go.Proofs.YtegbajfmhkmolaaDoorW.PrintMore
attribute [local go_sem] max2_int min2_int max_two min_two max_three min_three max_four min_four   -- for this text's walks alone
set_option linter.unusedVariables false
set_option linter.unusedSimpArgs false

/-! ### impl_GjToStr: function 15 -/
def impl_GjToStr.f (k : Nat) (a0 : ByteArray) : Option (ByteArray) := (gjson_DoorToStr.f k a0).bind fun t101 => (some t101)
theorem impl_GjToStr.mono : ∀ a0 k, LeO (impl_GjToStr.f k a0) (impl_GjToStr.f (k + 1) a0) := by
  intro a0 k
  unfold impl_GjToStr.f
  repeat' first
      | (with_reducible exact gjson_DoorToStr.mono _ _)
      | (with_reducible exact LeO.refl _)
      | (with_reducible exact LeO.none _)
      | (with_reducible refine LeO.ite ?_ ?_)
      | (with_reducible refine LeO.bind ?_ (fun _ => ?_))
      | exact gjson_DoorToStr.mono _ _
      | exact LeO.none _
      | refine LeO.ite ?_ ?_
      | refine LeO.bind ?_ (fun _ => ?_)
set_option maxHeartbeats 8000000 in
set_option maxRecDepth 100000 in
theorem impl_GjToStr.calls (k : Nat) (a0 : ByteArray) (r : ByteArray) (w : World) (hG : Laid w) (h : impl_GjToStr.f k a0 = some r) :
    Calls Tryd.prog 15 #[.string a0] w fun e w' => e = .returned (.string r) ∧ Below w.heap.size w w' := by
  have HG := Aside0.mk hG
  clear hG
  have HB := Aside0.mk (Below.refl w.heap.size w)
  have H : ((gjson_DoorToStr.f k a0).bind fun t101 => (some t101)) = some r := h
  clear h
  replace H := Option.bind_eq_some_iff.mp H
  obtain ⟨t101, A20, H⟩ := H
  replace H : (some t101) = some r := H
  have A2 := Aside0.mk A20
  clear A20
  obtain rfl := Option.some.inj H
  go_enter Tryd.func15, Tryd.ntmps15
  go_wp2_with (first | ((with_reducible refine gate_callee (f := 37) rfl ?_); refine goesL_ (some 4) rfl rfl Tryd.func37 (by kernel_rfl) rfl #[.string a0] rfl (by (try simp only [List.map_toArray, List.map_cons, List.map_nil]); first | done | rfl | (simp only [List.length_drop, List.length_take]; rfl)) ?_; (with_reducible refine (gjson_DoorToStr.calls k a0 t101 _ ?side1 A2.out).mono ?_); (case side1 => first | exact HG.out | exact Laid.below HG.out (by repeat (first | (with_reducible first | exact HB.out | apply below_alloc | apply pw_below_drewN | apply below_drew1) | exact HB.out))); rintro e w3 ⟨rfl, hb⟩; refine ⟨_, rfl, ?_⟩; have n0_ := Aside0.mk (below_step (by repeat (first | (with_reducible first | exact HB.out | apply below_alloc | apply pw_below_drewN | apply below_drew1) | exact HB.out)) hb); clear HB; have HB := n0_; clear n0_; (try clear hb); (try clear hb2); (try clear hk); (try clear hi)))
  go_ret
  exact ⟨by first | rfl | (simp [errW_none, errW_some] <;> rfl) | (simp [*, errW_none, errW_some] <;> rfl), by repeat (first | (with_reducible first | exact HB.out | apply below_alloc | apply pw_below_drewN | apply below_drew1) | exact HB.out)⟩

end Go.Proofs.YtegbajfmhkmolaaDoor.R

-- printed by a turned copy of the kit's print (wip/tools/patch_print.py)
namespace Go.Proofs.YtegbajfmhkmolaaDoor.R
open Go.RowKit Go.Proofs.YtegbajfmhkmolaaDoorW.PrintWords Go.Proofs.YtegbajfmhkmolaaDoorW.PrintLast Go.Proofs.YtegbajfmhkmolaaDoorW.PrintMore
attribute [local go_sem] max2_int min2_int max_two min_two max_three min_three max_four min_four   -- for this text's walks alone
set_option linter.unusedVariables false
set_option linter.unusedSimpArgs false

/-! ### laws_FnGjToStrText: function 5 -/
def laws_FnGjToStrText.f (k : Nat) (a0 : ByteArray) : Option (Bool) := if (a0.size : Int) > 2147483647 then (some true) else (if (a0.size : Int) > 4096 then (some true) else ((spec_UTF8.f k a0).bind fun t101 => (if t101 = true then ((impl_GjToStr.f k a0).bind fun t102 => ((laws_gjReads.f k t102 4 a0 ([] : List ByteArray) ([] : List (S29))).bind fun t103 => (some t103))) else (some true))))
theorem laws_FnGjToStrText.mono : ∀ a0 k, LeO (laws_FnGjToStrText.f k a0) (laws_FnGjToStrText.f (k + 1) a0) := by
  intro a0 k
  unfold laws_FnGjToStrText.f
  repeat' first
      | (with_reducible exact impl_GjToStr.mono _ _)
      | (with_reducible exact laws_gjReads.mono _ _ _ _ _ _)
      | (with_reducible exact spec_UTF8.mono _ _)
      | (with_reducible exact LeO.refl _)
      | (with_reducible exact LeO.none _)
      | (with_reducible refine LeO.ite ?_ ?_)
      | (with_reducible refine LeO.bind ?_ (fun _ => ?_))
      | exact impl_GjToStr.mono _ _
      | exact laws_gjReads.mono _ _ _ _ _ _
      | exact spec_UTF8.mono _ _
      | exact LeO.none _
      | refine LeO.ite ?_ ?_
      | refine LeO.bind ?_ (fun _ => ?_)
set_option maxHeartbeats 8000000 in
set_option maxRecDepth 100000 in
theorem laws_FnGjToStrText.calls (k : Nat) (a0 : ByteArray) (r : Bool) (w : World) (hG : Laid w) (h : laws_FnGjToStrText.f k a0 = some r) :
    Calls Tryd.prog 5 #[.string a0] w fun e w' => e = .returned (.bool r) ∧ Below w.heap.size w w' := by
  have HG := Aside0.mk hG
  clear hG
  have hu29 := Tryd.underlying29
  have HB := Aside0.mk (Below.refl w.heap.size w)
  have H : (if (a0.size : Int) > 2147483647 then (some true) else (if (a0.size : Int) > 4096 then (some true) else ((spec_UTF8.f k a0).bind fun t101 => (if t101 = true then ((impl_GjToStr.f k a0).bind fun t102 => ((laws_gjReads.f k t102 4 a0 ([] : List ByteArray) ([] : List (S29))).bind fun t103 => (some t103))) else (some true))))) = some r := h
  clear h
  by_cases c2 : (a0.size : Int) > 2147483647
  · rw [if_pos c2] at H
    have c2b0 : decide (2147483647 < (a0.size : Int)) = true := decide_eq_true c2
    have c2b1 : decide (2147483647 < a0.size) = true := decide_eq_true (by omega)
    clear c2
    obtain rfl := Option.some.inj H
    go_enter Tryd.func5, Tryd.ntmps5
    go_wp2
    go_ret
    exact ⟨by first | rfl | (simp [errW_none, errW_some] <;> rfl) | (simp [*, errW_none, errW_some] <;> rfl), by repeat (first | (with_reducible first | exact HB.out | apply below_alloc | apply pw_below_drewN | apply below_drew1) | exact HB.out)⟩
  · rw [if_neg c2] at H
    have c2b0 : decide (2147483647 < (a0.size : Int)) = false := decide_eq_false c2
    have c2b1 : decide (2147483647 < a0.size) = false := decide_eq_false (by omega)
    clear c2
    by_cases c3 : (a0.size : Int) > 4096
    · rw [if_pos c3] at H
      have c3b0 : decide (4096 < (a0.size : Int)) = true := decide_eq_true c3
      have c3b1 : decide (4096 < a0.size) = true := decide_eq_true (by omega)
      clear c3
      obtain rfl := Option.some.inj H
      go_enter Tryd.func5, Tryd.ntmps5
      go_wp2
      go_ret
      exact ⟨by first | rfl | (simp [errW_none, errW_some] <;> rfl) | (simp [*, errW_none, errW_some] <;> rfl), by repeat (first | (with_reducible first | exact HB.out | apply below_alloc | apply pw_below_drewN | apply below_drew1) | exact HB.out)⟩
    · rw [if_neg c3] at H
      have c3b0 : decide (4096 < (a0.size : Int)) = false := decide_eq_false c3
      have c3b1 : decide (4096 < a0.size) = false := decide_eq_false (by omega)
      clear c3
      replace H := Option.bind_eq_some_iff.mp H
      obtain ⟨t101, A40, H⟩ := H
      replace H : (if t101 = true then ((impl_GjToStr.f k a0).bind fun t102 => ((laws_gjReads.f k t102 4 a0 ([] : List ByteArray) ([] : List (S29))).bind fun t103 => (some t103))) else (some true)) = some r := H
      have A4 := Aside0.mk A40
      clear A40
      by_cases c5 : t101 = true
      · subst c5
        have H1 : ((impl_GjToStr.f k a0).bind fun t102 => ((laws_gjReads.f k t102 4 a0 ([] : List ByteArray) ([] : List (S29))).bind fun t103 => (some t103))) = some r := by rw [if_pos rfl] at H; exact H
        clear H
        have H := H1
        clear H1
        replace H := Option.bind_eq_some_iff.mp H
        obtain ⟨t102, A60, H⟩ := H
        replace H : ((laws_gjReads.f k t102 4 a0 ([] : List ByteArray) ([] : List (S29))).bind fun t103 => (some t103)) = some r := H
        have A6 := Aside0.mk A60
        clear A60
        replace H := Option.bind_eq_some_iff.mp H
        obtain ⟨t103, A70, H⟩ := H
        replace H : (some t103) = some r := H
        have A7 := Aside0.mk A70
        clear A70
        obtain rfl := Option.some.inj H
        go_enter Tryd.func5, Tryd.ntmps5
        go_wp2_with (first | (go_at_call 10; (with_reducible refine (spec_UTF8.calls k a0 true _ A4.out).mono ?_); rintro e w' ⟨rfl, ⟨nd, rfl⟩⟩) | (go_at_call 15; (with_reducible refine (impl_GjToStr.calls k a0 t102 _ ?side1 A6.out).mono ?_); (case side1 => first | exact HG.out | exact Laid.below HG.out (by repeat (first | (with_reducible first | exact HB.out | apply below_alloc | apply pw_below_drewN | apply below_drew1) | exact HB.out))); rintro e w8 ⟨rfl, hb⟩; have n0_ := Aside0.mk (below_step (by repeat (first | (with_reducible first | exact HB.out | apply below_alloc | apply pw_below_drewN | apply below_drew1) | exact HB.out)) hb); clear HB; have HB := n0_; clear n0_; (try clear hb); (try clear hb2); (try clear hk); (try clear hi)) | (go_at_call 14; (refine (laws_gjReads.calls k t102 4 a0 _ _ ([] : List ByteArray) _ _ ([] : List (S29)) t103 _ ?side1 ?side2 ?side3 ?side4 A7.out).mono ?_); (case side1 => exact Kd.C_nil _ _); (case side2 => exact Nat.le_refl _); (case side3 => exact Kd.C_nil _ _); (case side4 => exact Nat.le_refl _); rintro e w9 ⟨rfl, hb⟩; have n0_ := Aside0.mk (below_step (by repeat (first | (with_reducible first | exact HB.out | apply below_alloc | apply pw_below_drewN | apply below_drew1) | exact HB.out)) hb); clear HB; have HB := n0_; clear n0_; (try clear hb); (try clear hb2); (try clear hk); (try clear hi)))
        go_ret
        exact ⟨by first | rfl | (simp [errW_none, errW_some] <;> rfl) | (simp [*, errW_none, errW_some] <;> rfl), by repeat (first | (with_reducible first | exact HB.out | apply below_alloc | apply pw_below_drewN | apply below_drew1) | exact HB.out)⟩
      · replace c5 := Bool.eq_false_iff.mpr c5
        subst c5
        have H1 : (some true) = some r := by rw [if_neg (show ¬ (false = true) by decide)] at H; exact H
        clear H
        have H := H1
        clear H1
        obtain rfl := Option.some.inj H
        go_enter Tryd.func5, Tryd.ntmps5
        go_wp2_with (first | (go_at_call 10; (with_reducible refine (spec_UTF8.calls k a0 false _ A4.out).mono ?_); rintro e w' ⟨rfl, ⟨nd, rfl⟩⟩))
        go_ret
        exact ⟨by first | rfl | (simp [errW_none, errW_some] <;> rfl) | (simp [*, errW_none, errW_some] <;> rfl), by repeat (first | (with_reducible first | exact HB.out | apply below_alloc | apply pw_below_drewN | apply below_drew1) | exact HB.out)⟩

/-- THE ONE PURE STATEMENT of laws_FnGjToStrText: yours. -/
def laws_FnGjToStrText.Pure : Prop := ∀ (a0 : ByteArray), a0.size ≤ 140737488351232 → ∃ k, laws_FnGjToStrText.f k a0 = some true
theorem laws_FnGjToStrText.walk (P : laws_FnGjToStrText.Pure) (a0 : ByteArray) (w : World) (hG : Laid w) (w0 : a0.size ≤ 140737488351232) :
    Calls Tryd.prog 5 #[.string a0] w fun e w' => e = .returned (.bool true) ∧ Below w.heap.size w w' := by
  obtain ⟨k, h⟩ := P a0 w0
  refine (laws_FnGjToStrText.calls k a0 true w hG h).mono ?_
  rintro e w' ⟨rfl, hd⟩
  exact ⟨rfl, hd⟩

end Go.Proofs.YtegbajfmhkmolaaDoor.R

/- What gjson writes of a text in UTF-8 is a string's body that says the text. -/
namespace Go.Proofs.YtegbajfmhkmolaaDoor.U
open Go.RowKit Go.Proofs.YtegbajfmhkmolaaDoor.R Go.Proofs.YtegbajfmhkmolaaDoorW.PrintWords Go.Proofs.YtegbajfmhkmolaaDoorW.PrintLast
open J (Body unqL hexv hex4 isE utf hiS loS)

theorem hexv_hexd : ∀ n : Fin 16, hexv (hexd n.val) = some (n.val : Int) := by decide
theorem body_raw : ∀ (l r : List Int), (∀ a ∈ l, a ≠ 34 ∧ ¬ a < 32 ∧ a ≠ 92) → Body r → Body (l ++ r) ∧ unqL (l ++ r) = l ++ unqL r
  | [], _, _, hb => ⟨hb, rfl⟩
  | a :: l, r, h, hb => by
    have ha := h a (by simp)
    obtain ⟨h1, h2⟩ := body_raw l r (fun x hx => h x (by simp [hx])) hb
    exact ⟨.raw ha.1 ha.2.1 ha.2.2 h1, by rw [List.cons_append, J.unqL_raw _ ha.2.2, h2]; rfl⟩
theorem body_two {b : Int} {r : List Int} (hE : isE b = true) (hb : Body r) : Body ([92, b] ++ r) ∧ unqL ([92, b] ++ r) = J.unl b :: unqL r :=
  ⟨.two hE hb, J.unqL_two r (J.isE_ne hE)⟩
theorem body_six {a b c d v : Int} {r : List Int} (hx : hex4 [a, b, c, d] = some v) (hv : hiS v = false) (hb : Body r) : Body ([92, 117, a, b, c, d] ++ r) ∧ unqL ([92, 117, a, b, c, d] ++ r) = utf v ++ unqL r := by
  have hx' : hex4 (a :: b :: c :: d :: r) = some v := hx
  refine ⟨.six hx' hb, ?_⟩
  refine (J.unqL_six hx').trans ?_
  have e : J.pairL v r = none := by
    unfold J.pairL
    rw [hv]
    cases J.unitL r <;> rfl
  rw [e]
theorem esc_body {s : ByteArray} {i c n : Nat} (hi : i < s.size) (hc : Chr s i c n) {r : List Int} (hr : Body r) : Body (esc s i c n ++ r) ∧ unqL (esc s i c n ++ r) = bytesOf (s.extract i (i + n)) ++ unqL r := by
  by_cases hb : nb s i < 128
  · obtain ⟨rfl, rfl⟩ := hc.low hb
    rw [ext_one s i hi]
    have letter : ∀ l : Int, esc s i (nb s i) 1 = [92, l] → isE l = true → J.unl l = (nb s i : Int) → Body (esc s i (nb s i) 1 ++ r) ∧ unqL (esc s i (nb s i) 1 ++ r) = [(nb s i : Int)] ++ unqL r := fun l he h1 h2 => by
      rw [he, ← h2]
      exact body_two h1 hr
    by_cases h1 : nb s i = 34 ∨ nb s i = 92
    · exact letter _ (by unfold esc; rw [if_pos h1]) (by rcases h1 with e | e <;> rw [e] <;> decide) (by rcases h1 with e | e <;> rw [e] <;> decide)
    by_cases h8 : nb s i = 8
    · exact letter 98 (by simp [esc, h8]) (by decide) (by rw [h8]; decide)
    by_cases h12 : nb s i = 12
    · exact letter 102 (by simp [esc, h12]) (by decide) (by rw [h12]; decide)
    by_cases h10 : nb s i = 10
    · exact letter 110 (by simp [esc, h10]) (by decide) (by rw [h10]; decide)
    by_cases h13 : nb s i = 13
    · exact letter 114 (by simp [esc, h13]) (by decide) (by rw [h13]; decide)
    by_cases h9 : nb s i = 9
    · exact letter 116 (by simp [esc, h9]) (by decide) (by rw [h9]; decide)
    unfold esc
    rw [if_neg h1, if_neg h8, if_neg h12, if_neg h10, if_neg h13, if_neg h9]
    by_cases hx : nb s i < 32 ∨ nb s i = 38 ∨ nb s i = 60 ∨ nb s i = 62
    · rw [if_pos hx]
      have e4 : hex4 [48, 48, hexd (nb s i / 16), hexd (nb s i % 16)] = some (nb s i : Int) := by
        simp only [hex4, hexv_hexd ⟨nb s i / 16, by omega⟩, hexv_hexd ⟨nb s i % 16, by omega⟩]
        rw [show hexv 48 = some 0 by decide]
        simp only [Option.bind_some, Option.some.injEq]
        omega
      have := body_six e4 (by simp only [hiS, decide_eq_false_iff_not]; omega) hr
      rwa [show utf (nb s i : Int) = [(nb s i : Int)] by unfold utf; rw [if_pos (by omega)]] at this
    · rw [if_neg hx, if_neg (by omega), ext_one s i hi]
      exact body_raw _ _ (by simp; omega) hr
  · have hall := chr_bytes hc (by omega)
    have hh := hc.high (by omega)
    unfold esc
    rw [if_neg (by omega), if_neg (by omega), if_neg (by omega), if_neg (by omega), if_neg (by omega), if_neg (by omega), if_neg (by omega)]
    by_cases h1 : c = 8232 ∨ c = 8233
    · rw [if_pos h1, ext_list s i n hc.fit]
      have hd := hc.dec
      rw [Lib.decode_at] at hd
      change Lib.decodeN (s.size - i) (nb s i) (nb s (i + 1)) (nb s (i + 2)) (nb s (i + 3)) = _ at hd
      have l0 := nb_lt s i
      have l1 := nb_lt s (i + 1)
      have l2 := nb_lt s (i + 2)
      have l3 := nb_lt s (i + 3)
      have key : n = 3 ∧ nb s i = 226 ∧ nb s (i + 1) = 128 ∧ nb s (i + 2) = 160 + c % 16 := by
        unfold Lib.decodeN at hd
        rw [if_neg (by omega)] at hd
        split at hd
        · split at hd <;> (injection hd with e1 e2; omega)
        · split at hd
          · split at hd <;> (injection hd with e1 e2; omega)
          · split at hd
            · split at hd <;> (injection hd with e1 e2; omega)
            · injection hd with e1 e2
              omega
      obtain ⟨rfl, k1, k2, k3⟩ := key
      have e : (List.range 3).map (fun j => (nb s (i + j) : Int)) = [(nb s i : Int), (nb s (i + 1) : Int), (nb s (i + 2) : Int)] := rfl
      have e4 : hex4 [50, 48, 50, hexd (c % 16)] = some (c : Int) := by
        simp only [hex4, hexv_hexd ⟨c % 16, by omega⟩]
        rw [show hexv 50 = some 2 by decide, show hexv 48 = some 0 by decide]
        simp only [Option.bind_some, Option.some.injEq]
        omega
      have := body_six e4 (by simp only [hiS, decide_eq_false_iff_not]; omega) hr
      rw [e, k1, k2, k3]
      refine ⟨this.1, this.2.trans ?_⟩
      rcases h1 with rfl | rfl <;> rfl
    · rw [if_neg h1]
      refine body_raw _ _ ?_ hr
      intro a ha
      rw [ext_list s i n hc.fit, List.mem_map] at ha
      obtain ⟨j, hj, rfl⟩ := ha
      have := hall j (by simpa using hj)
      omega
/-- What gjson writes of a text from a place on: a body that says it. -/
theorem quoted_body {s : ByteArray} (hs : s.size ≤ 4096) {i : Nat} (hv : Val s i) : ∃ T : List Int, (∀ x0 : List Int, x0.length ≤ 1 + 6 * i → Ev (fun k => gjson_AppendJSONString.l0 k x0 s (i : Int)) (x0 ++ T ++ [34])) ∧ Body T ∧ unqL T = (bytesOf s).drop i ∧ T.length + 6 * i ≤ 6 * s.size ∧ ∀ a ∈ T, 0 ≤ a ∧ a ≤ 255 := by
  induction hv with
  | done =>
    refine ⟨[], fun x0 hx => Ev.step (f := fun _ => some _) (fun k => ?_) (Ev.now _), .nil, ?_, by simp, by simp⟩
    · simp only [gjson_AppendJSONString.l0]
      rw [if_neg (by omega), if_pos (by omega)]
      simp
    · rw [List.drop_of_length_le (by rw [bytesOf_length]; omega), J.unqL_nil]
  | @step i c n hi hc he hv ih =>
    have hf := hc.fit
    have hp := hc.pos
    have hl := esc_least hc
    have h4 := hc.top.2
    obtain ⟨T, h1, h2, h3, h5, h7⟩ := ih
    have hB := esc_body hi hc h2
    refine ⟨esc s i c n ++ T, fun x0 hx => ?_, hB.1, ?_, by rw [List.length_append]; omega, fun a ha => (List.mem_append.1 ha).elim (esc_range s i c n a) (h7 a)⟩
    · have h6 := esc_len s (c := c) hf h4
      have := h1 (x0 ++ esc s i c n) (by rw [List.length_append]; omega)
      refine gq_step (by omega) hi hc x0 (by omega) ?_
      simpa using this
    · rw [hB.2, h3, J.bytesOf_extract, List.drop_take, ← List.drop_drop, Nat.add_sub_cancel_left, List.take_append_drop]
theorem append_ev {s : ByteArray} (hs : s.size ≤ 4096) {L : List Int} (h : Ev (fun k => gjson_AppendJSONString.l0 k [34] s ((0 : Nat) : Int)) L) : Ev (fun k => gjson_AppendJSONString.f k [] s) L := by
  refine Ev.congr (fun k => ?_) h
  have e0 : wrap64 ((s.size : Int) + 2) = ((s.size + 2 : Nat) : Int) := by rw [w64 (by omega)]; omega
  have e1 : wrap64 (((s.size + 2 : Nat) : Int) - (s.size : Int)) = 2 := by rw [w64 (by omega)]; omega
  have e2 : wrap64 ((2 : Int) - 2) = 0 := w64 (by omega)
  simp only [gjson_AppendJSONString.f, e0, Int.toNat_natCast, List.nil_append, Option.bind_some, List.length_replicate, e1, e2]
  rw [if_pos (by omega), if_pos (by simp; omega), if_pos (by decide), if_pos (by omega), if_pos (by simp)]
  rfl
end Go.Proofs.YtegbajfmhkmolaaDoor.U

/- The reader of package spec over strings, and what Unquote makes of them. -/
namespace Go.Proofs.YtegbajfmhkmolaaDoor.J
open Go.RowKit Go.Proofs.YtegbajfmhkmolaaDoor.R Go.Proofs.YtegbajfmhkmolaaDoorW.PrintWords Go.Proofs.YtegbajfmhkmolaaDoorW.PrintLast

theorem hexDigit_eq {c : Int} (h : 0 ≤ c ∧ c ≤ 255) : Ev (fun k => spec_hexDigit.f k c) ((hexv c).getD 0, (hexv c).isSome) := by
  refine ⟨2, fun k hk => ?_⟩
  obtain ⟨k, rfl⟩ : ∃ m, k = m + 2 := ⟨k - 2, by omega⟩
  unfold spec_hexDigit.f hexv
  simp only [spec_hexDigit.j0, spec_hexDigit.j1]
  by_cases h1 : 48 ≤ c ∧ c ≤ 57
  · rw [if_pos h1.1, if_pos (by simp; omega), if_pos h1]
    simp; omega
  rw [if_neg h1]
  have key : (if 97 ≤ c then (if decide (c ≤ 102) = true then some ((c - 97) % 256 + 10, true) else if 65 ≤ c then if c ≤ 70 then some ((c - 65) % 256 + 10, true) else some (0, false) else some (0, false))
      else (if false = true then some ((c - 97) % 256 + 10, true) else if 65 ≤ c then if c ≤ 70 then some ((c - 65) % 256 + 10, true) else some (0, false) else some (0, false))) =
      some (((if 97 ≤ c ∧ c ≤ 102 then some (c - 87) else if 65 ≤ c ∧ c ≤ 70 then some (c - 55) else none : Option Int).getD 0, (if 97 ≤ c ∧ c ≤ 102 then some (c - 87) else if 65 ≤ c ∧ c ≤ 70 then some (c - 55) else none : Option Int).isSome)) := by
    by_cases h2 : 97 ≤ c ∧ c ≤ 102
    · rw [if_pos h2.1, if_pos (by simp; omega), if_pos h2]
      simp; omega
    rw [if_neg h2]
    by_cases h3 : 65 ≤ c ∧ c ≤ 70
    · rw [if_neg (by omega), if_neg (by simp), if_pos h3.1, if_pos h3.2, if_pos h3]
      simp; omega
    · rw [if_neg h3]
      by_cases h4 : 97 ≤ c
      · rw [if_pos h4, if_neg (by simp; omega), if_pos (by omega), if_neg (by omega)]
        rfl
      · rw [if_neg h4, if_neg (by simp)]
        by_cases h5 : 65 ≤ c
        · rw [if_pos h5, if_neg (by omega)]
          rfl
        · rw [if_neg h5]
          rfl
  by_cases h6 : 48 ≤ c
  · rw [if_pos h6, if_neg (by simp; omega)]
    exact key
  · rw [if_neg h6, if_neg (by simp)]
    exact key
theorem here_cons {s : ByteArray} {i : Nat} {a : Int} {l : List Int} (h : From s i (a :: l)) : spec_reader_here.f s (i : Int) = some (a, s, (i : Int)) := by
  have := h.lt
  unfold spec_reader_here.f
  rw [if_pos (by omega), if_pos (by omega), h.bt]
theorem here_nil {s : ByteArray} {i : Nat} (h : From s i []) : spec_reader_here.f s (i : Int) = some (0, s, (i : Int)) := by
  have := h.nil
  unfold spec_reader_here.f
  rw [if_neg (by omega)]
theorem up {i n : Nat} (k : Nat) (h : i ≤ n) (hn : n ≤ 140737488351232) (hk : k ≤ 100) : wrap64 ((i : Int) + (k : Int)) = ((i + k : Nat) : Int) := by
  rw [w64 (by omega)]; omega
theorem up1 {i n : Nat} (h : i ≤ n) (hn : n ≤ 140737488351232) : wrap64 ((i : Int) + 1) = ((i + 1 : Nat) : Int) := up 1 h hn (by omega)
/-- Does a list begin with so many hexadecimal digits? -/
def hexs : Nat → List Int → Bool
  | 0, _ => true
  | _ + 1, [] => false
  | n + 1, a :: r => (hexv a).isSome && hexs n r
theorem hex4_hexs (l : List Int) : (hex4 l).isSome = hexs 4 l := by
  match l with
  | [] => rfl
  | [a] => simp [hex4, hexs]
  | [a, b] => simp [hex4, hexs]
  | [a, b, c] => simp [hex4, hexs]
  | a :: b :: c :: d :: r =>
    simp only [hex4, hexs]
    cases hexv a <;> cases hexv b <;> cases hexv c <;> cases hexv d <;> rfl
section
variable {s : ByteArray} (hs : s.size ≤ 140737488351232)
include hs
theorem esc_l0 : ∀ (n : Nat) (i : Nat) (l : List Int), n ≤ 4 → From s i l →
    (hexs n l = true → Ev (fun k => spec_reader_escape.l0 k (((4 - n : Nat) : Int)) s i) (true, s, ((i + n : Nat) : Int))) ∧
    (hexs n l = false → ∃ p, Ev (fun k => spec_reader_escape.l0 k (((4 - n : Nat) : Int)) s i) (false, s, p))
  | 0, i, l, _, h => ⟨fun _ => Ev.step (f := fun _ => some (true, s, (i : Int))) (fun k => by simp only [spec_reader_escape.l0]; rw [if_neg (by omega)]) (Ev.now _), fun h => by simp [hexs] at h⟩
  | n + 1, i, [], hn, h => by
    refine ⟨fun e => by simp [hexs] at e, fun _ => ⟨(i : Int), ?_⟩⟩
    refine Ev.step (f := fun k => (spec_hexDigit.f k 0).bind fun bt107 => (if bt107.2 = true then (spec_reader_escape.l0 k (wrap64 ((((4 - (n + 1) : Nat) : Int)) + 1)) s (wrap64 ((i : Int) + 1))) else some (false, s, (i : Int)))) (fun k => ?_) (Ev.bind (hexDigit_eq (by omega)) (Ev.congr (fun k => if_neg (by simp [hexv])) (Ev.now _)))
    simp only [spec_reader_escape.l0]
    rw [if_pos (by omega), here_nil h]
    rfl
  | n + 1, i, a :: l, hn, h => by
    have ih := esc_l0 n (i + 1) l (by omega) h.tail
    have e1 : wrap64 ((((4 - (n + 1) : Nat) : Int)) + 1) = (((4 - n : Nat) : Int)) := by rw [w64 (by omega)]; omega
    have e2 := up1 (Nat.le_of_lt h.lt) hs
    have st : ∀ R, Ev (fun k => if (hexv a).isSome = true then (spec_reader_escape.l0 k (((4 - n : Nat) : Int)) s ((i + 1 : Nat) : Int)) else some (false, s, (i : Int))) R → Ev (fun k => spec_reader_escape.l0 k (((4 - (n + 1) : Nat) : Int)) s i) R := fun R hR => by
      refine Ev.step (f := fun k => (spec_hexDigit.f k a).bind fun bt107 => (if bt107.2 = true then (spec_reader_escape.l0 k (((4 - n : Nat) : Int)) s ((i + 1 : Nat) : Int)) else some (false, s, (i : Int)))) (fun k => ?_) (Ev.bind (hexDigit_eq h.head) hR)
      simp only [spec_reader_escape.l0]
      rw [if_pos (by omega), here_cons h, e1]
      simp only [Option.bind_some, e2]
    by_cases ha : (hexv a).isSome = true
    · refine ⟨fun e => ?_, fun e => ?_⟩
      · simp only [hexs, Bool.and_eq_true] at e
        have := st _ (Ev.congr (fun k => if_pos ha) (ih.1 e.2))
        rwa [show i + 1 + n = i + (n + 1) by omega] at this
      · rw [hexs, ha, Bool.true_and] at e
        obtain ⟨p, hp⟩ := ih.2 e
        exact ⟨p, st _ (Ev.congr (fun k => if_pos ha) hp)⟩
    · exact ⟨fun e => by simp [hexs, ha] at e, fun _ => ⟨_, st _ (Ev.congr (fun k => if_neg ha) (Ev.now _))⟩⟩
theorem escape_eq {i : Nat} {l : List Int} (h : From s i l) :
    (∀ r, escL l = some r → Ev (fun k => spec_reader_escape.f k s i) (true, s, ((s.size - r.length : Nat) : Int))) ∧
    (escL l = none → ∃ p, Ev (fun k => spec_reader_escape.f k s i) (false, s, p)) := by
  have j0 : ∀ a x, x = isE a → Ev (fun k => spec_reader_escape.j0 k a x s i) = Ev (fun k => if isE a = true then some (true, s, wrap64 ((i : Int) + 1)) else if a = 117 then spec_reader_escape.l0 (k - 1) 0 s (wrap64 ((i : Int) + 1)) else some (false, s, (i : Int))) := by
    intro a x e
    subst e
    funext R
    apply propext
    constructor
    · rintro ⟨K, hK⟩
      refine ⟨K + 1, fun k hk => ?_⟩
      obtain ⟨k, rfl⟩ : ∃ m, k = m + 1 := ⟨k - 1, by omega⟩
      have := hK (k + 1) (by omega)
      simpa only [spec_reader_escape.j0, Nat.add_sub_cancel] using this
    · rintro ⟨K, hK⟩
      refine ⟨K + 1, fun k hk => ?_⟩
      obtain ⟨k, rfl⟩ : ∃ m, k = m + 1 := ⟨k - 1, by omega⟩
      have := hK (k + 1) (by omega)
      simpa only [spec_reader_escape.j0, Nat.add_sub_cancel] using this
  have sh : ∀ {g : Nat → Option (Bool × ByteArray × Int)} {R}, Ev g R → Ev (fun k => g (k - 1)) R := by
    rintro g R ⟨K, hK⟩
    exact ⟨K + 1, fun k hk => hK _ (by omega)⟩
  match l, h with
  | [], h =>
    refine ⟨fun r hr => by simp [escL] at hr, fun _ => ⟨(i : Int), ?_⟩⟩
    refine Ev.congr (f := fun k => spec_reader_escape.j0 k 0 ((0 : Int) == 116) s i) (fun k => ?_) ?_
    · unfold spec_reader_escape.f
      rw [here_nil h]
      rfl
    · rw [j0 0 _ (by decide)]
      exact Ev.congr (fun k => by rw [if_neg (by decide), if_neg (by decide)]) (Ev.now _)
  | a :: l, h =>
    have e2 := up1 (Nat.le_of_lt h.lt) hs
    have hl := h.len
    simp only [List.length_cons] at hl
    have key : Ev (fun k => spec_reader_escape.f k s i) = Ev (fun k => spec_reader_escape.j0 k a (isE a) s i) := by
      congr 1
      funext k
      unfold spec_reader_escape.f
      rw [here_cons h]
      simp only [Option.bind_some, isE]
      by_cases h1 : a = 34
      · rw [if_pos h1, h1]; rfl
      rw [if_neg h1]
      by_cases h2 : a = 92
      · rw [if_pos h2, h2]; rfl
      rw [if_neg h2]
      by_cases h3 : a = 47
      · rw [if_pos h3, h3]; rfl
      rw [if_neg h3]
      by_cases h4 : a = 98
      · rw [if_pos h4, h4]; rfl
      rw [if_neg h4]
      by_cases h5 : a = 102
      · rw [if_pos h5, h5]; rfl
      rw [if_neg h5]
      by_cases h6 : a = 110
      · rw [if_pos h6, h6]; rfl
      rw [if_neg h6]
      by_cases h7 : a = 114
      · rw [if_pos h7, h7]; rfl
      rw [if_neg h7]
      congr 1
      rw [Bool.eq_iff_iff]
      simp
      omega
    rw [key, j0 a _ rfl]
    by_cases h1 : isE a = true
    · refine ⟨fun r hr => ?_, fun hr => (by rw [escL_let _ h1] at hr; cases hr)⟩
      rw [escL_let _ h1] at hr
      cases hr
      refine Ev.congr (fun k => if_pos h1) (Ev_same (Ev.now _) ?_)
      rw [e2, show i + 1 = s.size - l.length by omega]
    · by_cases h2 : a = 117
      · subst h2
        have hh := esc_l0 hs 4 (i + 1) l (by omega) h.tail
        refine ⟨fun r hr => ?_, fun hr => ?_⟩
        · rw [escL, if_neg h1, if_pos rfl] at hr
          obtain ⟨v, hv, hr⟩ := Option.bind_eq_some_iff.mp hr
          cases hr
          have h4 : hexs 4 l = true := by rw [← hex4_hexs, hv]; rfl
          have hlen := hex4_len hv
          refine Ev.congr (f := fun k => spec_reader_escape.l0 (k - 1) 0 s ((i + 1 : Nat) : Int)) (fun k => by rw [if_neg h1, if_pos rfl, e2]) (Ev_same (sh (hh.1 h4)) ?_)
          rw [show i + 1 + 4 = s.size - (l.drop 4).length by rw [List.length_drop]; omega]
        · rw [escL, if_neg h1, if_pos rfl] at hr
          have h4 : hexs 4 l = false := by
            rw [← hex4_hexs]
            cases hv : hex4 l with
            | none => rfl
            | some v => rw [hv] at hr; cases hr
          obtain ⟨p, hp⟩ := hh.2 h4
          exact ⟨p, Ev.congr (f := fun k => spec_reader_escape.l0 (k - 1) 0 s ((i + 1 : Nat) : Int)) (fun k => by rw [if_neg h1, if_pos rfl, e2]) (sh hp)⟩
      · refine ⟨fun r hr => (by rw [escL, if_neg h1, if_neg h2] at hr; cases hr), fun _ => ⟨(i : Int), Ev.congr (fun k => by rw [if_neg h1, if_neg h2]) (Ev.now _)⟩⟩
theorem quoted_l0 : ∀ (n i : Nat) (l : List Int), l.length ≤ n → From s i l →
    (∀ r, strL l = some r → Ev (fun k => spec_reader_quoted.l0 k s i) (true, s, ((s.size - r.length : Nat) : Int))) ∧
    (strL l = none → ∃ p, Ev (fun k => spec_reader_quoted.l0 k s i) (false, s, p))
  | n, i, [], _, h => by
    have := h.nil
    refine ⟨fun r hr => (by rw [strL_nil] at hr; cases hr), fun _ => ⟨(i : Int), Ev.step (f := fun _ => some (false, s, (i : Int))) (fun k => ?_) (Ev.now _)⟩⟩
    simp only [spec_reader_quoted.l0]
    rw [if_neg (by omega)]
  | 0, i, c :: l, hn, h => by simp at hn
  | n + 1, i, c :: l, hn, h => by
    simp only [List.length_cons] at hn
    have hl := h.len
    simp only [List.length_cons] at hl
    have e2 := up1 (Nat.le_of_lt h.lt) hs
    have st : ∀ k, spec_reader_quoted.l0 (k + 1) s i = (if c = 34 then (some (true, s, ((i + 1 : Nat) : Int))) else (if c < 32 then (some (false, s, ((i + 1 : Nat) : Int))) else (if c = 92 then ((spec_reader_escape.f k s ((i + 1 : Nat) : Int)).bind fun bt101 => (if bt101.1 = true then (spec_reader_quoted.l0 k bt101.2.1 bt101.2.2) else (some (false, bt101.2.1, bt101.2.2)))) else (spec_reader_quoted.l0 k s ((i + 1 : Nat) : Int))))) := fun k => by
      simp only [spec_reader_quoted.l0]
      rw [if_pos (by have := h.lt; omega), if_pos (by omega), h.bt, e2]
    by_cases h1 : c = 34
    · subst h1
      refine ⟨fun r hr => ?_, fun hr => (by rw [strL_end] at hr; cases hr)⟩
      rw [strL_end] at hr
      cases hr
      refine Ev.step (fun k => (st k).trans (if_pos rfl)) (Ev_same (Ev.now _) ?_)
      rw [show i + 1 = s.size - l.length by omega]
    by_cases h2 : c < 32
    · refine ⟨fun r hr => (by rw [strL_low _ h2] at hr; cases hr), fun _ => ⟨_, Ev.step (fun k => (st k).trans ((if_neg h1).trans (if_pos h2))) (Ev.now _)⟩⟩
    by_cases h3 : c = 92
    · subst h3
      have hh := escape_eq hs h.tail
      rw [strL_esc]
      have go : ∀ {a q R}, Ev (fun k => spec_reader_escape.f k s ((i + 1 : Nat) : Int)) (a, s, q) → Ev (fun k => if a = true then (spec_reader_quoted.l0 k s q) else (some (false, s, q))) R → Ev (fun k => spec_reader_quoted.l0 k s i) R := fun {a q R} hx hy =>
        Ev.step (fun k => (st k).trans ((if_neg h1).trans ((if_neg h2).trans (if_pos rfl)))) (Ev.bind hx hy)
      cases he : escL l with
      | none =>
        refine ⟨fun r hr => (by cases hr), fun _ => ?_⟩
        obtain ⟨p, hp⟩ := hh.2 he
        exact ⟨p, go hp (Ev.congr (fun k => if_neg (by decide)) (Ev.now _))⟩
      | some r' =>
        have hlen := escL_len he
        have hp := hh.1 r' he
        have hF : From s (s.size - r'.length) r' := by
          rcases escL_ex he with ⟨b, _, rfl⟩ | ⟨a, b, c, d, v, _, rfl⟩
          · have := h.tail.tail
            have hz := this.len
            rwa [show i + 1 + 1 = s.size - r'.length by omega] at this
          · have := h.tail.tail.tail.tail.tail.tail
            have hz := this.len
            rwa [show i + 1 + 1 + 1 + 1 + 1 + 1 = s.size - r'.length by omega] at this
        have ih := quoted_l0 n (s.size - r'.length) r' (by omega) hF
        refine ⟨fun r hr => go hp (Ev.congr (fun k => if_pos rfl) (ih.1 r hr)), fun hr => ?_⟩
        obtain ⟨p, hq⟩ := ih.2 hr
        exact ⟨p, go hp (Ev.congr (fun k => if_pos rfl) hq)⟩
    · rw [strL_raw _ ⟨h1, h2, h3⟩]
      have ih := quoted_l0 n (i + 1) l (by omega) h.tail
      have go : ∀ k, spec_reader_quoted.l0 (k + 1) s i = spec_reader_quoted.l0 k s ((i + 1 : Nat) : Int) := fun k => (st k).trans ((if_neg h1).trans ((if_neg h2).trans (if_neg h3)))
      refine ⟨fun r hr => Ev.step go (ih.1 r hr), fun hr => ?_⟩
      obtain ⟨p, hq⟩ := ih.2 hr
      exact ⟨p, Ev.step go hq⟩
/-- The reader over a string whose first quotation mark stands at a place. -/
theorem quoted_eq {i : Nat} {c : Int} {l : List Int} (h : From s i (c :: l)) :
    (∀ r, strL l = some r → Ev (fun k => spec_reader_quoted.f k s i) (true, s, ((s.size - r.length : Nat) : Int))) ∧
    (strL l = none → ∃ p, Ev (fun k => spec_reader_quoted.f k s i) (false, s, p)) := by
  have e2 := up1 (Nat.le_of_lt h.lt) hs
  have := quoted_l0 hs l.length (i + 1) l (Nat.le_refl _) h.tail
  unfold spec_reader_quoted.f
  rw [e2]
  exact this
end

end Go.Proofs.YtegbajfmhkmolaaDoor.J

/- What Unquote of package spec makes of a string. -/
namespace Go.Proofs.YtegbajfmhkmolaaDoor.J
open Go.RowKit Go.Proofs.YtegbajfmhkmolaaDoor.R Go.Proofs.YtegbajfmhkmolaaDoorW.PrintWords Go.Proofs.YtegbajfmhkmolaaDoorW.PrintLast

theorem up2 {i n : Nat} (h : i ≤ n) (hn : n ≤ 140737488351232) : wrap64 ((i : Int) + 2) = ((i + 2 : Nat) : Int) := up 2 h hn (by omega)
theorem up6 {i n : Nat} (h : i ≤ n) (hn : n ≤ 140737488351232) : wrap64 ((i : Int) + 6) = ((i + 6 : Nat) : Int) := up 6 h hn (by omega)
theorem high_eq (n : Int) : spec_high.f n = some (hiS n) := by
  unfold spec_high.f hiS
  by_cases h : 55296 ≤ n
  · rw [if_pos h]; simp [h]
  · rw [if_neg h]; simp [h]
theorem low_eq (n : Int) : spec_low.f n = some (loS n) := by
  unfold spec_low.f loS
  by_cases h : 56320 ≤ n
  · rw [if_pos h]; simp [h]
  · rw [if_neg h]; simp [h]
theorem td {c : Int} (h : 0 ≤ c) (k : Int) : Int.tdiv c k = c / k := Int.tdiv_eq_ediv_of_nonneg h
theorem tm {c : Int} (h : 0 ≤ c) (k : Int) : Int.tmod c k = c % k := Int.tmod_eq_emod_of_nonneg h
theorem appendUTF8_eq {l : List Int} {c : Int} (h0 : 0 ≤ c) (h1 : c ≤ 1114111) (hl : l.length + 4 < 140737488355328) : Ev (fun k => spec_appendUTF8.f k l c) (l ++ utf c) := by
  refine ⟨1, fun k hk => ?_⟩
  obtain ⟨k, rfl⟩ : ∃ m, k = m + 1 := ⟨k - 1, by omega⟩
  unfold spec_appendUTF8.f utf
  simp only [spec_appendUTF8.j0, high_eq, low_eq, Option.bind_some, td h0, tm h0]
  have e1 : wrap64 (c / 64) = c / 64 := w64 (by omega)
  have e2 : wrap64 (c / 4096) = c / 4096 := w64 (by omega)
  have e3 : wrap64 (c / 262144) = c / 262144 := w64 (by omega)
  rw [e1, e2, e3, tm (c := c / 64) (by omega), tm (c := c / 4096) (by omega)]
  by_cases a1 : c < 128
  · rw [if_pos a1, if_pos a1, if_pos (by omega)]
    congr 3; omega
  rw [if_neg a1, if_neg a1]
  by_cases a2 : c < 2048
  · rw [if_pos a2, if_pos a2, if_pos (by simp; omega)]
    rw [w64 (x := 192 + c / 64) (by omega), w64 (x := 128 + c % 64) (by omega)]
    congr 3
    · omega
    · congr 1; omega
  rw [if_neg a2, if_neg a2]
  by_cases a3 : hiS c = true
  · rw [if_pos a3, if_pos trivial, if_pos (by simp; omega), if_pos (.inl a3)]
  rw [if_neg a3]
  by_cases a4 : loS c = true
  · rw [if_pos a4, if_pos (by simp; omega), if_pos (.inr a4)]
  rw [if_neg a4, if_neg (show ¬ (hiS c = true ∨ loS c = true) from fun h => h.elim a3 a4)]
  by_cases a5 : c < 65536
  · rw [if_pos a5, if_pos a5, if_pos (by simp; omega)]
    rw [w64 (x := 224 + c / 4096) (by omega), w64 (x := 128 + c / 64 % 64) (by omega), w64 (x := 128 + c % 64) (by omega)]
    congr 3
    · omega
    · congr 1
      · omega
      · congr 1; omega
  · rw [if_neg a5, if_neg a5, if_pos (by simp; omega)]
    rw [w64 (x := 240 + c / 262144) (by omega), w64 (x := 128 + c / 4096 % 64) (by omega), w64 (x := 128 + c / 64 % 64) (by omega), w64 (x := 128 + c % 64) (by omega)]
    congr 3
    · omega
    · congr 1
      · omega
      · congr 1
        · omega
        · congr 1; omega
section
variable {s : ByteArray} (hs : s.size ≤ 140737488351232)
include hs
theorem unit_yes {i j : Nat} {a acc d : Int} {r : List Int} {R : Int × Bool} (h : From s j (a :: r)) (hi : i ≤ s.size) (hj : j < i + 6) (h0 : 0 ≤ acc ∧ acc ≤ 100000000) (hd : hexv a = some d)
    (k : Ev (fun k => spec_unit.l0 k s i (acc * 16 + d) ((j + 1 : Nat) : Int)) R) : Ev (fun k => spec_unit.l0 k s i acc j) R := by
  have hr := hexv_range hd
  refine Ev.step (f := fun k => (spec_hexDigit.f k a).bind fun bt101 => (if bt101.2 = true then (spec_unit.l0 k s i (wrap64 ((wrap64 (acc * 16)) + bt101.1)) ((j + 1 : Nat) : Int)) else some (0, false))) (fun k => ?_)
    (Ev.bind (hexDigit_eq h.head) (Ev.congr (fun n => ?_) k))
  · have := h.lt
    simp only [spec_unit.l0]
    rw [up6 hi hs, if_pos (by omega), if_pos (by omega), if_pos (by omega), h.bt, up1 (Nat.le_of_lt h.lt) hs]
  · rw [hd]
    simp only [Option.isSome_some, if_true, Option.getD_some]
    rw [w64 (x := acc * 16) (by omega), w64 (by omega)]
theorem unit_no {i j : Nat} {a acc : Int} {r : List Int} (h : From s j (a :: r)) (hi : i ≤ s.size) (hj : j < i + 6) (hd : hexv a = none) : Ev (fun k => spec_unit.l0 k s i acc j) (0, false) := by
  refine Ev.step (f := fun k => (spec_hexDigit.f k a).bind fun bt101 => (if bt101.2 = true then (spec_unit.l0 k s i (wrap64 ((wrap64 (acc * 16)) + bt101.1)) ((j + 1 : Nat) : Int)) else some (0, false))) (fun k => ?_)
    (Ev.bind (hexDigit_eq h.head) (Ev.congr (fun n => ?_) (Ev.now _)))
  · have := h.lt
    simp only [spec_unit.l0]
    rw [up6 hi hs, if_pos (by omega), if_pos (by omega), if_pos (by omega), h.bt, up1 (Nat.le_of_lt h.lt) hs]
  · rw [hd]
    rfl
theorem unit_l0 {i : Nat} {l : List Int} (h : From s (i + 2) l) (hl : 4 ≤ l.length) : Ev (fun k => spec_unit.l0 k s i 0 ((i + 2 : Nat) : Int)) ((hex4 l).getD 0, (hex4 l).isSome) := by
  match l, hl, h with
  | a :: b :: c :: d :: r, _, h =>
    have hz := h.len
    simp only [List.length_cons] at hz
    have hi : i ≤ s.size := by omega
    simp only [hex4]
    cases ea : hexv a with
    | none => exact Ev_same (unit_no hs h hi (by omega) ea) (by simp)
    | some x =>
      have := hexv_range ea
      refine unit_yes hs h hi (by omega) (by omega) ea ?_
      cases eb : hexv b with
      | none => exact Ev_same (unit_no hs h.tail hi (by omega) eb) (by simp)
      | some y =>
        have := hexv_range eb
        refine unit_yes hs h.tail hi (by omega) (by omega) eb ?_
        cases ec : hexv c with
        | none => exact Ev_same (unit_no hs h.tail.tail hi (by omega) ec) (by simp)
        | some z =>
          have := hexv_range ec
          refine unit_yes hs h.tail.tail hi (by omega) (by omega) ec ?_
          cases ed : hexv d with
          | none => exact Ev_same (unit_no hs h.tail.tail.tail hi (by omega) ed) (by simp)
          | some u =>
            have := hexv_range ed
            refine unit_yes hs h.tail.tail.tail hi (by omega) (by omega) ed ?_
            refine Ev.step (f := fun _ => some ((((0 * 16 + x) * 16 + y) * 16 + z) * 16 + u, true)) (fun k => ?_) (Ev_same (Ev.now _) (by simp))
            simp only [spec_unit.l0]
            rw [up6 hi hs, if_neg (by omega)]
theorem unit_eq {i : Nat} {l : List Int} (h : From s i l) : Ev (fun k => spec_unit.f k s i) ((unitL l).getD 0, (unitL l).isSome) := by
  have hz := h.len
  have no : Ev (fun k => spec_unit.j0 k s i true) (0, false) := Ev.step (f := fun _ => some (0, false)) (fun k => by simp only [spec_unit.j0]; rw [if_pos trivial]) (Ev.now _)
  unfold spec_unit.f
  have e0 : wrap64 ((s.size : Int) - (i : Int)) = ((l.length : Nat) : Int) := by rw [w64 (by omega)]; omega
  rw [e0]
  by_cases h6 : l.length < 6
  · have e1 : unitL l = none := by
      cases e : unitL l with
      | none => rfl
      | some v => have := unitL_len e; omega
    rw [e1]
    exact Ev.congr (fun k => if_pos (by omega)) no
  · match l, h, h6, hz with
    | [], _, h6, _ => exact absurd (by simp) h6
    | [a], _, h6, _ => exact absurd (by simp) h6
    | a :: b :: l, h, h6, hz =>
      simp only [List.length_cons] at h6 hz
      have hlt := h.lt
      have e1 : unitL (a :: b :: l) = if a = 92 ∧ b = 117 then hex4 l else none := rfl
      by_cases h1 : a = 92
      · refine Ev.congr (f := fun k => spec_unit.j0 k s i (b != 117)) (fun k => ?_) ?_
        · rw [if_neg (by simp only [List.length_cons]; omega), if_pos (by omega), if_pos (by omega), h.bt, if_pos h1, up1 (Nat.le_of_lt h.lt) hs, if_pos (by omega), if_pos (by omega), h.tail.bt]
        · by_cases h2 : b = 117
          · rw [e1, if_pos ⟨h1, h2⟩]
            refine Ev.congr (f := fun k => spec_unit.j0 k s i false) (fun k => by rw [h2]; rfl) ?_
            refine Ev.step (f := fun k => spec_unit.l0 k s i 0 ((i + 2 : Nat) : Int)) (fun k => ?_) (unit_l0 hs (by simpa using h.tail.tail) (by omega))
            simp only [spec_unit.j0]
            rw [if_neg (by decide), up2 (Nat.le_of_lt h.lt) hs]
          · rw [e1, if_neg (by omega)]
            exact Ev.congr (fun k => by rw [bne_iff_ne.mpr h2]) no
      · rw [e1, if_neg (by omega)]
        refine Ev.congr (fun k => ?_) no
        rw [if_neg (by simp only [List.length_cons]; omega), if_pos (by omega), if_pos (by omega), h.bt, if_neg h1]
omit hs in
theorem short_eq (b : Int) : spec_short.f b = some (unl b) := by
  unfold spec_short.f unl
  repeat' split
  all_goals rfl
omit hs in
theorem unitL_range {l : List Int} {v : Int} (h : unitL l = some v) : 0 ≤ v ∧ v ≤ 65535 := by
  unfold unitL at h
  split at h
  · split at h
    · exact hex4_range h
    · cases h
  · cases h
theorem unquote_l0 : ∀ (n i : Nat) (l acc : List Int), l.length ≤ n → From s i l → Body l → acc.length + l.length ≤ 140737488351232 → Ev (fun k => spec_Unquote.l0 k acc s i) (strOfNums (acc ++ unqL l))
  | n, i, [], acc, _, h, _, _ => by
    have := h.nil
    refine Ev.step (f := fun _ => some (strOfNums acc)) (fun k => ?_) (Ev_same (Ev.now _) (by rw [unqL_nil, List.append_nil]))
    simp only [spec_Unquote.l0]
    rw [if_neg (by omega)]
  | 0, i, c :: l, acc, hn, _, _, _ => by simp at hn
  | n + 1, i, c :: l, acc, hn, h, hb, hk => by
    simp only [List.length_cons] at hn hk
    have hlt := h.lt
    have hz := h.len
    simp only [List.length_cons] at hz
    have hle := Nat.le_of_lt hlt
    have e1 := up1 hle hs
    have e2 := up2 hle hs
    have e6 := up6 hle hs
    by_cases hc : c = 92
    · subst hc
      have st : ∀ {a b R}, Ev (fun k => spec_unit.f k s i) (a, b) → Ev (fun x1 => (if b = true then ((spec_unit.f x1 s ((i + 6 : Nat) : Int)).bind fun bt110 => (if bt110.2 = true then ((spec_high.f a).bind fun t112 => (if t112 = true then ((spec_low.f bt110.1).bind fun t113 => (if t113 = true then ((spec_appendUTF8.f x1 acc (wrap64 ((wrap64 (65536 + (wrap64 ((wrap64 (a - 55296)) * 1024)))) + (wrap64 (bt110.1 - 56320))))).bind fun t114 => (spec_Unquote.l0 x1 t114 s (wrap64 (((i + 6 : Nat) : Int) + 6)))) else ((spec_appendUTF8.f x1 acc a).bind fun t117 => (spec_Unquote.l0 x1 t117 s ((i + 6 : Nat) : Int))))) else ((spec_appendUTF8.f x1 acc a).bind fun t120 => (spec_Unquote.l0 x1 t120 s ((i + 6 : Nat) : Int))))) else ((spec_appendUTF8.f x1 acc a).bind fun t123 => (spec_Unquote.l0 x1 t123 s ((i + 6 : Nat) : Int))))) else (if 0 ≤ ((i + 1 : Nat) : Int) then (if ((i + 1 : Nat) : Int) < (s.size : Int) then ((spec_short.f (bt s ((i + 1 : Nat) : Int))).bind fun t106 => (if acc.length < 140737488355328 then (spec_Unquote.l0 x1 (acc ++ [t106]) s ((i + 2 : Nat) : Int)) else (none))) else (none)) else (none)))) R → Ev (fun k => spec_Unquote.l0 k acc s i) R := fun {a b R} hx hy => by
        refine Ev.step (f := fun x1 => (spec_unit.f x1 s i).bind fun bt104 => (if bt104.2 = true then ((spec_unit.f x1 s ((i + 6 : Nat) : Int)).bind fun bt110 => (if bt110.2 = true then ((spec_high.f bt104.1).bind fun t112 => (if t112 = true then ((spec_low.f bt110.1).bind fun t113 => (if t113 = true then ((spec_appendUTF8.f x1 acc (wrap64 ((wrap64 (65536 + (wrap64 ((wrap64 (bt104.1 - 55296)) * 1024)))) + (wrap64 (bt110.1 - 56320))))).bind fun t114 => (spec_Unquote.l0 x1 t114 s (wrap64 (((i + 6 : Nat) : Int) + 6)))) else ((spec_appendUTF8.f x1 acc bt104.1).bind fun t117 => (spec_Unquote.l0 x1 t117 s ((i + 6 : Nat) : Int))))) else ((spec_appendUTF8.f x1 acc bt104.1).bind fun t120 => (spec_Unquote.l0 x1 t120 s ((i + 6 : Nat) : Int))))) else ((spec_appendUTF8.f x1 acc bt104.1).bind fun t123 => (spec_Unquote.l0 x1 t123 s ((i + 6 : Nat) : Int))))) else (if 0 ≤ ((i + 1 : Nat) : Int) then (if ((i + 1 : Nat) : Int) < (s.size : Int) then ((spec_short.f (bt s ((i + 1 : Nat) : Int))).bind fun t106 => (if acc.length < 140737488355328 then (spec_Unquote.l0 x1 (acc ++ [t106]) s ((i + 2 : Nat) : Int)) else (none))) else (none)) else (none)))) (fun k => ?_) (Ev.bind hx hy)
        simp only [spec_Unquote.l0]
        rw [if_pos (by omega), if_pos (by omega), if_pos h.bt, e1, e2, e6]
      have hu := unit_eq hs h
      cases hb with
      | raw _ _ h3 _ => exact absurd rfl h3
      | @two b l hE hb =>
        rw [unitL_two (isE_ne hE)] at hu
        refine st hu (Ev.congr (f := fun x1 => spec_Unquote.l0 x1 (acc ++ [unl b]) s ((i + 2 : Nat) : Int)) (fun k => ?_) ?_)
        · rw [if_neg (by decide), if_pos (by omega), if_pos (by have := h.tail.lt; omega), h.tail.bt, short_eq, Option.bind_some, if_pos (by omega)]
        · simp only [List.length_cons] at hn hk
          refine Ev_same (unquote_l0 n (i + 2) l (acc ++ [unl b]) (by omega) h.tail.tail hb (by simp; omega)) ?_
          rw [unqL_two _ (isE_ne hE), List.append_assoc]
          rfl
      | @six a b c d v l hx hb =>
        have hr := hex4_range hx
        rw [unitL_six hx] at hu
        simp only [List.length_cons] at hn hk
        have hF : From s (i + 6) l := h.tail.tail.tail.tail.tail.tail
        have hu2 := unit_eq hs hF
        have one : ∀ {R}, Ev (fun x1 => (spec_appendUTF8.f x1 acc v).bind fun t123 => (spec_Unquote.l0 x1 t123 s ((i + 6 : Nat) : Int))) R ↔ Ev (fun x1 => (spec_appendUTF8.f x1 acc v).bind fun t123 => (spec_Unquote.l0 x1 t123 s ((i + 6 : Nat) : Int))) R := Iff.rfl
        have hul := utf_len v
        have fin : Ev (fun x1 => (spec_appendUTF8.f x1 acc v).bind fun t123 => (spec_Unquote.l0 x1 t123 s ((i + 6 : Nat) : Int))) (strOfNums (acc ++ (utf v ++ unqL l))) := by
          refine Ev.bind (appendUTF8_eq hr.1 (by omega) (by omega)) ?_
          have := unquote_l0 n (i + 6) l (acc ++ utf v) (by omega) hF hb (by simp; omega)
          rwa [List.append_assoc] at this
        refine st hu ?_
        rw [unqL_six hx]
        refine Ev.congr (fun k => if_pos rfl) (Ev.bind hu2 ?_)
        simp only [Option.getD_some]
        cases hv2 : unitL l with
        | none =>
          have e : pairL v l = none := by unfold pairL; rw [hv2]; rfl
          rw [e]
          exact Ev.congr (fun k => if_neg (by simp)) fin
        | some m =>
          have hm := unitL_range hv2
          refine Ev.congr (f := fun x1 => if hiS v = true then (if loS m = true then ((spec_appendUTF8.f x1 acc (wrap64 ((wrap64 (65536 + (wrap64 ((wrap64 (v - 55296)) * 1024)))) + (wrap64 (m - 56320))))).bind fun t114 => (spec_Unquote.l0 x1 t114 s (wrap64 (((i + 6 : Nat) : Int) + 6)))) else ((spec_appendUTF8.f x1 acc v).bind fun t117 => (spec_Unquote.l0 x1 t117 s ((i + 6 : Nat) : Int)))) else ((spec_appendUTF8.f x1 acc v).bind fun t120 => (spec_Unquote.l0 x1 t120 s ((i + 6 : Nat) : Int)))) (fun k => ?_) ?_
          · rw [if_pos (by simp), high_eq, Option.bind_some]
            simp only [low_eq, Option.bind_some, Option.getD_some]
          by_cases h3 : hiS v = true
          · by_cases h4 : loS m = true
            · have e : pairL v l = some m := by unfold pairL; rw [hv2, Option.bind_some, h3, h4]; rfl
              rw [e]
              have h3' := h3
              have h4' := h4
              simp only [hiS, decide_eq_true_eq] at h3'
              simp only [loS, decide_eq_true_eq] at h4'
              have h6 := unitL_len hv2
              have hC : wrap64 ((wrap64 (65536 + (wrap64 ((wrap64 (v - 55296)) * 1024)))) + (wrap64 (m - 56320))) = 65536 + (v - 55296) * 1024 + (m - 56320) := by
                rw [w64 (x := v - 55296) (by omega), w64 (x := (v - 55296) * 1024) (by omega), w64 (x := 65536 + (v - 55296) * 1024) (by omega), w64 (x := m - 56320) (by omega), w64 (by omega)]
              have hul2 := utf_len (65536 + (v - 55296) * 1024 + (m - 56320))
              refine Ev.congr (f := fun x1 => (spec_appendUTF8.f x1 acc (65536 + (v - 55296) * 1024 + (m - 56320))).bind fun t114 => (spec_Unquote.l0 x1 t114 s ((i + 6 + 6 : Nat) : Int))) (fun k => ?_) (Ev.bind (appendUTF8_eq (by omega) (by omega) (by omega)) ?_)
              · rw [if_pos h3, if_pos h4, hC, up6 (i := i + 6) (by have := hF.len; omega) hs]
              · have := unquote_l0 n (i + 6 + 6) (l.drop 6) (acc ++ utf (65536 + (v - 55296) * 1024 + (m - 56320))) (by rw [List.length_drop]; omega) (hF.drop 6 h6) (body_drop6 hb hv2) (by simp; omega)
                rwa [List.append_assoc] at this
            · have e : pairL v l = none := by unfold pairL; rw [hv2, Option.bind_some, if_neg (by simp [h4])]
              rw [e]
              exact Ev.congr (fun k => by rw [if_pos h3, if_neg h4]) fin
          · have e : pairL v l = none := by unfold pairL; rw [hv2, Option.bind_some, if_neg (by simp [h3])]
            rw [e]
            exact Ev.congr (fun k => if_neg h3) fin
    · cases hb with
      | two h1 hb => exact absurd rfl hc
      | six h1 hb => exact absurd rfl hc
      | raw _ _ _ hb =>
        refine Ev.step (fun k => ?_) (Ev_same (unquote_l0 n (i + 1) l (acc ++ [c]) (by omega) h.tail hb (by simp; omega)) ?_)
        · simp only [spec_Unquote.l0]
          rw [if_pos (by omega), if_pos (by omega), h.bt, if_neg hc, if_pos (by omega), e1]
        · rw [unqL_raw _ hc, List.append_assoc]
          rfl
/-- Unquote of a string with its quotation marks. -/
theorem unquote_eq {b : List Int} (hq : bytesOf s = 34 :: (b ++ [34])) (hb : Body b) : Ev (fun k => spec_Unquote.f k s) (strOfNums (unqL b)) := by
  have hz : s.size = b.length + 2 := by
    have := congrArg List.length hq
    rw [bytesOf_length] at this
    simpa using this
  have e0 : wrap64 ((s.size : Int) - 1) = ((b.length + 1 : Nat) : Int) := by rw [w64 (by omega)]; omega
  have hF : From s 1 (b ++ [34]) := ⟨by omega, by rw [hq]; rfl⟩
  have hx : bytesOf (s.extract 1 (b.length + 1)) = b := by
    have := hF.extract
    rwa [Nat.add_comm] at this
  refine Ev.congr (f := fun k => spec_Unquote.l0 k [] (s.extract 1 (b.length + 1)) ((0 : Nat) : Int)) (fun k => ?_) ?_
  · unfold spec_Unquote.f
    rw [e0, if_pos (by omega), if_pos (by omega), Int.toNat_natCast]
    rfl
  · have hz2 : (s.extract 1 (b.length + 1)).size ≤ 140737488351232 := by
      rw [← bytesOf_length, hx]
      omega
    have := unquote_l0 hz2 b.length 0 b [] (Nat.le_refl _) (by have := From.start (s.extract 1 (b.length + 1)); rwa [hx] at this) hb (by simp; omega)
    simpa using this
end

end Go.Proofs.YtegbajfmhkmolaaDoor.J

/- What '@tostr' makes of a text in UTF-8 is read as a string with its characters. -/
namespace Go.Proofs.YtegbajfmhkmolaaDoor.Pure
open Go.RowKit Go.Proofs.YtegbajfmhkmolaaDoor.R Go.Proofs.YtegbajfmhkmolaaDoorW.PrintWords Go.Proofs.YtegbajfmhkmolaaDoorW.PrintLast
open J (From Body unqL w64 Ev_same up1)

theorem blanks_no {s : ByteArray} {i : Nat} {a : Int} {l : List Int} (h : From s i (a :: l)) (ha : ¬ (a = 32 ∨ a = 9 ∨ a = 10 ∨ a = 13)) : Ev (fun k => spec_reader_blanks.f k s i) (s, (i : Int)) := by
  have hlt := h.lt
  refine Ev.step (f := fun _ => some (s, (i : Int))) (fun k => ?_) (Ev.now _)
  unfold spec_reader_blanks.f
  simp only [spec_reader_blanks.l0]
  rw [if_pos (by omega), if_pos (by omega), h.bt]
  unfold spec_Blank.f
  rw [if_neg (by omega), if_neg (by omega), if_neg (by omega)]
  simp only [Option.bind_some]
  rw [if_neg (by simp; omega)]
theorem blanks_end {s : ByteArray} {i : Nat} (h : From s i []) : Ev (fun k => spec_reader_blanks.f k s i) (s, (i : Int)) := by
  have := h.nil
  refine Ev.step (f := fun _ => some (s, (i : Int))) (fun k => ?_) (Ev.now _)
  unfold spec_reader_blanks.f
  simp only [spec_reader_blanks.l0]
  rw [if_neg (by omega)]
theorem FnGjToStrText : laws_FnGjToStrText.Pure := by
  intro s hs
  refine Ev.rounds ?_
  by_cases h1 : s.size > 2147483647
  · exact Ev.congr (fun k => by unfold laws_FnGjToStrText.f; rw [if_pos (by omega)]) (Ev.now _)
  by_cases h2 : s.size > 4096
  · exact Ev.congr (fun k => by unfold laws_FnGjToStrText.f; rw [if_neg (by omega), if_pos (by omega)]) (Ev.now _)
  obtain ⟨b, hb, hv⟩ := U.utf8_val (s := s) (by omega) s.size 0 (by omega) (by omega)
  refine Ev.congr (f := fun k => (spec_UTF8.f k s).bind fun t101 => (if t101 = true then ((impl_GjToStr.f k s).bind fun t102 => ((laws_gjReads.f k t102 4 s ([] : List ByteArray) ([] : List (S29))).bind fun t103 => (some t103))) else (some true))) (fun k => by unfold laws_FnGjToStrText.f; rw [if_neg (by omega), if_neg (by omega)]) ?_
  refine Ev.bind hb ?_
  cases b with
  | false => exact Ev.congr (fun k => if_neg (by decide)) (Ev.now _)
  | true =>
    refine Ev.congr (fun k => if_pos rfl) ?_
    obtain ⟨T, t1, t2, t3, t4, t5⟩ := U.quoted_body (s := s) (by omega) (hv rfl)
    have t1 := U.append_ev (by omega) (t1 [34] (by simp))
    have t3 : unqL T = bytesOf s := t3
    have e0 : Ev (fun k => impl_GjToStr.f k s) (strOfNums ([34] ++ T ++ [34])) := by
      unfold impl_GjToStr.f gjson_DoorToStr.f gjson_modToStr.f
      exact Ev.bind (Ev.bind (Ev.bind t1 (Ev.now _)) (Ev.now _)) (Ev.now _)
    refine Ev.bind e0 (Ev.bind (a := true) ?_ (Ev.now _))
    have hq : bytesOf (strOfNums ([34] ++ T ++ [34])) = 34 :: (T ++ [34]) := J.bytesOf_strOfNums _ (by
      intro a ha
      simp at ha
      rcases ha with rfl | h | rfl
      · omega
      · exact t5 a h
      · omega)
    generalize strOfNums ([34] ++ T ++ [34]) = q at hq
    have hz : q.size = T.length + 2 := by
      have := congrArg List.length hq
      rw [bytesOf_length] at this
      simpa using this
    have hqz : q.size ≤ 140737488351232 := by omega
    have F0 : From q 0 (34 :: (T ++ [34])) := by have := From.start q; rwa [hq] at this
    have hstr := (J.quoted_eq hqz F0).1 [] (J.strL_body t2 [])
    have hpl : Ev (fun k => spec_Places.f k q) (4, 0, (q.size : Int), [], [], true) := by
      unfold spec_Places.f
      have b0 := blanks_no F0 (by omega)
      have FE : From q q.size [] := by
        have := F0.drop q.size (by simp; omega)
        rwa [List.drop_of_length_le (by simp; omega), Nat.zero_add] at this
      refine Ev.bind b0 (Ev.bind (a := (4, 0, (q.size : Int), [], [], true, q, (q.size : Int))) ?_ ?_)
      · refine Ev.congr (f := fun k => (spec_reader_quoted.f k q ((0 : Nat) : Int)).bind fun bt121 => (some (4, 0, bt121.2.2, ([] : List (S107)), ([] : List (S43)), bt121.1, bt121.2.1, bt121.2.2))) (fun k => ?_) (Ev.bind hstr (Ev_same (Ev.now _) (by simp)))
        simp only [spec_reader_value.f]
        rw [J.here_cons F0]
        simp only [Option.bind_some]
        rw [if_neg (by decide), if_neg (by decide), if_pos trivial]
        rfl
      · refine Ev.congr (fun k => if_pos rfl) (Ev.bind (blanks_end FE) ?_)
        exact Ev.congr (fun k => if_pos rfl) (Ev.now _)
    have htr : Ev (fun k => spec_Tree.f k q 4 0 (q.size : Int) [] []) (4, s, [], []) := by
      have hx : q.extract 0 q.size = q := by
        apply J.bytesOf_inj
        rw [J.bytesOf_extract, List.take_of_length_le (by rw [bytesOf_length]; omega)]
        rfl
      have hu := J.unquote_eq hqz hq t2
      rw [t3, J.strOfNums_bytesOf] at hu
      refine Ev.congr (f := fun k => (spec_Unquote.f k q).bind fun t104 => (spec_Tree.l0 k 0 4 0 (q.size : Int) [] [] 4 t104)) (fun k => ?_) (Ev.bind hu ?_)
      · simp only [spec_Tree.f]
        rw [if_neg (by decide), if_pos trivial, if_pos (by decide), if_pos (by omega), if_pos (by omega), Int.toNat_natCast, Int.toNat_zero, hx]
      · refine Ev.step (f := fun k => spec_Tree.l1 k 0 4 0 (q.size : Int) [] [] 4 s) (fun k => ?_) (Ev.step (f := fun _ => some (4, s, [], [])) (fun k => ?_) (Ev.now _))
        · simp only [spec_Tree.l0]
          rw [if_neg (by simp)]
        · simp only [spec_Tree.l1]
          rw [if_neg (by simp)]
    unfold laws_gjReads.f spec_Read.f
    refine Ev.bind (a := (4, s, [], [], true)) (Ev.bind hpl (Ev.congr (fun k => if_pos rfl) (Ev.bind htr (Ev.now _)))) ?_
    refine Ev.congr (fun k => if_pos rfl) (Ev.bind (a := true) ?_ (Ev.now _))
    refine Ev.congr (f := fun k => spec_Same.j0 k false 4 s [] []) (fun k => ?_) (Ev.step (f := fun k => spec_Same.l0 k 0 4 s [] []) (fun k => ?_) (Ev.step (f := fun k => spec_Same.l1 k 0 4 s [] []) (fun k => ?_) (Ev.step (f := fun _ => some true) (fun k => ?_) (Ev.now _))))
    · simp only [spec_Same.f]
      rw [if_pos trivial, if_pos trivial, if_pos trivial]
      rfl
    · simp only [spec_Same.j0]
      rw [if_neg (by decide)]
    · simp only [spec_Same.l0]
      rw [if_neg (by simp)]
    · simp only [spec_Same.l1]
      rw [if_neg (by simp)]
end Go.Proofs.YtegbajfmhkmolaaDoor.Pure
