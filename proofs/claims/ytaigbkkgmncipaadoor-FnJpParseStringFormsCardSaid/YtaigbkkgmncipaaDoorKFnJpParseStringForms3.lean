/- The words, walks and laws that the proof rests on, laid together (part 3). -/
import Derived.Test.YtaigbkkgmncipaaDoorKFnJpParseStringForms2
section
namespace Go.Proofs.YtaigbkkgmncipaaDoor.Y
open Go.RowKit Go.Proofs.YtaigbkkgmncipaaDoorW.PrintWords Go.Proofs.YtaigbkkgmncipaaDoorW.PrintLast Go.Proofs.YtaigbkkgmncipaaDoorW.PrintMore
attribute [local go_sem] max2_int min2_int max_two min_two max_three min_three max_four min_four
set_option linter.unusedVariables false
set_option linter.unusedSimpArgs false
mutual
def spec_reader_number.j0 : Nat → Bool → ByteArray → Int → Option (Bool × ByteArray × Int)
  | 0, _, _, _ => none
  | k + 1, x12, x1000, x1001 => if x12 = true then (some (false, x1000, x1001)) else ((spec_reader_take.f x1000 x1001 46).bind fun bt110 => (if bt110.1 = true then ((spec_reader_digits.f k bt110.2.1 bt110.2.2).bind fun bt113 => (spec_reader_number.j1 k (!bt113.1) bt113.2.1 bt113.2.2)) else (spec_reader_number.j1 k false bt110.2.1 bt110.2.2)))
def spec_reader_number.j1 : Nat → Bool → ByteArray → Int → Option (Bool × ByteArray × Int)
  | 0, _, _, _ => none
  | k + 1, x19, x1000, x1001 => if x19 = true then (some (false, x1000, x1001)) else ((spec_reader_take.f x1000 x1001 101).bind fun bt116 => (if bt116.1 = true then (spec_reader_number.j2 k true bt116.2.1 bt116.2.2) else ((spec_reader_take.f bt116.2.1 bt116.2.2 69).bind fun bt119 => (spec_reader_number.j2 k bt119.1 bt119.2.1 bt119.2.2))))
def spec_reader_number.j2 : Nat → Bool → ByteArray → Int → Option (Bool × ByteArray × Int)
  | 0, _, _, _ => none
  | k + 1, x25, x1000, x1001 => if x25 = true then ((spec_reader_take.f x1000 x1001 43).bind fun bt122 => (if bt122.1 = true then ((spec_reader_digits.f k bt122.2.1 bt122.2.2).bind fun bt125 => (some (bt125.1, bt125.2.1, bt125.2.2))) else ((spec_reader_take.f bt122.2.1 bt122.2.2 45).bind fun bt128 => ((spec_reader_digits.f k bt128.2.1 bt128.2.2).bind fun bt131 => (some (bt131.1, bt131.2.1, bt131.2.2)))))) else (some (true, x1000, x1001))
end
def spec_reader_number.f (k : Nat) (s0_0 : ByteArray) (s0_1 : Int) : Option (Bool × ByteArray × Int) := (spec_reader_take.f s0_0 s0_1 45).bind fun bt101 => ((spec_reader_take.f bt101.2.1 bt101.2.2 48).bind fun bt104 => (if bt104.1 = true then (spec_reader_number.j0 k false bt104.2.1 bt104.2.2) else ((spec_reader_digits.f k bt104.2.1 bt104.2.2).bind fun bt107 => (spec_reader_number.j0 k (!bt107.1) bt107.2.1 bt107.2.2))))
theorem spec_reader_number.mono_l : ∀ k, (∀ y0 y1 y2, LeO (spec_reader_number.j0 k y0 y1 y2) (spec_reader_number.j0 (k + 1) y0 y1 y2)) ∧ (∀ y0 y1 y2, LeO (spec_reader_number.j1 k y0 y1 y2) (spec_reader_number.j1 (k + 1) y0 y1 y2)) ∧ (∀ y0 y1 y2, LeO (spec_reader_number.j2 k y0 y1 y2) (spec_reader_number.j2 (k + 1) y0 y1 y2))
 | 0 => ⟨fun _ _ _ r h => by simp [spec_reader_number.j0] at h, fun _ _ _ r h => by simp [spec_reader_number.j1] at h, fun _ _ _ r h => by simp [spec_reader_number.j2] at h⟩
 | k + 1 => by
  obtain ⟨ih0, ih1, ih2⟩ := spec_reader_number.mono_l k
  refine ⟨?_, ?_, ?_⟩
  ·intro y0 y1 y2
   unfold spec_reader_number.j0
   repeat' first
   | (with_reducible exact ih0 _ _ _)
   | (with_reducible exact ih1 _ _ _)
   | (with_reducible exact ih2 _ _ _)
   | (with_reducible exact spec_reader_digits.mono _ _ _)
   | (with_reducible exact LeO.refl _)
   | (with_reducible exact LeO.none _)
   | (with_reducible refine LeO.ite ?_ ?_)
   | (with_reducible refine LeO.bind ?_ (fun _ => ?_))
   | exact ih0 _ _ _
   | exact ih1 _ _ _
   | exact ih2 _ _ _
   | exact spec_reader_digits.mono _ _ _
   | exact LeO.none _
   | refine LeO.ite ?_ ?_
   | refine LeO.bind ?_ (fun _ => ?_)
  ·intro y0 y1 y2
   unfold spec_reader_number.j1
   repeat' first
   | (with_reducible exact ih0 _ _ _)
   | (with_reducible exact ih1 _ _ _)
   | (with_reducible exact ih2 _ _ _)
   | (with_reducible exact spec_reader_digits.mono _ _ _)
   | (with_reducible exact LeO.refl _)
   | (with_reducible exact LeO.none _)
   | (with_reducible refine LeO.ite ?_ ?_)
   | (with_reducible refine LeO.bind ?_ (fun _ => ?_))
   | exact ih0 _ _ _
   | exact ih1 _ _ _
   | exact ih2 _ _ _
   | exact spec_reader_digits.mono _ _ _
   | exact LeO.none _
   | refine LeO.ite ?_ ?_
   | refine LeO.bind ?_ (fun _ => ?_)
  ·intro y0 y1 y2
   unfold spec_reader_number.j2
   repeat' first
   | (with_reducible exact ih0 _ _ _)
   | (with_reducible exact ih1 _ _ _)
   | (with_reducible exact ih2 _ _ _)
   | (with_reducible exact spec_reader_digits.mono _ _ _)
   | (with_reducible exact LeO.refl _)
   | (with_reducible exact LeO.none _)
   | (with_reducible refine LeO.ite ?_ ?_)
   | (with_reducible refine LeO.bind ?_ (fun _ => ?_))
   | exact ih0 _ _ _
   | exact ih1 _ _ _
   | exact ih2 _ _ _
   | exact spec_reader_digits.mono _ _ _
   | exact LeO.none _
   | refine LeO.ite ?_ ?_
   | refine LeO.bind ?_ (fun _ => ?_)
theorem spec_reader_number.mono : ∀ a0 a1 k, LeO (spec_reader_number.f k a0 a1) (spec_reader_number.f (k + 1) a0 a1) := by
 intro a0 a1 k
 obtain ⟨ih0, ih1, ih2⟩ := spec_reader_number.mono_l k
 unfold spec_reader_number.f
 repeat' first
  | (with_reducible exact ih0 _ _ _)
  | (with_reducible exact ih1 _ _ _)
  | (with_reducible exact ih2 _ _ _)
  | (with_reducible exact spec_reader_digits.mono _ _ _)
  | (with_reducible exact LeO.refl _)
  | (with_reducible exact LeO.none _)
  | (with_reducible refine LeO.ite ?_ ?_)
  | (with_reducible refine LeO.bind ?_ (fun _ => ?_))
  | exact ih0 _ _ _
  | exact ih1 _ _ _
  | exact ih2 _ _ _
  | exact spec_reader_digits.mono _ _ _
  | exact LeO.none _
  | refine LeO.ite ?_ ?_
  | refine LeO.bind ?_ (fun _ => ?_)
set_option maxHeartbeats 8000000 in
set_option maxRecDepth 100000 in
theorem spec_reader_number.calls (k : Nat) (g : Nat) (s0_0 : ByteArray) (s0_1 : Int) (r1 : Bool) (r2 : ByteArray) (r3 : Int) (w0 w : World) (hI : IsS56 w0 w g s0_0 s0_1) (hB : Below w0.heap.size w0 w) (h : spec_reader_number.f k s0_0 s0_1 = some (r1, r2, r3)) :
 Calls Tryd.prog 52 #[.pointer (some ⟨g, 0, none⟩)] w fun e w' => e = .returned (.bool r1) ∧ IsS56 w0 w' g r2 r3 ∧ Below w0.heap.size w0 w' ∧ KeepBut w w' g none := by
 have HI0 := mk0 hI
 have HK := mk0 (KeepBut.refl w g none)
 have HL := mk0 hB.size
 clear hI
 have HW0 := mk0 hB.size
 have HB := mk0 hB
 clear hB
 have H : ((spec_reader_take.f s0_0 s0_1 45).bind fun bt101 => ((spec_reader_take.f bt101.2.1 bt101.2.2 48).bind fun bt104 => (if bt104.1 = true then (spec_reader_number.j0 k false bt104.2.1 bt104.2.2) else ((spec_reader_digits.f k bt104.2.1 bt104.2.2).bind fun bt107 => (spec_reader_number.j0 k (!bt107.1) bt107.2.1 bt107.2.2))))) = some (r1, r2, r3) := h
 clear h
 replace H := Option.bind_eq_some_iff.mp H
 obtain ⟨⟨t101, t102, t103⟩, A20, H⟩ := H
 replace H : ((spec_reader_take.f t102 t103 48).bind fun bt104 => (if bt104.1 = true then (spec_reader_number.j0 k false bt104.2.1 bt104.2.2) else ((spec_reader_digits.f k bt104.2.1 bt104.2.2).bind fun bt107 => (spec_reader_number.j0 k (!bt107.1) bt107.2.1 bt107.2.2)))) = some (r1, r2, r3) := H
 have A2 := mk0 A20
 clear A20
 have HC3 := mk0 H
 clear H
 go_enter Tryd.func52, Tryd.ntmps52
 go_upto_region 2 with (first | ((with_reducible refine gate_callee (f := 67) rfl ?_); refine goesL_ (some 4) rfl rfl Tryd.func67 zq23 rfl #[.pointer (some ⟨g, 0, none⟩), .int .u8 45] rfl zq2 ?_; (with_reducible refine (spec_reader_take.calls g s0_0 s0_1 45 t101 t102 t103 w0 _ ?side1 ?side2 A2.out).mono ?_); (case side1 => exact zq0); (case side2 => exact zq3); rintro e w4 ⟨rfl, hi, hb, hk⟩; refine ⟨_, rfl, ?_⟩; have n0_ := mk0 (KeepBut.trans zq1 hk (.inl rfl)); have n1_ := mk0 (hb); have n2_ := mk0 (hi); clear HK HB HI0; have HK := n0_; have HB := n1_; have HI0 := n2_; clear n0_ n1_ n2_; (try clear hb); (try clear hb2); (try clear hk); (try clear hi)))
 (try simp only [Act.put, List.setIfInBounds_toArray, List.set_cons_zero, List.set_cons_succ])
 go_cut [12] (fun v12 wc => ∃ (kq : Nat) (x12_2 : Bool) (x1000_2 : ByteArray) (x1001_2 : Int), v12 = .bool x12_2 ∧ Aside0 (spec_reader_number.j0 kq x12_2 x1000_2 x1001_2 = some (r1, r2, r3)) ∧ Aside0 (kq ≤ k) ∧ Aside0 (IsS56 w0 wc g x1000_2 x1001_2) ∧ Aside0 (KeepBut w wc g none) ∧ Aside0 (Below w0.heap.size w0 wc))
 case first =>
  have H := HC3.out
  clear HC3
  replace H := Option.bind_eq_some_iff.mp H
  obtain ⟨⟨t104, t105, t106⟩, A50, H⟩ := H
  replace H : (if t104 = true then (spec_reader_number.j0 k false t105 t106) else ((spec_reader_digits.f k t105 t106).bind fun bt107 => (spec_reader_number.j0 k (!bt107.1) bt107.2.1 bt107.2.2))) = some (r1, r2, r3) := H
  have A5 := mk0 A50
  clear A50
  by_cases c6 : t104 = true
  ·subst c6
   have H1 : (spec_reader_number.j0 k false t105 t106) = some (r1, r2, r3) := by rw [if_pos rfl] at H; exact H
   clear H
   have H := H1
   clear H1
   have H' := mk0 H
   clear H
   go_wp2_with (first | ((with_reducible refine gate_callee (f := 67) rfl ?_); refine goesL_ (some 6) rfl rfl Tryd.func67 zq23 rfl #[.pointer (some ⟨g, 0, none⟩), .int .u8 48] rfl zq2 ?_; (with_reducible refine (spec_reader_take.calls g t102 t103 48 true t105 t106 w0 _ ?side1 ?side2 A5.out).mono ?_); (case side1 => exact zq0); (case side2 => exact zq3); rintro e w7 ⟨rfl, hi, hb, hk⟩; refine ⟨_, rfl, ?_⟩; have n0_ := mk0 (KeepBut.trans zq1 hk (.inl rfl)); have n1_ := mk0 (hb); have n2_ := mk0 (hi); clear HK HB HI0; have HK := n0_; have HB := n1_; have HI0 := n2_; clear n0_ n1_ n2_; (try clear hb); (try clear hb2); (try clear hk); (try clear hi)))
   go_meet
   case rel => exact ⟨_, (false), (t105), (t106), zq13, H', ⟨by first | omega | exact Nat.le_refl _⟩, ⟨by repeat (first | (with_reducible first | exact HI0.out | apply IsS56.alloc | apply IsS56.drewN | apply IsS56.drew | apply IsS56.set_0 | apply IsS56.set_1) | exact HI0.out)⟩, ⟨by repeat (first | (with_reducible first | exact HK.out | apply KeepBut.set_ | apply keep_drewN | apply keep_drew | apply keep_alloc) | exact HK.out)⟩, ⟨by repeat (first | (with_reducible first | exact HB.out | apply below_alloc | apply pw_below_drewN | apply below_drew1 | refine below_set ?_ (IsS56.ge HI0.out)) | exact HB.out)⟩⟩
  replace c6 := Bool.eq_false_iff.mpr c6
  subst c6
  have H1 : ((spec_reader_digits.f k t105 t106).bind fun bt107 => (spec_reader_number.j0 k (!bt107.1) bt107.2.1 bt107.2.2)) = some (r1, r2, r3) := by rw [if_neg (show ¬ (false = true) by decide)] at H; exact H
  clear H
  have H := H1
  clear H1
  replace H := Option.bind_eq_some_iff.mp H
  obtain ⟨⟨t107, t108, t109⟩, A80, H⟩ := H
  replace H : (spec_reader_number.j0 k (!t107) t108 t109) = some (r1, r2, r3) := H
  have A8 := mk0 A80
  clear A80
  have H' := mk0 H
  clear H
  go_wp2_with (first | ((with_reducible refine gate_callee (f := 67) rfl ?_); refine goesL_ (some 6) rfl rfl Tryd.func67 zq23 rfl #[.pointer (some ⟨g, 0, none⟩), .int .u8 48] rfl zq2 ?_; (with_reducible refine (spec_reader_take.calls g t102 t103 48 false t105 t106 w0 _ ?side1 ?side2 A5.out).mono ?_); (case side1 => exact zq0); (case side2 => exact zq3); rintro e w9 ⟨rfl, hi, hb, hk⟩; refine ⟨_, rfl, ?_⟩; have n0_ := mk0 (KeepBut.trans zq1 hk (.inl rfl)); have n1_ := mk0 (hb); have n2_ := mk0 (hi); clear HK HB HI0; have HK := n0_; have HB := n1_; have HI0 := n2_; clear n0_ n1_ n2_; (try clear hb); (try clear hb2); (try clear hk); (try clear hi)) | (go_at_call 68; (with_reducible refine (spec_reader_digits.calls k g t105 t106 t107 t108 t109 w0 _ ?side1 ?side2 A8.out).mono ?_); (case side1 => exact zq0); (case side2 => exact zq3); rintro e w10 ⟨rfl, hi, hb, hk⟩; have n0_ := mk0 (KeepBut.trans zq1 hk (.inl rfl)); have n1_ := mk0 (hb); have n2_ := mk0 (hi); clear HK HB HI0; have HK := n0_; have HB := n1_; have HI0 := n2_; clear n0_ n1_ n2_; (try clear hb); (try clear hb2); (try clear hk); (try clear hi)))
  go_meet
  case rel => exact ⟨_, (!t107), (t108), (t109), zq13, H', ⟨by first | omega | exact Nat.le_refl _⟩, ⟨by repeat (first | (with_reducible first | exact HI0.out | apply IsS56.alloc | apply IsS56.drewN | apply IsS56.drew | apply IsS56.set_0 | apply IsS56.set_1) | exact HI0.out)⟩, ⟨by repeat (first | (with_reducible first | exact HK.out | apply KeepBut.set_ | apply keep_drewN | apply keep_drew | apply keep_alloc) | exact HK.out)⟩, ⟨by repeat (first | (with_reducible first | exact HB.out | apply below_alloc | apply pw_below_drewN | apply below_drew1 | refine below_set ?_ (IsS56.ge HI0.out)) | exact HB.out)⟩⟩
 case rest =>
  clear HC3
  try clear p2
  try clear c5
  try clear c6
  obtain ⟨kq, x12_2, x1000_2, x1001_2, rfl, HA, HJ2, HI0, HK, HB⟩ := hcut
  cases kq with
  | zero => exact absurd HA.out (by simp [spec_reader_number.j0])
  | succ kj2 =>
   have H := HA.out
   clear HA
   simp only [spec_reader_number.j0] at H
   by_cases c11 : x12_2 = true
   ·subst c11
    have H1 : (some (false, x1000_2, x1001_2)) = some (r1, r2, r3) := by rw [if_pos rfl] at H; exact H
    clear H
    have H := H1
    clear H1
    simp only [Option.some.injEq, Prod.mk.injEq] at H
    obtain ⟨rfl, rfl, rfl⟩ := H
    go_wp2
    go_ret
    exact ⟨by first | rfl | (simp [errW_none, errW_some] <;> rfl) | (simp [*, errW_none, errW_some] <;> rfl), by repeat (first | (with_reducible first | exact HI0.out | apply IsS56.alloc | apply IsS56.drewN | apply IsS56.drew | apply IsS56.set_0 | apply IsS56.set_1) | exact HI0.out), by repeat (first | (with_reducible first | exact HB.out | apply below_alloc | apply pw_below_drewN | apply below_drew1 | refine below_set ?_ (IsS56.ge HI0.out)) | exact HB.out), by repeat (first | (with_reducible first | exact HK.out | apply KeepBut.set_ | apply keep_drewN | apply keep_drew | apply keep_alloc) | exact HK.out)⟩
   replace c11 := Bool.eq_false_iff.mpr c11
   subst c11
   have H1 : ((spec_reader_take.f x1000_2 x1001_2 46).bind fun bt110 => (if bt110.1 = true then ((spec_reader_digits.f kj2 bt110.2.1 bt110.2.2).bind fun bt113 => (spec_reader_number.j1 kj2 (!bt113.1) bt113.2.1 bt113.2.2)) else (spec_reader_number.j1 kj2 false bt110.2.1 bt110.2.2))) = some (r1, r2, r3) := by rw [if_neg (show ¬ (false = true) by decide)] at H; exact H
   clear H
   have H := H1
   clear H1
   have HC12 := mk0 H
   clear H
   go_upto_region 4 with (fail)
   go_cut [19] (fun v19 wc => ∃ (kq : Nat) (x19_11 : Bool) (x1000_11 : ByteArray) (x1001_11 : Int), v19 = .bool x19_11 ∧ Aside0 (spec_reader_number.j1 kq x19_11 x1000_11 x1001_11 = some (r1, r2, r3)) ∧ Aside0 (kq ≤ kj2) ∧ Aside0 (IsS56 w0 wc g x1000_11 x1001_11) ∧ Aside0 (KeepBut w wc g none) ∧ Aside0 (Below w0.heap.size w0 wc))
   case first =>
    have H := HC12.out
    clear HC12
    replace H := Option.bind_eq_some_iff.mp H
    obtain ⟨⟨t110, t111, t112⟩, A130, H⟩ := H
    replace H : (if t110 = true then ((spec_reader_digits.f kj2 t111 t112).bind fun bt113 => (spec_reader_number.j1 kj2 (!bt113.1) bt113.2.1 bt113.2.2)) else (spec_reader_number.j1 kj2 false t111 t112)) = some (r1, r2, r3) := H
    have A13 := mk0 A130
    clear A130
    by_cases c14 : t110 = true
    rotate_left
    ·replace c14 := Bool.eq_false_iff.mpr c14
     subst c14
     have H1 : (spec_reader_number.j1 kj2 false t111 t112) = some (r1, r2, r3) := by rw [if_neg (show ¬ (false = true) by decide)] at H; exact H
     clear H
     have H := H1
     clear H1
     have H' := mk0 H
     clear H
     go_wp2_with (first | ((with_reducible refine gate_callee (f := 67) rfl ?_); refine goesL_ (some 14) rfl rfl Tryd.func67 zq23 rfl #[.pointer (some ⟨g, 0, none⟩), .int .u8 46] rfl zq2 ?_; (with_reducible refine (spec_reader_take.calls g x1000_2 x1001_2 46 false t111 t112 w0 _ ?side1 ?side2 A13.out).mono ?_); (case side1 => exact zq0); (case side2 => exact zq3); rintro e w18 ⟨rfl, hi, hb, hk⟩; refine ⟨_, rfl, ?_⟩; have n0_ := mk0 (KeepBut.trans zq1 hk (.inl rfl)); have n1_ := mk0 (hb); have n2_ := mk0 (hi); clear HK HB HI0; have HK := n0_; have HB := n1_; have HI0 := n2_; clear n0_ n1_ n2_; (try clear hb); (try clear hb2); (try clear hk); (try clear hi)))
     go_meet
     case rel => exact ⟨_, (false), (t111), (t112), zq13, H', ⟨by have := HJ2.out; first | omega | exact Nat.le_refl _⟩, ⟨by repeat (first | (with_reducible first | exact HI0.out | apply IsS56.alloc | apply IsS56.drewN | apply IsS56.drew | apply IsS56.set_0 | apply IsS56.set_1) | exact HI0.out)⟩, ⟨by repeat (first | (with_reducible first | exact HK.out | apply KeepBut.set_ | apply keep_drewN | apply keep_drew | apply keep_alloc) | exact HK.out)⟩, ⟨by repeat (first | (with_reducible first | exact HB.out | apply below_alloc | apply pw_below_drewN | apply below_drew1 | refine below_set ?_ (IsS56.ge HI0.out)) | exact HB.out)⟩⟩
    subst c14
    have H1 : ((spec_reader_digits.f kj2 t111 t112).bind fun bt113 => (spec_reader_number.j1 kj2 (!bt113.1) bt113.2.1 bt113.2.2)) = some (r1, r2, r3) := by rw [if_pos rfl] at H; exact H
    clear H
    have H := H1
    clear H1
    replace H := Option.bind_eq_some_iff.mp H
    obtain ⟨⟨t113, t114, t115⟩, A150, H⟩ := H
    replace H : (spec_reader_number.j1 kj2 (!t113) t114 t115) = some (r1, r2, r3) := H
    have A15 := mk0 A150
    clear A150
    have H' := mk0 H
    clear H
    go_wp2_with (first | ((with_reducible refine gate_callee (f := 67) rfl ?_); refine goesL_ (some 14) rfl rfl Tryd.func67 zq23 rfl #[.pointer (some ⟨g, 0, none⟩), .int .u8 46] rfl zq2 ?_; (with_reducible refine (spec_reader_take.calls g x1000_2 x1001_2 46 true t111 t112 w0 _ ?side1 ?side2 A13.out).mono ?_); (case side1 => exact zq0); (case side2 => exact zq3); rintro e w16 ⟨rfl, hi, hb, hk⟩; refine ⟨_, rfl, ?_⟩; have n0_ := mk0 (KeepBut.trans zq1 hk (.inl rfl)); have n1_ := mk0 (hb); have n2_ := mk0 (hi); clear HK HB HI0; have HK := n0_; have HB := n1_; have HI0 := n2_; clear n0_ n1_ n2_; (try clear hb); (try clear hb2); (try clear hk); (try clear hi)) | (go_at_call 68; (with_reducible refine (spec_reader_digits.calls kj2 g t111 t112 t113 t114 t115 w0 _ ?side1 ?side2 A15.out).mono ?_); (case side1 => exact zq0); (case side2 => exact zq3); rintro e w17 ⟨rfl, hi, hb, hk⟩; have n0_ := mk0 (KeepBut.trans zq1 hk (.inl rfl)); have n1_ := mk0 (hb); have n2_ := mk0 (hi); clear HK HB HI0; have HK := n0_; have HB := n1_; have HI0 := n2_; clear n0_ n1_ n2_; (try clear hb); (try clear hb2); (try clear hk); (try clear hi)))
    go_meet
    case rel => exact ⟨_, (!t113), (t114), (t115), zq13, H', ⟨by have := HJ2.out; first | omega | exact Nat.le_refl _⟩, ⟨by repeat (first | (with_reducible first | exact HI0.out | apply IsS56.alloc | apply IsS56.drewN | apply IsS56.drew | apply IsS56.set_0 | apply IsS56.set_1) | exact HI0.out)⟩, ⟨by repeat (first | (with_reducible first | exact HK.out | apply KeepBut.set_ | apply keep_drewN | apply keep_drew | apply keep_alloc) | exact HK.out)⟩, ⟨by repeat (first | (with_reducible first | exact HB.out | apply below_alloc | apply pw_below_drewN | apply below_drew1 | refine below_set ?_ (IsS56.ge HI0.out)) | exact HB.out)⟩⟩
   case rest =>
    clear HC12
    try clear c1
    try clear p2
    try clear c5
    try clear c6
    try clear c11
    try clear c14
    try clear p2
    obtain ⟨kq, x19_11, x1000_11, x1001_11, rfl, HA, HJ11, HI0, HK, HB⟩ := hcut
    cases kq with
    | zero => exact absurd HA.out (by simp [spec_reader_number.j1])
    | succ kj11 =>
     have H := HA.out
     clear HA
     simp only [spec_reader_number.j1] at H
     by_cases c19 : x19_11 = true
     ·subst c19
      have H1 : (some (false, x1000_11, x1001_11)) = some (r1, r2, r3) := by rw [if_pos rfl] at H; exact H
      clear H
      have H := H1
      clear H1
      simp only [Option.some.injEq, Prod.mk.injEq] at H
      obtain ⟨rfl, rfl, rfl⟩ := H
      go_wp2
      go_ret
      exact ⟨by first | rfl | (simp [errW_none, errW_some] <;> rfl) | (simp [*, errW_none, errW_some] <;> rfl), by repeat (first | (with_reducible first | exact HI0.out | apply IsS56.alloc | apply IsS56.drewN | apply IsS56.drew | apply IsS56.set_0 | apply IsS56.set_1) | exact HI0.out), by repeat (first | (with_reducible first | exact HB.out | apply below_alloc | apply pw_below_drewN | apply below_drew1 | refine below_set ?_ (IsS56.ge HI0.out)) | exact HB.out), by repeat (first | (with_reducible first | exact HK.out | apply KeepBut.set_ | apply keep_drewN | apply keep_drew | apply keep_alloc) | exact HK.out)⟩
     replace c19 := Bool.eq_false_iff.mpr c19
     subst c19
     have H1 : ((spec_reader_take.f x1000_11 x1001_11 101).bind fun bt116 => (if bt116.1 = true then (spec_reader_number.j2 kj11 true bt116.2.1 bt116.2.2) else ((spec_reader_take.f bt116.2.1 bt116.2.2 69).bind fun bt119 => (spec_reader_number.j2 kj11 bt119.1 bt119.2.1 bt119.2.2)))) = some (r1, r2, r3) := by rw [if_neg (show ¬ (false = true) by decide)] at H; exact H
     clear H
     have H := H1
     clear H1
     have HC20 := mk0 H
     clear H
     go_upto_region 6 with (fail)
     go_cut [25] (fun v25 wc => ∃ (kq : Nat) (x25_19 : Bool) (x1000_19 : ByteArray) (x1001_19 : Int), v25 = .bool x25_19 ∧ Aside0 (spec_reader_number.j2 kq x25_19 x1000_19 x1001_19 = some (r1, r2, r3)) ∧ Aside0 (kq ≤ kj11) ∧ Aside0 (IsS56 w0 wc g x1000_19 x1001_19) ∧ Aside0 (KeepBut w wc g none) ∧ Aside0 (Below w0.heap.size w0 wc))
     case first =>
      have H := HC20.out
      clear HC20
      replace H := Option.bind_eq_some_iff.mp H
      obtain ⟨⟨t116, t117, t118⟩, A210, H⟩ := H
      replace H : (if t116 = true then (spec_reader_number.j2 kj11 true t117 t118) else ((spec_reader_take.f t117 t118 69).bind fun bt119 => (spec_reader_number.j2 kj11 bt119.1 bt119.2.1 bt119.2.2))) = some (r1, r2, r3) := H
      have A21 := mk0 A210
      clear A210
      by_cases c22 : t116 = true
      ·subst c22
       have H1 : (spec_reader_number.j2 kj11 true t117 t118) = some (r1, r2, r3) := by rw [if_pos rfl] at H; exact H
       clear H
       have H := H1
       clear H1
       have H' := mk0 H
       clear H
       go_wp2_with (first | ((with_reducible refine gate_callee (f := 67) rfl ?_); refine goesL_ (some 21) rfl rfl Tryd.func67 zq23 rfl #[.pointer (some ⟨g, 0, none⟩), .int .u8 101] rfl zq2 ?_; (with_reducible refine (spec_reader_take.calls g x1000_11 x1001_11 101 true t117 t118 w0 _ ?side1 ?side2 A21.out).mono ?_); (case side1 => exact zq0); (case side2 => exact zq3); rintro e w23 ⟨rfl, hi, hb, hk⟩; refine ⟨_, rfl, ?_⟩; have n0_ := mk0 (KeepBut.trans zq1 hk (.inl rfl)); have n1_ := mk0 (hb); have n2_ := mk0 (hi); clear HK HB HI0; have HK := n0_; have HB := n1_; have HI0 := n2_; clear n0_ n1_ n2_; (try clear hb); (try clear hb2); (try clear hk); (try clear hi)))
       go_meet
       case rel => exact ⟨_, (true), (t117), (t118), zq13, H', ⟨by have := HJ2.out; have := HJ11.out; first | omega | exact Nat.le_refl _⟩, ⟨by repeat (first | (with_reducible first | exact HI0.out | apply IsS56.alloc | apply IsS56.drewN | apply IsS56.drew | apply IsS56.set_0 | apply IsS56.set_1) | exact HI0.out)⟩, ⟨by repeat (first | (with_reducible first | exact HK.out | apply KeepBut.set_ | apply keep_drewN | apply keep_drew | apply keep_alloc) | exact HK.out)⟩, ⟨by repeat (first | (with_reducible first | exact HB.out | apply below_alloc | apply pw_below_drewN | apply below_drew1 | refine below_set ?_ (IsS56.ge HI0.out)) | exact HB.out)⟩⟩
      replace c22 := Bool.eq_false_iff.mpr c22
      subst c22
      have H1 : ((spec_reader_take.f t117 t118 69).bind fun bt119 => (spec_reader_number.j2 kj11 bt119.1 bt119.2.1 bt119.2.2)) = some (r1, r2, r3) := by rw [if_neg (show ¬ (false = true) by decide)] at H; exact H
      clear H
      have H := H1
      clear H1
      replace H := Option.bind_eq_some_iff.mp H
      obtain ⟨⟨t119, t120, t121⟩, A240, H⟩ := H
      replace H : (spec_reader_number.j2 kj11 t119 t120 t121) = some (r1, r2, r3) := H
      have A24 := mk0 A240
      clear A240
      have H' := mk0 H
      clear H
      go_wp2_with (first | ((with_reducible refine gate_callee (f := 67) rfl ?_); refine goesL_ (some 21) rfl rfl Tryd.func67 zq23 rfl #[.pointer (some ⟨g, 0, none⟩), .int .u8 101] rfl zq2 ?_; (with_reducible refine (spec_reader_take.calls g x1000_11 x1001_11 101 false t117 t118 w0 _ ?side1 ?side2 A21.out).mono ?_); (case side1 => exact zq0); (case side2 => exact zq3); rintro e w25 ⟨rfl, hi, hb, hk⟩; refine ⟨_, rfl, ?_⟩; have n0_ := mk0 (KeepBut.trans zq1 hk (.inl rfl)); have n1_ := mk0 (hb); have n2_ := mk0 (hi); clear HK HB HI0; have HK := n0_; have HB := n1_; have HI0 := n2_; clear n0_ n1_ n2_; (try clear hb); (try clear hb2); (try clear hk); (try clear hi)) | (go_at_call 67; (with_reducible refine (spec_reader_take.calls g t117 t118 69 t119 t120 t121 w0 _ ?side1 ?side2 A24.out).mono ?_); (case side1 => exact zq0); (case side2 => exact zq3); rintro e w26 ⟨rfl, hi, hb, hk⟩; have n0_ := mk0 (KeepBut.trans zq1 hk (.inl rfl)); have n1_ := mk0 (hb); have n2_ := mk0 (hi); clear HK HB HI0; have HK := n0_; have HB := n1_; have HI0 := n2_; clear n0_ n1_ n2_; (try clear hb); (try clear hb2); (try clear hk); (try clear hi)))
      go_meet
      case rel => exact ⟨_, (t119), (t120), (t121), zq13, H', ⟨by have := HJ2.out; have := HJ11.out; first | omega | exact Nat.le_refl _⟩, ⟨by repeat (first | (with_reducible first | exact HI0.out | apply IsS56.alloc | apply IsS56.drewN | apply IsS56.drew | apply IsS56.set_0 | apply IsS56.set_1) | exact HI0.out)⟩, ⟨by repeat (first | (with_reducible first | exact HK.out | apply KeepBut.set_ | apply keep_drewN | apply keep_drew | apply keep_alloc) | exact HK.out)⟩, ⟨by repeat (first | (with_reducible first | exact HB.out | apply below_alloc | apply pw_below_drewN | apply below_drew1 | refine below_set ?_ (IsS56.ge HI0.out)) | exact HB.out)⟩⟩
     case rest =>
      clear HC20
      try clear c1
      try clear c2
      try clear p2
      try clear c5
      try clear c6
      try clear c11
      try clear c14
      try clear c19
      try clear c22
      try clear p2
      obtain ⟨kq, x25_19, x1000_19, x1001_19, rfl, HA, HJ19, HI0, HK, HB⟩ := hcut
      cases kq with
      | zero => exact absurd HA.out (by simp [spec_reader_number.j2])
      | succ kj19 =>
       have H := HA.out
       clear HA
       simp only [spec_reader_number.j2] at H
       by_cases c27 : x25_19 = true
       rotate_left
       ·replace c27 := Bool.eq_false_iff.mpr c27
        subst c27
        have H1 : (some (true, x1000_19, x1001_19)) = some (r1, r2, r3) := by rw [if_neg (show ¬ (false = true) by decide)] at H; exact H
        clear H
        have H := H1
        clear H1
        simp only [Option.some.injEq, Prod.mk.injEq] at H
        obtain ⟨rfl, rfl, rfl⟩ := H
        go_wp2
        go_ret
        exact ⟨by first | rfl | (simp [errW_none, errW_some] <;> rfl) | (simp [*, errW_none, errW_some] <;> rfl), by repeat (first | (with_reducible first | exact HI0.out | apply IsS56.alloc | apply IsS56.drewN | apply IsS56.drew | apply IsS56.set_0 | apply IsS56.set_1) | exact HI0.out), by repeat (first | (with_reducible first | exact HB.out | apply below_alloc | apply pw_below_drewN | apply below_drew1 | refine below_set ?_ (IsS56.ge HI0.out)) | exact HB.out), by repeat (first | (with_reducible first | exact HK.out | apply KeepBut.set_ | apply keep_drewN | apply keep_drew | apply keep_alloc) | exact HK.out)⟩
       subst c27
       have H1 : ((spec_reader_take.f x1000_19 x1001_19 43).bind fun bt122 => (if bt122.1 = true then ((spec_reader_digits.f kj19 bt122.2.1 bt122.2.2).bind fun bt125 => (some (bt125.1, bt125.2.1, bt125.2.2))) else ((spec_reader_take.f bt122.2.1 bt122.2.2 45).bind fun bt128 => ((spec_reader_digits.f kj19 bt128.2.1 bt128.2.2).bind fun bt131 => (some (bt131.1, bt131.2.1, bt131.2.2)))))) = some (r1, r2, r3) := by rw [if_pos rfl] at H; exact H
       clear H
       have H := H1
       clear H1
       replace H := Option.bind_eq_some_iff.mp H
       obtain ⟨⟨t122, t123, t124⟩, A280, H⟩ := H
       replace H : (if t122 = true then ((spec_reader_digits.f kj19 t123 t124).bind fun bt125 => (some (bt125.1, bt125.2.1, bt125.2.2))) else ((spec_reader_take.f t123 t124 45).bind fun bt128 => ((spec_reader_digits.f kj19 bt128.2.1 bt128.2.2).bind fun bt131 => (some (bt131.1, bt131.2.1, bt131.2.2))))) = some (r1, r2, r3) := H
       have A28 := mk0 A280
       clear A280
       by_cases c29 : t122 = true
       ·subst c29
        have H1 : ((spec_reader_digits.f kj19 t123 t124).bind fun bt125 => (some (bt125.1, bt125.2.1, bt125.2.2))) = some (r1, r2, r3) := by rw [if_pos rfl] at H; exact H
        clear H
        have H := H1
        clear H1
        replace H := Option.bind_eq_some_iff.mp H
        obtain ⟨⟨t125, t126, t127⟩, A300, H⟩ := H
        replace H : (some (t125, t126, t127)) = some (r1, r2, r3) := H
        have A30 := mk0 A300
        clear A300
        simp only [Option.some.injEq, Prod.mk.injEq] at H
        obtain ⟨rfl, rfl, rfl⟩ := H
        go_wp2_with (first | ((with_reducible refine gate_callee (f := 67) rfl ?_); refine goesL_ (some 27) rfl rfl Tryd.func67 zq23 rfl #[.pointer (some ⟨g, 0, none⟩), .int .u8 43] rfl zq2 ?_; (with_reducible refine (spec_reader_take.calls g x1000_19 x1001_19 43 true t123 t124 w0 _ ?side1 ?side2 A28.out).mono ?_); (case side1 => exact zq0); (case side2 => exact zq3); rintro e w31 ⟨rfl, hi, hb, hk⟩; refine ⟨_, rfl, ?_⟩; have n0_ := mk0 (KeepBut.trans zq1 hk (.inl rfl)); have n1_ := mk0 (hb); have n2_ := mk0 (hi); clear HK HB HI0; have HK := n0_; have HB := n1_; have HI0 := n2_; clear n0_ n1_ n2_; (try clear hb); (try clear hb2); (try clear hk); (try clear hi)) | ((with_reducible refine gate_callee (f := 68) rfl ?_); refine goesL_ (some 32) rfl rfl Tryd.func68 zq23 rfl #[.pointer (some ⟨g, 0, none⟩)] rfl zq2 ?_; (with_reducible refine (spec_reader_digits.calls kj19 g t123 t124 t125 t126 t127 w0 _ ?side1 ?side2 A30.out).mono ?_); (case side1 => exact zq0); (case side2 => exact zq3); rintro e w32 ⟨rfl, hi, hb, hk⟩; refine ⟨_, rfl, ?_⟩; have n0_ := mk0 (KeepBut.trans zq1 hk (.inl rfl)); have n1_ := mk0 (hb); have n2_ := mk0 (hi); clear HK HB HI0; have HK := n0_; have HB := n1_; have HI0 := n2_; clear n0_ n1_ n2_; (try clear hb); (try clear hb2); (try clear hk); (try clear hi)))
        go_ret
        exact ⟨by first | rfl | (simp [errW_none, errW_some] <;> rfl) | (simp [*, errW_none, errW_some] <;> rfl), by repeat (first | (with_reducible first | exact HI0.out | apply IsS56.alloc | apply IsS56.drewN | apply IsS56.drew | apply IsS56.set_0 | apply IsS56.set_1) | exact HI0.out), by repeat (first | (with_reducible first | exact HB.out | apply below_alloc | apply pw_below_drewN | apply below_drew1 | refine below_set ?_ (IsS56.ge HI0.out)) | exact HB.out), by repeat (first | (with_reducible first | exact HK.out | apply KeepBut.set_ | apply keep_drewN | apply keep_drew | apply keep_alloc) | exact HK.out)⟩
       replace c29 := Bool.eq_false_iff.mpr c29
       subst c29
       have H1 : ((spec_reader_take.f t123 t124 45).bind fun bt128 => ((spec_reader_digits.f kj19 bt128.2.1 bt128.2.2).bind fun bt131 => (some (bt131.1, bt131.2.1, bt131.2.2)))) = some (r1, r2, r3) := by rw [if_neg (show ¬ (false = true) by decide)] at H; exact H
       clear H
       have H := H1
       clear H1
       replace H := Option.bind_eq_some_iff.mp H
       obtain ⟨⟨t128, t129, t130⟩, A330, H⟩ := H
       replace H : ((spec_reader_digits.f kj19 t129 t130).bind fun bt131 => (some (bt131.1, bt131.2.1, bt131.2.2))) = some (r1, r2, r3) := H
       have A33 := mk0 A330
       clear A330
       replace H := Option.bind_eq_some_iff.mp H
       obtain ⟨⟨t131, t132, t133⟩, A340, H⟩ := H
       replace H : (some (t131, t132, t133)) = some (r1, r2, r3) := H
       have A34 := mk0 A340
       clear A340
       simp only [Option.some.injEq, Prod.mk.injEq] at H
       obtain ⟨rfl, rfl, rfl⟩ := H
       go_wp2_with (first | ((with_reducible refine gate_callee (f := 67) rfl ?_); refine goesL_ (some 27) rfl rfl Tryd.func67 zq23 rfl #[.pointer (some ⟨g, 0, none⟩), .int .u8 43] rfl zq2 ?_; (with_reducible refine (spec_reader_take.calls g x1000_19 x1001_19 43 false t123 t124 w0 _ ?side1 ?side2 A28.out).mono ?_); (case side1 => exact zq0); (case side2 => exact zq3); rintro e w35 ⟨rfl, hi, hb, hk⟩; refine ⟨_, rfl, ?_⟩; have n0_ := mk0 (KeepBut.trans zq1 hk (.inl rfl)); have n1_ := mk0 (hb); have n2_ := mk0 (hi); clear HK HB HI0; have HK := n0_; have HB := n1_; have HI0 := n2_; clear n0_ n1_ n2_; (try clear hb); (try clear hb2); (try clear hk); (try clear hi)) | ((with_reducible refine gate_callee (f := 67) rfl ?_); refine goesL_ (some 30) rfl rfl Tryd.func67 zq23 rfl #[.pointer (some ⟨g, 0, none⟩), .int .u8 45] rfl zq2 ?_; (with_reducible refine (spec_reader_take.calls g t123 t124 45 t128 t129 t130 w0 _ ?side1 ?side2 A33.out).mono ?_); (case side1 => exact zq0); (case side2 => exact zq3); rintro e w36 ⟨rfl, hi, hb, hk⟩; refine ⟨_, rfl, ?_⟩; have n0_ := mk0 (KeepBut.trans zq1 hk (.inl rfl)); have n1_ := mk0 (hb); have n2_ := mk0 (hi); clear HK HB HI0; have HK := n0_; have HB := n1_; have HI0 := n2_; clear n0_ n1_ n2_; (try clear hb); (try clear hb2); (try clear hk); (try clear hi)) | ((with_reducible refine gate_callee (f := 68) rfl ?_); refine goesL_ (some 32) rfl rfl Tryd.func68 zq23 rfl #[.pointer (some ⟨g, 0, none⟩)] rfl zq2 ?_; (with_reducible refine (spec_reader_digits.calls kj19 g t129 t130 t131 t132 t133 w0 _ ?side1 ?side2 A34.out).mono ?_); (case side1 => exact zq0); (case side2 => exact zq3); rintro e w37 ⟨rfl, hi, hb, hk⟩; refine ⟨_, rfl, ?_⟩; have n0_ := mk0 (KeepBut.trans zq1 hk (.inl rfl)); have n1_ := mk0 (hb); have n2_ := mk0 (hi); clear HK HB HI0; have HK := n0_; have HB := n1_; have HI0 := n2_; clear n0_ n1_ n2_; (try clear hb); (try clear hb2); (try clear hk); (try clear hi)))
       go_ret
       exact ⟨by first | rfl | (simp [errW_none, errW_some] <;> rfl) | (simp [*, errW_none, errW_some] <;> rfl), by repeat (first | (with_reducible first | exact HI0.out | apply IsS56.alloc | apply IsS56.drewN | apply IsS56.drew | apply IsS56.set_0 | apply IsS56.set_1) | exact HI0.out), by repeat (first | (with_reducible first | exact HB.out | apply below_alloc | apply pw_below_drewN | apply below_drew1 | refine below_set ?_ (IsS56.ge HI0.out)) | exact HB.out), by repeat (first | (with_reducible first | exact HK.out | apply KeepBut.set_ | apply keep_drewN | apply keep_drew | apply keep_alloc) | exact HK.out)⟩
def spec_reader_word.f (s0_0 : ByteArray) (s0_1 : Int) (a1 : ByteArray) : Option (Bool × ByteArray × Int) := if (wrap64 ((s0_0.size : Int) - s0_1)) < (a1.size : Int) then (some (false, s0_0, s0_1)) else (if 0 ≤ s0_1 then (if s0_1 ≤ (wrap64 (s0_1 + (a1.size : Int))) then (if (wrap64 (s0_1 + (a1.size : Int))) ≤ (s0_0.size : Int) then (if (s0_0.extract (s0_1 : Int).toNat ((wrap64 (s0_1 + (a1.size : Int))) : Int).toNat).toList = a1.toList then (some (true, s0_0, wrap64 (s0_1 + (a1.size : Int)))) else (some (false, s0_0, s0_1))) else (none)) else (none)) else (none))
set_option maxHeartbeats 8000000 in
set_option maxRecDepth 100000 in
theorem spec_reader_word.calls (g : Nat) (s0_0 : ByteArray) (s0_1 : Int) (a1 : ByteArray) (r1 : Bool) (r2 : ByteArray) (r3 : Int) (w0 w : World) (hI : IsS56 w0 w g s0_0 s0_1) (hB : Below w0.heap.size w0 w) (h : spec_reader_word.f s0_0 s0_1 a1 = some (r1, r2, r3)) :
 Calls Tryd.prog 53 #[.pointer (some ⟨g, 0, none⟩), .string a1] w fun e w' => e = .returned (.bool r1) ∧ IsS56 w0 w' g r2 r3 ∧ Below w0.heap.size w0 w' ∧ KeepBut w w' g none := by
 have HI0 := mk0 hI
 have HK := mk0 (KeepBut.refl w g none)
 have HL := mk0 hB.size
 clear hI
 have HW0 := mk0 hB.size
 have HB := mk0 hB
 clear hB
 have H : (if (wrap64 ((s0_0.size : Int) - s0_1)) < (a1.size : Int) then (some (false, s0_0, s0_1)) else (if 0 ≤ s0_1 then (if s0_1 ≤ (wrap64 (s0_1 + (a1.size : Int))) then (if (wrap64 (s0_1 + (a1.size : Int))) ≤ (s0_0.size : Int) then (if (s0_0.extract (s0_1 : Int).toNat ((wrap64 (s0_1 + (a1.size : Int))) : Int).toNat).toList = a1.toList then (some (true, s0_0, wrap64 (s0_1 + (a1.size : Int)))) else (some (false, s0_0, s0_1))) else (none)) else (none)) else (none))) = some (r1, r2, r3) := h
 clear h
 by_cases c3 : (wrap64 ((s0_0.size : Int) - s0_1)) < (a1.size : Int)
 ·rw [if_pos c3] at H
  have c3b0 : decide ((wrap64 ((s0_0.size : Int) - s0_1)) < (a1.size : Int)) = true := decide_eq_true c3
  clear c3
  simp only [Option.some.injEq, Prod.mk.injEq] at H
  obtain ⟨rfl, rfl, rfl⟩ := H
  obtain ⟨HGz4, hgz4⟩ := HI0.out
  have hcz4_0 := cellS56_0 HGz4
  have hcz4_1 := cellS56_1 HGz4
  have hfz4_0 := blk_frozen HGz4 0
  have hfz4_1 := blk_frozen HGz4 1
  clear HGz4 hgz4
  go_enter Tryd.func53, Tryd.ntmps53
  go_wp2
  repeat (go_quiet (fail); try go_wp2)
  go_ret
  exact ⟨by first | rfl | (simp [errW_none, errW_some] <;> rfl) | (simp [*, errW_none, errW_some] <;> rfl), by repeat (first | (with_reducible first | exact HI0.out | apply IsS56.alloc | apply IsS56.drewN | apply IsS56.drew | apply IsS56.set_0 | apply IsS56.set_1) | exact HI0.out), by repeat (first | (with_reducible first | exact HB.out | apply below_alloc | apply pw_below_drewN | apply below_drew1 | refine below_set ?_ (IsS56.ge HI0.out)) | exact HB.out), by repeat (first | (with_reducible first | exact HK.out | apply KeepBut.set_ | apply keep_drewN | apply keep_drew | apply keep_alloc) | exact HK.out)⟩
 rw [if_neg c3] at H
 have c3b0 : decide ((wrap64 ((s0_0.size : Int) - s0_1)) < (a1.size : Int)) = false := decide_eq_false c3
 clear c3
 by_cases c5 : 0 ≤ s0_1
 rotate_left
 ·rw [if_neg c5] at H
  exact absurd H (by simp)
 rw [if_pos c5] at H
 have c5b0 := eq_true c5
 have c5b1 : decide (0 ≤ s0_1) = true := decide_eq_true c5
 clear c5
 by_cases c6 : s0_1 ≤ (wrap64 (s0_1 + (a1.size : Int)))
 rotate_left
 ·rw [if_neg c6] at H
  exact absurd H (by simp)
 rw [if_pos c6] at H
 have c6b0 := eq_true c6
 have c6b1 : decide (s0_1 ≤ (wrap64 (s0_1 + (a1.size : Int)))) = true := decide_eq_true c6
 by_cases c7 : (wrap64 (s0_1 + (a1.size : Int))) ≤ (s0_0.size : Int)
 rotate_left
 ·rw [if_neg c7] at H
  exact absurd H (by simp)
 rw [if_pos c7] at H
 have c7b0 := eq_true c7
 have c7b1 : decide ((wrap64 (s0_1 + (a1.size : Int))) ≤ (s0_0.size : Int)) = true := decide_eq_true c7
 by_cases c8 : (s0_0.extract (s0_1 : Int).toNat ((wrap64 (s0_1 + (a1.size : Int))) : Int).toNat).toList = a1.toList
 rotate_left
 ·rw [if_neg c8] at H
  have c8b0 : ((s0_0.extract (s0_1 : Int).toNat ((wrap64 (s0_1 + (a1.size : Int))) : Int).toNat).toList == a1.toList) = false := beq_eq_false_iff_ne.mpr c8
  (try (have c8b0s := c8b0; simp only [ByteArray.size_extract, Nat.min_self] at c8b0s))
  have c8b1 : ((s0_0.extract (s0_1 : Int).toNat ((wrap64 (s0_1 + (a1.size : Int))) : Int).toNat).toList != a1.toList) = true := bne_iff_ne.mpr c8
  (try (have c8b1s := c8b1; simp only [ByteArray.size_extract, Nat.min_self] at c8b1s))
  simp only [Option.some.injEq, Prod.mk.injEq] at H
  obtain ⟨rfl, rfl, rfl⟩ := H
  obtain ⟨HGz10, hgz10⟩ := HI0.out
  have hcz10_0 := cellS56_0 HGz10
  have hcz10_1 := cellS56_1 HGz10
  have hfz10_0 := blk_frozen HGz10 0
  have hfz10_1 := blk_frozen HGz10 1
  clear HGz10 hgz10
  go_enter Tryd.func53, Tryd.ntmps53
  go_wp2
  repeat (go_quiet (fail); try go_wp2)
  go_ret
  exact ⟨by first | rfl | (simp [errW_none, errW_some] <;> rfl) | (simp [*, errW_none, errW_some] <;> rfl), by repeat (first | (with_reducible first | exact HI0.out | apply IsS56.alloc | apply IsS56.drewN | apply IsS56.drew | apply IsS56.set_0 | apply IsS56.set_1) | exact HI0.out), by repeat (first | (with_reducible first | exact HB.out | apply below_alloc | apply pw_below_drewN | apply below_drew1 | refine below_set ?_ (IsS56.ge HI0.out)) | exact HB.out), by repeat (first | (with_reducible first | exact HK.out | apply KeepBut.set_ | apply keep_drewN | apply keep_drew | apply keep_alloc) | exact HK.out)⟩
 rw [if_pos c8] at H
 have c8b0 : ((s0_0.extract (s0_1 : Int).toNat ((wrap64 (s0_1 + (a1.size : Int))) : Int).toNat).toList == a1.toList) = true := beq_iff_eq.mpr c8
 (try (have c8b0s := c8b0; simp only [ByteArray.size_extract, Nat.min_self] at c8b0s))
 have c8b1 : ((s0_0.extract (s0_1 : Int).toNat ((wrap64 (s0_1 + (a1.size : Int))) : Int).toNat).toList != a1.toList) = false := bne_eq_false_iff_eq.mpr c8
 (try (have c8b1s := c8b1; simp only [ByteArray.size_extract, Nat.min_self] at c8b1s))
 clear c8
 simp only [Option.some.injEq, Prod.mk.injEq] at H
 obtain ⟨rfl, rfl, rfl⟩ := H
 obtain ⟨HGz9, hgz9⟩ := HI0.out
 have hcz9_0 := cellS56_0 HGz9
 have hcz9_1 := cellS56_1 HGz9
 have hfz9_0 := blk_frozen HGz9 0
 have hfz9_1 := blk_frozen HGz9 1
 clear HGz9 hgz9
 go_enter Tryd.func53, Tryd.ntmps53
 go_wp2
 repeat (go_quiet (fail); try go_wp2)
 go_ret
 exact ⟨by first | rfl | (simp [errW_none, errW_some] <;> rfl) | (simp [*, errW_none, errW_some] <;> rfl), by repeat (first | (with_reducible first | exact HI0.out | apply IsS56.alloc | apply IsS56.drewN | apply IsS56.drew | apply IsS56.set_0 | apply IsS56.set_1) | exact HI0.out), by repeat (first | (with_reducible first | exact HB.out | apply below_alloc | apply pw_below_drewN | apply below_drew1 | refine below_set ?_ (IsS56.ge HI0.out)) | exact HB.out), by repeat (first | (with_reducible first | exact HK.out | apply KeepBut.set_ | apply keep_drewN | apply keep_drew | apply keep_alloc) | exact HK.out)⟩
mutual
def spec_reader_value.j0 : Nat → Bool → Bool → ByteArray → Int → Int → Int → Int → Option (Int × Int × Int × (List (S104)) × (List (S38)) × Bool × ByteArray × Int)
  | 0, _, _, _, _, _, _, _ => none
  | k + 1, x5, x42, x1000, x1001, x103000, x103001, x103002 => if x42 = true then ((spec_reader_number.f k x1000 x1001).bind fun bt124 => (some (3, x103001, bt124.2.2, ([] : List (S104)), ([] : List (S38)), bt124.1, bt124.2.1, bt124.2.2))) else ((spec_reader_word.f x1000 x1001 (⟨#[110, 117, 108, 108]⟩ : ByteArray)).bind fun bt127 => (if bt127.1 = true then (some (0, x103001, bt127.2.2, ([] : List (S104)), ([] : List (S38)), x5, bt127.2.1, bt127.2.2)) else ((spec_reader_word.f bt127.2.1 bt127.2.2 (⟨#[102, 97, 108, 115, 101]⟩ : ByteArray)).bind fun bt130 => (if bt130.1 = true then (some (1, x103001, bt130.2.2, ([] : List (S104)), ([] : List (S38)), x5, bt130.2.1, bt130.2.2)) else ((spec_reader_word.f bt130.2.1 bt130.2.2 (⟨#[116, 114, 117, 101]⟩ : ByteArray)).bind fun bt133 => (if bt133.1 = true then (some (2, x103001, bt133.2.2, ([] : List (S104)), ([] : List (S38)), x5, bt133.2.1, bt133.2.2)) else (some (x103000, x103001, bt133.2.2, ([] : List (S104)), ([] : List (S38)), false, bt133.2.1, bt133.2.2))))))))
def spec_reader_value.f : Nat → ByteArray → Int → Option (Int × Int × Int × (List (S104)) × (List (S38)) × Bool × ByteArray × Int)
  | 0, _, _ => none
  | k + 1, s0_0, s0_1 => (spec_reader_here.f s0_0 s0_1).bind fun bt103 => (if bt103.1 = 123 then ((spec_reader_members.f k bt103.2.1 bt103.2.2).bind fun bt106 => (some (6, s0_1, bt106.2.2.2.2, bt106.1, bt106.2.1, bt106.2.2.1, bt106.2.2.2.1, bt106.2.2.2.2))) else (if bt103.1 = 91 then ((spec_reader_elements.f k bt103.2.1 bt103.2.2).bind fun bt115 => (some (5, s0_1, bt115.2.2.2, ([] : List (S104)), bt115.1, bt115.2.1, bt115.2.2.1, bt115.2.2.2))) else (if bt103.1 = 34 then ((spec_reader_quoted.f k bt103.2.1 bt103.2.2).bind fun bt121 => (some (4, s0_1, bt121.2.2, ([] : List (S104)), ([] : List (S38)), bt121.1, bt121.2.1, bt121.2.2))) else (if bt103.1 = 45 then (spec_reader_value.j0 k true true bt103.2.1 bt103.2.2 0 s0_1 0) else (if 48 ≤ bt103.1 then (spec_reader_value.j0 k true (decide (bt103.1 ≤ 57)) bt103.2.1 bt103.2.2 0 s0_1 0) else (spec_reader_value.j0 k true false bt103.2.1 bt103.2.2 0 s0_1 0))))))
def spec_reader_members.l0 : Nat → List (S104) → List (S38) → ByteArray → Int → Option ((List (S104)) × (List (S38)) × Bool × ByteArray × Int)
  | 0, _, _, _, _ => none
  | k + 1, x5, x6, x1000, x1001 => (spec_reader_here.f x1000 x1001).bind fun bt141 => (if bt141.1 = 34 then ((spec_reader_quoted.f k bt141.2.1 bt141.2.2).bind fun bt144 => (spec_reader_members.j1 k x5 x6 x1001 (!bt144.1) bt144.2.1 bt144.2.2)) else (spec_reader_members.j1 k x5 x6 x1001 true bt141.2.1 bt141.2.2))
def spec_reader_members.j1 : Nat → List (S104) → List (S38) → Int → Bool → ByteArray → Int → Option ((List (S104)) × (List (S38)) × Bool × ByteArray × Int)
  | 0, _, _, _, _, _, _ => none
  | k + 1, x5, x6, x7, x32, x1000, x1001 => if x32 = true then (some (([] : List (S104)), ([] : List (S38)), false, x1000, x1001)) else (if x5.length < 8796093022208 then ((some (x5 ++ [(⟨x7, x1001⟩ : S104)] : List (S104))).bind fun y147 => ((spec_reader_blanks.f k x1000 x1001).bind fun bt150 => ((spec_reader_take.f bt150.1 bt150.2 58).bind fun bt152 => (if bt152.1 = true then ((spec_reader_blanks.f k bt152.2.1 bt152.2.2).bind fun bt155 => ((spec_reader_value.f k bt155.1 bt155.2).bind fun bt157 => (if bt157.2.2.2.2.2.1 = true then (if x6.length < 1954687338268 then ((some (x6 ++ [(⟨bt157.1, bt157.2.1, bt157.2.2.1, bt157.2.2.2.1, bt157.2.2.2.2.1⟩ : S38)] : List (S38))).bind fun y170 => ((spec_reader_blanks.f k bt157.2.2.2.2.2.2.1 bt157.2.2.2.2.2.2.2).bind fun bt173 => ((spec_reader_take.f bt173.1 bt173.2 125).bind fun bt175 => (if bt175.1 = true then (some (y147, y170, true, bt175.2.1, bt175.2.2)) else ((spec_reader_take.f bt175.2.1 bt175.2.2 44).bind fun bt178 => (if bt178.1 = true then ((spec_reader_blanks.f k bt178.2.1 bt178.2.2).bind fun bt181 => (spec_reader_members.l0 k y147 y170 bt181.1 bt181.2)) else (some (([] : List (S104)), ([] : List (S38)), false, bt178.2.1, bt178.2.2)))))))) else (none)) else (some (([] : List (S104)), ([] : List (S38)), false, bt157.2.2.2.2.2.2.1, bt157.2.2.2.2.2.2.2))))) else (some (([] : List (S104)), ([] : List (S38)), false, bt152.2.1, bt152.2.2)))))) else (none))
def spec_reader_members.f : Nat → ByteArray → Int → Option ((List (S104)) × (List (S38)) × Bool × ByteArray × Int)
  | 0, _, _ => none
  | k + 1, s0_0, s0_1 => (spec_reader_blanks.f k s0_0 (wrap64 (s0_1 + 1))).bind fun bt136 => ((spec_reader_take.f bt136.1 bt136.2 125).bind fun bt138 => (if bt138.1 = true then (some (([] : List (S104)), ([] : List (S38)), true, bt138.2.1, bt138.2.2)) else (spec_reader_members.l0 k ([] : List (S104)) ([] : List (S38)) bt138.2.1 bt138.2.2)))
def spec_reader_elements.l0 : Nat → List (S38) → ByteArray → Int → Option ((List (S38)) × Bool × ByteArray × Int)
  | 0, _, _, _ => none
  | k + 1, x4, x1000, x1001 => (spec_reader_value.f k x1000 x1001).bind fun bt188 => (if bt188.2.2.2.2.2.1 = true then (if x4.length < 1954687338268 then ((some (x4 ++ [(⟨bt188.1, bt188.2.1, bt188.2.2.1, bt188.2.2.2.1, bt188.2.2.2.2.1⟩ : S38)] : List (S38))).bind fun y201 => ((spec_reader_blanks.f k bt188.2.2.2.2.2.2.1 bt188.2.2.2.2.2.2.2).bind fun bt204 => ((spec_reader_take.f bt204.1 bt204.2 93).bind fun bt206 => (if bt206.1 = true then (some (y201, true, bt206.2.1, bt206.2.2)) else ((spec_reader_take.f bt206.2.1 bt206.2.2 44).bind fun bt209 => (if bt209.1 = true then ((spec_reader_blanks.f k bt209.2.1 bt209.2.2).bind fun bt212 => (spec_reader_elements.l0 k y201 bt212.1 bt212.2)) else (some (([] : List (S38)), false, bt209.2.1, bt209.2.2)))))))) else (none)) else (some (([] : List (S38)), false, bt188.2.2.2.2.2.2.1, bt188.2.2.2.2.2.2.2)))
def spec_reader_elements.f : Nat → ByteArray → Int → Option ((List (S38)) × Bool × ByteArray × Int)
  | 0, _, _ => none
  | k + 1, s0_0, s0_1 => (spec_reader_blanks.f k s0_0 (wrap64 (s0_1 + 1))).bind fun bt183 => ((spec_reader_take.f bt183.1 bt183.2 93).bind fun bt185 => (if bt185.1 = true then (some (([] : List (S38)), true, bt185.2.1, bt185.2.2)) else (spec_reader_elements.l0 k ([] : List (S38)) bt185.2.1 bt185.2.2)))
end
theorem grp29.mono_l : ∀ k, (∀ y0 y1, LeO (spec_reader_value.f k y0 y1) (spec_reader_value.f (k + 1) y0 y1)) ∧ (∀ y0 y1, LeO (spec_reader_members.f k y0 y1) (spec_reader_members.f (k + 1) y0 y1)) ∧ (∀ y0 y1, LeO (spec_reader_elements.f k y0 y1) (spec_reader_elements.f (k + 1) y0 y1)) ∧ (∀ y0 y1 y2 y3 y4 y5 y6, LeO (spec_reader_value.j0 k y0 y1 y2 y3 y4 y5 y6) (spec_reader_value.j0 (k + 1) y0 y1 y2 y3 y4 y5 y6)) ∧ (∀ y0 y1 y2 y3, LeO (spec_reader_members.l0 k y0 y1 y2 y3) (spec_reader_members.l0 (k + 1) y0 y1 y2 y3)) ∧ (∀ y0 y1 y2 y3 y4 y5, LeO (spec_reader_members.j1 k y0 y1 y2 y3 y4 y5) (spec_reader_members.j1 (k + 1) y0 y1 y2 y3 y4 y5)) ∧ (∀ y0 y1 y2, LeO (spec_reader_elements.l0 k y0 y1 y2) (spec_reader_elements.l0 (k + 1) y0 y1 y2))
 | 0 => ⟨fun _ _ r h => by simp [spec_reader_value.f] at h, fun _ _ r h => by simp [spec_reader_members.f] at h, fun _ _ r h => by simp [spec_reader_elements.f] at h, fun _ _ _ _ _ _ _ r h => by simp [spec_reader_value.j0] at h, fun _ _ _ _ r h => by simp [spec_reader_members.l0] at h, fun _ _ _ _ _ _ r h => by simp [spec_reader_members.j1] at h, fun _ _ _ r h => by simp [spec_reader_elements.l0] at h⟩
 | k + 1 => by
  obtain ⟨ih0, ih1, ih2, ih3, ih4, ih5, ih6⟩ := grp29.mono_l k
  refine ⟨?_, ?_, ?_, ?_, ?_, ?_, ?_⟩
  ·intro y0 y1
   unfold spec_reader_value.f
   repeat' first
   | (with_reducible exact ih0 _ _)
   | (with_reducible exact ih1 _ _)
   | (with_reducible exact ih2 _ _)
   | (with_reducible exact ih3 _ _ _ _ _ _ _)
   | (with_reducible exact ih4 _ _ _ _)
   | (with_reducible exact ih5 _ _ _ _ _ _)
   | (with_reducible exact ih6 _ _ _)
   | (with_reducible exact spec_reader_blanks.mono _ _ _)
   | (with_reducible exact spec_reader_number.mono _ _ _)
   | (with_reducible exact spec_reader_quoted.mono _ _ _)
   | (with_reducible exact LeO.refl _)
   | (with_reducible exact LeO.none _)
   | (with_reducible refine LeO.ite ?_ ?_)
   | (with_reducible refine LeO.bind ?_ (fun _ => ?_))
  ·intro y0 y1
   unfold spec_reader_members.f
   repeat' first
   | (with_reducible exact ih0 _ _)
   | (with_reducible exact ih1 _ _)
   | (with_reducible exact ih2 _ _)
   | (with_reducible exact ih3 _ _ _ _ _ _ _)
   | (with_reducible exact ih4 _ _ _ _)
   | (with_reducible exact ih5 _ _ _ _ _ _)
   | (with_reducible exact ih6 _ _ _)
   | (with_reducible exact spec_reader_blanks.mono _ _ _)
   | (with_reducible exact spec_reader_number.mono _ _ _)
   | (with_reducible exact spec_reader_quoted.mono _ _ _)
   | (with_reducible exact LeO.refl _)
   | (with_reducible exact LeO.none _)
   | (with_reducible refine LeO.ite ?_ ?_)
   | (with_reducible refine LeO.bind ?_ (fun _ => ?_))
  ·intro y0 y1
   unfold spec_reader_elements.f
   repeat' first
   | (with_reducible exact ih0 _ _)
   | (with_reducible exact ih1 _ _)
   | (with_reducible exact ih2 _ _)
   | (with_reducible exact ih3 _ _ _ _ _ _ _)
   | (with_reducible exact ih4 _ _ _ _)
   | (with_reducible exact ih5 _ _ _ _ _ _)
   | (with_reducible exact ih6 _ _ _)
   | (with_reducible exact spec_reader_blanks.mono _ _ _)
   | (with_reducible exact spec_reader_number.mono _ _ _)
   | (with_reducible exact spec_reader_quoted.mono _ _ _)
   | (with_reducible exact LeO.refl _)
   | (with_reducible exact LeO.none _)
   | (with_reducible refine LeO.ite ?_ ?_)
   | (with_reducible refine LeO.bind ?_ (fun _ => ?_))
  ·intro y0 y1 y2 y3 y4 y5 y6
   unfold spec_reader_value.j0
   repeat' first
   | (with_reducible exact ih0 _ _)
   | (with_reducible exact ih1 _ _)
   | (with_reducible exact ih2 _ _)
   | (with_reducible exact ih3 _ _ _ _ _ _ _)
   | (with_reducible exact ih4 _ _ _ _)
   | (with_reducible exact ih5 _ _ _ _ _ _)
   | (with_reducible exact ih6 _ _ _)
   | (with_reducible exact spec_reader_blanks.mono _ _ _)
   | (with_reducible exact spec_reader_number.mono _ _ _)
   | (with_reducible exact spec_reader_quoted.mono _ _ _)
   | (with_reducible exact LeO.refl _)
   | (with_reducible exact LeO.none _)
   | (with_reducible refine LeO.ite ?_ ?_)
   | (with_reducible refine LeO.bind ?_ (fun _ => ?_))
  ·intro y0 y1 y2 y3
   unfold spec_reader_members.l0
   repeat' first
   | (with_reducible exact ih0 _ _)
   | (with_reducible exact ih1 _ _)
   | (with_reducible exact ih2 _ _)
   | (with_reducible exact ih3 _ _ _ _ _ _ _)
   | (with_reducible exact ih4 _ _ _ _)
   | (with_reducible exact ih5 _ _ _ _ _ _)
   | (with_reducible exact ih6 _ _ _)
   | (with_reducible exact spec_reader_blanks.mono _ _ _)
   | (with_reducible exact spec_reader_number.mono _ _ _)
   | (with_reducible exact spec_reader_quoted.mono _ _ _)
   | (with_reducible exact LeO.refl _)
   | (with_reducible exact LeO.none _)
   | (with_reducible refine LeO.ite ?_ ?_)
   | (with_reducible refine LeO.bind ?_ (fun _ => ?_))
  ·intro y0 y1 y2 y3 y4 y5
   unfold spec_reader_members.j1
   repeat' first
   | (with_reducible exact ih0 _ _)
   | (with_reducible exact ih1 _ _)
   | (with_reducible exact ih2 _ _)
   | (with_reducible exact ih3 _ _ _ _ _ _ _)
   | (with_reducible exact ih4 _ _ _ _)
   | (with_reducible exact ih5 _ _ _ _ _ _)
   | (with_reducible exact ih6 _ _ _)
   | (with_reducible exact spec_reader_blanks.mono _ _ _)
   | (with_reducible exact spec_reader_number.mono _ _ _)
   | (with_reducible exact spec_reader_quoted.mono _ _ _)
   | (with_reducible exact LeO.refl _)
   | (with_reducible exact LeO.none _)
   | (with_reducible refine LeO.ite ?_ ?_)
   | (with_reducible refine LeO.bind ?_ (fun _ => ?_))
  ·intro y0 y1 y2
   unfold spec_reader_elements.l0
   repeat' first
   | (with_reducible exact ih0 _ _)
   | (with_reducible exact ih1 _ _)
   | (with_reducible exact ih2 _ _)
   | (with_reducible exact ih3 _ _ _ _ _ _ _)
   | (with_reducible exact ih4 _ _ _ _)
   | (with_reducible exact ih5 _ _ _ _ _ _)
   | (with_reducible exact ih6 _ _ _)
   | (with_reducible exact spec_reader_blanks.mono _ _ _)
   | (with_reducible exact spec_reader_number.mono _ _ _)
   | (with_reducible exact spec_reader_quoted.mono _ _ _)
   | (with_reducible exact LeO.refl _)
   | (with_reducible exact LeO.none _)
   | (with_reducible refine LeO.ite ?_ ?_)
   | (with_reducible refine LeO.bind ?_ (fun _ => ?_))
theorem spec_reader_value.mono : ∀ a0 a1 k, LeO (spec_reader_value.f k a0 a1) (spec_reader_value.f (k + 1) a0 a1) := by
 intro a0 a1 k
 obtain ⟨ih0, ih1, ih2, ih3, ih4, ih5, ih6⟩ := grp29.mono_l k
 exact ih0 a0 a1
theorem spec_reader_members.mono : ∀ a0 a1 k, LeO (spec_reader_members.f k a0 a1) (spec_reader_members.f (k + 1) a0 a1) := by
 intro a0 a1 k
 obtain ⟨ih0, ih1, ih2, ih3, ih4, ih5, ih6⟩ := grp29.mono_l k
 exact ih1 a0 a1
theorem spec_reader_elements.mono : ∀ a0 a1 k, LeO (spec_reader_elements.f k a0 a1) (spec_reader_elements.f (k + 1) a0 a1) := by
 intro a0 a1 k
 obtain ⟨ih0, ih1, ih2, ih3, ih4, ih5, ih6⟩ := grp29.mono_l k
 exact ih2 a0 a1
@[reducible] def spec_reader_value.Stmt (k : Nat) : Prop := ∀ (g : Nat) (s0_0 : ByteArray) (s0_1 : Int) (r1 : Int) (r2 : Int) (r3 : Int) (r4 : List (S104)) (r5 : List (S38)) (r6 : Bool) (r7 : ByteArray) (r8 : Int) (w0 w : World) (hI : IsS56 w0 w g s0_0 s0_1) (hB : Below w0.heap.size w0 w) (h : spec_reader_value.f k s0_0 s0_1 = some (r1, r2, r3, r4, r5, r6, r7, r8)),
    Calls Tryd.prog 29 #[.pointer (some ⟨g, 0, none⟩)] w fun e w' => ∃ v3_ v4_ : Value, e = .returned (.tuple #[.agg #[.int .i64 r1, .int .i64 r2, .int .i64 r3, v3_, v4_], .bool r6]) ∧ Kd.R k104 104 w' w.heap.size (fun _ => True) v3_ r4 ∧ Kd.R k38 38 w' w.heap.size (fun k_ => some k_ ≠ (v3_ : Value).ownBlock) v4_ r5 ∧ IsS56 w0 w' g r7 r8 ∧ Below w0.heap.size w0 w' ∧ KeepBut w w' g none
@[reducible] def spec_reader_members.Stmt (k : Nat) : Prop := ∀ (g : Nat) (s0_0 : ByteArray) (s0_1 : Int) (r1 : List (S104)) (r2 : List (S38)) (r3 : Bool) (r4 : ByteArray) (r5 : Int) (w0 w : World) (hI : IsS56 w0 w g s0_0 s0_1) (hB : Below w0.heap.size w0 w) (h : spec_reader_members.f k s0_0 s0_1 = some (r1, r2, r3, r4, r5)),
    Calls Tryd.prog 49 #[.pointer (some ⟨g, 0, none⟩)] w fun e w' => ∃ v0_ v1_ : Value, e = .returned (.tuple #[v0_, v1_, .bool r3]) ∧ Kd.R k104 104 w' w.heap.size (fun _ => True) v0_ r1 ∧ Kd.R k38 38 w' w.heap.size (fun k_ => some k_ ≠ (v0_ : Value).ownBlock) v1_ r2 ∧ IsS56 w0 w' g r4 r5 ∧ Below w0.heap.size w0 w' ∧ KeepBut w w' g none
@[reducible] def spec_reader_elements.Stmt (k : Nat) : Prop := ∀ (g : Nat) (s0_0 : ByteArray) (s0_1 : Int) (r1 : List (S38)) (r2 : Bool) (r3 : ByteArray) (r4 : Int) (w0 w : World) (hI : IsS56 w0 w g s0_0 s0_1) (hB : Below w0.heap.size w0 w) (h : spec_reader_elements.f k s0_0 s0_1 = some (r1, r2, r3, r4)),
    Calls Tryd.prog 50 #[.pointer (some ⟨g, 0, none⟩)] w fun e w' => ∃ v0_ : Value, e = .returned (.tuple #[v0_, .bool r2]) ∧ Kd.R k38 38 w' w.heap.size (fun _ => True) v0_ r1 ∧ IsS56 w0 w' g r3 r4 ∧ Below w0.heap.size w0 w' ∧ KeepBut w w' g none

set_option maxHeartbeats 8000000 in
set_option maxRecDepth 100000 in
theorem spec_reader_value.step (k : Nat) (ih_29 : ∀ m, m < k → spec_reader_value.Stmt m) (ih_49 : ∀ m, m < k → spec_reader_members.Stmt m) (ih_50 : ∀ m, m < k → spec_reader_elements.Stmt m) : spec_reader_value.Stmt k := by
 intro g s0_0 s0_1 r1 r2 r3 r4 r5 r6 r7 r8 w0 w hI hB h
 cases k with
 | zero => exact absurd h (by simp [spec_reader_value.f])
 | succ k =>
 simp only [spec_reader_value.f] at h
 have hu38 := Tryd.underlying38
 have HI0 := mk0 hI
 have HK := mk0 (KeepBut.refl w g none)
 have HL := mk0 hB.size
 clear hI
 have HW0 := mk0 hB.size
 have HB := mk0 hB
 clear hB
 have H : ((spec_reader_here.f s0_0 s0_1).bind fun bt103 => (if bt103.1 = 123 then ((spec_reader_members.f k bt103.2.1 bt103.2.2).bind fun bt106 => (some (6, s0_1, bt106.2.2.2.2, bt106.1, bt106.2.1, bt106.2.2.1, bt106.2.2.2.1, bt106.2.2.2.2))) else (if bt103.1 = 91 then ((spec_reader_elements.f k bt103.2.1 bt103.2.2).bind fun bt115 => (some (5, s0_1, bt115.2.2.2, ([] : List (S104)), bt115.1, bt115.2.1, bt115.2.2.1, bt115.2.2.2))) else (if bt103.1 = 34 then ((spec_reader_quoted.f k bt103.2.1 bt103.2.2).bind fun bt121 => (some (4, s0_1, bt121.2.2, ([] : List (S104)), ([] : List (S38)), bt121.1, bt121.2.1, bt121.2.2))) else (if bt103.1 = 45 then (spec_reader_value.j0 k true true bt103.2.1 bt103.2.2 0 s0_1 0) else (if 48 ≤ bt103.1 then (spec_reader_value.j0 k true (decide (bt103.1 ≤ 57)) bt103.2.1 bt103.2.2 0 s0_1 0) else (spec_reader_value.j0 k true false bt103.2.1 bt103.2.2 0 s0_1 0))))))) = some (r1, r2, r3, r4, r5, r6, r7, r8) := h
 clear h
 replace H := Option.bind_eq_some_iff.mp H
 obtain ⟨⟨t103, t104, t105⟩, A20, H⟩ := H
 replace H : (if t103 = 123 then ((spec_reader_members.f k t104 t105).bind fun bt106 => (some (6, s0_1, bt106.2.2.2.2, bt106.1, bt106.2.1, bt106.2.2.1, bt106.2.2.2.1, bt106.2.2.2.2))) else (if t103 = 91 then ((spec_reader_elements.f k t104 t105).bind fun bt115 => (some (5, s0_1, bt115.2.2.2, ([] : List (S104)), bt115.1, bt115.2.1, bt115.2.2.1, bt115.2.2.2))) else (if t103 = 34 then ((spec_reader_quoted.f k t104 t105).bind fun bt121 => (some (4, s0_1, bt121.2.2, ([] : List (S104)), ([] : List (S38)), bt121.1, bt121.2.1, bt121.2.2))) else (if t103 = 45 then (spec_reader_value.j0 k true true t104 t105 0 s0_1 0) else (if 48 ≤ t103 then (spec_reader_value.j0 k true (decide (t103 ≤ 57)) t104 t105 0 s0_1 0) else (spec_reader_value.j0 k true false t104 t105 0 s0_1 0)))))) = some (r1, r2, r3, r4, r5, r6, r7, r8) := H
 have A2 := mk0 A20
 clear A20
 by_cases c3 : t103 = 123
 ·rw [if_pos c3] at H
  have c3b0 : (t103 == 123) = true := beq_iff_eq.mpr c3
  have c3b1 : (t103 != 123) = false := bne_eq_false_iff_eq.mpr c3
  clear c3
  replace H := Option.bind_eq_some_iff.mp H
  obtain ⟨⟨t106, t109, t112, t113, t114⟩, A40, H⟩ := H
  replace H : (some (6, s0_1, t114, t106, t109, t112, t113, t114)) = some (r1, r2, r3, r4, r5, r6, r7, r8) := H
  have A4 := mk0 A40
  clear A40
  simp only [Option.some.injEq, Prod.mk.injEq] at H
  obtain ⟨rfl, rfl, rfl, rfl, rfl, rfl, rfl, rfl⟩ := H
  go_enter Tryd.func29, Tryd.ntmps29
  go_wp2_with (first | ((with_reducible refine gate_dst (N := 2) rfl ?_); refine box_event ?hg (N := 2) ?hd (cs := #[.int .i64 0, .int .i64 0, .int .i64 0, .slice none 0 0, .slice none 0 0]) (t := 38) ?hr ?_; (case hd => rfl); (case hg => rfl); (case hr => exact zq30); intro gb101 hg w5 hbox hb; have n0_ := mk0 (IsS56.below zq0 hb); have n1_ := mk0 (KeepBut.trans zq1 (KeepBut.of_below hb g none) (.inl rfl)); have n2_ := mk0 (below_step zq3 hb); have n3_ := mk0 (hbox); have n4_ := mk0 ((zq27 : w.heap.size ≤ gb101)); have n5_ := mk0 ((Nat.le_trans HW0.out (zq27 : w.heap.size ≤ gb101) : w0.heap.size ≤ gb101)); have n6_ := mk0 ((by rw [hg]; exact Nat.ne_of_lt (IsS56.lt (show IsS56 w0 _ g s0_0 s0_1 from zq0)) : g ≠ gb101)); have n7_ := mk0 ((by rw [hg]; exact Nat.ne_of_gt (IsS56.lt (show IsS56 w0 _ g s0_0 s0_1 from zq0)) : gb101 ≠ g)); clear HI0 HK HB; have HI0 := n0_; have HK := n1_; have HB := n2_; have BK101 := n3_; have GW101 := n4_; have GE101 := n5_; have NB0_101 := n6_; have NB101_0 := n7_; clear n0_ n1_ n2_ n3_ n4_ n5_ n6_ n7_; clear hb hbox hg; obtain ⟨HGz6, hgz6⟩ := HI0.out; have hcz6_0 := cellS56_0 HGz6; have hcz6_1 := cellS56_1 HGz6; have hfz6_0 := blk_frozen HGz6 0; have hfz6_1 := blk_frozen HGz6 1; clear HGz6 hgz6) | ((with_reducible refine gate_dst (N := 4) rfl ?_); refine box_event ?hg (N := 4) ?hd (cs := #[.int .i64 0, .int .i64 0, .int .i64 0, .slice none 0 0, .slice none 0 0]) (t := 38) ?hr ?_; (case hd => rfl); (case hg => rfl); (case hr => exact zq30); intro gb102 hg w7 hbox hb; have n0_ := mk0 (IsS56.below zq21 hb); have n1_ := mk0 (blk_below (g := gb101) (o := .cells #[.int .i64 0, .int .i64 0, .int .i64 0, .slice none 0 0, .slice none 0 0] 38 (0, 0)) zq20 hb); have n2_ := mk0 (KeepBut.trans zq22 (KeepBut.of_below hb g none) (.inl rfl)); have n3_ := mk0 (below_step zq39 hb); have n4_ := mk0 (hbox); have n5_ := mk0 ((zq51 : w.heap.size ≤ gb102)); have n6_ := mk0 ((Nat.le_trans HW0.out (zq51 : w.heap.size ≤ gb102) : w0.heap.size ≤ gb102)); have n7_ := mk0 ((zq47 : gb101 ≠ gb102)); have n8_ := mk0 ((zq48 : gb102 ≠ gb101)); have n9_ := mk0 ((by rw [hg]; exact Nat.ne_of_lt (IsS56.lt (show IsS56 w0 _ g s0_0 s0_1 from zq21)) : g ≠ gb102)); have n10_ := mk0 ((by rw [hg]; exact Nat.ne_of_gt (IsS56.lt (show IsS56 w0 _ g s0_0 s0_1 from zq21)) : gb102 ≠ g)); clear HI0 BK101 HK HB; have HI0 := n0_; have BK101 := n1_; have HK := n2_; have HB := n3_; have BK102 := n4_; have GW102 := n5_; have GE102 := n6_; have NB101_102 := n7_; have NB102_101 := n8_; have NB0_102 := n9_; have NB102_0 := n10_; clear n0_ n1_ n2_ n3_ n4_ n5_ n6_ n7_ n8_ n9_ n10_; clear hb hbox hg; have hnb8 := NB102_101.out; have hnc8 := NB101_102.out; have hnb9 := NB102_0.out; have hnc9 := NB0_102.out; have hcz10_0 : w7.cell? ⟨gb102, 0, none⟩ = some (.int .i64 0) := (blk_cell BK102.out 0).trans rfl; have hcz10_1 : w7.cell? ⟨gb102, 1, none⟩ = some (.int .i64 0) := (blk_cell BK102.out 1).trans rfl; have hcz10_2 : w7.cell? ⟨gb102, 2, none⟩ = some (.int .i64 0) := (blk_cell BK102.out 2).trans rfl; have hcz10_3 : w7.cell? ⟨gb102, 3, none⟩ = some (.slice none 0 0) := (blk_cell BK102.out 3).trans rfl; have hcz10_4 : w7.cell? ⟨gb102, 4, none⟩ = some (.slice none 0 0) := (blk_cell BK102.out 4).trans rfl; have hfz10_0 := blk_frozen BK102.out 0; have hfz10_1 := blk_frozen BK102.out 1; have hfz10_2 := blk_frozen BK102.out 2; have hfz10_3 := blk_frozen BK102.out 3; have hfz10_4 := blk_frozen BK102.out 4) | ((with_reducible refine gate_callee (f := 48) rfl ?_); refine goesL_ (some 13) rfl rfl Tryd.func48 zq23 rfl #[.pointer (some ⟨g, 0, none⟩)] rfl zq2 ?_; (with_reducible refine (spec_reader_here.calls g s0_0 s0_1 t103 t104 t105 w0 _ ?side1 ?side2 A2.out).mono ?_); (case side1 => exact zq8); (case side2 => exact zq10); rintro e w11 ⟨rfl, hi, hb, hk⟩; refine ⟨_, rfl, ?_⟩; have n0_ := mk0 (KeepBut.blk hk (g' := gb101) (o := .cells #[.int .i64 0, .int .i64 0, .int .i64 0, .slice none 0 0, .slice none 0 0] 38 (0, 0)) zq19 NB101_0.out (by simp)); have n1_ := mk0 (KeepBut.blk hk (g' := gb102) (o := .cells #[.int .i64 0, .int .i64 s0_1, .int .i64 0, .slice none 0 0, .slice none 0 0] 38 (0, 0)) zq11 NB102_0.out (by simp)); have n2_ := mk0 (KeepBut.trans zq7 hk (.inl rfl)); have n3_ := mk0 (hb); have n4_ := mk0 (hi); clear BK101 BK102 HK HB HI0; have BK101 := n0_; have BK102 := n1_; have HK := n2_; have HB := n3_; have HI0 := n4_; clear n0_ n1_ n2_ n3_ n4_; (try clear hb); (try clear hb2); (try clear hk); (try clear hi); have hcz12_0 : w11.cell? ⟨gb102, 0, none⟩ = some (.int .i64 0) := (blk_cell BK102.out 0).trans rfl; have hcz12_1 : w11.cell? ⟨gb102, 1, none⟩ = some (.int .i64 s0_1) := (blk_cell BK102.out 1).trans rfl; have hcz12_2 : w11.cell? ⟨gb102, 2, none⟩ = some (.int .i64 0) := (blk_cell BK102.out 2).trans rfl; have hcz12_3 : w11.cell? ⟨gb102, 3, none⟩ = some (.slice none 0 0) := (blk_cell BK102.out 3).trans rfl; have hcz12_4 : w11.cell? ⟨gb102, 4, none⟩ = some (.slice none 0 0) := (blk_cell BK102.out 4).trans rfl; have hfz12_0 := blk_frozen BK102.out 0; have hfz12_1 := blk_frozen BK102.out 1; have hfz12_2 := blk_frozen BK102.out 2; have hfz12_3 := blk_frozen BK102.out 3; have hfz12_4 := blk_frozen BK102.out 4) | ((with_reducible refine gate_callee (f := 49) rfl ?_); refine goesL_ (some 20) rfl rfl Tryd.func49 zq23 rfl #[.pointer (some ⟨g, 0, none⟩)] rfl zq2 ?_; (with_reducible refine (ih_49 k (by omega) g t104 t105 t106 t109 t112 t113 t114 w0 _ ?side1 ?side2 A4.out).mono ?_); (case side1 => exact zq8); (case side2 => exact zq10); rintro e w13 ⟨v107, v110, rfl, ho0, ho1, hi, hb, hk⟩; refine ⟨_, rfl, ?_⟩; have n0_ := mk0 (KeepBut.blk hk (g' := gb101) (o := .cells #[.int .i64 0, .int .i64 0, .int .i64 0, .slice none 0 0, .slice none 0 0] 38 (0, 0)) zq28 NB101_0.out (by simp)); have n1_ := mk0 (KeepBut.blk hk (g' := gb102) (o := .cells #[.int .i64 6, .int .i64 s0_1, .int .i64 0, .slice none 0 0, .slice none 0 0] 38 (0, 0)) zq24 NB102_0.out (by simp)); have n2_ := mk0 (Kd.R_lower ho0 (keep_size (w := w) (g := g) (row := none) zq7)); have n3_ := mk0 (Kd.R_lower (Kd.R_newB (Kd.R_newB ho1 (g := gb101) (o := .cells #[.int .i64 0, .int .i64 0, .int .i64 0, .slice none 0 0, .slice none 0 0] 38 (0, 0)) zq28) (g := gb102) (o := .cells #[.int .i64 6, .int .i64 s0_1, .int .i64 0, .slice none 0 0, .slice none 0 0] 38 (0, 0)) zq24) (keep_size (w := w) (g := g) (row := none) zq7)); have n4_ := mk0 (KeepBut.trans zq7 hk (.inl rfl)); have n5_ := mk0 (hb); have n6_ := mk0 (hi); clear BK101 BK102 HK HB HI0; have BK101 := n0_; have BK102 := n1_; have HO108 := n2_; have HO111 := n3_; have HK := n4_; have HB := n5_; have HI0 := n6_; clear n0_ n1_ n2_ n3_ n4_ n5_ n6_; (try clear hb); (try clear hb2); (try clear hk); (try clear hi); (try clear ho0); (try clear ho1); obtain ⟨Ao14, co14, eo14⟩ := Kd.R_slice HO108.out; subst eo14; have hcz15_0 : w13.cell? ⟨gb102, 0, none⟩ = some (.int .i64 6) := (blk_cell BK102.out 0).trans rfl; have hcz15_1 : w13.cell? ⟨gb102, 1, none⟩ = some (.int .i64 s0_1) := (blk_cell BK102.out 1).trans rfl; have hcz15_2 : w13.cell? ⟨gb102, 2, none⟩ = some (.int .i64 0) := (blk_cell BK102.out 2).trans rfl; have hcz15_3 : w13.cell? ⟨gb102, 3, none⟩ = some (.slice none 0 0) := (blk_cell BK102.out 3).trans rfl; have hcz15_4 : w13.cell? ⟨gb102, 4, none⟩ = some (.slice none 0 0) := (blk_cell BK102.out 4).trans rfl; have hfz15_0 := blk_frozen BK102.out 0; have hfz15_1 := blk_frozen BK102.out 1; have hfz15_2 := blk_frozen BK102.out 2; have hfz15_3 := blk_frozen BK102.out 3; have hfz15_4 := blk_frozen BK102.out 4; obtain ⟨Ao16, co16, eo16⟩ := Kd.R_slice HO111.out; subst eo16; obtain ⟨HGz17, hgz17⟩ := HI0.out; have hcz17_0 := cellS56_0 HGz17; have hcz17_1 := cellS56_1 HGz17; have hfz17_0 := blk_frozen HGz17 0; have hfz17_1 := blk_frozen HGz17 1; clear HGz17 hgz17; have hnb18 := NB101_0.out; have hnc18 := NB0_101.out; have hcz19_0 : w13.cell? ⟨gb101, 0, none⟩ = some (.int .i64 0) := (blk_cell BK101.out 0).trans rfl; have hcz19_1 : w13.cell? ⟨gb101, 1, none⟩ = some (.int .i64 0) := (blk_cell BK101.out 1).trans rfl; have hcz19_2 : w13.cell? ⟨gb101, 2, none⟩ = some (.int .i64 0) := (blk_cell BK101.out 2).trans rfl; have hcz19_3 : w13.cell? ⟨gb101, 3, none⟩ = some (.slice none 0 0) := (blk_cell BK101.out 3).trans rfl; have hcz19_4 : w13.cell? ⟨gb101, 4, none⟩ = some (.slice none 0 0) := (blk_cell BK101.out 4).trans rfl; have hfz19_0 := blk_frozen BK101.out 0; have hfz19_1 := blk_frozen BK101.out 1; have hfz19_2 := blk_frozen BK101.out 2; have hfz19_3 := blk_frozen BK101.out 3; have hfz19_4 := blk_frozen BK101.out 4))
  refine bodyPost_ret (results_ct rfl _ _ gb101 38 #[.int .i64 6, .int .i64 s0_1, .int .i64 t114, .slice Ao14 t106.length co14, .slice Ao16 t109.length co16] (0, 0) _ rfl (by (with_reducible repeat (first | refine blk_drewN ?_ _ | refine blk_drew ?_ | refine blk_alloc ?_ _)); refine blk_put (cs := #[.int .i64 6, .int .i64 s0_1, .int .i64 t114, .slice Ao14 t106.length co14, .slice none 0 0]) ?_ 4 _ rfl; (with_reducible repeat (first | refine blk_drewN ?_ _ | refine blk_drew ?_ | refine blk_alloc ?_ _)); refine blk_put (cs := #[.int .i64 6, .int .i64 s0_1, .int .i64 t114, .slice none 0 0, .slice none 0 0]) ?_ 3 _ rfl; (with_reducible repeat (first | refine blk_drewN ?_ _ | refine blk_drew ?_ | refine blk_alloc ?_ _)); refine blk_put (cs := #[.int .i64 6, .int .i64 s0_1, .int .i64 0, .slice none 0 0, .slice none 0 0]) ?_ 2 _ rfl; (with_reducible repeat (first | refine blk_drewN ?_ _ | refine blk_drew ?_ | refine blk_alloc ?_ _)); refine blk_put (cs := #[.int .i64 6, .int .i64 0, .int .i64 0, .slice none 0 0, .slice none 0 0]) ?_ 1 _ rfl; (with_reducible repeat (first | refine blk_drewN ?_ _ | refine blk_drew ?_ | refine blk_alloc ?_ _)); refine blk_put (cs := #[.int .i64 0, .int .i64 0, .int .i64 0, .slice none 0 0, .slice none 0 0]) ?_ 0 _ rfl; (with_reducible repeat (first | refine blk_drewN ?_ _ | refine blk_drew ?_ | refine blk_alloc ?_ _)); refine blk_far ?_ NB101_102.out _; (with_reducible repeat (first | refine blk_drewN ?_ _ | refine blk_drew ?_ | refine blk_alloc ?_ _)); refine blk_far ?_ NB101_102.out _; (with_reducible repeat (first | refine blk_drewN ?_ _ | refine blk_drew ?_ | refine blk_alloc ?_ _)); refine blk_far ?_ NB101_102.out _; (with_reducible repeat (first | refine blk_drewN ?_ _ | refine blk_drew ?_ | refine blk_alloc ?_ _)); exact BK101.out) Tryd.underlying38 rfl zq23) rfl ?_
  exact ⟨_, _, by first | rfl | (simp [errW_none, errW_some] <;> rfl) | (simp [*, errW_none, errW_some] <;> rfl), by (with_reducible repeat (first | apply Kd.R_alloc | apply Kd.R_drewN | apply Kd.R_drew)); exact Kd.R_mono (Kd.R_far (p := ⟨gb101, 4, none⟩) (Kd.R_far (p := ⟨gb101, 3, none⟩) (Kd.R_far (p := ⟨gb101, 2, none⟩) (Kd.R_far (p := ⟨gb101, 1, none⟩) (Kd.R_far (p := ⟨gb101, 0, none⟩) (Kd.R_far (p := ⟨gb102, 2, none⟩) (Kd.R_far (p := ⟨gb102, 4, none⟩) (Kd.R_far (p := ⟨gb102, 3, none⟩) (Kd.R_types (Kd.R_types HO108.out BK102.out zq45) BK101.out zq45) (fun _ hk => hk.1.2) (.slice Ao14 t106.length co14)) (fun _ hk => hk.1.2) (.slice Ao16 t109.length co16)) (fun _ hk => hk.1.2) (.int .i64 t114)) (fun _ hk => hk.2) (.int .i64 6)) (fun _ hk => hk.2) (.int .i64 s0_1)) (fun _ hk => hk.2) (.int .i64 t114)) (fun _ hk => hk.2) (.slice Ao14 t106.length co14)) (fun _ hk => hk.2) (.slice Ao16 t109.length co16)) (fun _ hk => trivial), by (with_reducible repeat (first | apply Kd.R_alloc | apply Kd.R_drewN | apply Kd.R_drew)); exact Kd.R_mono (Kd.R_far (p := ⟨gb101, 4, none⟩) (Kd.R_far (p := ⟨gb101, 3, none⟩) (Kd.R_far (p := ⟨gb101, 2, none⟩) (Kd.R_far (p := ⟨gb101, 1, none⟩) (Kd.R_far (p := ⟨gb101, 0, none⟩) (Kd.R_far (p := ⟨gb102, 2, none⟩) (Kd.R_far (p := ⟨gb102, 4, none⟩) (Kd.R_far (p := ⟨gb102, 3, none⟩) (Kd.R_mono (Kd.R_mono HO111.out (fun k_ hk => (⟨hk, hk.2⟩ : _ ∧ k_ ≠ gb102))) (fun k_ hk => (⟨hk, hk.1.1.2⟩ : _ ∧ k_ ≠ gb101))) (fun _ hk => hk.1.2) (.slice Ao14 t106.length co14)) (fun _ hk => hk.1.2) (.slice Ao16 t109.length co16)) (fun _ hk => hk.1.2) (.int .i64 t114)) (fun _ hk => hk.2) (.int .i64 6)) (fun _ hk => hk.2) (.int .i64 s0_1)) (fun _ hk => hk.2) (.int .i64 t114)) (fun _ hk => hk.2) (.slice Ao14 t106.length co14)) (fun _ hk => hk.2) (.slice Ao16 t109.length co16)) (fun _ hk => hk.1.1.1.1), by repeat (first | (with_reducible first | exact HI0.out | apply IsS56.alloc | apply IsS56.drewN | apply IsS56.drew | apply IsS56.set_0 | apply IsS56.set_1 | refine IsS56.far ?_ NB0_101.out _ | refine IsS56.far ?_ NB0_102.out _) | exact HI0.out), by repeat (first | (with_reducible first | exact HB.out | apply below_alloc | apply pw_below_drewN | apply below_drew1 | refine below_set ?_ (IsS56.ge HI0.out) | refine below_set ?_ GE101.out | refine below_set ?_ GE102.out) | exact HB.out), by repeat (first | (with_reducible first | exact HK.out | apply KeepBut.set_ | apply keep_drewN | apply keep_drew | apply keep_alloc | refine keep_far ?_ GW101.out _ | refine keep_far ?_ GW102.out _) | exact HK.out)⟩
 rw [if_neg c3] at H
 have c3b0 : (t103 == 123) = false := beq_eq_false_iff_ne.mpr c3
 have c3b1 : (t103 != 123) = true := bne_iff_ne.mpr c3
 by_cases c20 : t103 = 91
 ·rw [if_pos c20] at H
  have c20b0 : (t103 == 91) = true := beq_iff_eq.mpr c20
  have c20b1 : (t103 != 91) = false := bne_eq_false_iff_eq.mpr c20
  clear c20
  replace H := Option.bind_eq_some_iff.mp H
  obtain ⟨⟨t115, t118, t119, t120⟩, A210, H⟩ := H
  replace H : (some (5, s0_1, t120, ([] : List (S104)), t115, t118, t119, t120)) = some (r1, r2, r3, r4, r5, r6, r7, r8) := H
  have A21 := mk0 A210
  clear A210
  simp only [Option.some.injEq, Prod.mk.injEq] at H
  obtain ⟨rfl, rfl, rfl, rfl, rfl, rfl, rfl, rfl⟩ := H
  go_enter Tryd.func29, Tryd.ntmps29
  go_wp2_with (first | ((with_reducible refine gate_dst (N := 2) rfl ?_); refine box_event ?hg (N := 2) ?hd (cs := #[.int .i64 0, .int .i64 0, .int .i64 0, .slice none 0 0, .slice none 0 0]) (t := 38) ?hr ?_; (case hd => rfl); (case hg => rfl); (case hr => exact zq30); intro gb101 hg w22 hbox hb; have n0_ := mk0 (IsS56.below zq0 hb); have n1_ := mk0 (KeepBut.trans zq1 (KeepBut.of_below hb g none) (.inl rfl)); have n2_ := mk0 (below_step zq3 hb); have n3_ := mk0 (hbox); have n4_ := mk0 ((zq27 : w.heap.size ≤ gb101)); have n5_ := mk0 ((Nat.le_trans HW0.out (zq27 : w.heap.size ≤ gb101) : w0.heap.size ≤ gb101)); have n6_ := mk0 ((by rw [hg]; exact Nat.ne_of_lt (IsS56.lt (show IsS56 w0 _ g s0_0 s0_1 from zq0)) : g ≠ gb101)); have n7_ := mk0 ((by rw [hg]; exact Nat.ne_of_gt (IsS56.lt (show IsS56 w0 _ g s0_0 s0_1 from zq0)) : gb101 ≠ g)); clear HI0 HK HB; have HI0 := n0_; have HK := n1_; have HB := n2_; have BK101 := n3_; have GW101 := n4_; have GE101 := n5_; have NB0_101 := n6_; have NB101_0 := n7_; clear n0_ n1_ n2_ n3_ n4_ n5_ n6_ n7_; clear hb hbox hg; obtain ⟨HGz23, hgz23⟩ := HI0.out; have hcz23_0 := cellS56_0 HGz23; have hcz23_1 := cellS56_1 HGz23; have hfz23_0 := blk_frozen HGz23 0; have hfz23_1 := blk_frozen HGz23 1; clear HGz23 hgz23) | ((with_reducible refine gate_dst (N := 4) rfl ?_); refine box_event ?hg (N := 4) ?hd (cs := #[.int .i64 0, .int .i64 0, .int .i64 0, .slice none 0 0, .slice none 0 0]) (t := 38) ?hr ?_; (case hd => rfl); (case hg => rfl); (case hr => exact zq30); intro gb102 hg w24 hbox hb; have n0_ := mk0 (IsS56.below zq21 hb); have n1_ := mk0 (blk_below (g := gb101) (o := .cells #[.int .i64 0, .int .i64 0, .int .i64 0, .slice none 0 0, .slice none 0 0] 38 (0, 0)) zq20 hb); have n2_ := mk0 (KeepBut.trans zq22 (KeepBut.of_below hb g none) (.inl rfl)); have n3_ := mk0 (below_step zq39 hb); have n4_ := mk0 (hbox); have n5_ := mk0 ((zq51 : w.heap.size ≤ gb102)); have n6_ := mk0 ((Nat.le_trans HW0.out (zq51 : w.heap.size ≤ gb102) : w0.heap.size ≤ gb102)); have n7_ := mk0 ((zq47 : gb101 ≠ gb102)); have n8_ := mk0 ((zq48 : gb102 ≠ gb101)); have n9_ := mk0 ((by rw [hg]; exact Nat.ne_of_lt (IsS56.lt (show IsS56 w0 _ g s0_0 s0_1 from zq21)) : g ≠ gb102)); have n10_ := mk0 ((by rw [hg]; exact Nat.ne_of_gt (IsS56.lt (show IsS56 w0 _ g s0_0 s0_1 from zq21)) : gb102 ≠ g)); clear HI0 BK101 HK HB; have HI0 := n0_; have BK101 := n1_; have HK := n2_; have HB := n3_; have BK102 := n4_; have GW102 := n5_; have GE102 := n6_; have NB101_102 := n7_; have NB102_101 := n8_; have NB0_102 := n9_; have NB102_0 := n10_; clear n0_ n1_ n2_ n3_ n4_ n5_ n6_ n7_ n8_ n9_ n10_; clear hb hbox hg; have hnb25 := NB102_101.out; have hnc25 := NB101_102.out; have hnb26 := NB102_0.out; have hnc26 := NB0_102.out; have hcz27_0 : w24.cell? ⟨gb102, 0, none⟩ = some (.int .i64 0) := (blk_cell BK102.out 0).trans rfl; have hcz27_1 : w24.cell? ⟨gb102, 1, none⟩ = some (.int .i64 0) := (blk_cell BK102.out 1).trans rfl; have hcz27_2 : w24.cell? ⟨gb102, 2, none⟩ = some (.int .i64 0) := (blk_cell BK102.out 2).trans rfl; have hcz27_3 : w24.cell? ⟨gb102, 3, none⟩ = some (.slice none 0 0) := (blk_cell BK102.out 3).trans rfl; have hcz27_4 : w24.cell? ⟨gb102, 4, none⟩ = some (.slice none 0 0) := (blk_cell BK102.out 4).trans rfl; have hfz27_0 := blk_frozen BK102.out 0; have hfz27_1 := blk_frozen BK102.out 1; have hfz27_2 := blk_frozen BK102.out 2; have hfz27_3 := blk_frozen BK102.out 3; have hfz27_4 := blk_frozen BK102.out 4) | ((with_reducible refine gate_callee (f := 48) rfl ?_); refine goesL_ (some 13) rfl rfl Tryd.func48 zq23 rfl #[.pointer (some ⟨g, 0, none⟩)] rfl zq2 ?_; (with_reducible refine (spec_reader_here.calls g s0_0 s0_1 t103 t104 t105 w0 _ ?side1 ?side2 A2.out).mono ?_); (case side1 => exact zq8); (case side2 => exact zq10); rintro e w28 ⟨rfl, hi, hb, hk⟩; refine ⟨_, rfl, ?_⟩; have n0_ := mk0 (KeepBut.blk hk (g' := gb101) (o := .cells #[.int .i64 0, .int .i64 0, .int .i64 0, .slice none 0 0, .slice none 0 0] 38 (0, 0)) zq19 NB101_0.out (by simp)); have n1_ := mk0 (KeepBut.blk hk (g' := gb102) (o := .cells #[.int .i64 0, .int .i64 s0_1, .int .i64 0, .slice none 0 0, .slice none 0 0] 38 (0, 0)) zq11 NB102_0.out (by simp)); have n2_ := mk0 (KeepBut.trans zq7 hk (.inl rfl)); have n3_ := mk0 (hb); have n4_ := mk0 (hi); clear BK101 BK102 HK HB HI0; have BK101 := n0_; have BK102 := n1_; have HK := n2_; have HB := n3_; have HI0 := n4_; clear n0_ n1_ n2_ n3_ n4_; (try clear hb); (try clear hb2); (try clear hk); (try clear hi); have hcz29_0 : w28.cell? ⟨gb102, 0, none⟩ = some (.int .i64 0) := (blk_cell BK102.out 0).trans rfl; have hcz29_1 : w28.cell? ⟨gb102, 1, none⟩ = some (.int .i64 s0_1) := (blk_cell BK102.out 1).trans rfl; have hcz29_2 : w28.cell? ⟨gb102, 2, none⟩ = some (.int .i64 0) := (blk_cell BK102.out 2).trans rfl; have hcz29_3 : w28.cell? ⟨gb102, 3, none⟩ = some (.slice none 0 0) := (blk_cell BK102.out 3).trans rfl; have hcz29_4 : w28.cell? ⟨gb102, 4, none⟩ = some (.slice none 0 0) := (blk_cell BK102.out 4).trans rfl; have hfz29_0 := blk_frozen BK102.out 0; have hfz29_1 := blk_frozen BK102.out 1; have hfz29_2 := blk_frozen BK102.out 2; have hfz29_3 := blk_frozen BK102.out 3; have hfz29_4 := blk_frozen BK102.out 4) | ((with_reducible refine gate_callee (f := 50) rfl ?_); refine goesL_ (some 32) rfl rfl Tryd.func50 zq23 rfl #[.pointer (some ⟨g, 0, none⟩)] rfl zq2 ?_; (with_reducible refine (ih_50 k (by omega) g t104 t105 t115 t118 t119 t120 w0 _ ?side1 ?side2 A21.out).mono ?_); (case side1 => exact zq8); (case side2 => exact zq10); rintro e w30 ⟨v116, rfl, ho0, hi, hb, hk⟩; refine ⟨_, rfl, ?_⟩; have n0_ := mk0 (KeepBut.blk hk (g' := gb101) (o := .cells #[.int .i64 0, .int .i64 0, .int .i64 0, .slice none 0 0, .slice none 0 0] 38 (0, 0)) zq28 NB101_0.out (by simp)); have n1_ := mk0 (KeepBut.blk hk (g' := gb102) (o := .cells #[.int .i64 5, .int .i64 s0_1, .int .i64 0, .slice none 0 0, .slice none 0 0] 38 (0, 0)) zq24 NB102_0.out (by simp)); have n2_ := mk0 (Kd.R_lower (Kd.R_newB (Kd.R_newB ho0 (g := gb101) (o := .cells #[.int .i64 0, .int .i64 0, .int .i64 0, .slice none 0 0, .slice none 0 0] 38 (0, 0)) zq28) (g := gb102) (o := .cells #[.int .i64 5, .int .i64 s0_1, .int .i64 0, .slice none 0 0, .slice none 0 0] 38 (0, 0)) zq24) (keep_size (w := w) (g := g) (row := none) zq7)); have n3_ := mk0 (KeepBut.trans zq7 hk (.inl rfl)); have n4_ := mk0 (hb); have n5_ := mk0 (hi); clear BK101 BK102 HK HB HI0; have BK101 := n0_; have BK102 := n1_; have HO117 := n2_; have HK := n3_; have HB := n4_; have HI0 := n5_; clear n0_ n1_ n2_ n3_ n4_ n5_; (try clear hb); (try clear hb2); (try clear hk); (try clear hi); (try clear ho0); obtain ⟨Ao31, co31, eo31⟩ := Kd.R_slice HO117.out; subst eo31; have hcz32_0 : w30.cell? ⟨gb102, 0, none⟩ = some (.int .i64 5) := (blk_cell BK102.out 0).trans rfl; have hcz32_1 : w30.cell? ⟨gb102, 1, none⟩ = some (.int .i64 s0_1) := (blk_cell BK102.out 1).trans rfl; have hcz32_2 : w30.cell? ⟨gb102, 2, none⟩ = some (.int .i64 0) := (blk_cell BK102.out 2).trans rfl; have hcz32_3 : w30.cell? ⟨gb102, 3, none⟩ = some (.slice none 0 0) := (blk_cell BK102.out 3).trans rfl; have hcz32_4 : w30.cell? ⟨gb102, 4, none⟩ = some (.slice none 0 0) := (blk_cell BK102.out 4).trans rfl; have hfz32_0 := blk_frozen BK102.out 0; have hfz32_1 := blk_frozen BK102.out 1; have hfz32_2 := blk_frozen BK102.out 2; have hfz32_3 := blk_frozen BK102.out 3; have hfz32_4 := blk_frozen BK102.out 4; obtain ⟨HGz33, hgz33⟩ := HI0.out; have hcz33_0 := cellS56_0 HGz33; have hcz33_1 := cellS56_1 HGz33; have hfz33_0 := blk_frozen HGz33 0; have hfz33_1 := blk_frozen HGz33 1; clear HGz33 hgz33; have hnb34 := NB101_0.out; have hnc34 := NB0_101.out; have hcz35_0 : w30.cell? ⟨gb101, 0, none⟩ = some (.int .i64 0) := (blk_cell BK101.out 0).trans rfl; have hcz35_1 : w30.cell? ⟨gb101, 1, none⟩ = some (.int .i64 0) := (blk_cell BK101.out 1).trans rfl; have hcz35_2 : w30.cell? ⟨gb101, 2, none⟩ = some (.int .i64 0) := (blk_cell BK101.out 2).trans rfl; have hcz35_3 : w30.cell? ⟨gb101, 3, none⟩ = some (.slice none 0 0) := (blk_cell BK101.out 3).trans rfl; have hcz35_4 : w30.cell? ⟨gb101, 4, none⟩ = some (.slice none 0 0) := (blk_cell BK101.out 4).trans rfl; have hfz35_0 := blk_frozen BK101.out 0; have hfz35_1 := blk_frozen BK101.out 1; have hfz35_2 := blk_frozen BK101.out 2; have hfz35_3 := blk_frozen BK101.out 3; have hfz35_4 := blk_frozen BK101.out 4))
  refine bodyPost_ret (results_ct rfl _ _ gb101 38 #[.int .i64 5, .int .i64 s0_1, .int .i64 t120, .slice none 0 0, .slice Ao31 t115.length co31] (0, 0) _ rfl (by (with_reducible repeat (first | refine blk_drewN ?_ _ | refine blk_drew ?_ | refine blk_alloc ?_ _)); refine blk_put (cs := #[.int .i64 5, .int .i64 s0_1, .int .i64 t120, .slice none 0 0, .slice none 0 0]) ?_ 4 _ rfl; (with_reducible repeat (first | refine blk_drewN ?_ _ | refine blk_drew ?_ | refine blk_alloc ?_ _)); refine blk_put (cs := #[.int .i64 5, .int .i64 s0_1, .int .i64 t120, .slice none 0 0, .slice none 0 0]) ?_ 3 _ rfl; (with_reducible repeat (first | refine blk_drewN ?_ _ | refine blk_drew ?_ | refine blk_alloc ?_ _)); refine blk_put (cs := #[.int .i64 5, .int .i64 s0_1, .int .i64 0, .slice none 0 0, .slice none 0 0]) ?_ 2 _ rfl; (with_reducible repeat (first | refine blk_drewN ?_ _ | refine blk_drew ?_ | refine blk_alloc ?_ _)); refine blk_put (cs := #[.int .i64 5, .int .i64 0, .int .i64 0, .slice none 0 0, .slice none 0 0]) ?_ 1 _ rfl; (with_reducible repeat (first | refine blk_drewN ?_ _ | refine blk_drew ?_ | refine blk_alloc ?_ _)); refine blk_put (cs := #[.int .i64 0, .int .i64 0, .int .i64 0, .slice none 0 0, .slice none 0 0]) ?_ 0 _ rfl; (with_reducible repeat (first | refine blk_drewN ?_ _ | refine blk_drew ?_ | refine blk_alloc ?_ _)); refine blk_far ?_ NB101_102.out _; (with_reducible repeat (first | refine blk_drewN ?_ _ | refine blk_drew ?_ | refine blk_alloc ?_ _)); refine blk_far ?_ NB101_102.out _; (with_reducible repeat (first | refine blk_drewN ?_ _ | refine blk_drew ?_ | refine blk_alloc ?_ _)); exact BK101.out) Tryd.underlying38 rfl zq23) rfl ?_
  exact ⟨_, _, by first | rfl | (simp [errW_none, errW_some] <;> rfl) | (simp [*, errW_none, errW_some] <;> rfl), by first | exact Kd.R_nil _ _ _ _ _ | exact Kd.N_nil _ _ _ _ _ | exact Kd.V_nil _ _ _ _ _ | exact Kd.Q_nil _ _ _ _ _ | exact Kd.S_nil _ _ _ _ _, by (with_reducible repeat (first | apply Kd.R_alloc | apply Kd.R_drewN | apply Kd.R_drew)); exact Kd.R_mono (Kd.R_far (p := ⟨gb101, 4, none⟩) (Kd.R_far (p := ⟨gb101, 3, none⟩) (Kd.R_far (p := ⟨gb101, 2, none⟩) (Kd.R_far (p := ⟨gb101, 1, none⟩) (Kd.R_far (p := ⟨gb101, 0, none⟩) (Kd.R_far (p := ⟨gb102, 2, none⟩) (Kd.R_far (p := ⟨gb102, 4, none⟩) (Kd.R_mono (Kd.R_mono HO117.out (fun k_ hk => (⟨hk, hk.2⟩ : _ ∧ k_ ≠ gb102))) (fun k_ hk => (⟨hk, hk.1.1.2⟩ : _ ∧ k_ ≠ gb101))) (fun _ hk => hk.1.2) (.slice Ao31 t115.length co31)) (fun _ hk => hk.1.2) (.int .i64 t120)) (fun _ hk => hk.2) (.int .i64 5)) (fun _ hk => hk.2) (.int .i64 s0_1)) (fun _ hk => hk.2) (.int .i64 t120)) (fun _ hk => hk.2) (.slice none 0 0)) (fun _ hk => hk.2) (.slice Ao31 t115.length co31)) (fun _ hk => (by simp [Value.ownBlock])), by repeat (first | (with_reducible first | exact HI0.out | apply IsS56.alloc | apply IsS56.drewN | apply IsS56.drew | apply IsS56.set_0 | apply IsS56.set_1 | refine IsS56.far ?_ NB0_101.out _ | refine IsS56.far ?_ NB0_102.out _) | exact HI0.out), by repeat (first | (with_reducible first | exact HB.out | apply below_alloc | apply pw_below_drewN | apply below_drew1 | refine below_set ?_ (IsS56.ge HI0.out) | refine below_set ?_ GE101.out | refine below_set ?_ GE102.out) | exact HB.out), by repeat (first | (with_reducible first | exact HK.out | apply KeepBut.set_ | apply keep_drewN | apply keep_drew | apply keep_alloc | refine keep_far ?_ GW101.out _ | refine keep_far ?_ GW102.out _) | exact HK.out)⟩
 rw [if_neg c20] at H
 have c20b0 : (t103 == 91) = false := beq_eq_false_iff_ne.mpr c20
 have c20b1 : (t103 != 91) = true := bne_iff_ne.mpr c20
 by_cases c36 : t103 = 34
 ·rw [if_pos c36] at H
  have c36b0 : (t103 == 34) = true := beq_iff_eq.mpr c36
  have c36b1 : (t103 != 34) = false := bne_eq_false_iff_eq.mpr c36
  clear c36
  replace H := Option.bind_eq_some_iff.mp H
  obtain ⟨⟨t121, t122, t123⟩, A370, H⟩ := H
  replace H : (some (4, s0_1, t123, ([] : List (S104)), ([] : List (S38)), t121, t122, t123)) = some (r1, r2, r3, r4, r5, r6, r7, r8) := H
  have A37 := mk0 A370
  clear A370
  simp only [Option.some.injEq, Prod.mk.injEq] at H
  obtain ⟨rfl, rfl, rfl, rfl, rfl, rfl, rfl, rfl⟩ := H
  go_enter Tryd.func29, Tryd.ntmps29
  go_wp2_with (first | ((with_reducible refine gate_dst (N := 2) rfl ?_); refine box_event ?hg (N := 2) ?hd (cs := #[.int .i64 0, .int .i64 0, .int .i64 0, .slice none 0 0, .slice none 0 0]) (t := 38) ?hr ?_; (case hd => rfl); (case hg => rfl); (case hr => exact zq30); intro gb101 hg w38 hbox hb; have n0_ := mk0 (IsS56.below zq0 hb); have n1_ := mk0 (KeepBut.trans zq1 (KeepBut.of_below hb g none) (.inl rfl)); have n2_ := mk0 (below_step zq3 hb); have n3_ := mk0 (hbox); have n4_ := mk0 ((zq27 : w.heap.size ≤ gb101)); have n5_ := mk0 ((Nat.le_trans HW0.out (zq27 : w.heap.size ≤ gb101) : w0.heap.size ≤ gb101)); have n6_ := mk0 ((by rw [hg]; exact Nat.ne_of_lt (IsS56.lt (show IsS56 w0 _ g s0_0 s0_1 from zq0)) : g ≠ gb101)); have n7_ := mk0 ((by rw [hg]; exact Nat.ne_of_gt (IsS56.lt (show IsS56 w0 _ g s0_0 s0_1 from zq0)) : gb101 ≠ g)); clear HI0 HK HB; have HI0 := n0_; have HK := n1_; have HB := n2_; have BK101 := n3_; have GW101 := n4_; have GE101 := n5_; have NB0_101 := n6_; have NB101_0 := n7_; clear n0_ n1_ n2_ n3_ n4_ n5_ n6_ n7_; clear hb hbox hg; obtain ⟨HGz39, hgz39⟩ := HI0.out; have hcz39_0 := cellS56_0 HGz39; have hcz39_1 := cellS56_1 HGz39; have hfz39_0 := blk_frozen HGz39 0; have hfz39_1 := blk_frozen HGz39 1; clear HGz39 hgz39) | ((with_reducible refine gate_dst (N := 4) rfl ?_); refine box_event ?hg (N := 4) ?hd (cs := #[.int .i64 0, .int .i64 0, .int .i64 0, .slice none 0 0, .slice none 0 0]) (t := 38) ?hr ?_; (case hd => rfl); (case hg => rfl); (case hr => exact zq30); intro gb102 hg w40 hbox hb; have n0_ := mk0 (IsS56.below zq21 hb); have n1_ := mk0 (blk_below (g := gb101) (o := .cells #[.int .i64 0, .int .i64 0, .int .i64 0, .slice none 0 0, .slice none 0 0] 38 (0, 0)) zq20 hb); have n2_ := mk0 (KeepBut.trans zq22 (KeepBut.of_below hb g none) (.inl rfl)); have n3_ := mk0 (below_step zq39 hb); have n4_ := mk0 (hbox); have n5_ := mk0 ((zq51 : w.heap.size ≤ gb102)); have n6_ := mk0 ((Nat.le_trans HW0.out (zq51 : w.heap.size ≤ gb102) : w0.heap.size ≤ gb102)); have n7_ := mk0 ((zq47 : gb101 ≠ gb102)); have n8_ := mk0 ((zq48 : gb102 ≠ gb101)); have n9_ := mk0 ((by rw [hg]; exact Nat.ne_of_lt (IsS56.lt (show IsS56 w0 _ g s0_0 s0_1 from zq21)) : g ≠ gb102)); have n10_ := mk0 ((by rw [hg]; exact Nat.ne_of_gt (IsS56.lt (show IsS56 w0 _ g s0_0 s0_1 from zq21)) : gb102 ≠ g)); clear HI0 BK101 HK HB; have HI0 := n0_; have BK101 := n1_; have HK := n2_; have HB := n3_; have BK102 := n4_; have GW102 := n5_; have GE102 := n6_; have NB101_102 := n7_; have NB102_101 := n8_; have NB0_102 := n9_; have NB102_0 := n10_; clear n0_ n1_ n2_ n3_ n4_ n5_ n6_ n7_ n8_ n9_ n10_; clear hb hbox hg; have hnb41 := NB102_101.out; have hnc41 := NB101_102.out; have hnb42 := NB102_0.out; have hnc42 := NB0_102.out; have hcz43_0 : w40.cell? ⟨gb102, 0, none⟩ = some (.int .i64 0) := (blk_cell BK102.out 0).trans rfl; have hcz43_1 : w40.cell? ⟨gb102, 1, none⟩ = some (.int .i64 0) := (blk_cell BK102.out 1).trans rfl; have hcz43_2 : w40.cell? ⟨gb102, 2, none⟩ = some (.int .i64 0) := (blk_cell BK102.out 2).trans rfl; have hcz43_3 : w40.cell? ⟨gb102, 3, none⟩ = some (.slice none 0 0) := (blk_cell BK102.out 3).trans rfl; have hcz43_4 : w40.cell? ⟨gb102, 4, none⟩ = some (.slice none 0 0) := (blk_cell BK102.out 4).trans rfl; have hfz43_0 := blk_frozen BK102.out 0; have hfz43_1 := blk_frozen BK102.out 1; have hfz43_2 := blk_frozen BK102.out 2; have hfz43_3 := blk_frozen BK102.out 3; have hfz43_4 := blk_frozen BK102.out 4) | ((with_reducible refine gate_callee (f := 48) rfl ?_); refine goesL_ (some 13) rfl rfl Tryd.func48 zq23 rfl #[.pointer (some ⟨g, 0, none⟩)] rfl zq2 ?_; (with_reducible refine (spec_reader_here.calls g s0_0 s0_1 t103 t104 t105 w0 _ ?side1 ?side2 A2.out).mono ?_); (case side1 => exact zq8); (case side2 => exact zq10); rintro e w44 ⟨rfl, hi, hb, hk⟩; refine ⟨_, rfl, ?_⟩; have n0_ := mk0 (KeepBut.blk hk (g' := gb101) (o := .cells #[.int .i64 0, .int .i64 0, .int .i64 0, .slice none 0 0, .slice none 0 0] 38 (0, 0)) zq19 NB101_0.out (by simp)); have n1_ := mk0 (KeepBut.blk hk (g' := gb102) (o := .cells #[.int .i64 0, .int .i64 s0_1, .int .i64 0, .slice none 0 0, .slice none 0 0] 38 (0, 0)) zq11 NB102_0.out (by simp)); have n2_ := mk0 (KeepBut.trans zq7 hk (.inl rfl)); have n3_ := mk0 (hb); have n4_ := mk0 (hi); clear BK101 BK102 HK HB HI0; have BK101 := n0_; have BK102 := n1_; have HK := n2_; have HB := n3_; have HI0 := n4_; clear n0_ n1_ n2_ n3_ n4_; (try clear hb); (try clear hb2); (try clear hk); (try clear hi); have hcz45_0 : w44.cell? ⟨gb102, 0, none⟩ = some (.int .i64 0) := (blk_cell BK102.out 0).trans rfl; have hcz45_1 : w44.cell? ⟨gb102, 1, none⟩ = some (.int .i64 s0_1) := (blk_cell BK102.out 1).trans rfl; have hcz45_2 : w44.cell? ⟨gb102, 2, none⟩ = some (.int .i64 0) := (blk_cell BK102.out 2).trans rfl; have hcz45_3 : w44.cell? ⟨gb102, 3, none⟩ = some (.slice none 0 0) := (blk_cell BK102.out 3).trans rfl; have hcz45_4 : w44.cell? ⟨gb102, 4, none⟩ = some (.slice none 0 0) := (blk_cell BK102.out 4).trans rfl; have hfz45_0 := blk_frozen BK102.out 0; have hfz45_1 := blk_frozen BK102.out 1; have hfz45_2 := blk_frozen BK102.out 2; have hfz45_3 := blk_frozen BK102.out 3; have hfz45_4 := blk_frozen BK102.out 4) | ((with_reducible refine gate_callee (f := 51) rfl ?_); refine goesL_ (some 41) rfl rfl Tryd.func51 zq23 rfl #[.pointer (some ⟨g, 0, none⟩)] rfl zq2 ?_; (with_reducible refine (spec_reader_quoted.calls k g t104 t105 t121 t122 t123 w0 _ ?side1 ?side2 A37.out).mono ?_); (case side1 => exact zq8); (case side2 => exact zq10); rintro e w46 ⟨rfl, hi, hb, hk⟩; refine ⟨_, rfl, ?_⟩; have n0_ := mk0 (KeepBut.blk hk (g' := gb101) (o := .cells #[.int .i64 0, .int .i64 0, .int .i64 0, .slice none 0 0, .slice none 0 0] 38 (0, 0)) zq28 NB101_0.out (by simp)); have n1_ := mk0 (KeepBut.blk hk (g' := gb102) (o := .cells #[.int .i64 4, .int .i64 s0_1, .int .i64 0, .slice none 0 0, .slice none 0 0] 38 (0, 0)) zq24 NB102_0.out (by simp)); have n2_ := mk0 (KeepBut.trans zq7 hk (.inl rfl)); have n3_ := mk0 (hb); have n4_ := mk0 (hi); clear BK101 BK102 HK HB HI0; have BK101 := n0_; have BK102 := n1_; have HK := n2_; have HB := n3_; have HI0 := n4_; clear n0_ n1_ n2_ n3_ n4_; (try clear hb); (try clear hb2); (try clear hk); (try clear hi); obtain ⟨HGz47, hgz47⟩ := HI0.out; have hcz47_0 := cellS56_0 HGz47; have hcz47_1 := cellS56_1 HGz47; have hfz47_0 := blk_frozen HGz47 0; have hfz47_1 := blk_frozen HGz47 1; clear HGz47 hgz47; have hcz48_0 : w46.cell? ⟨gb102, 0, none⟩ = some (.int .i64 4) := (blk_cell BK102.out 0).trans rfl; have hcz48_1 : w46.cell? ⟨gb102, 1, none⟩ = some (.int .i64 s0_1) := (blk_cell BK102.out 1).trans rfl; have hcz48_2 : w46.cell? ⟨gb102, 2, none⟩ = some (.int .i64 0) := (blk_cell BK102.out 2).trans rfl; have hcz48_3 : w46.cell? ⟨gb102, 3, none⟩ = some (.slice none 0 0) := (blk_cell BK102.out 3).trans rfl; have hcz48_4 : w46.cell? ⟨gb102, 4, none⟩ = some (.slice none 0 0) := (blk_cell BK102.out 4).trans rfl; have hfz48_0 := blk_frozen BK102.out 0; have hfz48_1 := blk_frozen BK102.out 1; have hfz48_2 := blk_frozen BK102.out 2; have hfz48_3 := blk_frozen BK102.out 3; have hfz48_4 := blk_frozen BK102.out 4; have hnb49 := NB101_0.out; have hnc49 := NB0_101.out; have hcz50_0 : w46.cell? ⟨gb101, 0, none⟩ = some (.int .i64 0) := (blk_cell BK101.out 0).trans rfl; have hcz50_1 : w46.cell? ⟨gb101, 1, none⟩ = some (.int .i64 0) := (blk_cell BK101.out 1).trans rfl; have hcz50_2 : w46.cell? ⟨gb101, 2, none⟩ = some (.int .i64 0) := (blk_cell BK101.out 2).trans rfl; have hcz50_3 : w46.cell? ⟨gb101, 3, none⟩ = some (.slice none 0 0) := (blk_cell BK101.out 3).trans rfl; have hcz50_4 : w46.cell? ⟨gb101, 4, none⟩ = some (.slice none 0 0) := (blk_cell BK101.out 4).trans rfl; have hfz50_0 := blk_frozen BK101.out 0; have hfz50_1 := blk_frozen BK101.out 1; have hfz50_2 := blk_frozen BK101.out 2; have hfz50_3 := blk_frozen BK101.out 3; have hfz50_4 := blk_frozen BK101.out 4))
  refine bodyPost_ret (results_ct rfl _ _ gb101 38 #[.int .i64 4, .int .i64 s0_1, .int .i64 t123, .slice none 0 0, .slice none 0 0] (0, 0) _ rfl (by (with_reducible repeat (first | refine blk_drewN ?_ _ | refine blk_drew ?_ | refine blk_alloc ?_ _)); refine blk_put (cs := #[.int .i64 4, .int .i64 s0_1, .int .i64 t123, .slice none 0 0, .slice none 0 0]) ?_ 4 _ rfl; (with_reducible repeat (first | refine blk_drewN ?_ _ | refine blk_drew ?_ | refine blk_alloc ?_ _)); refine blk_put (cs := #[.int .i64 4, .int .i64 s0_1, .int .i64 t123, .slice none 0 0, .slice none 0 0]) ?_ 3 _ rfl; (with_reducible repeat (first | refine blk_drewN ?_ _ | refine blk_drew ?_ | refine blk_alloc ?_ _)); refine blk_put (cs := #[.int .i64 4, .int .i64 s0_1, .int .i64 0, .slice none 0 0, .slice none 0 0]) ?_ 2 _ rfl; (with_reducible repeat (first | refine blk_drewN ?_ _ | refine blk_drew ?_ | refine blk_alloc ?_ _)); refine blk_put (cs := #[.int .i64 4, .int .i64 0, .int .i64 0, .slice none 0 0, .slice none 0 0]) ?_ 1 _ rfl; (with_reducible repeat (first | refine blk_drewN ?_ _ | refine blk_drew ?_ | refine blk_alloc ?_ _)); refine blk_put (cs := #[.int .i64 0, .int .i64 0, .int .i64 0, .slice none 0 0, .slice none 0 0]) ?_ 0 _ rfl; (with_reducible repeat (first | refine blk_drewN ?_ _ | refine blk_drew ?_ | refine blk_alloc ?_ _)); refine blk_far ?_ NB101_102.out _; (with_reducible repeat (first | refine blk_drewN ?_ _ | refine blk_drew ?_ | refine blk_alloc ?_ _)); exact BK101.out) Tryd.underlying38 rfl zq23) rfl ?_
  exact ⟨_, _, by first | rfl | (simp [errW_none, errW_some] <;> rfl) | (simp [*, errW_none, errW_some] <;> rfl), by first | exact Kd.R_nil _ _ _ _ _ | exact Kd.N_nil _ _ _ _ _ | exact Kd.V_nil _ _ _ _ _ | exact Kd.Q_nil _ _ _ _ _ | exact Kd.S_nil _ _ _ _ _, by first | exact Kd.R_nil _ _ _ _ _ | exact Kd.N_nil _ _ _ _ _ | exact Kd.V_nil _ _ _ _ _ | exact Kd.Q_nil _ _ _ _ _ | exact Kd.S_nil _ _ _ _ _, by repeat (first | (with_reducible first | exact HI0.out | apply IsS56.alloc | apply IsS56.drewN | apply IsS56.drew | apply IsS56.set_0 | apply IsS56.set_1 | refine IsS56.far ?_ NB0_101.out _ | refine IsS56.far ?_ NB0_102.out _) | exact HI0.out), by repeat (first | (with_reducible first | exact HB.out | apply below_alloc | apply pw_below_drewN | apply below_drew1 | refine below_set ?_ (IsS56.ge HI0.out) | refine below_set ?_ GE101.out | refine below_set ?_ GE102.out) | exact HB.out), by repeat (first | (with_reducible first | exact HK.out | apply KeepBut.set_ | apply keep_drewN | apply keep_drew | apply keep_alloc | refine keep_far ?_ GW101.out _ | refine keep_far ?_ GW102.out _) | exact HK.out)⟩
 rw [if_neg c36] at H
 have c36b0 : (t103 == 34) = false := beq_eq_false_iff_ne.mpr c36
 have c36b1 : (t103 != 34) = true := bne_iff_ne.mpr c36
 have HC51 := mk0 H
 clear H
 go_enter Tryd.func29, Tryd.ntmps29
 go_upto_region 14 with (first | ((with_reducible refine gate_dst (N := 2) rfl ?_); refine box_event ?hg (N := 2) ?hd (cs := #[.int .i64 0, .int .i64 0, .int .i64 0, .slice none 0 0, .slice none 0 0]) (t := 38) ?hr ?_; (case hd => rfl); (case hg => rfl); (case hr => exact zq30); intro gb101 hg w52 hbox hb; have n0_ := mk0 (IsS56.below zq0 hb); have n1_ := mk0 (KeepBut.trans zq1 (KeepBut.of_below hb g none) (.inl rfl)); have n2_ := mk0 (below_step zq3 hb); have n3_ := mk0 (hbox); have n4_ := mk0 ((zq27 : w.heap.size ≤ gb101)); have n5_ := mk0 ((Nat.le_trans HW0.out (zq27 : w.heap.size ≤ gb101) : w0.heap.size ≤ gb101)); have n6_ := mk0 ((by rw [hg]; exact Nat.ne_of_lt (IsS56.lt (show IsS56 w0 _ g s0_0 s0_1 from zq0)) : g ≠ gb101)); have n7_ := mk0 ((by rw [hg]; exact Nat.ne_of_gt (IsS56.lt (show IsS56 w0 _ g s0_0 s0_1 from zq0)) : gb101 ≠ g)); clear HI0 HK HB; have HI0 := n0_; have HK := n1_; have HB := n2_; have BK101 := n3_; have GW101 := n4_; have GE101 := n5_; have NB0_101 := n6_; have NB101_0 := n7_; clear n0_ n1_ n2_ n3_ n4_ n5_ n6_ n7_; clear hb hbox hg; obtain ⟨HGz53, hgz53⟩ := HI0.out; have hcz53_0 := cellS56_0 HGz53; have hcz53_1 := cellS56_1 HGz53; have hfz53_0 := blk_frozen HGz53 0; have hfz53_1 := blk_frozen HGz53 1; clear HGz53 hgz53) | ((with_reducible refine gate_dst (N := 4) rfl ?_); refine box_event ?hg (N := 4) ?hd (cs := #[.int .i64 0, .int .i64 0, .int .i64 0, .slice none 0 0, .slice none 0 0]) (t := 38) ?hr ?_; (case hd => rfl); (case hg => rfl); (case hr => exact zq30); intro gb102 hg w54 hbox hb; have n0_ := mk0 (IsS56.below zq21 hb); have n1_ := mk0 (blk_below (g := gb101) (o := .cells #[.int .i64 0, .int .i64 0, .int .i64 0, .slice none 0 0, .slice none 0 0] 38 (0, 0)) zq20 hb); have n2_ := mk0 (KeepBut.trans zq22 (KeepBut.of_below hb g none) (.inl rfl)); have n3_ := mk0 (below_step zq39 hb); have n4_ := mk0 (hbox); have n5_ := mk0 ((zq51 : w.heap.size ≤ gb102)); have n6_ := mk0 ((Nat.le_trans HW0.out (zq51 : w.heap.size ≤ gb102) : w0.heap.size ≤ gb102)); have n7_ := mk0 ((zq47 : gb101 ≠ gb102)); have n8_ := mk0 ((zq48 : gb102 ≠ gb101)); have n9_ := mk0 ((by rw [hg]; exact Nat.ne_of_lt (IsS56.lt (show IsS56 w0 _ g s0_0 s0_1 from zq21)) : g ≠ gb102)); have n10_ := mk0 ((by rw [hg]; exact Nat.ne_of_gt (IsS56.lt (show IsS56 w0 _ g s0_0 s0_1 from zq21)) : gb102 ≠ g)); clear HI0 BK101 HK HB; have HI0 := n0_; have BK101 := n1_; have HK := n2_; have HB := n3_; have BK102 := n4_; have GW102 := n5_; have GE102 := n6_; have NB101_102 := n7_; have NB102_101 := n8_; have NB0_102 := n9_; have NB102_0 := n10_; clear n0_ n1_ n2_ n3_ n4_ n5_ n6_ n7_ n8_ n9_ n10_; clear hb hbox hg; have hnb55 := NB102_101.out; have hnc55 := NB101_102.out; have hnb56 := NB102_0.out; have hnc56 := NB0_102.out; have hcz57_0 : w54.cell? ⟨gb102, 0, none⟩ = some (.int .i64 0) := (blk_cell BK102.out 0).trans rfl; have hcz57_1 : w54.cell? ⟨gb102, 1, none⟩ = some (.int .i64 0) := (blk_cell BK102.out 1).trans rfl; have hcz57_2 : w54.cell? ⟨gb102, 2, none⟩ = some (.int .i64 0) := (blk_cell BK102.out 2).trans rfl; have hcz57_3 : w54.cell? ⟨gb102, 3, none⟩ = some (.slice none 0 0) := (blk_cell BK102.out 3).trans rfl; have hcz57_4 : w54.cell? ⟨gb102, 4, none⟩ = some (.slice none 0 0) := (blk_cell BK102.out 4).trans rfl; have hfz57_0 := blk_frozen BK102.out 0; have hfz57_1 := blk_frozen BK102.out 1; have hfz57_2 := blk_frozen BK102.out 2; have hfz57_3 := blk_frozen BK102.out 3; have hfz57_4 := blk_frozen BK102.out 4) | ((with_reducible refine gate_callee (f := 48) rfl ?_); refine goesL_ (some 13) rfl rfl Tryd.func48 zq23 rfl #[.pointer (some ⟨g, 0, none⟩)] rfl zq2 ?_; (with_reducible refine (spec_reader_here.calls g s0_0 s0_1 t103 t104 t105 w0 _ ?side1 ?side2 A2.out).mono ?_); (case side1 => exact zq8); (case side2 => exact zq10); rintro e w58 ⟨rfl, hi, hb, hk⟩; refine ⟨_, rfl, ?_⟩; have n0_ := mk0 (KeepBut.blk hk (g' := gb101) (o := .cells #[.int .i64 0, .int .i64 0, .int .i64 0, .slice none 0 0, .slice none 0 0] 38 (0, 0)) zq19 NB101_0.out (by simp)); have n1_ := mk0 (KeepBut.blk hk (g' := gb102) (o := .cells #[.int .i64 0, .int .i64 s0_1, .int .i64 0, .slice none 0 0, .slice none 0 0] 38 (0, 0)) zq11 NB102_0.out (by simp)); have n2_ := mk0 (KeepBut.trans zq7 hk (.inl rfl)); have n3_ := mk0 (hb); have n4_ := mk0 (hi); clear BK101 BK102 HK HB HI0; have BK101 := n0_; have BK102 := n1_; have HK := n2_; have HB := n3_; have HI0 := n4_; clear n0_ n1_ n2_ n3_ n4_; (try clear hb); (try clear hb2); (try clear hk); (try clear hi)))
 (try simp only [Act.put, List.setIfInBounds_toArray, List.set_cons_zero, List.set_cons_succ])
 go_cut [42] (fun v42 wc => ∃ (kq : Nat) (x42_50 : Bool), v42 = .bool x42_50 ∧ Aside0 (spec_reader_value.j0 kq true x42_50 t104 t105 0 s0_1 0 = some (r1, r2, r3, r4, r5, r6, r7, r8)) ∧ Aside0 (kq ≤ k) ∧ Aside0 (wc.heap[gb101]? = some (.cells #[.int .i64 0, .int .i64 0, .int .i64 0, (.slice none 0 0), (.slice none 0 0)] 38 (0, 0))) ∧ Aside0 (wc.heap[gb102]? = some (.cells #[.int .i64 0, .int .i64 s0_1, .int .i64 0, (.slice none 0 0), (.slice none 0 0)] 38 (0, 0))) ∧ Aside0 (IsS56 w0 wc g t104 t105) ∧ Aside0 (KeepBut w wc g none) ∧ Aside0 (Below w0.heap.size w0 wc))
 case first =>
  have H := HC51.out
  clear HC51
  by_cases c59 : t103 = 45
  ·rw [if_pos c59] at H
   have c59b0 : (t103 == 45) = true := beq_iff_eq.mpr c59
   have c59b1 : (t103 != 45) = false := bne_eq_false_iff_eq.mpr c59
   clear c59
   (first | rw [c59b0] | (simp only [i64_w, i32_w]; rw [c59b0]) | skip)
   have H' := mk0 H
   clear H
   go_wp2
   go_meet
   case rel => exact ⟨_, (true), zq13, H', ⟨by first | omega | exact Nat.le_refl _⟩, ⟨by (with_reducible repeat (first | refine blk_drewN ?_ _ | refine blk_drew ?_ | refine blk_alloc ?_ _)); exact BK101.out⟩, ⟨by (with_reducible repeat (first | refine blk_drewN ?_ _ | refine blk_drew ?_ | refine blk_alloc ?_ _)); exact BK102.out⟩, ⟨by repeat (first | (with_reducible first | exact HI0.out | apply IsS56.alloc | apply IsS56.drewN | apply IsS56.drew | apply IsS56.set_0 | apply IsS56.set_1 | refine IsS56.far ?_ NB0_101.out _ | refine IsS56.far ?_ NB0_102.out _) | exact HI0.out)⟩, ⟨by repeat (first | (with_reducible first | exact HK.out | apply KeepBut.set_ | apply keep_drewN | apply keep_drew | apply keep_alloc | refine keep_far ?_ GW101.out _ | refine keep_far ?_ GW102.out _) | exact HK.out)⟩, ⟨by repeat (first | (with_reducible first | exact HB.out | apply below_alloc | apply pw_below_drewN | apply below_drew1 | refine below_set ?_ (IsS56.ge HI0.out) | refine below_set ?_ GE101.out | refine below_set ?_ GE102.out) | exact HB.out)⟩⟩
  rw [if_neg c59] at H
  have c59b0 : (t103 == 45) = false := beq_eq_false_iff_ne.mpr c59
  have c59b1 : (t103 != 45) = true := bne_iff_ne.mpr c59
  (first | rw [c59b0] | (simp only [i64_w, i32_w]; rw [c59b0]) | skip)
  by_cases c60 : 48 ≤ t103
  rotate_left
  ·rw [if_neg c60] at H
   have c60b0 : decide (48 ≤ t103) = false := decide_eq_false c60
   clear c60
   have H' := mk0 H
   clear H
   go_wp2
   go_meet
   case rel => exact ⟨_, (false), zq13, H', ⟨by first | omega | exact Nat.le_refl _⟩, ⟨by (with_reducible repeat (first | refine blk_drewN ?_ _ | refine blk_drew ?_ | refine blk_alloc ?_ _)); exact BK101.out⟩, ⟨by (with_reducible repeat (first | refine blk_drewN ?_ _ | refine blk_drew ?_ | refine blk_alloc ?_ _)); exact BK102.out⟩, ⟨by repeat (first | (with_reducible first | exact HI0.out | apply IsS56.alloc | apply IsS56.drewN | apply IsS56.drew | apply IsS56.set_0 | apply IsS56.set_1 | refine IsS56.far ?_ NB0_101.out _ | refine IsS56.far ?_ NB0_102.out _) | exact HI0.out)⟩, ⟨by repeat (first | (with_reducible first | exact HK.out | apply KeepBut.set_ | apply keep_drewN | apply keep_drew | apply keep_alloc | refine keep_far ?_ GW101.out _ | refine keep_far ?_ GW102.out _) | exact HK.out)⟩, ⟨by repeat (first | (with_reducible first | exact HB.out | apply below_alloc | apply pw_below_drewN | apply below_drew1 | refine below_set ?_ (IsS56.ge HI0.out) | refine below_set ?_ GE101.out | refine below_set ?_ GE102.out) | exact HB.out)⟩⟩
  rw [if_pos c60] at H
  have c60b0 : decide (48 ≤ t103) = true := decide_eq_true c60
  clear c60
  have H' := mk0 H
  clear H
  go_wp2
  go_meet
  case rel => exact ⟨_, (decide (t103 ≤ 57)), zq13, H', ⟨by first | omega | exact Nat.le_refl _⟩, ⟨by (with_reducible repeat (first | refine blk_drewN ?_ _ | refine blk_drew ?_ | refine blk_alloc ?_ _)); exact BK101.out⟩, ⟨by (with_reducible repeat (first | refine blk_drewN ?_ _ | refine blk_drew ?_ | refine blk_alloc ?_ _)); exact BK102.out⟩, ⟨by repeat (first | (with_reducible first | exact HI0.out | apply IsS56.alloc | apply IsS56.drewN | apply IsS56.drew | apply IsS56.set_0 | apply IsS56.set_1 | refine IsS56.far ?_ NB0_101.out _ | refine IsS56.far ?_ NB0_102.out _) | exact HI0.out)⟩, ⟨by repeat (first | (with_reducible first | exact HK.out | apply KeepBut.set_ | apply keep_drewN | apply keep_drew | apply keep_alloc | refine keep_far ?_ GW101.out _ | refine keep_far ?_ GW102.out _) | exact HK.out)⟩, ⟨by repeat (first | (with_reducible first | exact HB.out | apply below_alloc | apply pw_below_drewN | apply below_drew1 | refine below_set ?_ (IsS56.ge HI0.out) | refine below_set ?_ GE101.out | refine below_set ?_ GE102.out) | exact HB.out)⟩⟩
 case rest =>
  clear HC51
  try clear c1
  try clear c2
  try clear p2
  try clear c3
  try clear c3b0
  try clear c3b1
  try clear c4
  try clear c5
  try clear c6
  try clear c8
  try clear c9
  try clear c18
  try clear c20
  try clear c20b0
  try clear c20b1
  try clear c25
  try clear c26
  try clear c29
  try clear c34
  try clear c36
  try clear c36b0
  try clear c36b1
  try clear c41
  try clear c42
  try clear c48
  try clear c49
  try clear c50
  try clear c51
  try clear c55
  try clear c56
  try clear c59
  try clear c59b0
  try clear c59b1
  try clear c60
  try clear c60b0
  try clear hcz10_0
  try clear hcz10_1
  try clear hcz10_2
  try clear hcz10_3
  try clear hcz10_4
  try clear hcz12_0
  try clear hcz12_1
  try clear hcz12_2
  try clear hcz12_3
  try clear hcz12_4
  try clear hcz15_0
  try clear hcz15_1
  try clear hcz15_2
  try clear hcz15_3
  try clear hcz15_4
  try clear hcz17_0
  try clear hcz17_1
  try clear hcz19_0
  try clear hcz19_1
  try clear hcz19_2
  try clear hcz19_3
  try clear hcz19_4
  try clear hcz23_0
  try clear hcz23_1
  try clear hcz27_0
  try clear hcz27_1
  try clear hcz27_2
  try clear hcz27_3
  try clear hcz27_4
  try clear hcz29_0
  try clear hcz29_1
  try clear hcz29_2
  try clear hcz29_3
  try clear hcz29_4
  try clear hcz32_0
  try clear hcz32_1
  try clear hcz32_2
  try clear hcz32_3
  try clear hcz32_4
  try clear hcz33_0
  try clear hcz33_1
  try clear hcz35_0
  try clear hcz35_1
  try clear hcz35_2
  try clear hcz35_3
  try clear hcz35_4
  try clear hcz39_0
  try clear hcz39_1
  try clear hcz43_0
  try clear hcz43_1
  try clear hcz43_2
  try clear hcz43_3
  try clear hcz43_4
  try clear hcz45_0
  try clear hcz45_1
  try clear hcz45_2
  try clear hcz45_3
  try clear hcz45_4
  try clear hcz47_0
  try clear hcz47_1
  try clear hcz48_0
  try clear hcz48_1
  try clear hcz48_2
  try clear hcz48_3
  try clear hcz48_4
  try clear hcz50_0
  try clear hcz50_1
  try clear hcz50_2
  try clear hcz50_3
  try clear hcz50_4
  try clear hcz53_0
  try clear hcz53_1
  try clear hcz57_0
  try clear hcz57_1
  try clear hcz57_2
  try clear hcz57_3
  try clear hcz57_4
  try clear hcz6_0
  try clear hcz6_1
  try clear hfz10_0
  try clear hfz10_1
  try clear hfz10_2
  try clear hfz10_3
  try clear hfz10_4
  try clear hfz12_0
  try clear hfz12_1
  try clear hfz12_2
  try clear hfz12_3
  try clear hfz12_4
  try clear hfz15_0
  try clear hfz15_1
  try clear hfz15_2
  try clear hfz15_3
  try clear hfz15_4
  try clear hfz17_0
  try clear hfz17_1
  try clear hfz19_0
  try clear hfz19_1
  try clear hfz19_2
  try clear hfz19_3
  try clear hfz19_4
  try clear hfz23_0
  try clear hfz23_1
  try clear hfz27_0
  try clear hfz27_1
  try clear hfz27_2
  try clear hfz27_3
  try clear hfz27_4
  try clear hfz29_0
  try clear hfz29_1
  try clear hfz29_2
  try clear hfz29_3
  try clear hfz29_4
  try clear hfz32_0
  try clear hfz32_1
  try clear hfz32_2
  try clear hfz32_3
  try clear hfz32_4
  try clear hfz33_0
  try clear hfz33_1
  try clear hfz35_0
  try clear hfz35_1
  try clear hfz35_2
  try clear hfz35_3
  try clear hfz35_4
  try clear hfz39_0
  try clear hfz39_1
  try clear hfz43_0
  try clear hfz43_1
  try clear hfz43_2
  try clear hfz43_3
  try clear hfz43_4
  try clear hfz45_0
  try clear hfz45_1
  try clear hfz45_2
  try clear hfz45_3
  try clear hfz45_4
  try clear hfz47_0
  try clear hfz47_1
  try clear hfz48_0
  try clear hfz48_1
  try clear hfz48_2
  try clear hfz48_3
  try clear hfz48_4
  try clear hfz50_0
  try clear hfz50_1
  try clear hfz50_2
  try clear hfz50_3
  try clear hfz50_4
  try clear hfz53_0
  try clear hfz53_1
  try clear hfz57_0
  try clear hfz57_1
  try clear hfz57_2
  try clear hfz57_3
  try clear hfz57_4
  try clear hfz6_0
  try clear hfz6_1
  obtain ⟨kq, x42_50, rfl, HA, HJ50, BK101, BK102, HI0, HK, HB⟩ := hcut
  cases kq with
  | zero => exact absurd HA.out (by simp [spec_reader_value.j0])
  | succ kj50 =>
   have H := HA.out
   clear HA
   simp only [spec_reader_value.j0] at H
   by_cases c61 : x42_50 = true
   ·subst c61
    have H1 : ((spec_reader_number.f kj50 t104 t105).bind fun bt124 => (some (3, s0_1, bt124.2.2, ([] : List (S104)), ([] : List (S38)), bt124.1, bt124.2.1, bt124.2.2))) = some (r1, r2, r3, r4, r5, r6, r7, r8) := by rw [if_pos rfl] at H; exact H
    clear H
    have H := H1
    clear H1
    replace H := Option.bind_eq_some_iff.mp H
    obtain ⟨⟨t124, t125, t126⟩, A620, H⟩ := H
    replace H : (some (3, s0_1, t126, ([] : List (S104)), ([] : List (S38)), t124, t125, t126)) = some (r1, r2, r3, r4, r5, r6, r7, r8) := H
    have A62 := mk0 A620
    clear A620
    simp only [Option.some.injEq, Prod.mk.injEq] at H
    obtain ⟨rfl, rfl, rfl, rfl, rfl, rfl, rfl, rfl⟩ := H
    have hnb63 := NB102_101.out
    have hnc63 := NB101_102.out
    have hnb64 := NB102_0.out
    have hnc64 := NB0_102.out
    have hcz65_0 : wc.cell? ⟨gb102, 0, none⟩ = some (.int .i64 0) := (blk_cell BK102.out 0).trans rfl
    have hcz65_1 : wc.cell? ⟨gb102, 1, none⟩ = some (.int .i64 s0_1) := (blk_cell BK102.out 1).trans rfl
    have hcz65_2 : wc.cell? ⟨gb102, 2, none⟩ = some (.int .i64 0) := (blk_cell BK102.out 2).trans rfl
    have hcz65_3 : wc.cell? ⟨gb102, 3, none⟩ = some (.slice none 0 0) := (blk_cell BK102.out 3).trans rfl
    have hcz65_4 : wc.cell? ⟨gb102, 4, none⟩ = some (.slice none 0 0) := (blk_cell BK102.out 4).trans rfl
    have hfz65_0 := blk_frozen BK102.out 0
    have hfz65_1 := blk_frozen BK102.out 1
    have hfz65_2 := blk_frozen BK102.out 2
    have hfz65_3 := blk_frozen BK102.out 3
    have hfz65_4 := blk_frozen BK102.out 4
    go_wp2_with (first | ((with_reducible refine gate_callee (f := 52) rfl ?_); refine goesL_ (some 55) rfl rfl Tryd.func52 zq23 rfl #[.pointer (some ⟨g, 0, none⟩)] rfl zq2 ?_; (with_reducible refine (spec_reader_number.calls kj50 g t104 t105 t124 t125 t126 w0 _ ?side1 ?side2 A62.out).mono ?_); (case side1 => exact zq8); (case side2 => exact zq10); rintro e w66 ⟨rfl, hi, hb, hk⟩; refine ⟨_, rfl, ?_⟩; have n0_ := mk0 (KeepBut.blk hk (g' := gb101) (o := .cells #[.int .i64 0, .int .i64 0, .int .i64 0, .slice none 0 0, .slice none 0 0] 38 (0, 0)) zq28 NB101_0.out (by simp)); have n1_ := mk0 (KeepBut.blk hk (g' := gb102) (o := .cells #[.int .i64 3, .int .i64 s0_1, .int .i64 0, .slice none 0 0, .slice none 0 0] 38 (0, 0)) zq24 NB102_0.out (by simp)); have n2_ := mk0 (KeepBut.trans zq7 hk (.inl rfl)); have n3_ := mk0 (hb); have n4_ := mk0 (hi); clear BK101 BK102 HK HB HI0; have BK101 := n0_; have BK102 := n1_; have HK := n2_; have HB := n3_; have HI0 := n4_; clear n0_ n1_ n2_ n3_ n4_; (try clear hb); (try clear hb2); (try clear hk); (try clear hi); obtain ⟨HGz67, hgz67⟩ := HI0.out; have hcz67_0 := cellS56_0 HGz67; have hcz67_1 := cellS56_1 HGz67; have hfz67_0 := blk_frozen HGz67 0; have hfz67_1 := blk_frozen HGz67 1; clear HGz67 hgz67; have hcz68_0 : w66.cell? ⟨gb102, 0, none⟩ = some (.int .i64 3) := (blk_cell BK102.out 0).trans rfl; have hcz68_1 : w66.cell? ⟨gb102, 1, none⟩ = some (.int .i64 s0_1) := (blk_cell BK102.out 1).trans rfl; have hcz68_2 : w66.cell? ⟨gb102, 2, none⟩ = some (.int .i64 0) := (blk_cell BK102.out 2).trans rfl; have hcz68_3 : w66.cell? ⟨gb102, 3, none⟩ = some (.slice none 0 0) := (blk_cell BK102.out 3).trans rfl; have hcz68_4 : w66.cell? ⟨gb102, 4, none⟩ = some (.slice none 0 0) := (blk_cell BK102.out 4).trans rfl; have hfz68_0 := blk_frozen BK102.out 0; have hfz68_1 := blk_frozen BK102.out 1; have hfz68_2 := blk_frozen BK102.out 2; have hfz68_3 := blk_frozen BK102.out 3; have hfz68_4 := blk_frozen BK102.out 4; have hnb69 := NB101_0.out; have hnc69 := NB0_101.out; have hcz70_0 : w66.cell? ⟨gb101, 0, none⟩ = some (.int .i64 0) := (blk_cell BK101.out 0).trans rfl; have hcz70_1 : w66.cell? ⟨gb101, 1, none⟩ = some (.int .i64 0) := (blk_cell BK101.out 1).trans rfl; have hcz70_2 : w66.cell? ⟨gb101, 2, none⟩ = some (.int .i64 0) := (blk_cell BK101.out 2).trans rfl; have hcz70_3 : w66.cell? ⟨gb101, 3, none⟩ = some (.slice none 0 0) := (blk_cell BK101.out 3).trans rfl; have hcz70_4 : w66.cell? ⟨gb101, 4, none⟩ = some (.slice none 0 0) := (blk_cell BK101.out 4).trans rfl; have hfz70_0 := blk_frozen BK101.out 0; have hfz70_1 := blk_frozen BK101.out 1; have hfz70_2 := blk_frozen BK101.out 2; have hfz70_3 := blk_frozen BK101.out 3; have hfz70_4 := blk_frozen BK101.out 4))
    refine bodyPost_ret (results_ct rfl _ _ gb101 38 #[.int .i64 3, .int .i64 s0_1, .int .i64 t126, .slice none 0 0, .slice none 0 0] (0, 0) _ rfl (by (with_reducible repeat (first | refine blk_drewN ?_ _ | refine blk_drew ?_ | refine blk_alloc ?_ _)); refine blk_put (cs := #[.int .i64 3, .int .i64 s0_1, .int .i64 t126, .slice none 0 0, .slice none 0 0]) ?_ 4 _ rfl; (with_reducible repeat (first | refine blk_drewN ?_ _ | refine blk_drew ?_ | refine blk_alloc ?_ _)); refine blk_put (cs := #[.int .i64 3, .int .i64 s0_1, .int .i64 t126, .slice none 0 0, .slice none 0 0]) ?_ 3 _ rfl; (with_reducible repeat (first | refine blk_drewN ?_ _ | refine blk_drew ?_ | refine blk_alloc ?_ _)); refine blk_put (cs := #[.int .i64 3, .int .i64 s0_1, .int .i64 0, .slice none 0 0, .slice none 0 0]) ?_ 2 _ rfl; (with_reducible repeat (first | refine blk_drewN ?_ _ | refine blk_drew ?_ | refine blk_alloc ?_ _)); refine blk_put (cs := #[.int .i64 3, .int .i64 0, .int .i64 0, .slice none 0 0, .slice none 0 0]) ?_ 1 _ rfl; (with_reducible repeat (first | refine blk_drewN ?_ _ | refine blk_drew ?_ | refine blk_alloc ?_ _)); refine blk_put (cs := #[.int .i64 0, .int .i64 0, .int .i64 0, .slice none 0 0, .slice none 0 0]) ?_ 0 _ rfl; (with_reducible repeat (first | refine blk_drewN ?_ _ | refine blk_drew ?_ | refine blk_alloc ?_ _)); refine blk_far ?_ NB101_102.out _; (with_reducible repeat (first | refine blk_drewN ?_ _ | refine blk_drew ?_ | refine blk_alloc ?_ _)); exact BK101.out) Tryd.underlying38 rfl zq23) rfl ?_
    exact ⟨_, _, by first | rfl | (simp [errW_none, errW_some] <;> rfl) | (simp [*, errW_none, errW_some] <;> rfl), by first | exact Kd.R_nil _ _ _ _ _ | exact Kd.N_nil _ _ _ _ _ | exact Kd.V_nil _ _ _ _ _ | exact Kd.Q_nil _ _ _ _ _ | exact Kd.S_nil _ _ _ _ _, by first | exact Kd.R_nil _ _ _ _ _ | exact Kd.N_nil _ _ _ _ _ | exact Kd.V_nil _ _ _ _ _ | exact Kd.Q_nil _ _ _ _ _ | exact Kd.S_nil _ _ _ _ _, by repeat (first | (with_reducible first | exact HI0.out | apply IsS56.alloc | apply IsS56.drewN | apply IsS56.drew | apply IsS56.set_0 | apply IsS56.set_1 | refine IsS56.far ?_ NB0_101.out _ | refine IsS56.far ?_ NB0_102.out _) | exact HI0.out), by repeat (first | (with_reducible first | exact HB.out | apply below_alloc | apply pw_below_drewN | apply below_drew1 | refine below_set ?_ (IsS56.ge HI0.out) | refine below_set ?_ GE101.out | refine below_set ?_ GE102.out) | exact HB.out), by repeat (first | (with_reducible first | exact HK.out | apply KeepBut.set_ | apply keep_drewN | apply keep_drew | apply keep_alloc | refine keep_far ?_ GW101.out _ | refine keep_far ?_ GW102.out _) | exact HK.out)⟩
   replace c61 := Bool.eq_false_iff.mpr c61
   subst c61
   have H1 : ((spec_reader_word.f t104 t105 (⟨#[110, 117, 108, 108]⟩ : ByteArray)).bind fun bt127 => (if bt127.1 = true then (some (0, s0_1, bt127.2.2, ([] : List (S104)), ([] : List (S38)), true, bt127.2.1, bt127.2.2)) else ((spec_reader_word.f bt127.2.1 bt127.2.2 (⟨#[102, 97, 108, 115, 101]⟩ : ByteArray)).bind fun bt130 => (if bt130.1 = true then (some (1, s0_1, bt130.2.2, ([] : List (S104)), ([] : List (S38)), true, bt130.2.1, bt130.2.2)) else ((spec_reader_word.f bt130.2.1 bt130.2.2 (⟨#[116, 114, 117, 101]⟩ : ByteArray)).bind fun bt133 => (if bt133.1 = true then (some (2, s0_1, bt133.2.2, ([] : List (S104)), ([] : List (S38)), true, bt133.2.1, bt133.2.2)) else (some (0, s0_1, bt133.2.2, ([] : List (S104)), ([] : List (S38)), false, bt133.2.1, bt133.2.2)))))))) = some (r1, r2, r3, r4, r5, r6, r7, r8) := by rw [if_neg (show ¬ (false = true) by decide)] at H; exact H
   clear H
   have H := H1
   clear H1
   replace H := Option.bind_eq_some_iff.mp H
   obtain ⟨⟨t127, t128, t129⟩, A710, H⟩ := H
   replace H : (if t127 = true then (some (0, s0_1, t129, ([] : List (S104)), ([] : List (S38)), true, t128, t129)) else ((spec_reader_word.f t128 t129 (⟨#[102, 97, 108, 115, 101]⟩ : ByteArray)).bind fun bt130 => (if bt130.1 = true then (some (1, s0_1, bt130.2.2, ([] : List (S104)), ([] : List (S38)), true, bt130.2.1, bt130.2.2)) else ((spec_reader_word.f bt130.2.1 bt130.2.2 (⟨#[116, 114, 117, 101]⟩ : ByteArray)).bind fun bt133 => (if bt133.1 = true then (some (2, s0_1, bt133.2.2, ([] : List (S104)), ([] : List (S38)), true, bt133.2.1, bt133.2.2)) else (some (0, s0_1, bt133.2.2, ([] : List (S104)), ([] : List (S38)), false, bt133.2.1, bt133.2.2))))))) = some (r1, r2, r3, r4, r5, r6, r7, r8) := H
   have A71 := mk0 A710
   clear A710
   by_cases c72 : t127 = true
   ·subst c72
    have H1 : (some (0, s0_1, t129, ([] : List (S104)), ([] : List (S38)), true, t128, t129)) = some (r1, r2, r3, r4, r5, r6, r7, r8) := by rw [if_pos rfl] at H; exact H
    clear H
    have H := H1
    clear H1
    simp only [Option.some.injEq, Prod.mk.injEq] at H
    obtain ⟨rfl, rfl, rfl, rfl, rfl, rfl, rfl, rfl⟩ := H
    go_wp2_with (first | ((with_reducible refine gate_callee (f := 53) rfl ?_); refine goesL_ (some 58) rfl rfl Tryd.func53 zq23 rfl #[.pointer (some ⟨g, 0, none⟩), .string (⟨#[110, 117, 108, 108]⟩ : ByteArray)] rfl zq2 ?_; (with_reducible refine (spec_reader_word.calls g t104 t105 (⟨#[110, 117, 108, 108]⟩ : ByteArray) true t128 t129 w0 _ ?side1 ?side2 A71.out).mono ?_); (case side1 => exact zq8); (case side2 => exact zq10); rintro e w73 ⟨rfl, hi, hb, hk⟩; refine ⟨_, rfl, ?_⟩; have n0_ := mk0 (KeepBut.blk hk (g' := gb101) (o := .cells #[.int .i64 0, .int .i64 0, .int .i64 0, .slice none 0 0, .slice none 0 0] 38 (0, 0)) zq20 NB101_0.out (by simp)); have n1_ := mk0 (KeepBut.blk hk (g' := gb102) (o := .cells #[.int .i64 0, .int .i64 s0_1, .int .i64 0, .slice none 0 0, .slice none 0 0] 38 (0, 0)) zq31 NB102_0.out (by simp)); have n2_ := mk0 (KeepBut.trans zq7 hk (.inl rfl)); have n3_ := mk0 (hb); have n4_ := mk0 (hi); clear BK101 BK102 HK HB HI0; have BK101 := n0_; have BK102 := n1_; have HK := n2_; have HB := n3_; have HI0 := n4_; clear n0_ n1_ n2_ n3_ n4_; (try clear hb); (try clear hb2); (try clear hk); (try clear hi); have hnb74 := NB102_101.out; have hnc74 := NB101_102.out; have hnb75 := NB102_0.out; have hnc75 := NB0_102.out; have hcz76_0 : w73.cell? ⟨gb102, 0, none⟩ = some (.int .i64 0) := (blk_cell BK102.out 0).trans rfl; have hcz76_1 : w73.cell? ⟨gb102, 1, none⟩ = some (.int .i64 s0_1) := (blk_cell BK102.out 1).trans rfl; have hcz76_2 : w73.cell? ⟨gb102, 2, none⟩ = some (.int .i64 0) := (blk_cell BK102.out 2).trans rfl; have hcz76_3 : w73.cell? ⟨gb102, 3, none⟩ = some (.slice none 0 0) := (blk_cell BK102.out 3).trans rfl; have hcz76_4 : w73.cell? ⟨gb102, 4, none⟩ = some (.slice none 0 0) := (blk_cell BK102.out 4).trans rfl; have hfz76_0 := blk_frozen BK102.out 0; have hfz76_1 := blk_frozen BK102.out 1; have hfz76_2 := blk_frozen BK102.out 2; have hfz76_3 := blk_frozen BK102.out 3; have hfz76_4 := blk_frozen BK102.out 4; obtain ⟨HGz77, hgz77⟩ := HI0.out; have hcz77_0 := cellS56_0 HGz77; have hcz77_1 := cellS56_1 HGz77; have hfz77_0 := blk_frozen HGz77 0; have hfz77_1 := blk_frozen HGz77 1; clear HGz77 hgz77; have hnb78 := NB101_0.out; have hnc78 := NB0_101.out; have hcz79_0 : w73.cell? ⟨gb101, 0, none⟩ = some (.int .i64 0) := (blk_cell BK101.out 0).trans rfl; have hcz79_1 : w73.cell? ⟨gb101, 1, none⟩ = some (.int .i64 0) := (blk_cell BK101.out 1).trans rfl; have hcz79_2 : w73.cell? ⟨gb101, 2, none⟩ = some (.int .i64 0) := (blk_cell BK101.out 2).trans rfl; have hcz79_3 : w73.cell? ⟨gb101, 3, none⟩ = some (.slice none 0 0) := (blk_cell BK101.out 3).trans rfl; have hcz79_4 : w73.cell? ⟨gb101, 4, none⟩ = some (.slice none 0 0) := (blk_cell BK101.out 4).trans rfl; have hfz79_0 := blk_frozen BK101.out 0; have hfz79_1 := blk_frozen BK101.out 1; have hfz79_2 := blk_frozen BK101.out 2; have hfz79_3 := blk_frozen BK101.out 3; have hfz79_4 := blk_frozen BK101.out 4))
    refine bodyPost_ret (results_ct rfl _ _ gb101 38 #[.int .i64 0, .int .i64 s0_1, .int .i64 t129, .slice none 0 0, .slice none 0 0] (0, 0) _ rfl (by (with_reducible repeat (first | refine blk_drewN ?_ _ | refine blk_drew ?_ | refine blk_alloc ?_ _)); refine blk_put (cs := #[.int .i64 0, .int .i64 s0_1, .int .i64 t129, .slice none 0 0, .slice none 0 0]) ?_ 4 _ rfl; (with_reducible repeat (first | refine blk_drewN ?_ _ | refine blk_drew ?_ | refine blk_alloc ?_ _)); refine blk_put (cs := #[.int .i64 0, .int .i64 s0_1, .int .i64 t129, .slice none 0 0, .slice none 0 0]) ?_ 3 _ rfl; (with_reducible repeat (first | refine blk_drewN ?_ _ | refine blk_drew ?_ | refine blk_alloc ?_ _)); refine blk_put (cs := #[.int .i64 0, .int .i64 s0_1, .int .i64 0, .slice none 0 0, .slice none 0 0]) ?_ 2 _ rfl; (with_reducible repeat (first | refine blk_drewN ?_ _ | refine blk_drew ?_ | refine blk_alloc ?_ _)); refine blk_put (cs := #[.int .i64 0, .int .i64 0, .int .i64 0, .slice none 0 0, .slice none 0 0]) ?_ 1 _ rfl; (with_reducible repeat (first | refine blk_drewN ?_ _ | refine blk_drew ?_ | refine blk_alloc ?_ _)); refine blk_put (cs := #[.int .i64 0, .int .i64 0, .int .i64 0, .slice none 0 0, .slice none 0 0]) ?_ 0 _ rfl; (with_reducible repeat (first | refine blk_drewN ?_ _ | refine blk_drew ?_ | refine blk_alloc ?_ _)); refine blk_far ?_ NB101_102.out _; (with_reducible repeat (first | refine blk_drewN ?_ _ | refine blk_drew ?_ | refine blk_alloc ?_ _)); refine blk_far ?_ NB101_102.out _; (with_reducible repeat (first | refine blk_drewN ?_ _ | refine blk_drew ?_ | refine blk_alloc ?_ _)); exact BK101.out) Tryd.underlying38 rfl zq23) rfl ?_
    exact ⟨_, _, by first | rfl | (simp [errW_none, errW_some] <;> rfl) | (simp [*, errW_none, errW_some] <;> rfl), by first | exact Kd.R_nil _ _ _ _ _ | exact Kd.N_nil _ _ _ _ _ | exact Kd.V_nil _ _ _ _ _ | exact Kd.Q_nil _ _ _ _ _ | exact Kd.S_nil _ _ _ _ _, by first | exact Kd.R_nil _ _ _ _ _ | exact Kd.N_nil _ _ _ _ _ | exact Kd.V_nil _ _ _ _ _ | exact Kd.Q_nil _ _ _ _ _ | exact Kd.S_nil _ _ _ _ _, by repeat (first | (with_reducible first | exact HI0.out | apply IsS56.alloc | apply IsS56.drewN | apply IsS56.drew | apply IsS56.set_0 | apply IsS56.set_1 | refine IsS56.far ?_ NB0_101.out _ | refine IsS56.far ?_ NB0_102.out _) | exact HI0.out), by repeat (first | (with_reducible first | exact HB.out | apply below_alloc | apply pw_below_drewN | apply below_drew1 | refine below_set ?_ (IsS56.ge HI0.out) | refine below_set ?_ GE101.out | refine below_set ?_ GE102.out) | exact HB.out), by repeat (first | (with_reducible first | exact HK.out | apply KeepBut.set_ | apply keep_drewN | apply keep_drew | apply keep_alloc | refine keep_far ?_ GW101.out _ | refine keep_far ?_ GW102.out _) | exact HK.out)⟩
   replace c72 := Bool.eq_false_iff.mpr c72
   subst c72
   have H1 : ((spec_reader_word.f t128 t129 (⟨#[102, 97, 108, 115, 101]⟩ : ByteArray)).bind fun bt130 => (if bt130.1 = true then (some (1, s0_1, bt130.2.2, ([] : List (S104)), ([] : List (S38)), true, bt130.2.1, bt130.2.2)) else ((spec_reader_word.f bt130.2.1 bt130.2.2 (⟨#[116, 114, 117, 101]⟩ : ByteArray)).bind fun bt133 => (if bt133.1 = true then (some (2, s0_1, bt133.2.2, ([] : List (S104)), ([] : List (S38)), true, bt133.2.1, bt133.2.2)) else (some (0, s0_1, bt133.2.2, ([] : List (S104)), ([] : List (S38)), false, bt133.2.1, bt133.2.2)))))) = some (r1, r2, r3, r4, r5, r6, r7, r8) := by rw [if_neg (show ¬ (false = true) by decide)] at H; exact H
   clear H
   have H := H1
   clear H1
   replace H := Option.bind_eq_some_iff.mp H
   obtain ⟨⟨t130, t131, t132⟩, A800, H⟩ := H
   replace H : (if t130 = true then (some (1, s0_1, t132, ([] : List (S104)), ([] : List (S38)), true, t131, t132)) else ((spec_reader_word.f t131 t132 (⟨#[116, 114, 117, 101]⟩ : ByteArray)).bind fun bt133 => (if bt133.1 = true then (some (2, s0_1, bt133.2.2, ([] : List (S104)), ([] : List (S38)), true, bt133.2.1, bt133.2.2)) else (some (0, s0_1, bt133.2.2, ([] : List (S104)), ([] : List (S38)), false, bt133.2.1, bt133.2.2))))) = some (r1, r2, r3, r4, r5, r6, r7, r8) := H
   have A80 := mk0 A800
   clear A800
   by_cases c81 : t130 = true
   ·subst c81
    have H1 : (some (1, s0_1, t132, ([] : List (S104)), ([] : List (S38)), true, t131, t132)) = some (r1, r2, r3, r4, r5, r6, r7, r8) := by rw [if_pos rfl] at H; exact H
    clear H
    have H := H1
    clear H1
    simp only [Option.some.injEq, Prod.mk.injEq] at H
    obtain ⟨rfl, rfl, rfl, rfl, rfl, rfl, rfl, rfl⟩ := H
    go_wp2_with (first | ((with_reducible refine gate_callee (f := 53) rfl ?_); refine goesL_ (some 58) rfl rfl Tryd.func53 zq23 rfl #[.pointer (some ⟨g, 0, none⟩), .string (⟨#[110, 117, 108, 108]⟩ : ByteArray)] rfl zq2 ?_; (with_reducible refine (spec_reader_word.calls g t104 t105 (⟨#[110, 117, 108, 108]⟩ : ByteArray) false t128 t129 w0 _ ?side1 ?side2 A71.out).mono ?_); (case side1 => exact zq8); (case side2 => exact zq10); rintro e w82 ⟨rfl, hi, hb, hk⟩; refine ⟨_, rfl, ?_⟩; have n0_ := mk0 (KeepBut.blk hk (g' := gb101) (o := .cells #[.int .i64 0, .int .i64 0, .int .i64 0, .slice none 0 0, .slice none 0 0] 38 (0, 0)) zq20 NB101_0.out (by simp)); have n1_ := mk0 (KeepBut.blk hk (g' := gb102) (o := .cells #[.int .i64 0, .int .i64 s0_1, .int .i64 0, .slice none 0 0, .slice none 0 0] 38 (0, 0)) zq31 NB102_0.out (by simp)); have n2_ := mk0 (KeepBut.trans zq7 hk (.inl rfl)); have n3_ := mk0 (hb); have n4_ := mk0 (hi); clear BK101 BK102 HK HB HI0; have BK101 := n0_; have BK102 := n1_; have HK := n2_; have HB := n3_; have HI0 := n4_; clear n0_ n1_ n2_ n3_ n4_; (try clear hb); (try clear hb2); (try clear hk); (try clear hi)) | ((with_reducible refine gate_callee (f := 53) rfl ?_); refine goesL_ (some 62) rfl rfl Tryd.func53 zq23 rfl #[.pointer (some ⟨g, 0, none⟩), .string (⟨#[102, 97, 108, 115, 101]⟩ : ByteArray)] rfl zq2 ?_; (with_reducible refine (spec_reader_word.calls g t128 t129 (⟨#[102, 97, 108, 115, 101]⟩ : ByteArray) true t131 t132 w0 _ ?side1 ?side2 A80.out).mono ?_); (case side1 => exact zq8); (case side2 => exact zq10); rintro e w83 ⟨rfl, hi, hb, hk⟩; refine ⟨_, rfl, ?_⟩; have n0_ := mk0 (KeepBut.blk hk (g' := gb101) (o := .cells #[.int .i64 0, .int .i64 0, .int .i64 0, .slice none 0 0, .slice none 0 0] 38 (0, 0)) zq20 NB101_0.out (by simp)); have n1_ := mk0 (KeepBut.blk hk (g' := gb102) (o := .cells #[.int .i64 0, .int .i64 s0_1, .int .i64 0, .slice none 0 0, .slice none 0 0] 38 (0, 0)) zq31 NB102_0.out (by simp)); have n2_ := mk0 (KeepBut.trans zq7 hk (.inl rfl)); have n3_ := mk0 (hb); have n4_ := mk0 (hi); clear BK101 BK102 HK HB HI0; have BK101 := n0_; have BK102 := n1_; have HK := n2_; have HB := n3_; have HI0 := n4_; clear n0_ n1_ n2_ n3_ n4_; (try clear hb); (try clear hb2); (try clear hk); (try clear hi); have hnb84 := NB102_101.out; have hnc84 := NB101_102.out; have hnb85 := NB102_0.out; have hnc85 := NB0_102.out; have hcz86_0 : w83.cell? ⟨gb102, 0, none⟩ = some (.int .i64 0) := (blk_cell BK102.out 0).trans rfl; have hcz86_1 : w83.cell? ⟨gb102, 1, none⟩ = some (.int .i64 s0_1) := (blk_cell BK102.out 1).trans rfl; have hcz86_2 : w83.cell? ⟨gb102, 2, none⟩ = some (.int .i64 0) := (blk_cell BK102.out 2).trans rfl; have hcz86_3 : w83.cell? ⟨gb102, 3, none⟩ = some (.slice none 0 0) := (blk_cell BK102.out 3).trans rfl; have hcz86_4 : w83.cell? ⟨gb102, 4, none⟩ = some (.slice none 0 0) := (blk_cell BK102.out 4).trans rfl; have hfz86_0 := blk_frozen BK102.out 0; have hfz86_1 := blk_frozen BK102.out 1; have hfz86_2 := blk_frozen BK102.out 2; have hfz86_3 := blk_frozen BK102.out 3; have hfz86_4 := blk_frozen BK102.out 4; obtain ⟨HGz87, hgz87⟩ := HI0.out; have hcz87_0 := cellS56_0 HGz87; have hcz87_1 := cellS56_1 HGz87; have hfz87_0 := blk_frozen HGz87 0; have hfz87_1 := blk_frozen HGz87 1; clear HGz87 hgz87; have hnb88 := NB101_0.out; have hnc88 := NB0_101.out; have hcz89_0 : w83.cell? ⟨gb101, 0, none⟩ = some (.int .i64 0) := (blk_cell BK101.out 0).trans rfl; have hcz89_1 : w83.cell? ⟨gb101, 1, none⟩ = some (.int .i64 0) := (blk_cell BK101.out 1).trans rfl; have hcz89_2 : w83.cell? ⟨gb101, 2, none⟩ = some (.int .i64 0) := (blk_cell BK101.out 2).trans rfl; have hcz89_3 : w83.cell? ⟨gb101, 3, none⟩ = some (.slice none 0 0) := (blk_cell BK101.out 3).trans rfl; have hcz89_4 : w83.cell? ⟨gb101, 4, none⟩ = some (.slice none 0 0) := (blk_cell BK101.out 4).trans rfl; have hfz89_0 := blk_frozen BK101.out 0; have hfz89_1 := blk_frozen BK101.out 1; have hfz89_2 := blk_frozen BK101.out 2; have hfz89_3 := blk_frozen BK101.out 3; have hfz89_4 := blk_frozen BK101.out 4))
    refine bodyPost_ret (results_ct rfl _ _ gb101 38 #[.int .i64 1, .int .i64 s0_1, .int .i64 t132, .slice none 0 0, .slice none 0 0] (0, 0) _ rfl (by (with_reducible repeat (first | refine blk_drewN ?_ _ | refine blk_drew ?_ | refine blk_alloc ?_ _)); refine blk_put (cs := #[.int .i64 1, .int .i64 s0_1, .int .i64 t132, .slice none 0 0, .slice none 0 0]) ?_ 4 _ rfl; (with_reducible repeat (first | refine blk_drewN ?_ _ | refine blk_drew ?_ | refine blk_alloc ?_ _)); refine blk_put (cs := #[.int .i64 1, .int .i64 s0_1, .int .i64 t132, .slice none 0 0, .slice none 0 0]) ?_ 3 _ rfl; (with_reducible repeat (first | refine blk_drewN ?_ _ | refine blk_drew ?_ | refine blk_alloc ?_ _)); refine blk_put (cs := #[.int .i64 1, .int .i64 s0_1, .int .i64 0, .slice none 0 0, .slice none 0 0]) ?_ 2 _ rfl; (with_reducible repeat (first | refine blk_drewN ?_ _ | refine blk_drew ?_ | refine blk_alloc ?_ _)); refine blk_put (cs := #[.int .i64 1, .int .i64 0, .int .i64 0, .slice none 0 0, .slice none 0 0]) ?_ 1 _ rfl; (with_reducible repeat (first | refine blk_drewN ?_ _ | refine blk_drew ?_ | refine blk_alloc ?_ _)); refine blk_put (cs := #[.int .i64 0, .int .i64 0, .int .i64 0, .slice none 0 0, .slice none 0 0]) ?_ 0 _ rfl; (with_reducible repeat (first | refine blk_drewN ?_ _ | refine blk_drew ?_ | refine blk_alloc ?_ _)); refine blk_far ?_ NB101_102.out _; (with_reducible repeat (first | refine blk_drewN ?_ _ | refine blk_drew ?_ | refine blk_alloc ?_ _)); refine blk_far ?_ NB101_102.out _; (with_reducible repeat (first | refine blk_drewN ?_ _ | refine blk_drew ?_ | refine blk_alloc ?_ _)); exact BK101.out) Tryd.underlying38 rfl zq23) rfl ?_
    exact ⟨_, _, by first | rfl | (simp [errW_none, errW_some] <;> rfl) | (simp [*, errW_none, errW_some] <;> rfl), by first | exact Kd.R_nil _ _ _ _ _ | exact Kd.N_nil _ _ _ _ _ | exact Kd.V_nil _ _ _ _ _ | exact Kd.Q_nil _ _ _ _ _ | exact Kd.S_nil _ _ _ _ _, by first | exact Kd.R_nil _ _ _ _ _ | exact Kd.N_nil _ _ _ _ _ | exact Kd.V_nil _ _ _ _ _ | exact Kd.Q_nil _ _ _ _ _ | exact Kd.S_nil _ _ _ _ _, by repeat (first | (with_reducible first | exact HI0.out | apply IsS56.alloc | apply IsS56.drewN | apply IsS56.drew | apply IsS56.set_0 | apply IsS56.set_1 | refine IsS56.far ?_ NB0_101.out _ | refine IsS56.far ?_ NB0_102.out _) | exact HI0.out), by repeat (first | (with_reducible first | exact HB.out | apply below_alloc | apply pw_below_drewN | apply below_drew1 | refine below_set ?_ (IsS56.ge HI0.out) | refine below_set ?_ GE101.out | refine below_set ?_ GE102.out) | exact HB.out), by repeat (first | (with_reducible first | exact HK.out | apply KeepBut.set_ | apply keep_drewN | apply keep_drew | apply keep_alloc | refine keep_far ?_ GW101.out _ | refine keep_far ?_ GW102.out _) | exact HK.out)⟩
   replace c81 := Bool.eq_false_iff.mpr c81
   subst c81
   have H1 : ((spec_reader_word.f t131 t132 (⟨#[116, 114, 117, 101]⟩ : ByteArray)).bind fun bt133 => (if bt133.1 = true then (some (2, s0_1, bt133.2.2, ([] : List (S104)), ([] : List (S38)), true, bt133.2.1, bt133.2.2)) else (some (0, s0_1, bt133.2.2, ([] : List (S104)), ([] : List (S38)), false, bt133.2.1, bt133.2.2)))) = some (r1, r2, r3, r4, r5, r6, r7, r8) := by rw [if_neg (show ¬ (false = true) by decide)] at H; exact H
   clear H
   have H := H1
   clear H1
   replace H := Option.bind_eq_some_iff.mp H
   obtain ⟨⟨t133, t134, t135⟩, A900, H⟩ := H
   replace H : (if t133 = true then (some (2, s0_1, t135, ([] : List (S104)), ([] : List (S38)), true, t134, t135)) else (some (0, s0_1, t135, ([] : List (S104)), ([] : List (S38)), false, t134, t135))) = some (r1, r2, r3, r4, r5, r6, r7, r8) := H
   have A90 := mk0 A900
   clear A900
   by_cases c91 : t133 = true
   rotate_left
   ·replace c91 := Bool.eq_false_iff.mpr c91
    subst c91
    have H1 : (some (0, s0_1, t135, ([] : List (S104)), ([] : List (S38)), false, t134, t135)) = some (r1, r2, r3, r4, r5, r6, r7, r8) := by rw [if_neg (show ¬ (false = true) by decide)] at H; exact H
    clear H
    have H := H1
    clear H1
    simp only [Option.some.injEq, Prod.mk.injEq] at H
    obtain ⟨rfl, rfl, rfl, rfl, rfl, rfl, rfl, rfl⟩ := H
    go_wp2_with (first | ((with_reducible refine gate_callee (f := 53) rfl ?_); refine goesL_ (some 58) rfl rfl Tryd.func53 zq23 rfl #[.pointer (some ⟨g, 0, none⟩), .string (⟨#[110, 117, 108, 108]⟩ : ByteArray)] rfl zq2 ?_; (with_reducible refine (spec_reader_word.calls g t104 t105 (⟨#[110, 117, 108, 108]⟩ : ByteArray) false t128 t129 w0 _ ?side1 ?side2 A71.out).mono ?_); (case side1 => exact zq8); (case side2 => exact zq10); rintro e w101 ⟨rfl, hi, hb, hk⟩; refine ⟨_, rfl, ?_⟩; have n0_ := mk0 (KeepBut.blk hk (g' := gb101) (o := .cells #[.int .i64 0, .int .i64 0, .int .i64 0, .slice none 0 0, .slice none 0 0] 38 (0, 0)) zq20 NB101_0.out (by simp)); have n1_ := mk0 (KeepBut.blk hk (g' := gb102) (o := .cells #[.int .i64 0, .int .i64 s0_1, .int .i64 0, .slice none 0 0, .slice none 0 0] 38 (0, 0)) zq31 NB102_0.out (by simp)); have n2_ := mk0 (KeepBut.trans zq7 hk (.inl rfl)); have n3_ := mk0 (hb); have n4_ := mk0 (hi); clear BK101 BK102 HK HB HI0; have BK101 := n0_; have BK102 := n1_; have HK := n2_; have HB := n3_; have HI0 := n4_; clear n0_ n1_ n2_ n3_ n4_; (try clear hb); (try clear hb2); (try clear hk); (try clear hi)) | ((with_reducible refine gate_callee (f := 53) rfl ?_); refine goesL_ (some 62) rfl rfl Tryd.func53 zq23 rfl #[.pointer (some ⟨g, 0, none⟩), .string (⟨#[102, 97, 108, 115, 101]⟩ : ByteArray)] rfl zq2 ?_; (with_reducible refine (spec_reader_word.calls g t128 t129 (⟨#[102, 97, 108, 115, 101]⟩ : ByteArray) false t131 t132 w0 _ ?side1 ?side2 A80.out).mono ?_); (case side1 => exact zq8); (case side2 => exact zq10); rintro e w102 ⟨rfl, hi, hb, hk⟩; refine ⟨_, rfl, ?_⟩; have n0_ := mk0 (KeepBut.blk hk (g' := gb101) (o := .cells #[.int .i64 0, .int .i64 0, .int .i64 0, .slice none 0 0, .slice none 0 0] 38 (0, 0)) zq20 NB101_0.out (by simp)); have n1_ := mk0 (KeepBut.blk hk (g' := gb102) (o := .cells #[.int .i64 0, .int .i64 s0_1, .int .i64 0, .slice none 0 0, .slice none 0 0] 38 (0, 0)) zq31 NB102_0.out (by simp)); have n2_ := mk0 (KeepBut.trans zq7 hk (.inl rfl)); have n3_ := mk0 (hb); have n4_ := mk0 (hi); clear BK101 BK102 HK HB HI0; have BK101 := n0_; have BK102 := n1_; have HK := n2_; have HB := n3_; have HI0 := n4_; clear n0_ n1_ n2_ n3_ n4_; (try clear hb); (try clear hb2); (try clear hk); (try clear hi)) | ((with_reducible refine gate_callee (f := 53) rfl ?_); refine goesL_ (some 66) rfl rfl Tryd.func53 zq23 rfl #[.pointer (some ⟨g, 0, none⟩), .string (⟨#[116, 114, 117, 101]⟩ : ByteArray)] rfl zq2 ?_; (with_reducible refine (spec_reader_word.calls g t131 t132 (⟨#[116, 114, 117, 101]⟩ : ByteArray) false t134 t135 w0 _ ?side1 ?side2 A90.out).mono ?_); (case side1 => exact zq8); (case side2 => exact zq10); rintro e w103 ⟨rfl, hi, hb, hk⟩; refine ⟨_, rfl, ?_⟩; have n0_ := mk0 (KeepBut.blk hk (g' := gb101) (o := .cells #[.int .i64 0, .int .i64 0, .int .i64 0, .slice none 0 0, .slice none 0 0] 38 (0, 0)) zq20 NB101_0.out (by simp)); have n1_ := mk0 (KeepBut.blk hk (g' := gb102) (o := .cells #[.int .i64 0, .int .i64 s0_1, .int .i64 0, .slice none 0 0, .slice none 0 0] 38 (0, 0)) zq31 NB102_0.out (by simp)); have n2_ := mk0 (KeepBut.trans zq7 hk (.inl rfl)); have n3_ := mk0 (hb); have n4_ := mk0 (hi); clear BK101 BK102 HK HB HI0; have BK101 := n0_; have BK102 := n1_; have HK := n2_; have HB := n3_; have HI0 := n4_; clear n0_ n1_ n2_ n3_ n4_; (try clear hb); (try clear hb2); (try clear hk); (try clear hi); obtain ⟨HGz104, hgz104⟩ := HI0.out; have hcz104_0 := cellS56_0 HGz104; have hcz104_1 := cellS56_1 HGz104; have hfz104_0 := blk_frozen HGz104 0; have hfz104_1 := blk_frozen HGz104 1; clear HGz104 hgz104; have hnb105 := NB102_101.out; have hnc105 := NB101_102.out; have hnb106 := NB102_0.out; have hnc106 := NB0_102.out; have hcz107_0 : w103.cell? ⟨gb102, 0, none⟩ = some (.int .i64 0) := (blk_cell BK102.out 0).trans rfl; have hcz107_1 : w103.cell? ⟨gb102, 1, none⟩ = some (.int .i64 s0_1) := (blk_cell BK102.out 1).trans rfl; have hcz107_2 : w103.cell? ⟨gb102, 2, none⟩ = some (.int .i64 0) := (blk_cell BK102.out 2).trans rfl; have hcz107_3 : w103.cell? ⟨gb102, 3, none⟩ = some (.slice none 0 0) := (blk_cell BK102.out 3).trans rfl; have hcz107_4 : w103.cell? ⟨gb102, 4, none⟩ = some (.slice none 0 0) := (blk_cell BK102.out 4).trans rfl; have hfz107_0 := blk_frozen BK102.out 0; have hfz107_1 := blk_frozen BK102.out 1; have hfz107_2 := blk_frozen BK102.out 2; have hfz107_3 := blk_frozen BK102.out 3; have hfz107_4 := blk_frozen BK102.out 4; have hnb108 := NB101_0.out; have hnc108 := NB0_101.out; have hcz109_0 : w103.cell? ⟨gb101, 0, none⟩ = some (.int .i64 0) := (blk_cell BK101.out 0).trans rfl; have hcz109_1 : w103.cell? ⟨gb101, 1, none⟩ = some (.int .i64 0) := (blk_cell BK101.out 1).trans rfl; have hcz109_2 : w103.cell? ⟨gb101, 2, none⟩ = some (.int .i64 0) := (blk_cell BK101.out 2).trans rfl; have hcz109_3 : w103.cell? ⟨gb101, 3, none⟩ = some (.slice none 0 0) := (blk_cell BK101.out 3).trans rfl; have hcz109_4 : w103.cell? ⟨gb101, 4, none⟩ = some (.slice none 0 0) := (blk_cell BK101.out 4).trans rfl; have hfz109_0 := blk_frozen BK101.out 0; have hfz109_1 := blk_frozen BK101.out 1; have hfz109_2 := blk_frozen BK101.out 2; have hfz109_3 := blk_frozen BK101.out 3; have hfz109_4 := blk_frozen BK101.out 4))
    refine bodyPost_ret (results_ct rfl _ _ gb101 38 #[.int .i64 0, .int .i64 s0_1, .int .i64 t135, .slice none 0 0, .slice none 0 0] (0, 0) _ rfl (by (with_reducible repeat (first | refine blk_drewN ?_ _ | refine blk_drew ?_ | refine blk_alloc ?_ _)); refine blk_put (cs := #[.int .i64 0, .int .i64 s0_1, .int .i64 t135, .slice none 0 0, .slice none 0 0]) ?_ 4 _ rfl; (with_reducible repeat (first | refine blk_drewN ?_ _ | refine blk_drew ?_ | refine blk_alloc ?_ _)); refine blk_put (cs := #[.int .i64 0, .int .i64 s0_1, .int .i64 t135, .slice none 0 0, .slice none 0 0]) ?_ 3 _ rfl; (with_reducible repeat (first | refine blk_drewN ?_ _ | refine blk_drew ?_ | refine blk_alloc ?_ _)); refine blk_put (cs := #[.int .i64 0, .int .i64 s0_1, .int .i64 0, .slice none 0 0, .slice none 0 0]) ?_ 2 _ rfl; (with_reducible repeat (first | refine blk_drewN ?_ _ | refine blk_drew ?_ | refine blk_alloc ?_ _)); refine blk_put (cs := #[.int .i64 0, .int .i64 0, .int .i64 0, .slice none 0 0, .slice none 0 0]) ?_ 1 _ rfl; (with_reducible repeat (first | refine blk_drewN ?_ _ | refine blk_drew ?_ | refine blk_alloc ?_ _)); refine blk_put (cs := #[.int .i64 0, .int .i64 0, .int .i64 0, .slice none 0 0, .slice none 0 0]) ?_ 0 _ rfl; (with_reducible repeat (first | refine blk_drewN ?_ _ | refine blk_drew ?_ | refine blk_alloc ?_ _)); refine blk_far ?_ NB101_102.out _; (with_reducible repeat (first | refine blk_drewN ?_ _ | refine blk_drew ?_ | refine blk_alloc ?_ _)); exact BK101.out) Tryd.underlying38 rfl zq23) rfl ?_
    exact ⟨_, _, by first | rfl | (simp [errW_none, errW_some] <;> rfl) | (simp [*, errW_none, errW_some] <;> rfl), by first | exact Kd.R_nil _ _ _ _ _ | exact Kd.N_nil _ _ _ _ _ | exact Kd.V_nil _ _ _ _ _ | exact Kd.Q_nil _ _ _ _ _ | exact Kd.S_nil _ _ _ _ _, by first | exact Kd.R_nil _ _ _ _ _ | exact Kd.N_nil _ _ _ _ _ | exact Kd.V_nil _ _ _ _ _ | exact Kd.Q_nil _ _ _ _ _ | exact Kd.S_nil _ _ _ _ _, by repeat (first | (with_reducible first | exact HI0.out | apply IsS56.alloc | apply IsS56.drewN | apply IsS56.drew | apply IsS56.set_0 | apply IsS56.set_1 | refine IsS56.far ?_ NB0_101.out _ | refine IsS56.far ?_ NB0_102.out _) | exact HI0.out), by repeat (first | (with_reducible first | exact HB.out | apply below_alloc | apply pw_below_drewN | apply below_drew1 | refine below_set ?_ (IsS56.ge HI0.out) | refine below_set ?_ GE101.out | refine below_set ?_ GE102.out) | exact HB.out), by repeat (first | (with_reducible first | exact HK.out | apply KeepBut.set_ | apply keep_drewN | apply keep_drew | apply keep_alloc | refine keep_far ?_ GW101.out _ | refine keep_far ?_ GW102.out _) | exact HK.out)⟩
   subst c91
   have H1 : (some (2, s0_1, t135, ([] : List (S104)), ([] : List (S38)), true, t134, t135)) = some (r1, r2, r3, r4, r5, r6, r7, r8) := by rw [if_pos rfl] at H; exact H
   clear H
   have H := H1
   clear H1
   simp only [Option.some.injEq, Prod.mk.injEq] at H
   obtain ⟨rfl, rfl, rfl, rfl, rfl, rfl, rfl, rfl⟩ := H
   go_wp2_with (first | ((with_reducible refine gate_callee (f := 53) rfl ?_); refine goesL_ (some 58) rfl rfl Tryd.func53 zq23 rfl #[.pointer (some ⟨g, 0, none⟩), .string (⟨#[110, 117, 108, 108]⟩ : ByteArray)] rfl zq2 ?_; (with_reducible refine (spec_reader_word.calls g t104 t105 (⟨#[110, 117, 108, 108]⟩ : ByteArray) false t128 t129 w0 _ ?side1 ?side2 A71.out).mono ?_); (case side1 => exact zq8); (case side2 => exact zq10); rintro e w92 ⟨rfl, hi, hb, hk⟩; refine ⟨_, rfl, ?_⟩; have n0_ := mk0 (KeepBut.blk hk (g' := gb101) (o := .cells #[.int .i64 0, .int .i64 0, .int .i64 0, .slice none 0 0, .slice none 0 0] 38 (0, 0)) zq20 NB101_0.out (by simp)); have n1_ := mk0 (KeepBut.blk hk (g' := gb102) (o := .cells #[.int .i64 0, .int .i64 s0_1, .int .i64 0, .slice none 0 0, .slice none 0 0] 38 (0, 0)) zq31 NB102_0.out (by simp)); have n2_ := mk0 (KeepBut.trans zq7 hk (.inl rfl)); have n3_ := mk0 (hb); have n4_ := mk0 (hi); clear BK101 BK102 HK HB HI0; have BK101 := n0_; have BK102 := n1_; have HK := n2_; have HB := n3_; have HI0 := n4_; clear n0_ n1_ n2_ n3_ n4_; (try clear hb); (try clear hb2); (try clear hk); (try clear hi)) | ((with_reducible refine gate_callee (f := 53) rfl ?_); refine goesL_ (some 62) rfl rfl Tryd.func53 zq23 rfl #[.pointer (some ⟨g, 0, none⟩), .string (⟨#[102, 97, 108, 115, 101]⟩ : ByteArray)] rfl zq2 ?_; (with_reducible refine (spec_reader_word.calls g t128 t129 (⟨#[102, 97, 108, 115, 101]⟩ : ByteArray) false t131 t132 w0 _ ?side1 ?side2 A80.out).mono ?_); (case side1 => exact zq8); (case side2 => exact zq10); rintro e w93 ⟨rfl, hi, hb, hk⟩; refine ⟨_, rfl, ?_⟩; have n0_ := mk0 (KeepBut.blk hk (g' := gb101) (o := .cells #[.int .i64 0, .int .i64 0, .int .i64 0, .slice none 0 0, .slice none 0 0] 38 (0, 0)) zq20 NB101_0.out (by simp)); have n1_ := mk0 (KeepBut.blk hk (g' := gb102) (o := .cells #[.int .i64 0, .int .i64 s0_1, .int .i64 0, .slice none 0 0, .slice none 0 0] 38 (0, 0)) zq31 NB102_0.out (by simp)); have n2_ := mk0 (KeepBut.trans zq7 hk (.inl rfl)); have n3_ := mk0 (hb); have n4_ := mk0 (hi); clear BK101 BK102 HK HB HI0; have BK101 := n0_; have BK102 := n1_; have HK := n2_; have HB := n3_; have HI0 := n4_; clear n0_ n1_ n2_ n3_ n4_; (try clear hb); (try clear hb2); (try clear hk); (try clear hi)) | ((with_reducible refine gate_callee (f := 53) rfl ?_); refine goesL_ (some 66) rfl rfl Tryd.func53 zq23 rfl #[.pointer (some ⟨g, 0, none⟩), .string (⟨#[116, 114, 117, 101]⟩ : ByteArray)] rfl zq2 ?_; (with_reducible refine (spec_reader_word.calls g t131 t132 (⟨#[116, 114, 117, 101]⟩ : ByteArray) true t134 t135 w0 _ ?side1 ?side2 A90.out).mono ?_); (case side1 => exact zq8); (case side2 => exact zq10); rintro e w94 ⟨rfl, hi, hb, hk⟩; refine ⟨_, rfl, ?_⟩; have n0_ := mk0 (KeepBut.blk hk (g' := gb101) (o := .cells #[.int .i64 0, .int .i64 0, .int .i64 0, .slice none 0 0, .slice none 0 0] 38 (0, 0)) zq20 NB101_0.out (by simp)); have n1_ := mk0 (KeepBut.blk hk (g' := gb102) (o := .cells #[.int .i64 0, .int .i64 s0_1, .int .i64 0, .slice none 0 0, .slice none 0 0] 38 (0, 0)) zq31 NB102_0.out (by simp)); have n2_ := mk0 (KeepBut.trans zq7 hk (.inl rfl)); have n3_ := mk0 (hb); have n4_ := mk0 (hi); clear BK101 BK102 HK HB HI0; have BK101 := n0_; have BK102 := n1_; have HK := n2_; have HB := n3_; have HI0 := n4_; clear n0_ n1_ n2_ n3_ n4_; (try clear hb); (try clear hb2); (try clear hk); (try clear hi); have hnb95 := NB102_101.out; have hnc95 := NB101_102.out; have hnb96 := NB102_0.out; have hnc96 := NB0_102.out; have hcz97_0 : w94.cell? ⟨gb102, 0, none⟩ = some (.int .i64 0) := (blk_cell BK102.out 0).trans rfl; have hcz97_1 : w94.cell? ⟨gb102, 1, none⟩ = some (.int .i64 s0_1) := (blk_cell BK102.out 1).trans rfl; have hcz97_2 : w94.cell? ⟨gb102, 2, none⟩ = some (.int .i64 0) := (blk_cell BK102.out 2).trans rfl; have hcz97_3 : w94.cell? ⟨gb102, 3, none⟩ = some (.slice none 0 0) := (blk_cell BK102.out 3).trans rfl; have hcz97_4 : w94.cell? ⟨gb102, 4, none⟩ = some (.slice none 0 0) := (blk_cell BK102.out 4).trans rfl; have hfz97_0 := blk_frozen BK102.out 0; have hfz97_1 := blk_frozen BK102.out 1; have hfz97_2 := blk_frozen BK102.out 2; have hfz97_3 := blk_frozen BK102.out 3; have hfz97_4 := blk_frozen BK102.out 4; obtain ⟨HGz98, hgz98⟩ := HI0.out; have hcz98_0 := cellS56_0 HGz98; have hcz98_1 := cellS56_1 HGz98; have hfz98_0 := blk_frozen HGz98 0; have hfz98_1 := blk_frozen HGz98 1; clear HGz98 hgz98; have hnb99 := NB101_0.out; have hnc99 := NB0_101.out; have hcz100_0 : w94.cell? ⟨gb101, 0, none⟩ = some (.int .i64 0) := (blk_cell BK101.out 0).trans rfl; have hcz100_1 : w94.cell? ⟨gb101, 1, none⟩ = some (.int .i64 0) := (blk_cell BK101.out 1).trans rfl; have hcz100_2 : w94.cell? ⟨gb101, 2, none⟩ = some (.int .i64 0) := (blk_cell BK101.out 2).trans rfl; have hcz100_3 : w94.cell? ⟨gb101, 3, none⟩ = some (.slice none 0 0) := (blk_cell BK101.out 3).trans rfl; have hcz100_4 : w94.cell? ⟨gb101, 4, none⟩ = some (.slice none 0 0) := (blk_cell BK101.out 4).trans rfl; have hfz100_0 := blk_frozen BK101.out 0; have hfz100_1 := blk_frozen BK101.out 1; have hfz100_2 := blk_frozen BK101.out 2; have hfz100_3 := blk_frozen BK101.out 3; have hfz100_4 := blk_frozen BK101.out 4))
   refine bodyPost_ret (results_ct rfl _ _ gb101 38 #[.int .i64 2, .int .i64 s0_1, .int .i64 t135, .slice none 0 0, .slice none 0 0] (0, 0) _ rfl (by (with_reducible repeat (first | refine blk_drewN ?_ _ | refine blk_drew ?_ | refine blk_alloc ?_ _)); refine blk_put (cs := #[.int .i64 2, .int .i64 s0_1, .int .i64 t135, .slice none 0 0, .slice none 0 0]) ?_ 4 _ rfl; (with_reducible repeat (first | refine blk_drewN ?_ _ | refine blk_drew ?_ | refine blk_alloc ?_ _)); refine blk_put (cs := #[.int .i64 2, .int .i64 s0_1, .int .i64 t135, .slice none 0 0, .slice none 0 0]) ?_ 3 _ rfl; (with_reducible repeat (first | refine blk_drewN ?_ _ | refine blk_drew ?_ | refine blk_alloc ?_ _)); refine blk_put (cs := #[.int .i64 2, .int .i64 s0_1, .int .i64 0, .slice none 0 0, .slice none 0 0]) ?_ 2 _ rfl; (with_reducible repeat (first | refine blk_drewN ?_ _ | refine blk_drew ?_ | refine blk_alloc ?_ _)); refine blk_put (cs := #[.int .i64 2, .int .i64 0, .int .i64 0, .slice none 0 0, .slice none 0 0]) ?_ 1 _ rfl; (with_reducible repeat (first | refine blk_drewN ?_ _ | refine blk_drew ?_ | refine blk_alloc ?_ _)); refine blk_put (cs := #[.int .i64 0, .int .i64 0, .int .i64 0, .slice none 0 0, .slice none 0 0]) ?_ 0 _ rfl; (with_reducible repeat (first | refine blk_drewN ?_ _ | refine blk_drew ?_ | refine blk_alloc ?_ _)); refine blk_far ?_ NB101_102.out _; (with_reducible repeat (first | refine blk_drewN ?_ _ | refine blk_drew ?_ | refine blk_alloc ?_ _)); refine blk_far ?_ NB101_102.out _; (with_reducible repeat (first | refine blk_drewN ?_ _ | refine blk_drew ?_ | refine blk_alloc ?_ _)); exact BK101.out) Tryd.underlying38 rfl zq23) rfl ?_
   exact ⟨_, _, by first | rfl | (simp [errW_none, errW_some] <;> rfl) | (simp [*, errW_none, errW_some] <;> rfl), by first | exact Kd.R_nil _ _ _ _ _ | exact Kd.N_nil _ _ _ _ _ | exact Kd.V_nil _ _ _ _ _ | exact Kd.Q_nil _ _ _ _ _ | exact Kd.S_nil _ _ _ _ _, by first | exact Kd.R_nil _ _ _ _ _ | exact Kd.N_nil _ _ _ _ _ | exact Kd.V_nil _ _ _ _ _ | exact Kd.Q_nil _ _ _ _ _ | exact Kd.S_nil _ _ _ _ _, by repeat (first | (with_reducible first | exact HI0.out | apply IsS56.alloc | apply IsS56.drewN | apply IsS56.drew | apply IsS56.set_0 | apply IsS56.set_1 | refine IsS56.far ?_ NB0_101.out _ | refine IsS56.far ?_ NB0_102.out _) | exact HI0.out), by repeat (first | (with_reducible first | exact HB.out | apply below_alloc | apply pw_below_drewN | apply below_drew1 | refine below_set ?_ (IsS56.ge HI0.out) | refine below_set ?_ GE101.out | refine below_set ?_ GE102.out) | exact HB.out), by repeat (first | (with_reducible first | exact HK.out | apply KeepBut.set_ | apply keep_drewN | apply keep_drew | apply keep_alloc | refine keep_far ?_ GW101.out _ | refine keep_far ?_ GW102.out _) | exact HK.out)⟩
set_option maxHeartbeats 8000000 in
set_option maxRecDepth 100000 in
theorem spec_reader_members.step (k : Nat) (ih_29 : ∀ m, m < k → spec_reader_value.Stmt m) (ih_49 : ∀ m, m < k → spec_reader_members.Stmt m) (ih_50 : ∀ m, m < k → spec_reader_elements.Stmt m) : spec_reader_members.Stmt k := by
 intro g s0_0 s0_1 r1 r2 r3 r4 r5 w0 w hI hB h
 cases k with
 | zero => exact absurd h (by simp [spec_reader_members.f])
 | succ k =>
 simp only [spec_reader_members.f] at h
 have hu104 := Tryd.underlying104
 have hu38 := Tryd.underlying38
 have HI0 := mk0 hI
 have HK := mk0 (KeepBut.refl w g none)
 have HL := mk0 hB.size
 clear hI
 have HW0 := mk0 hB.size
 have HB := mk0 hB
 clear hB
 have H : ((spec_reader_blanks.f k s0_0 (wrap64 (s0_1 + 1))).bind fun bt136 => ((spec_reader_take.f bt136.1 bt136.2 125).bind fun bt138 => (if bt138.1 = true then (some (([] : List (S104)), ([] : List (S38)), true, bt138.2.1, bt138.2.2)) else (spec_reader_members.l0 k ([] : List (S104)) ([] : List (S38)) bt138.2.1 bt138.2.2)))) = some (r1, r2, r3, r4, r5) := h
 clear h
 replace H := Option.bind_eq_some_iff.mp H
 obtain ⟨⟨t136, t137⟩, A20, H⟩ := H
 replace H : ((spec_reader_take.f t136 t137 125).bind fun bt138 => (if bt138.1 = true then (some (([] : List (S104)), ([] : List (S38)), true, bt138.2.1, bt138.2.2)) else (spec_reader_members.l0 k ([] : List (S104)) ([] : List (S38)) bt138.2.1 bt138.2.2))) = some (r1, r2, r3, r4, r5) := H
 have A2 := mk0 A20
 clear A20
 replace H := Option.bind_eq_some_iff.mp H
 obtain ⟨⟨t138, t139, t140⟩, A30, H⟩ := H
 replace H : (if t138 = true then (some (([] : List (S104)), ([] : List (S38)), true, t139, t140)) else (spec_reader_members.l0 k ([] : List (S104)) ([] : List (S38)) t139 t140)) = some (r1, r2, r3, r4, r5) := H
 have A3 := mk0 A30
 clear A30
 by_cases c4 : t138 = true
 ·subst c4
  have H1 : (some (([] : List (S104)), ([] : List (S38)), true, t139, t140)) = some (r1, r2, r3, r4, r5) := by rw [if_pos rfl] at H; exact H
  clear H
  have H := H1
  clear H1
  simp only [Option.some.injEq, Prod.mk.injEq] at H
  obtain ⟨rfl, rfl, rfl, rfl, rfl⟩ := H
  obtain ⟨HGz5, hgz5⟩ := HI0.out
  have hcz5_0 := cellS56_0 HGz5
  have hcz5_1 := cellS56_1 HGz5
  have hfz5_0 := blk_frozen HGz5 0
  have hfz5_1 := blk_frozen HGz5 1
  clear HGz5 hgz5
  go_enter Tryd.func49, Tryd.ntmps49
  go_wp2_with (first | ((with_reducible refine gate_callee (f := 28) rfl ?_); refine goesL_ (some 18) rfl rfl Tryd.func28 zq23 rfl #[.pointer (some ⟨g, 0, none⟩)] rfl zq2 ?_; (with_reducible refine (spec_reader_blanks.calls k g s0_0 (wrap64 (s0_1 + 1)) t136 t137 w0 _ ?side1 ?side2 A2.out).mono ?_); (case side1 => exact zq0); (case side2 => exact zq3); rintro e w6 ⟨rfl, hi, hb, hk⟩; refine ⟨_, rfl, ?_⟩; have n0_ := mk0 (KeepBut.trans zq1 hk (.inl rfl)); have n1_ := mk0 (hb); have n2_ := mk0 (hi); clear HK HB HI0; have HK := n0_; have HB := n1_; have HI0 := n2_; clear n0_ n1_ n2_; (try clear hb); (try clear hb2); (try clear hk); (try clear hi)) | ((with_reducible refine gate_callee (f := 67) rfl ?_); refine goesL_ (some 20) rfl rfl Tryd.func67 zq23 rfl #[.pointer (some ⟨g, 0, none⟩), .int .u8 125] rfl zq2 ?_; (with_reducible refine (spec_reader_take.calls g t136 t137 125 true t139 t140 w0 _ ?side1 ?side2 A3.out).mono ?_); (case side1 => exact zq0); (case side2 => exact zq3); rintro e w7 ⟨rfl, hi, hb, hk⟩; refine ⟨_, rfl, ?_⟩; have n0_ := mk0 (KeepBut.trans zq1 hk (.inl rfl)); have n1_ := mk0 (hb); have n2_ := mk0 (hi); clear HK HB HI0; have HK := n0_; have HB := n1_; have HI0 := n2_; clear n0_ n1_ n2_; (try clear hb); (try clear hb2); (try clear hk); (try clear hi)))
  go_ret3
  exact ⟨_, _, by first | rfl | (simp [errW_none, errW_some] <;> rfl) | (simp [*, errW_none, errW_some] <;> rfl), by first | exact Kd.R_nil _ _ _ _ _ | exact Kd.N_nil _ _ _ _ _ | exact Kd.V_nil _ _ _ _ _ | exact Kd.Q_nil _ _ _ _ _ | exact Kd.S_nil _ _ _ _ _, by first | exact Kd.R_nil _ _ _ _ _ | exact Kd.N_nil _ _ _ _ _ | exact Kd.V_nil _ _ _ _ _ | exact Kd.Q_nil _ _ _ _ _ | exact Kd.S_nil _ _ _ _ _, by repeat (first | (with_reducible first | exact HI0.out | apply IsS56.alloc | apply IsS56.drewN | apply IsS56.drew | apply IsS56.set_0 | apply IsS56.set_1) | exact HI0.out), by repeat (first | (with_reducible first | exact HB.out | apply below_alloc | apply pw_below_drewN | apply below_drew1 | refine below_set ?_ (IsS56.ge HI0.out)) | exact HB.out), by repeat (first | (with_reducible first | exact HK.out | apply KeepBut.set_ | apply keep_drewN | apply keep_drew | apply keep_alloc) | exact HK.out)⟩
 replace c4 := Bool.eq_false_iff.mpr c4
 subst c4
 have H1 : (spec_reader_members.l0 k ([] : List (S104)) ([] : List (S38)) t139 t140) = some (r1, r2, r3, r4, r5) := by rw [if_neg (show ¬ (false = true) by decide)] at H; exact H
 clear H
 have H := H1
 clear H1
 have H' := mk0 H
 clear H
 obtain ⟨HGz8, hgz8⟩ := HI0.out
 have hcz8_0 := cellS56_0 HGz8
 have hcz8_1 := cellS56_1 HGz8
 have hfz8_0 := blk_frozen HGz8 0
 have hfz8_1 := blk_frozen HGz8 1
 clear HGz8 hgz8
 go_enter Tryd.func49, Tryd.ntmps49
 go_wp2_with (first | ((with_reducible refine gate_callee (f := 28) rfl ?_); refine goesL_ (some 18) rfl rfl Tryd.func28 zq23 rfl #[.pointer (some ⟨g, 0, none⟩)] rfl zq2 ?_; (with_reducible refine (spec_reader_blanks.calls k g s0_0 (wrap64 (s0_1 + 1)) t136 t137 w0 _ ?side1 ?side2 A2.out).mono ?_); (case side1 => exact zq0); (case side2 => exact zq3); rintro e w9 ⟨rfl, hi, hb, hk⟩; refine ⟨_, rfl, ?_⟩; have n0_ := mk0 (KeepBut.trans zq1 hk (.inl rfl)); have n1_ := mk0 (hb); have n2_ := mk0 (hi); clear HK HB HI0; have HK := n0_; have HB := n1_; have HI0 := n2_; clear n0_ n1_ n2_; (try clear hb); (try clear hb2); (try clear hk); (try clear hi)) | ((with_reducible refine gate_callee (f := 67) rfl ?_); refine goesL_ (some 20) rfl rfl Tryd.func67 zq23 rfl #[.pointer (some ⟨g, 0, none⟩), .int .u8 125] rfl zq2 ?_; (with_reducible refine (spec_reader_take.calls g t136 t137 125 false t139 t140 w0 _ ?side1 ?side2 A3.out).mono ?_); (case side1 => exact zq0); (case side2 => exact zq3); rintro e w10 ⟨rfl, hi, hb, hk⟩; refine ⟨_, rfl, ?_⟩; have n0_ := mk0 (KeepBut.trans zq1 hk (.inl rfl)); have n1_ := mk0 (hb); have n2_ := mk0 (hi); clear HK HB HI0; have HK := n0_; have HB := n1_; have HI0 := n2_; clear n0_ n1_ n2_; (try clear hb); (try clear hb2); (try clear hk); (try clear hi)))
 (try simp only [Act.put, List.setIfInBounds_toArray, List.set_cons_zero, List.set_cons_succ])
 go_loopg [5, 6] k (fun kq v5 v6 w' => ∃ (x5_1 : List (S104)) (x6_1 : List (S38)) (x1000_1 : ByteArray) (x1001_1 : Int), Aside0 (spec_reader_members.l0 kq x5_1 x6_1 x1000_1 x1001_1 = some (r1, r2, r3, r4, r5)) ∧ Aside0 (kq ≤ k) ∧ Aside0 (Kd.R k104 104 w' w.heap.size (fun _ => True) v5 x5_1) ∧ Aside0 (Kd.R k38 38 w' w.heap.size (fun k_ => some k_ ≠ (v5 : Value).ownBlock) v6 x6_1) ∧ Aside0 (IsS56 w0 w' g x1000_1 x1001_1) ∧ Aside0 (KeepBut w w' g none) ∧ Aside0 (Below w0.heap.size w0 w'))
 case atStart => exact ⟨(([] : List (S104))), (([] : List (S38))), (t139), (t140), H', ⟨Nat.le_refl _⟩, ⟨by first | exact Kd.R_nil _ _ _ _ _ | exact Kd.N_nil _ _ _ _ _ | exact Kd.V_nil _ _ _ _ _ | exact Kd.Q_nil _ _ _ _ _ | exact Kd.S_nil _ _ _ _ _⟩, ⟨by first | exact Kd.R_nil _ _ _ _ _ | exact Kd.N_nil _ _ _ _ _ | exact Kd.V_nil _ _ _ _ _ | exact Kd.Q_nil _ _ _ _ _ | exact Kd.S_nil _ _ _ _ _⟩, ⟨by repeat (first | (with_reducible first | exact HI0.out | apply IsS56.alloc | apply IsS56.drewN | apply IsS56.drew | apply IsS56.set_0 | apply IsS56.set_1) | exact HI0.out)⟩, ⟨by repeat (first | (with_reducible first | exact HK.out | apply KeepBut.set_ | apply keep_drewN | apply keep_drew | apply keep_alloc) | exact HK.out)⟩, ⟨by repeat (first | (with_reducible first | exact HB.out | apply below_alloc | apply pw_below_drewN | apply below_drew1 | refine below_set ?_ (IsS56.ge HI0.out)) | exact HB.out)⟩⟩
 case round =>
  clear H'
  try clear c2
  try clear p2
  try clear c4
  try clear c6
  try clear p6
  try clear hcz5_0
  try clear hcz5_1
  try clear hcz8_0
  try clear hcz8_1
  try clear hfz5_0
  try clear hfz5_1
  try clear hfz8_0
  try clear hfz8_1
  obtain ⟨x5_1, x6_1, x1000_1, x1001_1, HA, HK1, HO_5, HO_6, HI0, HK, HB⟩ := hrel
  cases gk with
  | zero => exact absurd HA.out (by simp [spec_reader_members.l0])
  | succ k1 =>
   have H := HA.out
   clear HA
   simp only [spec_reader_members.l0] at H
   have HC11 := mk0 H
   clear H
   obtain ⟨HGz12, hgz12⟩ := HI0.out
   have hcz12_0 := cellS56_0 HGz12
   have hcz12_1 := cellS56_1 HGz12
   have hfz12_0 := blk_frozen HGz12 0
   have hfz12_1 := blk_frozen HGz12 1
   clear HGz12 hgz12
   go_upto_region 8 with (fail)
   go_cut [32] (fun v32 wc => ∃ (kq : Nat) (x32_10 : Bool) (x1000_10 : ByteArray) (x1001_10 : Int), v32 = .bool x32_10 ∧ Aside0 (spec_reader_members.j1 kq x5_1 x6_1 x1001_1 x32_10 x1000_10 x1001_10 = some (r1, r2, r3, r4, r5)) ∧ Aside0 (kq ≤ k1) ∧ Aside0 (Kd.R k104 104 wc w.heap.size (fun _ => True) u5 x5_1) ∧ Aside0 (Kd.R k38 38 wc w.heap.size (fun k_ => some k_ ≠ (u5 : Value).ownBlock) u6 x6_1) ∧ Aside0 (IsS56 w0 wc g x1000_10 x1001_10) ∧ Aside0 (KeepBut w wc g none) ∧ Aside0 (Below w0.heap.size w0 wc))
   case first =>
    have H := HC11.out
    clear HC11
    replace H := Option.bind_eq_some_iff.mp H
    obtain ⟨⟨t141, t142, t143⟩, A130, H⟩ := H
    replace H : (if t141 = 34 then ((spec_reader_quoted.f k1 t142 t143).bind fun bt144 => (spec_reader_members.j1 k1 x5_1 x6_1 x1001_1 (!bt144.1) bt144.2.1 bt144.2.2)) else (spec_reader_members.j1 k1 x5_1 x6_1 x1001_1 true t142 t143)) = some (r1, r2, r3, r4, r5) := H
    have A13 := mk0 A130
    clear A130
    by_cases c14 : t141 = 34
    rotate_left
    ·rw [if_neg c14] at H
     have c14b0 : (t141 == 34) = false := beq_eq_false_iff_ne.mpr c14
     have c14b1 : (t141 != 34) = true := bne_iff_ne.mpr c14
     (first | rw [c14b0] | (simp only [i64_w, i32_w]; rw [c14b0]) | skip)
     have H' := mk0 H
     clear H
     go_wp2_with (first | ((with_reducible refine gate_callee (f := 48) rfl ?_); refine goesL_ (some 26) rfl rfl Tryd.func48 zq23 rfl #[.pointer (some ⟨g, 0, none⟩)] rfl zq2 ?_; (with_reducible refine (spec_reader_here.calls g x1000_1 x1001_1 t141 t142 t143 w0 _ ?side1 ?side2 A13.out).mono ?_); (case side1 => exact zq0); (case side2 => exact zq3); rintro e w18 ⟨rfl, hi, hb, hk⟩; refine ⟨_, rfl, ?_⟩; have n0_ := mk0 (Kd.R_mono (Kd.R_keep (IsS56.apart (show IsS56 w0 _ g x1000_1 x1001_1 from zq0) zq36 zq45) hk (fun _ h => h.2)) (fun _ h => h.1)); have n1_ := mk0 (Kd.R_mono (Kd.R_keep (IsS56.apart (show IsS56 w0 _ g x1000_1 x1001_1 from zq0) zq14 zq45) hk (fun _ h => h.2)) (fun _ h => h.1)); have n2_ := mk0 (KeepBut.trans zq1 hk (.inl rfl)); have n3_ := mk0 (hb); have n4_ := mk0 (hi); clear HO_5 HO_6 HK HB HI0; have HO_5 := n0_; have HO_6 := n1_; have HK := n2_; have HB := n3_; have HI0 := n4_; clear n0_ n1_ n2_ n3_ n4_; (try clear hb); (try clear hb2); (try clear hk); (try clear hi)))
     go_meet
     case rel => exact ⟨_, (true), (t142), (t143), zq13, H', ⟨by have := HK1.out; first | omega | exact Nat.le_refl _⟩, ⟨by (with_reducible repeat (first | apply Kd.R_alloc | apply Kd.R_drewN | apply Kd.R_drew)); exact HO_5.out⟩, ⟨by (with_reducible repeat (first | apply Kd.R_alloc | apply Kd.R_drewN | apply Kd.R_drew)); exact HO_6.out⟩, ⟨by repeat (first | (with_reducible first | exact HI0.out | apply IsS56.alloc | apply IsS56.drewN | apply IsS56.drew | apply IsS56.set_0 | apply IsS56.set_1) | exact HI0.out)⟩, ⟨by repeat (first | (with_reducible first | exact HK.out | apply KeepBut.set_ | apply keep_drewN | apply keep_drew | apply keep_alloc) | exact HK.out)⟩, ⟨by repeat (first | (with_reducible first | exact HB.out | apply below_alloc | apply pw_below_drewN | apply below_drew1 | refine below_set ?_ (IsS56.ge HI0.out)) | exact HB.out)⟩⟩
    rw [if_pos c14] at H
    have c14b0 : (t141 == 34) = true := beq_iff_eq.mpr c14
    have c14b1 : (t141 != 34) = false := bne_eq_false_iff_eq.mpr c14
    clear c14
    (first | rw [c14b0] | (simp only [i64_w, i32_w]; rw [c14b0]) | skip)
    replace H := Option.bind_eq_some_iff.mp H
    obtain ⟨⟨t144, t145, t146⟩, A150, H⟩ := H
    replace H : (spec_reader_members.j1 k1 x5_1 x6_1 x1001_1 (!t144) t145 t146) = some (r1, r2, r3, r4, r5) := H
    have A15 := mk0 A150
    clear A150
    have H' := mk0 H
    clear H
    go_wp2_with (first | ((with_reducible refine gate_callee (f := 48) rfl ?_); refine goesL_ (some 26) rfl rfl Tryd.func48 zq23 rfl #[.pointer (some ⟨g, 0, none⟩)] rfl zq2 ?_; (with_reducible refine (spec_reader_here.calls g x1000_1 x1001_1 t141 t142 t143 w0 _ ?side1 ?side2 A13.out).mono ?_); (case side1 => exact zq0); (case side2 => exact zq3); rintro e w16 ⟨rfl, hi, hb, hk⟩; refine ⟨_, rfl, ?_⟩; have n0_ := mk0 (Kd.R_mono (Kd.R_keep (IsS56.apart (show IsS56 w0 _ g x1000_1 x1001_1 from zq0) zq36 zq45) hk (fun _ h => h.2)) (fun _ h => h.1)); have n1_ := mk0 (Kd.R_mono (Kd.R_keep (IsS56.apart (show IsS56 w0 _ g x1000_1 x1001_1 from zq0) zq14 zq45) hk (fun _ h => h.2)) (fun _ h => h.1)); have n2_ := mk0 (KeepBut.trans zq1 hk (.inl rfl)); have n3_ := mk0 (hb); have n4_ := mk0 (hi); clear HO_5 HO_6 HK HB HI0; have HO_5 := n0_; have HO_6 := n1_; have HK := n2_; have HB := n3_; have HI0 := n4_; clear n0_ n1_ n2_ n3_ n4_; (try clear hb); (try clear hb2); (try clear hk); (try clear hi)) | (go_at_call 51; (with_reducible refine (spec_reader_quoted.calls k1 g t142 t143 t144 t145 t146 w0 _ ?side1 ?side2 A15.out).mono ?_); (case side1 => exact zq0); (case side2 => exact zq3); rintro e w17 ⟨rfl, hi, hb, hk⟩; have n0_ := mk0 (Kd.R_mono (Kd.R_keep (IsS56.apart (show IsS56 w0 _ g t142 t143 from zq0) zq36 zq45) hk (fun _ h => h.2)) (fun _ h => h.1)); have n1_ := mk0 (Kd.R_mono (Kd.R_keep (IsS56.apart (show IsS56 w0 _ g t142 t143 from zq0) zq14 zq45) hk (fun _ h => h.2)) (fun _ h => h.1)); have n2_ := mk0 (KeepBut.trans zq1 hk (.inl rfl)); have n3_ := mk0 (hb); have n4_ := mk0 (hi); clear HO_5 HO_6 HK HB HI0; have HO_5 := n0_; have HO_6 := n1_; have HK := n2_; have HB := n3_; have HI0 := n4_; clear n0_ n1_ n2_ n3_ n4_; (try clear hb); (try clear hb2); (try clear hk); (try clear hi)))
    go_meet
    case rel => exact ⟨_, (!t144), (t145), (t146), zq13, H', ⟨by have := HK1.out; first | omega | exact Nat.le_refl _⟩, ⟨by (with_reducible repeat (first | apply Kd.R_alloc | apply Kd.R_drewN | apply Kd.R_drew)); exact HO_5.out⟩, ⟨by (with_reducible repeat (first | apply Kd.R_alloc | apply Kd.R_drewN | apply Kd.R_drew)); exact HO_6.out⟩, ⟨by repeat (first | (with_reducible first | exact HI0.out | apply IsS56.alloc | apply IsS56.drewN | apply IsS56.drew | apply IsS56.set_0 | apply IsS56.set_1) | exact HI0.out)⟩, ⟨by repeat (first | (with_reducible first | exact HK.out | apply KeepBut.set_ | apply keep_drewN | apply keep_drew | apply keep_alloc) | exact HK.out)⟩, ⟨by repeat (first | (with_reducible first | exact HB.out | apply below_alloc | apply pw_below_drewN | apply below_drew1 | refine below_set ?_ (IsS56.ge HI0.out)) | exact HB.out)⟩⟩
   case rest =>
    clear HC11
    try clear c1
    try clear c2
    try clear p2
    try clear c4
    try clear c6
    try clear p6
    try clear c14
    try clear c14b0
    try clear c14b1
    try clear hcz12_0
    try clear hcz12_1
    try clear hcz5_0
    try clear hcz5_1
    try clear hcz8_0
    try clear hcz8_1
    try clear hfz12_0
    try clear hfz12_1
    try clear hfz5_0
    try clear hfz5_1
    try clear hfz8_0
    try clear hfz8_1
    try clear p2
    try clear p6
    obtain ⟨kq, x32_10, x1000_10, x1001_10, rfl, HA, HJ10, HO_5, HO_6, HI0, HK, HB⟩ := hcut
    cases kq with
    | zero => exact absurd HA.out (by simp [spec_reader_members.j1])
    | succ kj10 =>
     have H := HA.out
     clear HA
     simp only [spec_reader_members.j1] at H
     by_cases c19 : x32_10 = true
     ·subst c19
      have H1 : (some (([] : List (S104)), ([] : List (S38)), false, x1000_10, x1001_10)) = some (r1, r2, r3, r4, r5) := by rw [if_pos rfl] at H; exact H
      clear H
      have H := H1
      clear H1
      simp only [Option.some.injEq, Prod.mk.injEq] at H
      obtain ⟨rfl, rfl, rfl, rfl, rfl⟩ := H
      go_wp2
      go_ret3
      exact ⟨_, _, by first | rfl | (simp [errW_none, errW_some] <;> rfl) | (simp [*, errW_none, errW_some] <;> rfl), by first | exact Kd.R_nil _ _ _ _ _ | exact Kd.N_nil _ _ _ _ _ | exact Kd.V_nil _ _ _ _ _ | exact Kd.Q_nil _ _ _ _ _ | exact Kd.S_nil _ _ _ _ _, by first | exact Kd.R_nil _ _ _ _ _ | exact Kd.N_nil _ _ _ _ _ | exact Kd.V_nil _ _ _ _ _ | exact Kd.Q_nil _ _ _ _ _ | exact Kd.S_nil _ _ _ _ _, by repeat (first | (with_reducible first | exact HI0.out | apply IsS56.alloc | apply IsS56.drewN | apply IsS56.drew | apply IsS56.set_0 | apply IsS56.set_1) | exact HI0.out), by repeat (first | (with_reducible first | exact HB.out | apply below_alloc | apply pw_below_drewN | apply below_drew1 | refine below_set ?_ (IsS56.ge HI0.out)) | exact HB.out), by repeat (first | (with_reducible first | exact HK.out | apply KeepBut.set_ | apply keep_drewN | apply keep_drew | apply keep_alloc) | exact HK.out)⟩
     replace c19 := Bool.eq_false_iff.mpr c19
     subst c19
     have H1 : (if x5_1.length < 8796093022208 then ((some (x5_1 ++ [(⟨x1001_1, x1001_10⟩ : S104)] : List (S104))).bind fun y147 => ((spec_reader_blanks.f kj10 x1000_10 x1001_10).bind fun bt150 => ((spec_reader_take.f bt150.1 bt150.2 58).bind fun bt152 => (if bt152.1 = true then ((spec_reader_blanks.f kj10 bt152.2.1 bt152.2.2).bind fun bt155 => ((spec_reader_value.f kj10 bt155.1 bt155.2).bind fun bt157 => (if bt157.2.2.2.2.2.1 = true then (if x6_1.length < 1954687338268 then ((some (x6_1 ++ [(⟨bt157.1, bt157.2.1, bt157.2.2.1, bt157.2.2.2.1, bt157.2.2.2.2.1⟩ : S38)] : List (S38))).bind fun y170 => ((spec_reader_blanks.f kj10 bt157.2.2.2.2.2.2.1 bt157.2.2.2.2.2.2.2).bind fun bt173 => ((spec_reader_take.f bt173.1 bt173.2 125).bind fun bt175 => (if bt175.1 = true then (some (y147, y170, true, bt175.2.1, bt175.2.2)) else ((spec_reader_take.f bt175.2.1 bt175.2.2 44).bind fun bt178 => (if bt178.1 = true then ((spec_reader_blanks.f kj10 bt178.2.1 bt178.2.2).bind fun bt181 => (spec_reader_members.l0 kj10 y147 y170 bt181.1 bt181.2)) else (some (([] : List (S104)), ([] : List (S38)), false, bt178.2.1, bt178.2.2)))))))) else (none)) else (some (([] : List (S104)), ([] : List (S38)), false, bt157.2.2.2.2.2.2.1, bt157.2.2.2.2.2.2.2))))) else (some (([] : List (S104)), ([] : List (S38)), false, bt152.2.1, bt152.2.2)))))) else (none)) = some (r1, r2, r3, r4, r5) := by rw [if_neg (show ¬ (false = true) by decide)] at H; exact H
     clear H
     have H := H1
     clear H1
     by_cases c20 : x5_1.length < 8796093022208
     rotate_left
     ·rw [if_neg c20] at H
      exact absurd H (by simp)
     rw [if_pos c20] at H
     have LMc20 := mk0 c20
     clear c20
     obtain ⟨y147, hy147⟩ : ∃ y_ : List (S104), y_ = (x5_1 ++ [(⟨x1001_1, x1001_10⟩ : S104)]) := ⟨_, rfl⟩
     replace H : ((spec_reader_blanks.f kj10 x1000_10 x1001_10).bind fun bt150 => ((spec_reader_take.f bt150.1 bt150.2 58).bind fun bt152 => (if bt152.1 = true then ((spec_reader_blanks.f kj10 bt152.2.1 bt152.2.2).bind fun bt155 => ((spec_reader_value.f kj10 bt155.1 bt155.2).bind fun bt157 => (if bt157.2.2.2.2.2.1 = true then (if x6_1.length < 1954687338268 then ((some (x6_1 ++ [(⟨bt157.1, bt157.2.1, bt157.2.2.1, bt157.2.2.2.1, bt157.2.2.2.2.1⟩ : S38)] : List (S38))).bind fun y170 => ((spec_reader_blanks.f kj10 bt157.2.2.2.2.2.2.1 bt157.2.2.2.2.2.2.2).bind fun bt173 => ((spec_reader_take.f bt173.1 bt173.2 125).bind fun bt175 => (if bt175.1 = true then (some (y147, y170, true, bt175.2.1, bt175.2.2)) else ((spec_reader_take.f bt175.2.1 bt175.2.2 44).bind fun bt178 => (if bt178.1 = true then ((spec_reader_blanks.f kj10 bt178.2.1 bt178.2.2).bind fun bt181 => (spec_reader_members.l0 kj10 y147 y170 bt181.1 bt181.2)) else (some (([] : List (S104)), ([] : List (S38)), false, bt178.2.1, bt178.2.2)))))))) else (none)) else (some (([] : List (S104)), ([] : List (S38)), false, bt157.2.2.2.2.2.2.1, bt157.2.2.2.2.2.2.2))))) else (some (([] : List (S104)), ([] : List (S38)), false, bt152.2.1, bt152.2.2))))) = some (r1, r2, r3, r4, r5) := by first | (rw [hy147]; with_reducible exact H) | (have H2_ := (Option.bind_some _ _).symm.trans H; rw [hy147]; with_reducible exact H2_) | (have H2_ := (Option.bind_some _ _).symm.trans H; with_reducible exact H2_) | with_reducible exact H | (rw [hy147]; exact H) | exact H
     have Ny147 := mk0 hy147
     clear hy147
     replace H := Option.bind_eq_some_iff.mp H
     obtain ⟨⟨t150, t151⟩, A210, H⟩ := H
     replace H : ((spec_reader_take.f t150 t151 58).bind fun bt152 => (if bt152.1 = true then ((spec_reader_blanks.f kj10 bt152.2.1 bt152.2.2).bind fun bt155 => ((spec_reader_value.f kj10 bt155.1 bt155.2).bind fun bt157 => (if bt157.2.2.2.2.2.1 = true then (if x6_1.length < 1954687338268 then ((some (x6_1 ++ [(⟨bt157.1, bt157.2.1, bt157.2.2.1, bt157.2.2.2.1, bt157.2.2.2.2.1⟩ : S38)] : List (S38))).bind fun y170 => ((spec_reader_blanks.f kj10 bt157.2.2.2.2.2.2.1 bt157.2.2.2.2.2.2.2).bind fun bt173 => ((spec_reader_take.f bt173.1 bt173.2 125).bind fun bt175 => (if bt175.1 = true then (some (y147, y170, true, bt175.2.1, bt175.2.2)) else ((spec_reader_take.f bt175.2.1 bt175.2.2 44).bind fun bt178 => (if bt178.1 = true then ((spec_reader_blanks.f kj10 bt178.2.1 bt178.2.2).bind fun bt181 => (spec_reader_members.l0 kj10 y147 y170 bt181.1 bt181.2)) else (some (([] : List (S104)), ([] : List (S38)), false, bt178.2.1, bt178.2.2)))))))) else (none)) else (some (([] : List (S104)), ([] : List (S38)), false, bt157.2.2.2.2.2.2.1, bt157.2.2.2.2.2.2.2))))) else (some (([] : List (S104)), ([] : List (S38)), false, bt152.2.1, bt152.2.2)))) = some (r1, r2, r3, r4, r5) := H
     have A21 := mk0 A210
     clear A210
     replace H := Option.bind_eq_some_iff.mp H
     obtain ⟨⟨t152, t153, t154⟩, A220, H⟩ := H
     replace H : (if t152 = true then ((spec_reader_blanks.f kj10 t153 t154).bind fun bt155 => ((spec_reader_value.f kj10 bt155.1 bt155.2).bind fun bt157 => (if bt157.2.2.2.2.2.1 = true then (if x6_1.length < 1954687338268 then ((some (x6_1 ++ [(⟨bt157.1, bt157.2.1, bt157.2.2.1, bt157.2.2.2.1, bt157.2.2.2.2.1⟩ : S38)] : List (S38))).bind fun y170 => ((spec_reader_blanks.f kj10 bt157.2.2.2.2.2.2.1 bt157.2.2.2.2.2.2.2).bind fun bt173 => ((spec_reader_take.f bt173.1 bt173.2 125).bind fun bt175 => (if bt175.1 = true then (some (y147, y170, true, bt175.2.1, bt175.2.2)) else ((spec_reader_take.f bt175.2.1 bt175.2.2 44).bind fun bt178 => (if bt178.1 = true then ((spec_reader_blanks.f kj10 bt178.2.1 bt178.2.2).bind fun bt181 => (spec_reader_members.l0 kj10 y147 y170 bt181.1 bt181.2)) else (some (([] : List (S104)), ([] : List (S38)), false, bt178.2.1, bt178.2.2)))))))) else (none)) else (some (([] : List (S104)), ([] : List (S38)), false, bt157.2.2.2.2.2.2.1, bt157.2.2.2.2.2.2.2))))) else (some (([] : List (S104)), ([] : List (S38)), false, t153, t154))) = some (r1, r2, r3, r4, r5) := H
     have A22 := mk0 A220
     clear A220
     by_cases c23 : t152 = true
     rotate_left
     ·replace c23 := Bool.eq_false_iff.mpr c23
      subst c23
      have H1 : (some (([] : List (S104)), ([] : List (S38)), false, t153, t154)) = some (r1, r2, r3, r4, r5) := by rw [if_neg (show ¬ (false = true) by decide)] at H; exact H
      clear H
      have H := H1
      clear H1
      simp only [Option.some.injEq, Prod.mk.injEq] at H
      obtain ⟨rfl, rfl, rfl, rfl, rfl⟩ := H
      obtain ⟨HGz96, hgz96⟩ := HI0.out
      have hcz96_0 := cellS56_0 HGz96
      have hcz96_1 := cellS56_1 HGz96
      have hfz96_0 := blk_frozen HGz96 0
      have hfz96_1 := blk_frozen HGz96 1
      clear HGz96 hgz96
      go_wp2_with (first | ((with_reducible refine gate_builtin (b := .append) (xs := #[.tmp 33, .tmp 40]) rfl ?_); at_builtin; refine Kd.R_append k104 w.heap.size rfl (.tmp 33) (.tmp 40) 35 104 (.agg #[(.int .i64 0), (.int .i64 0)]) 16 rfl Tryd.underlying35 info104 rfl zq45 (by omega) u5 x5_1 (⟨x1001_1, x1001_10⟩ : S104) [.int .i64 x1001_1, .int .i64 x1001_10] (fun _ => True) (fun _ => False) rfl rfl ?aP (fun _ hk => hk.elim) ?aF ?aO (Below.refl _ _) ?aS ?aL ?_; (case aP => exact k104_mkM _ _ _ (⟨x1001_1, x1001_10⟩ : S104)); (case aF => exact (fun _ _ => trivial)); (case aO => exact zq36); (case aS => exact (keep_size (w := w) (g := g) (row := none) zq1)); (case aL => have := LMc20.out; omega); intro v148 w97 ho hb hg hat; rw [← Ny147.out] at ho; have n0_ := mk0 (Kd.R_after (ok := (fun _ => True)) zq44 hg hat); have n1_ := mk0 (IsS56.grown zq0 hg (IsS56.own_ne HI0.out HO_5.out zq45)); have n2_ := mk0 (below_weaken zq3 HL.out hb); have n3_ := mk0 (KeepBut.trans zq1 (KeepBut.of_grown hg g) (Kd.R_base2 HO_5.out)); have n4_ := mk0 (ho); clear HO_6 HI0 HB HK HO_5; have HO_6 := n0_; have HI0 := n1_; have HB := n2_; have HK := n3_; have HO149 := n4_; clear n0_ n1_ n2_ n3_ n4_; clear ho hb hg hat) | ((with_reducible refine gate_callee (f := 28) rfl ?_); refine goesL_ (some 43) rfl rfl Tryd.func28 zq23 rfl #[.pointer (some ⟨g, 0, none⟩)] rfl zq2 ?_; (with_reducible refine (spec_reader_blanks.calls kj10 g x1000_10 x1001_10 t150 t151 w0 _ ?side1 ?side2 A21.out).mono ?_); (case side1 => exact zq0); (case side2 => exact zq3); rintro e w98 ⟨rfl, hi, hb, hk⟩; refine ⟨_, rfl, ?_⟩; have n0_ := mk0 (Kd.R_mono (Kd.R_keep (IsS56.apart (show IsS56 w0 _ g x1000_10 x1001_10 from zq0) zq14 zq45) hk (fun _ h => h.2)) (fun _ h => h.1)); have n1_ := mk0 (Kd.R_mono (Kd.R_keep (IsS56.apart (show IsS56 w0 _ g x1000_10 x1001_10 from zq0) zq6 zq45) hk (fun _ h => h.2)) (fun _ h => h.1)); have n2_ := mk0 (KeepBut.trans zq1 hk (.inl rfl)); have n3_ := mk0 (hb); have n4_ := mk0 (hi); clear HO_6 HO149 HK HB HI0; have HO_6 := n0_; have HO149 := n1_; have HK := n2_; have HB := n3_; have HI0 := n4_; clear n0_ n1_ n2_ n3_ n4_; (try clear hb); (try clear hb2); (try clear hk); (try clear hi)) | ((with_reducible refine gate_callee (f := 67) rfl ?_); refine goesL_ (some 45) rfl rfl Tryd.func67 zq23 rfl #[.pointer (some ⟨g, 0, none⟩), .int .u8 58] rfl zq2 ?_; (with_reducible refine (spec_reader_take.calls g t150 t151 58 false t153 t154 w0 _ ?side1 ?side2 A22.out).mono ?_); (case side1 => exact zq0); (case side2 => exact zq3); rintro e w99 ⟨rfl, hi, hb, hk⟩; refine ⟨_, rfl, ?_⟩; have n0_ := mk0 (Kd.R_mono (Kd.R_keep (IsS56.apart (show IsS56 w0 _ g t150 t151 from zq0) zq14 zq45) hk (fun _ h => h.2)) (fun _ h => h.1)); have n1_ := mk0 (Kd.R_mono (Kd.R_keep (IsS56.apart (show IsS56 w0 _ g t150 t151 from zq0) zq6 zq45) hk (fun _ h => h.2)) (fun _ h => h.1)); have n2_ := mk0 (KeepBut.trans zq1 hk (.inl rfl)); have n3_ := mk0 (hb); have n4_ := mk0 (hi); clear HO_6 HO149 HK HB HI0; have HO_6 := n0_; have HO149 := n1_; have HK := n2_; have HB := n3_; have HI0 := n4_; clear n0_ n1_ n2_ n3_ n4_; (try clear hb); (try clear hb2); (try clear hk); (try clear hi)))
      go_ret3
      exact ⟨_, _, by first | rfl | (simp [errW_none, errW_some] <;> rfl) | (simp [*, errW_none, errW_some] <;> rfl), by first | exact Kd.R_nil _ _ _ _ _ | exact Kd.N_nil _ _ _ _ _ | exact Kd.V_nil _ _ _ _ _ | exact Kd.Q_nil _ _ _ _ _ | exact Kd.S_nil _ _ _ _ _, by first | exact Kd.R_nil _ _ _ _ _ | exact Kd.N_nil _ _ _ _ _ | exact Kd.V_nil _ _ _ _ _ | exact Kd.Q_nil _ _ _ _ _ | exact Kd.S_nil _ _ _ _ _, by repeat (first | (with_reducible first | exact HI0.out | apply IsS56.alloc | apply IsS56.drewN | apply IsS56.drew | apply IsS56.set_0 | apply IsS56.set_1) | exact HI0.out), by repeat (first | (with_reducible first | exact HB.out | apply below_alloc | apply pw_below_drewN | apply below_drew1 | refine below_set ?_ (IsS56.ge HI0.out)) | exact HB.out), by repeat (first | (with_reducible first | exact HK.out | apply KeepBut.set_ | apply keep_drewN | apply keep_drew | apply keep_alloc) | exact HK.out)⟩
     subst c23
     have H1 : ((spec_reader_blanks.f kj10 t153 t154).bind fun bt155 => ((spec_reader_value.f kj10 bt155.1 bt155.2).bind fun bt157 => (if bt157.2.2.2.2.2.1 = true then (if x6_1.length < 1954687338268 then ((some (x6_1 ++ [(⟨bt157.1, bt157.2.1, bt157.2.2.1, bt157.2.2.2.1, bt157.2.2.2.2.1⟩ : S38)] : List (S38))).bind fun y170 => ((spec_reader_blanks.f kj10 bt157.2.2.2.2.2.2.1 bt157.2.2.2.2.2.2.2).bind fun bt173 => ((spec_reader_take.f bt173.1 bt173.2 125).bind fun bt175 => (if bt175.1 = true then (some (y147, y170, true, bt175.2.1, bt175.2.2)) else ((spec_reader_take.f bt175.2.1 bt175.2.2 44).bind fun bt178 => (if bt178.1 = true then ((spec_reader_blanks.f kj10 bt178.2.1 bt178.2.2).bind fun bt181 => (spec_reader_members.l0 kj10 y147 y170 bt181.1 bt181.2)) else (some (([] : List (S104)), ([] : List (S38)), false, bt178.2.1, bt178.2.2)))))))) else (none)) else (some (([] : List (S104)), ([] : List (S38)), false, bt157.2.2.2.2.2.2.1, bt157.2.2.2.2.2.2.2))))) = some (r1, r2, r3, r4, r5) := by rw [if_pos rfl] at H; exact H
     clear H
     have H := H1
     clear H1
     replace H := Option.bind_eq_some_iff.mp H
     obtain ⟨⟨t155, t156⟩, A240, H⟩ := H
     replace H : ((spec_reader_value.f kj10 t155 t156).bind fun bt157 => (if bt157.2.2.2.2.2.1 = true then (if x6_1.length < 1954687338268 then ((some (x6_1 ++ [(⟨bt157.1, bt157.2.1, bt157.2.2.1, bt157.2.2.2.1, bt157.2.2.2.2.1⟩ : S38)] : List (S38))).bind fun y170 => ((spec_reader_blanks.f kj10 bt157.2.2.2.2.2.2.1 bt157.2.2.2.2.2.2.2).bind fun bt173 => ((spec_reader_take.f bt173.1 bt173.2 125).bind fun bt175 => (if bt175.1 = true then (some (y147, y170, true, bt175.2.1, bt175.2.2)) else ((spec_reader_take.f bt175.2.1 bt175.2.2 44).bind fun bt178 => (if bt178.1 = true then ((spec_reader_blanks.f kj10 bt178.2.1 bt178.2.2).bind fun bt181 => (spec_reader_members.l0 kj10 y147 y170 bt181.1 bt181.2)) else (some (([] : List (S104)), ([] : List (S38)), false, bt178.2.1, bt178.2.2)))))))) else (none)) else (some (([] : List (S104)), ([] : List (S38)), false, bt157.2.2.2.2.2.2.1, bt157.2.2.2.2.2.2.2)))) = some (r1, r2, r3, r4, r5) := H
     have A24 := mk0 A240
     clear A240
     replace H := Option.bind_eq_some_iff.mp H
     obtain ⟨⟨t157, t158, t159, t160, t163, t166, t167, t168⟩, A250, H⟩ := H
     replace H : (if t166 = true then (if x6_1.length < 1954687338268 then ((some (x6_1 ++ [(⟨t157, t158, t159, t160, t163⟩ : S38)] : List (S38))).bind fun y170 => ((spec_reader_blanks.f kj10 t167 t168).bind fun bt173 => ((spec_reader_take.f bt173.1 bt173.2 125).bind fun bt175 => (if bt175.1 = true then (some (y147, y170, true, bt175.2.1, bt175.2.2)) else ((spec_reader_take.f bt175.2.1 bt175.2.2 44).bind fun bt178 => (if bt178.1 = true then ((spec_reader_blanks.f kj10 bt178.2.1 bt178.2.2).bind fun bt181 => (spec_reader_members.l0 kj10 y147 y170 bt181.1 bt181.2)) else (some (([] : List (S104)), ([] : List (S38)), false, bt178.2.1, bt178.2.2)))))))) else (none)) else (some (([] : List (S104)), ([] : List (S38)), false, t167, t168))) = some (r1, r2, r3, r4, r5) := H
     have A25 := mk0 A250
     clear A250
     by_cases c26 : t166 = true
     rotate_left
     ·replace c26 := Bool.eq_false_iff.mpr c26
      subst c26
      have H1 : (some (([] : List (S104)), ([] : List (S38)), false, t167, t168)) = some (r1, r2, r3, r4, r5) := by rw [if_neg (show ¬ (false = true) by decide)] at H; exact H
      clear H
      have H := H1
      clear H1
      simp only [Option.some.injEq, Prod.mk.injEq] at H
      obtain ⟨rfl, rfl, rfl, rfl, rfl⟩ := H
      obtain ⟨HGz85, hgz85⟩ := HI0.out
      have hcz85_0 := cellS56_0 HGz85
      have hcz85_1 := cellS56_1 HGz85
      have hfz85_0 := blk_frozen HGz85 0
      have hfz85_1 := blk_frozen HGz85 1
      clear HGz85 hgz85
      go_wp2_with (first | ((with_reducible refine gate_builtin (b := .append) (xs := #[.tmp 33, .tmp 40]) rfl ?_); at_builtin; refine Kd.R_append k104 w.heap.size rfl (.tmp 33) (.tmp 40) 35 104 (.agg #[(.int .i64 0), (.int .i64 0)]) 16 rfl Tryd.underlying35 info104 rfl zq45 (by omega) u5 x5_1 (⟨x1001_1, x1001_10⟩ : S104) [.int .i64 x1001_1, .int .i64 x1001_10] (fun _ => True) (fun _ => False) rfl rfl ?aP (fun _ hk => hk.elim) ?aF ?aO (Below.refl _ _) ?aS ?aL ?_; (case aP => exact k104_mkM _ _ _ (⟨x1001_1, x1001_10⟩ : S104)); (case aF => exact (fun _ _ => trivial)); (case aO => exact zq36); (case aS => exact (keep_size (w := w) (g := g) (row := none) zq1)); (case aL => have := LMc20.out; omega); intro v148 w86 ho hb hg hat; rw [← Ny147.out] at ho; have n0_ := mk0 (Kd.R_after (ok := (fun _ => True)) zq44 hg hat); have n1_ := mk0 (IsS56.grown zq0 hg (IsS56.own_ne HI0.out HO_5.out zq45)); have n2_ := mk0 (below_weaken zq3 HL.out hb); have n3_ := mk0 (KeepBut.trans zq1 (KeepBut.of_grown hg g) (Kd.R_base2 HO_5.out)); have n4_ := mk0 (ho); clear HO_6 HI0 HB HK HO_5; have HO_6 := n0_; have HI0 := n1_; have HB := n2_; have HK := n3_; have HO149 := n4_; clear n0_ n1_ n2_ n3_ n4_; clear ho hb hg hat) | ((with_reducible refine gate_callee (f := 28) rfl ?_); refine goesL_ (some 43) rfl rfl Tryd.func28 zq23 rfl #[.pointer (some ⟨g, 0, none⟩)] rfl zq2 ?_; (with_reducible refine (spec_reader_blanks.calls kj10 g x1000_10 x1001_10 t150 t151 w0 _ ?side1 ?side2 A21.out).mono ?_); (case side1 => exact zq0); (case side2 => exact zq3); rintro e w87 ⟨rfl, hi, hb, hk⟩; refine ⟨_, rfl, ?_⟩; have n0_ := mk0 (Kd.R_mono (Kd.R_keep (IsS56.apart (show IsS56 w0 _ g x1000_10 x1001_10 from zq0) zq14 zq45) hk (fun _ h => h.2)) (fun _ h => h.1)); have n1_ := mk0 (Kd.R_mono (Kd.R_keep (IsS56.apart (show IsS56 w0 _ g x1000_10 x1001_10 from zq0) zq6 zq45) hk (fun _ h => h.2)) (fun _ h => h.1)); have n2_ := mk0 (KeepBut.trans zq1 hk (.inl rfl)); have n3_ := mk0 (hb); have n4_ := mk0 (hi); clear HO_6 HO149 HK HB HI0; have HO_6 := n0_; have HO149 := n1_; have HK := n2_; have HB := n3_; have HI0 := n4_; clear n0_ n1_ n2_ n3_ n4_; (try clear hb); (try clear hb2); (try clear hk); (try clear hi)) | ((with_reducible refine gate_callee (f := 67) rfl ?_); refine goesL_ (some 45) rfl rfl Tryd.func67 zq23 rfl #[.pointer (some ⟨g, 0, none⟩), .int .u8 58] rfl zq2 ?_; (with_reducible refine (spec_reader_take.calls g t150 t151 58 true t153 t154 w0 _ ?side1 ?side2 A22.out).mono ?_); (case side1 => exact zq0); (case side2 => exact zq3); rintro e w88 ⟨rfl, hi, hb, hk⟩; refine ⟨_, rfl, ?_⟩; have n0_ := mk0 (Kd.R_mono (Kd.R_keep (IsS56.apart (show IsS56 w0 _ g t150 t151 from zq0) zq14 zq45) hk (fun _ h => h.2)) (fun _ h => h.1)); have n1_ := mk0 (Kd.R_mono (Kd.R_keep (IsS56.apart (show IsS56 w0 _ g t150 t151 from zq0) zq6 zq45) hk (fun _ h => h.2)) (fun _ h => h.1)); have n2_ := mk0 (KeepBut.trans zq1 hk (.inl rfl)); have n3_ := mk0 (hb); have n4_ := mk0 (hi); clear HO_6 HO149 HK HB HI0; have HO_6 := n0_; have HO149 := n1_; have HK := n2_; have HB := n3_; have HI0 := n4_; clear n0_ n1_ n2_ n3_ n4_; (try clear hb); (try clear hb2); (try clear hk); (try clear hi)) | ((with_reducible refine gate_callee (f := 28) rfl ?_); refine goesL_ (some 48) rfl rfl Tryd.func28 zq23 rfl #[.pointer (some ⟨g, 0, none⟩)] rfl zq2 ?_; (with_reducible refine (spec_reader_blanks.calls kj10 g t153 t154 t155 t156 w0 _ ?side1 ?side2 A24.out).mono ?_); (case side1 => exact zq0); (case side2 => exact zq3); rintro e w89 ⟨rfl, hi, hb, hk⟩; refine ⟨_, rfl, ?_⟩; have n0_ := mk0 (Kd.R_mono (Kd.R_keep (IsS56.apart (show IsS56 w0 _ g t153 t154 from zq0) zq14 zq45) hk (fun _ h => h.2)) (fun _ h => h.1)); have n1_ := mk0 (Kd.R_mono (Kd.R_keep (IsS56.apart (show IsS56 w0 _ g t153 t154 from zq0) zq6 zq45) hk (fun _ h => h.2)) (fun _ h => h.1)); have n2_ := mk0 (KeepBut.trans zq1 hk (.inl rfl)); have n3_ := mk0 (hb); have n4_ := mk0 (hi); clear HO_6 HO149 HK HB HI0; have HO_6 := n0_; have HO149 := n1_; have HK := n2_; have HB := n3_; have HI0 := n4_; clear n0_ n1_ n2_ n3_ n4_; (try clear hb); (try clear hb2); (try clear hk); (try clear hi)) | ((with_reducible refine gate_callee (f := 29) rfl ?_); refine goesL_ (some 51) rfl rfl Tryd.func29 zq23 rfl #[.pointer (some ⟨g, 0, none⟩)] rfl zq2 ?_; (with_reducible refine (ih_29 kj10 (by have := HK1.out; have := HJ10.out; omega) g t155 t156 t157 t158 t159 t160 t163 false t167 t168 w0 _ ?side1 ?side2 A25.out).mono ?_); (case side1 => exact zq0); (case side2 => exact zq3); rintro e w90 ⟨v161, v164, rfl, ho0, ho1, hi, hb, hk⟩; refine ⟨_, rfl, ?_⟩; have n0_ := mk0 (Kd.R_mono (Kd.R_told (Kd.R_told (Kd.R_oldK (IsS56.apart (show IsS56 w0 _ g t155 t156 from zq0) zq14 zq45) hk) (Kd.R_base ho0)) (Kd.R_base ho1)) (fun _ h_ => h_.1)); have n1_ := mk0 (Kd.R_mono (Kd.R_told (Kd.R_oldK (IsS56.apart (show IsS56 w0 _ g t155 t156 from zq0) zq6 zq45) hk) (Kd.R_base ho0)) (fun _ h_ => h_.1)); have n2_ := mk0 (Kd.R_lower (Kd.R_new' ho0 (Kd.R_lt zq6)) (keep_size (w := w) (g := g) (row := none) zq1)); have n3_ := mk0 (Kd.R_lower (Kd.R_new' (Kd.R_new' ho1 (Kd.R_lt zq14)) (Kd.R_lt zq6)) (keep_size (w := w) (g := g) (row := none) zq1)); have n4_ := mk0 (KeepBut.trans zq1 hk (.inl rfl)); have n5_ := mk0 (hb); have n6_ := mk0 (hi); clear HO_6 HO149 HK HB HI0; have HO_6 := n0_; have HO149 := n1_; have HO162 := n2_; have HO165 := n3_; have HK := n4_; have HB := n5_; have HI0 := n6_; clear n0_ n1_ n2_ n3_ n4_ n5_ n6_; (try clear hb); (try clear hb2); (try clear hk); (try clear hi); (try clear ho0); (try clear ho1)) | ((with_reducible refine gate_dst (N := 8) rfl ?_); refine box_event ?hg (N := 8) ?hd (cs := #[.int .i64 0, .int .i64 0, .int .i64 0, .slice none 0 0, .slice none 0 0]) (t := 38) ?hr ?_; (case hd => rfl); (case hg => rfl); (case hr => exact zq30); intro gb169 hg w91 hbox hb; have n0_ := mk0 (Kd.R_below (Kd.R_elderB zq14 gb169 (Nat.le_of_eq hg.symm)) hb); have n1_ := mk0 (Kd.R_below zq6 hb); have n2_ := mk0 (Kd.R_below zq57 hb); have n3_ := mk0 (Kd.R_below (Kd.R_elderB zq58 gb169 (Nat.le_of_eq hg.symm)) hb); have n4_ := mk0 (IsS56.below zq0 hb); have n5_ := mk0 (KeepBut.trans zq1 (KeepBut.of_below hb g none) (.inl rfl)); have n6_ := mk0 (below_step zq3 hb); have n7_ := mk0 (hbox); have n8_ := mk0 ((zq27 : w.heap.size ≤ gb169)); have n9_ := mk0 ((Nat.le_trans HW0.out (zq27 : w.heap.size ≤ gb169) : w0.heap.size ≤ gb169)); have n10_ := mk0 ((by rw [hg]; exact Nat.ne_of_lt (IsS56.lt (show IsS56 w0 _ g t167 t168 from zq0)) : g ≠ gb169)); have n11_ := mk0 ((by rw [hg]; exact Nat.ne_of_gt (IsS56.lt (show IsS56 w0 _ g t167 t168 from zq0)) : gb169 ≠ g)); clear HO_6 HO149 HO162 HO165 HI0 HK HB; have HO_6 := n0_; have HO149 := n1_; have HO162 := n2_; have HO165 := n3_; have HI0 := n4_; have HK := n5_; have HB := n6_; have BK169 := n7_; have GW169 := n8_; have GE169 := n9_; have NB0_169 := n10_; have NB169_0 := n11_; clear n0_ n1_ n2_ n3_ n4_ n5_ n6_ n7_ n8_ n9_ n10_ n11_; clear hb hbox hg; have hnb92 := NB169_0.out; have hnc92 := NB0_169.out; have hcz93_0 : w91.cell? ⟨gb169, 0, none⟩ = some (.int .i64 0) := (blk_cell BK169.out 0).trans rfl; have hcz93_1 : w91.cell? ⟨gb169, 1, none⟩ = some (.int .i64 0) := (blk_cell BK169.out 1).trans rfl; have hcz93_2 : w91.cell? ⟨gb169, 2, none⟩ = some (.int .i64 0) := (blk_cell BK169.out 2).trans rfl; have hcz93_3 : w91.cell? ⟨gb169, 3, none⟩ = some (.slice none 0 0) := (blk_cell BK169.out 3).trans rfl; have hcz93_4 : w91.cell? ⟨gb169, 4, none⟩ = some (.slice none 0 0) := (blk_cell BK169.out 4).trans rfl; have hfz93_0 := blk_frozen BK169.out 0; have hfz93_1 := blk_frozen BK169.out 1; have hfz93_2 := blk_frozen BK169.out 2; have hfz93_3 := blk_frozen BK169.out 3; have hfz93_4 := blk_frozen BK169.out 4; obtain ⟨Ao94, co94, eo94⟩ := Kd.R_slice HO162.out; subst eo94; obtain ⟨Ao95, co95, eo95⟩ := Kd.R_slice HO165.out; subst eo95))
      go_ret3
      exact ⟨_, _, by first | rfl | (simp [errW_none, errW_some] <;> rfl) | (simp [*, errW_none, errW_some] <;> rfl), by first | exact Kd.R_nil _ _ _ _ _ | exact Kd.N_nil _ _ _ _ _ | exact Kd.V_nil _ _ _ _ _ | exact Kd.Q_nil _ _ _ _ _ | exact Kd.S_nil _ _ _ _ _, by first | exact Kd.R_nil _ _ _ _ _ | exact Kd.N_nil _ _ _ _ _ | exact Kd.V_nil _ _ _ _ _ | exact Kd.Q_nil _ _ _ _ _ | exact Kd.S_nil _ _ _ _ _, by repeat (first | (with_reducible first | exact HI0.out | apply IsS56.alloc | apply IsS56.drewN | apply IsS56.drew | apply IsS56.set_0 | apply IsS56.set_1 | refine IsS56.far ?_ NB0_169.out _) | exact HI0.out), by repeat (first | (with_reducible first | exact HB.out | apply below_alloc | apply pw_below_drewN | apply below_drew1 | refine below_set ?_ (IsS56.ge HI0.out) | refine below_set ?_ GE169.out) | exact HB.out), by repeat (first | (with_reducible first | exact HK.out | apply KeepBut.set_ | apply keep_drewN | apply keep_drew | apply keep_alloc | refine keep_far ?_ GW169.out _) | exact HK.out)⟩
     subst c26
     have H1 : (if x6_1.length < 1954687338268 then ((some (x6_1 ++ [(⟨t157, t158, t159, t160, t163⟩ : S38)] : List (S38))).bind fun y170 => ((spec_reader_blanks.f kj10 t167 t168).bind fun bt173 => ((spec_reader_take.f bt173.1 bt173.2 125).bind fun bt175 => (if bt175.1 = true then (some (y147, y170, true, bt175.2.1, bt175.2.2)) else ((spec_reader_take.f bt175.2.1 bt175.2.2 44).bind fun bt178 => (if bt178.1 = true then ((spec_reader_blanks.f kj10 bt178.2.1 bt178.2.2).bind fun bt181 => (spec_reader_members.l0 kj10 y147 y170 bt181.1 bt181.2)) else (some (([] : List (S104)), ([] : List (S38)), false, bt178.2.1, bt178.2.2)))))))) else (none)) = some (r1, r2, r3, r4, r5) := by rw [if_pos rfl] at H; exact H
     clear H
     have H := H1
     clear H1
     by_cases c27 : x6_1.length < 1954687338268
     rotate_left
     ·rw [if_neg c27] at H
      exact absurd H (by simp)
     rw [if_pos c27] at H
     have LMc27 := mk0 c27
     clear c27
     obtain ⟨y170, hy170⟩ : ∃ y_ : List (S38), y_ = (x6_1 ++ [(⟨t157, t158, t159, t160, t163⟩ : S38)]) := ⟨_, rfl⟩
     replace H : ((spec_reader_blanks.f kj10 t167 t168).bind fun bt173 => ((spec_reader_take.f bt173.1 bt173.2 125).bind fun bt175 => (if bt175.1 = true then (some (y147, y170, true, bt175.2.1, bt175.2.2)) else ((spec_reader_take.f bt175.2.1 bt175.2.2 44).bind fun bt178 => (if bt178.1 = true then ((spec_reader_blanks.f kj10 bt178.2.1 bt178.2.2).bind fun bt181 => (spec_reader_members.l0 kj10 y147 y170 bt181.1 bt181.2)) else (some (([] : List (S104)), ([] : List (S38)), false, bt178.2.1, bt178.2.2))))))) = some (r1, r2, r3, r4, r5) := by first | (rw [hy170]; with_reducible exact H) | (have H2_ := (Option.bind_some _ _).symm.trans H; rw [hy170]; with_reducible exact H2_) | (have H2_ := (Option.bind_some _ _).symm.trans H; with_reducible exact H2_) | with_reducible exact H | (rw [hy170]; exact H) | exact H
     have Ny170 := mk0 hy170
     clear hy170
     replace H := Option.bind_eq_some_iff.mp H
     obtain ⟨⟨t173, t174⟩, A280, H⟩ := H
     replace H : ((spec_reader_take.f t173 t174 125).bind fun bt175 => (if bt175.1 = true then (some (y147, y170, true, bt175.2.1, bt175.2.2)) else ((spec_reader_take.f bt175.2.1 bt175.2.2 44).bind fun bt178 => (if bt178.1 = true then ((spec_reader_blanks.f kj10 bt178.2.1 bt178.2.2).bind fun bt181 => (spec_reader_members.l0 kj10 y147 y170 bt181.1 bt181.2)) else (some (([] : List (S104)), ([] : List (S38)), false, bt178.2.1, bt178.2.2)))))) = some (r1, r2, r3, r4, r5) := H
     have A28 := mk0 A280
     clear A280
     replace H := Option.bind_eq_some_iff.mp H
     obtain ⟨⟨t175, t176, t177⟩, A290, H⟩ := H
     replace H : (if t175 = true then (some (y147, y170, true, t176, t177)) else ((spec_reader_take.f t176 t177 44).bind fun bt178 => (if bt178.1 = true then ((spec_reader_blanks.f kj10 bt178.2.1 bt178.2.2).bind fun bt181 => (spec_reader_members.l0 kj10 y147 y170 bt181.1 bt181.2)) else (some (([] : List (S104)), ([] : List (S38)), false, bt178.2.1, bt178.2.2))))) = some (r1, r2, r3, r4, r5) := H
     have A29 := mk0 A290
     clear A290
     by_cases c30 : t175 = true
     ·subst c30
      have H1 : (some (y147, y170, true, t176, t177)) = some (r1, r2, r3, r4, r5) := by rw [if_pos rfl] at H; exact H
      clear H
      have H := H1
      clear H1
      simp only [Option.some.injEq, Prod.mk.injEq] at H
      obtain ⟨rfl, rfl, rfl, rfl, rfl⟩ := H
      obtain ⟨HGz31, hgz31⟩ := HI0.out
      have hcz31_0 := cellS56_0 HGz31
      have hcz31_1 := cellS56_1 HGz31
      have hfz31_0 := blk_frozen HGz31 0
      have hfz31_1 := blk_frozen HGz31 1
      clear HGz31 hgz31
      go_wp2_with (first | ((with_reducible refine gate_builtin (b := .append) (xs := #[.tmp 33, .tmp 40]) rfl ?_); at_builtin; refine Kd.R_append k104 w.heap.size rfl (.tmp 33) (.tmp 40) 35 104 (.agg #[(.int .i64 0), (.int .i64 0)]) 16 rfl Tryd.underlying35 info104 rfl zq45 (by omega) u5 x5_1 (⟨x1001_1, x1001_10⟩ : S104) [.int .i64 x1001_1, .int .i64 x1001_10] (fun _ => True) (fun _ => False) rfl rfl ?aP (fun _ hk => hk.elim) ?aF ?aO (Below.refl _ _) ?aS ?aL ?_; (case aP => exact k104_mkM _ _ _ (⟨x1001_1, x1001_10⟩ : S104)); (case aF => exact (fun _ _ => trivial)); (case aO => exact zq36); (case aS => exact (keep_size (w := w) (g := g) (row := none) zq1)); (case aL => have := LMc20.out; omega); intro v148 w32 ho hb hg hat; rw [← Ny147.out] at ho; have n0_ := mk0 (Kd.R_after (ok := (fun _ => True)) zq44 hg hat); have n1_ := mk0 (IsS56.grown zq0 hg (IsS56.own_ne HI0.out HO_5.out zq45)); have n2_ := mk0 (below_weaken zq3 HL.out hb); have n3_ := mk0 (KeepBut.trans zq1 (KeepBut.of_grown hg g) (Kd.R_base2 HO_5.out)); have n4_ := mk0 (ho); clear HO_6 HI0 HB HK HO_5; have HO_6 := n0_; have HI0 := n1_; have HB := n2_; have HK := n3_; have HO149 := n4_; clear n0_ n1_ n2_ n3_ n4_; clear ho hb hg hat) | ((with_reducible refine gate_callee (f := 28) rfl ?_); refine goesL_ (some 43) rfl rfl Tryd.func28 zq23 rfl #[.pointer (some ⟨g, 0, none⟩)] rfl zq2 ?_; (with_reducible refine (spec_reader_blanks.calls kj10 g x1000_10 x1001_10 t150 t151 w0 _ ?side1 ?side2 A21.out).mono ?_); (case side1 => exact zq0); (case side2 => exact zq3); rintro e w33 ⟨rfl, hi, hb, hk⟩; refine ⟨_, rfl, ?_⟩; have n0_ := mk0 (Kd.R_mono (Kd.R_keep (IsS56.apart (show IsS56 w0 _ g x1000_10 x1001_10 from zq0) zq14 zq45) hk (fun _ h => h.2)) (fun _ h => h.1)); have n1_ := mk0 (Kd.R_mono (Kd.R_keep (IsS56.apart (show IsS56 w0 _ g x1000_10 x1001_10 from zq0) zq6 zq45) hk (fun _ h => h.2)) (fun _ h => h.1)); have n2_ := mk0 (KeepBut.trans zq1 hk (.inl rfl)); have n3_ := mk0 (hb); have n4_ := mk0 (hi); clear HO_6 HO149 HK HB HI0; have HO_6 := n0_; have HO149 := n1_; have HK := n2_; have HB := n3_; have HI0 := n4_; clear n0_ n1_ n2_ n3_ n4_; (try clear hb); (try clear hb2); (try clear hk); (try clear hi)) | ((with_reducible refine gate_callee (f := 67) rfl ?_); refine goesL_ (some 45) rfl rfl Tryd.func67 zq23 rfl #[.pointer (some ⟨g, 0, none⟩), .int .u8 58] rfl zq2 ?_; (with_reducible refine (spec_reader_take.calls g t150 t151 58 true t153 t154 w0 _ ?side1 ?side2 A22.out).mono ?_); (case side1 => exact zq0); (case side2 => exact zq3); rintro e w34 ⟨rfl, hi, hb, hk⟩; refine ⟨_, rfl, ?_⟩; have n0_ := mk0 (Kd.R_mono (Kd.R_keep (IsS56.apart (show IsS56 w0 _ g t150 t151 from zq0) zq14 zq45) hk (fun _ h => h.2)) (fun _ h => h.1)); have n1_ := mk0 (Kd.R_mono (Kd.R_keep (IsS56.apart (show IsS56 w0 _ g t150 t151 from zq0) zq6 zq45) hk (fun _ h => h.2)) (fun _ h => h.1)); have n2_ := mk0 (KeepBut.trans zq1 hk (.inl rfl)); have n3_ := mk0 (hb); have n4_ := mk0 (hi); clear HO_6 HO149 HK HB HI0; have HO_6 := n0_; have HO149 := n1_; have HK := n2_; have HB := n3_; have HI0 := n4_; clear n0_ n1_ n2_ n3_ n4_; (try clear hb); (try clear hb2); (try clear hk); (try clear hi)) | ((with_reducible refine gate_callee (f := 28) rfl ?_); refine goesL_ (some 48) rfl rfl Tryd.func28 zq23 rfl #[.pointer (some ⟨g, 0, none⟩)] rfl zq2 ?_; (with_reducible refine (spec_reader_blanks.calls kj10 g t153 t154 t155 t156 w0 _ ?side1 ?side2 A24.out).mono ?_); (case side1 => exact zq0); (case side2 => exact zq3); rintro e w35 ⟨rfl, hi, hb, hk⟩; refine ⟨_, rfl, ?_⟩; have n0_ := mk0 (Kd.R_mono (Kd.R_keep (IsS56.apart (show IsS56 w0 _ g t153 t154 from zq0) zq14 zq45) hk (fun _ h => h.2)) (fun _ h => h.1)); have n1_ := mk0 (Kd.R_mono (Kd.R_keep (IsS56.apart (show IsS56 w0 _ g t153 t154 from zq0) zq6 zq45) hk (fun _ h => h.2)) (fun _ h => h.1)); have n2_ := mk0 (KeepBut.trans zq1 hk (.inl rfl)); have n3_ := mk0 (hb); have n4_ := mk0 (hi); clear HO_6 HO149 HK HB HI0; have HO_6 := n0_; have HO149 := n1_; have HK := n2_; have HB := n3_; have HI0 := n4_; clear n0_ n1_ n2_ n3_ n4_; (try clear hb); (try clear hb2); (try clear hk); (try clear hi)) | ((with_reducible refine gate_callee (f := 29) rfl ?_); refine goesL_ (some 51) rfl rfl Tryd.func29 zq23 rfl #[.pointer (some ⟨g, 0, none⟩)] rfl zq2 ?_; (with_reducible refine (ih_29 kj10 (by have := HK1.out; have := HJ10.out; omega) g t155 t156 t157 t158 t159 t160 t163 true t167 t168 w0 _ ?side1 ?side2 A25.out).mono ?_); (case side1 => exact zq0); (case side2 => exact zq3); rintro e w36 ⟨v161, v164, rfl, ho0, ho1, hi, hb, hk⟩; refine ⟨_, rfl, ?_⟩; have n0_ := mk0 (Kd.R_mono (Kd.R_told (Kd.R_told (Kd.R_oldK (IsS56.apart (show IsS56 w0 _ g t155 t156 from zq0) zq14 zq45) hk) (Kd.R_base ho0)) (Kd.R_base ho1)) (fun _ h_ => h_.1)); have n1_ := mk0 (Kd.R_mono (Kd.R_told (Kd.R_oldK (IsS56.apart (show IsS56 w0 _ g t155 t156 from zq0) zq6 zq45) hk) (Kd.R_base ho0)) (fun _ h_ => h_.1)); have n2_ := mk0 (Kd.R_lower (Kd.R_new' ho0 (Kd.R_lt zq6)) (keep_size (w := w) (g := g) (row := none) zq1)); have n3_ := mk0 (Kd.R_lower (Kd.R_new' (Kd.R_new' ho1 (Kd.R_lt zq14)) (Kd.R_lt zq6)) (keep_size (w := w) (g := g) (row := none) zq1)); have n4_ := mk0 (KeepBut.trans zq1 hk (.inl rfl)); have n5_ := mk0 (hb); have n6_ := mk0 (hi); clear HO_6 HO149 HK HB HI0; have HO_6 := n0_; have HO149 := n1_; have HO162 := n2_; have HO165 := n3_; have HK := n4_; have HB := n5_; have HI0 := n6_; clear n0_ n1_ n2_ n3_ n4_ n5_ n6_; (try clear hb); (try clear hb2); (try clear hk); (try clear hi); (try clear ho0); (try clear ho1)) | ((with_reducible refine gate_dst (N := 8) rfl ?_); refine box_event ?hg (N := 8) ?hd (cs := #[.int .i64 0, .int .i64 0, .int .i64 0, .slice none 0 0, .slice none 0 0]) (t := 38) ?hr ?_; (case hd => rfl); (case hg => rfl); (case hr => exact zq30); intro gb169 hg w37 hbox hb; have n0_ := mk0 (Kd.R_below (Kd.R_elderB zq14 gb169 (Nat.le_of_eq hg.symm)) hb); have n1_ := mk0 (Kd.R_below zq6 hb); have n2_ := mk0 (Kd.R_below zq57 hb); have n3_ := mk0 (Kd.R_below (Kd.R_elderB zq58 gb169 (Nat.le_of_eq hg.symm)) hb); have n4_ := mk0 (IsS56.below zq0 hb); have n5_ := mk0 (KeepBut.trans zq1 (KeepBut.of_below hb g none) (.inl rfl)); have n6_ := mk0 (below_step zq3 hb); have n7_ := mk0 (hbox); have n8_ := mk0 ((zq27 : w.heap.size ≤ gb169)); have n9_ := mk0 ((Nat.le_trans HW0.out (zq27 : w.heap.size ≤ gb169) : w0.heap.size ≤ gb169)); have n10_ := mk0 ((by rw [hg]; exact Nat.ne_of_lt (IsS56.lt (show IsS56 w0 _ g t167 t168 from zq0)) : g ≠ gb169)); have n11_ := mk0 ((by rw [hg]; exact Nat.ne_of_gt (IsS56.lt (show IsS56 w0 _ g t167 t168 from zq0)) : gb169 ≠ g)); clear HO_6 HO149 HO162 HO165 HI0 HK HB; have HO_6 := n0_; have HO149 := n1_; have HO162 := n2_; have HO165 := n3_; have HI0 := n4_; have HK := n5_; have HB := n6_; have BK169 := n7_; have GW169 := n8_; have GE169 := n9_; have NB0_169 := n10_; have NB169_0 := n11_; clear n0_ n1_ n2_ n3_ n4_ n5_ n6_ n7_ n8_ n9_ n10_ n11_; clear hb hbox hg; have hnb38 := NB169_0.out; have hnc38 := NB0_169.out; have hcz39_0 : w37.cell? ⟨gb169, 0, none⟩ = some (.int .i64 0) := (blk_cell BK169.out 0).trans rfl; have hcz39_1 : w37.cell? ⟨gb169, 1, none⟩ = some (.int .i64 0) := (blk_cell BK169.out 1).trans rfl; have hcz39_2 : w37.cell? ⟨gb169, 2, none⟩ = some (.int .i64 0) := (blk_cell BK169.out 2).trans rfl; have hcz39_3 : w37.cell? ⟨gb169, 3, none⟩ = some (.slice none 0 0) := (blk_cell BK169.out 3).trans rfl; have hcz39_4 : w37.cell? ⟨gb169, 4, none⟩ = some (.slice none 0 0) := (blk_cell BK169.out 4).trans rfl; have hfz39_0 := blk_frozen BK169.out 0; have hfz39_1 := blk_frozen BK169.out 1; have hfz39_2 := blk_frozen BK169.out 2; have hfz39_3 := blk_frozen BK169.out 3; have hfz39_4 := blk_frozen BK169.out 4; obtain ⟨Ao40, co40, eo40⟩ := Kd.R_slice HO162.out; subst eo40; obtain ⟨Ao41, co41, eo41⟩ := Kd.R_slice HO165.out; subst eo41) | ((with_reducible refine gate_store (t := 38) (p := 8) rfl ?_); refine store_event (t := 38) (p := 8) (v := ?vo_w42) (w1 := (((((w37.setCell ⟨gb169, 0, none⟩ (.int .i64 t157)).setCell ⟨gb169, 1, none⟩ (.int .i64 t158)).setCell ⟨gb169, 2, none⟩ (.int .i64 t159)).setCell ⟨gb169, 3, none⟩ (.slice Ao40 t160.length co40)).setCell ⟨gb169, 4, none⟩ (.slice Ao41 t163.length co41))) ?hg ?ho ?hn ?hr ?_; (case ho => rfl); (case hg => rfl); (case hn => rfl); (case hr => exact zq30); intro w42 hw; have n0_ : Aside0 (Kd.R k38 38 w42 w.heap.size (fun k_ => some k_ ≠ (v148 : Value).ownBlock ∧ some k_ ≠ (.slice Ao40 t160.length co40 : Value).ownBlock ∧ some k_ ≠ (.slice Ao41 t163.length co41 : Value).ownBlock ∧ k_ ≠ gb169) u6 x6_1) := ⟨(by rw [hw]; exact (by (with_reducible repeat (first | apply Kd.R_alloc | apply Kd.R_drewN | apply Kd.R_drew)); exact Kd.R_mono (Kd.R_far (p := ⟨gb169, 4, none⟩) (Kd.R_far (p := ⟨gb169, 3, none⟩) (Kd.R_far (p := ⟨gb169, 2, none⟩) (Kd.R_far (p := ⟨gb169, 1, none⟩) (Kd.R_far (p := ⟨gb169, 0, none⟩) (Kd.R_mono HO_6.out (fun k_ hk => (⟨hk, hk.2⟩ : _ ∧ k_ ≠ gb169))) (fun _ hk => hk.2) (.int .i64 t157)) (fun _ hk => hk.2) (.int .i64 t158)) (fun _ hk => hk.2) (.int .i64 t159)) (fun _ hk => hk.2) (.slice Ao40 t160.length co40)) (fun _ hk => hk.2) (.slice Ao41 t163.length co41)) (fun _ hk => ⟨hk.1.1.1.1.2, ⟨hk.1.1.1.2, ⟨hk.1.1.2, hk.1.2⟩⟩⟩)))⟩; have n1_ : Aside0 (Kd.R k104 104 w42 w.heap.size (fun k_ => some k_ ≠ (.slice Ao40 t160.length co40 : Value).ownBlock) v148 y147) := ⟨(by rw [hw]; exact (by (with_reducible repeat (first | apply Kd.R_alloc | apply Kd.R_drewN | apply Kd.R_drew)); exact Kd.R_mono (Kd.R_far (p := ⟨gb169, 4, none⟩) (Kd.R_far (p := ⟨gb169, 3, none⟩) (Kd.R_far (p := ⟨gb169, 2, none⟩) (Kd.R_far (p := ⟨gb169, 1, none⟩) (Kd.R_far (p := ⟨gb169, 0, none⟩) (Kd.R_types HO149.out BK169.out zq45) (fun _ hk => hk.2) (.int .i64 t157)) (fun _ hk => hk.2) (.int .i64 t158)) (fun _ hk => hk.2) (.int .i64 t159)) (fun _ hk => hk.2) (.slice Ao40 t160.length co40)) (fun _ hk => hk.2) (.slice Ao41 t163.length co41)) (fun _ hk => hk.1.2)))⟩; have n2_ : Aside0 (Kd.R k104 104 w42 w.heap.size (fun k_ => some k_ ≠ (v148 : Value).ownBlock) (.slice Ao40 t160.length co40) t160) := ⟨(by rw [hw]; exact (by (with_reducible repeat (first | apply Kd.R_alloc | apply Kd.R_drewN | apply Kd.R_drew)); exact Kd.R_mono (Kd.R_far (p := ⟨gb169, 4, none⟩) (Kd.R_far (p := ⟨gb169, 3, none⟩) (Kd.R_far (p := ⟨gb169, 2, none⟩) (Kd.R_far (p := ⟨gb169, 1, none⟩) (Kd.R_far (p := ⟨gb169, 0, none⟩) (Kd.R_types HO162.out BK169.out zq45) (fun _ hk => hk.2) (.int .i64 t157)) (fun _ hk => hk.2) (.int .i64 t158)) (fun _ hk => hk.2) (.int .i64 t159)) (fun _ hk => hk.2) (.slice Ao40 t160.length co40)) (fun _ hk => hk.2) (.slice Ao41 t163.length co41)) (fun _ hk => hk.1.2)))⟩; have n3_ : Aside0 (Kd.R k38 38 w42 w.heap.size (fun k_ => some k_ ≠ (u6 : Value).ownBlock ∧ some k_ ≠ (v148 : Value).ownBlock ∧ some k_ ≠ (.slice Ao40 t160.length co40 : Value).ownBlock ∧ k_ ≠ gb169) (.slice Ao41 t163.length co41) t163) := ⟨(by rw [hw]; exact (by (with_reducible repeat (first | apply Kd.R_alloc | apply Kd.R_drewN | apply Kd.R_drew)); exact Kd.R_mono (Kd.R_far (p := ⟨gb169, 4, none⟩) (Kd.R_far (p := ⟨gb169, 3, none⟩) (Kd.R_far (p := ⟨gb169, 2, none⟩) (Kd.R_far (p := ⟨gb169, 1, none⟩) (Kd.R_far (p := ⟨gb169, 0, none⟩) (Kd.R_mono HO165.out (fun k_ hk => (⟨hk, hk.2⟩ : _ ∧ k_ ≠ gb169))) (fun _ hk => hk.2) (.int .i64 t157)) (fun _ hk => hk.2) (.int .i64 t158)) (fun _ hk => hk.2) (.int .i64 t159)) (fun _ hk => hk.2) (.slice Ao40 t160.length co40)) (fun _ hk => hk.2) (.slice Ao41 t163.length co41)) (fun _ hk => ⟨hk.1.1.1.2, ⟨hk.1.1.2, ⟨hk.1.1.1.1, hk.1.2⟩⟩⟩)))⟩; have n4_ : Aside0 (w42.heap[gb169]? = some (.cells #[.int .i64 t157, .int .i64 t158, .int .i64 t159, .slice Ao40 t160.length co40, .slice Ao41 t163.length co41] 38 (0, 0))) := ⟨(by rw [hw]; exact (by (with_reducible repeat (first | refine blk_drewN ?_ _ | refine blk_drew ?_ | refine blk_alloc ?_ _)); refine blk_put (cs := #[.int .i64 t157, .int .i64 t158, .int .i64 t159, .slice Ao40 t160.length co40, .slice none 0 0]) ?_ 4 _ rfl; (with_reducible repeat (first | refine blk_drewN ?_ _ | refine blk_drew ?_ | refine blk_alloc ?_ _)); refine blk_put (cs := #[.int .i64 t157, .int .i64 t158, .int .i64 t159, .slice none 0 0, .slice none 0 0]) ?_ 3 _ rfl; (with_reducible repeat (first | refine blk_drewN ?_ _ | refine blk_drew ?_ | refine blk_alloc ?_ _)); refine blk_put (cs := #[.int .i64 t157, .int .i64 t158, .int .i64 0, .slice none 0 0, .slice none 0 0]) ?_ 2 _ rfl; (with_reducible repeat (first | refine blk_drewN ?_ _ | refine blk_drew ?_ | refine blk_alloc ?_ _)); refine blk_put (cs := #[.int .i64 t157, .int .i64 0, .int .i64 0, .slice none 0 0, .slice none 0 0]) ?_ 1 _ rfl; (with_reducible repeat (first | refine blk_drewN ?_ _ | refine blk_drew ?_ | refine blk_alloc ?_ _)); refine blk_put (cs := #[.int .i64 0, .int .i64 0, .int .i64 0, .slice none 0 0, .slice none 0 0]) ?_ 0 _ rfl; (with_reducible repeat (first | refine blk_drewN ?_ _ | refine blk_drew ?_ | refine blk_alloc ?_ _)); exact BK169.out))⟩; have n5_ : Aside0 (IsS56 w0 w42 g t167 t168) := ⟨(by rw [hw]; exact zq4)⟩; have n6_ : Aside0 (KeepBut w w42 g none) := ⟨(by rw [hw]; exact zq15)⟩; have n7_ : Aside0 (Below w0.heap.size w0 w42) := ⟨(by rw [hw]; exact zq17)⟩; clear hw HO_6 HO149 HO162 HO165 BK169 HI0 HK HB; have HO_6 := n0_; have HO149 := n1_; have HO162 := n2_; have HO165 := n3_; have BK169 := n4_; have HI0 := n5_; have HK := n6_; have HB := n7_; clear n0_ n1_ n2_ n3_ n4_ n5_ n6_ n7_; have hcz43_0 : w42.cell? ⟨gb169, 0, none⟩ = some (.int .i64 t157) := (blk_cell BK169.out 0).trans rfl; have hcz43_1 : w42.cell? ⟨gb169, 1, none⟩ = some (.int .i64 t158) := (blk_cell BK169.out 1).trans rfl; have hcz43_2 : w42.cell? ⟨gb169, 2, none⟩ = some (.int .i64 t159) := (blk_cell BK169.out 2).trans rfl; have hcz43_3 : w42.cell? ⟨gb169, 3, none⟩ = some (.slice Ao40 t160.length co40) := (blk_cell BK169.out 3).trans rfl; have hcz43_4 : w42.cell? ⟨gb169, 4, none⟩ = some (.slice Ao41 t163.length co41) := (blk_cell BK169.out 4).trans rfl; have hfz43_0 := blk_frozen BK169.out 0; have hfz43_1 := blk_frozen BK169.out 1; have hfz43_2 := blk_frozen BK169.out 2; have hfz43_3 := blk_frozen BK169.out 3; have hfz43_4 := blk_frozen BK169.out 4) | ((with_reducible refine gate_builtin (b := .append) (xs := #[.tmp 56, .tmp 58]) rfl ?_); at_builtin; refine Kd.R_append k38 w.heap.size rfl (.tmp 56) (.tmp 58) 36 38 (.agg #[(.int .i64 0), (.int .i64 0), (.int .i64 0), (.slice none 0 0), (.slice none 0 0)]) 72 rfl Tryd.underlying36 info38 rfl zq45 (by omega) u6 x6_1 (⟨t157, t158, t159, t160, t163⟩ : S38) [.int .i64 t157, .int .i64 t158, .int .i64 t159, .slice Ao40 t160.length co40, .slice Ao41 t163.length co41] (fun k_ => some k_ ≠ (v148 : Value).ownBlock ∧ k_ ≠ gb169) (fun k_ => ((fun k_ => some k_ ≠ (v148 : Value).ownBlock ∧ k_ ≠ gb169)) k_ ∧ some k_ ≠ (u6 : Value).ownBlock) rfl rfl ?aP (fun _ hk => hk) ?aF ?aO (Below.refl _ _) ?aS ?aL ?_; (case aP => exact k38_mkM _ _ _ (⟨t157, t158, t159, t160, t163⟩ : S38) (Kd.R_mono (Kd.R_types (Kd.R_apart' (HO162.out) (Kd.R_typed HO_6.out) zq45) BK169.out zq45) (fun k_ hk => ⟨⟨hk.1.1, hk.2⟩, hk.1.2⟩)) (Kd.R_mono (HO165.out) (fun k_ hk => ⟨⟨hk.2.1, hk.2.2.2⟩, hk.1⟩))); (case aF => exact (fun k_ hk => ⟨Kd.fresh' (Kd.R_lt zq6) k_ hk, Kd.freshB (g := gb169) (o := .cells #[.int .i64 t157, .int .i64 t158, .int .i64 t159, .slice Ao40 t160.length co40, .slice Ao41 t163.length co41] 38 (0, 0)) zq25 k_ hk⟩)); (case aO => exact zq61); (case aS => exact (keep_size (w := w) (g := g) (row := none) zq15)); (case aL => have := LMc27.out; omega); intro v171 w44 ho hb hg hat; rw [← Ny170.out] at ho; have n0_ := mk0 (IsS56.grown zq4 hg (IsS56.own_ne HI0.out HO_6.out zq45)); have n1_ := mk0 (Kd.R_over' zq6 (Kd.R_typed zq14) zq45 hg); have n2_ := mk0 (blk_grown (g := gb169) (o := .cells #[.int .i64 t157, .int .i64 t158, .int .i64 t159, .slice Ao40 t160.length co40, .slice Ao41 t163.length co41] 38 (0, 0)) zq25 hg (Kd.R_away HO_6.out (fun _ hk => hk.2.2.2))); have n3_ := mk0 (below_weaken zq17 HL.out hb); have n4_ := mk0 (KeepBut.trans zq15 (KeepBut.of_grown hg g) (Kd.R_base2 HO_6.out)); have n5_ := mk0 (ho); clear HI0 HO149 BK169 HB HK HO_6 HO162 HO165; have HI0 := n0_; have HO149 := n1_; have BK169 := n2_; have HB := n3_; have HK := n4_; have HO172 := n5_; clear n0_ n1_ n2_ n3_ n4_ n5_; clear ho hb hg hat) | ((with_reducible refine gate_callee (f := 28) rfl ?_); refine goesL_ (some 61) rfl rfl Tryd.func28 zq23 rfl #[.pointer (some ⟨g, 0, none⟩)] rfl zq2 ?_; (with_reducible refine (spec_reader_blanks.calls kj10 g t167 t168 t173 t174 w0 _ ?side1 ?side2 A28.out).mono ?_); (case side1 => exact zq4); (case side2 => exact zq17); rintro e w45 ⟨rfl, hi, hb, hk⟩; refine ⟨_, rfl, ?_⟩; have n0_ := mk0 (Kd.R_mono (Kd.R_keep (IsS56.apart (show IsS56 w0 _ g t167 t168 from zq4) zq6 zq45) hk (fun _ h => h.2)) (fun _ h => h.1)); have n1_ := mk0 (KeepBut.blk hk (g' := gb169) (o := .cells #[.int .i64 t157, .int .i64 t158, .int .i64 t159, .slice Ao40 t160.length co40, .slice Ao41 t163.length co41] 38 (0, 0)) zq25 NB169_0.out (by simp)); have n2_ := mk0 (Kd.R_mono (Kd.R_keep (IsS56.apart (show IsS56 w0 _ g t167 t168 from zq4) zq33 zq45) hk (fun _ h => h.2)) (fun _ h => h.1)); have n3_ := mk0 (KeepBut.trans zq15 hk (.inl rfl)); have n4_ := mk0 (hb); have n5_ := mk0 (hi); clear HO149 BK169 HO172 HK HB HI0; have HO149 := n0_; have BK169 := n1_; have HO172 := n2_; have HK := n3_; have HB := n4_; have HI0 := n5_; clear n0_ n1_ n2_ n3_ n4_ n5_; (try clear hb); (try clear hb2); (try clear hk); (try clear hi)) | ((with_reducible refine gate_callee (f := 67) rfl ?_); refine goesL_ (some 63) rfl rfl Tryd.func67 zq23 rfl #[.pointer (some ⟨g, 0, none⟩), .int .u8 125] rfl zq2 ?_; (with_reducible refine (spec_reader_take.calls g t173 t174 125 true t176 t177 w0 _ ?side1 ?side2 A29.out).mono ?_); (case side1 => exact zq4); (case side2 => exact zq17); rintro e w46 ⟨rfl, hi, hb, hk⟩; refine ⟨_, rfl, ?_⟩; have n0_ := mk0 (Kd.R_mono (Kd.R_keep (IsS56.apart (show IsS56 w0 _ g t173 t174 from zq4) zq6 zq45) hk (fun _ h => h.2)) (fun _ h => h.1)); have n1_ := mk0 (KeepBut.blk hk (g' := gb169) (o := .cells #[.int .i64 t157, .int .i64 t158, .int .i64 t159, .slice Ao40 t160.length co40, .slice Ao41 t163.length co41] 38 (0, 0)) zq25 NB169_0.out (by simp)); have n2_ := mk0 (Kd.R_mono (Kd.R_keep (IsS56.apart (show IsS56 w0 _ g t173 t174 from zq4) zq33 zq45) hk (fun _ h => h.2)) (fun _ h => h.1)); have n3_ := mk0 (KeepBut.trans zq15 hk (.inl rfl)); have n4_ := mk0 (hb); have n5_ := mk0 (hi); clear HO149 BK169 HO172 HK HB HI0; have HO149 := n0_; have BK169 := n1_; have HO172 := n2_; have HK := n3_; have HB := n4_; have HI0 := n5_; clear n0_ n1_ n2_ n3_ n4_ n5_; (try clear hb); (try clear hb2); (try clear hk); (try clear hi)))
      go_ret3
      exact ⟨_, _, by first | rfl | (simp [errW_none, errW_some] <;> rfl) | (simp [*, errW_none, errW_some] <;> rfl), by (with_reducible repeat (first | apply Kd.R_alloc | apply Kd.R_drewN | apply Kd.R_drew)); exact Kd.R_mono HO149.out (fun _ hk => trivial), by (with_reducible repeat (first | apply Kd.R_alloc | apply Kd.R_drewN | apply Kd.R_drew)); exact Kd.R_mono HO172.out (fun _ hk => hk.1), by repeat (first | (with_reducible first | exact HI0.out | apply IsS56.alloc | apply IsS56.drewN | apply IsS56.drew | apply IsS56.set_0 | apply IsS56.set_1 | refine IsS56.far ?_ NB0_169.out _) | exact HI0.out), by repeat (first | (with_reducible first | exact HB.out | apply below_alloc | apply pw_below_drewN | apply below_drew1 | refine below_set ?_ (IsS56.ge HI0.out) | refine below_set ?_ GE169.out) | exact HB.out), by repeat (first | (with_reducible first | exact HK.out | apply KeepBut.set_ | apply keep_drewN | apply keep_drew | apply keep_alloc | refine keep_far ?_ GW169.out _) | exact HK.out)⟩
     replace c30 := Bool.eq_false_iff.mpr c30
     subst c30
     have H1 : ((spec_reader_take.f t176 t177 44).bind fun bt178 => (if bt178.1 = true then ((spec_reader_blanks.f kj10 bt178.2.1 bt178.2.2).bind fun bt181 => (spec_reader_members.l0 kj10 y147 y170 bt181.1 bt181.2)) else (some (([] : List (S104)), ([] : List (S38)), false, bt178.2.1, bt178.2.2)))) = some (r1, r2, r3, r4, r5) := by rw [if_neg (show ¬ (false = true) by decide)] at H; exact H
     clear H
     have H := H1
     clear H1
     replace H := Option.bind_eq_some_iff.mp H
     obtain ⟨⟨t178, t179, t180⟩, A470, H⟩ := H
     replace H : (if t178 = true then ((spec_reader_blanks.f kj10 t179 t180).bind fun bt181 => (spec_reader_members.l0 kj10 y147 y170 bt181.1 bt181.2)) else (some (([] : List (S104)), ([] : List (S38)), false, t179, t180))) = some (r1, r2, r3, r4, r5) := H
     have A47 := mk0 A470
     clear A470
     by_cases c48 : t178 = true
     rotate_left
     ·replace c48 := Bool.eq_false_iff.mpr c48
      subst c48
      have H1 : (some (([] : List (S104)), ([] : List (S38)), false, t179, t180)) = some (r1, r2, r3, r4, r5) := by rw [if_neg (show ¬ (false = true) by decide)] at H; exact H
      clear H
      have H := H1
      clear H1
      simp only [Option.some.injEq, Prod.mk.injEq] at H
      obtain ⟨rfl, rfl, rfl, rfl, rfl⟩ := H
      obtain ⟨HGz68, hgz68⟩ := HI0.out
      have hcz68_0 := cellS56_0 HGz68
      have hcz68_1 := cellS56_1 HGz68
      have hfz68_0 := blk_frozen HGz68 0
      have hfz68_1 := blk_frozen HGz68 1
      clear HGz68 hgz68
      go_wp2_with (first | ((with_reducible refine gate_builtin (b := .append) (xs := #[.tmp 33, .tmp 40]) rfl ?_); at_builtin; refine Kd.R_append k104 w.heap.size rfl (.tmp 33) (.tmp 40) 35 104 (.agg #[(.int .i64 0), (.int .i64 0)]) 16 rfl Tryd.underlying35 info104 rfl zq45 (by omega) u5 x5_1 (⟨x1001_1, x1001_10⟩ : S104) [.int .i64 x1001_1, .int .i64 x1001_10] (fun _ => True) (fun _ => False) rfl rfl ?aP (fun _ hk => hk.elim) ?aF ?aO (Below.refl _ _) ?aS ?aL ?_; (case aP => exact k104_mkM _ _ _ (⟨x1001_1, x1001_10⟩ : S104)); (case aF => exact (fun _ _ => trivial)); (case aO => exact zq36); (case aS => exact (keep_size (w := w) (g := g) (row := none) zq1)); (case aL => have := LMc20.out; omega); intro v148 w69 ho hb hg hat; rw [← Ny147.out] at ho; have n0_ := mk0 (Kd.R_after (ok := (fun _ => True)) zq44 hg hat); have n1_ := mk0 (IsS56.grown zq0 hg (IsS56.own_ne HI0.out HO_5.out zq45)); have n2_ := mk0 (below_weaken zq3 HL.out hb); have n3_ := mk0 (KeepBut.trans zq1 (KeepBut.of_grown hg g) (Kd.R_base2 HO_5.out)); have n4_ := mk0 (ho); clear HO_6 HI0 HB HK HO_5; have HO_6 := n0_; have HI0 := n1_; have HB := n2_; have HK := n3_; have HO149 := n4_; clear n0_ n1_ n2_ n3_ n4_; clear ho hb hg hat) | ((with_reducible refine gate_callee (f := 28) rfl ?_); refine goesL_ (some 43) rfl rfl Tryd.func28 zq23 rfl #[.pointer (some ⟨g, 0, none⟩)] rfl zq2 ?_; (with_reducible refine (spec_reader_blanks.calls kj10 g x1000_10 x1001_10 t150 t151 w0 _ ?side1 ?side2 A21.out).mono ?_); (case side1 => exact zq0); (case side2 => exact zq3); rintro e w70 ⟨rfl, hi, hb, hk⟩; refine ⟨_, rfl, ?_⟩; have n0_ := mk0 (Kd.R_mono (Kd.R_keep (IsS56.apart (show IsS56 w0 _ g x1000_10 x1001_10 from zq0) zq14 zq45) hk (fun _ h => h.2)) (fun _ h => h.1)); have n1_ := mk0 (Kd.R_mono (Kd.R_keep (IsS56.apart (show IsS56 w0 _ g x1000_10 x1001_10 from zq0) zq6 zq45) hk (fun _ h => h.2)) (fun _ h => h.1)); have n2_ := mk0 (KeepBut.trans zq1 hk (.inl rfl)); have n3_ := mk0 (hb); have n4_ := mk0 (hi); clear HO_6 HO149 HK HB HI0; have HO_6 := n0_; have HO149 := n1_; have HK := n2_; have HB := n3_; have HI0 := n4_; clear n0_ n1_ n2_ n3_ n4_; (try clear hb); (try clear hb2); (try clear hk); (try clear hi)) | ((with_reducible refine gate_callee (f := 67) rfl ?_); refine goesL_ (some 45) rfl rfl Tryd.func67 zq23 rfl #[.pointer (some ⟨g, 0, none⟩), .int .u8 58] rfl zq2 ?_; (with_reducible refine (spec_reader_take.calls g t150 t151 58 true t153 t154 w0 _ ?side1 ?side2 A22.out).mono ?_); (case side1 => exact zq0); (case side2 => exact zq3); rintro e w71 ⟨rfl, hi, hb, hk⟩; refine ⟨_, rfl, ?_⟩; have n0_ := mk0 (Kd.R_mono (Kd.R_keep (IsS56.apart (show IsS56 w0 _ g t150 t151 from zq0) zq14 zq45) hk (fun _ h => h.2)) (fun _ h => h.1)); have n1_ := mk0 (Kd.R_mono (Kd.R_keep (IsS56.apart (show IsS56 w0 _ g t150 t151 from zq0) zq6 zq45) hk (fun _ h => h.2)) (fun _ h => h.1)); have n2_ := mk0 (KeepBut.trans zq1 hk (.inl rfl)); have n3_ := mk0 (hb); have n4_ := mk0 (hi); clear HO_6 HO149 HK HB HI0; have HO_6 := n0_; have HO149 := n1_; have HK := n2_; have HB := n3_; have HI0 := n4_; clear n0_ n1_ n2_ n3_ n4_; (try clear hb); (try clear hb2); (try clear hk); (try clear hi)) | ((with_reducible refine gate_callee (f := 28) rfl ?_); refine goesL_ (some 48) rfl rfl Tryd.func28 zq23 rfl #[.pointer (some ⟨g, 0, none⟩)] rfl zq2 ?_; (with_reducible refine (spec_reader_blanks.calls kj10 g t153 t154 t155 t156 w0 _ ?side1 ?side2 A24.out).mono ?_); (case side1 => exact zq0); (case side2 => exact zq3); rintro e w72 ⟨rfl, hi, hb, hk⟩; refine ⟨_, rfl, ?_⟩; have n0_ := mk0 (Kd.R_mono (Kd.R_keep (IsS56.apart (show IsS56 w0 _ g t153 t154 from zq0) zq14 zq45) hk (fun _ h => h.2)) (fun _ h => h.1)); have n1_ := mk0 (Kd.R_mono (Kd.R_keep (IsS56.apart (show IsS56 w0 _ g t153 t154 from zq0) zq6 zq45) hk (fun _ h => h.2)) (fun _ h => h.1)); have n2_ := mk0 (KeepBut.trans zq1 hk (.inl rfl)); have n3_ := mk0 (hb); have n4_ := mk0 (hi); clear HO_6 HO149 HK HB HI0; have HO_6 := n0_; have HO149 := n1_; have HK := n2_; have HB := n3_; have HI0 := n4_; clear n0_ n1_ n2_ n3_ n4_; (try clear hb); (try clear hb2); (try clear hk); (try clear hi)) | ((with_reducible refine gate_callee (f := 29) rfl ?_); refine goesL_ (some 51) rfl rfl Tryd.func29 zq23 rfl #[.pointer (some ⟨g, 0, none⟩)] rfl zq2 ?_; (with_reducible refine (ih_29 kj10 (by have := HK1.out; have := HJ10.out; omega) g t155 t156 t157 t158 t159 t160 t163 true t167 t168 w0 _ ?side1 ?side2 A25.out).mono ?_); (case side1 => exact zq0); (case side2 => exact zq3); rintro e w73 ⟨v161, v164, rfl, ho0, ho1, hi, hb, hk⟩; refine ⟨_, rfl, ?_⟩; have n0_ := mk0 (Kd.R_mono (Kd.R_told (Kd.R_told (Kd.R_oldK (IsS56.apart (show IsS56 w0 _ g t155 t156 from zq0) zq14 zq45) hk) (Kd.R_base ho0)) (Kd.R_base ho1)) (fun _ h_ => h_.1)); have n1_ := mk0 (Kd.R_mono (Kd.R_told (Kd.R_oldK (IsS56.apart (show IsS56 w0 _ g t155 t156 from zq0) zq6 zq45) hk) (Kd.R_base ho0)) (fun _ h_ => h_.1)); have n2_ := mk0 (Kd.R_lower (Kd.R_new' ho0 (Kd.R_lt zq6)) (keep_size (w := w) (g := g) (row := none) zq1)); have n3_ := mk0 (Kd.R_lower (Kd.R_new' (Kd.R_new' ho1 (Kd.R_lt zq14)) (Kd.R_lt zq6)) (keep_size (w := w) (g := g) (row := none) zq1)); have n4_ := mk0 (KeepBut.trans zq1 hk (.inl rfl)); have n5_ := mk0 (hb); have n6_ := mk0 (hi); clear HO_6 HO149 HK HB HI0; have HO_6 := n0_; have HO149 := n1_; have HO162 := n2_; have HO165 := n3_; have HK := n4_; have HB := n5_; have HI0 := n6_; clear n0_ n1_ n2_ n3_ n4_ n5_ n6_; (try clear hb); (try clear hb2); (try clear hk); (try clear hi); (try clear ho0); (try clear ho1)) | ((with_reducible refine gate_dst (N := 8) rfl ?_); refine box_event ?hg (N := 8) ?hd (cs := #[.int .i64 0, .int .i64 0, .int .i64 0, .slice none 0 0, .slice none 0 0]) (t := 38) ?hr ?_; (case hd => rfl); (case hg => rfl); (case hr => exact zq30); intro gb169 hg w74 hbox hb; have n0_ := mk0 (Kd.R_below (Kd.R_elderB zq14 gb169 (Nat.le_of_eq hg.symm)) hb); have n1_ := mk0 (Kd.R_below zq6 hb); have n2_ := mk0 (Kd.R_below zq57 hb); have n3_ := mk0 (Kd.R_below (Kd.R_elderB zq58 gb169 (Nat.le_of_eq hg.symm)) hb); have n4_ := mk0 (IsS56.below zq0 hb); have n5_ := mk0 (KeepBut.trans zq1 (KeepBut.of_below hb g none) (.inl rfl)); have n6_ := mk0 (below_step zq3 hb); have n7_ := mk0 (hbox); have n8_ := mk0 ((zq27 : w.heap.size ≤ gb169)); have n9_ := mk0 ((Nat.le_trans HW0.out (zq27 : w.heap.size ≤ gb169) : w0.heap.size ≤ gb169)); have n10_ := mk0 ((by rw [hg]; exact Nat.ne_of_lt (IsS56.lt (show IsS56 w0 _ g t167 t168 from zq0)) : g ≠ gb169)); have n11_ := mk0 ((by rw [hg]; exact Nat.ne_of_gt (IsS56.lt (show IsS56 w0 _ g t167 t168 from zq0)) : gb169 ≠ g)); clear HO_6 HO149 HO162 HO165 HI0 HK HB; have HO_6 := n0_; have HO149 := n1_; have HO162 := n2_; have HO165 := n3_; have HI0 := n4_; have HK := n5_; have HB := n6_; have BK169 := n7_; have GW169 := n8_; have GE169 := n9_; have NB0_169 := n10_; have NB169_0 := n11_; clear n0_ n1_ n2_ n3_ n4_ n5_ n6_ n7_ n8_ n9_ n10_ n11_; clear hb hbox hg; have hnb75 := NB169_0.out; have hnc75 := NB0_169.out; have hcz76_0 : w74.cell? ⟨gb169, 0, none⟩ = some (.int .i64 0) := (blk_cell BK169.out 0).trans rfl; have hcz76_1 : w74.cell? ⟨gb169, 1, none⟩ = some (.int .i64 0) := (blk_cell BK169.out 1).trans rfl; have hcz76_2 : w74.cell? ⟨gb169, 2, none⟩ = some (.int .i64 0) := (blk_cell BK169.out 2).trans rfl; have hcz76_3 : w74.cell? ⟨gb169, 3, none⟩ = some (.slice none 0 0) := (blk_cell BK169.out 3).trans rfl; have hcz76_4 : w74.cell? ⟨gb169, 4, none⟩ = some (.slice none 0 0) := (blk_cell BK169.out 4).trans rfl; have hfz76_0 := blk_frozen BK169.out 0; have hfz76_1 := blk_frozen BK169.out 1; have hfz76_2 := blk_frozen BK169.out 2; have hfz76_3 := blk_frozen BK169.out 3; have hfz76_4 := blk_frozen BK169.out 4; obtain ⟨Ao77, co77, eo77⟩ := Kd.R_slice HO162.out; subst eo77; obtain ⟨Ao78, co78, eo78⟩ := Kd.R_slice HO165.out; subst eo78) | ((with_reducible refine gate_store (t := 38) (p := 8) rfl ?_); refine store_event (t := 38) (p := 8) (v := ?vo_w79) (w1 := (((((w74.setCell ⟨gb169, 0, none⟩ (.int .i64 t157)).setCell ⟨gb169, 1, none⟩ (.int .i64 t158)).setCell ⟨gb169, 2, none⟩ (.int .i64 t159)).setCell ⟨gb169, 3, none⟩ (.slice Ao77 t160.length co77)).setCell ⟨gb169, 4, none⟩ (.slice Ao78 t163.length co78))) ?hg ?ho ?hn ?hr ?_; (case ho => rfl); (case hg => rfl); (case hn => rfl); (case hr => exact zq30); intro w79 hw; have n0_ : Aside0 (Kd.R k38 38 w79 w.heap.size (fun k_ => some k_ ≠ (v148 : Value).ownBlock ∧ some k_ ≠ (.slice Ao77 t160.length co77 : Value).ownBlock ∧ some k_ ≠ (.slice Ao78 t163.length co78 : Value).ownBlock ∧ k_ ≠ gb169) u6 x6_1) := ⟨(by rw [hw]; exact (by (with_reducible repeat (first | apply Kd.R_alloc | apply Kd.R_drewN | apply Kd.R_drew)); exact Kd.R_mono (Kd.R_far (p := ⟨gb169, 4, none⟩) (Kd.R_far (p := ⟨gb169, 3, none⟩) (Kd.R_far (p := ⟨gb169, 2, none⟩) (Kd.R_far (p := ⟨gb169, 1, none⟩) (Kd.R_far (p := ⟨gb169, 0, none⟩) (Kd.R_mono HO_6.out (fun k_ hk => (⟨hk, hk.2⟩ : _ ∧ k_ ≠ gb169))) (fun _ hk => hk.2) (.int .i64 t157)) (fun _ hk => hk.2) (.int .i64 t158)) (fun _ hk => hk.2) (.int .i64 t159)) (fun _ hk => hk.2) (.slice Ao77 t160.length co77)) (fun _ hk => hk.2) (.slice Ao78 t163.length co78)) (fun _ hk => ⟨hk.1.1.1.1.2, ⟨hk.1.1.1.2, ⟨hk.1.1.2, hk.1.2⟩⟩⟩)))⟩; have n1_ : Aside0 (Kd.R k104 104 w79 w.heap.size (fun k_ => some k_ ≠ (.slice Ao77 t160.length co77 : Value).ownBlock) v148 y147) := ⟨(by rw [hw]; exact (by (with_reducible repeat (first | apply Kd.R_alloc | apply Kd.R_drewN | apply Kd.R_drew)); exact Kd.R_mono (Kd.R_far (p := ⟨gb169, 4, none⟩) (Kd.R_far (p := ⟨gb169, 3, none⟩) (Kd.R_far (p := ⟨gb169, 2, none⟩) (Kd.R_far (p := ⟨gb169, 1, none⟩) (Kd.R_far (p := ⟨gb169, 0, none⟩) (Kd.R_types HO149.out BK169.out zq45) (fun _ hk => hk.2) (.int .i64 t157)) (fun _ hk => hk.2) (.int .i64 t158)) (fun _ hk => hk.2) (.int .i64 t159)) (fun _ hk => hk.2) (.slice Ao77 t160.length co77)) (fun _ hk => hk.2) (.slice Ao78 t163.length co78)) (fun _ hk => hk.1.2)))⟩; have n2_ : Aside0 (Kd.R k104 104 w79 w.heap.size (fun k_ => some k_ ≠ (v148 : Value).ownBlock) (.slice Ao77 t160.length co77) t160) := ⟨(by rw [hw]; exact (by (with_reducible repeat (first | apply Kd.R_alloc | apply Kd.R_drewN | apply Kd.R_drew)); exact Kd.R_mono (Kd.R_far (p := ⟨gb169, 4, none⟩) (Kd.R_far (p := ⟨gb169, 3, none⟩) (Kd.R_far (p := ⟨gb169, 2, none⟩) (Kd.R_far (p := ⟨gb169, 1, none⟩) (Kd.R_far (p := ⟨gb169, 0, none⟩) (Kd.R_types HO162.out BK169.out zq45) (fun _ hk => hk.2) (.int .i64 t157)) (fun _ hk => hk.2) (.int .i64 t158)) (fun _ hk => hk.2) (.int .i64 t159)) (fun _ hk => hk.2) (.slice Ao77 t160.length co77)) (fun _ hk => hk.2) (.slice Ao78 t163.length co78)) (fun _ hk => hk.1.2)))⟩; have n3_ : Aside0 (Kd.R k38 38 w79 w.heap.size (fun k_ => some k_ ≠ (u6 : Value).ownBlock ∧ some k_ ≠ (v148 : Value).ownBlock ∧ some k_ ≠ (.slice Ao77 t160.length co77 : Value).ownBlock ∧ k_ ≠ gb169) (.slice Ao78 t163.length co78) t163) := ⟨(by rw [hw]; exact (by (with_reducible repeat (first | apply Kd.R_alloc | apply Kd.R_drewN | apply Kd.R_drew)); exact Kd.R_mono (Kd.R_far (p := ⟨gb169, 4, none⟩) (Kd.R_far (p := ⟨gb169, 3, none⟩) (Kd.R_far (p := ⟨gb169, 2, none⟩) (Kd.R_far (p := ⟨gb169, 1, none⟩) (Kd.R_far (p := ⟨gb169, 0, none⟩) (Kd.R_mono HO165.out (fun k_ hk => (⟨hk, hk.2⟩ : _ ∧ k_ ≠ gb169))) (fun _ hk => hk.2) (.int .i64 t157)) (fun _ hk => hk.2) (.int .i64 t158)) (fun _ hk => hk.2) (.int .i64 t159)) (fun _ hk => hk.2) (.slice Ao77 t160.length co77)) (fun _ hk => hk.2) (.slice Ao78 t163.length co78)) (fun _ hk => ⟨hk.1.1.1.2, ⟨hk.1.1.2, ⟨hk.1.1.1.1, hk.1.2⟩⟩⟩)))⟩; have n4_ : Aside0 (w79.heap[gb169]? = some (.cells #[.int .i64 t157, .int .i64 t158, .int .i64 t159, .slice Ao77 t160.length co77, .slice Ao78 t163.length co78] 38 (0, 0))) := ⟨(by rw [hw]; exact (by (with_reducible repeat (first | refine blk_drewN ?_ _ | refine blk_drew ?_ | refine blk_alloc ?_ _)); refine blk_put (cs := #[.int .i64 t157, .int .i64 t158, .int .i64 t159, .slice Ao77 t160.length co77, .slice none 0 0]) ?_ 4 _ rfl; (with_reducible repeat (first | refine blk_drewN ?_ _ | refine blk_drew ?_ | refine blk_alloc ?_ _)); refine blk_put (cs := #[.int .i64 t157, .int .i64 t158, .int .i64 t159, .slice none 0 0, .slice none 0 0]) ?_ 3 _ rfl; (with_reducible repeat (first | refine blk_drewN ?_ _ | refine blk_drew ?_ | refine blk_alloc ?_ _)); refine blk_put (cs := #[.int .i64 t157, .int .i64 t158, .int .i64 0, .slice none 0 0, .slice none 0 0]) ?_ 2 _ rfl; (with_reducible repeat (first | refine blk_drewN ?_ _ | refine blk_drew ?_ | refine blk_alloc ?_ _)); refine blk_put (cs := #[.int .i64 t157, .int .i64 0, .int .i64 0, .slice none 0 0, .slice none 0 0]) ?_ 1 _ rfl; (with_reducible repeat (first | refine blk_drewN ?_ _ | refine blk_drew ?_ | refine blk_alloc ?_ _)); refine blk_put (cs := #[.int .i64 0, .int .i64 0, .int .i64 0, .slice none 0 0, .slice none 0 0]) ?_ 0 _ rfl; (with_reducible repeat (first | refine blk_drewN ?_ _ | refine blk_drew ?_ | refine blk_alloc ?_ _)); exact BK169.out))⟩; have n5_ : Aside0 (IsS56 w0 w79 g t167 t168) := ⟨(by rw [hw]; exact zq4)⟩; have n6_ : Aside0 (KeepBut w w79 g none) := ⟨(by rw [hw]; exact zq15)⟩; have n7_ : Aside0 (Below w0.heap.size w0 w79) := ⟨(by rw [hw]; exact zq17)⟩; clear hw HO_6 HO149 HO162 HO165 BK169 HI0 HK HB; have HO_6 := n0_; have HO149 := n1_; have HO162 := n2_; have HO165 := n3_; have BK169 := n4_; have HI0 := n5_; have HK := n6_; have HB := n7_; clear n0_ n1_ n2_ n3_ n4_ n5_ n6_ n7_; have hcz80_0 : w79.cell? ⟨gb169, 0, none⟩ = some (.int .i64 t157) := (blk_cell BK169.out 0).trans rfl; have hcz80_1 : w79.cell? ⟨gb169, 1, none⟩ = some (.int .i64 t158) := (blk_cell BK169.out 1).trans rfl; have hcz80_2 : w79.cell? ⟨gb169, 2, none⟩ = some (.int .i64 t159) := (blk_cell BK169.out 2).trans rfl; have hcz80_3 : w79.cell? ⟨gb169, 3, none⟩ = some (.slice Ao77 t160.length co77) := (blk_cell BK169.out 3).trans rfl; have hcz80_4 : w79.cell? ⟨gb169, 4, none⟩ = some (.slice Ao78 t163.length co78) := (blk_cell BK169.out 4).trans rfl; have hfz80_0 := blk_frozen BK169.out 0; have hfz80_1 := blk_frozen BK169.out 1; have hfz80_2 := blk_frozen BK169.out 2; have hfz80_3 := blk_frozen BK169.out 3; have hfz80_4 := blk_frozen BK169.out 4) | ((with_reducible refine gate_builtin (b := .append) (xs := #[.tmp 56, .tmp 58]) rfl ?_); at_builtin; refine Kd.R_append k38 w.heap.size rfl (.tmp 56) (.tmp 58) 36 38 (.agg #[(.int .i64 0), (.int .i64 0), (.int .i64 0), (.slice none 0 0), (.slice none 0 0)]) 72 rfl Tryd.underlying36 info38 rfl zq45 (by omega) u6 x6_1 (⟨t157, t158, t159, t160, t163⟩ : S38) [.int .i64 t157, .int .i64 t158, .int .i64 t159, .slice Ao77 t160.length co77, .slice Ao78 t163.length co78] (fun k_ => some k_ ≠ (v148 : Value).ownBlock ∧ k_ ≠ gb169) (fun k_ => ((fun k_ => some k_ ≠ (v148 : Value).ownBlock ∧ k_ ≠ gb169)) k_ ∧ some k_ ≠ (u6 : Value).ownBlock) rfl rfl ?aP (fun _ hk => hk) ?aF ?aO (Below.refl _ _) ?aS ?aL ?_; (case aP => exact k38_mkM _ _ _ (⟨t157, t158, t159, t160, t163⟩ : S38) (Kd.R_mono (Kd.R_types (Kd.R_apart' (HO162.out) (Kd.R_typed HO_6.out) zq45) BK169.out zq45) (fun k_ hk => ⟨⟨hk.1.1, hk.2⟩, hk.1.2⟩)) (Kd.R_mono (HO165.out) (fun k_ hk => ⟨⟨hk.2.1, hk.2.2.2⟩, hk.1⟩))); (case aF => exact (fun k_ hk => ⟨Kd.fresh' (Kd.R_lt zq6) k_ hk, Kd.freshB (g := gb169) (o := .cells #[.int .i64 t157, .int .i64 t158, .int .i64 t159, .slice Ao77 t160.length co77, .slice Ao78 t163.length co78] 38 (0, 0)) zq25 k_ hk⟩)); (case aO => exact zq61); (case aS => exact (keep_size (w := w) (g := g) (row := none) zq15)); (case aL => have := LMc27.out; omega); intro v171 w81 ho hb hg hat; rw [← Ny170.out] at ho; have n0_ := mk0 (IsS56.grown zq4 hg (IsS56.own_ne HI0.out HO_6.out zq45)); have n1_ := mk0 (Kd.R_over' zq6 (Kd.R_typed zq14) zq45 hg); have n2_ := mk0 (blk_grown (g := gb169) (o := .cells #[.int .i64 t157, .int .i64 t158, .int .i64 t159, .slice Ao77 t160.length co77, .slice Ao78 t163.length co78] 38 (0, 0)) zq25 hg (Kd.R_away HO_6.out (fun _ hk => hk.2.2.2))); have n3_ := mk0 (below_weaken zq17 HL.out hb); have n4_ := mk0 (KeepBut.trans zq15 (KeepBut.of_grown hg g) (Kd.R_base2 HO_6.out)); have n5_ := mk0 (ho); clear HI0 HO149 BK169 HB HK HO_6 HO162 HO165; have HI0 := n0_; have HO149 := n1_; have BK169 := n2_; have HB := n3_; have HK := n4_; have HO172 := n5_; clear n0_ n1_ n2_ n3_ n4_ n5_; clear ho hb hg hat) | ((with_reducible refine gate_callee (f := 28) rfl ?_); refine goesL_ (some 61) rfl rfl Tryd.func28 zq23 rfl #[.pointer (some ⟨g, 0, none⟩)] rfl zq2 ?_; (with_reducible refine (spec_reader_blanks.calls kj10 g t167 t168 t173 t174 w0 _ ?side1 ?side2 A28.out).mono ?_); (case side1 => exact zq4); (case side2 => exact zq17); rintro e w82 ⟨rfl, hi, hb, hk⟩; refine ⟨_, rfl, ?_⟩; have n0_ := mk0 (Kd.R_mono (Kd.R_keep (IsS56.apart (show IsS56 w0 _ g t167 t168 from zq4) zq6 zq45) hk (fun _ h => h.2)) (fun _ h => h.1)); have n1_ := mk0 (KeepBut.blk hk (g' := gb169) (o := .cells #[.int .i64 t157, .int .i64 t158, .int .i64 t159, .slice Ao77 t160.length co77, .slice Ao78 t163.length co78] 38 (0, 0)) zq25 NB169_0.out (by simp)); have n2_ := mk0 (Kd.R_mono (Kd.R_keep (IsS56.apart (show IsS56 w0 _ g t167 t168 from zq4) zq33 zq45) hk (fun _ h => h.2)) (fun _ h => h.1)); have n3_ := mk0 (KeepBut.trans zq15 hk (.inl rfl)); have n4_ := mk0 (hb); have n5_ := mk0 (hi); clear HO149 BK169 HO172 HK HB HI0; have HO149 := n0_; have BK169 := n1_; have HO172 := n2_; have HK := n3_; have HB := n4_; have HI0 := n5_; clear n0_ n1_ n2_ n3_ n4_ n5_; (try clear hb); (try clear hb2); (try clear hk); (try clear hi)) | ((with_reducible refine gate_callee (f := 67) rfl ?_); refine goesL_ (some 63) rfl rfl Tryd.func67 zq23 rfl #[.pointer (some ⟨g, 0, none⟩), .int .u8 125] rfl zq2 ?_; (with_reducible refine (spec_reader_take.calls g t173 t174 125 false t176 t177 w0 _ ?side1 ?side2 A29.out).mono ?_); (case side1 => exact zq4); (case side2 => exact zq17); rintro e w83 ⟨rfl, hi, hb, hk⟩; refine ⟨_, rfl, ?_⟩; have n0_ := mk0 (Kd.R_mono (Kd.R_keep (IsS56.apart (show IsS56 w0 _ g t173 t174 from zq4) zq6 zq45) hk (fun _ h => h.2)) (fun _ h => h.1)); have n1_ := mk0 (KeepBut.blk hk (g' := gb169) (o := .cells #[.int .i64 t157, .int .i64 t158, .int .i64 t159, .slice Ao77 t160.length co77, .slice Ao78 t163.length co78] 38 (0, 0)) zq25 NB169_0.out (by simp)); have n2_ := mk0 (Kd.R_mono (Kd.R_keep (IsS56.apart (show IsS56 w0 _ g t173 t174 from zq4) zq33 zq45) hk (fun _ h => h.2)) (fun _ h => h.1)); have n3_ := mk0 (KeepBut.trans zq15 hk (.inl rfl)); have n4_ := mk0 (hb); have n5_ := mk0 (hi); clear HO149 BK169 HO172 HK HB HI0; have HO149 := n0_; have BK169 := n1_; have HO172 := n2_; have HK := n3_; have HB := n4_; have HI0 := n5_; clear n0_ n1_ n2_ n3_ n4_ n5_; (try clear hb); (try clear hb2); (try clear hk); (try clear hi)) | ((with_reducible refine gate_callee (f := 67) rfl ?_); refine goesL_ (some 67) rfl rfl Tryd.func67 zq23 rfl #[.pointer (some ⟨g, 0, none⟩), .int .u8 44] rfl zq2 ?_; (with_reducible refine (spec_reader_take.calls g t176 t177 44 false t179 t180 w0 _ ?side1 ?side2 A47.out).mono ?_); (case side1 => exact zq4); (case side2 => exact zq17); rintro e w84 ⟨rfl, hi, hb, hk⟩; refine ⟨_, rfl, ?_⟩; have n0_ := mk0 (Kd.R_mono (Kd.R_keep (IsS56.apart (show IsS56 w0 _ g t176 t177 from zq4) zq6 zq45) hk (fun _ h => h.2)) (fun _ h => h.1)); have n1_ := mk0 (KeepBut.blk hk (g' := gb169) (o := .cells #[.int .i64 t157, .int .i64 t158, .int .i64 t159, .slice Ao77 t160.length co77, .slice Ao78 t163.length co78] 38 (0, 0)) zq25 NB169_0.out (by simp)); have n2_ := mk0 (Kd.R_mono (Kd.R_keep (IsS56.apart (show IsS56 w0 _ g t176 t177 from zq4) zq33 zq45) hk (fun _ h => h.2)) (fun _ h => h.1)); have n3_ := mk0 (KeepBut.trans zq15 hk (.inl rfl)); have n4_ := mk0 (hb); have n5_ := mk0 (hi); clear HO149 BK169 HO172 HK HB HI0; have HO149 := n0_; have BK169 := n1_; have HO172 := n2_; have HK := n3_; have HB := n4_; have HI0 := n5_; clear n0_ n1_ n2_ n3_ n4_ n5_; (try clear hb); (try clear hb2); (try clear hk); (try clear hi)))
      go_ret3
      exact ⟨_, _, by first | rfl | (simp [errW_none, errW_some] <;> rfl) | (simp [*, errW_none, errW_some] <;> rfl), by first | exact Kd.R_nil _ _ _ _ _ | exact Kd.N_nil _ _ _ _ _ | exact Kd.V_nil _ _ _ _ _ | exact Kd.Q_nil _ _ _ _ _ | exact Kd.S_nil _ _ _ _ _, by first | exact Kd.R_nil _ _ _ _ _ | exact Kd.N_nil _ _ _ _ _ | exact Kd.V_nil _ _ _ _ _ | exact Kd.Q_nil _ _ _ _ _ | exact Kd.S_nil _ _ _ _ _, by repeat (first | (with_reducible first | exact HI0.out | apply IsS56.alloc | apply IsS56.drewN | apply IsS56.drew | apply IsS56.set_0 | apply IsS56.set_1 | refine IsS56.far ?_ NB0_169.out _) | exact HI0.out), by repeat (first | (with_reducible first | exact HB.out | apply below_alloc | apply pw_below_drewN | apply below_drew1 | refine below_set ?_ (IsS56.ge HI0.out) | refine below_set ?_ GE169.out) | exact HB.out), by repeat (first | (with_reducible first | exact HK.out | apply KeepBut.set_ | apply keep_drewN | apply keep_drew | apply keep_alloc | refine keep_far ?_ GW169.out _) | exact HK.out)⟩
     subst c48
     have H1 : ((spec_reader_blanks.f kj10 t179 t180).bind fun bt181 => (spec_reader_members.l0 kj10 y147 y170 bt181.1 bt181.2)) = some (r1, r2, r3, r4, r5) := by rw [if_pos rfl] at H; exact H
     clear H
     have H := H1
     clear H1
     replace H := Option.bind_eq_some_iff.mp H
     obtain ⟨⟨t181, t182⟩, A490, H⟩ := H
     replace H : (spec_reader_members.l0 kj10 y147 y170 t181 t182) = some (r1, r2, r3, r4, r5) := H
     have A49 := mk0 A490
     clear A490
     have H' := mk0 H
     clear H
     obtain ⟨HGz50, hgz50⟩ := HI0.out
     have hcz50_0 := cellS56_0 HGz50
     have hcz50_1 := cellS56_1 HGz50
     have hfz50_0 := blk_frozen HGz50 0
     have hfz50_1 := blk_frozen HGz50 1
     clear HGz50 hgz50
     go_wp2_with (first | ((with_reducible refine gate_builtin (b := .append) (xs := #[.tmp 33, .tmp 40]) rfl ?_); at_builtin; refine Kd.R_append k104 w.heap.size rfl (.tmp 33) (.tmp 40) 35 104 (.agg #[(.int .i64 0), (.int .i64 0)]) 16 rfl Tryd.underlying35 info104 rfl zq45 (by omega) u5 x5_1 (⟨x1001_1, x1001_10⟩ : S104) [.int .i64 x1001_1, .int .i64 x1001_10] (fun _ => True) (fun _ => False) rfl rfl ?aP (fun _ hk => hk.elim) ?aF ?aO (Below.refl _ _) ?aS ?aL ?_; (case aP => exact k104_mkM _ _ _ (⟨x1001_1, x1001_10⟩ : S104)); (case aF => exact (fun _ _ => trivial)); (case aO => exact zq36); (case aS => exact (keep_size (w := w) (g := g) (row := none) zq1)); (case aL => have := LMc20.out; omega); intro v148 w51 ho hb hg hat; rw [← Ny147.out] at ho; have n0_ := mk0 (Kd.R_after (ok := (fun _ => True)) zq44 hg hat); have n1_ := mk0 (IsS56.grown zq0 hg (IsS56.own_ne HI0.out HO_5.out zq45)); have n2_ := mk0 (below_weaken zq3 HL.out hb); have n3_ := mk0 (KeepBut.trans zq1 (KeepBut.of_grown hg g) (Kd.R_base2 HO_5.out)); have n4_ := mk0 (ho); clear HO_6 HI0 HB HK HO_5; have HO_6 := n0_; have HI0 := n1_; have HB := n2_; have HK := n3_; have HO149 := n4_; clear n0_ n1_ n2_ n3_ n4_; clear ho hb hg hat) | ((with_reducible refine gate_callee (f := 28) rfl ?_); refine goesL_ (some 43) rfl rfl Tryd.func28 zq23 rfl #[.pointer (some ⟨g, 0, none⟩)] rfl zq2 ?_; (with_reducible refine (spec_reader_blanks.calls kj10 g x1000_10 x1001_10 t150 t151 w0 _ ?side1 ?side2 A21.out).mono ?_); (case side1 => exact zq0); (case side2 => exact zq3); rintro e w52 ⟨rfl, hi, hb, hk⟩; refine ⟨_, rfl, ?_⟩; have n0_ := mk0 (Kd.R_mono (Kd.R_keep (IsS56.apart (show IsS56 w0 _ g x1000_10 x1001_10 from zq0) zq14 zq45) hk (fun _ h => h.2)) (fun _ h => h.1)); have n1_ := mk0 (Kd.R_mono (Kd.R_keep (IsS56.apart (show IsS56 w0 _ g x1000_10 x1001_10 from zq0) zq6 zq45) hk (fun _ h => h.2)) (fun _ h => h.1)); have n2_ := mk0 (KeepBut.trans zq1 hk (.inl rfl)); have n3_ := mk0 (hb); have n4_ := mk0 (hi); clear HO_6 HO149 HK HB HI0; have HO_6 := n0_; have HO149 := n1_; have HK := n2_; have HB := n3_; have HI0 := n4_; clear n0_ n1_ n2_ n3_ n4_; (try clear hb); (try clear hb2); (try clear hk); (try clear hi)) | ((with_reducible refine gate_callee (f := 67) rfl ?_); refine goesL_ (some 45) rfl rfl Tryd.func67 zq23 rfl #[.pointer (some ⟨g, 0, none⟩), .int .u8 58] rfl zq2 ?_; (with_reducible refine (spec_reader_take.calls g t150 t151 58 true t153 t154 w0 _ ?side1 ?side2 A22.out).mono ?_); (case side1 => exact zq0); (case side2 => exact zq3); rintro e w53 ⟨rfl, hi, hb, hk⟩; refine ⟨_, rfl, ?_⟩; have n0_ := mk0 (Kd.R_mono (Kd.R_keep (IsS56.apart (show IsS56 w0 _ g t150 t151 from zq0) zq14 zq45) hk (fun _ h => h.2)) (fun _ h => h.1)); have n1_ := mk0 (Kd.R_mono (Kd.R_keep (IsS56.apart (show IsS56 w0 _ g t150 t151 from zq0) zq6 zq45) hk (fun _ h => h.2)) (fun _ h => h.1)); have n2_ := mk0 (KeepBut.trans zq1 hk (.inl rfl)); have n3_ := mk0 (hb); have n4_ := mk0 (hi); clear HO_6 HO149 HK HB HI0; have HO_6 := n0_; have HO149 := n1_; have HK := n2_; have HB := n3_; have HI0 := n4_; clear n0_ n1_ n2_ n3_ n4_; (try clear hb); (try clear hb2); (try clear hk); (try clear hi)) | ((with_reducible refine gate_callee (f := 28) rfl ?_); refine goesL_ (some 48) rfl rfl Tryd.func28 zq23 rfl #[.pointer (some ⟨g, 0, none⟩)] rfl zq2 ?_; (with_reducible refine (spec_reader_blanks.calls kj10 g t153 t154 t155 t156 w0 _ ?side1 ?side2 A24.out).mono ?_); (case side1 => exact zq0); (case side2 => exact zq3); rintro e w54 ⟨rfl, hi, hb, hk⟩; refine ⟨_, rfl, ?_⟩; have n0_ := mk0 (Kd.R_mono (Kd.R_keep (IsS56.apart (show IsS56 w0 _ g t153 t154 from zq0) zq14 zq45) hk (fun _ h => h.2)) (fun _ h => h.1)); have n1_ := mk0 (Kd.R_mono (Kd.R_keep (IsS56.apart (show IsS56 w0 _ g t153 t154 from zq0) zq6 zq45) hk (fun _ h => h.2)) (fun _ h => h.1)); have n2_ := mk0 (KeepBut.trans zq1 hk (.inl rfl)); have n3_ := mk0 (hb); have n4_ := mk0 (hi); clear HO_6 HO149 HK HB HI0; have HO_6 := n0_; have HO149 := n1_; have HK := n2_; have HB := n3_; have HI0 := n4_; clear n0_ n1_ n2_ n3_ n4_; (try clear hb); (try clear hb2); (try clear hk); (try clear hi)) | ((with_reducible refine gate_callee (f := 29) rfl ?_); refine goesL_ (some 51) rfl rfl Tryd.func29 zq23 rfl #[.pointer (some ⟨g, 0, none⟩)] rfl zq2 ?_; (with_reducible refine (ih_29 kj10 (by have := HK1.out; have := HJ10.out; omega) g t155 t156 t157 t158 t159 t160 t163 true t167 t168 w0 _ ?side1 ?side2 A25.out).mono ?_); (case side1 => exact zq0); (case side2 => exact zq3); rintro e w55 ⟨v161, v164, rfl, ho0, ho1, hi, hb, hk⟩; refine ⟨_, rfl, ?_⟩; have n0_ := mk0 (Kd.R_mono (Kd.R_told (Kd.R_told (Kd.R_oldK (IsS56.apart (show IsS56 w0 _ g t155 t156 from zq0) zq14 zq45) hk) (Kd.R_base ho0)) (Kd.R_base ho1)) (fun _ h_ => h_.1)); have n1_ := mk0 (Kd.R_mono (Kd.R_told (Kd.R_oldK (IsS56.apart (show IsS56 w0 _ g t155 t156 from zq0) zq6 zq45) hk) (Kd.R_base ho0)) (fun _ h_ => h_.1)); have n2_ := mk0 (Kd.R_lower (Kd.R_new' ho0 (Kd.R_lt zq6)) (keep_size (w := w) (g := g) (row := none) zq1)); have n3_ := mk0 (Kd.R_lower (Kd.R_new' (Kd.R_new' ho1 (Kd.R_lt zq14)) (Kd.R_lt zq6)) (keep_size (w := w) (g := g) (row := none) zq1)); have n4_ := mk0 (KeepBut.trans zq1 hk (.inl rfl)); have n5_ := mk0 (hb); have n6_ := mk0 (hi); clear HO_6 HO149 HK HB HI0; have HO_6 := n0_; have HO149 := n1_; have HO162 := n2_; have HO165 := n3_; have HK := n4_; have HB := n5_; have HI0 := n6_; clear n0_ n1_ n2_ n3_ n4_ n5_ n6_; (try clear hb); (try clear hb2); (try clear hk); (try clear hi); (try clear ho0); (try clear ho1)) | ((with_reducible refine gate_dst (N := 8) rfl ?_); refine box_event ?hg (N := 8) ?hd (cs := #[.int .i64 0, .int .i64 0, .int .i64 0, .slice none 0 0, .slice none 0 0]) (t := 38) ?hr ?_; (case hd => rfl); (case hg => rfl); (case hr => exact zq30); intro gb169 hg w56 hbox hb; have n0_ := mk0 (Kd.R_below (Kd.R_elderB zq14 gb169 (Nat.le_of_eq hg.symm)) hb); have n1_ := mk0 (Kd.R_below zq6 hb); have n2_ := mk0 (Kd.R_below zq57 hb); have n3_ := mk0 (Kd.R_below (Kd.R_elderB zq58 gb169 (Nat.le_of_eq hg.symm)) hb); have n4_ := mk0 (IsS56.below zq0 hb); have n5_ := mk0 (KeepBut.trans zq1 (KeepBut.of_below hb g none) (.inl rfl)); have n6_ := mk0 (below_step zq3 hb); have n7_ := mk0 (hbox); have n8_ := mk0 ((zq27 : w.heap.size ≤ gb169)); have n9_ := mk0 ((Nat.le_trans HW0.out (zq27 : w.heap.size ≤ gb169) : w0.heap.size ≤ gb169)); have n10_ := mk0 ((by rw [hg]; exact Nat.ne_of_lt (IsS56.lt (show IsS56 w0 _ g t167 t168 from zq0)) : g ≠ gb169)); have n11_ := mk0 ((by rw [hg]; exact Nat.ne_of_gt (IsS56.lt (show IsS56 w0 _ g t167 t168 from zq0)) : gb169 ≠ g)); clear HO_6 HO149 HO162 HO165 HI0 HK HB; have HO_6 := n0_; have HO149 := n1_; have HO162 := n2_; have HO165 := n3_; have HI0 := n4_; have HK := n5_; have HB := n6_; have BK169 := n7_; have GW169 := n8_; have GE169 := n9_; have NB0_169 := n10_; have NB169_0 := n11_; clear n0_ n1_ n2_ n3_ n4_ n5_ n6_ n7_ n8_ n9_ n10_ n11_; clear hb hbox hg; have hnb57 := NB169_0.out; have hnc57 := NB0_169.out; have hcz58_0 : w56.cell? ⟨gb169, 0, none⟩ = some (.int .i64 0) := (blk_cell BK169.out 0).trans rfl; have hcz58_1 : w56.cell? ⟨gb169, 1, none⟩ = some (.int .i64 0) := (blk_cell BK169.out 1).trans rfl; have hcz58_2 : w56.cell? ⟨gb169, 2, none⟩ = some (.int .i64 0) := (blk_cell BK169.out 2).trans rfl; have hcz58_3 : w56.cell? ⟨gb169, 3, none⟩ = some (.slice none 0 0) := (blk_cell BK169.out 3).trans rfl; have hcz58_4 : w56.cell? ⟨gb169, 4, none⟩ = some (.slice none 0 0) := (blk_cell BK169.out 4).trans rfl; have hfz58_0 := blk_frozen BK169.out 0; have hfz58_1 := blk_frozen BK169.out 1; have hfz58_2 := blk_frozen BK169.out 2; have hfz58_3 := blk_frozen BK169.out 3; have hfz58_4 := blk_frozen BK169.out 4; obtain ⟨Ao59, co59, eo59⟩ := Kd.R_slice HO162.out; subst eo59; obtain ⟨Ao60, co60, eo60⟩ := Kd.R_slice HO165.out; subst eo60) | ((with_reducible refine gate_store (t := 38) (p := 8) rfl ?_); refine store_event (t := 38) (p := 8) (v := ?vo_w61) (w1 := (((((w56.setCell ⟨gb169, 0, none⟩ (.int .i64 t157)).setCell ⟨gb169, 1, none⟩ (.int .i64 t158)).setCell ⟨gb169, 2, none⟩ (.int .i64 t159)).setCell ⟨gb169, 3, none⟩ (.slice Ao59 t160.length co59)).setCell ⟨gb169, 4, none⟩ (.slice Ao60 t163.length co60))) ?hg ?ho ?hn ?hr ?_; (case ho => rfl); (case hg => rfl); (case hn => rfl); (case hr => exact zq30); intro w61 hw; have n0_ : Aside0 (Kd.R k38 38 w61 w.heap.size (fun k_ => some k_ ≠ (v148 : Value).ownBlock ∧ some k_ ≠ (.slice Ao59 t160.length co59 : Value).ownBlock ∧ some k_ ≠ (.slice Ao60 t163.length co60 : Value).ownBlock ∧ k_ ≠ gb169) u6 x6_1) := ⟨(by rw [hw]; exact (by (with_reducible repeat (first | apply Kd.R_alloc | apply Kd.R_drewN | apply Kd.R_drew)); exact Kd.R_mono (Kd.R_far (p := ⟨gb169, 4, none⟩) (Kd.R_far (p := ⟨gb169, 3, none⟩) (Kd.R_far (p := ⟨gb169, 2, none⟩) (Kd.R_far (p := ⟨gb169, 1, none⟩) (Kd.R_far (p := ⟨gb169, 0, none⟩) (Kd.R_mono HO_6.out (fun k_ hk => (⟨hk, hk.2⟩ : _ ∧ k_ ≠ gb169))) (fun _ hk => hk.2) (.int .i64 t157)) (fun _ hk => hk.2) (.int .i64 t158)) (fun _ hk => hk.2) (.int .i64 t159)) (fun _ hk => hk.2) (.slice Ao59 t160.length co59)) (fun _ hk => hk.2) (.slice Ao60 t163.length co60)) (fun _ hk => ⟨hk.1.1.1.1.2, ⟨hk.1.1.1.2, ⟨hk.1.1.2, hk.1.2⟩⟩⟩)))⟩; have n1_ : Aside0 (Kd.R k104 104 w61 w.heap.size (fun k_ => some k_ ≠ (.slice Ao59 t160.length co59 : Value).ownBlock) v148 y147) := ⟨(by rw [hw]; exact (by (with_reducible repeat (first | apply Kd.R_alloc | apply Kd.R_drewN | apply Kd.R_drew)); exact Kd.R_mono (Kd.R_far (p := ⟨gb169, 4, none⟩) (Kd.R_far (p := ⟨gb169, 3, none⟩) (Kd.R_far (p := ⟨gb169, 2, none⟩) (Kd.R_far (p := ⟨gb169, 1, none⟩) (Kd.R_far (p := ⟨gb169, 0, none⟩) (Kd.R_types HO149.out BK169.out zq45) (fun _ hk => hk.2) (.int .i64 t157)) (fun _ hk => hk.2) (.int .i64 t158)) (fun _ hk => hk.2) (.int .i64 t159)) (fun _ hk => hk.2) (.slice Ao59 t160.length co59)) (fun _ hk => hk.2) (.slice Ao60 t163.length co60)) (fun _ hk => hk.1.2)))⟩; have n2_ : Aside0 (Kd.R k104 104 w61 w.heap.size (fun k_ => some k_ ≠ (v148 : Value).ownBlock) (.slice Ao59 t160.length co59) t160) := ⟨(by rw [hw]; exact (by (with_reducible repeat (first | apply Kd.R_alloc | apply Kd.R_drewN | apply Kd.R_drew)); exact Kd.R_mono (Kd.R_far (p := ⟨gb169, 4, none⟩) (Kd.R_far (p := ⟨gb169, 3, none⟩) (Kd.R_far (p := ⟨gb169, 2, none⟩) (Kd.R_far (p := ⟨gb169, 1, none⟩) (Kd.R_far (p := ⟨gb169, 0, none⟩) (Kd.R_types HO162.out BK169.out zq45) (fun _ hk => hk.2) (.int .i64 t157)) (fun _ hk => hk.2) (.int .i64 t158)) (fun _ hk => hk.2) (.int .i64 t159)) (fun _ hk => hk.2) (.slice Ao59 t160.length co59)) (fun _ hk => hk.2) (.slice Ao60 t163.length co60)) (fun _ hk => hk.1.2)))⟩; have n3_ : Aside0 (Kd.R k38 38 w61 w.heap.size (fun k_ => some k_ ≠ (u6 : Value).ownBlock ∧ some k_ ≠ (v148 : Value).ownBlock ∧ some k_ ≠ (.slice Ao59 t160.length co59 : Value).ownBlock ∧ k_ ≠ gb169) (.slice Ao60 t163.length co60) t163) := ⟨(by rw [hw]; exact (by (with_reducible repeat (first | apply Kd.R_alloc | apply Kd.R_drewN | apply Kd.R_drew)); exact Kd.R_mono (Kd.R_far (p := ⟨gb169, 4, none⟩) (Kd.R_far (p := ⟨gb169, 3, none⟩) (Kd.R_far (p := ⟨gb169, 2, none⟩) (Kd.R_far (p := ⟨gb169, 1, none⟩) (Kd.R_far (p := ⟨gb169, 0, none⟩) (Kd.R_mono HO165.out (fun k_ hk => (⟨hk, hk.2⟩ : _ ∧ k_ ≠ gb169))) (fun _ hk => hk.2) (.int .i64 t157)) (fun _ hk => hk.2) (.int .i64 t158)) (fun _ hk => hk.2) (.int .i64 t159)) (fun _ hk => hk.2) (.slice Ao59 t160.length co59)) (fun _ hk => hk.2) (.slice Ao60 t163.length co60)) (fun _ hk => ⟨hk.1.1.1.2, ⟨hk.1.1.2, ⟨hk.1.1.1.1, hk.1.2⟩⟩⟩)))⟩; have n4_ : Aside0 (w61.heap[gb169]? = some (.cells #[.int .i64 t157, .int .i64 t158, .int .i64 t159, .slice Ao59 t160.length co59, .slice Ao60 t163.length co60] 38 (0, 0))) := ⟨(by rw [hw]; exact (by (with_reducible repeat (first | refine blk_drewN ?_ _ | refine blk_drew ?_ | refine blk_alloc ?_ _)); refine blk_put (cs := #[.int .i64 t157, .int .i64 t158, .int .i64 t159, .slice Ao59 t160.length co59, .slice none 0 0]) ?_ 4 _ rfl; (with_reducible repeat (first | refine blk_drewN ?_ _ | refine blk_drew ?_ | refine blk_alloc ?_ _)); refine blk_put (cs := #[.int .i64 t157, .int .i64 t158, .int .i64 t159, .slice none 0 0, .slice none 0 0]) ?_ 3 _ rfl; (with_reducible repeat (first | refine blk_drewN ?_ _ | refine blk_drew ?_ | refine blk_alloc ?_ _)); refine blk_put (cs := #[.int .i64 t157, .int .i64 t158, .int .i64 0, .slice none 0 0, .slice none 0 0]) ?_ 2 _ rfl; (with_reducible repeat (first | refine blk_drewN ?_ _ | refine blk_drew ?_ | refine blk_alloc ?_ _)); refine blk_put (cs := #[.int .i64 t157, .int .i64 0, .int .i64 0, .slice none 0 0, .slice none 0 0]) ?_ 1 _ rfl; (with_reducible repeat (first | refine blk_drewN ?_ _ | refine blk_drew ?_ | refine blk_alloc ?_ _)); refine blk_put (cs := #[.int .i64 0, .int .i64 0, .int .i64 0, .slice none 0 0, .slice none 0 0]) ?_ 0 _ rfl; (with_reducible repeat (first | refine blk_drewN ?_ _ | refine blk_drew ?_ | refine blk_alloc ?_ _)); exact BK169.out))⟩; have n5_ : Aside0 (IsS56 w0 w61 g t167 t168) := ⟨(by rw [hw]; exact zq4)⟩; have n6_ : Aside0 (KeepBut w w61 g none) := ⟨(by rw [hw]; exact zq15)⟩; have n7_ : Aside0 (Below w0.heap.size w0 w61) := ⟨(by rw [hw]; exact zq17)⟩; clear hw HO_6 HO149 HO162 HO165 BK169 HI0 HK HB; have HO_6 := n0_; have HO149 := n1_; have HO162 := n2_; have HO165 := n3_; have BK169 := n4_; have HI0 := n5_; have HK := n6_; have HB := n7_; clear n0_ n1_ n2_ n3_ n4_ n5_ n6_ n7_; have hcz62_0 : w61.cell? ⟨gb169, 0, none⟩ = some (.int .i64 t157) := (blk_cell BK169.out 0).trans rfl; have hcz62_1 : w61.cell? ⟨gb169, 1, none⟩ = some (.int .i64 t158) := (blk_cell BK169.out 1).trans rfl; have hcz62_2 : w61.cell? ⟨gb169, 2, none⟩ = some (.int .i64 t159) := (blk_cell BK169.out 2).trans rfl; have hcz62_3 : w61.cell? ⟨gb169, 3, none⟩ = some (.slice Ao59 t160.length co59) := (blk_cell BK169.out 3).trans rfl; have hcz62_4 : w61.cell? ⟨gb169, 4, none⟩ = some (.slice Ao60 t163.length co60) := (blk_cell BK169.out 4).trans rfl; have hfz62_0 := blk_frozen BK169.out 0; have hfz62_1 := blk_frozen BK169.out 1; have hfz62_2 := blk_frozen BK169.out 2; have hfz62_3 := blk_frozen BK169.out 3; have hfz62_4 := blk_frozen BK169.out 4) | ((with_reducible refine gate_builtin (b := .append) (xs := #[.tmp 56, .tmp 58]) rfl ?_); at_builtin; refine Kd.R_append k38 w.heap.size rfl (.tmp 56) (.tmp 58) 36 38 (.agg #[(.int .i64 0), (.int .i64 0), (.int .i64 0), (.slice none 0 0), (.slice none 0 0)]) 72 rfl Tryd.underlying36 info38 rfl zq45 (by omega) u6 x6_1 (⟨t157, t158, t159, t160, t163⟩ : S38) [.int .i64 t157, .int .i64 t158, .int .i64 t159, .slice Ao59 t160.length co59, .slice Ao60 t163.length co60] (fun k_ => some k_ ≠ (v148 : Value).ownBlock ∧ k_ ≠ gb169) (fun k_ => ((fun k_ => some k_ ≠ (v148 : Value).ownBlock ∧ k_ ≠ gb169)) k_ ∧ some k_ ≠ (u6 : Value).ownBlock) rfl rfl ?aP (fun _ hk => hk) ?aF ?aO (Below.refl _ _) ?aS ?aL ?_; (case aP => exact k38_mkM _ _ _ (⟨t157, t158, t159, t160, t163⟩ : S38) (Kd.R_mono (Kd.R_types (Kd.R_apart' (HO162.out) (Kd.R_typed HO_6.out) zq45) BK169.out zq45) (fun k_ hk => ⟨⟨hk.1.1, hk.2⟩, hk.1.2⟩)) (Kd.R_mono (HO165.out) (fun k_ hk => ⟨⟨hk.2.1, hk.2.2.2⟩, hk.1⟩))); (case aF => exact (fun k_ hk => ⟨Kd.fresh' (Kd.R_lt zq6) k_ hk, Kd.freshB (g := gb169) (o := .cells #[.int .i64 t157, .int .i64 t158, .int .i64 t159, .slice Ao59 t160.length co59, .slice Ao60 t163.length co60] 38 (0, 0)) zq25 k_ hk⟩)); (case aO => exact zq61); (case aS => exact (keep_size (w := w) (g := g) (row := none) zq15)); (case aL => have := LMc27.out; omega); intro v171 w63 ho hb hg hat; rw [← Ny170.out] at ho; have n0_ := mk0 (IsS56.grown zq4 hg (IsS56.own_ne HI0.out HO_6.out zq45)); have n1_ := mk0 (Kd.R_over' zq6 (Kd.R_typed zq14) zq45 hg); have n2_ := mk0 (blk_grown (g := gb169) (o := .cells #[.int .i64 t157, .int .i64 t158, .int .i64 t159, .slice Ao59 t160.length co59, .slice Ao60 t163.length co60] 38 (0, 0)) zq25 hg (Kd.R_away HO_6.out (fun _ hk => hk.2.2.2))); have n3_ := mk0 (below_weaken zq17 HL.out hb); have n4_ := mk0 (KeepBut.trans zq15 (KeepBut.of_grown hg g) (Kd.R_base2 HO_6.out)); have n5_ := mk0 (ho); clear HI0 HO149 BK169 HB HK HO_6 HO162 HO165; have HI0 := n0_; have HO149 := n1_; have BK169 := n2_; have HB := n3_; have HK := n4_; have HO172 := n5_; clear n0_ n1_ n2_ n3_ n4_ n5_; clear ho hb hg hat) | ((with_reducible refine gate_callee (f := 28) rfl ?_); refine goesL_ (some 61) rfl rfl Tryd.func28 zq23 rfl #[.pointer (some ⟨g, 0, none⟩)] rfl zq2 ?_; (with_reducible refine (spec_reader_blanks.calls kj10 g t167 t168 t173 t174 w0 _ ?side1 ?side2 A28.out).mono ?_); (case side1 => exact zq4); (case side2 => exact zq17); rintro e w64 ⟨rfl, hi, hb, hk⟩; refine ⟨_, rfl, ?_⟩; have n0_ := mk0 (Kd.R_mono (Kd.R_keep (IsS56.apart (show IsS56 w0 _ g t167 t168 from zq4) zq6 zq45) hk (fun _ h => h.2)) (fun _ h => h.1)); have n1_ := mk0 (KeepBut.blk hk (g' := gb169) (o := .cells #[.int .i64 t157, .int .i64 t158, .int .i64 t159, .slice Ao59 t160.length co59, .slice Ao60 t163.length co60] 38 (0, 0)) zq25 NB169_0.out (by simp)); have n2_ := mk0 (Kd.R_mono (Kd.R_keep (IsS56.apart (show IsS56 w0 _ g t167 t168 from zq4) zq33 zq45) hk (fun _ h => h.2)) (fun _ h => h.1)); have n3_ := mk0 (KeepBut.trans zq15 hk (.inl rfl)); have n4_ := mk0 (hb); have n5_ := mk0 (hi); clear HO149 BK169 HO172 HK HB HI0; have HO149 := n0_; have BK169 := n1_; have HO172 := n2_; have HK := n3_; have HB := n4_; have HI0 := n5_; clear n0_ n1_ n2_ n3_ n4_ n5_; (try clear hb); (try clear hb2); (try clear hk); (try clear hi)) | ((with_reducible refine gate_callee (f := 67) rfl ?_); refine goesL_ (some 63) rfl rfl Tryd.func67 zq23 rfl #[.pointer (some ⟨g, 0, none⟩), .int .u8 125] rfl zq2 ?_; (with_reducible refine (spec_reader_take.calls g t173 t174 125 false t176 t177 w0 _ ?side1 ?side2 A29.out).mono ?_); (case side1 => exact zq4); (case side2 => exact zq17); rintro e w65 ⟨rfl, hi, hb, hk⟩; refine ⟨_, rfl, ?_⟩; have n0_ := mk0 (Kd.R_mono (Kd.R_keep (IsS56.apart (show IsS56 w0 _ g t173 t174 from zq4) zq6 zq45) hk (fun _ h => h.2)) (fun _ h => h.1)); have n1_ := mk0 (KeepBut.blk hk (g' := gb169) (o := .cells #[.int .i64 t157, .int .i64 t158, .int .i64 t159, .slice Ao59 t160.length co59, .slice Ao60 t163.length co60] 38 (0, 0)) zq25 NB169_0.out (by simp)); have n2_ := mk0 (Kd.R_mono (Kd.R_keep (IsS56.apart (show IsS56 w0 _ g t173 t174 from zq4) zq33 zq45) hk (fun _ h => h.2)) (fun _ h => h.1)); have n3_ := mk0 (KeepBut.trans zq15 hk (.inl rfl)); have n4_ := mk0 (hb); have n5_ := mk0 (hi); clear HO149 BK169 HO172 HK HB HI0; have HO149 := n0_; have BK169 := n1_; have HO172 := n2_; have HK := n3_; have HB := n4_; have HI0 := n5_; clear n0_ n1_ n2_ n3_ n4_ n5_; (try clear hb); (try clear hb2); (try clear hk); (try clear hi)) | ((with_reducible refine gate_callee (f := 67) rfl ?_); refine goesL_ (some 67) rfl rfl Tryd.func67 zq23 rfl #[.pointer (some ⟨g, 0, none⟩), .int .u8 44] rfl zq2 ?_; (with_reducible refine (spec_reader_take.calls g t176 t177 44 true t179 t180 w0 _ ?side1 ?side2 A47.out).mono ?_); (case side1 => exact zq4); (case side2 => exact zq17); rintro e w66 ⟨rfl, hi, hb, hk⟩; refine ⟨_, rfl, ?_⟩; have n0_ := mk0 (Kd.R_mono (Kd.R_keep (IsS56.apart (show IsS56 w0 _ g t176 t177 from zq4) zq6 zq45) hk (fun _ h => h.2)) (fun _ h => h.1)); have n1_ := mk0 (KeepBut.blk hk (g' := gb169) (o := .cells #[.int .i64 t157, .int .i64 t158, .int .i64 t159, .slice Ao59 t160.length co59, .slice Ao60 t163.length co60] 38 (0, 0)) zq25 NB169_0.out (by simp)); have n2_ := mk0 (Kd.R_mono (Kd.R_keep (IsS56.apart (show IsS56 w0 _ g t176 t177 from zq4) zq33 zq45) hk (fun _ h => h.2)) (fun _ h => h.1)); have n3_ := mk0 (KeepBut.trans zq15 hk (.inl rfl)); have n4_ := mk0 (hb); have n5_ := mk0 (hi); clear HO149 BK169 HO172 HK HB HI0; have HO149 := n0_; have BK169 := n1_; have HO172 := n2_; have HK := n3_; have HB := n4_; have HI0 := n5_; clear n0_ n1_ n2_ n3_ n4_ n5_; (try clear hb); (try clear hb2); (try clear hk); (try clear hi)) | ((with_reducible refine gate_callee (f := 28) rfl ?_); refine goesL_ (some 70) rfl rfl Tryd.func28 zq23 rfl #[.pointer (some ⟨g, 0, none⟩)] rfl zq2 ?_; (with_reducible refine (spec_reader_blanks.calls kj10 g t179 t180 t181 t182 w0 _ ?side1 ?side2 A49.out).mono ?_); (case side1 => exact zq4); (case side2 => exact zq17); rintro e w67 ⟨rfl, hi, hb, hk⟩; refine ⟨_, rfl, ?_⟩; have n0_ := mk0 (Kd.R_mono (Kd.R_keep (IsS56.apart (show IsS56 w0 _ g t179 t180 from zq4) zq6 zq45) hk (fun _ h => h.2)) (fun _ h => h.1)); have n1_ := mk0 (KeepBut.blk hk (g' := gb169) (o := .cells #[.int .i64 t157, .int .i64 t158, .int .i64 t159, .slice Ao59 t160.length co59, .slice Ao60 t163.length co60] 38 (0, 0)) zq25 NB169_0.out (by simp)); have n2_ := mk0 (Kd.R_mono (Kd.R_keep (IsS56.apart (show IsS56 w0 _ g t179 t180 from zq4) zq33 zq45) hk (fun _ h => h.2)) (fun _ h => h.1)); have n3_ := mk0 (KeepBut.trans zq15 hk (.inl rfl)); have n4_ := mk0 (hb); have n5_ := mk0 (hi); clear HO149 BK169 HO172 HK HB HI0; have HO149 := n0_; have BK169 := n1_; have HO172 := n2_; have HK := n3_; have HB := n4_; have HI0 := n5_; clear n0_ n1_ n2_ n3_ n4_ n5_; (try clear hb); (try clear hb2); (try clear hk); (try clear hi)))
     go_roundg kj10
     case measure => have := HK1.out; have := HJ10.out; omega
     case rel => exact ⟨(y147), (y170), (t181), (t182), H', ⟨by have := HK1.out; have := HJ10.out; omega⟩, ⟨by (with_reducible repeat (first | apply Kd.R_alloc | apply Kd.R_drewN | apply Kd.R_drew)); exact Kd.R_mono HO149.out (fun _ hk => trivial)⟩, ⟨by (with_reducible repeat (first | apply Kd.R_alloc | apply Kd.R_drewN | apply Kd.R_drew)); exact Kd.R_mono HO172.out (fun _ hk => hk.1)⟩, ⟨by repeat (first | (with_reducible first | exact HI0.out | apply IsS56.alloc | apply IsS56.drewN | apply IsS56.drew | apply IsS56.set_0 | apply IsS56.set_1 | refine IsS56.far ?_ NB0_169.out _) | exact HI0.out)⟩, ⟨by repeat (first | (with_reducible first | exact HK.out | apply KeepBut.set_ | apply keep_drewN | apply keep_drew | apply keep_alloc | refine keep_far ?_ GW169.out _) | exact HK.out)⟩, ⟨by repeat (first | (with_reducible first | exact HB.out | apply below_alloc | apply pw_below_drewN | apply below_drew1 | refine below_set ?_ (IsS56.ge HI0.out) | refine below_set ?_ GE169.out) | exact HB.out)⟩⟩
end Go.Proofs.YtaigbkkgmncipaaDoor.Y
end
