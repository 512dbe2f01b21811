/- The words, walks and laws that the proof rests on, laid together (part 4). -/
import Derived.Test.YtlokkefnbffjnaaDoorKFnFjValid3
section
namespace Go.Proofs.YtlokkefnbffjnaaDoor.J
open Go.RowKit Go.Proofs.YtlokkefnbffjnaaDoorW.PrintWords Go.Proofs.YtlokkefnbffjnaaDoorW.PrintLast Go.Proofs.YtlokkefnbffjnaaDoorW.PrintMore
attribute [local go_sem] max2_int min2_int max_two min_two max_three min_three max_four min_four
set_option linter.unusedVariables false
set_option linter.unusedSimpArgs false
attribute [-simp] ByteArray.size_extract
mutual
def fastjson_validateString.j0 : Nat → ByteArray → Int → Bool → Option (ByteArray × ByteArray × Option Int)
  | 0, _, _, _ => none
  | k + 1, x0, x5, x24 => if x24 = true then (if 0 ≤ x5 then (if x5 ≤ (x0.size : Int) then (if 0 ≤ (wrap64 (x5 + 1)) then (if (wrap64 (x5 + 1)) ≤ (x0.size : Int) then (some (x0.extract 0 (x5 : Int).toNat, x0.extract ((wrap64 (x5 + 1)) : Int).toNat x0.size, none)) else (none)) else (none)) else (none)) else (none)) else ((fastjson_parseRawString.f k x0).bind fun bt103 => (if bt103.2.2.isNone = true then (fastjson_validateString.l0 k bt103.1 bt103.2.1) else (some (bt103.1, bt103.2.1, some (bt103.2.2.getD 0)))))
def fastjson_validateString.l0 : Nat → ByteArray → ByteArray → Option (ByteArray × ByteArray × Option Int)
  | 0, _, _ => none
  | k + 1, x6, x7 => (strings_IndexByte.f x6 92).bind fun t107 => (if t107 < 0 then (some (x6, x7, none)) else (if (wrap64 (t107 + 1)) ≥ (x6.size : Int) then ((errors_New.f (⟨#[66, 85, 71, 58, 32, 112, 97, 114, 115, 101, 82, 97, 119, 83, 116, 114, 105, 110, 103, 32, 114, 101, 116, 117, 114, 110, 101, 100, 32, 105, 110, 118, 97, 108, 105, 100, 32, 115, 116, 114, 105, 110, 103, 32, 119, 105, 116, 104, 32, 116, 114, 97, 105, 108, 105, 110, 103, 32, 98, 97, 99, 107, 115, 108, 97, 115, 104]⟩ : ByteArray)).bind fun t108 => (some (x6, x7, t108))) else (if 0 ≤ (wrap64 (t107 + 1)) then (if (wrap64 (t107 + 1)) < (x6.size : Int) then (if 0 ≤ (wrap64 ((wrap64 (t107 + 1)) + 1)) then (if (wrap64 ((wrap64 (t107 + 1)) + 1)) ≤ (x6.size : Int) then (if (bt x6 (wrap64 (t107 + 1))) = 34 then (fastjson_validateString.j2 k (x6.extract ((wrap64 ((wrap64 (t107 + 1)) + 1)) : Int).toNat x6.size) x7 (bt x6 (wrap64 (t107 + 1))) ((bt x6 (wrap64 (t107 + 1))) == 34)) else (if (bt x6 (wrap64 (t107 + 1))) = 92 then (fastjson_validateString.j2 k (x6.extract ((wrap64 ((wrap64 (t107 + 1)) + 1)) : Int).toNat x6.size) x7 (bt x6 (wrap64 (t107 + 1))) ((bt x6 (wrap64 (t107 + 1))) == 92)) else (if (bt x6 (wrap64 (t107 + 1))) = 47 then (fastjson_validateString.j2 k (x6.extract ((wrap64 ((wrap64 (t107 + 1)) + 1)) : Int).toNat x6.size) x7 (bt x6 (wrap64 (t107 + 1))) ((bt x6 (wrap64 (t107 + 1))) == 47)) else (if (bt x6 (wrap64 (t107 + 1))) = 98 then (fastjson_validateString.j2 k (x6.extract ((wrap64 ((wrap64 (t107 + 1)) + 1)) : Int).toNat x6.size) x7 (bt x6 (wrap64 (t107 + 1))) ((bt x6 (wrap64 (t107 + 1))) == 98)) else (if (bt x6 (wrap64 (t107 + 1))) = 102 then (fastjson_validateString.j2 k (x6.extract ((wrap64 ((wrap64 (t107 + 1)) + 1)) : Int).toNat x6.size) x7 (bt x6 (wrap64 (t107 + 1))) ((bt x6 (wrap64 (t107 + 1))) == 102)) else (if (bt x6 (wrap64 (t107 + 1))) = 110 then (fastjson_validateString.j2 k (x6.extract ((wrap64 ((wrap64 (t107 + 1)) + 1)) : Int).toNat x6.size) x7 (bt x6 (wrap64 (t107 + 1))) ((bt x6 (wrap64 (t107 + 1))) == 110)) else (if (bt x6 (wrap64 (t107 + 1))) = 114 then (fastjson_validateString.j2 k (x6.extract ((wrap64 ((wrap64 (t107 + 1)) + 1)) : Int).toNat x6.size) x7 (bt x6 (wrap64 (t107 + 1))) ((bt x6 (wrap64 (t107 + 1))) == 114)) else (fastjson_validateString.j2 k (x6.extract ((wrap64 ((wrap64 (t107 + 1)) + 1)) : Int).toNat x6.size) x7 (bt x6 (wrap64 (t107 + 1))) ((bt x6 (wrap64 (t107 + 1))) == 116))))))))) else (none)) else (none)) else (none)) else (none))))
def fastjson_validateString.j2 : Nat → ByteArray → ByteArray → Int → Bool → Option (ByteArray × ByteArray × Option Int)
  | 0, _, _, _, _ => none
  | k + 1, x6, x7, x65, x69 => if x69 = true then (fastjson_validateString.l0 k x6 x7) else (if x65 = 117 then (if (x6.size : Int) < 4 then ((errors_New.f (⟨#[116, 111, 111, 32, 115, 104, 111, 114, 116, 32, 101, 115, 99, 97, 112, 101, 32, 115, 101, 113, 117, 101, 110, 99, 101, 58, 32, 92, 117]⟩ : ByteArray)).bind fun t109 => (some (x6, x7, t109))) else (if 0 ≤ 4 then (if 4 ≤ (x6.size : Int) then ((strconv_ParseUint_55.f (x6.extract 0 4) 16 16).bind fun bt110 => (if bt110.2.isNone = true then (fastjson_validateString.l0 k (x6.extract 4 x6.size) x7) else ((errors_New.f (⟨#[105, 110, 118, 97, 108, 105, 100, 32, 101, 115, 99, 97, 112, 101, 32, 115, 101, 113, 117, 101, 110, 99, 101, 32, 92, 117]⟩ : ByteArray)).bind fun t113 => (some (x6, x7, t113))))) else (none)) else (none))) else ((errors_New.f (⟨#[117, 110, 107, 110, 111, 119, 110, 32, 101, 115, 99, 97, 112, 101, 32, 115, 101, 113, 117, 101, 110, 99, 101]⟩ : ByteArray)).bind fun t114 => (some (x6, x7, t114))))
end
def fastjson_validateString.f (k : Nat) (a0 : ByteArray) : Option (ByteArray × ByteArray × Option Int) := (strings_IndexByte.f a0 34).bind fun t101 => (if t101 ≥ 0 then (if 0 ≤ t101 then (if t101 ≤ (a0.size : Int) then ((strings_IndexByte.f (a0.extract 0 (t101 : Int).toNat) 92).bind fun t102 => (fastjson_validateString.j0 k a0 t101 (decide (t102 < 0)))) else (none)) else (none)) else (fastjson_validateString.j0 k a0 t101 false))
theorem fastjson_validateString.mono_l : ∀ k, (∀ y0 y1 y2, LeO (fastjson_validateString.j0 k y0 y1 y2) (fastjson_validateString.j0 (k + 1) y0 y1 y2)) ∧ (∀ y0 y1, LeO (fastjson_validateString.l0 k y0 y1) (fastjson_validateString.l0 (k + 1) y0 y1)) ∧ (∀ y0 y1 y2 y3, LeO (fastjson_validateString.j2 k y0 y1 y2 y3) (fastjson_validateString.j2 (k + 1) y0 y1 y2 y3))
 | 0 => ⟨fun _ _ _ r h => by simp [fastjson_validateString.j0] at h, fun _ _ r h => by simp [fastjson_validateString.l0] at h, fun _ _ _ _ r h => by simp [fastjson_validateString.j2] at h⟩
 | k + 1 => by
  obtain ⟨ih0, ih1, ih2⟩ := fastjson_validateString.mono_l k
  refine ⟨?_, ?_, ?_⟩
  ·intro y0 y1 y2
   unfold fastjson_validateString.j0
   repeat' first
   | (with_reducible exact ih0 _ _ _)
   | (with_reducible exact ih1 _ _)
   | (with_reducible exact ih2 _ _ _ _)
   | (with_reducible exact fastjson_parseRawString.mono _ _)
   | (with_reducible exact LeO.refl _)
   | (with_reducible exact LeO.none _)
   | (with_reducible refine LeO.ite ?_ ?_)
   | (with_reducible refine LeO.bind ?_ (fun _ => ?_))
   | exact ih0 _ _ _
   | exact ih1 _ _
   | exact ih2 _ _ _ _
   | exact fastjson_parseRawString.mono _ _
   | exact LeO.none _
   | refine LeO.ite ?_ ?_
   | refine LeO.bind ?_ (fun _ => ?_)
  ·intro y0 y1
   unfold fastjson_validateString.l0
   repeat' first
   | (with_reducible exact ih0 _ _ _)
   | (with_reducible exact ih1 _ _)
   | (with_reducible exact ih2 _ _ _ _)
   | (with_reducible exact fastjson_parseRawString.mono _ _)
   | (with_reducible exact LeO.refl _)
   | (with_reducible exact LeO.none _)
   | (with_reducible refine LeO.ite ?_ ?_)
   | (with_reducible refine LeO.bind ?_ (fun _ => ?_))
   | exact ih0 _ _ _
   | exact ih1 _ _
   | exact ih2 _ _ _ _
   | exact fastjson_parseRawString.mono _ _
   | exact LeO.none _
   | refine LeO.ite ?_ ?_
   | refine LeO.bind ?_ (fun _ => ?_)
  ·intro y0 y1 y2 y3
   unfold fastjson_validateString.j2
   repeat' first
   | (with_reducible exact ih0 _ _ _)
   | (with_reducible exact ih1 _ _)
   | (with_reducible exact ih2 _ _ _ _)
   | (with_reducible exact fastjson_parseRawString.mono _ _)
   | (with_reducible exact LeO.refl _)
   | (with_reducible exact LeO.none _)
   | (with_reducible refine LeO.ite ?_ ?_)
   | (with_reducible refine LeO.bind ?_ (fun _ => ?_))
   | exact ih0 _ _ _
   | exact ih1 _ _
   | exact ih2 _ _ _ _
   | exact fastjson_parseRawString.mono _ _
   | exact LeO.none _
   | refine LeO.ite ?_ ?_
   | refine LeO.bind ?_ (fun _ => ?_)
theorem fastjson_validateString.mono : ∀ a0 k, LeO (fastjson_validateString.f k a0) (fastjson_validateString.f (k + 1) a0) := by
 intro a0 k
 obtain ⟨ih0, ih1, ih2⟩ := fastjson_validateString.mono_l k
 unfold fastjson_validateString.f
 repeat' first
  | (with_reducible exact ih0 _ _ _)
  | (with_reducible exact ih1 _ _)
  | (with_reducible exact ih2 _ _ _ _)
  | (with_reducible exact fastjson_parseRawString.mono _ _)
  | (with_reducible exact LeO.refl _)
  | (with_reducible exact LeO.none _)
  | (with_reducible refine LeO.ite ?_ ?_)
  | (with_reducible refine LeO.bind ?_ (fun _ => ?_))
  | exact ih0 _ _ _
  | exact ih1 _ _
  | exact ih2 _ _ _ _
  | exact fastjson_parseRawString.mono _ _
  | exact LeO.none _
  | refine LeO.ite ?_ ?_
  | refine LeO.bind ?_ (fun _ => ?_)
set_option maxHeartbeats 8000000 in
set_option maxRecDepth 100000 in
theorem fastjson_validateString.calls (k : Nat) (a0 : ByteArray) (r1 : ByteArray) (r2 : ByteArray) (r3 : Option Int) (w : World) (hG : Laid w) (h : fastjson_validateString.f k a0 = some (r1, r2, r3)) :
 Calls Tryd.prog 107 #[.string a0] w fun e w' => ∃ z_r3 : Option Int, Zk z_r3 r3 ∧ e = .returned (.tuple #[.string r1, .string r2, errW z_r3]) ∧ Below w.heap.size w w' := by
 have HG := mk0 hG
 clear hG
 have hu55 := Tryd.underlying55
 have hu148 := Tryd.underlying148
 have HB := mk0 (Below.refl w.heap.size w)
 have H : ((strings_IndexByte.f a0 34).bind fun t101 => (if t101 ≥ 0 then (if 0 ≤ t101 then (if t101 ≤ (a0.size : Int) then ((strings_IndexByte.f (a0.extract 0 (t101 : Int).toNat) 92).bind fun t102 => (fastjson_validateString.j0 k a0 t101 (decide (t102 < 0)))) else (none)) else (none)) else (fastjson_validateString.j0 k a0 t101 false))) = some (r1, r2, r3) := h
 clear h
 replace H := Option.bind_eq_some_iff.mp H
 obtain ⟨t101, A20, H⟩ := H
 (try dsimp only at H)
 have A2 := mk0 A20
 clear A20
 have HC3 := mk0 H
 clear H
 go_enter Tryd.func107, Tryd.ntmps107
 go_upto_region 2 with (first | (go_at_call 123; (with_reducible refine (strings_IndexByte.calls a0 34 t101 _ A2.out).mono ?_); rintro e w' ⟨rfl, ⟨nd, rfl⟩⟩; (try first | exact ⟨rfl, _, World.drewN_drewN _ _ _⟩ | exact ⟨rfl, _, Eq.trans (World.drewN_drewN _ _ _) (congrArg (World.drewN _) (Nat.add_assoc _ _ _))⟩)))
 repeat (go_quiet (first | (go_at_call 123; (with_reducible refine (strings_IndexByte.calls a0 34 t101 _ A2.out).mono ?_); rintro e w' ⟨rfl, ⟨nd, rfl⟩⟩; (try first | exact ⟨rfl, _, World.drewN_drewN _ _ _⟩ | exact ⟨rfl, _, Eq.trans (World.drewN_drewN _ _ _) (congrArg (World.drewN _) (Nat.add_assoc _ _ _))⟩))); go_upto_region 2 with (first | (go_at_call 123; (with_reducible refine (strings_IndexByte.calls a0 34 t101 _ A2.out).mono ?_); rintro e w' ⟨rfl, ⟨nd, rfl⟩⟩; (try first | exact ⟨rfl, _, World.drewN_drewN _ _ _⟩ | exact ⟨rfl, _, Eq.trans (World.drewN_drewN _ _ _) (congrArg (World.drewN _) (Nat.add_assoc _ _ _))⟩))))
 (try simp only [Act.put, List.setIfInBounds_toArray, List.set_cons_zero, List.set_cons_succ])
 go_cut [24] (fun v24 wc => ∃ (kq : Nat) (x24_2 : Bool), v24 = .bool x24_2 ∧ Aside0 (fastjson_validateString.j0 kq a0 t101 x24_2 = some (r1, r2, r3)) ∧ Aside0 (kq ≤ k) ∧ Aside0 (Below w.heap.size w wc))
 case first =>
  have H := HC3.out
  clear HC3
  by_cases c4 : t101 ≥ 0
  rotate_left
  ·rw [if_neg c4] at H
   have c4b0 : decide (0 ≤ t101) = false := decide_eq_false c4
   clear c4
   (skip)
   have H' := mk0 H
   clear H
   go_wp2
   repeat (go_quiet (fail); try go_wp2)
   go_meet
   case rel => exact ⟨_, (false), (by rfl), H', ⟨by omega⟩, ⟨by repeat (first | (with_reducible first | exact HB.out | apply below_alloc | apply pw_below_drewN | apply below_drew1) | exact HB.out)⟩⟩
  rw [if_pos c4] at H
  have c4b0 : decide (0 ≤ t101) = true := decide_eq_true c4
  clear c4
  (skip)
  by_cases c5 : 0 ≤ t101
  rotate_left
  ·rw [if_neg c5] at H
   exact absurd H (by simp)
  rw [if_pos c5] at H
  have c5b0 := eq_true c5
  have c5b1 : decide (0 ≤ t101) = true := decide_eq_true c5
  clear c5
  by_cases c6 : t101 ≤ (a0.size : Int)
  rotate_left
  ·rw [if_neg c6] at H
   exact absurd H (by simp)
  rw [if_pos c6] at H
  have c6b0 := eq_true c6
  have c6b1 : decide (t101 ≤ (a0.size : Int)) = true := decide_eq_true c6
  clear c6
  replace H := Option.bind_eq_some_iff.mp H
  obtain ⟨t102, A70, H⟩ := H
  (try dsimp only at H)
  have A7 := mk0 A70
  clear A70
  have H' := mk0 H
  clear H
  go_wp2_with (first | (go_at_call 123; (with_reducible refine (strings_IndexByte.calls (a0.extract 0 (t101 : Int).toNat) 92 t102 _ A7.out).mono ?_); rintro e w' ⟨rfl, ⟨nd, rfl⟩⟩; (try first | exact ⟨rfl, _, World.drewN_drewN _ _ _⟩ | exact ⟨rfl, _, Eq.trans (World.drewN_drewN _ _ _) (congrArg (World.drewN _) (Nat.add_assoc _ _ _))⟩)))
  repeat (go_quiet (first | (go_at_call 123; (with_reducible refine (strings_IndexByte.calls (a0.extract 0 (t101 : Int).toNat) 92 t102 _ A7.out).mono ?_); rintro e w' ⟨rfl, ⟨nd, rfl⟩⟩; (try first | exact ⟨rfl, _, World.drewN_drewN _ _ _⟩ | exact ⟨rfl, _, Eq.trans (World.drewN_drewN _ _ _) (congrArg (World.drewN _) (Nat.add_assoc _ _ _))⟩))); try go_wp2_with (first | (go_at_call 123; (with_reducible refine (strings_IndexByte.calls (a0.extract 0 (t101 : Int).toNat) 92 t102 _ A7.out).mono ?_); rintro e w' ⟨rfl, ⟨nd, rfl⟩⟩; (try first | exact ⟨rfl, _, World.drewN_drewN _ _ _⟩ | exact ⟨rfl, _, Eq.trans (World.drewN_drewN _ _ _) (congrArg (World.drewN _) (Nat.add_assoc _ _ _))⟩))))
  go_meet
  case rel => exact ⟨_, (decide (t102 < 0)), (by rfl), H', ⟨by omega⟩, ⟨by repeat (first | (with_reducible first | exact HB.out | apply below_alloc | apply pw_below_drewN | apply below_drew1) | exact HB.out)⟩⟩
 case rest =>
  clear HC3
  obtain ⟨kq, x24_2, rfl, HA, HJ2, HB⟩ := hcut
  cases kq with
  | zero => exact absurd HA.out (by simp [fastjson_validateString.j0])
  | succ kj2 =>
   have H := HA.out
   clear HA
   simp only [fastjson_validateString.j0] at H
   by_cases c8 : x24_2 = true
   ·subst c8
    rw [if_pos rfl] at H
    by_cases c9 : 0 ≤ t101
    rotate_left
    ·rw [if_neg c9] at H
     exact absurd H (by simp)
    rw [if_pos c9] at H
    have c9b0 := eq_true c9
    have c9b1 : decide (0 ≤ t101) = true := decide_eq_true c9
    clear c9
    by_cases c10 : t101 ≤ (a0.size : Int)
    rotate_left
    ·rw [if_neg c10] at H
     exact absurd H (by simp)
    rw [if_pos c10] at H
    have c10b0 := eq_true c10
    have c10b1 : decide (t101 ≤ (a0.size : Int)) = true := decide_eq_true c10
    clear c10
    obtain ⟨ji11, hji11⟩ : ∃ j_ : Int, (wrap64 (t101 + 1)) = j_ := ⟨_, rfl⟩
    replace H : (if 0 ≤ (ji11) then (if (ji11) ≤ (a0.size : Int) then (some (a0.extract 0 (t101 : Int).toNat, a0.extract ((ji11) : Int).toNat a0.size, none)) else (none)) else (none)) = some (r1, r2, r3) := by (rw [hji11] at H; exact H)
    have hji11w : (IntKind.i64.wrap (t101 + 1)) = ji11 := (i64_w _).trans hji11
    by_cases c12 : 0 ≤ (ji11)
    rotate_left
    ·rw [if_neg c12] at H
     exact absurd H (by simp)
    rw [if_pos c12] at H
    have c12b0 := eq_true c12
    have c12b1 : decide (0 ≤ (ji11)) = true := decide_eq_true c12
    clear c12
    by_cases c13 : (ji11) ≤ (a0.size : Int)
    rotate_left
    ·rw [if_neg c13] at H
     exact absurd H (by simp)
    rw [if_pos c13] at H
    have c13b0 := eq_true c13
    have c13b1 : decide ((ji11) ≤ (a0.size : Int)) = true := decide_eq_true c13
    clear c13
    simp only [Option.some.injEq, Prod.mk.injEq] at H
    obtain ⟨rfl, rfl, rfl⟩ := H
    go_wp2
    repeat (go_quiet (fail); try go_wp2)
    go_ret3
    exact ⟨none, Zk.nn, by rfl, by repeat (first | (with_reducible first | exact HB.out | apply below_alloc | apply pw_below_drewN | apply below_drew1) | exact HB.out)⟩
   replace c8 := Bool.eq_false_iff.mpr c8
   subst c8
   rw [if_neg (show ¬ (false = true) by decide)] at H
   replace H := Option.bind_eq_some_iff.mp H
   obtain ⟨⟨t103, t104, t105⟩, A140, H⟩ := H
   (try dsimp only at H)
   have A14 := mk0 A140
   clear A140
   rcases t105 with _ | q106
   rotate_left
   ·rw [if_neg (show ¬ (some q106).isNone = true by simp)] at H
    (try (obtain ⟨m_q106, rfl⟩ := Zk.some_ Hz_t105.out))
    try simp only [errW_none, errW_some]
    simp only [Option.some.injEq, Prod.mk.injEq] at H
    obtain ⟨rfl, rfl, rfl⟩ := H
    go_wp2_with (first | (go_at_call 100; (with_reducible refine (fastjson_parseRawString.calls kj2 a0 t103 t104 (some q106) _ A14.out).mono ?_); rintro e w51 ⟨zs2_, hzs2_, rfl, hb⟩; obtain ⟨m_q106, rfl⟩ := Zk.some_ hzs2_; have n0_ := mk0 (below_step zq2 hb); clear HB; have HB := n0_; clear n0_ hb; (try simp only [errW_none, errW_some])))
    repeat (go_quiet (first | (go_at_call 100; (with_reducible refine (fastjson_parseRawString.calls kj2 a0 t103 t104 (some q106) _ A14.out).mono ?_); rintro e w51 ⟨zs2_, hzs2_, rfl, hb⟩; obtain ⟨m_q106, rfl⟩ := Zk.some_ hzs2_; replace HB := mk0 (below_step zq2 hb); (try simp only [errW_none, errW_some]))); try go_wp2_with (first | (go_at_call 100; (with_reducible refine (fastjson_parseRawString.calls kj2 a0 t103 t104 (some q106) _ A14.out).mono ?_); rintro e w51 ⟨zs2_, hzs2_, rfl, hb⟩; obtain ⟨m_q106, rfl⟩ := Zk.some_ hzs2_; replace HB := mk0 (below_step zq2 hb); (try simp only [errW_none, errW_some]))))
    go_ret3
    exact ⟨some m_q106, Zk.ss, by rfl, by repeat (first | (with_reducible first | exact HB.out | apply below_alloc | apply pw_below_drewN | apply below_drew1) | exact HB.out)⟩
   rw [if_pos (show (none : Option Int).isNone = true by rfl)] at H
   (try (obtain rfl := Zk.none_ Hz_t105.out))
   try simp only [errW_none, errW_some]
   have H' := mk0 H
   clear H
   go_wp2_with (first | (go_at_call 100; (with_reducible refine (fastjson_parseRawString.calls kj2 a0 t103 t104 none _ A14.out).mono ?_); rintro e w15 ⟨zn2_, hzn2_, rfl, hb⟩; obtain rfl := Zk.none_ hzn2_; have n0_ := mk0 (below_step zq2 hb); clear HB; have HB := n0_; clear n0_ hb; (try simp only [errW_none, errW_some])))
   repeat (go_quiet (first | (go_at_call 100; (with_reducible refine (fastjson_parseRawString.calls kj2 a0 t103 t104 none _ A14.out).mono ?_); rintro e w15 ⟨zn2_, hzn2_, rfl, hb⟩; obtain rfl := Zk.none_ hzn2_; replace HB := mk0 (below_step zq2 hb); (try simp only [errW_none, errW_some]))); try go_wp2_with (first | (go_at_call 100; (with_reducible refine (fastjson_parseRawString.calls kj2 a0 t103 t104 none _ A14.out).mono ?_); rintro e w15 ⟨zn2_, hzn2_, rfl, hb⟩; obtain rfl := Zk.none_ hzn2_; replace HB := mk0 (below_step zq2 hb); (try simp only [errW_none, errW_some]))))
   (try simp only [Act.put, List.setIfInBounds_toArray, List.set_cons_zero, List.set_cons_succ])
   go_loopg [6] kj2 (fun kq v6 w' => ∃ (x6_2 : ByteArray), v6 = .string x6_2 ∧ Aside0 (fastjson_validateString.l0 kq x6_2 t104 = some (r1, r2, r3)) ∧ Aside0 (kq ≤ kj2) ∧ Aside0 (Below w.heap.size w w'))
   case atStart => exact ⟨(t103), (by rfl), H', ⟨Nat.le_refl _⟩, ⟨by repeat (first | (with_reducible first | exact HB.out | apply below_alloc | apply pw_below_drewN | apply below_drew1) | exact HB.out)⟩⟩
   case round =>
    clear H'
    obtain ⟨x6_2, rfl, HA, HK2, HB⟩ := hrel
    cases gk with
    | zero => exact absurd HA.out (by simp [fastjson_validateString.l0])
    | succ k2 =>
     have H := HA.out
     clear HA
     simp only [fastjson_validateString.l0] at H
     replace H := Option.bind_eq_some_iff.mp H
     obtain ⟨t107, A160, H⟩ := H
     (try dsimp only at H)
     have A16 := mk0 A160
     clear A160
     by_cases c17 : t107 < 0
     ·rw [if_pos c17] at H
      have c17b0 : decide (t107 < 0) = true := decide_eq_true c17
      clear c17
      simp only [Option.some.injEq, Prod.mk.injEq] at H
      obtain ⟨rfl, rfl, rfl⟩ := H
      go_wp2_with (first | (go_at_call 123; (with_reducible refine (strings_IndexByte.calls x6_2 92 t107 _ A16.out).mono ?_); rintro e w' ⟨rfl, ⟨nd, rfl⟩⟩; (try first | exact ⟨rfl, _, World.drewN_drewN _ _ _⟩ | exact ⟨rfl, _, Eq.trans (World.drewN_drewN _ _ _) (congrArg (World.drewN _) (Nat.add_assoc _ _ _))⟩)))
      repeat (go_quiet (first | (go_at_call 123; (with_reducible refine (strings_IndexByte.calls x6_2 92 t107 _ A16.out).mono ?_); rintro e w' ⟨rfl, ⟨nd, rfl⟩⟩; (try first | exact ⟨rfl, _, World.drewN_drewN _ _ _⟩ | exact ⟨rfl, _, Eq.trans (World.drewN_drewN _ _ _) (congrArg (World.drewN _) (Nat.add_assoc _ _ _))⟩))); try go_wp2_with (first | (go_at_call 123; (with_reducible refine (strings_IndexByte.calls x6_2 92 t107 _ A16.out).mono ?_); rintro e w' ⟨rfl, ⟨nd, rfl⟩⟩; (try first | exact ⟨rfl, _, World.drewN_drewN _ _ _⟩ | exact ⟨rfl, _, Eq.trans (World.drewN_drewN _ _ _) (congrArg (World.drewN _) (Nat.add_assoc _ _ _))⟩))))
      go_ret3
      exact ⟨none, Zk.nn, by rfl, by repeat (first | (with_reducible first | exact HB.out | apply below_alloc | apply pw_below_drewN | apply below_drew1) | exact HB.out)⟩
     rw [if_neg c17] at H
     have c17b0 : decide (t107 < 0) = false := decide_eq_false c17
     clear c17
     by_cases c18 : (wrap64 (t107 + 1)) ≥ (x6_2.size : Int)
     ·rw [if_pos c18] at H
      have c18b0 : decide ((x6_2.size : Int) ≤ (wrap64 (t107 + 1))) = true := decide_eq_true c18
      clear c18
      replace H := Option.bind_eq_some_iff.mp H
      obtain ⟨t108, A190, H⟩ := H
      (try dsimp only at H)
      have A19 := mk0 A190
      clear A190
      simp only [Option.some.injEq, Prod.mk.injEq] at H
      obtain ⟨rfl, rfl, rfl⟩ := H
      go_wp2_with (first | (go_at_call 123; (with_reducible refine (strings_IndexByte.calls x6_2 92 t107 _ A16.out).mono ?_); rintro e w' ⟨rfl, ⟨nd, rfl⟩⟩; (try first | exact ⟨rfl, _, World.drewN_drewN _ _ _⟩ | exact ⟨rfl, _, Eq.trans (World.drewN_drewN _ _ _) (congrArg (World.drewN _) (Nat.add_assoc _ _ _))⟩)) | (go_at_call 54; (with_reducible refine (errors_New.calls (⟨#[66, 85, 71, 58, 32, 112, 97, 114, 115, 101, 82, 97, 119, 83, 116, 114, 105, 110, 103, 32, 114, 101, 116, 117, 114, 110, 101, 100, 32, 105, 110, 118, 97, 108, 105, 100, 32, 115, 116, 114, 105, 110, 103, 32, 119, 105, 116, 104, 32, 116, 114, 97, 105, 108, 105, 110, 103, 32, 98, 97, 99, 107, 115, 108, 97, 115, 104]⟩ : ByteArray) t108 _ A19.out).mono ?_); rintro e w20 ⟨z_t108, hz_t108, rfl, hb⟩; have Hz_t108 := mk0 hz_t108; clear hz_t108; have n0_ := mk0 (below_step zq2 hb); clear HB; have HB := n0_; clear n0_ hb; (try simp only [errW_none, errW_some])))
      repeat (go_quiet (first | (go_at_call 123; (with_reducible refine (strings_IndexByte.calls x6_2 92 t107 _ A16.out).mono ?_); rintro e w' ⟨rfl, ⟨nd, rfl⟩⟩; (try first | exact ⟨rfl, _, World.drewN_drewN _ _ _⟩ | exact ⟨rfl, _, Eq.trans (World.drewN_drewN _ _ _) (congrArg (World.drewN _) (Nat.add_assoc _ _ _))⟩)) | (go_at_call 54; (with_reducible refine (errors_New.calls (⟨#[66, 85, 71, 58, 32, 112, 97, 114, 115, 101, 82, 97, 119, 83, 116, 114, 105, 110, 103, 32, 114, 101, 116, 117, 114, 110, 101, 100, 32, 105, 110, 118, 97, 108, 105, 100, 32, 115, 116, 114, 105, 110, 103, 32, 119, 105, 116, 104, 32, 116, 114, 97, 105, 108, 105, 110, 103, 32, 98, 97, 99, 107, 115, 108, 97, 115, 104]⟩ : ByteArray) t108 _ A19.out).mono ?_); rintro e w20 ⟨z_t108, hz_t108, rfl, hb⟩; have Hz_t108 := mk0 hz_t108; clear hz_t108; replace HB := mk0 (below_step zq2 hb); (try simp only [errW_none, errW_some]))); try go_wp2_with (first | (go_at_call 123; (with_reducible refine (strings_IndexByte.calls x6_2 92 t107 _ A16.out).mono ?_); rintro e w' ⟨rfl, ⟨nd, rfl⟩⟩; (try first | exact ⟨rfl, _, World.drewN_drewN _ _ _⟩ | exact ⟨rfl, _, Eq.trans (World.drewN_drewN _ _ _) (congrArg (World.drewN _) (Nat.add_assoc _ _ _))⟩)) | (go_at_call 54; (with_reducible refine (errors_New.calls (⟨#[66, 85, 71, 58, 32, 112, 97, 114, 115, 101, 82, 97, 119, 83, 116, 114, 105, 110, 103, 32, 114, 101, 116, 117, 114, 110, 101, 100, 32, 105, 110, 118, 97, 108, 105, 100, 32, 115, 116, 114, 105, 110, 103, 32, 119, 105, 116, 104, 32, 116, 114, 97, 105, 108, 105, 110, 103, 32, 98, 97, 99, 107, 115, 108, 97, 115, 104]⟩ : ByteArray) t108 _ A19.out).mono ?_); rintro e w20 ⟨z_t108, hz_t108, rfl, hb⟩; have Hz_t108 := mk0 hz_t108; clear hz_t108; replace HB := mk0 (below_step zq2 hb); (try simp only [errW_none, errW_some]))))
      go_ret3
      exact ⟨z_t108, Hz_t108.out, by rfl, by repeat (first | (with_reducible first | exact HB.out | apply below_alloc | apply pw_below_drewN | apply below_drew1) | exact HB.out)⟩
     rw [if_neg c18] at H
     have c18b0 : decide ((x6_2.size : Int) ≤ (wrap64 (t107 + 1))) = false := decide_eq_false c18
     clear c18
     obtain ⟨ji21, hji21⟩ : ∃ j_ : Int, (wrap64 (t107 + 1)) = j_ := ⟨_, rfl⟩
     replace H : (if 0 ≤ (ji21) then (if (ji21) < (x6_2.size : Int) then (if 0 ≤ (wrap64 ((ji21) + 1)) then (if (wrap64 ((ji21) + 1)) ≤ (x6_2.size : Int) then (if (bt x6_2 (ji21)) = 34 then (fastjson_validateString.j2 k2 (x6_2.extract ((wrap64 ((ji21) + 1)) : Int).toNat x6_2.size) t104 (bt x6_2 (ji21)) ((bt x6_2 (ji21)) == 34)) else (if (bt x6_2 (ji21)) = 92 then (fastjson_validateString.j2 k2 (x6_2.extract ((wrap64 ((ji21) + 1)) : Int).toNat x6_2.size) t104 (bt x6_2 (ji21)) ((bt x6_2 (ji21)) == 92)) else (if (bt x6_2 (ji21)) = 47 then (fastjson_validateString.j2 k2 (x6_2.extract ((wrap64 ((ji21) + 1)) : Int).toNat x6_2.size) t104 (bt x6_2 (ji21)) ((bt x6_2 (ji21)) == 47)) else (if (bt x6_2 (ji21)) = 98 then (fastjson_validateString.j2 k2 (x6_2.extract ((wrap64 ((ji21) + 1)) : Int).toNat x6_2.size) t104 (bt x6_2 (ji21)) ((bt x6_2 (ji21)) == 98)) else (if (bt x6_2 (ji21)) = 102 then (fastjson_validateString.j2 k2 (x6_2.extract ((wrap64 ((ji21) + 1)) : Int).toNat x6_2.size) t104 (bt x6_2 (ji21)) ((bt x6_2 (ji21)) == 102)) else (if (bt x6_2 (ji21)) = 110 then (fastjson_validateString.j2 k2 (x6_2.extract ((wrap64 ((ji21) + 1)) : Int).toNat x6_2.size) t104 (bt x6_2 (ji21)) ((bt x6_2 (ji21)) == 110)) else (if (bt x6_2 (ji21)) = 114 then (fastjson_validateString.j2 k2 (x6_2.extract ((wrap64 ((ji21) + 1)) : Int).toNat x6_2.size) t104 (bt x6_2 (ji21)) ((bt x6_2 (ji21)) == 114)) else (fastjson_validateString.j2 k2 (x6_2.extract ((wrap64 ((ji21) + 1)) : Int).toNat x6_2.size) t104 (bt x6_2 (ji21)) ((bt x6_2 (ji21)) == 116))))))))) else (none)) else (none)) else (none)) else (none)) = some (r1, r2, r3) := by (rw [hji21] at H; exact H)
     (try rw [hji21] at c18b0)
     (try rw [hji21] at A16)
     have hji21w : (IntKind.i64.wrap (t107 + 1)) = ji21 := (i64_w _).trans hji21
     by_cases c22 : 0 ≤ (ji21)
     rotate_left
     ·rw [if_neg c22] at H
      exact absurd H (by simp)
     rw [if_pos c22] at H
     have c22b0 : decide (0 ≤ (ji21)) = true := decide_eq_true c22
     clear c22
     by_cases c23 : (ji21) < (x6_2.size : Int)
     rotate_left
     ·rw [if_neg c23] at H
      exact absurd H (by simp)
     rw [if_pos c23] at H
     have c23b0 : decide ((ji21) < (x6_2.size : Int)) = true := decide_eq_true c23
     clear c23
     obtain ⟨ji25, hji25⟩ : ∃ j_ : Int, (wrap64 ((ji21) + 1)) = j_ := ⟨_, rfl⟩
     replace H : (if 0 ≤ (ji25) then (if (ji25) ≤ (x6_2.size : Int) then (if (bt x6_2 (ji21)) = 34 then (fastjson_validateString.j2 k2 (x6_2.extract ((ji25) : Int).toNat x6_2.size) t104 (bt x6_2 (ji21)) ((bt x6_2 (ji21)) == 34)) else (if (bt x6_2 (ji21)) = 92 then (fastjson_validateString.j2 k2 (x6_2.extract ((ji25) : Int).toNat x6_2.size) t104 (bt x6_2 (ji21)) ((bt x6_2 (ji21)) == 92)) else (if (bt x6_2 (ji21)) = 47 then (fastjson_validateString.j2 k2 (x6_2.extract ((ji25) : Int).toNat x6_2.size) t104 (bt x6_2 (ji21)) ((bt x6_2 (ji21)) == 47)) else (if (bt x6_2 (ji21)) = 98 then (fastjson_validateString.j2 k2 (x6_2.extract ((ji25) : Int).toNat x6_2.size) t104 (bt x6_2 (ji21)) ((bt x6_2 (ji21)) == 98)) else (if (bt x6_2 (ji21)) = 102 then (fastjson_validateString.j2 k2 (x6_2.extract ((ji25) : Int).toNat x6_2.size) t104 (bt x6_2 (ji21)) ((bt x6_2 (ji21)) == 102)) else (if (bt x6_2 (ji21)) = 110 then (fastjson_validateString.j2 k2 (x6_2.extract ((ji25) : Int).toNat x6_2.size) t104 (bt x6_2 (ji21)) ((bt x6_2 (ji21)) == 110)) else (if (bt x6_2 (ji21)) = 114 then (fastjson_validateString.j2 k2 (x6_2.extract ((ji25) : Int).toNat x6_2.size) t104 (bt x6_2 (ji21)) ((bt x6_2 (ji21)) == 114)) else (fastjson_validateString.j2 k2 (x6_2.extract ((ji25) : Int).toNat x6_2.size) t104 (bt x6_2 (ji21)) ((bt x6_2 (ji21)) == 116))))))))) else (none)) else (none)) = some (r1, r2, r3) := by (rw [hji25] at H; exact H)
     (try rw [hji25] at A16)
     have hji25w : (IntKind.i64.wrap ((ji21) + 1)) = ji25 := (i64_w _).trans hji25
     by_cases c26 : 0 ≤ (ji25)
     rotate_left
     ·rw [if_neg c26] at H
      exact absurd H (by simp)
     rw [if_pos c26] at H
     have c26b0 := eq_true c26
     have c26b1 : decide (0 ≤ (ji25)) = true := decide_eq_true c26
     clear c26
     by_cases c27 : (ji25) ≤ (x6_2.size : Int)
     rotate_left
     ·rw [if_neg c27] at H
      exact absurd H (by simp)
     rw [if_pos c27] at H
     have c27b0 := eq_true c27
     have c27b1 : decide ((ji25) ≤ (x6_2.size : Int)) = true := decide_eq_true c27
     clear c27
     have HC28 := mk0 H
     clear H
     go_upto_if 69 with (first | (go_at_call 123; (with_reducible refine (strings_IndexByte.calls x6_2 92 t107 _ A16.out).mono ?_); rintro e w' ⟨rfl, ⟨nd, rfl⟩⟩; (try first | exact ⟨rfl, _, World.drewN_drewN _ _ _⟩ | exact ⟨rfl, _, Eq.trans (World.drewN_drewN _ _ _) (congrArg (World.drewN _) (Nat.add_assoc _ _ _))⟩); have p24 : 0 ≤ ((ji21) : Int) := of_decide_eq_true zq5; have q24 : (ji21) < (x6_2.size : Int) := of_decide_eq_true zq5; have hx24 := bt_at x6_2 (ji21); replace p24 := eq_true p24; replace q24 := eq_true q24))
     repeat (go_quiet (first | (go_at_call 123; (with_reducible refine (strings_IndexByte.calls x6_2 92 t107 _ A16.out).mono ?_); rintro e w' ⟨rfl, ⟨nd, rfl⟩⟩; (try first | exact ⟨rfl, _, World.drewN_drewN _ _ _⟩ | exact ⟨rfl, _, Eq.trans (World.drewN_drewN _ _ _) (congrArg (World.drewN _) (Nat.add_assoc _ _ _))⟩); have p24 : 0 ≤ ((ji21) : Int) := of_decide_eq_true zq46; have q24 : (ji21) < (x6_2.size : Int) := of_decide_eq_true zq46; have hx24 := bt_at x6_2 (ji21); replace p24 := eq_true p24; replace q24 := eq_true q24)); go_upto_if 69 with (first | (go_at_call 123; (with_reducible refine (strings_IndexByte.calls x6_2 92 t107 _ A16.out).mono ?_); rintro e w' ⟨rfl, ⟨nd, rfl⟩⟩; (try first | exact ⟨rfl, _, World.drewN_drewN _ _ _⟩ | exact ⟨rfl, _, Eq.trans (World.drewN_drewN _ _ _) (congrArg (World.drewN _) (Nat.add_assoc _ _ _))⟩); have p24 : 0 ≤ ((ji21) : Int) := of_decide_eq_true zq46; have q24 : (ji21) < (x6_2.size : Int) := of_decide_eq_true zq46; have hx24 := bt_at x6_2 (ji21); replace p24 := eq_true p24; replace q24 := eq_true q24)))
     (try simp only [Act.put, List.setIfInBounds_toArray, List.set_cons_zero, List.set_cons_succ])
     go_cut [69] (fun v69 wc => ∃ (kq : Nat) (x69_27 : Bool), v69 = .bool x69_27 ∧ Aside0 (fastjson_validateString.j2 kq (x6_2.extract ((ji25) : Int).toNat x6_2.size) t104 (bt x6_2 (ji21)) x69_27 = some (r1, r2, r3)) ∧ Aside0 (kq ≤ k2) ∧ Aside0 (Below w.heap.size w wc))
     case first =>
      have H := HC28.out
      clear HC28
      by_cases c29 : (bt x6_2 (ji21)) = 34
      ·rw [if_pos c29] at H
       have c29b0 : ((bt x6_2 (ji21)) == 34) = true := beq_iff_eq.mpr c29
       have c29b1 : ((bt x6_2 (ji21)) != 34) = false := bne_eq_false_iff_eq.mpr c29
       clear c29
       (rw [c29b0])
       have H' := mk0 H
       clear H
       go_wp2
       repeat (go_quiet (fail); try go_wp2)
       go_meet
       case rel => exact ⟨_, (((bt x6_2 (ji21)) == 34)), zq68, H', ⟨by have := HJ2.out; have := HK2.out; first | omega | exact Nat.le_refl _⟩, ⟨by repeat (first | (with_reducible first | exact HB.out | apply below_alloc | apply pw_below_drewN | apply below_drew1) | exact HB.out)⟩⟩
      rw [if_neg c29] at H
      have c29b0 : ((bt x6_2 (ji21)) == 34) = false := beq_eq_false_iff_ne.mpr c29
      have c29b1 : ((bt x6_2 (ji21)) != 34) = true := bne_iff_ne.mpr c29
      (rw [c29b0])
      by_cases c30 : (bt x6_2 (ji21)) = 92
      ·rw [if_pos c30] at H
       have c30b0 : ((bt x6_2 (ji21)) == 92) = true := beq_iff_eq.mpr c30
       have c30b1 : ((bt x6_2 (ji21)) != 92) = false := bne_eq_false_iff_eq.mpr c30
       clear c30
       have H' := mk0 H
       clear H
       go_wp2
       repeat (go_quiet (fail); try go_wp2)
       go_meet
       case rel => exact ⟨_, (((bt x6_2 (ji21)) == 92)), zq68, H', ⟨by have := HJ2.out; have := HK2.out; first | omega | exact Nat.le_refl _⟩, ⟨by repeat (first | (with_reducible first | exact HB.out | apply below_alloc | apply pw_below_drewN | apply below_drew1) | exact HB.out)⟩⟩
      rw [if_neg c30] at H
      have c30b0 : ((bt x6_2 (ji21)) == 92) = false := beq_eq_false_iff_ne.mpr c30
      have c30b1 : ((bt x6_2 (ji21)) != 92) = true := bne_iff_ne.mpr c30
      by_cases c31 : (bt x6_2 (ji21)) = 47
      ·rw [if_pos c31] at H
       have c31b0 : ((bt x6_2 (ji21)) == 47) = true := beq_iff_eq.mpr c31
       have c31b1 : ((bt x6_2 (ji21)) != 47) = false := bne_eq_false_iff_eq.mpr c31
       clear c31
       have H' := mk0 H
       clear H
       go_wp2
       repeat (go_quiet (fail); try go_wp2)
       go_meet
       case rel => exact ⟨_, (((bt x6_2 (ji21)) == 47)), zq68, H', ⟨by have := HJ2.out; have := HK2.out; first | omega | exact Nat.le_refl _⟩, ⟨by repeat (first | (with_reducible first | exact HB.out | apply below_alloc | apply pw_below_drewN | apply below_drew1) | exact HB.out)⟩⟩
      rw [if_neg c31] at H
      have c31b0 : ((bt x6_2 (ji21)) == 47) = false := beq_eq_false_iff_ne.mpr c31
      have c31b1 : ((bt x6_2 (ji21)) != 47) = true := bne_iff_ne.mpr c31
      by_cases c32 : (bt x6_2 (ji21)) = 98
      ·rw [if_pos c32] at H
       have c32b0 : ((bt x6_2 (ji21)) == 98) = true := beq_iff_eq.mpr c32
       have c32b1 : ((bt x6_2 (ji21)) != 98) = false := bne_eq_false_iff_eq.mpr c32
       clear c32
       have H' := mk0 H
       clear H
       go_wp2
       repeat (go_quiet (fail); try go_wp2)
       go_meet
       case rel => exact ⟨_, (((bt x6_2 (ji21)) == 98)), zq68, H', ⟨by have := HJ2.out; have := HK2.out; first | omega | exact Nat.le_refl _⟩, ⟨by repeat (first | (with_reducible first | exact HB.out | apply below_alloc | apply pw_below_drewN | apply below_drew1) | exact HB.out)⟩⟩
      rw [if_neg c32] at H
      have c32b0 : ((bt x6_2 (ji21)) == 98) = false := beq_eq_false_iff_ne.mpr c32
      have c32b1 : ((bt x6_2 (ji21)) != 98) = true := bne_iff_ne.mpr c32
      by_cases c33 : (bt x6_2 (ji21)) = 102
      ·rw [if_pos c33] at H
       have c33b0 : ((bt x6_2 (ji21)) == 102) = true := beq_iff_eq.mpr c33
       have c33b1 : ((bt x6_2 (ji21)) != 102) = false := bne_eq_false_iff_eq.mpr c33
       clear c33
       have H' := mk0 H
       clear H
       go_wp2
       repeat (go_quiet (fail); try go_wp2)
       go_meet
       case rel => exact ⟨_, (((bt x6_2 (ji21)) == 102)), zq68, H', ⟨by have := HJ2.out; have := HK2.out; first | omega | exact Nat.le_refl _⟩, ⟨by repeat (first | (with_reducible first | exact HB.out | apply below_alloc | apply pw_below_drewN | apply below_drew1) | exact HB.out)⟩⟩
      rw [if_neg c33] at H
      have c33b0 : ((bt x6_2 (ji21)) == 102) = false := beq_eq_false_iff_ne.mpr c33
      have c33b1 : ((bt x6_2 (ji21)) != 102) = true := bne_iff_ne.mpr c33
      by_cases c34 : (bt x6_2 (ji21)) = 110
      ·rw [if_pos c34] at H
       have c34b0 : ((bt x6_2 (ji21)) == 110) = true := beq_iff_eq.mpr c34
       have c34b1 : ((bt x6_2 (ji21)) != 110) = false := bne_eq_false_iff_eq.mpr c34
       clear c34
       have H' := mk0 H
       clear H
       go_wp2
       repeat (go_quiet (fail); try go_wp2)
       go_meet
       case rel => exact ⟨_, (((bt x6_2 (ji21)) == 110)), zq68, H', ⟨by have := HJ2.out; have := HK2.out; first | omega | exact Nat.le_refl _⟩, ⟨by repeat (first | (with_reducible first | exact HB.out | apply below_alloc | apply pw_below_drewN | apply below_drew1) | exact HB.out)⟩⟩
      rw [if_neg c34] at H
      have c34b0 : ((bt x6_2 (ji21)) == 110) = false := beq_eq_false_iff_ne.mpr c34
      have c34b1 : ((bt x6_2 (ji21)) != 110) = true := bne_iff_ne.mpr c34
      by_cases c35 : (bt x6_2 (ji21)) = 114
      rotate_left
      ·rw [if_neg c35] at H
       have c35b0 : ((bt x6_2 (ji21)) == 114) = false := beq_eq_false_iff_ne.mpr c35
       have c35b1 : ((bt x6_2 (ji21)) != 114) = true := bne_iff_ne.mpr c35
       have H' := mk0 H
       clear H
       go_wp2
       repeat (go_quiet (fail); try go_wp2)
       go_meet
       case rel => exact ⟨_, (((bt x6_2 (ji21)) == 116)), (by with_reducible rfl), H', ⟨by have := HJ2.out; have := HK2.out; first | omega | exact Nat.le_refl _⟩, ⟨by repeat (first | (with_reducible first | exact HB.out | apply below_alloc | apply pw_below_drewN | apply below_drew1) | exact HB.out)⟩⟩
      rw [if_pos c35] at H
      have c35b0 : ((bt x6_2 (ji21)) == 114) = true := beq_iff_eq.mpr c35
      have c35b1 : ((bt x6_2 (ji21)) != 114) = false := bne_eq_false_iff_eq.mpr c35
      clear c35
      have H' := mk0 H
      clear H
      go_wp2
      repeat (go_quiet (fail); try go_wp2)
      go_meet
      case rel => exact ⟨_, (((bt x6_2 (ji21)) == 114)), zq68, H', ⟨by have := HJ2.out; have := HK2.out; first | omega | exact Nat.le_refl _⟩, ⟨by repeat (first | (with_reducible first | exact HB.out | apply below_alloc | apply pw_below_drewN | apply below_drew1) | exact HB.out)⟩⟩
     case rest =>
      clear HC28 c17b0 c18b0 c22b0 c23b0 p24 q24 hx24 c26b0 c26b1 c27b0 c27b1
      obtain ⟨kq, x69_27, rfl, HA, HJ27, HB⟩ := hcut
      cases kq with
      | zero => exact absurd HA.out (by simp [fastjson_validateString.j2])
      | succ kj27 =>
       have H := HA.out
       clear HA
       simp only [fastjson_validateString.j2] at H
       by_cases c36 : x69_27 = true
       ·subst c36
        rw [if_pos rfl] at H
        have H' := mk0 H
        clear H
        go_wp2
        repeat (go_quiet (fail); try go_wp2)
        (try simp only [← hji21, ← hji25])
        go_roundg kj27
        case measure => have := HJ2.out; have := HK2.out; have := HJ27.out; omega
        case rel => exact ⟨((x6_2.extract ((ji25) : Int).toNat x6_2.size)), (by (simp only [← hji21, ← hji25]; done)), (by exact H'), ⟨by have := HJ2.out; have := HK2.out; have := HJ27.out; omega⟩, ⟨by repeat (first | (with_reducible first | exact HB.out | apply below_alloc | apply pw_below_drewN | apply below_drew1) | exact HB.out)⟩⟩
       replace c36 := Bool.eq_false_iff.mpr c36
       subst c36
       rw [if_neg (show ¬ (false = true) by decide)] at H
       by_cases c37 : (bt x6_2 (ji21)) = 117
       rotate_left
       ·rw [if_neg c37] at H
        have c37b0 : ((bt x6_2 (ji21)) == 117) = false := beq_eq_false_iff_ne.mpr c37
        have c37b1 : ((bt x6_2 (ji21)) != 117) = true := bne_iff_ne.mpr c37
        replace H := Option.bind_eq_some_iff.mp H
        obtain ⟨t114, A490, H⟩ := H
        (try dsimp only at H)
        have A49 := mk0 A490
        clear A490
        simp only [Option.some.injEq, Prod.mk.injEq] at H
        obtain ⟨rfl, rfl, rfl⟩ := H
        go_wp2_with (first | (go_at_call 54; (with_reducible refine (errors_New.calls (⟨#[117, 110, 107, 110, 111, 119, 110, 32, 101, 115, 99, 97, 112, 101, 32, 115, 101, 113, 117, 101, 110, 99, 101]⟩ : ByteArray) t114 _ A49.out).mono ?_); rintro e w50 ⟨z_t114, hz_t114, rfl, hb⟩; have Hz_t114 := mk0 hz_t114; clear hz_t114; have n0_ := mk0 (below_step zq2 hb); clear HB; have HB := n0_; clear n0_ hb; (try simp only [errW_none, errW_some])))
        repeat (go_quiet (first | (go_at_call 54; (with_reducible refine (errors_New.calls (⟨#[117, 110, 107, 110, 111, 119, 110, 32, 101, 115, 99, 97, 112, 101, 32, 115, 101, 113, 117, 101, 110, 99, 101]⟩ : ByteArray) t114 _ A49.out).mono ?_); rintro e w50 ⟨z_t114, hz_t114, rfl, hb⟩; have Hz_t114 := mk0 hz_t114; clear hz_t114; replace HB := mk0 (below_step zq2 hb); (try simp only [errW_none, errW_some]))); try go_wp2_with (first | (go_at_call 54; (with_reducible refine (errors_New.calls (⟨#[117, 110, 107, 110, 111, 119, 110, 32, 101, 115, 99, 97, 112, 101, 32, 115, 101, 113, 117, 101, 110, 99, 101]⟩ : ByteArray) t114 _ A49.out).mono ?_); rintro e w50 ⟨z_t114, hz_t114, rfl, hb⟩; have Hz_t114 := mk0 hz_t114; clear hz_t114; replace HB := mk0 (below_step zq2 hb); (try simp only [errW_none, errW_some]))))
        go_ret3
        exact ⟨z_t114, Hz_t114.out, by rfl, by repeat (first | (with_reducible first | exact HB.out | apply below_alloc | apply pw_below_drewN | apply below_drew1) | exact HB.out)⟩
       rw [if_pos c37] at H
       have c37b0 : ((bt x6_2 (ji21)) == 117) = true := beq_iff_eq.mpr c37
       have c37b1 : ((bt x6_2 (ji21)) != 117) = false := bne_eq_false_iff_eq.mpr c37
       clear c37
       by_cases c38 : ((x6_2.extract ((ji25) : Int).toNat x6_2.size).size : Int) < 4
       ·rw [if_pos c38] at H
        have c38b0 : decide (((x6_2.extract ((ji25) : Int).toNat x6_2.size).size : Int) < 4) = true := decide_eq_true c38
        have c38b0s := c38b0; simp only [ByteArray.size_extract, Nat.min_self] at c38b0s
        have c38b1 : decide ((x6_2.extract ((ji25) : Int).toNat x6_2.size).size < 4) = true := decide_eq_true (by omega)
        have c38b1s := c38b1; simp only [ByteArray.size_extract, Nat.min_self] at c38b1s
        clear c38
        replace H := Option.bind_eq_some_iff.mp H
        obtain ⟨t109, A390, H⟩ := H
        (try dsimp only at H)
        have A39 := mk0 A390
        clear A390
        simp only [Option.some.injEq, Prod.mk.injEq] at H
        obtain ⟨rfl, rfl, rfl⟩ := H
        go_wp2_with (first | (go_at_call 54; (with_reducible refine (errors_New.calls (⟨#[116, 111, 111, 32, 115, 104, 111, 114, 116, 32, 101, 115, 99, 97, 112, 101, 32, 115, 101, 113, 117, 101, 110, 99, 101, 58, 32, 92, 117]⟩ : ByteArray) t109 _ A39.out).mono ?_); rintro e w40 ⟨z_t109, hz_t109, rfl, hb⟩; have Hz_t109 := mk0 hz_t109; clear hz_t109; have n0_ := mk0 (below_step zq2 hb); clear HB; have HB := n0_; clear n0_ hb; (try simp only [errW_none, errW_some])))
        repeat (go_quiet (first | (go_at_call 54; (with_reducible refine (errors_New.calls (⟨#[116, 111, 111, 32, 115, 104, 111, 114, 116, 32, 101, 115, 99, 97, 112, 101, 32, 115, 101, 113, 117, 101, 110, 99, 101, 58, 32, 92, 117]⟩ : ByteArray) t109 _ A39.out).mono ?_); rintro e w40 ⟨z_t109, hz_t109, rfl, hb⟩; have Hz_t109 := mk0 hz_t109; clear hz_t109; replace HB := mk0 (below_step zq2 hb); (try simp only [errW_none, errW_some]))); try go_wp2_with (first | (go_at_call 54; (with_reducible refine (errors_New.calls (⟨#[116, 111, 111, 32, 115, 104, 111, 114, 116, 32, 101, 115, 99, 97, 112, 101, 32, 115, 101, 113, 117, 101, 110, 99, 101, 58, 32, 92, 117]⟩ : ByteArray) t109 _ A39.out).mono ?_); rintro e w40 ⟨z_t109, hz_t109, rfl, hb⟩; have Hz_t109 := mk0 hz_t109; clear hz_t109; replace HB := mk0 (below_step zq2 hb); (try simp only [errW_none, errW_some]))))
        go_ret3
        exact ⟨z_t109, Hz_t109.out, by rfl, by repeat (first | (with_reducible first | exact HB.out | apply below_alloc | apply pw_below_drewN | apply below_drew1) | exact HB.out)⟩
       rw [if_neg c38] at H
       have c38b0 : decide (((x6_2.extract ((ji25) : Int).toNat x6_2.size).size : Int) < 4) = false := decide_eq_false c38
       have c38b0s := c38b0; simp only [ByteArray.size_extract, Nat.min_self] at c38b0s
       have c38b1 : decide ((x6_2.extract ((ji25) : Int).toNat x6_2.size).size < 4) = false := decide_eq_false (by omega)
       have c38b1s := c38b1; simp only [ByteArray.size_extract, Nat.min_self] at c38b1s
       clear c38
       by_cases c41 : 0 ≤ 4
       rotate_left
       ·rw [if_neg c41] at H
        exact absurd H (by simp)
       rw [if_pos c41] at H
       have c41b0 := eq_true c41
       have c41b1 : decide (0 ≤ 4) = true := decide_eq_true c41
       clear c41
       by_cases c42 : 4 ≤ ((x6_2.extract ((ji25) : Int).toNat x6_2.size).size : Int)
       rotate_left
       ·rw [if_neg c42] at H
        exact absurd H (by simp)
       rw [if_pos c42] at H
       have c42b0 := eq_true c42
       have c42b1 : decide (4 ≤ ((x6_2.extract ((ji25) : Int).toNat x6_2.size).size : Int)) = true := decide_eq_true c42
       have c42b1s := c42b1; simp only [ByteArray.size_extract, Nat.min_self] at c42b1s
       clear c42
       replace H := Option.bind_eq_some_iff.mp H
       obtain ⟨⟨t110, t111⟩, A430, H⟩ := H
       (try dsimp only at H)
       have A43 := mk0 A430
       clear A430
       rcases t111 with _ | q112
       ·rw [if_pos (show (none : Option Int).isNone = true by rfl)] at H
        (try (obtain rfl := Zk.none_ Hz_t111.out))
        try simp only [errW_none, errW_some]
        have c44b0 := eq_true (of_decide_eq_true zq5 : 4 ≤ ((x6_2.extract ((ji25) : Int).toNat x6_2.size).size : Int))
        have H' := mk0 H
        clear H
        go_wp2_with (first | (go_at_call 55; (with_reducible refine (strconv_ParseUint_55.calls ((x6_2.extract ((ji25) : Int).toNat x6_2.size).extract 0 4) 16 16 t110 none _ ?side1 A43.out).mono ?_); (case side1 => exact zq29); rintro e w45 ⟨zn1_, hzn1_, rfl, hb⟩; obtain rfl := Zk.none_ hzn1_; have n0_ := mk0 (below_step zq2 hb); clear HB; have HB := n0_; clear n0_ hb; (try simp only [errW_none, errW_some])))
        repeat (go_quiet (first | (go_at_call 55; (with_reducible refine (strconv_ParseUint_55.calls ((x6_2.extract ((ji25) : Int).toNat x6_2.size).extract 0 4) 16 16 t110 none _ ?side1 A43.out).mono ?_); (case side1 => exact zq29); rintro e w45 ⟨zn1_, hzn1_, rfl, hb⟩; obtain rfl := Zk.none_ hzn1_; replace HB := mk0 (below_step zq2 hb); (try simp only [errW_none, errW_some]))); try go_wp2_with (first | (go_at_call 55; (with_reducible refine (strconv_ParseUint_55.calls ((x6_2.extract ((ji25) : Int).toNat x6_2.size).extract 0 4) 16 16 t110 none _ ?side1 A43.out).mono ?_); (case side1 => exact zq29); rintro e w45 ⟨zn1_, hzn1_, rfl, hb⟩; obtain rfl := Zk.none_ hzn1_; replace HB := mk0 (below_step zq2 hb); (try simp only [errW_none, errW_some]))))
        (try simp only [← hji21, ← hji25])
        go_roundg kj27
        case measure => have := HJ2.out; have := HK2.out; have := HJ27.out; omega
        case rel => exact ⟨((x6_2.extract ((ji25) : Int).toNat x6_2.size).extract 4 (x6_2.extract ((ji25) : Int).toNat x6_2.size).size), (by (simp only [← hji21, ← hji25]; done)), (by exact H'), ⟨by have := HJ2.out; have := HK2.out; have := HJ27.out; omega⟩, ⟨by repeat (first | (with_reducible first | exact HB.out | apply below_alloc | apply pw_below_drewN | apply below_drew1) | exact HB.out)⟩⟩
       rw [if_neg (show ¬ (some q112).isNone = true by simp)] at H
       (try (obtain ⟨m_q112, rfl⟩ := Zk.some_ Hz_t111.out))
       try simp only [errW_none, errW_some]
       replace H := Option.bind_eq_some_iff.mp H
       obtain ⟨t113, A460, H⟩ := H
       (try dsimp only at H)
       have A46 := mk0 A460
       clear A460
       simp only [Option.some.injEq, Prod.mk.injEq] at H
       obtain ⟨rfl, rfl, rfl⟩ := H
       go_wp2_with (first | (go_at_call 55; (with_reducible refine (strconv_ParseUint_55.calls ((x6_2.extract ((ji25) : Int).toNat x6_2.size).extract 0 4) 16 16 t110 (some q112) _ ?side1 A43.out).mono ?_); (case side1 => exact zq29); rintro e w47 ⟨zs1_, hzs1_, rfl, hb⟩; obtain ⟨m_q112, rfl⟩ := Zk.some_ hzs1_; have n0_ := mk0 (below_step zq2 hb); clear HB; have HB := n0_; clear n0_ hb; (try simp only [errW_none, errW_some])) | (go_at_call 54; (with_reducible refine (errors_New.calls (⟨#[105, 110, 118, 97, 108, 105, 100, 32, 101, 115, 99, 97, 112, 101, 32, 115, 101, 113, 117, 101, 110, 99, 101, 32, 92, 117]⟩ : ByteArray) t113 _ A46.out).mono ?_); rintro e w48 ⟨z_t113, hz_t113, rfl, hb⟩; have Hz_t113 := mk0 hz_t113; clear hz_t113; have n0_ := mk0 (below_step zq2 hb); clear HB; have HB := n0_; clear n0_ hb; (try simp only [errW_none, errW_some])))
       repeat (go_quiet (first | (go_at_call 55; (with_reducible refine (strconv_ParseUint_55.calls ((x6_2.extract ((ji25) : Int).toNat x6_2.size).extract 0 4) 16 16 t110 (some q112) _ ?side1 A43.out).mono ?_); (case side1 => exact zq29); rintro e w47 ⟨zs1_, hzs1_, rfl, hb⟩; obtain ⟨m_q112, rfl⟩ := Zk.some_ hzs1_; replace HB := mk0 (below_step zq2 hb); (try simp only [errW_none, errW_some])) | (go_at_call 54; (with_reducible refine (errors_New.calls (⟨#[105, 110, 118, 97, 108, 105, 100, 32, 101, 115, 99, 97, 112, 101, 32, 115, 101, 113, 117, 101, 110, 99, 101, 32, 92, 117]⟩ : ByteArray) t113 _ A46.out).mono ?_); rintro e w48 ⟨z_t113, hz_t113, rfl, hb⟩; have Hz_t113 := mk0 hz_t113; clear hz_t113; replace HB := mk0 (below_step zq2 hb); (try simp only [errW_none, errW_some]))); try go_wp2_with (first | (go_at_call 55; (with_reducible refine (strconv_ParseUint_55.calls ((x6_2.extract ((ji25) : Int).toNat x6_2.size).extract 0 4) 16 16 t110 (some q112) _ ?side1 A43.out).mono ?_); (case side1 => exact zq29); rintro e w47 ⟨zs1_, hzs1_, rfl, hb⟩; obtain ⟨m_q112, rfl⟩ := Zk.some_ hzs1_; replace HB := mk0 (below_step zq2 hb); (try simp only [errW_none, errW_some])) | (go_at_call 54; (with_reducible refine (errors_New.calls (⟨#[105, 110, 118, 97, 108, 105, 100, 32, 101, 115, 99, 97, 112, 101, 32, 115, 101, 113, 117, 101, 110, 99, 101, 32, 92, 117]⟩ : ByteArray) t113 _ A46.out).mono ?_); rintro e w48 ⟨z_t113, hz_t113, rfl, hb⟩; have Hz_t113 := mk0 hz_t113; clear hz_t113; replace HB := mk0 (below_step zq2 hb); (try simp only [errW_none, errW_some]))))
       go_ret3
       exact ⟨z_t113, Hz_t113.out, by rfl, by repeat (first | (with_reducible first | exact HB.out | apply below_alloc | apply pw_below_drewN | apply below_drew1) | exact HB.out)⟩
def fastjson_validateKey.l0 : Nat → ByteArray → Int → Int → Option (ByteArray × ByteArray × Option Int)
  | 0, _, _, _ => none
  | k + 1, x0, x7, x8 => if x8 < x7 then (if 0 ≤ x8 then (if x8 < (x0.size : Int) then (if (bt x0 x8) = 34 then (if x8 ≤ (x0.size : Int) then (if 0 ≤ (wrap64 (x8 + 1)) then (if (wrap64 (x8 + 1)) ≤ (x0.size : Int) then (some (x0.extract 0 (x8 : Int).toNat, x0.extract ((wrap64 (x8 + 1)) : Int).toNat x0.size, none)) else (none)) else (none)) else (none)) else (if (bt x0 x8) = 92 then ((fastjson_validateString.f k x0).bind fun bt102 => (some (bt102.1, bt102.2.1, bt102.2.2))) else (fastjson_validateKey.l0 k x0 x7 (wrap64 (x8 + 1))))) else (none)) else (none)) else ((errors_New.f (⟨#[109, 105, 115, 115, 105, 110, 103, 32, 99, 108, 111, 115, 105, 110, 103]⟩ : ByteArray)).bind fun t101 => (some ((⟨#[]⟩ : ByteArray), x0, t101)))
def fastjson_validateKey.f (k : Nat) (a0 : ByteArray) : Option (ByteArray × ByteArray × Option Int) := fastjson_validateKey.l0 k a0 (a0.size : Int) 0
theorem fastjson_validateKey.mono_l : ∀ k, (∀ y0 y1 y2, LeO (fastjson_validateKey.l0 k y0 y1 y2) (fastjson_validateKey.l0 (k + 1) y0 y1 y2))
 | 0 => fun _ _ _ r h => by simp [fastjson_validateKey.l0] at h
 | k + 1 => by
  have ih0 := fastjson_validateKey.mono_l k
  ·intro y0 y1 y2
   unfold fastjson_validateKey.l0
   repeat' first
   | (with_reducible exact ih0 _ _ _)
   | (with_reducible exact fastjson_validateString.mono _ _)
   | (with_reducible exact LeO.refl _)
   | (with_reducible exact LeO.none _)
   | (with_reducible refine LeO.ite ?_ ?_)
   | (with_reducible refine LeO.bind ?_ (fun _ => ?_))
   | exact ih0 _ _ _
   | exact fastjson_validateString.mono _ _
   | exact LeO.none _
   | refine LeO.ite ?_ ?_
   | refine LeO.bind ?_ (fun _ => ?_)
theorem fastjson_validateKey.mono : ∀ a0 k, LeO (fastjson_validateKey.f k a0) (fastjson_validateKey.f (k + 1) a0) := by
 intro a0 k
 have ih0 := fastjson_validateKey.mono_l k
 unfold fastjson_validateKey.f
 repeat' first
  | (with_reducible exact ih0 _ _ _)
  | (with_reducible exact fastjson_validateString.mono _ _)
  | (with_reducible exact LeO.refl _)
  | (with_reducible exact LeO.none _)
  | (with_reducible refine LeO.ite ?_ ?_)
  | (with_reducible refine LeO.bind ?_ (fun _ => ?_))
  | exact ih0 _ _ _
  | exact fastjson_validateString.mono _ _
  | exact LeO.none _
  | refine LeO.ite ?_ ?_
  | refine LeO.bind ?_ (fun _ => ?_)
set_option maxHeartbeats 8000000 in
set_option maxRecDepth 100000 in
theorem fastjson_validateKey.calls (k : Nat) (a0 : ByteArray) (r1 : ByteArray) (r2 : ByteArray) (r3 : Option Int) (w : World) (hG : Laid w) (h : fastjson_validateKey.f k a0 = some (r1, r2, r3)) :
 Calls Tryd.prog 125 #[.string a0] w fun e w' => ∃ z_r3 : Option Int, Zk z_r3 r3 ∧ e = .returned (.tuple #[.string r1, .string r2, errW z_r3]) ∧ Below w.heap.size w w' := by
 have HG := mk0 hG
 clear hG
 have HB := mk0 (Below.refl w.heap.size w)
 have H : (fastjson_validateKey.l0 k a0 (a0.size : Int) 0) = some (r1, r2, r3) := h
 clear h
 have H' := mk0 H
 clear H
 go_enter Tryd.func125, Tryd.ntmps125
 go_wp2
 repeat (go_quiet (fail); try go_wp2)
 go_loopg [8] k (fun kq v8 w' => ∃ (x8_1 : Int), v8 = .int .i64 x8_1 ∧ Aside0 (fastjson_validateKey.l0 kq a0 (a0.size : Int) x8_1 = some (r1, r2, r3)) ∧ Aside0 (kq ≤ k) ∧ Aside0 (Below w.heap.size w w'))
 case atStart => exact ⟨(0), (by rfl), H', ⟨Nat.le_refl _⟩, ⟨by repeat (first | (with_reducible first | exact HB.out | apply below_alloc | apply pw_below_drewN | apply below_drew1) | exact HB.out)⟩⟩
 case round =>
  clear H'
  obtain ⟨x8_1, rfl, HA, HK1, HB⟩ := hrel
  cases gk with
  | zero => exact absurd HA.out (by simp [fastjson_validateKey.l0])
  | succ k1 =>
   have H := HA.out
   clear HA
   simp only [fastjson_validateKey.l0] at H
   by_cases c2 : x8_1 < (a0.size : Int)
   rotate_left
   ·rw [if_neg c2] at H
    have c2b0 : decide (x8_1 < (a0.size : Int)) = false := decide_eq_false c2
    clear c2
    replace H := Option.bind_eq_some_iff.mp H
    obtain ⟨t101, A160, H⟩ := H
    (try dsimp only at H)
    have A16 := mk0 A160
    clear A160
    simp only [Option.some.injEq, Prod.mk.injEq] at H
    obtain ⟨rfl, rfl, rfl⟩ := H
    go_wp2_with (first | (go_at_call 54; (with_reducible refine (errors_New.calls (⟨#[109, 105, 115, 115, 105, 110, 103, 32, 99, 108, 111, 115, 105, 110, 103]⟩ : ByteArray) t101 _ A16.out).mono ?_); rintro e w17 ⟨z_t101, hz_t101, rfl, hb⟩; have Hz_t101 := mk0 hz_t101; clear hz_t101; have n0_ := mk0 (below_step zq2 hb); clear HB; have HB := n0_; clear n0_ hb; (try simp only [errW_none, errW_some])))
    repeat (go_quiet (first | (go_at_call 54; (with_reducible refine (errors_New.calls (⟨#[109, 105, 115, 115, 105, 110, 103, 32, 99, 108, 111, 115, 105, 110, 103]⟩ : ByteArray) t101 _ A16.out).mono ?_); rintro e w17 ⟨z_t101, hz_t101, rfl, hb⟩; have Hz_t101 := mk0 hz_t101; clear hz_t101; replace HB := mk0 (below_step zq2 hb); (try simp only [errW_none, errW_some]))); try go_wp2_with (first | (go_at_call 54; (with_reducible refine (errors_New.calls (⟨#[109, 105, 115, 115, 105, 110, 103, 32, 99, 108, 111, 115, 105, 110, 103]⟩ : ByteArray) t101 _ A16.out).mono ?_); rintro e w17 ⟨z_t101, hz_t101, rfl, hb⟩; have Hz_t101 := mk0 hz_t101; clear hz_t101; replace HB := mk0 (below_step zq2 hb); (try simp only [errW_none, errW_some]))))
    go_ret3
    exact ⟨z_t101, Hz_t101.out, by rfl, by repeat (first | (with_reducible first | exact HB.out | apply below_alloc | apply pw_below_drewN | apply below_drew1) | exact HB.out)⟩
   rw [if_pos c2] at H
   have c2b0 : decide (x8_1 < (a0.size : Int)) = true := decide_eq_true c2
   clear c2
   by_cases c3 : 0 ≤ x8_1
   rotate_left
   ·rw [if_neg c3] at H
    exact absurd H (by simp)
   rw [if_pos c3] at H
   have c3b0 : decide (0 ≤ x8_1) = true := decide_eq_true c3
   clear c3
   by_cases c4 : x8_1 < (a0.size : Int)
   rotate_left
   ·rw [if_neg c4] at H
    exact absurd H (by simp)
   rw [if_pos c4] at H
   have c4b0 : decide (x8_1 < (a0.size : Int)) = true := decide_eq_true c4
   clear c4
   by_cases c6 : (bt a0 x8_1) = 34
   ·rw [if_pos c6] at H
    have c6b0 : ((bt a0 x8_1) == 34) = true := beq_iff_eq.mpr c6
    have c6b1 : ((bt a0 x8_1) != 34) = false := bne_eq_false_iff_eq.mpr c6
    clear c6
    have c7b0 := eq_true (of_decide_eq_true zq5 : 0 ≤ x8_1)
    by_cases c8 : x8_1 ≤ (a0.size : Int)
    rotate_left
    ·rw [if_neg c8] at H
     exact absurd H (by simp)
    rw [if_pos c8] at H
    have c8b0 := eq_true c8
    have c8b1 : decide (x8_1 ≤ (a0.size : Int)) = true := decide_eq_true c8
    clear c8
    obtain ⟨ji9, hji9⟩ : ∃ j_ : Int, (wrap64 (x8_1 + 1)) = j_ := ⟨_, rfl⟩
    replace H : (if 0 ≤ (ji9) then (if (ji9) ≤ (a0.size : Int) then (some (a0.extract 0 (x8_1 : Int).toNat, a0.extract ((ji9) : Int).toNat a0.size, none)) else (none)) else (none)) = some (r1, r2, r3) := by (rw [hji9] at H; exact H)
    have hji9w : (IntKind.i64.wrap (x8_1 + 1)) = ji9 := (i64_w _).trans hji9
    by_cases c10 : 0 ≤ (ji9)
    rotate_left
    ·rw [if_neg c10] at H
     exact absurd H (by simp)
    rw [if_pos c10] at H
    have c10b0 := eq_true c10
    have c10b1 : decide (0 ≤ (ji9)) = true := decide_eq_true c10
    clear c10
    by_cases c11 : (ji9) ≤ (a0.size : Int)
    rotate_left
    ·rw [if_neg c11] at H
     exact absurd H (by simp)
    rw [if_pos c11] at H
    have c11b0 := eq_true c11
    have c11b1 : decide ((ji9) ≤ (a0.size : Int)) = true := decide_eq_true c11
    clear c11
    simp only [Option.some.injEq, Prod.mk.injEq] at H
    obtain ⟨rfl, rfl, rfl⟩ := H
    have p5 : 0 ≤ (x8_1 : Int) := of_decide_eq_true zq5
    have q5 : x8_1 < (a0.size : Int) := of_decide_eq_true zq5
    have hx5 := bt_at a0 x8_1
    replace p5 := eq_true p5
    replace q5 := eq_true q5
    go_wp2
    repeat (go_quiet (fail); try go_wp2)
    go_ret3
    exact ⟨none, Zk.nn, by rfl, by repeat (first | (with_reducible first | exact HB.out | apply below_alloc | apply pw_below_drewN | apply below_drew1) | exact HB.out)⟩
   rw [if_neg c6] at H
   have c6b0 : ((bt a0 x8_1) == 34) = false := beq_eq_false_iff_ne.mpr c6
   have c6b1 : ((bt a0 x8_1) != 34) = true := bne_iff_ne.mpr c6
   by_cases c13 : (bt a0 x8_1) = 92
   rotate_left
   ·rw [if_neg c13] at H
    have c13b0 : ((bt a0 x8_1) == 92) = false := beq_eq_false_iff_ne.mpr c13
    have c13b1 : ((bt a0 x8_1) != 92) = true := bne_iff_ne.mpr c13
    have H' := mk0 H
    clear H
    have p5 : 0 ≤ (x8_1 : Int) := of_decide_eq_true zq5
    have q5 : x8_1 < (a0.size : Int) := of_decide_eq_true zq5
    have hx5 := bt_at a0 x8_1
    replace p5 := eq_true p5
    replace q5 := eq_true q5
    have p12 : 0 ≤ (x8_1 : Int) := of_decide_eq_true zq5
    have q12 : x8_1 < (a0.size : Int) := of_decide_eq_true zq5
    have hx12 := bt_at a0 x8_1
    replace p12 := eq_true p12
    replace q12 := eq_true q12
    go_wp2
    repeat (go_quiet (fail); try go_wp2)
    go_roundg k1
    case measure => have := HK1.out; omega
    case rel => exact ⟨(wrap64 (x8_1 + 1)), (by rfl), H', ⟨by have := HK1.out; omega⟩, ⟨by repeat (first | (with_reducible first | exact HB.out | apply below_alloc | apply pw_below_drewN | apply below_drew1) | exact HB.out)⟩⟩
   rw [if_pos c13] at H
   have c13b0 : ((bt a0 x8_1) == 92) = true := beq_iff_eq.mpr c13
   have c13b1 : ((bt a0 x8_1) != 92) = false := bne_eq_false_iff_eq.mpr c13
   clear c13
   replace H := Option.bind_eq_some_iff.mp H
   obtain ⟨⟨t102, t103, t104⟩, A140, H⟩ := H
   (try dsimp only at H)
   have A14 := mk0 A140
   clear A140
   simp only [Option.some.injEq, Prod.mk.injEq] at H
   obtain ⟨rfl, rfl, rfl⟩ := H
   have p5 : 0 ≤ (x8_1 : Int) := of_decide_eq_true zq5
   have q5 : x8_1 < (a0.size : Int) := of_decide_eq_true zq5
   have hx5 := bt_at a0 x8_1
   replace p5 := eq_true p5
   replace q5 := eq_true q5
   have p12 : 0 ≤ (x8_1 : Int) := of_decide_eq_true zq5
   have q12 : x8_1 < (a0.size : Int) := of_decide_eq_true zq5
   have hx12 := bt_at a0 x8_1
   replace p12 := eq_true p12
   replace q12 := eq_true q12
   go_wp2_with (first | (go_at_call 107; (with_reducible refine (fastjson_validateString.calls k1 a0 t102 t103 t104 _ ?side1 A14.out).mono ?_); (case side1 => exact zq29); rintro e w15 ⟨z_t104, hz_t104, rfl, hb⟩; have Hz_t104 := mk0 hz_t104; clear hz_t104; have n0_ := mk0 (below_step zq2 hb); clear HB; have HB := n0_; clear n0_ hb; (try simp only [errW_none, errW_some])))
   repeat (go_quiet (first | (go_at_call 107; (with_reducible refine (fastjson_validateString.calls k1 a0 t102 t103 t104 _ ?side1 A14.out).mono ?_); (case side1 => exact zq29); rintro e w15 ⟨z_t104, hz_t104, rfl, hb⟩; have Hz_t104 := mk0 hz_t104; clear hz_t104; replace HB := mk0 (below_step zq2 hb); (try simp only [errW_none, errW_some]))); try go_wp2_with (first | (go_at_call 107; (with_reducible refine (fastjson_validateString.calls k1 a0 t102 t103 t104 _ ?side1 A14.out).mono ?_); (case side1 => exact zq29); rintro e w15 ⟨z_t104, hz_t104, rfl, hb⟩; have Hz_t104 := mk0 hz_t104; clear hz_t104; replace HB := mk0 (below_step zq2 hb); (try simp only [errW_none, errW_some]))))
   go_ret3
   exact ⟨z_t104, Hz_t104.out, by rfl, by repeat (first | (with_reducible first | exact HB.out | apply below_alloc | apply pw_below_drewN | apply below_drew1) | exact HB.out)⟩
mutual
def fastjson_validateNumber.j0 : Nat → ByteArray → Option (ByteArray × Option Int)
  | 0, _ => none
  | k + 1, x0 => fastjson_validateNumber.l0 k x0 0
def fastjson_validateNumber.j2 : Nat → ByteArray → Int → Option (ByteArray × Option Int)
  | 0, _, _ => none
  | k + 1, x0, x4 => if x4 ≤ 0 then ((errors_New.f (⟨#[101, 120, 112, 101, 99, 116, 105, 110, 103, 32, 48, 46, 46, 57, 32, 100, 105, 103, 105, 116, 44, 32, 103, 111, 116]⟩ : ByteArray)).bind fun t103 => (some (x0, t103))) else (if 0 < (x0.size : Int) then (if (bt x0 0) = 48 then (fastjson_validateNumber.j3 k x0 x4 (x4 != 1)) else (fastjson_validateNumber.j3 k x0 x4 false)) else (none))
def fastjson_validateNumber.j3 : Nat → ByteArray → Int → Bool → Option (ByteArray × Option Int)
  | 0, _, _, _ => none
  | k + 1, x0, x4, x46 => if x46 = true then ((errors_New.f (⟨#[117, 110, 101, 120, 112, 101, 99, 116, 101, 100, 32, 110, 117, 109, 98, 101, 114, 32, 115, 116, 97, 114, 116, 105, 110, 103, 32, 102, 114, 111, 109, 32, 48]⟩ : ByteArray)).bind fun t104 => (some (x0, t104))) else (if x4 ≥ (x0.size : Int) then (some ((⟨#[]⟩ : ByteArray), none)) else (if 0 ≤ x4 then (if x4 < (x0.size : Int) then (if (bt x0 x4) = 46 then (if 0 ≤ (wrap64 (x4 + 1)) then (if (wrap64 (x4 + 1)) ≤ (x0.size : Int) then (if ((x0.extract ((wrap64 (x4 + 1)) : Int).toNat x0.size).size : Int) = 0 then ((errors_New.f (⟨#[109, 105, 115, 115, 105, 110, 103, 32, 102, 114, 97, 99, 116, 105, 111, 110, 97, 108, 32, 112, 97, 114, 116]⟩ : ByteArray)).bind fun t105 => (some (x0.extract ((wrap64 (x4 + 1)) : Int).toNat x0.size, t105))) else (fastjson_validateNumber.l1 k (x0.extract ((wrap64 (x4 + 1)) : Int).toNat x0.size) 0)) else (none)) else (none)) else (fastjson_validateNumber.j6 k x0 x4)) else (none)) else (none)))
def fastjson_validateNumber.j6 : Nat → ByteArray → Int → Option (ByteArray × Option Int)
  | 0, _, _ => none
  | k + 1, x0, x4 => if 0 ≤ x4 then (if x4 < (x0.size : Int) then (if (bt x0 x4) = 101 then (fastjson_validateNumber.j7 k x0 x4 true) else (fastjson_validateNumber.j7 k x0 x4 ((bt x0 x4) == 69))) else (none)) else (none)
def fastjson_validateNumber.j7 : Nat → ByteArray → Int → Bool → Option (ByteArray × Option Int)
  | 0, _, _, _ => none
  | k + 1, x0, x4, x99 => if x99 = true then (if 0 ≤ (wrap64 (x4 + 1)) then (if (wrap64 (x4 + 1)) ≤ (x0.size : Int) then (if ((x0.extract ((wrap64 (x4 + 1)) : Int).toNat x0.size).size : Int) = 0 then ((errors_New.f (⟨#[109, 105, 115, 115, 105, 110, 103, 32, 101, 120, 112, 111, 110, 101, 110, 116, 32, 112, 97, 114, 116]⟩ : ByteArray)).bind fun t107 => (some (x0.extract ((wrap64 (x4 + 1)) : Int).toNat x0.size, t107))) else (if 0 < ((x0.extract ((wrap64 (x4 + 1)) : Int).toNat x0.size).size : Int) then (if (bt (x0.extract ((wrap64 (x4 + 1)) : Int).toNat x0.size) 0) = 45 then (fastjson_validateNumber.j8 k (x0.extract ((wrap64 (x4 + 1)) : Int).toNat x0.size) true) else (fastjson_validateNumber.j8 k (x0.extract ((wrap64 (x4 + 1)) : Int).toNat x0.size) ((bt (x0.extract ((wrap64 (x4 + 1)) : Int).toNat x0.size) 0) == 43))) else (none))) else (none)) else (none)) else (if 0 ≤ x4 then (if x4 ≤ (x0.size : Int) then (some (x0.extract (x4 : Int).toNat x0.size, none)) else (none)) else (none))
def fastjson_validateNumber.j8 : Nat → ByteArray → Bool → Option (ByteArray × Option Int)
  | 0, _, _ => none
  | k + 1, x0, x116 => if x116 = true then (if 1 ≤ (x0.size : Int) then (if ((x0.extract 1 x0.size).size : Int) = 0 then ((errors_New.f (⟨#[109, 105, 115, 115, 105, 110, 103, 32, 101, 120, 112, 111, 110, 101, 110, 116, 32, 112, 97, 114, 116]⟩ : ByteArray)).bind fun t108 => (some (x0.extract 1 x0.size, t108))) else (fastjson_validateNumber.j9 k (x0.extract 1 x0.size))) else (none)) else (fastjson_validateNumber.j9 k x0)
def fastjson_validateNumber.j9 : Nat → ByteArray → Option (ByteArray × Option Int)
  | 0, _ => none
  | k + 1, x0 => fastjson_validateNumber.l2 k x0 0
def fastjson_validateNumber.j11 : Nat → ByteArray → Int → Option (ByteArray × Option Int)
  | 0, _, _ => none
  | k + 1, x0, x4 => if x4 = 0 then ((errors_New.f (⟨#[101, 120, 112, 101, 99, 116, 105, 110, 103, 32, 48, 46, 46, 57, 32, 100, 105, 103, 105, 116, 32, 105, 110, 32, 101, 120, 112, 111, 110, 101, 110, 116, 32, 112, 97, 114, 116, 44, 32, 103, 111, 116]⟩ : ByteArray)).bind fun t109 => (some (x0, t109))) else (if x4 ≥ (x0.size : Int) then (some ((⟨#[]⟩ : ByteArray), none)) else (if 0 ≤ x4 then (if x4 ≤ (x0.size : Int) then (some (x0.extract (x4 : Int).toNat x0.size, none)) else (none)) else (none)))
def fastjson_validateNumber.l2 : Nat → ByteArray → Int → Option (ByteArray × Option Int)
  | 0, _, _ => none
  | k + 1, x0, x4 => if x4 < (x0.size : Int) then (if 0 ≤ x4 then (if (bt x0 x4) < 48 then (fastjson_validateNumber.j11 k x0 x4) else (if (bt x0 x4) > 57 then (fastjson_validateNumber.j11 k x0 x4) else (fastjson_validateNumber.l2 k x0 (wrap64 (x4 + 1))))) else (none)) else (fastjson_validateNumber.j11 k x0 x4)
def fastjson_validateNumber.j5 : Nat → ByteArray → Int → Option (ByteArray × Option Int)
  | 0, _, _ => none
  | k + 1, x0, x4 => if x4 = 0 then ((errors_New.f (⟨#[101, 120, 112, 101, 99, 116, 105, 110, 103, 32, 48, 46, 46, 57, 32, 100, 105, 103, 105, 116, 32, 105, 110, 32, 102, 114, 97, 99, 116, 105, 111, 110, 97, 108, 32, 112, 97, 114, 116, 44, 32, 103, 111, 116]⟩ : ByteArray)).bind fun t106 => (some (x0, t106))) else (if x4 ≥ (x0.size : Int) then (some ((⟨#[]⟩ : ByteArray), none)) else (fastjson_validateNumber.j6 k x0 x4))
def fastjson_validateNumber.l1 : Nat → ByteArray → Int → Option (ByteArray × Option Int)
  | 0, _, _ => none
  | k + 1, x0, x4 => if x4 < (x0.size : Int) then (if 0 ≤ x4 then (if (bt x0 x4) < 48 then (fastjson_validateNumber.j5 k x0 x4) else (if (bt x0 x4) > 57 then (fastjson_validateNumber.j5 k x0 x4) else (fastjson_validateNumber.l1 k x0 (wrap64 (x4 + 1))))) else (none)) else (fastjson_validateNumber.j5 k x0 x4)
def fastjson_validateNumber.l0 : Nat → ByteArray → Int → Option (ByteArray × Option Int)
  | 0, _, _ => none
  | k + 1, x0, x4 => if x4 < (x0.size : Int) then (if 0 ≤ x4 then (if (bt x0 x4) < 48 then (fastjson_validateNumber.j2 k x0 x4) else (if (bt x0 x4) > 57 then (fastjson_validateNumber.j2 k x0 x4) else (fastjson_validateNumber.l0 k x0 (wrap64 (x4 + 1))))) else (none)) else (fastjson_validateNumber.j2 k x0 x4)
end
def fastjson_validateNumber.f (k : Nat) (a0 : ByteArray) : Option (ByteArray × Option Int) := if (a0.size : Int) = 0 then ((errors_New.f (⟨#[122, 101, 114, 111, 45, 108, 101, 110, 103, 116, 104, 32, 110, 117, 109, 98, 101, 114]⟩ : ByteArray)).bind fun t101 => (some (a0, t101))) else (if 0 < (a0.size : Int) then (if (bt a0 0) = 45 then (if 1 ≤ (a0.size : Int) then (if ((a0.extract 1 a0.size).size : Int) = 0 then ((errors_New.f (⟨#[109, 105, 115, 115, 105, 110, 103, 32, 110, 117, 109, 98, 101, 114, 32, 97, 102, 116, 101, 114, 32, 109, 105, 110, 117, 115]⟩ : ByteArray)).bind fun t102 => (some (a0.extract 1 a0.size, t102))) else (fastjson_validateNumber.j0 k (a0.extract 1 a0.size))) else (none)) else (fastjson_validateNumber.j0 k a0)) else (none))
theorem fastjson_validateNumber.mono_l : ∀ k, (∀ y0, LeO (fastjson_validateNumber.j0 k y0) (fastjson_validateNumber.j0 (k + 1) y0)) ∧ (∀ y0 y1, LeO (fastjson_validateNumber.j2 k y0 y1) (fastjson_validateNumber.j2 (k + 1) y0 y1)) ∧ (∀ y0 y1 y2, LeO (fastjson_validateNumber.j3 k y0 y1 y2) (fastjson_validateNumber.j3 (k + 1) y0 y1 y2)) ∧ (∀ y0 y1, LeO (fastjson_validateNumber.j6 k y0 y1) (fastjson_validateNumber.j6 (k + 1) y0 y1)) ∧ (∀ y0 y1 y2, LeO (fastjson_validateNumber.j7 k y0 y1 y2) (fastjson_validateNumber.j7 (k + 1) y0 y1 y2)) ∧ (∀ y0 y1, LeO (fastjson_validateNumber.j8 k y0 y1) (fastjson_validateNumber.j8 (k + 1) y0 y1)) ∧ (∀ y0, LeO (fastjson_validateNumber.j9 k y0) (fastjson_validateNumber.j9 (k + 1) y0)) ∧ (∀ y0 y1, LeO (fastjson_validateNumber.j11 k y0 y1) (fastjson_validateNumber.j11 (k + 1) y0 y1)) ∧ (∀ y0 y1, LeO (fastjson_validateNumber.l2 k y0 y1) (fastjson_validateNumber.l2 (k + 1) y0 y1)) ∧ (∀ y0 y1, LeO (fastjson_validateNumber.j5 k y0 y1) (fastjson_validateNumber.j5 (k + 1) y0 y1)) ∧ (∀ y0 y1, LeO (fastjson_validateNumber.l1 k y0 y1) (fastjson_validateNumber.l1 (k + 1) y0 y1)) ∧ (∀ y0 y1, LeO (fastjson_validateNumber.l0 k y0 y1) (fastjson_validateNumber.l0 (k + 1) y0 y1))
 | 0 => ⟨fun _ r h => by simp [fastjson_validateNumber.j0] at h, fun _ _ r h => by simp [fastjson_validateNumber.j2] at h, fun _ _ _ r h => by simp [fastjson_validateNumber.j3] at h, fun _ _ r h => by simp [fastjson_validateNumber.j6] at h, fun _ _ _ r h => by simp [fastjson_validateNumber.j7] at h, fun _ _ r h => by simp [fastjson_validateNumber.j8] at h, fun _ r h => by simp [fastjson_validateNumber.j9] at h, fun _ _ r h => by simp [fastjson_validateNumber.j11] at h, fun _ _ r h => by simp [fastjson_validateNumber.l2] at h, fun _ _ r h => by simp [fastjson_validateNumber.j5] at h, fun _ _ r h => by simp [fastjson_validateNumber.l1] at h, fun _ _ r h => by simp [fastjson_validateNumber.l0] at h⟩
 | k + 1 => by
  obtain ⟨ih0, ih1, ih2, ih3, ih4, ih5, ih6, ih7, ih8, ih9, ih10, ih11⟩ := fastjson_validateNumber.mono_l k
  refine ⟨?_, ?_, ?_, ?_, ?_, ?_, ?_, ?_, ?_, ?_, ?_, ?_⟩
  ·intro y0
   unfold fastjson_validateNumber.j0
   repeat' first
   | (with_reducible exact ih0 _)
   | (with_reducible exact ih1 _ _)
   | (with_reducible exact ih2 _ _ _)
   | (with_reducible exact ih3 _ _)
   | (with_reducible exact ih4 _ _ _)
   | (with_reducible exact ih5 _ _)
   | (with_reducible exact ih6 _)
   | (with_reducible exact ih7 _ _)
   | (with_reducible exact ih8 _ _)
   | (with_reducible exact ih9 _ _)
   | (with_reducible exact ih10 _ _)
   | (with_reducible exact ih11 _ _)
   | (with_reducible exact LeO.refl _)
   | (with_reducible exact LeO.none _)
   | (with_reducible refine LeO.ite ?_ ?_)
   | (with_reducible refine LeO.bind ?_ (fun _ => ?_))
   | exact ih0 _
   | exact ih1 _ _
   | exact ih2 _ _ _
   | exact ih3 _ _
   | exact ih4 _ _ _
   | exact ih5 _ _
   | exact ih6 _
   | exact ih7 _ _
   | exact ih8 _ _
   | exact ih9 _ _
   | exact ih10 _ _
   | exact ih11 _ _
   | exact LeO.none _
   | refine LeO.ite ?_ ?_
   | refine LeO.bind ?_ (fun _ => ?_)
  ·intro y0 y1
   unfold fastjson_validateNumber.j2
   repeat' first
   | (with_reducible exact ih0 _)
   | (with_reducible exact ih1 _ _)
   | (with_reducible exact ih2 _ _ _)
   | (with_reducible exact ih3 _ _)
   | (with_reducible exact ih4 _ _ _)
   | (with_reducible exact ih5 _ _)
   | (with_reducible exact ih6 _)
   | (with_reducible exact ih7 _ _)
   | (with_reducible exact ih8 _ _)
   | (with_reducible exact ih9 _ _)
   | (with_reducible exact ih10 _ _)
   | (with_reducible exact ih11 _ _)
   | (with_reducible exact LeO.refl _)
   | (with_reducible exact LeO.none _)
   | (with_reducible refine LeO.ite ?_ ?_)
   | (with_reducible refine LeO.bind ?_ (fun _ => ?_))
   | exact ih0 _
   | exact ih1 _ _
   | exact ih2 _ _ _
   | exact ih3 _ _
   | exact ih4 _ _ _
   | exact ih5 _ _
   | exact ih6 _
   | exact ih7 _ _
   | exact ih8 _ _
   | exact ih9 _ _
   | exact ih10 _ _
   | exact ih11 _ _
   | exact LeO.none _
   | refine LeO.ite ?_ ?_
   | refine LeO.bind ?_ (fun _ => ?_)
  ·intro y0 y1 y2
   unfold fastjson_validateNumber.j3
   repeat' first
   | (with_reducible exact ih0 _)
   | (with_reducible exact ih1 _ _)
   | (with_reducible exact ih2 _ _ _)
   | (with_reducible exact ih3 _ _)
   | (with_reducible exact ih4 _ _ _)
   | (with_reducible exact ih5 _ _)
   | (with_reducible exact ih6 _)
   | (with_reducible exact ih7 _ _)
   | (with_reducible exact ih8 _ _)
   | (with_reducible exact ih9 _ _)
   | (with_reducible exact ih10 _ _)
   | (with_reducible exact ih11 _ _)
   | (with_reducible exact LeO.refl _)
   | (with_reducible exact LeO.none _)
   | (with_reducible refine LeO.ite ?_ ?_)
   | (with_reducible refine LeO.bind ?_ (fun _ => ?_))
   | exact ih0 _
   | exact ih1 _ _
   | exact ih2 _ _ _
   | exact ih3 _ _
   | exact ih4 _ _ _
   | exact ih5 _ _
   | exact ih6 _
   | exact ih7 _ _
   | exact ih8 _ _
   | exact ih9 _ _
   | exact ih10 _ _
   | exact ih11 _ _
   | exact LeO.none _
   | refine LeO.ite ?_ ?_
   | refine LeO.bind ?_ (fun _ => ?_)
  ·intro y0 y1
   unfold fastjson_validateNumber.j6
   repeat' first
   | (with_reducible exact ih0 _)
   | (with_reducible exact ih1 _ _)
   | (with_reducible exact ih2 _ _ _)
   | (with_reducible exact ih3 _ _)
   | (with_reducible exact ih4 _ _ _)
   | (with_reducible exact ih5 _ _)
   | (with_reducible exact ih6 _)
   | (with_reducible exact ih7 _ _)
   | (with_reducible exact ih8 _ _)
   | (with_reducible exact ih9 _ _)
   | (with_reducible exact ih10 _ _)
   | (with_reducible exact ih11 _ _)
   | (with_reducible exact LeO.refl _)
   | (with_reducible exact LeO.none _)
   | (with_reducible refine LeO.ite ?_ ?_)
   | (with_reducible refine LeO.bind ?_ (fun _ => ?_))
   | exact ih0 _
   | exact ih1 _ _
   | exact ih2 _ _ _
   | exact ih3 _ _
   | exact ih4 _ _ _
   | exact ih5 _ _
   | exact ih6 _
   | exact ih7 _ _
   | exact ih8 _ _
   | exact ih9 _ _
   | exact ih10 _ _
   | exact ih11 _ _
   | exact LeO.none _
   | refine LeO.ite ?_ ?_
   | refine LeO.bind ?_ (fun _ => ?_)
  ·intro y0 y1 y2
   unfold fastjson_validateNumber.j7
   repeat' first
   | (with_reducible exact ih0 _)
   | (with_reducible exact ih1 _ _)
   | (with_reducible exact ih2 _ _ _)
   | (with_reducible exact ih3 _ _)
   | (with_reducible exact ih4 _ _ _)
   | (with_reducible exact ih5 _ _)
   | (with_reducible exact ih6 _)
   | (with_reducible exact ih7 _ _)
   | (with_reducible exact ih8 _ _)
   | (with_reducible exact ih9 _ _)
   | (with_reducible exact ih10 _ _)
   | (with_reducible exact ih11 _ _)
   | (with_reducible exact LeO.refl _)
   | (with_reducible exact LeO.none _)
   | (with_reducible refine LeO.ite ?_ ?_)
   | (with_reducible refine LeO.bind ?_ (fun _ => ?_))
   | exact ih0 _
   | exact ih1 _ _
   | exact ih2 _ _ _
   | exact ih3 _ _
   | exact ih4 _ _ _
   | exact ih5 _ _
   | exact ih6 _
   | exact ih7 _ _
   | exact ih8 _ _
   | exact ih9 _ _
   | exact ih10 _ _
   | exact ih11 _ _
   | exact LeO.none _
   | refine LeO.ite ?_ ?_
   | refine LeO.bind ?_ (fun _ => ?_)
  ·intro y0 y1
   unfold fastjson_validateNumber.j8
   repeat' first
   | (with_reducible exact ih0 _)
   | (with_reducible exact ih1 _ _)
   | (with_reducible exact ih2 _ _ _)
   | (with_reducible exact ih3 _ _)
   | (with_reducible exact ih4 _ _ _)
   | (with_reducible exact ih5 _ _)
   | (with_reducible exact ih6 _)
   | (with_reducible exact ih7 _ _)
   | (with_reducible exact ih8 _ _)
   | (with_reducible exact ih9 _ _)
   | (with_reducible exact ih10 _ _)
   | (with_reducible exact ih11 _ _)
   | (with_reducible exact LeO.refl _)
   | (with_reducible exact LeO.none _)
   | (with_reducible refine LeO.ite ?_ ?_)
   | (with_reducible refine LeO.bind ?_ (fun _ => ?_))
   | exact ih0 _
   | exact ih1 _ _
   | exact ih2 _ _ _
   | exact ih3 _ _
   | exact ih4 _ _ _
   | exact ih5 _ _
   | exact ih6 _
   | exact ih7 _ _
   | exact ih8 _ _
   | exact ih9 _ _
   | exact ih10 _ _
   | exact ih11 _ _
   | exact LeO.none _
   | refine LeO.ite ?_ ?_
   | refine LeO.bind ?_ (fun _ => ?_)
  ·intro y0
   unfold fastjson_validateNumber.j9
   repeat' first
   | (with_reducible exact ih0 _)
   | (with_reducible exact ih1 _ _)
   | (with_reducible exact ih2 _ _ _)
   | (with_reducible exact ih3 _ _)
   | (with_reducible exact ih4 _ _ _)
   | (with_reducible exact ih5 _ _)
   | (with_reducible exact ih6 _)
   | (with_reducible exact ih7 _ _)
   | (with_reducible exact ih8 _ _)
   | (with_reducible exact ih9 _ _)
   | (with_reducible exact ih10 _ _)
   | (with_reducible exact ih11 _ _)
   | (with_reducible exact LeO.refl _)
   | (with_reducible exact LeO.none _)
   | (with_reducible refine LeO.ite ?_ ?_)
   | (with_reducible refine LeO.bind ?_ (fun _ => ?_))
   | exact ih0 _
   | exact ih1 _ _
   | exact ih2 _ _ _
   | exact ih3 _ _
   | exact ih4 _ _ _
   | exact ih5 _ _
   | exact ih6 _
   | exact ih7 _ _
   | exact ih8 _ _
   | exact ih9 _ _
   | exact ih10 _ _
   | exact ih11 _ _
   | exact LeO.none _
   | refine LeO.ite ?_ ?_
   | refine LeO.bind ?_ (fun _ => ?_)
  ·intro y0 y1
   unfold fastjson_validateNumber.j11
   repeat' first
   | (with_reducible exact ih0 _)
   | (with_reducible exact ih1 _ _)
   | (with_reducible exact ih2 _ _ _)
   | (with_reducible exact ih3 _ _)
   | (with_reducible exact ih4 _ _ _)
   | (with_reducible exact ih5 _ _)
   | (with_reducible exact ih6 _)
   | (with_reducible exact ih7 _ _)
   | (with_reducible exact ih8 _ _)
   | (with_reducible exact ih9 _ _)
   | (with_reducible exact ih10 _ _)
   | (with_reducible exact ih11 _ _)
   | (with_reducible exact LeO.refl _)
   | (with_reducible exact LeO.none _)
   | (with_reducible refine LeO.ite ?_ ?_)
   | (with_reducible refine LeO.bind ?_ (fun _ => ?_))
   | exact ih0 _
   | exact ih1 _ _
   | exact ih2 _ _ _
   | exact ih3 _ _
   | exact ih4 _ _ _
   | exact ih5 _ _
   | exact ih6 _
   | exact ih7 _ _
   | exact ih8 _ _
   | exact ih9 _ _
   | exact ih10 _ _
   | exact ih11 _ _
   | exact LeO.none _
   | refine LeO.ite ?_ ?_
   | refine LeO.bind ?_ (fun _ => ?_)
  ·intro y0 y1
   unfold fastjson_validateNumber.l2
   repeat' first
   | (with_reducible exact ih0 _)
   | (with_reducible exact ih1 _ _)
   | (with_reducible exact ih2 _ _ _)
   | (with_reducible exact ih3 _ _)
   | (with_reducible exact ih4 _ _ _)
   | (with_reducible exact ih5 _ _)
   | (with_reducible exact ih6 _)
   | (with_reducible exact ih7 _ _)
   | (with_reducible exact ih8 _ _)
   | (with_reducible exact ih9 _ _)
   | (with_reducible exact ih10 _ _)
   | (with_reducible exact ih11 _ _)
   | (with_reducible exact LeO.refl _)
   | (with_reducible exact LeO.none _)
   | (with_reducible refine LeO.ite ?_ ?_)
   | (with_reducible refine LeO.bind ?_ (fun _ => ?_))
   | exact ih0 _
   | exact ih1 _ _
   | exact ih2 _ _ _
   | exact ih3 _ _
   | exact ih4 _ _ _
   | exact ih5 _ _
   | exact ih6 _
   | exact ih7 _ _
   | exact ih8 _ _
   | exact ih9 _ _
   | exact ih10 _ _
   | exact ih11 _ _
   | exact LeO.none _
   | refine LeO.ite ?_ ?_
   | refine LeO.bind ?_ (fun _ => ?_)
  ·intro y0 y1
   unfold fastjson_validateNumber.j5
   repeat' first
   | (with_reducible exact ih0 _)
   | (with_reducible exact ih1 _ _)
   | (with_reducible exact ih2 _ _ _)
   | (with_reducible exact ih3 _ _)
   | (with_reducible exact ih4 _ _ _)
   | (with_reducible exact ih5 _ _)
   | (with_reducible exact ih6 _)
   | (with_reducible exact ih7 _ _)
   | (with_reducible exact ih8 _ _)
   | (with_reducible exact ih9 _ _)
   | (with_reducible exact ih10 _ _)
   | (with_reducible exact ih11 _ _)
   | (with_reducible exact LeO.refl _)
   | (with_reducible exact LeO.none _)
   | (with_reducible refine LeO.ite ?_ ?_)
   | (with_reducible refine LeO.bind ?_ (fun _ => ?_))
   | exact ih0 _
   | exact ih1 _ _
   | exact ih2 _ _ _
   | exact ih3 _ _
   | exact ih4 _ _ _
   | exact ih5 _ _
   | exact ih6 _
   | exact ih7 _ _
   | exact ih8 _ _
   | exact ih9 _ _
   | exact ih10 _ _
   | exact ih11 _ _
   | exact LeO.none _
   | refine LeO.ite ?_ ?_
   | refine LeO.bind ?_ (fun _ => ?_)
  ·intro y0 y1
   unfold fastjson_validateNumber.l1
   repeat' first
   | (with_reducible exact ih0 _)
   | (with_reducible exact ih1 _ _)
   | (with_reducible exact ih2 _ _ _)
   | (with_reducible exact ih3 _ _)
   | (with_reducible exact ih4 _ _ _)
   | (with_reducible exact ih5 _ _)
   | (with_reducible exact ih6 _)
   | (with_reducible exact ih7 _ _)
   | (with_reducible exact ih8 _ _)
   | (with_reducible exact ih9 _ _)
   | (with_reducible exact ih10 _ _)
   | (with_reducible exact ih11 _ _)
   | (with_reducible exact LeO.refl _)
   | (with_reducible exact LeO.none _)
   | (with_reducible refine LeO.ite ?_ ?_)
   | (with_reducible refine LeO.bind ?_ (fun _ => ?_))
   | exact ih0 _
   | exact ih1 _ _
   | exact ih2 _ _ _
   | exact ih3 _ _
   | exact ih4 _ _ _
   | exact ih5 _ _
   | exact ih6 _
   | exact ih7 _ _
   | exact ih8 _ _
   | exact ih9 _ _
   | exact ih10 _ _
   | exact ih11 _ _
   | exact LeO.none _
   | refine LeO.ite ?_ ?_
   | refine LeO.bind ?_ (fun _ => ?_)
  ·intro y0 y1
   unfold fastjson_validateNumber.l0
   repeat' first
   | (with_reducible exact ih0 _)
   | (with_reducible exact ih1 _ _)
   | (with_reducible exact ih2 _ _ _)
   | (with_reducible exact ih3 _ _)
   | (with_reducible exact ih4 _ _ _)
   | (with_reducible exact ih5 _ _)
   | (with_reducible exact ih6 _)
   | (with_reducible exact ih7 _ _)
   | (with_reducible exact ih8 _ _)
   | (with_reducible exact ih9 _ _)
   | (with_reducible exact ih10 _ _)
   | (with_reducible exact ih11 _ _)
   | (with_reducible exact LeO.refl _)
   | (with_reducible exact LeO.none _)
   | (with_reducible refine LeO.ite ?_ ?_)
   | (with_reducible refine LeO.bind ?_ (fun _ => ?_))
   | exact ih0 _
   | exact ih1 _ _
   | exact ih2 _ _ _
   | exact ih3 _ _
   | exact ih4 _ _ _
   | exact ih5 _ _
   | exact ih6 _
   | exact ih7 _ _
   | exact ih8 _ _
   | exact ih9 _ _
   | exact ih10 _ _
   | exact ih11 _ _
   | exact LeO.none _
   | refine LeO.ite ?_ ?_
   | refine LeO.bind ?_ (fun _ => ?_)
theorem fastjson_validateNumber.mono : ∀ a0 k, LeO (fastjson_validateNumber.f k a0) (fastjson_validateNumber.f (k + 1) a0) := by
 intro a0 k
 obtain ⟨ih0, ih1, ih2, ih3, ih4, ih5, ih6, ih7, ih8, ih9, ih10, ih11⟩ := fastjson_validateNumber.mono_l k
 unfold fastjson_validateNumber.f
 repeat' first
  | (with_reducible exact ih0 _)
  | (with_reducible exact ih1 _ _)
  | (with_reducible exact ih2 _ _ _)
  | (with_reducible exact ih3 _ _)
  | (with_reducible exact ih4 _ _ _)
  | (with_reducible exact ih5 _ _)
  | (with_reducible exact ih6 _)
  | (with_reducible exact ih7 _ _)
  | (with_reducible exact ih8 _ _)
  | (with_reducible exact ih9 _ _)
  | (with_reducible exact ih10 _ _)
  | (with_reducible exact ih11 _ _)
  | (with_reducible exact LeO.refl _)
  | (with_reducible exact LeO.none _)
  | (with_reducible refine LeO.ite ?_ ?_)
  | (with_reducible refine LeO.bind ?_ (fun _ => ?_))
  | exact ih0 _
  | exact ih1 _ _
  | exact ih2 _ _ _
  | exact ih3 _ _
  | exact ih4 _ _ _
  | exact ih5 _ _
  | exact ih6 _
  | exact ih7 _ _
  | exact ih8 _ _
  | exact ih9 _ _
  | exact ih10 _ _
  | exact ih11 _ _
  | exact LeO.none _
  | refine LeO.ite ?_ ?_
  | refine LeO.bind ?_ (fun _ => ?_)
set_option maxHeartbeats 8000000 in
set_option maxRecDepth 100000 in
theorem fastjson_validateNumber.calls (k : Nat) (a0 : ByteArray) (r1 : ByteArray) (r2 : Option Int) (w : World) (h : fastjson_validateNumber.f k a0 = some (r1, r2)) :
 Calls Tryd.prog 108 #[.string a0] w fun e w' => ∃ z_r2 : Option Int, Zk z_r2 r2 ∧ e = .returned (.tuple #[.string r1, errW z_r2]) ∧ Below w.heap.size w w' := by
 have HB := mk0 (Below.refl w.heap.size w)
 have H : (if (a0.size : Int) = 0 then ((errors_New.f (⟨#[122, 101, 114, 111, 45, 108, 101, 110, 103, 116, 104, 32, 110, 117, 109, 98, 101, 114]⟩ : ByteArray)).bind fun t101 => (some (a0, t101))) else (if 0 < (a0.size : Int) then (if (bt a0 0) = 45 then (if 1 ≤ (a0.size : Int) then (if ((a0.extract 1 a0.size).size : Int) = 0 then ((errors_New.f (⟨#[109, 105, 115, 115, 105, 110, 103, 32, 110, 117, 109, 98, 101, 114, 32, 97, 102, 116, 101, 114, 32, 109, 105, 110, 117, 115]⟩ : ByteArray)).bind fun t102 => (some (a0.extract 1 a0.size, t102))) else (fastjson_validateNumber.j0 k (a0.extract 1 a0.size))) else (none)) else (fastjson_validateNumber.j0 k a0)) else (none))) = some (r1, r2) := h
 clear h
 by_cases c2 : (a0.size : Int) = 0
 ·rw [if_pos c2] at H
  have c2b0 : ((a0.size : Int) == 0) = true := beq_iff_eq.mpr c2
  have c2b1 : ((a0.size : Int) != 0) = false := bne_eq_false_iff_eq.mpr c2
  clear c2
  replace H := Option.bind_eq_some_iff.mp H
  obtain ⟨t101, A30, H⟩ := H
  (try dsimp only at H)
  have A3 := mk0 A30
  clear A30
  simp only [Option.some.injEq, Prod.mk.injEq] at H
  obtain ⟨rfl, rfl⟩ := H
  go_enter Tryd.func108, Tryd.ntmps108
  go_wp2_with (first | ((with_reducible refine gate_callee (f := 54) rfl ?_); refine goesL_ (some 9) rfl rfl Tryd.func54 zq28 rfl #[.string (⟨#[122, 101, 114, 111, 45, 108, 101, 110, 103, 116, 104, 32, 110, 117, 109, 98, 101, 114]⟩ : ByteArray)] rfl zq0 ?_; (with_reducible refine (errors_New.calls (⟨#[122, 101, 114, 111, 45, 108, 101, 110, 103, 116, 104, 32, 110, 117, 109, 98, 101, 114]⟩ : ByteArray) t101 _ A3.out).mono ?_); rintro e w4 ⟨z_t101, hz_t101, rfl, hb⟩; have Hz_t101 := mk0 hz_t101; clear hz_t101; refine ⟨_, rfl, ?_⟩; have n0_ := mk0 (below_step zq2 hb); clear HB; have HB := n0_; clear n0_ hb; (try simp only [errW_none, errW_some])))
  go_ret2
  exact ⟨z_t101, Hz_t101.out, by rfl, by repeat (first | (with_reducible first | exact HB.out | apply below_alloc | apply pw_below_drewN | apply below_drew1) | exact HB.out)⟩
 rw [if_neg c2] at H
 have c2b0 : ((a0.size : Int) == 0) = false := beq_eq_false_iff_ne.mpr c2
 have c2b1 : ((a0.size : Int) != 0) = true := bne_iff_ne.mpr c2
 by_cases c5 : 0 < (a0.size : Int)
 rotate_left
 ·rw [if_neg c5] at H
  exact absurd H (by simp)
 rw [if_pos c5] at H
 have c5b0 : decide (0 < (a0.size : Int)) = true := decide_eq_true c5
 have c5b1 : decide (0 < a0.size) = true := decide_eq_true (by omega)
 clear c5
 have HC7 := mk0 H
 clear H
 have p6 : 0 ≤ (0 : Int) := (by omega)
 have q6 : 0 < a0.size := (by have : (0 : Int) < (a0.size : Int) := of_decide_eq_true zq5; omega)
 have hx6 : ∀ h : 0 < a0.size, ((a0[0]'h).toNat : Int) = bt a0 0 := bt_at a0 0
 clear p6
 have qi6 : (0 < (a0.size : Int)) = True := eq_true (of_decide_eq_true zq5)
 replace q6 := eq_true q6
 go_enter Tryd.func108, Tryd.ntmps108
 go_upto_if 12 with (fail)
 go_cut [0] (fun v0 wc => ∃ (kq : Nat) (x0_6 : ByteArray), v0 = .string x0_6 ∧ Aside0 (fastjson_validateNumber.j0 kq x0_6 = some (r1, r2)) ∧ Aside0 (kq ≤ k) ∧ Aside0 (Below w.heap.size w wc))
 case first =>
  have H := HC7.out
  clear HC7
  by_cases c8 : (bt a0 0) = 45
  rotate_left
  ·rw [if_neg c8] at H
   have c8b0 : ((bt a0 0) == 45) = false := beq_eq_false_iff_ne.mpr c8
   have c8b1 : ((bt a0 0) != 45) = true := bne_iff_ne.mpr c8
   (rw [c8b0])
   have H' := mk0 H
   clear H
   go_wp2
   go_meet
   case rel => exact ⟨_, (a0), (by rfl), H', ⟨by omega⟩, ⟨by repeat (first | (with_reducible first | exact HB.out | apply below_alloc | apply pw_below_drewN | apply below_drew1) | exact HB.out)⟩⟩
  rw [if_pos c8] at H
  have c8b0 : ((bt a0 0) == 45) = true := beq_iff_eq.mpr c8
  have c8b1 : ((bt a0 0) != 45) = false := bne_eq_false_iff_eq.mpr c8
  clear c8
  (rw [c8b0])
  by_cases c9 : 1 ≤ (a0.size : Int)
  rotate_left
  ·rw [if_neg c9] at H
   exact absurd H (by simp)
  rw [if_pos c9] at H
  have c9b0 := eq_true c9
  have c9b1 : decide (1 ≤ (a0.size : Int)) = true := decide_eq_true c9
  clear c9
  by_cases c10 : ((a0.extract 1 a0.size).size : Int) = 0
  rotate_left
  ·rw [if_neg c10] at H
   have c10b0 : (((a0.extract 1 a0.size).size : Int) == 0) = false := beq_eq_false_iff_ne.mpr c10
   have c10b0s := c10b0; simp only [ByteArray.size_extract, Nat.min_self] at c10b0s
   have c10b1 : (((a0.extract 1 a0.size).size : Int) != 0) = true := bne_iff_ne.mpr c10
   have c10b1s := c10b1; simp only [ByteArray.size_extract, Nat.min_self] at c10b1s
   have H' := mk0 H
   clear H
   go_wp2
   go_meet
   case rel => exact ⟨_, (a0.extract 1 a0.size), (by rfl), H', ⟨by omega⟩, ⟨by repeat (first | (with_reducible first | exact HB.out | apply below_alloc | apply pw_below_drewN | apply below_drew1) | exact HB.out)⟩⟩
  rw [if_pos c10] at H
  have c10b0 : (((a0.extract 1 a0.size).size : Int) == 0) = true := beq_iff_eq.mpr c10
  have c10b0s := c10b0; simp only [ByteArray.size_extract, Nat.min_self] at c10b0s
  have c10b1 : (((a0.extract 1 a0.size).size : Int) != 0) = false := bne_eq_false_iff_eq.mpr c10
  have c10b1s := c10b1; simp only [ByteArray.size_extract, Nat.min_self] at c10b1s
  clear c10
  replace H := Option.bind_eq_some_iff.mp H
  obtain ⟨t102, A110, H⟩ := H
  (try dsimp only at H)
  have A11 := mk0 A110
  clear A110
  simp only [Option.some.injEq, Prod.mk.injEq] at H
  obtain ⟨rfl, rfl⟩ := H
  go_wp2_with (first | ((with_reducible refine gate_callee (f := 54) rfl ?_); refine goesL_ (some 19) rfl rfl Tryd.func54 zq28 rfl #[.string (⟨#[109, 105, 115, 115, 105, 110, 103, 32, 110, 117, 109, 98, 101, 114, 32, 97, 102, 116, 101, 114, 32, 109, 105, 110, 117, 115]⟩ : ByteArray)] rfl zq0 ?_; (with_reducible refine (errors_New.calls (⟨#[109, 105, 115, 115, 105, 110, 103, 32, 110, 117, 109, 98, 101, 114, 32, 97, 102, 116, 101, 114, 32, 109, 105, 110, 117, 115]⟩ : ByteArray) t102 _ A11.out).mono ?_); rintro e w12 ⟨z_t102, hz_t102, rfl, hb⟩; have Hz_t102 := mk0 hz_t102; clear hz_t102; refine ⟨_, rfl, ?_⟩; have n0_ := mk0 (below_step zq2 hb); clear HB; have HB := n0_; clear n0_ hb; (try simp only [errW_none, errW_some])))
  go_ret2
  exact ⟨z_t102, Hz_t102.out, by rfl, by repeat (first | (with_reducible first | exact HB.out | apply below_alloc | apply pw_below_drewN | apply below_drew1) | exact HB.out)⟩
 case rest =>
  clear HC7 c2 c2b0 c2b1 c5b0 c5b1 q6 hx6 qi6
  obtain ⟨kq, x0_6, rfl, HA, HJ6, HB⟩ := hcut
  cases kq with
  | zero => exact absurd HA.out (by simp [fastjson_validateNumber.j0])
  | succ kj6 =>
   have H := HA.out
   clear HA
   simp only [fastjson_validateNumber.j0] at H
   have HC13 := mk0 H
   clear H
   go_upto_block 0 with (fail)
   go_cut [4] (fun v4 wc => ∃ (kq : Nat) (x4_12 : Int), v4 = .int .i64 x4_12 ∧ Aside0 (fastjson_validateNumber.j2 kq x0_6 x4_12 = some (r1, r2)) ∧ Aside0 (kq ≤ kj6) ∧ Aside0 (Below w.heap.size w wc))
   case first =>
    have H := HC13.out
    clear HC13
    have H' := mk0 H
    clear H
    go_wp2
    go_loopg [4] kj6 (fun kq v4 w' => ∃ (x4_2 : Int), v4 = .int .i64 x4_2 ∧ Aside0 (fastjson_validateNumber.l0 kq x0_6 x4_2 = some (r1, r2)) ∧ Aside0 (kq ≤ kj6) ∧ Aside0 (Below w.heap.size w w'))
    case atStart => exact ⟨(0), (by rfl), H', ⟨Nat.le_refl _⟩, ⟨by repeat (first | (with_reducible first | exact HB.out | apply below_alloc | apply pw_below_drewN | apply below_drew1) | exact HB.out)⟩⟩
    case round =>
     clear H'
     obtain ⟨x4_2, rfl, HA, HK2, HB⟩ := hrel
     cases gk with
     | zero => exact absurd HA.out (by simp [fastjson_validateNumber.l0])
     | succ k2 =>
      have H := HA.out
      clear HA
      simp only [fastjson_validateNumber.l0] at H
      by_cases c14 : x4_2 < (x0_6.size : Int)
      rotate_left
      ·rw [if_neg c14] at H
       have c14b0 : decide (x4_2 < (x0_6.size : Int)) = false := decide_eq_false c14
       clear c14
       (skip)
       have H' := mk0 H
       clear H
       go_wp2
       go_meet
       case rel => exact ⟨_, (x4_2), (by rfl), H', ⟨by have := HJ6.out; have := HK2.out; first | omega | exact Nat.le_refl _⟩, ⟨by repeat (first | (with_reducible first | exact HB.out | apply below_alloc | apply pw_below_drewN | apply below_drew1) | exact HB.out)⟩⟩
      rw [if_pos c14] at H
      have c14b0 : decide (x4_2 < (x0_6.size : Int)) = true := decide_eq_true c14
      clear c14
      (skip)
      by_cases c15 : 0 ≤ x4_2
      rotate_left
      ·rw [if_neg c15] at H
       exact absurd H (by simp)
      rw [if_pos c15] at H
      have c15b0 : decide (0 ≤ x4_2) = true := decide_eq_true c15
      clear c15
      by_cases c17 : (bt x0_6 x4_2) < 48
      ·rw [if_pos c17] at H
       have c17b0 : decide ((bt x0_6 x4_2) < 48) = true := decide_eq_true c17
       clear c17
       have H' := mk0 H
       clear H
       have p16 : 0 ≤ (x4_2 : Int) := of_decide_eq_true zq5
       have q16 : x4_2 < (x0_6.size : Int) := of_decide_eq_true zq5
       have hx16 := bt_at x0_6 x4_2
       replace p16 := eq_true p16
       replace q16 := eq_true q16
       go_wp2
       go_meet
       case rel => exact ⟨_, (x4_2), (by rfl), H', ⟨by have := HJ6.out; have := HK2.out; first | omega | exact Nat.le_refl _⟩, ⟨by repeat (first | (with_reducible first | exact HB.out | apply below_alloc | apply pw_below_drewN | apply below_drew1) | exact HB.out)⟩⟩
      rw [if_neg c17] at H
      have c17b0 : decide ((bt x0_6 x4_2) < 48) = false := decide_eq_false c17
      clear c17
      by_cases c19 : (bt x0_6 x4_2) > 57
      ·rw [if_pos c19] at H
       have c19b0 : decide (57 < (bt x0_6 x4_2)) = true := decide_eq_true c19
       clear c19
       have H' := mk0 H
       clear H
       have p16 : 0 ≤ (x4_2 : Int) := of_decide_eq_true zq5
       have q16 : x4_2 < (x0_6.size : Int) := of_decide_eq_true zq5
       have hx16 := bt_at x0_6 x4_2
       replace p16 := eq_true p16
       replace q16 := eq_true q16
       have p18 : 0 ≤ (x4_2 : Int) := of_decide_eq_true zq5
       have q18 : x4_2 < (x0_6.size : Int) := of_decide_eq_true zq5
       have hx18 := bt_at x0_6 x4_2
       replace p18 := eq_true p18
       replace q18 := eq_true q18
       go_wp2
       go_meet
       case rel => exact ⟨_, (x4_2), (by rfl), H', ⟨by have := HJ6.out; have := HK2.out; first | omega | exact Nat.le_refl _⟩, ⟨by repeat (first | (with_reducible first | exact HB.out | apply below_alloc | apply pw_below_drewN | apply below_drew1) | exact HB.out)⟩⟩
      rw [if_neg c19] at H
      have c19b0 : decide (57 < (bt x0_6 x4_2)) = false := decide_eq_false c19
      clear c19
      have H' := mk0 H
      clear H
      have p16 : 0 ≤ (x4_2 : Int) := of_decide_eq_true zq5
      have q16 : x4_2 < (x0_6.size : Int) := of_decide_eq_true zq5
      have hx16 := bt_at x0_6 x4_2
      replace p16 := eq_true p16
      replace q16 := eq_true q16
      have p18 : 0 ≤ (x4_2 : Int) := of_decide_eq_true zq5
      have q18 : x4_2 < (x0_6.size : Int) := of_decide_eq_true zq5
      have hx18 := bt_at x0_6 x4_2
      replace p18 := eq_true p18
      replace q18 := eq_true q18
      go_wp2
      go_roundg k2
      case measure => have := HJ6.out; have := HK2.out; omega
      case rel => exact ⟨(wrap64 (x4_2 + 1)), (by rfl), H', ⟨by have := HJ6.out; have := HK2.out; omega⟩, ⟨by repeat (first | (with_reducible first | exact HB.out | apply below_alloc | apply pw_below_drewN | apply below_drew1) | exact HB.out)⟩⟩
   case rest =>
    clear HC13
    obtain ⟨kq, x4_12, rfl, HA, HJ12, HB⟩ := hcut
    cases kq with
    | zero => exact absurd HA.out (by simp [fastjson_validateNumber.j2])
    | succ kj12 =>
     have H := HA.out
     clear HA
     simp only [fastjson_validateNumber.j2] at H
     by_cases c20 : x4_12 ≤ 0
     ·rw [if_pos c20] at H
      have c20b0 : decide (x4_12 ≤ 0) = true := decide_eq_true c20
      clear c20
      replace H := Option.bind_eq_some_iff.mp H
      obtain ⟨t103, A210, H⟩ := H
      (try dsimp only at H)
      have A21 := mk0 A210
      clear A210
      simp only [Option.some.injEq, Prod.mk.injEq] at H
      obtain ⟨rfl, rfl⟩ := H
      go_wp2_with (first | ((with_reducible refine gate_callee (f := 54) rfl ?_); refine goesL_ (some 39) rfl rfl Tryd.func54 zq28 rfl #[.string (⟨#[101, 120, 112, 101, 99, 116, 105, 110, 103, 32, 48, 46, 46, 57, 32, 100, 105, 103, 105, 116, 44, 32, 103, 111, 116]⟩ : ByteArray)] rfl zq0 ?_; (with_reducible refine (errors_New.calls (⟨#[101, 120, 112, 101, 99, 116, 105, 110, 103, 32, 48, 46, 46, 57, 32, 100, 105, 103, 105, 116, 44, 32, 103, 111, 116]⟩ : ByteArray) t103 _ A21.out).mono ?_); rintro e w22 ⟨z_t103, hz_t103, rfl, hb⟩; have Hz_t103 := mk0 hz_t103; clear hz_t103; refine ⟨_, rfl, ?_⟩; have n0_ := mk0 (below_step zq2 hb); clear HB; have HB := n0_; clear n0_ hb; (try simp only [errW_none, errW_some])))
      go_ret2
      exact ⟨z_t103, Hz_t103.out, by rfl, by repeat (first | (with_reducible first | exact HB.out | apply below_alloc | apply pw_below_drewN | apply below_drew1) | exact HB.out)⟩
     rw [if_neg c20] at H
     have c20b0 : decide (x4_12 ≤ 0) = false := decide_eq_false c20
     clear c20
     have HC23 := mk0 H
     clear H
     go_upto_region 13 with (fail)
     go_cut [46] (fun v46 wc => ∃ (kq : Nat) (x46_22 : Bool), v46 = .bool x46_22 ∧ Aside0 (fastjson_validateNumber.j3 kq x0_6 x4_12 x46_22 = some (r1, r2)) ∧ Aside0 (kq ≤ kj12) ∧ Aside0 (Below w.heap.size w wc))
     case first =>
      have H := HC23.out
      clear HC23
      by_cases c24 : 0 < (x0_6.size : Int)
      rotate_left
      ·rw [if_neg c24] at H
       exact absurd H (by simp)
      rw [if_pos c24] at H
      have c24b0 : decide (0 < (x0_6.size : Int)) = true := decide_eq_true c24
      have c24b1 : decide (0 < x0_6.size) = true := decide_eq_true (by omega)
      clear c24
      (skip)
      by_cases c26 : (bt x0_6 0) = 48
      rotate_left
      ·rw [if_neg c26] at H
       have c26b0 : ((bt x0_6 0) == 48) = false := beq_eq_false_iff_ne.mpr c26
       have c26b1 : ((bt x0_6 0) != 48) = true := bne_iff_ne.mpr c26
       have H' := mk0 H
       clear H
       have p25 : 0 ≤ (0 : Int) := (by omega)
       have q25 : 0 < x0_6.size := (by have : (0 : Int) < (x0_6.size : Int) := of_decide_eq_true zq5; omega)
       have hx25 : ∀ h : 0 < x0_6.size, ((x0_6[0]'h).toNat : Int) = bt x0_6 0 := bt_at x0_6 0
       clear p25
       have qi25 : (0 < (x0_6.size : Int)) = True := eq_true (of_decide_eq_true zq5)
       replace q25 := eq_true q25
       go_wp2
       go_meet
       case rel => exact ⟨_, (false), (by rfl), H', ⟨by have := HJ6.out; have := HJ12.out; first | omega | exact Nat.le_refl _⟩, ⟨by repeat (first | (with_reducible first | exact HB.out | apply below_alloc | apply pw_below_drewN | apply below_drew1) | exact HB.out)⟩⟩
      rw [if_pos c26] at H
      have c26b0 : ((bt x0_6 0) == 48) = true := beq_iff_eq.mpr c26
      have c26b1 : ((bt x0_6 0) != 48) = false := bne_eq_false_iff_eq.mpr c26
      clear c26
      have H' := mk0 H
      clear H
      have p25 : 0 ≤ (0 : Int) := (by omega)
      have q25 : 0 < x0_6.size := (by have : (0 : Int) < (x0_6.size : Int) := of_decide_eq_true zq5; omega)
      have hx25 : ∀ h : 0 < x0_6.size, ((x0_6[0]'h).toNat : Int) = bt x0_6 0 := bt_at x0_6 0
      clear p25
      have qi25 : (0 < (x0_6.size : Int)) = True := eq_true (of_decide_eq_true zq5)
      replace q25 := eq_true q25
      go_wp2
      go_meet
      case rel => exact ⟨_, ((x4_12 != 1)), (by rfl), H', ⟨by have := HJ6.out; have := HJ12.out; first | omega | exact Nat.le_refl _⟩, ⟨by repeat (first | (with_reducible first | exact HB.out | apply below_alloc | apply pw_below_drewN | apply below_drew1) | exact HB.out)⟩⟩
     case rest =>
      clear HC23 c20b0
      obtain ⟨kq, x46_22, rfl, HA, HJ22, HB⟩ := hcut
      cases kq with
      | zero => exact absurd HA.out (by simp [fastjson_validateNumber.j3])
      | succ kj22 =>
       have H := HA.out
       clear HA
       simp only [fastjson_validateNumber.j3] at H
       by_cases c27 : x46_22 = true
       ·subst c27
        rw [if_pos rfl] at H
        replace H := Option.bind_eq_some_iff.mp H
        obtain ⟨t104, A280, H⟩ := H
        (try dsimp only at H)
        have A28 := mk0 A280
        clear A280
        simp only [Option.some.injEq, Prod.mk.injEq] at H
        obtain ⟨rfl, rfl⟩ := H
        go_wp2_with (first | ((with_reducible refine gate_callee (f := 54) rfl ?_); refine goesL_ (some 48) rfl rfl Tryd.func54 zq28 rfl #[.string (⟨#[117, 110, 101, 120, 112, 101, 99, 116, 101, 100, 32, 110, 117, 109, 98, 101, 114, 32, 115, 116, 97, 114, 116, 105, 110, 103, 32, 102, 114, 111, 109, 32, 48]⟩ : ByteArray)] rfl zq0 ?_; (with_reducible refine (errors_New.calls (⟨#[117, 110, 101, 120, 112, 101, 99, 116, 101, 100, 32, 110, 117, 109, 98, 101, 114, 32, 115, 116, 97, 114, 116, 105, 110, 103, 32, 102, 114, 111, 109, 32, 48]⟩ : ByteArray) t104 _ A28.out).mono ?_); rintro e w29 ⟨z_t104, hz_t104, rfl, hb⟩; have Hz_t104 := mk0 hz_t104; clear hz_t104; refine ⟨_, rfl, ?_⟩; have n0_ := mk0 (below_step zq2 hb); clear HB; have HB := n0_; clear n0_ hb; (try simp only [errW_none, errW_some])))
        go_ret2
        exact ⟨z_t104, Hz_t104.out, by rfl, by repeat (first | (with_reducible first | exact HB.out | apply below_alloc | apply pw_below_drewN | apply below_drew1) | exact HB.out)⟩
       replace c27 := Bool.eq_false_iff.mpr c27
       subst c27
       rw [if_neg (show ¬ (false = true) by decide)] at H
       by_cases c30 : x4_12 ≥ (x0_6.size : Int)
       ·rw [if_pos c30] at H
        have c30b0 : decide ((x0_6.size : Int) ≤ x4_12) = true := decide_eq_true c30
        clear c30
        simp only [Option.some.injEq, Prod.mk.injEq] at H
        obtain ⟨rfl, rfl⟩ := H
        go_wp2
        go_ret2
        exact ⟨none, Zk.nn, by rfl, by repeat (first | (with_reducible first | exact HB.out | apply below_alloc | apply pw_below_drewN | apply below_drew1) | exact HB.out)⟩
       rw [if_neg c30] at H
       have c30b0 : decide ((x0_6.size : Int) ≤ x4_12) = false := decide_eq_false c30
       clear c30
       by_cases c31 : 0 ≤ x4_12
       rotate_left
       ·rw [if_neg c31] at H
        exact absurd H (by simp)
       rw [if_pos c31] at H
       have c31b0 : decide (0 ≤ x4_12) = true := decide_eq_true c31
       clear c31
       by_cases c32 : x4_12 < (x0_6.size : Int)
       rotate_left
       ·rw [if_neg c32] at H
        exact absurd H (by simp)
       rw [if_pos c32] at H
       have c32b0 : decide (x4_12 < (x0_6.size : Int)) = true := decide_eq_true c32
       clear c32
       have HC34 := mk0 H
       clear H
       have p33 : 0 ≤ (x4_12 : Int) := of_decide_eq_true zq5
       have q33 : x4_12 < (x0_6.size : Int) := of_decide_eq_true zq5
       have hx33 := bt_at x0_6 x4_12
       replace p33 := eq_true p33
       replace q33 := eq_true q33
       go_upto_if 56 with (fail)
       go_cut [0, 4] (fun v0 v4 wc => ∃ (kq : Nat) (x0_33 : ByteArray) (x4_33 : Int), v0 = .string x0_33 ∧ v4 = .int .i64 x4_33 ∧ Aside0 (fastjson_validateNumber.j6 kq x0_33 x4_33 = some (r1, r2)) ∧ Aside0 (kq ≤ kj22) ∧ Aside0 (Below w.heap.size w wc))
       case first =>
        have H := HC34.out
        clear HC34
        by_cases c35 : (bt x0_6 x4_12) = 46
        rotate_left
        ·rw [if_neg c35] at H
         have c35b0 : ((bt x0_6 x4_12) == 46) = false := beq_eq_false_iff_ne.mpr c35
         have c35b1 : ((bt x0_6 x4_12) != 46) = true := bne_iff_ne.mpr c35
         (rw [c35b0])
         have H' := mk0 H
         clear H
         go_wp2
         go_meet
         case rel => exact ⟨_, (x0_6), (x4_12), (by rfl), (by rfl), H', ⟨by have := HJ6.out; have := HJ12.out; have := HJ22.out; first | omega | exact Nat.le_refl _⟩, ⟨by repeat (first | (with_reducible first | exact HB.out | apply below_alloc | apply pw_below_drewN | apply below_drew1) | exact HB.out)⟩⟩
        rw [if_pos c35] at H
        have c35b0 : ((bt x0_6 x4_12) == 46) = true := beq_iff_eq.mpr c35
        have c35b1 : ((bt x0_6 x4_12) != 46) = false := bne_eq_false_iff_eq.mpr c35
        clear c35
        (rw [c35b0])
        obtain ⟨ji36, hji36⟩ : ∃ j_ : Int, (wrap64 (x4_12 + 1)) = j_ := ⟨_, rfl⟩
        replace H : (if 0 ≤ (ji36) then (if (ji36) ≤ (x0_6.size : Int) then (if ((x0_6.extract ((ji36) : Int).toNat x0_6.size).size : Int) = 0 then ((errors_New.f (⟨#[109, 105, 115, 115, 105, 110, 103, 32, 102, 114, 97, 99, 116, 105, 111, 110, 97, 108, 32, 112, 97, 114, 116]⟩ : ByteArray)).bind fun t105 => (some (x0_6.extract ((ji36) : Int).toNat x0_6.size, t105))) else (fastjson_validateNumber.l1 kj22 (x0_6.extract ((ji36) : Int).toNat x0_6.size) 0)) else (none)) else (none)) = some (r1, r2) := by (rw [hji36] at H; exact H)
        have hji36w : (IntKind.i64.wrap (x4_12 + 1)) = ji36 := (i64_w _).trans hji36
        by_cases c37 : 0 ≤ (ji36)
        rotate_left
        ·rw [if_neg c37] at H
         exact absurd H (by simp)
        rw [if_pos c37] at H
        have c37b0 := eq_true c37
        have c37b1 : decide (0 ≤ (ji36)) = true := decide_eq_true c37
        clear c37
        by_cases c38 : (ji36) ≤ (x0_6.size : Int)
        rotate_left
        ·rw [if_neg c38] at H
         exact absurd H (by simp)
        rw [if_pos c38] at H
        have c38b0 := eq_true c38
        have c38b1 : decide ((ji36) ≤ (x0_6.size : Int)) = true := decide_eq_true c38
        clear c38
        by_cases c39 : ((x0_6.extract ((ji36) : Int).toNat x0_6.size).size : Int) = 0
        ·rw [if_pos c39] at H
         have c39b0 : (((x0_6.extract ((ji36) : Int).toNat x0_6.size).size : Int) == 0) = true := beq_iff_eq.mpr c39
         have c39b0s := c39b0; simp only [ByteArray.size_extract, Nat.min_self] at c39b0s
         have c39b1 : (((x0_6.extract ((ji36) : Int).toNat x0_6.size).size : Int) != 0) = false := bne_eq_false_iff_eq.mpr c39
         have c39b1s := c39b1; simp only [ByteArray.size_extract, Nat.min_self] at c39b1s
         clear c39
         replace H := Option.bind_eq_some_iff.mp H
         obtain ⟨t105, A400, H⟩ := H
         (try dsimp only at H)
         have A40 := mk0 A400
         clear A400
         simp only [Option.some.injEq, Prod.mk.injEq] at H
         obtain ⟨rfl, rfl⟩ := H
         go_wp2_with (first | ((with_reducible refine gate_callee (f := 54) rfl ?_); refine goesL_ (some 65) rfl rfl Tryd.func54 zq28 rfl #[.string (⟨#[109, 105, 115, 115, 105, 110, 103, 32, 102, 114, 97, 99, 116, 105, 111, 110, 97, 108, 32, 112, 97, 114, 116]⟩ : ByteArray)] rfl zq0 ?_; (with_reducible refine (errors_New.calls (⟨#[109, 105, 115, 115, 105, 110, 103, 32, 102, 114, 97, 99, 116, 105, 111, 110, 97, 108, 32, 112, 97, 114, 116]⟩ : ByteArray) t105 _ A40.out).mono ?_); rintro e w41 ⟨z_t105, hz_t105, rfl, hb⟩; have Hz_t105 := mk0 hz_t105; clear hz_t105; refine ⟨_, rfl, ?_⟩; have n0_ := mk0 (below_step zq2 hb); clear HB; have HB := n0_; clear n0_ hb; (try simp only [errW_none, errW_some])))
         go_ret2
         exact ⟨z_t105, Hz_t105.out, by rfl, by repeat (first | (with_reducible first | exact HB.out | apply below_alloc | apply pw_below_drewN | apply below_drew1) | exact HB.out)⟩
        rw [if_neg c39] at H
        have c39b0 : (((x0_6.extract ((ji36) : Int).toNat x0_6.size).size : Int) == 0) = false := beq_eq_false_iff_ne.mpr c39
        have c39b0s := c39b0; simp only [ByteArray.size_extract, Nat.min_self] at c39b0s
        have c39b1 : (((x0_6.extract ((ji36) : Int).toNat x0_6.size).size : Int) != 0) = true := bne_iff_ne.mpr c39
        have c39b1s := c39b1; simp only [ByteArray.size_extract, Nat.min_self] at c39b1s
        have HC42 := mk0 H
        clear H
        go_upto_block 2 with (fail)
        go_cut [4] (fun v4 wc => ∃ (kq : Nat) (x4_41 : Int), v4 = .int .i64 x4_41 ∧ Aside0 (fastjson_validateNumber.j5 kq (x0_6.extract ((ji36) : Int).toNat x0_6.size) x4_41 = some (r1, r2)) ∧ Aside0 (kq ≤ kj22) ∧ Aside0 (Below w.heap.size w wc))
        case first =>
         have H := HC42.out
         clear HC42
         have H' := mk0 H
         clear H
         go_wp2
         generalize (x0_6.extract ((ji36) : Int).toNat x0_6.size) = X_1 at *
         go_loopg [4] kj22 (fun kq v4 w' => ∃ (x4_4 : Int), v4 = .int .i64 x4_4 ∧ Aside0 (fastjson_validateNumber.l1 kq X_1 x4_4 = some (r1, r2)) ∧ Aside0 (kq ≤ kj22) ∧ Aside0 (Below w.heap.size w w'))
         case atStart => exact ⟨(0), (by rfl), H', ⟨Nat.le_refl _⟩, ⟨by repeat (first | (with_reducible first | exact HB.out | apply below_alloc | apply pw_below_drewN | apply below_drew1) | exact HB.out)⟩⟩
         case round =>
          clear H'
          clear c30b0 c31b0 c32b0 p33 q33 hx33 c35b0 c35b1 c37b0 c37b1 c38b0 c38b1 c39 c39b0 c39b1
          obtain ⟨x4_4, rfl, HA, HK4, HB⟩ := hrel
          cases gk with
          | zero => exact absurd HA.out (by simp [fastjson_validateNumber.l1])
          | succ k4 =>
           have H := HA.out
           clear HA
           simp only [fastjson_validateNumber.l1] at H
           by_cases c43 : x4_4 < (X_1.size : Int)
           rotate_left
           ·rw [if_neg c43] at H
            have c43b0 : decide (x4_4 < (X_1.size : Int)) = false := decide_eq_false c43
            clear c43
            (skip)
            have H' := mk0 H
            clear H
            go_wp2
            go_meet
            case rel => exact ⟨_, (x4_4), (by rfl), H', ⟨by have := HJ6.out; have := HJ12.out; have := HJ22.out; have := HK4.out; first | omega | exact Nat.le_refl _⟩, ⟨by repeat (first | (with_reducible first | exact HB.out | apply below_alloc | apply pw_below_drewN | apply below_drew1) | exact HB.out)⟩⟩
           rw [if_pos c43] at H
           have c43b0 : decide (x4_4 < (X_1.size : Int)) = true := decide_eq_true c43
           clear c43
           (skip)
           by_cases c44 : 0 ≤ x4_4
           rotate_left
           ·rw [if_neg c44] at H
            exact absurd H (by simp)
           rw [if_pos c44] at H
           have c44b0 : decide (0 ≤ x4_4) = true := decide_eq_true c44
           clear c44
           by_cases c46 : (bt X_1 x4_4) < 48
           ·rw [if_pos c46] at H
            have c46b0 : decide ((bt X_1 x4_4) < 48) = true := decide_eq_true c46
            clear c46
            have H' := mk0 H
            clear H
            have p45 : 0 ≤ (x4_4 : Int) := of_decide_eq_true zq5
            have q45 : x4_4 < (X_1.size : Int) := of_decide_eq_true zq5
            have hx45 := bt_at X_1 x4_4
            replace p45 := eq_true p45
            replace q45 := eq_true q45
            go_wp2
            go_meet
            case rel => exact ⟨_, (x4_4), (by rfl), H', ⟨by have := HJ6.out; have := HJ12.out; have := HJ22.out; have := HK4.out; first | omega | exact Nat.le_refl _⟩, ⟨by repeat (first | (with_reducible first | exact HB.out | apply below_alloc | apply pw_below_drewN | apply below_drew1) | exact HB.out)⟩⟩
           rw [if_neg c46] at H
           have c46b0 : decide ((bt X_1 x4_4) < 48) = false := decide_eq_false c46
           clear c46
           by_cases c48 : (bt X_1 x4_4) > 57
           ·rw [if_pos c48] at H
            have c48b0 : decide (57 < (bt X_1 x4_4)) = true := decide_eq_true c48
            clear c48
            have H' := mk0 H
            clear H
            have p45 : 0 ≤ (x4_4 : Int) := of_decide_eq_true zq5
            have q45 : x4_4 < (X_1.size : Int) := of_decide_eq_true zq5
            have hx45 := bt_at X_1 x4_4
            replace p45 := eq_true p45
            replace q45 := eq_true q45
            have p47 : 0 ≤ (x4_4 : Int) := of_decide_eq_true zq5
            have q47 : x4_4 < (X_1.size : Int) := of_decide_eq_true zq5
            have hx47 := bt_at X_1 x4_4
            replace p47 := eq_true p47
            replace q47 := eq_true q47
            go_wp2
            go_meet
            case rel => exact ⟨_, (x4_4), (by rfl), H', ⟨by have := HJ6.out; have := HJ12.out; have := HJ22.out; have := HK4.out; first | omega | exact Nat.le_refl _⟩, ⟨by repeat (first | (with_reducible first | exact HB.out | apply below_alloc | apply pw_below_drewN | apply below_drew1) | exact HB.out)⟩⟩
           rw [if_neg c48] at H
           have c48b0 : decide (57 < (bt X_1 x4_4)) = false := decide_eq_false c48
           clear c48
           have H' := mk0 H
           clear H
           have p45 : 0 ≤ (x4_4 : Int) := of_decide_eq_true zq5
           have q45 : x4_4 < (X_1.size : Int) := of_decide_eq_true zq5
           have hx45 := bt_at X_1 x4_4
           replace p45 := eq_true p45
           replace q45 := eq_true q45
           have p47 : 0 ≤ (x4_4 : Int) := of_decide_eq_true zq5
           have q47 : x4_4 < (X_1.size : Int) := of_decide_eq_true zq5
           have hx47 := bt_at X_1 x4_4
           replace p47 := eq_true p47
           replace q47 := eq_true q47
           go_wp2
           go_roundg k4
           case measure => have := HJ6.out; have := HJ12.out; have := HJ22.out; have := HK4.out; omega
           case rel => exact ⟨(wrap64 (x4_4 + 1)), (by rfl), H', ⟨by have := HJ6.out; have := HJ12.out; have := HJ22.out; have := HK4.out; omega⟩, ⟨by repeat (first | (with_reducible first | exact HB.out | apply below_alloc | apply pw_below_drewN | apply below_drew1) | exact HB.out)⟩⟩
        case rest =>
         clear HC42 c30b0 c31b0 c32b0 p33 q33 hx33 c35b0 c35b1 c37b0 c37b1 c38b0 c38b1 c39 c39b0 c39b1
         obtain ⟨kq, x4_41, rfl, HA, HJ41, HB⟩ := hcut
         cases kq with
         | zero => exact absurd HA.out (by simp [fastjson_validateNumber.j5])
         | succ kj41 =>
          have H := HA.out
          clear HA
          simp only [fastjson_validateNumber.j5] at H
          by_cases c49 : x4_41 = 0
          rotate_left
          ·rw [if_neg c49] at H
           have c49b0 : (x4_41 == 0) = false := beq_eq_false_iff_ne.mpr c49
           have c49b1 : (x4_41 != 0) = true := bne_iff_ne.mpr c49
           by_cases c52 : x4_41 ≥ ((x0_6.extract ((ji36) : Int).toNat x0_6.size).size : Int)
           ·rw [if_pos c52] at H
            have c52b0 : decide (((x0_6.extract ((ji36) : Int).toNat x0_6.size).size : Int) ≤ x4_41) = true := decide_eq_true c52
            have c52b0s := c52b0; simp only [ByteArray.size_extract, Nat.min_self] at c52b0s
            clear c52
            simp only [Option.some.injEq, Prod.mk.injEq] at H
            obtain ⟨rfl, rfl⟩ := H
            go_wp2
            go_ret2
            exact ⟨none, Zk.nn, by rfl, by repeat (first | (with_reducible first | exact HB.out | apply below_alloc | apply pw_below_drewN | apply below_drew1) | exact HB.out)⟩
           rw [if_neg c52] at H
           have c52b0 : decide (((x0_6.extract ((ji36) : Int).toNat x0_6.size).size : Int) ≤ x4_41) = false := decide_eq_false c52
           have c52b0s := c52b0; simp only [ByteArray.size_extract, Nat.min_self] at c52b0s
           clear c52
           have H' := mk0 H
           clear H
           go_wp2
           (try simp only [← hji36])
           go_meet
           case rel => exact ⟨_, ((x0_6.extract ((ji36) : Int).toNat x0_6.size)), (x4_41), (by (simp only [← hji36] <;> (first | rfl | (simp; done)))), (by rfl), (by exact H'), ⟨by have := HJ6.out; have := HJ12.out; have := HJ22.out; have := HJ41.out; first | omega | exact Nat.le_refl _⟩, ⟨by repeat (first | (with_reducible first | exact HB.out | apply below_alloc | apply pw_below_drewN | apply below_drew1) | exact HB.out)⟩⟩
          rw [if_pos c49] at H
          have c49b0 : (x4_41 == 0) = true := beq_iff_eq.mpr c49
          have c49b1 : (x4_41 != 0) = false := bne_eq_false_iff_eq.mpr c49
          clear c49
          replace H := Option.bind_eq_some_iff.mp H
          obtain ⟨t106, A500, H⟩ := H
          (try dsimp only at H)
          have A50 := mk0 A500
          clear A500
          simp only [Option.some.injEq, Prod.mk.injEq] at H
          obtain ⟨rfl, rfl⟩ := H
          go_wp2_with (first | ((with_reducible refine gate_callee (f := 54) rfl ?_); refine goesL_ (some 85) rfl rfl Tryd.func54 zq28 rfl #[.string (⟨#[101, 120, 112, 101, 99, 116, 105, 110, 103, 32, 48, 46, 46, 57, 32, 100, 105, 103, 105, 116, 32, 105, 110, 32, 102, 114, 97, 99, 116, 105, 111, 110, 97, 108, 32, 112, 97, 114, 116, 44, 32, 103, 111, 116]⟩ : ByteArray)] rfl zq0 ?_; (with_reducible refine (errors_New.calls (⟨#[101, 120, 112, 101, 99, 116, 105, 110, 103, 32, 48, 46, 46, 57, 32, 100, 105, 103, 105, 116, 32, 105, 110, 32, 102, 114, 97, 99, 116, 105, 111, 110, 97, 108, 32, 112, 97, 114, 116, 44, 32, 103, 111, 116]⟩ : ByteArray) t106 _ A50.out).mono ?_); rintro e w51 ⟨z_t106, hz_t106, rfl, hb⟩; have Hz_t106 := mk0 hz_t106; clear hz_t106; refine ⟨_, rfl, ?_⟩; have n0_ := mk0 (below_step zq2 hb); clear HB; have HB := n0_; clear n0_ hb; (try simp only [errW_none, errW_some])))
          go_ret2
          exact ⟨z_t106, Hz_t106.out, by rfl, by repeat (first | (with_reducible first | exact HB.out | apply below_alloc | apply pw_below_drewN | apply below_drew1) | exact HB.out)⟩
       case rest =>
        clear HC34 c30b0 c31b0 c32b0 p33 q33 hx33
        obtain ⟨kq, x0_33, x4_33, rfl, rfl, HA, HJ33, HB⟩ := hcut
        cases kq with
        | zero => exact absurd HA.out (by simp [fastjson_validateNumber.j6])
        | succ kj33 =>
         have H := HA.out
         clear HA
         simp only [fastjson_validateNumber.j6] at H
         have HC53 := mk0 H
         clear H
         go_upto_region 29 with (fail)
         go_cut [99] (fun v99 wc => ∃ (kq : Nat) (x99_52 : Bool), v99 = .bool x99_52 ∧ Aside0 (fastjson_validateNumber.j7 kq x0_33 x4_33 x99_52 = some (r1, r2)) ∧ Aside0 (kq ≤ kj33) ∧ Aside0 (Below w.heap.size w wc))
         case first =>
          have H := HC53.out
          clear HC53
          by_cases c54 : 0 ≤ x4_33
          rotate_left
          ·rw [if_neg c54] at H
           exact absurd H (by simp)
          rw [if_pos c54] at H
          have c54b0 : decide (0 ≤ x4_33) = true := decide_eq_true c54
          clear c54
          (skip)
          by_cases c55 : x4_33 < (x0_33.size : Int)
          rotate_left
          ·rw [if_neg c55] at H
           exact absurd H (by simp)
          rw [if_pos c55] at H
          have c55b0 : decide (x4_33 < (x0_33.size : Int)) = true := decide_eq_true c55
          clear c55
          by_cases c57 : (bt x0_33 x4_33) = 101
          ·rw [if_pos c57] at H
           have c57b0 : ((bt x0_33 x4_33) == 101) = true := beq_iff_eq.mpr c57
           have c57b1 : ((bt x0_33 x4_33) != 101) = false := bne_eq_false_iff_eq.mpr c57
           clear c57
           have H' := mk0 H
           clear H
           have p56 : 0 ≤ (x4_33 : Int) := of_decide_eq_true zq5
           have q56 : x4_33 < (x0_33.size : Int) := of_decide_eq_true zq5
           have hx56 := bt_at x0_33 x4_33
           replace p56 := eq_true p56
           replace q56 := eq_true q56
           go_wp2
           go_meet
           case rel => exact ⟨_, (true), (by rfl), H', ⟨by have := HJ6.out; have := HJ12.out; have := HJ22.out; have := HJ33.out; first | omega | exact Nat.le_refl _⟩, ⟨by repeat (first | (with_reducible first | exact HB.out | apply below_alloc | apply pw_below_drewN | apply below_drew1) | exact HB.out)⟩⟩
          rw [if_neg c57] at H
          have c57b0 : ((bt x0_33 x4_33) == 101) = false := beq_eq_false_iff_ne.mpr c57
          have c57b1 : ((bt x0_33 x4_33) != 101) = true := bne_iff_ne.mpr c57
          have H' := mk0 H
          clear H
          have p56 : 0 ≤ (x4_33 : Int) := of_decide_eq_true zq5
          have q56 : x4_33 < (x0_33.size : Int) := of_decide_eq_true zq5
          have hx56 := bt_at x0_33 x4_33
          replace p56 := eq_true p56
          replace q56 := eq_true q56
          have p58 : 0 ≤ (x4_33 : Int) := of_decide_eq_true zq5
          have q58 : x4_33 < (x0_33.size : Int) := of_decide_eq_true zq5
          have hx58 := bt_at x0_33 x4_33
          replace p58 := eq_true p58
          replace q58 := eq_true q58
          go_wp2
          go_meet
          case rel => exact ⟨_, (((bt x0_33 x4_33) == 69)), (by rfl), H', ⟨by have := HJ6.out; have := HJ12.out; have := HJ22.out; have := HJ33.out; first | omega | exact Nat.le_refl _⟩, ⟨by repeat (first | (with_reducible first | exact HB.out | apply below_alloc | apply pw_below_drewN | apply below_drew1) | exact HB.out)⟩⟩
         case rest =>
          clear HC53
          obtain ⟨kq, x99_52, rfl, HA, HJ52, HB⟩ := hcut
          cases kq with
          | zero => exact absurd HA.out (by simp [fastjson_validateNumber.j7])
          | succ kj52 =>
           have H := HA.out
           clear HA
           simp only [fastjson_validateNumber.j7] at H
           by_cases c59 : x99_52 = true
           rotate_left
           ·replace c59 := Bool.eq_false_iff.mpr c59
            subst c59
            rw [if_neg (show ¬ (false = true) by decide)] at H
            by_cases c90 : 0 ≤ x4_33
            rotate_left
            ·rw [if_neg c90] at H
             exact absurd H (by simp)
            rw [if_pos c90] at H
            have c90b0 := eq_true c90
            have c90b1 : decide (0 ≤ x4_33) = true := decide_eq_true c90
            clear c90
            by_cases c91 : x4_33 ≤ (x0_33.size : Int)
            rotate_left
            ·rw [if_neg c91] at H
             exact absurd H (by simp)
            rw [if_pos c91] at H
            have c91b0 := eq_true c91
            have c91b1 : decide (x4_33 ≤ (x0_33.size : Int)) = true := decide_eq_true c91
            clear c91
            simp only [Option.some.injEq, Prod.mk.injEq] at H
            obtain ⟨rfl, rfl⟩ := H
            go_wp2
            go_ret2
            exact ⟨none, Zk.nn, by rfl, by repeat (first | (with_reducible first | exact HB.out | apply below_alloc | apply pw_below_drewN | apply below_drew1) | exact HB.out)⟩
           subst c59
           rw [if_pos rfl] at H
           obtain ⟨ji60, hji60⟩ : ∃ j_ : Int, (wrap64 (x4_33 + 1)) = j_ := ⟨_, rfl⟩
           replace H : (if 0 ≤ (ji60) then (if (ji60) ≤ (x0_33.size : Int) then (if ((x0_33.extract ((ji60) : Int).toNat x0_33.size).size : Int) = 0 then ((errors_New.f (⟨#[109, 105, 115, 115, 105, 110, 103, 32, 101, 120, 112, 111, 110, 101, 110, 116, 32, 112, 97, 114, 116]⟩ : ByteArray)).bind fun t107 => (some (x0_33.extract ((ji60) : Int).toNat x0_33.size, t107))) else (if 0 < ((x0_33.extract ((ji60) : Int).toNat x0_33.size).size : Int) then (if (bt (x0_33.extract ((ji60) : Int).toNat x0_33.size) 0) = 45 then (fastjson_validateNumber.j8 kj52 (x0_33.extract ((ji60) : Int).toNat x0_33.size) true) else (fastjson_validateNumber.j8 kj52 (x0_33.extract ((ji60) : Int).toNat x0_33.size) ((bt (x0_33.extract ((ji60) : Int).toNat x0_33.size) 0) == 43))) else (none))) else (none)) else (none)) = some (r1, r2) := by (rw [hji60] at H; exact H)
           have hji60w : (IntKind.i64.wrap (x4_33 + 1)) = ji60 := (i64_w _).trans hji60
           by_cases c61 : 0 ≤ (ji60)
           rotate_left
           ·rw [if_neg c61] at H
            exact absurd H (by simp)
           rw [if_pos c61] at H
           have c61b0 := eq_true c61
           have c61b1 : decide (0 ≤ (ji60)) = true := decide_eq_true c61
           clear c61
           by_cases c62 : (ji60) ≤ (x0_33.size : Int)
           rotate_left
           ·rw [if_neg c62] at H
            exact absurd H (by simp)
           rw [if_pos c62] at H
           have c62b0 := eq_true c62
           have c62b1 : decide ((ji60) ≤ (x0_33.size : Int)) = true := decide_eq_true c62
           clear c62
           by_cases c63 : ((x0_33.extract ((ji60) : Int).toNat x0_33.size).size : Int) = 0
           ·rw [if_pos c63] at H
            have c63b0 : (((x0_33.extract ((ji60) : Int).toNat x0_33.size).size : Int) == 0) = true := beq_iff_eq.mpr c63
            have c63b0s := c63b0; simp only [ByteArray.size_extract, Nat.min_self] at c63b0s
            have c63b1 : (((x0_33.extract ((ji60) : Int).toNat x0_33.size).size : Int) != 0) = false := bne_eq_false_iff_eq.mpr c63
            have c63b1s := c63b1; simp only [ByteArray.size_extract, Nat.min_self] at c63b1s
            clear c63
            replace H := Option.bind_eq_some_iff.mp H
            obtain ⟨t107, A640, H⟩ := H
            (try dsimp only at H)
            have A64 := mk0 A640
            clear A640
            simp only [Option.some.injEq, Prod.mk.injEq] at H
            obtain ⟨rfl, rfl⟩ := H
            go_wp2_with (first | ((with_reducible refine gate_callee (f := 54) rfl ?_); refine goesL_ (some 108) rfl rfl Tryd.func54 zq28 rfl #[.string (⟨#[109, 105, 115, 115, 105, 110, 103, 32, 101, 120, 112, 111, 110, 101, 110, 116, 32, 112, 97, 114, 116]⟩ : ByteArray)] rfl zq0 ?_; (with_reducible refine (errors_New.calls (⟨#[109, 105, 115, 115, 105, 110, 103, 32, 101, 120, 112, 111, 110, 101, 110, 116, 32, 112, 97, 114, 116]⟩ : ByteArray) t107 _ A64.out).mono ?_); rintro e w65 ⟨z_t107, hz_t107, rfl, hb⟩; have Hz_t107 := mk0 hz_t107; clear hz_t107; refine ⟨_, rfl, ?_⟩; have n0_ := mk0 (below_step zq2 hb); clear HB; have HB := n0_; clear n0_ hb; (try simp only [errW_none, errW_some])))
            go_ret2
            exact ⟨z_t107, Hz_t107.out, by rfl, by repeat (first | (with_reducible first | exact HB.out | apply below_alloc | apply pw_below_drewN | apply below_drew1) | exact HB.out)⟩
           rw [if_neg c63] at H
           have c63b0 : (((x0_33.extract ((ji60) : Int).toNat x0_33.size).size : Int) == 0) = false := beq_eq_false_iff_ne.mpr c63
           have c63b0s := c63b0; simp only [ByteArray.size_extract, Nat.min_self] at c63b0s
           have c63b1 : (((x0_33.extract ((ji60) : Int).toNat x0_33.size).size : Int) != 0) = true := bne_iff_ne.mpr c63
           have c63b1s := c63b1; simp only [ByteArray.size_extract, Nat.min_self] at c63b1s
           have HC66 := mk0 H
           clear H
           go_upto_region 33 with (fail)
           go_cut [116] (fun v116 wc => ∃ (kq : Nat) (x116_65 : Bool), v116 = .bool x116_65 ∧ Aside0 (fastjson_validateNumber.j8 kq (x0_33.extract ((ji60) : Int).toNat x0_33.size) x116_65 = some (r1, r2)) ∧ Aside0 (kq ≤ kj52) ∧ Aside0 (Below w.heap.size w wc))
           case first =>
            have H := HC66.out
            clear HC66
            by_cases c67 : 0 < ((x0_33.extract ((ji60) : Int).toNat x0_33.size).size : Int)
            rotate_left
            ·rw [if_neg c67] at H
             exact absurd H (by simp)
            rw [if_pos c67] at H
            have c67b0 : decide (0 < ((x0_33.extract ((ji60) : Int).toNat x0_33.size).size : Int)) = true := decide_eq_true c67
            have c67b0s := c67b0; simp only [ByteArray.size_extract, Nat.min_self] at c67b0s
            have c67b1 : decide (0 < (x0_33.extract ((ji60) : Int).toNat x0_33.size).size) = true := decide_eq_true (by omega)
            have c67b1s := c67b1; simp only [ByteArray.size_extract, Nat.min_self] at c67b1s
            clear c67
            (skip)
            by_cases c69 : (bt (x0_33.extract ((ji60) : Int).toNat x0_33.size) 0) = 45
            ·rw [if_pos c69] at H
             have c69b0 : ((bt (x0_33.extract ((ji60) : Int).toNat x0_33.size) 0) == 45) = true := beq_iff_eq.mpr c69
             have c69b1 : ((bt (x0_33.extract ((ji60) : Int).toNat x0_33.size) 0) != 45) = false := bne_eq_false_iff_eq.mpr c69
             clear c69
             have H' := mk0 H
             clear H
             have p68 : 0 ≤ (0 : Int) := (by omega)
             have q68 : 0 < (x0_33.extract ((ji60) : Int).toNat x0_33.size).size := (by have : (0 : Int) < ((x0_33.extract ((ji60) : Int).toNat x0_33.size).size : Int) := of_decide_eq_true zq5; omega)
             have hx68 : ∀ h : 0 < (x0_33.extract ((ji60) : Int).toNat x0_33.size).size, (((x0_33.extract ((ji60) : Int).toNat x0_33.size)[0]'h).toNat : Int) = bt (x0_33.extract ((ji60) : Int).toNat x0_33.size) 0 := bt_at (x0_33.extract ((ji60) : Int).toNat x0_33.size) 0
             clear p68
             have qi68 : (0 < ((x0_33.extract ((ji60) : Int).toNat x0_33.size).size : Int)) = True := eq_true (of_decide_eq_true zq5)
             replace q68 := eq_true q68
             go_wp2
             go_meet
             case rel => exact ⟨_, (true), (by rfl), H', ⟨by have := HJ6.out; have := HJ12.out; have := HJ22.out; have := HJ33.out; have := HJ52.out; first | omega | exact Nat.le_refl _⟩, ⟨by repeat (first | (with_reducible first | exact HB.out | apply below_alloc | apply pw_below_drewN | apply below_drew1) | exact HB.out)⟩⟩
            rw [if_neg c69] at H
            have c69b0 : ((bt (x0_33.extract ((ji60) : Int).toNat x0_33.size) 0) == 45) = false := beq_eq_false_iff_ne.mpr c69
            have c69b1 : ((bt (x0_33.extract ((ji60) : Int).toNat x0_33.size) 0) != 45) = true := bne_iff_ne.mpr c69
            have H' := mk0 H
            clear H
            have p68 : 0 ≤ (0 : Int) := (by omega)
            have q68 : 0 < (x0_33.extract ((ji60) : Int).toNat x0_33.size).size := (by have : (0 : Int) < ((x0_33.extract ((ji60) : Int).toNat x0_33.size).size : Int) := of_decide_eq_true zq5; omega)
            have hx68 : ∀ h : 0 < (x0_33.extract ((ji60) : Int).toNat x0_33.size).size, (((x0_33.extract ((ji60) : Int).toNat x0_33.size)[0]'h).toNat : Int) = bt (x0_33.extract ((ji60) : Int).toNat x0_33.size) 0 := bt_at (x0_33.extract ((ji60) : Int).toNat x0_33.size) 0
            clear p68
            have qi68 : (0 < ((x0_33.extract ((ji60) : Int).toNat x0_33.size).size : Int)) = True := eq_true (of_decide_eq_true zq5)
            replace q68 := eq_true q68
            have p70 : 0 ≤ (0 : Int) := (by omega)
            have q70 : 0 < (x0_33.extract ((ji60) : Int).toNat x0_33.size).size := (by have : (0 : Int) < ((x0_33.extract ((ji60) : Int).toNat x0_33.size).size : Int) := of_decide_eq_true zq5; omega)
            have hx70 : ∀ h : 0 < (x0_33.extract ((ji60) : Int).toNat x0_33.size).size, (((x0_33.extract ((ji60) : Int).toNat x0_33.size)[0]'h).toNat : Int) = bt (x0_33.extract ((ji60) : Int).toNat x0_33.size) 0 := bt_at (x0_33.extract ((ji60) : Int).toNat x0_33.size) 0
            clear p70
            have qi70 : (0 < ((x0_33.extract ((ji60) : Int).toNat x0_33.size).size : Int)) = True := eq_true (of_decide_eq_true zq5)
            replace q70 := eq_true q70
            go_wp2
            go_meet
            case rel => exact ⟨_, (((bt (x0_33.extract ((ji60) : Int).toNat x0_33.size) 0) == 43)), (by rfl), H', ⟨by have := HJ6.out; have := HJ12.out; have := HJ22.out; have := HJ33.out; have := HJ52.out; first | omega | exact Nat.le_refl _⟩, ⟨by repeat (first | (with_reducible first | exact HB.out | apply below_alloc | apply pw_below_drewN | apply below_drew1) | exact HB.out)⟩⟩
           case rest =>
            clear HC66 c61b0 c61b1 c62b0 c62b1 c63 c63b0 c63b1
            obtain ⟨kq, x116_65, rfl, HA, HJ65, HB⟩ := hcut
            cases kq with
            | zero => exact absurd HA.out (by simp [fastjson_validateNumber.j8])
            | succ kj65 =>
             have H := HA.out
             clear HA
             simp only [fastjson_validateNumber.j8] at H
             have HC71 := mk0 H
             clear H
             go_upto_if 116 with (fail)
             go_cut [0] (fun v0 wc => ∃ (kq : Nat) (x0_70 : ByteArray), v0 = .string x0_70 ∧ Aside0 (fastjson_validateNumber.j9 kq x0_70 = some (r1, r2)) ∧ Aside0 (kq ≤ kj65) ∧ Aside0 (Below w.heap.size w wc))
             case first =>
              have H := HC71.out
              clear HC71
              by_cases c72 : x116_65 = true
              rotate_left
              ·replace c72 := Bool.eq_false_iff.mpr c72
               subst c72
               rw [if_neg (show ¬ (false = true) by decide)] at H
               have H' := mk0 H
               clear H
               go_wp2
               go_meet
               case rel => exact ⟨_, ((x0_33.extract ((ji60) : Int).toNat x0_33.size)), (by rfl), H', ⟨by have := HJ6.out; have := HJ12.out; have := HJ22.out; have := HJ33.out; have := HJ52.out; have := HJ65.out; first | omega | exact Nat.le_refl _⟩, ⟨by repeat (first | (with_reducible first | exact HB.out | apply below_alloc | apply pw_below_drewN | apply below_drew1) | exact HB.out)⟩⟩
              subst c72
              rw [if_pos rfl] at H
              by_cases c73 : 1 ≤ ((x0_33.extract ((ji60) : Int).toNat x0_33.size).size : Int)
              rotate_left
              ·rw [if_neg c73] at H
               exact absurd H (by simp)
              rw [if_pos c73] at H
              have c73b0 := eq_true c73
              have c73b1 : decide (1 ≤ ((x0_33.extract ((ji60) : Int).toNat x0_33.size).size : Int)) = true := decide_eq_true c73
              have c73b1s := c73b1; simp only [ByteArray.size_extract, Nat.min_self] at c73b1s
              clear c73
              by_cases c74 : (((x0_33.extract ((ji60) : Int).toNat x0_33.size).extract 1 (x0_33.extract ((ji60) : Int).toNat x0_33.size).size).size : Int) = 0
              rotate_left
              ·rw [if_neg c74] at H
               have c74b0 : ((((x0_33.extract ((ji60) : Int).toNat x0_33.size).extract 1 (x0_33.extract ((ji60) : Int).toNat x0_33.size).size).size : Int) == 0) = false := beq_eq_false_iff_ne.mpr c74
               have c74b0s := c74b0; simp only [ByteArray.size_extract, Nat.min_self] at c74b0s
               have c74b1 : ((((x0_33.extract ((ji60) : Int).toNat x0_33.size).extract 1 (x0_33.extract ((ji60) : Int).toNat x0_33.size).size).size : Int) != 0) = true := bne_iff_ne.mpr c74
               have c74b1s := c74b1; simp only [ByteArray.size_extract, Nat.min_self] at c74b1s
               (skip)
               have H' := mk0 H
               clear H
               go_wp2
               go_meet
               case rel => exact ⟨_, ((x0_33.extract ((ji60) : Int).toNat x0_33.size).extract 1 (x0_33.extract ((ji60) : Int).toNat x0_33.size).size), (by rfl), H', ⟨by have := HJ6.out; have := HJ12.out; have := HJ22.out; have := HJ33.out; have := HJ52.out; have := HJ65.out; first | omega | exact Nat.le_refl _⟩, ⟨by repeat (first | (with_reducible first | exact HB.out | apply below_alloc | apply pw_below_drewN | apply below_drew1) | exact HB.out)⟩⟩
              rw [if_pos c74] at H
              have c74b0 : ((((x0_33.extract ((ji60) : Int).toNat x0_33.size).extract 1 (x0_33.extract ((ji60) : Int).toNat x0_33.size).size).size : Int) == 0) = true := beq_iff_eq.mpr c74
              have c74b0s := c74b0; simp only [ByteArray.size_extract, Nat.min_self] at c74b0s
              have c74b1 : ((((x0_33.extract ((ji60) : Int).toNat x0_33.size).extract 1 (x0_33.extract ((ji60) : Int).toNat x0_33.size).size).size : Int) != 0) = false := bne_eq_false_iff_eq.mpr c74
              have c74b1s := c74b1; simp only [ByteArray.size_extract, Nat.min_self] at c74b1s
              clear c74
              (skip)
              replace H := Option.bind_eq_some_iff.mp H
              obtain ⟨t108, A750, H⟩ := H
              (try dsimp only at H)
              have A75 := mk0 A750
              clear A750
              simp only [Option.some.injEq, Prod.mk.injEq] at H
              obtain ⟨rfl, rfl⟩ := H
              go_wp2_with (first | ((with_reducible refine gate_callee (f := 54) rfl ?_); refine goesL_ (some 123) rfl rfl Tryd.func54 zq28 rfl #[.string (⟨#[109, 105, 115, 115, 105, 110, 103, 32, 101, 120, 112, 111, 110, 101, 110, 116, 32, 112, 97, 114, 116]⟩ : ByteArray)] rfl zq0 ?_; (with_reducible refine (errors_New.calls (⟨#[109, 105, 115, 115, 105, 110, 103, 32, 101, 120, 112, 111, 110, 101, 110, 116, 32, 112, 97, 114, 116]⟩ : ByteArray) t108 _ A75.out).mono ?_); rintro e w76 ⟨z_t108, hz_t108, rfl, hb⟩; have Hz_t108 := mk0 hz_t108; clear hz_t108; refine ⟨_, rfl, ?_⟩; have n0_ := mk0 (below_step zq2 hb); clear HB; have HB := n0_; clear n0_ hb; (try simp only [errW_none, errW_some])))
              go_ret2
              exact ⟨z_t108, Hz_t108.out, by rfl, by repeat (first | (with_reducible first | exact HB.out | apply below_alloc | apply pw_below_drewN | apply below_drew1) | exact HB.out)⟩
             case rest =>
              clear HC71
              obtain ⟨kq, x0_70, rfl, HA, HJ70, HB⟩ := hcut
              cases kq with
              | zero => exact absurd HA.out (by simp [fastjson_validateNumber.j9])
              | succ kj70 =>
               have H := HA.out
               clear HA
               simp only [fastjson_validateNumber.j9] at H
               have HC77 := mk0 H
               clear H
               go_upto_block 4 with (fail)
               go_cut [4] (fun v4 wc => ∃ (kq : Nat) (x4_76 : Int), v4 = .int .i64 x4_76 ∧ Aside0 (fastjson_validateNumber.j11 kq x0_70 x4_76 = some (r1, r2)) ∧ Aside0 (kq ≤ kj70) ∧ Aside0 (Below w.heap.size w wc))
               case first =>
                have H := HC77.out
                clear HC77
                have H' := mk0 H
                clear H
                go_wp2
                go_loopg [4] kj70 (fun kq v4 w' => ∃ (x4_8 : Int), v4 = .int .i64 x4_8 ∧ Aside0 (fastjson_validateNumber.l2 kq x0_70 x4_8 = some (r1, r2)) ∧ Aside0 (kq ≤ kj70) ∧ Aside0 (Below w.heap.size w w'))
                case atStart => exact ⟨(0), (by rfl), H', ⟨Nat.le_refl _⟩, ⟨by repeat (first | (with_reducible first | exact HB.out | apply below_alloc | apply pw_below_drewN | apply below_drew1) | exact HB.out)⟩⟩
                case round =>
                 clear H'
                 obtain ⟨x4_8, rfl, HA, HK8, HB⟩ := hrel
                 cases gk with
                 | zero => exact absurd HA.out (by simp [fastjson_validateNumber.l2])
                 | succ k8 =>
                  have H := HA.out
                  clear HA
                  simp only [fastjson_validateNumber.l2] at H
                  by_cases c78 : x4_8 < (x0_70.size : Int)
                  rotate_left
                  ·rw [if_neg c78] at H
                   have c78b0 : decide (x4_8 < (x0_70.size : Int)) = false := decide_eq_false c78
                   clear c78
                   (skip)
                   have H' := mk0 H
                   clear H
                   go_wp2
                   go_meet
                   case rel => exact ⟨_, (x4_8), (by rfl), H', ⟨by have := HJ6.out; have := HJ12.out; have := HJ22.out; have := HJ33.out; have := HJ52.out; have := HJ65.out; have := HJ70.out; have := HK8.out; first | omega | exact Nat.le_refl _⟩, ⟨by repeat (first | (with_reducible first | exact HB.out | apply below_alloc | apply pw_below_drewN | apply below_drew1) | exact HB.out)⟩⟩
                  rw [if_pos c78] at H
                  have c78b0 : decide (x4_8 < (x0_70.size : Int)) = true := decide_eq_true c78
                  clear c78
                  (skip)
                  by_cases c79 : 0 ≤ x4_8
                  rotate_left
                  ·rw [if_neg c79] at H
                   exact absurd H (by simp)
                  rw [if_pos c79] at H
                  have c79b0 : decide (0 ≤ x4_8) = true := decide_eq_true c79
                  clear c79
                  by_cases c81 : (bt x0_70 x4_8) < 48
                  ·rw [if_pos c81] at H
                   have c81b0 : decide ((bt x0_70 x4_8) < 48) = true := decide_eq_true c81
                   clear c81
                   have H' := mk0 H
                   clear H
                   have p80 : 0 ≤ (x4_8 : Int) := of_decide_eq_true zq5
                   have q80 : x4_8 < (x0_70.size : Int) := of_decide_eq_true zq5
                   have hx80 := bt_at x0_70 x4_8
                   replace p80 := eq_true p80
                   replace q80 := eq_true q80
                   go_wp2
                   go_meet
                   case rel => exact ⟨_, (x4_8), (by rfl), H', ⟨by have := HJ6.out; have := HJ12.out; have := HJ22.out; have := HJ33.out; have := HJ52.out; have := HJ65.out; have := HJ70.out; have := HK8.out; first | omega | exact Nat.le_refl _⟩, ⟨by repeat (first | (with_reducible first | exact HB.out | apply below_alloc | apply pw_below_drewN | apply below_drew1) | exact HB.out)⟩⟩
                  rw [if_neg c81] at H
                  have c81b0 : decide ((bt x0_70 x4_8) < 48) = false := decide_eq_false c81
                  clear c81
                  by_cases c83 : (bt x0_70 x4_8) > 57
                  ·rw [if_pos c83] at H
                   have c83b0 : decide (57 < (bt x0_70 x4_8)) = true := decide_eq_true c83
                   clear c83
                   have H' := mk0 H
                   clear H
                   have p80 : 0 ≤ (x4_8 : Int) := of_decide_eq_true zq5
                   have q80 : x4_8 < (x0_70.size : Int) := of_decide_eq_true zq5
                   have hx80 := bt_at x0_70 x4_8
                   replace p80 := eq_true p80
                   replace q80 := eq_true q80
                   have p82 : 0 ≤ (x4_8 : Int) := of_decide_eq_true zq5
                   have q82 : x4_8 < (x0_70.size : Int) := of_decide_eq_true zq5
                   have hx82 := bt_at x0_70 x4_8
                   replace p82 := eq_true p82
                   replace q82 := eq_true q82
                   go_wp2
                   go_meet
                   case rel => exact ⟨_, (x4_8), (by rfl), H', ⟨by have := HJ6.out; have := HJ12.out; have := HJ22.out; have := HJ33.out; have := HJ52.out; have := HJ65.out; have := HJ70.out; have := HK8.out; first | omega | exact Nat.le_refl _⟩, ⟨by repeat (first | (with_reducible first | exact HB.out | apply below_alloc | apply pw_below_drewN | apply below_drew1) | exact HB.out)⟩⟩
                  rw [if_neg c83] at H
                  have c83b0 : decide (57 < (bt x0_70 x4_8)) = false := decide_eq_false c83
                  clear c83
                  have H' := mk0 H
                  clear H
                  have p80 : 0 ≤ (x4_8 : Int) := of_decide_eq_true zq5
                  have q80 : x4_8 < (x0_70.size : Int) := of_decide_eq_true zq5
                  have hx80 := bt_at x0_70 x4_8
                  replace p80 := eq_true p80
                  replace q80 := eq_true q80
                  have p82 : 0 ≤ (x4_8 : Int) := of_decide_eq_true zq5
                  have q82 : x4_8 < (x0_70.size : Int) := of_decide_eq_true zq5
                  have hx82 := bt_at x0_70 x4_8
                  replace p82 := eq_true p82
                  replace q82 := eq_true q82
                  go_wp2
                  go_roundg k8
                  case measure => have := HJ6.out; have := HJ12.out; have := HJ22.out; have := HJ33.out; have := HJ52.out; have := HJ65.out; have := HJ70.out; have := HK8.out; omega
                  case rel => exact ⟨(wrap64 (x4_8 + 1)), (by rfl), H', ⟨by have := HJ6.out; have := HJ12.out; have := HJ22.out; have := HJ33.out; have := HJ52.out; have := HJ65.out; have := HJ70.out; have := HK8.out; omega⟩, ⟨by repeat (first | (with_reducible first | exact HB.out | apply below_alloc | apply pw_below_drewN | apply below_drew1) | exact HB.out)⟩⟩
               case rest =>
                clear HC77
                obtain ⟨kq, x4_76, rfl, HA, HJ76, HB⟩ := hcut
                cases kq with
                | zero => exact absurd HA.out (by simp [fastjson_validateNumber.j11])
                | succ kj76 =>
                 have H := HA.out
                 clear HA
                 simp only [fastjson_validateNumber.j11] at H
                 by_cases c84 : x4_76 = 0
                 rotate_left
                 ·rw [if_neg c84] at H
                  have c84b0 : (x4_76 == 0) = false := beq_eq_false_iff_ne.mpr c84
                  have c84b1 : (x4_76 != 0) = true := bne_iff_ne.mpr c84
                  by_cases c87 : x4_76 ≥ (x0_70.size : Int)
                  ·rw [if_pos c87] at H
                   have c87b0 : decide ((x0_70.size : Int) ≤ x4_76) = true := decide_eq_true c87
                   clear c87
                   simp only [Option.some.injEq, Prod.mk.injEq] at H
                   obtain ⟨rfl, rfl⟩ := H
                   go_wp2
                   go_ret2
                   exact ⟨none, Zk.nn, by rfl, by repeat (first | (with_reducible first | exact HB.out | apply below_alloc | apply pw_below_drewN | apply below_drew1) | exact HB.out)⟩
                  rw [if_neg c87] at H
                  have c87b0 : decide ((x0_70.size : Int) ≤ x4_76) = false := decide_eq_false c87
                  clear c87
                  by_cases c88 : 0 ≤ x4_76
                  rotate_left
                  ·rw [if_neg c88] at H
                   exact absurd H (by simp)
                  rw [if_pos c88] at H
                  have c88b0 := eq_true c88
                  have c88b1 : decide (0 ≤ x4_76) = true := decide_eq_true c88
                  clear c88
                  by_cases c89 : x4_76 ≤ (x0_70.size : Int)
                  rotate_left
                  ·rw [if_neg c89] at H
                   exact absurd H (by simp)
                  rw [if_pos c89] at H
                  have c89b0 := eq_true c89
                  have c89b1 : decide (x4_76 ≤ (x0_70.size : Int)) = true := decide_eq_true c89
                  clear c89
                  simp only [Option.some.injEq, Prod.mk.injEq] at H
                  obtain ⟨rfl, rfl⟩ := H
                  go_wp2
                  go_ret2
                  exact ⟨none, Zk.nn, by rfl, by repeat (first | (with_reducible first | exact HB.out | apply below_alloc | apply pw_below_drewN | apply below_drew1) | exact HB.out)⟩
                 rw [if_pos c84] at H
                 have c84b0 : (x4_76 == 0) = true := beq_iff_eq.mpr c84
                 have c84b1 : (x4_76 != 0) = false := bne_eq_false_iff_eq.mpr c84
                 clear c84
                 replace H := Option.bind_eq_some_iff.mp H
                 obtain ⟨t109, A850, H⟩ := H
                 (try dsimp only at H)
                 have A85 := mk0 A850
                 clear A850
                 simp only [Option.some.injEq, Prod.mk.injEq] at H
                 obtain ⟨rfl, rfl⟩ := H
                 go_wp2_with (first | ((with_reducible refine gate_callee (f := 54) rfl ?_); refine goesL_ (some 143) rfl rfl Tryd.func54 zq28 rfl #[.string (⟨#[101, 120, 112, 101, 99, 116, 105, 110, 103, 32, 48, 46, 46, 57, 32, 100, 105, 103, 105, 116, 32, 105, 110, 32, 101, 120, 112, 111, 110, 101, 110, 116, 32, 112, 97, 114, 116, 44, 32, 103, 111, 116]⟩ : ByteArray)] rfl zq0 ?_; (with_reducible refine (errors_New.calls (⟨#[101, 120, 112, 101, 99, 116, 105, 110, 103, 32, 48, 46, 46, 57, 32, 100, 105, 103, 105, 116, 32, 105, 110, 32, 101, 120, 112, 111, 110, 101, 110, 116, 32, 112, 97, 114, 116, 44, 32, 103, 111, 116]⟩ : ByteArray) t109 _ A85.out).mono ?_); rintro e w86 ⟨z_t109, hz_t109, rfl, hb⟩; have Hz_t109 := mk0 hz_t109; clear hz_t109; refine ⟨_, rfl, ?_⟩; have n0_ := mk0 (below_step zq2 hb); clear HB; have HB := n0_; clear n0_ hb; (try simp only [errW_none, errW_some])))
                 go_ret2
                 exact ⟨z_t109, Hz_t109.out, by rfl, by repeat (first | (with_reducible first | exact HB.out | apply below_alloc | apply pw_below_drewN | apply below_drew1) | exact HB.out)⟩
mutual
def fastjson_validateArray.l0 : Nat → ByteArray → Option (ByteArray × Option Int)
  | 0, _ => none
  | k + 1, x0 => (fastjson_skipWS.f k x0).bind fun t103 => ((fastjson_validateValue.f k t103).bind fun bt104 => (if bt104.2.isNone = true then ((fastjson_skipWS.f k bt104.1).bind fun t107 => (if (t107.size : Int) = 0 then ((errors_New.f (⟨#[117, 110, 101, 120, 112, 101, 99, 116, 101, 100, 32, 101, 110, 100, 32, 111, 102, 32, 97, 114, 114, 97, 121]⟩ : ByteArray)).bind fun t108 => (some (t107, t108))) else (if 0 < (t107.size : Int) then (if (bt t107 0) = 44 then (if 1 ≤ (t107.size : Int) then (fastjson_validateArray.l0 k (t107.extract 1 t107.size)) else (none)) else (if (bt t107 0) = 93 then (if 1 ≤ (t107.size : Int) then (some (t107.extract 1 t107.size, none)) else (none)) else ((errors_New.f (⟨#[109, 105, 115, 115, 105, 110, 103, 32, 39, 44, 39, 32, 97, 102, 116, 101, 114, 32, 97, 114, 114, 97, 121, 32, 118, 97, 108, 117, 101]⟩ : ByteArray)).bind fun t109 => (some (t107, t109))))) else (none)))) else ((errors_New.f (⟨#[99, 97, 110, 110, 111, 116, 32, 112, 97, 114, 115, 101, 32, 97, 114, 114, 97, 121, 32, 118, 97, 108, 117, 101]⟩ : ByteArray)).bind fun t110 => (some (bt104.1, t110)))))
def fastjson_validateArray.f : Nat → ByteArray → Option (ByteArray × Option Int)
  | 0, _ => none
  | k + 1, a0 => (fastjson_skipWS.f k a0).bind fun t101 => (if (t101.size : Int) = 0 then ((errors_New.f (⟨#[109, 105, 115, 115, 105, 110, 103, 32, 39, 93]⟩ : ByteArray)).bind fun t102 => (some (t101, t102))) else (if 0 < (t101.size : Int) then (if (bt t101 0) = 93 then (if 1 ≤ (t101.size : Int) then (some (t101.extract 1 t101.size, none)) else (none)) else (fastjson_validateArray.l0 k t101)) else (none)))
def fastjson_validateValue.l0 : Nat → ByteArray → ByteArray → Int → Int → Option (ByteArray × Option Int)
  | 0, _, _, _, _ => none
  | k + 1, x8, x9, x62, x63 => if x63 < x62 then (if 0 ≤ x63 then (if x63 < (x8.size : Int) then (if (bt x8 x63) < 32 then ((errors_New.f (⟨#[115, 116, 114, 105, 110, 103, 32, 99, 97, 110, 110, 111, 116, 32, 99, 111, 110, 116, 97, 105, 110, 32, 99, 111, 110, 116, 114, 111, 108, 32, 99, 104, 97, 114, 32, 48, 120]⟩ : ByteArray)).bind fun t124 => (some (x9, t124))) else (fastjson_validateValue.l0 k x8 x9 x62 (wrap64 (x63 + 1)))) else (none)) else (none)) else (some (x9, none))
def fastjson_validateValue.f : Nat → ByteArray → Option (ByteArray × Option Int)
  | 0, _ => none
  | k + 1, a0 => if (a0.size : Int) = 0 then ((errors_New.f (⟨#[99, 97, 110, 110, 111, 116, 32, 112, 97, 114, 115, 101, 32, 101, 109, 112, 116, 121, 32, 115, 116, 114, 105, 110, 103]⟩ : ByteArray)).bind fun t111 => (some (a0, t111))) else (if 0 < (a0.size : Int) then (if (bt a0 0) = 123 then (if 1 ≤ (a0.size : Int) then ((fastjson_validateObject.f k (a0.extract 1 a0.size)).bind fun bt112 => (if bt112.2.isNone = true then (some (bt112.1, none)) else ((errors_New.f (⟨#[99, 97, 110, 110, 111, 116, 32, 112, 97, 114, 115, 101, 32, 111, 98, 106, 101, 99, 116]⟩ : ByteArray)).bind fun t115 => (some (bt112.1, t115))))) else (none)) else (if (bt a0 0) = 91 then (if 1 ≤ (a0.size : Int) then ((fastjson_validateArray.f k (a0.extract 1 a0.size)).bind fun bt116 => (if bt116.2.isNone = true then (some (bt116.1, none)) else ((errors_New.f (⟨#[99, 97, 110, 110, 111, 116, 32, 112, 97, 114, 115, 101, 32, 97, 114, 114, 97, 121]⟩ : ByteArray)).bind fun t119 => (some (bt116.1, t119))))) else (none)) else (if (bt a0 0) = 34 then (if 1 ≤ (a0.size : Int) then ((fastjson_validateString.f k (a0.extract 1 a0.size)).bind fun bt120 => (if bt120.2.2.isNone = true then (fastjson_validateValue.l0 k bt120.1 bt120.2.1 (bt120.1.size : Int) 0) else ((errors_New.f (⟨#[99, 97, 110, 110, 111, 116, 32, 112, 97, 114, 115, 101, 32, 115, 116, 114, 105, 110, 103]⟩ : ByteArray)).bind fun t125 => (some (bt120.2.1, t125))))) else (none)) else (if (bt a0 0) = 116 then (if (a0.size : Int) < 4 then ((errors_New.f (⟨#[117, 110, 101, 120, 112, 101, 99, 116, 101, 100, 32, 118, 97, 108, 117, 101, 32, 102, 111, 117, 110, 100]⟩ : ByteArray)).bind fun t126 => (some (a0, t126))) else (if 0 ≤ 4 then (if 4 ≤ (a0.size : Int) then (if (a0.extract 0 4).toList = ([116, 114, 117, 101] : List UInt8) then (some (a0.extract 4 a0.size, none)) else ((errors_New.f (⟨#[117, 110, 101, 120, 112, 101, 99, 116, 101, 100, 32, 118, 97, 108, 117, 101, 32, 102, 111, 117, 110, 100]⟩ : ByteArray)).bind fun t127 => (some (a0, t127)))) else (none)) else (none))) else (if (bt a0 0) = 102 then (if (a0.size : Int) < 5 then ((errors_New.f (⟨#[117, 110, 101, 120, 112, 101, 99, 116, 101, 100, 32, 118, 97, 108, 117, 101, 32, 102, 111, 117, 110, 100]⟩ : ByteArray)).bind fun t128 => (some (a0, t128))) else (if 0 ≤ 5 then (if 5 ≤ (a0.size : Int) then (if (a0.extract 0 5).toList = ([102, 97, 108, 115, 101] : List UInt8) then (some (a0.extract 5 a0.size, none)) else ((errors_New.f (⟨#[117, 110, 101, 120, 112, 101, 99, 116, 101, 100, 32, 118, 97, 108, 117, 101, 32, 102, 111, 117, 110, 100]⟩ : ByteArray)).bind fun t129 => (some (a0, t129)))) else (none)) else (none))) else (if (bt a0 0) = 110 then (if (a0.size : Int) < 4 then ((errors_New.f (⟨#[117, 110, 101, 120, 112, 101, 99, 116, 101, 100, 32, 118, 97, 108, 117, 101, 32, 102, 111, 117, 110, 100]⟩ : ByteArray)).bind fun t130 => (some (a0, t130))) else (if 0 ≤ 4 then (if 4 ≤ (a0.size : Int) then (if (a0.extract 0 4).toList = ([110, 117, 108, 108] : List UInt8) then (some (a0.extract 4 a0.size, none)) else ((errors_New.f (⟨#[117, 110, 101, 120, 112, 101, 99, 116, 101, 100, 32, 118, 97, 108, 117, 101, 32, 102, 111, 117, 110, 100]⟩ : ByteArray)).bind fun t131 => (some (a0, t131)))) else (none)) else (none))) else ((fastjson_validateNumber.f k a0).bind fun bt132 => (if bt132.2.isNone = true then (some (bt132.1, none)) else ((errors_New.f (⟨#[99, 97, 110, 110, 111, 116, 32, 112, 97, 114, 115, 101, 32, 110, 117, 109, 98, 101, 114]⟩ : ByteArray)).bind fun t135 => (some (bt132.1, t135))))))))))) else (none))
def fastjson_validateObject.l0 : Nat → ByteArray → Option (ByteArray × Option Int)
  | 0, _ => none
  | k + 1, x0 => (fastjson_skipWS.f k x0).bind fun t138 => (if (t138.size : Int) = 0 then (fastjson_validateObject.j1 k t138 true) else (if 0 < (t138.size : Int) then (fastjson_validateObject.j1 k t138 ((bt t138 0) != 34)) else (none)))
def fastjson_validateObject.j1 : Nat → ByteArray → Bool → Option (ByteArray × Option Int)
  | 0, _, _ => none
  | k + 1, x0, x28 => if x28 = true then ((errors_New.f (⟨#[99, 97, 110, 110, 111, 116, 32, 102, 105, 110, 100, 32, 111, 112, 101, 110, 105, 110, 103, 32, 39, 34, 34, 32, 102, 111, 114, 32, 111, 98, 106, 101, 99, 116, 32, 107, 101, 121]⟩ : ByteArray)).bind fun t139 => (some (x0, t139))) else (if 1 ≤ (x0.size : Int) then ((fastjson_validateKey.f k (x0.extract 1 x0.size)).bind fun bt140 => (if bt140.2.2.isNone = true then (fastjson_validateObject.l1 k bt140.2.1 bt140.1 (bt140.1.size : Int) 0) else ((errors_New.f (⟨#[99, 97, 110, 110, 111, 116, 32, 112, 97, 114, 115, 101, 32, 111, 98, 106, 101, 99, 116, 32, 107, 101, 121]⟩ : ByteArray)).bind fun t155 => (some (bt140.2.1, t155))))) else (none))
def fastjson_validateObject.l1 : Nat → ByteArray → ByteArray → Int → Int → Option (ByteArray × Option Int)
  | 0, _, _, _, _ => none
  | k + 1, x0, x5, x43, x44 => if x44 < x43 then (if 0 ≤ x44 then (if x44 < (x5.size : Int) then (if (bt x5 x44) < 32 then ((errors_New.f (⟨#[111, 98, 106, 101, 99, 116, 32, 107, 101, 121, 32, 99, 97, 110, 110, 111, 116, 32, 99, 111, 110, 116, 97, 105, 110, 32, 99, 111, 110, 116, 114, 111, 108, 32, 99, 104, 97, 114, 32, 48, 120]⟩ : ByteArray)).bind fun t144 => (some (x0, t144))) else (fastjson_validateObject.l1 k x0 x5 x43 (wrap64 (x44 + 1)))) else (none)) else (none)) else ((fastjson_skipWS.f k x0).bind fun t145 => (if (t145.size : Int) = 0 then (fastjson_validateObject.j3 k t145 true) else (if 0 < (t145.size : Int) then (fastjson_validateObject.j3 k t145 ((bt t145 0) != 58)) else (none))))
def fastjson_validateObject.j3 : Nat → ByteArray → Bool → Option (ByteArray × Option Int)
  | 0, _, _ => none
  | k + 1, x0, x63 => if x63 = true then ((errors_New.f (⟨#[109, 105, 115, 115, 105, 110, 103, 32, 39, 58, 39, 32, 97, 102, 116, 101, 114, 32, 111, 98, 106, 101, 99, 116, 32, 107, 101, 121]⟩ : ByteArray)).bind fun t146 => (some (x0, t146))) else (if 1 ≤ (x0.size : Int) then ((fastjson_skipWS.f k (x0.extract 1 x0.size)).bind fun t147 => ((fastjson_validateValue.f k t147).bind fun bt148 => (if bt148.2.isNone = true then ((fastjson_skipWS.f k bt148.1).bind fun t151 => (if (t151.size : Int) = 0 then ((errors_New.f (⟨#[117, 110, 101, 120, 112, 101, 99, 116, 101, 100, 32, 101, 110, 100, 32, 111, 102, 32, 111, 98, 106, 101, 99, 116]⟩ : ByteArray)).bind fun t152 => (some (t151, t152))) else (if 0 < (t151.size : Int) then (if (bt t151 0) = 44 then (if 1 ≤ (t151.size : Int) then (fastjson_validateObject.l0 k (t151.extract 1 t151.size)) else (none)) else (if (bt t151 0) = 125 then (if 1 ≤ (t151.size : Int) then (some (t151.extract 1 t151.size, none)) else (none)) else ((errors_New.f (⟨#[109, 105, 115, 115, 105, 110, 103, 32, 39, 44, 39, 32, 97, 102, 116, 101, 114, 32, 111, 98, 106, 101, 99, 116, 32, 118, 97, 108, 117, 101]⟩ : ByteArray)).bind fun t153 => (some (t151, t153))))) else (none)))) else ((errors_New.f (⟨#[99, 97, 110, 110, 111, 116, 32, 112, 97, 114, 115, 101, 32, 111, 98, 106, 101, 99, 116, 32, 118, 97, 108, 117, 101]⟩ : ByteArray)).bind fun t154 => (some (bt148.1, t154)))))) else (none))
def fastjson_validateObject.f : Nat → ByteArray → Option (ByteArray × Option Int)
  | 0, _ => none
  | k + 1, a0 => (fastjson_skipWS.f k a0).bind fun t136 => (if (t136.size : Int) = 0 then ((errors_New.f (⟨#[109, 105, 115, 115, 105, 110, 103, 32, 39, 125]⟩ : ByteArray)).bind fun t137 => (some (t136, t137))) else (if 0 < (t136.size : Int) then (if (bt t136 0) = 125 then (if 1 ≤ (t136.size : Int) then (some (t136.extract 1 t136.size, none)) else (none)) else (fastjson_validateObject.l0 k t136)) else (none)))
end
theorem grp80.mono_l : ∀ k, (∀ y0, LeO (fastjson_validateArray.f k y0) (fastjson_validateArray.f (k + 1) y0)) ∧ (∀ y0, LeO (fastjson_validateValue.f k y0) (fastjson_validateValue.f (k + 1) y0)) ∧ (∀ y0, LeO (fastjson_validateObject.f k y0) (fastjson_validateObject.f (k + 1) y0)) ∧ (∀ y0, LeO (fastjson_validateArray.l0 k y0) (fastjson_validateArray.l0 (k + 1) y0)) ∧ (∀ y0 y1 y2 y3, LeO (fastjson_validateValue.l0 k y0 y1 y2 y3) (fastjson_validateValue.l0 (k + 1) y0 y1 y2 y3)) ∧ (∀ y0, LeO (fastjson_validateObject.l0 k y0) (fastjson_validateObject.l0 (k + 1) y0)) ∧ (∀ y0 y1, LeO (fastjson_validateObject.j1 k y0 y1) (fastjson_validateObject.j1 (k + 1) y0 y1)) ∧ (∀ y0 y1 y2 y3, LeO (fastjson_validateObject.l1 k y0 y1 y2 y3) (fastjson_validateObject.l1 (k + 1) y0 y1 y2 y3)) ∧ (∀ y0 y1, LeO (fastjson_validateObject.j3 k y0 y1) (fastjson_validateObject.j3 (k + 1) y0 y1))
 | 0 => ⟨fun _ r h => by simp [fastjson_validateArray.f] at h, fun _ r h => by simp [fastjson_validateValue.f] at h, fun _ r h => by simp [fastjson_validateObject.f] at h, fun _ r h => by simp [fastjson_validateArray.l0] at h, fun _ _ _ _ r h => by simp [fastjson_validateValue.l0] at h, fun _ r h => by simp [fastjson_validateObject.l0] at h, fun _ _ r h => by simp [fastjson_validateObject.j1] at h, fun _ _ _ _ r h => by simp [fastjson_validateObject.l1] at h, fun _ _ r h => by simp [fastjson_validateObject.j3] at h⟩
 | k + 1 => by
  obtain ⟨ih0, ih1, ih2, ih3, ih4, ih5, ih6, ih7, ih8⟩ := grp80.mono_l k
  refine ⟨?_, ?_, ?_, ?_, ?_, ?_, ?_, ?_, ?_⟩
  ·intro y0
   unfold fastjson_validateArray.f
   repeat' first
   | (with_reducible exact ih0 _)
   | (with_reducible exact ih1 _)
   | (with_reducible exact ih2 _)
   | (with_reducible exact ih3 _)
   | (with_reducible exact ih4 _ _ _ _)
   | (with_reducible exact ih5 _)
   | (with_reducible exact ih6 _ _)
   | (with_reducible exact ih7 _ _ _ _)
   | (with_reducible exact ih8 _ _)
   | (with_reducible exact fastjson_skipWS.mono _ _)
   | (with_reducible exact fastjson_validateKey.mono _ _)
   | (with_reducible exact fastjson_validateNumber.mono _ _)
   | (with_reducible exact fastjson_validateString.mono _ _)
   | (with_reducible exact LeO.refl _)
   | (with_reducible exact LeO.none _)
   | (with_reducible refine LeO.ite ?_ ?_)
   | (with_reducible refine LeO.bind ?_ (fun _ => ?_))
  ·intro y0
   unfold fastjson_validateValue.f
   repeat' first
   | (with_reducible exact ih0 _)
   | (with_reducible exact ih1 _)
   | (with_reducible exact ih2 _)
   | (with_reducible exact ih3 _)
   | (with_reducible exact ih4 _ _ _ _)
   | (with_reducible exact ih5 _)
   | (with_reducible exact ih6 _ _)
   | (with_reducible exact ih7 _ _ _ _)
   | (with_reducible exact ih8 _ _)
   | (with_reducible exact fastjson_skipWS.mono _ _)
   | (with_reducible exact fastjson_validateKey.mono _ _)
   | (with_reducible exact fastjson_validateNumber.mono _ _)
   | (with_reducible exact fastjson_validateString.mono _ _)
   | (with_reducible exact LeO.refl _)
   | (with_reducible exact LeO.none _)
   | (with_reducible refine LeO.ite ?_ ?_)
   | (with_reducible refine LeO.bind ?_ (fun _ => ?_))
  ·intro y0
   unfold fastjson_validateObject.f
   repeat' first
   | (with_reducible exact ih0 _)
   | (with_reducible exact ih1 _)
   | (with_reducible exact ih2 _)
   | (with_reducible exact ih3 _)
   | (with_reducible exact ih4 _ _ _ _)
   | (with_reducible exact ih5 _)
   | (with_reducible exact ih6 _ _)
   | (with_reducible exact ih7 _ _ _ _)
   | (with_reducible exact ih8 _ _)
   | (with_reducible exact fastjson_skipWS.mono _ _)
   | (with_reducible exact fastjson_validateKey.mono _ _)
   | (with_reducible exact fastjson_validateNumber.mono _ _)
   | (with_reducible exact fastjson_validateString.mono _ _)
   | (with_reducible exact LeO.refl _)
   | (with_reducible exact LeO.none _)
   | (with_reducible refine LeO.ite ?_ ?_)
   | (with_reducible refine LeO.bind ?_ (fun _ => ?_))
  ·intro y0
   unfold fastjson_validateArray.l0
   repeat' first
   | (with_reducible exact ih0 _)
   | (with_reducible exact ih1 _)
   | (with_reducible exact ih2 _)
   | (with_reducible exact ih3 _)
   | (with_reducible exact ih4 _ _ _ _)
   | (with_reducible exact ih5 _)
   | (with_reducible exact ih6 _ _)
   | (with_reducible exact ih7 _ _ _ _)
   | (with_reducible exact ih8 _ _)
   | (with_reducible exact fastjson_skipWS.mono _ _)
   | (with_reducible exact fastjson_validateKey.mono _ _)
   | (with_reducible exact fastjson_validateNumber.mono _ _)
   | (with_reducible exact fastjson_validateString.mono _ _)
   | (with_reducible exact LeO.refl _)
   | (with_reducible exact LeO.none _)
   | (with_reducible refine LeO.ite ?_ ?_)
   | (with_reducible refine LeO.bind ?_ (fun _ => ?_))
  ·intro y0 y1 y2 y3
   unfold fastjson_validateValue.l0
   repeat' first
   | (with_reducible exact ih0 _)
   | (with_reducible exact ih1 _)
   | (with_reducible exact ih2 _)
   | (with_reducible exact ih3 _)
   | (with_reducible exact ih4 _ _ _ _)
   | (with_reducible exact ih5 _)
   | (with_reducible exact ih6 _ _)
   | (with_reducible exact ih7 _ _ _ _)
   | (with_reducible exact ih8 _ _)
   | (with_reducible exact fastjson_skipWS.mono _ _)
   | (with_reducible exact fastjson_validateKey.mono _ _)
   | (with_reducible exact fastjson_validateNumber.mono _ _)
   | (with_reducible exact fastjson_validateString.mono _ _)
   | (with_reducible exact LeO.refl _)
   | (with_reducible exact LeO.none _)
   | (with_reducible refine LeO.ite ?_ ?_)
   | (with_reducible refine LeO.bind ?_ (fun _ => ?_))
  ·intro y0
   unfold fastjson_validateObject.l0
   repeat' first
   | (with_reducible exact ih0 _)
   | (with_reducible exact ih1 _)
   | (with_reducible exact ih2 _)
   | (with_reducible exact ih3 _)
   | (with_reducible exact ih4 _ _ _ _)
   | (with_reducible exact ih5 _)
   | (with_reducible exact ih6 _ _)
   | (with_reducible exact ih7 _ _ _ _)
   | (with_reducible exact ih8 _ _)
   | (with_reducible exact fastjson_skipWS.mono _ _)
   | (with_reducible exact fastjson_validateKey.mono _ _)
   | (with_reducible exact fastjson_validateNumber.mono _ _)
   | (with_reducible exact fastjson_validateString.mono _ _)
   | (with_reducible exact LeO.refl _)
   | (with_reducible exact LeO.none _)
   | (with_reducible refine LeO.ite ?_ ?_)
   | (with_reducible refine LeO.bind ?_ (fun _ => ?_))
  ·intro y0 y1
   unfold fastjson_validateObject.j1
   repeat' first
   | (with_reducible exact ih0 _)
   | (with_reducible exact ih1 _)
   | (with_reducible exact ih2 _)
   | (with_reducible exact ih3 _)
   | (with_reducible exact ih4 _ _ _ _)
   | (with_reducible exact ih5 _)
   | (with_reducible exact ih6 _ _)
   | (with_reducible exact ih7 _ _ _ _)
   | (with_reducible exact ih8 _ _)
   | (with_reducible exact fastjson_skipWS.mono _ _)
   | (with_reducible exact fastjson_validateKey.mono _ _)
   | (with_reducible exact fastjson_validateNumber.mono _ _)
   | (with_reducible exact fastjson_validateString.mono _ _)
   | (with_reducible exact LeO.refl _)
   | (with_reducible exact LeO.none _)
   | (with_reducible refine LeO.ite ?_ ?_)
   | (with_reducible refine LeO.bind ?_ (fun _ => ?_))
  ·intro y0 y1 y2 y3
   unfold fastjson_validateObject.l1
   repeat' first
   | (with_reducible exact ih0 _)
   | (with_reducible exact ih1 _)
   | (with_reducible exact ih2 _)
   | (with_reducible exact ih3 _)
   | (with_reducible exact ih4 _ _ _ _)
   | (with_reducible exact ih5 _)
   | (with_reducible exact ih6 _ _)
   | (with_reducible exact ih7 _ _ _ _)
   | (with_reducible exact ih8 _ _)
   | (with_reducible exact fastjson_skipWS.mono _ _)
   | (with_reducible exact fastjson_validateKey.mono _ _)
   | (with_reducible exact fastjson_validateNumber.mono _ _)
   | (with_reducible exact fastjson_validateString.mono _ _)
   | (with_reducible exact LeO.refl _)
   | (with_reducible exact LeO.none _)
   | (with_reducible refine LeO.ite ?_ ?_)
   | (with_reducible refine LeO.bind ?_ (fun _ => ?_))
  ·intro y0 y1
   unfold fastjson_validateObject.j3
   repeat' first
   | (with_reducible exact ih0 _)
   | (with_reducible exact ih1 _)
   | (with_reducible exact ih2 _)
   | (with_reducible exact ih3 _)
   | (with_reducible exact ih4 _ _ _ _)
   | (with_reducible exact ih5 _)
   | (with_reducible exact ih6 _ _)
   | (with_reducible exact ih7 _ _ _ _)
   | (with_reducible exact ih8 _ _)
   | (with_reducible exact fastjson_skipWS.mono _ _)
   | (with_reducible exact fastjson_validateKey.mono _ _)
   | (with_reducible exact fastjson_validateNumber.mono _ _)
   | (with_reducible exact fastjson_validateString.mono _ _)
   | (with_reducible exact LeO.refl _)
   | (with_reducible exact LeO.none _)
   | (with_reducible refine LeO.ite ?_ ?_)
   | (with_reducible refine LeO.bind ?_ (fun _ => ?_))
theorem fastjson_validateArray.mono : ∀ a0 k, LeO (fastjson_validateArray.f k a0) (fastjson_validateArray.f (k + 1) a0) := by
 intro a0 k
 obtain ⟨ih0, ih1, ih2, ih3, ih4, ih5, ih6, ih7, ih8⟩ := grp80.mono_l k
 exact ih0 a0
theorem fastjson_validateValue.mono : ∀ a0 k, LeO (fastjson_validateValue.f k a0) (fastjson_validateValue.f (k + 1) a0) := by
 intro a0 k
 obtain ⟨ih0, ih1, ih2, ih3, ih4, ih5, ih6, ih7, ih8⟩ := grp80.mono_l k
 exact ih1 a0
theorem fastjson_validateObject.mono : ∀ a0 k, LeO (fastjson_validateObject.f k a0) (fastjson_validateObject.f (k + 1) a0) := by
 intro a0 k
 obtain ⟨ih0, ih1, ih2, ih3, ih4, ih5, ih6, ih7, ih8⟩ := grp80.mono_l k
 exact ih2 a0
@[reducible] def fastjson_validateArray.Stmt (k : Nat) : Prop := ∀ (a0 : ByteArray) (r1 : ByteArray) (r2 : Option Int) (w : World) (hG : Laid w) (h : fastjson_validateArray.f k a0 = some (r1, r2)),
    Calls Tryd.prog 80 #[.string a0] w fun e w' => ∃ z_r2 : Option Int, Zk z_r2 r2 ∧ e = .returned (.tuple #[.string r1, errW z_r2]) ∧ Below w.heap.size w w'
@[reducible] def fastjson_validateValue.Stmt (k : Nat) : Prop := ∀ (a0 : ByteArray) (r1 : ByteArray) (r2 : Option Int) (w : World) (hG : Laid w) (h : fastjson_validateValue.f k a0 = some (r1, r2)),
    Calls Tryd.prog 81 #[.string a0] w fun e w' => ∃ z_r2 : Option Int, Zk z_r2 r2 ∧ e = .returned (.tuple #[.string r1, errW z_r2]) ∧ Below w.heap.size w w'
@[reducible] def fastjson_validateObject.Stmt (k : Nat) : Prop := ∀ (a0 : ByteArray) (r1 : ByteArray) (r2 : Option Int) (w : World) (hG : Laid w) (h : fastjson_validateObject.f k a0 = some (r1, r2)),
    Calls Tryd.prog 106 #[.string a0] w fun e w' => ∃ z_r2 : Option Int, Zk z_r2 r2 ∧ e = .returned (.tuple #[.string r1, errW z_r2]) ∧ Below w.heap.size w w'

set_option maxHeartbeats 8000000 in
set_option maxRecDepth 100000 in
theorem fastjson_validateArray.step (k : Nat) (ih_80 : ∀ m, m < k → fastjson_validateArray.Stmt m) (ih_81 : ∀ m, m < k → fastjson_validateValue.Stmt m) (ih_106 : ∀ m, m < k → fastjson_validateObject.Stmt m) : fastjson_validateArray.Stmt k := by
 intro a0 r1 r2 w hG h
 cases k with
 | zero => exact absurd h (by simp [fastjson_validateArray.f])
 | succ k =>
 simp only [fastjson_validateArray.f] at h
 have HG := mk0 hG
 clear hG
 have hu55 := Tryd.underlying55
 have hu148 := Tryd.underlying148
 have HB := mk0 (Below.refl w.heap.size w)
 have H : ((fastjson_skipWS.f k a0).bind fun t101 => (if (t101.size : Int) = 0 then ((errors_New.f (⟨#[109, 105, 115, 115, 105, 110, 103, 32, 39, 93]⟩ : ByteArray)).bind fun t102 => (some (t101, t102))) else (if 0 < (t101.size : Int) then (if (bt t101 0) = 93 then (if 1 ≤ (t101.size : Int) then (some (t101.extract 1 t101.size, none)) else (none)) else (fastjson_validateArray.l0 k t101)) else (none)))) = some (r1, r2) := h
 clear h
 replace H := Option.bind_eq_some_iff.mp H
 obtain ⟨t101, A20, H⟩ := H
 (try dsimp only at H)
 have A2 := mk0 A20
 clear A20
 by_cases c3 : (t101.size : Int) = 0
 ·rw [if_pos c3] at H
  have c3b0 : ((t101.size : Int) == 0) = true := beq_iff_eq.mpr c3
  have c3b1 : ((t101.size : Int) != 0) = false := bne_eq_false_iff_eq.mpr c3
  clear c3
  replace H := Option.bind_eq_some_iff.mp H
  obtain ⟨t102, A40, H⟩ := H
  (try dsimp only at H)
  have A4 := mk0 A40
  clear A40
  simp only [Option.some.injEq, Prod.mk.injEq] at H
  obtain ⟨rfl, rfl⟩ := H
  go_enter Tryd.func80, Tryd.ntmps80
  go_wp2_with (first | ((with_reducible refine gate_callee (f := 74) rfl ?_); refine goesL_ (some 6) rfl rfl Tryd.func74 zq28 rfl #[.string a0] rfl zq0 ?_; (with_reducible refine (fastjson_skipWS.calls k a0 t101 _ A2.out).mono ?_); rintro e w' ⟨rfl, ⟨nd, rfl⟩⟩; refine ⟨_, rfl, ?_⟩) | ((with_reducible refine gate_callee (f := 54) rfl ?_); refine goesL_ (some 11) rfl rfl Tryd.func54 zq28 rfl #[.string (⟨#[109, 105, 115, 115, 105, 110, 103, 32, 39, 93]⟩ : ByteArray)] rfl zq0 ?_; (with_reducible refine (errors_New.calls (⟨#[109, 105, 115, 115, 105, 110, 103, 32, 39, 93]⟩ : ByteArray) t102 _ A4.out).mono ?_); rintro e w5 ⟨z_t102, hz_t102, rfl, hb⟩; have Hz_t102 := mk0 hz_t102; clear hz_t102; refine ⟨_, rfl, ?_⟩; have n0_ := mk0 (below_step zq2 hb); clear HB; have HB := n0_; clear n0_ hb; (try simp only [errW_none, errW_some])))
  go_ret2
  exact ⟨z_t102, Hz_t102.out, by rfl, by repeat (first | (with_reducible first | exact HB.out | apply below_alloc | apply pw_below_drewN | apply below_drew1) | exact HB.out)⟩
 rw [if_neg c3] at H
 have c3b0 : ((t101.size : Int) == 0) = false := beq_eq_false_iff_ne.mpr c3
 have c3b1 : ((t101.size : Int) != 0) = true := bne_iff_ne.mpr c3
 by_cases c6 : 0 < (t101.size : Int)
 rotate_left
 ·rw [if_neg c6] at H
  exact absurd H (by simp)
 rw [if_pos c6] at H
 have c6b0 : decide (0 < (t101.size : Int)) = true := decide_eq_true c6
 have c6b1 : decide (0 < t101.size) = true := decide_eq_true (by omega)
 clear c6
 by_cases c8 : (bt t101 0) = 93
 ·rw [if_pos c8] at H
  have c8b0 : ((bt t101 0) == 93) = true := beq_iff_eq.mpr c8
  have c8b1 : ((bt t101 0) != 93) = false := bne_eq_false_iff_eq.mpr c8
  clear c8
  by_cases c9 : 1 ≤ (t101.size : Int)
  rotate_left
  ·rw [if_neg c9] at H
   exact absurd H (by simp)
  rw [if_pos c9] at H
  have c9b0 := eq_true c9
  have c9b1 : decide (1 ≤ (t101.size : Int)) = true := decide_eq_true c9
  clear c9
  simp only [Option.some.injEq, Prod.mk.injEq] at H
  obtain ⟨rfl, rfl⟩ := H
  go_enter Tryd.func80, Tryd.ntmps80
  go_wp2_with (first | ((with_reducible refine gate_callee (f := 74) rfl ?_); refine goesL_ (some 6) rfl rfl Tryd.func74 zq28 rfl #[.string a0] rfl zq0 ?_; (with_reducible refine (fastjson_skipWS.calls k a0 t101 _ A2.out).mono ?_); rintro e w' ⟨rfl, ⟨nd, rfl⟩⟩; refine ⟨_, rfl, ?_⟩; have p7 : 0 ≤ (0 : Int) := (by omega); have q7 : 0 < t101.size := (by have : (0 : Int) < (t101.size : Int) := of_decide_eq_true zq5; omega); have hx7 : ∀ h : 0 < t101.size, ((t101[0]'h).toNat : Int) = bt t101 0 := bt_at t101 0; clear p7; have qi7 : (0 < (t101.size : Int)) = True := eq_true (of_decide_eq_true zq5); replace q7 := eq_true q7))
  go_ret2
  exact ⟨none, Zk.nn, by rfl, by repeat (first | (with_reducible first | exact HB.out | apply below_alloc | apply pw_below_drewN | apply below_drew1) | exact HB.out)⟩
 rw [if_neg c8] at H
 have c8b0 : ((bt t101 0) == 93) = false := beq_eq_false_iff_ne.mpr c8
 have c8b1 : ((bt t101 0) != 93) = true := bne_iff_ne.mpr c8
 have H' := mk0 H
 clear H
 go_enter Tryd.func80, Tryd.ntmps80
 go_wp2_with (first | ((with_reducible refine gate_callee (f := 74) rfl ?_); refine goesL_ (some 6) rfl rfl Tryd.func74 zq28 rfl #[.string a0] rfl zq0 ?_; (with_reducible refine (fastjson_skipWS.calls k a0 t101 _ A2.out).mono ?_); rintro e w' ⟨rfl, ⟨nd, rfl⟩⟩; refine ⟨_, rfl, ?_⟩; have p7 : 0 ≤ (0 : Int) := (by omega); have q7 : 0 < t101.size := (by have : (0 : Int) < (t101.size : Int) := of_decide_eq_true zq5; omega); have hx7 : ∀ h : 0 < t101.size, ((t101[0]'h).toNat : Int) = bt t101 0 := bt_at t101 0; clear p7; have qi7 : (0 < (t101.size : Int)) = True := eq_true (of_decide_eq_true zq5); replace q7 := eq_true q7))
 (try simp only [Act.put, List.setIfInBounds_toArray, List.set_cons_zero, List.set_cons_succ])
 go_loopg [0] k (fun kq v0 w' => ∃ (x0_1 : ByteArray), v0 = .string x0_1 ∧ Aside0 (fastjson_validateArray.l0 kq x0_1 = some (r1, r2)) ∧ Aside0 (kq ≤ k) ∧ Aside0 (Below w.heap.size w w'))
 case atStart => exact ⟨(t101), (by rfl), H', ⟨Nat.le_refl _⟩, ⟨by repeat (first | (with_reducible first | exact HB.out | apply below_alloc | apply pw_below_drewN | apply below_drew1) | exact HB.out)⟩⟩
 case round =>
  clear H'
  clear c3 c3b0 c3b1 c6b0 c6b1 q7 hx7 qi7 c8 c8b0 c8b1
  obtain ⟨x0_1, rfl, HA, HK1, HB⟩ := hrel
  cases gk with
  | zero => exact absurd HA.out (by simp [fastjson_validateArray.l0])
  | succ k1 =>
   have H := HA.out
   clear HA
   simp only [fastjson_validateArray.l0] at H
   replace H := Option.bind_eq_some_iff.mp H
   obtain ⟨t103, A100, H⟩ := H
   (try dsimp only at H)
   have A10 := mk0 A100
   clear A100
   replace H := Option.bind_eq_some_iff.mp H
   obtain ⟨⟨t104, t105⟩, A110, H⟩ := H
   (try dsimp only at H)
   have A11 := mk0 A110
   clear A110
   rcases t105 with _ | q106
   rotate_left
   ·rw [if_neg (show ¬ (some q106).isNone = true by simp)] at H
    (try (obtain ⟨m_q106, rfl⟩ := Zk.some_ Hz_t105.out))
    try simp only [errW_none, errW_some]
    replace H := Option.bind_eq_some_iff.mp H
    obtain ⟨t110, A290, H⟩ := H
    (try dsimp only at H)
    have A29 := mk0 A290
    clear A290
    simp only [Option.some.injEq, Prod.mk.injEq] at H
    obtain ⟨rfl, rfl⟩ := H
    go_wp2_with (first | ((with_reducible refine gate_callee (f := 74) rfl ?_); refine goesL_ (some 18) rfl rfl Tryd.func74 zq28 rfl #[.string x0_1] rfl zq0 ?_; (with_reducible refine (fastjson_skipWS.calls k1 x0_1 t103 _ A10.out).mono ?_); rintro e w' ⟨rfl, ⟨nd, rfl⟩⟩; refine ⟨_, rfl, ?_⟩) | ((with_reducible refine gate_callee (f := 81) rfl ?_); refine goesL_ (some 21) rfl rfl Tryd.func81 zq28 rfl #[.string t103] rfl zq0 ?_; (with_reducible refine (ih_81 k1 zq72 t103 t104 (some q106) _ ?side1 A11.out).mono ?_); (case side1 => exact zq29); rintro e w30 ⟨zs1_, hzs1_, rfl, hb⟩; obtain ⟨m_q106, rfl⟩ := Zk.some_ hzs1_; refine ⟨_, rfl, ?_⟩; have n0_ := mk0 (below_step zq2 hb); clear HB; have HB := n0_; clear n0_ hb; (try simp only [errW_none, errW_some])) | ((with_reducible refine gate_callee (f := 54) rfl ?_); refine goesL_ (some 27) rfl rfl Tryd.func54 zq28 rfl #[.string (⟨#[99, 97, 110, 110, 111, 116, 32, 112, 97, 114, 115, 101, 32, 97, 114, 114, 97, 121, 32, 118, 97, 108, 117, 101]⟩ : ByteArray)] rfl zq0 ?_; (with_reducible refine (errors_New.calls (⟨#[99, 97, 110, 110, 111, 116, 32, 112, 97, 114, 115, 101, 32, 97, 114, 114, 97, 121, 32, 118, 97, 108, 117, 101]⟩ : ByteArray) t110 _ A29.out).mono ?_); rintro e w31 ⟨z_t110, hz_t110, rfl, hb⟩; have Hz_t110 := mk0 hz_t110; clear hz_t110; refine ⟨_, rfl, ?_⟩; have n0_ := mk0 (below_step zq2 hb); clear HB; have HB := n0_; clear n0_ hb; (try simp only [errW_none, errW_some])))
    go_ret2
    exact ⟨z_t110, Hz_t110.out, by rfl, by repeat (first | (with_reducible first | exact HB.out | apply below_alloc | apply pw_below_drewN | apply below_drew1) | exact HB.out)⟩
   rw [if_pos (show (none : Option Int).isNone = true by rfl)] at H
   (try (obtain rfl := Zk.none_ Hz_t105.out))
   try simp only [errW_none, errW_some]
   replace H := Option.bind_eq_some_iff.mp H
   obtain ⟨t107, A120, H⟩ := H
   (try dsimp only at H)
   have A12 := mk0 A120
   clear A120
   by_cases c13 : (t107.size : Int) = 0
   ·rw [if_pos c13] at H
    have c13b0 : ((t107.size : Int) == 0) = true := beq_iff_eq.mpr c13
    have c13b1 : ((t107.size : Int) != 0) = false := bne_eq_false_iff_eq.mpr c13
    clear c13
    replace H := Option.bind_eq_some_iff.mp H
    obtain ⟨t108, A140, H⟩ := H
    (try dsimp only at H)
    have A14 := mk0 A140
    clear A140
    simp only [Option.some.injEq, Prod.mk.injEq] at H
    obtain ⟨rfl, rfl⟩ := H
    go_wp2_with (first | ((with_reducible refine gate_callee (f := 74) rfl ?_); refine goesL_ (some 18) rfl rfl Tryd.func74 zq28 rfl #[.string x0_1] rfl zq0 ?_; (with_reducible refine (fastjson_skipWS.calls k1 x0_1 t103 _ A10.out).mono ?_); rintro e w' ⟨rfl, ⟨nd, rfl⟩⟩; refine ⟨_, rfl, ?_⟩) | ((with_reducible refine gate_callee (f := 81) rfl ?_); refine goesL_ (some 21) rfl rfl Tryd.func81 zq28 rfl #[.string t103] rfl zq0 ?_; (with_reducible refine (ih_81 k1 zq72 t103 t104 none _ ?side1 A11.out).mono ?_); (case side1 => exact zq29); rintro e w15 ⟨zn1_, hzn1_, rfl, hb⟩; obtain rfl := Zk.none_ hzn1_; refine ⟨_, rfl, ?_⟩; have n0_ := mk0 (below_step zq2 hb); clear HB; have HB := n0_; clear n0_ hb; (try simp only [errW_none, errW_some])) | ((with_reducible refine gate_callee (f := 74) rfl ?_); refine goesL_ (some 29) rfl rfl Tryd.func74 zq28 rfl #[.string t104] rfl zq0 ?_; (with_reducible refine (fastjson_skipWS.calls k1 t104 t107 _ A12.out).mono ?_); rintro e w' ⟨rfl, ⟨nd, rfl⟩⟩; refine ⟨_, rfl, ?_⟩) | ((with_reducible refine gate_callee (f := 54) rfl ?_); refine goesL_ (some 34) rfl rfl Tryd.func54 zq28 rfl #[.string (⟨#[117, 110, 101, 120, 112, 101, 99, 116, 101, 100, 32, 101, 110, 100, 32, 111, 102, 32, 97, 114, 114, 97, 121]⟩ : ByteArray)] rfl zq0 ?_; (with_reducible refine (errors_New.calls (⟨#[117, 110, 101, 120, 112, 101, 99, 116, 101, 100, 32, 101, 110, 100, 32, 111, 102, 32, 97, 114, 114, 97, 121]⟩ : ByteArray) t108 _ A14.out).mono ?_); rintro e w16 ⟨z_t108, hz_t108, rfl, hb⟩; have Hz_t108 := mk0 hz_t108; clear hz_t108; refine ⟨_, rfl, ?_⟩; have n0_ := mk0 (below_step zq2 hb); clear HB; have HB := n0_; clear n0_ hb; (try simp only [errW_none, errW_some])))
    go_ret2
    exact ⟨z_t108, Hz_t108.out, by rfl, by repeat (first | (with_reducible first | exact HB.out | apply below_alloc | apply pw_below_drewN | apply below_drew1) | exact HB.out)⟩
   rw [if_neg c13] at H
   have c13b0 : ((t107.size : Int) == 0) = false := beq_eq_false_iff_ne.mpr c13
   have c13b1 : ((t107.size : Int) != 0) = true := bne_iff_ne.mpr c13
   by_cases c17 : 0 < (t107.size : Int)
   rotate_left
   ·rw [if_neg c17] at H
    exact absurd H (by simp)
   rw [if_pos c17] at H
   have c17b0 : decide (0 < (t107.size : Int)) = true := decide_eq_true c17
   have c17b1 : decide (0 < t107.size) = true := decide_eq_true (by omega)
   clear c17
   by_cases c19 : (bt t107 0) = 44
   ·rw [if_pos c19] at H
    have c19b0 : ((bt t107 0) == 44) = true := beq_iff_eq.mpr c19
    have c19b1 : ((bt t107 0) != 44) = false := bne_eq_false_iff_eq.mpr c19
    clear c19
    by_cases c20 : 1 ≤ (t107.size : Int)
    rotate_left
    ·rw [if_neg c20] at H
     exact absurd H (by simp)
    rw [if_pos c20] at H
    have c20b0 := eq_true c20
    have c20b1 : decide (1 ≤ (t107.size : Int)) = true := decide_eq_true c20
    clear c20
    have H' := mk0 H
    clear H
    go_wp2_with (first | ((with_reducible refine gate_callee (f := 74) rfl ?_); refine goesL_ (some 18) rfl rfl Tryd.func74 zq28 rfl #[.string x0_1] rfl zq0 ?_; (with_reducible refine (fastjson_skipWS.calls k1 x0_1 t103 _ A10.out).mono ?_); rintro e w' ⟨rfl, ⟨nd, rfl⟩⟩; refine ⟨_, rfl, ?_⟩) | ((with_reducible refine gate_callee (f := 81) rfl ?_); refine goesL_ (some 21) rfl rfl Tryd.func81 zq28 rfl #[.string t103] rfl zq0 ?_; (with_reducible refine (ih_81 k1 zq72 t103 t104 none _ ?side1 A11.out).mono ?_); (case side1 => exact zq29); rintro e w21 ⟨zn1_, hzn1_, rfl, hb⟩; obtain rfl := Zk.none_ hzn1_; refine ⟨_, rfl, ?_⟩; have n0_ := mk0 (below_step zq2 hb); clear HB; have HB := n0_; clear n0_ hb; (try simp only [errW_none, errW_some])) | ((with_reducible refine gate_callee (f := 74) rfl ?_); refine goesL_ (some 29) rfl rfl Tryd.func74 zq28 rfl #[.string t104] rfl zq0 ?_; (with_reducible refine (fastjson_skipWS.calls k1 t104 t107 _ A12.out).mono ?_); rintro e w' ⟨rfl, ⟨nd, rfl⟩⟩; refine ⟨_, rfl, ?_⟩; have p18 : 0 ≤ (0 : Int) := (by omega); have q18 : 0 < t107.size := (by have : (0 : Int) < (t107.size : Int) := of_decide_eq_true zq5; omega); have hx18 : ∀ h : 0 < t107.size, ((t107[0]'h).toNat : Int) = bt t107 0 := bt_at t107 0; clear p18; have qi18 : (0 < (t107.size : Int)) = True := eq_true (of_decide_eq_true zq5); replace q18 := eq_true q18))
    go_roundg k1
    case measure => have := HK1.out; omega
    case rel => exact ⟨(t107.extract 1 t107.size), (by rfl), H', ⟨by have := HK1.out; omega⟩, ⟨by repeat (first | (with_reducible first | exact HB.out | apply below_alloc | apply pw_below_drewN | apply below_drew1) | exact HB.out)⟩⟩
   rw [if_neg c19] at H
   have c19b0 : ((bt t107 0) == 44) = false := beq_eq_false_iff_ne.mpr c19
   have c19b1 : ((bt t107 0) != 44) = true := bne_iff_ne.mpr c19
   by_cases c23 : (bt t107 0) = 93
   ·rw [if_pos c23] at H
    have c23b0 : ((bt t107 0) == 93) = true := beq_iff_eq.mpr c23
    have c23b1 : ((bt t107 0) != 93) = false := bne_eq_false_iff_eq.mpr c23
    clear c23
    by_cases c24 : 1 ≤ (t107.size : Int)
    rotate_left
    ·rw [if_neg c24] at H
     exact absurd H (by simp)
    rw [if_pos c24] at H
    have c24b0 := eq_true c24
    have c24b1 : decide (1 ≤ (t107.size : Int)) = true := decide_eq_true c24
    clear c24
    simp only [Option.some.injEq, Prod.mk.injEq] at H
    obtain ⟨rfl, rfl⟩ := H
    go_wp2_with (first | ((with_reducible refine gate_callee (f := 74) rfl ?_); refine goesL_ (some 18) rfl rfl Tryd.func74 zq28 rfl #[.string x0_1] rfl zq0 ?_; (with_reducible refine (fastjson_skipWS.calls k1 x0_1 t103 _ A10.out).mono ?_); rintro e w' ⟨rfl, ⟨nd, rfl⟩⟩; refine ⟨_, rfl, ?_⟩) | ((with_reducible refine gate_callee (f := 81) rfl ?_); refine goesL_ (some 21) rfl rfl Tryd.func81 zq28 rfl #[.string t103] rfl zq0 ?_; (with_reducible refine (ih_81 k1 zq72 t103 t104 none _ ?side1 A11.out).mono ?_); (case side1 => exact zq29); rintro e w25 ⟨zn1_, hzn1_, rfl, hb⟩; obtain rfl := Zk.none_ hzn1_; refine ⟨_, rfl, ?_⟩; have n0_ := mk0 (below_step zq2 hb); clear HB; have HB := n0_; clear n0_ hb; (try simp only [errW_none, errW_some])) | ((with_reducible refine gate_callee (f := 74) rfl ?_); refine goesL_ (some 29) rfl rfl Tryd.func74 zq28 rfl #[.string t104] rfl zq0 ?_; (with_reducible refine (fastjson_skipWS.calls k1 t104 t107 _ A12.out).mono ?_); rintro e w' ⟨rfl, ⟨nd, rfl⟩⟩; refine ⟨_, rfl, ?_⟩; have p18 : 0 ≤ (0 : Int) := (by omega); have q18 : 0 < t107.size := (by have : (0 : Int) < (t107.size : Int) := of_decide_eq_true zq5; omega); have hx18 : ∀ h : 0 < t107.size, ((t107[0]'h).toNat : Int) = bt t107 0 := bt_at t107 0; clear p18; have qi18 : (0 < (t107.size : Int)) = True := eq_true (of_decide_eq_true zq5); replace q18 := eq_true q18; have p22 : 0 ≤ (0 : Int) := (by omega); have q22 : 0 < t107.size := (by have : (0 : Int) < (t107.size : Int) := of_decide_eq_true zq5; omega); have hx22 : ∀ h : 0 < t107.size, ((t107[0]'h).toNat : Int) = bt t107 0 := bt_at t107 0; clear p22; have qi22 : (0 < (t107.size : Int)) = True := eq_true (of_decide_eq_true zq5); replace q22 := eq_true q22))
    go_ret2
    exact ⟨none, Zk.nn, by rfl, by repeat (first | (with_reducible first | exact HB.out | apply below_alloc | apply pw_below_drewN | apply below_drew1) | exact HB.out)⟩
   rw [if_neg c23] at H
   have c23b0 : ((bt t107 0) == 93) = false := beq_eq_false_iff_ne.mpr c23
   have c23b1 : ((bt t107 0) != 93) = true := bne_iff_ne.mpr c23
   replace H := Option.bind_eq_some_iff.mp H
   obtain ⟨t109, A260, H⟩ := H
   (try dsimp only at H)
   have A26 := mk0 A260
   clear A260
   simp only [Option.some.injEq, Prod.mk.injEq] at H
   obtain ⟨rfl, rfl⟩ := H
   go_wp2_with (first | ((with_reducible refine gate_callee (f := 74) rfl ?_); refine goesL_ (some 18) rfl rfl Tryd.func74 zq28 rfl #[.string x0_1] rfl zq0 ?_; (with_reducible refine (fastjson_skipWS.calls k1 x0_1 t103 _ A10.out).mono ?_); rintro e w' ⟨rfl, ⟨nd, rfl⟩⟩; refine ⟨_, rfl, ?_⟩) | ((with_reducible refine gate_callee (f := 81) rfl ?_); refine goesL_ (some 21) rfl rfl Tryd.func81 zq28 rfl #[.string t103] rfl zq0 ?_; (with_reducible refine (ih_81 k1 zq72 t103 t104 none _ ?side1 A11.out).mono ?_); (case side1 => exact zq29); rintro e w27 ⟨zn1_, hzn1_, rfl, hb⟩; obtain rfl := Zk.none_ hzn1_; refine ⟨_, rfl, ?_⟩; have n0_ := mk0 (below_step zq2 hb); clear HB; have HB := n0_; clear n0_ hb; (try simp only [errW_none, errW_some])) | ((with_reducible refine gate_callee (f := 74) rfl ?_); refine goesL_ (some 29) rfl rfl Tryd.func74 zq28 rfl #[.string t104] rfl zq0 ?_; (with_reducible refine (fastjson_skipWS.calls k1 t104 t107 _ A12.out).mono ?_); rintro e w' ⟨rfl, ⟨nd, rfl⟩⟩; refine ⟨_, rfl, ?_⟩; have p18 : 0 ≤ (0 : Int) := (by omega); have q18 : 0 < t107.size := (by have : (0 : Int) < (t107.size : Int) := of_decide_eq_true zq5; omega); have hx18 : ∀ h : 0 < t107.size, ((t107[0]'h).toNat : Int) = bt t107 0 := bt_at t107 0; clear p18; have qi18 : (0 < (t107.size : Int)) = True := eq_true (of_decide_eq_true zq5); replace q18 := eq_true q18; have p22 : 0 ≤ (0 : Int) := (by omega); have q22 : 0 < t107.size := (by have : (0 : Int) < (t107.size : Int) := of_decide_eq_true zq5; omega); have hx22 : ∀ h : 0 < t107.size, ((t107[0]'h).toNat : Int) = bt t107 0 := bt_at t107 0; clear p22; have qi22 : (0 < (t107.size : Int)) = True := eq_true (of_decide_eq_true zq5); replace q22 := eq_true q22) | ((with_reducible refine gate_callee (f := 54) rfl ?_); refine goesL_ (some 47) rfl rfl Tryd.func54 zq28 rfl #[.string (⟨#[109, 105, 115, 115, 105, 110, 103, 32, 39, 44, 39, 32, 97, 102, 116, 101, 114, 32, 97, 114, 114, 97, 121, 32, 118, 97, 108, 117, 101]⟩ : ByteArray)] rfl zq0 ?_; (with_reducible refine (errors_New.calls (⟨#[109, 105, 115, 115, 105, 110, 103, 32, 39, 44, 39, 32, 97, 102, 116, 101, 114, 32, 97, 114, 114, 97, 121, 32, 118, 97, 108, 117, 101]⟩ : ByteArray) t109 _ A26.out).mono ?_); rintro e w28 ⟨z_t109, hz_t109, rfl, hb⟩; have Hz_t109 := mk0 hz_t109; clear hz_t109; refine ⟨_, rfl, ?_⟩; have n0_ := mk0 (below_step zq2 hb); clear HB; have HB := n0_; clear n0_ hb; (try simp only [errW_none, errW_some])))
   go_ret2
   exact ⟨z_t109, Hz_t109.out, by rfl, by repeat (first | (with_reducible first | exact HB.out | apply below_alloc | apply pw_below_drewN | apply below_drew1) | exact HB.out)⟩
set_option maxHeartbeats 8000000 in
set_option maxRecDepth 100000 in
theorem fastjson_validateValue.step (k : Nat) (ih_80 : ∀ m, m < k → fastjson_validateArray.Stmt m) (ih_81 : ∀ m, m < k → fastjson_validateValue.Stmt m) (ih_106 : ∀ m, m < k → fastjson_validateObject.Stmt m) : fastjson_validateValue.Stmt k := by
 intro a0 r1 r2 w hG h
 cases k with
 | zero => exact absurd h (by simp [fastjson_validateValue.f])
 | succ k =>
 simp only [fastjson_validateValue.f] at h
 have HG := mk0 hG
 clear hG
 have hu55 := Tryd.underlying55
 have hu148 := Tryd.underlying148
 have HB := mk0 (Below.refl w.heap.size w)
 have H : (if (a0.size : Int) = 0 then ((errors_New.f (⟨#[99, 97, 110, 110, 111, 116, 32, 112, 97, 114, 115, 101, 32, 101, 109, 112, 116, 121, 32, 115, 116, 114, 105, 110, 103]⟩ : ByteArray)).bind fun t111 => (some (a0, t111))) else (if 0 < (a0.size : Int) then (if (bt a0 0) = 123 then (if 1 ≤ (a0.size : Int) then ((fastjson_validateObject.f k (a0.extract 1 a0.size)).bind fun bt112 => (if bt112.2.isNone = true then (some (bt112.1, none)) else ((errors_New.f (⟨#[99, 97, 110, 110, 111, 116, 32, 112, 97, 114, 115, 101, 32, 111, 98, 106, 101, 99, 116]⟩ : ByteArray)).bind fun t115 => (some (bt112.1, t115))))) else (none)) else (if (bt a0 0) = 91 then (if 1 ≤ (a0.size : Int) then ((fastjson_validateArray.f k (a0.extract 1 a0.size)).bind fun bt116 => (if bt116.2.isNone = true then (some (bt116.1, none)) else ((errors_New.f (⟨#[99, 97, 110, 110, 111, 116, 32, 112, 97, 114, 115, 101, 32, 97, 114, 114, 97, 121]⟩ : ByteArray)).bind fun t119 => (some (bt116.1, t119))))) else (none)) else (if (bt a0 0) = 34 then (if 1 ≤ (a0.size : Int) then ((fastjson_validateString.f k (a0.extract 1 a0.size)).bind fun bt120 => (if bt120.2.2.isNone = true then (fastjson_validateValue.l0 k bt120.1 bt120.2.1 (bt120.1.size : Int) 0) else ((errors_New.f (⟨#[99, 97, 110, 110, 111, 116, 32, 112, 97, 114, 115, 101, 32, 115, 116, 114, 105, 110, 103]⟩ : ByteArray)).bind fun t125 => (some (bt120.2.1, t125))))) else (none)) else (if (bt a0 0) = 116 then (if (a0.size : Int) < 4 then ((errors_New.f (⟨#[117, 110, 101, 120, 112, 101, 99, 116, 101, 100, 32, 118, 97, 108, 117, 101, 32, 102, 111, 117, 110, 100]⟩ : ByteArray)).bind fun t126 => (some (a0, t126))) else (if 0 ≤ 4 then (if 4 ≤ (a0.size : Int) then (if (a0.extract 0 4).toList = ([116, 114, 117, 101] : List UInt8) then (some (a0.extract 4 a0.size, none)) else ((errors_New.f (⟨#[117, 110, 101, 120, 112, 101, 99, 116, 101, 100, 32, 118, 97, 108, 117, 101, 32, 102, 111, 117, 110, 100]⟩ : ByteArray)).bind fun t127 => (some (a0, t127)))) else (none)) else (none))) else (if (bt a0 0) = 102 then (if (a0.size : Int) < 5 then ((errors_New.f (⟨#[117, 110, 101, 120, 112, 101, 99, 116, 101, 100, 32, 118, 97, 108, 117, 101, 32, 102, 111, 117, 110, 100]⟩ : ByteArray)).bind fun t128 => (some (a0, t128))) else (if 0 ≤ 5 then (if 5 ≤ (a0.size : Int) then (if (a0.extract 0 5).toList = ([102, 97, 108, 115, 101] : List UInt8) then (some (a0.extract 5 a0.size, none)) else ((errors_New.f (⟨#[117, 110, 101, 120, 112, 101, 99, 116, 101, 100, 32, 118, 97, 108, 117, 101, 32, 102, 111, 117, 110, 100]⟩ : ByteArray)).bind fun t129 => (some (a0, t129)))) else (none)) else (none))) else (if (bt a0 0) = 110 then (if (a0.size : Int) < 4 then ((errors_New.f (⟨#[117, 110, 101, 120, 112, 101, 99, 116, 101, 100, 32, 118, 97, 108, 117, 101, 32, 102, 111, 117, 110, 100]⟩ : ByteArray)).bind fun t130 => (some (a0, t130))) else (if 0 ≤ 4 then (if 4 ≤ (a0.size : Int) then (if (a0.extract 0 4).toList = ([110, 117, 108, 108] : List UInt8) then (some (a0.extract 4 a0.size, none)) else ((errors_New.f (⟨#[117, 110, 101, 120, 112, 101, 99, 116, 101, 100, 32, 118, 97, 108, 117, 101, 32, 102, 111, 117, 110, 100]⟩ : ByteArray)).bind fun t131 => (some (a0, t131)))) else (none)) else (none))) else ((fastjson_validateNumber.f k a0).bind fun bt132 => (if bt132.2.isNone = true then (some (bt132.1, none)) else ((errors_New.f (⟨#[99, 97, 110, 110, 111, 116, 32, 112, 97, 114, 115, 101, 32, 110, 117, 109, 98, 101, 114]⟩ : ByteArray)).bind fun t135 => (some (bt132.1, t135))))))))))) else (none))) = some (r1, r2) := h
 clear h
 by_cases c2 : (a0.size : Int) = 0
 ·rw [if_pos c2] at H
  have c2b0 : ((a0.size : Int) == 0) = true := beq_iff_eq.mpr c2
  have c2b1 : ((a0.size : Int) != 0) = false := bne_eq_false_iff_eq.mpr c2
  clear c2
  replace H := Option.bind_eq_some_iff.mp H
  obtain ⟨t111, A30, H⟩ := H
  (try dsimp only at H)
  have A3 := mk0 A30
  clear A30
  simp only [Option.some.injEq, Prod.mk.injEq] at H
  obtain ⟨rfl, rfl⟩ := H
  go_enter Tryd.func81, Tryd.ntmps81
  go_wp2_with (first | ((with_reducible refine gate_callee (f := 54) rfl ?_); refine goesL_ (some 18) rfl rfl Tryd.func54 zq28 rfl #[.string (⟨#[99, 97, 110, 110, 111, 116, 32, 112, 97, 114, 115, 101, 32, 101, 109, 112, 116, 121, 32, 115, 116, 114, 105, 110, 103]⟩ : ByteArray)] rfl zq0 ?_; (with_reducible refine (errors_New.calls (⟨#[99, 97, 110, 110, 111, 116, 32, 112, 97, 114, 115, 101, 32, 101, 109, 112, 116, 121, 32, 115, 116, 114, 105, 110, 103]⟩ : ByteArray) t111 _ A3.out).mono ?_); rintro e w4 ⟨z_t111, hz_t111, rfl, hb⟩; have Hz_t111 := mk0 hz_t111; clear hz_t111; refine ⟨_, rfl, ?_⟩; have n0_ := mk0 (below_step zq2 hb); clear HB; have HB := n0_; clear n0_ hb; (try simp only [errW_none, errW_some])))
  go_ret2
  exact ⟨z_t111, Hz_t111.out, by rfl, by repeat (first | (with_reducible first | exact HB.out | apply below_alloc | apply pw_below_drewN | apply below_drew1) | exact HB.out)⟩
 rw [if_neg c2] at H
 have c2b0 : ((a0.size : Int) == 0) = false := beq_eq_false_iff_ne.mpr c2
 have c2b1 : ((a0.size : Int) != 0) = true := bne_iff_ne.mpr c2
 by_cases c5 : 0 < (a0.size : Int)
 rotate_left
 ·rw [if_neg c5] at H
  exact absurd H (by simp)
 rw [if_pos c5] at H
 have c5b0 : decide (0 < (a0.size : Int)) = true := decide_eq_true c5
 have c5b1 : decide (0 < a0.size) = true := decide_eq_true (by omega)
 clear c5
 by_cases c7 : (bt a0 0) = 123
 ·rw [if_pos c7] at H
  have c7b0 : ((bt a0 0) == 123) = true := beq_iff_eq.mpr c7
  have c7b1 : ((bt a0 0) != 123) = false := bne_eq_false_iff_eq.mpr c7
  clear c7
  by_cases c8 : 1 ≤ (a0.size : Int)
  rotate_left
  ·rw [if_neg c8] at H
   exact absurd H (by simp)
  rw [if_pos c8] at H
  have c8b0 := eq_true c8
  have c8b1 : decide (1 ≤ (a0.size : Int)) = true := decide_eq_true c8
  clear c8
  replace H := Option.bind_eq_some_iff.mp H
  obtain ⟨⟨t112, t113⟩, A90, H⟩ := H
  (try dsimp only at H)
  have A9 := mk0 A90
  clear A90
  rcases t113 with _ | q114
  ·rw [if_pos (show (none : Option Int).isNone = true by rfl)] at H
   (try (obtain rfl := Zk.none_ Hz_t113.out))
   try simp only [errW_none, errW_some]
   simp only [Option.some.injEq, Prod.mk.injEq] at H
   obtain ⟨rfl, rfl⟩ := H
   have p6 : 0 ≤ (0 : Int) := (by omega)
   have q6 : 0 < a0.size := (by have : (0 : Int) < (a0.size : Int) := of_decide_eq_true zq5; omega)
   have hx6 : ∀ h : 0 < a0.size, ((a0[0]'h).toNat : Int) = bt a0 0 := bt_at a0 0
   clear p6
   have qi6 : (0 < (a0.size : Int)) = True := eq_true (of_decide_eq_true zq5)
   replace q6 := eq_true q6
   go_enter Tryd.func81, Tryd.ntmps81
   go_wp2_with (first | ((with_reducible refine gate_callee (f := 106) rfl ?_); refine goesL_ (some 25) rfl rfl Tryd.func106 zq28 rfl #[.string (a0.extract 1 a0.size)] rfl zq0 ?_; (with_reducible refine (ih_106 k (by omega) (a0.extract 1 a0.size) t112 none _ ?side1 A9.out).mono ?_); (case side1 => exact zq29); rintro e w10 ⟨zn1_, hzn1_, rfl, hb⟩; obtain rfl := Zk.none_ hzn1_; refine ⟨_, rfl, ?_⟩; have n0_ := mk0 (below_step zq2 hb); clear HB; have HB := n0_; clear n0_ hb; (try simp only [errW_none, errW_some])))
   go_ret2
   exact ⟨none, Zk.nn, by rfl, by repeat (first | (with_reducible first | exact HB.out | apply below_alloc | apply pw_below_drewN | apply below_drew1) | exact HB.out)⟩
  rw [if_neg (show ¬ (some q114).isNone = true by simp)] at H
  (try (obtain ⟨m_q114, rfl⟩ := Zk.some_ Hz_t113.out))
  try simp only [errW_none, errW_some]
  replace H := Option.bind_eq_some_iff.mp H
  obtain ⟨t115, A110, H⟩ := H
  (try dsimp only at H)
  have A11 := mk0 A110
  clear A110
  simp only [Option.some.injEq, Prod.mk.injEq] at H
  obtain ⟨rfl, rfl⟩ := H
  have p6 : 0 ≤ (0 : Int) := (by omega)
  have q6 : 0 < a0.size := (by have : (0 : Int) < (a0.size : Int) := of_decide_eq_true zq5; omega)
  have hx6 : ∀ h : 0 < a0.size, ((a0[0]'h).toNat : Int) = bt a0 0 := bt_at a0 0
  clear p6
  have qi6 : (0 < (a0.size : Int)) = True := eq_true (of_decide_eq_true zq5)
  replace q6 := eq_true q6
  go_enter Tryd.func81, Tryd.ntmps81
  go_wp2_with (first | ((with_reducible refine gate_callee (f := 106) rfl ?_); refine goesL_ (some 25) rfl rfl Tryd.func106 zq28 rfl #[.string (a0.extract 1 a0.size)] rfl zq0 ?_; (with_reducible refine (ih_106 k (by omega) (a0.extract 1 a0.size) t112 (some q114) _ ?side1 A9.out).mono ?_); (case side1 => exact zq29); rintro e w12 ⟨zs1_, hzs1_, rfl, hb⟩; obtain ⟨m_q114, rfl⟩ := Zk.some_ hzs1_; refine ⟨_, rfl, ?_⟩; have n0_ := mk0 (below_step zq2 hb); clear HB; have HB := n0_; clear n0_ hb; (try simp only [errW_none, errW_some])) | ((with_reducible refine gate_callee (f := 54) rfl ?_); refine goesL_ (some 31) rfl rfl Tryd.func54 zq28 rfl #[.string (⟨#[99, 97, 110, 110, 111, 116, 32, 112, 97, 114, 115, 101, 32, 111, 98, 106, 101, 99, 116]⟩ : ByteArray)] rfl zq0 ?_; (with_reducible refine (errors_New.calls (⟨#[99, 97, 110, 110, 111, 116, 32, 112, 97, 114, 115, 101, 32, 111, 98, 106, 101, 99, 116]⟩ : ByteArray) t115 _ A11.out).mono ?_); rintro e w13 ⟨z_t115, hz_t115, rfl, hb⟩; have Hz_t115 := mk0 hz_t115; clear hz_t115; refine ⟨_, rfl, ?_⟩; have n0_ := mk0 (below_step zq2 hb); clear HB; have HB := n0_; clear n0_ hb; (try simp only [errW_none, errW_some])))
  go_ret2
  exact ⟨z_t115, Hz_t115.out, by rfl, by repeat (first | (with_reducible first | exact HB.out | apply below_alloc | apply pw_below_drewN | apply below_drew1) | exact HB.out)⟩
 rw [if_neg c7] at H
 have c7b0 : ((bt a0 0) == 123) = false := beq_eq_false_iff_ne.mpr c7
 have c7b1 : ((bt a0 0) != 123) = true := bne_iff_ne.mpr c7
 by_cases c15 : (bt a0 0) = 91
 ·rw [if_pos c15] at H
  have c15b0 : ((bt a0 0) == 91) = true := beq_iff_eq.mpr c15
  have c15b1 : ((bt a0 0) != 91) = false := bne_eq_false_iff_eq.mpr c15
  clear c15
  by_cases c16 : 1 ≤ (a0.size : Int)
  rotate_left
  ·rw [if_neg c16] at H
   exact absurd H (by simp)
  rw [if_pos c16] at H
  have c16b0 := eq_true c16
  have c16b1 : decide (1 ≤ (a0.size : Int)) = true := decide_eq_true c16
  clear c16
  replace H := Option.bind_eq_some_iff.mp H
  obtain ⟨⟨t116, t117⟩, A170, H⟩ := H
  (try dsimp only at H)
  have A17 := mk0 A170
  clear A170
  rcases t117 with _ | q118
  ·rw [if_pos (show (none : Option Int).isNone = true by rfl)] at H
   (try (obtain rfl := Zk.none_ Hz_t117.out))
   try simp only [errW_none, errW_some]
   simp only [Option.some.injEq, Prod.mk.injEq] at H
   obtain ⟨rfl, rfl⟩ := H
   have p6 : 0 ≤ (0 : Int) := (by omega)
   have q6 : 0 < a0.size := (by have : (0 : Int) < (a0.size : Int) := of_decide_eq_true zq5; omega)
   have hx6 : ∀ h : 0 < a0.size, ((a0[0]'h).toNat : Int) = bt a0 0 := bt_at a0 0
   clear p6
   have qi6 : (0 < (a0.size : Int)) = True := eq_true (of_decide_eq_true zq5)
   replace q6 := eq_true q6
   have p14 : 0 ≤ (0 : Int) := (by omega)
   have q14 : 0 < a0.size := (by have : (0 : Int) < (a0.size : Int) := of_decide_eq_true zq5; omega)
   have hx14 : ∀ h : 0 < a0.size, ((a0[0]'h).toNat : Int) = bt a0 0 := bt_at a0 0
   clear p14
   have qi14 : (0 < (a0.size : Int)) = True := eq_true (of_decide_eq_true zq5)
   replace q14 := eq_true q14
   go_enter Tryd.func81, Tryd.ntmps81
   go_wp2_with (first | ((with_reducible refine gate_callee (f := 80) rfl ?_); refine goesL_ (some 39) rfl rfl Tryd.func80 zq28 rfl #[.string (a0.extract 1 a0.size)] rfl zq0 ?_; (with_reducible refine (ih_80 k (by omega) (a0.extract 1 a0.size) t116 none _ ?side1 A17.out).mono ?_); (case side1 => exact zq29); rintro e w18 ⟨zn1_, hzn1_, rfl, hb⟩; obtain rfl := Zk.none_ hzn1_; refine ⟨_, rfl, ?_⟩; have n0_ := mk0 (below_step zq2 hb); clear HB; have HB := n0_; clear n0_ hb; (try simp only [errW_none, errW_some])))
   go_ret2
   exact ⟨none, Zk.nn, by rfl, by repeat (first | (with_reducible first | exact HB.out | apply below_alloc | apply pw_below_drewN | apply below_drew1) | exact HB.out)⟩
  rw [if_neg (show ¬ (some q118).isNone = true by simp)] at H
  (try (obtain ⟨m_q118, rfl⟩ := Zk.some_ Hz_t117.out))
  try simp only [errW_none, errW_some]
  replace H := Option.bind_eq_some_iff.mp H
  obtain ⟨t119, A190, H⟩ := H
  (try dsimp only at H)
  have A19 := mk0 A190
  clear A190
  simp only [Option.some.injEq, Prod.mk.injEq] at H
  obtain ⟨rfl, rfl⟩ := H
  have p6 : 0 ≤ (0 : Int) := (by omega)
  have q6 : 0 < a0.size := (by have : (0 : Int) < (a0.size : Int) := of_decide_eq_true zq5; omega)
  have hx6 : ∀ h : 0 < a0.size, ((a0[0]'h).toNat : Int) = bt a0 0 := bt_at a0 0
  clear p6
  have qi6 : (0 < (a0.size : Int)) = True := eq_true (of_decide_eq_true zq5)
  replace q6 := eq_true q6
  have p14 : 0 ≤ (0 : Int) := (by omega)
  have q14 : 0 < a0.size := (by have : (0 : Int) < (a0.size : Int) := of_decide_eq_true zq5; omega)
  have hx14 : ∀ h : 0 < a0.size, ((a0[0]'h).toNat : Int) = bt a0 0 := bt_at a0 0
  clear p14
  have qi14 : (0 < (a0.size : Int)) = True := eq_true (of_decide_eq_true zq5)
  replace q14 := eq_true q14
  go_enter Tryd.func81, Tryd.ntmps81
  go_wp2_with (first | ((with_reducible refine gate_callee (f := 80) rfl ?_); refine goesL_ (some 39) rfl rfl Tryd.func80 zq28 rfl #[.string (a0.extract 1 a0.size)] rfl zq0 ?_; (with_reducible refine (ih_80 k (by omega) (a0.extract 1 a0.size) t116 (some q118) _ ?side1 A17.out).mono ?_); (case side1 => exact zq29); rintro e w20 ⟨zs1_, hzs1_, rfl, hb⟩; obtain ⟨m_q118, rfl⟩ := Zk.some_ hzs1_; refine ⟨_, rfl, ?_⟩; have n0_ := mk0 (below_step zq2 hb); clear HB; have HB := n0_; clear n0_ hb; (try simp only [errW_none, errW_some])) | ((with_reducible refine gate_callee (f := 54) rfl ?_); refine goesL_ (some 45) rfl rfl Tryd.func54 zq28 rfl #[.string (⟨#[99, 97, 110, 110, 111, 116, 32, 112, 97, 114, 115, 101, 32, 97, 114, 114, 97, 121]⟩ : ByteArray)] rfl zq0 ?_; (with_reducible refine (errors_New.calls (⟨#[99, 97, 110, 110, 111, 116, 32, 112, 97, 114, 115, 101, 32, 97, 114, 114, 97, 121]⟩ : ByteArray) t119 _ A19.out).mono ?_); rintro e w21 ⟨z_t119, hz_t119, rfl, hb⟩; have Hz_t119 := mk0 hz_t119; clear hz_t119; refine ⟨_, rfl, ?_⟩; have n0_ := mk0 (below_step zq2 hb); clear HB; have HB := n0_; clear n0_ hb; (try simp only [errW_none, errW_some])))
  go_ret2
  exact ⟨z_t119, Hz_t119.out, by rfl, by repeat (first | (with_reducible first | exact HB.out | apply below_alloc | apply pw_below_drewN | apply below_drew1) | exact HB.out)⟩
 rw [if_neg c15] at H
 have c15b0 : ((bt a0 0) == 91) = false := beq_eq_false_iff_ne.mpr c15
 have c15b1 : ((bt a0 0) != 91) = true := bne_iff_ne.mpr c15
 by_cases c23 : (bt a0 0) = 34
 ·rw [if_pos c23] at H
  have c23b0 : ((bt a0 0) == 34) = true := beq_iff_eq.mpr c23
  have c23b1 : ((bt a0 0) != 34) = false := bne_eq_false_iff_eq.mpr c23
  clear c23
  by_cases c24 : 1 ≤ (a0.size : Int)
  rotate_left
  ·rw [if_neg c24] at H
   exact absurd H (by simp)
  rw [if_pos c24] at H
  have c24b0 := eq_true c24
  have c24b1 : decide (1 ≤ (a0.size : Int)) = true := decide_eq_true c24
  clear c24
  replace H := Option.bind_eq_some_iff.mp H
  obtain ⟨⟨t120, t121, t122⟩, A250, H⟩ := H
  (try dsimp only at H)
  have A25 := mk0 A250
  clear A250
  rcases t122 with _ | q123
  rotate_left
  ·rw [if_neg (show ¬ (some q123).isNone = true by simp)] at H
   (try (obtain ⟨m_q123, rfl⟩ := Zk.some_ Hz_t122.out))
   try simp only [errW_none, errW_some]
   replace H := Option.bind_eq_some_iff.mp H
   obtain ⟨t125, A340, H⟩ := H
   (try dsimp only at H)
   have A34 := mk0 A340
   clear A340
   simp only [Option.some.injEq, Prod.mk.injEq] at H
   obtain ⟨rfl, rfl⟩ := H
   have p6 : 0 ≤ (0 : Int) := (by omega)
   have q6 : 0 < a0.size := (by have : (0 : Int) < (a0.size : Int) := of_decide_eq_true zq5; omega)
   have hx6 : ∀ h : 0 < a0.size, ((a0[0]'h).toNat : Int) = bt a0 0 := bt_at a0 0
   clear p6
   have qi6 : (0 < (a0.size : Int)) = True := eq_true (of_decide_eq_true zq5)
   replace q6 := eq_true q6
   have p14 : 0 ≤ (0 : Int) := (by omega)
   have q14 : 0 < a0.size := (by have : (0 : Int) < (a0.size : Int) := of_decide_eq_true zq5; omega)
   have hx14 : ∀ h : 0 < a0.size, ((a0[0]'h).toNat : Int) = bt a0 0 := bt_at a0 0
   clear p14
   have qi14 : (0 < (a0.size : Int)) = True := eq_true (of_decide_eq_true zq5)
   replace q14 := eq_true q14
   have p22 : 0 ≤ (0 : Int) := (by omega)
   have q22 : 0 < a0.size := (by have : (0 : Int) < (a0.size : Int) := of_decide_eq_true zq5; omega)
   have hx22 : ∀ h : 0 < a0.size, ((a0[0]'h).toNat : Int) = bt a0 0 := bt_at a0 0
   clear p22
   have qi22 : (0 < (a0.size : Int)) = True := eq_true (of_decide_eq_true zq5)
   replace q22 := eq_true q22
   go_enter Tryd.func81, Tryd.ntmps81
   go_wp2_with (first | ((with_reducible refine gate_callee (f := 107) rfl ?_); refine goesL_ (some 53) rfl rfl Tryd.func107 zq28 rfl #[.string (a0.extract 1 a0.size)] rfl zq0 ?_; (with_reducible refine (fastjson_validateString.calls k (a0.extract 1 a0.size) t120 t121 (some q123) _ ?side1 A25.out).mono ?_); (case side1 => exact zq29); rintro e w35 ⟨zs2_, hzs2_, rfl, hb⟩; obtain ⟨m_q123, rfl⟩ := Zk.some_ hzs2_; refine ⟨_, rfl, ?_⟩; have n0_ := mk0 (below_step zq2 hb); clear HB; have HB := n0_; clear n0_ hb; (try simp only [errW_none, errW_some])) | ((with_reducible refine gate_callee (f := 54) rfl ?_); refine goesL_ (some 60) rfl rfl Tryd.func54 zq28 rfl #[.string (⟨#[99, 97, 110, 110, 111, 116, 32, 112, 97, 114, 115, 101, 32, 115, 116, 114, 105, 110, 103]⟩ : ByteArray)] rfl zq0 ?_; (with_reducible refine (errors_New.calls (⟨#[99, 97, 110, 110, 111, 116, 32, 112, 97, 114, 115, 101, 32, 115, 116, 114, 105, 110, 103]⟩ : ByteArray) t125 _ A34.out).mono ?_); rintro e w36 ⟨z_t125, hz_t125, rfl, hb⟩; have Hz_t125 := mk0 hz_t125; clear hz_t125; refine ⟨_, rfl, ?_⟩; have n0_ := mk0 (below_step zq2 hb); clear HB; have HB := n0_; clear n0_ hb; (try simp only [errW_none, errW_some])))
   go_ret2
   exact ⟨z_t125, Hz_t125.out, by rfl, by repeat (first | (with_reducible first | exact HB.out | apply below_alloc | apply pw_below_drewN | apply below_drew1) | exact HB.out)⟩
  rw [if_pos (show (none : Option Int).isNone = true by rfl)] at H
  (try (obtain rfl := Zk.none_ Hz_t122.out))
  try simp only [errW_none, errW_some]
  have H' := mk0 H
  clear H
  have p6 : 0 ≤ (0 : Int) := (by omega)
  have q6 : 0 < a0.size := (by have : (0 : Int) < (a0.size : Int) := of_decide_eq_true zq5; omega)
  have hx6 : ∀ h : 0 < a0.size, ((a0[0]'h).toNat : Int) = bt a0 0 := bt_at a0 0
  clear p6
  have qi6 : (0 < (a0.size : Int)) = True := eq_true (of_decide_eq_true zq5)
  replace q6 := eq_true q6
  have p14 : 0 ≤ (0 : Int) := (by omega)
  have q14 : 0 < a0.size := (by have : (0 : Int) < (a0.size : Int) := of_decide_eq_true zq5; omega)
  have hx14 : ∀ h : 0 < a0.size, ((a0[0]'h).toNat : Int) = bt a0 0 := bt_at a0 0
  clear p14
  have qi14 : (0 < (a0.size : Int)) = True := eq_true (of_decide_eq_true zq5)
  replace q14 := eq_true q14
  have p22 : 0 ≤ (0 : Int) := (by omega)
  have q22 : 0 < a0.size := (by have : (0 : Int) < (a0.size : Int) := of_decide_eq_true zq5; omega)
  have hx22 : ∀ h : 0 < a0.size, ((a0[0]'h).toNat : Int) = bt a0 0 := bt_at a0 0
  clear p22
  have qi22 : (0 < (a0.size : Int)) = True := eq_true (of_decide_eq_true zq5)
  replace q22 := eq_true q22
  go_enter Tryd.func81, Tryd.ntmps81
  go_wp2_with (first | ((with_reducible refine gate_callee (f := 107) rfl ?_); refine goesL_ (some 53) rfl rfl Tryd.func107 zq28 rfl #[.string (a0.extract 1 a0.size)] rfl zq0 ?_; (with_reducible refine (fastjson_validateString.calls k (a0.extract 1 a0.size) t120 t121 none _ ?side1 A25.out).mono ?_); (case side1 => exact zq29); rintro e w26 ⟨zn2_, hzn2_, rfl, hb⟩; obtain rfl := Zk.none_ hzn2_; refine ⟨_, rfl, ?_⟩; have n0_ := mk0 (below_step zq2 hb); clear HB; have HB := n0_; clear n0_ hb; (try simp only [errW_none, errW_some])))
  (try simp only [Act.put, List.setIfInBounds_toArray, List.set_cons_zero, List.set_cons_succ])
  go_loopg [63] k (fun kq v63 w' => ∃ (x63_1 : Int), v63 = .int .i64 x63_1 ∧ Aside0 (fastjson_validateValue.l0 kq t120 t121 (t120.size : Int) x63_1 = some (r1, r2)) ∧ Aside0 (kq ≤ k) ∧ Aside0 (Below w.heap.size w w'))
  case atStart => exact ⟨(0), (by rfl), H', ⟨Nat.le_refl _⟩, ⟨by repeat (first | (with_reducible first | exact HB.out | apply below_alloc | apply pw_below_drewN | apply below_drew1) | exact HB.out)⟩⟩
  case round =>
   clear H'
   clear c2 c2b0 c2b1 c5b0 c5b1 q6 hx6 qi6 c7 c7b0 c7b1 q14 hx14 qi14 c15 c15b0 c15b1 q22 hx22 qi22 c23b0 c23b1 c24b0 c24b1
   obtain ⟨x63_1, rfl, HA, HK1, HB⟩ := hrel
   cases gk with
   | zero => exact absurd HA.out (by simp [fastjson_validateValue.l0])
   | succ k1 =>
    have H := HA.out
    clear HA
    simp only [fastjson_validateValue.l0] at H
    by_cases c27 : x63_1 < (t120.size : Int)
    rotate_left
    ·rw [if_neg c27] at H
     have c27b0 : decide (x63_1 < (t120.size : Int)) = false := decide_eq_false c27
     clear c27
     simp only [Option.some.injEq, Prod.mk.injEq] at H
     obtain ⟨rfl, rfl⟩ := H
     go_wp2
     go_ret2
     exact ⟨none, Zk.nn, by rfl, by repeat (first | (with_reducible first | exact HB.out | apply below_alloc | apply pw_below_drewN | apply below_drew1) | exact HB.out)⟩
    rw [if_pos c27] at H
    have c27b0 : decide (x63_1 < (t120.size : Int)) = true := decide_eq_true c27
    clear c27
    by_cases c28 : 0 ≤ x63_1
    rotate_left
    ·rw [if_neg c28] at H
     exact absurd H (by simp)
    rw [if_pos c28] at H
    have c28b0 : decide (0 ≤ x63_1) = true := decide_eq_true c28
    clear c28
    by_cases c29 : x63_1 < (t120.size : Int)
    rotate_left
    ·rw [if_neg c29] at H
     exact absurd H (by simp)
    rw [if_pos c29] at H
    have c29b0 : decide (x63_1 < (t120.size : Int)) = true := decide_eq_true c29
    clear c29
    by_cases c31 : (bt t120 x63_1) < 32
    rotate_left
    ·rw [if_neg c31] at H
     have c31b0 : decide ((bt t120 x63_1) < 32) = false := decide_eq_false c31
     clear c31
     have H' := mk0 H
     clear H
     have p30 : 0 ≤ (x63_1 : Int) := of_decide_eq_true zq5
     have q30 : x63_1 < (t120.size : Int) := of_decide_eq_true zq5
     have hx30 := bt_at t120 x63_1
     replace p30 := eq_true p30
     replace q30 := eq_true q30
     go_wp2
     go_roundg k1
     case measure => have := HK1.out; omega
     case rel => exact ⟨(wrap64 (x63_1 + 1)), (by rfl), H', ⟨by have := HK1.out; omega⟩, ⟨by repeat (first | (with_reducible first | exact HB.out | apply below_alloc | apply pw_below_drewN | apply below_drew1) | exact HB.out)⟩⟩
    rw [if_pos c31] at H
    have c31b0 : decide ((bt t120 x63_1) < 32) = true := decide_eq_true c31
    clear c31
    replace H := Option.bind_eq_some_iff.mp H
    obtain ⟨t124, A320, H⟩ := H
    (try dsimp only at H)
    have A32 := mk0 A320
    clear A320
    simp only [Option.some.injEq, Prod.mk.injEq] at H
    obtain ⟨rfl, rfl⟩ := H
    have p30 : 0 ≤ (x63_1 : Int) := of_decide_eq_true zq5
    have q30 : x63_1 < (t120.size : Int) := of_decide_eq_true zq5
    have hx30 := bt_at t120 x63_1
    replace p30 := eq_true p30
    replace q30 := eq_true q30
    go_wp2_with (first | ((with_reducible refine gate_callee (f := 54) rfl ?_); refine goesL_ (some 71) rfl rfl Tryd.func54 zq28 rfl #[.string (⟨#[115, 116, 114, 105, 110, 103, 32, 99, 97, 110, 110, 111, 116, 32, 99, 111, 110, 116, 97, 105, 110, 32, 99, 111, 110, 116, 114, 111, 108, 32, 99, 104, 97, 114, 32, 48, 120]⟩ : ByteArray)] rfl zq0 ?_; (with_reducible refine (errors_New.calls (⟨#[115, 116, 114, 105, 110, 103, 32, 99, 97, 110, 110, 111, 116, 32, 99, 111, 110, 116, 97, 105, 110, 32, 99, 111, 110, 116, 114, 111, 108, 32, 99, 104, 97, 114, 32, 48, 120]⟩ : ByteArray) t124 _ A32.out).mono ?_); rintro e w33 ⟨z_t124, hz_t124, rfl, hb⟩; have Hz_t124 := mk0 hz_t124; clear hz_t124; refine ⟨_, rfl, ?_⟩; have n0_ := mk0 (below_step zq2 hb); clear HB; have HB := n0_; clear n0_ hb; (try simp only [errW_none, errW_some])))
    go_ret2
    exact ⟨z_t124, Hz_t124.out, by rfl, by repeat (first | (with_reducible first | exact HB.out | apply below_alloc | apply pw_below_drewN | apply below_drew1) | exact HB.out)⟩
 rw [if_neg c23] at H
 have c23b0 : ((bt a0 0) == 34) = false := beq_eq_false_iff_ne.mpr c23
 have c23b1 : ((bt a0 0) != 34) = true := bne_iff_ne.mpr c23
 by_cases c38 : (bt a0 0) = 116
 ·rw [if_pos c38] at H
  have c38b0 : ((bt a0 0) == 116) = true := beq_iff_eq.mpr c38
  have c38b1 : ((bt a0 0) != 116) = false := bne_eq_false_iff_eq.mpr c38
  clear c38
  by_cases c39 : (a0.size : Int) < 4
  ·rw [if_pos c39] at H
   have c39b0 : decide ((a0.size : Int) < 4) = true := decide_eq_true c39
   have c39b1 : decide (a0.size < 4) = true := decide_eq_true (by omega)
   clear c39
   replace H := Option.bind_eq_some_iff.mp H
   obtain ⟨t126, A400, H⟩ := H
   (try dsimp only at H)
   have A40 := mk0 A400
   clear A400
   simp only [Option.some.injEq, Prod.mk.injEq] at H
   obtain ⟨rfl, rfl⟩ := H
   have p6 : 0 ≤ (0 : Int) := (by omega)
   have q6 : 0 < a0.size := (by have : (0 : Int) < (a0.size : Int) := of_decide_eq_true zq5; omega)
   have hx6 : ∀ h : 0 < a0.size, ((a0[0]'h).toNat : Int) = bt a0 0 := bt_at a0 0
   clear p6
   have qi6 : (0 < (a0.size : Int)) = True := eq_true (of_decide_eq_true zq5)
   replace q6 := eq_true q6
   have p14 : 0 ≤ (0 : Int) := (by omega)
   have q14 : 0 < a0.size := (by have : (0 : Int) < (a0.size : Int) := of_decide_eq_true zq5; omega)
   have hx14 : ∀ h : 0 < a0.size, ((a0[0]'h).toNat : Int) = bt a0 0 := bt_at a0 0
   clear p14
   have qi14 : (0 < (a0.size : Int)) = True := eq_true (of_decide_eq_true zq5)
   replace q14 := eq_true q14
   have p22 : 0 ≤ (0 : Int) := (by omega)
   have q22 : 0 < a0.size := (by have : (0 : Int) < (a0.size : Int) := of_decide_eq_true zq5; omega)
   have hx22 : ∀ h : 0 < a0.size, ((a0[0]'h).toNat : Int) = bt a0 0 := bt_at a0 0
   clear p22
   have qi22 : (0 < (a0.size : Int)) = True := eq_true (of_decide_eq_true zq5)
   replace q22 := eq_true q22
   have p37 : 0 ≤ (0 : Int) := (by omega)
   have q37 : 0 < a0.size := (by have : (0 : Int) < (a0.size : Int) := of_decide_eq_true zq5; omega)
   have hx37 : ∀ h : 0 < a0.size, ((a0[0]'h).toNat : Int) = bt a0 0 := bt_at a0 0
   clear p37
   have qi37 : (0 < (a0.size : Int)) = True := eq_true (of_decide_eq_true zq5)
   replace q37 := eq_true q37
   go_enter Tryd.func81, Tryd.ntmps81
   go_wp2_with (first | ((with_reducible refine gate_callee (f := 54) rfl ?_); refine goesL_ (some 86) rfl rfl Tryd.func54 zq28 rfl #[.string (⟨#[117, 110, 101, 120, 112, 101, 99, 116, 101, 100, 32, 118, 97, 108, 117, 101, 32, 102, 111, 117, 110, 100]⟩ : ByteArray)] rfl zq0 ?_; (with_reducible refine (errors_New.calls (⟨#[117, 110, 101, 120, 112, 101, 99, 116, 101, 100, 32, 118, 97, 108, 117, 101, 32, 102, 111, 117, 110, 100]⟩ : ByteArray) t126 _ A40.out).mono ?_); rintro e w41 ⟨z_t126, hz_t126, rfl, hb⟩; have Hz_t126 := mk0 hz_t126; clear hz_t126; refine ⟨_, rfl, ?_⟩; have n0_ := mk0 (below_step zq2 hb); clear HB; have HB := n0_; clear n0_ hb; (try simp only [errW_none, errW_some])))
   go_ret2
   exact ⟨z_t126, Hz_t126.out, by rfl, by repeat (first | (with_reducible first | exact HB.out | apply below_alloc | apply pw_below_drewN | apply below_drew1) | exact HB.out)⟩
  rw [if_neg c39] at H
  have c39b0 : decide ((a0.size : Int) < 4) = false := decide_eq_false c39
  have c39b1 : decide (a0.size < 4) = false := decide_eq_false (by omega)
  clear c39
  by_cases c42 : 0 ≤ 4
  rotate_left
  ·rw [if_neg c42] at H
   exact absurd H (by simp)
  rw [if_pos c42] at H
  have c42b0 := eq_true c42
  have c42b1 : decide (0 ≤ 4) = true := decide_eq_true c42
  clear c42
  by_cases c43 : 4 ≤ (a0.size : Int)
  rotate_left
  ·rw [if_neg c43] at H
   exact absurd H (by simp)
  rw [if_pos c43] at H
  have c43b0 := eq_true c43
  have c43b1 : decide (4 ≤ (a0.size : Int)) = true := decide_eq_true c43
  clear c43
  by_cases c44 : (a0.extract 0 4).toList = ([116, 114, 117, 101] : List UInt8)
  ·rw [if_pos c44] at H
   have c44b0 : ((a0.extract 0 4).toList == ([116, 114, 117, 101] : List UInt8)) = true := beq_iff_eq.mpr c44
   have c44b1 : ((a0.extract 0 4).toList != ([116, 114, 117, 101] : List UInt8)) = false := bne_eq_false_iff_eq.mpr c44
   clear c44
   have c45b0 := eq_true (of_decide_eq_true zq5 : 4 ≤ (a0.size : Int))
   simp only [Option.some.injEq, Prod.mk.injEq] at H
   obtain ⟨rfl, rfl⟩ := H
   have p6 : 0 ≤ (0 : Int) := (by omega)
   have q6 : 0 < a0.size := (by have : (0 : Int) < (a0.size : Int) := of_decide_eq_true zq5; omega)
   have hx6 : ∀ h : 0 < a0.size, ((a0[0]'h).toNat : Int) = bt a0 0 := bt_at a0 0
   clear p6
   have qi6 : (0 < (a0.size : Int)) = True := eq_true (of_decide_eq_true zq5)
   replace q6 := eq_true q6
   have p14 : 0 ≤ (0 : Int) := (by omega)
   have q14 : 0 < a0.size := (by have : (0 : Int) < (a0.size : Int) := of_decide_eq_true zq5; omega)
   have hx14 : ∀ h : 0 < a0.size, ((a0[0]'h).toNat : Int) = bt a0 0 := bt_at a0 0
   clear p14
   have qi14 : (0 < (a0.size : Int)) = True := eq_true (of_decide_eq_true zq5)
   replace q14 := eq_true q14
   have p22 : 0 ≤ (0 : Int) := (by omega)
   have q22 : 0 < a0.size := (by have : (0 : Int) < (a0.size : Int) := of_decide_eq_true zq5; omega)
   have hx22 : ∀ h : 0 < a0.size, ((a0[0]'h).toNat : Int) = bt a0 0 := bt_at a0 0
   clear p22
   have qi22 : (0 < (a0.size : Int)) = True := eq_true (of_decide_eq_true zq5)
   replace q22 := eq_true q22
   have p37 : 0 ≤ (0 : Int) := (by omega)
   have q37 : 0 < a0.size := (by have : (0 : Int) < (a0.size : Int) := of_decide_eq_true zq5; omega)
   have hx37 : ∀ h : 0 < a0.size, ((a0[0]'h).toNat : Int) = bt a0 0 := bt_at a0 0
   clear p37
   have qi37 : (0 < (a0.size : Int)) = True := eq_true (of_decide_eq_true zq5)
   replace q37 := eq_true q37
   go_enter Tryd.func81, Tryd.ntmps81
   go_wp2
   go_ret2
   exact ⟨none, Zk.nn, by rfl, by repeat (first | (with_reducible first | exact HB.out | apply below_alloc | apply pw_below_drewN | apply below_drew1) | exact HB.out)⟩
  rw [if_neg c44] at H
  have c44b0 : ((a0.extract 0 4).toList == ([116, 114, 117, 101] : List UInt8)) = false := beq_eq_false_iff_ne.mpr c44
  have c44b1 : ((a0.extract 0 4).toList != ([116, 114, 117, 101] : List UInt8)) = true := bne_iff_ne.mpr c44
  replace H := Option.bind_eq_some_iff.mp H
  obtain ⟨t127, A460, H⟩ := H
  (try dsimp only at H)
  have A46 := mk0 A460
  clear A460
  simp only [Option.some.injEq, Prod.mk.injEq] at H
  obtain ⟨rfl, rfl⟩ := H
  have p6 : 0 ≤ (0 : Int) := (by omega)
  have q6 : 0 < a0.size := (by have : (0 : Int) < (a0.size : Int) := of_decide_eq_true zq5; omega)
  have hx6 : ∀ h : 0 < a0.size, ((a0[0]'h).toNat : Int) = bt a0 0 := bt_at a0 0
  clear p6
  have qi6 : (0 < (a0.size : Int)) = True := eq_true (of_decide_eq_true zq5)
  replace q6 := eq_true q6
  have p14 : 0 ≤ (0 : Int) := (by omega)
  have q14 : 0 < a0.size := (by have : (0 : Int) < (a0.size : Int) := of_decide_eq_true zq5; omega)
  have hx14 : ∀ h : 0 < a0.size, ((a0[0]'h).toNat : Int) = bt a0 0 := bt_at a0 0
  clear p14
  have qi14 : (0 < (a0.size : Int)) = True := eq_true (of_decide_eq_true zq5)
  replace q14 := eq_true q14
  have p22 : 0 ≤ (0 : Int) := (by omega)
  have q22 : 0 < a0.size := (by have : (0 : Int) < (a0.size : Int) := of_decide_eq_true zq5; omega)
  have hx22 : ∀ h : 0 < a0.size, ((a0[0]'h).toNat : Int) = bt a0 0 := bt_at a0 0
  clear p22
  have qi22 : (0 < (a0.size : Int)) = True := eq_true (of_decide_eq_true zq5)
  replace q22 := eq_true q22
  have p37 : 0 ≤ (0 : Int) := (by omega)
  have q37 : 0 < a0.size := (by have : (0 : Int) < (a0.size : Int) := of_decide_eq_true zq5; omega)
  have hx37 : ∀ h : 0 < a0.size, ((a0[0]'h).toNat : Int) = bt a0 0 := bt_at a0 0
  clear p37
  have qi37 : (0 < (a0.size : Int)) = True := eq_true (of_decide_eq_true zq5)
  replace q37 := eq_true q37
  go_enter Tryd.func81, Tryd.ntmps81
  go_wp2_with (first | ((with_reducible refine gate_callee (f := 54) rfl ?_); refine goesL_ (some 86) rfl rfl Tryd.func54 zq28 rfl #[.string (⟨#[117, 110, 101, 120, 112, 101, 99, 116, 101, 100, 32, 118, 97, 108, 117, 101, 32, 102, 111, 117, 110, 100]⟩ : ByteArray)] rfl zq0 ?_; (with_reducible refine (errors_New.calls (⟨#[117, 110, 101, 120, 112, 101, 99, 116, 101, 100, 32, 118, 97, 108, 117, 101, 32, 102, 111, 117, 110, 100]⟩ : ByteArray) t127 _ A46.out).mono ?_); rintro e w47 ⟨z_t127, hz_t127, rfl, hb⟩; have Hz_t127 := mk0 hz_t127; clear hz_t127; refine ⟨_, rfl, ?_⟩; have n0_ := mk0 (below_step zq2 hb); clear HB; have HB := n0_; clear n0_ hb; (try simp only [errW_none, errW_some])))
  go_ret2
  exact ⟨z_t127, Hz_t127.out, by rfl, by repeat (first | (with_reducible first | exact HB.out | apply below_alloc | apply pw_below_drewN | apply below_drew1) | exact HB.out)⟩
 rw [if_neg c38] at H
 have c38b0 : ((bt a0 0) == 116) = false := beq_eq_false_iff_ne.mpr c38
 have c38b1 : ((bt a0 0) != 116) = true := bne_iff_ne.mpr c38
 by_cases c49 : (bt a0 0) = 102
 ·rw [if_pos c49] at H
  have c49b0 : ((bt a0 0) == 102) = true := beq_iff_eq.mpr c49
  have c49b1 : ((bt a0 0) != 102) = false := bne_eq_false_iff_eq.mpr c49
  clear c49
  by_cases c50 : (a0.size : Int) < 5
  ·rw [if_pos c50] at H
   have c50b0 : decide ((a0.size : Int) < 5) = true := decide_eq_true c50
   have c50b1 : decide (a0.size < 5) = true := decide_eq_true (by omega)
   clear c50
   replace H := Option.bind_eq_some_iff.mp H
   obtain ⟨t128, A510, H⟩ := H
   (try dsimp only at H)
   have A51 := mk0 A510
   clear A510
   simp only [Option.some.injEq, Prod.mk.injEq] at H
   obtain ⟨rfl, rfl⟩ := H
   have p6 : 0 ≤ (0 : Int) := (by omega)
   have q6 : 0 < a0.size := (by have : (0 : Int) < (a0.size : Int) := of_decide_eq_true zq5; omega)
   have hx6 : ∀ h : 0 < a0.size, ((a0[0]'h).toNat : Int) = bt a0 0 := bt_at a0 0
   clear p6
   have qi6 : (0 < (a0.size : Int)) = True := eq_true (of_decide_eq_true zq5)
   replace q6 := eq_true q6
   have p14 : 0 ≤ (0 : Int) := (by omega)
   have q14 : 0 < a0.size := (by have : (0 : Int) < (a0.size : Int) := of_decide_eq_true zq5; omega)
   have hx14 : ∀ h : 0 < a0.size, ((a0[0]'h).toNat : Int) = bt a0 0 := bt_at a0 0
   clear p14
   have qi14 : (0 < (a0.size : Int)) = True := eq_true (of_decide_eq_true zq5)
   replace q14 := eq_true q14
   have p22 : 0 ≤ (0 : Int) := (by omega)
   have q22 : 0 < a0.size := (by have : (0 : Int) < (a0.size : Int) := of_decide_eq_true zq5; omega)
   have hx22 : ∀ h : 0 < a0.size, ((a0[0]'h).toNat : Int) = bt a0 0 := bt_at a0 0
   clear p22
   have qi22 : (0 < (a0.size : Int)) = True := eq_true (of_decide_eq_true zq5)
   replace q22 := eq_true q22
   have p37 : 0 ≤ (0 : Int) := (by omega)
   have q37 : 0 < a0.size := (by have : (0 : Int) < (a0.size : Int) := of_decide_eq_true zq5; omega)
   have hx37 : ∀ h : 0 < a0.size, ((a0[0]'h).toNat : Int) = bt a0 0 := bt_at a0 0
   clear p37
   have qi37 : (0 < (a0.size : Int)) = True := eq_true (of_decide_eq_true zq5)
   replace q37 := eq_true q37
   have p48 : 0 ≤ (0 : Int) := (by omega)
   have q48 : 0 < a0.size := (by have : (0 : Int) < (a0.size : Int) := of_decide_eq_true zq5; omega)
   have hx48 : ∀ h : 0 < a0.size, ((a0[0]'h).toNat : Int) = bt a0 0 := bt_at a0 0
   clear p48
   have qi48 : (0 < (a0.size : Int)) = True := eq_true (of_decide_eq_true zq5)
   replace q48 := eq_true q48
   go_enter Tryd.func81, Tryd.ntmps81
   go_wp2_with (first | ((with_reducible refine gate_callee (f := 54) rfl ?_); refine goesL_ (some 101) rfl rfl Tryd.func54 zq28 rfl #[.string (⟨#[117, 110, 101, 120, 112, 101, 99, 116, 101, 100, 32, 118, 97, 108, 117, 101, 32, 102, 111, 117, 110, 100]⟩ : ByteArray)] rfl zq0 ?_; (with_reducible refine (errors_New.calls (⟨#[117, 110, 101, 120, 112, 101, 99, 116, 101, 100, 32, 118, 97, 108, 117, 101, 32, 102, 111, 117, 110, 100]⟩ : ByteArray) t128 _ A51.out).mono ?_); rintro e w52 ⟨z_t128, hz_t128, rfl, hb⟩; have Hz_t128 := mk0 hz_t128; clear hz_t128; refine ⟨_, rfl, ?_⟩; have n0_ := mk0 (below_step zq2 hb); clear HB; have HB := n0_; clear n0_ hb; (try simp only [errW_none, errW_some])))
   go_ret2
   exact ⟨z_t128, Hz_t128.out, by rfl, by repeat (first | (with_reducible first | exact HB.out | apply below_alloc | apply pw_below_drewN | apply below_drew1) | exact HB.out)⟩
  rw [if_neg c50] at H
  have c50b0 : decide ((a0.size : Int) < 5) = false := decide_eq_false c50
  have c50b1 : decide (a0.size < 5) = false := decide_eq_false (by omega)
  clear c50
  by_cases c53 : 0 ≤ 5
  rotate_left
  ·rw [if_neg c53] at H
   exact absurd H (by simp)
  rw [if_pos c53] at H
  have c53b0 := eq_true c53
  have c53b1 : decide (0 ≤ 5) = true := decide_eq_true c53
  clear c53
  by_cases c54 : 5 ≤ (a0.size : Int)
  rotate_left
  ·rw [if_neg c54] at H
   exact absurd H (by simp)
  rw [if_pos c54] at H
  have c54b0 := eq_true c54
  have c54b1 : decide (5 ≤ (a0.size : Int)) = true := decide_eq_true c54
  clear c54
  by_cases c55 : (a0.extract 0 5).toList = ([102, 97, 108, 115, 101] : List UInt8)
  ·rw [if_pos c55] at H
   have c55b0 : ((a0.extract 0 5).toList == ([102, 97, 108, 115, 101] : List UInt8)) = true := beq_iff_eq.mpr c55
   have c55b1 : ((a0.extract 0 5).toList != ([102, 97, 108, 115, 101] : List UInt8)) = false := bne_eq_false_iff_eq.mpr c55
   clear c55
   have c56b0 := eq_true (of_decide_eq_true zq5 : 5 ≤ (a0.size : Int))
   simp only [Option.some.injEq, Prod.mk.injEq] at H
   obtain ⟨rfl, rfl⟩ := H
   have p6 : 0 ≤ (0 : Int) := (by omega)
   have q6 : 0 < a0.size := (by have : (0 : Int) < (a0.size : Int) := of_decide_eq_true zq5; omega)
   have hx6 : ∀ h : 0 < a0.size, ((a0[0]'h).toNat : Int) = bt a0 0 := bt_at a0 0
   clear p6
   have qi6 : (0 < (a0.size : Int)) = True := eq_true (of_decide_eq_true zq5)
   replace q6 := eq_true q6
   have p14 : 0 ≤ (0 : Int) := (by omega)
   have q14 : 0 < a0.size := (by have : (0 : Int) < (a0.size : Int) := of_decide_eq_true zq5; omega)
   have hx14 : ∀ h : 0 < a0.size, ((a0[0]'h).toNat : Int) = bt a0 0 := bt_at a0 0
   clear p14
   have qi14 : (0 < (a0.size : Int)) = True := eq_true (of_decide_eq_true zq5)
   replace q14 := eq_true q14
   have p22 : 0 ≤ (0 : Int) := (by omega)
   have q22 : 0 < a0.size := (by have : (0 : Int) < (a0.size : Int) := of_decide_eq_true zq5; omega)
   have hx22 : ∀ h : 0 < a0.size, ((a0[0]'h).toNat : Int) = bt a0 0 := bt_at a0 0
   clear p22
   have qi22 : (0 < (a0.size : Int)) = True := eq_true (of_decide_eq_true zq5)
   replace q22 := eq_true q22
   have p37 : 0 ≤ (0 : Int) := (by omega)
   have q37 : 0 < a0.size := (by have : (0 : Int) < (a0.size : Int) := of_decide_eq_true zq5; omega)
   have hx37 : ∀ h : 0 < a0.size, ((a0[0]'h).toNat : Int) = bt a0 0 := bt_at a0 0
   clear p37
   have qi37 : (0 < (a0.size : Int)) = True := eq_true (of_decide_eq_true zq5)
   replace q37 := eq_true q37
   have p48 : 0 ≤ (0 : Int) := (by omega)
   have q48 : 0 < a0.size := (by have : (0 : Int) < (a0.size : Int) := of_decide_eq_true zq5; omega)
   have hx48 : ∀ h : 0 < a0.size, ((a0[0]'h).toNat : Int) = bt a0 0 := bt_at a0 0
   clear p48
   have qi48 : (0 < (a0.size : Int)) = True := eq_true (of_decide_eq_true zq5)
   replace q48 := eq_true q48
   go_enter Tryd.func81, Tryd.ntmps81
   go_wp2
   go_ret2
   exact ⟨none, Zk.nn, by rfl, by repeat (first | (with_reducible first | exact HB.out | apply below_alloc | apply pw_below_drewN | apply below_drew1) | exact HB.out)⟩
  rw [if_neg c55] at H
  have c55b0 : ((a0.extract 0 5).toList == ([102, 97, 108, 115, 101] : List UInt8)) = false := beq_eq_false_iff_ne.mpr c55
  have c55b1 : ((a0.extract 0 5).toList != ([102, 97, 108, 115, 101] : List UInt8)) = true := bne_iff_ne.mpr c55
  replace H := Option.bind_eq_some_iff.mp H
  obtain ⟨t129, A570, H⟩ := H
  (try dsimp only at H)
  have A57 := mk0 A570
  clear A570
  simp only [Option.some.injEq, Prod.mk.injEq] at H
  obtain ⟨rfl, rfl⟩ := H
  have p6 : 0 ≤ (0 : Int) := (by omega)
  have q6 : 0 < a0.size := (by have : (0 : Int) < (a0.size : Int) := of_decide_eq_true zq5; omega)
  have hx6 : ∀ h : 0 < a0.size, ((a0[0]'h).toNat : Int) = bt a0 0 := bt_at a0 0
  clear p6
  have qi6 : (0 < (a0.size : Int)) = True := eq_true (of_decide_eq_true zq5)
  replace q6 := eq_true q6
  have p14 : 0 ≤ (0 : Int) := (by omega)
  have q14 : 0 < a0.size := (by have : (0 : Int) < (a0.size : Int) := of_decide_eq_true zq5; omega)
  have hx14 : ∀ h : 0 < a0.size, ((a0[0]'h).toNat : Int) = bt a0 0 := bt_at a0 0
  clear p14
  have qi14 : (0 < (a0.size : Int)) = True := eq_true (of_decide_eq_true zq5)
  replace q14 := eq_true q14
  have p22 : 0 ≤ (0 : Int) := (by omega)
  have q22 : 0 < a0.size := (by have : (0 : Int) < (a0.size : Int) := of_decide_eq_true zq5; omega)
  have hx22 : ∀ h : 0 < a0.size, ((a0[0]'h).toNat : Int) = bt a0 0 := bt_at a0 0
  clear p22
  have qi22 : (0 < (a0.size : Int)) = True := eq_true (of_decide_eq_true zq5)
  replace q22 := eq_true q22
  have p37 : 0 ≤ (0 : Int) := (by omega)
  have q37 : 0 < a0.size := (by have : (0 : Int) < (a0.size : Int) := of_decide_eq_true zq5; omega)
  have hx37 : ∀ h : 0 < a0.size, ((a0[0]'h).toNat : Int) = bt a0 0 := bt_at a0 0
  clear p37
  have qi37 : (0 < (a0.size : Int)) = True := eq_true (of_decide_eq_true zq5)
  replace q37 := eq_true q37
  have p48 : 0 ≤ (0 : Int) := (by omega)
  have q48 : 0 < a0.size := (by have : (0 : Int) < (a0.size : Int) := of_decide_eq_true zq5; omega)
  have hx48 : ∀ h : 0 < a0.size, ((a0[0]'h).toNat : Int) = bt a0 0 := bt_at a0 0
  clear p48
  have qi48 : (0 < (a0.size : Int)) = True := eq_true (of_decide_eq_true zq5)
  replace q48 := eq_true q48
  go_enter Tryd.func81, Tryd.ntmps81
  go_wp2_with (first | ((with_reducible refine gate_callee (f := 54) rfl ?_); refine goesL_ (some 101) rfl rfl Tryd.func54 zq28 rfl #[.string (⟨#[117, 110, 101, 120, 112, 101, 99, 116, 101, 100, 32, 118, 97, 108, 117, 101, 32, 102, 111, 117, 110, 100]⟩ : ByteArray)] rfl zq0 ?_; (with_reducible refine (errors_New.calls (⟨#[117, 110, 101, 120, 112, 101, 99, 116, 101, 100, 32, 118, 97, 108, 117, 101, 32, 102, 111, 117, 110, 100]⟩ : ByteArray) t129 _ A57.out).mono ?_); rintro e w58 ⟨z_t129, hz_t129, rfl, hb⟩; have Hz_t129 := mk0 hz_t129; clear hz_t129; refine ⟨_, rfl, ?_⟩; have n0_ := mk0 (below_step zq2 hb); clear HB; have HB := n0_; clear n0_ hb; (try simp only [errW_none, errW_some])))
  go_ret2
  exact ⟨z_t129, Hz_t129.out, by rfl, by repeat (first | (with_reducible first | exact HB.out | apply below_alloc | apply pw_below_drewN | apply below_drew1) | exact HB.out)⟩
 rw [if_neg c49] at H
 have c49b0 : ((bt a0 0) == 102) = false := beq_eq_false_iff_ne.mpr c49
 have c49b1 : ((bt a0 0) != 102) = true := bne_iff_ne.mpr c49
 by_cases c60 : (bt a0 0) = 110
 rotate_left
 ·rw [if_neg c60] at H
  have c60b0 : ((bt a0 0) == 110) = false := beq_eq_false_iff_ne.mpr c60
  have c60b1 : ((bt a0 0) != 110) = true := bne_iff_ne.mpr c60
  replace H := Option.bind_eq_some_iff.mp H
  obtain ⟨⟨t132, t133⟩, A700, H⟩ := H
  (try dsimp only at H)
  have A70 := mk0 A700
  clear A700
  rcases t133 with _ | q134
  ·rw [if_pos (show (none : Option Int).isNone = true by rfl)] at H
   (try (obtain rfl := Zk.none_ Hz_t133.out))
   try simp only [errW_none, errW_some]
   simp only [Option.some.injEq, Prod.mk.injEq] at H
   obtain ⟨rfl, rfl⟩ := H
   have p6 : 0 ≤ (0 : Int) := (by omega)
   have q6 : 0 < a0.size := (by have : (0 : Int) < (a0.size : Int) := of_decide_eq_true zq5; omega)
   have hx6 : ∀ h : 0 < a0.size, ((a0[0]'h).toNat : Int) = bt a0 0 := bt_at a0 0
   clear p6
   have qi6 : (0 < (a0.size : Int)) = True := eq_true (of_decide_eq_true zq5)
   replace q6 := eq_true q6
   have p14 : 0 ≤ (0 : Int) := (by omega)
   have q14 : 0 < a0.size := (by have : (0 : Int) < (a0.size : Int) := of_decide_eq_true zq5; omega)
   have hx14 : ∀ h : 0 < a0.size, ((a0[0]'h).toNat : Int) = bt a0 0 := bt_at a0 0
   clear p14
   have qi14 : (0 < (a0.size : Int)) = True := eq_true (of_decide_eq_true zq5)
   replace q14 := eq_true q14
   have p22 : 0 ≤ (0 : Int) := (by omega)
   have q22 : 0 < a0.size := (by have : (0 : Int) < (a0.size : Int) := of_decide_eq_true zq5; omega)
   have hx22 : ∀ h : 0 < a0.size, ((a0[0]'h).toNat : Int) = bt a0 0 := bt_at a0 0
   clear p22
   have qi22 : (0 < (a0.size : Int)) = True := eq_true (of_decide_eq_true zq5)
   replace q22 := eq_true q22
   have p37 : 0 ≤ (0 : Int) := (by omega)
   have q37 : 0 < a0.size := (by have : (0 : Int) < (a0.size : Int) := of_decide_eq_true zq5; omega)
   have hx37 : ∀ h : 0 < a0.size, ((a0[0]'h).toNat : Int) = bt a0 0 := bt_at a0 0
   clear p37
   have qi37 : (0 < (a0.size : Int)) = True := eq_true (of_decide_eq_true zq5)
   replace q37 := eq_true q37
   have p48 : 0 ≤ (0 : Int) := (by omega)
   have q48 : 0 < a0.size := (by have : (0 : Int) < (a0.size : Int) := of_decide_eq_true zq5; omega)
   have hx48 : ∀ h : 0 < a0.size, ((a0[0]'h).toNat : Int) = bt a0 0 := bt_at a0 0
   clear p48
   have qi48 : (0 < (a0.size : Int)) = True := eq_true (of_decide_eq_true zq5)
   replace q48 := eq_true q48
   have p59 : 0 ≤ (0 : Int) := (by omega)
   have q59 : 0 < a0.size := (by have : (0 : Int) < (a0.size : Int) := of_decide_eq_true zq5; omega)
   have hx59 : ∀ h : 0 < a0.size, ((a0[0]'h).toNat : Int) = bt a0 0 := bt_at a0 0
   clear p59
   have qi59 : (0 < (a0.size : Int)) = True := eq_true (of_decide_eq_true zq5)
   replace q59 := eq_true q59
   go_enter Tryd.func81, Tryd.ntmps81
   go_wp2_with (first | ((with_reducible refine gate_callee (f := 108) rfl ?_); refine goesL_ (some 121) rfl rfl Tryd.func108 zq28 rfl #[.string a0] rfl zq0 ?_; (with_reducible refine (fastjson_validateNumber.calls k a0 t132 none _ A70.out).mono ?_); rintro e w71 ⟨zn1_, hzn1_, rfl, hb⟩; obtain rfl := Zk.none_ hzn1_; refine ⟨_, rfl, ?_⟩; have n0_ := mk0 (below_step zq2 hb); clear HB; have HB := n0_; clear n0_ hb; (try simp only [errW_none, errW_some])))
   go_ret2
   exact ⟨none, Zk.nn, by rfl, by repeat (first | (with_reducible first | exact HB.out | apply below_alloc | apply pw_below_drewN | apply below_drew1) | exact HB.out)⟩
  rw [if_neg (show ¬ (some q134).isNone = true by simp)] at H
  (try (obtain ⟨m_q134, rfl⟩ := Zk.some_ Hz_t133.out))
  try simp only [errW_none, errW_some]
  replace H := Option.bind_eq_some_iff.mp H
  obtain ⟨t135, A720, H⟩ := H
  (try dsimp only at H)
  have A72 := mk0 A720
  clear A720
  simp only [Option.some.injEq, Prod.mk.injEq] at H
  obtain ⟨rfl, rfl⟩ := H
  have p6 : 0 ≤ (0 : Int) := (by omega)
  have q6 : 0 < a0.size := (by have : (0 : Int) < (a0.size : Int) := of_decide_eq_true zq5; omega)
  have hx6 : ∀ h : 0 < a0.size, ((a0[0]'h).toNat : Int) = bt a0 0 := bt_at a0 0
  clear p6
  have qi6 : (0 < (a0.size : Int)) = True := eq_true (of_decide_eq_true zq5)
  replace q6 := eq_true q6
  have p14 : 0 ≤ (0 : Int) := (by omega)
  have q14 : 0 < a0.size := (by have : (0 : Int) < (a0.size : Int) := of_decide_eq_true zq5; omega)
  have hx14 : ∀ h : 0 < a0.size, ((a0[0]'h).toNat : Int) = bt a0 0 := bt_at a0 0
  clear p14
  have qi14 : (0 < (a0.size : Int)) = True := eq_true (of_decide_eq_true zq5)
  replace q14 := eq_true q14
  have p22 : 0 ≤ (0 : Int) := (by omega)
  have q22 : 0 < a0.size := (by have : (0 : Int) < (a0.size : Int) := of_decide_eq_true zq5; omega)
  have hx22 : ∀ h : 0 < a0.size, ((a0[0]'h).toNat : Int) = bt a0 0 := bt_at a0 0
  clear p22
  have qi22 : (0 < (a0.size : Int)) = True := eq_true (of_decide_eq_true zq5)
  replace q22 := eq_true q22
  have p37 : 0 ≤ (0 : Int) := (by omega)
  have q37 : 0 < a0.size := (by have : (0 : Int) < (a0.size : Int) := of_decide_eq_true zq5; omega)
  have hx37 : ∀ h : 0 < a0.size, ((a0[0]'h).toNat : Int) = bt a0 0 := bt_at a0 0
  clear p37
  have qi37 : (0 < (a0.size : Int)) = True := eq_true (of_decide_eq_true zq5)
  replace q37 := eq_true q37
  have p48 : 0 ≤ (0 : Int) := (by omega)
  have q48 : 0 < a0.size := (by have : (0 : Int) < (a0.size : Int) := of_decide_eq_true zq5; omega)
  have hx48 : ∀ h : 0 < a0.size, ((a0[0]'h).toNat : Int) = bt a0 0 := bt_at a0 0
  clear p48
  have qi48 : (0 < (a0.size : Int)) = True := eq_true (of_decide_eq_true zq5)
  replace q48 := eq_true q48
  have p59 : 0 ≤ (0 : Int) := (by omega)
  have q59 : 0 < a0.size := (by have : (0 : Int) < (a0.size : Int) := of_decide_eq_true zq5; omega)
  have hx59 : ∀ h : 0 < a0.size, ((a0[0]'h).toNat : Int) = bt a0 0 := bt_at a0 0
  clear p59
  have qi59 : (0 < (a0.size : Int)) = True := eq_true (of_decide_eq_true zq5)
  replace q59 := eq_true q59
  go_enter Tryd.func81, Tryd.ntmps81
  go_wp2_with (first | ((with_reducible refine gate_callee (f := 108) rfl ?_); refine goesL_ (some 121) rfl rfl Tryd.func108 zq28 rfl #[.string a0] rfl zq0 ?_; (with_reducible refine (fastjson_validateNumber.calls k a0 t132 (some q134) _ A70.out).mono ?_); rintro e w73 ⟨zs1_, hzs1_, rfl, hb⟩; obtain ⟨m_q134, rfl⟩ := Zk.some_ hzs1_; refine ⟨_, rfl, ?_⟩; have n0_ := mk0 (below_step zq2 hb); clear HB; have HB := n0_; clear n0_ hb; (try simp only [errW_none, errW_some])) | ((with_reducible refine gate_callee (f := 54) rfl ?_); refine goesL_ (some 127) rfl rfl Tryd.func54 zq28 rfl #[.string (⟨#[99, 97, 110, 110, 111, 116, 32, 112, 97, 114, 115, 101, 32, 110, 117, 109, 98, 101, 114]⟩ : ByteArray)] rfl zq0 ?_; (with_reducible refine (errors_New.calls (⟨#[99, 97, 110, 110, 111, 116, 32, 112, 97, 114, 115, 101, 32, 110, 117, 109, 98, 101, 114]⟩ : ByteArray) t135 _ A72.out).mono ?_); rintro e w74 ⟨z_t135, hz_t135, rfl, hb⟩; have Hz_t135 := mk0 hz_t135; clear hz_t135; refine ⟨_, rfl, ?_⟩; have n0_ := mk0 (below_step zq2 hb); clear HB; have HB := n0_; clear n0_ hb; (try simp only [errW_none, errW_some])))
  go_ret2
  exact ⟨z_t135, Hz_t135.out, by rfl, by repeat (first | (with_reducible first | exact HB.out | apply below_alloc | apply pw_below_drewN | apply below_drew1) | exact HB.out)⟩
 rw [if_pos c60] at H
 have c60b0 : ((bt a0 0) == 110) = true := beq_iff_eq.mpr c60
 have c60b1 : ((bt a0 0) != 110) = false := bne_eq_false_iff_eq.mpr c60
 clear c60
 by_cases c61 : (a0.size : Int) < 4
 ·rw [if_pos c61] at H
  have c61b0 : decide ((a0.size : Int) < 4) = true := decide_eq_true c61
  have c61b1 : decide (a0.size < 4) = true := decide_eq_true (by omega)
  clear c61
  replace H := Option.bind_eq_some_iff.mp H
  obtain ⟨t130, A620, H⟩ := H
  (try dsimp only at H)
  have A62 := mk0 A620
  clear A620
  simp only [Option.some.injEq, Prod.mk.injEq] at H
  obtain ⟨rfl, rfl⟩ := H
  have p6 : 0 ≤ (0 : Int) := (by omega)
  have q6 : 0 < a0.size := (by have : (0 : Int) < (a0.size : Int) := of_decide_eq_true zq5; omega)
  have hx6 : ∀ h : 0 < a0.size, ((a0[0]'h).toNat : Int) = bt a0 0 := bt_at a0 0
  clear p6
  have qi6 : (0 < (a0.size : Int)) = True := eq_true (of_decide_eq_true zq5)
  replace q6 := eq_true q6
  have p14 : 0 ≤ (0 : Int) := (by omega)
  have q14 : 0 < a0.size := (by have : (0 : Int) < (a0.size : Int) := of_decide_eq_true zq5; omega)
  have hx14 : ∀ h : 0 < a0.size, ((a0[0]'h).toNat : Int) = bt a0 0 := bt_at a0 0
  clear p14
  have qi14 : (0 < (a0.size : Int)) = True := eq_true (of_decide_eq_true zq5)
  replace q14 := eq_true q14
  have p22 : 0 ≤ (0 : Int) := (by omega)
  have q22 : 0 < a0.size := (by have : (0 : Int) < (a0.size : Int) := of_decide_eq_true zq5; omega)
  have hx22 : ∀ h : 0 < a0.size, ((a0[0]'h).toNat : Int) = bt a0 0 := bt_at a0 0
  clear p22
  have qi22 : (0 < (a0.size : Int)) = True := eq_true (of_decide_eq_true zq5)
  replace q22 := eq_true q22
  have p37 : 0 ≤ (0 : Int) := (by omega)
  have q37 : 0 < a0.size := (by have : (0 : Int) < (a0.size : Int) := of_decide_eq_true zq5; omega)
  have hx37 : ∀ h : 0 < a0.size, ((a0[0]'h).toNat : Int) = bt a0 0 := bt_at a0 0
  clear p37
  have qi37 : (0 < (a0.size : Int)) = True := eq_true (of_decide_eq_true zq5)
  replace q37 := eq_true q37
  have p48 : 0 ≤ (0 : Int) := (by omega)
  have q48 : 0 < a0.size := (by have : (0 : Int) < (a0.size : Int) := of_decide_eq_true zq5; omega)
  have hx48 : ∀ h : 0 < a0.size, ((a0[0]'h).toNat : Int) = bt a0 0 := bt_at a0 0
  clear p48
  have qi48 : (0 < (a0.size : Int)) = True := eq_true (of_decide_eq_true zq5)
  replace q48 := eq_true q48
  have p59 : 0 ≤ (0 : Int) := (by omega)
  have q59 : 0 < a0.size := (by have : (0 : Int) < (a0.size : Int) := of_decide_eq_true zq5; omega)
  have hx59 : ∀ h : 0 < a0.size, ((a0[0]'h).toNat : Int) = bt a0 0 := bt_at a0 0
  clear p59
  have qi59 : (0 < (a0.size : Int)) = True := eq_true (of_decide_eq_true zq5)
  replace q59 := eq_true q59
  go_enter Tryd.func81, Tryd.ntmps81
  go_wp2_with (first | ((with_reducible refine gate_callee (f := 54) rfl ?_); refine goesL_ (some 116) rfl rfl Tryd.func54 zq28 rfl #[.string (⟨#[117, 110, 101, 120, 112, 101, 99, 116, 101, 100, 32, 118, 97, 108, 117, 101, 32, 102, 111, 117, 110, 100]⟩ : ByteArray)] rfl zq0 ?_; (with_reducible refine (errors_New.calls (⟨#[117, 110, 101, 120, 112, 101, 99, 116, 101, 100, 32, 118, 97, 108, 117, 101, 32, 102, 111, 117, 110, 100]⟩ : ByteArray) t130 _ A62.out).mono ?_); rintro e w63 ⟨z_t130, hz_t130, rfl, hb⟩; have Hz_t130 := mk0 hz_t130; clear hz_t130; refine ⟨_, rfl, ?_⟩; have n0_ := mk0 (below_step zq2 hb); clear HB; have HB := n0_; clear n0_ hb; (try simp only [errW_none, errW_some])))
  go_ret2
  exact ⟨z_t130, Hz_t130.out, by rfl, by repeat (first | (with_reducible first | exact HB.out | apply below_alloc | apply pw_below_drewN | apply below_drew1) | exact HB.out)⟩
 rw [if_neg c61] at H
 have c61b0 : decide ((a0.size : Int) < 4) = false := decide_eq_false c61
 have c61b1 : decide (a0.size < 4) = false := decide_eq_false (by omega)
 clear c61
 by_cases c64 : 0 ≤ 4
 rotate_left
 ·rw [if_neg c64] at H
  exact absurd H (by simp)
 rw [if_pos c64] at H
 have c64b0 := eq_true c64
 have c64b1 : decide (0 ≤ 4) = true := decide_eq_true c64
 clear c64
 by_cases c65 : 4 ≤ (a0.size : Int)
 rotate_left
 ·rw [if_neg c65] at H
  exact absurd H (by simp)
 rw [if_pos c65] at H
 have c65b0 := eq_true c65
 have c65b1 : decide (4 ≤ (a0.size : Int)) = true := decide_eq_true c65
 clear c65
 by_cases c66 : (a0.extract 0 4).toList = ([110, 117, 108, 108] : List UInt8)
 ·rw [if_pos c66] at H
  have c66b0 : ((a0.extract 0 4).toList == ([110, 117, 108, 108] : List UInt8)) = true := beq_iff_eq.mpr c66
  have c66b1 : ((a0.extract 0 4).toList != ([110, 117, 108, 108] : List UInt8)) = false := bne_eq_false_iff_eq.mpr c66
  clear c66
  have c67b0 := eq_true (of_decide_eq_true zq5 : 4 ≤ (a0.size : Int))
  simp only [Option.some.injEq, Prod.mk.injEq] at H
  obtain ⟨rfl, rfl⟩ := H
  have p6 : 0 ≤ (0 : Int) := (by omega)
  have q6 : 0 < a0.size := (by have : (0 : Int) < (a0.size : Int) := of_decide_eq_true zq5; omega)
  have hx6 : ∀ h : 0 < a0.size, ((a0[0]'h).toNat : Int) = bt a0 0 := bt_at a0 0
  clear p6
  have qi6 : (0 < (a0.size : Int)) = True := eq_true (of_decide_eq_true zq5)
  replace q6 := eq_true q6
  have p14 : 0 ≤ (0 : Int) := (by omega)
  have q14 : 0 < a0.size := (by have : (0 : Int) < (a0.size : Int) := of_decide_eq_true zq5; omega)
  have hx14 : ∀ h : 0 < a0.size, ((a0[0]'h).toNat : Int) = bt a0 0 := bt_at a0 0
  clear p14
  have qi14 : (0 < (a0.size : Int)) = True := eq_true (of_decide_eq_true zq5)
  replace q14 := eq_true q14
  have p22 : 0 ≤ (0 : Int) := (by omega)
  have q22 : 0 < a0.size := (by have : (0 : Int) < (a0.size : Int) := of_decide_eq_true zq5; omega)
  have hx22 : ∀ h : 0 < a0.size, ((a0[0]'h).toNat : Int) = bt a0 0 := bt_at a0 0
  clear p22
  have qi22 : (0 < (a0.size : Int)) = True := eq_true (of_decide_eq_true zq5)
  replace q22 := eq_true q22
  have p37 : 0 ≤ (0 : Int) := (by omega)
  have q37 : 0 < a0.size := (by have : (0 : Int) < (a0.size : Int) := of_decide_eq_true zq5; omega)
  have hx37 : ∀ h : 0 < a0.size, ((a0[0]'h).toNat : Int) = bt a0 0 := bt_at a0 0
  clear p37
  have qi37 : (0 < (a0.size : Int)) = True := eq_true (of_decide_eq_true zq5)
  replace q37 := eq_true q37
  have p48 : 0 ≤ (0 : Int) := (by omega)
  have q48 : 0 < a0.size := (by have : (0 : Int) < (a0.size : Int) := of_decide_eq_true zq5; omega)
  have hx48 : ∀ h : 0 < a0.size, ((a0[0]'h).toNat : Int) = bt a0 0 := bt_at a0 0
  clear p48
  have qi48 : (0 < (a0.size : Int)) = True := eq_true (of_decide_eq_true zq5)
  replace q48 := eq_true q48
  have p59 : 0 ≤ (0 : Int) := (by omega)
  have q59 : 0 < a0.size := (by have : (0 : Int) < (a0.size : Int) := of_decide_eq_true zq5; omega)
  have hx59 : ∀ h : 0 < a0.size, ((a0[0]'h).toNat : Int) = bt a0 0 := bt_at a0 0
  clear p59
  have qi59 : (0 < (a0.size : Int)) = True := eq_true (of_decide_eq_true zq5)
  replace q59 := eq_true q59
  go_enter Tryd.func81, Tryd.ntmps81
  go_wp2
  go_ret2
  exact ⟨none, Zk.nn, by rfl, by repeat (first | (with_reducible first | exact HB.out | apply below_alloc | apply pw_below_drewN | apply below_drew1) | exact HB.out)⟩
 rw [if_neg c66] at H
 have c66b0 : ((a0.extract 0 4).toList == ([110, 117, 108, 108] : List UInt8)) = false := beq_eq_false_iff_ne.mpr c66
 have c66b1 : ((a0.extract 0 4).toList != ([110, 117, 108, 108] : List UInt8)) = true := bne_iff_ne.mpr c66
 replace H := Option.bind_eq_some_iff.mp H
 obtain ⟨t131, A680, H⟩ := H
 (try dsimp only at H)
 have A68 := mk0 A680
 clear A680
 simp only [Option.some.injEq, Prod.mk.injEq] at H
 obtain ⟨rfl, rfl⟩ := H
 have p6 : 0 ≤ (0 : Int) := (by omega)
 have q6 : 0 < a0.size := (by have : (0 : Int) < (a0.size : Int) := of_decide_eq_true zq5; omega)
 have hx6 : ∀ h : 0 < a0.size, ((a0[0]'h).toNat : Int) = bt a0 0 := bt_at a0 0
 clear p6
 have qi6 : (0 < (a0.size : Int)) = True := eq_true (of_decide_eq_true zq5)
 replace q6 := eq_true q6
 have p14 : 0 ≤ (0 : Int) := (by omega)
 have q14 : 0 < a0.size := (by have : (0 : Int) < (a0.size : Int) := of_decide_eq_true zq5; omega)
 have hx14 : ∀ h : 0 < a0.size, ((a0[0]'h).toNat : Int) = bt a0 0 := bt_at a0 0
 clear p14
 have qi14 : (0 < (a0.size : Int)) = True := eq_true (of_decide_eq_true zq5)
 replace q14 := eq_true q14
 have p22 : 0 ≤ (0 : Int) := (by omega)
 have q22 : 0 < a0.size := (by have : (0 : Int) < (a0.size : Int) := of_decide_eq_true zq5; omega)
 have hx22 : ∀ h : 0 < a0.size, ((a0[0]'h).toNat : Int) = bt a0 0 := bt_at a0 0
 clear p22
 have qi22 : (0 < (a0.size : Int)) = True := eq_true (of_decide_eq_true zq5)
 replace q22 := eq_true q22
 have p37 : 0 ≤ (0 : Int) := (by omega)
 have q37 : 0 < a0.size := (by have : (0 : Int) < (a0.size : Int) := of_decide_eq_true zq5; omega)
 have hx37 : ∀ h : 0 < a0.size, ((a0[0]'h).toNat : Int) = bt a0 0 := bt_at a0 0
 clear p37
 have qi37 : (0 < (a0.size : Int)) = True := eq_true (of_decide_eq_true zq5)
 replace q37 := eq_true q37
 have p48 : 0 ≤ (0 : Int) := (by omega)
 have q48 : 0 < a0.size := (by have : (0 : Int) < (a0.size : Int) := of_decide_eq_true zq5; omega)
 have hx48 : ∀ h : 0 < a0.size, ((a0[0]'h).toNat : Int) = bt a0 0 := bt_at a0 0
 clear p48
 have qi48 : (0 < (a0.size : Int)) = True := eq_true (of_decide_eq_true zq5)
 replace q48 := eq_true q48
 have p59 : 0 ≤ (0 : Int) := (by omega)
 have q59 : 0 < a0.size := (by have : (0 : Int) < (a0.size : Int) := of_decide_eq_true zq5; omega)
 have hx59 : ∀ h : 0 < a0.size, ((a0[0]'h).toNat : Int) = bt a0 0 := bt_at a0 0
 clear p59
 have qi59 : (0 < (a0.size : Int)) = True := eq_true (of_decide_eq_true zq5)
 replace q59 := eq_true q59
 go_enter Tryd.func81, Tryd.ntmps81
 go_wp2_with (first | ((with_reducible refine gate_callee (f := 54) rfl ?_); refine goesL_ (some 116) rfl rfl Tryd.func54 zq28 rfl #[.string (⟨#[117, 110, 101, 120, 112, 101, 99, 116, 101, 100, 32, 118, 97, 108, 117, 101, 32, 102, 111, 117, 110, 100]⟩ : ByteArray)] rfl zq0 ?_; (with_reducible refine (errors_New.calls (⟨#[117, 110, 101, 120, 112, 101, 99, 116, 101, 100, 32, 118, 97, 108, 117, 101, 32, 102, 111, 117, 110, 100]⟩ : ByteArray) t131 _ A68.out).mono ?_); rintro e w69 ⟨z_t131, hz_t131, rfl, hb⟩; have Hz_t131 := mk0 hz_t131; clear hz_t131; refine ⟨_, rfl, ?_⟩; have n0_ := mk0 (below_step zq2 hb); clear HB; have HB := n0_; clear n0_ hb; (try simp only [errW_none, errW_some])))
 go_ret2
 exact ⟨z_t131, Hz_t131.out, by rfl, by repeat (first | (with_reducible first | exact HB.out | apply below_alloc | apply pw_below_drewN | apply below_drew1) | exact HB.out)⟩
end Go.Proofs.YtlokkefnbffjnaaDoor.J
end
