-- printed by a turned copy of the kit's print (wip/tools/patch_print.py)
import Derived.Test.YtegbajfmhkmolaaDoorRx0
import Derived.Test.YtegbajfmhkmolaaDoorRxf43
import Derived.Test.YtegbajfmhkmolaaDoorRxf44
namespace Go.Proofs.YtegbajfmhkmolaaDoor.R
open Go.RowKit Go.Proofs.YtegbajfmhkmolaaDoorW.PrintWords Go.Proofs.YtegbajfmhkmolaaDoorW.PrintLast Go.Proofs.YtegbajfmhkmolaaDoorW.PrintMore
attribute [local go_sem] max2_int min2_int max_two min_two max_three min_three max_four min_four   -- for this text's walks alone
set_option linter.unusedVariables false
set_option linter.unusedSimpArgs false

/-! ### spec_Places: function 24 -/
def spec_Places.f (k : Nat) (a0 : ByteArray) : Option (Int × Int × Int × (List (S107)) × (List (S43)) × Bool) :=
  (spec_reader_blanks.f k a0 0).bind fun b => ((spec_reader_value.f k b.1 b.2).bind fun v => (if v.2.2.2.2.2.1 = true then ((spec_reader_blanks.f k v.2.2.2.2.2.2.1 v.2.2.2.2.2.2.2).bind fun c => (if c.2 = (a0.size : Int) then (some (v.1, v.2.1, v.2.2.1, v.2.2.2.1, v.2.2.2.2.1, true)) else (some (0, 0, 0, [], [], false)))) else (some (0, 0, 0, [], [], false))))
theorem spec_Places.mono : ∀ a0 k, LeO (spec_Places.f k a0) (spec_Places.f (k + 1) a0) := fun a0 k => LeO.bind (spec_reader_blanks.mono _ _ k) (fun _ => LeO.bind (spec_reader_value.mono _ _ k) (fun _ => LeO.ite (LeO.bind (spec_reader_blanks.mono _ _ k) (fun _ => LeO.refl _)) (LeO.refl _)))
theorem Places_R_keep {α : Type} {d : Kd α} {e : Nat} {w w1 : World} {base : Nat} {ok : Nat → Prop} {v : Value} {xs : List α} (h : d.R e w base ok v xs) {g : Nat} (hk : KeepBut w w1 g none) (hg : g < base) : d.R e w1 base ok v xs :=
  Kd.R_mono (Kd.R_move (Kd.R_bound h) (fun k hk' => hk.2 k hk'.2.2.1 (by omega) (by simp))) (fun _ hk => hk.1)
theorem spec_Places.calls (k : Nat) (a0 : ByteArray) (r1 r2 r3 : Int) (r4 : List (S107)) (r5 : List (S43)) (r6 : Bool) (w : World) (h : spec_Places.f k a0 = some (r1, r2, r3, r4, r5, r6)) :
    Calls Tryd.prog 24 #[.string a0] w fun e w' => ∃ v3_ v4_ : Value, e = .returned (.tuple #[.agg #[.int .i64 r1, .int .i64 r2, .int .i64 r3, v3_, v4_], .bool r6]) ∧ Kd.R k107 107 w' w.heap.size (fun _ => True) v3_ r4 ∧ Kd.R k43 43 w' w.heap.size (fun k_ => some k_ ≠ (v3_ : Value).ownBlock) v4_ r5 ∧ Below w.heap.size w w' := by
  unfold spec_Places.f at h
  replace h := Option.bind_eq_some_iff.mp h
  obtain ⟨⟨s1, at1⟩, A1, h⟩ := h
  replace h := Option.bind_eq_some_iff.mp h
  obtain ⟨⟨t1, t2, t3, t4, t5, ok, s2, at2⟩, A2, h⟩ := h
  have B1 := Aside0.mk A1
  have B2 := Aside0.mk A2
  have HR := Aside0.mk h
  clear A1 A2 h
  go_enter Tryd.func24, Tryd.ntmps24
  go_wp2_with fail
  refine (spec_reader_blanks.calls k (w.heap.size + 1) a0 0 s1 at1 w _ ?i1 ?b1 B1.out).mono ?_
  case i1 =>
    have := IsS67.new w (w.alloc (.cells #[.int .i64 0, .int .i64 0, .int .i64 0, .slice none 0 0, .slice none 0 0] 43)) a0 0 (below_alloc (Below.refl _ _) _)
    simpa using this
  case b1 => exact below_alloc (below_alloc (Below.refl _ _) _) _
  rintro e w1 ⟨rfl, hI, hB, hK⟩
  have hZ : w1.heap[w.heap.size]? = some (.cells #[.int .i64 0, .int .i64 0, .int .i64 0, .slice none 0 0, .slice none 0 0] 43 (0, 0)) := KeepBut.blk hK (blk_alloc (blk_new w _) _) (by omega) (by simp)
  have HI := Aside0.mk hI
  have HB := Aside0.mk hB
  have HZ := Aside0.mk hZ
  clear hI hB hK hZ
  go_wp2_with fail
  refine (spec_reader_value.calls k (w.heap.size + 1) s1 at1 t1 t2 t3 t4 t5 ok s2 at2 w _ HI.out HB.out B2.out).mono ?_
  rintro e w2 ⟨v3, v4, rfl, hv3, hv4, hI, hB, hK⟩
  obtain ⟨i3, ho3⟩ := Kd.R_own hv3
  obtain ⟨A3, c3, e3⟩ := own_slice ho3
  subst e3
  obtain ⟨i4, ho4⟩ := Kd.R_own hv4
  obtain ⟨A4, c4, e4⟩ := own_slice ho4
  subst e4
  clear ho3 ho4
  have hl1 := below_size HB.out
  have hl : w.heap.size + 1 < w1.heap.size := HI.out.lt
  have hZ2 := KeepBut.blk hK HZ.out (by omega) (by simp)
  have HI2 := Aside0.mk hI
  have HB2 := Aside0.mk hB
  have HZ2 := Aside0.mk hZ2
  have HV3 := Aside0.mk hv3
  have HV4 := Aside0.mk hv4
  have HL := Aside0.mk hl
  have HL2 := Aside0.mk hK.1
  clear hI hB hK hZ2 hv3 hv4 hl hl1 HI HB HZ
  have HR1 := HR.out
  clear HR
  cases ok with
  | false =>
    rw [if_neg (by decide)] at HR1
    simp only [Option.some.injEq, Prod.mk.injEq] at HR1
    obtain ⟨rfl, rfl, rfl, rfl, rfl, rfl⟩ := HR1
    go_wp2_with (((with_reducible refine gate_store (t := 43) (p := 2) rfl ?_); refine box_store (g := w.heap.size) (new := #[.int .i64 0, .int .i64 0, .int .i64 0, .slice none 0 0, .slice none 0 0]) rfl rfl rfl rfl rfl (blk_alloc HZ2.out _) rfl (by kernel_rfl) (by simp [Value.oneCell']) ?_; intro w3 hz3 hk3 hb3; have HZ3 := Aside0.mk hz3; have HB3 := Aside0.mk (hb3 w.heap.size (Nat.le_refl _)); clear hz3 hk3 hb3))
    refine bodyPost_ret (results_ct rfl _ _ w.heap.size 43 #[.int .i64 0, .int .i64 0, .int .i64 0, .slice none 0 0, .slice none 0 0] (0, 0) _ rfl HZ3.out Tryd.underlying43 rfl (by kernel_rfl)) rfl ?_
    exact ⟨_, _, rfl, Kd.R_nil _ _ _ _ _, Kd.R_nil _ _ _ _ _, (below_alloc HB2.out _).trans HB3.out⟩
  | true =>
    rw [if_pos rfl] at HR1
    replace HR1 := Option.bind_eq_some_iff.mp HR1
    obtain ⟨⟨s3, at3⟩, A3, HR1⟩ := HR1
    have B3 := Aside0.mk A3
    have HR := Aside0.mk HR1
    clear A3 HR1
    go_wp2_with fail
    refine (spec_reader_blanks.calls k (w.heap.size + 1) s2 at2 s3 at3 w _ (IsS67.alloc HI2.out _) (below_alloc HB2.out _) B3.out).mono ?_
    rintro e w3 ⟨rfl, hI, hB, hK⟩
    have hL := HL.out
    have hL2 := HL2.out
    have HP3 := Aside0.mk (KeepBut.blk hK (blk_new w2 _) (by omega) (by simp))
    have HZ3 := Aside0.mk (KeepBut.blk hK (blk_alloc HZ2.out _) (by omega) (by simp))
    have HV3' := Aside0.mk (Places_R_keep (Kd.R_alloc HV3.out _) hK HL.out)
    have HV4' := Aside0.mk (Places_R_keep (Kd.R_alloc HV4.out _) hK HL.out)
    have hc1 := cellS67_1 hI.1
    have HB3 := Aside0.mk hB
    have HR1 := HR.out
    clear hI hB hK hL hL2 HR
    by_cases c : at3 = (a0.size : Int)
    · rw [if_pos c] at HR1
      have cb : (at3 != (a0.size : Int)) = false := bne_eq_false_iff_eq.mpr c
      clear c
      simp only [Option.some.injEq, Prod.mk.injEq] at HR1
      obtain ⟨rfl, rfl, rfl, rfl, rfl, rfl⟩ := HR1
      go_wp2_with (first | ((with_reducible refine gate_dst (N := 24) rfl ?_); refine wpList_load_row rfl 43 _ rfl w2.heap.size rfl 43 _ (0, 0) _ HP3.out Tryd.underlying43 rfl (by kernel_rfl) ?_) | ((with_reducible refine gate_store (t := 43) (p := 2) rfl ?_); refine box_store (g := w.heap.size) (new := #[.int .i64 t1, .int .i64 t2, .int .i64 t3, .slice A3 t4.length c3, .slice A4 t5.length c4]) rfl rfl rfl rfl rfl HZ3.out rfl (by kernel_rfl) (by simp [Value.oneCell']) ?_; intro w4 hz4 hk4 hb4; have HZ4 := Aside0.mk hz4; have HK4 := Aside0.mk hk4; have HB4 := Aside0.mk (hb4 w.heap.size (Nat.le_refl _)); clear hz4 hk4 hb4))
      refine bodyPost_ret (results_ct rfl _ _ w.heap.size 43 #[.int .i64 t1, .int .i64 t2, .int .i64 t3, .slice A3 t4.length c3, .slice A4 t5.length c4] (0, 0) _ rfl HZ4.out Tryd.underlying43 rfl (by kernel_rfl)) rfl ?_
      have hL := HL.out
      exact ⟨_, _, rfl, Kd.R_lower (Places_R_keep HV3'.out HK4.out (by omega)) (by omega), Kd.R_lower (Places_R_keep HV4'.out HK4.out (by omega)) (by omega), HB3.out.trans HB4.out⟩
    · rw [if_neg c] at HR1
      have cb : (at3 != (a0.size : Int)) = true := bne_iff_ne.mpr c
      clear c
      simp only [Option.some.injEq, Prod.mk.injEq] at HR1
      obtain ⟨rfl, rfl, rfl, rfl, rfl, rfl⟩ := HR1
      go_wp2_with (((with_reducible refine gate_store (t := 43) (p := 2) rfl ?_); refine box_store (g := w.heap.size) (new := #[.int .i64 0, .int .i64 0, .int .i64 0, .slice none 0 0, .slice none 0 0]) rfl rfl rfl rfl rfl HZ3.out rfl (by kernel_rfl) (by simp [Value.oneCell']) ?_; intro w4 hz4 hk4 hb4; have HZ4 := Aside0.mk hz4; have HB4 := Aside0.mk (hb4 w.heap.size (Nat.le_refl _)); clear hz4 hk4 hb4))
      refine bodyPost_ret (results_ct rfl _ _ w.heap.size 43 #[.int .i64 0, .int .i64 0, .int .i64 0, .slice none 0 0, .slice none 0 0] (0, 0) _ rfl HZ4.out Tryd.underlying43 rfl (by kernel_rfl)) rfl ?_
      exact ⟨_, _, rfl, Kd.R_nil _ _ _ _ _, Kd.R_nil _ _ _ _ _, HB3.out.trans HB4.out⟩

end Go.Proofs.YtegbajfmhkmolaaDoor.R
