/- The words, walks and laws that the proof rests on, laid together (part 4). -/
import Derived.Test.YtaigbkkgmncipaaDoorKFnGjUnescapeWhole3
section
namespace Go.Proofs.YtaigbkkgmncipaaDoor.G
open Go.RowKit Go.Proofs.YtaigbkkgmncipaaDoorW.PrintWords Go.Proofs.YtaigbkkgmncipaaDoorW.PrintLast Go.Proofs.YtaigbkkgmncipaaDoorW.PrintMore
attribute [local go_sem] max2_int min2_int max_two min_two max_three min_three max_four min_four
set_option linter.unusedVariables false
set_option linter.unusedSimpArgs false
set_option maxHeartbeats 8000000 in
set_option maxRecDepth 100000 in
theorem spec_reader_elements.step (k : Nat) (ih_29 : ∀ m, m < k → spec_reader_value.Stmt m) (ih_49 : ∀ m, m < k → spec_reader_members.Stmt m) (ih_50 : ∀ m, m < k → spec_reader_elements.Stmt m) : spec_reader_elements.Stmt k := by
 intro g s0_0 s0_1 r1 r2 r3 r4 w0 w hI hB h
 cases k with
 | zero => exact absurd h (by simp [spec_reader_elements.f])
 | succ k =>
 simp only [spec_reader_elements.f] at h
 have hu38 := Tryd.underlying38
 have HI0 := mk0 hI
 have HK := mk0 (KeepBut.refl w g none)
 have HL := mk0 hB.size
 clear hI
 have HW0 := mk0 hB.size
 have HB := mk0 hB
 clear hB
 have H : ((spec_reader_blanks.f k s0_0 (wrap64 (s0_1 + 1))).bind fun bt183 => ((spec_reader_take.f bt183.1 bt183.2 93).bind fun bt185 => (if bt185.1 = true then (some (([] : List (S38)), true, bt185.2.1, bt185.2.2)) else (spec_reader_elements.l0 k ([] : List (S38)) bt185.2.1 bt185.2.2)))) = some (r1, r2, r3, r4) := h
 clear h
 replace H := Option.bind_eq_some_iff.mp H
 obtain ⟨⟨t183, t184⟩, A20, H⟩ := H
 replace H : ((spec_reader_take.f t183 t184 93).bind fun bt185 => (if bt185.1 = true then (some (([] : List (S38)), true, bt185.2.1, bt185.2.2)) else (spec_reader_elements.l0 k ([] : List (S38)) bt185.2.1 bt185.2.2))) = some (r1, r2, r3, r4) := H
 have A2 := mk0 A20
 clear A20
 replace H := Option.bind_eq_some_iff.mp H
 obtain ⟨⟨t185, t186, t187⟩, A30, H⟩ := H
 replace H : (if t185 = true then (some (([] : List (S38)), true, t186, t187)) else (spec_reader_elements.l0 k ([] : List (S38)) t186 t187)) = some (r1, r2, r3, r4) := H
 have A3 := mk0 A30
 clear A30
 by_cases c4 : t185 = true
 ·subst c4
  have H1 : (some (([] : List (S38)), true, t186, t187)) = some (r1, r2, r3, r4) := by rw [if_pos rfl] at H; exact H
  clear H
  have H := H1
  clear H1
  simp only [Option.some.injEq, Prod.mk.injEq] at H
  obtain ⟨rfl, rfl, rfl, rfl⟩ := H
  obtain ⟨HGz5, hgz5⟩ := HI0.out
  have hcz5_0 := cellS56_0 HGz5
  have hcz5_1 := cellS56_1 HGz5
  have hfz5_0 := blk_frozen HGz5 0
  have hfz5_1 := blk_frozen HGz5 1
  clear HGz5 hgz5
  go_enter Tryd.func50, Tryd.ntmps50
  go_wp2_with (first | ((with_reducible refine gate_callee (f := 28) rfl ?_); refine goesL_ (some 15) rfl rfl Tryd.func28 zq21 rfl #[.pointer (some ⟨g, 0, none⟩)] rfl zq3 ?_; (with_reducible refine (spec_reader_blanks.calls k g s0_0 (wrap64 (s0_1 + 1)) t183 t184 w0 _ ?side1 ?side2 A2.out).mono ?_); (case side1 => exact zq0); (case side2 => exact zq2); rintro e w6 ⟨rfl, hi, hb, hk⟩; refine ⟨_, rfl, ?_⟩; have n0_ := mk0 (KeepBut.trans zq1 hk (.inl rfl)); have n1_ := mk0 (hb); have n2_ := mk0 (hi); clear HK HB HI0; have HK := n0_; have HB := n1_; have HI0 := n2_; clear n0_ n1_ n2_; (try clear hb); (try clear hb2); (try clear hk); (try clear hi)) | ((with_reducible refine gate_callee (f := 67) rfl ?_); refine goesL_ (some 17) rfl rfl Tryd.func67 zq21 rfl #[.pointer (some ⟨g, 0, none⟩), .int .u8 93] rfl zq3 ?_; (with_reducible refine (spec_reader_take.calls g t183 t184 93 true t186 t187 w0 _ ?side1 ?side2 A3.out).mono ?_); (case side1 => exact zq0); (case side2 => exact zq2); rintro e w7 ⟨rfl, hi, hb, hk⟩; refine ⟨_, rfl, ?_⟩; have n0_ := mk0 (KeepBut.trans zq1 hk (.inl rfl)); have n1_ := mk0 (hb); have n2_ := mk0 (hi); clear HK HB HI0; have HK := n0_; have HB := n1_; have HI0 := n2_; clear n0_ n1_ n2_; (try clear hb); (try clear hb2); (try clear hk); (try clear hi)))
  go_ret2
  exact ⟨_, by first | rfl | (simp [errW_none, errW_some] <;> rfl) | (simp [*, errW_none, errW_some] <;> rfl), by first | exact Kd.R_nil _ _ _ _ _ | exact Kd.N_nil _ _ _ _ _ | exact Kd.V_nil _ _ _ _ _ | exact Kd.Q_nil _ _ _ _ _ | exact Kd.S_nil _ _ _ _ _, by repeat (first | (with_reducible first | exact HI0.out | apply IsS56.alloc | apply IsS56.drewN | apply IsS56.drew | apply IsS56.set_0 | apply IsS56.set_1) | exact HI0.out), by repeat (first | (with_reducible first | exact HB.out | apply below_alloc | apply pw_below_drewN | apply below_drew1 | refine below_set ?_ (IsS56.ge HI0.out)) | exact HB.out), by repeat (first | (with_reducible first | exact HK.out | apply KeepBut.set_ | apply keep_drewN | apply keep_drew | apply keep_alloc) | exact HK.out)⟩
 replace c4 := Bool.eq_false_iff.mpr c4
 subst c4
 have H1 : (spec_reader_elements.l0 k ([] : List (S38)) t186 t187) = some (r1, r2, r3, r4) := by rw [if_neg (show ¬ (false = true) by decide)] at H; exact H
 clear H
 have H := H1
 clear H1
 have H' := mk0 H
 clear H
 obtain ⟨HGz8, hgz8⟩ := HI0.out
 have hcz8_0 := cellS56_0 HGz8
 have hcz8_1 := cellS56_1 HGz8
 have hfz8_0 := blk_frozen HGz8 0
 have hfz8_1 := blk_frozen HGz8 1
 clear HGz8 hgz8
 go_enter Tryd.func50, Tryd.ntmps50
 go_wp2_with (first | ((with_reducible refine gate_callee (f := 28) rfl ?_); refine goesL_ (some 15) rfl rfl Tryd.func28 zq21 rfl #[.pointer (some ⟨g, 0, none⟩)] rfl zq3 ?_; (with_reducible refine (spec_reader_blanks.calls k g s0_0 (wrap64 (s0_1 + 1)) t183 t184 w0 _ ?side1 ?side2 A2.out).mono ?_); (case side1 => exact zq0); (case side2 => exact zq2); rintro e w9 ⟨rfl, hi, hb, hk⟩; refine ⟨_, rfl, ?_⟩; have n0_ := mk0 (KeepBut.trans zq1 hk (.inl rfl)); have n1_ := mk0 (hb); have n2_ := mk0 (hi); clear HK HB HI0; have HK := n0_; have HB := n1_; have HI0 := n2_; clear n0_ n1_ n2_; (try clear hb); (try clear hb2); (try clear hk); (try clear hi)) | ((with_reducible refine gate_callee (f := 67) rfl ?_); refine goesL_ (some 17) rfl rfl Tryd.func67 zq21 rfl #[.pointer (some ⟨g, 0, none⟩), .int .u8 93] rfl zq3 ?_; (with_reducible refine (spec_reader_take.calls g t183 t184 93 false t186 t187 w0 _ ?side1 ?side2 A3.out).mono ?_); (case side1 => exact zq0); (case side2 => exact zq2); rintro e w10 ⟨rfl, hi, hb, hk⟩; refine ⟨_, rfl, ?_⟩; have n0_ := mk0 (KeepBut.trans zq1 hk (.inl rfl)); have n1_ := mk0 (hb); have n2_ := mk0 (hi); clear HK HB HI0; have HK := n0_; have HB := n1_; have HI0 := n2_; clear n0_ n1_ n2_; (try clear hb); (try clear hb2); (try clear hk); (try clear hi)))
 (try simp only [Act.put, List.setIfInBounds_toArray, List.set_cons_zero, List.set_cons_succ])
 go_loopg [4] k (fun kq v4 w' => ∃ (x4_1 : List (S38)) (x1000_1 : ByteArray) (x1001_1 : Int), Aside0 (spec_reader_elements.l0 kq x4_1 x1000_1 x1001_1 = some (r1, r2, r3, r4)) ∧ Aside0 (kq ≤ k) ∧ Aside0 (Kd.R k38 38 w' w.heap.size (fun _ => True) v4 x4_1) ∧ Aside0 (IsS56 w0 w' g x1000_1 x1001_1) ∧ Aside0 (KeepBut w w' g none) ∧ Aside0 (Below w0.heap.size w0 w'))
 case atStart => exact ⟨(([] : List (S38))), (t186), (t187), H', ⟨Nat.le_refl _⟩, ⟨by first | exact Kd.R_nil _ _ _ _ _ | exact Kd.N_nil _ _ _ _ _ | exact Kd.V_nil _ _ _ _ _ | exact Kd.Q_nil _ _ _ _ _ | exact Kd.S_nil _ _ _ _ _⟩, ⟨by repeat (first | (with_reducible first | exact HI0.out | apply IsS56.alloc | apply IsS56.drewN | apply IsS56.drew | apply IsS56.set_0 | apply IsS56.set_1) | exact HI0.out)⟩, ⟨by repeat (first | (with_reducible first | exact HK.out | apply KeepBut.set_ | apply keep_drewN | apply keep_drew | apply keep_alloc) | exact HK.out)⟩, ⟨by repeat (first | (with_reducible first | exact HB.out | apply below_alloc | apply pw_below_drewN | apply below_drew1 | refine below_set ?_ (IsS56.ge HI0.out)) | exact HB.out)⟩⟩
 case round =>
  clear H'
  try clear c2
  try clear p2
  try clear c4
  try clear c5
  try clear c6
  try clear p6
  try clear hcz5_0
  try clear hcz5_1
  try clear hcz8_0
  try clear hcz8_1
  try clear hfz5_0
  try clear hfz5_1
  try clear hfz8_0
  try clear hfz8_1
  obtain ⟨x4_1, x1000_1, x1001_1, HA, HK1, HO_4, HI0, HK, HB⟩ := hrel
  cases gk with
  | zero => exact absurd HA.out (by simp [spec_reader_elements.l0])
  | succ k1 =>
   have H := HA.out
   clear HA
   simp only [spec_reader_elements.l0] at H
   replace H := Option.bind_eq_some_iff.mp H
   obtain ⟨⟨t188, t189, t190, t191, t194, t197, t198, t199⟩, A110, H⟩ := H
   replace H : (if t197 = true then (if x4_1.length < 1954687338268 then ((some (x4_1 ++ [(⟨t188, t189, t190, t191, t194⟩ : S38)] : List (S38))).bind fun y201 => ((spec_reader_blanks.f k1 t198 t199).bind fun bt204 => ((spec_reader_take.f bt204.1 bt204.2 93).bind fun bt206 => (if bt206.1 = true then (some (y201, true, bt206.2.1, bt206.2.2)) else ((spec_reader_take.f bt206.2.1 bt206.2.2 44).bind fun bt209 => (if bt209.1 = true then ((spec_reader_blanks.f k1 bt209.2.1 bt209.2.2).bind fun bt212 => (spec_reader_elements.l0 k1 y201 bt212.1 bt212.2)) else (some (([] : List (S38)), false, bt209.2.1, bt209.2.2)))))))) else (none)) else (some (([] : List (S38)), false, t198, t199))) = some (r1, r2, r3, r4) := H
   have A11 := mk0 A110
   clear A110
   by_cases c12 : t197 = true
   rotate_left
   ·replace c12 := Bool.eq_false_iff.mpr c12
    subst c12
    have H1 : (some (([] : List (S38)), false, t198, t199)) = some (r1, r2, r3, r4) := by rw [if_neg (show ¬ (false = true) by decide)] at H; exact H
    clear H
    have H := H1
    clear H1
    simp only [Option.some.injEq, Prod.mk.injEq] at H
    obtain ⟨rfl, rfl, rfl, rfl⟩ := H
    go_wp2_with (first | ((with_reducible refine gate_callee (f := 29) rfl ?_); refine goesL_ (some 20) rfl rfl Tryd.func29 zq21 rfl #[.pointer (some ⟨g, 0, none⟩)] rfl zq3 ?_; (with_reducible refine (ih_29 k1 (by have := HK1.out; omega) g x1000_1 x1001_1 t188 t189 t190 t191 t194 false t198 t199 w0 _ ?side1 ?side2 A11.out).mono ?_); (case side1 => exact zq0); (case side2 => exact zq2); rintro e w56 ⟨v192, v195, rfl, ho0, ho1, hi, hb, hk⟩; refine ⟨_, rfl, ?_⟩; have n0_ := mk0 (Kd.R_mono (Kd.R_told (Kd.R_told (Kd.R_oldK (IsS56.apart (show IsS56 w0 _ g x1000_1 x1001_1 from zq0) zq29 zq40) hk) (Kd.R_base ho0)) (Kd.R_base ho1)) (fun _ h_ => h_.1)); have n1_ := mk0 (Kd.R_lower ho0 (keep_size (w := w) (g := g) (row := none) zq1)); have n2_ := mk0 (Kd.R_lower (Kd.R_new' ho1 (Kd.R_lt zq29)) (keep_size (w := w) (g := g) (row := none) zq1)); have n3_ := mk0 (KeepBut.trans zq1 hk (.inl rfl)); have n4_ := mk0 (hb); have n5_ := mk0 (hi); clear HO_4 HK HB HI0; have HO_4 := n0_; have HO193 := n1_; have HO196 := n2_; have HK := n3_; have HB := n4_; have HI0 := n5_; clear n0_ n1_ n2_ n3_ n4_ n5_; (try clear hb); (try clear hb2); (try clear hk); (try clear hi); (try clear ho0); (try clear ho1)) | ((with_reducible refine gate_dst (N := 5) rfl ?_); refine box_event ?hg (N := 5) ?hd (cs := #[.int .i64 0, .int .i64 0, .int .i64 0, .slice none 0 0, .slice none 0 0]) (t := 38) ?hr ?_; (case hd => rfl); (case hg => rfl); (case hr => exact zq34); intro gb200 hg w57 hbox hb; have n0_ := mk0 (Kd.R_below (Kd.R_elderB zq29 gb200 (Nat.le_of_eq hg.symm)) hb); have n1_ := mk0 (Kd.R_below zq48 hb); have n2_ := mk0 (Kd.R_below (Kd.R_elderB zq49 gb200 (Nat.le_of_eq hg.symm)) hb); have n3_ := mk0 (IsS56.below zq0 hb); have n4_ := mk0 (KeepBut.trans zq1 (KeepBut.of_below hb g none) (.inl rfl)); have n5_ := mk0 (below_step zq2 hb); have n6_ := mk0 (hbox); have n7_ := mk0 ((zq26 : w.heap.size ≤ gb200)); have n8_ := mk0 ((Nat.le_trans HW0.out (zq26 : w.heap.size ≤ gb200) : w0.heap.size ≤ gb200)); have n9_ := mk0 ((by rw [hg]; exact Nat.ne_of_lt (IsS56.lt (show IsS56 w0 _ g t198 t199 from zq0)) : g ≠ gb200)); have n10_ := mk0 ((by rw [hg]; exact Nat.ne_of_gt (IsS56.lt (show IsS56 w0 _ g t198 t199 from zq0)) : gb200 ≠ g)); clear HO_4 HO193 HO196 HI0 HK HB; have HO_4 := n0_; have HO193 := n1_; have HO196 := n2_; have HI0 := n3_; have HK := n4_; have HB := n5_; have BK200 := n6_; have GW200 := n7_; have GE200 := n8_; have NB0_200 := n9_; have NB200_0 := n10_; clear n0_ n1_ n2_ n3_ n4_ n5_ n6_ n7_ n8_ n9_ n10_; clear hb hbox hg; have hnb58 := NB200_0.out; have hnc58 := NB0_200.out; have hcz59_0 : w57.cell? ⟨gb200, 0, none⟩ = some (.int .i64 0) := (blk_cell BK200.out 0).trans rfl; have hcz59_1 : w57.cell? ⟨gb200, 1, none⟩ = some (.int .i64 0) := (blk_cell BK200.out 1).trans rfl; have hcz59_2 : w57.cell? ⟨gb200, 2, none⟩ = some (.int .i64 0) := (blk_cell BK200.out 2).trans rfl; have hcz59_3 : w57.cell? ⟨gb200, 3, none⟩ = some (.slice none 0 0) := (blk_cell BK200.out 3).trans rfl; have hcz59_4 : w57.cell? ⟨gb200, 4, none⟩ = some (.slice none 0 0) := (blk_cell BK200.out 4).trans rfl; have hfz59_0 := blk_frozen BK200.out 0; have hfz59_1 := blk_frozen BK200.out 1; have hfz59_2 := blk_frozen BK200.out 2; have hfz59_3 := blk_frozen BK200.out 3; have hfz59_4 := blk_frozen BK200.out 4; obtain ⟨Ao60, co60, eo60⟩ := Kd.R_slice HO193.out; subst eo60; obtain ⟨Ao61, co61, eo61⟩ := Kd.R_slice HO196.out; subst eo61))
    go_ret2
    exact ⟨_, by first | rfl | (simp [errW_none, errW_some] <;> rfl) | (simp [*, errW_none, errW_some] <;> rfl), by first | exact Kd.R_nil _ _ _ _ _ | exact Kd.N_nil _ _ _ _ _ | exact Kd.V_nil _ _ _ _ _ | exact Kd.Q_nil _ _ _ _ _ | exact Kd.S_nil _ _ _ _ _, by repeat (first | (with_reducible first | exact HI0.out | apply IsS56.alloc | apply IsS56.drewN | apply IsS56.drew | apply IsS56.set_0 | apply IsS56.set_1 | refine IsS56.far ?_ NB0_200.out _) | exact HI0.out), by repeat (first | (with_reducible first | exact HB.out | apply below_alloc | apply pw_below_drewN | apply below_drew1 | refine below_set ?_ (IsS56.ge HI0.out) | refine below_set ?_ GE200.out) | exact HB.out), by repeat (first | (with_reducible first | exact HK.out | apply KeepBut.set_ | apply keep_drewN | apply keep_drew | apply keep_alloc | refine keep_far ?_ GW200.out _) | exact HK.out)⟩
   subst c12
   have H1 : (if x4_1.length < 1954687338268 then ((some (x4_1 ++ [(⟨t188, t189, t190, t191, t194⟩ : S38)] : List (S38))).bind fun y201 => ((spec_reader_blanks.f k1 t198 t199).bind fun bt204 => ((spec_reader_take.f bt204.1 bt204.2 93).bind fun bt206 => (if bt206.1 = true then (some (y201, true, bt206.2.1, bt206.2.2)) else ((spec_reader_take.f bt206.2.1 bt206.2.2 44).bind fun bt209 => (if bt209.1 = true then ((spec_reader_blanks.f k1 bt209.2.1 bt209.2.2).bind fun bt212 => (spec_reader_elements.l0 k1 y201 bt212.1 bt212.2)) else (some (([] : List (S38)), false, bt209.2.1, bt209.2.2)))))))) else (none)) = some (r1, r2, r3, r4) := by rw [if_pos rfl] at H; exact H
   clear H
   have H := H1
   clear H1
   by_cases c13 : x4_1.length < 1954687338268
   rotate_left
   ·rw [if_neg c13] at H
    exact absurd H (by simp)
   rw [if_pos c13] at H
   have LMc13 := mk0 c13
   clear c13
   obtain ⟨y201, hy201⟩ : ∃ y_ : List (S38), y_ = (x4_1 ++ [(⟨t188, t189, t190, t191, t194⟩ : S38)]) := ⟨_, rfl⟩
   replace H : ((spec_reader_blanks.f k1 t198 t199).bind fun bt204 => ((spec_reader_take.f bt204.1 bt204.2 93).bind fun bt206 => (if bt206.1 = true then (some (y201, true, bt206.2.1, bt206.2.2)) else ((spec_reader_take.f bt206.2.1 bt206.2.2 44).bind fun bt209 => (if bt209.1 = true then ((spec_reader_blanks.f k1 bt209.2.1 bt209.2.2).bind fun bt212 => (spec_reader_elements.l0 k1 y201 bt212.1 bt212.2)) else (some (([] : List (S38)), false, bt209.2.1, bt209.2.2))))))) = some (r1, r2, r3, r4) := by first | (rw [hy201]; with_reducible exact H) | (have H2_ := (Option.bind_some _ _).symm.trans H; rw [hy201]; with_reducible exact H2_) | (have H2_ := (Option.bind_some _ _).symm.trans H; with_reducible exact H2_) | with_reducible exact H | (rw [hy201]; exact H) | exact H
   have Ny201 := mk0 hy201
   clear hy201
   replace H := Option.bind_eq_some_iff.mp H
   obtain ⟨⟨t204, t205⟩, A140, H⟩ := H
   replace H : ((spec_reader_take.f t204 t205 93).bind fun bt206 => (if bt206.1 = true then (some (y201, true, bt206.2.1, bt206.2.2)) else ((spec_reader_take.f bt206.2.1 bt206.2.2 44).bind fun bt209 => (if bt209.1 = true then ((spec_reader_blanks.f k1 bt209.2.1 bt209.2.2).bind fun bt212 => (spec_reader_elements.l0 k1 y201 bt212.1 bt212.2)) else (some (([] : List (S38)), false, bt209.2.1, bt209.2.2)))))) = some (r1, r2, r3, r4) := H
   have A14 := mk0 A140
   clear A140
   replace H := Option.bind_eq_some_iff.mp H
   obtain ⟨⟨t206, t207, t208⟩, A150, H⟩ := H
   replace H : (if t206 = true then (some (y201, true, t207, t208)) else ((spec_reader_take.f t207 t208 44).bind fun bt209 => (if bt209.1 = true then ((spec_reader_blanks.f k1 bt209.2.1 bt209.2.2).bind fun bt212 => (spec_reader_elements.l0 k1 y201 bt212.1 bt212.2)) else (some (([] : List (S38)), false, bt209.2.1, bt209.2.2))))) = some (r1, r2, r3, r4) := H
   have A15 := mk0 A150
   clear A150
   by_cases c16 : t206 = true
   ·subst c16
    have H1 : (some (y201, true, t207, t208)) = some (r1, r2, r3, r4) := by rw [if_pos rfl] at H; exact H
    clear H
    have H := H1
    clear H1
    simp only [Option.some.injEq, Prod.mk.injEq] at H
    obtain ⟨rfl, rfl, rfl, rfl⟩ := H
    go_wp2_with (first | ((with_reducible refine gate_callee (f := 29) rfl ?_); refine goesL_ (some 20) rfl rfl Tryd.func29 zq21 rfl #[.pointer (some ⟨g, 0, none⟩)] rfl zq3 ?_; (with_reducible refine (ih_29 k1 (by have := HK1.out; omega) g x1000_1 x1001_1 t188 t189 t190 t191 t194 true t198 t199 w0 _ ?side1 ?side2 A11.out).mono ?_); (case side1 => exact zq0); (case side2 => exact zq2); rintro e w17 ⟨v192, v195, rfl, ho0, ho1, hi, hb, hk⟩; refine ⟨_, rfl, ?_⟩; have n0_ := mk0 (Kd.R_mono (Kd.R_told (Kd.R_told (Kd.R_oldK (IsS56.apart (show IsS56 w0 _ g x1000_1 x1001_1 from zq0) zq29 zq40) hk) (Kd.R_base ho0)) (Kd.R_base ho1)) (fun _ h_ => h_.1)); have n1_ := mk0 (Kd.R_lower ho0 (keep_size (w := w) (g := g) (row := none) zq1)); have n2_ := mk0 (Kd.R_lower (Kd.R_new' ho1 (Kd.R_lt zq29)) (keep_size (w := w) (g := g) (row := none) zq1)); have n3_ := mk0 (KeepBut.trans zq1 hk (.inl rfl)); have n4_ := mk0 (hb); have n5_ := mk0 (hi); clear HO_4 HK HB HI0; have HO_4 := n0_; have HO193 := n1_; have HO196 := n2_; have HK := n3_; have HB := n4_; have HI0 := n5_; clear n0_ n1_ n2_ n3_ n4_ n5_; (try clear hb); (try clear hb2); (try clear hk); (try clear hi); (try clear ho0); (try clear ho1)) | ((with_reducible refine gate_dst (N := 5) rfl ?_); refine box_event ?hg (N := 5) ?hd (cs := #[.int .i64 0, .int .i64 0, .int .i64 0, .slice none 0 0, .slice none 0 0]) (t := 38) ?hr ?_; (case hd => rfl); (case hg => rfl); (case hr => exact zq34); intro gb200 hg w18 hbox hb; have n0_ := mk0 (Kd.R_below (Kd.R_elderB zq29 gb200 (Nat.le_of_eq hg.symm)) hb); have n1_ := mk0 (Kd.R_below zq48 hb); have n2_ := mk0 (Kd.R_below (Kd.R_elderB zq49 gb200 (Nat.le_of_eq hg.symm)) hb); have n3_ := mk0 (IsS56.below zq0 hb); have n4_ := mk0 (KeepBut.trans zq1 (KeepBut.of_below hb g none) (.inl rfl)); have n5_ := mk0 (below_step zq2 hb); have n6_ := mk0 (hbox); have n7_ := mk0 ((zq26 : w.heap.size ≤ gb200)); have n8_ := mk0 ((Nat.le_trans HW0.out (zq26 : w.heap.size ≤ gb200) : w0.heap.size ≤ gb200)); have n9_ := mk0 ((by rw [hg]; exact Nat.ne_of_lt (IsS56.lt (show IsS56 w0 _ g t198 t199 from zq0)) : g ≠ gb200)); have n10_ := mk0 ((by rw [hg]; exact Nat.ne_of_gt (IsS56.lt (show IsS56 w0 _ g t198 t199 from zq0)) : gb200 ≠ g)); clear HO_4 HO193 HO196 HI0 HK HB; have HO_4 := n0_; have HO193 := n1_; have HO196 := n2_; have HI0 := n3_; have HK := n4_; have HB := n5_; have BK200 := n6_; have GW200 := n7_; have GE200 := n8_; have NB0_200 := n9_; have NB200_0 := n10_; clear n0_ n1_ n2_ n3_ n4_ n5_ n6_ n7_ n8_ n9_ n10_; clear hb hbox hg; have hnb19 := NB200_0.out; have hnc19 := NB0_200.out; have hcz20_0 : w18.cell? ⟨gb200, 0, none⟩ = some (.int .i64 0) := (blk_cell BK200.out 0).trans rfl; have hcz20_1 : w18.cell? ⟨gb200, 1, none⟩ = some (.int .i64 0) := (blk_cell BK200.out 1).trans rfl; have hcz20_2 : w18.cell? ⟨gb200, 2, none⟩ = some (.int .i64 0) := (blk_cell BK200.out 2).trans rfl; have hcz20_3 : w18.cell? ⟨gb200, 3, none⟩ = some (.slice none 0 0) := (blk_cell BK200.out 3).trans rfl; have hcz20_4 : w18.cell? ⟨gb200, 4, none⟩ = some (.slice none 0 0) := (blk_cell BK200.out 4).trans rfl; have hfz20_0 := blk_frozen BK200.out 0; have hfz20_1 := blk_frozen BK200.out 1; have hfz20_2 := blk_frozen BK200.out 2; have hfz20_3 := blk_frozen BK200.out 3; have hfz20_4 := blk_frozen BK200.out 4; obtain ⟨Ao21, co21, eo21⟩ := Kd.R_slice HO193.out; subst eo21; obtain ⟨Ao22, co22, eo22⟩ := Kd.R_slice HO196.out; subst eo22) | ((with_reducible refine gate_store (t := 38) (p := 5) rfl ?_); refine store_event (t := 38) (p := 5) (v := ?vo_w23) (w1 := (((((w18.setCell ⟨gb200, 0, none⟩ (.int .i64 t188)).setCell ⟨gb200, 1, none⟩ (.int .i64 t189)).setCell ⟨gb200, 2, none⟩ (.int .i64 t190)).setCell ⟨gb200, 3, none⟩ (.slice Ao21 t191.length co21)).setCell ⟨gb200, 4, none⟩ (.slice Ao22 t194.length co22))) ?hg ?ho ?hn ?hr ?_; (case ho => rfl); (case hg => rfl); (case hn => rfl); (case hr => exact zq34); intro w23 hw; have n0_ : Aside0 (Kd.R k38 38 w23 w.heap.size (fun k_ => some k_ ≠ (.slice Ao21 t191.length co21 : Value).ownBlock ∧ some k_ ≠ (.slice Ao22 t194.length co22 : Value).ownBlock ∧ k_ ≠ gb200) u4 x4_1) := ⟨(by rw [hw]; exact (by (with_reducible repeat (first | apply Kd.R_alloc | apply Kd.R_drewN | apply Kd.R_drew)); exact Kd.R_mono (Kd.R_far (p := ⟨gb200, 4, none⟩) (Kd.R_far (p := ⟨gb200, 3, none⟩) (Kd.R_far (p := ⟨gb200, 2, none⟩) (Kd.R_far (p := ⟨gb200, 1, none⟩) (Kd.R_far (p := ⟨gb200, 0, none⟩) (Kd.R_mono HO_4.out (fun k_ hk => (⟨hk, hk.2⟩ : _ ∧ k_ ≠ gb200))) (fun _ hk => hk.2) (.int .i64 t188)) (fun _ hk => hk.2) (.int .i64 t189)) (fun _ hk => hk.2) (.int .i64 t190)) (fun _ hk => hk.2) (.slice Ao21 t191.length co21)) (fun _ hk => hk.2) (.slice Ao22 t194.length co22)) (fun _ hk => ⟨hk.1.1.1.2, ⟨hk.1.1.2, hk.1.2⟩⟩)))⟩; have n1_ : Aside0 (Kd.R k104 104 w23 w.heap.size (fun _ => True) (.slice Ao21 t191.length co21) t191) := ⟨(by rw [hw]; exact (by (with_reducible repeat (first | apply Kd.R_alloc | apply Kd.R_drewN | apply Kd.R_drew)); exact Kd.R_mono (Kd.R_far (p := ⟨gb200, 4, none⟩) (Kd.R_far (p := ⟨gb200, 3, none⟩) (Kd.R_far (p := ⟨gb200, 2, none⟩) (Kd.R_far (p := ⟨gb200, 1, none⟩) (Kd.R_far (p := ⟨gb200, 0, none⟩) (Kd.R_types HO193.out BK200.out zq40) (fun _ hk => hk.2) (.int .i64 t188)) (fun _ hk => hk.2) (.int .i64 t189)) (fun _ hk => hk.2) (.int .i64 t190)) (fun _ hk => hk.2) (.slice Ao21 t191.length co21)) (fun _ hk => hk.2) (.slice Ao22 t194.length co22)) (fun _ hk => trivial)))⟩; have n2_ : Aside0 (Kd.R k38 38 w23 w.heap.size (fun k_ => some k_ ≠ (u4 : Value).ownBlock ∧ some k_ ≠ (.slice Ao21 t191.length co21 : Value).ownBlock ∧ k_ ≠ gb200) (.slice Ao22 t194.length co22) t194) := ⟨(by rw [hw]; exact (by (with_reducible repeat (first | apply Kd.R_alloc | apply Kd.R_drewN | apply Kd.R_drew)); exact Kd.R_mono (Kd.R_far (p := ⟨gb200, 4, none⟩) (Kd.R_far (p := ⟨gb200, 3, none⟩) (Kd.R_far (p := ⟨gb200, 2, none⟩) (Kd.R_far (p := ⟨gb200, 1, none⟩) (Kd.R_far (p := ⟨gb200, 0, none⟩) (Kd.R_mono HO196.out (fun k_ hk => (⟨hk, hk.2⟩ : _ ∧ k_ ≠ gb200))) (fun _ hk => hk.2) (.int .i64 t188)) (fun _ hk => hk.2) (.int .i64 t189)) (fun _ hk => hk.2) (.int .i64 t190)) (fun _ hk => hk.2) (.slice Ao21 t191.length co21)) (fun _ hk => hk.2) (.slice Ao22 t194.length co22)) (fun _ hk => ⟨hk.1.1.2, ⟨hk.1.1.1, hk.1.2⟩⟩)))⟩; have n3_ : Aside0 (w23.heap[gb200]? = some (.cells #[.int .i64 t188, .int .i64 t189, .int .i64 t190, .slice Ao21 t191.length co21, .slice Ao22 t194.length co22] 38 (0, 0))) := ⟨(by rw [hw]; exact (by (with_reducible repeat (first | refine blk_drewN ?_ _ | refine blk_drew ?_ | refine blk_alloc ?_ _)); refine blk_put (cs := #[.int .i64 t188, .int .i64 t189, .int .i64 t190, .slice Ao21 t191.length co21, .slice none 0 0]) ?_ 4 _ rfl; (with_reducible repeat (first | refine blk_drewN ?_ _ | refine blk_drew ?_ | refine blk_alloc ?_ _)); refine blk_put (cs := #[.int .i64 t188, .int .i64 t189, .int .i64 t190, .slice none 0 0, .slice none 0 0]) ?_ 3 _ rfl; (with_reducible repeat (first | refine blk_drewN ?_ _ | refine blk_drew ?_ | refine blk_alloc ?_ _)); refine blk_put (cs := #[.int .i64 t188, .int .i64 t189, .int .i64 0, .slice none 0 0, .slice none 0 0]) ?_ 2 _ rfl; (with_reducible repeat (first | refine blk_drewN ?_ _ | refine blk_drew ?_ | refine blk_alloc ?_ _)); refine blk_put (cs := #[.int .i64 t188, .int .i64 0, .int .i64 0, .slice none 0 0, .slice none 0 0]) ?_ 1 _ rfl; (with_reducible repeat (first | refine blk_drewN ?_ _ | refine blk_drew ?_ | refine blk_alloc ?_ _)); refine blk_put (cs := #[.int .i64 0, .int .i64 0, .int .i64 0, .slice none 0 0, .slice none 0 0]) ?_ 0 _ rfl; (with_reducible repeat (first | refine blk_drewN ?_ _ | refine blk_drew ?_ | refine blk_alloc ?_ _)); exact BK200.out))⟩; have n4_ : Aside0 (IsS56 w0 w23 g t198 t199) := ⟨(by rw [hw]; exact zq5)⟩; have n5_ : Aside0 (KeepBut w w23 g none) := ⟨(by rw [hw]; exact zq13)⟩; have n6_ : Aside0 (Below w0.heap.size w0 w23) := ⟨(by rw [hw]; exact zq16)⟩; clear hw HO_4 HO193 HO196 BK200 HI0 HK HB; have HO_4 := n0_; have HO193 := n1_; have HO196 := n2_; have BK200 := n3_; have HI0 := n4_; have HK := n5_; have HB := n6_; clear n0_ n1_ n2_ n3_ n4_ n5_ n6_; have hcz24_0 : w23.cell? ⟨gb200, 0, none⟩ = some (.int .i64 t188) := (blk_cell BK200.out 0).trans rfl; have hcz24_1 : w23.cell? ⟨gb200, 1, none⟩ = some (.int .i64 t189) := (blk_cell BK200.out 1).trans rfl; have hcz24_2 : w23.cell? ⟨gb200, 2, none⟩ = some (.int .i64 t190) := (blk_cell BK200.out 2).trans rfl; have hcz24_3 : w23.cell? ⟨gb200, 3, none⟩ = some (.slice Ao21 t191.length co21) := (blk_cell BK200.out 3).trans rfl; have hcz24_4 : w23.cell? ⟨gb200, 4, none⟩ = some (.slice Ao22 t194.length co22) := (blk_cell BK200.out 4).trans rfl; have hfz24_0 := blk_frozen BK200.out 0; have hfz24_1 := blk_frozen BK200.out 1; have hfz24_2 := blk_frozen BK200.out 2; have hfz24_3 := blk_frozen BK200.out 3; have hfz24_4 := blk_frozen BK200.out 4) | ((with_reducible refine gate_builtin (b := .append) (xs := #[.tmp 25, .tmp 27]) rfl ?_); at_builtin; refine Kd.R_append k38 w.heap.size rfl (.tmp 25) (.tmp 27) 36 38 (.agg #[(.int .i64 0), (.int .i64 0), (.int .i64 0), (.slice none 0 0), (.slice none 0 0)]) 72 rfl Tryd.underlying36 info38 rfl zq40 (by omega) u4 x4_1 (⟨t188, t189, t190, t191, t194⟩ : S38) [.int .i64 t188, .int .i64 t189, .int .i64 t190, .slice Ao21 t191.length co21, .slice Ao22 t194.length co22] (fun k_ => k_ ≠ gb200) (fun k_ => ((fun k_ => k_ ≠ gb200)) k_ ∧ some k_ ≠ (u4 : Value).ownBlock) rfl rfl ?aP (fun _ hk => hk) ?aF ?aO (Below.refl _ _) ?aS ?aL ?_; (case aP => exact k38_mkM _ _ _ (⟨t188, t189, t190, t191, t194⟩ : S38) (Kd.R_mono (Kd.R_types (Kd.R_apart' (HO193.out) (Kd.R_typed HO_4.out) zq40) BK200.out zq40) (fun k_ hk => ⟨hk.2, hk.1.2⟩)) (Kd.R_mono (HO196.out) (fun k_ hk => ⟨hk.2.2, hk.1⟩))); (case aF => exact (fun k_ hk => Kd.freshB (g := gb200) (o := .cells #[.int .i64 t188, .int .i64 t189, .int .i64 t190, .slice Ao21 t191.length co21, .slice Ao22 t194.length co22] 38 (0, 0)) zq24 k_ hk)); (case aO => exact zq52); (case aS => exact (keep_size (w := w) (g := g) (row := none) zq13)); (case aL => have := LMc13.out; omega); intro v202 w25 ho hb hg hat; rw [← Ny201.out] at ho; have n0_ := mk0 (IsS56.grown zq5 hg (IsS56.own_ne HI0.out HO_4.out zq40)); have n1_ := mk0 (blk_grown (g := gb200) (o := .cells #[.int .i64 t188, .int .i64 t189, .int .i64 t190, .slice Ao21 t191.length co21, .slice Ao22 t194.length co22] 38 (0, 0)) zq24 hg (Kd.R_away HO_4.out (fun _ hk => hk.2.2))); have n2_ := mk0 (below_weaken zq16 HL.out hb); have n3_ := mk0 (KeepBut.trans zq13 (KeepBut.of_grown hg g) (Kd.R_base2 HO_4.out)); have n4_ := mk0 (ho); clear HI0 BK200 HB HK HO_4 HO193 HO196; have HI0 := n0_; have BK200 := n1_; have HB := n2_; have HK := n3_; have HO203 := n4_; clear n0_ n1_ n2_ n3_ n4_; clear ho hb hg hat) | ((with_reducible refine gate_callee (f := 28) rfl ?_); refine goesL_ (some 30) rfl rfl Tryd.func28 zq21 rfl #[.pointer (some ⟨g, 0, none⟩)] rfl zq3 ?_; (with_reducible refine (spec_reader_blanks.calls k1 g t198 t199 t204 t205 w0 _ ?side1 ?side2 A14.out).mono ?_); (case side1 => exact zq5); (case side2 => exact zq16); rintro e w26 ⟨rfl, hi, hb, hk⟩; refine ⟨_, rfl, ?_⟩; have n0_ := mk0 (KeepBut.blk hk (g' := gb200) (o := .cells #[.int .i64 t188, .int .i64 t189, .int .i64 t190, .slice Ao21 t191.length co21, .slice Ao22 t194.length co22] 38 (0, 0)) zq24 NB200_0.out (by simp)); have n1_ := mk0 (Kd.R_mono (Kd.R_keep (IsS56.apart (show IsS56 w0 _ g t198 t199 from zq5) zq33 zq40) hk (fun _ h => h.2)) (fun _ h => h.1)); have n2_ := mk0 (KeepBut.trans zq13 hk (.inl rfl)); have n3_ := mk0 (hb); have n4_ := mk0 (hi); clear BK200 HO203 HK HB HI0; have BK200 := n0_; have HO203 := n1_; have HK := n2_; have HB := n3_; have HI0 := n4_; clear n0_ n1_ n2_ n3_ n4_; (try clear hb); (try clear hb2); (try clear hk); (try clear hi)) | ((with_reducible refine gate_callee (f := 67) rfl ?_); refine goesL_ (some 32) rfl rfl Tryd.func67 zq21 rfl #[.pointer (some ⟨g, 0, none⟩), .int .u8 93] rfl zq3 ?_; (with_reducible refine (spec_reader_take.calls g t204 t205 93 true t207 t208 w0 _ ?side1 ?side2 A15.out).mono ?_); (case side1 => exact zq5); (case side2 => exact zq16); rintro e w27 ⟨rfl, hi, hb, hk⟩; refine ⟨_, rfl, ?_⟩; have n0_ := mk0 (KeepBut.blk hk (g' := gb200) (o := .cells #[.int .i64 t188, .int .i64 t189, .int .i64 t190, .slice Ao21 t191.length co21, .slice Ao22 t194.length co22] 38 (0, 0)) zq24 NB200_0.out (by simp)); have n1_ := mk0 (Kd.R_mono (Kd.R_keep (IsS56.apart (show IsS56 w0 _ g t204 t205 from zq5) zq33 zq40) hk (fun _ h => h.2)) (fun _ h => h.1)); have n2_ := mk0 (KeepBut.trans zq13 hk (.inl rfl)); have n3_ := mk0 (hb); have n4_ := mk0 (hi); clear BK200 HO203 HK HB HI0; have BK200 := n0_; have HO203 := n1_; have HK := n2_; have HB := n3_; have HI0 := n4_; clear n0_ n1_ n2_ n3_ n4_; (try clear hb); (try clear hb2); (try clear hk); (try clear hi)))
    go_ret2
    exact ⟨_, by first | rfl | (simp [errW_none, errW_some] <;> rfl) | (simp [*, errW_none, errW_some] <;> rfl), by (with_reducible repeat (first | apply Kd.R_alloc | apply Kd.R_drewN | apply Kd.R_drew)); exact Kd.R_mono HO203.out (fun _ hk => trivial), by repeat (first | (with_reducible first | exact HI0.out | apply IsS56.alloc | apply IsS56.drewN | apply IsS56.drew | apply IsS56.set_0 | apply IsS56.set_1 | refine IsS56.far ?_ NB0_200.out _) | exact HI0.out), by repeat (first | (with_reducible first | exact HB.out | apply below_alloc | apply pw_below_drewN | apply below_drew1 | refine below_set ?_ (IsS56.ge HI0.out) | refine below_set ?_ GE200.out) | exact HB.out), by repeat (first | (with_reducible first | exact HK.out | apply KeepBut.set_ | apply keep_drewN | apply keep_drew | apply keep_alloc | refine keep_far ?_ GW200.out _) | exact HK.out)⟩
   replace c16 := Bool.eq_false_iff.mpr c16
   subst c16
   have H1 : ((spec_reader_take.f t207 t208 44).bind fun bt209 => (if bt209.1 = true then ((spec_reader_blanks.f k1 bt209.2.1 bt209.2.2).bind fun bt212 => (spec_reader_elements.l0 k1 y201 bt212.1 bt212.2)) else (some (([] : List (S38)), false, bt209.2.1, bt209.2.2)))) = some (r1, r2, r3, r4) := by rw [if_neg (show ¬ (false = true) by decide)] at H; exact H
   clear H
   have H := H1
   clear H1
   replace H := Option.bind_eq_some_iff.mp H
   obtain ⟨⟨t209, t210, t211⟩, A280, H⟩ := H
   replace H : (if t209 = true then ((spec_reader_blanks.f k1 t210 t211).bind fun bt212 => (spec_reader_elements.l0 k1 y201 bt212.1 bt212.2)) else (some (([] : List (S38)), false, t210, t211))) = some (r1, r2, r3, r4) := H
   have A28 := mk0 A280
   clear A280
   by_cases c29 : t209 = true
   rotate_left
   ·replace c29 := Bool.eq_false_iff.mpr c29
    subst c29
    have H1 : (some (([] : List (S38)), false, t210, t211)) = some (r1, r2, r3, r4) := by rw [if_neg (show ¬ (false = true) by decide)] at H; exact H
    clear H
    have H := H1
    clear H1
    simp only [Option.some.injEq, Prod.mk.injEq] at H
    obtain ⟨rfl, rfl, rfl, rfl⟩ := H
    go_wp2_with (first | ((with_reducible refine gate_callee (f := 29) rfl ?_); refine goesL_ (some 20) rfl rfl Tryd.func29 zq21 rfl #[.pointer (some ⟨g, 0, none⟩)] rfl zq3 ?_; (with_reducible refine (ih_29 k1 (by have := HK1.out; omega) g x1000_1 x1001_1 t188 t189 t190 t191 t194 true t198 t199 w0 _ ?side1 ?side2 A11.out).mono ?_); (case side1 => exact zq0); (case side2 => exact zq2); rintro e w44 ⟨v192, v195, rfl, ho0, ho1, hi, hb, hk⟩; refine ⟨_, rfl, ?_⟩; have n0_ := mk0 (Kd.R_mono (Kd.R_told (Kd.R_told (Kd.R_oldK (IsS56.apart (show IsS56 w0 _ g x1000_1 x1001_1 from zq0) zq29 zq40) hk) (Kd.R_base ho0)) (Kd.R_base ho1)) (fun _ h_ => h_.1)); have n1_ := mk0 (Kd.R_lower ho0 (keep_size (w := w) (g := g) (row := none) zq1)); have n2_ := mk0 (Kd.R_lower (Kd.R_new' ho1 (Kd.R_lt zq29)) (keep_size (w := w) (g := g) (row := none) zq1)); have n3_ := mk0 (KeepBut.trans zq1 hk (.inl rfl)); have n4_ := mk0 (hb); have n5_ := mk0 (hi); clear HO_4 HK HB HI0; have HO_4 := n0_; have HO193 := n1_; have HO196 := n2_; have HK := n3_; have HB := n4_; have HI0 := n5_; clear n0_ n1_ n2_ n3_ n4_ n5_; (try clear hb); (try clear hb2); (try clear hk); (try clear hi); (try clear ho0); (try clear ho1)) | ((with_reducible refine gate_dst (N := 5) rfl ?_); refine box_event ?hg (N := 5) ?hd (cs := #[.int .i64 0, .int .i64 0, .int .i64 0, .slice none 0 0, .slice none 0 0]) (t := 38) ?hr ?_; (case hd => rfl); (case hg => rfl); (case hr => exact zq34); intro gb200 hg w45 hbox hb; have n0_ := mk0 (Kd.R_below (Kd.R_elderB zq29 gb200 (Nat.le_of_eq hg.symm)) hb); have n1_ := mk0 (Kd.R_below zq48 hb); have n2_ := mk0 (Kd.R_below (Kd.R_elderB zq49 gb200 (Nat.le_of_eq hg.symm)) hb); have n3_ := mk0 (IsS56.below zq0 hb); have n4_ := mk0 (KeepBut.trans zq1 (KeepBut.of_below hb g none) (.inl rfl)); have n5_ := mk0 (below_step zq2 hb); have n6_ := mk0 (hbox); have n7_ := mk0 ((zq26 : w.heap.size ≤ gb200)); have n8_ := mk0 ((Nat.le_trans HW0.out (zq26 : w.heap.size ≤ gb200) : w0.heap.size ≤ gb200)); have n9_ := mk0 ((by rw [hg]; exact Nat.ne_of_lt (IsS56.lt (show IsS56 w0 _ g t198 t199 from zq0)) : g ≠ gb200)); have n10_ := mk0 ((by rw [hg]; exact Nat.ne_of_gt (IsS56.lt (show IsS56 w0 _ g t198 t199 from zq0)) : gb200 ≠ g)); clear HO_4 HO193 HO196 HI0 HK HB; have HO_4 := n0_; have HO193 := n1_; have HO196 := n2_; have HI0 := n3_; have HK := n4_; have HB := n5_; have BK200 := n6_; have GW200 := n7_; have GE200 := n8_; have NB0_200 := n9_; have NB200_0 := n10_; clear n0_ n1_ n2_ n3_ n4_ n5_ n6_ n7_ n8_ n9_ n10_; clear hb hbox hg; have hnb46 := NB200_0.out; have hnc46 := NB0_200.out; have hcz47_0 : w45.cell? ⟨gb200, 0, none⟩ = some (.int .i64 0) := (blk_cell BK200.out 0).trans rfl; have hcz47_1 : w45.cell? ⟨gb200, 1, none⟩ = some (.int .i64 0) := (blk_cell BK200.out 1).trans rfl; have hcz47_2 : w45.cell? ⟨gb200, 2, none⟩ = some (.int .i64 0) := (blk_cell BK200.out 2).trans rfl; have hcz47_3 : w45.cell? ⟨gb200, 3, none⟩ = some (.slice none 0 0) := (blk_cell BK200.out 3).trans rfl; have hcz47_4 : w45.cell? ⟨gb200, 4, none⟩ = some (.slice none 0 0) := (blk_cell BK200.out 4).trans rfl; have hfz47_0 := blk_frozen BK200.out 0; have hfz47_1 := blk_frozen BK200.out 1; have hfz47_2 := blk_frozen BK200.out 2; have hfz47_3 := blk_frozen BK200.out 3; have hfz47_4 := blk_frozen BK200.out 4; obtain ⟨Ao48, co48, eo48⟩ := Kd.R_slice HO193.out; subst eo48; obtain ⟨Ao49, co49, eo49⟩ := Kd.R_slice HO196.out; subst eo49) | ((with_reducible refine gate_store (t := 38) (p := 5) rfl ?_); refine store_event (t := 38) (p := 5) (v := ?vo_w50) (w1 := (((((w45.setCell ⟨gb200, 0, none⟩ (.int .i64 t188)).setCell ⟨gb200, 1, none⟩ (.int .i64 t189)).setCell ⟨gb200, 2, none⟩ (.int .i64 t190)).setCell ⟨gb200, 3, none⟩ (.slice Ao48 t191.length co48)).setCell ⟨gb200, 4, none⟩ (.slice Ao49 t194.length co49))) ?hg ?ho ?hn ?hr ?_; (case ho => rfl); (case hg => rfl); (case hn => rfl); (case hr => exact zq34); intro w50 hw; have n0_ : Aside0 (Kd.R k38 38 w50 w.heap.size (fun k_ => some k_ ≠ (.slice Ao48 t191.length co48 : Value).ownBlock ∧ some k_ ≠ (.slice Ao49 t194.length co49 : Value).ownBlock ∧ k_ ≠ gb200) u4 x4_1) := ⟨(by rw [hw]; exact (by (with_reducible repeat (first | apply Kd.R_alloc | apply Kd.R_drewN | apply Kd.R_drew)); exact Kd.R_mono (Kd.R_far (p := ⟨gb200, 4, none⟩) (Kd.R_far (p := ⟨gb200, 3, none⟩) (Kd.R_far (p := ⟨gb200, 2, none⟩) (Kd.R_far (p := ⟨gb200, 1, none⟩) (Kd.R_far (p := ⟨gb200, 0, none⟩) (Kd.R_mono HO_4.out (fun k_ hk => (⟨hk, hk.2⟩ : _ ∧ k_ ≠ gb200))) (fun _ hk => hk.2) (.int .i64 t188)) (fun _ hk => hk.2) (.int .i64 t189)) (fun _ hk => hk.2) (.int .i64 t190)) (fun _ hk => hk.2) (.slice Ao48 t191.length co48)) (fun _ hk => hk.2) (.slice Ao49 t194.length co49)) (fun _ hk => ⟨hk.1.1.1.2, ⟨hk.1.1.2, hk.1.2⟩⟩)))⟩; have n1_ : Aside0 (Kd.R k104 104 w50 w.heap.size (fun _ => True) (.slice Ao48 t191.length co48) t191) := ⟨(by rw [hw]; exact (by (with_reducible repeat (first | apply Kd.R_alloc | apply Kd.R_drewN | apply Kd.R_drew)); exact Kd.R_mono (Kd.R_far (p := ⟨gb200, 4, none⟩) (Kd.R_far (p := ⟨gb200, 3, none⟩) (Kd.R_far (p := ⟨gb200, 2, none⟩) (Kd.R_far (p := ⟨gb200, 1, none⟩) (Kd.R_far (p := ⟨gb200, 0, none⟩) (Kd.R_types HO193.out BK200.out zq40) (fun _ hk => hk.2) (.int .i64 t188)) (fun _ hk => hk.2) (.int .i64 t189)) (fun _ hk => hk.2) (.int .i64 t190)) (fun _ hk => hk.2) (.slice Ao48 t191.length co48)) (fun _ hk => hk.2) (.slice Ao49 t194.length co49)) (fun _ hk => trivial)))⟩; have n2_ : Aside0 (Kd.R k38 38 w50 w.heap.size (fun k_ => some k_ ≠ (u4 : Value).ownBlock ∧ some k_ ≠ (.slice Ao48 t191.length co48 : Value).ownBlock ∧ k_ ≠ gb200) (.slice Ao49 t194.length co49) t194) := ⟨(by rw [hw]; exact (by (with_reducible repeat (first | apply Kd.R_alloc | apply Kd.R_drewN | apply Kd.R_drew)); exact Kd.R_mono (Kd.R_far (p := ⟨gb200, 4, none⟩) (Kd.R_far (p := ⟨gb200, 3, none⟩) (Kd.R_far (p := ⟨gb200, 2, none⟩) (Kd.R_far (p := ⟨gb200, 1, none⟩) (Kd.R_far (p := ⟨gb200, 0, none⟩) (Kd.R_mono HO196.out (fun k_ hk => (⟨hk, hk.2⟩ : _ ∧ k_ ≠ gb200))) (fun _ hk => hk.2) (.int .i64 t188)) (fun _ hk => hk.2) (.int .i64 t189)) (fun _ hk => hk.2) (.int .i64 t190)) (fun _ hk => hk.2) (.slice Ao48 t191.length co48)) (fun _ hk => hk.2) (.slice Ao49 t194.length co49)) (fun _ hk => ⟨hk.1.1.2, ⟨hk.1.1.1, hk.1.2⟩⟩)))⟩; have n3_ : Aside0 (w50.heap[gb200]? = some (.cells #[.int .i64 t188, .int .i64 t189, .int .i64 t190, .slice Ao48 t191.length co48, .slice Ao49 t194.length co49] 38 (0, 0))) := ⟨(by rw [hw]; exact (by (with_reducible repeat (first | refine blk_drewN ?_ _ | refine blk_drew ?_ | refine blk_alloc ?_ _)); refine blk_put (cs := #[.int .i64 t188, .int .i64 t189, .int .i64 t190, .slice Ao48 t191.length co48, .slice none 0 0]) ?_ 4 _ rfl; (with_reducible repeat (first | refine blk_drewN ?_ _ | refine blk_drew ?_ | refine blk_alloc ?_ _)); refine blk_put (cs := #[.int .i64 t188, .int .i64 t189, .int .i64 t190, .slice none 0 0, .slice none 0 0]) ?_ 3 _ rfl; (with_reducible repeat (first | refine blk_drewN ?_ _ | refine blk_drew ?_ | refine blk_alloc ?_ _)); refine blk_put (cs := #[.int .i64 t188, .int .i64 t189, .int .i64 0, .slice none 0 0, .slice none 0 0]) ?_ 2 _ rfl; (with_reducible repeat (first | refine blk_drewN ?_ _ | refine blk_drew ?_ | refine blk_alloc ?_ _)); refine blk_put (cs := #[.int .i64 t188, .int .i64 0, .int .i64 0, .slice none 0 0, .slice none 0 0]) ?_ 1 _ rfl; (with_reducible repeat (first | refine blk_drewN ?_ _ | refine blk_drew ?_ | refine blk_alloc ?_ _)); refine blk_put (cs := #[.int .i64 0, .int .i64 0, .int .i64 0, .slice none 0 0, .slice none 0 0]) ?_ 0 _ rfl; (with_reducible repeat (first | refine blk_drewN ?_ _ | refine blk_drew ?_ | refine blk_alloc ?_ _)); exact BK200.out))⟩; have n4_ : Aside0 (IsS56 w0 w50 g t198 t199) := ⟨(by rw [hw]; exact zq5)⟩; have n5_ : Aside0 (KeepBut w w50 g none) := ⟨(by rw [hw]; exact zq13)⟩; have n6_ : Aside0 (Below w0.heap.size w0 w50) := ⟨(by rw [hw]; exact zq16)⟩; clear hw HO_4 HO193 HO196 BK200 HI0 HK HB; have HO_4 := n0_; have HO193 := n1_; have HO196 := n2_; have BK200 := n3_; have HI0 := n4_; have HK := n5_; have HB := n6_; clear n0_ n1_ n2_ n3_ n4_ n5_ n6_; have hcz51_0 : w50.cell? ⟨gb200, 0, none⟩ = some (.int .i64 t188) := (blk_cell BK200.out 0).trans rfl; have hcz51_1 : w50.cell? ⟨gb200, 1, none⟩ = some (.int .i64 t189) := (blk_cell BK200.out 1).trans rfl; have hcz51_2 : w50.cell? ⟨gb200, 2, none⟩ = some (.int .i64 t190) := (blk_cell BK200.out 2).trans rfl; have hcz51_3 : w50.cell? ⟨gb200, 3, none⟩ = some (.slice Ao48 t191.length co48) := (blk_cell BK200.out 3).trans rfl; have hcz51_4 : w50.cell? ⟨gb200, 4, none⟩ = some (.slice Ao49 t194.length co49) := (blk_cell BK200.out 4).trans rfl; have hfz51_0 := blk_frozen BK200.out 0; have hfz51_1 := blk_frozen BK200.out 1; have hfz51_2 := blk_frozen BK200.out 2; have hfz51_3 := blk_frozen BK200.out 3; have hfz51_4 := blk_frozen BK200.out 4) | ((with_reducible refine gate_builtin (b := .append) (xs := #[.tmp 25, .tmp 27]) rfl ?_); at_builtin; refine Kd.R_append k38 w.heap.size rfl (.tmp 25) (.tmp 27) 36 38 (.agg #[(.int .i64 0), (.int .i64 0), (.int .i64 0), (.slice none 0 0), (.slice none 0 0)]) 72 rfl Tryd.underlying36 info38 rfl zq40 (by omega) u4 x4_1 (⟨t188, t189, t190, t191, t194⟩ : S38) [.int .i64 t188, .int .i64 t189, .int .i64 t190, .slice Ao48 t191.length co48, .slice Ao49 t194.length co49] (fun k_ => k_ ≠ gb200) (fun k_ => ((fun k_ => k_ ≠ gb200)) k_ ∧ some k_ ≠ (u4 : Value).ownBlock) rfl rfl ?aP (fun _ hk => hk) ?aF ?aO (Below.refl _ _) ?aS ?aL ?_; (case aP => exact k38_mkM _ _ _ (⟨t188, t189, t190, t191, t194⟩ : S38) (Kd.R_mono (Kd.R_types (Kd.R_apart' (HO193.out) (Kd.R_typed HO_4.out) zq40) BK200.out zq40) (fun k_ hk => ⟨hk.2, hk.1.2⟩)) (Kd.R_mono (HO196.out) (fun k_ hk => ⟨hk.2.2, hk.1⟩))); (case aF => exact (fun k_ hk => Kd.freshB (g := gb200) (o := .cells #[.int .i64 t188, .int .i64 t189, .int .i64 t190, .slice Ao48 t191.length co48, .slice Ao49 t194.length co49] 38 (0, 0)) zq24 k_ hk)); (case aO => exact zq52); (case aS => exact (keep_size (w := w) (g := g) (row := none) zq13)); (case aL => have := LMc13.out; omega); intro v202 w52 ho hb hg hat; rw [← Ny201.out] at ho; have n0_ := mk0 (IsS56.grown zq5 hg (IsS56.own_ne HI0.out HO_4.out zq40)); have n1_ := mk0 (blk_grown (g := gb200) (o := .cells #[.int .i64 t188, .int .i64 t189, .int .i64 t190, .slice Ao48 t191.length co48, .slice Ao49 t194.length co49] 38 (0, 0)) zq24 hg (Kd.R_away HO_4.out (fun _ hk => hk.2.2))); have n2_ := mk0 (below_weaken zq16 HL.out hb); have n3_ := mk0 (KeepBut.trans zq13 (KeepBut.of_grown hg g) (Kd.R_base2 HO_4.out)); have n4_ := mk0 (ho); clear HI0 BK200 HB HK HO_4 HO193 HO196; have HI0 := n0_; have BK200 := n1_; have HB := n2_; have HK := n3_; have HO203 := n4_; clear n0_ n1_ n2_ n3_ n4_; clear ho hb hg hat) | ((with_reducible refine gate_callee (f := 28) rfl ?_); refine goesL_ (some 30) rfl rfl Tryd.func28 zq21 rfl #[.pointer (some ⟨g, 0, none⟩)] rfl zq3 ?_; (with_reducible refine (spec_reader_blanks.calls k1 g t198 t199 t204 t205 w0 _ ?side1 ?side2 A14.out).mono ?_); (case side1 => exact zq5); (case side2 => exact zq16); rintro e w53 ⟨rfl, hi, hb, hk⟩; refine ⟨_, rfl, ?_⟩; have n0_ := mk0 (KeepBut.blk hk (g' := gb200) (o := .cells #[.int .i64 t188, .int .i64 t189, .int .i64 t190, .slice Ao48 t191.length co48, .slice Ao49 t194.length co49] 38 (0, 0)) zq24 NB200_0.out (by simp)); have n1_ := mk0 (Kd.R_mono (Kd.R_keep (IsS56.apart (show IsS56 w0 _ g t198 t199 from zq5) zq33 zq40) hk (fun _ h => h.2)) (fun _ h => h.1)); have n2_ := mk0 (KeepBut.trans zq13 hk (.inl rfl)); have n3_ := mk0 (hb); have n4_ := mk0 (hi); clear BK200 HO203 HK HB HI0; have BK200 := n0_; have HO203 := n1_; have HK := n2_; have HB := n3_; have HI0 := n4_; clear n0_ n1_ n2_ n3_ n4_; (try clear hb); (try clear hb2); (try clear hk); (try clear hi)) | ((with_reducible refine gate_callee (f := 67) rfl ?_); refine goesL_ (some 32) rfl rfl Tryd.func67 zq21 rfl #[.pointer (some ⟨g, 0, none⟩), .int .u8 93] rfl zq3 ?_; (with_reducible refine (spec_reader_take.calls g t204 t205 93 false t207 t208 w0 _ ?side1 ?side2 A15.out).mono ?_); (case side1 => exact zq5); (case side2 => exact zq16); rintro e w54 ⟨rfl, hi, hb, hk⟩; refine ⟨_, rfl, ?_⟩; have n0_ := mk0 (KeepBut.blk hk (g' := gb200) (o := .cells #[.int .i64 t188, .int .i64 t189, .int .i64 t190, .slice Ao48 t191.length co48, .slice Ao49 t194.length co49] 38 (0, 0)) zq24 NB200_0.out (by simp)); have n1_ := mk0 (Kd.R_mono (Kd.R_keep (IsS56.apart (show IsS56 w0 _ g t204 t205 from zq5) zq33 zq40) hk (fun _ h => h.2)) (fun _ h => h.1)); have n2_ := mk0 (KeepBut.trans zq13 hk (.inl rfl)); have n3_ := mk0 (hb); have n4_ := mk0 (hi); clear BK200 HO203 HK HB HI0; have BK200 := n0_; have HO203 := n1_; have HK := n2_; have HB := n3_; have HI0 := n4_; clear n0_ n1_ n2_ n3_ n4_; (try clear hb); (try clear hb2); (try clear hk); (try clear hi)) | ((with_reducible refine gate_callee (f := 67) rfl ?_); refine goesL_ (some 35) rfl rfl Tryd.func67 zq21 rfl #[.pointer (some ⟨g, 0, none⟩), .int .u8 44] rfl zq3 ?_; (with_reducible refine (spec_reader_take.calls g t207 t208 44 false t210 t211 w0 _ ?side1 ?side2 A28.out).mono ?_); (case side1 => exact zq5); (case side2 => exact zq16); rintro e w55 ⟨rfl, hi, hb, hk⟩; refine ⟨_, rfl, ?_⟩; have n0_ := mk0 (KeepBut.blk hk (g' := gb200) (o := .cells #[.int .i64 t188, .int .i64 t189, .int .i64 t190, .slice Ao48 t191.length co48, .slice Ao49 t194.length co49] 38 (0, 0)) zq24 NB200_0.out (by simp)); have n1_ := mk0 (Kd.R_mono (Kd.R_keep (IsS56.apart (show IsS56 w0 _ g t207 t208 from zq5) zq33 zq40) hk (fun _ h => h.2)) (fun _ h => h.1)); have n2_ := mk0 (KeepBut.trans zq13 hk (.inl rfl)); have n3_ := mk0 (hb); have n4_ := mk0 (hi); clear BK200 HO203 HK HB HI0; have BK200 := n0_; have HO203 := n1_; have HK := n2_; have HB := n3_; have HI0 := n4_; clear n0_ n1_ n2_ n3_ n4_; (try clear hb); (try clear hb2); (try clear hk); (try clear hi)))
    go_ret2
    exact ⟨_, by first | rfl | (simp [errW_none, errW_some] <;> rfl) | (simp [*, errW_none, errW_some] <;> rfl), by first | exact Kd.R_nil _ _ _ _ _ | exact Kd.N_nil _ _ _ _ _ | exact Kd.V_nil _ _ _ _ _ | exact Kd.Q_nil _ _ _ _ _ | exact Kd.S_nil _ _ _ _ _, by repeat (first | (with_reducible first | exact HI0.out | apply IsS56.alloc | apply IsS56.drewN | apply IsS56.drew | apply IsS56.set_0 | apply IsS56.set_1 | refine IsS56.far ?_ NB0_200.out _) | exact HI0.out), by repeat (first | (with_reducible first | exact HB.out | apply below_alloc | apply pw_below_drewN | apply below_drew1 | refine below_set ?_ (IsS56.ge HI0.out) | refine below_set ?_ GE200.out) | exact HB.out), by repeat (first | (with_reducible first | exact HK.out | apply KeepBut.set_ | apply keep_drewN | apply keep_drew | apply keep_alloc | refine keep_far ?_ GW200.out _) | exact HK.out)⟩
   subst c29
   have H1 : ((spec_reader_blanks.f k1 t210 t211).bind fun bt212 => (spec_reader_elements.l0 k1 y201 bt212.1 bt212.2)) = some (r1, r2, r3, r4) := by rw [if_pos rfl] at H; exact H
   clear H
   have H := H1
   clear H1
   replace H := Option.bind_eq_some_iff.mp H
   obtain ⟨⟨t212, t213⟩, A300, H⟩ := H
   replace H : (spec_reader_elements.l0 k1 y201 t212 t213) = some (r1, r2, r3, r4) := H
   have A30 := mk0 A300
   clear A300
   have H' := mk0 H
   clear H
   go_wp2_with (first | ((with_reducible refine gate_callee (f := 29) rfl ?_); refine goesL_ (some 20) rfl rfl Tryd.func29 zq21 rfl #[.pointer (some ⟨g, 0, none⟩)] rfl zq3 ?_; (with_reducible refine (ih_29 k1 (by have := HK1.out; omega) g x1000_1 x1001_1 t188 t189 t190 t191 t194 true t198 t199 w0 _ ?side1 ?side2 A11.out).mono ?_); (case side1 => exact zq0); (case side2 => exact zq2); rintro e w31 ⟨v192, v195, rfl, ho0, ho1, hi, hb, hk⟩; refine ⟨_, rfl, ?_⟩; have n0_ := mk0 (Kd.R_mono (Kd.R_told (Kd.R_told (Kd.R_oldK (IsS56.apart (show IsS56 w0 _ g x1000_1 x1001_1 from zq0) zq29 zq40) hk) (Kd.R_base ho0)) (Kd.R_base ho1)) (fun _ h_ => h_.1)); have n1_ := mk0 (Kd.R_lower ho0 (keep_size (w := w) (g := g) (row := none) zq1)); have n2_ := mk0 (Kd.R_lower (Kd.R_new' ho1 (Kd.R_lt zq29)) (keep_size (w := w) (g := g) (row := none) zq1)); have n3_ := mk0 (KeepBut.trans zq1 hk (.inl rfl)); have n4_ := mk0 (hb); have n5_ := mk0 (hi); clear HO_4 HK HB HI0; have HO_4 := n0_; have HO193 := n1_; have HO196 := n2_; have HK := n3_; have HB := n4_; have HI0 := n5_; clear n0_ n1_ n2_ n3_ n4_ n5_; (try clear hb); (try clear hb2); (try clear hk); (try clear hi); (try clear ho0); (try clear ho1)) | ((with_reducible refine gate_dst (N := 5) rfl ?_); refine box_event ?hg (N := 5) ?hd (cs := #[.int .i64 0, .int .i64 0, .int .i64 0, .slice none 0 0, .slice none 0 0]) (t := 38) ?hr ?_; (case hd => rfl); (case hg => rfl); (case hr => exact zq34); intro gb200 hg w32 hbox hb; have n0_ := mk0 (Kd.R_below (Kd.R_elderB zq29 gb200 (Nat.le_of_eq hg.symm)) hb); have n1_ := mk0 (Kd.R_below zq48 hb); have n2_ := mk0 (Kd.R_below (Kd.R_elderB zq49 gb200 (Nat.le_of_eq hg.symm)) hb); have n3_ := mk0 (IsS56.below zq0 hb); have n4_ := mk0 (KeepBut.trans zq1 (KeepBut.of_below hb g none) (.inl rfl)); have n5_ := mk0 (below_step zq2 hb); have n6_ := mk0 (hbox); have n7_ := mk0 ((zq26 : w.heap.size ≤ gb200)); have n8_ := mk0 ((Nat.le_trans HW0.out (zq26 : w.heap.size ≤ gb200) : w0.heap.size ≤ gb200)); have n9_ := mk0 ((by rw [hg]; exact Nat.ne_of_lt (IsS56.lt (show IsS56 w0 _ g t198 t199 from zq0)) : g ≠ gb200)); have n10_ := mk0 ((by rw [hg]; exact Nat.ne_of_gt (IsS56.lt (show IsS56 w0 _ g t198 t199 from zq0)) : gb200 ≠ g)); clear HO_4 HO193 HO196 HI0 HK HB; have HO_4 := n0_; have HO193 := n1_; have HO196 := n2_; have HI0 := n3_; have HK := n4_; have HB := n5_; have BK200 := n6_; have GW200 := n7_; have GE200 := n8_; have NB0_200 := n9_; have NB200_0 := n10_; clear n0_ n1_ n2_ n3_ n4_ n5_ n6_ n7_ n8_ n9_ n10_; clear hb hbox hg; have hnb33 := NB200_0.out; have hnc33 := NB0_200.out; have hcz34_0 : w32.cell? ⟨gb200, 0, none⟩ = some (.int .i64 0) := (blk_cell BK200.out 0).trans rfl; have hcz34_1 : w32.cell? ⟨gb200, 1, none⟩ = some (.int .i64 0) := (blk_cell BK200.out 1).trans rfl; have hcz34_2 : w32.cell? ⟨gb200, 2, none⟩ = some (.int .i64 0) := (blk_cell BK200.out 2).trans rfl; have hcz34_3 : w32.cell? ⟨gb200, 3, none⟩ = some (.slice none 0 0) := (blk_cell BK200.out 3).trans rfl; have hcz34_4 : w32.cell? ⟨gb200, 4, none⟩ = some (.slice none 0 0) := (blk_cell BK200.out 4).trans rfl; have hfz34_0 := blk_frozen BK200.out 0; have hfz34_1 := blk_frozen BK200.out 1; have hfz34_2 := blk_frozen BK200.out 2; have hfz34_3 := blk_frozen BK200.out 3; have hfz34_4 := blk_frozen BK200.out 4; obtain ⟨Ao35, co35, eo35⟩ := Kd.R_slice HO193.out; subst eo35; obtain ⟨Ao36, co36, eo36⟩ := Kd.R_slice HO196.out; subst eo36) | ((with_reducible refine gate_store (t := 38) (p := 5) rfl ?_); refine store_event (t := 38) (p := 5) (v := ?vo_w37) (w1 := (((((w32.setCell ⟨gb200, 0, none⟩ (.int .i64 t188)).setCell ⟨gb200, 1, none⟩ (.int .i64 t189)).setCell ⟨gb200, 2, none⟩ (.int .i64 t190)).setCell ⟨gb200, 3, none⟩ (.slice Ao35 t191.length co35)).setCell ⟨gb200, 4, none⟩ (.slice Ao36 t194.length co36))) ?hg ?ho ?hn ?hr ?_; (case ho => rfl); (case hg => rfl); (case hn => rfl); (case hr => exact zq34); intro w37 hw; have n0_ : Aside0 (Kd.R k38 38 w37 w.heap.size (fun k_ => some k_ ≠ (.slice Ao35 t191.length co35 : Value).ownBlock ∧ some k_ ≠ (.slice Ao36 t194.length co36 : Value).ownBlock ∧ k_ ≠ gb200) u4 x4_1) := ⟨(by rw [hw]; exact (by (with_reducible repeat (first | apply Kd.R_alloc | apply Kd.R_drewN | apply Kd.R_drew)); exact Kd.R_mono (Kd.R_far (p := ⟨gb200, 4, none⟩) (Kd.R_far (p := ⟨gb200, 3, none⟩) (Kd.R_far (p := ⟨gb200, 2, none⟩) (Kd.R_far (p := ⟨gb200, 1, none⟩) (Kd.R_far (p := ⟨gb200, 0, none⟩) (Kd.R_mono HO_4.out (fun k_ hk => (⟨hk, hk.2⟩ : _ ∧ k_ ≠ gb200))) (fun _ hk => hk.2) (.int .i64 t188)) (fun _ hk => hk.2) (.int .i64 t189)) (fun _ hk => hk.2) (.int .i64 t190)) (fun _ hk => hk.2) (.slice Ao35 t191.length co35)) (fun _ hk => hk.2) (.slice Ao36 t194.length co36)) (fun _ hk => ⟨hk.1.1.1.2, ⟨hk.1.1.2, hk.1.2⟩⟩)))⟩; have n1_ : Aside0 (Kd.R k104 104 w37 w.heap.size (fun _ => True) (.slice Ao35 t191.length co35) t191) := ⟨(by rw [hw]; exact (by (with_reducible repeat (first | apply Kd.R_alloc | apply Kd.R_drewN | apply Kd.R_drew)); exact Kd.R_mono (Kd.R_far (p := ⟨gb200, 4, none⟩) (Kd.R_far (p := ⟨gb200, 3, none⟩) (Kd.R_far (p := ⟨gb200, 2, none⟩) (Kd.R_far (p := ⟨gb200, 1, none⟩) (Kd.R_far (p := ⟨gb200, 0, none⟩) (Kd.R_types HO193.out BK200.out zq40) (fun _ hk => hk.2) (.int .i64 t188)) (fun _ hk => hk.2) (.int .i64 t189)) (fun _ hk => hk.2) (.int .i64 t190)) (fun _ hk => hk.2) (.slice Ao35 t191.length co35)) (fun _ hk => hk.2) (.slice Ao36 t194.length co36)) (fun _ hk => trivial)))⟩; have n2_ : Aside0 (Kd.R k38 38 w37 w.heap.size (fun k_ => some k_ ≠ (u4 : Value).ownBlock ∧ some k_ ≠ (.slice Ao35 t191.length co35 : Value).ownBlock ∧ k_ ≠ gb200) (.slice Ao36 t194.length co36) t194) := ⟨(by rw [hw]; exact (by (with_reducible repeat (first | apply Kd.R_alloc | apply Kd.R_drewN | apply Kd.R_drew)); exact Kd.R_mono (Kd.R_far (p := ⟨gb200, 4, none⟩) (Kd.R_far (p := ⟨gb200, 3, none⟩) (Kd.R_far (p := ⟨gb200, 2, none⟩) (Kd.R_far (p := ⟨gb200, 1, none⟩) (Kd.R_far (p := ⟨gb200, 0, none⟩) (Kd.R_mono HO196.out (fun k_ hk => (⟨hk, hk.2⟩ : _ ∧ k_ ≠ gb200))) (fun _ hk => hk.2) (.int .i64 t188)) (fun _ hk => hk.2) (.int .i64 t189)) (fun _ hk => hk.2) (.int .i64 t190)) (fun _ hk => hk.2) (.slice Ao35 t191.length co35)) (fun _ hk => hk.2) (.slice Ao36 t194.length co36)) (fun _ hk => ⟨hk.1.1.2, ⟨hk.1.1.1, hk.1.2⟩⟩)))⟩; have n3_ : Aside0 (w37.heap[gb200]? = some (.cells #[.int .i64 t188, .int .i64 t189, .int .i64 t190, .slice Ao35 t191.length co35, .slice Ao36 t194.length co36] 38 (0, 0))) := ⟨(by rw [hw]; exact (by (with_reducible repeat (first | refine blk_drewN ?_ _ | refine blk_drew ?_ | refine blk_alloc ?_ _)); refine blk_put (cs := #[.int .i64 t188, .int .i64 t189, .int .i64 t190, .slice Ao35 t191.length co35, .slice none 0 0]) ?_ 4 _ rfl; (with_reducible repeat (first | refine blk_drewN ?_ _ | refine blk_drew ?_ | refine blk_alloc ?_ _)); refine blk_put (cs := #[.int .i64 t188, .int .i64 t189, .int .i64 t190, .slice none 0 0, .slice none 0 0]) ?_ 3 _ rfl; (with_reducible repeat (first | refine blk_drewN ?_ _ | refine blk_drew ?_ | refine blk_alloc ?_ _)); refine blk_put (cs := #[.int .i64 t188, .int .i64 t189, .int .i64 0, .slice none 0 0, .slice none 0 0]) ?_ 2 _ rfl; (with_reducible repeat (first | refine blk_drewN ?_ _ | refine blk_drew ?_ | refine blk_alloc ?_ _)); refine blk_put (cs := #[.int .i64 t188, .int .i64 0, .int .i64 0, .slice none 0 0, .slice none 0 0]) ?_ 1 _ rfl; (with_reducible repeat (first | refine blk_drewN ?_ _ | refine blk_drew ?_ | refine blk_alloc ?_ _)); refine blk_put (cs := #[.int .i64 0, .int .i64 0, .int .i64 0, .slice none 0 0, .slice none 0 0]) ?_ 0 _ rfl; (with_reducible repeat (first | refine blk_drewN ?_ _ | refine blk_drew ?_ | refine blk_alloc ?_ _)); exact BK200.out))⟩; have n4_ : Aside0 (IsS56 w0 w37 g t198 t199) := ⟨(by rw [hw]; exact zq5)⟩; have n5_ : Aside0 (KeepBut w w37 g none) := ⟨(by rw [hw]; exact zq13)⟩; have n6_ : Aside0 (Below w0.heap.size w0 w37) := ⟨(by rw [hw]; exact zq16)⟩; clear hw HO_4 HO193 HO196 BK200 HI0 HK HB; have HO_4 := n0_; have HO193 := n1_; have HO196 := n2_; have BK200 := n3_; have HI0 := n4_; have HK := n5_; have HB := n6_; clear n0_ n1_ n2_ n3_ n4_ n5_ n6_; have hcz38_0 : w37.cell? ⟨gb200, 0, none⟩ = some (.int .i64 t188) := (blk_cell BK200.out 0).trans rfl; have hcz38_1 : w37.cell? ⟨gb200, 1, none⟩ = some (.int .i64 t189) := (blk_cell BK200.out 1).trans rfl; have hcz38_2 : w37.cell? ⟨gb200, 2, none⟩ = some (.int .i64 t190) := (blk_cell BK200.out 2).trans rfl; have hcz38_3 : w37.cell? ⟨gb200, 3, none⟩ = some (.slice Ao35 t191.length co35) := (blk_cell BK200.out 3).trans rfl; have hcz38_4 : w37.cell? ⟨gb200, 4, none⟩ = some (.slice Ao36 t194.length co36) := (blk_cell BK200.out 4).trans rfl; have hfz38_0 := blk_frozen BK200.out 0; have hfz38_1 := blk_frozen BK200.out 1; have hfz38_2 := blk_frozen BK200.out 2; have hfz38_3 := blk_frozen BK200.out 3; have hfz38_4 := blk_frozen BK200.out 4) | ((with_reducible refine gate_builtin (b := .append) (xs := #[.tmp 25, .tmp 27]) rfl ?_); at_builtin; refine Kd.R_append k38 w.heap.size rfl (.tmp 25) (.tmp 27) 36 38 (.agg #[(.int .i64 0), (.int .i64 0), (.int .i64 0), (.slice none 0 0), (.slice none 0 0)]) 72 rfl Tryd.underlying36 info38 rfl zq40 (by omega) u4 x4_1 (⟨t188, t189, t190, t191, t194⟩ : S38) [.int .i64 t188, .int .i64 t189, .int .i64 t190, .slice Ao35 t191.length co35, .slice Ao36 t194.length co36] (fun k_ => k_ ≠ gb200) (fun k_ => ((fun k_ => k_ ≠ gb200)) k_ ∧ some k_ ≠ (u4 : Value).ownBlock) rfl rfl ?aP (fun _ hk => hk) ?aF ?aO (Below.refl _ _) ?aS ?aL ?_; (case aP => exact k38_mkM _ _ _ (⟨t188, t189, t190, t191, t194⟩ : S38) (Kd.R_mono (Kd.R_types (Kd.R_apart' (HO193.out) (Kd.R_typed HO_4.out) zq40) BK200.out zq40) (fun k_ hk => ⟨hk.2, hk.1.2⟩)) (Kd.R_mono (HO196.out) (fun k_ hk => ⟨hk.2.2, hk.1⟩))); (case aF => exact (fun k_ hk => Kd.freshB (g := gb200) (o := .cells #[.int .i64 t188, .int .i64 t189, .int .i64 t190, .slice Ao35 t191.length co35, .slice Ao36 t194.length co36] 38 (0, 0)) zq24 k_ hk)); (case aO => exact zq52); (case aS => exact (keep_size (w := w) (g := g) (row := none) zq13)); (case aL => have := LMc13.out; omega); intro v202 w39 ho hb hg hat; rw [← Ny201.out] at ho; have n0_ := mk0 (IsS56.grown zq5 hg (IsS56.own_ne HI0.out HO_4.out zq40)); have n1_ := mk0 (blk_grown (g := gb200) (o := .cells #[.int .i64 t188, .int .i64 t189, .int .i64 t190, .slice Ao35 t191.length co35, .slice Ao36 t194.length co36] 38 (0, 0)) zq24 hg (Kd.R_away HO_4.out (fun _ hk => hk.2.2))); have n2_ := mk0 (below_weaken zq16 HL.out hb); have n3_ := mk0 (KeepBut.trans zq13 (KeepBut.of_grown hg g) (Kd.R_base2 HO_4.out)); have n4_ := mk0 (ho); clear HI0 BK200 HB HK HO_4 HO193 HO196; have HI0 := n0_; have BK200 := n1_; have HB := n2_; have HK := n3_; have HO203 := n4_; clear n0_ n1_ n2_ n3_ n4_; clear ho hb hg hat) | ((with_reducible refine gate_callee (f := 28) rfl ?_); refine goesL_ (some 30) rfl rfl Tryd.func28 zq21 rfl #[.pointer (some ⟨g, 0, none⟩)] rfl zq3 ?_; (with_reducible refine (spec_reader_blanks.calls k1 g t198 t199 t204 t205 w0 _ ?side1 ?side2 A14.out).mono ?_); (case side1 => exact zq5); (case side2 => exact zq16); rintro e w40 ⟨rfl, hi, hb, hk⟩; refine ⟨_, rfl, ?_⟩; have n0_ := mk0 (KeepBut.blk hk (g' := gb200) (o := .cells #[.int .i64 t188, .int .i64 t189, .int .i64 t190, .slice Ao35 t191.length co35, .slice Ao36 t194.length co36] 38 (0, 0)) zq24 NB200_0.out (by simp)); have n1_ := mk0 (Kd.R_mono (Kd.R_keep (IsS56.apart (show IsS56 w0 _ g t198 t199 from zq5) zq33 zq40) hk (fun _ h => h.2)) (fun _ h => h.1)); have n2_ := mk0 (KeepBut.trans zq13 hk (.inl rfl)); have n3_ := mk0 (hb); have n4_ := mk0 (hi); clear BK200 HO203 HK HB HI0; have BK200 := n0_; have HO203 := n1_; have HK := n2_; have HB := n3_; have HI0 := n4_; clear n0_ n1_ n2_ n3_ n4_; (try clear hb); (try clear hb2); (try clear hk); (try clear hi)) | ((with_reducible refine gate_callee (f := 67) rfl ?_); refine goesL_ (some 32) rfl rfl Tryd.func67 zq21 rfl #[.pointer (some ⟨g, 0, none⟩), .int .u8 93] rfl zq3 ?_; (with_reducible refine (spec_reader_take.calls g t204 t205 93 false t207 t208 w0 _ ?side1 ?side2 A15.out).mono ?_); (case side1 => exact zq5); (case side2 => exact zq16); rintro e w41 ⟨rfl, hi, hb, hk⟩; refine ⟨_, rfl, ?_⟩; have n0_ := mk0 (KeepBut.blk hk (g' := gb200) (o := .cells #[.int .i64 t188, .int .i64 t189, .int .i64 t190, .slice Ao35 t191.length co35, .slice Ao36 t194.length co36] 38 (0, 0)) zq24 NB200_0.out (by simp)); have n1_ := mk0 (Kd.R_mono (Kd.R_keep (IsS56.apart (show IsS56 w0 _ g t204 t205 from zq5) zq33 zq40) hk (fun _ h => h.2)) (fun _ h => h.1)); have n2_ := mk0 (KeepBut.trans zq13 hk (.inl rfl)); have n3_ := mk0 (hb); have n4_ := mk0 (hi); clear BK200 HO203 HK HB HI0; have BK200 := n0_; have HO203 := n1_; have HK := n2_; have HB := n3_; have HI0 := n4_; clear n0_ n1_ n2_ n3_ n4_; (try clear hb); (try clear hb2); (try clear hk); (try clear hi)) | ((with_reducible refine gate_callee (f := 67) rfl ?_); refine goesL_ (some 35) rfl rfl Tryd.func67 zq21 rfl #[.pointer (some ⟨g, 0, none⟩), .int .u8 44] rfl zq3 ?_; (with_reducible refine (spec_reader_take.calls g t207 t208 44 true t210 t211 w0 _ ?side1 ?side2 A28.out).mono ?_); (case side1 => exact zq5); (case side2 => exact zq16); rintro e w42 ⟨rfl, hi, hb, hk⟩; refine ⟨_, rfl, ?_⟩; have n0_ := mk0 (KeepBut.blk hk (g' := gb200) (o := .cells #[.int .i64 t188, .int .i64 t189, .int .i64 t190, .slice Ao35 t191.length co35, .slice Ao36 t194.length co36] 38 (0, 0)) zq24 NB200_0.out (by simp)); have n1_ := mk0 (Kd.R_mono (Kd.R_keep (IsS56.apart (show IsS56 w0 _ g t207 t208 from zq5) zq33 zq40) hk (fun _ h => h.2)) (fun _ h => h.1)); have n2_ := mk0 (KeepBut.trans zq13 hk (.inl rfl)); have n3_ := mk0 (hb); have n4_ := mk0 (hi); clear BK200 HO203 HK HB HI0; have BK200 := n0_; have HO203 := n1_; have HK := n2_; have HB := n3_; have HI0 := n4_; clear n0_ n1_ n2_ n3_ n4_; (try clear hb); (try clear hb2); (try clear hk); (try clear hi)) | ((with_reducible refine gate_callee (f := 28) rfl ?_); refine goesL_ (some 38) rfl rfl Tryd.func28 zq21 rfl #[.pointer (some ⟨g, 0, none⟩)] rfl zq3 ?_; (with_reducible refine (spec_reader_blanks.calls k1 g t210 t211 t212 t213 w0 _ ?side1 ?side2 A30.out).mono ?_); (case side1 => exact zq5); (case side2 => exact zq16); rintro e w43 ⟨rfl, hi, hb, hk⟩; refine ⟨_, rfl, ?_⟩; have n0_ := mk0 (KeepBut.blk hk (g' := gb200) (o := .cells #[.int .i64 t188, .int .i64 t189, .int .i64 t190, .slice Ao35 t191.length co35, .slice Ao36 t194.length co36] 38 (0, 0)) zq24 NB200_0.out (by simp)); have n1_ := mk0 (Kd.R_mono (Kd.R_keep (IsS56.apart (show IsS56 w0 _ g t210 t211 from zq5) zq33 zq40) hk (fun _ h => h.2)) (fun _ h => h.1)); have n2_ := mk0 (KeepBut.trans zq13 hk (.inl rfl)); have n3_ := mk0 (hb); have n4_ := mk0 (hi); clear BK200 HO203 HK HB HI0; have BK200 := n0_; have HO203 := n1_; have HK := n2_; have HB := n3_; have HI0 := n4_; clear n0_ n1_ n2_ n3_ n4_; (try clear hb); (try clear hb2); (try clear hk); (try clear hi)))
   go_roundg k1
   case measure => have := HK1.out; omega
   case rel => exact ⟨(y201), (t212), (t213), H', ⟨by have := HK1.out; omega⟩, ⟨by (with_reducible repeat (first | apply Kd.R_alloc | apply Kd.R_drewN | apply Kd.R_drew)); exact Kd.R_mono HO203.out (fun _ hk => trivial)⟩, ⟨by repeat (first | (with_reducible first | exact HI0.out | apply IsS56.alloc | apply IsS56.drewN | apply IsS56.drew | apply IsS56.set_0 | apply IsS56.set_1 | refine IsS56.far ?_ NB0_200.out _) | exact HI0.out)⟩, ⟨by repeat (first | (with_reducible first | exact HK.out | apply KeepBut.set_ | apply keep_drewN | apply keep_drew | apply keep_alloc | refine keep_far ?_ GW200.out _) | exact HK.out)⟩, ⟨by repeat (first | (with_reducible first | exact HB.out | apply below_alloc | apply pw_below_drewN | apply below_drew1 | refine below_set ?_ (IsS56.ge HI0.out) | refine below_set ?_ GE200.out) | exact HB.out)⟩⟩
theorem grp29.calls (k : Nat) : spec_reader_value.Stmt k ∧ spec_reader_members.Stmt k ∧ spec_reader_elements.Stmt k := by
 induction k using Nat.strongRecOn with
 | _ k ih => exact ⟨spec_reader_value.step k (fun m h => (ih m h).1) (fun m h => (ih m h).2.1) (fun m h => (ih m h).2.2), spec_reader_members.step k (fun m h => (ih m h).1) (fun m h => (ih m h).2.1) (fun m h => (ih m h).2.2), spec_reader_elements.step k (fun m h => (ih m h).1) (fun m h => (ih m h).2.1) (fun m h => (ih m h).2.2)⟩
theorem spec_reader_value.calls (k : Nat) : ∀ (g : Nat) (s0_0 : ByteArray) (s0_1 : Int) (r1 : Int) (r2 : Int) (r3 : Int) (r4 : List (S104)) (r5 : List (S38)) (r6 : Bool) (r7 : ByteArray) (r8 : Int) (w0 w : World) (hI : IsS56 w0 w g s0_0 s0_1) (hB : Below w0.heap.size w0 w) (h : spec_reader_value.f k s0_0 s0_1 = some (r1, r2, r3, r4, r5, r6, r7, r8)),
 Calls Tryd.prog 29 #[.pointer (some ⟨g, 0, none⟩)] w fun e w' => ∃ v3_ v4_ : Value, e = .returned (.tuple #[.agg #[.int .i64 r1, .int .i64 r2, .int .i64 r3, v3_, v4_], .bool r6]) ∧ Kd.R k104 104 w' w.heap.size (fun _ => True) v3_ r4 ∧ Kd.R k38 38 w' w.heap.size (fun k_ => some k_ ≠ (v3_ : Value).ownBlock) v4_ r5 ∧ IsS56 w0 w' g r7 r8 ∧ Below w0.heap.size w0 w' ∧ KeepBut w w' g none := (grp29.calls k).1
theorem spec_reader_members.calls (k : Nat) : ∀ (g : Nat) (s0_0 : ByteArray) (s0_1 : Int) (r1 : List (S104)) (r2 : List (S38)) (r3 : Bool) (r4 : ByteArray) (r5 : Int) (w0 w : World) (hI : IsS56 w0 w g s0_0 s0_1) (hB : Below w0.heap.size w0 w) (h : spec_reader_members.f k s0_0 s0_1 = some (r1, r2, r3, r4, r5)),
 Calls Tryd.prog 49 #[.pointer (some ⟨g, 0, none⟩)] w fun e w' => ∃ v0_ v1_ : Value, e = .returned (.tuple #[v0_, v1_, .bool r3]) ∧ Kd.R k104 104 w' w.heap.size (fun _ => True) v0_ r1 ∧ Kd.R k38 38 w' w.heap.size (fun k_ => some k_ ≠ (v0_ : Value).ownBlock) v1_ r2 ∧ IsS56 w0 w' g r4 r5 ∧ Below w0.heap.size w0 w' ∧ KeepBut w w' g none := (grp29.calls k).2.1
theorem spec_reader_elements.calls (k : Nat) : ∀ (g : Nat) (s0_0 : ByteArray) (s0_1 : Int) (r1 : List (S38)) (r2 : Bool) (r3 : ByteArray) (r4 : Int) (w0 w : World) (hI : IsS56 w0 w g s0_0 s0_1) (hB : Below w0.heap.size w0 w) (h : spec_reader_elements.f k s0_0 s0_1 = some (r1, r2, r3, r4)),
 Calls Tryd.prog 50 #[.pointer (some ⟨g, 0, none⟩)] w fun e w' => ∃ v0_ : Value, e = .returned (.tuple #[v0_, .bool r2]) ∧ Kd.R k38 38 w' w.heap.size (fun _ => True) v0_ r1 ∧ IsS56 w0 w' g r3 r4 ∧ Below w0.heap.size w0 w' ∧ KeepBut w w' g none := (grp29.calls k).2.2
def spec_Places.f (k : Nat) (a0 : ByteArray) : Option (Int × Int × Int × (List (S104)) × (List (S38)) × Bool) :=
  (spec_reader_blanks.f k a0 0).bind fun b => ((spec_reader_value.f k b.1 b.2).bind fun v => (if v.2.2.2.2.2.1 = true then ((spec_reader_blanks.f k v.2.2.2.2.2.2.1 v.2.2.2.2.2.2.2).bind fun c => (if c.2 = (a0.size : Int) then (some (v.1, v.2.1, v.2.2.1, v.2.2.2.1, v.2.2.2.2.1, true)) else (some (0, 0, 0, [], [], false)))) else (some (0, 0, 0, [], [], false))))
theorem spec_Places.mono : ∀ a0 k, LeO (spec_Places.f k a0) (spec_Places.f (k + 1) a0) := fun a0 k => LeO.bind (spec_reader_blanks.mono _ _ k) (fun _ => LeO.bind (spec_reader_value.mono _ _ k) (fun _ => LeO.ite (LeO.bind (spec_reader_blanks.mono _ _ k) (fun _ => LeO.refl _)) (LeO.refl _)))
theorem Places_R_keep {α : Type} {d : Kd α} {e : Nat} {w w1 : World} {base : Nat} {ok : Nat → Prop} {v : Value} {xs : List α} (h : d.R e w base ok v xs) {g : Nat} (hk : KeepBut w w1 g none) (hg : g < base) : d.R e w1 base ok v xs :=
 Kd.R_mono (Kd.R_move (Kd.R_bound h) (fun k hk' => hk.2 k hk'.2.2.1 (by omega) (by simp))) (fun _ hk => hk.1)
theorem spec_Places.calls (k : Nat) (a0 : ByteArray) (r1 r2 r3 : Int) (r4 : List (S104)) (r5 : List (S38)) (r6 : Bool) (w : World) (h : spec_Places.f k a0 = some (r1, r2, r3, r4, r5, r6)) :
 Calls Tryd.prog 15 #[.string a0] w fun e w' => ∃ v3_ v4_ : Value, e = .returned (.tuple #[.agg #[.int .i64 r1, .int .i64 r2, .int .i64 r3, v3_, v4_], .bool r6]) ∧ Kd.R k104 104 w' w.heap.size (fun _ => True) v3_ r4 ∧ Kd.R k38 38 w' w.heap.size (fun k_ => some k_ ≠ (v3_ : Value).ownBlock) v4_ r5 ∧ Below w.heap.size w w' := by
 unfold spec_Places.f at h
 replace h := Option.bind_eq_some_iff.mp h
 obtain ⟨⟨s1, at1⟩, A1, h⟩ := h
 replace h := Option.bind_eq_some_iff.mp h
 obtain ⟨⟨t1, t2, t3, t4, t5, ok, s2, at2⟩, A2, h⟩ := h
 have B1 := mk0 A1
 have B2 := mk0 A2
 have HR := mk0 h
 clear A1 A2 h
 go_enter Tryd.func15, Tryd.ntmps15
 go_wp2_with fail
 refine (spec_reader_blanks.calls k (w.heap.size + 1) a0 0 s1 at1 w _ ?i1 ?b1 B1.out).mono ?_
 case i1 =>
  have := IsS56.new w (w.alloc (.cells #[.int .i64 0, .int .i64 0, .int .i64 0, .slice none 0 0, .slice none 0 0] 38)) a0 0 (below_alloc (Below.refl _ _) _)
  simpa using this
 case b1 => exact below_alloc (below_alloc (Below.refl _ _) _) _
 rintro e w1 ⟨rfl, hI, hB, hK⟩
 have hZ : w1.heap[w.heap.size]? = some (.cells #[.int .i64 0, .int .i64 0, .int .i64 0, .slice none 0 0, .slice none 0 0] 38 (0, 0)) := KeepBut.blk hK (blk_alloc (blk_new w _) _) (by omega) (by simp)
 have HI := mk0 hI
 have HB := mk0 hB
 have HZ := mk0 hZ
 clear hI hB hK hZ
 go_wp2_with fail
 refine (spec_reader_value.calls k (w.heap.size + 1) s1 at1 t1 t2 t3 t4 t5 ok s2 at2 w _ HI.out HB.out B2.out).mono ?_
 rintro e w2 ⟨v3, v4, rfl, hv3, hv4, hI, hB, hK⟩
 obtain ⟨i3, ho3⟩ := Kd.R_own hv3
 obtain ⟨A3, c3, e3⟩ := own_slice ho3
 subst e3
 obtain ⟨i4, ho4⟩ := Kd.R_own hv4
 obtain ⟨A4, c4, e4⟩ := own_slice ho4
 subst e4
 clear ho3 ho4
 have hl1 := below_size HB.out
 have hl : w.heap.size + 1 < w1.heap.size := HI.out.lt
 have hZ2 := KeepBut.blk hK HZ.out (by omega) (by simp)
 have HI2 := mk0 hI
 have HB2 := mk0 hB
 have HZ2 := mk0 hZ2
 have HV3 := mk0 hv3
 have HV4 := mk0 hv4
 have HL := mk0 hl
 have HL2 := mk0 hK.1
 clear hI hB hK hZ2 hv3 hv4 hl hl1 HI HB HZ
 have HR1 := HR.out
 clear HR
 cases ok with
 | false =>
  rw [if_neg zq40] at HR1
  simp only [Option.some.injEq, Prod.mk.injEq] at HR1
  obtain ⟨rfl, rfl, rfl, rfl, rfl, rfl⟩ := HR1
  go_wp2_with (((with_reducible refine gate_store (t := 38) (p := 2) rfl ?_); refine box_store (g := w.heap.size) (new := #[.int .i64 0, .int .i64 0, .int .i64 0, .slice none 0 0, .slice none 0 0]) rfl rfl rfl rfl rfl (blk_alloc HZ2.out _) rfl zq21 (by simp [Value.oneCell']) ?_; intro w3 hz3 hk3 hb3; have HZ3 := mk0 hz3; have HB3 := mk0 (hb3 w.heap.size (Nat.le_refl _)); clear hz3 hk3 hb3))
  refine bodyPost_ret (results_ct rfl _ _ w.heap.size 38 #[.int .i64 0, .int .i64 0, .int .i64 0, .slice none 0 0, .slice none 0 0] (0, 0) _ rfl HZ3.out Tryd.underlying38 rfl zq21) rfl ?_
  exact ⟨_, _, rfl, Kd.R_nil _ _ _ _ _, Kd.R_nil _ _ _ _ _, (below_alloc HB2.out _).trans HB3.out⟩
 | true =>
  rw [if_pos rfl] at HR1
  replace HR1 := Option.bind_eq_some_iff.mp HR1
  obtain ⟨⟨s3, at3⟩, A3, HR1⟩ := HR1
  have B3 := mk0 A3
  have HR := mk0 HR1
  clear A3 HR1
  go_wp2_with fail
  refine (spec_reader_blanks.calls k (w.heap.size + 1) s2 at2 s3 at3 w _ (IsS56.alloc HI2.out _) (below_alloc HB2.out _) B3.out).mono ?_
  rintro e w3 ⟨rfl, hI, hB, hK⟩
  have hL := HL.out
  have hL2 := HL2.out
  have HP3 := mk0 (KeepBut.blk hK (blk_new w2 _) (by omega) (by simp))
  have HZ3 := mk0 (KeepBut.blk hK (blk_alloc HZ2.out _) (by omega) (by simp))
  have HV3' := mk0 (Places_R_keep (Kd.R_alloc HV3.out _) hK HL.out)
  have HV4' := mk0 (Places_R_keep (Kd.R_alloc HV4.out _) hK HL.out)
  have hc1 := cellS56_1 hI.1
  have HB3 := mk0 hB
  have HR1 := HR.out
  clear hI hB hK hL hL2 HR
  by_cases c : at3 = (a0.size : Int)
  rotate_left
  ·rw [if_neg c] at HR1
   have cb : (at3 != (a0.size : Int)) = true := bne_iff_ne.mpr c
   clear c
   simp only [Option.some.injEq, Prod.mk.injEq] at HR1
   obtain ⟨rfl, rfl, rfl, rfl, rfl, rfl⟩ := HR1
   go_wp2_with (((with_reducible refine gate_store (t := 38) (p := 2) rfl ?_); refine box_store (g := w.heap.size) (new := #[.int .i64 0, .int .i64 0, .int .i64 0, .slice none 0 0, .slice none 0 0]) rfl rfl rfl rfl rfl HZ3.out rfl zq21 (by simp [Value.oneCell']) ?_; intro w4 hz4 hk4 hb4; have HZ4 := mk0 hz4; have HB4 := mk0 (hb4 w.heap.size (Nat.le_refl _)); clear hz4 hk4 hb4))
   refine bodyPost_ret (results_ct rfl _ _ w.heap.size 38 #[.int .i64 0, .int .i64 0, .int .i64 0, .slice none 0 0, .slice none 0 0] (0, 0) _ rfl HZ4.out Tryd.underlying38 rfl zq21) rfl ?_
   exact ⟨_, _, rfl, Kd.R_nil _ _ _ _ _, Kd.R_nil _ _ _ _ _, HB3.out.trans HB4.out⟩
  rw [if_pos c] at HR1
  have cb : (at3 != (a0.size : Int)) = false := bne_eq_false_iff_eq.mpr c
  clear c
  simp only [Option.some.injEq, Prod.mk.injEq] at HR1
  obtain ⟨rfl, rfl, rfl, rfl, rfl, rfl⟩ := HR1
  go_wp2_with (first | ((with_reducible refine gate_dst (N := 24) rfl ?_); refine wpList_load_row rfl 38 _ rfl w2.heap.size rfl 38 _ (0, 0) _ HP3.out Tryd.underlying38 rfl zq21 ?_) | ((with_reducible refine gate_store (t := 38) (p := 2) rfl ?_); refine box_store (g := w.heap.size) (new := #[.int .i64 t1, .int .i64 t2, .int .i64 t3, .slice A3 t4.length c3, .slice A4 t5.length c4]) rfl rfl rfl rfl rfl HZ3.out rfl zq21 (by simp [Value.oneCell']) ?_; intro w4 hz4 hk4 hb4; have HZ4 := mk0 hz4; have HK4 := mk0 hk4; have HB4 := mk0 (hb4 w.heap.size (Nat.le_refl _)); clear hz4 hk4 hb4))
  refine bodyPost_ret (results_ct rfl _ _ w.heap.size 38 #[.int .i64 t1, .int .i64 t2, .int .i64 t3, .slice A3 t4.length c3, .slice A4 t5.length c4] (0, 0) _ rfl HZ4.out Tryd.underlying38 rfl zq21) rfl ?_
  have hL := HL.out
  exact ⟨_, _, rfl, Kd.R_lower (Places_R_keep HV3'.out HK4.out (by omega)) (by omega), Kd.R_lower (Places_R_keep HV4'.out HK4.out (by omega)) (by omega), HB3.out.trans HB4.out⟩
def loB (c : Int) : Int := bits .or .u8 c 32
def hxd (c : Int) : Option Int := if 48 ≤ c ∧ c ≤ 57 then some (c - 48) else if 97 ≤ loB c ∧ loB c ≤ 102 then some (loB c - 87) else none
def hxs : Int → List UInt8 → Option Int
  | acc, [] => some acc
  | acc, c :: r => (hxd (c.toNat : Int)).bind fun d => hxs (acc * 16 + d) r
def hxT : Option Int → Value
  | some v => .tuple #[.int .u64 v, .nilIface]
  | none => .tuple #[.int .u64 0, .iface 125 (.int .i64 2)]
theorem lower_calls (c : Int) (w : World) : Calls Tryd.prog 86 #[.int .u8 c] w fun e w' => e = .returned (.int .u8 (loB c)) ∧ w' = w := by
 go_enter Tryd.func86, Tryd.ntmps86
 go_wp2
 go_ret
 exact ⟨rfl, rfl⟩
set_option maxHeartbeats 32000000 in
set_option maxRecDepth 100000 in
theorem pu16 (t : ByteArray) (hsz : t.size = 4) (w : World) :
 Calls Tryd.prog 83 #[.string t, .int .i64 16, .int .i64 16] w fun e w' => e = .returned (hxT (hxs 0 t.data.toList)) ∧ w' = Lib.bytesWorld w 5 t := by
 have hemp : t.toList.isEmpty = false := by
  rw [← decide_eq_emptyBytes]
  exact decide_eq_false (fun h => by rw [h] at hsz; revert hsz; decide)
 have hcv := Lib.run_convert_string_bytes (P := Tryd.prog) w 9 29 5 t (u := .string) Tryd.underlying9 Tryd.underlying29 Tryd.underlying5
 have hB : ∀ j, j < t.size → (Lib.bytesWorld w 5 t).cell? ⟨w.heap.size, j, none⟩ = some (.int .u8 (t.data.toList.getD j 0).toNat) := fun j hj => Lib.bytesWorld_cell w 5 t j hj
 obtain ⟨W1, hW1⟩ : ∃ W1, W1 = Lib.bytesWorld w 5 t := ⟨_, rfl⟩
 rw [← hW1] at hcv hB ⊢
 clear hW1
 obtain ⟨bs, hL⟩ : ∃ bs, bs = t.data.toList := ⟨_, rfl⟩
 have hLn : bs.length = t.size := by rw [hL, Lib.size_eq]
 rw [← hL] at hB ⊢
 clear hL
 go_enter Tryd.func83, Tryd.ntmps83
 go_wp2
 go_loop [12, 13, 101] (fun vu vn vi => ∃ (k : Nat) (a : Int), vu = .bool false ∧ vn = .int .u64 a ∧ vi = .int .i64 k ∧ k ≤ t.size ∧ Hid (0 ≤ a ∧ a < 16 ^ k ∧ hxs 0 bs = hxs a (bs.drop k)))
  (fun _ _ vi => t.size - (intOf vi).toNat)
 case atStart => exact ⟨0, 0, rfl, rfl, rfl, by omega, Lib.hid ⟨by omega, by decide, rfl⟩⟩
 case round =>
  obtain ⟨k, a, rfl, rfl, rfl, hk, hh⟩ := hrel
  obtain ⟨ha, hacc, hdec⟩ := hh.out
  clear hh
  have h4 : k ≤ 4 := by omega
  have hle : a < 65536 := by
   have h1 : (16 : Nat) ^ k ≤ 16 ^ 4 := Nat.pow_le_pow_right zq40 h4
   have h2 : ((16 ^ k : Nat) : Int) ≤ ((16 ^ 4 : Nat) : Int) := by exact_mod_cast h1
   have h3 : (16 : Int) ^ k ≤ 65536 := by simpa using h2
   omega
  by_cases hkn : k < t.size
  rotate_left
  ·have hkk : k = t.size := by omega
   subst hkk
   have hF : hxs a (bs.drop t.size) = some a := by rw [List.drop_eq_nil_of_le (by omega)]; rfl
   rw [hF] at hdec
   clear hF hacc
   go_wp2
   go_ret2
   exact ⟨rfl, rfl⟩
  have hc := hB k hkn
  have hdrop : bs.drop k = bs[k]'(by omega) :: bs.drop (k + 1) := List.drop_eq_getElem_cons (by omega)
  have hget : bs.getD k 0 = bs[k]'(by omega) := by simp [List.getD, List.getElem?_eq_getElem (show k < bs.length by omega)]
  rw [hdrop] at hdec
  rw [hget] at hc
  generalize bs[k]'(by omega) = c at hc hdec
  have hc256 : c.toNat < 256 := c.toNat_lt
  clear hB hdrop hget
  have hle2 : a < 4096 := by
   have h1 : (16 : Nat) ^ k ≤ 16 ^ 3 := Nat.pow_le_pow_right zq40 (by omega)
   have h2 : ((16 ^ k : Nat) : Int) ≤ ((16 ^ 3 : Nat) : Int) := by exact_mod_cast h1
   have h3 : (16 : Int) ^ k ≤ 4096 := by simpa using h2
   omega
  have hv0 : 0 ≤ loB (c.toNat : Int) := bits_lo_u8 .or (c.toNat : Int) 32
  have hv1 : loB (c.toNat : Int) ≤ 255 := by have := bits_hi_u8 .or (c.toNat : Int) 32; unfold loB; omega
  by_cases hdig : 48 ≤ c.toNat ∧ c.toNat ≤ 57
  ·obtain ⟨hd0, hd1⟩ := hdig
   have hF : hxd (c.toNat : Int) = some ((c.toNat : Int) - 48) := by rw [hxd, if_pos (by omega)]
   have HN : Hid (0 ≤ a * 16 + ((c.toNat : Int) - 48) ∧ a * 16 + ((c.toNat : Int) - 48) < 16 ^ (k + 1) ∧ hxs 0 bs = hxs (a * 16 + ((c.toNat : Int) - 48)) (bs.drop (k + 1))) := Lib.hid ⟨by omega, by rw [Int.pow_succ]; omega, by rw [hdec, hxs, hF, Option.bind_some]⟩
   have icut : a < 1152921504606846976 := by omega
   have iov : a * 16 + ((c.toNat : Int) - 48) ≤ 65535 := by omega
   clear hF hdec hacc hv0 hv1
   go_wp2
   refine ⟨⟨k + 1, a * 16 + ((c.toNat : Int) - 48), rfl, zq53, zq53, by omega, HN⟩, by simp [intOf]; omega⟩
  have low : ∀ W, Calls Tryd.prog 86 #[.int .u8 (c.toNat : Int)] W fun e w' => e = .returned (.int .u8 (loB (c.toNat : Int))) ∧ w' = W := fun W => lower_calls _ W
  have hX0 : ∀ v, hxd (c.toNat : Int) = v → hxs 0 bs = v.bind fun d => hxs (a * 16 + d) (bs.drop (k + 1)) := fun v e => by rw [hdec, hxs, e]
  have hY : hxd (c.toNat : Int) = if 97 ≤ loB (c.toNat : Int) ∧ loB (c.toNat : Int) ≤ 102 then some (loB (c.toNat : Int) - 87) else none := by rw [hxd, if_neg (by omega)]
  have hX := hX0 _ hY
  clear hX0 hY hdec
  have h95L : (c.toNat : Int) = 95 → loB (c.toNat : Int) = 127 := fun e => by
   rw [e]
   decide
  generalize loB (c.toNat : Int) = L at hv0 hv1 low hX h95L
  by_cases hlet : 97 ≤ L ∧ L ≤ 122
  rotate_left
  ·rw [if_neg (by omega), Option.bind_none] at hX
   clear hacc
   by_cases h95 : (c.toNat : Int) = 95
   rotate_left
   ·go_wp2_with (go_at_call 86; refine (low _).mono ?_; rintro e w' ⟨rfl, rfl⟩)
    all_goals go_ret2
    all_goals first | exact ⟨rfl, rfl⟩ | exact ⟨by rw [hX]; rfl, rfl⟩
   have hl := h95L h95
   subst hl
   clear h95L
   rw [h95] at low hc
   go_wp2_with (go_at_call 86; refine (low _).mono ?_; rintro e w' ⟨rfl, rfl⟩)
   all_goals go_ret2
   all_goals first | exact ⟨rfl, rfl⟩ | exact ⟨by rw [hX]; rfl, rfl⟩
  obtain ⟨hl0, hl1⟩ := hlet
  have hn95 : ¬ (c.toNat : Int) = 95 := fun e => by
   have := h95L e
   omega
  clear h95L
  by_cases hx : L ≤ 102
  rotate_left
  ·rw [if_neg (by omega), Option.bind_none] at hX
   have hx' : 103 ≤ L := by omega
   clear hacc hx
   go_wp2_with (go_at_call 86; refine (low _).mono ?_; rintro e w' ⟨rfl, rfl⟩)
   all_goals go_ret2
   all_goals first | exact ⟨rfl, rfl⟩ | exact ⟨by rw [hX]; rfl, rfl⟩
  rw [if_pos ⟨hl0, hx⟩, Option.bind_some] at hX
  have HN : Hid (0 ≤ a * 16 + (L - 87) ∧ a * 16 + (L - 87) < 16 ^ (k + 1) ∧ hxs 0 bs = hxs (a * 16 + (L - 87)) (bs.drop (k + 1))) := Lib.hid ⟨by omega, by rw [Int.pow_succ]; omega, hX⟩
  have icut : a < 1152921504606846976 := by omega
  have iov : a * 16 + (L - 87) ≤ 65535 := by omega
  clear hX hacc
  go_wp2_with (go_at_call 86; refine (low _).mono ?_; rintro e w' ⟨rfl, rfl⟩)
  all_goals refine ⟨⟨k + 1, a * 16 + (L - 87), rfl, zq53, zq53, by omega, HN⟩, by simp [intOf]; omega⟩
theorem pub16 (t : ByteArray) (hsz : t.size = 4) (ev : Value) (w : World) (hv : w.cell? ⟨16, 0, none⟩ = some ev) (hev : ev = .nilIface ∨ ∃ te pe, ev = .iface te pe) :
 Calls Tryd.prog 79 #[.string t, .int .i64 16, .int .i64 16] w fun e w' => (∀ v, hxs 0 t.data.toList = some v → e = .returned (.tuple #[.int .u64 v, .nilIface])) ∧ (hxs 0 t.data.toList = none → ∃ N, e = .returned (.tuple #[.int .u64 0, .iface 126 (.pointer (some ⟨N, 0, none⟩))])) ∧ Below w.heap.size w w' := by
 have hG : (16 : Nat) < w.heap.size := Lib.lt_of_cell hv
 have hI := pu16 t hsz w
 have hT : ∀ W, W.cell? ⟨16, 0, none⟩ = some ev → Calls Tryd.prog 84 #[.string ⟨#[80, 97, 114, 115, 101, 85, 105, 110, 116]⟩, .string t, .int .i64 16, .int .i64 16, .iface 125 (.int .i64 2)] W fun e w' => ∃ N, e = .returned (.iface 126 (.pointer (some ⟨N, 0, none⟩))) ∧ Below W.heap.size W w' := fun W hW => by
  refine (show Calls Tryd.prog 84 #[.string ⟨#[80, 97, 114, 115, 101, 85, 105, 110, 116]⟩, .string t, .int .i64 16, .int .i64 16, .iface 125 (.int .i64 2)] W _ from AnyPu.strconv_toError_syntax (ρ := Tryd.laysPu14_ren) { Tryd.laysPu14 with } ⟨#[80, 97, 114, 115, 101, 85, 105, 110, 116]⟩ t 16 16 ev W (by omega) hW hev).mono ?_
  rintro e w' ⟨N, rfl, _, _, hb⟩
  exact ⟨N, rfl, hb⟩
 have hb1 : Below w.heap.size w (Lib.bytesWorld w 5 t) := Lib.bytesWorld_below _ _ _
 have hv1 : (Lib.bytesWorld w 5 t).cell? ⟨16, 0, none⟩ = some ev := (hb1.cell (show (⟨16, 0, none⟩ : Addr).block < w.heap.size from hG)).trans hv
 generalize Lib.bytesWorld w 5 t = W1 at hI hb1 hv1
 cases hx : hxs 0 t.data.toList with
 | some v =>
  rw [hx] at hI
  have hI : Calls Tryd.prog 83 #[.string t, .int .i64 16, .int .i64 16] w fun e w' => e = .returned (.tuple #[.int .u64 v, .nilIface]) ∧ w' = W1 := hI
  clear hT
  go_enter Tryd.func79, Tryd.ntmps79
  go_wp2_with (go_at_call 83; refine hI.mono ?_; rintro e W2 ⟨rfl, rfl⟩)
  go_wp2
  go_ret2
  exact ⟨fun v' e => (by cases e; rfl), fun e => (by cases e), hb1⟩
 | none =>
  rw [hx] at hI
  have hI : Calls Tryd.prog 83 #[.string t, .int .i64 16, .int .i64 16] w fun e w' => e = .returned (.tuple #[.int .u64 0, .iface 125 (.int .i64 2)]) ∧ w' = W1 := hI
  have hT := hT W1 hv1
  go_enter Tryd.func79, Tryd.ntmps79
  go_wp2_with (go_at_call 83; refine hI.mono ?_; rintro e W2 ⟨rfl, rfl⟩)
  go_wp2_with (go_at_call 84; refine hT.mono ?_; rintro e W3 ⟨N, rfl, h3⟩)
  go_wp2
  go_ret2
  exact ⟨fun v' e => (by cases e), fun _ => ⟨N, rfl⟩, hb1.trans (h3.mono hb1.size)⟩
set_option maxHeartbeats 32000000 in
set_option maxRecDepth 100000 in
theorem pu16w (t : ByteArray) (hsz : t.size = 4) (w : World) :
 Calls Tryd.prog 83 #[.string t, .int .i64 16, .int .i64 64] w fun e w' => e = .returned (hxT (hxs 0 t.data.toList)) ∧ w' = Lib.bytesWorld w 5 t := by
 have hmx : IntKind.u64.wrap (IntKind.u64.wrap 18446744073709551616 - 1) = 18446744073709551615 := by decide
 have hemp : t.toList.isEmpty = false := by
  rw [← decide_eq_emptyBytes]
  exact decide_eq_false (fun h => by rw [h] at hsz; revert hsz; decide)
 have hcv := Lib.run_convert_string_bytes (P := Tryd.prog) w 9 29 5 t (u := .string) Tryd.underlying9 Tryd.underlying29 Tryd.underlying5
 have hB : ∀ j, j < t.size → (Lib.bytesWorld w 5 t).cell? ⟨w.heap.size, j, none⟩ = some (.int .u8 (t.data.toList.getD j 0).toNat) := fun j hj => Lib.bytesWorld_cell w 5 t j hj
 obtain ⟨W1, hW1⟩ : ∃ W1, W1 = Lib.bytesWorld w 5 t := ⟨_, rfl⟩
 rw [← hW1] at hcv hB ⊢
 clear hW1
 obtain ⟨bs, hL⟩ : ∃ bs, bs = t.data.toList := ⟨_, rfl⟩
 have hLn : bs.length = t.size := by rw [hL, Lib.size_eq]
 rw [← hL] at hB ⊢
 clear hL
 go_enter Tryd.func83, Tryd.ntmps83
 go_wp2
 go_loop [12, 13, 101] (fun vu vn vi => ∃ (k : Nat) (a : Int), vu = .bool false ∧ vn = .int .u64 a ∧ vi = .int .i64 k ∧ k ≤ t.size ∧ Hid (0 ≤ a ∧ a < 16 ^ k ∧ hxs 0 bs = hxs a (bs.drop k)))
  (fun _ _ vi => t.size - (intOf vi).toNat)
 case atStart => exact ⟨0, 0, rfl, rfl, rfl, by omega, Lib.hid ⟨by omega, by decide, rfl⟩⟩
 case round =>
  obtain ⟨k, a, rfl, rfl, rfl, hk, hh⟩ := hrel
  obtain ⟨ha, hacc, hdec⟩ := hh.out
  clear hh
  have h4 : k ≤ 4 := by omega
  have hle : a < 65536 := by
   have h1 : (16 : Nat) ^ k ≤ 16 ^ 4 := Nat.pow_le_pow_right zq40 h4
   have h2 : ((16 ^ k : Nat) : Int) ≤ ((16 ^ 4 : Nat) : Int) := by exact_mod_cast h1
   have h3 : (16 : Int) ^ k ≤ 65536 := by simpa using h2
   omega
  by_cases hkn : k < t.size
  rotate_left
  ·have hkk : k = t.size := by omega
   subst hkk
   have hF : hxs a (bs.drop t.size) = some a := by rw [List.drop_eq_nil_of_le (by omega)]; rfl
   rw [hF] at hdec
   clear hF hacc
   go_wp2
   go_ret2
   exact ⟨rfl, rfl⟩
  have hc := hB k hkn
  have hdrop : bs.drop k = bs[k]'(by omega) :: bs.drop (k + 1) := List.drop_eq_getElem_cons (by omega)
  have hget : bs.getD k 0 = bs[k]'(by omega) := by simp [List.getD, List.getElem?_eq_getElem (show k < bs.length by omega)]
  rw [hdrop] at hdec
  rw [hget] at hc
  generalize bs[k]'(by omega) = c at hc hdec
  have hc256 : c.toNat < 256 := c.toNat_lt
  clear hB hdrop hget
  have hle2 : a < 4096 := by
   have h1 : (16 : Nat) ^ k ≤ 16 ^ 3 := Nat.pow_le_pow_right zq40 (by omega)
   have h2 : ((16 ^ k : Nat) : Int) ≤ ((16 ^ 3 : Nat) : Int) := by exact_mod_cast h1
   have h3 : (16 : Int) ^ k ≤ 4096 := by simpa using h2
   omega
  have hv0 : 0 ≤ loB (c.toNat : Int) := bits_lo_u8 .or (c.toNat : Int) 32
  have hv1 : loB (c.toNat : Int) ≤ 255 := by have := bits_hi_u8 .or (c.toNat : Int) 32; unfold loB; omega
  by_cases hdig : 48 ≤ c.toNat ∧ c.toNat ≤ 57
  ·obtain ⟨hd0, hd1⟩ := hdig
   have hF : hxd (c.toNat : Int) = some ((c.toNat : Int) - 48) := by rw [hxd, if_pos (by omega)]
   have HN : Hid (0 ≤ a * 16 + ((c.toNat : Int) - 48) ∧ a * 16 + ((c.toNat : Int) - 48) < 16 ^ (k + 1) ∧ hxs 0 bs = hxs (a * 16 + ((c.toNat : Int) - 48)) (bs.drop (k + 1))) := Lib.hid ⟨by omega, by rw [Int.pow_succ]; omega, by rw [hdec, hxs, hF, Option.bind_some]⟩
   have icut : a < 1152921504606846976 := by omega
   have iov : a * 16 + ((c.toNat : Int) - 48) ≤ 65535 := by omega
   have iow : a * 16 + ((c.toNat : Int) - 48) ≤ 18446744073709551615 := by omega
   clear hF hdec hacc hv0 hv1
   go_wp2
   refine ⟨⟨k + 1, a * 16 + ((c.toNat : Int) - 48), rfl, zq53, zq53, by omega, HN⟩, by simp [intOf]; omega⟩
  have low : ∀ W, Calls Tryd.prog 86 #[.int .u8 (c.toNat : Int)] W fun e w' => e = .returned (.int .u8 (loB (c.toNat : Int))) ∧ w' = W := fun W => lower_calls _ W
  have hX0 : ∀ v, hxd (c.toNat : Int) = v → hxs 0 bs = v.bind fun d => hxs (a * 16 + d) (bs.drop (k + 1)) := fun v e => by rw [hdec, hxs, e]
  have hY : hxd (c.toNat : Int) = if 97 ≤ loB (c.toNat : Int) ∧ loB (c.toNat : Int) ≤ 102 then some (loB (c.toNat : Int) - 87) else none := by rw [hxd, if_neg (by omega)]
  have hX := hX0 _ hY
  clear hX0 hY hdec
  have h95L : (c.toNat : Int) = 95 → loB (c.toNat : Int) = 127 := fun e => by
   rw [e]
   decide
  generalize loB (c.toNat : Int) = L at hv0 hv1 low hX h95L
  by_cases hlet : 97 ≤ L ∧ L ≤ 122
  rotate_left
  ·rw [if_neg (by omega), Option.bind_none] at hX
   clear hacc
   by_cases h95 : (c.toNat : Int) = 95
   rotate_left
   ·go_wp2_with (go_at_call 86; refine (low _).mono ?_; rintro e w' ⟨rfl, rfl⟩)
    all_goals go_ret2
    all_goals first | exact ⟨rfl, rfl⟩ | exact ⟨by rw [hX]; rfl, rfl⟩
   have hl := h95L h95
   subst hl
   clear h95L
   rw [h95] at low hc
   go_wp2_with (go_at_call 86; refine (low _).mono ?_; rintro e w' ⟨rfl, rfl⟩)
   all_goals go_ret2
   all_goals first | exact ⟨rfl, rfl⟩ | exact ⟨by rw [hX]; rfl, rfl⟩
  obtain ⟨hl0, hl1⟩ := hlet
  have hn95 : ¬ (c.toNat : Int) = 95 := fun e => by
   have := h95L e
   omega
  clear h95L
  by_cases hx : L ≤ 102
  rotate_left
  ·rw [if_neg (by omega), Option.bind_none] at hX
   have hx' : 103 ≤ L := by omega
   clear hacc hx
   go_wp2_with (go_at_call 86; refine (low _).mono ?_; rintro e w' ⟨rfl, rfl⟩)
   all_goals go_ret2
   all_goals first | exact ⟨rfl, rfl⟩ | exact ⟨by rw [hX]; rfl, rfl⟩
  rw [if_pos ⟨hl0, hx⟩, Option.bind_some] at hX
  have HN : Hid (0 ≤ a * 16 + (L - 87) ∧ a * 16 + (L - 87) < 16 ^ (k + 1) ∧ hxs 0 bs = hxs (a * 16 + (L - 87)) (bs.drop (k + 1))) := Lib.hid ⟨by omega, by rw [Int.pow_succ]; omega, hX⟩
  have icut : a < 1152921504606846976 := by omega
  have iov : a * 16 + (L - 87) ≤ 65535 := by omega
  have iow : a * 16 + (L - 87) ≤ 18446744073709551615 := by omega
  clear hX hacc
  go_wp2_with (go_at_call 86; refine (low _).mono ?_; rintro e w' ⟨rfl, rfl⟩)
  all_goals refine ⟨⟨k + 1, a * 16 + (L - 87), rfl, zq53, zq53, by omega, HN⟩, by simp [intOf]; omega⟩
set_option maxRecDepth 100000 in
theorem pub16w (t : ByteArray) (hsz : t.size = 4) (ev : Value) (w : World) (hv : w.cell? ⟨16, 0, none⟩ = some ev) (hev : ev = .nilIface ∨ ∃ te pe, ev = .iface te pe) :
 Calls Tryd.prog 79 #[.string t, .int .i64 16, .int .i64 64] w fun e w' => (∀ v, hxs 0 t.data.toList = some v → e = .returned (.tuple #[.int .u64 v, .nilIface])) ∧ (hxs 0 t.data.toList = none → ∃ N, e = .returned (.tuple #[.int .u64 0, .iface 126 (.pointer (some ⟨N, 0, none⟩))])) ∧ Below w.heap.size w w' := by
 have hG : (16 : Nat) < w.heap.size := Lib.lt_of_cell hv
 have hI := pu16w t hsz w
 have hT : ∀ W, W.cell? ⟨16, 0, none⟩ = some ev → Calls Tryd.prog 84 #[.string ⟨#[80, 97, 114, 115, 101, 85, 105, 110, 116]⟩, .string t, .int .i64 16, .int .i64 64, .iface 125 (.int .i64 2)] W fun e w' => ∃ N, e = .returned (.iface 126 (.pointer (some ⟨N, 0, none⟩))) ∧ Below W.heap.size W w' := fun W hW => by
  refine (show Calls Tryd.prog 84 #[.string ⟨#[80, 97, 114, 115, 101, 85, 105, 110, 116]⟩, .string t, .int .i64 16, .int .i64 64, .iface 125 (.int .i64 2)] W _ from AnyPu.strconv_toError_syntax (ρ := Tryd.laysPu14_ren) { Tryd.laysPu14 with } ⟨#[80, 97, 114, 115, 101, 85, 105, 110, 116]⟩ t 16 64 ev W (by omega) hW hev).mono ?_
  rintro e w' ⟨N, rfl, _, _, hb⟩
  exact ⟨N, rfl, hb⟩
 have hb1 : Below w.heap.size w (Lib.bytesWorld w 5 t) := Lib.bytesWorld_below _ _ _
 have hv1 : (Lib.bytesWorld w 5 t).cell? ⟨16, 0, none⟩ = some ev := (hb1.cell (show (⟨16, 0, none⟩ : Addr).block < w.heap.size from hG)).trans hv
 generalize Lib.bytesWorld w 5 t = W1 at hI hb1 hv1
 cases hx : hxs 0 t.data.toList with
 | some v =>
  rw [hx] at hI
  have hI : Calls Tryd.prog 83 #[.string t, .int .i64 16, .int .i64 64] w fun e w' => e = .returned (.tuple #[.int .u64 v, .nilIface]) ∧ w' = W1 := hI
  clear hT
  go_enter Tryd.func79, Tryd.ntmps79
  go_wp2_with (go_at_call 83; refine hI.mono ?_; rintro e W2 ⟨rfl, rfl⟩)
  go_wp2
  go_ret2
  exact ⟨fun v' e => (by cases e; rfl), fun e => (by cases e), hb1⟩
 | none =>
  rw [hx] at hI
  have hI : Calls Tryd.prog 83 #[.string t, .int .i64 16, .int .i64 64] w fun e w' => e = .returned (.tuple #[.int .u64 0, .iface 125 (.int .i64 2)]) ∧ w' = W1 := hI
  have hT := hT W1 hv1
  go_enter Tryd.func79, Tryd.ntmps79
  go_wp2_with (go_at_call 83; refine hI.mono ?_; rintro e W2 ⟨rfl, rfl⟩)
  go_wp2_with (go_at_call 84; refine hT.mono ?_; rintro e W3 ⟨N, rfl, h3⟩)
  go_wp2
  go_ret2
  exact ⟨fun v' e => (by cases e), fun _ => ⟨N, rfl⟩, hb1.trans (h3.mono hb1.size)⟩
def strconv_ParseUint_79.f (a0 : ByteArray) (a1 a2 : Int) : Option (Int × Option Int) :=
  if a1 = 10 ∧ a2 = 64 ∧ a0.size ≤ 281474976710656 then some (match Lib.parseUintB 64 a0.data.toList with | .ok u => ((u : Int), none) | .range => (18446744073709551615, some 0) | _ => (0, some 0))
  else if a1 = 16 ∧ a2 = 16 ∧ a0.size = 4 then some (match hxs 0 a0.data.toList with | some v => (v, none) | none => (0, some 0))
  else if a1 = 16 ∧ a2 = 64 ∧ a0.size = 4 then some (match hxs 0 a0.data.toList with | some v => (v, none) | none => (0, some 0)) else none
theorem strconv_ParseUint_79.calls (a0 : ByteArray) (a1 a2 : Int) (r1 : Int) (r2 : Option Int) (w : World) (hG : Laid w) (h : strconv_ParseUint_79.f a0 a1 a2 = some (r1, r2)) :
 Calls Tryd.prog 79 #[.string a0, .int .i64 a1, .int .i64 a2] w fun e w' => ∃ z_r2 : Option Int, Zk z_r2 r2 ∧ e = .returned (.tuple #[.int .u64 r1, errW z_r2]) ∧ Below w.heap.size w w' := by
 simp only [strconv_ParseUint_79.f] at h
 split at h
 case isFalse =>
  split at h
  case isFalse =>
   split at h
   case isFalse => cases h
   case isTrue hc =>
   obtain ⟨rfl, rfl, hs⟩ := hc
   obtain ⟨te, pe, hes⟩ := hG.errS
   refine (pub16w a0 hs _ w hes (Or.inr ⟨_, _, rfl⟩)).mono ?_
   rintro e w' ⟨h1, h2, hb⟩
   cases hx : hxs 0 a0.data.toList with
   | some v =>
    rw [hx] at h
    cases h
    exact ⟨none, rfl, h1 _ hx, hb⟩
   | none =>
    rw [hx] at h
    cases h
    obtain ⟨N, rfl⟩ := h2 hx
    obtain ⟨z, hz, e⟩ := errW_mk 126 N zq40
    exact ⟨z, hz, by rw [← e], hb⟩
  case isTrue hc =>
  obtain ⟨rfl, rfl, hs⟩ := hc
  obtain ⟨te, pe, hes⟩ := hG.errS
  refine (pub16 a0 hs _ w hes (Or.inr ⟨_, _, rfl⟩)).mono ?_
  rintro e w' ⟨h1, h2, hb⟩
  cases hx : hxs 0 a0.data.toList with
  | some v =>
   rw [hx] at h
   cases h
   exact ⟨none, rfl, h1 _ hx, hb⟩
  | none =>
   rw [hx] at h
   cases h
   obtain ⟨N, rfl⟩ := h2 hx
   obtain ⟨z, hz, e⟩ := errW_mk 126 N zq40
   exact ⟨z, hz, by rw [← e], hb⟩
 case isTrue hc =>
 obtain ⟨rfl, rfl, hs⟩ := hc
 obtain ⟨te, pe, hes⟩ := hG.errS
 obtain ⟨te', pe', her⟩ := hG.errR
 cases hp : Lib.parseUintB 64 a0.data.toList with
 | ok u =>
  rw [hp] at h
  cases h
  refine (Tryd.strconv_ParseUint_10_at64_ok a0 (by omega) u hp w).mono ?_
  rintro e w' ⟨rfl, hw⟩
  refine ⟨none, rfl, rfl, ?_⟩
  rcases hw with rfl | rfl
  ·exact Below.refl _ _
  exact Lib.bytesWorld_below _ _ _
 | range =>
  rw [hp] at h
  cases h
  refine (Tryd.strconv_ParseUint_10_at64_range a0 hs hp _ w her (Or.inr ⟨_, _, rfl⟩)).mono ?_
  rintro e w' ⟨N, rfl, _, _, hb⟩
  obtain ⟨z, hz, e⟩ := errW_mk 126 N zq40
  exact ⟨z, hz, by rw [← e], hb⟩
 | _ =>
  rw [hp] at h
  cases h
  refine (Tryd.strconv_ParseUint_10_at64_syntax a0 hs hp _ w hes (Or.inr ⟨_, _, rfl⟩)).mono ?_
  rintro e w' ⟨N, rfl, _, _, hb⟩
  obtain ⟨z, hz, e⟩ := errW_mk 126 N zq40
  exact ⟨z, hz, by rw [← e], hb⟩
def gjson_runeit.f (a0 : ByteArray) : Option (Int) := if 0 ≤ 4 then (if 4 ≤ (a0.size : Int) then ((strconv_ParseUint_79.f (a0.extract 0 4) 16 64).bind fun bt101 => (some (wrap32 (bt101.1)))) else (none)) else (none)
set_option maxHeartbeats 8000000 in
set_option maxRecDepth 100000 in
theorem gjson_runeit.calls (a0 : ByteArray) (r : Int) (w : World) (hG : Laid w) (h : gjson_runeit.f a0 = some r) :
 Calls Tryd.prog 71 #[.string a0] w fun e w' => e = .returned (.int .i32 r) ∧ Below w.heap.size w w' := by
 have HG := mk0 hG
 clear hG
 have HB := mk0 (Below.refl w.heap.size w)
 have H : (if 0 ≤ 4 then (if 4 ≤ (a0.size : Int) then ((strconv_ParseUint_79.f (a0.extract 0 4) 16 64).bind fun bt101 => (some (wrap32 (bt101.1)))) else (none)) else (none)) = some r := h
 clear h
 by_cases c2 : 0 ≤ 4
 rotate_left
 ·rw [if_neg c2] at H
  exact absurd H (by simp)
 rw [if_pos c2] at H
 have c2b0 := eq_true c2
 have c2b1 : decide (0 ≤ 4) = true := decide_eq_true c2
 clear c2
 by_cases c3 : 4 ≤ (a0.size : Int)
 rotate_left
 ·rw [if_neg c3] at H
  exact absurd H (by simp)
 rw [if_pos c3] at H
 have c3b0 := eq_true c3
 have c3b1 : decide (4 ≤ (a0.size : Int)) = true := decide_eq_true c3
 clear c3
 replace H := Option.bind_eq_some_iff.mp H
 obtain ⟨⟨t101, t102⟩, A40, H⟩ := H
 replace H : (some (wrap32 (t101))) = some r := H
 have A4 := mk0 A40
 clear A40
 obtain rfl := Option.some.inj H
 go_enter Tryd.func71, Tryd.ntmps71
 go_wp2_with (first | ((with_reducible refine gate_callee (f := 79) rfl ?_); refine goesL_ (some 8) rfl rfl Tryd.func79 zq21 rfl #[.string (a0.extract 0 4), .int .i64 16, .int .i64 64] rfl zq3 ?_; (with_reducible refine (strconv_ParseUint_79.calls (a0.extract 0 4) 16 64 t101 t102 _ ?side1 A4.out).mono ?_); (case side1 => first | exact HG.out | exact Laid.below HG.out zq25); rintro e w5 ⟨z_t102, hz_t102, rfl, hb⟩; have Hz_t102 := mk0 hz_t102; clear hz_t102; refine ⟨_, rfl, ?_⟩; have n0_ := mk0 (below_step zq25 hb); clear HB; have HB := n0_; clear n0_; (try clear hb); (try clear hb2); (try clear hk); (try clear hi); (try simp only [errW_none, errW_some])))
 go_ret
 exact ⟨by first | rfl | (simp [errW_none, errW_some] <;> rfl) | (simp [*, errW_none, errW_some] <;> rfl), by repeat (first | (with_reducible first | exact HB.out | apply below_alloc | apply pw_below_drewN | apply below_drew1) | exact HB.out)⟩
def utf16_IsSurrogate.f (a0 : Int) : Option (Bool) := if 55296 ≤ a0 then (some (decide (a0 < 57344))) else (some false)
set_option maxHeartbeats 8000000 in
set_option maxRecDepth 100000 in
theorem utf16_IsSurrogate.calls (a0 : Int) (r : Bool) (w : World) (h : utf16_IsSurrogate.f a0 = some r) :
 Calls Tryd.prog 72 #[.int .i32 a0] w fun e w' => e = .returned (.bool r) ∧ Drawn0 w w' := by
 have H : (if 55296 ≤ a0 then (some (decide (a0 < 57344))) else (some false)) = some r := h
 clear h
 by_cases c2 : 55296 ≤ a0
 ·rw [if_pos c2] at H
  have c2b0 : decide (55296 ≤ a0) = true := decide_eq_true c2
  clear c2
  obtain rfl := Option.some.inj H
  go_enter Tryd.func72, Tryd.ntmps72
  go_wp2
  go_ret
  exact ⟨by first | rfl | (simp; done) | (simp [*]; done), by repeat (first | exact Drawn0.refl _ | apply Drawn0.step)⟩
 rw [if_neg c2] at H
 have c2b0 : decide (55296 ≤ a0) = false := decide_eq_false c2
 clear c2
 obtain rfl := Option.some.inj H
 go_enter Tryd.func72, Tryd.ntmps72
 go_wp2
 go_ret
 exact ⟨by first | rfl | (simp; done) | (simp [*]; done), by repeat (first | exact Drawn0.refl _ | apply Drawn0.step)⟩
def utf16_DecodeRune.f (a0 : Int) (a1 : Int) : Option (Int) := if 55296 ≤ a0 then (if a0 < 56320 then (if 56320 ≤ a1 then (if a1 < 57344 then (some (wrap32 ((Go.bits .or .i32 (wrap32 ((wrap32 (a0 - 55296)) * 1024)) (wrap32 (a1 - 56320))) + 65536))) else (some 65533)) else (some 65533)) else (some 65533)) else (some 65533)
set_option maxHeartbeats 8000000 in
set_option maxRecDepth 100000 in
theorem utf16_DecodeRune.calls (a0 : Int) (a1 : Int) (r : Int) (w : World) (h : utf16_DecodeRune.f a0 a1 = some r) :
 Calls Tryd.prog 73 #[.int .i32 a0, .int .i32 a1] w fun e w' => e = .returned (.int .i32 r) ∧ Drawn0 w w' := by
 have H : (if 55296 ≤ a0 then (if a0 < 56320 then (if 56320 ≤ a1 then (if a1 < 57344 then (some (wrap32 ((Go.bits .or .i32 (wrap32 ((wrap32 (a0 - 55296)) * 1024)) (wrap32 (a1 - 56320))) + 65536))) else (some 65533)) else (some 65533)) else (some 65533)) else (some 65533)) = some r := h
 clear h
 by_cases c3 : 55296 ≤ a0
 rotate_left
 ·rw [if_neg c3] at H
  have c3b0 : decide (55296 ≤ a0) = false := decide_eq_false c3
  clear c3
  obtain rfl := Option.some.inj H
  go_enter Tryd.func73, Tryd.ntmps73
  go_wp2
  go_ret
  exact ⟨by first | rfl | (simp; done) | (simp [*]; done), by repeat (first | exact Drawn0.refl _ | apply Drawn0.step)⟩
 rw [if_pos c3] at H
 have c3b0 : decide (55296 ≤ a0) = true := decide_eq_true c3
 clear c3
 by_cases c4 : a0 < 56320
 rotate_left
 ·rw [if_neg c4] at H
  have c4b0 : decide (a0 < 56320) = false := decide_eq_false c4
  clear c4
  obtain rfl := Option.some.inj H
  go_enter Tryd.func73, Tryd.ntmps73
  go_wp2
  go_ret
  exact ⟨by first | rfl | (simp; done) | (simp [*]; done), by repeat (first | exact Drawn0.refl _ | apply Drawn0.step)⟩
 rw [if_pos c4] at H
 have c4b0 : decide (a0 < 56320) = true := decide_eq_true c4
 clear c4
 by_cases c5 : 56320 ≤ a1
 rotate_left
 ·rw [if_neg c5] at H
  have c5b0 : decide (56320 ≤ a1) = false := decide_eq_false c5
  clear c5
  obtain rfl := Option.some.inj H
  go_enter Tryd.func73, Tryd.ntmps73
  go_wp2
  go_ret
  exact ⟨by first | rfl | (simp; done) | (simp [*]; done), by repeat (first | exact Drawn0.refl _ | apply Drawn0.step)⟩
 rw [if_pos c5] at H
 have c5b0 : decide (56320 ≤ a1) = true := decide_eq_true c5
 clear c5
 by_cases c6 : a1 < 57344
 ·rw [if_pos c6] at H
  have c6b0 : decide (a1 < 57344) = true := decide_eq_true c6
  clear c6
  obtain rfl := Option.some.inj H
  go_enter Tryd.func73, Tryd.ntmps73
  go_wp2
  go_ret
  exact ⟨by first | rfl | (simp; done) | (simp [*]; done), by repeat (first | exact Drawn0.refl _ | apply Drawn0.step)⟩
 rw [if_neg c6] at H
 have c6b0 : decide (a1 < 57344) = false := decide_eq_false c6
 clear c6
 obtain rfl := Option.some.inj H
 go_enter Tryd.func73, Tryd.ntmps73
 go_wp2
 go_ret
 exact ⟨by first | rfl | (simp; done) | (simp [*]; done), by repeat (first | exact Drawn0.refl _ | apply Drawn0.step)⟩
def eB (r : Int) : List Int :=
  if r < 128 then [r]
  else if r < 2048 then [192 + r / 64, 128 + r % 64]
  else if 55296 ≤ r ∧ r ≤ 57343 then [239, 191, 189]
  else if r < 65536 then [224 + r / 4096, 128 + r / 64 % 64, 128 + r % 64]
  else [240 + r / 262144, 128 + r / 4096 % 64, 128 + r / 64 % 64, 128 + r % 64]
theorem eB_len (r : Int) : 1 ≤ (eB r).length ∧ (eB r).length ≤ 4 := by
 unfold eB
 split
 ·simp
 split
 ·simp
 split
 ·simp
 split <;> simp
def setB (w : World) (g : Nat) : Nat → List Int → World
  | _, [] => w
  | o, b :: r => setB (w.setCell ⟨g, o, none⟩ (.int .u8 b)) g (o + 1) r
def EncPost (g off : Nat) (r : Int) (w : World) (e : Ending) (w' : World) : Prop := e = .returned (.int .i64 ((eB r).length : Int)) ∧ w' = setB w g off (eB r)
set_option maxHeartbeats 4000000 in
set_option maxRecDepth 100000 in
theorem encNon_at (g off n c : Nat) (r : Int) (w : World) (hr0 : 128 ≤ r) (hr1 : r ≤ 1114111) (hn : 4 ≤ n) (hn2 : n ≤ 9223372036854775807)
 (b0 b1 b2 b3 : Int) (h0 : w.cell? ⟨g, off, none⟩ = some (.int .u8 b0)) (h1 : w.cell? ⟨g, off + 1, none⟩ = some (.int .u8 b1)) (h2 : w.cell? ⟨g, off + 2, none⟩ = some (.int .u8 b2)) (h3 : w.cell? ⟨g, off + 3, none⟩ = some (.int .u8 b3))
 (f0 : w.frozen? ⟨g, off, none⟩ = false) (f1 : w.frozen? ⟨g, off + 1, none⟩ = false) (f2 : w.frozen? ⟨g, off + 2, none⟩ = false) (f3 : w.frozen? ⟨g, off + 3, none⟩ = false) :
 Calls Tryd.prog 63 #[.slice (some ⟨g, off, none⟩) n c, .int .i32 r] w (EncPost g off r w) := by
 have hu : (r % 4294967296) = r := by omega
 go_enter Tryd.func63, Tryd.ntmps63
 go_wp2
 all_goals
  go_ret
  unfold EncPost eB
  first
  | (rw [if_neg (by omega), if_pos (by omega)]; exact ⟨rfl, rfl⟩)
  | (rw [if_neg (by omega), if_neg (by omega), if_pos (by omega)]; exact ⟨rfl, rfl⟩)
  | (rw [if_neg (by omega), if_neg (by omega), if_neg (by omega), if_pos (by omega)]; exact ⟨rfl, rfl⟩)
  | (rw [if_neg (by omega), if_neg (by omega), if_neg (by omega), if_neg (by omega)]; exact ⟨rfl, rfl⟩)
set_option maxHeartbeats 4000000 in
set_option maxRecDepth 100000 in
theorem enc_at (g off n c : Nat) (r : Int) (w : World) (hr0 : 0 ≤ r) (hr1 : r ≤ 1114111) (hn : 4 ≤ n) (hn2 : n ≤ 9223372036854775807)
 (b0 b1 b2 b3 : Int) (h0 : w.cell? ⟨g, off, none⟩ = some (.int .u8 b0)) (h1 : w.cell? ⟨g, off + 1, none⟩ = some (.int .u8 b1)) (h2 : w.cell? ⟨g, off + 2, none⟩ = some (.int .u8 b2)) (h3 : w.cell? ⟨g, off + 3, none⟩ = some (.int .u8 b3))
 (f0 : w.frozen? ⟨g, off, none⟩ = false) (f1 : w.frozen? ⟨g, off + 1, none⟩ = false) (f2 : w.frozen? ⟨g, off + 2, none⟩ = false) (f3 : w.frozen? ⟨g, off + 3, none⟩ = false) :
 Calls Tryd.prog 40 #[.slice (some ⟨g, off, none⟩) n c, .int .i32 r] w (EncPost g off r w) := by
 by_cases hc : r < 128
 ·go_enter Tryd.func40, Tryd.ntmps40
  go_wp2
  go_ret
  unfold EncPost eB
  rw [if_pos hc]
  exact ⟨rfl, rfl⟩
 have hc1 : 127 < r := by omega
 have hc2 : 127 < r % 4294967296 := by omega
 go_enter Tryd.func40, Tryd.ntmps40
 go_wp2_with (go_at_call 63; (with_reducible refine (encNon_at g off n c r w (by omega) hr1 hn hn2 b0 b1 b2 b3 h0 h1 h2 h3 f0 f1 f2 f3).mono ?_); rintro e w' ⟨rfl, rfl⟩)
 go_ret
 exact ⟨rfl, rfl⟩
theorem R_append_lits {P : Program} {ops : Array Oper} {rest : List Oper} {o : Oper} {a : Act} {Q : Exit → Act → World → Prop} {w0 W : World} (base : Nat) (hgd : o.guard = none) (s x : Operand) (t e : TypeId) (k : IntKind) (bytes : Nat)
 (ho : o.op = .call { callee := .builtin .append, args := #[s, x], argTypes := #[t, t] })
 (ht : P.underlying t = some (.slice e)) (hinfo : (P.info? e).map (fun i => (i.zero, i.size, i.bytes)) = some (some (.int k 0), 1, bytes)) (hb0 : 0 < bytes)
 (v : Value) (xs ys : List Int) (cs : Array Value) (m : Nat) (hcs : cs.toList = nums k ys) (hm : m = ys.length) (ok : Nat → Prop) (hs : a.eval s = v) (hx : a.eval x = .slice (some ⟨W.heap.size, 0, none⟩) m m) (hok : ∀ k_, W.heap.size ≤ k_ → ok k_)
 (HO : Kd.R (Kd.int k) e W base ok v xs) (HB : Below base w0 W) (hbase : base ≤ W.heap.size) (hl : (xs.length + ys.length) * bytes ≤ 140737488355328)
 (h : ∀ v1 w1, Kd.R (Kd.int k) e w1 base ok v1 (xs ++ ys) → Below base w0 w1 → W.grownBy w1 v.ownBlock → (v1.ownBlock = v.ownBlock ∨ ∃ b, v1.ownBlock = some b ∧ W.heap.size ≤ b) → wpList P ops Q rest (a.put o.dst v1) w1) :
 wpList P ops Q (o :: rest) a (W.alloc (.cells cs e)) := by
 obtain ⟨i0, hi, hzz⟩ := Option.map_eq_some_iff.1 hinfo
 simp only [Prod.mk.injEq] at hzz
 obtain ⟨hz0, hz1, hz2⟩ := hzz
 have HOw := Kd.own_of_R HO
 have hok0 := HO.1
 have hlen : xs.length + ys.length ≤ 140737488355328 := Nat.le_trans (Nat.le_mul_of_pos_right _ hb0) hl
 have hle : (encs (Value.int k) xs).length = xs.length := by simp [encs]
 have hcl : cs.toList.length = m := by rw [hcs, hm]; simp [nums]
 refine wpList_append_own_at (W.alloc (.cells cs e)) hgd s x t ho base e i0 (.int k 0) 1 bytes ht hi hz0 hz1 hz2 rfl (by omega) v xs.length (encs (Value.int k) xs) hs (HOw.alloc _) ⟨W.heap.size, 0, none⟩ m m cs.toList hx (by rw [hcl]; omega)
  (World.news_of_block (cs := cs) (t := e) (fr := (0, 0)) (heap_alloc_new W _)) (by rw [hcs]; intro u hu; simp only [nums, List.mem_map] at hu; obtain ⟨q, _, rfl⟩ := hu; rfl) (by simp only [maxLen]; omega) (by rw [hm]; exact hl) (by simp; omega) ?_
 intro v1 w1 hown hg _ hat
 have e1 : encs (Value.int k) xs ++ cs.toList = encs (Value.int k) (xs ++ ys) := by rw [encs_append, hcs]; rfl
 have hat' : v1.ownBlock = v.ownBlock ∨ ∃ b, v1.ownBlock = some b ∧ W.heap.size ≤ b := by
  rcases hat with hat | hat
  ·exact .inl hat
  exact .inr ⟨_, hat, by simp⟩
 refine h v1 w1 (Kd.R_of_own (by rw [List.length_append, ← hm, ← e1]; exact hown) fun q hq => ?_) ((HB.alloc hbase _).grown hg (by simp; omega) (own_base HOw)) (World.grownBy.trans (World.grownBy_alloc W _ _) hg) hat'
 rcases hat' with hat' | ⟨b, hat', hb⟩
 ·exact hok0 q (hat'.symm.trans hq)
 ·rw [hat'] at hq
  cases hq
  exact hok _ hb
theorem R_make0 {P : Program} {ops : Array Oper} {rest : List Oper} {o : Oper} {a : Act} {Q : Exit → Act → World → Prop} {w0 W : World} (base : Nat) (hgd : o.guard = none) (t e : TypeId) (x y : Operand) (ho : o.op = .makeSlice t x y) (k : IntKind) (bytes n : Nat) (ok : Nat → Prop)
 (hx : a.eval x = .int .i64 0) (hy : a.eval y = .int .i64 (n : Int)) (ht : P.underlying t = some (.slice e)) (hinfo : (P.info? e).map (fun i => (i.zero, i.size, i.bytes)) = some (some (.int k 0), 1, bytes))
 (hok : ∀ k_, W.heap.size ≤ k_ → ok k_) (hl : bytes * n ≤ 281474976710656) (hl2 : n ≤ 9223372036854775807) (HB : Below base w0 W) (hbase : base ≤ W.heap.size)
 (h : ∀ v1 w1, Kd.R (Kd.int k) e w1 base ok v1 [] → Below base w0 w1 → W.grownBy w1 none → (∃ b, v1.ownBlock = some b ∧ W.heap.size ≤ b) → wpList P ops Q rest (a.put o.dst v1) w1) : wpList P ops Q (o :: rest) a W := by
 obtain ⟨i0, hi, hzz⟩ := Option.map_eq_some_iff.1 hinfo
 simp only [Prod.mk.injEq] at hzz
 obtain ⟨hz0, hz1, hz2⟩ := hzz
 obtain ⟨w', hr, hown, hg⟩ := run_make_own (P := P) W base t e i0 (.int k 0) 1 ht hi hz0 hz1 .i64 .i64 n (by rw [hz2]; exact hl) (by simpa [maxLen] using hl2) hbase
 refine Kd.event_run hgd (by simp only [execOp, ho, hx, hy]; rw [Sem.run_bind, hr]; rfl) (h _ _ (Kd.R_of_own (by simpa [encs] using hown) fun q hq => ?_) (HB.grown hg hbase (fun q hq => by simp at hq)) hg ⟨W.heap.size, by simp [Value.ownBlock], Nat.le_refl _⟩)
 have : W.heap.size = q := by simpa [Value.ownBlock] using hq
 exact hok q (by omega)
def gU (l : List Int) : Option (List Int) :=
  match l with
  | [] => some []
  | [c] => if c = 92 ∨ c < 32 then none else some [c]
  | c :: d :: r => if c = 92 then
      (if J.isE d = true then (gU r).map (J.unl d :: ·)
       else if d = 117 then (match J.hex4 r with
         | none => none
         | some v => if 55296 ≤ v ∧ v < 57344 then (match J.unitL (r.drop 4) with
             | none => none
             | some u => if v < 56320 ∧ 56320 ≤ u ∧ u < 57344 then (gU (r.drop 10)).map (eB (65536 + (v - 55296) * 1024 + (u - 56320)) ++ ·) else none)
           else (gU (r.drop 4)).map (eB v ++ ·))
       else none)
    else if c < 32 then none else (gU (d :: r)).map (c :: ·)
termination_by l.length
decreasing_by all_goals (simp; try omega)
theorem gU_nil : gU [] = some [] := by rw [gU]
theorem gU_cases {c : Int} {l u : List Int} (h : gU (c :: l) = some u) : (c ≠ 92 ∧ ¬ c < 32 ∧ ∃ u', gU l = some u' ∧ u = c :: u') ∨
 (c = 92 ∧ ∃ d r, l = d :: r ∧ ((J.isE d = true ∧ ∃ u', gU r = some u' ∧ u = J.unl d :: u') ∨
  (d = 117 ∧ ∃ v, J.hex4 r = some v ∧ ((¬ (55296 ≤ v ∧ v < 57344) ∧ ∃ u', gU (r.drop 4) = some u' ∧ u = eB v ++ u') ∨
   (55296 ≤ v ∧ v < 56320 ∧ ∃ x, J.unitL (r.drop 4) = some x ∧ 56320 ≤ x ∧ x < 57344 ∧ ∃ u', gU (r.drop 10) = some u' ∧ u = eB (65536 + (v - 55296) * 1024 + (x - 56320)) ++ u'))))) := by
 match l with
 | [] =>
  rw [gU] at h
  split at h
  ·cases h
  ·rename_i hc
   simp only [not_or] at hc
   cases h
   exact .inl ⟨hc.1, hc.2, [], gU_nil, rfl⟩
 | d :: r =>
  rw [gU] at h
  split at h
  ·rename_i hc
   refine .inr ⟨hc, d, r, rfl, ?_⟩
   split at h
   ·rename_i hd
    obtain ⟨u', h1, h2⟩ := Option.map_eq_some_iff.mp h
    exact .inl ⟨hd, u', h1, h2.symm⟩
   ·split at h
    ·rename_i hd
     refine .inr ⟨hd, ?_⟩
     split at h
     ·cases h
     ·rename_i v hv
      refine ⟨v, hv, ?_⟩
      split at h
      ·rename_i hs
       split at h
       ·cases h
       ·rename_i x hx
        split at h
        ·rename_i hp
         obtain ⟨u', h1, h2⟩ := Option.map_eq_some_iff.mp h
         exact .inr ⟨hs.1, hp.1, x, hx, hp.2.1, hp.2.2, u', h1, h2.symm⟩
        ·cases h
      ·rename_i hs
       obtain ⟨u', h1, h2⟩ := Option.map_eq_some_iff.mp h
       exact .inl ⟨hs, u', h1, h2.symm⟩
    ·cases h
  ·rename_i hc
   split at h
   ·cases h
   ·rename_i hc2
    obtain ⟨u', h1, h2⟩ := Option.map_eq_some_iff.mp h
    exact .inl ⟨hc, hc2, u', h1, h2.symm⟩
theorem setB_R {e : Nat} {base : Nat} {ok : Nat → Prop} {g n cap : Nat} : ∀ (bs : List Int) (o : Nat) (W : World) (ys : List Int), Kd.R (Kd.int .u8) e W base ok (.slice (some ⟨g, 0, none⟩) n cap) ys → n = ys.length → o + bs.length ≤ ys.length →
 Kd.R (Kd.int .u8) e (setB W g o bs) base ok (.slice (some ⟨g, 0, none⟩) n cap) (ys.take o ++ bs ++ ys.drop (o + bs.length)) ∧ W.grownBy (setB W g o bs) (some g) := by
 intro bs
 induction bs with
 | nil =>
  intro o W ys h hn ho
  refine ⟨?_, World.grownBy.refl W _⟩
  simpa [setB] using h
 | cons b r ih =>
  intro o W ys h hn ho
  simp only [List.length_cons] at ho
  subst hn
  obtain ⟨h1, h2⟩ := Kd.R_put (enc := Value.int .u8) (h1 := fun _ => rfl) h (o : Int) b
  simp only [Int.toNat_natCast] at h1 h2
  obtain ⟨h3, h4⟩ := ih (o + 1) _ (ys.set o b) h1 (by simp) (by simp; omega)
  refine ⟨?_, h2.trans h4⟩
  have e : ys.take o ++ (b :: r) ++ ys.drop (o + (b :: r).length) = (ys.set o b).take (o + 1) ++ r ++ (ys.set o b).drop (o + 1 + r.length) := by
   have e1 : (ys.set o b).take (o + 1) = ys.take o ++ [b] := by
    rw [List.take_succ_eq_append_getElem (by simp; omega), List.take_set, List.set_eq_of_length_le (by simp; omega)]
    simp
   have e2 : (ys.set o b).drop (o + 1 + r.length) = ys.drop (o + (b :: r).length) := by
    rw [List.drop_set_of_lt (by omega), List.length_cons]
    congr 1
    omega
   rw [e1, e2]
   simp
  rw [e]
  exact h3
theorem runeit_hex {s : ByteArray} {i : Nat} {l : List Int} {v : Int} (h : J.From s i l) (hv : J.hex4 l = some v) : gjson_runeit.f (s.extract i s.size) = some v := by
 have hr := J.hex4_range hv
 have hlen := J.hex4_len hv
 match l, hv, hlen with
 | a :: b :: c :: d :: r, hv, _ =>
  have hl := h.len
  simp only [List.length_cons] at hl
  have hsz : (s.extract i s.size).size = s.size - i := by rw [ByteArray.size_extract]; omega
  have hsz4 : ((s.extract i s.size).extract 0 4).size = 4 := by rw [ByteArray.size_extract, hsz]; omega
  have hb : bytesOf ((s.extract i s.size).extract 0 4) = [a, b, c, d] := by
   have h1 : bytesOf (s.extract i s.size) = a :: b :: c :: d :: r := by rw [J.bytesOf_extract, List.take_of_length_le (by rw [bytesOf_length]; omega), h.2]
   rw [J.bytesOf_extract, h1]
   rfl
  have hx : hxs 0 ((s.extract i s.size).extract 0 4).data.toList = some v := by
   have hall : ∀ (q : List UInt8) (acc : Int), hxs acc q = q.foldl (fun o b => o.bind fun x => (J.hexv (b.toNat : Int)).map fun y => x * 16 + y) (some acc) := by
    intro q
    induction q with
    | nil => intro acc; rfl
    | cons b q ih =>
     intro acc
     have hd : hxd (b.toNat : Int) = J.hexv (b.toNat : Int) := (by decide +kernel : ∀ n : Fin 256, hxd ((n.val : Nat) : Int) = J.hexv ((n.val : Nat) : Int)) ⟨b.toNat, b.toNat_lt⟩
     rw [hxs, List.foldl_cons, hd, Option.bind_some]
     cases J.hexv (b.toNat : Int) with
     | none =>
      rw [Option.bind_none, Option.map_none]
      have : ∀ (q : List UInt8), q.foldl (fun o b => o.bind fun x => (J.hexv (b.toNat : Int)).map fun y => x * 16 + y) (none : Option Int) = none := by
       intro q
       induction q with
       | nil => rfl
       | cons b q ih => rw [List.foldl_cons, Option.bind_none, ih]
      rw [this]
     | some y => rw [Option.bind_some, Option.map_some, ih]
   rw [hall]
   have hmap : ∀ (q : List UInt8) (o : Option Int), q.foldl (fun o b => o.bind fun x => (J.hexv (b.toNat : Int)).map fun y => x * 16 + y) o = (q.map fun b => (b.toNat : Int)).foldl (fun o c => o.bind fun x => (J.hexv c).map fun y => x * 16 + y) o := by
    intro q
    induction q with
    | nil => intro o; rfl
    | cons b q ih => intro o; rw [List.map_cons, List.foldl_cons, List.foldl_cons, ih]
   rw [hmap]
   have : (((s.extract i s.size).extract 0 4).data.toList.map fun b => (b.toNat : Int)) = [a, b, c, d] := hb
   rw [this, ← hv, J.hex4]
   simp only [List.foldl_cons, List.foldl_nil, Option.bind_some, Int.zero_mul, Int.zero_add]
   cases J.hexv a <;> cases J.hexv b <;> cases J.hexv c <;> cases J.hexv d <;> simp
  simp only [gjson_runeit.f]
  rw [if_pos (by omega), if_pos (by rw [hsz]; omega)]
  unfold strconv_ParseUint_79.f
  rw [if_neg (by omega), if_neg (by omega), if_pos ⟨rfl, rfl, hsz4⟩, hx, Option.bind_some]
  have hw : wrap32 v = v := by unfold wrap32; omega
  simp only [hw]
theorem zeros_cell {W : World} {base g cap : Nat} {ok : Nat → Prop} {xs : List Int} (ho : Kd.R (Kd.int .u8) 5 W base ok (.slice (some ⟨g, 0, none⟩) (xs.length + 8) cap) (xs ++ [0, 0, 0, 0, 0, 0, 0, 0])) (j : Nat) (hj : j < 4) :
 W.cell? ⟨g, xs.length + j, none⟩ = some (.int .u8 0) ∧ W.frozen? ⟨g, xs.length + j, none⟩ = false := by
 have hl : (xs ++ ([0, 0, 0, 0, 0, 0, 0, 0] : List Int)).length = xs.length + 8 := by simp
 obtain ⟨h1, h2⟩ := Kd.R_cell (enc := Value.int .u8) (h1 := fun _ => rfl) (0 : Int) (hl.symm ▸ ho) ((xs.length + j : Nat) : Int) (by omega) (by omega)
 rw [Int.toNat_natCast] at h1 h2
 refine ⟨?_, h2⟩
 rw [h1]
 unfold rdOf
 rw [Int.toNat_natCast, List.getD_eq_getElem?_getD, List.getElem?_append_right (by omega), show xs.length + j - xs.length = j by omega]
 match j, hj with
 | 0, _ => rfl
 | 1, _ => rfl
 | 2, _ => rfl
 | 3, _ => rfl
theorem zeros_cell0 {W : World} {base g cap : Nat} {ok : Nat → Prop} {xs : List Int} (ho : Kd.R (Kd.int .u8) 5 W base ok (.slice (some ⟨g, 0, none⟩) (xs.length + 8) cap) (xs ++ [0, 0, 0, 0, 0, 0, 0, 0])) :
 W.cell? ⟨g, xs.length, none⟩ = some (.int .u8 0) ∧ W.frozen? ⟨g, xs.length, none⟩ = false := by simpa using zeros_cell ho 0 zq40
theorem cap_ne {n cap : Nat} (h : n + 8 ≤ cap) : ¬ (cap = n) := by omega
theorem unitL_ex {l : List Int} {v : Int} (h : J.unitL l = some v) : ∃ t, l = 92 :: 117 :: t ∧ J.hex4 t = some v := by
 unfold J.unitL at h
 split at h
 ·rename_i a b r
  split at h
  ·rename_i hab
   obtain ⟨rfl, rfl⟩ := hab
   exact ⟨r, rfl, h⟩
  ·cases h
 ·cases h
theorem or_ten {x y : Int} (h0 : 0 ≤ x) (h1 : x < 2147483648) (hm : x % 1024 = 0) (hy : 0 ≤ y ∧ y < 1024) : Go.bits .or .i32 x y = x + y := bits_join .i32 31 zq40 wraps_i32 10 x y h0 hm h1 hy.1 hy.2 (by omega)
theorem dec_rune {v x : Int} (h0 : 55296 ≤ v) (h1 : v < 56320) (h2 : 56320 ≤ x) (h3 : x < 57344) : utf16_DecodeRune.f v x = some (65536 + (v - 55296) * 1024 + (x - 56320)) := by
 unfold utf16_DecodeRune.f
 rw [if_pos h0, if_pos h1, if_pos h2, if_pos h3]
 have e1 : wrap32 (v - 55296) = v - 55296 := by unfold wrap32; omega
 have e2 : wrap32 ((v - 55296) * 1024) = (v - 55296) * 1024 := by unfold wrap32; omega
 have e3 : wrap32 (x - 56320) = x - 56320 := by unfold wrap32; omega
 have e4 : Go.bits .or .i32 ((v - 55296) * 1024) (x - 56320) = (v - 55296) * 1024 + (x - 56320) := or_ten (by omega) (by omega) (by omega) (by omega)
 rw [e1, e2, e3, e4]
 have e5 : wrap32 ((v - 55296) * 1024 + (x - 56320) + 65536) = 65536 + (v - 55296) * 1024 + (x - 56320) := by unfold wrap32; omega
 rw [e5]
theorem enc_row {W : World} {base g cap : Nat} {ok : Nat → Prop} {xs : List Int} (rv : Int) (ho : Kd.R (Kd.int .u8) 5 W base ok (.slice (some ⟨g, 0, none⟩) (xs.length + 8) cap) (xs ++ [0, 0, 0, 0, 0, 0, 0, 0])) :
 Kd.R (Kd.int .u8) 5 (setB W g xs.length (eB rv)) base ok (.slice (some ⟨g, 0, none⟩) (xs.length + (eB rv).length) cap) (xs ++ eB rv) ∧ W.grownBy (setB W g xs.length (eB rv)) (some g) := by
 have h5 := eB_len rv
 have hl : (xs ++ ([0, 0, 0, 0, 0, 0, 0, 0] : List Int)).length = xs.length + 8 := by simp
 obtain ⟨h1, h2⟩ := setB_R (eB rv) xs.length W _ ho hl.symm (by rw [hl]; omega)
 refine ⟨?_, h2⟩
 have h3 := Kd.R_take (m := xs.length + (eB rv).length) h1 (by simp)
 have e : ((xs ++ ([0, 0, 0, 0, 0, 0, 0, 0] : List Int)).take xs.length ++ eB rv ++ (xs ++ ([0, 0, 0, 0, 0, 0, 0, 0] : List Int)).drop (xs.length + (eB rv).length)).take (xs.length + (eB rv).length) = xs ++ eB rv := by
  rw [List.take_left, List.take_append_of_le_length (by simp), List.take_of_length_le (by simp)]
 rwa [e] at h3
set_option maxHeartbeats 16000000 in
set_option maxRecDepth 100000 in
theorem unescape_walk (a0 : ByteArray) (U : List Int) (w : World) (hG : Laid w) (hs : a0.size ≤ 2147483647) (hU : gU (bytesOf a0) = some U) :
 Calls Tryd.prog 59 #[.string a0] w fun e w' => e = .returned (.string (strOfNums U)) ∧ Below w.heap.size w w' := by
 have HG := mk0 hG
 have HU := mk0 hU
 clear hG hU
 go_enter Tryd.func59, Tryd.ntmps59
 go_wp2_with ((with_reducible refine gate_dst (N := 9) rfl ?_); refine R_make0 (w0 := w) w.heap.size rfl 29 5 (.const (.int .i64 0)) (.tmp 8) rfl .u8 1 a0.size (fun _ => True) rfl rfl Tryd.underlying29 info5 (fun _ _ => trivial) (by omega) (by omega) (Below.refl _ _) (Nat.le_refl _) ?_; intro v1 w1 ho hb hg hat; have HR := mk0 ho; have HB := mk0 hb; clear ho hb hg hat)
 go_loopg [3, 4] (bytesOf a0).length (fun kq v3 v4 w' => ∃ (i : Nat) (l xs u : List Int), v4 = .int .i64 i ∧ Aside0 (J.From a0 i l ∧ gU l = some u ∧ xs ++ u = U ∧ xs.length ≤ i ∧ l.length = kq) ∧ Aside0 (Kd.R (Kd.int .u8) 5 w' w.heap.size (fun _ => True) v3 xs) ∧ Aside0 (Below w.heap.size w w'))
 case atStart => exact ⟨0, bytesOf a0, [], U, rfl, ⟨J.From.start a0, HU.out, rfl, Nat.le_refl _, rfl⟩, HR, HB⟩
 case round =>
  clear HR HB
  obtain ⟨i, l, xs, u, rfl, HF, HR, HB⟩ := hrel
  have hle := HF.out.1.1
  match l, HF with
  | [], HF =>
   have hi := HF.out.1.nil
   subst hi
   obtain ⟨A, c, rfl, _, hc⟩ := Kd.R_reads HR.out
   have hcv := Kd.C_string (P := Tryd.prog) Tryd.underlying29 Tryd.underlying5 (Tryd.underlying9) (n := xs.length) (c := c) hc
   have hu : u = [] := by have := HF.out.2.1; rw [gU_nil] at this; cases this; rfl
   subst hu
   have hx : xs = U := by have := HF.out.2.2.1; rwa [List.append_nil] at this
   subst hx
   clear hc
   go_wp2
   go_ret
   exact ⟨rfl, HB.out⟩
  | q :: l, HF =>
   have hlt := HF.out.1.lt
   have hbt := HF.out.1.bt
   have hx1 : ∀ h : i < a0.size, ((a0[i]'h).toNat : Int) = q := fun h => (bt_at a0 (i : Int) h).trans hbt
   rcases gU_cases HF.out.2.1 with ⟨h92, h32, u', h1, hu⟩ | ⟨hq, d, r, rfl, hd⟩
   ·subst hu
    have t1 : decide (q < 32) = false := decide_eq_false h32
    have t2 : (q == 92) = false := beq_eq_false_iff_ne.mpr h92
    have H1 := mk0 h1
    clear h1 h92 h32 hbt
    go_wp2_with (first | ((with_reducible refine gate_builtin (b := .append) (xs := #[.tmp 16, .tmp 20]) rfl ?_); at_builtin; refine R_append_lits (w0 := w) w.heap.size rfl (.tmp 16) (.tmp 20) 29 5 .u8 1 rfl Tryd.underlying29 info5 zq40 u3 xs [q] #[.int .u8 (q)] 1 rfl rfl (fun _ => True) rfl rfl (fun _ _ => trivial) ?aO HB.out (below_size HB.out) ?aL ?_; (case aO => exact HR.out); (case aL => exact zq35); intro v1 w1 ho hb hg hat; have n0_ := mk0 ho; have n1_ := mk0 hb; clear HR HB; have HR := n0_; have HB := n1_; clear n0_ n1_ ho hb hg hat))
    go_roundg l.length
    case measure => have := HF.out.2.2.2.2; simp only [List.length_cons] at this; omega
    case rel => exact ⟨i + 1, l, xs ++ [q], u', by go_num, ⟨HF.out.1.tail, H1.out, by rw [← HF.out.2.2.1]; simp, by have := HF.out.2.2.2.1; simp; omega, rfl⟩, HR, HB⟩
   ·subst hq
    have hlt2 := HF.out.1.tail.lt
    have hbt2 := HF.out.1.tail.bt
    have hx2 : ∀ h : i + 1 < a0.size, ((a0[i + 1]'h).toNat : Int) = d := fun h => (bt_at a0 ((i + 1 : Nat) : Int) h).trans hbt2
    clear hbt hbt2
    rcases hd with ⟨hE, u', h1, hu⟩ | ⟨hd, v, hv, hd2⟩
    ·subst hu
     have H1 := mk0 h1
     clear h1
     have hE' : d = 34 ∨ d = 92 ∨ d = 47 ∨ d = 98 ∨ d = 102 ∨ d = 110 ∨ d = 114 ∨ d = 116 := by unfold J.isE at hE; simpa using hE
     clear hE
     rcases hE' with hE | hE | hE | hE | hE | hE | hE | hE
     ·subst hE
      go_wp2_with (first | ((with_reducible refine gate_builtin (b := .append) (xs := #[.tmp 84, .tmp 85]) rfl ?_); at_builtin; refine R_append_lits (w0 := w) w.heap.size rfl (.tmp 84) (.tmp 85) 29 5 .u8 1 rfl Tryd.underlying29 info5 zq40 u3 xs [34] #[.int .u8 (34)] 1 rfl rfl (fun _ => True) rfl rfl (fun _ _ => trivial) ?aO HB.out (below_size HB.out) ?aL ?_; (case aO => exact HR.out); (case aL => exact zq35); intro v1 w1 ho hb hg hat; have n0_ := mk0 ho; have n1_ := mk0 hb; clear HR HB; have HR := n0_; have HB := n1_; clear n0_ n1_ ho hb hg hat))
      go_roundg r.length
      case measure => have := HF.out.2.2.2.2; simp only [List.length_cons] at this; omega
      case rel => exact ⟨i + 2, r, xs ++ [34], u', by go_num, ⟨HF.out.1.tail.tail, H1.out, by rw [← HF.out.2.2.1]; simp [J.unl], by have := HF.out.2.2.2.1; simp; omega, rfl⟩, HR, HB⟩
     ·subst hE
      go_wp2_with (first | ((with_reducible refine gate_builtin (b := .append) (xs := #[.tmp 49, .tmp 50]) rfl ?_); at_builtin; refine R_append_lits (w0 := w) w.heap.size rfl (.tmp 49) (.tmp 50) 29 5 .u8 1 rfl Tryd.underlying29 info5 zq40 u3 xs [92] #[.int .u8 (92)] 1 rfl rfl (fun _ => True) rfl rfl (fun _ _ => trivial) ?aO HB.out (below_size HB.out) ?aL ?_; (case aO => exact HR.out); (case aL => exact zq35); intro v1 w1 ho hb hg hat; have n0_ := mk0 ho; have n1_ := mk0 hb; clear HR HB; have HR := n0_; have HB := n1_; clear n0_ n1_ ho hb hg hat))
      go_roundg r.length
      case measure => have := HF.out.2.2.2.2; simp only [List.length_cons] at this; omega
      case rel => exact ⟨i + 2, r, xs ++ [92], u', by go_num, ⟨HF.out.1.tail.tail, H1.out, by rw [← HF.out.2.2.1]; simp [J.unl], by have := HF.out.2.2.2.1; simp; omega, rfl⟩, HR, HB⟩
     ·subst hE
      go_wp2_with (first | ((with_reducible refine gate_builtin (b := .append) (xs := #[.tmp 54, .tmp 55]) rfl ?_); at_builtin; refine R_append_lits (w0 := w) w.heap.size rfl (.tmp 54) (.tmp 55) 29 5 .u8 1 rfl Tryd.underlying29 info5 zq40 u3 xs [47] #[.int .u8 (47)] 1 rfl rfl (fun _ => True) rfl rfl (fun _ _ => trivial) ?aO HB.out (below_size HB.out) ?aL ?_; (case aO => exact HR.out); (case aL => exact zq35); intro v1 w1 ho hb hg hat; have n0_ := mk0 ho; have n1_ := mk0 hb; clear HR HB; have HR := n0_; have HB := n1_; clear n0_ n1_ ho hb hg hat))
      go_roundg r.length
      case measure => have := HF.out.2.2.2.2; simp only [List.length_cons] at this; omega
      case rel => exact ⟨i + 2, r, xs ++ [47], u', by go_num, ⟨HF.out.1.tail.tail, H1.out, by rw [← HF.out.2.2.1]; simp [J.unl], by have := HF.out.2.2.2.1; simp; omega, rfl⟩, HR, HB⟩
     ·subst hE
      go_wp2_with (first | ((with_reducible refine gate_builtin (b := .append) (xs := #[.tmp 59, .tmp 60]) rfl ?_); at_builtin; refine R_append_lits (w0 := w) w.heap.size rfl (.tmp 59) (.tmp 60) 29 5 .u8 1 rfl Tryd.underlying29 info5 zq40 u3 xs [8] #[.int .u8 (8)] 1 rfl rfl (fun _ => True) rfl rfl (fun _ _ => trivial) ?aO HB.out (below_size HB.out) ?aL ?_; (case aO => exact HR.out); (case aL => exact zq35); intro v1 w1 ho hb hg hat; have n0_ := mk0 ho; have n1_ := mk0 hb; clear HR HB; have HR := n0_; have HB := n1_; clear n0_ n1_ ho hb hg hat))
      go_roundg r.length
      case measure => have := HF.out.2.2.2.2; simp only [List.length_cons] at this; omega
      case rel => exact ⟨i + 2, r, xs ++ [8], u', by go_num, ⟨HF.out.1.tail.tail, H1.out, by rw [← HF.out.2.2.1]; simp [J.unl], by have := HF.out.2.2.2.1; simp; omega, rfl⟩, HR, HB⟩
     ·subst hE
      go_wp2_with (first | ((with_reducible refine gate_builtin (b := .append) (xs := #[.tmp 64, .tmp 65]) rfl ?_); at_builtin; refine R_append_lits (w0 := w) w.heap.size rfl (.tmp 64) (.tmp 65) 29 5 .u8 1 rfl Tryd.underlying29 info5 zq40 u3 xs [12] #[.int .u8 (12)] 1 rfl rfl (fun _ => True) rfl rfl (fun _ _ => trivial) ?aO HB.out (below_size HB.out) ?aL ?_; (case aO => exact HR.out); (case aL => exact zq35); intro v1 w1 ho hb hg hat; have n0_ := mk0 ho; have n1_ := mk0 hb; clear HR HB; have HR := n0_; have HB := n1_; clear n0_ n1_ ho hb hg hat))
      go_roundg r.length
      case measure => have := HF.out.2.2.2.2; simp only [List.length_cons] at this; omega
      case rel => exact ⟨i + 2, r, xs ++ [12], u', by go_num, ⟨HF.out.1.tail.tail, H1.out, by rw [← HF.out.2.2.1]; simp [J.unl], by have := HF.out.2.2.2.1; simp; omega, rfl⟩, HR, HB⟩
     ·subst hE
      go_wp2_with (first | ((with_reducible refine gate_builtin (b := .append) (xs := #[.tmp 69, .tmp 70]) rfl ?_); at_builtin; refine R_append_lits (w0 := w) w.heap.size rfl (.tmp 69) (.tmp 70) 29 5 .u8 1 rfl Tryd.underlying29 info5 zq40 u3 xs [10] #[.int .u8 (10)] 1 rfl rfl (fun _ => True) rfl rfl (fun _ _ => trivial) ?aO HB.out (below_size HB.out) ?aL ?_; (case aO => exact HR.out); (case aL => exact zq35); intro v1 w1 ho hb hg hat; have n0_ := mk0 ho; have n1_ := mk0 hb; clear HR HB; have HR := n0_; have HB := n1_; clear n0_ n1_ ho hb hg hat))
      go_roundg r.length
      case measure => have := HF.out.2.2.2.2; simp only [List.length_cons] at this; omega
      case rel => exact ⟨i + 2, r, xs ++ [10], u', by go_num, ⟨HF.out.1.tail.tail, H1.out, by rw [← HF.out.2.2.1]; simp [J.unl], by have := HF.out.2.2.2.1; simp; omega, rfl⟩, HR, HB⟩
     ·subst hE
      go_wp2_with (first | ((with_reducible refine gate_builtin (b := .append) (xs := #[.tmp 74, .tmp 75]) rfl ?_); at_builtin; refine R_append_lits (w0 := w) w.heap.size rfl (.tmp 74) (.tmp 75) 29 5 .u8 1 rfl Tryd.underlying29 info5 zq40 u3 xs [13] #[.int .u8 (13)] 1 rfl rfl (fun _ => True) rfl rfl (fun _ _ => trivial) ?aO HB.out (below_size HB.out) ?aL ?_; (case aO => exact HR.out); (case aL => exact zq35); intro v1 w1 ho hb hg hat; have n0_ := mk0 ho; have n1_ := mk0 hb; clear HR HB; have HR := n0_; have HB := n1_; clear n0_ n1_ ho hb hg hat))
      go_roundg r.length
      case measure => have := HF.out.2.2.2.2; simp only [List.length_cons] at this; omega
      case rel => exact ⟨i + 2, r, xs ++ [13], u', by go_num, ⟨HF.out.1.tail.tail, H1.out, by rw [← HF.out.2.2.1]; simp [J.unl], by have := HF.out.2.2.2.1; simp; omega, rfl⟩, HR, HB⟩
     ·subst hE
      go_wp2_with (first | ((with_reducible refine gate_builtin (b := .append) (xs := #[.tmp 79, .tmp 80]) rfl ?_); at_builtin; refine R_append_lits (w0 := w) w.heap.size rfl (.tmp 79) (.tmp 80) 29 5 .u8 1 rfl Tryd.underlying29 info5 zq40 u3 xs [9] #[.int .u8 (9)] 1 rfl rfl (fun _ => True) rfl rfl (fun _ _ => trivial) ?aO HB.out (below_size HB.out) ?aL ?_; (case aO => exact HR.out); (case aL => exact zq35); intro v1 w1 ho hb hg hat; have n0_ := mk0 ho; have n1_ := mk0 hb; clear HR HB; have HR := n0_; have HB := n1_; clear n0_ n1_ ho hb hg hat))
      go_roundg r.length
      case measure => have := HF.out.2.2.2.2; simp only [List.length_cons] at this; omega
      case rel => exact ⟨i + 2, r, xs ++ [9], u', by go_num, ⟨HF.out.1.tail.tail, H1.out, by rw [← HF.out.2.2.1]; simp [J.unl], by have := HF.out.2.2.2.1; simp; omega, rfl⟩, HR, HB⟩
    ·subst hd
     have HV := mk0 hv
     have HD := mk0 hd2
     have hlen := J.hex4_len hv
     have hv0 := J.hex4_range hv
     have hl6 : i + 6 ≤ a0.size := by have := HF.out.1.len; simp only [List.length_cons] at this; omega
     have hf := runeit_hex HF.out.1.tail.tail hv
     clear hv hd2
     rcases HD.out with ⟨hns, u', h1, hu⟩ | ⟨hh0, hh1, x, hx, hlo0, hlo1, u', h1, hu⟩
     ·have hS : utf16_IsSurrogate.f v = some false := by
       unfold utf16_IsSurrogate.f
       by_cases h5 : 55296 ≤ v
       rotate_left
       ·rw [if_neg h5]
       rw [if_pos h5, decide_eq_false (by omega)]
      subst hu
      have H1 := mk0 h1
      clear h1 HD
      go_wp2_with (first | (go_at_call 71; (with_reducible refine (gjson_runeit.calls _ v _ (Laid.below HG.out HB.out) hf).mono ?_); rintro e w2 ⟨rfl, hb⟩; have n0_ := mk0 (Kd.R_below HR.out hb); have n1_ := mk0 (below_step HB.out hb); clear HR HB hb; have HR := n0_; have HB := n1_; clear n0_ n1_) | (go_at_call 72; (with_reducible refine (utf16_IsSurrogate.calls v false _ hS).mono ?_); rintro e w3 ⟨rfl, ⟨m3, rfl⟩⟩; have n0_ := mk0 (Kd.R_drewN HR.out m3); have n1_ := mk0 (pw_below_drewN HB.out m3); clear HR HB; have HR := n0_; have HB := n1_; clear n0_ n1_) | ((with_reducible refine gate_builtin (b := .append) (xs := #[.tmp 132, .tmp 133]) rfl ?_); at_builtin; refine R_append_lits (w0 := w) w.heap.size rfl (.tmp 132) (.tmp 133) 29 5 .u8 1 rfl Tryd.underlying29 info5 zq40 u3 xs [0, 0, 0, 0, 0, 0, 0, 0] #[.int .u8 0, .int .u8 0, .int .u8 0, .int .u8 0, .int .u8 0, .int .u8 0, .int .u8 0, .int .u8 0] 8 rfl rfl (fun _ => True) rfl rfl (fun _ _ => trivial) ?aO HB.out (below_size HB.out) ?aL ?_; (case aO => exact HR.out); (case aL => exact zq35); intro v1 w4 ho hb hg hat; obtain ⟨g, cap, hv1, _, _, _⟩ := Kd.R_form ho (by simp); have hl8 : (xs ++ ([0, 0, 0, 0, 0, 0, 0, 0] : List Int)).length = xs.length + 8 := (by simp); rw [hl8] at hv1; subst hv1; have hcap := (Kd.R_reads' ho).2.1; have hxl := Nat.le_trans HF.out.2.2.2.1 (Nat.le_trans hle hs); have hcne := cap_ne hcap; have hc4 := zeros_cell ho; have hc0 := zeros_cell0 ho; have HC0 := mk0 hc0; clear hc0; have n0_ := mk0 ho; have n1_ := mk0 hb; have HC := mk0 hc4; clear HR HB hc4 hl8; have HR8 := n0_; have HB := n1_; clear n0_ n1_ ho hb hg hat) | (go_at_call 40; (with_reducible refine (enc_at g xs.length 8 (cap - xs.length) v _ hv0.1 (Int.le_trans hv0.2 zq40) zq40 zq40 0 0 0 0 HC0.out.1 (HC.out 1 zq40).1 (HC.out 2 zq40).1 (HC.out 3 zq40).1 HC0.out.2 (HC.out 1 zq40).2 (HC.out 2 zq40).2 (HC.out 3 zq40).2).mono ?_); rintro e w5 ⟨rfl, rfl⟩; obtain ⟨hr5, hg5⟩ := enc_row v HR8.out; have hb5 := HB.out.grown hg5 (below_size HB.out) (fun q hq => Kd.R_base HR8.out q hq); have he5 := (eB_len v).2; have n0_ := mk0 hr5; have n1_ := mk0 hb5; clear HR8 HB HC HC0 hg5 hr5 hb5; have HR := n0_; have HB := n1_; clear n0_ n1_))
      go_roundg (r.drop 4).length
      case measure => have := HF.out.2.2.2.2; simp only [List.length_cons, List.length_drop] at this ⊢; omega
      case rel => exact ⟨i + 6, r.drop 4, xs ++ eB v, u', by go_num, ⟨HF.out.1.tail.tail.drop 4 hlen, H1.out, by rw [← HF.out.2.2.1]; simp, by have := HF.out.2.2.2.1; have := eB_len v; simp; omega, rfl⟩, HR, HB⟩
     ·have hS : utf16_IsSurrogate.f v = some true := by
       unfold utf16_IsSurrogate.f
       rw [if_pos hh0, decide_eq_true (by omega)]
      obtain ⟨t, et, htx⟩ := unitL_ex hx
      have hFt : J.From a0 (i + 1 + 5) (92 :: 117 :: t) := by
       have := HF.out.1.tail.tail.drop 4 hlen
       rw [et] at this
       exact this
      have hD := dec_rune hh0 hh1 hlo0 hlo1
      have hf2 : gjson_runeit.f (a0.extract (i + 1 + 5 + 2) a0.size) = some x := runeit_hex hFt.tail.tail htx
      have hx4 := J.hex4_len htx
      have hl12 : i + 12 ≤ a0.size := by have := hFt.len; simp only [List.length_cons] at this; omega
      have hb6 := hFt.bt
      have hb7 := hFt.tail.bt
      have hx6 : ∀ h : i + 1 + 5 < a0.size, ((a0[i + 1 + 5]'h).toNat : Int) = 92 := fun h => (bt_at a0 ((i + 1 + 5 : Nat) : Int) h).trans hb6
      have hx7 : ∀ h : i + 1 + 5 + 1 < a0.size, ((a0[i + 1 + 5 + 1]'h).toNat : Int) = 117 := fun h => (bt_at a0 ((i + 1 + 5 + 1 : Nat) : Int) h).trans hb7
      have hrv : 0 ≤ 65536 + (v - 55296) * 1024 + (x - 56320) ∧ 65536 + (v - 55296) * 1024 + (x - 56320) ≤ 1114111 := by omega
      have hl10 : 10 ≤ r.length := by have := congrArg List.length et; simp only [List.length_drop, List.length_cons] at this; omega
      have HT := mk0 hFt
      subst hu
      have H1 := mk0 h1
      clear h1 HD hb6 hb7 hFt et htx
      generalize hrve : 65536 + (v - 55296) * 1024 + (x - 56320) = rv at hD hrv
      have HE := mk0 hrve
      clear hrve
      go_wp2_with (first | (go_at_call 71; (with_reducible refine (gjson_runeit.calls _ v _ (Laid.below HG.out HB.out) hf).mono ?_); rintro e w2 ⟨rfl, hb⟩; have n0_ := mk0 (Kd.R_below HR.out hb); have n1_ := mk0 (below_step HB.out hb); clear HR HB hb; have HR := n0_; have HB := n1_; clear n0_ n1_) | (go_at_call 71; (with_reducible refine (gjson_runeit.calls _ x _ (Laid.below HG.out HB.out) hf2).mono ?_); rintro e w2 ⟨rfl, hb⟩; have n0_ := mk0 (Kd.R_below HR.out hb); have n1_ := mk0 (below_step HB.out hb); clear HR HB hb; have HR := n0_; have HB := n1_; clear n0_ n1_) | (go_at_call 72; (with_reducible refine (utf16_IsSurrogate.calls v true _ hS).mono ?_); rintro e w3 ⟨rfl, ⟨m3, rfl⟩⟩; have n0_ := mk0 (Kd.R_drewN HR.out m3); have n1_ := mk0 (pw_below_drewN HB.out m3); clear HR HB; have HR := n0_; have HB := n1_; clear n0_ n1_) | (go_at_call 73; (with_reducible refine (utf16_DecodeRune.calls v x rv _ hD).mono ?_); rintro e w3 ⟨rfl, ⟨m3, rfl⟩⟩; have n0_ := mk0 (Kd.R_drewN HR.out m3); have n1_ := mk0 (pw_below_drewN HB.out m3); clear HR HB; have HR := n0_; have HB := n1_; clear n0_ n1_) | ((with_reducible refine gate_builtin (b := .append) (xs := #[.tmp 132, .tmp 133]) rfl ?_); at_builtin; refine R_append_lits (w0 := w) w.heap.size rfl (.tmp 132) (.tmp 133) 29 5 .u8 1 rfl Tryd.underlying29 info5 zq40 u3 xs [0, 0, 0, 0, 0, 0, 0, 0] #[.int .u8 0, .int .u8 0, .int .u8 0, .int .u8 0, .int .u8 0, .int .u8 0, .int .u8 0, .int .u8 0] 8 rfl rfl (fun _ => True) rfl rfl (fun _ _ => trivial) ?aO HB.out (below_size HB.out) ?aL ?_; (case aO => exact HR.out); (case aL => exact zq35); intro v1 w4 ho hb hg hat; obtain ⟨g, cap, hv1, _, _, _⟩ := Kd.R_form ho (by simp); have hl8 : (xs ++ ([0, 0, 0, 0, 0, 0, 0, 0] : List Int)).length = xs.length + 8 := (by simp); rw [hl8] at hv1; subst hv1; have hcap := (Kd.R_reads' ho).2.1; have hxl := Nat.le_trans HF.out.2.2.2.1 (Nat.le_trans hle hs); have hcne := cap_ne hcap; have hc4 := zeros_cell ho; have hc0 := zeros_cell0 ho; have HC0 := mk0 hc0; clear hc0; have n0_ := mk0 ho; have n1_ := mk0 hb; have HC := mk0 hc4; clear HR HB hc4 hl8; have HR8 := n0_; have HB := n1_; clear n0_ n1_ ho hb hg hat) | (go_at_call 40; (with_reducible refine (enc_at g xs.length 8 (cap - xs.length) rv _ hrv.1 hrv.2 zq40 zq40 0 0 0 0 HC0.out.1 (HC.out 1 zq40).1 (HC.out 2 zq40).1 (HC.out 3 zq40).1 HC0.out.2 (HC.out 1 zq40).2 (HC.out 2 zq40).2 (HC.out 3 zq40).2).mono ?_); rintro e w5 ⟨rfl, rfl⟩; obtain ⟨hr5, hg5⟩ := enc_row rv HR8.out; have hb5 := HB.out.grown hg5 (below_size HB.out) (fun q hq => Kd.R_base HR8.out q hq); have he5 := (eB_len rv).2; have n0_ := mk0 hr5; have n1_ := mk0 hb5; clear HR8 HB HC HC0 hg5 hr5 hb5; have HR := n0_; have HB := n1_; clear n0_ n1_))
      go_roundg (r.drop 10).length
      case measure => have := HF.out.2.2.2.2; simp only [List.length_cons, List.length_drop] at this ⊢; omega
      case rel => exact ⟨i + 12, r.drop 10, xs ++ eB rv, u', by go_num, ⟨HF.out.1.tail.tail.drop 10 hl10, H1.out, by rw [← HF.out.2.2.1, ← HE.out]; simp, by have := HF.out.2.2.2.1; have := eB_len rv; simp; omega, rfl⟩, HR, HB⟩
def gjson_unescape.f (a0 : ByteArray) : Option ByteArray := if a0.size ≤ 2147483647 then (gU (bytesOf a0)).map strOfNums else none
theorem gjson_unescape.calls (a0 : ByteArray) (r : ByteArray) (w : World) (hG : Laid w) (h : gjson_unescape.f a0 = some r) :
 Calls Tryd.prog 59 #[.string a0] w fun e w' => e = .returned (.string r) ∧ Below w.heap.size w w' := by
 unfold gjson_unescape.f at h
 split at h
 ·rename_i hs
  obtain ⟨U, hU, rfl⟩ := Option.map_eq_some_iff.mp h
  exact unescape_walk a0 U w hG hs hU
 ·cases h
def gjson_DoorUnescape.f (a0 : ByteArray) : Option (ByteArray) := (gjson_unescape.f a0).bind fun t101 => (some t101)
set_option maxHeartbeats 8000000 in
set_option maxRecDepth 100000 in
theorem gjson_DoorUnescape.calls (a0 : ByteArray) (r : ByteArray) (w : World) (hG : Laid w) (h : gjson_DoorUnescape.f a0 = some r) :
 Calls Tryd.prog 35 #[.string a0] w fun e w' => e = .returned (.string r) ∧ Below w.heap.size w w' := by
 have HG := mk0 hG
 clear hG
 have HB := mk0 (Below.refl w.heap.size w)
 have H : ((gjson_unescape.f a0).bind fun t101 => (some t101)) = some r := h
 clear h
 replace H := Option.bind_eq_some_iff.mp H
 obtain ⟨t101, A20, H⟩ := H
 replace H : (some t101) = some r := H
 have A2 := mk0 A20
 clear A20
 obtain rfl := Option.some.inj H
 go_enter Tryd.func35, Tryd.ntmps35
 go_wp2_with (first | ((with_reducible refine gate_callee (f := 59) rfl ?_); refine goesL_ (some 4) rfl rfl Tryd.func59 zq21 rfl #[.string a0] rfl zq3 ?_; (with_reducible refine (gjson_unescape.calls a0 t101 _ ?side1 A2.out).mono ?_); (case side1 => first | exact HG.out | exact Laid.below HG.out zq25); rintro e w3 ⟨rfl, hb⟩; refine ⟨_, rfl, ?_⟩; have n0_ := mk0 (below_step zq25 hb); clear HB; have HB := n0_; clear n0_; (try clear hb); (try clear hb2); (try clear hk); (try clear hi)))
 go_ret
 exact ⟨by first | rfl | (simp [errW_none, errW_some] <;> rfl) | (simp [*, errW_none, errW_some] <;> rfl), by repeat (first | (with_reducible first | exact HB.out | apply below_alloc | apply pw_below_drewN | apply below_drew1) | exact HB.out)⟩
def impl_GjUnescape.f (a0 : ByteArray) : Option (ByteArray) := (gjson_DoorUnescape.f a0).bind fun t101 => (some t101)
set_option maxHeartbeats 8000000 in
set_option maxRecDepth 100000 in
theorem impl_GjUnescape.calls (a0 : ByteArray) (r : ByteArray) (w : World) (hG : Laid w) (h : impl_GjUnescape.f a0 = some r) :
 Calls Tryd.prog 20 #[.string a0] w fun e w' => e = .returned (.string r) ∧ Below w.heap.size w w' := by
 have HG := mk0 hG
 clear hG
 have HB := mk0 (Below.refl w.heap.size w)
 have H : ((gjson_DoorUnescape.f a0).bind fun t101 => (some t101)) = some r := h
 clear h
 replace H := Option.bind_eq_some_iff.mp H
 obtain ⟨t101, A20, H⟩ := H
 replace H : (some t101) = some r := H
 have A2 := mk0 A20
 clear A20
 obtain rfl := Option.some.inj H
 go_enter Tryd.func20, Tryd.ntmps20
 go_wp2_with (first | ((with_reducible refine gate_callee (f := 35) rfl ?_); refine goesL_ (some 4) rfl rfl Tryd.func35 zq21 rfl #[.string a0] rfl zq3 ?_; (with_reducible refine (gjson_DoorUnescape.calls a0 t101 _ ?side1 A2.out).mono ?_); (case side1 => first | exact HG.out | exact Laid.below HG.out zq25); rintro e w3 ⟨rfl, hb⟩; refine ⟨_, rfl, ?_⟩; have n0_ := mk0 (below_step zq25 hb); clear HB; have HB := n0_; clear n0_; (try clear hb); (try clear hb2); (try clear hk); (try clear hi)))
 go_ret
 exact ⟨by first | rfl | (simp [errW_none, errW_some] <;> rfl) | (simp [*, errW_none, errW_some] <;> rfl), by repeat (first | (with_reducible first | exact HB.out | apply below_alloc | apply pw_below_drewN | apply below_drew1) | exact HB.out)⟩
mutual
def laws_FnGjUnescapeWhole.j0 : Nat → ByteArray → List Int → Bool → Option (Bool)
  | 0, _, _, _ => none
  | k + 1, x0, x1, x15 => if x15 = true then (some true) else (if (x0.size : Int) > 4096 then (laws_FnGjUnescapeWhole.j1 k x0 x1 true) else ((spec_UTF8.f k x0).bind fun t101 => (laws_FnGjUnescapeWhole.j1 k x0 x1 (!t101))))
def laws_FnGjUnescapeWhole.j1 : Nat → ByteArray → List Int → Bool → Option (Bool)
  | 0, _, _, _ => none
  | k + 1, x0, x1, x23 => if x23 = true then (some true) else ((spec_Dress.f k 4 x0 ([] : List ByteArray) ([] : List (S34)) x1).bind fun t102 => ((spec_Places.f k t102).bind fun bt103 => (if 0 ≤ (wrap64 (bt103.2.1 + 1)) then (if (wrap64 (bt103.2.1 + 1)) ≤ (wrap64 (bt103.2.2.1 - 1)) then (if (wrap64 (bt103.2.2.1 - 1)) ≤ (t102.size : Int) then ((impl_GjUnescape.f (t102.extract ((wrap64 (bt103.2.1 + 1)) : Int).toNat ((wrap64 (bt103.2.2.1 - 1)) : Int).toNat)).bind fun t114 => (some (t114.toList == x0.toList))) else (none)) else (none)) else (none))))
end
def laws_FnGjUnescapeWhole.f (k : Nat) (a0 : ByteArray) (l1 : List Int) : Option (Bool) := if (a0.size : Int) > 2147483647 then (laws_FnGjUnescapeWhole.j0 k a0 l1 true) else (laws_FnGjUnescapeWhole.j0 k a0 l1 (decide ((l1.length : Int) > 2147483647)))
theorem laws_FnGjUnescapeWhole.mono_l : ∀ k, (∀ y0 y1 y2, LeO (laws_FnGjUnescapeWhole.j0 k y0 y1 y2) (laws_FnGjUnescapeWhole.j0 (k + 1) y0 y1 y2)) ∧ (∀ y0 y1 y2, LeO (laws_FnGjUnescapeWhole.j1 k y0 y1 y2) (laws_FnGjUnescapeWhole.j1 (k + 1) y0 y1 y2))
 | 0 => ⟨fun _ _ _ r h => by simp [laws_FnGjUnescapeWhole.j0] at h, fun _ _ _ r h => by simp [laws_FnGjUnescapeWhole.j1] at h⟩
 | k + 1 => by
  obtain ⟨ih0, ih1⟩ := laws_FnGjUnescapeWhole.mono_l k
  refine ⟨?_, ?_⟩
  ·intro y0 y1 y2
   unfold laws_FnGjUnescapeWhole.j0
   repeat' first
   | (with_reducible exact ih0 _ _ _)
   | (with_reducible exact ih1 _ _ _)
   | (with_reducible exact spec_Dress.mono _ _ _ _ _ _)
   | (with_reducible exact spec_Places.mono _ _)
   | (with_reducible exact spec_UTF8.mono _ _)
   | (with_reducible exact LeO.refl _)
   | (with_reducible exact LeO.none _)
   | (with_reducible refine LeO.ite ?_ ?_)
   | (with_reducible refine LeO.bind ?_ (fun _ => ?_))
   | exact ih0 _ _ _
   | exact ih1 _ _ _
   | exact spec_Dress.mono _ _ _ _ _ _
   | exact spec_Places.mono _ _
   | exact spec_UTF8.mono _ _
   | exact LeO.none _
   | refine LeO.ite ?_ ?_
   | refine LeO.bind ?_ (fun _ => ?_)
  ·intro y0 y1 y2
   unfold laws_FnGjUnescapeWhole.j1
   repeat' first
   | (with_reducible exact ih0 _ _ _)
   | (with_reducible exact ih1 _ _ _)
   | (with_reducible exact spec_Dress.mono _ _ _ _ _ _)
   | (with_reducible exact spec_Places.mono _ _)
   | (with_reducible exact spec_UTF8.mono _ _)
   | (with_reducible exact LeO.refl _)
   | (with_reducible exact LeO.none _)
   | (with_reducible refine LeO.ite ?_ ?_)
   | (with_reducible refine LeO.bind ?_ (fun _ => ?_))
   | exact ih0 _ _ _
   | exact ih1 _ _ _
   | exact spec_Dress.mono _ _ _ _ _ _
   | exact spec_Places.mono _ _
   | exact spec_UTF8.mono _ _
   | exact LeO.none _
   | refine LeO.ite ?_ ?_
   | refine LeO.bind ?_ (fun _ => ?_)
theorem laws_FnGjUnescapeWhole.mono : ∀ a0 a1 k, LeO (laws_FnGjUnescapeWhole.f k a0 a1) (laws_FnGjUnescapeWhole.f (k + 1) a0 a1) := by
 intro a0 a1 k
 obtain ⟨ih0, ih1⟩ := laws_FnGjUnescapeWhole.mono_l k
 unfold laws_FnGjUnescapeWhole.f
 repeat' first
  | (with_reducible exact ih0 _ _ _)
  | (with_reducible exact ih1 _ _ _)
  | (with_reducible exact spec_Dress.mono _ _ _ _ _ _)
  | (with_reducible exact spec_Places.mono _ _)
  | (with_reducible exact spec_UTF8.mono _ _)
  | (with_reducible exact LeO.refl _)
  | (with_reducible exact LeO.none _)
  | (with_reducible refine LeO.ite ?_ ?_)
  | (with_reducible refine LeO.bind ?_ (fun _ => ?_))
  | exact ih0 _ _ _
  | exact ih1 _ _ _
  | exact spec_Dress.mono _ _ _ _ _ _
  | exact spec_Places.mono _ _
  | exact spec_UTF8.mono _ _
  | exact LeO.none _
  | refine LeO.ite ?_ ?_
  | refine LeO.bind ?_ (fun _ => ?_)
set_option maxHeartbeats 8000000 in
set_option maxRecDepth 100000 in
theorem laws_FnGjUnescapeWhole.calls (k : Nat) (a0 : ByteArray) (A1 : Option Addr) (c1 : Nat) (l1 : List Int) (r : Bool) (w : World) (hr1 : Kd.C (Kd.int .u8) w A1 l1.length l1) (hc1 : l1.length ≤ c1) (hG : Laid w) (h : laws_FnGjUnescapeWhole.f k a0 l1 = some r) :
 Calls Tryd.prog 6 #[.string a0, .slice A1 l1.length c1] w fun e w' => e = .returned (.bool r) ∧ Below w.heap.size w w' := by
 have HG := mk0 hG
 clear hG
 have hu34 := Tryd.underlying34
 have hu38 := Tryd.underlying38
 have HR1 := mk0 hr1
 have HC1 := mk0 hc1
 clear hr1 hc1
 have HB := mk0 (Below.refl w.heap.size w)
 have H : (if (a0.size : Int) > 2147483647 then (laws_FnGjUnescapeWhole.j0 k a0 l1 true) else (laws_FnGjUnescapeWhole.j0 k a0 l1 (decide ((l1.length : Int) > 2147483647)))) = some r := h
 clear h
 have HC3 := mk0 H
 clear H
 go_enter Tryd.func6, Tryd.ntmps6
 go_upto_region 1 with (fail)
 go_cut [15] (fun v15 wc => ∃ (kq : Nat) (x15_2 : Bool), v15 = .bool x15_2 ∧ Aside0 (laws_FnGjUnescapeWhole.j0 kq a0 l1 x15_2 = some r) ∧ Aside0 (kq ≤ k) ∧ Aside0 (Below w.heap.size w wc))
 case first =>
  have H := HC3.out
  clear HC3
  by_cases c4 : (a0.size : Int) > 2147483647
  ·rw [if_pos c4] at H
   have c4b0 : decide (2147483647 < (a0.size : Int)) = true := decide_eq_true c4
   have c4b1 : decide (2147483647 < a0.size) = true := decide_eq_true (by omega)
   clear c4
   (first | rw [c4b0] | (simp only [i64_w, i32_w]; rw [c4b0]) | rw [c4b1] | rw [if_pos (of_decide_eq_true c4b1)] | skip)
   have H' := mk0 H
   clear H
   go_wp2
   go_meet
   case rel => exact ⟨_, (true), zq14, H', ⟨by first | omega | exact Nat.le_refl _⟩, ⟨by repeat (first | (with_reducible first | exact HB.out | apply below_alloc | apply pw_below_drewN | apply below_drew1) | exact HB.out)⟩⟩
  rw [if_neg c4] at H
  have c4b0 : decide (2147483647 < (a0.size : Int)) = false := decide_eq_false c4
  have c4b1 : decide (2147483647 < a0.size) = false := decide_eq_false (by omega)
  clear c4
  (first | rw [c4b0] | (simp only [i64_w, i32_w]; rw [c4b0]) | rw [c4b1] | rw [if_neg (of_decide_eq_false c4b1)] | skip)
  have H' := mk0 H
  clear H
  go_wp2
  go_meet
  case rel => exact ⟨_, (decide ((l1.length : Int) > 2147483647)), zq14, H', ⟨by first | omega | exact Nat.le_refl _⟩, ⟨by repeat (first | (with_reducible first | exact HB.out | apply below_alloc | apply pw_below_drewN | apply below_drew1) | exact HB.out)⟩⟩
 case rest =>
  clear HC3
  try clear c1
  try clear p2
  try clear c4
  try clear c4b0
  try clear c4b1
  obtain ⟨kq, x15_2, rfl, HA, HJ2, HB⟩ := hcut
  cases kq with
  | zero => exact absurd HA.out (by simp [laws_FnGjUnescapeWhole.j0])
  | succ kj2 =>
   have H := HA.out
   clear HA
   simp only [laws_FnGjUnescapeWhole.j0] at H
   by_cases c5 : x15_2 = true
   ·subst c5
    have H1 : (some true) = some r := by rw [if_pos rfl] at H; exact H
    clear H
    have H := H1
    clear H1
    obtain rfl := Option.some.inj H
    go_wp2
    go_ret
    exact ⟨by first | rfl | (simp [errW_none, errW_some] <;> rfl) | (simp [*, errW_none, errW_some] <;> rfl), by repeat (first | (with_reducible first | exact HB.out | apply below_alloc | apply pw_below_drewN | apply below_drew1) | exact HB.out)⟩
   replace c5 := Bool.eq_false_iff.mpr c5
   subst c5
   have H1 : (if (a0.size : Int) > 4096 then (laws_FnGjUnescapeWhole.j1 kj2 a0 l1 true) else ((spec_UTF8.f kj2 a0).bind fun t101 => (laws_FnGjUnescapeWhole.j1 kj2 a0 l1 (!t101)))) = some r := by rw [if_neg (show ¬ (false = true) by decide)] at H; exact H
   clear H
   have H := H1
   clear H1
   have HC6 := mk0 H
   clear H
   go_upto_region 3 with (fail)
   go_cut [23] (fun v23 wc => ∃ (kq : Nat) (x23_5 : Bool), v23 = .bool x23_5 ∧ Aside0 (laws_FnGjUnescapeWhole.j1 kq a0 l1 x23_5 = some r) ∧ Aside0 (kq ≤ kj2) ∧ Aside0 (Below w.heap.size w wc))
   case first =>
    have H := HC6.out
    clear HC6
    by_cases c7 : (a0.size : Int) > 4096
    ·rw [if_pos c7] at H
     have c7b0 : decide (4096 < (a0.size : Int)) = true := decide_eq_true c7
     have c7b1 : decide (4096 < a0.size) = true := decide_eq_true (by omega)
     clear c7
     (first | rw [c7b0] | (simp only [i64_w, i32_w]; rw [c7b0]) | rw [c7b1] | rw [if_pos (of_decide_eq_true c7b1)] | skip)
     have H' := mk0 H
     clear H
     go_wp2
     go_meet
     case rel => exact ⟨_, (true), zq14, H', ⟨by have := HJ2.out; first | omega | exact Nat.le_refl _⟩, ⟨by repeat (first | (with_reducible first | exact HB.out | apply below_alloc | apply pw_below_drewN | apply below_drew1) | exact HB.out)⟩⟩
    rw [if_neg c7] at H
    have c7b0 : decide (4096 < (a0.size : Int)) = false := decide_eq_false c7
    have c7b1 : decide (4096 < a0.size) = false := decide_eq_false (by omega)
    clear c7
    (first | rw [c7b0] | (simp only [i64_w, i32_w]; rw [c7b0]) | rw [c7b1] | rw [if_neg (of_decide_eq_false c7b1)] | skip)
    replace H := Option.bind_eq_some_iff.mp H
    obtain ⟨t101, A80, H⟩ := H
    replace H : (laws_FnGjUnescapeWhole.j1 kj2 a0 l1 (!t101)) = some r := H
    have A8 := mk0 A80
    clear A80
    have H' := mk0 H
    clear H
    go_wp2_with (first | (go_at_call 13; (with_reducible refine (spec_UTF8.calls kj2 a0 t101 _ A8.out).mono ?_); rintro e w' ⟨rfl, ⟨nd, rfl⟩⟩))
    go_meet
    case rel => exact ⟨_, (!t101), zq14, H', ⟨by have := HJ2.out; first | omega | exact Nat.le_refl _⟩, ⟨by repeat (first | (with_reducible first | exact HB.out | apply below_alloc | apply pw_below_drewN | apply below_drew1) | exact HB.out)⟩⟩
   case rest =>
    clear HC6
    try clear c1
    try clear p2
    try clear c4
    try clear c4b0
    try clear c4b1
    try clear c5
    try clear c6
    try clear c7
    try clear c7b0
    try clear c7b1
    try clear p2
    obtain ⟨kq, x23_5, rfl, HA, HJ5, HB⟩ := hcut
    cases kq with
    | zero => exact absurd HA.out (by simp [laws_FnGjUnescapeWhole.j1])
    | succ kj5 =>
     have H := HA.out
     clear HA
     simp only [laws_FnGjUnescapeWhole.j1] at H
     by_cases c9 : x23_5 = true
     ·subst c9
      have H1 : (some true) = some r := by rw [if_pos rfl] at H; exact H
      clear H
      have H := H1
      clear H1
      obtain rfl := Option.some.inj H
      go_wp2
      go_ret
      exact ⟨by first | rfl | (simp [errW_none, errW_some] <;> rfl) | (simp [*, errW_none, errW_some] <;> rfl), by repeat (first | (with_reducible first | exact HB.out | apply below_alloc | apply pw_below_drewN | apply below_drew1) | exact HB.out)⟩
     replace c9 := Bool.eq_false_iff.mpr c9
     subst c9
     have H1 : ((spec_Dress.f kj5 4 a0 ([] : List ByteArray) ([] : List (S34)) l1).bind fun t102 => ((spec_Places.f kj5 t102).bind fun bt103 => (if 0 ≤ (wrap64 (bt103.2.1 + 1)) then (if (wrap64 (bt103.2.1 + 1)) ≤ (wrap64 (bt103.2.2.1 - 1)) then (if (wrap64 (bt103.2.2.1 - 1)) ≤ (t102.size : Int) then ((impl_GjUnescape.f (t102.extract ((wrap64 (bt103.2.1 + 1)) : Int).toNat ((wrap64 (bt103.2.2.1 - 1)) : Int).toNat)).bind fun t114 => (some (t114.toList == a0.toList))) else (none)) else (none)) else (none)))) = some r := by rw [if_neg (show ¬ (false = true) by decide)] at H; exact H
     clear H
     have H := H1
     clear H1
     replace H := Option.bind_eq_some_iff.mp H
     obtain ⟨t102, A100, H⟩ := H
     replace H : ((spec_Places.f kj5 t102).bind fun bt103 => (if 0 ≤ (wrap64 (bt103.2.1 + 1)) then (if (wrap64 (bt103.2.1 + 1)) ≤ (wrap64 (bt103.2.2.1 - 1)) then (if (wrap64 (bt103.2.2.1 - 1)) ≤ (t102.size : Int) then ((impl_GjUnescape.f (t102.extract ((wrap64 (bt103.2.1 + 1)) : Int).toNat ((wrap64 (bt103.2.2.1 - 1)) : Int).toNat)).bind fun t114 => (some (t114.toList == a0.toList))) else (none)) else (none)) else (none))) = some r := H
     have A10 := mk0 A100
     clear A100
     replace H := Option.bind_eq_some_iff.mp H
     obtain ⟨⟨t103, t104, t105, t106, t109, t112⟩, A110, H⟩ := H
     replace H : (if 0 ≤ (wrap64 (t104 + 1)) then (if (wrap64 (t104 + 1)) ≤ (wrap64 (t105 - 1)) then (if (wrap64 (t105 - 1)) ≤ (t102.size : Int) then ((impl_GjUnescape.f (t102.extract ((wrap64 (t104 + 1)) : Int).toNat ((wrap64 (t105 - 1)) : Int).toNat)).bind fun t114 => (some (t114.toList == a0.toList))) else (none)) else (none)) else (none)) = some r := H
     have A11 := mk0 A110
     clear A110
     obtain ⟨ji12, hji12⟩ : ∃ j_ : Int, (wrap64 (t104 + 1)) = j_ := ⟨_, rfl⟩
     replace H : (if 0 ≤ (ji12) then (if (ji12) ≤ (wrap64 (t105 - 1)) then (if (wrap64 (t105 - 1)) ≤ (t102.size : Int) then ((impl_GjUnescape.f (t102.extract ((ji12) : Int).toNat ((wrap64 (t105 - 1)) : Int).toNat)).bind fun t114 => (some (t114.toList == a0.toList))) else (none)) else (none)) else (none)) = some r := by first | (rw [hji12] at H; exact H) | (simp only [hji12] at H ⊢; exact H)
     (try rw [hji12] at A10)
     (try rw [hji12] at A11)
     have hji12w : (IntKind.i64.wrap (t104 + 1)) = ji12 := (i64_w _).trans hji12
     by_cases c13 : 0 ≤ (ji12)
     rotate_left
     ·rw [if_neg c13] at H
      exact absurd H (by simp)
     rw [if_pos c13] at H
     have c13b0 := eq_true c13
     have c13b1 : decide (0 ≤ (ji12)) = true := decide_eq_true c13
     clear c13
     by_cases c14 : (ji12) ≤ (wrap64 (t105 - 1))
     rotate_left
     ·rw [if_neg c14] at H
      exact absurd H (by simp)
     rw [if_pos c14] at H
     have c14b0 := eq_true c14
     have c14b1 : decide ((ji12) ≤ (wrap64 (t105 - 1))) = true := decide_eq_true c14
     clear c14
     by_cases c15 : (wrap64 (t105 - 1)) ≤ (t102.size : Int)
     rotate_left
     ·rw [if_neg c15] at H
      exact absurd H (by simp)
     rw [if_pos c15] at H
     have c15b0 := eq_true c15
     have c15b1 : decide ((wrap64 (t105 - 1)) ≤ (t102.size : Int)) = true := decide_eq_true c15
     clear c15
     replace H := Option.bind_eq_some_iff.mp H
     obtain ⟨t114, A160, H⟩ := H
     replace H : (some (t114.toList == a0.toList)) = some r := H
     have A16 := mk0 A160
     clear A160
     obtain rfl := Option.some.inj H
     go_wp2_with (first | ((with_reducible refine gate_callee (f := 14) rfl ?_); refine goesL_ (some 27) rfl rfl Tryd.func14 zq21 rfl #[.agg #[.int .i64 4, .string a0, .slice none 0 0, .slice none 0 0], .slice A1 l1.length c1] rfl zq3 ?_; (refine (spec_Dress.calls kj5 4 a0 _ _ ([] : List ByteArray) _ _ ([] : List (S34)) _ _ l1 t102 _ ?side1 ?side2 ?side3 ?side4 ?side5 ?side6 A10.out).mono ?_); (case side1 => exact Kd.C_nil _ _); (case side2 => exact Nat.le_refl _); (case side3 => exact Kd.C_nil _ _); (case side4 => exact Nat.le_refl _); (case side5 => repeat (first | exact (Kd.C_below HR1.out HB.out) | (with_reducible refine Kd.C_alloc ?_ _) | (with_reducible refine Kd.C_drewN ?_ _) | (with_reducible refine Kd.C_drew ?_))); (case side6 => exact HC1.out); rintro e w17 ⟨rfl, hb⟩; refine ⟨_, rfl, ?_⟩; have n0_ := mk0 (below_step zq25 hb); clear HB; have HB := n0_; clear n0_; (try clear hb); (try clear hb2); (try clear hk); (try clear hi)) | ((with_reducible refine gate_callee (f := 15) rfl ?_); refine goesL_ (some 30) rfl rfl Tryd.func15 zq21 rfl #[.string t102] rfl zq3 ?_; (with_reducible refine (spec_Places.calls kj5 t102 t103 t104 t105 t106 t109 t112 _ A11.out).mono ?_); rintro e w18 ⟨v107, v110, rfl, ho0, ho1, hb⟩; refine ⟨_, rfl, ?_⟩; have n0_ := mk0 (Kd.R_lower ho0 (below_size zq25)); have n1_ := mk0 (Kd.R_lower ho1 (below_size zq25)); have n2_ := mk0 (below_step zq25 hb); clear HB; have HO108 := n0_; have HO111 := n1_; have HB := n2_; clear n0_ n1_ n2_; (try clear hb); (try clear hb2); (try clear hk); (try clear hi); (try clear ho0); (try clear ho1)) | ((with_reducible refine gate_dst (N := 6) rfl ?_); (try (refine gate_guard (by rfl) ?_; dsimp only)); refine box_event ?hg (N := 6) ?hd (cs := #[.int .i64 0, .int .i64 0, .int .i64 0, .slice none 0 0, .slice none 0 0]) (t := 38) ?hr ?_; (case hd => rfl); (case hg => rfl); (case hr => exact zq34); intro gb113 hg w19 hbox hb; have n0_ := mk0 (Kd.R_below (by (with_reducible repeat (first | apply Kd.R_alloc | apply Kd.R_drewN | apply Kd.R_drew)); exact HO108.out) hb); have n1_ := mk0 (Kd.R_below (Kd.R_elderB (by (with_reducible repeat (first | apply Kd.R_alloc | apply Kd.R_drewN | apply Kd.R_drew)); exact HO111.out) gb113 (Nat.le_of_eq hg.symm)) hb); have n2_ := mk0 (below_step zq25 hb); have n3_ := mk0 (hbox); have n4_ := mk0 ((by rw [hg]; exact (below_size zq25) : w.heap.size ≤ gb113)); have n5_ := mk0 ((by rw [hg]; exact (below_size zq25) : w.heap.size ≤ gb113)); clear HO108 HO111 HB; have HO108 := n0_; have HO111 := n1_; have HB := n2_; have BK113 := n3_; have GW113 := n4_; have GE113 := n5_; clear n0_ n1_ n2_ n3_ n4_ n5_; clear hb hbox hg; have hcz20_0 : w19.cell? ⟨gb113, 0, none⟩ = some (.int .i64 0) := (blk_cell BK113.out 0).trans rfl; have hcz20_1 : w19.cell? ⟨gb113, 1, none⟩ = some (.int .i64 0) := (blk_cell BK113.out 1).trans rfl; have hcz20_2 : w19.cell? ⟨gb113, 2, none⟩ = some (.int .i64 0) := (blk_cell BK113.out 2).trans rfl; have hcz20_3 : w19.cell? ⟨gb113, 3, none⟩ = some (.slice none 0 0) := (blk_cell BK113.out 3).trans rfl; have hcz20_4 : w19.cell? ⟨gb113, 4, none⟩ = some (.slice none 0 0) := (blk_cell BK113.out 4).trans rfl; have hfz20_0 := blk_frozen BK113.out 0; have hfz20_1 := blk_frozen BK113.out 1; have hfz20_2 := blk_frozen BK113.out 2; have hfz20_3 := blk_frozen BK113.out 3; have hfz20_4 := blk_frozen BK113.out 4; obtain ⟨Ao21, co21, eo21⟩ := Kd.R_slice HO108.out; subst eo21; obtain ⟨Ao22, co22, eo22⟩ := Kd.R_slice HO111.out; subst eo22) | ((with_reducible refine gate_callee (f := 20) rfl ?_); refine goesL_ (some 41) rfl rfl Tryd.func20 zq21 rfl #[.string (t102.extract ((ji12) : Int).toNat ((wrap64 (t105 - 1)) : Int).toNat)] rfl (by (try simp only [List.map_toArray, List.map_cons, List.map_nil]); first | done | (simp only [hji12]; rfl) | rfl | (simp only [List.length_drop, List.length_take]; rfl)) ?_; (with_reducible refine (impl_GjUnescape.calls (t102.extract ((ji12) : Int).toNat ((wrap64 (t105 - 1)) : Int).toNat) t114 _ ?side1 A16.out).mono ?_); (case side1 => first | exact HG.out | exact Laid.below HG.out zq55); rintro e w23 ⟨rfl, hb⟩; refine ⟨_, rfl, ?_⟩; have n0_ := mk0 (Kd.R_below (by (with_reducible repeat (first | apply Kd.R_alloc | apply Kd.R_drewN | apply Kd.R_drew)); exact (Kd.R_mono (Kd.R_far (p := ⟨gb113, 4, none⟩) (Kd.R_far (p := ⟨gb113, 3, none⟩) (Kd.R_far (p := ⟨gb113, 2, none⟩) (Kd.R_far (p := ⟨gb113, 1, none⟩) (Kd.R_far (p := ⟨gb113, 0, none⟩) (Kd.R_types HO108.out BK113.out zq40) (fun _ hk => hk.2) (.int .i64 t103)) (fun _ hk => hk.2) (.int .i64 t104)) (fun _ hk => hk.2) (.int .i64 t105)) (fun _ hk => hk.2) (.slice Ao21 t106.length co21)) (fun _ hk => hk.2) (.slice Ao22 t109.length co22)) (fun _ h_ => h_.1))) hb); have n1_ := mk0 (Kd.R_below (by (with_reducible repeat (first | apply Kd.R_alloc | apply Kd.R_drewN | apply Kd.R_drew)); exact (Kd.R_mono (Kd.R_far (p := ⟨gb113, 4, none⟩) (Kd.R_far (p := ⟨gb113, 3, none⟩) (Kd.R_far (p := ⟨gb113, 2, none⟩) (Kd.R_far (p := ⟨gb113, 1, none⟩) (Kd.R_far (p := ⟨gb113, 0, none⟩) (Kd.R_mono HO111.out (fun k_ hk => (⟨hk, hk.2⟩ : _ ∧ k_ ≠ gb113))) (fun _ hk => hk.2) (.int .i64 t103)) (fun _ hk => hk.2) (.int .i64 t104)) (fun _ hk => hk.2) (.int .i64 t105)) (fun _ hk => hk.2) (.slice Ao21 t106.length co21)) (fun _ hk => hk.2) (.slice Ao22 t109.length co22)) (fun _ h_ => h_.1))) hb); have n2_ := mk0 (blk_below (g := gb113) (o := .cells #[.int .i64 t103, .int .i64 t104, .int .i64 t105, .slice Ao21 t106.length co21, .slice Ao22 t109.length co22] 38 (0, 0)) (by (with_reducible repeat (first | refine blk_drewN ?_ _ | refine blk_drew ?_ | refine blk_alloc ?_ _)); refine blk_put (cs := #[.int .i64 t103, .int .i64 t104, .int .i64 t105, .slice Ao21 t106.length co21, .slice none 0 0]) ?_ 4 _ rfl; (with_reducible repeat (first | refine blk_drewN ?_ _ | refine blk_drew ?_ | refine blk_alloc ?_ _)); refine blk_put (cs := #[.int .i64 t103, .int .i64 t104, .int .i64 t105, .slice none 0 0, .slice none 0 0]) ?_ 3 _ rfl; (with_reducible repeat (first | refine blk_drewN ?_ _ | refine blk_drew ?_ | refine blk_alloc ?_ _)); refine blk_put (cs := #[.int .i64 t103, .int .i64 t104, .int .i64 0, .slice none 0 0, .slice none 0 0]) ?_ 2 _ rfl; (with_reducible repeat (first | refine blk_drewN ?_ _ | refine blk_drew ?_ | refine blk_alloc ?_ _)); refine blk_put (cs := #[.int .i64 t103, .int .i64 0, .int .i64 0, .slice none 0 0, .slice none 0 0]) ?_ 1 _ rfl; (with_reducible repeat (first | refine blk_drewN ?_ _ | refine blk_drew ?_ | refine blk_alloc ?_ _)); refine blk_put (cs := #[.int .i64 0, .int .i64 0, .int .i64 0, .slice none 0 0, .slice none 0 0]) ?_ 0 _ rfl; (with_reducible repeat (first | refine blk_drewN ?_ _ | refine blk_drew ?_ | refine blk_alloc ?_ _)); exact BK113.out) hb); have n3_ := mk0 (below_step zq55 hb); clear HO108 HO111 BK113 HB; have HO108 := n0_; have HO111 := n1_; have BK113 := n2_; have HB := n3_; clear n0_ n1_ n2_ n3_; (try clear hb); (try clear hb2); (try clear hk); (try clear hi)))
     go_ret
     exact ⟨by first | rfl | (simp [errW_none, errW_some] <;> rfl) | (simp only [← hji12]; first | rfl | (simp [errW_none, errW_some] <;> rfl)) | (simp [*, errW_none, errW_some] <;> rfl), by repeat (first | (with_reducible first | exact HB.out | apply below_alloc | apply pw_below_drewN | apply below_drew1 | refine below_set ?_ GE113.out) | exact HB.out)⟩
def laws_FnGjUnescapeWhole.Pure : Prop := ∀ (a0 : ByteArray) (l1 : List Int), a0.size ≤ 140737488351232 → l1.length ≤ maxLen → l1.length * 1 ≤ 140737488351232 → (∀ x ∈ l1, (Lit.int .u8 x).wf = true) → ∃ k, laws_FnGjUnescapeWhole.f k a0 l1 = some true
theorem laws_FnGjUnescapeWhole.walk (P : laws_FnGjUnescapeWhole.Pure) (a0 : ByteArray) (a1 : Option Addr) (len1 cap1 : Nat) (z1 : List Int) (w : World) (hG : Laid w) (w0 : a0.size ≤ 140737488351232) (w1 : (a1 = none ∧ len1 = 0 ∧ cap1 = 0 ∧ z1 = []) ∨ ∃ x, a1 = some x ∧ len1 ≤ cap1 ∧ cap1 ≤ maxLen ∧ z1.length = cap1 ∧ (∀ i, i < z1.length → w.cell? (x.add i) = some (.int .u8 (z1.getD i 0))) ∧ ∀ n ∈ z1, (Lit.int .u8 n).wf = true) (y1 : len1 * 1 ≤ 140737488351232) :
 Calls Tryd.prog 6 #[.string a0, .slice a1 len1 cap1] w fun e w' => e = .returned (.bool true) ∧ Below w.heap.size w w' := by
 obtain ⟨l1, rfl, hr1, hm1, hw1, hc1⟩ := ReadsInt.ofRowC w1
 obtain ⟨k, h⟩ := P a0 l1 w0 hm1 y1 hw1
 refine (laws_FnGjUnescapeWhole.calls k a0 _ _ l1 true w (Kd.C_of_reads (d := (0 : Int)) (h1 := fun _ => rfl) hr1) hc1 hG h).mono ?_
 rintro e w' ⟨rfl, hd⟩
 exact ⟨rfl, hd⟩
end Go.Proofs.YtaigbkkgmncipaaDoor.G
end
section
namespace Go.Proofs.YtaigbkkgmncipaaDoor.J
open Go.RowKit Go.Proofs.YtaigbkkgmncipaaDoor.G Go.Proofs.YtaigbkkgmncipaaDoorW.PrintWords Go.Proofs.YtaigbkkgmncipaaDoorW.PrintLast

theorem hexDigit_eq {c : Int} (h : 0 ≤ c ∧ c ≤ 255) : Ev (fun k => spec_hexDigit.f k c) ((hexv c).getD 0, (hexv c).isSome) := by
 refine ⟨2, fun k hk => ?_⟩
 obtain ⟨k, rfl⟩ : ∃ m, k = m + 2 := ⟨k - 2, by omega⟩
 unfold spec_hexDigit.f hexv
 simp only [spec_hexDigit.j0, spec_hexDigit.j1]
 by_cases h1 : 48 ≤ c ∧ c ≤ 57
 ·rw [if_pos h1.1, if_pos (by simp; omega), if_pos h1]
  simp; omega
 rw [if_neg h1]
 have key : (if 97 ≤ c then (if decide (c ≤ 102) = true then some ((c - 97) % 256 + 10, true) else if 65 ≤ c then if c ≤ 70 then some ((c - 65) % 256 + 10, true) else some (0, false) else some (0, false))
  else (if false = true then some ((c - 97) % 256 + 10, true) else if 65 ≤ c then if c ≤ 70 then some ((c - 65) % 256 + 10, true) else some (0, false) else some (0, false))) =
  some (((if 97 ≤ c ∧ c ≤ 102 then some (c - 87) else if 65 ≤ c ∧ c ≤ 70 then some (c - 55) else none : Option Int).getD 0, (if 97 ≤ c ∧ c ≤ 102 then some (c - 87) else if 65 ≤ c ∧ c ≤ 70 then some (c - 55) else none : Option Int).isSome)) := by
  by_cases h2 : 97 ≤ c ∧ c ≤ 102
  ·rw [if_pos h2.1, if_pos (by simp; omega), if_pos h2]
   simp; omega
  rw [if_neg h2]
  by_cases h3 : 65 ≤ c ∧ c ≤ 70
  ·rw [if_neg (by omega), if_neg (by simp), if_pos h3.1, if_pos h3.2, if_pos h3]
   simp; omega
  rw [if_neg h3]
  by_cases h4 : 97 ≤ c
  ·rw [if_pos h4, if_neg (by simp; omega), if_pos (by omega), if_neg (by omega)]
   rfl
  rw [if_neg h4, if_neg (by simp)]
  by_cases h5 : 65 ≤ c
  rotate_left
  ·rw [if_neg h5]
   rfl
  rw [if_pos h5, if_neg (by omega)]
  rfl
 by_cases h6 : 48 ≤ c
 rotate_left
 ·rw [if_neg h6, if_neg (by simp)]
  exact key
 rw [if_pos h6, if_neg (by simp; omega)]
 exact key
theorem here_cons {s : ByteArray} {i : Nat} {a : Int} {l : List Int} (h : From s i (a :: l)) : spec_reader_here.f s (i : Int) = some (a, s, (i : Int)) := by
 have := h.lt
 unfold spec_reader_here.f
 rw [if_pos (by omega), if_pos (by omega), h.bt]
theorem here_nil {s : ByteArray} {i : Nat} (h : From s i []) : spec_reader_here.f s (i : Int) = some (0, s, (i : Int)) := by
 have := h.nil
 unfold spec_reader_here.f
 rw [if_neg (by omega)]
theorem up {i n : Nat} (k : Nat) (h : i ≤ n) (hn : n ≤ 140737488351232) (hk : k ≤ 100) : wrap64 ((i : Int) + (k : Int)) = ((i + k : Nat) : Int) := by
 rw [w64 (by omega)]; omega
theorem up1 {i n : Nat} (h : i ≤ n) (hn : n ≤ 140737488351232) : wrap64 ((i : Int) + 1) = ((i + 1 : Nat) : Int) := up 1 h hn (by omega)
def hexs : Nat → List Int → Bool
  | 0, _ => true
  | _ + 1, [] => false
  | n + 1, a :: r => (hexv a).isSome && hexs n r
theorem hex4_hexs (l : List Int) : (hex4 l).isSome = hexs 4 l := by
 match l with
 | [] => rfl
 | [a] => simp [hex4, hexs]
 | [a, b] => simp [hex4, hexs]
 | [a, b, c] => simp [hex4, hexs]
 | a :: b :: c :: d :: r =>
  simp only [hex4, hexs]
  cases hexv a <;> cases hexv b <;> cases hexv c <;> cases hexv d <;> rfl
section
variable {s : ByteArray} (hs : s.size ≤ 140737488351232)
include hs
theorem esc_l0 : ∀ (n : Nat) (i : Nat) (l : List Int), n ≤ 4 → From s i l →
 (hexs n l = true → Ev (fun k => spec_reader_escape.l0 k (((4 - n : Nat) : Int)) s i) (true, s, ((i + n : Nat) : Int))) ∧
 (hexs n l = false → ∃ p, Ev (fun k => spec_reader_escape.l0 k (((4 - n : Nat) : Int)) s i) (false, s, p))
 | 0, i, l, _, h => ⟨fun _ => Ev.step (f := fun _ => some (true, s, (i : Int))) (fun k => by simp only [spec_reader_escape.l0]; rw [if_neg (by omega)]) (Ev.now _), fun h => by simp [hexs] at h⟩
 | n + 1, i, [], hn, h => by
  refine ⟨fun e => by simp [hexs] at e, fun _ => ⟨(i : Int), ?_⟩⟩
  refine Ev.step (f := fun k => (spec_hexDigit.f k 0).bind fun bt107 => (if bt107.2 = true then (spec_reader_escape.l0 k (wrap64 ((((4 - (n + 1) : Nat) : Int)) + 1)) s (wrap64 ((i : Int) + 1))) else some (false, s, (i : Int)))) (fun k => ?_) (Ev.bind (hexDigit_eq (by omega)) (Ev.congr (fun k => if_neg (by simp [hexv])) (Ev.now _)))
  simp only [spec_reader_escape.l0]
  rw [if_pos (by omega), here_nil h]
  rfl
 | n + 1, i, a :: l, hn, h => by
  have ih := esc_l0 n (i + 1) l (by omega) h.tail
  have e1 : wrap64 ((((4 - (n + 1) : Nat) : Int)) + 1) = (((4 - n : Nat) : Int)) := by rw [w64 (by omega)]; omega
  have e2 := up1 (Nat.le_of_lt h.lt) hs
  have st : ∀ R, Ev (fun k => if (hexv a).isSome = true then (spec_reader_escape.l0 k (((4 - n : Nat) : Int)) s ((i + 1 : Nat) : Int)) else some (false, s, (i : Int))) R → Ev (fun k => spec_reader_escape.l0 k (((4 - (n + 1) : Nat) : Int)) s i) R := fun R hR => by
   refine Ev.step (f := fun k => (spec_hexDigit.f k a).bind fun bt107 => (if bt107.2 = true then (spec_reader_escape.l0 k (((4 - n : Nat) : Int)) s ((i + 1 : Nat) : Int)) else some (false, s, (i : Int)))) (fun k => ?_) (Ev.bind (hexDigit_eq h.head) hR)
   simp only [spec_reader_escape.l0]
   rw [if_pos (by omega), here_cons h, e1]
   simp only [Option.bind_some, e2]
  by_cases ha : (hexv a).isSome = true
  rotate_left
  ·exact ⟨fun e => by simp [hexs, ha] at e, fun _ => ⟨_, st _ (Ev.congr (fun k => if_neg ha) (Ev.now _))⟩⟩
  refine ⟨fun e => ?_, fun e => ?_⟩
  ·simp only [hexs, Bool.and_eq_true] at e
   have := st _ (Ev.congr (fun k => if_pos ha) (ih.1 e.2))
   rwa [show i + 1 + n = i + (n + 1) by omega] at this
  ·rw [hexs, ha, Bool.true_and] at e
   obtain ⟨p, hp⟩ := ih.2 e
   exact ⟨p, st _ (Ev.congr (fun k => if_pos ha) hp)⟩
theorem escape_eq {i : Nat} {l : List Int} (h : From s i l) :
 (∀ r, escL l = some r → Ev (fun k => spec_reader_escape.f k s i) (true, s, ((s.size - r.length : Nat) : Int))) ∧
 (escL l = none → ∃ p, Ev (fun k => spec_reader_escape.f k s i) (false, s, p)) := by
 have j0 : ∀ a x, x = isE a → Ev (fun k => spec_reader_escape.j0 k a x s i) = Ev (fun k => if isE a = true then some (true, s, wrap64 ((i : Int) + 1)) else if a = 117 then spec_reader_escape.l0 (k - 1) 0 s (wrap64 ((i : Int) + 1)) else some (false, s, (i : Int))) := by
  intro a x e
  subst e
  funext R
  apply propext
  constructor
  ·rintro ⟨K, hK⟩
   refine ⟨K + 1, fun k hk => ?_⟩
   obtain ⟨k, rfl⟩ : ∃ m, k = m + 1 := ⟨k - 1, by omega⟩
   have := hK (k + 1) (by omega)
   simpa only [spec_reader_escape.j0, Nat.add_sub_cancel] using this
  ·rintro ⟨K, hK⟩
   refine ⟨K + 1, fun k hk => ?_⟩
   obtain ⟨k, rfl⟩ : ∃ m, k = m + 1 := ⟨k - 1, by omega⟩
   have := hK (k + 1) (by omega)
   simpa only [spec_reader_escape.j0, Nat.add_sub_cancel] using this
 have sh : ∀ {g : Nat → Option (Bool × ByteArray × Int)} {R}, Ev g R → Ev (fun k => g (k - 1)) R := by
  rintro g R ⟨K, hK⟩
  exact ⟨K + 1, fun k hk => hK _ (by omega)⟩
 match l, h with
 | [], h =>
  refine ⟨fun r hr => by simp [escL] at hr, fun _ => ⟨(i : Int), ?_⟩⟩
  refine Ev.congr (f := fun k => spec_reader_escape.j0 k 0 ((0 : Int) == 116) s i) (fun k => ?_) ?_
  ·unfold spec_reader_escape.f
   rw [here_nil h]
   rfl
  ·rw [j0 0 _ zq40]
   exact Ev.congr (fun k => by rw [if_neg zq40, if_neg zq40]) (Ev.now _)
 | a :: l, h =>
  have e2 := up1 (Nat.le_of_lt h.lt) hs
  have hl := h.len
  simp only [List.length_cons] at hl
  have key : Ev (fun k => spec_reader_escape.f k s i) = Ev (fun k => spec_reader_escape.j0 k a (isE a) s i) := by
   congr 1
   funext k
   unfold spec_reader_escape.f
   rw [here_cons h]
   simp only [Option.bind_some, isE]
   by_cases h1 : a = 34
   ·rw [if_pos h1, h1]; rfl
   rw [if_neg h1]
   by_cases h2 : a = 92
   ·rw [if_pos h2, h2]; rfl
   rw [if_neg h2]
   by_cases h3 : a = 47
   ·rw [if_pos h3, h3]; rfl
   rw [if_neg h3]
   by_cases h4 : a = 98
   ·rw [if_pos h4, h4]; rfl
   rw [if_neg h4]
   by_cases h5 : a = 102
   ·rw [if_pos h5, h5]; rfl
   rw [if_neg h5]
   by_cases h6 : a = 110
   ·rw [if_pos h6, h6]; rfl
   rw [if_neg h6]
   by_cases h7 : a = 114
   ·rw [if_pos h7, h7]; rfl
   rw [if_neg h7]
   congr 1
   rw [Bool.eq_iff_iff]
   simp
   omega
  rw [key, j0 a _ rfl]
  by_cases h1 : isE a = true
  ·refine ⟨fun r hr => ?_, fun hr => (by rw [escL_let _ h1] at hr; cases hr)⟩
   rw [escL_let _ h1] at hr
   cases hr
   refine Ev.congr (fun k => if_pos h1) (Ev_same (Ev.now _) ?_)
   rw [e2, show i + 1 = s.size - l.length by omega]
  by_cases h2 : a = 117
  rotate_left
  ·refine ⟨fun r hr => (by rw [escL, if_neg h1, if_neg h2] at hr; cases hr), fun _ => ⟨(i : Int), Ev.congr (fun k => by rw [if_neg h1, if_neg h2]) (Ev.now _)⟩⟩
  subst h2
  have hh := esc_l0 hs 4 (i + 1) l (by omega) h.tail
  refine ⟨fun r hr => ?_, fun hr => ?_⟩
  ·rw [escL, if_neg h1, if_pos rfl] at hr
   obtain ⟨v, hv, hr⟩ := Option.bind_eq_some_iff.mp hr
   cases hr
   have h4 : hexs 4 l = true := by rw [← hex4_hexs, hv]; rfl
   have hlen := hex4_len hv
   refine Ev.congr (f := fun k => spec_reader_escape.l0 (k - 1) 0 s ((i + 1 : Nat) : Int)) (fun k => by rw [if_neg h1, if_pos rfl, e2]) (Ev_same (sh (hh.1 h4)) ?_)
   rw [show i + 1 + 4 = s.size - (l.drop 4).length by rw [List.length_drop]; omega]
  ·rw [escL, if_neg h1, if_pos rfl] at hr
   have h4 : hexs 4 l = false := by
    rw [← hex4_hexs]
    cases hv : hex4 l with
    | none => rfl
    | some v => rw [hv] at hr; cases hr
   obtain ⟨p, hp⟩ := hh.2 h4
   exact ⟨p, Ev.congr (f := fun k => spec_reader_escape.l0 (k - 1) 0 s ((i + 1 : Nat) : Int)) (fun k => by rw [if_neg h1, if_pos rfl, e2]) (sh hp)⟩
theorem quoted_l0 : ∀ (n i : Nat) (l : List Int), l.length ≤ n → From s i l →
 (∀ r, strL l = some r → Ev (fun k => spec_reader_quoted.l0 k s i) (true, s, ((s.size - r.length : Nat) : Int))) ∧
 (strL l = none → ∃ p, Ev (fun k => spec_reader_quoted.l0 k s i) (false, s, p))
 | n, i, [], _, h => by
  have := h.nil
  refine ⟨fun r hr => (by rw [strL_nil] at hr; cases hr), fun _ => ⟨(i : Int), Ev.step (f := fun _ => some (false, s, (i : Int))) (fun k => ?_) (Ev.now _)⟩⟩
  simp only [spec_reader_quoted.l0]
  rw [if_neg (by omega)]
 | 0, i, c :: l, hn, h => by simp at hn
 | n + 1, i, c :: l, hn, h => by
  simp only [List.length_cons] at hn
  have hl := h.len
  simp only [List.length_cons] at hl
  have e2 := up1 (Nat.le_of_lt h.lt) hs
  have st : ∀ k, spec_reader_quoted.l0 (k + 1) s i = (if c = 34 then (some (true, s, ((i + 1 : Nat) : Int))) else (if c < 32 then (some (false, s, ((i + 1 : Nat) : Int))) else (if c = 92 then ((spec_reader_escape.f k s ((i + 1 : Nat) : Int)).bind fun bt101 => (if bt101.1 = true then (spec_reader_quoted.l0 k bt101.2.1 bt101.2.2) else (some (false, bt101.2.1, bt101.2.2)))) else (spec_reader_quoted.l0 k s ((i + 1 : Nat) : Int))))) := fun k => by
   simp only [spec_reader_quoted.l0]
   rw [if_pos (by have := h.lt; omega), if_pos (by omega), h.bt, e2]
  by_cases h1 : c = 34
  ·subst h1
   refine ⟨fun r hr => ?_, fun hr => (by rw [strL_end] at hr; cases hr)⟩
   rw [strL_end] at hr
   cases hr
   refine Ev.step (fun k => (st k).trans (if_pos rfl)) (Ev_same (Ev.now _) ?_)
   rw [show i + 1 = s.size - l.length by omega]
  by_cases h2 : c < 32
  ·refine ⟨fun r hr => (by rw [strL_low _ h2] at hr; cases hr), fun _ => ⟨_, Ev.step (fun k => (st k).trans ((if_neg h1).trans (if_pos h2))) (Ev.now _)⟩⟩
  by_cases h3 : c = 92
  rotate_left
  ·rw [strL_raw _ ⟨h1, h2, h3⟩]
   have ih := quoted_l0 n (i + 1) l (by omega) h.tail
   have go : ∀ k, spec_reader_quoted.l0 (k + 1) s i = spec_reader_quoted.l0 k s ((i + 1 : Nat) : Int) := fun k => (st k).trans ((if_neg h1).trans ((if_neg h2).trans (if_neg h3)))
   refine ⟨fun r hr => Ev.step go (ih.1 r hr), fun hr => ?_⟩
   obtain ⟨p, hq⟩ := ih.2 hr
   exact ⟨p, Ev.step go hq⟩
  subst h3
  have hh := escape_eq hs h.tail
  rw [strL_esc]
  have go : ∀ {a q R}, Ev (fun k => spec_reader_escape.f k s ((i + 1 : Nat) : Int)) (a, s, q) → Ev (fun k => if a = true then (spec_reader_quoted.l0 k s q) else (some (false, s, q))) R → Ev (fun k => spec_reader_quoted.l0 k s i) R := fun {a q R} hx hy =>
   Ev.step (fun k => (st k).trans ((if_neg h1).trans ((if_neg h2).trans (if_pos rfl)))) (Ev.bind hx hy)
  cases he : escL l with
  | none =>
   refine ⟨fun r hr => (by cases hr), fun _ => ?_⟩
   obtain ⟨p, hp⟩ := hh.2 he
   exact ⟨p, go hp (Ev.congr (fun k => if_neg zq40) (Ev.now _))⟩
  | some r' =>
   have hlen := escL_len he
   have hp := hh.1 r' he
   have hF : From s (s.size - r'.length) r' := by
    rcases escL_ex he with ⟨b, _, rfl⟩ | ⟨a, b, c, d, v, _, rfl⟩
    ·have := h.tail.tail
     have hz := this.len
     rwa [show i + 1 + 1 = s.size - r'.length by omega] at this
    ·have := h.tail.tail.tail.tail.tail.tail
     have hz := this.len
     rwa [show i + 1 + 1 + 1 + 1 + 1 + 1 = s.size - r'.length by omega] at this
   have ih := quoted_l0 n (s.size - r'.length) r' (by omega) hF
   refine ⟨fun r hr => go hp (Ev.congr (fun k => if_pos rfl) (ih.1 r hr)), fun hr => ?_⟩
   obtain ⟨p, hq⟩ := ih.2 hr
   exact ⟨p, go hp (Ev.congr (fun k => if_pos rfl) hq)⟩
theorem quoted_eq {i : Nat} {c : Int} {l : List Int} (h : From s i (c :: l)) :
 (∀ r, strL l = some r → Ev (fun k => spec_reader_quoted.f k s i) (true, s, ((s.size - r.length : Nat) : Int))) ∧
 (strL l = none → ∃ p, Ev (fun k => spec_reader_quoted.f k s i) (false, s, p)) := by
 have e2 := up1 (Nat.le_of_lt h.lt) hs
 have := quoted_l0 hs l.length (i + 1) l (Nat.le_refl _) h.tail
 unfold spec_reader_quoted.f
 rw [e2]
 exact this
end

end Go.Proofs.YtaigbkkgmncipaaDoor.J
end
section
namespace Go.Proofs.YtaigbkkgmncipaaDoor.RN
open Go.RowKit Go.Proofs.YtaigbkkgmncipaaDoor.G Go.Proofs.YtaigbkkgmncipaaDoorW.PrintWords Go.Proofs.YtaigbkkgmncipaaDoorW.PrintLast
def dg (s : ByteArray) (i : Nat) : Bool := decide (i < s.size ∧ 48 ≤ bt s i ∧ bt s i ≤ 57)
theorem Ev_same {α : Type} {g : Nat → Option α} {r r' : α} (h : Ev g r) (e : r = r') : Ev g r' := e ▸ h
end Go.Proofs.YtaigbkkgmncipaaDoor.RN
end
section
namespace Go.Proofs.YtaigbkkgmncipaaDoor.J
open Go.RowKit Go.Proofs.YtaigbkkgmncipaaDoor.G Go.Proofs.YtaigbkkgmncipaaDoorW.PrintWords Go.Proofs.YtaigbkkgmncipaaDoorW.PrintLast

def Suf (s : ByteArray) (l : List Int) : Prop := From s (s.size - l.length) l
def P (s : ByteArray) (l : List Int) : Int := ((s.size - l.length : Nat) : Int)
theorem Suf.le {s : ByteArray} {l : List Int} (h : Suf s l) : l.length ≤ s.size := by
 have := From.len h
 omega
theorem Suf.tail {s : ByteArray} {a : Int} {l : List Int} (h : Suf s (a :: l)) : Suf s l := by
 have h1 := h.le
 have := From.tail h
 simp only [List.length_cons] at this h1
 unfold Suf
 rwa [show s.size - l.length = s.size - (l.length + 1) + 1 by omega]
theorem Suf.app {s : ByteArray} {a l : List Int} (h : Suf s (a ++ l)) : Suf s l := by
 induction a with
 | nil => exact h
 | cons x a ih => exact ih (Suf.tail h)
theorem Suf.of {s : ByteArray} {i : Nat} {l : List Int} (h : From s i l) : Suf s l ∧ i = s.size - l.length := by
 have := h.len
 have e : i = s.size - l.length := by omega
 refine ⟨?_, e⟩
 unfold Suf
 rw [← e]
 exact h
theorem Suf.start (s : ByteArray) : Suf s (bytesOf s) := by
 unfold Suf
 rw [bytesOf_length, Nat.sub_self]
 exact From.start s
theorem P_cons {s : ByteArray} {a : Int} {l : List Int} (h : Suf s (a :: l)) : P s l = P s (a :: l) + 1 := by
 have := h.le
 unfold P
 simp only [List.length_cons] at this ⊢
 omega
theorem P_le (s : ByteArray) (l : List Int) : 0 ≤ P s l ∧ P s l ≤ s.size := by unfold P; omega
theorem P_lt {s : ByteArray} {a : Int} {l : List Int} (h : Suf s (a :: l)) : P s (a :: l) < s.size := by
 have := h.le
 unfold P
 simp only [List.length_cons] at this ⊢
 omega
theorem P_nil (s : ByteArray) : P s [] = s.size := by unfold P; simp
theorem Suf.bt {s : ByteArray} {a : Int} {l : List Int} (h : Suf s (a :: l)) : bt s (P s (a :: l)) = a := From.bt h
theorem Suf.skB {s : ByteArray} {l : List Int} (h : Suf s l) : Suf s (skB l) := by
 obtain ⟨b, _, e⟩ := skB_ex l
 rw [e] at h
 exact h.app
theorem Suf.str {s : ByteArray} {l r : List Int} (h : Suf s l) (k : strL l = some r) : Suf s r := by
 obtain ⟨b, _, e⟩ := strL_iff.mp k
 rw [e] at h
 exact Suf.tail h.app
theorem Suf.drop {s : ByteArray} {l : List Int} (h : Suf s l) (n : Nat) : Suf s (l.drop n) := by
 rw [← List.take_append_drop n l] at h
 exact h.app
section
variable {s : ByteArray} (hs : s.size ≤ 140737488351232)
include hs
theorem up_P {a : Int} {l : List Int} (h : Suf s (a :: l)) : wrap64 (P s (a :: l) + 1) = P s l := by
 have := P_le s (a :: l)
 rw [P_cons h, w64 (by omega)]
omit hs in
theorem here_P {a : Int} {l : List Int} (h : Suf s (a :: l)) : spec_reader_here.f s (P s (a :: l)) = some (a, s, P s (a :: l)) := here_cons h
theorem blanks_eq : ∀ l, Suf s l → Ev (fun k => spec_reader_blanks.f k s (P s l)) (s, P s (skB l))
 | [], _ => by
  refine Ev.step (f := fun _ => some (s, P s [])) (fun k => ?_) (Ev.now _)
  unfold spec_reader_blanks.f
  simp only [spec_reader_blanks.l0]
  rw [P_nil, if_neg (by omega)]
 | c :: l, h => by
  have h1 := P_lt h
  have h2 := P_le s (c :: l)
  have hb : spec_Blank.f c = some (isB c) := by
   unfold spec_Blank.f isB
   by_cases e1 : c = 32
   ·rw [if_pos e1, e1]; rfl
   by_cases e2 : c = 9
   ·rw [if_neg e1, if_pos e2, e2]; rfl
   by_cases e3 : c = 10
   ·rw [if_neg e1, if_neg e2, if_pos e3, e3]; rfl
   rw [if_neg e1, if_neg e2, if_neg e3]
   congr 1
   rw [Bool.eq_iff_iff]
   simp [e1, e2, e3]
  unfold spec_reader_blanks.f
  by_cases e : isB c = true
  ·refine Ev.step (fun k => ?_) (Ev_same (blanks_eq l h.tail) (by rw [skB, if_pos e]))
   simp only [spec_reader_blanks.l0]
   rw [if_pos (by omega), if_pos (by omega), h.bt, hb, Option.bind_some, if_pos e, up_P hs h]
   rfl
  refine Ev.step (f := fun _ => some (s, P s (c :: l))) (fun k => ?_) (Ev_same (Ev.now _) (by rw [skB, if_neg e]))
  simp only [spec_reader_blanks.l0]
  rw [if_pos (by omega), if_pos (by omega), h.bt, hb, Option.bind_some, if_neg e]
theorem quoted_P {a : Int} {l : List Int} (h : Suf s (a :: l)) :
 (∀ r, strL l = some r → Ev (fun k => spec_reader_quoted.f k s (P s (a :: l))) (true, s, P s r)) ∧ (strL l = none → ∃ p, Ev (fun k => spec_reader_quoted.f k s (P s (a :: l))) (false, s, p)) := quoted_eq hs h
end
end Go.Proofs.YtaigbkkgmncipaaDoor.J
end
section
namespace Go.Proofs.YtaigbkkgmncipaaDoor.U
open Go.RowKit Go.Proofs.YtaigbkkgmncipaaDoor.G Go.Proofs.YtaigbkkgmncipaaDoorW.PrintWords Go.Proofs.YtaigbkkgmncipaaDoorW.PrintLast
theorem w64 {x : Int} (h : -9223372036854775808 ≤ x ∧ x ≤ 9223372036854775807) : wrap64 x = x := by
 unfold wrap64
 omega
def nb (s : ByteArray) (i : Nat) : Nat := (s.get! i).toNat
theorem nb_bt (s : ByteArray) (i : Nat) : bt s (i : Int) = (nb s i : Int) := by
 unfold bt nb
 split
 ·rename_i h
  have h' : i < s.size := by simpa using h
  have e : s.get! i = s[i]'h' := by cases s with | mk d => exact getElem!_pos d i h'
  rw [e]
  simp
 ·rename_i h
  have h' : ¬ i < s.size := by simpa using h
  have e : s.get! i = default := by cases s with | mk d => exact getElem!_neg d i h'
  rw [e]
  rfl
theorem nb_lt (s : ByteArray) (i : Nat) : nb s i < 256 := (s.get! i).toNat_lt
theorem Ev_same {α : Type} {g : Nat → Option α} {r r' : α} (h : Ev g r) (e : r = r') : Ev g r' := e ▸ h
structure Chr (s : ByteArray) (i c n : Nat) : Prop where
  dec : Utf8.decode s i = (c, n)
  pos : 1 ≤ n
  fit : i + n ≤ s.size
  low : nb s i < 128 → c = nb s i ∧ n = 1
  high : 128 ≤ nb s i → 128 ≤ c ∧ 2 ≤ n
  top : c ≤ 1114111 ∧ n ≤ 4

theorem l0_more {s : ByteArray} (hs : s.size ≤ 140737488351232) {i : Nat} (hi : i < s.size) (x7 x8 x9 x10 : Nat) (hx : x10 ≤ x8) (h7 : x7 ≤ 1000000) (hj : i + x10 < s.size) (h8 : x8 ≤ 3) {r : Int × Int × Bool}
 (hb : 128 ≤ nb s (i + x10) ∧ nb s (i + x10) ≤ 191)
 (h : Ev (fun k => spec_Character.l0 k s i ((x7 * 64 + (nb s (i + x10) - 128) : Nat) : Int) x8 x9 ((x10 + 1 : Nat) : Int)) r) :
 Ev (fun k => spec_Character.l0 k s i x7 x8 x9 (x10 : Int)) r := by
 refine Ev.step (fun k => ?_) h
 have e1 : wrap64 ((i : Int) + (x10 : Int)) = ((i + x10 : Nat) : Int) := by rw [w64 (by omega)]; omega
 have e2 : wrap64 (bt s ((i + x10 : Nat) : Int)) = (nb s (i + x10) : Int) := by rw [nb_bt, w64 (by omega)]
 simp only [spec_Character.l0, e1, e2]
 rw [if_pos (by omega), if_pos (by omega), if_pos (by omega), if_neg (by omega), if_neg (by omega)]
 congr 1
 ·rw [w64 (x := (x7 : Int) * 64) (by omega), w64 (x := (x7 : Int) * 64 + _) (by omega), w64 (by omega)]
  omega
 ·rw [w64 (by omega)]
  omega
theorem l0_none {s : ByteArray} (hs : s.size ≤ 140737488351232) {i : Nat} (hi : i < s.size) (x7 x8 x9 x10 : Nat) (hx : x10 ≤ x8) (hj : i + x10 < s.size) (h8 : x8 ≤ 3) (hb : ¬ (128 ≤ nb s (i + x10) ∧ nb s (i + x10) ≤ 191)) :
 Ev (fun k => spec_Character.l0 k s i x7 x8 x9 (x10 : Int)) (65533, 1, false) := by
 refine Ev.step (f := fun _ => some (65533, 1, false)) (fun k => ?_) (Ev.now _)
 have e1 : wrap64 ((i : Int) + (x10 : Int)) = ((i + x10 : Nat) : Int) := by rw [w64 (by omega)]; omega
 have e2 : wrap64 (bt s ((i + x10 : Nat) : Int)) = (nb s (i + x10) : Int) := by rw [nb_bt, w64 (by have := nb_lt s (i + x10); omega)]
 simp only [spec_Character.l0, e1, e2]
 rw [if_pos (by omega), if_pos (by omega), if_pos (by omega)]
 by_cases h : nb s (i + x10) < 128
 ·rw [if_pos (by omega)]
 rw [if_neg (by omega), if_pos (by omega)]
theorem l0_end {s : ByteArray} (_hs : s.size ≤ 140737488351232) {i : Nat} (_hi : i < s.size) (x7 x8 x9 : Nat) (h8 : x8 ≤ 3) :
 Ev (fun k => spec_Character.l0 k s i x7 x8 x9 ((x8 + 1 : Nat) : Int)) (if x9 ≤ x7 ∧ x7 ≤ 1114111 ∧ ¬ (55296 ≤ x7 ∧ x7 ≤ 57343) then ((x7 : Int), ((x8 + 1 : Nat) : Int), true) else (65533, 1, false)) := by
 refine Ev.step (f := fun _ => some _) (fun k => ?_) (Ev.now _)
 have eR : ¬ (x9 ≤ x7 ∧ x7 ≤ 1114111 ∧ ¬ (55296 ≤ x7 ∧ x7 ≤ 57343)) → (if x9 ≤ x7 ∧ x7 ≤ 1114111 ∧ ¬ (55296 ≤ x7 ∧ x7 ≤ 57343) then ((x7 : Int), ((x8 + 1 : Nat) : Int), true) else (65533, 1, false)) = (65533, 1, false) := fun h => if_neg h
 simp only [spec_Character.l0, spec_high.f, spec_low.f]
 rw [if_neg (by omega)]
 by_cases h1 : x7 < x9
 ·rw [if_pos (by omega), if_neg (by omega)]
 rw [if_neg (by omega)]
 by_cases h2 : x7 > 1114111
 ·rw [if_pos (by omega), if_neg (by omega)]
 rw [if_neg (by omega), w64 (x := (x8 : Int) + 1) (by omega)]
 by_cases h3 : 55296 ≤ x7 ∧ x7 ≤ 56319
 ·rw [eR (by omega), if_pos (by omega)]
  simp only [Option.bind_some]
  rw [if_pos (by simp; omega)]
 have e3 : (if 55296 ≤ (x7 : Int) then some (decide ((x7 : Int) ≤ 56319)) else some false) = some false := by
  split
  ·congr 1
   simp
   omega
  ·rfl
 rw [e3]
 simp only [Option.bind_some]
 rw [if_neg zq40]
 by_cases h4 : 56320 ≤ x7 ∧ x7 ≤ 57343
 ·rw [eR (by omega), if_pos (by omega)]
  simp only [Option.bind_some]
  rw [if_pos (by simp; omega)]
 have e4 : (if 56320 ≤ (x7 : Int) then some (decide ((x7 : Int) ≤ 57343)) else some false) = some false := by
  split
  ·congr 1
   simp
   omega
  ·rfl
 rw [e4]
 simp only [Option.bind_some]
 rw [if_neg zq40, if_pos (by omega)]
 simp
def Ans (s : ByteArray) (i : Nat) (r : Int × Int × Bool) : Prop := r = (65533, 1, false) ∨ ∃ c n : Nat, r = ((c : Int), (n : Int), true) ∧ Chr s i c n
theorem j2_two {s : ByteArray} (hs : s.size ≤ 140737488351232) {i : Nat} (hi : i < s.size) (h0 : 194 ≤ nb s i ∧ nb s i ≤ 223) : ∃ r, Ev (fun k => spec_Character.j2 k s i ((nb s i - 192 : Nat) : Int) 1 128) r ∧ Ans s i r := by
 by_cases hn : s.size ≤ i + 1
 ·refine ⟨_, Ev.step (f := fun _ => some (65533, 1, false)) (fun k => ?_) (Ev.now _), .inl rfl⟩
  simp only [spec_Character.j2]
  rw [if_pos zq57]
 have st : ∀ {r}, Ev (fun k => spec_Character.l0 k s i ((nb s i - 192 : Nat) : Int) ((1 : Nat) : Int) ((128 : Nat) : Int) ((1 : Nat) : Int)) r → Ev (fun k => spec_Character.j2 k s i ((nb s i - 192 : Nat) : Int) 1 128) r := fun h => by
  refine Ev.step (fun k => ?_) h
  simp only [spec_Character.j2]
  rw [if_neg zq57]
  rfl
 by_cases h1 : 128 ≤ nb s (i + 1) ∧ nb s (i + 1) ≤ 191
 rotate_left
 ·exact ⟨_, st (l0_none hs hi _ 1 128 1 (by omega) (by omega) (by omega) h1), .inl rfl⟩
 refine ⟨_, st (l0_more hs hi _ 1 128 1 (by omega) (by omega) (by omega) (by omega) h1 (l0_end hs hi _ 1 128 (by omega))), .inr ⟨(nb s i - 192) * 64 + (nb s (i + 1) - 128), 2, ?_, ?_, by omega, by omega, fun h => by omega, fun _ => by omega, by omega⟩⟩
 ·rw [if_pos (by omega)]
 ·rw [Lib.decode_at]
  change Lib.decodeN (s.size - i) (nb s i) (nb s (i + 1)) (nb s (i + 2)) (nb s (i + 3)) = _
  unfold Lib.decodeN
  rw [if_neg (by omega), if_pos (by omega), if_pos (by omega)]
  refine congrArg (fun x => (x, 2)) ?_
  omega
theorem j2_three {s : ByteArray} (hs : s.size ≤ 140737488351232) {i : Nat} (hi : i < s.size) (h0 : 224 ≤ nb s i ∧ nb s i ≤ 239) : ∃ r, Ev (fun k => spec_Character.j2 k s i ((nb s i - 224 : Nat) : Int) 2 2048) r ∧ Ans s i r := by
 by_cases hn : s.size ≤ i + 2
 ·refine ⟨_, Ev.step (f := fun _ => some (65533, 1, false)) (fun k => ?_) (Ev.now _), .inl rfl⟩
  simp only [spec_Character.j2]
  rw [if_pos zq57]
 have st : ∀ {r}, Ev (fun k => spec_Character.l0 k s i ((nb s i - 224 : Nat) : Int) ((2 : Nat) : Int) ((2048 : Nat) : Int) ((1 : Nat) : Int)) r → Ev (fun k => spec_Character.j2 k s i ((nb s i - 224 : Nat) : Int) 2 2048) r := fun h => by
  refine Ev.step (fun k => ?_) h
  simp only [spec_Character.j2]
  rw [if_neg zq57]
  rfl
 by_cases h1 : 128 ≤ nb s (i + 1) ∧ nb s (i + 1) ≤ 191
 rotate_left
 ·exact ⟨_, st (l0_none hs hi _ 2 2048 1 (by omega) (by omega) (by omega) h1), .inl rfl⟩
 by_cases h2 : 128 ≤ nb s (i + 2) ∧ nb s (i + 2) ≤ 191
 rotate_left
 ·exact ⟨_, st (l0_more hs hi _ 2 2048 1 (by omega) (by omega) (by omega) (by omega) h1 (l0_none hs hi _ 2 2048 2 (by omega) (by omega) (by omega) h2)), .inl rfl⟩
 have hE := st (l0_more hs hi _ 2 2048 1 (by omega) (by omega) (by omega) (by omega) h1 (l0_more hs hi _ 2 2048 2 (by omega) (by omega) (by omega) (by omega) h2 (l0_end hs hi _ 2 2048 (by omega))))
 refine ⟨_, hE, ?_⟩
 by_cases hx : 2048 ≤ ((nb s i - 224) * 64 + (nb s (i + 1) - 128)) * 64 + (nb s (i + 2) - 128) ∧ ((nb s i - 224) * 64 + (nb s (i + 1) - 128)) * 64 + (nb s (i + 2) - 128) ≤ 1114111 ∧ ¬ (55296 ≤ ((nb s i - 224) * 64 + (nb s (i + 1) - 128)) * 64 + (nb s (i + 2) - 128) ∧ ((nb s i - 224) * 64 + (nb s (i + 1) - 128)) * 64 + (nb s (i + 2) - 128) ≤ 57343)
 rotate_left
 ·exact .inl (if_neg hx)
 refine .inr ⟨((nb s i - 224) * 64 + (nb s (i + 1) - 128)) * 64 + (nb s (i + 2) - 128), 3, by rw [if_pos hx], ?_, by omega, by omega, fun h => by omega, fun _ => by omega, by omega⟩
 rw [Lib.decode_at]
 change Lib.decodeN (s.size - i) (nb s i) (nb s (i + 1)) (nb s (i + 2)) (nb s (i + 3)) = _
 unfold Lib.decodeN
 rw [if_neg (by omega), if_neg (by omega), if_pos (by omega), if_pos (by omega)]
 refine congrArg (fun x => (x, 3)) ?_
 omega
theorem j2_four {s : ByteArray} (hs : s.size ≤ 140737488351232) {i : Nat} (hi : i < s.size) (h0 : 240 ≤ nb s i ∧ nb s i ≤ 244) : ∃ r, Ev (fun k => spec_Character.j2 k s i ((nb s i - 240 : Nat) : Int) 3 65536) r ∧ Ans s i r := by
 by_cases hn : s.size ≤ i + 3
 ·refine ⟨_, Ev.step (f := fun _ => some (65533, 1, false)) (fun k => ?_) (Ev.now _), .inl rfl⟩
  simp only [spec_Character.j2]
  rw [if_pos zq57]
 have st : ∀ {r}, Ev (fun k => spec_Character.l0 k s i ((nb s i - 240 : Nat) : Int) ((3 : Nat) : Int) ((65536 : Nat) : Int) ((1 : Nat) : Int)) r → Ev (fun k => spec_Character.j2 k s i ((nb s i - 240 : Nat) : Int) 3 65536) r := fun h => by
  refine Ev.step (fun k => ?_) h
  simp only [spec_Character.j2]
  rw [if_neg zq57]
  rfl
 by_cases h1 : 128 ≤ nb s (i + 1) ∧ nb s (i + 1) ≤ 191
 rotate_left
 ·exact ⟨_, st (l0_none hs hi _ 3 65536 1 (by omega) (by omega) (by omega) h1), .inl rfl⟩
 by_cases h2 : 128 ≤ nb s (i + 2) ∧ nb s (i + 2) ≤ 191
 rotate_left
 ·exact ⟨_, st (l0_more hs hi _ 3 65536 1 (by omega) (by omega) (by omega) (by omega) h1 (l0_none hs hi _ 3 65536 2 (by omega) (by omega) (by omega) h2)), .inl rfl⟩
 by_cases h3 : 128 ≤ nb s (i + 3) ∧ nb s (i + 3) ≤ 191
 rotate_left
 ·exact ⟨_, st (l0_more hs hi _ 3 65536 1 (by omega) (by omega) (by omega) (by omega) h1 (l0_more hs hi _ 3 65536 2 (by omega) (by omega) (by omega) (by omega) h2 (l0_none hs hi _ 3 65536 3 (by omega) (by omega) (by omega) h3))), .inl rfl⟩
 have hE := st (l0_more hs hi _ 3 65536 1 (by omega) (by omega) (by omega) (by omega) h1 (l0_more hs hi _ 3 65536 2 (by omega) (by omega) (by omega) (by omega) h2 (l0_more hs hi _ 3 65536 3 (by omega) (by omega) (by omega) (by omega) h3 (l0_end hs hi _ 3 65536 (by omega)))))
 refine ⟨_, hE, ?_⟩
 obtain ⟨x, hxe⟩ : ∃ x, x = (((nb s i - 240) * 64 + (nb s (i + 1) - 128)) * 64 + (nb s (i + 2) - 128)) * 64 + (nb s (i + 3) - 128) := ⟨_, rfl⟩
 rw [← hxe]
 by_cases hx : 65536 ≤ x ∧ x ≤ 1114111 ∧ ¬ (55296 ≤ x ∧ x ≤ 57343)
 rotate_left
 ·exact .inl (if_neg hx)
 refine .inr ⟨x, 4, by rw [if_pos hx], ?_, by omega, by omega, fun h => by omega, fun _ => by omega, by omega⟩
 rw [Lib.decode_at]
 change Lib.decodeN (s.size - i) (nb s i) (nb s (i + 1)) (nb s (i + 2)) (nb s (i + 3)) = _
 unfold Lib.decodeN
 rw [if_neg (by omega), if_neg (by omega), if_neg (by omega), if_pos (by omega), if_pos (by omega)]
 congr 1
 omega
theorem char_ans {s : ByteArray} (hs : s.size ≤ 140737488351232) {i : Nat} (hi : i < s.size) : ∃ r, Ev (fun k => spec_Character.f k s i) r ∧ Ans s i r := by
 have hb := nb_lt s i
 have e2 : wrap64 (bt s (i : Int)) = (nb s i : Int) := by rw [nb_bt, w64 (by omega)]
 have no : ∀ {f : Nat → Option (Int × Int × Bool)}, (∀ k, f k = some (65533, 1, false)) → ∃ r, Ev f r ∧ Ans s i r := fun h => ⟨_, Ev.congr h (Ev.now _), .inl rfl⟩
 have fore : ∀ {g f : Nat → Option (Int × Int × Bool)}, (∀ k, g (k + 1) = f k) → (∃ r, Ev f r ∧ Ans s i r) → ∃ r, Ev g r ∧ Ans s i r := fun h ⟨r, h1, h2⟩ => ⟨r, Ev.step h h1, h2⟩
 have same : ∀ {g f : Nat → Option (Int × Int × Bool)}, (∀ k, g k = f k) → (∃ r, Ev f r ∧ Ans s i r) → ∃ r, Ev g r ∧ Ans s i r := fun h ⟨r, h1, h2⟩ => ⟨r, Ev.congr h h1, h2⟩
 by_cases h1 : nb s i < 128
 ·refine ⟨_, Ev.congr (f := fun _ => some ((nb s i : Int), ((1 : Nat) : Int), true)) (fun k => ?_) (Ev.now _), .inr ⟨nb s i, 1, rfl, ?_, by omega, by omega, fun _ => ⟨rfl, rfl⟩, fun h => by omega, by omega⟩⟩
  ·simp only [spec_Character.f, e2]
   rw [if_pos (by omega), if_pos (by omega), if_pos (by omega)]
   rfl
  ·rw [Lib.decode_at]
   change Lib.decodeN (s.size - i) (nb s i) (nb s (i + 1)) (nb s (i + 2)) (nb s (i + 3)) = _
   unfold Lib.decodeN
   rw [if_pos h1]
 by_cases h2 : 194 ≤ nb s i ∧ nb s i ≤ 223
 ·refine same (f := fun k => spec_Character.j0 k s i (nb s i : Int) true) (fun k => ?_) (fore (fun k => ?_) (j2_two hs hi h2))
  ·simp only [spec_Character.f, e2]
   rw [if_pos (by omega), if_pos (by omega), if_neg (by omega), if_pos (by omega)]
   congr 1
   simp
   omega
  ·simp only [spec_Character.j0]
   rw [if_pos trivial, w64 (by omega)]
   congr 1
   omega
 refine same (f := fun k => spec_Character.j0 k s i (nb s i : Int) false) (fun k => ?_) ?_
 ·simp only [spec_Character.f, e2]
  rw [if_pos (by omega), if_pos (by omega), if_neg (by omega)]
  by_cases h : 194 ≤ nb s i
  rotate_left
  ·rw [if_neg (by omega)]
  rw [if_pos (by omega)]
  congr 1
  simp
  omega
 by_cases h3 : 224 ≤ nb s i ∧ nb s i ≤ 239
 ·refine fore (f := fun k => spec_Character.j1 k s i (nb s i : Int) true) (fun k => ?_) (fore (fun k => ?_) (j2_three hs hi h3))
  ·simp only [spec_Character.j0]
   rw [if_neg zq40, if_pos (by omega)]
   congr 1
   simp
   omega
  ·simp only [spec_Character.j1]
   rw [if_pos trivial, w64 (by omega)]
   congr 1
   omega
 refine fore (f := fun k => spec_Character.j1 k s i (nb s i : Int) false) (fun k => ?_) ?_
 ·simp only [spec_Character.j0]
  rw [if_neg zq40]
  by_cases h : 224 ≤ nb s i
  rotate_left
  ·rw [if_neg (by omega)]
  rw [if_pos (by omega)]
  congr 1
  simp
  omega
 by_cases h4 : 240 ≤ nb s i ∧ nb s i ≤ 244
 ·refine fore (fun k => ?_) (j2_four hs hi h4)
  simp only [spec_Character.j1]
  rw [if_neg zq40, if_pos (by omega), if_pos (by omega), w64 (by omega)]
  congr 1
  omega
 refine fore (f := fun _ => some (65533, 1, false)) (fun k => ?_) (no fun _ => rfl)
 simp only [spec_Character.j1]
 rw [if_neg zq40]
 by_cases h : 240 ≤ nb s i
 rotate_left
 ·rw [if_neg (by omega)]
 rw [if_pos (by omega), if_neg (by omega)]
inductive Val (s : ByteArray) : Nat → Prop
  | done : Val s s.size
  | step {i c n : Nat} : i < s.size → Chr s i c n → Ev (fun k => spec_Character.f k s i) ((c : Int), (n : Int), true) → Val s (i + n) → Val s i
theorem utf8_val {s : ByteArray} (hs : s.size ≤ 140737488351232) : ∀ d i, s.size - i = d → i ≤ s.size → ∃ t, Ev (fun k => spec_UTF8.l0 k s i) t ∧ (t = true → Val s i) := by
 intro d
 induction d using Nat.strongRecOn with
 | ind d ih =>
  intro i hd hi
  by_cases h : i < s.size
  rotate_left
  ·refine ⟨true, Ev.step (f := fun _ => some true) (fun k => ?_) (Ev.now _), fun _ => ?_⟩
   ·simp only [spec_UTF8.l0]
    rw [if_neg (by omega)]
   ·have e : i = s.size := by omega
    subst e
    exact Val.done
  obtain ⟨r, h1, h2⟩ := char_ans hs h
  rcases h2 with rfl | ⟨c, n, rfl, hc⟩
  ·refine ⟨false, Ev.step (f := fun k => (spec_Character.f k s i).bind fun b => if b.2.2 = true then spec_UTF8.l0 k s (wrap64 (i + b.2.1)) else some false) (fun k => ?_) (Ev.bind h1 ?_), fun h => by simp at h⟩
   ·simp only [spec_UTF8.l0]
    rw [if_pos (by omega)]
   ·exact Ev.congr (fun k => by rw [if_neg zq40]) (Ev.now _)
  ·have hf := hc.fit
   have hp := hc.pos
   obtain ⟨t, h3, h4⟩ := ih (s.size - (i + n)) (by omega) (i + n) rfl hf
   refine ⟨t, Ev.step (f := fun k => (spec_Character.f k s i).bind fun b => if b.2.2 = true then spec_UTF8.l0 k s (wrap64 (i + b.2.1)) else some false) (fun k => ?_) (Ev.bind h1 ?_), fun h5 => Val.step h hc h1 (h4 h5)⟩
   ·simp only [spec_UTF8.l0]
    rw [if_pos (by omega)]
   ·refine Ev.congr (fun k => ?_) h3
    change spec_UTF8.l0 k s (wrap64 ((i : Int) + (n : Int))) = _
    rw [w64 (by omega)]
    congr 1
end Go.Proofs.YtaigbkkgmncipaaDoor.U
end
section
namespace Go.Proofs.YtaigbkkgmncipaaDoor.J
open Go.RowKit Go.Proofs.YtaigbkkgmncipaaDoor.G Go.Proofs.YtaigbkkgmncipaaDoor.U Go.Proofs.YtaigbkkgmncipaaDoorW.PrintWords Go.Proofs.YtaigbkkgmncipaaDoorW.PrintLast
set_option linter.unusedVariables false
set_option linter.unusedSimpArgs false
theorem dx_size (s : ByteArray) (i n : Nat) (h : i + n ≤ s.size) : (s.extract i (i + n)).size = n := by
 rw [ByteArray.size_extract]
 omega
theorem dx_list (s : ByteArray) (i n : Nat) (h : i + n ≤ s.size) : bytesOf (s.extract i (i + n)) = (List.range n).map fun j => (nb s (i + j) : Int) := by
 have hl : (bytesOf (s.extract i (i + n))).length = n := by rw [bytesOf_length, dx_size s i n h]
 refine List.ext_getElem (by simp [hl]) fun j h1 h2 => ?_
 have hj : j < n := by omega
 have h3 : rd (bytesOf (s.extract i (i + n))) (j : Int) = bt s ((i + j : Nat) : Int) := by
  rw [rd_bytesOf]
  unfold bt
  simp only [Int.toNat_natCast]
  rw [dif_pos (by rw [dx_size s i n h]; exact hj), dif_pos (by omega)]
  simp [ByteArray.getElem_extract]
 rw [nb_bt] at h3
 simp only [List.getElem_map, List.getElem_range]
 rw [← h3]
 simp [rd, h1]
theorem hiS_eq (c : Int) : hiS c = true ↔ 55296 ≤ c ∧ c ≤ 56319 := by unfold hiS; simp
theorem loS_eq (c : Int) : loS c = true ↔ 56320 ≤ c ∧ c ≤ 57343 := by unfold loS; simp
theorem chr_utf {s : ByteArray} {i c n : Nat} (hc : Chr s i c n) : bytesOf (s.extract i (i + n)) = utf (c : Int) ∧ ¬ (55296 ≤ c ∧ c ≤ 57343) := by
 have hd := hc.dec
 have hf := hc.fit
 have hh := hc.high
 have hlo := hc.low
 have h0 := nb_lt s i
 have h1 := nb_lt s (i + 1)
 have h2 := nb_lt s (i + 2)
 have h3 := nb_lt s (i + 3)
 rw [dx_list s i n hf]
 rw [Lib.decode_at] at hd
 change Lib.decodeN (s.size - i) (nb s i) (nb s (i + 1)) (nb s (i + 2)) (nb s (i + 3)) = _ at hd
 by_cases hl : nb s i < 128
 ·obtain ⟨rfl, rfl⟩ := hlo hl
  refine ⟨?_, by omega⟩
  unfold utf
  rw [if_pos (by omega)]
  simp
 have hh2 := hh (by omega)
 unfold Lib.decodeN at hd
 rw [if_neg hl] at hd
 unfold utf
 rw [if_neg (by omega)]
 split at hd
 ·rename_i hq
  split at hd
  ·injection hd with e1 e2
   subst e2
   refine ⟨?_, by omega⟩
   rw [if_pos (by omega)]
   simp only [List.range, List.range.loop, List.map_cons, List.map_nil, Nat.add_zero]
   congr 1
   ·omega
   ·congr 1
    omega
  ·injection hd with e1 e2
   omega
 ·split at hd
  ·rename_i hq
   split at hd
   ·rename_i hv
    injection hd with e1 e2
    subst e2
    refine ⟨?_, by omega⟩
    rw [if_neg (by omega), if_neg (by rw [hiS_eq, loS_eq]; omega), if_pos (by omega)]
    simp only [List.range, List.range.loop, List.map_cons, List.map_nil, Nat.add_zero]
    congr 1
    ·omega
    ·congr 1
     ·omega
     ·congr 1
      omega
   ·injection hd with e1 e2
    omega
  ·split at hd
   ·rename_i hq
    split at hd
    ·rename_i hv
     injection hd with e1 e2
     subst e2
     refine ⟨?_, by omega⟩
     rw [if_neg (by omega), if_neg (by rw [hiS_eq, loS_eq]; omega), if_neg (by omega)]
     simp only [List.range, List.range.loop, List.map_cons, List.map_nil, Nat.add_zero]
     congr 1
     ·omega
     ·congr 1
      ·omega
      ·congr 1
       ·omega
       ·congr 1
        omega
    ·injection hd with e1 e2
     omega
   ·injection hd with e1 e2
    omega
inductive Pc : List Int → List Int → Prop
  | raw {p : List Int} : (∀ x ∈ p, 32 ≤ x ∧ x ≠ 34 ∧ x ≠ 92) → Pc p p
  | two {d : Int} : isE d = true → Pc [92, d] [unl d]
  | six {a b c d v : Int} : hex4 [a, b, c, d] = some v → ¬ (55296 ≤ v ∧ v ≤ 57343) → Pc [92, 117, a, b, c, d] (utf v)
  | pair {a b c d v e f g h m : Int} : hex4 [a, b, c, d] = some v → hex4 [e, f, g, h] = some m → 55296 ≤ v → v ≤ 56319 → 56320 ≤ m → m ≤ 57343 → Pc [92, 117, a, b, c, d, 92, 117, e, f, g, h] (utf (65536 + (v - 55296) * 1024 + (m - 56320)))
inductive DB : List Int → List Int → Prop
  | nil : DB [] []
  | cons {p x t u : List Int} : Pc p x → DB t u → DB (p ++ t) (x ++ u)
theorem strL_raws : ∀ (p r : List Int), (∀ x ∈ p, 32 ≤ x ∧ x ≠ 34 ∧ x ≠ 92) → strL (p ++ r) = strL r
 | [], _, _ => rfl
 | c :: p, r, h => by
  have h1 := h c (by simp)
  rw [List.cons_append, strL_raw _ ⟨h1.2.1, by omega, h1.2.2⟩]
  exact strL_raws p r fun x hx => h x (by simp [hx])
theorem escL_six {a b c d v : Int} (r : List Int) (h : hex4 [a, b, c, d] = some v) : escL (117 :: a :: b :: c :: d :: r) = some r := by
 rw [escL, isE_117, if_neg zq40, if_pos rfl, hex4_more r [], h]
 rfl
theorem strL_db {t u : List Int} (h : DB t u) (r : List Int) : strL (t ++ r) = strL r := by
 induction h with
 | nil => rfl
 | cons hp _ ih =>
  rw [List.append_assoc]
  cases hp with
  | raw h1 => rw [strL_raws _ _ h1, ih]
  | two h1 =>
   rw [List.cons_append, List.cons_append, List.nil_append, strL_esc, escL_let _ h1]
   exact ih
  | six h1 h2 =>
   simp only [List.cons_append, List.nil_append]
   rw [strL_esc, escL_six _ h1]
   exact ih
  | pair h1 h2 h3 h4 h5 h6 =>
   simp only [List.cons_append, List.nil_append]
   rw [strL_esc, escL_six _ h1, Option.bind_some, strL_esc, escL_six _ h2]
   exact ih
theorem digF_hex {d up : Int} (h : 0 ≤ d ∧ d < 16) : hexv (digF d up) = some d ∧ 48 ≤ digF d up ∧ digF d up ≤ 102 := by
 unfold digF hexv
 by_cases h10 : d < 10
 ·rw [if_pos h10, if_pos (by omega)]
  exact ⟨congrArg some (by omega), by omega, by omega⟩
 rw [if_neg h10]
 by_cases hu : up = 1
 rotate_left
 ·rw [if_neg hu, if_neg (by omega), if_pos (by omega)]
  exact ⟨congrArg some (by omega), by omega, by omega⟩
 rw [if_pos hu, if_neg (by omega), if_neg (by omega), if_pos (by omega)]
 exact ⟨congrArg some (by omega), by omega, by omega⟩
theorem unit5_hex (code : List Int) {m : Int} (hm : 0 ≤ m ∧ m ≤ 65535) (used : Int) (out : List Int) : ∃ a b c d, (unit5F code m used out).2 = out ++ [92, 117, a, b, c, d] ∧ hex4 [a, b, c, d] = some m ∧ ∀ x ∈ [a, b, c, d], 48 ≤ x ∧ x ≤ 102 := by
 unfold unit5F
 simp only [unitF, List.append_assoc, List.cons_append, List.nil_append]
 refine ⟨_, _, _, _, rfl, ?_, ?_⟩
 ·simp only [hex4]
  rw [(digF_hex zq54).1, (digF_hex zq54).1, (digF_hex zq54).1, (digF_hex zq54).1]
  simp only [Option.bind_some, Int.reducePow, Nat.reducePow]
  congr 1
  omega
 ·intro x hx
  simp only [List.mem_cons, List.mem_nil_iff, or_false] at hx
  rcases hx with rfl | rfl | rfl | rfl <;> exact (digF_hex zq54).2
theorem escF_pc (code : List Int) {c : Int} (hc : 0 ≤ c ∧ c ≤ 1114111) (hs : ¬ (55296 ≤ c ∧ c ≤ 57343)) (used : Int) (out : List Int) : ∃ p, (escF code c used out).2 = out ++ p ∧ Pc p (utf c) ∧ ∀ x ∈ p, 0 ≤ x ∧ x ≤ 255 := by
 unfold escF
 split
 ·rename_i hb
  obtain ⟨a1, b1, c1, d1, e1, h1, r1⟩ := unit5_hex code (m := 55296 + (c - 65536) / 1024) (by omega) used out
  obtain ⟨a2, b2, c2, d2, e2, h2, r2⟩ := unit5_hex code (m := 56320 + (c - 65536) % 1024) (by omega) (unit5F code (55296 + (c - 65536) / 1024) used out).1 (unit5F code (55296 + (c - 65536) / 1024) used out).2
  refine ⟨[92, 117, a1, b1, c1, d1, 92, 117, a2, b2, c2, d2], by rw [e2, e1]; simp, ?_, ?_⟩
  ·have := Pc.pair h1 h2 (by omega) (by omega) (by omega) (by omega)
   rwa [show 65536 + (55296 + (c - 65536) / 1024 - 55296) * 1024 + (56320 + (c - 65536) % 1024 - 56320) = c by omega] at this
  ·intro x hx
   simp only [List.mem_cons, List.mem_nil_iff, or_false] at hx r1 r2
   rcases hx with rfl | rfl | hx | hx | hx | hx | rfl | rfl | hx | hx | hx | hx
   ·omega
   ·omega
   ·have := r1 x (by simp [hx]); omega
   ·have := r1 x (by simp [hx]); omega
   ·have := r1 x (by simp [hx]); omega
   ·have := r1 x (by simp [hx]); omega
   ·omega
   ·omega
   ·have := r2 x (by simp [hx]); omega
   ·have := r2 x (by simp [hx]); omega
   ·have := r2 x (by simp [hx]); omega
   ·have := r2 x (by simp [hx]); omega
 ·obtain ⟨a1, b1, c1, d1, e1, h1, r1⟩ := unit5_hex code (m := c) (by omega) used out
  refine ⟨[92, 117, a1, b1, c1, d1], e1, .six h1 hs, ?_⟩
  intro x hx
  simp only [List.mem_cons, List.mem_nil_iff, or_false] at hx r1
  rcases hx with rfl | rfl | hx | hx | hx | hx
  ·omega
  ·omega
  ·have := r1 x (by simp [hx]); omega
  ·have := r1 x (by simp [hx]); omega
  ·have := r1 x (by simp [hx]); omega
  ·have := r1 x (by simp [hx]); omega
theorem short_two {z l : Int} (h : spec_shortOf.f z = some (l, true)) : isE l = true ∧ unl l = z ∧ z < 128 := by
 unfold spec_shortOf.f at h
 repeat' split at h
 all_goals first
  | (simp only [Option.some.injEq, Prod.mk.injEq, Bool.false_eq_true, and_false] at h; done)
  | (simp only [Option.some.injEq, Prod.mk.injEq, and_true] at h; subst h; subst_vars; refine ⟨by decide, by decide, by decide⟩)
  | (simp only [Option.some.injEq, Prod.mk.injEq, and_true] at h; subst h; simp_all [isE, unl])
theorem short_ex (z : Int) : ∃ l ok, spec_shortOf.f z = some (l, ok) := by
 unfold spec_shortOf.f
 repeat' split
 all_goals exact ⟨_, _, rfl⟩
theorem step_pc (code : List Int) {s : ByteArray} {i c n : Nat} (hi : i < s.size) (hc : Chr s i c n) {l : Int} {ok : Bool} (hl : spec_shortOf.f (bt s i) = some (l, ok)) (used : Int) (out : List Int) :
 ∃ p, (stepF code (mustB (bt s i)) ok l c (bytesOf (s.extract i (i + n))) used out).2 = out ++ p ∧ Pc p (utf (c : Int)) ∧ ∀ x ∈ p, 0 ≤ x ∧ x ≤ 255 := by
 obtain ⟨hu, hsg⟩ := chr_utf hc
 have ht := hc.top
 have hR : ∀ x ∈ utf (c : Int), 0 ≤ x ∧ x ≤ 255 := utf_range (by omega) (by omega)
 unfold stepF
 split
 ·exact escF_pc code (by omega) (by omega) _ _
 ·rename_i hn
  split
  ·rename_i hq
   obtain ⟨rfl, _⟩ := hq
   obtain ⟨h1, h2, h3⟩ := short_two hl
   rw [nb_bt] at h2 h3
   have h4 := (hc.low (by omega)).1
   refine ⟨[92, l], rfl, ?_, ?_⟩
   ·have := Pc.two h1
    rw [h2] at this
    unfold utf
    rw [if_pos (by omega), h4]
    exact this
   ·have hE : isE l = true := h1
    simp only [isE, decide_eq_true_eq] at hE
    intro x hx
    simp only [List.mem_cons, List.mem_nil_iff, or_false] at hx
    omega
  ·rename_i hq
   refine ⟨_, rfl, ?_, by rw [hu]; exact hR⟩
   rw [hu]
   refine .raw ?_
   have hm : mustB (bt s i) = false := by
    cases hm : mustB (bt s i) with
    | false => rfl
    | true =>
     cases ok with
     | true => exact absurd ⟨rfl, .inl hm⟩ hq
     | false => exact absurd (.inr ⟨hm, rfl⟩) hn
   unfold mustB at hm
   rw [nb_bt] at hm
   have hm2 := of_decide_eq_false hm
   by_cases h128 : nb s i < 128
   ·have h4 := (hc.low h128).1
    unfold utf
    rw [if_pos (by omega), h4]
    intro x hx
    simp only [List.mem_cons, List.mem_nil_iff, or_false] at hx
    omega
   have h5 := (hc.high (by omega)).1
   intro x hx
   unfold utf at hx
   rw [if_neg (by omega)] at hx
   split at hx
   ·simp at hx; omega
   split at hx
   ·simp at hx; omega
   split at hx
   ·simp at hx; omega
   ·simp at hx; omega
theorem quL_db {s : ByteArray} (hs : s.size ≤ 140737488351232) (code : List Int) {i : Nat} (hv : Val s i) : ∀ (used : Int) (out : List Int), ∃ t ru, DB t ((bytesOf s).drop i) ∧ (∀ x ∈ t, 0 ≤ x ∧ x ≤ 255) ∧ Ev (fun k => quL code s k i used out) (ru, out ++ t) := by
 induction hv with
 | done =>
  intro used out
  refine ⟨[], used, ?_, by simp, Ev.step (f := fun _ => some (used, out ++ [])) (fun k => ?_) (Ev.now _)⟩
  ·rw [List.drop_of_length_le (by rw [bytesOf_length]; exact Nat.le_refl _)]
   exact .nil
  ·rw [quL, if_neg (by omega), List.append_nil]
 | @step i c n hi hc hch _ ih =>
  intro used out
  obtain ⟨l, ok, hl⟩ := short_ex (bt s i)
  obtain ⟨p, hp, hpc, hpr⟩ := step_pc code hi hc hl used out
  obtain ⟨t, ru, h1, h2, h3⟩ := ih (stepF code (mustB (bt s i)) ok l c (bytesOf (s.extract i (i + n))) used out).1 (stepF code (mustB (bt s i)) ok l c (bytesOf (s.extract i (i + n))) used out).2
  rw [hp] at h3
  have hf := hc.fit
  have htop := hc.top
  have hpos := hc.pos
  refine ⟨p ++ t, ru, ?_, ?_, ?_⟩
  ·have e : (bytesOf s).drop i = utf (c : Int) ++ (bytesOf s).drop (i + n) := by
    rw [← (chr_utf hc).1, bytesOf_extract, List.drop_take]
    rw [Nat.add_sub_cancel_left]
    conv => lhs; rw [← List.take_append_drop n ((bytesOf s).drop i)]
    rw [List.drop_drop]
   rw [e]
   exact .cons hpc h1
  ·intro x hx
   rcases List.mem_append.mp hx with hx | hx
   ·exact hpr x hx
   ·exact h2 x hx
  ·rw [← List.append_assoc]
   refine Ev.step (f := fun k => (spec_Character.f k s i).bind fun t => if t.2.2 = true ∧ 0 ≤ t.1 ∧ t.1 ≤ 1114111 ∧ 1 ≤ t.2.1 ∧ t.2.1 ≤ 4 ∧ (i : Int) + t.2.1 ≤ (s.size : Int) then (spec_shortOf.f (bt s i)).bind fun q => quL code s k (i + t.2.1) (stepF code (mustB (bt s i)) q.2 q.1 t.1 (bytesOf (s.extract (i : Int).toNat ((i : Int) + t.2.1).toNat)) used out).1 (stepF code (mustB (bt s i)) q.2 q.1 t.1 (bytesOf (s.extract (i : Int).toNat ((i : Int) + t.2.1).toNat)) used out).2 else none) (fun k => ?_) (Ev.bind hch ?_)
   ·rw [quL, if_pos (by omega)]
   ·refine Ev.congr (fun k => ?_) h3
    rw [if_pos ⟨rfl, by simp only; omega, by simp only; omega, by simp only; omega, by simp only; omega, by simp only; omega⟩, hl, Option.bind_some]
    simp only
    rw [show ((i : Int) + (n : Int)) = ((i + n : Nat) : Int) by omega, Int.toNat_natCast, Int.toNat_natCast, hp]
theorem blF_app (code : List Int) : ∀ (k : Nat) (used : Int) (out : List Int), ∃ a, (blF code k used out).2 = out ++ a ∧ a.length = k ∧ ∀ x ∈ a, isB x = true ∧ 0 ≤ x ∧ x ≤ 255
 | 0, used, out => ⟨[], by simp [blF], rfl, by simp⟩
 | k + 1, used, out => by
  obtain ⟨a, h1, h2, h3⟩ := blF_app code k (pickF code used 4).2 (out ++ [blk4 (pickF code used 4).1])
  refine ⟨blk4 (pickF code used 4).1 :: a, by rw [blF, h1]; simp, by simp [h2], fun x hx => ?_⟩
  rcases List.mem_cons.mp hx with rfl | hx
  ·unfold blk4
   repeat' split
   all_goals decide
  ·exact h3 x hx
theorem bl4_app {code : List Int} (hu : ∀ x ∈ code, 0 ≤ x ∧ x ≤ 255) (used : Int) (out : List Int) : ∃ a, (bl4 code used out).2 = out ++ a ∧ a.length ≤ 3 ∧ ∀ x ∈ a, isB x = true ∧ 0 ≤ x ∧ x ≤ 255 := by
 obtain ⟨a, h1, h2, h3⟩ := blF_app code (pickF code used 4).1.toNat (pickF code used 4).2 out
 have := pick_range hu used 4 zq40
 exact ⟨a, h1, by omega, h3⟩
theorem dress_eq {s : ByteArray} (hs : s.size ≤ 2147483647) {code : List Int} (hu : ∀ x ∈ code, 0 ≤ x ∧ x ≤ 255) (hv : Val s 0) :
 ∃ d a t b, Ev (fun k => spec_Dress.f k 4 s [] [] code) d ∧ bytesOf d = a ++ 34 :: (t ++ 34 :: b) ∧ (∀ x ∈ a, isB x = true) ∧ (∀ x ∈ b, isB x = true) ∧ DB t (bytesOf s) ∧ d.size ≤ 20 * s.size + 20 := by
 obtain ⟨a, ha, hal, hab⟩ := bl4_app hu 0 []
 obtain ⟨t, ru, h1, h2, h3⟩ := quL_db (by omega) code hv (bl4 code 0 []).1 ((bl4 code 0 []).2 ++ [34])
 obtain ⟨b, hb, hbl, hbb⟩ := bl4_app hu ru (((bl4 code 0 []).2 ++ [34] ++ t) ++ [34])
 obtain ⟨k, hk0⟩ := id h3
 have hk := hk0 k (Nat.le_refl _)
 have hbd := (quL_bounds s k 0 _ _ _ (Int.le_refl 0) hk).2 (by omega)
 rw [ha] at hb
 have e : (bl4 code ru ((bl4 code 0 []).2 ++ [34] ++ t ++ [34])).2 = a ++ 34 :: (t ++ 34 :: b) := by
  rw [ha, hb]
  simp
 refine ⟨strOfNums (a ++ 34 :: (t ++ 34 :: b)), a, t, b, ?_, ?_, fun x hx => (hab x hx).1, fun x hx => (hbb x hx).1, by simpa using h1, ?_⟩
 ·unfold spec_Dress.f dressS
  refine Ev.congr (fun k => if_pos ⟨rfl, rfl, rfl⟩) (Ev.congr (fun k => if_pos ⟨hu, hs⟩) (Ev.bind h3 ?_))
  simp only
  rw [e]
  exact Ev.now _
 ·apply bytesOf_strOfNums
  intro x hx
  simp only [List.mem_append, List.mem_cons] at hx
  rcases hx with hx | rfl | hx | rfl | hx
  ·exact (hab x hx).2
  ·omega
  ·exact h2 x hx
  ·omega
  ·exact (hbb x hx).2
 ·have hz : (strOfNums (a ++ 34 :: (t ++ 34 :: b))).size = (a ++ 34 :: (t ++ 34 :: b)).length := strOfNums_size _
  rw [hz]
  rw [ha] at hbd
  simp only [List.length_append, List.length_cons, List.length_nil, List.nil_append] at hbd ⊢
  omega
theorem places_str {s : ByteArray} (hs : s.size ≤ 2147483647) {a t b : List Int} (e : bytesOf s = a ++ 34 :: (t ++ 34 :: b)) (ha : ∀ x ∈ a, isB x = true) (hb : ∀ x ∈ b, isB x = true) (ht : strL (t ++ 34 :: b) = some b) :
 Ev (fun k => spec_Places.f k s) (4, (a.length : Int), ((a.length + t.length + 2 : Nat) : Int), [], [], true) := by
 have hs' : s.size ≤ 140737488351232 := by omega
 have hsz : s.size = a.length + t.length + b.length + 2 := by
  rw [← bytesOf_length, e]
  simp only [List.length_append, List.length_cons]
  omega
 have h0 := Suf.start s
 have hbl := blanks_eq hs' _ h0
 have e0 : P s (bytesOf s) = 0 := by unfold P; rw [bytesOf_length]; simp
 have ek : skB (bytesOf s) = 34 :: (t ++ 34 :: b) := by
  rw [e, skB_app _ _ ha]
  exact skB_no zq40
 have hk := h0.skB
 rw [e0, ek] at hbl
 rw [ek] at hk
 have hq := (quoted_P hs' hk).1 b ht
 have hb0 := blanks_eq hs' b (hk.tail.str ht)
 have eb : skB b = [] := by
  have := skB_app b [] hb
  rw [List.append_nil] at this
  rw [this]
  rfl
 rw [eb, P_nil] at hb0
 have p1 : P s (34 :: (t ++ 34 :: b)) = (a.length : Int) := by
  unfold P
  simp only [List.length_append, List.length_cons]
  omega
 have p2 : P s b = ((a.length + t.length + 2 : Nat) : Int) := by
  unfold P
  omega
 have hval : Ev (fun k => spec_reader_value.f k s (P s (34 :: (t ++ 34 :: b)))) (4, P s (34 :: (t ++ 34 :: b)), P s b, [], [], true, s, P s b) := by
  refine Ev.step (f := fun k => (spec_reader_quoted.f k s (P s (34 :: (t ++ 34 :: b)))).bind fun bt121 => (some (4, P s (34 :: (t ++ 34 :: b)), bt121.2.2, [], [], bt121.1, bt121.2.1, bt121.2.2))) (fun k => ?_) (Ev.bind hq (Ev.now _))
  simp only [spec_reader_value.f, here_P hk, Option.bind_some]
  rw [if_neg zq40, if_neg zq40, if_pos trivial]
 rw [p1, p2] at hval
 rw [p1] at hbl
 rw [p2] at hb0
 unfold spec_Places.f
 exact Ev.bind hbl (Ev.bind hval (Ev.congr (fun _ => if_pos rfl) (Ev.bind hb0 (Ev.congr (fun _ => if_pos rfl) (Ev.now _)))))
theorem gU_raw {c : Int} (l : List Int) (h1 : c ≠ 92) (h2 : ¬ c < 32) : gU (c :: l) = (gU l).map (c :: ·) := by
 match l with
 | [] =>
  rw [gU_nil, gU, if_neg (by omega)]
  rfl
 | d :: r => rw [gU, if_neg h1, if_neg h2]
theorem gU_raws : ∀ (p l : List Int), (∀ x ∈ p, 32 ≤ x ∧ x ≠ 34 ∧ x ≠ 92) → gU (p ++ l) = (gU l).map (p ++ ·)
 | [], l, _ => by simp
 | c :: p, l, h => by
  have h1 := h c (by simp)
  rw [List.cons_append, gU_raw _ h1.2.2 (by omega), gU_raws p l fun x hx => h x (by simp [hx]), Option.map_map]
  rfl
theorem eB_utf {c : Int} : eB c = utf c := by
 unfold eB utf
 split
 ·rfl
 split
 ·rfl
 by_cases h : 55296 ≤ c ∧ c ≤ 57343
 ·have h' : hiS c = true ∨ loS c = true := by rw [hiS_eq, loS_eq]; omega
  rw [if_pos h, if_pos h']
 have h' : ¬ (hiS c = true ∨ loS c = true) := by rw [hiS_eq, loS_eq]; omega
 rw [if_neg h, if_neg h']
theorem gU_db {t u : List Int} (h : DB t u) (r : List Int) : gU (t ++ r) = (gU r).map (u ++ ·) := by
 induction h with
 | nil => simp
 | @cons p x t u hp _ ih =>
  have hm : (gU r).map ((x ++ u) ++ ·) = ((gU r).map (u ++ ·)).map (x ++ ·) := by
   rw [Option.map_map]
   congr 1
   funext z
   simp [Function.comp]
  rw [List.append_assoc, hm, ← ih]
  cases hp with
  | raw h1 => exact gU_raws _ _ h1
  | two h1 =>
   rw [List.cons_append, List.cons_append, List.nil_append, gU, if_pos rfl, if_pos h1]
   rfl
  | six h1 h2 =>
   simp only [List.cons_append, List.nil_append]
   rw [gU, if_pos rfl, if_neg (by rw [isE_117]; decide), if_pos rfl, hex4_more _ [], h1]
   simp only
   rw [if_neg (by omega), eB_utf]
   rfl
  | @pair a b c d v e f g h m h1 h2 h3 h4 h5 h6 =>
   simp only [List.cons_append, List.nil_append]
   rw [gU, if_pos rfl, if_neg (by rw [isE_117]; decide), if_pos rfl, hex4_more _ [], h1]
   simp only
   have hu : unitL (List.drop 4 (a :: b :: c :: d :: 92 :: 117 :: e :: f :: g :: h :: (t ++ r))) = some m := by
    simp only [List.drop_succ_cons, List.drop_zero]
    exact unitL_six ((hex4_more _ []).trans h2)
   rw [if_pos (by omega), hu]
   simp only
   rw [if_pos (by omega), eB_utf]
   rfl
theorem gunescape_eq {s t u : ByteArray} (hz : t.size ≤ 2147483647) (h : DB (bytesOf t) (bytesOf u)) : gjson_unescape.f t = some u := by
 unfold gjson_unescape.f
 rw [if_pos hz]
 have := gU_db h []
 rw [List.append_nil, gU_nil] at this
 rw [this]
 simp only [Option.map_some, List.append_nil]
 rw [strOfNums_bytesOf]
end Go.Proofs.YtaigbkkgmncipaaDoor.J
end
section
namespace Go.Proofs.YtaigbkkgmncipaaDoor.Pure
open Go.RowKit Go.Proofs.YtaigbkkgmncipaaDoor.G Go.Proofs.YtaigbkkgmncipaaDoor.U Go.Proofs.YtaigbkkgmncipaaDoor.J Go.Proofs.YtaigbkkgmncipaaDoorW.PrintWords Go.Proofs.YtaigbkkgmncipaaDoorW.PrintLast
set_option linter.unusedVariables false
set_option linter.unusedSimpArgs false
theorem u8_wf {l : List Int} (h : ∀ x ∈ l, (Lit.int .u8 x).wf = true) : ∀ x ∈ l, 0 ≤ x ∧ x ≤ 255 := by
 intro x hx
 have := h x hx
 simp [Lit.wf] at this
 have e1 : IntKind.u8.min = 0 := rfl
 have e2 : IntKind.u8.max = 255 := rfl
 omega
theorem FnGjUnescapeWhole : laws_FnGjUnescapeWhole.Pure := by
 intro a0 l1 h0 _ _ hw
 have hu := u8_wf hw
 have j0t : Ev (fun k => laws_FnGjUnescapeWhole.j0 k a0 l1 true) true := Ev.step (f := fun _ => some true) (fun k => by simp only [laws_FnGjUnescapeWhole.j0, if_true]) (Ev.now _)
 have j1t : Ev (fun k => laws_FnGjUnescapeWhole.j1 k a0 l1 true) true := Ev.step (f := fun _ => some true) (fun k => by simp only [laws_FnGjUnescapeWhole.j1, if_true]) (Ev.now _)
 have main : Ev (fun k => laws_FnGjUnescapeWhole.f k a0 l1) true := by
  unfold laws_FnGjUnescapeWhole.f
  by_cases c1 : (a0.size : Int) > 2147483647
  ·exact Ev.congr (fun _ => if_pos c1) j0t
  refine Ev.congr (fun _ => if_neg c1) ?_
  by_cases c2 : (l1.length : Int) > 2147483647
  ·rw [decide_eq_true c2]; exact j0t
  rw [decide_eq_false c2]
  refine Ev.step (f := fun k => if (a0.size : Int) > 4096 then (laws_FnGjUnescapeWhole.j1 k a0 l1 true) else ((spec_UTF8.f k a0).bind fun t101 => (laws_FnGjUnescapeWhole.j1 k a0 l1 (!t101)))) (fun k => by simp only [laws_FnGjUnescapeWhole.j0]; rw [if_neg zq40]) ?_
  by_cases c3 : (a0.size : Int) > 4096
  ·exact Ev.congr (fun _ => if_pos c3) j1t
  refine Ev.congr (fun _ => if_neg c3) ?_
  obtain ⟨t, e1, e2⟩ := utf8_val h0 _ 0 rfl (by omega)
  refine Ev.bind (show Ev (fun k => spec_UTF8.f k a0) t from e1) ?_
  cases t with
  | false => exact j1t
  | true =>
   obtain ⟨d, a, t, b, h1, h2, h3, h4, h5, h6⟩ := dress_eq (by omega) hu (e2 rfl)
   have hsz : d.size = a.length + t.length + b.length + 2 := by
    rw [← bytesOf_length, h2]
    simp only [List.length_append, List.length_cons]
    omega
   have hp := places_str (by omega) h2 h3 h4 (by rw [strL_db h5, strL_end])
   refine Ev.step (f := fun k => (spec_Dress.f k 4 a0 [] [] l1).bind fun t102 => ((spec_Places.f k t102).bind fun bt103 => (if 0 ≤ (wrap64 (bt103.2.1 + 1)) then (if (wrap64 (bt103.2.1 + 1)) ≤ (wrap64 (bt103.2.2.1 - 1)) then (if (wrap64 (bt103.2.2.1 - 1)) ≤ (t102.size : Int) then ((impl_GjUnescape.f (t102.extract ((wrap64 (bt103.2.1 + 1)) : Int).toNat ((wrap64 (bt103.2.2.1 - 1)) : Int).toNat)).bind fun t114 => (some (t114.toList == a0.toList))) else (none)) else (none)) else (none)))) (fun k => by simp only [laws_FnGjUnescapeWhole.j1]; rw [if_neg zq40]) (Ev.bind h1 (Ev.bind hp ?_))
   simp only
   have w1 : wrap64 ((a.length : Int) + 1) = ((a.length + 1 : Nat) : Int) := by unfold wrap64; omega
   have w2 : wrap64 (((a.length + t.length + 2 : Nat) : Int) - 1) = ((a.length + 1 + t.length : Nat) : Int) := by unfold wrap64; omega
   rw [w1, w2]
   refine Ev.congr (fun _ => if_pos (by omega)) (Ev.congr (fun _ => if_pos (by omega)) (Ev.congr (fun _ => if_pos (by omega)) ?_))
   rw [Int.toNat_natCast, Int.toNat_natCast]
   have hF : From d (a.length + 1) (t ++ 34 :: b) := by
    have hF0 := From.start d
    rw [h2] at hF0
    have := hF0.app.tail
    simpa using this
   have hx := hF.extract
   have hg : gjson_unescape.f (d.extract (a.length + 1) (a.length + 1 + t.length)) = some a0 := gunescape_eq (s := d) (by rw [ByteArray.size_extract]; omega) (by rw [hx]; exact h5)
   unfold impl_GjUnescape.f gjson_DoorUnescape.f
   rw [hg]
   simp only [Option.bind_some]
   exact J.Ev_same (Ev.now _) (by simp)
 obtain ⟨K, hK⟩ := main
 exact ⟨K, hK K (Nat.le_refl _)⟩
end Go.Proofs.YtaigbkkgmncipaaDoor.Pure
end
