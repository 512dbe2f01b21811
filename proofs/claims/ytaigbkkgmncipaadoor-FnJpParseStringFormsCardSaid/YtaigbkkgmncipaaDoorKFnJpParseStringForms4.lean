/- The words, walks and laws that the proof rests on, laid together (part 4). -/
import Derived.Test.YtaigbkkgmncipaaDoorKFnJpParseStringForms3
section
namespace Go.Proofs.YtaigbkkgmncipaaDoor.Y
open Go.RowKit Go.Proofs.YtaigbkkgmncipaaDoorW.PrintWords Go.Proofs.YtaigbkkgmncipaaDoorW.PrintLast Go.Proofs.YtaigbkkgmncipaaDoorW.PrintMore
attribute [local go_sem] max2_int min2_int max_two min_two max_three min_three max_four min_four
set_option linter.unusedVariables false
set_option linter.unusedSimpArgs false
set_option maxHeartbeats 8000000 in
set_option maxRecDepth 100000 in
theorem spec_reader_elements.step (k : Nat) (ih_29 : ∀ m, m < k → spec_reader_value.Stmt m) (ih_49 : ∀ m, m < k → spec_reader_members.Stmt m) (ih_50 : ∀ m, m < k → spec_reader_elements.Stmt m) : spec_reader_elements.Stmt k := by
 intro g s0_0 s0_1 r1 r2 r3 r4 w0 w hI hB h
 cases k with
 | zero => exact absurd h (by simp [spec_reader_elements.f])
 | succ k =>
 simp only [spec_reader_elements.f] at h
 have hu38 := Tryd.underlying38
 have HI0 := mk0 hI
 have HK := mk0 (KeepBut.refl w g none)
 have HL := mk0 hB.size
 clear hI
 have HW0 := mk0 hB.size
 have HB := mk0 hB
 clear hB
 have H : ((spec_reader_blanks.f k s0_0 (wrap64 (s0_1 + 1))).bind fun bt183 => ((spec_reader_take.f bt183.1 bt183.2 93).bind fun bt185 => (if bt185.1 = true then (some (([] : List (S38)), true, bt185.2.1, bt185.2.2)) else (spec_reader_elements.l0 k ([] : List (S38)) bt185.2.1 bt185.2.2)))) = some (r1, r2, r3, r4) := h
 clear h
 replace H := Option.bind_eq_some_iff.mp H
 obtain ⟨⟨t183, t184⟩, A20, H⟩ := H
 replace H : ((spec_reader_take.f t183 t184 93).bind fun bt185 => (if bt185.1 = true then (some (([] : List (S38)), true, bt185.2.1, bt185.2.2)) else (spec_reader_elements.l0 k ([] : List (S38)) bt185.2.1 bt185.2.2))) = some (r1, r2, r3, r4) := H
 have A2 := mk0 A20
 clear A20
 replace H := Option.bind_eq_some_iff.mp H
 obtain ⟨⟨t185, t186, t187⟩, A30, H⟩ := H
 replace H : (if t185 = true then (some (([] : List (S38)), true, t186, t187)) else (spec_reader_elements.l0 k ([] : List (S38)) t186 t187)) = some (r1, r2, r3, r4) := H
 have A3 := mk0 A30
 clear A30
 by_cases c4 : t185 = true
 ·subst c4
  have H1 : (some (([] : List (S38)), true, t186, t187)) = some (r1, r2, r3, r4) := by rw [if_pos rfl] at H; exact H
  clear H
  have H := H1
  clear H1
  simp only [Option.some.injEq, Prod.mk.injEq] at H
  obtain ⟨rfl, rfl, rfl, rfl⟩ := H
  obtain ⟨HGz5, hgz5⟩ := HI0.out
  have hcz5_0 := cellS56_0 HGz5
  have hcz5_1 := cellS56_1 HGz5
  have hfz5_0 := blk_frozen HGz5 0
  have hfz5_1 := blk_frozen HGz5 1
  clear HGz5 hgz5
  go_enter Tryd.func50, Tryd.ntmps50
  go_wp2_with (first | ((with_reducible refine gate_callee (f := 28) rfl ?_); refine goesL_ (some 15) rfl rfl Tryd.func28 zq23 rfl #[.pointer (some ⟨g, 0, none⟩)] rfl zq2 ?_; (with_reducible refine (spec_reader_blanks.calls k g s0_0 (wrap64 (s0_1 + 1)) t183 t184 w0 _ ?side1 ?side2 A2.out).mono ?_); (case side1 => exact zq0); (case side2 => exact zq3); rintro e w6 ⟨rfl, hi, hb, hk⟩; refine ⟨_, rfl, ?_⟩; have n0_ := mk0 (KeepBut.trans zq1 hk (.inl rfl)); have n1_ := mk0 (hb); have n2_ := mk0 (hi); clear HK HB HI0; have HK := n0_; have HB := n1_; have HI0 := n2_; clear n0_ n1_ n2_; (try clear hb); (try clear hb2); (try clear hk); (try clear hi)) | ((with_reducible refine gate_callee (f := 67) rfl ?_); refine goesL_ (some 17) rfl rfl Tryd.func67 zq23 rfl #[.pointer (some ⟨g, 0, none⟩), .int .u8 93] rfl zq2 ?_; (with_reducible refine (spec_reader_take.calls g t183 t184 93 true t186 t187 w0 _ ?side1 ?side2 A3.out).mono ?_); (case side1 => exact zq0); (case side2 => exact zq3); rintro e w7 ⟨rfl, hi, hb, hk⟩; refine ⟨_, rfl, ?_⟩; have n0_ := mk0 (KeepBut.trans zq1 hk (.inl rfl)); have n1_ := mk0 (hb); have n2_ := mk0 (hi); clear HK HB HI0; have HK := n0_; have HB := n1_; have HI0 := n2_; clear n0_ n1_ n2_; (try clear hb); (try clear hb2); (try clear hk); (try clear hi)))
  go_ret2
  exact ⟨_, by first | rfl | (simp [errW_none, errW_some] <;> rfl) | (simp [*, errW_none, errW_some] <;> rfl), by first | exact Kd.R_nil _ _ _ _ _ | exact Kd.N_nil _ _ _ _ _ | exact Kd.V_nil _ _ _ _ _ | exact Kd.Q_nil _ _ _ _ _ | exact Kd.S_nil _ _ _ _ _, by repeat (first | (with_reducible first | exact HI0.out | apply IsS56.alloc | apply IsS56.drewN | apply IsS56.drew | apply IsS56.set_0 | apply IsS56.set_1) | exact HI0.out), by repeat (first | (with_reducible first | exact HB.out | apply below_alloc | apply pw_below_drewN | apply below_drew1 | refine below_set ?_ (IsS56.ge HI0.out)) | exact HB.out), by repeat (first | (with_reducible first | exact HK.out | apply KeepBut.set_ | apply keep_drewN | apply keep_drew | apply keep_alloc) | exact HK.out)⟩
 replace c4 := Bool.eq_false_iff.mpr c4
 subst c4
 have H1 : (spec_reader_elements.l0 k ([] : List (S38)) t186 t187) = some (r1, r2, r3, r4) := by rw [if_neg (show ¬ (false = true) by decide)] at H; exact H
 clear H
 have H := H1
 clear H1
 have H' := mk0 H
 clear H
 obtain ⟨HGz8, hgz8⟩ := HI0.out
 have hcz8_0 := cellS56_0 HGz8
 have hcz8_1 := cellS56_1 HGz8
 have hfz8_0 := blk_frozen HGz8 0
 have hfz8_1 := blk_frozen HGz8 1
 clear HGz8 hgz8
 go_enter Tryd.func50, Tryd.ntmps50
 go_wp2_with (first | ((with_reducible refine gate_callee (f := 28) rfl ?_); refine goesL_ (some 15) rfl rfl Tryd.func28 zq23 rfl #[.pointer (some ⟨g, 0, none⟩)] rfl zq2 ?_; (with_reducible refine (spec_reader_blanks.calls k g s0_0 (wrap64 (s0_1 + 1)) t183 t184 w0 _ ?side1 ?side2 A2.out).mono ?_); (case side1 => exact zq0); (case side2 => exact zq3); rintro e w9 ⟨rfl, hi, hb, hk⟩; refine ⟨_, rfl, ?_⟩; have n0_ := mk0 (KeepBut.trans zq1 hk (.inl rfl)); have n1_ := mk0 (hb); have n2_ := mk0 (hi); clear HK HB HI0; have HK := n0_; have HB := n1_; have HI0 := n2_; clear n0_ n1_ n2_; (try clear hb); (try clear hb2); (try clear hk); (try clear hi)) | ((with_reducible refine gate_callee (f := 67) rfl ?_); refine goesL_ (some 17) rfl rfl Tryd.func67 zq23 rfl #[.pointer (some ⟨g, 0, none⟩), .int .u8 93] rfl zq2 ?_; (with_reducible refine (spec_reader_take.calls g t183 t184 93 false t186 t187 w0 _ ?side1 ?side2 A3.out).mono ?_); (case side1 => exact zq0); (case side2 => exact zq3); rintro e w10 ⟨rfl, hi, hb, hk⟩; refine ⟨_, rfl, ?_⟩; have n0_ := mk0 (KeepBut.trans zq1 hk (.inl rfl)); have n1_ := mk0 (hb); have n2_ := mk0 (hi); clear HK HB HI0; have HK := n0_; have HB := n1_; have HI0 := n2_; clear n0_ n1_ n2_; (try clear hb); (try clear hb2); (try clear hk); (try clear hi)))
 (try simp only [Act.put, List.setIfInBounds_toArray, List.set_cons_zero, List.set_cons_succ])
 go_loopg [4] k (fun kq v4 w' => ∃ (x4_1 : List (S38)) (x1000_1 : ByteArray) (x1001_1 : Int), Aside0 (spec_reader_elements.l0 kq x4_1 x1000_1 x1001_1 = some (r1, r2, r3, r4)) ∧ Aside0 (kq ≤ k) ∧ Aside0 (Kd.R k38 38 w' w.heap.size (fun _ => True) v4 x4_1) ∧ Aside0 (IsS56 w0 w' g x1000_1 x1001_1) ∧ Aside0 (KeepBut w w' g none) ∧ Aside0 (Below w0.heap.size w0 w'))
 case atStart => exact ⟨(([] : List (S38))), (t186), (t187), H', ⟨Nat.le_refl _⟩, ⟨by first | exact Kd.R_nil _ _ _ _ _ | exact Kd.N_nil _ _ _ _ _ | exact Kd.V_nil _ _ _ _ _ | exact Kd.Q_nil _ _ _ _ _ | exact Kd.S_nil _ _ _ _ _⟩, ⟨by repeat (first | (with_reducible first | exact HI0.out | apply IsS56.alloc | apply IsS56.drewN | apply IsS56.drew | apply IsS56.set_0 | apply IsS56.set_1) | exact HI0.out)⟩, ⟨by repeat (first | (with_reducible first | exact HK.out | apply KeepBut.set_ | apply keep_drewN | apply keep_drew | apply keep_alloc) | exact HK.out)⟩, ⟨by repeat (first | (with_reducible first | exact HB.out | apply below_alloc | apply pw_below_drewN | apply below_drew1 | refine below_set ?_ (IsS56.ge HI0.out)) | exact HB.out)⟩⟩
 case round =>
  clear H'
  try clear c2
  try clear p2
  try clear c4
  try clear c5
  try clear c6
  try clear p6
  try clear hcz5_0
  try clear hcz5_1
  try clear hcz8_0
  try clear hcz8_1
  try clear hfz5_0
  try clear hfz5_1
  try clear hfz8_0
  try clear hfz8_1
  obtain ⟨x4_1, x1000_1, x1001_1, HA, HK1, HO_4, HI0, HK, HB⟩ := hrel
  cases gk with
  | zero => exact absurd HA.out (by simp [spec_reader_elements.l0])
  | succ k1 =>
   have H := HA.out
   clear HA
   simp only [spec_reader_elements.l0] at H
   replace H := Option.bind_eq_some_iff.mp H
   obtain ⟨⟨t188, t189, t190, t191, t194, t197, t198, t199⟩, A110, H⟩ := H
   replace H : (if t197 = true then (if x4_1.length < 1954687338268 then ((some (x4_1 ++ [(⟨t188, t189, t190, t191, t194⟩ : S38)] : List (S38))).bind fun y201 => ((spec_reader_blanks.f k1 t198 t199).bind fun bt204 => ((spec_reader_take.f bt204.1 bt204.2 93).bind fun bt206 => (if bt206.1 = true then (some (y201, true, bt206.2.1, bt206.2.2)) else ((spec_reader_take.f bt206.2.1 bt206.2.2 44).bind fun bt209 => (if bt209.1 = true then ((spec_reader_blanks.f k1 bt209.2.1 bt209.2.2).bind fun bt212 => (spec_reader_elements.l0 k1 y201 bt212.1 bt212.2)) else (some (([] : List (S38)), false, bt209.2.1, bt209.2.2)))))))) else (none)) else (some (([] : List (S38)), false, t198, t199))) = some (r1, r2, r3, r4) := H
   have A11 := mk0 A110
   clear A110
   by_cases c12 : t197 = true
   rotate_left
   ·replace c12 := Bool.eq_false_iff.mpr c12
    subst c12
    have H1 : (some (([] : List (S38)), false, t198, t199)) = some (r1, r2, r3, r4) := by rw [if_neg (show ¬ (false = true) by decide)] at H; exact H
    clear H
    have H := H1
    clear H1
    simp only [Option.some.injEq, Prod.mk.injEq] at H
    obtain ⟨rfl, rfl, rfl, rfl⟩ := H
    go_wp2_with (first | ((with_reducible refine gate_callee (f := 29) rfl ?_); refine goesL_ (some 20) rfl rfl Tryd.func29 zq23 rfl #[.pointer (some ⟨g, 0, none⟩)] rfl zq2 ?_; (with_reducible refine (ih_29 k1 (by have := HK1.out; omega) g x1000_1 x1001_1 t188 t189 t190 t191 t194 false t198 t199 w0 _ ?side1 ?side2 A11.out).mono ?_); (case side1 => exact zq0); (case side2 => exact zq3); rintro e w56 ⟨v192, v195, rfl, ho0, ho1, hi, hb, hk⟩; refine ⟨_, rfl, ?_⟩; have n0_ := mk0 (Kd.R_mono (Kd.R_told (Kd.R_told (Kd.R_oldK (IsS56.apart (show IsS56 w0 _ g x1000_1 x1001_1 from zq0) zq29 zq45) hk) (Kd.R_base ho0)) (Kd.R_base ho1)) (fun _ h_ => h_.1)); have n1_ := mk0 (Kd.R_lower ho0 (keep_size (w := w) (g := g) (row := none) zq1)); have n2_ := mk0 (Kd.R_lower (Kd.R_new' ho1 (Kd.R_lt zq29)) (keep_size (w := w) (g := g) (row := none) zq1)); have n3_ := mk0 (KeepBut.trans zq1 hk (.inl rfl)); have n4_ := mk0 (hb); have n5_ := mk0 (hi); clear HO_4 HK HB HI0; have HO_4 := n0_; have HO193 := n1_; have HO196 := n2_; have HK := n3_; have HB := n4_; have HI0 := n5_; clear n0_ n1_ n2_ n3_ n4_ n5_; (try clear hb); (try clear hb2); (try clear hk); (try clear hi); (try clear ho0); (try clear ho1)) | ((with_reducible refine gate_dst (N := 5) rfl ?_); refine box_event ?hg (N := 5) ?hd (cs := #[.int .i64 0, .int .i64 0, .int .i64 0, .slice none 0 0, .slice none 0 0]) (t := 38) ?hr ?_; (case hd => rfl); (case hg => rfl); (case hr => exact zq30); intro gb200 hg w57 hbox hb; have n0_ := mk0 (Kd.R_below (Kd.R_elderB zq29 gb200 (Nat.le_of_eq hg.symm)) hb); have n1_ := mk0 (Kd.R_below zq59 hb); have n2_ := mk0 (Kd.R_below (Kd.R_elderB zq60 gb200 (Nat.le_of_eq hg.symm)) hb); have n3_ := mk0 (IsS56.below zq0 hb); have n4_ := mk0 (KeepBut.trans zq1 (KeepBut.of_below hb g none) (.inl rfl)); have n5_ := mk0 (below_step zq3 hb); have n6_ := mk0 (hbox); have n7_ := mk0 ((zq27 : w.heap.size ≤ gb200)); have n8_ := mk0 ((Nat.le_trans HW0.out (zq27 : w.heap.size ≤ gb200) : w0.heap.size ≤ gb200)); have n9_ := mk0 ((by rw [hg]; exact Nat.ne_of_lt (IsS56.lt (show IsS56 w0 _ g t198 t199 from zq0)) : g ≠ gb200)); have n10_ := mk0 ((by rw [hg]; exact Nat.ne_of_gt (IsS56.lt (show IsS56 w0 _ g t198 t199 from zq0)) : gb200 ≠ g)); clear HO_4 HO193 HO196 HI0 HK HB; have HO_4 := n0_; have HO193 := n1_; have HO196 := n2_; have HI0 := n3_; have HK := n4_; have HB := n5_; have BK200 := n6_; have GW200 := n7_; have GE200 := n8_; have NB0_200 := n9_; have NB200_0 := n10_; clear n0_ n1_ n2_ n3_ n4_ n5_ n6_ n7_ n8_ n9_ n10_; clear hb hbox hg; have hnb58 := NB200_0.out; have hnc58 := NB0_200.out; have hcz59_0 : w57.cell? ⟨gb200, 0, none⟩ = some (.int .i64 0) := (blk_cell BK200.out 0).trans rfl; have hcz59_1 : w57.cell? ⟨gb200, 1, none⟩ = some (.int .i64 0) := (blk_cell BK200.out 1).trans rfl; have hcz59_2 : w57.cell? ⟨gb200, 2, none⟩ = some (.int .i64 0) := (blk_cell BK200.out 2).trans rfl; have hcz59_3 : w57.cell? ⟨gb200, 3, none⟩ = some (.slice none 0 0) := (blk_cell BK200.out 3).trans rfl; have hcz59_4 : w57.cell? ⟨gb200, 4, none⟩ = some (.slice none 0 0) := (blk_cell BK200.out 4).trans rfl; have hfz59_0 := blk_frozen BK200.out 0; have hfz59_1 := blk_frozen BK200.out 1; have hfz59_2 := blk_frozen BK200.out 2; have hfz59_3 := blk_frozen BK200.out 3; have hfz59_4 := blk_frozen BK200.out 4; obtain ⟨Ao60, co60, eo60⟩ := Kd.R_slice HO193.out; subst eo60; obtain ⟨Ao61, co61, eo61⟩ := Kd.R_slice HO196.out; subst eo61))
    go_ret2
    exact ⟨_, by first | rfl | (simp [errW_none, errW_some] <;> rfl) | (simp [*, errW_none, errW_some] <;> rfl), by first | exact Kd.R_nil _ _ _ _ _ | exact Kd.N_nil _ _ _ _ _ | exact Kd.V_nil _ _ _ _ _ | exact Kd.Q_nil _ _ _ _ _ | exact Kd.S_nil _ _ _ _ _, by repeat (first | (with_reducible first | exact HI0.out | apply IsS56.alloc | apply IsS56.drewN | apply IsS56.drew | apply IsS56.set_0 | apply IsS56.set_1 | refine IsS56.far ?_ NB0_200.out _) | exact HI0.out), by repeat (first | (with_reducible first | exact HB.out | apply below_alloc | apply pw_below_drewN | apply below_drew1 | refine below_set ?_ (IsS56.ge HI0.out) | refine below_set ?_ GE200.out) | exact HB.out), by repeat (first | (with_reducible first | exact HK.out | apply KeepBut.set_ | apply keep_drewN | apply keep_drew | apply keep_alloc | refine keep_far ?_ GW200.out _) | exact HK.out)⟩
   subst c12
   have H1 : (if x4_1.length < 1954687338268 then ((some (x4_1 ++ [(⟨t188, t189, t190, t191, t194⟩ : S38)] : List (S38))).bind fun y201 => ((spec_reader_blanks.f k1 t198 t199).bind fun bt204 => ((spec_reader_take.f bt204.1 bt204.2 93).bind fun bt206 => (if bt206.1 = true then (some (y201, true, bt206.2.1, bt206.2.2)) else ((spec_reader_take.f bt206.2.1 bt206.2.2 44).bind fun bt209 => (if bt209.1 = true then ((spec_reader_blanks.f k1 bt209.2.1 bt209.2.2).bind fun bt212 => (spec_reader_elements.l0 k1 y201 bt212.1 bt212.2)) else (some (([] : List (S38)), false, bt209.2.1, bt209.2.2)))))))) else (none)) = some (r1, r2, r3, r4) := by rw [if_pos rfl] at H; exact H
   clear H
   have H := H1
   clear H1
   by_cases c13 : x4_1.length < 1954687338268
   rotate_left
   ·rw [if_neg c13] at H
    exact absurd H (by simp)
   rw [if_pos c13] at H
   have LMc13 := mk0 c13
   clear c13
   obtain ⟨y201, hy201⟩ : ∃ y_ : List (S38), y_ = (x4_1 ++ [(⟨t188, t189, t190, t191, t194⟩ : S38)]) := ⟨_, rfl⟩
   replace H : ((spec_reader_blanks.f k1 t198 t199).bind fun bt204 => ((spec_reader_take.f bt204.1 bt204.2 93).bind fun bt206 => (if bt206.1 = true then (some (y201, true, bt206.2.1, bt206.2.2)) else ((spec_reader_take.f bt206.2.1 bt206.2.2 44).bind fun bt209 => (if bt209.1 = true then ((spec_reader_blanks.f k1 bt209.2.1 bt209.2.2).bind fun bt212 => (spec_reader_elements.l0 k1 y201 bt212.1 bt212.2)) else (some (([] : List (S38)), false, bt209.2.1, bt209.2.2))))))) = some (r1, r2, r3, r4) := by first | (rw [hy201]; with_reducible exact H) | (have H2_ := (Option.bind_some _ _).symm.trans H; rw [hy201]; with_reducible exact H2_) | (have H2_ := (Option.bind_some _ _).symm.trans H; with_reducible exact H2_) | with_reducible exact H | (rw [hy201]; exact H) | exact H
   have Ny201 := mk0 hy201
   clear hy201
   replace H := Option.bind_eq_some_iff.mp H
   obtain ⟨⟨t204, t205⟩, A140, H⟩ := H
   replace H : ((spec_reader_take.f t204 t205 93).bind fun bt206 => (if bt206.1 = true then (some (y201, true, bt206.2.1, bt206.2.2)) else ((spec_reader_take.f bt206.2.1 bt206.2.2 44).bind fun bt209 => (if bt209.1 = true then ((spec_reader_blanks.f k1 bt209.2.1 bt209.2.2).bind fun bt212 => (spec_reader_elements.l0 k1 y201 bt212.1 bt212.2)) else (some (([] : List (S38)), false, bt209.2.1, bt209.2.2)))))) = some (r1, r2, r3, r4) := H
   have A14 := mk0 A140
   clear A140
   replace H := Option.bind_eq_some_iff.mp H
   obtain ⟨⟨t206, t207, t208⟩, A150, H⟩ := H
   replace H : (if t206 = true then (some (y201, true, t207, t208)) else ((spec_reader_take.f t207 t208 44).bind fun bt209 => (if bt209.1 = true then ((spec_reader_blanks.f k1 bt209.2.1 bt209.2.2).bind fun bt212 => (spec_reader_elements.l0 k1 y201 bt212.1 bt212.2)) else (some (([] : List (S38)), false, bt209.2.1, bt209.2.2))))) = some (r1, r2, r3, r4) := H
   have A15 := mk0 A150
   clear A150
   by_cases c16 : t206 = true
   ·subst c16
    have H1 : (some (y201, true, t207, t208)) = some (r1, r2, r3, r4) := by rw [if_pos rfl] at H; exact H
    clear H
    have H := H1
    clear H1
    simp only [Option.some.injEq, Prod.mk.injEq] at H
    obtain ⟨rfl, rfl, rfl, rfl⟩ := H
    go_wp2_with (first | ((with_reducible refine gate_callee (f := 29) rfl ?_); refine goesL_ (some 20) rfl rfl Tryd.func29 zq23 rfl #[.pointer (some ⟨g, 0, none⟩)] rfl zq2 ?_; (with_reducible refine (ih_29 k1 (by have := HK1.out; omega) g x1000_1 x1001_1 t188 t189 t190 t191 t194 true t198 t199 w0 _ ?side1 ?side2 A11.out).mono ?_); (case side1 => exact zq0); (case side2 => exact zq3); rintro e w17 ⟨v192, v195, rfl, ho0, ho1, hi, hb, hk⟩; refine ⟨_, rfl, ?_⟩; have n0_ := mk0 (Kd.R_mono (Kd.R_told (Kd.R_told (Kd.R_oldK (IsS56.apart (show IsS56 w0 _ g x1000_1 x1001_1 from zq0) zq29 zq45) hk) (Kd.R_base ho0)) (Kd.R_base ho1)) (fun _ h_ => h_.1)); have n1_ := mk0 (Kd.R_lower ho0 (keep_size (w := w) (g := g) (row := none) zq1)); have n2_ := mk0 (Kd.R_lower (Kd.R_new' ho1 (Kd.R_lt zq29)) (keep_size (w := w) (g := g) (row := none) zq1)); have n3_ := mk0 (KeepBut.trans zq1 hk (.inl rfl)); have n4_ := mk0 (hb); have n5_ := mk0 (hi); clear HO_4 HK HB HI0; have HO_4 := n0_; have HO193 := n1_; have HO196 := n2_; have HK := n3_; have HB := n4_; have HI0 := n5_; clear n0_ n1_ n2_ n3_ n4_ n5_; (try clear hb); (try clear hb2); (try clear hk); (try clear hi); (try clear ho0); (try clear ho1)) | ((with_reducible refine gate_dst (N := 5) rfl ?_); refine box_event ?hg (N := 5) ?hd (cs := #[.int .i64 0, .int .i64 0, .int .i64 0, .slice none 0 0, .slice none 0 0]) (t := 38) ?hr ?_; (case hd => rfl); (case hg => rfl); (case hr => exact zq30); intro gb200 hg w18 hbox hb; have n0_ := mk0 (Kd.R_below (Kd.R_elderB zq29 gb200 (Nat.le_of_eq hg.symm)) hb); have n1_ := mk0 (Kd.R_below zq59 hb); have n2_ := mk0 (Kd.R_below (Kd.R_elderB zq60 gb200 (Nat.le_of_eq hg.symm)) hb); have n3_ := mk0 (IsS56.below zq0 hb); have n4_ := mk0 (KeepBut.trans zq1 (KeepBut.of_below hb g none) (.inl rfl)); have n5_ := mk0 (below_step zq3 hb); have n6_ := mk0 (hbox); have n7_ := mk0 ((zq27 : w.heap.size ≤ gb200)); have n8_ := mk0 ((Nat.le_trans HW0.out (zq27 : w.heap.size ≤ gb200) : w0.heap.size ≤ gb200)); have n9_ := mk0 ((by rw [hg]; exact Nat.ne_of_lt (IsS56.lt (show IsS56 w0 _ g t198 t199 from zq0)) : g ≠ gb200)); have n10_ := mk0 ((by rw [hg]; exact Nat.ne_of_gt (IsS56.lt (show IsS56 w0 _ g t198 t199 from zq0)) : gb200 ≠ g)); clear HO_4 HO193 HO196 HI0 HK HB; have HO_4 := n0_; have HO193 := n1_; have HO196 := n2_; have HI0 := n3_; have HK := n4_; have HB := n5_; have BK200 := n6_; have GW200 := n7_; have GE200 := n8_; have NB0_200 := n9_; have NB200_0 := n10_; clear n0_ n1_ n2_ n3_ n4_ n5_ n6_ n7_ n8_ n9_ n10_; clear hb hbox hg; have hnb19 := NB200_0.out; have hnc19 := NB0_200.out; have hcz20_0 : w18.cell? ⟨gb200, 0, none⟩ = some (.int .i64 0) := (blk_cell BK200.out 0).trans rfl; have hcz20_1 : w18.cell? ⟨gb200, 1, none⟩ = some (.int .i64 0) := (blk_cell BK200.out 1).trans rfl; have hcz20_2 : w18.cell? ⟨gb200, 2, none⟩ = some (.int .i64 0) := (blk_cell BK200.out 2).trans rfl; have hcz20_3 : w18.cell? ⟨gb200, 3, none⟩ = some (.slice none 0 0) := (blk_cell BK200.out 3).trans rfl; have hcz20_4 : w18.cell? ⟨gb200, 4, none⟩ = some (.slice none 0 0) := (blk_cell BK200.out 4).trans rfl; have hfz20_0 := blk_frozen BK200.out 0; have hfz20_1 := blk_frozen BK200.out 1; have hfz20_2 := blk_frozen BK200.out 2; have hfz20_3 := blk_frozen BK200.out 3; have hfz20_4 := blk_frozen BK200.out 4; obtain ⟨Ao21, co21, eo21⟩ := Kd.R_slice HO193.out; subst eo21; obtain ⟨Ao22, co22, eo22⟩ := Kd.R_slice HO196.out; subst eo22) | ((with_reducible refine gate_store (t := 38) (p := 5) rfl ?_); refine store_event (t := 38) (p := 5) (v := ?vo_w23) (w1 := (((((w18.setCell ⟨gb200, 0, none⟩ (.int .i64 t188)).setCell ⟨gb200, 1, none⟩ (.int .i64 t189)).setCell ⟨gb200, 2, none⟩ (.int .i64 t190)).setCell ⟨gb200, 3, none⟩ (.slice Ao21 t191.length co21)).setCell ⟨gb200, 4, none⟩ (.slice Ao22 t194.length co22))) ?hg ?ho ?hn ?hr ?_; (case ho => rfl); (case hg => rfl); (case hn => rfl); (case hr => exact zq30); intro w23 hw; have n0_ : Aside0 (Kd.R k38 38 w23 w.heap.size (fun k_ => some k_ ≠ (.slice Ao21 t191.length co21 : Value).ownBlock ∧ some k_ ≠ (.slice Ao22 t194.length co22 : Value).ownBlock ∧ k_ ≠ gb200) u4 x4_1) := ⟨(by rw [hw]; exact (by (with_reducible repeat (first | apply Kd.R_alloc | apply Kd.R_drewN | apply Kd.R_drew)); exact Kd.R_mono (Kd.R_far (p := ⟨gb200, 4, none⟩) (Kd.R_far (p := ⟨gb200, 3, none⟩) (Kd.R_far (p := ⟨gb200, 2, none⟩) (Kd.R_far (p := ⟨gb200, 1, none⟩) (Kd.R_far (p := ⟨gb200, 0, none⟩) (Kd.R_mono HO_4.out (fun k_ hk => (⟨hk, hk.2⟩ : _ ∧ k_ ≠ gb200))) (fun _ hk => hk.2) (.int .i64 t188)) (fun _ hk => hk.2) (.int .i64 t189)) (fun _ hk => hk.2) (.int .i64 t190)) (fun _ hk => hk.2) (.slice Ao21 t191.length co21)) (fun _ hk => hk.2) (.slice Ao22 t194.length co22)) (fun _ hk => ⟨hk.1.1.1.2, ⟨hk.1.1.2, hk.1.2⟩⟩)))⟩; have n1_ : Aside0 (Kd.R k104 104 w23 w.heap.size (fun _ => True) (.slice Ao21 t191.length co21) t191) := ⟨(by rw [hw]; exact (by (with_reducible repeat (first | apply Kd.R_alloc | apply Kd.R_drewN | apply Kd.R_drew)); exact Kd.R_mono (Kd.R_far (p := ⟨gb200, 4, none⟩) (Kd.R_far (p := ⟨gb200, 3, none⟩) (Kd.R_far (p := ⟨gb200, 2, none⟩) (Kd.R_far (p := ⟨gb200, 1, none⟩) (Kd.R_far (p := ⟨gb200, 0, none⟩) (Kd.R_types HO193.out BK200.out zq45) (fun _ hk => hk.2) (.int .i64 t188)) (fun _ hk => hk.2) (.int .i64 t189)) (fun _ hk => hk.2) (.int .i64 t190)) (fun _ hk => hk.2) (.slice Ao21 t191.length co21)) (fun _ hk => hk.2) (.slice Ao22 t194.length co22)) (fun _ hk => trivial)))⟩; have n2_ : Aside0 (Kd.R k38 38 w23 w.heap.size (fun k_ => some k_ ≠ (u4 : Value).ownBlock ∧ some k_ ≠ (.slice Ao21 t191.length co21 : Value).ownBlock ∧ k_ ≠ gb200) (.slice Ao22 t194.length co22) t194) := ⟨(by rw [hw]; exact (by (with_reducible repeat (first | apply Kd.R_alloc | apply Kd.R_drewN | apply Kd.R_drew)); exact Kd.R_mono (Kd.R_far (p := ⟨gb200, 4, none⟩) (Kd.R_far (p := ⟨gb200, 3, none⟩) (Kd.R_far (p := ⟨gb200, 2, none⟩) (Kd.R_far (p := ⟨gb200, 1, none⟩) (Kd.R_far (p := ⟨gb200, 0, none⟩) (Kd.R_mono HO196.out (fun k_ hk => (⟨hk, hk.2⟩ : _ ∧ k_ ≠ gb200))) (fun _ hk => hk.2) (.int .i64 t188)) (fun _ hk => hk.2) (.int .i64 t189)) (fun _ hk => hk.2) (.int .i64 t190)) (fun _ hk => hk.2) (.slice Ao21 t191.length co21)) (fun _ hk => hk.2) (.slice Ao22 t194.length co22)) (fun _ hk => ⟨hk.1.1.2, ⟨hk.1.1.1, hk.1.2⟩⟩)))⟩; have n3_ : Aside0 (w23.heap[gb200]? = some (.cells #[.int .i64 t188, .int .i64 t189, .int .i64 t190, .slice Ao21 t191.length co21, .slice Ao22 t194.length co22] 38 (0, 0))) := ⟨(by rw [hw]; exact (by (with_reducible repeat (first | refine blk_drewN ?_ _ | refine blk_drew ?_ | refine blk_alloc ?_ _)); refine blk_put (cs := #[.int .i64 t188, .int .i64 t189, .int .i64 t190, .slice Ao21 t191.length co21, .slice none 0 0]) ?_ 4 _ rfl; (with_reducible repeat (first | refine blk_drewN ?_ _ | refine blk_drew ?_ | refine blk_alloc ?_ _)); refine blk_put (cs := #[.int .i64 t188, .int .i64 t189, .int .i64 t190, .slice none 0 0, .slice none 0 0]) ?_ 3 _ rfl; (with_reducible repeat (first | refine blk_drewN ?_ _ | refine blk_drew ?_ | refine blk_alloc ?_ _)); refine blk_put (cs := #[.int .i64 t188, .int .i64 t189, .int .i64 0, .slice none 0 0, .slice none 0 0]) ?_ 2 _ rfl; (with_reducible repeat (first | refine blk_drewN ?_ _ | refine blk_drew ?_ | refine blk_alloc ?_ _)); refine blk_put (cs := #[.int .i64 t188, .int .i64 0, .int .i64 0, .slice none 0 0, .slice none 0 0]) ?_ 1 _ rfl; (with_reducible repeat (first | refine blk_drewN ?_ _ | refine blk_drew ?_ | refine blk_alloc ?_ _)); refine blk_put (cs := #[.int .i64 0, .int .i64 0, .int .i64 0, .slice none 0 0, .slice none 0 0]) ?_ 0 _ rfl; (with_reducible repeat (first | refine blk_drewN ?_ _ | refine blk_drew ?_ | refine blk_alloc ?_ _)); exact BK200.out))⟩; have n4_ : Aside0 (IsS56 w0 w23 g t198 t199) := ⟨(by rw [hw]; exact zq5)⟩; have n5_ : Aside0 (KeepBut w w23 g none) := ⟨(by rw [hw]; exact zq16)⟩; have n6_ : Aside0 (Below w0.heap.size w0 w23) := ⟨(by rw [hw]; exact zq18)⟩; clear hw HO_4 HO193 HO196 BK200 HI0 HK HB; have HO_4 := n0_; have HO193 := n1_; have HO196 := n2_; have BK200 := n3_; have HI0 := n4_; have HK := n5_; have HB := n6_; clear n0_ n1_ n2_ n3_ n4_ n5_ n6_; have hcz24_0 : w23.cell? ⟨gb200, 0, none⟩ = some (.int .i64 t188) := (blk_cell BK200.out 0).trans rfl; have hcz24_1 : w23.cell? ⟨gb200, 1, none⟩ = some (.int .i64 t189) := (blk_cell BK200.out 1).trans rfl; have hcz24_2 : w23.cell? ⟨gb200, 2, none⟩ = some (.int .i64 t190) := (blk_cell BK200.out 2).trans rfl; have hcz24_3 : w23.cell? ⟨gb200, 3, none⟩ = some (.slice Ao21 t191.length co21) := (blk_cell BK200.out 3).trans rfl; have hcz24_4 : w23.cell? ⟨gb200, 4, none⟩ = some (.slice Ao22 t194.length co22) := (blk_cell BK200.out 4).trans rfl; have hfz24_0 := blk_frozen BK200.out 0; have hfz24_1 := blk_frozen BK200.out 1; have hfz24_2 := blk_frozen BK200.out 2; have hfz24_3 := blk_frozen BK200.out 3; have hfz24_4 := blk_frozen BK200.out 4) | ((with_reducible refine gate_builtin (b := .append) (xs := #[.tmp 25, .tmp 27]) rfl ?_); at_builtin; refine Kd.R_append k38 w.heap.size rfl (.tmp 25) (.tmp 27) 36 38 (.agg #[(.int .i64 0), (.int .i64 0), (.int .i64 0), (.slice none 0 0), (.slice none 0 0)]) 72 rfl Tryd.underlying36 info38 rfl zq45 (by omega) u4 x4_1 (⟨t188, t189, t190, t191, t194⟩ : S38) [.int .i64 t188, .int .i64 t189, .int .i64 t190, .slice Ao21 t191.length co21, .slice Ao22 t194.length co22] (fun k_ => k_ ≠ gb200) (fun k_ => ((fun k_ => k_ ≠ gb200)) k_ ∧ some k_ ≠ (u4 : Value).ownBlock) rfl rfl ?aP (fun _ hk => hk) ?aF ?aO (Below.refl _ _) ?aS ?aL ?_; (case aP => exact k38_mkM _ _ _ (⟨t188, t189, t190, t191, t194⟩ : S38) (Kd.R_mono (Kd.R_types (Kd.R_apart' (HO193.out) (Kd.R_typed HO_4.out) zq45) BK200.out zq45) (fun k_ hk => ⟨hk.2, hk.1.2⟩)) (Kd.R_mono (HO196.out) (fun k_ hk => ⟨hk.2.2, hk.1⟩))); (case aF => exact (fun k_ hk => Kd.freshB (g := gb200) (o := .cells #[.int .i64 t188, .int .i64 t189, .int .i64 t190, .slice Ao21 t191.length co21, .slice Ao22 t194.length co22] 38 (0, 0)) zq26 k_ hk)); (case aO => exact zq62); (case aS => exact (keep_size (w := w) (g := g) (row := none) zq16)); (case aL => have := LMc13.out; omega); intro v202 w25 ho hb hg hat; rw [← Ny201.out] at ho; have n0_ := mk0 (IsS56.grown zq5 hg (IsS56.own_ne HI0.out HO_4.out zq45)); have n1_ := mk0 (blk_grown (g := gb200) (o := .cells #[.int .i64 t188, .int .i64 t189, .int .i64 t190, .slice Ao21 t191.length co21, .slice Ao22 t194.length co22] 38 (0, 0)) zq26 hg (Kd.R_away HO_4.out (fun _ hk => hk.2.2))); have n2_ := mk0 (below_weaken zq18 HL.out hb); have n3_ := mk0 (KeepBut.trans zq16 (KeepBut.of_grown hg g) (Kd.R_base2 HO_4.out)); have n4_ := mk0 (ho); clear HI0 BK200 HB HK HO_4 HO193 HO196; have HI0 := n0_; have BK200 := n1_; have HB := n2_; have HK := n3_; have HO203 := n4_; clear n0_ n1_ n2_ n3_ n4_; clear ho hb hg hat) | ((with_reducible refine gate_callee (f := 28) rfl ?_); refine goesL_ (some 30) rfl rfl Tryd.func28 zq23 rfl #[.pointer (some ⟨g, 0, none⟩)] rfl zq2 ?_; (with_reducible refine (spec_reader_blanks.calls k1 g t198 t199 t204 t205 w0 _ ?side1 ?side2 A14.out).mono ?_); (case side1 => exact zq5); (case side2 => exact zq18); rintro e w26 ⟨rfl, hi, hb, hk⟩; refine ⟨_, rfl, ?_⟩; have n0_ := mk0 (KeepBut.blk hk (g' := gb200) (o := .cells #[.int .i64 t188, .int .i64 t189, .int .i64 t190, .slice Ao21 t191.length co21, .slice Ao22 t194.length co22] 38 (0, 0)) zq26 NB200_0.out (by simp)); have n1_ := mk0 (Kd.R_mono (Kd.R_keep (IsS56.apart (show IsS56 w0 _ g t198 t199 from zq5) zq34 zq45) hk (fun _ h => h.2)) (fun _ h => h.1)); have n2_ := mk0 (KeepBut.trans zq16 hk (.inl rfl)); have n3_ := mk0 (hb); have n4_ := mk0 (hi); clear BK200 HO203 HK HB HI0; have BK200 := n0_; have HO203 := n1_; have HK := n2_; have HB := n3_; have HI0 := n4_; clear n0_ n1_ n2_ n3_ n4_; (try clear hb); (try clear hb2); (try clear hk); (try clear hi)) | ((with_reducible refine gate_callee (f := 67) rfl ?_); refine goesL_ (some 32) rfl rfl Tryd.func67 zq23 rfl #[.pointer (some ⟨g, 0, none⟩), .int .u8 93] rfl zq2 ?_; (with_reducible refine (spec_reader_take.calls g t204 t205 93 true t207 t208 w0 _ ?side1 ?side2 A15.out).mono ?_); (case side1 => exact zq5); (case side2 => exact zq18); rintro e w27 ⟨rfl, hi, hb, hk⟩; refine ⟨_, rfl, ?_⟩; have n0_ := mk0 (KeepBut.blk hk (g' := gb200) (o := .cells #[.int .i64 t188, .int .i64 t189, .int .i64 t190, .slice Ao21 t191.length co21, .slice Ao22 t194.length co22] 38 (0, 0)) zq26 NB200_0.out (by simp)); have n1_ := mk0 (Kd.R_mono (Kd.R_keep (IsS56.apart (show IsS56 w0 _ g t204 t205 from zq5) zq34 zq45) hk (fun _ h => h.2)) (fun _ h => h.1)); have n2_ := mk0 (KeepBut.trans zq16 hk (.inl rfl)); have n3_ := mk0 (hb); have n4_ := mk0 (hi); clear BK200 HO203 HK HB HI0; have BK200 := n0_; have HO203 := n1_; have HK := n2_; have HB := n3_; have HI0 := n4_; clear n0_ n1_ n2_ n3_ n4_; (try clear hb); (try clear hb2); (try clear hk); (try clear hi)))
    go_ret2
    exact ⟨_, by first | rfl | (simp [errW_none, errW_some] <;> rfl) | (simp [*, errW_none, errW_some] <;> rfl), by (with_reducible repeat (first | apply Kd.R_alloc | apply Kd.R_drewN | apply Kd.R_drew)); exact Kd.R_mono HO203.out (fun _ hk => trivial), by repeat (first | (with_reducible first | exact HI0.out | apply IsS56.alloc | apply IsS56.drewN | apply IsS56.drew | apply IsS56.set_0 | apply IsS56.set_1 | refine IsS56.far ?_ NB0_200.out _) | exact HI0.out), by repeat (first | (with_reducible first | exact HB.out | apply below_alloc | apply pw_below_drewN | apply below_drew1 | refine below_set ?_ (IsS56.ge HI0.out) | refine below_set ?_ GE200.out) | exact HB.out), by repeat (first | (with_reducible first | exact HK.out | apply KeepBut.set_ | apply keep_drewN | apply keep_drew | apply keep_alloc | refine keep_far ?_ GW200.out _) | exact HK.out)⟩
   replace c16 := Bool.eq_false_iff.mpr c16
   subst c16
   have H1 : ((spec_reader_take.f t207 t208 44).bind fun bt209 => (if bt209.1 = true then ((spec_reader_blanks.f k1 bt209.2.1 bt209.2.2).bind fun bt212 => (spec_reader_elements.l0 k1 y201 bt212.1 bt212.2)) else (some (([] : List (S38)), false, bt209.2.1, bt209.2.2)))) = some (r1, r2, r3, r4) := by rw [if_neg (show ¬ (false = true) by decide)] at H; exact H
   clear H
   have H := H1
   clear H1
   replace H := Option.bind_eq_some_iff.mp H
   obtain ⟨⟨t209, t210, t211⟩, A280, H⟩ := H
   replace H : (if t209 = true then ((spec_reader_blanks.f k1 t210 t211).bind fun bt212 => (spec_reader_elements.l0 k1 y201 bt212.1 bt212.2)) else (some (([] : List (S38)), false, t210, t211))) = some (r1, r2, r3, r4) := H
   have A28 := mk0 A280
   clear A280
   by_cases c29 : t209 = true
   rotate_left
   ·replace c29 := Bool.eq_false_iff.mpr c29
    subst c29
    have H1 : (some (([] : List (S38)), false, t210, t211)) = some (r1, r2, r3, r4) := by rw [if_neg (show ¬ (false = true) by decide)] at H; exact H
    clear H
    have H := H1
    clear H1
    simp only [Option.some.injEq, Prod.mk.injEq] at H
    obtain ⟨rfl, rfl, rfl, rfl⟩ := H
    go_wp2_with (first | ((with_reducible refine gate_callee (f := 29) rfl ?_); refine goesL_ (some 20) rfl rfl Tryd.func29 zq23 rfl #[.pointer (some ⟨g, 0, none⟩)] rfl zq2 ?_; (with_reducible refine (ih_29 k1 (by have := HK1.out; omega) g x1000_1 x1001_1 t188 t189 t190 t191 t194 true t198 t199 w0 _ ?side1 ?side2 A11.out).mono ?_); (case side1 => exact zq0); (case side2 => exact zq3); rintro e w44 ⟨v192, v195, rfl, ho0, ho1, hi, hb, hk⟩; refine ⟨_, rfl, ?_⟩; have n0_ := mk0 (Kd.R_mono (Kd.R_told (Kd.R_told (Kd.R_oldK (IsS56.apart (show IsS56 w0 _ g x1000_1 x1001_1 from zq0) zq29 zq45) hk) (Kd.R_base ho0)) (Kd.R_base ho1)) (fun _ h_ => h_.1)); have n1_ := mk0 (Kd.R_lower ho0 (keep_size (w := w) (g := g) (row := none) zq1)); have n2_ := mk0 (Kd.R_lower (Kd.R_new' ho1 (Kd.R_lt zq29)) (keep_size (w := w) (g := g) (row := none) zq1)); have n3_ := mk0 (KeepBut.trans zq1 hk (.inl rfl)); have n4_ := mk0 (hb); have n5_ := mk0 (hi); clear HO_4 HK HB HI0; have HO_4 := n0_; have HO193 := n1_; have HO196 := n2_; have HK := n3_; have HB := n4_; have HI0 := n5_; clear n0_ n1_ n2_ n3_ n4_ n5_; (try clear hb); (try clear hb2); (try clear hk); (try clear hi); (try clear ho0); (try clear ho1)) | ((with_reducible refine gate_dst (N := 5) rfl ?_); refine box_event ?hg (N := 5) ?hd (cs := #[.int .i64 0, .int .i64 0, .int .i64 0, .slice none 0 0, .slice none 0 0]) (t := 38) ?hr ?_; (case hd => rfl); (case hg => rfl); (case hr => exact zq30); intro gb200 hg w45 hbox hb; have n0_ := mk0 (Kd.R_below (Kd.R_elderB zq29 gb200 (Nat.le_of_eq hg.symm)) hb); have n1_ := mk0 (Kd.R_below zq59 hb); have n2_ := mk0 (Kd.R_below (Kd.R_elderB zq60 gb200 (Nat.le_of_eq hg.symm)) hb); have n3_ := mk0 (IsS56.below zq0 hb); have n4_ := mk0 (KeepBut.trans zq1 (KeepBut.of_below hb g none) (.inl rfl)); have n5_ := mk0 (below_step zq3 hb); have n6_ := mk0 (hbox); have n7_ := mk0 ((zq27 : w.heap.size ≤ gb200)); have n8_ := mk0 ((Nat.le_trans HW0.out (zq27 : w.heap.size ≤ gb200) : w0.heap.size ≤ gb200)); have n9_ := mk0 ((by rw [hg]; exact Nat.ne_of_lt (IsS56.lt (show IsS56 w0 _ g t198 t199 from zq0)) : g ≠ gb200)); have n10_ := mk0 ((by rw [hg]; exact Nat.ne_of_gt (IsS56.lt (show IsS56 w0 _ g t198 t199 from zq0)) : gb200 ≠ g)); clear HO_4 HO193 HO196 HI0 HK HB; have HO_4 := n0_; have HO193 := n1_; have HO196 := n2_; have HI0 := n3_; have HK := n4_; have HB := n5_; have BK200 := n6_; have GW200 := n7_; have GE200 := n8_; have NB0_200 := n9_; have NB200_0 := n10_; clear n0_ n1_ n2_ n3_ n4_ n5_ n6_ n7_ n8_ n9_ n10_; clear hb hbox hg; have hnb46 := NB200_0.out; have hnc46 := NB0_200.out; have hcz47_0 : w45.cell? ⟨gb200, 0, none⟩ = some (.int .i64 0) := (blk_cell BK200.out 0).trans rfl; have hcz47_1 : w45.cell? ⟨gb200, 1, none⟩ = some (.int .i64 0) := (blk_cell BK200.out 1).trans rfl; have hcz47_2 : w45.cell? ⟨gb200, 2, none⟩ = some (.int .i64 0) := (blk_cell BK200.out 2).trans rfl; have hcz47_3 : w45.cell? ⟨gb200, 3, none⟩ = some (.slice none 0 0) := (blk_cell BK200.out 3).trans rfl; have hcz47_4 : w45.cell? ⟨gb200, 4, none⟩ = some (.slice none 0 0) := (blk_cell BK200.out 4).trans rfl; have hfz47_0 := blk_frozen BK200.out 0; have hfz47_1 := blk_frozen BK200.out 1; have hfz47_2 := blk_frozen BK200.out 2; have hfz47_3 := blk_frozen BK200.out 3; have hfz47_4 := blk_frozen BK200.out 4; obtain ⟨Ao48, co48, eo48⟩ := Kd.R_slice HO193.out; subst eo48; obtain ⟨Ao49, co49, eo49⟩ := Kd.R_slice HO196.out; subst eo49) | ((with_reducible refine gate_store (t := 38) (p := 5) rfl ?_); refine store_event (t := 38) (p := 5) (v := ?vo_w50) (w1 := (((((w45.setCell ⟨gb200, 0, none⟩ (.int .i64 t188)).setCell ⟨gb200, 1, none⟩ (.int .i64 t189)).setCell ⟨gb200, 2, none⟩ (.int .i64 t190)).setCell ⟨gb200, 3, none⟩ (.slice Ao48 t191.length co48)).setCell ⟨gb200, 4, none⟩ (.slice Ao49 t194.length co49))) ?hg ?ho ?hn ?hr ?_; (case ho => rfl); (case hg => rfl); (case hn => rfl); (case hr => exact zq30); intro w50 hw; have n0_ : Aside0 (Kd.R k38 38 w50 w.heap.size (fun k_ => some k_ ≠ (.slice Ao48 t191.length co48 : Value).ownBlock ∧ some k_ ≠ (.slice Ao49 t194.length co49 : Value).ownBlock ∧ k_ ≠ gb200) u4 x4_1) := ⟨(by rw [hw]; exact (by (with_reducible repeat (first | apply Kd.R_alloc | apply Kd.R_drewN | apply Kd.R_drew)); exact Kd.R_mono (Kd.R_far (p := ⟨gb200, 4, none⟩) (Kd.R_far (p := ⟨gb200, 3, none⟩) (Kd.R_far (p := ⟨gb200, 2, none⟩) (Kd.R_far (p := ⟨gb200, 1, none⟩) (Kd.R_far (p := ⟨gb200, 0, none⟩) (Kd.R_mono HO_4.out (fun k_ hk => (⟨hk, hk.2⟩ : _ ∧ k_ ≠ gb200))) (fun _ hk => hk.2) (.int .i64 t188)) (fun _ hk => hk.2) (.int .i64 t189)) (fun _ hk => hk.2) (.int .i64 t190)) (fun _ hk => hk.2) (.slice Ao48 t191.length co48)) (fun _ hk => hk.2) (.slice Ao49 t194.length co49)) (fun _ hk => ⟨hk.1.1.1.2, ⟨hk.1.1.2, hk.1.2⟩⟩)))⟩; have n1_ : Aside0 (Kd.R k104 104 w50 w.heap.size (fun _ => True) (.slice Ao48 t191.length co48) t191) := ⟨(by rw [hw]; exact (by (with_reducible repeat (first | apply Kd.R_alloc | apply Kd.R_drewN | apply Kd.R_drew)); exact Kd.R_mono (Kd.R_far (p := ⟨gb200, 4, none⟩) (Kd.R_far (p := ⟨gb200, 3, none⟩) (Kd.R_far (p := ⟨gb200, 2, none⟩) (Kd.R_far (p := ⟨gb200, 1, none⟩) (Kd.R_far (p := ⟨gb200, 0, none⟩) (Kd.R_types HO193.out BK200.out zq45) (fun _ hk => hk.2) (.int .i64 t188)) (fun _ hk => hk.2) (.int .i64 t189)) (fun _ hk => hk.2) (.int .i64 t190)) (fun _ hk => hk.2) (.slice Ao48 t191.length co48)) (fun _ hk => hk.2) (.slice Ao49 t194.length co49)) (fun _ hk => trivial)))⟩; have n2_ : Aside0 (Kd.R k38 38 w50 w.heap.size (fun k_ => some k_ ≠ (u4 : Value).ownBlock ∧ some k_ ≠ (.slice Ao48 t191.length co48 : Value).ownBlock ∧ k_ ≠ gb200) (.slice Ao49 t194.length co49) t194) := ⟨(by rw [hw]; exact (by (with_reducible repeat (first | apply Kd.R_alloc | apply Kd.R_drewN | apply Kd.R_drew)); exact Kd.R_mono (Kd.R_far (p := ⟨gb200, 4, none⟩) (Kd.R_far (p := ⟨gb200, 3, none⟩) (Kd.R_far (p := ⟨gb200, 2, none⟩) (Kd.R_far (p := ⟨gb200, 1, none⟩) (Kd.R_far (p := ⟨gb200, 0, none⟩) (Kd.R_mono HO196.out (fun k_ hk => (⟨hk, hk.2⟩ : _ ∧ k_ ≠ gb200))) (fun _ hk => hk.2) (.int .i64 t188)) (fun _ hk => hk.2) (.int .i64 t189)) (fun _ hk => hk.2) (.int .i64 t190)) (fun _ hk => hk.2) (.slice Ao48 t191.length co48)) (fun _ hk => hk.2) (.slice Ao49 t194.length co49)) (fun _ hk => ⟨hk.1.1.2, ⟨hk.1.1.1, hk.1.2⟩⟩)))⟩; have n3_ : Aside0 (w50.heap[gb200]? = some (.cells #[.int .i64 t188, .int .i64 t189, .int .i64 t190, .slice Ao48 t191.length co48, .slice Ao49 t194.length co49] 38 (0, 0))) := ⟨(by rw [hw]; exact (by (with_reducible repeat (first | refine blk_drewN ?_ _ | refine blk_drew ?_ | refine blk_alloc ?_ _)); refine blk_put (cs := #[.int .i64 t188, .int .i64 t189, .int .i64 t190, .slice Ao48 t191.length co48, .slice none 0 0]) ?_ 4 _ rfl; (with_reducible repeat (first | refine blk_drewN ?_ _ | refine blk_drew ?_ | refine blk_alloc ?_ _)); refine blk_put (cs := #[.int .i64 t188, .int .i64 t189, .int .i64 t190, .slice none 0 0, .slice none 0 0]) ?_ 3 _ rfl; (with_reducible repeat (first | refine blk_drewN ?_ _ | refine blk_drew ?_ | refine blk_alloc ?_ _)); refine blk_put (cs := #[.int .i64 t188, .int .i64 t189, .int .i64 0, .slice none 0 0, .slice none 0 0]) ?_ 2 _ rfl; (with_reducible repeat (first | refine blk_drewN ?_ _ | refine blk_drew ?_ | refine blk_alloc ?_ _)); refine blk_put (cs := #[.int .i64 t188, .int .i64 0, .int .i64 0, .slice none 0 0, .slice none 0 0]) ?_ 1 _ rfl; (with_reducible repeat (first | refine blk_drewN ?_ _ | refine blk_drew ?_ | refine blk_alloc ?_ _)); refine blk_put (cs := #[.int .i64 0, .int .i64 0, .int .i64 0, .slice none 0 0, .slice none 0 0]) ?_ 0 _ rfl; (with_reducible repeat (first | refine blk_drewN ?_ _ | refine blk_drew ?_ | refine blk_alloc ?_ _)); exact BK200.out))⟩; have n4_ : Aside0 (IsS56 w0 w50 g t198 t199) := ⟨(by rw [hw]; exact zq5)⟩; have n5_ : Aside0 (KeepBut w w50 g none) := ⟨(by rw [hw]; exact zq16)⟩; have n6_ : Aside0 (Below w0.heap.size w0 w50) := ⟨(by rw [hw]; exact zq18)⟩; clear hw HO_4 HO193 HO196 BK200 HI0 HK HB; have HO_4 := n0_; have HO193 := n1_; have HO196 := n2_; have BK200 := n3_; have HI0 := n4_; have HK := n5_; have HB := n6_; clear n0_ n1_ n2_ n3_ n4_ n5_ n6_; have hcz51_0 : w50.cell? ⟨gb200, 0, none⟩ = some (.int .i64 t188) := (blk_cell BK200.out 0).trans rfl; have hcz51_1 : w50.cell? ⟨gb200, 1, none⟩ = some (.int .i64 t189) := (blk_cell BK200.out 1).trans rfl; have hcz51_2 : w50.cell? ⟨gb200, 2, none⟩ = some (.int .i64 t190) := (blk_cell BK200.out 2).trans rfl; have hcz51_3 : w50.cell? ⟨gb200, 3, none⟩ = some (.slice Ao48 t191.length co48) := (blk_cell BK200.out 3).trans rfl; have hcz51_4 : w50.cell? ⟨gb200, 4, none⟩ = some (.slice Ao49 t194.length co49) := (blk_cell BK200.out 4).trans rfl; have hfz51_0 := blk_frozen BK200.out 0; have hfz51_1 := blk_frozen BK200.out 1; have hfz51_2 := blk_frozen BK200.out 2; have hfz51_3 := blk_frozen BK200.out 3; have hfz51_4 := blk_frozen BK200.out 4) | ((with_reducible refine gate_builtin (b := .append) (xs := #[.tmp 25, .tmp 27]) rfl ?_); at_builtin; refine Kd.R_append k38 w.heap.size rfl (.tmp 25) (.tmp 27) 36 38 (.agg #[(.int .i64 0), (.int .i64 0), (.int .i64 0), (.slice none 0 0), (.slice none 0 0)]) 72 rfl Tryd.underlying36 info38 rfl zq45 (by omega) u4 x4_1 (⟨t188, t189, t190, t191, t194⟩ : S38) [.int .i64 t188, .int .i64 t189, .int .i64 t190, .slice Ao48 t191.length co48, .slice Ao49 t194.length co49] (fun k_ => k_ ≠ gb200) (fun k_ => ((fun k_ => k_ ≠ gb200)) k_ ∧ some k_ ≠ (u4 : Value).ownBlock) rfl rfl ?aP (fun _ hk => hk) ?aF ?aO (Below.refl _ _) ?aS ?aL ?_; (case aP => exact k38_mkM _ _ _ (⟨t188, t189, t190, t191, t194⟩ : S38) (Kd.R_mono (Kd.R_types (Kd.R_apart' (HO193.out) (Kd.R_typed HO_4.out) zq45) BK200.out zq45) (fun k_ hk => ⟨hk.2, hk.1.2⟩)) (Kd.R_mono (HO196.out) (fun k_ hk => ⟨hk.2.2, hk.1⟩))); (case aF => exact (fun k_ hk => Kd.freshB (g := gb200) (o := .cells #[.int .i64 t188, .int .i64 t189, .int .i64 t190, .slice Ao48 t191.length co48, .slice Ao49 t194.length co49] 38 (0, 0)) zq26 k_ hk)); (case aO => exact zq62); (case aS => exact (keep_size (w := w) (g := g) (row := none) zq16)); (case aL => have := LMc13.out; omega); intro v202 w52 ho hb hg hat; rw [← Ny201.out] at ho; have n0_ := mk0 (IsS56.grown zq5 hg (IsS56.own_ne HI0.out HO_4.out zq45)); have n1_ := mk0 (blk_grown (g := gb200) (o := .cells #[.int .i64 t188, .int .i64 t189, .int .i64 t190, .slice Ao48 t191.length co48, .slice Ao49 t194.length co49] 38 (0, 0)) zq26 hg (Kd.R_away HO_4.out (fun _ hk => hk.2.2))); have n2_ := mk0 (below_weaken zq18 HL.out hb); have n3_ := mk0 (KeepBut.trans zq16 (KeepBut.of_grown hg g) (Kd.R_base2 HO_4.out)); have n4_ := mk0 (ho); clear HI0 BK200 HB HK HO_4 HO193 HO196; have HI0 := n0_; have BK200 := n1_; have HB := n2_; have HK := n3_; have HO203 := n4_; clear n0_ n1_ n2_ n3_ n4_; clear ho hb hg hat) | ((with_reducible refine gate_callee (f := 28) rfl ?_); refine goesL_ (some 30) rfl rfl Tryd.func28 zq23 rfl #[.pointer (some ⟨g, 0, none⟩)] rfl zq2 ?_; (with_reducible refine (spec_reader_blanks.calls k1 g t198 t199 t204 t205 w0 _ ?side1 ?side2 A14.out).mono ?_); (case side1 => exact zq5); (case side2 => exact zq18); rintro e w53 ⟨rfl, hi, hb, hk⟩; refine ⟨_, rfl, ?_⟩; have n0_ := mk0 (KeepBut.blk hk (g' := gb200) (o := .cells #[.int .i64 t188, .int .i64 t189, .int .i64 t190, .slice Ao48 t191.length co48, .slice Ao49 t194.length co49] 38 (0, 0)) zq26 NB200_0.out (by simp)); have n1_ := mk0 (Kd.R_mono (Kd.R_keep (IsS56.apart (show IsS56 w0 _ g t198 t199 from zq5) zq34 zq45) hk (fun _ h => h.2)) (fun _ h => h.1)); have n2_ := mk0 (KeepBut.trans zq16 hk (.inl rfl)); have n3_ := mk0 (hb); have n4_ := mk0 (hi); clear BK200 HO203 HK HB HI0; have BK200 := n0_; have HO203 := n1_; have HK := n2_; have HB := n3_; have HI0 := n4_; clear n0_ n1_ n2_ n3_ n4_; (try clear hb); (try clear hb2); (try clear hk); (try clear hi)) | ((with_reducible refine gate_callee (f := 67) rfl ?_); refine goesL_ (some 32) rfl rfl Tryd.func67 zq23 rfl #[.pointer (some ⟨g, 0, none⟩), .int .u8 93] rfl zq2 ?_; (with_reducible refine (spec_reader_take.calls g t204 t205 93 false t207 t208 w0 _ ?side1 ?side2 A15.out).mono ?_); (case side1 => exact zq5); (case side2 => exact zq18); rintro e w54 ⟨rfl, hi, hb, hk⟩; refine ⟨_, rfl, ?_⟩; have n0_ := mk0 (KeepBut.blk hk (g' := gb200) (o := .cells #[.int .i64 t188, .int .i64 t189, .int .i64 t190, .slice Ao48 t191.length co48, .slice Ao49 t194.length co49] 38 (0, 0)) zq26 NB200_0.out (by simp)); have n1_ := mk0 (Kd.R_mono (Kd.R_keep (IsS56.apart (show IsS56 w0 _ g t204 t205 from zq5) zq34 zq45) hk (fun _ h => h.2)) (fun _ h => h.1)); have n2_ := mk0 (KeepBut.trans zq16 hk (.inl rfl)); have n3_ := mk0 (hb); have n4_ := mk0 (hi); clear BK200 HO203 HK HB HI0; have BK200 := n0_; have HO203 := n1_; have HK := n2_; have HB := n3_; have HI0 := n4_; clear n0_ n1_ n2_ n3_ n4_; (try clear hb); (try clear hb2); (try clear hk); (try clear hi)) | ((with_reducible refine gate_callee (f := 67) rfl ?_); refine goesL_ (some 35) rfl rfl Tryd.func67 zq23 rfl #[.pointer (some ⟨g, 0, none⟩), .int .u8 44] rfl zq2 ?_; (with_reducible refine (spec_reader_take.calls g t207 t208 44 false t210 t211 w0 _ ?side1 ?side2 A28.out).mono ?_); (case side1 => exact zq5); (case side2 => exact zq18); rintro e w55 ⟨rfl, hi, hb, hk⟩; refine ⟨_, rfl, ?_⟩; have n0_ := mk0 (KeepBut.blk hk (g' := gb200) (o := .cells #[.int .i64 t188, .int .i64 t189, .int .i64 t190, .slice Ao48 t191.length co48, .slice Ao49 t194.length co49] 38 (0, 0)) zq26 NB200_0.out (by simp)); have n1_ := mk0 (Kd.R_mono (Kd.R_keep (IsS56.apart (show IsS56 w0 _ g t207 t208 from zq5) zq34 zq45) hk (fun _ h => h.2)) (fun _ h => h.1)); have n2_ := mk0 (KeepBut.trans zq16 hk (.inl rfl)); have n3_ := mk0 (hb); have n4_ := mk0 (hi); clear BK200 HO203 HK HB HI0; have BK200 := n0_; have HO203 := n1_; have HK := n2_; have HB := n3_; have HI0 := n4_; clear n0_ n1_ n2_ n3_ n4_; (try clear hb); (try clear hb2); (try clear hk); (try clear hi)))
    go_ret2
    exact ⟨_, by first | rfl | (simp [errW_none, errW_some] <;> rfl) | (simp [*, errW_none, errW_some] <;> rfl), by first | exact Kd.R_nil _ _ _ _ _ | exact Kd.N_nil _ _ _ _ _ | exact Kd.V_nil _ _ _ _ _ | exact Kd.Q_nil _ _ _ _ _ | exact Kd.S_nil _ _ _ _ _, by repeat (first | (with_reducible first | exact HI0.out | apply IsS56.alloc | apply IsS56.drewN | apply IsS56.drew | apply IsS56.set_0 | apply IsS56.set_1 | refine IsS56.far ?_ NB0_200.out _) | exact HI0.out), by repeat (first | (with_reducible first | exact HB.out | apply below_alloc | apply pw_below_drewN | apply below_drew1 | refine below_set ?_ (IsS56.ge HI0.out) | refine below_set ?_ GE200.out) | exact HB.out), by repeat (first | (with_reducible first | exact HK.out | apply KeepBut.set_ | apply keep_drewN | apply keep_drew | apply keep_alloc | refine keep_far ?_ GW200.out _) | exact HK.out)⟩
   subst c29
   have H1 : ((spec_reader_blanks.f k1 t210 t211).bind fun bt212 => (spec_reader_elements.l0 k1 y201 bt212.1 bt212.2)) = some (r1, r2, r3, r4) := by rw [if_pos rfl] at H; exact H
   clear H
   have H := H1
   clear H1
   replace H := Option.bind_eq_some_iff.mp H
   obtain ⟨⟨t212, t213⟩, A300, H⟩ := H
   replace H : (spec_reader_elements.l0 k1 y201 t212 t213) = some (r1, r2, r3, r4) := H
   have A30 := mk0 A300
   clear A300
   have H' := mk0 H
   clear H
   go_wp2_with (first | ((with_reducible refine gate_callee (f := 29) rfl ?_); refine goesL_ (some 20) rfl rfl Tryd.func29 zq23 rfl #[.pointer (some ⟨g, 0, none⟩)] rfl zq2 ?_; (with_reducible refine (ih_29 k1 (by have := HK1.out; omega) g x1000_1 x1001_1 t188 t189 t190 t191 t194 true t198 t199 w0 _ ?side1 ?side2 A11.out).mono ?_); (case side1 => exact zq0); (case side2 => exact zq3); rintro e w31 ⟨v192, v195, rfl, ho0, ho1, hi, hb, hk⟩; refine ⟨_, rfl, ?_⟩; have n0_ := mk0 (Kd.R_mono (Kd.R_told (Kd.R_told (Kd.R_oldK (IsS56.apart (show IsS56 w0 _ g x1000_1 x1001_1 from zq0) zq29 zq45) hk) (Kd.R_base ho0)) (Kd.R_base ho1)) (fun _ h_ => h_.1)); have n1_ := mk0 (Kd.R_lower ho0 (keep_size (w := w) (g := g) (row := none) zq1)); have n2_ := mk0 (Kd.R_lower (Kd.R_new' ho1 (Kd.R_lt zq29)) (keep_size (w := w) (g := g) (row := none) zq1)); have n3_ := mk0 (KeepBut.trans zq1 hk (.inl rfl)); have n4_ := mk0 (hb); have n5_ := mk0 (hi); clear HO_4 HK HB HI0; have HO_4 := n0_; have HO193 := n1_; have HO196 := n2_; have HK := n3_; have HB := n4_; have HI0 := n5_; clear n0_ n1_ n2_ n3_ n4_ n5_; (try clear hb); (try clear hb2); (try clear hk); (try clear hi); (try clear ho0); (try clear ho1)) | ((with_reducible refine gate_dst (N := 5) rfl ?_); refine box_event ?hg (N := 5) ?hd (cs := #[.int .i64 0, .int .i64 0, .int .i64 0, .slice none 0 0, .slice none 0 0]) (t := 38) ?hr ?_; (case hd => rfl); (case hg => rfl); (case hr => exact zq30); intro gb200 hg w32 hbox hb; have n0_ := mk0 (Kd.R_below (Kd.R_elderB zq29 gb200 (Nat.le_of_eq hg.symm)) hb); have n1_ := mk0 (Kd.R_below zq59 hb); have n2_ := mk0 (Kd.R_below (Kd.R_elderB zq60 gb200 (Nat.le_of_eq hg.symm)) hb); have n3_ := mk0 (IsS56.below zq0 hb); have n4_ := mk0 (KeepBut.trans zq1 (KeepBut.of_below hb g none) (.inl rfl)); have n5_ := mk0 (below_step zq3 hb); have n6_ := mk0 (hbox); have n7_ := mk0 ((zq27 : w.heap.size ≤ gb200)); have n8_ := mk0 ((Nat.le_trans HW0.out (zq27 : w.heap.size ≤ gb200) : w0.heap.size ≤ gb200)); have n9_ := mk0 ((by rw [hg]; exact Nat.ne_of_lt (IsS56.lt (show IsS56 w0 _ g t198 t199 from zq0)) : g ≠ gb200)); have n10_ := mk0 ((by rw [hg]; exact Nat.ne_of_gt (IsS56.lt (show IsS56 w0 _ g t198 t199 from zq0)) : gb200 ≠ g)); clear HO_4 HO193 HO196 HI0 HK HB; have HO_4 := n0_; have HO193 := n1_; have HO196 := n2_; have HI0 := n3_; have HK := n4_; have HB := n5_; have BK200 := n6_; have GW200 := n7_; have GE200 := n8_; have NB0_200 := n9_; have NB200_0 := n10_; clear n0_ n1_ n2_ n3_ n4_ n5_ n6_ n7_ n8_ n9_ n10_; clear hb hbox hg; have hnb33 := NB200_0.out; have hnc33 := NB0_200.out; have hcz34_0 : w32.cell? ⟨gb200, 0, none⟩ = some (.int .i64 0) := (blk_cell BK200.out 0).trans rfl; have hcz34_1 : w32.cell? ⟨gb200, 1, none⟩ = some (.int .i64 0) := (blk_cell BK200.out 1).trans rfl; have hcz34_2 : w32.cell? ⟨gb200, 2, none⟩ = some (.int .i64 0) := (blk_cell BK200.out 2).trans rfl; have hcz34_3 : w32.cell? ⟨gb200, 3, none⟩ = some (.slice none 0 0) := (blk_cell BK200.out 3).trans rfl; have hcz34_4 : w32.cell? ⟨gb200, 4, none⟩ = some (.slice none 0 0) := (blk_cell BK200.out 4).trans rfl; have hfz34_0 := blk_frozen BK200.out 0; have hfz34_1 := blk_frozen BK200.out 1; have hfz34_2 := blk_frozen BK200.out 2; have hfz34_3 := blk_frozen BK200.out 3; have hfz34_4 := blk_frozen BK200.out 4; obtain ⟨Ao35, co35, eo35⟩ := Kd.R_slice HO193.out; subst eo35; obtain ⟨Ao36, co36, eo36⟩ := Kd.R_slice HO196.out; subst eo36) | ((with_reducible refine gate_store (t := 38) (p := 5) rfl ?_); refine store_event (t := 38) (p := 5) (v := ?vo_w37) (w1 := (((((w32.setCell ⟨gb200, 0, none⟩ (.int .i64 t188)).setCell ⟨gb200, 1, none⟩ (.int .i64 t189)).setCell ⟨gb200, 2, none⟩ (.int .i64 t190)).setCell ⟨gb200, 3, none⟩ (.slice Ao35 t191.length co35)).setCell ⟨gb200, 4, none⟩ (.slice Ao36 t194.length co36))) ?hg ?ho ?hn ?hr ?_; (case ho => rfl); (case hg => rfl); (case hn => rfl); (case hr => exact zq30); intro w37 hw; have n0_ : Aside0 (Kd.R k38 38 w37 w.heap.size (fun k_ => some k_ ≠ (.slice Ao35 t191.length co35 : Value).ownBlock ∧ some k_ ≠ (.slice Ao36 t194.length co36 : Value).ownBlock ∧ k_ ≠ gb200) u4 x4_1) := ⟨(by rw [hw]; exact (by (with_reducible repeat (first | apply Kd.R_alloc | apply Kd.R_drewN | apply Kd.R_drew)); exact Kd.R_mono (Kd.R_far (p := ⟨gb200, 4, none⟩) (Kd.R_far (p := ⟨gb200, 3, none⟩) (Kd.R_far (p := ⟨gb200, 2, none⟩) (Kd.R_far (p := ⟨gb200, 1, none⟩) (Kd.R_far (p := ⟨gb200, 0, none⟩) (Kd.R_mono HO_4.out (fun k_ hk => (⟨hk, hk.2⟩ : _ ∧ k_ ≠ gb200))) (fun _ hk => hk.2) (.int .i64 t188)) (fun _ hk => hk.2) (.int .i64 t189)) (fun _ hk => hk.2) (.int .i64 t190)) (fun _ hk => hk.2) (.slice Ao35 t191.length co35)) (fun _ hk => hk.2) (.slice Ao36 t194.length co36)) (fun _ hk => ⟨hk.1.1.1.2, ⟨hk.1.1.2, hk.1.2⟩⟩)))⟩; have n1_ : Aside0 (Kd.R k104 104 w37 w.heap.size (fun _ => True) (.slice Ao35 t191.length co35) t191) := ⟨(by rw [hw]; exact (by (with_reducible repeat (first | apply Kd.R_alloc | apply Kd.R_drewN | apply Kd.R_drew)); exact Kd.R_mono (Kd.R_far (p := ⟨gb200, 4, none⟩) (Kd.R_far (p := ⟨gb200, 3, none⟩) (Kd.R_far (p := ⟨gb200, 2, none⟩) (Kd.R_far (p := ⟨gb200, 1, none⟩) (Kd.R_far (p := ⟨gb200, 0, none⟩) (Kd.R_types HO193.out BK200.out zq45) (fun _ hk => hk.2) (.int .i64 t188)) (fun _ hk => hk.2) (.int .i64 t189)) (fun _ hk => hk.2) (.int .i64 t190)) (fun _ hk => hk.2) (.slice Ao35 t191.length co35)) (fun _ hk => hk.2) (.slice Ao36 t194.length co36)) (fun _ hk => trivial)))⟩; have n2_ : Aside0 (Kd.R k38 38 w37 w.heap.size (fun k_ => some k_ ≠ (u4 : Value).ownBlock ∧ some k_ ≠ (.slice Ao35 t191.length co35 : Value).ownBlock ∧ k_ ≠ gb200) (.slice Ao36 t194.length co36) t194) := ⟨(by rw [hw]; exact (by (with_reducible repeat (first | apply Kd.R_alloc | apply Kd.R_drewN | apply Kd.R_drew)); exact Kd.R_mono (Kd.R_far (p := ⟨gb200, 4, none⟩) (Kd.R_far (p := ⟨gb200, 3, none⟩) (Kd.R_far (p := ⟨gb200, 2, none⟩) (Kd.R_far (p := ⟨gb200, 1, none⟩) (Kd.R_far (p := ⟨gb200, 0, none⟩) (Kd.R_mono HO196.out (fun k_ hk => (⟨hk, hk.2⟩ : _ ∧ k_ ≠ gb200))) (fun _ hk => hk.2) (.int .i64 t188)) (fun _ hk => hk.2) (.int .i64 t189)) (fun _ hk => hk.2) (.int .i64 t190)) (fun _ hk => hk.2) (.slice Ao35 t191.length co35)) (fun _ hk => hk.2) (.slice Ao36 t194.length co36)) (fun _ hk => ⟨hk.1.1.2, ⟨hk.1.1.1, hk.1.2⟩⟩)))⟩; have n3_ : Aside0 (w37.heap[gb200]? = some (.cells #[.int .i64 t188, .int .i64 t189, .int .i64 t190, .slice Ao35 t191.length co35, .slice Ao36 t194.length co36] 38 (0, 0))) := ⟨(by rw [hw]; exact (by (with_reducible repeat (first | refine blk_drewN ?_ _ | refine blk_drew ?_ | refine blk_alloc ?_ _)); refine blk_put (cs := #[.int .i64 t188, .int .i64 t189, .int .i64 t190, .slice Ao35 t191.length co35, .slice none 0 0]) ?_ 4 _ rfl; (with_reducible repeat (first | refine blk_drewN ?_ _ | refine blk_drew ?_ | refine blk_alloc ?_ _)); refine blk_put (cs := #[.int .i64 t188, .int .i64 t189, .int .i64 t190, .slice none 0 0, .slice none 0 0]) ?_ 3 _ rfl; (with_reducible repeat (first | refine blk_drewN ?_ _ | refine blk_drew ?_ | refine blk_alloc ?_ _)); refine blk_put (cs := #[.int .i64 t188, .int .i64 t189, .int .i64 0, .slice none 0 0, .slice none 0 0]) ?_ 2 _ rfl; (with_reducible repeat (first | refine blk_drewN ?_ _ | refine blk_drew ?_ | refine blk_alloc ?_ _)); refine blk_put (cs := #[.int .i64 t188, .int .i64 0, .int .i64 0, .slice none 0 0, .slice none 0 0]) ?_ 1 _ rfl; (with_reducible repeat (first | refine blk_drewN ?_ _ | refine blk_drew ?_ | refine blk_alloc ?_ _)); refine blk_put (cs := #[.int .i64 0, .int .i64 0, .int .i64 0, .slice none 0 0, .slice none 0 0]) ?_ 0 _ rfl; (with_reducible repeat (first | refine blk_drewN ?_ _ | refine blk_drew ?_ | refine blk_alloc ?_ _)); exact BK200.out))⟩; have n4_ : Aside0 (IsS56 w0 w37 g t198 t199) := ⟨(by rw [hw]; exact zq5)⟩; have n5_ : Aside0 (KeepBut w w37 g none) := ⟨(by rw [hw]; exact zq16)⟩; have n6_ : Aside0 (Below w0.heap.size w0 w37) := ⟨(by rw [hw]; exact zq18)⟩; clear hw HO_4 HO193 HO196 BK200 HI0 HK HB; have HO_4 := n0_; have HO193 := n1_; have HO196 := n2_; have BK200 := n3_; have HI0 := n4_; have HK := n5_; have HB := n6_; clear n0_ n1_ n2_ n3_ n4_ n5_ n6_; have hcz38_0 : w37.cell? ⟨gb200, 0, none⟩ = some (.int .i64 t188) := (blk_cell BK200.out 0).trans rfl; have hcz38_1 : w37.cell? ⟨gb200, 1, none⟩ = some (.int .i64 t189) := (blk_cell BK200.out 1).trans rfl; have hcz38_2 : w37.cell? ⟨gb200, 2, none⟩ = some (.int .i64 t190) := (blk_cell BK200.out 2).trans rfl; have hcz38_3 : w37.cell? ⟨gb200, 3, none⟩ = some (.slice Ao35 t191.length co35) := (blk_cell BK200.out 3).trans rfl; have hcz38_4 : w37.cell? ⟨gb200, 4, none⟩ = some (.slice Ao36 t194.length co36) := (blk_cell BK200.out 4).trans rfl; have hfz38_0 := blk_frozen BK200.out 0; have hfz38_1 := blk_frozen BK200.out 1; have hfz38_2 := blk_frozen BK200.out 2; have hfz38_3 := blk_frozen BK200.out 3; have hfz38_4 := blk_frozen BK200.out 4) | ((with_reducible refine gate_builtin (b := .append) (xs := #[.tmp 25, .tmp 27]) rfl ?_); at_builtin; refine Kd.R_append k38 w.heap.size rfl (.tmp 25) (.tmp 27) 36 38 (.agg #[(.int .i64 0), (.int .i64 0), (.int .i64 0), (.slice none 0 0), (.slice none 0 0)]) 72 rfl Tryd.underlying36 info38 rfl zq45 (by omega) u4 x4_1 (⟨t188, t189, t190, t191, t194⟩ : S38) [.int .i64 t188, .int .i64 t189, .int .i64 t190, .slice Ao35 t191.length co35, .slice Ao36 t194.length co36] (fun k_ => k_ ≠ gb200) (fun k_ => ((fun k_ => k_ ≠ gb200)) k_ ∧ some k_ ≠ (u4 : Value).ownBlock) rfl rfl ?aP (fun _ hk => hk) ?aF ?aO (Below.refl _ _) ?aS ?aL ?_; (case aP => exact k38_mkM _ _ _ (⟨t188, t189, t190, t191, t194⟩ : S38) (Kd.R_mono (Kd.R_types (Kd.R_apart' (HO193.out) (Kd.R_typed HO_4.out) zq45) BK200.out zq45) (fun k_ hk => ⟨hk.2, hk.1.2⟩)) (Kd.R_mono (HO196.out) (fun k_ hk => ⟨hk.2.2, hk.1⟩))); (case aF => exact (fun k_ hk => Kd.freshB (g := gb200) (o := .cells #[.int .i64 t188, .int .i64 t189, .int .i64 t190, .slice Ao35 t191.length co35, .slice Ao36 t194.length co36] 38 (0, 0)) zq26 k_ hk)); (case aO => exact zq62); (case aS => exact (keep_size (w := w) (g := g) (row := none) zq16)); (case aL => have := LMc13.out; omega); intro v202 w39 ho hb hg hat; rw [← Ny201.out] at ho; have n0_ := mk0 (IsS56.grown zq5 hg (IsS56.own_ne HI0.out HO_4.out zq45)); have n1_ := mk0 (blk_grown (g := gb200) (o := .cells #[.int .i64 t188, .int .i64 t189, .int .i64 t190, .slice Ao35 t191.length co35, .slice Ao36 t194.length co36] 38 (0, 0)) zq26 hg (Kd.R_away HO_4.out (fun _ hk => hk.2.2))); have n2_ := mk0 (below_weaken zq18 HL.out hb); have n3_ := mk0 (KeepBut.trans zq16 (KeepBut.of_grown hg g) (Kd.R_base2 HO_4.out)); have n4_ := mk0 (ho); clear HI0 BK200 HB HK HO_4 HO193 HO196; have HI0 := n0_; have BK200 := n1_; have HB := n2_; have HK := n3_; have HO203 := n4_; clear n0_ n1_ n2_ n3_ n4_; clear ho hb hg hat) | ((with_reducible refine gate_callee (f := 28) rfl ?_); refine goesL_ (some 30) rfl rfl Tryd.func28 zq23 rfl #[.pointer (some ⟨g, 0, none⟩)] rfl zq2 ?_; (with_reducible refine (spec_reader_blanks.calls k1 g t198 t199 t204 t205 w0 _ ?side1 ?side2 A14.out).mono ?_); (case side1 => exact zq5); (case side2 => exact zq18); rintro e w40 ⟨rfl, hi, hb, hk⟩; refine ⟨_, rfl, ?_⟩; have n0_ := mk0 (KeepBut.blk hk (g' := gb200) (o := .cells #[.int .i64 t188, .int .i64 t189, .int .i64 t190, .slice Ao35 t191.length co35, .slice Ao36 t194.length co36] 38 (0, 0)) zq26 NB200_0.out (by simp)); have n1_ := mk0 (Kd.R_mono (Kd.R_keep (IsS56.apart (show IsS56 w0 _ g t198 t199 from zq5) zq34 zq45) hk (fun _ h => h.2)) (fun _ h => h.1)); have n2_ := mk0 (KeepBut.trans zq16 hk (.inl rfl)); have n3_ := mk0 (hb); have n4_ := mk0 (hi); clear BK200 HO203 HK HB HI0; have BK200 := n0_; have HO203 := n1_; have HK := n2_; have HB := n3_; have HI0 := n4_; clear n0_ n1_ n2_ n3_ n4_; (try clear hb); (try clear hb2); (try clear hk); (try clear hi)) | ((with_reducible refine gate_callee (f := 67) rfl ?_); refine goesL_ (some 32) rfl rfl Tryd.func67 zq23 rfl #[.pointer (some ⟨g, 0, none⟩), .int .u8 93] rfl zq2 ?_; (with_reducible refine (spec_reader_take.calls g t204 t205 93 false t207 t208 w0 _ ?side1 ?side2 A15.out).mono ?_); (case side1 => exact zq5); (case side2 => exact zq18); rintro e w41 ⟨rfl, hi, hb, hk⟩; refine ⟨_, rfl, ?_⟩; have n0_ := mk0 (KeepBut.blk hk (g' := gb200) (o := .cells #[.int .i64 t188, .int .i64 t189, .int .i64 t190, .slice Ao35 t191.length co35, .slice Ao36 t194.length co36] 38 (0, 0)) zq26 NB200_0.out (by simp)); have n1_ := mk0 (Kd.R_mono (Kd.R_keep (IsS56.apart (show IsS56 w0 _ g t204 t205 from zq5) zq34 zq45) hk (fun _ h => h.2)) (fun _ h => h.1)); have n2_ := mk0 (KeepBut.trans zq16 hk (.inl rfl)); have n3_ := mk0 (hb); have n4_ := mk0 (hi); clear BK200 HO203 HK HB HI0; have BK200 := n0_; have HO203 := n1_; have HK := n2_; have HB := n3_; have HI0 := n4_; clear n0_ n1_ n2_ n3_ n4_; (try clear hb); (try clear hb2); (try clear hk); (try clear hi)) | ((with_reducible refine gate_callee (f := 67) rfl ?_); refine goesL_ (some 35) rfl rfl Tryd.func67 zq23 rfl #[.pointer (some ⟨g, 0, none⟩), .int .u8 44] rfl zq2 ?_; (with_reducible refine (spec_reader_take.calls g t207 t208 44 true t210 t211 w0 _ ?side1 ?side2 A28.out).mono ?_); (case side1 => exact zq5); (case side2 => exact zq18); rintro e w42 ⟨rfl, hi, hb, hk⟩; refine ⟨_, rfl, ?_⟩; have n0_ := mk0 (KeepBut.blk hk (g' := gb200) (o := .cells #[.int .i64 t188, .int .i64 t189, .int .i64 t190, .slice Ao35 t191.length co35, .slice Ao36 t194.length co36] 38 (0, 0)) zq26 NB200_0.out (by simp)); have n1_ := mk0 (Kd.R_mono (Kd.R_keep (IsS56.apart (show IsS56 w0 _ g t207 t208 from zq5) zq34 zq45) hk (fun _ h => h.2)) (fun _ h => h.1)); have n2_ := mk0 (KeepBut.trans zq16 hk (.inl rfl)); have n3_ := mk0 (hb); have n4_ := mk0 (hi); clear BK200 HO203 HK HB HI0; have BK200 := n0_; have HO203 := n1_; have HK := n2_; have HB := n3_; have HI0 := n4_; clear n0_ n1_ n2_ n3_ n4_; (try clear hb); (try clear hb2); (try clear hk); (try clear hi)) | ((with_reducible refine gate_callee (f := 28) rfl ?_); refine goesL_ (some 38) rfl rfl Tryd.func28 zq23 rfl #[.pointer (some ⟨g, 0, none⟩)] rfl zq2 ?_; (with_reducible refine (spec_reader_blanks.calls k1 g t210 t211 t212 t213 w0 _ ?side1 ?side2 A30.out).mono ?_); (case side1 => exact zq5); (case side2 => exact zq18); rintro e w43 ⟨rfl, hi, hb, hk⟩; refine ⟨_, rfl, ?_⟩; have n0_ := mk0 (KeepBut.blk hk (g' := gb200) (o := .cells #[.int .i64 t188, .int .i64 t189, .int .i64 t190, .slice Ao35 t191.length co35, .slice Ao36 t194.length co36] 38 (0, 0)) zq26 NB200_0.out (by simp)); have n1_ := mk0 (Kd.R_mono (Kd.R_keep (IsS56.apart (show IsS56 w0 _ g t210 t211 from zq5) zq34 zq45) hk (fun _ h => h.2)) (fun _ h => h.1)); have n2_ := mk0 (KeepBut.trans zq16 hk (.inl rfl)); have n3_ := mk0 (hb); have n4_ := mk0 (hi); clear BK200 HO203 HK HB HI0; have BK200 := n0_; have HO203 := n1_; have HK := n2_; have HB := n3_; have HI0 := n4_; clear n0_ n1_ n2_ n3_ n4_; (try clear hb); (try clear hb2); (try clear hk); (try clear hi)))
   go_roundg k1
   case measure => have := HK1.out; omega
   case rel => exact ⟨(y201), (t212), (t213), H', ⟨by have := HK1.out; omega⟩, ⟨by (with_reducible repeat (first | apply Kd.R_alloc | apply Kd.R_drewN | apply Kd.R_drew)); exact Kd.R_mono HO203.out (fun _ hk => trivial)⟩, ⟨by repeat (first | (with_reducible first | exact HI0.out | apply IsS56.alloc | apply IsS56.drewN | apply IsS56.drew | apply IsS56.set_0 | apply IsS56.set_1 | refine IsS56.far ?_ NB0_200.out _) | exact HI0.out)⟩, ⟨by repeat (first | (with_reducible first | exact HK.out | apply KeepBut.set_ | apply keep_drewN | apply keep_drew | apply keep_alloc | refine keep_far ?_ GW200.out _) | exact HK.out)⟩, ⟨by repeat (first | (with_reducible first | exact HB.out | apply below_alloc | apply pw_below_drewN | apply below_drew1 | refine below_set ?_ (IsS56.ge HI0.out) | refine below_set ?_ GE200.out) | exact HB.out)⟩⟩
theorem grp29.calls (k : Nat) : spec_reader_value.Stmt k ∧ spec_reader_members.Stmt k ∧ spec_reader_elements.Stmt k := by
 induction k using Nat.strongRecOn with
 | _ k ih => exact ⟨spec_reader_value.step k (fun m h => (ih m h).1) (fun m h => (ih m h).2.1) (fun m h => (ih m h).2.2), spec_reader_members.step k (fun m h => (ih m h).1) (fun m h => (ih m h).2.1) (fun m h => (ih m h).2.2), spec_reader_elements.step k (fun m h => (ih m h).1) (fun m h => (ih m h).2.1) (fun m h => (ih m h).2.2)⟩
theorem spec_reader_value.calls (k : Nat) : ∀ (g : Nat) (s0_0 : ByteArray) (s0_1 : Int) (r1 : Int) (r2 : Int) (r3 : Int) (r4 : List (S104)) (r5 : List (S38)) (r6 : Bool) (r7 : ByteArray) (r8 : Int) (w0 w : World) (hI : IsS56 w0 w g s0_0 s0_1) (hB : Below w0.heap.size w0 w) (h : spec_reader_value.f k s0_0 s0_1 = some (r1, r2, r3, r4, r5, r6, r7, r8)),
 Calls Tryd.prog 29 #[.pointer (some ⟨g, 0, none⟩)] w fun e w' => ∃ v3_ v4_ : Value, e = .returned (.tuple #[.agg #[.int .i64 r1, .int .i64 r2, .int .i64 r3, v3_, v4_], .bool r6]) ∧ Kd.R k104 104 w' w.heap.size (fun _ => True) v3_ r4 ∧ Kd.R k38 38 w' w.heap.size (fun k_ => some k_ ≠ (v3_ : Value).ownBlock) v4_ r5 ∧ IsS56 w0 w' g r7 r8 ∧ Below w0.heap.size w0 w' ∧ KeepBut w w' g none := (grp29.calls k).1
theorem spec_reader_members.calls (k : Nat) : ∀ (g : Nat) (s0_0 : ByteArray) (s0_1 : Int) (r1 : List (S104)) (r2 : List (S38)) (r3 : Bool) (r4 : ByteArray) (r5 : Int) (w0 w : World) (hI : IsS56 w0 w g s0_0 s0_1) (hB : Below w0.heap.size w0 w) (h : spec_reader_members.f k s0_0 s0_1 = some (r1, r2, r3, r4, r5)),
 Calls Tryd.prog 49 #[.pointer (some ⟨g, 0, none⟩)] w fun e w' => ∃ v0_ v1_ : Value, e = .returned (.tuple #[v0_, v1_, .bool r3]) ∧ Kd.R k104 104 w' w.heap.size (fun _ => True) v0_ r1 ∧ Kd.R k38 38 w' w.heap.size (fun k_ => some k_ ≠ (v0_ : Value).ownBlock) v1_ r2 ∧ IsS56 w0 w' g r4 r5 ∧ Below w0.heap.size w0 w' ∧ KeepBut w w' g none := (grp29.calls k).2.1
theorem spec_reader_elements.calls (k : Nat) : ∀ (g : Nat) (s0_0 : ByteArray) (s0_1 : Int) (r1 : List (S38)) (r2 : Bool) (r3 : ByteArray) (r4 : Int) (w0 w : World) (hI : IsS56 w0 w g s0_0 s0_1) (hB : Below w0.heap.size w0 w) (h : spec_reader_elements.f k s0_0 s0_1 = some (r1, r2, r3, r4)),
 Calls Tryd.prog 50 #[.pointer (some ⟨g, 0, none⟩)] w fun e w' => ∃ v0_ : Value, e = .returned (.tuple #[v0_, .bool r2]) ∧ Kd.R k38 38 w' w.heap.size (fun _ => True) v0_ r1 ∧ IsS56 w0 w' g r3 r4 ∧ Below w0.heap.size w0 w' ∧ KeepBut w w' g none := (grp29.calls k).2.2
def spec_Places.f (k : Nat) (a0 : ByteArray) : Option (Int × Int × Int × (List (S104)) × (List (S38)) × Bool) :=
  (spec_reader_blanks.f k a0 0).bind fun b => ((spec_reader_value.f k b.1 b.2).bind fun v => (if v.2.2.2.2.2.1 = true then ((spec_reader_blanks.f k v.2.2.2.2.2.2.1 v.2.2.2.2.2.2.2).bind fun c => (if c.2 = (a0.size : Int) then (some (v.1, v.2.1, v.2.2.1, v.2.2.2.1, v.2.2.2.2.1, true)) else (some (0, 0, 0, [], [], false)))) else (some (0, 0, 0, [], [], false))))
theorem spec_Places.mono : ∀ a0 k, LeO (spec_Places.f k a0) (spec_Places.f (k + 1) a0) := fun a0 k => LeO.bind (spec_reader_blanks.mono _ _ k) (fun _ => LeO.bind (spec_reader_value.mono _ _ k) (fun _ => LeO.ite (LeO.bind (spec_reader_blanks.mono _ _ k) (fun _ => LeO.refl _)) (LeO.refl _)))
theorem Places_R_keep {α : Type} {d : Kd α} {e : Nat} {w w1 : World} {base : Nat} {ok : Nat → Prop} {v : Value} {xs : List α} (h : d.R e w base ok v xs) {g : Nat} (hk : KeepBut w w1 g none) (hg : g < base) : d.R e w1 base ok v xs :=
 Kd.R_mono (Kd.R_move (Kd.R_bound h) (fun k hk' => hk.2 k hk'.2.2.1 (by omega) (by simp))) (fun _ hk => hk.1)
theorem spec_Places.calls (k : Nat) (a0 : ByteArray) (r1 r2 r3 : Int) (r4 : List (S104)) (r5 : List (S38)) (r6 : Bool) (w : World) (h : spec_Places.f k a0 = some (r1, r2, r3, r4, r5, r6)) :
 Calls Tryd.prog 15 #[.string a0] w fun e w' => ∃ v3_ v4_ : Value, e = .returned (.tuple #[.agg #[.int .i64 r1, .int .i64 r2, .int .i64 r3, v3_, v4_], .bool r6]) ∧ Kd.R k104 104 w' w.heap.size (fun _ => True) v3_ r4 ∧ Kd.R k38 38 w' w.heap.size (fun k_ => some k_ ≠ (v3_ : Value).ownBlock) v4_ r5 ∧ Below w.heap.size w w' := by
 unfold spec_Places.f at h
 replace h := Option.bind_eq_some_iff.mp h
 obtain ⟨⟨s1, at1⟩, A1, h⟩ := h
 replace h := Option.bind_eq_some_iff.mp h
 obtain ⟨⟨t1, t2, t3, t4, t5, ok, s2, at2⟩, A2, h⟩ := h
 have B1 := mk0 A1
 have B2 := mk0 A2
 have HR := mk0 h
 clear A1 A2 h
 go_enter Tryd.func15, Tryd.ntmps15
 go_wp2_with fail
 refine (spec_reader_blanks.calls k (w.heap.size + 1) a0 0 s1 at1 w _ ?i1 ?b1 B1.out).mono ?_
 case i1 =>
  have := IsS56.new w (w.alloc (.cells #[.int .i64 0, .int .i64 0, .int .i64 0, .slice none 0 0, .slice none 0 0] 38)) a0 0 (below_alloc (Below.refl _ _) _)
  simpa using this
 case b1 => exact below_alloc (below_alloc (Below.refl _ _) _) _
 rintro e w1 ⟨rfl, hI, hB, hK⟩
 have hZ : w1.heap[w.heap.size]? = some (.cells #[.int .i64 0, .int .i64 0, .int .i64 0, .slice none 0 0, .slice none 0 0] 38 (0, 0)) := KeepBut.blk hK (blk_alloc (blk_new w _) _) (by omega) (by simp)
 have HI := mk0 hI
 have HB := mk0 hB
 have HZ := mk0 hZ
 clear hI hB hK hZ
 go_wp2_with fail
 refine (spec_reader_value.calls k (w.heap.size + 1) s1 at1 t1 t2 t3 t4 t5 ok s2 at2 w _ HI.out HB.out B2.out).mono ?_
 rintro e w2 ⟨v3, v4, rfl, hv3, hv4, hI, hB, hK⟩
 obtain ⟨i3, ho3⟩ := Kd.R_own hv3
 obtain ⟨A3, c3, e3⟩ := own_slice ho3
 subst e3
 obtain ⟨i4, ho4⟩ := Kd.R_own hv4
 obtain ⟨A4, c4, e4⟩ := own_slice ho4
 subst e4
 clear ho3 ho4
 have hl1 := below_size HB.out
 have hl : w.heap.size + 1 < w1.heap.size := HI.out.lt
 have hZ2 := KeepBut.blk hK HZ.out (by omega) (by simp)
 have HI2 := mk0 hI
 have HB2 := mk0 hB
 have HZ2 := mk0 hZ2
 have HV3 := mk0 hv3
 have HV4 := mk0 hv4
 have HL := mk0 hl
 have HL2 := mk0 hK.1
 clear hI hB hK hZ2 hv3 hv4 hl hl1 HI HB HZ
 have HR1 := HR.out
 clear HR
 cases ok with
 | false =>
  rw [if_neg zq45] at HR1
  simp only [Option.some.injEq, Prod.mk.injEq] at HR1
  obtain ⟨rfl, rfl, rfl, rfl, rfl, rfl⟩ := HR1
  go_wp2_with (((with_reducible refine gate_store (t := 38) (p := 2) rfl ?_); refine box_store (g := w.heap.size) (new := #[.int .i64 0, .int .i64 0, .int .i64 0, .slice none 0 0, .slice none 0 0]) rfl rfl rfl rfl rfl (blk_alloc HZ2.out _) rfl zq23 (by simp [Value.oneCell']) ?_; intro w3 hz3 hk3 hb3; have HZ3 := mk0 hz3; have HB3 := mk0 (hb3 w.heap.size (Nat.le_refl _)); clear hz3 hk3 hb3))
  refine bodyPost_ret (results_ct rfl _ _ w.heap.size 38 #[.int .i64 0, .int .i64 0, .int .i64 0, .slice none 0 0, .slice none 0 0] (0, 0) _ rfl HZ3.out Tryd.underlying38 rfl zq23) rfl ?_
  exact ⟨_, _, rfl, Kd.R_nil _ _ _ _ _, Kd.R_nil _ _ _ _ _, (below_alloc HB2.out _).trans HB3.out⟩
 | true =>
  rw [if_pos rfl] at HR1
  replace HR1 := Option.bind_eq_some_iff.mp HR1
  obtain ⟨⟨s3, at3⟩, A3, HR1⟩ := HR1
  have B3 := mk0 A3
  have HR := mk0 HR1
  clear A3 HR1
  go_wp2_with fail
  refine (spec_reader_blanks.calls k (w.heap.size + 1) s2 at2 s3 at3 w _ (IsS56.alloc HI2.out _) (below_alloc HB2.out _) B3.out).mono ?_
  rintro e w3 ⟨rfl, hI, hB, hK⟩
  have hL := HL.out
  have hL2 := HL2.out
  have HP3 := mk0 (KeepBut.blk hK (blk_new w2 _) (by omega) (by simp))
  have HZ3 := mk0 (KeepBut.blk hK (blk_alloc HZ2.out _) (by omega) (by simp))
  have HV3' := mk0 (Places_R_keep (Kd.R_alloc HV3.out _) hK HL.out)
  have HV4' := mk0 (Places_R_keep (Kd.R_alloc HV4.out _) hK HL.out)
  have hc1 := cellS56_1 hI.1
  have HB3 := mk0 hB
  have HR1 := HR.out
  clear hI hB hK hL hL2 HR
  by_cases c : at3 = (a0.size : Int)
  rotate_left
  ·rw [if_neg c] at HR1
   have cb : (at3 != (a0.size : Int)) = true := bne_iff_ne.mpr c
   clear c
   simp only [Option.some.injEq, Prod.mk.injEq] at HR1
   obtain ⟨rfl, rfl, rfl, rfl, rfl, rfl⟩ := HR1
   go_wp2_with (((with_reducible refine gate_store (t := 38) (p := 2) rfl ?_); refine box_store (g := w.heap.size) (new := #[.int .i64 0, .int .i64 0, .int .i64 0, .slice none 0 0, .slice none 0 0]) rfl rfl rfl rfl rfl HZ3.out rfl zq23 (by simp [Value.oneCell']) ?_; intro w4 hz4 hk4 hb4; have HZ4 := mk0 hz4; have HB4 := mk0 (hb4 w.heap.size (Nat.le_refl _)); clear hz4 hk4 hb4))
   refine bodyPost_ret (results_ct rfl _ _ w.heap.size 38 #[.int .i64 0, .int .i64 0, .int .i64 0, .slice none 0 0, .slice none 0 0] (0, 0) _ rfl HZ4.out Tryd.underlying38 rfl zq23) rfl ?_
   exact ⟨_, _, rfl, Kd.R_nil _ _ _ _ _, Kd.R_nil _ _ _ _ _, HB3.out.trans HB4.out⟩
  rw [if_pos c] at HR1
  have cb : (at3 != (a0.size : Int)) = false := bne_eq_false_iff_eq.mpr c
  clear c
  simp only [Option.some.injEq, Prod.mk.injEq] at HR1
  obtain ⟨rfl, rfl, rfl, rfl, rfl, rfl⟩ := HR1
  go_wp2_with (first | ((with_reducible refine gate_dst (N := 24) rfl ?_); refine wpList_load_row rfl 38 _ rfl w2.heap.size rfl 38 _ (0, 0) _ HP3.out Tryd.underlying38 rfl zq23 ?_) | ((with_reducible refine gate_store (t := 38) (p := 2) rfl ?_); refine box_store (g := w.heap.size) (new := #[.int .i64 t1, .int .i64 t2, .int .i64 t3, .slice A3 t4.length c3, .slice A4 t5.length c4]) rfl rfl rfl rfl rfl HZ3.out rfl zq23 (by simp [Value.oneCell']) ?_; intro w4 hz4 hk4 hb4; have HZ4 := mk0 hz4; have HK4 := mk0 hk4; have HB4 := mk0 (hb4 w.heap.size (Nat.le_refl _)); clear hz4 hk4 hb4))
  refine bodyPost_ret (results_ct rfl _ _ w.heap.size 38 #[.int .i64 t1, .int .i64 t2, .int .i64 t3, .slice A3 t4.length c3, .slice A4 t5.length c4] (0, 0) _ rfl HZ4.out Tryd.underlying38 rfl zq23) rfl ?_
  have hL := HL.out
  exact ⟨_, _, rfl, Kd.R_lower (Places_R_keep HV3'.out HK4.out (by omega)) (by omega), Kd.R_lower (Places_R_keep HV4'.out HK4.out (by omega)) (by omega), HB3.out.trans HB4.out⟩
mutual
def jsonparser_h2I.j0 : Nat → Int → Bool → Option (Int)
  | 0, _, _ => none
  | k + 1, x0, x8 => if x8 = true then (some ((x0 - 48) % 256)) else (if x0 ≥ 65 then (jsonparser_h2I.j1 k x0 (decide (x0 ≤ 70))) else (jsonparser_h2I.j1 k x0 false))
def jsonparser_h2I.j1 : Nat → Int → Bool → Option (Int)
  | 0, _, _ => none
  | k + 1, x0, x17 => if x17 = true then (some (((x0 - 65) % 256) + 10)) else (if x0 ≥ 97 then (if x0 ≤ 102 then (some (((x0 - 97) % 256) + 10)) else (some (-1))) else (some (-1)))
end
def jsonparser_h2I.f (k : Nat) (a0 : Int) : Option (Int) := if a0 ≥ 48 then (jsonparser_h2I.j0 k a0 (decide (a0 ≤ 57))) else (jsonparser_h2I.j0 k a0 false)
theorem jsonparser_h2I.mono_l : ∀ k, (∀ y0 y1, LeO (jsonparser_h2I.j0 k y0 y1) (jsonparser_h2I.j0 (k + 1) y0 y1)) ∧ (∀ y0 y1, LeO (jsonparser_h2I.j1 k y0 y1) (jsonparser_h2I.j1 (k + 1) y0 y1))
 | 0 => ⟨fun _ _ r h => by simp [jsonparser_h2I.j0] at h, fun _ _ r h => by simp [jsonparser_h2I.j1] at h⟩
 | k + 1 => by
  obtain ⟨ih0, ih1⟩ := jsonparser_h2I.mono_l k
  refine ⟨?_, ?_⟩
  ·intro y0 y1
   unfold jsonparser_h2I.j0
   repeat' first
   | (with_reducible exact ih0 _ _)
   | (with_reducible exact ih1 _ _)
   | (with_reducible exact LeO.refl _)
   | (with_reducible exact LeO.none _)
   | (with_reducible refine LeO.ite ?_ ?_)
   | (with_reducible refine LeO.bind ?_ (fun _ => ?_))
   | exact ih0 _ _
   | exact ih1 _ _
   | exact LeO.none _
   | refine LeO.ite ?_ ?_
   | refine LeO.bind ?_ (fun _ => ?_)
  ·intro y0 y1
   unfold jsonparser_h2I.j1
   repeat' first
   | (with_reducible exact ih0 _ _)
   | (with_reducible exact ih1 _ _)
   | (with_reducible exact LeO.refl _)
   | (with_reducible exact LeO.none _)
   | (with_reducible refine LeO.ite ?_ ?_)
   | (with_reducible refine LeO.bind ?_ (fun _ => ?_))
   | exact ih0 _ _
   | exact ih1 _ _
   | exact LeO.none _
   | refine LeO.ite ?_ ?_
   | refine LeO.bind ?_ (fun _ => ?_)
theorem jsonparser_h2I.mono : ∀ a0 k, LeO (jsonparser_h2I.f k a0) (jsonparser_h2I.f (k + 1) a0) := by
 intro a0 k
 obtain ⟨ih0, ih1⟩ := jsonparser_h2I.mono_l k
 unfold jsonparser_h2I.f
 repeat' first
  | (with_reducible exact ih0 _ _)
  | (with_reducible exact ih1 _ _)
  | (with_reducible exact LeO.refl _)
  | (with_reducible exact LeO.none _)
  | (with_reducible refine LeO.ite ?_ ?_)
  | (with_reducible refine LeO.bind ?_ (fun _ => ?_))
  | exact ih0 _ _
  | exact ih1 _ _
  | exact LeO.none _
  | refine LeO.ite ?_ ?_
  | refine LeO.bind ?_ (fun _ => ?_)
set_option maxHeartbeats 8000000 in
set_option maxRecDepth 100000 in
theorem jsonparser_h2I.calls (k : Nat) (a0 : Int) (r : Int) (w : World) (h : jsonparser_h2I.f k a0 = some r) :
 Calls Tryd.prog 85 #[.int .u8 a0] w fun e w' => e = .returned (.int .i64 r) ∧ Drawn0 w w' := by
 have H : (if a0 ≥ 48 then (jsonparser_h2I.j0 k a0 (decide (a0 ≤ 57))) else (jsonparser_h2I.j0 k a0 false)) = some r := h
 clear h
 have HC2 := mk0 H
 clear H
 go_enter Tryd.func85, Tryd.ntmps85
 go_upto_region 1 with (fail)
 go_cut [8] (fun v8 wc => ∃ (kq : Nat) (x8_1 : Bool), v8 = .bool x8_1 ∧ Aside0 (jsonparser_h2I.j0 kq a0 x8_1 = some r) ∧ Aside0 (kq ≤ k) ∧ Drawn0 w wc)
 case first =>
  have H := HC2.out
  clear HC2
  by_cases c3 : a0 ≥ 48
  rotate_left
  ·rw [if_neg c3] at H
   have c3b0 : decide (48 ≤ a0) = false := decide_eq_false c3
   clear c3
   (first | rw [c3b0] | (simp only [i64_w, i32_w]; rw [c3b0]) | skip)
   have H' := mk0 H
   clear H
   go_wp2
   go_meet
   case rel => exact ⟨_, (false), zq13, H', ⟨by first | omega | exact Nat.le_refl _⟩, by repeat (first | exact Drawn0.refl _ | apply Drawn0.step)⟩
  rw [if_pos c3] at H
  have c3b0 : decide (48 ≤ a0) = true := decide_eq_true c3
  clear c3
  (first | rw [c3b0] | (simp only [i64_w, i32_w]; rw [c3b0]) | skip)
  have H' := mk0 H
  clear H
  go_wp2
  go_meet
  case rel => exact ⟨_, (decide (a0 ≤ 57)), zq13, H', ⟨by first | omega | exact Nat.le_refl _⟩, by repeat (first | exact Drawn0.refl _ | apply Drawn0.step)⟩
 case rest =>
  clear HC2
  try clear p2
  try clear c3
  try clear c3b0
  obtain ⟨kq, x8_1, rfl, HA, HJ1, ⟨mc1, rfl⟩⟩ := hcut
  cases kq with
  | zero => exact absurd HA.out (by simp [jsonparser_h2I.j0])
  | succ kj1 =>
   have H := HA.out
   clear HA
   simp only [jsonparser_h2I.j0] at H
   by_cases c4 : x8_1 = true
   ·subst c4
    have H1 : (some ((a0 - 48) % 256)) = some r := by rw [if_pos rfl] at H; exact H
    clear H
    have H := H1
    clear H1
    obtain rfl := Option.some.inj H
    go_wp2
    go_ret
    exact ⟨by first | rfl | (simp; done) | (simp [*]; done), by repeat (first | exact Drawn0.refl _ | apply Drawn0.step)⟩
   replace c4 := Bool.eq_false_iff.mpr c4
   subst c4
   have H1 : (if a0 ≥ 65 then (jsonparser_h2I.j1 kj1 a0 (decide (a0 ≤ 70))) else (jsonparser_h2I.j1 kj1 a0 false)) = some r := by rw [if_neg (show ¬ (false = true) by decide)] at H; exact H
   clear H
   have H := H1
   clear H1
   have HC5 := mk0 H
   clear H
   go_upto_region 3 with (fail)
   go_cut [17] (fun v17 wc => ∃ (kq : Nat) (x17_4 : Bool), v17 = .bool x17_4 ∧ Aside0 (jsonparser_h2I.j1 kq a0 x17_4 = some r) ∧ Aside0 (kq ≤ kj1) ∧ Drawn0 w wc)
   case first =>
    have H := HC5.out
    clear HC5
    by_cases c6 : a0 ≥ 65
    rotate_left
    ·rw [if_neg c6] at H
     have c6b0 : decide (65 ≤ a0) = false := decide_eq_false c6
     clear c6
     (first | rw [c6b0] | (simp only [i64_w, i32_w]; rw [c6b0]) | skip)
     have H' := mk0 H
     clear H
     go_wp2
     go_meet
     case rel => exact ⟨_, (false), zq13, H', ⟨by have := HJ1.out; first | omega | exact Nat.le_refl _⟩, by repeat (first | exact Drawn0.refl _ | apply Drawn0.step)⟩
    rw [if_pos c6] at H
    have c6b0 : decide (65 ≤ a0) = true := decide_eq_true c6
    clear c6
    (first | rw [c6b0] | (simp only [i64_w, i32_w]; rw [c6b0]) | skip)
    have H' := mk0 H
    clear H
    go_wp2
    go_meet
    case rel => exact ⟨_, (decide (a0 ≤ 70)), zq13, H', ⟨by have := HJ1.out; first | omega | exact Nat.le_refl _⟩, by repeat (first | exact Drawn0.refl _ | apply Drawn0.step)⟩
   case rest =>
    clear HC5
    try clear c1
    try clear p2
    try clear c3
    try clear c3b0
    try clear c4
    try clear c6
    try clear c6b0
    try clear p2
    obtain ⟨kq, x17_4, rfl, HA, HJ4, ⟨mc4, rfl⟩⟩ := hcut
    cases kq with
    | zero => exact absurd HA.out (by simp [jsonparser_h2I.j1])
    | succ kj4 =>
     have H := HA.out
     clear HA
     simp only [jsonparser_h2I.j1] at H
     by_cases c7 : x17_4 = true
     ·subst c7
      have H1 : (some (((a0 - 65) % 256) + 10)) = some r := by rw [if_pos rfl] at H; exact H
      clear H
      have H := H1
      clear H1
      obtain rfl := Option.some.inj H
      go_wp2
      go_ret
      exact ⟨by first | rfl | (simp; done) | (simp [*]; done), by repeat (first | exact Drawn0.refl _ | apply Drawn0.step)⟩
     replace c7 := Bool.eq_false_iff.mpr c7
     subst c7
     have H1 : (if a0 ≥ 97 then (if a0 ≤ 102 then (some (((a0 - 97) % 256) + 10)) else (some (-1))) else (some (-1))) = some r := by rw [if_neg (show ¬ (false = true) by decide)] at H; exact H
     clear H
     have H := H1
     clear H1
     by_cases c8 : a0 ≥ 97
     rotate_left
     ·rw [if_neg c8] at H
      have c8b0 : decide (97 ≤ a0) = false := decide_eq_false c8
      clear c8
      obtain rfl := Option.some.inj H
      go_wp2
      go_ret
      exact ⟨by first | rfl | (simp; done) | (simp [*]; done), by repeat (first | exact Drawn0.refl _ | apply Drawn0.step)⟩
     rw [if_pos c8] at H
     have c8b0 : decide (97 ≤ a0) = true := decide_eq_true c8
     clear c8
     by_cases c9 : a0 ≤ 102
     ·rw [if_pos c9] at H
      have c9b0 : decide (a0 ≤ 102) = true := decide_eq_true c9
      clear c9
      obtain rfl := Option.some.inj H
      go_wp2
      go_ret
      exact ⟨by first | rfl | (simp; done) | (simp [*]; done), by repeat (first | exact Drawn0.refl _ | apply Drawn0.step)⟩
     rw [if_neg c9] at H
     have c9b0 : decide (a0 ≤ 102) = false := decide_eq_false c9
     clear c9
     obtain rfl := Option.some.inj H
     go_wp2
     go_ret
     exact ⟨by first | rfl | (simp; done) | (simp [*]; done), by repeat (first | exact Drawn0.refl _ | apply Drawn0.step)⟩
def jsonparser_decodeSingleUnicodeEscape.f (k : Nat) (l0 : List Int) : Option (Int × Bool) := if (l0.length : Int) < 6 then (some (65533, false)) else (if 2 < (l0.length : Int) then ((jsonparser_h2I.f k (rd l0 2)).bind fun t102 => (if 3 < (l0.length : Int) then ((jsonparser_h2I.f k (rd l0 3)).bind fun t104 => (if 4 < (l0.length : Int) then ((jsonparser_h2I.f k (rd l0 4)).bind fun t106 => (if 5 < (l0.length : Int) then ((jsonparser_h2I.f k (rd l0 5)).bind fun t108 => (if t102 = (-1) then (some (65533, false)) else (if t104 = (-1) then (some (65533, false)) else (if t106 = (-1) then (some (65533, false)) else (if t108 = (-1) then (some (65533, false)) else (some (wrap32 (wrap64 ((wrap64 ((wrap64 ((wrap64 (t102 * 4096)) + (wrap64 (t104 * 256)))) + (wrap64 (t106 * 16)))) + t108)), true))))))) else (none))) else (none))) else (none))) else (none))
theorem jsonparser_decodeSingleUnicodeEscape.mono : ∀ a0 k, LeO (jsonparser_decodeSingleUnicodeEscape.f k a0) (jsonparser_decodeSingleUnicodeEscape.f (k + 1) a0) := by
 intro a0 k
 unfold jsonparser_decodeSingleUnicodeEscape.f
 repeat' first
  | (with_reducible exact jsonparser_h2I.mono _ _)
  | (with_reducible exact LeO.refl _)
  | (with_reducible exact LeO.none _)
  | (with_reducible refine LeO.ite ?_ ?_)
  | (with_reducible refine LeO.bind ?_ (fun _ => ?_))
  | exact jsonparser_h2I.mono _ _
  | exact LeO.none _
  | refine LeO.ite ?_ ?_
  | refine LeO.bind ?_ (fun _ => ?_)
set_option maxHeartbeats 8000000 in
set_option maxRecDepth 100000 in
theorem jsonparser_decodeSingleUnicodeEscape.calls (k : Nat) (A0 : Option Addr) (c0 : Nat) (l0 : List Int) (r1 : Int) (r2 : Bool) (w : World) (hr0 : Kd.C (Kd.int .u8) w A0 l0.length l0) (hc0 : l0.length ≤ c0) (h : jsonparser_decodeSingleUnicodeEscape.f k l0 = some (r1, r2)) :
 Calls Tryd.prog 80 #[.slice A0 l0.length c0] w fun e w' => e = .returned (.tuple #[.int .i32 r1, .bool r2]) ∧ Drawn0 w w' := by
 have HR0 := mk0 hr0
 have HC0 := mk0 hc0
 clear hr0 hc0
 have H : (if (l0.length : Int) < 6 then (some (65533, false)) else (if 2 < (l0.length : Int) then ((jsonparser_h2I.f k (rd l0 2)).bind fun t102 => (if 3 < (l0.length : Int) then ((jsonparser_h2I.f k (rd l0 3)).bind fun t104 => (if 4 < (l0.length : Int) then ((jsonparser_h2I.f k (rd l0 4)).bind fun t106 => (if 5 < (l0.length : Int) then ((jsonparser_h2I.f k (rd l0 5)).bind fun t108 => (if t102 = (-1) then (some (65533, false)) else (if t104 = (-1) then (some (65533, false)) else (if t106 = (-1) then (some (65533, false)) else (if t108 = (-1) then (some (65533, false)) else (some (wrap32 (wrap64 ((wrap64 ((wrap64 ((wrap64 (t102 * 4096)) + (wrap64 (t104 * 256)))) + (wrap64 (t106 * 16)))) + t108)), true))))))) else (none))) else (none))) else (none))) else (none))) = some (r1, r2) := h
 clear h
 by_cases c2 : (l0.length : Int) < 6
 ·rw [if_pos c2] at H
  have c2b0 : decide ((l0.length : Int) < 6) = true := decide_eq_true c2
  have c2b1 : decide (l0.length < 6) = true := decide_eq_true (by omega)
  clear c2
  simp only [Option.some.injEq, Prod.mk.injEq] at H
  obtain ⟨rfl, rfl⟩ := H
  go_enter Tryd.func80, Tryd.ntmps80
  go_wp2
  repeat (go_quiet (fail); try go_wp2)
  go_ret2
  exact ⟨by first | rfl | (simp; done) | (simp [*]; done), by repeat (first | exact Drawn0.refl _ | apply Drawn0.step)⟩
 rw [if_neg c2] at H
 have c2b0 : decide ((l0.length : Int) < 6) = false := decide_eq_false c2
 have c2b1 : decide (l0.length < 6) = false := decide_eq_false (by omega)
 clear c2
 by_cases c3 : 2 < (l0.length : Int)
 rotate_left
 ·rw [if_neg c3] at H
  exact absurd H (by simp)
 rw [if_pos c3] at H
 have c3b0 : decide (2 < (l0.length : Int)) = true := decide_eq_true c3
 have c3b1 : decide (2 < l0.length) = true := decide_eq_true (by omega)
 clear c3
 replace H := Option.bind_eq_some_iff.mp H
 obtain ⟨t102, A40, H⟩ := H
 replace H : (if 3 < (l0.length : Int) then ((jsonparser_h2I.f k (rd l0 3)).bind fun t104 => (if 4 < (l0.length : Int) then ((jsonparser_h2I.f k (rd l0 4)).bind fun t106 => (if 5 < (l0.length : Int) then ((jsonparser_h2I.f k (rd l0 5)).bind fun t108 => (if t102 = (-1) then (some (65533, false)) else (if t104 = (-1) then (some (65533, false)) else (if t106 = (-1) then (some (65533, false)) else (if t108 = (-1) then (some (65533, false)) else (some (wrap32 (wrap64 ((wrap64 ((wrap64 ((wrap64 (t102 * 4096)) + (wrap64 (t104 * 256)))) + (wrap64 (t106 * 16)))) + t108)), true))))))) else (none))) else (none))) else (none)) = some (r1, r2) := H
 have A4 := mk0 A40
 clear A40
 by_cases c5 : 3 < (l0.length : Int)
 rotate_left
 ·rw [if_neg c5] at H
  exact absurd H (by simp)
 rw [if_pos c5] at H
 have c5b0 : decide (3 < (l0.length : Int)) = true := decide_eq_true c5
 have c5b1 : decide (3 < l0.length) = true := decide_eq_true (by omega)
 clear c5
 replace H := Option.bind_eq_some_iff.mp H
 obtain ⟨t104, A60, H⟩ := H
 replace H : (if 4 < (l0.length : Int) then ((jsonparser_h2I.f k (rd l0 4)).bind fun t106 => (if 5 < (l0.length : Int) then ((jsonparser_h2I.f k (rd l0 5)).bind fun t108 => (if t102 = (-1) then (some (65533, false)) else (if t104 = (-1) then (some (65533, false)) else (if t106 = (-1) then (some (65533, false)) else (if t108 = (-1) then (some (65533, false)) else (some (wrap32 (wrap64 ((wrap64 ((wrap64 ((wrap64 (t102 * 4096)) + (wrap64 (t104 * 256)))) + (wrap64 (t106 * 16)))) + t108)), true))))))) else (none))) else (none)) = some (r1, r2) := H
 have A6 := mk0 A60
 clear A60
 by_cases c7 : 4 < (l0.length : Int)
 rotate_left
 ·rw [if_neg c7] at H
  exact absurd H (by simp)
 rw [if_pos c7] at H
 have c7b0 : decide (4 < (l0.length : Int)) = true := decide_eq_true c7
 have c7b1 : decide (4 < l0.length) = true := decide_eq_true (by omega)
 clear c7
 replace H := Option.bind_eq_some_iff.mp H
 obtain ⟨t106, A80, H⟩ := H
 replace H : (if 5 < (l0.length : Int) then ((jsonparser_h2I.f k (rd l0 5)).bind fun t108 => (if t102 = (-1) then (some (65533, false)) else (if t104 = (-1) then (some (65533, false)) else (if t106 = (-1) then (some (65533, false)) else (if t108 = (-1) then (some (65533, false)) else (some (wrap32 (wrap64 ((wrap64 ((wrap64 ((wrap64 (t102 * 4096)) + (wrap64 (t104 * 256)))) + (wrap64 (t106 * 16)))) + t108)), true))))))) else (none)) = some (r1, r2) := H
 have A8 := mk0 A80
 clear A80
 by_cases c9 : 5 < (l0.length : Int)
 rotate_left
 ·rw [if_neg c9] at H
  exact absurd H (by simp)
 rw [if_pos c9] at H
 have c9b0 : decide (5 < (l0.length : Int)) = true := decide_eq_true c9
 have c9b1 : decide (5 < l0.length) = true := decide_eq_true (by omega)
 clear c9
 replace H := Option.bind_eq_some_iff.mp H
 obtain ⟨t108, A100, H⟩ := H
 replace H : (if t102 = (-1) then (some (65533, false)) else (if t104 = (-1) then (some (65533, false)) else (if t106 = (-1) then (some (65533, false)) else (if t108 = (-1) then (some (65533, false)) else (some (wrap32 (wrap64 ((wrap64 ((wrap64 ((wrap64 (t102 * 4096)) + (wrap64 (t104 * 256)))) + (wrap64 (t106 * 16)))) + t108)), true)))))) = some (r1, r2) := H
 have A10 := mk0 A100
 clear A100
 by_cases c11 : t102 = (-1)
 ·rw [if_pos c11] at H
  have c11b0 : (t102 == (-1)) = true := beq_iff_eq.mpr c11
  have c11b1 : (t102 != (-1)) = false := bne_eq_false_iff_eq.mpr c11
  clear c11
  simp only [Option.some.injEq, Prod.mk.injEq] at H
  obtain ⟨rfl, rfl⟩ := H
  have p101 : 0 ≤ (2 : Int) := (by omega)
  have q101 : 2 < (l0.length : Int) := of_decide_eq_true zq9
  obtain ⟨ad101, e101, hx101_0⟩ := Kd.at_int HR0.out 2 p101 q101
  cases e101
  (try simp only [show (2 : Int).toNat = 2 from rfl, Nat.reduceMul, Nat.reduceEqDiff, Go.Addr.add, ↓reduceIte] at hx101_0)
  have qi101 : (2 < l0.length) = True := eq_true (by omega)
  (try rw [show ((2 : Int)).toNat = 2 from rfl] at hx101_0)
  replace p101 := eq_true p101
  replace q101 := eq_true q101
  go_enter Tryd.func80, Tryd.ntmps80
  go_wp2_with (first | (go_at_call 85; (with_reducible refine (jsonparser_h2I.calls k (rd l0 2) t102 _ A4.out).mono ?_); rintro e w' ⟨rfl, ⟨nd, rfl⟩⟩; (try first | exact ⟨rfl, _, World.drewN_drewN _ _ _⟩ | exact ⟨rfl, _, Eq.trans (World.drewN_drewN _ _ _) (congrArg (World.drewN _) (Nat.add_assoc _ _ _))⟩); have p103 : 0 ≤ (3 : Int) := (by omega); have q103 : 3 < (l0.length : Int) := of_decide_eq_true zq9; obtain ⟨ad103, e103, hx103_0⟩ := Kd.at_int HR0.out 3 p103 q103; obtain rfl : ad101 = ad103 := zq70; (try simp only [show (3 : Int).toNat = 3 from rfl, Nat.reduceMul, Nat.reduceEqDiff, Go.Addr.add, ↓reduceIte] at hx103_0); have qi103 : (3 < l0.length) = True := eq_true (by omega); (try rw [show ((3 : Int)).toNat = 3 from rfl] at hx103_0); replace p103 := eq_true p103; replace q103 := eq_true q103) | (go_at_call 85; (with_reducible refine (jsonparser_h2I.calls k (rd l0 3) t104 _ A6.out).mono ?_); rintro e w' ⟨rfl, ⟨nd, rfl⟩⟩; (try first | exact ⟨rfl, _, World.drewN_drewN _ _ _⟩ | exact ⟨rfl, _, Eq.trans (World.drewN_drewN _ _ _) (congrArg (World.drewN _) (Nat.add_assoc _ _ _))⟩); have p105 : 0 ≤ (4 : Int) := (by omega); have q105 : 4 < (l0.length : Int) := of_decide_eq_true zq9; obtain ⟨ad105, e105, hx105_0⟩ := Kd.at_int HR0.out 4 p105 q105; obtain rfl : ad101 = ad105 := zq68; (try simp only [show (4 : Int).toNat = 4 from rfl, Nat.reduceMul, Nat.reduceEqDiff, Go.Addr.add, ↓reduceIte] at hx105_0); have qi105 : (4 < l0.length) = True := eq_true (by omega); (try rw [show ((4 : Int)).toNat = 4 from rfl] at hx105_0); replace p105 := eq_true p105; replace q105 := eq_true q105) | (go_at_call 85; (with_reducible refine (jsonparser_h2I.calls k (rd l0 4) t106 _ A8.out).mono ?_); rintro e w' ⟨rfl, ⟨nd, rfl⟩⟩; (try first | exact ⟨rfl, _, World.drewN_drewN _ _ _⟩ | exact ⟨rfl, _, Eq.trans (World.drewN_drewN _ _ _) (congrArg (World.drewN _) (Nat.add_assoc _ _ _))⟩); have p107 : 0 ≤ (5 : Int) := (by omega); have q107 : 5 < (l0.length : Int) := of_decide_eq_true zq9; obtain ⟨ad107, e107, hx107_0⟩ := Kd.at_int HR0.out 5 p107 q107; obtain rfl : ad101 = ad107 := zq71; (try simp only [show (5 : Int).toNat = 5 from rfl, Nat.reduceMul, Nat.reduceEqDiff, Go.Addr.add, ↓reduceIte] at hx107_0); have qi107 : (5 < l0.length) = True := eq_true (by omega); (try rw [show ((5 : Int)).toNat = 5 from rfl] at hx107_0); replace p107 := eq_true p107; replace q107 := eq_true q107) | (go_at_call 85; (with_reducible refine (jsonparser_h2I.calls k (rd l0 5) t108 _ A10.out).mono ?_); rintro e w' ⟨rfl, ⟨nd, rfl⟩⟩; (try first | exact ⟨rfl, _, World.drewN_drewN _ _ _⟩ | exact ⟨rfl, _, Eq.trans (World.drewN_drewN _ _ _) (congrArg (World.drewN _) (Nat.add_assoc _ _ _))⟩)))
  repeat (go_quiet (first | (go_at_call 85; (with_reducible refine (jsonparser_h2I.calls k (rd l0 2) t102 _ A4.out).mono ?_); rintro e w' ⟨rfl, ⟨nd, rfl⟩⟩; (try first | exact ⟨rfl, _, World.drewN_drewN _ _ _⟩ | exact ⟨rfl, _, Eq.trans (World.drewN_drewN _ _ _) (congrArg (World.drewN _) (Nat.add_assoc _ _ _))⟩); have p103 : 0 ≤ (3 : Int) := (by omega); have q103 : 3 < (l0.length : Int) := of_decide_eq_true zq9; obtain ⟨ad103, e103, hx103_0⟩ := Kd.at_int HR0.out 3 p103 q103; obtain rfl : ad101 = ad103 := zq70; (try simp only [show (3 : Int).toNat = 3 from rfl, Nat.reduceMul, Nat.reduceEqDiff, Go.Addr.add, ↓reduceIte] at hx103_0); have qi103 : (3 < l0.length) = True := eq_true (by omega); (try rw [show ((3 : Int)).toNat = 3 from rfl] at hx103_0); replace p103 := eq_true p103; replace q103 := eq_true q103) | (go_at_call 85; (with_reducible refine (jsonparser_h2I.calls k (rd l0 3) t104 _ A6.out).mono ?_); rintro e w' ⟨rfl, ⟨nd, rfl⟩⟩; (try first | exact ⟨rfl, _, World.drewN_drewN _ _ _⟩ | exact ⟨rfl, _, Eq.trans (World.drewN_drewN _ _ _) (congrArg (World.drewN _) (Nat.add_assoc _ _ _))⟩); have p105 : 0 ≤ (4 : Int) := (by omega); have q105 : 4 < (l0.length : Int) := of_decide_eq_true zq9; obtain ⟨ad105, e105, hx105_0⟩ := Kd.at_int HR0.out 4 p105 q105; obtain rfl : ad101 = ad105 := zq68; (try simp only [show (4 : Int).toNat = 4 from rfl, Nat.reduceMul, Nat.reduceEqDiff, Go.Addr.add, ↓reduceIte] at hx105_0); have qi105 : (4 < l0.length) = True := eq_true (by omega); (try rw [show ((4 : Int)).toNat = 4 from rfl] at hx105_0); replace p105 := eq_true p105; replace q105 := eq_true q105) | (go_at_call 85; (with_reducible refine (jsonparser_h2I.calls k (rd l0 4) t106 _ A8.out).mono ?_); rintro e w' ⟨rfl, ⟨nd, rfl⟩⟩; (try first | exact ⟨rfl, _, World.drewN_drewN _ _ _⟩ | exact ⟨rfl, _, Eq.trans (World.drewN_drewN _ _ _) (congrArg (World.drewN _) (Nat.add_assoc _ _ _))⟩); have p107 : 0 ≤ (5 : Int) := (by omega); have q107 : 5 < (l0.length : Int) := of_decide_eq_true zq9; obtain ⟨ad107, e107, hx107_0⟩ := Kd.at_int HR0.out 5 p107 q107; obtain rfl : ad101 = ad107 := zq71; (try simp only [show (5 : Int).toNat = 5 from rfl, Nat.reduceMul, Nat.reduceEqDiff, Go.Addr.add, ↓reduceIte] at hx107_0); have qi107 : (5 < l0.length) = True := eq_true (by omega); (try rw [show ((5 : Int)).toNat = 5 from rfl] at hx107_0); replace p107 := eq_true p107; replace q107 := eq_true q107) | (go_at_call 85; (with_reducible refine (jsonparser_h2I.calls k (rd l0 5) t108 _ A10.out).mono ?_); rintro e w' ⟨rfl, ⟨nd, rfl⟩⟩; (try first | exact ⟨rfl, _, World.drewN_drewN _ _ _⟩ | exact ⟨rfl, _, Eq.trans (World.drewN_drewN _ _ _) (congrArg (World.drewN _) (Nat.add_assoc _ _ _))⟩))); try go_wp2_with (first | (go_at_call 85; (with_reducible refine (jsonparser_h2I.calls k (rd l0 2) t102 _ A4.out).mono ?_); rintro e w' ⟨rfl, ⟨nd, rfl⟩⟩; (try first | exact ⟨rfl, _, World.drewN_drewN _ _ _⟩ | exact ⟨rfl, _, Eq.trans (World.drewN_drewN _ _ _) (congrArg (World.drewN _) (Nat.add_assoc _ _ _))⟩); have p103 : 0 ≤ (3 : Int) := (by omega); have q103 : 3 < (l0.length : Int) := of_decide_eq_true zq9; obtain ⟨ad103, e103, hx103_0⟩ := Kd.at_int HR0.out 3 p103 q103; obtain rfl : ad101 = ad103 := zq70; (try simp only [show (3 : Int).toNat = 3 from rfl, Nat.reduceMul, Nat.reduceEqDiff, Go.Addr.add, ↓reduceIte] at hx103_0); have qi103 : (3 < l0.length) = True := eq_true (by omega); (try rw [show ((3 : Int)).toNat = 3 from rfl] at hx103_0); replace p103 := eq_true p103; replace q103 := eq_true q103) | (go_at_call 85; (with_reducible refine (jsonparser_h2I.calls k (rd l0 3) t104 _ A6.out).mono ?_); rintro e w' ⟨rfl, ⟨nd, rfl⟩⟩; (try first | exact ⟨rfl, _, World.drewN_drewN _ _ _⟩ | exact ⟨rfl, _, Eq.trans (World.drewN_drewN _ _ _) (congrArg (World.drewN _) (Nat.add_assoc _ _ _))⟩); have p105 : 0 ≤ (4 : Int) := (by omega); have q105 : 4 < (l0.length : Int) := of_decide_eq_true zq9; obtain ⟨ad105, e105, hx105_0⟩ := Kd.at_int HR0.out 4 p105 q105; obtain rfl : ad101 = ad105 := zq68; (try simp only [show (4 : Int).toNat = 4 from rfl, Nat.reduceMul, Nat.reduceEqDiff, Go.Addr.add, ↓reduceIte] at hx105_0); have qi105 : (4 < l0.length) = True := eq_true (by omega); (try rw [show ((4 : Int)).toNat = 4 from rfl] at hx105_0); replace p105 := eq_true p105; replace q105 := eq_true q105) | (go_at_call 85; (with_reducible refine (jsonparser_h2I.calls k (rd l0 4) t106 _ A8.out).mono ?_); rintro e w' ⟨rfl, ⟨nd, rfl⟩⟩; (try first | exact ⟨rfl, _, World.drewN_drewN _ _ _⟩ | exact ⟨rfl, _, Eq.trans (World.drewN_drewN _ _ _) (congrArg (World.drewN _) (Nat.add_assoc _ _ _))⟩); have p107 : 0 ≤ (5 : Int) := (by omega); have q107 : 5 < (l0.length : Int) := of_decide_eq_true zq9; obtain ⟨ad107, e107, hx107_0⟩ := Kd.at_int HR0.out 5 p107 q107; obtain rfl : ad101 = ad107 := zq71; (try simp only [show (5 : Int).toNat = 5 from rfl, Nat.reduceMul, Nat.reduceEqDiff, Go.Addr.add, ↓reduceIte] at hx107_0); have qi107 : (5 < l0.length) = True := eq_true (by omega); (try rw [show ((5 : Int)).toNat = 5 from rfl] at hx107_0); replace p107 := eq_true p107; replace q107 := eq_true q107) | (go_at_call 85; (with_reducible refine (jsonparser_h2I.calls k (rd l0 5) t108 _ A10.out).mono ?_); rintro e w' ⟨rfl, ⟨nd, rfl⟩⟩; (try first | exact ⟨rfl, _, World.drewN_drewN _ _ _⟩ | exact ⟨rfl, _, Eq.trans (World.drewN_drewN _ _ _) (congrArg (World.drewN _) (Nat.add_assoc _ _ _))⟩))))
  go_ret2
  exact ⟨by first | rfl | (simp; done) | (simp [*]; done), by repeat (first | exact Drawn0.refl _ | apply Drawn0.step)⟩
 rw [if_neg c11] at H
 have c11b0 : (t102 == (-1)) = false := beq_eq_false_iff_ne.mpr c11
 have c11b1 : (t102 != (-1)) = true := bne_iff_ne.mpr c11
 by_cases c12 : t104 = (-1)
 ·rw [if_pos c12] at H
  have c12b0 : (t104 == (-1)) = true := beq_iff_eq.mpr c12
  have c12b1 : (t104 != (-1)) = false := bne_eq_false_iff_eq.mpr c12
  clear c12
  simp only [Option.some.injEq, Prod.mk.injEq] at H
  obtain ⟨rfl, rfl⟩ := H
  have p101 : 0 ≤ (2 : Int) := (by omega)
  have q101 : 2 < (l0.length : Int) := of_decide_eq_true zq9
  obtain ⟨ad101, e101, hx101_0⟩ := Kd.at_int HR0.out 2 p101 q101
  cases e101
  (try simp only [show (2 : Int).toNat = 2 from rfl, Nat.reduceMul, Nat.reduceEqDiff, Go.Addr.add, ↓reduceIte] at hx101_0)
  have qi101 : (2 < l0.length) = True := eq_true (by omega)
  (try rw [show ((2 : Int)).toNat = 2 from rfl] at hx101_0)
  replace p101 := eq_true p101
  replace q101 := eq_true q101
  go_enter Tryd.func80, Tryd.ntmps80
  go_wp2_with (first | (go_at_call 85; (with_reducible refine (jsonparser_h2I.calls k (rd l0 2) t102 _ A4.out).mono ?_); rintro e w' ⟨rfl, ⟨nd, rfl⟩⟩; (try first | exact ⟨rfl, _, World.drewN_drewN _ _ _⟩ | exact ⟨rfl, _, Eq.trans (World.drewN_drewN _ _ _) (congrArg (World.drewN _) (Nat.add_assoc _ _ _))⟩); have p103 : 0 ≤ (3 : Int) := (by omega); have q103 : 3 < (l0.length : Int) := of_decide_eq_true zq9; obtain ⟨ad103, e103, hx103_0⟩ := Kd.at_int HR0.out 3 p103 q103; obtain rfl : ad101 = ad103 := zq70; (try simp only [show (3 : Int).toNat = 3 from rfl, Nat.reduceMul, Nat.reduceEqDiff, Go.Addr.add, ↓reduceIte] at hx103_0); have qi103 : (3 < l0.length) = True := eq_true (by omega); (try rw [show ((3 : Int)).toNat = 3 from rfl] at hx103_0); replace p103 := eq_true p103; replace q103 := eq_true q103) | (go_at_call 85; (with_reducible refine (jsonparser_h2I.calls k (rd l0 3) t104 _ A6.out).mono ?_); rintro e w' ⟨rfl, ⟨nd, rfl⟩⟩; (try first | exact ⟨rfl, _, World.drewN_drewN _ _ _⟩ | exact ⟨rfl, _, Eq.trans (World.drewN_drewN _ _ _) (congrArg (World.drewN _) (Nat.add_assoc _ _ _))⟩); have p105 : 0 ≤ (4 : Int) := (by omega); have q105 : 4 < (l0.length : Int) := of_decide_eq_true zq9; obtain ⟨ad105, e105, hx105_0⟩ := Kd.at_int HR0.out 4 p105 q105; obtain rfl : ad101 = ad105 := zq68; (try simp only [show (4 : Int).toNat = 4 from rfl, Nat.reduceMul, Nat.reduceEqDiff, Go.Addr.add, ↓reduceIte] at hx105_0); have qi105 : (4 < l0.length) = True := eq_true (by omega); (try rw [show ((4 : Int)).toNat = 4 from rfl] at hx105_0); replace p105 := eq_true p105; replace q105 := eq_true q105) | (go_at_call 85; (with_reducible refine (jsonparser_h2I.calls k (rd l0 4) t106 _ A8.out).mono ?_); rintro e w' ⟨rfl, ⟨nd, rfl⟩⟩; (try first | exact ⟨rfl, _, World.drewN_drewN _ _ _⟩ | exact ⟨rfl, _, Eq.trans (World.drewN_drewN _ _ _) (congrArg (World.drewN _) (Nat.add_assoc _ _ _))⟩); have p107 : 0 ≤ (5 : Int) := (by omega); have q107 : 5 < (l0.length : Int) := of_decide_eq_true zq9; obtain ⟨ad107, e107, hx107_0⟩ := Kd.at_int HR0.out 5 p107 q107; obtain rfl : ad101 = ad107 := zq71; (try simp only [show (5 : Int).toNat = 5 from rfl, Nat.reduceMul, Nat.reduceEqDiff, Go.Addr.add, ↓reduceIte] at hx107_0); have qi107 : (5 < l0.length) = True := eq_true (by omega); (try rw [show ((5 : Int)).toNat = 5 from rfl] at hx107_0); replace p107 := eq_true p107; replace q107 := eq_true q107) | (go_at_call 85; (with_reducible refine (jsonparser_h2I.calls k (rd l0 5) t108 _ A10.out).mono ?_); rintro e w' ⟨rfl, ⟨nd, rfl⟩⟩; (try first | exact ⟨rfl, _, World.drewN_drewN _ _ _⟩ | exact ⟨rfl, _, Eq.trans (World.drewN_drewN _ _ _) (congrArg (World.drewN _) (Nat.add_assoc _ _ _))⟩)))
  repeat (go_quiet (first | (go_at_call 85; (with_reducible refine (jsonparser_h2I.calls k (rd l0 2) t102 _ A4.out).mono ?_); rintro e w' ⟨rfl, ⟨nd, rfl⟩⟩; (try first | exact ⟨rfl, _, World.drewN_drewN _ _ _⟩ | exact ⟨rfl, _, Eq.trans (World.drewN_drewN _ _ _) (congrArg (World.drewN _) (Nat.add_assoc _ _ _))⟩); have p103 : 0 ≤ (3 : Int) := (by omega); have q103 : 3 < (l0.length : Int) := of_decide_eq_true zq9; obtain ⟨ad103, e103, hx103_0⟩ := Kd.at_int HR0.out 3 p103 q103; obtain rfl : ad101 = ad103 := zq70; (try simp only [show (3 : Int).toNat = 3 from rfl, Nat.reduceMul, Nat.reduceEqDiff, Go.Addr.add, ↓reduceIte] at hx103_0); have qi103 : (3 < l0.length) = True := eq_true (by omega); (try rw [show ((3 : Int)).toNat = 3 from rfl] at hx103_0); replace p103 := eq_true p103; replace q103 := eq_true q103) | (go_at_call 85; (with_reducible refine (jsonparser_h2I.calls k (rd l0 3) t104 _ A6.out).mono ?_); rintro e w' ⟨rfl, ⟨nd, rfl⟩⟩; (try first | exact ⟨rfl, _, World.drewN_drewN _ _ _⟩ | exact ⟨rfl, _, Eq.trans (World.drewN_drewN _ _ _) (congrArg (World.drewN _) (Nat.add_assoc _ _ _))⟩); have p105 : 0 ≤ (4 : Int) := (by omega); have q105 : 4 < (l0.length : Int) := of_decide_eq_true zq9; obtain ⟨ad105, e105, hx105_0⟩ := Kd.at_int HR0.out 4 p105 q105; obtain rfl : ad101 = ad105 := zq68; (try simp only [show (4 : Int).toNat = 4 from rfl, Nat.reduceMul, Nat.reduceEqDiff, Go.Addr.add, ↓reduceIte] at hx105_0); have qi105 : (4 < l0.length) = True := eq_true (by omega); (try rw [show ((4 : Int)).toNat = 4 from rfl] at hx105_0); replace p105 := eq_true p105; replace q105 := eq_true q105) | (go_at_call 85; (with_reducible refine (jsonparser_h2I.calls k (rd l0 4) t106 _ A8.out).mono ?_); rintro e w' ⟨rfl, ⟨nd, rfl⟩⟩; (try first | exact ⟨rfl, _, World.drewN_drewN _ _ _⟩ | exact ⟨rfl, _, Eq.trans (World.drewN_drewN _ _ _) (congrArg (World.drewN _) (Nat.add_assoc _ _ _))⟩); have p107 : 0 ≤ (5 : Int) := (by omega); have q107 : 5 < (l0.length : Int) := of_decide_eq_true zq9; obtain ⟨ad107, e107, hx107_0⟩ := Kd.at_int HR0.out 5 p107 q107; obtain rfl : ad101 = ad107 := zq71; (try simp only [show (5 : Int).toNat = 5 from rfl, Nat.reduceMul, Nat.reduceEqDiff, Go.Addr.add, ↓reduceIte] at hx107_0); have qi107 : (5 < l0.length) = True := eq_true (by omega); (try rw [show ((5 : Int)).toNat = 5 from rfl] at hx107_0); replace p107 := eq_true p107; replace q107 := eq_true q107) | (go_at_call 85; (with_reducible refine (jsonparser_h2I.calls k (rd l0 5) t108 _ A10.out).mono ?_); rintro e w' ⟨rfl, ⟨nd, rfl⟩⟩; (try first | exact ⟨rfl, _, World.drewN_drewN _ _ _⟩ | exact ⟨rfl, _, Eq.trans (World.drewN_drewN _ _ _) (congrArg (World.drewN _) (Nat.add_assoc _ _ _))⟩))); try go_wp2_with (first | (go_at_call 85; (with_reducible refine (jsonparser_h2I.calls k (rd l0 2) t102 _ A4.out).mono ?_); rintro e w' ⟨rfl, ⟨nd, rfl⟩⟩; (try first | exact ⟨rfl, _, World.drewN_drewN _ _ _⟩ | exact ⟨rfl, _, Eq.trans (World.drewN_drewN _ _ _) (congrArg (World.drewN _) (Nat.add_assoc _ _ _))⟩); have p103 : 0 ≤ (3 : Int) := (by omega); have q103 : 3 < (l0.length : Int) := of_decide_eq_true zq9; obtain ⟨ad103, e103, hx103_0⟩ := Kd.at_int HR0.out 3 p103 q103; obtain rfl : ad101 = ad103 := zq70; (try simp only [show (3 : Int).toNat = 3 from rfl, Nat.reduceMul, Nat.reduceEqDiff, Go.Addr.add, ↓reduceIte] at hx103_0); have qi103 : (3 < l0.length) = True := eq_true (by omega); (try rw [show ((3 : Int)).toNat = 3 from rfl] at hx103_0); replace p103 := eq_true p103; replace q103 := eq_true q103) | (go_at_call 85; (with_reducible refine (jsonparser_h2I.calls k (rd l0 3) t104 _ A6.out).mono ?_); rintro e w' ⟨rfl, ⟨nd, rfl⟩⟩; (try first | exact ⟨rfl, _, World.drewN_drewN _ _ _⟩ | exact ⟨rfl, _, Eq.trans (World.drewN_drewN _ _ _) (congrArg (World.drewN _) (Nat.add_assoc _ _ _))⟩); have p105 : 0 ≤ (4 : Int) := (by omega); have q105 : 4 < (l0.length : Int) := of_decide_eq_true zq9; obtain ⟨ad105, e105, hx105_0⟩ := Kd.at_int HR0.out 4 p105 q105; obtain rfl : ad101 = ad105 := zq68; (try simp only [show (4 : Int).toNat = 4 from rfl, Nat.reduceMul, Nat.reduceEqDiff, Go.Addr.add, ↓reduceIte] at hx105_0); have qi105 : (4 < l0.length) = True := eq_true (by omega); (try rw [show ((4 : Int)).toNat = 4 from rfl] at hx105_0); replace p105 := eq_true p105; replace q105 := eq_true q105) | (go_at_call 85; (with_reducible refine (jsonparser_h2I.calls k (rd l0 4) t106 _ A8.out).mono ?_); rintro e w' ⟨rfl, ⟨nd, rfl⟩⟩; (try first | exact ⟨rfl, _, World.drewN_drewN _ _ _⟩ | exact ⟨rfl, _, Eq.trans (World.drewN_drewN _ _ _) (congrArg (World.drewN _) (Nat.add_assoc _ _ _))⟩); have p107 : 0 ≤ (5 : Int) := (by omega); have q107 : 5 < (l0.length : Int) := of_decide_eq_true zq9; obtain ⟨ad107, e107, hx107_0⟩ := Kd.at_int HR0.out 5 p107 q107; obtain rfl : ad101 = ad107 := zq71; (try simp only [show (5 : Int).toNat = 5 from rfl, Nat.reduceMul, Nat.reduceEqDiff, Go.Addr.add, ↓reduceIte] at hx107_0); have qi107 : (5 < l0.length) = True := eq_true (by omega); (try rw [show ((5 : Int)).toNat = 5 from rfl] at hx107_0); replace p107 := eq_true p107; replace q107 := eq_true q107) | (go_at_call 85; (with_reducible refine (jsonparser_h2I.calls k (rd l0 5) t108 _ A10.out).mono ?_); rintro e w' ⟨rfl, ⟨nd, rfl⟩⟩; (try first | exact ⟨rfl, _, World.drewN_drewN _ _ _⟩ | exact ⟨rfl, _, Eq.trans (World.drewN_drewN _ _ _) (congrArg (World.drewN _) (Nat.add_assoc _ _ _))⟩))))
  go_ret2
  exact ⟨by first | rfl | (simp; done) | (simp [*]; done), by repeat (first | exact Drawn0.refl _ | apply Drawn0.step)⟩
 rw [if_neg c12] at H
 have c12b0 : (t104 == (-1)) = false := beq_eq_false_iff_ne.mpr c12
 have c12b1 : (t104 != (-1)) = true := bne_iff_ne.mpr c12
 by_cases c13 : t106 = (-1)
 ·rw [if_pos c13] at H
  have c13b0 : (t106 == (-1)) = true := beq_iff_eq.mpr c13
  have c13b1 : (t106 != (-1)) = false := bne_eq_false_iff_eq.mpr c13
  clear c13
  simp only [Option.some.injEq, Prod.mk.injEq] at H
  obtain ⟨rfl, rfl⟩ := H
  have p101 : 0 ≤ (2 : Int) := (by omega)
  have q101 : 2 < (l0.length : Int) := of_decide_eq_true zq9
  obtain ⟨ad101, e101, hx101_0⟩ := Kd.at_int HR0.out 2 p101 q101
  cases e101
  (try simp only [show (2 : Int).toNat = 2 from rfl, Nat.reduceMul, Nat.reduceEqDiff, Go.Addr.add, ↓reduceIte] at hx101_0)
  have qi101 : (2 < l0.length) = True := eq_true (by omega)
  (try rw [show ((2 : Int)).toNat = 2 from rfl] at hx101_0)
  replace p101 := eq_true p101
  replace q101 := eq_true q101
  go_enter Tryd.func80, Tryd.ntmps80
  go_wp2_with (first | (go_at_call 85; (with_reducible refine (jsonparser_h2I.calls k (rd l0 2) t102 _ A4.out).mono ?_); rintro e w' ⟨rfl, ⟨nd, rfl⟩⟩; (try first | exact ⟨rfl, _, World.drewN_drewN _ _ _⟩ | exact ⟨rfl, _, Eq.trans (World.drewN_drewN _ _ _) (congrArg (World.drewN _) (Nat.add_assoc _ _ _))⟩); have p103 : 0 ≤ (3 : Int) := (by omega); have q103 : 3 < (l0.length : Int) := of_decide_eq_true zq9; obtain ⟨ad103, e103, hx103_0⟩ := Kd.at_int HR0.out 3 p103 q103; obtain rfl : ad101 = ad103 := zq70; (try simp only [show (3 : Int).toNat = 3 from rfl, Nat.reduceMul, Nat.reduceEqDiff, Go.Addr.add, ↓reduceIte] at hx103_0); have qi103 : (3 < l0.length) = True := eq_true (by omega); (try rw [show ((3 : Int)).toNat = 3 from rfl] at hx103_0); replace p103 := eq_true p103; replace q103 := eq_true q103) | (go_at_call 85; (with_reducible refine (jsonparser_h2I.calls k (rd l0 3) t104 _ A6.out).mono ?_); rintro e w' ⟨rfl, ⟨nd, rfl⟩⟩; (try first | exact ⟨rfl, _, World.drewN_drewN _ _ _⟩ | exact ⟨rfl, _, Eq.trans (World.drewN_drewN _ _ _) (congrArg (World.drewN _) (Nat.add_assoc _ _ _))⟩); have p105 : 0 ≤ (4 : Int) := (by omega); have q105 : 4 < (l0.length : Int) := of_decide_eq_true zq9; obtain ⟨ad105, e105, hx105_0⟩ := Kd.at_int HR0.out 4 p105 q105; obtain rfl : ad101 = ad105 := zq68; (try simp only [show (4 : Int).toNat = 4 from rfl, Nat.reduceMul, Nat.reduceEqDiff, Go.Addr.add, ↓reduceIte] at hx105_0); have qi105 : (4 < l0.length) = True := eq_true (by omega); (try rw [show ((4 : Int)).toNat = 4 from rfl] at hx105_0); replace p105 := eq_true p105; replace q105 := eq_true q105) | (go_at_call 85; (with_reducible refine (jsonparser_h2I.calls k (rd l0 4) t106 _ A8.out).mono ?_); rintro e w' ⟨rfl, ⟨nd, rfl⟩⟩; (try first | exact ⟨rfl, _, World.drewN_drewN _ _ _⟩ | exact ⟨rfl, _, Eq.trans (World.drewN_drewN _ _ _) (congrArg (World.drewN _) (Nat.add_assoc _ _ _))⟩); have p107 : 0 ≤ (5 : Int) := (by omega); have q107 : 5 < (l0.length : Int) := of_decide_eq_true zq9; obtain ⟨ad107, e107, hx107_0⟩ := Kd.at_int HR0.out 5 p107 q107; obtain rfl : ad101 = ad107 := zq71; (try simp only [show (5 : Int).toNat = 5 from rfl, Nat.reduceMul, Nat.reduceEqDiff, Go.Addr.add, ↓reduceIte] at hx107_0); have qi107 : (5 < l0.length) = True := eq_true (by omega); (try rw [show ((5 : Int)).toNat = 5 from rfl] at hx107_0); replace p107 := eq_true p107; replace q107 := eq_true q107) | (go_at_call 85; (with_reducible refine (jsonparser_h2I.calls k (rd l0 5) t108 _ A10.out).mono ?_); rintro e w' ⟨rfl, ⟨nd, rfl⟩⟩; (try first | exact ⟨rfl, _, World.drewN_drewN _ _ _⟩ | exact ⟨rfl, _, Eq.trans (World.drewN_drewN _ _ _) (congrArg (World.drewN _) (Nat.add_assoc _ _ _))⟩)))
  repeat (go_quiet (first | (go_at_call 85; (with_reducible refine (jsonparser_h2I.calls k (rd l0 2) t102 _ A4.out).mono ?_); rintro e w' ⟨rfl, ⟨nd, rfl⟩⟩; (try first | exact ⟨rfl, _, World.drewN_drewN _ _ _⟩ | exact ⟨rfl, _, Eq.trans (World.drewN_drewN _ _ _) (congrArg (World.drewN _) (Nat.add_assoc _ _ _))⟩); have p103 : 0 ≤ (3 : Int) := (by omega); have q103 : 3 < (l0.length : Int) := of_decide_eq_true zq9; obtain ⟨ad103, e103, hx103_0⟩ := Kd.at_int HR0.out 3 p103 q103; obtain rfl : ad101 = ad103 := zq70; (try simp only [show (3 : Int).toNat = 3 from rfl, Nat.reduceMul, Nat.reduceEqDiff, Go.Addr.add, ↓reduceIte] at hx103_0); have qi103 : (3 < l0.length) = True := eq_true (by omega); (try rw [show ((3 : Int)).toNat = 3 from rfl] at hx103_0); replace p103 := eq_true p103; replace q103 := eq_true q103) | (go_at_call 85; (with_reducible refine (jsonparser_h2I.calls k (rd l0 3) t104 _ A6.out).mono ?_); rintro e w' ⟨rfl, ⟨nd, rfl⟩⟩; (try first | exact ⟨rfl, _, World.drewN_drewN _ _ _⟩ | exact ⟨rfl, _, Eq.trans (World.drewN_drewN _ _ _) (congrArg (World.drewN _) (Nat.add_assoc _ _ _))⟩); have p105 : 0 ≤ (4 : Int) := (by omega); have q105 : 4 < (l0.length : Int) := of_decide_eq_true zq9; obtain ⟨ad105, e105, hx105_0⟩ := Kd.at_int HR0.out 4 p105 q105; obtain rfl : ad101 = ad105 := zq68; (try simp only [show (4 : Int).toNat = 4 from rfl, Nat.reduceMul, Nat.reduceEqDiff, Go.Addr.add, ↓reduceIte] at hx105_0); have qi105 : (4 < l0.length) = True := eq_true (by omega); (try rw [show ((4 : Int)).toNat = 4 from rfl] at hx105_0); replace p105 := eq_true p105; replace q105 := eq_true q105) | (go_at_call 85; (with_reducible refine (jsonparser_h2I.calls k (rd l0 4) t106 _ A8.out).mono ?_); rintro e w' ⟨rfl, ⟨nd, rfl⟩⟩; (try first | exact ⟨rfl, _, World.drewN_drewN _ _ _⟩ | exact ⟨rfl, _, Eq.trans (World.drewN_drewN _ _ _) (congrArg (World.drewN _) (Nat.add_assoc _ _ _))⟩); have p107 : 0 ≤ (5 : Int) := (by omega); have q107 : 5 < (l0.length : Int) := of_decide_eq_true zq9; obtain ⟨ad107, e107, hx107_0⟩ := Kd.at_int HR0.out 5 p107 q107; obtain rfl : ad101 = ad107 := zq71; (try simp only [show (5 : Int).toNat = 5 from rfl, Nat.reduceMul, Nat.reduceEqDiff, Go.Addr.add, ↓reduceIte] at hx107_0); have qi107 : (5 < l0.length) = True := eq_true (by omega); (try rw [show ((5 : Int)).toNat = 5 from rfl] at hx107_0); replace p107 := eq_true p107; replace q107 := eq_true q107) | (go_at_call 85; (with_reducible refine (jsonparser_h2I.calls k (rd l0 5) t108 _ A10.out).mono ?_); rintro e w' ⟨rfl, ⟨nd, rfl⟩⟩; (try first | exact ⟨rfl, _, World.drewN_drewN _ _ _⟩ | exact ⟨rfl, _, Eq.trans (World.drewN_drewN _ _ _) (congrArg (World.drewN _) (Nat.add_assoc _ _ _))⟩))); try go_wp2_with (first | (go_at_call 85; (with_reducible refine (jsonparser_h2I.calls k (rd l0 2) t102 _ A4.out).mono ?_); rintro e w' ⟨rfl, ⟨nd, rfl⟩⟩; (try first | exact ⟨rfl, _, World.drewN_drewN _ _ _⟩ | exact ⟨rfl, _, Eq.trans (World.drewN_drewN _ _ _) (congrArg (World.drewN _) (Nat.add_assoc _ _ _))⟩); have p103 : 0 ≤ (3 : Int) := (by omega); have q103 : 3 < (l0.length : Int) := of_decide_eq_true zq9; obtain ⟨ad103, e103, hx103_0⟩ := Kd.at_int HR0.out 3 p103 q103; obtain rfl : ad101 = ad103 := zq70; (try simp only [show (3 : Int).toNat = 3 from rfl, Nat.reduceMul, Nat.reduceEqDiff, Go.Addr.add, ↓reduceIte] at hx103_0); have qi103 : (3 < l0.length) = True := eq_true (by omega); (try rw [show ((3 : Int)).toNat = 3 from rfl] at hx103_0); replace p103 := eq_true p103; replace q103 := eq_true q103) | (go_at_call 85; (with_reducible refine (jsonparser_h2I.calls k (rd l0 3) t104 _ A6.out).mono ?_); rintro e w' ⟨rfl, ⟨nd, rfl⟩⟩; (try first | exact ⟨rfl, _, World.drewN_drewN _ _ _⟩ | exact ⟨rfl, _, Eq.trans (World.drewN_drewN _ _ _) (congrArg (World.drewN _) (Nat.add_assoc _ _ _))⟩); have p105 : 0 ≤ (4 : Int) := (by omega); have q105 : 4 < (l0.length : Int) := of_decide_eq_true zq9; obtain ⟨ad105, e105, hx105_0⟩ := Kd.at_int HR0.out 4 p105 q105; obtain rfl : ad101 = ad105 := zq68; (try simp only [show (4 : Int).toNat = 4 from rfl, Nat.reduceMul, Nat.reduceEqDiff, Go.Addr.add, ↓reduceIte] at hx105_0); have qi105 : (4 < l0.length) = True := eq_true (by omega); (try rw [show ((4 : Int)).toNat = 4 from rfl] at hx105_0); replace p105 := eq_true p105; replace q105 := eq_true q105) | (go_at_call 85; (with_reducible refine (jsonparser_h2I.calls k (rd l0 4) t106 _ A8.out).mono ?_); rintro e w' ⟨rfl, ⟨nd, rfl⟩⟩; (try first | exact ⟨rfl, _, World.drewN_drewN _ _ _⟩ | exact ⟨rfl, _, Eq.trans (World.drewN_drewN _ _ _) (congrArg (World.drewN _) (Nat.add_assoc _ _ _))⟩); have p107 : 0 ≤ (5 : Int) := (by omega); have q107 : 5 < (l0.length : Int) := of_decide_eq_true zq9; obtain ⟨ad107, e107, hx107_0⟩ := Kd.at_int HR0.out 5 p107 q107; obtain rfl : ad101 = ad107 := zq71; (try simp only [show (5 : Int).toNat = 5 from rfl, Nat.reduceMul, Nat.reduceEqDiff, Go.Addr.add, ↓reduceIte] at hx107_0); have qi107 : (5 < l0.length) = True := eq_true (by omega); (try rw [show ((5 : Int)).toNat = 5 from rfl] at hx107_0); replace p107 := eq_true p107; replace q107 := eq_true q107) | (go_at_call 85; (with_reducible refine (jsonparser_h2I.calls k (rd l0 5) t108 _ A10.out).mono ?_); rintro e w' ⟨rfl, ⟨nd, rfl⟩⟩; (try first | exact ⟨rfl, _, World.drewN_drewN _ _ _⟩ | exact ⟨rfl, _, Eq.trans (World.drewN_drewN _ _ _) (congrArg (World.drewN _) (Nat.add_assoc _ _ _))⟩))))
  go_ret2
  exact ⟨by first | rfl | (simp; done) | (simp [*]; done), by repeat (first | exact Drawn0.refl _ | apply Drawn0.step)⟩
 rw [if_neg c13] at H
 have c13b0 : (t106 == (-1)) = false := beq_eq_false_iff_ne.mpr c13
 have c13b1 : (t106 != (-1)) = true := bne_iff_ne.mpr c13
 by_cases c14 : t108 = (-1)
 rotate_left
 ·rw [if_neg c14] at H
  have c14b0 : (t108 == (-1)) = false := beq_eq_false_iff_ne.mpr c14
  have c14b1 : (t108 != (-1)) = true := bne_iff_ne.mpr c14
  simp only [Option.some.injEq, Prod.mk.injEq] at H
  obtain ⟨rfl, rfl⟩ := H
  have p101 : 0 ≤ (2 : Int) := (by omega)
  have q101 : 2 < (l0.length : Int) := of_decide_eq_true zq9
  obtain ⟨ad101, e101, hx101_0⟩ := Kd.at_int HR0.out 2 p101 q101
  cases e101
  (try simp only [show (2 : Int).toNat = 2 from rfl, Nat.reduceMul, Nat.reduceEqDiff, Go.Addr.add, ↓reduceIte] at hx101_0)
  have qi101 : (2 < l0.length) = True := eq_true (by omega)
  (try rw [show ((2 : Int)).toNat = 2 from rfl] at hx101_0)
  replace p101 := eq_true p101
  replace q101 := eq_true q101
  go_enter Tryd.func80, Tryd.ntmps80
  go_wp2_with (first | (go_at_call 85; (with_reducible refine (jsonparser_h2I.calls k (rd l0 2) t102 _ A4.out).mono ?_); rintro e w' ⟨rfl, ⟨nd, rfl⟩⟩; (try first | exact ⟨rfl, _, World.drewN_drewN _ _ _⟩ | exact ⟨rfl, _, Eq.trans (World.drewN_drewN _ _ _) (congrArg (World.drewN _) (Nat.add_assoc _ _ _))⟩); have p103 : 0 ≤ (3 : Int) := (by omega); have q103 : 3 < (l0.length : Int) := of_decide_eq_true zq9; obtain ⟨ad103, e103, hx103_0⟩ := Kd.at_int HR0.out 3 p103 q103; obtain rfl : ad101 = ad103 := zq70; (try simp only [show (3 : Int).toNat = 3 from rfl, Nat.reduceMul, Nat.reduceEqDiff, Go.Addr.add, ↓reduceIte] at hx103_0); have qi103 : (3 < l0.length) = True := eq_true (by omega); (try rw [show ((3 : Int)).toNat = 3 from rfl] at hx103_0); replace p103 := eq_true p103; replace q103 := eq_true q103) | (go_at_call 85; (with_reducible refine (jsonparser_h2I.calls k (rd l0 3) t104 _ A6.out).mono ?_); rintro e w' ⟨rfl, ⟨nd, rfl⟩⟩; (try first | exact ⟨rfl, _, World.drewN_drewN _ _ _⟩ | exact ⟨rfl, _, Eq.trans (World.drewN_drewN _ _ _) (congrArg (World.drewN _) (Nat.add_assoc _ _ _))⟩); have p105 : 0 ≤ (4 : Int) := (by omega); have q105 : 4 < (l0.length : Int) := of_decide_eq_true zq9; obtain ⟨ad105, e105, hx105_0⟩ := Kd.at_int HR0.out 4 p105 q105; obtain rfl : ad101 = ad105 := zq68; (try simp only [show (4 : Int).toNat = 4 from rfl, Nat.reduceMul, Nat.reduceEqDiff, Go.Addr.add, ↓reduceIte] at hx105_0); have qi105 : (4 < l0.length) = True := eq_true (by omega); (try rw [show ((4 : Int)).toNat = 4 from rfl] at hx105_0); replace p105 := eq_true p105; replace q105 := eq_true q105) | (go_at_call 85; (with_reducible refine (jsonparser_h2I.calls k (rd l0 4) t106 _ A8.out).mono ?_); rintro e w' ⟨rfl, ⟨nd, rfl⟩⟩; (try first | exact ⟨rfl, _, World.drewN_drewN _ _ _⟩ | exact ⟨rfl, _, Eq.trans (World.drewN_drewN _ _ _) (congrArg (World.drewN _) (Nat.add_assoc _ _ _))⟩); have p107 : 0 ≤ (5 : Int) := (by omega); have q107 : 5 < (l0.length : Int) := of_decide_eq_true zq9; obtain ⟨ad107, e107, hx107_0⟩ := Kd.at_int HR0.out 5 p107 q107; obtain rfl : ad101 = ad107 := zq71; (try simp only [show (5 : Int).toNat = 5 from rfl, Nat.reduceMul, Nat.reduceEqDiff, Go.Addr.add, ↓reduceIte] at hx107_0); have qi107 : (5 < l0.length) = True := eq_true (by omega); (try rw [show ((5 : Int)).toNat = 5 from rfl] at hx107_0); replace p107 := eq_true p107; replace q107 := eq_true q107) | (go_at_call 85; (with_reducible refine (jsonparser_h2I.calls k (rd l0 5) t108 _ A10.out).mono ?_); rintro e w' ⟨rfl, ⟨nd, rfl⟩⟩; (try first | exact ⟨rfl, _, World.drewN_drewN _ _ _⟩ | exact ⟨rfl, _, Eq.trans (World.drewN_drewN _ _ _) (congrArg (World.drewN _) (Nat.add_assoc _ _ _))⟩)))
  repeat (go_quiet (first | (go_at_call 85; (with_reducible refine (jsonparser_h2I.calls k (rd l0 2) t102 _ A4.out).mono ?_); rintro e w' ⟨rfl, ⟨nd, rfl⟩⟩; (try first | exact ⟨rfl, _, World.drewN_drewN _ _ _⟩ | exact ⟨rfl, _, Eq.trans (World.drewN_drewN _ _ _) (congrArg (World.drewN _) (Nat.add_assoc _ _ _))⟩); have p103 : 0 ≤ (3 : Int) := (by omega); have q103 : 3 < (l0.length : Int) := of_decide_eq_true zq9; obtain ⟨ad103, e103, hx103_0⟩ := Kd.at_int HR0.out 3 p103 q103; obtain rfl : ad101 = ad103 := zq70; (try simp only [show (3 : Int).toNat = 3 from rfl, Nat.reduceMul, Nat.reduceEqDiff, Go.Addr.add, ↓reduceIte] at hx103_0); have qi103 : (3 < l0.length) = True := eq_true (by omega); (try rw [show ((3 : Int)).toNat = 3 from rfl] at hx103_0); replace p103 := eq_true p103; replace q103 := eq_true q103) | (go_at_call 85; (with_reducible refine (jsonparser_h2I.calls k (rd l0 3) t104 _ A6.out).mono ?_); rintro e w' ⟨rfl, ⟨nd, rfl⟩⟩; (try first | exact ⟨rfl, _, World.drewN_drewN _ _ _⟩ | exact ⟨rfl, _, Eq.trans (World.drewN_drewN _ _ _) (congrArg (World.drewN _) (Nat.add_assoc _ _ _))⟩); have p105 : 0 ≤ (4 : Int) := (by omega); have q105 : 4 < (l0.length : Int) := of_decide_eq_true zq9; obtain ⟨ad105, e105, hx105_0⟩ := Kd.at_int HR0.out 4 p105 q105; obtain rfl : ad101 = ad105 := zq68; (try simp only [show (4 : Int).toNat = 4 from rfl, Nat.reduceMul, Nat.reduceEqDiff, Go.Addr.add, ↓reduceIte] at hx105_0); have qi105 : (4 < l0.length) = True := eq_true (by omega); (try rw [show ((4 : Int)).toNat = 4 from rfl] at hx105_0); replace p105 := eq_true p105; replace q105 := eq_true q105) | (go_at_call 85; (with_reducible refine (jsonparser_h2I.calls k (rd l0 4) t106 _ A8.out).mono ?_); rintro e w' ⟨rfl, ⟨nd, rfl⟩⟩; (try first | exact ⟨rfl, _, World.drewN_drewN _ _ _⟩ | exact ⟨rfl, _, Eq.trans (World.drewN_drewN _ _ _) (congrArg (World.drewN _) (Nat.add_assoc _ _ _))⟩); have p107 : 0 ≤ (5 : Int) := (by omega); have q107 : 5 < (l0.length : Int) := of_decide_eq_true zq9; obtain ⟨ad107, e107, hx107_0⟩ := Kd.at_int HR0.out 5 p107 q107; obtain rfl : ad101 = ad107 := zq71; (try simp only [show (5 : Int).toNat = 5 from rfl, Nat.reduceMul, Nat.reduceEqDiff, Go.Addr.add, ↓reduceIte] at hx107_0); have qi107 : (5 < l0.length) = True := eq_true (by omega); (try rw [show ((5 : Int)).toNat = 5 from rfl] at hx107_0); replace p107 := eq_true p107; replace q107 := eq_true q107) | (go_at_call 85; (with_reducible refine (jsonparser_h2I.calls k (rd l0 5) t108 _ A10.out).mono ?_); rintro e w' ⟨rfl, ⟨nd, rfl⟩⟩; (try first | exact ⟨rfl, _, World.drewN_drewN _ _ _⟩ | exact ⟨rfl, _, Eq.trans (World.drewN_drewN _ _ _) (congrArg (World.drewN _) (Nat.add_assoc _ _ _))⟩))); try go_wp2_with (first | (go_at_call 85; (with_reducible refine (jsonparser_h2I.calls k (rd l0 2) t102 _ A4.out).mono ?_); rintro e w' ⟨rfl, ⟨nd, rfl⟩⟩; (try first | exact ⟨rfl, _, World.drewN_drewN _ _ _⟩ | exact ⟨rfl, _, Eq.trans (World.drewN_drewN _ _ _) (congrArg (World.drewN _) (Nat.add_assoc _ _ _))⟩); have p103 : 0 ≤ (3 : Int) := (by omega); have q103 : 3 < (l0.length : Int) := of_decide_eq_true zq9; obtain ⟨ad103, e103, hx103_0⟩ := Kd.at_int HR0.out 3 p103 q103; obtain rfl : ad101 = ad103 := zq70; (try simp only [show (3 : Int).toNat = 3 from rfl, Nat.reduceMul, Nat.reduceEqDiff, Go.Addr.add, ↓reduceIte] at hx103_0); have qi103 : (3 < l0.length) = True := eq_true (by omega); (try rw [show ((3 : Int)).toNat = 3 from rfl] at hx103_0); replace p103 := eq_true p103; replace q103 := eq_true q103) | (go_at_call 85; (with_reducible refine (jsonparser_h2I.calls k (rd l0 3) t104 _ A6.out).mono ?_); rintro e w' ⟨rfl, ⟨nd, rfl⟩⟩; (try first | exact ⟨rfl, _, World.drewN_drewN _ _ _⟩ | exact ⟨rfl, _, Eq.trans (World.drewN_drewN _ _ _) (congrArg (World.drewN _) (Nat.add_assoc _ _ _))⟩); have p105 : 0 ≤ (4 : Int) := (by omega); have q105 : 4 < (l0.length : Int) := of_decide_eq_true zq9; obtain ⟨ad105, e105, hx105_0⟩ := Kd.at_int HR0.out 4 p105 q105; obtain rfl : ad101 = ad105 := zq68; (try simp only [show (4 : Int).toNat = 4 from rfl, Nat.reduceMul, Nat.reduceEqDiff, Go.Addr.add, ↓reduceIte] at hx105_0); have qi105 : (4 < l0.length) = True := eq_true (by omega); (try rw [show ((4 : Int)).toNat = 4 from rfl] at hx105_0); replace p105 := eq_true p105; replace q105 := eq_true q105) | (go_at_call 85; (with_reducible refine (jsonparser_h2I.calls k (rd l0 4) t106 _ A8.out).mono ?_); rintro e w' ⟨rfl, ⟨nd, rfl⟩⟩; (try first | exact ⟨rfl, _, World.drewN_drewN _ _ _⟩ | exact ⟨rfl, _, Eq.trans (World.drewN_drewN _ _ _) (congrArg (World.drewN _) (Nat.add_assoc _ _ _))⟩); have p107 : 0 ≤ (5 : Int) := (by omega); have q107 : 5 < (l0.length : Int) := of_decide_eq_true zq9; obtain ⟨ad107, e107, hx107_0⟩ := Kd.at_int HR0.out 5 p107 q107; obtain rfl : ad101 = ad107 := zq71; (try simp only [show (5 : Int).toNat = 5 from rfl, Nat.reduceMul, Nat.reduceEqDiff, Go.Addr.add, ↓reduceIte] at hx107_0); have qi107 : (5 < l0.length) = True := eq_true (by omega); (try rw [show ((5 : Int)).toNat = 5 from rfl] at hx107_0); replace p107 := eq_true p107; replace q107 := eq_true q107) | (go_at_call 85; (with_reducible refine (jsonparser_h2I.calls k (rd l0 5) t108 _ A10.out).mono ?_); rintro e w' ⟨rfl, ⟨nd, rfl⟩⟩; (try first | exact ⟨rfl, _, World.drewN_drewN _ _ _⟩ | exact ⟨rfl, _, Eq.trans (World.drewN_drewN _ _ _) (congrArg (World.drewN _) (Nat.add_assoc _ _ _))⟩))))
  go_ret2
  exact ⟨by first | rfl | (simp; done) | (simp [*]; done), by repeat (first | exact Drawn0.refl _ | apply Drawn0.step)⟩
 rw [if_pos c14] at H
 have c14b0 : (t108 == (-1)) = true := beq_iff_eq.mpr c14
 have c14b1 : (t108 != (-1)) = false := bne_eq_false_iff_eq.mpr c14
 clear c14
 simp only [Option.some.injEq, Prod.mk.injEq] at H
 obtain ⟨rfl, rfl⟩ := H
 have p101 : 0 ≤ (2 : Int) := (by omega)
 have q101 : 2 < (l0.length : Int) := of_decide_eq_true zq9
 obtain ⟨ad101, e101, hx101_0⟩ := Kd.at_int HR0.out 2 p101 q101
 cases e101
 (try simp only [show (2 : Int).toNat = 2 from rfl, Nat.reduceMul, Nat.reduceEqDiff, Go.Addr.add, ↓reduceIte] at hx101_0)
 have qi101 : (2 < l0.length) = True := eq_true (by omega)
 (try rw [show ((2 : Int)).toNat = 2 from rfl] at hx101_0)
 replace p101 := eq_true p101
 replace q101 := eq_true q101
 go_enter Tryd.func80, Tryd.ntmps80
 go_wp2_with (first | (go_at_call 85; (with_reducible refine (jsonparser_h2I.calls k (rd l0 2) t102 _ A4.out).mono ?_); rintro e w' ⟨rfl, ⟨nd, rfl⟩⟩; (try first | exact ⟨rfl, _, World.drewN_drewN _ _ _⟩ | exact ⟨rfl, _, Eq.trans (World.drewN_drewN _ _ _) (congrArg (World.drewN _) (Nat.add_assoc _ _ _))⟩); have p103 : 0 ≤ (3 : Int) := (by omega); have q103 : 3 < (l0.length : Int) := of_decide_eq_true zq9; obtain ⟨ad103, e103, hx103_0⟩ := Kd.at_int HR0.out 3 p103 q103; obtain rfl : ad101 = ad103 := zq70; (try simp only [show (3 : Int).toNat = 3 from rfl, Nat.reduceMul, Nat.reduceEqDiff, Go.Addr.add, ↓reduceIte] at hx103_0); have qi103 : (3 < l0.length) = True := eq_true (by omega); (try rw [show ((3 : Int)).toNat = 3 from rfl] at hx103_0); replace p103 := eq_true p103; replace q103 := eq_true q103) | (go_at_call 85; (with_reducible refine (jsonparser_h2I.calls k (rd l0 3) t104 _ A6.out).mono ?_); rintro e w' ⟨rfl, ⟨nd, rfl⟩⟩; (try first | exact ⟨rfl, _, World.drewN_drewN _ _ _⟩ | exact ⟨rfl, _, Eq.trans (World.drewN_drewN _ _ _) (congrArg (World.drewN _) (Nat.add_assoc _ _ _))⟩); have p105 : 0 ≤ (4 : Int) := (by omega); have q105 : 4 < (l0.length : Int) := of_decide_eq_true zq9; obtain ⟨ad105, e105, hx105_0⟩ := Kd.at_int HR0.out 4 p105 q105; obtain rfl : ad101 = ad105 := zq68; (try simp only [show (4 : Int).toNat = 4 from rfl, Nat.reduceMul, Nat.reduceEqDiff, Go.Addr.add, ↓reduceIte] at hx105_0); have qi105 : (4 < l0.length) = True := eq_true (by omega); (try rw [show ((4 : Int)).toNat = 4 from rfl] at hx105_0); replace p105 := eq_true p105; replace q105 := eq_true q105) | (go_at_call 85; (with_reducible refine (jsonparser_h2I.calls k (rd l0 4) t106 _ A8.out).mono ?_); rintro e w' ⟨rfl, ⟨nd, rfl⟩⟩; (try first | exact ⟨rfl, _, World.drewN_drewN _ _ _⟩ | exact ⟨rfl, _, Eq.trans (World.drewN_drewN _ _ _) (congrArg (World.drewN _) (Nat.add_assoc _ _ _))⟩); have p107 : 0 ≤ (5 : Int) := (by omega); have q107 : 5 < (l0.length : Int) := of_decide_eq_true zq9; obtain ⟨ad107, e107, hx107_0⟩ := Kd.at_int HR0.out 5 p107 q107; obtain rfl : ad101 = ad107 := zq71; (try simp only [show (5 : Int).toNat = 5 from rfl, Nat.reduceMul, Nat.reduceEqDiff, Go.Addr.add, ↓reduceIte] at hx107_0); have qi107 : (5 < l0.length) = True := eq_true (by omega); (try rw [show ((5 : Int)).toNat = 5 from rfl] at hx107_0); replace p107 := eq_true p107; replace q107 := eq_true q107) | (go_at_call 85; (with_reducible refine (jsonparser_h2I.calls k (rd l0 5) t108 _ A10.out).mono ?_); rintro e w' ⟨rfl, ⟨nd, rfl⟩⟩; (try first | exact ⟨rfl, _, World.drewN_drewN _ _ _⟩ | exact ⟨rfl, _, Eq.trans (World.drewN_drewN _ _ _) (congrArg (World.drewN _) (Nat.add_assoc _ _ _))⟩)))
 repeat (go_quiet (first | (go_at_call 85; (with_reducible refine (jsonparser_h2I.calls k (rd l0 2) t102 _ A4.out).mono ?_); rintro e w' ⟨rfl, ⟨nd, rfl⟩⟩; (try first | exact ⟨rfl, _, World.drewN_drewN _ _ _⟩ | exact ⟨rfl, _, Eq.trans (World.drewN_drewN _ _ _) (congrArg (World.drewN _) (Nat.add_assoc _ _ _))⟩); have p103 : 0 ≤ (3 : Int) := (by omega); have q103 : 3 < (l0.length : Int) := of_decide_eq_true zq9; obtain ⟨ad103, e103, hx103_0⟩ := Kd.at_int HR0.out 3 p103 q103; obtain rfl : ad101 = ad103 := zq70; (try simp only [show (3 : Int).toNat = 3 from rfl, Nat.reduceMul, Nat.reduceEqDiff, Go.Addr.add, ↓reduceIte] at hx103_0); have qi103 : (3 < l0.length) = True := eq_true (by omega); (try rw [show ((3 : Int)).toNat = 3 from rfl] at hx103_0); replace p103 := eq_true p103; replace q103 := eq_true q103) | (go_at_call 85; (with_reducible refine (jsonparser_h2I.calls k (rd l0 3) t104 _ A6.out).mono ?_); rintro e w' ⟨rfl, ⟨nd, rfl⟩⟩; (try first | exact ⟨rfl, _, World.drewN_drewN _ _ _⟩ | exact ⟨rfl, _, Eq.trans (World.drewN_drewN _ _ _) (congrArg (World.drewN _) (Nat.add_assoc _ _ _))⟩); have p105 : 0 ≤ (4 : Int) := (by omega); have q105 : 4 < (l0.length : Int) := of_decide_eq_true zq9; obtain ⟨ad105, e105, hx105_0⟩ := Kd.at_int HR0.out 4 p105 q105; obtain rfl : ad101 = ad105 := zq68; (try simp only [show (4 : Int).toNat = 4 from rfl, Nat.reduceMul, Nat.reduceEqDiff, Go.Addr.add, ↓reduceIte] at hx105_0); have qi105 : (4 < l0.length) = True := eq_true (by omega); (try rw [show ((4 : Int)).toNat = 4 from rfl] at hx105_0); replace p105 := eq_true p105; replace q105 := eq_true q105) | (go_at_call 85; (with_reducible refine (jsonparser_h2I.calls k (rd l0 4) t106 _ A8.out).mono ?_); rintro e w' ⟨rfl, ⟨nd, rfl⟩⟩; (try first | exact ⟨rfl, _, World.drewN_drewN _ _ _⟩ | exact ⟨rfl, _, Eq.trans (World.drewN_drewN _ _ _) (congrArg (World.drewN _) (Nat.add_assoc _ _ _))⟩); have p107 : 0 ≤ (5 : Int) := (by omega); have q107 : 5 < (l0.length : Int) := of_decide_eq_true zq9; obtain ⟨ad107, e107, hx107_0⟩ := Kd.at_int HR0.out 5 p107 q107; obtain rfl : ad101 = ad107 := zq71; (try simp only [show (5 : Int).toNat = 5 from rfl, Nat.reduceMul, Nat.reduceEqDiff, Go.Addr.add, ↓reduceIte] at hx107_0); have qi107 : (5 < l0.length) = True := eq_true (by omega); (try rw [show ((5 : Int)).toNat = 5 from rfl] at hx107_0); replace p107 := eq_true p107; replace q107 := eq_true q107) | (go_at_call 85; (with_reducible refine (jsonparser_h2I.calls k (rd l0 5) t108 _ A10.out).mono ?_); rintro e w' ⟨rfl, ⟨nd, rfl⟩⟩; (try first | exact ⟨rfl, _, World.drewN_drewN _ _ _⟩ | exact ⟨rfl, _, Eq.trans (World.drewN_drewN _ _ _) (congrArg (World.drewN _) (Nat.add_assoc _ _ _))⟩))); try go_wp2_with (first | (go_at_call 85; (with_reducible refine (jsonparser_h2I.calls k (rd l0 2) t102 _ A4.out).mono ?_); rintro e w' ⟨rfl, ⟨nd, rfl⟩⟩; (try first | exact ⟨rfl, _, World.drewN_drewN _ _ _⟩ | exact ⟨rfl, _, Eq.trans (World.drewN_drewN _ _ _) (congrArg (World.drewN _) (Nat.add_assoc _ _ _))⟩); have p103 : 0 ≤ (3 : Int) := (by omega); have q103 : 3 < (l0.length : Int) := of_decide_eq_true zq9; obtain ⟨ad103, e103, hx103_0⟩ := Kd.at_int HR0.out 3 p103 q103; obtain rfl : ad101 = ad103 := zq70; (try simp only [show (3 : Int).toNat = 3 from rfl, Nat.reduceMul, Nat.reduceEqDiff, Go.Addr.add, ↓reduceIte] at hx103_0); have qi103 : (3 < l0.length) = True := eq_true (by omega); (try rw [show ((3 : Int)).toNat = 3 from rfl] at hx103_0); replace p103 := eq_true p103; replace q103 := eq_true q103) | (go_at_call 85; (with_reducible refine (jsonparser_h2I.calls k (rd l0 3) t104 _ A6.out).mono ?_); rintro e w' ⟨rfl, ⟨nd, rfl⟩⟩; (try first | exact ⟨rfl, _, World.drewN_drewN _ _ _⟩ | exact ⟨rfl, _, Eq.trans (World.drewN_drewN _ _ _) (congrArg (World.drewN _) (Nat.add_assoc _ _ _))⟩); have p105 : 0 ≤ (4 : Int) := (by omega); have q105 : 4 < (l0.length : Int) := of_decide_eq_true zq9; obtain ⟨ad105, e105, hx105_0⟩ := Kd.at_int HR0.out 4 p105 q105; obtain rfl : ad101 = ad105 := zq68; (try simp only [show (4 : Int).toNat = 4 from rfl, Nat.reduceMul, Nat.reduceEqDiff, Go.Addr.add, ↓reduceIte] at hx105_0); have qi105 : (4 < l0.length) = True := eq_true (by omega); (try rw [show ((4 : Int)).toNat = 4 from rfl] at hx105_0); replace p105 := eq_true p105; replace q105 := eq_true q105) | (go_at_call 85; (with_reducible refine (jsonparser_h2I.calls k (rd l0 4) t106 _ A8.out).mono ?_); rintro e w' ⟨rfl, ⟨nd, rfl⟩⟩; (try first | exact ⟨rfl, _, World.drewN_drewN _ _ _⟩ | exact ⟨rfl, _, Eq.trans (World.drewN_drewN _ _ _) (congrArg (World.drewN _) (Nat.add_assoc _ _ _))⟩); have p107 : 0 ≤ (5 : Int) := (by omega); have q107 : 5 < (l0.length : Int) := of_decide_eq_true zq9; obtain ⟨ad107, e107, hx107_0⟩ := Kd.at_int HR0.out 5 p107 q107; obtain rfl : ad101 = ad107 := zq71; (try simp only [show (5 : Int).toNat = 5 from rfl, Nat.reduceMul, Nat.reduceEqDiff, Go.Addr.add, ↓reduceIte] at hx107_0); have qi107 : (5 < l0.length) = True := eq_true (by omega); (try rw [show ((5 : Int)).toNat = 5 from rfl] at hx107_0); replace p107 := eq_true p107; replace q107 := eq_true q107) | (go_at_call 85; (with_reducible refine (jsonparser_h2I.calls k (rd l0 5) t108 _ A10.out).mono ?_); rintro e w' ⟨rfl, ⟨nd, rfl⟩⟩; (try first | exact ⟨rfl, _, World.drewN_drewN _ _ _⟩ | exact ⟨rfl, _, Eq.trans (World.drewN_drewN _ _ _) (congrArg (World.drewN _) (Nat.add_assoc _ _ _))⟩))))
 go_ret2
 exact ⟨by first | rfl | (simp; done) | (simp [*]; done), by repeat (first | exact Drawn0.refl _ | apply Drawn0.step)⟩
def jsonparser_isUTF16EncodedRune.f (a0 : Int) : Option (Bool) := if 55296 ≤ a0 then (some (decide (a0 ≤ 57343))) else (some false)
set_option maxHeartbeats 8000000 in
set_option maxRecDepth 100000 in
theorem jsonparser_isUTF16EncodedRune.calls (a0 : Int) (r : Bool) (w : World) (h : jsonparser_isUTF16EncodedRune.f a0 = some r) :
 Calls Tryd.prog 81 #[.int .i32 a0] w fun e w' => e = .returned (.bool r) ∧ Drawn0 w w' := by
 have H : (if 55296 ≤ a0 then (some (decide (a0 ≤ 57343))) else (some false)) = some r := h
 clear h
 by_cases c2 : 55296 ≤ a0
 ·rw [if_pos c2] at H
  have c2b0 : decide (55296 ≤ a0) = true := decide_eq_true c2
  clear c2
  obtain rfl := Option.some.inj H
  go_enter Tryd.func81, Tryd.ntmps81
  go_wp2
  go_ret
  exact ⟨by first | rfl | (simp; done) | (simp [*]; done), by repeat (first | exact Drawn0.refl _ | apply Drawn0.step)⟩
 rw [if_neg c2] at H
 have c2b0 : decide (55296 ≤ a0) = false := decide_eq_false c2
 clear c2
 obtain rfl := Option.some.inj H
 go_enter Tryd.func81, Tryd.ntmps81
 go_wp2
 go_ret
 exact ⟨by first | rfl | (simp; done) | (simp [*]; done), by repeat (first | exact Drawn0.refl _ | apply Drawn0.step)⟩
def jsonparser_combineUTF16Surrogates.f (a0 : Int) (a1 : Int) : Option (Int) := some (wrap32 ((wrap32 (65536 + (wrap32 ((wrap32 (a0 - 55296)) * 1024)))) + (wrap32 (a1 - 56320))))
set_option maxHeartbeats 8000000 in
set_option maxRecDepth 100000 in
theorem jsonparser_combineUTF16Surrogates.calls (a0 : Int) (a1 : Int) (r : Int) (w : World) (h : jsonparser_combineUTF16Surrogates.f a0 a1 = some r) :
 Calls Tryd.prog 82 #[.int .i32 a0, .int .i32 a1] w fun e w' => e = .returned (.int .i32 r) ∧ Drawn0 w w' := by
 have H : (some (wrap32 ((wrap32 (65536 + (wrap32 ((wrap32 (a0 - 55296)) * 1024)))) + (wrap32 (a1 - 56320))))) = some r := h
 clear h
 obtain rfl := Option.some.inj H
 go_enter Tryd.func82, Tryd.ntmps82
 go_wp2
 go_ret
 exact ⟨by first | rfl | (simp; done) | (simp [*]; done), by repeat (first | exact Drawn0.refl _ | apply Drawn0.step)⟩
def jsonparser_decodeUnicodeEscape.j0 : Nat → List Int → Int → Bool → Option (Int × Int)
  | 0, _, _, _ => none
  | k + 1, x0, x4, x35 => if x35 = true then (some (65533, 6)) else (if 6 ≤ (x0.length : Int) then ((jsonparser_decodeSingleUnicodeEscape.f k (x0.drop 6)).bind fun bt107 => (if bt107.2 = true then (if bt107.1 < 56320 then (some (65533, 6)) else (if bt107.1 > 57343 then (some (65533, 6)) else ((jsonparser_combineUTF16Surrogates.f x4 bt107.1).bind fun t109 => (some (t109, 12))))) else (some (65533, (-1))))) else (none))
def jsonparser_decodeUnicodeEscape.f (k : Nat) (l0 : List Int) : Option (Int × Int) := (jsonparser_decodeSingleUnicodeEscape.f k l0).bind fun bt101 => (if bt101.2 = true then ((jsonparser_isUTF16EncodedRune.f bt101.1).bind fun t103 => (if t103 = true then (if bt101.1 ≥ 56320 then (some (65533, 6)) else (if (l0.length : Int) < 8 then (jsonparser_decodeUnicodeEscape.j0 k l0 bt101.1 true) else (if 6 < (l0.length : Int) then (if (rd l0 6) = 92 then (if 7 < (l0.length : Int) then (jsonparser_decodeUnicodeEscape.j0 k l0 bt101.1 ((rd l0 7) != 117)) else (none)) else (jsonparser_decodeUnicodeEscape.j0 k l0 bt101.1 true)) else (none)))) else (some (bt101.1, 6)))) else (some (65533, (-1))))
theorem jsonparser_decodeUnicodeEscape.mono_l : ∀ k, (∀ y0 y1 y2, LeO (jsonparser_decodeUnicodeEscape.j0 k y0 y1 y2) (jsonparser_decodeUnicodeEscape.j0 (k + 1) y0 y1 y2))
 | 0 => fun _ _ _ r h => by simp [jsonparser_decodeUnicodeEscape.j0] at h
 | k + 1 => by
  have ih0 := jsonparser_decodeUnicodeEscape.mono_l k
  ·intro y0 y1 y2
   unfold jsonparser_decodeUnicodeEscape.j0
   repeat' first
   | (with_reducible exact ih0 _ _ _)
   | (with_reducible exact jsonparser_decodeSingleUnicodeEscape.mono _ _)
   | (with_reducible exact LeO.refl _)
   | (with_reducible exact LeO.none _)
   | (with_reducible refine LeO.ite ?_ ?_)
   | (with_reducible refine LeO.bind ?_ (fun _ => ?_))
   | exact ih0 _ _ _
   | exact jsonparser_decodeSingleUnicodeEscape.mono _ _
   | exact LeO.none _
   | refine LeO.ite ?_ ?_
   | refine LeO.bind ?_ (fun _ => ?_)
theorem jsonparser_decodeUnicodeEscape.mono : ∀ a0 k, LeO (jsonparser_decodeUnicodeEscape.f k a0) (jsonparser_decodeUnicodeEscape.f (k + 1) a0) := by
 intro a0 k
 have ih0 := jsonparser_decodeUnicodeEscape.mono_l k
 unfold jsonparser_decodeUnicodeEscape.f
 repeat' first
  | (with_reducible exact ih0 _ _ _)
  | (with_reducible exact jsonparser_decodeSingleUnicodeEscape.mono _ _)
  | (with_reducible exact LeO.refl _)
  | (with_reducible exact LeO.none _)
  | (with_reducible refine LeO.ite ?_ ?_)
  | (with_reducible refine LeO.bind ?_ (fun _ => ?_))
  | exact ih0 _ _ _
  | exact jsonparser_decodeSingleUnicodeEscape.mono _ _
  | exact LeO.none _
  | refine LeO.ite ?_ ?_
  | refine LeO.bind ?_ (fun _ => ?_)
set_option maxHeartbeats 8000000 in
set_option maxRecDepth 100000 in
theorem jsonparser_decodeUnicodeEscape.calls (k : Nat) (A0 : Option Addr) (c0 : Nat) (l0 : List Int) (r1 : Int) (r2 : Int) (w : World) (hr0 : Kd.C (Kd.int .u8) w A0 l0.length l0) (hc0 : l0.length ≤ c0) (h : jsonparser_decodeUnicodeEscape.f k l0 = some (r1, r2)) :
 Calls Tryd.prog 78 #[.slice A0 l0.length c0] w fun e w' => e = .returned (.tuple #[.int .i32 r1, .int .i64 r2]) ∧ Drawn0 w w' := by
 have HR0 := mk0 hr0
 have HC0 := mk0 hc0
 clear hr0 hc0
 have H : ((jsonparser_decodeSingleUnicodeEscape.f k l0).bind fun bt101 => (if bt101.2 = true then ((jsonparser_isUTF16EncodedRune.f bt101.1).bind fun t103 => (if t103 = true then (if bt101.1 ≥ 56320 then (some (65533, 6)) else (if (l0.length : Int) < 8 then (jsonparser_decodeUnicodeEscape.j0 k l0 bt101.1 true) else (if 6 < (l0.length : Int) then (if (rd l0 6) = 92 then (if 7 < (l0.length : Int) then (jsonparser_decodeUnicodeEscape.j0 k l0 bt101.1 ((rd l0 7) != 117)) else (none)) else (jsonparser_decodeUnicodeEscape.j0 k l0 bt101.1 true)) else (none)))) else (some (bt101.1, 6)))) else (some (65533, (-1))))) = some (r1, r2) := h
 clear h
 replace H := Option.bind_eq_some_iff.mp H
 obtain ⟨⟨t101, t102⟩, A20, H⟩ := H
 replace H : (if t102 = true then ((jsonparser_isUTF16EncodedRune.f t101).bind fun t103 => (if t103 = true then (if t101 ≥ 56320 then (some (65533, 6)) else (if (l0.length : Int) < 8 then (jsonparser_decodeUnicodeEscape.j0 k l0 t101 true) else (if 6 < (l0.length : Int) then (if (rd l0 6) = 92 then (if 7 < (l0.length : Int) then (jsonparser_decodeUnicodeEscape.j0 k l0 t101 ((rd l0 7) != 117)) else (none)) else (jsonparser_decodeUnicodeEscape.j0 k l0 t101 true)) else (none)))) else (some (t101, 6)))) else (some (65533, (-1)))) = some (r1, r2) := H
 have A2 := mk0 A20
 clear A20
 by_cases c3 : t102 = true
 rotate_left
 ·replace c3 := Bool.eq_false_iff.mpr c3
  subst c3
  have H1 : (some (65533, (-1))) = some (r1, r2) := by rw [if_neg (show ¬ (false = true) by decide)] at H; exact H
  clear H
  have H := H1
  clear H1
  simp only [Option.some.injEq, Prod.mk.injEq] at H
  obtain ⟨rfl, rfl⟩ := H
  go_enter Tryd.func78, Tryd.ntmps78
  go_wp2_with (first | ((with_reducible refine gate_callee (f := 80) rfl ?_); refine goesL_ (some 10) rfl rfl Tryd.func80 zq23 rfl #[.slice A0 l0.length c0] rfl zq2 ?_; (with_reducible refine (jsonparser_decodeSingleUnicodeEscape.calls k _ _ l0 t101 false _ ?side1 ?side2 A2.out).mono ?_); (case side1 => exact zq49); (case side2 => exact HC0.out); rintro e w' ⟨rfl, ⟨nd, rfl⟩⟩; refine ⟨_, rfl, ?_⟩))
  go_ret2
  exact ⟨by first | rfl | (simp; done) | (simp [*]; done), by repeat (first | exact Drawn0.refl _ | apply Drawn0.step)⟩
 subst c3
 have H1 : ((jsonparser_isUTF16EncodedRune.f t101).bind fun t103 => (if t103 = true then (if t101 ≥ 56320 then (some (65533, 6)) else (if (l0.length : Int) < 8 then (jsonparser_decodeUnicodeEscape.j0 k l0 t101 true) else (if 6 < (l0.length : Int) then (if (rd l0 6) = 92 then (if 7 < (l0.length : Int) then (jsonparser_decodeUnicodeEscape.j0 k l0 t101 ((rd l0 7) != 117)) else (none)) else (jsonparser_decodeUnicodeEscape.j0 k l0 t101 true)) else (none)))) else (some (t101, 6)))) = some (r1, r2) := by rw [if_pos rfl] at H; exact H
 clear H
 have H := H1
 clear H1
 replace H := Option.bind_eq_some_iff.mp H
 obtain ⟨t103, A40, H⟩ := H
 replace H : (if t103 = true then (if t101 ≥ 56320 then (some (65533, 6)) else (if (l0.length : Int) < 8 then (jsonparser_decodeUnicodeEscape.j0 k l0 t101 true) else (if 6 < (l0.length : Int) then (if (rd l0 6) = 92 then (if 7 < (l0.length : Int) then (jsonparser_decodeUnicodeEscape.j0 k l0 t101 ((rd l0 7) != 117)) else (none)) else (jsonparser_decodeUnicodeEscape.j0 k l0 t101 true)) else (none)))) else (some (t101, 6))) = some (r1, r2) := H
 have A4 := mk0 A40
 clear A40
 by_cases c5 : t103 = true
 rotate_left
 ·replace c5 := Bool.eq_false_iff.mpr c5
  subst c5
  have H1 : (some (t101, 6)) = some (r1, r2) := by rw [if_neg (show ¬ (false = true) by decide)] at H; exact H
  clear H
  have H := H1
  clear H1
  simp only [Option.some.injEq, Prod.mk.injEq] at H
  obtain ⟨rfl, rfl⟩ := H
  go_enter Tryd.func78, Tryd.ntmps78
  go_wp2_with (first | ((with_reducible refine gate_callee (f := 80) rfl ?_); refine goesL_ (some 10) rfl rfl Tryd.func80 zq23 rfl #[.slice A0 l0.length c0] rfl zq2 ?_; (with_reducible refine (jsonparser_decodeSingleUnicodeEscape.calls k _ _ l0 t101 true _ ?side1 ?side2 A2.out).mono ?_); (case side1 => exact zq49); (case side2 => exact HC0.out); rintro e w' ⟨rfl, ⟨nd, rfl⟩⟩; refine ⟨_, rfl, ?_⟩) | ((with_reducible refine gate_callee (f := 81) rfl ?_); refine goesL_ (some 16) rfl rfl Tryd.func81 zq23 rfl #[.int .i32 t101] rfl zq2 ?_; (with_reducible refine (jsonparser_isUTF16EncodedRune.calls t101 false _ A4.out).mono ?_); rintro e w' ⟨rfl, ⟨nd, rfl⟩⟩; refine ⟨_, rfl, ?_⟩))
  go_ret2
  exact ⟨by first | rfl | (simp; done) | (simp [*]; done), by repeat (first | exact Drawn0.refl _ | apply Drawn0.step)⟩
 subst c5
 have H1 : (if t101 ≥ 56320 then (some (65533, 6)) else (if (l0.length : Int) < 8 then (jsonparser_decodeUnicodeEscape.j0 k l0 t101 true) else (if 6 < (l0.length : Int) then (if (rd l0 6) = 92 then (if 7 < (l0.length : Int) then (jsonparser_decodeUnicodeEscape.j0 k l0 t101 ((rd l0 7) != 117)) else (none)) else (jsonparser_decodeUnicodeEscape.j0 k l0 t101 true)) else (none)))) = some (r1, r2) := by rw [if_pos rfl] at H; exact H
 clear H
 have H := H1
 clear H1
 by_cases c6 : t101 ≥ 56320
 ·rw [if_pos c6] at H
  have c6b0 : decide (56320 ≤ t101) = true := decide_eq_true c6
  clear c6
  simp only [Option.some.injEq, Prod.mk.injEq] at H
  obtain ⟨rfl, rfl⟩ := H
  go_enter Tryd.func78, Tryd.ntmps78
  go_wp2_with (first | ((with_reducible refine gate_callee (f := 80) rfl ?_); refine goesL_ (some 10) rfl rfl Tryd.func80 zq23 rfl #[.slice A0 l0.length c0] rfl zq2 ?_; (with_reducible refine (jsonparser_decodeSingleUnicodeEscape.calls k _ _ l0 t101 true _ ?side1 ?side2 A2.out).mono ?_); (case side1 => exact zq49); (case side2 => exact HC0.out); rintro e w' ⟨rfl, ⟨nd, rfl⟩⟩; refine ⟨_, rfl, ?_⟩) | ((with_reducible refine gate_callee (f := 81) rfl ?_); refine goesL_ (some 16) rfl rfl Tryd.func81 zq23 rfl #[.int .i32 t101] rfl zq2 ?_; (with_reducible refine (jsonparser_isUTF16EncodedRune.calls t101 true _ A4.out).mono ?_); rintro e w' ⟨rfl, ⟨nd, rfl⟩⟩; refine ⟨_, rfl, ?_⟩))
  go_ret2
  exact ⟨by first | rfl | (simp; done) | (simp [*]; done), by repeat (first | exact Drawn0.refl _ | apply Drawn0.step)⟩
 rw [if_neg c6] at H
 have c6b0 : decide (56320 ≤ t101) = false := decide_eq_false c6
 clear c6
 have HC7 := mk0 H
 clear H
 go_enter Tryd.func78, Tryd.ntmps78
 go_upto_region 8 with (first | ((with_reducible refine gate_callee (f := 80) rfl ?_); refine goesL_ (some 10) rfl rfl Tryd.func80 zq23 rfl #[.slice A0 l0.length c0] rfl zq2 ?_; (with_reducible refine (jsonparser_decodeSingleUnicodeEscape.calls k _ _ l0 t101 true _ ?side1 ?side2 A2.out).mono ?_); (case side1 => exact zq49); (case side2 => exact HC0.out); rintro e w' ⟨rfl, ⟨nd, rfl⟩⟩; refine ⟨_, rfl, ?_⟩) | ((with_reducible refine gate_callee (f := 81) rfl ?_); refine goesL_ (some 16) rfl rfl Tryd.func81 zq23 rfl #[.int .i32 t101] rfl zq2 ?_; (with_reducible refine (jsonparser_isUTF16EncodedRune.calls t101 true _ A4.out).mono ?_); rintro e w' ⟨rfl, ⟨nd, rfl⟩⟩; refine ⟨_, rfl, ?_⟩))
 (try simp only [Act.put, List.setIfInBounds_toArray, List.set_cons_zero, List.set_cons_succ])
 go_cut [35] (fun v35 wc => ∃ (kq : Nat) (x35_6 : Bool), v35 = .bool x35_6 ∧ Aside0 (jsonparser_decodeUnicodeEscape.j0 kq l0 t101 x35_6 = some (r1, r2)) ∧ Aside0 (kq ≤ k) ∧ Drawn0 w wc)
 case first =>
  have H := HC7.out
  clear HC7
  by_cases c8 : (l0.length : Int) < 8
  ·rw [if_pos c8] at H
   have c8b0 : decide ((l0.length : Int) < 8) = true := decide_eq_true c8
   have c8b1 : decide (l0.length < 8) = true := decide_eq_true (by omega)
   clear c8
   (first | rw [c8b0] | (simp only [i64_w, i32_w]; rw [c8b0]) | rw [c8b1] | rw [if_pos (of_decide_eq_true c8b1)] | skip)
   have H' := mk0 H
   clear H
   go_wp2
   go_meet
   case rel => exact ⟨_, (true), zq13, H', ⟨by first | omega | exact Nat.le_refl _⟩, by repeat (first | exact Drawn0.refl _ | apply Drawn0.step)⟩
  rw [if_neg c8] at H
  have c8b0 : decide ((l0.length : Int) < 8) = false := decide_eq_false c8
  have c8b1 : decide (l0.length < 8) = false := decide_eq_false (by omega)
  clear c8
  (first | rw [c8b0] | (simp only [i64_w, i32_w]; rw [c8b0]) | rw [c8b1] | rw [if_neg (of_decide_eq_false c8b1)] | skip)
  by_cases c9 : 6 < (l0.length : Int)
  rotate_left
  ·rw [if_neg c9] at H
   exact absurd H (by simp)
  rw [if_pos c9] at H
  have c9b0 : decide (6 < (l0.length : Int)) = true := decide_eq_true c9
  have c9b1 : decide (6 < l0.length) = true := decide_eq_true (by omega)
  clear c9
  by_cases c10 : (rd l0 6) = 92
  rotate_left
  ·rw [if_neg c10] at H
   have c10b0 : ((rd l0 6) == 92) = false := beq_eq_false_iff_ne.mpr c10
   have c10b1 : ((rd l0 6) != 92) = true := bne_iff_ne.mpr c10
   have H' := mk0 H
   clear H
   have p104 : 0 ≤ (6 : Int) := (by omega)
   have q104 : 6 < (l0.length : Int) := of_decide_eq_true zq9
   obtain ⟨ad104, e104, hx104_0⟩ := Kd.at_int HR0.out 6 p104 q104
   cases e104
   (try simp only [show (6 : Int).toNat = 6 from rfl, Nat.reduceMul, Nat.reduceEqDiff, Go.Addr.add, ↓reduceIte] at hx104_0)
   have qi104 : (6 < l0.length) = True := eq_true (by omega)
   (try rw [show ((6 : Int)).toNat = 6 from rfl] at hx104_0)
   replace p104 := eq_true p104
   replace q104 := eq_true q104
   go_wp2
   go_meet
   case rel => exact ⟨_, (true), zq13, H', ⟨by first | omega | exact Nat.le_refl _⟩, by repeat (first | exact Drawn0.refl _ | apply Drawn0.step)⟩
  rw [if_pos c10] at H
  have c10b0 : ((rd l0 6) == 92) = true := beq_iff_eq.mpr c10
  have c10b1 : ((rd l0 6) != 92) = false := bne_eq_false_iff_eq.mpr c10
  clear c10
  by_cases c11 : 7 < (l0.length : Int)
  rotate_left
  ·rw [if_neg c11] at H
   exact absurd H (by simp)
  rw [if_pos c11] at H
  have c11b0 : decide (7 < (l0.length : Int)) = true := decide_eq_true c11
  have c11b1 : decide (7 < l0.length) = true := decide_eq_true (by omega)
  clear c11
  have H' := mk0 H
  clear H
  have p104 : 0 ≤ (6 : Int) := (by omega)
  have q104 : 6 < (l0.length : Int) := of_decide_eq_true zq9
  obtain ⟨ad104, e104, hx104_0⟩ := Kd.at_int HR0.out 6 p104 q104
  cases e104
  (try simp only [show (6 : Int).toNat = 6 from rfl, Nat.reduceMul, Nat.reduceEqDiff, Go.Addr.add, ↓reduceIte] at hx104_0)
  have qi104 : (6 < l0.length) = True := eq_true (by omega)
  (try rw [show ((6 : Int)).toNat = 6 from rfl] at hx104_0)
  replace p104 := eq_true p104
  replace q104 := eq_true q104
  have p105 : 0 ≤ (7 : Int) := (by omega)
  have q105 : 7 < (l0.length : Int) := of_decide_eq_true zq9
  obtain ⟨ad105, e105, hx105_0⟩ := Kd.at_int HR0.out 7 p105 q105
  obtain rfl : ad104 = ad105 := zq68
  (try simp only [show (7 : Int).toNat = 7 from rfl, Nat.reduceMul, Nat.reduceEqDiff, Go.Addr.add, ↓reduceIte] at hx105_0)
  have qi105 : (7 < l0.length) = True := eq_true (by omega)
  (try rw [show ((7 : Int)).toNat = 7 from rfl] at hx105_0)
  replace p105 := eq_true p105
  replace q105 := eq_true q105
  go_wp2
  go_meet
  case rel => exact ⟨_, (((rd l0 7) != 117)), zq13, H', ⟨by first | omega | exact Nat.le_refl _⟩, by repeat (first | exact Drawn0.refl _ | apply Drawn0.step)⟩
 case rest =>
  clear HC7
  try clear c1
  try clear p1
  try clear q1
  try clear hx1
  try clear qi1
  try clear p2
  try clear c3
  try clear c5
  try clear c6
  try clear c6b0
  try clear c7
  try clear c8
  try clear c8b0
  try clear c8b1
  try clear c9
  try clear c9b0
  try clear c9b1
  try clear c10
  try clear c10b0
  try clear c10b1
  try clear p10
  try clear q10
  try clear hx10
  try clear qi10
  try clear c11
  try clear c11b0
  try clear c11b1
  try clear hx104_0
  try clear hx105_0
  try clear p104
  try clear p105
  try clear q104
  try clear q105
  obtain ⟨kq, x35_6, rfl, HA, HJ6, ⟨mc6, rfl⟩⟩ := hcut
  cases kq with
  | zero => exact absurd HA.out (by simp [jsonparser_decodeUnicodeEscape.j0])
  | succ kj6 =>
   have H := HA.out
   clear HA
   simp only [jsonparser_decodeUnicodeEscape.j0] at H
   by_cases c12 : x35_6 = true
   ·subst c12
    have H1 : (some (65533, 6)) = some (r1, r2) := by rw [if_pos rfl] at H; exact H
    clear H
    have H := H1
    clear H1
    simp only [Option.some.injEq, Prod.mk.injEq] at H
    obtain ⟨rfl, rfl⟩ := H
    go_wp2
    go_ret2
    exact ⟨by first | rfl | (simp; done) | (simp [*]; done), by repeat (first | exact Drawn0.refl _ | apply Drawn0.step)⟩
   replace c12 := Bool.eq_false_iff.mpr c12
   subst c12
   have H1 : (if 6 ≤ (l0.length : Int) then ((jsonparser_decodeSingleUnicodeEscape.f kj6 (l0.drop 6)).bind fun bt107 => (if bt107.2 = true then (if bt107.1 < 56320 then (some (65533, 6)) else (if bt107.1 > 57343 then (some (65533, 6)) else ((jsonparser_combineUTF16Surrogates.f t101 bt107.1).bind fun t109 => (some (t109, 12))))) else (some (65533, (-1))))) else (none)) = some (r1, r2) := by rw [if_neg (show ¬ (false = true) by decide)] at H; exact H
   clear H
   have H := H1
   clear H1
   by_cases c13 : 6 ≤ (l0.length : Int)
   rotate_left
   ·rw [if_neg c13] at H
    exact absurd H (by simp)
   rw [if_pos c13] at H
   have c13b0 := eq_true c13
   have c13b1 : decide (6 ≤ (l0.length : Int)) = true := decide_eq_true c13
   clear c13
   replace H := Option.bind_eq_some_iff.mp H
   obtain ⟨⟨t107, t108⟩, A140, H⟩ := H
   replace H : (if t108 = true then (if t107 < 56320 then (some (65533, 6)) else (if t107 > 57343 then (some (65533, 6)) else ((jsonparser_combineUTF16Surrogates.f t101 t107).bind fun t109 => (some (t109, 12))))) else (some (65533, (-1)))) = some (r1, r2) := H
   have A14 := mk0 A140
   clear A140
   by_cases c15 : t108 = true
   rotate_left
   ·replace c15 := Bool.eq_false_iff.mpr c15
    subst c15
    have H1 : (some (65533, (-1))) = some (r1, r2) := by rw [if_neg (show ¬ (false = true) by decide)] at H; exact H
    clear H
    have H := H1
    clear H1
    simp only [Option.some.injEq, Prod.mk.injEq] at H
    obtain ⟨rfl, rfl⟩ := H
    obtain ⟨i022, hi022, _, hsz22, _⟩ := info_parts info5
    obtain ⟨A22, hcut22, hA22, hC22⟩ := print_drop_of (P := Tryd.prog) (Value.int .u8) 0 29 5 .i64 Tryd.underlying29 hi022 hsz22 A0 c0 l0 6 (by omega) (of_decide_eq_true zq9) HC0.out
    have HR106 := mk0 (Kd.C_of_reads (h1 := fun _ => rfl) (hA22 _ (Kd.reads_of_C HR0.out)))
    have HC106 := mk0 hC22
    clear hA22 hC22 hi022 hsz22
    go_wp2_with (first | ((with_reducible refine gate_callee (f := 80) rfl ?_); refine goesL_ (some 39) rfl rfl Tryd.func80 zq23 rfl #[.slice A22 (l0.drop 6).length (c0 - 6)] rfl zq37 ?_; (with_reducible refine (jsonparser_decodeSingleUnicodeEscape.calls kj6 _ _ (l0.drop 6) t107 false _ ?side1 ?side2 A14.out).mono ?_); (case side1 => exact zq46); (case side2 => exact HC106.out); rintro e w' ⟨rfl, ⟨nd, rfl⟩⟩; refine ⟨_, rfl, ?_⟩))
    go_ret2
    exact ⟨by first | rfl | (simp; done) | (simp [*]; done), by repeat (first | exact Drawn0.refl _ | apply Drawn0.step)⟩
   subst c15
   have H1 : (if t107 < 56320 then (some (65533, 6)) else (if t107 > 57343 then (some (65533, 6)) else ((jsonparser_combineUTF16Surrogates.f t101 t107).bind fun t109 => (some (t109, 12))))) = some (r1, r2) := by rw [if_pos rfl] at H; exact H
   clear H
   have H := H1
   clear H1
   by_cases c16 : t107 < 56320
   ·rw [if_pos c16] at H
    have c16b0 : decide (t107 < 56320) = true := decide_eq_true c16
    clear c16
    simp only [Option.some.injEq, Prod.mk.injEq] at H
    obtain ⟨rfl, rfl⟩ := H
    obtain ⟨i017, hi017, _, hsz17, _⟩ := info_parts info5
    obtain ⟨A17, hcut17, hA17, hC17⟩ := print_drop_of (P := Tryd.prog) (Value.int .u8) 0 29 5 .i64 Tryd.underlying29 hi017 hsz17 A0 c0 l0 6 (by omega) (of_decide_eq_true zq9) HC0.out
    have HR106 := mk0 (Kd.C_of_reads (h1 := fun _ => rfl) (hA17 _ (Kd.reads_of_C HR0.out)))
    have HC106 := mk0 hC17
    clear hA17 hC17 hi017 hsz17
    go_wp2_with (first | ((with_reducible refine gate_callee (f := 80) rfl ?_); refine goesL_ (some 39) rfl rfl Tryd.func80 zq23 rfl #[.slice A17 (l0.drop 6).length (c0 - 6)] rfl zq37 ?_; (with_reducible refine (jsonparser_decodeSingleUnicodeEscape.calls kj6 _ _ (l0.drop 6) t107 true _ ?side1 ?side2 A14.out).mono ?_); (case side1 => exact zq46); (case side2 => exact HC106.out); rintro e w' ⟨rfl, ⟨nd, rfl⟩⟩; refine ⟨_, rfl, ?_⟩))
    go_ret2
    exact ⟨by first | rfl | (simp; done) | (simp [*]; done), by repeat (first | exact Drawn0.refl _ | apply Drawn0.step)⟩
   rw [if_neg c16] at H
   have c16b0 : decide (t107 < 56320) = false := decide_eq_false c16
   clear c16
   by_cases c18 : t107 > 57343
   ·rw [if_pos c18] at H
    have c18b0 : decide (57343 < t107) = true := decide_eq_true c18
    clear c18
    simp only [Option.some.injEq, Prod.mk.injEq] at H
    obtain ⟨rfl, rfl⟩ := H
    obtain ⟨i019, hi019, _, hsz19, _⟩ := info_parts info5
    obtain ⟨A19, hcut19, hA19, hC19⟩ := print_drop_of (P := Tryd.prog) (Value.int .u8) 0 29 5 .i64 Tryd.underlying29 hi019 hsz19 A0 c0 l0 6 (by omega) (of_decide_eq_true zq9) HC0.out
    have HR106 := mk0 (Kd.C_of_reads (h1 := fun _ => rfl) (hA19 _ (Kd.reads_of_C HR0.out)))
    have HC106 := mk0 hC19
    clear hA19 hC19 hi019 hsz19
    go_wp2_with (first | ((with_reducible refine gate_callee (f := 80) rfl ?_); refine goesL_ (some 39) rfl rfl Tryd.func80 zq23 rfl #[.slice A19 (l0.drop 6).length (c0 - 6)] rfl zq37 ?_; (with_reducible refine (jsonparser_decodeSingleUnicodeEscape.calls kj6 _ _ (l0.drop 6) t107 true _ ?side1 ?side2 A14.out).mono ?_); (case side1 => exact zq46); (case side2 => exact HC106.out); rintro e w' ⟨rfl, ⟨nd, rfl⟩⟩; refine ⟨_, rfl, ?_⟩))
    go_ret2
    exact ⟨by first | rfl | (simp; done) | (simp [*]; done), by repeat (first | exact Drawn0.refl _ | apply Drawn0.step)⟩
   rw [if_neg c18] at H
   have c18b0 : decide (57343 < t107) = false := decide_eq_false c18
   clear c18
   replace H := Option.bind_eq_some_iff.mp H
   obtain ⟨t109, A200, H⟩ := H
   replace H : (some (t109, 12)) = some (r1, r2) := H
   have A20 := mk0 A200
   clear A200
   simp only [Option.some.injEq, Prod.mk.injEq] at H
   obtain ⟨rfl, rfl⟩ := H
   obtain ⟨i021, hi021, _, hsz21, _⟩ := info_parts info5
   obtain ⟨A21, hcut21, hA21, hC21⟩ := print_drop_of (P := Tryd.prog) (Value.int .u8) 0 29 5 .i64 Tryd.underlying29 hi021 hsz21 A0 c0 l0 6 (by omega) (of_decide_eq_true zq9) HC0.out
   have HR106 := mk0 (Kd.C_of_reads (h1 := fun _ => rfl) (hA21 _ (Kd.reads_of_C HR0.out)))
   have HC106 := mk0 hC21
   clear hA21 hC21 hi021 hsz21
   go_wp2_with (first | ((with_reducible refine gate_callee (f := 80) rfl ?_); refine goesL_ (some 39) rfl rfl Tryd.func80 zq23 rfl #[.slice A21 (l0.drop 6).length (c0 - 6)] rfl zq37 ?_; (with_reducible refine (jsonparser_decodeSingleUnicodeEscape.calls kj6 _ _ (l0.drop 6) t107 true _ ?side1 ?side2 A14.out).mono ?_); (case side1 => exact zq46); (case side2 => exact HC106.out); rintro e w' ⟨rfl, ⟨nd, rfl⟩⟩; refine ⟨_, rfl, ?_⟩) | ((with_reducible refine gate_callee (f := 82) rfl ?_); refine goesL_ (some 52) rfl rfl Tryd.func82 zq23 rfl #[.int .i32 t101, .int .i32 t107] rfl zq2 ?_; (with_reducible refine (jsonparser_combineUTF16Surrogates.calls t101 t107 t109 _ A20.out).mono ?_); rintro e w' ⟨rfl, ⟨nd, rfl⟩⟩; refine ⟨_, rfl, ?_⟩))
   go_ret2
   exact ⟨by first | rfl | (simp; done) | (simp [*]; done), by repeat (first | exact Drawn0.refl _ | apply Drawn0.step)⟩
end Go.Proofs.YtaigbkkgmncipaaDoor.Y
end
section
namespace Go.Proofs.YtaigbkkgmncipaaDoor.Y
open Go.RowKit Go.Proofs.YtaigbkkgmncipaaDoorW.PrintWords Go.Proofs.YtaigbkkgmncipaaDoorW.PrintLast Go.Proofs.YtaigbkkgmncipaaDoorW.PrintMore
attribute [local go_sem] max2_int min2_int max_two min_two max_three min_three max_four min_four
set_option linter.unusedVariables false
set_option linter.unusedSimpArgs false

def eB (r : Int) : List Int :=
  if r < 128 then [r]
  else if r < 2048 then [192 + r / 64, 128 + r % 64]
  else if 55296 ≤ r ∧ r ≤ 57343 then [239, 191, 189]
  else if r < 65536 then [224 + r / 4096, 128 + r / 64 % 64, 128 + r % 64]
  else [240 + r / 262144, 128 + r / 4096 % 64, 128 + r / 64 % 64, 128 + r % 64]
theorem eB_len (r : Int) : 1 ≤ (eB r).length ∧ (eB r).length ≤ 4 := by
 unfold eB
 split
 ·simp
 split
 ·simp
 split
 ·simp
 split <;> simp
def setB (w : World) (g : Nat) : Nat → List Int → World
  | _, [] => w
  | o, b :: r => setB (w.setCell ⟨g, o, none⟩ (.int .u8 b)) g (o + 1) r
def EncPost (g off : Nat) (r : Int) (w : World) (e : Ending) (w' : World) : Prop := e = .returned (.int .i64 ((eB r).length : Int)) ∧ w' = setB w g off (eB r)
set_option maxHeartbeats 4000000 in
set_option maxRecDepth 100000 in
theorem encNon_at (g off n c : Nat) (r : Int) (w : World) (hr0 : 128 ≤ r) (hr1 : r ≤ 1114111) (hn : 4 ≤ n) (hn2 : n ≤ 9223372036854775807)
 (b0 b1 b2 b3 : Int) (h0 : w.cell? ⟨g, off, none⟩ = some (.int .u8 b0)) (h1 : w.cell? ⟨g, off + 1, none⟩ = some (.int .u8 b1)) (h2 : w.cell? ⟨g, off + 2, none⟩ = some (.int .u8 b2)) (h3 : w.cell? ⟨g, off + 3, none⟩ = some (.int .u8 b3))
 (f0 : w.frozen? ⟨g, off, none⟩ = false) (f1 : w.frozen? ⟨g, off + 1, none⟩ = false) (f2 : w.frozen? ⟨g, off + 2, none⟩ = false) (f3 : w.frozen? ⟨g, off + 3, none⟩ = false) :
 Calls Tryd.prog 63 #[.slice (some ⟨g, off, none⟩) n c, .int .i32 r] w (EncPost g off r w) := by
 have hu : (r % 4294967296) = r := by omega
 go_enter Tryd.func63, Tryd.ntmps63
 go_wp2
 all_goals
  go_ret
  unfold EncPost eB
  first
  | (rw [if_neg (by omega), if_pos (by omega)]; exact ⟨rfl, rfl⟩)
  | (rw [if_neg (by omega), if_neg (by omega), if_pos (by omega)]; exact ⟨rfl, rfl⟩)
  | (rw [if_neg (by omega), if_neg (by omega), if_neg (by omega), if_pos (by omega)]; exact ⟨rfl, rfl⟩)
  | (rw [if_neg (by omega), if_neg (by omega), if_neg (by omega), if_neg (by omega)]; exact ⟨rfl, rfl⟩)
set_option maxHeartbeats 4000000 in
set_option maxRecDepth 100000 in
theorem enc_at (g off n c : Nat) (r : Int) (w : World) (hr0 : 0 ≤ r) (hr1 : r ≤ 1114111) (hn : 4 ≤ n) (hn2 : n ≤ 9223372036854775807)
 (b0 b1 b2 b3 : Int) (h0 : w.cell? ⟨g, off, none⟩ = some (.int .u8 b0)) (h1 : w.cell? ⟨g, off + 1, none⟩ = some (.int .u8 b1)) (h2 : w.cell? ⟨g, off + 2, none⟩ = some (.int .u8 b2)) (h3 : w.cell? ⟨g, off + 3, none⟩ = some (.int .u8 b3))
 (f0 : w.frozen? ⟨g, off, none⟩ = false) (f1 : w.frozen? ⟨g, off + 1, none⟩ = false) (f2 : w.frozen? ⟨g, off + 2, none⟩ = false) (f3 : w.frozen? ⟨g, off + 3, none⟩ = false) :
 Calls Tryd.prog 40 #[.slice (some ⟨g, off, none⟩) n c, .int .i32 r] w (EncPost g off r w) := by
 by_cases hc : r < 128
 ·go_enter Tryd.func40, Tryd.ntmps40
  go_wp2
  go_ret
  unfold EncPost eB
  rw [if_pos hc]
  exact ⟨rfl, rfl⟩
 have hc1 : 127 < r := by omega
 have hc2 : 127 < r % 4294967296 := by omega
 go_enter Tryd.func40, Tryd.ntmps40
 go_wp2_with (go_at_call 63; (with_reducible refine (encNon_at g off n c r w (by omega) hr1 hn hn2 b0 b1 b2 b3 h0 h1 h2 h3 f0 f1 f2 f3).mono ?_); rintro e w' ⟨rfl, rfl⟩)
 go_ret
 exact ⟨rfl, rfl⟩
theorem set_mid {α : Type} (L : List α) (o : Nat) (b : α) (h : o < L.length) : L.set o b = L.take o ++ b :: L.drop (o + 1) := List.set_eq_take_append_cons_drop .. |>.trans (by rw [if_pos h])
theorem splice_cons {α : Type} (L : List α) (o : Nat) (b : α) (r : List α) (h : o < L.length) : splice (L.set o b) (o + 1) r = splice L o (b :: r) := by
 have ht : (L.take o).length = o := by rw [List.length_take]; omega
 unfold splice
 rw [set_mid L o b h]
 have e1 : (L.take o ++ b :: L.drop (o + 1)).take (o + 1) = L.take o ++ [b] := by
  rw [List.take_append, ht, Nat.add_sub_cancel_left, List.take_of_length_le (by omega)]
  rfl
 have e2 : (L.take o ++ b :: L.drop (o + 1)).drop (o + 1 + r.length) = L.drop (o + (b :: r).length) := by
  rw [List.drop_append, ht, List.drop_of_length_le (by omega), List.nil_append, show o + 1 + r.length - o = r.length + 1 by omega, List.drop_succ_cons, List.drop_drop]
  congr 1
  simp only [List.length_cons]
  omega
 rw [e1, e2]
 simp
theorem nums_set (L : List Int) (o : Nat) (b : Int) : (nums .u8 L).toArray.setIfInBounds o (.int .u8 b) = (nums .u8 (L.set o b)).toArray := by
 simp [nums, List.map_set]
theorem keep_setc {v W : World} {G j : Nat} {x : Value} (h : KeepBut v W G none) : KeepBut v (W.setCell ⟨G, j, none⟩ x) G none :=
 ⟨by have := h.1; simpa [World.setCell] using this, fun i hi hg hr => (heap_setCell_other W ⟨G, j, none⟩ i x hg).trans (h.2 i hi hg hr)⟩
theorem keep_tr {u v W : World} {G : Nat} (h : KeepBut u v G none) (k : KeepBut v W G none) : KeepBut u W G none :=
 ⟨Nat.le_trans h.1 k.1, fun i hi hg hr => (k.2 i (Nat.lt_of_lt_of_le hi h.1) hg hr).trans (h.2 i hi hg hr)⟩
structure BF (v w0 W : World) (G : Nat) (ty : Nat) (L : List Int) : Prop where
  blk : W.heap[G]? = some (.cells (nums .u8 L).toArray ty (0, 0))
  at_ : w0.heap.size ≤ G
  below : Below w0.heap.size w0 W
  keep : KeepBut v W G none
theorem BF.alloc {v w0 W : World} {G ty : Nat} {L : List Int} (h : BF v w0 W G ty L) (o : Obj) : BF v w0 (W.alloc o) G ty L := ⟨blk_alloc h.blk o, h.at_, below_alloc h.below o, keep_alloc h.keep o⟩
theorem BF.drewN {v w0 W : World} {G ty : Nat} {L : List Int} (h : BF v w0 W G ty L) (k : Nat) : BF v w0 (W.drewN k) G ty L := ⟨h.blk, h.at_, pw_below_drewN h.below k, keep_drewN h.keep k⟩
theorem BF.drawn0 {v w0 W w1 : World} {G ty : Nat} {L : List Int} (h : BF v w0 W G ty L) (hd : Drawn0 W w1) : BF v w0 w1 G ty L := by
 obtain ⟨k, rfl⟩ := hd.out
 exact h.drewN k
theorem BF.setB {v w0 : World} {G ty : Nat} : ∀ (bs : List Int) (o : Nat) (W : World) (L : List Int), BF v w0 W G ty L → o + bs.length ≤ L.length → BF v w0 (setB W G o bs) G ty (splice L o bs)
 | [], o, W, L, h, _ => by
  have e : splice L o [] = L := by simp [splice]
  rw [e]
  exact h
 | b :: r, o, W, L, h, hl => by
  simp only [List.length_cons] at hl
  rw [← splice_cons L o b r (by omega)]
  refine BF.setB r (o + 1) _ _ ⟨?_, h.at_, below_set h.below h.at_, keep_setc h.keep⟩ (by rw [List.length_set]; omega)
  rw [← nums_set]
  exact heap_setCell_same W G o _ _ _ h.blk
theorem BF.cell {v w0 W : World} {G ty : Nat} {L : List Int} (h : BF v w0 W G ty L) (i : Nat) (hi : i < L.length) : W.cell? ⟨G, i, none⟩ = some (.int .u8 (rd L i)) := by
 rw [blk_cell h.blk i]
 simp [nums, rd, hi]
theorem BF.frz {v w0 W : World} {G ty : Nat} {L : List Int} (h : BF v w0 W G ty L) (i : Nat) : W.frozen? ⟨G, i, none⟩ = false := blk_frozen h.blk i
theorem BF.self {v w0 W : World} {G ty : Nat} {L : List Int} (h : BF v w0 W G ty L) : BF W w0 W G ty L := ⟨h.blk, h.at_, h.below, KeepBut.refl _ _ _⟩
theorem BF.tr {u v w0 W : World} {G ty : Nat} {L : List Int} (k : KeepBut u v G none) (h : BF v w0 W G ty L) : BF u w0 W G ty L := ⟨h.blk, h.at_, h.below, keep_tr k h.keep⟩
def stp (k : Nat) (l : List Int) : Option (Int × List Int) :=
  if (l.length : Int) < 2 then some (-1, []) else if rd l 0 = 92 then
    (if J.isE (rd l 1) = true then some (2, [J.unl (rd l 1)])
    else if rd l 1 = 117 then (jsonparser_decodeUnicodeEscape.f k l).bind fun t => if t.2 = -1 then some (-1, []) else if 0 ≤ t.1 ∧ t.1 ≤ 1114111 ∧ 6 ≤ t.2 ∧ t.2 ≤ (l.length : Int) then some (t.2, eB t.1) else none
    else some (-1, []))
  else some (-1, [])
set_option maxHeartbeats 8000000 in
set_option maxRecDepth 100000 in
theorem u8c_calls (k : Nat) (l : List Int) (A : Option Addr) (c G q bl bc ty : Nat) (L : List Int) (n : Int) (bs : List Int) (w0 w : World) (hT : Laid w) (hr : Kd.C (Kd.int .u8) w A l.length l) (hc : l.length ≤ c) (hF : BF w w0 w G ty L) (hq : q + bl ≤ L.length) (hroom : l.length ≤ bl) (hbc : bl ≤ bc) (hl : l.length ≤ 2147483647) (hL : L.length ≤ 4294967296) (hbcm : bc ≤ 4294967296) (h : stp k l = some (n, bs)) :
 Calls Tryd.prog 70 #[.agg #[.bool false, .bool false, .int .i64 0], .slice A l.length c, .slice (some ⟨G, q, none⟩) bl bc] w fun e w' => e = .returned (.tuple #[.int .i64 n, .int .i64 (if n = -1 then -1 else (bs.length : Int))]) ∧ BF w w0 w' G ty (splice L q bs) := by
 have E0 := mk0 (show splice L q [] = L by simp [splice])
 have hFA : BF w w0 (w.alloc (.cells #[.bool false, .bool false, .int .i64 0] 95)) G ty L := hF.alloc _
 have hrA : Kd.C (Kd.int .u8) (w.alloc (.cells #[.bool false, .bool false, .int .i64 0] 95)) A l.length l := Kd.C_alloc hr _
 have HF := mk0 hFA
 have HR := mk0 hrA
 have HT := mk0 hT
 unfold stp at h
 by_cases h2 : (l.length : Int) < 2
 ·rw [if_pos h2] at h
  obtain ⟨rfl, rfl⟩ := Prod.mk.inj (Option.some.inj h)
  clear h hF hr hT hFA hrA
  have h2b : decide ((l.length : Int) < 2) = true := decide_eq_true h2
  go_enter Tryd.func70, Tryd.ntmps70
  go_wp2
  go_ret2
  rw [E0.out]
  exact ⟨rfl, HF.out⟩
 rw [if_neg h2] at h
 have h2b : decide ((l.length : Int) < 2) = false := decide_eq_false h2
 obtain ⟨ad, rfl, h0⟩ := Kd.at_int hrA 0 (by omega) (by omega)
 obtain ⟨ad', e', h1⟩ := Kd.at_int hrA 1 (by omega) (by omega)
 obtain rfl := Option.some.inj e'
 replace h0 : (w.alloc (.cells #[.bool false, .bool false, .int .i64 0] 95)).cell? ad = some (.int .u8 (rd l 0)) := h0
 replace h1 : (w.alloc (.cells #[.bool false, .bool false, .int .i64 0] 95)).cell? ⟨ad.block, ad.off + 1, none⟩ = some (.int .u8 (rd l 1)) := h1
 by_cases hb : rd l 0 = 92
 rotate_left
 ·rw [if_neg hb] at h
  obtain ⟨rfl, rfl⟩ := Prod.mk.inj (Option.some.inj h)
  clear h hF hr hT hFA hrA
  have hbb : (rd l 0 == 92) = false := by simp [hb]
  have hbd : decide (rd l 0 = 92) = false := decide_eq_false hb
  go_enter Tryd.func70, Tryd.ntmps70
  go_wp2
  go_ret2
  rw [E0.out]
  exact ⟨rfl, HF.out⟩
 rw [if_pos hb] at h
 rw [hb] at h0
 have hcG := HF.out.cell q (by omega)
 have hfG := HF.out.frz q
 by_cases hE : J.isE (rd l 1) = true
 ·rw [if_pos hE] at h
  obtain ⟨rfl, rfl⟩ := Prod.mk.inj (Option.some.inj h)
  clear h hF hr hT hFA hrA
  have hE2 : rd l 1 = 34 ∨ rd l 1 = 92 ∨ rd l 1 = 47 ∨ rd l 1 = 98 ∨ rd l 1 = 102 ∨ rd l 1 = 110 ∨ rd l 1 = 114 ∨ rd l 1 = 116 := by simpa [J.isE] using hE
  have hbel : Below w.heap.size w (w.alloc (.cells #[.bool false, .bool false, .int .i64 0] 95)) := below_alloc (Below.refl _ _) _
  have htab : ∀ j : Nat, j < 117 → (w.alloc (.cells #[.bool false, .bool false, .int .i64 0] 95)).cell? ⟨12, j, none⟩ = some (.int .u8 (tabv j)) := (HT.out.below hbel).tab
  have fin := fun (b : Int) => BF.setB [b] q _ _ HF.out zq56
  have FIN := mk0 fin
  clear fin hE
  have HTAB := mk0 htab
  clear htab hbel
  rcases hE2 with hz | hz | hz | hz | hz | hz | hz | hz
  all_goals
   rw [hz] at h1
   have ht := HTAB.out (rd l 1).toNat (by rw [hz]; decide)
   rw [hz] at ht ⊢
   simp only [Int.reduceToNat, tabv, Nat.reduceEqDiff, if_true, if_false] at ht
   clear hz
   go_enter Tryd.func70, Tryd.ntmps70
   go_wp2
   go_ret2
   exact ⟨rfl, FIN.out _⟩
 rw [if_neg hE] at h
 have hne : rd l 1 ≠ 34 ∧ rd l 1 ≠ 92 ∧ rd l 1 ≠ 47 ∧ rd l 1 ≠ 98 ∧ rd l 1 ≠ 102 ∧ rd l 1 ≠ 110 ∧ rd l 1 ≠ 114 ∧ rd l 1 ≠ 116 := by
  simp only [J.isE, decide_eq_true_eq, not_or] at hE
  exact hE
 clear hE
 by_cases h117 : rd l 1 = 117
 rotate_left
 ·rw [if_neg h117] at h
  obtain ⟨rfl, rfl⟩ := Prod.mk.inj (Option.some.inj h)
  clear h hF hr hT hFA hrA
  obtain ⟨n1, n2, n3, n4, n5, n6, n7, n8⟩ := hne
  have b1 : (rd l 1 == 34) = false := by simp [n1]
  have b2 : (rd l 1 == 92) = false := by simp [n2]
  have b3 : (rd l 1 == 47) = false := by simp [n3]
  have b4 : (rd l 1 == 98) = false := by simp [n4]
  have b5 : (rd l 1 == 102) = false := by simp [n5]
  have b6 : (rd l 1 == 110) = false := by simp [n6]
  have b7 : (rd l 1 == 114) = false := by simp [n7]
  have b8 : (rd l 1 == 116) = false := by simp [n8]
  have b9 : (rd l 1 == 117) = false := by simp [h117]
  have d1 := decide_eq_false n1
  have d2 := decide_eq_false n2
  have d3 := decide_eq_false n3
  have d4 := decide_eq_false n4
  have d5 := decide_eq_false n5
  have d6 := decide_eq_false n6
  have d7 := decide_eq_false n7
  have d8 := decide_eq_false n8
  have d9 := decide_eq_false h117
  by_cases h39 : rd l 1 = 39
  rotate_left
  ·have b10 : (rd l 1 == 39) = false := by simp [h39]
   have d10 := decide_eq_false h39
   go_enter Tryd.func70, Tryd.ntmps70
   go_wp2
   go_ret2
   rw [E0.out]
   exact ⟨rfl, HF.out⟩
  rw [h39] at h1
  clear n1 n2 n3 n4 n5 n6 n7 n8 b1 b2 b3 b4 b5 b6 b7 b8 b9 d1 d2 d3 d4 d5 d6 d7 d8 d9 h117 h39
  go_enter Tryd.func70, Tryd.ntmps70
  go_wp2
  go_ret2
  rw [E0.out]
  exact ⟨rfl, HF.out⟩
 rw [if_pos h117] at h
 replace h := Option.bind_eq_some_iff.mp h
 obtain ⟨⟨r, m⟩, hD, h⟩ := h
 simp only at h
 rw [h117] at h1
 have HD := mk0 hD
 clear hD hne h117
 by_cases hm : m = -1
 ·rw [if_pos hm] at h
  obtain ⟨rfl, rfl⟩ := Prod.mk.inj (Option.some.inj h)
  subst hm
  clear h hF hr hT hFA hrA
  go_enter Tryd.func70, Tryd.ntmps70
  go_wp2_with (first | (go_at_call 78; (with_reducible refine (jsonparser_decodeUnicodeEscape.calls k (some ad) c l r _ _ HR.out hc HD.out).mono ?_); rintro e w1 ⟨rfl, hd1⟩; have K1 := mk0 (HF.out.drawn0 hd1); clear hd1))
  go_ret2
  rw [E0.out]
  exact ⟨rfl, K1.out⟩
 rw [if_neg hm] at h
 split at h
 case isFalse => cases h
 case isTrue hg =>
 obtain ⟨hg0, hg1, hg2, hg3⟩ := hg
 obtain ⟨rfl, rfl⟩ := Prod.mk.inj (Option.some.inj h)
 have hmb : (m == -1) = false := by simp [hm]
 have hmd : decide (m = -1) = false := decide_eq_false hm
 have hle := eB_len r
 clear h hF hr hT hFA hrA
 go_enter Tryd.func70, Tryd.ntmps70
 go_wp2_with (first | (go_at_call 78; (with_reducible refine (jsonparser_decodeUnicodeEscape.calls k (some ad) c l r _ _ HR.out hc HD.out).mono ?_); rintro e w1 ⟨rfl, hd1⟩; have K1 := mk0 (HF.out.drawn0 hd1); clear hd1) | (go_at_call 40; (with_reducible refine (enc_at G q bl bc r _ hg0 hg1 (by omega) (by omega) _ _ _ _ (K1.out.cell q (by omega)) (K1.out.cell (q + 1) (by omega)) (K1.out.cell (q + 2) (by omega)) (K1.out.cell (q + 3) (by omega)) (K1.out.frz _) (K1.out.frz _) (K1.out.frz _) (K1.out.frz _)).mono ?_); rintro e w2 ⟨rfl, rfl⟩))
 go_ret2
 try rw [if_neg hm]
 exact ⟨rfl, K1.out.setB (eB r) q _ _ (by omega)⟩
def ixL : List Int → Int
  | [] => -1
  | b :: l => if b = 92 then 0 else if ixL l = -1 then -1 else ixL l + 1
theorem ixL_lib : ∀ l : List Int, (∀ x ∈ l, 0 ≤ x ∧ x ≤ 255) → Lib.indexByte (Lib.bytesOf l) (92 : Int).toNat.toUInt8 = ixL l
 | [], _ => rfl
 | b :: l, h => by
  have ih := ixL_lib l fun x hx => h x (by simp [hx])
  have hb := h b (by simp)
  have e : Lib.bytesOf (b :: l) = UInt8.ofNat b.toNat :: Lib.bytesOf l := rfl
  rw [e, Lib.indexByte, ih, ixL]
  have hq : (UInt8.ofNat b.toNat == (92 : Int).toNat.toUInt8) = decide (b = 92) := by
   by_cases h92 : b = 92
   ·subst h92
    rfl
   rw [decide_eq_false h92]
   refine beq_eq_false_iff_ne.mpr fun hh => h92 ?_
   have := congrArg UInt8.toNat hh
   simp at this
   omega
  rw [hq]
  by_cases h92 : b = 92
  rotate_left
  ·simp [h92]
  simp [h92]
theorem ixL_range : ∀ l : List Int, ixL l = -1 ∨ ∃ j : Nat, ixL l = (j : Int) ∧ j < l.length ∧ rd l j = 92
 | [] => .inl rfl
 | b :: l => by
  rw [ixL]
  by_cases h : b = 92
  ·rw [if_pos h]
   exact .inr ⟨0, rfl, by simp, by simp [rd, h]⟩
  rw [if_neg h]
  rcases ixL_range l with h1 | ⟨j, h1, h2, h3⟩
  ·rw [if_pos h1]
   exact .inl rfl
  ·rw [if_neg (by omega), h1]
   refine .inr ⟨j + 1, by omega, by simp; omega, ?_⟩
   simpa [rd] using h3
structure IN (w : World) (b o : Nat) (l : List Int) : Prop where
  cell : ∀ i, i < l.length → w.cell? ⟨b, o + i, none⟩ = some (.int .u8 (l.getD i 0))
  lt : b < w.heap.size
  u8 : ∀ x ∈ l, 0 ≤ x ∧ x ≤ 255
  max : l.length ≤ 2147483647
theorem IN.below {w0 W : World} {b o : Nat} {l : List Int} (h : IN w0 b o l) (hb : Below w0.heap.size w0 W) : IN W b o l :=
 ⟨fun i hi => (bel_cell hb h.lt).trans (h.cell i hi), Nat.lt_of_lt_of_le h.lt hb.size, h.u8, h.max⟩
theorem IN.C {w : World} {b o : Nat} {l : List Int} (h : IN w b o l) : Kd.C (Kd.int .u8) w (some ⟨b, o, none⟩) l.length l := by
 have hm := h.max
 refine Kd.C_of_reads (enc := Value.int .u8) (d := (0 : Int)) (h1 := fun _ => rfl) ⟨rfl, by omega, fun _ => ⟨⟨b, o, none⟩, rfl, fun j hj => ?_⟩⟩
 have e : (⟨b, o, none⟩ : Addr).add j = ⟨b, o + j, none⟩ := by
  unfold Addr.add
  split
  ·rename_i h0
   subst h0
   rfl
  ·rfl
 rw [e]
 exact h.cell j hj
theorem IN.drop {w : World} {b o : Nat} {l : List Int} (h : IN w b o l) (m : Nat) (hm : m ≤ l.length) : IN w b (o + m) (l.drop m) :=
 ⟨fun i hi => by
  rw [List.length_drop] at hi
  have := h.cell (m + i) (by omega)
  rw [show o + m + i = o + (m + i) by omega, this]
  simp [List.getD_eq_getElem?_getD], h.lt, fun x hx => h.u8 x (List.mem_of_mem_drop hx), by have := h.max; rw [List.length_drop]; omega⟩
theorem IN.take {w : World} {b o : Nat} {l : List Int} (h : IN w b o l) (m : Nat) (hm : m ≤ l.length) : IN w b o (l.take m) :=
 ⟨fun i hi => by
  rw [List.length_take] at hi
  rw [h.cell i (by omega)]
  simp [List.getD_eq_getElem?_getD, List.getElem?_take, show i < m by omega], h.lt, fun x hx => h.u8 x (List.mem_of_mem_take hx), by have := h.max; rw [List.length_take]; omega⟩
theorem IN.nil {w : World} {b : Nat} (h : b < w.heap.size) (o : Nat) : IN w b o [] := ⟨fun i hi => (by simp at hi), h, fun x hx => (by simp at hx), by simp⟩
theorem slc_l (A : Option Addr) (n c m : Nat) (hm : m ≤ n) : ∀ W : World, (Instr.slice 29 (.slice A n c) (some (.int .i64 (m : Int))) none none).run Tryd.prog W = .ok (.slice (if c = m then A else A.map (·.add m)) (n - m) (c - m)) W := fun W => by
 obtain ⟨i0, hi, hzz⟩ := Option.map_eq_some_iff.1 info5
 simp only [Prod.mk.injEq] at hzz
 have hel : (Tryd.prog).elem 29 = 5 := by simp [Program.elem, Tryd.underlying29]
 have hu : (Tryd.prog).underlying 29 = some (.slice ((Tryd.prog).elem 29)) := by rw [hel]; exact Tryd.underlying29
 rw [run_slice_l W 29 A n c hu .i64 (m : Int) (Int.natCast_nonneg _) (by omega), hel]
 simp [sizeOf, typeInfo, hi, hzz.2.1, sliced, Result.andThen]
theorem slc_h (A : Option Addr) (n c m : Nat) (hm : m ≤ c) : ∀ W : World, (Instr.slice 29 (.slice A n c) none (some (.int .i64 (m : Int))) none).run Tryd.prog W = .ok (.slice A m c) W := fun W => by
 obtain ⟨i0, hi, hzz⟩ := Option.map_eq_some_iff.1 info5
 simp only [Prod.mk.injEq] at hzz
 have hel : (Tryd.prog).elem 29 = 5 := by simp [Program.elem, Tryd.underlying29]
 have hu : (Tryd.prog).underlying 29 = some (.slice ((Tryd.prog).elem 29)) := by rw [hel]; exact Tryd.underlying29
 rw [run_slice_h W 29 A n c hu .i64 (m : Int) (Int.natCast_nonneg _) (by omega), hel]
 cases A with
 | none => simp [sizeOf, typeInfo, hi, hzz.2.1, sliced, Result.andThen]
 | some a => simp [sizeOf, typeInfo, hi, hzz.2.1, sliced, Result.andThen, Addr.add]
theorem slc_0h (A : Option Addr) (n c m : Nat) (hm : m ≤ c) : ∀ W : World, (Instr.slice 29 (.slice A n c) (some (.int .i64 0)) (some (.int .i64 (m : Int))) none).run Tryd.prog W = .ok (.slice A m c) W := fun W => by
 obtain ⟨i0, hi, hzz⟩ := Option.map_eq_some_iff.1 info5
 simp only [Prod.mk.injEq] at hzz
 have hel : (Tryd.prog).elem 29 = 5 := by simp [Program.elem, Tryd.underlying29]
 have hu : (Tryd.prog).underlying 29 = some (.slice ((Tryd.prog).elem 29)) := by rw [hel]; exact Tryd.underlying29
 rw [run_slice_lh W 29 A n c hu .i64 .i64 0 (m : Int) (by omega) (by omega) (by omega), hel]
 cases A with
 | none => simp [sizeOf, typeInfo, hi, hzz.2.1, sliced, Result.andThen]
 | some a => simp [sizeOf, typeInfo, hi, hzz.2.1, sliced, Result.andThen, Addr.add]
theorem add_at (b o m : Nat) : (⟨b, o, none⟩ : Addr).add m = ⟨b, o + m, none⟩ := by
 unfold Addr.add
 split
 ·rename_i h0
  subst h0
  rfl
 ·rfl
theorem cut_in {w0 : World} {b o : Nat} {l : List Int} (h : IN w0 b o l) (c m : Nat) (hm : m ≤ l.length) (hc : l.length ≤ c) :
 ∃ o1, (∀ W : World, (Instr.slice 29 (.slice (some ⟨b, o, none⟩) l.length c) (some (.int .i64 (m : Int))) none none).run Tryd.prog W = .ok (.slice (some ⟨b, o1, none⟩) (l.drop m).length (c - m)) W) ∧ IN w0 b o1 (l.drop m) ∧ (l.drop m).length ≤ c - m := by
 refine ⟨if c = m then o else o + m, fun W => ?_, ?_, by rw [List.length_drop]; omega⟩
 ·rw [slc_l _ _ _ _ hm W, List.length_drop]
  by_cases hcm : c = m
  ·rw [if_pos hcm, if_pos hcm]
  rw [if_neg hcm, if_neg hcm]
  simp only [Option.map_some, add_at]
 ·by_cases hcm : c = m
  rotate_left
  ·rw [if_neg hcm]
   exact h.drop m hm
  rw [if_pos hcm, List.drop_of_length_le (by omega)]
  exact IN.nil h.lt o
theorem cut_buf (G q n c m : Nat) (hm : m ≤ n) (hc : n ≤ c) :
 ∃ q1, (∀ W : World, (Instr.slice 29 (.slice (some ⟨G, q, none⟩) n c) (some (.int .i64 (m : Int))) none none).run Tryd.prog W = .ok (.slice (some ⟨G, q1, none⟩) (n - m) (c - m)) W) ∧ (0 < n - m → q1 = q + m) := by
 refine ⟨if c = m then q else q + m, fun W => ?_, fun h => if_neg (by omega)⟩
 rw [slc_l _ _ _ _ hm W]
 by_cases hcm : c = m
 ·rw [if_pos hcm, if_pos hcm]
 rw [if_neg hcm, if_neg hcm]
 simp only [Option.map_some, add_at]
theorem idx_calls {W : World} {b o : Nat} {l : List Int} (h : IN W b o l) (c : Nat) :
 Calls Tryd.prog 69 #[.slice (some ⟨b, o, none⟩) l.length c, .int .u8 92] W fun e w' => e = .returned (.int .i64 (ixL l)) ∧ w' = W := by
 have := Tryd.bytes_IndexByte b o l.length c l 92 W rfl h.cell
 rw [ixL_lib l h.u8] at this
 exact this
theorem make_bytes (n : Nat) (hn : n ≤ 4294967296) : ∀ W : World, (Instr.makeSlice 29 (.int .i64 (n : Int)) (.int .i64 (n : Int))).run Tryd.prog W = .ok (.slice (some ⟨W.heap.size, 0, none⟩) n n) (W.alloc (.cells (nums .u8 (List.replicate n 0)).toArray 5)) := fun W => by
 obtain ⟨i0, hi, hzz⟩ := Option.map_eq_some_iff.1 info5
 simp only [Prod.mk.injEq] at hzz
 have h := run_make (P := Tryd.prog) W 29 5 i0 (.int .u8 0) Tryd.underlying29 hi hzz.1 .i64 .i64 (n : Int) (n : Int) (by omega) (Int.le_refl _) (by rw [hzz.2.2]; omega) (by omega)
 rw [h, hzz.2.1]
 have e : madeCells (Value.int IntKind.u8 0).cells ((n : Int).toNat * 1) = (nums .u8 (List.replicate n 0)).toArray := by
  apply Array.toList_inj.mp
  rw [show (Value.int IntKind.u8 0).cells = #[Value.int IntKind.u8 0] from rfl, toList_madeCells_one]
  simp [nums]
 rw [e]
 simp
section
variable {P : Program} {ops : Array Oper} {rest : List Oper} {o : Oper} {a : Act} {Q : Exit → Act → World → Prop}
theorem copy_BF {v w0 W : World} {G ty : Nat} {L : List Int} (hgd : o.guard = none) (d s : Operand) (dT sT : TypeId)
 (ho : o.op = .call { callee := .builtin .copy, args := #[d, s], argTypes := #[dT, sT] }) (elem : TypeId) (hu : P.underlying dT = some (.slice elem)) (hsz : (P.info? elem).map (·.size) = some 1)
 (q bl bc b o1 sl sc : Nat) (hd : a.eval d = .slice (some ⟨G, q, none⟩) bl bc) (hs : a.eval s = .slice (some ⟨b, o1, none⟩) sl sc) (off : Nat) (hF : BF v w0 W G ty L) (xs : List Int) (hx : xs.length = sl) (hle : sl ≤ bl) (hoff : 0 < sl → q = off) (hcell : ∀ i, i < sl → W.cell? ⟨b, o1 + i, none⟩ = some (.int .u8 (xs.getD i 0))) (hfit : off + sl ≤ L.length)
 (h : ∀ W', BF v w0 W' G ty (splice L off xs) → wpList P ops Q rest (a.put o.dst (goInt sl)) W') : wpList P ops Q (o :: rest) a W := by
 by_cases h0 : sl = 0
 ·subst h0
  obtain rfl : xs = [] := List.eq_nil_of_length_eq_zero hx
  refine wpList_copy_nothing hgd d s dT sT ho elem hu hsz _ _ bl bc 0 sc hd hs (by simp) ?_
  have e : splice L off [] = L := by simp [splice]
  have := h W (by rw [e]; exact hF)
  exact this
 obtain rfl := hoff (by omega)
 have hcl : (nums .u8 xs).length = sl := by simp [nums, hx]
 refine wpList_copy_own hgd d s dT sT ho elem hu hsz G q bl bc ⟨b, o1, none⟩ sl sc hd hs (nums .u8 L).toArray ty hF.blk (nums .u8 xs) (by rw [hcl]; exact (Nat.min_eq_left hle).symm) (fun j u hj => ?_) (by rw [hcl]; simp [nums]; omega) (fun u hu => by simp only [nums, List.mem_map] at hu; obtain ⟨z, _, rfl⟩ := hu; rfl) ?_
 ·rw [add_at]
  have hlt : j < sl := by
   have := (List.getElem?_eq_some_iff.mp hj).1
   omega
  rw [hcell j hlt, ← hj]
  simp [nums, List.getD_eq_getElem?_getD, show j < xs.length by omega]
 ·have e : (nums .u8 L).toArray.toList.take q ++ (nums .u8 xs ++ (nums .u8 L).toArray.toList.drop (q + (nums .u8 xs).length)) = nums .u8 (splice L q xs) := by
   simp [nums, splice, List.map_take, List.map_drop]
  rw [e, hcl]
  refine h _ ⟨setRow_heap W G _ _ ty _ hF.blk, hF.at_, hF.below.trans ⟨rfl, rfl, rfl, by simp [World.setRow], fun i hi => setRow_other W G i _ (by have := hF.at_; omega)⟩, ?_⟩
  exact keep_tr hF.keep ⟨by simp [World.setRow], fun i hi hg _ => setRow_other W G i _ hg⟩
end
def jun (k : Nat) : Nat → List Int → List Int → Option (Option (List Int))
  | 0, _, _ => none
  | f + 1, l, E => (stp k l).bind fun t => if t.1 = -1 then some none
      else if 1 ≤ t.1 ∧ t.1 ≤ (l.length : Int) ∧ (t.2.length : Int) ≤ t.1 then
        (if ixL (l.drop t.1.toNat) = -1 then some (some (E ++ t.2 ++ l.drop t.1.toNat))
         else jun k f ((l.drop t.1.toNat).drop (ixL (l.drop t.1.toNat)).toNat) (E ++ t.2 ++ (l.drop t.1.toNat).take (ixL (l.drop t.1.toNat)).toNat))
      else none
def unc (k : Nat) (l : List Int) : Option (Option (List Int)) :=
  if ixL l = -1 then some (some l) else jun k k (l.drop (ixL l).toNat) (l.take (ixL l).toNat)
theorem sz1_ : ((Tryd.prog).info? 5).map (·.size) = some 1 := by
 obtain ⟨i0, hi, hzz⟩ := Option.map_eq_some_iff.1 info5
 simp only [Prod.mk.injEq] at hzz
 rw [hi, Option.map_some, hzz.2.1]
def UPost (w0 : World) (res : Option (List Int)) (e : Ending) (w' : World) : Prop :=
  Below w0.heap.size w0 w' ∧ match res with
  | some R => ∃ A' c', e = .returned (.tuple #[.slice A' R.length c', .nilIface]) ∧ R.length ≤ c' ∧ Kd.C (Kd.int .u8) w' A' R.length R
  | none => ∃ te pe, e = .returned (.tuple #[.slice none 0 0, .iface te pe]) ∧ w0.cell? ⟨10, 0, none⟩ = some (.iface te pe)
theorem splice_take {L : List Int} {q : Nat} {bs E : List Int} (hE : L.take q = E) (hl : E.length = q) (hf : q + bs.length ≤ L.length) : (splice L q bs).take (q + bs.length) = E ++ bs := by
 unfold splice
 rw [hE, ← List.append_assoc, List.take_append_of_le_length (by simp; omega), List.take_of_length_le (by simp; omega)]
theorem BF.C {v w0 W : World} {G ty : Nat} {L R : List Int} (h : BF v w0 W G ty L) (hR : L.take R.length = R) (hm : R.length ≤ 4294967296) : Kd.C (Kd.int .u8) W (some ⟨G, 0, none⟩) R.length R := by
 refine Kd.C_of_reads (enc := Value.int .u8) (d := (0 : Int)) (h1 := fun _ => rfl) ⟨rfl, by omega, fun _ => ⟨⟨G, 0, none⟩, rfl, fun j hj => ?_⟩⟩
 have hl : R.length ≤ L.length := by
  have := congrArg List.length hR
  rw [List.length_take] at this
  omega
 rw [add_at, Nat.zero_add, h.cell j (by omega)]
 have e : R.getD j 0 = L.getD j 0 := by
  conv => lhs; rw [← hR]
  simp [List.getD_eq_getElem?_getD, List.getElem?_take, hj]
 rw [e]
 rfl
theorem BF.box {v w0 W : World} {G ty X : Nat} {L : List Int} {o : Obj} (h : BF v w0 W G ty L) (hX : v.heap[X]? = some o) (hg : X ≠ G) : W.heap[X]? = some o :=
 (h.keep.2 X (blk_lt hX) hg (by simp)).trans hX
set_option maxHeartbeats 16000000 in
set_option maxRecDepth 100000 in
theorem uc_make (k : Nat) (l : List Int) (b o c : Nat) (w0 w : World) (res : Option (List Int)) (Ao : Option Addr) (on oc : Nat) (hT : Laid w0) (hB : Below w0.heap.size w0 w) (hI : IN w0 b o l) (hc : l.length ≤ c) (hcm : c ≤ 9223372036854775807) (j0 : Nat) (hj0 : ixL l = (j0 : Int)) (hj1 : j0 < l.length) (hoc : oc < l.length) (hQ : jun k k (l.drop j0) (l.take j0) = some res) :
 Calls Tryd.prog 58 #[.agg #[.bool false, .bool false, .int .i64 0], .slice (some ⟨b, o, none⟩) l.length c, .slice Ao on oc] w fun e w' => UPost w0 res e w' := by
 have HI := mk0 hI
 have HT := mk0 hT
 have HQ := mk0 hQ
 have hnl := hI.max
 have hjm : (((j0 : Nat) : Int) == -1) = false := by simp
 have hjm2 : decide (((j0 : Nat) : Int) = -1) = false := decide_eq_false (by omega)
 have HIX := mk0 (fun W_ (hB_ : Below w0.heap.size w0 W_) => idx_calls (hI.below hB_) c)
 rw [hj0] at HIX
 have HBA := mk0 (show Below w0.heap.size w0 (w.alloc (.cells #[.bool false, .bool false, .int .i64 0] 95)) from below_alloc hB _)
 clear hI hT hQ
 have hmk := make_bytes l.length (by omega)
 have hbd : decide ((oc : Int) < (l.length : Int)) = true := decide_eq_true (by omega)
 have hBw := hB.size
 obtain ⟨L0, hL0e⟩ : ∃ L0 : List Int, L0 = List.replicate l.length 0 := ⟨_, rfl⟩
 have hL0 : L0.length = l.length := by rw [hL0e]; simp
 have hnC : l.length ≤ l.length := Nat.le_refl _
 have hX : ((w.alloc (.cells #[.bool false, .bool false, .int .i64 0] 95)).alloc (.cells (nums .u8 L0).toArray 5)).heap[w.heap.size]? = some (.cells #[.bool false, .bool false, .int .i64 0] 95 (0, 0)) := blk_alloc (blk_new w _) _
 have hXG : w.heap.size ≠ w.heap.size + 1 := by omega
 have hF : BF ((w.alloc (.cells #[.bool false, .bool false, .int .i64 0] 95)).alloc (.cells (nums .u8 L0).toArray 5)) w0 ((w.alloc (.cells #[.bool false, .bool false, .int .i64 0] 95)).alloc (.cells (nums .u8 L0).toArray 5)) (w.heap.size + 1) 5 L0 :=
  ⟨by have := blk_new (w.alloc (.cells #[.bool false, .bool false, .int .i64 0] 95)) (.cells (nums .u8 L0).toArray 5); simpa using this, by omega, below_alloc HBA.out _, KeepBut.refl _ _ _⟩
 have HF := mk0 hF
 rw [← hL0e] at hmk
 clear hL0e hF
 go_enter Tryd.func58, Tryd.ntmps58
 go_upto_region 7 with (first | (go_at_call 69; (with_reducible refine (HIX.out _ HBA.out).mono ?_); rintro e_ w_ ⟨rfl, rfl⟩))
 clear HIX
 have hl0 : L0.length = l.length := hL0
 obtain ⟨o1, hcut1, HI1, hc1⟩ := cut_in HI.out c j0 (by omega) hc
 obtain ⟨q1, hcutb, hq1⟩ := cut_buf (w.heap.size + 1) 0 l.length l.length j0 (by omega) hnC
 have hcuth := slc_h (some ⟨b, o, none⟩) l.length c j0 (by omega)
 go_wp2_with (first | ((with_reducible refine gate_builtin (b := .copy) (xs := #[.tmp 30, .tmp 33]) rfl ?_); refine copy_BF (v := ((w.alloc (.cells #[.bool false, .bool false, .int .i64 0] 95)).alloc (.cells (nums .u8 L0).toArray 5))) (w0 := w0) rfl (.tmp 30) (.tmp 33) 29 29 rfl 5 Tryd.underlying29 sz1_ 0 l.length l.length b o j0 c rfl rfl 0 HF.out (l.take j0) zq66 (by omega) (fun _ => rfl) (fun i_ hi_ => ((HI.out.take j0 (by omega)).below HF.out.below).cell i_ zq66) (by omega) ?_; intro w1 HF1_; have HF1 := mk0 HF1_; clear HF1_ ))
 have HI1' := mk0 HI1
 clear HI1 hcut1 hcutb hcuth HF
 go_loopg [1, 9] k (fun kq v1 v9 w' => ∃ (lc : List Int) (oc_ cc q_ bl bc : Nat) (E L : List Int), v1 = .slice (some ⟨b, oc_, none⟩) lc.length cc ∧ v9 = .slice (some ⟨(w.heap.size + 1), q_, none⟩) bl bc ∧ Aside0 (kq ≤ k) ∧ Aside0 (IN w0 b oc_ lc) ∧ (lc.length ≤ cc ∧ cc ≤ 9223372036854775807 ∧ q_ + bl = l.length ∧ q_ + bc = l.length ∧ lc.length ≤ bl ∧ 1 ≤ lc.length) ∧ Aside0 (E.length = q_ ∧ L.length = l.length ∧ L.take q_ = E) ∧ Aside0 (jun k kq lc E = some res) ∧ Aside0 (BF ((w.alloc (.cells #[.bool false, .bool false, .int .i64 0] 95)).alloc (.cells (nums .u8 L0).toArray 5)) w0 w' (w.heap.size + 1) 5 L))
 case atStart =>
  have e1 : q1 = j0 := by have := hq1 (by omega); omega
  subst e1
  refine ⟨l.drop q1, o1, c - q1, q1, l.length - q1, l.length - q1, l.take q1, splice L0 0 (l.take q1), zq67, zq67, ⟨Nat.le_refl _⟩, HI1', ⟨hc1, by omega, by omega, by omega, by rw [List.length_drop]; omega, by rw [List.length_drop]; omega⟩, ⟨by rw [List.length_take]; omega, by rw [length_splice _ _ _ zq66]; exact hl0, ?_⟩, HQ, HF1⟩
  have := splice_take (L := L0) (q := 0) (bs := l.take q1) (E := []) (by simp) rfl zq66
  rwa [Nat.zero_add, List.length_take, Nat.min_eq_left (by omega), List.nil_append] at this
 case round =>
  clear HF1 HI1' HQ hq1 hc1
  obtain ⟨lc, oc_, cc, q_, bl, bc, E, L, rfl, rfl, HK1, HIc, hnum, HE, HQ, HF⟩ := hrel
  obtain ⟨hcc, hccm, hqb, hqc, hlb, hl1⟩ := hnum
  cases gk with
  | zero => exact absurd HQ.out (by simp [jun])
  | succ kr =>
   have hH := HQ.out
   clear HQ
   rw [jun] at hH
   replace hH := Option.bind_eq_some_iff.mp hH
   obtain ⟨⟨m, bs⟩, hS, hH⟩ := hH
   simp only at hH
   have hbox := HF.out.box hX hXG
   have x0 := blk_cell hbox 0
   have x1 := blk_cell hbox 1
   have x2 := blk_cell hbox 2
   clear hbox
   replace x0 : wr.cell? ⟨w.heap.size, 0, none⟩ = some (.bool false) := x0
   replace x1 : wr.cell? ⟨w.heap.size, 1, none⟩ = some (.bool false) := x1
   replace x2 : wr.cell? ⟨w.heap.size, 2, none⟩ = some (.int .i64 0) := x2
   have hLl : L.length = l.length := HE.out.2.1
   have HU := mk0 (u8c_calls k lc (some ⟨b, oc_, none⟩) cc (w.heap.size + 1) q_ bl bc 5 L m bs w0 wr (HT.out.below HF.out.below) (HIc.out.below HF.out.below).C hcc HF.out.self (by omega) hlb (by omega) (by have := HIc.out.max; omega) (by omega) (by omega) hS)
   clear hS
   by_cases hm : m = -1
   ·rw [if_pos hm] at hH
    obtain rfl := Option.some.inj hH
    subst hm
    obtain ⟨te, pe, hesc0⟩ := HT.out.esc
    go_wp2_with (first | (go_at_call 70; (with_reducible refine HU.out.mono ?_); rintro e_ w5 ⟨rfl, hd5⟩; have K5 := mk0 hd5; have hesc5 : w5.cell? ⟨10, 0, none⟩ = some (.iface te pe) := (bel_cell hd5.below (World.block_lt_of_cell? w0 _ hesc0)).trans hesc0; clear hd5))
    go_quiet (fail)
    go_wp2
    go_ret2
    exact ⟨by first | exact pw_below_drewN K5.out.below _ | exact K5.out.below, te, pe, rfl, hesc0⟩
   rw [if_neg hm] at hH
   split at hH
   case isFalse => cases hH
   case isTrue hg =>
   obtain ⟨hg0, hg1, hg2⟩ := hg
   skip
   obtain ⟨mm, rfl⟩ : ∃ x : Nat, m = (x : Int) := ⟨m.toNat, by omega⟩
   rw [Int.toNat_natCast] at hH
   have hmb : (((mm : Nat) : Int) == -1) = false := by simp
   have hmd : decide (((mm : Nat) : Int) = -1) = false := decide_eq_false hm
   obtain ⟨o2, hcut2, HI2, hc2⟩ := cut_in HIc.out cc mm (by omega) hcc
   obtain ⟨q2, hcutb2, hq2⟩ := cut_buf (w.heap.size + 1) q_ bl bc bs.length (by omega) (by omega)
   have hl2 : (lc.drop mm).length = lc.length - mm := List.length_drop
   generalize lc.drop mm = l2 at hcut2 HI2 hc2 hl2 hH
   have hb2 : bs.length + l2.length ≤ bl := by omega
   have HL2 := mk0 hl2
   clear hl2
   have HI2' := mk0 HI2
   clear HI2
   have hL5 : (splice L q_ bs).length = l.length := by rw [length_splice _ _ _ (by omega)]; exact hLl
   have hT5 := splice_take (bs := bs) HE.out.2.2 HE.out.1 (by omega)
   have HU2 := mk0 (HU.out.mono (fun e_ w_ (h_ : e_ = _ ∧ BF wr w0 w_ (w.heap.size + 1) 5 (splice L q_ bs)) => (⟨by rw [h_.1, if_neg hm], h_.2⟩ : e_ = .returned (.tuple #[.int .i64 (mm : Int), .int .i64 (bs.length : Int)]) ∧ BF wr w0 w_ (w.heap.size + 1) 5 (splice L q_ bs))))
   clear HU
   generalize splice L q_ bs = L5 at HU2 hL5 hT5
   have HT5 := mk0 hT5
   clear hT5 hm
   rcases ixL_range l2 with hix | ⟨j, hix, hj1, hj2⟩
   ·rw [if_pos hix] at hH
    obtain rfl := Option.some.inj hH
    have HIX2 := mk0 (fun W_ (hB_ : Below w0.heap.size w0 W_) => idx_calls (HI2'.out.below hB_) (cc - mm))
    rw [hix] at HIX2
    obtain ⟨q3, hcutb3, hq3⟩ := cut_buf (w.heap.size + 1) q2 (bl - bs.length) (bc - bs.length) l2.length (by omega) (by omega)
    have hfin : ∀ W : World, (Instr.slice 29 (.slice (some ⟨(w.heap.size + 1), 0, none⟩) l.length l.length) none (some (.int .i64 ((l.length : Int) - (((bl - bs.length - l2.length) : Nat) : Int)))) none).run Tryd.prog W = .ok (.slice (some ⟨(w.heap.size + 1), 0, none⟩) (q_ + bs.length + l2.length) l.length) W := fun W => by
     rw [show (l.length : Int) - (((bl - bs.length - l2.length) : Nat) : Int) = ((q_ + bs.length + l2.length : Nat) : Int) by omega]
     exact slc_h (some ⟨(w.heap.size + 1), 0, none⟩) l.length l.length (q_ + bs.length + l2.length) (by omega) W
    go_wp2_with (first | (go_at_call 70; (with_reducible refine HU2.out.mono ?_); rintro e_ w5 ⟨rfl, hd5⟩; have K5 := mk0 (BF.tr HF.out.keep hd5); clear hd5) | (go_at_call 69; (with_reducible refine (HIX2.out _ zq64).mono ?_); rintro e_ w_ ⟨rfl, rfl⟩) | ((with_reducible refine gate_builtin (b := .copy) (xs := #[.tmp 61, .tmp 62]) rfl ?_); refine copy_BF (v := ((w.alloc (.cells #[.bool false, .bool false, .int .i64 0] 95)).alloc (.cells (nums .u8 L0).toArray 5))) (w0 := w0) rfl (.tmp 61) (.tmp 62) 29 29 rfl 5 Tryd.underlying29 sz1_ q2 (bl - bs.length) (bc - bs.length) b o2 l2.length (cc - mm) rfl rfl (q_ + bs.length) K5.out l2 rfl (by omega) (fun hp => hq2 (by omega)) (HI2'.out.below K5.out.below).cell (by omega) ?_; intro w6 K6_; have K6 := mk0 K6_; clear K6_ ))
    go_ret2
    have hlR : (E ++ bs ++ l2).length = q_ + bs.length + l2.length := by have := HE.out.1; simp only [List.length_append]; omega
    have hlE : (E ++ bs).length = q_ + bs.length := by have := HE.out.1; simp only [List.length_append]; omega
    have hRt := splice_take (L := L5) (q := q_ + bs.length) (bs := l2) HT5.out hlE (by omega)
    rw [← hlR] at hRt ⊢
    exact ⟨K6.out.below, _, _, rfl, by omega, K6.out.C hRt (by omega)⟩
   ·rw [if_neg (by omega), hix, Int.toNat_natCast] at hH
    have HIX2 := mk0 (fun W_ (hB_ : Below w0.heap.size w0 W_) => idx_calls (HI2'.out.below hB_) (cc - mm))
    rw [hix] at HIX2
    have hjb : (((j : Nat) : Int) == -1) = false := by simp
    have hjd : decide (((j : Nat) : Int) = -1) = false := decide_eq_false (by omega)
    obtain ⟨q3, hcutb3, hq3⟩ := cut_buf (w.heap.size + 1) q2 (bl - bs.length) (bc - bs.length) j (by omega) (by omega)
    obtain ⟨o3, hcut3, HI3, hc3⟩ := cut_in HI2'.out (cc - mm) j (by omega) hc2
    have hcuth3 := slc_h (some ⟨b, o2, none⟩) l2.length (cc - mm) j (by omega)
    have HI3' := mk0 HI3
    have HQ := mk0 hH
    clear HI3 hH
    have hlt3 : (l2.take j).length = j := by rw [List.length_take]; omega
    go_wp2_with (first | (go_at_call 70; (with_reducible refine HU2.out.mono ?_); rintro e_ w5 ⟨rfl, hd5⟩; have K5 := mk0 (BF.tr HF.out.keep hd5); clear hd5) | (go_at_call 69; (with_reducible refine (HIX2.out _ zq64).mono ?_); rintro e_ w_ ⟨rfl, rfl⟩) | ((with_reducible refine gate_builtin (b := .copy) (xs := #[.tmp 68, .tmp 71]) rfl ?_); refine copy_BF (v := ((w.alloc (.cells #[.bool false, .bool false, .int .i64 0] 95)).alloc (.cells (nums .u8 L0).toArray 5))) (w0 := w0) rfl (.tmp 68) (.tmp 71) 29 29 rfl 5 Tryd.underlying29 sz1_ q2 (bl - bs.length) (bc - bs.length) b o2 j (cc - mm) rfl rfl (q_ + bs.length) K5.out (l2.take j) hlt3 (by omega) (fun hp => hq2 (by omega)) (fun i_ hi_ => ((HI2'.out.take j (by omega)).below K5.out.below).cell i_ (by omega)) (by omega) ?_; intro w6 K6_; have K6 := mk0 K6_; clear K6_ ))
    go_roundg kr
    case measure => have := HK1.out; omega
    case rel =>
     have hl2 := HL2.out
     have hl3 : (l2.drop j).length = l2.length - j := List.length_drop
     have e2 : q2 = q_ + bs.length := hq2 (by omega)
     have e3 : q3 = q_ + bs.length + j := by have := hq3 (by omega); omega
     subst e2
     subst e3
     refine ⟨l2.drop j, o3, cc - mm - j, q_ + bs.length + j, bl - bs.length - j, bc - bs.length - j, E ++ bs ++ l2.take j, splice L5 (q_ + bs.length) (l2.take j), zq67, zq67, ⟨by have := HK1.out; omega⟩, HI3', ⟨hc3, by omega, by omega, by omega, by omega, by omega⟩, ⟨by have := HE.out.1; simp only [List.length_append]; omega, by rw [length_splice _ _ _ (by omega)]; exact hL5, ?_⟩, HQ, K6⟩
     have := splice_take (L := L5) (q := q_ + bs.length) (bs := l2.take j) HT5.out (by have := HE.out.1; simp only [List.length_append]; omega) (by omega)
     rwa [hlt3] at this
set_option maxHeartbeats 16000000 in
set_option maxRecDepth 100000 in
theorem uc_there (k : Nat) (l : List Int) (b o c : Nat) (w0 w : World) (res : Option (List Int)) (G ty : Nat) (L0 : List Int) (hT : Laid w0) (hB : Below w0.heap.size w0 w) (hI : IN w0 b o l) (hc : l.length ≤ c) (hcm : c ≤ 9223372036854775807) (j0 : Nat) (hj0 : ixL l = (j0 : Int)) (hj1 : j0 < l.length) (hF0 : BF w w0 w G ty L0) (hL64 : L0.length = 64) (hr64 : l.length ≤ 64) (hQ : jun k k (l.drop j0) (l.take j0) = some res) :
 Calls Tryd.prog 58 #[.agg #[.bool false, .bool false, .int .i64 0], .slice (some ⟨b, o, none⟩) l.length c, .slice (some ⟨G, 0, none⟩) 64 64] w fun e w' => UPost w0 res e w' := by
 have HI := mk0 hI
 have HT := mk0 hT
 have HQ := mk0 hQ
 have hnl := hI.max
 have hjm : (((j0 : Nat) : Int) == -1) = false := by simp
 have hjm2 : decide (((j0 : Nat) : Int) = -1) = false := decide_eq_false (by omega)
 have HIX := mk0 (fun W_ (hB_ : Below w0.heap.size w0 W_) => idx_calls (hI.below hB_) c)
 rw [hj0] at HIX
 have HBA := mk0 (show Below w0.heap.size w0 (w.alloc (.cells #[.bool false, .bool false, .int .i64 0] 95)) from below_alloc hB _)
 clear hI hT hQ
 have hbd : decide ((64 : Int) < (l.length : Int)) = false := decide_eq_false (by omega)
 have hbd2 : ¬ ((64 : Int) < (l.length : Int)) := by omega
 have hcut0 := slc_0h (some ⟨G, 0, none⟩) 64 64 l.length hr64
 have hnC : l.length ≤ 64 := hr64
 have hL0 : L0.length = 64 := hL64
 have hX : (w.alloc (.cells #[.bool false, .bool false, .int .i64 0] 95)).heap[w.heap.size]? = some (.cells #[.bool false, .bool false, .int .i64 0] 95 (0, 0)) := blk_new w _
 have hXG : w.heap.size ≠ G := by have := blk_lt hF0.blk; omega
 have HF := mk0 (hF0.alloc (.cells #[.bool false, .bool false, .int .i64 0] 95)).self
 clear hF0
 go_enter Tryd.func58, Tryd.ntmps58
 go_upto_region 7 with (first | (go_at_call 69; (with_reducible refine (HIX.out _ HBA.out).mono ?_); rintro e_ w_ ⟨rfl, rfl⟩))
 clear HIX
 have hl0 : L0.length = 64 := hL0
 obtain ⟨o1, hcut1, HI1, hc1⟩ := cut_in HI.out c j0 (by omega) hc
 obtain ⟨q1, hcutb, hq1⟩ := cut_buf G 0 l.length 64 j0 (by omega) hnC
 have hcuth := slc_h (some ⟨b, o, none⟩) l.length c j0 (by omega)
 go_wp2_with (first | ((with_reducible refine gate_builtin (b := .copy) (xs := #[.tmp 30, .tmp 33]) rfl ?_); refine copy_BF (v := (w.alloc (.cells #[.bool false, .bool false, .int .i64 0] 95))) (w0 := w0) rfl (.tmp 30) (.tmp 33) 29 29 rfl 5 Tryd.underlying29 sz1_ 0 l.length 64 b o j0 c rfl rfl 0 HF.out (l.take j0) zq66 (by omega) (fun _ => rfl) (fun i_ hi_ => ((HI.out.take j0 (by omega)).below HF.out.below).cell i_ zq66) (by omega) ?_; intro w1 HF1_; have HF1 := mk0 HF1_; clear HF1_ ))
 have HI1' := mk0 HI1
 clear HI1 hcut1 hcutb hcuth HF
 go_loopg [1, 9] k (fun kq v1 v9 w' => ∃ (lc : List Int) (oc_ cc q_ bl bc : Nat) (E L : List Int), v1 = .slice (some ⟨b, oc_, none⟩) lc.length cc ∧ v9 = .slice (some ⟨G, q_, none⟩) bl bc ∧ Aside0 (kq ≤ k) ∧ Aside0 (IN w0 b oc_ lc) ∧ (lc.length ≤ cc ∧ cc ≤ 9223372036854775807 ∧ q_ + bl = l.length ∧ q_ + bc = 64 ∧ lc.length ≤ bl ∧ 1 ≤ lc.length) ∧ Aside0 (E.length = q_ ∧ L.length = 64 ∧ L.take q_ = E) ∧ Aside0 (jun k kq lc E = some res) ∧ Aside0 (BF (w.alloc (.cells #[.bool false, .bool false, .int .i64 0] 95)) w0 w' G ty L))
 case atStart =>
  have e1 : q1 = j0 := by have := hq1 (by omega); omega
  subst e1
  refine ⟨l.drop q1, o1, c - q1, q1, l.length - q1, 64 - q1, l.take q1, splice L0 0 (l.take q1), zq67, zq67, ⟨Nat.le_refl _⟩, HI1', ⟨hc1, by omega, by omega, by omega, by rw [List.length_drop]; omega, by rw [List.length_drop]; omega⟩, ⟨by rw [List.length_take]; omega, by rw [length_splice _ _ _ zq66]; exact hl0, ?_⟩, HQ, HF1⟩
  have := splice_take (L := L0) (q := 0) (bs := l.take q1) (E := []) (by simp) rfl zq66
  rwa [Nat.zero_add, List.length_take, Nat.min_eq_left (by omega), List.nil_append] at this
 case round =>
  clear HF1 HI1' HQ hq1 hc1
  obtain ⟨lc, oc_, cc, q_, bl, bc, E, L, rfl, rfl, HK1, HIc, hnum, HE, HQ, HF⟩ := hrel
  obtain ⟨hcc, hccm, hqb, hqc, hlb, hl1⟩ := hnum
  cases gk with
  | zero => exact absurd HQ.out (by simp [jun])
  | succ kr =>
   have hH := HQ.out
   clear HQ
   rw [jun] at hH
   replace hH := Option.bind_eq_some_iff.mp hH
   obtain ⟨⟨m, bs⟩, hS, hH⟩ := hH
   simp only at hH
   have hbox := HF.out.box hX hXG
   have x0 := blk_cell hbox 0
   have x1 := blk_cell hbox 1
   have x2 := blk_cell hbox 2
   clear hbox
   replace x0 : wr.cell? ⟨w.heap.size, 0, none⟩ = some (.bool false) := x0
   replace x1 : wr.cell? ⟨w.heap.size, 1, none⟩ = some (.bool false) := x1
   replace x2 : wr.cell? ⟨w.heap.size, 2, none⟩ = some (.int .i64 0) := x2
   have hLl : L.length = 64 := HE.out.2.1
   have HU := mk0 (u8c_calls k lc (some ⟨b, oc_, none⟩) cc G q_ bl bc ty L m bs w0 wr (HT.out.below HF.out.below) (HIc.out.below HF.out.below).C hcc HF.out.self (by omega) hlb (by omega) (by have := HIc.out.max; omega) (by omega) (by omega) hS)
   clear hS
   by_cases hm : m = -1
   ·rw [if_pos hm] at hH
    obtain rfl := Option.some.inj hH
    subst hm
    obtain ⟨te, pe, hesc0⟩ := HT.out.esc
    go_wp2_with (first | (go_at_call 70; (with_reducible refine HU.out.mono ?_); rintro e_ w5 ⟨rfl, hd5⟩; have K5 := mk0 hd5; have hesc5 : w5.cell? ⟨10, 0, none⟩ = some (.iface te pe) := (bel_cell hd5.below (World.block_lt_of_cell? w0 _ hesc0)).trans hesc0; clear hd5))
    go_quiet (fail)
    go_wp2
    go_ret2
    exact ⟨by first | exact pw_below_drewN K5.out.below _ | exact K5.out.below, te, pe, rfl, hesc0⟩
   rw [if_neg hm] at hH
   split at hH
   case isFalse => cases hH
   case isTrue hg =>
   obtain ⟨hg0, hg1, hg2⟩ := hg
   skip
   obtain ⟨mm, rfl⟩ : ∃ x : Nat, m = (x : Int) := ⟨m.toNat, by omega⟩
   rw [Int.toNat_natCast] at hH
   have hmb : (((mm : Nat) : Int) == -1) = false := by simp
   have hmd : decide (((mm : Nat) : Int) = -1) = false := decide_eq_false hm
   obtain ⟨o2, hcut2, HI2, hc2⟩ := cut_in HIc.out cc mm (by omega) hcc
   obtain ⟨q2, hcutb2, hq2⟩ := cut_buf G q_ bl bc bs.length (by omega) (by omega)
   have hl2 : (lc.drop mm).length = lc.length - mm := List.length_drop
   generalize lc.drop mm = l2 at hcut2 HI2 hc2 hl2 hH
   have hb2 : bs.length + l2.length ≤ bl := by omega
   have HL2 := mk0 hl2
   clear hl2
   have HI2' := mk0 HI2
   clear HI2
   have hL5 : (splice L q_ bs).length = 64 := by rw [length_splice _ _ _ (by omega)]; exact hLl
   have hT5 := splice_take (bs := bs) HE.out.2.2 HE.out.1 (by omega)
   have HU2 := mk0 (HU.out.mono (fun e_ w_ (h_ : e_ = _ ∧ BF wr w0 w_ G ty (splice L q_ bs)) => (⟨by rw [h_.1, if_neg hm], h_.2⟩ : e_ = .returned (.tuple #[.int .i64 (mm : Int), .int .i64 (bs.length : Int)]) ∧ BF wr w0 w_ G ty (splice L q_ bs))))
   clear HU
   generalize splice L q_ bs = L5 at HU2 hL5 hT5
   have HT5 := mk0 hT5
   clear hT5 hm
   rcases ixL_range l2 with hix | ⟨j, hix, hj1, hj2⟩
   ·rw [if_pos hix] at hH
    obtain rfl := Option.some.inj hH
    have HIX2 := mk0 (fun W_ (hB_ : Below w0.heap.size w0 W_) => idx_calls (HI2'.out.below hB_) (cc - mm))
    rw [hix] at HIX2
    obtain ⟨q3, hcutb3, hq3⟩ := cut_buf G q2 (bl - bs.length) (bc - bs.length) l2.length (by omega) (by omega)
    have hfin : ∀ W : World, (Instr.slice 29 (.slice (some ⟨G, 0, none⟩) l.length 64) none (some (.int .i64 ((l.length : Int) - (((bl - bs.length - l2.length) : Nat) : Int)))) none).run Tryd.prog W = .ok (.slice (some ⟨G, 0, none⟩) (q_ + bs.length + l2.length) 64) W := fun W => by
     rw [show (l.length : Int) - (((bl - bs.length - l2.length) : Nat) : Int) = ((q_ + bs.length + l2.length : Nat) : Int) by omega]
     exact slc_h (some ⟨G, 0, none⟩) l.length 64 (q_ + bs.length + l2.length) (by omega) W
    go_wp2_with (first | (go_at_call 70; (with_reducible refine HU2.out.mono ?_); rintro e_ w5 ⟨rfl, hd5⟩; have K5 := mk0 (BF.tr HF.out.keep hd5); clear hd5) | (go_at_call 69; (with_reducible refine (HIX2.out _ zq64).mono ?_); rintro e_ w_ ⟨rfl, rfl⟩) | ((with_reducible refine gate_builtin (b := .copy) (xs := #[.tmp 61, .tmp 62]) rfl ?_); refine copy_BF (v := (w.alloc (.cells #[.bool false, .bool false, .int .i64 0] 95))) (w0 := w0) rfl (.tmp 61) (.tmp 62) 29 29 rfl 5 Tryd.underlying29 sz1_ q2 (bl - bs.length) (bc - bs.length) b o2 l2.length (cc - mm) rfl rfl (q_ + bs.length) K5.out l2 rfl (by omega) (fun hp => hq2 (by omega)) (HI2'.out.below K5.out.below).cell (by omega) ?_; intro w6 K6_; have K6 := mk0 K6_; clear K6_ ))
    go_ret2
    have hlR : (E ++ bs ++ l2).length = q_ + bs.length + l2.length := by have := HE.out.1; simp only [List.length_append]; omega
    have hlE : (E ++ bs).length = q_ + bs.length := by have := HE.out.1; simp only [List.length_append]; omega
    have hRt := splice_take (L := L5) (q := q_ + bs.length) (bs := l2) HT5.out hlE (by omega)
    rw [← hlR] at hRt ⊢
    exact ⟨K6.out.below, _, _, rfl, by omega, K6.out.C hRt (by omega)⟩
   ·rw [if_neg (by omega), hix, Int.toNat_natCast] at hH
    have HIX2 := mk0 (fun W_ (hB_ : Below w0.heap.size w0 W_) => idx_calls (HI2'.out.below hB_) (cc - mm))
    rw [hix] at HIX2
    have hjb : (((j : Nat) : Int) == -1) = false := by simp
    have hjd : decide (((j : Nat) : Int) = -1) = false := decide_eq_false (by omega)
    obtain ⟨q3, hcutb3, hq3⟩ := cut_buf G q2 (bl - bs.length) (bc - bs.length) j (by omega) (by omega)
    obtain ⟨o3, hcut3, HI3, hc3⟩ := cut_in HI2'.out (cc - mm) j (by omega) hc2
    have hcuth3 := slc_h (some ⟨b, o2, none⟩) l2.length (cc - mm) j (by omega)
    have HI3' := mk0 HI3
    have HQ := mk0 hH
    clear HI3 hH
    have hlt3 : (l2.take j).length = j := by rw [List.length_take]; omega
    go_wp2_with (first | (go_at_call 70; (with_reducible refine HU2.out.mono ?_); rintro e_ w5 ⟨rfl, hd5⟩; have K5 := mk0 (BF.tr HF.out.keep hd5); clear hd5) | (go_at_call 69; (with_reducible refine (HIX2.out _ zq64).mono ?_); rintro e_ w_ ⟨rfl, rfl⟩) | ((with_reducible refine gate_builtin (b := .copy) (xs := #[.tmp 68, .tmp 71]) rfl ?_); refine copy_BF (v := (w.alloc (.cells #[.bool false, .bool false, .int .i64 0] 95))) (w0 := w0) rfl (.tmp 68) (.tmp 71) 29 29 rfl 5 Tryd.underlying29 sz1_ q2 (bl - bs.length) (bc - bs.length) b o2 j (cc - mm) rfl rfl (q_ + bs.length) K5.out (l2.take j) hlt3 (by omega) (fun hp => hq2 (by omega)) (fun i_ hi_ => ((HI2'.out.take j (by omega)).below K5.out.below).cell i_ (by omega)) (by omega) ?_; intro w6 K6_; have K6 := mk0 K6_; clear K6_ ))
    go_roundg kr
    case measure => have := HK1.out; omega
    case rel =>
     have hl2 := HL2.out
     have hl3 : (l2.drop j).length = l2.length - j := List.length_drop
     have e2 : q2 = q_ + bs.length := hq2 (by omega)
     have e3 : q3 = q_ + bs.length + j := by have := hq3 (by omega); omega
     subst e2
     subst e3
     refine ⟨l2.drop j, o3, cc - mm - j, q_ + bs.length + j, bl - bs.length - j, bc - bs.length - j, E ++ bs ++ l2.take j, splice L5 (q_ + bs.length) (l2.take j), zq67, zq67, ⟨by have := HK1.out; omega⟩, HI3', ⟨hc3, by omega, by omega, by omega, by omega, by omega⟩, ⟨by have := HE.out.1; simp only [List.length_append]; omega, by rw [length_splice _ _ _ (by omega)]; exact hL5, ?_⟩, HQ, K6⟩
     have := splice_take (L := L5) (q := q_ + bs.length) (bs := l2.take j) HT5.out (by have := HE.out.1; simp only [List.length_append]; omega) (by omega)
     rwa [hlt3] at this
set_option maxHeartbeats 8000000 in
set_option maxRecDepth 100000 in
theorem uc_none (l : List Int) (b o c : Nat) (w0 w : World) (ov : Value) (hB : Below w0.heap.size w0 w) (hI : IN w0 b o l) (hc : l.length ≤ c) (hj : ixL l = -1) :
 Calls Tryd.prog 58 #[.agg #[.bool false, .bool false, .int .i64 0], .slice (some ⟨b, o, none⟩) l.length c, ov] w fun e w' => UPost w0 (some l) e w' := by
 have HI := mk0 hI
 have HIX := mk0 (fun W_ (hB_ : Below w0.heap.size w0 W_) => idx_calls (hI.below hB_) c)
 rw [hj] at HIX
 have HBA := mk0 (show Below w0.heap.size w0 (w.alloc (.cells #[.bool false, .bool false, .int .i64 0] 95)) from below_alloc hB _)
 clear hI hj hB
 go_enter Tryd.func58, Tryd.ntmps58
 go_wp2_with (first | (go_at_call 69; (with_reducible refine (HIX.out _ HBA.out).mono ?_); rintro e_ w_ ⟨rfl, rfl⟩))
 go_ret2
 exact ⟨HBA.out, _, _, rfl, hc, (HI.out.below HBA.out).C⟩
theorem unc_there (k : Nat) (l : List Int) (b o c : Nat) (w0 w : World) (res : Option (List Int)) (G ty : Nat) (L0 : List Int) (hT : Laid w0) (hB : Below w0.heap.size w0 w) (hI : IN w0 b o l) (hc : l.length ≤ c) (hcm : c ≤ 9223372036854775807) (hF0 : BF w w0 w G ty L0) (hL64 : L0.length = 64) (h : unc k l = some res) :
 Calls Tryd.prog 58 #[.agg #[.bool false, .bool false, .int .i64 0], .slice (some ⟨b, o, none⟩) l.length c, .slice (some ⟨G, 0, none⟩) 64 64] w fun e w' => UPost w0 res e w' := by
 unfold unc at h
 rcases ixL_range l with hj | ⟨j, hj, hj1, _⟩
 ·rw [if_pos hj] at h
  obtain rfl := Option.some.inj h
  exact uc_none l b o c w0 w _ hB hI hc hj
 ·rw [if_neg (by omega), hj, Int.toNat_natCast] at h
  by_cases h64 : l.length ≤ 64
  rotate_left
  ·exact uc_make k l b o c w0 w res _ _ _ hT hB hI hc hcm j hj hj1 (by omega) h
  exact uc_there k l b o c w0 w res G ty L0 hT hB hI hc hcm j hj hj1 hF0 hL64 h64 h
set_option maxHeartbeats 8000000 in
set_option maxRecDepth 100000 in
theorem ue_calls (l : List Int) (b o c : Nat) (w0 w : World) (res : Option (List Int)) (ov : Value) (hT : Laid w0) (hB : Below w0.heap.size w0 w)
 (hU : Calls Tryd.prog 58 #[.agg #[.bool false, .bool false, .int .i64 0], .slice (some ⟨b, o, none⟩) l.length c, ov] w fun e w' => UPost w0 res e w') :
 Calls Tryd.prog 33 #[.slice (some ⟨b, o, none⟩) l.length c, ov] w fun e w' => UPost w0 res e w' := by
 have c0 := (hT.below hB).cfg0
 have c1 := (hT.below hB).cfg1
 have c2 := (hT.below hB).cfg2
 have HU := mk0 hU
 clear hT hB hU
 cases res with
 | some R =>
  go_enter Tryd.func33, Tryd.ntmps33
  go_wp2_with (first | (go_at_call 58; (with_reducible refine HU.out.mono ?_); rintro e_ w_ ⟨hb, A', c', rfl, hc', hC'⟩; have K := mk0 (And.intro hb (And.intro hc' hC')); clear hb hc' hC'))
  go_ret2
  exact ⟨K.out.1, A', c', rfl, K.out.2.1, K.out.2.2⟩
 | none =>
  go_enter Tryd.func33, Tryd.ntmps33
  go_wp2_with (first | (go_at_call 58; (with_reducible refine HU.out.mono ?_); rintro e_ w_ ⟨hb, te, pe, rfl, hesc⟩; have K := mk0 (And.intro hb hesc); clear hb hesc))
  go_ret2
  exact ⟨K.out.1, te, pe, rfl, K.out.2⟩
set_option maxHeartbeats 8000000 in
set_option maxRecDepth 100000 in
theorem ps_calls (k : Nat) (l : List Int) (b o c : Nat) (w : World) (R : List Int) (hT : Laid w) (hI : IN w b o l) (hc : l.length ≤ c) (hcm : c ≤ 9223372036854775807) (h : unc k l = some (some R)) :
 Calls Tryd.prog 30 #[.slice (some ⟨b, o, none⟩) l.length c] w fun e w' => e = .returned (.tuple #[.string (strOfNums R), .nilIface]) ∧ Below w.heap.size w w' := by
 have hb1 : Below w.heap.size w (w.alloc (.cells #[.int .u8 0, .int .u8 0, .int .u8 0, .int .u8 0, .int .u8 0, .int .u8 0, .int .u8 0, .int .u8 0, .int .u8 0, .int .u8 0, .int .u8 0, .int .u8 0, .int .u8 0, .int .u8 0, .int .u8 0, .int .u8 0, .int .u8 0, .int .u8 0, .int .u8 0, .int .u8 0, .int .u8 0, .int .u8 0, .int .u8 0, .int .u8 0, .int .u8 0, .int .u8 0, .int .u8 0, .int .u8 0, .int .u8 0, .int .u8 0, .int .u8 0, .int .u8 0, .int .u8 0, .int .u8 0, .int .u8 0, .int .u8 0, .int .u8 0, .int .u8 0, .int .u8 0, .int .u8 0, .int .u8 0, .int .u8 0, .int .u8 0, .int .u8 0, .int .u8 0, .int .u8 0, .int .u8 0, .int .u8 0, .int .u8 0, .int .u8 0, .int .u8 0, .int .u8 0, .int .u8 0, .int .u8 0, .int .u8 0, .int .u8 0, .int .u8 0, .int .u8 0, .int .u8 0, .int .u8 0, .int .u8 0, .int .u8 0, .int .u8 0, .int .u8 0] 87)) := below_alloc (Below.refl _ _) _
 have hF0 : BF (w.alloc (.cells #[.int .u8 0, .int .u8 0, .int .u8 0, .int .u8 0, .int .u8 0, .int .u8 0, .int .u8 0, .int .u8 0, .int .u8 0, .int .u8 0, .int .u8 0, .int .u8 0, .int .u8 0, .int .u8 0, .int .u8 0, .int .u8 0, .int .u8 0, .int .u8 0, .int .u8 0, .int .u8 0, .int .u8 0, .int .u8 0, .int .u8 0, .int .u8 0, .int .u8 0, .int .u8 0, .int .u8 0, .int .u8 0, .int .u8 0, .int .u8 0, .int .u8 0, .int .u8 0, .int .u8 0, .int .u8 0, .int .u8 0, .int .u8 0, .int .u8 0, .int .u8 0, .int .u8 0, .int .u8 0, .int .u8 0, .int .u8 0, .int .u8 0, .int .u8 0, .int .u8 0, .int .u8 0, .int .u8 0, .int .u8 0, .int .u8 0, .int .u8 0, .int .u8 0, .int .u8 0, .int .u8 0, .int .u8 0, .int .u8 0, .int .u8 0, .int .u8 0, .int .u8 0, .int .u8 0, .int .u8 0, .int .u8 0, .int .u8 0, .int .u8 0, .int .u8 0] 87)) w (w.alloc (.cells #[.int .u8 0, .int .u8 0, .int .u8 0, .int .u8 0, .int .u8 0, .int .u8 0, .int .u8 0, .int .u8 0, .int .u8 0, .int .u8 0, .int .u8 0, .int .u8 0, .int .u8 0, .int .u8 0, .int .u8 0, .int .u8 0, .int .u8 0, .int .u8 0, .int .u8 0, .int .u8 0, .int .u8 0, .int .u8 0, .int .u8 0, .int .u8 0, .int .u8 0, .int .u8 0, .int .u8 0, .int .u8 0, .int .u8 0, .int .u8 0, .int .u8 0, .int .u8 0, .int .u8 0, .int .u8 0, .int .u8 0, .int .u8 0, .int .u8 0, .int .u8 0, .int .u8 0, .int .u8 0, .int .u8 0, .int .u8 0, .int .u8 0, .int .u8 0, .int .u8 0, .int .u8 0, .int .u8 0, .int .u8 0, .int .u8 0, .int .u8 0, .int .u8 0, .int .u8 0, .int .u8 0, .int .u8 0, .int .u8 0, .int .u8 0, .int .u8 0, .int .u8 0, .int .u8 0, .int .u8 0, .int .u8 0, .int .u8 0, .int .u8 0, .int .u8 0] 87)) w.heap.size 87 (List.replicate 64 0) := ⟨(blk_new w (.cells #[.int .u8 0, .int .u8 0, .int .u8 0, .int .u8 0, .int .u8 0, .int .u8 0, .int .u8 0, .int .u8 0, .int .u8 0, .int .u8 0, .int .u8 0, .int .u8 0, .int .u8 0, .int .u8 0, .int .u8 0, .int .u8 0, .int .u8 0, .int .u8 0, .int .u8 0, .int .u8 0, .int .u8 0, .int .u8 0, .int .u8 0, .int .u8 0, .int .u8 0, .int .u8 0, .int .u8 0, .int .u8 0, .int .u8 0, .int .u8 0, .int .u8 0, .int .u8 0, .int .u8 0, .int .u8 0, .int .u8 0, .int .u8 0, .int .u8 0, .int .u8 0, .int .u8 0, .int .u8 0, .int .u8 0, .int .u8 0, .int .u8 0, .int .u8 0, .int .u8 0, .int .u8 0, .int .u8 0, .int .u8 0, .int .u8 0, .int .u8 0, .int .u8 0, .int .u8 0, .int .u8 0, .int .u8 0, .int .u8 0, .int .u8 0, .int .u8 0, .int .u8 0, .int .u8 0, .int .u8 0, .int .u8 0, .int .u8 0, .int .u8 0, .int .u8 0] 87) : _), Nat.le_refl _, hb1, KeepBut.refl _ _ _⟩
 have HU := mk0 (ue_calls l b o c w _ (some R) _ hT hb1 (unc_there k l b o c w _ (some R) w.heap.size 87 _ hT hb1 hI hc hcm hF0 rfl h))
 clear hT hI hb1 hF0 h
 go_enter Tryd.func30, Tryd.ntmps30
 go_wp2_with (first | (go_at_call 33; (with_reducible refine HU.out.mono ?_); rintro e_ w_ ⟨hb, A', c', rfl, hc', hC'⟩; have hcv := Kd.C_string (P := Tryd.prog) (n := R.length) (c := c') Tryd.underlying29 Tryd.underlying5 Tryd.underlying9 hC'; have K := mk0 hb; clear hb hc' hC'))
 go_ret2
 exact ⟨rfl, K.out⟩
theorem stp_mono (k : Nat) (l : List Int) : LeO (stp k l) (stp (k + 1) l) := by
 unfold stp
 exact LeO.ite (LeO.refl _) (LeO.ite (LeO.ite (LeO.refl _) (LeO.ite (LeO.bind (jsonparser_decodeUnicodeEscape.mono _ _) (fun _ => LeO.refl _)) (LeO.refl _))) (LeO.refl _))
theorem jun_mono (k : Nat) : ∀ (f : Nat) (l E : List Int), LeO (jun k f l E) (jun (k + 1) (f + 1) l E)
 | 0, _, _ => fun r h => by simp [jun] at h
 | f + 1, l, E => by
  rw [jun, jun]
  exact LeO.bind (stp_mono k l) (fun _ => LeO.ite (LeO.refl _) (LeO.ite (LeO.ite (LeO.refl _) (jun_mono k f _ _)) (LeO.refl _)))
theorem unc_mono (k : Nat) (l : List Int) : LeO (unc k l) (unc (k + 1) l) := by
 unfold unc
 exact LeO.ite (LeO.refl _) (jun_mono k k _ _)
theorem in_bytes (w : World) (s : ByteArray) (hs : s.size ≤ 2147483647) : IN (Lib.bytesWorld w 5 s) w.heap.size 0 (bytesOf s) := by
 refine ⟨fun i hi => ?_, by rw [Lib.bytesWorld_size]; omega, J.bytesOf_range s, by rw [bytesOf_length]; exact hs⟩
 rw [bytesOf_length] at hi
 obtain ⟨ad, e, h⟩ := (bytes_reads w 5 s (by omega)).2.2 (by omega)
 cases e
 have := h i hi
 rw [add_at] at this
 exact this
def impl_JpParseString.f (k : Nat) (a0 : ByteArray) : Option (ByteArray × Bool) := if a0.size ≤ 2147483647 then (unc k (bytesOf a0)).bind fun r => r.bind fun R => some (strOfNums R, true) else none
theorem impl_JpParseString.mono : ∀ a0 k, LeO (impl_JpParseString.f k a0) (impl_JpParseString.f (k + 1) a0) := fun a0 k => LeO.ite (LeO.bind (unc_mono k _) (fun _ => LeO.refl _)) (LeO.refl _)
set_option maxHeartbeats 8000000 in
set_option maxRecDepth 100000 in
theorem impl_JpParseString.calls (k : Nat) (a0 : ByteArray) (r1 : ByteArray) (r2 : Bool) (w : World) (hG : Laid w) (h : impl_JpParseString.f k a0 = some (r1, r2)) :
 Calls Tryd.prog 16 #[.string a0] w fun e w' => e = .returned (.tuple #[.string r1, .bool r2]) ∧ Below w.heap.size w w' := by
 unfold impl_JpParseString.f at h
 split at h
 case isFalse => cases h
 case isTrue hs =>
 obtain ⟨res, hU, h⟩ := Option.bind_eq_some_iff.mp h
 obtain ⟨R, rfl, h⟩ := Option.bind_eq_some_iff.mp h
 obtain ⟨rfl, rfl⟩ := Prod.mk.inj (Option.some.inj h)
 have hb := bytes_below (B := w.heap.size) (Below.refl _ w) (Nat.le_refl _) 5 a0
 have hp := ps_calls k (bytesOf a0) w.heap.size 0 (grownCap w a0.size 0 5) (Lib.bytesWorld w 5 a0) R (hG.below hb) (in_bytes w a0 hs) (by rw [bytesOf_length]; exact grownCap_ge w a0.size 0 5) (by have := grownCap_le_maxLen w a0.size 0 5 (by simp only [maxLen]; omega); simpa [maxLen] using this) hU
 rw [bytesOf_length] at hp
 have HP := mk0 hp
 have HB := mk0 hb
 have kb := fun W => print_bytes (P := Tryd.prog) 9 29 5 Tryd.underlying9 Tryd.underlying29 Tryd.underlying5 a0 W
 clear hb hp h hU hG
 go_enter Tryd.func16, Tryd.ntmps16
 go_wp2_with (first | (go_at_call 30; (with_reducible refine HP.out.mono ?_); rintro e_ w_ ⟨rfl, hd⟩; have K := mk0 hd; clear hd))
 go_ret2
 exact ⟨rfl, below_step HB.out K.out⟩
end Go.Proofs.YtaigbkkgmncipaaDoor.Y
end
section
namespace Go.Proofs.YtaigbkkgmncipaaDoor.Y
open Go.RowKit Go.Proofs.YtaigbkkgmncipaaDoorW.PrintWords Go.Proofs.YtaigbkkgmncipaaDoorW.PrintLast Go.Proofs.YtaigbkkgmncipaaDoorW.PrintMore
attribute [local go_sem] max2_int min2_int max_two min_two max_three min_three max_four min_four
set_option linter.unusedVariables false
set_option linter.unusedSimpArgs false
def spec_Raw.f (a0 : ByteArray) (a1_0 : Int) (a1_1 : Int) (a1_2 : Int) (l1_3 : List (S104)) (l1_4 : List (S38)) : Option (ByteArray) := if a1_0 = 4 then (if 0 ≤ (wrap64 (a1_1 + 1)) then (if (wrap64 (a1_1 + 1)) ≤ (wrap64 (a1_2 - 1)) then (if (wrap64 (a1_2 - 1)) ≤ (a0.size : Int) then (some (a0.extract ((wrap64 (a1_1 + 1)) : Int).toNat ((wrap64 (a1_2 - 1)) : Int).toNat)) else (none)) else (none)) else (none)) else (if 0 ≤ a1_1 then (if a1_1 ≤ a1_2 then (if a1_2 ≤ (a0.size : Int) then (some (a0.extract (a1_1 : Int).toNat (a1_2 : Int).toNat)) else (none)) else (none)) else (none))
set_option maxHeartbeats 8000000 in
set_option maxRecDepth 100000 in
theorem spec_Raw.calls (a0 : ByteArray) (a1_0 : Int) (a1_1 : Int) (a1_2 : Int) (A1_3 : Option Addr) (c1_3 : Nat) (l1_3 : List (S104)) (A1_4 : Option Addr) (c1_4 : Nat) (l1_4 : List (S38)) (r : ByteArray) (w : World) (hr1_3 : Kd.C k104 w A1_3 l1_3.length l1_3) (hc1_3 : l1_3.length ≤ c1_3) (hr1_4 : Kd.C k38 w A1_4 l1_4.length l1_4) (hc1_4 : l1_4.length ≤ c1_4) (h : spec_Raw.f a0 a1_0 a1_1 a1_2 l1_3 l1_4 = some r) :
 Calls Tryd.prog 17 #[.string a0, .agg #[.int .i64 a1_0, .int .i64 a1_1, .int .i64 a1_2, .slice A1_3 l1_3.length c1_3, .slice A1_4 l1_4.length c1_4]] w fun e w' => e = .returned (.string r) ∧ Below w.heap.size w w' := by
 have hu38 := Tryd.underlying38
 have HR1_3 := mk0 hr1_3
 have HC1_3 := mk0 hc1_3
 clear hr1_3 hc1_3
 have HR1_4 := mk0 hr1_4
 have HC1_4 := mk0 hc1_4
 clear hr1_4 hc1_4
 have HB := mk0 (Below.refl w.heap.size w)
 have H : (if a1_0 = 4 then (if 0 ≤ (wrap64 (a1_1 + 1)) then (if (wrap64 (a1_1 + 1)) ≤ (wrap64 (a1_2 - 1)) then (if (wrap64 (a1_2 - 1)) ≤ (a0.size : Int) then (some (a0.extract ((wrap64 (a1_1 + 1)) : Int).toNat ((wrap64 (a1_2 - 1)) : Int).toNat)) else (none)) else (none)) else (none)) else (if 0 ≤ a1_1 then (if a1_1 ≤ a1_2 then (if a1_2 ≤ (a0.size : Int) then (some (a0.extract (a1_1 : Int).toNat (a1_2 : Int).toNat)) else (none)) else (none)) else (none))) = some r := h
 clear h
 by_cases c3 : a1_0 = 4
 rotate_left
 ·rw [if_neg c3] at H
  have c3b0 : (a1_0 == 4) = false := beq_eq_false_iff_ne.mpr c3
  have c3b1 : (a1_0 != 4) = true := bne_iff_ne.mpr c3
  by_cases c10 : 0 ≤ a1_1
  rotate_left
  ·rw [if_neg c10] at H
   exact absurd H (by simp)
  rw [if_pos c10] at H
  have c10b0 := eq_true c10
  have c10b1 : decide (0 ≤ a1_1) = true := decide_eq_true c10
  clear c10
  by_cases c11 : a1_1 ≤ a1_2
  rotate_left
  ·rw [if_neg c11] at H
   exact absurd H (by simp)
  rw [if_pos c11] at H
  have c11b0 := eq_true c11
  have c11b1 : decide (a1_1 ≤ a1_2) = true := decide_eq_true c11
  clear c11
  by_cases c12 : a1_2 ≤ (a0.size : Int)
  rotate_left
  ·rw [if_neg c12] at H
   exact absurd H (by simp)
  rw [if_pos c12] at H
  have c12b0 := eq_true c12
  have c12b1 : decide (a1_2 ≤ (a0.size : Int)) = true := decide_eq_true c12
  clear c12
  obtain rfl := Option.some.inj H
  go_enter Tryd.func17, Tryd.ntmps17
  go_wp2_with (first | ((with_reducible refine gate_dst (N := 3) rfl ?_); refine box_event ?hg (N := 3) ?hd (cs := #[.int .i64 a1_0, .int .i64 a1_1, .int .i64 a1_2, .slice A1_3 l1_3.length c1_3, .slice A1_4 l1_4.length c1_4]) (t := 38) ?hr ?_; (case hd => rfl); (case hg => rfl); (case hr => exact zq30); intro gb101 hg w13 hbox hb; have n0_ := mk0 (below_step zq12 hb); have n1_ := mk0 (hbox); have n2_ := mk0 ((zq63 : w.heap.size ≤ gb101)); have n3_ := mk0 ((zq63 : w.heap.size ≤ gb101)); clear HB; have HB := n0_; have BK101 := n1_; have GW101 := n2_; have GE101 := n3_; clear n0_ n1_ n2_ n3_; clear hb hbox hg; have hcz14_0 : w13.cell? ⟨gb101, 0, none⟩ = some (.int .i64 a1_0) := (blk_cell BK101.out 0).trans rfl; have hcz14_1 : w13.cell? ⟨gb101, 1, none⟩ = some (.int .i64 a1_1) := (blk_cell BK101.out 1).trans rfl; have hcz14_2 : w13.cell? ⟨gb101, 2, none⟩ = some (.int .i64 a1_2) := (blk_cell BK101.out 2).trans rfl; have hcz14_3 : w13.cell? ⟨gb101, 3, none⟩ = some (.slice A1_3 l1_3.length c1_3) := (blk_cell BK101.out 3).trans rfl; have hcz14_4 : w13.cell? ⟨gb101, 4, none⟩ = some (.slice A1_4 l1_4.length c1_4) := (blk_cell BK101.out 4).trans rfl; have hfz14_0 := blk_frozen BK101.out 0; have hfz14_1 := blk_frozen BK101.out 1; have hfz14_2 := blk_frozen BK101.out 2; have hfz14_3 := blk_frozen BK101.out 3; have hfz14_4 := blk_frozen BK101.out 4))
  go_ret
  exact ⟨by first | rfl | (simp [errW_none, errW_some] <;> rfl) | (simp [*, errW_none, errW_some] <;> rfl), by repeat (first | (with_reducible first | exact HB.out | apply below_alloc | apply pw_below_drewN | apply below_drew1 | refine below_set ?_ GE101.out) | exact HB.out)⟩
 rw [if_pos c3] at H
 have c3b0 : (a1_0 == 4) = true := beq_iff_eq.mpr c3
 have c3b1 : (a1_0 != 4) = false := bne_eq_false_iff_eq.mpr c3
 clear c3
 obtain ⟨ji4, hji4⟩ : ∃ j_ : Int, (wrap64 (a1_1 + 1)) = j_ := ⟨_, rfl⟩
 replace H : (if 0 ≤ (ji4) then (if (ji4) ≤ (wrap64 (a1_2 - 1)) then (if (wrap64 (a1_2 - 1)) ≤ (a0.size : Int) then (some (a0.extract ((ji4) : Int).toNat ((wrap64 (a1_2 - 1)) : Int).toNat)) else (none)) else (none)) else (none)) = some r := by first | (rw [hji4] at H; exact H) | (simp only [hji4] at H ⊢; exact H)
 have hji4w : (IntKind.i64.wrap (a1_1 + 1)) = ji4 := (i64_w _).trans hji4
 by_cases c5 : 0 ≤ (ji4)
 rotate_left
 ·rw [if_neg c5] at H
  exact absurd H (by simp)
 rw [if_pos c5] at H
 have c5b0 := eq_true c5
 have c5b1 : decide (0 ≤ (ji4)) = true := decide_eq_true c5
 clear c5
 by_cases c6 : (ji4) ≤ (wrap64 (a1_2 - 1))
 rotate_left
 ·rw [if_neg c6] at H
  exact absurd H (by simp)
 rw [if_pos c6] at H
 have c6b0 := eq_true c6
 have c6b1 : decide ((ji4) ≤ (wrap64 (a1_2 - 1))) = true := decide_eq_true c6
 clear c6
 by_cases c7 : (wrap64 (a1_2 - 1)) ≤ (a0.size : Int)
 rotate_left
 ·rw [if_neg c7] at H
  exact absurd H (by simp)
 rw [if_pos c7] at H
 have c7b0 := eq_true c7
 have c7b1 : decide ((wrap64 (a1_2 - 1)) ≤ (a0.size : Int)) = true := decide_eq_true c7
 clear c7
 obtain rfl := Option.some.inj H
 go_enter Tryd.func17, Tryd.ntmps17
 go_wp2_with (first | ((with_reducible refine gate_dst (N := 3) rfl ?_); refine box_event ?hg (N := 3) ?hd (cs := #[.int .i64 a1_0, .int .i64 a1_1, .int .i64 a1_2, .slice A1_3 l1_3.length c1_3, .slice A1_4 l1_4.length c1_4]) (t := 38) ?hr ?_; (case hd => rfl); (case hg => rfl); (case hr => exact zq30); intro gb101 hg w8 hbox hb; have n0_ := mk0 (below_step zq12 hb); have n1_ := mk0 (hbox); have n2_ := mk0 ((zq63 : w.heap.size ≤ gb101)); have n3_ := mk0 ((zq63 : w.heap.size ≤ gb101)); clear HB; have HB := n0_; have BK101 := n1_; have GW101 := n2_; have GE101 := n3_; clear n0_ n1_ n2_ n3_; clear hb hbox hg; have hcz9_0 : w8.cell? ⟨gb101, 0, none⟩ = some (.int .i64 a1_0) := (blk_cell BK101.out 0).trans rfl; have hcz9_1 : w8.cell? ⟨gb101, 1, none⟩ = some (.int .i64 a1_1) := (blk_cell BK101.out 1).trans rfl; have hcz9_2 : w8.cell? ⟨gb101, 2, none⟩ = some (.int .i64 a1_2) := (blk_cell BK101.out 2).trans rfl; have hcz9_3 : w8.cell? ⟨gb101, 3, none⟩ = some (.slice A1_3 l1_3.length c1_3) := (blk_cell BK101.out 3).trans rfl; have hcz9_4 : w8.cell? ⟨gb101, 4, none⟩ = some (.slice A1_4 l1_4.length c1_4) := (blk_cell BK101.out 4).trans rfl; have hfz9_0 := blk_frozen BK101.out 0; have hfz9_1 := blk_frozen BK101.out 1; have hfz9_2 := blk_frozen BK101.out 2; have hfz9_3 := blk_frozen BK101.out 3; have hfz9_4 := blk_frozen BK101.out 4))
 go_ret
 exact ⟨by first | rfl | (simp [errW_none, errW_some] <;> rfl) | (simp only [← hji4]; first | rfl | (simp [errW_none, errW_some] <;> rfl)) | (simp [*, errW_none, errW_some] <;> rfl), by repeat (first | (with_reducible first | exact HB.out | apply below_alloc | apply pw_below_drewN | apply below_drew1 | refine below_set ?_ GE101.out) | exact HB.out)⟩
mutual
def laws_FnJpParseStringForms.j0 : Nat → ByteArray → List Int → Bool → Option (Bool)
  | 0, _, _, _ => none
  | k + 1, x0, x1, x17 => if x17 = true then (some true) else (if (x0.size : Int) > 8192 then (laws_FnJpParseStringForms.j1 k x0 x1 true) else ((spec_UTF8.f k x0).bind fun t101 => (laws_FnJpParseStringForms.j1 k x0 x1 (!t101))))
def laws_FnJpParseStringForms.j1 : Nat → ByteArray → List Int → Bool → Option (Bool)
  | 0, _, _, _ => none
  | k + 1, x0, x1, x25 => if x25 = true then (some true) else ((spec_Dress.f k 4 x0 ([] : List ByteArray) ([] : List (S34)) x1).bind fun t102 => ((spec_Places.f k t102).bind fun bt103 => (if bt103.2.2.2.2.2 = true then ((spec_Raw.f t102 bt103.1 bt103.2.1 bt103.2.2.1 bt103.2.2.2.1 bt103.2.2.2.2.1).bind fun t114 => ((impl_JpParseString.f k t114).bind fun bt115 => (if bt115.2 = true then (some (bt115.1.toList == x0.toList)) else (some false)))) else (some true))))
end
def laws_FnJpParseStringForms.f (k : Nat) (a0 : ByteArray) (l1 : List Int) : Option (Bool) := if (a0.size : Int) > 2147483647 then (laws_FnJpParseStringForms.j0 k a0 l1 true) else (laws_FnJpParseStringForms.j0 k a0 l1 (decide ((l1.length : Int) > 2147483647)))
theorem laws_FnJpParseStringForms.mono_l : ∀ k, (∀ y0 y1 y2, LeO (laws_FnJpParseStringForms.j0 k y0 y1 y2) (laws_FnJpParseStringForms.j0 (k + 1) y0 y1 y2)) ∧ (∀ y0 y1 y2, LeO (laws_FnJpParseStringForms.j1 k y0 y1 y2) (laws_FnJpParseStringForms.j1 (k + 1) y0 y1 y2))
 | 0 => ⟨fun _ _ _ r h => by simp [laws_FnJpParseStringForms.j0] at h, fun _ _ _ r h => by simp [laws_FnJpParseStringForms.j1] at h⟩
 | k + 1 => by
  obtain ⟨ih0, ih1⟩ := laws_FnJpParseStringForms.mono_l k
  refine ⟨?_, ?_⟩
  ·intro y0 y1 y2
   unfold laws_FnJpParseStringForms.j0
   repeat' first
   | (with_reducible exact ih0 _ _ _)
   | (with_reducible exact ih1 _ _ _)
   | (with_reducible exact impl_JpParseString.mono _ _)
   | (with_reducible exact spec_Dress.mono _ _ _ _ _ _)
   | (with_reducible exact spec_Places.mono _ _)
   | (with_reducible exact spec_UTF8.mono _ _)
   | (with_reducible exact LeO.refl _)
   | (with_reducible exact LeO.none _)
   | (with_reducible refine LeO.ite ?_ ?_)
   | (with_reducible refine LeO.bind ?_ (fun _ => ?_))
   | exact ih0 _ _ _
   | exact ih1 _ _ _
   | exact impl_JpParseString.mono _ _
   | exact spec_Dress.mono _ _ _ _ _ _
   | exact spec_Places.mono _ _
   | exact spec_UTF8.mono _ _
   | exact LeO.none _
   | refine LeO.ite ?_ ?_
   | refine LeO.bind ?_ (fun _ => ?_)
  ·intro y0 y1 y2
   unfold laws_FnJpParseStringForms.j1
   repeat' first
   | (with_reducible exact ih0 _ _ _)
   | (with_reducible exact ih1 _ _ _)
   | (with_reducible exact impl_JpParseString.mono _ _)
   | (with_reducible exact spec_Dress.mono _ _ _ _ _ _)
   | (with_reducible exact spec_Places.mono _ _)
   | (with_reducible exact spec_UTF8.mono _ _)
   | (with_reducible exact LeO.refl _)
   | (with_reducible exact LeO.none _)
   | (with_reducible refine LeO.ite ?_ ?_)
   | (with_reducible refine LeO.bind ?_ (fun _ => ?_))
   | exact ih0 _ _ _
   | exact ih1 _ _ _
   | exact impl_JpParseString.mono _ _
   | exact spec_Dress.mono _ _ _ _ _ _
   | exact spec_Places.mono _ _
   | exact spec_UTF8.mono _ _
   | exact LeO.none _
   | refine LeO.ite ?_ ?_
   | refine LeO.bind ?_ (fun _ => ?_)
theorem laws_FnJpParseStringForms.mono : ∀ a0 a1 k, LeO (laws_FnJpParseStringForms.f k a0 a1) (laws_FnJpParseStringForms.f (k + 1) a0 a1) := by
 intro a0 a1 k
 obtain ⟨ih0, ih1⟩ := laws_FnJpParseStringForms.mono_l k
 unfold laws_FnJpParseStringForms.f
 repeat' first
  | (with_reducible exact ih0 _ _ _)
  | (with_reducible exact ih1 _ _ _)
  | (with_reducible exact impl_JpParseString.mono _ _)
  | (with_reducible exact spec_Dress.mono _ _ _ _ _ _)
  | (with_reducible exact spec_Places.mono _ _)
  | (with_reducible exact spec_UTF8.mono _ _)
  | (with_reducible exact LeO.refl _)
  | (with_reducible exact LeO.none _)
  | (with_reducible refine LeO.ite ?_ ?_)
  | (with_reducible refine LeO.bind ?_ (fun _ => ?_))
  | exact ih0 _ _ _
  | exact ih1 _ _ _
  | exact impl_JpParseString.mono _ _
  | exact spec_Dress.mono _ _ _ _ _ _
  | exact spec_Places.mono _ _
  | exact spec_UTF8.mono _ _
  | exact LeO.none _
  | refine LeO.ite ?_ ?_
  | refine LeO.bind ?_ (fun _ => ?_)
set_option maxHeartbeats 8000000 in
set_option maxRecDepth 100000 in
theorem laws_FnJpParseStringForms.calls (k : Nat) (a0 : ByteArray) (A1 : Option Addr) (c1 : Nat) (l1 : List Int) (r : Bool) (w : World) (hr1 : Kd.C (Kd.int .u8) w A1 l1.length l1) (hc1 : l1.length ≤ c1) (hG : Laid w) (h : laws_FnJpParseStringForms.f k a0 l1 = some r) :
 Calls Tryd.prog 4 #[.string a0, .slice A1 l1.length c1] w fun e w' => e = .returned (.bool r) ∧ Below w.heap.size w w' := by
 have HG := mk0 hG
 clear hG
 have hu34 := Tryd.underlying34
 have hu38 := Tryd.underlying38
 have HR1 := mk0 hr1
 have HC1 := mk0 hc1
 clear hr1 hc1
 have HB := mk0 (Below.refl w.heap.size w)
 have H : (if (a0.size : Int) > 2147483647 then (laws_FnJpParseStringForms.j0 k a0 l1 true) else (laws_FnJpParseStringForms.j0 k a0 l1 (decide ((l1.length : Int) > 2147483647)))) = some r := h
 clear h
 have HC3 := mk0 H
 clear H
 go_enter Tryd.func4, Tryd.ntmps4
 go_upto_region 1 with (fail)
 go_cut [17] (fun v17 wc => ∃ (kq : Nat) (x17_2 : Bool), v17 = .bool x17_2 ∧ Aside0 (laws_FnJpParseStringForms.j0 kq a0 l1 x17_2 = some r) ∧ Aside0 (kq ≤ k) ∧ Aside0 (Below w.heap.size w wc))
 case first =>
  have H := HC3.out
  clear HC3
  by_cases c4 : (a0.size : Int) > 2147483647
  ·rw [if_pos c4] at H
   have c4b0 : decide (2147483647 < (a0.size : Int)) = true := decide_eq_true c4
   have c4b1 : decide (2147483647 < a0.size) = true := decide_eq_true (by omega)
   clear c4
   (first | rw [c4b0] | (simp only [i64_w, i32_w]; rw [c4b0]) | rw [c4b1] | rw [if_pos (of_decide_eq_true c4b1)] | skip)
   have H' := mk0 H
   clear H
   go_wp2
   go_meet
   case rel => exact ⟨_, (true), zq13, H', ⟨by first | omega | exact Nat.le_refl _⟩, ⟨by repeat (first | (with_reducible first | exact HB.out | apply below_alloc | apply pw_below_drewN | apply below_drew1) | exact HB.out)⟩⟩
  rw [if_neg c4] at H
  have c4b0 : decide (2147483647 < (a0.size : Int)) = false := decide_eq_false c4
  have c4b1 : decide (2147483647 < a0.size) = false := decide_eq_false (by omega)
  clear c4
  (first | rw [c4b0] | (simp only [i64_w, i32_w]; rw [c4b0]) | rw [c4b1] | rw [if_neg (of_decide_eq_false c4b1)] | skip)
  have H' := mk0 H
  clear H
  go_wp2
  go_meet
  case rel => exact ⟨_, (decide ((l1.length : Int) > 2147483647)), zq13, H', ⟨by first | omega | exact Nat.le_refl _⟩, ⟨by repeat (first | (with_reducible first | exact HB.out | apply below_alloc | apply pw_below_drewN | apply below_drew1) | exact HB.out)⟩⟩
 case rest =>
  clear HC3
  try clear c1
  try clear p2
  try clear c4
  try clear c4b0
  try clear c4b1
  obtain ⟨kq, x17_2, rfl, HA, HJ2, HB⟩ := hcut
  cases kq with
  | zero => exact absurd HA.out (by simp [laws_FnJpParseStringForms.j0])
  | succ kj2 =>
   have H := HA.out
   clear HA
   simp only [laws_FnJpParseStringForms.j0] at H
   by_cases c5 : x17_2 = true
   ·subst c5
    have H1 : (some true) = some r := by rw [if_pos rfl] at H; exact H
    clear H
    have H := H1
    clear H1
    obtain rfl := Option.some.inj H
    go_wp2
    go_ret
    exact ⟨by first | rfl | (simp [errW_none, errW_some] <;> rfl) | (simp [*, errW_none, errW_some] <;> rfl), by repeat (first | (with_reducible first | exact HB.out | apply below_alloc | apply pw_below_drewN | apply below_drew1) | exact HB.out)⟩
   replace c5 := Bool.eq_false_iff.mpr c5
   subst c5
   have H1 : (if (a0.size : Int) > 8192 then (laws_FnJpParseStringForms.j1 kj2 a0 l1 true) else ((spec_UTF8.f kj2 a0).bind fun t101 => (laws_FnJpParseStringForms.j1 kj2 a0 l1 (!t101)))) = some r := by rw [if_neg (show ¬ (false = true) by decide)] at H; exact H
   clear H
   have H := H1
   clear H1
   have HC6 := mk0 H
   clear H
   go_upto_region 3 with (fail)
   go_cut [25] (fun v25 wc => ∃ (kq : Nat) (x25_5 : Bool), v25 = .bool x25_5 ∧ Aside0 (laws_FnJpParseStringForms.j1 kq a0 l1 x25_5 = some r) ∧ Aside0 (kq ≤ kj2) ∧ Aside0 (Below w.heap.size w wc))
   case first =>
    have H := HC6.out
    clear HC6
    by_cases c7 : (a0.size : Int) > 8192
    ·rw [if_pos c7] at H
     have c7b0 : decide (8192 < (a0.size : Int)) = true := decide_eq_true c7
     have c7b1 : decide (8192 < a0.size) = true := decide_eq_true (by omega)
     clear c7
     (first | rw [c7b0] | (simp only [i64_w, i32_w]; rw [c7b0]) | rw [c7b1] | rw [if_pos (of_decide_eq_true c7b1)] | skip)
     have H' := mk0 H
     clear H
     go_wp2
     go_meet
     case rel => exact ⟨_, (true), zq13, H', ⟨by have := HJ2.out; first | omega | exact Nat.le_refl _⟩, ⟨by repeat (first | (with_reducible first | exact HB.out | apply below_alloc | apply pw_below_drewN | apply below_drew1) | exact HB.out)⟩⟩
    rw [if_neg c7] at H
    have c7b0 : decide (8192 < (a0.size : Int)) = false := decide_eq_false c7
    have c7b1 : decide (8192 < a0.size) = false := decide_eq_false (by omega)
    clear c7
    (first | rw [c7b0] | (simp only [i64_w, i32_w]; rw [c7b0]) | rw [c7b1] | rw [if_neg (of_decide_eq_false c7b1)] | skip)
    replace H := Option.bind_eq_some_iff.mp H
    obtain ⟨t101, A80, H⟩ := H
    replace H : (laws_FnJpParseStringForms.j1 kj2 a0 l1 (!t101)) = some r := H
    have A8 := mk0 A80
    clear A80
    have H' := mk0 H
    clear H
    go_wp2_with (first | (go_at_call 13; (with_reducible refine (spec_UTF8.calls kj2 a0 t101 _ A8.out).mono ?_); rintro e w' ⟨rfl, ⟨nd, rfl⟩⟩))
    go_meet
    case rel => exact ⟨_, (!t101), zq13, H', ⟨by have := HJ2.out; first | omega | exact Nat.le_refl _⟩, ⟨by repeat (first | (with_reducible first | exact HB.out | apply below_alloc | apply pw_below_drewN | apply below_drew1) | exact HB.out)⟩⟩
   case rest =>
    clear HC6
    try clear c1
    try clear p2
    try clear c4
    try clear c4b0
    try clear c4b1
    try clear c5
    try clear c7
    try clear c7b0
    try clear c7b1
    try clear p2
    obtain ⟨kq, x25_5, rfl, HA, HJ5, HB⟩ := hcut
    cases kq with
    | zero => exact absurd HA.out (by simp [laws_FnJpParseStringForms.j1])
    | succ kj5 =>
     have H := HA.out
     clear HA
     simp only [laws_FnJpParseStringForms.j1] at H
     by_cases c9 : x25_5 = true
     ·subst c9
      have H1 : (some true) = some r := by rw [if_pos rfl] at H; exact H
      clear H
      have H := H1
      clear H1
      obtain rfl := Option.some.inj H
      go_wp2
      go_ret
      exact ⟨by first | rfl | (simp [errW_none, errW_some] <;> rfl) | (simp [*, errW_none, errW_some] <;> rfl), by repeat (first | (with_reducible first | exact HB.out | apply below_alloc | apply pw_below_drewN | apply below_drew1) | exact HB.out)⟩
     replace c9 := Bool.eq_false_iff.mpr c9
     subst c9
     have H1 : ((spec_Dress.f kj5 4 a0 ([] : List ByteArray) ([] : List (S34)) l1).bind fun t102 => ((spec_Places.f kj5 t102).bind fun bt103 => (if bt103.2.2.2.2.2 = true then ((spec_Raw.f t102 bt103.1 bt103.2.1 bt103.2.2.1 bt103.2.2.2.1 bt103.2.2.2.2.1).bind fun t114 => ((impl_JpParseString.f kj5 t114).bind fun bt115 => (if bt115.2 = true then (some (bt115.1.toList == a0.toList)) else (some false)))) else (some true)))) = some r := by rw [if_neg (show ¬ (false = true) by decide)] at H; exact H
     clear H
     have H := H1
     clear H1
     replace H := Option.bind_eq_some_iff.mp H
     obtain ⟨t102, A100, H⟩ := H
     replace H : ((spec_Places.f kj5 t102).bind fun bt103 => (if bt103.2.2.2.2.2 = true then ((spec_Raw.f t102 bt103.1 bt103.2.1 bt103.2.2.1 bt103.2.2.2.1 bt103.2.2.2.2.1).bind fun t114 => ((impl_JpParseString.f kj5 t114).bind fun bt115 => (if bt115.2 = true then (some (bt115.1.toList == a0.toList)) else (some false)))) else (some true))) = some r := H
     have A10 := mk0 A100
     clear A100
     replace H := Option.bind_eq_some_iff.mp H
     obtain ⟨⟨t103, t104, t105, t106, t109, t112⟩, A110, H⟩ := H
     replace H : (if t112 = true then ((spec_Raw.f t102 t103 t104 t105 t106 t109).bind fun t114 => ((impl_JpParseString.f kj5 t114).bind fun bt115 => (if bt115.2 = true then (some (bt115.1.toList == a0.toList)) else (some false)))) else (some true)) = some r := H
     have A11 := mk0 A110
     clear A110
     by_cases c12 : t112 = true
     rotate_left
     ·replace c12 := Bool.eq_false_iff.mpr c12
      subst c12
      have H1 : (some true) = some r := by rw [if_neg (show ¬ (false = true) by decide)] at H; exact H
      clear H
      have H := H1
      clear H1
      obtain rfl := Option.some.inj H
      go_wp2_with (first | ((with_reducible refine gate_callee (f := 14) rfl ?_); refine goesL_ (some 29) rfl rfl Tryd.func14 zq23 rfl #[.agg #[.int .i64 4, .string a0, .slice none 0 0, .slice none 0 0], .slice A1 l1.length c1] rfl zq2 ?_; (refine (spec_Dress.calls kj5 4 a0 _ _ ([] : List ByteArray) _ _ ([] : List (S34)) _ _ l1 t102 _ ?side1 ?side2 ?side3 ?side4 ?side5 ?side6 A10.out).mono ?_); (case side1 => exact Kd.C_nil _ _); (case side2 => exact Nat.le_refl _); (case side3 => exact Kd.C_nil _ _); (case side4 => exact Nat.le_refl _); (case side5 => exact zq55); (case side6 => exact HC1.out); rintro e w32 ⟨rfl, hb⟩; refine ⟨_, rfl, ?_⟩; have n0_ := mk0 (below_step zq12 hb); clear HB; have HB := n0_; clear n0_; (try clear hb); (try clear hb2); (try clear hk); (try clear hi)) | ((with_reducible refine gate_callee (f := 15) rfl ?_); refine goesL_ (some 32) rfl rfl Tryd.func15 zq23 rfl #[.string t102] rfl zq2 ?_; (with_reducible refine (spec_Places.calls kj5 t102 t103 t104 t105 t106 t109 false _ A11.out).mono ?_); rintro e w33 ⟨v107, v110, rfl, ho0, ho1, hb⟩; refine ⟨_, rfl, ?_⟩; have n0_ := mk0 (Kd.R_lower ho0 (below_size zq12)); have n1_ := mk0 (Kd.R_lower ho1 (below_size zq12)); have n2_ := mk0 (below_step zq12 hb); clear HB; have HO108 := n0_; have HO111 := n1_; have HB := n2_; clear n0_ n1_ n2_; (try clear hb); (try clear hb2); (try clear hk); (try clear hi); (try clear ho0); (try clear ho1)) | ((with_reducible refine gate_dst (N := 6) rfl ?_); (try (refine gate_guard (by rfl) ?_; dsimp only)); refine box_event ?hg (N := 6) ?hd (cs := #[.int .i64 0, .int .i64 0, .int .i64 0, .slice none 0 0, .slice none 0 0]) (t := 38) ?hr ?_; (case hd => rfl); (case hg => rfl); (case hr => exact zq30); intro gb113 hg w34 hbox hb; have n0_ := mk0 (Kd.R_below zq52 hb); have n1_ := mk0 (Kd.R_below (Kd.R_elderB zq53 gb113 (Nat.le_of_eq hg.symm)) hb); have n2_ := mk0 (below_step zq12 hb); have n3_ := mk0 (hbox); have n4_ := mk0 ((zq63 : w.heap.size ≤ gb113)); have n5_ := mk0 ((zq63 : w.heap.size ≤ gb113)); clear HO108 HO111 HB; have HO108 := n0_; have HO111 := n1_; have HB := n2_; have BK113 := n3_; have GW113 := n4_; have GE113 := n5_; clear n0_ n1_ n2_ n3_ n4_ n5_; clear hb hbox hg; have hcz35_0 : w34.cell? ⟨gb113, 0, none⟩ = some (.int .i64 0) := (blk_cell BK113.out 0).trans rfl; have hcz35_1 : w34.cell? ⟨gb113, 1, none⟩ = some (.int .i64 0) := (blk_cell BK113.out 1).trans rfl; have hcz35_2 : w34.cell? ⟨gb113, 2, none⟩ = some (.int .i64 0) := (blk_cell BK113.out 2).trans rfl; have hcz35_3 : w34.cell? ⟨gb113, 3, none⟩ = some (.slice none 0 0) := (blk_cell BK113.out 3).trans rfl; have hcz35_4 : w34.cell? ⟨gb113, 4, none⟩ = some (.slice none 0 0) := (blk_cell BK113.out 4).trans rfl; have hfz35_0 := blk_frozen BK113.out 0; have hfz35_1 := blk_frozen BK113.out 1; have hfz35_2 := blk_frozen BK113.out 2; have hfz35_3 := blk_frozen BK113.out 3; have hfz35_4 := blk_frozen BK113.out 4; obtain ⟨Ao36, co36, eo36⟩ := Kd.R_slice HO108.out; subst eo36; obtain ⟨Ao37, co37, eo37⟩ := Kd.R_slice HO111.out; subst eo37))
      go_ret
      exact ⟨by first | rfl | (simp [errW_none, errW_some] <;> rfl) | (simp [*, errW_none, errW_some] <;> rfl), by repeat (first | (with_reducible first | exact HB.out | apply below_alloc | apply pw_below_drewN | apply below_drew1 | refine below_set ?_ GE113.out) | exact HB.out)⟩
     subst c12
     have H1 : ((spec_Raw.f t102 t103 t104 t105 t106 t109).bind fun t114 => ((impl_JpParseString.f kj5 t114).bind fun bt115 => (if bt115.2 = true then (some (bt115.1.toList == a0.toList)) else (some false)))) = some r := by rw [if_pos rfl] at H; exact H
     clear H
     have H := H1
     clear H1
     replace H := Option.bind_eq_some_iff.mp H
     obtain ⟨t114, A130, H⟩ := H
     replace H : ((impl_JpParseString.f kj5 t114).bind fun bt115 => (if bt115.2 = true then (some (bt115.1.toList == a0.toList)) else (some false))) = some r := H
     have A13 := mk0 A130
     clear A130
     replace H := Option.bind_eq_some_iff.mp H
     obtain ⟨⟨t115, t116⟩, A140, H⟩ := H
     replace H : (if t116 = true then (some (t115.toList == a0.toList)) else (some false)) = some r := H
     have A14 := mk0 A140
     clear A140
     by_cases c15 : t116 = true
     ·subst c15
      have H1 : (some (t115.toList == a0.toList)) = some r := by rw [if_pos rfl] at H; exact H
      clear H
      have H := H1
      clear H1
      obtain rfl := Option.some.inj H
      go_wp2_with (first | ((with_reducible refine gate_callee (f := 14) rfl ?_); refine goesL_ (some 29) rfl rfl Tryd.func14 zq23 rfl #[.agg #[.int .i64 4, .string a0, .slice none 0 0, .slice none 0 0], .slice A1 l1.length c1] rfl zq2 ?_; (refine (spec_Dress.calls kj5 4 a0 _ _ ([] : List ByteArray) _ _ ([] : List (S34)) _ _ l1 t102 _ ?side1 ?side2 ?side3 ?side4 ?side5 ?side6 A10.out).mono ?_); (case side1 => exact Kd.C_nil _ _); (case side2 => exact Nat.le_refl _); (case side3 => exact Kd.C_nil _ _); (case side4 => exact Nat.le_refl _); (case side5 => exact zq55); (case side6 => exact HC1.out); rintro e w16 ⟨rfl, hb⟩; refine ⟨_, rfl, ?_⟩; have n0_ := mk0 (below_step zq12 hb); clear HB; have HB := n0_; clear n0_; (try clear hb); (try clear hb2); (try clear hk); (try clear hi)) | ((with_reducible refine gate_callee (f := 15) rfl ?_); refine goesL_ (some 32) rfl rfl Tryd.func15 zq23 rfl #[.string t102] rfl zq2 ?_; (with_reducible refine (spec_Places.calls kj5 t102 t103 t104 t105 t106 t109 true _ A11.out).mono ?_); rintro e w17 ⟨v107, v110, rfl, ho0, ho1, hb⟩; refine ⟨_, rfl, ?_⟩; have n0_ := mk0 (Kd.R_lower ho0 (below_size zq12)); have n1_ := mk0 (Kd.R_lower ho1 (below_size zq12)); have n2_ := mk0 (below_step zq12 hb); clear HB; have HO108 := n0_; have HO111 := n1_; have HB := n2_; clear n0_ n1_ n2_; (try clear hb); (try clear hb2); (try clear hk); (try clear hi); (try clear ho0); (try clear ho1)) | ((with_reducible refine gate_dst (N := 6) rfl ?_); (try (refine gate_guard (by rfl) ?_; dsimp only)); refine box_event ?hg (N := 6) ?hd (cs := #[.int .i64 0, .int .i64 0, .int .i64 0, .slice none 0 0, .slice none 0 0]) (t := 38) ?hr ?_; (case hd => rfl); (case hg => rfl); (case hr => exact zq30); intro gb113 hg w18 hbox hb; have n0_ := mk0 (Kd.R_below zq52 hb); have n1_ := mk0 (Kd.R_below (Kd.R_elderB zq53 gb113 (Nat.le_of_eq hg.symm)) hb); have n2_ := mk0 (below_step zq12 hb); have n3_ := mk0 (hbox); have n4_ := mk0 ((zq63 : w.heap.size ≤ gb113)); have n5_ := mk0 ((zq63 : w.heap.size ≤ gb113)); clear HO108 HO111 HB; have HO108 := n0_; have HO111 := n1_; have HB := n2_; have BK113 := n3_; have GW113 := n4_; have GE113 := n5_; clear n0_ n1_ n2_ n3_ n4_ n5_; clear hb hbox hg; have hcz19_0 : w18.cell? ⟨gb113, 0, none⟩ = some (.int .i64 0) := (blk_cell BK113.out 0).trans rfl; have hcz19_1 : w18.cell? ⟨gb113, 1, none⟩ = some (.int .i64 0) := (blk_cell BK113.out 1).trans rfl; have hcz19_2 : w18.cell? ⟨gb113, 2, none⟩ = some (.int .i64 0) := (blk_cell BK113.out 2).trans rfl; have hcz19_3 : w18.cell? ⟨gb113, 3, none⟩ = some (.slice none 0 0) := (blk_cell BK113.out 3).trans rfl; have hcz19_4 : w18.cell? ⟨gb113, 4, none⟩ = some (.slice none 0 0) := (blk_cell BK113.out 4).trans rfl; have hfz19_0 := blk_frozen BK113.out 0; have hfz19_1 := blk_frozen BK113.out 1; have hfz19_2 := blk_frozen BK113.out 2; have hfz19_3 := blk_frozen BK113.out 3; have hfz19_4 := blk_frozen BK113.out 4; obtain ⟨Ao20, co20, eo20⟩ := Kd.R_slice HO108.out; subst eo20; obtain ⟨Ao21, co21, eo21⟩ := Kd.R_slice HO111.out; subst eo21) | ((with_reducible refine gate_callee (f := 17) rfl ?_); refine goesL_ (some 40) rfl rfl Tryd.func17 zq23 rfl #[.string t102, .agg #[.int .i64 t103, .int .i64 t104, .int .i64 t105, .slice Ao20 t106.length co20, .slice Ao21 t109.length co21]] rfl zq2 ?_; (with_reducible refine (spec_Raw.calls t102 t103 t104 t105 _ _ t106 _ _ t109 t114 _ ?side1 ?side2 ?side3 ?side4 A13.out).mono ?_); (case side1 => refine (Kd.R_reads' (e := 104) (base := w.heap.size) (ok := fun k_ => True) (n := t106.length) (c := co20) ?_).2.2; exact zq42); (case side2 => exact (Kd.R_reads' HO108.out).2.1); (case side3 => refine (Kd.R_reads' (e := 38) (base := w.heap.size) (ok := fun k_ => (some k_ ≠ (.slice Ao20 t106.length co20 : Value).ownBlock ∧ k_ ≠ gb113)) (n := t109.length) (c := co21) ?_).2.2; exact zq40); (case side4 => exact (Kd.R_reads' HO111.out).2.1); rintro e w22 ⟨rfl, hb⟩; refine ⟨_, rfl, ?_⟩; have n0_ := mk0 (Kd.R_below zq42 hb); have n1_ := mk0 (Kd.R_below zq40 hb); have n2_ := mk0 (blk_below (g := gb113) (o := .cells #[.int .i64 t103, .int .i64 t104, .int .i64 t105, .slice Ao20 t106.length co20, .slice Ao21 t109.length co21] 38 (0, 0)) (by (with_reducible repeat (first | refine blk_drewN ?_ _ | refine blk_drew ?_ | refine blk_alloc ?_ _)); refine blk_put (cs := #[.int .i64 t103, .int .i64 t104, .int .i64 t105, .slice Ao20 t106.length co20, .slice none 0 0]) ?_ 4 _ rfl; (with_reducible repeat (first | refine blk_drewN ?_ _ | refine blk_drew ?_ | refine blk_alloc ?_ _)); refine blk_put (cs := #[.int .i64 t103, .int .i64 t104, .int .i64 t105, .slice none 0 0, .slice none 0 0]) ?_ 3 _ rfl; (with_reducible repeat (first | refine blk_drewN ?_ _ | refine blk_drew ?_ | refine blk_alloc ?_ _)); refine blk_put (cs := #[.int .i64 t103, .int .i64 t104, .int .i64 0, .slice none 0 0, .slice none 0 0]) ?_ 2 _ rfl; (with_reducible repeat (first | refine blk_drewN ?_ _ | refine blk_drew ?_ | refine blk_alloc ?_ _)); refine blk_put (cs := #[.int .i64 t103, .int .i64 0, .int .i64 0, .slice none 0 0, .slice none 0 0]) ?_ 1 _ rfl; (with_reducible repeat (first | refine blk_drewN ?_ _ | refine blk_drew ?_ | refine blk_alloc ?_ _)); refine blk_put (cs := #[.int .i64 0, .int .i64 0, .int .i64 0, .slice none 0 0, .slice none 0 0]) ?_ 0 _ rfl; (with_reducible repeat (first | refine blk_drewN ?_ _ | refine blk_drew ?_ | refine blk_alloc ?_ _)); exact BK113.out) hb); have n3_ := mk0 (below_step zq35 hb); clear HO108 HO111 BK113 HB; have HO108 := n0_; have HO111 := n1_; have BK113 := n2_; have HB := n3_; clear n0_ n1_ n2_ n3_; (try clear hb); (try clear hb2); (try clear hk); (try clear hi)) | ((with_reducible refine gate_callee (f := 16) rfl ?_); refine goesL_ (some 41) rfl rfl Tryd.func16 zq23 rfl #[.string t114] rfl zq2 ?_; (with_reducible refine (impl_JpParseString.calls kj5 t114 t115 true _ ?side1 A14.out).mono ?_); (case side1 => first | exact HG.out | exact Laid.below HG.out zq35); rintro e w23 ⟨rfl, hb⟩; refine ⟨_, rfl, ?_⟩; have n0_ := mk0 (Kd.R_below zq52 hb); have n1_ := mk0 (Kd.R_below zq53 hb); have n2_ := mk0 (blk_below (g := gb113) (o := .cells #[.int .i64 t103, .int .i64 t104, .int .i64 t105, .slice Ao20 t106.length co20, .slice Ao21 t109.length co21] 38 (0, 0)) zq72 hb); have n3_ := mk0 (below_step zq35 hb); clear HO108 HO111 BK113 HB; have HO108 := n0_; have HO111 := n1_; have BK113 := n2_; have HB := n3_; clear n0_ n1_ n2_ n3_; (try clear hb); (try clear hb2); (try clear hk); (try clear hi)))
      go_ret
      exact ⟨by first | rfl | (simp [errW_none, errW_some] <;> rfl) | (simp [*, errW_none, errW_some] <;> rfl), by repeat (first | (with_reducible first | exact HB.out | apply below_alloc | apply pw_below_drewN | apply below_drew1 | refine below_set ?_ GE113.out) | exact HB.out)⟩
     replace c15 := Bool.eq_false_iff.mpr c15
     subst c15
     have H1 : (some false) = some r := by rw [if_neg (show ¬ (false = true) by decide)] at H; exact H
     clear H
     have H := H1
     clear H1
     obtain rfl := Option.some.inj H
     go_wp2_with (first | ((with_reducible refine gate_callee (f := 14) rfl ?_); refine goesL_ (some 29) rfl rfl Tryd.func14 zq23 rfl #[.agg #[.int .i64 4, .string a0, .slice none 0 0, .slice none 0 0], .slice A1 l1.length c1] rfl zq2 ?_; (refine (spec_Dress.calls kj5 4 a0 _ _ ([] : List ByteArray) _ _ ([] : List (S34)) _ _ l1 t102 _ ?side1 ?side2 ?side3 ?side4 ?side5 ?side6 A10.out).mono ?_); (case side1 => exact Kd.C_nil _ _); (case side2 => exact Nat.le_refl _); (case side3 => exact Kd.C_nil _ _); (case side4 => exact Nat.le_refl _); (case side5 => exact zq55); (case side6 => exact HC1.out); rintro e w24 ⟨rfl, hb⟩; refine ⟨_, rfl, ?_⟩; have n0_ := mk0 (below_step zq12 hb); clear HB; have HB := n0_; clear n0_; (try clear hb); (try clear hb2); (try clear hk); (try clear hi)) | ((with_reducible refine gate_callee (f := 15) rfl ?_); refine goesL_ (some 32) rfl rfl Tryd.func15 zq23 rfl #[.string t102] rfl zq2 ?_; (with_reducible refine (spec_Places.calls kj5 t102 t103 t104 t105 t106 t109 true _ A11.out).mono ?_); rintro e w25 ⟨v107, v110, rfl, ho0, ho1, hb⟩; refine ⟨_, rfl, ?_⟩; have n0_ := mk0 (Kd.R_lower ho0 (below_size zq12)); have n1_ := mk0 (Kd.R_lower ho1 (below_size zq12)); have n2_ := mk0 (below_step zq12 hb); clear HB; have HO108 := n0_; have HO111 := n1_; have HB := n2_; clear n0_ n1_ n2_; (try clear hb); (try clear hb2); (try clear hk); (try clear hi); (try clear ho0); (try clear ho1)) | ((with_reducible refine gate_dst (N := 6) rfl ?_); (try (refine gate_guard (by rfl) ?_; dsimp only)); refine box_event ?hg (N := 6) ?hd (cs := #[.int .i64 0, .int .i64 0, .int .i64 0, .slice none 0 0, .slice none 0 0]) (t := 38) ?hr ?_; (case hd => rfl); (case hg => rfl); (case hr => exact zq30); intro gb113 hg w26 hbox hb; have n0_ := mk0 (Kd.R_below zq52 hb); have n1_ := mk0 (Kd.R_below (Kd.R_elderB zq53 gb113 (Nat.le_of_eq hg.symm)) hb); have n2_ := mk0 (below_step zq12 hb); have n3_ := mk0 (hbox); have n4_ := mk0 ((zq63 : w.heap.size ≤ gb113)); have n5_ := mk0 ((zq63 : w.heap.size ≤ gb113)); clear HO108 HO111 HB; have HO108 := n0_; have HO111 := n1_; have HB := n2_; have BK113 := n3_; have GW113 := n4_; have GE113 := n5_; clear n0_ n1_ n2_ n3_ n4_ n5_; clear hb hbox hg; have hcz27_0 : w26.cell? ⟨gb113, 0, none⟩ = some (.int .i64 0) := (blk_cell BK113.out 0).trans rfl; have hcz27_1 : w26.cell? ⟨gb113, 1, none⟩ = some (.int .i64 0) := (blk_cell BK113.out 1).trans rfl; have hcz27_2 : w26.cell? ⟨gb113, 2, none⟩ = some (.int .i64 0) := (blk_cell BK113.out 2).trans rfl; have hcz27_3 : w26.cell? ⟨gb113, 3, none⟩ = some (.slice none 0 0) := (blk_cell BK113.out 3).trans rfl; have hcz27_4 : w26.cell? ⟨gb113, 4, none⟩ = some (.slice none 0 0) := (blk_cell BK113.out 4).trans rfl; have hfz27_0 := blk_frozen BK113.out 0; have hfz27_1 := blk_frozen BK113.out 1; have hfz27_2 := blk_frozen BK113.out 2; have hfz27_3 := blk_frozen BK113.out 3; have hfz27_4 := blk_frozen BK113.out 4; obtain ⟨Ao28, co28, eo28⟩ := Kd.R_slice HO108.out; subst eo28; obtain ⟨Ao29, co29, eo29⟩ := Kd.R_slice HO111.out; subst eo29) | ((with_reducible refine gate_callee (f := 17) rfl ?_); refine goesL_ (some 40) rfl rfl Tryd.func17 zq23 rfl #[.string t102, .agg #[.int .i64 t103, .int .i64 t104, .int .i64 t105, .slice Ao28 t106.length co28, .slice Ao29 t109.length co29]] rfl zq2 ?_; (with_reducible refine (spec_Raw.calls t102 t103 t104 t105 _ _ t106 _ _ t109 t114 _ ?side1 ?side2 ?side3 ?side4 A13.out).mono ?_); (case side1 => refine (Kd.R_reads' (e := 104) (base := w.heap.size) (ok := fun k_ => True) (n := t106.length) (c := co28) ?_).2.2; exact zq43); (case side2 => exact (Kd.R_reads' HO108.out).2.1); (case side3 => refine (Kd.R_reads' (e := 38) (base := w.heap.size) (ok := fun k_ => (some k_ ≠ (.slice Ao28 t106.length co28 : Value).ownBlock ∧ k_ ≠ gb113)) (n := t109.length) (c := co29) ?_).2.2; exact zq41); (case side4 => exact (Kd.R_reads' HO111.out).2.1); rintro e w30 ⟨rfl, hb⟩; refine ⟨_, rfl, ?_⟩; have n0_ := mk0 (Kd.R_below zq43 hb); have n1_ := mk0 (Kd.R_below zq41 hb); have n2_ := mk0 (blk_below (g := gb113) (o := .cells #[.int .i64 t103, .int .i64 t104, .int .i64 t105, .slice Ao28 t106.length co28, .slice Ao29 t109.length co29] 38 (0, 0)) (by (with_reducible repeat (first | refine blk_drewN ?_ _ | refine blk_drew ?_ | refine blk_alloc ?_ _)); refine blk_put (cs := #[.int .i64 t103, .int .i64 t104, .int .i64 t105, .slice Ao28 t106.length co28, .slice none 0 0]) ?_ 4 _ rfl; (with_reducible repeat (first | refine blk_drewN ?_ _ | refine blk_drew ?_ | refine blk_alloc ?_ _)); refine blk_put (cs := #[.int .i64 t103, .int .i64 t104, .int .i64 t105, .slice none 0 0, .slice none 0 0]) ?_ 3 _ rfl; (with_reducible repeat (first | refine blk_drewN ?_ _ | refine blk_drew ?_ | refine blk_alloc ?_ _)); refine blk_put (cs := #[.int .i64 t103, .int .i64 t104, .int .i64 0, .slice none 0 0, .slice none 0 0]) ?_ 2 _ rfl; (with_reducible repeat (first | refine blk_drewN ?_ _ | refine blk_drew ?_ | refine blk_alloc ?_ _)); refine blk_put (cs := #[.int .i64 t103, .int .i64 0, .int .i64 0, .slice none 0 0, .slice none 0 0]) ?_ 1 _ rfl; (with_reducible repeat (first | refine blk_drewN ?_ _ | refine blk_drew ?_ | refine blk_alloc ?_ _)); refine blk_put (cs := #[.int .i64 0, .int .i64 0, .int .i64 0, .slice none 0 0, .slice none 0 0]) ?_ 0 _ rfl; (with_reducible repeat (first | refine blk_drewN ?_ _ | refine blk_drew ?_ | refine blk_alloc ?_ _)); exact BK113.out) hb); have n3_ := mk0 (below_step zq35 hb); clear HO108 HO111 BK113 HB; have HO108 := n0_; have HO111 := n1_; have BK113 := n2_; have HB := n3_; clear n0_ n1_ n2_ n3_; (try clear hb); (try clear hb2); (try clear hk); (try clear hi)) | ((with_reducible refine gate_callee (f := 16) rfl ?_); refine goesL_ (some 41) rfl rfl Tryd.func16 zq23 rfl #[.string t114] rfl zq2 ?_; (with_reducible refine (impl_JpParseString.calls kj5 t114 t115 false _ ?side1 A14.out).mono ?_); (case side1 => first | exact HG.out | exact Laid.below HG.out zq35); rintro e w31 ⟨rfl, hb⟩; refine ⟨_, rfl, ?_⟩; have n0_ := mk0 (Kd.R_below zq52 hb); have n1_ := mk0 (Kd.R_below zq53 hb); have n2_ := mk0 (blk_below (g := gb113) (o := .cells #[.int .i64 t103, .int .i64 t104, .int .i64 t105, .slice Ao28 t106.length co28, .slice Ao29 t109.length co29] 38 (0, 0)) zq72 hb); have n3_ := mk0 (below_step zq35 hb); clear HO108 HO111 BK113 HB; have HO108 := n0_; have HO111 := n1_; have BK113 := n2_; have HB := n3_; clear n0_ n1_ n2_ n3_; (try clear hb); (try clear hb2); (try clear hk); (try clear hi)))
     go_ret
     exact ⟨by first | rfl | (simp [errW_none, errW_some] <;> rfl) | (simp [*, errW_none, errW_some] <;> rfl), by repeat (first | (with_reducible first | exact HB.out | apply below_alloc | apply pw_below_drewN | apply below_drew1 | refine below_set ?_ GE113.out) | exact HB.out)⟩
def laws_FnJpParseStringForms.Pure : Prop := ∀ (a0 : ByteArray) (l1 : List Int), a0.size ≤ 140737488351232 → l1.length ≤ maxLen → l1.length * 1 ≤ 140737488351232 → (∀ x ∈ l1, (Lit.int .u8 x).wf = true) → ∃ k, laws_FnJpParseStringForms.f k a0 l1 = some true
theorem laws_FnJpParseStringForms.walk (P : laws_FnJpParseStringForms.Pure) (a0 : ByteArray) (a1 : Option Addr) (len1 cap1 : Nat) (z1 : List Int) (w : World) (hG : Laid w) (w0 : a0.size ≤ 140737488351232) (w1 : (a1 = none ∧ len1 = 0 ∧ cap1 = 0 ∧ z1 = []) ∨ ∃ x, a1 = some x ∧ len1 ≤ cap1 ∧ cap1 ≤ maxLen ∧ z1.length = cap1 ∧ (∀ i, i < z1.length → w.cell? (x.add i) = some (.int .u8 (z1.getD i 0))) ∧ ∀ n ∈ z1, (Lit.int .u8 n).wf = true) (y1 : len1 * 1 ≤ 140737488351232) :
 Calls Tryd.prog 4 #[.string a0, .slice a1 len1 cap1] w fun e w' => e = .returned (.bool true) ∧ Below w.heap.size w w' := by
 obtain ⟨l1, rfl, hr1, hm1, hw1, hc1⟩ := ReadsInt.ofRowC w1
 obtain ⟨k, h⟩ := P a0 l1 w0 hm1 y1 hw1
 refine (laws_FnJpParseStringForms.calls k a0 _ _ l1 true w (Kd.C_of_reads (d := (0 : Int)) (h1 := fun _ => rfl) hr1) hc1 hG h).mono ?_
 rintro e w' ⟨rfl, hd⟩
 exact ⟨rfl, hd⟩
end Go.Proofs.YtaigbkkgmncipaaDoor.Y
end
section
namespace Go.Proofs.YtaigbkkgmncipaaDoor.J
open Go.RowKit Go.Proofs.YtaigbkkgmncipaaDoor.Y Go.Proofs.YtaigbkkgmncipaaDoorW.PrintWords Go.Proofs.YtaigbkkgmncipaaDoorW.PrintLast

theorem hexDigit_eq {c : Int} (h : 0 ≤ c ∧ c ≤ 255) : Ev (fun k => spec_hexDigit.f k c) ((hexv c).getD 0, (hexv c).isSome) := by
 refine ⟨2, fun k hk => ?_⟩
 obtain ⟨k, rfl⟩ : ∃ m, k = m + 2 := ⟨k - 2, by omega⟩
 unfold spec_hexDigit.f hexv
 simp only [spec_hexDigit.j0, spec_hexDigit.j1]
 by_cases h1 : 48 ≤ c ∧ c ≤ 57
 ·rw [if_pos h1.1, if_pos (by simp; omega), if_pos h1]
  simp; omega
 rw [if_neg h1]
 have key : (if 97 ≤ c then (if decide (c ≤ 102) = true then some ((c - 97) % 256 + 10, true) else if 65 ≤ c then if c ≤ 70 then some ((c - 65) % 256 + 10, true) else some (0, false) else some (0, false))
  else (if false = true then some ((c - 97) % 256 + 10, true) else if 65 ≤ c then if c ≤ 70 then some ((c - 65) % 256 + 10, true) else some (0, false) else some (0, false))) =
  some (((if 97 ≤ c ∧ c ≤ 102 then some (c - 87) else if 65 ≤ c ∧ c ≤ 70 then some (c - 55) else none : Option Int).getD 0, (if 97 ≤ c ∧ c ≤ 102 then some (c - 87) else if 65 ≤ c ∧ c ≤ 70 then some (c - 55) else none : Option Int).isSome)) := by
  by_cases h2 : 97 ≤ c ∧ c ≤ 102
  ·rw [if_pos h2.1, if_pos (by simp; omega), if_pos h2]
   simp; omega
  rw [if_neg h2]
  by_cases h3 : 65 ≤ c ∧ c ≤ 70
  ·rw [if_neg (by omega), if_neg (by simp), if_pos h3.1, if_pos h3.2, if_pos h3]
   simp; omega
  rw [if_neg h3]
  by_cases h4 : 97 ≤ c
  ·rw [if_pos h4, if_neg (by simp; omega), if_pos (by omega), if_neg (by omega)]
   rfl
  rw [if_neg h4, if_neg (by simp)]
  by_cases h5 : 65 ≤ c
  rotate_left
  ·rw [if_neg h5]
   rfl
  rw [if_pos h5, if_neg (by omega)]
  rfl
 by_cases h6 : 48 ≤ c
 rotate_left
 ·rw [if_neg h6, if_neg (by simp)]
  exact key
 rw [if_pos h6, if_neg (by simp; omega)]
 exact key
theorem here_cons {s : ByteArray} {i : Nat} {a : Int} {l : List Int} (h : From s i (a :: l)) : spec_reader_here.f s (i : Int) = some (a, s, (i : Int)) := by
 have := h.lt
 unfold spec_reader_here.f
 rw [if_pos (by omega), if_pos (by omega), h.bt]
theorem here_nil {s : ByteArray} {i : Nat} (h : From s i []) : spec_reader_here.f s (i : Int) = some (0, s, (i : Int)) := by
 have := h.nil
 unfold spec_reader_here.f
 rw [if_neg (by omega)]
theorem up {i n : Nat} (k : Nat) (h : i ≤ n) (hn : n ≤ 140737488351232) (hk : k ≤ 100) : wrap64 ((i : Int) + (k : Int)) = ((i + k : Nat) : Int) := by
 rw [w64 (by omega)]; omega
theorem up1 {i n : Nat} (h : i ≤ n) (hn : n ≤ 140737488351232) : wrap64 ((i : Int) + 1) = ((i + 1 : Nat) : Int) := up 1 h hn (by omega)
def hexs : Nat → List Int → Bool
  | 0, _ => true
  | _ + 1, [] => false
  | n + 1, a :: r => (hexv a).isSome && hexs n r
theorem hex4_hexs (l : List Int) : (hex4 l).isSome = hexs 4 l := by
 match l with
 | [] => rfl
 | [a] => simp [hex4, hexs]
 | [a, b] => simp [hex4, hexs]
 | [a, b, c] => simp [hex4, hexs]
 | a :: b :: c :: d :: r =>
  simp only [hex4, hexs]
  cases hexv a <;> cases hexv b <;> cases hexv c <;> cases hexv d <;> rfl
section
variable {s : ByteArray} (hs : s.size ≤ 140737488351232)
include hs
theorem esc_l0 : ∀ (n : Nat) (i : Nat) (l : List Int), n ≤ 4 → From s i l →
 (hexs n l = true → Ev (fun k => spec_reader_escape.l0 k (((4 - n : Nat) : Int)) s i) (true, s, ((i + n : Nat) : Int))) ∧
 (hexs n l = false → ∃ p, Ev (fun k => spec_reader_escape.l0 k (((4 - n : Nat) : Int)) s i) (false, s, p))
 | 0, i, l, _, h => ⟨fun _ => Ev.step (f := fun _ => some (true, s, (i : Int))) (fun k => by simp only [spec_reader_escape.l0]; rw [if_neg (by omega)]) (Ev.now _), fun h => by simp [hexs] at h⟩
 | n + 1, i, [], hn, h => by
  refine ⟨fun e => by simp [hexs] at e, fun _ => ⟨(i : Int), ?_⟩⟩
  refine Ev.step (f := fun k => (spec_hexDigit.f k 0).bind fun bt107 => (if bt107.2 = true then (spec_reader_escape.l0 k (wrap64 ((((4 - (n + 1) : Nat) : Int)) + 1)) s (wrap64 ((i : Int) + 1))) else some (false, s, (i : Int)))) (fun k => ?_) (Ev.bind (hexDigit_eq (by omega)) (Ev.congr (fun k => if_neg (by simp [hexv])) (Ev.now _)))
  simp only [spec_reader_escape.l0]
  rw [if_pos (by omega), here_nil h]
  rfl
 | n + 1, i, a :: l, hn, h => by
  have ih := esc_l0 n (i + 1) l (by omega) h.tail
  have e1 : wrap64 ((((4 - (n + 1) : Nat) : Int)) + 1) = (((4 - n : Nat) : Int)) := by rw [w64 (by omega)]; omega
  have e2 := up1 (Nat.le_of_lt h.lt) hs
  have st : ∀ R, Ev (fun k => if (hexv a).isSome = true then (spec_reader_escape.l0 k (((4 - n : Nat) : Int)) s ((i + 1 : Nat) : Int)) else some (false, s, (i : Int))) R → Ev (fun k => spec_reader_escape.l0 k (((4 - (n + 1) : Nat) : Int)) s i) R := fun R hR => by
   refine Ev.step (f := fun k => (spec_hexDigit.f k a).bind fun bt107 => (if bt107.2 = true then (spec_reader_escape.l0 k (((4 - n : Nat) : Int)) s ((i + 1 : Nat) : Int)) else some (false, s, (i : Int)))) (fun k => ?_) (Ev.bind (hexDigit_eq h.head) hR)
   simp only [spec_reader_escape.l0]
   rw [if_pos (by omega), here_cons h, e1]
   simp only [Option.bind_some, e2]
  by_cases ha : (hexv a).isSome = true
  rotate_left
  ·exact ⟨fun e => by simp [hexs, ha] at e, fun _ => ⟨_, st _ (Ev.congr (fun k => if_neg ha) (Ev.now _))⟩⟩
  refine ⟨fun e => ?_, fun e => ?_⟩
  ·simp only [hexs, Bool.and_eq_true] at e
   have := st _ (Ev.congr (fun k => if_pos ha) (ih.1 e.2))
   rwa [show i + 1 + n = i + (n + 1) by omega] at this
  ·rw [hexs, ha, Bool.true_and] at e
   obtain ⟨p, hp⟩ := ih.2 e
   exact ⟨p, st _ (Ev.congr (fun k => if_pos ha) hp)⟩
theorem escape_eq {i : Nat} {l : List Int} (h : From s i l) :
 (∀ r, escL l = some r → Ev (fun k => spec_reader_escape.f k s i) (true, s, ((s.size - r.length : Nat) : Int))) ∧
 (escL l = none → ∃ p, Ev (fun k => spec_reader_escape.f k s i) (false, s, p)) := by
 have j0 : ∀ a x, x = isE a → Ev (fun k => spec_reader_escape.j0 k a x s i) = Ev (fun k => if isE a = true then some (true, s, wrap64 ((i : Int) + 1)) else if a = 117 then spec_reader_escape.l0 (k - 1) 0 s (wrap64 ((i : Int) + 1)) else some (false, s, (i : Int))) := by
  intro a x e
  subst e
  funext R
  apply propext
  constructor
  ·rintro ⟨K, hK⟩
   refine ⟨K + 1, fun k hk => ?_⟩
   obtain ⟨k, rfl⟩ : ∃ m, k = m + 1 := ⟨k - 1, by omega⟩
   have := hK (k + 1) (by omega)
   simpa only [spec_reader_escape.j0, Nat.add_sub_cancel] using this
  ·rintro ⟨K, hK⟩
   refine ⟨K + 1, fun k hk => ?_⟩
   obtain ⟨k, rfl⟩ : ∃ m, k = m + 1 := ⟨k - 1, by omega⟩
   have := hK (k + 1) (by omega)
   simpa only [spec_reader_escape.j0, Nat.add_sub_cancel] using this
 have sh : ∀ {g : Nat → Option (Bool × ByteArray × Int)} {R}, Ev g R → Ev (fun k => g (k - 1)) R := by
  rintro g R ⟨K, hK⟩
  exact ⟨K + 1, fun k hk => hK _ (by omega)⟩
 match l, h with
 | [], h =>
  refine ⟨fun r hr => by simp [escL] at hr, fun _ => ⟨(i : Int), ?_⟩⟩
  refine Ev.congr (f := fun k => spec_reader_escape.j0 k 0 ((0 : Int) == 116) s i) (fun k => ?_) ?_
  ·unfold spec_reader_escape.f
   rw [here_nil h]
   rfl
  ·rw [j0 0 _ zq45]
   exact Ev.congr (fun k => by rw [if_neg zq45, if_neg zq45]) (Ev.now _)
 | a :: l, h =>
  have e2 := up1 (Nat.le_of_lt h.lt) hs
  have hl := h.len
  simp only [List.length_cons] at hl
  have key : Ev (fun k => spec_reader_escape.f k s i) = Ev (fun k => spec_reader_escape.j0 k a (isE a) s i) := by
   congr 1
   funext k
   unfold spec_reader_escape.f
   rw [here_cons h]
   simp only [Option.bind_some, isE]
   by_cases h1 : a = 34
   ·rw [if_pos h1, h1]; rfl
   rw [if_neg h1]
   by_cases h2 : a = 92
   ·rw [if_pos h2, h2]; rfl
   rw [if_neg h2]
   by_cases h3 : a = 47
   ·rw [if_pos h3, h3]; rfl
   rw [if_neg h3]
   by_cases h4 : a = 98
   ·rw [if_pos h4, h4]; rfl
   rw [if_neg h4]
   by_cases h5 : a = 102
   ·rw [if_pos h5, h5]; rfl
   rw [if_neg h5]
   by_cases h6 : a = 110
   ·rw [if_pos h6, h6]; rfl
   rw [if_neg h6]
   by_cases h7 : a = 114
   ·rw [if_pos h7, h7]; rfl
   rw [if_neg h7]
   congr 1
   rw [Bool.eq_iff_iff]
   simp
   omega
  rw [key, j0 a _ rfl]
  by_cases h1 : isE a = true
  ·refine ⟨fun r hr => ?_, fun hr => (by rw [escL_let _ h1] at hr; cases hr)⟩
   rw [escL_let _ h1] at hr
   cases hr
   refine Ev.congr (fun k => if_pos h1) (Ev_same (Ev.now _) ?_)
   rw [e2, show i + 1 = s.size - l.length by omega]
  by_cases h2 : a = 117
  rotate_left
  ·refine ⟨fun r hr => (by rw [escL, if_neg h1, if_neg h2] at hr; cases hr), fun _ => ⟨(i : Int), Ev.congr (fun k => by rw [if_neg h1, if_neg h2]) (Ev.now _)⟩⟩
  subst h2
  have hh := esc_l0 hs 4 (i + 1) l (by omega) h.tail
  refine ⟨fun r hr => ?_, fun hr => ?_⟩
  ·rw [escL, if_neg h1, if_pos rfl] at hr
   obtain ⟨v, hv, hr⟩ := Option.bind_eq_some_iff.mp hr
   cases hr
   have h4 : hexs 4 l = true := by rw [← hex4_hexs, hv]; rfl
   have hlen := hex4_len hv
   refine Ev.congr (f := fun k => spec_reader_escape.l0 (k - 1) 0 s ((i + 1 : Nat) : Int)) (fun k => by rw [if_neg h1, if_pos rfl, e2]) (Ev_same (sh (hh.1 h4)) ?_)
   rw [show i + 1 + 4 = s.size - (l.drop 4).length by rw [List.length_drop]; omega]
  ·rw [escL, if_neg h1, if_pos rfl] at hr
   have h4 : hexs 4 l = false := by
    rw [← hex4_hexs]
    cases hv : hex4 l with
    | none => rfl
    | some v => rw [hv] at hr; cases hr
   obtain ⟨p, hp⟩ := hh.2 h4
   exact ⟨p, Ev.congr (f := fun k => spec_reader_escape.l0 (k - 1) 0 s ((i + 1 : Nat) : Int)) (fun k => by rw [if_neg h1, if_pos rfl, e2]) (sh hp)⟩
theorem quoted_l0 : ∀ (n i : Nat) (l : List Int), l.length ≤ n → From s i l →
 (∀ r, strL l = some r → Ev (fun k => spec_reader_quoted.l0 k s i) (true, s, ((s.size - r.length : Nat) : Int))) ∧
 (strL l = none → ∃ p, Ev (fun k => spec_reader_quoted.l0 k s i) (false, s, p))
 | n, i, [], _, h => by
  have := h.nil
  refine ⟨fun r hr => (by rw [strL_nil] at hr; cases hr), fun _ => ⟨(i : Int), Ev.step (f := fun _ => some (false, s, (i : Int))) (fun k => ?_) (Ev.now _)⟩⟩
  simp only [spec_reader_quoted.l0]
  rw [if_neg (by omega)]
 | 0, i, c :: l, hn, h => by simp at hn
 | n + 1, i, c :: l, hn, h => by
  simp only [List.length_cons] at hn
  have hl := h.len
  simp only [List.length_cons] at hl
  have e2 := up1 (Nat.le_of_lt h.lt) hs
  have st : ∀ k, spec_reader_quoted.l0 (k + 1) s i = (if c = 34 then (some (true, s, ((i + 1 : Nat) : Int))) else (if c < 32 then (some (false, s, ((i + 1 : Nat) : Int))) else (if c = 92 then ((spec_reader_escape.f k s ((i + 1 : Nat) : Int)).bind fun bt101 => (if bt101.1 = true then (spec_reader_quoted.l0 k bt101.2.1 bt101.2.2) else (some (false, bt101.2.1, bt101.2.2)))) else (spec_reader_quoted.l0 k s ((i + 1 : Nat) : Int))))) := fun k => by
   simp only [spec_reader_quoted.l0]
   rw [if_pos (by have := h.lt; omega), if_pos (by omega), h.bt, e2]
  by_cases h1 : c = 34
  ·subst h1
   refine ⟨fun r hr => ?_, fun hr => (by rw [strL_end] at hr; cases hr)⟩
   rw [strL_end] at hr
   cases hr
   refine Ev.step (fun k => (st k).trans (if_pos rfl)) (Ev_same (Ev.now _) ?_)
   rw [show i + 1 = s.size - l.length by omega]
  by_cases h2 : c < 32
  ·refine ⟨fun r hr => (by rw [strL_low _ h2] at hr; cases hr), fun _ => ⟨_, Ev.step (fun k => (st k).trans ((if_neg h1).trans (if_pos h2))) (Ev.now _)⟩⟩
  by_cases h3 : c = 92
  rotate_left
  ·rw [strL_raw _ ⟨h1, h2, h3⟩]
   have ih := quoted_l0 n (i + 1) l (by omega) h.tail
   have go : ∀ k, spec_reader_quoted.l0 (k + 1) s i = spec_reader_quoted.l0 k s ((i + 1 : Nat) : Int) := fun k => (st k).trans ((if_neg h1).trans ((if_neg h2).trans (if_neg h3)))
   refine ⟨fun r hr => Ev.step go (ih.1 r hr), fun hr => ?_⟩
   obtain ⟨p, hq⟩ := ih.2 hr
   exact ⟨p, Ev.step go hq⟩
  subst h3
  have hh := escape_eq hs h.tail
  rw [strL_esc]
  have go : ∀ {a q R}, Ev (fun k => spec_reader_escape.f k s ((i + 1 : Nat) : Int)) (a, s, q) → Ev (fun k => if a = true then (spec_reader_quoted.l0 k s q) else (some (false, s, q))) R → Ev (fun k => spec_reader_quoted.l0 k s i) R := fun {a q R} hx hy =>
   Ev.step (fun k => (st k).trans ((if_neg h1).trans ((if_neg h2).trans (if_pos rfl)))) (Ev.bind hx hy)
  cases he : escL l with
  | none =>
   refine ⟨fun r hr => (by cases hr), fun _ => ?_⟩
   obtain ⟨p, hp⟩ := hh.2 he
   exact ⟨p, go hp (Ev.congr (fun k => if_neg zq45) (Ev.now _))⟩
  | some r' =>
   have hlen := escL_len he
   have hp := hh.1 r' he
   have hF : From s (s.size - r'.length) r' := by
    rcases escL_ex he with ⟨b, _, rfl⟩ | ⟨a, b, c, d, v, _, rfl⟩
    ·have := h.tail.tail
     have hz := this.len
     rwa [show i + 1 + 1 = s.size - r'.length by omega] at this
    ·have := h.tail.tail.tail.tail.tail.tail
     have hz := this.len
     rwa [show i + 1 + 1 + 1 + 1 + 1 + 1 = s.size - r'.length by omega] at this
   have ih := quoted_l0 n (s.size - r'.length) r' (by omega) hF
   refine ⟨fun r hr => go hp (Ev.congr (fun k => if_pos rfl) (ih.1 r hr)), fun hr => ?_⟩
   obtain ⟨p, hq⟩ := ih.2 hr
   exact ⟨p, go hp (Ev.congr (fun k => if_pos rfl) hq)⟩
theorem quoted_eq {i : Nat} {c : Int} {l : List Int} (h : From s i (c :: l)) :
 (∀ r, strL l = some r → Ev (fun k => spec_reader_quoted.f k s i) (true, s, ((s.size - r.length : Nat) : Int))) ∧
 (strL l = none → ∃ p, Ev (fun k => spec_reader_quoted.f k s i) (false, s, p)) := by
 have e2 := up1 (Nat.le_of_lt h.lt) hs
 have := quoted_l0 hs l.length (i + 1) l (Nat.le_refl _) h.tail
 unfold spec_reader_quoted.f
 rw [e2]
 exact this
end

end Go.Proofs.YtaigbkkgmncipaaDoor.J
end
section
namespace Go.Proofs.YtaigbkkgmncipaaDoor.RN
open Go.RowKit Go.Proofs.YtaigbkkgmncipaaDoor.Y Go.Proofs.YtaigbkkgmncipaaDoorW.PrintWords Go.Proofs.YtaigbkkgmncipaaDoorW.PrintLast
def dg (s : ByteArray) (i : Nat) : Bool := decide (i < s.size ∧ 48 ≤ bt s i ∧ bt s i ≤ 57)
theorem Ev_same {α : Type} {g : Nat → Option α} {r r' : α} (h : Ev g r) (e : r = r') : Ev g r' := e ▸ h
end Go.Proofs.YtaigbkkgmncipaaDoor.RN
end
section
namespace Go.Proofs.YtaigbkkgmncipaaDoor.J
open Go.RowKit Go.Proofs.YtaigbkkgmncipaaDoor.Y Go.Proofs.YtaigbkkgmncipaaDoorW.PrintWords Go.Proofs.YtaigbkkgmncipaaDoorW.PrintLast

def Suf (s : ByteArray) (l : List Int) : Prop := From s (s.size - l.length) l
def P (s : ByteArray) (l : List Int) : Int := ((s.size - l.length : Nat) : Int)
theorem Suf.le {s : ByteArray} {l : List Int} (h : Suf s l) : l.length ≤ s.size := by
 have := From.len h
 omega
theorem Suf.tail {s : ByteArray} {a : Int} {l : List Int} (h : Suf s (a :: l)) : Suf s l := by
 have h1 := h.le
 have := From.tail h
 simp only [List.length_cons] at this h1
 unfold Suf
 rwa [show s.size - l.length = s.size - (l.length + 1) + 1 by omega]
theorem Suf.app {s : ByteArray} {a l : List Int} (h : Suf s (a ++ l)) : Suf s l := by
 induction a with
 | nil => exact h
 | cons x a ih => exact ih (Suf.tail h)
theorem Suf.of {s : ByteArray} {i : Nat} {l : List Int} (h : From s i l) : Suf s l ∧ i = s.size - l.length := by
 have := h.len
 have e : i = s.size - l.length := by omega
 refine ⟨?_, e⟩
 unfold Suf
 rw [← e]
 exact h
theorem Suf.start (s : ByteArray) : Suf s (bytesOf s) := by
 unfold Suf
 rw [bytesOf_length, Nat.sub_self]
 exact From.start s
theorem P_cons {s : ByteArray} {a : Int} {l : List Int} (h : Suf s (a :: l)) : P s l = P s (a :: l) + 1 := by
 have := h.le
 unfold P
 simp only [List.length_cons] at this ⊢
 omega
theorem P_le (s : ByteArray) (l : List Int) : 0 ≤ P s l ∧ P s l ≤ s.size := by unfold P; omega
theorem P_lt {s : ByteArray} {a : Int} {l : List Int} (h : Suf s (a :: l)) : P s (a :: l) < s.size := by
 have := h.le
 unfold P
 simp only [List.length_cons] at this ⊢
 omega
theorem P_nil (s : ByteArray) : P s [] = s.size := by unfold P; simp
theorem Suf.bt {s : ByteArray} {a : Int} {l : List Int} (h : Suf s (a :: l)) : bt s (P s (a :: l)) = a := From.bt h
theorem Suf.skB {s : ByteArray} {l : List Int} (h : Suf s l) : Suf s (skB l) := by
 obtain ⟨b, _, e⟩ := skB_ex l
 rw [e] at h
 exact h.app
theorem Suf.str {s : ByteArray} {l r : List Int} (h : Suf s l) (k : strL l = some r) : Suf s r := by
 obtain ⟨b, _, e⟩ := strL_iff.mp k
 rw [e] at h
 exact Suf.tail h.app
theorem Suf.drop {s : ByteArray} {l : List Int} (h : Suf s l) (n : Nat) : Suf s (l.drop n) := by
 rw [← List.take_append_drop n l] at h
 exact h.app
section
variable {s : ByteArray} (hs : s.size ≤ 140737488351232)
include hs
theorem up_P {a : Int} {l : List Int} (h : Suf s (a :: l)) : wrap64 (P s (a :: l) + 1) = P s l := by
 have := P_le s (a :: l)
 rw [P_cons h, w64 (by omega)]
omit hs in
theorem here_P {a : Int} {l : List Int} (h : Suf s (a :: l)) : spec_reader_here.f s (P s (a :: l)) = some (a, s, P s (a :: l)) := here_cons h
theorem blanks_eq : ∀ l, Suf s l → Ev (fun k => spec_reader_blanks.f k s (P s l)) (s, P s (skB l))
 | [], _ => by
  refine Ev.step (f := fun _ => some (s, P s [])) (fun k => ?_) (Ev.now _)
  unfold spec_reader_blanks.f
  simp only [spec_reader_blanks.l0]
  rw [P_nil, if_neg (by omega)]
 | c :: l, h => by
  have h1 := P_lt h
  have h2 := P_le s (c :: l)
  have hb : spec_Blank.f c = some (isB c) := by
   unfold spec_Blank.f isB
   by_cases e1 : c = 32
   ·rw [if_pos e1, e1]; rfl
   by_cases e2 : c = 9
   ·rw [if_neg e1, if_pos e2, e2]; rfl
   by_cases e3 : c = 10
   ·rw [if_neg e1, if_neg e2, if_pos e3, e3]; rfl
   rw [if_neg e1, if_neg e2, if_neg e3]
   congr 1
   rw [Bool.eq_iff_iff]
   simp [e1, e2, e3]
  unfold spec_reader_blanks.f
  by_cases e : isB c = true
  ·refine Ev.step (fun k => ?_) (Ev_same (blanks_eq l h.tail) (by rw [skB, if_pos e]))
   simp only [spec_reader_blanks.l0]
   rw [if_pos (by omega), if_pos (by omega), h.bt, hb, Option.bind_some, if_pos e, up_P hs h]
   rfl
  refine Ev.step (f := fun _ => some (s, P s (c :: l))) (fun k => ?_) (Ev_same (Ev.now _) (by rw [skB, if_neg e]))
  simp only [spec_reader_blanks.l0]
  rw [if_pos (by omega), if_pos (by omega), h.bt, hb, Option.bind_some, if_neg e]
theorem quoted_P {a : Int} {l : List Int} (h : Suf s (a :: l)) :
 (∀ r, strL l = some r → Ev (fun k => spec_reader_quoted.f k s (P s (a :: l))) (true, s, P s r)) ∧ (strL l = none → ∃ p, Ev (fun k => spec_reader_quoted.f k s (P s (a :: l))) (false, s, p)) := quoted_eq hs h
end
end Go.Proofs.YtaigbkkgmncipaaDoor.J
end
