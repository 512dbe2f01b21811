/- The words, walks and laws that the proof rests on, laid together (part 4). -/
import Derived.Test.YtaigbkkgmncipaaDoorKFnGjStringText3
section
namespace Go.Proofs.YtaigbkkgmncipaaDoor.G
open Go.RowKit Go.Proofs.YtaigbkkgmncipaaDoorW.PrintWords Go.Proofs.YtaigbkkgmncipaaDoorW.PrintLast Go.Proofs.YtaigbkkgmncipaaDoorW.PrintMore
attribute [local go_sem] max2_int min2_int max_two min_two max_three min_three max_four min_four
set_option linter.unusedVariables false
set_option linter.unusedSimpArgs false
set_option maxHeartbeats 8000000 in
set_option maxRecDepth 100000 in
theorem spec_reader_elements.step (k : Nat) (ih_29 : ∀ m, m < k → spec_reader_value.Stmt m) (ih_49 : ∀ m, m < k → spec_reader_members.Stmt m) (ih_50 : ∀ m, m < k → spec_reader_elements.Stmt m) : spec_reader_elements.Stmt k := by
 intro g s0_0 s0_1 r1 r2 r3 r4 w0 w hI hB h
 cases k with
 | zero => exact absurd h (by simp [spec_reader_elements.f])
 | succ k =>
 simp only [spec_reader_elements.f] at h
 have hu38 := Tryd.underlying38
 have HI0 := mk0 hI
 have HK := mk0 (KeepBut.refl w g none)
 have HL := mk0 hB.size
 clear hI
 have HW0 := mk0 hB.size
 have HB := mk0 hB
 clear hB
 have H : ((spec_reader_blanks.f k s0_0 (wrap64 (s0_1 + 1))).bind fun bt183 => ((spec_reader_take.f bt183.1 bt183.2 93).bind fun bt185 => (if bt185.1 = true then (some (([] : List (S38)), true, bt185.2.1, bt185.2.2)) else (spec_reader_elements.l0 k ([] : List (S38)) bt185.2.1 bt185.2.2)))) = some (r1, r2, r3, r4) := h
 clear h
 replace H := Option.bind_eq_some_iff.mp H
 obtain ⟨⟨t183, t184⟩, A20, H⟩ := H
 replace H : ((spec_reader_take.f t183 t184 93).bind fun bt185 => (if bt185.1 = true then (some (([] : List (S38)), true, bt185.2.1, bt185.2.2)) else (spec_reader_elements.l0 k ([] : List (S38)) bt185.2.1 bt185.2.2))) = some (r1, r2, r3, r4) := H
 have A2 := mk0 A20
 clear A20
 replace H := Option.bind_eq_some_iff.mp H
 obtain ⟨⟨t185, t186, t187⟩, A30, H⟩ := H
 replace H : (if t185 = true then (some (([] : List (S38)), true, t186, t187)) else (spec_reader_elements.l0 k ([] : List (S38)) t186 t187)) = some (r1, r2, r3, r4) := H
 have A3 := mk0 A30
 clear A30
 by_cases c4 : t185 = true
 ·subst c4
  have H1 : (some (([] : List (S38)), true, t186, t187)) = some (r1, r2, r3, r4) := by rw [if_pos rfl] at H; exact H
  clear H
  have H := H1
  clear H1
  simp only [Option.some.injEq, Prod.mk.injEq] at H
  obtain ⟨rfl, rfl, rfl, rfl⟩ := H
  obtain ⟨HGz5, hgz5⟩ := HI0.out
  have hcz5_0 := cellS56_0 HGz5
  have hcz5_1 := cellS56_1 HGz5
  have hfz5_0 := blk_frozen HGz5 0
  have hfz5_1 := blk_frozen HGz5 1
  clear HGz5 hgz5
  go_enter Tryd.func50, Tryd.ntmps50
  go_wp2_with (first | ((with_reducible refine gate_callee (f := 28) rfl ?_); refine goesL_ (some 15) rfl rfl Tryd.func28 zq22 rfl #[.pointer (some ⟨g, 0, none⟩)] rfl zq2 ?_; (with_reducible refine (spec_reader_blanks.calls k g s0_0 (wrap64 (s0_1 + 1)) t183 t184 w0 _ ?side1 ?side2 A2.out).mono ?_); (case side1 => exact zq0); (case side2 => exact zq3); rintro e w6 ⟨rfl, hi, hb, hk⟩; refine ⟨_, rfl, ?_⟩; have n0_ := mk0 (KeepBut.trans zq1 hk (.inl rfl)); have n1_ := mk0 (hb); have n2_ := mk0 (hi); clear HK HB HI0; have HK := n0_; have HB := n1_; have HI0 := n2_; clear n0_ n1_ n2_; (try clear hb); (try clear hb2); (try clear hk); (try clear hi)) | ((with_reducible refine gate_callee (f := 67) rfl ?_); refine goesL_ (some 17) rfl rfl Tryd.func67 zq22 rfl #[.pointer (some ⟨g, 0, none⟩), .int .u8 93] rfl zq2 ?_; (with_reducible refine (spec_reader_take.calls g t183 t184 93 true t186 t187 w0 _ ?side1 ?side2 A3.out).mono ?_); (case side1 => exact zq0); (case side2 => exact zq3); rintro e w7 ⟨rfl, hi, hb, hk⟩; refine ⟨_, rfl, ?_⟩; have n0_ := mk0 (KeepBut.trans zq1 hk (.inl rfl)); have n1_ := mk0 (hb); have n2_ := mk0 (hi); clear HK HB HI0; have HK := n0_; have HB := n1_; have HI0 := n2_; clear n0_ n1_ n2_; (try clear hb); (try clear hb2); (try clear hk); (try clear hi)))
  go_ret2
  exact ⟨_, by first | rfl | (simp [errW_none, errW_some] <;> rfl) | (simp [*, errW_none, errW_some] <;> rfl), by first | exact Kd.R_nil _ _ _ _ _ | exact Kd.N_nil _ _ _ _ _ | exact Kd.V_nil _ _ _ _ _ | exact Kd.Q_nil _ _ _ _ _ | exact Kd.S_nil _ _ _ _ _, by repeat (first | (with_reducible first | exact HI0.out | apply IsS56.alloc | apply IsS56.drewN | apply IsS56.drew | apply IsS56.set_0 | apply IsS56.set_1) | exact HI0.out), by repeat (first | (with_reducible first | exact HB.out | apply below_alloc | apply pw_below_drewN | apply below_drew1 | refine below_set ?_ (IsS56.ge HI0.out)) | exact HB.out), by repeat (first | (with_reducible first | exact HK.out | apply KeepBut.set_ | apply keep_drewN | apply keep_drew | apply keep_alloc) | exact HK.out)⟩
 replace c4 := Bool.eq_false_iff.mpr c4
 subst c4
 have H1 : (spec_reader_elements.l0 k ([] : List (S38)) t186 t187) = some (r1, r2, r3, r4) := by rw [if_neg (show ¬ (false = true) by decide)] at H; exact H
 clear H
 have H := H1
 clear H1
 have H' := mk0 H
 clear H
 obtain ⟨HGz8, hgz8⟩ := HI0.out
 have hcz8_0 := cellS56_0 HGz8
 have hcz8_1 := cellS56_1 HGz8
 have hfz8_0 := blk_frozen HGz8 0
 have hfz8_1 := blk_frozen HGz8 1
 clear HGz8 hgz8
 go_enter Tryd.func50, Tryd.ntmps50
 go_wp2_with (first | ((with_reducible refine gate_callee (f := 28) rfl ?_); refine goesL_ (some 15) rfl rfl Tryd.func28 zq22 rfl #[.pointer (some ⟨g, 0, none⟩)] rfl zq2 ?_; (with_reducible refine (spec_reader_blanks.calls k g s0_0 (wrap64 (s0_1 + 1)) t183 t184 w0 _ ?side1 ?side2 A2.out).mono ?_); (case side1 => exact zq0); (case side2 => exact zq3); rintro e w9 ⟨rfl, hi, hb, hk⟩; refine ⟨_, rfl, ?_⟩; have n0_ := mk0 (KeepBut.trans zq1 hk (.inl rfl)); have n1_ := mk0 (hb); have n2_ := mk0 (hi); clear HK HB HI0; have HK := n0_; have HB := n1_; have HI0 := n2_; clear n0_ n1_ n2_; (try clear hb); (try clear hb2); (try clear hk); (try clear hi)) | ((with_reducible refine gate_callee (f := 67) rfl ?_); refine goesL_ (some 17) rfl rfl Tryd.func67 zq22 rfl #[.pointer (some ⟨g, 0, none⟩), .int .u8 93] rfl zq2 ?_; (with_reducible refine (spec_reader_take.calls g t183 t184 93 false t186 t187 w0 _ ?side1 ?side2 A3.out).mono ?_); (case side1 => exact zq0); (case side2 => exact zq3); rintro e w10 ⟨rfl, hi, hb, hk⟩; refine ⟨_, rfl, ?_⟩; have n0_ := mk0 (KeepBut.trans zq1 hk (.inl rfl)); have n1_ := mk0 (hb); have n2_ := mk0 (hi); clear HK HB HI0; have HK := n0_; have HB := n1_; have HI0 := n2_; clear n0_ n1_ n2_; (try clear hb); (try clear hb2); (try clear hk); (try clear hi)))
 (try simp only [Act.put, List.setIfInBounds_toArray, List.set_cons_zero, List.set_cons_succ])
 go_loopg [4] k (fun kq v4 w' => ∃ (x4_1 : List (S38)) (x1000_1 : ByteArray) (x1001_1 : Int), Aside0 (spec_reader_elements.l0 kq x4_1 x1000_1 x1001_1 = some (r1, r2, r3, r4)) ∧ Aside0 (kq ≤ k) ∧ Aside0 (Kd.R k38 38 w' w.heap.size (fun _ => True) v4 x4_1) ∧ Aside0 (IsS56 w0 w' g x1000_1 x1001_1) ∧ Aside0 (KeepBut w w' g none) ∧ Aside0 (Below w0.heap.size w0 w'))
 case atStart => exact ⟨(([] : List (S38))), (t186), (t187), H', ⟨Nat.le_refl _⟩, ⟨by first | exact Kd.R_nil _ _ _ _ _ | exact Kd.N_nil _ _ _ _ _ | exact Kd.V_nil _ _ _ _ _ | exact Kd.Q_nil _ _ _ _ _ | exact Kd.S_nil _ _ _ _ _⟩, ⟨by repeat (first | (with_reducible first | exact HI0.out | apply IsS56.alloc | apply IsS56.drewN | apply IsS56.drew | apply IsS56.set_0 | apply IsS56.set_1) | exact HI0.out)⟩, ⟨by repeat (first | (with_reducible first | exact HK.out | apply KeepBut.set_ | apply keep_drewN | apply keep_drew | apply keep_alloc) | exact HK.out)⟩, ⟨by repeat (first | (with_reducible first | exact HB.out | apply below_alloc | apply pw_below_drewN | apply below_drew1 | refine below_set ?_ (IsS56.ge HI0.out)) | exact HB.out)⟩⟩
 case round =>
  clear H'
  try clear c2
  try clear p2
  try clear c4
  try clear c5
  try clear c6
  try clear p6
  try clear hcz5_0
  try clear hcz5_1
  try clear hcz8_0
  try clear hcz8_1
  try clear hfz5_0
  try clear hfz5_1
  try clear hfz8_0
  try clear hfz8_1
  obtain ⟨x4_1, x1000_1, x1001_1, HA, HK1, HO_4, HI0, HK, HB⟩ := hrel
  cases gk with
  | zero => exact absurd HA.out (by simp [spec_reader_elements.l0])
  | succ k1 =>
   have H := HA.out
   clear HA
   simp only [spec_reader_elements.l0] at H
   replace H := Option.bind_eq_some_iff.mp H
   obtain ⟨⟨t188, t189, t190, t191, t194, t197, t198, t199⟩, A110, H⟩ := H
   replace H : (if t197 = true then (if x4_1.length < 1954687338268 then ((some (x4_1 ++ [(⟨t188, t189, t190, t191, t194⟩ : S38)] : List (S38))).bind fun y201 => ((spec_reader_blanks.f k1 t198 t199).bind fun bt204 => ((spec_reader_take.f bt204.1 bt204.2 93).bind fun bt206 => (if bt206.1 = true then (some (y201, true, bt206.2.1, bt206.2.2)) else ((spec_reader_take.f bt206.2.1 bt206.2.2 44).bind fun bt209 => (if bt209.1 = true then ((spec_reader_blanks.f k1 bt209.2.1 bt209.2.2).bind fun bt212 => (spec_reader_elements.l0 k1 y201 bt212.1 bt212.2)) else (some (([] : List (S38)), false, bt209.2.1, bt209.2.2)))))))) else (none)) else (some (([] : List (S38)), false, t198, t199))) = some (r1, r2, r3, r4) := H
   have A11 := mk0 A110
   clear A110
   by_cases c12 : t197 = true
   rotate_left
   ·replace c12 := Bool.eq_false_iff.mpr c12
    subst c12
    have H1 : (some (([] : List (S38)), false, t198, t199)) = some (r1, r2, r3, r4) := by rw [if_neg (show ¬ (false = true) by decide)] at H; exact H
    clear H
    have H := H1
    clear H1
    simp only [Option.some.injEq, Prod.mk.injEq] at H
    obtain ⟨rfl, rfl, rfl, rfl⟩ := H
    go_wp2_with (first | ((with_reducible refine gate_callee (f := 29) rfl ?_); refine goesL_ (some 20) rfl rfl Tryd.func29 zq22 rfl #[.pointer (some ⟨g, 0, none⟩)] rfl zq2 ?_; (with_reducible refine (ih_29 k1 (by have := HK1.out; omega) g x1000_1 x1001_1 t188 t189 t190 t191 t194 false t198 t199 w0 _ ?side1 ?side2 A11.out).mono ?_); (case side1 => exact zq0); (case side2 => exact zq3); rintro e w56 ⟨v192, v195, rfl, ho0, ho1, hi, hb, hk⟩; refine ⟨_, rfl, ?_⟩; have n0_ := mk0 (Kd.R_mono (Kd.R_told (Kd.R_told (Kd.R_oldK (IsS56.apart (show IsS56 w0 _ g x1000_1 x1001_1 from zq0) zq29 zq40) hk) (Kd.R_base ho0)) (Kd.R_base ho1)) (fun _ h_ => h_.1)); have n1_ := mk0 (Kd.R_lower ho0 (keep_size (w := w) (g := g) (row := none) zq1)); have n2_ := mk0 (Kd.R_lower (Kd.R_new' ho1 (Kd.R_lt zq29)) (keep_size (w := w) (g := g) (row := none) zq1)); have n3_ := mk0 (KeepBut.trans zq1 hk (.inl rfl)); have n4_ := mk0 (hb); have n5_ := mk0 (hi); clear HO_4 HK HB HI0; have HO_4 := n0_; have HO193 := n1_; have HO196 := n2_; have HK := n3_; have HB := n4_; have HI0 := n5_; clear n0_ n1_ n2_ n3_ n4_ n5_; (try clear hb); (try clear hb2); (try clear hk); (try clear hi); (try clear ho0); (try clear ho1)) | ((with_reducible refine gate_dst (N := 5) rfl ?_); refine box_event ?hg (N := 5) ?hd (cs := #[.int .i64 0, .int .i64 0, .int .i64 0, .slice none 0 0, .slice none 0 0]) (t := 38) ?hr ?_; (case hd => rfl); (case hg => rfl); (case hr => exact zq32); intro gb200 hg w57 hbox hb; have n0_ := mk0 (Kd.R_below (Kd.R_elderB zq29 gb200 (Nat.le_of_eq hg.symm)) hb); have n1_ := mk0 (Kd.R_below zq51 hb); have n2_ := mk0 (Kd.R_below (Kd.R_elderB zq52 gb200 (Nat.le_of_eq hg.symm)) hb); have n3_ := mk0 (IsS56.below zq0 hb); have n4_ := mk0 (KeepBut.trans zq1 (KeepBut.of_below hb g none) (.inl rfl)); have n5_ := mk0 (below_step zq3 hb); have n6_ := mk0 (hbox); have n7_ := mk0 ((zq27 : w.heap.size ≤ gb200)); have n8_ := mk0 ((Nat.le_trans HW0.out (zq27 : w.heap.size ≤ gb200) : w0.heap.size ≤ gb200)); have n9_ := mk0 ((by rw [hg]; exact Nat.ne_of_lt (IsS56.lt (show IsS56 w0 _ g t198 t199 from zq0)) : g ≠ gb200)); have n10_ := mk0 ((by rw [hg]; exact Nat.ne_of_gt (IsS56.lt (show IsS56 w0 _ g t198 t199 from zq0)) : gb200 ≠ g)); clear HO_4 HO193 HO196 HI0 HK HB; have HO_4 := n0_; have HO193 := n1_; have HO196 := n2_; have HI0 := n3_; have HK := n4_; have HB := n5_; have BK200 := n6_; have GW200 := n7_; have GE200 := n8_; have NB0_200 := n9_; have NB200_0 := n10_; clear n0_ n1_ n2_ n3_ n4_ n5_ n6_ n7_ n8_ n9_ n10_; clear hb hbox hg; have hnb58 := NB200_0.out; have hnc58 := NB0_200.out; have hcz59_0 : w57.cell? ⟨gb200, 0, none⟩ = some (.int .i64 0) := (blk_cell BK200.out 0).trans rfl; have hcz59_1 : w57.cell? ⟨gb200, 1, none⟩ = some (.int .i64 0) := (blk_cell BK200.out 1).trans rfl; have hcz59_2 : w57.cell? ⟨gb200, 2, none⟩ = some (.int .i64 0) := (blk_cell BK200.out 2).trans rfl; have hcz59_3 : w57.cell? ⟨gb200, 3, none⟩ = some (.slice none 0 0) := (blk_cell BK200.out 3).trans rfl; have hcz59_4 : w57.cell? ⟨gb200, 4, none⟩ = some (.slice none 0 0) := (blk_cell BK200.out 4).trans rfl; have hfz59_0 := blk_frozen BK200.out 0; have hfz59_1 := blk_frozen BK200.out 1; have hfz59_2 := blk_frozen BK200.out 2; have hfz59_3 := blk_frozen BK200.out 3; have hfz59_4 := blk_frozen BK200.out 4; obtain ⟨Ao60, co60, eo60⟩ := Kd.R_slice HO193.out; subst eo60; obtain ⟨Ao61, co61, eo61⟩ := Kd.R_slice HO196.out; subst eo61))
    go_ret2
    exact ⟨_, by first | rfl | (simp [errW_none, errW_some] <;> rfl) | (simp [*, errW_none, errW_some] <;> rfl), by first | exact Kd.R_nil _ _ _ _ _ | exact Kd.N_nil _ _ _ _ _ | exact Kd.V_nil _ _ _ _ _ | exact Kd.Q_nil _ _ _ _ _ | exact Kd.S_nil _ _ _ _ _, by repeat (first | (with_reducible first | exact HI0.out | apply IsS56.alloc | apply IsS56.drewN | apply IsS56.drew | apply IsS56.set_0 | apply IsS56.set_1 | refine IsS56.far ?_ NB0_200.out _) | exact HI0.out), by repeat (first | (with_reducible first | exact HB.out | apply below_alloc | apply pw_below_drewN | apply below_drew1 | refine below_set ?_ (IsS56.ge HI0.out) | refine below_set ?_ GE200.out) | exact HB.out), by repeat (first | (with_reducible first | exact HK.out | apply KeepBut.set_ | apply keep_drewN | apply keep_drew | apply keep_alloc | refine keep_far ?_ GW200.out _) | exact HK.out)⟩
   subst c12
   have H1 : (if x4_1.length < 1954687338268 then ((some (x4_1 ++ [(⟨t188, t189, t190, t191, t194⟩ : S38)] : List (S38))).bind fun y201 => ((spec_reader_blanks.f k1 t198 t199).bind fun bt204 => ((spec_reader_take.f bt204.1 bt204.2 93).bind fun bt206 => (if bt206.1 = true then (some (y201, true, bt206.2.1, bt206.2.2)) else ((spec_reader_take.f bt206.2.1 bt206.2.2 44).bind fun bt209 => (if bt209.1 = true then ((spec_reader_blanks.f k1 bt209.2.1 bt209.2.2).bind fun bt212 => (spec_reader_elements.l0 k1 y201 bt212.1 bt212.2)) else (some (([] : List (S38)), false, bt209.2.1, bt209.2.2)))))))) else (none)) = some (r1, r2, r3, r4) := by rw [if_pos rfl] at H; exact H
   clear H
   have H := H1
   clear H1
   by_cases c13 : x4_1.length < 1954687338268
   rotate_left
   ·rw [if_neg c13] at H
    exact absurd H (by simp)
   rw [if_pos c13] at H
   have LMc13 := mk0 c13
   clear c13
   obtain ⟨y201, hy201⟩ : ∃ y_ : List (S38), y_ = (x4_1 ++ [(⟨t188, t189, t190, t191, t194⟩ : S38)]) := ⟨_, rfl⟩
   replace H : ((spec_reader_blanks.f k1 t198 t199).bind fun bt204 => ((spec_reader_take.f bt204.1 bt204.2 93).bind fun bt206 => (if bt206.1 = true then (some (y201, true, bt206.2.1, bt206.2.2)) else ((spec_reader_take.f bt206.2.1 bt206.2.2 44).bind fun bt209 => (if bt209.1 = true then ((spec_reader_blanks.f k1 bt209.2.1 bt209.2.2).bind fun bt212 => (spec_reader_elements.l0 k1 y201 bt212.1 bt212.2)) else (some (([] : List (S38)), false, bt209.2.1, bt209.2.2))))))) = some (r1, r2, r3, r4) := by first | (rw [hy201]; with_reducible exact H) | (have H2_ := (Option.bind_some _ _).symm.trans H; rw [hy201]; with_reducible exact H2_) | (have H2_ := (Option.bind_some _ _).symm.trans H; with_reducible exact H2_) | with_reducible exact H | (rw [hy201]; exact H) | exact H
   have Ny201 := mk0 hy201
   clear hy201
   replace H := Option.bind_eq_some_iff.mp H
   obtain ⟨⟨t204, t205⟩, A140, H⟩ := H
   replace H : ((spec_reader_take.f t204 t205 93).bind fun bt206 => (if bt206.1 = true then (some (y201, true, bt206.2.1, bt206.2.2)) else ((spec_reader_take.f bt206.2.1 bt206.2.2 44).bind fun bt209 => (if bt209.1 = true then ((spec_reader_blanks.f k1 bt209.2.1 bt209.2.2).bind fun bt212 => (spec_reader_elements.l0 k1 y201 bt212.1 bt212.2)) else (some (([] : List (S38)), false, bt209.2.1, bt209.2.2)))))) = some (r1, r2, r3, r4) := H
   have A14 := mk0 A140
   clear A140
   replace H := Option.bind_eq_some_iff.mp H
   obtain ⟨⟨t206, t207, t208⟩, A150, H⟩ := H
   replace H : (if t206 = true then (some (y201, true, t207, t208)) else ((spec_reader_take.f t207 t208 44).bind fun bt209 => (if bt209.1 = true then ((spec_reader_blanks.f k1 bt209.2.1 bt209.2.2).bind fun bt212 => (spec_reader_elements.l0 k1 y201 bt212.1 bt212.2)) else (some (([] : List (S38)), false, bt209.2.1, bt209.2.2))))) = some (r1, r2, r3, r4) := H
   have A15 := mk0 A150
   clear A150
   by_cases c16 : t206 = true
   ·subst c16
    have H1 : (some (y201, true, t207, t208)) = some (r1, r2, r3, r4) := by rw [if_pos rfl] at H; exact H
    clear H
    have H := H1
    clear H1
    simp only [Option.some.injEq, Prod.mk.injEq] at H
    obtain ⟨rfl, rfl, rfl, rfl⟩ := H
    go_wp2_with (first | ((with_reducible refine gate_callee (f := 29) rfl ?_); refine goesL_ (some 20) rfl rfl Tryd.func29 zq22 rfl #[.pointer (some ⟨g, 0, none⟩)] rfl zq2 ?_; (with_reducible refine (ih_29 k1 (by have := HK1.out; omega) g x1000_1 x1001_1 t188 t189 t190 t191 t194 true t198 t199 w0 _ ?side1 ?side2 A11.out).mono ?_); (case side1 => exact zq0); (case side2 => exact zq3); rintro e w17 ⟨v192, v195, rfl, ho0, ho1, hi, hb, hk⟩; refine ⟨_, rfl, ?_⟩; have n0_ := mk0 (Kd.R_mono (Kd.R_told (Kd.R_told (Kd.R_oldK (IsS56.apart (show IsS56 w0 _ g x1000_1 x1001_1 from zq0) zq29 zq40) hk) (Kd.R_base ho0)) (Kd.R_base ho1)) (fun _ h_ => h_.1)); have n1_ := mk0 (Kd.R_lower ho0 (keep_size (w := w) (g := g) (row := none) zq1)); have n2_ := mk0 (Kd.R_lower (Kd.R_new' ho1 (Kd.R_lt zq29)) (keep_size (w := w) (g := g) (row := none) zq1)); have n3_ := mk0 (KeepBut.trans zq1 hk (.inl rfl)); have n4_ := mk0 (hb); have n5_ := mk0 (hi); clear HO_4 HK HB HI0; have HO_4 := n0_; have HO193 := n1_; have HO196 := n2_; have HK := n3_; have HB := n4_; have HI0 := n5_; clear n0_ n1_ n2_ n3_ n4_ n5_; (try clear hb); (try clear hb2); (try clear hk); (try clear hi); (try clear ho0); (try clear ho1)) | ((with_reducible refine gate_dst (N := 5) rfl ?_); refine box_event ?hg (N := 5) ?hd (cs := #[.int .i64 0, .int .i64 0, .int .i64 0, .slice none 0 0, .slice none 0 0]) (t := 38) ?hr ?_; (case hd => rfl); (case hg => rfl); (case hr => exact zq32); intro gb200 hg w18 hbox hb; have n0_ := mk0 (Kd.R_below (Kd.R_elderB zq29 gb200 (Nat.le_of_eq hg.symm)) hb); have n1_ := mk0 (Kd.R_below zq51 hb); have n2_ := mk0 (Kd.R_below (Kd.R_elderB zq52 gb200 (Nat.le_of_eq hg.symm)) hb); have n3_ := mk0 (IsS56.below zq0 hb); have n4_ := mk0 (KeepBut.trans zq1 (KeepBut.of_below hb g none) (.inl rfl)); have n5_ := mk0 (below_step zq3 hb); have n6_ := mk0 (hbox); have n7_ := mk0 ((zq27 : w.heap.size ≤ gb200)); have n8_ := mk0 ((Nat.le_trans HW0.out (zq27 : w.heap.size ≤ gb200) : w0.heap.size ≤ gb200)); have n9_ := mk0 ((by rw [hg]; exact Nat.ne_of_lt (IsS56.lt (show IsS56 w0 _ g t198 t199 from zq0)) : g ≠ gb200)); have n10_ := mk0 ((by rw [hg]; exact Nat.ne_of_gt (IsS56.lt (show IsS56 w0 _ g t198 t199 from zq0)) : gb200 ≠ g)); clear HO_4 HO193 HO196 HI0 HK HB; have HO_4 := n0_; have HO193 := n1_; have HO196 := n2_; have HI0 := n3_; have HK := n4_; have HB := n5_; have BK200 := n6_; have GW200 := n7_; have GE200 := n8_; have NB0_200 := n9_; have NB200_0 := n10_; clear n0_ n1_ n2_ n3_ n4_ n5_ n6_ n7_ n8_ n9_ n10_; clear hb hbox hg; have hnb19 := NB200_0.out; have hnc19 := NB0_200.out; have hcz20_0 : w18.cell? ⟨gb200, 0, none⟩ = some (.int .i64 0) := (blk_cell BK200.out 0).trans rfl; have hcz20_1 : w18.cell? ⟨gb200, 1, none⟩ = some (.int .i64 0) := (blk_cell BK200.out 1).trans rfl; have hcz20_2 : w18.cell? ⟨gb200, 2, none⟩ = some (.int .i64 0) := (blk_cell BK200.out 2).trans rfl; have hcz20_3 : w18.cell? ⟨gb200, 3, none⟩ = some (.slice none 0 0) := (blk_cell BK200.out 3).trans rfl; have hcz20_4 : w18.cell? ⟨gb200, 4, none⟩ = some (.slice none 0 0) := (blk_cell BK200.out 4).trans rfl; have hfz20_0 := blk_frozen BK200.out 0; have hfz20_1 := blk_frozen BK200.out 1; have hfz20_2 := blk_frozen BK200.out 2; have hfz20_3 := blk_frozen BK200.out 3; have hfz20_4 := blk_frozen BK200.out 4; obtain ⟨Ao21, co21, eo21⟩ := Kd.R_slice HO193.out; subst eo21; obtain ⟨Ao22, co22, eo22⟩ := Kd.R_slice HO196.out; subst eo22) | ((with_reducible refine gate_store (t := 38) (p := 5) rfl ?_); refine store_event (t := 38) (p := 5) (v := ?vo_w23) (w1 := (((((w18.setCell ⟨gb200, 0, none⟩ (.int .i64 t188)).setCell ⟨gb200, 1, none⟩ (.int .i64 t189)).setCell ⟨gb200, 2, none⟩ (.int .i64 t190)).setCell ⟨gb200, 3, none⟩ (.slice Ao21 t191.length co21)).setCell ⟨gb200, 4, none⟩ (.slice Ao22 t194.length co22))) ?hg ?ho ?hn ?hr ?_; (case ho => rfl); (case hg => rfl); (case hn => rfl); (case hr => exact zq32); intro w23 hw; have n0_ : Aside0 (Kd.R k38 38 w23 w.heap.size (fun k_ => some k_ ≠ (.slice Ao21 t191.length co21 : Value).ownBlock ∧ some k_ ≠ (.slice Ao22 t194.length co22 : Value).ownBlock ∧ k_ ≠ gb200) u4 x4_1) := ⟨(by rw [hw]; exact (by (with_reducible repeat (first | apply Kd.R_alloc | apply Kd.R_drewN | apply Kd.R_drew)); exact Kd.R_mono (Kd.R_far (p := ⟨gb200, 4, none⟩) (Kd.R_far (p := ⟨gb200, 3, none⟩) (Kd.R_far (p := ⟨gb200, 2, none⟩) (Kd.R_far (p := ⟨gb200, 1, none⟩) (Kd.R_far (p := ⟨gb200, 0, none⟩) (Kd.R_mono HO_4.out (fun k_ hk => (⟨hk, hk.2⟩ : _ ∧ k_ ≠ gb200))) (fun _ hk => hk.2) (.int .i64 t188)) (fun _ hk => hk.2) (.int .i64 t189)) (fun _ hk => hk.2) (.int .i64 t190)) (fun _ hk => hk.2) (.slice Ao21 t191.length co21)) (fun _ hk => hk.2) (.slice Ao22 t194.length co22)) (fun _ hk => ⟨hk.1.1.1.2, ⟨hk.1.1.2, hk.1.2⟩⟩)))⟩; have n1_ : Aside0 (Kd.R k104 104 w23 w.heap.size (fun _ => True) (.slice Ao21 t191.length co21) t191) := ⟨(by rw [hw]; exact (by (with_reducible repeat (first | apply Kd.R_alloc | apply Kd.R_drewN | apply Kd.R_drew)); exact Kd.R_mono (Kd.R_far (p := ⟨gb200, 4, none⟩) (Kd.R_far (p := ⟨gb200, 3, none⟩) (Kd.R_far (p := ⟨gb200, 2, none⟩) (Kd.R_far (p := ⟨gb200, 1, none⟩) (Kd.R_far (p := ⟨gb200, 0, none⟩) (Kd.R_types HO193.out BK200.out zq40) (fun _ hk => hk.2) (.int .i64 t188)) (fun _ hk => hk.2) (.int .i64 t189)) (fun _ hk => hk.2) (.int .i64 t190)) (fun _ hk => hk.2) (.slice Ao21 t191.length co21)) (fun _ hk => hk.2) (.slice Ao22 t194.length co22)) (fun _ hk => trivial)))⟩; have n2_ : Aside0 (Kd.R k38 38 w23 w.heap.size (fun k_ => some k_ ≠ (u4 : Value).ownBlock ∧ some k_ ≠ (.slice Ao21 t191.length co21 : Value).ownBlock ∧ k_ ≠ gb200) (.slice Ao22 t194.length co22) t194) := ⟨(by rw [hw]; exact (by (with_reducible repeat (first | apply Kd.R_alloc | apply Kd.R_drewN | apply Kd.R_drew)); exact Kd.R_mono (Kd.R_far (p := ⟨gb200, 4, none⟩) (Kd.R_far (p := ⟨gb200, 3, none⟩) (Kd.R_far (p := ⟨gb200, 2, none⟩) (Kd.R_far (p := ⟨gb200, 1, none⟩) (Kd.R_far (p := ⟨gb200, 0, none⟩) (Kd.R_mono HO196.out (fun k_ hk => (⟨hk, hk.2⟩ : _ ∧ k_ ≠ gb200))) (fun _ hk => hk.2) (.int .i64 t188)) (fun _ hk => hk.2) (.int .i64 t189)) (fun _ hk => hk.2) (.int .i64 t190)) (fun _ hk => hk.2) (.slice Ao21 t191.length co21)) (fun _ hk => hk.2) (.slice Ao22 t194.length co22)) (fun _ hk => ⟨hk.1.1.2, ⟨hk.1.1.1, hk.1.2⟩⟩)))⟩; have n3_ : Aside0 (w23.heap[gb200]? = some (.cells #[.int .i64 t188, .int .i64 t189, .int .i64 t190, .slice Ao21 t191.length co21, .slice Ao22 t194.length co22] 38 (0, 0))) := ⟨(by rw [hw]; exact (by (with_reducible repeat (first | refine blk_drewN ?_ _ | refine blk_drew ?_ | refine blk_alloc ?_ _)); refine blk_put (cs := #[.int .i64 t188, .int .i64 t189, .int .i64 t190, .slice Ao21 t191.length co21, .slice none 0 0]) ?_ 4 _ rfl; (with_reducible repeat (first | refine blk_drewN ?_ _ | refine blk_drew ?_ | refine blk_alloc ?_ _)); refine blk_put (cs := #[.int .i64 t188, .int .i64 t189, .int .i64 t190, .slice none 0 0, .slice none 0 0]) ?_ 3 _ rfl; (with_reducible repeat (first | refine blk_drewN ?_ _ | refine blk_drew ?_ | refine blk_alloc ?_ _)); refine blk_put (cs := #[.int .i64 t188, .int .i64 t189, .int .i64 0, .slice none 0 0, .slice none 0 0]) ?_ 2 _ rfl; (with_reducible repeat (first | refine blk_drewN ?_ _ | refine blk_drew ?_ | refine blk_alloc ?_ _)); refine blk_put (cs := #[.int .i64 t188, .int .i64 0, .int .i64 0, .slice none 0 0, .slice none 0 0]) ?_ 1 _ rfl; (with_reducible repeat (first | refine blk_drewN ?_ _ | refine blk_drew ?_ | refine blk_alloc ?_ _)); refine blk_put (cs := #[.int .i64 0, .int .i64 0, .int .i64 0, .slice none 0 0, .slice none 0 0]) ?_ 0 _ rfl; (with_reducible repeat (first | refine blk_drewN ?_ _ | refine blk_drew ?_ | refine blk_alloc ?_ _)); exact BK200.out))⟩; have n4_ : Aside0 (IsS56 w0 w23 g t198 t199) := ⟨(by rw [hw]; exact zq5)⟩; have n5_ : Aside0 (KeepBut w w23 g none) := ⟨(by rw [hw]; exact zq16)⟩; have n6_ : Aside0 (Below w0.heap.size w0 w23) := ⟨(by rw [hw]; exact zq18)⟩; clear hw HO_4 HO193 HO196 BK200 HI0 HK HB; have HO_4 := n0_; have HO193 := n1_; have HO196 := n2_; have BK200 := n3_; have HI0 := n4_; have HK := n5_; have HB := n6_; clear n0_ n1_ n2_ n3_ n4_ n5_ n6_; have hcz24_0 : w23.cell? ⟨gb200, 0, none⟩ = some (.int .i64 t188) := (blk_cell BK200.out 0).trans rfl; have hcz24_1 : w23.cell? ⟨gb200, 1, none⟩ = some (.int .i64 t189) := (blk_cell BK200.out 1).trans rfl; have hcz24_2 : w23.cell? ⟨gb200, 2, none⟩ = some (.int .i64 t190) := (blk_cell BK200.out 2).trans rfl; have hcz24_3 : w23.cell? ⟨gb200, 3, none⟩ = some (.slice Ao21 t191.length co21) := (blk_cell BK200.out 3).trans rfl; have hcz24_4 : w23.cell? ⟨gb200, 4, none⟩ = some (.slice Ao22 t194.length co22) := (blk_cell BK200.out 4).trans rfl; have hfz24_0 := blk_frozen BK200.out 0; have hfz24_1 := blk_frozen BK200.out 1; have hfz24_2 := blk_frozen BK200.out 2; have hfz24_3 := blk_frozen BK200.out 3; have hfz24_4 := blk_frozen BK200.out 4) | ((with_reducible refine gate_builtin (b := .append) (xs := #[.tmp 25, .tmp 27]) rfl ?_); at_builtin; refine Kd.R_append k38 w.heap.size rfl (.tmp 25) (.tmp 27) 36 38 (.agg #[(.int .i64 0), (.int .i64 0), (.int .i64 0), (.slice none 0 0), (.slice none 0 0)]) 72 rfl Tryd.underlying36 info38 rfl zq40 (by omega) u4 x4_1 (⟨t188, t189, t190, t191, t194⟩ : S38) [.int .i64 t188, .int .i64 t189, .int .i64 t190, .slice Ao21 t191.length co21, .slice Ao22 t194.length co22] (fun k_ => k_ ≠ gb200) (fun k_ => ((fun k_ => k_ ≠ gb200)) k_ ∧ some k_ ≠ (u4 : Value).ownBlock) rfl rfl ?aP (fun _ hk => hk) ?aF ?aO (Below.refl _ _) ?aS ?aL ?_; (case aP => exact k38_mkM _ _ _ (⟨t188, t189, t190, t191, t194⟩ : S38) (Kd.R_mono (Kd.R_types (Kd.R_apart' (HO193.out) (Kd.R_typed HO_4.out) zq40) BK200.out zq40) (fun k_ hk => ⟨hk.2, hk.1.2⟩)) (Kd.R_mono (HO196.out) (fun k_ hk => ⟨hk.2.2, hk.1⟩))); (case aF => exact (fun k_ hk => Kd.freshB (g := gb200) (o := .cells #[.int .i64 t188, .int .i64 t189, .int .i64 t190, .slice Ao21 t191.length co21, .slice Ao22 t194.length co22] 38 (0, 0)) zq26 k_ hk)); (case aO => exact zq55); (case aS => exact (keep_size (w := w) (g := g) (row := none) zq16)); (case aL => have := LMc13.out; omega); intro v202 w25 ho hb hg hat; rw [← Ny201.out] at ho; have n0_ := mk0 (IsS56.grown zq5 hg (IsS56.own_ne HI0.out HO_4.out zq40)); have n1_ := mk0 (blk_grown (g := gb200) (o := .cells #[.int .i64 t188, .int .i64 t189, .int .i64 t190, .slice Ao21 t191.length co21, .slice Ao22 t194.length co22] 38 (0, 0)) zq26 hg (Kd.R_away HO_4.out (fun _ hk => hk.2.2))); have n2_ := mk0 (below_weaken zq18 HL.out hb); have n3_ := mk0 (KeepBut.trans zq16 (KeepBut.of_grown hg g) (Kd.R_base2 HO_4.out)); have n4_ := mk0 (ho); clear HI0 BK200 HB HK HO_4 HO193 HO196; have HI0 := n0_; have BK200 := n1_; have HB := n2_; have HK := n3_; have HO203 := n4_; clear n0_ n1_ n2_ n3_ n4_; clear ho hb hg hat) | ((with_reducible refine gate_callee (f := 28) rfl ?_); refine goesL_ (some 30) rfl rfl Tryd.func28 zq22 rfl #[.pointer (some ⟨g, 0, none⟩)] rfl zq2 ?_; (with_reducible refine (spec_reader_blanks.calls k1 g t198 t199 t204 t205 w0 _ ?side1 ?side2 A14.out).mono ?_); (case side1 => exact zq5); (case side2 => exact zq18); rintro e w26 ⟨rfl, hi, hb, hk⟩; refine ⟨_, rfl, ?_⟩; have n0_ := mk0 (KeepBut.blk hk (g' := gb200) (o := .cells #[.int .i64 t188, .int .i64 t189, .int .i64 t190, .slice Ao21 t191.length co21, .slice Ao22 t194.length co22] 38 (0, 0)) zq26 NB200_0.out (by simp)); have n1_ := mk0 (Kd.R_mono (Kd.R_keep (IsS56.apart (show IsS56 w0 _ g t198 t199 from zq5) zq34 zq40) hk (fun _ h => h.2)) (fun _ h => h.1)); have n2_ := mk0 (KeepBut.trans zq16 hk (.inl rfl)); have n3_ := mk0 (hb); have n4_ := mk0 (hi); clear BK200 HO203 HK HB HI0; have BK200 := n0_; have HO203 := n1_; have HK := n2_; have HB := n3_; have HI0 := n4_; clear n0_ n1_ n2_ n3_ n4_; (try clear hb); (try clear hb2); (try clear hk); (try clear hi)) | ((with_reducible refine gate_callee (f := 67) rfl ?_); refine goesL_ (some 32) rfl rfl Tryd.func67 zq22 rfl #[.pointer (some ⟨g, 0, none⟩), .int .u8 93] rfl zq2 ?_; (with_reducible refine (spec_reader_take.calls g t204 t205 93 true t207 t208 w0 _ ?side1 ?side2 A15.out).mono ?_); (case side1 => exact zq5); (case side2 => exact zq18); rintro e w27 ⟨rfl, hi, hb, hk⟩; refine ⟨_, rfl, ?_⟩; have n0_ := mk0 (KeepBut.blk hk (g' := gb200) (o := .cells #[.int .i64 t188, .int .i64 t189, .int .i64 t190, .slice Ao21 t191.length co21, .slice Ao22 t194.length co22] 38 (0, 0)) zq26 NB200_0.out (by simp)); have n1_ := mk0 (Kd.R_mono (Kd.R_keep (IsS56.apart (show IsS56 w0 _ g t204 t205 from zq5) zq34 zq40) hk (fun _ h => h.2)) (fun _ h => h.1)); have n2_ := mk0 (KeepBut.trans zq16 hk (.inl rfl)); have n3_ := mk0 (hb); have n4_ := mk0 (hi); clear BK200 HO203 HK HB HI0; have BK200 := n0_; have HO203 := n1_; have HK := n2_; have HB := n3_; have HI0 := n4_; clear n0_ n1_ n2_ n3_ n4_; (try clear hb); (try clear hb2); (try clear hk); (try clear hi)))
    go_ret2
    exact ⟨_, by first | rfl | (simp [errW_none, errW_some] <;> rfl) | (simp [*, errW_none, errW_some] <;> rfl), by (with_reducible repeat (first | apply Kd.R_alloc | apply Kd.R_drewN | apply Kd.R_drew)); exact Kd.R_mono HO203.out (fun _ hk => trivial), by repeat (first | (with_reducible first | exact HI0.out | apply IsS56.alloc | apply IsS56.drewN | apply IsS56.drew | apply IsS56.set_0 | apply IsS56.set_1 | refine IsS56.far ?_ NB0_200.out _) | exact HI0.out), by repeat (first | (with_reducible first | exact HB.out | apply below_alloc | apply pw_below_drewN | apply below_drew1 | refine below_set ?_ (IsS56.ge HI0.out) | refine below_set ?_ GE200.out) | exact HB.out), by repeat (first | (with_reducible first | exact HK.out | apply KeepBut.set_ | apply keep_drewN | apply keep_drew | apply keep_alloc | refine keep_far ?_ GW200.out _) | exact HK.out)⟩
   replace c16 := Bool.eq_false_iff.mpr c16
   subst c16
   have H1 : ((spec_reader_take.f t207 t208 44).bind fun bt209 => (if bt209.1 = true then ((spec_reader_blanks.f k1 bt209.2.1 bt209.2.2).bind fun bt212 => (spec_reader_elements.l0 k1 y201 bt212.1 bt212.2)) else (some (([] : List (S38)), false, bt209.2.1, bt209.2.2)))) = some (r1, r2, r3, r4) := by rw [if_neg (show ¬ (false = true) by decide)] at H; exact H
   clear H
   have H := H1
   clear H1
   replace H := Option.bind_eq_some_iff.mp H
   obtain ⟨⟨t209, t210, t211⟩, A280, H⟩ := H
   replace H : (if t209 = true then ((spec_reader_blanks.f k1 t210 t211).bind fun bt212 => (spec_reader_elements.l0 k1 y201 bt212.1 bt212.2)) else (some (([] : List (S38)), false, t210, t211))) = some (r1, r2, r3, r4) := H
   have A28 := mk0 A280
   clear A280
   by_cases c29 : t209 = true
   rotate_left
   ·replace c29 := Bool.eq_false_iff.mpr c29
    subst c29
    have H1 : (some (([] : List (S38)), false, t210, t211)) = some (r1, r2, r3, r4) := by rw [if_neg (show ¬ (false = true) by decide)] at H; exact H
    clear H
    have H := H1
    clear H1
    simp only [Option.some.injEq, Prod.mk.injEq] at H
    obtain ⟨rfl, rfl, rfl, rfl⟩ := H
    go_wp2_with (first | ((with_reducible refine gate_callee (f := 29) rfl ?_); refine goesL_ (some 20) rfl rfl Tryd.func29 zq22 rfl #[.pointer (some ⟨g, 0, none⟩)] rfl zq2 ?_; (with_reducible refine (ih_29 k1 (by have := HK1.out; omega) g x1000_1 x1001_1 t188 t189 t190 t191 t194 true t198 t199 w0 _ ?side1 ?side2 A11.out).mono ?_); (case side1 => exact zq0); (case side2 => exact zq3); rintro e w44 ⟨v192, v195, rfl, ho0, ho1, hi, hb, hk⟩; refine ⟨_, rfl, ?_⟩; have n0_ := mk0 (Kd.R_mono (Kd.R_told (Kd.R_told (Kd.R_oldK (IsS56.apart (show IsS56 w0 _ g x1000_1 x1001_1 from zq0) zq29 zq40) hk) (Kd.R_base ho0)) (Kd.R_base ho1)) (fun _ h_ => h_.1)); have n1_ := mk0 (Kd.R_lower ho0 (keep_size (w := w) (g := g) (row := none) zq1)); have n2_ := mk0 (Kd.R_lower (Kd.R_new' ho1 (Kd.R_lt zq29)) (keep_size (w := w) (g := g) (row := none) zq1)); have n3_ := mk0 (KeepBut.trans zq1 hk (.inl rfl)); have n4_ := mk0 (hb); have n5_ := mk0 (hi); clear HO_4 HK HB HI0; have HO_4 := n0_; have HO193 := n1_; have HO196 := n2_; have HK := n3_; have HB := n4_; have HI0 := n5_; clear n0_ n1_ n2_ n3_ n4_ n5_; (try clear hb); (try clear hb2); (try clear hk); (try clear hi); (try clear ho0); (try clear ho1)) | ((with_reducible refine gate_dst (N := 5) rfl ?_); refine box_event ?hg (N := 5) ?hd (cs := #[.int .i64 0, .int .i64 0, .int .i64 0, .slice none 0 0, .slice none 0 0]) (t := 38) ?hr ?_; (case hd => rfl); (case hg => rfl); (case hr => exact zq32); intro gb200 hg w45 hbox hb; have n0_ := mk0 (Kd.R_below (Kd.R_elderB zq29 gb200 (Nat.le_of_eq hg.symm)) hb); have n1_ := mk0 (Kd.R_below zq51 hb); have n2_ := mk0 (Kd.R_below (Kd.R_elderB zq52 gb200 (Nat.le_of_eq hg.symm)) hb); have n3_ := mk0 (IsS56.below zq0 hb); have n4_ := mk0 (KeepBut.trans zq1 (KeepBut.of_below hb g none) (.inl rfl)); have n5_ := mk0 (below_step zq3 hb); have n6_ := mk0 (hbox); have n7_ := mk0 ((zq27 : w.heap.size ≤ gb200)); have n8_ := mk0 ((Nat.le_trans HW0.out (zq27 : w.heap.size ≤ gb200) : w0.heap.size ≤ gb200)); have n9_ := mk0 ((by rw [hg]; exact Nat.ne_of_lt (IsS56.lt (show IsS56 w0 _ g t198 t199 from zq0)) : g ≠ gb200)); have n10_ := mk0 ((by rw [hg]; exact Nat.ne_of_gt (IsS56.lt (show IsS56 w0 _ g t198 t199 from zq0)) : gb200 ≠ g)); clear HO_4 HO193 HO196 HI0 HK HB; have HO_4 := n0_; have HO193 := n1_; have HO196 := n2_; have HI0 := n3_; have HK := n4_; have HB := n5_; have BK200 := n6_; have GW200 := n7_; have GE200 := n8_; have NB0_200 := n9_; have NB200_0 := n10_; clear n0_ n1_ n2_ n3_ n4_ n5_ n6_ n7_ n8_ n9_ n10_; clear hb hbox hg; have hnb46 := NB200_0.out; have hnc46 := NB0_200.out; have hcz47_0 : w45.cell? ⟨gb200, 0, none⟩ = some (.int .i64 0) := (blk_cell BK200.out 0).trans rfl; have hcz47_1 : w45.cell? ⟨gb200, 1, none⟩ = some (.int .i64 0) := (blk_cell BK200.out 1).trans rfl; have hcz47_2 : w45.cell? ⟨gb200, 2, none⟩ = some (.int .i64 0) := (blk_cell BK200.out 2).trans rfl; have hcz47_3 : w45.cell? ⟨gb200, 3, none⟩ = some (.slice none 0 0) := (blk_cell BK200.out 3).trans rfl; have hcz47_4 : w45.cell? ⟨gb200, 4, none⟩ = some (.slice none 0 0) := (blk_cell BK200.out 4).trans rfl; have hfz47_0 := blk_frozen BK200.out 0; have hfz47_1 := blk_frozen BK200.out 1; have hfz47_2 := blk_frozen BK200.out 2; have hfz47_3 := blk_frozen BK200.out 3; have hfz47_4 := blk_frozen BK200.out 4; obtain ⟨Ao48, co48, eo48⟩ := Kd.R_slice HO193.out; subst eo48; obtain ⟨Ao49, co49, eo49⟩ := Kd.R_slice HO196.out; subst eo49) | ((with_reducible refine gate_store (t := 38) (p := 5) rfl ?_); refine store_event (t := 38) (p := 5) (v := ?vo_w50) (w1 := (((((w45.setCell ⟨gb200, 0, none⟩ (.int .i64 t188)).setCell ⟨gb200, 1, none⟩ (.int .i64 t189)).setCell ⟨gb200, 2, none⟩ (.int .i64 t190)).setCell ⟨gb200, 3, none⟩ (.slice Ao48 t191.length co48)).setCell ⟨gb200, 4, none⟩ (.slice Ao49 t194.length co49))) ?hg ?ho ?hn ?hr ?_; (case ho => rfl); (case hg => rfl); (case hn => rfl); (case hr => exact zq32); intro w50 hw; have n0_ : Aside0 (Kd.R k38 38 w50 w.heap.size (fun k_ => some k_ ≠ (.slice Ao48 t191.length co48 : Value).ownBlock ∧ some k_ ≠ (.slice Ao49 t194.length co49 : Value).ownBlock ∧ k_ ≠ gb200) u4 x4_1) := ⟨(by rw [hw]; exact (by (with_reducible repeat (first | apply Kd.R_alloc | apply Kd.R_drewN | apply Kd.R_drew)); exact Kd.R_mono (Kd.R_far (p := ⟨gb200, 4, none⟩) (Kd.R_far (p := ⟨gb200, 3, none⟩) (Kd.R_far (p := ⟨gb200, 2, none⟩) (Kd.R_far (p := ⟨gb200, 1, none⟩) (Kd.R_far (p := ⟨gb200, 0, none⟩) (Kd.R_mono HO_4.out (fun k_ hk => (⟨hk, hk.2⟩ : _ ∧ k_ ≠ gb200))) (fun _ hk => hk.2) (.int .i64 t188)) (fun _ hk => hk.2) (.int .i64 t189)) (fun _ hk => hk.2) (.int .i64 t190)) (fun _ hk => hk.2) (.slice Ao48 t191.length co48)) (fun _ hk => hk.2) (.slice Ao49 t194.length co49)) (fun _ hk => ⟨hk.1.1.1.2, ⟨hk.1.1.2, hk.1.2⟩⟩)))⟩; have n1_ : Aside0 (Kd.R k104 104 w50 w.heap.size (fun _ => True) (.slice Ao48 t191.length co48) t191) := ⟨(by rw [hw]; exact (by (with_reducible repeat (first | apply Kd.R_alloc | apply Kd.R_drewN | apply Kd.R_drew)); exact Kd.R_mono (Kd.R_far (p := ⟨gb200, 4, none⟩) (Kd.R_far (p := ⟨gb200, 3, none⟩) (Kd.R_far (p := ⟨gb200, 2, none⟩) (Kd.R_far (p := ⟨gb200, 1, none⟩) (Kd.R_far (p := ⟨gb200, 0, none⟩) (Kd.R_types HO193.out BK200.out zq40) (fun _ hk => hk.2) (.int .i64 t188)) (fun _ hk => hk.2) (.int .i64 t189)) (fun _ hk => hk.2) (.int .i64 t190)) (fun _ hk => hk.2) (.slice Ao48 t191.length co48)) (fun _ hk => hk.2) (.slice Ao49 t194.length co49)) (fun _ hk => trivial)))⟩; have n2_ : Aside0 (Kd.R k38 38 w50 w.heap.size (fun k_ => some k_ ≠ (u4 : Value).ownBlock ∧ some k_ ≠ (.slice Ao48 t191.length co48 : Value).ownBlock ∧ k_ ≠ gb200) (.slice Ao49 t194.length co49) t194) := ⟨(by rw [hw]; exact (by (with_reducible repeat (first | apply Kd.R_alloc | apply Kd.R_drewN | apply Kd.R_drew)); exact Kd.R_mono (Kd.R_far (p := ⟨gb200, 4, none⟩) (Kd.R_far (p := ⟨gb200, 3, none⟩) (Kd.R_far (p := ⟨gb200, 2, none⟩) (Kd.R_far (p := ⟨gb200, 1, none⟩) (Kd.R_far (p := ⟨gb200, 0, none⟩) (Kd.R_mono HO196.out (fun k_ hk => (⟨hk, hk.2⟩ : _ ∧ k_ ≠ gb200))) (fun _ hk => hk.2) (.int .i64 t188)) (fun _ hk => hk.2) (.int .i64 t189)) (fun _ hk => hk.2) (.int .i64 t190)) (fun _ hk => hk.2) (.slice Ao48 t191.length co48)) (fun _ hk => hk.2) (.slice Ao49 t194.length co49)) (fun _ hk => ⟨hk.1.1.2, ⟨hk.1.1.1, hk.1.2⟩⟩)))⟩; have n3_ : Aside0 (w50.heap[gb200]? = some (.cells #[.int .i64 t188, .int .i64 t189, .int .i64 t190, .slice Ao48 t191.length co48, .slice Ao49 t194.length co49] 38 (0, 0))) := ⟨(by rw [hw]; exact (by (with_reducible repeat (first | refine blk_drewN ?_ _ | refine blk_drew ?_ | refine blk_alloc ?_ _)); refine blk_put (cs := #[.int .i64 t188, .int .i64 t189, .int .i64 t190, .slice Ao48 t191.length co48, .slice none 0 0]) ?_ 4 _ rfl; (with_reducible repeat (first | refine blk_drewN ?_ _ | refine blk_drew ?_ | refine blk_alloc ?_ _)); refine blk_put (cs := #[.int .i64 t188, .int .i64 t189, .int .i64 t190, .slice none 0 0, .slice none 0 0]) ?_ 3 _ rfl; (with_reducible repeat (first | refine blk_drewN ?_ _ | refine blk_drew ?_ | refine blk_alloc ?_ _)); refine blk_put (cs := #[.int .i64 t188, .int .i64 t189, .int .i64 0, .slice none 0 0, .slice none 0 0]) ?_ 2 _ rfl; (with_reducible repeat (first | refine blk_drewN ?_ _ | refine blk_drew ?_ | refine blk_alloc ?_ _)); refine blk_put (cs := #[.int .i64 t188, .int .i64 0, .int .i64 0, .slice none 0 0, .slice none 0 0]) ?_ 1 _ rfl; (with_reducible repeat (first | refine blk_drewN ?_ _ | refine blk_drew ?_ | refine blk_alloc ?_ _)); refine blk_put (cs := #[.int .i64 0, .int .i64 0, .int .i64 0, .slice none 0 0, .slice none 0 0]) ?_ 0 _ rfl; (with_reducible repeat (first | refine blk_drewN ?_ _ | refine blk_drew ?_ | refine blk_alloc ?_ _)); exact BK200.out))⟩; have n4_ : Aside0 (IsS56 w0 w50 g t198 t199) := ⟨(by rw [hw]; exact zq5)⟩; have n5_ : Aside0 (KeepBut w w50 g none) := ⟨(by rw [hw]; exact zq16)⟩; have n6_ : Aside0 (Below w0.heap.size w0 w50) := ⟨(by rw [hw]; exact zq18)⟩; clear hw HO_4 HO193 HO196 BK200 HI0 HK HB; have HO_4 := n0_; have HO193 := n1_; have HO196 := n2_; have BK200 := n3_; have HI0 := n4_; have HK := n5_; have HB := n6_; clear n0_ n1_ n2_ n3_ n4_ n5_ n6_; have hcz51_0 : w50.cell? ⟨gb200, 0, none⟩ = some (.int .i64 t188) := (blk_cell BK200.out 0).trans rfl; have hcz51_1 : w50.cell? ⟨gb200, 1, none⟩ = some (.int .i64 t189) := (blk_cell BK200.out 1).trans rfl; have hcz51_2 : w50.cell? ⟨gb200, 2, none⟩ = some (.int .i64 t190) := (blk_cell BK200.out 2).trans rfl; have hcz51_3 : w50.cell? ⟨gb200, 3, none⟩ = some (.slice Ao48 t191.length co48) := (blk_cell BK200.out 3).trans rfl; have hcz51_4 : w50.cell? ⟨gb200, 4, none⟩ = some (.slice Ao49 t194.length co49) := (blk_cell BK200.out 4).trans rfl; have hfz51_0 := blk_frozen BK200.out 0; have hfz51_1 := blk_frozen BK200.out 1; have hfz51_2 := blk_frozen BK200.out 2; have hfz51_3 := blk_frozen BK200.out 3; have hfz51_4 := blk_frozen BK200.out 4) | ((with_reducible refine gate_builtin (b := .append) (xs := #[.tmp 25, .tmp 27]) rfl ?_); at_builtin; refine Kd.R_append k38 w.heap.size rfl (.tmp 25) (.tmp 27) 36 38 (.agg #[(.int .i64 0), (.int .i64 0), (.int .i64 0), (.slice none 0 0), (.slice none 0 0)]) 72 rfl Tryd.underlying36 info38 rfl zq40 (by omega) u4 x4_1 (⟨t188, t189, t190, t191, t194⟩ : S38) [.int .i64 t188, .int .i64 t189, .int .i64 t190, .slice Ao48 t191.length co48, .slice Ao49 t194.length co49] (fun k_ => k_ ≠ gb200) (fun k_ => ((fun k_ => k_ ≠ gb200)) k_ ∧ some k_ ≠ (u4 : Value).ownBlock) rfl rfl ?aP (fun _ hk => hk) ?aF ?aO (Below.refl _ _) ?aS ?aL ?_; (case aP => exact k38_mkM _ _ _ (⟨t188, t189, t190, t191, t194⟩ : S38) (Kd.R_mono (Kd.R_types (Kd.R_apart' (HO193.out) (Kd.R_typed HO_4.out) zq40) BK200.out zq40) (fun k_ hk => ⟨hk.2, hk.1.2⟩)) (Kd.R_mono (HO196.out) (fun k_ hk => ⟨hk.2.2, hk.1⟩))); (case aF => exact (fun k_ hk => Kd.freshB (g := gb200) (o := .cells #[.int .i64 t188, .int .i64 t189, .int .i64 t190, .slice Ao48 t191.length co48, .slice Ao49 t194.length co49] 38 (0, 0)) zq26 k_ hk)); (case aO => exact zq55); (case aS => exact (keep_size (w := w) (g := g) (row := none) zq16)); (case aL => have := LMc13.out; omega); intro v202 w52 ho hb hg hat; rw [← Ny201.out] at ho; have n0_ := mk0 (IsS56.grown zq5 hg (IsS56.own_ne HI0.out HO_4.out zq40)); have n1_ := mk0 (blk_grown (g := gb200) (o := .cells #[.int .i64 t188, .int .i64 t189, .int .i64 t190, .slice Ao48 t191.length co48, .slice Ao49 t194.length co49] 38 (0, 0)) zq26 hg (Kd.R_away HO_4.out (fun _ hk => hk.2.2))); have n2_ := mk0 (below_weaken zq18 HL.out hb); have n3_ := mk0 (KeepBut.trans zq16 (KeepBut.of_grown hg g) (Kd.R_base2 HO_4.out)); have n4_ := mk0 (ho); clear HI0 BK200 HB HK HO_4 HO193 HO196; have HI0 := n0_; have BK200 := n1_; have HB := n2_; have HK := n3_; have HO203 := n4_; clear n0_ n1_ n2_ n3_ n4_; clear ho hb hg hat) | ((with_reducible refine gate_callee (f := 28) rfl ?_); refine goesL_ (some 30) rfl rfl Tryd.func28 zq22 rfl #[.pointer (some ⟨g, 0, none⟩)] rfl zq2 ?_; (with_reducible refine (spec_reader_blanks.calls k1 g t198 t199 t204 t205 w0 _ ?side1 ?side2 A14.out).mono ?_); (case side1 => exact zq5); (case side2 => exact zq18); rintro e w53 ⟨rfl, hi, hb, hk⟩; refine ⟨_, rfl, ?_⟩; have n0_ := mk0 (KeepBut.blk hk (g' := gb200) (o := .cells #[.int .i64 t188, .int .i64 t189, .int .i64 t190, .slice Ao48 t191.length co48, .slice Ao49 t194.length co49] 38 (0, 0)) zq26 NB200_0.out (by simp)); have n1_ := mk0 (Kd.R_mono (Kd.R_keep (IsS56.apart (show IsS56 w0 _ g t198 t199 from zq5) zq34 zq40) hk (fun _ h => h.2)) (fun _ h => h.1)); have n2_ := mk0 (KeepBut.trans zq16 hk (.inl rfl)); have n3_ := mk0 (hb); have n4_ := mk0 (hi); clear BK200 HO203 HK HB HI0; have BK200 := n0_; have HO203 := n1_; have HK := n2_; have HB := n3_; have HI0 := n4_; clear n0_ n1_ n2_ n3_ n4_; (try clear hb); (try clear hb2); (try clear hk); (try clear hi)) | ((with_reducible refine gate_callee (f := 67) rfl ?_); refine goesL_ (some 32) rfl rfl Tryd.func67 zq22 rfl #[.pointer (some ⟨g, 0, none⟩), .int .u8 93] rfl zq2 ?_; (with_reducible refine (spec_reader_take.calls g t204 t205 93 false t207 t208 w0 _ ?side1 ?side2 A15.out).mono ?_); (case side1 => exact zq5); (case side2 => exact zq18); rintro e w54 ⟨rfl, hi, hb, hk⟩; refine ⟨_, rfl, ?_⟩; have n0_ := mk0 (KeepBut.blk hk (g' := gb200) (o := .cells #[.int .i64 t188, .int .i64 t189, .int .i64 t190, .slice Ao48 t191.length co48, .slice Ao49 t194.length co49] 38 (0, 0)) zq26 NB200_0.out (by simp)); have n1_ := mk0 (Kd.R_mono (Kd.R_keep (IsS56.apart (show IsS56 w0 _ g t204 t205 from zq5) zq34 zq40) hk (fun _ h => h.2)) (fun _ h => h.1)); have n2_ := mk0 (KeepBut.trans zq16 hk (.inl rfl)); have n3_ := mk0 (hb); have n4_ := mk0 (hi); clear BK200 HO203 HK HB HI0; have BK200 := n0_; have HO203 := n1_; have HK := n2_; have HB := n3_; have HI0 := n4_; clear n0_ n1_ n2_ n3_ n4_; (try clear hb); (try clear hb2); (try clear hk); (try clear hi)) | ((with_reducible refine gate_callee (f := 67) rfl ?_); refine goesL_ (some 35) rfl rfl Tryd.func67 zq22 rfl #[.pointer (some ⟨g, 0, none⟩), .int .u8 44] rfl zq2 ?_; (with_reducible refine (spec_reader_take.calls g t207 t208 44 false t210 t211 w0 _ ?side1 ?side2 A28.out).mono ?_); (case side1 => exact zq5); (case side2 => exact zq18); rintro e w55 ⟨rfl, hi, hb, hk⟩; refine ⟨_, rfl, ?_⟩; have n0_ := mk0 (KeepBut.blk hk (g' := gb200) (o := .cells #[.int .i64 t188, .int .i64 t189, .int .i64 t190, .slice Ao48 t191.length co48, .slice Ao49 t194.length co49] 38 (0, 0)) zq26 NB200_0.out (by simp)); have n1_ := mk0 (Kd.R_mono (Kd.R_keep (IsS56.apart (show IsS56 w0 _ g t207 t208 from zq5) zq34 zq40) hk (fun _ h => h.2)) (fun _ h => h.1)); have n2_ := mk0 (KeepBut.trans zq16 hk (.inl rfl)); have n3_ := mk0 (hb); have n4_ := mk0 (hi); clear BK200 HO203 HK HB HI0; have BK200 := n0_; have HO203 := n1_; have HK := n2_; have HB := n3_; have HI0 := n4_; clear n0_ n1_ n2_ n3_ n4_; (try clear hb); (try clear hb2); (try clear hk); (try clear hi)))
    go_ret2
    exact ⟨_, by first | rfl | (simp [errW_none, errW_some] <;> rfl) | (simp [*, errW_none, errW_some] <;> rfl), by first | exact Kd.R_nil _ _ _ _ _ | exact Kd.N_nil _ _ _ _ _ | exact Kd.V_nil _ _ _ _ _ | exact Kd.Q_nil _ _ _ _ _ | exact Kd.S_nil _ _ _ _ _, by repeat (first | (with_reducible first | exact HI0.out | apply IsS56.alloc | apply IsS56.drewN | apply IsS56.drew | apply IsS56.set_0 | apply IsS56.set_1 | refine IsS56.far ?_ NB0_200.out _) | exact HI0.out), by repeat (first | (with_reducible first | exact HB.out | apply below_alloc | apply pw_below_drewN | apply below_drew1 | refine below_set ?_ (IsS56.ge HI0.out) | refine below_set ?_ GE200.out) | exact HB.out), by repeat (first | (with_reducible first | exact HK.out | apply KeepBut.set_ | apply keep_drewN | apply keep_drew | apply keep_alloc | refine keep_far ?_ GW200.out _) | exact HK.out)⟩
   subst c29
   have H1 : ((spec_reader_blanks.f k1 t210 t211).bind fun bt212 => (spec_reader_elements.l0 k1 y201 bt212.1 bt212.2)) = some (r1, r2, r3, r4) := by rw [if_pos rfl] at H; exact H
   clear H
   have H := H1
   clear H1
   replace H := Option.bind_eq_some_iff.mp H
   obtain ⟨⟨t212, t213⟩, A300, H⟩ := H
   replace H : (spec_reader_elements.l0 k1 y201 t212 t213) = some (r1, r2, r3, r4) := H
   have A30 := mk0 A300
   clear A300
   have H' := mk0 H
   clear H
   go_wp2_with (first | ((with_reducible refine gate_callee (f := 29) rfl ?_); refine goesL_ (some 20) rfl rfl Tryd.func29 zq22 rfl #[.pointer (some ⟨g, 0, none⟩)] rfl zq2 ?_; (with_reducible refine (ih_29 k1 (by have := HK1.out; omega) g x1000_1 x1001_1 t188 t189 t190 t191 t194 true t198 t199 w0 _ ?side1 ?side2 A11.out).mono ?_); (case side1 => exact zq0); (case side2 => exact zq3); rintro e w31 ⟨v192, v195, rfl, ho0, ho1, hi, hb, hk⟩; refine ⟨_, rfl, ?_⟩; have n0_ := mk0 (Kd.R_mono (Kd.R_told (Kd.R_told (Kd.R_oldK (IsS56.apart (show IsS56 w0 _ g x1000_1 x1001_1 from zq0) zq29 zq40) hk) (Kd.R_base ho0)) (Kd.R_base ho1)) (fun _ h_ => h_.1)); have n1_ := mk0 (Kd.R_lower ho0 (keep_size (w := w) (g := g) (row := none) zq1)); have n2_ := mk0 (Kd.R_lower (Kd.R_new' ho1 (Kd.R_lt zq29)) (keep_size (w := w) (g := g) (row := none) zq1)); have n3_ := mk0 (KeepBut.trans zq1 hk (.inl rfl)); have n4_ := mk0 (hb); have n5_ := mk0 (hi); clear HO_4 HK HB HI0; have HO_4 := n0_; have HO193 := n1_; have HO196 := n2_; have HK := n3_; have HB := n4_; have HI0 := n5_; clear n0_ n1_ n2_ n3_ n4_ n5_; (try clear hb); (try clear hb2); (try clear hk); (try clear hi); (try clear ho0); (try clear ho1)) | ((with_reducible refine gate_dst (N := 5) rfl ?_); refine box_event ?hg (N := 5) ?hd (cs := #[.int .i64 0, .int .i64 0, .int .i64 0, .slice none 0 0, .slice none 0 0]) (t := 38) ?hr ?_; (case hd => rfl); (case hg => rfl); (case hr => exact zq32); intro gb200 hg w32 hbox hb; have n0_ := mk0 (Kd.R_below (Kd.R_elderB zq29 gb200 (Nat.le_of_eq hg.symm)) hb); have n1_ := mk0 (Kd.R_below zq51 hb); have n2_ := mk0 (Kd.R_below (Kd.R_elderB zq52 gb200 (Nat.le_of_eq hg.symm)) hb); have n3_ := mk0 (IsS56.below zq0 hb); have n4_ := mk0 (KeepBut.trans zq1 (KeepBut.of_below hb g none) (.inl rfl)); have n5_ := mk0 (below_step zq3 hb); have n6_ := mk0 (hbox); have n7_ := mk0 ((zq27 : w.heap.size ≤ gb200)); have n8_ := mk0 ((Nat.le_trans HW0.out (zq27 : w.heap.size ≤ gb200) : w0.heap.size ≤ gb200)); have n9_ := mk0 ((by rw [hg]; exact Nat.ne_of_lt (IsS56.lt (show IsS56 w0 _ g t198 t199 from zq0)) : g ≠ gb200)); have n10_ := mk0 ((by rw [hg]; exact Nat.ne_of_gt (IsS56.lt (show IsS56 w0 _ g t198 t199 from zq0)) : gb200 ≠ g)); clear HO_4 HO193 HO196 HI0 HK HB; have HO_4 := n0_; have HO193 := n1_; have HO196 := n2_; have HI0 := n3_; have HK := n4_; have HB := n5_; have BK200 := n6_; have GW200 := n7_; have GE200 := n8_; have NB0_200 := n9_; have NB200_0 := n10_; clear n0_ n1_ n2_ n3_ n4_ n5_ n6_ n7_ n8_ n9_ n10_; clear hb hbox hg; have hnb33 := NB200_0.out; have hnc33 := NB0_200.out; have hcz34_0 : w32.cell? ⟨gb200, 0, none⟩ = some (.int .i64 0) := (blk_cell BK200.out 0).trans rfl; have hcz34_1 : w32.cell? ⟨gb200, 1, none⟩ = some (.int .i64 0) := (blk_cell BK200.out 1).trans rfl; have hcz34_2 : w32.cell? ⟨gb200, 2, none⟩ = some (.int .i64 0) := (blk_cell BK200.out 2).trans rfl; have hcz34_3 : w32.cell? ⟨gb200, 3, none⟩ = some (.slice none 0 0) := (blk_cell BK200.out 3).trans rfl; have hcz34_4 : w32.cell? ⟨gb200, 4, none⟩ = some (.slice none 0 0) := (blk_cell BK200.out 4).trans rfl; have hfz34_0 := blk_frozen BK200.out 0; have hfz34_1 := blk_frozen BK200.out 1; have hfz34_2 := blk_frozen BK200.out 2; have hfz34_3 := blk_frozen BK200.out 3; have hfz34_4 := blk_frozen BK200.out 4; obtain ⟨Ao35, co35, eo35⟩ := Kd.R_slice HO193.out; subst eo35; obtain ⟨Ao36, co36, eo36⟩ := Kd.R_slice HO196.out; subst eo36) | ((with_reducible refine gate_store (t := 38) (p := 5) rfl ?_); refine store_event (t := 38) (p := 5) (v := ?vo_w37) (w1 := (((((w32.setCell ⟨gb200, 0, none⟩ (.int .i64 t188)).setCell ⟨gb200, 1, none⟩ (.int .i64 t189)).setCell ⟨gb200, 2, none⟩ (.int .i64 t190)).setCell ⟨gb200, 3, none⟩ (.slice Ao35 t191.length co35)).setCell ⟨gb200, 4, none⟩ (.slice Ao36 t194.length co36))) ?hg ?ho ?hn ?hr ?_; (case ho => rfl); (case hg => rfl); (case hn => rfl); (case hr => exact zq32); intro w37 hw; have n0_ : Aside0 (Kd.R k38 38 w37 w.heap.size (fun k_ => some k_ ≠ (.slice Ao35 t191.length co35 : Value).ownBlock ∧ some k_ ≠ (.slice Ao36 t194.length co36 : Value).ownBlock ∧ k_ ≠ gb200) u4 x4_1) := ⟨(by rw [hw]; exact (by (with_reducible repeat (first | apply Kd.R_alloc | apply Kd.R_drewN | apply Kd.R_drew)); exact Kd.R_mono (Kd.R_far (p := ⟨gb200, 4, none⟩) (Kd.R_far (p := ⟨gb200, 3, none⟩) (Kd.R_far (p := ⟨gb200, 2, none⟩) (Kd.R_far (p := ⟨gb200, 1, none⟩) (Kd.R_far (p := ⟨gb200, 0, none⟩) (Kd.R_mono HO_4.out (fun k_ hk => (⟨hk, hk.2⟩ : _ ∧ k_ ≠ gb200))) (fun _ hk => hk.2) (.int .i64 t188)) (fun _ hk => hk.2) (.int .i64 t189)) (fun _ hk => hk.2) (.int .i64 t190)) (fun _ hk => hk.2) (.slice Ao35 t191.length co35)) (fun _ hk => hk.2) (.slice Ao36 t194.length co36)) (fun _ hk => ⟨hk.1.1.1.2, ⟨hk.1.1.2, hk.1.2⟩⟩)))⟩; have n1_ : Aside0 (Kd.R k104 104 w37 w.heap.size (fun _ => True) (.slice Ao35 t191.length co35) t191) := ⟨(by rw [hw]; exact (by (with_reducible repeat (first | apply Kd.R_alloc | apply Kd.R_drewN | apply Kd.R_drew)); exact Kd.R_mono (Kd.R_far (p := ⟨gb200, 4, none⟩) (Kd.R_far (p := ⟨gb200, 3, none⟩) (Kd.R_far (p := ⟨gb200, 2, none⟩) (Kd.R_far (p := ⟨gb200, 1, none⟩) (Kd.R_far (p := ⟨gb200, 0, none⟩) (Kd.R_types HO193.out BK200.out zq40) (fun _ hk => hk.2) (.int .i64 t188)) (fun _ hk => hk.2) (.int .i64 t189)) (fun _ hk => hk.2) (.int .i64 t190)) (fun _ hk => hk.2) (.slice Ao35 t191.length co35)) (fun _ hk => hk.2) (.slice Ao36 t194.length co36)) (fun _ hk => trivial)))⟩; have n2_ : Aside0 (Kd.R k38 38 w37 w.heap.size (fun k_ => some k_ ≠ (u4 : Value).ownBlock ∧ some k_ ≠ (.slice Ao35 t191.length co35 : Value).ownBlock ∧ k_ ≠ gb200) (.slice Ao36 t194.length co36) t194) := ⟨(by rw [hw]; exact (by (with_reducible repeat (first | apply Kd.R_alloc | apply Kd.R_drewN | apply Kd.R_drew)); exact Kd.R_mono (Kd.R_far (p := ⟨gb200, 4, none⟩) (Kd.R_far (p := ⟨gb200, 3, none⟩) (Kd.R_far (p := ⟨gb200, 2, none⟩) (Kd.R_far (p := ⟨gb200, 1, none⟩) (Kd.R_far (p := ⟨gb200, 0, none⟩) (Kd.R_mono HO196.out (fun k_ hk => (⟨hk, hk.2⟩ : _ ∧ k_ ≠ gb200))) (fun _ hk => hk.2) (.int .i64 t188)) (fun _ hk => hk.2) (.int .i64 t189)) (fun _ hk => hk.2) (.int .i64 t190)) (fun _ hk => hk.2) (.slice Ao35 t191.length co35)) (fun _ hk => hk.2) (.slice Ao36 t194.length co36)) (fun _ hk => ⟨hk.1.1.2, ⟨hk.1.1.1, hk.1.2⟩⟩)))⟩; have n3_ : Aside0 (w37.heap[gb200]? = some (.cells #[.int .i64 t188, .int .i64 t189, .int .i64 t190, .slice Ao35 t191.length co35, .slice Ao36 t194.length co36] 38 (0, 0))) := ⟨(by rw [hw]; exact (by (with_reducible repeat (first | refine blk_drewN ?_ _ | refine blk_drew ?_ | refine blk_alloc ?_ _)); refine blk_put (cs := #[.int .i64 t188, .int .i64 t189, .int .i64 t190, .slice Ao35 t191.length co35, .slice none 0 0]) ?_ 4 _ rfl; (with_reducible repeat (first | refine blk_drewN ?_ _ | refine blk_drew ?_ | refine blk_alloc ?_ _)); refine blk_put (cs := #[.int .i64 t188, .int .i64 t189, .int .i64 t190, .slice none 0 0, .slice none 0 0]) ?_ 3 _ rfl; (with_reducible repeat (first | refine blk_drewN ?_ _ | refine blk_drew ?_ | refine blk_alloc ?_ _)); refine blk_put (cs := #[.int .i64 t188, .int .i64 t189, .int .i64 0, .slice none 0 0, .slice none 0 0]) ?_ 2 _ rfl; (with_reducible repeat (first | refine blk_drewN ?_ _ | refine blk_drew ?_ | refine blk_alloc ?_ _)); refine blk_put (cs := #[.int .i64 t188, .int .i64 0, .int .i64 0, .slice none 0 0, .slice none 0 0]) ?_ 1 _ rfl; (with_reducible repeat (first | refine blk_drewN ?_ _ | refine blk_drew ?_ | refine blk_alloc ?_ _)); refine blk_put (cs := #[.int .i64 0, .int .i64 0, .int .i64 0, .slice none 0 0, .slice none 0 0]) ?_ 0 _ rfl; (with_reducible repeat (first | refine blk_drewN ?_ _ | refine blk_drew ?_ | refine blk_alloc ?_ _)); exact BK200.out))⟩; have n4_ : Aside0 (IsS56 w0 w37 g t198 t199) := ⟨(by rw [hw]; exact zq5)⟩; have n5_ : Aside0 (KeepBut w w37 g none) := ⟨(by rw [hw]; exact zq16)⟩; have n6_ : Aside0 (Below w0.heap.size w0 w37) := ⟨(by rw [hw]; exact zq18)⟩; clear hw HO_4 HO193 HO196 BK200 HI0 HK HB; have HO_4 := n0_; have HO193 := n1_; have HO196 := n2_; have BK200 := n3_; have HI0 := n4_; have HK := n5_; have HB := n6_; clear n0_ n1_ n2_ n3_ n4_ n5_ n6_; have hcz38_0 : w37.cell? ⟨gb200, 0, none⟩ = some (.int .i64 t188) := (blk_cell BK200.out 0).trans rfl; have hcz38_1 : w37.cell? ⟨gb200, 1, none⟩ = some (.int .i64 t189) := (blk_cell BK200.out 1).trans rfl; have hcz38_2 : w37.cell? ⟨gb200, 2, none⟩ = some (.int .i64 t190) := (blk_cell BK200.out 2).trans rfl; have hcz38_3 : w37.cell? ⟨gb200, 3, none⟩ = some (.slice Ao35 t191.length co35) := (blk_cell BK200.out 3).trans rfl; have hcz38_4 : w37.cell? ⟨gb200, 4, none⟩ = some (.slice Ao36 t194.length co36) := (blk_cell BK200.out 4).trans rfl; have hfz38_0 := blk_frozen BK200.out 0; have hfz38_1 := blk_frozen BK200.out 1; have hfz38_2 := blk_frozen BK200.out 2; have hfz38_3 := blk_frozen BK200.out 3; have hfz38_4 := blk_frozen BK200.out 4) | ((with_reducible refine gate_builtin (b := .append) (xs := #[.tmp 25, .tmp 27]) rfl ?_); at_builtin; refine Kd.R_append k38 w.heap.size rfl (.tmp 25) (.tmp 27) 36 38 (.agg #[(.int .i64 0), (.int .i64 0), (.int .i64 0), (.slice none 0 0), (.slice none 0 0)]) 72 rfl Tryd.underlying36 info38 rfl zq40 (by omega) u4 x4_1 (⟨t188, t189, t190, t191, t194⟩ : S38) [.int .i64 t188, .int .i64 t189, .int .i64 t190, .slice Ao35 t191.length co35, .slice Ao36 t194.length co36] (fun k_ => k_ ≠ gb200) (fun k_ => ((fun k_ => k_ ≠ gb200)) k_ ∧ some k_ ≠ (u4 : Value).ownBlock) rfl rfl ?aP (fun _ hk => hk) ?aF ?aO (Below.refl _ _) ?aS ?aL ?_; (case aP => exact k38_mkM _ _ _ (⟨t188, t189, t190, t191, t194⟩ : S38) (Kd.R_mono (Kd.R_types (Kd.R_apart' (HO193.out) (Kd.R_typed HO_4.out) zq40) BK200.out zq40) (fun k_ hk => ⟨hk.2, hk.1.2⟩)) (Kd.R_mono (HO196.out) (fun k_ hk => ⟨hk.2.2, hk.1⟩))); (case aF => exact (fun k_ hk => Kd.freshB (g := gb200) (o := .cells #[.int .i64 t188, .int .i64 t189, .int .i64 t190, .slice Ao35 t191.length co35, .slice Ao36 t194.length co36] 38 (0, 0)) zq26 k_ hk)); (case aO => exact zq55); (case aS => exact (keep_size (w := w) (g := g) (row := none) zq16)); (case aL => have := LMc13.out; omega); intro v202 w39 ho hb hg hat; rw [← Ny201.out] at ho; have n0_ := mk0 (IsS56.grown zq5 hg (IsS56.own_ne HI0.out HO_4.out zq40)); have n1_ := mk0 (blk_grown (g := gb200) (o := .cells #[.int .i64 t188, .int .i64 t189, .int .i64 t190, .slice Ao35 t191.length co35, .slice Ao36 t194.length co36] 38 (0, 0)) zq26 hg (Kd.R_away HO_4.out (fun _ hk => hk.2.2))); have n2_ := mk0 (below_weaken zq18 HL.out hb); have n3_ := mk0 (KeepBut.trans zq16 (KeepBut.of_grown hg g) (Kd.R_base2 HO_4.out)); have n4_ := mk0 (ho); clear HI0 BK200 HB HK HO_4 HO193 HO196; have HI0 := n0_; have BK200 := n1_; have HB := n2_; have HK := n3_; have HO203 := n4_; clear n0_ n1_ n2_ n3_ n4_; clear ho hb hg hat) | ((with_reducible refine gate_callee (f := 28) rfl ?_); refine goesL_ (some 30) rfl rfl Tryd.func28 zq22 rfl #[.pointer (some ⟨g, 0, none⟩)] rfl zq2 ?_; (with_reducible refine (spec_reader_blanks.calls k1 g t198 t199 t204 t205 w0 _ ?side1 ?side2 A14.out).mono ?_); (case side1 => exact zq5); (case side2 => exact zq18); rintro e w40 ⟨rfl, hi, hb, hk⟩; refine ⟨_, rfl, ?_⟩; have n0_ := mk0 (KeepBut.blk hk (g' := gb200) (o := .cells #[.int .i64 t188, .int .i64 t189, .int .i64 t190, .slice Ao35 t191.length co35, .slice Ao36 t194.length co36] 38 (0, 0)) zq26 NB200_0.out (by simp)); have n1_ := mk0 (Kd.R_mono (Kd.R_keep (IsS56.apart (show IsS56 w0 _ g t198 t199 from zq5) zq34 zq40) hk (fun _ h => h.2)) (fun _ h => h.1)); have n2_ := mk0 (KeepBut.trans zq16 hk (.inl rfl)); have n3_ := mk0 (hb); have n4_ := mk0 (hi); clear BK200 HO203 HK HB HI0; have BK200 := n0_; have HO203 := n1_; have HK := n2_; have HB := n3_; have HI0 := n4_; clear n0_ n1_ n2_ n3_ n4_; (try clear hb); (try clear hb2); (try clear hk); (try clear hi)) | ((with_reducible refine gate_callee (f := 67) rfl ?_); refine goesL_ (some 32) rfl rfl Tryd.func67 zq22 rfl #[.pointer (some ⟨g, 0, none⟩), .int .u8 93] rfl zq2 ?_; (with_reducible refine (spec_reader_take.calls g t204 t205 93 false t207 t208 w0 _ ?side1 ?side2 A15.out).mono ?_); (case side1 => exact zq5); (case side2 => exact zq18); rintro e w41 ⟨rfl, hi, hb, hk⟩; refine ⟨_, rfl, ?_⟩; have n0_ := mk0 (KeepBut.blk hk (g' := gb200) (o := .cells #[.int .i64 t188, .int .i64 t189, .int .i64 t190, .slice Ao35 t191.length co35, .slice Ao36 t194.length co36] 38 (0, 0)) zq26 NB200_0.out (by simp)); have n1_ := mk0 (Kd.R_mono (Kd.R_keep (IsS56.apart (show IsS56 w0 _ g t204 t205 from zq5) zq34 zq40) hk (fun _ h => h.2)) (fun _ h => h.1)); have n2_ := mk0 (KeepBut.trans zq16 hk (.inl rfl)); have n3_ := mk0 (hb); have n4_ := mk0 (hi); clear BK200 HO203 HK HB HI0; have BK200 := n0_; have HO203 := n1_; have HK := n2_; have HB := n3_; have HI0 := n4_; clear n0_ n1_ n2_ n3_ n4_; (try clear hb); (try clear hb2); (try clear hk); (try clear hi)) | ((with_reducible refine gate_callee (f := 67) rfl ?_); refine goesL_ (some 35) rfl rfl Tryd.func67 zq22 rfl #[.pointer (some ⟨g, 0, none⟩), .int .u8 44] rfl zq2 ?_; (with_reducible refine (spec_reader_take.calls g t207 t208 44 true t210 t211 w0 _ ?side1 ?side2 A28.out).mono ?_); (case side1 => exact zq5); (case side2 => exact zq18); rintro e w42 ⟨rfl, hi, hb, hk⟩; refine ⟨_, rfl, ?_⟩; have n0_ := mk0 (KeepBut.blk hk (g' := gb200) (o := .cells #[.int .i64 t188, .int .i64 t189, .int .i64 t190, .slice Ao35 t191.length co35, .slice Ao36 t194.length co36] 38 (0, 0)) zq26 NB200_0.out (by simp)); have n1_ := mk0 (Kd.R_mono (Kd.R_keep (IsS56.apart (show IsS56 w0 _ g t207 t208 from zq5) zq34 zq40) hk (fun _ h => h.2)) (fun _ h => h.1)); have n2_ := mk0 (KeepBut.trans zq16 hk (.inl rfl)); have n3_ := mk0 (hb); have n4_ := mk0 (hi); clear BK200 HO203 HK HB HI0; have BK200 := n0_; have HO203 := n1_; have HK := n2_; have HB := n3_; have HI0 := n4_; clear n0_ n1_ n2_ n3_ n4_; (try clear hb); (try clear hb2); (try clear hk); (try clear hi)) | ((with_reducible refine gate_callee (f := 28) rfl ?_); refine goesL_ (some 38) rfl rfl Tryd.func28 zq22 rfl #[.pointer (some ⟨g, 0, none⟩)] rfl zq2 ?_; (with_reducible refine (spec_reader_blanks.calls k1 g t210 t211 t212 t213 w0 _ ?side1 ?side2 A30.out).mono ?_); (case side1 => exact zq5); (case side2 => exact zq18); rintro e w43 ⟨rfl, hi, hb, hk⟩; refine ⟨_, rfl, ?_⟩; have n0_ := mk0 (KeepBut.blk hk (g' := gb200) (o := .cells #[.int .i64 t188, .int .i64 t189, .int .i64 t190, .slice Ao35 t191.length co35, .slice Ao36 t194.length co36] 38 (0, 0)) zq26 NB200_0.out (by simp)); have n1_ := mk0 (Kd.R_mono (Kd.R_keep (IsS56.apart (show IsS56 w0 _ g t210 t211 from zq5) zq34 zq40) hk (fun _ h => h.2)) (fun _ h => h.1)); have n2_ := mk0 (KeepBut.trans zq16 hk (.inl rfl)); have n3_ := mk0 (hb); have n4_ := mk0 (hi); clear BK200 HO203 HK HB HI0; have BK200 := n0_; have HO203 := n1_; have HK := n2_; have HB := n3_; have HI0 := n4_; clear n0_ n1_ n2_ n3_ n4_; (try clear hb); (try clear hb2); (try clear hk); (try clear hi)))
   go_roundg k1
   case measure => have := HK1.out; omega
   case rel => exact ⟨(y201), (t212), (t213), H', ⟨by have := HK1.out; omega⟩, ⟨by (with_reducible repeat (first | apply Kd.R_alloc | apply Kd.R_drewN | apply Kd.R_drew)); exact Kd.R_mono HO203.out (fun _ hk => trivial)⟩, ⟨by repeat (first | (with_reducible first | exact HI0.out | apply IsS56.alloc | apply IsS56.drewN | apply IsS56.drew | apply IsS56.set_0 | apply IsS56.set_1 | refine IsS56.far ?_ NB0_200.out _) | exact HI0.out)⟩, ⟨by repeat (first | (with_reducible first | exact HK.out | apply KeepBut.set_ | apply keep_drewN | apply keep_drew | apply keep_alloc | refine keep_far ?_ GW200.out _) | exact HK.out)⟩, ⟨by repeat (first | (with_reducible first | exact HB.out | apply below_alloc | apply pw_below_drewN | apply below_drew1 | refine below_set ?_ (IsS56.ge HI0.out) | refine below_set ?_ GE200.out) | exact HB.out)⟩⟩
theorem grp29.calls (k : Nat) : spec_reader_value.Stmt k ∧ spec_reader_members.Stmt k ∧ spec_reader_elements.Stmt k := by
 induction k using Nat.strongRecOn with
 | _ k ih => exact ⟨spec_reader_value.step k (fun m h => (ih m h).1) (fun m h => (ih m h).2.1) (fun m h => (ih m h).2.2), spec_reader_members.step k (fun m h => (ih m h).1) (fun m h => (ih m h).2.1) (fun m h => (ih m h).2.2), spec_reader_elements.step k (fun m h => (ih m h).1) (fun m h => (ih m h).2.1) (fun m h => (ih m h).2.2)⟩
theorem spec_reader_value.calls (k : Nat) : ∀ (g : Nat) (s0_0 : ByteArray) (s0_1 : Int) (r1 : Int) (r2 : Int) (r3 : Int) (r4 : List (S104)) (r5 : List (S38)) (r6 : Bool) (r7 : ByteArray) (r8 : Int) (w0 w : World) (hI : IsS56 w0 w g s0_0 s0_1) (hB : Below w0.heap.size w0 w) (h : spec_reader_value.f k s0_0 s0_1 = some (r1, r2, r3, r4, r5, r6, r7, r8)),
 Calls Tryd.prog 29 #[.pointer (some ⟨g, 0, none⟩)] w fun e w' => ∃ v3_ v4_ : Value, e = .returned (.tuple #[.agg #[.int .i64 r1, .int .i64 r2, .int .i64 r3, v3_, v4_], .bool r6]) ∧ Kd.R k104 104 w' w.heap.size (fun _ => True) v3_ r4 ∧ Kd.R k38 38 w' w.heap.size (fun k_ => some k_ ≠ (v3_ : Value).ownBlock) v4_ r5 ∧ IsS56 w0 w' g r7 r8 ∧ Below w0.heap.size w0 w' ∧ KeepBut w w' g none := (grp29.calls k).1
theorem spec_reader_members.calls (k : Nat) : ∀ (g : Nat) (s0_0 : ByteArray) (s0_1 : Int) (r1 : List (S104)) (r2 : List (S38)) (r3 : Bool) (r4 : ByteArray) (r5 : Int) (w0 w : World) (hI : IsS56 w0 w g s0_0 s0_1) (hB : Below w0.heap.size w0 w) (h : spec_reader_members.f k s0_0 s0_1 = some (r1, r2, r3, r4, r5)),
 Calls Tryd.prog 49 #[.pointer (some ⟨g, 0, none⟩)] w fun e w' => ∃ v0_ v1_ : Value, e = .returned (.tuple #[v0_, v1_, .bool r3]) ∧ Kd.R k104 104 w' w.heap.size (fun _ => True) v0_ r1 ∧ Kd.R k38 38 w' w.heap.size (fun k_ => some k_ ≠ (v0_ : Value).ownBlock) v1_ r2 ∧ IsS56 w0 w' g r4 r5 ∧ Below w0.heap.size w0 w' ∧ KeepBut w w' g none := (grp29.calls k).2.1
theorem spec_reader_elements.calls (k : Nat) : ∀ (g : Nat) (s0_0 : ByteArray) (s0_1 : Int) (r1 : List (S38)) (r2 : Bool) (r3 : ByteArray) (r4 : Int) (w0 w : World) (hI : IsS56 w0 w g s0_0 s0_1) (hB : Below w0.heap.size w0 w) (h : spec_reader_elements.f k s0_0 s0_1 = some (r1, r2, r3, r4)),
 Calls Tryd.prog 50 #[.pointer (some ⟨g, 0, none⟩)] w fun e w' => ∃ v0_ : Value, e = .returned (.tuple #[v0_, .bool r2]) ∧ Kd.R k38 38 w' w.heap.size (fun _ => True) v0_ r1 ∧ IsS56 w0 w' g r3 r4 ∧ Below w0.heap.size w0 w' ∧ KeepBut w w' g none := (grp29.calls k).2.2
def spec_Places.f (k : Nat) (a0 : ByteArray) : Option (Int × Int × Int × (List (S104)) × (List (S38)) × Bool) :=
  (spec_reader_blanks.f k a0 0).bind fun b => ((spec_reader_value.f k b.1 b.2).bind fun v => (if v.2.2.2.2.2.1 = true then ((spec_reader_blanks.f k v.2.2.2.2.2.2.1 v.2.2.2.2.2.2.2).bind fun c => (if c.2 = (a0.size : Int) then (some (v.1, v.2.1, v.2.2.1, v.2.2.2.1, v.2.2.2.2.1, true)) else (some (0, 0, 0, [], [], false)))) else (some (0, 0, 0, [], [], false))))
theorem spec_Places.mono : ∀ a0 k, LeO (spec_Places.f k a0) (spec_Places.f (k + 1) a0) := fun a0 k => LeO.bind (spec_reader_blanks.mono _ _ k) (fun _ => LeO.bind (spec_reader_value.mono _ _ k) (fun _ => LeO.ite (LeO.bind (spec_reader_blanks.mono _ _ k) (fun _ => LeO.refl _)) (LeO.refl _)))
theorem Places_R_keep {α : Type} {d : Kd α} {e : Nat} {w w1 : World} {base : Nat} {ok : Nat → Prop} {v : Value} {xs : List α} (h : d.R e w base ok v xs) {g : Nat} (hk : KeepBut w w1 g none) (hg : g < base) : d.R e w1 base ok v xs :=
 Kd.R_mono (Kd.R_move (Kd.R_bound h) (fun k hk' => hk.2 k hk'.2.2.1 (by omega) (by simp))) (fun _ hk => hk.1)
theorem spec_Places.calls (k : Nat) (a0 : ByteArray) (r1 r2 r3 : Int) (r4 : List (S104)) (r5 : List (S38)) (r6 : Bool) (w : World) (h : spec_Places.f k a0 = some (r1, r2, r3, r4, r5, r6)) :
 Calls Tryd.prog 15 #[.string a0] w fun e w' => ∃ v3_ v4_ : Value, e = .returned (.tuple #[.agg #[.int .i64 r1, .int .i64 r2, .int .i64 r3, v3_, v4_], .bool r6]) ∧ Kd.R k104 104 w' w.heap.size (fun _ => True) v3_ r4 ∧ Kd.R k38 38 w' w.heap.size (fun k_ => some k_ ≠ (v3_ : Value).ownBlock) v4_ r5 ∧ Below w.heap.size w w' := by
 unfold spec_Places.f at h
 replace h := Option.bind_eq_some_iff.mp h
 obtain ⟨⟨s1, at1⟩, A1, h⟩ := h
 replace h := Option.bind_eq_some_iff.mp h
 obtain ⟨⟨t1, t2, t3, t4, t5, ok, s2, at2⟩, A2, h⟩ := h
 have B1 := mk0 A1
 have B2 := mk0 A2
 have HR := mk0 h
 clear A1 A2 h
 go_enter Tryd.func15, Tryd.ntmps15
 go_wp2_with fail
 refine (spec_reader_blanks.calls k (w.heap.size + 1) a0 0 s1 at1 w _ ?i1 ?b1 B1.out).mono ?_
 case i1 =>
  have := IsS56.new w (w.alloc (.cells #[.int .i64 0, .int .i64 0, .int .i64 0, .slice none 0 0, .slice none 0 0] 38)) a0 0 (below_alloc (Below.refl _ _) _)
  simpa using this
 case b1 => exact below_alloc (below_alloc (Below.refl _ _) _) _
 rintro e w1 ⟨rfl, hI, hB, hK⟩
 have hZ : w1.heap[w.heap.size]? = some (.cells #[.int .i64 0, .int .i64 0, .int .i64 0, .slice none 0 0, .slice none 0 0] 38 (0, 0)) := KeepBut.blk hK (blk_alloc (blk_new w _) _) (by omega) (by simp)
 have HI := mk0 hI
 have HB := mk0 hB
 have HZ := mk0 hZ
 clear hI hB hK hZ
 go_wp2_with fail
 refine (spec_reader_value.calls k (w.heap.size + 1) s1 at1 t1 t2 t3 t4 t5 ok s2 at2 w _ HI.out HB.out B2.out).mono ?_
 rintro e w2 ⟨v3, v4, rfl, hv3, hv4, hI, hB, hK⟩
 obtain ⟨i3, ho3⟩ := Kd.R_own hv3
 obtain ⟨A3, c3, e3⟩ := own_slice ho3
 subst e3
 obtain ⟨i4, ho4⟩ := Kd.R_own hv4
 obtain ⟨A4, c4, e4⟩ := own_slice ho4
 subst e4
 clear ho3 ho4
 have hl1 := below_size HB.out
 have hl : w.heap.size + 1 < w1.heap.size := HI.out.lt
 have hZ2 := KeepBut.blk hK HZ.out (by omega) (by simp)
 have HI2 := mk0 hI
 have HB2 := mk0 hB
 have HZ2 := mk0 hZ2
 have HV3 := mk0 hv3
 have HV4 := mk0 hv4
 have HL := mk0 hl
 have HL2 := mk0 hK.1
 clear hI hB hK hZ2 hv3 hv4 hl hl1 HI HB HZ
 have HR1 := HR.out
 clear HR
 cases ok with
 | false =>
  rw [if_neg zq40] at HR1
  simp only [Option.some.injEq, Prod.mk.injEq] at HR1
  obtain ⟨rfl, rfl, rfl, rfl, rfl, rfl⟩ := HR1
  go_wp2_with (((with_reducible refine gate_store (t := 38) (p := 2) rfl ?_); refine box_store (g := w.heap.size) (new := #[.int .i64 0, .int .i64 0, .int .i64 0, .slice none 0 0, .slice none 0 0]) rfl rfl rfl rfl rfl (blk_alloc HZ2.out _) rfl zq22 (by simp [Value.oneCell']) ?_; intro w3 hz3 hk3 hb3; have HZ3 := mk0 hz3; have HB3 := mk0 (hb3 w.heap.size (Nat.le_refl _)); clear hz3 hk3 hb3))
  refine bodyPost_ret (results_ct rfl _ _ w.heap.size 38 #[.int .i64 0, .int .i64 0, .int .i64 0, .slice none 0 0, .slice none 0 0] (0, 0) _ rfl HZ3.out Tryd.underlying38 rfl zq22) rfl ?_
  exact ⟨_, _, rfl, Kd.R_nil _ _ _ _ _, Kd.R_nil _ _ _ _ _, (below_alloc HB2.out _).trans HB3.out⟩
 | true =>
  rw [if_pos rfl] at HR1
  replace HR1 := Option.bind_eq_some_iff.mp HR1
  obtain ⟨⟨s3, at3⟩, A3, HR1⟩ := HR1
  have B3 := mk0 A3
  have HR := mk0 HR1
  clear A3 HR1
  go_wp2_with fail
  refine (spec_reader_blanks.calls k (w.heap.size + 1) s2 at2 s3 at3 w _ (IsS56.alloc HI2.out _) (below_alloc HB2.out _) B3.out).mono ?_
  rintro e w3 ⟨rfl, hI, hB, hK⟩
  have hL := HL.out
  have hL2 := HL2.out
  have HP3 := mk0 (KeepBut.blk hK (blk_new w2 _) (by omega) (by simp))
  have HZ3 := mk0 (KeepBut.blk hK (blk_alloc HZ2.out _) (by omega) (by simp))
  have HV3' := mk0 (Places_R_keep (Kd.R_alloc HV3.out _) hK HL.out)
  have HV4' := mk0 (Places_R_keep (Kd.R_alloc HV4.out _) hK HL.out)
  have hc1 := cellS56_1 hI.1
  have HB3 := mk0 hB
  have HR1 := HR.out
  clear hI hB hK hL hL2 HR
  by_cases c : at3 = (a0.size : Int)
  rotate_left
  ·rw [if_neg c] at HR1
   have cb : (at3 != (a0.size : Int)) = true := bne_iff_ne.mpr c
   clear c
   simp only [Option.some.injEq, Prod.mk.injEq] at HR1
   obtain ⟨rfl, rfl, rfl, rfl, rfl, rfl⟩ := HR1
   go_wp2_with (((with_reducible refine gate_store (t := 38) (p := 2) rfl ?_); refine box_store (g := w.heap.size) (new := #[.int .i64 0, .int .i64 0, .int .i64 0, .slice none 0 0, .slice none 0 0]) rfl rfl rfl rfl rfl HZ3.out rfl zq22 (by simp [Value.oneCell']) ?_; intro w4 hz4 hk4 hb4; have HZ4 := mk0 hz4; have HB4 := mk0 (hb4 w.heap.size (Nat.le_refl _)); clear hz4 hk4 hb4))
   refine bodyPost_ret (results_ct rfl _ _ w.heap.size 38 #[.int .i64 0, .int .i64 0, .int .i64 0, .slice none 0 0, .slice none 0 0] (0, 0) _ rfl HZ4.out Tryd.underlying38 rfl zq22) rfl ?_
   exact ⟨_, _, rfl, Kd.R_nil _ _ _ _ _, Kd.R_nil _ _ _ _ _, HB3.out.trans HB4.out⟩
  rw [if_pos c] at HR1
  have cb : (at3 != (a0.size : Int)) = false := bne_eq_false_iff_eq.mpr c
  clear c
  simp only [Option.some.injEq, Prod.mk.injEq] at HR1
  obtain ⟨rfl, rfl, rfl, rfl, rfl, rfl⟩ := HR1
  go_wp2_with (first | ((with_reducible refine gate_dst (N := 24) rfl ?_); refine wpList_load_row rfl 38 _ rfl w2.heap.size rfl 38 _ (0, 0) _ HP3.out Tryd.underlying38 rfl zq22 ?_) | ((with_reducible refine gate_store (t := 38) (p := 2) rfl ?_); refine box_store (g := w.heap.size) (new := #[.int .i64 t1, .int .i64 t2, .int .i64 t3, .slice A3 t4.length c3, .slice A4 t5.length c4]) rfl rfl rfl rfl rfl HZ3.out rfl zq22 (by simp [Value.oneCell']) ?_; intro w4 hz4 hk4 hb4; have HZ4 := mk0 hz4; have HK4 := mk0 hk4; have HB4 := mk0 (hb4 w.heap.size (Nat.le_refl _)); clear hz4 hk4 hb4))
  refine bodyPost_ret (results_ct rfl _ _ w.heap.size 38 #[.int .i64 t1, .int .i64 t2, .int .i64 t3, .slice A3 t4.length c3, .slice A4 t5.length c4] (0, 0) _ rfl HZ4.out Tryd.underlying38 rfl zq22) rfl ?_
  have hL := HL.out
  exact ⟨_, _, rfl, Kd.R_lower (Places_R_keep HV3'.out HK4.out (by omega)) (by omega), Kd.R_lower (Places_R_keep HV4'.out HK4.out (by omega)) (by omega), HB3.out.trans HB4.out⟩
def loB (c : Int) : Int := bits .or .u8 c 32
def hxd (c : Int) : Option Int := if 48 ≤ c ∧ c ≤ 57 then some (c - 48) else if 97 ≤ loB c ∧ loB c ≤ 102 then some (loB c - 87) else none
def hxs : Int → List UInt8 → Option Int
  | acc, [] => some acc
  | acc, c :: r => (hxd (c.toNat : Int)).bind fun d => hxs (acc * 16 + d) r
def hxT : Option Int → Value
  | some v => .tuple #[.int .u64 v, .nilIface]
  | none => .tuple #[.int .u64 0, .iface 125 (.int .i64 2)]
theorem lower_calls (c : Int) (w : World) : Calls Tryd.prog 86 #[.int .u8 c] w fun e w' => e = .returned (.int .u8 (loB c)) ∧ w' = w := by
 go_enter Tryd.func86, Tryd.ntmps86
 go_wp2
 go_ret
 exact ⟨rfl, rfl⟩
set_option maxHeartbeats 32000000 in
set_option maxRecDepth 100000 in
theorem pu16 (t : ByteArray) (hsz : t.size = 4) (w : World) :
 Calls Tryd.prog 83 #[.string t, .int .i64 16, .int .i64 16] w fun e w' => e = .returned (hxT (hxs 0 t.data.toList)) ∧ w' = Lib.bytesWorld w 5 t := by
 have hemp : t.toList.isEmpty = false := by
  rw [← decide_eq_emptyBytes]
  exact decide_eq_false (fun h => by rw [h] at hsz; revert hsz; decide)
 have hcv := Lib.run_convert_string_bytes (P := Tryd.prog) w 9 29 5 t (u := .string) Tryd.underlying9 Tryd.underlying29 Tryd.underlying5
 have hB : ∀ j, j < t.size → (Lib.bytesWorld w 5 t).cell? ⟨w.heap.size, j, none⟩ = some (.int .u8 (t.data.toList.getD j 0).toNat) := fun j hj => Lib.bytesWorld_cell w 5 t j hj
 obtain ⟨W1, hW1⟩ : ∃ W1, W1 = Lib.bytesWorld w 5 t := ⟨_, rfl⟩
 rw [← hW1] at hcv hB ⊢
 clear hW1
 obtain ⟨bs, hL⟩ : ∃ bs, bs = t.data.toList := ⟨_, rfl⟩
 have hLn : bs.length = t.size := by rw [hL, Lib.size_eq]
 rw [← hL] at hB ⊢
 clear hL
 go_enter Tryd.func83, Tryd.ntmps83
 go_wp2
 go_loop [12, 13, 101] (fun vu vn vi => ∃ (k : Nat) (a : Int), vu = .bool false ∧ vn = .int .u64 a ∧ vi = .int .i64 k ∧ k ≤ t.size ∧ Hid (0 ≤ a ∧ a < 16 ^ k ∧ hxs 0 bs = hxs a (bs.drop k)))
  (fun _ _ vi => t.size - (intOf vi).toNat)
 case atStart => exact ⟨0, 0, rfl, rfl, rfl, by omega, Lib.hid ⟨by omega, by decide, rfl⟩⟩
 case round =>
  obtain ⟨k, a, rfl, rfl, rfl, hk, hh⟩ := hrel
  obtain ⟨ha, hacc, hdec⟩ := hh.out
  clear hh
  have h4 : k ≤ 4 := by omega
  have hle : a < 65536 := by
   have h1 : (16 : Nat) ^ k ≤ 16 ^ 4 := Nat.pow_le_pow_right zq40 h4
   have h2 : ((16 ^ k : Nat) : Int) ≤ ((16 ^ 4 : Nat) : Int) := by exact_mod_cast h1
   have h3 : (16 : Int) ^ k ≤ 65536 := by simpa using h2
   omega
  by_cases hkn : k < t.size
  rotate_left
  ·have hkk : k = t.size := by omega
   subst hkk
   have hF : hxs a (bs.drop t.size) = some a := by rw [List.drop_eq_nil_of_le (by omega)]; rfl
   rw [hF] at hdec
   clear hF hacc
   go_wp2
   go_ret2
   exact ⟨rfl, rfl⟩
  have hc := hB k hkn
  have hdrop : bs.drop k = bs[k]'(by omega) :: bs.drop (k + 1) := List.drop_eq_getElem_cons (by omega)
  have hget : bs.getD k 0 = bs[k]'(by omega) := by simp [List.getD, List.getElem?_eq_getElem (show k < bs.length by omega)]
  rw [hdrop] at hdec
  rw [hget] at hc
  generalize bs[k]'(by omega) = c at hc hdec
  have hc256 : c.toNat < 256 := c.toNat_lt
  clear hB hdrop hget
  have hle2 : a < 4096 := by
   have h1 : (16 : Nat) ^ k ≤ 16 ^ 3 := Nat.pow_le_pow_right zq40 (by omega)
   have h2 : ((16 ^ k : Nat) : Int) ≤ ((16 ^ 3 : Nat) : Int) := by exact_mod_cast h1
   have h3 : (16 : Int) ^ k ≤ 4096 := by simpa using h2
   omega
  have hv0 : 0 ≤ loB (c.toNat : Int) := bits_lo_u8 .or (c.toNat : Int) 32
  have hv1 : loB (c.toNat : Int) ≤ 255 := by have := bits_hi_u8 .or (c.toNat : Int) 32; unfold loB; omega
  by_cases hdig : 48 ≤ c.toNat ∧ c.toNat ≤ 57
  ·obtain ⟨hd0, hd1⟩ := hdig
   have hF : hxd (c.toNat : Int) = some ((c.toNat : Int) - 48) := by rw [hxd, if_pos (by omega)]
   have HN : Hid (0 ≤ a * 16 + ((c.toNat : Int) - 48) ∧ a * 16 + ((c.toNat : Int) - 48) < 16 ^ (k + 1) ∧ hxs 0 bs = hxs (a * 16 + ((c.toNat : Int) - 48)) (bs.drop (k + 1))) := Lib.hid ⟨by omega, by rw [Int.pow_succ]; omega, by rw [hdec, hxs, hF, Option.bind_some]⟩
   have icut : a < 1152921504606846976 := by omega
   have iov : a * 16 + ((c.toNat : Int) - 48) ≤ 65535 := by omega
   clear hF hdec hacc hv0 hv1
   go_wp2
   refine ⟨⟨k + 1, a * 16 + ((c.toNat : Int) - 48), rfl, zq56, zq56, by omega, HN⟩, by simp [intOf]; omega⟩
  have low : ∀ W, Calls Tryd.prog 86 #[.int .u8 (c.toNat : Int)] W fun e w' => e = .returned (.int .u8 (loB (c.toNat : Int))) ∧ w' = W := fun W => lower_calls _ W
  have hX0 : ∀ v, hxd (c.toNat : Int) = v → hxs 0 bs = v.bind fun d => hxs (a * 16 + d) (bs.drop (k + 1)) := fun v e => by rw [hdec, hxs, e]
  have hY : hxd (c.toNat : Int) = if 97 ≤ loB (c.toNat : Int) ∧ loB (c.toNat : Int) ≤ 102 then some (loB (c.toNat : Int) - 87) else none := by rw [hxd, if_neg (by omega)]
  have hX := hX0 _ hY
  clear hX0 hY hdec
  have h95L : (c.toNat : Int) = 95 → loB (c.toNat : Int) = 127 := fun e => by
   rw [e]
   decide
  generalize loB (c.toNat : Int) = L at hv0 hv1 low hX h95L
  by_cases hlet : 97 ≤ L ∧ L ≤ 122
  rotate_left
  ·rw [if_neg (by omega), Option.bind_none] at hX
   clear hacc
   by_cases h95 : (c.toNat : Int) = 95
   rotate_left
   ·go_wp2_with (go_at_call 86; refine (low _).mono ?_; rintro e w' ⟨rfl, rfl⟩)
    all_goals go_ret2
    all_goals first | exact ⟨rfl, rfl⟩ | exact ⟨by rw [hX]; rfl, rfl⟩
   have hl := h95L h95
   subst hl
   clear h95L
   rw [h95] at low hc
   go_wp2_with (go_at_call 86; refine (low _).mono ?_; rintro e w' ⟨rfl, rfl⟩)
   all_goals go_ret2
   all_goals first | exact ⟨rfl, rfl⟩ | exact ⟨by rw [hX]; rfl, rfl⟩
  obtain ⟨hl0, hl1⟩ := hlet
  have hn95 : ¬ (c.toNat : Int) = 95 := fun e => by
   have := h95L e
   omega
  clear h95L
  by_cases hx : L ≤ 102
  rotate_left
  ·rw [if_neg (by omega), Option.bind_none] at hX
   have hx' : 103 ≤ L := by omega
   clear hacc hx
   go_wp2_with (go_at_call 86; refine (low _).mono ?_; rintro e w' ⟨rfl, rfl⟩)
   all_goals go_ret2
   all_goals first | exact ⟨rfl, rfl⟩ | exact ⟨by rw [hX]; rfl, rfl⟩
  rw [if_pos ⟨hl0, hx⟩, Option.bind_some] at hX
  have HN : Hid (0 ≤ a * 16 + (L - 87) ∧ a * 16 + (L - 87) < 16 ^ (k + 1) ∧ hxs 0 bs = hxs (a * 16 + (L - 87)) (bs.drop (k + 1))) := Lib.hid ⟨by omega, by rw [Int.pow_succ]; omega, hX⟩
  have icut : a < 1152921504606846976 := by omega
  have iov : a * 16 + (L - 87) ≤ 65535 := by omega
  clear hX hacc
  go_wp2_with (go_at_call 86; refine (low _).mono ?_; rintro e w' ⟨rfl, rfl⟩)
  all_goals refine ⟨⟨k + 1, a * 16 + (L - 87), rfl, zq56, zq56, by omega, HN⟩, by simp [intOf]; omega⟩
theorem pub16 (t : ByteArray) (hsz : t.size = 4) (ev : Value) (w : World) (hv : w.cell? ⟨16, 0, none⟩ = some ev) (hev : ev = .nilIface ∨ ∃ te pe, ev = .iface te pe) :
 Calls Tryd.prog 79 #[.string t, .int .i64 16, .int .i64 16] w fun e w' => (∀ v, hxs 0 t.data.toList = some v → e = .returned (.tuple #[.int .u64 v, .nilIface])) ∧ (hxs 0 t.data.toList = none → ∃ N, e = .returned (.tuple #[.int .u64 0, .iface 126 (.pointer (some ⟨N, 0, none⟩))])) ∧ Below w.heap.size w w' := by
 have hG : (16 : Nat) < w.heap.size := Lib.lt_of_cell hv
 have hI := pu16 t hsz w
 have hT : ∀ W, W.cell? ⟨16, 0, none⟩ = some ev → Calls Tryd.prog 84 #[.string ⟨#[80, 97, 114, 115, 101, 85, 105, 110, 116]⟩, .string t, .int .i64 16, .int .i64 16, .iface 125 (.int .i64 2)] W fun e w' => ∃ N, e = .returned (.iface 126 (.pointer (some ⟨N, 0, none⟩))) ∧ Below W.heap.size W w' := fun W hW => by
  refine (show Calls Tryd.prog 84 #[.string ⟨#[80, 97, 114, 115, 101, 85, 105, 110, 116]⟩, .string t, .int .i64 16, .int .i64 16, .iface 125 (.int .i64 2)] W _ from AnyPu.strconv_toError_syntax (ρ := Tryd.laysPu14_ren) { Tryd.laysPu14 with } ⟨#[80, 97, 114, 115, 101, 85, 105, 110, 116]⟩ t 16 16 ev W (by omega) hW hev).mono ?_
  rintro e w' ⟨N, rfl, _, _, hb⟩
  exact ⟨N, rfl, hb⟩
 have hb1 : Below w.heap.size w (Lib.bytesWorld w 5 t) := Lib.bytesWorld_below _ _ _
 have hv1 : (Lib.bytesWorld w 5 t).cell? ⟨16, 0, none⟩ = some ev := (hb1.cell (show (⟨16, 0, none⟩ : Addr).block < w.heap.size from hG)).trans hv
 generalize Lib.bytesWorld w 5 t = W1 at hI hb1 hv1
 cases hx : hxs 0 t.data.toList with
 | some v =>
  rw [hx] at hI
  have hI : Calls Tryd.prog 83 #[.string t, .int .i64 16, .int .i64 16] w fun e w' => e = .returned (.tuple #[.int .u64 v, .nilIface]) ∧ w' = W1 := hI
  clear hT
  go_enter Tryd.func79, Tryd.ntmps79
  go_wp2_with (go_at_call 83; refine hI.mono ?_; rintro e W2 ⟨rfl, rfl⟩)
  go_wp2
  go_ret2
  exact ⟨fun v' e => (by cases e; rfl), fun e => (by cases e), hb1⟩
 | none =>
  rw [hx] at hI
  have hI : Calls Tryd.prog 83 #[.string t, .int .i64 16, .int .i64 16] w fun e w' => e = .returned (.tuple #[.int .u64 0, .iface 125 (.int .i64 2)]) ∧ w' = W1 := hI
  have hT := hT W1 hv1
  go_enter Tryd.func79, Tryd.ntmps79
  go_wp2_with (go_at_call 83; refine hI.mono ?_; rintro e W2 ⟨rfl, rfl⟩)
  go_wp2_with (go_at_call 84; refine hT.mono ?_; rintro e W3 ⟨N, rfl, h3⟩)
  go_wp2
  go_ret2
  exact ⟨fun v' e => (by cases e), fun _ => ⟨N, rfl⟩, hb1.trans (h3.mono hb1.size)⟩
set_option maxHeartbeats 32000000 in
set_option maxRecDepth 100000 in
theorem pu16w (t : ByteArray) (hsz : t.size = 4) (w : World) :
 Calls Tryd.prog 83 #[.string t, .int .i64 16, .int .i64 64] w fun e w' => e = .returned (hxT (hxs 0 t.data.toList)) ∧ w' = Lib.bytesWorld w 5 t := by
 have hmx : IntKind.u64.wrap (IntKind.u64.wrap 18446744073709551616 - 1) = 18446744073709551615 := by decide
 have hemp : t.toList.isEmpty = false := by
  rw [← decide_eq_emptyBytes]
  exact decide_eq_false (fun h => by rw [h] at hsz; revert hsz; decide)
 have hcv := Lib.run_convert_string_bytes (P := Tryd.prog) w 9 29 5 t (u := .string) Tryd.underlying9 Tryd.underlying29 Tryd.underlying5
 have hB : ∀ j, j < t.size → (Lib.bytesWorld w 5 t).cell? ⟨w.heap.size, j, none⟩ = some (.int .u8 (t.data.toList.getD j 0).toNat) := fun j hj => Lib.bytesWorld_cell w 5 t j hj
 obtain ⟨W1, hW1⟩ : ∃ W1, W1 = Lib.bytesWorld w 5 t := ⟨_, rfl⟩
 rw [← hW1] at hcv hB ⊢
 clear hW1
 obtain ⟨bs, hL⟩ : ∃ bs, bs = t.data.toList := ⟨_, rfl⟩
 have hLn : bs.length = t.size := by rw [hL, Lib.size_eq]
 rw [← hL] at hB ⊢
 clear hL
 go_enter Tryd.func83, Tryd.ntmps83
 go_wp2
 go_loop [12, 13, 101] (fun vu vn vi => ∃ (k : Nat) (a : Int), vu = .bool false ∧ vn = .int .u64 a ∧ vi = .int .i64 k ∧ k ≤ t.size ∧ Hid (0 ≤ a ∧ a < 16 ^ k ∧ hxs 0 bs = hxs a (bs.drop k)))
  (fun _ _ vi => t.size - (intOf vi).toNat)
 case atStart => exact ⟨0, 0, rfl, rfl, rfl, by omega, Lib.hid ⟨by omega, by decide, rfl⟩⟩
 case round =>
  obtain ⟨k, a, rfl, rfl, rfl, hk, hh⟩ := hrel
  obtain ⟨ha, hacc, hdec⟩ := hh.out
  clear hh
  have h4 : k ≤ 4 := by omega
  have hle : a < 65536 := by
   have h1 : (16 : Nat) ^ k ≤ 16 ^ 4 := Nat.pow_le_pow_right zq40 h4
   have h2 : ((16 ^ k : Nat) : Int) ≤ ((16 ^ 4 : Nat) : Int) := by exact_mod_cast h1
   have h3 : (16 : Int) ^ k ≤ 65536 := by simpa using h2
   omega
  by_cases hkn : k < t.size
  rotate_left
  ·have hkk : k = t.size := by omega
   subst hkk
   have hF : hxs a (bs.drop t.size) = some a := by rw [List.drop_eq_nil_of_le (by omega)]; rfl
   rw [hF] at hdec
   clear hF hacc
   go_wp2
   go_ret2
   exact ⟨rfl, rfl⟩
  have hc := hB k hkn
  have hdrop : bs.drop k = bs[k]'(by omega) :: bs.drop (k + 1) := List.drop_eq_getElem_cons (by omega)
  have hget : bs.getD k 0 = bs[k]'(by omega) := by simp [List.getD, List.getElem?_eq_getElem (show k < bs.length by omega)]
  rw [hdrop] at hdec
  rw [hget] at hc
  generalize bs[k]'(by omega) = c at hc hdec
  have hc256 : c.toNat < 256 := c.toNat_lt
  clear hB hdrop hget
  have hle2 : a < 4096 := by
   have h1 : (16 : Nat) ^ k ≤ 16 ^ 3 := Nat.pow_le_pow_right zq40 (by omega)
   have h2 : ((16 ^ k : Nat) : Int) ≤ ((16 ^ 3 : Nat) : Int) := by exact_mod_cast h1
   have h3 : (16 : Int) ^ k ≤ 4096 := by simpa using h2
   omega
  have hv0 : 0 ≤ loB (c.toNat : Int) := bits_lo_u8 .or (c.toNat : Int) 32
  have hv1 : loB (c.toNat : Int) ≤ 255 := by have := bits_hi_u8 .or (c.toNat : Int) 32; unfold loB; omega
  by_cases hdig : 48 ≤ c.toNat ∧ c.toNat ≤ 57
  ·obtain ⟨hd0, hd1⟩ := hdig
   have hF : hxd (c.toNat : Int) = some ((c.toNat : Int) - 48) := by rw [hxd, if_pos (by omega)]
   have HN : Hid (0 ≤ a * 16 + ((c.toNat : Int) - 48) ∧ a * 16 + ((c.toNat : Int) - 48) < 16 ^ (k + 1) ∧ hxs 0 bs = hxs (a * 16 + ((c.toNat : Int) - 48)) (bs.drop (k + 1))) := Lib.hid ⟨by omega, by rw [Int.pow_succ]; omega, by rw [hdec, hxs, hF, Option.bind_some]⟩
   have icut : a < 1152921504606846976 := by omega
   have iov : a * 16 + ((c.toNat : Int) - 48) ≤ 65535 := by omega
   have iow : a * 16 + ((c.toNat : Int) - 48) ≤ 18446744073709551615 := by omega
   clear hF hdec hacc hv0 hv1
   go_wp2
   refine ⟨⟨k + 1, a * 16 + ((c.toNat : Int) - 48), rfl, zq56, zq56, by omega, HN⟩, by simp [intOf]; omega⟩
  have low : ∀ W, Calls Tryd.prog 86 #[.int .u8 (c.toNat : Int)] W fun e w' => e = .returned (.int .u8 (loB (c.toNat : Int))) ∧ w' = W := fun W => lower_calls _ W
  have hX0 : ∀ v, hxd (c.toNat : Int) = v → hxs 0 bs = v.bind fun d => hxs (a * 16 + d) (bs.drop (k + 1)) := fun v e => by rw [hdec, hxs, e]
  have hY : hxd (c.toNat : Int) = if 97 ≤ loB (c.toNat : Int) ∧ loB (c.toNat : Int) ≤ 102 then some (loB (c.toNat : Int) - 87) else none := by rw [hxd, if_neg (by omega)]
  have hX := hX0 _ hY
  clear hX0 hY hdec
  have h95L : (c.toNat : Int) = 95 → loB (c.toNat : Int) = 127 := fun e => by
   rw [e]
   decide
  generalize loB (c.toNat : Int) = L at hv0 hv1 low hX h95L
  by_cases hlet : 97 ≤ L ∧ L ≤ 122
  rotate_left
  ·rw [if_neg (by omega), Option.bind_none] at hX
   clear hacc
   by_cases h95 : (c.toNat : Int) = 95
   rotate_left
   ·go_wp2_with (go_at_call 86; refine (low _).mono ?_; rintro e w' ⟨rfl, rfl⟩)
    all_goals go_ret2
    all_goals first | exact ⟨rfl, rfl⟩ | exact ⟨by rw [hX]; rfl, rfl⟩
   have hl := h95L h95
   subst hl
   clear h95L
   rw [h95] at low hc
   go_wp2_with (go_at_call 86; refine (low _).mono ?_; rintro e w' ⟨rfl, rfl⟩)
   all_goals go_ret2
   all_goals first | exact ⟨rfl, rfl⟩ | exact ⟨by rw [hX]; rfl, rfl⟩
  obtain ⟨hl0, hl1⟩ := hlet
  have hn95 : ¬ (c.toNat : Int) = 95 := fun e => by
   have := h95L e
   omega
  clear h95L
  by_cases hx : L ≤ 102
  rotate_left
  ·rw [if_neg (by omega), Option.bind_none] at hX
   have hx' : 103 ≤ L := by omega
   clear hacc hx
   go_wp2_with (go_at_call 86; refine (low _).mono ?_; rintro e w' ⟨rfl, rfl⟩)
   all_goals go_ret2
   all_goals first | exact ⟨rfl, rfl⟩ | exact ⟨by rw [hX]; rfl, rfl⟩
  rw [if_pos ⟨hl0, hx⟩, Option.bind_some] at hX
  have HN : Hid (0 ≤ a * 16 + (L - 87) ∧ a * 16 + (L - 87) < 16 ^ (k + 1) ∧ hxs 0 bs = hxs (a * 16 + (L - 87)) (bs.drop (k + 1))) := Lib.hid ⟨by omega, by rw [Int.pow_succ]; omega, hX⟩
  have icut : a < 1152921504606846976 := by omega
  have iov : a * 16 + (L - 87) ≤ 65535 := by omega
  have iow : a * 16 + (L - 87) ≤ 18446744073709551615 := by omega
  clear hX hacc
  go_wp2_with (go_at_call 86; refine (low _).mono ?_; rintro e w' ⟨rfl, rfl⟩)
  all_goals refine ⟨⟨k + 1, a * 16 + (L - 87), rfl, zq56, zq56, by omega, HN⟩, by simp [intOf]; omega⟩
set_option maxRecDepth 100000 in
theorem pub16w (t : ByteArray) (hsz : t.size = 4) (ev : Value) (w : World) (hv : w.cell? ⟨16, 0, none⟩ = some ev) (hev : ev = .nilIface ∨ ∃ te pe, ev = .iface te pe) :
 Calls Tryd.prog 79 #[.string t, .int .i64 16, .int .i64 64] w fun e w' => (∀ v, hxs 0 t.data.toList = some v → e = .returned (.tuple #[.int .u64 v, .nilIface])) ∧ (hxs 0 t.data.toList = none → ∃ N, e = .returned (.tuple #[.int .u64 0, .iface 126 (.pointer (some ⟨N, 0, none⟩))])) ∧ Below w.heap.size w w' := by
 have hG : (16 : Nat) < w.heap.size := Lib.lt_of_cell hv
 have hI := pu16w t hsz w
 have hT : ∀ W, W.cell? ⟨16, 0, none⟩ = some ev → Calls Tryd.prog 84 #[.string ⟨#[80, 97, 114, 115, 101, 85, 105, 110, 116]⟩, .string t, .int .i64 16, .int .i64 64, .iface 125 (.int .i64 2)] W fun e w' => ∃ N, e = .returned (.iface 126 (.pointer (some ⟨N, 0, none⟩))) ∧ Below W.heap.size W w' := fun W hW => by
  refine (show Calls Tryd.prog 84 #[.string ⟨#[80, 97, 114, 115, 101, 85, 105, 110, 116]⟩, .string t, .int .i64 16, .int .i64 64, .iface 125 (.int .i64 2)] W _ from AnyPu.strconv_toError_syntax (ρ := Tryd.laysPu14_ren) { Tryd.laysPu14 with } ⟨#[80, 97, 114, 115, 101, 85, 105, 110, 116]⟩ t 16 64 ev W (by omega) hW hev).mono ?_
  rintro e w' ⟨N, rfl, _, _, hb⟩
  exact ⟨N, rfl, hb⟩
 have hb1 : Below w.heap.size w (Lib.bytesWorld w 5 t) := Lib.bytesWorld_below _ _ _
 have hv1 : (Lib.bytesWorld w 5 t).cell? ⟨16, 0, none⟩ = some ev := (hb1.cell (show (⟨16, 0, none⟩ : Addr).block < w.heap.size from hG)).trans hv
 generalize Lib.bytesWorld w 5 t = W1 at hI hb1 hv1
 cases hx : hxs 0 t.data.toList with
 | some v =>
  rw [hx] at hI
  have hI : Calls Tryd.prog 83 #[.string t, .int .i64 16, .int .i64 64] w fun e w' => e = .returned (.tuple #[.int .u64 v, .nilIface]) ∧ w' = W1 := hI
  clear hT
  go_enter Tryd.func79, Tryd.ntmps79
  go_wp2_with (go_at_call 83; refine hI.mono ?_; rintro e W2 ⟨rfl, rfl⟩)
  go_wp2
  go_ret2
  exact ⟨fun v' e => (by cases e; rfl), fun e => (by cases e), hb1⟩
 | none =>
  rw [hx] at hI
  have hI : Calls Tryd.prog 83 #[.string t, .int .i64 16, .int .i64 64] w fun e w' => e = .returned (.tuple #[.int .u64 0, .iface 125 (.int .i64 2)]) ∧ w' = W1 := hI
  have hT := hT W1 hv1
  go_enter Tryd.func79, Tryd.ntmps79
  go_wp2_with (go_at_call 83; refine hI.mono ?_; rintro e W2 ⟨rfl, rfl⟩)
  go_wp2_with (go_at_call 84; refine hT.mono ?_; rintro e W3 ⟨N, rfl, h3⟩)
  go_wp2
  go_ret2
  exact ⟨fun v' e => (by cases e), fun _ => ⟨N, rfl⟩, hb1.trans (h3.mono hb1.size)⟩
def strconv_ParseUint_79.f (a0 : ByteArray) (a1 a2 : Int) : Option (Int × Option Int) :=
  if a1 = 10 ∧ a2 = 64 ∧ a0.size ≤ 281474976710656 then some (match Lib.parseUintB 64 a0.data.toList with | .ok u => ((u : Int), none) | .range => (18446744073709551615, some 0) | _ => (0, some 0))
  else if a1 = 16 ∧ a2 = 16 ∧ a0.size = 4 then some (match hxs 0 a0.data.toList with | some v => (v, none) | none => (0, some 0))
  else if a1 = 16 ∧ a2 = 64 ∧ a0.size = 4 then some (match hxs 0 a0.data.toList with | some v => (v, none) | none => (0, some 0)) else none
theorem strconv_ParseUint_79.calls (a0 : ByteArray) (a1 a2 : Int) (r1 : Int) (r2 : Option Int) (w : World) (hG : Laid w) (h : strconv_ParseUint_79.f a0 a1 a2 = some (r1, r2)) :
 Calls Tryd.prog 79 #[.string a0, .int .i64 a1, .int .i64 a2] w fun e w' => ∃ z_r2 : Option Int, Zk z_r2 r2 ∧ e = .returned (.tuple #[.int .u64 r1, errW z_r2]) ∧ Below w.heap.size w w' := by
 simp only [strconv_ParseUint_79.f] at h
 split at h
 case isFalse =>
  split at h
  case isFalse =>
   split at h
   case isFalse => cases h
   case isTrue hc =>
   obtain ⟨rfl, rfl, hs⟩ := hc
   obtain ⟨te, pe, hes⟩ := hG.errS
   refine (pub16w a0 hs _ w hes (Or.inr ⟨_, _, rfl⟩)).mono ?_
   rintro e w' ⟨h1, h2, hb⟩
   cases hx : hxs 0 a0.data.toList with
   | some v =>
    rw [hx] at h
    cases h
    exact ⟨none, rfl, h1 _ hx, hb⟩
   | none =>
    rw [hx] at h
    cases h
    obtain ⟨N, rfl⟩ := h2 hx
    obtain ⟨z, hz, e⟩ := errW_mk 126 N zq40
    exact ⟨z, hz, by rw [← e], hb⟩
  case isTrue hc =>
  obtain ⟨rfl, rfl, hs⟩ := hc
  obtain ⟨te, pe, hes⟩ := hG.errS
  refine (pub16 a0 hs _ w hes (Or.inr ⟨_, _, rfl⟩)).mono ?_
  rintro e w' ⟨h1, h2, hb⟩
  cases hx : hxs 0 a0.data.toList with
  | some v =>
   rw [hx] at h
   cases h
   exact ⟨none, rfl, h1 _ hx, hb⟩
  | none =>
   rw [hx] at h
   cases h
   obtain ⟨N, rfl⟩ := h2 hx
   obtain ⟨z, hz, e⟩ := errW_mk 126 N zq40
   exact ⟨z, hz, by rw [← e], hb⟩
 case isTrue hc =>
 obtain ⟨rfl, rfl, hs⟩ := hc
 obtain ⟨te, pe, hes⟩ := hG.errS
 obtain ⟨te', pe', her⟩ := hG.errR
 cases hp : Lib.parseUintB 64 a0.data.toList with
 | ok u =>
  rw [hp] at h
  cases h
  refine (Tryd.strconv_ParseUint_10_at64_ok a0 (by omega) u hp w).mono ?_
  rintro e w' ⟨rfl, hw⟩
  refine ⟨none, rfl, rfl, ?_⟩
  rcases hw with rfl | rfl
  ·exact Below.refl _ _
  exact Lib.bytesWorld_below _ _ _
 | range =>
  rw [hp] at h
  cases h
  refine (Tryd.strconv_ParseUint_10_at64_range a0 hs hp _ w her (Or.inr ⟨_, _, rfl⟩)).mono ?_
  rintro e w' ⟨N, rfl, _, _, hb⟩
  obtain ⟨z, hz, e⟩ := errW_mk 126 N zq40
  exact ⟨z, hz, by rw [← e], hb⟩
 | _ =>
  rw [hp] at h
  cases h
  refine (Tryd.strconv_ParseUint_10_at64_syntax a0 hs hp _ w hes (Or.inr ⟨_, _, rfl⟩)).mono ?_
  rintro e w' ⟨N, rfl, _, _, hb⟩
  obtain ⟨z, hz, e⟩ := errW_mk 126 N zq40
  exact ⟨z, hz, by rw [← e], hb⟩
def gjson_runeit.f (a0 : ByteArray) : Option (Int) := if 0 ≤ 4 then (if 4 ≤ (a0.size : Int) then ((strconv_ParseUint_79.f (a0.extract 0 4) 16 64).bind fun bt101 => (some (wrap32 (bt101.1)))) else (none)) else (none)
set_option maxHeartbeats 8000000 in
set_option maxRecDepth 100000 in
theorem gjson_runeit.calls (a0 : ByteArray) (r : Int) (w : World) (hG : Laid w) (h : gjson_runeit.f a0 = some r) :
 Calls Tryd.prog 71 #[.string a0] w fun e w' => e = .returned (.int .i32 r) ∧ Below w.heap.size w w' := by
 have HG := mk0 hG
 clear hG
 have HB := mk0 (Below.refl w.heap.size w)
 have H : (if 0 ≤ 4 then (if 4 ≤ (a0.size : Int) then ((strconv_ParseUint_79.f (a0.extract 0 4) 16 64).bind fun bt101 => (some (wrap32 (bt101.1)))) else (none)) else (none)) = some r := h
 clear h
 by_cases c2 : 0 ≤ 4
 rotate_left
 ·rw [if_neg c2] at H
  exact absurd H (by simp)
 rw [if_pos c2] at H
 have c2b0 := eq_true c2
 have c2b1 : decide (0 ≤ 4) = true := decide_eq_true c2
 clear c2
 by_cases c3 : 4 ≤ (a0.size : Int)
 rotate_left
 ·rw [if_neg c3] at H
  exact absurd H (by simp)
 rw [if_pos c3] at H
 have c3b0 := eq_true c3
 have c3b1 : decide (4 ≤ (a0.size : Int)) = true := decide_eq_true c3
 clear c3
 replace H := Option.bind_eq_some_iff.mp H
 obtain ⟨⟨t101, t102⟩, A40, H⟩ := H
 replace H : (some (wrap32 (t101))) = some r := H
 have A4 := mk0 A40
 clear A40
 obtain rfl := Option.some.inj H
 go_enter Tryd.func71, Tryd.ntmps71
 go_wp2_with (first | ((with_reducible refine gate_callee (f := 79) rfl ?_); refine goesL_ (some 8) rfl rfl Tryd.func79 zq22 rfl #[.string (a0.extract 0 4), .int .i64 16, .int .i64 64] rfl zq2 ?_; (with_reducible refine (strconv_ParseUint_79.calls (a0.extract 0 4) 16 64 t101 t102 _ ?side1 A4.out).mono ?_); (case side1 => exact zq48); rintro e w5 ⟨z_t102, hz_t102, rfl, hb⟩; have Hz_t102 := mk0 hz_t102; clear hz_t102; refine ⟨_, rfl, ?_⟩; have n0_ := mk0 (below_step zq10 hb); clear HB; have HB := n0_; clear n0_; (try clear hb); (try clear hb2); (try clear hk); (try clear hi); (try simp only [errW_none, errW_some])))
 go_ret
 exact ⟨by first | rfl | (simp [errW_none, errW_some] <;> rfl) | (simp [*, errW_none, errW_some] <;> rfl), by repeat (first | (with_reducible first | exact HB.out | apply below_alloc | apply pw_below_drewN | apply below_drew1) | exact HB.out)⟩
def utf16_IsSurrogate.f (a0 : Int) : Option (Bool) := if 55296 ≤ a0 then (some (decide (a0 < 57344))) else (some false)
set_option maxHeartbeats 8000000 in
set_option maxRecDepth 100000 in
theorem utf16_IsSurrogate.calls (a0 : Int) (r : Bool) (w : World) (h : utf16_IsSurrogate.f a0 = some r) :
 Calls Tryd.prog 72 #[.int .i32 a0] w fun e w' => e = .returned (.bool r) ∧ Drawn0 w w' := by
 have H : (if 55296 ≤ a0 then (some (decide (a0 < 57344))) else (some false)) = some r := h
 clear h
 by_cases c2 : 55296 ≤ a0
 ·rw [if_pos c2] at H
  have c2b0 : decide (55296 ≤ a0) = true := decide_eq_true c2
  clear c2
  obtain rfl := Option.some.inj H
  go_enter Tryd.func72, Tryd.ntmps72
  go_wp2
  go_ret
  exact ⟨by first | rfl | (simp; done) | (simp [*]; done), by repeat (first | exact Drawn0.refl _ | apply Drawn0.step)⟩
 rw [if_neg c2] at H
 have c2b0 : decide (55296 ≤ a0) = false := decide_eq_false c2
 clear c2
 obtain rfl := Option.some.inj H
 go_enter Tryd.func72, Tryd.ntmps72
 go_wp2
 go_ret
 exact ⟨by first | rfl | (simp; done) | (simp [*]; done), by repeat (first | exact Drawn0.refl _ | apply Drawn0.step)⟩
def utf16_DecodeRune.f (a0 : Int) (a1 : Int) : Option (Int) := if 55296 ≤ a0 then (if a0 < 56320 then (if 56320 ≤ a1 then (if a1 < 57344 then (some (wrap32 ((Go.bits .or .i32 (wrap32 ((wrap32 (a0 - 55296)) * 1024)) (wrap32 (a1 - 56320))) + 65536))) else (some 65533)) else (some 65533)) else (some 65533)) else (some 65533)
set_option maxHeartbeats 8000000 in
set_option maxRecDepth 100000 in
theorem utf16_DecodeRune.calls (a0 : Int) (a1 : Int) (r : Int) (w : World) (h : utf16_DecodeRune.f a0 a1 = some r) :
 Calls Tryd.prog 73 #[.int .i32 a0, .int .i32 a1] w fun e w' => e = .returned (.int .i32 r) ∧ Drawn0 w w' := by
 have H : (if 55296 ≤ a0 then (if a0 < 56320 then (if 56320 ≤ a1 then (if a1 < 57344 then (some (wrap32 ((Go.bits .or .i32 (wrap32 ((wrap32 (a0 - 55296)) * 1024)) (wrap32 (a1 - 56320))) + 65536))) else (some 65533)) else (some 65533)) else (some 65533)) else (some 65533)) = some r := h
 clear h
 by_cases c3 : 55296 ≤ a0
 rotate_left
 ·rw [if_neg c3] at H
  have c3b0 : decide (55296 ≤ a0) = false := decide_eq_false c3
  clear c3
  obtain rfl := Option.some.inj H
  go_enter Tryd.func73, Tryd.ntmps73
  go_wp2
  go_ret
  exact ⟨by first | rfl | (simp; done) | (simp [*]; done), by repeat (first | exact Drawn0.refl _ | apply Drawn0.step)⟩
 rw [if_pos c3] at H
 have c3b0 : decide (55296 ≤ a0) = true := decide_eq_true c3
 clear c3
 by_cases c4 : a0 < 56320
 rotate_left
 ·rw [if_neg c4] at H
  have c4b0 : decide (a0 < 56320) = false := decide_eq_false c4
  clear c4
  obtain rfl := Option.some.inj H
  go_enter Tryd.func73, Tryd.ntmps73
  go_wp2
  go_ret
  exact ⟨by first | rfl | (simp; done) | (simp [*]; done), by repeat (first | exact Drawn0.refl _ | apply Drawn0.step)⟩
 rw [if_pos c4] at H
 have c4b0 : decide (a0 < 56320) = true := decide_eq_true c4
 clear c4
 by_cases c5 : 56320 ≤ a1
 rotate_left
 ·rw [if_neg c5] at H
  have c5b0 : decide (56320 ≤ a1) = false := decide_eq_false c5
  clear c5
  obtain rfl := Option.some.inj H
  go_enter Tryd.func73, Tryd.ntmps73
  go_wp2
  go_ret
  exact ⟨by first | rfl | (simp; done) | (simp [*]; done), by repeat (first | exact Drawn0.refl _ | apply Drawn0.step)⟩
 rw [if_pos c5] at H
 have c5b0 : decide (56320 ≤ a1) = true := decide_eq_true c5
 clear c5
 by_cases c6 : a1 < 57344
 ·rw [if_pos c6] at H
  have c6b0 : decide (a1 < 57344) = true := decide_eq_true c6
  clear c6
  obtain rfl := Option.some.inj H
  go_enter Tryd.func73, Tryd.ntmps73
  go_wp2
  go_ret
  exact ⟨by first | rfl | (simp; done) | (simp [*]; done), by repeat (first | exact Drawn0.refl _ | apply Drawn0.step)⟩
 rw [if_neg c6] at H
 have c6b0 : decide (a1 < 57344) = false := decide_eq_false c6
 clear c6
 obtain rfl := Option.some.inj H
 go_enter Tryd.func73, Tryd.ntmps73
 go_wp2
 go_ret
 exact ⟨by first | rfl | (simp; done) | (simp [*]; done), by repeat (first | exact Drawn0.refl _ | apply Drawn0.step)⟩
def eB (r : Int) : List Int :=
  if r < 128 then [r]
  else if r < 2048 then [192 + r / 64, 128 + r % 64]
  else if 55296 ≤ r ∧ r ≤ 57343 then [239, 191, 189]
  else if r < 65536 then [224 + r / 4096, 128 + r / 64 % 64, 128 + r % 64]
  else [240 + r / 262144, 128 + r / 4096 % 64, 128 + r / 64 % 64, 128 + r % 64]
theorem eB_len (r : Int) : 1 ≤ (eB r).length ∧ (eB r).length ≤ 4 := by
 unfold eB
 split
 ·simp
 split
 ·simp
 split
 ·simp
 split <;> simp
def setB (w : World) (g : Nat) : Nat → List Int → World
  | _, [] => w
  | o, b :: r => setB (w.setCell ⟨g, o, none⟩ (.int .u8 b)) g (o + 1) r
def EncPost (g off : Nat) (r : Int) (w : World) (e : Ending) (w' : World) : Prop := e = .returned (.int .i64 ((eB r).length : Int)) ∧ w' = setB w g off (eB r)
set_option maxHeartbeats 4000000 in
set_option maxRecDepth 100000 in
theorem encNon_at (g off n c : Nat) (r : Int) (w : World) (hr0 : 128 ≤ r) (hr1 : r ≤ 1114111) (hn : 4 ≤ n) (hn2 : n ≤ 9223372036854775807)
 (b0 b1 b2 b3 : Int) (h0 : w.cell? ⟨g, off, none⟩ = some (.int .u8 b0)) (h1 : w.cell? ⟨g, off + 1, none⟩ = some (.int .u8 b1)) (h2 : w.cell? ⟨g, off + 2, none⟩ = some (.int .u8 b2)) (h3 : w.cell? ⟨g, off + 3, none⟩ = some (.int .u8 b3))
 (f0 : w.frozen? ⟨g, off, none⟩ = false) (f1 : w.frozen? ⟨g, off + 1, none⟩ = false) (f2 : w.frozen? ⟨g, off + 2, none⟩ = false) (f3 : w.frozen? ⟨g, off + 3, none⟩ = false) :
 Calls Tryd.prog 63 #[.slice (some ⟨g, off, none⟩) n c, .int .i32 r] w (EncPost g off r w) := by
 have hu : (r % 4294967296) = r := by omega
 go_enter Tryd.func63, Tryd.ntmps63
 go_wp2
 all_goals
  go_ret
  unfold EncPost eB
  first
  | (rw [if_neg (by omega), if_pos (by omega)]; exact ⟨rfl, rfl⟩)
  | (rw [if_neg (by omega), if_neg (by omega), if_pos (by omega)]; exact ⟨rfl, rfl⟩)
  | (rw [if_neg (by omega), if_neg (by omega), if_neg (by omega), if_pos (by omega)]; exact ⟨rfl, rfl⟩)
  | (rw [if_neg (by omega), if_neg (by omega), if_neg (by omega), if_neg (by omega)]; exact ⟨rfl, rfl⟩)
set_option maxHeartbeats 4000000 in
set_option maxRecDepth 100000 in
theorem enc_at (g off n c : Nat) (r : Int) (w : World) (hr0 : 0 ≤ r) (hr1 : r ≤ 1114111) (hn : 4 ≤ n) (hn2 : n ≤ 9223372036854775807)
 (b0 b1 b2 b3 : Int) (h0 : w.cell? ⟨g, off, none⟩ = some (.int .u8 b0)) (h1 : w.cell? ⟨g, off + 1, none⟩ = some (.int .u8 b1)) (h2 : w.cell? ⟨g, off + 2, none⟩ = some (.int .u8 b2)) (h3 : w.cell? ⟨g, off + 3, none⟩ = some (.int .u8 b3))
 (f0 : w.frozen? ⟨g, off, none⟩ = false) (f1 : w.frozen? ⟨g, off + 1, none⟩ = false) (f2 : w.frozen? ⟨g, off + 2, none⟩ = false) (f3 : w.frozen? ⟨g, off + 3, none⟩ = false) :
 Calls Tryd.prog 40 #[.slice (some ⟨g, off, none⟩) n c, .int .i32 r] w (EncPost g off r w) := by
 by_cases hc : r < 128
 ·go_enter Tryd.func40, Tryd.ntmps40
  go_wp2
  go_ret
  unfold EncPost eB
  rw [if_pos hc]
  exact ⟨rfl, rfl⟩
 have hc1 : 127 < r := by omega
 have hc2 : 127 < r % 4294967296 := by omega
 go_enter Tryd.func40, Tryd.ntmps40
 go_wp2_with (go_at_call 63; (with_reducible refine (encNon_at g off n c r w (by omega) hr1 hn hn2 b0 b1 b2 b3 h0 h1 h2 h3 f0 f1 f2 f3).mono ?_); rintro e w' ⟨rfl, rfl⟩)
 go_ret
 exact ⟨rfl, rfl⟩
theorem R_append_lits {P : Program} {ops : Array Oper} {rest : List Oper} {o : Oper} {a : Act} {Q : Exit → Act → World → Prop} {w0 W : World} (base : Nat) (hgd : o.guard = none) (s x : Operand) (t e : TypeId) (k : IntKind) (bytes : Nat)
 (ho : o.op = .call { callee := .builtin .append, args := #[s, x], argTypes := #[t, t] })
 (ht : P.underlying t = some (.slice e)) (hinfo : (P.info? e).map (fun i => (i.zero, i.size, i.bytes)) = some (some (.int k 0), 1, bytes)) (hb0 : 0 < bytes)
 (v : Value) (xs ys : List Int) (cs : Array Value) (m : Nat) (hcs : cs.toList = nums k ys) (hm : m = ys.length) (ok : Nat → Prop) (hs : a.eval s = v) (hx : a.eval x = .slice (some ⟨W.heap.size, 0, none⟩) m m) (hok : ∀ k_, W.heap.size ≤ k_ → ok k_)
 (HO : Kd.R (Kd.int k) e W base ok v xs) (HB : Below base w0 W) (hbase : base ≤ W.heap.size) (hl : (xs.length + ys.length) * bytes ≤ 140737488355328)
 (h : ∀ v1 w1, Kd.R (Kd.int k) e w1 base ok v1 (xs ++ ys) → Below base w0 w1 → W.grownBy w1 v.ownBlock → (v1.ownBlock = v.ownBlock ∨ ∃ b, v1.ownBlock = some b ∧ W.heap.size ≤ b) → wpList P ops Q rest (a.put o.dst v1) w1) :
 wpList P ops Q (o :: rest) a (W.alloc (.cells cs e)) := by
 obtain ⟨i0, hi, hzz⟩ := Option.map_eq_some_iff.1 hinfo
 simp only [Prod.mk.injEq] at hzz
 obtain ⟨hz0, hz1, hz2⟩ := hzz
 have HOw := Kd.own_of_R HO
 have hok0 := HO.1
 have hlen : xs.length + ys.length ≤ 140737488355328 := Nat.le_trans (Nat.le_mul_of_pos_right _ hb0) hl
 have hle : (encs (Value.int k) xs).length = xs.length := by simp [encs]
 have hcl : cs.toList.length = m := by rw [hcs, hm]; simp [nums]
 refine wpList_append_own_at (W.alloc (.cells cs e)) hgd s x t ho base e i0 (.int k 0) 1 bytes ht hi hz0 hz1 hz2 rfl (by omega) v xs.length (encs (Value.int k) xs) hs (HOw.alloc _) ⟨W.heap.size, 0, none⟩ m m cs.toList hx (by rw [hcl]; omega)
  (World.news_of_block (cs := cs) (t := e) (fr := (0, 0)) (heap_alloc_new W _)) (by rw [hcs]; intro u hu; simp only [nums, List.mem_map] at hu; obtain ⟨q, _, rfl⟩ := hu; rfl) (by simp only [maxLen]; omega) (by rw [hm]; exact hl) (by simp; omega) ?_
 intro v1 w1 hown hg _ hat
 have e1 : encs (Value.int k) xs ++ cs.toList = encs (Value.int k) (xs ++ ys) := by rw [encs_append, hcs]; rfl
 have hat' : v1.ownBlock = v.ownBlock ∨ ∃ b, v1.ownBlock = some b ∧ W.heap.size ≤ b := by
  rcases hat with hat | hat
  ·exact .inl hat
  exact .inr ⟨_, hat, by simp⟩
 refine h v1 w1 (Kd.R_of_own (by rw [List.length_append, ← hm, ← e1]; exact hown) fun q hq => ?_) ((HB.alloc hbase _).grown hg (by simp; omega) (own_base HOw)) (World.grownBy.trans (World.grownBy_alloc W _ _) hg) hat'
 rcases hat' with hat' | ⟨b, hat', hb⟩
 ·exact hok0 q (hat'.symm.trans hq)
 ·rw [hat'] at hq
  cases hq
  exact hok _ hb
theorem R_make0 {P : Program} {ops : Array Oper} {rest : List Oper} {o : Oper} {a : Act} {Q : Exit → Act → World → Prop} {w0 W : World} (base : Nat) (hgd : o.guard = none) (t e : TypeId) (x y : Operand) (ho : o.op = .makeSlice t x y) (k : IntKind) (bytes n : Nat) (ok : Nat → Prop)
 (hx : a.eval x = .int .i64 0) (hy : a.eval y = .int .i64 (n : Int)) (ht : P.underlying t = some (.slice e)) (hinfo : (P.info? e).map (fun i => (i.zero, i.size, i.bytes)) = some (some (.int k 0), 1, bytes))
 (hok : ∀ k_, W.heap.size ≤ k_ → ok k_) (hl : bytes * n ≤ 281474976710656) (hl2 : n ≤ 9223372036854775807) (HB : Below base w0 W) (hbase : base ≤ W.heap.size)
 (h : ∀ v1 w1, Kd.R (Kd.int k) e w1 base ok v1 [] → Below base w0 w1 → W.grownBy w1 none → (∃ b, v1.ownBlock = some b ∧ W.heap.size ≤ b) → wpList P ops Q rest (a.put o.dst v1) w1) : wpList P ops Q (o :: rest) a W := by
 obtain ⟨i0, hi, hzz⟩ := Option.map_eq_some_iff.1 hinfo
 simp only [Prod.mk.injEq] at hzz
 obtain ⟨hz0, hz1, hz2⟩ := hzz
 obtain ⟨w', hr, hown, hg⟩ := run_make_own (P := P) W base t e i0 (.int k 0) 1 ht hi hz0 hz1 .i64 .i64 n (by rw [hz2]; exact hl) (by simpa [maxLen] using hl2) hbase
 refine Kd.event_run hgd (by simp only [execOp, ho, hx, hy]; rw [Sem.run_bind, hr]; rfl) (h _ _ (Kd.R_of_own (by simpa [encs] using hown) fun q hq => ?_) (HB.grown hg hbase (fun q hq => by simp at hq)) hg ⟨W.heap.size, by simp [Value.ownBlock], Nat.le_refl _⟩)
 have : W.heap.size = q := by simpa [Value.ownBlock] using hq
 exact hok q (by omega)
def gU (l : List Int) : Option (List Int) :=
  match l with
  | [] => some []
  | [c] => if c = 92 ∨ c < 32 then none else some [c]
  | c :: d :: r => if c = 92 then
      (if J.isE d = true then (gU r).map (J.unl d :: ·)
       else if d = 117 then (match J.hex4 r with
         | none => none
         | some v => if 55296 ≤ v ∧ v < 57344 then (match J.unitL (r.drop 4) with
             | none => none
             | some u => if v < 56320 ∧ 56320 ≤ u ∧ u < 57344 then (gU (r.drop 10)).map (eB (65536 + (v - 55296) * 1024 + (u - 56320)) ++ ·) else none)
           else (gU (r.drop 4)).map (eB v ++ ·))
       else none)
    else if c < 32 then none else (gU (d :: r)).map (c :: ·)
termination_by l.length
decreasing_by all_goals (simp; try omega)
theorem gU_nil : gU [] = some [] := by rw [gU]
theorem gU_cases {c : Int} {l u : List Int} (h : gU (c :: l) = some u) : (c ≠ 92 ∧ ¬ c < 32 ∧ ∃ u', gU l = some u' ∧ u = c :: u') ∨
 (c = 92 ∧ ∃ d r, l = d :: r ∧ ((J.isE d = true ∧ ∃ u', gU r = some u' ∧ u = J.unl d :: u') ∨
  (d = 117 ∧ ∃ v, J.hex4 r = some v ∧ ((¬ (55296 ≤ v ∧ v < 57344) ∧ ∃ u', gU (r.drop 4) = some u' ∧ u = eB v ++ u') ∨
   (55296 ≤ v ∧ v < 56320 ∧ ∃ x, J.unitL (r.drop 4) = some x ∧ 56320 ≤ x ∧ x < 57344 ∧ ∃ u', gU (r.drop 10) = some u' ∧ u = eB (65536 + (v - 55296) * 1024 + (x - 56320)) ++ u'))))) := by
 match l with
 | [] =>
  rw [gU] at h
  split at h
  ·cases h
  ·rename_i hc
   simp only [not_or] at hc
   cases h
   exact .inl ⟨hc.1, hc.2, [], gU_nil, rfl⟩
 | d :: r =>
  rw [gU] at h
  split at h
  ·rename_i hc
   refine .inr ⟨hc, d, r, rfl, ?_⟩
   split at h
   ·rename_i hd
    obtain ⟨u', h1, h2⟩ := Option.map_eq_some_iff.mp h
    exact .inl ⟨hd, u', h1, h2.symm⟩
   ·split at h
    ·rename_i hd
     refine .inr ⟨hd, ?_⟩
     split at h
     ·cases h
     ·rename_i v hv
      refine ⟨v, hv, ?_⟩
      split at h
      ·rename_i hs
       split at h
       ·cases h
       ·rename_i x hx
        split at h
        ·rename_i hp
         obtain ⟨u', h1, h2⟩ := Option.map_eq_some_iff.mp h
         exact .inr ⟨hs.1, hp.1, x, hx, hp.2.1, hp.2.2, u', h1, h2.symm⟩
        ·cases h
      ·rename_i hs
       obtain ⟨u', h1, h2⟩ := Option.map_eq_some_iff.mp h
       exact .inl ⟨hs, u', h1, h2.symm⟩
    ·cases h
  ·rename_i hc
   split at h
   ·cases h
   ·rename_i hc2
    obtain ⟨u', h1, h2⟩ := Option.map_eq_some_iff.mp h
    exact .inl ⟨hc, hc2, u', h1, h2.symm⟩
theorem setB_R {e : Nat} {base : Nat} {ok : Nat → Prop} {g n cap : Nat} : ∀ (bs : List Int) (o : Nat) (W : World) (ys : List Int), Kd.R (Kd.int .u8) e W base ok (.slice (some ⟨g, 0, none⟩) n cap) ys → n = ys.length → o + bs.length ≤ ys.length →
 Kd.R (Kd.int .u8) e (setB W g o bs) base ok (.slice (some ⟨g, 0, none⟩) n cap) (ys.take o ++ bs ++ ys.drop (o + bs.length)) ∧ W.grownBy (setB W g o bs) (some g) := by
 intro bs
 induction bs with
 | nil =>
  intro o W ys h hn ho
  refine ⟨?_, World.grownBy.refl W _⟩
  simpa [setB] using h
 | cons b r ih =>
  intro o W ys h hn ho
  simp only [List.length_cons] at ho
  subst hn
  obtain ⟨h1, h2⟩ := Kd.R_put (enc := Value.int .u8) (h1 := fun _ => rfl) h (o : Int) b
  simp only [Int.toNat_natCast] at h1 h2
  obtain ⟨h3, h4⟩ := ih (o + 1) _ (ys.set o b) h1 (by simp) (by simp; omega)
  refine ⟨?_, h2.trans h4⟩
  have e : ys.take o ++ (b :: r) ++ ys.drop (o + (b :: r).length) = (ys.set o b).take (o + 1) ++ r ++ (ys.set o b).drop (o + 1 + r.length) := by
   have e1 : (ys.set o b).take (o + 1) = ys.take o ++ [b] := by
    rw [List.take_succ_eq_append_getElem (by simp; omega), List.take_set, List.set_eq_of_length_le (by simp; omega)]
    simp
   have e2 : (ys.set o b).drop (o + 1 + r.length) = ys.drop (o + (b :: r).length) := by
    rw [List.drop_set_of_lt (by omega), List.length_cons]
    congr 1
    omega
   rw [e1, e2]
   simp
  rw [e]
  exact h3
theorem runeit_hex {s : ByteArray} {i : Nat} {l : List Int} {v : Int} (h : J.From s i l) (hv : J.hex4 l = some v) : gjson_runeit.f (s.extract i s.size) = some v := by
 have hr := J.hex4_range hv
 have hlen := J.hex4_len hv
 match l, hv, hlen with
 | a :: b :: c :: d :: r, hv, _ =>
  have hl := h.len
  simp only [List.length_cons] at hl
  have hsz : (s.extract i s.size).size = s.size - i := by rw [ByteArray.size_extract]; omega
  have hsz4 : ((s.extract i s.size).extract 0 4).size = 4 := by rw [ByteArray.size_extract, hsz]; omega
  have hb : bytesOf ((s.extract i s.size).extract 0 4) = [a, b, c, d] := by
   have h1 : bytesOf (s.extract i s.size) = a :: b :: c :: d :: r := by rw [J.bytesOf_extract, List.take_of_length_le (by rw [bytesOf_length]; omega), h.2]
   rw [J.bytesOf_extract, h1]
   rfl
  have hx : hxs 0 ((s.extract i s.size).extract 0 4).data.toList = some v := by
   have hall : ∀ (q : List UInt8) (acc : Int), hxs acc q = q.foldl (fun o b => o.bind fun x => (J.hexv (b.toNat : Int)).map fun y => x * 16 + y) (some acc) := by
    intro q
    induction q with
    | nil => intro acc; rfl
    | cons b q ih =>
     intro acc
     have hd : hxd (b.toNat : Int) = J.hexv (b.toNat : Int) := (by decide +kernel : ∀ n : Fin 256, hxd ((n.val : Nat) : Int) = J.hexv ((n.val : Nat) : Int)) ⟨b.toNat, b.toNat_lt⟩
     rw [hxs, List.foldl_cons, hd, Option.bind_some]
     cases J.hexv (b.toNat : Int) with
     | none =>
      rw [Option.bind_none, Option.map_none]
      have : ∀ (q : List UInt8), q.foldl (fun o b => o.bind fun x => (J.hexv (b.toNat : Int)).map fun y => x * 16 + y) (none : Option Int) = none := by
       intro q
       induction q with
       | nil => rfl
       | cons b q ih => rw [List.foldl_cons, Option.bind_none, ih]
      rw [this]
     | some y => rw [Option.bind_some, Option.map_some, ih]
   rw [hall]
   have hmap : ∀ (q : List UInt8) (o : Option Int), q.foldl (fun o b => o.bind fun x => (J.hexv (b.toNat : Int)).map fun y => x * 16 + y) o = (q.map fun b => (b.toNat : Int)).foldl (fun o c => o.bind fun x => (J.hexv c).map fun y => x * 16 + y) o := by
    intro q
    induction q with
    | nil => intro o; rfl
    | cons b q ih => intro o; rw [List.map_cons, List.foldl_cons, List.foldl_cons, ih]
   rw [hmap]
   have : (((s.extract i s.size).extract 0 4).data.toList.map fun b => (b.toNat : Int)) = [a, b, c, d] := hb
   rw [this, ← hv, J.hex4]
   simp only [List.foldl_cons, List.foldl_nil, Option.bind_some, Int.zero_mul, Int.zero_add]
   cases J.hexv a <;> cases J.hexv b <;> cases J.hexv c <;> cases J.hexv d <;> simp
  simp only [gjson_runeit.f]
  rw [if_pos (by omega), if_pos (by rw [hsz]; omega)]
  unfold strconv_ParseUint_79.f
  rw [if_neg (by omega), if_neg (by omega), if_pos ⟨rfl, rfl, hsz4⟩, hx, Option.bind_some]
  have hw : wrap32 v = v := by unfold wrap32; omega
  simp only [hw]
theorem zeros_cell {W : World} {base g cap : Nat} {ok : Nat → Prop} {xs : List Int} (ho : Kd.R (Kd.int .u8) 5 W base ok (.slice (some ⟨g, 0, none⟩) (xs.length + 8) cap) (xs ++ [0, 0, 0, 0, 0, 0, 0, 0])) (j : Nat) (hj : j < 4) :
 W.cell? ⟨g, xs.length + j, none⟩ = some (.int .u8 0) ∧ W.frozen? ⟨g, xs.length + j, none⟩ = false := by
 have hl : (xs ++ ([0, 0, 0, 0, 0, 0, 0, 0] : List Int)).length = xs.length + 8 := by simp
 obtain ⟨h1, h2⟩ := Kd.R_cell (enc := Value.int .u8) (h1 := fun _ => rfl) (0 : Int) (hl.symm ▸ ho) ((xs.length + j : Nat) : Int) (by omega) (by omega)
 rw [Int.toNat_natCast] at h1 h2
 refine ⟨?_, h2⟩
 rw [h1]
 unfold rdOf
 rw [Int.toNat_natCast, List.getD_eq_getElem?_getD, List.getElem?_append_right (by omega), show xs.length + j - xs.length = j by omega]
 match j, hj with
 | 0, _ => rfl
 | 1, _ => rfl
 | 2, _ => rfl
 | 3, _ => rfl
theorem zeros_cell0 {W : World} {base g cap : Nat} {ok : Nat → Prop} {xs : List Int} (ho : Kd.R (Kd.int .u8) 5 W base ok (.slice (some ⟨g, 0, none⟩) (xs.length + 8) cap) (xs ++ [0, 0, 0, 0, 0, 0, 0, 0])) :
 W.cell? ⟨g, xs.length, none⟩ = some (.int .u8 0) ∧ W.frozen? ⟨g, xs.length, none⟩ = false := by simpa using zeros_cell ho 0 zq40
theorem cap_ne {n cap : Nat} (h : n + 8 ≤ cap) : ¬ (cap = n) := by omega
theorem unitL_ex {l : List Int} {v : Int} (h : J.unitL l = some v) : ∃ t, l = 92 :: 117 :: t ∧ J.hex4 t = some v := by
 unfold J.unitL at h
 split at h
 ·rename_i a b r
  split at h
  ·rename_i hab
   obtain ⟨rfl, rfl⟩ := hab
   exact ⟨r, rfl, h⟩
  ·cases h
 ·cases h
theorem or_ten {x y : Int} (h0 : 0 ≤ x) (h1 : x < 2147483648) (hm : x % 1024 = 0) (hy : 0 ≤ y ∧ y < 1024) : Go.bits .or .i32 x y = x + y := bits_join .i32 31 zq40 wraps_i32 10 x y h0 hm h1 hy.1 hy.2 (by omega)
theorem dec_rune {v x : Int} (h0 : 55296 ≤ v) (h1 : v < 56320) (h2 : 56320 ≤ x) (h3 : x < 57344) : utf16_DecodeRune.f v x = some (65536 + (v - 55296) * 1024 + (x - 56320)) := by
 unfold utf16_DecodeRune.f
 rw [if_pos h0, if_pos h1, if_pos h2, if_pos h3]
 have e1 : wrap32 (v - 55296) = v - 55296 := by unfold wrap32; omega
 have e2 : wrap32 ((v - 55296) * 1024) = (v - 55296) * 1024 := by unfold wrap32; omega
 have e3 : wrap32 (x - 56320) = x - 56320 := by unfold wrap32; omega
 have e4 : Go.bits .or .i32 ((v - 55296) * 1024) (x - 56320) = (v - 55296) * 1024 + (x - 56320) := or_ten (by omega) (by omega) (by omega) (by omega)
 rw [e1, e2, e3, e4]
 have e5 : wrap32 ((v - 55296) * 1024 + (x - 56320) + 65536) = 65536 + (v - 55296) * 1024 + (x - 56320) := by unfold wrap32; omega
 rw [e5]
theorem enc_row {W : World} {base g cap : Nat} {ok : Nat → Prop} {xs : List Int} (rv : Int) (ho : Kd.R (Kd.int .u8) 5 W base ok (.slice (some ⟨g, 0, none⟩) (xs.length + 8) cap) (xs ++ [0, 0, 0, 0, 0, 0, 0, 0])) :
 Kd.R (Kd.int .u8) 5 (setB W g xs.length (eB rv)) base ok (.slice (some ⟨g, 0, none⟩) (xs.length + (eB rv).length) cap) (xs ++ eB rv) ∧ W.grownBy (setB W g xs.length (eB rv)) (some g) := by
 have h5 := eB_len rv
 have hl : (xs ++ ([0, 0, 0, 0, 0, 0, 0, 0] : List Int)).length = xs.length + 8 := by simp
 obtain ⟨h1, h2⟩ := setB_R (eB rv) xs.length W _ ho hl.symm (by rw [hl]; omega)
 refine ⟨?_, h2⟩
 have h3 := Kd.R_take (m := xs.length + (eB rv).length) h1 (by simp)
 have e : ((xs ++ ([0, 0, 0, 0, 0, 0, 0, 0] : List Int)).take xs.length ++ eB rv ++ (xs ++ ([0, 0, 0, 0, 0, 0, 0, 0] : List Int)).drop (xs.length + (eB rv).length)).take (xs.length + (eB rv).length) = xs ++ eB rv := by
  rw [List.take_left, List.take_append_of_le_length (by simp), List.take_of_length_le (by simp)]
 rwa [e] at h3
set_option maxHeartbeats 16000000 in
set_option maxRecDepth 100000 in
theorem unescape_walk (a0 : ByteArray) (U : List Int) (w : World) (hG : Laid w) (hs : a0.size ≤ 2147483647) (hU : gU (bytesOf a0) = some U) :
 Calls Tryd.prog 59 #[.string a0] w fun e w' => e = .returned (.string (strOfNums U)) ∧ Below w.heap.size w w' := by
 have HG := mk0 hG
 have HU := mk0 hU
 clear hG hU
 go_enter Tryd.func59, Tryd.ntmps59
 go_wp2_with ((with_reducible refine gate_dst (N := 9) rfl ?_); refine R_make0 (w0 := w) w.heap.size rfl 29 5 (.const (.int .i64 0)) (.tmp 8) rfl .u8 1 a0.size (fun _ => True) rfl rfl Tryd.underlying29 info5 (fun _ _ => trivial) (by omega) (by omega) (Below.refl _ _) (Nat.le_refl _) ?_; intro v1 w1 ho hb hg hat; have HR := mk0 ho; have HB := mk0 hb; clear ho hb hg hat)
 go_loopg [3, 4] (bytesOf a0).length (fun kq v3 v4 w' => ∃ (i : Nat) (l xs u : List Int), v4 = .int .i64 i ∧ Aside0 (J.From a0 i l ∧ gU l = some u ∧ xs ++ u = U ∧ xs.length ≤ i ∧ l.length = kq) ∧ Aside0 (Kd.R (Kd.int .u8) 5 w' w.heap.size (fun _ => True) v3 xs) ∧ Aside0 (Below w.heap.size w w'))
 case atStart => exact ⟨0, bytesOf a0, [], U, rfl, ⟨J.From.start a0, HU.out, rfl, Nat.le_refl _, rfl⟩, HR, HB⟩
 case round =>
  clear HR HB
  obtain ⟨i, l, xs, u, rfl, HF, HR, HB⟩ := hrel
  have hle := HF.out.1.1
  match l, HF with
  | [], HF =>
   have hi := HF.out.1.nil
   subst hi
   obtain ⟨A, c, rfl, _, hc⟩ := Kd.R_reads HR.out
   have hcv := Kd.C_string (P := Tryd.prog) Tryd.underlying29 Tryd.underlying5 (Tryd.underlying9) (n := xs.length) (c := c) hc
   have hu : u = [] := by have := HF.out.2.1; rw [gU_nil] at this; cases this; rfl
   subst hu
   have hx : xs = U := by have := HF.out.2.2.1; rwa [List.append_nil] at this
   subst hx
   clear hc
   go_wp2
   go_ret
   exact ⟨rfl, HB.out⟩
  | q :: l, HF =>
   have hlt := HF.out.1.lt
   have hbt := HF.out.1.bt
   have hx1 : ∀ h : i < a0.size, ((a0[i]'h).toNat : Int) = q := fun h => (bt_at a0 (i : Int) h).trans hbt
   rcases gU_cases HF.out.2.1 with ⟨h92, h32, u', h1, hu⟩ | ⟨hq, d, r, rfl, hd⟩
   ·subst hu
    have t1 : decide (q < 32) = false := decide_eq_false h32
    have t2 : (q == 92) = false := beq_eq_false_iff_ne.mpr h92
    have H1 := mk0 h1
    clear h1 h92 h32 hbt
    go_wp2_with (first | ((with_reducible refine gate_builtin (b := .append) (xs := #[.tmp 16, .tmp 20]) rfl ?_); at_builtin; refine R_append_lits (w0 := w) w.heap.size rfl (.tmp 16) (.tmp 20) 29 5 .u8 1 rfl Tryd.underlying29 info5 zq40 u3 xs [q] #[.int .u8 (q)] 1 rfl rfl (fun _ => True) rfl rfl (fun _ _ => trivial) ?aO HB.out (below_size HB.out) ?aL ?_; (case aO => exact HR.out); (case aL => exact zq35); intro v1 w1 ho hb hg hat; have n0_ := mk0 ho; have n1_ := mk0 hb; clear HR HB; have HR := n0_; have HB := n1_; clear n0_ n1_ ho hb hg hat))
    go_roundg l.length
    case measure => have := HF.out.2.2.2.2; simp only [List.length_cons] at this; omega
    case rel => exact ⟨i + 1, l, xs ++ [q], u', by go_num, ⟨HF.out.1.tail, H1.out, by rw [← HF.out.2.2.1]; simp, by have := HF.out.2.2.2.1; simp; omega, rfl⟩, HR, HB⟩
   ·subst hq
    have hlt2 := HF.out.1.tail.lt
    have hbt2 := HF.out.1.tail.bt
    have hx2 : ∀ h : i + 1 < a0.size, ((a0[i + 1]'h).toNat : Int) = d := fun h => (bt_at a0 ((i + 1 : Nat) : Int) h).trans hbt2
    clear hbt hbt2
    rcases hd with ⟨hE, u', h1, hu⟩ | ⟨hd, v, hv, hd2⟩
    ·subst hu
     have H1 := mk0 h1
     clear h1
     have hE' : d = 34 ∨ d = 92 ∨ d = 47 ∨ d = 98 ∨ d = 102 ∨ d = 110 ∨ d = 114 ∨ d = 116 := by unfold J.isE at hE; simpa using hE
     clear hE
     rcases hE' with hE | hE | hE | hE | hE | hE | hE | hE
     ·subst hE
      go_wp2_with (first | ((with_reducible refine gate_builtin (b := .append) (xs := #[.tmp 84, .tmp 85]) rfl ?_); at_builtin; refine R_append_lits (w0 := w) w.heap.size rfl (.tmp 84) (.tmp 85) 29 5 .u8 1 rfl Tryd.underlying29 info5 zq40 u3 xs [34] #[.int .u8 (34)] 1 rfl rfl (fun _ => True) rfl rfl (fun _ _ => trivial) ?aO HB.out (below_size HB.out) ?aL ?_; (case aO => exact HR.out); (case aL => exact zq35); intro v1 w1 ho hb hg hat; have n0_ := mk0 ho; have n1_ := mk0 hb; clear HR HB; have HR := n0_; have HB := n1_; clear n0_ n1_ ho hb hg hat))
      go_roundg r.length
      case measure => have := HF.out.2.2.2.2; simp only [List.length_cons] at this; omega
      case rel => exact ⟨i + 2, r, xs ++ [34], u', by go_num, ⟨HF.out.1.tail.tail, H1.out, by rw [← HF.out.2.2.1]; simp [J.unl], by have := HF.out.2.2.2.1; simp; omega, rfl⟩, HR, HB⟩
     ·subst hE
      go_wp2_with (first | ((with_reducible refine gate_builtin (b := .append) (xs := #[.tmp 49, .tmp 50]) rfl ?_); at_builtin; refine R_append_lits (w0 := w) w.heap.size rfl (.tmp 49) (.tmp 50) 29 5 .u8 1 rfl Tryd.underlying29 info5 zq40 u3 xs [92] #[.int .u8 (92)] 1 rfl rfl (fun _ => True) rfl rfl (fun _ _ => trivial) ?aO HB.out (below_size HB.out) ?aL ?_; (case aO => exact HR.out); (case aL => exact zq35); intro v1 w1 ho hb hg hat; have n0_ := mk0 ho; have n1_ := mk0 hb; clear HR HB; have HR := n0_; have HB := n1_; clear n0_ n1_ ho hb hg hat))
      go_roundg r.length
      case measure => have := HF.out.2.2.2.2; simp only [List.length_cons] at this; omega
      case rel => exact ⟨i + 2, r, xs ++ [92], u', by go_num, ⟨HF.out.1.tail.tail, H1.out, by rw [← HF.out.2.2.1]; simp [J.unl], by have := HF.out.2.2.2.1; simp; omega, rfl⟩, HR, HB⟩
     ·subst hE
      go_wp2_with (first | ((with_reducible refine gate_builtin (b := .append) (xs := #[.tmp 54, .tmp 55]) rfl ?_); at_builtin; refine R_append_lits (w0 := w) w.heap.size rfl (.tmp 54) (.tmp 55) 29 5 .u8 1 rfl Tryd.underlying29 info5 zq40 u3 xs [47] #[.int .u8 (47)] 1 rfl rfl (fun _ => True) rfl rfl (fun _ _ => trivial) ?aO HB.out (below_size HB.out) ?aL ?_; (case aO => exact HR.out); (case aL => exact zq35); intro v1 w1 ho hb hg hat; have n0_ := mk0 ho; have n1_ := mk0 hb; clear HR HB; have HR := n0_; have HB := n1_; clear n0_ n1_ ho hb hg hat))
      go_roundg r.length
      case measure => have := HF.out.2.2.2.2; simp only [List.length_cons] at this; omega
      case rel => exact ⟨i + 2, r, xs ++ [47], u', by go_num, ⟨HF.out.1.tail.tail, H1.out, by rw [← HF.out.2.2.1]; simp [J.unl], by have := HF.out.2.2.2.1; simp; omega, rfl⟩, HR, HB⟩
     ·subst hE
      go_wp2_with (first | ((with_reducible refine gate_builtin (b := .append) (xs := #[.tmp 59, .tmp 60]) rfl ?_); at_builtin; refine R_append_lits (w0 := w) w.heap.size rfl (.tmp 59) (.tmp 60) 29 5 .u8 1 rfl Tryd.underlying29 info5 zq40 u3 xs [8] #[.int .u8 (8)] 1 rfl rfl (fun _ => True) rfl rfl (fun _ _ => trivial) ?aO HB.out (below_size HB.out) ?aL ?_; (case aO => exact HR.out); (case aL => exact zq35); intro v1 w1 ho hb hg hat; have n0_ := mk0 ho; have n1_ := mk0 hb; clear HR HB; have HR := n0_; have HB := n1_; clear n0_ n1_ ho hb hg hat))
      go_roundg r.length
      case measure => have := HF.out.2.2.2.2; simp only [List.length_cons] at this; omega
      case rel => exact ⟨i + 2, r, xs ++ [8], u', by go_num, ⟨HF.out.1.tail.tail, H1.out, by rw [← HF.out.2.2.1]; simp [J.unl], by have := HF.out.2.2.2.1; simp; omega, rfl⟩, HR, HB⟩
     ·subst hE
      go_wp2_with (first | ((with_reducible refine gate_builtin (b := .append) (xs := #[.tmp 64, .tmp 65]) rfl ?_); at_builtin; refine R_append_lits (w0 := w) w.heap.size rfl (.tmp 64) (.tmp 65) 29 5 .u8 1 rfl Tryd.underlying29 info5 zq40 u3 xs [12] #[.int .u8 (12)] 1 rfl rfl (fun _ => True) rfl rfl (fun _ _ => trivial) ?aO HB.out (below_size HB.out) ?aL ?_; (case aO => exact HR.out); (case aL => exact zq35); intro v1 w1 ho hb hg hat; have n0_ := mk0 ho; have n1_ := mk0 hb; clear HR HB; have HR := n0_; have HB := n1_; clear n0_ n1_ ho hb hg hat))
      go_roundg r.length
      case measure => have := HF.out.2.2.2.2; simp only [List.length_cons] at this; omega
      case rel => exact ⟨i + 2, r, xs ++ [12], u', by go_num, ⟨HF.out.1.tail.tail, H1.out, by rw [← HF.out.2.2.1]; simp [J.unl], by have := HF.out.2.2.2.1; simp; omega, rfl⟩, HR, HB⟩
     ·subst hE
      go_wp2_with (first | ((with_reducible refine gate_builtin (b := .append) (xs := #[.tmp 69, .tmp 70]) rfl ?_); at_builtin; refine R_append_lits (w0 := w) w.heap.size rfl (.tmp 69) (.tmp 70) 29 5 .u8 1 rfl Tryd.underlying29 info5 zq40 u3 xs [10] #[.int .u8 (10)] 1 rfl rfl (fun _ => True) rfl rfl (fun _ _ => trivial) ?aO HB.out (below_size HB.out) ?aL ?_; (case aO => exact HR.out); (case aL => exact zq35); intro v1 w1 ho hb hg hat; have n0_ := mk0 ho; have n1_ := mk0 hb; clear HR HB; have HR := n0_; have HB := n1_; clear n0_ n1_ ho hb hg hat))
      go_roundg r.length
      case measure => have := HF.out.2.2.2.2; simp only [List.length_cons] at this; omega
      case rel => exact ⟨i + 2, r, xs ++ [10], u', by go_num, ⟨HF.out.1.tail.tail, H1.out, by rw [← HF.out.2.2.1]; simp [J.unl], by have := HF.out.2.2.2.1; simp; omega, rfl⟩, HR, HB⟩
     ·subst hE
      go_wp2_with (first | ((with_reducible refine gate_builtin (b := .append) (xs := #[.tmp 74, .tmp 75]) rfl ?_); at_builtin; refine R_append_lits (w0 := w) w.heap.size rfl (.tmp 74) (.tmp 75) 29 5 .u8 1 rfl Tryd.underlying29 info5 zq40 u3 xs [13] #[.int .u8 (13)] 1 rfl rfl (fun _ => True) rfl rfl (fun _ _ => trivial) ?aO HB.out (below_size HB.out) ?aL ?_; (case aO => exact HR.out); (case aL => exact zq35); intro v1 w1 ho hb hg hat; have n0_ := mk0 ho; have n1_ := mk0 hb; clear HR HB; have HR := n0_; have HB := n1_; clear n0_ n1_ ho hb hg hat))
      go_roundg r.length
      case measure => have := HF.out.2.2.2.2; simp only [List.length_cons] at this; omega
      case rel => exact ⟨i + 2, r, xs ++ [13], u', by go_num, ⟨HF.out.1.tail.tail, H1.out, by rw [← HF.out.2.2.1]; simp [J.unl], by have := HF.out.2.2.2.1; simp; omega, rfl⟩, HR, HB⟩
     ·subst hE
      go_wp2_with (first | ((with_reducible refine gate_builtin (b := .append) (xs := #[.tmp 79, .tmp 80]) rfl ?_); at_builtin; refine R_append_lits (w0 := w) w.heap.size rfl (.tmp 79) (.tmp 80) 29 5 .u8 1 rfl Tryd.underlying29 info5 zq40 u3 xs [9] #[.int .u8 (9)] 1 rfl rfl (fun _ => True) rfl rfl (fun _ _ => trivial) ?aO HB.out (below_size HB.out) ?aL ?_; (case aO => exact HR.out); (case aL => exact zq35); intro v1 w1 ho hb hg hat; have n0_ := mk0 ho; have n1_ := mk0 hb; clear HR HB; have HR := n0_; have HB := n1_; clear n0_ n1_ ho hb hg hat))
      go_roundg r.length
      case measure => have := HF.out.2.2.2.2; simp only [List.length_cons] at this; omega
      case rel => exact ⟨i + 2, r, xs ++ [9], u', by go_num, ⟨HF.out.1.tail.tail, H1.out, by rw [← HF.out.2.2.1]; simp [J.unl], by have := HF.out.2.2.2.1; simp; omega, rfl⟩, HR, HB⟩
    ·subst hd
     have HV := mk0 hv
     have HD := mk0 hd2
     have hlen := J.hex4_len hv
     have hv0 := J.hex4_range hv
     have hl6 : i + 6 ≤ a0.size := by have := HF.out.1.len; simp only [List.length_cons] at this; omega
     have hf := runeit_hex HF.out.1.tail.tail hv
     clear hv hd2
     rcases HD.out with ⟨hns, u', h1, hu⟩ | ⟨hh0, hh1, x, hx, hlo0, hlo1, u', h1, hu⟩
     ·have hS : utf16_IsSurrogate.f v = some false := by
       unfold utf16_IsSurrogate.f
       by_cases h5 : 55296 ≤ v
       rotate_left
       ·rw [if_neg h5]
       rw [if_pos h5, decide_eq_false (by omega)]
      subst hu
      have H1 := mk0 h1
      clear h1 HD
      go_wp2_with (first | (go_at_call 71; (with_reducible refine (gjson_runeit.calls _ v _ (Laid.below HG.out HB.out) hf).mono ?_); rintro e w2 ⟨rfl, hb⟩; have n0_ := mk0 (Kd.R_below HR.out hb); have n1_ := mk0 (below_step HB.out hb); clear HR HB hb; have HR := n0_; have HB := n1_; clear n0_ n1_) | (go_at_call 72; (with_reducible refine (utf16_IsSurrogate.calls v false _ hS).mono ?_); rintro e w3 ⟨rfl, ⟨m3, rfl⟩⟩; have n0_ := mk0 (Kd.R_drewN HR.out m3); have n1_ := mk0 (pw_below_drewN HB.out m3); clear HR HB; have HR := n0_; have HB := n1_; clear n0_ n1_) | ((with_reducible refine gate_builtin (b := .append) (xs := #[.tmp 132, .tmp 133]) rfl ?_); at_builtin; refine R_append_lits (w0 := w) w.heap.size rfl (.tmp 132) (.tmp 133) 29 5 .u8 1 rfl Tryd.underlying29 info5 zq40 u3 xs [0, 0, 0, 0, 0, 0, 0, 0] #[.int .u8 0, .int .u8 0, .int .u8 0, .int .u8 0, .int .u8 0, .int .u8 0, .int .u8 0, .int .u8 0] 8 rfl rfl (fun _ => True) rfl rfl (fun _ _ => trivial) ?aO HB.out (below_size HB.out) ?aL ?_; (case aO => exact HR.out); (case aL => exact zq35); intro v1 w4 ho hb hg hat; obtain ⟨g, cap, hv1, _, _, _⟩ := Kd.R_form ho (by simp); have hl8 : (xs ++ ([0, 0, 0, 0, 0, 0, 0, 0] : List Int)).length = xs.length + 8 := (by simp); rw [hl8] at hv1; subst hv1; have hcap := (Kd.R_reads' ho).2.1; have hxl := Nat.le_trans HF.out.2.2.2.1 (Nat.le_trans hle hs); have hcne := cap_ne hcap; have hc4 := zeros_cell ho; have hc0 := zeros_cell0 ho; have HC0 := mk0 hc0; clear hc0; have n0_ := mk0 ho; have n1_ := mk0 hb; have HC := mk0 hc4; clear HR HB hc4 hl8; have HR8 := n0_; have HB := n1_; clear n0_ n1_ ho hb hg hat) | (go_at_call 40; (with_reducible refine (enc_at g xs.length 8 (cap - xs.length) v _ hv0.1 (Int.le_trans hv0.2 zq40) zq40 zq40 0 0 0 0 HC0.out.1 (HC.out 1 zq40).1 (HC.out 2 zq40).1 (HC.out 3 zq40).1 HC0.out.2 (HC.out 1 zq40).2 (HC.out 2 zq40).2 (HC.out 3 zq40).2).mono ?_); rintro e w5 ⟨rfl, rfl⟩; obtain ⟨hr5, hg5⟩ := enc_row v HR8.out; have hb5 := HB.out.grown hg5 (below_size HB.out) (fun q hq => Kd.R_base HR8.out q hq); have he5 := (eB_len v).2; have n0_ := mk0 hr5; have n1_ := mk0 hb5; clear HR8 HB HC HC0 hg5 hr5 hb5; have HR := n0_; have HB := n1_; clear n0_ n1_))
      go_roundg (r.drop 4).length
      case measure => have := HF.out.2.2.2.2; simp only [List.length_cons, List.length_drop] at this ⊢; omega
      case rel => exact ⟨i + 6, r.drop 4, xs ++ eB v, u', by go_num, ⟨HF.out.1.tail.tail.drop 4 hlen, H1.out, by rw [← HF.out.2.2.1]; simp, by have := HF.out.2.2.2.1; have := eB_len v; simp; omega, rfl⟩, HR, HB⟩
     ·have hS : utf16_IsSurrogate.f v = some true := by
       unfold utf16_IsSurrogate.f
       rw [if_pos hh0, decide_eq_true (by omega)]
      obtain ⟨t, et, htx⟩ := unitL_ex hx
      have hFt : J.From a0 (i + 1 + 5) (92 :: 117 :: t) := by
       have := HF.out.1.tail.tail.drop 4 hlen
       rw [et] at this
       exact this
      have hD := dec_rune hh0 hh1 hlo0 hlo1
      have hf2 : gjson_runeit.f (a0.extract (i + 1 + 5 + 2) a0.size) = some x := runeit_hex hFt.tail.tail htx
      have hx4 := J.hex4_len htx
      have hl12 : i + 12 ≤ a0.size := by have := hFt.len; simp only [List.length_cons] at this; omega
      have hb6 := hFt.bt
      have hb7 := hFt.tail.bt
      have hx6 : ∀ h : i + 1 + 5 < a0.size, ((a0[i + 1 + 5]'h).toNat : Int) = 92 := fun h => (bt_at a0 ((i + 1 + 5 : Nat) : Int) h).trans hb6
      have hx7 : ∀ h : i + 1 + 5 + 1 < a0.size, ((a0[i + 1 + 5 + 1]'h).toNat : Int) = 117 := fun h => (bt_at a0 ((i + 1 + 5 + 1 : Nat) : Int) h).trans hb7
      have hrv : 0 ≤ 65536 + (v - 55296) * 1024 + (x - 56320) ∧ 65536 + (v - 55296) * 1024 + (x - 56320) ≤ 1114111 := by omega
      have hl10 : 10 ≤ r.length := by have := congrArg List.length et; simp only [List.length_drop, List.length_cons] at this; omega
      have HT := mk0 hFt
      subst hu
      have H1 := mk0 h1
      clear h1 HD hb6 hb7 hFt et htx
      generalize hrve : 65536 + (v - 55296) * 1024 + (x - 56320) = rv at hD hrv
      have HE := mk0 hrve
      clear hrve
      go_wp2_with (first | (go_at_call 71; (with_reducible refine (gjson_runeit.calls _ v _ (Laid.below HG.out HB.out) hf).mono ?_); rintro e w2 ⟨rfl, hb⟩; have n0_ := mk0 (Kd.R_below HR.out hb); have n1_ := mk0 (below_step HB.out hb); clear HR HB hb; have HR := n0_; have HB := n1_; clear n0_ n1_) | (go_at_call 71; (with_reducible refine (gjson_runeit.calls _ x _ (Laid.below HG.out HB.out) hf2).mono ?_); rintro e w2 ⟨rfl, hb⟩; have n0_ := mk0 (Kd.R_below HR.out hb); have n1_ := mk0 (below_step HB.out hb); clear HR HB hb; have HR := n0_; have HB := n1_; clear n0_ n1_) | (go_at_call 72; (with_reducible refine (utf16_IsSurrogate.calls v true _ hS).mono ?_); rintro e w3 ⟨rfl, ⟨m3, rfl⟩⟩; have n0_ := mk0 (Kd.R_drewN HR.out m3); have n1_ := mk0 (pw_below_drewN HB.out m3); clear HR HB; have HR := n0_; have HB := n1_; clear n0_ n1_) | (go_at_call 73; (with_reducible refine (utf16_DecodeRune.calls v x rv _ hD).mono ?_); rintro e w3 ⟨rfl, ⟨m3, rfl⟩⟩; have n0_ := mk0 (Kd.R_drewN HR.out m3); have n1_ := mk0 (pw_below_drewN HB.out m3); clear HR HB; have HR := n0_; have HB := n1_; clear n0_ n1_) | ((with_reducible refine gate_builtin (b := .append) (xs := #[.tmp 132, .tmp 133]) rfl ?_); at_builtin; refine R_append_lits (w0 := w) w.heap.size rfl (.tmp 132) (.tmp 133) 29 5 .u8 1 rfl Tryd.underlying29 info5 zq40 u3 xs [0, 0, 0, 0, 0, 0, 0, 0] #[.int .u8 0, .int .u8 0, .int .u8 0, .int .u8 0, .int .u8 0, .int .u8 0, .int .u8 0, .int .u8 0] 8 rfl rfl (fun _ => True) rfl rfl (fun _ _ => trivial) ?aO HB.out (below_size HB.out) ?aL ?_; (case aO => exact HR.out); (case aL => exact zq35); intro v1 w4 ho hb hg hat; obtain ⟨g, cap, hv1, _, _, _⟩ := Kd.R_form ho (by simp); have hl8 : (xs ++ ([0, 0, 0, 0, 0, 0, 0, 0] : List Int)).length = xs.length + 8 := (by simp); rw [hl8] at hv1; subst hv1; have hcap := (Kd.R_reads' ho).2.1; have hxl := Nat.le_trans HF.out.2.2.2.1 (Nat.le_trans hle hs); have hcne := cap_ne hcap; have hc4 := zeros_cell ho; have hc0 := zeros_cell0 ho; have HC0 := mk0 hc0; clear hc0; have n0_ := mk0 ho; have n1_ := mk0 hb; have HC := mk0 hc4; clear HR HB hc4 hl8; have HR8 := n0_; have HB := n1_; clear n0_ n1_ ho hb hg hat) | (go_at_call 40; (with_reducible refine (enc_at g xs.length 8 (cap - xs.length) rv _ hrv.1 hrv.2 zq40 zq40 0 0 0 0 HC0.out.1 (HC.out 1 zq40).1 (HC.out 2 zq40).1 (HC.out 3 zq40).1 HC0.out.2 (HC.out 1 zq40).2 (HC.out 2 zq40).2 (HC.out 3 zq40).2).mono ?_); rintro e w5 ⟨rfl, rfl⟩; obtain ⟨hr5, hg5⟩ := enc_row rv HR8.out; have hb5 := HB.out.grown hg5 (below_size HB.out) (fun q hq => Kd.R_base HR8.out q hq); have he5 := (eB_len rv).2; have n0_ := mk0 hr5; have n1_ := mk0 hb5; clear HR8 HB HC HC0 hg5 hr5 hb5; have HR := n0_; have HB := n1_; clear n0_ n1_))
      go_roundg (r.drop 10).length
      case measure => have := HF.out.2.2.2.2; simp only [List.length_cons, List.length_drop] at this ⊢; omega
      case rel => exact ⟨i + 12, r.drop 10, xs ++ eB rv, u', by go_num, ⟨HF.out.1.tail.tail.drop 10 hl10, H1.out, by rw [← HF.out.2.2.1, ← HE.out]; simp, by have := HF.out.2.2.2.1; have := eB_len rv; simp; omega, rfl⟩, HR, HB⟩
def gjson_unescape.f (a0 : ByteArray) : Option ByteArray := if a0.size ≤ 2147483647 then (gU (bytesOf a0)).map strOfNums else none
theorem gjson_unescape.calls (a0 : ByteArray) (r : ByteArray) (w : World) (hG : Laid w) (h : gjson_unescape.f a0 = some r) :
 Calls Tryd.prog 59 #[.string a0] w fun e w' => e = .returned (.string r) ∧ Below w.heap.size w w' := by
 unfold gjson_unescape.f at h
 split at h
 ·rename_i hs
  obtain ⟨U, hU, rfl⟩ := Option.map_eq_some_iff.mp h
  exact unescape_walk a0 U w hG hs hU
 ·cases h
mutual
def gjson_tostr.l0 : Nat → ByteArray → Int → Option (ByteArray × ByteArray)
  | 0, _, _ => none
  | k + 1, x0, x4 => if x4 < (x0.size : Int) then (if 0 ≤ x4 then (if (bt x0 x4) > 92 then (gjson_tostr.l0 k x0 (wrap64 (x4 + 1))) else (if (bt x0 x4) = 34 then (if 0 ≤ (wrap64 (x4 + 1)) then (if (wrap64 (x4 + 1)) ≤ (x0.size : Int) then (if 1 ≤ x4 then (if x4 ≤ (x0.size : Int) then (some (x0.extract 0 ((wrap64 (x4 + 1)) : Int).toNat, x0.extract 1 (x4 : Int).toNat)) else (none)) else (none)) else (none)) else (none)) else (if (bt x0 x4) = 92 then (gjson_tostr.l1 k x0 (wrap64 (x4 + 1))) else (gjson_tostr.l0 k x0 (wrap64 (x4 + 1)))))) else (none)) else (if 1 ≤ (x0.size : Int) then (some (x0, x0.extract 1 x0.size)) else (none))
def gjson_tostr.l1 : Nat → ByteArray → Int → Option (ByteArray × ByteArray)
  | 0, _, _ => none
  | k + 1, x0, x4 => if x4 < (x0.size : Int) then (if 0 ≤ x4 then (if (bt x0 x4) > 92 then (gjson_tostr.l1 k x0 (wrap64 (x4 + 1))) else (if (bt x0 x4) = 34 then (if 0 ≤ (wrap64 (x4 - 1)) then (if (wrap64 (x4 - 1)) < (x0.size : Int) then (if (bt x0 (wrap64 (x4 - 1))) = 92 then (gjson_tostr.l2 k x0 x4 0 (wrap64 (x4 - 2))) else (if 0 ≤ (wrap64 (x4 + 1)) then (if (wrap64 (x4 + 1)) ≤ (x0.size : Int) then (if 1 ≤ x4 then (if x4 ≤ (x0.size : Int) then ((gjson_unescape.f (x0.extract 1 (x4 : Int).toNat)).bind fun t105 => (some (x0.extract 0 ((wrap64 (x4 + 1)) : Int).toNat, t105))) else (none)) else (none)) else (none)) else (none))) else (none)) else (none)) else (gjson_tostr.l1 k x0 (wrap64 (x4 + 1))))) else (none)) else (if (wrap64 (x4 + 1)) < (x0.size : Int) then (if 0 ≤ (wrap64 (x4 + 1)) then (if (wrap64 (x4 + 1)) ≤ (x0.size : Int) then (if 1 ≤ x4 then (if x4 ≤ (x0.size : Int) then ((gjson_unescape.f (x0.extract 1 (x4 : Int).toNat)).bind fun t101 => (some (x0.extract 0 ((wrap64 (x4 + 1)) : Int).toNat, t101))) else (none)) else (none)) else (none)) else (none)) else (if 0 ≤ x4 then (if x4 ≤ (x0.size : Int) then (if 1 ≤ x4 then ((gjson_unescape.f (x0.extract 1 (x4 : Int).toNat)).bind fun t102 => (some (x0.extract 0 (x4 : Int).toNat, t102))) else (none)) else (none)) else (none)))
def gjson_tostr.l2 : Nat → ByteArray → Int → Int → Int → Option (ByteArray × ByteArray)
  | 0, _, _, _, _ => none
  | k + 1, x0, x4, x5, x6 => if x6 > 0 then (if 0 ≤ x6 then (if x6 < (x0.size : Int) then (if (bt x0 x6) = 92 then (gjson_tostr.l2 k x0 x4 (wrap64 (x5 + 1)) (wrap64 (x6 - 1))) else (if (Int.tmod x5 2) = 0 then (gjson_tostr.l1 k x0 (wrap64 (x4 + 1))) else (if 0 ≤ (wrap64 (x4 + 1)) then (if (wrap64 (x4 + 1)) ≤ (x0.size : Int) then (if 1 ≤ x4 then (if x4 ≤ (x0.size : Int) then ((gjson_unescape.f (x0.extract 1 (x4 : Int).toNat)).bind fun t103 => (some (x0.extract 0 ((wrap64 (x4 + 1)) : Int).toNat, t103))) else (none)) else (none)) else (none)) else (none)))) else (none)) else (none)) else (if (Int.tmod x5 2) = 0 then (gjson_tostr.l1 k x0 (wrap64 (x4 + 1))) else (if 0 ≤ (wrap64 (x4 + 1)) then (if (wrap64 (x4 + 1)) ≤ (x0.size : Int) then (if 1 ≤ x4 then (if x4 ≤ (x0.size : Int) then ((gjson_unescape.f (x0.extract 1 (x4 : Int).toNat)).bind fun t104 => (some (x0.extract 0 ((wrap64 (x4 + 1)) : Int).toNat, t104))) else (none)) else (none)) else (none)) else (none)))
end
def gjson_tostr.f (k : Nat) (a0 : ByteArray) : Option (ByteArray × ByteArray) := gjson_tostr.l0 k a0 1
theorem gjson_tostr.mono_l : ∀ k, (∀ y0 y1, LeO (gjson_tostr.l0 k y0 y1) (gjson_tostr.l0 (k + 1) y0 y1)) ∧ (∀ y0 y1, LeO (gjson_tostr.l1 k y0 y1) (gjson_tostr.l1 (k + 1) y0 y1)) ∧ (∀ y0 y1 y2 y3, LeO (gjson_tostr.l2 k y0 y1 y2 y3) (gjson_tostr.l2 (k + 1) y0 y1 y2 y3))
 | 0 => ⟨fun _ _ r h => by simp [gjson_tostr.l0] at h, fun _ _ r h => by simp [gjson_tostr.l1] at h, fun _ _ _ _ r h => by simp [gjson_tostr.l2] at h⟩
 | k + 1 => by
  obtain ⟨ih0, ih1, ih2⟩ := gjson_tostr.mono_l k
  refine ⟨?_, ?_, ?_⟩
  ·intro y0 y1
   unfold gjson_tostr.l0
   repeat' first
   | (with_reducible exact ih0 _ _)
   | (with_reducible exact ih1 _ _)
   | (with_reducible exact ih2 _ _ _ _)
   | (with_reducible exact LeO.refl _)
   | (with_reducible exact LeO.none _)
   | (with_reducible refine LeO.ite ?_ ?_)
   | (with_reducible refine LeO.bind ?_ (fun _ => ?_))
   | exact ih0 _ _
   | exact ih1 _ _
   | exact ih2 _ _ _ _
   | exact LeO.none _
   | refine LeO.ite ?_ ?_
   | refine LeO.bind ?_ (fun _ => ?_)
  ·intro y0 y1
   unfold gjson_tostr.l1
   repeat' first
   | (with_reducible exact ih0 _ _)
   | (with_reducible exact ih1 _ _)
   | (with_reducible exact ih2 _ _ _ _)
   | (with_reducible exact LeO.refl _)
   | (with_reducible exact LeO.none _)
   | (with_reducible refine LeO.ite ?_ ?_)
   | (with_reducible refine LeO.bind ?_ (fun _ => ?_))
   | exact ih0 _ _
   | exact ih1 _ _
   | exact ih2 _ _ _ _
   | exact LeO.none _
   | refine LeO.ite ?_ ?_
   | refine LeO.bind ?_ (fun _ => ?_)
  ·intro y0 y1 y2 y3
   unfold gjson_tostr.l2
   repeat' first
   | (with_reducible exact ih0 _ _)
   | (with_reducible exact ih1 _ _)
   | (with_reducible exact ih2 _ _ _ _)
   | (with_reducible exact LeO.refl _)
   | (with_reducible exact LeO.none _)
   | (with_reducible refine LeO.ite ?_ ?_)
   | (with_reducible refine LeO.bind ?_ (fun _ => ?_))
   | exact ih0 _ _
   | exact ih1 _ _
   | exact ih2 _ _ _ _
   | exact LeO.none _
   | refine LeO.ite ?_ ?_
   | refine LeO.bind ?_ (fun _ => ?_)
theorem gjson_tostr.mono : ∀ a0 k, LeO (gjson_tostr.f k a0) (gjson_tostr.f (k + 1) a0) := by
 intro a0 k
 obtain ⟨ih0, ih1, ih2⟩ := gjson_tostr.mono_l k
 unfold gjson_tostr.f
 repeat' first
  | (with_reducible exact ih0 _ _)
  | (with_reducible exact ih1 _ _)
  | (with_reducible exact ih2 _ _ _ _)
  | (with_reducible exact LeO.refl _)
  | (with_reducible exact LeO.none _)
  | (with_reducible refine LeO.ite ?_ ?_)
  | (with_reducible refine LeO.bind ?_ (fun _ => ?_))
  | exact ih0 _ _
  | exact ih1 _ _
  | exact ih2 _ _ _ _
  | exact LeO.none _
  | refine LeO.ite ?_ ?_
  | refine LeO.bind ?_ (fun _ => ?_)
def gjson_tostr.T6 : Bool × List (List Nat × List Nat) := (true, [([], []), ([], []), ([1], [1]), ([0, 2], [0, 2]), ([], []), ([], []), ([4, 5], [4, 5]), ([3, 0, 1, 2, 3], [3]), ([6, 7, 0, 1, 2, 3, 4, 5, 6, 7], [6])])
def gjson_tostr.B6 : List Nat := [0, 0, 2, 7, 0, 0, 48, 15, 255]
theorem gjson_tostr.tab6 : rtab .any (opsOf Tryd.f60 6) = gjson_tostr.T6 := by kernel_rfl
theorem gjson_tostr.bits6 : waitsOk gjson_tostr.T6.2 gjson_tostr.B6 = true := by kernel_rfl
def gjson_tostr.T21 : Bool × List (List Nat × List Nat) := (true, [([], []), ([], []), ([1], [1]), ([0, 2], [0, 2]), ([], []), ([], []), ([4, 5], [4, 5]), ([6], [6]), ([3, 7, 0, 1, 2, 3], [3]), ([7, 8, 0, 1, 2, 3, 4, 5, 6, 7, 8], [7])])
def gjson_tostr.B21 : List Nat := [0, 0, 2, 7, 0, 0, 48, 112, 255, 511]
theorem gjson_tostr.tab21 : rtab .any (opsOf Tryd.f60 21) = gjson_tostr.T21 := by kernel_rfl
theorem gjson_tostr.bits21 : waitsOk gjson_tostr.T21.2 gjson_tostr.B21 = true := by kernel_rfl
set_option maxHeartbeats 8000000 in
set_option maxRecDepth 100000 in
theorem gjson_tostr.calls (k : Nat) (a0 : ByteArray) (r1 : ByteArray) (r2 : ByteArray) (w : World) (hG : Laid w) (h : gjson_tostr.f k a0 = some (r1, r2)) :
 Calls Tryd.prog 60 #[.string a0] w fun e w' => e = .returned (.tuple #[.string r1, .string r2]) ∧ Below w.heap.size w w' := by
 have HG := mk0 hG
 clear hG
 have HB := mk0 (Below.refl w.heap.size w)
 have H : (gjson_tostr.l0 k a0 1) = some (r1, r2) := h
 clear h
 have H' := mk0 H
 clear H
 go_enter Tryd.func60, Tryd.ntmps60
 go_wp2
 go_loopg [4] k (fun kq v4 w' => ∃ (x4_1 : Int), v4 = .int .i64 x4_1 ∧ Aside0 (gjson_tostr.l0 kq a0 x4_1 = some (r1, r2)) ∧ Aside0 (kq ≤ k) ∧ Aside0 (Below w.heap.size w w'))
 case atStart => exact ⟨(1), zq12, H', ⟨Nat.le_refl _⟩, ⟨by repeat (first | (with_reducible first | exact HB.out | apply below_alloc | apply pw_below_drewN | apply below_drew1) | exact HB.out)⟩⟩
 case round =>
  clear H'
  obtain ⟨x4_1, rfl, HA, HK1, HB⟩ := hrel
  cases gk with
  | zero => exact absurd HA.out (by simp [gjson_tostr.l0])
  | succ k1 =>
   have H := HA.out
   clear HA
   simp only [gjson_tostr.l0] at H
   by_cases c2 : x4_1 < (a0.size : Int)
   rotate_left
   ·rw [if_neg c2] at H
    have c2b0 : decide (x4_1 < (a0.size : Int)) = false := decide_eq_false c2
    clear c2
    by_cases c72 : 1 ≤ (a0.size : Int)
    rotate_left
    ·rw [if_neg c72] at H
     exact absurd H (by simp)
    rw [if_pos c72] at H
    have c72b0 := eq_true c72
    have c72b1 : decide (1 ≤ (a0.size : Int)) = true := decide_eq_true c72
    clear c72
    simp only [Option.some.injEq, Prod.mk.injEq] at H
    obtain ⟨rfl, rfl⟩ := H
    try go_wp2
    have n0_ := mk0 (below_drew1 HB.out)
    clear HB
    have HB := n0_
    clear n0_
    refine start_ (n := 5) (S := fun w' => True) (ds := []) #[false, false, false, false, false] zq22 rfl rfl trivial (fun hHeld => ?_)
    generalize wr.drew = w73 at HB hHeld ⊢
    refine pure_ (i := 0) (N := some 94) (v := ?_) (a' := ?_) #[true, false, false, false, false] rfl rfl zq22 (fun _ _ _ h => h) (Or.inl ⟨by rfl, ?_⟩) ?_ ?_
    rotate_left
    ·intro w'
     go_simp
     with_reducible rfl
    rotate_left
    ·simp only [Act.put, List.setIfInBounds_toArray, List.set_cons_zero, List.set_cons_succ, i64_w, i32_w]
     rfl
    refine pure_ (i := 1) (N := some 95) (v := ?_) (a' := ?_) #[true, true, false, false, false] rfl rfl zq22 (fun _ _ _ h => h) (Or.inl ⟨by rfl, ?_⟩) ?_ ?_
    rotate_left
    ·intro w'
     go_simp
     with_reducible rfl
    rotate_left
    ·simp only [Act.put, List.setIfInBounds_toArray, List.set_cons_zero, List.set_cons_succ, i64_w, i32_w]
     rfl
    refine pure_ (i := 2) (N := some 96) (v := ?_) (a' := ?_) #[true, true, true, false, false] rfl rfl zq22 (fun _ _ _ h => h) (Or.inl ⟨by rfl, ?_⟩) ?_ ?_
    rotate_left
    ·intro w'
     go_simp
     with_reducible rfl
    rotate_left
    ·simp only [Act.put, List.setIfInBounds_toArray, List.set_cons_zero, List.set_cons_succ, i64_w, i32_w]
     rfl
    refine pure_ (i := 3) (N := some 2) (v := ?_) (a' := ?_) #[true, true, true, true, false] rfl rfl zq22 (fun _ _ _ h => h) (Or.inl ⟨by rfl, ?_⟩) ?_ ?_
    rotate_left
    ·intro w'
     go_simp
     with_reducible rfl
    rotate_left
    ·simp only [Act.put, List.setIfInBounds_toArray, List.set_cons_zero, List.set_cons_succ, i64_w, i32_w]
     rfl
    refine pure_ (i := 4) (N := some 3) (v := ?_) (a' := ?_) #[true, true, true, true, true] rfl rfl zq22 (fun _ _ _ h => h) (Or.inl ⟨by rfl, ?_⟩) ?_ ?_
    rotate_left
    ·intro w'
     go_simp
     with_reducible rfl
    rotate_left
    ·simp only [Act.put, List.setIfInBounds_toArray, List.set_cons_zero, List.set_cons_succ, i64_w, i32_w]
     rfl
    refine done_ zq22 ?_
    try go_wp2
    go_ret2
    exact ⟨by first | rfl | (simp [errW_none, errW_some] <;> rfl) | (simp [*, errW_none, errW_some] <;> rfl), by repeat (first | (with_reducible first | exact HB.out | apply below_alloc | apply pw_below_drewN | apply below_drew1) | exact HB.out)⟩
   rw [if_pos c2] at H
   have c2b0 : decide (x4_1 < (a0.size : Int)) = true := decide_eq_true c2
   clear c2
   by_cases c3 : 0 ≤ x4_1
   rotate_left
   ·rw [if_neg c3] at H
    exact absurd H (by simp)
   rw [if_pos c3] at H
   have c3b0 : decide (0 ≤ x4_1) = true := decide_eq_true c3
   clear c3
   by_cases c5 : (bt a0 x4_1) > 92
   ·rw [if_pos c5] at H
    have c5b0 : decide (92 < (bt a0 x4_1)) = true := decide_eq_true c5
    clear c5
    have H' := mk0 H
    clear H
    have p4 : 0 ≤ (x4_1 : Int) := of_decide_eq_true zq13
    have q4 : x4_1 < (a0.size : Int) := of_decide_eq_true zq13
    have hx4 := bt_at a0 x4_1
    replace p4 := eq_true p4
    replace q4 := eq_true q4
    go_wp2
    go_roundg k1
    case measure => have := HK1.out; omega
    case rel => exact ⟨(wrap64 (x4_1 + 1)), zq12, H', ⟨by have := HK1.out; omega⟩, ⟨by repeat (first | (with_reducible first | exact HB.out | apply below_alloc | apply pw_below_drewN | apply below_drew1) | exact HB.out)⟩⟩
   rw [if_neg c5] at H
   have c5b0 : decide (92 < (bt a0 x4_1)) = false := decide_eq_false c5
   clear c5
   by_cases c7 : (bt a0 x4_1) = 34
   ·rw [if_pos c7] at H
    have c7b0 : ((bt a0 x4_1) == 34) = true := beq_iff_eq.mpr c7
    have c7b1 : ((bt a0 x4_1) != 34) = false := bne_eq_false_iff_eq.mpr c7
    clear c7
    obtain ⟨ji8, hji8⟩ : ∃ j_ : Int, (wrap64 (x4_1 + 1)) = j_ := ⟨_, rfl⟩
    replace H : (if 0 ≤ (ji8) then (if (ji8) ≤ (a0.size : Int) then (if 1 ≤ x4_1 then (if x4_1 ≤ (a0.size : Int) then (some (a0.extract 0 ((ji8) : Int).toNat, a0.extract 1 (x4_1 : Int).toNat)) else (none)) else (none)) else (none)) else (none)) = some (r1, r2) := by first | (rw [hji8] at H; exact H) | (simp only [hji8] at H ⊢; exact H)
    have hji8w : (IntKind.i64.wrap (x4_1 + 1)) = ji8 := (i64_w _).trans hji8
    by_cases c9 : 0 ≤ (ji8)
    rotate_left
    ·rw [if_neg c9] at H
     exact absurd H (by simp)
    rw [if_pos c9] at H
    have c9b0 := eq_true c9
    have c9b1 : decide (0 ≤ (ji8)) = true := decide_eq_true c9
    clear c9
    by_cases c10 : (ji8) ≤ (a0.size : Int)
    rotate_left
    ·rw [if_neg c10] at H
     exact absurd H (by simp)
    rw [if_pos c10] at H
    have c10b0 := eq_true c10
    have c10b1 : decide ((ji8) ≤ (a0.size : Int)) = true := decide_eq_true c10
    clear c10
    by_cases c11 : 1 ≤ x4_1
    rotate_left
    ·rw [if_neg c11] at H
     exact absurd H (by simp)
    rw [if_pos c11] at H
    have c11b0 := eq_true c11
    have c11b1 : decide (1 ≤ x4_1) = true := decide_eq_true c11
    clear c11
    by_cases c12 : x4_1 ≤ (a0.size : Int)
    rotate_left
    ·rw [if_neg c12] at H
     exact absurd H (by simp)
    rw [if_pos c12] at H
    have c12b0 := eq_true c12
    have c12b1 : decide (x4_1 ≤ (a0.size : Int)) = true := decide_eq_true c12
    clear c12
    simp only [Option.some.injEq, Prod.mk.injEq] at H
    obtain ⟨rfl, rfl⟩ := H
    have p4 : 0 ≤ (x4_1 : Int) := of_decide_eq_true zq13
    have q4 : x4_1 < (a0.size : Int) := of_decide_eq_true zq13
    have hx4 := bt_at a0 x4_1
    replace p4 := eq_true p4
    replace q4 := eq_true q4
    have p6 : 0 ≤ (x4_1 : Int) := of_decide_eq_true zq13
    have q6 : x4_1 < (a0.size : Int) := of_decide_eq_true zq13
    have hx6 := bt_at a0 x4_1
    replace p6 := eq_true p6
    replace q6 := eq_true q6
    try go_wp2
    have n0_ := mk0 (below_drew1 HB.out)
    clear HB
    have HB := n0_
    clear n0_
    refine start_ (n := 9) (S := fun w' => True) (ds := []) #[false, false, false, false, false, false, false, false, false] zq22 rfl rfl trivial (fun hHeld => ?_); refine with_tabW gjson_tostr.tab6 gjson_tostr.bits6 (fun HT_ HW_ => ?_)
    generalize wr.drew = w13 at HB hHeld ⊢
    refine pure_ (i := 0) (N := some 22) (v := ?_) (a' := ?_) #[true, false, false, false, false, false, false, false, false] rfl rfl (any_of HT_.out zq22) (fun _ _ _ h => h) (Or.inl ⟨by rfl, ?_⟩) ?_ ?_
    rotate_left
    ·intro w'
     go_simp
     with_reducible rfl
    rotate_left
    ·simp only [Act.put, List.setIfInBounds_toArray, List.set_cons_zero, List.set_cons_succ, i64_w, i32_w]
     rfl
    refine pure_ (i := 1) (N := some 23) (v := ?_) (a' := ?_) #[true, true, false, false, false, false, false, false, false] rfl rfl (any_of HT_.out zq22) (fun _ _ _ h => h) (Or.inl ⟨by rfl, ?_⟩) ?_ ?_
    rotate_left
    ·intro w'
     go_simp
     with_reducible rfl
    rotate_left
    ·simp only [Act.put, List.setIfInBounds_toArray, List.set_cons_zero, List.set_cons_succ, i64_w, i32_w]
     rfl
    refine pure_ (i := 2) (N := some 24) (v := ?_) (a' := ?_) #[true, true, true, false, false, false, false, false, false] rfl rfl (any_of HT_.out zq22) (fun _ _ _ h => h) (Or.inl ⟨by rfl, ?_⟩) ?_ ?_
    rotate_left
    ·intro w'
     go_simp
     with_reducible rfl
    rotate_left
    ·simp only [Act.put, List.setIfInBounds_toArray, List.set_cons_zero, List.set_cons_succ, i64_w, i32_w]
     rfl
    refine pure_ (i := 3) (N := some 25) (v := ?_) (a' := ?_) #[true, true, true, true, false, false, false, false, false] rfl rfl (any_of HT_.out zq22) (fun _ _ _ h => h) (Or.inl ⟨by rfl, ?_⟩) ?_ ?_
    rotate_left
    ·intro w'
     go_simp
     with_reducible rfl
    rotate_left
    ·simp only [Act.put, List.setIfInBounds_toArray, List.set_cons_zero, List.set_cons_succ, i64_w, i32_w]
     rfl
    refine pure_ (i := 4) (N := some 26) (v := ?_) (a' := ?_) #[true, true, true, true, true, false, false, false, false] rfl rfl (any_of HT_.out zq22) (fun _ _ _ h => h) (Or.inl ⟨by rfl, ?_⟩) ?_ ?_
    rotate_left
    ·intro w'
     go_simp
     with_reducible rfl
    rotate_left
    ·simp only [Act.put, List.setIfInBounds_toArray, List.set_cons_zero, List.set_cons_succ, i64_w, i32_w]
     rfl
    refine pure_ (i := 5) (N := some 27) (v := ?_) (a' := ?_) #[true, true, true, true, true, true, false, false, false] rfl rfl (any_of HT_.out zq22) (fun _ _ _ h => h) (Or.inl ⟨by rfl, ?_⟩) ?_ ?_
    rotate_left
    ·intro w'
     go_simp
     with_reducible rfl
    rotate_left
    ·simp only [Act.put, List.setIfInBounds_toArray, List.set_cons_zero, List.set_cons_succ, i64_w, i32_w]
     rfl
    refine pure_ (i := 6) (N := some 28) (v := ?_) (a' := ?_) #[true, true, true, true, true, true, true, false, false] rfl rfl (any_of HT_.out zq22) (fun _ _ _ h => h) (Or.inl ⟨by rfl, ?_⟩) ?_ ?_
    rotate_left
    ·intro w'
     go_simp
     with_reducible rfl
    rotate_left
    ·simp only [Act.put, List.setIfInBounds_toArray, List.set_cons_zero, List.set_cons_succ, i64_w, i32_w]
     rfl
    refine pure_ (i := 7) (N := some 2) (v := ?_) (a' := ?_) #[true, true, true, true, true, true, true, true, false] rfl rfl (any_of HT_.out zq22) (fun _ _ _ h => h) (Or.inl ⟨by rfl, ?_⟩) ?_ ?_
    rotate_left
    ·intro w'
     go_simp
     with_reducible rfl
    rotate_left
    ·simp only [Act.put, List.setIfInBounds_toArray, List.set_cons_zero, List.set_cons_succ, i64_w, i32_w]
     rfl
    refine pure_ (i := 8) (N := some 3) (v := ?_) (a' := ?_) #[true, true, true, true, true, true, true, true, true] rfl rfl (any_of HT_.out zq22) (fun _ _ _ h => h) (Or.inl ⟨by rfl, ?_⟩) ?_ ?_
    rotate_left
    ·intro w'
     go_simp
     with_reducible rfl
    rotate_left
    ·simp only [Act.put, List.setIfInBounds_toArray, List.set_cons_zero, List.set_cons_succ, i64_w, i32_w]
     rfl
    refine done_ (done_of HT_.out zq22) ?_
    try go_wp2
    go_ret2
    exact ⟨by first | rfl | (simp [errW_none, errW_some] <;> rfl) | (simp only [← hji8]; first | rfl | (simp [errW_none, errW_some] <;> rfl)) | (simp [*, errW_none, errW_some] <;> rfl), by repeat (first | (with_reducible first | exact HB.out | apply below_alloc | apply pw_below_drewN | apply below_drew1) | exact HB.out)⟩
   rw [if_neg c7] at H
   have c7b0 : ((bt a0 x4_1) == 34) = false := beq_eq_false_iff_ne.mpr c7
   have c7b1 : ((bt a0 x4_1) != 34) = true := bne_iff_ne.mpr c7
   by_cases c15 : (bt a0 x4_1) = 92
   rotate_left
   ·rw [if_neg c15] at H
    have c15b0 : ((bt a0 x4_1) == 92) = false := beq_eq_false_iff_ne.mpr c15
    have c15b1 : ((bt a0 x4_1) != 92) = true := bne_iff_ne.mpr c15
    have H' := mk0 H
    clear H
    have p4 : 0 ≤ (x4_1 : Int) := of_decide_eq_true zq13
    have q4 : x4_1 < (a0.size : Int) := of_decide_eq_true zq13
    have hx4 := bt_at a0 x4_1
    replace p4 := eq_true p4
    replace q4 := eq_true q4
    have p6 : 0 ≤ (x4_1 : Int) := of_decide_eq_true zq13
    have q6 : x4_1 < (a0.size : Int) := of_decide_eq_true zq13
    have hx6 := bt_at a0 x4_1
    replace p6 := eq_true p6
    replace q6 := eq_true q6
    have p14 : 0 ≤ (x4_1 : Int) := of_decide_eq_true zq13
    have q14 : x4_1 < (a0.size : Int) := of_decide_eq_true zq13
    have hx14 := bt_at a0 x4_1
    replace p14 := eq_true p14
    replace q14 := eq_true q14
    go_wp2
    go_roundg k1
    case measure => have := HK1.out; omega
    case rel => exact ⟨(wrap64 (x4_1 + 1)), zq12, H', ⟨by have := HK1.out; omega⟩, ⟨by repeat (first | (with_reducible first | exact HB.out | apply below_alloc | apply pw_below_drewN | apply below_drew1) | exact HB.out)⟩⟩
   rw [if_pos c15] at H
   have c15b0 : ((bt a0 x4_1) == 92) = true := beq_iff_eq.mpr c15
   have c15b1 : ((bt a0 x4_1) != 92) = false := bne_eq_false_iff_eq.mpr c15
   clear c15
   have H' := mk0 H
   clear H
   have p4 : 0 ≤ (x4_1 : Int) := of_decide_eq_true zq13
   have q4 : x4_1 < (a0.size : Int) := of_decide_eq_true zq13
   have hx4 := bt_at a0 x4_1
   replace p4 := eq_true p4
   replace q4 := eq_true q4
   have p6 : 0 ≤ (x4_1 : Int) := of_decide_eq_true zq13
   have q6 : x4_1 < (a0.size : Int) := of_decide_eq_true zq13
   have hx6 := bt_at a0 x4_1
   replace p6 := eq_true p6
   replace q6 := eq_true q6
   have p14 : 0 ≤ (x4_1 : Int) := of_decide_eq_true zq13
   have q14 : x4_1 < (a0.size : Int) := of_decide_eq_true zq13
   have hx14 := bt_at a0 x4_1
   replace p14 := eq_true p14
   replace q14 := eq_true q14
   go_wp2
   go_loopg [4] k1 (fun kq v4 w' => ∃ (x4_2 : Int), v4 = .int .i64 x4_2 ∧ Aside0 (gjson_tostr.l1 kq a0 x4_2 = some (r1, r2)) ∧ Aside0 (kq ≤ k1) ∧ Aside0 (Below w.heap.size w w'))
   case atStart => exact ⟨(wrap64 (x4_1 + 1)), zq12, H', ⟨Nat.le_refl _⟩, ⟨by repeat (first | (with_reducible first | exact HB.out | apply below_alloc | apply pw_below_drewN | apply below_drew1) | exact HB.out)⟩⟩
   case round =>
    clear H'
    try clear c1
    try clear p1
    try clear q1
    try clear hx1
    try clear c2
    try clear c2b0
    try clear p2
    try clear c3
    try clear c3b0
    try clear p4
    try clear q4
    try clear hx4
    try clear c5
    try clear c5b0
    try clear c6
    try clear p6
    try clear q6
    try clear hx6
    try clear c7
    try clear c7b0
    try clear c7b1
    try clear c9
    try clear c9b0
    try clear c9b1
    try clear c10
    try clear c10b0
    try clear c10b1
    try clear c11
    try clear c11b0
    try clear c11b1
    try clear c12
    try clear c12b0
    try clear c12b1
    try clear p14
    try clear q14
    try clear hx14
    try clear c15
    try clear c15b0
    try clear c15b1
    try clear p14
    try clear p4
    try clear p6
    try clear q14
    try clear q4
    try clear q6
    obtain ⟨x4_2, rfl, HA, HK2, HB⟩ := hrel
    cases gk with
    | zero => exact absurd HA.out (by simp [gjson_tostr.l1])
    | succ k2 =>
     have H := HA.out
     clear HA
     simp only [gjson_tostr.l1] at H
     by_cases c16 : x4_2 < (a0.size : Int)
     rotate_left
     ·rw [if_neg c16] at H
      have c16b0 : decide (x4_2 < (a0.size : Int)) = false := decide_eq_false c16
      clear c16
      by_cases c58 : (wrap64 (x4_2 + 1)) < (a0.size : Int)
      rotate_left
      ·rw [if_neg c58] at H
       have c58b0 : decide ((wrap64 (x4_2 + 1)) < (a0.size : Int)) = false := decide_eq_false c58
       clear c58
       by_cases c66 : 0 ≤ x4_2
       rotate_left
       ·rw [if_neg c66] at H
        exact absurd H (by simp)
       rw [if_pos c66] at H
       have c66b0 := eq_true c66
       have c66b1 : decide (0 ≤ x4_2) = true := decide_eq_true c66
       clear c66
       by_cases c67 : x4_2 ≤ (a0.size : Int)
       rotate_left
       ·rw [if_neg c67] at H
        exact absurd H (by simp)
       rw [if_pos c67] at H
       have c67b0 := eq_true c67
       have c67b1 : decide (x4_2 ≤ (a0.size : Int)) = true := decide_eq_true c67
       clear c67
       by_cases c68 : 1 ≤ x4_2
       rotate_left
       ·rw [if_neg c68] at H
        exact absurd H (by simp)
       rw [if_pos c68] at H
       have c68b0 := eq_true c68
       have c68b1 : decide (1 ≤ x4_2) = true := decide_eq_true c68
       clear c68
       have c69b0 := eq_true (of_decide_eq_true zq13 : x4_2 ≤ (a0.size : Int))
       replace H := Option.bind_eq_some_iff.mp H
       obtain ⟨t102, A700, H⟩ := H
       replace H : (some (a0.extract 0 (x4_2 : Int).toNat, t102)) = some (r1, r2) := H
       have A70 := mk0 A700
       clear A700
       simp only [Option.some.injEq, Prod.mk.injEq] at H
       obtain ⟨rfl, rfl⟩ := H
       go_wp2_with (first | ((with_reducible refine gate_callee (f := 59) rfl ?_); refine goesL_ (some 93) rfl rfl Tryd.func59 zq22 rfl #[.string (a0.extract 1 (x4_2 : Int).toNat)] rfl zq2 ?_; (with_reducible refine (gjson_unescape.calls (a0.extract 1 (x4_2 : Int).toNat) t102 _ ?side1 A70.out).mono ?_); (case side1 => exact zq48); rintro e w71 ⟨rfl, hb⟩; refine ⟨_, rfl, ?_⟩; have n0_ := mk0 (below_step zq10 hb); clear HB; have HB := n0_; clear n0_; (try clear hb); (try clear hb2); (try clear hk); (try clear hi)))
       go_ret2
       exact ⟨by first | rfl | (simp [errW_none, errW_some] <;> rfl) | (simp [*, errW_none, errW_some] <;> rfl), by repeat (first | (with_reducible first | exact HB.out | apply below_alloc | apply pw_below_drewN | apply below_drew1) | exact HB.out)⟩
      rw [if_pos c58] at H
      have c58b0 : decide ((wrap64 (x4_2 + 1)) < (a0.size : Int)) = true := decide_eq_true c58
      clear c58
      obtain ⟨ji59, hji59⟩ : ∃ j_ : Int, (wrap64 (x4_2 + 1)) = j_ := ⟨_, rfl⟩
      replace H : (if 0 ≤ (ji59) then (if (ji59) ≤ (a0.size : Int) then (if 1 ≤ x4_2 then (if x4_2 ≤ (a0.size : Int) then ((gjson_unescape.f (a0.extract 1 (x4_2 : Int).toNat)).bind fun t101 => (some (a0.extract 0 ((ji59) : Int).toNat, t101))) else (none)) else (none)) else (none)) else (none)) = some (r1, r2) := by first | (rw [hji59] at H; exact H) | (simp only [hji59] at H ⊢; exact H)
      (try rw [hji59] at c58b0)
      have hji59w : (IntKind.i64.wrap (x4_2 + 1)) = ji59 := (i64_w _).trans hji59
      by_cases c60 : 0 ≤ (ji59)
      rotate_left
      ·rw [if_neg c60] at H
       exact absurd H (by simp)
      rw [if_pos c60] at H
      have c60b0 := eq_true c60
      have c60b1 : decide (0 ≤ (ji59)) = true := decide_eq_true c60
      clear c60
      by_cases c61 : (ji59) ≤ (a0.size : Int)
      rotate_left
      ·rw [if_neg c61] at H
       exact absurd H (by simp)
      rw [if_pos c61] at H
      have c61b0 := eq_true c61
      have c61b1 : decide ((ji59) ≤ (a0.size : Int)) = true := decide_eq_true c61
      clear c61
      by_cases c62 : 1 ≤ x4_2
      rotate_left
      ·rw [if_neg c62] at H
       exact absurd H (by simp)
      rw [if_pos c62] at H
      have c62b0 := eq_true c62
      have c62b1 : decide (1 ≤ x4_2) = true := decide_eq_true c62
      clear c62
      by_cases c63 : x4_2 ≤ (a0.size : Int)
      rotate_left
      ·rw [if_neg c63] at H
       exact absurd H (by simp)
      rw [if_pos c63] at H
      have c63b0 := eq_true c63
      have c63b1 : decide (x4_2 ≤ (a0.size : Int)) = true := decide_eq_true c63
      clear c63
      replace H := Option.bind_eq_some_iff.mp H
      obtain ⟨t101, A640, H⟩ := H
      replace H : (some (a0.extract 0 ((ji59) : Int).toNat, t101)) = some (r1, r2) := H
      have A64 := mk0 A640
      clear A640
      simp only [Option.some.injEq, Prod.mk.injEq] at H
      obtain ⟨rfl, rfl⟩ := H
      go_wp2_with (first | ((with_reducible refine gate_callee (f := 59) rfl ?_); refine goesL_ (some 93) rfl rfl Tryd.func59 zq22 rfl #[.string (a0.extract 1 (x4_2 : Int).toNat)] rfl zq2 ?_; (with_reducible refine (gjson_unescape.calls (a0.extract 1 (x4_2 : Int).toNat) t101 _ ?side1 A64.out).mono ?_); (case side1 => exact zq48); rintro e w65 ⟨rfl, hb⟩; refine ⟨_, rfl, ?_⟩; have n0_ := mk0 (below_step zq10 hb); clear HB; have HB := n0_; clear n0_; (try clear hb); (try clear hb2); (try clear hk); (try clear hi)))
      go_ret2
      exact ⟨by first | rfl | (simp [errW_none, errW_some] <;> rfl) | (simp only [← hji59]; first | rfl | (simp [errW_none, errW_some] <;> rfl)) | (simp [*, errW_none, errW_some] <;> rfl), by repeat (first | (with_reducible first | exact HB.out | apply below_alloc | apply pw_below_drewN | apply below_drew1) | exact HB.out)⟩
     rw [if_pos c16] at H
     have c16b0 : decide (x4_2 < (a0.size : Int)) = true := decide_eq_true c16
     clear c16
     by_cases c17 : 0 ≤ x4_2
     rotate_left
     ·rw [if_neg c17] at H
      exact absurd H (by simp)
     rw [if_pos c17] at H
     have c17b0 : decide (0 ≤ x4_2) = true := decide_eq_true c17
     clear c17
     by_cases c19 : (bt a0 x4_2) > 92
     ·rw [if_pos c19] at H
      have c19b0 : decide (92 < (bt a0 x4_2)) = true := decide_eq_true c19
      clear c19
      have H' := mk0 H
      clear H
      have p18 : 0 ≤ (x4_2 : Int) := of_decide_eq_true zq13
      have q18 : x4_2 < (a0.size : Int) := of_decide_eq_true zq13
      have hx18 := bt_at a0 x4_2
      replace p18 := eq_true p18
      replace q18 := eq_true q18
      go_wp2
      go_roundg k2
      case measure => have := HK1.out; have := HK2.out; omega
      case rel => exact ⟨(wrap64 (x4_2 + 1)), zq12, H', ⟨by have := HK1.out; have := HK2.out; omega⟩, ⟨by repeat (first | (with_reducible first | exact HB.out | apply below_alloc | apply pw_below_drewN | apply below_drew1) | exact HB.out)⟩⟩
     rw [if_neg c19] at H
     have c19b0 : decide (92 < (bt a0 x4_2)) = false := decide_eq_false c19
     clear c19
     by_cases c21 : (bt a0 x4_2) = 34
     rotate_left
     ·rw [if_neg c21] at H
      have c21b0 : ((bt a0 x4_2) == 34) = false := beq_eq_false_iff_ne.mpr c21
      have c21b1 : ((bt a0 x4_2) != 34) = true := bne_iff_ne.mpr c21
      have H' := mk0 H
      clear H
      have p18 : 0 ≤ (x4_2 : Int) := of_decide_eq_true zq13
      have q18 : x4_2 < (a0.size : Int) := of_decide_eq_true zq13
      have hx18 := bt_at a0 x4_2
      replace p18 := eq_true p18
      replace q18 := eq_true q18
      have p20 : 0 ≤ (x4_2 : Int) := of_decide_eq_true zq13
      have q20 : x4_2 < (a0.size : Int) := of_decide_eq_true zq13
      have hx20 := bt_at a0 x4_2
      replace p20 := eq_true p20
      replace q20 := eq_true q20
      go_wp2
      go_roundg k2
      case measure => have := HK1.out; have := HK2.out; omega
      case rel => exact ⟨(wrap64 (x4_2 + 1)), zq12, H', ⟨by have := HK1.out; have := HK2.out; omega⟩, ⟨by repeat (first | (with_reducible first | exact HB.out | apply below_alloc | apply pw_below_drewN | apply below_drew1) | exact HB.out)⟩⟩
     rw [if_pos c21] at H
     have c21b0 : ((bt a0 x4_2) == 34) = true := beq_iff_eq.mpr c21
     have c21b1 : ((bt a0 x4_2) != 34) = false := bne_eq_false_iff_eq.mpr c21
     clear c21
     obtain ⟨ji22, hji22⟩ : ∃ j_ : Int, (wrap64 (x4_2 - 1)) = j_ := ⟨_, rfl⟩
     replace H : (if 0 ≤ (ji22) then (if (ji22) < (a0.size : Int) then (if (bt a0 (ji22)) = 92 then (gjson_tostr.l2 k2 a0 x4_2 0 (wrap64 (x4_2 - 2))) else (if 0 ≤ (wrap64 (x4_2 + 1)) then (if (wrap64 (x4_2 + 1)) ≤ (a0.size : Int) then (if 1 ≤ x4_2 then (if x4_2 ≤ (a0.size : Int) then ((gjson_unescape.f (a0.extract 1 (x4_2 : Int).toNat)).bind fun t105 => (some (a0.extract 0 ((wrap64 (x4_2 + 1)) : Int).toNat, t105))) else (none)) else (none)) else (none)) else (none))) else (none)) else (none)) = some (r1, r2) := by first | (rw [hji22] at H; exact H) | (simp only [hji22] at H ⊢; exact H)
     have hji22w : (IntKind.i64.wrap (x4_2 - 1)) = ji22 := (i64_w _).trans hji22
     by_cases c23 : 0 ≤ (ji22)
     rotate_left
     ·rw [if_neg c23] at H
      exact absurd H (by simp)
     rw [if_pos c23] at H
     have c23b0 : decide (0 ≤ (ji22)) = true := decide_eq_true c23
     clear c23
     by_cases c24 : (ji22) < (a0.size : Int)
     rotate_left
     ·rw [if_neg c24] at H
      exact absurd H (by simp)
     rw [if_pos c24] at H
     have c24b0 : decide ((ji22) < (a0.size : Int)) = true := decide_eq_true c24
     clear c24
     by_cases c26 : (bt a0 (ji22)) = 92
     rotate_left
     ·rw [if_neg c26] at H
      have c26b0 : ((bt a0 (ji22)) == 92) = false := beq_eq_false_iff_ne.mpr c26
      have c26b1 : ((bt a0 (ji22)) != 92) = true := bne_iff_ne.mpr c26
      obtain ⟨ji50, hji50⟩ : ∃ j_ : Int, (wrap64 (x4_2 + 1)) = j_ := ⟨_, rfl⟩
      replace H : (if 0 ≤ (ji50) then (if (ji50) ≤ (a0.size : Int) then (if 1 ≤ x4_2 then (if x4_2 ≤ (a0.size : Int) then ((gjson_unescape.f (a0.extract 1 (x4_2 : Int).toNat)).bind fun t105 => (some (a0.extract 0 ((ji50) : Int).toNat, t105))) else (none)) else (none)) else (none)) else (none)) = some (r1, r2) := by first | (rw [hji50] at H; exact H) | (simp only [hji50] at H ⊢; exact H)
      have hji50w : (IntKind.i64.wrap (x4_2 + 1)) = ji50 := (i64_w _).trans hji50
      by_cases c51 : 0 ≤ (ji50)
      rotate_left
      ·rw [if_neg c51] at H
       exact absurd H (by simp)
      rw [if_pos c51] at H
      have c51b0 := eq_true c51
      have c51b1 : decide (0 ≤ (ji50)) = true := decide_eq_true c51
      clear c51
      by_cases c52 : (ji50) ≤ (a0.size : Int)
      rotate_left
      ·rw [if_neg c52] at H
       exact absurd H (by simp)
      rw [if_pos c52] at H
      have c52b0 := eq_true c52
      have c52b1 : decide ((ji50) ≤ (a0.size : Int)) = true := decide_eq_true c52
      clear c52
      by_cases c53 : 1 ≤ x4_2
      rotate_left
      ·rw [if_neg c53] at H
       exact absurd H (by simp)
      rw [if_pos c53] at H
      have c53b0 := eq_true c53
      have c53b1 : decide (1 ≤ x4_2) = true := decide_eq_true c53
      clear c53
      by_cases c54 : x4_2 ≤ (a0.size : Int)
      rotate_left
      ·rw [if_neg c54] at H
       exact absurd H (by simp)
      rw [if_pos c54] at H
      have c54b0 := eq_true c54
      have c54b1 : decide (x4_2 ≤ (a0.size : Int)) = true := decide_eq_true c54
      clear c54
      replace H := Option.bind_eq_some_iff.mp H
      obtain ⟨t105, A550, H⟩ := H
      replace H : (some (a0.extract 0 ((ji50) : Int).toNat, t105)) = some (r1, r2) := H
      have A55 := mk0 A550
      clear A550
      simp only [Option.some.injEq, Prod.mk.injEq] at H
      obtain ⟨rfl, rfl⟩ := H
      have p18 : 0 ≤ (x4_2 : Int) := of_decide_eq_true zq13
      have q18 : x4_2 < (a0.size : Int) := of_decide_eq_true zq13
      have hx18 := bt_at a0 x4_2
      replace p18 := eq_true p18
      replace q18 := eq_true q18
      have p20 : 0 ≤ (x4_2 : Int) := of_decide_eq_true zq13
      have q20 : x4_2 < (a0.size : Int) := of_decide_eq_true zq13
      have hx20 := bt_at a0 x4_2
      replace p20 := eq_true p20
      replace q20 := eq_true q20
      have p25 : 0 ≤ ((ji22) : Int) := of_decide_eq_true zq13
      have q25 : (ji22) < (a0.size : Int) := of_decide_eq_true zq13
      have hx25 := bt_at a0 (ji22)
      replace p25 := eq_true p25
      replace q25 := eq_true q25
      try go_wp2
      have n0_ := mk0 (below_drew1 HB.out)
      clear HB
      have HB := n0_
      clear n0_
      refine start_ (n := 10) (S := fun w' => True) (ds := []) #[false, false, false, false, false, false, false, false, false, false] zq22 rfl rfl trivial (fun hHeld => ?_); refine with_tabW gjson_tostr.tab21 gjson_tostr.bits21 (fun HT_ HW_ => ?_)
      generalize wr.drew = w56 at HB hHeld ⊢
      refine pure_ (i := 0) (N := some 69) (v := ?_) (a' := ?_) #[true, false, false, false, false, false, false, false, false, false] rfl rfl (any_of HT_.out zq22) (fun _ _ _ h => h) (Or.inl ⟨by rfl, ?_⟩) ?_ ?_
      rotate_left
      ·intro w'
       go_simp
       with_reducible rfl
      rotate_left
      ·simp only [Act.put, List.setIfInBounds_toArray, List.set_cons_zero, List.set_cons_succ, i64_w, i32_w]
       rfl
      refine pure_ (i := 1) (N := some 70) (v := ?_) (a' := ?_) #[true, true, false, false, false, false, false, false, false, false] rfl rfl (any_of HT_.out zq22) (fun _ _ _ h => h) (Or.inl ⟨by rfl, ?_⟩) ?_ ?_
      rotate_left
      ·intro w'
       go_simp
       with_reducible rfl
      rotate_left
      ·simp only [Act.put, List.setIfInBounds_toArray, List.set_cons_zero, List.set_cons_succ, i64_w, i32_w]
       rfl
      refine pure_ (i := 2) (N := some 71) (v := ?_) (a' := ?_) #[true, true, true, false, false, false, false, false, false, false] rfl rfl (any_of HT_.out zq22) (fun _ _ _ h => h) (Or.inl ⟨by rfl, ?_⟩) ?_ ?_
      rotate_left
      ·intro w'
       go_simp
       with_reducible rfl
      rotate_left
      ·simp only [Act.put, List.setIfInBounds_toArray, List.set_cons_zero, List.set_cons_succ, i64_w, i32_w]
       rfl
      refine pure_ (i := 3) (N := some 72) (v := ?_) (a' := ?_) #[true, true, true, true, false, false, false, false, false, false] rfl rfl (any_of HT_.out zq22) (fun _ _ _ h => h) (Or.inl ⟨by rfl, ?_⟩) ?_ ?_
      rotate_left
      ·intro w'
       go_simp
       with_reducible rfl
      rotate_left
      ·simp only [Act.put, List.setIfInBounds_toArray, List.set_cons_zero, List.set_cons_succ, i64_w, i32_w]
       rfl
      refine pure_ (i := 4) (N := some 73) (v := ?_) (a' := ?_) #[true, true, true, true, true, false, false, false, false, false] rfl rfl (any_of HT_.out zq22) (fun _ _ _ h => h) (Or.inl ⟨by rfl, ?_⟩) ?_ ?_
      rotate_left
      ·intro w'
       go_simp
       with_reducible rfl
      rotate_left
      ·simp only [Act.put, List.setIfInBounds_toArray, List.set_cons_zero, List.set_cons_succ, i64_w, i32_w]
       rfl
      refine pure_ (i := 5) (N := some 74) (v := ?_) (a' := ?_) #[true, true, true, true, true, true, false, false, false, false] rfl rfl (any_of HT_.out zq22) (fun _ _ _ h => h) (Or.inl ⟨by rfl, ?_⟩) ?_ ?_
      rotate_left
      ·intro w'
       go_simp
       with_reducible rfl
      rotate_left
      ·simp only [Act.put, List.setIfInBounds_toArray, List.set_cons_zero, List.set_cons_succ, i64_w, i32_w]
       rfl
      refine pure_ (i := 6) (N := some 75) (v := ?_) (a' := ?_) #[true, true, true, true, true, true, true, false, false, false] rfl rfl (any_of HT_.out zq22) (fun _ _ _ h => h) (Or.inl ⟨by rfl, ?_⟩) ?_ ?_
      rotate_left
      ·intro w'
       go_simp
       with_reducible rfl
      rotate_left
      ·simp only [Act.put, List.setIfInBounds_toArray, List.set_cons_zero, List.set_cons_succ, i64_w, i32_w]
       rfl
      refine one_ (i := 7) (N := some 76) #[true, true, true, true, true, true, true, true, false, false] rfl rfl (one_of HT_.out zq22) zq40 (fun K hK => ?_)
      refine goes_ Tryd.func59 zq22 rfl #[.string (a0.extract 1 (x4_2 : Int).toNat)] (by rfl) rfl rfl zq2 ?_
      with_reducible refine (gjson_unescape.calls (a0.extract 1 (x4_2 : Int).toNat) t105 _ ?side1 A55.out).mono ?_
      (case side1 => exact zq48)
      rintro e w57 ⟨rfl, hb⟩
      refine ⟨_, rfl, ?_⟩
      have n0_ := mk0 (below_step zq10 hb)
      clear HB
      have HB := n0_
      clear n0_
      (try clear hb)
      (try clear hb2)
      (try clear hk)
      (try clear hi)
      refine hK.out _ _ trivial (fun hHeld => ?_)
      clear hK K
      refine norm_ (a' := ?_) ?_ ?_
      rotate_left
      ·show Act.put _ (some 76) _ = _
       simp only [Act.put, List.setIfInBounds_toArray, List.set_cons_zero, List.set_cons_succ, i64_w, i32_w]
       rfl
      refine pure_ (i := 8) (N := some 2) (v := ?_) (a' := ?_) #[true, true, true, true, true, true, true, true, true, false] rfl rfl (any_of HT_.out zq22) (fun _ _ _ h => h) (Or.inl ⟨by rfl, ?_⟩) ?_ ?_
      rotate_left
      ·intro w'
       go_simp
       with_reducible rfl
      rotate_left
      ·simp only [Act.put, List.setIfInBounds_toArray, List.set_cons_zero, List.set_cons_succ, i64_w, i32_w]
       rfl
      refine pure_ (i := 9) (N := some 3) (v := ?_) (a' := ?_) #[true, true, true, true, true, true, true, true, true, true] rfl rfl (any_of HT_.out zq22) (fun _ _ _ h => h) (Or.inl ⟨by rfl, ?_⟩) ?_ ?_
      rotate_left
      ·intro w'
       go_simp
       with_reducible rfl
      rotate_left
      ·simp only [Act.put, List.setIfInBounds_toArray, List.set_cons_zero, List.set_cons_succ, i64_w, i32_w]
       rfl
      refine done_ (done_of HT_.out zq22) ?_
      try go_wp2
      go_ret2
      exact ⟨by first | rfl | (simp [errW_none, errW_some] <;> rfl) | (simp only [← hji22, ← hji50]; first | rfl | (simp [errW_none, errW_some] <;> rfl)) | (simp [*, errW_none, errW_some] <;> rfl), by repeat (first | (with_reducible first | exact HB.out | apply below_alloc | apply pw_below_drewN | apply below_drew1) | exact HB.out)⟩
     rw [if_pos c26] at H
     have c26b0 : ((bt a0 (ji22)) == 92) = true := beq_iff_eq.mpr c26
     have c26b1 : ((bt a0 (ji22)) != 92) = false := bne_eq_false_iff_eq.mpr c26
     clear c26
     have H' := mk0 H
     clear H
     have p18 : 0 ≤ (x4_2 : Int) := of_decide_eq_true zq13
     have q18 : x4_2 < (a0.size : Int) := of_decide_eq_true zq13
     have hx18 := bt_at a0 x4_2
     replace p18 := eq_true p18
     replace q18 := eq_true q18
     have p20 : 0 ≤ (x4_2 : Int) := of_decide_eq_true zq13
     have q20 : x4_2 < (a0.size : Int) := of_decide_eq_true zq13
     have hx20 := bt_at a0 x4_2
     replace p20 := eq_true p20
     replace q20 := eq_true q20
     have p25 : 0 ≤ ((ji22) : Int) := of_decide_eq_true zq13
     have q25 : (ji22) < (a0.size : Int) := of_decide_eq_true zq13
     have hx25 := bt_at a0 (ji22)
     replace p25 := eq_true p25
     replace q25 := eq_true q25
     go_wp2
     go_loopg [5, 6] k2 (fun kq v5 v6 w' => ∃ (x5_3 : Int) (x6_3 : Int), v5 = .int .i64 x5_3 ∧ v6 = .int .i64 x6_3 ∧ Aside0 (gjson_tostr.l2 kq a0 x4_2 x5_3 x6_3 = some (r1, r2)) ∧ Aside0 (kq ≤ k2) ∧ Aside0 (Below w.heap.size w w'))
     case atStart => exact ⟨(0), (wrap64 (x4_2 - 2)), zq42, zq42, H', ⟨Nat.le_refl _⟩, ⟨by repeat (first | (with_reducible first | exact HB.out | apply below_alloc | apply pw_below_drewN | apply below_drew1) | exact HB.out)⟩⟩
     case round =>
      clear H'
      try clear c1
      try clear p1
      try clear q1
      try clear hx1
      try clear c2
      try clear c2b0
      try clear p2
      try clear q2
      try clear hx2
      try clear c3
      try clear c3b0
      try clear p4
      try clear q4
      try clear hx4
      try clear c5
      try clear c5b0
      try clear c6
      try clear p6
      try clear q6
      try clear hx6
      try clear c7
      try clear c7b0
      try clear c7b1
      try clear c9
      try clear c9b0
      try clear c9b1
      try clear c10
      try clear c10b0
      try clear c10b1
      try clear c11
      try clear c11b0
      try clear c11b1
      try clear c12
      try clear c12b0
      try clear c12b1
      try clear p14
      try clear q14
      try clear hx14
      try clear c15
      try clear c15b0
      try clear c15b1
      try clear c16
      try clear c16b0
      try clear c17
      try clear c17b0
      try clear p18
      try clear q18
      try clear hx18
      try clear c19
      try clear c19b0
      try clear p20
      try clear q20
      try clear hx20
      try clear c21
      try clear c21b0
      try clear c21b1
      try clear c23
      try clear c23b0
      try clear c24
      try clear c24b0
      try clear p25
      try clear q25
      try clear hx25
      try clear c26
      try clear c26b0
      try clear c26b1
      try clear p1
      try clear p14
      try clear p18
      try clear p2
      try clear p20
      try clear p25
      try clear p4
      try clear p6
      try clear q1
      try clear q14
      try clear q18
      try clear q20
      try clear q25
      try clear q4
      try clear q6
      obtain ⟨x5_3, x6_3, rfl, rfl, HA, HK3, HB⟩ := hrel
      cases gk with
      | zero => exact absurd HA.out (by simp [gjson_tostr.l2])
      | succ k3 =>
       have H := HA.out
       clear HA
       simp only [gjson_tostr.l2] at H
       by_cases c27 : x6_3 > 0
       rotate_left
       ·rw [if_neg c27] at H
        have c27b0 : decide (0 < x6_3) = false := decide_eq_false c27
        clear c27
        by_cases c41 : (Int.tmod x5_3 2) = 0
        ·rw [if_pos c41] at H
         have c41b0 : ((Int.tmod x5_3 2) == 0) = true := beq_iff_eq.mpr c41
         have c41b1 : ((Int.tmod x5_3 2) != 0) = false := bne_eq_false_iff_eq.mpr c41
         clear c41
         have H' := mk0 H
         clear H
         go_wp2
         (try simp only [← hji22])
         go_roundg k3
         case measure => have := HK1.out; have := HK2.out; have := HK3.out; omega
         case rel => exact ⟨(wrap64 (x4_2 + 1)), zq42, (by first | exact H' | (simp only [← hji22] at H' ⊢; exact H')), ⟨by have := HK1.out; have := HK2.out; have := HK3.out; omega⟩, ⟨by repeat (first | (with_reducible first | exact HB.out | apply below_alloc | apply pw_below_drewN | apply below_drew1) | exact HB.out)⟩⟩
        rw [if_neg c41] at H
        have c41b0 : ((Int.tmod x5_3 2) == 0) = false := beq_eq_false_iff_ne.mpr c41
        have c41b1 : ((Int.tmod x5_3 2) != 0) = true := bne_iff_ne.mpr c41
        obtain ⟨ji42, hji42⟩ : ∃ j_ : Int, (wrap64 (x4_2 + 1)) = j_ := ⟨_, rfl⟩
        replace H : (if 0 ≤ (ji42) then (if (ji42) ≤ (a0.size : Int) then (if 1 ≤ x4_2 then (if x4_2 ≤ (a0.size : Int) then ((gjson_unescape.f (a0.extract 1 (x4_2 : Int).toNat)).bind fun t104 => (some (a0.extract 0 ((ji42) : Int).toNat, t104))) else (none)) else (none)) else (none)) else (none)) = some (r1, r2) := by first | (rw [hji42] at H; exact H) | (simp only [hji42] at H ⊢; exact H)
        have hji42w : (IntKind.i64.wrap (x4_2 + 1)) = ji42 := (i64_w _).trans hji42
        by_cases c43 : 0 ≤ (ji42)
        rotate_left
        ·rw [if_neg c43] at H
         exact absurd H (by simp)
        rw [if_pos c43] at H
        have c43b0 := eq_true c43
        have c43b1 : decide (0 ≤ (ji42)) = true := decide_eq_true c43
        clear c43
        by_cases c44 : (ji42) ≤ (a0.size : Int)
        rotate_left
        ·rw [if_neg c44] at H
         exact absurd H (by simp)
        rw [if_pos c44] at H
        have c44b0 := eq_true c44
        have c44b1 : decide ((ji42) ≤ (a0.size : Int)) = true := decide_eq_true c44
        clear c44
        by_cases c45 : 1 ≤ x4_2
        rotate_left
        ·rw [if_neg c45] at H
         exact absurd H (by simp)
        rw [if_pos c45] at H
        have c45b0 := eq_true c45
        have c45b1 : decide (1 ≤ x4_2) = true := decide_eq_true c45
        clear c45
        by_cases c46 : x4_2 ≤ (a0.size : Int)
        rotate_left
        ·rw [if_neg c46] at H
         exact absurd H (by simp)
        rw [if_pos c46] at H
        have c46b0 := eq_true c46
        have c46b1 : decide (x4_2 ≤ (a0.size : Int)) = true := decide_eq_true c46
        clear c46
        replace H := Option.bind_eq_some_iff.mp H
        obtain ⟨t104, A470, H⟩ := H
        replace H : (some (a0.extract 0 ((ji42) : Int).toNat, t104)) = some (r1, r2) := H
        have A47 := mk0 A470
        clear A470
        simp only [Option.some.injEq, Prod.mk.injEq] at H
        obtain ⟨rfl, rfl⟩ := H
        try go_wp2
        have n0_ := mk0 (below_drew1 HB.out)
        clear HB
        have HB := n0_
        clear n0_
        refine start_ (n := 10) (S := fun w' => True) (ds := []) #[false, false, false, false, false, false, false, false, false, false] zq22 rfl rfl trivial (fun hHeld => ?_); refine with_tabW gjson_tostr.tab21 gjson_tostr.bits21 (fun HT_ HW_ => ?_)
        generalize wr.drew = w48 at HB hHeld ⊢
        refine pure_ (i := 0) (N := some 69) (v := ?_) (a' := ?_) #[true, false, false, false, false, false, false, false, false, false] rfl rfl (any_of HT_.out zq22) (fun _ _ _ h => h) (Or.inl ⟨by rfl, ?_⟩) ?_ ?_
        rotate_left
        ·intro w'
         go_simp
         with_reducible rfl
        rotate_left
        ·simp only [Act.put, List.setIfInBounds_toArray, List.set_cons_zero, List.set_cons_succ, i64_w, i32_w]
         rfl
        refine pure_ (i := 1) (N := some 70) (v := ?_) (a' := ?_) #[true, true, false, false, false, false, false, false, false, false] rfl rfl (any_of HT_.out zq22) (fun _ _ _ h => h) (Or.inl ⟨by rfl, ?_⟩) ?_ ?_
        rotate_left
        ·intro w'
         go_simp
         with_reducible rfl
        rotate_left
        ·simp only [Act.put, List.setIfInBounds_toArray, List.set_cons_zero, List.set_cons_succ, i64_w, i32_w]
         rfl
        refine pure_ (i := 2) (N := some 71) (v := ?_) (a' := ?_) #[true, true, true, false, false, false, false, false, false, false] rfl rfl (any_of HT_.out zq22) (fun _ _ _ h => h) (Or.inl ⟨by rfl, ?_⟩) ?_ ?_
        rotate_left
        ·intro w'
         go_simp
         with_reducible rfl
        rotate_left
        ·simp only [Act.put, List.setIfInBounds_toArray, List.set_cons_zero, List.set_cons_succ, i64_w, i32_w]
         rfl
        refine pure_ (i := 3) (N := some 72) (v := ?_) (a' := ?_) #[true, true, true, true, false, false, false, false, false, false] rfl rfl (any_of HT_.out zq22) (fun _ _ _ h => h) (Or.inl ⟨by rfl, ?_⟩) ?_ ?_
        rotate_left
        ·intro w'
         go_simp
         with_reducible rfl
        rotate_left
        ·simp only [Act.put, List.setIfInBounds_toArray, List.set_cons_zero, List.set_cons_succ, i64_w, i32_w]
         rfl
        refine pure_ (i := 4) (N := some 73) (v := ?_) (a' := ?_) #[true, true, true, true, true, false, false, false, false, false] rfl rfl (any_of HT_.out zq22) (fun _ _ _ h => h) (Or.inl ⟨by rfl, ?_⟩) ?_ ?_
        rotate_left
        ·intro w'
         go_simp
         with_reducible rfl
        rotate_left
        ·simp only [Act.put, List.setIfInBounds_toArray, List.set_cons_zero, List.set_cons_succ, i64_w, i32_w]
         rfl
        refine pure_ (i := 5) (N := some 74) (v := ?_) (a' := ?_) #[true, true, true, true, true, true, false, false, false, false] rfl rfl (any_of HT_.out zq22) (fun _ _ _ h => h) (Or.inl ⟨by rfl, ?_⟩) ?_ ?_
        rotate_left
        ·intro w'
         go_simp
         with_reducible rfl
        rotate_left
        ·simp only [Act.put, List.setIfInBounds_toArray, List.set_cons_zero, List.set_cons_succ, i64_w, i32_w]
         rfl
        refine pure_ (i := 6) (N := some 75) (v := ?_) (a' := ?_) #[true, true, true, true, true, true, true, false, false, false] rfl rfl (any_of HT_.out zq22) (fun _ _ _ h => h) (Or.inl ⟨by rfl, ?_⟩) ?_ ?_
        rotate_left
        ·intro w'
         go_simp
         with_reducible rfl
        rotate_left
        ·simp only [Act.put, List.setIfInBounds_toArray, List.set_cons_zero, List.set_cons_succ, i64_w, i32_w]
         rfl
        refine one_ (i := 7) (N := some 76) #[true, true, true, true, true, true, true, true, false, false] rfl rfl (one_of HT_.out zq22) zq40 (fun K hK => ?_)
        refine goes_ Tryd.func59 zq22 rfl #[.string (a0.extract 1 (x4_2 : Int).toNat)] (by rfl) rfl rfl zq2 ?_
        with_reducible refine (gjson_unescape.calls (a0.extract 1 (x4_2 : Int).toNat) t104 _ ?side1 A47.out).mono ?_
        (case side1 => exact zq48)
        rintro e w49 ⟨rfl, hb⟩
        refine ⟨_, rfl, ?_⟩
        have n0_ := mk0 (below_step zq10 hb)
        clear HB
        have HB := n0_
        clear n0_
        (try clear hb)
        (try clear hb2)
        (try clear hk)
        (try clear hi)
        refine hK.out _ _ trivial (fun hHeld => ?_)
        clear hK K
        refine norm_ (a' := ?_) ?_ ?_
        rotate_left
        ·show Act.put _ (some 76) _ = _
         simp only [Act.put, List.setIfInBounds_toArray, List.set_cons_zero, List.set_cons_succ, i64_w, i32_w]
         rfl
        refine pure_ (i := 8) (N := some 2) (v := ?_) (a' := ?_) #[true, true, true, true, true, true, true, true, true, false] rfl rfl (any_of HT_.out zq22) (fun _ _ _ h => h) (Or.inl ⟨by rfl, ?_⟩) ?_ ?_
        rotate_left
        ·intro w'
         go_simp
         with_reducible rfl
        rotate_left
        ·simp only [Act.put, List.setIfInBounds_toArray, List.set_cons_zero, List.set_cons_succ, i64_w, i32_w]
         rfl
        refine pure_ (i := 9) (N := some 3) (v := ?_) (a' := ?_) #[true, true, true, true, true, true, true, true, true, true] rfl rfl (any_of HT_.out zq22) (fun _ _ _ h => h) (Or.inl ⟨by rfl, ?_⟩) ?_ ?_
        rotate_left
        ·intro w'
         go_simp
         with_reducible rfl
        rotate_left
        ·simp only [Act.put, List.setIfInBounds_toArray, List.set_cons_zero, List.set_cons_succ, i64_w, i32_w]
         rfl
        refine done_ (done_of HT_.out zq22) ?_
        try go_wp2
        go_ret2
        exact ⟨by first | rfl | (simp [errW_none, errW_some] <;> rfl) | (simp only [← hji22, ← hji42]; first | rfl | (simp [errW_none, errW_some] <;> rfl)) | (simp [*, errW_none, errW_some] <;> rfl), by repeat (first | (with_reducible first | exact HB.out | apply below_alloc | apply pw_below_drewN | apply below_drew1) | exact HB.out)⟩
       rw [if_pos c27] at H
       have c27b0 : decide (0 < x6_3) = true := decide_eq_true c27
       clear c27
       by_cases c28 : 0 ≤ x6_3
       rotate_left
       ·rw [if_neg c28] at H
        exact absurd H (by simp)
       rw [if_pos c28] at H
       have c28b0 : decide (0 ≤ x6_3) = true := decide_eq_true c28
       clear c28
       by_cases c29 : x6_3 < (a0.size : Int)
       rotate_left
       ·rw [if_neg c29] at H
        exact absurd H (by simp)
       rw [if_pos c29] at H
       have c29b0 : decide (x6_3 < (a0.size : Int)) = true := decide_eq_true c29
       clear c29
       by_cases c31 : (bt a0 x6_3) = 92
       ·rw [if_pos c31] at H
        have c31b0 : ((bt a0 x6_3) == 92) = true := beq_iff_eq.mpr c31
        have c31b1 : ((bt a0 x6_3) != 92) = false := bne_eq_false_iff_eq.mpr c31
        clear c31
        have H' := mk0 H
        clear H
        have p30 : 0 ≤ (x6_3 : Int) := of_decide_eq_true zq13
        have q30 : x6_3 < (a0.size : Int) := of_decide_eq_true zq13
        have hx30 := bt_at a0 x6_3
        replace p30 := eq_true p30
        replace q30 := eq_true q30
        go_wp2
        go_roundg k3
        case measure => have := HK1.out; have := HK2.out; have := HK3.out; omega
        case rel => exact ⟨(wrap64 (x5_3 + 1)), (wrap64 (x6_3 - 1)), zq42, zq42, H', ⟨by have := HK1.out; have := HK2.out; have := HK3.out; omega⟩, ⟨by repeat (first | (with_reducible first | exact HB.out | apply below_alloc | apply pw_below_drewN | apply below_drew1) | exact HB.out)⟩⟩
       rw [if_neg c31] at H
       have c31b0 : ((bt a0 x6_3) == 92) = false := beq_eq_false_iff_ne.mpr c31
       have c31b1 : ((bt a0 x6_3) != 92) = true := bne_iff_ne.mpr c31
       by_cases c32 : (Int.tmod x5_3 2) = 0
       ·rw [if_pos c32] at H
        have c32b0 : ((Int.tmod x5_3 2) == 0) = true := beq_iff_eq.mpr c32
        have c32b1 : ((Int.tmod x5_3 2) != 0) = false := bne_eq_false_iff_eq.mpr c32
        clear c32
        have H' := mk0 H
        clear H
        have p30 : 0 ≤ (x6_3 : Int) := of_decide_eq_true zq13
        have q30 : x6_3 < (a0.size : Int) := of_decide_eq_true zq13
        have hx30 := bt_at a0 x6_3
        replace p30 := eq_true p30
        replace q30 := eq_true q30
        go_wp2
        (try simp only [← hji22])
        go_roundg k3
        case measure => have := HK1.out; have := HK2.out; have := HK3.out; omega
        case rel => exact ⟨(wrap64 (x4_2 + 1)), zq42, (by first | exact H' | (simp only [← hji22] at H' ⊢; exact H')), ⟨by have := HK1.out; have := HK2.out; have := HK3.out; omega⟩, ⟨by repeat (first | (with_reducible first | exact HB.out | apply below_alloc | apply pw_below_drewN | apply below_drew1) | exact HB.out)⟩⟩
       rw [if_neg c32] at H
       have c32b0 : ((Int.tmod x5_3 2) == 0) = false := beq_eq_false_iff_ne.mpr c32
       have c32b1 : ((Int.tmod x5_3 2) != 0) = true := bne_iff_ne.mpr c32
       obtain ⟨ji33, hji33⟩ : ∃ j_ : Int, (wrap64 (x4_2 + 1)) = j_ := ⟨_, rfl⟩
       replace H : (if 0 ≤ (ji33) then (if (ji33) ≤ (a0.size : Int) then (if 1 ≤ x4_2 then (if x4_2 ≤ (a0.size : Int) then ((gjson_unescape.f (a0.extract 1 (x4_2 : Int).toNat)).bind fun t103 => (some (a0.extract 0 ((ji33) : Int).toNat, t103))) else (none)) else (none)) else (none)) else (none)) = some (r1, r2) := by first | (rw [hji33] at H; exact H) | (simp only [hji33] at H ⊢; exact H)
       have hji33w : (IntKind.i64.wrap (x4_2 + 1)) = ji33 := (i64_w _).trans hji33
       by_cases c34 : 0 ≤ (ji33)
       rotate_left
       ·rw [if_neg c34] at H
        exact absurd H (by simp)
       rw [if_pos c34] at H
       have c34b0 := eq_true c34
       have c34b1 : decide (0 ≤ (ji33)) = true := decide_eq_true c34
       clear c34
       by_cases c35 : (ji33) ≤ (a0.size : Int)
       rotate_left
       ·rw [if_neg c35] at H
        exact absurd H (by simp)
       rw [if_pos c35] at H
       have c35b0 := eq_true c35
       have c35b1 : decide ((ji33) ≤ (a0.size : Int)) = true := decide_eq_true c35
       clear c35
       by_cases c36 : 1 ≤ x4_2
       rotate_left
       ·rw [if_neg c36] at H
        exact absurd H (by simp)
       rw [if_pos c36] at H
       have c36b0 := eq_true c36
       have c36b1 : decide (1 ≤ x4_2) = true := decide_eq_true c36
       clear c36
       by_cases c37 : x4_2 ≤ (a0.size : Int)
       rotate_left
       ·rw [if_neg c37] at H
        exact absurd H (by simp)
       rw [if_pos c37] at H
       have c37b0 := eq_true c37
       have c37b1 : decide (x4_2 ≤ (a0.size : Int)) = true := decide_eq_true c37
       clear c37
       replace H := Option.bind_eq_some_iff.mp H
       obtain ⟨t103, A380, H⟩ := H
       replace H : (some (a0.extract 0 ((ji33) : Int).toNat, t103)) = some (r1, r2) := H
       have A38 := mk0 A380
       clear A380
       simp only [Option.some.injEq, Prod.mk.injEq] at H
       obtain ⟨rfl, rfl⟩ := H
       have p30 : 0 ≤ (x6_3 : Int) := of_decide_eq_true zq13
       have q30 : x6_3 < (a0.size : Int) := of_decide_eq_true zq13
       have hx30 := bt_at a0 x6_3
       replace p30 := eq_true p30
       replace q30 := eq_true q30
       try go_wp2
       have n0_ := mk0 (below_drew1 HB.out)
       clear HB
       have HB := n0_
       clear n0_
       refine start_ (n := 10) (S := fun w' => True) (ds := []) #[false, false, false, false, false, false, false, false, false, false] zq22 rfl rfl trivial (fun hHeld => ?_); refine with_tabW gjson_tostr.tab21 gjson_tostr.bits21 (fun HT_ HW_ => ?_)
       generalize wr.drew = w39 at HB hHeld ⊢
       refine pure_ (i := 0) (N := some 69) (v := ?_) (a' := ?_) #[true, false, false, false, false, false, false, false, false, false] rfl rfl (any_of HT_.out zq22) (fun _ _ _ h => h) (Or.inl ⟨by rfl, ?_⟩) ?_ ?_
       rotate_left
       ·intro w'
        go_simp
        with_reducible rfl
       rotate_left
       ·simp only [Act.put, List.setIfInBounds_toArray, List.set_cons_zero, List.set_cons_succ, i64_w, i32_w]
        rfl
       refine pure_ (i := 1) (N := some 70) (v := ?_) (a' := ?_) #[true, true, false, false, false, false, false, false, false, false] rfl rfl (any_of HT_.out zq22) (fun _ _ _ h => h) (Or.inl ⟨by rfl, ?_⟩) ?_ ?_
       rotate_left
       ·intro w'
        go_simp
        with_reducible rfl
       rotate_left
       ·simp only [Act.put, List.setIfInBounds_toArray, List.set_cons_zero, List.set_cons_succ, i64_w, i32_w]
        rfl
       refine pure_ (i := 2) (N := some 71) (v := ?_) (a' := ?_) #[true, true, true, false, false, false, false, false, false, false] rfl rfl (any_of HT_.out zq22) (fun _ _ _ h => h) (Or.inl ⟨by rfl, ?_⟩) ?_ ?_
       rotate_left
       ·intro w'
        go_simp
        with_reducible rfl
       rotate_left
       ·simp only [Act.put, List.setIfInBounds_toArray, List.set_cons_zero, List.set_cons_succ, i64_w, i32_w]
        rfl
       refine pure_ (i := 3) (N := some 72) (v := ?_) (a' := ?_) #[true, true, true, true, false, false, false, false, false, false] rfl rfl (any_of HT_.out zq22) (fun _ _ _ h => h) (Or.inl ⟨by rfl, ?_⟩) ?_ ?_
       rotate_left
       ·intro w'
        go_simp
        with_reducible rfl
       rotate_left
       ·simp only [Act.put, List.setIfInBounds_toArray, List.set_cons_zero, List.set_cons_succ, i64_w, i32_w]
        rfl
       refine pure_ (i := 4) (N := some 73) (v := ?_) (a' := ?_) #[true, true, true, true, true, false, false, false, false, false] rfl rfl (any_of HT_.out zq22) (fun _ _ _ h => h) (Or.inl ⟨by rfl, ?_⟩) ?_ ?_
       rotate_left
       ·intro w'
        go_simp
        with_reducible rfl
       rotate_left
       ·simp only [Act.put, List.setIfInBounds_toArray, List.set_cons_zero, List.set_cons_succ, i64_w, i32_w]
        rfl
       refine pure_ (i := 5) (N := some 74) (v := ?_) (a' := ?_) #[true, true, true, true, true, true, false, false, false, false] rfl rfl (any_of HT_.out zq22) (fun _ _ _ h => h) (Or.inl ⟨by rfl, ?_⟩) ?_ ?_
       rotate_left
       ·intro w'
        go_simp
        with_reducible rfl
       rotate_left
       ·simp only [Act.put, List.setIfInBounds_toArray, List.set_cons_zero, List.set_cons_succ, i64_w, i32_w]
        rfl
       refine pure_ (i := 6) (N := some 75) (v := ?_) (a' := ?_) #[true, true, true, true, true, true, true, false, false, false] rfl rfl (any_of HT_.out zq22) (fun _ _ _ h => h) (Or.inl ⟨by rfl, ?_⟩) ?_ ?_
       rotate_left
       ·intro w'
        go_simp
        with_reducible rfl
       rotate_left
       ·simp only [Act.put, List.setIfInBounds_toArray, List.set_cons_zero, List.set_cons_succ, i64_w, i32_w]
        rfl
       refine one_ (i := 7) (N := some 76) #[true, true, true, true, true, true, true, true, false, false] rfl rfl (one_of HT_.out zq22) zq40 (fun K hK => ?_)
       refine goes_ Tryd.func59 zq22 rfl #[.string (a0.extract 1 (x4_2 : Int).toNat)] (by rfl) rfl rfl zq2 ?_
       with_reducible refine (gjson_unescape.calls (a0.extract 1 (x4_2 : Int).toNat) t103 _ ?side1 A38.out).mono ?_
       (case side1 => exact zq48)
       rintro e w40 ⟨rfl, hb⟩
       refine ⟨_, rfl, ?_⟩
       have n0_ := mk0 (below_step zq10 hb)
       clear HB
       have HB := n0_
       clear n0_
       (try clear hb)
       (try clear hb2)
       (try clear hk)
       (try clear hi)
       refine hK.out _ _ trivial (fun hHeld => ?_)
       clear hK K
       refine norm_ (a' := ?_) ?_ ?_
       rotate_left
       ·show Act.put _ (some 76) _ = _
        simp only [Act.put, List.setIfInBounds_toArray, List.set_cons_zero, List.set_cons_succ, i64_w, i32_w]
        rfl
       refine pure_ (i := 8) (N := some 2) (v := ?_) (a' := ?_) #[true, true, true, true, true, true, true, true, true, false] rfl rfl (any_of HT_.out zq22) (fun _ _ _ h => h) (Or.inl ⟨by rfl, ?_⟩) ?_ ?_
       rotate_left
       ·intro w'
        go_simp
        with_reducible rfl
       rotate_left
       ·simp only [Act.put, List.setIfInBounds_toArray, List.set_cons_zero, List.set_cons_succ, i64_w, i32_w]
        rfl
       refine pure_ (i := 9) (N := some 3) (v := ?_) (a' := ?_) #[true, true, true, true, true, true, true, true, true, true] rfl rfl (any_of HT_.out zq22) (fun _ _ _ h => h) (Or.inl ⟨by rfl, ?_⟩) ?_ ?_
       rotate_left
       ·intro w'
        go_simp
        with_reducible rfl
       rotate_left
       ·simp only [Act.put, List.setIfInBounds_toArray, List.set_cons_zero, List.set_cons_succ, i64_w, i32_w]
        rfl
       refine done_ (done_of HT_.out zq22) ?_
       try go_wp2
       go_ret2
       exact ⟨by first | rfl | (simp [errW_none, errW_some] <;> rfl) | (simp only [← hji22, ← hji33]; first | rfl | (simp [errW_none, errW_some] <;> rfl)) | (simp [*, errW_none, errW_some] <;> rfl), by repeat (first | (with_reducible first | exact HB.out | apply below_alloc | apply pw_below_drewN | apply below_drew1) | exact HB.out)⟩
def gjson_DoorTostr.f (k : Nat) (a0 : ByteArray) : Option (ByteArray × ByteArray) := (gjson_tostr.f k a0).bind fun bt101 => (some (bt101.1, bt101.2))
theorem gjson_DoorTostr.mono : ∀ a0 k, LeO (gjson_DoorTostr.f k a0) (gjson_DoorTostr.f (k + 1) a0) := by
 intro a0 k
 unfold gjson_DoorTostr.f
 repeat' first
  | (with_reducible exact gjson_tostr.mono _ _)
  | (with_reducible exact LeO.refl _)
  | (with_reducible exact LeO.none _)
  | (with_reducible refine LeO.ite ?_ ?_)
  | (with_reducible refine LeO.bind ?_ (fun _ => ?_))
  | exact gjson_tostr.mono _ _
  | exact LeO.none _
  | refine LeO.ite ?_ ?_
  | refine LeO.bind ?_ (fun _ => ?_)
set_option maxHeartbeats 8000000 in
set_option maxRecDepth 100000 in
theorem gjson_DoorTostr.calls (k : Nat) (a0 : ByteArray) (r1 : ByteArray) (r2 : ByteArray) (w : World) (hG : Laid w) (h : gjson_DoorTostr.f k a0 = some (r1, r2)) :
 Calls Tryd.prog 36 #[.string a0] w fun e w' => e = .returned (.tuple #[.string r1, .string r2]) ∧ Below w.heap.size w w' := by
 have HG := mk0 hG
 clear hG
 have HB := mk0 (Below.refl w.heap.size w)
 have H : ((gjson_tostr.f k a0).bind fun bt101 => (some (bt101.1, bt101.2))) = some (r1, r2) := h
 clear h
 replace H := Option.bind_eq_some_iff.mp H
 obtain ⟨⟨t101, t102⟩, A20, H⟩ := H
 replace H : (some (t101, t102)) = some (r1, r2) := H
 have A2 := mk0 A20
 clear A20
 simp only [Option.some.injEq, Prod.mk.injEq] at H
 obtain ⟨rfl, rfl⟩ := H
 go_enter Tryd.func36, Tryd.ntmps36
 go_wp2_with (first | ((with_reducible refine gate_callee (f := 60) rfl ?_); refine goesL_ (some 5) rfl rfl Tryd.func60 zq22 rfl #[.string a0] rfl zq2 ?_; (with_reducible refine (gjson_tostr.calls k a0 t101 t102 _ ?side1 A2.out).mono ?_); (case side1 => exact zq48); rintro e w3 ⟨rfl, hb⟩; refine ⟨_, rfl, ?_⟩; have n0_ := mk0 (below_step zq10 hb); clear HB; have HB := n0_; clear n0_; (try clear hb); (try clear hb2); (try clear hk); (try clear hi)))
 go_ret2
 exact ⟨by first | rfl | (simp [errW_none, errW_some] <;> rfl) | (simp [*, errW_none, errW_some] <;> rfl), by repeat (first | (with_reducible first | exact HB.out | apply below_alloc | apply pw_below_drewN | apply below_drew1) | exact HB.out)⟩
def impl_GjStringText.f (k : Nat) (a0 : ByteArray) : Option (ByteArray × ByteArray) := (gjson_DoorTostr.f k a0).bind fun bt101 => (some (bt101.1, bt101.2))
theorem impl_GjStringText.mono : ∀ a0 k, LeO (impl_GjStringText.f k a0) (impl_GjStringText.f (k + 1) a0) := by
 intro a0 k
 unfold impl_GjStringText.f
 repeat' first
  | (with_reducible exact gjson_DoorTostr.mono _ _)
  | (with_reducible exact LeO.refl _)
  | (with_reducible exact LeO.none _)
  | (with_reducible refine LeO.ite ?_ ?_)
  | (with_reducible refine LeO.bind ?_ (fun _ => ?_))
  | exact gjson_DoorTostr.mono _ _
  | exact LeO.none _
  | refine LeO.ite ?_ ?_
  | refine LeO.bind ?_ (fun _ => ?_)
set_option maxHeartbeats 8000000 in
set_option maxRecDepth 100000 in
theorem impl_GjStringText.calls (k : Nat) (a0 : ByteArray) (r1 : ByteArray) (r2 : ByteArray) (w : World) (hG : Laid w) (h : impl_GjStringText.f k a0 = some (r1, r2)) :
 Calls Tryd.prog 21 #[.string a0] w fun e w' => e = .returned (.tuple #[.string r1, .string r2]) ∧ Below w.heap.size w w' := by
 have HG := mk0 hG
 clear hG
 have HB := mk0 (Below.refl w.heap.size w)
 have H : ((gjson_DoorTostr.f k a0).bind fun bt101 => (some (bt101.1, bt101.2))) = some (r1, r2) := h
 clear h
 replace H := Option.bind_eq_some_iff.mp H
 obtain ⟨⟨t101, t102⟩, A20, H⟩ := H
 replace H : (some (t101, t102)) = some (r1, r2) := H
 have A2 := mk0 A20
 clear A20
 simp only [Option.some.injEq, Prod.mk.injEq] at H
 obtain ⟨rfl, rfl⟩ := H
 go_enter Tryd.func21, Tryd.ntmps21
 go_wp2_with (first | ((with_reducible refine gate_callee (f := 36) rfl ?_); refine goesL_ (some 5) rfl rfl Tryd.func36 zq22 rfl #[.string a0] rfl zq2 ?_; (with_reducible refine (gjson_DoorTostr.calls k a0 t101 t102 _ ?side1 A2.out).mono ?_); (case side1 => exact zq48); rintro e w3 ⟨rfl, hb⟩; refine ⟨_, rfl, ?_⟩; have n0_ := mk0 (below_step zq10 hb); clear HB; have HB := n0_; clear n0_; (try clear hb); (try clear hb2); (try clear hk); (try clear hi)))
 go_ret2
 exact ⟨by first | rfl | (simp [errW_none, errW_some] <;> rfl) | (simp [*, errW_none, errW_some] <;> rfl), by repeat (first | (with_reducible first | exact HB.out | apply below_alloc | apply pw_below_drewN | apply below_drew1) | exact HB.out)⟩
mutual
def laws_FnGjStringText.j0 : Nat → ByteArray → List Int → ByteArray → Bool → Option (Bool)
  | 0, _, _, _, _ => none
  | k + 1, x0, x1, x2, x25 => if x25 = true then (some true) else (if (x0.size : Int) > 4096 then (laws_FnGjStringText.j1 k x0 x1 x2 true) else (if (x2.size : Int) > 4096 then (laws_FnGjStringText.j1 k x0 x1 x2 true) else ((spec_UTF8.f k x0).bind fun t101 => (laws_FnGjStringText.j1 k x0 x1 x2 (!t101)))))
def laws_FnGjStringText.j1 : Nat → ByteArray → List Int → ByteArray → Bool → Option (Bool)
  | 0, _, _, _, _ => none
  | k + 1, x0, x1, x2, x38 => if x38 = true then (some true) else ((spec_Dress.f k 4 x0 ([] : List ByteArray) ([] : List (S34)) x1).bind fun t102 => ((spec_Places.f k t102).bind fun bt103 => (if 0 ≤ bt103.2.1 then (if bt103.2.1 ≤ bt103.2.2.1 then (if bt103.2.2.1 ≤ (t102.size : Int) then (if (t102.extract (bt103.2.1 : Int).toNat (bt103.2.2.1 : Int).toNat).size + x2.size ≤ 9223372036854775807 then ((impl_GjStringText.f k ((t102.extract (bt103.2.1 : Int).toNat (bt103.2.2.1 : Int).toNat) ++ x2)).bind fun bt114 => (if bt114.1.toList = (t102.extract (bt103.2.1 : Int).toNat (bt103.2.2.1 : Int).toNat).toList then (some (bt114.2.toList == x0.toList)) else (some false))) else (none)) else (none)) else (none)) else (none))))
end
def laws_FnGjStringText.f (k : Nat) (a0 : ByteArray) (l1 : List Int) (a2 : ByteArray) : Option (Bool) := if (a0.size : Int) > 2147483647 then (laws_FnGjStringText.j0 k a0 l1 a2 true) else (if (l1.length : Int) > 2147483647 then (laws_FnGjStringText.j0 k a0 l1 a2 true) else (laws_FnGjStringText.j0 k a0 l1 a2 (decide ((a2.size : Int) > 2147483647))))
theorem laws_FnGjStringText.mono_l : ∀ k, (∀ y0 y1 y2 y3, LeO (laws_FnGjStringText.j0 k y0 y1 y2 y3) (laws_FnGjStringText.j0 (k + 1) y0 y1 y2 y3)) ∧ (∀ y0 y1 y2 y3, LeO (laws_FnGjStringText.j1 k y0 y1 y2 y3) (laws_FnGjStringText.j1 (k + 1) y0 y1 y2 y3))
 | 0 => ⟨fun _ _ _ _ r h => by simp [laws_FnGjStringText.j0] at h, fun _ _ _ _ r h => by simp [laws_FnGjStringText.j1] at h⟩
 | k + 1 => by
  obtain ⟨ih0, ih1⟩ := laws_FnGjStringText.mono_l k
  refine ⟨?_, ?_⟩
  ·intro y0 y1 y2 y3
   unfold laws_FnGjStringText.j0
   repeat' first
   | (with_reducible exact ih0 _ _ _ _)
   | (with_reducible exact ih1 _ _ _ _)
   | (with_reducible exact impl_GjStringText.mono _ _)
   | (with_reducible exact spec_Dress.mono _ _ _ _ _ _)
   | (with_reducible exact spec_Places.mono _ _)
   | (with_reducible exact spec_UTF8.mono _ _)
   | (with_reducible exact LeO.refl _)
   | (with_reducible exact LeO.none _)
   | (with_reducible refine LeO.ite ?_ ?_)
   | (with_reducible refine LeO.bind ?_ (fun _ => ?_))
   | exact ih0 _ _ _ _
   | exact ih1 _ _ _ _
   | exact impl_GjStringText.mono _ _
   | exact spec_Dress.mono _ _ _ _ _ _
   | exact spec_Places.mono _ _
   | exact spec_UTF8.mono _ _
   | exact LeO.none _
   | refine LeO.ite ?_ ?_
   | refine LeO.bind ?_ (fun _ => ?_)
  ·intro y0 y1 y2 y3
   unfold laws_FnGjStringText.j1
   repeat' first
   | (with_reducible exact ih0 _ _ _ _)
   | (with_reducible exact ih1 _ _ _ _)
   | (with_reducible exact impl_GjStringText.mono _ _)
   | (with_reducible exact spec_Dress.mono _ _ _ _ _ _)
   | (with_reducible exact spec_Places.mono _ _)
   | (with_reducible exact spec_UTF8.mono _ _)
   | (with_reducible exact LeO.refl _)
   | (with_reducible exact LeO.none _)
   | (with_reducible refine LeO.ite ?_ ?_)
   | (with_reducible refine LeO.bind ?_ (fun _ => ?_))
   | exact ih0 _ _ _ _
   | exact ih1 _ _ _ _
   | exact impl_GjStringText.mono _ _
   | exact spec_Dress.mono _ _ _ _ _ _
   | exact spec_Places.mono _ _
   | exact spec_UTF8.mono _ _
   | exact LeO.none _
   | refine LeO.ite ?_ ?_
   | refine LeO.bind ?_ (fun _ => ?_)
theorem laws_FnGjStringText.mono : ∀ a0 a1 a2 k, LeO (laws_FnGjStringText.f k a0 a1 a2) (laws_FnGjStringText.f (k + 1) a0 a1 a2) := by
 intro a0 a1 a2 k
 obtain ⟨ih0, ih1⟩ := laws_FnGjStringText.mono_l k
 unfold laws_FnGjStringText.f
 repeat' first
  | (with_reducible exact ih0 _ _ _ _)
  | (with_reducible exact ih1 _ _ _ _)
  | (with_reducible exact impl_GjStringText.mono _ _)
  | (with_reducible exact spec_Dress.mono _ _ _ _ _ _)
  | (with_reducible exact spec_Places.mono _ _)
  | (with_reducible exact spec_UTF8.mono _ _)
  | (with_reducible exact LeO.refl _)
  | (with_reducible exact LeO.none _)
  | (with_reducible refine LeO.ite ?_ ?_)
  | (with_reducible refine LeO.bind ?_ (fun _ => ?_))
  | exact ih0 _ _ _ _
  | exact ih1 _ _ _ _
  | exact impl_GjStringText.mono _ _
  | exact spec_Dress.mono _ _ _ _ _ _
  | exact spec_Places.mono _ _
  | exact spec_UTF8.mono _ _
  | exact LeO.none _
  | refine LeO.ite ?_ ?_
  | refine LeO.bind ?_ (fun _ => ?_)
set_option maxHeartbeats 8000000 in
set_option maxRecDepth 100000 in
theorem laws_FnGjStringText.calls (k : Nat) (a0 : ByteArray) (A1 : Option Addr) (c1 : Nat) (l1 : List Int) (a2 : ByteArray) (r : Bool) (w : World) (hr1 : Kd.C (Kd.int .u8) w A1 l1.length l1) (hc1 : l1.length ≤ c1) (hG : Laid w) (h : laws_FnGjStringText.f k a0 l1 a2 = some r) :
 Calls Tryd.prog 7 #[.string a0, .slice A1 l1.length c1, .string a2] w fun e w' => e = .returned (.bool r) ∧ Below w.heap.size w w' := by
 have HG := mk0 hG
 clear hG
 have hu34 := Tryd.underlying34
 have hu38 := Tryd.underlying38
 have HR1 := mk0 hr1
 have HC1 := mk0 hc1
 clear hr1 hc1
 have HB := mk0 (Below.refl w.heap.size w)
 have H : (if (a0.size : Int) > 2147483647 then (laws_FnGjStringText.j0 k a0 l1 a2 true) else (if (l1.length : Int) > 2147483647 then (laws_FnGjStringText.j0 k a0 l1 a2 true) else (laws_FnGjStringText.j0 k a0 l1 a2 (decide ((a2.size : Int) > 2147483647))))) = some r := h
 clear h
 have HC4 := mk0 H
 clear H
 go_enter Tryd.func7, Tryd.ntmps7
 go_upto_region 1 with (fail)
 go_cut [25] (fun v25 wc => ∃ (kq : Nat) (x25_3 : Bool), v25 = .bool x25_3 ∧ Aside0 (laws_FnGjStringText.j0 kq a0 l1 a2 x25_3 = some r) ∧ Aside0 (kq ≤ k) ∧ Aside0 (Below w.heap.size w wc))
 case first =>
  have H := HC4.out
  clear HC4
  by_cases c5 : (a0.size : Int) > 2147483647
  ·rw [if_pos c5] at H
   have c5b0 : decide (2147483647 < (a0.size : Int)) = true := decide_eq_true c5
   have c5b1 : decide (2147483647 < a0.size) = true := decide_eq_true (by omega)
   clear c5
   (first | rw [c5b0] | (simp only [i64_w, i32_w]; rw [c5b0]) | rw [c5b1] | rw [if_pos (of_decide_eq_true c5b1)] | skip)
   have H' := mk0 H
   clear H
   go_wp2
   go_meet
   case rel => exact ⟨_, (true), zq12, H', ⟨by first | omega | exact Nat.le_refl _⟩, ⟨by repeat (first | (with_reducible first | exact HB.out | apply below_alloc | apply pw_below_drewN | apply below_drew1) | exact HB.out)⟩⟩
  rw [if_neg c5] at H
  have c5b0 : decide (2147483647 < (a0.size : Int)) = false := decide_eq_false c5
  have c5b1 : decide (2147483647 < a0.size) = false := decide_eq_false (by omega)
  clear c5
  (first | rw [c5b0] | (simp only [i64_w, i32_w]; rw [c5b0]) | rw [c5b1] | rw [if_neg (of_decide_eq_false c5b1)] | skip)
  by_cases c6 : (l1.length : Int) > 2147483647
  ·rw [if_pos c6] at H
   have c6b0 : decide (2147483647 < (l1.length : Int)) = true := decide_eq_true c6
   have c6b1 : decide (2147483647 < l1.length) = true := decide_eq_true (by omega)
   clear c6
   have H' := mk0 H
   clear H
   go_wp2
   go_meet
   case rel => exact ⟨_, (true), zq12, H', ⟨by first | omega | exact Nat.le_refl _⟩, ⟨by repeat (first | (with_reducible first | exact HB.out | apply below_alloc | apply pw_below_drewN | apply below_drew1) | exact HB.out)⟩⟩
  rw [if_neg c6] at H
  have c6b0 : decide (2147483647 < (l1.length : Int)) = false := decide_eq_false c6
  have c6b1 : decide (2147483647 < l1.length) = false := decide_eq_false (by omega)
  clear c6
  have H' := mk0 H
  clear H
  go_wp2
  go_meet
  case rel => exact ⟨_, (decide ((a2.size : Int) > 2147483647)), zq12, H', ⟨by first | omega | exact Nat.le_refl _⟩, ⟨by repeat (first | (with_reducible first | exact HB.out | apply below_alloc | apply pw_below_drewN | apply below_drew1) | exact HB.out)⟩⟩
 case rest =>
  clear HC4
  try clear c1
  try clear p2
  try clear c5
  try clear c5b0
  try clear c5b1
  try clear c6
  try clear c6b0
  try clear c6b1
  obtain ⟨kq, x25_3, rfl, HA, HJ3, HB⟩ := hcut
  cases kq with
  | zero => exact absurd HA.out (by simp [laws_FnGjStringText.j0])
  | succ kj3 =>
   have H := HA.out
   clear HA
   simp only [laws_FnGjStringText.j0] at H
   by_cases c7 : x25_3 = true
   ·subst c7
    have H1 : (some true) = some r := by rw [if_pos rfl] at H; exact H
    clear H
    have H := H1
    clear H1
    obtain rfl := Option.some.inj H
    go_wp2
    go_ret
    exact ⟨by first | rfl | (simp [errW_none, errW_some] <;> rfl) | (simp [*, errW_none, errW_some] <;> rfl), by repeat (first | (with_reducible first | exact HB.out | apply below_alloc | apply pw_below_drewN | apply below_drew1) | exact HB.out)⟩
   replace c7 := Bool.eq_false_iff.mpr c7
   subst c7
   have H1 : (if (a0.size : Int) > 4096 then (laws_FnGjStringText.j1 kj3 a0 l1 a2 true) else (if (a2.size : Int) > 4096 then (laws_FnGjStringText.j1 kj3 a0 l1 a2 true) else ((spec_UTF8.f kj3 a0).bind fun t101 => (laws_FnGjStringText.j1 kj3 a0 l1 a2 (!t101))))) = some r := by rw [if_neg (show ¬ (false = true) by decide)] at H; exact H
   clear H
   have H := H1
   clear H1
   have HC8 := mk0 H
   clear H
   go_upto_region 3 with (fail)
   go_cut [38] (fun v38 wc => ∃ (kq : Nat) (x38_7 : Bool), v38 = .bool x38_7 ∧ Aside0 (laws_FnGjStringText.j1 kq a0 l1 a2 x38_7 = some r) ∧ Aside0 (kq ≤ kj3) ∧ Aside0 (Below w.heap.size w wc))
   case first =>
    have H := HC8.out
    clear HC8
    by_cases c9 : (a0.size : Int) > 4096
    ·rw [if_pos c9] at H
     have c9b0 : decide (4096 < (a0.size : Int)) = true := decide_eq_true c9
     have c9b1 : decide (4096 < a0.size) = true := decide_eq_true (by omega)
     clear c9
     (first | rw [c9b0] | (simp only [i64_w, i32_w]; rw [c9b0]) | rw [c9b1] | rw [if_pos (of_decide_eq_true c9b1)] | skip)
     have H' := mk0 H
     clear H
     go_wp2
     go_meet
     case rel => exact ⟨_, (true), zq12, H', ⟨by have := HJ3.out; first | omega | exact Nat.le_refl _⟩, ⟨by repeat (first | (with_reducible first | exact HB.out | apply below_alloc | apply pw_below_drewN | apply below_drew1) | exact HB.out)⟩⟩
    rw [if_neg c9] at H
    have c9b0 : decide (4096 < (a0.size : Int)) = false := decide_eq_false c9
    have c9b1 : decide (4096 < a0.size) = false := decide_eq_false (by omega)
    clear c9
    (first | rw [c9b0] | (simp only [i64_w, i32_w]; rw [c9b0]) | rw [c9b1] | rw [if_neg (of_decide_eq_false c9b1)] | skip)
    by_cases c10 : (a2.size : Int) > 4096
    ·rw [if_pos c10] at H
     have c10b0 : decide (4096 < (a2.size : Int)) = true := decide_eq_true c10
     have c10b1 : decide (4096 < a2.size) = true := decide_eq_true (by omega)
     clear c10
     have H' := mk0 H
     clear H
     go_wp2
     go_meet
     case rel => exact ⟨_, (true), zq12, H', ⟨by have := HJ3.out; first | omega | exact Nat.le_refl _⟩, ⟨by repeat (first | (with_reducible first | exact HB.out | apply below_alloc | apply pw_below_drewN | apply below_drew1) | exact HB.out)⟩⟩
    rw [if_neg c10] at H
    have c10b0 : decide (4096 < (a2.size : Int)) = false := decide_eq_false c10
    have c10b1 : decide (4096 < a2.size) = false := decide_eq_false (by omega)
    clear c10
    replace H := Option.bind_eq_some_iff.mp H
    obtain ⟨t101, A110, H⟩ := H
    replace H : (laws_FnGjStringText.j1 kj3 a0 l1 a2 (!t101)) = some r := H
    have A11 := mk0 A110
    clear A110
    have H' := mk0 H
    clear H
    go_wp2_with (first | (go_at_call 13; (with_reducible refine (spec_UTF8.calls kj3 a0 t101 _ A11.out).mono ?_); rintro e w' ⟨rfl, ⟨nd, rfl⟩⟩))
    go_meet
    case rel => exact ⟨_, (!t101), zq12, H', ⟨by have := HJ3.out; first | omega | exact Nat.le_refl _⟩, ⟨by repeat (first | (with_reducible first | exact HB.out | apply below_alloc | apply pw_below_drewN | apply below_drew1) | exact HB.out)⟩⟩
   case rest =>
    clear HC8
    try clear c1
    try clear p2
    try clear c5
    try clear c5b0
    try clear c5b1
    try clear c6
    try clear c6b0
    try clear c6b1
    try clear c7
    try clear c9
    try clear c9b0
    try clear c9b1
    try clear c10
    try clear c10b0
    try clear c10b1
    try clear p2
    obtain ⟨kq, x38_7, rfl, HA, HJ7, HB⟩ := hcut
    cases kq with
    | zero => exact absurd HA.out (by simp [laws_FnGjStringText.j1])
    | succ kj7 =>
     have H := HA.out
     clear HA
     simp only [laws_FnGjStringText.j1] at H
     by_cases c12 : x38_7 = true
     ·subst c12
      have H1 : (some true) = some r := by rw [if_pos rfl] at H; exact H
      clear H
      have H := H1
      clear H1
      obtain rfl := Option.some.inj H
      go_wp2
      go_ret
      exact ⟨by first | rfl | (simp [errW_none, errW_some] <;> rfl) | (simp [*, errW_none, errW_some] <;> rfl), by repeat (first | (with_reducible first | exact HB.out | apply below_alloc | apply pw_below_drewN | apply below_drew1) | exact HB.out)⟩
     replace c12 := Bool.eq_false_iff.mpr c12
     subst c12
     have H1 : ((spec_Dress.f kj7 4 a0 ([] : List ByteArray) ([] : List (S34)) l1).bind fun t102 => ((spec_Places.f kj7 t102).bind fun bt103 => (if 0 ≤ bt103.2.1 then (if bt103.2.1 ≤ bt103.2.2.1 then (if bt103.2.2.1 ≤ (t102.size : Int) then (if (t102.extract (bt103.2.1 : Int).toNat (bt103.2.2.1 : Int).toNat).size + a2.size ≤ 9223372036854775807 then ((impl_GjStringText.f kj7 ((t102.extract (bt103.2.1 : Int).toNat (bt103.2.2.1 : Int).toNat) ++ a2)).bind fun bt114 => (if bt114.1.toList = (t102.extract (bt103.2.1 : Int).toNat (bt103.2.2.1 : Int).toNat).toList then (some (bt114.2.toList == a0.toList)) else (some false))) else (none)) else (none)) else (none)) else (none)))) = some r := by rw [if_neg (show ¬ (false = true) by decide)] at H; exact H
     clear H
     have H := H1
     clear H1
     replace H := Option.bind_eq_some_iff.mp H
     obtain ⟨t102, A130, H⟩ := H
     replace H : ((spec_Places.f kj7 t102).bind fun bt103 => (if 0 ≤ bt103.2.1 then (if bt103.2.1 ≤ bt103.2.2.1 then (if bt103.2.2.1 ≤ (t102.size : Int) then (if (t102.extract (bt103.2.1 : Int).toNat (bt103.2.2.1 : Int).toNat).size + a2.size ≤ 9223372036854775807 then ((impl_GjStringText.f kj7 ((t102.extract (bt103.2.1 : Int).toNat (bt103.2.2.1 : Int).toNat) ++ a2)).bind fun bt114 => (if bt114.1.toList = (t102.extract (bt103.2.1 : Int).toNat (bt103.2.2.1 : Int).toNat).toList then (some (bt114.2.toList == a0.toList)) else (some false))) else (none)) else (none)) else (none)) else (none))) = some r := H
     have A13 := mk0 A130
     clear A130
     replace H := Option.bind_eq_some_iff.mp H
     obtain ⟨⟨t103, t104, t105, t106, t109, t112⟩, A140, H⟩ := H
     replace H : (if 0 ≤ t104 then (if t104 ≤ t105 then (if t105 ≤ (t102.size : Int) then (if (t102.extract (t104 : Int).toNat (t105 : Int).toNat).size + a2.size ≤ 9223372036854775807 then ((impl_GjStringText.f kj7 ((t102.extract (t104 : Int).toNat (t105 : Int).toNat) ++ a2)).bind fun bt114 => (if bt114.1.toList = (t102.extract (t104 : Int).toNat (t105 : Int).toNat).toList then (some (bt114.2.toList == a0.toList)) else (some false))) else (none)) else (none)) else (none)) else (none)) = some r := H
     have A14 := mk0 A140
     clear A140
     by_cases c15 : 0 ≤ t104
     rotate_left
     ·rw [if_neg c15] at H
      exact absurd H (by simp)
     rw [if_pos c15] at H
     have c15b0 := eq_true c15
     have c15b1 : decide (0 ≤ t104) = true := decide_eq_true c15
     clear c15
     by_cases c16 : t104 ≤ t105
     rotate_left
     ·rw [if_neg c16] at H
      exact absurd H (by simp)
     rw [if_pos c16] at H
     have c16b0 := eq_true c16
     have c16b1 : decide (t104 ≤ t105) = true := decide_eq_true c16
     clear c16
     by_cases c17 : t105 ≤ (t102.size : Int)
     rotate_left
     ·rw [if_neg c17] at H
      exact absurd H (by simp)
     rw [if_pos c17] at H
     have c17b0 := eq_true c17
     have c17b1 : decide (t105 ≤ (t102.size : Int)) = true := decide_eq_true c17
     clear c17
     by_cases c18 : (t102.extract (t104 : Int).toNat (t105 : Int).toNat).size + a2.size ≤ 9223372036854775807
     rotate_left
     ·rw [if_neg c18] at H
      exact absurd H (by simp)
     rw [if_pos c18] at H
     have c18b0 := eq_true c18
     have c18b1 : decide ((t102.extract (t104 : Int).toNat (t105 : Int).toNat).size + a2.size ≤ 9223372036854775807) = true := decide_eq_true c18
     (try (have c18b1s := c18b1; simp only [ByteArray.size_extract, Nat.min_self] at c18b1s))
     try have c18b2 : (9223372036854775807 < (t102.extract (t104 : Int).toNat (t105 : Int).toNat).size + a2.size) = False := eq_false (Nat.not_lt.2 c18)
     replace H := Option.bind_eq_some_iff.mp H
     obtain ⟨⟨t114, t115⟩, A190, H⟩ := H
     replace H : (if t114.toList = (t102.extract (t104 : Int).toNat (t105 : Int).toNat).toList then (some (t115.toList == a0.toList)) else (some false)) = some r := H
     have A19 := mk0 A190
     clear A190
     by_cases c20 : t114.toList = (t102.extract (t104 : Int).toNat (t105 : Int).toNat).toList
     rotate_left
     ·rw [if_neg c20] at H
      have c20b0 : (t114.toList == (t102.extract (t104 : Int).toNat (t105 : Int).toNat).toList) = false := beq_eq_false_iff_ne.mpr c20
      (try (have c20b0s := c20b0; simp only [ByteArray.size_extract, Nat.min_self] at c20b0s))
      have c20b1 : (t114.toList != (t102.extract (t104 : Int).toNat (t105 : Int).toNat).toList) = true := bne_iff_ne.mpr c20
      (try (have c20b1s := c20b1; simp only [ByteArray.size_extract, Nat.min_self] at c20b1s))
      obtain rfl := Option.some.inj H
      go_wp2_with (first | ((with_reducible refine gate_callee (f := 14) rfl ?_); refine goesL_ (some 42) rfl rfl Tryd.func14 zq22 rfl #[.agg #[.int .i64 4, .string a0, .slice none 0 0, .slice none 0 0], .slice A1 l1.length c1] rfl zq2 ?_; (refine (spec_Dress.calls kj7 4 a0 _ _ ([] : List ByteArray) _ _ ([] : List (S34)) _ _ l1 t102 _ ?side1 ?side2 ?side3 ?side4 ?side5 ?side6 A13.out).mono ?_); (case side1 => exact Kd.C_nil _ _); (case side2 => exact Nat.le_refl _); (case side3 => exact Kd.C_nil _ _); (case side4 => exact Nat.le_refl _); (case side5 => exact zq58); (case side6 => exact HC1.out); rintro e w28 ⟨rfl, hb⟩; refine ⟨_, rfl, ?_⟩; have n0_ := mk0 (below_step zq10 hb); clear HB; have HB := n0_; clear n0_; (try clear hb); (try clear hb2); (try clear hk); (try clear hi)) | ((with_reducible refine gate_callee (f := 15) rfl ?_); refine goesL_ (some 45) rfl rfl Tryd.func15 zq22 rfl #[.string t102] rfl zq2 ?_; (with_reducible refine (spec_Places.calls kj7 t102 t103 t104 t105 t106 t109 t112 _ A14.out).mono ?_); rintro e w29 ⟨v107, v110, rfl, ho0, ho1, hb⟩; refine ⟨_, rfl, ?_⟩; have n0_ := mk0 (Kd.R_lower ho0 (below_size zq10)); have n1_ := mk0 (Kd.R_lower ho1 (below_size zq10)); have n2_ := mk0 (below_step zq10 hb); clear HB; have HO108 := n0_; have HO111 := n1_; have HB := n2_; clear n0_ n1_ n2_; (try clear hb); (try clear hb2); (try clear hk); (try clear hi); (try clear ho0); (try clear ho1)) | ((with_reducible refine gate_dst (N := 8) rfl ?_); (try (refine gate_guard (by rfl) ?_; dsimp only)); refine box_event ?hg (N := 8) ?hd (cs := #[.int .i64 0, .int .i64 0, .int .i64 0, .slice none 0 0, .slice none 0 0]) (t := 38) ?hr ?_; (case hd => rfl); (case hg => rfl); (case hr => exact zq32); intro gb113 hg w30 hbox hb; have n0_ := mk0 (Kd.R_below (by (with_reducible repeat (first | apply Kd.R_alloc | apply Kd.R_drewN | apply Kd.R_drew)); exact HO108.out) hb); have n1_ := mk0 (Kd.R_below (Kd.R_elderB (by (with_reducible repeat (first | apply Kd.R_alloc | apply Kd.R_drewN | apply Kd.R_drew)); exact HO111.out) gb113 (Nat.le_of_eq hg.symm)) hb); have n2_ := mk0 (below_step zq10 hb); have n3_ := mk0 (hbox); have n4_ := mk0 ((by rw [hg]; exact (below_size zq10) : w.heap.size ≤ gb113)); have n5_ := mk0 ((by rw [hg]; exact (below_size zq10) : w.heap.size ≤ gb113)); clear HO108 HO111 HB; have HO108 := n0_; have HO111 := n1_; have HB := n2_; have BK113 := n3_; have GW113 := n4_; have GE113 := n5_; clear n0_ n1_ n2_ n3_ n4_ n5_; clear hb hbox hg; have hcz31_0 : w30.cell? ⟨gb113, 0, none⟩ = some (.int .i64 0) := (blk_cell BK113.out 0).trans rfl; have hcz31_1 : w30.cell? ⟨gb113, 1, none⟩ = some (.int .i64 0) := (blk_cell BK113.out 1).trans rfl; have hcz31_2 : w30.cell? ⟨gb113, 2, none⟩ = some (.int .i64 0) := (blk_cell BK113.out 2).trans rfl; have hcz31_3 : w30.cell? ⟨gb113, 3, none⟩ = some (.slice none 0 0) := (blk_cell BK113.out 3).trans rfl; have hcz31_4 : w30.cell? ⟨gb113, 4, none⟩ = some (.slice none 0 0) := (blk_cell BK113.out 4).trans rfl; have hfz31_0 := blk_frozen BK113.out 0; have hfz31_1 := blk_frozen BK113.out 1; have hfz31_2 := blk_frozen BK113.out 2; have hfz31_3 := blk_frozen BK113.out 3; have hfz31_4 := blk_frozen BK113.out 4; obtain ⟨Ao32, co32, eo32⟩ := Kd.R_slice HO108.out; subst eo32; obtain ⟨Ao33, co33, eo33⟩ := Kd.R_slice HO111.out; subst eo33) | ((with_reducible refine gate_callee (f := 21) rfl ?_); refine goesL_ (some 58) rfl rfl Tryd.func21 zq22 rfl #[.string ((t102.extract (t104 : Int).toNat (t105 : Int).toNat) ++ a2)] rfl zq2 ?_; (with_reducible refine (impl_GjStringText.calls kj7 ((t102.extract (t104 : Int).toNat (t105 : Int).toNat) ++ a2) t114 t115 _ ?side1 A19.out).mono ?_); (case side1 => first | exact HG.out | exact Laid.below HG.out zq41); rintro e w34 ⟨rfl, hb⟩; refine ⟨_, rfl, ?_⟩; have n0_ := mk0 (Kd.R_below (by (with_reducible repeat (first | apply Kd.R_alloc | apply Kd.R_drewN | apply Kd.R_drew)); exact (Kd.R_mono (Kd.R_far (p := ⟨gb113, 4, none⟩) (Kd.R_far (p := ⟨gb113, 3, none⟩) (Kd.R_far (p := ⟨gb113, 2, none⟩) (Kd.R_far (p := ⟨gb113, 1, none⟩) (Kd.R_far (p := ⟨gb113, 0, none⟩) (Kd.R_types HO108.out BK113.out zq40) (fun _ hk => hk.2) (.int .i64 t103)) (fun _ hk => hk.2) (.int .i64 t104)) (fun _ hk => hk.2) (.int .i64 t105)) (fun _ hk => hk.2) (.slice Ao32 t106.length co32)) (fun _ hk => hk.2) (.slice Ao33 t109.length co33)) (fun _ h_ => h_.1))) hb); have n1_ := mk0 (Kd.R_below (by (with_reducible repeat (first | apply Kd.R_alloc | apply Kd.R_drewN | apply Kd.R_drew)); exact (Kd.R_mono (Kd.R_far (p := ⟨gb113, 4, none⟩) (Kd.R_far (p := ⟨gb113, 3, none⟩) (Kd.R_far (p := ⟨gb113, 2, none⟩) (Kd.R_far (p := ⟨gb113, 1, none⟩) (Kd.R_far (p := ⟨gb113, 0, none⟩) (Kd.R_mono HO111.out (fun k_ hk => (⟨hk, hk.2⟩ : _ ∧ k_ ≠ gb113))) (fun _ hk => hk.2) (.int .i64 t103)) (fun _ hk => hk.2) (.int .i64 t104)) (fun _ hk => hk.2) (.int .i64 t105)) (fun _ hk => hk.2) (.slice Ao32 t106.length co32)) (fun _ hk => hk.2) (.slice Ao33 t109.length co33)) (fun _ h_ => h_.1))) hb); have n2_ := mk0 (blk_below (g := gb113) (o := .cells #[.int .i64 t103, .int .i64 t104, .int .i64 t105, .slice Ao32 t106.length co32, .slice Ao33 t109.length co33] 38 (0, 0)) (by (with_reducible repeat (first | refine blk_drewN ?_ _ | refine blk_drew ?_ | refine blk_alloc ?_ _)); refine blk_put (cs := #[.int .i64 t103, .int .i64 t104, .int .i64 t105, .slice Ao32 t106.length co32, .slice none 0 0]) ?_ 4 _ rfl; (with_reducible repeat (first | refine blk_drewN ?_ _ | refine blk_drew ?_ | refine blk_alloc ?_ _)); refine blk_put (cs := #[.int .i64 t103, .int .i64 t104, .int .i64 t105, .slice none 0 0, .slice none 0 0]) ?_ 3 _ rfl; (with_reducible repeat (first | refine blk_drewN ?_ _ | refine blk_drew ?_ | refine blk_alloc ?_ _)); refine blk_put (cs := #[.int .i64 t103, .int .i64 t104, .int .i64 0, .slice none 0 0, .slice none 0 0]) ?_ 2 _ rfl; (with_reducible repeat (first | refine blk_drewN ?_ _ | refine blk_drew ?_ | refine blk_alloc ?_ _)); refine blk_put (cs := #[.int .i64 t103, .int .i64 0, .int .i64 0, .slice none 0 0, .slice none 0 0]) ?_ 1 _ rfl; (with_reducible repeat (first | refine blk_drewN ?_ _ | refine blk_drew ?_ | refine blk_alloc ?_ _)); refine blk_put (cs := #[.int .i64 0, .int .i64 0, .int .i64 0, .slice none 0 0, .slice none 0 0]) ?_ 0 _ rfl; (with_reducible repeat (first | refine blk_drewN ?_ _ | refine blk_drew ?_ | refine blk_alloc ?_ _)); exact BK113.out) hb); have n3_ := mk0 (below_step zq41 hb); clear HO108 HO111 BK113 HB; have HO108 := n0_; have HO111 := n1_; have BK113 := n2_; have HB := n3_; clear n0_ n1_ n2_ n3_; (try clear hb); (try clear hb2); (try clear hk); (try clear hi)))
      go_ret
      exact ⟨by first | rfl | (simp [errW_none, errW_some] <;> rfl) | (simp [*, errW_none, errW_some] <;> rfl), by repeat (first | (with_reducible first | exact HB.out | apply below_alloc | apply pw_below_drewN | apply below_drew1 | refine below_set ?_ GE113.out) | exact HB.out)⟩
     rw [if_pos c20] at H
     have c20b0 : (t114.toList == (t102.extract (t104 : Int).toNat (t105 : Int).toNat).toList) = true := beq_iff_eq.mpr c20
     (try (have c20b0s := c20b0; simp only [ByteArray.size_extract, Nat.min_self] at c20b0s))
     have c20b1 : (t114.toList != (t102.extract (t104 : Int).toNat (t105 : Int).toNat).toList) = false := bne_eq_false_iff_eq.mpr c20
     (try (have c20b1s := c20b1; simp only [ByteArray.size_extract, Nat.min_self] at c20b1s))
     clear c20
     obtain rfl := Option.some.inj H
     go_wp2_with (first | ((with_reducible refine gate_callee (f := 14) rfl ?_); refine goesL_ (some 42) rfl rfl Tryd.func14 zq22 rfl #[.agg #[.int .i64 4, .string a0, .slice none 0 0, .slice none 0 0], .slice A1 l1.length c1] rfl zq2 ?_; (refine (spec_Dress.calls kj7 4 a0 _ _ ([] : List ByteArray) _ _ ([] : List (S34)) _ _ l1 t102 _ ?side1 ?side2 ?side3 ?side4 ?side5 ?side6 A13.out).mono ?_); (case side1 => exact Kd.C_nil _ _); (case side2 => exact Nat.le_refl _); (case side3 => exact Kd.C_nil _ _); (case side4 => exact Nat.le_refl _); (case side5 => exact zq58); (case side6 => exact HC1.out); rintro e w21 ⟨rfl, hb⟩; refine ⟨_, rfl, ?_⟩; have n0_ := mk0 (below_step zq10 hb); clear HB; have HB := n0_; clear n0_; (try clear hb); (try clear hb2); (try clear hk); (try clear hi)) | ((with_reducible refine gate_callee (f := 15) rfl ?_); refine goesL_ (some 45) rfl rfl Tryd.func15 zq22 rfl #[.string t102] rfl zq2 ?_; (with_reducible refine (spec_Places.calls kj7 t102 t103 t104 t105 t106 t109 t112 _ A14.out).mono ?_); rintro e w22 ⟨v107, v110, rfl, ho0, ho1, hb⟩; refine ⟨_, rfl, ?_⟩; have n0_ := mk0 (Kd.R_lower ho0 (below_size zq10)); have n1_ := mk0 (Kd.R_lower ho1 (below_size zq10)); have n2_ := mk0 (below_step zq10 hb); clear HB; have HO108 := n0_; have HO111 := n1_; have HB := n2_; clear n0_ n1_ n2_; (try clear hb); (try clear hb2); (try clear hk); (try clear hi); (try clear ho0); (try clear ho1)) | ((with_reducible refine gate_dst (N := 8) rfl ?_); (try (refine gate_guard (by rfl) ?_; dsimp only)); refine box_event ?hg (N := 8) ?hd (cs := #[.int .i64 0, .int .i64 0, .int .i64 0, .slice none 0 0, .slice none 0 0]) (t := 38) ?hr ?_; (case hd => rfl); (case hg => rfl); (case hr => exact zq32); intro gb113 hg w23 hbox hb; have n0_ := mk0 (Kd.R_below (by (with_reducible repeat (first | apply Kd.R_alloc | apply Kd.R_drewN | apply Kd.R_drew)); exact HO108.out) hb); have n1_ := mk0 (Kd.R_below (Kd.R_elderB (by (with_reducible repeat (first | apply Kd.R_alloc | apply Kd.R_drewN | apply Kd.R_drew)); exact HO111.out) gb113 (Nat.le_of_eq hg.symm)) hb); have n2_ := mk0 (below_step zq10 hb); have n3_ := mk0 (hbox); have n4_ := mk0 ((by rw [hg]; exact (below_size zq10) : w.heap.size ≤ gb113)); have n5_ := mk0 ((by rw [hg]; exact (below_size zq10) : w.heap.size ≤ gb113)); clear HO108 HO111 HB; have HO108 := n0_; have HO111 := n1_; have HB := n2_; have BK113 := n3_; have GW113 := n4_; have GE113 := n5_; clear n0_ n1_ n2_ n3_ n4_ n5_; clear hb hbox hg; have hcz24_0 : w23.cell? ⟨gb113, 0, none⟩ = some (.int .i64 0) := (blk_cell BK113.out 0).trans rfl; have hcz24_1 : w23.cell? ⟨gb113, 1, none⟩ = some (.int .i64 0) := (blk_cell BK113.out 1).trans rfl; have hcz24_2 : w23.cell? ⟨gb113, 2, none⟩ = some (.int .i64 0) := (blk_cell BK113.out 2).trans rfl; have hcz24_3 : w23.cell? ⟨gb113, 3, none⟩ = some (.slice none 0 0) := (blk_cell BK113.out 3).trans rfl; have hcz24_4 : w23.cell? ⟨gb113, 4, none⟩ = some (.slice none 0 0) := (blk_cell BK113.out 4).trans rfl; have hfz24_0 := blk_frozen BK113.out 0; have hfz24_1 := blk_frozen BK113.out 1; have hfz24_2 := blk_frozen BK113.out 2; have hfz24_3 := blk_frozen BK113.out 3; have hfz24_4 := blk_frozen BK113.out 4; obtain ⟨Ao25, co25, eo25⟩ := Kd.R_slice HO108.out; subst eo25; obtain ⟨Ao26, co26, eo26⟩ := Kd.R_slice HO111.out; subst eo26) | ((with_reducible refine gate_callee (f := 21) rfl ?_); refine goesL_ (some 58) rfl rfl Tryd.func21 zq22 rfl #[.string ((t102.extract (t104 : Int).toNat (t105 : Int).toNat) ++ a2)] rfl zq2 ?_; (with_reducible refine (impl_GjStringText.calls kj7 ((t102.extract (t104 : Int).toNat (t105 : Int).toNat) ++ a2) t114 t115 _ ?side1 A19.out).mono ?_); (case side1 => first | exact HG.out | exact Laid.below HG.out zq41); rintro e w27 ⟨rfl, hb⟩; refine ⟨_, rfl, ?_⟩; have n0_ := mk0 (Kd.R_below (by (with_reducible repeat (first | apply Kd.R_alloc | apply Kd.R_drewN | apply Kd.R_drew)); exact (Kd.R_mono (Kd.R_far (p := ⟨gb113, 4, none⟩) (Kd.R_far (p := ⟨gb113, 3, none⟩) (Kd.R_far (p := ⟨gb113, 2, none⟩) (Kd.R_far (p := ⟨gb113, 1, none⟩) (Kd.R_far (p := ⟨gb113, 0, none⟩) (Kd.R_types HO108.out BK113.out zq40) (fun _ hk => hk.2) (.int .i64 t103)) (fun _ hk => hk.2) (.int .i64 t104)) (fun _ hk => hk.2) (.int .i64 t105)) (fun _ hk => hk.2) (.slice Ao25 t106.length co25)) (fun _ hk => hk.2) (.slice Ao26 t109.length co26)) (fun _ h_ => h_.1))) hb); have n1_ := mk0 (Kd.R_below (by (with_reducible repeat (first | apply Kd.R_alloc | apply Kd.R_drewN | apply Kd.R_drew)); exact (Kd.R_mono (Kd.R_far (p := ⟨gb113, 4, none⟩) (Kd.R_far (p := ⟨gb113, 3, none⟩) (Kd.R_far (p := ⟨gb113, 2, none⟩) (Kd.R_far (p := ⟨gb113, 1, none⟩) (Kd.R_far (p := ⟨gb113, 0, none⟩) (Kd.R_mono HO111.out (fun k_ hk => (⟨hk, hk.2⟩ : _ ∧ k_ ≠ gb113))) (fun _ hk => hk.2) (.int .i64 t103)) (fun _ hk => hk.2) (.int .i64 t104)) (fun _ hk => hk.2) (.int .i64 t105)) (fun _ hk => hk.2) (.slice Ao25 t106.length co25)) (fun _ hk => hk.2) (.slice Ao26 t109.length co26)) (fun _ h_ => h_.1))) hb); have n2_ := mk0 (blk_below (g := gb113) (o := .cells #[.int .i64 t103, .int .i64 t104, .int .i64 t105, .slice Ao25 t106.length co25, .slice Ao26 t109.length co26] 38 (0, 0)) (by (with_reducible repeat (first | refine blk_drewN ?_ _ | refine blk_drew ?_ | refine blk_alloc ?_ _)); refine blk_put (cs := #[.int .i64 t103, .int .i64 t104, .int .i64 t105, .slice Ao25 t106.length co25, .slice none 0 0]) ?_ 4 _ rfl; (with_reducible repeat (first | refine blk_drewN ?_ _ | refine blk_drew ?_ | refine blk_alloc ?_ _)); refine blk_put (cs := #[.int .i64 t103, .int .i64 t104, .int .i64 t105, .slice none 0 0, .slice none 0 0]) ?_ 3 _ rfl; (with_reducible repeat (first | refine blk_drewN ?_ _ | refine blk_drew ?_ | refine blk_alloc ?_ _)); refine blk_put (cs := #[.int .i64 t103, .int .i64 t104, .int .i64 0, .slice none 0 0, .slice none 0 0]) ?_ 2 _ rfl; (with_reducible repeat (first | refine blk_drewN ?_ _ | refine blk_drew ?_ | refine blk_alloc ?_ _)); refine blk_put (cs := #[.int .i64 t103, .int .i64 0, .int .i64 0, .slice none 0 0, .slice none 0 0]) ?_ 1 _ rfl; (with_reducible repeat (first | refine blk_drewN ?_ _ | refine blk_drew ?_ | refine blk_alloc ?_ _)); refine blk_put (cs := #[.int .i64 0, .int .i64 0, .int .i64 0, .slice none 0 0, .slice none 0 0]) ?_ 0 _ rfl; (with_reducible repeat (first | refine blk_drewN ?_ _ | refine blk_drew ?_ | refine blk_alloc ?_ _)); exact BK113.out) hb); have n3_ := mk0 (below_step zq41 hb); clear HO108 HO111 BK113 HB; have HO108 := n0_; have HO111 := n1_; have BK113 := n2_; have HB := n3_; clear n0_ n1_ n2_ n3_; (try clear hb); (try clear hb2); (try clear hk); (try clear hi)))
     go_ret
     exact ⟨by first | rfl | (simp [errW_none, errW_some] <;> rfl) | (simp [*, errW_none, errW_some] <;> rfl), by repeat (first | (with_reducible first | exact HB.out | apply below_alloc | apply pw_below_drewN | apply below_drew1 | refine below_set ?_ GE113.out) | exact HB.out)⟩
def laws_FnGjStringText.Pure : Prop := ∀ (a0 : ByteArray) (l1 : List Int) (a2 : ByteArray), a0.size ≤ 140737488351232 → l1.length ≤ maxLen → l1.length * 1 ≤ 140737488351232 → (∀ x ∈ l1, (Lit.int .u8 x).wf = true) → a2.size ≤ 140737488351232 → ∃ k, laws_FnGjStringText.f k a0 l1 a2 = some true
theorem laws_FnGjStringText.walk (P : laws_FnGjStringText.Pure) (a0 : ByteArray) (a1 : Option Addr) (len1 cap1 : Nat) (z1 : List Int) (a2 : ByteArray) (w : World) (hG : Laid w) (w0 : a0.size ≤ 140737488351232) (w1 : (a1 = none ∧ len1 = 0 ∧ cap1 = 0 ∧ z1 = []) ∨ ∃ x, a1 = some x ∧ len1 ≤ cap1 ∧ cap1 ≤ maxLen ∧ z1.length = cap1 ∧ (∀ i, i < z1.length → w.cell? (x.add i) = some (.int .u8 (z1.getD i 0))) ∧ ∀ n ∈ z1, (Lit.int .u8 n).wf = true) (y1 : len1 * 1 ≤ 140737488351232) (w2 : a2.size ≤ 140737488351232) :
 Calls Tryd.prog 7 #[.string a0, .slice a1 len1 cap1, .string a2] w fun e w' => e = .returned (.bool true) ∧ Below w.heap.size w w' := by
 obtain ⟨l1, rfl, hr1, hm1, hw1, hc1⟩ := ReadsInt.ofRowC w1
 obtain ⟨k, h⟩ := P a0 l1 a2 w0 hm1 y1 hw1 w2
 refine (laws_FnGjStringText.calls k a0 _ _ l1 a2 true w (Kd.C_of_reads (d := (0 : Int)) (h1 := fun _ => rfl) hr1) hc1 hG h).mono ?_
 rintro e w' ⟨rfl, hd⟩
 exact ⟨rfl, hd⟩
end Go.Proofs.YtaigbkkgmncipaaDoor.G
end
section
namespace Go.Proofs.YtaigbkkgmncipaaDoor.J
open Go.RowKit Go.Proofs.YtaigbkkgmncipaaDoor.G Go.Proofs.YtaigbkkgmncipaaDoorW.PrintWords Go.Proofs.YtaigbkkgmncipaaDoorW.PrintLast

theorem hexDigit_eq {c : Int} (h : 0 ≤ c ∧ c ≤ 255) : Ev (fun k => spec_hexDigit.f k c) ((hexv c).getD 0, (hexv c).isSome) := by
 refine ⟨2, fun k hk => ?_⟩
 obtain ⟨k, rfl⟩ : ∃ m, k = m + 2 := ⟨k - 2, by omega⟩
 unfold spec_hexDigit.f hexv
 simp only [spec_hexDigit.j0, spec_hexDigit.j1]
 by_cases h1 : 48 ≤ c ∧ c ≤ 57
 ·rw [if_pos h1.1, if_pos (by simp; omega), if_pos h1]
  simp; omega
 rw [if_neg h1]
 have key : (if 97 ≤ c then (if decide (c ≤ 102) = true then some ((c - 97) % 256 + 10, true) else if 65 ≤ c then if c ≤ 70 then some ((c - 65) % 256 + 10, true) else some (0, false) else some (0, false))
  else (if false = true then some ((c - 97) % 256 + 10, true) else if 65 ≤ c then if c ≤ 70 then some ((c - 65) % 256 + 10, true) else some (0, false) else some (0, false))) =
  some (((if 97 ≤ c ∧ c ≤ 102 then some (c - 87) else if 65 ≤ c ∧ c ≤ 70 then some (c - 55) else none : Option Int).getD 0, (if 97 ≤ c ∧ c ≤ 102 then some (c - 87) else if 65 ≤ c ∧ c ≤ 70 then some (c - 55) else none : Option Int).isSome)) := by
  by_cases h2 : 97 ≤ c ∧ c ≤ 102
  ·rw [if_pos h2.1, if_pos (by simp; omega), if_pos h2]
   simp; omega
  rw [if_neg h2]
  by_cases h3 : 65 ≤ c ∧ c ≤ 70
  ·rw [if_neg (by omega), if_neg (by simp), if_pos h3.1, if_pos h3.2, if_pos h3]
   simp; omega
  rw [if_neg h3]
  by_cases h4 : 97 ≤ c
  ·rw [if_pos h4, if_neg (by simp; omega), if_pos (by omega), if_neg (by omega)]
   rfl
  rw [if_neg h4, if_neg (by simp)]
  by_cases h5 : 65 ≤ c
  rotate_left
  ·rw [if_neg h5]
   rfl
  rw [if_pos h5, if_neg (by omega)]
  rfl
 by_cases h6 : 48 ≤ c
 rotate_left
 ·rw [if_neg h6, if_neg (by simp)]
  exact key
 rw [if_pos h6, if_neg (by simp; omega)]
 exact key
theorem here_cons {s : ByteArray} {i : Nat} {a : Int} {l : List Int} (h : From s i (a :: l)) : spec_reader_here.f s (i : Int) = some (a, s, (i : Int)) := by
 have := h.lt
 unfold spec_reader_here.f
 rw [if_pos (by omega), if_pos (by omega), h.bt]
theorem here_nil {s : ByteArray} {i : Nat} (h : From s i []) : spec_reader_here.f s (i : Int) = some (0, s, (i : Int)) := by
 have := h.nil
 unfold spec_reader_here.f
 rw [if_neg (by omega)]
theorem up {i n : Nat} (k : Nat) (h : i ≤ n) (hn : n ≤ 140737488351232) (hk : k ≤ 100) : wrap64 ((i : Int) + (k : Int)) = ((i + k : Nat) : Int) := by
 rw [w64 (by omega)]; omega
theorem up1 {i n : Nat} (h : i ≤ n) (hn : n ≤ 140737488351232) : wrap64 ((i : Int) + 1) = ((i + 1 : Nat) : Int) := up 1 h hn (by omega)
def hexs : Nat → List Int → Bool
  | 0, _ => true
  | _ + 1, [] => false
  | n + 1, a :: r => (hexv a).isSome && hexs n r
theorem hex4_hexs (l : List Int) : (hex4 l).isSome = hexs 4 l := by
 match l with
 | [] => rfl
 | [a] => simp [hex4, hexs]
 | [a, b] => simp [hex4, hexs]
 | [a, b, c] => simp [hex4, hexs]
 | a :: b :: c :: d :: r =>
  simp only [hex4, hexs]
  cases hexv a <;> cases hexv b <;> cases hexv c <;> cases hexv d <;> rfl
section
variable {s : ByteArray} (hs : s.size ≤ 140737488351232)
include hs
theorem esc_l0 : ∀ (n : Nat) (i : Nat) (l : List Int), n ≤ 4 → From s i l →
 (hexs n l = true → Ev (fun k => spec_reader_escape.l0 k (((4 - n : Nat) : Int)) s i) (true, s, ((i + n : Nat) : Int))) ∧
 (hexs n l = false → ∃ p, Ev (fun k => spec_reader_escape.l0 k (((4 - n : Nat) : Int)) s i) (false, s, p))
 | 0, i, l, _, h => ⟨fun _ => Ev.step (f := fun _ => some (true, s, (i : Int))) (fun k => by simp only [spec_reader_escape.l0]; rw [if_neg (by omega)]) (Ev.now _), fun h => by simp [hexs] at h⟩
 | n + 1, i, [], hn, h => by
  refine ⟨fun e => by simp [hexs] at e, fun _ => ⟨(i : Int), ?_⟩⟩
  refine Ev.step (f := fun k => (spec_hexDigit.f k 0).bind fun bt107 => (if bt107.2 = true then (spec_reader_escape.l0 k (wrap64 ((((4 - (n + 1) : Nat) : Int)) + 1)) s (wrap64 ((i : Int) + 1))) else some (false, s, (i : Int)))) (fun k => ?_) (Ev.bind (hexDigit_eq (by omega)) (Ev.congr (fun k => if_neg (by simp [hexv])) (Ev.now _)))
  simp only [spec_reader_escape.l0]
  rw [if_pos (by omega), here_nil h]
  rfl
 | n + 1, i, a :: l, hn, h => by
  have ih := esc_l0 n (i + 1) l (by omega) h.tail
  have e1 : wrap64 ((((4 - (n + 1) : Nat) : Int)) + 1) = (((4 - n : Nat) : Int)) := by rw [w64 (by omega)]; omega
  have e2 := up1 (Nat.le_of_lt h.lt) hs
  have st : ∀ R, Ev (fun k => if (hexv a).isSome = true then (spec_reader_escape.l0 k (((4 - n : Nat) : Int)) s ((i + 1 : Nat) : Int)) else some (false, s, (i : Int))) R → Ev (fun k => spec_reader_escape.l0 k (((4 - (n + 1) : Nat) : Int)) s i) R := fun R hR => by
   refine Ev.step (f := fun k => (spec_hexDigit.f k a).bind fun bt107 => (if bt107.2 = true then (spec_reader_escape.l0 k (((4 - n : Nat) : Int)) s ((i + 1 : Nat) : Int)) else some (false, s, (i : Int)))) (fun k => ?_) (Ev.bind (hexDigit_eq h.head) hR)
   simp only [spec_reader_escape.l0]
   rw [if_pos (by omega), here_cons h, e1]
   simp only [Option.bind_some, e2]
  by_cases ha : (hexv a).isSome = true
  rotate_left
  ·exact ⟨fun e => by simp [hexs, ha] at e, fun _ => ⟨_, st _ (Ev.congr (fun k => if_neg ha) (Ev.now _))⟩⟩
  refine ⟨fun e => ?_, fun e => ?_⟩
  ·simp only [hexs, Bool.and_eq_true] at e
   have := st _ (Ev.congr (fun k => if_pos ha) (ih.1 e.2))
   rwa [show i + 1 + n = i + (n + 1) by omega] at this
  ·rw [hexs, ha, Bool.true_and] at e
   obtain ⟨p, hp⟩ := ih.2 e
   exact ⟨p, st _ (Ev.congr (fun k => if_pos ha) hp)⟩
theorem escape_eq {i : Nat} {l : List Int} (h : From s i l) :
 (∀ r, escL l = some r → Ev (fun k => spec_reader_escape.f k s i) (true, s, ((s.size - r.length : Nat) : Int))) ∧
 (escL l = none → ∃ p, Ev (fun k => spec_reader_escape.f k s i) (false, s, p)) := by
 have j0 : ∀ a x, x = isE a → Ev (fun k => spec_reader_escape.j0 k a x s i) = Ev (fun k => if isE a = true then some (true, s, wrap64 ((i : Int) + 1)) else if a = 117 then spec_reader_escape.l0 (k - 1) 0 s (wrap64 ((i : Int) + 1)) else some (false, s, (i : Int))) := by
  intro a x e
  subst e
  funext R
  apply propext
  constructor
  ·rintro ⟨K, hK⟩
   refine ⟨K + 1, fun k hk => ?_⟩
   obtain ⟨k, rfl⟩ : ∃ m, k = m + 1 := ⟨k - 1, by omega⟩
   have := hK (k + 1) (by omega)
   simpa only [spec_reader_escape.j0, Nat.add_sub_cancel] using this
  ·rintro ⟨K, hK⟩
   refine ⟨K + 1, fun k hk => ?_⟩
   obtain ⟨k, rfl⟩ : ∃ m, k = m + 1 := ⟨k - 1, by omega⟩
   have := hK (k + 1) (by omega)
   simpa only [spec_reader_escape.j0, Nat.add_sub_cancel] using this
 have sh : ∀ {g : Nat → Option (Bool × ByteArray × Int)} {R}, Ev g R → Ev (fun k => g (k - 1)) R := by
  rintro g R ⟨K, hK⟩
  exact ⟨K + 1, fun k hk => hK _ (by omega)⟩
 match l, h with
 | [], h =>
  refine ⟨fun r hr => by simp [escL] at hr, fun _ => ⟨(i : Int), ?_⟩⟩
  refine Ev.congr (f := fun k => spec_reader_escape.j0 k 0 ((0 : Int) == 116) s i) (fun k => ?_) ?_
  ·unfold spec_reader_escape.f
   rw [here_nil h]
   rfl
  ·rw [j0 0 _ zq40]
   exact Ev.congr (fun k => by rw [if_neg zq40, if_neg zq40]) (Ev.now _)
 | a :: l, h =>
  have e2 := up1 (Nat.le_of_lt h.lt) hs
  have hl := h.len
  simp only [List.length_cons] at hl
  have key : Ev (fun k => spec_reader_escape.f k s i) = Ev (fun k => spec_reader_escape.j0 k a (isE a) s i) := by
   congr 1
   funext k
   unfold spec_reader_escape.f
   rw [here_cons h]
   simp only [Option.bind_some, isE]
   by_cases h1 : a = 34
   ·rw [if_pos h1, h1]; rfl
   rw [if_neg h1]
   by_cases h2 : a = 92
   ·rw [if_pos h2, h2]; rfl
   rw [if_neg h2]
   by_cases h3 : a = 47
   ·rw [if_pos h3, h3]; rfl
   rw [if_neg h3]
   by_cases h4 : a = 98
   ·rw [if_pos h4, h4]; rfl
   rw [if_neg h4]
   by_cases h5 : a = 102
   ·rw [if_pos h5, h5]; rfl
   rw [if_neg h5]
   by_cases h6 : a = 110
   ·rw [if_pos h6, h6]; rfl
   rw [if_neg h6]
   by_cases h7 : a = 114
   ·rw [if_pos h7, h7]; rfl
   rw [if_neg h7]
   congr 1
   rw [Bool.eq_iff_iff]
   simp
   omega
  rw [key, j0 a _ rfl]
  by_cases h1 : isE a = true
  ·refine ⟨fun r hr => ?_, fun hr => (by rw [escL_let _ h1] at hr; cases hr)⟩
   rw [escL_let _ h1] at hr
   cases hr
   refine Ev.congr (fun k => if_pos h1) (Ev_same (Ev.now _) ?_)
   rw [e2, show i + 1 = s.size - l.length by omega]
  by_cases h2 : a = 117
  rotate_left
  ·refine ⟨fun r hr => (by rw [escL, if_neg h1, if_neg h2] at hr; cases hr), fun _ => ⟨(i : Int), Ev.congr (fun k => by rw [if_neg h1, if_neg h2]) (Ev.now _)⟩⟩
  subst h2
  have hh := esc_l0 hs 4 (i + 1) l (by omega) h.tail
  refine ⟨fun r hr => ?_, fun hr => ?_⟩
  ·rw [escL, if_neg h1, if_pos rfl] at hr
   obtain ⟨v, hv, hr⟩ := Option.bind_eq_some_iff.mp hr
   cases hr
   have h4 : hexs 4 l = true := by rw [← hex4_hexs, hv]; rfl
   have hlen := hex4_len hv
   refine Ev.congr (f := fun k => spec_reader_escape.l0 (k - 1) 0 s ((i + 1 : Nat) : Int)) (fun k => by rw [if_neg h1, if_pos rfl, e2]) (Ev_same (sh (hh.1 h4)) ?_)
   rw [show i + 1 + 4 = s.size - (l.drop 4).length by rw [List.length_drop]; omega]
  ·rw [escL, if_neg h1, if_pos rfl] at hr
   have h4 : hexs 4 l = false := by
    rw [← hex4_hexs]
    cases hv : hex4 l with
    | none => rfl
    | some v => rw [hv] at hr; cases hr
   obtain ⟨p, hp⟩ := hh.2 h4
   exact ⟨p, Ev.congr (f := fun k => spec_reader_escape.l0 (k - 1) 0 s ((i + 1 : Nat) : Int)) (fun k => by rw [if_neg h1, if_pos rfl, e2]) (sh hp)⟩
theorem quoted_l0 : ∀ (n i : Nat) (l : List Int), l.length ≤ n → From s i l →
 (∀ r, strL l = some r → Ev (fun k => spec_reader_quoted.l0 k s i) (true, s, ((s.size - r.length : Nat) : Int))) ∧
 (strL l = none → ∃ p, Ev (fun k => spec_reader_quoted.l0 k s i) (false, s, p))
 | n, i, [], _, h => by
  have := h.nil
  refine ⟨fun r hr => (by rw [strL_nil] at hr; cases hr), fun _ => ⟨(i : Int), Ev.step (f := fun _ => some (false, s, (i : Int))) (fun k => ?_) (Ev.now _)⟩⟩
  simp only [spec_reader_quoted.l0]
  rw [if_neg (by omega)]
 | 0, i, c :: l, hn, h => by simp at hn
 | n + 1, i, c :: l, hn, h => by
  simp only [List.length_cons] at hn
  have hl := h.len
  simp only [List.length_cons] at hl
  have e2 := up1 (Nat.le_of_lt h.lt) hs
  have st : ∀ k, spec_reader_quoted.l0 (k + 1) s i = (if c = 34 then (some (true, s, ((i + 1 : Nat) : Int))) else (if c < 32 then (some (false, s, ((i + 1 : Nat) : Int))) else (if c = 92 then ((spec_reader_escape.f k s ((i + 1 : Nat) : Int)).bind fun bt101 => (if bt101.1 = true then (spec_reader_quoted.l0 k bt101.2.1 bt101.2.2) else (some (false, bt101.2.1, bt101.2.2)))) else (spec_reader_quoted.l0 k s ((i + 1 : Nat) : Int))))) := fun k => by
   simp only [spec_reader_quoted.l0]
   rw [if_pos (by have := h.lt; omega), if_pos (by omega), h.bt, e2]
  by_cases h1 : c = 34
  ·subst h1
   refine ⟨fun r hr => ?_, fun hr => (by rw [strL_end] at hr; cases hr)⟩
   rw [strL_end] at hr
   cases hr
   refine Ev.step (fun k => (st k).trans (if_pos rfl)) (Ev_same (Ev.now _) ?_)
   rw [show i + 1 = s.size - l.length by omega]
  by_cases h2 : c < 32
  ·refine ⟨fun r hr => (by rw [strL_low _ h2] at hr; cases hr), fun _ => ⟨_, Ev.step (fun k => (st k).trans ((if_neg h1).trans (if_pos h2))) (Ev.now _)⟩⟩
  by_cases h3 : c = 92
  rotate_left
  ·rw [strL_raw _ ⟨h1, h2, h3⟩]
   have ih := quoted_l0 n (i + 1) l (by omega) h.tail
   have go : ∀ k, spec_reader_quoted.l0 (k + 1) s i = spec_reader_quoted.l0 k s ((i + 1 : Nat) : Int) := fun k => (st k).trans ((if_neg h1).trans ((if_neg h2).trans (if_neg h3)))
   refine ⟨fun r hr => Ev.step go (ih.1 r hr), fun hr => ?_⟩
   obtain ⟨p, hq⟩ := ih.2 hr
   exact ⟨p, Ev.step go hq⟩
  subst h3
  have hh := escape_eq hs h.tail
  rw [strL_esc]
  have go : ∀ {a q R}, Ev (fun k => spec_reader_escape.f k s ((i + 1 : Nat) : Int)) (a, s, q) → Ev (fun k => if a = true then (spec_reader_quoted.l0 k s q) else (some (false, s, q))) R → Ev (fun k => spec_reader_quoted.l0 k s i) R := fun {a q R} hx hy =>
   Ev.step (fun k => (st k).trans ((if_neg h1).trans ((if_neg h2).trans (if_pos rfl)))) (Ev.bind hx hy)
  cases he : escL l with
  | none =>
   refine ⟨fun r hr => (by cases hr), fun _ => ?_⟩
   obtain ⟨p, hp⟩ := hh.2 he
   exact ⟨p, go hp (Ev.congr (fun k => if_neg zq40) (Ev.now _))⟩
  | some r' =>
   have hlen := escL_len he
   have hp := hh.1 r' he
   have hF : From s (s.size - r'.length) r' := by
    rcases escL_ex he with ⟨b, _, rfl⟩ | ⟨a, b, c, d, v, _, rfl⟩
    ·have := h.tail.tail
     have hz := this.len
     rwa [show i + 1 + 1 = s.size - r'.length by omega] at this
    ·have := h.tail.tail.tail.tail.tail.tail
     have hz := this.len
     rwa [show i + 1 + 1 + 1 + 1 + 1 + 1 = s.size - r'.length by omega] at this
   have ih := quoted_l0 n (s.size - r'.length) r' (by omega) hF
   refine ⟨fun r hr => go hp (Ev.congr (fun k => if_pos rfl) (ih.1 r hr)), fun hr => ?_⟩
   obtain ⟨p, hq⟩ := ih.2 hr
   exact ⟨p, go hp (Ev.congr (fun k => if_pos rfl) hq)⟩
theorem quoted_eq {i : Nat} {c : Int} {l : List Int} (h : From s i (c :: l)) :
 (∀ r, strL l = some r → Ev (fun k => spec_reader_quoted.f k s i) (true, s, ((s.size - r.length : Nat) : Int))) ∧
 (strL l = none → ∃ p, Ev (fun k => spec_reader_quoted.f k s i) (false, s, p)) := by
 have e2 := up1 (Nat.le_of_lt h.lt) hs
 have := quoted_l0 hs l.length (i + 1) l (Nat.le_refl _) h.tail
 unfold spec_reader_quoted.f
 rw [e2]
 exact this
end

end Go.Proofs.YtaigbkkgmncipaaDoor.J
end
section
namespace Go.Proofs.YtaigbkkgmncipaaDoor.RN
open Go.RowKit Go.Proofs.YtaigbkkgmncipaaDoor.G Go.Proofs.YtaigbkkgmncipaaDoorW.PrintWords Go.Proofs.YtaigbkkgmncipaaDoorW.PrintLast
def dg (s : ByteArray) (i : Nat) : Bool := decide (i < s.size ∧ 48 ≤ bt s i ∧ bt s i ≤ 57)
theorem Ev_same {α : Type} {g : Nat → Option α} {r r' : α} (h : Ev g r) (e : r = r') : Ev g r' := e ▸ h
end Go.Proofs.YtaigbkkgmncipaaDoor.RN
end
section
namespace Go.Proofs.YtaigbkkgmncipaaDoor.J
open Go.RowKit Go.Proofs.YtaigbkkgmncipaaDoor.G Go.Proofs.YtaigbkkgmncipaaDoorW.PrintWords Go.Proofs.YtaigbkkgmncipaaDoorW.PrintLast

def Suf (s : ByteArray) (l : List Int) : Prop := From s (s.size - l.length) l
def P (s : ByteArray) (l : List Int) : Int := ((s.size - l.length : Nat) : Int)
theorem Suf.le {s : ByteArray} {l : List Int} (h : Suf s l) : l.length ≤ s.size := by
 have := From.len h
 omega
theorem Suf.tail {s : ByteArray} {a : Int} {l : List Int} (h : Suf s (a :: l)) : Suf s l := by
 have h1 := h.le
 have := From.tail h
 simp only [List.length_cons] at this h1
 unfold Suf
 rwa [show s.size - l.length = s.size - (l.length + 1) + 1 by omega]
theorem Suf.app {s : ByteArray} {a l : List Int} (h : Suf s (a ++ l)) : Suf s l := by
 induction a with
 | nil => exact h
 | cons x a ih => exact ih (Suf.tail h)
theorem Suf.of {s : ByteArray} {i : Nat} {l : List Int} (h : From s i l) : Suf s l ∧ i = s.size - l.length := by
 have := h.len
 have e : i = s.size - l.length := by omega
 refine ⟨?_, e⟩
 unfold Suf
 rw [← e]
 exact h
theorem Suf.start (s : ByteArray) : Suf s (bytesOf s) := by
 unfold Suf
 rw [bytesOf_length, Nat.sub_self]
 exact From.start s
theorem P_cons {s : ByteArray} {a : Int} {l : List Int} (h : Suf s (a :: l)) : P s l = P s (a :: l) + 1 := by
 have := h.le
 unfold P
 simp only [List.length_cons] at this ⊢
 omega
theorem P_le (s : ByteArray) (l : List Int) : 0 ≤ P s l ∧ P s l ≤ s.size := by unfold P; omega
theorem P_lt {s : ByteArray} {a : Int} {l : List Int} (h : Suf s (a :: l)) : P s (a :: l) < s.size := by
 have := h.le
 unfold P
 simp only [List.length_cons] at this ⊢
 omega
theorem P_nil (s : ByteArray) : P s [] = s.size := by unfold P; simp
theorem Suf.bt {s : ByteArray} {a : Int} {l : List Int} (h : Suf s (a :: l)) : bt s (P s (a :: l)) = a := From.bt h
theorem Suf.skB {s : ByteArray} {l : List Int} (h : Suf s l) : Suf s (skB l) := by
 obtain ⟨b, _, e⟩ := skB_ex l
 rw [e] at h
 exact h.app
theorem Suf.str {s : ByteArray} {l r : List Int} (h : Suf s l) (k : strL l = some r) : Suf s r := by
 obtain ⟨b, _, e⟩ := strL_iff.mp k
 rw [e] at h
 exact Suf.tail h.app
theorem Suf.drop {s : ByteArray} {l : List Int} (h : Suf s l) (n : Nat) : Suf s (l.drop n) := by
 rw [← List.take_append_drop n l] at h
 exact h.app
section
variable {s : ByteArray} (hs : s.size ≤ 140737488351232)
include hs
theorem up_P {a : Int} {l : List Int} (h : Suf s (a :: l)) : wrap64 (P s (a :: l) + 1) = P s l := by
 have := P_le s (a :: l)
 rw [P_cons h, w64 (by omega)]
omit hs in
theorem here_P {a : Int} {l : List Int} (h : Suf s (a :: l)) : spec_reader_here.f s (P s (a :: l)) = some (a, s, P s (a :: l)) := here_cons h
theorem blanks_eq : ∀ l, Suf s l → Ev (fun k => spec_reader_blanks.f k s (P s l)) (s, P s (skB l))
 | [], _ => by
  refine Ev.step (f := fun _ => some (s, P s [])) (fun k => ?_) (Ev.now _)
  unfold spec_reader_blanks.f
  simp only [spec_reader_blanks.l0]
  rw [P_nil, if_neg (by omega)]
 | c :: l, h => by
  have h1 := P_lt h
  have h2 := P_le s (c :: l)
  have hb : spec_Blank.f c = some (isB c) := by
   unfold spec_Blank.f isB
   by_cases e1 : c = 32
   ·rw [if_pos e1, e1]; rfl
   by_cases e2 : c = 9
   ·rw [if_neg e1, if_pos e2, e2]; rfl
   by_cases e3 : c = 10
   ·rw [if_neg e1, if_neg e2, if_pos e3, e3]; rfl
   rw [if_neg e1, if_neg e2, if_neg e3]
   congr 1
   rw [Bool.eq_iff_iff]
   simp [e1, e2, e3]
  unfold spec_reader_blanks.f
  by_cases e : isB c = true
  ·refine Ev.step (fun k => ?_) (Ev_same (blanks_eq l h.tail) (by rw [skB, if_pos e]))
   simp only [spec_reader_blanks.l0]
   rw [if_pos (by omega), if_pos (by omega), h.bt, hb, Option.bind_some, if_pos e, up_P hs h]
   rfl
  refine Ev.step (f := fun _ => some (s, P s (c :: l))) (fun k => ?_) (Ev_same (Ev.now _) (by rw [skB, if_neg e]))
  simp only [spec_reader_blanks.l0]
  rw [if_pos (by omega), if_pos (by omega), h.bt, hb, Option.bind_some, if_neg e]
theorem quoted_P {a : Int} {l : List Int} (h : Suf s (a :: l)) :
 (∀ r, strL l = some r → Ev (fun k => spec_reader_quoted.f k s (P s (a :: l))) (true, s, P s r)) ∧ (strL l = none → ∃ p, Ev (fun k => spec_reader_quoted.f k s (P s (a :: l))) (false, s, p)) := quoted_eq hs h
end
end Go.Proofs.YtaigbkkgmncipaaDoor.J
end
section
namespace Go.Proofs.YtaigbkkgmncipaaDoor.U
open Go.RowKit Go.Proofs.YtaigbkkgmncipaaDoor.G Go.Proofs.YtaigbkkgmncipaaDoorW.PrintWords Go.Proofs.YtaigbkkgmncipaaDoorW.PrintLast
theorem w64 {x : Int} (h : -9223372036854775808 ≤ x ∧ x ≤ 9223372036854775807) : wrap64 x = x := by
 unfold wrap64
 omega
def nb (s : ByteArray) (i : Nat) : Nat := (s.get! i).toNat
theorem nb_bt (s : ByteArray) (i : Nat) : bt s (i : Int) = (nb s i : Int) := by
 unfold bt nb
 split
 ·rename_i h
  have h' : i < s.size := by simpa using h
  have e : s.get! i = s[i]'h' := by cases s with | mk d => exact getElem!_pos d i h'
  rw [e]
  simp
 ·rename_i h
  have h' : ¬ i < s.size := by simpa using h
  have e : s.get! i = default := by cases s with | mk d => exact getElem!_neg d i h'
  rw [e]
  rfl
theorem nb_lt (s : ByteArray) (i : Nat) : nb s i < 256 := (s.get! i).toNat_lt
theorem Ev_same {α : Type} {g : Nat → Option α} {r r' : α} (h : Ev g r) (e : r = r') : Ev g r' := e ▸ h
structure Chr (s : ByteArray) (i c n : Nat) : Prop where
  dec : Utf8.decode s i = (c, n)
  pos : 1 ≤ n
  fit : i + n ≤ s.size
  low : nb s i < 128 → c = nb s i ∧ n = 1
  high : 128 ≤ nb s i → 128 ≤ c ∧ 2 ≤ n
  top : c ≤ 1114111 ∧ n ≤ 4

theorem l0_more {s : ByteArray} (hs : s.size ≤ 140737488351232) {i : Nat} (hi : i < s.size) (x7 x8 x9 x10 : Nat) (hx : x10 ≤ x8) (h7 : x7 ≤ 1000000) (hj : i + x10 < s.size) (h8 : x8 ≤ 3) {r : Int × Int × Bool}
 (hb : 128 ≤ nb s (i + x10) ∧ nb s (i + x10) ≤ 191)
 (h : Ev (fun k => spec_Character.l0 k s i ((x7 * 64 + (nb s (i + x10) - 128) : Nat) : Int) x8 x9 ((x10 + 1 : Nat) : Int)) r) :
 Ev (fun k => spec_Character.l0 k s i x7 x8 x9 (x10 : Int)) r := by
 refine Ev.step (fun k => ?_) h
 have e1 : wrap64 ((i : Int) + (x10 : Int)) = ((i + x10 : Nat) : Int) := by rw [w64 (by omega)]; omega
 have e2 : wrap64 (bt s ((i + x10 : Nat) : Int)) = (nb s (i + x10) : Int) := by rw [nb_bt, w64 (by omega)]
 simp only [spec_Character.l0, e1, e2]
 rw [if_pos (by omega), if_pos (by omega), if_pos (by omega), if_neg (by omega), if_neg (by omega)]
 congr 1
 ·rw [w64 (x := (x7 : Int) * 64) (by omega), w64 (x := (x7 : Int) * 64 + _) (by omega), w64 (by omega)]
  omega
 ·rw [w64 (by omega)]
  omega
theorem l0_none {s : ByteArray} (hs : s.size ≤ 140737488351232) {i : Nat} (hi : i < s.size) (x7 x8 x9 x10 : Nat) (hx : x10 ≤ x8) (hj : i + x10 < s.size) (h8 : x8 ≤ 3) (hb : ¬ (128 ≤ nb s (i + x10) ∧ nb s (i + x10) ≤ 191)) :
 Ev (fun k => spec_Character.l0 k s i x7 x8 x9 (x10 : Int)) (65533, 1, false) := by
 refine Ev.step (f := fun _ => some (65533, 1, false)) (fun k => ?_) (Ev.now _)
 have e1 : wrap64 ((i : Int) + (x10 : Int)) = ((i + x10 : Nat) : Int) := by rw [w64 (by omega)]; omega
 have e2 : wrap64 (bt s ((i + x10 : Nat) : Int)) = (nb s (i + x10) : Int) := by rw [nb_bt, w64 (by have := nb_lt s (i + x10); omega)]
 simp only [spec_Character.l0, e1, e2]
 rw [if_pos (by omega), if_pos (by omega), if_pos (by omega)]
 by_cases h : nb s (i + x10) < 128
 ·rw [if_pos (by omega)]
 rw [if_neg (by omega), if_pos (by omega)]
theorem l0_end {s : ByteArray} (_hs : s.size ≤ 140737488351232) {i : Nat} (_hi : i < s.size) (x7 x8 x9 : Nat) (h8 : x8 ≤ 3) :
 Ev (fun k => spec_Character.l0 k s i x7 x8 x9 ((x8 + 1 : Nat) : Int)) (if x9 ≤ x7 ∧ x7 ≤ 1114111 ∧ ¬ (55296 ≤ x7 ∧ x7 ≤ 57343) then ((x7 : Int), ((x8 + 1 : Nat) : Int), true) else (65533, 1, false)) := by
 refine Ev.step (f := fun _ => some _) (fun k => ?_) (Ev.now _)
 have eR : ¬ (x9 ≤ x7 ∧ x7 ≤ 1114111 ∧ ¬ (55296 ≤ x7 ∧ x7 ≤ 57343)) → (if x9 ≤ x7 ∧ x7 ≤ 1114111 ∧ ¬ (55296 ≤ x7 ∧ x7 ≤ 57343) then ((x7 : Int), ((x8 + 1 : Nat) : Int), true) else (65533, 1, false)) = (65533, 1, false) := fun h => if_neg h
 simp only [spec_Character.l0, spec_high.f, spec_low.f]
 rw [if_neg (by omega)]
 by_cases h1 : x7 < x9
 ·rw [if_pos (by omega), if_neg (by omega)]
 rw [if_neg (by omega)]
 by_cases h2 : x7 > 1114111
 ·rw [if_pos (by omega), if_neg (by omega)]
 rw [if_neg (by omega), w64 (x := (x8 : Int) + 1) (by omega)]
 by_cases h3 : 55296 ≤ x7 ∧ x7 ≤ 56319
 ·rw [eR (by omega), if_pos (by omega)]
  simp only [Option.bind_some]
  rw [if_pos (by simp; omega)]
 have e3 : (if 55296 ≤ (x7 : Int) then some (decide ((x7 : Int) ≤ 56319)) else some false) = some false := by
  split
  ·congr 1
   simp
   omega
  ·rfl
 rw [e3]
 simp only [Option.bind_some]
 rw [if_neg zq40]
 by_cases h4 : 56320 ≤ x7 ∧ x7 ≤ 57343
 ·rw [eR (by omega), if_pos (by omega)]
  simp only [Option.bind_some]
  rw [if_pos (by simp; omega)]
 have e4 : (if 56320 ≤ (x7 : Int) then some (decide ((x7 : Int) ≤ 57343)) else some false) = some false := by
  split
  ·congr 1
   simp
   omega
  ·rfl
 rw [e4]
 simp only [Option.bind_some]
 rw [if_neg zq40, if_pos (by omega)]
 simp
def Ans (s : ByteArray) (i : Nat) (r : Int × Int × Bool) : Prop := r = (65533, 1, false) ∨ ∃ c n : Nat, r = ((c : Int), (n : Int), true) ∧ Chr s i c n
theorem j2_two {s : ByteArray} (hs : s.size ≤ 140737488351232) {i : Nat} (hi : i < s.size) (h0 : 194 ≤ nb s i ∧ nb s i ≤ 223) : ∃ r, Ev (fun k => spec_Character.j2 k s i ((nb s i - 192 : Nat) : Int) 1 128) r ∧ Ans s i r := by
 by_cases hn : s.size ≤ i + 1
 ·refine ⟨_, Ev.step (f := fun _ => some (65533, 1, false)) (fun k => ?_) (Ev.now _), .inl rfl⟩
  simp only [spec_Character.j2]
  rw [if_pos zq60]
 have st : ∀ {r}, Ev (fun k => spec_Character.l0 k s i ((nb s i - 192 : Nat) : Int) ((1 : Nat) : Int) ((128 : Nat) : Int) ((1 : Nat) : Int)) r → Ev (fun k => spec_Character.j2 k s i ((nb s i - 192 : Nat) : Int) 1 128) r := fun h => by
  refine Ev.step (fun k => ?_) h
  simp only [spec_Character.j2]
  rw [if_neg zq60]
  rfl
 by_cases h1 : 128 ≤ nb s (i + 1) ∧ nb s (i + 1) ≤ 191
 rotate_left
 ·exact ⟨_, st (l0_none hs hi _ 1 128 1 (by omega) (by omega) (by omega) h1), .inl rfl⟩
 refine ⟨_, st (l0_more hs hi _ 1 128 1 (by omega) (by omega) (by omega) (by omega) h1 (l0_end hs hi _ 1 128 (by omega))), .inr ⟨(nb s i - 192) * 64 + (nb s (i + 1) - 128), 2, ?_, ?_, by omega, by omega, fun h => by omega, fun _ => by omega, by omega⟩⟩
 ·rw [if_pos (by omega)]
 ·rw [Lib.decode_at]
  change Lib.decodeN (s.size - i) (nb s i) (nb s (i + 1)) (nb s (i + 2)) (nb s (i + 3)) = _
  unfold Lib.decodeN
  rw [if_neg (by omega), if_pos (by omega), if_pos (by omega)]
  refine congrArg (fun x => (x, 2)) ?_
  omega
theorem j2_three {s : ByteArray} (hs : s.size ≤ 140737488351232) {i : Nat} (hi : i < s.size) (h0 : 224 ≤ nb s i ∧ nb s i ≤ 239) : ∃ r, Ev (fun k => spec_Character.j2 k s i ((nb s i - 224 : Nat) : Int) 2 2048) r ∧ Ans s i r := by
 by_cases hn : s.size ≤ i + 2
 ·refine ⟨_, Ev.step (f := fun _ => some (65533, 1, false)) (fun k => ?_) (Ev.now _), .inl rfl⟩
  simp only [spec_Character.j2]
  rw [if_pos zq60]
 have st : ∀ {r}, Ev (fun k => spec_Character.l0 k s i ((nb s i - 224 : Nat) : Int) ((2 : Nat) : Int) ((2048 : Nat) : Int) ((1 : Nat) : Int)) r → Ev (fun k => spec_Character.j2 k s i ((nb s i - 224 : Nat) : Int) 2 2048) r := fun h => by
  refine Ev.step (fun k => ?_) h
  simp only [spec_Character.j2]
  rw [if_neg zq60]
  rfl
 by_cases h1 : 128 ≤ nb s (i + 1) ∧ nb s (i + 1) ≤ 191
 rotate_left
 ·exact ⟨_, st (l0_none hs hi _ 2 2048 1 (by omega) (by omega) (by omega) h1), .inl rfl⟩
 by_cases h2 : 128 ≤ nb s (i + 2) ∧ nb s (i + 2) ≤ 191
 rotate_left
 ·exact ⟨_, st (l0_more hs hi _ 2 2048 1 (by omega) (by omega) (by omega) (by omega) h1 (l0_none hs hi _ 2 2048 2 (by omega) (by omega) (by omega) h2)), .inl rfl⟩
 have hE := st (l0_more hs hi _ 2 2048 1 (by omega) (by omega) (by omega) (by omega) h1 (l0_more hs hi _ 2 2048 2 (by omega) (by omega) (by omega) (by omega) h2 (l0_end hs hi _ 2 2048 (by omega))))
 refine ⟨_, hE, ?_⟩
 by_cases hx : 2048 ≤ ((nb s i - 224) * 64 + (nb s (i + 1) - 128)) * 64 + (nb s (i + 2) - 128) ∧ ((nb s i - 224) * 64 + (nb s (i + 1) - 128)) * 64 + (nb s (i + 2) - 128) ≤ 1114111 ∧ ¬ (55296 ≤ ((nb s i - 224) * 64 + (nb s (i + 1) - 128)) * 64 + (nb s (i + 2) - 128) ∧ ((nb s i - 224) * 64 + (nb s (i + 1) - 128)) * 64 + (nb s (i + 2) - 128) ≤ 57343)
 rotate_left
 ·exact .inl (if_neg hx)
 refine .inr ⟨((nb s i - 224) * 64 + (nb s (i + 1) - 128)) * 64 + (nb s (i + 2) - 128), 3, by rw [if_pos hx], ?_, by omega, by omega, fun h => by omega, fun _ => by omega, by omega⟩
 rw [Lib.decode_at]
 change Lib.decodeN (s.size - i) (nb s i) (nb s (i + 1)) (nb s (i + 2)) (nb s (i + 3)) = _
 unfold Lib.decodeN
 rw [if_neg (by omega), if_neg (by omega), if_pos (by omega), if_pos (by omega)]
 refine congrArg (fun x => (x, 3)) ?_
 omega
theorem j2_four {s : ByteArray} (hs : s.size ≤ 140737488351232) {i : Nat} (hi : i < s.size) (h0 : 240 ≤ nb s i ∧ nb s i ≤ 244) : ∃ r, Ev (fun k => spec_Character.j2 k s i ((nb s i - 240 : Nat) : Int) 3 65536) r ∧ Ans s i r := by
 by_cases hn : s.size ≤ i + 3
 ·refine ⟨_, Ev.step (f := fun _ => some (65533, 1, false)) (fun k => ?_) (Ev.now _), .inl rfl⟩
  simp only [spec_Character.j2]
  rw [if_pos zq60]
 have st : ∀ {r}, Ev (fun k => spec_Character.l0 k s i ((nb s i - 240 : Nat) : Int) ((3 : Nat) : Int) ((65536 : Nat) : Int) ((1 : Nat) : Int)) r → Ev (fun k => spec_Character.j2 k s i ((nb s i - 240 : Nat) : Int) 3 65536) r := fun h => by
  refine Ev.step (fun k => ?_) h
  simp only [spec_Character.j2]
  rw [if_neg zq60]
  rfl
 by_cases h1 : 128 ≤ nb s (i + 1) ∧ nb s (i + 1) ≤ 191
 rotate_left
 ·exact ⟨_, st (l0_none hs hi _ 3 65536 1 (by omega) (by omega) (by omega) h1), .inl rfl⟩
 by_cases h2 : 128 ≤ nb s (i + 2) ∧ nb s (i + 2) ≤ 191
 rotate_left
 ·exact ⟨_, st (l0_more hs hi _ 3 65536 1 (by omega) (by omega) (by omega) (by omega) h1 (l0_none hs hi _ 3 65536 2 (by omega) (by omega) (by omega) h2)), .inl rfl⟩
 by_cases h3 : 128 ≤ nb s (i + 3) ∧ nb s (i + 3) ≤ 191
 rotate_left
 ·exact ⟨_, st (l0_more hs hi _ 3 65536 1 (by omega) (by omega) (by omega) (by omega) h1 (l0_more hs hi _ 3 65536 2 (by omega) (by omega) (by omega) (by omega) h2 (l0_none hs hi _ 3 65536 3 (by omega) (by omega) (by omega) h3))), .inl rfl⟩
 have hE := st (l0_more hs hi _ 3 65536 1 (by omega) (by omega) (by omega) (by omega) h1 (l0_more hs hi _ 3 65536 2 (by omega) (by omega) (by omega) (by omega) h2 (l0_more hs hi _ 3 65536 3 (by omega) (by omega) (by omega) (by omega) h3 (l0_end hs hi _ 3 65536 (by omega)))))
 refine ⟨_, hE, ?_⟩
 obtain ⟨x, hxe⟩ : ∃ x, x = (((nb s i - 240) * 64 + (nb s (i + 1) - 128)) * 64 + (nb s (i + 2) - 128)) * 64 + (nb s (i + 3) - 128) := ⟨_, rfl⟩
 rw [← hxe]
 by_cases hx : 65536 ≤ x ∧ x ≤ 1114111 ∧ ¬ (55296 ≤ x ∧ x ≤ 57343)
 rotate_left
 ·exact .inl (if_neg hx)
 refine .inr ⟨x, 4, by rw [if_pos hx], ?_, by omega, by omega, fun h => by omega, fun _ => by omega, by omega⟩
 rw [Lib.decode_at]
 change Lib.decodeN (s.size - i) (nb s i) (nb s (i + 1)) (nb s (i + 2)) (nb s (i + 3)) = _
 unfold Lib.decodeN
 rw [if_neg (by omega), if_neg (by omega), if_neg (by omega), if_pos (by omega), if_pos (by omega)]
 congr 1
 omega
theorem char_ans {s : ByteArray} (hs : s.size ≤ 140737488351232) {i : Nat} (hi : i < s.size) : ∃ r, Ev (fun k => spec_Character.f k s i) r ∧ Ans s i r := by
 have hb := nb_lt s i
 have e2 : wrap64 (bt s (i : Int)) = (nb s i : Int) := by rw [nb_bt, w64 (by omega)]
 have no : ∀ {f : Nat → Option (Int × Int × Bool)}, (∀ k, f k = some (65533, 1, false)) → ∃ r, Ev f r ∧ Ans s i r := fun h => ⟨_, Ev.congr h (Ev.now _), .inl rfl⟩
 have fore : ∀ {g f : Nat → Option (Int × Int × Bool)}, (∀ k, g (k + 1) = f k) → (∃ r, Ev f r ∧ Ans s i r) → ∃ r, Ev g r ∧ Ans s i r := fun h ⟨r, h1, h2⟩ => ⟨r, Ev.step h h1, h2⟩
 have same : ∀ {g f : Nat → Option (Int × Int × Bool)}, (∀ k, g k = f k) → (∃ r, Ev f r ∧ Ans s i r) → ∃ r, Ev g r ∧ Ans s i r := fun h ⟨r, h1, h2⟩ => ⟨r, Ev.congr h h1, h2⟩
 by_cases h1 : nb s i < 128
 ·refine ⟨_, Ev.congr (f := fun _ => some ((nb s i : Int), ((1 : Nat) : Int), true)) (fun k => ?_) (Ev.now _), .inr ⟨nb s i, 1, rfl, ?_, by omega, by omega, fun _ => ⟨rfl, rfl⟩, fun h => by omega, by omega⟩⟩
  ·simp only [spec_Character.f, e2]
   rw [if_pos (by omega), if_pos (by omega), if_pos (by omega)]
   rfl
  ·rw [Lib.decode_at]
   change Lib.decodeN (s.size - i) (nb s i) (nb s (i + 1)) (nb s (i + 2)) (nb s (i + 3)) = _
   unfold Lib.decodeN
   rw [if_pos h1]
 by_cases h2 : 194 ≤ nb s i ∧ nb s i ≤ 223
 ·refine same (f := fun k => spec_Character.j0 k s i (nb s i : Int) true) (fun k => ?_) (fore (fun k => ?_) (j2_two hs hi h2))
  ·simp only [spec_Character.f, e2]
   rw [if_pos (by omega), if_pos (by omega), if_neg (by omega), if_pos (by omega)]
   congr 1
   simp
   omega
  ·simp only [spec_Character.j0]
   rw [if_pos trivial, w64 (by omega)]
   congr 1
   omega
 refine same (f := fun k => spec_Character.j0 k s i (nb s i : Int) false) (fun k => ?_) ?_
 ·simp only [spec_Character.f, e2]
  rw [if_pos (by omega), if_pos (by omega), if_neg (by omega)]
  by_cases h : 194 ≤ nb s i
  rotate_left
  ·rw [if_neg (by omega)]
  rw [if_pos (by omega)]
  congr 1
  simp
  omega
 by_cases h3 : 224 ≤ nb s i ∧ nb s i ≤ 239
 ·refine fore (f := fun k => spec_Character.j1 k s i (nb s i : Int) true) (fun k => ?_) (fore (fun k => ?_) (j2_three hs hi h3))
  ·simp only [spec_Character.j0]
   rw [if_neg zq40, if_pos (by omega)]
   congr 1
   simp
   omega
  ·simp only [spec_Character.j1]
   rw [if_pos trivial, w64 (by omega)]
   congr 1
   omega
 refine fore (f := fun k => spec_Character.j1 k s i (nb s i : Int) false) (fun k => ?_) ?_
 ·simp only [spec_Character.j0]
  rw [if_neg zq40]
  by_cases h : 224 ≤ nb s i
  rotate_left
  ·rw [if_neg (by omega)]
  rw [if_pos (by omega)]
  congr 1
  simp
  omega
 by_cases h4 : 240 ≤ nb s i ∧ nb s i ≤ 244
 ·refine fore (fun k => ?_) (j2_four hs hi h4)
  simp only [spec_Character.j1]
  rw [if_neg zq40, if_pos (by omega), if_pos (by omega), w64 (by omega)]
  congr 1
  omega
 refine fore (f := fun _ => some (65533, 1, false)) (fun k => ?_) (no fun _ => rfl)
 simp only [spec_Character.j1]
 rw [if_neg zq40]
 by_cases h : 240 ≤ nb s i
 rotate_left
 ·rw [if_neg (by omega)]
 rw [if_pos (by omega), if_neg (by omega)]
inductive Val (s : ByteArray) : Nat → Prop
  | done : Val s s.size
  | step {i c n : Nat} : i < s.size → Chr s i c n → Ev (fun k => spec_Character.f k s i) ((c : Int), (n : Int), true) → Val s (i + n) → Val s i
theorem utf8_val {s : ByteArray} (hs : s.size ≤ 140737488351232) : ∀ d i, s.size - i = d → i ≤ s.size → ∃ t, Ev (fun k => spec_UTF8.l0 k s i) t ∧ (t = true → Val s i) := by
 intro d
 induction d using Nat.strongRecOn with
 | ind d ih =>
  intro i hd hi
  by_cases h : i < s.size
  rotate_left
  ·refine ⟨true, Ev.step (f := fun _ => some true) (fun k => ?_) (Ev.now _), fun _ => ?_⟩
   ·simp only [spec_UTF8.l0]
    rw [if_neg (by omega)]
   ·have e : i = s.size := by omega
    subst e
    exact Val.done
  obtain ⟨r, h1, h2⟩ := char_ans hs h
  rcases h2 with rfl | ⟨c, n, rfl, hc⟩
  ·refine ⟨false, Ev.step (f := fun k => (spec_Character.f k s i).bind fun b => if b.2.2 = true then spec_UTF8.l0 k s (wrap64 (i + b.2.1)) else some false) (fun k => ?_) (Ev.bind h1 ?_), fun h => by simp at h⟩
   ·simp only [spec_UTF8.l0]
    rw [if_pos (by omega)]
   ·exact Ev.congr (fun k => by rw [if_neg zq40]) (Ev.now _)
  ·have hf := hc.fit
   have hp := hc.pos
   obtain ⟨t, h3, h4⟩ := ih (s.size - (i + n)) (by omega) (i + n) rfl hf
   refine ⟨t, Ev.step (f := fun k => (spec_Character.f k s i).bind fun b => if b.2.2 = true then spec_UTF8.l0 k s (wrap64 (i + b.2.1)) else some false) (fun k => ?_) (Ev.bind h1 ?_), fun h5 => Val.step h hc h1 (h4 h5)⟩
   ·simp only [spec_UTF8.l0]
    rw [if_pos (by omega)]
   ·refine Ev.congr (fun k => ?_) h3
    change spec_UTF8.l0 k s (wrap64 ((i : Int) + (n : Int))) = _
    rw [w64 (by omega)]
    congr 1
end Go.Proofs.YtaigbkkgmncipaaDoor.U
end
