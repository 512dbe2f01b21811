-- printed by a turned copy of the kit's print (wip/tools/patch_print.py)
import Derived.Test.YtegbajfmhkmolaaQx0
import Derived.Test.YtegbajfmhkmolaaQxf35
namespace Go.Proofs.Ytegbajfmhkmolaa.Q
open Go.RowKit Go.Proofs.YtegbajfmhkmolaaW.PrintWords Go.Proofs.YtegbajfmhkmolaaW.PrintLast Go.Proofs.YtegbajfmhkmolaaW.PrintMore
attribute [local go_sem] max2_int min2_int max_two min_two max_three min_three max_four min_four   -- for this text's walks alone
set_option linter.unusedVariables false
set_option linter.unusedSimpArgs false

/-! ### gjson_Escape: function 22 -/
def escSafe (c : Int) : Bool := decide (97 ≤ c ∧ c ≤ 122 ∨ 65 ≤ c ∧ c ≤ 90 ∨ 48 ≤ c ∧ c ≤ 57 ∨ c ≤ 32 ∨ c > 126 ∨ c = 95 ∨ c = 45 ∨ c = 58)
theorem escSafe_eq (c : Int) : gjson_isSafePathKeyChar.f c = some (escSafe c) := by
  unfold gjson_isSafePathKeyChar.f escSafe
  repeat' split
  all_goals first
    | (rw [Option.some.injEq, eq_comm, decide_eq_true_eq]; omega)
    | (rw [Option.some.injEq, Bool.eq_iff_iff, beq_iff_eq, decide_eq_true_eq]; omega)
def escL : List Int → List Int
  | [] => []
  | c :: l => if escSafe c = true then c :: escL l else 92 :: c :: escL l
theorem escL_append (a b : List Int) : escL (a ++ b) = escL a ++ escL b := by
  induction a with
  | nil => rfl
  | cons c l ih => simp only [List.cons_append, escL, ih]; split <;> rfl
theorem escL_safe : ∀ l : List Int, (∀ c ∈ l, escSafe c = true) → escL l = l
  | [], _ => rfl
  | c :: l, h => by rw [escL, if_pos (h c (by simp)), escL_safe l (fun d hd => h d (by simp [hd]))]
theorem escL_length : ∀ l : List Int, (escL l).length ≤ 2 * l.length
  | [] => by simp [escL]
  | c :: l => by
    have := escL_length l
    rw [escL]
    split <;> simp <;> omega
theorem take_nums (s : ByteArray) (j : Nat) (h : j < s.size) : (numsOf s).take (j + 1) = (numsOf s).take j ++ [bt s j] := by
  rw [List.take_succ_eq_append_getElem (by rw [numsOf_length]; exact h)]
  congr 2
  have e := numsOf_rd s (j : Int)
  unfold rd at e
  rw [← e, Int.toNat_natCast, List.getD_eq_getElem?_getD, List.getElem?_eq_getElem (by rw [numsOf_length]; exact h)]
  rfl
theorem extract_nums (s : ByteArray) (j : Nat) : numsOf (s.extract 0 j) = (numsOf s).take j := by
  simp [numsOf, List.map_take, ByteArray.data_extract]
def gjson_Escape.f (a0 : ByteArray) : Option (ByteArray) := if a0.size ≤ 1099511627776 then some (strOfNums (escL (numsOf a0))) else none
set_option maxHeartbeats 8000000 in
set_option maxRecDepth 100000 in
theorem gjson_Escape.calls (a0 : ByteArray) (r : ByteArray) (w : World) (h : gjson_Escape.f a0 = some r) :
    Calls Try.prog 22 #[.string a0] w fun e w' => e = .returned (.string r) ∧ Below w.heap.size w w' := by
  unfold gjson_Escape.f at h
  split at h
  case isFalse => cases h
  case isTrue hn =>
  obtain rfl := Option.some.inj h
  clear h
  go_enter Try.func22, Try.ntmps22
  go_wp2
  go_loopg [3] (a0.size) (fun kq v3 w' => ∃ j : Nat, v3 = .int .i64 (j : Int) ∧ Aside0 (kq = a0.size - j) ∧ j ≤ a0.size ∧ Aside0 (escL ((numsOf a0).take j) = (numsOf a0).take j) ∧ Drawn0 w w')
  case atStart => exact ⟨0, rfl, ⟨rfl⟩, Nat.zero_le _, ⟨rfl⟩, Drawn0.refl _⟩
  case round =>
    obtain ⟨j, rfl, HK, hj, HE, ⟨m, rfl⟩⟩ := hrel
    by_cases hlt : j < a0.size
    · cases hs : escSafe (bt a0 j) with
      | true =>
        have HS := Aside0.mk hs
        clear hs
        have hx := bt_nat a0 j
        go_wp2_with (go_at_call 35; (with_reducible refine (gjson_isSafePathKeyChar.calls (bt a0 j) true _ (by rw [escSafe_eq, HS.out])).mono ?_); rintro e w' ⟨rfl, ⟨nd, rfl⟩⟩)
        go_roundg (gk - 1)
        case measure => have := HK.out; omega
        case rel => exact ⟨j + 1, by go_num, ⟨by have := HK.out; omega⟩, by omega, ⟨by rw [take_nums a0 j hlt, escL_append, HE.out]; congr 1; simp [escL, HS.out]⟩, ⟨⟨m + nd, by simp⟩⟩⟩
      | false =>
        have HS := Aside0.mk hs
        clear hs
        have hx := bt_nat a0 j
        have hz : ((a0.size : Int) + 1).toNat = a0.size + 1 := by omega
        have HZ := Aside0.mk hz
        clear hz
        have HB0 := Aside0.mk (Drawn0.below (w := w) ⟨⟨m, rfl⟩⟩)
        go_wp2_with (first | (go_at_call 35; (with_reducible refine (gjson_isSafePathKeyChar.calls (bt a0 j) false _ (by rw [escSafe_eq, HS.out])).mono ?_); rintro e w' ⟨rfl, ⟨nd, rfl⟩⟩) | ((with_reducible refine gate_dst (N := 19) rfl ?_); refine Kd.R_make (Kd.int .u8) (w0 := w) w.heap.size 5 rfl (N := 19) rfl 25 _ _ rfl ((a0.size : Int) + 1) rfl rfl Try.underlying25 (.int .u8 0) 1 info5 rfl (by decide) (by omega) 0 (ok := fun _ => True) (okp := fun _ => True) rfl (fun _ hk => hk) trivial (by omega) (by rw [HZ.out]; omega) ?mB ?mS ?_; (case mB => repeat (first | exact Below.refl _ _ | apply pw_below_drewN)); (case mS => exact Nat.le_refl _); intro v1 w1 ho hb hg hn; rw [HZ.out] at ho; obtain ⟨A1, c1, e1, hc1, _⟩ := Kd.R_reads ho; rw [List.length_replicate] at e1 hc1; subst e1; have HO := Aside0.mk ho; have HB := Aside0.mk hb; clear ho hb hg hn) | ((with_reducible refine gate_dst (N := 24) rfl ?_); refine R_copy_str (w0 := w) w.heap.size rfl _ _ 25 9 5 rfl Try.underlying25 (by kernel_rfl) _ _ (a0.extract 0 j) _ rfl rfl ?c1 ?c2 HO.out HB.out ?_; (case c1 => simp; omega); (case c2 => simp); intro w2 ho hb; have HO2 := Aside0.mk ho; have HB2 := Aside0.mk hb; clear ho hb))
        have HO3 : Aside0 (Kd.R (Kd.int .u8) 5 w2 w.heap.size (fun _ => True) (.slice A1 j c1) (escL ((numsOf a0).take j))) := by
          refine ⟨?_⟩
          have h := Kd.R_take HO2.out (m := j) (by rw [List.length_append, numsOf_length, ByteArray.size_extract]; omega)
          rw [List.take_append_of_le_length (by rw [numsOf_length, ByteArray.size_extract]; omega), extract_nums, List.take_take, Nat.min_self] at h
          rw [HE.out]
          exact h
        clear HO2 HO HB HB0 HZ
        go_loopg [3, 4] (a0.size - j) (fun kq v3 v4 w' => ∃ i : Nat, v3 = .int .i64 (i : Int) ∧ Aside0 (kq = a0.size - i) ∧ i ≤ a0.size ∧ Aside0 (Kd.R (Kd.int .u8) 5 w' w.heap.size (fun _ => True) v4 (escL ((numsOf a0).take i))) ∧ Aside0 (Below w.heap.size w w'))
        case atStart => exact ⟨j, rfl, ⟨rfl⟩, hj, HO3, HB2⟩
        case round =>
          clear HO3 HB2 HE HS HK hx hj hlt
          obtain ⟨i, rfl, HK, hi, HO, HB⟩ := hrel
          by_cases hlt : i < a0.size
          · have hx := bt_nat a0 i
            cases ht : escSafe (bt a0 i) with
            | true =>
              have HT := Aside0.mk ht
              clear ht
              go_wp2_with (first | (go_at_call 35; (with_reducible refine (gjson_isSafePathKeyChar.calls (bt a0 i) true _ (by rw [escSafe_eq, HT.out])).mono ?_); rintro e w' ⟨rfl, ⟨nd, rfl⟩⟩) | ((with_reducible refine gate_dst (N := 47) rfl ?_); refine Kd.R_append (Kd.int .u8) (w0 := w) w.heap.size rfl _ _ 25 5 (.int .u8 0) 1 rfl Try.underlying25 info5 rfl (by decide) (by omega) _ (escL ((numsOf a0).take i)) (bt a0 i) [.int .u8 (bt a0 i)] (fun _ => True) (fun _ => False) rfl rfl rfl (fun _ h => h.elim) (fun _ _ => trivial) ?aO ?aB ?aS ?aL ?_; (case aO => (with_reducible repeat (first | apply Kd.R_alloc | apply Kd.R_drewN | apply Kd.R_drew)); exact HO.out); (case aB => repeat (first | exact HB.out | apply pw_below_drewN | apply below_drew1)); (case aS => exact (below_size (by repeat (first | exact HB.out | apply pw_below_drewN | apply below_drew1)))); (case aL => have := escL_length ((numsOf a0).take i); rw [List.length_take, numsOf_length] at this; simp; omega); intro v5 w3 ho hb hg hat; have HO4 := Aside0.mk ho; have HB4 := Aside0.mk hb; clear ho hb hg hat))
              go_roundg (gk - 1)
              case measure => have := HK.out; omega
              case rel => exact ⟨i + 1, by go_num, ⟨by have := HK.out; omega⟩, by omega, ⟨by rw [take_nums a0 i hlt, escL_append]; simpa [escL, HT.out] using HO4.out⟩, HB4⟩
            | false =>
              have HT := Aside0.mk ht
              clear ht
              go_wp2_with (first | (go_at_call 35; (with_reducible refine (gjson_isSafePathKeyChar.calls (bt a0 i) false _ (by rw [escSafe_eq, HT.out])).mono ?_); rintro e w' ⟨rfl, ⟨nd, rfl⟩⟩) | ((with_reducible refine gate_dst (N := 41) rfl ?_); refine Kd.R_append (Kd.int .u8) (w0 := w) w.heap.size rfl _ _ 25 5 (.int .u8 0) 1 rfl Try.underlying25 info5 rfl (by decide) (by omega) _ (escL ((numsOf a0).take i)) (92) [.int .u8 (92)] (fun _ => True) (fun _ => False) rfl rfl rfl (fun _ h => h.elim) (fun _ _ => trivial) ?aO ?aB ?aS ?aL ?_; (case aO => (with_reducible repeat (first | apply Kd.R_alloc | apply Kd.R_drewN | apply Kd.R_drew)); exact HO.out); (case aB => repeat (first | exact HB.out | apply pw_below_drewN | apply below_drew1)); (case aS => exact (below_size (by repeat (first | exact HB.out | apply pw_below_drewN | apply below_drew1)))); (case aL => have := escL_length ((numsOf a0).take i); rw [List.length_take, numsOf_length] at this; simp; omega); intro v5 w3 ho hb hg hat; have HO4 := Aside0.mk ho; have HB4 := Aside0.mk hb; clear ho hb hg hat) | ((with_reducible refine gate_dst (N := 47) rfl ?_); refine Kd.R_append (Kd.int .u8) (w0 := w) w.heap.size rfl _ _ 25 5 (.int .u8 0) 1 rfl Try.underlying25 info5 rfl (by decide) (by omega) _ (escL ((numsOf a0).take i) ++ [92]) (bt a0 i) [.int .u8 (bt a0 i)] (fun _ => True) (fun _ => False) rfl rfl rfl (fun _ h => h.elim) (fun _ _ => trivial) ?aO ?aB ?aS ?aL ?_; (case aO => (with_reducible repeat (first | apply Kd.R_alloc | apply Kd.R_drewN | apply Kd.R_drew)); exact HO4.out); (case aB => repeat (first | exact HB4.out | apply pw_below_drewN | apply below_drew1)); (case aS => exact (below_size (by repeat (first | exact HB4.out | apply pw_below_drewN | apply below_drew1)))); (case aL => have := escL_length ((numsOf a0).take i); rw [List.length_take, numsOf_length] at this; simp; omega); intro v6 w4 ho hb hg hat; have HO5 := Aside0.mk ho; have HB5 := Aside0.mk hb; clear ho hb hg hat))
              go_roundg (gk - 1)
              case measure => have := HK.out; omega
              case rel => exact ⟨i + 1, by go_num, ⟨by have := HK.out; omega⟩, by omega, ⟨by rw [take_nums a0 i hlt, escL_append]; simpa [escL, HT.out] using HO5.out⟩, HB5⟩
          · have hcv := own_string (P := Try.prog) Try.underlying25 Try.underlying5 Try.underlying9 (Kd.own_of_R HO.out)
            go_wp2
            go_ret
            have hj2 : i = a0.size := by omega
            subst hj2
            have e : (numsOf a0).take a0.size = numsOf a0 := List.take_of_length_le (by rw [numsOf_length]; exact Nat.le_refl _)
            exact ⟨by rw [e]; rfl, HB.out⟩
    · go_wp2
      go_ret
      have hj2 : j = a0.size := by omega
      subst hj2
      have e : (numsOf a0).take a0.size = numsOf a0 := List.take_of_length_le (by rw [numsOf_length]; exact Nat.le_refl _)
      have HE2 := HE.out
      rw [e] at HE2
      exact ⟨by rw [HE2, strOfNums_numsOf]; rfl, Drawn0.below ⟨⟨m, rfl⟩⟩⟩

end Go.Proofs.Ytegbajfmhkmolaa.Q
