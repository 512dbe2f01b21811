/- The inner check of numbers takes just the texts (of 1 to 2^16 bytes) that are numbers of RFC 8259, section 6. No condition beyond the statement's own guards. -/
import Derived.Test.YtegbajfmhkmolaaQxf5
import Derived.Test.YtegbajfmhkmolaaRdNum
namespace Go.Proofs.Ytegbajfmhkmolaa.Pure
open Go.RowKit Go.Proofs.Ytegbajfmhkmolaa.Q Go.Proofs.YtegbajfmhkmolaaW.PrintWords Go.Proofs.YtegbajfmhkmolaaW.PrintLast

/-- A number's end is the text's end. -/
def ok (s : ByteArray) (p : Bool × Nat) : Bool := p.1 && decide (p.2 = s.size)
theorem len_eq (s : ByteArray) : ((numsOf s).length : Int) = (s.size : Int) := by rw [numsOf_length]
theorem v_dg (s : ByteArray) (i : Nat) (h : i < s.size) : dg s i = true ↔ 48 ≤ bt s i ∧ bt s i ≤ 57 := by simp [dg, h]

section
variable {s : ByteArray} (hs : s.size ≤ 140737488351232)
include hs
theorem v_l2 (x5 : Nat) (d : Nat) : ∀ i, s.size - i = d → i ≤ s.size → Ev (fun k => jsonparser_validJSONNumber.l2 k (numsOf s) (i : Int) (x5 : Int)) (if dE s i = x5 then false else decide (dE s i = s.size)) := by
  induction d with
  | zero =>
    intro i hd hi
    have hz : dg s i = false := by simp [dg]; omega
    rw [dE_no hz]
    refine Ev.step (f := fun _ => some (if i = x5 then false else decide (i = s.size))) (fun k => ?_) (Ev.now _)
    simp only [jsonparser_validJSONNumber.l2, len_eq]
    rw [if_neg (by omega)]
    by_cases h : i = x5
    · rw [if_pos (by omega), if_pos h]
    · rw [if_neg (by omega), if_neg h, Option.some.injEq, Bool.eq_iff_iff]
      simp; omega
  | succ d ih =>
    intro i hd hi
    by_cases h : dg s i = true
    · have h' := (v_dg s i (by omega)).mp h
      rw [dE_dg h]
      refine Ev.step (fun k => ?_) (ih (i + 1) (by omega) (by omega))
      simp only [jsonparser_validJSONNumber.l2, len_eq, numsOf_rd]
      rw [if_pos (by omega), if_pos (by omega), if_pos (by omega), if_pos (by omega), wrap_up hi hs]
    · have h' : ¬ (48 ≤ bt s i ∧ bt s i ≤ 57) := fun e => h ((v_dg s i (by omega)).mpr e)
      rw [dE_no (by simpa using h)]
      refine Ev.step (f := fun _ => some (if i = x5 then false else decide (i = s.size))) (fun k => ?_) (Ev.now _)
      simp only [jsonparser_validJSONNumber.l2, len_eq, numsOf_rd]
      rw [if_pos (by omega), if_pos (by omega)]
      have e : (if (i : Int) = (x5 : Int) then some false else some ((i : Int) == (s.size : Int))) = some (if i = x5 then false else decide (i = s.size)) := by
        by_cases h : i = x5
        · rw [if_pos (by omega), if_pos h]
        · rw [if_neg (by omega), if_neg h, Option.some.injEq, Bool.eq_iff_iff]
          simp; omega
      rw [e]
      split
      · rw [if_neg (by omega)]
      · rfl
theorem v_j9 {i : Nat} (hi : i ≤ s.size) : Ev (fun k => jsonparser_validJSONNumber.j9 k (numsOf s) (i : Int)) (ok s (dg s i, dE s i)) := by
  refine Ev_same (Ev.step (fun k => by simp only [jsonparser_validJSONNumber.j9]) (v_l2 hs i _ i rfl hi)) ?_
  have hb := dE_bounds (s := s) hi
  have hm := dE_more (s := s) hi
  by_cases h : dg s i = true
  · rw [h] at hm
    have : dE s i > i := by simpa using hm
    rw [if_neg (by omega)]
    simp [ok, h]
  · rw [if_pos (dE_no (by simpa using h))]
    simp [ok, h]
theorem v_j8 {i : Nat} (hi : i ≤ s.size) (b : Bool) (hb : b = true → i < s.size) : Ev (fun k => jsonparser_validJSONNumber.j8 k (numsOf s) (i : Int) b) (let j := if b = true then i + 1 else i; ok s (dg s j, dE s j)) := by
  cases b with
  | true =>
    refine Ev.step (fun k => ?_) (v_j9 hs (i := i + 1) (hb rfl))
    simp only [jsonparser_validJSONNumber.j8, if_true, wrap_up hi hs]
  | false =>
    refine Ev.step (fun k => ?_) (v_j9 hs hi)
    simp only [jsonparser_validJSONNumber.j8, Bool.false_eq_true, if_false]
theorem v_j7 {i : Nat} (hi : i ≤ s.size) (b : Bool) (hb : b = true → i < s.size) : Ev (fun k => jsonparser_validJSONNumber.j7 k (numsOf s) (i : Int) b)
    (if b = true then (let j := if (tk s (i + 1) 43 || tk s (i + 1) 45) = true then i + 2 else i + 1; ok s (dg s j, dE s j)) else decide (i = s.size)) := by
  cases b with
  | false =>
    refine Ev.step (f := fun _ => some (decide (i = s.size))) (fun k => ?_) (Ev.now _)
    simp only [jsonparser_validJSONNumber.j7, Bool.false_eq_true, if_false, len_eq]
    rw [Option.some.injEq, Bool.eq_iff_iff]
    simp; omega
  | true =>
    have hl := hb rfl
    by_cases h1 : i + 1 < s.size
    · refine Ev_same (Ev.step (fun k => ?_) (v_j8 hs (i := i + 1) hl (tk s (i + 1) 43 || tk s (i + 1) 45) (fun _ => h1))) (by simp)
      simp only [jsonparser_validJSONNumber.j7, if_true, len_eq, wrap_up hi hs, numsOf_rd]
      rw [if_pos (by omega), if_pos (by omega)]
      by_cases h2 : bt s ((i + 1 : Nat) : Int) = 43
      · rw [if_pos h2, tk_beq (c := 43) h1, beq_iff_eq.mpr h2, Bool.true_or]
      · rw [if_neg h2, tk_beq (c := 43) h1, beq_eq_false_iff_ne.mpr h2, Bool.false_or, tk_beq h1]
    · refine Ev_same (Ev.step (fun k => ?_) (v_j8 hs (i := i + 1) hl false (by simp))) (by simp [tk, h1])
      simp only [jsonparser_validJSONNumber.j7, if_true, len_eq, wrap_up hi hs]
      rw [if_neg (by omega)]
theorem v_j6 {i : Nat} (hi : i ≤ s.size) : Ev (fun k => jsonparser_validJSONNumber.j6 k (numsOf s) (i : Int)) (ok s (numX s i)) := by
  by_cases h1 : i < s.size
  · refine Ev_same (Ev.step (fun k => ?_) (v_j7 hs hi (tk s i 101 || tk s i 69) (fun _ => h1))) ?_
    · simp only [jsonparser_validJSONNumber.j6, len_eq, numsOf_rd]
      rw [if_pos (by omega), if_pos (by omega)]
      by_cases h2 : bt s (i : Int) = 101
      · rw [if_pos h2, tk_beq (c := 101) h1, beq_iff_eq.mpr h2, Bool.true_or]
      · rw [if_neg h2, tk_beq (c := 101) h1, beq_eq_false_iff_ne.mpr h2, Bool.false_or, tk_beq h1]
    · unfold numX
      by_cases h2 : (tk s i 101 || tk s i 69) = true
      · rw [if_pos h2, if_pos h2]
      · rw [if_neg h2, if_neg h2]
        simp [ok]
  · refine Ev_same (Ev.step (fun k => ?_) (v_j7 hs hi false (by simp))) ?_
    · simp only [jsonparser_validJSONNumber.j6, len_eq]
      rw [if_neg (by omega)]
    · simp [numX, tk, h1, ok]
theorem v_l1 (x4 : Nat) (d : Nat) : ∀ i, s.size - i = d → i ≤ s.size → Ev (fun k => jsonparser_validJSONNumber.l1 k (numsOf s) (i : Int) (x4 : Int)) (if dE s i = x4 then false else ok s (numX s (dE s i))) := by
  have fin : ∀ i, i ≤ s.size → Ev (fun k => if (i : Int) = (x4 : Int) then some false else jsonparser_validJSONNumber.j6 k (numsOf s) (i : Int)) (if i = x4 then false else ok s (numX s i)) := by
    intro i hi
    by_cases h : i = x4
    · refine Ev_same (Ev.congr (f := fun _ => some false) (fun k => ?_) (Ev.now _)) (by rw [if_pos h])
      rw [if_pos (by omega)]
    · refine Ev_same (Ev.congr (fun k => ?_) (v_j6 hs hi)) (by rw [if_neg h])
      rw [if_neg (by omega)]
  induction d with
  | zero =>
    intro i hd hi
    have hz : dg s i = false := by simp [dg]; omega
    rw [dE_no hz]
    refine Ev.step (fun k => ?_) (fin i hi)
    simp only [jsonparser_validJSONNumber.l1, len_eq]
    rw [if_neg (by omega)]
  | succ d ih =>
    intro i hd hi
    by_cases h : dg s i = true
    · have h' := (v_dg s i (by omega)).mp h
      rw [dE_dg h]
      refine Ev.step (fun k => ?_) (ih (i + 1) (by omega) (by omega))
      simp only [jsonparser_validJSONNumber.l1, len_eq, numsOf_rd]
      rw [if_pos (by omega), if_pos (by omega), if_pos (by omega), if_pos (by omega), wrap_up hi hs]
    · have h' : ¬ (48 ≤ bt s i ∧ bt s i ≤ 57) := fun e => h ((v_dg s i (by omega)).mpr e)
      rw [dE_no (by simpa using h)]
      refine Ev.step (fun k => ?_) (fin i hi)
      simp only [jsonparser_validJSONNumber.l1, len_eq, numsOf_rd]
      rw [if_pos (by omega), if_pos (by omega)]
      split
      · rw [if_neg (by omega)]
      · rfl
theorem v_j3 {i : Nat} (hi : i ≤ s.size) : Ev (fun k => jsonparser_validJSONNumber.j3 k (numsOf s) (i : Int)) (ok s (numF s i)) := by
  have key : Ev (fun k => jsonparser_validJSONNumber.j4 k (numsOf s) (i : Int) (tk s i 46)) (ok s (numF s i)) := by
    by_cases h1 : tk s i 46 = true
    · have hl := tk_lt h1
      have hm := dE_more (s := s) (i := i + 1) hl
      refine Ev_same (Ev.step (fun k => ?_) (v_l1 hs (i + 1) _ (i + 1) rfl hl)) ?_
      · simp only [jsonparser_validJSONNumber.j4, h1, if_true, wrap_up hi hs]
      · unfold numF
        rw [if_pos h1]
        by_cases h2 : dg s (i + 1) = true
        · rw [h2] at hm
          have : dE s (i + 1) > i + 1 := by simpa using hm
          rw [if_neg (by omega), if_pos h2]
        · rw [if_pos (dE_no (by simpa using h2)), if_neg h2]
          simp [ok]
    · refine Ev_same (Ev.step (fun k => ?_) (v_j6 hs hi)) (by simp [numF, h1])
      simp only [jsonparser_validJSONNumber.j4, h1, Bool.false_eq_true, if_false]
  refine Ev.step (fun k => ?_) key
  simp only [jsonparser_validJSONNumber.j3, len_eq, numsOf_rd]
  by_cases h1 : i < s.size
  · rw [if_pos (by omega), if_pos (by omega)]
    congr 1
    rw [Bool.eq_iff_iff]
    simp [tk, h1]
  · rw [if_neg (by omega)]
    simp [tk, h1]
theorem v_l0 (d : Nat) : ∀ i, s.size - i = d → i ≤ s.size → Ev (fun k => jsonparser_validJSONNumber.l0 k (numsOf s) (i : Int)) (ok s (numF s (dE s i))) := by
  induction d with
  | zero =>
    intro i hd hi
    have hz : dg s i = false := by simp [dg]; omega
    rw [dE_no hz]
    refine Ev.step (fun k => ?_) (v_j3 hs hi)
    simp only [jsonparser_validJSONNumber.l0, len_eq]
    rw [if_neg (by omega)]
  | succ d ih =>
    intro i hd hi
    by_cases h : dg s i = true
    · have h' := (v_dg s i (by omega)).mp h
      rw [dE_dg h]
      refine Ev.step (fun k => ?_) (ih (i + 1) (by omega) (by omega))
      simp only [jsonparser_validJSONNumber.l0, len_eq, numsOf_rd]
      rw [if_pos (by omega), if_pos (by omega), if_pos (by omega), if_pos (by omega), wrap_up hi hs]
    · have h' : ¬ (48 ≤ bt s i ∧ bt s i ≤ 57) := fun e => h ((v_dg s i (by omega)).mpr e)
      rw [dE_no (by simpa using h)]
      refine Ev.step (fun k => ?_) (v_j3 hs hi)
      simp only [jsonparser_validJSONNumber.l0, len_eq, numsOf_rd]
      rw [if_pos (by omega), if_pos (by omega)]
      split
      · rw [if_neg (by omega)]
      · rfl
theorem v_j0 {i : Nat} (hi : i < s.size) : Ev (fun k => jsonparser_validJSONNumber.j0 k (numsOf s) (i : Int)) (ok s (if tk s i 48 = true then numF s (i + 1) else if dg s i = true then numF s (dE s i) else (false, i))) := by
  by_cases h1 : bt s (i : Int) = 48
  · have ht : tk s i 48 = true := by simp [tk, hi, h1]
    by_cases h2 : dg s (i + 1) = true
    · have hl := dg_lt h2
      have h' := (v_dg s (i + 1) hl).mp h2
      refine Ev_same (Ev.step (f := fun _ => some false) (fun k => ?_) (Ev.now _)) ?_
      · simp only [jsonparser_validJSONNumber.j0, len_eq, numsOf_rd, wrap_up (Nat.le_of_lt hi) hs]
        rw [if_pos (by omega), if_pos (by omega), if_pos h1, if_pos (by omega), if_pos (by omega), if_pos (by omega), if_pos (by omega)]
      · have e1 : tk s (i + 1) 46 = false := decide_eq_false fun e => by omega
        have e2 : tk s (i + 1) 101 = false := decide_eq_false fun e => by omega
        have e3 : tk s (i + 1) 69 = false := decide_eq_false fun e => by omega
        simp [ht, numF, numX, e1, e2, e3, ok]
        omega
    · refine Ev_same (Ev.step (fun k => ?_) (v_j3 hs (i := i + 1) hi)) (by simp [ht])
      simp only [jsonparser_validJSONNumber.j0, len_eq, numsOf_rd, wrap_up (Nat.le_of_lt hi) hs]
      rw [if_pos (by omega), if_pos (by omega), if_pos h1]
      by_cases hl : i + 1 < s.size
      · have h' : ¬ (48 ≤ bt s ((i + 1 : Nat) : Int) ∧ bt s ((i + 1 : Nat) : Int) ≤ 57) := fun e => h2 ((v_dg s (i + 1) hl).mpr e)
        rw [if_pos (by omega), if_pos (by omega)]
        split
        · rw [if_neg (by omega)]
        · rfl
      · rw [if_neg (by omega)]
  · have ht : tk s i 48 = false := by simp [tk, h1]
    by_cases h2 : dg s i = true
    · have h' := (v_dg s i hi).mp h2
      refine Ev_same (Ev.step (f := fun k => jsonparser_validJSONNumber.j1 k (numsOf s) (i : Int) false) (fun k => ?_) (Ev.step (fun k => ?_) (v_l0 hs _ i rfl (Nat.le_of_lt hi)))) (by simp [ht, h2])
      · simp only [jsonparser_validJSONNumber.j0, len_eq, numsOf_rd]
        rw [if_pos (by omega), if_pos (by omega), if_neg h1, if_neg (by omega)]
        congr 1
        exact decide_eq_false (by omega)
      · simp only [jsonparser_validJSONNumber.j1, Bool.false_eq_true, if_false]
    · have h' : ¬ (48 ≤ bt s i ∧ bt s i ≤ 57) := fun e => h2 ((v_dg s i hi).mpr e)
      refine Ev_same (Ev.step (f := fun k => jsonparser_validJSONNumber.j1 k (numsOf s) (i : Int) true) (fun k => ?_) (Ev.step (f := fun _ => some false) (fun k => ?_) (Ev.now _))) (by simp [ht, h2, ok])
      · simp only [jsonparser_validJSONNumber.j0, len_eq, numsOf_rd]
        rw [if_pos (by omega), if_pos (by omega), if_neg h1]
        split
        · rfl
        · congr 1
          exact decide_eq_true (by omega)
      · simp only [jsonparser_validJSONNumber.j1, if_true]
theorem v_f (h0 : 0 < s.size) : Ev (fun k => jsonparser_validJSONNumber.f k (numsOf s)) (ok s (numE s 0)) := by
  have hz : bt s ((0 : Nat) : Int) = bt s 0 := rfl
  by_cases h1 : bt s 0 = 45
  · have ht : tk s 0 45 = true := decide_eq_true ⟨h0, hz.trans h1⟩
    by_cases h2 : s.size = 1
    · refine Ev_same (Ev.congr (f := fun _ => some false) (fun k => ?_) (Ev.now _)) ?_
      · unfold jsonparser_validJSONNumber.f
        rw [len_eq, if_pos (by omega), numsOf_rd, if_pos h1, if_pos (by omega)]
      · have e1 : tk s 1 48 = false := tk_out (by omega)
        have e2 : dg s 1 = false := dg_out (by omega)
        simp [numE, ht, e1, e2, ok]
    · refine Ev_same (Ev.congr (fun k => ?_) (v_j0 hs (i := 1) (by omega))) (by simp [numE, ht])
      unfold jsonparser_validJSONNumber.f
      rw [len_eq, if_pos (by omega), numsOf_rd, if_pos h1, if_neg (by omega)]
      rfl
  · have ht : tk s 0 45 = false := by simp [tk, h1]
    refine Ev_same (Ev.congr (fun k => ?_) (v_j0 hs (i := 0) h0)) (by simp [numE, ht])
    unfold jsonparser_validJSONNumber.f
    rw [len_eq, if_pos (by omega), numsOf_rd, if_neg h1]
    rfl
theorem isNumber_eq : Ev (fun k => spec_IsNumber.f k s) (ok s (numE s 0)) := by
  have h : Ev (fun k => (spec_reader_number.f k s ((0 : Nat) : Int)).bind fun b => if b.1 = true then some (b.2.2 == (s.size : Int)) else some false) (ok s (numE s 0)) := by
    refine Ev.bind (number_eq hs (Nat.zero_le _)) ?_
    refine Ev_same (Ev.congr (f := fun _ => some (ok s (numE s 0))) (fun k => ?_) (Ev.now _)) rfl
    simp only [ok]
    by_cases hb : (numE s 0).1 = true
    · rw [if_pos hb, hb, Option.some.injEq, Bool.eq_iff_iff]
      simp; omega
    · rw [if_neg hb]
      simp [hb]
  exact h
end

theorem FnJpNumber : laws_FnJpNumber.Pure := by
  intro s hs
  refine Ev.rounds (g := fun k => laws_FnJpNumber.f k s) ?_
  by_cases h1 : (s.size : Int) > 2147483647
  · refine Ev.congr (f := fun _ => some true) (fun k => ?_) (Ev.now _)
    unfold laws_FnJpNumber.f
    rw [if_pos h1]
  by_cases h2 : s.toList = ([] : List UInt8)
  · refine Ev.congr (f := fun k => laws_FnJpNumber.j0 k s true) (fun k => ?_) (Ev.step (f := fun _ => some true) (fun k => ?_) (Ev.now _))
    · unfold laws_FnJpNumber.f
      rw [if_neg h1, if_pos h2]
    · simp only [laws_FnJpNumber.j0, if_true]
  have h0 : 0 < s.size := by
    rcases Nat.eq_zero_or_pos s.size with h | h
    · refine absurd ?_ h2
      rw [ByteArray.toList_eq]
      exact List.eq_nil_of_length_eq_zero (by simpa using h)
    · exact h
  refine Ev.congr (f := fun k => laws_FnJpNumber.j0 k s (decide ((s.size : Int) > 65536))) (fun k => ?_) ?_
  · unfold laws_FnJpNumber.f
    rw [if_neg h1, if_neg h2]
  by_cases h3 : (s.size : Int) > 65536
  · refine Ev.step (f := fun _ => some true) (fun k => ?_) (Ev.now _)
    simp only [laws_FnJpNumber.j0]
    rw [if_pos (by simpa using h3)]
  have hv : Ev (fun k => impl_JpNumber.f k s) (ok s (numE s 0)) := by
    refine Ev.congr (f := fun k => (jsonparser_validJSONNumber.f k (numsOf s)).bind fun t => some t) (fun k => ?_) (Ev.bind (v_f hs h0) (Ev.now _))
    unfold impl_JpNumber.f jsonparser_DoorNumber.f
    rw [if_pos hs]
  refine Ev.step (f := fun k => (impl_JpNumber.f k s).bind fun t => ((spec_IsNumber.f k s).bind fun u => (some (t == u)))) (fun k => ?_) (Ev.bind hv (Ev.bind (isNumber_eq hs) (Ev_same (Ev.now _) (by simp))))
  simp only [laws_FnJpNumber.j0]
  rw [if_neg (by simpa using h3)]

end Go.Proofs.Ytegbajfmhkmolaa.Pure
