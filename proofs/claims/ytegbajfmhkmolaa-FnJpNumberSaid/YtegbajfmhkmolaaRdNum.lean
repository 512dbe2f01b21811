/- The reader of package spec, its plain steps: a byte taken, digits, a number, as functions of places in a text. -/
import Derived.Test.YtegbajfmhkmolaaQxf24
namespace Go.Proofs.Ytegbajfmhkmolaa.Q
open Go.RowKit Go.Proofs.YtegbajfmhkmolaaW.PrintWords Go.Proofs.YtegbajfmhkmolaaW.PrintLast

theorem wrap_up {i : Nat} {n : Nat} (h : i ≤ n) (hn : n ≤ 140737488351232) : wrap64 ((i : Int) + 1) = ((i + 1 : Nat) : Int) := by
  unfold wrap64
  omega
/-- A byte stands at a place. -/
def tk (s : ByteArray) (i : Nat) (c : Int) : Bool := decide (i < s.size ∧ bt s i = c)
/-- A digit stands at a place. -/
def dg (s : ByteArray) (i : Nat) : Bool := decide (i < s.size ∧ 48 ≤ bt s i ∧ bt s i ≤ 57)
/-- The place behind the digits that stand from a place on. -/
def dE (s : ByteArray) (i : Nat) : Nat := if i < s.size then (if dg s i = true then dE s (i + 1) else i) else i
termination_by s.size - i
theorem dE_dg {s : ByteArray} {i : Nat} (h : dg s i = true) : dE s i = dE s (i + 1) := by
  have h' := h
  simp only [dg, decide_eq_true_eq] at h'
  rw [dE, if_pos h'.1, if_pos h]
theorem dE_no {s : ByteArray} {i : Nat} (h : dg s i = false) : dE s i = i := by
  rw [dE]
  split
  · rw [if_neg (by simp [h])]
  · rfl
theorem dE_le (s : ByteArray) (d : Nat) : ∀ i, s.size - i = d → i ≤ s.size → i ≤ dE s i ∧ dE s i ≤ s.size := by
  induction d with
  | zero =>
    intro i hd hi
    rw [dE_no (by simp [dg]; omega)]
    omega
  | succ d ih =>
    intro i hd hi
    by_cases h : dg s i = true
    · rw [dE_dg h]
      have := ih (i + 1) (by omega) (by omega)
      omega
    · rw [dE_no (by simpa using h)]
      omega
theorem dE_bounds {s : ByteArray} {i : Nat} (hi : i ≤ s.size) : i ≤ dE s i ∧ dE s i ≤ s.size := dE_le s _ i rfl hi
theorem dE_more {s : ByteArray} {i : Nat} (_hi : i ≤ s.size) : decide (dE s i > i) = dg s i := by
  by_cases h : dg s i = true
  · have h' := h
    simp only [dg, decide_eq_true_eq] at h'
    rw [dE_dg h, h]
    have := dE_bounds (s := s) (i := i + 1) (by omega)
    simp only [decide_eq_true_eq]
    omega
  · rw [dE_no (by simpa using h)]
    simp at h
    simp [h]

theorem take_eq {s : ByteArray} {i : Nat} (hs : s.size ≤ 140737488351232) (hi : i ≤ s.size) (c : Int) :
    spec_reader_take.f s (i : Int) c = some (tk s i c, s, ((if tk s i c = true then i + 1 else i : Nat) : Int)) := by
  unfold spec_reader_take.f tk
  by_cases h1 : i < s.size
  · rw [if_pos (by omega), if_pos (by omega)]
    by_cases h2 : bt s i = c
    · rw [if_pos h2, wrap_up hi hs]
      simp [h1, h2]
    · rw [if_neg h2]
      simp [h1, h2]
  · rw [if_neg (by omega)]
    simp [h1]
theorem here_eq {s : ByteArray} {i : Nat} : spec_reader_here.f s (i : Int) = some (if i < s.size then bt s i else 0, s, (i : Int)) := by
  unfold spec_reader_here.f
  by_cases h1 : i < s.size
  · rw [if_pos (by omega), if_pos (by omega), if_pos h1]
  · rw [if_neg (by omega), if_neg h1]
theorem dg_here (s : ByteArray) (i : Nat) : dg s i = decide (48 ≤ (if i < s.size then bt s i else 0) ∧ (if i < s.size then bt s i else 0) ≤ 57) := by
  unfold dg
  by_cases h : i < s.size
  · simp [h]
  · simp [h]
theorem digits_l0 {s : ByteArray} (hs : s.size ≤ 140737488351232) (x3 : Nat) (d : Nat) : ∀ i, s.size - i = d → i ≤ s.size →
    Ev (fun k => spec_reader_digits.l0 k x3 (if i < s.size then bt s i else 0) s i) (decide (((dE s i : Nat) : Int) > x3), s, ((dE s i : Nat) : Int)) := by
  induction d with
  | zero =>
    intro i hd hi
    have hn : ¬ i < s.size := by omega
    have hz : dg s i = false := by simp [dg]; omega
    rw [dE_no hz]
    refine Ev.step (f := fun _ => some (decide (((i : Nat) : Int) > x3), s, ((i : Nat) : Int))) (fun k => ?_) (Ev.now _)
    simp only [spec_reader_digits.l0]
    rw [if_neg hn, if_neg (by omega)]
  | succ d ih =>
    intro i hd hi
    have hlt : i < s.size := by omega
    by_cases h : dg s i = true
    · have h' := h
      simp only [dg, decide_eq_true_eq] at h'
      rw [dE_dg h]
      refine Ev.step (f := fun k => spec_reader_digits.l0 k x3 (if i + 1 < s.size then bt s ((i + 1 : Nat) : Int) else 0) s ((i + 1 : Nat) : Int)) (fun k => ?_) (ih (i + 1) (by omega) (by omega))
      simp only [spec_reader_digits.l0]
      rw [if_pos hlt, if_pos h'.2.1, if_pos h'.2.2, wrap_up hi hs, here_eq]
      rfl
    · have hz : dg s i = false := by simpa using h
      have h' := hz
      simp only [dg, decide_eq_false_iff_not] at h'
      rw [dE_no hz]
      refine Ev.step (f := fun _ => some (decide (((i : Nat) : Int) > x3), s, ((i : Nat) : Int))) (fun k => ?_) (Ev.now _)
      simp only [spec_reader_digits.l0]
      rw [if_pos hlt]
      by_cases h48 : 48 ≤ bt s i
      · rw [if_pos h48, if_neg (by omega)]
      · rw [if_neg h48]
theorem digits_eq {s : ByteArray} (hs : s.size ≤ 140737488351232) {i : Nat} (hi : i ≤ s.size) :
    Ev (fun k => spec_reader_digits.f k s i) (dg s i, s, ((dE s i : Nat) : Int)) := by
  have h := digits_l0 hs i _ i rfl hi
  refine Ev.congr (f := fun k => spec_reader_digits.l0 k i (if i < s.size then bt s i else 0) s i) (fun k => ?_) ?_
  · unfold spec_reader_digits.f
    rw [here_eq]
    rfl
  · have e : decide (((dE s i : Nat) : Int) > (i : Int)) = dg s i := by
      rw [← dE_more hi, Bool.eq_iff_iff, decide_eq_true_eq, decide_eq_true_eq]
      omega
    rw [e] at h
    exact h

/-- From the power of ten on. -/
def numX (s : ByteArray) (i : Nat) : Bool × Nat :=
  if (tk s i 101 || tk s i 69) = true then (let j := if (tk s (i + 1) 43 || tk s (i + 1) 45) = true then i + 2 else i + 1; (dg s j, dE s j)) else (true, i)
/-- From the point on. -/
def numF (s : ByteArray) (i : Nat) : Bool × Nat :=
  if tk s i 46 = true then (if dg s (i + 1) = true then numX s (dE s (i + 1)) else (false, i + 1)) else numX s i
/-- A number from a place on: is there one, and where does it end. -/
def numE (s : ByteArray) (i : Nat) : Bool × Nat :=
  let j := if tk s i 45 = true then i + 1 else i
  if tk s j 48 = true then numF s (j + 1) else if dg s j = true then numF s (dE s j) else (false, j)

theorem tk_lt {s : ByteArray} {i : Nat} {c : Int} (h : tk s i c = true) : i < s.size := by
  simp only [tk, decide_eq_true_eq] at h
  exact h.1
theorem tk_beq {s : ByteArray} {i : Nat} {c : Int} (h : i < s.size) : tk s i c = (bt s (i : Int) == c) := by
  unfold tk
  rw [Bool.eq_iff_iff, decide_eq_true_eq, beq_iff_eq]
  exact ⟨fun x => x.2, fun x => ⟨h, x⟩⟩
theorem tk_out {s : ByteArray} {i : Nat} {c : Int} (h : ¬ i < s.size) : tk s i c = false := decide_eq_false fun x => h x.1
theorem dg_out {s : ByteArray} {i : Nat} (h : ¬ i < s.size) : dg s i = false := decide_eq_false fun x => h x.1
theorem dg_lt {s : ByteArray} {i : Nat} (h : dg s i = true) : i < s.size := by
  simp only [dg, decide_eq_true_eq] at h
  exact h.1
theorem take_yes {s : ByteArray} {i : Nat} {c : Int} (hs : s.size ≤ 140737488351232) (h : tk s i c = true) : spec_reader_take.f s (i : Int) c = some (true, s, ((i + 1 : Nat) : Int)) := by
  have := tk_lt h
  rw [take_eq hs (by omega), h]
  rfl
theorem take_no {s : ByteArray} {i : Nat} {c : Int} (hs : s.size ≤ 140737488351232) (hi : i ≤ s.size) (h : ¬ tk s i c = true) : spec_reader_take.f s (i : Int) c = some (false, s, (i : Int)) := by
  have h' : tk s i c = false := by simpa using h
  rw [take_eq hs hi, h']
  rfl
theorem Ev_same {α : Type} {g : Nat → Option α} {r r' : α} (h : Ev g r) (e : r = r') : Ev g r' := e ▸ h
theorem number_j2 {s : ByteArray} (hs : s.size ≤ 140737488351232) {i : Nat} (hi : i + 1 ≤ s.size) :
    Ev (fun k => spec_reader_number.j2 k true s ((i + 1 : Nat) : Int)) (let j := if (tk s (i + 1) 43 || tk s (i + 1) 45) = true then i + 2 else i + 1; (dg s j, s, ((dE s j : Nat) : Int))) := by
  have key : ∀ j, j ≤ s.size → Ev (fun k => (spec_reader_digits.f k s (j : Int)).bind fun b => some (b.1, b.2.1, b.2.2)) (dg s j, s, ((dE s j : Nat) : Int)) := fun j hj => Ev.bind (digits_eq hs hj) (Ev.now _)
  by_cases h1 : tk s (i + 1) 43 = true
  · have hl := tk_lt h1
    refine Ev_same (Ev.step (fun k => ?_) (key (i + 2) hl)) (by simp [h1])
    simp only [spec_reader_number.j2, take_yes hs h1, Option.bind_some, if_true]
  · by_cases h2 : tk s (i + 1) 45 = true
    · have hl := tk_lt h2
      refine Ev_same (Ev.step (fun k => ?_) (key (i + 2) hl)) (by simp [h2])
      simp only [spec_reader_number.j2, take_no hs hi h1, take_yes hs h2, Option.bind_some, if_true, Bool.false_eq_true, if_false]
    · refine Ev_same (Ev.step (fun k => ?_) (key (i + 1) hi)) (by simp [h1, h2])
      simp only [spec_reader_number.j2, take_no hs hi h1, take_no hs hi h2, Option.bind_some, if_true, Bool.false_eq_true, if_false]
theorem number_j1 {s : ByteArray} (hs : s.size ≤ 140737488351232) {i : Nat} (hi : i ≤ s.size) :
    Ev (fun k => spec_reader_number.j1 k false s (i : Int)) ((numX s i).1, s, (((numX s i).2 : Nat) : Int)) := by
  by_cases h1 : tk s i 101 = true
  · have hl := tk_lt h1
    refine Ev_same (Ev.step (fun k => ?_) (number_j2 hs hl)) (by simp [numX, h1])
    simp only [spec_reader_number.j1, take_yes hs h1, Option.bind_some, if_true, Bool.false_eq_true, if_false]
  · by_cases h2 : tk s i 69 = true
    · have hl := tk_lt h2
      refine Ev_same (Ev.step (fun k => ?_) (number_j2 hs hl)) (by simp [numX, h2])
      simp only [spec_reader_number.j1, take_no hs hi h1, take_yes hs h2, Option.bind_some, Bool.false_eq_true, if_false]
    · refine Ev_same (Ev.step (f := fun k => spec_reader_number.j2 k false s (i : Int)) (fun k => ?_) (Ev.step (f := fun _ => some (true, s, (i : Int))) (fun k => ?_) (Ev.now _))) (by simp [numX, h1, h2])
      · simp only [spec_reader_number.j1, take_no hs hi h1, take_no hs hi h2, Option.bind_some, Bool.false_eq_true, if_false]
      · simp only [spec_reader_number.j2, Bool.false_eq_true, if_false]
theorem number_j0 {s : ByteArray} (hs : s.size ≤ 140737488351232) {i : Nat} (hi : i ≤ s.size) :
    Ev (fun k => spec_reader_number.j0 k false s (i : Int)) ((numF s i).1, s, (((numF s i).2 : Nat) : Int)) := by
  by_cases h1 : tk s i 46 = true
  · have hl := tk_lt h1
    have hb := dE_bounds (s := s) hl
    have key : Ev (fun k => (spec_reader_digits.f k s ((i + 1 : Nat) : Int)).bind fun b => spec_reader_number.j1 k (!b.1) b.2.1 b.2.2) ((numF s i).1, s, (((numF s i).2 : Nat) : Int)) := by
      refine Ev.bind (digits_eq hs hl) ?_
      by_cases h2 : dg s (i + 1) = true
      · refine Ev_same (Ev.congr (fun k => ?_) (number_j1 hs hb.2)) (by simp [numF, h1, h2])
        simp only [h2, Bool.not_true]
      · have h2' : dg s (i + 1) = false := by simpa using h2
        refine Ev_same (Ev.step (f := fun _ => some (false, s, ((i + 1 : Nat) : Int))) (fun k => ?_) (Ev.now _)) (by simp [numF, h1, h2])
        simp only [spec_reader_number.j1, h2', Bool.not_false, if_true, dE_no h2']
    refine Ev.step (fun k => ?_) key
    simp only [spec_reader_number.j0, take_yes hs h1, Option.bind_some, if_true, Bool.false_eq_true, if_false]
  · refine Ev_same (Ev.step (fun k => ?_) (number_j1 hs hi)) (by simp [numF, h1])
    simp only [spec_reader_number.j0, take_no hs hi h1, Option.bind_some, Bool.false_eq_true, if_false]
theorem number_eq {s : ByteArray} (hs : s.size ≤ 140737488351232) {i : Nat} (hi : i ≤ s.size) :
    Ev (fun k => spec_reader_number.f k s (i : Int)) ((numE s i).1, s, (((numE s i).2 : Nat) : Int)) := by
  have key : ∀ j, j ≤ s.size → Ev (fun k => (spec_reader_take.f s (j : Int) 48).bind fun b => if b.1 = true then spec_reader_number.j0 k false b.2.1 b.2.2 else (spec_reader_digits.f k b.2.1 b.2.2).bind fun c => spec_reader_number.j0 k (!c.1) c.2.1 c.2.2)
      ((if tk s j 48 = true then numF s (j + 1) else if dg s j = true then numF s (dE s j) else (false, j)).1, s, (((if tk s j 48 = true then numF s (j + 1) else if dg s j = true then numF s (dE s j) else (false, j)).2 : Nat) : Int)) := by
    intro j hj
    by_cases h1 : tk s j 48 = true
    · refine Ev_same (Ev.congr (fun k => ?_) (number_j0 hs (tk_lt h1))) (by simp [h1])
      simp only [take_yes hs h1, Option.bind_some, if_true]
    · have hb := dE_bounds (s := s) hj
      refine Ev.congr (f := fun k => (spec_reader_digits.f k s (j : Int)).bind fun c => spec_reader_number.j0 k (!c.1) c.2.1 c.2.2) (fun k => ?_) (Ev.bind (digits_eq hs hj) ?_)
      · simp only [take_no hs hj h1, Option.bind_some, Bool.false_eq_true, if_false]
      · by_cases h2 : dg s j = true
        · refine Ev_same (Ev.congr (fun k => ?_) (number_j0 hs hb.2)) (by simp [h1, h2])
          simp only [h2, Bool.not_true]
        · have h2' : dg s j = false := by simpa using h2
          refine Ev_same (Ev.step (f := fun _ => some (false, s, (j : Int))) (fun k => ?_) (Ev.now _)) (by simp [h1, h2])
          simp only [spec_reader_number.j0, h2', Bool.not_false, if_true, dE_no h2']
  by_cases h0 : tk s i 45 = true
  · refine Ev_same (Ev.congr (fun k => ?_) (key (i + 1) (tk_lt h0))) (by simp [numE, h0])
    unfold spec_reader_number.f
    simp only [take_yes hs h0, Option.bind_some]
  · refine Ev_same (Ev.congr (fun k => ?_) (key i hi)) (by simp [numE, h0])
    unfold spec_reader_number.f
    simp only [take_no hs hi h0, Option.bind_some]

end Go.Proofs.Ytegbajfmhkmolaa.Q
