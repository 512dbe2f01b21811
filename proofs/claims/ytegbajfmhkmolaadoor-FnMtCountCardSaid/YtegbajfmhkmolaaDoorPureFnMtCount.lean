/- Patterns of question marks, and with a star behind them: they match by the number of characters. -/
import Derived.Test.YtegbajfmhkmolaaDoorNxf7
import Derived.Test.YtegbajfmhkmolaaDoorUtfChrN
import Derived.Test.YtegbajfmhkmolaaDoorJTextN
namespace Go.Proofs.YtegbajfmhkmolaaDoor.Pure
open Go.RowKit Go.Proofs.YtegbajfmhkmolaaDoor.N Go.Proofs.YtegbajfmhkmolaaDoorW.PrintWords Go.Proofs.YtegbajfmhkmolaaDoorW.PrintLast
open J (From w64 Ev_same)
open U (Chr nb nb_bt char_ans)

/-- So many characters from a place on, to the end. -/
inductive VN (s : ByteArray) : Nat → Nat → Prop
  | done : VN s s.size 0
  | step {i c n m : Nat} : i < s.size → Chr s i c n → VN s (i + n) m → VN s i (m + 1)
theorem VN.le {s : ByteArray} {i m : Nat} (h : VN s i m) : i ≤ s.size := by
  cases h with
  | done => exact Nat.le_refl _
  | step h _ _ => omega
theorem VN.zero {s : ByteArray} {i m : Nat} (h : VN s i m) : i = s.size ↔ m = 0 := by
  cases h with
  | done => simp
  | step h _ _ => constructor <;> intro e <;> omega
theorem w32 {x : Int} (h : -2147483648 ≤ x ∧ x ≤ 2147483647) : wrap32 x = x := by
  unfold wrap32
  omega
theorem chars_eq {s : ByteArray} (hs : s.size ≤ 2147483647) : ∀ (d i : Nat) (acc : List Int), s.size - i = d → i ≤ s.size → acc.length ≤ i →
    ∃ cs ok, Ev (fun k => spec_Characters.l0 k s acc i) (cs, ok) ∧ (ok = true → ∃ m, VN s i m ∧ cs.length = acc.length + m) := by
  intro d
  induction d using Nat.strongRecOn with
  | ind d ih =>
    intro i acc hd hi ha
    by_cases h : i < s.size
    · obtain ⟨r, h1, h2⟩ := char_ans (s := s) (by omega) h
      rcases h2 with rfl | ⟨c, n, rfl, hc⟩
      · refine ⟨[], false, Ev.step (f := fun k => (spec_Character.f k s i).bind fun b => if b.2.2 = true then (if acc.length < 17592186044416 then spec_Characters.l0 k s (acc ++ [b.1]) (wrap64 (i + b.2.1)) else none) else some ([], false)) (fun k => ?_) (Ev.bind h1 ?_), fun h => by simp at h⟩
        · simp only [spec_Characters.l0]
          rw [if_pos (by omega)]
        · exact Ev.congr (fun k => by rw [if_neg (by decide)]) (Ev.now _)
      · have hf := hc.fit
        have hp := hc.pos
        obtain ⟨cs, ok, h3, h4⟩ := ih (s.size - (i + n)) (by omega) (i + n) (acc ++ [(c : Int)]) rfl hf (by simp; omega)
        refine ⟨cs, ok, Ev.step (f := fun k => (spec_Character.f k s i).bind fun b => if b.2.2 = true then (if acc.length < 17592186044416 then spec_Characters.l0 k s (acc ++ [b.1]) (wrap64 (i + b.2.1)) else none) else some ([], false)) (fun k => ?_) (Ev.bind h1 ?_), fun h5 => ?_⟩
        · simp only [spec_Characters.l0]
          rw [if_pos (by omega)]
        · refine Ev.congr (fun k => ?_) h3
          rw [if_pos rfl, if_pos (by omega)]
          change spec_Characters.l0 k s _ (wrap64 ((i : Int) + (n : Int))) = _
          rw [w64 (by omega)]
          congr 1
        · obtain ⟨m, h6, h7⟩ := h4 h5
          exact ⟨m + 1, .step h hc h6, by rw [h7]; simp; omega⟩
    · refine ⟨acc, true, Ev.step (f := fun _ => some (acc, true)) (fun k => ?_) (Ev.now _), fun _ => ?_⟩
      · simp only [spec_Characters.l0]
        rw [if_neg (by omega)]
      · have e : i = s.size := by omega
        subst e
        exact ⟨0, .done, by simp⟩
theorem ext_ext (s : ByteArray) (i n : Nat) : (s.extract i s.size).extract n (s.extract i s.size).size = s.extract (i + n) s.size := by
  apply J.bytesOf_inj
  rw [J.bytesOf_extract, J.bytesOf_extract, J.bytesOf_extract]
  have h : (bytesOf s).take s.size = bytesOf s := List.take_of_length_le (by rw [bytesOf_length]; omega)
  rw [h, List.take_of_length_le (by rw [List.length_drop, bytesOf_length, ByteArray.size_extract]; omega), List.drop_drop]
theorem ext_from {s : ByteArray} (i : Nat) (hi : i ≤ s.size) : (s.extract i s.size).size = s.size - i := by rw [ByteArray.size_extract]; omega
/-- What the pattern still has: so many question marks, and a star behind them or none. -/
def Pt (x : ByteArray) (j : Nat) (star : Bool) : Prop := bytesOf x = List.replicate j 63 ++ (if star = true then [42] else [])
theorem Pt.size {x : ByteArray} {j : Nat} {st : Bool} (h : Pt x j st) : x.size = j + (if st = true then 1 else 0) := by
  have := congrArg List.length h
  rw [bytesOf_length] at this
  rw [this]
  cases st <;> simp
theorem Pt.head {x : ByteArray} {j : Nat} {st : Bool} (h : Pt x (j + 1) st) : bt x 0 = 63 := by
  have : From x 0 (63 :: (List.replicate j 63 ++ (if st = true then [42] else []))) := ⟨by omega, by rw [h]; rfl⟩
  exact this.bt
theorem Pt.star {x : ByteArray} (h : Pt x 0 true) : bt x 0 = 42 := by
  have : From x 0 (42 :: []) := ⟨by omega, by rw [h]; rfl⟩
  exact this.bt
theorem Pt.tail {x : ByteArray} {j : Nat} {st : Bool} (h : Pt x (j + 1) st) : Pt (x.extract 1 x.size) j st := by
  unfold Pt
  rw [J.bytesOf_extract, List.take_of_length_le (by rw [bytesOf_length]; omega), h]
  rfl
/-- The first character of what is left. -/
theorem read_char {s : ByteArray} (_hs : s.size ≤ 2147483647) {i c n : Nat} (hi : i < s.size) (hc : Chr s i c n) {x1 : ByteArray} {x2 x4 x14 x15 : Int} {x3 : Value} {x5 x13 : Bool} {r : Int}
    (h : Ev (fun k => match_match.j2 k (s.extract i s.size) x1 x2 x3 x4 x5 x13 x14 x15 (c : Int) (n : Int)) r) : Ev (fun k => match_match.j1 k (s.extract i s.size) x1 x2 x3 x4 x5 x13 x14 x15) r := by
  have hz := ext_from i (Nat.le_of_lt hi)
  have e0 : bt (s.extract i s.size) 0 = (nb s i : Int) := by
    have := U.nb_ext s i 0
    rw [← Int.natCast_zero, nb_bt, this]
    rfl
  have hl := U.nb_lt s i
  refine Ev.step (fun k => ?_) h
  simp only [match_match.j1]
  rw [if_pos (by omega), if_pos (by omega), e0, w32 (by omega)]
  by_cases hb : nb s i < 128
  · obtain ⟨rfl, rfl⟩ := hc.low hb
    rw [if_neg (by omega)]
    rfl
  · rw [if_pos (by omega)]
    unfold utf8_DecodeRuneInString.f
    rw [U.decodeGo_ext s i hi, hc.dec]
    rfl
theorem match_l0 {s : ByteArray} (hs : s.size ≤ 2147483647) (x3 : Value) (st : Bool) : ∀ (j i m : Nat) (x1 : ByteArray), VN s i m → Pt x1 j st → j ≤ 4096 →
    Ev (fun k => match_match.l0 k (s.extract i s.size) x1 0 x3 (-1) false) (if st = true then (if j ≤ m then 1 else 0) else (if j = m then 1 else 0)) := by
  intro j
  induction j with
  | zero =>
    intro i m x1 hv hp _
    have hz := hp.size
    have hi := hv.le
    have hx := ext_from (s := s) i hi
    cases st with
    | false =>
      simp only [Bool.false_eq_true, if_false] at hz ⊢
      refine Ev.step (f := fun _ => some (if (s.size - i : Nat) = 0 then 1 else 0)) (fun k => ?_) (Ev_same (Ev.now _) ?_)
      · simp only [match_match.l0]
        rw [if_neg (by omega), hx]
        by_cases e : s.size - i = 0
        · rw [if_pos (by omega), if_pos e]
        · rw [if_neg (by omega), if_neg e]
      · have := hv.zero
        by_cases e : m = 0
        · rw [if_pos (by omega), if_pos e.symm]
        · rw [if_neg (by omega), if_neg (fun h => e h.symm)]
    | true =>
      simp only [if_true] at hz ⊢
      have j2 : ∀ a b, Ev (fun k => match_match.j2 k (s.extract i s.size) x1 0 x3 (-1) false false 42 1 a b) 1 := fun a b => by
        refine Ev.step (f := fun k => match_match.l1 k (s.extract i s.size) x1 0 x3 (-1) false b) (fun k => ?_) (Ev.step (f := fun k => match_match.j4 k (s.extract i s.size) x1 0 x3 (-1) false b) (fun k => ?_) (Ev.step (f := fun _ => some 1) (fun k => ?_) (Ev.now _)))
        · simp only [match_match.j2]
          rw [if_neg (by decide), if_pos trivial]
        · simp only [match_match.l1]
          rw [if_neg (by omega)]
        · simp only [match_match.j4]
          rw [if_pos (by omega)]
      rw [if_pos (Nat.zero_le _)]
      refine Ev.step (f := fun k => match_match.j1 k (s.extract i s.size) x1 0 x3 (-1) false false 42 1) (fun k => ?_) ?_
      · simp only [match_match.l0]
        rw [if_pos (by omega), if_pos (by omega), hp.star, w32 (by omega), if_neg (by omega)]
      · cases hv with
        | done =>
          refine Ev.step (fun k => ?_) (j2 0 0)
          simp only [match_match.j1]
          rw [if_neg (by omega)]
        | step hlt hc hv => exact read_char hs hlt hc (j2 _ _)
  | succ j ih =>
    intro i m x1 hv hp hj
    have hz := hp.size
    have hi := hv.le
    have hx := ext_from (s := s) i hi
    refine Ev.step (f := fun k => match_match.j1 k (s.extract i s.size) x1 0 x3 (-1) false false 63 1) (fun k => ?_) ?_
    · simp only [match_match.l0]
      rw [if_pos (by omega), if_pos (by omega), hp.head, w32 (by omega), if_neg (by omega)]
    · cases hv with
      | done =>
        refine Ev.step (f := fun k => match_match.j2 k (s.extract s.size s.size) x1 0 x3 (-1) false false 63 1 0 0) (fun k => ?_) (Ev.step (f := fun _ => some 0) (fun k => ?_) (Ev_same (Ev.now _) ?_))
        · simp only [match_match.j1]
          rw [if_neg (by omega)]
        · simp only [match_match.j2]
          rw [if_pos trivial, if_pos trivial]
        · cases st <;> simp
      | @step _ c n m hlt hc hv =>
        have hf := hc.fit
        have hn := hc.pos
        refine read_char hs hlt hc (Ev.step (fun k => ?_) (Ev_same (ih (i + n) m (x1.extract 1 x1.size) hv hp.tail (by omega)) ?_))
        · simp only [match_match.j2]
          rw [if_pos trivial, if_neg (by omega), if_pos (by omega), if_pos (by omega), if_neg (by decide), if_pos (by decide), if_pos (by omega), Int.toNat_natCast, ext_ext]
          rfl
        · simp
theorem whole {s : ByteArray} : s.extract 0 s.size = s := by
  apply J.bytesOf_inj
  rw [J.bytesOf_extract, List.take_of_length_le (by rw [bytesOf_length]; omega)]
  rfl
theorem mt_eq {s : ByteArray} (hs : s.size ≤ 2147483647) {m j : Nat} {st : Bool} {x : ByteArray} (hv : VN s 0 m) (hp : Pt x j st) (hj : j ≤ 4096) : Ev (fun k => impl_MtMatch.f k s x) (if st = true then decide (j ≤ m) else decide (j = m)) := by
  unfold impl_MtMatch.f match_Match.f
  refine Ev.bind (Ev.bind ?_ (Ev.now _)) (Ev.now _)
  unfold match_match0.f
  by_cases h : x.toList = ([42] : List UInt8)
  · have hb : bytesOf x = [42] := by
      unfold bytesOf
      rw [← ByteArray.toList_eq, h]
      rfl
    have h1 := hp.symm.trans hb
    have e : j = 0 ∧ st = true := by
      cases st with
      | false =>
        cases j with
        | zero => simp at h1
        | succ j => simp [List.replicate_succ] at h1
      | true =>
        cases j with
        | zero => exact ⟨rfl, rfl⟩
        | succ j => simp [List.replicate_succ] at h1
    obtain ⟨rfl, rfl⟩ := e
    exact Ev.congr (fun k => if_pos h) (Ev_same (Ev.now _) (by simp))
  · refine Ev.congr (f := fun k => (match_match.f k s x 0 (.pointer none) (-1) false).bind fun t => some (t == 1)) (fun k => if_neg h) (Ev_same (Ev.bind (Ev.step (fun k => ?_) (by have := match_l0 hs (.pointer none) st j 0 m x hv hp hj; rwa [whole] at this)) (Ev.now _)) ?_)
    · simp only [match_match.f]
      rw [if_neg (by decide)]
    · cases st
      · by_cases e : j = m <;> simp [e]
      · by_cases e : j ≤ m <;> simp [e]
theorem set_marks (n : Nat) {s : ByteArray} {x5 : List Int} {R : Bool} (hn : n ≤ 4096)
    (h : Ev (fun k => (impl_MtMatch.f k s (strOfNums (List.replicate n 63))).bind fun t109 => (if (t109 == ((x5.length : Int) == (n : Int))) = true then (if (strOfNums (List.replicate n 63)).size + 1 ≤ 9223372036854775807 then ((impl_MtMatch.f k s ((strOfNums (List.replicate n 63)) ++ (⟨#[42]⟩ : ByteArray))).bind fun t110 => (some (t110 == (decide ((x5.length : Int) ≥ (n : Int)))))) else (none)) else (some false))) R) :
    ∀ d i, n - i = d → i ≤ n → Ev (fun k => laws_FnMtCount.l0 k s (n : Int) x5 (List.replicate i 63 ++ List.replicate (n - i) 0) (n : Int) (i : Int)) R := by
  intro d
  induction d with
  | zero =>
    intro i hd hi
    have e : i = n := by omega
    subst e
    refine Ev.step (fun k => ?_) h
    simp only [laws_FnMtCount.l0]
    rw [if_neg (by omega), Nat.sub_self, List.replicate_zero, List.append_nil]
  | succ d ih =>
    intro i hd hi
    refine Ev.step (fun k => ?_) (ih (i + 1) (by omega) (by omega))
    simp only [laws_FnMtCount.l0]
    rw [if_pos (by omega), if_pos (by omega), if_pos (by simp; omega), Int.toNat_natCast, w64 (by omega)]
    congr 1
    rw [List.set_append_right (h := by simp), List.length_replicate, Nat.sub_self]
    obtain ⟨q, hq⟩ : ∃ q, n - i = q + 1 := ⟨n - i - 1, by omega⟩
    rw [hq, show n - (i + 1) = q by omega, List.replicate_succ, List.set_cons_zero, List.replicate_succ', List.append_assoc]
    rfl
theorem FnMtCount : laws_FnMtCount.Pure := by
  intro s x1 hs hx
  refine Ev.rounds ?_
  by_cases h1 : s.size > 2147483647
  · exact Ev.congr (fun k => by unfold laws_FnMtCount.f; rw [if_pos (by omega)]) (Ev.now _)
  obtain ⟨cs, ok, c1, c2⟩ := chars_eq (s := s) (by omega) s.size 0 [] (by omega) (by omega) (by simp)
  have j0t : Ev (fun k => laws_FnMtCount.j0 k s x1 cs true) true := Ev.step (f := fun _ => some true) (fun k => by simp only [laws_FnMtCount.j0]; rw [if_pos trivial]) (Ev.now _)
  refine Ev.congr (f := fun k => (spec_Characters.f k s).bind fun bt101 => (if x1 < 0 then (laws_FnMtCount.j0 k s x1 bt101.1 true) else (if x1 > 4096 then (laws_FnMtCount.j0 k s x1 bt101.1 true) else (laws_FnMtCount.j0 k s x1 bt101.1 (!bt101.2))))) (fun k => by unfold laws_FnMtCount.f; rw [if_neg (by omega)]) (Ev.bind c1 ?_)
  by_cases h2 : x1 < 0
  · exact Ev.congr (fun k => if_pos h2) j0t
  by_cases h3 : x1 > 4096
  · exact Ev.congr (fun k => by rw [if_neg h2, if_pos h3]) j0t
  refine Ev.congr (f := fun k => laws_FnMtCount.j0 k s x1 cs (!ok)) (fun k => by rw [if_neg h2, if_neg h3]) ?_
  cases ok with
  | false => exact j0t
  | true =>
    obtain ⟨m, hv, hm⟩ := c2 rfl
    obtain ⟨n, rfl⟩ : ∃ n : Nat, x1 = n := ⟨x1.toNat, by omega⟩
    simp only [List.length_nil, Nat.zero_add] at hm
    have p1 : Pt (strOfNums (List.replicate n 63)) n false := by
      unfold Pt
      rw [J.bytesOf_strOfNums _ (by intro a ha; rw [List.eq_of_mem_replicate ha]; omega)]
      simp
    have p2 : Pt (strOfNums (List.replicate n 63) ++ (⟨#[42]⟩ : ByteArray)) n true := by
      have e : strOfNums (List.replicate n 63) ++ (⟨#[42]⟩ : ByteArray) = strOfNums (List.replicate n 63 ++ [42]) := by
        apply J.bytesOf_inj
        rw [J.bytesOf_strOfNums _ (by intro a ha; simp at ha; omega)]
        have := J.bytesOf_strOfNums (List.replicate n 63) (by intro a ha; rw [List.eq_of_mem_replicate ha]; omega)
        unfold bytesOf at this ⊢
        rw [ByteArray.data_append, Array.toList_append, List.map_append, this]
        rfl
      rw [e]
      unfold Pt
      rw [J.bytesOf_strOfNums _ (by intro a ha; simp at ha; omega)]
      simp
    have hz : (strOfNums (List.replicate n 63)).size = n := by rw [strOfNums_size, List.length_replicate]
    refine Ev.step (f := fun k => laws_FnMtCount.l0 k s (n : Int) cs (List.replicate 0 63 ++ List.replicate (n - 0) 0) (n : Int) ((0 : Nat) : Int)) (fun k => ?_) (set_marks n (by omega) ?_ n 0 (by omega) (by omega))
    · simp only [laws_FnMtCount.j0]
      rw [if_neg (by decide), if_pos (by omega), Int.toNat_natCast, if_pos (by omega)]
      simp
    · refine Ev.bind (mt_eq (by omega) hv p1 (by omega)) ?_
      simp only [Bool.false_eq_true, if_false]
      refine Ev.congr (f := fun k => (impl_MtMatch.f k s (strOfNums (List.replicate n 63) ++ (⟨#[42]⟩ : ByteArray))).bind fun t110 => (some (t110 == (decide ((cs.length : Int) ≥ (n : Int)))))) (fun k => ?_) (Ev.bind (mt_eq (by omega) hv p2 (by omega)) (Ev_same (Ev.now _) ?_))
      · rw [if_pos, if_pos (by omega)]
        rw [beq_iff_eq, Bool.eq_iff_iff]
        simp
        omega
      · simp only [if_true]
        rw [beq_iff_eq, Bool.eq_iff_iff]
        simp
        omega
end Go.Proofs.YtegbajfmhkmolaaDoor.Pure
