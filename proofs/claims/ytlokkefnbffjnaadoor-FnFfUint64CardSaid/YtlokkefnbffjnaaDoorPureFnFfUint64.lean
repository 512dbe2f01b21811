/- fastfloat.ParseUint64 reads what strconv.ParseUint reads, and so does the set's own reference. -/
import Derived.Test.YtlokkefnbffjnaaDoorUxf4
import Derived.Test.YtlokkefnbffjnaaDoorJTextU
import Derived.Lib.ParseIntB
namespace Go.Proofs.YtlokkefnbffjnaaDoor.Pure
open Go.RowKit Go.Proofs.YtlokkefnbffjnaaDoor.U Go.Proofs.YtlokkefnbffjnaaDoorW.PrintWords Go.Proofs.YtlokkefnbffjnaaDoorW.PrintLast
open J (From w64 Ev_same)

/-- The number of decimal digits, from a beginning of them on; none if it is too great or another byte stands there. -/
def uL : Int → List Int → Option Int
  | n, [] => some n
  | n, c :: r => if 48 ≤ c ∧ c ≤ 57 then (if n > (18446744073709551615 - (c - 48)) / 10 then none else uL (n * 10 + (c - 48)) r) else none
theorem uw {x : Int} (h : 0 ≤ x ∧ x < 18446744073709551616) : IntKind.u64.wrap x = x := by
  have e : IntKind.u64.wrap x = x % 18446744073709551616 := by simp [IntKind.wrap, IntKind.bits, IntKind.signed]
  rw [e]
  omega
theorem Ev_shift {α : Type} {g : Nat → Option α} {r : α} (h : Ev (fun k => g (k + 1)) r) : Ev g r := Ev.step (fun _ => rfl) h
/-- What strconv.ParseUint says is that number, or none. -/
theorem parse_uL : ∀ (l : List UInt8) (acc : Nat), (match Lib.parseUintM (2 ^ 64 - 1) acc l with | .ok u => some (u : Int) | _ => none) = uL acc (l.map fun b => (b.toNat : Int))
  | [], acc => rfl
  | c :: r, acc => by
    rw [Lib.parseUintM, List.map_cons, uL]
    by_cases h : 48 ≤ c.toNat ∧ c.toNat ≤ 57
    · rw [if_pos h, if_pos (show (48 : Int) ≤ (c.toNat : Int) ∧ (c.toNat : Int) ≤ 57 by omega)]
      by_cases h1 : 1844674407370955162 ≤ acc
      · rw [if_pos h1, if_pos (show (acc : Int) > (18446744073709551615 - ((c.toNat : Int) - 48)) / 10 by omega)]
      · rw [if_neg h1]
        by_cases h2 : 2 ^ 64 - 1 < acc * 10 + (c.toNat - 48)
        · rw [if_pos h2, if_pos (show (acc : Int) > (18446744073709551615 - ((c.toNat : Int) - 48)) / 10 by omega)]
        · rw [if_neg h2, if_neg (show ¬ (acc : Int) > (18446744073709551615 - ((c.toNat : Int) - 48)) / 10 by omega), parse_uL r]
          congr 1
          omega
    · rw [if_neg h, if_neg (show ¬ ((48 : Int) ≤ (c.toNat : Int) ∧ (c.toNat : Int) ≤ 57) by omega)]
variable {s : ByteArray} (hs : s.size ≤ 2147483647)
include hs
/-- The reference's own reading. -/
theorem spec_eq : ∀ (l : List Int) (i : Nat) (n : Int), From s i l → 0 ≤ n → n ≤ 18446744073709551615 →
    Ev (fun k => spec_Uint64.l0 k s n i) (match uL n l with | some m => (m, true) | none => (0, false)) := by
  intro l
  induction l with
  | nil =>
    intro i n h h0 h1
    refine Ev_shift ?_
    simp only [spec_Uint64.l0]
    refine Ev.congr (fun _ => if_neg (by have := h.nil; omega)) ?_
    exact Ev.now _
  | cons c r ih =>
    intro i n h h0 h1
    have hb := h.bt
    have hlt := h.lt
    have hc := h.head
    refine Ev_shift ?_
    simp only [spec_Uint64.l0, hb]
    refine Ev.congr (fun _ => if_pos (by omega)) (Ev.congr (fun _ => if_pos (by omega)) ?_)
    by_cases hd : 48 ≤ c ∧ c ≤ 57
    · refine Ev.congr (fun _ => if_neg (by omega)) ?_
      refine Ev_shift ?_
      rw [decide_eq_false (by omega)]
      simp only [spec_Uint64.j1, hb]
      refine Ev.congr (fun _ => if_neg (by decide)) (Ev.congr (fun _ => if_pos (by omega)) (Ev.congr (fun _ => if_pos (by omega)) ?_))
      rw [uL, if_pos hd, Int.emod_eq_of_lt (by omega) (by omega)]
      by_cases hn : n > (18446744073709551615 - (c - 48)) / 10
      · refine Ev.congr (fun _ => if_pos hn) ?_
        rw [if_pos hn]
        exact Ev.now _
      · refine Ev.congr (fun _ => if_neg hn) ?_
        rw [if_neg hn, w64 (by omega), uw (x := n * 10) (by omega), uw (by omega)]
        exact ih (i + 1) _ h.tail (by omega) (by omega)
    · rw [uL, if_neg hd]
      have e : (fun k => if c < 48 then spec_Uint64.j1 k s n i true else spec_Uint64.j1 k s n i (decide (c > 57))) = fun k => spec_Uint64.j1 k s n i true := by
        funext k
        split
        · rfl
        · rw [decide_eq_true (by omega)]
      rw [e]
      refine Ev_shift ?_
      simp only [spec_Uint64.j1]
      refine Ev.congr (fun _ => if_pos trivial) ?_
      exact Ev.now _
/-- The quick reading: at most eighteen digits, else strconv's. -/
theorem fast_eq : ∀ (l : List Int) (i : Nat) (d : Int), From s i l → i ≤ 18 → 0 ≤ d → d < (10 : Int) ^ i → uL 0 (bytesOf s) = uL d l → bytesOf s ≠ [] →
    ∃ v e, Ev (fun k => fastfloat_ParseUint64.l0 k s i d 0) (v, e) ∧ (match uL 0 (bytesOf s) with | some m => v = m ∧ e = none | none => ∃ q, e = some q) := by
  intro l
  induction l with
  | nil =>
    intro i d h hi h0 h1 hu hne
    have hn := h.nil
    have hz : 0 < s.size := by
      rw [← bytesOf_length]
      exact List.length_pos_iff.mpr hne
    refine ⟨d, none, ?_, ?_⟩
    · refine Ev_shift ?_
      simp only [fastfloat_ParseUint64.l0, uw (x := (s.size : Int)) (by omega)]
      refine Ev.congr (fun _ => if_neg (by omega)) ?_
      refine Ev_shift ?_
      simp only [fastfloat_ParseUint64.j2, uw (x := (s.size : Int)) (by omega)]
      refine Ev.congr (fun _ => if_neg (by omega)) (Ev.congr (fun _ => if_neg (by omega)) ?_)
      exact Ev.now _
    · rw [hu]
      exact ⟨rfl, rfl⟩
  | cons c r ih =>
    intro i d h hi h0 h1 hu hne
    have hb := h.bt
    have hlt := h.lt
    have hc := h.head
    have h18 : (10 : Int) ^ i ≤ 1000000000000000000 := by
      have : (10 : Nat) ^ i ≤ 10 ^ 18 := Nat.pow_le_pow_right (by decide) hi
      have h2 : ((10 ^ i : Nat) : Int) ≤ ((10 ^ 18 : Nat) : Int) := by exact_mod_cast this
      simpa using h2
    have enter : ∀ {b : Bool} {R}, b = decide (48 ≤ c ∧ c ≤ 57) → Ev (fun k => fastfloat_ParseUint64.j1 k s i d 0 b) R → Ev (fun k => fastfloat_ParseUint64.l0 k s i d 0) R := fun {b R} e hR => by
      refine Ev_shift ?_
      simp only [fastfloat_ParseUint64.l0, uw (x := (s.size : Int)) (by omega), hb]
      refine Ev.congr (fun _ => if_pos (by omega)) (Ev.congr (fun _ => if_pos (by omega)) (Ev.congr (fun _ => if_pos (by omega)) ?_))
      refine Ev.congr (g := _) (fun k => ?_) hR
      by_cases h48 : c ≥ 48
      · rw [if_pos h48, e]
        congr 1
        simp only [decide_eq_decide]
        omega
      · rw [if_neg h48, e, decide_eq_false (by omega)]
    by_cases hd : 48 ≤ c ∧ c ≤ 57
    · have step : ∀ {R}, Ev (fun k => if i + 1 > (18 : Int) then (strconv_ParseUint_55.f s 10 64).bind fun bt102 => (if bt102.2.isNone = true then (some (bt102.1, none)) else (some (0, some (bt102.2.getD 0)))) else fastfloat_ParseUint64.l0 k s ((i : Int) + 1) (d * 10 + (c - 48)) 0) R → Ev (fun k => fastfloat_ParseUint64.l0 k s i d 0) R := fun {R} hR => by
        refine enter (b := true) (by rw [decide_eq_true hd]) (Ev_shift ?_)
        simp only [fastfloat_ParseUint64.j1, hb]
        refine Ev.congr (fun _ => if_pos trivial) (Ev.congr (fun _ => if_pos (by omega)) (Ev.congr (fun _ => if_pos (by omega)) ?_))
        rw [uw (x := (i : Int) + 1) (by omega)]
        refine Ev.congr (fun k => ?_) hR
        by_cases h18' : (i : Int) + 1 > 18
        · rw [if_pos h18', if_pos h18']
        · have h17 : d < 100000000000000000 := by
            have : (10 : Nat) ^ i ≤ 10 ^ 17 := Nat.pow_le_pow_right (by decide) (by omega)
            have h2 : ((10 ^ i : Nat) : Int) ≤ ((10 ^ 17 : Nat) : Int) := by exact_mod_cast this
            have h3 : (10 : Int) ^ i ≤ 100000000000000000 := by simpa using h2
            omega
          rw [if_neg h18', if_neg h18', Int.emod_eq_of_lt (by omega) (by omega), uw (x := d * 10) (by omega), uw (by omega)]
      by_cases hi2 : (i : Int) + 1 > 18
      · have hp := parse_uL s.data.toList 0
        have hb0 : Lib.parseUintB 64 s.data.toList = Lib.parseUintM (2 ^ 64 - 1) 0 s.data.toList := by
          rw [Lib.parseUintB, if_neg]
          intro e
          apply hne
          rw [bytesOf, e]
          rfl
        have hps : strconv_ParseUint_55.f s 10 64 = some (match Lib.parseUintB 64 s.data.toList with | .ok u => ((u : Int), none) | .range => (18446744073709551615, some 0) | _ => (0, some 0)) := by
          rw [strconv_ParseUint_55.f, if_pos ⟨rfl, rfl, by omega⟩]
          cases Lib.parseUintB 64 s.data.toList <;> rfl
        rw [← hb0] at hp
        have hbs : uL ((0 : Nat) : Int) (s.data.toList.map fun b => (b.toNat : Int)) = uL 0 (bytesOf s) := rfl
        rw [hbs] at hp
        rw [← hp]
        cases e : Lib.parseUintB 64 s.data.toList with
        | ok u =>
          rw [e] at hps
          refine ⟨(u : Int), none, step (Ev.congr (fun _ => if_pos hi2) ?_), rfl, rfl⟩
          rw [hps]
          exact Ev.now _
        | range =>
          rw [e] at hps
          refine ⟨0, some 0, step (Ev.congr (fun _ => if_pos hi2) ?_), 0, rfl⟩
          rw [hps]
          exact Ev.now _
        | _ =>
          rw [e] at hps
          refine ⟨0, some 0, step (Ev.congr (fun _ => if_pos hi2) ?_), 0, rfl⟩
          rw [hps]
          exact Ev.now _
      · have hd10 : d * 10 + (c - 48) < (10 : Int) ^ (i + 1) := by
          rw [Int.pow_succ]
          omega
        have h17 : d < 100000000000000000 := by
          have : (10 : Nat) ^ i ≤ 10 ^ 17 := Nat.pow_le_pow_right (by decide) (by omega)
          have h2 : ((10 ^ i : Nat) : Int) ≤ ((10 ^ 17 : Nat) : Int) := by exact_mod_cast this
          have h3 : (10 : Int) ^ i ≤ 100000000000000000 := by simpa using h2
          omega
        rw [uL, if_pos hd, if_neg (show ¬ d > (18446744073709551615 - (c - 48)) / 10 by omega)] at hu
        obtain ⟨v, e, hE, hR⟩ := ih (i + 1) _ h.tail (by omega) (by omega) hd10 hu hne
        refine ⟨v, e, step (Ev.congr (fun _ => if_neg hi2) ?_), hR⟩
        exact hE
    · rw [uL, if_neg hd] at hu
      rw [hu]
      refine ⟨0, some 0, enter (b := false) (by rw [decide_eq_false hd]) (Ev_shift ?_), 0, rfl⟩
      simp only [fastfloat_ParseUint64.j1]
      refine Ev.congr (fun _ => if_neg (by decide)) (Ev_shift ?_)
      simp only [fastfloat_ParseUint64.j2, uw (x := (s.size : Int)) (by omega), errors_New.f, Option.bind_some]
      by_cases hz : (i : Int) ≤ 0
      · exact Ev.congr (fun _ => if_pos hz) (Ev.now _)
      · exact Ev.congr (fun _ => if_neg hz) (Ev.congr (fun _ => if_pos (by omega)) (Ev.now _))
/-- Both say the same. -/
theorem impl_eq : ∃ v b, Ev (fun k => impl_FfUint64.f k s) (v, b) ∧ (if bytesOf s = [] then b = false else match uL 0 (bytesOf s) with | some m => v = m ∧ b = true | none => b = false) := by
  by_cases hne : bytesOf s = []
  · have hz : s.size = 0 := by rw [← bytesOf_length, hne]; rfl
    refine ⟨0, false, ?_, by rw [if_pos hne]⟩
    unfold impl_FfUint64.f
    refine Ev.bind (a := (0, some 0)) ?_ ?_
    · unfold fastfloat_ParseUint64.f
      refine Ev.congr (fun _ => if_pos (by omega)) ?_
      exact Ev.now _
    · exact Ev.congr (fun _ => if_neg (by decide)) (Ev.now _)
  · have hz : 0 < s.size := by
      rw [← bytesOf_length]
      exact List.length_pos_iff.mpr hne
    obtain ⟨v, e, hE, hR⟩ := fast_eq hs (bytesOf s) 0 0 (From.start s) (by omega) (by omega) (by decide) rfl hne
    have hF : Ev (fun k => fastfloat_ParseUint64.f k s) (v, e) := by
      unfold fastfloat_ParseUint64.f
      exact Ev.congr (fun _ => if_neg (by omega)) hE
    simp only [if_neg hne]
    cases hu : uL 0 (bytesOf s) with
    | some m =>
      rw [hu] at hR
      obtain ⟨rfl, rfl⟩ := hR
      refine ⟨v, true, ?_, rfl, rfl⟩
      unfold impl_FfUint64.f
      exact Ev.bind hF (Ev.congr (fun _ => if_pos rfl) (Ev.now _))
    | none =>
      rw [hu] at hR
      obtain ⟨q, rfl⟩ := hR
      refine ⟨v, false, ?_, rfl⟩
      unfold impl_FfUint64.f
      exact Ev.bind hF (Ev.congr (fun _ => if_neg (by simp)) (Ev.now _))
theorem ref_eq : Ev (fun k => spec_Uint64.f k s) (if bytesOf s = [] then (0, false) else match uL 0 (bytesOf s) with | some m => (m, true) | none => (0, false)) := by
  unfold spec_Uint64.f
  have e : s.toList = [] ↔ bytesOf s = [] := by
    rw [ByteArray.toList_eq, bytesOf, List.map_eq_nil_iff]
  by_cases hne : bytesOf s = []
  · rw [if_pos hne]
    exact Ev.congr (fun _ => if_pos (e.mpr hne)) (Ev.now _)
  · rw [if_neg hne]
    exact Ev.congr (fun _ => if_neg (fun h => hne (e.mp h))) (spec_eq hs (bytesOf s) 0 0 (From.start s) (by omega) (by omega))
omit hs in
theorem FnFfUint64 : laws_FnFfUint64.Pure := by
  intro s _
  refine Ev.rounds ?_
  unfold laws_FnFfUint64.f
  by_cases h1 : (s.size : Int) > 2147483647
  · exact Ev.congr (fun _ => if_pos h1) (Ev.now _)
  refine Ev.congr (fun _ => if_neg h1) ?_
  by_cases h2 : (s.size : Int) > 1000
  · exact Ev.congr (fun _ => if_pos h2) (Ev.now _)
  refine Ev.congr (fun _ => if_neg h2) ?_
  obtain ⟨v, b, hI, hR⟩ := impl_eq (s := s) (by omega)
  obtain ⟨v0, b0, hI0, hR0⟩ := impl_eq (s := (⟨#[48]⟩ : ByteArray)) (by decide)
  have hb0 : b0 = true := by
    rw [if_neg (by decide)] at hR0
    have e : uL 0 (bytesOf (⟨#[48]⟩ : ByteArray)) = some 0 := by decide
    rw [e] at hR0
    exact hR0.2
  subst hb0
  refine Ev.bind hI (Ev.bind (ref_eq (s := s) (by omega)) (Ev.bind hI0 ?_))
  by_cases hne : bytesOf s = []
  · rw [if_pos hne] at hR
    subst hR
    simp only [if_pos hne]
    exact Ev.now _
  · rw [if_neg hne] at hR
    simp only [if_neg hne]
    cases hu : uL 0 (bytesOf s) with
    | some m =>
      rw [hu] at hR
      obtain ⟨rfl, rfl⟩ := hR
      refine Ev.congr (fun _ => ?_) (Ev.now _)
      simp
    | none =>
      rw [hu] at hR
      simp only at hR
      subst hR
      exact Ev.now _
end Go.Proofs.YtlokkefnbffjnaaDoor.Pure
