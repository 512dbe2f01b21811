/- The words, walks and laws that the proof rests on, laid together (part 4). -/
import Derived.Test.YtafbdpdbagkbgaaDoorKFnJqParsePath3
section
namespace Go.Proofs.YtafbdpdbagkbgaaDoor.J
open Go.RowKit Go.Proofs.YtafbdpdbagkbgaaDoor.Q Go.Proofs.YtafbdpdbagkbgaaDoorW.PrintWords Go.Proofs.YtafbdpdbagkbgaaDoorW.PrintLast

section
variable {s : ByteArray} (hs : s.size ≤ 140737488351232)
include hs
theorem quoted_l0 : ∀ (n i : Nat) (l : List Int), l.length ≤ n → From s i l →
 (∀ r, strL l = some r → Ev (fun k => spec_reader_quoted.l0 k s i) (true, s, ((s.size - r.length : Nat) : Int))) ∧
 (strL l = none → ∃ p, Ev (fun k => spec_reader_quoted.l0 k s i) (false, s, p))
 | n, i, [], _, h => by
  have := h.nil
  refine ⟨fun r hr => (by rw [strL_nil] at hr; cases hr), fun _ => ⟨(i : Int), Ev.step (f := fun _ => some (false, s, (i : Int))) (fun k => ?_) (Ev.now _)⟩⟩
  simp only [spec_reader_quoted.l0]
  rw [if_neg (by omega)]
 | 0, i, c :: l, hn, h => by simp at hn
 | n + 1, i, c :: l, hn, h => by
  simp only [List.length_cons] at hn
  have hl := h.len
  simp only [List.length_cons] at hl
  have e2 := up1 (Nat.le_of_lt h.lt) hs
  have st : ∀ k, spec_reader_quoted.l0 (k + 1) s i = (if c = 34 then (some (true, s, ((i + 1 : Nat) : Int))) else (if c < 32 then (some (false, s, ((i + 1 : Nat) : Int))) else (if c = 92 then ((spec_reader_escape.f k s ((i + 1 : Nat) : Int)).bind fun bt101 => (if bt101.1 = true then (spec_reader_quoted.l0 k bt101.2.1 bt101.2.2) else (some (false, bt101.2.1, bt101.2.2)))) else (spec_reader_quoted.l0 k s ((i + 1 : Nat) : Int))))) := fun k => by
   simp only [spec_reader_quoted.l0]
   rw [if_pos (by have := h.lt; omega), if_pos (by omega), h.bt, e2]
  by_cases h1 : c = 34
  ·subst h1
   refine ⟨fun r hr => ?_, fun hr => (by rw [strL_end] at hr; cases hr)⟩
   rw [strL_end] at hr
   cases hr
   refine Ev.step (fun k => (st k).trans (if_pos rfl)) (Ev_same (Ev.now _) ?_)
   rw [show i + 1 = s.size - l.length by omega]
  by_cases h2 : c < 32
  ·refine ⟨fun r hr => (by rw [strL_low _ h2] at hr; cases hr), fun _ => ⟨_, Ev.step (fun k => (st k).trans ((if_neg h1).trans (if_pos h2))) (Ev.now _)⟩⟩
  by_cases h3 : c = 92
  rotate_left
  ·rw [strL_raw _ ⟨h1, h2, h3⟩]
   have ih := quoted_l0 n (i + 1) l (by omega) h.tail
   have go : ∀ k, spec_reader_quoted.l0 (k + 1) s i = spec_reader_quoted.l0 k s ((i + 1 : Nat) : Int) := fun k => (st k).trans ((if_neg h1).trans ((if_neg h2).trans (if_neg h3)))
   refine ⟨fun r hr => Ev.step go (ih.1 r hr), fun hr => ?_⟩
   obtain ⟨p, hq⟩ := ih.2 hr
   exact ⟨p, Ev.step go hq⟩
  subst h3
  have hh := escape_eq hs h.tail
  rw [strL_esc]
  have go : ∀ {a q R}, Ev (fun k => spec_reader_escape.f k s ((i + 1 : Nat) : Int)) (a, s, q) → Ev (fun k => if a = true then (spec_reader_quoted.l0 k s q) else (some (false, s, q))) R → Ev (fun k => spec_reader_quoted.l0 k s i) R := fun {a q R} hx hy =>
   Ev.step (fun k => (st k).trans ((if_neg h1).trans ((if_neg h2).trans (if_pos rfl)))) (Ev.bind hx hy)
  cases he : escL l with
  | none =>
   refine ⟨fun r hr => (by cases hr), fun _ => ?_⟩
   obtain ⟨p, hp⟩ := hh.2 he
   exact ⟨p, go hp (Ev.congr (fun k => if_neg zq23) (Ev.now _))⟩
  | some r' =>
   have hlen := escL_len he
   have hp := hh.1 r' he
   have hF : From s (s.size - r'.length) r' := by
    rcases escL_ex he with ⟨b, _, rfl⟩ | ⟨a, b, c, d, v, _, rfl⟩
    ·have := h.tail.tail
     have hz := this.len
     rwa [show i + 1 + 1 = s.size - r'.length by omega] at this
    ·have := h.tail.tail.tail.tail.tail.tail
     have hz := this.len
     rwa [show i + 1 + 1 + 1 + 1 + 1 + 1 = s.size - r'.length by omega] at this
   have ih := quoted_l0 n (s.size - r'.length) r' (by omega) hF
   refine ⟨fun r hr => go hp (Ev.congr (fun k => if_pos rfl) (ih.1 r hr)), fun hr => ?_⟩
   obtain ⟨p, hq⟩ := ih.2 hr
   exact ⟨p, go hp (Ev.congr (fun k => if_pos rfl) hq)⟩
theorem quoted_eq {i : Nat} {c : Int} {l : List Int} (h : From s i (c :: l)) :
 (∀ r, strL l = some r → Ev (fun k => spec_reader_quoted.f k s i) (true, s, ((s.size - r.length : Nat) : Int))) ∧
 (strL l = none → ∃ p, Ev (fun k => spec_reader_quoted.f k s i) (false, s, p)) := by
 have e2 := up1 (Nat.le_of_lt h.lt) hs
 have := quoted_l0 hs l.length (i + 1) l (Nat.le_refl _) h.tail
 unfold spec_reader_quoted.f
 rw [e2]
 exact this
end

end Go.Proofs.YtafbdpdbagkbgaaDoor.J
end
section
namespace Go.Proofs.YtafbdpdbagkbgaaDoor.J
open Go.RowKit Go.Proofs.YtafbdpdbagkbgaaDoorW.PrintWords Go.Proofs.YtafbdpdbagkbgaaDoorW.PrintLast
set_option linter.unusedVariables false
set_option linter.unusedSimpArgs false
def plL : List Int → Option (List Int × List Int)
  | [] => some ([], [])
  | c :: t => if c = 46 ∨ c = 91 then some ([], c :: t) else if c = 93 ∨ c = 34 then none else (plL t).map (fun x => (c :: x.1, x.2))
theorem plL_ex : ∀ (l x r : List Int), plL l = some (x, r) → l = x ++ r ∧ (r = [] ∨ ∃ c t, r = c :: t ∧ (c = 46 ∨ c = 91))
 | [], x, r, h => by
  simp only [plL, Option.some.injEq, Prod.mk.injEq] at h
  obtain ⟨rfl, rfl⟩ := h
  exact ⟨rfl, .inl rfl⟩
 | c :: t, x, r, h => by
  rw [plL] at h
  split at h
  ·rename_i hc
   cases h
   exact ⟨rfl, .inr ⟨c, t, rfl, hc⟩⟩
  split at h
  ·cases h
  obtain ⟨⟨x', r'⟩, h4, h5⟩ := Option.map_eq_some_iff.mp h
  cases h5
  obtain ⟨e, hr⟩ := plL_ex t x' r' h4
  exact ⟨by rw [e]; rfl, hr⟩
def dgt (c : Int) : Bool := decide (48 ≤ c ∧ c ≤ 57)
def dgL : List Int → List Int
  | [] => []
  | c :: t => if dgt c = true then c :: dgL t else []
def dgR : List Int → List Int
  | [] => []
  | c :: t => if dgt c = true then dgR t else c :: t
theorem dg_app : ∀ l : List Int, l = dgL l ++ dgR l
 | [] => rfl
 | c :: t => by
  rw [dgL, dgR]
  split
  ·rw [List.cons_append, ← dg_app t]
  ·rfl
theorem dgL_all : ∀ l : List Int, ∀ x ∈ dgL l, dgt x = true
 | [], x, hx => by simp [dgL] at hx
 | c :: t, x, hx => by
  rw [dgL] at hx
  split at hx
  ·rename_i hc
   rcases List.mem_cons.mp hx with rfl | hx
   ·exact hc
   ·exact dgL_all t x hx
  ·simp at hx
theorem dgR_head : ∀ (l : List Int) (c : Int) (t : List Int), dgR l = c :: t → dgt c = false
 | [], c, t, h => by simp [dgR] at h
 | e :: l, c, t, h => by
  rw [dgR] at h
  split at h
  ·exact dgR_head l c t h
  ·rename_i he
   cases h
   simpa using he
def brL (l : List Int) : Option (List Int × List Int) :=
  if dgL l = [] then (if (dgR l).take 2 = [42, 93] then some ([42], (dgR l).drop 2) else none) else (if (dgR l).take 1 = [93] then some (dgL l, (dgR l).drop 1) else none)
def enL : List Int → Option (List Int × List Int)
  | [] => none
  | c :: t => if c = 93 then some ([], t) else if c = 91 ∨ c = 34 then none else (enL t).map (fun x => (c :: x.1, x.2))
theorem enL_dg : ∀ d r : List Int, (∀ x ∈ d, dgt x = true) → enL (d ++ r) = (enL r).map (fun x => (d ++ x.1, x.2))
 | [], r, _ => by simp
 | c :: d, r, h => by
  have hc := h c (by simp)
  simp only [dgt, decide_eq_true_eq] at hc
  rw [List.cons_append, enL, if_neg (by omega), if_neg (by omega), enL_dg d r (fun x hx => h x (by simp [hx])), Option.map_map]
  rfl
theorem enL_ex : ∀ (l x r : List Int), enL l = some (x, r) → l = x ++ 93 :: r
 | [], x, r, h => by simp [enL] at h
 | c :: t, x, r, h => by
  rw [enL] at h
  split at h
  ·rename_i hc
   subst hc
   cases h
   rfl
  split at h
  ·cases h
  obtain ⟨⟨x', r'⟩, h4, h5⟩ := Option.map_eq_some_iff.mp h
  cases h5
  rw [enL_ex t x' r' h4]
  rfl
def okB_ : List Int → Bool
  | [] => false
  | c :: t => if c = 42 then t.isEmpty else (c :: t).all dgt
theorem okB_cons (c : Int) (t : List Int) : okB_ (c :: t) = if c = 42 then t.isEmpty else (c :: t).all dgt := rfl
theorem okB_no {d x : List Int} {c : Int} (hd : ∀ y ∈ d, dgt y = true) (hc : dgt c = false) (h : d = [] → c ≠ 42) : okB_ (d ++ c :: x) = false := by
 cases d with
 | nil =>
  rw [List.nil_append, okB_cons, if_neg (h rfl)]
  simp [hc]
 | cons e d =>
  have he := hd e (by simp)
  simp only [dgt, decide_eq_true_eq] at he
  rw [List.cons_append, okB_cons, if_neg (by omega)]
  simp [hc]
theorem brL_en (l : List Int) : brL l = (enL l).bind fun x => if okB_ x.1 = true then some x else none := by
 have h1 := dg_app l
 have h2 := dgL_all l
 have h3 := dgR_head l
 unfold brL
 generalize hd : dgL l = d at h1 h2 ⊢
 generalize hr : dgR l = r at h1 h3 ⊢
 rw [h1, enL_dg d r h2]
 match r, h3 with
 | [], _ =>
  cases d <;> simp [enL]
 | c :: t, h3 =>
  have hc := h3 c t rfl
  have hc' := hc
  simp only [dgt, decide_eq_false_iff_not] at hc'
  by_cases h93 : c = 93
  ·subst h93
   rw [enL, if_pos rfl]
   cases d with
   | nil => simp [okB_]
   | cons e d =>
    have he := h2 e (by simp)
    simp only [dgt, decide_eq_true_eq] at he
    have : okB_ (e :: d) = true := by
     rw [okB_cons, if_neg (by omega)]
     exact List.all_eq_true.mpr h2
    simp [this]
  rw [enL, if_neg h93]
  by_cases h42 : d = [] ∧ c = 42
  ·obtain ⟨rfl, rfl⟩ := h42
   rw [if_pos rfl, if_neg (show ¬ ((42 : Int) = 91 ∨ (42 : Int) = 34) by decide)]
   match t with
   | [] => simp [enL]
   | e :: t =>
    by_cases he : e = 93
    ·subst he
     simp [enL, okB_]
    rw [enL, if_neg he, if_neg (by simp [he])]
    by_cases hq : e = 91 ∨ e = 34
    ·rw [if_pos hq]
     rfl
    rw [if_neg hq]
    cases enL t with
    | none => rfl
    | some x => simp [okB_]
  have hno : ∀ x : List Int, okB_ (d ++ c :: x) = false := fun x => okB_no h2 hc (fun h h' => h42 ⟨h, h'⟩)
  have hl : (if d = [] then (if (c :: t).take 2 = [42, 93] then some ([42], (c :: t).drop 2) else none) else (if (c :: t).take 1 = [93] then some (d, (c :: t).drop 1) else none)) = (none : Option (List Int × List Int)) := by
   split
   ·rename_i h
    rw [if_neg]
    intro h'
    simp only [List.take_succ_cons, List.cons.injEq] at h'
    exact h42 ⟨h, h'.1⟩
   ·rw [if_neg (by simp [h93])]
  rw [hl]
  by_cases hq : c = 91 ∨ c = 34
  ·rw [if_pos hq]
   rfl
  rw [if_neg hq]
  cases enL t with
  | none => rfl
  | some x => simp [hno]
def paL : List Int → Option (List Int × List Int)
  | [] => none
  | c :: t => if c = 34 then (strL t).map (fun r => (unqL (t.take (t.length - r.length - 1)), r)) else if c = 91 then (brL t).map (fun x => (91 :: x.1 ++ [93], x.2)) else (plL (c :: t)).bind (fun x => if x.1 = [] then none else some x)
def ptL : Nat → List Int → Option (List (List Int))
  | 0, _ => none
  | n + 1, l => (paL l).bind fun x => (if x.2 = [] then some [] else if x.2.headD 0 = 46 then ptL n x.2.tail else if x.2.headD 0 = 91 then ptL n x.2 else none).map (x.1 :: ·)
end Go.Proofs.YtafbdpdbagkbgaaDoor.J
end
section
namespace Go.Proofs.YtafbdpdbagkbgaaDoor.J
open Go.RowKit Go.Proofs.YtafbdpdbagkbgaaDoor.Q Go.Proofs.YtafbdpdbagkbgaaDoorW.PrintWords Go.Proofs.YtafbdpdbagkbgaaDoorW.PrintLast
set_option linter.unusedVariables false
set_option linter.unusedSimpArgs false

theorem toL_nil (a : ByteArray) : a.toList = [] ↔ bytesOf a = [] := by
 rw [ByteArray.toList_eq]
 unfold bytesOf
 simp
theorem ext_str {a : ByteArray} {i : Nat} {x r : List Int} (h : From a i (x ++ r)) : a.extract i (i + x.length) = strOfNums x := by
 rw [← strOfNums_bytesOf (a.extract i (i + x.length)), h.extract]
theorem ext_end {a : ByteArray} {i : Nat} {r : List Int} (h : From a i r) : bytesOf (a.extract i a.size) = r := by
 rw [bytesOf_extract, List.take_of_length_le (by rw [bytesOf_length]; omega)]
 exact h.2
section
variable {a : ByteArray} (hs : a.size ≤ 2147483647)
include hs
theorem w1 {i : Nat} (h : i ≤ a.size) : wrap64 ((i : Int) + 1) = ((i + 1 : Nat) : Int) := by rw [w64 (by omega)]; omega
theorem pp_plain : ∀ (n i : Nat) (l : List Int), l.length ≤ n → From a i l →
 (∀ x r, plL l = some (x, r) → Ev (fun k => spec_pathPartB.l1 k a (i : Int)) (a.extract 0 (i + x.length), a.extract (i + x.length) a.size, decide (((i + x.length : Nat) : Int) > 0))) ∧
 (plL l = none → Ev (fun k => spec_pathPartB.l1 k a (i : Int)) (⟨#[]⟩, ⟨#[]⟩, false))
 | n, i, [], _, h => by
  have hn := h.nil
  refine ⟨fun x r hx => ?_, fun hx => by cases hx⟩
  cases hx
  refine Ev.step (f := fun k => spec_pathPartB.j4 k a (i : Int) false) (fun k => by rw [spec_pathPartB.l1, if_neg (by omega)]) ?_
  refine Ev.step (f := fun _ => some (a.extract 0 i, a.extract i a.size, decide ((i : Int) > 0))) (fun k => ?_) (Ev.now _)
  rw [spec_pathPartB.j4, if_neg zq23, if_pos (by omega), if_pos (by omega), Int.toNat_natCast]
 | 0, i, c :: t, hn, h => by simp at hn
 | n + 1, i, c :: t, hn, h => by
  simp only [List.length_cons] at hn
  have hlt := h.lt
  have ih := pp_plain n (i + 1) t (by omega) h.tail
  rw [plL]
  by_cases h1 : c = 46 ∨ c = 91
  ·rw [if_pos h1]
   refine ⟨fun x r hx => ?_, fun hx => by cases hx⟩
   cases hx
   refine Ev.step (f := fun k => spec_pathPartB.j4 k a (i : Int) false) (fun k => ?_) ?_
   ·rw [spec_pathPartB.l1, if_pos (by omega), if_pos (by omega), h.bt]
    rcases h1 with rfl | rfl
    ·rw [if_pos rfl]
    rw [if_neg zq23]
    rfl
   refine Ev.step (f := fun _ => some (a.extract 0 i, a.extract i a.size, decide ((i : Int) > 0))) (fun k => ?_) (Ev.now _)
   rw [spec_pathPartB.j4, if_neg zq23, if_pos (by omega), if_pos (by omega), Int.toNat_natCast]
  rw [if_neg h1]
  have hl1 : ∀ k, spec_pathPartB.l1 (k + 1) a (i : Int) = spec_pathPartB.j4 k a (i : Int) true := fun k => by
   rw [spec_pathPartB.l1, if_pos (by omega), if_pos (by omega), h.bt, if_neg (by omega), bne_iff_ne.mpr (show c ≠ 91 by omega)]
  by_cases h2 : c = 93 ∨ c = 34
  ·rw [if_pos h2]
   refine ⟨fun x r hx => (by cases hx), fun _ => ?_⟩
   refine Ev.step hl1 (Ev.step (f := fun _ => some (⟨#[]⟩, ⟨#[]⟩, false)) (fun k => ?_) (Ev.now _))
   rw [spec_pathPartB.j4, if_pos rfl, if_pos (by omega), if_pos (by omega), h.bt]
   rcases h2 with rfl | rfl
   ·rw [if_pos rfl]
   rw [if_neg zq23, if_pos rfl]
  rw [if_neg h2]
  have hj : ∀ k, spec_pathPartB.j4 (k + 1) a (i : Int) true = spec_pathPartB.l1 k a ((i + 1 : Nat) : Int) := fun k => by
   rw [spec_pathPartB.j4, if_pos rfl, if_pos (by omega), if_pos (by omega), h.bt, if_neg (by omega), if_neg (by omega), w1 hs (by omega)]
  refine ⟨fun x r hx => ?_, fun hx => Ev.step hl1 (Ev.step (g := fun k => spec_pathPartB.j4 k a (i : Int) true) hj (ih.2 (by simpa using hx)))⟩
  obtain ⟨⟨x', r'⟩, h4, h5⟩ := Option.map_eq_some_iff.mp hx
  cases h5
  have := Ev.step (g := fun k => spec_pathPartB.l1 k a (i : Int)) hl1 (Ev.step (g := fun k => spec_pathPartB.j4 k a (i : Int) true) hj (ih.1 x' r' h4))
  rw [show i + 1 + x'.length = i + (c :: x').length by simp only [List.length_cons]; omega] at this
  exact this
theorem pp_dig : ∀ (n i : Nat) (l : List Int) (R : ByteArray × ByteArray × Bool), l.length ≤ n → From a i l → Ev (fun k => spec_pathPartB.j1 k a ((i + (dgL l).length : Nat) : Int)) R → Ev (fun k => spec_pathPartB.l0 k a (i : Int)) R
 | n, i, [], R, _, h, hR => by
  have hn := h.nil
  exact Ev.step (fun k => by rw [spec_pathPartB.l0, if_neg (by omega)]; rfl) hR
 | 0, i, c :: t, R, hn, h, _ => by simp at hn
 | n + 1, i, c :: t, R, hn, h, hR => by
  simp only [List.length_cons] at hn
  have hlt := h.lt
  have hst : ∀ k, spec_pathPartB.l0 (k + 1) a (i : Int) = (if 48 ≤ c then (if c ≤ 57 then spec_pathPartB.l0 k a ((i + 1 : Nat) : Int) else spec_pathPartB.j1 k a (i : Int)) else spec_pathPartB.j1 k a (i : Int)) := fun k => by
   rw [spec_pathPartB.l0, if_pos (by omega), if_pos (by omega), h.bt, w1 hs (by omega)]
  by_cases hd : dgt c = true
  rotate_left
  ·rw [dgL, if_neg hd] at hR
   simp only [dgt, decide_eq_true_eq] at hd
   refine Ev.step (fun k => (hst k).trans ?_) hR
   by_cases h48 : 48 ≤ c
   rotate_left
   ·rw [if_neg h48]
    rfl
   rw [if_pos h48, if_neg (by omega)]
   rfl
  have hd' := hd
  simp only [dgt, decide_eq_true_eq] at hd'
  rw [dgL, if_pos hd] at hR
  refine Ev.step (fun k => (hst k).trans ((if_pos hd'.1).trans (if_pos hd'.2))) (pp_dig n (i + 1) t R (by omega) h.tail ?_)
  rw [show i + 1 + (dgL t).length = i + (c :: dgL t).length by simp only [List.length_cons]; omega]
  exact hR
theorem pp_br {t : List Int} (h : From a 0 (91 :: t)) :
 (∀ x r, brL t = some (x, r) → Ev (fun k => spec_pathPartB.l0 k a 1) (strOfNums (91 :: x ++ [93]), a.extract (x.length + 2) a.size, true) ∧ From a (x.length + 2) r) ∧
 (brL t = none → Ev (fun k => spec_pathPartB.l0 k a 1) (⟨#[]⟩, ⟨#[]⟩, false)) := by
 have h1 := dg_app t
 have ht := h.tail
 have hlen := h.len
 simp only [List.length_cons] at hlen
 have key : ∀ R, Ev (fun k => spec_pathPartB.j1 k a ((1 + (dgL t).length : Nat) : Int)) R → Ev (fun k => spec_pathPartB.l0 k a 1) R := fun R hR => pp_dig hs t.length 1 t R (Nat.le_refl _) ht hR
 unfold brL
 by_cases hd : dgL t = []
 rotate_left
 ·rw [if_neg hd]
  have hdl : 1 ≤ (dgL t).length := by
   cases hq : dgL t with
   | nil => exact absurd hq hd
   | cons _ _ => simp
  generalize hdd : dgL t = d at *
  generalize hrr : dgR t = r0 at *
  have hF : From a (1 + d.length) r0 := by
   rw [h1] at ht
   exact ht.app
  have hlt := hF.len
  have key2 : ∀ R, Ev (fun k => spec_pathPartB.j2 k a ((1 + d.length : Nat) : Int) false) R → Ev (fun k => spec_pathPartB.l0 k a 1) R := fun R hR => key R (Ev.step (fun k => by rw [spec_pathPartB.j1, if_neg (by omega)]) hR)
  match r0, hF, hlt, h1 with
  | [], hF, hlt, h1 =>
   simp only [List.length_nil] at hlt
   refine ⟨fun x r hx => by simp at hx, fun _ => key2 _ (Ev.step (f := fun _ => some (⟨#[]⟩, ⟨#[]⟩, false)) (fun k => ?_) (Ev.now _))⟩
   rw [spec_pathPartB.j2, if_neg zq23, if_neg (by omega), if_pos (by omega)]
  | c :: r1, hF, hlt, h1 =>
   simp only [List.length_cons] at hlt
   by_cases hc : c = 93
   rotate_left
   ·rw [if_neg (by simp [hc])]
    refine ⟨fun x r hx => (by cases hx), fun _ => key2 _ (Ev.step (f := fun _ => some (⟨#[]⟩, ⟨#[]⟩, false)) (fun k => ?_) (Ev.now _))⟩
    rw [spec_pathPartB.j2, if_neg zq23, if_neg (by omega), if_neg (by omega), if_pos (by omega), if_pos (by omega), hF.bt, if_neg hc]
   subst hc
   rw [if_pos (by simp)]
   refine ⟨fun x r hx => ?_, fun hx => by cases hx⟩
   simp only [List.drop_succ_cons, List.drop_zero, Option.some.injEq, Prod.mk.injEq] at hx
   obtain ⟨rfl, rfl⟩ := hx
   have hF3 := hF.tail
   rw [show 1 + d.length + 1 = d.length + 2 by omega] at hF3
   refine ⟨key2 _ (Ev.step (f := fun _ => some (strOfNums (91 :: d ++ [93]), a.extract (d.length + 2) a.size, true)) (fun k => ?_) (Ev.now _)), hF3⟩
   have e1 : a.extract 0 (d.length + 2) = strOfNums (91 :: d ++ [93]) := by
    have := ext_str (x := 91 :: d ++ [93]) (r := r1) (i := 0) (a := a) (by
     have e3 : (91 :: d ++ [93]) ++ r1 = 91 :: t := by rw [h1]; simp
     rw [e3]; exact h)
    rw [← this]
    simp
   rw [spec_pathPartB.j2, if_neg zq23, if_neg (by omega), if_neg (by omega), if_pos (by omega), if_pos (by omega), hF.bt, if_pos rfl, w1 hs (by omega), if_pos (by omega), if_pos (by omega), Int.toNat_natCast, show 1 + d.length + 1 = d.length + 2 by omega, e1]
 rw [if_pos hd]
 rw [hd, List.nil_append] at h1
 rw [← h1]
 rw [hd] at key
 simp only [List.length_nil, Nat.add_zero] at key
 have key2 : ∀ (b : Bool) R, (∀ k, spec_pathPartB.j1 (k + 1) a 1 = spec_pathPartB.j2 k a 1 b) → Ev (fun k => spec_pathPartB.j2 k a 1 b) R → Ev (fun k => spec_pathPartB.l0 k a 1) R := fun b R hb hR => key R (Ev.step hb hR)
 have hF : Ev (fun k => spec_pathPartB.j2 k a 1 false) (⟨#[]⟩, ⟨#[]⟩, false) := Ev.step (f := fun _ => some (⟨#[]⟩, ⟨#[]⟩, false)) (fun k => by rw [spec_pathPartB.j2, if_neg zq23, if_pos rfl]) (Ev.now _)
 match t, h, ht, hlen with
 | [], h, ht, hlen =>
  simp only [List.length_nil] at hlen
  refine ⟨fun x r hx => by simp at hx, fun _ => key2 false _ (fun k => by rw [spec_pathPartB.j1, if_pos rfl, if_neg (by omega)]) hF⟩
 | c :: t, h, ht, hlen =>
  simp only [List.length_cons] at hlen
  have hbt : bt a 1 = c := ht.bt
  have hj : ∀ k, spec_pathPartB.j1 (k + 1) a 1 = spec_pathPartB.j2 k a 1 (c == 42) := fun k => by
   rw [spec_pathPartB.j1, if_pos rfl, if_pos (by omega), if_pos zq23, hbt]
  by_cases h42 : c = 42
  rotate_left
  ·rw [if_neg (by simp [h42])]
   refine ⟨fun x r hx => (by cases hx), fun _ => key2 false _ (fun k => by rw [hj, beq_eq_false_iff_ne.mpr h42]) hF⟩
  subst h42
  have hw : wrap64 ((1 : Int) + 1) = 2 := w64 (x := 1 + 1) (by omega)
  have hw2 : wrap64 ((2 : Int) + 1) = 3 := w64 (x := 2 + 1) (by omega)
  match t, h, ht, hlen with
  | [], h, ht, hlen =>
   simp only [List.length_nil] at hlen
   refine ⟨fun x r hx => by simp at hx, fun _ => key2 true _ hj (Ev.step (f := fun _ => some (⟨#[]⟩, ⟨#[]⟩, false)) (fun k => ?_) (Ev.now _))⟩
   rw [spec_pathPartB.j2, if_pos rfl, hw, if_neg zq23, if_pos (by omega)]
  | e :: t, h, ht, hlen =>
   simp only [List.length_cons] at hlen
   have hbt2 : bt a 2 = e := ht.tail.bt
   by_cases he : e = 93
   rotate_left
   ·rw [if_neg (by simp [he])]
    refine ⟨fun x r hx => (by cases hx), fun _ => key2 true _ hj (Ev.step (f := fun _ => some (⟨#[]⟩, ⟨#[]⟩, false)) (fun k => ?_) (Ev.now _))⟩
    rw [spec_pathPartB.j2, if_pos rfl, hw, if_neg zq23, if_neg (by omega), if_pos zq23, if_pos (by omega), hbt2, if_neg he]
   subst he
   rw [if_pos (by simp)]
   refine ⟨fun x r hx => ?_, fun hx => by cases hx⟩
   cases hx
   refine ⟨key2 true _ hj (Ev.step (f := fun _ => some (strOfNums [91, 42, 93], a.extract 3 a.size, true)) (fun k => ?_) (Ev.now _)), ht.tail.tail⟩
   have e1 : a.extract 0 3 = strOfNums [91, 42, 93] := ext_str (x := [91, 42, 93]) h
   rw [spec_pathPartB.j2, if_pos rfl, hw, if_neg zq23, if_neg (by omega), if_pos zq23, if_pos (by omega), hbt2, if_pos rfl, hw2, if_pos zq23, if_pos (by omega), show (3 : Int).toNat = 3 from rfl, e1]
theorem part_eq {l : List Int} (hl : bytesOf a = l) :
 (∀ x r, paL l = some (x, r) → ∃ a2, bytesOf a2 = r ∧ Ev (fun k => spec_pathPart.f k a) (strOfNums x, a2, true)) ∧
 (paL l = none → ∃ a1 a2, Ev (fun k => spec_pathPart.f k a) (a1, a2, false)) := by
 have h0 : From a 0 l := by have := From.start a; rwa [hl] at this
 have hlen := h0.len
 match l, h0, hlen, hl with
 | [], h0, hlen, hl =>
  simp only [List.length_nil] at hlen
  refine ⟨fun x r hx => by simp [paL] at hx, fun _ => ⟨⟨#[]⟩, ⟨#[]⟩, Ev.congr (fun k => ?_) (Ev.now _)⟩⟩
  unfold spec_pathPart.f
  rw [if_neg (by omega)]
  unfold spec_pathPartB.f
  rw [if_pos ((toL_nil a).mpr hl)]
 | c :: t, h0, hlen, hl =>
  simp only [List.length_cons] at hlen
  have hbt : bt a 0 = c := h0.bt
  have hne : ¬ a.toList = [] := fun e => by rw [toL_nil, hl] at e; cases e
  rw [paL]
  by_cases h34 : c = 34
  rotate_left
  ·rw [if_neg h34]
   have hf : ∀ k, spec_pathPart.f k a = (if c = 91 then spec_pathPartB.l0 k a 1 else spec_pathPartB.l1 k a 0) := fun k => by
    unfold spec_pathPart.f
    rw [if_neg (by rw [hbt]; omega)]
    unfold spec_pathPartB.f
    rw [if_neg hne, if_pos (by omega), hbt, if_neg h34]
   by_cases h91 : c = 91
   ·subst h91
    rw [if_pos rfl]
    have hb := pp_br hs h0
    refine ⟨fun x r hx => ?_, fun hx => ?_⟩
    ·obtain ⟨⟨x', r'⟩, h4, h5⟩ := Option.map_eq_some_iff.mp hx
     cases h5
     obtain ⟨h6, h7⟩ := hb.1 x' r' h4
     exact ⟨_, ext_end h7, Ev.congr (fun k => (hf k).trans (if_pos rfl)) h6⟩
    ·exact ⟨_, _, Ev.congr (fun k => (hf k).trans (if_pos rfl)) (hb.2 (by simpa using hx))⟩
   rw [if_neg h91]
   have hp := pp_plain hs (c :: t).length 0 (c :: t) (Nat.le_refl _) h0
   refine ⟨fun x r hx => ?_, fun hx => ?_⟩
   ·obtain ⟨⟨x', r'⟩, h4, h5⟩ := Option.bind_eq_some_iff.mp hx
    simp only at h5
    split at h5
    ·cases h5
    rename_i hne2
    cases h5
    obtain ⟨e, _⟩ := plL_ex _ _ _ h4
    have h6 := hp.1 x r h4
    rw [Nat.zero_add] at h6
    have e1 : a.extract 0 x.length = strOfNums x := by
     have := ext_str (a := a) (i := 0) (x := x) (r := r) (by rw [← e]; exact h0)
     rwa [Nat.zero_add] at this
    have hpos : 0 < x.length := List.length_pos_iff.mpr hne2
    rw [e1, decide_eq_true (show ((x.length : Nat) : Int) > 0 by omega)] at h6
    have hF : From a x.length r := by
     have := (show From a 0 (x ++ r) by rw [← e]; exact h0).app
     rwa [Nat.zero_add] at this
    exact ⟨_, ext_end hF, Ev.congr (fun k => (hf k).trans (if_neg h91)) h6⟩
   ·cases h4 : plL (c :: t) with
    | none => exact ⟨_, _, Ev.congr (fun k => (hf k).trans (if_neg h91)) (hp.2 h4)⟩
    | some q =>
     obtain ⟨x', r'⟩ := q
     rw [h4, Option.bind_some] at hx
     simp only at hx
     split at hx
     ·rename_i hx0
      subst hx0
      have h6 := hp.1 [] r' h4
      exact ⟨_, _, Ev.congr (fun k => (hf k).trans (if_neg h91)) h6⟩
     ·cases hx
  subst h34
  rw [if_pos rfl]
  have hq := quoted_eq (show a.size ≤ 140737488351232 by omega) h0
  have hf : ∀ k, spec_pathPart.f k a = spec_pathPart.q k a := fun k => by
   unfold spec_pathPart.f
   rw [if_pos ⟨by omega, hbt⟩]
  refine ⟨fun x r hx => ?_, fun hx => ?_⟩
  ·obtain ⟨r', h4, h5⟩ := Option.map_eq_some_iff.mp hx
   cases h5
   obtain ⟨b, hb, e⟩ := strL_iff.mp h4
   have hbl : t.length = b.length + (r.length + 1) := by rw [e]; simp
   have htk : t.take (t.length - r.length - 1) = b := by
    rw [e, show (b ++ 34 :: r).length - r.length - 1 = b.length by simp; omega, List.take_append_of_le_length (Nat.le_refl _), List.take_length]
   rw [htk]
   have hat : a.size - r.length = b.length + 2 := by omega
   have h5 := hq.1 r h4
   rw [hat] at h5
   have hF : From a (b.length + 2) r := by
    have := (show From a 1 (b ++ 34 :: r) by rw [← e]; exact h0.tail).app.tail
    rwa [show 1 + b.length + 1 = b.length + 2 by omega] at this
   refine ⟨a.extract (b.length + 2) a.size, ext_end hF, Ev.congr hf ?_⟩
   unfold spec_pathPart.q
   refine Ev.bind h5 ?_
   have e1 : bytesOf (a.extract 0 (b.length + 2)) = 34 :: (b ++ [34]) := by
    have := From.extract (s := a) (i := 0) (a := 34 :: (b ++ [34])) (l := r) (by rw [show (34 :: (b ++ [34])) ++ r = 34 :: t by rw [e]; simp]; exact h0)
    rw [← this]
    simp
   have hu := unquote_eq (s := a.extract 0 (b.length + 2)) zq25 e1 (okL_body b.length b (Nat.le_refl _) (okB hb))
   refine Ev.congr (f := fun k => (spec_Unquote.f k (a.extract 0 (b.length + 2))).bind fun q => some (q, a.extract (b.length + 2) a.size, true)) (fun k => ?_) (Ev.bind hu (Ev.now _))
   rw [if_pos rfl, if_pos (show 0 ≤ ((b.length + 2 : Nat) : Int) ∧ ((b.length + 2 : Nat) : Int) ≤ (a.size : Int) from ⟨by omega, by omega⟩), Int.toNat_natCast]
  ·have h4 : strL t = none := by simpa using hx
   obtain ⟨p, hp⟩ := hq.2 h4
   refine ⟨⟨#[]⟩, ⟨#[]⟩, Ev.congr hf ?_⟩
   unfold spec_pathPart.q
   exact Ev.bind hp (Ev.congr (fun k => if_neg (show ¬ (false = true) by decide)) (Ev.now _))
end
end Go.Proofs.YtafbdpdbagkbgaaDoor.J
end
section
namespace Go.Proofs.YtafbdpdbagkbgaaDoor.J
open Go.RowKit Go.Proofs.YtafbdpdbagkbgaaDoor.Q Go.Proofs.YtafbdpdbagkbgaaDoorW.PrintWords Go.Proofs.YtafbdpdbagkbgaaDoorW.PrintLast
set_option linter.unusedVariables false
set_option linter.unusedSimpArgs false
def tlL (n : Nat) (r : List Int) : Option (List (List Int)) := if r = [] then some [] else if r.headD 0 = 46 then ptL n r.tail else if r.headD 0 = 91 then ptL n r else none
theorem tlL_nil (n : Nat) : tlL n [] = some [] := rfl
theorem tlL_46 (n : Nat) (t : List Int) : tlL n (46 :: t) = ptL n t := by
 unfold tlL
 rw [if_neg (by simp), List.headD_cons, if_pos rfl, List.tail_cons]
theorem tlL_91 (n : Nat) (t : List Int) : tlL n (91 :: t) = ptL n (91 :: t) := by
 unfold tlL
 rw [if_neg (by simp), List.headD_cons, if_neg zq23, if_pos rfl]
theorem tlL_no (n : Nat) {c : Int} (t : List Int) (h1 : c ≠ 46) (h2 : c ≠ 91) : tlL n (c :: t) = none := by
 unfold tlL
 rw [if_neg (by simp), List.headD_cons, if_neg h1, if_neg h2]
theorem ptL_succ (n : Nat) (l : List Int) : ptL (n + 1) l = (paL l).bind fun x => (tlL n x.2).map (x.1 :: ·) := by rw [ptL]; rfl
theorem paL_len {l x r : List Int} (h : paL l = some (x, r)) : r.length < l.length := by
 match l, h with
 | [], h => simp [paL] at h
 | c :: t, h =>
  rw [paL] at h
  split at h
  ·obtain ⟨r', h4, h5⟩ := Option.map_eq_some_iff.mp h
   cases h5
   have := strL_len t.length t r (Nat.le_refl _) h4
   simp only [List.length_cons]
   omega
  split at h
  ·obtain ⟨⟨x', r'⟩, h4, h5⟩ := Option.map_eq_some_iff.mp h
   cases h5
   have h1 := congrArg List.length (dg_app t)
   rw [List.length_append] at h1
   unfold brL at h4
   split at h4 <;> split at h4
   ·cases h4
    simp only [List.length_drop, List.length_cons]
    omega
   ·cases h4
   ·cases h4
    simp only [List.length_drop, List.length_cons]
    omega
   ·cases h4
  ·obtain ⟨⟨x', r'⟩, h4, h5⟩ := Option.bind_eq_some_iff.mp h
   simp only at h5
   split at h5
   ·cases h5
   rename_i hne
   cases h5
   obtain ⟨e, _⟩ := plL_ex _ _ _ h4
   have h6 := congrArg List.length e
   rw [List.length_append] at h6
   have := List.length_pos_iff.mpr hne
   omega
def resS (out : List ByteArray) : Option (List (List Int)) → List ByteArray × Bool
  | some ps => (out ++ ps.map strOfNums, true)
  | none => ([], false)
theorem resS_cons (out : List ByteArray) (x : List Int) (o : Option (List (List Int))) : resS out (o.map (x :: ·)) = resS (out ++ [strOfNums x]) o := by
 cases o <;> simp [resS]
def stS (k : Nat) (a : ByteArray) (out : List ByteArray) : Option (List ByteArray × Bool) := (spec_pathPart.f k a).bind fun bt101 => (if bt101.2.2 = true then (if out.length < 8796093022208 then (spec_PathParts.l0 k bt101.2.1 (out ++ [bt101.1]) false) else (none)) else (some (([] : List ByteArray), false)))
theorem parts_eq : ∀ (n : Nat) (a : ByteArray) (l : List Int) (out : List ByteArray), bytesOf a = l → l.length < n → a.size ≤ 2147483647 → out.length + l.length ≤ 4294967296 → Ev (fun k => stS k a out) (resS out (ptL n l))
 | 0, _, l, _, _, hn, _, _ => by omega
 | n + 1, a, l, out, hl, hn, hs, ho => by
  rw [ptL_succ]
  have hp := part_eq hs hl
  unfold stS
  cases hq : paL l with
  | none =>
   obtain ⟨a1, a2, h⟩ := hp.2 hq
   exact Ev.bind h (Ev.congr (fun k => if_neg (show ¬ (false = true) by decide)) (Ev.now _))
  | some q =>
   obtain ⟨x, r⟩ := q
   obtain ⟨a2, h2, h⟩ := hp.1 x r hq
   have hlen := paL_len hq
   have hs2 : a2.size ≤ 2147483647 := by
    have e1 := congrArg List.length h2
    have e2 := congrArg List.length hl
    rw [bytesOf_length] at e1 e2
    omega
   refine Ev.bind h ?_
   rw [Option.bind_some, resS_cons]
   refine Ev.congr (f := fun k => spec_PathParts.l0 k a2 (out ++ [strOfNums x]) false) (fun k => by rw [if_pos rfl, if_pos (by omega)]) ?_
   generalize ho' : out ++ [strOfNums x] = out'
   have hol : out'.length = out.length + 1 := by rw [← ho']; simp
   have hst : ∀ k, spec_PathParts.l0 (k + 1) a2 out' false = spec_PathParts.j3 k a2 out' false (a2.toList != []) := fun k => by rw [spec_PathParts.l0, if_neg zq23]
   have h0 : From a2 0 r := by have := From.start a2; rwa [h2] at this
   refine Ev.step hst ?_
   show Ev _ (resS out' (tlL n r))
   match r, h2, hlen, h0 with
   | [], h2, hlen, h0 =>
    rw [tlL_nil, (toL_nil a2).mpr h2]
    refine Ev.step (f := fun _ => some (out', true)) (fun k => by rw [spec_PathParts.j3, if_neg zq23]) (Ev_same (Ev.now _) ?_)
    simp [resS]
   | c :: t, h2, hlen, h0 =>
    have hne : (a2.toList != ([] : List UInt8)) = true := bne_iff_ne.mpr (fun e => by rw [toL_nil, h2] at e; cases e)
    rw [hne]
    have hbt : bt a2 0 = c := h0.bt
    have hlt := h0.lt
    simp only [List.length_cons] at hlen
    have hj : ∀ k, spec_PathParts.j3 (k + 1) a2 out' false true = (if c = 46 then stS k (a2.extract 1 a2.size) out' else if c = 91 then stS k a2 out' else some ([], false)) := fun k => by
     rw [spec_PathParts.j3, if_pos rfl, if_neg zq23, if_pos (by omega), hbt, if_pos (show 1 ≤ (a2.size : Int) by omega)]
     rfl
    by_cases h46 : c = 46
    ·subst h46
     rw [tlL_46]
     exact Ev.step (fun k => (hj k).trans (if_pos rfl)) (parts_eq n _ t out' (ext_end h0.tail) (by omega) zq25 (by omega))
    by_cases h91 : c = 91
    rotate_left
    ·rw [tlL_no n t h46 h91]
     exact Ev.step (fun k => (hj k).trans ((if_neg h46).trans (if_neg h91))) (Ev.now _)
    subst h91
    rw [tlL_91]
    exact Ev.step (fun k => (hj k).trans ((if_neg h46).trans (if_pos rfl))) (parts_eq n a2 (91 :: t) out' h2 zq20 hs2 zq20)
def pfL (l : List Int) : Option (List (List Int)) :=
  if l = [36] then some [] else if l.headD 0 = 36 then (if l.tail.headD 0 = 46 then ptL (l.length + 1) (l.drop 2) else if l.tail.headD 0 = 91 then ptL (l.length + 1) (l.drop 1) else none) else ptL (l.length + 1) l
theorem pfL_one : pfL [36] = some [] := rfl
theorem pfL_nil : pfL [] = ptL 1 [] := by
 unfold pfL
 rw [if_neg (by simp), if_neg zq23]
 rfl
theorem pfL_c {c : Int} (t : List Int) (h : c ≠ 36) : pfL (c :: t) = ptL ((c :: t).length + 1) (c :: t) := by
 unfold pfL
 rw [if_neg (by simp [h]), List.headD_cons, if_neg h]
theorem pfL_46 (u : List Int) : pfL (36 :: 46 :: u) = ptL ((36 :: 46 :: u).length + 1) u := by
 unfold pfL
 rw [if_neg (by simp), List.headD_cons, if_pos rfl, List.tail_cons, List.headD_cons, if_pos rfl]
 rfl
theorem pfL_91 (u : List Int) : pfL (36 :: 91 :: u) = ptL ((36 :: 91 :: u).length + 1) (91 :: u) := by
 unfold pfL
 rw [if_neg (by simp), List.headD_cons, if_pos rfl, List.tail_cons, List.headD_cons, if_neg zq23, if_pos rfl]
 rfl
theorem pfL_no {d : Int} (u : List Int) (h1 : d ≠ 46) (h2 : d ≠ 91) : pfL (36 :: d :: u) = none := by
 unfold pfL
 rw [if_neg (by simp), List.headD_cons, if_pos rfl, List.tail_cons, List.headD_cons, if_neg h1, if_neg h2]
theorem toL_36 (a : ByteArray) : a.toList = [36] ↔ bytesOf a = [36] := by
 constructor
 ·intro h
  have e : a = ⟨#[36]⟩ := toList_inj (h.trans (by rw [ByteArray.toList_eq]))
  rw [e]
  rfl
 ·intro h
  have e : a = ⟨#[36]⟩ := bytesOf_inj (h.trans rfl)
  rw [e, ByteArray.toList_eq]
theorem pathParts_eq {a : ByteArray} {l : List Int} (hl : bytesOf a = l) (hs : a.size ≤ 2147483647) : Ev (fun k => spec_PathParts.f k a) (resS [] (pfL l)) := by
 have h0 : From a 0 l := by have := From.start a; rwa [hl] at this
 have hlen := h0.len
 unfold spec_PathParts.f
 by_cases h36 : l = [36]
 ·rw [h36, pfL_one]
  exact Ev.congr (fun k => if_pos ((toL_36 a).mpr (hl.trans h36))) (Ev.now _)
 have hn36 : ¬ a.toList = ([36] : List UInt8) := fun e => h36 (hl.symm.trans ((toL_36 a).mp e))
 have hj1 : ∀ (b : ByteArray) (m : List Int), bytesOf b = m → m.length < l.length + 1 → b.size ≤ 2147483647 → Ev (fun k => spec_PathParts.j1 k b) (resS [] (ptL (l.length + 1) m)) := fun b m hb hm hz =>
  Ev.step (f := fun k => spec_PathParts.l0 k b [] true) (fun k => by rw [spec_PathParts.j1])
   (Ev.step (f := fun k => spec_PathParts.j3 k b [] true true) (fun k => by rw [spec_PathParts.l0, if_pos rfl])
    (Ev.step (f := fun k => stS k b []) (fun k => by rw [spec_PathParts.j3, if_pos rfl, if_pos rfl]; rfl) (parts_eq _ b m [] hb hm hz zq28)))
 match l, h0, hlen, hl, h36, hj1 with
 | [], h0, hlen, hl, h36, hj1 =>
  rw [pfL_nil]
  refine Ev.congr (f := fun k => spec_PathParts.j0 k a false) (fun k => by rw [if_neg hn36, if_pos ((toL_nil a).mpr hl)]) ?_
  exact Ev.step (f := fun k => spec_PathParts.j1 k a) (fun k => by rw [spec_PathParts.j0, if_neg zq23]) (hj1 a [] hl (by simp) hs)
 | c :: t, h0, hlen, hl, h36, hj1 =>
  simp only [List.length_cons] at hlen
  have hbt : bt a 0 = c := h0.bt
  have hne : ¬ a.toList = ([] : List UInt8) := fun e => by rw [toL_nil, hl] at e; cases e
  refine Ev.congr (f := fun k => spec_PathParts.j0 k a (c == 36)) (fun k => by rw [if_neg hn36, if_neg hne, if_pos (by omega), hbt]) ?_
  by_cases hc : c = 36
  rotate_left
  ·rw [pfL_c t hc, beq_eq_false_iff_ne.mpr hc]
   exact Ev.step (f := fun k => spec_PathParts.j1 k a) (fun k => by rw [spec_PathParts.j0, if_neg zq23]) (hj1 a (c :: t) hl (by simp) hs)
  subst hc
  match t, h0, hlen, hl, h36, hj1 with
  | [], _, _, _, h36, _ => exact absurd rfl h36
  | d :: u, h0, hlen, hl, h36, hj1 =>
   simp only [List.length_cons] at hlen
   have hbt1 : bt a 1 = d := h0.tail.bt
   have hj : ∀ k, spec_PathParts.j0 (k + 1) a ((36 : Int) == 36) = (if d = 46 then spec_PathParts.j1 k (a.extract 2 a.size) else if d = 91 then spec_PathParts.j1 k (a.extract 1 a.size) else some ([], false)) := fun k => by
    rw [spec_PathParts.j0, if_pos (show ((36 : Int) == 36) = true by decide), if_pos (by omega), hbt1, if_pos (show 2 ≤ (a.size : Int) by omega), if_pos (show 1 ≤ (a.size : Int) by omega)]
   by_cases hd : d = 46
   ·subst hd
    rw [pfL_46]
    exact Ev.step (fun k => (hj k).trans (if_pos rfl)) (hj1 _ u (ext_end h0.tail.tail) zq20 zq25)
   by_cases hd2 : d = 91
   rotate_left
   ·rw [pfL_no u hd hd2]
    exact Ev.step (fun k => (hj k).trans ((if_neg hd).trans (if_neg hd2))) (Ev.now _)
   subst hd2
   rw [pfL_91]
   exact Ev.step (fun k => (hj k).trans ((if_neg hd).trans (if_pos rfl))) (hj1 _ (91 :: u) (ext_end h0.tail) zq20 zq25)
end Go.Proofs.YtafbdpdbagkbgaaDoor.J
end
section
namespace Go.Proofs.YtafbdpdbagkbgaaDoor.J
open Go.RowKit Go.Proofs.YtafbdpdbagkbgaaDoor.Q Go.Proofs.YtafbdpdbagkbgaaDoorW.PrintWords Go.Proofs.YtafbdpdbagkbgaaDoorW.PrintLast
set_option linter.unusedVariables false
set_option linter.unusedSimpArgs false

theorem brE_eq {a : ByteArray} : ∀ (n i : Nat) (l : List Int) (k : Nat), l.length ≤ n → n < k → From a i l → brE a k (i : Int) = some ((enL l).map fun x => ((i + x.1.length : Nat) : Int))
 | n, i, [], k, _, hk, h => by
  obtain ⟨k, rfl⟩ : ∃ j, k = j + 1 := ⟨k - 1, by omega⟩
  have := h.nil
  rw [brE, if_neg (by omega)]
  rfl
 | 0, i, c :: t, k, hn, _, _ => by simp at hn
 | n + 1, i, c :: t, k, hn, hk, h => by
  obtain ⟨k, rfl⟩ : ∃ j, k = j + 1 := ⟨k - 1, by omega⟩
  simp only [List.length_cons] at hn
  rw [brE, if_pos (by have := h.lt; omega), h.bt, enL]
  by_cases h1 : c = 93
  ·rw [if_pos h1, if_pos h1]
   simp
  rw [if_neg h1, if_neg h1]
  by_cases h2 : c = 91 ∨ c = 34
  ·rw [if_pos h2]
   rcases h2 with rfl | rfl
   ·rw [if_pos rfl]; rfl
   rw [if_neg zq23, if_pos rfl]; rfl
  rw [if_neg h2, if_neg (by omega), if_neg (by omega), show (i : Int) + 1 = ((i + 1 : Nat) : Int) by omega, brE_eq n (i + 1) t k (by omega) (by omega) h.tail, Option.map_map]
  cases enL t with
  | none => rfl
  | some x =>
   simp only [Option.map_some, Function.comp, List.length_cons, Option.some.injEq]
   omega
theorem dgE_eq {a : ByteArray} (r : List Int) : ∀ (x : List Int) (i k : Nat), x.length < k → From a i (x ++ r) → dgE a ((i + x.length : Nat) : Int) k (i : Int) = some (x.all dgt)
 | [], i, k, hk, h => by
  obtain ⟨k, rfl⟩ : ∃ j, k = j + 1 := ⟨k - 1, by simp at hk; omega⟩
  rw [dgE, if_neg (by simp)]
  rfl
 | c :: x, i, k, hk, h => by
  simp only [List.length_cons] at hk
  obtain ⟨k, rfl⟩ : ∃ j, k = j + 1 := ⟨k - 1, by omega⟩
  have hx : From a i (c :: (x ++ r)) := h
  rw [dgE, if_pos zq20, hx.bt, List.all_cons]
  by_cases h1 : c < 48
  ·rw [if_pos h1, show dgt c = false by simp only [dgt, decide_eq_false_iff_not]; omega]
   rfl
  rw [if_neg h1]
  by_cases h2 : c > 57
  ·rw [if_pos h2, show dgt c = false by simp only [dgt, decide_eq_false_iff_not]; omega]
   rfl
  rw [if_neg h2, show dgt c = true by simp only [dgt, decide_eq_true_eq]; omega, Bool.true_and]
  have ih := dgE_eq r x (i + 1) k (by omega) hx.tail
  rw [show i + 1 + x.length = i + (c :: x).length by simp only [List.length_cons]; omega] at ih
  rw [show (i : Int) + 1 = ((i + 1 : Nat) : Int) by omega, ih]
theorem br_eq {a : ByteArray} {i : Nat} {t : List Int} (hs : a.size ≤ 2147483647) (h : From a i (91 :: t)) (k : Nat) (hk : a.size + 20 ≤ k) :
 (∀ x r, brL t = some (x, r) → jsonparser_parseBracketPathComponent.f k a (i : Int) = some (strOfNums (91 :: x ++ [93]), ((i + x.length + 2 : Nat) : Int), none) ∧ From a (i + x.length + 2) r) ∧
 (brL t = none → jsonparser_parseBracketPathComponent.f k a (i : Int) = some (⟨#[]⟩, 0, some 0)) := by
 have hlen := h.len
 simp only [List.length_cons] at hlen
 have hf : jsonparser_parseBracketPathComponent.f k a (i : Int) = (some ((enL t).map fun x => ((i + 1 + x.1.length : Nat) : Int))).bind (pbK a k (i : Int)) := by
  unfold jsonparser_parseBracketPathComponent.f
  rw [if_pos ⟨hs, by omega, by omega⟩, show (i : Int) + 1 = ((i + 1 : Nat) : Int) by omega, brE_eq t.length (i + 1) t k (Nat.le_refl _) (by omega) h.tail]
 rw [brL_en]
 cases he : enL t with
 | none =>
  rw [he] at hf
  exact ⟨fun x r hx => (by cases hx), fun _ => hf⟩
 | some q =>
  obtain ⟨x, r⟩ := q
  have e := enL_ex t x r he
  have hl2 : t.length = x.length + (r.length + 1) := by rw [e]; simp
  have hfx : jsonparser_parseBracketPathComponent.f k a (i : Int) = some (pbT a (i : Int) ((i + 1 + x.length : Nat) : Int) (okB_ x)) := by
   rw [hf, he, Option.map_some, Option.bind_some]
   simp only [pbK]
   match x, e with
   | [], e =>
    rw [if_pos (by simp)]
    rfl
   | c :: x', e =>
    have hb : bt a ((i : Int) + 1) = c := by
     have := (show From a (i + 1) (c :: (x' ++ 93 :: r)) by have := h.tail; rwa [e] at this).bt
     rwa [show ((i + 1 : Nat) : Int) = (i : Int) + 1 by omega] at this
    rw [if_neg zq20, hb, okB_cons]
    by_cases h42 : c = 42
    rotate_left
    ·rw [if_neg h42, if_neg h42]
     have hd := dgE_eq (a := a) (93 :: r) (c :: x') (i + 1) k (by omega) (by have := h.tail; rwa [e] at this)
     rw [show (i : Int) + 1 = ((i + 1 : Nat) : Int) by omega, hd]
     rfl
    rw [if_pos h42, if_pos h42]
    congr 2
    cases x' with
    | nil => simp only [List.length_cons, List.length_nil, List.isEmpty_nil, decide_eq_true_eq]; omega
    | cons d y => simp only [List.length_cons, List.isEmpty_cons, decide_eq_false_iff_not]; omega
  rw [Option.bind_some]
  simp only
  cases hk2 : okB_ x with
  | false =>
   rw [hk2] at hfx
   exact ⟨fun x r hx => by simp at hx, fun _ => hfx⟩
  | true =>
   rw [hk2] at hfx
   refine ⟨fun x2 r2 hx => ?_, fun hx => by simp at hx⟩
   simp only [if_true, Option.some.injEq, Prod.mk.injEq] at hx
   obtain ⟨rfl, rfl⟩ := hx
   have hF : From a i ((91 :: x ++ [93]) ++ r) := by
    have e3 : (91 :: x ++ [93]) ++ r = 91 :: t := by rw [e]; simp
    rw [e3]; exact h
   have e1 := ext_str hF
   have hF2 := hF.app
   have el : (91 :: x ++ [93]).length = x.length + 2 := by simp
   rw [el] at e1 hF2
   refine ⟨?_, by rwa [show i + x.length + 2 = i + (x.length + 2) by omega]⟩
   rw [hfx, pbT, Int.toNat_natCast, show (((i + 1 + x.length : Nat) : Int) + 1) = ((i + (x.length + 2) : Nat) : Int) by omega, Int.toNat_natCast, e1]
   congr 3
def okI (g : Nat → Option (List ByteArray × Option Int)) (out : List ByteArray) : Option (List (List Int)) → Prop
  | some ps => Ev g (out ++ ps.map strOfNums, none)
  | none => ∃ e, Ev g ([], some e)
theorem okI.step {g f : Nat → Option (List ByteArray × Option Int)} {out : List ByteArray} {o : Option (List (List Int))} (h : ∀ k, g (k + 1) = f k) (hf : okI f out o) : okI g out o := by
 cases o with
 | some ps => exact Ev.step h hf
 | none => obtain ⟨e, hf⟩ := hf; exact ⟨e, Ev.step h hf⟩
theorem okI.congr {g f : Nat → Option (List ByteArray × Option Int)} {out : List ByteArray} {o : Option (List (List Int))} (h : ∀ k, g k = f k) (hf : okI f out o) : okI g out o := by
 cases o with
 | some ps => exact Ev.congr h hf
 | none => obtain ⟨e, hf⟩ := hf; exact ⟨e, Ev.congr h hf⟩
theorem okI.bind {α : Type} {g : Nat → Option α} {F : Nat → α → Option (List ByteArray × Option Int)} {v : α} {out : List ByteArray} {o : Option (List (List Int))} (h : Ev g v) (hf : okI (fun n => F n v) out o) : okI (fun n => (g n).bind (F n)) out o := by
 cases o with
 | some ps => exact Ev.bind h hf
 | none => obtain ⟨e, hf⟩ := hf; exact ⟨e, Ev.bind h hf⟩
theorem okI.cons {g : Nat → Option (List ByteArray × Option Int)} {out : List ByteArray} {x : List Int} {o : Option (List (List Int))} (h : okI g (out ++ [strOfNums x]) o) : okI g out (o.map (x :: ·)) := by
 cases o with
 | some ps => simpa [okI] using h
 | none => exact h
theorem okI.no {out : List ByteArray} (e : Int) : okI (fun _ => some ([], some e)) out none := ⟨e, Ev.now _⟩
section
variable {a : ByteArray} (hs : a.size ≤ 2147483647)
include hs
theorem ip_plain : ∀ (n i : Nat) (l : List Int) (s : Nat) (out out' : List ByteArray) (o : Option (List (List Int))), l.length ≤ n → From a i l → s ≤ i → out.length < 4294967297 →
 (∀ x r, plL l = some (x, r) → s < i + x.length → okI (fun k => jsonparser_ParsePath.j4 k a (out ++ [a.extract s (i + x.length)]) ((i + x.length : Nat) : Int)) out' o → okI (fun k => jsonparser_ParsePath.l1 k a out (i : Int) (s : Int)) out' o) ∧
 (plL l = none → ∃ e, Ev (fun k => jsonparser_ParsePath.l1 k a out (i : Int) (s : Int)) ([], some e))
 | n, i, [], s, out, out', o, _, h, hsi, ho => by
  have hn := h.nil
  refine ⟨fun x r hx hlt hk => ?_, fun hx => (by cases hx)⟩
  cases hx
  simp only [List.length_nil, Nat.add_zero] at hlt hk
  refine okI.step (f := fun k => jsonparser_ParsePath.j3 k a out (i : Int) (s : Int) false) (fun k => by rw [jsonparser_ParsePath.l1, if_neg (by omega)]) ?_
  refine okI.step (fun k => ?_) hk
  rw [jsonparser_ParsePath.j3, if_neg zq23, if_neg (by omega), if_pos (by omega), if_pos (by omega), if_pos (by omega), if_pos (by omega), Int.toNat_natCast, Int.toNat_natCast]
 | 0, i, c :: t, s, out, out', o, hn, h, _, _ => by simp at hn
 | n + 1, i, c :: t, s, out, out', o, hn, h, hsi, ho => by
  simp only [List.length_cons] at hn
  have hlt := h.lt
  have ih := ip_plain n (i + 1) t s out out' o (by omega) h.tail (by omega) ho
  rw [plL]
  by_cases h1 : c = 46 ∨ c = 91
  ·rw [if_pos h1]
   refine ⟨fun x r hx hl2 hk => ?_, fun hx => (by cases hx)⟩
   cases hx
   simp only [List.length_nil, Nat.add_zero] at hl2 hk
   refine okI.step (f := fun k => jsonparser_ParsePath.j3 k a out (i : Int) (s : Int) false) (fun k => ?_) ?_
   ·rw [jsonparser_ParsePath.l1, if_pos (by omega), if_pos (by omega), h.bt]
    rcases h1 with rfl | rfl
    ·rw [if_pos rfl]
    rw [if_neg zq23]
    rfl
   refine okI.step (fun k => ?_) hk
   rw [jsonparser_ParsePath.j3, if_neg zq23, if_neg (by omega), if_pos (by omega), if_pos (by omega), if_pos (by omega), if_pos (by omega), Int.toNat_natCast, Int.toNat_natCast]
  rw [if_neg h1]
  have hl1 : ∀ k, jsonparser_ParsePath.l1 (k + 1) a out (i : Int) (s : Int) = jsonparser_ParsePath.j3 k a out (i : Int) (s : Int) true := fun k => by
   rw [jsonparser_ParsePath.l1, if_pos (by omega), if_pos (by omega), h.bt, if_neg (by omega), bne_iff_ne.mpr (show c ≠ 91 by omega)]
  by_cases h2 : c = 93 ∨ c = 34
  ·rw [if_pos h2]
   refine ⟨fun x r hx => (by cases hx), fun _ => ⟨1, ?_⟩⟩
   refine Ev.step hl1 (Ev.step (f := fun _ => some ([], some 1)) (fun k => ?_) (Ev.now _))
   rw [jsonparser_ParsePath.j3, if_pos rfl, if_pos (by omega), if_pos (by omega), h.bt]
   rcases h2 with rfl | rfl
   ·rw [if_pos rfl]
   rw [if_neg zq23, if_pos rfl]
  rw [if_neg h2]
  have hj : ∀ k, jsonparser_ParsePath.j3 (k + 1) a out (i : Int) (s : Int) true = jsonparser_ParsePath.l1 k a out ((i + 1 : Nat) : Int) (s : Int) := fun k => by
   rw [jsonparser_ParsePath.j3, if_pos rfl, if_pos (by omega), if_pos (by omega), h.bt, if_neg (by omega), if_neg (by omega), w1 hs (by omega)]
  refine ⟨fun x r hx hl2 hk => ?_, fun hx => ?_⟩
  ·obtain ⟨⟨x', r'⟩, h4, h5⟩ := Option.map_eq_some_iff.mp hx
   cases h5
   have e3 : i + (c :: x').length = i + 1 + x'.length := by simp only [List.length_cons]; omega
   simp only [e3] at hl2 hk
   exact okI.step hl1 (okI.step (g := fun k => jsonparser_ParsePath.j3 k a out (i : Int) (s : Int) true) hj (ih.1 x' r' h4 hl2 hk))
  ·obtain ⟨e, hev⟩ := ih.2 (by simpa using hx)
   exact ⟨e, Ev.step hl1 (Ev.step (g := fun k => jsonparser_ParsePath.j3 k a out (i : Int) (s : Int) true) hj hev)⟩
def PI (a : ByteArray) (n : Nat) : Prop := ∀ (i : Nat) (l : List Int) (out : List ByteArray), From a i l → l ≠ [] → l.length < n → out.length + l.length ≤ 4294967296 → okI (fun k => jsonparser_ParsePath.l0 k a out (i : Int)) out (ptL n l)
def PT (a : ByteArray) (n : Nat) : Prop := ∀ (i : Nat) (r : List Int) (out : List ByteArray), From a i r → (r = [] → out ≠ []) → r.length < n → out.length + r.length ≤ 4294967296 → okI (fun k => jsonparser_ParsePath.l2 k a out (i : Int)) out (tlL n r)
theorem pb_step {n : Nat} (hT : PT a n) {i : Nat} {t : List Int} {out : List ByteArray} (h : From a i (91 :: t)) (hn : (91 :: t).length < n + 1) (ho : out.length + (91 :: t).length ≤ 4294967296) :
 okI (fun k => jsonparser_ParsePath.l2 k a out (i : Int)) out (ptL (n + 1) (91 :: t)) := by
 have hlt := h.lt
 have hb := br_eq hs h
 have h1 : ∀ k, jsonparser_ParsePath.l2 (k + 1) a out (i : Int) = jsonparser_ParsePath.j6 k a out (i : Int) true := fun k => by
  rw [jsonparser_ParsePath.l2, if_pos (by omega), if_pos (by omega), h.bt]
  rfl
 refine okI.step h1 ?_
 rw [ptL_succ, paL, if_neg zq23, if_pos rfl]
 simp only [List.length_cons] at hn ho
 cases hq : brL t with
 | none =>
  have hev : Ev (fun k => jsonparser_parseBracketPathComponent.f k a (i : Int)) (⟨#[]⟩, 0, some 0) := ⟨a.size + 20, fun k hk => (hb k hk).2 hq⟩
  refine okI.step (f := fun k => (jsonparser_parseBracketPathComponent.f k a (i : Int)).bind fun bt121 => (if bt121.2.2.isNone = true then (if out.length < 8796093022208 then (jsonparser_ParsePath.l2 k a (out ++ [bt121.1]) bt121.2.1) else (none)) else (some (([] : List ByteArray), some (bt121.2.2.getD 0))))) (fun k => by rw [jsonparser_ParsePath.j6, if_pos rfl]) ?_
  exact okI.bind hev (okI.congr (fun k => if_neg (by simp)) (okI.no 0))
 | some q =>
  obtain ⟨x, r⟩ := q
  have hpl : paL (91 :: t) = some (91 :: x ++ [93], r) := by
   rw [paL, if_neg zq23, if_pos rfl, hq]
   rfl
  have hrl := paL_len hpl
  simp only [List.length_cons] at hrl
  have hev : Ev (fun k => jsonparser_parseBracketPathComponent.f k a (i : Int)) (strOfNums (91 :: x ++ [93]), ((i + x.length + 2 : Nat) : Int), none) := ⟨a.size + 20, fun k hk => ((hb k hk).1 x r hq).1⟩
  have hF := ((hb _ (Nat.le_refl _)).1 x r hq).2
  rw [Option.map_some, Option.bind_some]
  refine okI.cons ?_
  refine okI.step (f := fun k => (jsonparser_parseBracketPathComponent.f k a (i : Int)).bind fun bt121 => (if bt121.2.2.isNone = true then (if out.length < 8796093022208 then (jsonparser_ParsePath.l2 k a (out ++ [bt121.1]) bt121.2.1) else (none)) else (some (([] : List ByteArray), some (bt121.2.2.getD 0))))) (fun k => by rw [jsonparser_ParsePath.j6, if_pos rfl]) ?_
  refine okI.bind hev (okI.congr (f := fun k => jsonparser_ParsePath.l2 k a (out ++ [strOfNums (91 :: x ++ [93])]) ((i + x.length + 2 : Nat) : Int)) (fun k => by rw [if_pos (by rfl), if_pos (by omega)]) ?_)
  exact hT _ r _ hF (fun _ => by simp) (by omega) zq29
theorem pi_eq : ∀ n : Nat, PI a n ∧ PT a n
 | 0 => ⟨fun _ l _ _ _ h _ => by omega, fun _ r _ _ _ h _ => by omega⟩
 | n + 1 => by
  obtain ⟨_, hT⟩ := pi_eq n
  have hI : PI a (n + 1) := by
   intro i l out h hne hn ho
   match l, h, hne, hn, ho with
   | c :: t, h, _, hn, ho =>
    have hlt := h.lt
    have hst : ∀ k, jsonparser_ParsePath.l0 (k + 1) a out (i : Int) = (if c = 46 then (some (([] : List ByteArray), some 1)) else (if c = 34 then ((jsonparser_parseQuotedPathKey.f k a (i : Int)).bind fun bt111 => (if bt111.2.2.isNone = true then (if out.length < 8796093022208 then (jsonparser_ParsePath.j4 k a (out ++ [bt111.1]) bt111.2.1) else (none)) else (some (([] : List ByteArray), some (bt111.2.2.getD 0))))) else (if c = 91 then (jsonparser_ParsePath.j4 k a out (i : Int)) else (jsonparser_ParsePath.l1 k a out (i : Int) (i : Int))))) := fun k => by
     rw [jsonparser_ParsePath.l0, if_pos (by omega), if_pos (by omega), h.bt]
    have hj4 : ∀ (o2 : List ByteArray) (p : Int), ∀ k, jsonparser_ParsePath.j4 (k + 1) a o2 p = jsonparser_ParsePath.l2 k a o2 p := fun o2 p k => by rw [jsonparser_ParsePath.j4]
    by_cases h91 : c = 91
    ·subst h91
     exact okI.step (fun k => (hst k).trans ((if_neg zq23).trans ((if_neg zq23).trans (if_pos rfl)))) (okI.step (g := fun k => jsonparser_ParsePath.j4 k a out (i : Int)) (hj4 _ _) (pb_step hs hT h hn ho))
    rw [ptL_succ]
    simp only [List.length_cons] at hn ho
    by_cases h46 : c = 46
    ·subst h46
     have : paL (46 :: t) = none := by
      rw [paL, if_neg zq23, if_neg zq23, plL, if_pos (.inl rfl)]
      rfl
     rw [this]
     exact okI.step (fun k => (hst k).trans (if_pos rfl)) (okI.no 1)
    by_cases h34 : c = 34
    rotate_left
    ·refine okI.step (fun k => (hst k).trans ((if_neg h46).trans ((if_neg h34).trans (if_neg h91)))) ?_
     have hp := fun out' o => ip_plain hs (c :: t).length i (c :: t) i out out' o (Nat.le_refl _) h (Nat.le_refl _) (by omega)
     have hpa : paL (c :: t) = (plL (c :: t)).bind (fun x => if x.1 = [] then none else some x) := by
      rw [paL, if_neg h34, if_neg h91]
     rw [hpa]
     cases hpl : plL (c :: t) with
     | none => exact (hp [] none).2 hpl
     | some q =>
      obtain ⟨x, r⟩ := q
      obtain ⟨e, _⟩ := plL_ex _ _ _ hpl
      have hxne : x ≠ [] := by
       intro hx0
       rw [plL, if_neg (by omega)] at hpl
       split at hpl
       ·cases hpl
       obtain ⟨⟨x', r'⟩, h4, h5⟩ := Option.map_eq_some_iff.mp hpl
       cases h5
       cases hx0
      have hpos : 0 < x.length := List.length_pos_iff.mpr hxne
      have hF0 : From a i (x ++ r) := by rw [← e]; exact h
      have hrl := congrArg List.length e
      simp only [List.length_cons, List.length_append] at hrl
      rw [Option.bind_some, if_neg hxne, Option.bind_some]
      refine okI.cons ?_
      have e1 := ext_str hF0
      refine (hp _ _).1 x r hpl (by omega) ?_
      rw [e1]
      exact okI.step (hj4 _ _) (hT _ r _ hF0.app (fun _ => by simp) (by omega) zq29)
    subst h34
    have hq := pqk_eq hs h
    refine okI.step (fun k => (hst k).trans ((if_neg h46).trans (if_pos rfl))) ?_
    cases hsl : strL t with
    | none =>
     have : paL (34 :: t) = none := by
      rw [paL, if_pos rfl, hsl]
      rfl
     rw [this]
     have hev : Ev (fun k => jsonparser_parseQuotedPathKey.f k a (i : Int)) (⟨#[]⟩, 0, some 0) := ⟨a.size + 20, fun k hk => (hq k hk).2 hsl⟩
     exact okI.bind hev (okI.congr (fun k => if_neg (by simp)) (okI.no 0))
    | some r =>
     obtain ⟨b, hb, e, _⟩ := (hq _ (Nat.le_refl _)).1 r hsl
     have hbl : t.length = b.length + (r.length + 1) := by rw [e]; simp
     have htk : t.take (t.length - r.length - 1) = b := by
      rw [e, show (b ++ 34 :: r).length - r.length - 1 = b.length by simp; omega, List.take_append_of_le_length (Nat.le_refl _), List.take_length]
     have hpl : paL (34 :: t) = some (unqL b, r) := by
      rw [paL, if_pos rfl, hsl, Option.map_some, htk]
     have hev : Ev (fun k => jsonparser_parseQuotedPathKey.f k a (i : Int)) (strOfNums (unqL b), ((a.size - r.length : Nat) : Int), none) := ⟨a.size + 20, fun k hk => by
      obtain ⟨b', _, e', h'⟩ := (hq k hk).1 r hsl
      have : b' = b := List.append_cancel_right (e'.symm.trans e)
      rw [this] at h'
      exact h'⟩
     have hlen := h.len
     simp only [List.length_cons] at hlen
     have hF : From a (a.size - r.length) r := by
      have := (show From a (i + 1) (b ++ 34 :: r) by rw [← e]; exact h.tail).app.tail
      rwa [show i + 1 + b.length + 1 = a.size - r.length by omega] at this
     rw [hpl, Option.bind_some]
     refine okI.cons ?_
     refine okI.bind hev (okI.congr (f := fun k => jsonparser_ParsePath.j4 k a (out ++ [strOfNums (unqL b)]) ((a.size - r.length : Nat) : Int)) (fun k => by rw [if_pos (by rfl), if_pos (by omega)]) ?_)
     exact okI.step (hj4 _ _) (hT _ r _ hF (fun _ => by simp) (by omega) zq29)
  refine ⟨hI, ?_⟩
  intro i r out h hne hn ho
  match r, h, hne, hn, ho with
  | [], h, hne, hn, ho =>
   have hi := h.nil
   rw [tlL_nil]
   have ho2 : out.length ≠ 0 := fun e => hne rfl (List.length_eq_zero_iff.mp e)
   refine okI.step (f := fun k => jsonparser_ParsePath.j6 k a out (i : Int) false) (fun k => by rw [jsonparser_ParsePath.l2, if_neg (by omega)]) ?_
   refine okI.step (f := fun _ => some (out, none)) (fun k => by rw [jsonparser_ParsePath.j6, if_neg zq23, if_pos (by omega), if_neg (by omega)]) ?_
   show Ev _ _
   exact Ev_same (Ev.now _) (by simp)
  | c :: t, h, hne, hn, ho =>
   have hlt := h.lt
   by_cases h91 : c = 91
   ·subst h91
    rw [tlL_91]
    exact pb_step hs hT h hn ho
   have h1 : ∀ k, jsonparser_ParsePath.l2 (k + 1) a out (i : Int) = jsonparser_ParsePath.j6 k a out (i : Int) false := fun k => by
    rw [jsonparser_ParsePath.l2, if_pos (by omega), if_pos (by omega), h.bt, beq_eq_false_iff_ne.mpr h91]
   refine okI.step h1 ?_
   have h2 : ∀ k, jsonparser_ParsePath.j6 (k + 1) a out (i : Int) false = (if c = 46 then (if ((i + 1 : Nat) : Int) = (a.size : Int) then (some (([] : List ByteArray), some 1)) else (jsonparser_ParsePath.l0 k a out ((i + 1 : Nat) : Int))) else (some (([] : List ByteArray), some 1))) := fun k => by
    rw [jsonparser_ParsePath.j6, if_neg zq23, if_neg (by omega), if_pos (by omega), if_pos (by omega), h.bt, w1 hs (by omega)]
   by_cases h46 : c = 46
   rotate_left
   ·rw [tlL_no _ t h46 h91]
    exact okI.step (fun k => (h2 k).trans (if_neg h46)) (okI.no 1)
   subst h46
   rw [tlL_46]
   simp only [List.length_cons] at hn ho
   match t, h, hn, ho with
   | [], h, hn, ho =>
    have := h.tail.nil
    rw [ptL_succ]
    exact okI.step (fun k => (h2 k).trans ((if_pos rfl).trans (if_pos (by omega)))) (okI.no 1)
   | d :: u, h, hn, ho =>
    have := h.tail.lt
    exact okI.step (fun k => (h2 k).trans ((if_pos rfl).trans (if_neg (by omega)))) (hI _ (d :: u) out h.tail (by simp) (by omega) (by omega))
theorem zz_l1 (b : ByteArray) (hb : b.size = 1) : ∀ (n i : Nat) (l : List Int) (c : Nat), l.length ≤ n → From a i l → c ≤ i → ∃ m : Nat, m ≤ a.size ∧ Ev (fun k => jsonparser_zzCount.l1 k a b (c : Int) (i : Int)) (m : Int)
 | n, i, [], c, _, h, hc => by
  have hi := h.nil
  refine ⟨c, by omega, Ev.step (f := fun _ => some (c : Int)) (fun k => ?_) (Ev.now _)⟩
  rw [jsonparser_zzCount.l1, if_neg (by rw [hb, w64 (by omega)]; omega)]
 | 0, i, d :: t, c, hn, _, _ => by simp at hn
 | n + 1, i, d :: t, c, hn, h, hc => by
  simp only [List.length_cons] at hn
  have hlt := h.lt
  have e1 : wrap64 ((i : Int) + (b.size : Int)) = ((i + 1 : Nat) : Int) := by rw [hb, w64 (by omega)]; omega
  by_cases hq : (a.extract i (i + 1)).toList = b.toList
  rotate_left
  ·obtain ⟨m, hm, hev⟩ := zz_l1 b hb n (i + 1) t c (by omega) h.tail (by omega)
   refine ⟨m, hm, Ev.step (fun k => ?_) hev⟩
   rw [jsonparser_zzCount.l1, e1, if_pos (by omega), if_pos (by omega), if_pos (by omega), Int.toNat_natCast, Int.toNat_natCast, if_neg hq, w1 hs (by omega)]
  obtain ⟨m, hm, hev⟩ := zz_l1 b hb n (i + 1) t (c + 1) (by omega) h.tail (by omega)
  refine ⟨m, hm, Ev.step (fun k => ?_) hev⟩
  rw [jsonparser_zzCount.l1, e1, if_pos (by omega), if_pos (by omega), if_pos (by omega), Int.toNat_natCast, Int.toNat_natCast, if_pos hq, w1 hs (by omega)]
theorem zz_eq (b : ByteArray) (hb : b.size = 1) : ∃ m : Nat, m ≤ a.size ∧ Ev (fun k => jsonparser_zzCount.f k a b) (m : Int) := by
 obtain ⟨m, hm, hev⟩ := zz_l1 hs b hb (bytesOf a).length 0 (bytesOf a) 0 (Nat.le_refl _) (From.start a) (Nat.le_refl _)
 refine ⟨m, hm, Ev.congr (fun k => ?_) hev⟩
 unfold jsonparser_zzCount.f
 rw [if_neg (by omega)]
 rfl
theorem pj_eq {l : List Int} (hl : bytesOf a = l) (N : Nat) (hN : l.length < N) : okI (fun k => jsonparser_ParsePath.j0 k a) [] (ptL N l) := by
 have h0 : From a 0 l := by have := From.start a; rwa [hl] at this
 have hlen := h0.len
 obtain ⟨m1, hm1, e1⟩ := zz_eq hs (⟨#[46]⟩ : ByteArray) rfl
 obtain ⟨m2, hm2, e2⟩ := zz_eq hs (⟨#[91]⟩ : ByteArray) rfl
 match l, hl, h0, hlen, hN with
 | [], hl, _, _, hN =>
  obtain ⟨N, rfl⟩ : ∃ j, N = j + 1 := ⟨N - 1, by simp at hN; omega⟩
  rw [ptL_succ]
  exact okI.step (fun k => by rw [jsonparser_ParsePath.j0, if_pos ((toL_nil a).mpr hl)]) (okI.no 1)
 | c :: t, hl, h0, hlen, hN =>
  have hne : ¬ a.toList = ([] : List UInt8) := fun e => by rw [toL_nil, hl] at e; cases e
  refine okI.step (f := fun k => ((jsonparser_zzCount.f k a (⟨#[46]⟩ : ByteArray)).bind fun t106 => ((jsonparser_zzCount.f k a (⟨#[91]⟩ : ByteArray)).bind fun t107 => (if 0 ≤ (wrap64 ((wrap64 (1 + t106)) + t107)) then (if (wrap64 ((wrap64 (1 + t106)) + t107) : Int).toNat ≤ 17592186044416 then (jsonparser_ParsePath.l0 k a (([] : List ByteArray)) 0) else (none)) else (none))))) (fun k => by rw [jsonparser_ParsePath.j0, if_neg hne]) ?_
  refine okI.bind e1 (okI.bind e2 ?_)
  have ew : wrap64 (wrap64 (1 + (m1 : Int)) + (m2 : Int)) = ((1 + m1 + m2 : Nat) : Int) := by
   rw [w64 (x := 1 + (m1 : Int)) (by omega), w64 (by omega)]
   omega
  refine okI.congr (f := fun k => jsonparser_ParsePath.l0 k a [] 0) (fun k => by rw [ew, if_pos (by omega), Int.toNat_natCast, if_pos (by omega)]) ?_
  exact (pi_eq hs N).1 0 (c :: t) [] h0 (by simp) hN (by simp only [List.length_nil]; omega)
theorem hp_eq (c : UInt8) : strings_HasPrefix.f a ⟨#[36, c]⟩ = some (decide ((bytesOf a).take 2 = [36, (c.toNat : Int)])) := by
 unfold strings_HasPrefix.f stringslite_HasPrefix.f
 have hz : (⟨#[36, c]⟩ : ByteArray).size = 2 := rfl
 have hbl : (bytesOf a).length = a.size := bytesOf_length a
 rw [hz]
 by_cases h2 : 2 ≤ a.size
 rotate_left
 ·rw [if_neg (by omega), Option.bind_some, decide_eq_false]
  intro e
  have := congrArg List.length e
  rw [List.length_take] at this
  simp at this
  omega
 rw [if_pos (by omega), if_pos (by omega), if_pos (by omega), Option.bind_some, show (((2 : Nat) : Int)).toNat = 2 from rfl]
 congr 1
 have hb : bytesOf (⟨#[36, c]⟩ : ByteArray) = [36, (c.toNat : Int)] := rfl
 rw [← hb]
 have he : bytesOf (a.extract 0 2) = (bytesOf a).take 2 := by rw [bytesOf_extract, List.drop_zero]
 rw [← he]
 by_cases hq : a.extract 0 2 = ⟨#[36, c]⟩
 ·rw [hq]
  simp
 rw [decide_eq_false (fun e => hq (bytesOf_inj e)), beq_eq_false_iff_ne.mpr (fun e => hq (toList_inj e))]
theorem parsePath_eq {l : List Int} (hl : bytesOf a = l) : okI (fun k => jsonparser_ParsePath.f k a) [] (pfL l) := by
 have h0 : From a 0 l := by have := From.start a; rwa [hl] at this
 have hlen := h0.len
 have p1 := hp_eq hs 46
 have p2 := hp_eq hs 91
 rw [hl] at p1 p2
 unfold jsonparser_ParsePath.f
 by_cases h36 : l = [36]
 ·have hne : ¬ a.toList = ([] : List UInt8) := fun e => by rw [toL_nil, hl, h36] at e; cases e
  rw [h36, pfL_one]
  exact okI.congr (f := fun _ => some ([], none)) (fun k => by rw [if_neg hne, if_pos ((toL_36 a).mpr (hl.trans h36))]) (Ev.now _)
 have hn36 : ¬ a.toList = ([36] : List UInt8) := fun e => h36 (hl.symm.trans ((toL_36 a).mp e))
 match l, hl, h0, hlen, h36, p1, p2 with
 | [], hl, h0, hlen, h36, p1, p2 =>
  rw [pfL_nil, ptL_succ]
  exact okI.congr (fun k => if_pos ((toL_nil a).mpr hl)) (okI.no 0)
 | c :: t, hl, h0, hlen, h36, p1, p2 =>
  have hne : ¬ a.toList = ([] : List UInt8) := fun e => by rw [toL_nil, hl] at e; cases e
  simp only [List.length_cons] at hlen
  have hbt : bt a 0 = c := h0.bt
  by_cases hc : c = 36
  rotate_left
  ·have p1' : strings_HasPrefix.f a ⟨#[36, 46]⟩ = some false := by rw [p1, decide_eq_false (by cases t <;> simp [hc])]
   have p2' : strings_HasPrefix.f a ⟨#[36, 91]⟩ = some false := by rw [p2, decide_eq_false (by cases t <;> simp [hc])]
   rw [pfL_c t hc]
   refine okI.congr (f := fun k => jsonparser_ParsePath.j0 k a) (fun k => ?_) (pj_eq hs hl _ zq20)
   rw [if_neg hne, if_neg hn36, p1', Option.bind_some, if_neg zq23, p2', Option.bind_some, if_neg zq23, if_pos (by omega), hbt, if_neg hc]
  subst hc
  match t, hl, h0, hlen, h36, p1, p2 with
  | [], _, _, _, h36, _, _ => exact absurd rfl h36
  | d :: u, hl, h0, hlen, h36, p1, p2 =>
   simp only [List.length_cons] at hlen
   by_cases hd : d = 46
   ·subst hd
    rw [pfL_46]
    refine okI.congr (f := fun k => jsonparser_ParsePath.j0 k (a.extract 2 a.size)) (fun k => ?_) (pj_eq zq25 (ext_end h0.tail.tail) _ zq20)
    rw [if_neg hne, if_neg hn36, p1, Option.bind_some, if_pos (by rfl), if_pos (by omega)]
   have p1' : strings_HasPrefix.f a ⟨#[36, 46]⟩ = some false := by rw [p1, decide_eq_false (by simp [hd])]
   by_cases hd2 : d = 91
   rotate_left
   ·have p2' : strings_HasPrefix.f a ⟨#[36, 91]⟩ = some false := by rw [p2, decide_eq_false (by simp [hd2])]
    rw [pfL_no u hd hd2]
    exact okI.congr (fun k => by rw [if_neg hne, if_neg hn36, p1', Option.bind_some, if_neg zq23, p2', Option.bind_some, if_neg zq23, if_pos (by omega), hbt, if_pos rfl]) (okI.no 1)
   subst hd2
   rw [pfL_91]
   refine okI.congr (f := fun k => jsonparser_ParsePath.j0 k (a.extract 1 a.size)) (fun k => ?_) (pj_eq zq25 (ext_end h0.tail) _ zq20)
   rw [if_neg hne, if_neg hn36, p1', Option.bind_some, if_neg zq23, p2, Option.bind_some, if_pos (by rfl), if_pos (by omega)]
theorem jqPath_eq {l : List Int} (hl : bytesOf a = l) : Ev (fun k => impl_JqParsePath.f k a) (resS [] (pfL l)) := by
 have h := parsePath_eq hs hl
 unfold impl_JqParsePath.f
 cases hp : pfL l with
 | some ps =>
  rw [hp] at h
  exact Ev.bind h (Ev.congr (fun k => if_pos (by rfl)) (Ev.now _))
 | none =>
  rw [hp] at h
  obtain ⟨e, h⟩ := h
  exact Ev.bind h (Ev.congr (fun k => if_neg (by simp)) (Ev.now _))
end
end Go.Proofs.YtafbdpdbagkbgaaDoor.J
end
section
namespace Go.Proofs.YtafbdpdbagkbgaaDoor.Pure
open Go.RowKit Go.Proofs.YtafbdpdbagkbgaaDoor.Q Go.Proofs.YtafbdpdbagkbgaaDoor.J Go.Proofs.YtafbdpdbagkbgaaDoorW.PrintWords Go.Proofs.YtafbdpdbagkbgaaDoorW.PrintLast
set_option linter.unusedVariables false
set_option linter.unusedSimpArgs false
theorem ptL_length : ∀ (n : Nat) (l : List Int) (ps : List (List Int)), ptL n l = some ps → ps.length ≤ n
 | 0, l, ps, h => by rw [ptL] at h; cases h
 | n + 1, l, ps, h => by
  rw [ptL_succ] at h
  obtain ⟨⟨x, r⟩, _, h2⟩ := Option.bind_eq_some_iff.mp h
  obtain ⟨ps', h3, rfl⟩ := Option.map_eq_some_iff.mp h2
  simp only at h3
  rw [List.length_cons]
  have : ps'.length ≤ n := by
   match r, h3 with
   | [], h3 =>
    rw [tlL_nil] at h3
    cases h3
    exact Nat.zero_le _
   | c :: t, h3 =>
    by_cases h46 : c = 46
    ·subst h46
     rw [tlL_46] at h3
     exact ptL_length n _ _ h3
    by_cases h91 : c = 91
    ·subst h91
     rw [tlL_91] at h3
     exact ptL_length n _ _ h3
    rw [tlL_no n t h46 h91] at h3
    cases h3
  omega
theorem pfL_length {l : List Int} {ps : List (List Int)} (h : pfL l = some ps) : ps.length ≤ l.length + 1 := by
 unfold pfL at h
 split at h
 ·cases h
  simp
 split at h
 ·split at h
  ·exact ptL_length _ _ _ h
  split at h
  ·exact ptL_length _ _ _ h
  ·cases h
 ·exact ptL_length _ _ _ h
theorem same_l0 (xs : List ByteArray) (hx : xs.length ≤ 4294967296) : ∀ (m i : Nat), xs.length ≤ i + m → i ≤ xs.length → Ev (fun k => laws_sameStrings.l0 k xs xs (i : Int)) true
 | 0, i, h, hi => Ev.step (f := fun _ => some true) (fun k => by rw [laws_sameStrings.l0, if_neg (by omega)]) (Ev.now _)
 | m + 1, i, h, hi => by
  by_cases hlt : i < xs.length
  rotate_left
  ·exact Ev.step (f := fun _ => some true) (fun k => by rw [laws_sameStrings.l0, if_neg (by omega)]) (Ev.now _)
  refine Ev.step (fun k => ?_) (same_l0 xs hx m (i + 1) (by omega) (by omega))
  rw [laws_sameStrings.l0, if_pos (by omega), if_pos (by omega), if_pos (by omega), if_pos rfl, w64 (by omega), show (i : Int) + 1 = ((i + 1 : Nat) : Int) by omega]
theorem same_eq (xs : List ByteArray) (hx : xs.length ≤ 4294967296) : Ev (fun k => laws_sameStrings.f k xs xs) true := by
 unfold laws_sameStrings.f
 exact Ev.congr (fun k => if_pos rfl) (same_l0 xs hx xs.length 0 (by omega) (by omega))
theorem pfL_a : pfL [97] = some [[97]] := by
 rw [pfL_c [] zq23, ptL_succ, paL, if_neg zq23, if_neg zq23, plL, if_neg zq23, if_neg zq23, plL]
 rfl
theorem FnJqParsePath : laws_FnJqParsePath.Pure := by
 intro a0 h0
 unfold laws_FnJqParsePath.f
 by_cases h1 : (a0.size : Int) > 2147483647
 ·exact ⟨0, by rw [if_pos h1]⟩
 by_cases h2 : (a0.size : Int) > 1000
 ·exact ⟨0, by rw [if_neg h1, if_pos h2]⟩
 have hs : a0.size ≤ 2147483647 := by omega
 have e1 := pathParts_eq (a := a0) rfl hs
 have e2 := jqPath_eq (a := a0) hs rfl
 have e3 := jqPath_eq (a := (⟨#[97]⟩ : ByteArray)) zq23 (l := [97]) rfl
 rw [pfL_a] at e3
 refine Ev.rounds (Ev.congr (fun k => (if_neg h1).trans (if_neg h2)) (Ev.bind e1 (Ev.bind e2 (Ev.bind e3 ?_))))
 refine Ev.congr (f := fun k => if (resS [] (pfL (bytesOf a0))).2 = true then ((laws_sameStrings.f k (resS [] (pfL (bytesOf a0))).1 (resS [] (pfL (bytesOf a0))).1).bind fun t113 => (some t113)) else some true) (fun k => ?_) ?_
 ·rw [if_pos (by rfl), if_pos (by simp)]
 cases hp : pfL (bytesOf a0) with
 | none => exact Ev.congr (fun k => if_neg (show ¬ (false = true) by decide)) (Ev.now _)
 | some ps =>
  have hl := pfL_length hp
  rw [bytesOf_length] at hl
  refine Ev.congr (fun k => if_pos (by rfl)) (Ev.bind (same_eq _ ?_) (Ev.now _))
  show ([] ++ ps.map strOfNums).length ≤ 4294967296
  rw [List.nil_append, List.length_map]
  omega
end Go.Proofs.YtafbdpdbagkbgaaDoor.Pure
end
