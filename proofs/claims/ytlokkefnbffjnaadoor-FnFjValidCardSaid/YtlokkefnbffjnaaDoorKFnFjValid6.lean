/- The words, walks and laws that the proof rests on, laid together (part 6). -/
import Derived.Test.YtlokkefnbffjnaaDoorKFnFjValid5
section
namespace Go.Proofs.YtlokkefnbffjnaaDoor.J
open Go.RowKit Go.Proofs.YtlokkefnbffjnaaDoor.J Go.Proofs.YtlokkefnbffjnaaDoorW.PrintWords Go.Proofs.YtlokkefnbffjnaaDoorW.PrintLast
set_option linter.unusedVariables false
def valF : List Int → Option (List Int)
  | [] => none
  | c :: r => if c = 123 then objL r else if c = 91 then arrL r else if c = 34 then strL r else if c = 116 then wordL trueW (c :: r) else if c = 102 then wordL falseW (c :: r) else if c = 110 then wordL nullW (c :: r) else numV (c :: r)
theorem intV_intL (l : List Int) : intV l = intL l ∨ (intV l = none ∧ ∃ d u, intL l = some (d :: u) ∧ isD d = true) := by
 unfold intV
 by_cases h : zeroD l = true
 rotate_left
 ·rw [if_neg h]
  exact .inl rfl
 rw [if_pos h]
 unfold zeroD at h
 split at h
 ·rename_i c d u
  simp only [Bool.and_eq_true, decide_eq_true_eq] at h
  obtain ⟨rfl, hd⟩ := h
  refine .inr ⟨rfl, d, u, ?_, hd⟩
  unfold isD at hd
  simp only [decide_eq_true_eq] at hd
  rw [intL, if_pos rfl, fracL, if_neg (by omega), expL_other (by omega)]
 ·cases h
theorem valF_valL (l : List Int) : valF l = valL l ∨ (valF l = none ∧ ∃ d u, valL l = some (d :: u) ∧ isD d = true) := by
 match l with
 | [] => left; rw [valL]; rfl
 | c :: r =>
  rw [valL.eq_def]
  simp only [valF]
  by_cases h1 : c = 123
  ·simp only [if_pos h1]; exact .inl trivial
  simp only [if_neg h1]
  by_cases h2 : c = 91
  ·simp only [if_pos h2]; exact .inl trivial
  simp only [if_neg h2]
  by_cases h3 : c = 34
  ·simp only [if_pos h3]; exact .inl trivial
  simp only [if_neg h3]
  by_cases h4 : c = 45
  ·subst h4
   simp only [show ¬ (45 : Int) = 116 by decide, show ¬ (45 : Int) = 102 by decide, show ¬ (45 : Int) = 110 by decide, if_false, true_or, if_true, numV, numL]
   exact intV_intL r
  by_cases h5 : isD c = true
  ·have h5' := h5
   unfold isD at h5'
   simp only [decide_eq_true_eq] at h5'
   rw [if_neg (show ¬ c = 116 by omega), if_neg (show ¬ c = 102 by omega), if_neg (show ¬ c = 110 by omega), if_pos (show c = 45 ∨ isD c = true from .inr h5), numV, numL, if_neg h4, if_neg h4]
   exact intV_intL _
  rw [if_neg (show ¬ (c = 45 ∨ isD c = true) from fun e => e.elim h4 h5)]
  by_cases h6 : c = 116
  ·subst h6
   simp only [show ¬ (116 : Int) = 110 by decide, show ¬ (116 : Int) = 102 by decide, if_true, if_false]
   exact .inl trivial
  by_cases h7 : c = 102
  ·subst h7
   simp only [show ¬ (102 : Int) = 110 by decide, show ¬ (102 : Int) = 116 by decide, if_true, if_false]
   exact .inl trivial
  by_cases h8 : c = 110
  ·subst h8
   simp only [show ¬ (110 : Int) = 102 by decide, show ¬ (110 : Int) = 116 by decide, if_true, if_false]
   exact .inl trivial
  simp only [if_neg h6, if_neg h7, if_neg h8]
  left
  have hz : ¬ zeroD (c :: r) = true := by
   have : ¬ c = 48 := by intro e; subst e; exact h5 zq49
   cases r <;> simp [zeroD, this]
  have h48 : ¬ c = 48 := by intro e; subst e; exact h5 zq49
  rw [numV, if_neg h4, intV, if_neg hz, intL, if_neg h48, if_neg h5]
theorem valF_some {l r : List Int} (h : valF l = some r) : valL l = some r := by
 rcases valF_valL l with e | ⟨e, _⟩
 ·rw [← e, h]
 ·rw [e] at h; cases h
theorem arrL_nil {l : List Int} (h : skB l = []) : arrL l = none := by
 rw [arrL]
 split <;> rename_i e
 ·rfl
 ·rw [h] at e; cases e
theorem arrL_cons {l r : List Int} {c : Int} (h : skB l = c :: r) : arrL l = if c = 93 then some r else elsL (c :: r) := by
 rw [arrL]
 split <;> rename_i e
 ·rw [h] at e; cases e
 ·rw [h] at e; cases e; rfl
theorem objL_nil {l : List Int} (h : skB l = []) : objL l = none := by
 rw [objL]
 split <;> rename_i e
 ·rfl
 ·rw [h] at e; cases e
theorem objL_cons {l r : List Int} {c : Int} (h : skB l = c :: r) : objL l = if c = 125 then some r else memL (c :: r) := by
 rw [objL]
 split <;> rename_i e
 ·rw [h] at e; cases e
 ·rw [h] at e; cases e; rfl
def aftA (t : List Int) : Option (List Int) := match skB t with
  | [] => none
  | c :: u => if c = 93 then some u else if c = 44 then elsL (skB u) else none
theorem aftA_dig {d : Int} {u : List Int} (h : isD d = true) : aftA (d :: u) = none := by
 unfold isD at h
 simp only [decide_eq_true_eq] at h
 unfold aftA
 rw [skB_no (by simp [isB]; omega)]
 simp only
 rw [if_neg (by omega), if_neg (by omega)]
theorem elsL_aft (l : List Int) : elsL l = (valL l).bind aftA := by
 rw [elsL]
 cases h : valL l with
 | none => rfl
 | some t =>
  simp only [Option.bind_some, if_pos (valL_len h)]
  unfold aftA
  split <;> rename_i e <;> simp only [e]
theorem elsL_F (l : List Int) : elsL l = (valF l).bind aftA := by
 rw [elsL_aft]
 rcases valF_valL l with e | ⟨e, d, u, e2, hd⟩
 ·rw [e]
 ·rw [e, e2, Option.bind_some, aftA_dig hd]
  rfl
def aftO (v : List Int) : Option (List Int) := match skB v with
  | [] => none
  | e :: x => if e = 125 then some x else if e = 44 then memL (skB x) else none
theorem aftO_dig {d : Int} {u : List Int} (h : isD d = true) : aftO (d :: u) = none := by
 unfold isD at h
 simp only [decide_eq_true_eq] at h
 unfold aftO
 rw [skB_no (by simp [isB]; omega)]
 simp only
 rw [if_neg (by omega), if_neg (by omega)]
def aftK (t : List Int) : Option (List Int) := match skB t with
  | [] => none
  | d :: u => if d = 58 then (valF (skB u)).bind aftO else none
theorem memL_F (r : List Int) : memL (34 :: r) = (strL r).bind aftK := by
 rw [memL.eq_def]
 simp only [if_true]
 split
 ·rename_i h1
  rw [h1]
  rfl
 ·rename_i t h1
  rw [h1, Option.bind_some]
  have k1 := strL_len _ _ _ (Nat.le_refl _) h1
  unfold aftK
  have k2 := skB_len t
  split
  ·rename_i h2
   simp only [h2]
  ·rename_i d u h2
   rw [h2] at k2
   simp only [List.length_cons] at k2
   simp only [h2]
   by_cases h58 : d = 58
   rotate_left
   ·rw [if_neg h58, if_neg h58]
   rw [if_pos h58, if_pos h58]
   have hV : (match valL (skB u) with
    | none => none
    | some v => if v.length ≤ r.length then (match _h3 : skB v with
     | [] => none
     | e :: x => if e = 125 then some x else if e = 44 then memL (skB x) else none) else none) = (valL (skB u)).bind aftO := by
    cases h3 : valL (skB u) with
    | none => rfl
    | some v =>
     have k3 := valL_len h3
     have k4 := skB_len u
     simp only [Option.bind_some, if_pos (show v.length ≤ r.length by omega)]
     unfold aftO
     split <;> rename_i e <;> simp only [e]
   refine hV.trans ?_
   rcases valF_valL (skB u) with e | ⟨e, d', u', e2, hd⟩
   ·rw [e]
   ·rw [e, e2, Option.bind_some, aftO_dig hd]
    rfl
theorem suf_std {s : ByteArray} {l r : List Int} (h : Suf s l) (hs : stdy false (bytesOf s) = true) : stdy false l = true := by
 have := h.2
 have e : bytesOf s = (bytesOf s).take (s.size - l.length) ++ l := by
  conv => lhs; rw [← List.take_append_drop (s.size - l.length) (bytesOf s)]
  rw [this]
 rw [e] at hs
 exact stdy_app _ _ _ hs
theorem val_std {s : ByteArray} (hs : s.size ≤ 2147483647) {r : List Int} (h : stdy false (bytesOf s) = true) (e : valF (bytesOf s) = some r) : stdy false r = true ∧ r.length < s.size := by
 have h1 := valF_some e
 obtain ⟨p, _, hS, _⟩ := (reader_all hs _ _ (Nat.le_refl _) (Suf.start s)).1.1 r h1
 have := valL_len h1
 rw [bytesOf_length] at this
 exact ⟨suf_std (r := r) hS h, this⟩
theorem skB_std {l : List Int} (h : stdy false l = true) : stdy false (skB l) = true := by
 obtain ⟨b, _, e⟩ := skB_ex l
 rw [e] at h
 exact stdy_app _ _ _ h
theorem scanV {z y : ByteArray} (hz : z.size ≤ 2147483647) : ∀ (l p : List Int), bytesOf z = p ++ l → (anyLow l = false → Ev (fun k => fastjson_validateValue.l0 k z y (z.size : Int) (p.length : Int)) (y, none)) ∧ (anyLow l = true → ∃ q, Ev (fun k => fastjson_validateValue.l0 k z y (z.size : Int) (p.length : Int)) (y, some q)) := by
 intro l
 induction l with
 | nil =>
  intro p hp
  have h1 := sz_of hp
  simp only [List.length_append, List.length_nil] at h1
  refine ⟨fun _ => Ev_sh ?_, fun h => by simp [anyLow] at h⟩
  simp only [fastjson_validateValue.l0]
  exact Ev.congr (fun _ => if_neg (by omega)) (Ev.now _)
 | cons c r ih =>
  intro p hp
  have h1 := sz_of hp
  simp only [List.length_append, List.length_cons] at h1
  have hbt : bt z (p.length : Int) = c := bt_mid hp
  have hw : wrap64 ((p.length : Int) + 1) = (((p ++ [c]).length : Nat) : Int) := by rw [w64 (by omega)]; simp
  have hI := ih (p ++ [c]) (by rw [hp]; simp)
  by_cases hc : c < 32
  ·have e : anyLow (c :: r) = true := by simp [anyLow, hc]
   refine ⟨fun h => (by rw [e] at h; cases h), fun _ => ⟨0, Ev_sh ?_⟩⟩
   simp only [fastjson_validateValue.l0, hbt, errors_New.f, Option.bind_some]
   exact Ev.congr (fun _ => if_pos (by omega)) (Ev.congr (fun _ => if_pos (by omega)) (Ev.congr (fun _ => if_pos (by omega)) (Ev.congr (fun _ => if_pos hc) (Ev.now _))))
  have e : anyLow (c :: r) = anyLow r := by simp [anyLow, hc]
  rw [e]
  refine ⟨fun h => Ev_sh ?_, fun h => ?_⟩
  ·simp only [fastjson_validateValue.l0, hbt, hw]
   exact Ev.congr (fun _ => if_pos (by omega)) (Ev.congr (fun _ => if_pos (by omega)) (Ev.congr (fun _ => if_pos (by omega)) (Ev.congr (fun _ => if_neg hc) (hI.1 h))))
  ·obtain ⟨q, hq⟩ := hI.2 h
   refine ⟨q, Ev_sh ?_⟩
   simp only [fastjson_validateValue.l0, hbt, hw]
   exact Ev.congr (fun _ => if_pos (by omega)) (Ev.congr (fun _ => if_pos (by omega)) (Ev.congr (fun _ => if_pos (by omega)) (Ev.congr (fun _ => if_neg hc) hq)))
theorem scanO {z y : ByteArray} (hz : z.size ≤ 2147483647) {o : Option (List Int)} (hgo : Tl (fun k => (fastjson_skipWS.f k y).bind fun t145 => (if (t145.size : Int) = 0 then (fastjson_validateObject.j3 k t145 true) else (if 0 < (t145.size : Int) then (fastjson_validateObject.j3 k t145 ((bt t145 0) != 58)) else (none)))) o) :
 ∀ (l p : List Int), bytesOf z = p ++ l → Tl (fun k => fastjson_validateObject.l1 k y z (z.size : Int) (p.length : Int)) (if anyLow l = true then none else o) := by
 intro l
 induction l with
 | nil =>
  intro p hp
  have h1 := sz_of hp
  simp only [List.length_append, List.length_nil] at h1
  refine Tl.sh ?_
  simp only [fastjson_validateObject.l1]
  exact Tl.congr (fun _ => if_neg (by omega)) hgo
 | cons c r ih =>
  intro p hp
  have h1 := sz_of hp
  simp only [List.length_append, List.length_cons] at h1
  have hbt : bt z (p.length : Int) = c := bt_mid hp
  have hw : wrap64 ((p.length : Int) + 1) = (((p ++ [c]).length : Nat) : Int) := by rw [w64 (by omega)]; simp
  have hI := ih (p ++ [c]) (by rw [hp]; simp)
  refine Tl.sh ?_
  by_cases hc : c < 32
  rotate_left
  ·have e : anyLow (c :: r) = anyLow r := by simp [anyLow, hc]
   rw [e]
   simp only [fastjson_validateObject.l1, hbt, hw]
   exact Tl.congr (fun _ => if_pos (by omega)) (Tl.congr (fun _ => if_pos (by omega)) (Tl.congr (fun _ => if_pos (by omega)) (Tl.congr (fun _ => if_neg hc) hI)))
  have e : anyLow (c :: r) = true := by simp [anyLow, hc]
  rw [if_pos e]
  simp only [fastjson_validateObject.l1, hbt, errors_New.f, Option.bind_some]
  exact Tl.congr (fun _ => if_pos (by omega)) (Tl.congr (fun _ => if_pos (by omega)) (Tl.congr (fun _ => if_pos (by omega)) (Tl.congr (fun _ => if_pos hc) (Tl.err (fun _ => rfl)))))
theorem ST.str {g : Nat → Option (ByteArray × ByteArray × Option Int)} {l : List Int} (h : ST g (rawL l)) (hs : stdy false l = true) :
 (∀ t, strL l = some t → ∃ z y, anyLow (bytesOf z) = false ∧ z.size ≤ 2147483647 ∧ bytesOf y = t ∧ Ev g (z, y, none)) ∧
 (strL l = none → (∃ z y q, Ev g (z, y, some q)) ∨ ∃ z y, anyLow (bytesOf z) = true ∧ z.size ≤ 2147483647 ∧ Ev g (z, y, none)) := by
 have e := steady_str _ l false (Nat.le_refl _) hs
 simp only [Bool.false_eq_true, if_false] at e
 rw [← e]
 unfold fjS
 unfold ST at h
 cases hr : rawL l with
 | none =>
  rw [hr] at h
  exact ⟨fun t ht => (by cases ht), fun _ => .inl h⟩
 | some x =>
  obtain ⟨raw, tail⟩ := x
  rw [hr] at h
  simp only [Option.bind_some] at h ⊢
  cases hl : lowS false raw with
  | none =>
   rw [hl] at h
   exact ⟨fun t ht => (by cases ht), fun _ => .inl h⟩
  | some b =>
   rw [hl] at h
   obtain ⟨z, y, ⟨h1, h2⟩, h3, h4⟩ := h
   cases b with
   | false => exact ⟨fun t ht => (by cases ht; exact ⟨z, y, h1, h2, h3, h4⟩), fun ht => (by cases ht)⟩
   | true => exact ⟨fun t ht => (by cases ht), fun _ => .inr ⟨z, y, h1, h2, h4⟩⟩
theorem ws_of {s : ByteArray} (hs : s.size ≤ 2147483647) (h : stdy false (bytesOf s) = true) : ∃ t, Ev (fun k => fastjson_skipWS.f k s) t ∧ bytesOf t = skB (bytesOf s) ∧ t.size ≤ s.size ∧ stdy false (bytesOf t) = true := by
 obtain ⟨t, h1, h2⟩ := ws_eq hs
 refine ⟨t, h1, h2, ?_, by rw [h2]; exact skB_std h⟩
 have := skB_len (bytesOf s)
 have h3 := sz_of h2
 rw [bytesOf_length] at this
 omega
theorem Tl.bind {g : Nat → Option ByteArray} {f : Nat → ByteArray → Option (ByteArray × Option Int)} {o : Option (List Int)} {t : ByteArray} (h : Ev g t) (k : Tl (fun k => f k t) o) : Tl (fun k => (g k).bind (f k)) o := by
 cases o with
 | none => obtain ⟨z, q, hz⟩ := k; exact ⟨z, q, Ev.bind h hz⟩
 | some r => obtain ⟨z, hy, hz⟩ := k; exact ⟨z, hy, Ev.bind h hz⟩
theorem Tl.bind2 {g : Nat → Option (ByteArray × Option Int)} {f : Nat → ByteArray × Option Int → Option (ByteArray × Option Int)} {o : Option (List Int)} {t : ByteArray × Option Int} (h : Ev g t) (k : Tl (fun k => f k t) o) : Tl (fun k => (g k).bind (f k)) o := by
 cases o with
 | none => obtain ⟨z, q, hz⟩ := k; exact ⟨z, q, Ev.bind h hz⟩
 | some r => obtain ⟨z, hy, hz⟩ := k; exact ⟨z, hy, Ev.bind h hz⟩
theorem Tl.bind3 {g : Nat → Option (ByteArray × ByteArray × Option Int)} {f : Nat → ByteArray × ByteArray × Option Int → Option (ByteArray × Option Int)} {o : Option (List Int)} {t : ByteArray × ByteArray × Option Int} (h : Ev g t) (k : Tl (fun k => f k t) o) : Tl (fun k => (g k).bind (f k)) o := by
 cases o with
 | none => obtain ⟨z, q, hz⟩ := k; exact ⟨z, q, Ev.bind h hz⟩
 | some r => obtain ⟨z, hy, hz⟩ := k; exact ⟨z, hy, Ev.bind h hz⟩
def OK (n : Nat) (s : ByteArray) : Prop := s.size ≤ n ∧ s.size ≤ 2147483647 ∧ stdy false (bytesOf s) = true
def VV (s : ByteArray) : Prop := Tl (fun k => fastjson_validateValue.f k s) (valF (bytesOf s))
def AV (s : ByteArray) : Prop := Tl (fun k => fastjson_validateArray.f k s) (arrL (bytesOf s))
def OV (s : ByteArray) : Prop := Tl (fun k => fastjson_validateObject.f k s) (objL (bytesOf s))
theorem arr_loop {n : Nat} (hV : ∀ s, OK n s → VV s) : ∀ (m : Nat) (s : ByteArray), OK m s → m ≤ n → Tl (fun k => fastjson_validateArray.l0 k s) (elsL (skB (bytesOf s))) := by
 intro m
 induction m with
 | zero =>
  intro s hs hm
  obtain ⟨h1, h2, h3⟩ := hs
  have e : bytesOf s = [] := List.length_eq_zero_iff.mp (by rw [bytesOf_length]; omega)
  obtain ⟨t, k1, k2, k3, k4⟩ := ws_of h2 h3
  have hv := hV t ⟨by omega, by omega, k4⟩
  unfold VV at hv
  rw [k2, e] at hv
  rw [e]
  obtain ⟨z, q, hz⟩ := hv
  rw [elsL_F]
  refine Tl.sh ?_
  simp only [fastjson_validateArray.l0, errors_New.f, Option.bind_some]
  exact Tl.bind k1 (Tl.bind2 hz (Tl.congr (fun _ => if_neg (by simp)) (Tl.err (fun _ => rfl))))
 | succ m ih =>
  intro s hs hm
  obtain ⟨h1, h2, h3⟩ := hs
  obtain ⟨t, k1, k2, k3, k4⟩ := ws_of h2 h3
  have hv := hV t ⟨by omega, by omega, k4⟩
  rw [← k2, elsL_F]
  unfold VV at hv
  refine Tl.sh ?_
  simp only [fastjson_validateArray.l0, errors_New.f, Option.bind_some]
  cases hr : valF (bytesOf t) with
  | none =>
   rw [hr] at hv
   obtain ⟨z, q, hz⟩ := hv
   exact Tl.bind k1 (Tl.bind2 hz (Tl.congr (fun _ => if_neg (by simp)) (Tl.err (fun _ => rfl))))
  | some r =>
   rw [hr] at hv
   obtain ⟨z, hy, hz⟩ := hv
   obtain ⟨g1, g2⟩ := val_std (by omega) k4 hr
   have hzz := sz_of hy
   obtain ⟨t', j1, j2, j3, j4⟩ := ws_of (s := z) (by omega) (by rw [hy]; exact g1)
   refine Tl.bind k1 (Tl.bind2 hz (Tl.congr (fun _ => if_pos (by simp)) (Tl.bind j1 ?_)))
   rw [Option.bind_some]
   unfold aftA
   rw [← hy, ← j2]
   have hz' := sz_of (s := t') rfl
   match ht : bytesOf t' with
   | [] =>
    rw [ht] at hz'
    simp only [List.length_nil] at hz'
    exact Tl.congr (fun _ => if_pos (by omega)) (Tl.err (fun _ => rfl))
   | c :: u =>
    rw [ht] at hz'
    simp only [List.length_cons] at hz'
    have hb := bt_of ht
    have hcut := cut1 ht
    have hsz := sz_of hcut
    simp only
    rw [hb]
    refine Tl.congr (fun _ => if_neg (by omega)) (Tl.congr (fun _ => if_pos (by omega)) ?_)
    by_cases e1 : c = 44
    ·refine Tl.congr (fun _ => if_pos e1) (Tl.congr (fun _ => if_pos (by omega)) ?_)
     rw [if_neg (show ¬ c = 93 by omega), if_pos e1, ← hcut]
     refine ih (t'.extract 1 t'.size) ⟨by omega, by omega, ?_⟩ (by omega)
     rw [hcut]
     rw [ht] at j4
     exact stdy_app [c] u _ j4
    refine Tl.congr (fun _ => if_neg e1) ?_
    by_cases e2 : c = 93
    rotate_left
    ·refine Tl.congr (fun _ => if_neg e2) ?_
     rw [if_neg e2, if_neg e1]
     exact Tl.err (fun _ => rfl)
    refine Tl.congr (fun _ => if_pos e2) (Tl.congr (fun _ => if_pos (by omega)) ?_)
    rw [if_pos e2]
    exact Tl.ok hcut (fun _ => rfl)
theorem arr_eq {n : Nat} (hV : ∀ s, OK n s → VV s) : ∀ s, OK n s → AV s := by
 intro s hs
 obtain ⟨h1, h2, h3⟩ := hs
 obtain ⟨t, k1, k2, k3, k4⟩ := ws_of h2 h3
 unfold AV
 have hl := arr_loop hV t.size t ⟨Nat.le_refl _, by omega, k4⟩ (by omega)
 rw [k2, skB_skB] at hl
 refine Tl.sh ?_
 simp only [fastjson_validateArray.f, errors_New.f, Option.bind_some]
 refine Tl.bind k1 ?_
 have hz := sz_of k2
 match e : skB (bytesOf s) with
 | [] =>
  rw [e] at hz
  simp only [List.length_nil] at hz
  rw [arrL_nil e]
  exact Tl.congr (fun _ => if_pos (by omega)) (Tl.err (fun _ => rfl))
 | c :: r =>
  rw [e] at hz k2 hl
  simp only [List.length_cons] at hz
  rw [arrL_cons e]
  have hb := bt_of k2
  have hcut := cut1 k2
  rw [hb]
  refine Tl.congr (fun _ => if_neg (by omega)) (Tl.congr (fun _ => if_pos (by omega)) ?_)
  by_cases e1 : c = 93
  rotate_left
  ·refine Tl.congr (fun _ => if_neg e1) ?_
   rw [if_neg e1]
   exact hl
  refine Tl.congr (fun _ => if_pos e1) (Tl.congr (fun _ => if_pos (by omega)) ?_)
  rw [if_pos e1]
  exact Tl.ok hcut (fun _ => rfl)
theorem obj_j3 {n : Nat} (hV : ∀ s, OK n s → VV s) {m : Nat} (ih : ∀ s, OK m s → Tl (fun k => fastjson_validateObject.l0 k s) (memL (skB (bytesOf s)))) {y : ByteArray} (hy : OK (m + 1) y) (hm : m + 1 ≤ n) :
 Tl (fun k => (fastjson_skipWS.f k y).bind fun t145 => (if (t145.size : Int) = 0 then (fastjson_validateObject.j3 k t145 true) else (if 0 < (t145.size : Int) then (fastjson_validateObject.j3 k t145 ((bt t145 0) != 58)) else (none)))) (aftK (bytesOf y)) := by
 obtain ⟨h1, h2, h3⟩ := hy
 obtain ⟨t, k1, k2, k3, k4⟩ := ws_of h2 h3
 refine Tl.bind k1 ?_
 unfold aftK
 rw [← k2]
 have hz := sz_of (s := t) rfl
 match ht : bytesOf t with
 | [] =>
  rw [ht] at hz
  simp only [List.length_nil] at hz
  refine Tl.congr (fun _ => if_pos (by omega)) (Tl.sh ?_)
  simp only [fastjson_validateObject.j3, errors_New.f, Option.bind_some, if_true]
  exact Tl.err (fun _ => rfl)
 | c :: u =>
  rw [ht] at hz
  simp only [List.length_cons] at hz
  have hb := bt_of ht
  have hcut := cut1 ht
  have hsz := sz_of hcut
  simp only
  rw [hb]
  refine Tl.congr (fun _ => if_neg (by omega)) (Tl.congr (fun _ => if_pos (by omega)) (Tl.sh ?_))
  simp only [fastjson_validateObject.j3, errors_New.f, Option.bind_some]
  by_cases e1 : c = 58
  rotate_left
  ·refine Tl.congr (fun _ => if_pos (by simpa using e1)) ?_
   rw [if_neg e1]
   exact Tl.err (fun _ => rfl)
  have e2 : ¬ ((c != 58) = true) := by simp [e1]
  have hu : stdy false u = true := by
   rw [ht] at k4
   exact stdy_app [c] u _ k4
  obtain ⟨t2, q1, q2, q3, q4⟩ := ws_of (s := t.extract 1 t.size) (by omega) (by rw [hcut]; exact hu)
  rw [hcut] at q2
  have hv := hV t2 ⟨by omega, by omega, q4⟩
  unfold VV at hv
  refine Tl.congr (fun _ => if_neg e2) (Tl.congr (fun _ => if_pos (by omega)) (Tl.bind q1 ?_))
  rw [if_pos e1]
  rw [← q2]
  cases hr : valF (bytesOf t2) with
  | none =>
   rw [hr] at hv
   obtain ⟨z, q, hz⟩ := hv
   exact Tl.bind2 hz (Tl.congr (fun _ => if_neg (by simp)) (Tl.err (fun _ => rfl)))
  | some r =>
   rw [hr] at hv
   obtain ⟨z, hzy, hz⟩ := hv
   obtain ⟨g1, g2⟩ := val_std (by omega) q4 hr
   have hzz := sz_of hzy
   obtain ⟨t', j1, j2, j3, j4⟩ := ws_of (s := z) (by omega) (by rw [hzy]; exact g1)
   refine Tl.bind2 hz (Tl.congr (fun _ => if_pos (by simp)) (Tl.bind j1 ?_))
   rw [Option.bind_some]
   unfold aftO
   rw [← hzy, ← j2]
   have hz' := sz_of (s := t') rfl
   match ht : bytesOf t' with
   | [] =>
    rw [ht] at hz'
    simp only [List.length_nil] at hz'
    exact Tl.congr (fun _ => if_pos (by omega)) (Tl.err (fun _ => rfl))
   | c :: u =>
    rw [ht] at hz'
    simp only [List.length_cons] at hz'
    have hb := bt_of ht
    have hcut := cut1 ht
    have hsz := sz_of hcut
    simp only
    rw [hb]
    refine Tl.congr (fun _ => if_neg (by omega)) (Tl.congr (fun _ => if_pos (by omega)) ?_)
    by_cases e1 : c = 44
    ·refine Tl.congr (fun _ => if_pos e1) (Tl.congr (fun _ => if_pos (by omega)) ?_)
     rw [if_neg (show ¬ c = 125 by omega), if_pos e1, ← hcut]
     refine ih (t'.extract 1 t'.size) ⟨by omega, by omega, ?_⟩
     rw [hcut]
     rw [ht] at j4
     exact stdy_app [c] u _ j4
    refine Tl.congr (fun _ => if_neg e1) ?_
    by_cases e2 : c = 125
    rotate_left
    ·refine Tl.congr (fun _ => if_neg e2) ?_
     rw [if_neg e2, if_neg e1]
     exact Tl.err (fun _ => rfl)
    refine Tl.congr (fun _ => if_pos e2) (Tl.congr (fun _ => if_pos (by omega)) ?_)
    rw [if_pos e2]
    exact Tl.ok hcut (fun _ => rfl)
theorem obj_loop {n : Nat} (hV : ∀ s, OK n s → VV s) : ∀ (m : Nat) (s : ByteArray), OK m s → m ≤ n → Tl (fun k => fastjson_validateObject.l0 k s) (memL (skB (bytesOf s))) := by
 intro m
 induction m with
 | zero =>
  intro s hs hm
  obtain ⟨h1, h2, h3⟩ := hs
  have e : bytesOf s = [] := List.length_eq_zero_iff.mp (by rw [bytesOf_length]; omega)
  obtain ⟨t, k1, k2, k3, k4⟩ := ws_of h2 h3
  rw [e]
  show Tl _ (memL [])
  rw [memL.eq_def]
  refine Tl.sh ?_
  simp only [fastjson_validateObject.l0]
  refine Tl.bind k1 (Tl.congr (fun _ => if_pos (by omega)) (Tl.sh ?_))
  simp only [fastjson_validateObject.j1, errors_New.f, Option.bind_some, if_true]
  exact Tl.err (fun _ => rfl)
 | succ m ih =>
  intro s hs hm
  obtain ⟨h1, h2, h3⟩ := hs
  obtain ⟨t, k1, k2, k3, k4⟩ := ws_of h2 h3
  rw [← k2]
  have hz := sz_of (s := t) rfl
  refine Tl.sh ?_
  simp only [fastjson_validateObject.l0]
  refine Tl.bind k1 ?_
  match ht : bytesOf t with
  | [] =>
   rw [ht] at hz
   simp only [List.length_nil] at hz
   rw [memL.eq_def]
   refine Tl.congr (fun _ => if_pos (by omega)) (Tl.sh ?_)
   simp only [fastjson_validateObject.j1, errors_New.f, Option.bind_some, if_true]
   exact Tl.err (fun _ => rfl)
  | c :: u =>
   rw [ht] at hz
   simp only [List.length_cons] at hz
   have hb := bt_of ht
   have hcut := cut1 ht
   have hsz := sz_of hcut
   rw [hb]
   refine Tl.congr (fun _ => if_neg (by omega)) (Tl.congr (fun _ => if_pos (by omega)) (Tl.sh ?_))
   simp only [fastjson_validateObject.j1, errors_New.f, Option.bind_some]
   by_cases e1 : c = 34
   rotate_left
   ·rw [memL_not e1]
    exact Tl.congr (fun _ => if_pos (by simpa using e1)) (Tl.err (fun _ => rfl))
   subst e1
   rw [memL_F]
   have hu : stdy false u = true := by
    rw [ht] at k4
    exact stdy_app [34] u _ k4
   have hk := key_eq (s := t.extract 1 t.size) (by omega)
   rw [hcut] at hk
   obtain ⟨p1, p2⟩ := hk.str hu
   refine Tl.congr (fun _ => if_neg zq49) (Tl.congr (fun _ => if_pos (by omega)) ?_)
   cases hS : strL u with
   | none =>
    rcases p2 hS with ⟨z, y, q, hz⟩ | ⟨z, y, g1, g2, hz⟩
    ·exact Tl.bind3 hz (Tl.congr (fun _ => if_neg (by simp)) (Tl.err (fun _ => rfl)))
    ·refine Tl.bind3 hz (Tl.congr (fun _ => if_pos (by simp)) ?_)
     -- what is behind does not matter
     have hrun : ∀ (l p : List Int), bytesOf z = p ++ l → anyLow l = true → Tl (fun k => fastjson_validateObject.l1 k y z (z.size : Int) (p.length : Int)) none := by
      intro l
      induction l with
      | nil => intro p hp h; simp [anyLow] at h
      | cons c r ihl =>
       intro p hp h
       have h1 := sz_of hp
       simp only [List.length_append, List.length_cons] at h1
       have hbt : bt z (p.length : Int) = c := bt_mid hp
       have hw : wrap64 ((p.length : Int) + 1) = (((p ++ [c]).length : Nat) : Int) := by rw [w64 (by omega)]; simp
       refine Tl.sh ?_
       simp only [fastjson_validateObject.l1, hbt, hw, errors_New.f, Option.bind_some]
       refine Tl.congr (fun _ => if_pos (by omega)) (Tl.congr (fun _ => if_pos (by omega)) (Tl.congr (fun _ => if_pos (by omega)) ?_))
       by_cases hc : c < 32
       ·exact Tl.congr (fun _ => if_pos hc) (Tl.err (fun _ => rfl))
       refine Tl.congr (fun _ => if_neg hc) (ihl (p ++ [c]) (by rw [hp]; simp) ?_)
       simpa [anyLow, hc] using h
     exact hrun (bytesOf z) [] rfl g1
   | some r =>
    obtain ⟨z, y, g1, g2, g3, hz⟩ := p1 r hS
    have hyS : stdy false (bytesOf y) = true := by
     have hsu : Suf (t.extract 1 t.size) r := Suf.str (l := u) (by have := Suf.start (t.extract 1 t.size); rw [hcut] at this; exact this) hS
     rw [g3]
     exact suf_std (r := r) hsu (by rw [hcut]; exact hu)
    have hyl := strL_len _ _ _ (Nat.le_refl _) hS
    have hyz := sz_of g3
    have hgo := obj_j3 hV (m := m) (fun s hs => ih s hs (by omega)) (y := y) ⟨by omega, by omega, hyS⟩ hm
    have h4 := scanO g2 hgo (bytesOf z) [] rfl
    rw [g1, g3] at h4
    simp only [Bool.false_eq_true, if_false] at h4
    exact Tl.bind3 hz (Tl.congr (fun _ => if_pos (by simp)) h4)
theorem obj_eq {n : Nat} (hV : ∀ s, OK n s → VV s) : ∀ s, OK n s → OV s := by
 intro s hs
 obtain ⟨h1, h2, h3⟩ := hs
 obtain ⟨t, k1, k2, k3, k4⟩ := ws_of h2 h3
 unfold OV
 have hl := obj_loop hV t.size t ⟨Nat.le_refl _, by omega, k4⟩ (by omega)
 rw [k2, skB_skB] at hl
 refine Tl.sh ?_
 simp only [fastjson_validateObject.f, errors_New.f, Option.bind_some]
 refine Tl.bind k1 ?_
 have hz := sz_of k2
 match e : skB (bytesOf s) with
 | [] =>
  rw [e] at hz
  simp only [List.length_nil] at hz
  rw [objL_nil e]
  exact Tl.congr (fun _ => if_pos (by omega)) (Tl.err (fun _ => rfl))
 | c :: r =>
  rw [e] at hz k2 hl
  simp only [List.length_cons] at hz
  rw [objL_cons e]
  have hb := bt_of k2
  have hcut := cut1 k2
  rw [hb]
  refine Tl.congr (fun _ => if_neg (by omega)) (Tl.congr (fun _ => if_pos (by omega)) ?_)
  by_cases e1 : c = 125
  rotate_left
  ·refine Tl.congr (fun _ => if_neg e1) ?_
   rw [if_neg e1]
   exact hl
  refine Tl.congr (fun _ => if_pos e1) (Tl.congr (fun _ => if_pos (by omega)) ?_)
  rw [if_pos e1]
  exact Tl.ok hcut (fun _ => rfl)
theorem toList_bytes (x : ByteArray) (wl : List UInt8) : x.toList = wl ↔ bytesOf x = wl.map fun b => (b.toNat : Int) := by
 rw [ByteArray.toList_eq]
 unfold bytesOf
 constructor
 ·intro h; rw [h]
 ·intro h
  have hinj : ∀ a b : UInt8, (a.toNat : Int) = (b.toNat : Int) → a = b := fun a b e => UInt8.toNat_inj.mp (by omega)
  generalize x.data.toList = l at h
  induction l generalizing wl with
  | nil => cases wl with
   | nil => rfl
   | cons b r => simp at h
  | cons a l ih => cases wl with
   | nil => simp at h
   | cons b r =>
    simp only [List.map_cons, List.cons.injEq] at h
    rw [hinj _ _ h.1, ih _ h.2]
theorem word_V {s : ByteArray} (n : Nat) (w : List Int) (wl : List UInt8) (hw : w = wl.map fun b => (b.toNat : Int)) (hn : w.length = n) (hs : s.size ≤ 2147483647) {q1 q2 : Int} :
 Tl (fun k => if (s.size : Int) < (n : Int) then some (s, some q1) else (if 0 ≤ (n : Int) then (if (n : Int) ≤ (s.size : Int) then (if (s.extract 0 n).toList = wl then some (s.extract n s.size, none) else some (s, some q2)) else none) else none)) (wordL w (bytesOf s)) := by
 unfold wordL
 rw [hn]
 by_cases h : s.size < n
 ·have hne : ¬ (bytesOf s).take n = w := by
   intro e
   have := congrArg List.length e
   rw [List.length_take, bytesOf_length] at this
   omega
  refine Tl.congr (fun _ => if_pos (by omega)) ?_
  rw [if_neg hne]
  exact Tl.err (fun _ => rfl)
 refine Tl.congr (fun _ => if_neg (by omega)) (Tl.congr (fun _ => if_pos (by omega)) (Tl.congr (fun _ => if_pos (by omega)) ?_))
 have hiff : ((s.extract 0 n).toList = wl) ↔ ((bytesOf s).take n = w) := by
  rw [toList_bytes, bytesOf_extract, List.drop_zero, hw]
 by_cases e : (bytesOf s).take n = w
 rotate_left
 ·rw [if_neg e]
  exact Tl.congr (fun _ => if_neg (fun h => e (hiff.mp h))) (Tl.err (fun _ => rfl))
 rw [if_pos e]
 exact Tl.congr (fun _ => if_pos (hiff.mpr e)) (Tl.ok (cut_of rfl n _ (Nat.le_refl _)) (fun _ => rfl))
theorem val_eq {n : Nat} (hA : ∀ s, OK n s → AV s) (hO : ∀ s, OK n s → OV s) : ∀ s, OK (n + 1) s → VV s := by
 intro s hs
 obtain ⟨h1, h2, h3⟩ := hs
 unfold VV
 refine Tl.sh ?_
 simp only [fastjson_validateValue.f, errors_New.f, Option.bind_some]
 have hz := sz_of (s := s) rfl
 match ht : bytesOf s with
 | [] =>
  rw [ht] at hz
  simp only [List.length_nil] at hz
  exact Tl.congr (fun _ => if_pos (by omega)) (Tl.err (fun _ => rfl))
 | c :: u =>
  have hb := bt_of ht
  have hcut := cut1 ht
  have hsz := sz_of hcut
  rw [ht] at hz
  simp only [List.length_cons] at hz
  have hu : stdy false u = true := by
   rw [ht] at h3
   exact stdy_app [c] u _ h3
  rw [hb]
  simp only [valF]
  refine Tl.congr (fun _ => if_neg (by omega)) (Tl.congr (fun _ => if_pos (by omega)) ?_)
  by_cases e1 : c = 123
  ·refine Tl.congr (fun _ => if_pos e1) (Tl.congr (fun _ => if_pos (by omega)) ?_)
   rw [if_pos e1]
   have h := hO (s.extract 1 s.size) ⟨by omega, by omega, by rw [hcut]; exact hu⟩
   unfold OV at h
   rw [hcut] at h
   cases ho : objL u with
   | none =>
    rw [ho] at h
    obtain ⟨z, q, hz⟩ := h
    exact Tl.bind2 hz (Tl.congr (fun _ => if_neg (by simp)) (Tl.err (fun _ => rfl)))
   | some r =>
    rw [ho] at h
    obtain ⟨z, hy, hz⟩ := h
    exact Tl.bind2 hz (Tl.congr (fun _ => if_pos (by simp)) (Tl.ok hy (fun _ => rfl)))
  refine Tl.congr (fun _ => if_neg e1) ?_
  rw [if_neg e1]
  by_cases e2 : c = 91
  ·refine Tl.congr (fun _ => if_pos e2) (Tl.congr (fun _ => if_pos (by omega)) ?_)
   rw [if_pos e2]
   have h := hA (s.extract 1 s.size) ⟨by omega, by omega, by rw [hcut]; exact hu⟩
   unfold AV at h
   rw [hcut] at h
   cases ho : arrL u with
   | none =>
    rw [ho] at h
    obtain ⟨z, q, hz⟩ := h
    exact Tl.bind2 hz (Tl.congr (fun _ => if_neg (by simp)) (Tl.err (fun _ => rfl)))
   | some r =>
    rw [ho] at h
    obtain ⟨z, hy, hz⟩ := h
    exact Tl.bind2 hz (Tl.congr (fun _ => if_pos (by simp)) (Tl.ok hy (fun _ => rfl)))
  refine Tl.congr (fun _ => if_neg e2) ?_
  rw [if_neg e2]
  by_cases e3 : c = 34
  ·refine Tl.congr (fun _ => if_pos e3) (Tl.congr (fun _ => if_pos (by omega)) ?_)
   rw [if_pos e3]
   have hk := str_eq (s := s.extract 1 s.size) (by omega)
   rw [hcut] at hk
   obtain ⟨p1, p2⟩ := hk.str hu
   cases hS : strL u with
   | none =>
    rcases p2 hS with ⟨z, y, q, hz⟩ | ⟨z, y, g1, g2, hz⟩
    ·exact Tl.bind3 hz (Tl.congr (fun _ => if_neg (by simp)) (Tl.err (fun _ => rfl)))
    ·obtain ⟨q, hq⟩ := (scanV (y := y) g2 (bytesOf z) [] rfl).2 g1
     exact Tl.bind3 hz (Tl.congr (fun _ => if_pos (by simp)) ⟨_, _, hq⟩)
   | some r =>
    obtain ⟨z, y, g1, g2, g3, hz⟩ := p1 r hS
    have hq := (scanV (y := y) g2 (bytesOf z) [] rfl).1 g1
    exact Tl.bind3 hz (Tl.congr (fun _ => if_pos (by simp)) ⟨_, g3, hq⟩)
  refine Tl.congr (fun _ => if_neg e3) ?_
  rw [if_neg e3]
  by_cases e4 : c = 116
  ·refine Tl.congr (fun _ => if_pos e4) ?_
   rw [if_pos e4, ← ht]
   exact (word_V 4 trueW _ zq49 zq49 h2)
  refine Tl.congr (fun _ => if_neg e4) ?_
  rw [if_neg e4]
  by_cases e5 : c = 102
  ·refine Tl.congr (fun _ => if_pos e5) ?_
   rw [if_pos e5, ← ht]
   exact (word_V 5 falseW _ zq49 zq49 h2)
  refine Tl.congr (fun _ => if_neg e5) ?_
  rw [if_neg e5]
  by_cases e6 : c = 110
  ·refine Tl.congr (fun _ => if_pos e6) ?_
   rw [if_pos e6, ← ht]
   exact (word_V 4 nullW _ zq49 zq49 h2)
  refine Tl.congr (fun _ => if_neg e6) ?_
  rw [if_neg e6]
  have h := num_eq h2 ht
  cases ho : numV (c :: u) with
  | none =>
   rw [ho] at h
   obtain ⟨z, q, hz⟩ := h
   exact Tl.bind2 hz (Tl.congr (fun _ => if_neg (by simp)) (Tl.err (fun _ => rfl)))
  | some r =>
   rw [ho] at h
   obtain ⟨z, hy, hz⟩ := h
   exact Tl.bind2 hz (Tl.congr (fun _ => if_pos (by simp)) (Tl.ok hy (fun _ => rfl)))
theorem val_zero : ∀ s, OK 0 s → VV s := by
 intro s hs
 obtain ⟨h1, h2, h3⟩ := hs
 have e : bytesOf s = [] := List.length_eq_zero_iff.mp (by rw [bytesOf_length]; omega)
 unfold VV
 rw [e]
 refine Tl.sh ?_
 simp only [fastjson_validateValue.f, errors_New.f, Option.bind_some]
 exact Tl.congr (fun _ => if_pos (by omega)) (Tl.err (fun _ => rfl))
theorem all_V : ∀ n : Nat, ∀ s, OK n s → VV s
 | 0 => val_zero
 | n + 1 => val_eq (arr_eq (all_V n)) (obj_eq (all_V n))
theorem valid_eq {s : ByteArray} (hs : s.size ≤ 2147483647) (h : stdy false (bytesOf s) = true) :
 (textL (bytesOf s) = true → Ev (fun k => fastjson_Validate.f k s) none) ∧ (textL (bytesOf s) = false → ∃ q, Ev (fun k => fastjson_Validate.f k s) (some q)) := by
 obtain ⟨t, k1, k2, k3, k4⟩ := ws_of hs h
 have hv := all_V t.size t ⟨Nat.le_refl _, by omega, k4⟩
 unfold VV at hv
 have hT : textL (bytesOf s) = match valF (bytesOf t) with
  | none => false
  | some r => (skB r).isEmpty := by
  unfold textL
  rw [← k2]
  rcases valF_valL (bytesOf t) with e | ⟨e, d, u, e2, hd⟩
  ·rw [e]
   rfl
  ·rw [e, e2]
   unfold isD at hd
   simp only [decide_eq_true_eq] at hd
   have hk : skB (d :: u) = d :: u := skB_no (by simp only [isB, decide_eq_false_iff_not]; omega)
   simp only [hk, List.isEmpty_cons]
 rw [hT]
 simp only [fastjson_Validate.f, errors_New.f, Option.bind_some]
 cases hr : valF (bytesOf t) with
 | none =>
  rw [hr] at hv
  obtain ⟨z, q, hz⟩ := hv
  exact ⟨fun e => (by cases e), fun _ => ⟨_, Ev.bind k1 (Ev.bind hz (Ev.congr (fun _ => if_neg (by simp)) (Ev.now _)))⟩⟩
 | some r =>
  rw [hr] at hv
  obtain ⟨z, hy, hz⟩ := hv
  obtain ⟨g1, g2⟩ := val_std (by omega) k4 hr
  have hzz := sz_of hy
  obtain ⟨t', j1, j2, j3, j4⟩ := ws_of (s := z) (by omega) (by rw [hy]; exact g1)
  rw [hy] at j2
  have hz' := sz_of j2
  refine ⟨fun e => ?_, fun e => ?_⟩
  ·have : skB r = [] := by simpa using e
   rw [this] at hz'
   simp only [List.length_nil] at hz'
   exact Ev.bind k1 (Ev.bind hz (Ev.congr (fun _ => if_pos (by simp)) (Ev.bind j1 (Ev.congr (fun _ => if_neg (by omega)) (Ev.now _)))))
  ·have : skB r ≠ [] := by simpa using e
   have := List.length_pos_iff.mpr this
   exact ⟨_, Ev.bind k1 (Ev.bind hz (Ev.congr (fun _ => if_pos (by simp)) (Ev.bind j1 (Ev.congr (fun _ => if_pos (by omega)) (Ev.now _)))))⟩
theorem steady_loop {s : ByteArray} (hs : s.size ≤ 2147483647) : ∀ (l : List Int) (i : Nat) (b : Bool), From s i l → Ev (fun k => laws_fjSteady.l0 k s b (i : Int)) (stdy b l) := by
 intro l
 induction l with
 | nil =>
  intro i b h
  have := h.nil
  refine Ev_sh ?_
  simp only [laws_fjSteady.l0]
  exact Ev.congr (fun _ => if_neg (by omega)) (Ev.now _)
 | cons c r ih =>
  intro i b h
  have hlt := h.lt
  have hb := h.bt
  have hn := ih (i + 1)
  have hw : wrap64 ((i : Int) + 1) = ((i + 1 : Nat) : Int) := by rw [w64 (by omega)]; omega
  refine Ev_sh ?_
  simp only [laws_fjSteady.l0, hb, hw]
  refine Ev.congr (fun _ => if_pos (by omega)) (Ev.congr (fun _ => if_pos (by omega)) ?_)
  by_cases h1 : c = 34
  ·rw [stdy, if_pos h1]
   exact Ev.congr (fun _ => if_pos h1) (hn false h.tail)
  refine Ev.congr (fun _ => if_neg h1) ?_
  have hj : Ev (fun k => laws_fjSteady.j1 k s b (i : Int) false) (if c < 32 then stdy true r else stdy b r) := by
   refine Ev_sh ?_
   simp only [laws_fjSteady.j1, hb, hw]
   refine Ev.congr (fun _ => if_neg zq49) (Ev.congr (fun _ => if_pos (by omega)) (Ev.congr (fun _ => if_pos (by omega)) ?_))
   by_cases h3 : c < 32
   rotate_left
   ·rw [if_neg h3]
    exact Ev.congr (fun _ => if_neg h3) (hn b h.tail)
   rw [if_pos h3]
   exact Ev.congr (fun _ => if_pos h3) (hn true h.tail)
  rw [stdy, if_neg h1]
  by_cases h2 : c = 92
  rotate_left
  ·rw [if_neg (fun e => h2 e.1)]
   exact Ev.congr (fun _ => if_neg h2) hj
  refine Ev.congr (fun _ => if_pos h2) ?_
  cases b with
  | true =>
   rw [if_pos ⟨h2, rfl⟩]
   refine Ev_sh ?_
   simp only [laws_fjSteady.j1]
   exact Ev.congr (fun _ => if_pos trivial) (Ev.now _)
  | false =>
   rw [if_neg (fun e => (by cases e.2))]
   exact hj
theorem steady_eq {s : ByteArray} (hs : s.size ≤ 2147483647) : Ev (fun k => laws_fjSteady.f k s) (stdy false (bytesOf s)) := steady_loop hs _ 0 false (From.start s)
end Go.Proofs.YtlokkefnbffjnaaDoor.J
end
section
set_option linter.unusedVariables false
namespace Go.Proofs.YtlokkefnbffjnaaDoor.Pure
open Go.RowKit Go.Proofs.YtlokkefnbffjnaaDoor.J Go.Proofs.YtlokkefnbffjnaaDoor.J Go.Proofs.YtlokkefnbffjnaaDoorW.PrintWords Go.Proofs.YtlokkefnbffjnaaDoorW.PrintLast
theorem FnFjValid : laws_FnFjValid.Pure := by
 intro s hsz
 have go : Ev (fun k => laws_FnFjValid.f k s) true := by
  unfold laws_FnFjValid.f
  by_cases h0 : (s.size : Int) > 2147483647
  ·exact Ev.congr (fun _ => if_pos h0) (Ev.now _)
  refine Ev.congr (fun _ => if_neg h0) ?_
  have hs : s.size ≤ 2147483647 := by omega
  have jt : Ev (fun k => laws_FnFjValid.j0 k s true) true := by
   refine Ev_sh ?_
   simp only [laws_FnFjValid.j0, if_true]
   exact Ev.now _
  by_cases h1 : (s.size : Int) > 4000
  ·exact Ev.congr (fun _ => if_pos h1) jt
  refine Ev.congr (fun _ => if_neg h1) (Ev.bind (steady_eq hs) ?_)
  cases hst : stdy false (bytesOf s) with
  | false => exact jt
  | true =>
   refine Ev_sh ?_
   simp only [laws_FnFjValid.j0, Bool.not_true, Bool.false_eq_true, if_false]
   obtain ⟨a, b, c, d, hr⟩ := read_eq hs
   refine Ev.bind hr ?_
   unfold impl_FjValid.f
   obtain ⟨v1, v2⟩ := valid_eq hs hst
   cases hT : textL (bytesOf s) with
   | true => exact Ev.bind (Ev.bind (v1 hT) (Ev.congr (fun _ => if_pos (by rfl)) (Ev.now _))) (Ev.now _)
   | false =>
    obtain ⟨q, hq⟩ := v2 hT
    exact Ev.bind (Ev.bind hq (Ev.congr (fun _ => if_neg (by simp)) (Ev.now _))) (Ev.now _)
 exact go.rounds
end Go.Proofs.YtlokkefnbffjnaaDoor.Pure
end
