/- MatchLimitNoCase, where it is not stopped, tells what MatchNoCase tells. -/
import Derived.Test.YtegbajfmhkmolaaDoorPxf9
import Derived.Test.YtegbajfmhkmolaaDoorMtTrimN
namespace Go.Proofs.YtegbajfmhkmolaaDoor.Pure
open Go.RowKit Go.Proofs.YtegbajfmhkmolaaDoorW.PrintWords Go.Proofs.YtegbajfmhkmolaaDoorW.PrintLast
open J (w64 Ev_same)
open D (gl bt_gl fw wid)
open Go.Lib (decodeN decodeGo)

theorem w32 {x : Int} (h : -2147483648 ≤ x ∧ x ≤ 2147483647) : wrap32 x = x := by
  unfold wrap32
  omega
theorem dgo {x : ByteArray} (h : 1 ≤ x.size) : decodeGo x = decodeN x.size (gl x.data.toList 0) (gl x.data.toList 1) (gl x.data.toList 2) (gl x.data.toList 3) := by
  unfold decodeGo
  rw [if_neg (by omega), Lib.decode_at, D.get_gl, D.get_gl, D.get_gl, D.get_gl]
  rfl
theorem dgo_fw {x : ByteArray} (h : 1 ≤ x.size) : (decodeGo x).2 = fw x.data.toList := by
  rw [dgo h]
  unfold fw
  rw [data_length]
theorem dgo_zero {x : ByteArray} (h : x.size = 0) : decodeGo x = (65533, 0) := by
  unfold decodeGo
  rw [if_pos h]
theorem dgo_wid {x : ByteArray} (h : 1 ≤ x.size) : 1 ≤ (decodeGo x).2 ∧ (decodeGo x).2 ≤ x.size := by
  rw [dgo h]
  have := wid (n := x.size) (b0 := gl x.data.toList 0) (b1 := gl x.data.toList 1) (b2 := gl x.data.toList 2) (b3 := gl x.data.toList 3) h
  omega
theorem dgo_le (x : ByteArray) : (decodeGo x).2 ≤ x.size := by
  by_cases h : 1 ≤ x.size
  · exact (dgo_wid h).2
  · rw [dgo_zero (by omega)]
    omega
/-- The head of a text, as the code reads it. -/
theorem head_eq {α : Type} {x : ByteArray} (h : 1 ≤ x.size) (F : Int → Int → Option α) :
    (if (wrap32 (bt x 0)) > 127 then ((YtegbajfmhkmolaaDoor.N.utf8_DecodeRuneInString.f x).bind fun b => F b.1 b.2) else F (wrap32 (bt x 0)) 1) = F ((decodeGo x).1 : Int) ((decodeGo x).2 : Int) := by
  have hl := D.gl_lt x.data.toList 0
  have e0 : bt x 0 = (gl x.data.toList 0 : Int) := bt_gl x 0
  rw [e0, w32 (by omega)]
  by_cases hb : gl x.data.toList 0 < 128
  · rw [if_neg (by omega), dgo h, D.asc hb]
    rfl
  · rw [if_pos (by omega)]
    rfl
theorem head_eqP {α : Type} {x : ByteArray} (h : 1 ≤ x.size) (F : Int → Int → Option α) :
    (if (wrap32 (bt x 0)) > 127 then ((YtegbajfmhkmolaaDoor.P.utf8_DecodeRuneInString.f x).bind fun b => F b.1 b.2) else F (wrap32 (bt x 0)) 1) = F ((decodeGo x).1 : Int) ((decodeGo x).2 : Int) := head_eq h F
theorem star_head {x : ByteArray} (h : 1 ≤ x.size) (e : ((decodeGo x).1 : Int) = 42) : gl x.data.toList 0 = 42 := by
  rw [dgo h] at e
  by_cases hb : gl x.data.toList 0 < 128
  · rw [D.asc hb] at e
    simp only at e
    omega
  · have := D.high (n := x.size) (b1 := gl x.data.toList 1) (b2 := gl x.data.toList 2) (b3 := gl x.data.toList 3) hb
    omega
/-- Both end: the one without a bound in yes or no, the one with a bound in the same, or stopped. -/
def Two (gN : Nat → Option Int) (gP : Int → Nat → Option (Int × Int)) : Prop := ∃ r', Ev gN r' ∧ (r' = 0 ∨ r' = 1) ∧ ∀ c, ∃ r c', Ev (gP c) (r, c') ∧ (r = 2 ∨ r = r')
theorem Two.step {gN fN : Nat → Option Int} {gP fP : Int → Nat → Option (Int × Int)} (hN : ∀ k, gN (k + 1) = fN k) (hP : ∀ c k, gP c (k + 1) = fP c k) (h : Two fN fP) : Two gN gP := by
  obtain ⟨r', h1, h2, h3⟩ := h
  refine ⟨r', Ev.step hN h1, h2, fun c => ?_⟩
  obtain ⟨r, c', h4, h5⟩ := h3 c
  exact ⟨r, c', Ev.step (hP c) h4, h5⟩
theorem Two.congr {gN fN : Nat → Option Int} {gP fP : Int → Nat → Option (Int × Int)} (hN : ∀ k, gN k = fN k) (hP : ∀ c k, gP c k = fP c k) (h : Two fN fP) : Two gN gP := by
  obtain ⟨r', h1, h2, h3⟩ := h
  refine ⟨r', Ev.congr hN h1, h2, fun c => ?_⟩
  obtain ⟨r, c', h4, h5⟩ := h3 c
  exact ⟨r, c', Ev.congr (hP c) h4, h5⟩
theorem Two.const {v : Int} (h : v = 0 ∨ v = 1) : Two (fun _ => some v) (fun c _ => some (v, c)) := ⟨v, Ev.now _, h, fun c => ⟨v, c, Ev.now _, .inr rfl⟩⟩
theorem Two.ite {p : Prop} [Decidable p] {gN fN : Nat → Option Int} {gP fP : Int → Nat → Option (Int × Int)} (h : p → Two gN gP) (k : ¬ p → Two fN fP) : Two (fun n => if p then gN n else fN n) (fun c n => if p then gP c n else fP c n) := by
  by_cases hp : p
  · exact (h hp).congr (fun _ => if_pos hp) (fun _ _ => if_pos hp)
  · exact (k hp).congr (fun _ => if_neg hp) (fun _ _ => if_neg hp)
theorem Two.bind {α : Type} {t : Nat → Option α} {a : α} {fN : Nat → α → Option Int} {fP : Int → Nat → α → Option (Int × Int)} (h : Ev t a) (k : Two (fun n => fN n a) (fun c n => fP c n a)) : Two (fun n => (t n).bind (fN n)) (fun c n => (t n).bind (fP c n)) := by
  obtain ⟨r', h1, h2, h3⟩ := k
  refine ⟨r', Ev.bind h h1, h2, fun c => ?_⟩
  obtain ⟨r, c', h4, h5⟩ := h3 c
  exact ⟨r, c', Ev.bind h h4, h5⟩
section
variable (sl lim : Int) (nc : Bool)
def Tl (s p : ByteArray) : Prop := Two (fun k => YtegbajfmhkmolaaDoor.N.match_match.l0 k s p 0 (.pointer none) (-1) nc) (fun c k => YtegbajfmhkmolaaDoor.P.match_match.l0 k s p sl lim nc c)
def Tj2 (s p : ByteArray) (pc ps sc ss : Int) : Prop := Two (fun k => YtegbajfmhkmolaaDoor.N.match_match.j2 k s p 0 (.pointer none) (-1) nc false pc ps sc ss) (fun c k => YtegbajfmhkmolaaDoor.P.match_match.j3 k s p sl lim nc false pc ps sc ss c)
def Tf (s p : ByteArray) : Prop := Two (fun k => YtegbajfmhkmolaaDoor.N.match_match.f k s p 0 (.pointer none) (-1) nc) (fun c k => YtegbajfmhkmolaaDoor.P.match_match.f k s p sl c lim nc)
variable {sl lim nc}
theorem Tf.of {s p : ByteArray} (h : Tl sl lim nc s p) : Tf sl lim nc s p := by
  obtain ⟨r', h1, h2, h3⟩ := h
  refine ⟨r', Ev.step (fun k => ?_) h1, h2, fun c => ?_⟩
  · simp only [YtegbajfmhkmolaaDoor.N.match_match.f]
    rw [if_neg (by decide)]
  · by_cases hl : lim > -1
    · by_cases hc : c > (wrap64 (sl * lim))
      · exact ⟨2, c, Ev.step (f := fun _ => some (2, c)) (fun k => by simp only [YtegbajfmhkmolaaDoor.P.match_match.f]; rw [if_pos hl, if_pos hc]) (Ev.now _), .inl rfl⟩
      · obtain ⟨r, c', h4, h5⟩ := h3 (wrap64 (c + 1))
        exact ⟨r, c', Ev.step (f := fun k => YtegbajfmhkmolaaDoor.P.match_match.j0 k s p sl lim nc (wrap64 (c + 1))) (fun k => by simp only [YtegbajfmhkmolaaDoor.P.match_match.f]; rw [if_pos hl, if_neg hc]) (Ev.step (fun k => by simp only [YtegbajfmhkmolaaDoor.P.match_match.j0]) h4), h5⟩
    · obtain ⟨r, c', h4, h5⟩ := h3 c
      exact ⟨r, c', Ev.step (f := fun k => YtegbajfmhkmolaaDoor.P.match_match.j0 k s p sl lim nc c) (fun k => by simp only [YtegbajfmhkmolaaDoor.P.match_match.f]; rw [if_neg hl]) (Ev.step (fun k => by simp only [YtegbajfmhkmolaaDoor.P.match_match.j0]) h4), h5⟩
theorem Tl.empty {s p : ByteArray} (h : p.size = 0) : Tl sl lim nc s p := by
  by_cases hs : (s.size : Int) = 0
  · refine Two.step (fun k => ?_) (fun c k => ?_) (Two.const (v := 1) (.inr rfl))
    · simp only [YtegbajfmhkmolaaDoor.N.match_match.l0]
      rw [if_neg (by omega), if_pos hs]
    · simp only [YtegbajfmhkmolaaDoor.P.match_match.l0]
      rw [if_neg (by omega), if_pos hs]
  · refine Two.step (fun k => ?_) (fun c k => ?_) (Two.const (v := 0) (.inl rfl))
    · simp only [YtegbajfmhkmolaaDoor.N.match_match.l0]
      rw [if_neg (by omega), if_neg hs]
    · simp only [YtegbajfmhkmolaaDoor.P.match_match.l0]
      rw [if_neg (by omega), if_neg hs]
theorem Tl.go {s p : ByteArray} (h : 1 ≤ p.size) (k : ∀ sc : Int, Tj2 sl lim nc s p ((decodeGo p).1 : Int) ((decodeGo p).2 : Int) sc ((decodeGo s).2 : Int)) : Tl sl lim nc s p := by
  refine Two.step (fN := fun k => YtegbajfmhkmolaaDoor.N.match_match.j1 k s p 0 (.pointer none) (-1) nc false ((decodeGo p).1 : Int) ((decodeGo p).2 : Int)) (fP := fun c k => YtegbajfmhkmolaaDoor.P.match_match.j2 k s p sl lim nc false ((decodeGo p).1 : Int) ((decodeGo p).2 : Int) c) (fun k => ?_) (fun c k => ?_) ?_
  · simp only [YtegbajfmhkmolaaDoor.N.match_match.l0]
    rw [if_pos (by omega), if_pos (by omega)]
    exact head_eq h (fun a b => YtegbajfmhkmolaaDoor.N.match_match.j1 k s p 0 (.pointer none) (-1) nc false a b)
  · simp only [YtegbajfmhkmolaaDoor.P.match_match.l0]
    rw [if_pos (by omega), if_pos (by omega)]
    exact head_eqP h (fun a b => YtegbajfmhkmolaaDoor.P.match_match.j2 k s p sl lim nc false a b c)
  · by_cases hs : 1 ≤ s.size
    · refine Two.step (fun j => ?_) (fun c j => ?_) (k ((decodeGo s).1 : Int))
      · simp only [YtegbajfmhkmolaaDoor.N.match_match.j1]
        rw [if_pos (by omega), if_pos (by omega)]
        exact head_eq hs (fun a b => YtegbajfmhkmolaaDoor.N.match_match.j2 j s p 0 (.pointer none) (-1) nc false ((decodeGo p).1 : Int) ((decodeGo p).2 : Int) a b)
      · simp only [YtegbajfmhkmolaaDoor.P.match_match.j2]
        rw [if_pos (by omega), if_pos (by omega)]
        exact head_eqP hs (fun a b => YtegbajfmhkmolaaDoor.P.match_match.j3 j s p sl lim nc false ((decodeGo p).1 : Int) ((decodeGo p).2 : Int) a b c)
    · have k0 := k 0
      rw [dgo_zero (x := s) (by omega)] at k0
      refine Two.step (fun j => ?_) (fun c j => ?_) k0
      · simp only [YtegbajfmhkmolaaDoor.N.match_match.j1]
        rw [if_neg (by omega)]
        rfl
      · simp only [YtegbajfmhkmolaaDoor.P.match_match.j2]
        rw [if_neg (by omega)]
        rfl
theorem bsame {α β : Type} {a : Option α} {F G : α → Option β} (h : ∀ t, F t = G t) : a.bind F = a.bind G := by rw [funext h]
theorem exs (x : ByteArray) (n : Nat) : (x.extract n x.size).size = x.size - n := by rw [ByteArray.size_extract]; omega
theorem bindF {s1 p1 s2 p2 : ByteArray} {zero : Prop} [Decidable zero] (h : Tf sl lim nc s1 p1) (k : ¬ zero → Tl sl lim nc s2 p2) :
    Two (fun k => (YtegbajfmhkmolaaDoor.N.match_match.f k s1 p1 0 (.pointer none) (-1) nc).bind fun t => if t = 0 then (if zero then some 0 else YtegbajfmhkmolaaDoor.N.match_match.l0 k s2 p2 0 (.pointer none) (-1) nc) else some t)
      (fun c k => (YtegbajfmhkmolaaDoor.P.match_match.f k s1 p1 sl c lim nc).bind fun b => if b.1 = 0 then (if zero then some (0, b.2) else YtegbajfmhkmolaaDoor.P.match_match.l0 k s2 p2 sl lim nc b.2) else some (b.1, b.2)) := by
  obtain ⟨r', h1, h2, h3⟩ := h
  have k2 : Two (fun k => if zero then some 0 else YtegbajfmhkmolaaDoor.N.match_match.l0 k s2 p2 0 (.pointer none) (-1) nc) (fun c k => if zero then some (0, c) else YtegbajfmhkmolaaDoor.P.match_match.l0 k s2 p2 sl lim nc c) := Two.ite (fun _ => Two.const (.inl rfl)) k
  obtain ⟨q', g1, g2, g3⟩ := k2
  rcases h2 with rfl | rfl
  · refine ⟨q', Ev.bind h1 (Ev.congr (fun _ => if_pos rfl) g1), g2, fun c => ?_⟩
    obtain ⟨r, c', h4, h5⟩ := h3 c
    rcases h5 with rfl | rfl
    · exact ⟨2, c', Ev.bind h4 (Ev.congr (fun _ => if_neg (show ¬ (2 : Int) = 0 by decide)) (Ev.now _)), .inl rfl⟩
    · obtain ⟨r2, c2, g4, g5⟩ := g3 c'
      exact ⟨r2, c2, Ev.bind h4 (Ev.congr (fun _ => if_pos rfl) g4), g5⟩
  · refine ⟨1, Ev.bind h1 (Ev.congr (fun _ => if_neg (by decide)) (Ev.now _)), .inr rfl, fun c => ?_⟩
    obtain ⟨r, c', h4, h5⟩ := h3 c
    rcases h5 with rfl | rfl
    · exact ⟨2, c', Ev.bind h4 (Ev.congr (fun _ => if_neg (show ¬ (2 : Int) = 0 by decide)) (Ev.now _)), .inl rfl⟩
    · exact ⟨1, c', Ev.bind h4 (Ev.congr (fun _ => if_neg (show ¬ (1 : Int) = 0 by decide)) (Ev.now _)), .inr rfl⟩
variable {s p : ByteArray} (hs : s.size ≤ 140737488351232) (hp : p.size ≤ 140737488351232) (IH : ∀ s' p' : ByteArray, s'.size + p'.size < s.size + p.size → s'.size ≤ s.size → p'.size ≤ p.size → Tl sl lim nc s' p')
include hs hp IH
theorem two_j4 {p' : ByteArray} (h1 : 1 ≤ p'.size) (h2 : p'.size ≤ p.size) (h3 : gl p'.data.toList 0 = 42) :
    Two (fun k => YtegbajfmhkmolaaDoor.N.match_match.j4 k s p' 0 (.pointer none) (-1) nc ((decodeGo s).2 : Int)) (fun c k => YtegbajfmhkmolaaDoor.P.match_match.j5 k s p' sl lim nc ((decodeGo s).2 : Int) c) := by
  by_cases h4 : (p'.size : Int) = 1
  · refine Two.step (fun k => ?_) (fun c k => ?_) (Two.const (v := 1) (.inr rfl))
    · simp only [YtegbajfmhkmolaaDoor.N.match_match.j4]
      rw [if_pos h4]
    · simp only [YtegbajfmhkmolaaDoor.P.match_match.j5]
      rw [if_pos h4]
  · obtain ⟨e, q, ok, ht, he, hq1, hq2, hk⟩ := D.trim_eq (s := s) (p := p') (nc := nc) hs (by omega) h3 h1
    refine Two.step (fN := fun k => (YtegbajfmhkmolaaDoor.N.match_matchTrimSuffix.f k s p' nc).bind fun bt105 => (if bt105.2.2 = true then (if (bt105.2.1.size : Int) = 1 then (some 1) else (if 1 ≤ (bt105.2.1.size : Int) then ((YtegbajfmhkmolaaDoor.N.match_match.f k bt105.1 (bt105.2.1.extract 1 bt105.2.1.size) 0 (.pointer none) (-1) nc).bind fun t108 => (if t108 = 0 then (if (bt105.1.size : Int) = 0 then (some 0) else (if 0 ≤ ((decodeGo s).2 : Int) then (if ((decodeGo s).2 : Int) ≤ (bt105.1.size : Int) then (YtegbajfmhkmolaaDoor.N.match_match.l0 k (bt105.1.extract (((decodeGo s).2 : Int)).toNat bt105.1.size) bt105.2.1 0 (.pointer none) (-1) nc) else (none)) else (none))) else (some t108))) else (none))) else (some 0)))
      (fP := fun c k => (YtegbajfmhkmolaaDoor.N.match_matchTrimSuffix.f k s p' nc).bind fun bt105 => (if bt105.2.2 = true then (if (bt105.2.1.size : Int) = 1 then (some (1, c)) else (if 1 ≤ (bt105.2.1.size : Int) then ((YtegbajfmhkmolaaDoor.P.match_match.f k bt105.1 (bt105.2.1.extract 1 bt105.2.1.size) sl c lim nc).bind fun bt108 => (if bt108.1 = 0 then (if (bt105.1.size : Int) = 0 then (some (0, bt108.2)) else (if 0 ≤ ((decodeGo s).2 : Int) then (if ((decodeGo s).2 : Int) ≤ (bt105.1.size : Int) then (YtegbajfmhkmolaaDoor.P.match_match.l0 k (bt105.1.extract (((decodeGo s).2 : Int)).toNat bt105.1.size) bt105.2.1 sl lim nc bt108.2) else (none)) else (none))) else (some (bt108.1, bt108.2)))) else (none))) else (some (0, c)))) (fun k => ?_) (fun c k => ?_) (Two.bind ht ?_)
    · simp only [YtegbajfmhkmolaaDoor.N.match_match.j4]
      rw [if_neg h4]
    · simp only [YtegbajfmhkmolaaDoor.P.match_match.j5]
      rw [if_neg h4]
      rfl
    · have hz := D.size0 s he
      have hzq := D.size0 p' hq2
      dsimp only
      refine Two.ite (fun _ => Two.ite (fun _ => Two.const (.inr rfl)) (fun h5 => ?_)) (fun _ => Two.const (.inl rfl))
      have hq3 : 2 ≤ q := by omega
      have hpz : ((p'.extract 0 q).extract 1 (p'.extract 0 q).size).size = q - 1 := by rw [exs, hzq]
      have f1 : Tf sl lim nc (s.extract 0 e) ((p'.extract 0 q).extract 1 (p'.extract 0 q).size) := Tf.of (IH _ _ (by omega) (by omega) (by omega))
      have hfit : ¬ ((s.extract 0 e).size : Int) = 0 → (decodeGo s).2 ≤ (s.extract 0 e).size ∧ 1 ≤ (decodeGo s).2 := fun h0 => by
        have h6 : 1 ≤ s.size := by omega
        have h7 := dgo_wid h6
        have h8 := dgo_fw h6
        rcases hk with h9 | h9
        · omega
        · omega
      refine Two.congr (fN := fun k => (YtegbajfmhkmolaaDoor.N.match_match.f k (s.extract 0 e) ((p'.extract 0 q).extract 1 (p'.extract 0 q).size) 0 (.pointer none) (-1) nc).bind fun t => if t = 0 then (if ((s.extract 0 e).size : Int) = 0 then some 0 else YtegbajfmhkmolaaDoor.N.match_match.l0 k ((s.extract 0 e).extract (decodeGo s).2 (s.extract 0 e).size) (p'.extract 0 q) 0 (.pointer none) (-1) nc) else some t)
        (fP := fun c k => (YtegbajfmhkmolaaDoor.P.match_match.f k (s.extract 0 e) ((p'.extract 0 q).extract 1 (p'.extract 0 q).size) sl c lim nc).bind fun b => if b.1 = 0 then (if ((s.extract 0 e).size : Int) = 0 then some (0, b.2) else YtegbajfmhkmolaaDoor.P.match_match.l0 k ((s.extract 0 e).extract (decodeGo s).2 (s.extract 0 e).size) (p'.extract 0 q) sl lim nc b.2) else some (b.1, b.2)) (fun k => ?_) (fun c k => ?_)
        (bindF f1 (fun h0 => IH _ _ (by rw [exs]; have := hfit h0; omega) (by rw [exs]; omega) (by omega)))
      · refine (if_pos (show 1 ≤ ((p'.extract 0 q).size : Int) by omega)).trans (bsame fun t => ?_)
        by_cases ht0 : t = 0
        · rw [if_pos ht0, if_pos ht0]
          by_cases h0 : ((s.extract 0 e).size : Int) = 0
          · rw [if_pos h0, if_pos h0]
          · have := hfit h0
            rw [if_neg h0, if_neg h0, if_pos (by omega), if_pos (by omega), Int.toNat_natCast]
        · rw [if_neg ht0, if_neg ht0]
      · refine (if_pos (show 1 ≤ ((p'.extract 0 q).size : Int) by omega)).trans (bsame fun t => ?_)
        by_cases ht0 : t.1 = 0
        · rw [if_pos ht0, if_pos ht0]
          by_cases h0 : ((s.extract 0 e).size : Int) = 0
          · rw [if_pos h0, if_pos h0]
          · have := hfit h0
            rw [if_neg h0, if_neg h0, if_pos (by omega), if_pos (by omega), Int.toNat_natCast]
        · rw [if_neg ht0, if_neg ht0]
theorem two_l1 : ∀ (m : Nat) (p' : ByteArray), p'.size = m → 1 ≤ p'.size → p'.size ≤ p.size → gl p'.data.toList 0 = 42 →
    Two (fun k => YtegbajfmhkmolaaDoor.N.match_match.l1 k s p' 0 (.pointer none) (-1) nc ((decodeGo s).2 : Int)) (fun c k => YtegbajfmhkmolaaDoor.P.match_match.l1 k s p' sl lim nc ((decodeGo s).2 : Int) c) := by
  intro m
  induction m with
  | zero => intro p' h0 h1; omega
  | succ m ih =>
    intro p' hm h1 h2 h3
    have j4 := two_j4 hs hp IH h1 h2 h3
    by_cases h4 : (p'.size : Int) > 1
    · by_cases h5 : bt p' 1 = 42
      · have e1 : gl (p'.extract 1 p'.size).data.toList 0 = 42 := by
          rw [D.dataD, D.gl_drop, Nat.add_zero]
          have := bt_gl p' 1
          rw [show ((1 : Nat) : Int) = 1 from rfl, h5] at this
          omega
        refine Two.step (fun k => ?_) (fun c k => ?_) (ih (p'.extract 1 p'.size) (by rw [exs]; omega) (by rw [exs]; omega) (by rw [exs]; omega) e1)
        · simp only [YtegbajfmhkmolaaDoor.N.match_match.l1]
          rw [if_pos h4, if_pos (by omega), if_pos h5, if_pos (by omega)]
        · simp only [YtegbajfmhkmolaaDoor.P.match_match.l1]
          rw [if_pos h4, if_pos (by omega), if_pos h5, if_pos (by omega)]
      · refine Two.step (fun k => ?_) (fun c k => ?_) j4
        · simp only [YtegbajfmhkmolaaDoor.N.match_match.l1]
          rw [if_pos h4, if_pos (by omega), if_neg h5]
        · simp only [YtegbajfmhkmolaaDoor.P.match_match.l1]
          rw [if_pos h4, if_pos (by omega), if_neg h5]
    · refine Two.step (fun k => ?_) (fun c k => ?_) j4
      · simp only [YtegbajfmhkmolaaDoor.N.match_match.l1]
        rw [if_neg h4]
      · simp only [YtegbajfmhkmolaaDoor.P.match_match.l1]
        rw [if_neg h4]
omit hs hp in
theorem two_j6 {p' : ByteArray} {pc sc : Int} {ps : Nat} (h1 : 1 ≤ ps) (h2 : ps ≤ p'.size) (h3 : p'.size ≤ p.size) :
    Two (fun k => YtegbajfmhkmolaaDoor.N.match_match.j6 k s p' 0 (.pointer none) (-1) nc false pc (ps : Int) sc ((decodeGo s).2 : Int)) (fun c k => YtegbajfmhkmolaaDoor.P.match_match.j7 k s p' sl lim nc false pc (ps : Int) sc ((decodeGo s).2 : Int) c) := by
  have hd := dgo_le s
  by_cases e : sc = pc
  · refine Two.step (fun k => ?_) (fun c k => ?_) (IH (s.extract (decodeGo s).2 s.size) (p'.extract ps p'.size) (by rw [exs, exs]; omega) (by rw [exs]; omega) (by rw [exs]; omega))
    · simp only [YtegbajfmhkmolaaDoor.N.match_match.j6]
      rw [if_pos e, if_pos (by omega), if_pos (by omega), if_neg (by decide), if_pos (by omega), if_pos (by omega), Int.toNat_natCast, Int.toNat_natCast]
    · simp only [YtegbajfmhkmolaaDoor.P.match_match.j7]
      rw [if_pos e, if_pos (by omega), if_pos (by omega), if_neg (by decide), if_pos (by omega), if_pos (by omega), Int.toNat_natCast, Int.toNat_natCast]
  · refine Two.step (fun k => ?_) (fun c k => ?_) (Two.const (v := 0) (.inl rfl))
    · simp only [YtegbajfmhkmolaaDoor.N.match_match.j6]
      rw [if_neg e]
    · simp only [YtegbajfmhkmolaaDoor.P.match_match.j7]
      rw [if_neg e]
omit hs hp in
theorem two_j5 {p' : ByteArray} {pc sc : Int} {ps : Nat} (h1 : 1 ≤ ps) (h2 : ps ≤ p'.size) (h3 : p'.size ≤ p.size) :
    Two (fun k => YtegbajfmhkmolaaDoor.N.match_match.j5 k s p' 0 (.pointer none) (-1) nc false pc (ps : Int) sc ((decodeGo s).2 : Int)) (fun c k => YtegbajfmhkmolaaDoor.P.match_match.j6 k s p' sl lim nc false pc (ps : Int) sc ((decodeGo s).2 : Int) c) := by
  by_cases e : nc = true
  · obtain ⟨y1, hy1⟩ := D.tolower_some sc
    obtain ⟨y2, hy2⟩ := D.tolower_some pc
    have hy1' : YtegbajfmhkmolaaDoor.P.match_tolower.f sc = some y1 := hy1
    have hy2' : YtegbajfmhkmolaaDoor.P.match_tolower.f pc = some y2 := hy2
    refine Two.step (fun k => ?_) (fun c k => ?_) (two_j6 IH (pc := y2) (sc := y1) h1 h2 h3)
    · simp only [YtegbajfmhkmolaaDoor.N.match_match.j5]
      rw [if_pos e, hy1, hy2]
      rfl
    · simp only [YtegbajfmhkmolaaDoor.P.match_match.j6]
      rw [if_pos e, hy1', hy2']
      rfl
  · refine Two.step (fun k => ?_) (fun c k => ?_) (two_j6 IH (pc := pc) (sc := sc) h1 h2 h3)
    · simp only [YtegbajfmhkmolaaDoor.N.match_match.j5]
      rw [if_neg e]
    · simp only [YtegbajfmhkmolaaDoor.P.match_match.j6]
      rw [if_neg e]
theorem two_j2 (h1 : 1 ≤ p.size) (sc : Int) : Tj2 sl lim nc s p ((decodeGo p).1 : Int) ((decodeGo p).2 : Int) sc ((decodeGo s).2 : Int) := by
  have hd := dgo_le s
  have hw := dgo_wid h1
  by_cases h63 : ((decodeGo p).1 : Int) = 63
  · by_cases h0 : ((decodeGo s).2 : Int) = 0
    · refine Two.step (fun k => ?_) (fun c k => ?_) (Two.const (v := 0) (.inl rfl))
      · simp only [YtegbajfmhkmolaaDoor.N.match_match.j2]
        rw [if_pos h63, if_pos h0]
      · simp only [YtegbajfmhkmolaaDoor.P.match_match.j3]
        rw [if_pos h63, if_pos h0]
    · refine Two.step (fun k => ?_) (fun c k => ?_) (IH (s.extract (decodeGo s).2 s.size) (p.extract (decodeGo p).2 p.size) (by rw [exs, exs]; omega) (by rw [exs]; omega) (by rw [exs]; omega))
      · simp only [YtegbajfmhkmolaaDoor.N.match_match.j2]
        rw [if_pos h63, if_neg h0, if_pos (by omega), if_pos (by omega), if_neg (by decide), if_pos (by omega), if_pos (by omega), Int.toNat_natCast, Int.toNat_natCast]
      · simp only [YtegbajfmhkmolaaDoor.P.match_match.j3]
        rw [if_pos h63, if_neg h0, if_pos (by omega), if_pos (by omega), if_neg (by decide), if_pos (by omega), if_pos (by omega), Int.toNat_natCast, Int.toNat_natCast]
  by_cases h42 : ((decodeGo p).1 : Int) = 42
  · refine Two.step (fun k => ?_) (fun c k => ?_) (two_l1 hs hp IH p.size p rfl h1 (Nat.le_refl _) (star_head h1 h42))
    · simp only [YtegbajfmhkmolaaDoor.N.match_match.j2]
      rw [if_neg h63, if_pos h42]
    · simp only [YtegbajfmhkmolaaDoor.P.match_match.j3]
      rw [if_neg h63, if_pos h42]
  by_cases h0 : ((decodeGo s).2 : Int) = 0
  · refine Two.step (fun k => ?_) (fun c k => ?_) (Two.const (v := 0) (.inl rfl))
    · simp only [YtegbajfmhkmolaaDoor.N.match_match.j2]
      rw [if_neg h63, if_neg h42, if_pos h0]
    · simp only [YtegbajfmhkmolaaDoor.P.match_match.j3]
      rw [if_neg h63, if_neg h42, if_pos h0]
  by_cases h92 : ((decodeGo p).1 : Int) = 92
  · have hz := exs p (decodeGo p).2
    by_cases h2 : ((decodeGo (p.extract (decodeGo p).2 p.size)).2 : Int) = 0
    · refine Two.step (fun k => ?_) (fun c k => ?_) (Two.const (v := 0) (.inl rfl))
      · simp only [YtegbajfmhkmolaaDoor.N.match_match.j2]
        rw [if_neg h63, if_neg h42, if_neg h0, if_pos h92, if_pos (by omega), if_pos (by omega), Int.toNat_natCast]
        unfold YtegbajfmhkmolaaDoor.N.utf8_DecodeRuneInString.f
        simp only [Option.bind_some]
        rw [if_pos h2]
      · simp only [YtegbajfmhkmolaaDoor.P.match_match.j3]
        rw [if_neg h63, if_neg h42, if_neg h0, if_pos h92, if_pos (by omega), if_pos (by omega), Int.toNat_natCast]
        unfold YtegbajfmhkmolaaDoor.P.utf8_DecodeRuneInString.f
        simp only [Option.bind_some]
        rw [if_pos h2]
    · have hle := dgo_le (p.extract (decodeGo p).2 p.size)
      refine Two.step (fun k => ?_) (fun c k => ?_) (two_j5 IH (p' := p.extract (decodeGo p).2 p.size) (pc := ((decodeGo (p.extract (decodeGo p).2 p.size)).1 : Int)) (sc := sc) (ps := (decodeGo (p.extract (decodeGo p).2 p.size)).2) (by omega) hle (by omega))
      · simp only [YtegbajfmhkmolaaDoor.N.match_match.j2]
        rw [if_neg h63, if_neg h42, if_neg h0, if_pos h92, if_pos (by omega), if_pos (by omega), Int.toNat_natCast]
        unfold YtegbajfmhkmolaaDoor.N.utf8_DecodeRuneInString.f
        simp only [Option.bind_some]
        rw [if_neg h2]
      · simp only [YtegbajfmhkmolaaDoor.P.match_match.j3]
        rw [if_neg h63, if_neg h42, if_neg h0, if_pos h92, if_pos (by omega), if_pos (by omega), Int.toNat_natCast]
        unfold YtegbajfmhkmolaaDoor.P.utf8_DecodeRuneInString.f
        simp only [Option.bind_some]
        rw [if_neg h2]
  · refine Two.step (fun k => ?_) (fun c k => ?_) (two_j5 IH (p' := p) (pc := ((decodeGo p).1 : Int)) (sc := sc) (ps := (decodeGo p).2) hw.1 hw.2 (Nat.le_refl _))
    · simp only [YtegbajfmhkmolaaDoor.N.match_match.j2]
      rw [if_neg h63, if_neg h42, if_neg h0, if_neg h92]
    · simp only [YtegbajfmhkmolaaDoor.P.match_match.j3]
      rw [if_neg h63, if_neg h42, if_neg h0, if_neg h92]
omit hs hp IH in
theorem two_all : ∀ (d : Nat) (s p : ByteArray), s.size + p.size = d → s.size ≤ 140737488351232 → p.size ≤ 140737488351232 → Tl sl lim nc s p := by
  intro d
  induction d using Nat.strongRecOn with
  | ind d ih =>
    intro s p hd hs hp
    by_cases h : p.size = 0
    · exact Tl.empty h
    · exact Tl.go (by omega) (two_j2 hs hp (fun s' p' h1 h2 h3 => ih _ (by omega) s' p' rfl (by omega) (by omega)) (by omega))
end
theorem star_limit (s : ByteArray) (lim : Int) (k : Nat) : YtegbajfmhkmolaaDoor.P.impl_MtLimitNoCase.f k s (⟨#[42]⟩ : ByteArray) lim = some (true, false) := by
  unfold YtegbajfmhkmolaaDoor.P.impl_MtLimitNoCase.f YtegbajfmhkmolaaDoor.P.match_MatchLimitNoCase.f YtegbajfmhkmolaaDoor.P.match_matchLimit0.f
  rw [if_pos (by rw [ByteArray.toList_eq])]
  rfl
theorem FnMtNoCaseLimit : YtegbajfmhkmolaaDoor.P.laws_FnMtNoCaseLimit.Pure := by
  intro s p lim hs hp _
  refine Ev.rounds ?_
  have j1t : Ev (fun k => YtegbajfmhkmolaaDoor.P.laws_FnMtNoCaseLimit.j1 k s p lim true) true := Ev.step (f := fun _ => some true) (fun k => by simp only [YtegbajfmhkmolaaDoor.P.laws_FnMtNoCaseLimit.j1]; rw [if_pos trivial]) (Ev.now _)
  have j0t : Ev (fun k => YtegbajfmhkmolaaDoor.P.laws_FnMtNoCaseLimit.j0 k s p lim true) true := Ev.step (f := fun _ => some true) (fun k => by simp only [YtegbajfmhkmolaaDoor.P.laws_FnMtNoCaseLimit.j0]; rw [if_pos trivial]) (Ev.now _)
  unfold YtegbajfmhkmolaaDoor.P.laws_FnMtNoCaseLimit.f
  by_cases h1 : (s.size : Int) > 2147483647
  · exact Ev.congr (fun k => if_pos h1) j0t
  refine Ev.congr (fun k => if_neg h1) ?_
  by_cases h2 : (p.size : Int) > 2147483647
  · exact Ev.congr (fun k => by rw [decide_eq_true h2]) j0t
  refine Ev.congr (f := fun k => YtegbajfmhkmolaaDoor.P.laws_FnMtNoCaseLimit.j0 k s p lim false) (fun k => by rw [decide_eq_false h2]) ?_
  by_cases h3 : (s.size : Int) > 4096
  · exact Ev.step (fun k => by simp only [YtegbajfmhkmolaaDoor.P.laws_FnMtNoCaseLimit.j0]; rw [if_neg (by decide), if_pos h3]) j1t
  by_cases h4 : (p.size : Int) > 4096
  · exact Ev.step (fun k => by simp only [YtegbajfmhkmolaaDoor.P.laws_FnMtNoCaseLimit.j0]; rw [if_neg (by decide), if_neg h3, decide_eq_true h4]) j1t
  refine Ev.step (f := fun k => YtegbajfmhkmolaaDoor.P.laws_FnMtNoCaseLimit.j1 k s p lim false) (fun k => by simp only [YtegbajfmhkmolaaDoor.P.laws_FnMtNoCaseLimit.j0]; rw [if_neg (by decide), if_neg h3, decide_eq_false h4]) ?_
  have fin : ∀ {a b t : Bool}, Ev (fun k => YtegbajfmhkmolaaDoor.P.impl_MtLimitNoCase.f k s p lim) (a, b) → Ev (fun k => YtegbajfmhkmolaaDoor.P.impl_MtNoCase.f k s p) t → (b = true ∧ a = false ∨ b = false ∧ a = t) → Ev (fun k => YtegbajfmhkmolaaDoor.P.laws_FnMtNoCaseLimit.j1 k s p lim false) true := fun {a b t} ha ht h => by
    refine Ev.step (f := fun k => (YtegbajfmhkmolaaDoor.P.impl_MtLimitNoCase.f k s p lim).bind fun bt101 => (if bt101.2 = true then (if bt101.1 = true then (some false) else (some true)) else ((YtegbajfmhkmolaaDoor.P.impl_MtNoCase.f k s p).bind fun t105 => (some (bt101.1 == t105))))) (fun k => ?_) (Ev.bind ha ?_)
    · simp only [YtegbajfmhkmolaaDoor.P.laws_FnMtNoCaseLimit.j1]
      rw [if_neg (by decide), star_limit]
      rfl
    · rcases h with ⟨rfl, rfl⟩ | ⟨rfl, rfl⟩
      · exact Ev.now _
      · exact Ev.congr (fun k => if_neg (by simp)) (Ev_same (Ev.bind ht (Ev.now _)) (by simp))
  by_cases h5 : p.toList = ([42] : List UInt8)
  · refine fin (a := true) (b := false) (t := true) ?_ ?_ (.inr ⟨rfl, rfl⟩)
    · refine Ev.congr (fun k => ?_) (Ev.now _)
      unfold YtegbajfmhkmolaaDoor.P.impl_MtLimitNoCase.f YtegbajfmhkmolaaDoor.P.match_MatchLimitNoCase.f YtegbajfmhkmolaaDoor.P.match_matchLimit0.f
      rw [if_pos h5]
      rfl
    · refine Ev.congr (fun k => ?_) (Ev.now _)
      unfold YtegbajfmhkmolaaDoor.P.impl_MtNoCase.f YtegbajfmhkmolaaDoor.P.match_MatchNoCase.f YtegbajfmhkmolaaDoor.P.match_match0.f YtegbajfmhkmolaaDoor.N.match_match0.f
      rw [if_pos h5]
      rfl
  · have hT := Tf.of (two_all (sl := (s.size : Int)) (lim := lim) (nc := true) _ s p rfl (by omega) (by omega))
    obtain ⟨r', g1, g2, g3⟩ := hT
    obtain ⟨r, c', g4, g5⟩ := g3 0
    have e1 : Ev (fun k => YtegbajfmhkmolaaDoor.P.impl_MtNoCase.f k s p) (r' == 1) := by
      unfold YtegbajfmhkmolaaDoor.P.impl_MtNoCase.f YtegbajfmhkmolaaDoor.P.match_MatchNoCase.f YtegbajfmhkmolaaDoor.P.match_match0.f YtegbajfmhkmolaaDoor.N.match_match0.f
      exact Ev.bind (Ev.bind (Ev.congr (fun k => if_neg h5) (Ev.bind g1 (Ev.now _))) (Ev.now _)) (Ev.now _)
    by_cases h6 : r = 2
    · subst h6
      refine fin (a := false) (b := true) ?_ e1 (.inl ⟨rfl, rfl⟩)
      unfold YtegbajfmhkmolaaDoor.P.impl_MtLimitNoCase.f YtegbajfmhkmolaaDoor.P.match_MatchLimitNoCase.f YtegbajfmhkmolaaDoor.P.match_matchLimit0.f
      exact Ev.bind (Ev.bind (Ev.congr (fun k => if_neg h5) (Ev.bind g4 (Ev.now _))) (Ev.now _)) (Ev.now _)
    · refine fin (a := r == 1) (b := false) ?_ e1 (.inr ⟨rfl, by rw [g5.resolve_left h6]⟩)
      unfold YtegbajfmhkmolaaDoor.P.impl_MtLimitNoCase.f YtegbajfmhkmolaaDoor.P.match_MatchLimitNoCase.f YtegbajfmhkmolaaDoor.P.match_matchLimit0.f
      exact Ev.bind (Ev.bind (Ev.congr (fun k => if_neg h5) (Ev.bind g4 (Ev.congr (fun k => if_neg h6) (Ev.now _)))) (Ev.now _)) (Ev.now _)
end Go.Proofs.YtegbajfmhkmolaaDoor.Pure
