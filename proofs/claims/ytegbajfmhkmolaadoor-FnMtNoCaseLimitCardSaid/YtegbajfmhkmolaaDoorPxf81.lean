-- printed by a turned copy of the kit's print (wip/tools/patch_print.py)
import Derived.Test.YtegbajfmhkmolaaDoorPx0
import Derived.Test.YtegbajfmhkmolaaDoorPxf53
import Derived.Test.YtegbajfmhkmolaaDoorPxf92
import Derived.Test.YtegbajfmhkmolaaDoorPxf91
namespace Go.Proofs.YtegbajfmhkmolaaDoor.P
open Go.RowKit Go.Proofs.YtegbajfmhkmolaaDoorW.PrintWords Go.Proofs.YtegbajfmhkmolaaDoorW.PrintLast Go.Proofs.YtegbajfmhkmolaaDoorW.PrintMore
attribute [local go_sem] max2_int min2_int max_two min_two max_three min_three max_four min_four   -- for this text's walks alone
set_option linter.unusedVariables false
set_option linter.unusedSimpArgs false

/-- A state of type 3 at block g of W; what its slices lead to came in by w0. -/
def IsS3 (w0 W : World) (g : Nat) (f0 : Int) : Prop := W.heap[g]? = some (.cells #[.int .i64 f0] 3 (0, 0)) ∧ w0.heap.size ≤ g
theorem IsS3.grown {w0 W : World} {g : Nat} {f0 : Int} {W1 : World} {row : Option Nat} (h : IsS3 w0 W g f0) (hw : W.grownBy W1 row) (hne : some g ≠ row) : IsS3 w0 W1 g f0 := by
  obtain ⟨hb, hg⟩ := h
  exact ⟨blk_grown hb hw hne, hg⟩
theorem IsS3.own_neN {w0 W : World} {g : Nat} {f0 : Int} {α : Type} {d : Kd α} {e : Nat} {base : Nat} {ok : Nat → Prop} {v : Value} {xs : List α} (h : IsS3 w0 W g f0) (ho : Kd.N d e W base ok v xs) (ht : e ≠ 3) : some g ≠ v.ownBlock := by
  obtain ⟨hb, hg⟩ := h
  exact Kd.N_ne ho hb ht
theorem IsS3.fresh {w0 W : World} {g : Nat} {f0 : Int} (h : IsS3 w0 W g f0) : ∀ k, W.heap.size ≤ k → k ≠ g := by
  obtain ⟨hb, hg⟩ := h
  exact Kd.freshB hb
theorem IsS3.kept {w0 W : World} {g : Nat} {f0 : Int} {W1 : World} {S : Nat → Prop} (h : IsS3 w0 W g f0) (hk : Kept W W1 S) (hne : ¬ S g) : IsS3 w0 W1 g f0 := by
  obtain ⟨hb, hg⟩ := h
  exact ⟨blk_kept hb hk hne, hg⟩
theorem IsS3.below {w0 W : World} {g : Nat} {f0 : Int} {W1 : World} (h : IsS3 w0 W g f0) (hw : Below W.heap.size W W1) : IsS3 w0 W1 g f0 := h.grown (grown_of_below hw none) (by simp)
theorem IsS3.alloc {w0 W : World} {g : Nat} {f0 : Int} (h : IsS3 w0 W g f0) (o : Obj) : IsS3 w0 (W.alloc o) g f0 := h.below (below_alloc (Below.refl _ _) o)
theorem IsS3.drewN {w0 W : World} {g : Nat} {f0 : Int} (h : IsS3 w0 W g f0) (m : Nat) : IsS3 w0 (W.drewN m) g f0 := h
theorem IsS3.drew {w0 W : World} {g : Nat} {f0 : Int} (h : IsS3 w0 W g f0) : IsS3 w0 W.drew g f0 := h
theorem IsS3.at_ {w0 W : World} {g : Nat} {f0 : Int} {w' : World} {m : Nat} (hq : W.drewN m = w') (h : IsS3 w0 W g f0) : IsS3 w0 w' g f0 := by subst hq; exact IsS3.drewN h m
theorem IsS3.apart {w0 W : World} {g : Nat} {f0 : Int} {α : Type} {d : Kd α} {e : Nat} {base : Nat} {ok : Nat → Prop} {v : Value} {xs : List α} (h : IsS3 w0 W g f0) (ho : d.R e W base ok v xs) (ht : ∀ q, q ∈ e :: d.E → q ≠ 3) : d.R e W base (fun k => ok k ∧ k ≠ g) v xs := by
  obtain ⟨hb, hg⟩ := h
  exact Kd.R_types ho hb ht
theorem IsS3.own_ne {w0 W : World} {g : Nat} {f0 : Int} {α : Type} {d : Kd α} {e : Nat} {base : Nat} {ok : Nat → Prop} {v : Value} {xs : List α} (h : IsS3 w0 W g f0) (ho : d.R e W base ok v xs) (ht : e ≠ 3) : some g ≠ v.ownBlock := by
  obtain ⟨hb, hg⟩ := h
  exact Kd.R_ne ho hb ht
theorem IsS3.apartQ {w0 W : World} {g : Nat} {f0 : Int} {α : Type} {d : Kd α} {e : Nat} {base : Nat} {ok : Nat → Prop} {v : Value} {xs : List α} (h : IsS3 w0 W g f0) (ho : d.Q e W base ok v xs) (ht : ∀ q, q ∈ e :: d.E → q ≠ 3) : d.Q e W base (fun k => ok k ∧ k ≠ g) v xs := by
  obtain ⟨hb, hg⟩ := h
  exact Kd.Q_types ho hb ht
theorem IsS3.own_neQ {w0 W : World} {g : Nat} {f0 : Int} {α : Type} {d : Kd α} {e : Nat} {base : Nat} {ok : Nat → Prop} {v : Value} {xs : List α} (h : IsS3 w0 W g f0) (ho : d.Q e W base ok v xs) (ht : e ≠ 3) : some g ≠ v.ownBlock := by
  obtain ⟨hb, hg⟩ := h
  exact Kd.Q_ne ho hb ht
theorem IsS3.apartS {w0 W : World} {g : Nat} {f0 : Int} {α : Type} {d : Kd α} {e : Nat} {base : Nat} {ok : Nat → Prop} {v : Value} {xs : List α} (h : IsS3 w0 W g f0) (ho : d.S e W base ok v xs) (ht : ∀ q, q ∈ e :: d.E → q ≠ 3) : d.S e W base (fun k => ok k ∧ k ≠ g) v xs := by
  obtain ⟨hb, hg⟩ := h
  exact Kd.S_types ho hb ht
theorem IsS3.own_neS {w0 W : World} {g : Nat} {f0 : Int} {α : Type} {d : Kd α} {e : Nat} {base : Nat} {ok : Nat → Prop} {v : Value} {xs : List α} (h : IsS3 w0 W g f0) (ho : d.S e W base ok v xs) (ht : e ≠ 3) : some g ≠ v.ownBlock := by
  obtain ⟨hb, hg⟩ := h
  exact Kd.S_ne ho hb ht
theorem IsS3.lt {w0 W : World} {g : Nat} {f0 : Int} (h : IsS3 w0 W g f0) : g < W.heap.size := by
  obtain ⟨hb, hg⟩ := h
  exact blk_lt hb
theorem IsS3.ge {w0 W : World} {g : Nat} {f0 : Int} (h : IsS3 w0 W g f0) : w0.heap.size ≤ g := by
  obtain ⟨hb, hg⟩ := h
  exact hg
theorem IsS3.ne_blk {w0 W : World} {g : Nat} {f0 : Int} {a : Nat} {cs : Array Value} {t : TypeId} {fr : Nat × Nat} (h : IsS3 w0 W g f0) (hb2 : W.heap[a]? = some (.cells cs t fr)) (ht : t ≠ 3) : g ≠ a := by
  obtain ⟨hb, hg⟩ := h
  rintro rfl
  rw [hb] at hb2
  injection hb2 with hb2
  injection hb2 with _ ht2
  exact ht ht2.symm
theorem IsS3.far {w0 W : World} {g : Nat} {f0 : Int} {p : Addr} (h : IsS3 w0 W g f0) (hne : g ≠ p.block) (u : Value) : IsS3 w0 (W.setCell p u) g f0 := by
  obtain ⟨hb, hg⟩ := h
  exact ⟨blk_far hb hne u, hg⟩
theorem cellS3_0 {W : World} {g : Nat} {f0 : Int} (h : W.heap[g]? = some (.cells #[.int .i64 f0] 3 (0, 0))) : W.cell? ⟨g, 0, none⟩ = some (.int .i64 f0) := (blk_cell h 0).trans rfl
theorem IsS3.set_0 {w0 W : World} {g : Nat} {f0 : Int} (h : IsS3 w0 W g f0) (x : Int) : IsS3 w0 (W.setCell ⟨g, 0, none⟩ (.int .i64 x)) g x := by
  obtain ⟨hb, hg⟩ := h
  exact ⟨by simpa using blk_set hb 0 (.int .i64 x), hg⟩
theorem IsS3.new (w0 W : World) (f0 : Int) (hB : Below w0.heap.size w0 W) : IsS3 w0 (W.alloc (.cells #[.int .i64 f0] 3)) W.heap.size f0 := ⟨by simpa using heap_alloc_new W _, hB.size⟩

/-! ### match_match: function 81 -/
mutual
def match_match.j0 : Nat → ByteArray → ByteArray → Int → Int → Bool → Int → Option (Int × Int)
  | 0, _, _, _, _, _, _ => none
  | k + 1, x0, x1, x2, x4, x5, x4000 => match_match.l0 k x0 x1 x2 x4 x5 x4000
def match_match.l0 : Nat → ByteArray → ByteArray → Int → Int → Bool → Int → Option (Int × Int)
  | 0, _, _, _, _, _, _ => none
  | k + 1, x0, x1, x2, x4, x5, x4000 => if (x1.size : Int) > 0 then (if 0 < (x1.size : Int) then (if (wrap32 (bt x1 0)) > 127 then ((utf8_DecodeRuneInString.f x1).bind fun bt101 => (match_match.j2 k x0 x1 x2 x4 x5 false bt101.1 bt101.2 x4000)) else (match_match.j2 k x0 x1 x2 x4 x5 false (wrap32 (bt x1 0)) 1 x4000)) else (none)) else (if (x0.size : Int) = 0 then (some (1, x4000)) else (some (0, x4000)))
def match_match.j2 : Nat → ByteArray → ByteArray → Int → Int → Bool → Bool → Int → Int → Int → Option (Int × Int)
  | 0, _, _, _, _, _, _, _, _, _ => none
  | k + 1, x0, x1, x2, x4, x5, x13, x14, x15, x4000 => if (x0.size : Int) > 0 then (if 0 < (x0.size : Int) then (if (wrap32 (bt x0 0)) > 127 then ((utf8_DecodeRuneInString.f x0).bind fun bt103 => (match_match.j3 k x0 x1 x2 x4 x5 x13 x14 x15 bt103.1 bt103.2 x4000)) else (match_match.j3 k x0 x1 x2 x4 x5 x13 x14 x15 (wrap32 (bt x0 0)) 1 x4000)) else (none)) else (match_match.j3 k x0 x1 x2 x4 x5 x13 x14 x15 0 0 x4000)
def match_match.j3 : Nat → ByteArray → ByteArray → Int → Int → Bool → Bool → Int → Int → Int → Int → Int → Option (Int × Int)
  | 0, _, _, _, _, _, _, _, _, _, _, _ => none
  | k + 1, x0, x1, x2, x4, x5, x13, x14, x15, x16, x17, x4000 => if x14 = 63 then (if x17 = 0 then (some (0, x4000)) else (if 0 ≤ x17 then (if x17 ≤ (x0.size : Int) then (if x13 = true then (match_match.l0 k (x0.extract (x17 : Int).toNat x0.size) x1 x2 x4 x5 x4000) else (if 0 ≤ x15 then (if x15 ≤ (x1.size : Int) then (match_match.l0 k (x0.extract (x17 : Int).toNat x0.size) (x1.extract (x15 : Int).toNat x1.size) x2 x4 x5 x4000) else (none)) else (none))) else (none)) else (none))) else (if x14 = 42 then (match_match.l1 k x0 x1 x2 x4 x5 x17 x4000) else (if x17 = 0 then (some (0, x4000)) else (if x14 = 92 then (if 0 ≤ x15 then (if x15 ≤ (x1.size : Int) then ((utf8_DecodeRuneInString.f (x1.extract (x15 : Int).toNat x1.size)).bind fun bt110 => (if bt110.2 = 0 then (some (0, x4000)) else (match_match.j6 k x0 (x1.extract (x15 : Int).toNat x1.size) x2 x4 x5 x13 bt110.1 bt110.2 x16 x17 x4000))) else (none)) else (none)) else (match_match.j6 k x0 x1 x2 x4 x5 x13 x14 x15 x16 x17 x4000))))
def match_match.j5 : Nat → ByteArray → ByteArray → Int → Int → Bool → Int → Int → Option (Int × Int)
  | 0, _, _, _, _, _, _, _ => none
  | k + 1, x0, x1, x2, x4, x5, x17, x4000 => if (x1.size : Int) = 1 then (some (1, x4000)) else ((match_matchTrimSuffix.f k x0 x1 x5).bind fun bt105 => (if bt105.2.2 = true then (if (bt105.2.1.size : Int) = 1 then (some (1, x4000)) else (if 1 ≤ (bt105.2.1.size : Int) then ((match_match.f k bt105.1 (bt105.2.1.extract 1 bt105.2.1.size) x2 x4000 x4 x5).bind fun bt108 => (if bt108.1 = 0 then (if (bt105.1.size : Int) = 0 then (some (0, bt108.2)) else (if 0 ≤ x17 then (if x17 ≤ (bt105.1.size : Int) then (match_match.l0 k (bt105.1.extract (x17 : Int).toNat bt105.1.size) bt105.2.1 x2 x4 x5 bt108.2) else (none)) else (none))) else (some (bt108.1, bt108.2)))) else (none))) else (some (0, x4000))))
def match_match.l1 : Nat → ByteArray → ByteArray → Int → Int → Bool → Int → Int → Option (Int × Int)
  | 0, _, _, _, _, _, _, _ => none
  | k + 1, x0, x1, x2, x4, x5, x17, x4000 => if (x1.size : Int) > 1 then (if 1 < (x1.size : Int) then (if (bt x1 1) = 42 then (if 1 ≤ (x1.size : Int) then (match_match.l1 k x0 (x1.extract 1 x1.size) x2 x4 x5 x17 x4000) else (none)) else (match_match.j5 k x0 x1 x2 x4 x5 x17 x4000)) else (none)) else (match_match.j5 k x0 x1 x2 x4 x5 x17 x4000)
def match_match.j6 : Nat → ByteArray → ByteArray → Int → Int → Bool → Bool → Int → Int → Int → Int → Int → Option (Int × Int)
  | 0, _, _, _, _, _, _, _, _, _, _, _ => none
  | k + 1, x0, x1, x2, x4, x5, x13, x14, x15, x16, x17, x4000 => if x5 = true then ((match_tolower.f x16).bind fun t112 => ((match_tolower.f x14).bind fun t113 => (match_match.j7 k x0 x1 x2 x4 x5 x13 t113 x15 t112 x17 x4000))) else (match_match.j7 k x0 x1 x2 x4 x5 x13 x14 x15 x16 x17 x4000)
def match_match.j7 : Nat → ByteArray → ByteArray → Int → Int → Bool → Bool → Int → Int → Int → Int → Int → Option (Int × Int)
  | 0, _, _, _, _, _, _, _, _, _, _, _ => none
  | k + 1, x0, x1, x2, x4, x5, x13, x14, x15, x16, x17, x4000 => if x16 = x14 then (if 0 ≤ x17 then (if x17 ≤ (x0.size : Int) then (if x13 = true then (match_match.l0 k (x0.extract (x17 : Int).toNat x0.size) x1 x2 x4 x5 x4000) else (if 0 ≤ x15 then (if x15 ≤ (x1.size : Int) then (match_match.l0 k (x0.extract (x17 : Int).toNat x0.size) (x1.extract (x15 : Int).toNat x1.size) x2 x4 x5 x4000) else (none)) else (none))) else (none)) else (none)) else (some (0, x4000))
def match_match.f : Nat → ByteArray → ByteArray → Int → Int → Int → Bool → Option (Int × Int)
  | 0, _, _, _, _, _, _ => none
  | k + 1, a0, a1, a2, s3_0, a4, a5 => if a4 > (-1) then (if s3_0 > (wrap64 (a2 * a4)) then (some (2, s3_0)) else (match_match.j0 k a0 a1 a2 a4 a5 (wrap64 (s3_0 + 1)))) else (match_match.j0 k a0 a1 a2 a4 a5 s3_0)
end
theorem match_match.mono_l : ∀ k, (∀ y0 y1 y2 y3 y4 y5, LeO (match_match.f k y0 y1 y2 y3 y4 y5) (match_match.f (k + 1) y0 y1 y2 y3 y4 y5)) ∧ (∀ y0 y1 y2 y3 y4 y5, LeO (match_match.j0 k y0 y1 y2 y3 y4 y5) (match_match.j0 (k + 1) y0 y1 y2 y3 y4 y5)) ∧ (∀ y0 y1 y2 y3 y4 y5, LeO (match_match.l0 k y0 y1 y2 y3 y4 y5) (match_match.l0 (k + 1) y0 y1 y2 y3 y4 y5)) ∧ (∀ y0 y1 y2 y3 y4 y5 y6 y7 y8, LeO (match_match.j2 k y0 y1 y2 y3 y4 y5 y6 y7 y8) (match_match.j2 (k + 1) y0 y1 y2 y3 y4 y5 y6 y7 y8)) ∧ (∀ y0 y1 y2 y3 y4 y5 y6 y7 y8 y9 y10, LeO (match_match.j3 k y0 y1 y2 y3 y4 y5 y6 y7 y8 y9 y10) (match_match.j3 (k + 1) y0 y1 y2 y3 y4 y5 y6 y7 y8 y9 y10)) ∧ (∀ y0 y1 y2 y3 y4 y5 y6, LeO (match_match.j5 k y0 y1 y2 y3 y4 y5 y6) (match_match.j5 (k + 1) y0 y1 y2 y3 y4 y5 y6)) ∧ (∀ y0 y1 y2 y3 y4 y5 y6, LeO (match_match.l1 k y0 y1 y2 y3 y4 y5 y6) (match_match.l1 (k + 1) y0 y1 y2 y3 y4 y5 y6)) ∧ (∀ y0 y1 y2 y3 y4 y5 y6 y7 y8 y9 y10, LeO (match_match.j6 k y0 y1 y2 y3 y4 y5 y6 y7 y8 y9 y10) (match_match.j6 (k + 1) y0 y1 y2 y3 y4 y5 y6 y7 y8 y9 y10)) ∧ (∀ y0 y1 y2 y3 y4 y5 y6 y7 y8 y9 y10, LeO (match_match.j7 k y0 y1 y2 y3 y4 y5 y6 y7 y8 y9 y10) (match_match.j7 (k + 1) y0 y1 y2 y3 y4 y5 y6 y7 y8 y9 y10))
  | 0 => ⟨fun _ _ _ _ _ _ r h => by simp [match_match.f] at h, fun _ _ _ _ _ _ r h => by simp [match_match.j0] at h, fun _ _ _ _ _ _ r h => by simp [match_match.l0] at h, fun _ _ _ _ _ _ _ _ _ r h => by simp [match_match.j2] at h, fun _ _ _ _ _ _ _ _ _ _ _ r h => by simp [match_match.j3] at h, fun _ _ _ _ _ _ _ r h => by simp [match_match.j5] at h, fun _ _ _ _ _ _ _ r h => by simp [match_match.l1] at h, fun _ _ _ _ _ _ _ _ _ _ _ r h => by simp [match_match.j6] at h, fun _ _ _ _ _ _ _ _ _ _ _ r h => by simp [match_match.j7] at h⟩
  | k + 1 => by
    obtain ⟨ih0, ih1, ih2, ih3, ih4, ih5, ih6, ih7, ih8⟩ := match_match.mono_l k
    refine ⟨?_, ?_, ?_, ?_, ?_, ?_, ?_, ?_, ?_⟩
    · intro y0 y1 y2 y3 y4 y5
      unfold match_match.f
      repeat' first
      | (with_reducible exact ih0 _ _ _ _ _ _)
      | (with_reducible exact ih1 _ _ _ _ _ _)
      | (with_reducible exact ih2 _ _ _ _ _ _)
      | (with_reducible exact ih3 _ _ _ _ _ _ _ _ _)
      | (with_reducible exact ih4 _ _ _ _ _ _ _ _ _ _ _)
      | (with_reducible exact ih5 _ _ _ _ _ _ _)
      | (with_reducible exact ih6 _ _ _ _ _ _ _)
      | (with_reducible exact ih7 _ _ _ _ _ _ _ _ _ _ _)
      | (with_reducible exact ih8 _ _ _ _ _ _ _ _ _ _ _)
      | (with_reducible exact match_matchTrimSuffix.mono _ _ _ _)
      | (with_reducible exact LeO.refl _)
      | (with_reducible exact LeO.none _)
      | (with_reducible refine LeO.ite ?_ ?_)
      | (with_reducible refine LeO.bind ?_ (fun _ => ?_))
      | exact ih0 _ _ _ _ _ _
      | exact ih1 _ _ _ _ _ _
      | exact ih2 _ _ _ _ _ _
      | exact ih3 _ _ _ _ _ _ _ _ _
      | exact ih4 _ _ _ _ _ _ _ _ _ _ _
      | exact ih5 _ _ _ _ _ _ _
      | exact ih6 _ _ _ _ _ _ _
      | exact ih7 _ _ _ _ _ _ _ _ _ _ _
      | exact ih8 _ _ _ _ _ _ _ _ _ _ _
      | exact match_matchTrimSuffix.mono _ _ _ _
      | exact LeO.none _
      | refine LeO.ite ?_ ?_
      | refine LeO.bind ?_ (fun _ => ?_)
    · intro y0 y1 y2 y3 y4 y5
      unfold match_match.j0
      repeat' first
      | (with_reducible exact ih0 _ _ _ _ _ _)
      | (with_reducible exact ih1 _ _ _ _ _ _)
      | (with_reducible exact ih2 _ _ _ _ _ _)
      | (with_reducible exact ih3 _ _ _ _ _ _ _ _ _)
      | (with_reducible exact ih4 _ _ _ _ _ _ _ _ _ _ _)
      | (with_reducible exact ih5 _ _ _ _ _ _ _)
      | (with_reducible exact ih6 _ _ _ _ _ _ _)
      | (with_reducible exact ih7 _ _ _ _ _ _ _ _ _ _ _)
      | (with_reducible exact ih8 _ _ _ _ _ _ _ _ _ _ _)
      | (with_reducible exact match_matchTrimSuffix.mono _ _ _ _)
      | (with_reducible exact LeO.refl _)
      | (with_reducible exact LeO.none _)
      | (with_reducible refine LeO.ite ?_ ?_)
      | (with_reducible refine LeO.bind ?_ (fun _ => ?_))
      | exact ih0 _ _ _ _ _ _
      | exact ih1 _ _ _ _ _ _
      | exact ih2 _ _ _ _ _ _
      | exact ih3 _ _ _ _ _ _ _ _ _
      | exact ih4 _ _ _ _ _ _ _ _ _ _ _
      | exact ih5 _ _ _ _ _ _ _
      | exact ih6 _ _ _ _ _ _ _
      | exact ih7 _ _ _ _ _ _ _ _ _ _ _
      | exact ih8 _ _ _ _ _ _ _ _ _ _ _
      | exact match_matchTrimSuffix.mono _ _ _ _
      | exact LeO.none _
      | refine LeO.ite ?_ ?_
      | refine LeO.bind ?_ (fun _ => ?_)
    · intro y0 y1 y2 y3 y4 y5
      unfold match_match.l0
      repeat' first
      | (with_reducible exact ih0 _ _ _ _ _ _)
      | (with_reducible exact ih1 _ _ _ _ _ _)
      | (with_reducible exact ih2 _ _ _ _ _ _)
      | (with_reducible exact ih3 _ _ _ _ _ _ _ _ _)
      | (with_reducible exact ih4 _ _ _ _ _ _ _ _ _ _ _)
      | (with_reducible exact ih5 _ _ _ _ _ _ _)
      | (with_reducible exact ih6 _ _ _ _ _ _ _)
      | (with_reducible exact ih7 _ _ _ _ _ _ _ _ _ _ _)
      | (with_reducible exact ih8 _ _ _ _ _ _ _ _ _ _ _)
      | (with_reducible exact match_matchTrimSuffix.mono _ _ _ _)
      | (with_reducible exact LeO.refl _)
      | (with_reducible exact LeO.none _)
      | (with_reducible refine LeO.ite ?_ ?_)
      | (with_reducible refine LeO.bind ?_ (fun _ => ?_))
      | exact ih0 _ _ _ _ _ _
      | exact ih1 _ _ _ _ _ _
      | exact ih2 _ _ _ _ _ _
      | exact ih3 _ _ _ _ _ _ _ _ _
      | exact ih4 _ _ _ _ _ _ _ _ _ _ _
      | exact ih5 _ _ _ _ _ _ _
      | exact ih6 _ _ _ _ _ _ _
      | exact ih7 _ _ _ _ _ _ _ _ _ _ _
      | exact ih8 _ _ _ _ _ _ _ _ _ _ _
      | exact match_matchTrimSuffix.mono _ _ _ _
      | exact LeO.none _
      | refine LeO.ite ?_ ?_
      | refine LeO.bind ?_ (fun _ => ?_)
    · intro y0 y1 y2 y3 y4 y5 y6 y7 y8
      unfold match_match.j2
      repeat' first
      | (with_reducible exact ih0 _ _ _ _ _ _)
      | (with_reducible exact ih1 _ _ _ _ _ _)
      | (with_reducible exact ih2 _ _ _ _ _ _)
      | (with_reducible exact ih3 _ _ _ _ _ _ _ _ _)
      | (with_reducible exact ih4 _ _ _ _ _ _ _ _ _ _ _)
      | (with_reducible exact ih5 _ _ _ _ _ _ _)
      | (with_reducible exact ih6 _ _ _ _ _ _ _)
      | (with_reducible exact ih7 _ _ _ _ _ _ _ _ _ _ _)
      | (with_reducible exact ih8 _ _ _ _ _ _ _ _ _ _ _)
      | (with_reducible exact match_matchTrimSuffix.mono _ _ _ _)
      | (with_reducible exact LeO.refl _)
      | (with_reducible exact LeO.none _)
      | (with_reducible refine LeO.ite ?_ ?_)
      | (with_reducible refine LeO.bind ?_ (fun _ => ?_))
      | exact ih0 _ _ _ _ _ _
      | exact ih1 _ _ _ _ _ _
      | exact ih2 _ _ _ _ _ _
      | exact ih3 _ _ _ _ _ _ _ _ _
      | exact ih4 _ _ _ _ _ _ _ _ _ _ _
      | exact ih5 _ _ _ _ _ _ _
      | exact ih6 _ _ _ _ _ _ _
      | exact ih7 _ _ _ _ _ _ _ _ _ _ _
      | exact ih8 _ _ _ _ _ _ _ _ _ _ _
      | exact match_matchTrimSuffix.mono _ _ _ _
      | exact LeO.none _
      | refine LeO.ite ?_ ?_
      | refine LeO.bind ?_ (fun _ => ?_)
    · intro y0 y1 y2 y3 y4 y5 y6 y7 y8 y9 y10
      unfold match_match.j3
      repeat' first
      | (with_reducible exact ih0 _ _ _ _ _ _)
      | (with_reducible exact ih1 _ _ _ _ _ _)
      | (with_reducible exact ih2 _ _ _ _ _ _)
      | (with_reducible exact ih3 _ _ _ _ _ _ _ _ _)
      | (with_reducible exact ih4 _ _ _ _ _ _ _ _ _ _ _)
      | (with_reducible exact ih5 _ _ _ _ _ _ _)
      | (with_reducible exact ih6 _ _ _ _ _ _ _)
      | (with_reducible exact ih7 _ _ _ _ _ _ _ _ _ _ _)
      | (with_reducible exact ih8 _ _ _ _ _ _ _ _ _ _ _)
      | (with_reducible exact match_matchTrimSuffix.mono _ _ _ _)
      | (with_reducible exact LeO.refl _)
      | (with_reducible exact LeO.none _)
      | (with_reducible refine LeO.ite ?_ ?_)
      | (with_reducible refine LeO.bind ?_ (fun _ => ?_))
      | exact ih0 _ _ _ _ _ _
      | exact ih1 _ _ _ _ _ _
      | exact ih2 _ _ _ _ _ _
      | exact ih3 _ _ _ _ _ _ _ _ _
      | exact ih4 _ _ _ _ _ _ _ _ _ _ _
      | exact ih5 _ _ _ _ _ _ _
      | exact ih6 _ _ _ _ _ _ _
      | exact ih7 _ _ _ _ _ _ _ _ _ _ _
      | exact ih8 _ _ _ _ _ _ _ _ _ _ _
      | exact match_matchTrimSuffix.mono _ _ _ _
      | exact LeO.none _
      | refine LeO.ite ?_ ?_
      | refine LeO.bind ?_ (fun _ => ?_)
    · intro y0 y1 y2 y3 y4 y5 y6
      unfold match_match.j5
      repeat' first
      | (with_reducible exact ih0 _ _ _ _ _ _)
      | (with_reducible exact ih1 _ _ _ _ _ _)
      | (with_reducible exact ih2 _ _ _ _ _ _)
      | (with_reducible exact ih3 _ _ _ _ _ _ _ _ _)
      | (with_reducible exact ih4 _ _ _ _ _ _ _ _ _ _ _)
      | (with_reducible exact ih5 _ _ _ _ _ _ _)
      | (with_reducible exact ih6 _ _ _ _ _ _ _)
      | (with_reducible exact ih7 _ _ _ _ _ _ _ _ _ _ _)
      | (with_reducible exact ih8 _ _ _ _ _ _ _ _ _ _ _)
      | (with_reducible exact match_matchTrimSuffix.mono _ _ _ _)
      | (with_reducible exact LeO.refl _)
      | (with_reducible exact LeO.none _)
      | (with_reducible refine LeO.ite ?_ ?_)
      | (with_reducible refine LeO.bind ?_ (fun _ => ?_))
      | exact ih0 _ _ _ _ _ _
      | exact ih1 _ _ _ _ _ _
      | exact ih2 _ _ _ _ _ _
      | exact ih3 _ _ _ _ _ _ _ _ _
      | exact ih4 _ _ _ _ _ _ _ _ _ _ _
      | exact ih5 _ _ _ _ _ _ _
      | exact ih6 _ _ _ _ _ _ _
      | exact ih7 _ _ _ _ _ _ _ _ _ _ _
      | exact ih8 _ _ _ _ _ _ _ _ _ _ _
      | exact match_matchTrimSuffix.mono _ _ _ _
      | exact LeO.none _
      | refine LeO.ite ?_ ?_
      | refine LeO.bind ?_ (fun _ => ?_)
    · intro y0 y1 y2 y3 y4 y5 y6
      unfold match_match.l1
      repeat' first
      | (with_reducible exact ih0 _ _ _ _ _ _)
      | (with_reducible exact ih1 _ _ _ _ _ _)
      | (with_reducible exact ih2 _ _ _ _ _ _)
      | (with_reducible exact ih3 _ _ _ _ _ _ _ _ _)
      | (with_reducible exact ih4 _ _ _ _ _ _ _ _ _ _ _)
      | (with_reducible exact ih5 _ _ _ _ _ _ _)
      | (with_reducible exact ih6 _ _ _ _ _ _ _)
      | (with_reducible exact ih7 _ _ _ _ _ _ _ _ _ _ _)
      | (with_reducible exact ih8 _ _ _ _ _ _ _ _ _ _ _)
      | (with_reducible exact match_matchTrimSuffix.mono _ _ _ _)
      | (with_reducible exact LeO.refl _)
      | (with_reducible exact LeO.none _)
      | (with_reducible refine LeO.ite ?_ ?_)
      | (with_reducible refine LeO.bind ?_ (fun _ => ?_))
      | exact ih0 _ _ _ _ _ _
      | exact ih1 _ _ _ _ _ _
      | exact ih2 _ _ _ _ _ _
      | exact ih3 _ _ _ _ _ _ _ _ _
      | exact ih4 _ _ _ _ _ _ _ _ _ _ _
      | exact ih5 _ _ _ _ _ _ _
      | exact ih6 _ _ _ _ _ _ _
      | exact ih7 _ _ _ _ _ _ _ _ _ _ _
      | exact ih8 _ _ _ _ _ _ _ _ _ _ _
      | exact match_matchTrimSuffix.mono _ _ _ _
      | exact LeO.none _
      | refine LeO.ite ?_ ?_
      | refine LeO.bind ?_ (fun _ => ?_)
    · intro y0 y1 y2 y3 y4 y5 y6 y7 y8 y9 y10
      unfold match_match.j6
      repeat' first
      | (with_reducible exact ih0 _ _ _ _ _ _)
      | (with_reducible exact ih1 _ _ _ _ _ _)
      | (with_reducible exact ih2 _ _ _ _ _ _)
      | (with_reducible exact ih3 _ _ _ _ _ _ _ _ _)
      | (with_reducible exact ih4 _ _ _ _ _ _ _ _ _ _ _)
      | (with_reducible exact ih5 _ _ _ _ _ _ _)
      | (with_reducible exact ih6 _ _ _ _ _ _ _)
      | (with_reducible exact ih7 _ _ _ _ _ _ _ _ _ _ _)
      | (with_reducible exact ih8 _ _ _ _ _ _ _ _ _ _ _)
      | (with_reducible exact match_matchTrimSuffix.mono _ _ _ _)
      | (with_reducible exact LeO.refl _)
      | (with_reducible exact LeO.none _)
      | (with_reducible refine LeO.ite ?_ ?_)
      | (with_reducible refine LeO.bind ?_ (fun _ => ?_))
      | exact ih0 _ _ _ _ _ _
      | exact ih1 _ _ _ _ _ _
      | exact ih2 _ _ _ _ _ _
      | exact ih3 _ _ _ _ _ _ _ _ _
      | exact ih4 _ _ _ _ _ _ _ _ _ _ _
      | exact ih5 _ _ _ _ _ _ _
      | exact ih6 _ _ _ _ _ _ _
      | exact ih7 _ _ _ _ _ _ _ _ _ _ _
      | exact ih8 _ _ _ _ _ _ _ _ _ _ _
      | exact match_matchTrimSuffix.mono _ _ _ _
      | exact LeO.none _
      | refine LeO.ite ?_ ?_
      | refine LeO.bind ?_ (fun _ => ?_)
    · intro y0 y1 y2 y3 y4 y5 y6 y7 y8 y9 y10
      unfold match_match.j7
      repeat' first
      | (with_reducible exact ih0 _ _ _ _ _ _)
      | (with_reducible exact ih1 _ _ _ _ _ _)
      | (with_reducible exact ih2 _ _ _ _ _ _)
      | (with_reducible exact ih3 _ _ _ _ _ _ _ _ _)
      | (with_reducible exact ih4 _ _ _ _ _ _ _ _ _ _ _)
      | (with_reducible exact ih5 _ _ _ _ _ _ _)
      | (with_reducible exact ih6 _ _ _ _ _ _ _)
      | (with_reducible exact ih7 _ _ _ _ _ _ _ _ _ _ _)
      | (with_reducible exact ih8 _ _ _ _ _ _ _ _ _ _ _)
      | (with_reducible exact match_matchTrimSuffix.mono _ _ _ _)
      | (with_reducible exact LeO.refl _)
      | (with_reducible exact LeO.none _)
      | (with_reducible refine LeO.ite ?_ ?_)
      | (with_reducible refine LeO.bind ?_ (fun _ => ?_))
      | exact ih0 _ _ _ _ _ _
      | exact ih1 _ _ _ _ _ _
      | exact ih2 _ _ _ _ _ _
      | exact ih3 _ _ _ _ _ _ _ _ _
      | exact ih4 _ _ _ _ _ _ _ _ _ _ _
      | exact ih5 _ _ _ _ _ _ _
      | exact ih6 _ _ _ _ _ _ _
      | exact ih7 _ _ _ _ _ _ _ _ _ _ _
      | exact ih8 _ _ _ _ _ _ _ _ _ _ _
      | exact match_matchTrimSuffix.mono _ _ _ _
      | exact LeO.none _
      | refine LeO.ite ?_ ?_
      | refine LeO.bind ?_ (fun _ => ?_)
theorem match_match.mono : ∀ a0 a1 a2 a3 a4 a5 k, LeO (match_match.f k a0 a1 a2 a3 a4 a5) (match_match.f (k + 1) a0 a1 a2 a3 a4 a5) := by
  intro a0 a1 a2 a3 a4 a5 k
  obtain ⟨ih0, ih1, ih2, ih3, ih4, ih5, ih6, ih7, ih8⟩ := match_match.mono_l k
  exact ih0 a0 a1 a2 a3 a4 a5
set_option maxHeartbeats 8000000 in
set_option maxRecDepth 100000 in
theorem match_match.calls (k : Nat) : ∀ (a0 : ByteArray) (a1 : ByteArray) (a2 : Int) (g : Nat) (s3_0 : Int) (a4 : Int) (a5 : Bool) (r1 : Int) (r2 : Int) (w0 w : World) (hI : IsS3 w0 w g s3_0) (hB : Below w0.heap.size w0 w) (hG : Laid w0) (h : match_match.f k a0 a1 a2 s3_0 a4 a5 = some (r1, r2)),
    Calls Tryd.prog 81 #[.string a0, .string a1, .int .i64 a2, .pointer (some ⟨g, 0, none⟩), .int .i64 a4, .bool a5] w fun e w' => e = .returned (.int .i64 r1) ∧ IsS3 w0 w' g r2 ∧ Below w0.heap.size w0 w' ∧ KeepBut w w' g none := by
  induction k using Nat.strongRecOn with
  | _ k ih =>
  intro a0 a1 a2 g s3_0 a4 a5 r1 r2 w0 w hI hB hG h
  cases k with
  | zero => exact absurd h (by simp [match_match.f])
  | succ k =>
  simp only [match_match.f] at h
  have HG := Aside0.mk hG
  clear hG
  have HI3 := Aside0.mk hI
  have HK := Aside0.mk (KeepBut.refl w g none)
  have HL := Aside0.mk hB.size
  clear hI
  have HW0 := Aside0.mk hB.size
  have HB := Aside0.mk hB
  clear hB
  have H : (if a4 > (-1) then (if s3_0 > (wrap64 (a2 * a4)) then (some (2, s3_0)) else (match_match.j0 k a0 a1 a2 a4 a5 (wrap64 (s3_0 + 1)))) else (match_match.j0 k a0 a1 a2 a4 a5 s3_0)) = some (r1, r2) := h
  clear h
  have HC7 := Aside0.mk H
  clear H
  go_enter Tryd.func81, Tryd.ntmps81
  go_upto_if 21 with (fail)
  go_cut [] (fun wc => ∃ (kq : Nat) (x4000_6 : Int), Aside0 (match_match.j0 kq a0 a1 a2 a4 a5 x4000_6 = some (r1, r2)) ∧ Aside0 (kq ≤ k) ∧ Aside0 (IsS3 w0 wc g x4000_6) ∧ Aside0 (KeepBut w wc g none) ∧ Aside0 (Below w0.heap.size w0 wc))
  case first =>
    have H := HC7.out
    clear HC7
    by_cases c8 : a4 > (-1)
    · rw [if_pos c8] at H
      have c8b0 : decide ((-1) < a4) = true := decide_eq_true c8
      clear c8
      (first | rw [c8b0] | (simp only [i64_w, i32_w]; rw [c8b0]) | skip)
      by_cases c9 : s3_0 > (wrap64 (a2 * a4))
      · rw [if_pos c9] at H
        have c9b0 : decide ((wrap64 (a2 * a4)) < s3_0) = true := decide_eq_true c9
        clear c9
        simp only [Option.some.injEq, Prod.mk.injEq] at H
        obtain ⟨rfl, rfl⟩ := H
        obtain ⟨HGz10, hgz10⟩ := HI3.out
        have hcz10_0 := cellS3_0 HGz10
        have hfz10_0 := blk_frozen HGz10 0
        clear HGz10 hgz10
        go_wp2
        go_ret
        exact ⟨by first | rfl | (simp [errW_none, errW_some] <;> rfl) | (simp [*, errW_none, errW_some] <;> rfl), by repeat (first | (with_reducible first | exact HI3.out | apply IsS3.alloc | apply IsS3.drewN | apply IsS3.drew | apply IsS3.set_0) | exact HI3.out), by repeat (first | (with_reducible first | exact HB.out | apply below_alloc | apply pw_below_drewN | apply below_drew1 | refine below_set ?_ (IsS3.ge HI3.out)) | exact HB.out), by repeat (first | (with_reducible first | exact HK.out | apply KeepBut.set_ | apply keep_drewN | apply keep_drew | apply keep_alloc) | exact HK.out)⟩
      · rw [if_neg c9] at H
        have c9b0 : decide ((wrap64 (a2 * a4)) < s3_0) = false := decide_eq_false c9
        clear c9
        have H' := Aside0.mk H
        clear H
        obtain ⟨HGz11, hgz11⟩ := HI3.out
        have hcz11_0 := cellS3_0 HGz11
        have hfz11_0 := blk_frozen HGz11 0
        clear HGz11 hgz11
        go_wp2
        go_meet
        case rel => exact ⟨_, (wrap64 (s3_0 + 1)), H', ⟨by first | omega | exact Nat.le_refl _⟩, ⟨by repeat (first | (with_reducible first | exact HI3.out | apply IsS3.alloc | apply IsS3.drewN | apply IsS3.drew | apply IsS3.set_0) | exact HI3.out)⟩, ⟨by repeat (first | (with_reducible first | exact HK.out | apply KeepBut.set_ | apply keep_drewN | apply keep_drew | apply keep_alloc) | exact HK.out)⟩, ⟨by repeat (first | (with_reducible first | exact HB.out | apply below_alloc | apply pw_below_drewN | apply below_drew1 | refine below_set ?_ (IsS3.ge HI3.out)) | exact HB.out)⟩⟩
    · rw [if_neg c8] at H
      have c8b0 : decide ((-1) < a4) = false := decide_eq_false c8
      clear c8
      (first | rw [c8b0] | (simp only [i64_w, i32_w]; rw [c8b0]) | skip)
      have H' := Aside0.mk H
      clear H
      go_wp2
      go_meet
      case rel => exact ⟨_, (s3_0), H', ⟨by first | omega | exact Nat.le_refl _⟩, ⟨by repeat (first | (with_reducible first | exact HI3.out | apply IsS3.alloc | apply IsS3.drewN | apply IsS3.drew | apply IsS3.set_0) | exact HI3.out)⟩, ⟨by repeat (first | (with_reducible first | exact HK.out | apply KeepBut.set_ | apply keep_drewN | apply keep_drew | apply keep_alloc) | exact HK.out)⟩, ⟨by repeat (first | (with_reducible first | exact HB.out | apply below_alloc | apply pw_below_drewN | apply below_drew1 | refine below_set ?_ (IsS3.ge HI3.out)) | exact HB.out)⟩⟩
  case rest =>
    clear HC7
    try clear p2
    try clear p6
    try clear c8
    try clear c8b0
    try clear c9
    try clear c9b0
    try clear hcz10_0
    try clear hcz11_0
    try clear hfz10_0
    try clear hfz11_0
    obtain ⟨kq, x4000_6, HA, HJ6, HI3, HK, HB⟩ := hcut
    cases kq with
    | zero => exact absurd HA.out (by simp [match_match.j0])
    | succ kj6 =>
      have H := HA.out
      clear HA
      simp only [match_match.j0] at H
      have H' := Aside0.mk H
      clear H
      go_wp2
      go_loopg [0, 1] kj6 (fun kq v0 v1 w' => ∃ (x0_2 : ByteArray) (x1_2 : ByteArray) (x4000_2 : Int), v0 = .string x0_2 ∧ v1 = .string x1_2 ∧ Aside0 (match_match.l0 kq x0_2 x1_2 a2 a4 a5 x4000_2 = some (r1, r2)) ∧ Aside0 (kq ≤ kj6) ∧ Aside0 (IsS3 w0 w' g x4000_2) ∧ Aside0 (KeepBut w w' g none) ∧ Aside0 (Below w0.heap.size w0 w'))
      case atStart => exact ⟨(a0), (a1), (x4000_6), (by first | rfl | (simp; done) | (simp [*]; done)), (by first | rfl | (simp; done) | (simp [*]; done)), H', ⟨Nat.le_refl _⟩, ⟨by repeat (first | (with_reducible first | exact HI3.out | apply IsS3.alloc | apply IsS3.drewN | apply IsS3.drew | apply IsS3.set_0) | exact HI3.out)⟩, ⟨by repeat (first | (with_reducible first | exact HK.out | apply KeepBut.set_ | apply keep_drewN | apply keep_drew | apply keep_alloc) | exact HK.out)⟩, ⟨by repeat (first | (with_reducible first | exact HB.out | apply below_alloc | apply pw_below_drewN | apply below_drew1 | refine below_set ?_ (IsS3.ge HI3.out)) | exact HB.out)⟩⟩
      case round =>
        clear H'
        try clear p2
        try clear p6
        try clear c8
        try clear c8b0
        try clear c9
        try clear c9b0
        try clear hcz10_0
        try clear hcz11_0
        try clear hfz10_0
        try clear hfz11_0
        try clear p2
        try clear p6
        obtain ⟨x0_2, x1_2, x4000_2, rfl, rfl, HA, HK2, HI3, HK, HB⟩ := hrel
        cases gk with
        | zero => exact absurd HA.out (by simp [match_match.l0])
        | succ k2 =>
          have H := HA.out
          clear HA
          simp only [match_match.l0] at H
          by_cases c12 : (x1_2.size : Int) > 0
          · rw [if_pos c12] at H
            have c12b0 : decide (0 < (x1_2.size : Int)) = true := decide_eq_true c12
            have c12b1 : decide (0 < x1_2.size) = true := decide_eq_true (by omega)
            clear c12
            by_cases c13 : 0 < (x1_2.size : Int)
            · rw [if_pos c13] at H
              have c13b0 : decide (0 < (x1_2.size : Int)) = true := decide_eq_true c13
              have c13b1 : decide (0 < x1_2.size) = true := decide_eq_true (by omega)
              clear c13
              have HC15 := Aside0.mk H
              clear H
              have p14 : 0 ≤ (0 : Int) := (by omega)
              have q14 : 0 < x1_2.size := (by have : (0 : Int) < (x1_2.size : Int) := of_decide_eq_true (by first | (with_reducible assumption) | assumption); omega)
              have hx14 : ∀ h : 0 < x1_2.size, ((x1_2[0]'h).toNat : Int) = bt x1_2 0 := bt_at x1_2 0
              clear p14
              have qi14 : (0 < (x1_2.size : Int)) = True := eq_true (of_decide_eq_true (by first | (with_reducible assumption) | assumption))
              replace q14 := eq_true q14
              go_upto_if 41 with (fail)
              go_cut [14, 15] (fun v14 v15 wc => ∃ (kq : Nat) (x14_14 : Int) (x15_14 : Int), v14 = .int .i32 x14_14 ∧ v15 = .int .i64 x15_14 ∧ Aside0 (match_match.j2 kq x0_2 x1_2 a2 a4 a5 false x14_14 x15_14 x4000_2 = some (r1, r2)) ∧ Aside0 (kq ≤ k2) ∧ Aside0 (IsS3 w0 wc g x4000_2) ∧ Aside0 (KeepBut w wc g none) ∧ Aside0 (Below w0.heap.size w0 wc))
              case first =>
                have H := HC15.out
                clear HC15
                by_cases c16 : (wrap32 (bt x1_2 0)) > 127
                · rw [if_pos c16] at H
                  have c16b0 : decide (127 < (wrap32 (bt x1_2 0))) = true := decide_eq_true c16
                  clear c16
                  (first | rw [c16b0] | (simp only [i64_w, i32_w]; rw [c16b0]) | skip)
                  replace H := Option.bind_eq_some_iff.mp H
                  obtain ⟨⟨t101, t102⟩, A170, H⟩ := H
                  replace H : (match_match.j2 k2 x0_2 x1_2 a2 a4 a5 false t101 t102 x4000_2) = some (r1, r2) := H
                  have A17 := Aside0.mk A170
                  clear A170
                  have H' := Aside0.mk H
                  clear H
                  go_wp2_with (first | ((with_reducible refine gate_callee (f := 53) rfl ?_); refine goesL_ (some 44) rfl rfl Tryd.func53 (by kernel_rfl) rfl #[.string x1_2] rfl (by (try simp only [List.map_toArray, List.map_cons, List.map_nil]); first | done | rfl | (simp only [List.length_drop, List.length_take]; rfl)) ?_; (with_reducible refine (utf8_DecodeRuneInString.calls x1_2 t101 t102 _ ?side1 A17.out).mono ?_); (case side1 => first | exact HG.out | exact Laid.below HG.out (by repeat (first | (with_reducible first | exact HB.out | apply below_alloc | apply pw_below_drewN | apply below_drew1 | refine below_set ?_ (IsS3.ge HI3.out)) | exact HB.out))); rintro e w18 ⟨rfl, hb⟩; refine ⟨_, rfl, ?_⟩; have n0_ := Aside0.mk (IsS3.below (by repeat (first | (with_reducible first | exact HI3.out | apply IsS3.alloc | apply IsS3.drewN | apply IsS3.drew | apply IsS3.set_0) | exact HI3.out)) hb); have n1_ := Aside0.mk (KeepBut.trans (by repeat (first | (with_reducible first | exact HK.out | apply KeepBut.set_ | apply keep_drewN | apply keep_drew | apply keep_alloc) | exact HK.out)) (KeepBut.of_below hb g none) (.inl rfl)); have n2_ := Aside0.mk (below_step (by repeat (first | (with_reducible first | exact HB.out | apply below_alloc | apply pw_below_drewN | apply below_drew1 | refine below_set ?_ (IsS3.ge HI3.out)) | exact HB.out)) hb); clear HI3; clear HK; clear HB; have HI3 := n0_; have HK := n1_; have HB := n2_; clear n0_ n1_ n2_; (try clear hb); (try clear hb2); (try clear hk); (try clear hi)))
                  go_meet
                  case rel => exact ⟨_, (t101), (t102), (by first | rfl | (simp; done) | (simp [*]; done)), (by first | rfl | (simp; done) | (simp [*]; done)), H', ⟨by have := HJ6.out; have := HK2.out; first | omega | exact Nat.le_refl _⟩, ⟨by repeat (first | (with_reducible first | exact HI3.out | apply IsS3.alloc | apply IsS3.drewN | apply IsS3.drew | apply IsS3.set_0) | exact HI3.out)⟩, ⟨by repeat (first | (with_reducible first | exact HK.out | apply KeepBut.set_ | apply keep_drewN | apply keep_drew | apply keep_alloc) | exact HK.out)⟩, ⟨by repeat (first | (with_reducible first | exact HB.out | apply below_alloc | apply pw_below_drewN | apply below_drew1 | refine below_set ?_ (IsS3.ge HI3.out)) | exact HB.out)⟩⟩
                · rw [if_neg c16] at H
                  have c16b0 : decide (127 < (wrap32 (bt x1_2 0))) = false := decide_eq_false c16
                  clear c16
                  (first | rw [c16b0] | (simp only [i64_w, i32_w]; rw [c16b0]) | skip)
                  have H' := Aside0.mk H
                  clear H
                  go_wp2
                  go_meet
                  case rel => exact ⟨_, (wrap32 (bt x1_2 0)), (1), (by first | rfl | (simp; done) | (simp [*]; done)), (by first | rfl | (simp; done) | (simp [*]; done)), H', ⟨by have := HJ6.out; have := HK2.out; first | omega | exact Nat.le_refl _⟩, ⟨by repeat (first | (with_reducible first | exact HI3.out | apply IsS3.alloc | apply IsS3.drewN | apply IsS3.drew | apply IsS3.set_0) | exact HI3.out)⟩, ⟨by repeat (first | (with_reducible first | exact HK.out | apply KeepBut.set_ | apply keep_drewN | apply keep_drew | apply keep_alloc) | exact HK.out)⟩, ⟨by repeat (first | (with_reducible first | exact HB.out | apply below_alloc | apply pw_below_drewN | apply below_drew1 | refine below_set ?_ (IsS3.ge HI3.out)) | exact HB.out)⟩⟩
              case rest =>
                clear HC15
                try clear c1
                try clear p1
                try clear q1
                try clear hx1
                try clear qi1
                try clear p2
                try clear p3
                try clear c5
                try clear p6
                try clear c8
                try clear c8b0
                try clear c9
                try clear c9b0
                try clear c12
                try clear c12b0
                try clear c12b1
                try clear c13
                try clear c13b0
                try clear c13b1
                try clear p14
                try clear q14
                try clear hx14
                try clear qi14
                try clear c16
                try clear c16b0
                try clear hcz10_0
                try clear hcz11_0
                try clear hfz10_0
                try clear hfz11_0
                try clear p14
                try clear p2
                try clear p6
                try clear q14
                obtain ⟨kq, x14_14, x15_14, rfl, rfl, HA, HJ14, HI3, HK, HB⟩ := hcut
                cases kq with
                | zero => exact absurd HA.out (by simp [match_match.j2])
                | succ kj14 =>
                  have H := HA.out
                  clear HA
                  simp only [match_match.j2] at H
                  have HC19 := Aside0.mk H
                  clear H
                  go_upto_if 49 with (fail)
                  go_cut [16, 17] (fun v16 v17 wc => ∃ (kq : Nat) (x16_18 : Int) (x17_18 : Int), v16 = .int .i32 x16_18 ∧ v17 = .int .i64 x17_18 ∧ Aside0 (match_match.j3 kq x0_2 x1_2 a2 a4 a5 false x14_14 x15_14 x16_18 x17_18 x4000_2 = some (r1, r2)) ∧ Aside0 (kq ≤ kj14) ∧ Aside0 (IsS3 w0 wc g x4000_2) ∧ Aside0 (KeepBut w wc g none) ∧ Aside0 (Below w0.heap.size w0 wc))
                  case first =>
                    have H := HC19.out
                    clear HC19
                    by_cases c20 : (x0_2.size : Int) > 0
                    · rw [if_pos c20] at H
                      have c20b0 : decide (0 < (x0_2.size : Int)) = true := decide_eq_true c20
                      have c20b1 : decide (0 < x0_2.size) = true := decide_eq_true (by omega)
                      clear c20
                      (first | rw [c20b0] | (simp only [i64_w, i32_w]; rw [c20b0]) | rw [c20b1] | rw [if_pos (of_decide_eq_true c20b1)] | skip)
                      by_cases c21 : 0 < (x0_2.size : Int)
                      · rw [if_pos c21] at H
                        have c21b0 : decide (0 < (x0_2.size : Int)) = true := decide_eq_true c21
                        have c21b1 : decide (0 < x0_2.size) = true := decide_eq_true (by omega)
                        clear c21
                        by_cases c23 : (wrap32 (bt x0_2 0)) > 127
                        · rw [if_pos c23] at H
                          have c23b0 : decide (127 < (wrap32 (bt x0_2 0))) = true := decide_eq_true c23
                          clear c23
                          replace H := Option.bind_eq_some_iff.mp H
                          obtain ⟨⟨t103, t104⟩, A240, H⟩ := H
                          replace H : (match_match.j3 kj14 x0_2 x1_2 a2 a4 a5 false x14_14 x15_14 t103 t104 x4000_2) = some (r1, r2) := H
                          have A24 := Aside0.mk A240
                          clear A240
                          have H' := Aside0.mk H
                          clear H
                          have p22 : 0 ≤ (0 : Int) := (by omega)
                          have q22 : 0 < x0_2.size := (by have : (0 : Int) < (x0_2.size : Int) := of_decide_eq_true (by first | (with_reducible assumption) | assumption); omega)
                          have hx22 : ∀ h : 0 < x0_2.size, ((x0_2[0]'h).toNat : Int) = bt x0_2 0 := bt_at x0_2 0
                          clear p22
                          have qi22 : (0 < (x0_2.size : Int)) = True := eq_true (of_decide_eq_true (by first | (with_reducible assumption) | assumption))
                          replace q22 := eq_true q22
                          go_wp2_with (first | ((with_reducible refine gate_callee (f := 53) rfl ?_); refine goesL_ (some 57) rfl rfl Tryd.func53 (by kernel_rfl) rfl #[.string x0_2] rfl (by (try simp only [List.map_toArray, List.map_cons, List.map_nil]); first | done | rfl | (simp only [List.length_drop, List.length_take]; rfl)) ?_; (with_reducible refine (utf8_DecodeRuneInString.calls x0_2 t103 t104 _ ?side1 A24.out).mono ?_); (case side1 => first | exact HG.out | exact Laid.below HG.out (by repeat (first | (with_reducible first | exact HB.out | apply below_alloc | apply pw_below_drewN | apply below_drew1 | refine below_set ?_ (IsS3.ge HI3.out)) | exact HB.out))); rintro e w25 ⟨rfl, hb⟩; refine ⟨_, rfl, ?_⟩; have n0_ := Aside0.mk (IsS3.below (by repeat (first | (with_reducible first | exact HI3.out | apply IsS3.alloc | apply IsS3.drewN | apply IsS3.drew | apply IsS3.set_0) | exact HI3.out)) hb); have n1_ := Aside0.mk (KeepBut.trans (by repeat (first | (with_reducible first | exact HK.out | apply KeepBut.set_ | apply keep_drewN | apply keep_drew | apply keep_alloc) | exact HK.out)) (KeepBut.of_below hb g none) (.inl rfl)); have n2_ := Aside0.mk (below_step (by repeat (first | (with_reducible first | exact HB.out | apply below_alloc | apply pw_below_drewN | apply below_drew1 | refine below_set ?_ (IsS3.ge HI3.out)) | exact HB.out)) hb); clear HI3; clear HK; clear HB; have HI3 := n0_; have HK := n1_; have HB := n2_; clear n0_ n1_ n2_; (try clear hb); (try clear hb2); (try clear hk); (try clear hi)))
                          go_meet
                          case rel => exact ⟨_, (t103), (t104), (by first | rfl | (simp; done) | (simp [*]; done)), (by first | rfl | (simp; done) | (simp [*]; done)), H', ⟨by have := HJ6.out; have := HK2.out; have := HJ14.out; first | omega | exact Nat.le_refl _⟩, ⟨by repeat (first | (with_reducible first | exact HI3.out | apply IsS3.alloc | apply IsS3.drewN | apply IsS3.drew | apply IsS3.set_0) | exact HI3.out)⟩, ⟨by repeat (first | (with_reducible first | exact HK.out | apply KeepBut.set_ | apply keep_drewN | apply keep_drew | apply keep_alloc) | exact HK.out)⟩, ⟨by repeat (first | (with_reducible first | exact HB.out | apply below_alloc | apply pw_below_drewN | apply below_drew1 | refine below_set ?_ (IsS3.ge HI3.out)) | exact HB.out)⟩⟩
                        · rw [if_neg c23] at H
                          have c23b0 : decide (127 < (wrap32 (bt x0_2 0))) = false := decide_eq_false c23
                          clear c23
                          have H' := Aside0.mk H
                          clear H
                          have p22 : 0 ≤ (0 : Int) := (by omega)
                          have q22 : 0 < x0_2.size := (by have : (0 : Int) < (x0_2.size : Int) := of_decide_eq_true (by first | (with_reducible assumption) | assumption); omega)
                          have hx22 : ∀ h : 0 < x0_2.size, ((x0_2[0]'h).toNat : Int) = bt x0_2 0 := bt_at x0_2 0
                          clear p22
                          have qi22 : (0 < (x0_2.size : Int)) = True := eq_true (of_decide_eq_true (by first | (with_reducible assumption) | assumption))
                          replace q22 := eq_true q22
                          go_wp2
                          go_meet
                          case rel => exact ⟨_, (wrap32 (bt x0_2 0)), (1), (by first | rfl | (simp; done) | (simp [*]; done)), (by first | rfl | (simp; done) | (simp [*]; done)), H', ⟨by have := HJ6.out; have := HK2.out; have := HJ14.out; first | omega | exact Nat.le_refl _⟩, ⟨by repeat (first | (with_reducible first | exact HI3.out | apply IsS3.alloc | apply IsS3.drewN | apply IsS3.drew | apply IsS3.set_0) | exact HI3.out)⟩, ⟨by repeat (first | (with_reducible first | exact HK.out | apply KeepBut.set_ | apply keep_drewN | apply keep_drew | apply keep_alloc) | exact HK.out)⟩, ⟨by repeat (first | (with_reducible first | exact HB.out | apply below_alloc | apply pw_below_drewN | apply below_drew1 | refine below_set ?_ (IsS3.ge HI3.out)) | exact HB.out)⟩⟩
                      · rw [if_neg c21] at H
                        exact absurd H (by simp)
                    · rw [if_neg c20] at H
                      have c20b0 : decide (0 < (x0_2.size : Int)) = false := decide_eq_false c20
                      have c20b1 : decide (0 < x0_2.size) = false := decide_eq_false (by omega)
                      clear c20
                      (first | rw [c20b0] | (simp only [i64_w, i32_w]; rw [c20b0]) | rw [c20b1] | rw [if_neg (of_decide_eq_false c20b1)] | skip)
                      have H' := Aside0.mk H
                      clear H
                      go_wp2
                      go_meet
                      case rel => exact ⟨_, (0), (0), (by first | rfl | (simp; done) | (simp [*]; done)), (by first | rfl | (simp; done) | (simp [*]; done)), H', ⟨by have := HJ6.out; have := HK2.out; have := HJ14.out; first | omega | exact Nat.le_refl _⟩, ⟨by repeat (first | (with_reducible first | exact HI3.out | apply IsS3.alloc | apply IsS3.drewN | apply IsS3.drew | apply IsS3.set_0) | exact HI3.out)⟩, ⟨by repeat (first | (with_reducible first | exact HK.out | apply KeepBut.set_ | apply keep_drewN | apply keep_drew | apply keep_alloc) | exact HK.out)⟩, ⟨by repeat (first | (with_reducible first | exact HB.out | apply below_alloc | apply pw_below_drewN | apply below_drew1 | refine below_set ?_ (IsS3.ge HI3.out)) | exact HB.out)⟩⟩
                  case rest =>
                    clear HC19
                    try clear c1
                    try clear p1
                    try clear q1
                    try clear hx1
                    try clear qi1
                    try clear c2
                    try clear p2
                    try clear q2
                    try clear hx2
                    try clear qi2
                    try clear p3
                    try clear c5
                    try clear p6
                    try clear c8
                    try clear c8b0
                    try clear c9
                    try clear c9b0
                    try clear c12
                    try clear c12b0
                    try clear c12b1
                    try clear c13
                    try clear c13b0
                    try clear c13b1
                    try clear p14
                    try clear q14
                    try clear hx14
                    try clear qi14
                    try clear c16
                    try clear c16b0
                    try clear c20
                    try clear c20b0
                    try clear c20b1
                    try clear c21
                    try clear c21b0
                    try clear c21b1
                    try clear p22
                    try clear q22
                    try clear hx22
                    try clear qi22
                    try clear c23
                    try clear c23b0
                    try clear hcz10_0
                    try clear hcz11_0
                    try clear hfz10_0
                    try clear hfz11_0
                    try clear p1
                    try clear p14
                    try clear p2
                    try clear p22
                    try clear p3
                    try clear p6
                    try clear q1
                    try clear q14
                    try clear q22
                    obtain ⟨kq, x16_18, x17_18, rfl, rfl, HA, HJ18, HI3, HK, HB⟩ := hcut
                    cases kq with
                    | zero => exact absurd HA.out (by simp [match_match.j3])
                    | succ kj18 =>
                      have H := HA.out
                      clear HA
                      simp only [match_match.j3] at H
                      by_cases c26 : x14_14 = 63
                      · rw [if_pos c26] at H
                        have c26b0 : (x14_14 == 63) = true := beq_iff_eq.mpr c26
                        have c26b1 : (x14_14 != 63) = false := bne_eq_false_iff_eq.mpr c26
                        clear c26
                        by_cases c27 : x17_18 = 0
                        · rw [if_pos c27] at H
                          have c27b0 : (x17_18 == 0) = true := beq_iff_eq.mpr c27
                          have c27b1 : (x17_18 != 0) = false := bne_eq_false_iff_eq.mpr c27
                          clear c27
                          simp only [Option.some.injEq, Prod.mk.injEq] at H
                          obtain ⟨rfl, rfl⟩ := H
                          go_wp2
                          go_ret
                          exact ⟨by first | rfl | (simp [errW_none, errW_some] <;> rfl) | (simp [*, errW_none, errW_some] <;> rfl), by repeat (first | (with_reducible first | exact HI3.out | apply IsS3.alloc | apply IsS3.drewN | apply IsS3.drew | apply IsS3.set_0) | exact HI3.out), by repeat (first | (with_reducible first | exact HB.out | apply below_alloc | apply pw_below_drewN | apply below_drew1 | refine below_set ?_ (IsS3.ge HI3.out)) | exact HB.out), by repeat (first | (with_reducible first | exact HK.out | apply KeepBut.set_ | apply keep_drewN | apply keep_drew | apply keep_alloc) | exact HK.out)⟩
                        · rw [if_neg c27] at H
                          have c27b0 : (x17_18 == 0) = false := beq_eq_false_iff_ne.mpr c27
                          have c27b1 : (x17_18 != 0) = true := bne_iff_ne.mpr c27
                          by_cases c28 : 0 ≤ x17_18
                          · rw [if_pos c28] at H
                            have c28b0 := eq_true c28
                            have c28b1 : decide (0 ≤ x17_18) = true := decide_eq_true c28
                            clear c28
                            by_cases c29 : x17_18 ≤ (x0_2.size : Int)
                            · rw [if_pos c29] at H
                              have c29b0 := eq_true c29
                              have c29b1 : decide (x17_18 ≤ (x0_2.size : Int)) = true := decide_eq_true c29
                              clear c29
                              by_cases c30 : false = true
                              · exact absurd c30 (by decide)
                              · replace c30 := Bool.eq_false_iff.mpr c30
                                clear c30
                                have H1 : (if 0 ≤ x15_14 then (if x15_14 ≤ (x1_2.size : Int) then (match_match.l0 kj18 (x0_2.extract (x17_18 : Int).toNat x0_2.size) (x1_2.extract (x15_14 : Int).toNat x1_2.size) a2 a4 a5 x4000_2) else (none)) else (none)) = some (r1, r2) := by rw [if_neg (show ¬ (false = true) by decide)] at H; exact H
                                clear H
                                have H := H1
                                clear H1
                                by_cases c31 : 0 ≤ x15_14
                                · rw [if_pos c31] at H
                                  have c31b0 := eq_true c31
                                  have c31b1 : decide (0 ≤ x15_14) = true := decide_eq_true c31
                                  clear c31
                                  by_cases c32 : x15_14 ≤ (x1_2.size : Int)
                                  · rw [if_pos c32] at H
                                    have c32b0 := eq_true c32
                                    have c32b1 : decide (x15_14 ≤ (x1_2.size : Int)) = true := decide_eq_true c32
                                    clear c32
                                    have H' := Aside0.mk H
                                    clear H
                                    go_wp2
                                    go_roundg kj18
                                    case measure => have := HJ6.out; have := HK2.out; have := HJ14.out; have := HJ18.out; omega
                                    case rel => exact ⟨(x0_2.extract (x17_18 : Int).toNat x0_2.size), (x1_2.extract (x15_14 : Int).toNat x1_2.size), (x4000_2), (by first | rfl | (simp; done) | (simp [*]; done)), (by first | rfl | (simp; done) | (simp [*]; done)), H', ⟨by have := HJ6.out; have := HK2.out; have := HJ14.out; have := HJ18.out; omega⟩, ⟨by repeat (first | (with_reducible first | exact HI3.out | apply IsS3.alloc | apply IsS3.drewN | apply IsS3.drew | apply IsS3.set_0) | exact HI3.out)⟩, ⟨by repeat (first | (with_reducible first | exact HK.out | apply KeepBut.set_ | apply keep_drewN | apply keep_drew | apply keep_alloc) | exact HK.out)⟩, ⟨by repeat (first | (with_reducible first | exact HB.out | apply below_alloc | apply pw_below_drewN | apply below_drew1 | refine below_set ?_ (IsS3.ge HI3.out)) | exact HB.out)⟩⟩
                                  · rw [if_neg c32] at H
                                    exact absurd H (by simp)
                                · rw [if_neg c31] at H
                                  exact absurd H (by simp)
                            · rw [if_neg c29] at H
                              exact absurd H (by simp)
                          · rw [if_neg c28] at H
                            exact absurd H (by simp)
                      · rw [if_neg c26] at H
                        have c26b0 : (x14_14 == 63) = false := beq_eq_false_iff_ne.mpr c26
                        have c26b1 : (x14_14 != 63) = true := bne_iff_ne.mpr c26
                        by_cases c33 : x14_14 = 42
                        · rw [if_pos c33] at H
                          have c33b0 : (x14_14 == 42) = true := beq_iff_eq.mpr c33
                          have c33b1 : (x14_14 != 42) = false := bne_eq_false_iff_eq.mpr c33
                          clear c33
                          have HC34 := Aside0.mk H
                          clear H
                          go_upto_block 3 with (fail)
                          go_cut [1] (fun v1 wc => ∃ (kq : Nat) (x1_33 : ByteArray), v1 = .string x1_33 ∧ Aside0 (match_match.j5 kq x0_2 x1_33 a2 a4 a5 x17_18 x4000_2 = some (r1, r2)) ∧ Aside0 (kq ≤ kj18) ∧ Aside0 (IsS3 w0 wc g x4000_2) ∧ Aside0 (KeepBut w wc g none) ∧ Aside0 (Below w0.heap.size w0 wc))
                          case first =>
                            have H := HC34.out
                            clear HC34
                            have H' := Aside0.mk H
                            clear H
                            go_wp2
                            go_loopg [1] kj18 (fun kq v1 w' => ∃ (x1_5 : ByteArray), v1 = .string x1_5 ∧ Aside0 (match_match.l1 kq x0_2 x1_5 a2 a4 a5 x17_18 x4000_2 = some (r1, r2)) ∧ Aside0 (kq ≤ kj18) ∧ Aside0 (IsS3 w0 w' g x4000_2) ∧ Aside0 (KeepBut w w' g none) ∧ Aside0 (Below w0.heap.size w0 w'))
                            case atStart => exact ⟨(x1_2), (by first | rfl | (simp; done) | (simp [*]; done)), H', ⟨Nat.le_refl _⟩, ⟨by repeat (first | (with_reducible first | exact HI3.out | apply IsS3.alloc | apply IsS3.drewN | apply IsS3.drew | apply IsS3.set_0) | exact HI3.out)⟩, ⟨by repeat (first | (with_reducible first | exact HK.out | apply KeepBut.set_ | apply keep_drewN | apply keep_drew | apply keep_alloc) | exact HK.out)⟩, ⟨by repeat (first | (with_reducible first | exact HB.out | apply below_alloc | apply pw_below_drewN | apply below_drew1 | refine below_set ?_ (IsS3.ge HI3.out)) | exact HB.out)⟩⟩
                            case round =>
                              clear H'
                              try clear c1
                              try clear p1
                              try clear q1
                              try clear hx1
                              try clear qi1
                              try clear c2
                              try clear p2
                              try clear q2
                              try clear hx2
                              try clear qi2
                              try clear c3
                              try clear p3
                              try clear c5
                              try clear p6
                              try clear c8
                              try clear c8b0
                              try clear c9
                              try clear c9b0
                              try clear c12
                              try clear c12b0
                              try clear c12b1
                              try clear c13
                              try clear c13b0
                              try clear c13b1
                              try clear p14
                              try clear q14
                              try clear hx14
                              try clear qi14
                              try clear c16
                              try clear c16b0
                              try clear c20
                              try clear c20b0
                              try clear c20b1
                              try clear c21
                              try clear c21b0
                              try clear c21b1
                              try clear p22
                              try clear q22
                              try clear hx22
                              try clear qi22
                              try clear c23
                              try clear c23b0
                              try clear c26
                              try clear c26b0
                              try clear c26b1
                              try clear c27
                              try clear c27b0
                              try clear c27b1
                              try clear c28
                              try clear c28b0
                              try clear c28b1
                              try clear c29
                              try clear c29b0
                              try clear c29b1
                              try clear c30
                              try clear c31
                              try clear c31b0
                              try clear c31b1
                              try clear c32
                              try clear c32b0
                              try clear c32b1
                              try clear p32
                              try clear c33
                              try clear c33b0
                              try clear c33b1
                              try clear hcz10_0
                              try clear hcz11_0
                              try clear hfz10_0
                              try clear hfz11_0
                              try clear p1
                              try clear p14
                              try clear p2
                              try clear p22
                              try clear p3
                              try clear p6
                              try clear q1
                              try clear q14
                              try clear q2
                              try clear q22
                              obtain ⟨x1_5, rfl, HA, HK5, HI3, HK, HB⟩ := hrel
                              cases gk with
                              | zero => exact absurd HA.out (by simp [match_match.l1])
                              | succ k5 =>
                                have H := HA.out
                                clear HA
                                simp only [match_match.l1] at H
                                by_cases c35 : (x1_5.size : Int) > 1
                                · rw [if_pos c35] at H
                                  have c35b0 : decide (1 < (x1_5.size : Int)) = true := decide_eq_true c35
                                  have c35b1 : decide (1 < x1_5.size) = true := decide_eq_true (by omega)
                                  clear c35
                                  (first | rw [c35b0] | (simp only [i64_w, i32_w]; rw [c35b0]) | rw [c35b1] | rw [if_pos (of_decide_eq_true c35b1)] | skip)
                                  by_cases c36 : 1 < (x1_5.size : Int)
                                  · rw [if_pos c36] at H
                                    have c36b0 : decide (1 < (x1_5.size : Int)) = true := decide_eq_true c36
                                    have c36b1 : decide (1 < x1_5.size) = true := decide_eq_true (by omega)
                                    clear c36
                                    by_cases c38 : (bt x1_5 1) = 42
                                    · rw [if_pos c38] at H
                                      have c38b0 : ((bt x1_5 1) == 42) = true := beq_iff_eq.mpr c38
                                      have c38b1 : ((bt x1_5 1) != 42) = false := bne_eq_false_iff_eq.mpr c38
                                      clear c38
                                      by_cases c39 : 1 ≤ (x1_5.size : Int)
                                      · rw [if_pos c39] at H
                                        have c39b0 := eq_true c39
                                        have c39b1 : decide (1 ≤ (x1_5.size : Int)) = true := decide_eq_true c39
                                        clear c39
                                        have H' := Aside0.mk H
                                        clear H
                                        have p37 : 0 ≤ (1 : Int) := (by omega)
                                        have q37 : 1 < x1_5.size := (by have : (1 : Int) < (x1_5.size : Int) := of_decide_eq_true (by first | (with_reducible assumption) | assumption); omega)
                                        have hx37 : ∀ h : 1 < x1_5.size, ((x1_5[1]'h).toNat : Int) = bt x1_5 1 := bt_at x1_5 1
                                        clear p37
                                        have qi37 : (1 < (x1_5.size : Int)) = True := eq_true (of_decide_eq_true (by first | (with_reducible assumption) | assumption))
                                        replace q37 := eq_true q37
                                        go_wp2
                                        go_roundg k5
                                        case measure => have := HJ6.out; have := HK2.out; have := HJ14.out; have := HJ18.out; have := HK5.out; omega
                                        case rel => exact ⟨(x1_5.extract 1 x1_5.size), (by first | rfl | (simp; done) | (simp [*]; done)), H', ⟨by have := HJ6.out; have := HK2.out; have := HJ14.out; have := HJ18.out; have := HK5.out; omega⟩, ⟨by repeat (first | (with_reducible first | exact HI3.out | apply IsS3.alloc | apply IsS3.drewN | apply IsS3.drew | apply IsS3.set_0) | exact HI3.out)⟩, ⟨by repeat (first | (with_reducible first | exact HK.out | apply KeepBut.set_ | apply keep_drewN | apply keep_drew | apply keep_alloc) | exact HK.out)⟩, ⟨by repeat (first | (with_reducible first | exact HB.out | apply below_alloc | apply pw_below_drewN | apply below_drew1 | refine below_set ?_ (IsS3.ge HI3.out)) | exact HB.out)⟩⟩
                                      · rw [if_neg c39] at H
                                        exact absurd H (by simp)
                                    · rw [if_neg c38] at H
                                      have c38b0 : ((bt x1_5 1) == 42) = false := beq_eq_false_iff_ne.mpr c38
                                      have c38b1 : ((bt x1_5 1) != 42) = true := bne_iff_ne.mpr c38
                                      have H' := Aside0.mk H
                                      clear H
                                      have p37 : 0 ≤ (1 : Int) := (by omega)
                                      have q37 : 1 < x1_5.size := (by have : (1 : Int) < (x1_5.size : Int) := of_decide_eq_true (by first | (with_reducible assumption) | assumption); omega)
                                      have hx37 : ∀ h : 1 < x1_5.size, ((x1_5[1]'h).toNat : Int) = bt x1_5 1 := bt_at x1_5 1
                                      clear p37
                                      have qi37 : (1 < (x1_5.size : Int)) = True := eq_true (of_decide_eq_true (by first | (with_reducible assumption) | assumption))
                                      replace q37 := eq_true q37
                                      go_wp2
                                      go_meet
                                      case rel => exact ⟨_, (x1_5), (by first | rfl | (simp; done) | (simp [*]; done)), H', ⟨by have := HJ6.out; have := HK2.out; have := HJ14.out; have := HJ18.out; have := HK5.out; first | omega | exact Nat.le_refl _⟩, ⟨by repeat (first | (with_reducible first | exact HI3.out | apply IsS3.alloc | apply IsS3.drewN | apply IsS3.drew | apply IsS3.set_0) | exact HI3.out)⟩, ⟨by repeat (first | (with_reducible first | exact HK.out | apply KeepBut.set_ | apply keep_drewN | apply keep_drew | apply keep_alloc) | exact HK.out)⟩, ⟨by repeat (first | (with_reducible first | exact HB.out | apply below_alloc | apply pw_below_drewN | apply below_drew1 | refine below_set ?_ (IsS3.ge HI3.out)) | exact HB.out)⟩⟩
                                  · rw [if_neg c36] at H
                                    exact absurd H (by simp)
                                · rw [if_neg c35] at H
                                  have c35b0 : decide (1 < (x1_5.size : Int)) = false := decide_eq_false c35
                                  have c35b1 : decide (1 < x1_5.size) = false := decide_eq_false (by omega)
                                  clear c35
                                  (first | rw [c35b0] | (simp only [i64_w, i32_w]; rw [c35b0]) | rw [c35b1] | rw [if_neg (of_decide_eq_false c35b1)] | skip)
                                  have H' := Aside0.mk H
                                  clear H
                                  go_wp2
                                  go_meet
                                  case rel => exact ⟨_, (x1_5), (by first | rfl | (simp; done) | (simp [*]; done)), H', ⟨by have := HJ6.out; have := HK2.out; have := HJ14.out; have := HJ18.out; have := HK5.out; first | omega | exact Nat.le_refl _⟩, ⟨by repeat (first | (with_reducible first | exact HI3.out | apply IsS3.alloc | apply IsS3.drewN | apply IsS3.drew | apply IsS3.set_0) | exact HI3.out)⟩, ⟨by repeat (first | (with_reducible first | exact HK.out | apply KeepBut.set_ | apply keep_drewN | apply keep_drew | apply keep_alloc) | exact HK.out)⟩, ⟨by repeat (first | (with_reducible first | exact HB.out | apply below_alloc | apply pw_below_drewN | apply below_drew1 | refine below_set ?_ (IsS3.ge HI3.out)) | exact HB.out)⟩⟩
                          case rest =>
                            clear HC34
                            try clear c1
                            try clear p1
                            try clear q1
                            try clear hx1
                            try clear qi1
                            try clear c2
                            try clear p2
                            try clear q2
                            try clear hx2
                            try clear qi2
                            try clear c3
                            try clear p3
                            try clear q3
                            try clear hx3
                            try clear qi3
                            try clear c5
                            try clear p6
                            try clear c8
                            try clear c8b0
                            try clear c9
                            try clear c9b0
                            try clear c12
                            try clear c12b0
                            try clear c12b1
                            try clear c13
                            try clear c13b0
                            try clear c13b1
                            try clear p14
                            try clear q14
                            try clear hx14
                            try clear qi14
                            try clear c16
                            try clear c16b0
                            try clear c20
                            try clear c20b0
                            try clear c20b1
                            try clear c21
                            try clear c21b0
                            try clear c21b1
                            try clear p22
                            try clear q22
                            try clear hx22
                            try clear qi22
                            try clear c23
                            try clear c23b0
                            try clear c26
                            try clear c26b0
                            try clear c26b1
                            try clear c27
                            try clear c27b0
                            try clear c27b1
                            try clear c28
                            try clear c28b0
                            try clear c28b1
                            try clear c29
                            try clear c29b0
                            try clear c29b1
                            try clear c30
                            try clear c31
                            try clear c31b0
                            try clear c31b1
                            try clear c32
                            try clear c32b0
                            try clear c32b1
                            try clear p32
                            try clear c33
                            try clear c33b0
                            try clear c33b1
                            try clear c35
                            try clear c35b0
                            try clear c35b1
                            try clear c36
                            try clear c36b0
                            try clear c36b1
                            try clear p37
                            try clear q37
                            try clear hx37
                            try clear qi37
                            try clear c38
                            try clear c38b0
                            try clear c38b1
                            try clear c39
                            try clear c39b0
                            try clear c39b1
                            try clear hcz10_0
                            try clear hcz11_0
                            try clear hfz10_0
                            try clear hfz11_0
                            try clear p1
                            try clear p14
                            try clear p2
                            try clear p22
                            try clear p3
                            try clear p32
                            try clear p37
                            try clear p6
                            try clear q1
                            try clear q14
                            try clear q2
                            try clear q22
                            try clear q37
                            obtain ⟨kq, x1_33, rfl, HA, HJ33, HI3, HK, HB⟩ := hcut
                            cases kq with
                            | zero => exact absurd HA.out (by simp [match_match.j5])
                            | succ kj33 =>
                              have H := HA.out
                              clear HA
                              simp only [match_match.j5] at H
                              by_cases c40 : (x1_33.size : Int) = 1
                              · rw [if_pos c40] at H
                                have c40b0 : ((x1_33.size : Int) == 1) = true := beq_iff_eq.mpr c40
                                have c40b1 : ((x1_33.size : Int) != 1) = false := bne_eq_false_iff_eq.mpr c40
                                clear c40
                                simp only [Option.some.injEq, Prod.mk.injEq] at H
                                obtain ⟨rfl, rfl⟩ := H
                                go_wp2
                                go_ret
                                exact ⟨by first | rfl | (simp [errW_none, errW_some] <;> rfl) | (simp [*, errW_none, errW_some] <;> rfl), by repeat (first | (with_reducible first | exact HI3.out | apply IsS3.alloc | apply IsS3.drewN | apply IsS3.drew | apply IsS3.set_0) | exact HI3.out), by repeat (first | (with_reducible first | exact HB.out | apply below_alloc | apply pw_below_drewN | apply below_drew1 | refine below_set ?_ (IsS3.ge HI3.out)) | exact HB.out), by repeat (first | (with_reducible first | exact HK.out | apply KeepBut.set_ | apply keep_drewN | apply keep_drew | apply keep_alloc) | exact HK.out)⟩
                              · rw [if_neg c40] at H
                                have c40b0 : ((x1_33.size : Int) == 1) = false := beq_eq_false_iff_ne.mpr c40
                                have c40b1 : ((x1_33.size : Int) != 1) = true := bne_iff_ne.mpr c40
                                replace H := Option.bind_eq_some_iff.mp H
                                obtain ⟨⟨t105, t106, t107⟩, A410, H⟩ := H
                                replace H : (if t107 = true then (if (t106.size : Int) = 1 then (some (1, x4000_2)) else (if 1 ≤ (t106.size : Int) then ((match_match.f kj33 t105 (t106.extract 1 t106.size) a2 x4000_2 a4 a5).bind fun bt108 => (if bt108.1 = 0 then (if (t105.size : Int) = 0 then (some (0, bt108.2)) else (if 0 ≤ x17_18 then (if x17_18 ≤ (t105.size : Int) then (match_match.l0 kj33 (t105.extract (x17_18 : Int).toNat t105.size) t106 a2 a4 a5 bt108.2) else (none)) else (none))) else (some (bt108.1, bt108.2)))) else (none))) else (some (0, x4000_2))) = some (r1, r2) := H
                                have A41 := Aside0.mk A410
                                clear A410
                                by_cases c42 : t107 = true
                                · subst c42
                                  have H1 : (if (t106.size : Int) = 1 then (some (1, x4000_2)) else (if 1 ≤ (t106.size : Int) then ((match_match.f kj33 t105 (t106.extract 1 t106.size) a2 x4000_2 a4 a5).bind fun bt108 => (if bt108.1 = 0 then (if (t105.size : Int) = 0 then (some (0, bt108.2)) else (if 0 ≤ x17_18 then (if x17_18 ≤ (t105.size : Int) then (match_match.l0 kj33 (t105.extract (x17_18 : Int).toNat t105.size) t106 a2 a4 a5 bt108.2) else (none)) else (none))) else (some (bt108.1, bt108.2)))) else (none))) = some (r1, r2) := by rw [if_pos rfl] at H; exact H
                                  clear H
                                  have H := H1
                                  clear H1
                                  by_cases c43 : (t106.size : Int) = 1
                                  · rw [if_pos c43] at H
                                    have c43b0 : ((t106.size : Int) == 1) = true := beq_iff_eq.mpr c43
                                    have c43b1 : ((t106.size : Int) != 1) = false := bne_eq_false_iff_eq.mpr c43
                                    clear c43
                                    simp only [Option.some.injEq, Prod.mk.injEq] at H
                                    obtain ⟨rfl, rfl⟩ := H
                                    go_wp2_with (first | ((with_reducible refine gate_callee (f := 91) rfl ?_); refine goesL_ (some 106) rfl rfl Tryd.func91 (by kernel_rfl) rfl #[.string x0_2, .string x1_33, .bool a5] rfl (by (try simp only [List.map_toArray, List.map_cons, List.map_nil]); first | done | rfl | (simp only [List.length_drop, List.length_take]; rfl)) ?_; (with_reducible refine (match_matchTrimSuffix.calls kj33 x0_2 x1_33 a5 t105 t106 true _ ?side1 A41.out).mono ?_); (case side1 => first | exact HG.out | exact Laid.below HG.out (by repeat (first | (with_reducible first | exact HB.out | apply below_alloc | apply pw_below_drewN | apply below_drew1 | refine below_set ?_ (IsS3.ge HI3.out)) | exact HB.out))); rintro e w44 ⟨rfl, hb⟩; refine ⟨_, rfl, ?_⟩; have n0_ := Aside0.mk (IsS3.below (by repeat (first | (with_reducible first | exact HI3.out | apply IsS3.alloc | apply IsS3.drewN | apply IsS3.drew | apply IsS3.set_0) | exact HI3.out)) hb); have n1_ := Aside0.mk (KeepBut.trans (by repeat (first | (with_reducible first | exact HK.out | apply KeepBut.set_ | apply keep_drewN | apply keep_drew | apply keep_alloc) | exact HK.out)) (KeepBut.of_below hb g none) (.inl rfl)); have n2_ := Aside0.mk (below_step (by repeat (first | (with_reducible first | exact HB.out | apply below_alloc | apply pw_below_drewN | apply below_drew1 | refine below_set ?_ (IsS3.ge HI3.out)) | exact HB.out)) hb); clear HI3; clear HK; clear HB; have HI3 := n0_; have HK := n1_; have HB := n2_; clear n0_ n1_ n2_; (try clear hb); (try clear hb2); (try clear hk); (try clear hi)))
                                    go_ret
                                    exact ⟨by first | rfl | (simp [errW_none, errW_some] <;> rfl) | (simp [*, errW_none, errW_some] <;> rfl), by repeat (first | (with_reducible first | exact HI3.out | apply IsS3.alloc | apply IsS3.drewN | apply IsS3.drew | apply IsS3.set_0) | exact HI3.out), by repeat (first | (with_reducible first | exact HB.out | apply below_alloc | apply pw_below_drewN | apply below_drew1 | refine below_set ?_ (IsS3.ge HI3.out)) | exact HB.out), by repeat (first | (with_reducible first | exact HK.out | apply KeepBut.set_ | apply keep_drewN | apply keep_drew | apply keep_alloc) | exact HK.out)⟩
                                  · rw [if_neg c43] at H
                                    have c43b0 : ((t106.size : Int) == 1) = false := beq_eq_false_iff_ne.mpr c43
                                    have c43b1 : ((t106.size : Int) != 1) = true := bne_iff_ne.mpr c43
                                    by_cases c45 : 1 ≤ (t106.size : Int)
                                    · rw [if_pos c45] at H
                                      have c45b0 := eq_true c45
                                      have c45b1 : decide (1 ≤ (t106.size : Int)) = true := decide_eq_true c45
                                      clear c45
                                      replace H := Option.bind_eq_some_iff.mp H
                                      obtain ⟨⟨t108, t109⟩, A460, H⟩ := H
                                      replace H : (if t108 = 0 then (if (t105.size : Int) = 0 then (some (0, t109)) else (if 0 ≤ x17_18 then (if x17_18 ≤ (t105.size : Int) then (match_match.l0 kj33 (t105.extract (x17_18 : Int).toNat t105.size) t106 a2 a4 a5 t109) else (none)) else (none))) else (some (t108, t109))) = some (r1, r2) := H
                                      have A46 := Aside0.mk A460
                                      clear A460
                                      by_cases c47 : t108 = 0
                                      · rw [if_pos c47] at H
                                        have c47b0 : (t108 == 0) = true := beq_iff_eq.mpr c47
                                        have c47b1 : (t108 != 0) = false := bne_eq_false_iff_eq.mpr c47
                                        clear c47
                                        by_cases c48 : (t105.size : Int) = 0
                                        · rw [if_pos c48] at H
                                          have c48b0 : ((t105.size : Int) == 0) = true := beq_iff_eq.mpr c48
                                          have c48b1 : ((t105.size : Int) != 0) = false := bne_eq_false_iff_eq.mpr c48
                                          clear c48
                                          simp only [Option.some.injEq, Prod.mk.injEq] at H
                                          obtain ⟨rfl, rfl⟩ := H
                                          go_wp2_with (first | ((with_reducible refine gate_callee (f := 91) rfl ?_); refine goesL_ (some 106) rfl rfl Tryd.func91 (by kernel_rfl) rfl #[.string x0_2, .string x1_33, .bool a5] rfl (by (try simp only [List.map_toArray, List.map_cons, List.map_nil]); first | done | rfl | (simp only [List.length_drop, List.length_take]; rfl)) ?_; (with_reducible refine (match_matchTrimSuffix.calls kj33 x0_2 x1_33 a5 t105 t106 true _ ?side1 A41.out).mono ?_); (case side1 => first | exact HG.out | exact Laid.below HG.out (by repeat (first | (with_reducible first | exact HB.out | apply below_alloc | apply pw_below_drewN | apply below_drew1 | refine below_set ?_ (IsS3.ge HI3.out)) | exact HB.out))); rintro e w49 ⟨rfl, hb⟩; refine ⟨_, rfl, ?_⟩; have n0_ := Aside0.mk (IsS3.below (by repeat (first | (with_reducible first | exact HI3.out | apply IsS3.alloc | apply IsS3.drewN | apply IsS3.drew | apply IsS3.set_0) | exact HI3.out)) hb); have n1_ := Aside0.mk (KeepBut.trans (by repeat (first | (with_reducible first | exact HK.out | apply KeepBut.set_ | apply keep_drewN | apply keep_drew | apply keep_alloc) | exact HK.out)) (KeepBut.of_below hb g none) (.inl rfl)); have n2_ := Aside0.mk (below_step (by repeat (first | (with_reducible first | exact HB.out | apply below_alloc | apply pw_below_drewN | apply below_drew1 | refine below_set ?_ (IsS3.ge HI3.out)) | exact HB.out)) hb); clear HI3; clear HK; clear HB; have HI3 := n0_; have HK := n1_; have HB := n2_; clear n0_ n1_ n2_; (try clear hb); (try clear hb2); (try clear hk); (try clear hi)) | ((with_reducible refine gate_callee (f := 81) rfl ?_); refine goesL_ (some 122) rfl rfl Tryd.func81 (by kernel_rfl) rfl #[.string t105, .string (t106.extract 1 t106.size), .int .i64 a2, .pointer (some ⟨g, 0, none⟩), .int .i64 a4, .bool a5] rfl (by (try simp only [List.map_toArray, List.map_cons, List.map_nil]); first | done | rfl | (simp only [List.length_drop, List.length_take]; rfl)) ?_; (with_reducible refine (ih kj33 (by have := HJ6.out; have := HK2.out; have := HJ14.out; have := HJ18.out; have := HJ33.out; omega) t105 (t106.extract 1 t106.size) a2 g x4000_2 a4 a5 t108 t109 w0 _ ?side1 ?side2 ?side3 A46.out).mono ?_); (case side1 => repeat (first | (with_reducible first | exact HI3.out | apply IsS3.alloc | apply IsS3.drewN | apply IsS3.drew | apply IsS3.set_0) | exact HI3.out)); (case side2 => repeat (first | (with_reducible first | exact HB.out | apply below_alloc | apply pw_below_drewN | apply below_drew1 | refine below_set ?_ (IsS3.ge HI3.out)) | exact HB.out)); (case side3 => first | exact HG.out | exact Laid.below HG.out (by repeat (first | (with_reducible first | exact HB.out | apply below_alloc | apply pw_below_drewN | apply below_drew1 | refine below_set ?_ (IsS3.ge HI3.out)) | exact HB.out))); rintro e w50 ⟨rfl, hi, hb, hk⟩; refine ⟨_, rfl, ?_⟩; have n0_ := Aside0.mk (KeepBut.trans (by repeat (first | (with_reducible first | exact HK.out | apply KeepBut.set_ | apply keep_drewN | apply keep_drew | apply keep_alloc) | exact HK.out)) hk (.inl rfl)); have n1_ := Aside0.mk (hb); have n2_ := Aside0.mk (hi); clear HK; clear HB; clear HI3; have HK := n0_; have HB := n1_; have HI3 := n2_; clear n0_ n1_ n2_; (try clear hb); (try clear hb2); (try clear hk); (try clear hi)))
                                          go_ret
                                          exact ⟨by first | rfl | (simp [errW_none, errW_some] <;> rfl) | (simp [*, errW_none, errW_some] <;> rfl), by repeat (first | (with_reducible first | exact HI3.out | apply IsS3.alloc | apply IsS3.drewN | apply IsS3.drew | apply IsS3.set_0) | exact HI3.out), by repeat (first | (with_reducible first | exact HB.out | apply below_alloc | apply pw_below_drewN | apply below_drew1 | refine below_set ?_ (IsS3.ge HI3.out)) | exact HB.out), by repeat (first | (with_reducible first | exact HK.out | apply KeepBut.set_ | apply keep_drewN | apply keep_drew | apply keep_alloc) | exact HK.out)⟩
                                        · rw [if_neg c48] at H
                                          have c48b0 : ((t105.size : Int) == 0) = false := beq_eq_false_iff_ne.mpr c48
                                          have c48b1 : ((t105.size : Int) != 0) = true := bne_iff_ne.mpr c48
                                          by_cases c51 : 0 ≤ x17_18
                                          · rw [if_pos c51] at H
                                            have c51b0 := eq_true c51
                                            have c51b1 : decide (0 ≤ x17_18) = true := decide_eq_true c51
                                            clear c51
                                            by_cases c52 : x17_18 ≤ (t105.size : Int)
                                            · rw [if_pos c52] at H
                                              have c52b0 := eq_true c52
                                              have c52b1 : decide (x17_18 ≤ (t105.size : Int)) = true := decide_eq_true c52
                                              clear c52
                                              have H' := Aside0.mk H
                                              clear H
                                              go_wp2_with (first | ((with_reducible refine gate_callee (f := 91) rfl ?_); refine goesL_ (some 106) rfl rfl Tryd.func91 (by kernel_rfl) rfl #[.string x0_2, .string x1_33, .bool a5] rfl (by (try simp only [List.map_toArray, List.map_cons, List.map_nil]); first | done | rfl | (simp only [List.length_drop, List.length_take]; rfl)) ?_; (with_reducible refine (match_matchTrimSuffix.calls kj33 x0_2 x1_33 a5 t105 t106 true _ ?side1 A41.out).mono ?_); (case side1 => first | exact HG.out | exact Laid.below HG.out (by repeat (first | (with_reducible first | exact HB.out | apply below_alloc | apply pw_below_drewN | apply below_drew1 | refine below_set ?_ (IsS3.ge HI3.out)) | exact HB.out))); rintro e w53 ⟨rfl, hb⟩; refine ⟨_, rfl, ?_⟩; have n0_ := Aside0.mk (IsS3.below (by repeat (first | (with_reducible first | exact HI3.out | apply IsS3.alloc | apply IsS3.drewN | apply IsS3.drew | apply IsS3.set_0) | exact HI3.out)) hb); have n1_ := Aside0.mk (KeepBut.trans (by repeat (first | (with_reducible first | exact HK.out | apply KeepBut.set_ | apply keep_drewN | apply keep_drew | apply keep_alloc) | exact HK.out)) (KeepBut.of_below hb g none) (.inl rfl)); have n2_ := Aside0.mk (below_step (by repeat (first | (with_reducible first | exact HB.out | apply below_alloc | apply pw_below_drewN | apply below_drew1 | refine below_set ?_ (IsS3.ge HI3.out)) | exact HB.out)) hb); clear HI3; clear HK; clear HB; have HI3 := n0_; have HK := n1_; have HB := n2_; clear n0_ n1_ n2_; (try clear hb); (try clear hb2); (try clear hk); (try clear hi)) | ((with_reducible refine gate_callee (f := 81) rfl ?_); refine goesL_ (some 122) rfl rfl Tryd.func81 (by kernel_rfl) rfl #[.string t105, .string (t106.extract 1 t106.size), .int .i64 a2, .pointer (some ⟨g, 0, none⟩), .int .i64 a4, .bool a5] rfl (by (try simp only [List.map_toArray, List.map_cons, List.map_nil]); first | done | rfl | (simp only [List.length_drop, List.length_take]; rfl)) ?_; (with_reducible refine (ih kj33 (by have := HJ6.out; have := HK2.out; have := HJ14.out; have := HJ18.out; have := HJ33.out; omega) t105 (t106.extract 1 t106.size) a2 g x4000_2 a4 a5 t108 t109 w0 _ ?side1 ?side2 ?side3 A46.out).mono ?_); (case side1 => repeat (first | (with_reducible first | exact HI3.out | apply IsS3.alloc | apply IsS3.drewN | apply IsS3.drew | apply IsS3.set_0) | exact HI3.out)); (case side2 => repeat (first | (with_reducible first | exact HB.out | apply below_alloc | apply pw_below_drewN | apply below_drew1 | refine below_set ?_ (IsS3.ge HI3.out)) | exact HB.out)); (case side3 => first | exact HG.out | exact Laid.below HG.out (by repeat (first | (with_reducible first | exact HB.out | apply below_alloc | apply pw_below_drewN | apply below_drew1 | refine below_set ?_ (IsS3.ge HI3.out)) | exact HB.out))); rintro e w54 ⟨rfl, hi, hb, hk⟩; refine ⟨_, rfl, ?_⟩; have n0_ := Aside0.mk (KeepBut.trans (by repeat (first | (with_reducible first | exact HK.out | apply KeepBut.set_ | apply keep_drewN | apply keep_drew | apply keep_alloc) | exact HK.out)) hk (.inl rfl)); have n1_ := Aside0.mk (hb); have n2_ := Aside0.mk (hi); clear HK; clear HB; clear HI3; have HK := n0_; have HB := n1_; have HI3 := n2_; clear n0_ n1_ n2_; (try clear hb); (try clear hb2); (try clear hk); (try clear hi)))
                                              go_roundg kj33
                                              case measure => have := HJ6.out; have := HK2.out; have := HJ14.out; have := HJ18.out; have := HJ33.out; omega
                                              case rel => exact ⟨(t105.extract (x17_18 : Int).toNat t105.size), (t106), (t109), (by first | rfl | (simp; done) | (simp [*]; done)), (by first | rfl | (simp; done) | (simp [*]; done)), H', ⟨by have := HJ6.out; have := HK2.out; have := HJ14.out; have := HJ18.out; have := HJ33.out; omega⟩, ⟨by repeat (first | (with_reducible first | exact HI3.out | apply IsS3.alloc | apply IsS3.drewN | apply IsS3.drew | apply IsS3.set_0) | exact HI3.out)⟩, ⟨by repeat (first | (with_reducible first | exact HK.out | apply KeepBut.set_ | apply keep_drewN | apply keep_drew | apply keep_alloc) | exact HK.out)⟩, ⟨by repeat (first | (with_reducible first | exact HB.out | apply below_alloc | apply pw_below_drewN | apply below_drew1 | refine below_set ?_ (IsS3.ge HI3.out)) | exact HB.out)⟩⟩
                                            · rw [if_neg c52] at H
                                              exact absurd H (by simp)
                                          · rw [if_neg c51] at H
                                            exact absurd H (by simp)
                                      · rw [if_neg c47] at H
                                        have c47b0 : (t108 == 0) = false := beq_eq_false_iff_ne.mpr c47
                                        have c47b1 : (t108 != 0) = true := bne_iff_ne.mpr c47
                                        simp only [Option.some.injEq, Prod.mk.injEq] at H
                                        obtain ⟨rfl, rfl⟩ := H
                                        go_wp2_with (first | ((with_reducible refine gate_callee (f := 91) rfl ?_); refine goesL_ (some 106) rfl rfl Tryd.func91 (by kernel_rfl) rfl #[.string x0_2, .string x1_33, .bool a5] rfl (by (try simp only [List.map_toArray, List.map_cons, List.map_nil]); first | done | rfl | (simp only [List.length_drop, List.length_take]; rfl)) ?_; (with_reducible refine (match_matchTrimSuffix.calls kj33 x0_2 x1_33 a5 t105 t106 true _ ?side1 A41.out).mono ?_); (case side1 => first | exact HG.out | exact Laid.below HG.out (by repeat (first | (with_reducible first | exact HB.out | apply below_alloc | apply pw_below_drewN | apply below_drew1 | refine below_set ?_ (IsS3.ge HI3.out)) | exact HB.out))); rintro e w55 ⟨rfl, hb⟩; refine ⟨_, rfl, ?_⟩; have n0_ := Aside0.mk (IsS3.below (by repeat (first | (with_reducible first | exact HI3.out | apply IsS3.alloc | apply IsS3.drewN | apply IsS3.drew | apply IsS3.set_0) | exact HI3.out)) hb); have n1_ := Aside0.mk (KeepBut.trans (by repeat (first | (with_reducible first | exact HK.out | apply KeepBut.set_ | apply keep_drewN | apply keep_drew | apply keep_alloc) | exact HK.out)) (KeepBut.of_below hb g none) (.inl rfl)); have n2_ := Aside0.mk (below_step (by repeat (first | (with_reducible first | exact HB.out | apply below_alloc | apply pw_below_drewN | apply below_drew1 | refine below_set ?_ (IsS3.ge HI3.out)) | exact HB.out)) hb); clear HI3; clear HK; clear HB; have HI3 := n0_; have HK := n1_; have HB := n2_; clear n0_ n1_ n2_; (try clear hb); (try clear hb2); (try clear hk); (try clear hi)) | ((with_reducible refine gate_callee (f := 81) rfl ?_); refine goesL_ (some 122) rfl rfl Tryd.func81 (by kernel_rfl) rfl #[.string t105, .string (t106.extract 1 t106.size), .int .i64 a2, .pointer (some ⟨g, 0, none⟩), .int .i64 a4, .bool a5] rfl (by (try simp only [List.map_toArray, List.map_cons, List.map_nil]); first | done | rfl | (simp only [List.length_drop, List.length_take]; rfl)) ?_; (with_reducible refine (ih kj33 (by have := HJ6.out; have := HK2.out; have := HJ14.out; have := HJ18.out; have := HJ33.out; omega) t105 (t106.extract 1 t106.size) a2 g x4000_2 a4 a5 t108 t109 w0 _ ?side1 ?side2 ?side3 A46.out).mono ?_); (case side1 => repeat (first | (with_reducible first | exact HI3.out | apply IsS3.alloc | apply IsS3.drewN | apply IsS3.drew | apply IsS3.set_0) | exact HI3.out)); (case side2 => repeat (first | (with_reducible first | exact HB.out | apply below_alloc | apply pw_below_drewN | apply below_drew1 | refine below_set ?_ (IsS3.ge HI3.out)) | exact HB.out)); (case side3 => first | exact HG.out | exact Laid.below HG.out (by repeat (first | (with_reducible first | exact HB.out | apply below_alloc | apply pw_below_drewN | apply below_drew1 | refine below_set ?_ (IsS3.ge HI3.out)) | exact HB.out))); rintro e w56 ⟨rfl, hi, hb, hk⟩; refine ⟨_, rfl, ?_⟩; have n0_ := Aside0.mk (KeepBut.trans (by repeat (first | (with_reducible first | exact HK.out | apply KeepBut.set_ | apply keep_drewN | apply keep_drew | apply keep_alloc) | exact HK.out)) hk (.inl rfl)); have n1_ := Aside0.mk (hb); have n2_ := Aside0.mk (hi); clear HK; clear HB; clear HI3; have HK := n0_; have HB := n1_; have HI3 := n2_; clear n0_ n1_ n2_; (try clear hb); (try clear hb2); (try clear hk); (try clear hi)))
                                        go_ret
                                        exact ⟨by first | rfl | (simp [errW_none, errW_some] <;> rfl) | (simp [*, errW_none, errW_some] <;> rfl), by repeat (first | (with_reducible first | exact HI3.out | apply IsS3.alloc | apply IsS3.drewN | apply IsS3.drew | apply IsS3.set_0) | exact HI3.out), by repeat (first | (with_reducible first | exact HB.out | apply below_alloc | apply pw_below_drewN | apply below_drew1 | refine below_set ?_ (IsS3.ge HI3.out)) | exact HB.out), by repeat (first | (with_reducible first | exact HK.out | apply KeepBut.set_ | apply keep_drewN | apply keep_drew | apply keep_alloc) | exact HK.out)⟩
                                    · rw [if_neg c45] at H
                                      exact absurd H (by simp)
                                · replace c42 := Bool.eq_false_iff.mpr c42
                                  subst c42
                                  have H1 : (some (0, x4000_2)) = some (r1, r2) := by rw [if_neg (show ¬ (false = true) by decide)] at H; exact H
                                  clear H
                                  have H := H1
                                  clear H1
                                  simp only [Option.some.injEq, Prod.mk.injEq] at H
                                  obtain ⟨rfl, rfl⟩ := H
                                  go_wp2_with (first | ((with_reducible refine gate_callee (f := 91) rfl ?_); refine goesL_ (some 106) rfl rfl Tryd.func91 (by kernel_rfl) rfl #[.string x0_2, .string x1_33, .bool a5] rfl (by (try simp only [List.map_toArray, List.map_cons, List.map_nil]); first | done | rfl | (simp only [List.length_drop, List.length_take]; rfl)) ?_; (with_reducible refine (match_matchTrimSuffix.calls kj33 x0_2 x1_33 a5 t105 t106 false _ ?side1 A41.out).mono ?_); (case side1 => first | exact HG.out | exact Laid.below HG.out (by repeat (first | (with_reducible first | exact HB.out | apply below_alloc | apply pw_below_drewN | apply below_drew1 | refine below_set ?_ (IsS3.ge HI3.out)) | exact HB.out))); rintro e w57 ⟨rfl, hb⟩; refine ⟨_, rfl, ?_⟩; have n0_ := Aside0.mk (IsS3.below (by repeat (first | (with_reducible first | exact HI3.out | apply IsS3.alloc | apply IsS3.drewN | apply IsS3.drew | apply IsS3.set_0) | exact HI3.out)) hb); have n1_ := Aside0.mk (KeepBut.trans (by repeat (first | (with_reducible first | exact HK.out | apply KeepBut.set_ | apply keep_drewN | apply keep_drew | apply keep_alloc) | exact HK.out)) (KeepBut.of_below hb g none) (.inl rfl)); have n2_ := Aside0.mk (below_step (by repeat (first | (with_reducible first | exact HB.out | apply below_alloc | apply pw_below_drewN | apply below_drew1 | refine below_set ?_ (IsS3.ge HI3.out)) | exact HB.out)) hb); clear HI3; clear HK; clear HB; have HI3 := n0_; have HK := n1_; have HB := n2_; clear n0_ n1_ n2_; (try clear hb); (try clear hb2); (try clear hk); (try clear hi)))
                                  go_ret
                                  exact ⟨by first | rfl | (simp [errW_none, errW_some] <;> rfl) | (simp [*, errW_none, errW_some] <;> rfl), by repeat (first | (with_reducible first | exact HI3.out | apply IsS3.alloc | apply IsS3.drewN | apply IsS3.drew | apply IsS3.set_0) | exact HI3.out), by repeat (first | (with_reducible first | exact HB.out | apply below_alloc | apply pw_below_drewN | apply below_drew1 | refine below_set ?_ (IsS3.ge HI3.out)) | exact HB.out), by repeat (first | (with_reducible first | exact HK.out | apply KeepBut.set_ | apply keep_drewN | apply keep_drew | apply keep_alloc) | exact HK.out)⟩
                        · rw [if_neg c33] at H
                          have c33b0 : (x14_14 == 42) = false := beq_eq_false_iff_ne.mpr c33
                          have c33b1 : (x14_14 != 42) = true := bne_iff_ne.mpr c33
                          by_cases c58 : x17_18 = 0
                          · rw [if_pos c58] at H
                            have c58b0 : (x17_18 == 0) = true := beq_iff_eq.mpr c58
                            have c58b1 : (x17_18 != 0) = false := bne_eq_false_iff_eq.mpr c58
                            clear c58
                            simp only [Option.some.injEq, Prod.mk.injEq] at H
                            obtain ⟨rfl, rfl⟩ := H
                            go_wp2
                            go_ret
                            exact ⟨by first | rfl | (simp [errW_none, errW_some] <;> rfl) | (simp [*, errW_none, errW_some] <;> rfl), by repeat (first | (with_reducible first | exact HI3.out | apply IsS3.alloc | apply IsS3.drewN | apply IsS3.drew | apply IsS3.set_0) | exact HI3.out), by repeat (first | (with_reducible first | exact HB.out | apply below_alloc | apply pw_below_drewN | apply below_drew1 | refine below_set ?_ (IsS3.ge HI3.out)) | exact HB.out), by repeat (first | (with_reducible first | exact HK.out | apply KeepBut.set_ | apply keep_drewN | apply keep_drew | apply keep_alloc) | exact HK.out)⟩
                          · rw [if_neg c58] at H
                            have c58b0 : (x17_18 == 0) = false := beq_eq_false_iff_ne.mpr c58
                            have c58b1 : (x17_18 != 0) = true := bne_iff_ne.mpr c58
                            have HC59 := Aside0.mk H
                            clear H
                            go_upto_if 64 with (fail)
                            go_cut [1, 14, 15] (fun v1 v14 v15 wc => ∃ (kq : Nat) (x1_58 : ByteArray) (x14_58 : Int) (x15_58 : Int), v1 = .string x1_58 ∧ v14 = .int .i32 x14_58 ∧ v15 = .int .i64 x15_58 ∧ Aside0 (match_match.j6 kq x0_2 x1_58 a2 a4 a5 false x14_58 x15_58 x16_18 x17_18 x4000_2 = some (r1, r2)) ∧ Aside0 (kq ≤ kj18) ∧ Aside0 (IsS3 w0 wc g x4000_2) ∧ Aside0 (KeepBut w wc g none) ∧ Aside0 (Below w0.heap.size w0 wc))
                            case first =>
                              have H := HC59.out
                              clear HC59
                              by_cases c60 : x14_14 = 92
                              · rw [if_pos c60] at H
                                have c60b0 : (x14_14 == 92) = true := beq_iff_eq.mpr c60
                                have c60b1 : (x14_14 != 92) = false := bne_eq_false_iff_eq.mpr c60
                                clear c60
                                (first | rw [c60b0] | (simp only [i64_w, i32_w]; rw [c60b0]) | skip)
                                by_cases c61 : 0 ≤ x15_14
                                · rw [if_pos c61] at H
                                  have c61b0 := eq_true c61
                                  have c61b1 : decide (0 ≤ x15_14) = true := decide_eq_true c61
                                  clear c61
                                  by_cases c62 : x15_14 ≤ (x1_2.size : Int)
                                  · rw [if_pos c62] at H
                                    have c62b0 := eq_true c62
                                    have c62b1 : decide (x15_14 ≤ (x1_2.size : Int)) = true := decide_eq_true c62
                                    clear c62
                                    replace H := Option.bind_eq_some_iff.mp H
                                    obtain ⟨⟨t110, t111⟩, A630, H⟩ := H
                                    replace H : (if t111 = 0 then (some (0, x4000_2)) else (match_match.j6 kj18 x0_2 (x1_2.extract (x15_14 : Int).toNat x1_2.size) a2 a4 a5 false t110 t111 x16_18 x17_18 x4000_2)) = some (r1, r2) := H
                                    have A63 := Aside0.mk A630
                                    clear A630
                                    by_cases c64 : t111 = 0
                                    · rw [if_pos c64] at H
                                      have c64b0 : (t111 == 0) = true := beq_iff_eq.mpr c64
                                      have c64b1 : (t111 != 0) = false := bne_eq_false_iff_eq.mpr c64
                                      clear c64
                                      simp only [Option.some.injEq, Prod.mk.injEq] at H
                                      obtain ⟨rfl, rfl⟩ := H
                                      go_wp2_with (first | ((with_reducible refine gate_callee (f := 53) rfl ?_); refine goesL_ (some 70) rfl rfl Tryd.func53 (by kernel_rfl) rfl #[.string (x1_2.extract (x15_14 : Int).toNat x1_2.size)] rfl (by (try simp only [List.map_toArray, List.map_cons, List.map_nil]); first | done | rfl | (simp only [List.length_drop, List.length_take]; rfl)) ?_; (with_reducible refine (utf8_DecodeRuneInString.calls (x1_2.extract (x15_14 : Int).toNat x1_2.size) t110 t111 _ ?side1 A63.out).mono ?_); (case side1 => first | exact HG.out | exact Laid.below HG.out (by repeat (first | (with_reducible first | exact HB.out | apply below_alloc | apply pw_below_drewN | apply below_drew1 | refine below_set ?_ (IsS3.ge HI3.out)) | exact HB.out))); rintro e w65 ⟨rfl, hb⟩; refine ⟨_, rfl, ?_⟩; have n0_ := Aside0.mk (IsS3.below (by repeat (first | (with_reducible first | exact HI3.out | apply IsS3.alloc | apply IsS3.drewN | apply IsS3.drew | apply IsS3.set_0) | exact HI3.out)) hb); have n1_ := Aside0.mk (KeepBut.trans (by repeat (first | (with_reducible first | exact HK.out | apply KeepBut.set_ | apply keep_drewN | apply keep_drew | apply keep_alloc) | exact HK.out)) (KeepBut.of_below hb g none) (.inl rfl)); have n2_ := Aside0.mk (below_step (by repeat (first | (with_reducible first | exact HB.out | apply below_alloc | apply pw_below_drewN | apply below_drew1 | refine below_set ?_ (IsS3.ge HI3.out)) | exact HB.out)) hb); clear HI3; clear HK; clear HB; have HI3 := n0_; have HK := n1_; have HB := n2_; clear n0_ n1_ n2_; (try clear hb); (try clear hb2); (try clear hk); (try clear hi)))
                                      go_ret
                                      exact ⟨by first | rfl | (simp [errW_none, errW_some] <;> rfl) | (simp [*, errW_none, errW_some] <;> rfl), by repeat (first | (with_reducible first | exact HI3.out | apply IsS3.alloc | apply IsS3.drewN | apply IsS3.drew | apply IsS3.set_0) | exact HI3.out), by repeat (first | (with_reducible first | exact HB.out | apply below_alloc | apply pw_below_drewN | apply below_drew1 | refine below_set ?_ (IsS3.ge HI3.out)) | exact HB.out), by repeat (first | (with_reducible first | exact HK.out | apply KeepBut.set_ | apply keep_drewN | apply keep_drew | apply keep_alloc) | exact HK.out)⟩
                                    · rw [if_neg c64] at H
                                      have c64b0 : (t111 == 0) = false := beq_eq_false_iff_ne.mpr c64
                                      have c64b1 : (t111 != 0) = true := bne_iff_ne.mpr c64
                                      have H' := Aside0.mk H
                                      clear H
                                      go_wp2_with (first | ((with_reducible refine gate_callee (f := 53) rfl ?_); refine goesL_ (some 70) rfl rfl Tryd.func53 (by kernel_rfl) rfl #[.string (x1_2.extract (x15_14 : Int).toNat x1_2.size)] rfl (by (try simp only [List.map_toArray, List.map_cons, List.map_nil]); first | done | rfl | (simp only [List.length_drop, List.length_take]; rfl)) ?_; (with_reducible refine (utf8_DecodeRuneInString.calls (x1_2.extract (x15_14 : Int).toNat x1_2.size) t110 t111 _ ?side1 A63.out).mono ?_); (case side1 => first | exact HG.out | exact Laid.below HG.out (by repeat (first | (with_reducible first | exact HB.out | apply below_alloc | apply pw_below_drewN | apply below_drew1 | refine below_set ?_ (IsS3.ge HI3.out)) | exact HB.out))); rintro e w66 ⟨rfl, hb⟩; refine ⟨_, rfl, ?_⟩; have n0_ := Aside0.mk (IsS3.below (by repeat (first | (with_reducible first | exact HI3.out | apply IsS3.alloc | apply IsS3.drewN | apply IsS3.drew | apply IsS3.set_0) | exact HI3.out)) hb); have n1_ := Aside0.mk (KeepBut.trans (by repeat (first | (with_reducible first | exact HK.out | apply KeepBut.set_ | apply keep_drewN | apply keep_drew | apply keep_alloc) | exact HK.out)) (KeepBut.of_below hb g none) (.inl rfl)); have n2_ := Aside0.mk (below_step (by repeat (first | (with_reducible first | exact HB.out | apply below_alloc | apply pw_below_drewN | apply below_drew1 | refine below_set ?_ (IsS3.ge HI3.out)) | exact HB.out)) hb); clear HI3; clear HK; clear HB; have HI3 := n0_; have HK := n1_; have HB := n2_; clear n0_ n1_ n2_; (try clear hb); (try clear hb2); (try clear hk); (try clear hi)))
                                      go_meet
                                      case rel => exact ⟨_, (x1_2.extract (x15_14 : Int).toNat x1_2.size), (t110), (t111), (by first | rfl | (simp; done) | (simp [*]; done)), (by first | rfl | (simp; done) | (simp [*]; done)), (by first | rfl | (simp; done) | (simp [*]; done)), H', ⟨by have := HJ6.out; have := HK2.out; have := HJ14.out; have := HJ18.out; first | omega | exact Nat.le_refl _⟩, ⟨by repeat (first | (with_reducible first | exact HI3.out | apply IsS3.alloc | apply IsS3.drewN | apply IsS3.drew | apply IsS3.set_0) | exact HI3.out)⟩, ⟨by repeat (first | (with_reducible first | exact HK.out | apply KeepBut.set_ | apply keep_drewN | apply keep_drew | apply keep_alloc) | exact HK.out)⟩, ⟨by repeat (first | (with_reducible first | exact HB.out | apply below_alloc | apply pw_below_drewN | apply below_drew1 | refine below_set ?_ (IsS3.ge HI3.out)) | exact HB.out)⟩⟩
                                  · rw [if_neg c62] at H
                                    exact absurd H (by simp)
                                · rw [if_neg c61] at H
                                  exact absurd H (by simp)
                              · rw [if_neg c60] at H
                                have c60b0 : (x14_14 == 92) = false := beq_eq_false_iff_ne.mpr c60
                                have c60b1 : (x14_14 != 92) = true := bne_iff_ne.mpr c60
                                (first | rw [c60b0] | (simp only [i64_w, i32_w]; rw [c60b0]) | skip)
                                have H' := Aside0.mk H
                                clear H
                                go_wp2
                                go_meet
                                case rel => exact ⟨_, (x1_2), (x14_14), (x15_14), (by first | rfl | (simp; done) | (simp [*]; done)), (by first | rfl | (simp; done) | (simp [*]; done)), (by first | rfl | (simp; done) | (simp [*]; done)), H', ⟨by have := HJ6.out; have := HK2.out; have := HJ14.out; have := HJ18.out; first | omega | exact Nat.le_refl _⟩, ⟨by repeat (first | (with_reducible first | exact HI3.out | apply IsS3.alloc | apply IsS3.drewN | apply IsS3.drew | apply IsS3.set_0) | exact HI3.out)⟩, ⟨by repeat (first | (with_reducible first | exact HK.out | apply KeepBut.set_ | apply keep_drewN | apply keep_drew | apply keep_alloc) | exact HK.out)⟩, ⟨by repeat (first | (with_reducible first | exact HB.out | apply below_alloc | apply pw_below_drewN | apply below_drew1 | refine below_set ?_ (IsS3.ge HI3.out)) | exact HB.out)⟩⟩
                            case rest =>
                              clear HC59
                              try clear c1
                              try clear p1
                              try clear q1
                              try clear hx1
                              try clear qi1
                              try clear c2
                              try clear p2
                              try clear q2
                              try clear hx2
                              try clear qi2
                              try clear c3
                              try clear p3
                              try clear q3
                              try clear hx3
                              try clear qi3
                              try clear c4
                              try clear c5
                              try clear c6
                              try clear p6
                              try clear c8
                              try clear c8b0
                              try clear c9
                              try clear c9b0
                              try clear c12
                              try clear c12b0
                              try clear c12b1
                              try clear c13
                              try clear c13b0
                              try clear c13b1
                              try clear p14
                              try clear q14
                              try clear hx14
                              try clear qi14
                              try clear c16
                              try clear c16b0
                              try clear c20
                              try clear c20b0
                              try clear c20b1
                              try clear c21
                              try clear c21b0
                              try clear c21b1
                              try clear p22
                              try clear q22
                              try clear hx22
                              try clear qi22
                              try clear c23
                              try clear c23b0
                              try clear c26
                              try clear c26b0
                              try clear c26b1
                              try clear c27
                              try clear c27b0
                              try clear c27b1
                              try clear c28
                              try clear c28b0
                              try clear c28b1
                              try clear c29
                              try clear c29b0
                              try clear c29b1
                              try clear c30
                              try clear c31
                              try clear c31b0
                              try clear c31b1
                              try clear c32
                              try clear c32b0
                              try clear c32b1
                              try clear p32
                              try clear c33
                              try clear c33b0
                              try clear c33b1
                              try clear c35
                              try clear c35b0
                              try clear c35b1
                              try clear c36
                              try clear c36b0
                              try clear c36b1
                              try clear p37
                              try clear q37
                              try clear hx37
                              try clear qi37
                              try clear c38
                              try clear c38b0
                              try clear c38b1
                              try clear c39
                              try clear c39b0
                              try clear c39b1
                              try clear c40
                              try clear c40b0
                              try clear c40b1
                              try clear c42
                              try clear c43
                              try clear c43b0
                              try clear c43b1
                              try clear c45
                              try clear c45b0
                              try clear c45b1
                              try clear c47
                              try clear c47b0
                              try clear c47b1
                              try clear c48
                              try clear c48b0
                              try clear c48b1
                              try clear c51
                              try clear c51b0
                              try clear c51b1
                              try clear c52
                              try clear c52b0
                              try clear c52b1
                              try clear c53
                              try clear c58
                              try clear c58b0
                              try clear c58b1
                              try clear c60
                              try clear c60b0
                              try clear c60b1
                              try clear c61
                              try clear c61b0
                              try clear c61b1
                              try clear c62
                              try clear c62b0
                              try clear c62b1
                              try clear c64
                              try clear c64b0
                              try clear c64b1
                              try clear hcz10_0
                              try clear hcz11_0
                              try clear hfz10_0
                              try clear hfz11_0
                              try clear p1
                              try clear p14
                              try clear p2
                              try clear p22
                              try clear p3
                              try clear p32
                              try clear p37
                              try clear p6
                              try clear q1
                              try clear q14
                              try clear q2
                              try clear q22
                              try clear q3
                              try clear q37
                              obtain ⟨kq, x1_58, x14_58, x15_58, rfl, rfl, rfl, HA, HJ58, HI3, HK, HB⟩ := hcut
                              cases kq with
                              | zero => exact absurd HA.out (by simp [match_match.j6])
                              | succ kj58 =>
                                have H := HA.out
                                clear HA
                                simp only [match_match.j6] at H
                                have HC67 := Aside0.mk H
                                clear H
                                go_upto_if 75 with (fail)
                                go_cut [14, 16] (fun v14 v16 wc => ∃ (kq : Nat) (x14_66 : Int) (x16_66 : Int), v14 = .int .i32 x14_66 ∧ v16 = .int .i32 x16_66 ∧ Aside0 (match_match.j7 kq x0_2 x1_58 a2 a4 a5 false x14_66 x15_58 x16_66 x17_18 x4000_2 = some (r1, r2)) ∧ Aside0 (kq ≤ kj58) ∧ Aside0 (IsS3 w0 wc g x4000_2) ∧ Aside0 (KeepBut w wc g none) ∧ Aside0 (Below w0.heap.size w0 wc))
                                case first =>
                                  have H := HC67.out
                                  clear HC67
                                  by_cases c68 : a5 = true
                                  · subst c68
                                    have H1 : ((match_tolower.f x16_18).bind fun t112 => ((match_tolower.f x14_58).bind fun t113 => (match_match.j7 kj58 x0_2 x1_58 a2 a4 true false t113 x15_58 t112 x17_18 x4000_2))) = some (r1, r2) := by rw [if_pos rfl] at H; exact H
                                    clear H
                                    have H := H1
                                    clear H1
                                    replace H := Option.bind_eq_some_iff.mp H
                                    obtain ⟨t112, A690, H⟩ := H
                                    replace H : ((match_tolower.f x14_58).bind fun t113 => (match_match.j7 kj58 x0_2 x1_58 a2 a4 true false t113 x15_58 t112 x17_18 x4000_2)) = some (r1, r2) := H
                                    have A69 := Aside0.mk A690
                                    clear A690
                                    replace H := Option.bind_eq_some_iff.mp H
                                    obtain ⟨t113, A700, H⟩ := H
                                    replace H : (match_match.j7 kj58 x0_2 x1_58 a2 a4 true false t113 x15_58 t112 x17_18 x4000_2) = some (r1, r2) := H
                                    have A70 := Aside0.mk A700
                                    clear A700
                                    have H' := Aside0.mk H
                                    clear H
                                    go_wp2_with (first | ((with_reducible refine gate_callee (f := 92) rfl ?_); refine goesL_ (some 77) rfl rfl Tryd.func92 (by kernel_rfl) rfl #[.int .i32 x16_18] rfl (by (try simp only [List.map_toArray, List.map_cons, List.map_nil]); first | done | rfl | (simp only [List.length_drop, List.length_take]; rfl)) ?_; (with_reducible refine (match_tolower.calls x16_18 t112 _ A69.out).mono ?_); rintro e w' ⟨rfl, ⟨nd, rfl⟩⟩; refine ⟨_, rfl, ?_⟩) | ((with_reducible refine gate_callee (f := 92) rfl ?_); refine goesL_ (some 79) rfl rfl Tryd.func92 (by kernel_rfl) rfl #[.int .i32 x14_58] rfl (by (try simp only [List.map_toArray, List.map_cons, List.map_nil]); first | done | rfl | (simp only [List.length_drop, List.length_take]; rfl)) ?_; (with_reducible refine (match_tolower.calls x14_58 t113 _ A70.out).mono ?_); rintro e w' ⟨rfl, ⟨nd, rfl⟩⟩; refine ⟨_, rfl, ?_⟩))
                                    go_meet
                                    case rel => exact ⟨_, (t113), (t112), (by first | rfl | (simp; done) | (simp [*]; done)), (by first | rfl | (simp; done) | (simp [*]; done)), H', ⟨by have := HJ6.out; have := HK2.out; have := HJ14.out; have := HJ18.out; have := HJ58.out; first | omega | exact Nat.le_refl _⟩, ⟨by repeat (first | (with_reducible first | exact HI3.out | apply IsS3.alloc | apply IsS3.drewN | apply IsS3.drew | apply IsS3.set_0) | exact HI3.out)⟩, ⟨by repeat (first | (with_reducible first | exact HK.out | apply KeepBut.set_ | apply keep_drewN | apply keep_drew | apply keep_alloc) | exact HK.out)⟩, ⟨by repeat (first | (with_reducible first | exact HB.out | apply below_alloc | apply pw_below_drewN | apply below_drew1 | refine below_set ?_ (IsS3.ge HI3.out)) | exact HB.out)⟩⟩
                                  · replace c68 := Bool.eq_false_iff.mpr c68
                                    subst c68
                                    have H1 : (match_match.j7 kj58 x0_2 x1_58 a2 a4 false false x14_58 x15_58 x16_18 x17_18 x4000_2) = some (r1, r2) := by rw [if_neg (show ¬ (false = true) by decide)] at H; exact H
                                    clear H
                                    have H := H1
                                    clear H1
                                    have H' := Aside0.mk H
                                    clear H
                                    go_wp2
                                    go_meet
                                    case rel => exact ⟨_, (x14_58), (x16_18), (by first | rfl | (simp; done) | (simp [*]; done)), (by first | rfl | (simp; done) | (simp [*]; done)), H', ⟨by have := HJ6.out; have := HK2.out; have := HJ14.out; have := HJ18.out; have := HJ58.out; first | omega | exact Nat.le_refl _⟩, ⟨by repeat (first | (with_reducible first | exact HI3.out | apply IsS3.alloc | apply IsS3.drewN | apply IsS3.drew | apply IsS3.set_0) | exact HI3.out)⟩, ⟨by repeat (first | (with_reducible first | exact HK.out | apply KeepBut.set_ | apply keep_drewN | apply keep_drew | apply keep_alloc) | exact HK.out)⟩, ⟨by repeat (first | (with_reducible first | exact HB.out | apply below_alloc | apply pw_below_drewN | apply below_drew1 | refine below_set ?_ (IsS3.ge HI3.out)) | exact HB.out)⟩⟩
                                case rest =>
                                  clear HC67
                                  try clear c1
                                  try clear p1
                                  try clear q1
                                  try clear hx1
                                  try clear qi1
                                  try clear c2
                                  try clear p2
                                  try clear q2
                                  try clear hx2
                                  try clear qi2
                                  try clear c3
                                  try clear p3
                                  try clear q3
                                  try clear hx3
                                  try clear qi3
                                  try clear c4
                                  try clear c5
                                  try clear c6
                                  try clear p6
                                  try clear c8
                                  try clear c8b0
                                  try clear c9
                                  try clear c9b0
                                  try clear c12
                                  try clear c12b0
                                  try clear c12b1
                                  try clear c13
                                  try clear c13b0
                                  try clear c13b1
                                  try clear p14
                                  try clear q14
                                  try clear hx14
                                  try clear qi14
                                  try clear c16
                                  try clear c16b0
                                  try clear c20
                                  try clear c20b0
                                  try clear c20b1
                                  try clear c21
                                  try clear c21b0
                                  try clear c21b1
                                  try clear p22
                                  try clear q22
                                  try clear hx22
                                  try clear qi22
                                  try clear c23
                                  try clear c23b0
                                  try clear c26
                                  try clear c26b0
                                  try clear c26b1
                                  try clear c27
                                  try clear c27b0
                                  try clear c27b1
                                  try clear c28
                                  try clear c28b0
                                  try clear c28b1
                                  try clear c29
                                  try clear c29b0
                                  try clear c29b1
                                  try clear c30
                                  try clear c31
                                  try clear c31b0
                                  try clear c31b1
                                  try clear c32
                                  try clear c32b0
                                  try clear c32b1
                                  try clear p32
                                  try clear c33
                                  try clear c33b0
                                  try clear c33b1
                                  try clear c35
                                  try clear c35b0
                                  try clear c35b1
                                  try clear c36
                                  try clear c36b0
                                  try clear c36b1
                                  try clear p37
                                  try clear q37
                                  try clear hx37
                                  try clear qi37
                                  try clear c38
                                  try clear c38b0
                                  try clear c38b1
                                  try clear c39
                                  try clear c39b0
                                  try clear c39b1
                                  try clear c40
                                  try clear c40b0
                                  try clear c40b1
                                  try clear c42
                                  try clear c43
                                  try clear c43b0
                                  try clear c43b1
                                  try clear c45
                                  try clear c45b0
                                  try clear c45b1
                                  try clear c47
                                  try clear c47b0
                                  try clear c47b1
                                  try clear c48
                                  try clear c48b0
                                  try clear c48b1
                                  try clear c51
                                  try clear c51b0
                                  try clear c51b1
                                  try clear c52
                                  try clear c52b0
                                  try clear c52b1
                                  try clear c53
                                  try clear c58
                                  try clear c58b0
                                  try clear c58b1
                                  try clear c60
                                  try clear c60b0
                                  try clear c60b1
                                  try clear c61
                                  try clear c61b0
                                  try clear c61b1
                                  try clear c62
                                  try clear c62b0
                                  try clear c62b1
                                  try clear c64
                                  try clear c64b0
                                  try clear c64b1
                                  try clear c68
                                  try clear hcz10_0
                                  try clear hcz11_0
                                  try clear hfz10_0
                                  try clear hfz11_0
                                  try clear p1
                                  try clear p14
                                  try clear p2
                                  try clear p22
                                  try clear p3
                                  try clear p32
                                  try clear p37
                                  try clear p6
                                  try clear q1
                                  try clear q14
                                  try clear q2
                                  try clear q22
                                  try clear q3
                                  try clear q37
                                  obtain ⟨kq, x14_66, x16_66, rfl, rfl, HA, HJ66, HI3, HK, HB⟩ := hcut
                                  cases kq with
                                  | zero => exact absurd HA.out (by simp [match_match.j7])
                                  | succ kj66 =>
                                    have H := HA.out
                                    clear HA
                                    simp only [match_match.j7] at H
                                    by_cases c71 : x16_66 = x14_66
                                    · rw [if_pos c71] at H
                                      have c71b0 : (x16_66 == x14_66) = true := beq_iff_eq.mpr c71
                                      have c71b1 : (x16_66 != x14_66) = false := bne_eq_false_iff_eq.mpr c71
                                      clear c71
                                      by_cases c72 : 0 ≤ x17_18
                                      · rw [if_pos c72] at H
                                        have c72b0 := eq_true c72
                                        have c72b1 : decide (0 ≤ x17_18) = true := decide_eq_true c72
                                        clear c72
                                        by_cases c73 : x17_18 ≤ (x0_2.size : Int)
                                        · rw [if_pos c73] at H
                                          have c73b0 := eq_true c73
                                          have c73b1 : decide (x17_18 ≤ (x0_2.size : Int)) = true := decide_eq_true c73
                                          clear c73
                                          by_cases c74 : false = true
                                          · exact absurd c74 (by decide)
                                          · replace c74 := Bool.eq_false_iff.mpr c74
                                            clear c74
                                            have H1 : (if 0 ≤ x15_58 then (if x15_58 ≤ (x1_58.size : Int) then (match_match.l0 kj66 (x0_2.extract (x17_18 : Int).toNat x0_2.size) (x1_58.extract (x15_58 : Int).toNat x1_58.size) a2 a4 a5 x4000_2) else (none)) else (none)) = some (r1, r2) := by rw [if_neg (show ¬ (false = true) by decide)] at H; exact H
                                            clear H
                                            have H := H1
                                            clear H1
                                            by_cases c75 : 0 ≤ x15_58
                                            · rw [if_pos c75] at H
                                              have c75b0 := eq_true c75
                                              have c75b1 : decide (0 ≤ x15_58) = true := decide_eq_true c75
                                              clear c75
                                              by_cases c76 : x15_58 ≤ (x1_58.size : Int)
                                              · rw [if_pos c76] at H
                                                have c76b0 := eq_true c76
                                                have c76b1 : decide (x15_58 ≤ (x1_58.size : Int)) = true := decide_eq_true c76
                                                clear c76
                                                have H' := Aside0.mk H
                                                clear H
                                                go_wp2
                                                go_roundg kj66
                                                case measure => have := HJ6.out; have := HK2.out; have := HJ14.out; have := HJ18.out; have := HJ58.out; have := HJ66.out; omega
                                                case rel => exact ⟨(x0_2.extract (x17_18 : Int).toNat x0_2.size), (x1_58.extract (x15_58 : Int).toNat x1_58.size), (x4000_2), (by first | rfl | (simp; done) | (simp [*]; done)), (by first | rfl | (simp; done) | (simp [*]; done)), H', ⟨by have := HJ6.out; have := HK2.out; have := HJ14.out; have := HJ18.out; have := HJ58.out; have := HJ66.out; omega⟩, ⟨by repeat (first | (with_reducible first | exact HI3.out | apply IsS3.alloc | apply IsS3.drewN | apply IsS3.drew | apply IsS3.set_0) | exact HI3.out)⟩, ⟨by repeat (first | (with_reducible first | exact HK.out | apply KeepBut.set_ | apply keep_drewN | apply keep_drew | apply keep_alloc) | exact HK.out)⟩, ⟨by repeat (first | (with_reducible first | exact HB.out | apply below_alloc | apply pw_below_drewN | apply below_drew1 | refine below_set ?_ (IsS3.ge HI3.out)) | exact HB.out)⟩⟩
                                              · rw [if_neg c76] at H
                                                exact absurd H (by simp)
                                            · rw [if_neg c75] at H
                                              exact absurd H (by simp)
                                        · rw [if_neg c73] at H
                                          exact absurd H (by simp)
                                      · rw [if_neg c72] at H
                                        exact absurd H (by simp)
                                    · rw [if_neg c71] at H
                                      have c71b0 : (x16_66 == x14_66) = false := beq_eq_false_iff_ne.mpr c71
                                      have c71b1 : (x16_66 != x14_66) = true := bne_iff_ne.mpr c71
                                      simp only [Option.some.injEq, Prod.mk.injEq] at H
                                      obtain ⟨rfl, rfl⟩ := H
                                      go_wp2
                                      go_ret
                                      exact ⟨by first | rfl | (simp [errW_none, errW_some] <;> rfl) | (simp [*, errW_none, errW_some] <;> rfl), by repeat (first | (with_reducible first | exact HI3.out | apply IsS3.alloc | apply IsS3.drewN | apply IsS3.drew | apply IsS3.set_0) | exact HI3.out), by repeat (first | (with_reducible first | exact HB.out | apply below_alloc | apply pw_below_drewN | apply below_drew1 | refine below_set ?_ (IsS3.ge HI3.out)) | exact HB.out), by repeat (first | (with_reducible first | exact HK.out | apply KeepBut.set_ | apply keep_drewN | apply keep_drew | apply keep_alloc) | exact HK.out)⟩
            · rw [if_neg c13] at H
              exact absurd H (by simp)
          · rw [if_neg c12] at H
            have c12b0 : decide (0 < (x1_2.size : Int)) = false := decide_eq_false c12
            have c12b1 : decide (0 < x1_2.size) = false := decide_eq_false (by omega)
            clear c12
            by_cases c77 : (x0_2.size : Int) = 0
            · rw [if_pos c77] at H
              have c77b0 : ((x0_2.size : Int) == 0) = true := beq_iff_eq.mpr c77
              have c77b1 : ((x0_2.size : Int) != 0) = false := bne_eq_false_iff_eq.mpr c77
              clear c77
              simp only [Option.some.injEq, Prod.mk.injEq] at H
              obtain ⟨rfl, rfl⟩ := H
              go_wp2
              go_ret
              exact ⟨by first | rfl | (simp [errW_none, errW_some] <;> rfl) | (simp [*, errW_none, errW_some] <;> rfl), by repeat (first | (with_reducible first | exact HI3.out | apply IsS3.alloc | apply IsS3.drewN | apply IsS3.drew | apply IsS3.set_0) | exact HI3.out), by repeat (first | (with_reducible first | exact HB.out | apply below_alloc | apply pw_below_drewN | apply below_drew1 | refine below_set ?_ (IsS3.ge HI3.out)) | exact HB.out), by repeat (first | (with_reducible first | exact HK.out | apply KeepBut.set_ | apply keep_drewN | apply keep_drew | apply keep_alloc) | exact HK.out)⟩
            · rw [if_neg c77] at H
              have c77b0 : ((x0_2.size : Int) == 0) = false := beq_eq_false_iff_ne.mpr c77
              have c77b1 : ((x0_2.size : Int) != 0) = true := bne_iff_ne.mpr c77
              simp only [Option.some.injEq, Prod.mk.injEq] at H
              obtain ⟨rfl, rfl⟩ := H
              go_wp2
              go_ret
              exact ⟨by first | rfl | (simp [errW_none, errW_some] <;> rfl) | (simp [*, errW_none, errW_some] <;> rfl), by repeat (first | (with_reducible first | exact HI3.out | apply IsS3.alloc | apply IsS3.drewN | apply IsS3.drew | apply IsS3.set_0) | exact HI3.out), by repeat (first | (with_reducible first | exact HB.out | apply below_alloc | apply pw_below_drewN | apply below_drew1 | refine below_set ?_ (IsS3.ge HI3.out)) | exact HB.out), by repeat (first | (with_reducible first | exact HK.out | apply KeepBut.set_ | apply keep_drewN | apply keep_drew | apply keep_alloc) | exact HK.out)⟩

end Go.Proofs.YtegbajfmhkmolaaDoor.P
