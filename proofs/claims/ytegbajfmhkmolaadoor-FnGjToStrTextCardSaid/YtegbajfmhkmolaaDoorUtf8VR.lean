/- Texts in UTF-8, asked as a whole. -/
import Derived.Test.YtegbajfmhkmolaaDoorRxf10
import Derived.Test.YtegbajfmhkmolaaDoorUtfChrR
namespace Go.Proofs.YtegbajfmhkmolaaDoor.U
open Go.RowKit Go.Proofs.YtegbajfmhkmolaaDoor.R Go.Proofs.YtegbajfmhkmolaaDoorW.PrintWords Go.Proofs.YtegbajfmhkmolaaDoorW.PrintLast

/-- A text from a place on, well written to its end. -/
inductive Val (s : ByteArray) : Nat → Prop
  | done : Val s s.size
  | step {i c n : Nat} : i < s.size → Chr s i c n → Ev (fun k => spec_Character.f k s i) ((c : Int), (n : Int), true) → Val s (i + n) → Val s i
theorem utf8_val {s : ByteArray} (hs : s.size ≤ 140737488351232) : ∀ d i, s.size - i = d → i ≤ s.size → ∃ t, Ev (fun k => spec_UTF8.l0 k s i) t ∧ (t = true → Val s i) := by
  intro d
  induction d using Nat.strongRecOn with
  | ind d ih =>
    intro i hd hi
    by_cases h : i < s.size
    · obtain ⟨r, h1, h2⟩ := char_ans hs h
      rcases h2 with rfl | ⟨c, n, rfl, hc⟩
      · refine ⟨false, Ev.step (f := fun k => (spec_Character.f k s i).bind fun b => if b.2.2 = true then spec_UTF8.l0 k s (wrap64 (i + b.2.1)) else some false) (fun k => ?_) (Ev.bind h1 ?_), fun h => by simp at h⟩
        · simp only [spec_UTF8.l0]
          rw [if_pos (by omega)]
        · exact Ev.congr (fun k => by rw [if_neg (by decide)]) (Ev.now _)
      · have hf := hc.fit
        have hp := hc.pos
        obtain ⟨t, h3, h4⟩ := ih (s.size - (i + n)) (by omega) (i + n) rfl hf
        refine ⟨t, Ev.step (f := fun k => (spec_Character.f k s i).bind fun b => if b.2.2 = true then spec_UTF8.l0 k s (wrap64 (i + b.2.1)) else some false) (fun k => ?_) (Ev.bind h1 ?_), fun h5 => Val.step h hc h1 (h4 h5)⟩
        · simp only [spec_UTF8.l0]
          rw [if_pos (by omega)]
        · refine Ev.congr (fun k => ?_) h3
          change spec_UTF8.l0 k s (wrap64 ((i : Int) + (n : Int))) = _
          rw [w64 (by omega)]
          congr 1
    · refine ⟨true, Ev.step (f := fun _ => some true) (fun k => ?_) (Ev.now _), fun _ => ?_⟩
      · simp only [spec_UTF8.l0]
        rw [if_neg (by omega)]
      · have e : i = s.size := by omega
        subst e
        exact Val.done
end Go.Proofs.YtegbajfmhkmolaaDoor.U
