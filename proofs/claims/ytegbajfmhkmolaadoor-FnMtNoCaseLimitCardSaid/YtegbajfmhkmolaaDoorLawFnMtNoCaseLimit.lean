/- The law FnMtNoCaseLimit holds of every input; no condition beyond the statement's own guards. -/
import Derived.Test.YtegbajfmhkmolaaDoorRows
import Derived.Test.YtegbajfmhkmolaaDoorTie
import Derived.Test.YtegbajfmhkmolaaDoorCards
import Derived.Test.YtegbajfmhkmolaaDoorShelf
import Derived.Test.YtegbajfmhkmolaaDoorPxf9
import Derived.Test.YtegbajfmhkmolaaDoorPureFnMtNoCaseLimit
import Derived.Lib.LaidIn
import Derived.Lib.LaidU8
import Derived.Deep.DeepHandedRow
import Derived.Deep.DeepWitnessRowRef
import Derived.WalkKit
import Derived.ProofKit
import Derived.OpenShut
import Derived.ShutString
import Derived.ChangeOld
import Derived.Below
import Derived.SizedLaws
import Derived.SevenTiedAt
namespace Go.Proofs.YtegbajfmhkmolaaDoor.fnMtNoCaseLimit
open Go.ChangeShapes Go.WideShapes Go.ChangeAt Go.RowKit Go.Lib Go.Shelf
open Go.ChangeMaps (open_string shut_string)
set_option linter.unusedVariables false
theorem own : ownKnob Tryd.prog.godebug = none := by kernel_rfl
/-- A start that fits: the settled world, the tables holding what their initialisers lay. -/
noncomputable def laidWorld (os : Os) : World :=
  let w0 := World.holding Tryd.prog os ⟨#[], #[], []⟩
  let put (h : Array Obj) (g : Nat) (cs : Array Value) : Array Obj := h.modify g fun
    | .cells _ t frozen => .cells cs t frozen
    | o => o
  let h1 := put w0.heap 5 ((List.range 16).flatMap fun i => [Value.int .u8 (Lib.accLo i), Value.int .u8 (Lib.accHi i)]).toArray
  let h2 := put h1 4 (Lib.firstTab.map fun z => Value.int .u8 z).toArray
  { w0 with heap := h2 }
theorem laid_met (os : Os) (args : Array Value) : laidMet Tryd.prog Rows.fnMtNoCaseLimitRow.laid ((laidWorld os).forCall (fun _ _ => 0) ⟨#[], args, []⟩).memory :=
  (LaidIn.of_run (l := Rows.fnMtNoCaseLimitRow.laid) [5, 4] 8 (by kernel_rfl) (by kernel_rfl) (by kernel_rfl) (by kernel_rfl)).met
theorem witness_row (os : Os) {H : Type} (enc : TypeId × Value → H) :
    (OpenSpec.ofChange Rows.fnMtNoCaseLimitSpec).preRow enc Tryd.prog Tryd.f9 Rows.fnMtNoCaseLimitRow.domain false Rows.fnMtNoCaseLimitRow.laid ((laidWorld os).forCall (fun _ _ => 0) ⟨#[], #[.string ⟨#[]⟩, .string ⟨#[]⟩, .int .i64 0], []⟩).memory #[.string ⟨#[]⟩, .string ⟨#[]⟩, .int .i64 0] := by
  have hw : (DataW.whole enc Tryd.prog ((laidWorld os).forCall (fun _ _ => 0) ⟨#[], #[.string ⟨#[]⟩, .string ⟨#[]⟩, .int .i64 0], []⟩).memory Tryd.f9.params.toList (OpenSpec.ofChange Rows.fnMtNoCaseLimitSpec).vars false (#[.string ⟨#[]⟩, .string ⟨#[]⟩, .int .i64 0] : Array Value).toList 8).map (fun x => (x.1, x.2.1)) =
      some ([.lit (.string []), .lit (.string []), .lit (.int .i64 0)], []) := by kernel_rfl
  obtain ⟨⟨x1, x2, x3⟩, hx, hx1⟩ := Option.map_eq_some_iff.1 hw
  simp only [Prod.mk.injEq] at hx1
  obtain ⟨rfl, rfl⟩ := hx1
  exact OpenSpec.preRow_of_cond 8 hx (by kernel_rfl) (fun k hk => by cases hk) (by kernel_rfl) (laid_met os _)
set_option maxRecDepth 100000 in
theorem lifted (os : Os) (started : os.Started) (H : Type) (enc : TypeId × Value → H) (F : Stop.Interp) :
    ReturnsInHanded {} Tryd.checked os 9 .any ((OpenSpec.ofChange Rows.fnMtNoCaseLimitSpec).preRow enc Tryd.prog Tryd.f9 Rows.fnMtNoCaseLimitRow.domain false Rows.fnMtNoCaseLimitRow.laid) (((OpenSpec.ofChange Rows.fnMtNoCaseLimitSpec).at F).post enc Tryd.prog Tryd.f9 false true false false) := by
  refine returnsInHanded_of_row (C := Tryd.checked) (s := OpenSpec.ofChange Rows.fnMtNoCaseLimitSpec) own started (by kernel_rfl) Tryd.func9
    (witness_row_atRef (enc := enc) (C := Tryd.checked) false (laidWorld os) #[.string ⟨#[]⟩, .string ⟨#[]⟩, .int .i64 0] rfl (by kernel_rfl) (by kernel_rfl) (by kernel_rfl) (witness_row os enc)) ?_
  intro W base args ds gs before hval0 hW _ _ hsz0 hL _ _
  have hsz : (DataW.weightsEach Tryd.prog (Tryd.f9.params.toList ++ Rows.fnMtNoCaseLimitSpec.plain.varTypes Tryd.prog) (ds ++ gs)).all (· ≤ reachBytes) = true := hsz0
  have hval : ∀ (j : Nat) t v, Tryd.f9.params[j]? = some t → args[j]? = some v → Value.okWide Tryd.prog W .any base t v := hval0
  have hW' := hW
  obtain ⟨p, q, hA0, hV, rfl, hfz, hnd⟩ := hW
  have hA : DataW.TrodAll enc Tryd.prog W 0 (fun _ => true) true Tryd.f9.params.toList args.toList ds p := hA0
  rw [Tryd.params9] at hA hval hsz
  obtain ⟨v0, vs0, d0, ds0, p0, q0, hargs, rfl, rfl, h0, r0⟩ := trodAll_cons hA
  obtain ⟨v1, vs1, d1, ds1, p1, q1, rfl, rfl, rfl, h1, r1⟩ := trodAll_cons r0
  obtain ⟨v2, vs2, d2, ds2, p2, q2, rfl, rfl, rfl, h2, r2⟩ := trodAll_cons r1
  obtain ⟨rfl, rfl, rfl⟩ := trodAll_nil r2
  obtain rfl : args = #[v0, v1, v2] := by cases args; simp_all
  obtain ⟨rfl, rfl⟩ := trodVars_none hV
  obtain ⟨a0, rfl, rfl, rfl, y0⟩ := open_string Tryd.underlying9 (hval 0 9 v0 rfl rfl) h0
  have w0 : a0.size ≤ 140737488351232 := by
    have z := sized_string hsz (j := 0) (t := 9) rfl rfl
    rw [Array.length_toList] at z
    exact z
  obtain ⟨a1, rfl, rfl, rfl, y1⟩ := open_string Tryd.underlying9 (hval 1 9 v1 rfl rfl) h1
  have w1 : a1.size ≤ 140737488351232 := by
    have z := sized_string hsz (j := 1) (t := 9) rfl rfl
    rw [Array.length_toList] at z
    exact z
  obtain ⟨a2, rfl, rfl, rfl, w2⟩ := open_int Tryd.underlying3 (hval 2 3 v2 rfl rfl) h2
  clear hA0 hval0 hsz0 hsz
  have tabs : P.Laid W := utf8Tabs_of_reads Tryd.lays260 ⟨by kernel_rfl, by kernel_rfl, by kernel_rfl, by kernel_rfl, by kernel_rfl, by kernel_rfl, by kernel_rfl⟩ (Lib.laidMet.reads hL (.tail _ (.head _))) (Lib.laidMet.reads hL (.head _))
  refine (P.laws_FnMtNoCaseLimit.walk Pure.FnMtNoCaseLimit a0 a1 a2 W tabs w0 w1 w2).mono fun e W' ⟨he, bel⟩ => ?_
  subst he
  exact ⟨_, rfl, _, _, _, [], _, [], hW', trodAll_mk1 (shut_bool Tryd.underlying4 _), (trodAll_cons_mk (shut_string Tryd.underlying9 y0) (trodAll_cons_mk (shut_string Tryd.underlying9 y1) (trodAll_cons_mk (shut_int Tryd.underlying3 w2) trodAll_mk0))), rfl, bel.frame _, fun h => by cases h⟩
theorem over : Rows.fnMtNoCaseLimitRow.holds Tryd.pinned (OpenSpec.ofChange Rows.fnMtNoCaseLimitSpec) :=
  OpenClaim.holds_of_cond 9 Tryd.f9 rfl rfl rfl rfl rfl rfl rfl ⟨rfl, rfl, rfl, rfl, rfl⟩ rfl rfl rfl rfl rfl (by kernel_rfl) Tryd.func9 (by kernel_rfl)
    (of_decide_eq_true (by kernel_rfl)) (by unfold Func.isWrapper; first | (rw [if_pos (by decide +kernel)]; kernel_rfl) | (rw [if_neg (by decide +kernel)]; exact ⟨rfl, rfl⟩))
    (fun os started H enc _ F0 => by rw [OpenClaim.pre_eq_preRow]; exact lifted os started H enc F0)
theorem card : Rows.FnMtNoCaseLimitCardSaid :=
  Claim7.holds_tied_plain_at .later [] [.data, .pinned] true (true, "083f880b82a7ea5949b1e64f8ea81e68854f380bce7546e1abb7aebb6e262795") false
    over (fun _ h => by cases h) (by kernel_rfl) (fun _ h => by cases h) fnMtNoCaseLimit_row_tie rfl ⟨rfl, rfl⟩ (by kernel_rfl) rfl
    (fun f fn hf hfn => by
      obtain rfl : f = 9 := Option.some.inj ((show Tryd.prog.funcNamed "pub-tetrapla/laws.FnMtNoCaseLimit" = some 9 by kernel_rfl).symm.trans hf) |>.symm
      obtain rfl : fn = Tryd.f9 := (Option.some.inj (Tryd.func9.symm.trans hfn)).symm
      exact ⟨by kernel_rfl, fun j t ht => by
        rw [Tryd.params9] at ht
        have h3 : t = 3 ∨ t = 9 := by
          match j, ht with
          | 0, ht => have e : t = 9 := (by simpa using ht.symm); subst e; simp
          | 1, ht => have e : t = 9 := (by simpa using ht.symm); subst e; simp
          | 2, ht => have e : t = 3 := (by simpa using ht.symm); subst e; simp
          | j + 3, ht => simp at ht
        rcases h3 with rfl | rfl
        · exact (show Tryd.prog.wantsStandIn 3 = false by kernel_rfl)
        · exact (show Tryd.prog.wantsStandIn 9 = false by kernel_rfl)⟩)
    (by kernel_rfl)
end Go.Proofs.YtegbajfmhkmolaaDoor.fnMtNoCaseLimit
namespace Go.Proofs.YtegbajfmhkmolaaDoor
/-- The card, under a short name, for the claim. -/
theorem fnMtNoCaseLimit_holds : Rows.FnMtNoCaseLimitCardSaid := fnMtNoCaseLimit.card
end Go.Proofs.YtegbajfmhkmolaaDoor
