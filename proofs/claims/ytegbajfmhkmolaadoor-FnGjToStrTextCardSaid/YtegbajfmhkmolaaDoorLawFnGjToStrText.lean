/- The law FnGjToStrText holds of every input; no condition beyond the statement's own guards. -/
import Derived.Test.YtegbajfmhkmolaaDoorRows
import Derived.Test.YtegbajfmhkmolaaDoorTie
import Derived.Test.YtegbajfmhkmolaaDoorCards
import Derived.Test.YtegbajfmhkmolaaDoorShelf
import Derived.Test.YtegbajfmhkmolaaDoorMFnGjToStrText
import Derived.Lib.LaidIn
import Derived.Lib.LaidU8
import Derived.Deep.DeepHandedRow
import Derived.Deep.DeepWitnessRowRef
import Derived.WalkKit
import Derived.ProofKit
import Derived.OpenShut
import Derived.ShutString
import Derived.ChangeOld
import Derived.Below
import Derived.SizedLaws
import Derived.SevenTiedAt
namespace Go.Proofs.YtegbajfmhkmolaaDoor.fnGjToStrText
open Go.ChangeShapes Go.WideShapes Go.ChangeAt Go.RowKit Go.Lib Go.Shelf
open Go.ChangeMaps (open_string shut_string)
set_option linter.unusedVariables false
theorem own : ownKnob Tryd.prog.godebug = none := by kernel_rfl
theorem tab_cells {P : Program} {w : World} {n : String} {g m : Nat} {t e : TypeId} {zs : List Int} (h : VarReads P w n (tabData .u8 zs)) (hg : P.globalNamed n = some g) (hty : (P.globals[g]?).map (·.type) = some t)
    (ht : P.underlying t = some (.array m e)) (hm : m = zs.length) (he : P.underlying e = some (.int .u8)) (c1 : P.cellsOf e = 1) (c2 : P.cellsOf t = m) (j : Nat) (hj : j < zs.length) : w.cell? ⟨g, j, none⟩ = some (.int .u8 (zs.getD j 0)) := by
  obtain ⟨g', t', cs, fuel, p, hg', hty', hvar, hd⟩ := h
  obtain rfl := Option.some.inj (hg.symm.trans hg')
  obtain rfl := Option.some.inj (hty.symm.trans hty')
  have hcs := cells_of_tab ht he c1 c2 hd
  rw [World.var?_cell hg hvar j, ← Array.getElem?_toList, hcs]
  simp [hj]
/-- A start that fits: the settled world, the tables holding what their initialisers lay. -/
noncomputable def laidWorld (os : Os) : World :=
  let w0 := World.holding Tryd.prog os ⟨#[], #[], []⟩
  let put (h : Array Obj) (g : Nat) (cs : Array Value) : Array Obj := h.modify g fun
    | .cells _ t frozen => .cells cs t frozen
    | o => o
  let h1 := put w0.heap 5 ((List.range 16).flatMap fun i => [Value.int .u8 (Lib.accLo i), Value.int .u8 (Lib.accHi i)]).toArray
  let h2 := put h1 0 #[Value.int .u8 48, Value.int .u8 49, Value.int .u8 50, Value.int .u8 51, Value.int .u8 52, Value.int .u8 53, Value.int .u8 54, Value.int .u8 55, Value.int .u8 56, Value.int .u8 57, Value.int .u8 97, Value.int .u8 98, Value.int .u8 99, Value.int .u8 100, Value.int .u8 101, Value.int .u8 102]
  let h3 := put h2 4 (Lib.firstTab.map fun z => Value.int .u8 z).toArray
  { w0 with heap := h3 }
theorem laid_met (os : Os) (args : Array Value) : laidMet Tryd.prog Rows.fnGjToStrTextRow.laid ((laidWorld os).forCall (fun _ _ => 0) ⟨#[], args, []⟩).memory :=
  (LaidIn.of_run (l := Rows.fnGjToStrTextRow.laid) [5, 0, 4] 8 (by kernel_rfl) (by kernel_rfl) (by kernel_rfl) (by kernel_rfl)).met
theorem witness_row (os : Os) {H : Type} (enc : TypeId × Value → H) :
    (OpenSpec.ofChange Rows.fnGjToStrTextSpec).preRow enc Tryd.prog Tryd.f5 Rows.fnGjToStrTextRow.domain false Rows.fnGjToStrTextRow.laid ((laidWorld os).forCall (fun _ _ => 0) ⟨#[], #[.string ⟨#[]⟩], []⟩).memory #[.string ⟨#[]⟩] := by
  have hw : (DataW.whole enc Tryd.prog ((laidWorld os).forCall (fun _ _ => 0) ⟨#[], #[.string ⟨#[]⟩], []⟩).memory Tryd.f5.params.toList (OpenSpec.ofChange Rows.fnGjToStrTextSpec).vars false (#[.string ⟨#[]⟩] : Array Value).toList 8).map (fun x => (x.1, x.2.1)) =
      some ([.lit (.string [])], []) := by kernel_rfl
  obtain ⟨⟨x1, x2, x3⟩, hx, hx1⟩ := Option.map_eq_some_iff.1 hw
  simp only [Prod.mk.injEq] at hx1
  obtain ⟨rfl, rfl⟩ := hx1
  exact OpenSpec.preRow_of_cond 8 hx (by kernel_rfl) (fun k hk => by cases hk) (by kernel_rfl) (laid_met os _)
set_option maxRecDepth 100000 in
theorem lifted (os : Os) (started : os.Started) (H : Type) (enc : TypeId × Value → H) (F : Stop.Interp) :
    ReturnsInHanded {} Tryd.checked os 5 .any ((OpenSpec.ofChange Rows.fnGjToStrTextSpec).preRow enc Tryd.prog Tryd.f5 Rows.fnGjToStrTextRow.domain false Rows.fnGjToStrTextRow.laid) (((OpenSpec.ofChange Rows.fnGjToStrTextSpec).at F).post enc Tryd.prog Tryd.f5 false true false false) := by
  refine returnsInHanded_of_row (C := Tryd.checked) (s := OpenSpec.ofChange Rows.fnGjToStrTextSpec) own started (by kernel_rfl) Tryd.func5
    (witness_row_atRef (enc := enc) (C := Tryd.checked) false (laidWorld os) #[.string ⟨#[]⟩] rfl (by kernel_rfl) (by kernel_rfl) (by kernel_rfl) (witness_row os enc)) ?_
  intro W base args ds gs before hval0 hW _ _ hsz0 hL _ _
  have hsz : (DataW.weightsEach Tryd.prog (Tryd.f5.params.toList ++ Rows.fnGjToStrTextSpec.plain.varTypes Tryd.prog) (ds ++ gs)).all (· ≤ reachBytes) = true := hsz0
  have hval : ∀ (j : Nat) t v, Tryd.f5.params[j]? = some t → args[j]? = some v → Value.okWide Tryd.prog W .any base t v := hval0
  have hW' := hW
  obtain ⟨p, q, hA0, hV, rfl, hfz, hnd⟩ := hW
  have hA : DataW.TrodAll enc Tryd.prog W 0 (fun _ => true) true Tryd.f5.params.toList args.toList ds p := hA0
  rw [Tryd.params5] at hA hval hsz
  obtain ⟨v0, vs0, d0, ds0, p0, q0, hargs, rfl, rfl, h0, r0⟩ := trodAll_cons hA
  obtain ⟨rfl, rfl, rfl⟩ := trodAll_nil r0
  obtain rfl : args = #[v0] := by cases args; simp_all
  obtain ⟨rfl, rfl⟩ := trodVars_none hV
  obtain ⟨a0, rfl, rfl, rfl, y0⟩ := open_string Tryd.underlying9 (hval 0 9 v0 rfl rfl) h0
  have w0 : a0.size ≤ 140737488351232 := by
    have z := sized_string hsz (j := 0) (t := 9) rfl rfl
    rw [Array.length_toList] at z
    exact z
  clear hA0 hval0 hsz0 hsz
  have tabs : R.Laid W := ⟨utf8Tabs_of_reads Tryd.lays260 ⟨by kernel_rfl, by kernel_rfl, by kernel_rfl, by kernel_rfl, by kernel_rfl, by kernel_rfl, by kernel_rfl⟩ (Lib.laidMet.reads hL (.tail _ (.tail _ (.head _)))) (Lib.laidMet.reads hL (.head _)), fun j hj => by have := tab_cells (zs := [48, 49, 50, 51, 52, 53, 54, 55, 56, 57, 97, 98, 99, 100, 101, 102]) (Lib.laidMet.reads hL (.tail _ (.head _))) (g := 0) (by kernel_rfl) (by kernel_rfl) Tryd.underlying79 rfl Tryd.underlying5 (by kernel_rfl) (by kernel_rfl) j hj; rw [this]; exact congrArg (fun z => some (Value.int .u8 z)) ((by decide : ∀ i : Fin 16, ([48, 49, 50, 51, 52, 53, 54, 55, 56, 57, 97, 98, 99, 100, 101, 102] : List Int).getD i.val 0 = Go.Proofs.YtegbajfmhkmolaaDoorW.PrintWords.bt (⟨#[48, 49, 50, 51, 52, 53, 54, 55, 56, 57, 97, 98, 99, 100, 101, 102]⟩ : ByteArray) (i.val : Int)) ⟨j, hj⟩)⟩
  refine (R.laws_FnGjToStrText.walk Pure.FnGjToStrText a0 W tabs w0).mono fun e W' ⟨he, bel⟩ => ?_
  subst he
  exact ⟨_, rfl, _, _, _, [], _, [], hW', trodAll_mk1 (shut_bool Tryd.underlying4 _), (trodAll_cons_mk (shut_string Tryd.underlying9 y0) trodAll_mk0), rfl, bel.frame _, fun h => by cases h⟩
theorem over : Rows.fnGjToStrTextRow.holds Tryd.pinned (OpenSpec.ofChange Rows.fnGjToStrTextSpec) :=
  OpenClaim.holds_of_cond 5 Tryd.f5 rfl rfl rfl rfl rfl rfl rfl ⟨rfl, rfl, rfl, rfl, rfl⟩ rfl rfl rfl rfl rfl (by kernel_rfl) Tryd.func5 (by kernel_rfl)
    (of_decide_eq_true (by kernel_rfl)) (by unfold Func.isWrapper; first | (rw [if_pos (by decide +kernel)]; kernel_rfl) | (rw [if_neg (by decide +kernel)]; exact ⟨rfl, rfl⟩))
    (fun os started H enc _ F0 => by rw [OpenClaim.pre_eq_preRow]; exact lifted os started H enc F0)
theorem card : Rows.FnGjToStrTextCardSaid :=
  Claim7.holds_tied_plain_at .later [] [.data, .data, .pinned] true (true, "083f880b82a7ea5949b1e64f8ea81e68854f380bce7546e1abb7aebb6e262795") false
    over (fun _ h => by cases h) (by kernel_rfl) (fun _ h => by cases h) fnGjToStrText_row_tie rfl ⟨rfl, rfl⟩ (by kernel_rfl) rfl
    (fun f fn hf hfn => by
      obtain rfl : f = 5 := Option.some.inj ((show Tryd.prog.funcNamed "pub-tetrapla/laws.FnGjToStrText" = some 5 by kernel_rfl).symm.trans hf) |>.symm
      obtain rfl : fn = Tryd.f5 := (Option.some.inj (Tryd.func5.symm.trans hfn)).symm
      exact ⟨by kernel_rfl, fun j t ht => by
        rw [Tryd.params5] at ht
        have h3 : t = 9 := by
          match j, ht with
          | 0, ht => have e : t = 9 := (by simpa using ht.symm); subst e; simp
          | j + 1, ht => simp at ht
        subst h3
        exact (show Tryd.prog.wantsStandIn 9 = false by kernel_rfl)⟩)
    (by kernel_rfl)
end Go.Proofs.YtegbajfmhkmolaaDoor.fnGjToStrText
namespace Go.Proofs.YtegbajfmhkmolaaDoor
/-- The card, under a short name, for the claim. -/
theorem fnGjToStrText_holds : Rows.FnGjToStrTextCardSaid := fnGjToStrText.card
end Go.Proofs.YtegbajfmhkmolaaDoor
