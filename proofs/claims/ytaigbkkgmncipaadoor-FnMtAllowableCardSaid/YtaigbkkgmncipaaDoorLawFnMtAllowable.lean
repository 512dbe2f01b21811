/- The law FnMtAllowable holds of every pair of texts; no condition beyond the statement's own guards. -/
import Derived.Test.YtaigbkkgmncipaaDoorRows
import Derived.Test.YtaigbkkgmncipaaDoorTie
import Derived.Test.YtaigbkkgmncipaaDoorCards
import Derived.Test.YtaigbkkgmncipaaDoorKFnMtAllowable3
import Derived.Lib.LaidIn
import Derived.Lib.LaidU8
import Derived.Deep.DeepHandedRow
import Derived.Deep.DeepWitnessRowRef
import Derived.WalkKit
import Derived.ProofKit
import Derived.OpenShut
import Derived.ShutString
import Derived.ChangeOld
import Derived.Below
import Derived.SizedLaws
import Derived.SevenTiedAt
namespace Go.Proofs.YtaigbkkgmncipaaDoor.fnMtAllowable
open Go.ChangeShapes Go.WideShapes Go.ChangeAt Go.RowKit Go.Lib Go.Shelf
open Go.ChangeMaps (open_string shut_string)
set_option linter.unusedVariables false
theorem own : ownKnob Tryd.prog.godebug = none := by kernel_rfl
theorem tab_cells {P : Program} {w : World} {n : String} {g m : Nat} {t e : TypeId} {zs : List Int} (h : VarReads P w n (tabData .u8 zs)) (hg : P.globalNamed n = some g) (hty : (P.globals[g]?).map (·.type) = some t)
    (ht : P.underlying t = some (.array m e)) (hm : m = zs.length) (he : P.underlying e = some (.int .u8)) (c1 : P.cellsOf e = 1) (c2 : P.cellsOf t = m) (j : Nat) (hj : j < zs.length) : w.cell? ⟨g, j, none⟩ = some (.int .u8 (zs.getD j 0)) := by
  obtain ⟨g', t', cs, fuel, p, hg', hty', hvar, hd⟩ := h
  obtain rfl := Option.some.inj (hg.symm.trans hg')
  obtain rfl := Option.some.inj (hty.symm.trans hty')
  have hcs := cells_of_tab ht he c1 c2 hd
  rw [World.var?_cell hg hvar j, ← Array.getElem?_toList, hcs]
  simp [hj]
theorem u8_tabs {w : World} (h3 : VarReads Tryd.prog w "unicode/utf8.first" firstData) (h4 : VarReads Tryd.prog w "unicode/utf8.acceptRanges" acceptData) : Lib.Utf8Tabs 13 14 w := by
  refine ⟨fun c hc => ?_, fun i hi => ?_⟩
  · have hl : c < firstTab.length := by simpa [firstTab] using hc
    rw [tab_cells (zs := firstTab) h3 (g := 13) (by kernel_rfl) (by kernel_rfl) Tryd.underlying117 (by simp [firstTab]) Tryd.underlying5 (by kernel_rfl) (by kernel_rfl) c hl]
    simp [firstTab, hc]
  · obtain ⟨g, t, cs, fuel, p, hg, hty, hvar, hd⟩ := h4
    obtain rfl := Option.some.inj ((show Tryd.prog.globalNamed "unicode/utf8.acceptRanges" = some 14 by kernel_rfl).symm.trans hg)
    obtain rfl := Option.some.inj ((show (Tryd.prog.globals[14]?).map (·.type) = some 120 by kernel_rfl).symm.trans hty)
    obtain ⟨n, d, q, hdi, he⟩ := array_elem Tryd.underlying120 hd i hi
    simp only [List.getElem?_map, List.getElem?_range hi, Option.map_some, Option.some.injEq] at hdi
    subst hdi
    have hc2 : Tryd.prog.cellsOf 119 = 2 := by kernel_rfl
    rw [hc2] at he
    have hcs := ints_of_struct Tryd.underlying119 (fun j f hj => by
      match j, hj with
      | 0, hj => simp at hj; subst hj; exact ⟨Tryd.underlying5, rfl, by kernel_rfl⟩
      | 1, hj => simp at hj; subst hj; exact ⟨Tryd.underlying5, rfl, by kernel_rfl⟩
      | j + 2, hj => simp at hj) (by rw [hc2]; rfl) he
    have lo := congrArg (·[0]?) hcs
    have hi2 := congrArg (·[1]?) hcs
    simp only [List.getElem?_take, List.getElem?_drop] at lo hi2
    exact ⟨by rw [World.var?_cell hg hvar (2 * i), ← Array.getElem?_toList]; simpa [Nat.mul_comm] using lo, by rw [World.var?_cell hg hvar (2 * i + 1), ← Array.getElem?_toList]; simpa [Nat.mul_comm] using hi2⟩
/-- A start that fits: the settled world, the tables holding what their initialisers lay. -/
noncomputable def laidWorld (os : Os) : World :=
  let w0 := World.holding Tryd.prog os ⟨#[], #[], []⟩
  let put (h : Array Obj) (g : Nat) (cs : Array Value) : Array Obj := h.modify g fun
    | .cells _ t frozen => .cells cs t frozen
    | o => o
  let h1 := put w0.heap 14 ((List.range 16).flatMap fun i => [Value.int .u8 (Lib.accLo i), Value.int .u8 (Lib.accHi i)]).toArray
  let h2 := put h1 0 #[Value.int .u8 244, Value.int .u8 143, Value.int .u8 191, Value.int .u8 191]
  let h3 := put h2 13 (Lib.firstTab.map fun z => Value.int .u8 z).toArray
  { w0 with heap := h3 }
theorem laid_met (os : Os) (args : Array Value) : laidMet Tryd.prog Rows.fnMtAllowableRow.laid ((laidWorld os).forCall (fun _ _ => 0) ⟨#[], args, []⟩).memory :=
  (LaidIn.of_run (l := Rows.fnMtAllowableRow.laid) [14, 0, 13] 8 (by kernel_rfl) (by kernel_rfl) (by kernel_rfl) (by kernel_rfl)).met
theorem witness_row (os : Os) {H : Type} (enc : TypeId × Value → H) :
    (OpenSpec.ofChange Rows.fnMtAllowableSpec).preRow enc Tryd.prog Tryd.f3 Rows.fnMtAllowableRow.domain false Rows.fnMtAllowableRow.laid ((laidWorld os).forCall (fun _ _ => 0) ⟨#[], #[.string ⟨#[]⟩, .string ⟨#[]⟩], []⟩).memory #[.string ⟨#[]⟩, .string ⟨#[]⟩] := by
  have hw : (DataW.whole enc Tryd.prog ((laidWorld os).forCall (fun _ _ => 0) ⟨#[], #[.string ⟨#[]⟩, .string ⟨#[]⟩], []⟩).memory Tryd.f3.params.toList (OpenSpec.ofChange Rows.fnMtAllowableSpec).vars false (#[.string ⟨#[]⟩, .string ⟨#[]⟩] : Array Value).toList 8).map (fun x => (x.1, x.2.1)) =
      some ([.lit (.string []), .lit (.string [])], []) := by kernel_rfl
  obtain ⟨⟨x1, x2, x3⟩, hx, hx1⟩ := Option.map_eq_some_iff.1 hw
  simp only [Prod.mk.injEq] at hx1
  obtain ⟨rfl, rfl⟩ := hx1
  exact OpenSpec.preRow_of_cond 8 hx (by kernel_rfl) (fun k hk => by cases hk) (by kernel_rfl) (laid_met os _)
set_option maxRecDepth 100000 in
theorem lifted (os : Os) (started : os.Started) (H : Type) (enc : TypeId × Value → H) (F : Stop.Interp) :
    ReturnsInHanded {} Tryd.checked os 3 .any ((OpenSpec.ofChange Rows.fnMtAllowableSpec).preRow enc Tryd.prog Tryd.f3 Rows.fnMtAllowableRow.domain false Rows.fnMtAllowableRow.laid) (((OpenSpec.ofChange Rows.fnMtAllowableSpec).at F).post enc Tryd.prog Tryd.f3 false true false false) := by
  refine returnsInHanded_of_row (C := Tryd.checked) (s := OpenSpec.ofChange Rows.fnMtAllowableSpec) own started (by kernel_rfl) Tryd.func3
    (witness_row_atRef (enc := enc) (C := Tryd.checked) false (laidWorld os) #[.string ⟨#[]⟩, .string ⟨#[]⟩] rfl (by kernel_rfl) (by kernel_rfl) (by kernel_rfl) (witness_row os enc)) ?_
  intro W base args ds gs before hval0 hW _ _ hsz0 hL _ _
  have hsz : (DataW.weightsEach Tryd.prog (Tryd.f3.params.toList ++ Rows.fnMtAllowableSpec.plain.varTypes Tryd.prog) (ds ++ gs)).all (· ≤ reachBytes) = true := hsz0
  have hval : ∀ (j : Nat) t v, Tryd.f3.params[j]? = some t → args[j]? = some v → Value.okWide Tryd.prog W .any base t v := hval0
  have hW' := hW
  obtain ⟨p, q, hA0, hV, rfl, hfz, hnd⟩ := hW
  have hA : DataW.TrodAll enc Tryd.prog W 0 (fun _ => true) true Tryd.f3.params.toList args.toList ds p := hA0
  rw [Tryd.params3] at hA hval hsz
  obtain ⟨v0, vs0, d0, ds0, p0, q0, hargs, rfl, rfl, h0, r0⟩ := trodAll_cons hA
  obtain ⟨v1, vs1, d1, ds1, p1, q1, rfl, rfl, rfl, h1, r1⟩ := trodAll_cons r0
  obtain ⟨rfl, rfl, rfl⟩ := trodAll_nil r1
  obtain rfl : args = #[v0, v1] := by cases args; simp_all
  obtain ⟨rfl, rfl⟩ := trodVars_none hV
  obtain ⟨a0, rfl, rfl, rfl, y0⟩ := open_string Tryd.underlying9 (hval 0 9 v0 rfl rfl) h0
  have w0 : a0.size ≤ 140737488351232 := by
    have z := sized_string hsz (j := 0) (t := 9) rfl rfl
    rw [Array.length_toList] at z
    exact z
  obtain ⟨a1, rfl, rfl, rfl, y1⟩ := open_string Tryd.underlying9 (hval 1 9 v1 rfl rfl) h1
  have w1 : a1.size ≤ 140737488351232 := by
    have z := sized_string hsz (j := 1) (t := 9) rfl rfl
    rw [Array.length_toList] at z
    exact z
  clear hA0 hval0 hsz0 hsz
  have tabs : A.Laid W := {
    utf8 := u8_tabs (Lib.laidMet.reads hL (.tail _ (.tail _ (.head _)))) (Lib.laidMet.reads hL (.head _))
    mrb := fun j hj => by have := tab_cells (zs := [244, 143, 191, 191]) (Lib.laidMet.reads hL (.tail _ (.head _))) (g := 0) (by kernel_rfl) (by kernel_rfl) Tryd.underlying70 rfl Tryd.underlying5 (by kernel_rfl) (by kernel_rfl) j hj; rw [this]; exact congrArg (fun z => some (Value.int .u8 z)) ((by decide : ∀ i : Fin 4, ([244, 143, 191, 191] : List Int).getD i.val 0 = Go.Proofs.YtaigbkkgmncipaaDoor.A.mrbT i.val) ⟨j, hj⟩) }
  refine (A.laws_FnMtAllowable.walk Pure.FnMtAllowable a0 a1 W tabs w0 w1).mono fun e W' ⟨he, bel⟩ => ?_
  subst he
  exact ⟨_, rfl, _, _, _, [], _, [], hW', trodAll_mk1 (shut_bool Tryd.underlying4 _), (trodAll_cons_mk (shut_string Tryd.underlying9 y0) (trodAll_cons_mk (shut_string Tryd.underlying9 y1) trodAll_mk0)), rfl, bel.frame _, fun h => by cases h⟩
theorem over : Rows.fnMtAllowableRow.holds Tryd.pinned (OpenSpec.ofChange Rows.fnMtAllowableSpec) :=
  OpenClaim.holds_of_cond 3 Tryd.f3 rfl rfl rfl rfl rfl rfl rfl ⟨rfl, rfl, rfl, rfl, rfl⟩ rfl rfl rfl rfl rfl (by kernel_rfl) Tryd.func3 (by kernel_rfl)
    (of_decide_eq_true (by kernel_rfl)) (by unfold Func.isWrapper; first | (rw [if_pos (by decide +kernel)]; kernel_rfl) | (rw [if_neg (by decide +kernel)]; exact ⟨rfl, rfl⟩))
    (fun os started H enc _ F0 => by rw [OpenClaim.pre_eq_preRow]; exact lifted os started H enc F0)
theorem card : Rows.FnMtAllowableCardSaid :=
  Claim7.holds_tied_plain_at .later [] [.data, .widerDeep, .pinned] true (true, "c57bc85803711fc22e656b689d5e1c65426e45cc361052fe5a9c5ab3c78a401b") true
    over (fun _ h => by cases h) (by kernel_rfl) (fun _ h => by cases h) fnMtAllowable_row_tie rfl ⟨rfl, rfl⟩ (by kernel_rfl) rfl
    (fun f fn hf hfn => by
      obtain rfl : f = 3 := Option.some.inj ((show Tryd.prog.funcNamed "pub-tetrapla/laws.FnMtAllowable" = some 3 by kernel_rfl).symm.trans hf) |>.symm
      obtain rfl : fn = Tryd.f3 := (Option.some.inj (Tryd.func3.symm.trans hfn)).symm
      exact ⟨by kernel_rfl, fun j t ht => by
        rw [Tryd.params3] at ht
        have h3 : t = 9 := by
          match j, ht with
          | 0, ht => have e : t = 9 := (by simpa using ht.symm); subst e; simp
          | 1, ht => have e : t = 9 := (by simpa using ht.symm); subst e; simp
          | j + 2, ht => simp at ht
        subst h3
        exact (show Tryd.prog.wantsStandIn 9 = false by kernel_rfl)⟩)
    (by kernel_rfl)
end Go.Proofs.YtaigbkkgmncipaaDoor.fnMtAllowable
namespace Go.Proofs.YtaigbkkgmncipaaDoor
/-- The card, under a short name, for the claim. -/
theorem fnMtAllowable_holds : Rows.FnMtAllowableCardSaid := fnMtAllowable.card
end Go.Proofs.YtaigbkkgmncipaaDoor
