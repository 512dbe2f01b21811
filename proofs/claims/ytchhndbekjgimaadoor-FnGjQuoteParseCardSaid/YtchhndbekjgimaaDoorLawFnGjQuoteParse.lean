/- The law FnGjQuoteParse holds of every input; no condition beyond the statement's own guards. -/
import Derived.Lay
import Derived.Test.YtchhndbekjgimaaDoorRows
import Derived.Test.YtchhndbekjgimaaDoorTie
import Derived.Test.YtchhndbekjgimaaDoorCards
import Derived.Test.YtchhndbekjgimaaDoorKFnGjQuoteParse3
import Derived.Lib.LaidIn
import Derived.Lib.LaidU8
import Derived.Deep.DeepHandedRow
import Derived.Deep.DeepWitnessRowRef
import Derived.WalkKit
import Derived.ProofKit
import Derived.OpenShut
import Derived.ShutString
import Derived.ChangeOld
import Derived.Below
import Derived.SizedLaws
import Derived.SevenTiedAt
import Derived.Stop.LaidErr
namespace Go.Proofs.YtchhndbekjgimaaDoor.fnGjQuoteParse
open Go.ChangeShapes Go.WideShapes Go.ChangeAt Go.RowKit Go.Lib Go.Shelf
open Go.ChangeMaps (open_string shut_string)
set_option linter.unusedVariables false
theorem own : ownKnob Tryd.prog.godebug = none := by kernel_rfl
theorem tab_cells {P : Program} {w : World} {n : String} {g m : Nat} {t e : TypeId} {zs : List Int} (h : VarReads P w n (tabData .u8 zs)) (hg : P.globalNamed n = some g) (hty : (P.globals[g]?).map (·.type) = some t)
    (ht : P.underlying t = some (.array m e)) (hm : m = zs.length) (he : P.underlying e = some (.int .u8)) (c1 : P.cellsOf e = 1) (c2 : P.cellsOf t = m) (j : Nat) (hj : j < zs.length) : w.cell? ⟨g, j, none⟩ = some (.int .u8 (zs.getD j 0)) := by
  obtain ⟨g', t', cs, fuel, p, hg', hty', hvar, hd⟩ := h
  obtain rfl := Option.some.inj (hg.symm.trans hg')
  obtain rfl := Option.some.inj (hty.symm.trans hty')
  have hcs := cells_of_tab ht he c1 c2 hd
  rw [World.var?_cell hg hvar j, ← Array.getElem?_toList, hcs]
  simp [hj]
noncomputable def low : Nat := (World.holding Tryd.prog default ⟨#[], #[], []⟩).heap.size
theorem star : "*" ++ "errors.errorString" = "*errors.errorString" := by decide
theorem star_row (u : TypeId) (h : Tryd.prog.typeName? 3 u = some "*errors.errorString") : u = 106 :=
  typeName_ptr_named (nm := "errors.errorString") (by rw [star]; kernel_rfl) (by kernel_rfl) (by decide) u (by rw [star]; exact h)
/-- A start that fits: the settled world, the variables holding what their initialisers lay. -/
noncomputable def laidWorld (os : Os) : World := World.laidAll Tryd.prog os Rows.fnGjQuoteParseRow.laid
theorem laid_met (os : Os) (args : Array Value) : laidMet Tryd.prog Rows.fnGjQuoteParseRow.laid ((laidWorld os).forCall (fun _ _ => 0) ⟨#[], args, []⟩).memory := laidMet_laidAll args (by kernel_rfl) (by kernel_rfl)
theorem witness_row (os : Os) {H : Type} (enc : TypeId × Value → H) :
    (OpenSpec.ofChange Rows.fnGjQuoteParseSpec).preRow enc Tryd.prog Tryd.f3 Rows.fnGjQuoteParseRow.domain false Rows.fnGjQuoteParseRow.laid ((laidWorld os).forCall (fun _ _ => 0) ⟨#[], #[.string ⟨#[]⟩], []⟩).memory #[.string ⟨#[]⟩] := by
  have hw : (DataW.whole enc Tryd.prog ((laidWorld os).forCall (fun _ _ => 0) ⟨#[], #[.string ⟨#[]⟩], []⟩).memory Tryd.f3.params.toList (OpenSpec.ofChange Rows.fnGjQuoteParseSpec).vars false (#[.string ⟨#[]⟩] : Array Value).toList 8).map (fun x => (x.1, x.2.1)) =
      some ([.lit (.string [])], []) := by kernel_rfl
  obtain ⟨⟨x1, x2, x3⟩, hx, hx1⟩ := Option.map_eq_some_iff.1 hw
  simp only [Prod.mk.injEq] at hx1
  obtain ⟨rfl, rfl⟩ := hx1
  exact OpenSpec.preRow_of_cond 8 hx (by kernel_rfl) (fun k hk => by cases hk) (by kernel_rfl) (laid_met os _)
set_option maxRecDepth 100000 in
theorem lifted (os : Os) (started : os.Started) (H : Type) (enc : TypeId × Value → H) (F : Stop.Interp) :
    ReturnsInHanded {} Tryd.checked os 3 .any ((OpenSpec.ofChange Rows.fnGjQuoteParseSpec).preRow enc Tryd.prog Tryd.f3 Rows.fnGjQuoteParseRow.domain false Rows.fnGjQuoteParseRow.laid) (((OpenSpec.ofChange Rows.fnGjQuoteParseSpec).at F).post enc Tryd.prog Tryd.f3 false true false false) := by
  refine returnsInHanded_of_row (C := Tryd.checked) (s := OpenSpec.ofChange Rows.fnGjQuoteParseSpec) own started (by kernel_rfl) Tryd.func3
    (have hok : Input.okWideB Tryd.prog ((laidWorld os).forCall (fun _ _ => 0) ⟨#[], #[.string ⟨#[]⟩], []⟩) 3 ⟨#[], #[.string ⟨#[]⟩], []⟩ = true := by kernel_rfl
     ⟨laidWorld os, fun _ _ => 0, ⟨#[], #[.string ⟨#[]⟩], []⟩, World.laidAll_os _ _ _, World.shaped_of_ZipB (by kernel_rfl) (by kernel_rfl), (Input.okWide_of_okWideB (base := 0) hok).1, (Input.okWide_of_okWideB hok).2, witness_row os enc, by
      simp only [Assume.holds]
      exact ⟨by simp, by simp, fun _ => Modest.zero, by simp, by simp⟩⟩) ?_
  intro W base args ds gs before hval0 hW _ _ hsz0 hL _ _
  have hsz : (DataW.weightsEach Tryd.prog (Tryd.f3.params.toList ++ Rows.fnGjQuoteParseSpec.plain.varTypes Tryd.prog) (ds ++ gs)).all (· ≤ reachBytes) = true := hsz0
  have hval : ∀ (j : Nat) t v, Tryd.f3.params[j]? = some t → args[j]? = some v → Value.okWide Tryd.prog W .any base t v := hval0
  have hW' := hW
  obtain ⟨p, q, hA0, hV, rfl, hfz, hnd⟩ := hW
  have hA : DataW.TrodAll enc Tryd.prog W 0 (fun _ => true) true Tryd.f3.params.toList args.toList ds p := hA0
  rw [Tryd.params3] at hA hval hsz
  obtain ⟨v0, vs0, d0, ds0, p0, q0, hargs, rfl, rfl, h0, r0⟩ := trodAll_cons hA
  obtain ⟨rfl, rfl, rfl⟩ := trodAll_nil r0
  obtain rfl : args = #[v0] := by cases args; simp_all
  obtain ⟨rfl, rfl⟩ := trodVars_none hV
  obtain ⟨a0, rfl, rfl, rfl, y0⟩ := open_string Tryd.underlying9 (hval 0 9 v0 rfl rfl) h0
  have w0 : a0.size ≤ 140737488351232 := by
    have z := sized_string hsz (j := 0) (t := 9) rfl rfl
    rw [Array.length_toList] at z
    exact z
  clear hA0 hval0 hsz0 hsz
  have tabs : Go.Proofs.YtchhndbekjgimaaDoor.H.Laid W := {
    u8 := utf8Tabs_of_reads Tryd.lays260 ⟨by kernel_rfl, by kernel_rfl, by kernel_rfl, by kernel_rfl, by kernel_rfl, by kernel_rfl, by kernel_rfl⟩ (Lib.laidMet.reads hL (.tail _ (.tail _ (.tail _ (.tail _ (.tail _ (.tail _ (.tail _ (.tail _ (.tail _ (.tail _ (.tail _ (.tail _ (.tail _ (.tail _ (.tail _ (.head _))))))))))))))))) (Lib.laidMet.reads hL (.tail _ (.tail _ (.tail _ (.tail _ (.tail _ (.tail _ (.tail _ (.tail _ (.tail _ (.head _)))))))))))
    errR := by
      obtain ⟨a, s, hv, _⟩ := laid_sentinel (te := 108) (hL.tail.tail.tail.tail.tail.tail.tail.tail.tail.tail) (show Tryd.prog.globalNamed "strconv.ErrRange" = some 4 by kernel_rfl) (show (Tryd.prog.globals[4]?).map (·.type) = some 51 by kernel_rfl) Tryd.underlying51 star_row Tryd.underlying106 Tryd.underlying108 rfl rfl (by kernel_rfl) (by kernel_rfl) (by kernel_rfl)
      exact ⟨_, _, World.var?_cell (show Tryd.prog.globalNamed "strconv.ErrRange" = some 4 by kernel_rfl) hv 0⟩
    errS := by
      obtain ⟨a, s, hv, _⟩ := laid_sentinel (te := 108) (hL.tail.tail.tail.tail.tail.tail.tail.tail.tail.tail.tail) (show Tryd.prog.globalNamed "strconv.ErrSyntax" = some 3 by kernel_rfl) (show (Tryd.prog.globals[3]?).map (·.type) = some 51 by kernel_rfl) Tryd.underlying51 star_row Tryd.underlying106 Tryd.underlying108 rfl rfl (by kernel_rfl) (by kernel_rfl) (by kernel_rfl)
      exact ⟨_, _, World.var?_cell (show Tryd.prog.globalNamed "strconv.ErrSyntax" = some 3 by kernel_rfl) hv 0⟩
    hex := fun j hj => by have := tab_cells (zs := [48, 49, 50, 51, 52, 53, 54, 55, 56, 57, 97, 98, 99, 100, 101, 102]) (Lib.laidMet.reads hL (.tail _ (.tail _ (.tail _ (.tail _ (.tail _ (.tail _ (.tail _ (.tail _ (.tail _ (.tail _ (.tail _ (.tail _ (.head _)))))))))))))) (g := 0) (by kernel_rfl) (by kernel_rfl) Tryd.underlying44 rfl Tryd.underlying5 (by kernel_rfl) (by kernel_rfl) j hj; rw [this]; exact congrArg (fun z => some (Value.int .u8 z)) ((by decide : ∀ i : Fin 16, ([48, 49, 50, 51, 52, 53, 54, 55, 56, 57, 97, 98, 99, 100, 101, 102] : List Int).getD i.val 0 = Go.Proofs.YtchhndbekjgimaaDoorW.PrintWords.bt (⟨#[48, 49, 50, 51, 52, 53, 54, 55, 56, 57, 97, 98, 99, 100, 101, 102]⟩ : ByteArray) (i.val : Int)) ⟨j, hj⟩) }
  refine (Go.Proofs.YtchhndbekjgimaaDoor.H.laws_FnGjQuoteParse.walk Pure.FnGjQuoteParse a0 W tabs w0).mono fun e W' ⟨he, bel⟩ => ?_
  subst he
  exact ⟨_, rfl, _, _, _, [], _, [], hW', trodAll_mk1 (shut_bool Tryd.underlying4 _), (trodAll_cons_mk (shut_string Tryd.underlying9 y0) trodAll_mk0), rfl, bel.frame _, fun h => by cases h⟩
theorem over : Rows.fnGjQuoteParseRow.holds Tryd.pinned (OpenSpec.ofChange Rows.fnGjQuoteParseSpec) :=
  OpenClaim.holds_of_cond 3 Tryd.f3 rfl rfl rfl rfl rfl rfl rfl ⟨rfl, rfl, rfl, rfl, rfl⟩ rfl rfl rfl rfl rfl (by kernel_rfl) Tryd.func3 (by kernel_rfl)
    (of_decide_eq_true (by kernel_rfl)) (by unfold Func.isWrapper; first | (rw [if_pos (by decide +kernel)]; kernel_rfl) | (rw [if_neg (by decide +kernel)]; exact ⟨rfl, rfl⟩))
    (fun os started H enc _ F0 => by rw [OpenClaim.pre_eq_preRow]; exact lifted os started H enc F0)
theorem card : Rows.FnGjQuoteParseCardSaid :=
  Claim7.holds_tied_plain_at .later [] [.data, .data, .widerDeep, .widerDeep, .data, .data, .data, .data, .data, .data, .sentinel, .sentinel, .data, .pinned, .pinned, .pinned] true (true, "a59aaa1e6ecc8ac24debdaae045a5aac10ac5b21566cffa8e048a5d9c3e32bc2") true
    over (fun _ h => by cases h) (by kernel_rfl) (fun _ h => by cases h) fnGjQuoteParse_row_tie rfl ⟨rfl, rfl⟩ (by kernel_rfl) rfl
    (fun f fn hf hfn => by
      obtain rfl : f = 3 := Option.some.inj ((show Tryd.prog.funcNamed "pub-tetrapla/laws.FnGjQuoteParse" = some 3 by kernel_rfl).symm.trans hf) |>.symm
      obtain rfl : fn = Tryd.f3 := (Option.some.inj (Tryd.func3.symm.trans hfn)).symm
      exact ⟨by kernel_rfl, fun j t ht => by
        rw [Tryd.params3] at ht
        have h3 : t = 9 := by
          match j, ht with
          | 0, ht => have e : t = 9 := (by simpa using ht.symm); subst e; simp
          | j + 1, ht => simp at ht
        subst h3
        exact (show Tryd.prog.wantsStandIn 9 = false by kernel_rfl)⟩)
    (by kernel_rfl)
end Go.Proofs.YtchhndbekjgimaaDoor.fnGjQuoteParse
namespace Go.Proofs.YtchhndbekjgimaaDoor
/-- The card, under a short name, for the claim. -/
theorem fnGjQuoteParse_holds : Rows.FnGjQuoteParseCardSaid := fnGjQuoteParse.card
end Go.Proofs.YtchhndbekjgimaaDoor
