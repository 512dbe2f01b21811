/- ParsePath gives the parts of every text of at most 1000 bytes that is a path, and an error for every other one. -/
import Derived.Test.YtafbdpdbagkbgaaDoorRows
import Derived.Test.YtafbdpdbagkbgaaDoorTie
import Derived.Test.YtafbdpdbagkbgaaDoorCards
import Derived.Test.YtafbdpdbagkbgaaDoorKFnJqParsePath4
import Derived.Lib.LaidIn
import Derived.Lib.LaidU8
import Derived.Deep.DeepHandedRow
import Derived.Deep.DeepWitnessRowRef
import Derived.WalkKit
import Derived.ProofKit
import Derived.OpenShut
import Derived.ShutString
import Derived.ChangeOld
import Derived.Below
import Derived.SizedLaws
import Derived.SevenTiedAt
import Derived.Stop.LaidErr
namespace Go.Proofs.YtafbdpdbagkbgaaDoor.fnJqParsePath
open Go.ChangeShapes Go.WideShapes Go.ChangeAt Go.RowKit Go.Lib Go.Shelf
open Go.ChangeMaps (open_string shut_string)
set_option linter.unusedVariables false
theorem own : ownKnob Tryd.prog.godebug = none := by kernel_rfl
theorem cell_of_take {cs : List Value} {k : Nat} {v : Value} (h : (cs.drop k).take 1 = [v]) : cs[k]? = some v := by
  have := congrArg (·[0]?) h
  simpa [List.getElem?_take, List.getElem?_drop] using this
theorem cfg_read {w : World} (h : VarReads Tryd.prog w "pub-tetrapla/pub/jsonparser.DefaultConfig" (.agg [.lit (.bool false), .lit (.bool false), .lit (.int .i64 0)])) :
    w.cell? ⟨7, 0, none⟩ = some (.bool false) ∧ w.cell? ⟨7, 1, none⟩ = some (.bool false) ∧ w.cell? ⟨7, 2, none⟩ = some (.int .i64 0) := by
  obtain ⟨g', t', cs, fuel, p, hg', hty', hvar, hd⟩ := h
  have hg : Tryd.prog.globalNamed "pub-tetrapla/pub/jsonparser.DefaultConfig" = some 7 := by kernel_rfl
  have hty : (Tryd.prog.globals[7]?).map (·.type) = some 147 := by kernel_rfl
  obtain rfl := Option.some.inj (hg.symm.trans hg')
  obtain rfl := Option.some.inj (hty.symm.trans hty')
  obtain ⟨xs, n, _, hx, hl, hxl, hall⟩ := DataW.trod_struct Tryd.underlying147 hd
  have hx3 : xs.map (·.1) = [.lit (.bool false), .lit (.bool false), .lit (.int .i64 0)] := by
    have := congrArg Prod.fst hx
    simpa using this.symm
  obtain ⟨x0, x1, x2, rfl⟩ : ∃ x0 x1 x2, xs = [x0, x1, x2] := by
    match xs, hx3 with
    | [x0, x1, x2], _ => exact ⟨x0, x1, x2, rfl⟩
  simp only [List.map_cons, List.map_nil, List.cons.injEq, and_true] at hx3
  obtain ⟨e0, e1, e2⟩ := hx3
  have f0 := hall 0 _ rfl
  have f1 := hall 1 _ rfl
  have f2 := hall 2 _ rfl
  change DataW.trod _ _ _ _ _ _ _ 4 ((cs.toList.drop 0).take (Tryd.prog.cellsOf 4)) = some x0 at f0
  change DataW.trod _ _ _ _ _ _ _ 4 ((cs.toList.drop 1).take (Tryd.prog.cellsOf 4)) = some x1 at f1
  change DataW.trod _ _ _ _ _ _ _ 3 ((cs.toList.drop 2).take (Tryd.prog.cellsOf 3)) = some x2 at f2
  rw [show Tryd.prog.cellsOf 4 = 1 by kernel_rfl] at f0 f1
  rw [show Tryd.prog.cellsOf 3 = 1 by kernel_rfl] at f2
  refine ⟨?_, ?_, ?_⟩
  · obtain ⟨z, hz, hx', _⟩ := DataW.trod_bool Tryd.underlying4 f0
    cases e0
    rw [World.var?_cell hg hvar 0, ← Array.getElem?_toList]
    exact cell_of_take hz
  · obtain ⟨z, hz, hx', _⟩ := DataW.trod_bool Tryd.underlying4 f1
    cases e1
    rw [World.var?_cell hg hvar 1, ← Array.getElem?_toList]
    exact cell_of_take hz
  · obtain ⟨z, hz, hx', _⟩ := DataW.trod_int Tryd.underlying3 f2
    rw [hx'] at e2
    cases e2
    rw [World.var?_cell hg hvar 2, ← Array.getElem?_toList]
    exact cell_of_take hz
theorem tab_cells {P : Program} {w : World} {n : String} {g m : Nat} {t e : TypeId} {zs : List Int} (h : VarReads P w n (tabData .u8 zs)) (hg : P.globalNamed n = some g) (hty : (P.globals[g]?).map (·.type) = some t)
    (ht : P.underlying t = some (.array m e)) (hm : m = zs.length) (he : P.underlying e = some (.int .u8)) (c1 : P.cellsOf e = 1) (c2 : P.cellsOf t = m) (j : Nat) (hj : j < zs.length) : w.cell? ⟨g, j, none⟩ = some (.int .u8 (zs.getD j 0)) := by
  obtain ⟨g', t', cs, fuel, p, hg', hty', hvar, hd⟩ := h
  obtain rfl := Option.some.inj (hg.symm.trans hg')
  obtain rfl := Option.some.inj (hty.symm.trans hty')
  have hcs := cells_of_tab ht he c1 c2 hd
  rw [World.var?_cell hg hvar j, ← Array.getElem?_toList, hcs]
  simp [hj]
noncomputable def low : Nat := (World.holding Tryd.prog default ⟨#[], #[], []⟩).heap.size
theorem star : "*" ++ "errors.errorString" = "*errors.errorString" := by decide
theorem star_row (u : TypeId) (h : Tryd.prog.typeName? 3 u = some "*errors.errorString") : u = 137 :=
  typeName_ptr_named (nm := "errors.errorString") (by rw [star]; kernel_rfl) (by kernel_rfl) (by decide) u (by rw [star]; exact h)
/-- A start that fits: the settled world, the tables holding what their initialisers lay. -/
noncomputable def laidWorld (os : Os) : World :=
  let w0 := World.holding Tryd.prog os ⟨#[.cells #[.string ⟨#[69, 110, 99, 111, 117, 110, 116, 101, 114, 101, 100, 32, 97, 110, 32, 105, 110, 118, 97, 108, 105, 100, 32, 101, 115, 99, 97, 112, 101, 32, 115, 101, 113, 117, 101, 110, 99, 101, 32, 105, 110, 32, 97, 32, 115, 116, 114, 105, 110, 103]⟩] 139, .cells #[.string ⟨#[106, 115, 111, 110, 112, 97, 114, 115, 101, 114, 58, 32, 112, 97, 116, 104, 32, 109, 117, 115, 116, 32, 110, 111, 116, 32, 98, 101, 32, 101, 109, 112, 116, 121]⟩] 139, .cells #[.string ⟨#[106, 115, 111, 110, 112, 97, 114, 115, 101, 114, 58, 32, 109, 97, 108, 102, 111, 114, 109, 101, 100, 32, 112, 97, 116, 104]⟩] 139, .cells #[.string ⟨#[106, 115, 111, 110, 112, 97, 114, 115, 101, 114, 58, 32, 117, 110, 116, 101, 114, 109, 105, 110, 97, 116, 101, 100, 32, 113, 117, 111, 116, 101, 100, 32, 107, 101, 121]⟩] 139], #[], []⟩
  let put (h : Array Obj) (g : Nat) (cs : Array Value) : Array Obj := h.modify g fun
    | .cells _ t frozen => .cells cs t frozen
    | o => o
  let h1 := put w0.heap 7 #[Value.bool false, Value.bool false, Value.int .i64 0]
  let h2 := put h1 17 #[Value.int .u8 0, Value.int .u8 0, Value.int .u8 0, Value.int .u8 0, Value.int .u8 0, Value.int .u8 0, Value.int .u8 0, Value.int .u8 0, Value.int .u8 0, Value.int .u8 0, Value.int .u8 0, Value.int .u8 0, Value.int .u8 0, Value.int .u8 0, Value.int .u8 0, Value.int .u8 0, Value.int .u8 0, Value.int .u8 0, Value.int .u8 0, Value.int .u8 0, Value.int .u8 0, Value.int .u8 0, Value.int .u8 0, Value.int .u8 0, Value.int .u8 0, Value.int .u8 0, Value.int .u8 0, Value.int .u8 0, Value.int .u8 0, Value.int .u8 0, Value.int .u8 0, Value.int .u8 0, Value.int .u8 0, Value.int .u8 0, Value.int .u8 34, Value.int .u8 0, Value.int .u8 0, Value.int .u8 0, Value.int .u8 0, Value.int .u8 0, Value.int .u8 0, Value.int .u8 0, Value.int .u8 0, Value.int .u8 0, Value.int .u8 0, Value.int .u8 0, Value.int .u8 0, Value.int .u8 47, Value.int .u8 0, Value.int .u8 0, Value.int .u8 0, Value.int .u8 0, Value.int .u8 0, Value.int .u8 0, Value.int .u8 0, Value.int .u8 0, Value.int .u8 0, Value.int .u8 0, Value.int .u8 0, Value.int .u8 0, Value.int .u8 0, Value.int .u8 0, Value.int .u8 0, Value.int .u8 0, Value.int .u8 0, Value.int .u8 0, Value.int .u8 0, Value.int .u8 0, Value.int .u8 0, Value.int .u8 0, Value.int .u8 0, Value.int .u8 0, Value.int .u8 0, Value.int .u8 0, Value.int .u8 0, Value.int .u8 0, Value.int .u8 0, Value.int .u8 0, Value.int .u8 0, Value.int .u8 0, Value.int .u8 0, Value.int .u8 0, Value.int .u8 0, Value.int .u8 0, Value.int .u8 0, Value.int .u8 0, Value.int .u8 0, Value.int .u8 0, Value.int .u8 0, Value.int .u8 0, Value.int .u8 0, Value.int .u8 0, Value.int .u8 92, Value.int .u8 0, Value.int .u8 0, Value.int .u8 0, Value.int .u8 0, Value.int .u8 0, Value.int .u8 8, Value.int .u8 0, Value.int .u8 0, Value.int .u8 0, Value.int .u8 12, Value.int .u8 0, Value.int .u8 0, Value.int .u8 0, Value.int .u8 0, Value.int .u8 0, Value.int .u8 0, Value.int .u8 0, Value.int .u8 10, Value.int .u8 0, Value.int .u8 0, Value.int .u8 0, Value.int .u8 13, Value.int .u8 0, Value.int .u8 9]
  let h3 := put h2 10 #[.iface 137 (.pointer (some ⟨low + 0, 0, none⟩))]
  let h4 := put h3 0 #[.iface 137 (.pointer (some ⟨low + 1, 0, none⟩))]
  let h5 := put h4 1 #[.iface 137 (.pointer (some ⟨low + 2, 0, none⟩))]
  let h6 := put h5 6 #[.iface 137 (.pointer (some ⟨low + 3, 0, none⟩))]
  { w0 with heap := h6 }
theorem laid_met (os : Os) (args : Array Value) : laidMet Tryd.prog Rows.fnJqParsePathRow.laid ((laidWorld os).forCall (fun _ _ => 0) ⟨#[], args, []⟩).memory :=
  (LaidIn.of_run (l := Rows.fnJqParsePathRow.laid) [7, 17, 10, 0, 1, 6, low + 0, low + 1, low + 2, low + 3] 8 (by kernel_rfl) (by kernel_rfl) (by kernel_rfl) (by kernel_rfl)).met
theorem witness_row (os : Os) {H : Type} (enc : TypeId × Value → H) :
    (OpenSpec.ofChange Rows.fnJqParsePathSpec).preRow enc Tryd.prog Tryd.f3 Rows.fnJqParsePathRow.domain false Rows.fnJqParsePathRow.laid ((laidWorld os).forCall (fun _ _ => 0) ⟨#[], #[.string ⟨#[]⟩], []⟩).memory #[.string ⟨#[]⟩] := by
  have hw : (DataW.whole enc Tryd.prog ((laidWorld os).forCall (fun _ _ => 0) ⟨#[], #[.string ⟨#[]⟩], []⟩).memory Tryd.f3.params.toList (OpenSpec.ofChange Rows.fnJqParsePathSpec).vars false (#[.string ⟨#[]⟩] : Array Value).toList 8).map (fun x => (x.1, x.2.1)) =
      some ([.lit (.string [])], []) := by kernel_rfl
  obtain ⟨⟨x1, x2, x3⟩, hx, hx1⟩ := Option.map_eq_some_iff.1 hw
  simp only [Prod.mk.injEq] at hx1
  obtain ⟨rfl, rfl⟩ := hx1
  exact OpenSpec.preRow_of_cond 8 hx (by kernel_rfl) (fun k hk => by cases hk) (by kernel_rfl) (laid_met os _)
set_option maxRecDepth 100000 in
theorem lifted (os : Os) (started : os.Started) (H : Type) (enc : TypeId × Value → H) (F : Stop.Interp) :
    ReturnsInHanded {} Tryd.checked os 3 .any ((OpenSpec.ofChange Rows.fnJqParsePathSpec).preRow enc Tryd.prog Tryd.f3 Rows.fnJqParsePathRow.domain false Rows.fnJqParsePathRow.laid) (((OpenSpec.ofChange Rows.fnJqParsePathSpec).at F).post enc Tryd.prog Tryd.f3 false true false false) := by
  refine returnsInHanded_of_row (C := Tryd.checked) (s := OpenSpec.ofChange Rows.fnJqParsePathSpec) own started (by kernel_rfl) Tryd.func3
    (witness_row_atRef (enc := enc) (C := Tryd.checked) false (laidWorld os) #[.string ⟨#[]⟩] rfl (by kernel_rfl) (by kernel_rfl) (by kernel_rfl) (witness_row os enc)) ?_
  intro W base args ds gs before hval0 hW _ _ hsz0 hL _ _
  have hsz : (DataW.weightsEach Tryd.prog (Tryd.f3.params.toList ++ Rows.fnJqParsePathSpec.plain.varTypes Tryd.prog) (ds ++ gs)).all (· ≤ reachBytes) = true := hsz0
  have hval : ∀ (j : Nat) t v, Tryd.f3.params[j]? = some t → args[j]? = some v → Value.okWide Tryd.prog W .any base t v := hval0
  have hW' := hW
  obtain ⟨p, q, hA0, hV, rfl, hfz, hnd⟩ := hW
  have hA : DataW.TrodAll enc Tryd.prog W 0 (fun _ => true) true Tryd.f3.params.toList args.toList ds p := hA0
  rw [Tryd.params3] at hA hval hsz
  obtain ⟨v0, vs0, d0, ds0, p0, q0, hargs, rfl, rfl, h0, r0⟩ := trodAll_cons hA
  obtain ⟨rfl, rfl, rfl⟩ := trodAll_nil r0
  obtain rfl : args = #[v0] := by cases args; simp_all
  obtain ⟨rfl, rfl⟩ := trodVars_none hV
  obtain ⟨a0, rfl, rfl, rfl, y0⟩ := open_string Tryd.underlying9 (hval 0 9 v0 rfl rfl) h0
  have w0 : a0.size ≤ 140737488351232 := by
    have z := sized_string hsz (j := 0) (t := 9) rfl rfl
    rw [Array.length_toList] at z
    exact z
  clear hA0 hval0 hsz0 hsz
  have tabs : Q.Laid W := {
    cfg0 := (cfg_read (Lib.laidMet.reads hL (.head _))).1
    cfg1 := (cfg_read (Lib.laidMet.reads hL (.head _))).2.1
    cfg2 := (cfg_read (Lib.laidMet.reads hL (.head _))).2.2
    tab := fun j hj => by have := tab_cells (zs := [0, 0, 0, 0, 0, 0, 0, 0, 0, 0, 0, 0, 0, 0, 0, 0, 0, 0, 0, 0, 0, 0, 0, 0, 0, 0, 0, 0, 0, 0, 0, 0, 0, 0, 34, 0, 0, 0, 0, 0, 0, 0, 0, 0, 0, 0, 0, 47, 0, 0, 0, 0, 0, 0, 0, 0, 0, 0, 0, 0, 0, 0, 0, 0, 0, 0, 0, 0, 0, 0, 0, 0, 0, 0, 0, 0, 0, 0, 0, 0, 0, 0, 0, 0, 0, 0, 0, 0, 0, 0, 0, 0, 92, 0, 0, 0, 0, 0, 8, 0, 0, 0, 12, 0, 0, 0, 0, 0, 0, 0, 10, 0, 0, 0, 13, 0, 9]) (Lib.laidMet.reads hL (.tail _ (.head _))) (g := 17) (by kernel_rfl) (by kernel_rfl) Tryd.underlying181 rfl Tryd.underlying5 (by kernel_rfl) (by kernel_rfl) j hj; rw [this]; exact congrArg (fun z => some (Value.int .u8 z)) ((by decide : ∀ i : Fin 117, ([0, 0, 0, 0, 0, 0, 0, 0, 0, 0, 0, 0, 0, 0, 0, 0, 0, 0, 0, 0, 0, 0, 0, 0, 0, 0, 0, 0, 0, 0, 0, 0, 0, 0, 34, 0, 0, 0, 0, 0, 0, 0, 0, 0, 0, 0, 0, 47, 0, 0, 0, 0, 0, 0, 0, 0, 0, 0, 0, 0, 0, 0, 0, 0, 0, 0, 0, 0, 0, 0, 0, 0, 0, 0, 0, 0, 0, 0, 0, 0, 0, 0, 0, 0, 0, 0, 0, 0, 0, 0, 0, 0, 92, 0, 0, 0, 0, 0, 8, 0, 0, 0, 12, 0, 0, 0, 0, 0, 0, 0, 10, 0, 0, 0, 13, 0, 9] : List Int).getD i.val 0 = Go.Proofs.YtafbdpdbagkbgaaDoor.Q.tabv i.val) ⟨j, hj⟩)
    esc := by
      obtain ⟨a, s, hv, _⟩ := laid_sentinel (te := 139) (hL.tail.tail) (show Tryd.prog.globalNamed "pub-tetrapla/pub/jsonparser.MalformedStringEscapeError" = some 10 by kernel_rfl) (show (Tryd.prog.globals[10]?).map (·.type) = some 56 by kernel_rfl) Tryd.underlying56 star_row Tryd.underlying137 Tryd.underlying139 rfl rfl (by kernel_rfl) (by kernel_rfl) (by kernel_rfl)
      exact ⟨_, _, World.var?_cell (show Tryd.prog.globalNamed "pub-tetrapla/pub/jsonparser.MalformedStringEscapeError" = some 10 by kernel_rfl) hv 0⟩
    e1 := by
      obtain ⟨a, s, hv, _⟩ := laid_sentinel (te := 139) (hL.tail.tail.tail) (show Tryd.prog.globalNamed "pub-tetrapla/pub/jsonparser.errEmptyPath" = some 0 by kernel_rfl) (show (Tryd.prog.globals[0]?).map (·.type) = some 56 by kernel_rfl) Tryd.underlying56 star_row Tryd.underlying137 Tryd.underlying139 rfl rfl (by kernel_rfl) (by kernel_rfl) (by kernel_rfl)
      exact ⟨_, _, World.var?_cell (show Tryd.prog.globalNamed "pub-tetrapla/pub/jsonparser.errEmptyPath" = some 0 by kernel_rfl) hv 0⟩
    e2 := by
      obtain ⟨a, s, hv, _⟩ := laid_sentinel (te := 139) (hL.tail.tail.tail.tail) (show Tryd.prog.globalNamed "pub-tetrapla/pub/jsonparser.errMalformedPath" = some 1 by kernel_rfl) (show (Tryd.prog.globals[1]?).map (·.type) = some 56 by kernel_rfl) Tryd.underlying56 star_row Tryd.underlying137 Tryd.underlying139 rfl rfl (by kernel_rfl) (by kernel_rfl) (by kernel_rfl)
      exact ⟨_, _, World.var?_cell (show Tryd.prog.globalNamed "pub-tetrapla/pub/jsonparser.errMalformedPath" = some 1 by kernel_rfl) hv 0⟩
    e3 := by
      obtain ⟨a, s, hv, _⟩ := laid_sentinel (te := 139) (hL.tail.tail.tail.tail.tail) (show Tryd.prog.globalNamed "pub-tetrapla/pub/jsonparser.errUnterminatedKey" = some 6 by kernel_rfl) (show (Tryd.prog.globals[6]?).map (·.type) = some 56 by kernel_rfl) Tryd.underlying56 star_row Tryd.underlying137 Tryd.underlying139 rfl rfl (by kernel_rfl) (by kernel_rfl) (by kernel_rfl)
      exact ⟨_, _, World.var?_cell (show Tryd.prog.globalNamed "pub-tetrapla/pub/jsonparser.errUnterminatedKey" = some 6 by kernel_rfl) hv 0⟩ }
  refine (Q.laws_FnJqParsePath.walk Pure.FnJqParsePath a0 W tabs w0).mono fun e W' ⟨he, bel⟩ => ?_
  subst he
  exact ⟨_, rfl, _, _, _, [], _, [], hW', trodAll_mk1 (shut_bool Tryd.underlying4 _), (trodAll_cons_mk (shut_string Tryd.underlying9 y0) trodAll_mk0), rfl, bel.frame _, fun h => by cases h⟩
theorem over : Rows.fnJqParsePathRow.holds Tryd.pinned (OpenSpec.ofChange Rows.fnJqParsePathSpec) :=
  OpenClaim.holds_of_cond 3 Tryd.f3 rfl rfl rfl rfl rfl rfl rfl ⟨rfl, rfl, rfl, rfl, rfl⟩ rfl rfl rfl rfl rfl (by kernel_rfl) Tryd.func3 (by kernel_rfl)
    (of_decide_eq_true (by kernel_rfl)) (by unfold Func.isWrapper; first | (rw [if_pos (by decide +kernel)]; kernel_rfl) | (rw [if_neg (by decide +kernel)]; exact ⟨rfl, rfl⟩))
    (fun os started H enc _ F0 => by rw [OpenClaim.pre_eq_preRow]; exact lifted os started H enc F0)
theorem card : Rows.FnJqParsePathCardSaid :=
  Claim7.holds_tied_plain_at .later [] [.data, .data, .sentinel, .sentinel, .sentinel, .sentinel] true (true, "22ef6b267f4aaae20c4a538467c7df2f3c618e268ea04196fb83213bfc22e2e5") true
    over (fun _ h => by cases h) (by kernel_rfl) (fun _ h => by cases h) fnJqParsePath_row_tie rfl ⟨rfl, rfl⟩ (by kernel_rfl) rfl
    (fun f fn hf hfn => by
      obtain rfl : f = 3 := Option.some.inj ((show Tryd.prog.funcNamed "pub-tetrapla/laws.FnJqParsePath" = some 3 by kernel_rfl).symm.trans hf) |>.symm
      obtain rfl : fn = Tryd.f3 := (Option.some.inj (Tryd.func3.symm.trans hfn)).symm
      exact ⟨by kernel_rfl, fun j t ht => by
        rw [Tryd.params3] at ht
        have h3 : t = 9 := by
          match j, ht with
          | 0, ht => have e : t = 9 := (by simpa using ht.symm); subst e; simp
          | j + 1, ht => simp at ht
        subst h3
        exact (show Tryd.prog.wantsStandIn 9 = false by kernel_rfl)⟩)
    (by kernel_rfl)
end Go.Proofs.YtafbdpdbagkbgaaDoor.fnJqParsePath
namespace Go.Proofs.YtafbdpdbagkbgaaDoor
/-- The card, under a short name, for the claim. -/
theorem fnJqParsePath_holds : Rows.FnJqParsePathCardSaid := fnJqParsePath.card
end Go.Proofs.YtafbdpdbagkbgaaDoor
