/- The law FnJpObjectEach holds of every input; no condition beyond the statement's own guards. -/
import Derived.Test.YthmjfmpgmcgonaaDoorRows
import Derived.Test.YthmjfmpgmcgonaaDoorTie
import Derived.Test.YthmjfmpgmcgonaaDoorCards
import Derived.Test.YthmjfmpgmcgonaaDoorKFnJpObjectEach6
import Derived.Lib.LaidIn
import Derived.Lib.LaidU8
import Derived.Deep.DeepHandedRow
import Derived.Deep.DeepWitnessRowRef
import Derived.WalkKit
import Derived.ProofKit
import Derived.OpenShut
import Derived.ShutString
import Derived.ChangeOld
import Derived.Below
import Derived.SizedLaws
import Derived.SevenTiedAt
import Derived.Stop.LaidErr
import Derived.SliceStrings
namespace Go.Proofs.YthmjfmpgmcgonaaDoor.fnJpObjectEach
open Go.ChangeShapes Go.WideShapes Go.ChangeAt Go.RowKit Go.Lib Go.Shelf
open Go.ChangeMaps (open_string shut_string)
set_option linter.unusedVariables false
theorem own : ownKnob Tryd.prog.godebug = none := by kernel_rfl
theorem cell_of_take {cs : List Value} {k : Nat} {v : Value} (h : (cs.drop k).take 1 = [v]) : cs[k]? = some v := by
  have := congrArg (·[0]?) h
  simpa [List.getElem?_take, List.getElem?_drop] using this
theorem cfg_read {w : World} (h : VarReads Tryd.prog w "pub-tetrapla/pub/jsonparser.DefaultConfig" (.agg [.lit (.bool false), .lit (.bool false), .lit (.int .i64 0)])) :
    w.cell? ⟨4, 0, none⟩ = some (.bool false) ∧ w.cell? ⟨4, 1, none⟩ = some (.bool false) ∧ w.cell? ⟨4, 2, none⟩ = some (.int .i64 0) := by
  obtain ⟨g', t', cs, fuel, p, hg', hty', hvar, hd⟩ := h
  have hg : Tryd.prog.globalNamed "pub-tetrapla/pub/jsonparser.DefaultConfig" = some 4 := by kernel_rfl
  have hty : (Tryd.prog.globals[4]?).map (·.type) = some 93 := by kernel_rfl
  obtain rfl := Option.some.inj (hg.symm.trans hg')
  obtain rfl := Option.some.inj (hty.symm.trans hty')
  obtain ⟨xs, n, _, hx, hl, hxl, hall⟩ := DataW.trod_struct Tryd.underlying93 hd
  have hx3 : xs.map (·.1) = [.lit (.bool false), .lit (.bool false), .lit (.int .i64 0)] := by
    have := congrArg Prod.fst hx
    simpa using this.symm
  obtain ⟨x0, x1, x2, rfl⟩ : ∃ x0 x1 x2, xs = [x0, x1, x2] := by
    match xs, hx3 with
    | [x0, x1, x2], _ => exact ⟨x0, x1, x2, rfl⟩
  simp only [List.map_cons, List.map_nil, List.cons.injEq, and_true] at hx3
  obtain ⟨e0, e1, e2⟩ := hx3
  have f0 := hall 0 _ rfl
  have f1 := hall 1 _ rfl
  have f2 := hall 2 _ rfl
  change DataW.trod _ _ _ _ _ _ _ 4 ((cs.toList.drop 0).take (Tryd.prog.cellsOf 4)) = some x0 at f0
  change DataW.trod _ _ _ _ _ _ _ 4 ((cs.toList.drop 1).take (Tryd.prog.cellsOf 4)) = some x1 at f1
  change DataW.trod _ _ _ _ _ _ _ 3 ((cs.toList.drop 2).take (Tryd.prog.cellsOf 3)) = some x2 at f2
  rw [show Tryd.prog.cellsOf 4 = 1 by kernel_rfl] at f0 f1
  rw [show Tryd.prog.cellsOf 3 = 1 by kernel_rfl] at f2
  refine ⟨?_, ?_, ?_⟩
  · obtain ⟨z, hz, hx', _⟩ := DataW.trod_bool Tryd.underlying4 f0
    cases e0
    rw [World.var?_cell hg hvar 0, ← Array.getElem?_toList]
    exact cell_of_take hz
  · obtain ⟨z, hz, hx', _⟩ := DataW.trod_bool Tryd.underlying4 f1
    cases e1
    rw [World.var?_cell hg hvar 1, ← Array.getElem?_toList]
    exact cell_of_take hz
  · obtain ⟨z, hz, hx', _⟩ := DataW.trod_int Tryd.underlying3 f2
    rw [hx'] at e2
    cases e2
    rw [World.var?_cell hg hvar 2, ← Array.getElem?_toList]
    exact cell_of_take hz
theorem laidOut : laidOutB Tryd.prog = true := by kernel_rfl
def IsRow (k : IntKind) (w : World) (a : Option Addr) (len cap : Nat) (zs : List Int) : Prop :=
  (a = none ∧ len = 0 ∧ cap = 0 ∧ zs = []) ∨
  ∃ x, a = some x ∧ len ≤ cap ∧ cap ≤ maxLen ∧ zs.length = cap ∧ (∀ i, i < zs.length → w.cell? (x.add i) = some (.int k (zs.getD i 0))) ∧ ∀ n ∈ zs, (Lit.int k n).wf = true
def IsRowS (w : World) (a : Option Addr) (len cap : Nat) (zs : List ByteArray) : Prop :=
  (a = none ∧ len = 0 ∧ cap = 0 ∧ zs = []) ∨
  ∃ x, a = some x ∧ len ≤ cap ∧ cap ≤ maxLen ∧ zs.length = cap ∧ ∀ i, i < zs.length → w.cell? (x.add i) = some (.string (zs.getD i ByteArray.empty))
theorem tab_cells {P : Program} {w : World} {n : String} {g m : Nat} {t e : TypeId} {zs : List Int} (h : VarReads P w n (tabData .u8 zs)) (hg : P.globalNamed n = some g) (hty : (P.globals[g]?).map (·.type) = some t)
    (ht : P.underlying t = some (.array m e)) (hm : m = zs.length) (he : P.underlying e = some (.int .u8)) (c1 : P.cellsOf e = 1) (c2 : P.cellsOf t = m) (j : Nat) (hj : j < zs.length) : w.cell? ⟨g, j, none⟩ = some (.int .u8 (zs.getD j 0)) := by
  obtain ⟨g', t', cs, fuel, p, hg', hty', hvar, hd⟩ := h
  obtain rfl := Option.some.inj (hg.symm.trans hg')
  obtain rfl := Option.some.inj (hty.symm.trans hty')
  have hcs := cells_of_tab ht he c1 c2 hd
  rw [World.var?_cell hg hvar j, ← Array.getElem?_toList, hcs]
  simp [hj]
noncomputable def low : Nat := (World.holding Tryd.prog default ⟨#[], #[], []⟩).heap.size
theorem star : "*" ++ "errors.errorString" = "*errors.errorString" := by decide
theorem star_row (u : TypeId) (h : Tryd.prog.typeName? 3 u = some "*errors.errorString") : u = 97 :=
  typeName_ptr_named (nm := "errors.errorString") (by rw [star]; kernel_rfl) (by kernel_rfl) (by decide) u (by rw [star]; exact h)
/-- A start that fits: the settled world, the tables holding what their initialisers lay. -/
noncomputable def laidWorld (os : Os) : World :=
  let w0 := World.holding Tryd.prog os ⟨#[.cells #[.string ⟨#[118, 97, 108, 117, 101, 32, 111, 117, 116, 32, 111, 102, 32, 114, 97, 110, 103, 101]⟩] 99, .cells #[.string ⟨#[105, 110, 118, 97, 108, 105, 100, 32, 115, 121, 110, 116, 97, 120]⟩] 99, .cells #[.string ⟨#[75, 101, 121, 32, 112, 97, 116, 104, 32, 110, 111, 116, 32, 102, 111, 117, 110, 100]⟩] 99, .cells #[.string ⟨#[85, 110, 107, 110, 111, 119, 110, 32, 118, 97, 108, 117, 101, 32, 116, 121, 112, 101]⟩] 99, .cells #[.string ⟨#[77, 97, 108, 102, 111, 114, 109, 101, 100, 32, 74, 83, 79, 78, 32, 101, 114, 114, 111, 114]⟩] 99, .cells #[.string ⟨#[86, 97, 108, 117, 101, 32, 105, 115, 32, 115, 116, 114, 105, 110, 103, 44, 32, 98, 117, 116, 32, 99, 97, 110, 39, 116, 32, 102, 105, 110, 100, 32, 99, 108, 111, 115, 105, 110, 103, 32, 39, 34, 39, 32, 115, 121, 109, 98, 111, 108]⟩] 99, .cells #[.string ⟨#[86, 97, 108, 117, 101, 32, 105, 115, 32, 97, 114, 114, 97, 121, 44, 32, 98, 117, 116, 32, 99, 97, 110, 39, 116, 32, 102, 105, 110, 100, 32, 99, 108, 111, 115, 105, 110, 103, 32, 39, 93, 39, 32, 115, 121, 109, 98, 111, 108]⟩] 99, .cells #[.string ⟨#[86, 97, 108, 117, 101, 32, 108, 111, 111, 107, 115, 32, 108, 105, 107, 101, 32, 111, 98, 106, 101, 99, 116, 44, 32, 98, 117, 116, 32, 99, 97, 110, 39, 116, 32, 102, 105, 110, 100, 32, 99, 108, 111, 115, 105, 110, 103, 32, 39, 125, 39, 32, 115, 121, 109, 98, 111, 108]⟩] 99, .cells #[.string ⟨#[69, 110, 99, 111, 117, 110, 116, 101, 114, 101, 100, 32, 97, 110, 32, 105, 110, 118, 97, 108, 105, 100, 32, 101, 115, 99, 97, 112, 101, 32, 115, 101, 113, 117, 101, 110, 99, 101, 32, 105, 110, 32, 97, 32, 115, 116, 114, 105, 110, 103]⟩] 99], #[], []⟩
  let put (h : Array Obj) (g : Nat) (cs : Array Value) : Array Obj := h.modify g fun
    | .cells _ t frozen => .cells cs t frozen
    | o => o
  let h1 := put w0.heap 17 #[Value.int .u8 0, Value.int .u8 1, Value.int .u8 28, Value.int .u8 2, Value.int .u8 29, Value.int .u8 14, Value.int .u8 24, Value.int .u8 3, Value.int .u8 30, Value.int .u8 22, Value.int .u8 20, Value.int .u8 15, Value.int .u8 25, Value.int .u8 17, Value.int .u8 4, Value.int .u8 8, Value.int .u8 31, Value.int .u8 27, Value.int .u8 13, Value.int .u8 23, Value.int .u8 21, Value.int .u8 19, Value.int .u8 16, Value.int .u8 7, Value.int .u8 26, Value.int .u8 12, Value.int .u8 18, Value.int .u8 6, Value.int .u8 11, Value.int .u8 5, Value.int .u8 10, Value.int .u8 9]
  let h2 := put h1 18 #[Value.int .u8 0, Value.int .u8 1, Value.int .u8 56, Value.int .u8 2, Value.int .u8 57, Value.int .u8 49, Value.int .u8 28, Value.int .u8 3, Value.int .u8 61, Value.int .u8 58, Value.int .u8 42, Value.int .u8 50, Value.int .u8 38, Value.int .u8 29, Value.int .u8 17, Value.int .u8 4, Value.int .u8 62, Value.int .u8 47, Value.int .u8 59, Value.int .u8 36, Value.int .u8 45, Value.int .u8 43, Value.int .u8 51, Value.int .u8 22, Value.int .u8 53, Value.int .u8 39, Value.int .u8 33, Value.int .u8 30, Value.int .u8 24, Value.int .u8 18, Value.int .u8 12, Value.int .u8 5, Value.int .u8 63, Value.int .u8 55, Value.int .u8 48, Value.int .u8 27, Value.int .u8 60, Value.int .u8 41, Value.int .u8 37, Value.int .u8 16, Value.int .u8 46, Value.int .u8 35, Value.int .u8 44, Value.int .u8 21, Value.int .u8 52, Value.int .u8 32, Value.int .u8 23, Value.int .u8 11, Value.int .u8 54, Value.int .u8 26, Value.int .u8 40, Value.int .u8 15, Value.int .u8 34, Value.int .u8 20, Value.int .u8 31, Value.int .u8 10, Value.int .u8 25, Value.int .u8 14, Value.int .u8 19, Value.int .u8 9, Value.int .u8 13, Value.int .u8 8, Value.int .u8 7, Value.int .u8 6]
  let h3 := put h2 16 #[Value.int .u64 1, Value.int .u64 10, Value.int .u64 100, Value.int .u64 1000, Value.int .u64 10000, Value.int .u64 100000, Value.int .u64 1000000, Value.int .u64 10000000, Value.int .u64 100000000, Value.int .u64 1000000000, Value.int .u64 10000000000, Value.int .u64 100000000000, Value.int .u64 1000000000000, Value.int .u64 10000000000000, Value.int .u64 100000000000000, Value.int .u64 1000000000000000, Value.int .u64 10000000000000000, Value.int .u64 100000000000000000, Value.int .u64 1000000000000000000, Value.int .u64 10000000000000000000]
  let h4 := put h3 2 #[.iface 97 (.pointer (some ⟨low + 0, 0, none⟩))]
  let h5 := put h4 13 #[.iface 97 (.pointer (some ⟨low + 1, 0, none⟩))]
  let h6 := put h5 4 #[Value.bool false, Value.bool false, Value.int .i64 0]
  let h7 := put h6 14 #[Value.int .u8 0, Value.int .u8 0, Value.int .u8 0, Value.int .u8 0, Value.int .u8 0, Value.int .u8 0, Value.int .u8 0, Value.int .u8 0, Value.int .u8 0, Value.int .u8 0, Value.int .u8 0, Value.int .u8 0, Value.int .u8 0, Value.int .u8 0, Value.int .u8 0, Value.int .u8 0, Value.int .u8 0, Value.int .u8 0, Value.int .u8 0, Value.int .u8 0, Value.int .u8 0, Value.int .u8 0, Value.int .u8 0, Value.int .u8 0, Value.int .u8 0, Value.int .u8 0, Value.int .u8 0, Value.int .u8 0, Value.int .u8 0, Value.int .u8 0, Value.int .u8 0, Value.int .u8 0, Value.int .u8 0, Value.int .u8 0, Value.int .u8 34, Value.int .u8 0, Value.int .u8 0, Value.int .u8 0, Value.int .u8 0, Value.int .u8 0, Value.int .u8 0, Value.int .u8 0, Value.int .u8 0, Value.int .u8 0, Value.int .u8 0, Value.int .u8 0, Value.int .u8 0, Value.int .u8 47, Value.int .u8 0, Value.int .u8 0, Value.int .u8 0, Value.int .u8 0, Value.int .u8 0, Value.int .u8 0, Value.int .u8 0, Value.int .u8 0, Value.int .u8 0, Value.int .u8 0, Value.int .u8 0, Value.int .u8 0, Value.int .u8 0, Value.int .u8 0, Value.int .u8 0, Value.int .u8 0, Value.int .u8 0, Value.int .u8 0, Value.int .u8 0, Value.int .u8 0, Value.int .u8 0, Value.int .u8 0, Value.int .u8 0, Value.int .u8 0, Value.int .u8 0, Value.int .u8 0, Value.int .u8 0, Value.int .u8 0, Value.int .u8 0, Value.int .u8 0, Value.int .u8 0, Value.int .u8 0, Value.int .u8 0, Value.int .u8 0, Value.int .u8 0, Value.int .u8 0, Value.int .u8 0, Value.int .u8 0, Value.int .u8 0, Value.int .u8 0, Value.int .u8 0, Value.int .u8 0, Value.int .u8 0, Value.int .u8 0, Value.int .u8 92, Value.int .u8 0, Value.int .u8 0, Value.int .u8 0, Value.int .u8 0, Value.int .u8 0, Value.int .u8 8, Value.int .u8 0, Value.int .u8 0, Value.int .u8 0, Value.int .u8 12, Value.int .u8 0, Value.int .u8 0, Value.int .u8 0, Value.int .u8 0, Value.int .u8 0, Value.int .u8 0, Value.int .u8 0, Value.int .u8 10, Value.int .u8 0, Value.int .u8 0, Value.int .u8 0, Value.int .u8 13, Value.int .u8 0, Value.int .u8 9]
  let h8 := put h7 5 #[.iface 97 (.pointer (some ⟨low + 2, 0, none⟩))]
  let h9 := put h8 12 #[.iface 97 (.pointer (some ⟨low + 3, 0, none⟩))]
  let h10 := put h9 7 #[.iface 97 (.pointer (some ⟨low + 4, 0, none⟩))]
  let h11 := put h10 11 #[.iface 97 (.pointer (some ⟨low + 5, 0, none⟩))]
  let h12 := put h11 9 #[.iface 97 (.pointer (some ⟨low + 6, 0, none⟩))]
  let h13 := put h12 6 #[.iface 97 (.pointer (some ⟨low + 7, 0, none⟩))]
  let h14 := put h13 8 #[.iface 97 (.pointer (some ⟨low + 8, 0, none⟩))]
  { w0 with heap := h14 }
theorem laid_met (os : Os) (args : Array Value) : laidMet Tryd.prog Rows.fnJpObjectEachRow.laid ((laidWorld os).forCall (fun _ _ => 0) ⟨#[], args, []⟩).memory :=
  (LaidIn.of_run (l := Rows.fnJpObjectEachRow.laid) [17, 18, 16, 2, 13, 4, 14, 5, 12, 7, 11, 9, 6, 8, low + 0, low + 1, low + 2, low + 3, low + 4, low + 5, low + 6, low + 7, low + 8] 8 (by kernel_rfl) (by kernel_rfl) (by kernel_rfl) (by kernel_rfl)).met
theorem witness_row (os : Os) {H : Type} (enc : TypeId × Value → H) :
    (OpenSpec.ofChange Rows.fnJpObjectEachSpec).preRow enc Tryd.prog Tryd.f6 Rows.fnJpObjectEachRow.domain false Rows.fnJpObjectEachRow.laid ((laidWorld os).forCall (fun _ _ => 0) ⟨#[], #[.string ⟨#[]⟩, .slice none 0 0], []⟩).memory #[.string ⟨#[]⟩, .slice none 0 0] := by
  have hw : (DataW.whole enc Tryd.prog ((laidWorld os).forCall (fun _ _ => 0) ⟨#[], #[.string ⟨#[]⟩, .slice none 0 0], []⟩).memory Tryd.f6.params.toList (OpenSpec.ofChange Rows.fnJpObjectEachSpec).vars false (#[.string ⟨#[]⟩, .slice none 0 0] : Array Value).toList 8).map (fun x => (x.1, x.2.1)) =
      some ([.lit (.string []), .nil], []) := by kernel_rfl
  obtain ⟨⟨x1, x2, x3⟩, hx, hx1⟩ := Option.map_eq_some_iff.1 hw
  simp only [Prod.mk.injEq] at hx1
  obtain ⟨rfl, rfl⟩ := hx1
  exact OpenSpec.preRow_of_cond 8 hx (by kernel_rfl) (fun k hk => by cases hk) (by kernel_rfl) (laid_met os _)
set_option maxRecDepth 100000 in
theorem lifted (os : Os) (started : os.Started) (H : Type) (enc : TypeId × Value → H) (F : Stop.Interp) :
    ReturnsInHanded {} Tryd.checked os 6 .any ((OpenSpec.ofChange Rows.fnJpObjectEachSpec).preRow enc Tryd.prog Tryd.f6 Rows.fnJpObjectEachRow.domain false Rows.fnJpObjectEachRow.laid) (((OpenSpec.ofChange Rows.fnJpObjectEachSpec).at F).post enc Tryd.prog Tryd.f6 false true false false) := by
  refine returnsInHanded_of_row (C := Tryd.checked) (s := OpenSpec.ofChange Rows.fnJpObjectEachSpec) own started (by kernel_rfl) Tryd.func6
    (witness_row_atRef (enc := enc) (C := Tryd.checked) false (laidWorld os) #[.string ⟨#[]⟩, .slice none 0 0] rfl (by kernel_rfl) (by kernel_rfl) (by kernel_rfl) (witness_row os enc)) ?_
  intro W base args ds gs before hval0 hW _ _ hsz0 hL _ _
  have hsz : (DataW.weightsEach Tryd.prog (Tryd.f6.params.toList ++ Rows.fnJpObjectEachSpec.plain.varTypes Tryd.prog) (ds ++ gs)).all (· ≤ reachBytes) = true := hsz0
  have hval : ∀ (j : Nat) t v, Tryd.f6.params[j]? = some t → args[j]? = some v → Value.okWide Tryd.prog W .any base t v := hval0
  have hW' := hW
  obtain ⟨p, q, hA0, hV, rfl, hfz, hnd⟩ := hW
  have hA : DataW.TrodAll enc Tryd.prog W 0 (fun _ => true) true Tryd.f6.params.toList args.toList ds p := hA0
  rw [Tryd.params6] at hA hval hsz
  obtain ⟨v0, vs0, d0, ds0, p0, q0, hargs, rfl, rfl, h0, r0⟩ := trodAll_cons hA
  obtain ⟨v1, vs1, d1, ds1, p1, q1, rfl, rfl, rfl, h1, r1⟩ := trodAll_cons r0
  obtain ⟨rfl, rfl, rfl⟩ := trodAll_nil r1
  obtain rfl : args = #[v0, v1] := by cases args; simp_all
  obtain ⟨rfl, rfl⟩ := trodVars_none hV
  obtain ⟨a0, rfl, rfl, rfl, y0⟩ := open_string Tryd.underlying9 (hval 0 9 v0 rfl rfl) h0
  have w0 : a0.size ≤ 140737488351232 := by
    have z := sized_string hsz (j := 0) (t := 9) rfl rfl
    rw [Array.length_toList] at z
    exact z
  obtain ⟨a1, len1, cap1, rfl⟩ := okWide_slice Tryd.underlying22 (hval 1 22 v1 rfl rfl)
  have k1 := h1
  have lt1 : ∀ x ∈ p1, x.block < W.heap.size := by obtain ⟨m, hm⟩ := k1; exact DataW.trod_lt m _ _ _ hm
  obtain ⟨z1, w1⟩ : ∃ zs, IsRowS W a1 len1 cap1 zs := by
    obtain ⟨fuel, hf⟩ := h1
    rcases open_strings Tryd.underlying22 Tryd.underlying9 (by kernel_rfl) hf with ⟨hcs, _⟩ | ⟨x, l, c, zs, hcs, _, hl, hm, hz, _, hcell, hwz⟩
    · simp [Value.cells] at hcs
      obtain ⟨rfl, rfl, rfl⟩ := hcs
      exact ⟨[], .inl ⟨rfl, rfl, rfl, rfl⟩⟩
    · simp [Value.cells] at hcs
      obtain ⟨rfl, rfl, rfl⟩ := hcs
      exact ⟨zs, .inr ⟨_, rfl, hl, hm, by simpa using hz, hcell⟩⟩
  clear hA0 hval0 hsz0 hsz
  have tabs : K.Laid W := {
    errR := by
      obtain ⟨a, s, hv, _⟩ := laid_sentinel (te := 99) (hL.tail.tail.tail) (show Tryd.prog.globalNamed "strconv.ErrRange" = some 2 by kernel_rfl) (show (Tryd.prog.globals[2]?).map (·.type) = some 58 by kernel_rfl) Tryd.underlying58 star_row Tryd.underlying97 Tryd.underlying99 rfl rfl (by kernel_rfl) (by kernel_rfl) (by kernel_rfl)
      exact ⟨_, _, World.var?_cell (show Tryd.prog.globalNamed "strconv.ErrRange" = some 2 by kernel_rfl) hv 0⟩
    errS := by
      obtain ⟨a, s, hv, _⟩ := laid_sentinel (te := 99) (hL.tail.tail.tail.tail) (show Tryd.prog.globalNamed "strconv.ErrSyntax" = some 13 by kernel_rfl) (show (Tryd.prog.globals[13]?).map (·.type) = some 58 by kernel_rfl) Tryd.underlying58 star_row Tryd.underlying97 Tryd.underlying99 rfl rfl (by kernel_rfl) (by kernel_rfl) (by kernel_rfl)
      exact ⟨_, _, World.var?_cell (show Tryd.prog.globalNamed "strconv.ErrSyntax" = some 13 by kernel_rfl) hv 0⟩
    cfg0 := (cfg_read (Lib.laidMet.reads hL (.tail _ (.tail _ (.tail _ (.tail _ (.tail _ (.head _)))))))).1
    cfg1 := (cfg_read (Lib.laidMet.reads hL (.tail _ (.tail _ (.tail _ (.tail _ (.tail _ (.head _)))))))).2.1
    cfg2 := (cfg_read (Lib.laidMet.reads hL (.tail _ (.tail _ (.tail _ (.tail _ (.tail _ (.head _)))))))).2.2
    tab := fun j hj => by have := tab_cells (zs := [0, 0, 0, 0, 0, 0, 0, 0, 0, 0, 0, 0, 0, 0, 0, 0, 0, 0, 0, 0, 0, 0, 0, 0, 0, 0, 0, 0, 0, 0, 0, 0, 0, 0, 34, 0, 0, 0, 0, 0, 0, 0, 0, 0, 0, 0, 0, 47, 0, 0, 0, 0, 0, 0, 0, 0, 0, 0, 0, 0, 0, 0, 0, 0, 0, 0, 0, 0, 0, 0, 0, 0, 0, 0, 0, 0, 0, 0, 0, 0, 0, 0, 0, 0, 0, 0, 0, 0, 0, 0, 0, 0, 92, 0, 0, 0, 0, 0, 8, 0, 0, 0, 12, 0, 0, 0, 0, 0, 0, 0, 10, 0, 0, 0, 13, 0, 9]) (Lib.laidMet.reads hL (.tail _ (.tail _ (.tail _ (.tail _ (.tail _ (.tail _ (.head _)))))))) (g := 14) (by kernel_rfl) (by kernel_rfl) Tryd.underlying134 rfl Tryd.underlying5 (by kernel_rfl) (by kernel_rfl) j hj; rw [this]; exact congrArg (fun z => some (Value.int .u8 z)) ((by decide : ∀ i : Fin 117, ([0, 0, 0, 0, 0, 0, 0, 0, 0, 0, 0, 0, 0, 0, 0, 0, 0, 0, 0, 0, 0, 0, 0, 0, 0, 0, 0, 0, 0, 0, 0, 0, 0, 0, 34, 0, 0, 0, 0, 0, 0, 0, 0, 0, 0, 0, 0, 47, 0, 0, 0, 0, 0, 0, 0, 0, 0, 0, 0, 0, 0, 0, 0, 0, 0, 0, 0, 0, 0, 0, 0, 0, 0, 0, 0, 0, 0, 0, 0, 0, 0, 0, 0, 0, 0, 0, 0, 0, 0, 0, 0, 0, 92, 0, 0, 0, 0, 0, 8, 0, 0, 0, 12, 0, 0, 0, 0, 0, 0, 0, 10, 0, 0, 0, 13, 0, 9] : List Int).getD i.val 0 = Go.Proofs.YthmjfmpgmcgonaaDoor.K.tabv i.val) ⟨j, hj⟩)
    eK := by
      obtain ⟨a, s, hv, _⟩ := laid_sentinel (te := 99) (hL.tail.tail.tail.tail.tail.tail.tail) (show Tryd.prog.globalNamed "pub-tetrapla/pub/jsonparser.KeyPathNotFoundError" = some 5 by kernel_rfl) (show (Tryd.prog.globals[5]?).map (·.type) = some 58 by kernel_rfl) Tryd.underlying58 star_row Tryd.underlying97 Tryd.underlying99 rfl rfl (by kernel_rfl) (by kernel_rfl) (by kernel_rfl)
      exact ⟨_, _, World.var?_cell (show Tryd.prog.globalNamed "pub-tetrapla/pub/jsonparser.KeyPathNotFoundError" = some 5 by kernel_rfl) hv 0⟩
    eU := by
      obtain ⟨a, s, hv, _⟩ := laid_sentinel (te := 99) (hL.tail.tail.tail.tail.tail.tail.tail.tail) (show Tryd.prog.globalNamed "pub-tetrapla/pub/jsonparser.UnknownValueTypeError" = some 12 by kernel_rfl) (show (Tryd.prog.globals[12]?).map (·.type) = some 58 by kernel_rfl) Tryd.underlying58 star_row Tryd.underlying97 Tryd.underlying99 rfl rfl (by kernel_rfl) (by kernel_rfl) (by kernel_rfl)
      exact ⟨_, _, World.var?_cell (show Tryd.prog.globalNamed "pub-tetrapla/pub/jsonparser.UnknownValueTypeError" = some 12 by kernel_rfl) hv 0⟩
    eJ := by
      obtain ⟨a, s, hv, _⟩ := laid_sentinel (te := 99) (hL.tail.tail.tail.tail.tail.tail.tail.tail.tail) (show Tryd.prog.globalNamed "pub-tetrapla/pub/jsonparser.MalformedJsonError" = some 7 by kernel_rfl) (show (Tryd.prog.globals[7]?).map (·.type) = some 58 by kernel_rfl) Tryd.underlying58 star_row Tryd.underlying97 Tryd.underlying99 rfl rfl (by kernel_rfl) (by kernel_rfl) (by kernel_rfl)
      exact ⟨_, _, World.var?_cell (show Tryd.prog.globalNamed "pub-tetrapla/pub/jsonparser.MalformedJsonError" = some 7 by kernel_rfl) hv 0⟩
    eS := by
      obtain ⟨a, s, hv, _⟩ := laid_sentinel (te := 99) (hL.tail.tail.tail.tail.tail.tail.tail.tail.tail.tail) (show Tryd.prog.globalNamed "pub-tetrapla/pub/jsonparser.MalformedStringError" = some 11 by kernel_rfl) (show (Tryd.prog.globals[11]?).map (·.type) = some 58 by kernel_rfl) Tryd.underlying58 star_row Tryd.underlying97 Tryd.underlying99 rfl rfl (by kernel_rfl) (by kernel_rfl) (by kernel_rfl)
      exact ⟨_, _, World.var?_cell (show Tryd.prog.globalNamed "pub-tetrapla/pub/jsonparser.MalformedStringError" = some 11 by kernel_rfl) hv 0⟩
    eA := by
      obtain ⟨a, s, hv, _⟩ := laid_sentinel (te := 99) (hL.tail.tail.tail.tail.tail.tail.tail.tail.tail.tail.tail) (show Tryd.prog.globalNamed "pub-tetrapla/pub/jsonparser.MalformedArrayError" = some 9 by kernel_rfl) (show (Tryd.prog.globals[9]?).map (·.type) = some 58 by kernel_rfl) Tryd.underlying58 star_row Tryd.underlying97 Tryd.underlying99 rfl rfl (by kernel_rfl) (by kernel_rfl) (by kernel_rfl)
      exact ⟨_, _, World.var?_cell (show Tryd.prog.globalNamed "pub-tetrapla/pub/jsonparser.MalformedArrayError" = some 9 by kernel_rfl) hv 0⟩
    eO := by
      obtain ⟨a, s, hv, _⟩ := laid_sentinel (te := 99) (hL.tail.tail.tail.tail.tail.tail.tail.tail.tail.tail.tail.tail) (show Tryd.prog.globalNamed "pub-tetrapla/pub/jsonparser.MalformedObjectError" = some 6 by kernel_rfl) (show (Tryd.prog.globals[6]?).map (·.type) = some 58 by kernel_rfl) Tryd.underlying58 star_row Tryd.underlying97 Tryd.underlying99 rfl rfl (by kernel_rfl) (by kernel_rfl) (by kernel_rfl)
      exact ⟨_, _, World.var?_cell (show Tryd.prog.globalNamed "pub-tetrapla/pub/jsonparser.MalformedObjectError" = some 6 by kernel_rfl) hv 0⟩
    esc := by
      obtain ⟨a, s, hv, _⟩ := laid_sentinel (te := 99) (hL.tail.tail.tail.tail.tail.tail.tail.tail.tail.tail.tail.tail.tail) (show Tryd.prog.globalNamed "pub-tetrapla/pub/jsonparser.MalformedStringEscapeError" = some 8 by kernel_rfl) (show (Tryd.prog.globals[8]?).map (·.type) = some 58 by kernel_rfl) Tryd.underlying58 star_row Tryd.underlying97 Tryd.underlying99 rfl rfl (by kernel_rfl) (by kernel_rfl) (by kernel_rfl)
      exact ⟨_, _, World.var?_cell (show Tryd.prog.globalNamed "pub-tetrapla/pub/jsonparser.MalformedStringEscapeError" = some 8 by kernel_rfl) hv 0⟩ }
  refine (K.laws_FnJpObjectEach.walk Pure.FnJpObjectEach a0 a1 len1 cap1 z1 W tabs w0 w1).mono fun e W' ⟨he, bel⟩ => ?_
  subst he
  exact ⟨_, rfl, _, _, _, [], _, [], hW', trodAll_mk1 (shut_bool Tryd.underlying4 _), (trodAll_cons_mk (shut_string Tryd.underlying9 y0) (trodAll_cons_mk (Below.trod laidOut (by kernel_rfl) (of_decide_eq_true (by kernel_rfl)) k1 bel lt1) trodAll_mk0)), rfl, bel.frame _, fun h => by cases h⟩
theorem over : Rows.fnJpObjectEachRow.holds Tryd.pinned (OpenSpec.ofChange Rows.fnJpObjectEachSpec) :=
  OpenClaim.holds_of_cond 6 Tryd.f6 rfl rfl rfl rfl rfl rfl rfl ⟨rfl, rfl, rfl, rfl, rfl⟩ rfl rfl rfl rfl rfl (by kernel_rfl) Tryd.func6 (by kernel_rfl)
    (of_decide_eq_true (by kernel_rfl)) (by unfold Func.isWrapper; first | (rw [if_pos (by decide +kernel)]; kernel_rfl) | (rw [if_neg (by decide +kernel)]; exact ⟨rfl, rfl⟩))
    (fun os started H enc _ F0 => by rw [OpenClaim.pre_eq_preRow]; exact lifted os started H enc F0)
theorem card : Rows.FnJpObjectEachCardSaid :=
  Claim7.holds_tied_plain_at .later [] [.data, .data, .data, .sentinel, .sentinel, .data, .data, .sentinel, .sentinel, .sentinel, .sentinel, .sentinel, .sentinel, .sentinel] true (true, "0758ea775d452469450be72bc7ba34b5b3047afc73132cd559f310fa23d3cd54") true
    over (fun _ h => by cases h) (by kernel_rfl) (fun _ h => by cases h) fnJpObjectEach_row_tie rfl ⟨rfl, rfl⟩ (by kernel_rfl) rfl
    (fun f fn hf hfn => by
      obtain rfl : f = 6 := Option.some.inj ((show Tryd.prog.funcNamed "pub-tetrapla/laws.FnJpObjectEach" = some 6 by kernel_rfl).symm.trans hf) |>.symm
      obtain rfl : fn = Tryd.f6 := (Option.some.inj (Tryd.func6.symm.trans hfn)).symm
      exact ⟨by kernel_rfl, fun j t ht => by
        rw [Tryd.params6] at ht
        have h3 : t = 9 ∨ t = 22 := by
          match j, ht with
          | 0, ht => have e : t = 9 := (by simpa using ht.symm); subst e; simp
          | 1, ht => have e : t = 22 := (by simpa using ht.symm); subst e; simp
          | j + 2, ht => simp at ht
        rcases h3 with rfl | rfl
        · exact (show Tryd.prog.wantsStandIn 9 = false by kernel_rfl)
        · exact (show Tryd.prog.wantsStandIn 22 = false by kernel_rfl)⟩)
    (by kernel_rfl)
end Go.Proofs.YthmjfmpgmcgonaaDoor.fnJpObjectEach
namespace Go.Proofs.YthmjfmpgmcgonaaDoor
/-- The card, under a short name, for the claim. -/
theorem fnJpObjectEach_holds : Rows.FnJpObjectEachCardSaid := fnJpObjectEach.card
end Go.Proofs.YthmjfmpgmcgonaaDoor
