/- The law FnGjStringText holds of every input; no condition beyond the statement's own guards. -/
import Derived.Test.YtaigbkkgmncipaaDoorRows
import Derived.Test.YtaigbkkgmncipaaDoorTie
import Derived.Test.YtaigbkkgmncipaaDoorCards
import Derived.Test.YtaigbkkgmncipaaDoorKFnGjStringText5
import Derived.Lib.LaidIn
import Derived.Lib.LaidU8
import Derived.Deep.DeepHandedRow
import Derived.Deep.DeepWitnessRowRef
import Derived.WalkKit
import Derived.ProofKit
import Derived.OpenShut
import Derived.ShutString
import Derived.ChangeOld
import Derived.Below
import Derived.SizedLaws
import Derived.SevenTiedAt
import Derived.Stop.LaidErr
namespace Go.Proofs.YtaigbkkgmncipaaDoor.fnGjStringText
open Go.ChangeShapes Go.WideShapes Go.ChangeAt Go.RowKit Go.Lib Go.Shelf
open Go.ChangeMaps (open_string shut_string)
set_option linter.unusedVariables false
theorem own : ownKnob Tryd.prog.godebug = none := by kernel_rfl
theorem laidOut : laidOutB Tryd.prog = true := by kernel_rfl
def IsRow (k : IntKind) (w : World) (a : Option Addr) (len cap : Nat) (zs : List Int) : Prop :=
  (a = none ∧ len = 0 ∧ cap = 0 ∧ zs = []) ∨
  ∃ x, a = some x ∧ len ≤ cap ∧ cap ≤ maxLen ∧ zs.length = cap ∧ (∀ i, i < zs.length → w.cell? (x.add i) = some (.int k (zs.getD i 0))) ∧ ∀ n ∈ zs, (Lit.int k n).wf = true
theorem tab_cells {P : Program} {w : World} {n : String} {g m : Nat} {t e : TypeId} {zs : List Int} (h : VarReads P w n (tabData .u8 zs)) (hg : P.globalNamed n = some g) (hty : (P.globals[g]?).map (·.type) = some t)
    (ht : P.underlying t = some (.array m e)) (hm : m = zs.length) (he : P.underlying e = some (.int .u8)) (c1 : P.cellsOf e = 1) (c2 : P.cellsOf t = m) (j : Nat) (hj : j < zs.length) : w.cell? ⟨g, j, none⟩ = some (.int .u8 (zs.getD j 0)) := by
  obtain ⟨g', t', cs, fuel, p, hg', hty', hvar, hd⟩ := h
  obtain rfl := Option.some.inj (hg.symm.trans hg')
  obtain rfl := Option.some.inj (hty.symm.trans hty')
  have hcs := cells_of_tab ht he c1 c2 hd
  rw [World.var?_cell hg hvar j, ← Array.getElem?_toList, hcs]
  simp [hj]
noncomputable def low : Nat := (World.holding Tryd.prog default ⟨#[], #[], []⟩).heap.size
theorem star : "*" ++ "errors.errorString" = "*errors.errorString" := by decide
theorem star_row (u : TypeId) (h : Tryd.prog.typeName? 3 u = some "*errors.errorString") : u = 134 :=
  typeName_ptr_named (nm := "errors.errorString") (by rw [star]; kernel_rfl) (by kernel_rfl) (by decide) u (by rw [star]; exact h)
/-- A start that fits: the settled world, the tables holding what their initialisers lay. -/
noncomputable def laidWorld (os : Os) : World :=
  let w0 := World.holding Tryd.prog os ⟨#[.cells #[.string ⟨#[118, 97, 108, 117, 101, 32, 111, 117, 116, 32, 111, 102, 32, 114, 97, 110, 103, 101]⟩] 136, .cells #[.string ⟨#[105, 110, 118, 97, 108, 105, 100, 32, 115, 121, 110, 116, 97, 120]⟩] 136], #[], []⟩
  let put (h : Array Obj) (g : Nat) (cs : Array Value) : Array Obj := h.modify g fun
    | .cells _ t frozen => .cells cs t frozen
    | o => o
  let h1 := put w0.heap 19 #[Value.int .u8 0, Value.int .u8 1, Value.int .u8 28, Value.int .u8 2, Value.int .u8 29, Value.int .u8 14, Value.int .u8 24, Value.int .u8 3, Value.int .u8 30, Value.int .u8 22, Value.int .u8 20, Value.int .u8 15, Value.int .u8 25, Value.int .u8 17, Value.int .u8 4, Value.int .u8 8, Value.int .u8 31, Value.int .u8 27, Value.int .u8 13, Value.int .u8 23, Value.int .u8 21, Value.int .u8 19, Value.int .u8 16, Value.int .u8 7, Value.int .u8 26, Value.int .u8 12, Value.int .u8 18, Value.int .u8 6, Value.int .u8 11, Value.int .u8 5, Value.int .u8 10, Value.int .u8 9]
  let h2 := put h1 20 #[Value.int .u8 0, Value.int .u8 1, Value.int .u8 56, Value.int .u8 2, Value.int .u8 57, Value.int .u8 49, Value.int .u8 28, Value.int .u8 3, Value.int .u8 61, Value.int .u8 58, Value.int .u8 42, Value.int .u8 50, Value.int .u8 38, Value.int .u8 29, Value.int .u8 17, Value.int .u8 4, Value.int .u8 62, Value.int .u8 47, Value.int .u8 59, Value.int .u8 36, Value.int .u8 45, Value.int .u8 43, Value.int .u8 51, Value.int .u8 22, Value.int .u8 53, Value.int .u8 39, Value.int .u8 33, Value.int .u8 30, Value.int .u8 24, Value.int .u8 18, Value.int .u8 12, Value.int .u8 5, Value.int .u8 63, Value.int .u8 55, Value.int .u8 48, Value.int .u8 27, Value.int .u8 60, Value.int .u8 41, Value.int .u8 37, Value.int .u8 16, Value.int .u8 46, Value.int .u8 35, Value.int .u8 44, Value.int .u8 21, Value.int .u8 52, Value.int .u8 32, Value.int .u8 23, Value.int .u8 11, Value.int .u8 54, Value.int .u8 26, Value.int .u8 40, Value.int .u8 15, Value.int .u8 34, Value.int .u8 20, Value.int .u8 31, Value.int .u8 10, Value.int .u8 25, Value.int .u8 14, Value.int .u8 19, Value.int .u8 9, Value.int .u8 13, Value.int .u8 8, Value.int .u8 7, Value.int .u8 6]
  let h3 := put h2 18 #[Value.int .u64 1, Value.int .u64 10, Value.int .u64 100, Value.int .u64 1000, Value.int .u64 10000, Value.int .u64 100000, Value.int .u64 1000000, Value.int .u64 10000000, Value.int .u64 100000000, Value.int .u64 1000000000, Value.int .u64 10000000000, Value.int .u64 100000000000, Value.int .u64 1000000000000, Value.int .u64 10000000000000, Value.int .u64 100000000000000, Value.int .u64 1000000000000000, Value.int .u64 10000000000000000, Value.int .u64 100000000000000000, Value.int .u64 1000000000000000000, Value.int .u64 10000000000000000000]
  let h4 := put h3 17 #[.iface 134 (.pointer (some ⟨low + 0, 0, none⟩))]
  let h5 := put h4 16 #[.iface 134 (.pointer (some ⟨low + 1, 0, none⟩))]
  { w0 with heap := h5 }
theorem laid_met (os : Os) (args : Array Value) : laidMet Tryd.prog Rows.fnGjStringTextRow.laid ((laidWorld os).forCall (fun _ _ => 0) ⟨#[], args, []⟩).memory :=
  (LaidIn.of_run (l := Rows.fnGjStringTextRow.laid) [19, 20, 18, 17, 16, low + 0, low + 1] 8 (by kernel_rfl) (by kernel_rfl) (by kernel_rfl) (by kernel_rfl)).met
theorem witness_row (os : Os) {H : Type} (enc : TypeId × Value → H) :
    (OpenSpec.ofChange Rows.fnGjStringTextSpec).preRow enc Tryd.prog Tryd.f7 Rows.fnGjStringTextRow.domain false Rows.fnGjStringTextRow.laid ((laidWorld os).forCall (fun _ _ => 0) ⟨#[], #[.string ⟨#[]⟩, .slice none 0 0, .string ⟨#[]⟩], []⟩).memory #[.string ⟨#[]⟩, .slice none 0 0, .string ⟨#[]⟩] := by
  have hw : (DataW.whole enc Tryd.prog ((laidWorld os).forCall (fun _ _ => 0) ⟨#[], #[.string ⟨#[]⟩, .slice none 0 0, .string ⟨#[]⟩], []⟩).memory Tryd.f7.params.toList (OpenSpec.ofChange Rows.fnGjStringTextSpec).vars false (#[.string ⟨#[]⟩, .slice none 0 0, .string ⟨#[]⟩] : Array Value).toList 8).map (fun x => (x.1, x.2.1)) =
      some ([.lit (.string []), .nil, .lit (.string [])], []) := by kernel_rfl
  obtain ⟨⟨x1, x2, x3⟩, hx, hx1⟩ := Option.map_eq_some_iff.1 hw
  simp only [Prod.mk.injEq] at hx1
  obtain ⟨rfl, rfl⟩ := hx1
  exact OpenSpec.preRow_of_cond 8 hx (by kernel_rfl) (fun k hk => by cases hk) (by kernel_rfl) (laid_met os _)
set_option maxRecDepth 100000 in
theorem lifted (os : Os) (started : os.Started) (H : Type) (enc : TypeId × Value → H) (F : Stop.Interp) :
    ReturnsInHanded {} Tryd.checked os 7 .any ((OpenSpec.ofChange Rows.fnGjStringTextSpec).preRow enc Tryd.prog Tryd.f7 Rows.fnGjStringTextRow.domain false Rows.fnGjStringTextRow.laid) (((OpenSpec.ofChange Rows.fnGjStringTextSpec).at F).post enc Tryd.prog Tryd.f7 false true false false) := by
  refine returnsInHanded_of_row (C := Tryd.checked) (s := OpenSpec.ofChange Rows.fnGjStringTextSpec) own started (by kernel_rfl) Tryd.func7
    (witness_row_atRef (enc := enc) (C := Tryd.checked) false (laidWorld os) #[.string ⟨#[]⟩, .slice none 0 0, .string ⟨#[]⟩] rfl (by kernel_rfl) (by kernel_rfl) (by kernel_rfl) (witness_row os enc)) ?_
  intro W base args ds gs before hval0 hW _ _ hsz0 hL _ _
  have hsz : (DataW.weightsEach Tryd.prog (Tryd.f7.params.toList ++ Rows.fnGjStringTextSpec.plain.varTypes Tryd.prog) (ds ++ gs)).all (· ≤ reachBytes) = true := hsz0
  have hval : ∀ (j : Nat) t v, Tryd.f7.params[j]? = some t → args[j]? = some v → Value.okWide Tryd.prog W .any base t v := hval0
  have hW' := hW
  obtain ⟨p, q, hA0, hV, rfl, hfz, hnd⟩ := hW
  have hA : DataW.TrodAll enc Tryd.prog W 0 (fun _ => true) true Tryd.f7.params.toList args.toList ds p := hA0
  rw [Tryd.params7] at hA hval hsz
  obtain ⟨v0, vs0, d0, ds0, p0, q0, hargs, rfl, rfl, h0, r0⟩ := trodAll_cons hA
  obtain ⟨v1, vs1, d1, ds1, p1, q1, rfl, rfl, rfl, h1, r1⟩ := trodAll_cons r0
  obtain ⟨v2, vs2, d2, ds2, p2, q2, rfl, rfl, rfl, h2, r2⟩ := trodAll_cons r1
  obtain ⟨rfl, rfl, rfl⟩ := trodAll_nil r2
  obtain rfl : args = #[v0, v1, v2] := by cases args; simp_all
  obtain ⟨rfl, rfl⟩ := trodVars_none hV
  obtain ⟨a0, rfl, rfl, rfl, y0⟩ := open_string Tryd.underlying9 (hval 0 9 v0 rfl rfl) h0
  have w0 : a0.size ≤ 140737488351232 := by
    have z := sized_string hsz (j := 0) (t := 9) rfl rfl
    rw [Array.length_toList] at z
    exact z
  obtain ⟨a1, len1, cap1, rfl⟩ := okWide_slice Tryd.underlying29 (hval 1 29 v1 rfl rfl)
  have k1 := h1
  have lt1 : ∀ x ∈ p1, x.block < W.heap.size := by obtain ⟨m, hm⟩ := k1; exact DataW.trod_lt m _ _ _ hm
  obtain ⟨z1, w1⟩ : ∃ zs, IsRow .u8 W a1 len1 cap1 zs := by
    obtain ⟨fuel, hf⟩ := h1
    rcases open_ints Tryd.underlying29 Tryd.underlying5 (by kernel_rfl) hf with ⟨hcs, _⟩ | ⟨x, l, c, zs, hcs, _, hl, hm, hz, _, hcell, hwz⟩
    · simp [Value.cells] at hcs
      obtain ⟨rfl, rfl, rfl⟩ := hcs
      exact ⟨[], .inl ⟨rfl, rfl, rfl, rfl⟩⟩
    · simp [Value.cells] at hcs
      obtain ⟨rfl, rfl, rfl⟩ := hcs
      exact ⟨zs, .inr ⟨_, rfl, hl, hm, by simpa using hz, hcell, hwz⟩⟩
  have y1 : len1 * 1 ≤ 140737488351232 := Go.Proofs.YtaigbkkgmncipaaDoorW.PrintWords.sized_ints hsz (j := 1) (t := 29) rfl rfl Tryd.underlying29 Tryd.underlying5 (by kernel_rfl) (by kernel_rfl) h1
  obtain ⟨a2, rfl, rfl, rfl, y2⟩ := open_string Tryd.underlying9 (hval 2 9 v2 rfl rfl) h2
  have w2 : a2.size ≤ 140737488351232 := by
    have z := sized_string hsz (j := 2) (t := 9) rfl rfl
    rw [Array.length_toList] at z
    exact z
  clear hA0 hval0 hsz0 hsz
  have tabs : G.Laid W := {
    errR := by
      obtain ⟨a, s, hv, _⟩ := laid_sentinel (te := 136) (hL.tail.tail.tail) (show Tryd.prog.globalNamed "strconv.ErrRange" = some 17 by kernel_rfl) (show (Tryd.prog.globals[17]?).map (·.type) = some 59 by kernel_rfl) Tryd.underlying59 star_row Tryd.underlying134 Tryd.underlying136 rfl rfl (by kernel_rfl) (by kernel_rfl) (by kernel_rfl)
      exact ⟨_, _, World.var?_cell (show Tryd.prog.globalNamed "strconv.ErrRange" = some 17 by kernel_rfl) hv 0⟩
    errS := by
      obtain ⟨a, s, hv, _⟩ := laid_sentinel (te := 136) (hL.tail.tail.tail.tail) (show Tryd.prog.globalNamed "strconv.ErrSyntax" = some 16 by kernel_rfl) (show (Tryd.prog.globals[16]?).map (·.type) = some 59 by kernel_rfl) Tryd.underlying59 star_row Tryd.underlying134 Tryd.underlying136 rfl rfl (by kernel_rfl) (by kernel_rfl) (by kernel_rfl)
      exact ⟨_, _, World.var?_cell (show Tryd.prog.globalNamed "strconv.ErrSyntax" = some 16 by kernel_rfl) hv 0⟩ }
  refine (G.laws_FnGjStringText.walk Pure.FnGjStringText a0 a1 len1 cap1 z1 a2 W tabs w0 w1 y1 w2).mono fun e W' ⟨he, bel⟩ => ?_
  subst he
  exact ⟨_, rfl, _, _, _, [], _, [], hW', trodAll_mk1 (shut_bool Tryd.underlying4 _), (trodAll_cons_mk (shut_string Tryd.underlying9 y0) (trodAll_cons_mk (Below.trod laidOut (by kernel_rfl) (of_decide_eq_true (by kernel_rfl)) k1 bel lt1) (trodAll_cons_mk (shut_string Tryd.underlying9 y2) trodAll_mk0))), rfl, bel.frame _, fun h => by cases h⟩
theorem over : Rows.fnGjStringTextRow.holds Tryd.pinned (OpenSpec.ofChange Rows.fnGjStringTextSpec) :=
  OpenClaim.holds_of_cond 7 Tryd.f7 rfl rfl rfl rfl rfl rfl rfl ⟨rfl, rfl, rfl, rfl, rfl⟩ rfl rfl rfl rfl rfl (by kernel_rfl) Tryd.func7 (by kernel_rfl)
    (of_decide_eq_true (by kernel_rfl)) (by unfold Func.isWrapper; first | (rw [if_pos (by decide +kernel)]; kernel_rfl) | (rw [if_neg (by decide +kernel)]; exact ⟨rfl, rfl⟩))
    (fun os started H enc _ F0 => by rw [OpenClaim.pre_eq_preRow]; exact lifted os started H enc F0)
theorem card : Rows.FnGjStringTextCardSaid :=
  Claim7.holds_tied_plain_at .later [] [.data, .data, .data, .sentinel, .sentinel] true (true, "c57bc85803711fc22e656b689d5e1c65426e45cc361052fe5a9c5ab3c78a401b") true
    over (fun _ h => by cases h) (by kernel_rfl) (fun _ h => by cases h) fnGjStringText_row_tie rfl ⟨rfl, rfl⟩ (by kernel_rfl) rfl
    (fun f fn hf hfn => by
      obtain rfl : f = 7 := Option.some.inj ((show Tryd.prog.funcNamed "pub-tetrapla/laws.FnGjStringText" = some 7 by kernel_rfl).symm.trans hf) |>.symm
      obtain rfl : fn = Tryd.f7 := (Option.some.inj (Tryd.func7.symm.trans hfn)).symm
      exact ⟨by kernel_rfl, fun j t ht => by
        rw [Tryd.params7] at ht
        have h3 : t = 9 ∨ t = 29 := by
          match j, ht with
          | 0, ht => have e : t = 9 := (by simpa using ht.symm); subst e; simp
          | 1, ht => have e : t = 29 := (by simpa using ht.symm); subst e; simp
          | 2, ht => have e : t = 9 := (by simpa using ht.symm); subst e; simp
          | j + 3, ht => simp at ht
        rcases h3 with rfl | rfl
        · exact (show Tryd.prog.wantsStandIn 9 = false by kernel_rfl)
        · exact (show Tryd.prog.wantsStandIn 29 = false by kernel_rfl)⟩)
    (by kernel_rfl)
end Go.Proofs.YtaigbkkgmncipaaDoor.fnGjStringText
namespace Go.Proofs.YtaigbkkgmncipaaDoor
/-- The card, under a short name, for the claim. -/
theorem fnGjStringText_holds : Rows.FnGjStringTextCardSaid := fnGjStringText.card
end Go.Proofs.YtaigbkkgmncipaaDoor
