-- printed by a turned copy of the kit's print (wip/tools/patch_print.py)
import Derived.Test.YtlokkefnbffjnaaDoorProg
import Derived.Below
import Derived.Deep.Draws
import Derived.Deep.AppendLies
import Derived.Maps.AppendAt
import Derived.OwnWalk
import Derived.Laws.BytesArg
import Derived.Laws.MakeOwn
import Derived.Laws.OwnMore
import Derived.Deep.OwnRows
import Derived.Tactics
import Derived.Lib.ConvBytes
import Derived.Laws.Slices
import Derived.WalkKit
import Derived.KernelRfl
import Derived.RowKit3
import Derived.Deep.LoopGhost
import Derived.Deep.QuietTactic
import Derived.BigQuiet
import Derived.WideLaws
import Derived.Deep.DeepCutAuto
import Derived.Deep.CutBlock
import Derived.Deep.RegionHeld3
import Derived.Laws.Rows
import Derived.Lib.AppendStr
import Derived.ArgAppend
import Derived.Laws.IdiomCopy
import Derived.OrdersHeld
import Derived.Laws.BitsLemmas
import Derived.RowKit
import Derived.Lib.BufferWrite
import Derived.Laws.CopyOwn
import Derived.Test.YtlokkefnbffjnaaDoorShelf
import Derived.Test.YtlokkefnbffjnaaDoorWWords
import Derived.Test.YtlokkefnbffjnaaDoorWLast
import Derived.Test.YtlokkefnbffjnaaDoorWTab
import Derived.Test.YtlokkefnbffjnaaDoorWFour
import Derived.Test.YtlokkefnbffjnaaDoorWQPut
import Derived.Test.YtlokkefnbffjnaaDoorWApart
import Derived.Test.YtlokkefnbffjnaaDoorWArr
import Derived.Test.YtlokkefnbffjnaaDoorWZeros
import Derived.Test.YtlokkefnbffjnaaDoorWFoot
import Derived.Test.YtlokkefnbffjnaaDoorWKept
import Derived.Test.YtlokkefnbffjnaaDoorWShare
import Derived.Test.YtlokkefnbffjnaaDoorWN
import Derived.Test.YtlokkefnbffjnaaDoorWFootNe
import Derived.Test.YtlokkefnbffjnaaDoorWAt
import Derived.Test.YtlokkefnbffjnaaDoorWEqStruct
import Derived.Test.YtlokkefnbffjnaaDoorWRepsOne
import Derived.Test.YtlokkefnbffjnaaDoorWInv
import Derived.Test.YtlokkefnbffjnaaDoorWInvWords
import Derived.Test.YtlokkefnbffjnaaDoorWGuard
import Derived.Test.YtlokkefnbffjnaaDoorWNEv
import Derived.Test.YtlokkefnbffjnaaDoorWMore
namespace Go.Proofs.YtlokkefnbffjnaaDoor.U
open Go.RowKit Go.Proofs.YtlokkefnbffjnaaDoorW.PrintWords Go.Proofs.YtlokkefnbffjnaaDoorW.PrintLast Go.Proofs.YtlokkefnbffjnaaDoorW.PrintMore
attribute [local go_sem] max2_int min2_int max_two min_two max_three min_three max_four min_four   -- for this text's walks alone
set_option linter.unusedVariables false
set_option linter.unusedSimpArgs false



def errW : Option Int → Value
  | none => .nilIface
  | some c => .iface (c % 1000).toNat (.pointer (some ⟨(c / 1000).toNat, 0, none⟩))
theorem errW_none : errW none = .nilIface := rfl
theorem errW_some (c : Int) : errW (some c) = .iface (c % 1000).toNat (.pointer (some ⟨(c / 1000).toNat, 0, none⟩)) := rfl

-- the values' own types

/-- Two errors of which both are there, or neither. -/
def Zk (z r : Option Int) : Prop := z.isSome = r.isSome
theorem Zk.none_ {z : Option Int} (h : Zk z none) : z = none := by cases z <;> simp_all [Zk]
theorem Zk.some_ {z : Option Int} {q : Int} (h : Zk z (some q)) : ∃ m, z = some m := by cases z <;> simp_all [Zk]
theorem Zk.nn : Zk none none := rfl
theorem Zk.ss {a b : Int} : Zk (some a) (some b) := rfl
/-- An error that is a pointer to a block, as one number. -/
theorem errW_mk (T n : Nat) (hT : T < 1000) : ∃ z : Option Int, Zk z (some 0) ∧ Value.iface T (.pointer (some ⟨n, 0, none⟩)) = errW z := by
  refine ⟨some ((n * 1000 + T : Nat) : Int), rfl, ?_⟩
  rw [errW_some, show (((n * 1000 + T : Nat) : Int) % 1000).toNat = T by omega, show (((n * 1000 + T : Nat) : Int) / 1000).toNat = n by omega]

/-- A string's bytes as whole numbers. -/
def numsOf (s : ByteArray) : List Int := s.data.toList.map fun b => (b.toNat : Int)
theorem numsOf_length (s : ByteArray) : (numsOf s).length = s.size := by simp [numsOf]
theorem numsOf_getD (s : ByteArray) (j : Nat) : (numsOf s).getD j 0 = ((s.data.toList.getD j 0).toNat : Int) := by
  simp only [numsOf, List.getD_eq_getElem?_getD, List.getElem?_map]
  cases s.data.toList[j]? <;> rfl
theorem numsOf_rd (s : ByteArray) (i : Int) : rd (numsOf s) i = bt s i := by
  unfold rd bt
  rw [numsOf_getD]
  split
  · rename_i h
    have h' : i.toNat < s.data.toList.length := by simpa using h
    rw [List.getD_eq_getElem?_getD, List.getElem?_eq_getElem h']
    rfl
  · rename_i h
    have h' : s.data.toList.length ≤ i.toNat := by simp; omega
    rw [List.getD_eq_getElem?_getD, List.getElem?_eq_none h']
    rfl
/-- The bytes behind '[]byte(s)' are read. -/
theorem bytesWorld_C (w : World) (e : TypeId) (s : ByteArray) (hn : s.size ≤ 9223372036854775807) : Kd.C (Kd.int .u8) (Lib.bytesWorld w e s) (some ⟨w.heap.size, 0, none⟩) (numsOf s).length (numsOf s) := by
  refine Kd.C_of_reads (d := (0 : Int)) (h1 := fun _ => rfl) ⟨rfl, by rw [numsOf_length]; exact hn, fun _ => ⟨_, rfl, fun j hj => ?_⟩⟩
  rw [add_plain, numsOf_getD]
  exact Lib.bytesWorld_cell w e s j (by rw [numsOf_length] at hj; exact hj)
theorem bytesWorld_below (w : World) (e : TypeId) (s : ByteArray) : Below w.heap.size w (Lib.bytesWorld w e s) :=
  ⟨rfl, rfl, rfl, by rw [Lib.bytesWorld_size]; omega, fun i hi => Lib.bytesWorld_at_old w e s i hi⟩
theorem bytesWorld_cap (w : World) (e : TypeId) (s : ByteArray) : (numsOf s).length ≤ grownCap w s.size 0 e := by rw [numsOf_length]; exact Nat.le_add_right _ _
theorem bel_lower {B B' : Nat} {w w' : World} (h : Below B w w') (hb : B' ≤ B) : Below B' w w' := ⟨h.os, h.tape, h.output, h.size, fun k hk => h.block k (Nat.lt_of_lt_of_le hk hb)⟩
/-- A struct stored whole into a variable in memory. -/
theorem box_store {P : Program} {ops : Array Oper} {rest : List Oper} {o : Oper} {a : Act} {Q : Exit → Act → World → Prop} {W : World} (hgd : o.guard = none) (hN : o.dst = none) {t : TypeId} {p x : Operand} (ho : o.op = .store t p x) {g : Nat} {e : TypeId} {cur new : Array Value}
    (haddr : a.eval p = .pointer (some ⟨g, 0, none⟩)) (hx : a.eval x = .agg new) (hb : W.heap[g]? = some (.cells cur e (0, 0))) (hsz : new.size = cur.size) (ht : (P.info? t).map (·.size) = some new.toList.length) (h1 : ∀ q ∈ new.toList, q.oneCell' = true)
    (h : ∀ w1, w1.heap[g]? = some (.cells new e (0, 0)) → KeepBut W w1 g none → (∀ B, B ≤ g → Below B W w1) → wpList P ops Q rest a w1) : wpList P ops Q (o :: rest) a W := by
  have hl : new.toList.length = cur.size := by rw [Array.length_toList]; exact hsz
  refine wpList_plain hgd fun K hK => ?_
  have hrun : (Instr.storeAt t (.pointer (some ⟨g, 0, none⟩)) (.agg new)).run P W = .ok () (W.setCells g 0 new.toList) := run_store_run t (.agg new) new.toList hb rfl ht (by omega) h1
  unfold Oper.wp execOp
  simp only [ho, haddr, hx, Sem.run_bind, Sem.run_pure, Result.andThen_ok, hrun]
  show K (a.put o.dst undef) _
  rw [hN]
  obtain ⟨s1, s2, s3, s4⟩ := setCells_same g new.toList 0 W
  obtain ⟨cur', c1, c2, c3⟩ := setCells_row new.toList 0 W cur hb (by omega)
  have e1 : cur' = new := by
    apply Array.toList_inj.mp
    rw [c3]
    simp [hl]
  subst e1
  exact hK a _ (h _ c1 ⟨by rw [s4]; exact Nat.le_refl _, fun i _ hi _ => setCells_far _ _ i hi⟩ (fun B hB => ⟨s1, s2, s3, by rw [s4]; exact Nat.le_refl _, fun k hk => setCells_far _ _ k (by omega)⟩))
/-- copy(v, s), v a row of bytes of one's own, at least as long as the string: its first cells are the string's bytes then. -/
theorem R_copy_str {P : Program} {ops : Array Oper} {rest : List Oper} {o : Oper} {a : Act} {Q : Exit → Act → World → Prop} {w0 W : World} (base : Nat) (hgd : o.guard = none) (s x : Operand) (t t' e : TypeId)
    (ho : o.op = .call { callee := .builtin .copy, args := #[s, x], argTypes := #[t, t'] }) (ht : P.underlying t = some (.slice e)) (hinfo : (P.info? e).map (·.size) = some 1)
    (v : Value) (xs : List Int) (b : ByteArray) (ok : Nat → Prop) (hs : a.eval s = v) (hx : a.eval x = .string b) (hle : b.size ≤ xs.length) (hpos : 0 < xs.length)
    (HO : (Kd.int .u8).R e W base ok v xs) (HB : Below base w0 W)
    (h : ∀ w1, (Kd.int .u8).R e w1 base ok v (numsOf b ++ xs.drop b.size) → Below base w0 w1 → wpList P ops Q rest (a.put o.dst (.int .i64 ((b.size : Nat) : Int))) w1) :
    wpList P ops Q (o :: rest) a W := by
  have hown := Kd.own_of_R HO
  rcases hown.2 with ⟨_, hx0⟩ | ⟨g, cap, cur, hv, hb, hh, hnc, hcm, hcs, htake⟩
  · omega
  have hr := Lib.run_copy_row_string (P := P) W t t' o.type e g 0 xs.length cap b cur e ht hinfo hh hle (by omega)
  have hlen : (numsOf b ++ xs.drop b.size).length = xs.length := by
    rw [List.length_append, numsOf_length, List.length_drop]
    omega
  have hbc : Lib.byteCells b.data.toList = encs (Value.int .u8) (numsOf b) := by simp [Lib.byteCells, encs, numsOf]
  have hR : (Kd.int .u8).R e (W.setRow g (cur.toList.take 0 ++ Lib.byteCells b.data.toList ++ cur.toList.drop (0 + b.size)).toArray) base ok v (numsOf b ++ xs.drop b.size) := by
    refine Kd.R_of_own ?_ HO.1
    rw [hlen]
    refine ⟨by rw [encs_length, hlen, Nat.mul_one], .inr ⟨g, cap, _, hv, hb, setRow_heap W g cur _ e (0, 0) hh, hnc, hcm, ?_, ?_⟩⟩
    · simp [hbc, encs, numsOf_length]
      omega
    · rw [List.take_zero, List.nil_append, Nat.zero_add, hbc, encs_append, Nat.mul_one]
      have hl2 : (encs (Value.int .u8) (numsOf b)).length = b.size := by simp [encs, numsOf_length]
      rw [List.take_append, hl2, List.take_of_length_le (by rw [hl2]; omega)]
      congr 1
      have htk : cur.toList.take xs.length = encs (Value.int .u8) xs := by rw [← htake, Nat.mul_one]
      have hd : encs (Value.int .u8) (xs.drop b.size) = (encs (Value.int .u8) xs).drop b.size := by simp [encs, List.map_drop]
      rw [hd, ← htk, List.drop_take]
  refine wpList_plain hgd fun K hK => ?_
  unfold Oper.wp execOp
  simp only [ho, resolve, invoke, builtin, Sem.run_bind, Sem.run_pure, Result.andThen_ok, List.map_toArray, List.map_cons, List.map_nil, hs, hx, hv, hr]
  exact hK _ _ (h _ hR (below_setRow HB hb _))
theorem strOfNums_numsOf (s : ByteArray) : strOfNums (numsOf s) = s := by
  apply ByteArray.ext
  apply Array.toList_inj.mp
  simp only [strOfNums, numsOf, List.map_map]
  have e : ((fun n : Int => UInt8.ofNat n.toNat) ∘ fun b : UInt8 => (b.toNat : Int)) = id := by
    funext b
    simp
  rw [e, List.map_id]
theorem bt_nat (s : ByteArray) (j : Nat) : ∀ h : j < s.size, ((s[j]'h).toNat : Int) = bt s (j : Int) := fun h => by simp [bt, h]
theorem bel_cell {B : Nat} {w w' : World} (h : Below B w w') {a : Addr} (ha : a.block < B) : w'.cell? a = w.cell? a := by unfold World.cell?; rw [h.block a.block ha]
/-- Where the builtin append of a string leaves its row: where it was, or in a new block. -/
theorem append_str_at {P : Program} (W : World) (base : Nat) (t u ty e : TypeId) (i : TypeInfo) (ht : P.underlying t = some (.slice e)) (hu : P.underlying u = some .string) (hi : P.info? e = some i) (hz : i.zero = some (.int .u8 0)) (hsize : i.size = 1) (hby : i.bytes = 1)
    (v : Value) (n : Nat) (xs : List Value) (hown : W.ownsRow base e 1 v n xs) (s : ByteArray) (hbytes : n + s.size ≤ 140737488355328) (v1 : Value) (w1 : World)
    (hr : (Builtin.append_ #[t, u] ty #[v, .string s]).run P W = .ok v1 w1) : v1.ownBlock = v.ownBlock ∨ ∃ b, v1.ownBlock = some b ∧ W.heap.size ≤ b := by
  have hxl : xs.length = n := by simpa using hown.1
  rcases hown.2 with ⟨rfl, rfl⟩ | ⟨g, cap, cur, rfl, hbg, hg, hnc, hcm, hcs, htake⟩
  · by_cases hm : s.size = 0
    · have hf := Lib.run_firstCells_string (P := P) W 1 s
      rw [hm] at hf
      have h2 : (Builtin.append_ #[t, u] ty #[.slice none 0 0, .string s]).run P W = .ok (.slice none 0 0) W := by
        simp [Builtin.append_, run_underlying ht, run_underlying hu, sizeOf, typeInfo, hi, hsize, Builtin.lenOf, hm, hf]
      rw [h2] at hr
      injection hr with e1 e2
      subst e1
      exact .inl rfl
    · rw [run_append_nil_string (P := P) W t u ty e i (.int .u8 0) ht hu hi hz s (by omega) (by omega) (by rw [hby]; omega)] at hr
      injection hr with e1 e2
      subst e1
      exact .inr ⟨W.heap.size, rfl, Nat.le_refl _⟩
  · by_cases hroom : n + s.size ≤ cap
    · have hcs' : cur.size = cap := by simpa using hcs
      rw [Lib.run_append_room_string (P := P) W t u ty e i ht hu hi hsize g n cap cur hg s hroom (by omega)] at hr
      injection hr with e1 e2
      subst e1
      exact .inl rfl
    · have holds : ∀ j u, xs[j]? = some u → W.cell? ((⟨g, 0, none⟩ : Addr).add j) = some u := hown.cells (g := g) rfl
      rw [Lib.run_append_grow_string (P := P) W t u ty e i (.int .u8 0) ht hu hi hz ⟨g, 0, none⟩ n cap xs (by rw [hsize]; simpa using hxl) holds s (by omega) (by omega) (by rw [hby]; exact growslice_fits (by omega) (by omega))] at hr
      injection hr with e1 e2
      subst e1
      exact .inr ⟨W.heap.size, rfl, Nat.le_refl _⟩
/-- append(v, s...), s a string: the row that comes of it, and where it may lie. -/
theorem R_append_str {P : Program} {ops : Array Oper} {rest : List Oper} {o : Oper} {a : Act} {Q : Exit → Act → World → Prop} {w0 W : World} (base : Nat) (hgd : o.guard = none) (s x : Operand) (t u e : TypeId)
    (ho : o.op = .call { callee := .builtin .append, args := #[s, x], argTypes := #[t, u] })
    (ht : P.underlying t = some (.slice e)) (hu : P.underlying u = some .string) (hinfo : (P.info? e).map (fun i => (i.zero, i.size, i.bytes)) = some (some (.int .u8 0), 1, 1))
    (v : Value) (xs : List Int) (y : ByteArray) (ok : Nat → Prop) (hs : a.eval s = v) (hx : a.eval x = .string y) (hfresh : ∀ k, W.heap.size ≤ k → ok k)
    (HO : (Kd.int .u8).R e W base ok v xs) (HB : Below base w0 W) (hbase : base ≤ W.heap.size) (hl : xs.length + y.size ≤ 140737488355328)
    (h : ∀ v1 w1, (Kd.int .u8).R e w1 base ok v1 (xs ++ bytesOf y) → Below base w0 w1 → W.grownBy w1 v.ownBlock → (v1.ownBlock = v.ownBlock ∨ ∃ b, v1.ownBlock = some b ∧ W.heap.size ≤ b) → wpList P ops Q rest (a.put o.dst v1) w1) :
    wpList P ops Q (o :: rest) a W := by
  have hown : W.ownsRow base e 1 v xs.length (nums .u8 xs) := Kd.own_of_R HO
  obtain ⟨i0, hi, hzz⟩ := Option.map_eq_some_iff.1 hinfo
  simp only [Prod.mk.injEq] at hzz
  obtain ⟨hz0, hz1, hz2⟩ := hzz
  refine wpList_plain hgd fun K hK => ?_
  obtain ⟨v', w', hr, h2, h3, _⟩ := Lib.run_append_own_string (P := P) W base t u o.type e i0 ht hu hi hz0 hz1 hz2 v xs.length (nums .u8 xs) hown y (by simp only [maxLen]; omega) hl hbase
  have hat := append_str_at (P := P) W base t u o.type e i0 ht hu hi hz0 hz1 hz2 v xs.length (nums .u8 xs) hown y hl v' w' hr
  have hl2 : (xs ++ bytesOf y).length = xs.length + y.size := by rw [List.length_append, bytesOf_length]
  have hc : nums .u8 (xs ++ bytesOf y) = nums .u8 xs ++ Lib.strCells y := by
    rw [nums_append]
    congr 1
    simp [nums, bytesOf, Lib.strCells]
  have hR : (Kd.int .u8).R e w' base ok v' (xs ++ bytesOf y) := by
    refine Kd.R_of_own (by rw [hl2, show encs (Value.int .u8) (xs ++ bytesOf y) = nums .u8 (xs ++ bytesOf y) from rfl, hc]; exact h2) fun k hk => ?_
    rcases hat with h4 | ⟨b, h4, h5⟩
    · exact HO.1 k (h4.symm.trans hk)
    · rw [h4] at hk
      injection hk with hk
      subst hk
      exact hfresh _ h5
  unfold Oper.wp execOp
  simp only [ho, resolve, invoke, builtin, Sem.run_bind, Sem.run_pure, Result.andThen_ok, List.map_toArray, List.map_cons, List.map_nil, hs, hx, hr]
  exact hK _ _ (h v' w' hR (HB.grown h3 hbase (own_base hown)) h3 hat)

/-- The package-level errors that the functions below read are there. -/
structure Laid (w : World) : Prop where
  errS : ∃ te pe, w.cell? ⟨13, 0, none⟩ = some (.iface te pe)
  errR : ∃ te pe, w.cell? ⟨14, 0, none⟩ = some (.iface te pe)
theorem Laid.below {B : Nat} {w w' : World} (h : Laid w) (hb : Below B w w') (hB : w.heap.size ≤ B := by exact Nat.le_refl _) : Laid w' where
  errS := by
    obtain ⟨te, pe, h1⟩ := h.errS
    exact ⟨te, pe, (bel_cell hb (Nat.lt_of_lt_of_le (World.block_lt_of_cell? w _ h1) hB)).trans h1⟩
  errR := by
    obtain ⟨te, pe, h1⟩ := h.errR
    exact ⟨te, pe, (bel_cell hb (Nat.lt_of_lt_of_le (World.block_lt_of_cell? w _ h1) hB)).trans h1⟩

end Go.Proofs.YtlokkefnbffjnaaDoor.U
