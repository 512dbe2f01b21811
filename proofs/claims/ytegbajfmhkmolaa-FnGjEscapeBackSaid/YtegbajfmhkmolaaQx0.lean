-- printed by a turned copy of the kit's print (wip/tools/patch_print.py)
import Derived.Test.YtegbajfmhkmolaaProg
import Derived.Below
import Derived.Deep.Draws
import Derived.Deep.AppendLies
import Derived.Maps.AppendAt
import Derived.OwnWalk
import Derived.Laws.BytesArg
import Derived.Laws.MakeOwn
import Derived.Laws.OwnMore
import Derived.Deep.OwnRows
import Derived.Tactics
import Derived.Lib.ConvBytes
import Derived.Laws.Slices
import Derived.WalkKit
import Derived.KernelRfl
import Derived.RowKit3
import Derived.Deep.LoopGhost
import Derived.Deep.QuietTactic
import Derived.BigQuiet
import Derived.WideLaws
import Derived.Deep.DeepCutAuto
import Derived.Deep.CutBlock
import Derived.Deep.RegionHeld3
import Derived.Laws.Rows
import Derived.Lib.AppendStr
import Derived.ArgAppend
import Derived.Laws.IdiomCopy
import Derived.OrdersHeld
import Derived.Laws.BitsLemmas
import Derived.RowKit
import Derived.Lib.BufferWrite
import Derived.Laws.CopyOwn
import Derived.Test.YtegbajfmhkmolaaWWords
import Derived.Test.YtegbajfmhkmolaaWLast
import Derived.Test.YtegbajfmhkmolaaWTab
import Derived.Test.YtegbajfmhkmolaaWFour
import Derived.Test.YtegbajfmhkmolaaWQPut
import Derived.Test.YtegbajfmhkmolaaWApart
import Derived.Test.YtegbajfmhkmolaaWArr
import Derived.Test.YtegbajfmhkmolaaWZeros
import Derived.Test.YtegbajfmhkmolaaWFoot
import Derived.Test.YtegbajfmhkmolaaWKept
import Derived.Test.YtegbajfmhkmolaaWShare
import Derived.Test.YtegbajfmhkmolaaWN
import Derived.Test.YtegbajfmhkmolaaWFootNe
import Derived.Test.YtegbajfmhkmolaaWAt
import Derived.Test.YtegbajfmhkmolaaWEqStruct
import Derived.Test.YtegbajfmhkmolaaWRepsOne
import Derived.Test.YtegbajfmhkmolaaWInv
import Derived.Test.YtegbajfmhkmolaaWInvWords
import Derived.Test.YtegbajfmhkmolaaWGuard
import Derived.Test.YtegbajfmhkmolaaWNEv
import Derived.Test.YtegbajfmhkmolaaWMore
namespace Go.Proofs.Ytegbajfmhkmolaa.Q
open Go.RowKit Go.Proofs.YtegbajfmhkmolaaW.PrintWords Go.Proofs.YtegbajfmhkmolaaW.PrintLast Go.Proofs.YtegbajfmhkmolaaW.PrintMore
attribute [local go_sem] max2_int min2_int max_two min_two max_three min_three max_four min_four   -- for this text's walks alone
set_option linter.unusedVariables false
set_option linter.unusedSimpArgs false



def errW : Option Int → Value
  | none => .nilIface
  | some c => .iface 0 (.int .i64 c)
theorem errW_none : errW none = .nilIface := rfl
theorem errW_some (c : Int) : errW (some c) = .iface 0 (.int .i64 c) := rfl

theorem info5 : (Try.prog.info? 5).map (fun i => (i.zero, i.size, i.bytes)) = some (some (.int .u8 0), 1, 1) := by kernel_rfl
theorem info36 : (Try.prog.info? 36).map (fun i => (i.zero, i.size, i.bytes)) = some (some (.agg #[(.int .i64 0), (.int .i64 0), (.int .i64 0), (.slice none 0 0), (.slice none 0 0)]), 5, 72) := by kernel_rfl
theorem info61 : (Try.prog.info? 61).map (fun i => (i.zero, i.size, i.bytes)) = some (some (.agg #[(.int .i64 0), (.int .i64 0)]), 2, 16) := by kernel_rfl
-- the values' own types
/-! #### struct type 61 -/
structure S61 where
  f0 : Int
  f1 : Int
def z61 : S61 := ⟨(0 : Int), (0 : Int)⟩
def k61 : Kd S61 := Kd.iso (Kd.pair (Kd.int .i64) (Kd.int .i64)) (fun x : S61 => (x.f0, x.f1))
theorem k61_heap : Kd.Heap k61 := Kd.heap_iso _ (Kd.heap_pair (Kd.heap_int .i64) (Kd.heap_int .i64))
theorem k61_open {w : World} {x : S61} {cs : List Value} (h : k61.K w x cs) : cs = [.int .i64 x.f0, .int .i64 x.f1] := by
  obtain ⟨_, _, rfl, rfl, rfl⟩ := h
  exact rfl
theorem k61_openM {w : World} {base : Nat} {ok : Nat → Prop} {x : S61} {cs : List Value} (h : k61.M w base ok x cs) : cs = [.int .i64 x.f0, .int .i64 x.f1] := by
  obtain ⟨_, _, rfl, rfl, rfl⟩ := h
  exact rfl
theorem k61_mk (w : World) (x : S61)  : k61.K w x [.int .i64 x.f0, .int .i64 x.f1] := ⟨[.int .i64 x.f0], [.int .i64 x.f1], rfl, rfl, rfl⟩
theorem k61_mkM (w : World) (base : Nat) (ok : Nat → Prop) (x : S61)  : k61.M w base ok x [.int .i64 x.f0, .int .i64 x.f1] := ⟨[.int .i64 x.f0], [.int .i64 x.f1], rfl, rfl, rfl⟩
def rd_T61 (xs : List S61) (i : Int) : S61 := xs.getD i.toNat z61
theorem at_T61 {w : World} {A : Option Addr} {n : Nat} {xs : List S61} (h : Kd.C k61 w A n xs) (i : Int) (h0 : 0 ≤ i) (h1 : i < n) : ∃ ad , A = some ad ∧ w.cell? (ad.add (i.toNat * 2)) = some (.int .i64 (rd_T61 xs i).f0) ∧ w.cell? ⟨(ad.add (i.toNat * 2)).block, (ad.add (i.toNat * 2)).off + 1, none⟩ = some (.int .i64 (rd_T61 xs i).f1) := by
  obtain ⟨ad, c, e, _, hK, hc0⟩ := Kd.C_get h z61 i h0 h1
  have hc : ∀ j u, c[j]? = some u → w.cell? (ad.add (i.toNat * 2 + j)) = some u := hc0
  obtain rfl := k61_open hK
  exact ⟨ad, e, hc 0 _ rfl, by rw [← add_field _ _ 1 (by omega)]; exact hc 1 _ rfl⟩

def rd_L3 (xs : List (List S61)) (i : Int) : (List S61) := xs.getD i.toNat ([] : List S61)
theorem at_L3 {w : World} {A : Option Addr} {n : Nat} {xs : List (List S61)} (h : Kd.C (Kd.slice 61 k61) w A n xs) (i : Int) (h0 : 0 ≤ i) (h1 : i < n) : ∃ ad A0 c0, A = some ad ∧ w.cell? (ad.add i.toNat) = some (.slice A0 (rd_L3 xs i).length c0) ∧ (rd_L3 xs i).length ≤ c0 ∧ k61.C w A0 (rd_L3 xs i).length (rd_L3 xs i) := by
  obtain ⟨ad, c, e, _, hK, hc0⟩ := Kd.C_get h ([] : List S61) i h0 h1
  have hc : ∀ j u, c[j]? = some u → w.cell? (ad.add (i.toNat * 1 + j)) = some u := hc0
  obtain ⟨A0, c0, rfl, l0, g0⟩ := hK
  exact ⟨ad, A0, c0, e, by have hq := hc 0 _ rfl; rwa [Nat.mul_one, Nat.add_zero] at hq, l0, g0⟩

/-! #### struct type 36, nested in itself -/
structure S36 where
  f0 : Int
  f1 : Int
  f2 : Int
  f3 : (List S61)
  f4 : (List S36)
def z36 : S36 := ⟨(0 : Int), (0 : Int), (0 : Int), ([] : List S61), ([] : List S36)⟩
def F36 (d : Kd S36) : Kd S36 := Kd.iso (Kd.pair (Kd.int .i64) (Kd.pair (Kd.int .i64) (Kd.pair (Kd.int .i64) (Kd.pair (Kd.slice 61 k61) (Kd.slice 36 d))))) (fun x : S36 => (x.f0, x.f1, x.f2, x.f3, x.f4))
theorem mono36 : Kd.Mono F36 := Kd.mono_iso _ (Kd.mono_pair (Kd.mono_const _) (Kd.mono_pair (Kd.mono_const _) (Kd.mono_pair (Kd.mono_const _) (Kd.mono_pair (Kd.mono_const _) (Kd.mono_slice 36 Kd.mono_id)))))
theorem sub36 : Kd.Sub F36 [36, 61] := Kd.sub_iso _ (Kd.sub_pair (Kd.sub_const _ (by decide)) (Kd.sub_pair (Kd.sub_const _ (by decide)) (Kd.sub_pair (Kd.sub_const _ (by decide)) (Kd.sub_pair (Kd.sub_const _ (by decide)) (Kd.sub_slice 36 (by decide) Kd.sub_id)))))
theorem sz36 : ∀ n, (Kd.upto F36 5 [36, 61] n).sz = 5 := Kd.upto_sz (fun _ => rfl)
def k36 : Kd S36 := Kd.fix F36 5 [36, 61] sz36 (Kd.upto_E sub36)
theorem k36_heap : Kd.Heap k36 := Kd.heap_fix (fun _ h_ => Kd.heap_iso _ (Kd.heap_pair (Kd.heap_int .i64) (Kd.heap_pair (Kd.heap_int .i64) (Kd.heap_pair (Kd.heap_int .i64) (Kd.heap_pair (Kd.heap_slice 61 k61_heap) (Kd.heap_slice 36 h_))))))
theorem k36_open {w : World} {x : S36} {cs : List Value} (h : k36.K w x cs) : ∃ A3 c3 A4 c4, cs = [.int .i64 x.f0, .int .i64 x.f1, .int .i64 x.f2, .slice A3 x.f3.length c3, .slice A4 x.f4.length c4] ∧ x.f3.length ≤ c3 ∧ k61.C w A3 x.f3.length x.f3 ∧ x.f4.length ≤ c4 ∧ k36.C w A4 x.f4.length x.f4 := by
  obtain ⟨n, h⟩ := h
  cases n with
  | zero => exact h.elim
  | succ n =>
    obtain ⟨_, _, rfl, rfl, ⟨_, _, rfl, rfl, ⟨_, _, rfl, rfl, ⟨_, _, rfl, ⟨A3, c3, rfl, l3, g3⟩, ⟨A4, c4, rfl, l4, g4⟩⟩⟩⟩⟩ := h
    exact ⟨A3, c3, A4, c4, rfl, l3, g3, l4, Kd.fix_C g4⟩
theorem k36_openM {w : World} {base : Nat} {ok : Nat → Prop} {x : S36} {cs : List Value} (h : k36.M w base ok x cs) : ∃ v3 v4, cs = [.int .i64 x.f0, .int .i64 x.f1, .int .i64 x.f2, v3, v4] ∧ k61.R 61 w base ok v3 x.f3 ∧ k36.R 36 w base ok v4 x.f4 := by
  obtain ⟨n, h⟩ := h
  cases n with
  | zero => exact h.elim
  | succ n =>
    obtain ⟨_, _, rfl, rfl, ⟨_, _, rfl, rfl, ⟨_, _, rfl, rfl, ⟨_, _, rfl, ⟨v3, rfl, g3⟩, ⟨v4, rfl, g4⟩⟩⟩⟩⟩ := h
    exact ⟨v3, v4, rfl, g3, Kd.fix_R g4⟩
theorem k36_mk (w : World) (x : S36) {A3 : Option Addr} {c3 : Nat} (l3 : x.f3.length ≤ c3) (g3 : k61.C w A3 x.f3.length x.f3) {A4 : Option Addr} {c4 : Nat} (l4 : x.f4.length ≤ c4) (g4 : k36.C w A4 x.f4.length x.f4) : k36.K w x [.int .i64 x.f0, .int .i64 x.f1, .int .i64 x.f2, .slice A3 x.f3.length c3, .slice A4 x.f4.length c4] := by
  obtain ⟨n4, q4⟩ := Kd.fix_C_back mono36 g4
  have r4 := Kd.upto_C_le mono36 sz36 (show n4 ≤ n4 by omega) q4
  exact ⟨n4 + 1, ⟨[.int .i64 x.f0], [.int .i64 x.f1, .int .i64 x.f2, .slice A3 x.f3.length c3, .slice A4 x.f4.length c4], rfl, rfl, ⟨[.int .i64 x.f1], [.int .i64 x.f2, .slice A3 x.f3.length c3, .slice A4 x.f4.length c4], rfl, rfl, ⟨[.int .i64 x.f2], [.slice A3 x.f3.length c3, .slice A4 x.f4.length c4], rfl, rfl, ⟨[.slice A3 x.f3.length c3], [.slice A4 x.f4.length c4], rfl, ⟨A3, c3, rfl, l3, g3⟩, ⟨A4, c4, rfl, l4, r4⟩⟩⟩⟩⟩⟩
theorem k36_mkM (w : World) (base : Nat) (ok : Nat → Prop) (x : S36) {v3 : Value} (g3 : k61.R 61 w base ok v3 x.f3) {v4 : Value} (g4 : k36.R 36 w base ok v4 x.f4) : k36.M w base ok x [.int .i64 x.f0, .int .i64 x.f1, .int .i64 x.f2, v3, v4] := by
  obtain ⟨n4, q4⟩ := Kd.fix_R_back mono36 g4
  have r4 := Kd.upto_R_le mono36 sz36 (show n4 ≤ n4 by omega) q4
  exact ⟨n4 + 1, ⟨[.int .i64 x.f0], [.int .i64 x.f1, .int .i64 x.f2, v3, v4], rfl, rfl, ⟨[.int .i64 x.f1], [.int .i64 x.f2, v3, v4], rfl, rfl, ⟨[.int .i64 x.f2], [v3, v4], rfl, rfl, ⟨[v3], [v4], rfl, ⟨v3, rfl, g3⟩, ⟨v4, rfl, r4⟩⟩⟩⟩⟩⟩
def rd_T36 (xs : List S36) (i : Int) : S36 := xs.getD i.toNat z36
theorem at_T36 {w : World} {A : Option Addr} {n : Nat} {xs : List S36} (h : Kd.C k36 w A n xs) (i : Int) (h0 : 0 ≤ i) (h1 : i < n) : ∃ ad A3 c3 A4 c4, A = some ad ∧ w.cell? (ad.add (i.toNat * 5)) = some (.int .i64 (rd_T36 xs i).f0) ∧ w.cell? ⟨(ad.add (i.toNat * 5)).block, (ad.add (i.toNat * 5)).off + 1, none⟩ = some (.int .i64 (rd_T36 xs i).f1) ∧ w.cell? ⟨(ad.add (i.toNat * 5)).block, (ad.add (i.toNat * 5)).off + 2, none⟩ = some (.int .i64 (rd_T36 xs i).f2) ∧ w.cell? ⟨(ad.add (i.toNat * 5)).block, (ad.add (i.toNat * 5)).off + 3, none⟩ = some (.slice A3 (rd_T36 xs i).f3.length c3) ∧ w.cell? ⟨(ad.add (i.toNat * 5)).block, (ad.add (i.toNat * 5)).off + 4, none⟩ = some (.slice A4 (rd_T36 xs i).f4.length c4) ∧ (rd_T36 xs i).f3.length ≤ c3 ∧ k61.C w A3 (rd_T36 xs i).f3.length (rd_T36 xs i).f3 ∧ (rd_T36 xs i).f4.length ≤ c4 ∧ k36.C w A4 (rd_T36 xs i).f4.length (rd_T36 xs i).f4 := by
  obtain ⟨ad, c, e, _, hK, hc0⟩ := Kd.C_get h z36 i h0 h1
  have hc : ∀ j u, c[j]? = some u → w.cell? (ad.add (i.toNat * 5 + j)) = some u := hc0
  obtain ⟨A3, c3, A4, c4, rfl, l3, g3, l4, g4⟩ := k36_open hK
  exact ⟨ad, A3, c3, A4, c4, e, hc 0 _ rfl, by rw [← add_field _ _ 1 (by omega)]; exact hc 1 _ rfl, by rw [← add_field _ _ 2 (by omega)]; exact hc 2 _ rfl, by rw [← add_field _ _ 3 (by omega)]; exact hc 3 _ rfl, by rw [← add_field _ _ 4 (by omega)]; exact hc 4 _ rfl, l3, g3, l4, g4⟩

/-- A string's bytes as whole numbers. -/
def numsOf (s : ByteArray) : List Int := s.data.toList.map fun b => (b.toNat : Int)
theorem numsOf_length (s : ByteArray) : (numsOf s).length = s.size := by simp [numsOf]
theorem numsOf_getD (s : ByteArray) (j : Nat) : (numsOf s).getD j 0 = ((s.data.toList.getD j 0).toNat : Int) := by
  simp only [numsOf, List.getD_eq_getElem?_getD, List.getElem?_map]
  cases s.data.toList[j]? <;> rfl
theorem numsOf_rd (s : ByteArray) (i : Int) : rd (numsOf s) i = bt s i := by
  unfold rd bt
  rw [numsOf_getD]
  split
  · rename_i h
    have h' : i.toNat < s.data.toList.length := by simpa using h
    rw [List.getD_eq_getElem?_getD, List.getElem?_eq_getElem h']
    rfl
  · rename_i h
    have h' : s.data.toList.length ≤ i.toNat := by simp; omega
    rw [List.getD_eq_getElem?_getD, List.getElem?_eq_none h']
    rfl
/-- The bytes behind '[]byte(s)' are read. -/
theorem bytesWorld_C (w : World) (e : TypeId) (s : ByteArray) (hn : s.size ≤ 9223372036854775807) : Kd.C (Kd.int .u8) (Lib.bytesWorld w e s) (some ⟨w.heap.size, 0, none⟩) (numsOf s).length (numsOf s) := by
  refine Kd.C_of_reads (d := (0 : Int)) (h1 := fun _ => rfl) ⟨rfl, by rw [numsOf_length]; exact hn, fun _ => ⟨_, rfl, fun j hj => ?_⟩⟩
  rw [add_plain, numsOf_getD]
  exact Lib.bytesWorld_cell w e s j (by rw [numsOf_length] at hj; exact hj)
theorem bytesWorld_below (w : World) (e : TypeId) (s : ByteArray) : Below w.heap.size w (Lib.bytesWorld w e s) :=
  ⟨rfl, rfl, rfl, by rw [Lib.bytesWorld_size]; omega, fun i hi => Lib.bytesWorld_at_old w e s i hi⟩
theorem bytesWorld_cap (w : World) (e : TypeId) (s : ByteArray) : (numsOf s).length ≤ grownCap w s.size 0 e := by rw [numsOf_length]; exact Nat.le_add_right _ _
theorem bel_lower {B B' : Nat} {w w' : World} (h : Below B w w') (hb : B' ≤ B) : Below B' w w' := ⟨h.os, h.tape, h.output, h.size, fun k hk => h.block k (Nat.lt_of_lt_of_le hk hb)⟩
/-- A struct stored whole into a variable in memory. -/
theorem box_store {P : Program} {ops : Array Oper} {rest : List Oper} {o : Oper} {a : Act} {Q : Exit → Act → World → Prop} {W : World} (hgd : o.guard = none) (hN : o.dst = none) {t : TypeId} {p x : Operand} (ho : o.op = .store t p x) {g : Nat} {e : TypeId} {cur new : Array Value}
    (haddr : a.eval p = .pointer (some ⟨g, 0, none⟩)) (hx : a.eval x = .agg new) (hb : W.heap[g]? = some (.cells cur e (0, 0))) (hsz : new.size = cur.size) (ht : (P.info? t).map (·.size) = some new.toList.length) (h1 : ∀ q ∈ new.toList, q.oneCell' = true)
    (h : ∀ w1, w1.heap[g]? = some (.cells new e (0, 0)) → KeepBut W w1 g none → (∀ B, B ≤ g → Below B W w1) → wpList P ops Q rest a w1) : wpList P ops Q (o :: rest) a W := by
  have hl : new.toList.length = cur.size := by rw [Array.length_toList]; exact hsz
  refine wpList_plain hgd fun K hK => ?_
  have hrun : (Instr.storeAt t (.pointer (some ⟨g, 0, none⟩)) (.agg new)).run P W = .ok () (W.setCells g 0 new.toList) := run_store_run t (.agg new) new.toList hb rfl ht (by omega) h1
  unfold Oper.wp execOp
  simp only [ho, haddr, hx, Sem.run_bind, Sem.run_pure, Result.andThen_ok, hrun]
  show K (a.put o.dst undef) _
  rw [hN]
  obtain ⟨s1, s2, s3, s4⟩ := setCells_same g new.toList 0 W
  obtain ⟨cur', c1, c2, c3⟩ := setCells_row new.toList 0 W cur hb (by omega)
  have e1 : cur' = new := by
    apply Array.toList_inj.mp
    rw [c3]
    simp [hl]
  subst e1
  exact hK a _ (h _ c1 ⟨by rw [s4]; exact Nat.le_refl _, fun i _ hi _ => setCells_far _ _ i hi⟩ (fun B hB => ⟨s1, s2, s3, by rw [s4]; exact Nat.le_refl _, fun k hk => setCells_far _ _ k (by omega)⟩))
/-- copy(v, s), v a row of bytes of one's own, at least as long as the string: its first cells are the string's bytes then. -/
theorem R_copy_str {P : Program} {ops : Array Oper} {rest : List Oper} {o : Oper} {a : Act} {Q : Exit → Act → World → Prop} {w0 W : World} (base : Nat) (hgd : o.guard = none) (s x : Operand) (t t' e : TypeId)
    (ho : o.op = .call { callee := .builtin .copy, args := #[s, x], argTypes := #[t, t'] }) (ht : P.underlying t = some (.slice e)) (hinfo : (P.info? e).map (·.size) = some 1)
    (v : Value) (xs : List Int) (b : ByteArray) (ok : Nat → Prop) (hs : a.eval s = v) (hx : a.eval x = .string b) (hle : b.size ≤ xs.length) (hpos : 0 < xs.length)
    (HO : (Kd.int .u8).R e W base ok v xs) (HB : Below base w0 W)
    (h : ∀ w1, (Kd.int .u8).R e w1 base ok v (numsOf b ++ xs.drop b.size) → Below base w0 w1 → wpList P ops Q rest (a.put o.dst (.int .i64 ((b.size : Nat) : Int))) w1) :
    wpList P ops Q (o :: rest) a W := by
  have hown := Kd.own_of_R HO
  rcases hown.2 with ⟨_, hx0⟩ | ⟨g, cap, cur, hv, hb, hh, hnc, hcm, hcs, htake⟩
  · omega
  have hr := Lib.run_copy_row_string (P := P) W t t' o.type e g 0 xs.length cap b cur e ht hinfo hh hle (by omega)
  have hlen : (numsOf b ++ xs.drop b.size).length = xs.length := by
    rw [List.length_append, numsOf_length, List.length_drop]
    omega
  have hbc : Lib.byteCells b.data.toList = encs (Value.int .u8) (numsOf b) := by simp [Lib.byteCells, encs, numsOf]
  have hR : (Kd.int .u8).R e (W.setRow g (cur.toList.take 0 ++ Lib.byteCells b.data.toList ++ cur.toList.drop (0 + b.size)).toArray) base ok v (numsOf b ++ xs.drop b.size) := by
    refine Kd.R_of_own ?_ HO.1
    rw [hlen]
    refine ⟨by rw [encs_length, hlen, Nat.mul_one], .inr ⟨g, cap, _, hv, hb, setRow_heap W g cur _ e (0, 0) hh, hnc, hcm, ?_, ?_⟩⟩
    · simp [hbc, encs, numsOf_length]
      omega
    · rw [List.take_zero, List.nil_append, Nat.zero_add, hbc, encs_append, Nat.mul_one]
      have hl2 : (encs (Value.int .u8) (numsOf b)).length = b.size := by simp [encs, numsOf_length]
      rw [List.take_append, hl2, List.take_of_length_le (by rw [hl2]; omega)]
      congr 1
      have htk : cur.toList.take xs.length = encs (Value.int .u8) xs := by rw [← htake, Nat.mul_one]
      have hd : encs (Value.int .u8) (xs.drop b.size) = (encs (Value.int .u8) xs).drop b.size := by simp [encs, List.map_drop]
      rw [hd, ← htk, List.drop_take]
  refine wpList_plain hgd fun K hK => ?_
  unfold Oper.wp execOp
  simp only [ho, resolve, invoke, builtin, Sem.run_bind, Sem.run_pure, Result.andThen_ok, List.map_toArray, List.map_cons, List.map_nil, hs, hx, hv, hr]
  exact hK _ _ (h _ hR (below_setRow HB hb _))
theorem strOfNums_numsOf (s : ByteArray) : strOfNums (numsOf s) = s := by
  apply ByteArray.ext
  apply Array.toList_inj.mp
  simp only [strOfNums, numsOf, List.map_map]
  have e : ((fun n : Int => UInt8.ofNat n.toNat) ∘ fun b : UInt8 => (b.toNat : Int)) = id := by
    funext b
    simp
  rw [e, List.map_id]
theorem bt_nat (s : ByteArray) (j : Nat) : ∀ h : j < s.size, ((s[j]'h).toNat : Int) = bt s (j : Int) := fun h => by simp [bt, h]

end Go.Proofs.Ytegbajfmhkmolaa.Q
