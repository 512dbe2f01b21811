/- The words, walks and laws that the proof rests on, laid together (part 1). -/
import Derived.Shelf.Small.Utf8
import Derived.Shelf.Small.Strs
import Derived.Shelf.Utf8.AppendRune
import Derived.Shelf.Utf8.AppendRunePlain
import Derived.Shelf.Strconv.Bsearch
import Derived.Shelf.Strconv.IsPrint
import Derived.Shelf.Strconv.IsPrint16
import Derived.Shelf.Strconv.Atoi
import Derived.Shelf.Strconv.Itoa0
import Derived.Shelf.Strconv.Itoa1
import Derived.Shelf.LaysM
import Derived.Shelf.Strconv.Itoa2
import Derived.Shelf.Strconv.Itoa3
import Derived.Shelf.Strconv.AtoiErrFast
import Derived.Shelf.Strconv.ParseIntEmpty
import Derived.Shelf.Strconv.AtoiFail
import Derived.Shelf.Strconv.Clone
import Derived.Shelf.Strconv.SyntaxError
import Derived.Shelf.LaysC
import Derived.Shelf.Strconv.ToError
import Derived.Ground.MnProg
import Derived.Shelf.Bin.LEUint64
import Derived.Shelf.Bin.LEUint64Panics
import Derived.Shelf.Strconv.Lower
import Derived.Shelf.Strconv.ParseUint10
import Derived.Shelf.Strconv.ParseUint10Empty
import Derived.Shelf.Strconv.ParseUint10Any
import Derived.Shelf.Strconv.RangeError
import Derived.Shelf.Strconv.ToErrorRange
import Derived.Shelf.Strconv.ParseUintEmpty
import Derived.Shelf.Strconv.ParseUint10b64
import Derived.Shelf.Strconv.ParseUint10b32
import Derived.Shelf.Strconv.ParseUint10b16
import Derived.Shelf.Strconv.ParseUint10b8
import Derived.Shelf.Strconv.ParseUint10At
import Derived.Ground.MpProg
import Derived.Shelf.Pu.ParseUintPublic10
import Derived.Shelf.Strings.Search1
import Derived.Shelf.Bin.ReadersZ
import Derived.Shelf.Strings.Prefix
import Derived.Shelf.Unicode.Decode
import Derived.Shelf.Unicode.DecodeSlow
import Derived.Shelf.Unicode.DecodeAny
import Derived.Shelf.Bytes.SlIndexAt
import Derived.Shelf.Bytes.IndexByte
import Derived.Test.YtafbdpdbagkbgaaDoorProg
import Derived.Below
import Derived.Deep.Draws
import Derived.Deep.AppendLies
import Derived.Maps.AppendAt
import Derived.OwnWalk
import Derived.Laws.BytesArg
import Derived.Laws.MakeOwn
import Derived.Laws.OwnMore
import Derived.Deep.OwnRows
import Derived.Tactics
import Derived.Lib.ConvBytes
import Derived.Laws.Slices
import Derived.WalkKit
import Derived.KernelRfl
import Derived.RowKit3
import Derived.Deep.LoopGhost
import Derived.Deep.QuietTactic
import Derived.BigQuiet
import Derived.WideLaws
import Derived.Deep.DeepCutAuto
import Derived.Deep.CutBlock
import Derived.Deep.RegionHeld3
import Derived.Laws.Rows
import Derived.Lib.AppendStr
import Derived.ArgAppend
import Derived.Laws.IdiomCopy
import Derived.OrdersHeld
import Derived.Laws.BitsLemmas
import Derived.RowKit
import Derived.Lib.BufferWrite
import Derived.Laws.CopyOwn
import Derived.Lib.Hide
import Derived.LaidEql
import Derived.Laws.StructEq
namespace Go.Proofs
open Go.Shelf
def Tryd.lays137_ren : Go.Shelf.Ren := ⟨fun | 137 => 74 | 217 => 97 | 266 => 115 | n => n, fun | 9 => 9 | 5 => 5 | 3 => 3 | n => n, fun | n => n⟩
theorem Tryd.lays137 : Go.Proofs.Lays.n137 Tryd.prog Tryd.lays137_ren := {
  mixed := by kernel_rfl
  f137 := Tryd.func74.trans (congrArg some (by kernel_rfl))
  f217 := Tryd.func97.trans (congrArg some (by kernel_rfl))
  f266 := Tryd.func115.trans (congrArg some (by kernel_rfl))
  t3 := Tryd.underlying3
  a3 := Tryd.isAgg3
  z3 := Tryd.sizeOf3
  v3 := Tryd.zeroValue3
  t5 := Tryd.underlying5
  a5 := Tryd.isAgg5
  z5 := Tryd.sizeOf5
  v5 := Tryd.zeroValue5
  t9 := Tryd.underlying9
  a9 := Tryd.isAgg9
  z9 := Tryd.sizeOf9
  v9 := Tryd.zeroValue9 }
open Go.RowKit in
theorem Tryd.strings_IndexByte (s : ByteArray) (c : Int) (w : World) :
    Calls Tryd.prog 74 #[.string s, .int .u8 c] w fun e w' => e = .returned (.int .i64 (Lib.indexByte s.data.toList c.toNat.toUInt8)) ∧ w' = w := Any.strings_IndexByte Tryd.lays137 s c w
def Tryd.lays206_ren : Go.Shelf.Ren := ⟨fun | 206 => 73 | n => n, fun | 9 => 9 | 4 => 4 | 3 => 3 | n => n, fun | n => n⟩
theorem Tryd.lays206 : Go.Proofs.Lays.n206 Tryd.prog Tryd.lays206_ren := {
  mixed := by kernel_rfl
  f206 := Tryd.func73.trans (congrArg some (by kernel_rfl))
  t3 := Tryd.underlying3
  a3 := Tryd.isAgg3
  z3 := Tryd.sizeOf3
  v3 := Tryd.zeroValue3
  t4 := Tryd.underlying4
  a4 := Tryd.isAgg4
  z4 := Tryd.sizeOf4
  v4 := Tryd.zeroValue4
  t9 := Tryd.underlying9
  a9 := Tryd.isAgg9
  z9 := Tryd.sizeOf9
  v9 := Tryd.zeroValue9 }
open Go.RowKit Go.Lib in
theorem Tryd.stringslite_HasPrefix (s p : ByteArray) (w : World) :
    Calls Tryd.prog 73 #[.string s, .string p] w fun e w' => e = .returned (.bool (Lib.hasPrefix s.data.toList p.data.toList)) ∧ w' = w := Any.stringslite_HasPrefix Tryd.lays206 s p w
def Tryd.lays99_ren : Go.Shelf.Ren := ⟨fun | 99 => 41 | 206 => 73 | n => n, fun | 9 => 9 | 4 => 4 | 3 => 3 | n => n, fun | n => n⟩
theorem Tryd.lays99 : Go.Proofs.Lays.n99 Tryd.prog Tryd.lays99_ren := {
  mixed := by kernel_rfl
  f99 := Tryd.func41.trans (congrArg some (by kernel_rfl))
  f206 := Tryd.func73.trans (congrArg some (by kernel_rfl))
  t3 := Tryd.underlying3
  a3 := Tryd.isAgg3
  z3 := Tryd.sizeOf3
  v3 := Tryd.zeroValue3
  t4 := Tryd.underlying4
  a4 := Tryd.isAgg4
  z4 := Tryd.sizeOf4
  v4 := Tryd.zeroValue4
  t9 := Tryd.underlying9
  a9 := Tryd.isAgg9
  z9 := Tryd.sizeOf9
  v9 := Tryd.zeroValue9 }
open Go.RowKit Go.Lib in
theorem Tryd.strings_HasPrefix (s p : ByteArray) (w : World) :
    Calls Tryd.prog 41 #[.string s, .string p] w fun e w' => e = .returned (.bool (Lib.hasPrefix s.data.toList p.data.toList)) ∧ w' = w := Any.strings_HasPrefix Tryd.lays99 s p w
def Tryd.lays187_ren : Go.Shelf.Ren := ⟨fun | 187 => 116 | 255 => 129 | n => n, fun | 37 => 59 | 5 => 5 | 3 => 3 | n => n, fun | n => n⟩
theorem Tryd.lays187 : Go.Proofs.Lays.n187 Tryd.prog Tryd.lays187_ren := {
  mixed := by kernel_rfl
  f187 := Tryd.func116.trans (congrArg some (by kernel_rfl))
  f255 := Tryd.func129.trans (congrArg some (by kernel_rfl))
  t3 := Tryd.underlying3
  a3 := Tryd.isAgg3
  z3 := Tryd.sizeOf3
  v3 := Tryd.zeroValue3
  t5 := Tryd.underlying5
  a5 := Tryd.isAgg5
  z5 := Tryd.sizeOf5
  v5 := Tryd.zeroValue5
  t37 := Tryd.underlying59
  a37 := Tryd.isAgg59
  z37 := Tryd.sizeOf59
  v37 := Tryd.zeroValue59 }
theorem Tryd.bytes_IndexByte (b o n c : Nat) (xs : List Int) (cv : Int) (w : World) (hx : xs.length = n) (hc : ∀ i, i < n → w.cell? ⟨b, o + i, none⟩ = some (.int .u8 (xs.getD i 0))) :
    Calls Tryd.prog 116 #[.slice (some ⟨b, o, none⟩) n c, .int .u8 cv] w fun e w' => e = .returned (.int .i64 (Lib.indexByte (Lib.bytesOf xs) cv.toNat.toUInt8)) ∧ w' = w := Any.bytes_IndexByte Tryd.lays187 b o n c xs cv w hx hc
end Go.Proofs
section
set_option linter.unusedVariables false
set_option linter.unusedSimpArgs false
namespace Go.Proofs.YtafbdpdbagkbgaaDoorW.PrintWords
open Go.RowKit

structure Aside0 (p : Prop) : Prop where mk :: (out : p)
structure Drawn0 (w w' : World) : Prop where mk :: (out : ∃ n, w' = w.drewN n)
theorem Drawn0.refl (w : World) : Drawn0 w w := ⟨⟨0, rfl⟩⟩
theorem Drawn0.step {w w' : World} (h : Drawn0 w w') (n : Nat) : Drawn0 w (w'.drewN n) := by
  obtain ⟨m, rfl⟩ := h
  exact ⟨⟨m + n, World.drewN_drewN ..⟩⟩
theorem Drawn0.grown {w w' : World} (h : Drawn0 w w') : Grown w w' := by
  obtain ⟨n, rfl⟩ := h
  induction n with
  | zero => exact Grown.refl _
  | succ n ih => rw [← World.drew_drewN]; exact Grown.drew ih
theorem Drawn0.below {w w' : World} (h : Drawn0 w w') : Below w.heap.size w w' := by
  obtain ⟨n, rfl⟩ := h
  induction n with
  | zero => exact Below.refl _ _
  | succ n ih => rw [← World.drew_drewN]; exact ih.drew


def rd (xs : List Int) (i : Int) : Int := xs.getD i.toNat 0
def bt (s : ByteArray) (i : Int) : Int := if h : i.toNat < s.size then ((s[i.toNat]'h).toNat : Int) else 0
theorem bt_at (s : ByteArray) (i : Int) : ∀ h : i.toNat < s.size, ((s[i.toNat]'h).toNat : Int) = bt s i := fun h => by simp [bt, h]
def nums (k : IntKind) (xs : List Int) : List Value := xs.map fun x => .int k x
theorem below_alloc {w W : World} (h : Below w.heap.size w W) (o : Obj) : Below w.heap.size w (W.alloc o) := h.alloc h.size o
theorem below_drew {B : Nat} {w W : World} (h : Below B w W) : Below B w W.drew := ⟨h.os, h.tape, h.output, h.size, h.block⟩
theorem pw_below_drewN {B : Nat} {w W : World} (h : Below B w W) (n : Nat) : Below B w (W.drewN n) := ⟨h.os, h.tape, h.output, h.size, h.block⟩
theorem below_then {B : Nat} {w w1 w2 : World} (h : Below B w w1) (hB : B ≤ w1.heap.size) (k : Below w1.heap.size w1 w2) : Below B w w2 :=
  h.trans ⟨k.os, k.tape, k.output, k.size, fun i hi => k.block i (Nat.lt_of_lt_of_le hi hB)⟩
theorem grown_of_below {w w1 : World} (h : Below w.heap.size w w1) (row : Option Nat) : w.grownBy w1 row := ⟨h.os, h.tape, h.output, h.size, fun i hi _ => h.block i hi⟩
theorem pw_cell_below {w w1 : World} (h : Below w.heap.size w w1) {a : Addr} {v : Value} (hc : w.cell? a = some v) : w1.cell? a = some v := (h.cell (World.block_lt_of_cell? w a hc)).trans hc

theorem add_plain (g j : Nat) : (⟨g, 0, none⟩ : Addr).add j = ⟨g, j, none⟩ := by unfold Addr.add; split <;> simp_all

def ReadsInt (w : World) (k : IntKind) (A : Option Addr) (n : Nat) (xs : List Int) : Prop :=
  xs.length = n ∧ n ≤ 9223372036854775807 ∧ (0 < n → ∃ ad, A = some ad ∧ ∀ j, j < n → w.cell? (ad.add j) = some (.int k (xs.getD j 0)))
theorem ReadsInt.at_ {w : World} {k : IntKind} {A : Option Addr} {n : Nat} {xs : List Int} (h : ReadsInt w k A n xs) (i : Int) (h0 : 0 ≤ i) (h1 : i < n) : ∃ ad, A = some ad ∧ w.cell? (ad.add i.toNat) = some (.int k (rd xs i)) := by
  obtain ⟨ad, e, hc⟩ := h.2.2 (by omega)
  exact ⟨ad, e, hc _ (by omega)⟩
theorem ReadsInt.below {w w1 : World} {k : IntKind} {A : Option Addr} {n : Nat} {xs : List Int} (h : ReadsInt w k A n xs) (hb : Below w.heap.size w w1) : ReadsInt w1 k A n xs :=
  ⟨h.1, h.2.1, fun hn => by
    obtain ⟨ad, e, hc⟩ := h.2.2 hn
    exact ⟨ad, e, fun j hj => pw_cell_below hb (hc j hj)⟩⟩

theorem own_nil (W : World) (base : Nat) (e : TypeId) (size : Nat) : W.ownsRow base e size (.slice none 0 0) 0 [] := ⟨by simp, .inl ⟨rfl, rfl⟩⟩
theorem own_base {w : World} {base : Nat} {e : TypeId} {size n : Nat} {v : Value} {xs : List Value} (h : w.ownsRow base e size v n xs) (k : Nat) (hk : v.ownBlock = some k) : base ≤ k := by
  rcases h.2 with ⟨rfl, _⟩ | ⟨g, cap, cur, rfl, hb, _⟩
  · simp [Value.ownBlock] at hk
  · have : g = k := by simpa [Value.ownBlock] using hk
    omega
theorem own_lt {w : World} {base : Nat} {e : TypeId} {size n : Nat} {v : Value} {xs : List Value} (h : w.ownsRow base e size v n xs) (k : Nat) (hk : v.ownBlock = some k) : k < w.heap.size := by
  rcases h.2 with ⟨rfl, _⟩ | ⟨g, cap, cur, rfl, hb, hh, _⟩
  · simp [Value.ownBlock] at hk
  · have : g = k := by simpa [Value.ownBlock] using hk
    subst this
    exact (Array.getElem?_eq_some_iff.1 hh).1
theorem pw_own_below {w w1 : World} {base : Nat} {e : TypeId} {size n : Nat} {v : Value} {xs : List Value} (h : w.ownsRow base e size v n xs) (hb : Below w.heap.size w w1) : w1.ownsRow base e size v n xs :=
  h.kept (grown_of_below hb none) (by cases v.ownBlock <;> simp)
theorem own_other {w w1 : World} {base : Nat} {e : TypeId} {size n : Nat} {v : Value} {xs : List Value} (h : w.ownsRow base e size v n xs) {row : Option Nat} (hg : w.grownBy w1 row) (hne : v.ownBlock = none ∨ v.ownBlock ≠ row) : w1.ownsRow base e size v n xs := h.kept hg hne
theorem own_string {P : Program} {w : World} {base n : Nat} {e' src dst e : TypeId} {v : Value} {xs : List Int} (hs : P.underlying src = some (.slice e)) (he : P.underlying e = some (.int .u8)) (hd : P.underlying dst = some .string)
    (h : w.ownsRow base e' 1 v n (nums .u8 xs)) : (convert src dst v).run P w = .ok (.string (strOfNums xs)) w := by
  have hl : xs.length = n := by have := h.1; simp [nums] at this; exact this
  rcases h.2 with ⟨rfl, rfl⟩ | ⟨g, cap, cur, rfl, _⟩
  · obtain rfl : xs = [] := List.eq_nil_of_length_eq_zero hl
    exact run_convert_bytes_nil w src e hs he 0 0 dst hd
  · refine run_convert_bytes_arg w src e hs he g 0 n cap xs hl (fun i hi => ?_) dst hd
    have hc := h.cells (g := g) rfl i (.int .u8 (xs.getD i 0)) (by simp [nums, List.getElem?_eq_getElem (show i < xs.length by omega), List.getD_eq_getElem?_getD])
    have ha : (⟨g, 0, none⟩ : Addr).add i = ⟨g, 0 + i, none⟩ := by unfold Addr.add; split <;> simp_all
    rwa [ha] at hc

section
variable {P : Program} {ops : Array Oper} {rest : List Oper} {o : Oper} {a : Act} {Q : Exit → Act → World → Prop}

end

section
variable {P : Program}
end
section
variable {P : Program} {ops : Array Oper} {rest : List Oper} {o : Oper} {a : Act} {Q : Exit → Act → World → Prop}
end

def bytesOf (s : ByteArray) : List Int := s.data.toList.map fun b => (b.toNat : Int)
theorem data_length (s : ByteArray) : s.data.toList.length = s.size := by rw [Array.length_toList]; rfl
theorem bytesOf_length (s : ByteArray) : (bytesOf s).length = s.size := by rw [bytesOf, List.length_map, data_length]
theorem rd_bytesOf (s : ByteArray) (i : Int) : rd (bytesOf s) i = bt s i := by
  unfold rd bt bytesOf
  split
  · rename_i h
    have h' : i.toNat < s.data.toList.length := by rw [data_length]; exact h
    simp [List.getD_eq_getElem?_getD, List.getElem?_eq_getElem h']
    rfl
  · rename_i h
    have h' : s.data.toList.length ≤ i.toNat := by rw [data_length]; omega
    simp [List.getD_eq_getElem?_getD, List.getElem?_eq_none h']
theorem print_bytes {P : Program} (src dst e : TypeId) {u : TypeDesc} (hs : P.underlying src = some u) (hd : P.underlying dst = some (.slice e)) (he : P.underlying e = some (.int .u8)) (s : ByteArray) (W : World) :
    (convert src dst (.string s)).run P W = .ok (.slice (some ⟨W.heap.size, 0, none⟩) s.size (grownCap W s.size 0 e)) (Lib.bytesWorld W e s) := Lib.run_convert_string_bytes W src dst e s hs hd he
theorem bytes_reads (W : World) (e : TypeId) (s : ByteArray) (hs : s.size ≤ 9223372036854775807) : ReadsInt (Lib.bytesWorld W e s) .u8 (some ⟨W.heap.size, 0, none⟩) s.size (bytesOf s) := by
  refine ⟨bytesOf_length s, hs, fun _ => ⟨_, rfl, fun j hj => ?_⟩⟩
  rw [add_plain, Lib.bytesWorld_cell W e s j hj]
  have h' : j < s.data.toList.length := by rw [data_length]; exact hj
  simp [bytesOf, List.getD_eq_getElem?_getD, List.getElem?_eq_getElem h']
theorem bytes_below {B : Nat} {w W : World} (h : Below B w W) (hB : B ≤ W.heap.size) (e : TypeId) (s : ByteArray) : Below B w (Lib.bytesWorld W e s) :=
  h.trans ⟨rfl, rfl, rfl, by rw [Lib.bytesWorld_size]; omega, fun i hi => Lib.bytesWorld_at_old W e s i (by omega)⟩
theorem ReadsInt.take_ {w : World} {k : IntKind} {A : Option Addr} {n : Nat} {xs : List Int} (h : ReadsInt w k A n xs) (i : Nat) (hi : i ≤ n) : ReadsInt w k A i (xs.take i) := by
  refine ⟨by rw [List.length_take, h.1]; omega, by have := h.2.1; omega, fun hp => ?_⟩
  obtain ⟨ad, e, hc⟩ := h.2.2 (by omega)
  refine ⟨ad, e, fun j hj => ?_⟩
  rw [hc j (by omega)]
  simp [List.getD_eq_getElem?_getD, hj]
theorem ReadsInt.drop_ {w : World} {k : IntKind} {A : Option Addr} {n c : Nat} {xs : List Int} (h : ReadsInt w k A n xs) (i : Nat) (hi : i ≤ n) (hc : n ≤ c) : ReadsInt w k (if c = i then A else A.map (·.add i)) (n - i) (xs.drop i) := by
  refine ⟨by rw [List.length_drop, h.1], by have := h.2.1; omega, fun hp => ?_⟩
  obtain ⟨ad, rfl, hcell⟩ := h.2.2 (by omega)
  rw [if_neg (by omega)]
  refine ⟨ad.add i, rfl, fun j hj => ?_⟩
  have ha : (ad.add i).add j = ad.add (i + j) := by
    unfold Addr.add
    by_cases h1 : i = 0 <;> by_cases h2 : j = 0 <;> simp [h1, h2, Nat.add_assoc]
  rw [ha, hcell (i + j) (by omega)]
  simp [List.getD_eq_getElem?_getD, List.getElem?_drop]
def LeO {α : Type} (a b : Option α) : Prop := ∀ r, a = some r → b = some r
theorem LeO.refl {α : Type} (a : Option α) : LeO a a := fun _ h => h
theorem LeO.none {α : Type} (b : Option α) : LeO Option.none b := fun _ h => by cases h
theorem LeO.trans {α : Type} {a b c : Option α} (h : LeO a b) (k : LeO b c) : LeO a c := fun r hr => k r (h r hr)
theorem LeO.ite {α : Type} {c : Prop} [Decidable c] {a a' b b' : Option α} (h : LeO a a') (k : LeO b b') : LeO (if c then a else b) (if c then a' else b') := by
  split
  · exact h
  · exact k
theorem LeO.bind {α β : Type} {a a' : Option α} {f f' : α → Option β} (h : LeO a a') (k : ∀ x, LeO (f x) (f' x)) : LeO (a.bind f) (a'.bind f') := by
  intro r hr
  obtain ⟨x, hx, hf⟩ := Option.bind_eq_some_iff.1 hr
  exact Option.bind_eq_some_iff.2 ⟨x, h x hx, k x r hf⟩
theorem LeO.map {α β : Type} {a a' : Option α} (f : α → β) (h : LeO a a') : LeO (a.map f) (a'.map f) := by
  intro r hr
  obtain ⟨x, hx, hf⟩ := Option.map_eq_some_iff.1 hr
  exact Option.map_eq_some_iff.2 ⟨x, h x hx, hf⟩
theorem more_rounds {α : Type} {g : Nat → Option α} (h : ∀ k, LeO (g k) (g (k + 1))) (k : Nat) : ∀ j, LeO (g k) (g (k + j))
  | 0 => LeO.refl _
  | j + 1 => (more_rounds h k j).trans (h (k + j))
theorem at_rounds {α : Type} {g : Nat → Option α} (h : ∀ k, LeO (g k) (g (k + 1))) {k k' : Nat} (hk : k ≤ k') {r : α} (hr : g k = some r) : g k' = some r := by
  have := more_rounds h k (k' - k) r hr
  rwa [Nat.add_sub_cancel' hk] at this
def Reps {α : Type} (R : α → List Value → Prop) (size : Nat) (ps : List α) (cs : List Value) : Prop :=
  cs.length = ps.length * size ∧ ∀ j p, ps[j]? = some p → R p ((cs.drop (j * size)).take size)
theorem Reps.none {α : Type} (R : α → List Value → Prop) (size : Nat) : Reps R size [] [] := ⟨by simp, fun j p h => by simp at h⟩
theorem Reps.snoc {α : Type} {R : α → List Value → Prop} {size : Nat} {ps : List α} {cs c : List Value} {p : α} (h : Reps R size ps cs) (hp : R p c) (hc : c.length = size) : Reps R size (ps ++ [p]) (cs ++ c) := by
  refine ⟨by rw [List.length_append, h.1, hc, List.length_append, List.length_singleton, Nat.add_mul, Nat.one_mul], fun j q hq => ?_⟩
  rcases Nat.lt_or_ge j ps.length with hj | hj
  · rw [List.getElem?_append_left hj] at hq
    have h1 : j * size + size ≤ cs.length := by rw [h.1, ← Nat.succ_mul]; exact Nat.mul_le_mul_right _ hj
    have h2 := h.2 j q hq
    rw [List.drop_append_of_le_length (by omega), List.take_append_of_le_length (by rw [List.length_drop]; omega)]
    exact h2
  · have hj' : j = ps.length := by
      have := (List.getElem?_eq_some_iff.1 hq).1
      rw [List.length_append, List.length_singleton] at this
      omega
    subst hj'
    have hq' : p = q := by simpa using hq
    subst hq'
    rw [← h.1, List.drop_left, ← hc, List.take_length]
    exact hp
theorem Reps.imp_ {α : Type} {R R' : α → List Value → Prop} {size : Nat} {ps : List α} {cs : List Value} (h : Reps R size ps cs) (hR : ∀ p c, R p c → R' p c) : Reps R' size ps cs := ⟨h.1, fun j p hj => hR _ _ (h.2 j p hj)⟩

def ReadsRow {α : Type} (R : α → List Value → Prop) (size : Nat) (w : World) (A : Option Addr) (n : Nat) (ps : List α) : Prop :=
  ps.length = n ∧ n ≤ 9223372036854775807 ∧ (0 < n → ∃ ad, A = some ad ∧ ∀ j p, ps[j]? = some p → ∃ c, c.length = size ∧ R p c ∧ ∀ i u, c[i]? = some u → w.cell? (ad.add (j * size + i)) = some u)
theorem ReadsRow.imp_ {α : Type} {R R' : α → List Value → Prop} {size : Nat} {w w1 : World} {A : Option Addr} {n : Nat} {ps : List α} (h : ReadsRow R size w A n ps) (hb : Below w.heap.size w w1) (hR : ∀ p c, R p c → R' p c) : ReadsRow R' size w1 A n ps :=
  ⟨h.1, h.2.1, fun hn => by
    obtain ⟨ad, e, hc⟩ := h.2.2 hn
    refine ⟨ad, e, fun j p hj => ?_⟩
    obtain ⟨c, hs, hr, hcell⟩ := hc j p hj
    exact ⟨c, hs, hR _ _ hr, fun i u hu => pw_cell_below hb (hcell i u hu)⟩⟩
theorem own_reads_row {α : Type} {R : α → List Value → Prop} {w : World} {base n size : Nat} {e : TypeId} {v : Value} {ps : List α} {cs : List Value} (h : w.ownsRow base e size v n cs) (hR : Reps R size ps cs) (hn : ps.length = n) :
    ∃ A c, v = .slice A n c ∧ ReadsRow R size w A n ps := by
  rcases Nat.eq_zero_or_pos n with h0 | h0
  · rcases h.2 with ⟨rfl, rfl⟩ | ⟨g, cap, cur, rfl, _⟩
    · exact ⟨none, 0, rfl, hn, by omega, fun hp => absurd hp (by omega)⟩
    · exact ⟨_, cap, rfl, hn, by omega, fun hp => absurd hp (by omega)⟩
  · obtain ⟨g, cap, rfl, _, _⟩ := h.form h0
    have hm : n ≤ 9223372036854775807 := by
      rcases h.2 with ⟨_, h1⟩ | ⟨g', cap', cur, he, _, _, h1, h2, _⟩
      · omega
      · simp only [maxLen] at h2
        omega
    refine ⟨_, cap, rfl, hn, hm, fun _ => ⟨_, rfl, fun j p hj => ⟨(cs.drop (j * size)).take size, ?_, hR.2 j p hj, fun i u hu => ?_⟩⟩⟩
    · have hjl := (List.getElem?_eq_some_iff.1 hj).1
      have h1 : j * size + size ≤ cs.length := by rw [hR.1, ← Nat.succ_mul]; exact Nat.mul_le_mul_right _ hjl
      rw [List.length_take, List.length_drop]
      omega
    · refine h.cells (g := g) rfl _ u ?_
      rw [List.getElem?_take] at hu
      split at hu
      · rw [List.getElem?_drop] at hu
        exact hu
      · cases hu
section
variable {P : Program} {ops : Array Oper} {rest : List Oper} {o : Oper} {a : Act} {Q : Exit → Act → World → Prop}
theorem print_append_cells {w0 W : World} (base : Nat) (hgd : o.guard = none) (s x : Operand) (t e : TypeId) (z : Value) (size bytes : Nat)
    (ho : o.op = .call { callee := .builtin .append, args := #[s, x], argTypes := #[t, t] })
    (ht : P.underlying t = some (.slice e)) (hinfo : (P.info? e).map (fun i => (i.zero, i.size, i.bytes)) = some (some z, size, bytes)) (hz : z.cells.size = size) (hs0 : 0 < size) (hb0 : 0 < bytes)
    (v : Value) (n : Nat) (xs ys : List Value) (hs : a.eval s = v) (hx : a.eval x = .slice (some ⟨W.heap.size, 0, none⟩) 1 1) (hys : ys.length = size) (h1 : ∀ u ∈ ys, u.oneCell' = true)
    (HO : W.ownsRow base e size v n xs) (HB : Below base w0 W) (hbase : base ≤ W.heap.size) (hl : (n + 1) * bytes ≤ 140737488355328)
    (h : ∀ v1 w1, w1.ownsRow base e size v1 (n + 1) (xs ++ ys) → Below base w0 w1 → W.grownBy w1 v.ownBlock → (v1.ownBlock = v.ownBlock ∨ ∃ b, v1.ownBlock = some b ∧ W.heap.size ≤ b) → wpList P ops Q rest (a.put o.dst v1) w1) :
    wpList P ops Q (o :: rest) a (W.alloc (.cells ys.toArray e)) := by
  obtain ⟨i0, hi, hzz⟩ := Option.map_eq_some_iff.1 hinfo
  simp only [Prod.mk.injEq] at hzz
  obtain ⟨hz0, hz1, hz2⟩ := hzz
  have hlen : n + 1 ≤ 140737488355328 := Nat.le_trans (Nat.le_mul_of_pos_right _ hb0) hl
  refine wpList_append_own_at (W.alloc (.cells ys.toArray e)) hgd s x t ho base e i0 z size bytes ht hi hz0 hz1 hz2 hz hs0 v n xs hs (HO.alloc _) ⟨W.heap.size, 0, none⟩ 1 1 ys hx (by rw [hys]; simp)
    (by simpa using World.news_of_block (cs := ys.toArray) (t := e) (fr := (0, 0)) (heap_alloc_new W (.cells ys.toArray e))) h1 (by simp only [maxLen]; omega) hl (by simp; omega) ?_
  intro v1 w1 hown hg _ hat
  refine h v1 w1 hown ((HB.alloc hbase _).grown hg (by simp; omega) (own_base HO)) (World.grownBy.trans (World.grownBy_alloc W _ _) hg) ?_
  rcases hat with hat | hat
  · exact .inl hat
  · exact .inr ⟨_, hat, by simp⟩
end

theorem own_ne {w : World} {base : Nat} {e t : TypeId} {size n g : Nat} {v : Value} {xs : List Value} {cs : Array Value} (h : w.ownsRow base e size v n xs) (hg : w.heap[g]? = some (.cells cs t (0, 0))) (hne : e ≠ t) : some g ≠ v.ownBlock := by
  rcases h.2 with ⟨rfl, _⟩ | ⟨g', cap, cur, rfl, _, hh, _⟩
  · simp [Value.ownBlock]
  · intro he
    have : g = g' := by simpa [Value.ownBlock] using he
    subst this
    rw [hg] at hh
    injection hh with hh
    injection hh with _ ht
    exact hne ht.symm
theorem own_setCell {w : World} {base : Nat} {e : TypeId} {size n : Nat} {v : Value} {xs : List Value} (h : w.ownsRow base e size v n xs) {p : Addr} (hne : some p.block ≠ v.ownBlock) (u : Value) : (w.setCell p u).ownsRow base e size v n xs := by
  obtain ⟨h1, h2⟩ := h
  refine ⟨h1, ?_⟩
  rcases h2 with h2 | ⟨g, cap, cur, rfl, hg, hh, r⟩
  · exact .inl h2
  · exact .inr ⟨g, cap, cur, rfl, hg, by rw [Below.heap_setCell _ _ _ _ (fun e => hne (by rw [e]; rfl))]; exact hh, r⟩
theorem blk_set {w : World} {g : Nat} {t : TypeId} {cs : Array Value} (h : w.heap[g]? = some (.cells cs t (0, 0))) (i : Nat) (u : Value) : (w.setCell ⟨g, i, none⟩ u).heap[g]? = some (.cells (cs.setIfInBounds i u) t (0, 0)) := by
  simp [World.setCell, Array.getElem?_modify, h]
theorem blk_lt {w : World} {g : Nat} {o : Obj} (h : w.heap[g]? = some o) : g < w.heap.size := (Array.getElem?_eq_some_iff.1 h).1
theorem blk_cell {w : World} {g : Nat} {t : TypeId} {cs : Array Value} (h : w.heap[g]? = some (.cells cs t (0, 0))) (i : Nat) : w.cell? ⟨g, i, none⟩ = cs[i]? := cell_of_row w g i cs t (0, 0) h
theorem blk_frozen {w : World} {g : Nat} {t : TypeId} {cs : Array Value} (h : w.heap[g]? = some (.cells cs t (0, 0))) (i : Nat) : w.frozen? ⟨g, i, none⟩ = false := by simp [World.frozen?, h]
theorem blk_grown {w w1 : World} {g : Nat} {o : Obj} {row : Option Nat} (h : w.heap[g]? = some o) (hg : w.grownBy w1 row) (hne : some g ≠ row) : w1.heap[g]? = some o := (hg.block g (blk_lt h) hne).trans h
def KeepBut (w w' : World) (g : Nat) (row : Option Nat) : Prop := w.heap.size ≤ w'.heap.size ∧ ∀ i, i < w.heap.size → i ≠ g → some i ≠ row → w'.heap[i]? = w.heap[i]?
theorem KeepBut.refl (w : World) (g : Nat) (row : Option Nat) : KeepBut w w g row := ⟨Nat.le_refl _, fun _ _ _ _ => rfl⟩
theorem KeepBut.of_grown {w w1 : World} {row : Option Nat} (h : w.grownBy w1 row) (g : Nat) : KeepBut w w1 g row := ⟨h.size, fun i hi _ hr => h.block i hi hr⟩
theorem KeepBut.of_below {w w1 : World} (h : Below w.heap.size w w1) (g : Nat) (row : Option Nat) : KeepBut w w1 g row := ⟨h.size, fun i hi _ _ => h.block i hi⟩
theorem KeepBut.set_ {w w1 : World} {g : Nat} {row : Option Nat} (h : KeepBut w w1 g row) (j : Nat) (u : Value) : KeepBut w (w1.setCell ⟨g, j, none⟩ u) g row :=
  ⟨by simpa [World.setCell] using h.1, fun i hi hg hr => (Below.heap_setCell w1 ⟨g, j, none⟩ u i hg).trans (h.2 i hi hg hr)⟩
theorem KeepBut.trans {w w1 w2 : World} {g : Nat} {row row1 : Option Nat} (h : KeepBut w w1 g row) (k : KeepBut w1 w2 g row1) (hr : row1 = row ∨ ∃ b, row1 = some b ∧ w.heap.size ≤ b) : KeepBut w w2 g row :=
  ⟨Nat.le_trans h.1 k.1, fun i hi hg hn => by
    refine (k.2 i (Nat.lt_of_lt_of_le hi h.1) hg ?_).trans (h.2 i hi hg hn)
    rcases hr with rfl | ⟨b, rfl, hb⟩
    · exact hn
    · intro e
      injection e with e
      omega⟩
theorem KeepBut.blk {w w1 : World} {g g' : Nat} {row : Option Nat} {o : Obj} (h : KeepBut w w1 g row) (hb : w.heap[g']? = some o) (hg : g' ≠ g) (hr : some g' ≠ row) : w1.heap[g']? = some o := (h.2 g' (blk_lt hb) hg hr).trans hb
theorem KeepBut.own {w w1 : World} {g : Nat} {row : Option Nat} {base : Nat} {e : TypeId} {size n : Nat} {v : Value} {xs : List Value} (h : KeepBut w w1 g row) (ho : w.ownsRow base e size v n xs) (hg : v.ownBlock ≠ some g) (hr : v.ownBlock = none ∨ v.ownBlock ≠ row) : w1.ownsRow base e size v n xs := by
  obtain ⟨h1, h2⟩ := ho
  refine ⟨h1, ?_⟩
  rcases h2 with h2 | ⟨b, cap, cur, rfl, hb, hh, r⟩
  · exact .inl h2
  · refine .inr ⟨b, cap, cur, rfl, hb, h.blk hh ?_ ?_, r⟩
    · intro e
      exact hg (by rw [← e]; rfl)
    · rcases hr with hr | hr
      · simp [Value.ownBlock] at hr
      · exact hr
def Ev {α : Type} (g : Nat → Option α) (r : α) : Prop := ∃ K, ∀ k, K ≤ k → g k = some r
theorem Ev.of {α : Type} {g : Nat → Option α} {r : α} (hg : ∀ k, LeO (g k) (g (k + 1))) {k : Nat} (h : g k = some r) : Ev g r := ⟨k, fun _ hk => at_rounds hg hk h⟩
theorem Ev.now {α : Type} (r : α) : Ev (fun _ => some r) r := ⟨0, fun _ _ => rfl⟩
theorem Ev.rounds {α : Type} {g : Nat → Option α} {r : α} (h : Ev g r) : ∃ k, g k = some r := by
  obtain ⟨K, h⟩ := h
  exact ⟨K, h K (Nat.le_refl _)⟩
theorem Ev.bind {α β : Type} {g : Nat → Option α} {f : Nat → α → Option β} {a : α} {r : β} (h : Ev g a) (k : Ev (fun n => f n a) r) : Ev (fun n => (g n).bind (f n)) r := by
  obtain ⟨K, h⟩ := h
  obtain ⟨K', k⟩ := k
  refine ⟨max K K', fun n hn => ?_⟩
  have h1 := h n (by omega)
  have h2 := k n (by omega)
  simp only [h1, Option.bind_some]
  exact h2
theorem Ev.step {α : Type} {g f : Nat → Option α} {r : α} (h : ∀ k, g (k + 1) = f k) (k : Ev f r) : Ev g r := by
  obtain ⟨K, k⟩ := k
  refine ⟨K + 1, fun n hn => ?_⟩
  obtain ⟨m, rfl⟩ : ∃ m, n = m + 1 := ⟨n - 1, by omega⟩
  rw [h]
  exact k m (by omega)
theorem Ev.congr {α : Type} {g f : Nat → Option α} {r : α} (h : ∀ k, g k = f k) (k : Ev f r) : Ev g r := by
  obtain ⟨K, k⟩ := k
  exact ⟨K, fun n hn => (h n).trans (k n hn)⟩
section
variable {P : Program} {ops : Array Oper} {o : Oper} {a : Act} {Q : Exit → Act → World → Prop} {K : Act → World → Prop}
end
theorem own_weaken {w : World} {base base' : Nat} {e : TypeId} {size n : Nat} {v : Value} {xs : List Value} (h : w.ownsRow base e size v n xs) (hb : base' ≤ base) : w.ownsRow base' e size v n xs := by
  obtain ⟨h1, h2⟩ := h
  refine ⟨h1, ?_⟩
  rcases h2 with h2 | ⟨g, cap, cur, rfl, hg, r⟩
  · exact .inl h2
  · exact .inr ⟨g, cap, cur, rfl, Nat.le_trans hb hg, r⟩
section
variable {α : Type} {enc : α → Value} {d : α}
def encs (enc : α → Value) (xs : List α) : List Value := xs.map enc
def rdOf (d : α) (xs : List α) (i : Int) : α := xs.getD i.toNat d
theorem encs_length (xs : List α) : (encs enc xs).length = xs.length := by simp [encs]
def ReadsOf (enc : α → Value) (d : α) (w : World) (A : Option Addr) (n : Nat) (xs : List α) : Prop :=
  xs.length = n ∧ n ≤ 9223372036854775807 ∧ (0 < n → ∃ ad, A = some ad ∧ ∀ j, j < n → w.cell? (ad.add j) = some (enc (xs.getD j d)))
theorem ReadsOf.at_ {w : World} {A : Option Addr} {n : Nat} {xs : List α} (h : ReadsOf enc d w A n xs) (i : Int) (h0 : 0 ≤ i) (h1 : i < n) : ∃ ad, A = some ad ∧ w.cell? (ad.add i.toNat) = some (enc (rdOf d xs i)) := by
  obtain ⟨ad, e, hc⟩ := h.2.2 (by omega)
  exact ⟨ad, e, hc _ (by omega)⟩
theorem ReadsOf.below {w w1 : World} {A : Option Addr} {n : Nat} {xs : List α} (h : ReadsOf enc d w A n xs) (hb : Below w.heap.size w w1) : ReadsOf enc d w1 A n xs :=
  ⟨h.1, h.2.1, fun hn => by
    obtain ⟨ad, e, hc⟩ := h.2.2 hn
    exact ⟨ad, e, fun j hj => pw_cell_below hb (hc j hj)⟩⟩
theorem ReadsOf.take_ {w : World} {A : Option Addr} {n : Nat} {xs : List α} (h : ReadsOf enc d w A n xs) (i : Nat) (hi : i ≤ n) : ReadsOf enc d w A i (xs.take i) := by
  refine ⟨by rw [List.length_take, h.1]; omega, by have := h.2.1; omega, fun hp => ?_⟩
  obtain ⟨ad, e, hc⟩ := h.2.2 (by omega)
  refine ⟨ad, e, fun j hj => ?_⟩
  rw [hc j (by omega)]
  simp [List.getD_eq_getElem?_getD, hj]
theorem ReadsOf.drop_ {w : World} {A : Option Addr} {n c : Nat} {xs : List α} (h : ReadsOf enc d w A n xs) (i : Nat) (hi : i ≤ n) (hc : n ≤ c) : ReadsOf enc d w (if c = i then A else A.map (·.add i)) (n - i) (xs.drop i) := by
  refine ⟨by rw [List.length_drop, h.1], by have := h.2.1; omega, fun hp => ?_⟩
  obtain ⟨ad, rfl, hcell⟩ := h.2.2 (by omega)
  rw [if_neg (by omega)]
  refine ⟨ad.add i, rfl, fun j hj => ?_⟩
  have ha : (ad.add i).add j = ad.add (i + j) := by
    unfold Addr.add
    by_cases h1 : i = 0 <;> by_cases h2 : j = 0 <;> simp [h1, h2, Nat.add_assoc]
  rw [ha, hcell (i + j) (by omega)]
  simp [List.getD_eq_getElem?_getD, List.getElem?_drop]
theorem print_cut_of {P : Program} (enc : α → Value) (d : α) (t e : TypeId) (kl : IntKind) {i : TypeInfo} (ht : P.underlying t = some (.slice e)) (hi : P.info? e = some i) (hsz : i.size = 1) (A : Option Addr) (n c m : Nat) (hm : m ≤ n) :
    ∃ A' : Option Addr, (∀ W : World, (Instr.slice t (.slice A n c) (some (.int kl (m : Int))) none none).run P W = .ok (.slice A' (n - m) (c - m)) W) ∧
      ∀ (w : World) (xs : List α), n ≤ c → ReadsOf enc d w A n xs → ReadsOf enc d w A' (n - m) (xs.drop m) := by
  refine ⟨if c = m then A else A.map (·.add m), fun W => ?_, fun w xs hc h => h.drop_ m hm hc⟩
  have hel : P.elem t = e := by simp [Program.elem, ht]
  have hu : P.underlying t = some (.slice (P.elem t)) := by rw [hel]; exact ht
  rw [run_slice_l W t A n c hu kl (m : Int) (Int.natCast_nonneg _) (by omega), hel]
  simp [sizeOf, typeInfo, hi, hsz, sliced, Result.andThen]
end
section
variable {α : Type} {P : Program} {ops : Array Oper} {rest : List Oper} {o : Oper} {a : Act} {Q : Exit → Act → World → Prop}
end

theorem blk_alloc {w : World} {g : Nat} {o : Obj} (h : w.heap[g]? = some o) (o' : Obj) : (w.alloc o').heap[g]? = some o := (Below.heap_alloc w o' g (blk_lt h)).trans h
theorem blk_new (w : World) (o : Obj) : (w.alloc o).heap[w.heap.size]? = some o := heap_alloc_new w o
section
variable {P : Program}
end
theorem own_le {w : World} {base n m c size : Nat} {e : TypeId} {A : Option Addr} {xs : List Value} (h : w.ownsRow base e size (.slice A m c) n xs) : m ≤ c := by
  rcases h.2 with ⟨he, _⟩ | ⟨g, cap, cur, he, _, _, hnc, _⟩
  · injection he with _ h2 h3
    omega
  · injection he with _ h2 h3
    omega
def OwnRow {α : Type} (R : α → List Value → Prop) (e : TypeId) (size : Nat) (w : World) (base : Nat) (v : Value) (ps : List α) : Prop :=
  ∃ inner, w.ownsRow base e size v ps.length inner ∧ Reps R size ps inner
section
variable {α : Type} {R R' : α → List Value → Prop} {e : TypeId} {size : Nat} {w w1 : World} {base : Nat} {v : Value} {ps : List α}
theorem OwnRow.none_ (R : α → List Value → Prop) (e : TypeId) (size : Nat) (w : World) (base : Nat) : OwnRow R e size w base (.slice none 0 0) [] := ⟨[], own_nil _ _ _ _, Reps.none _ _⟩
theorem OwnRow.imp_ (h : OwnRow R e size w base v ps) (hR : ∀ p c, R p c → R' p c) : OwnRow R' e size w base v ps := by
  obtain ⟨inner, ho, hr⟩ := h
  exact ⟨inner, ho, hr.imp_ hR⟩
theorem OwnRow.below (h : OwnRow R e size w base v ps) (hb : Below w.heap.size w w1) : OwnRow R e size w1 base v ps := by
  obtain ⟨inner, ho, hr⟩ := h
  exact ⟨inner, pw_own_below ho hb, hr⟩
theorem OwnRow.other (h : OwnRow R e size w base v ps) {row : Option Nat} (hg : w.grownBy w1 row) (hne : v.ownBlock = none ∨ v.ownBlock ≠ row) : OwnRow R e size w1 base v ps := by
  obtain ⟨inner, ho, hr⟩ := h
  exact ⟨inner, own_other ho hg hne, hr⟩
theorem OwnRow.set_ (h : OwnRow R e size w base v ps) {g : Nat} {t : TypeId} {cells : Array Value} (hb : w.heap[g]? = some (.cells cells t (0, 0))) (ht : e ≠ t) (j : Nat) (u : Value) : OwnRow R e size (w.setCell ⟨g, j, none⟩ u) base v ps := by
  obtain ⟨inner, ho, hr⟩ := h
  exact ⟨inner, own_setCell ho (own_ne ho hb ht) u, hr⟩
theorem OwnRow.keep (h : OwnRow R e size w base v ps) {g : Nat} {t : TypeId} {cells : Array Value} (hb : w.heap[g]? = some (.cells cells t (0, 0))) (ht : e ≠ t) (hk : KeepBut w w1 g none) : OwnRow R e size w1 base v ps := by
  obtain ⟨inner, ho, hr⟩ := h
  exact ⟨inner, hk.own ho (Ne.symm (own_ne ho hb ht)) (by cases v.ownBlock <;> simp), hr⟩
theorem OwnRow.reads (h : OwnRow R e size w base v ps) : ∃ A c, v = .slice A ps.length c ∧ ps.length ≤ c ∧ ReadsRow R size w A ps.length ps := by
  obtain ⟨inner, ho, hr⟩ := h
  obtain ⟨A, c, rfl, hrow⟩ := own_reads_row ho hr rfl
  exact ⟨A, c, rfl, own_le ho, hrow⟩
theorem OwnRow.ne_block (h : OwnRow R e size w base v ps) {g : Nat} {t : TypeId} {cells : Array Value} (hb : w.heap[g]? = some (.cells cells t (0, 0))) (ht : e ≠ t) : some g ≠ v.ownBlock := by
  obtain ⟨inner, ho, hr⟩ := h
  exact own_ne ho hb ht
theorem OwnRow.lit (W : World) (base : Nat) {inner : List Value} (hr : Reps R size ps inner) (hb : base ≤ W.heap.size) (hm : ps.length ≤ 9223372036854775807) :
    OwnRow R e size (W.alloc (.cells inner.toArray e)) base (.slice (some ⟨W.heap.size, 0, none⟩) ps.length ps.length) ps := by
  have h := World.ownsRow_lit (base := base) (e := e) (size := size) W inner.toArray ps.length hb (by simpa [maxLen] using hm) (by simpa using hr.1)
  exact ⟨inner, by simpa using h, hr⟩
end
section
variable {P : Program} {ops : Array Oper} {rest : List Oper} {o : Oper} {a : Act} {Q : Exit → Act → World → Prop} {α : Type} {R : α → List Value → Prop}
theorem OwnRow.append {w0 W : World} (base : Nat) (hgd : o.guard = none) (s x : Operand) (t e : TypeId) (z : Value) (size bytes : Nat)
    (ho : o.op = .call { callee := .builtin .append, args := #[s, x], argTypes := #[t, t] })
    (ht : P.underlying t = some (.slice e)) (hinfo : (P.info? e).map (fun i => (i.zero, i.size, i.bytes)) = some (some z, size, bytes)) (hz : z.cells.size = size) (hs0 : 0 < size) (hb0 : 0 < bytes)
    (v : Value) (ps : List α) (p : α) (cs : List Value) (hs : a.eval s = v) (hx : a.eval x = .slice (some ⟨W.heap.size, 0, none⟩) 1 1) (hp : R p cs) (hcs : cs.length = size) (h1 : ∀ u ∈ cs, u.oneCell' = true)
    (HO : OwnRow R e size W base v ps) (HB : Below base w0 W) (hbase : base ≤ W.heap.size) (hl : (ps.length + 1) * bytes ≤ 140737488355328)
    (h : ∀ v1 w1, OwnRow R e size w1 base v1 (ps ++ [p]) → Below base w0 w1 → W.grownBy w1 v.ownBlock → (v1.ownBlock = v.ownBlock ∨ ∃ b, v1.ownBlock = some b ∧ W.heap.size ≤ b) → wpList P ops Q rest (a.put o.dst v1) w1) :
    wpList P ops Q (o :: rest) a (W.alloc (.cells cs.toArray e)) := by
  obtain ⟨inner, hown, hr⟩ := HO
  refine print_append_cells base hgd s x t e z size bytes ho ht hinfo hz hs0 hb0 v ps.length inner cs hs hx hcs h1 hown HB hbase hl ?_
  intro v1 w1 hown1 hb1 hg1 hat1
  exact h v1 w1 ⟨inner ++ cs, by rw [List.length_append, List.length_singleton]; exact hown1, hr.snoc hp hcs⟩ hb1 hg1 hat1
end
section
variable {P : Program} {ops : Array Oper} {o : Oper} {a : Act} {Q : Exit → Act → World → Prop} {K : Act → World → Prop} {α : Type} {R : α → List Value → Prop}
end
theorem ReadsRow.inner_ {α : Type} {R : α → List Value → Prop} {size : Nat} {w : World} {ad : Addr} {n : Nat} {ps : List α} (h : ReadsRow R size w (some ad) n ps) :
    ∃ inner, Reps R size ps inner ∧ ∀ j u, inner[j]? = some u → w.cell? (ad.add j) = some u := by
  have key : ∀ m, m ≤ ps.length → ∃ inner, Reps R size (ps.take m) inner ∧ ∀ j u, inner[j]? = some u → w.cell? (ad.add j) = some u := by
    intro m
    induction m with
    | zero => exact fun _ => ⟨[], Reps.none _ _, fun j u hu => by simp at hu⟩
    | succ m ih =>
      intro hm
      obtain ⟨inner, hr, hc⟩ := ih (by omega)
      obtain ⟨ad', he, hcell⟩ := h.2.2 (by have := h.1; omega)
      injection he with he
      subst he
      obtain ⟨c, hcl, hp, hcc⟩ := hcell m _ (List.getElem?_eq_getElem (show m < ps.length by omega))
      refine ⟨inner ++ c, ?_, fun j u hu => ?_⟩
      · rw [List.take_succ_eq_append_getElem (show m < ps.length by omega)]
        exact hr.snoc hp hcl
      · have hil : inner.length = m * size := by rw [hr.1, List.length_take, Nat.min_eq_left (by omega)]
        rcases Nat.lt_or_ge j inner.length with hj | hj
        · rw [List.getElem?_append_left hj] at hu
          exact hc j u hu
        · rw [List.getElem?_append_right hj] at hu
          have := hcc (j - inner.length) u hu
          rwa [hil, Nat.add_sub_cancel' (by omega)] at this
  obtain ⟨inner, hr, hc⟩ := key ps.length (Nat.le_refl _)
  rw [List.take_length] at hr
  exact ⟨inner, hr, hc⟩
section
variable {α : Type} {P : Program}
theorem print_drop_of (enc : α → Value) (d : α) (t e : TypeId) (kl : IntKind) {i : TypeInfo} (ht : P.underlying t = some (.slice e)) (hi : P.info? e = some i) (hsz : i.size = 1) (A : Option Addr) (c : Nat) (xs : List α) (j : Int) (h0 : 0 ≤ j) (hm : j ≤ xs.length) (hc : xs.length ≤ c) :
    ∃ A' : Option Addr, (∀ W : World, (Instr.slice t (.slice A xs.length c) (some (.int kl j)) none none).run P W = .ok (.slice A' (xs.drop j.toNat).length (c - j.toNat)) W) ∧
      (∀ w : World, ReadsOf enc d w A xs.length xs → ReadsOf enc d w A' (xs.drop j.toNat).length (xs.drop j.toNat)) ∧ (xs.drop j.toNat).length ≤ c - j.toNat := by
  obtain ⟨m, rfl⟩ := Int.eq_ofNat_of_zero_le h0
  simp only [Int.toNat_natCast]
  have hmn : m ≤ xs.length := by omega
  obtain ⟨A', h1, h2⟩ := print_cut_of (P := P) enc d t e kl ht hi hsz A xs.length c m hmn
  have hl : (xs.drop m).length = xs.length - m := List.length_drop
  exact ⟨A', fun W => by rw [hl]; exact h1 W, fun w h => by rw [hl]; exact h2 w xs hc h, by rw [hl]; omega⟩
end

section
variable {P : Program} {ops : Array Oper} {rest : List Oper} {o : Oper} {a : Act} {Q : Exit → Act → World → Prop}
end
structure Kd (α : Type) where
  sz : Nat
  E : List Nat
  K : World → α → List Value → Prop
  M : World → Nat → (Nat → Prop) → α → List Value → Prop
  K_len : ∀ {w x cs}, K w x cs → cs.length = sz
  K_one : ∀ {w x cs}, K w x cs → ∀ u ∈ cs, u.oneCell' = true
  K_below : ∀ {w w1 : World} {x cs}, Below w.heap.size w w1 → K w x cs → K w1 x cs
  K_of_M : ∀ {w base ok x cs}, M w base ok x cs → K w x cs
  M_mono : ∀ {w base ok ok' x cs}, (∀ k, ok k → ok' k) → M w base ok x cs → M w base ok' x cs
  M_bound : ∀ {w : World} {base ok x cs}, M w base ok x cs → M w base (fun k => ok k ∧ base ≤ k ∧ k < w.heap.size ∧ ∃ q, q ∈ E ∧ ∃ cells, w.heap[k]? = some (.cells cells q (0, 0))) x cs
  M_move : ∀ {w w1 : World} {base ok x cs}, (∀ k, ok k → w1.heap[k]? = w.heap[k]?) → M w base ok x cs → M w1 base ok x cs
  M_lower : ∀ {w base base' ok x cs}, base' ≤ base → M w base ok x cs → M w base' ok x cs

theorem own_move {w w1 : World} {base : Nat} {e : TypeId} {size n : Nat} {v : Value} {xs : List Value} (h : w.ownsRow base e size v n xs) (hm : ∀ k, v.ownBlock = some k → w1.heap[k]? = w.heap[k]?) : w1.ownsRow base e size v n xs := by
  obtain ⟨h1, h2⟩ := h
  refine ⟨h1, ?_⟩
  rcases h2 with h2 | ⟨g, cap, cur, rfl, hg, hh, r⟩
  · exact .inl h2
  · exact .inr ⟨g, cap, cur, rfl, hg, (hm g (by simp [Value.ownBlock])).trans hh, r⟩
theorem own_typed {w : World} {base : Nat} {e : TypeId} {size n : Nat} {v : Value} {xs : List Value} (h : w.ownsRow base e size v n xs) (k : Nat) (hk : v.ownBlock = some k) : ∃ cells, w.heap[k]? = some (.cells cells e (0, 0)) := by
  rcases h.2 with ⟨rfl, _⟩ | ⟨g, cap, cur, rfl, hg, hh, r⟩
  · simp [Value.ownBlock] at hk
  · have : g = k := by simpa [Value.ownBlock] using hk
    subst this
    exact ⟨cur, hh⟩

namespace Kd
def C {α : Type} (d : Kd α) (w : World) (A : Option Addr) (n : Nat) (xs : List α) : Prop := ReadsRow (d.K w) d.sz w A n xs
def R {α : Type} (d : Kd α) (e : Nat) (w : World) (base : Nat) (ok : Nat → Prop) (v : Value) (xs : List α) : Prop :=
  (∀ k, v.ownBlock = some k → ok k) ∧ OwnRow (d.M w base (fun k => ok k ∧ some k ≠ v.ownBlock)) e d.sz w base v xs
section
variable {α : Type} {d : Kd α} {e : Nat} {w w1 : World} {base : Nat} {ok ok' : Nat → Prop} {v : Value} {xs : List α}
theorem C_below {A : Option Addr} {n : Nat} (h : d.C w A n xs) (hb : Below w.heap.size w w1) : d.C w1 A n xs := ReadsRow.imp_ h hb (fun _ _ hp => d.K_below hb hp)
theorem R_nil (d : Kd α) (e : Nat) (w : World) (base : Nat) (ok : Nat → Prop) : d.R e w base ok (.slice none 0 0) [] := ⟨fun k hk => by simp [Value.ownBlock] at hk, OwnRow.none_ _ _ _ _ _⟩
theorem R_mono (h : d.R e w base ok v xs) (hok : ∀ k, ok k → ok' k) : d.R e w base ok' v xs := ⟨fun k hk => hok k (h.1 k hk), h.2.imp_ (fun _ _ hp => d.M_mono (fun k hk => ⟨hok k hk.1, hk.2⟩) hp)⟩
theorem R_bound (h : d.R e w base ok v xs) : d.R e w base (fun k => ok k ∧ base ≤ k ∧ k < w.heap.size ∧ ∃ q, q ∈ e :: d.E ∧ ∃ cells, w.heap[k]? = some (.cells cells q (0, 0))) v xs := by
  obtain ⟨h0, inner, ho, hr⟩ := h
  refine ⟨fun k hk => ?_, inner, ho, hr.imp_ (fun _ _ hp => d.M_mono (fun k hk => ?_) (d.M_bound hp))⟩
  · obtain ⟨cells, hc⟩ := own_typed ho k hk
    exact ⟨h0 k hk, own_base ho k hk, own_lt ho k hk, e, List.mem_cons_self, cells, hc⟩
  · obtain ⟨⟨h1, h2⟩, h3, h4, q, hq, hc⟩ := hk
    exact ⟨⟨h1, h3, h4, q, List.mem_cons_of_mem _ hq, hc⟩, h2⟩
theorem R_move (h : d.R e w base ok v xs) (hm : ∀ k, ok k → w1.heap[k]? = w.heap[k]?) : d.R e w1 base ok v xs := by
  obtain ⟨h0, inner, ho, hr⟩ := h
  exact ⟨h0, inner, own_move ho (fun k hk => hm k (h0 k hk)), hr.imp_ (fun _ _ hp => d.M_move (fun k hk => hm k hk.1) hp)⟩
theorem R_lower {base' : Nat} (h : d.R e w base ok v xs) (hb : base' ≤ base) : d.R e w base' ok v xs := by
  obtain ⟨h0, inner, ho, hr⟩ := h
  exact ⟨h0, inner, own_weaken ho hb, hr.imp_ (fun _ _ hp => d.M_lower hb hp)⟩
theorem R_step (h : d.R e w base ok v xs) (hm : ∀ k, ok k → k < w.heap.size → w1.heap[k]? = w.heap[k]?) : d.R e w1 base ok v xs :=
  R_mono (R_move (R_bound h) (fun k hk => hm k hk.1 hk.2.2.1)) (fun _ hk => hk.1)
theorem M_step {x : α} {cs : List Value} (h : d.M w base ok x cs) (hm : ∀ k, ok k → k < w.heap.size → w1.heap[k]? = w.heap[k]?) : d.M w1 base ok x cs :=
  d.M_mono (fun _ hk => hk.1) (d.M_move (fun k hk => hm k hk.1 hk.2.2.1) (d.M_bound h))
theorem R_below (h : d.R e w base ok v xs) (hb : Below w.heap.size w w1) : d.R e w1 base ok v xs := R_step h (fun k _ hk => hb.block k hk)
theorem M_below {x : α} {cs : List Value} (h : d.M w base ok x cs) (hb : Below w.heap.size w w1) : d.M w1 base ok x cs := M_step h (fun k _ hk => hb.block k hk)
theorem R_types (h : d.R e w base ok v xs) {g t : Nat} {cells : Array Value} (hb : w.heap[g]? = some (.cells cells t (0, 0))) (ht : ∀ q, q ∈ e :: d.E → q ≠ t) : d.R e w base (fun k => ok k ∧ k ≠ g) v xs :=
  R_mono (R_bound h) (fun k hk => ⟨hk.1, by
    obtain ⟨_, _, _, q, hq, cells', hc⟩ := hk
    rintro rfl
    rw [hc] at hb
    injection hb with hb
    injection hb with _ hb
    exact ht q hq hb⟩)
theorem R_reads (h : d.R e w base ok v xs) : ∃ A c, v = .slice A xs.length c ∧ xs.length ≤ c ∧ d.C w A xs.length xs := by
  obtain ⟨A, c, he, hl, hr⟩ := OwnRow.reads h.2
  exact ⟨A, c, he, hl, hr.imp_ (Below.refl _ _) (fun _ _ hp => d.K_of_M hp)⟩
theorem R_slice (h : d.R e w base ok v xs) : ∃ A c, v = .slice A xs.length c := by
  obtain ⟨A, c, he, _⟩ := R_reads h
  exact ⟨A, c, he⟩
theorem R_own (h : d.R e w base ok v xs) : ∃ inner, w.ownsRow base e d.sz v xs.length inner := by
  obtain ⟨_, inner, ho, _⟩ := h
  exact ⟨inner, ho⟩
theorem R_ne (h : d.R e w base ok v xs) {g t : Nat} {cells : Array Value} (hb : w.heap[g]? = some (.cells cells t (0, 0))) (ht : e ≠ t) : some g ≠ v.ownBlock := OwnRow.ne_block h.2 hb ht
end

def scalar {α : Type} (enc : α → Value) (h1 : ∀ x, (enc x).oneCell' = true) : Kd α where
  sz := 1
  E := []
  K := fun _ x cs => cs = [enc x]
  M := fun _ _ _ x cs => cs = [enc x]
  K_len := fun h => by rw [h]; rfl
  K_one := fun h u hu => by
    rw [h] at hu
    rw [List.mem_singleton.1 hu]
    exact h1 _
  K_below := fun _ h => h
  K_of_M := fun h => h
  M_mono := fun _ h => h
  M_bound := fun h => h
  M_move := fun _ h => h
  M_lower := fun _ h => h
def int (k : IntKind) : Kd Int := scalar (Value.int k) (fun _ => rfl)
def bool : Kd Bool := scalar Value.bool (fun _ => rfl)
def string : Kd ByteArray := scalar Value.string (fun _ => rfl)
def slice {α : Type} (e : Nat) (d : Kd α) : Kd (List α) where
  sz := 1
  E := e :: d.E
  K := fun w xs cs => ∃ A c, cs = [.slice A xs.length c] ∧ xs.length ≤ c ∧ d.C w A xs.length xs
  M := fun w base ok xs cs => ∃ v, cs = [v] ∧ d.R e w base ok v xs
  K_len := by
    rintro w x cs ⟨A, c, rfl, _⟩
    rfl
  K_one := by
    rintro w x cs ⟨A, c, rfl, _⟩ u hu
    rw [List.mem_singleton.1 hu]
    rfl
  K_below := by
    rintro w w1 x cs hb ⟨A, c, rfl, hl, hr⟩
    exact ⟨A, c, rfl, hl, C_below hr hb⟩
  K_of_M := by
    rintro w base ok x cs ⟨v, rfl, h⟩
    obtain ⟨A, c, rfl, hl, hr⟩ := R_reads h
    exact ⟨A, c, rfl, hl, hr⟩
  M_mono := by
    rintro w base ok ok' x cs hok ⟨v, rfl, h⟩
    exact ⟨v, rfl, R_mono h hok⟩
  M_bound := by
    rintro w base ok x cs ⟨v, rfl, h⟩
    exact ⟨v, rfl, R_bound h⟩
  M_move := by
    rintro w w1 base ok x cs hm ⟨v, rfl, h⟩
    exact ⟨v, rfl, R_move h hm⟩
  M_lower := by
    rintro w base base' ok x cs hb ⟨v, rfl, h⟩
    exact ⟨v, rfl, R_lower h hb⟩
def bot {α : Type} (sz : Nat) (E : List Nat) : Kd α where
  sz := sz
  E := E
  K := fun _ _ _ => False
  M := fun _ _ _ _ _ => False
  K_len := fun h => h.elim
  K_one := fun h => h.elim
  K_below := fun _ h => h
  K_of_M := fun h => h
  M_mono := fun _ h => h
  M_bound := fun h => h
  M_move := fun _ h => h
  M_lower := fun _ h => h
def upto {α : Type} (F : Kd α → Kd α) (sz : Nat) (E : List Nat) : Nat → Kd α
  | 0 => bot sz E
  | n + 1 => F (upto F sz E n)
theorem R_appended {α : Type} {d : Kd α} {e base : Nat} {ok okp : Nat → Prop} {W w1 : World} {v v1 : Value} {xs : List α} {p : α} {inner cs : List Value} (h0 : ∀ k, v.ownBlock = some k → ok k) (hr : Reps (d.M W base (fun k => ok k ∧ some k ≠ v.ownBlock)) d.sz xs inner) (hp : d.M W base okp p cs) (hokp : ∀ k, okp k → ok k ∧ some k ≠ v.ownBlock) (hfresh : ∀ k, W.heap.size ≤ k → ok k)
    (hown : w1.ownsRow base e d.sz v1 (xs.length + 1) (inner ++ cs)) (hg : W.grownBy w1 v.ownBlock) (hat : v1.ownBlock = v.ownBlock ∨ ∃ b, v1.ownBlock = some b ∧ W.heap.size ≤ b) : d.R e w1 base ok v1 (xs ++ [p]) := by
  have hne : ∀ k, some k ≠ v.ownBlock → k < W.heap.size → some k ≠ v1.ownBlock := by
    intro k hk hlt
    rcases hat with hat | ⟨b, hb, hle⟩
    · rw [hat]; exact hk
    · rw [hb]
      intro he
      injection he with he
      omega
  have step : ∀ {q : α} {c : List Value} {o : Nat → Prop}, d.M W base o q c → (∀ k, o k → ok k ∧ some k ≠ v.ownBlock) → d.M w1 base (fun k => ok k ∧ some k ≠ v1.ownBlock) q c := by
    intro q c o hq ho
    have h1 := d.M_move (w1 := w1) (fun k hk => hg.block k hk.2.2.1 (ho k hk.1).2) (d.M_bound hq)
    exact d.M_mono (fun k hk => ⟨(ho k hk.1).1, hne k (ho k hk.1).2 hk.2.2.1⟩) h1
  refine ⟨fun k hk => ?_, inner ++ cs, by rw [List.length_append, List.length_singleton]; exact hown, ?_⟩
  · rcases hat with hat | ⟨b, hb, hle⟩
    · exact h0 k (hat ▸ hk)
    · rw [hb] at hk
      injection hk with hk
      exact hfresh k (by omega)
  · exact (hr.imp_ (fun _ _ hq => step hq (fun _ hk => hk))).snoc (step hp hokp) (d.K_len (d.K_of_M hp))
section
variable {P : Program} {ops : Array Oper} {rest : List Oper} {o : Oper} {a : Act} {Q : Exit → Act → World → Prop} {α : Type}
theorem R_append (d : Kd α) {w0 W : World} (base : Nat) (hgd : o.guard = none) (s x : Operand) (t e : TypeId) (z : Value) (bytes : Nat)
    (ho : o.op = .call { callee := .builtin .append, args := #[s, x], argTypes := #[t, t] })
    (ht : P.underlying t = some (.slice e)) (hinfo : (P.info? e).map (fun i => (i.zero, i.size, i.bytes)) = some (some z, d.sz, bytes)) (hz : z.cells.size = d.sz) (hs0 : 0 < d.sz) (hb0 : 0 < bytes)
    (v : Value) (xs : List α) (p : α) (cs : List Value) (ok okp : Nat → Prop) (hs : a.eval s = v) (hx : a.eval x = .slice (some ⟨W.heap.size, 0, none⟩) 1 1) (hp : d.M W base okp p cs) (hokp : ∀ k, okp k → ok k ∧ some k ≠ v.ownBlock) (hfresh : ∀ k, W.heap.size ≤ k → ok k)
    (HO : d.R e W base ok v xs) (HB : Below base w0 W) (hbase : base ≤ W.heap.size) (hl : (xs.length + 1) * bytes ≤ 140737488355328)
    (h : ∀ v1 w1, d.R e w1 base ok v1 (xs ++ [p]) → Below base w0 w1 → W.grownBy w1 v.ownBlock → (v1.ownBlock = v.ownBlock ∨ ∃ b, v1.ownBlock = some b ∧ W.heap.size ≤ b) → wpList P ops Q rest (a.put o.dst v1) w1) :
    wpList P ops Q (o :: rest) a (W.alloc (.cells cs.toArray e)) := by
  obtain ⟨h0, inner, hown, hr⟩ := HO
  refine print_append_cells base hgd s x t e z d.sz bytes ho ht hinfo hz hs0 hb0 v xs.length inner cs hs hx (d.K_len (d.K_of_M hp)) (d.K_one (d.K_of_M hp)) hown HB hbase hl ?_
  intro v1 w1 hown1 hb1 hg1 hat1
  exact h v1 w1 (R_appended h0 hr hp hokp hfresh hown1 hg1 hat1) hb1 hg1 hat1
end
section
variable {P : Program} {ops : Array Oper} {o : Oper} {a : Act} {Q : Exit → Act → World → Prop} {Kc : Act → World → Prop} {α : Type}
end
theorem own_of_R {α : Type} {enc : α → Value} {h1 : ∀ x, (enc x).oneCell' = true} {e : Nat} {w : World} {base : Nat} {ok : Nat → Prop} {v : Value} {xs : List α} (h : (scalar enc h1).R e w base ok v xs) : w.ownsRow base e 1 v xs.length (encs enc xs) := by
  obtain ⟨_, inner, ho, hr⟩ := h
  have : inner = encs enc xs := by
    apply List.ext_getElem?
    intro j
    rcases Nat.lt_or_ge j xs.length with hj | hj
    · have h2 := hr.2 j _ (List.getElem?_eq_getElem hj)
      have hl : j < inner.length := by have := hr.1; simp [scalar] at this; omega
      have h3 : (inner.drop (j * 1)).take 1 = [enc xs[j]] := h2
      rw [Nat.mul_one, List.drop_eq_getElem_cons hl] at h3
      have h4 : inner[j] = enc xs[j] := by
        have h5 := congrArg List.head? h3
        rw [List.take_succ_cons] at h5
        exact Option.some.inj h5
      rw [List.getElem?_eq_getElem hl, h4]
      simp [encs, List.getElem?_eq_getElem hj]
    · have h3 : inner.length = xs.length := by have := hr.1; simp [scalar] at this; omega
      rw [List.getElem?_eq_none (by omega), List.getElem?_eq_none (by rw [encs_length]; omega)]
  rw [← this]
  exact ho
theorem C_of_reads {α : Type} {enc : α → Value} {d : α} {h1 : ∀ x, (enc x).oneCell' = true} {w : World} {A : Option Addr} {n : Nat} {xs : List α} (h : ReadsOf enc d w A n xs) : (scalar enc h1).C w A n xs := by
  refine ⟨h.1, h.2.1, fun hn => ?_⟩
  obtain ⟨ad, e, hc⟩ := h.2.2 hn
  refine ⟨ad, e, fun j p hj => ⟨[enc p], rfl, rfl, fun i u hu => ?_⟩⟩
  obtain ⟨hl, hp⟩ := List.getElem?_eq_some_iff.1 hj
  have h2 := hc j (by have := h.1; omega)
  rw [List.getD_eq_getElem?_getD, hj] at h2
  cases i with
  | zero =>
    have : enc p = u := by simpa using hu
    subst this
    simpa [scalar] using h2
  | succ i => simp at hu
theorem reads_of_C {α : Type} {enc : α → Value} {d : α} {h1 : ∀ x, (enc x).oneCell' = true} {w : World} {A : Option Addr} {n : Nat} {xs : List α} (h : (scalar enc h1).C w A n xs) : ReadsOf enc d w A n xs := by
  refine ⟨h.1, h.2.1, fun hn => ?_⟩
  obtain ⟨ad, e, hc⟩ := h.2.2 hn
  refine ⟨ad, e, fun j hj => ?_⟩
  have hl : j < xs.length := by have := h.1; omega
  obtain ⟨c, _, hK, hcell⟩ := hc j _ (List.getElem?_eq_getElem hl)
  have hK' : c = [enc xs[j]] := hK
  subst hK'
  have := hcell 0 _ rfl
  simpa [scalar, List.getD_eq_getElem?_getD, List.getElem?_eq_getElem hl] using this
end Kd
namespace Kd
structure Mono {α β : Type} (F : Kd α → Kd β) : Prop where
  sz : ∀ d d' : Kd α, d.sz = d'.sz → (F d).sz = (F d').sz
  K : ∀ d d' : Kd α, d.sz = d'.sz → (∀ w x cs, d.K w x cs → d'.K w x cs) → ∀ w x cs, (F d).K w x cs → (F d').K w x cs
  M : ∀ d d' : Kd α, d.sz = d'.sz → (∀ w base ok x cs, d.M w base ok x cs → d'.M w base ok x cs) → ∀ w base ok x cs, (F d).M w base ok x cs → (F d').M w base ok x cs
section
variable {α : Type} {F : Kd α → Kd α} {sz : Nat} {E : List Nat} {hs : ∀ n, (upto F sz E n).sz = sz} {hE : ∀ n q, q ∈ (upto F sz E n).E → q ∈ E}
end
end Kd
namespace Kd
theorem R_after {α : Type} {d : Kd α} {e base : Nat} {ok : Nat → Prop} {W w1 : World} {u v v1 : Value} {xs : List α} (h : d.R e W base (fun k => ok k ∧ some k ≠ v.ownBlock) u xs) (hg : W.grownBy w1 v.ownBlock) (hat : v1.ownBlock = v.ownBlock ∨ ∃ b, v1.ownBlock = some b ∧ W.heap.size ≤ b) : d.R e w1 base (fun k => ok k ∧ some k ≠ v1.ownBlock) u xs := by
  refine R_mono (R_move (R_bound h) (fun k hk => hg.block k hk.2.2.1 hk.1.2)) (fun k hk => ⟨hk.1.1, ?_⟩)
  rcases hat with hat | ⟨b, hb, hle⟩
  · rw [hat]; exact hk.1.2
  · rw [hb]
    intro he
    injection he with he
    have := hk.2.2.1
    omega
end Kd
namespace Kd
section
variable {α β : Type} {d : Kd α} {d' : Kd β} {e e' : Nat} {w w1 W : World} {base b b' : Nat} {ok ok' okv oku : Nat → Prop} {v u : Value} {xs : List α} {ys : List β}
theorem R_alloc (h : d.R e w base ok v xs) (o : Obj) : d.R e (w.alloc o) base ok v xs := R_below h (below_alloc (Below.refl _ _) o)
theorem R_drew (h : d.R e w base ok v xs) : d.R e w.drew base ok v xs := R_below h (below_drew (Below.refl _ _))
theorem R_drewN (h : d.R e w base ok v xs) (m : Nat) : d.R e (w.drewN m) base ok v xs := R_below h (pw_below_drewN (Below.refl _ _) m)
theorem C_alloc {A : Option Addr} {n : Nat} (h : d.C w A n xs) (o : Obj) : d.C (w.alloc o) A n xs := C_below h (below_alloc (Below.refl _ _) o)
theorem C_drew {A : Option Addr} {n : Nat} (h : d.C w A n xs) : d.C w.drew A n xs := C_below h (below_drew (Below.refl _ _))
theorem C_drewN {A : Option Addr} {n : Nat} (h : d.C w A n xs) (m : Nat) : d.C (w.drewN m) A n xs := C_below h (pw_below_drewN (Below.refl _ _) m)
theorem C_nil (d : Kd α) (w : World) : d.C w none ([] : List α).length [] := ⟨rfl, by simp, fun h => absurd h (Nat.lt_irrefl 0)⟩
theorem R_reads' {A : Option Addr} {n c : Nat} (h : d.R e w base ok (.slice A n c) xs) : n = xs.length ∧ n ≤ c ∧ d.C w A xs.length xs := by
  obtain ⟨A', c', he, hl, hr⟩ := R_reads h
  injection he with h1 h2 h3
  subst h1
  exact ⟨h2, by omega, hr⟩
theorem R_lt (h : d.R e w base ok v xs) : ∀ k, v.ownBlock = some k → k < w.heap.size := by
  obtain ⟨inner, ho⟩ := R_own h
  exact own_lt ho
theorem R_base (h : d.R e w base ok v xs) : ∀ k, v.ownBlock = some k → base ≤ k := by
  obtain ⟨inner, ho⟩ := R_own h
  exact own_base ho
end
section
variable {w W : World} {A : Option Addr} {n : Nat}
theorem at_int {k : IntKind} {xs : List Int} (h : (Kd.int k).C w A n xs) (i : Int) (h0 : 0 ≤ i) (h1 : i < n) : ∃ ad, A = some ad ∧ w.cell? (ad.add i.toNat) = some (.int k (rd xs i)) :=
  ReadsOf.at_ (reads_of_C (enc := Value.int k) (d := (0 : Int)) (h1 := fun _ => rfl) h) i h0 h1
theorem at_string {xs : List ByteArray} (h : Kd.string.C w A n xs) (i : Int) (h0 : 0 ≤ i) (h1 : i < n) : ∃ ad, A = some ad ∧ w.cell? (ad.add i.toNat) = some (.string (rdOf ByteArray.empty xs i)) :=
  ReadsOf.at_ (reads_of_C (enc := Value.string) (d := ByteArray.empty) (h1 := fun _ => rfl) h) i h0 h1
variable {α : Type} {enc : α → Value} {h1 : ∀ x, (enc x).oneCell' = true} {e base g cap : Nat} {ok : Nat → Prop} {xs : List α}
end

section
variable {P : Program} {ops : Array Oper} {rest : List Oper} {o : Oper} {a : Act} {Q : Exit → Act → World → Prop}
theorem event_run {W w1 : World} {v : Value} (hgd : o.guard = none) (hrun : (execOp a.eval o).run P W = .ok (.value v) w1) (h : wpList P ops Q rest (a.put o.dst v) w1) : wpList P ops Q (o :: rest) a W := by
  refine wpList_plain hgd fun K hK => ?_
  unfold Oper.wp
  rw [hrun]
  exact hK _ _ h
variable {α : Type}
theorem R_lit (d : Kd α) {w0 W : World} (base e : Nat) (hgd : o.guard = none) {N : Tmp} (_hd : o.dst = some N) {xs : List α} {inner : List Value} {ok okp : Nat → Prop}
    (hrun : (execOp a.eval o).run P W = .ok (.value (.slice (some ⟨W.heap.size, 0, none⟩) xs.length xs.length)) (W.alloc (.cells inner.toArray e)))
    (hrep : Reps (d.M W base okp) d.sz xs inner) (hok : ∀ k, okp k → ok k) (hfresh : ok W.heap.size) (HB : Below base w0 W) (hbase : base ≤ W.heap.size) (hm : xs.length ≤ 9223372036854775807)
    (h : ∀ v1 w1, d.R e w1 base ok v1 xs → Below base w0 w1 → W.grownBy w1 none → (∃ b, v1.ownBlock = some b ∧ W.heap.size ≤ b) → wpList P ops Q rest (a.put o.dst v1) w1) : wpList P ops Q (o :: rest) a W := by
  refine event_run hgd hrun (h _ _ ⟨fun k hk => ?_, inner, ?_, ?_⟩ (HB.alloc hbase _) (World.grownBy_alloc W _ none) ⟨W.heap.size, by simp [Value.ownBlock], Nat.le_refl _⟩)
  · have : W.heap.size = k := by simpa [Value.ownBlock] using hk
    subst this
    exact hfresh
  · have h2 := World.ownsRow_lit (base := base) (e := e) (size := d.sz) W inner.toArray xs.length hbase (by simpa [maxLen] using hm) (by simpa using hrep.1)
    simpa using h2
  · refine hrep.imp_ (fun p c hp => d.M_mono (fun k hk => ⟨hok k hk.1, fun he => ?_⟩) (M_below (d.M_bound hp) (below_alloc (Below.refl _ _) _)))
    have h3 : k = W.heap.size := by simpa [Value.ownBlock] using he
    have := hk.2.2.1
    omega
end
end Kd
section
variable {P : Program}
end
def QRow (w : World) (base : Nat) (e : TypeId) (size : Nat) (v : Value) (n : Nat) (xs : List Value) : Prop :=
  xs.length = n * size ∧
  ((n = 0 ∧ ∃ A, v = .slice A 0 0 ∧ ∀ a, A = some a → base ≤ a.block ∧ ∃ cur, w.heap[a.block]? = some (.cells cur e (0, 0))) ∨
   ∃ g off cap cur, v = .slice (some ⟨g, off * size, none⟩) n cap ∧ base ≤ g ∧ w.heap[g]? = some (.cells cur e (0, 0)) ∧ n ≤ cap ∧ off + cap ≤ maxLen ∧ cur.size = (off + cap) * size ∧ (cur.toList.drop (off * size)).take (n * size) = xs)
section
variable {w w1 : World} {base n size : Nat} {e : TypeId} {v : Value} {xs : List Value}
theorem q_of_own (h : w.ownsRow base e size v n xs) : QRow w base e size v n xs := by
  obtain ⟨h1, h2⟩ := h
  refine ⟨h1, ?_⟩
  rcases h2 with ⟨rfl, h0⟩ | ⟨g, cap, cur, rfl, hb, hh, hnc, hcm, hcs, ht⟩
  · exact .inl ⟨h0, none, rfl, fun a ha => by cases ha⟩
  · exact .inr ⟨g, 0, cap, cur, by rw [Nat.zero_mul], hb, hh, hnc, by rw [Nat.zero_add]; exact hcm, by rw [Nat.zero_add]; exact hcs, by rw [Nat.zero_mul, List.drop_zero]; exact ht⟩
theorem add_at (g o j : Nat) : (⟨g, o, none⟩ : Addr).add j = ⟨g, o + j, none⟩ := by unfold Addr.add; split <;> simp_all
end
section
variable {P : Program}
end
namespace Kd
def Q {α : Type} (d : Kd α) (e : Nat) (w : World) (base : Nat) (ok : Nat → Prop) (v : Value) (xs : List α) : Prop :=
  (∀ k, v.ownBlock = some k → ok k) ∧ ∃ inner, QRow w base e d.sz v xs.length inner ∧ Reps (d.M w base (fun k => ok k ∧ some k ≠ v.ownBlock)) d.sz xs inner
section
variable {α : Type} {d : Kd α} {e : Nat} {w w1 W : World} {base : Nat} {ok ok' : Nat → Prop} {v : Value} {xs : List α}
theorem Q_of_R (h : d.R e w base ok v xs) : d.Q e w base ok v xs := by
  obtain ⟨h0, inner, ho, hr⟩ := h
  exact ⟨h0, inner, q_of_own ho, hr⟩
theorem Q_nil (d : Kd α) (e : Nat) (w : World) (base : Nat) (ok : Nat → Prop) : d.Q e w base ok (.slice none 0 0) [] := Q_of_R (R_nil d e w base ok)
end
section
variable {P : Program} {ops : Array Oper} {rest : List Oper} {o : Oper} {a : Act} {Q' : Exit → Act → World → Prop} {Kc : Act → World → Prop} {α : Type}
end
end Kd
namespace Kd
section
variable {α : Type} {d : Kd α} {e e' : Nat} {w w1 W : World} {base : Nat} {ok : Nat → Prop} {u v : Value} {xs : List α}
theorem R_elder' (hu : d.R e W base ok u xs) (hbase : ∀ k, v.ownBlock = some k → W.heap.size ≤ k) (hb : Below W.heap.size W w1) : d.R e w1 base (fun k => ok k ∧ some k ≠ v.ownBlock) u xs :=
  R_mono (R_move (R_bound hu) (fun k hk => hb.block k hk.2.2.1)) (fun k hk => ⟨hk.1, fun he => by have := hbase k he.symm; have := hk.2.2.1; omega⟩)
theorem R_new' (h : d.R e w1 W.heap.size ok v xs) (hlt : ∀ k, u.ownBlock = some k → k < W.heap.size) : d.R e w1 W.heap.size (fun k => ok k ∧ some k ≠ u.ownBlock) v xs :=
  R_mono (R_bound h) (fun k hk => ⟨hk.1, fun he => by have := hlt k he.symm; have := hk.2.1; omega⟩)

theorem fresh' (hlt : ∀ k, u.ownBlock = some k → k < W.heap.size) : ∀ k, W.heap.size ≤ k → some k ≠ u.ownBlock := fun k hk he => by have := hlt k he.symm; omega
end
end Kd
namespace Kd
section
variable {α : Type} {d : Kd α} {e base g n cap : Nat} {ok okp : Nat → Prop} {W : World} {xs : List α}
end
end Kd
namespace Kd
section
variable {α : Type} {F : Kd α → Kd α} {sz : Nat} {E : List Nat} {hs : ∀ n, (upto F sz E n).sz = sz} {hE : ∀ n q, q ∈ (upto F sz E n).E → q ∈ E}
end
end Kd
namespace Kd
theorem reps_append {α : Type} {R : α → List Value → Prop} {size : Nat} {ps qs : List α} {cs ds : List Value} (h : Reps R size ps cs) (h' : Reps R size qs ds) : Reps R size (ps ++ qs) (cs ++ ds) := by
  refine ⟨by rw [List.length_append, List.length_append, h.1, h'.1, Nat.add_mul], fun j p hj => ?_⟩
  rcases Nat.lt_or_ge j ps.length with hlt | hge
  · rw [List.getElem?_append_left hlt] at hj
    have hle : j * size + size ≤ cs.length := by rw [h.1, ← Nat.succ_mul]; exact Nat.mul_le_mul_right _ hlt
    rw [List.drop_append_of_le_length (by omega), List.take_append_of_le_length (by rw [List.length_drop]; omega)]
    exact h.2 j p hj
  · rw [List.getElem?_append_right hge] at hj
    have h2 := h'.2 (j - ps.length) p hj
    have hle : ps.length * size ≤ j * size := Nat.mul_le_mul_right _ hge
    rw [List.drop_append, List.drop_eq_nil_of_le (by rw [h.1]; exact hle), List.nil_append, h.1, ← Nat.sub_mul]
    exact h2
section
variable {P : Program} {ops : Array Oper} {rest : List Oper} {o : Oper} {a : Act} {Q : Exit → Act → World → Prop} {α : Type}
theorem R_append_rows (d : Kd α) {Rr : α → List Value → Prop} {w0 W : World} (base : Nat) (hgd : o.guard = none) (s x : Operand) (t e : TypeId) (z : Value) (bytes : Nat)
    (ho : o.op = .call { callee := .builtin .append, args := #[s, x], argTypes := #[t, t] })
    (ht : P.underlying t = some (.slice e)) (hinfo : (P.info? e).map (fun i => (i.zero, i.size, i.bytes)) = some (some z, d.sz, bytes)) (hz : z.cells.size = d.sz) (hs0 : 0 < d.sz) (hb0 : 0 < bytes)
    (v : Value) (xs ys : List α) (A : Option Addr) (m c : Nat) (ok okp : Nat → Prop) (hs : a.eval s = v) (hx : a.eval x = .slice A m c)
    (HO : d.R e W base ok v xs) (HR : ReadsRow Rr d.sz W A m ys) (hKM : ∀ x cs, Rr x cs → d.M W base okp x cs) (hokp : ∀ k, okp k → ok k ∧ some k ≠ v.ownBlock) (hfresh : ∀ k, W.heap.size ≤ k → ok k)
    (HB : Below base w0 W) (hbase : base ≤ W.heap.size) (hl : (xs.length + m) * bytes ≤ 140737488355328)
    (h : ∀ v1 w1, d.R e w1 base ok v1 (xs ++ ys) → Below base w0 w1 → W.grownBy w1 v.ownBlock → (v1.ownBlock = v.ownBlock ∨ ∃ b, v1.ownBlock = some b ∧ W.heap.size ≤ b) → wpList P ops Q rest (a.put o.dst v1) w1) :
    wpList P ops Q (o :: rest) a W := by
  obtain ⟨i0, hi, hzz⟩ := Option.map_eq_some_iff.1 hinfo
  simp only [Prod.mk.injEq] at hzz
  obtain ⟨hz0, hz1, hz2⟩ := hzz
  have hm : ys.length = m := HR.1
  have hlen : xs.length + m ≤ 140737488355328 := Nat.le_trans (Nat.le_mul_of_pos_right _ hb0) hl
  obtain ⟨hok, inner, hown, hr⟩ := HO
  have hrun : ∃ v1 w1, (Builtin.append_ #[t, t] o.type #[v, .slice A m c]).run P W = .ok v1 w1 ∧ d.R e w1 base ok v1 (xs ++ ys) ∧ W.grownBy w1 v.ownBlock ∧ (v1.ownBlock = v.ownBlock ∨ ∃ b, v1.ownBlock = some b ∧ W.heap.size ≤ b) := by
    rcases A with _ | ad
    · have h0 : m = 0 := by
        rcases Nat.eq_zero_or_pos m with h0 | h0
        · exact h0
        · obtain ⟨ad, h, _⟩ := HR.2.2 h0
          cases h
      subst h0
      obtain rfl : ys = [] := List.eq_nil_of_length_eq_zero hm
      refine ⟨v, W, ?_, by rw [List.append_nil]; exact ⟨hok, inner, hown, hr⟩, World.grownBy.refl W _, .inl rfl⟩
      rcases hown.2 with ⟨rfl, hn⟩ | ⟨g, cap, cur, rfl, _, _, hnc, _⟩
      · simp [Builtin.append_, run_underlying ht, sizeOf, typeInfo, hi, Builtin.lenOf, Builtin.firstCells]
      · simp [Builtin.append_, run_underlying ht, sizeOf, typeInfo, hi, Builtin.lenOf, Builtin.firstCells, hnc, storeCells]
    · obtain ⟨news, hnr, hnc⟩ := ReadsRow.inner_ HR
      have hnM : Reps (d.M W base okp) d.sz ys news := hnr.imp_ (fun p c hp => hKM p c hp)
      have hone : ∀ u ∈ news, u.oneCell' = true := by
        intro u hu
        obtain ⟨q, hq, rfl⟩ := List.mem_iff_getElem.1 hu
        have hql : q / d.sz < ys.length := by
          rw [Nat.div_lt_iff_lt_mul hs0]
          rw [← hnM.1]
          exact hq
        have hc := hnM.2 (q / d.sz) _ (List.getElem?_eq_getElem hql)
        refine d.K_one (d.K_of_M hc) _ ?_
        rw [List.mem_iff_getElem?]
        refine ⟨q % d.sz, ?_⟩
        rw [List.getElem?_take, if_pos (Nat.mod_lt _ hs0), List.getElem?_drop, Nat.mul_comm, Nat.div_add_mod, List.getElem?_eq_getElem hq]
      obtain ⟨v1, w1, hrun, h2, hg, _, hat⟩ := run_append_own_at (P := P) W base t o.type e i0 z d.sz bytes ht hi hz0 hz1 hz2 hz hs0 v xs.length inner hown ad m c news (by rw [hnM.1, hm]) hnc hone (by simp only [maxLen]; omega) hl hbase
      have hat' : v1.ownBlock = v.ownBlock ∨ ∃ b, v1.ownBlock = some b ∧ W.heap.size ≤ b := by
        rcases hat with hat | hat
        · exact .inl hat
        · exact .inr ⟨_, hat, Nat.le_refl _⟩
      have hne : ∀ k, some k ≠ v.ownBlock → k < W.heap.size → some k ≠ v1.ownBlock := by
        intro k hk hlt
        rcases hat' with hat | ⟨b, hb, hle⟩
        · rw [hat]; exact hk
        · rw [hb]
          intro he
          injection he with he
          omega
      have step : ∀ {q : α} {c : List Value} {o : Nat → Prop}, d.M W base o q c → (∀ k, o k → ok k ∧ some k ≠ v.ownBlock) → d.M w1 base (fun k => ok k ∧ some k ≠ v1.ownBlock) q c := by
        intro q c o hq ho
        have h1 := d.M_move (w1 := w1) (fun k hk => hg.block k hk.2.2.1 (ho k hk.1).2) (d.M_bound hq)
        exact d.M_mono (fun k hk => ⟨(ho k hk.1).1, hne k (ho k hk.1).2 hk.2.2.1⟩) h1
      refine ⟨v1, w1, hrun, ⟨fun k hk => ?_, inner ++ news, by rw [List.length_append, hm]; exact h2, reps_append (hr.imp_ (fun _ _ hq => step hq (fun _ hk => hk))) (hnM.imp_ (fun _ _ hq => step hq hokp))⟩, hg, hat'⟩
      rcases hat' with hat | ⟨b, hb, hle⟩
      · exact hok k (hat ▸ hk)
      · rw [hb] at hk
        injection hk with hk
        exact hfresh k (by omega)
  obtain ⟨v1, w1, hr1, h1, hg, hat⟩ := hrun
  refine wpList_plain hgd fun K hK => ?_
  unfold Oper.wp execOp
  simp only [ho, resolve, invoke, builtin, Sem.run_bind, Sem.run_pure, Result.andThen_ok, List.map_toArray, List.map_cons, List.map_nil, hs, hx, hr1]
  exact hK _ _ (h v1 w1 h1 (HB.grown hg hbase (own_base hown)) hg hat)
end
end Kd
namespace Kd
section
variable {P : Program} {ops : Array Oper} {rest : List Oper} {o : Oper} {a : Act} {Q : Exit → Act → World → Prop} {α : Type}
end
end Kd
namespace Kd
section
variable {α : Type} {k : Kd α} {w : World} {A : Option Addr} {xs : List α} {m c : Nat}
end
end Kd
section
variable {P : Program}
end
theorem string_of_reads {P : Program} {w : World} {src dst e : TypeId} {A : Option Addr} {n c : Nat} {xs : List Int} (hs : P.underlying src = some (.slice e)) (he : P.underlying e = some (.int .u8)) (hd : P.underlying dst = some .string)
    (h : ReadsInt w .u8 A n xs) : (convert src dst (.slice A n c)).run P w = .ok (.string (strOfNums xs)) w := by
  have hn : xs.length = n := h.1
  rcases A with _ | ad
  · have h0 : n = 0 := by
      rcases Nat.eq_zero_or_pos n with h0 | h0
      · exact h0
      · obtain ⟨ad, h', _⟩ := h.2.2 h0
        cases h'
    subst h0
    obtain rfl : xs = [] := List.eq_nil_of_length_eq_zero hn
    exact run_convert_bytes_nil w src e hs he 0 c dst hd
  · have hl : (loadCells ad n).run P w = .ok (xs.map (Value.int .u8)).toArray w := by
      have := run_loadCells_list (P := P) w ad (xs.map (Value.int .u8)) (fun j v hj => by
        have hjl : j < xs.length := by
          rcases Nat.lt_or_ge j xs.length with h' | h'
          · exact h'
          · rw [List.getElem?_eq_none (by rw [List.length_map]; exact h')] at hj
            cases hj
        obtain ⟨ad', he', hc⟩ := h.2.2 (by omega)
        injection he' with he'
        subst he'
        rw [hc j (by omega)]
        rw [List.getElem?_map, List.getElem?_eq_getElem hjl] at hj
        simp at hj
        subst hj
        simp [List.getD_eq_getElem?_getD, List.getElem?_eq_getElem hjl])
      simpa [hn] using this
    rw [run_convert_bytes_string w src dst e _ n c hs he hd, run_bytesToString w ad n c xs hl, foldl_push_bytes]
    simp [strOfNums, ByteArray.empty, ByteArray.emptyWithCapacity]
    rfl
theorem Kd.C_string {P : Program} {w : World} {src dst e : TypeId} {A : Option Addr} {n c : Nat} {xs : List Int} (hs : P.underlying src = some (.slice e)) (he : P.underlying e = some (.int .u8)) (hd : P.underlying dst = some .string)
    (h : (Kd.int .u8).C w A n xs) : (convert src dst (.slice A n c)).run P w = .ok (.string (strOfNums xs)) w :=
  string_of_reads hs he hd (Kd.reads_of_C (enc := Value.int .u8) (d := (0 : Int)) (h1 := fun _ => rfl) h)
theorem below_size {w W : World} (h : Below w.heap.size w W) : w.heap.size ≤ W.heap.size := h.size
theorem below_step {w W w2 : World} (h : Below w.heap.size w W) (k : Below W.heap.size W w2) : Below w.heap.size w w2 := below_then h h.size k
theorem ReadsInt.nil (W : World) (k : IntKind) : ReadsInt W k none ([] : List Int).length [] := ⟨rfl, by simp, fun h => absurd h (Nat.lt_irrefl 0)⟩
theorem ReadsInt.drewN {W : World} {k : IntKind} {A : Option Addr} {n : Nat} {xs : List Int} (h : ReadsInt W k A n xs) (m : Nat) : ReadsInt (W.drewN m) k A n xs := h
theorem below_set {w W : World} {g j : Nat} {v : Value} (h : Below w.heap.size w W) (hg : w.heap.size ≤ g) : Below w.heap.size w (W.setCell ⟨g, j, none⟩ v) := h.setCell hg _
theorem keep_drewN {w W : World} {g : Nat} {row : Option Nat} (h : KeepBut w W g row) (m : Nat) : KeepBut w (W.drewN m) g row := h
theorem keep_alloc {w W : World} {g : Nat} (h : KeepBut w W g none) (o : Obj) : KeepBut w (W.alloc o) g none := h.trans (KeepBut.of_grown (World.grownBy_alloc W o none) g) (.inl rfl)
theorem keep_cell {w W : World} {g : Nat} (h : KeepBut w W g none) {a : Addr} {v : Value} (hc : w.cell? a = some v) (hne : a.block ≠ g) : W.cell? a = some v := by
  have := h.2 a.block (World.block_lt_of_cell? w a hc) hne (by simp)
  simpa [World.cell?, this] using hc
theorem add_block (a : Addr) (i : Nat) : (a.add i).block = a.block := by unfold Addr.add; split <;> rfl
theorem ReadsOf.nil {α : Type} (enc : α → Value) (d : α) (W : World) : ReadsOf enc d W none ([] : List α).length [] := ⟨rfl, by simp, fun h => absurd h (Nat.lt_irrefl 0)⟩
theorem ReadsOf.drewN {α : Type} {enc : α → Value} {d : α} {W : World} {A : Option Addr} {n : Nat} {xs : List α} (h : ReadsOf enc d W A n xs) (m : Nat) : ReadsOf enc d (W.drewN m) A n xs := h
theorem ReadsInt.keep {w W : World} {k : IntKind} {A : Option Addr} {n g : Nat} {xs : List Int} (h : ReadsInt w k A n xs) (hk : KeepBut w W g none) (hf : ∀ ad, A = some ad → 0 < n → ad.block ≠ g) : ReadsInt W k A n xs :=
  ⟨h.1, h.2.1, fun hn => by
    obtain ⟨ad, e, hc⟩ := h.2.2 hn
    exact ⟨ad, e, fun j hj => keep_cell hk (hc j hj) (by rw [add_block]; exact hf ad e hn)⟩⟩
theorem ReadsOf.keep {α : Type} {enc : α → Value} {d : α} {w W : World} {A : Option Addr} {n g : Nat} {xs : List α} (h : ReadsOf enc d w A n xs) (hk : KeepBut w W g none) (hf : ∀ ad, A = some ad → 0 < n → ad.block ≠ g) : ReadsOf enc d W A n xs :=
  ⟨h.1, h.2.1, fun hn => by
    obtain ⟨ad, e, hc⟩ := h.2.2 hn
    exact ⟨ad, e, fun j hj => keep_cell hk (hc j hj) (by rw [add_block]; exact hf ad e hn)⟩⟩
theorem below_drew1 {base : Nat} {w W : World} (h : Below base w W) : Below base w W.drew := h.drew
theorem keep_drew {w W : World} {g : Nat} {row : Option Nat} (h : KeepBut w W g row) : KeepBut w W.drew g row := h
namespace Kd
section
variable {α β : Type} {d : Kd α} {d' : Kd β} {e e' base base' n : Nat} {ok ok' : Nat → Prop} {w W w1 W1 : World} {v u : Value} {xs : List α} {ys : List β} {A : Option Addr} {c : Nat}
end
section
variable {α : Type} {enc : α → Value} {h1 : ∀ x, (enc x).oneCell' = true} {w W : World} {A : Option Addr} {n g : Nat} {xs : List α}
end
end Kd
namespace Kd
section
variable {α : Type} {d : Kd α} {e base g : Nat} {ok : Nat → Prop} {w w1 : World} {v : Value} {xs : List α} {o : Obj}
end
end Kd
section
variable {P : Program} {ops : Array Oper} {rest : List Oper} {o : Oper} {a : Act} {Q : Exit → Act → World → Prop}
end
namespace Kd
section
variable {α : Type} {enc : α → Value} {h1 : ∀ x, (enc x).oneCell' = true} {e base g n cap : Nat} {ok : Nat → Prop} {W : World} {xs : List α}
end
end Kd
section
variable {P : Program} {ops : Array Oper} {rest : List Oper} {o : Oper} {a : Act} {Q : Exit → Act → World → Prop}
end
namespace Kd
section
variable {α : Type} {enc : α → Value} {h1 : ∀ x, (enc x).oneCell' = true} {e base g n cap : Nat} {ok : Nat → Prop} {W : World} {xs : List α}
end
end Kd
section
variable {P : Program} {ops : Array Oper} {rest : List Oper} {o : Oper} {a : Act} {Q : Exit → Act → World → Prop} {W : World}
theorem gate_dst {N : Tmp} (_hN : o.dst = some N) (h : wpList P ops Q (o :: rest) a W) : wpList P ops Q (o :: rest) a W := h
end
section
variable {P : Program} {ops : Array Oper} {o : Oper} {a : Act} {Q : Exit → Act → World → Prop} {Kc : Act → World → Prop}
namespace Kd
variable {α : Type}
end Kd
end
inductive Vals (P : Program) (tmps : Array Value) (w : World) : List ResultVar → List Value → Prop where
  | nil : Vals P tmps w [] []
  | tmp {u : Tmp} {rs : List ResultVar} {vs : List Value} (h : Vals P tmps w rs vs) : Vals P tmps w (.tmp u :: rs) (tmps.getD u undef :: vs)
  | cell {p : Tmp} {ty : TypeId} {rs : List ResultVar} {vs : List Value} (g : Nat) (t : TypeId) (cs : Array Value) (fr : Nat × Nat) (d : TypeDesc)
      (hp : tmps.getD p undef = .pointer (some ⟨g, 0, none⟩)) (hg : w.heap[g]? = some (.cells cs t fr))
      (hu : P.underlying ty = some d) (hd : (match d with | .struct _ | .array _ _ => true | _ => false) = true) (hi : (P.info? ty).map (·.size) = some cs.size)
      (h : Vals P tmps w rs vs) : Vals P tmps w (.cell p ty :: rs) (.agg cs :: vs)
section
variable {P : Program} {tmps : Array Value} {w : World}
end
namespace Kd
section
variable {P : Program} {α : Type}
end
section
variable {P : Program} {ops : Array Oper} {rest : List Oper} {o : Oper} {a : Act} {Q : Exit → Act → World → Prop} {Kc : Act → World → Prop} {α : Type}
end
end Kd

end Go.Proofs.YtafbdpdbagkbgaaDoorW.PrintWords
end
section
namespace Go.Proofs.YtafbdpdbagkbgaaDoorW.PrintLast

section
variable {P : Program} {ops : Array Oper} {Q : Exit → Act → World → Prop} {md : Region.Mode} {S : World → Prop} {ds : List Nat}

def Region.reachB (md : Region.Mode) (ops : Array Oper) (i : Nat) : Nat → Nat → Bool
  | 0, _ => false
  | fuel + 1, d => match ops[d]? with
    | some o => o.after.any fun e => Region.binds md e && (e.on == i || Region.reachB md ops i fuel e.on)
    | none => false

def Region.closedB (md : Region.Mode) (ops : Array Oper) (listed : Array Bool) : Bool :=
  (List.range ops.size).all fun j => !listed.getD j false || match ops[j]? with
    | some o => o.after.all fun e => !Region.binds md e || listed.getD e.on false
    | none => true

def Region.lastB (md : Region.Mode) (ops : Array Oper) (listed : Array Bool) (ds : List Nat) (i : Nat) : Bool :=
  ds.all fun d => listed.getD d true || Region.reachB md ops i ops.size d

def ListedClosed (md : Region.Mode) (ops : Array Oper) (listed : Array Bool) : Prop :=
  ∀ j oj, ops[j]? = some oj → listed.getD j false = true → ∀ e ∈ oj.after, Region.binds md e = true → listed.getD e.on false = true

theorem Region.closedB_spec {listed : Array Bool} (h : Region.closedB md ops listed = true) : ListedClosed md ops listed := by
  intro j oj hj hl e he hb
  have hlt : j < ops.size := (Array.getElem?_eq_some_iff.1 hj).1
  have h1 := List.all_eq_true.1 h j (List.mem_range.2 hlt)
  simp only [hl, hj, Bool.not_true, Bool.false_or] at h1
  have h2 := Array.all_eq_true_iff_forall_mem.1 h1 e he
  simpa [hb] using h2

theorem ListedClosed.set {listed : Array Bool} {i : Nat} (h : ListedClosed md ops listed) (hi : i ∈ Region.ready md ops listed) : ListedClosed md ops (listed.setIfInBounds i true) := by
  obtain ⟨_, oi, hoi, hall⟩ := mem_ready.1 hi
  intro j oj hj hl e he hb
  by_cases hij : i = j
  · subst hij
    have : oj = oi := Option.some.inj (hj.symm.trans hoi)
    subst this
    exact getD_set_true (hall e he hb)
  · rw [getD_set_ne false hij] at hl
    exact getD_set_true (h j oj hj hl e he hb)

theorem Region.reach_listed {listed : Array Bool} {i : Nat} (hc : ListedClosed md ops listed) : ∀ (fuel d : Nat), Region.reachB md ops i fuel d = true → listed.getD d false = true → listed.getD i false = true
  | 0, _, h, _ => by simp [Region.reachB] at h
  | fuel + 1, d, h, hl => by
    unfold Region.reachB at h
    cases ho : ops[d]? with
    | none => rw [ho] at h; simp at h
    | some o =>
      rw [ho] at h
      obtain ⟨e, he, h1⟩ := Array.any_eq_true'.1 h
      simp only [Bool.and_eq_true, Bool.or_eq_true, beq_iff_eq] at h1
      have hle := hc d o ho hl e he h1.1
      rcases h1.2 with h2 | h2
      · rw [← h2]; exact hle
      · exact Region.reach_listed hc fuel e.on h2 hle

theorem Region.reach_not_ready {listed : Array Bool} {i d fuel : Nat} (hc : ListedClosed md ops listed) (hr : Region.reachB md ops i fuel d = true) (hun : listed.getD i true = false) : d ∉ Region.ready md ops listed := by
  intro hd
  obtain ⟨_, o, ho, hall⟩ := mem_ready.1 hd
  have hi : listed.getD i false = true := by
    cases fuel with
    | zero => simp [Region.reachB] at hr
    | succ n =>
      unfold Region.reachB at hr
      rw [ho] at hr
      obtain ⟨e, he, h1⟩ := Array.any_eq_true'.1 hr
      simp only [Bool.and_eq_true, Bool.or_eq_true, beq_iff_eq] at h1
      have hle := hall e he h1.1
      rcases h1.2 with h2 | h2
      · rw [← h2]; exact hle
      · exact Region.reach_listed hc n e.on h2 hle
  rcases Nat.lt_or_ge i listed.size with h' | h'
  · simp [h'] at hun hi
    rw [hun] at hi
    cases hi
  · simp [Array.getElem?_eq_none h'] at hun

def wpAnyLast (P : Program) (md : Region.Mode) (ops : Array Oper) (Q : Exit → Act → World → Prop) (S : World → Prop) (ds : List Nat) : Nat → Array Bool → Act → World → Prop
  | 0, listed, a, w => Region.ready md ops listed = [] ∧ Q .normal a w
  | fuel + 1, listed, a, w =>
    (Region.ready md ops listed = [] → Q .normal a w) ∧
    ∀ i ∈ Region.ready md ops listed, wpOp P ops Q i (fun a' w' => (i ∉ ds → S w → S w') ∧ wpAnyLast P md ops Q S ds fuel (listed.setIfInBounds i true) a' w') a w

theorem wpAny_of_last : ∀ (fuel : Nat) (listed : Array Bool) (a : Act) (w : World), wpAnyLast P md ops Q S ds fuel listed a w → wpAny P md ops Q fuel listed a w
  | 0, _, _, _, h => h
  | fuel + 1, _, _, _, h => ⟨h.1, fun i hi => wpOp_mono (fun a' w' h' => wpAny_of_last fuel _ a' w' h'.2) (h.2 i hi)⟩

theorem wpAnyLast_first {i : Nat} {oi : Oper} {v : Value} (hi : ops[i]? = some oi) (hsel : ∀ (j : Nat) (o : Oper) cs b, ops[j]? = some o → o.op ≠ .select cs b)
    (hQ : ∀ c a w, Q (.panic c) (a.put oi.dst v) w → Q (.panic c) a w) (n : Nat) :
    ∀ (fuel : Nat) (listed : Array Bool) (a : Act) (w : World),
      (∀ j oj, ops[j]? = some oj → j ≠ i → listed.getD j true = false → (∀ e ∈ oj.after, Region.binds md e = true → e.on ≠ i) → oi.apart ops oj = true) →
      ListedClosed md ops listed → (∀ d ∈ ds, listed.getD d true = false → Region.reachB md ops i n d = true) →
      i ∈ Region.ready md ops listed → YieldsIf P ops S oi v a → S w →
      wpAnyLast P md ops Q S ds fuel (listed.setIfInBounds i true) (a.put oi.dst v) w → wpAnyLast P md ops Q S ds (fuel + 1) listed a w := by
  intro fuel
  induction fuel with
  | zero =>
    intro listed a w _ _ _ hr hy hS H
    refine ⟨fun h => (by rw [h] at hr; cases hr), fun j hj => ?_⟩
    by_cases hji : j = i
    · subst hji; exact hy.wpOp hi hS ⟨fun _ h => h, H⟩
    · have := ready_mono hj hji
      rw [H.1] at this
      cases this
  | succ fuel ih =>
    intro listed a w hfree hc hd hr hy hS H
    refine ⟨fun h => (by rw [h] at hr; cases hr), fun j hj => ?_⟩
    by_cases hji : j = i
    · subst hji; exact hy.wpOp hi hS ⟨fun _ h => h, H⟩
    · have h1 := H.2 j (ready_mono hj hji)
      obtain ⟨hjun, oj, hoj, hall⟩ := mem_ready.1 hj
      have hiun := (mem_ready.1 hr).1
      have hnot : ∀ e ∈ oj.after, Region.binds md e = true → e.on ≠ i := fun e he hb heq => by
        have h1 := hall e he hb
        rw [heq] at h1
        rcases Nat.lt_or_ge i listed.size with h' | h'
        · simp [h'] at hiun h1; rw [hiun] at h1; cases h1
        · simp [Array.getElem?_eq_none h'] at h1
      have hjd : j ∉ ds := fun hm => Region.reach_not_ready hc (hd j hm hjun) hiun hj
      have h2 := wpOp_putIf hoj (hfree j oj hoj hji hjun hnot) (fun cs b => hsel i oi cs b hi) (fun cs b => hsel j oj cs b hoj) hQ hy h1
      have hfree' : ∀ k ok, ops[k]? = some ok → k ≠ i → (listed.setIfInBounds j true).getD k true = false →
          (∀ e ∈ ok.after, Region.binds md e = true → e.on ≠ i) → oi.apart ops ok = true := fun k ok hk hki hun hno => by
        refine hfree k ok hk hki ?_ hno
        by_cases hjk : j = k
        · subst hjk; exact hjun
        · rw [getD_set_ne true hjk] at hun; exact hun
      have hd' : ∀ d ∈ ds, (listed.setIfInBounds j true).getD d true = false → Region.reachB md ops i n d = true := fun d hm hun => by
        refine hd d hm ?_
        by_cases hjk : j = d
        · subst hjk; exact hjun
        · rw [getD_set_ne true hjk] at hun; exact hun
      refine wpOp_mono (fun a' w' h3 => ⟨h3.2.1, ih (listed.setIfInBounds j true) a' w' hfree' (hc.set hj) hd' (ready_mono hr (Ne.symm hji)) h3.1 (h3.2.1 hjd hS) ?_⟩) h2
      rw [Array.setIfInBounds_comm _ _ hji]
      exact h3.2.2

theorem wpAnyLast_any {i : Nat} {oi : Oper} {v : Value} (hi : ops[i]? = some oi) (hsel : ∀ (j : Nat) (o : Oper) cs b, ops[j]? = some o → o.op ≠ .select cs b)
    (hQ : ∀ c a w, Q (.panic c) (a.put oi.dst v) w → Q (.panic c) a w) :
    ∀ (fuel : Nat) (listed : Array Bool) (a : Act) (w : World),
      (∀ j oj, ops[j]? = some oj → j ≠ i → listed.getD j true = false → (∀ e ∈ oj.after, Region.binds md e = true → e.on ≠ i) → oi.apart ops oj = true) →
      i ∈ Region.ready md ops listed → Yields P ops oi v a →
      wpAnyLast P md ops Q S ds fuel (listed.setIfInBounds i true) (a.put oi.dst v) w → wpAnyLast P md ops Q S ds (fuel + 1) listed a w := by
  intro fuel
  induction fuel with
  | zero =>
    intro listed a w _ hr hy H
    refine ⟨fun h => (by rw [h] at hr; cases hr), fun j hj => ?_⟩
    by_cases hji : j = i
    · subst hji; exact (hy.yieldsIf (S := fun _ => True)).wpOp hi trivial ⟨fun _ h => h, H⟩
    · have := ready_mono hj hji
      rw [H.1] at this
      cases this
  | succ fuel ih =>
    intro listed a w hfree hr hy H
    refine ⟨fun h => (by rw [h] at hr; cases hr), fun j hj => ?_⟩
    by_cases hji : j = i
    · subst hji; exact (hy.yieldsIf (S := fun _ => True)).wpOp hi trivial ⟨fun _ h => h, H⟩
    · have h1 := H.2 j (ready_mono hj hji)
      obtain ⟨hjun, oj, hoj, hall⟩ := mem_ready.1 hj
      have hiun := (mem_ready.1 hr).1
      have hnot : ∀ e ∈ oj.after, Region.binds md e = true → e.on ≠ i := fun e he hb heq => by
        have h1 := hall e he hb
        rw [heq] at h1
        rcases Nat.lt_or_ge i listed.size with h' | h'
        · simp [h'] at hiun h1; rw [hiun] at h1; cases h1
        · simp [Array.getElem?_eq_none h'] at h1
      have h2 := wpOp_put hoj (hfree j oj hoj hji hjun hnot) (fun cs b => hsel i oi cs b hi) (fun cs b => hsel j oj cs b hoj) hQ hy h1
      have hfree' : ∀ k ok, ops[k]? = some ok → k ≠ i → (listed.setIfInBounds j true).getD k true = false →
          (∀ e ∈ ok.after, Region.binds md e = true → e.on ≠ i) → oi.apart ops ok = true := fun k ok hk hki hun hno => by
        refine hfree k ok hk hki ?_ hno
        by_cases hjk : j = k
        · subst hjk; exact hjun
        · rw [getD_set_ne true hjk] at hun; exact hun
      refine wpOp_mono (fun a' w' h3 => ⟨h3.2.1, ih (listed.setIfInBounds j true) a' w' hfree' (ready_mono hr (Ne.symm hji)) h3.1 ?_⟩) h2
      rw [Array.setIfInBounds_comm _ _ hji]
      exact h3.2.2

theorem wpAnyLast_take {i : Nat} {oi : Oper} {v : Value} {fuel : Nat} {listed : Array Bool} {a : Act} {w : World} (hi : ops[i]? = some oi)
    (hs : Region.noSelect ops = true) (hf : Region.free md ops listed i = true) (hr : (Region.ready md ops listed).contains i = true)
    (hc : Region.closedB md ops listed = true) (hl : Region.lastB md ops listed ds i = true)
    (hQ : ∀ c a w, Q (.panic c) (a.put oi.dst v) w → Q (.panic c) a w) (hy : YieldsIf P ops S oi v a) (hS : S w)
    (h : wpAnyLast P md ops Q S ds fuel (listed.setIfInBounds i true) (a.put oi.dst v) w) : wpAnyLast P md ops Q S ds (fuel + 1) listed a w :=
  wpAnyLast_first hi (Region.noSelect_spec hs) hQ ops.size fuel listed a w (Region.free_spec hi hf) (Region.closedB_spec hc)
    (fun d hm hun => by have := List.all_eq_true.1 hl d hm; rw [hun] at this; simpa using this) (by simpa using hr) hy hS h

theorem wpAnyLast_all {rs : List Nat} {fuel : Nat} {listed : Array Bool} {a : Act} {w : World} (hr : Region.ready md ops listed = rs) (hne : rs ≠ [])
    (h : ∀ i ∈ rs, wpOp P ops Q i (fun a' w' => (i ∉ ds → S w → S w') ∧ wpAnyLast P md ops Q S ds fuel (listed.setIfInBounds i true) a' w') a w) : wpAnyLast P md ops Q S ds (fuel + 1) listed a w :=
  ⟨fun h0 => absurd (hr ▸ h0) hne, hr ▸ h⟩

theorem wpAnyLast_done {listed : Array Bool} {a : Act} {w : World} (hr : Region.ready md ops listed = []) (h : Q .normal a w) :
    ∀ fuel, wpAnyLast P md ops Q S ds fuel listed a w
  | 0 => ⟨hr, h⟩
  | _ + 1 => ⟨fun _ => h, by rw [hr]; simp⟩

theorem wp_region_last {id : Nat} {a : Act} {w : World} (hm : P.follows .mixedOrders = true)
    (h : wpAnyLast P .any ops Q S ds ops.size (Array.replicate ops.size false) a { w with drawn := w.drawn + 1 }) : (Code.region id ops true).wp P Q a w :=
  wp_region_any hm (wpAny_of_last _ _ _ _ h)

end

section
variable {P : Program} {ops : Array Oper} {Q : Exit → Act → World → Prop} {md : Region.Mode} {S : World → Prop} {ds : List Nat}

def AllReadyL (P : Program) (md : Region.Mode) (ops : Array Oper) (Q : Exit → Act → World → Prop) (S : World → Prop) (ds : List Nat) (fuel : Nat) (listed : Array Bool) (a : Act) (w : World) (rs : List Nat) : Prop :=
  ∀ i ∈ rs, wpOp P ops Q i (fun a' w' => (i ∉ ds → S w → S w') ∧ wpAnyLast P md ops Q S ds fuel (listed.setIfInBounds i true) a' w') a w
theorem AllReadyL.nil {fuel : Nat} {listed : Array Bool} {a : Act} {w : World} : AllReadyL P md ops Q S ds fuel listed a w [] := fun _ h => by cases h
theorem AllReadyL.cons {fuel : Nat} {listed : Array Bool} {a : Act} {w : World} {i : Nat} {o : Oper} {rs : List Nat} (ho : ops[i]? = some o) (hd : i ∉ ds)
    (h : ∀ K' : Act → World → Prop, Shut (∀ a w, S w → (S w → wpAnyLast P md ops Q S ds fuel (listed.setIfInBounds i true) a w) → K' a w) → if Region.wanted o (yielded ops a.tmps) = true then Oper.wp P o a w K' Q else K' (a.put o.dst undef) w)
    (hs : AllReadyL P md ops Q S ds fuel listed a w rs) : AllReadyL P md ops Q S ds fuel listed a w (i :: rs) := fun j hj => by
  rcases List.mem_cons.1 hj with rfl | hj
  · exact wpOp_step ho (fun K' hK => h K' (fun a w hS hW => hK a w ⟨fun _ _ => hS, hW hS⟩))
  · exact hs j hj
theorem wpAnyLast_ready {rs : List Nat} {fuel : Nat} {listed : Array Bool} {a : Act} {w : World} (hr : Region.ready md ops listed = rs) (hne : rs ≠ [])
    (h : AllReadyL P md ops Q S ds fuel listed a w rs) : wpAnyLast P md ops Q S ds (fuel + 1) listed a w := wpAnyLast_all hr hne h
theorem start_ {id n : Nat} {a : Act} {w : World} (l : Array Bool) (hm : P.follows .mixedOrders = true) (hn : ops.size = n) (hl : Array.replicate n false = l) (hS : S w.drew)
    (h : S w.drew → wpAnyLast P .any ops Q S ds n l a w.drew) : (Code.region id ops true).wp P Q a w := by
  subst hn
  subst hl
  exact wp_region_last hm (h hS)
def takeB (md : Region.Mode) (ops : Array Oper) (ds : List Nat) (l l' : Array Bool) (i : Nat) : Bool :=
  Region.noSelect ops && Region.free md ops l i && (Region.ready md ops l).contains i && Region.closedB md ops l && Region.lastB md ops l ds i && (l.setIfInBounds i true == l')
theorem take_ {i : Nat} {N : Option Tmp} {oi : Oper} {v : Value} {fuel : Nat} {l : Array Bool} {a : Act} {w : World} (l' : Array Bool) (hi : ops[i]? = some oi) (hN : oi.dst = N) (hc : takeB md ops ds l l' i = true)
    (hQ : ∀ c a w, Q (.panic c) (a.put oi.dst v) w → Q (.panic c) a w) (hy : YieldsIf P ops S oi v a) (hS : S w) {a' : Act} (ha : a.put N v = a')
    (h : wpAnyLast P md ops Q S ds fuel l' a' w) : wpAnyLast P md ops Q S ds (fuel + 1) l a w := by
  subst ha
  subst hN
  simp only [takeB, Bool.and_eq_true, beq_iff_eq] at hc
  obtain ⟨⟨⟨⟨⟨h1, h2⟩, h3⟩, h4⟩, h5⟩, h6⟩ := hc
  subst h6
  exact wpAnyLast_take hi h1 h2 h3 h4 h5 hQ hy hS h
def anyB (md : Region.Mode) (ops : Array Oper) (l l' : Array Bool) (i : Nat) : Bool :=
  Region.noSelect ops && Region.free md ops l i && (Region.ready md ops l).contains i && (l.setIfInBounds i true == l')
theorem pure_ {i : Nat} {N : Option Tmp} {oi : Oper} {v : Value} {fuel : Nat} {l : Array Bool} {a : Act} {w : World} (l' : Array Bool) (hi : ops[i]? = some oi) (hN : oi.dst = N) (hc : anyB md ops l l' i = true)
    (hQ : ∀ c a w, Q (.panic c) (a.put oi.dst v) w → Q (.panic c) a w) (hy : Yields P ops oi v a) {a' : Act} (ha : a.put N v = a')
    (h : wpAnyLast P md ops Q S ds fuel l' a' w) : wpAnyLast P md ops Q S ds (fuel + 1) l a w := by
  subst ha
  subst hN
  simp only [anyB, Bool.and_eq_true, beq_iff_eq] at hc
  obtain ⟨⟨⟨h1, h2⟩, h3⟩, h6⟩ := hc
  subst h6
  exact wpAnyLast_any hi (Region.noSelect_spec h1) hQ fuel l a w (Region.free_spec hi h2) (by simpa using h3) hy h
def readyB (md : Region.Mode) (ops : Array Oper) (l l' : Array Bool) (i : Nat) : Bool := (Region.ready md ops l == [i]) && (l.setIfInBounds i true == l')
theorem one_ {i : Nat} {N : Option Tmp} {oi : Oper} {fuel : Nat} {l : Array Bool} {a : Act} {w : World} (l' : Array Bool) (hi : ops[i]? = some oi) (hN : oi.dst = N) (hc : readyB md ops l l' i = true) (hd : i ∉ ds)
    (h : ∀ K : Act → World → Prop, Shut (∀ a' w', S w' → (S w' → wpAnyLast P md ops Q S ds fuel l' a' w') → K a' w') → if Region.wanted oi (yielded ops a.tmps) = true then Oper.wp P oi a w K Q else K (a.put N undef) w) :
    wpAnyLast P md ops Q S ds (fuel + 1) l a w := by
  subst hN
  simp only [readyB, Bool.and_eq_true, beq_iff_eq] at hc
  obtain ⟨h1, h2⟩ := hc
  subst h2
  exact wpAnyLast_ready h1 (by simp) (AllReadyL.cons hi hd (fun K hK => h K hK) AllReadyL.nil)
theorem done_ {l : Array Bool} {a : Act} {w : World} {n : Nat} (hr : (Region.ready md ops l == []) = true) (h : Q .normal a w) : wpAnyLast P md ops Q S ds n l a w := wpAnyLast_done (by simpa using hr) h n
theorem norm_ {fuel : Nat} {l : Array Bool} {a a' : Act} {w : World} (ha : a = a') (h : wpAnyLast P md ops Q S ds fuel l a' w) : wpAnyLast P md ops Q S ds fuel l a w := by
  subst ha
  exact h
theorem call_ {oi : Oper} {N : Option Tmp} {a : Act} {w : World} {K : Act → World → Prop} (f : FuncId) (args : Array Value) (hw : Region.wanted oi (yielded ops a.tmps) = true) (hN : oi.dst = N) (hrun : (execOp a.eval oi).run P w = .ok (.enter f args) w)
    (h : Calls P f args w fun e w' => ∃ v, e = .returned v ∧ K (a.put N v) w') : if Region.wanted oi (yielded ops a.tmps) = true then Oper.wp P oi a w K Q else K (a.put N undef) w := by
  rw [if_pos hw]
  subst hN
  unfold Oper.wp
  rw [hrun, Oper.upon_enter]
  refine h.mono fun e w'' hh => ?_
  obtain ⟨v, rfl, hk⟩ := hh
  exact hk
theorem enters_ {f : FuncId} {fn : Func} (hf : P.funcs[f]? = some fn) (hname : (fn.name == "runtime.NumGoroutine") = false) (hb : fn.body.isSome = true) (args : Array Value) (w : World) : (callFunc f args).run P w = .ok (.enter f args) w := by
  have h1 : fn.name ≠ "runtime.NumGoroutine" := by simpa using hname
  obtain ⟨c, hc⟩ := Option.isSome_iff_exists.1 hb
  simp [callFunc, hf, h1, hc]
theorem goes_ {oi : Oper} {N : Option Tmp} {a : Act} {w : World} {K : Act → World → Prop} {f : FuncId} {fn : Func} {as_ : Array Operand} {ts : Array TypeId} (hf : P.funcs[f]? = some fn) (hname : (fn.name == "runtime.NumGoroutine") = false) (hb : fn.body.isSome = true) (args : Array Value)
    (hw : Region.wanted oi (yielded ops a.tmps) = true) (hN : oi.dst = N) (hop : oi.op = .call { callee := .value (.func f), args := as_, argTypes := ts }) (hargs : as_.map a.eval = args)
    (h : Calls P f args w fun e w' => ∃ v, e = .returned v ∧ K (a.put N v) w') : if Region.wanted oi (yielded ops a.tmps) = true then Oper.wp P oi a w K Q else K (a.put N undef) w := by
  refine call_ f args hw hN ?_ h
  have he := enters_ hf hname hb args w
  unfold execOp
  simp [hop, resolve, Deferred.ofValue, invoke, Act.eval, hargs, he]
theorem goesL_ {rest : List Oper} {oi : Oper} {a : Act} {w : World} (N : Option Tmp) (hd : oi.dst = N) (hg : oi.guard = none) {f : FuncId} {fn : Func} {as_ : Array Operand} {ts : Array TypeId} (hf : P.funcs[f]? = some fn) (hname : (fn.name == "runtime.NumGoroutine") = false) (hb : fn.body.isSome = true) (args : Array Value)
    (hop : oi.op = .call { callee := .value (.func f), args := as_, argTypes := ts }) (hargs : as_.map a.eval = args)
    (h : Calls P f args w fun e w' => ∃ v, e = .returned v ∧ wpList P ops Q rest (a.put N v) w') : wpList P ops Q (oi :: rest) a w := by
  refine wpList_plain hg fun K hK => ?_
  have he := enters_ hf hname hb args w
  have hrun : (execOp a.eval oi).run P w = .ok (.enter f args) w := by
    unfold execOp
    simp [hop, resolve, Deferred.ofValue, invoke, Act.eval, hargs, he]
  unfold Oper.wp
  rw [hrun, Oper.upon_enter]
  refine h.mono fun e w'' hh => ?_
  obtain ⟨v, rfl, hk⟩ := hh
  subst hd
  exact hK _ _ hk
theorem i64_w (n : Int) : IntKind.i64.wrap n = Go.RowKit.wrap64 n := by unfold Go.RowKit.wrap64; exact IntKind.wrap_i64 n
theorem i32_w (n : Int) : IntKind.i32.wrap n = Go.RowKit.wrap32 n := by unfold Go.RowKit.wrap32; exact IntKind.wrap_i32 n
end
end Go.Proofs.YtafbdpdbagkbgaaDoorW.PrintLast
end
section
namespace Go.Proofs.YtafbdpdbagkbgaaDoorW.PrintWords
open Go.RowKit
namespace Kd
def tag {α : Type} (f : Nat → Nat) (d : Kd α) : Kd (α × Nat) where
  sz := d.sz
  E := d.E
  K := fun w x cs => d.K w x.1 cs
  M := fun w base ok x cs => d.M w base (fun k => ok k ∧ f k = x.2) x.1 cs
  K_len := fun h => d.K_len h
  K_one := fun h => d.K_one h
  K_below := fun hb h => d.K_below hb h
  K_of_M := fun h => d.K_of_M h
  M_mono := fun hok h => d.M_mono (fun k hk => ⟨hok k hk.1, hk.2⟩) h
  M_bound := fun h => d.M_mono (fun _ hk => ⟨⟨hk.1.1, hk.2⟩, hk.1.2⟩) (d.M_bound h)
  M_move := fun hm h => d.M_move (fun k hk => hm k hk.1) h
  M_lower := fun hb h => d.M_lower hb h
def raw (sz : Nat) : Kd (List Value) where
  sz := sz
  E := []
  K := fun _ x cs => cs = x ∧ cs.length = sz ∧ ∀ u ∈ cs, u.oneCell' = true
  M := fun _ _ _ x cs => cs = x ∧ cs.length = sz ∧ ∀ u ∈ cs, u.oneCell' = true
  K_len := fun h => h.2.1
  K_one := fun h => h.2.2
  K_below := fun _ h => h
  K_of_M := fun h => h
  M_mono := fun _ h => h
  M_bound := fun h => h
  M_move := fun _ h => h
  M_lower := fun _ h => h
def S {α : Type} (d : Kd α) (e : Nat) (w : World) (base : Nat) (ok : Nat → Prop) (v : Value) (xs : List α) : Prop := ∃ f, (tag f d).R e w base ok v xs.zipIdx
section
variable {α β : Type} {d : Kd α} {d' : Kd β} {e e' : Nat} {w w1 W : World} {base b : Nat} {ok ok' okv oku : Nat → Prop} {u v : Value} {xs : List α} {ys : List β}
theorem R_tight (hE : d.E = []) (h : d.R e w base ok v xs) : d.R e w base (fun k => some k = v.ownBlock) v xs := by
  obtain ⟨h0, inner, ho, hr⟩ := h
  refine ⟨fun k hk => hk.symm, inner, ho, hr.imp_ (fun p c hp => d.M_mono (fun k hk => ?_) (d.M_bound hp))⟩
  obtain ⟨_, _, _, q, hq, _⟩ := hk
  rw [hE] at hq
  cases hq
theorem S_nil (d : Kd α) (e : Nat) (w : World) (base : Nat) (ok : Nat → Prop) : S d e w base ok (.slice none 0 0) [] := ⟨fun _ => 0, R_nil _ _ _ _ _⟩
end
section
variable {α β : Type} {d : Kd α} {d' : Kd β} {e e' g : Nat} {w w1 W : World} {base b : Nat} {ok ok' okv oku : Nat → Prop} {u v : Value} {xs : List α} {ys : List β}
end
section
variable {P : Program} {ops : Array Oper} {rest : List Oper} {o : Oper} {a : Act} {Q : Exit → Act → World → Prop} {Kc : Act → World → Prop} {α : Type}
end
def gap {α : Type} (f : Nat → Nat) (d : Kd α) (i : Nat) (c : List Value) : Kd (α × Nat) where
  sz := d.sz
  E := d.E
  K := fun w x cs => (x.2 = i → cs = c ∧ cs.length = d.sz ∧ ∀ u ∈ cs, u.oneCell' = true) ∧ (x.2 ≠ i → d.K w x.1 cs)
  M := fun w base ok x cs => (x.2 = i → cs = c ∧ cs.length = d.sz ∧ ∀ u ∈ cs, u.oneCell' = true) ∧ (x.2 ≠ i → d.M w base (fun k => ok k ∧ f k = x.2) x.1 cs)
  K_len := fun {w x cs} h => by
    by_cases hx : x.2 = i
    · exact (h.1 hx).2.1
    · exact d.K_len (h.2 hx)
  K_one := fun {w x cs} h => by
    by_cases hx : x.2 = i
    · exact (h.1 hx).2.2
    · exact d.K_one (h.2 hx)
  K_below := fun hb h => ⟨h.1, fun hx => d.K_below hb (h.2 hx)⟩
  K_of_M := fun h => ⟨h.1, fun hx => d.K_of_M (h.2 hx)⟩
  M_mono := fun hok h => ⟨h.1, fun hx => d.M_mono (fun k hk => ⟨hok k hk.1, hk.2⟩) (h.2 hx)⟩
  M_bound := fun h => ⟨h.1, fun hx => d.M_mono (fun _ hk => ⟨⟨hk.1.1, hk.2⟩, hk.1.2⟩) (d.M_bound (h.2 hx))⟩
  M_move := fun hm h => ⟨h.1, fun hx => d.M_move (fun k hk => hm k hk.1) (h.2 hx)⟩
  M_lower := fun hb h => ⟨h.1, fun hx => d.M_lower hb (h.2 hx)⟩
def H {α : Type} (d : Kd α) (e : Nat) (w : World) (base : Nat) (ok : Nat → Prop) (v : Value) (xs : List α) (i : Int) (oki : Nat → Prop) (c : List Value) : Prop :=
  (∀ k, oki k → ok k) ∧ ∃ f, (gap f d i.toNat c).R e w base (fun k => ok k ∧ ¬ oki k) v xs.zipIdx
section
variable {α β : Type} {d : Kd α} {e e' g n cap : Nat} {w w1 W : World} {base : Nat} {ok ok' oki okp : Nat → Prop} {u v : Value} {xs : List α} {i : Int} {c : List Value}
end
section
variable {P : Program} {ops : Array Oper} {rest : List Oper} {o : Oper} {a : Act} {Q : Exit → Act → World → Prop} {α : Type}
end
end Kd
end Go.Proofs.YtafbdpdbagkbgaaDoorW.PrintWords
end
section
namespace Go.Proofs.YtafbdpdbagkbgaaDoorW.PrintWords
open Go.RowKit
namespace Kd
structure Heap {α : Type} (d : Kd α) : Prop where
  K : ∀ {w w1 : World} {x : α} {cs : List Value}, (∀ k, k < w.heap.size → w1.heap[k]? = w.heap[k]?) → d.K w x cs → d.K w1 x cs
theorem cell_heap {w w1 : World} (hb : ∀ k, k < w.heap.size → w1.heap[k]? = w.heap[k]?) {a : Addr} {v : Value} (h : w.cell? a = some v) : w1.cell? a = some v := by
  have := hb a.block (World.block_lt_of_cell? w a h)
  simpa [World.cell?, this] using h
theorem Heap.C {α : Type} {d : Kd α} (hd : Heap d) {w w1 : World} {A : Option Addr} {n : Nat} {xs : List α} (hb : ∀ k, k < w.heap.size → w1.heap[k]? = w.heap[k]?) (h : d.C w A n xs) : d.C w1 A n xs :=
  ⟨h.1, h.2.1, fun hn => by
    obtain ⟨ad, e, hc⟩ := h.2.2 hn
    refine ⟨ad, e, fun j p hj => ?_⟩
    obtain ⟨c, hs, hr, hcell⟩ := hc j p hj
    exact ⟨c, hs, hd.K hb hr, fun i u hu => cell_heap hb (hcell i u hu)⟩⟩
section
variable {α : Type} {d : Kd α} {e base g n c : Nat} {ok : Nat → Prop} {w w0 W : World} {A : Option Addr} {xs : List α}
end
end Kd
end Go.Proofs.YtafbdpdbagkbgaaDoorW.PrintWords
end
section
namespace Go.Proofs.YtafbdpdbagkbgaaDoorW.PrintWords
open Go.RowKit
def Kept (w W : World) (S : Nat → Prop) : Prop := w.heap.size ≤ W.heap.size ∧ ∀ i, i < w.heap.size → ¬ S i → W.heap[i]? = w.heap[i]?
section
variable {w W W2 : World} {S S2 S' : Nat → Prop}
theorem Kept.refl (w : World) (S : Nat → Prop) : Kept w w S := ⟨Nat.le_refl _, fun _ _ _ => rfl⟩
theorem Kept.of_below (h : Below w.heap.size w W) (S : Nat → Prop) : Kept w W S := ⟨h.size, fun i hi _ => h.block i hi⟩
theorem Kept.mono (h : Kept w W S) (hs : ∀ k, S k → S' k) : Kept w W S' := ⟨h.1, fun i hi hn => h.2 i hi (fun hk => hn (hs i hk))⟩
theorem Kept.then_ (h : Kept w W S) (k : Kept W W2 S2) (hs : ∀ k, S2 k → S k ∨ w.heap.size ≤ k) : Kept w W2 S :=
  ⟨Nat.le_trans h.1 k.1, fun i hi hn => (k.2 i (Nat.lt_of_lt_of_le hi h.1) (fun h2 => (hs i h2).elim hn (fun h3 => by omega))).trans (h.2 i hi hn)⟩
theorem Kept.of_grown {row : Option Nat} (hg : W.grownBy W2 row) (h : Kept w W S) (hr : ∀ k, row = some k → S k ∨ w.heap.size ≤ k) : Kept w W2 S :=
  h.then_ (S2 := fun k => row = some k) ⟨hg.size, fun i hi hn => hg.block i hi (fun he => hn he.symm)⟩ hr
theorem Kept.below (h : Kept w W S) (hb : Below W.heap.size W W2) : Kept w W2 S := h.then_ (Kept.of_below hb (fun _ => False)) (fun _ hk => hk.elim)
theorem Kept.alloc (h : Kept w W S) (o : Obj) : Kept w (W.alloc o) S := h.below (below_alloc (Below.refl _ _) o)
theorem Kept.drew (h : Kept w W S) : Kept w W.drew S := h
theorem Kept.drewN (h : Kept w W S) (m : Nat) : Kept w (W.drewN m) S := h
theorem Kept.setCell (h : Kept w W S) {p : Addr} (hp : S p.block ∨ w.heap.size ≤ p.block) (u : Value) : Kept w (W.setCell p u) S :=
  h.then_ (S2 := fun k => k = p.block) ⟨by simp [World.setCell], fun i _ hn => Below.heap_setCell W p u i hn⟩ (fun k hk => by rw [hk]; exact hp)
theorem Kept.keep {g : Nat} (h : KeepBut w W g none) (k : Kept W W2 S2) (hs : ∀ k, S2 k → w.heap.size ≤ k) : KeepBut w W2 g none :=
  ⟨Nat.le_trans h.1 k.1, fun i hi hg hr => (k.2 i (Nat.lt_of_lt_of_le hi h.1) (fun h2 => by have := hs i h2; omega)).trans (h.2 i hi hg hr)⟩
theorem blk_kept {g : Nat} {o : Obj} (hb : W.heap[g]? = some o) (hk : Kept W W2 S) (hne : ¬ S g) : W2.heap[g]? = some o := (hk.2 g (blk_lt hb) hne).trans hb
end
namespace Kd
section
variable {α : Type} {d : Kd α} {e base n c : Nat} {ok oki S S2 : Nat → Prop} {w w0 W W1 W2 : World} {v : Value} {A : Option Addr} {xs : List α} {i : Int} {cs : List Value}
end
end Kd
end Go.Proofs.YtafbdpdbagkbgaaDoorW.PrintWords
end
section
namespace Go.Proofs.YtafbdpdbagkbgaaDoorW.PrintWords
open Go.RowKit
def Foot (P : World → Prop) (W : World) (ok : Nat → Prop) : Prop := ∀ W' : World, (∀ k, ok k → k < W.heap.size → W'.heap[k]? = W.heap[k]?) → P W'
theorem heap_lt {W W1 : World} {k : Nat} (h : W1.heap[k]? = W.heap[k]?) (hlt : k < W.heap.size) : k < W1.heap.size := by
  rw [Array.getElem?_eq_getElem hlt] at h
  exact (Array.getElem?_eq_some_iff.1 h).1
namespace Foot
variable {P Q : World → Prop} {W W1 : World} {ok ok' : Nat → Prop}
theorem now (h : Foot P W ok) : P W := h W (fun _ _ _ => rfl)
theorem mono (h : Foot P W ok) (hok : ∀ k, ok k → ok' k) : Foot P W ok' := fun W' hW => h W' (fun k hk hlt => hW k (hok k hk) hlt)
theorem step (h : Foot P W ok) (hm : ∀ k, ok k → k < W.heap.size → W1.heap[k]? = W.heap[k]?) : Foot P W1 ok := fun W' hW => h W' (fun k hk hlt => (hW k hk (heap_lt (hm k hk hlt) hlt)).trans (hm k hk hlt))
end Foot
namespace Kd
def F {α : Type} (d : Kd α) (W : World) (ok : Nat → Prop) (A : Option Addr) (n : Nat) (xs : List α) : Prop := Foot (fun W => d.C W A n xs) W ok
def FK {α : Type} (d : Kd α) (W : World) (ok : Nat → Prop) (x : α) (c : List Value) : Prop := Foot (fun W => d.K W x c) W ok
section
variable {α β : Type} {d : Kd α} {e base n n' cc g N : Nat} {ok ok' okp S : Nat → Prop} {w w0 w1 W W1 : World} {A A' : Option Addr} {u v v1 : Value} {xs : List α} {xs' : List β} {d' : Kd β} {x : α} {c : List Value}
theorem F_nil (d : Kd α) (W : World) (ok : Nat → Prop) : F d W ok none ([] : List α).length [] := fun W' _ => C_nil d W'
theorem FK_of_M (h : d.M W base ok x c) : FK d W ok x c := fun _ hW => d.K_of_M (M_step h hW)
end
end Kd
end Go.Proofs.YtafbdpdbagkbgaaDoorW.PrintWords
end
section
namespace Go.Proofs.YtafbdpdbagkbgaaDoorW.PrintWords
open Go.RowKit
namespace Kd
def chunks (sz : Nat) (n : Nat) (inner : List Value) : List (List Value) := (List.range n).map fun j => (inner.drop (j * sz)).take sz
theorem chunks_length (sz n : Nat) (inner : List Value) : (chunks sz n inner).length = n := by simp [chunks]
theorem chunks_at {sz n : Nat} {inner : List Value} {j : Nat} (hj : j < n) : (chunks sz n inner)[j]? = some ((inner.drop (j * sz)).take sz) := by simp [chunks, hj]
theorem chunks_get {sz n : Nat} {inner : List Value} {j : Nat} {c : List Value} (h : (chunks sz n inner)[j]? = some c) : c = (inner.drop (j * sz)).take sz := by
  have hj : j < n := by have := (List.getElem?_eq_some_iff.1 h).1; rwa [chunks_length] at this
  rw [chunks_at hj] at h
  injection h with h
  exact h.symm
theorem reps_raw {α : Type} {Rr : α → List Value → Prop} {sz : Nat} {xs : List α} {inner : List Value} (h : Reps Rr sz xs inner) (hR : ∀ x c, Rr x c → c.length = sz ∧ ∀ u ∈ c, u.oneCell' = true) : Reps (fun x cs => cs = x ∧ cs.length = sz ∧ ∀ u ∈ cs, u.oneCell' = true) sz (chunks sz xs.length inner) inner := by
  refine ⟨by rw [chunks_length]; exact h.1, fun j p hj => ?_⟩
  have hjl : j < xs.length := by have := (List.getElem?_eq_some_iff.1 hj).1; rwa [chunks_length] at this
  have hp := chunks_get hj
  exact ⟨hp.symm, hR _ _ (h.2 j _ (List.getElem?_eq_getElem hjl))⟩
section
variable {α : Type} {d : Kd α} {e base n cc g : Nat} {ok ok' okp S : Nat → Prop} {w w1 W W1 : World} {A : Option Addr} {u v v1 : Value} {xs : List α} {x : α} {c : List Value}
def N {α : Type} (d : Kd α) (e : Nat) (w : World) (base : Nat) (ok : Nat → Prop) (v : Value) (xs : List α) : Prop :=
  (∀ k, v.ownBlock = some k → ok k) ∧ ∃ rows : List (List Value), rows.length = xs.length ∧ (raw d.sz).R e w base (fun k => some k = v.ownBlock) v rows ∧ ∀ (j : Nat) (x : α) (c : List Value), xs[j]? = some x → rows[j]? = some c → FK d w (fun k => ok k ∧ some k ≠ v.ownBlock) x c
theorem R_N (h : d.R e w base ok v xs) : N d e w base ok v xs := by
  obtain ⟨h0, inner, ho, hr⟩ := h
  refine ⟨h0, chunks d.sz xs.length inner, chunks_length _ _ _, ⟨fun k hk => hk.symm, inner, by rw [chunks_length]; exact ho, reps_raw hr (fun x c hp => ⟨d.K_len (d.K_of_M hp), d.K_one (d.K_of_M hp)⟩)⟩, fun j x c hx hc => ?_⟩
  rw [chunks_get hc]
  exact FK_of_M (hr.2 j x hx)
theorem N_nil (d : Kd α) (e : Nat) (w : World) (base : Nat) (ok : Nat → Prop) : N d e w base ok (.slice none 0 0) [] := R_N (R_nil _ _ _ _ _)
end
end Kd
end Go.Proofs.YtafbdpdbagkbgaaDoorW.PrintWords
end
section
namespace Go.Proofs.YtafbdpdbagkbgaaDoorW.PrintMore
open Go.RowKit Go.Proofs.YtafbdpdbagkbgaaDoorW.PrintWords
namespace Kd
open Go.Proofs.YtafbdpdbagkbgaaDoorW.PrintWords.Kd
end Kd

namespace Kd
open Go.Proofs.YtafbdpdbagkbgaaDoorW.PrintWords.Kd
section
variable {α : Type} {d : Kd α} {e base g N : Nat} {ok : Nat → Prop} {W w1 : World} {u v : Value} {xs : List α}
end
end Kd
theorem max2_int (k k' : IntKind) (x y : Int) : Builtin.max2 (.int k x) (.int k' y) = pure (.int k (if x < y then y else x)) := by simp only [Builtin.max2, gt_iff_lt]
theorem min2_int (k k' : IntKind) (x y : Int) : Builtin.min2 (.int k x) (.int k' y) = pure (.int k (if y < x then y else x)) := by simp only [Builtin.min2]
theorem max_two (ats : Array TypeId) (ty : TypeId) (a b : Value) : Builtin.max_ ats ty #[a, b] = (Builtin.max2 a b >>= fun s => pure s) := by simp only [Builtin.max_, List.foldlM_cons, List.foldlM_nil]
theorem min_two (ats : Array TypeId) (ty : TypeId) (a b : Value) : Builtin.min_ ats ty #[a, b] = (Builtin.min2 a b >>= fun s => pure s) := by simp only [Builtin.min_, List.foldlM_cons, List.foldlM_nil]
theorem max_three (ats : Array TypeId) (ty : TypeId) (a b c : Value) : Builtin.max_ ats ty #[a, b, c] = (Builtin.max2 a b >>= fun s => Builtin.max2 s c >>= fun s => pure s) := by simp only [Builtin.max_, List.foldlM_cons, List.foldlM_nil]
theorem min_three (ats : Array TypeId) (ty : TypeId) (a b c : Value) : Builtin.min_ ats ty #[a, b, c] = (Builtin.min2 a b >>= fun s => Builtin.min2 s c >>= fun s => pure s) := by simp only [Builtin.min_, List.foldlM_cons, List.foldlM_nil]
theorem max_four (ats : Array TypeId) (ty : TypeId) (a b c d : Value) : Builtin.max_ ats ty #[a, b, c, d] = (Builtin.max2 a b >>= fun s => Builtin.max2 s c >>= fun s => Builtin.max2 s d >>= fun s => pure s) := by simp only [Builtin.max_, List.foldlM_cons, List.foldlM_nil]
theorem min_four (ats : Array TypeId) (ty : TypeId) (a b c d : Value) : Builtin.min_ ats ty #[a, b, c, d] = (Builtin.min2 a b >>= fun s => Builtin.min2 s c >>= fun s => Builtin.min2 s d >>= fun s => pure s) := by simp only [Builtin.min_, List.foldlM_cons, List.foldlM_nil]
end Go.Proofs.YtafbdpdbagkbgaaDoorW.PrintMore
namespace Go.Proofs.YtafbdpdbagkbgaaDoorW.PrintWords
open Go.RowKit
section
variable {P : Program} {ops : Array Oper} {rest : List Oper} {o : Oper} {a : Act} {Q : Exit → Act → World → Prop} {W : World}
theorem gate_callee {f : FuncId} {as_ : Array Operand} {ts : Array TypeId} (_ho : o.op = .call { callee := .value (.func f), args := as_, argTypes := ts }) (h : wpList P ops Q (o :: rest) a W) : wpList P ops Q (o :: rest) a W := h
theorem gate_builtin {b : Builtin} {xs : Array Operand} {ts : Array TypeId} (_ho : o.op = .call { callee := .builtin b, args := xs, argTypes := ts }) (h : wpList P ops Q (o :: rest) a W) : wpList P ops Q (o :: rest) a W := h
end
theorem drewN_self (w : World) (n : Nat) : w.drewN n = w.drewN n := rfl
namespace Kd
section
variable {α : Type} {d : Kd α} {e base : Nat} {ok : Nat → Prop} {W w1 : World} {v : Value} {xs : List α}
end
section
variable {α : Type} {d : Kd α} {e base g n cap : Nat} {ok oki okp : Nat → Prop} {W : World} {xs : List α} {i : Int} {c : List Value}
end
section
variable {α : Type} {d : Kd α} {e base b b' g N : Nat} {ok ok1 : Nat → Prop} {W W2 w1 : World} {u v : Value} {xs ys : List α} {S : Nat → Prop}
end
end Kd
end Go.Proofs.YtafbdpdbagkbgaaDoorW.PrintWords
namespace Go.Proofs.YtafbdpdbagkbgaaDoorW.PrintWords
open Go.RowKit
namespace Kd
def V {α : Type} (d : Kd α) (_e : Nat) (W : World) (_base : Nat) (ok : Nat → Prop) (v : Value) (xs : List α) : Prop := ∃ A c, v = .slice A xs.length c ∧ xs.length ≤ c ∧ F d W ok A xs.length xs
section
variable {α β : Type} {d : Kd α} {e base base' n m c g N' lo hi : Nat} {ok ok' S : Nat → Prop} {w W w1 : World} {A : Option Addr} {ad : Addr} {u v v1 : Value} {xs : List α}
theorem V_nil (d : Kd α) (e : Nat) (W : World) (base : Nat) (ok : Nat → Prop) : V d e W base ok (.slice none 0 0) [] := ⟨none, 0, rfl, Nat.le_refl _, F_nil d W ok⟩
theorem R_newM {M : Nat → Prop} (h : d.R e w1 W.heap.size ok v xs) (hle : w.heap.size ≤ W.heap.size) (hM : ∀ k, w.heap.size ≤ k → M k) : d.R e w1 W.heap.size (fun k => M k ∧ ok k) v xs := R_mono (R_bound h) (fun k hk => ⟨hM k (Nat.le_trans hle hk.2.1), hk.1⟩)
end
end Kd
end Go.Proofs.YtafbdpdbagkbgaaDoorW.PrintWords
end
section
namespace Go.Proofs.YtafbdpdbagkbgaaDoorW.PrintLast
open Go.Proofs.YtafbdpdbagkbgaaDoorW.PrintWords (Aside0)
def needsOf (md : Region.Mode) (o : Oper) : List Nat := (o.after.toList.filter (fun e => Region.binds md e)).map (fun e => e.on)
def clashOf (md : Region.Mode) (ops : Array Oper) (i : Nat) (oi : Oper) : List Nat := (List.range ops.size).filter fun j => !(j == i) && match ops[j]? with
  | some oj => !(oj.after.any (fun e => Region.binds md e && e.on == i) || oi.apart ops oj)
  | none => false
def rtab (md : Region.Mode) (ops : Array Oper) : Bool × List (List Nat × List Nat) := (Region.noSelect ops, (List.range ops.size).map fun i => match ops[i]? with
  | some o => (needsOf md o, clashOf md ops i o)
  | none => ([], []))
def readyAt (T : List (List Nat × List Nat)) (l : List Bool) (i : Nat) : Bool := !l.getD i true && match T[i]? with
  | some r => r.1.all (fun j => l.getD j false)
  | none => false
def readyT (T : List (List Nat × List Nat)) (l : List Bool) : List Nat := (List.range T.length).filter (readyAt T l)
def freeT (T : List (List Nat × List Nat)) (l : List Bool) (i : Nat) : Bool := match T[i]? with
  | some r => r.2.all (fun j => l.getD j true)
  | none => false
def closedT (T : List (List Nat × List Nat)) (l : List Bool) : Bool := (List.range T.length).all fun j => !l.getD j false || match T[j]? with
  | some r => r.1.all (fun k => l.getD k false)
  | none => true
def reachT (T : List (List Nat × List Nat)) (i : Nat) : Nat → Nat → Bool
  | 0, _ => false
  | fuel + 1, d => match T[d]? with
    | some r => r.1.any fun j => j == i || reachT T i fuel j
    | none => false
def lastT (T : List (List Nat × List Nat)) (l : List Bool) (ds : List Nat) (i : Nat) : Bool := ds.all fun d => l.getD d true || reachT T i T.length d
section
variable {md : Region.Mode} {ops : Array Oper} {T : Bool × List (List Nat × List Nat)} {l l' li lj lk : Array Bool} {ds : List Nat} {i j k : Nat}
theorem gd (l : Array Bool) (j : Nat) (b : Bool) : l.getD j b = l.toList.getD j b := by simp [Array.getD_eq_getD_getElem?, List.getD_eq_getElem?_getD]
theorem needs_all (o : Oper) (p : Nat → Bool) : o.after.all (fun e => !Region.binds md e || p e.on) = (needsOf md o).all p := by
  unfold needsOf
  rw [← Array.all_toList]
  induction o.after.toList with
  | nil => rfl
  | cons e r ih =>
    rw [List.all_cons, ih, List.filter_cons]
    cases h : Region.binds md e <;> simp
theorem needs_any (o : Oper) (p : Nat → Bool) : o.after.any (fun e => Region.binds md e && p e.on) = (needsOf md o).any p := by
  unfold needsOf
  rw [← Array.any_toList]
  induction o.after.toList with
  | nil => rfl
  | cons e r ih =>
    rw [List.any_cons, ih, List.filter_cons]
    cases h : Region.binds md e <;> simp
theorem rtab_length : (rtab md ops).2.length = ops.size := by simp [rtab]
theorem rtab_some {o : Oper} (h : ops[i]? = some o) : (rtab md ops).2[i]? = some (needsOf md o, clashOf md ops i o) := by
  have hi := (Array.getElem?_eq_some_iff.1 h).1
  unfold rtab
  rw [List.getElem?_map, List.getElem?_range hi, Option.map_some, h]
theorem rtab_none (h : ops[i]? = none) : (rtab md ops).2[i]? = none := by
  have hi : ops.size ≤ i := Array.getElem?_eq_none_iff.1 h
  exact List.getElem?_eq_none (by rw [rtab_length]; exact hi)
theorem readyAt_eq : readyAt (rtab md ops).2 l.toList i = (!l.getD i true && ((ops[i]?).map (·.after.all fun e => !Region.binds md e || l.getD e.on false)).getD false) := by
  unfold readyAt
  rw [gd]
  cases h : ops[i]? with
  | none => rw [rtab_none h]; rfl
  | some o =>
    rw [rtab_some h]
    simp only [Option.map_some, Option.getD_some]
    rw [← needs_all]
    simp only [gd]
theorem ready_eq : Region.ready md ops l = readyT (rtab md ops).2 l.toList := by
  unfold Region.ready readyT
  rw [rtab_length]
  refine List.filter_congr (fun i _ => ?_)
  rw [readyAt_eq]
theorem free_eq : Region.free md ops l i = freeT (rtab md ops).2 l.toList i := by
  unfold Region.free freeT
  cases h : ops[i]? with
  | none => rw [rtab_none h]
  | some oi =>
    rw [rtab_some h]
    simp only [clashOf]
    rw [List.all_filter]
    congr 1
    funext j
    rw [gd]
    cases hj : ops[j]? with
    | none => cases (j == i) <;> cases (l.toList.getD j true) <;> simp
    | some oj =>
      cases (j == i) <;> cases (l.toList.getD j true) <;> cases (oj.after.any (fun e => Region.binds md e && e.on == i) || oi.apart ops oj) <;> simp_all
theorem closed_eq : Region.closedB md ops l = closedT (rtab md ops).2 l.toList := by
  unfold Region.closedB closedT
  rw [rtab_length]
  congr 1
  funext j
  rw [gd]
  cases h : ops[j]? with
  | none => rw [rtab_none h]
  | some o =>
    rw [rtab_some h]
    simp only
    rw [← needs_all]
    simp only [gd]
theorem reach_eq : ∀ (fuel d : Nat), Region.reachB md ops i fuel d = reachT (rtab md ops).2 i fuel d
  | 0, _ => rfl
  | fuel + 1, d => by
    unfold Region.reachB reachT
    cases h : ops[d]? with
    | none => rw [rtab_none h]
    | some o =>
      rw [rtab_some h]
      simp only
      rw [← needs_any]
      congr 1
      funext e
      rw [reach_eq fuel]
theorem last_eq : Region.lastB md ops l ds i = lastT (rtab md ops).2 l.toList ds i := by
  unfold Region.lastB lastT
  rw [rtab_length]
  congr 1
  funext d
  rw [gd, reach_eq]
theorem readyAt_mem (h : readyAt T.2 l.toList i = true) (hT : rtab md ops = T) : (Region.ready md ops l).contains i = true := by
  subst hT
  rw [ready_eq]
  unfold readyT
  rw [List.contains_iff_mem, List.mem_filter, List.mem_range]
  refine ⟨?_, h⟩
  unfold readyAt at h
  rw [Bool.and_eq_true] at h
  cases hq : (rtab md ops).2[i]? with
  | none => rw [hq] at h; simp at h
  | some r => exact (List.getElem?_eq_some_iff.1 hq).1
theorem set_of (h : (l.toList.set i true == l'.toList) = true) : (l.setIfInBounds i true == l') = true := by
  rw [beq_iff_eq] at h ⊢
  apply Array.ext'
  rw [Array.toList_setIfInBounds]
  exact h
def anyT (T : Bool × List (List Nat × List Nat)) (l l' : List Bool) (i : Nat) : Bool := T.1 && freeT T.2 l i && readyAt T.2 l i && (l.set i true == l')
theorem any_of (hT : rtab md ops = T) (h : anyT T l.toList l'.toList i = true) : anyB md ops l l' i = true := by
  simp only [anyT, Bool.and_eq_true] at h
  obtain ⟨⟨⟨h1, h2⟩, h3⟩, h4⟩ := h
  have h5 := readyAt_mem h3 hT
  have h6 := set_of h4
  subst hT
  simp only [anyB, Bool.and_eq_true]
  exact ⟨⟨⟨h1, by rw [free_eq]; exact h2⟩, h5⟩, h6⟩
def takeT (T : Bool × List (List Nat × List Nat)) (ds : List Nat) (l l' : List Bool) (i : Nat) : Bool := T.1 && freeT T.2 l i && readyAt T.2 l i && closedT T.2 l && lastT T.2 l ds i && (l.set i true == l')
theorem take_of (hT : rtab md ops = T) (h : takeT T ds l.toList l'.toList i = true) : takeB md ops ds l l' i = true := by
  simp only [takeT, Bool.and_eq_true] at h
  obtain ⟨⟨⟨⟨⟨h1, h2⟩, h3⟩, h4⟩, h5⟩, h6⟩ := h
  have h7 := readyAt_mem h3 hT
  have h8 := set_of h6
  subst hT
  simp only [takeB, Bool.and_eq_true]
  exact ⟨⟨⟨⟨⟨h1, by rw [free_eq]; exact h2⟩, h7⟩, by rw [closed_eq]; exact h4⟩, by rw [last_eq]; exact h5⟩, h8⟩
theorem one_of (hT : rtab md ops = T) (h : (readyT T.2 l.toList == [i] && l.toList.set i true == l'.toList) = true) : readyB md ops l l' i = true := by
  simp only [Bool.and_eq_true] at h
  obtain ⟨h1, h2⟩ := h
  subst hT
  simp only [readyB, Bool.and_eq_true]
  exact ⟨by rw [ready_eq]; exact h1, set_of h2⟩
theorem done_of (hT : rtab md ops = T) (h : (readyT T.2 l.toList == []) = true) : (Region.ready md ops l == []) = true := by
  subst hT
  rw [ready_eq]
  exact h
def upM (B : List Nat) (d : Nat) : List Nat → Nat
  | [] => 0
  | n :: r => (2 ^ n ||| (if n < d then B.getD n 0 else 0)) ||| upM B d r
def waitsOk (T : List (List Nat × List Nat)) (B : List Nat) : Bool := (List.range T.length).all fun d => match T[d]? with
  | some r => (B.getD d 0 ||| upM B d r.1) == upM B d r.1
  | none => false
theorem upM_bit {B : List Nat} {d i : Nat} : ∀ {ns : List Nat}, (upM B d ns).testBit i = true → ∃ n ∈ ns, n = i ∨ (n < d ∧ (B.getD n 0).testBit i = true)
  | [], h => by simp [upM] at h
  | n :: r, h => by
    unfold upM at h
    rw [Nat.testBit_or, Nat.testBit_or, Bool.or_eq_true, Bool.or_eq_true] at h
    rcases h with (h | h) | h
    · rw [Nat.testBit_two_pow] at h
      exact ⟨n, List.mem_cons_self, .inl (by simpa using h)⟩
    · by_cases hn : n < d
      · rw [if_pos hn] at h
        exact ⟨n, List.mem_cons_self, .inr ⟨hn, h⟩⟩
      · rw [if_neg hn] at h
        simp at h
    · obtain ⟨m, hm, h2⟩ := upM_bit h
      exact ⟨m, List.mem_cons_of_mem _ hm, h2⟩
theorem reach_bit {T : List (List Nat × List Nat)} {B : List Nat} (hB : waitsOk T B = true) : ∀ (fuel d : Nat), d < fuel → d < T.length → (B.getD d 0).testBit i = true → reachT T i fuel d = true
  | 0, d, h, _, _ => by omega
  | fuel + 1, d, h, hd, hb => by
    have h1 := List.all_eq_true.1 hB d (List.mem_range.2 hd)
    cases hr : T[d]? with
    | none => rw [hr] at h1; simp at h1
    | some r =>
      rw [hr] at h1
      simp only [beq_iff_eq] at h1
      have h2 : (upM B d r.1).testBit i = true := by rw [← h1, Nat.testBit_or, hb, Bool.true_or]
      obtain ⟨n, hn, h3⟩ := upM_bit h2
      unfold reachT
      rw [hr]
      simp only
      rw [List.any_eq_true]
      refine ⟨n, hn, ?_⟩
      rcases h3 with rfl | ⟨h4, h5⟩
      · simp
      · rw [reach_bit hB fuel n (by omega) (by omega) h5, Bool.or_true]
def lastW (T : List (List Nat × List Nat)) (B : List Nat) (l : List Bool) (ds : List Nat) (i : Nat) : Bool := ds.all fun d => l.getD d true || (decide (d < T.length) && (B.getD d 0).testBit i)
def takeW (T : Bool × List (List Nat × List Nat)) (B : List Nat) (ds : List Nat) (l l' : List Bool) (i : Nat) : Bool := T.1 && freeT T.2 l i && readyAt T.2 l i && closedT T.2 l && lastW T.2 B l ds i && (l.set i true == l')
theorem take_ofW {B : List Nat} (hT : rtab md ops = T) (hB : waitsOk T.2 B = true) (h : takeW T B ds l.toList l'.toList i = true) : takeB md ops ds l l' i = true := by
  refine take_of hT ?_
  simp only [takeW, takeT, Bool.and_eq_true] at h ⊢
  obtain ⟨⟨⟨⟨⟨h1, h2⟩, h3⟩, h4⟩, h5⟩, h6⟩ := h
  refine ⟨⟨⟨⟨⟨h1, h2⟩, h3⟩, h4⟩, ?_⟩, h6⟩
  unfold lastW at h5
  unfold lastT
  rw [List.all_eq_true] at h5 ⊢
  intro d hd
  have h7 := h5 d hd
  rw [Bool.or_eq_true, Bool.and_eq_true, decide_eq_true_eq] at h7
  rcases h7 with h7 | ⟨h8, h9⟩
  · rw [h7, Bool.true_or]
  · rw [reach_bit hB _ d h8 h8 h9, Bool.or_true]
theorem with_tabW {P : Program} {Q : Exit → Act → World → Prop} {S : World → Prop} {n : Nat} {a : Act} {w : World} {B : List Nat} (hT : rtab md ops = T) (hB : waitsOk T.2 B = true) (h : Aside0 (rtab md ops = T) → Aside0 (waitsOk T.2 B = true) → wpAnyLast P md ops Q S ds n l a w) : wpAnyLast P md ops Q S ds n l a w := h ⟨hT⟩ ⟨hB⟩
end
def opsIn : Code → Nat → Option (Array Oper)
  | .region id ops _, k => if id == k then some ops else none
  | .seq a b, k => match opsIn a k with
    | some o => some o
    | none => opsIn b k
  | .cond _ a b, k => match opsIn a k with
    | some o => some o
    | none => opsIn b k
  | .block _ c, k => opsIn c k
  | .loop c, k => opsIn c k
  | .scope c, k => opsIn c k
  | .rangeFunc _ _ a b, k => match opsIn a k with
    | some o => some o
    | none => opsIn b k
  | _, _ => none
def opsOf (f : Func) (k : Nat) : Array Oper := ((f.body.bind fun c => opsIn c k)).getD #[]
end Go.Proofs.YtafbdpdbagkbgaaDoorW.PrintLast
end
section
namespace Go.Proofs.YtafbdpdbagkbgaaDoorW.PrintWords
theorem Reps.one {α : Type} {R : α → List Value → Prop} {ps : List α} {cs : List Value} {p : α} {v : Value} (hp : R p [v]) (h : Reps R 1 ps cs) : Reps R 1 (p :: ps) (v :: cs) := by
  refine ⟨by simp [h.1], fun j q hq => ?_⟩
  cases j with
  | zero =>
    simp only [List.getElem?_cons_zero, Option.some.injEq] at hq
    subst hq
    simpa using hp
  | succ j =>
    simp only [List.getElem?_cons_succ] at hq
    have h1 := h.2 j q hq
    simpa [Nat.mul_one] using h1
theorem Reps.front {α : Type} {R : α → List Value → Prop} {size : Nat} {ps : List α} {cs c all : List Value} {p : α} (hp : R p c) (hc : c.length = size) (h : Reps R size ps cs) (ha : c ++ cs = all) : Reps R size (p :: ps) all := by
  subst ha
  refine ⟨by rw [List.length_append, hc, h.1, List.length_cons, Nat.succ_mul, Nat.add_comm], fun j q hq => ?_⟩
  cases j with
  | zero =>
    simp only [List.getElem?_cons_zero, Option.some.injEq] at hq
    subst hq
    rw [Nat.zero_mul, List.drop_zero, List.take_append_of_le_length (by omega), List.take_of_length_le (by omega)]
    exact hp
  | succ j =>
    simp only [List.getElem?_cons_succ] at hq
    have h1 := h.2 j q hq
    rw [Nat.succ_mul, List.drop_append, List.drop_of_length_le (by rw [hc]; exact Nat.le_add_left _ _), List.nil_append, hc, Nat.add_sub_cancel]
    exact h1
theorem Reps.c2 {α : Type} {R : α → List Value → Prop} {ps : List α} {cs : List Value} {p : α} {va vb : Value} (hp : R p [va, vb]) (h : Reps R 2 ps cs) : Reps R 2 (p :: ps) (va :: vb :: cs) := Reps.front hp rfl h rfl
theorem Reps.c3 {α : Type} {R : α → List Value → Prop} {ps : List α} {cs : List Value} {p : α} {va vb vc : Value} (hp : R p [va, vb, vc]) (h : Reps R 3 ps cs) : Reps R 3 (p :: ps) (va :: vb :: vc :: cs) := Reps.front hp rfl h rfl
theorem Reps.c4 {α : Type} {R : α → List Value → Prop} {ps : List α} {cs : List Value} {p : α} {va vb vc vd : Value} (hp : R p [va, vb, vc, vd]) (h : Reps R 4 ps cs) : Reps R 4 (p :: ps) (va :: vb :: vc :: vd :: cs) := Reps.front hp rfl h rfl
theorem Reps.c5 {α : Type} {R : α → List Value → Prop} {ps : List α} {cs : List Value} {p : α} {va vb vc vd ve : Value} (hp : R p [va, vb, vc, vd, ve]) (h : Reps R 5 ps cs) : Reps R 5 (p :: ps) (va :: vb :: vc :: vd :: ve :: cs) := Reps.front hp rfl h rfl
theorem Reps.c6 {α : Type} {R : α → List Value → Prop} {ps : List α} {cs : List Value} {p : α} {va vb vc vd ve vf : Value} (hp : R p [va, vb, vc, vd, ve, vf]) (h : Reps R 6 ps cs) : Reps R 6 (p :: ps) (va :: vb :: vc :: vd :: ve :: vf :: cs) := Reps.front hp rfl h rfl
theorem Reps.c7 {α : Type} {R : α → List Value → Prop} {ps : List α} {cs : List Value} {p : α} {va vb vc vd ve vf vg : Value} (hp : R p [va, vb, vc, vd, ve, vf, vg]) (h : Reps R 7 ps cs) : Reps R 7 (p :: ps) (va :: vb :: vc :: vd :: ve :: vf :: vg :: cs) := Reps.front hp rfl h rfl
theorem Reps.c8 {α : Type} {R : α → List Value → Prop} {ps : List α} {cs : List Value} {p : α} {va vb vc vd ve vf vg vh : Value} (hp : R p [va, vb, vc, vd, ve, vf, vg, vh]) (h : Reps R 8 ps cs) : Reps R 8 (p :: ps) (va :: vb :: vc :: vd :: ve :: vf :: vg :: vh :: cs) := Reps.front hp rfl h rfl
theorem Reps.c9 {α : Type} {R : α → List Value → Prop} {ps : List α} {cs : List Value} {p : α} {va vb vc vd ve vf vg vh vi : Value} (hp : R p [va, vb, vc, vd, ve, vf, vg, vh, vi]) (h : Reps R 9 ps cs) : Reps R 9 (p :: ps) (va :: vb :: vc :: vd :: ve :: vf :: vg :: vh :: vi :: cs) := Reps.front hp rfl h rfl
theorem Reps.c10 {α : Type} {R : α → List Value → Prop} {ps : List α} {cs : List Value} {p : α} {va vb vc vd ve vf vg vh vi vj : Value} (hp : R p [va, vb, vc, vd, ve, vf, vg, vh, vi, vj]) (h : Reps R 10 ps cs) : Reps R 10 (p :: ps) (va :: vb :: vc :: vd :: ve :: vf :: vg :: vh :: vi :: vj :: cs) := Reps.front hp rfl h rfl
end Go.Proofs.YtafbdpdbagkbgaaDoorW.PrintWords
end
section
namespace Go.Proofs.YtafbdpdbagkbgaaDoorW.PrintLast
def up (b : Nat → Bool) (i : Nat) : Nat → Bool := fun j => if j = i then true else b j
section
variable {P : Program} {ops : Array Oper} {Q : Exit → Act → World → Prop} {md : Region.Mode} {T : Bool × List (List Nat × List Nat)} {B : List Nat} {O : List Nat} {b : Nat → Bool} {i j n : Nat}
end
end Go.Proofs.YtafbdpdbagkbgaaDoorW.PrintLast
end
namespace Go.Proofs.YtafbdpdbagkbgaaDoor
open Go.Proofs.YtafbdpdbagkbgaaDoorW.PrintWords
theorem mk0 {p : Prop} (h : p) : Aside0 p := ⟨h⟩
theorem zq0 {P : Prop} (h : P := by repeat (first | (with_reducible first | exact HB.out | apply below_alloc | apply pw_below_drewN | apply below_drew1) | exact HB.out)) : P := h
theorem zq1 {P : Prop} (h : P := by first | (with_reducible assumption) | assumption) : P := h
theorem zq2 {P : Prop} (h : P := by (try simp only [List.map_toArray, List.map_cons, List.map_nil]); first | done | rfl | (simp only [List.length_drop, List.length_take]; rfl)) : P := h
theorem zq3 {P : Prop} (h : P := by first | rfl | (simp; done) | (simp [*]; done)) : P := h
theorem zq4 {P : Prop} (h : P := by (with_reducible repeat (first | apply Kd.R_alloc | apply Kd.R_drewN | apply Kd.R_drew)); exact HO_4.out) : P := h
theorem zq5 {P : Prop} (h : P := by repeat (first | (with_reducible first | exact HK.out | apply Kept.alloc | apply Kept.drewN | apply Kept.drew) | exact HK.out)) : P := h
theorem zq6 {P : Prop} (h : P := by repeat (first | (with_reducible first | exact HB.out | apply below_alloc | apply pw_below_drewN | apply below_drew1 | refine below_set ?_ (IsS84.ge HI0.out)) | exact HB.out)) : P := h
theorem zq7 {P : Prop} (h : P := by (with_reducible repeat (first | apply Kd.R_alloc | apply Kd.R_drewN | apply Kd.R_drew)); exact HO104.out) : P := h
theorem zq8 {P : Prop} (h : P := by repeat (first | (with_reducible first | exact HI0.out | apply IsS84.alloc | apply IsS84.drewN | apply IsS84.drew | apply IsS84.set_0 | apply IsS84.set_1) | exact HI0.out)) : P := h
theorem zq9 {P : Prop} (h : P := by repeat (first | (with_reducible first | exact HK.out | apply KeepBut.set_ | apply keep_drewN | apply keep_drew | apply keep_alloc) | exact HK.out)) : P := h
theorem zq10 {P : Prop} (h : P := by first | with_reducible rfl | (simp only [← hji22]; done) | rfl | (simp; done) | (simp [*]; done)) : P := h
theorem zq11 {P : Prop} (h : P := by first | exact HG.out | exact Laid.below HG.out zq0) : P := h
theorem zq12 {P : Prop} (h : P := by first | exact HM_1.out | exact (bel_cell zq0 (World.block_lt_of_cell? _ _ HM_1.out)).trans HM_1.out) : P := h
theorem zq13 {P : Prop} (h : P := by (with_reducible repeat (first | apply Kd.R_alloc | apply Kd.R_drewN | apply Kd.R_drew)); exact HO_0.out) : P := h
theorem zq14 {P : Prop} (h : P := by (with_reducible repeat (first | apply Kd.R_alloc | apply Kd.R_drewN | apply Kd.R_drew)); exact HO108.out) : P := h
theorem zq15 {P : Prop} (h : P := by (try simp only [List.map_toArray, List.map_cons, List.map_nil]); first | done | (rw [show (l0.drop 6).length = (l0.length - 6) from List.length_drop] <;> rfl) | rfl | (simp only [List.length_drop, List.length_take]; rfl)) : P := h
theorem zq16 {P : Prop} (h : P := by kernel_rfl) : P := h
theorem zq17 {P : Prop} (h : P := by first | exact HK.out.1 | exact (show Kept w _ (fun k_ => P0_ k_) from zq5).1) : P := h
theorem zq18 {P : Prop} (h : P := by repeat (first | exact HR106.out | (with_reducible refine Kd.C_alloc ?_ _) | (with_reducible refine Kd.C_drewN ?_ _) | (with_reducible refine Kd.C_drew ?_))) : P := h
theorem zq19 {P : Prop} (h : P := by repeat (first | exact HR0.out | (with_reducible refine Kd.C_alloc ?_ _) | (with_reducible refine Kd.C_drewN ?_ _) | (with_reducible refine Kd.C_drew ?_))) : P := h
theorem zq20 {P : Prop} (h : P := by simp only [List.length_cons]; omega) : P := h
theorem zq21 {P : Prop} (h : P := by (with_reducible repeat (first | apply Kd.R_alloc | apply Kd.R_drewN | apply Kd.R_drew)); exact HO0.out) : P := h
theorem zq22 {P : Prop} (h : P := by first | (go_simp; done) | (go_simp; rfl)) : P := h
theorem zq23 {P : Prop} (h : P := by decide) : P := h
theorem zq24 {P : Prop} (h : P := by injection e105) : P := h
theorem zq25 {P : Prop} (h : P := by rw [ByteArray.size_extract]; omega) : P := h
theorem zq26 {P : Prop} (h : P := by injection e103) : P := h
theorem zq27 {P : Prop} (h : P := by injection e107) : P := h
theorem zq28 {P : Prop} (h : P := by simp; omega) : P := h
theorem zq29 {P : Prop} (h : P := by simp only [List.length_append, List.length_singleton]; omega) : P := h
end Go.Proofs.YtafbdpdbagkbgaaDoor
section
namespace Go.Proofs.YtafbdpdbagkbgaaDoor.J
open Go.RowKit Go.Proofs.YtafbdpdbagkbgaaDoorW.PrintWords Go.Proofs.YtafbdpdbagkbgaaDoorW.PrintLast
theorem w64 {x : Int} (h : -9223372036854775808 ≤ x ∧ x ≤ 9223372036854775807) : wrap64 x = x := by
 unfold wrap64
 omega
theorem Ev_same {α : Type} {g : Nat → Option α} {r r' : α} (h : Ev g r) (e : r = r') : Ev g r' := e ▸ h
def From (s : ByteArray) (i : Nat) (l : List Int) : Prop := i ≤ s.size ∧ (bytesOf s).drop i = l
theorem From.len {s : ByteArray} {i : Nat} {l : List Int} (h : From s i l) : i + l.length = s.size := by
 have h1 := h.1
 rw [← h.2, List.length_drop, bytesOf_length]
 omega
theorem From.start (s : ByteArray) : From s 0 (bytesOf s) := ⟨Nat.zero_le _, rfl⟩
theorem From.at {s : ByteArray} {i : Nat} (h : i ≤ s.size) : From s i ((bytesOf s).drop i) := ⟨h, rfl⟩
theorem From.drop {s : ByteArray} {i : Nat} {l : List Int} (h : From s i l) (n : Nat) (hn : n ≤ l.length) : From s (i + n) (l.drop n) := by
 have := h.len
 exact ⟨by omega, by rw [← h.2, List.drop_drop]⟩
theorem From.app {s : ByteArray} {i : Nat} {a l : List Int} (h : From s i (a ++ l)) : From s (i + a.length) l := by
 have := h.drop a.length (by simp)
 simpa using this
theorem From.tail {s : ByteArray} {i : Nat} {a : Int} {l : List Int} (h : From s i (a :: l)) : From s (i + 1) l := by
 have := h.drop 1 (by simp)
 simpa using this
theorem From.lt {s : ByteArray} {i : Nat} {a : Int} {l : List Int} (h : From s i (a :: l)) : i < s.size := by
 have := h.len
 simp at this
 omega
theorem From.bt {s : ByteArray} {i : Nat} {a : Int} {l : List Int} (h : From s i (a :: l)) : bt s (i : Int) = a := by
 have h1 : (bytesOf s)[i]? = some a := by
  have := congrArg (·[0]?) h.2
  simpa using this
 rw [← rd_bytesOf]
 unfold rd
 simp [List.getD_eq_getElem?_getD, h1]
theorem From.nil {s : ByteArray} {i : Nat} (h : From s i []) : i = s.size := by
 have := h.len
 simpa using this
theorem bytesOf_range (s : ByteArray) : ∀ a ∈ bytesOf s, 0 ≤ a ∧ a ≤ 255 := by
 intro a ha
 unfold bytesOf at ha
 rw [List.mem_map] at ha
 obtain ⟨b, _, rfl⟩ := ha
 have := b.toNat_lt
 omega
theorem From.range {s : ByteArray} {i : Nat} {l : List Int} (h : From s i l) : ∀ a ∈ l, 0 ≤ a ∧ a ≤ 255 := by
 intro a ha
 rw [← h.2] at ha
 exact bytesOf_range s a (List.mem_of_mem_drop ha)
theorem From.head {s : ByteArray} {i : Nat} {a : Int} {l : List Int} (h : From s i (a :: l)) : 0 ≤ a ∧ a ≤ 255 := h.range a (by simp)
theorem bytesOf_extract (s : ByteArray) (i j : Nat) : bytesOf (s.extract i j) = ((bytesOf s).take j).drop i := by
 unfold bytesOf
 rw [ByteArray.data_extract, Array.toList_extract, List.extract_eq_take_drop, List.map_take, List.map_drop, List.drop_take]
theorem From.extract {s : ByteArray} {i : Nat} {a l : List Int} (h : From s i (a ++ l)) : bytesOf (s.extract i (i + a.length)) = a := by
 rw [bytesOf_extract, List.drop_take, h.2]
 simp
theorem strOfNums_bytesOf (s : ByteArray) : strOfNums (bytesOf s) = s := by
 apply ByteArray.ext
 apply Array.toList_inj.mp
 rw [strOfNums_data]
 unfold bytesOf
 rw [List.map_map]
 conv => rhs; rw [← List.map_id s.data.toList]
 apply List.map_congr_left
 intro b _
 simp [Function.comp]
theorem bytesOf_inj {s t : ByteArray} (h : bytesOf s = bytesOf t) : s = t := by
 rw [← strOfNums_bytesOf s, h, strOfNums_bytesOf]
theorem toList_inj {s t : ByteArray} (h : s.toList = t.toList) : s = t := by
 rw [ByteArray.toList_eq, ByteArray.toList_eq] at h
 exact ByteArray.ext (Array.toList_inj.mp h)
def hexv (c : Int) : Option Int := if 48 ≤ c ∧ c ≤ 57 then some (c - 48) else if 97 ≤ c ∧ c ≤ 102 then some (c - 87) else if 65 ≤ c ∧ c ≤ 70 then some (c - 55) else none
theorem hexv_range {c v : Int} (h : hexv c = some v) : 0 ≤ v ∧ v ≤ 15 := by
 unfold hexv at h
 split at h
 ·cases h; omega
 split at h
 ·cases h; omega
 split at h
 ·cases h; omega
 ·cases h
def hex4 : List Int → Option Int
  | a :: b :: c :: d :: _ => (hexv a).bind fun x => (hexv b).bind fun y => (hexv c).bind fun z => (hexv d).bind fun u => some (((x * 16 + y) * 16 + z) * 16 + u)
  | _ => none
theorem hex4_len {l : List Int} {v : Int} (h : hex4 l = some v) : 4 ≤ l.length := by
 unfold hex4 at h
 split at h
 ·simp
 ·cases h
theorem hex4_range {l : List Int} {v : Int} (h : hex4 l = some v) : 0 ≤ v ∧ v ≤ 65535 := by
 unfold hex4 at h
 split at h
 ·rename_i a b c d _
  obtain ⟨x, hx, h⟩ := Option.bind_eq_some_iff.mp h
  obtain ⟨y, hy, h⟩ := Option.bind_eq_some_iff.mp h
  obtain ⟨z, hz, h⟩ := Option.bind_eq_some_iff.mp h
  obtain ⟨u, hu, h⟩ := Option.bind_eq_some_iff.mp h
  have := hexv_range hx
  have := hexv_range hy
  have := hexv_range hz
  have := hexv_range hu
  cases h
  omega
 ·cases h
def isE (c : Int) : Bool := decide (c = 34 ∨ c = 92 ∨ c = 47 ∨ c = 98 ∨ c = 102 ∨ c = 110 ∨ c = 114 ∨ c = 116)
def escL : List Int → Option (List Int)
  | [] => none
  | c :: r => if isE c = true then some r else if c = 117 then (hex4 r).bind fun _ => some (r.drop 4) else none
theorem escL_len {l r : List Int} (h : escL l = some r) : r.length < l.length := by
 unfold escL at h
 split at h
 ·cases h
 ·split at h
  ·cases h; simp
  ·split at h
   ·obtain ⟨v, hv, h⟩ := Option.bind_eq_some_iff.mp h
    have := hex4_len hv
    cases h
    simp
    omega
   ·cases h
def strL (l : List Int) : Option (List Int) :=
  match l with
  | [] => none
  | c :: r => if c = 34 then some r else if c < 32 then none else if c = 92 then (match _h : escL r with
    | none => none
    | some r' => strL r') else strL r
termination_by l.length
decreasing_by
  · have := escL_len ‹_›
    simp; omega
  · simp
theorem strL_nil : strL [] = none := by rw [strL]
theorem strL_end (r : List Int) : strL (34 :: r) = some r := by rw [strL, if_pos rfl]
theorem strL_low {c : Int} (r : List Int) (h : c < 32) : strL (c :: r) = none := by
 rw [strL, if_neg (by omega), if_pos h]
theorem strL_esc (r : List Int) : strL (92 :: r) = (escL r).bind strL := by
 rw [strL, if_neg (by omega), if_neg (by omega), if_pos rfl]
 split
 ·rename_i h
  rw [h]; rfl
 ·rename_i r' h
  rw [h]; rfl
theorem strL_raw {c : Int} (r : List Int) (h : c ≠ 34 ∧ ¬ c < 32 ∧ c ≠ 92) : strL (c :: r) = strL r := by
 rw [strL, if_neg h.1, if_neg h.2.1, if_neg h.2.2]
theorem strL_len : ∀ (n : Nat) (l r : List Int), l.length ≤ n → strL l = some r → r.length < l.length
 | _, [], r, _, h => by rw [strL_nil] at h; cases h
 | 0, c :: l, r, hn, h => by simp at hn
 | n + 1, c :: l, r, hn, h => by
  simp only [List.length_cons] at hn ⊢
  by_cases h1 : c = 34
  ·subst h1
   rw [strL_end] at h
   cases h
   omega
  by_cases h2 : c < 32
  ·rw [strL_low _ h2] at h
   cases h
  by_cases h3 : c = 92
  rotate_left
  ·rw [strL_raw _ ⟨h1, h2, h3⟩] at h
   have := strL_len n l r (by omega) h
   omega
  subst h3
  rw [strL_esc] at h
  obtain ⟨r', h4, h5⟩ := Option.bind_eq_some_iff.mp h
  have := escL_len h4
  have := strL_len n r' r (by omega) h5
  omega
def unl (b : Int) : Int := if b = 98 then 8 else if b = 102 then 12 else if b = 110 then 10 else if b = 114 then 13 else if b = 116 then 9 else b
def hiS (n : Int) : Bool := decide (55296 ≤ n ∧ n ≤ 56319)
def loS (n : Int) : Bool := decide (56320 ≤ n ∧ n ≤ 57343)
def utf (c : Int) : List Int :=
  if c < 128 then [c]
  else if c < 2048 then [192 + c / 64, 128 + c % 64]
  else if hiS c = true ∨ loS c = true then [239, 191, 189]
  else if c < 65536 then [224 + c / 4096, 128 + c / 64 % 64, 128 + c % 64]
  else [240 + c / 262144, 128 + c / 4096 % 64, 128 + c / 64 % 64, 128 + c % 64]
def unitL : List Int → Option Int
  | a :: b :: r => if a = 92 ∧ b = 117 then hex4 r else none
  | _ => none
theorem unitL_len {l : List Int} {v : Int} (h : unitL l = some v) : 6 ≤ l.length := by
 unfold unitL at h
 split at h
 ·split at h
  ·have := hex4_len h
   simp
   omega
  ·cases h
 ·cases h
def unqL (l : List Int) : List Int :=
  match l with
  | [] => []
  | c :: r => if c = 92 then (match _h : unitL (c :: r) with
      | some n => if (match unitL (r.drop 5) with | some m => hiS n && loS m | none => false) = true then utf (65536 + (n - 55296) * 1024 + ((unitL (r.drop 5)).getD 0 - 56320)) ++ unqL (r.drop 11) else utf n ++ unqL (r.drop 5)
      | none => (match r with
        | [] => []
        | b :: r' => unl b :: unqL r')) else c :: unqL r
termination_by l.length
decreasing_by all_goals (simp; try omega)

inductive Body : List Int → Prop
  | nil : Body []
  | raw {c : Int} {l : List Int} : c ≠ 34 → ¬ c < 32 → c ≠ 92 → Body l → Body (c :: l)
  | two {b : Int} {l : List Int} : isE b = true → Body l → Body (92 :: b :: l)
  | six {a b c d v : Int} {l : List Int} : hex4 (a :: b :: c :: d :: l) = some v → Body l → Body (92 :: 117 :: a :: b :: c :: d :: l)
theorem hex4_more {a b c d : Int} (l l' : List Int) : hex4 (a :: b :: c :: d :: l) = hex4 (a :: b :: c :: d :: l') := rfl
theorem isE_117 : isE 117 = false := by decide
theorem escL_let {b : Int} (l : List Int) (h : isE b = true) : escL (b :: l) = some l := by
 rw [escL, if_pos h]
theorem escL_hex {a b c d v : Int} {l : List Int} (h : hex4 (a :: b :: c :: d :: l) = some v) : escL (117 :: a :: b :: c :: d :: l) = some l := by
 rw [escL, if_neg (by simp [isE_117]), if_pos rfl, h]
 rfl
theorem strL_body {b : List Int} (h : Body b) (r : List Int) : strL (b ++ 34 :: r) = some r := by
 induction h with
 | nil => exact strL_end r
 | raw h1 h2 h3 _ ih => rw [List.cons_append, strL_raw _ ⟨h1, h2, h3⟩, ih]
 | two h1 _ ih => rw [List.cons_append, List.cons_append, strL_esc, escL_let _ h1]; exact ih
 | six h1 _ ih =>
  simp only [List.cons_append]
  rw [strL_esc, escL_hex (v := by assumption) ((hex4_more _ _).trans h1)]
  exact ih
theorem escL_ex {l r : List Int} (h : escL l = some r) : (∃ b, isE b = true ∧ l = b :: r) ∨ ∃ a b c d v, hex4 (a :: b :: c :: d :: r) = some v ∧ l = 117 :: a :: b :: c :: d :: r := by
 unfold escL at h
 split at h
 ·cases h
 ·rename_i c l
  split at h
  ·cases h
   exact .inl ⟨_, by assumption, rfl⟩
  ·split at h
   ·obtain ⟨v, hv, h⟩ := Option.bind_eq_some_iff.mp h
    cases h
    subst c
    match l, hv with
    | a :: b :: c :: d :: l, hv => exact .inr ⟨a, b, c, d, v, hv, rfl⟩
   ·cases h
theorem body_strL : ∀ (n : Nat) {l r : List Int}, l.length ≤ n → strL l = some r → ∃ b, Body b ∧ l = b ++ 34 :: r
 | _, [], r, _, h => by rw [strL_nil] at h; cases h
 | 0, c :: l, r, hn, h => by simp at hn
 | n + 1, c :: l, r, hn, h => by
  simp only [List.length_cons] at hn
  by_cases h1 : c = 34
  ·subst h1
   rw [strL_end] at h
   cases h
   exact ⟨[], .nil, rfl⟩
  by_cases h2 : c < 32
  ·rw [strL_low _ h2] at h
   cases h
  by_cases h3 : c = 92
  rotate_left
  ·rw [strL_raw _ ⟨h1, h2, h3⟩] at h
   obtain ⟨t, ht, e⟩ := body_strL n (by omega) h
   exact ⟨c :: t, .raw h1 h2 h3 ht, by rw [e]; rfl⟩
  subst h3
  rw [strL_esc] at h
  obtain ⟨r', h4, h5⟩ := Option.bind_eq_some_iff.mp h
  have := escL_len h4
  obtain ⟨t, ht, e⟩ := body_strL n (by omega) h5
  rcases escL_ex h4 with ⟨b, hb, rfl⟩ | ⟨a, b, c, d, v, hv, rfl⟩
  ·exact ⟨92 :: b :: t, .two hb ht, by rw [e]; rfl⟩
  ·subst e
   exact ⟨92 :: 117 :: a :: b :: c :: d :: t, .six ((hex4_more _ _).trans hv) ht, rfl⟩
theorem strL_iff {l r : List Int} : strL l = some r ↔ ∃ b, Body b ∧ l = b ++ 34 :: r :=
 ⟨fun h => body_strL _ (Nat.le_refl _) h, fun ⟨_, hb, e⟩ => e ▸ strL_body hb r⟩
theorem unqL_nil : unqL [] = [] := by rw [unqL]
theorem unqL_raw {c : Int} (l : List Int) (h : c ≠ 92) : unqL (c :: l) = c :: unqL l := by
 rw [unqL, if_neg h]
theorem unitL_six {a b c d v : Int} {l : List Int} (h : hex4 (a :: b :: c :: d :: l) = some v) : unitL (92 :: 117 :: a :: b :: c :: d :: l) = some v := by
 show (if (92 : Int) = 92 ∧ (117 : Int) = 117 then hex4 (a :: b :: c :: d :: l) else none) = some v
 rw [if_pos ⟨rfl, rfl⟩, h]
theorem unitL_two {b : Int} {l : List Int} (h : b ≠ 117) : unitL (92 :: b :: l) = none := by
 show (if (92 : Int) = 92 ∧ b = 117 then hex4 l else none) = none
 rw [if_neg (by omega)]
theorem isE_ne {b : Int} (h : isE b = true) : b ≠ 117 := fun e => by rw [e, isE_117] at h; cases h
theorem unqL_two {b : Int} (l : List Int) (h : b ≠ 117) : unqL (92 :: b :: l) = unl b :: unqL l := by
 rw [unqL, if_pos rfl]
 split
 ·rename_i n hn
  rw [unitL_two h] at hn
  cases hn
 ·rfl
def pairL (n : Int) (l : List Int) : Option Int := (unitL l).bind fun m => if (hiS n && loS m) = true then some m else none
theorem unqL_six {a b c d v : Int} {l : List Int} (h : hex4 (a :: b :: c :: d :: l) = some v) : unqL (92 :: 117 :: a :: b :: c :: d :: l) =
 match pairL v l with
 | some m => utf (65536 + (v - 55296) * 1024 + (m - 56320)) ++ unqL (l.drop 6)
 | none => utf v ++ unqL l := by
 rw [unqL, if_pos rfl]
 split
 ·rename_i n hn
  rw [unitL_six h] at hn
  cases hn
  simp only [List.drop_succ_cons, List.drop_zero, pairL]
  cases hu : unitL l with
  | none => simp
  | some m =>
   simp only [Option.bind_some, Option.getD_some]
   by_cases e : (hiS v && loS m) = true
   rotate_left
   ·rw [if_neg e, if_neg e]
   rw [if_pos e, if_pos e]
 ·rename_i hn
  rw [unitL_six h] at hn
  cases hn
theorem utf_len (c : Int) : 1 ≤ (utf c).length ∧ (utf c).length ≤ 4 := by
 unfold utf
 repeat' split
 all_goals simp
end Go.Proofs.YtafbdpdbagkbgaaDoor.J
end
section
namespace Go.Proofs.YtafbdpdbagkbgaaDoor.Q
open Go.RowKit Go.Proofs.YtafbdpdbagkbgaaDoorW.PrintWords Go.Proofs.YtafbdpdbagkbgaaDoorW.PrintLast Go.Proofs.YtafbdpdbagkbgaaDoorW.PrintMore
attribute [local go_sem] max2_int min2_int max_two min_two max_three min_three max_four min_four
set_option linter.unusedVariables false
set_option linter.unusedSimpArgs false
def errW : Option (TypeId × Value) → Value
  | none => .nilIface
  | some c => .iface c.1 c.2
theorem errW_none : errW none = .nilIface := rfl
theorem errW_some (c : TypeId × Value) : errW (some c) = .iface c.1 c.2 := rfl
theorem info5 : (Tryd.prog.info? 5).map (fun i => (i.zero, i.size, i.bytes)) = some (some (.int .u8 0), 1, 1) := by kernel_rfl
theorem info9 : (Tryd.prog.info? 9).map (fun i => (i.zero, i.size, i.bytes)) = some (some (.string ⟨#[]⟩), 1, 16) := by kernel_rfl
def Zk (z : Option (TypeId × Value)) (r : Option Int) : Prop := z.isSome = r.isSome
theorem Zk.none_ {z : Option (TypeId × Value)} (h : Zk z none) : z = none := by cases z <;> simp_all [Zk]
theorem Zk.some_ {z : Option (TypeId × Value)} {q : Int} (h : Zk z (some q)) : ∃ m, z = some m := by cases z <;> simp_all [Zk]
theorem Zk.nn : Zk none none := rfl
theorem Zk.ss {a : TypeId × Value} {b : Int} : Zk (some a) (some b) := rfl
def numsOf (s : ByteArray) : List Int := s.data.toList.map fun b => (b.toNat : Int)
theorem strOfNums_numsOf (s : ByteArray) : strOfNums (numsOf s) = s := by
 apply ByteArray.ext
 apply Array.toList_inj.mp
 simp only [strOfNums, numsOf, List.map_map]
 have e : ((fun n : Int => UInt8.ofNat n.toNat) ∘ fun b : UInt8 => (b.toNat : Int)) = id := by
  funext b
  simp
 rw [e, List.map_id]
theorem bel_cell {B : Nat} {w w' : World} (h : Below B w w') {a : Addr} (ha : a.block < B) : w'.cell? a = w.cell? a := by unfold World.cell?; rw [h.block a.block ha]
theorem R_make0g {P : Program} {ops : Array Oper} {rest : List Oper} {o : Oper} {a : Act} {Q : Exit → Act → World → Prop} {α : Type} (d : Kd α) {w0 W : World} (base e : Nat) (hgd : o.guard = none) {N : Tmp} (hd : o.dst = some N) (t : TypeId) (x y : Operand) (ho : o.op = .makeSlice t x y) (n : Int) (hx : a.eval x = .int .i64 0) (hy : a.eval y = .int .i64 n)
 (ht : P.underlying t = some (.slice e)) (z : Value) (bytes : Nat) (hinfo : (P.info? e).map (fun i => (i.zero, i.size, i.bytes)) = some (some z, d.sz, bytes)) (hb0 : 0 < bytes)
 {ok : Nat → Prop} (hfresh : ok W.heap.size) (h0 : 0 ≤ n) (hl : n.toNat * bytes ≤ 281474976710656) (HB : Below base w0 W) (hbase : base ≤ W.heap.size)
 (h : ∀ v1 w1, d.R e w1 base ok v1 [] → Below base w0 w1 → W.grownBy w1 none → (∃ b, v1.ownBlock = some b ∧ W.heap.size ≤ b) → wpList P ops Q rest (a.put o.dst v1) w1) : wpList P ops Q (o :: rest) a W := by
 obtain ⟨m, rfl⟩ := Int.eq_ofNat_of_zero_le h0
 simp only [Int.toNat_natCast] at hl
 obtain ⟨i0, hi, hzz⟩ := Option.map_eq_some_iff.1 hinfo
 simp only [Prod.mk.injEq] at hzz
 obtain ⟨hz0, hz1, hz2⟩ := hzz
 have hm : m ≤ 281474976710656 := Nat.le_trans (Nat.le_mul_of_pos_right _ hb0) hl
 obtain ⟨w', hr, hown, hg⟩ := run_make_own (P := P) W base t e i0 z d.sz ht hi hz0 hz1 .i64 .i64 m (by rw [hz2, Nat.mul_comm]; exact hl) (by simp only [maxLen]; omega) hbase
 refine Kd.event_run hgd (by simp only [execOp, ho, hx, hy]; rw [Sem.run_bind, hr]; rfl) (h _ _ ⟨fun q hq => ?_, [], hown, Reps.none _ _⟩ (HB.grown hg hbase (fun q hq => by simp at hq)) hg ⟨W.heap.size, by simp [Value.ownBlock], Nat.le_refl _⟩)
 have : W.heap.size = q := by simpa [Value.ownBlock] using hq
 exact this ▸ hfresh
def tabv (j : Nat) : Int := if j = 34 then 34 else if j = 92 then 92 else if j = 47 then 47 else if j = 98 then 8 else if j = 102 then 12 else if j = 110 then 10 else if j = 114 then 13 else if j = 116 then 9 else 0
structure Laid (w : World) : Prop where
  cfg0 : w.cell? ⟨7, 0, none⟩ = some (.bool false)
  cfg1 : w.cell? ⟨7, 1, none⟩ = some (.bool false)
  cfg2 : w.cell? ⟨7, 2, none⟩ = some (.int .i64 0)
  tab : ∀ j : Nat, j < 117 → w.cell? ⟨17, j, none⟩ = some (.int .u8 (tabv j))
  esc : ∃ te pe, w.cell? ⟨10, 0, none⟩ = some (.iface te pe)
  e1 : ∃ te pe, w.cell? ⟨0, 0, none⟩ = some (.iface te pe)
  e2 : ∃ te pe, w.cell? ⟨1, 0, none⟩ = some (.iface te pe)
  e3 : ∃ te pe, w.cell? ⟨6, 0, none⟩ = some (.iface te pe)
theorem Laid.below {B : Nat} {w w' : World} (h : Laid w) (hb : Below B w w') (hB : w.heap.size ≤ B := by exact Nat.le_refl _) : Laid w' where
 cfg0 := (bel_cell hb (Nat.lt_of_lt_of_le (World.block_lt_of_cell? w _ h.cfg0) hB)).trans h.cfg0
 cfg1 := (bel_cell hb (Nat.lt_of_lt_of_le (World.block_lt_of_cell? w _ h.cfg1) hB)).trans h.cfg1
 cfg2 := (bel_cell hb (Nat.lt_of_lt_of_le (World.block_lt_of_cell? w _ h.cfg2) hB)).trans h.cfg2
 tab := fun j hj => (bel_cell hb (Nat.lt_of_lt_of_le (World.block_lt_of_cell? w _ (h.tab j hj)) hB)).trans (h.tab j hj)
 esc := by
  obtain ⟨te, pe, h1⟩ := h.esc
  exact ⟨te, pe, (bel_cell hb (Nat.lt_of_lt_of_le (World.block_lt_of_cell? w _ h1) hB)).trans h1⟩
 e1 := by
  obtain ⟨te, pe, h1⟩ := h.e1
  exact ⟨te, pe, (bel_cell hb (Nat.lt_of_lt_of_le (World.block_lt_of_cell? w _ h1) hB)).trans h1⟩
 e2 := by
  obtain ⟨te, pe, h1⟩ := h.e2
  exact ⟨te, pe, (bel_cell hb (Nat.lt_of_lt_of_le (World.block_lt_of_cell? w _ h1) hB)).trans h1⟩
 e3 := by
  obtain ⟨te, pe, h1⟩ := h.e3
  exact ⟨te, pe, (bel_cell hb (Nat.lt_of_lt_of_le (World.block_lt_of_cell? w _ h1) hB)).trans h1⟩
theorem Laid.e1_ {w : World} (h : Laid w) : ∃ m : TypeId × Value, w.cell? ⟨0, 0, none⟩ = some (.iface m.1 m.2) := h.e1.elim fun t h => h.elim fun p h => ⟨(t, p), h⟩
theorem Laid.e2_ {w : World} (h : Laid w) : ∃ m : TypeId × Value, w.cell? ⟨1, 0, none⟩ = some (.iface m.1 m.2) := h.e2.elim fun t h => h.elim fun p h => ⟨(t, p), h⟩
def IsS84 (w0 W : World) (g : Nat) (f0 : ByteArray) (f1 : Int) : Prop := W.heap[g]? = some (.cells #[.string f0, .int .i64 f1] 84 (0, 0)) ∧ w0.heap.size ≤ g
theorem IsS84.grown {w0 W : World} {g : Nat} {f0 : ByteArray} {f1 : Int} {W1 : World} {row : Option Nat} (h : IsS84 w0 W g f0 f1) (hw : W.grownBy W1 row) (hne : some g ≠ row) : IsS84 w0 W1 g f0 f1 := by
 obtain ⟨hb, hg⟩ := h
 exact ⟨blk_grown hb hw hne, hg⟩
theorem IsS84.kept {w0 W : World} {g : Nat} {f0 : ByteArray} {f1 : Int} {W1 : World} {S : Nat → Prop} (h : IsS84 w0 W g f0 f1) (hk : Kept W W1 S) (hne : ¬ S g) : IsS84 w0 W1 g f0 f1 := by
 obtain ⟨hb, hg⟩ := h
 exact ⟨blk_kept hb hk hne, hg⟩
theorem IsS84.below {w0 W : World} {g : Nat} {f0 : ByteArray} {f1 : Int} {W1 : World} (h : IsS84 w0 W g f0 f1) (hw : Below W.heap.size W W1) : IsS84 w0 W1 g f0 f1 := h.grown (grown_of_below hw none) (by simp)
theorem IsS84.alloc {w0 W : World} {g : Nat} {f0 : ByteArray} {f1 : Int} (h : IsS84 w0 W g f0 f1) (o : Obj) : IsS84 w0 (W.alloc o) g f0 f1 := h.below (below_alloc (Below.refl _ _) o)
theorem IsS84.drewN {w0 W : World} {g : Nat} {f0 : ByteArray} {f1 : Int} (h : IsS84 w0 W g f0 f1) (m : Nat) : IsS84 w0 (W.drewN m) g f0 f1 := h
theorem IsS84.drew {w0 W : World} {g : Nat} {f0 : ByteArray} {f1 : Int} (h : IsS84 w0 W g f0 f1) : IsS84 w0 W.drew g f0 f1 := h
theorem IsS84.at_ {w0 W : World} {g : Nat} {f0 : ByteArray} {f1 : Int} {w' : World} {m : Nat} (hq : W.drewN m = w') (h : IsS84 w0 W g f0 f1) : IsS84 w0 w' g f0 f1 := by subst hq; exact IsS84.drewN h m
theorem IsS84.apart {w0 W : World} {g : Nat} {f0 : ByteArray} {f1 : Int} {α : Type} {d : Kd α} {e : Nat} {base : Nat} {ok : Nat → Prop} {v : Value} {xs : List α} (h : IsS84 w0 W g f0 f1) (ho : d.R e W base ok v xs) (ht : ∀ q, q ∈ e :: d.E → q ≠ 84) : d.R e W base (fun k => ok k ∧ k ≠ g) v xs := by
 obtain ⟨hb, hg⟩ := h
 exact Kd.R_types ho hb ht
theorem IsS84.own_ne {w0 W : World} {g : Nat} {f0 : ByteArray} {f1 : Int} {α : Type} {d : Kd α} {e : Nat} {base : Nat} {ok : Nat → Prop} {v : Value} {xs : List α} (h : IsS84 w0 W g f0 f1) (ho : d.R e W base ok v xs) (ht : e ≠ 84) : some g ≠ v.ownBlock := by
 obtain ⟨hb, hg⟩ := h
 exact Kd.R_ne ho hb ht
theorem IsS84.lt {w0 W : World} {g : Nat} {f0 : ByteArray} {f1 : Int} (h : IsS84 w0 W g f0 f1) : g < W.heap.size := by
 obtain ⟨hb, hg⟩ := h
 exact blk_lt hb
theorem IsS84.ge {w0 W : World} {g : Nat} {f0 : ByteArray} {f1 : Int} (h : IsS84 w0 W g f0 f1) : w0.heap.size ≤ g := by
 obtain ⟨hb, hg⟩ := h
 exact hg
theorem cellS84_0 {W : World} {g : Nat} {f0 : ByteArray} {f1 : Int} (h : W.heap[g]? = some (.cells #[.string f0, .int .i64 f1] 84 (0, 0))) : W.cell? ⟨g, 0, none⟩ = some (.string f0) := (blk_cell h 0).trans rfl
theorem IsS84.set_0 {w0 W : World} {g : Nat} {f0 : ByteArray} {f1 : Int} (h : IsS84 w0 W g f0 f1) (x : ByteArray) : IsS84 w0 (W.setCell ⟨g, 0, none⟩ (.string x)) g x f1 := by
 obtain ⟨hb, hg⟩ := h
 exact ⟨by simpa using blk_set hb 0 (.string x), hg⟩
theorem cellS84_1 {W : World} {g : Nat} {f0 : ByteArray} {f1 : Int} (h : W.heap[g]? = some (.cells #[.string f0, .int .i64 f1] 84 (0, 0))) : W.cell? ⟨g, 1, none⟩ = some (.int .i64 f1) := (blk_cell h 1).trans rfl
theorem IsS84.set_1 {w0 W : World} {g : Nat} {f0 : ByteArray} {f1 : Int} (h : IsS84 w0 W g f0 f1) (x : Int) : IsS84 w0 (W.setCell ⟨g, 1, none⟩ (.int .i64 x)) g f0 x := by
 obtain ⟨hb, hg⟩ := h
 exact ⟨by simpa using blk_set hb 1 (.int .i64 x), hg⟩
theorem IsS84.new (w0 W : World) (f0 : ByteArray) (f1 : Int) (hB : Below w0.heap.size w0 W) : IsS84 w0 (W.alloc (.cells #[.string f0, .int .i64 f1] 84)) W.heap.size f0 f1 := ⟨by simpa using heap_alloc_new W _, hB.size⟩
def spec_reader_here.f (s0_0 : ByteArray) (s0_1 : Int) : Option (Int × ByteArray × Int) := if s0_1 < (s0_0.size : Int) then (if 0 ≤ s0_1 then (some (bt s0_0 s0_1, s0_0, s0_1)) else (none)) else (some (0, s0_0, s0_1))
set_option maxHeartbeats 8000000 in
set_option maxRecDepth 100000 in
theorem spec_reader_here.calls (g : Nat) (s0_0 : ByteArray) (s0_1 : Int) (r1 : Int) (r2 : ByteArray) (r3 : Int) (w0 w : World) (hI : IsS84 w0 w g s0_0 s0_1) (hB : Below w0.heap.size w0 w) (h : spec_reader_here.f s0_0 s0_1 = some (r1, r2, r3)) :
 Calls Tryd.prog 95 #[.pointer (some ⟨g, 0, none⟩)] w fun e w' => e = .returned (.int .u8 r1) ∧ IsS84 w0 w' g r2 r3 ∧ Below w0.heap.size w0 w' ∧ KeepBut w w' g none := by
 have HI0 := mk0 hI
 have HK := mk0 (KeepBut.refl w g none)
 have HL := mk0 hB.size
 clear hI
 have HW0 := mk0 hB.size
 have HB := mk0 hB
 clear hB
 have H : (if s0_1 < (s0_0.size : Int) then (if 0 ≤ s0_1 then (some (bt s0_0 s0_1, s0_0, s0_1)) else (none)) else (some (0, s0_0, s0_1))) = some (r1, r2, r3) := h
 clear h
 by_cases c2 : s0_1 < (s0_0.size : Int)
 rotate_left
 ·rw [if_neg c2] at H
  have c2b0 : decide (s0_1 < (s0_0.size : Int)) = false := decide_eq_false c2
  clear c2
  simp only [Option.some.injEq, Prod.mk.injEq] at H
  obtain ⟨rfl, rfl, rfl⟩ := H
  obtain ⟨HGz6, hgz6⟩ := HI0.out
  have hcz6_0 := cellS84_0 HGz6
  have hcz6_1 := cellS84_1 HGz6
  have hfz6_0 := blk_frozen HGz6 0
  have hfz6_1 := blk_frozen HGz6 1
  clear HGz6 hgz6
  go_enter Tryd.func95, Tryd.ntmps95
  go_wp2
  repeat (go_quiet (fail); try go_wp2)
  go_ret
  exact ⟨by first | rfl | (simp [errW_none, errW_some] <;> rfl) | (simp [*, errW_none, errW_some] <;> rfl), by repeat (first | (with_reducible first | exact HI0.out | apply IsS84.alloc | apply IsS84.drewN | apply IsS84.drew | apply IsS84.set_0 | apply IsS84.set_1) | exact HI0.out), by repeat (first | (with_reducible first | exact HB.out | apply below_alloc | apply pw_below_drewN | apply below_drew1 | refine below_set ?_ (IsS84.ge HI0.out)) | exact HB.out), by repeat (first | (with_reducible first | exact HK.out | apply KeepBut.set_ | apply keep_drewN | apply keep_drew | apply keep_alloc) | exact HK.out)⟩
 rw [if_pos c2] at H
 have c2b0 : decide (s0_1 < (s0_0.size : Int)) = true := decide_eq_true c2
 clear c2
 by_cases c3 : 0 ≤ s0_1
 rotate_left
 ·rw [if_neg c3] at H
  exact absurd H (by simp)
 rw [if_pos c3] at H
 have c3b0 : decide (0 ≤ s0_1) = true := decide_eq_true c3
 clear c3
 simp only [Option.some.injEq, Prod.mk.injEq] at H
 obtain ⟨rfl, rfl, rfl⟩ := H
 obtain ⟨HGz5, hgz5⟩ := HI0.out
 have hcz5_0 := cellS84_0 HGz5
 have hcz5_1 := cellS84_1 HGz5
 have hfz5_0 := blk_frozen HGz5 0
 have hfz5_1 := blk_frozen HGz5 1
 clear HGz5 hgz5
 have p4 : 0 ≤ (s0_1 : Int) := of_decide_eq_true zq1
 have q4 : s0_1 < (s0_0.size : Int) := of_decide_eq_true zq1
 have hx4 := bt_at s0_0 s0_1
 replace p4 := eq_true p4
 replace q4 := eq_true q4
 go_enter Tryd.func95, Tryd.ntmps95
 go_wp2
 repeat (go_quiet (fail); try go_wp2)
 go_ret
 exact ⟨by first | rfl | (simp [errW_none, errW_some] <;> rfl) | (simp [*, errW_none, errW_some] <;> rfl), by repeat (first | (with_reducible first | exact HI0.out | apply IsS84.alloc | apply IsS84.drewN | apply IsS84.drew | apply IsS84.set_0 | apply IsS84.set_1) | exact HI0.out), by repeat (first | (with_reducible first | exact HB.out | apply below_alloc | apply pw_below_drewN | apply below_drew1 | refine below_set ?_ (IsS84.ge HI0.out)) | exact HB.out), by repeat (first | (with_reducible first | exact HK.out | apply KeepBut.set_ | apply keep_drewN | apply keep_drew | apply keep_alloc) | exact HK.out)⟩
mutual
def spec_hexDigit.j0 : Nat → Int → Bool → Option (Int × Bool)
  | 0, _, _ => none
  | k + 1, x0, x4 => if x4 = true then (some ((x0 - 48) % 256, true)) else (if 97 ≤ x0 then (spec_hexDigit.j1 k x0 (decide (x0 ≤ 102))) else (spec_hexDigit.j1 k x0 false))
def spec_hexDigit.j1 : Nat → Int → Bool → Option (Int × Bool)
  | 0, _, _ => none
  | k + 1, x0, x14 => if x14 = true then (some (((x0 - 97) % 256) + 10, true)) else (if 65 ≤ x0 then (if x0 ≤ 70 then (some (((x0 - 65) % 256) + 10, true)) else (some (0, false))) else (some (0, false)))
end
def spec_hexDigit.f (k : Nat) (a0 : Int) : Option (Int × Bool) := if 48 ≤ a0 then (spec_hexDigit.j0 k a0 (decide (a0 ≤ 57))) else (spec_hexDigit.j0 k a0 false)
theorem spec_hexDigit.mono_l : ∀ k, (∀ y0 y1, LeO (spec_hexDigit.j0 k y0 y1) (spec_hexDigit.j0 (k + 1) y0 y1)) ∧ (∀ y0 y1, LeO (spec_hexDigit.j1 k y0 y1) (spec_hexDigit.j1 (k + 1) y0 y1))
 | 0 => ⟨fun _ _ r h => by simp [spec_hexDigit.j0] at h, fun _ _ r h => by simp [spec_hexDigit.j1] at h⟩
 | k + 1 => by
  obtain ⟨ih0, ih1⟩ := spec_hexDigit.mono_l k
  refine ⟨?_, ?_⟩
  ·intro y0 y1
   unfold spec_hexDigit.j0
   repeat' first
   | (with_reducible exact ih0 _ _)
   | (with_reducible exact ih1 _ _)
   | (with_reducible exact LeO.refl _)
   | (with_reducible exact LeO.none _)
   | (with_reducible refine LeO.ite ?_ ?_)
   | (with_reducible refine LeO.bind ?_ (fun _ => ?_))
   | exact ih0 _ _
   | exact ih1 _ _
   | exact LeO.none _
   | refine LeO.ite ?_ ?_
   | refine LeO.bind ?_ (fun _ => ?_)
  ·intro y0 y1
   unfold spec_hexDigit.j1
   repeat' first
   | (with_reducible exact ih0 _ _)
   | (with_reducible exact ih1 _ _)
   | (with_reducible exact LeO.refl _)
   | (with_reducible exact LeO.none _)
   | (with_reducible refine LeO.ite ?_ ?_)
   | (with_reducible refine LeO.bind ?_ (fun _ => ?_))
   | exact ih0 _ _
   | exact ih1 _ _
   | exact LeO.none _
   | refine LeO.ite ?_ ?_
   | refine LeO.bind ?_ (fun _ => ?_)
theorem spec_hexDigit.mono : ∀ a0 k, LeO (spec_hexDigit.f k a0) (spec_hexDigit.f (k + 1) a0) := by
 intro a0 k
 obtain ⟨ih0, ih1⟩ := spec_hexDigit.mono_l k
 unfold spec_hexDigit.f
 repeat' first
  | (with_reducible exact ih0 _ _)
  | (with_reducible exact ih1 _ _)
  | (with_reducible exact LeO.refl _)
  | (with_reducible exact LeO.none _)
  | (with_reducible refine LeO.ite ?_ ?_)
  | (with_reducible refine LeO.bind ?_ (fun _ => ?_))
  | exact ih0 _ _
  | exact ih1 _ _
  | exact LeO.none _
  | refine LeO.ite ?_ ?_
  | refine LeO.bind ?_ (fun _ => ?_)
set_option maxHeartbeats 8000000 in
set_option maxRecDepth 100000 in
theorem spec_hexDigit.calls (k : Nat) (a0 : Int) (r1 : Int) (r2 : Bool) (w : World) (h : spec_hexDigit.f k a0 = some (r1, r2)) :
 Calls Tryd.prog 96 #[.int .u8 a0] w fun e w' => e = .returned (.tuple #[.int .i64 r1, .bool r2]) ∧ Drawn0 w w' := by
 have H : (if 48 ≤ a0 then (spec_hexDigit.j0 k a0 (decide (a0 ≤ 57))) else (spec_hexDigit.j0 k a0 false)) = some (r1, r2) := h
 clear h
 have HC2 := mk0 H
 clear H
 go_enter Tryd.func96, Tryd.ntmps96
 go_upto_region 1 with (fail)
 go_cut [4] (fun v4 wc => ∃ (kq : Nat) (x4_1 : Bool), v4 = .bool x4_1 ∧ Aside0 (spec_hexDigit.j0 kq a0 x4_1 = some (r1, r2)) ∧ Aside0 (kq ≤ k) ∧ Drawn0 w wc)
 case first =>
  have H := HC2.out
  clear HC2
  by_cases c3 : 48 ≤ a0
  rotate_left
  ·rw [if_neg c3] at H
   have c3b0 : decide (48 ≤ a0) = false := decide_eq_false c3
   clear c3
   (first | rw [c3b0] | (simp only [i64_w, i32_w]; rw [c3b0]) | skip)
   have H' := mk0 H
   clear H
   go_wp2
   go_meet
   case rel => exact ⟨_, (false), zq3, H', ⟨by first | omega | exact Nat.le_refl _⟩, by repeat (first | exact Drawn0.refl _ | apply Drawn0.step)⟩
  rw [if_pos c3] at H
  have c3b0 : decide (48 ≤ a0) = true := decide_eq_true c3
  clear c3
  (first | rw [c3b0] | (simp only [i64_w, i32_w]; rw [c3b0]) | skip)
  have H' := mk0 H
  clear H
  go_wp2
  go_meet
  case rel => exact ⟨_, (decide (a0 ≤ 57)), zq3, H', ⟨by first | omega | exact Nat.le_refl _⟩, by repeat (first | exact Drawn0.refl _ | apply Drawn0.step)⟩
 case rest =>
  clear HC2
  try clear p2
  try clear c3
  try clear c3b0
  obtain ⟨kq, x4_1, rfl, HA, HJ1, ⟨mc1, rfl⟩⟩ := hcut
  cases kq with
  | zero => exact absurd HA.out (by simp [spec_hexDigit.j0])
  | succ kj1 =>
   have H := HA.out
   clear HA
   simp only [spec_hexDigit.j0] at H
   by_cases c4 : x4_1 = true
   ·subst c4
    have H1 : (some ((a0 - 48) % 256, true)) = some (r1, r2) := by rw [if_pos rfl] at H; exact H
    clear H
    have H := H1
    clear H1
    simp only [Option.some.injEq, Prod.mk.injEq] at H
    obtain ⟨rfl, rfl⟩ := H
    go_wp2
    go_ret2
    exact ⟨by first | rfl | (simp; done) | (simp [*]; done), by repeat (first | exact Drawn0.refl _ | apply Drawn0.step)⟩
   replace c4 := Bool.eq_false_iff.mpr c4
   subst c4
   have H1 : (if 97 ≤ a0 then (spec_hexDigit.j1 kj1 a0 (decide (a0 ≤ 102))) else (spec_hexDigit.j1 kj1 a0 false)) = some (r1, r2) := by rw [if_neg (show ¬ (false = true) by decide)] at H; exact H
   clear H
   have H := H1
   clear H1
   have HC5 := mk0 H
   clear H
   go_upto_region 3 with (fail)
   go_cut [14] (fun v14 wc => ∃ (kq : Nat) (x14_4 : Bool), v14 = .bool x14_4 ∧ Aside0 (spec_hexDigit.j1 kq a0 x14_4 = some (r1, r2)) ∧ Aside0 (kq ≤ kj1) ∧ Drawn0 w wc)
   case first =>
    have H := HC5.out
    clear HC5
    by_cases c6 : 97 ≤ a0
    rotate_left
    ·rw [if_neg c6] at H
     have c6b0 : decide (97 ≤ a0) = false := decide_eq_false c6
     clear c6
     (first | rw [c6b0] | (simp only [i64_w, i32_w]; rw [c6b0]) | skip)
     have H' := mk0 H
     clear H
     go_wp2
     go_meet
     case rel => exact ⟨_, (false), zq3, H', ⟨by have := HJ1.out; first | omega | exact Nat.le_refl _⟩, by repeat (first | exact Drawn0.refl _ | apply Drawn0.step)⟩
    rw [if_pos c6] at H
    have c6b0 : decide (97 ≤ a0) = true := decide_eq_true c6
    clear c6
    (first | rw [c6b0] | (simp only [i64_w, i32_w]; rw [c6b0]) | skip)
    have H' := mk0 H
    clear H
    go_wp2
    go_meet
    case rel => exact ⟨_, (decide (a0 ≤ 102)), zq3, H', ⟨by have := HJ1.out; first | omega | exact Nat.le_refl _⟩, by repeat (first | exact Drawn0.refl _ | apply Drawn0.step)⟩
   case rest =>
    clear HC5
    try clear c1
    try clear p2
    try clear c3
    try clear c3b0
    try clear c4
    try clear c6
    try clear c6b0
    try clear p2
    obtain ⟨kq, x14_4, rfl, HA, HJ4, ⟨mc4, rfl⟩⟩ := hcut
    cases kq with
    | zero => exact absurd HA.out (by simp [spec_hexDigit.j1])
    | succ kj4 =>
     have H := HA.out
     clear HA
     simp only [spec_hexDigit.j1] at H
     by_cases c7 : x14_4 = true
     ·subst c7
      have H1 : (some (((a0 - 97) % 256) + 10, true)) = some (r1, r2) := by rw [if_pos rfl] at H; exact H
      clear H
      have H := H1
      clear H1
      simp only [Option.some.injEq, Prod.mk.injEq] at H
      obtain ⟨rfl, rfl⟩ := H
      go_wp2
      go_ret2
      exact ⟨by first | rfl | (simp; done) | (simp [*]; done), by repeat (first | exact Drawn0.refl _ | apply Drawn0.step)⟩
     replace c7 := Bool.eq_false_iff.mpr c7
     subst c7
     have H1 : (if 65 ≤ a0 then (if a0 ≤ 70 then (some (((a0 - 65) % 256) + 10, true)) else (some (0, false))) else (some (0, false))) = some (r1, r2) := by rw [if_neg (show ¬ (false = true) by decide)] at H; exact H
     clear H
     have H := H1
     clear H1
     by_cases c8 : 65 ≤ a0
     rotate_left
     ·rw [if_neg c8] at H
      have c8b0 : decide (65 ≤ a0) = false := decide_eq_false c8
      clear c8
      simp only [Option.some.injEq, Prod.mk.injEq] at H
      obtain ⟨rfl, rfl⟩ := H
      go_wp2
      go_ret2
      exact ⟨by first | rfl | (simp; done) | (simp [*]; done), by repeat (first | exact Drawn0.refl _ | apply Drawn0.step)⟩
     rw [if_pos c8] at H
     have c8b0 : decide (65 ≤ a0) = true := decide_eq_true c8
     clear c8
     by_cases c9 : a0 ≤ 70
     ·rw [if_pos c9] at H
      have c9b0 : decide (a0 ≤ 70) = true := decide_eq_true c9
      clear c9
      simp only [Option.some.injEq, Prod.mk.injEq] at H
      obtain ⟨rfl, rfl⟩ := H
      go_wp2
      go_ret2
      exact ⟨by first | rfl | (simp; done) | (simp [*]; done), by repeat (first | exact Drawn0.refl _ | apply Drawn0.step)⟩
     rw [if_neg c9] at H
     have c9b0 : decide (a0 ≤ 70) = false := decide_eq_false c9
     clear c9
     simp only [Option.some.injEq, Prod.mk.injEq] at H
     obtain ⟨rfl, rfl⟩ := H
     go_wp2
     go_ret2
     exact ⟨by first | rfl | (simp; done) | (simp [*]; done), by repeat (first | exact Drawn0.refl _ | apply Drawn0.step)⟩
mutual
def spec_reader_escape.j0 : Nat → Int → Bool → ByteArray → Int → Option (Bool × ByteArray × Int)
  | 0, _, _, _, _ => none
  | k + 1, x7, x8, x1000, x1001 => if x8 = true then (some (true, x1000, wrap64 (x1001 + 1))) else (if x7 = 117 then (spec_reader_escape.l0 k 0 x1000 (wrap64 (x1001 + 1))) else (some (false, x1000, x1001)))
def spec_reader_escape.l0 : Nat → Int → ByteArray → Int → Option (Bool × ByteArray × Int)
  | 0, _, _, _ => none
  | k + 1, x3, x1000, x1001 => if x3 < 4 then ((spec_reader_here.f x1000 x1001).bind fun bt104 => ((spec_hexDigit.f k bt104.1).bind fun bt107 => (if bt107.2 = true then (spec_reader_escape.l0 k (wrap64 (x3 + 1)) bt104.2.1 (wrap64 (bt104.2.2 + 1))) else (some (false, bt104.2.1, bt104.2.2))))) else (some (true, x1000, x1001))
end
def spec_reader_escape.f (k : Nat) (s0_0 : ByteArray) (s0_1 : Int) : Option (Bool × ByteArray × Int) := (spec_reader_here.f s0_0 s0_1).bind fun bt101 => (if bt101.1 = 34 then (spec_reader_escape.j0 k bt101.1 (bt101.1 == 34) bt101.2.1 bt101.2.2) else (if bt101.1 = 92 then (spec_reader_escape.j0 k bt101.1 (bt101.1 == 92) bt101.2.1 bt101.2.2) else (if bt101.1 = 47 then (spec_reader_escape.j0 k bt101.1 (bt101.1 == 47) bt101.2.1 bt101.2.2) else (if bt101.1 = 98 then (spec_reader_escape.j0 k bt101.1 (bt101.1 == 98) bt101.2.1 bt101.2.2) else (if bt101.1 = 102 then (spec_reader_escape.j0 k bt101.1 (bt101.1 == 102) bt101.2.1 bt101.2.2) else (if bt101.1 = 110 then (spec_reader_escape.j0 k bt101.1 (bt101.1 == 110) bt101.2.1 bt101.2.2) else (if bt101.1 = 114 then (spec_reader_escape.j0 k bt101.1 (bt101.1 == 114) bt101.2.1 bt101.2.2) else (spec_reader_escape.j0 k bt101.1 (bt101.1 == 116) bt101.2.1 bt101.2.2))))))))
theorem spec_reader_escape.mono_l : ∀ k, (∀ y0 y1 y2 y3, LeO (spec_reader_escape.j0 k y0 y1 y2 y3) (spec_reader_escape.j0 (k + 1) y0 y1 y2 y3)) ∧ (∀ y0 y1 y2, LeO (spec_reader_escape.l0 k y0 y1 y2) (spec_reader_escape.l0 (k + 1) y0 y1 y2))
 | 0 => ⟨fun _ _ _ _ r h => by simp [spec_reader_escape.j0] at h, fun _ _ _ r h => by simp [spec_reader_escape.l0] at h⟩
 | k + 1 => by
  obtain ⟨ih0, ih1⟩ := spec_reader_escape.mono_l k
  refine ⟨?_, ?_⟩
  ·intro y0 y1 y2 y3
   unfold spec_reader_escape.j0
   repeat' first
   | (with_reducible exact ih0 _ _ _ _)
   | (with_reducible exact ih1 _ _ _)
   | (with_reducible exact spec_hexDigit.mono _ _)
   | (with_reducible exact LeO.refl _)
   | (with_reducible exact LeO.none _)
   | (with_reducible refine LeO.ite ?_ ?_)
   | (with_reducible refine LeO.bind ?_ (fun _ => ?_))
   | exact ih0 _ _ _ _
   | exact ih1 _ _ _
   | exact spec_hexDigit.mono _ _
   | exact LeO.none _
   | refine LeO.ite ?_ ?_
   | refine LeO.bind ?_ (fun _ => ?_)
  ·intro y0 y1 y2
   unfold spec_reader_escape.l0
   repeat' first
   | (with_reducible exact ih0 _ _ _ _)
   | (with_reducible exact ih1 _ _ _)
   | (with_reducible exact spec_hexDigit.mono _ _)
   | (with_reducible exact LeO.refl _)
   | (with_reducible exact LeO.none _)
   | (with_reducible refine LeO.ite ?_ ?_)
   | (with_reducible refine LeO.bind ?_ (fun _ => ?_))
   | exact ih0 _ _ _ _
   | exact ih1 _ _ _
   | exact spec_hexDigit.mono _ _
   | exact LeO.none _
   | refine LeO.ite ?_ ?_
   | refine LeO.bind ?_ (fun _ => ?_)
theorem spec_reader_escape.mono : ∀ a0 a1 k, LeO (spec_reader_escape.f k a0 a1) (spec_reader_escape.f (k + 1) a0 a1) := by
 intro a0 a1 k
 obtain ⟨ih0, ih1⟩ := spec_reader_escape.mono_l k
 unfold spec_reader_escape.f
 repeat' first
  | (with_reducible exact ih0 _ _ _ _)
  | (with_reducible exact ih1 _ _ _)
  | (with_reducible exact spec_hexDigit.mono _ _)
  | (with_reducible exact LeO.refl _)
  | (with_reducible exact LeO.none _)
  | (with_reducible refine LeO.ite ?_ ?_)
  | (with_reducible refine LeO.bind ?_ (fun _ => ?_))
  | exact ih0 _ _ _ _
  | exact ih1 _ _ _
  | exact spec_hexDigit.mono _ _
  | exact LeO.none _
  | refine LeO.ite ?_ ?_
  | refine LeO.bind ?_ (fun _ => ?_)
set_option maxHeartbeats 8000000 in
set_option maxRecDepth 100000 in
theorem spec_reader_escape.calls (k : Nat) (g : Nat) (s0_0 : ByteArray) (s0_1 : Int) (r1 : Bool) (r2 : ByteArray) (r3 : Int) (w0 w : World) (hI : IsS84 w0 w g s0_0 s0_1) (hB : Below w0.heap.size w0 w) (h : spec_reader_escape.f k s0_0 s0_1 = some (r1, r2, r3)) :
 Calls Tryd.prog 67 #[.pointer (some ⟨g, 0, none⟩)] w fun e w' => e = .returned (.bool r1) ∧ IsS84 w0 w' g r2 r3 ∧ Below w0.heap.size w0 w' ∧ KeepBut w w' g none := by
 have HI0 := mk0 hI
 have HK := mk0 (KeepBut.refl w g none)
 have HL := mk0 hB.size
 clear hI
 have HW0 := mk0 hB.size
 have HB := mk0 hB
 clear hB
 have H : ((spec_reader_here.f s0_0 s0_1).bind fun bt101 => (if bt101.1 = 34 then (spec_reader_escape.j0 k bt101.1 (bt101.1 == 34) bt101.2.1 bt101.2.2) else (if bt101.1 = 92 then (spec_reader_escape.j0 k bt101.1 (bt101.1 == 92) bt101.2.1 bt101.2.2) else (if bt101.1 = 47 then (spec_reader_escape.j0 k bt101.1 (bt101.1 == 47) bt101.2.1 bt101.2.2) else (if bt101.1 = 98 then (spec_reader_escape.j0 k bt101.1 (bt101.1 == 98) bt101.2.1 bt101.2.2) else (if bt101.1 = 102 then (spec_reader_escape.j0 k bt101.1 (bt101.1 == 102) bt101.2.1 bt101.2.2) else (if bt101.1 = 110 then (spec_reader_escape.j0 k bt101.1 (bt101.1 == 110) bt101.2.1 bt101.2.2) else (if bt101.1 = 114 then (spec_reader_escape.j0 k bt101.1 (bt101.1 == 114) bt101.2.1 bt101.2.2) else (spec_reader_escape.j0 k bt101.1 (bt101.1 == 116) bt101.2.1 bt101.2.2))))))))) = some (r1, r2, r3) := h
 clear h
 replace H := Option.bind_eq_some_iff.mp H
 obtain ⟨⟨t101, t102, t103⟩, A20, H⟩ := H
 replace H : (if t101 = 34 then (spec_reader_escape.j0 k t101 (t101 == 34) t102 t103) else (if t101 = 92 then (spec_reader_escape.j0 k t101 (t101 == 92) t102 t103) else (if t101 = 47 then (spec_reader_escape.j0 k t101 (t101 == 47) t102 t103) else (if t101 = 98 then (spec_reader_escape.j0 k t101 (t101 == 98) t102 t103) else (if t101 = 102 then (spec_reader_escape.j0 k t101 (t101 == 102) t102 t103) else (if t101 = 110 then (spec_reader_escape.j0 k t101 (t101 == 110) t102 t103) else (if t101 = 114 then (spec_reader_escape.j0 k t101 (t101 == 114) t102 t103) else (spec_reader_escape.j0 k t101 (t101 == 116) t102 t103)))))))) = some (r1, r2, r3) := H
 have A2 := mk0 A20
 clear A20
 have HC3 := mk0 H
 clear H
 go_enter Tryd.func67, Tryd.ntmps67
 go_upto_if 8 with (first | ((with_reducible refine gate_callee (f := 95) rfl ?_); refine goesL_ (some 7) rfl rfl Tryd.func95 zq16 rfl #[.pointer (some ⟨g, 0, none⟩)] rfl zq2 ?_; (with_reducible refine (spec_reader_here.calls g s0_0 s0_1 t101 t102 t103 w0 _ ?side1 ?side2 A2.out).mono ?_); (case side1 => exact zq8); (case side2 => exact zq6); rintro e w4 ⟨rfl, hi, hb, hk⟩; refine ⟨_, rfl, ?_⟩; have n0_ := mk0 (KeepBut.trans zq9 hk (.inl rfl)); have n1_ := mk0 (hb); have n2_ := mk0 (hi); clear HK HB HI0; have HK := n0_; have HB := n1_; have HI0 := n2_; clear n0_ n1_ n2_; (try clear hb); (try clear hb2); (try clear hk); (try clear hi)))
 (try simp only [Act.put, List.setIfInBounds_toArray, List.set_cons_zero, List.set_cons_succ])
 go_cut [8] (fun v8 wc => ∃ (kq : Nat) (x8_2 : Bool), v8 = .bool x8_2 ∧ Aside0 (spec_reader_escape.j0 kq t101 x8_2 t102 t103 = some (r1, r2, r3)) ∧ Aside0 (kq ≤ k) ∧ Aside0 (IsS84 w0 wc g t102 t103) ∧ Aside0 (KeepBut w wc g none) ∧ Aside0 (Below w0.heap.size w0 wc))
 case first =>
  have H := HC3.out
  clear HC3
  by_cases c5 : t101 = 34
  ·rw [if_pos c5] at H
   have c5b0 : (t101 == 34) = true := beq_iff_eq.mpr c5
   have c5b1 : (t101 != 34) = false := bne_eq_false_iff_eq.mpr c5
   clear c5
   (first | rw [c5b0] | (simp only [i64_w, i32_w]; rw [c5b0]) | skip)
   have H' := mk0 H
   clear H
   go_wp2
   go_meet
   case rel => exact ⟨_, ((t101 == 34)), zq3, H', ⟨by first | omega | exact Nat.le_refl _⟩, ⟨by repeat (first | (with_reducible first | exact HI0.out | apply IsS84.alloc | apply IsS84.drewN | apply IsS84.drew | apply IsS84.set_0 | apply IsS84.set_1) | exact HI0.out)⟩, ⟨by repeat (first | (with_reducible first | exact HK.out | apply KeepBut.set_ | apply keep_drewN | apply keep_drew | apply keep_alloc) | exact HK.out)⟩, ⟨by repeat (first | (with_reducible first | exact HB.out | apply below_alloc | apply pw_below_drewN | apply below_drew1 | refine below_set ?_ (IsS84.ge HI0.out)) | exact HB.out)⟩⟩
  rw [if_neg c5] at H
  have c5b0 : (t101 == 34) = false := beq_eq_false_iff_ne.mpr c5
  have c5b1 : (t101 != 34) = true := bne_iff_ne.mpr c5
  (first | rw [c5b0] | (simp only [i64_w, i32_w]; rw [c5b0]) | skip)
  by_cases c6 : t101 = 92
  ·rw [if_pos c6] at H
   have c6b0 : (t101 == 92) = true := beq_iff_eq.mpr c6
   have c6b1 : (t101 != 92) = false := bne_eq_false_iff_eq.mpr c6
   clear c6
   have H' := mk0 H
   clear H
   go_wp2
   go_meet
   case rel => exact ⟨_, ((t101 == 92)), zq3, H', ⟨by first | omega | exact Nat.le_refl _⟩, ⟨by repeat (first | (with_reducible first | exact HI0.out | apply IsS84.alloc | apply IsS84.drewN | apply IsS84.drew | apply IsS84.set_0 | apply IsS84.set_1) | exact HI0.out)⟩, ⟨by repeat (first | (with_reducible first | exact HK.out | apply KeepBut.set_ | apply keep_drewN | apply keep_drew | apply keep_alloc) | exact HK.out)⟩, ⟨by repeat (first | (with_reducible first | exact HB.out | apply below_alloc | apply pw_below_drewN | apply below_drew1 | refine below_set ?_ (IsS84.ge HI0.out)) | exact HB.out)⟩⟩
  rw [if_neg c6] at H
  have c6b0 : (t101 == 92) = false := beq_eq_false_iff_ne.mpr c6
  have c6b1 : (t101 != 92) = true := bne_iff_ne.mpr c6
  by_cases c7 : t101 = 47
  ·rw [if_pos c7] at H
   have c7b0 : (t101 == 47) = true := beq_iff_eq.mpr c7
   have c7b1 : (t101 != 47) = false := bne_eq_false_iff_eq.mpr c7
   clear c7
   have H' := mk0 H
   clear H
   go_wp2
   go_meet
   case rel => exact ⟨_, ((t101 == 47)), zq3, H', ⟨by first | omega | exact Nat.le_refl _⟩, ⟨by repeat (first | (with_reducible first | exact HI0.out | apply IsS84.alloc | apply IsS84.drewN | apply IsS84.drew | apply IsS84.set_0 | apply IsS84.set_1) | exact HI0.out)⟩, ⟨by repeat (first | (with_reducible first | exact HK.out | apply KeepBut.set_ | apply keep_drewN | apply keep_drew | apply keep_alloc) | exact HK.out)⟩, ⟨by repeat (first | (with_reducible first | exact HB.out | apply below_alloc | apply pw_below_drewN | apply below_drew1 | refine below_set ?_ (IsS84.ge HI0.out)) | exact HB.out)⟩⟩
  rw [if_neg c7] at H
  have c7b0 : (t101 == 47) = false := beq_eq_false_iff_ne.mpr c7
  have c7b1 : (t101 != 47) = true := bne_iff_ne.mpr c7
  by_cases c8 : t101 = 98
  ·rw [if_pos c8] at H
   have c8b0 : (t101 == 98) = true := beq_iff_eq.mpr c8
   have c8b1 : (t101 != 98) = false := bne_eq_false_iff_eq.mpr c8
   clear c8
   have H' := mk0 H
   clear H
   go_wp2
   go_meet
   case rel => exact ⟨_, ((t101 == 98)), zq3, H', ⟨by first | omega | exact Nat.le_refl _⟩, ⟨by repeat (first | (with_reducible first | exact HI0.out | apply IsS84.alloc | apply IsS84.drewN | apply IsS84.drew | apply IsS84.set_0 | apply IsS84.set_1) | exact HI0.out)⟩, ⟨by repeat (first | (with_reducible first | exact HK.out | apply KeepBut.set_ | apply keep_drewN | apply keep_drew | apply keep_alloc) | exact HK.out)⟩, ⟨by repeat (first | (with_reducible first | exact HB.out | apply below_alloc | apply pw_below_drewN | apply below_drew1 | refine below_set ?_ (IsS84.ge HI0.out)) | exact HB.out)⟩⟩
  rw [if_neg c8] at H
  have c8b0 : (t101 == 98) = false := beq_eq_false_iff_ne.mpr c8
  have c8b1 : (t101 != 98) = true := bne_iff_ne.mpr c8
  by_cases c9 : t101 = 102
  ·rw [if_pos c9] at H
   have c9b0 : (t101 == 102) = true := beq_iff_eq.mpr c9
   have c9b1 : (t101 != 102) = false := bne_eq_false_iff_eq.mpr c9
   clear c9
   have H' := mk0 H
   clear H
   go_wp2
   go_meet
   case rel => exact ⟨_, ((t101 == 102)), zq3, H', ⟨by first | omega | exact Nat.le_refl _⟩, ⟨by repeat (first | (with_reducible first | exact HI0.out | apply IsS84.alloc | apply IsS84.drewN | apply IsS84.drew | apply IsS84.set_0 | apply IsS84.set_1) | exact HI0.out)⟩, ⟨by repeat (first | (with_reducible first | exact HK.out | apply KeepBut.set_ | apply keep_drewN | apply keep_drew | apply keep_alloc) | exact HK.out)⟩, ⟨by repeat (first | (with_reducible first | exact HB.out | apply below_alloc | apply pw_below_drewN | apply below_drew1 | refine below_set ?_ (IsS84.ge HI0.out)) | exact HB.out)⟩⟩
  rw [if_neg c9] at H
  have c9b0 : (t101 == 102) = false := beq_eq_false_iff_ne.mpr c9
  have c9b1 : (t101 != 102) = true := bne_iff_ne.mpr c9
  by_cases c10 : t101 = 110
  ·rw [if_pos c10] at H
   have c10b0 : (t101 == 110) = true := beq_iff_eq.mpr c10
   have c10b1 : (t101 != 110) = false := bne_eq_false_iff_eq.mpr c10
   clear c10
   have H' := mk0 H
   clear H
   go_wp2
   go_meet
   case rel => exact ⟨_, ((t101 == 110)), zq3, H', ⟨by first | omega | exact Nat.le_refl _⟩, ⟨by repeat (first | (with_reducible first | exact HI0.out | apply IsS84.alloc | apply IsS84.drewN | apply IsS84.drew | apply IsS84.set_0 | apply IsS84.set_1) | exact HI0.out)⟩, ⟨by repeat (first | (with_reducible first | exact HK.out | apply KeepBut.set_ | apply keep_drewN | apply keep_drew | apply keep_alloc) | exact HK.out)⟩, ⟨by repeat (first | (with_reducible first | exact HB.out | apply below_alloc | apply pw_below_drewN | apply below_drew1 | refine below_set ?_ (IsS84.ge HI0.out)) | exact HB.out)⟩⟩
  rw [if_neg c10] at H
  have c10b0 : (t101 == 110) = false := beq_eq_false_iff_ne.mpr c10
  have c10b1 : (t101 != 110) = true := bne_iff_ne.mpr c10
  by_cases c11 : t101 = 114
  rotate_left
  ·rw [if_neg c11] at H
   have c11b0 : (t101 == 114) = false := beq_eq_false_iff_ne.mpr c11
   have c11b1 : (t101 != 114) = true := bne_iff_ne.mpr c11
   have H' := mk0 H
   clear H
   go_wp2
   go_meet
   case rel => exact ⟨_, ((t101 == 116)), zq3, H', ⟨by first | omega | exact Nat.le_refl _⟩, ⟨by repeat (first | (with_reducible first | exact HI0.out | apply IsS84.alloc | apply IsS84.drewN | apply IsS84.drew | apply IsS84.set_0 | apply IsS84.set_1) | exact HI0.out)⟩, ⟨by repeat (first | (with_reducible first | exact HK.out | apply KeepBut.set_ | apply keep_drewN | apply keep_drew | apply keep_alloc) | exact HK.out)⟩, ⟨by repeat (first | (with_reducible first | exact HB.out | apply below_alloc | apply pw_below_drewN | apply below_drew1 | refine below_set ?_ (IsS84.ge HI0.out)) | exact HB.out)⟩⟩
  rw [if_pos c11] at H
  have c11b0 : (t101 == 114) = true := beq_iff_eq.mpr c11
  have c11b1 : (t101 != 114) = false := bne_eq_false_iff_eq.mpr c11
  clear c11
  have H' := mk0 H
  clear H
  go_wp2
  go_meet
  case rel => exact ⟨_, ((t101 == 114)), zq3, H', ⟨by first | omega | exact Nat.le_refl _⟩, ⟨by repeat (first | (with_reducible first | exact HI0.out | apply IsS84.alloc | apply IsS84.drewN | apply IsS84.drew | apply IsS84.set_0 | apply IsS84.set_1) | exact HI0.out)⟩, ⟨by repeat (first | (with_reducible first | exact HK.out | apply KeepBut.set_ | apply keep_drewN | apply keep_drew | apply keep_alloc) | exact HK.out)⟩, ⟨by repeat (first | (with_reducible first | exact HB.out | apply below_alloc | apply pw_below_drewN | apply below_drew1 | refine below_set ?_ (IsS84.ge HI0.out)) | exact HB.out)⟩⟩
 case rest =>
  clear HC3
  try clear c1
  try clear p2
  try clear c5
  try clear c5b0
  try clear c5b1
  try clear c6
  try clear c6b0
  try clear c6b1
  try clear c7
  try clear c7b0
  try clear c7b1
  try clear c8
  try clear c8b0
  try clear c8b1
  try clear c9
  try clear c9b0
  try clear c9b1
  try clear c10
  try clear c10b0
  try clear c10b1
  try clear c11
  try clear c11b0
  try clear c11b1
  obtain ⟨kq, x8_2, rfl, HA, HJ2, HI0, HK, HB⟩ := hcut
  cases kq with
  | zero => exact absurd HA.out (by simp [spec_reader_escape.j0])
  | succ kj2 =>
   have H := HA.out
   clear HA
   simp only [spec_reader_escape.j0] at H
   by_cases c12 : x8_2 = true
   ·subst c12
    have H1 : (some (true, t102, wrap64 (t103 + 1))) = some (r1, r2, r3) := by rw [if_pos rfl] at H; exact H
    clear H
    have H := H1
    clear H1
    simp only [Option.some.injEq, Prod.mk.injEq] at H
    obtain ⟨rfl, rfl, rfl⟩ := H
    obtain ⟨HGz13, hgz13⟩ := HI0.out
    have hcz13_0 := cellS84_0 HGz13
    have hcz13_1 := cellS84_1 HGz13
    have hfz13_0 := blk_frozen HGz13 0
    have hfz13_1 := blk_frozen HGz13 1
    clear HGz13 hgz13
    go_wp2
    go_ret
    exact ⟨by first | rfl | (simp [errW_none, errW_some] <;> rfl) | (simp [*, errW_none, errW_some] <;> rfl), by repeat (first | (with_reducible first | exact HI0.out | apply IsS84.alloc | apply IsS84.drewN | apply IsS84.drew | apply IsS84.set_0 | apply IsS84.set_1) | exact HI0.out), by repeat (first | (with_reducible first | exact HB.out | apply below_alloc | apply pw_below_drewN | apply below_drew1 | refine below_set ?_ (IsS84.ge HI0.out)) | exact HB.out), by repeat (first | (with_reducible first | exact HK.out | apply KeepBut.set_ | apply keep_drewN | apply keep_drew | apply keep_alloc) | exact HK.out)⟩
   replace c12 := Bool.eq_false_iff.mpr c12
   subst c12
   have H1 : (if t101 = 117 then (spec_reader_escape.l0 kj2 0 t102 (wrap64 (t103 + 1))) else (some (false, t102, t103))) = some (r1, r2, r3) := by rw [if_neg (show ¬ (false = true) by decide)] at H; exact H
   clear H
   have H := H1
   clear H1
   by_cases c14 : t101 = 117
   rotate_left
   ·rw [if_neg c14] at H
    have c14b0 : (t101 == 117) = false := beq_eq_false_iff_ne.mpr c14
    have c14b1 : (t101 != 117) = true := bne_iff_ne.mpr c14
    simp only [Option.some.injEq, Prod.mk.injEq] at H
    obtain ⟨rfl, rfl, rfl⟩ := H
    go_wp2
    go_ret
    exact ⟨by first | rfl | (simp [errW_none, errW_some] <;> rfl) | (simp [*, errW_none, errW_some] <;> rfl), by repeat (first | (with_reducible first | exact HI0.out | apply IsS84.alloc | apply IsS84.drewN | apply IsS84.drew | apply IsS84.set_0 | apply IsS84.set_1) | exact HI0.out), by repeat (first | (with_reducible first | exact HB.out | apply below_alloc | apply pw_below_drewN | apply below_drew1 | refine below_set ?_ (IsS84.ge HI0.out)) | exact HB.out), by repeat (first | (with_reducible first | exact HK.out | apply KeepBut.set_ | apply keep_drewN | apply keep_drew | apply keep_alloc) | exact HK.out)⟩
   rw [if_pos c14] at H
   have c14b0 : (t101 == 117) = true := beq_iff_eq.mpr c14
   have c14b1 : (t101 != 117) = false := bne_eq_false_iff_eq.mpr c14
   clear c14
   have H' := mk0 H
   clear H
   obtain ⟨HGz15, hgz15⟩ := HI0.out
   have hcz15_0 := cellS84_0 HGz15
   have hcz15_1 := cellS84_1 HGz15
   have hfz15_0 := blk_frozen HGz15 0
   have hfz15_1 := blk_frozen HGz15 1
   clear HGz15 hgz15
   go_wp2
   go_loopg [3] kj2 (fun kq v3 w' => ∃ (x3_2 : Int) (x1000_2 : ByteArray) (x1001_2 : Int), v3 = .int .i64 x3_2 ∧ Aside0 (spec_reader_escape.l0 kq x3_2 x1000_2 x1001_2 = some (r1, r2, r3)) ∧ Aside0 (kq ≤ kj2) ∧ Aside0 (IsS84 w0 w' g x1000_2 x1001_2) ∧ Aside0 (KeepBut w w' g none) ∧ Aside0 (Below w0.heap.size w0 w'))
   case atStart => exact ⟨(0), (t102), (wrap64 (t103 + 1)), zq3, H', ⟨Nat.le_refl _⟩, ⟨by repeat (first | (with_reducible first | exact HI0.out | apply IsS84.alloc | apply IsS84.drewN | apply IsS84.drew | apply IsS84.set_0 | apply IsS84.set_1) | exact HI0.out)⟩, ⟨by repeat (first | (with_reducible first | exact HK.out | apply KeepBut.set_ | apply keep_drewN | apply keep_drew | apply keep_alloc) | exact HK.out)⟩, ⟨by repeat (first | (with_reducible first | exact HB.out | apply below_alloc | apply pw_below_drewN | apply below_drew1 | refine below_set ?_ (IsS84.ge HI0.out)) | exact HB.out)⟩⟩
   case round =>
    clear H'
    try clear c1
    try clear p2
    try clear c5
    try clear c5b0
    try clear c5b1
    try clear c6
    try clear c6b0
    try clear c6b1
    try clear p6
    try clear c7
    try clear c7b0
    try clear c7b1
    try clear c8
    try clear c8b0
    try clear c8b1
    try clear c9
    try clear c9b0
    try clear c9b1
    try clear c10
    try clear c10b0
    try clear c10b1
    try clear c11
    try clear c11b0
    try clear c11b1
    try clear c12
    try clear c14
    try clear c14b0
    try clear c14b1
    try clear hcz13_0
    try clear hcz13_1
    try clear hcz15_0
    try clear hcz15_1
    try clear hfz13_0
    try clear hfz13_1
    try clear hfz15_0
    try clear hfz15_1
    try clear p2
    obtain ⟨x3_2, x1000_2, x1001_2, rfl, HA, HK2, HI0, HK, HB⟩ := hrel
    cases gk with
    | zero => exact absurd HA.out (by simp [spec_reader_escape.l0])
    | succ k2 =>
     have H := HA.out
     clear HA
     simp only [spec_reader_escape.l0] at H
     by_cases c16 : x3_2 < 4
     rotate_left
     ·rw [if_neg c16] at H
      have c16b0 : decide (x3_2 < 4) = false := decide_eq_false c16
      clear c16
      simp only [Option.some.injEq, Prod.mk.injEq] at H
      obtain ⟨rfl, rfl, rfl⟩ := H
      go_wp2
      go_ret
      exact ⟨by first | rfl | (simp [errW_none, errW_some] <;> rfl) | (simp [*, errW_none, errW_some] <;> rfl), by repeat (first | (with_reducible first | exact HI0.out | apply IsS84.alloc | apply IsS84.drewN | apply IsS84.drew | apply IsS84.set_0 | apply IsS84.set_1) | exact HI0.out), by repeat (first | (with_reducible first | exact HB.out | apply below_alloc | apply pw_below_drewN | apply below_drew1 | refine below_set ?_ (IsS84.ge HI0.out)) | exact HB.out), by repeat (first | (with_reducible first | exact HK.out | apply KeepBut.set_ | apply keep_drewN | apply keep_drew | apply keep_alloc) | exact HK.out)⟩
     rw [if_pos c16] at H
     have c16b0 : decide (x3_2 < 4) = true := decide_eq_true c16
     clear c16
     replace H := Option.bind_eq_some_iff.mp H
     obtain ⟨⟨t104, t105, t106⟩, A170, H⟩ := H
     replace H : ((spec_hexDigit.f k2 t104).bind fun bt107 => (if bt107.2 = true then (spec_reader_escape.l0 k2 (wrap64 (x3_2 + 1)) t105 (wrap64 (t106 + 1))) else (some (false, t105, t106)))) = some (r1, r2, r3) := H
     have A17 := mk0 A170
     clear A170
     replace H := Option.bind_eq_some_iff.mp H
     obtain ⟨⟨t107, t108⟩, A180, H⟩ := H
     replace H : (if t108 = true then (spec_reader_escape.l0 k2 (wrap64 (x3_2 + 1)) t105 (wrap64 (t106 + 1))) else (some (false, t105, t106))) = some (r1, r2, r3) := H
     have A18 := mk0 A180
     clear A180
     by_cases c19 : t108 = true
     rotate_left
     ·replace c19 := Bool.eq_false_iff.mpr c19
      subst c19
      have H1 : (some (false, t105, t106)) = some (r1, r2, r3) := by rw [if_neg (show ¬ (false = true) by decide)] at H; exact H
      clear H
      have H := H1
      clear H1
      simp only [Option.some.injEq, Prod.mk.injEq] at H
      obtain ⟨rfl, rfl, rfl⟩ := H
      go_wp2_with (first | ((with_reducible refine gate_callee (f := 95) rfl ?_); refine goesL_ (some 39) rfl rfl Tryd.func95 zq16 rfl #[.pointer (some ⟨g, 0, none⟩)] rfl zq2 ?_; (with_reducible refine (spec_reader_here.calls g x1000_2 x1001_2 t104 t105 t106 w0 _ ?side1 ?side2 A17.out).mono ?_); (case side1 => exact zq8); (case side2 => exact zq6); rintro e w22 ⟨rfl, hi, hb, hk⟩; refine ⟨_, rfl, ?_⟩; have n0_ := mk0 (KeepBut.trans zq9 hk (.inl rfl)); have n1_ := mk0 (hb); have n2_ := mk0 (hi); clear HK HB HI0; have HK := n0_; have HB := n1_; have HI0 := n2_; clear n0_ n1_ n2_; (try clear hb); (try clear hb2); (try clear hk); (try clear hi)) | ((with_reducible refine gate_callee (f := 96) rfl ?_); refine goesL_ (some 40) rfl rfl Tryd.func96 zq16 rfl #[.int .u8 t104] rfl zq2 ?_; (with_reducible refine (spec_hexDigit.calls k2 t104 t107 false _ A18.out).mono ?_); rintro e w' ⟨rfl, ⟨nd, rfl⟩⟩; refine ⟨_, rfl, ?_⟩))
      go_ret
      exact ⟨by first | rfl | (simp [errW_none, errW_some] <;> rfl) | (simp [*, errW_none, errW_some] <;> rfl), by repeat (first | (with_reducible first | exact HI0.out | apply IsS84.alloc | apply IsS84.drewN | apply IsS84.drew | apply IsS84.set_0 | apply IsS84.set_1) | exact HI0.out), by repeat (first | (with_reducible first | exact HB.out | apply below_alloc | apply pw_below_drewN | apply below_drew1 | refine below_set ?_ (IsS84.ge HI0.out)) | exact HB.out), by repeat (first | (with_reducible first | exact HK.out | apply KeepBut.set_ | apply keep_drewN | apply keep_drew | apply keep_alloc) | exact HK.out)⟩
     subst c19
     have H1 : (spec_reader_escape.l0 k2 (wrap64 (x3_2 + 1)) t105 (wrap64 (t106 + 1))) = some (r1, r2, r3) := by rw [if_pos rfl] at H; exact H
     clear H
     have H := H1
     clear H1
     have H' := mk0 H
     clear H
     go_wp2_with (first | ((with_reducible refine gate_callee (f := 95) rfl ?_); refine goesL_ (some 39) rfl rfl Tryd.func95 zq16 rfl #[.pointer (some ⟨g, 0, none⟩)] rfl zq2 ?_; (with_reducible refine (spec_reader_here.calls g x1000_2 x1001_2 t104 t105 t106 w0 _ ?side1 ?side2 A17.out).mono ?_); (case side1 => exact zq8); (case side2 => exact zq6); rintro e w20 ⟨rfl, hi, hb, hk⟩; refine ⟨_, rfl, ?_⟩; have n0_ := mk0 (KeepBut.trans zq9 hk (.inl rfl)); have n1_ := mk0 (hb); have n2_ := mk0 (hi); clear HK HB HI0; have HK := n0_; have HB := n1_; have HI0 := n2_; clear n0_ n1_ n2_; (try clear hb); (try clear hb2); (try clear hk); (try clear hi)) | ((with_reducible refine gate_callee (f := 96) rfl ?_); refine goesL_ (some 40) rfl rfl Tryd.func96 zq16 rfl #[.int .u8 t104] rfl zq2 ?_; (with_reducible refine (spec_hexDigit.calls k2 t104 t107 true _ A18.out).mono ?_); rintro e w' ⟨rfl, ⟨nd, rfl⟩⟩; refine ⟨_, rfl, ?_⟩; (try (rw [drewN_self w20]; generalize hq_ : World.drewN w20 _ = w20; have n0_ : Aside0 (IsS84 w0 w20 g t105 t106) := ⟨by rw [← hq_]; exact zq8⟩; have n1_ : Aside0 (KeepBut w w20 g none) := ⟨by rw [← hq_]; exact zq9⟩; have n2_ : Aside0 (Below w0.heap.size w0 w20) := ⟨by rw [← hq_]; exact zq6⟩; clear HI0 HK HB hq_; have HI0 := n0_; have HK := n1_; have HB := n2_; clear n0_ n1_ n2_)); obtain ⟨HGz21, hgz21⟩ := HI0.out; have hcz21_0 := cellS84_0 HGz21; have hcz21_1 := cellS84_1 HGz21; have hfz21_0 := blk_frozen HGz21 0; have hfz21_1 := blk_frozen HGz21 1; clear HGz21 hgz21))
     go_roundg k2
     case measure => have := HJ2.out; have := HK2.out; omega
     case rel => exact ⟨(wrap64 (x3_2 + 1)), (t105), (wrap64 (t106 + 1)), zq3, H', ⟨by have := HJ2.out; have := HK2.out; omega⟩, ⟨by repeat (first | (with_reducible first | exact HI0.out | apply IsS84.alloc | apply IsS84.drewN | apply IsS84.drew | apply IsS84.set_0 | apply IsS84.set_1) | exact HI0.out)⟩, ⟨by repeat (first | (with_reducible first | exact HK.out | apply KeepBut.set_ | apply keep_drewN | apply keep_drew | apply keep_alloc) | exact HK.out)⟩, ⟨by repeat (first | (with_reducible first | exact HB.out | apply below_alloc | apply pw_below_drewN | apply below_drew1 | refine below_set ?_ (IsS84.ge HI0.out)) | exact HB.out)⟩⟩
def spec_reader_quoted.l0 : Nat → ByteArray → Int → Option (Bool × ByteArray × Int)
  | 0, _, _ => none
  | k + 1, x1000, x1001 => if x1001 < (x1000.size : Int) then (if 0 ≤ x1001 then (if (bt x1000 x1001) = 34 then (some (true, x1000, wrap64 (x1001 + 1))) else (if (bt x1000 x1001) < 32 then (some (false, x1000, wrap64 (x1001 + 1))) else (if (bt x1000 x1001) = 92 then ((spec_reader_escape.f k x1000 (wrap64 (x1001 + 1))).bind fun bt101 => (if bt101.1 = true then (spec_reader_quoted.l0 k bt101.2.1 bt101.2.2) else (some (false, bt101.2.1, bt101.2.2)))) else (spec_reader_quoted.l0 k x1000 (wrap64 (x1001 + 1)))))) else (none)) else (some (false, x1000, x1001))
def spec_reader_quoted.f (k : Nat) (s0_0 : ByteArray) (s0_1 : Int) : Option (Bool × ByteArray × Int) := spec_reader_quoted.l0 k s0_0 (wrap64 (s0_1 + 1))
theorem spec_reader_quoted.mono_l : ∀ k, (∀ y0 y1, LeO (spec_reader_quoted.l0 k y0 y1) (spec_reader_quoted.l0 (k + 1) y0 y1))
 | 0 => fun _ _ r h => by simp [spec_reader_quoted.l0] at h
 | k + 1 => by
  have ih0 := spec_reader_quoted.mono_l k
  ·intro y0 y1
   unfold spec_reader_quoted.l0
   repeat' first
   | (with_reducible exact ih0 _ _)
   | (with_reducible exact spec_reader_escape.mono _ _ _)
   | (with_reducible exact LeO.refl _)
   | (with_reducible exact LeO.none _)
   | (with_reducible refine LeO.ite ?_ ?_)
   | (with_reducible refine LeO.bind ?_ (fun _ => ?_))
   | exact ih0 _ _
   | exact spec_reader_escape.mono _ _ _
   | exact LeO.none _
   | refine LeO.ite ?_ ?_
   | refine LeO.bind ?_ (fun _ => ?_)
theorem spec_reader_quoted.mono : ∀ a0 a1 k, LeO (spec_reader_quoted.f k a0 a1) (spec_reader_quoted.f (k + 1) a0 a1) := by
 intro a0 a1 k
 have ih0 := spec_reader_quoted.mono_l k
 unfold spec_reader_quoted.f
 repeat' first
  | (with_reducible exact ih0 _ _)
  | (with_reducible exact spec_reader_escape.mono _ _ _)
  | (with_reducible exact LeO.refl _)
  | (with_reducible exact LeO.none _)
  | (with_reducible refine LeO.ite ?_ ?_)
  | (with_reducible refine LeO.bind ?_ (fun _ => ?_))
  | exact ih0 _ _
  | exact spec_reader_escape.mono _ _ _
  | exact LeO.none _
  | refine LeO.ite ?_ ?_
  | refine LeO.bind ?_ (fun _ => ?_)
set_option maxHeartbeats 8000000 in
set_option maxRecDepth 100000 in
theorem spec_reader_quoted.calls (k : Nat) (g : Nat) (s0_0 : ByteArray) (s0_1 : Int) (r1 : Bool) (r2 : ByteArray) (r3 : Int) (w0 w : World) (hI : IsS84 w0 w g s0_0 s0_1) (hB : Below w0.heap.size w0 w) (h : spec_reader_quoted.f k s0_0 s0_1 = some (r1, r2, r3)) :
 Calls Tryd.prog 39 #[.pointer (some ⟨g, 0, none⟩)] w fun e w' => e = .returned (.bool r1) ∧ IsS84 w0 w' g r2 r3 ∧ Below w0.heap.size w0 w' ∧ KeepBut w w' g none := by
 have HI0 := mk0 hI
 have HK := mk0 (KeepBut.refl w g none)
 have HL := mk0 hB.size
 clear hI
 have HW0 := mk0 hB.size
 have HB := mk0 hB
 clear hB
 have H : (spec_reader_quoted.l0 k s0_0 (wrap64 (s0_1 + 1))) = some (r1, r2, r3) := h
 clear h
 have H' := mk0 H
 clear H
 obtain ⟨HGz2, hgz2⟩ := HI0.out
 have hcz2_0 := cellS84_0 HGz2
 have hcz2_1 := cellS84_1 HGz2
 have hfz2_0 := blk_frozen HGz2 0
 have hfz2_1 := blk_frozen HGz2 1
 clear HGz2 hgz2
 go_enter Tryd.func39, Tryd.ntmps39
 go_wp2
 repeat (go_quiet (fail); try go_wp2)
 go_loopg [] k (fun kq w' => ∃ (x1000_1 : ByteArray) (x1001_1 : Int), Aside0 (spec_reader_quoted.l0 kq x1000_1 x1001_1 = some (r1, r2, r3)) ∧ Aside0 (kq ≤ k) ∧ Aside0 (IsS84 w0 w' g x1000_1 x1001_1) ∧ Aside0 (KeepBut w w' g none) ∧ Aside0 (Below w0.heap.size w0 w'))
 case atStart => exact ⟨(s0_0), (wrap64 (s0_1 + 1)), H', ⟨Nat.le_refl _⟩, ⟨by repeat (first | (with_reducible first | exact HI0.out | apply IsS84.alloc | apply IsS84.drewN | apply IsS84.drew | apply IsS84.set_0 | apply IsS84.set_1) | exact HI0.out)⟩, ⟨by repeat (first | (with_reducible first | exact HK.out | apply KeepBut.set_ | apply keep_drewN | apply keep_drew | apply keep_alloc) | exact HK.out)⟩, ⟨by repeat (first | (with_reducible first | exact HB.out | apply below_alloc | apply pw_below_drewN | apply below_drew1 | refine below_set ?_ (IsS84.ge HI0.out)) | exact HB.out)⟩⟩
 case round =>
  clear H'
  try clear p2
  try clear hcz2_0
  try clear hcz2_1
  try clear hfz2_0
  try clear hfz2_1
  obtain ⟨x1000_1, x1001_1, HA, HK1, HI0, HK, HB⟩ := hrel
  cases gk with
  | zero => exact absurd HA.out (by simp [spec_reader_quoted.l0])
  | succ k1 =>
   have H := HA.out
   clear HA
   simp only [spec_reader_quoted.l0] at H
   by_cases c3 : x1001_1 < (x1000_1.size : Int)
   rotate_left
   ·rw [if_neg c3] at H
    have c3b0 : decide (x1001_1 < (x1000_1.size : Int)) = false := decide_eq_false c3
    clear c3
    simp only [Option.some.injEq, Prod.mk.injEq] at H
    obtain ⟨rfl, rfl, rfl⟩ := H
    obtain ⟨HGz18, hgz18⟩ := HI0.out
    have hcz18_0 := cellS84_0 HGz18
    have hcz18_1 := cellS84_1 HGz18
    have hfz18_0 := blk_frozen HGz18 0
    have hfz18_1 := blk_frozen HGz18 1
    clear HGz18 hgz18
    go_wp2
    repeat (go_quiet (fail); try go_wp2)
    go_ret
    exact ⟨by first | rfl | (simp [errW_none, errW_some] <;> rfl) | (simp [*, errW_none, errW_some] <;> rfl), by repeat (first | (with_reducible first | exact HI0.out | apply IsS84.alloc | apply IsS84.drewN | apply IsS84.drew | apply IsS84.set_0 | apply IsS84.set_1) | exact HI0.out), by repeat (first | (with_reducible first | exact HB.out | apply below_alloc | apply pw_below_drewN | apply below_drew1 | refine below_set ?_ (IsS84.ge HI0.out)) | exact HB.out), by repeat (first | (with_reducible first | exact HK.out | apply KeepBut.set_ | apply keep_drewN | apply keep_drew | apply keep_alloc) | exact HK.out)⟩
   rw [if_pos c3] at H
   have c3b0 : decide (x1001_1 < (x1000_1.size : Int)) = true := decide_eq_true c3
   clear c3
   by_cases c4 : 0 ≤ x1001_1
   rotate_left
   ·rw [if_neg c4] at H
    exact absurd H (by simp)
   rw [if_pos c4] at H
   have c4b0 : decide (0 ≤ x1001_1) = true := decide_eq_true c4
   clear c4
   by_cases c6 : (bt x1000_1 x1001_1) = 34
   ·rw [if_pos c6] at H
    have c6b0 : ((bt x1000_1 x1001_1) == 34) = true := beq_iff_eq.mpr c6
    have c6b1 : ((bt x1000_1 x1001_1) != 34) = false := bne_eq_false_iff_eq.mpr c6
    clear c6
    simp only [Option.some.injEq, Prod.mk.injEq] at H
    obtain ⟨rfl, rfl, rfl⟩ := H
    obtain ⟨HGz7, hgz7⟩ := HI0.out
    have hcz7_0 := cellS84_0 HGz7
    have hcz7_1 := cellS84_1 HGz7
    have hfz7_0 := blk_frozen HGz7 0
    have hfz7_1 := blk_frozen HGz7 1
    clear HGz7 hgz7
    have p5 : 0 ≤ (x1001_1 : Int) := of_decide_eq_true zq1
    have q5 : x1001_1 < (x1000_1.size : Int) := of_decide_eq_true zq1
    have hx5 := bt_at x1000_1 x1001_1
    replace p5 := eq_true p5
    replace q5 := eq_true q5
    go_wp2
    repeat (go_quiet (fail); try go_wp2)
    go_ret
    exact ⟨by first | rfl | (simp [errW_none, errW_some] <;> rfl) | (simp [*, errW_none, errW_some] <;> rfl), by repeat (first | (with_reducible first | exact HI0.out | apply IsS84.alloc | apply IsS84.drewN | apply IsS84.drew | apply IsS84.set_0 | apply IsS84.set_1) | exact HI0.out), by repeat (first | (with_reducible first | exact HB.out | apply below_alloc | apply pw_below_drewN | apply below_drew1 | refine below_set ?_ (IsS84.ge HI0.out)) | exact HB.out), by repeat (first | (with_reducible first | exact HK.out | apply KeepBut.set_ | apply keep_drewN | apply keep_drew | apply keep_alloc) | exact HK.out)⟩
   rw [if_neg c6] at H
   have c6b0 : ((bt x1000_1 x1001_1) == 34) = false := beq_eq_false_iff_ne.mpr c6
   have c6b1 : ((bt x1000_1 x1001_1) != 34) = true := bne_iff_ne.mpr c6
   by_cases c8 : (bt x1000_1 x1001_1) < 32
   ·rw [if_pos c8] at H
    have c8b0 : decide ((bt x1000_1 x1001_1) < 32) = true := decide_eq_true c8
    clear c8
    simp only [Option.some.injEq, Prod.mk.injEq] at H
    obtain ⟨rfl, rfl, rfl⟩ := H
    obtain ⟨HGz9, hgz9⟩ := HI0.out
    have hcz9_0 := cellS84_0 HGz9
    have hcz9_1 := cellS84_1 HGz9
    have hfz9_0 := blk_frozen HGz9 0
    have hfz9_1 := blk_frozen HGz9 1
    clear HGz9 hgz9
    have p5 : 0 ≤ (x1001_1 : Int) := of_decide_eq_true zq1
    have q5 : x1001_1 < (x1000_1.size : Int) := of_decide_eq_true zq1
    have hx5 := bt_at x1000_1 x1001_1
    replace p5 := eq_true p5
    replace q5 := eq_true q5
    go_wp2
    repeat (go_quiet (fail); try go_wp2)
    go_ret
    exact ⟨by first | rfl | (simp [errW_none, errW_some] <;> rfl) | (simp [*, errW_none, errW_some] <;> rfl), by repeat (first | (with_reducible first | exact HI0.out | apply IsS84.alloc | apply IsS84.drewN | apply IsS84.drew | apply IsS84.set_0 | apply IsS84.set_1) | exact HI0.out), by repeat (first | (with_reducible first | exact HB.out | apply below_alloc | apply pw_below_drewN | apply below_drew1 | refine below_set ?_ (IsS84.ge HI0.out)) | exact HB.out), by repeat (first | (with_reducible first | exact HK.out | apply KeepBut.set_ | apply keep_drewN | apply keep_drew | apply keep_alloc) | exact HK.out)⟩
   rw [if_neg c8] at H
   have c8b0 : decide ((bt x1000_1 x1001_1) < 32) = false := decide_eq_false c8
   clear c8
   by_cases c10 : (bt x1000_1 x1001_1) = 92
   rotate_left
   ·rw [if_neg c10] at H
    have c10b0 : ((bt x1000_1 x1001_1) == 92) = false := beq_eq_false_iff_ne.mpr c10
    have c10b1 : ((bt x1000_1 x1001_1) != 92) = true := bne_iff_ne.mpr c10
    have H' := mk0 H
    clear H
    obtain ⟨HGz17, hgz17⟩ := HI0.out
    have hcz17_0 := cellS84_0 HGz17
    have hcz17_1 := cellS84_1 HGz17
    have hfz17_0 := blk_frozen HGz17 0
    have hfz17_1 := blk_frozen HGz17 1
    clear HGz17 hgz17
    have p5 : 0 ≤ (x1001_1 : Int) := of_decide_eq_true zq1
    have q5 : x1001_1 < (x1000_1.size : Int) := of_decide_eq_true zq1
    have hx5 := bt_at x1000_1 x1001_1
    replace p5 := eq_true p5
    replace q5 := eq_true q5
    go_wp2
    repeat (go_quiet (fail); try go_wp2)
    go_roundg k1
    case measure => have := HK1.out; omega
    case rel => exact ⟨(x1000_1), (wrap64 (x1001_1 + 1)), H', ⟨by have := HK1.out; omega⟩, ⟨by repeat (first | (with_reducible first | exact HI0.out | apply IsS84.alloc | apply IsS84.drewN | apply IsS84.drew | apply IsS84.set_0 | apply IsS84.set_1) | exact HI0.out)⟩, ⟨by repeat (first | (with_reducible first | exact HK.out | apply KeepBut.set_ | apply keep_drewN | apply keep_drew | apply keep_alloc) | exact HK.out)⟩, ⟨by repeat (first | (with_reducible first | exact HB.out | apply below_alloc | apply pw_below_drewN | apply below_drew1 | refine below_set ?_ (IsS84.ge HI0.out)) | exact HB.out)⟩⟩
   rw [if_pos c10] at H
   have c10b0 : ((bt x1000_1 x1001_1) == 92) = true := beq_iff_eq.mpr c10
   have c10b1 : ((bt x1000_1 x1001_1) != 92) = false := bne_eq_false_iff_eq.mpr c10
   clear c10
   replace H := Option.bind_eq_some_iff.mp H
   obtain ⟨⟨t101, t102, t103⟩, A110, H⟩ := H
   replace H : (if t101 = true then (spec_reader_quoted.l0 k1 t102 t103) else (some (false, t102, t103))) = some (r1, r2, r3) := H
   have A11 := mk0 A110
   clear A110
   by_cases c12 : t101 = true
   ·subst c12
    have H1 : (spec_reader_quoted.l0 k1 t102 t103) = some (r1, r2, r3) := by rw [if_pos rfl] at H; exact H
    clear H
    have H := H1
    clear H1
    have H' := mk0 H
    clear H
    obtain ⟨HGz13, hgz13⟩ := HI0.out
    have hcz13_0 := cellS84_0 HGz13
    have hcz13_1 := cellS84_1 HGz13
    have hfz13_0 := blk_frozen HGz13 0
    have hfz13_1 := blk_frozen HGz13 1
    clear HGz13 hgz13
    have p5 : 0 ≤ (x1001_1 : Int) := of_decide_eq_true zq1
    have q5 : x1001_1 < (x1000_1.size : Int) := of_decide_eq_true zq1
    have hx5 := bt_at x1000_1 x1001_1
    replace p5 := eq_true p5
    replace q5 := eq_true q5
    go_wp2_with (first | (go_at_call 67; (with_reducible refine (spec_reader_escape.calls k1 g x1000_1 (wrap64 (x1001_1 + 1)) true t102 t103 w0 _ ?side1 ?side2 A11.out).mono ?_); (case side1 => exact zq8); (case side2 => exact zq6); rintro e w14 ⟨rfl, hi, hb, hk⟩; have n0_ := mk0 (KeepBut.trans zq9 hk (.inl rfl)); have n1_ := mk0 (hb); have n2_ := mk0 (hi); clear HK HB HI0; have HK := n0_; have HB := n1_; have HI0 := n2_; clear n0_ n1_ n2_; (try clear hb); (try clear hb2); (try clear hk); (try clear hi)))
    repeat (go_quiet (first | (go_at_call 67; (with_reducible refine (spec_reader_escape.calls k1 g x1000_1 (wrap64 (x1001_1 + 1)) true t102 t103 w0 _ ?side1 ?side2 A11.out).mono ?_); (case side1 => exact zq8); (case side2 => exact zq6); rintro e w14 ⟨rfl, hi, hb, hk⟩; have n0_ := mk0 (KeepBut.trans zq9 hk (.inl rfl)); have n1_ := mk0 (hb); have n2_ := mk0 (hi); clear HK HB HI0; have HK := n0_; have HB := n1_; have HI0 := n2_; clear n0_ n1_ n2_; (try clear hb); (try clear hb2); (try clear hk); (try clear hi))); try go_wp2_with (first | (go_at_call 67; (with_reducible refine (spec_reader_escape.calls k1 g x1000_1 (wrap64 (x1001_1 + 1)) true t102 t103 w0 _ ?side1 ?side2 A11.out).mono ?_); (case side1 => exact zq8); (case side2 => exact zq6); rintro e w14 ⟨rfl, hi, hb, hk⟩; have n0_ := mk0 (KeepBut.trans zq9 hk (.inl rfl)); have n1_ := mk0 (hb); have n2_ := mk0 (hi); clear HK HB HI0; have HK := n0_; have HB := n1_; have HI0 := n2_; clear n0_ n1_ n2_; (try clear hb); (try clear hb2); (try clear hk); (try clear hi))))
    go_roundg k1
    case measure => have := HK1.out; omega
    case rel => exact ⟨(t102), (t103), H', ⟨by have := HK1.out; omega⟩, ⟨by repeat (first | (with_reducible first | exact HI0.out | apply IsS84.alloc | apply IsS84.drewN | apply IsS84.drew | apply IsS84.set_0 | apply IsS84.set_1) | exact HI0.out)⟩, ⟨by repeat (first | (with_reducible first | exact HK.out | apply KeepBut.set_ | apply keep_drewN | apply keep_drew | apply keep_alloc) | exact HK.out)⟩, ⟨by repeat (first | (with_reducible first | exact HB.out | apply below_alloc | apply pw_below_drewN | apply below_drew1 | refine below_set ?_ (IsS84.ge HI0.out)) | exact HB.out)⟩⟩
   replace c12 := Bool.eq_false_iff.mpr c12
   subst c12
   have H1 : (some (false, t102, t103)) = some (r1, r2, r3) := by rw [if_neg (show ¬ (false = true) by decide)] at H; exact H
   clear H
   have H := H1
   clear H1
   simp only [Option.some.injEq, Prod.mk.injEq] at H
   obtain ⟨rfl, rfl, rfl⟩ := H
   obtain ⟨HGz15, hgz15⟩ := HI0.out
   have hcz15_0 := cellS84_0 HGz15
   have hcz15_1 := cellS84_1 HGz15
   have hfz15_0 := blk_frozen HGz15 0
   have hfz15_1 := blk_frozen HGz15 1
   clear HGz15 hgz15
   have p5 : 0 ≤ (x1001_1 : Int) := of_decide_eq_true zq1
   have q5 : x1001_1 < (x1000_1.size : Int) := of_decide_eq_true zq1
   have hx5 := bt_at x1000_1 x1001_1
   replace p5 := eq_true p5
   replace q5 := eq_true q5
   go_wp2_with (first | (go_at_call 67; (with_reducible refine (spec_reader_escape.calls k1 g x1000_1 (wrap64 (x1001_1 + 1)) false t102 t103 w0 _ ?side1 ?side2 A11.out).mono ?_); (case side1 => exact zq8); (case side2 => exact zq6); rintro e w16 ⟨rfl, hi, hb, hk⟩; have n0_ := mk0 (KeepBut.trans zq9 hk (.inl rfl)); have n1_ := mk0 (hb); have n2_ := mk0 (hi); clear HK HB HI0; have HK := n0_; have HB := n1_; have HI0 := n2_; clear n0_ n1_ n2_; (try clear hb); (try clear hb2); (try clear hk); (try clear hi)))
   repeat (go_quiet (first | (go_at_call 67; (with_reducible refine (spec_reader_escape.calls k1 g x1000_1 (wrap64 (x1001_1 + 1)) false t102 t103 w0 _ ?side1 ?side2 A11.out).mono ?_); (case side1 => exact zq8); (case side2 => exact zq6); rintro e w16 ⟨rfl, hi, hb, hk⟩; have n0_ := mk0 (KeepBut.trans zq9 hk (.inl rfl)); have n1_ := mk0 (hb); have n2_ := mk0 (hi); clear HK HB HI0; have HK := n0_; have HB := n1_; have HI0 := n2_; clear n0_ n1_ n2_; (try clear hb); (try clear hb2); (try clear hk); (try clear hi))); try go_wp2_with (first | (go_at_call 67; (with_reducible refine (spec_reader_escape.calls k1 g x1000_1 (wrap64 (x1001_1 + 1)) false t102 t103 w0 _ ?side1 ?side2 A11.out).mono ?_); (case side1 => exact zq8); (case side2 => exact zq6); rintro e w16 ⟨rfl, hi, hb, hk⟩; have n0_ := mk0 (KeepBut.trans zq9 hk (.inl rfl)); have n1_ := mk0 (hb); have n2_ := mk0 (hi); clear HK HB HI0; have HK := n0_; have HB := n1_; have HI0 := n2_; clear n0_ n1_ n2_; (try clear hb); (try clear hb2); (try clear hk); (try clear hi))))
   go_ret
   exact ⟨by first | rfl | (simp [errW_none, errW_some] <;> rfl) | (simp [*, errW_none, errW_some] <;> rfl), by repeat (first | (with_reducible first | exact HI0.out | apply IsS84.alloc | apply IsS84.drewN | apply IsS84.drew | apply IsS84.set_0 | apply IsS84.set_1) | exact HI0.out), by repeat (first | (with_reducible first | exact HB.out | apply below_alloc | apply pw_below_drewN | apply below_drew1 | refine below_set ?_ (IsS84.ge HI0.out)) | exact HB.out), by repeat (first | (with_reducible first | exact HK.out | apply KeepBut.set_ | apply keep_drewN | apply keep_drew | apply keep_alloc) | exact HK.out)⟩
mutual
def spec_unit.j0 : Nat → ByteArray → Int → Bool → Option (Int × Bool)
  | 0, _, _, _ => none
  | k + 1, x0, x1, x27 => if x27 = true then (some (0, false)) else (spec_unit.l0 k x0 x1 0 (wrap64 (x1 + 2)))
def spec_unit.l0 : Nat → ByteArray → Int → Int → Int → Option (Int × Bool)
  | 0, _, _, _, _ => none
  | k + 1, x0, x1, x6, x7 => if x7 < (wrap64 (x1 + 6)) then (if 0 ≤ x7 then (if x7 < (x0.size : Int) then ((spec_hexDigit.f k (bt x0 x7)).bind fun bt101 => (if bt101.2 = true then (spec_unit.l0 k x0 x1 (wrap64 ((wrap64 (x6 * 16)) + bt101.1)) (wrap64 (x7 + 1))) else (some (0, false)))) else (none)) else (none)) else (some (x6, true))
end
def spec_unit.f (k : Nat) (a0 : ByteArray) (a1 : Int) : Option (Int × Bool) := if (wrap64 ((a0.size : Int) - a1)) < 6 then (spec_unit.j0 k a0 a1 true) else (if 0 ≤ a1 then (if a1 < (a0.size : Int) then (if (bt a0 a1) = 92 then (if 0 ≤ (wrap64 (a1 + 1)) then (if (wrap64 (a1 + 1)) < (a0.size : Int) then (spec_unit.j0 k a0 a1 ((bt a0 (wrap64 (a1 + 1))) != 117)) else (none)) else (none)) else (spec_unit.j0 k a0 a1 true)) else (none)) else (none))
theorem spec_unit.mono_l : ∀ k, (∀ y0 y1 y2, LeO (spec_unit.j0 k y0 y1 y2) (spec_unit.j0 (k + 1) y0 y1 y2)) ∧ (∀ y0 y1 y2 y3, LeO (spec_unit.l0 k y0 y1 y2 y3) (spec_unit.l0 (k + 1) y0 y1 y2 y3))
 | 0 => ⟨fun _ _ _ r h => by simp [spec_unit.j0] at h, fun _ _ _ _ r h => by simp [spec_unit.l0] at h⟩
 | k + 1 => by
  obtain ⟨ih0, ih1⟩ := spec_unit.mono_l k
  refine ⟨?_, ?_⟩
  ·intro y0 y1 y2
   unfold spec_unit.j0
   repeat' first
   | (with_reducible exact ih0 _ _ _)
   | (with_reducible exact ih1 _ _ _ _)
   | (with_reducible exact spec_hexDigit.mono _ _)
   | (with_reducible exact LeO.refl _)
   | (with_reducible exact LeO.none _)
   | (with_reducible refine LeO.ite ?_ ?_)
   | (with_reducible refine LeO.bind ?_ (fun _ => ?_))
   | exact ih0 _ _ _
   | exact ih1 _ _ _ _
   | exact spec_hexDigit.mono _ _
   | exact LeO.none _
   | refine LeO.ite ?_ ?_
   | refine LeO.bind ?_ (fun _ => ?_)
  ·intro y0 y1 y2 y3
   unfold spec_unit.l0
   repeat' first
   | (with_reducible exact ih0 _ _ _)
   | (with_reducible exact ih1 _ _ _ _)
   | (with_reducible exact spec_hexDigit.mono _ _)
   | (with_reducible exact LeO.refl _)
   | (with_reducible exact LeO.none _)
   | (with_reducible refine LeO.ite ?_ ?_)
   | (with_reducible refine LeO.bind ?_ (fun _ => ?_))
   | exact ih0 _ _ _
   | exact ih1 _ _ _ _
   | exact spec_hexDigit.mono _ _
   | exact LeO.none _
   | refine LeO.ite ?_ ?_
   | refine LeO.bind ?_ (fun _ => ?_)
theorem spec_unit.mono : ∀ a0 a1 k, LeO (spec_unit.f k a0 a1) (spec_unit.f (k + 1) a0 a1) := by
 intro a0 a1 k
 obtain ⟨ih0, ih1⟩ := spec_unit.mono_l k
 unfold spec_unit.f
 repeat' first
  | (with_reducible exact ih0 _ _ _)
  | (with_reducible exact ih1 _ _ _ _)
  | (with_reducible exact spec_hexDigit.mono _ _)
  | (with_reducible exact LeO.refl _)
  | (with_reducible exact LeO.none _)
  | (with_reducible refine LeO.ite ?_ ?_)
  | (with_reducible refine LeO.bind ?_ (fun _ => ?_))
  | exact ih0 _ _ _
  | exact ih1 _ _ _ _
  | exact spec_hexDigit.mono _ _
  | exact LeO.none _
  | refine LeO.ite ?_ ?_
  | refine LeO.bind ?_ (fun _ => ?_)
set_option maxHeartbeats 8000000 in
set_option maxRecDepth 100000 in
theorem spec_unit.calls (k : Nat) (a0 : ByteArray) (a1 : Int) (r1 : Int) (r2 : Bool) (w : World) (h : spec_unit.f k a0 a1 = some (r1, r2)) :
 Calls Tryd.prog 68 #[.string a0, .int .i64 a1] w fun e w' => e = .returned (.tuple #[.int .i64 r1, .bool r2]) ∧ Drawn0 w w' := by
 have H : (if (wrap64 ((a0.size : Int) - a1)) < 6 then (spec_unit.j0 k a0 a1 true) else (if 0 ≤ a1 then (if a1 < (a0.size : Int) then (if (bt a0 a1) = 92 then (if 0 ≤ (wrap64 (a1 + 1)) then (if (wrap64 (a1 + 1)) < (a0.size : Int) then (spec_unit.j0 k a0 a1 ((bt a0 (wrap64 (a1 + 1))) != 117)) else (none)) else (none)) else (spec_unit.j0 k a0 a1 true)) else (none)) else (none))) = some (r1, r2) := h
 clear h
 have HC3 := mk0 H
 clear H
 go_enter Tryd.func68, Tryd.ntmps68
 go_upto_region 1 with (fail)
 go_cut [27] (fun v27 wc => ∃ (kq : Nat) (x27_2 : Bool), v27 = .bool x27_2 ∧ Aside0 (spec_unit.j0 kq a0 a1 x27_2 = some (r1, r2)) ∧ Aside0 (kq ≤ k) ∧ Drawn0 w wc)
 case first =>
  have H := HC3.out
  clear HC3
  by_cases c4 : (wrap64 ((a0.size : Int) - a1)) < 6
  ·rw [if_pos c4] at H
   have c4b0 : decide ((wrap64 ((a0.size : Int) - a1)) < 6) = true := decide_eq_true c4
   clear c4
   (first | rw [c4b0] | (simp only [i64_w, i32_w]; rw [c4b0]) | skip)
   have H' := mk0 H
   clear H
   go_wp2
   go_meet
   case rel => exact ⟨_, (true), zq3, H', ⟨by first | omega | exact Nat.le_refl _⟩, by repeat (first | exact Drawn0.refl _ | apply Drawn0.step)⟩
  rw [if_neg c4] at H
  have c4b0 : decide ((wrap64 ((a0.size : Int) - a1)) < 6) = false := decide_eq_false c4
  clear c4
  (first | rw [c4b0] | (simp only [i64_w, i32_w]; rw [c4b0]) | skip)
  by_cases c5 : 0 ≤ a1
  rotate_left
  ·rw [if_neg c5] at H
   exact absurd H (by simp)
  rw [if_pos c5] at H
  have c5b0 : decide (0 ≤ a1) = true := decide_eq_true c5
  clear c5
  by_cases c6 : a1 < (a0.size : Int)
  rotate_left
  ·rw [if_neg c6] at H
   exact absurd H (by simp)
  rw [if_pos c6] at H
  have c6b0 : decide (a1 < (a0.size : Int)) = true := decide_eq_true c6
  clear c6
  by_cases c8 : (bt a0 a1) = 92
  rotate_left
  ·rw [if_neg c8] at H
   have c8b0 : ((bt a0 a1) == 92) = false := beq_eq_false_iff_ne.mpr c8
   have c8b1 : ((bt a0 a1) != 92) = true := bne_iff_ne.mpr c8
   have H' := mk0 H
   clear H
   have p7 : 0 ≤ (a1 : Int) := of_decide_eq_true zq1
   have q7 : a1 < (a0.size : Int) := of_decide_eq_true zq1
   have hx7 := bt_at a0 a1
   replace p7 := eq_true p7
   replace q7 := eq_true q7
   go_wp2
   go_meet
   case rel => exact ⟨_, (true), zq3, H', ⟨by first | omega | exact Nat.le_refl _⟩, by repeat (first | exact Drawn0.refl _ | apply Drawn0.step)⟩
  rw [if_pos c8] at H
  have c8b0 : ((bt a0 a1) == 92) = true := beq_iff_eq.mpr c8
  have c8b1 : ((bt a0 a1) != 92) = false := bne_eq_false_iff_eq.mpr c8
  clear c8
  obtain ⟨ji9, hji9⟩ : ∃ j_ : Int, (wrap64 (a1 + 1)) = j_ := ⟨_, rfl⟩
  replace H : (if 0 ≤ (ji9) then (if (ji9) < (a0.size : Int) then (spec_unit.j0 k a0 a1 ((bt a0 (ji9)) != 117)) else (none)) else (none)) = some (r1, r2) := by first | (rw [hji9] at H; exact H) | (simp only [hji9] at H ⊢; exact H)
  have hji9w : (IntKind.i64.wrap (a1 + 1)) = ji9 := (i64_w _).trans hji9
  by_cases c10 : 0 ≤ (ji9)
  rotate_left
  ·rw [if_neg c10] at H
   exact absurd H (by simp)
  rw [if_pos c10] at H
  have c10b0 : decide (0 ≤ (ji9)) = true := decide_eq_true c10
  clear c10
  by_cases c11 : (ji9) < (a0.size : Int)
  rotate_left
  ·rw [if_neg c11] at H
   exact absurd H (by simp)
  rw [if_pos c11] at H
  have c11b0 : decide ((ji9) < (a0.size : Int)) = true := decide_eq_true c11
  clear c11
  have H' := mk0 H
  clear H
  have p7 : 0 ≤ (a1 : Int) := of_decide_eq_true zq1
  have q7 : a1 < (a0.size : Int) := of_decide_eq_true zq1
  have hx7 := bt_at a0 a1
  replace p7 := eq_true p7
  replace q7 := eq_true q7
  have p12 : 0 ≤ ((ji9) : Int) := of_decide_eq_true zq1
  have q12 : (ji9) < (a0.size : Int) := of_decide_eq_true zq1
  have hx12 := bt_at a0 (ji9)
  replace p12 := eq_true p12
  replace q12 := eq_true q12
  go_wp2
  (try simp only [← hji9])
  go_meet
  case rel => exact ⟨_, (((bt a0 (ji9)) != 117)), (by first | with_reducible rfl | (simp only [← hji9]; done) | rfl | (simp; done) | (simp only [← hji9] <;> (first | rfl | (simp; done))) | (simp only [← hji9]; done) | (simp only [← hji9]; rfl) | (simp [*]; done)), (by first | exact H' | (simp only [← hji9] at H' ⊢; exact H')), ⟨by first | omega | exact Nat.le_refl _⟩, by repeat (first | exact Drawn0.refl _ | apply Drawn0.step)⟩
 case rest =>
  clear HC3
  try clear c1
  try clear p1
  try clear q1
  try clear hx1
  try clear p2
  try clear c4
  try clear c4b0
  try clear c5
  try clear c5b0
  try clear c6
  try clear c6b0
  try clear p6
  try clear p7
  try clear q7
  try clear hx7
  try clear c8
  try clear c8b0
  try clear c8b1
  try clear c10
  try clear c10b0
  try clear c11
  try clear c11b0
  try clear p12
  try clear q12
  try clear hx12
  try clear p12
  try clear p7
  try clear q12
  try clear q7
  obtain ⟨kq, x27_2, rfl, HA, HJ2, ⟨mc2, rfl⟩⟩ := hcut
  cases kq with
  | zero => exact absurd HA.out (by simp [spec_unit.j0])
  | succ kj2 =>
   have H := HA.out
   clear HA
   simp only [spec_unit.j0] at H
   by_cases c13 : x27_2 = true
   ·subst c13
    have H1 : (some (0, false)) = some (r1, r2) := by rw [if_pos rfl] at H; exact H
    clear H
    have H := H1
    clear H1
    simp only [Option.some.injEq, Prod.mk.injEq] at H
    obtain ⟨rfl, rfl⟩ := H
    go_wp2
    go_ret2
    exact ⟨by first | rfl | (simp; done) | (simp [*]; done), by repeat (first | exact Drawn0.refl _ | apply Drawn0.step)⟩
   replace c13 := Bool.eq_false_iff.mpr c13
   subst c13
   have H1 : (spec_unit.l0 kj2 a0 a1 0 (wrap64 (a1 + 2))) = some (r1, r2) := by rw [if_neg (show ¬ (false = true) by decide)] at H; exact H
   clear H
   have H := H1
   clear H1
   have H' := mk0 H
   clear H
   go_wp2
   go_loopg [6, 7] kj2 (fun kq v6 v7 w' => ∃ (x6_2 : Int) (x7_2 : Int), v6 = .int .i64 x6_2 ∧ v7 = .int .i64 x7_2 ∧ Aside0 (spec_unit.l0 kq a0 a1 x6_2 x7_2 = some (r1, r2)) ∧ Aside0 (kq ≤ kj2) ∧ Drawn0 w w')
   case atStart => exact ⟨(0), (wrap64 (a1 + 2)), zq3, zq3, H', ⟨Nat.le_refl _⟩, by repeat (first | exact Drawn0.refl _ | apply Drawn0.step)⟩
   case round =>
    clear H'
    try clear c1
    try clear p1
    try clear q1
    try clear hx1
    try clear c2
    try clear p2
    try clear c4
    try clear c4b0
    try clear c5
    try clear c5b0
    try clear c6
    try clear c6b0
    try clear p6
    try clear p7
    try clear q7
    try clear hx7
    try clear c8
    try clear c8b0
    try clear c8b1
    try clear c10
    try clear c10b0
    try clear c11
    try clear c11b0
    try clear p12
    try clear q12
    try clear hx12
    try clear c13
    try clear p1
    try clear p12
    try clear p2
    try clear p6
    try clear p7
    try clear q1
    try clear q12
    try clear q7
    obtain ⟨x6_2, x7_2, rfl, rfl, HA, HK2, ⟨m2, rfl⟩⟩ := hrel
    cases gk with
    | zero => exact absurd HA.out (by simp [spec_unit.l0])
    | succ k2 =>
     have H := HA.out
     clear HA
     simp only [spec_unit.l0] at H
     by_cases c14 : x7_2 < (wrap64 (a1 + 6))
     rotate_left
     ·rw [if_neg c14] at H
      have c14b0 : decide (x7_2 < (wrap64 (a1 + 6))) = false := decide_eq_false c14
      clear c14
      simp only [Option.some.injEq, Prod.mk.injEq] at H
      obtain ⟨rfl, rfl⟩ := H
      go_wp2
      go_ret2
      exact ⟨by first | rfl | (simp; done) | (simp [*]; done), by repeat (first | exact Drawn0.refl _ | apply Drawn0.step)⟩
     rw [if_pos c14] at H
     have c14b0 : decide (x7_2 < (wrap64 (a1 + 6))) = true := decide_eq_true c14
     clear c14
     by_cases c15 : 0 ≤ x7_2
     rotate_left
     ·rw [if_neg c15] at H
      exact absurd H (by simp)
     rw [if_pos c15] at H
     have c15b0 : decide (0 ≤ x7_2) = true := decide_eq_true c15
     clear c15
     by_cases c16 : x7_2 < (a0.size : Int)
     rotate_left
     ·rw [if_neg c16] at H
      exact absurd H (by simp)
     rw [if_pos c16] at H
     have c16b0 : decide (x7_2 < (a0.size : Int)) = true := decide_eq_true c16
     clear c16
     replace H := Option.bind_eq_some_iff.mp H
     obtain ⟨⟨t101, t102⟩, A180, H⟩ := H
     replace H : (if t102 = true then (spec_unit.l0 k2 a0 a1 (wrap64 ((wrap64 (x6_2 * 16)) + t101)) (wrap64 (x7_2 + 1))) else (some (0, false))) = some (r1, r2) := H
     have A18 := mk0 A180
     clear A180
     by_cases c19 : t102 = true
     rotate_left
     ·replace c19 := Bool.eq_false_iff.mpr c19
      subst c19
      have H1 : (some (0, false)) = some (r1, r2) := by rw [if_neg (show ¬ (false = true) by decide)] at H; exact H
      clear H
      have H := H1
      clear H1
      simp only [Option.some.injEq, Prod.mk.injEq] at H
      obtain ⟨rfl, rfl⟩ := H
      have p17 : 0 ≤ (x7_2 : Int) := of_decide_eq_true zq1
      have q17 : x7_2 < (a0.size : Int) := of_decide_eq_true zq1
      have hx17 := bt_at a0 x7_2
      replace p17 := eq_true p17
      replace q17 := eq_true q17
      go_wp2_with (first | ((with_reducible refine gate_callee (f := 96) rfl ?_); refine goesL_ (some 40) rfl rfl Tryd.func96 zq16 rfl #[.int .u8 (bt a0 x7_2)] rfl zq2 ?_; (with_reducible refine (spec_hexDigit.calls k2 (bt a0 x7_2) t101 false _ A18.out).mono ?_); rintro e w' ⟨rfl, ⟨nd, rfl⟩⟩; refine ⟨_, rfl, ?_⟩))
      go_ret2
      exact ⟨by first | rfl | (simp; done) | (simp [*]; done), by repeat (first | exact Drawn0.refl _ | apply Drawn0.step)⟩
     subst c19
     have H1 : (spec_unit.l0 k2 a0 a1 (wrap64 ((wrap64 (x6_2 * 16)) + t101)) (wrap64 (x7_2 + 1))) = some (r1, r2) := by rw [if_pos rfl] at H; exact H
     clear H
     have H := H1
     clear H1
     have H' := mk0 H
     clear H
     have p17 : 0 ≤ (x7_2 : Int) := of_decide_eq_true zq1
     have q17 : x7_2 < (a0.size : Int) := of_decide_eq_true zq1
     have hx17 := bt_at a0 x7_2
     replace p17 := eq_true p17
     replace q17 := eq_true q17
     go_wp2_with (first | ((with_reducible refine gate_callee (f := 96) rfl ?_); refine goesL_ (some 40) rfl rfl Tryd.func96 zq16 rfl #[.int .u8 (bt a0 x7_2)] rfl zq2 ?_; (with_reducible refine (spec_hexDigit.calls k2 (bt a0 x7_2) t101 true _ A18.out).mono ?_); rintro e w' ⟨rfl, ⟨nd, rfl⟩⟩; refine ⟨_, rfl, ?_⟩))
     go_roundg k2
     case measure => have := HJ2.out; have := HK2.out; omega
     case rel => exact ⟨(wrap64 ((wrap64 (x6_2 * 16)) + t101)), (wrap64 (x7_2 + 1)), zq3, zq3, H', ⟨by have := HJ2.out; have := HK2.out; omega⟩, by repeat (first | exact Drawn0.refl _ | apply Drawn0.step)⟩
def spec_short.f (a0 : Int) : Option (Int) := if a0 = 98 then (some 8) else (if a0 = 102 then (some 12) else (if a0 = 110 then (some 10) else (if a0 = 114 then (some 13) else (if a0 = 116 then (some 9) else (some a0)))))
set_option maxHeartbeats 8000000 in
set_option maxRecDepth 100000 in
theorem spec_short.calls (a0 : Int) (r : Int) (w : World) (h : spec_short.f a0 = some r) :
 Calls Tryd.prog 69 #[.int .u8 a0] w fun e w' => e = .returned (.int .u8 r) ∧ Drawn0 w w' := by
 have H : (if a0 = 98 then (some 8) else (if a0 = 102 then (some 12) else (if a0 = 110 then (some 10) else (if a0 = 114 then (some 13) else (if a0 = 116 then (some 9) else (some a0)))))) = some r := h
 clear h
 by_cases c2 : a0 = 98
 ·rw [if_pos c2] at H
  have c2b0 : (a0 == 98) = true := beq_iff_eq.mpr c2
  have c2b1 : (a0 != 98) = false := bne_eq_false_iff_eq.mpr c2
  clear c2
  obtain rfl := Option.some.inj H
  go_enter Tryd.func69, Tryd.ntmps69
  go_wp2
  go_ret
  exact ⟨by first | rfl | (simp; done) | (simp [*]; done), by repeat (first | exact Drawn0.refl _ | apply Drawn0.step)⟩
 rw [if_neg c2] at H
 have c2b0 : (a0 == 98) = false := beq_eq_false_iff_ne.mpr c2
 have c2b1 : (a0 != 98) = true := bne_iff_ne.mpr c2
 by_cases c3 : a0 = 102
 ·rw [if_pos c3] at H
  have c3b0 : (a0 == 102) = true := beq_iff_eq.mpr c3
  have c3b1 : (a0 != 102) = false := bne_eq_false_iff_eq.mpr c3
  clear c3
  obtain rfl := Option.some.inj H
  go_enter Tryd.func69, Tryd.ntmps69
  go_wp2
  go_ret
  exact ⟨by first | rfl | (simp; done) | (simp [*]; done), by repeat (first | exact Drawn0.refl _ | apply Drawn0.step)⟩
 rw [if_neg c3] at H
 have c3b0 : (a0 == 102) = false := beq_eq_false_iff_ne.mpr c3
 have c3b1 : (a0 != 102) = true := bne_iff_ne.mpr c3
 by_cases c4 : a0 = 110
 ·rw [if_pos c4] at H
  have c4b0 : (a0 == 110) = true := beq_iff_eq.mpr c4
  have c4b1 : (a0 != 110) = false := bne_eq_false_iff_eq.mpr c4
  clear c4
  obtain rfl := Option.some.inj H
  go_enter Tryd.func69, Tryd.ntmps69
  go_wp2
  go_ret
  exact ⟨by first | rfl | (simp; done) | (simp [*]; done), by repeat (first | exact Drawn0.refl _ | apply Drawn0.step)⟩
 rw [if_neg c4] at H
 have c4b0 : (a0 == 110) = false := beq_eq_false_iff_ne.mpr c4
 have c4b1 : (a0 != 110) = true := bne_iff_ne.mpr c4
 by_cases c5 : a0 = 114
 ·rw [if_pos c5] at H
  have c5b0 : (a0 == 114) = true := beq_iff_eq.mpr c5
  have c5b1 : (a0 != 114) = false := bne_eq_false_iff_eq.mpr c5
  clear c5
  obtain rfl := Option.some.inj H
  go_enter Tryd.func69, Tryd.ntmps69
  go_wp2
  go_ret
  exact ⟨by first | rfl | (simp; done) | (simp [*]; done), by repeat (first | exact Drawn0.refl _ | apply Drawn0.step)⟩
 rw [if_neg c5] at H
 have c5b0 : (a0 == 114) = false := beq_eq_false_iff_ne.mpr c5
 have c5b1 : (a0 != 114) = true := bne_iff_ne.mpr c5
 by_cases c6 : a0 = 116
 rotate_left
 ·rw [if_neg c6] at H
  have c6b0 : (a0 == 116) = false := beq_eq_false_iff_ne.mpr c6
  have c6b1 : (a0 != 116) = true := bne_iff_ne.mpr c6
  obtain rfl := Option.some.inj H
  go_enter Tryd.func69, Tryd.ntmps69
  go_wp2
  go_ret
  exact ⟨by first | rfl | (simp; done) | (simp [*]; done), by repeat (first | exact Drawn0.refl _ | apply Drawn0.step)⟩
 rw [if_pos c6] at H
 have c6b0 : (a0 == 116) = true := beq_iff_eq.mpr c6
 have c6b1 : (a0 != 116) = false := bne_eq_false_iff_eq.mpr c6
 clear c6
 obtain rfl := Option.some.inj H
 go_enter Tryd.func69, Tryd.ntmps69
 go_wp2
 go_ret
 exact ⟨by first | rfl | (simp; done) | (simp [*]; done), by repeat (first | exact Drawn0.refl _ | apply Drawn0.step)⟩
def spec_high.f (a0 : Int) : Option (Bool) := if 55296 ≤ a0 then (some (decide (a0 ≤ 56319))) else (some false)
set_option maxHeartbeats 8000000 in
set_option maxRecDepth 100000 in
theorem spec_high.calls (a0 : Int) (r : Bool) (w : World) (h : spec_high.f a0 = some r) :
 Calls Tryd.prog 70 #[.int .i64 a0] w fun e w' => e = .returned (.bool r) ∧ Drawn0 w w' := by
 have H : (if 55296 ≤ a0 then (some (decide (a0 ≤ 56319))) else (some false)) = some r := h
 clear h
 by_cases c2 : 55296 ≤ a0
 ·rw [if_pos c2] at H
  have c2b0 : decide (55296 ≤ a0) = true := decide_eq_true c2
  clear c2
  obtain rfl := Option.some.inj H
  go_enter Tryd.func70, Tryd.ntmps70
  go_wp2
  go_ret
  exact ⟨by first | rfl | (simp; done) | (simp [*]; done), by repeat (first | exact Drawn0.refl _ | apply Drawn0.step)⟩
 rw [if_neg c2] at H
 have c2b0 : decide (55296 ≤ a0) = false := decide_eq_false c2
 clear c2
 obtain rfl := Option.some.inj H
 go_enter Tryd.func70, Tryd.ntmps70
 go_wp2
 go_ret
 exact ⟨by first | rfl | (simp; done) | (simp [*]; done), by repeat (first | exact Drawn0.refl _ | apply Drawn0.step)⟩
def spec_low.f (a0 : Int) : Option (Bool) := if 56320 ≤ a0 then (some (decide (a0 ≤ 57343))) else (some false)
set_option maxHeartbeats 8000000 in
set_option maxRecDepth 100000 in
theorem spec_low.calls (a0 : Int) (r : Bool) (w : World) (h : spec_low.f a0 = some r) :
 Calls Tryd.prog 71 #[.int .i64 a0] w fun e w' => e = .returned (.bool r) ∧ Drawn0 w w' := by
 have H : (if 56320 ≤ a0 then (some (decide (a0 ≤ 57343))) else (some false)) = some r := h
 clear h
 by_cases c2 : 56320 ≤ a0
 ·rw [if_pos c2] at H
  have c2b0 : decide (56320 ≤ a0) = true := decide_eq_true c2
  clear c2
  obtain rfl := Option.some.inj H
  go_enter Tryd.func71, Tryd.ntmps71
  go_wp2
  go_ret
  exact ⟨by first | rfl | (simp; done) | (simp [*]; done), by repeat (first | exact Drawn0.refl _ | apply Drawn0.step)⟩
 rw [if_neg c2] at H
 have c2b0 : decide (56320 ≤ a0) = false := decide_eq_false c2
 clear c2
 obtain rfl := Option.some.inj H
 go_enter Tryd.func71, Tryd.ntmps71
 go_wp2
 go_ret
 exact ⟨by first | rfl | (simp; done) | (simp [*]; done), by repeat (first | exact Drawn0.refl _ | apply Drawn0.step)⟩
def spec_appendUTF8.j0 : Nat → List Int → Int → Bool → Option (List Int)
  | 0, _, _, _ => none
  | k + 1, x0, x1, x27 => if x27 = true then ((some (([239, 191, 189] : List Int) : List Int)).bind fun y112 => (if x0.length + y112.length < 140737488355328 then (some (x0 ++ y112)) else (none))) else (if x1 < 65536 then ((some (([(wrap64 (224 + (wrap64 (Int.tdiv x1 4096)))) % 256, (wrap64 (128 + (Int.tmod (wrap64 (Int.tdiv x1 64)) 64))) % 256, (wrap64 (128 + (Int.tmod x1 64))) % 256] : List Int) : List Int)).bind fun y118 => (if x0.length + y118.length < 140737488355328 then (some (x0 ++ y118)) else (none))) else ((some (([(wrap64 (240 + (wrap64 (Int.tdiv x1 262144)))) % 256, (wrap64 (128 + (Int.tmod (wrap64 (Int.tdiv x1 4096)) 64))) % 256, (wrap64 (128 + (Int.tmod (wrap64 (Int.tdiv x1 64)) 64))) % 256, (wrap64 (128 + (Int.tmod x1 64))) % 256] : List Int) : List Int)).bind fun y124 => (if x0.length + y124.length < 140737488355328 then (some (x0 ++ y124)) else (none))))
def spec_appendUTF8.f (k : Nat) (l0 : List Int) (a1 : Int) : Option (List Int) := if a1 < 128 then (if l0.length < 140737488355328 then (some (l0 ++ [(a1) % 256])) else (none)) else (if a1 < 2048 then ((some (([(wrap64 (192 + (wrap64 (Int.tdiv a1 64)))) % 256, (wrap64 (128 + (Int.tmod a1 64))) % 256] : List Int) : List Int)).bind fun y104 => (if l0.length + y104.length < 140737488355328 then (some (l0 ++ y104)) else (none))) else ((spec_high.f a1).bind fun t110 => (if t110 = true then (spec_appendUTF8.j0 k l0 a1 true) else ((spec_low.f a1).bind fun t111 => (spec_appendUTF8.j0 k l0 a1 t111)))))
theorem spec_appendUTF8.mono_l : ∀ k, (∀ y0 y1 y2, LeO (spec_appendUTF8.j0 k y0 y1 y2) (spec_appendUTF8.j0 (k + 1) y0 y1 y2))
 | 0 => fun _ _ _ r h => by simp [spec_appendUTF8.j0] at h
 | k + 1 => by
  have ih0 := spec_appendUTF8.mono_l k
  ·intro y0 y1 y2
   unfold spec_appendUTF8.j0
   repeat' first
   | (with_reducible exact ih0 _ _ _)
   | (with_reducible exact LeO.refl _)
   | (with_reducible exact LeO.none _)
   | (with_reducible refine LeO.ite ?_ ?_)
   | (with_reducible refine LeO.bind ?_ (fun _ => ?_))
   | exact ih0 _ _ _
   | exact LeO.none _
   | refine LeO.ite ?_ ?_
   | refine LeO.bind ?_ (fun _ => ?_)
theorem spec_appendUTF8.mono : ∀ a0 a1 k, LeO (spec_appendUTF8.f k a0 a1) (spec_appendUTF8.f (k + 1) a0 a1) := by
 intro a0 a1 k
 have ih0 := spec_appendUTF8.mono_l k
 unfold spec_appendUTF8.f
 repeat' first
  | (with_reducible exact ih0 _ _ _)
  | (with_reducible exact LeO.refl _)
  | (with_reducible exact LeO.none _)
  | (with_reducible refine LeO.ite ?_ ?_)
  | (with_reducible refine LeO.bind ?_ (fun _ => ?_))
  | exact ih0 _ _ _
  | exact LeO.none _
  | refine LeO.ite ?_ ?_
  | refine LeO.bind ?_ (fun _ => ?_)
set_option maxHeartbeats 8000000 in
set_option maxRecDepth 100000 in
theorem spec_appendUTF8.calls (k : Nat) (P0_ : Nat → Prop) (u9000_ : Value) (l0 : List Int) (a1 : Int) (r : List Int) (w0 w : World) (hB : Below w0.heap.size w0 w) (ho0 : Kd.R (Kd.int .u8) 5 w w0.heap.size P0_ u9000_ l0) (h : spec_appendUTF8.f k l0 a1 = some r) :
 Calls Tryd.prog 72 #[u9000_, .int .i64 a1] w fun e w' => ∃ v0_ : Value, e = .returned (v0_) ∧ Kd.R (Kd.int .u8) 5 w' w0.heap.size (fun k_ => (P0_ k_ ∨ w.heap.size ≤ k_)) v0_ r ∧ Below w0.heap.size w0 w' ∧ Kept w w' (fun k_ => P0_ k_) := by
 have HO0 := mk0 (show Kd.R (Kd.int .u8) 5 w w0.heap.size (fun k_ => (P0_ k_ ∨ w.heap.size ≤ k_)) u9000_ l0 from Kd.R_mono ho0 (fun k_ hk => (.inl hk)))
 have HK := mk0 (Kept.refl w (fun k_ => P0_ k_))
 have HW0 := mk0 hB.size
 have HB := mk0 hB
 clear hB
 have H : (if a1 < 128 then (if l0.length < 140737488355328 then (some (l0 ++ [(a1) % 256])) else (none)) else (if a1 < 2048 then ((some (([(wrap64 (192 + (wrap64 (Int.tdiv a1 64)))) % 256, (wrap64 (128 + (Int.tmod a1 64))) % 256] : List Int) : List Int)).bind fun y104 => (if l0.length + y104.length < 140737488355328 then (some (l0 ++ y104)) else (none))) else ((spec_high.f a1).bind fun t110 => (if t110 = true then (spec_appendUTF8.j0 k l0 a1 true) else ((spec_low.f a1).bind fun t111 => (spec_appendUTF8.j0 k l0 a1 t111)))))) = some r := h
 clear h
 by_cases c3 : a1 < 128
 ·rw [if_pos c3] at H
  have c3b0 : decide (a1 < 128) = true := decide_eq_true c3
  clear c3
  by_cases c4 : l0.length < 140737488355328
  rotate_left
  ·rw [if_neg c4] at H
   exact absurd H (by simp)
  rw [if_pos c4] at H
  have LMc4 := mk0 c4
  clear c4
  obtain ⟨y101, hy101⟩ : ∃ y_ : List Int, y_ = (l0 ++ [(a1) % 256]) := ⟨_, rfl⟩
  replace H : (some y101) = some r := by first | (rw [hy101]; with_reducible exact H) | (have H2_ := (Option.bind_some _ _).symm.trans H; rw [hy101]; with_reducible exact H2_) | (have H2_ := (Option.bind_some _ _).symm.trans H; with_reducible exact H2_) | with_reducible exact H | (rw [hy101]; exact H) | exact H
  have Ny101 := mk0 hy101
  clear hy101
  obtain rfl := Option.some.inj H
  go_enter Tryd.func72, Tryd.ntmps72
  go_wp2_with (first | ((with_reducible refine gate_builtin (b := .append) (xs := #[.tmp 8, .tmp 11]) rfl ?_); at_builtin; refine Kd.R_append (Kd.int .u8) (w0 := w0) w0.heap.size rfl (.tmp 8) (.tmp 11) 59 5 (.int .u8 0) 1 rfl Tryd.underlying59 info5 rfl zq23 (by omega) u9000_ l0 ((a1) % 256) [.int .u8 ((a1) % 256)] (fun k_ => (P0_ k_ ∨ w.heap.size ≤ k_)) (fun _ => False) rfl rfl ?aP (fun _ hk => hk.elim) ?aF ?aO ?aB ?aS ?aL ?_; (case aP => exact rfl); (case aB => exact zq0); (case aF => exact (fun k_ hk => (.inr (Nat.le_trans zq17 hk)))); (case aO => exact zq21); (case aS => exact (below_size zq0)); (case aL => have := LMc4.out; omega); intro v102 w5 ho hb hg hat; rw [← Ny101.out] at ho; have n0_ := mk0 (hb); have n1_ := mk0 (Kept.of_grown (S := (fun k_ => P0_ k_)) hg zq5 (fun k_ e_ => (HO0.out.1 k_ e_))); have n2_ := mk0 (ho); clear HB HK HO0; have HB := n0_; have HK := n1_; have HO103 := n2_; clear n0_ n1_ n2_; clear ho hb hg hat))
  go_ret
  exact ⟨_, by first | rfl | (simp [errW_none, errW_some] <;> rfl) | (simp [*, errW_none, errW_some] <;> rfl), by (with_reducible repeat (first | apply Kd.R_alloc | apply Kd.R_drewN | apply Kd.R_drew)); exact HO103.out, by repeat (first | (with_reducible first | exact HB.out | apply below_alloc | apply pw_below_drewN | apply below_drew1) | exact HB.out), by repeat (first | (with_reducible first | exact HK.out | apply Kept.alloc | apply Kept.drewN | apply Kept.drew) | exact HK.out)⟩
 rw [if_neg c3] at H
 have c3b0 : decide (a1 < 128) = false := decide_eq_false c3
 clear c3
 by_cases c6 : a1 < 2048
 ·rw [if_pos c6] at H
  have c6b0 : decide (a1 < 2048) = true := decide_eq_true c6
  clear c6
  obtain ⟨y104, hy104⟩ : ∃ y_ : List Int, y_ = (([(wrap64 (192 + (wrap64 (Int.tdiv a1 64)))) % 256, (wrap64 (128 + (Int.tmod a1 64))) % 256] : List Int)) := ⟨_, rfl⟩
  replace H : (if l0.length + y104.length < 140737488355328 then (some (l0 ++ y104)) else (none)) = some r := by first | (rw [hy104]; with_reducible exact H) | (have H2_ := (Option.bind_some _ _).symm.trans H; rw [hy104]; with_reducible exact H2_) | (have H2_ := (Option.bind_some _ _).symm.trans H; with_reducible exact H2_) | with_reducible exact H | (rw [hy104]; exact H) | exact H
  have Ny104 := mk0 hy104
  clear hy104
  by_cases c7 : l0.length + y104.length < 140737488355328
  rotate_left
  ·rw [if_neg c7] at H
   exact absurd H (by simp)
  rw [if_pos c7] at H
  have LMc7 := mk0 c7
  clear c7
  obtain ⟨y107, hy107⟩ : ∃ y_ : List Int, y_ = (l0 ++ y104) := ⟨_, rfl⟩
  replace H : (some y107) = some r := by first | (rw [hy107]; with_reducible exact H) | (have H2_ := (Option.bind_some _ _).symm.trans H; rw [hy107]; with_reducible exact H2_) | (have H2_ := (Option.bind_some _ _).symm.trans H; with_reducible exact H2_) | with_reducible exact H | (rw [hy107]; exact H) | exact H
  have Ny107 := mk0 hy107
  clear hy107
  obtain rfl := Option.some.inj H
  go_enter Tryd.func72, Tryd.ntmps72
  go_wp2_with (first | ((with_reducible refine gate_dst (N := 25) rfl ?_); refine Kd.R_lit (Kd.int .u8) _ 5 ?hg (N := 25) ?hd (xs := ([(wrap64 (192 + (wrap64 (Int.tdiv a1 64)))) % 256, (wrap64 (128 + (Int.tmod a1 64))) % 256] : List Int)) (inner := [.int .u8 ((wrap64 (192 + (wrap64 (Int.tdiv a1 64)))) % 256), .int .u8 ((wrap64 (128 + (Int.tmod a1 64))) % 256)]) (ok := fun _ => True) (okp := fun _ => True) ?hr ?hp (fun _ hk => hk) trivial (Below.refl _ _) (Nat.le_refl _) (by simp) ?_; (case hd => rfl); (case hg => rfl); (case hr => exact zq22); (case hp => exact (Reps.one (show Kd.M (Kd.int .u8) _ _ _ ((wrap64 (192 + (wrap64 (Int.tdiv a1 64)))) % 256) [.int .u8 ((wrap64 (192 + (wrap64 (Int.tdiv a1 64)))) % 256)] from rfl) (Reps.one (show Kd.M (Kd.int .u8) _ _ _ ((wrap64 (128 + (Int.tmod a1 64))) % 256) [.int .u8 ((wrap64 (128 + (Int.tmod a1 64))) % 256)] from rfl) (Reps.none _ _)))); intro v105 w8 ho9 hb hg_ hnew_; clear hg_ hnew_; (first | rw [← Ny104.out] at ho9 | (simp only [Int.reduceToNat] at ho9; rw [← Ny104.out] at ho9)); have n0_ := mk0 (Kd.R_elder' zq21 (Kd.R_base ho9) hb); have n1_ := mk0 (Kd.R_lower (Kd.R_new' (Kd.R_newM (M := fun k_ => (P0_ k_ ∨ w.heap.size ≤ k_)) ho9 zq17 (fun k_ h_ => .inr h_)) (Kd.R_lt zq21)) (below_size zq0)); have n2_ := mk0 (Kept.below (S := (fun k_ => P0_ k_)) zq5 hb); have n3_ := mk0 (below_step zq0 hb); clear HO0 HK HB; have HO0 := n0_; have HO106 := n1_; have HK := n2_; have HB := n3_; clear n0_ n1_ n2_ n3_; clear hb ho9; obtain ⟨Ao11, co11, eo11⟩ := Kd.R_slice HO106.out; subst eo11) | ((with_reducible refine gate_builtin (b := .append) (xs := #[.tmp 16, .tmp 25]) rfl ?_); at_builtin; refine Kd.R_append_rows (Kd.int .u8) (w0 := w0) w0.heap.size rfl (.tmp 16) (.tmp 25) 59 5 (.int .u8 0) 1 rfl Tryd.underlying59 info5 rfl zq23 (by omega) u9000_ l0 y104 _ _ _ (fun k_ => (P0_ k_ ∨ w.heap.size ≤ k_) ∧ some k_ ≠ (.slice Ao11 y104.length co11 : Value).ownBlock) (fun _ => False) rfl rfl ?aO ?aR (fun _ _ h => h) (fun _ h => h.elim) ?aF ?aB ?aS ?aL ?_; (case aR => repeat (first | exact (Kd.R_reads' HO106.out).2.2 | (with_reducible refine Kd.C_alloc ?_ _) | (with_reducible refine Kd.C_drewN ?_ _) | (with_reducible refine Kd.C_drew ?_))); (case aB => exact zq0); (case aF => exact (fun k_ hk => ⟨(.inr (Nat.le_trans zq17 hk)), Kd.fresh' (Kd.R_lt (by (with_reducible repeat (first | apply Kd.R_alloc | apply Kd.R_drewN | apply Kd.R_drew)); exact HO106.out)) k_ hk⟩)); (case aO => exact zq21); (case aS => exact (below_size zq0)); (case aL => have := LMc7.out; omega); intro v108 w10 ho hb hg hat; rw [← Ny107.out] at ho; have n0_ := mk0 (Kd.R_after (ok := (fun k_ => (P0_ k_ ∨ w.heap.size ≤ k_))) (by (with_reducible repeat (first | apply Kd.R_alloc | apply Kd.R_drewN | apply Kd.R_drew)); exact Kd.R_mono HO106.out (fun _ hk => ⟨hk.1.1, hk.2⟩)) hg hat); have n1_ := mk0 (hb); have n2_ := mk0 (Kept.of_grown (S := (fun k_ => P0_ k_)) hg zq5 (fun k_ e_ => (HO0.out.1 k_ e_).1)); have n3_ := mk0 (ho); clear HO106 HB HK HO0; have HO106 := n0_; have HB := n1_; have HK := n2_; have HO109 := n3_; clear n0_ n1_ n2_ n3_; clear ho hb hg hat))
  go_ret
  exact ⟨_, by first | rfl | (simp [errW_none, errW_some] <;> rfl) | (simp [*, errW_none, errW_some] <;> rfl), by (with_reducible repeat (first | apply Kd.R_alloc | apply Kd.R_drewN | apply Kd.R_drew)); exact Kd.R_mono HO109.out (fun _ hk => hk.1), by repeat (first | (with_reducible first | exact HB.out | apply below_alloc | apply pw_below_drewN | apply below_drew1) | exact HB.out), by repeat (first | (with_reducible first | exact HK.out | apply Kept.alloc | apply Kept.drewN | apply Kept.drew) | exact HK.out)⟩
 rw [if_neg c6] at H
 have c6b0 : decide (a1 < 2048) = false := decide_eq_false c6
 clear c6
 have HC12 := mk0 H
 clear H
 go_enter Tryd.func72, Tryd.ntmps72
 go_upto_region 5 with (fail)
 go_cut [27] (fun v27 wc => ∃ (kq : Nat) (x27_11 : Bool), v27 = .bool x27_11 ∧ Aside0 (spec_appendUTF8.j0 kq l0 a1 x27_11 = some r) ∧ Aside0 (kq ≤ k) ∧ Aside0 (Kd.R (Kd.int .u8) 5 wc w0.heap.size (fun k_ => (P0_ k_ ∨ w.heap.size ≤ k_)) u9000_ l0) ∧ Aside0 (Kept w wc (fun k_ => P0_ k_)) ∧ Aside0 (Below w0.heap.size w0 wc))
 case first =>
  have H := HC12.out
  clear HC12
  replace H := Option.bind_eq_some_iff.mp H
  obtain ⟨t110, A130, H⟩ := H
  replace H : (if t110 = true then (spec_appendUTF8.j0 k l0 a1 true) else ((spec_low.f a1).bind fun t111 => (spec_appendUTF8.j0 k l0 a1 t111))) = some r := H
  have A13 := mk0 A130
  clear A130
  by_cases c14 : t110 = true
  ·subst c14
   have H1 : (spec_appendUTF8.j0 k l0 a1 true) = some r := by rw [if_pos rfl] at H; exact H
   clear H
   have H := H1
   clear H1
   have H' := mk0 H
   clear H
   go_wp2_with (first | ((with_reducible refine gate_callee (f := 70) rfl ?_); refine goesL_ (some 29) rfl rfl Tryd.func70 zq16 rfl #[.int .i64 a1] rfl zq2 ?_; (with_reducible refine (spec_high.calls a1 true _ A13.out).mono ?_); rintro e w' ⟨rfl, ⟨nd, rfl⟩⟩; refine ⟨_, rfl, ?_⟩))
   go_meet
   case rel => exact ⟨_, (true), zq3, H', ⟨by first | omega | exact Nat.le_refl _⟩, ⟨by (with_reducible repeat (first | apply Kd.R_alloc | apply Kd.R_drewN | apply Kd.R_drew)); exact HO0.out⟩, ⟨by repeat (first | (with_reducible first | exact HK.out | apply Kept.alloc | apply Kept.drewN | apply Kept.drew) | exact HK.out)⟩, ⟨by repeat (first | (with_reducible first | exact HB.out | apply below_alloc | apply pw_below_drewN | apply below_drew1) | exact HB.out)⟩⟩
  replace c14 := Bool.eq_false_iff.mpr c14
  subst c14
  have H1 : ((spec_low.f a1).bind fun t111 => (spec_appendUTF8.j0 k l0 a1 t111)) = some r := by rw [if_neg (show ¬ (false = true) by decide)] at H; exact H
  clear H
  have H := H1
  clear H1
  replace H := Option.bind_eq_some_iff.mp H
  obtain ⟨t111, A150, H⟩ := H
  replace H : (spec_appendUTF8.j0 k l0 a1 t111) = some r := H
  have A15 := mk0 A150
  clear A150
  have H' := mk0 H
  clear H
  go_wp2_with (first | ((with_reducible refine gate_callee (f := 70) rfl ?_); refine goesL_ (some 29) rfl rfl Tryd.func70 zq16 rfl #[.int .i64 a1] rfl zq2 ?_; (with_reducible refine (spec_high.calls a1 false _ A13.out).mono ?_); rintro e w' ⟨rfl, ⟨nd, rfl⟩⟩; refine ⟨_, rfl, ?_⟩) | (go_at_call 71; (with_reducible refine (spec_low.calls a1 t111 _ A15.out).mono ?_); rintro e w' ⟨rfl, ⟨nd, rfl⟩⟩))
  go_meet
  case rel => exact ⟨_, (t111), zq3, H', ⟨by first | omega | exact Nat.le_refl _⟩, ⟨by (with_reducible repeat (first | apply Kd.R_alloc | apply Kd.R_drewN | apply Kd.R_drew)); exact HO0.out⟩, ⟨by repeat (first | (with_reducible first | exact HK.out | apply Kept.alloc | apply Kept.drewN | apply Kept.drew) | exact HK.out)⟩, ⟨by repeat (first | (with_reducible first | exact HB.out | apply below_alloc | apply pw_below_drewN | apply below_drew1) | exact HB.out)⟩⟩
 case rest =>
  clear HC12
  try clear c1
  try clear p2
  try clear c3
  try clear c3b0
  try clear c4
  try clear c6
  try clear c6b0
  try clear p6
  try clear c7
  try clear c14
  obtain ⟨kq, x27_11, rfl, HA, HJ11, HO_0, HK, HB⟩ := hcut
  cases kq with
  | zero => exact absurd HA.out (by simp [spec_appendUTF8.j0])
  | succ kj11 =>
   have H := HA.out
   clear HA
   simp only [spec_appendUTF8.j0] at H
   by_cases c16 : x27_11 = true
   ·subst c16
    have H1 : ((some (([239, 191, 189] : List Int) : List Int)).bind fun y112 => (if l0.length + y112.length < 140737488355328 then (some (l0 ++ y112)) else (none))) = some r := by rw [if_pos rfl] at H; exact H
    clear H
    have H := H1
    clear H1
    obtain ⟨y112, hy112⟩ : ∃ y_ : List Int, y_ = (([239, 191, 189] : List Int)) := ⟨_, rfl⟩
    replace H : (if l0.length + y112.length < 140737488355328 then (some (l0 ++ y112)) else (none)) = some r := by first | (rw [hy112]; with_reducible exact H) | (have H2_ := (Option.bind_some _ _).symm.trans H; rw [hy112]; with_reducible exact H2_) | (have H2_ := (Option.bind_some _ _).symm.trans H; with_reducible exact H2_) | with_reducible exact H | (rw [hy112]; exact H) | exact H
    have Ny112 := mk0 hy112
    clear hy112
    by_cases c17 : l0.length + y112.length < 140737488355328
    rotate_left
    ·rw [if_neg c17] at H
     exact absurd H (by simp)
    rw [if_pos c17] at H
    have LMc17 := mk0 c17
    clear c17
    obtain ⟨y115, hy115⟩ : ∃ y_ : List Int, y_ = (l0 ++ y112) := ⟨_, rfl⟩
    replace H : (some y115) = some r := by first | (rw [hy115]; with_reducible exact H) | (have H2_ := (Option.bind_some _ _).symm.trans H; rw [hy115]; with_reducible exact H2_) | (have H2_ := (Option.bind_some _ _).symm.trans H; with_reducible exact H2_) | with_reducible exact H | (rw [hy115]; exact H) | exact H
    have Ny115 := mk0 hy115
    clear hy115
    obtain rfl := Option.some.inj H
    go_wp2_with (first | ((with_reducible refine gate_dst (N := 35) rfl ?_); refine Kd.R_lit (Kd.int .u8) _ 5 ?hg (N := 35) ?hd (xs := ([239, 191, 189] : List Int)) (inner := [.int .u8 239, .int .u8 191, .int .u8 189]) (ok := fun _ => True) (okp := fun _ => True) ?hr ?hp (fun _ hk => hk) trivial (Below.refl _ _) (Nat.le_refl _) (by simp) ?_; (case hd => rfl); (case hg => rfl); (case hr => exact zq22); (case hp => exact (Reps.one (show Kd.M (Kd.int .u8) _ _ _ 239 [.int .u8 239] from rfl) (Reps.one (show Kd.M (Kd.int .u8) _ _ _ 191 [.int .u8 191] from rfl) (Reps.one (show Kd.M (Kd.int .u8) _ _ _ 189 [.int .u8 189] from rfl) (Reps.none _ _))))); intro v113 w18 ho19 hb hg_ hnew_; clear hg_ hnew_; (first | rw [← Ny112.out] at ho19 | (simp only [Int.reduceToNat] at ho19; rw [← Ny112.out] at ho19)); have n0_ := mk0 (Kd.R_elder' zq13 (Kd.R_base ho19) hb); have n1_ := mk0 (Kd.R_lower (Kd.R_new' (Kd.R_newM (M := fun k_ => (P0_ k_ ∨ w.heap.size ≤ k_)) ho19 zq17 (fun k_ h_ => .inr h_)) (Kd.R_lt zq13)) (below_size zq0)); have n2_ := mk0 (Kept.below (S := (fun k_ => P0_ k_)) zq5 hb); have n3_ := mk0 (below_step zq0 hb); clear HO_0 HK HB; have HO_0 := n0_; have HO114 := n1_; have HK := n2_; have HB := n3_; clear n0_ n1_ n2_ n3_; clear hb ho19; obtain ⟨Ao21, co21, eo21⟩ := Kd.R_slice HO114.out; subst eo21) | ((with_reducible refine gate_builtin (b := .append) (xs := #[.tmp 34, .tmp 35]) rfl ?_); at_builtin; refine Kd.R_append_rows (Kd.int .u8) (w0 := w0) w0.heap.size rfl (.tmp 34) (.tmp 35) 59 5 (.int .u8 0) 1 rfl Tryd.underlying59 info5 rfl zq23 (by omega) u9000_ l0 y112 _ _ _ (fun k_ => (P0_ k_ ∨ w.heap.size ≤ k_) ∧ some k_ ≠ (.slice Ao21 y112.length co21 : Value).ownBlock) (fun _ => False) rfl rfl ?aO ?aR (fun _ _ h => h) (fun _ h => h.elim) ?aF ?aB ?aS ?aL ?_; (case aR => repeat (first | exact (Kd.R_reads' HO114.out).2.2 | (with_reducible refine Kd.C_alloc ?_ _) | (with_reducible refine Kd.C_drewN ?_ _) | (with_reducible refine Kd.C_drew ?_))); (case aB => exact zq0); (case aF => exact (fun k_ hk => ⟨(.inr (Nat.le_trans zq17 hk)), Kd.fresh' (Kd.R_lt (by (with_reducible repeat (first | apply Kd.R_alloc | apply Kd.R_drewN | apply Kd.R_drew)); exact HO114.out)) k_ hk⟩)); (case aO => exact zq13); (case aS => exact (below_size zq0)); (case aL => have := LMc17.out; omega); intro v116 w20 ho hb hg hat; rw [← Ny115.out] at ho; have n0_ := mk0 (Kd.R_after (ok := (fun k_ => (P0_ k_ ∨ w.heap.size ≤ k_))) (by (with_reducible repeat (first | apply Kd.R_alloc | apply Kd.R_drewN | apply Kd.R_drew)); exact Kd.R_mono HO114.out (fun _ hk => ⟨hk.1.1, hk.2⟩)) hg hat); have n1_ := mk0 (hb); have n2_ := mk0 (Kept.of_grown (S := (fun k_ => P0_ k_)) hg zq5 (fun k_ e_ => (HO_0.out.1 k_ e_).1)); have n3_ := mk0 (ho); clear HO114 HB HK HO_0; have HO114 := n0_; have HB := n1_; have HK := n2_; have HO117 := n3_; clear n0_ n1_ n2_ n3_; clear ho hb hg hat))
    go_ret
    exact ⟨_, by first | rfl | (simp [errW_none, errW_some] <;> rfl) | (simp [*, errW_none, errW_some] <;> rfl), by (with_reducible repeat (first | apply Kd.R_alloc | apply Kd.R_drewN | apply Kd.R_drew)); exact Kd.R_mono HO117.out (fun _ hk => hk.1), by repeat (first | (with_reducible first | exact HB.out | apply below_alloc | apply pw_below_drewN | apply below_drew1) | exact HB.out), by repeat (first | (with_reducible first | exact HK.out | apply Kept.alloc | apply Kept.drewN | apply Kept.drew) | exact HK.out)⟩
   replace c16 := Bool.eq_false_iff.mpr c16
   subst c16
   have H1 : (if a1 < 65536 then ((some (([(wrap64 (224 + (wrap64 (Int.tdiv a1 4096)))) % 256, (wrap64 (128 + (Int.tmod (wrap64 (Int.tdiv a1 64)) 64))) % 256, (wrap64 (128 + (Int.tmod a1 64))) % 256] : List Int) : List Int)).bind fun y118 => (if l0.length + y118.length < 140737488355328 then (some (l0 ++ y118)) else (none))) else ((some (([(wrap64 (240 + (wrap64 (Int.tdiv a1 262144)))) % 256, (wrap64 (128 + (Int.tmod (wrap64 (Int.tdiv a1 4096)) 64))) % 256, (wrap64 (128 + (Int.tmod (wrap64 (Int.tdiv a1 64)) 64))) % 256, (wrap64 (128 + (Int.tmod a1 64))) % 256] : List Int) : List Int)).bind fun y124 => (if l0.length + y124.length < 140737488355328 then (some (l0 ++ y124)) else (none)))) = some r := by rw [if_neg (show ¬ (false = true) by decide)] at H; exact H
   clear H
   have H := H1
   clear H1
   by_cases c22 : a1 < 65536
   ·rw [if_pos c22] at H
    have c22b0 : decide (a1 < 65536) = true := decide_eq_true c22
    clear c22
    obtain ⟨y118, hy118⟩ : ∃ y_ : List Int, y_ = (([(wrap64 (224 + (wrap64 (Int.tdiv a1 4096)))) % 256, (wrap64 (128 + (Int.tmod (wrap64 (Int.tdiv a1 64)) 64))) % 256, (wrap64 (128 + (Int.tmod a1 64))) % 256] : List Int)) := ⟨_, rfl⟩
    replace H : (if l0.length + y118.length < 140737488355328 then (some (l0 ++ y118)) else (none)) = some r := by first | (rw [hy118]; with_reducible exact H) | (have H2_ := (Option.bind_some _ _).symm.trans H; rw [hy118]; with_reducible exact H2_) | (have H2_ := (Option.bind_some _ _).symm.trans H; with_reducible exact H2_) | with_reducible exact H | (rw [hy118]; exact H) | exact H
    have Ny118 := mk0 hy118
    clear hy118
    by_cases c23 : l0.length + y118.length < 140737488355328
    rotate_left
    ·rw [if_neg c23] at H
     exact absurd H (by simp)
    rw [if_pos c23] at H
    have LMc23 := mk0 c23
    clear c23
    obtain ⟨y121, hy121⟩ : ∃ y_ : List Int, y_ = (l0 ++ y118) := ⟨_, rfl⟩
    replace H : (some y121) = some r := by first | (rw [hy121]; with_reducible exact H) | (have H2_ := (Option.bind_some _ _).symm.trans H; rw [hy121]; with_reducible exact H2_) | (have H2_ := (Option.bind_some _ _).symm.trans H; with_reducible exact H2_) | with_reducible exact H | (rw [hy121]; exact H) | exact H
    have Ny121 := mk0 hy121
    clear hy121
    obtain rfl := Option.some.inj H
    go_wp2_with (first | ((with_reducible refine gate_dst (N := 54) rfl ?_); refine Kd.R_lit (Kd.int .u8) _ 5 ?hg (N := 54) ?hd (xs := ([(wrap64 (224 + (wrap64 (Int.tdiv a1 4096)))) % 256, (wrap64 (128 + (Int.tmod (wrap64 (Int.tdiv a1 64)) 64))) % 256, (wrap64 (128 + (Int.tmod a1 64))) % 256] : List Int)) (inner := [.int .u8 ((wrap64 (224 + (wrap64 (Int.tdiv a1 4096)))) % 256), .int .u8 ((wrap64 (128 + (Int.tmod (wrap64 (Int.tdiv a1 64)) 64))) % 256), .int .u8 ((wrap64 (128 + (Int.tmod a1 64))) % 256)]) (ok := fun _ => True) (okp := fun _ => True) ?hr ?hp (fun _ hk => hk) trivial (Below.refl _ _) (Nat.le_refl _) (by simp) ?_; (case hd => rfl); (case hg => rfl); (case hr => exact zq22); (case hp => exact (Reps.one (show Kd.M (Kd.int .u8) _ _ _ ((wrap64 (224 + (wrap64 (Int.tdiv a1 4096)))) % 256) [.int .u8 ((wrap64 (224 + (wrap64 (Int.tdiv a1 4096)))) % 256)] from rfl) (Reps.one (show Kd.M (Kd.int .u8) _ _ _ ((wrap64 (128 + (Int.tmod (wrap64 (Int.tdiv a1 64)) 64))) % 256) [.int .u8 ((wrap64 (128 + (Int.tmod (wrap64 (Int.tdiv a1 64)) 64))) % 256)] from rfl) (Reps.one (show Kd.M (Kd.int .u8) _ _ _ ((wrap64 (128 + (Int.tmod a1 64))) % 256) [.int .u8 ((wrap64 (128 + (Int.tmod a1 64))) % 256)] from rfl) (Reps.none _ _))))); intro v119 w24 ho25 hb hg_ hnew_; clear hg_ hnew_; (first | rw [← Ny118.out] at ho25 | (simp only [Int.reduceToNat] at ho25; rw [← Ny118.out] at ho25)); have n0_ := mk0 (Kd.R_elder' zq13 (Kd.R_base ho25) hb); have n1_ := mk0 (Kd.R_lower (Kd.R_new' (Kd.R_newM (M := fun k_ => (P0_ k_ ∨ w.heap.size ≤ k_)) ho25 zq17 (fun k_ h_ => .inr h_)) (Kd.R_lt zq13)) (below_size zq0)); have n2_ := mk0 (Kept.below (S := (fun k_ => P0_ k_)) zq5 hb); have n3_ := mk0 (below_step zq0 hb); clear HO_0 HK HB; have HO_0 := n0_; have HO120 := n1_; have HK := n2_; have HB := n3_; clear n0_ n1_ n2_ n3_; clear hb ho25; obtain ⟨Ao27, co27, eo27⟩ := Kd.R_slice HO120.out; subst eo27) | ((with_reducible refine gate_builtin (b := .append) (xs := #[.tmp 40, .tmp 54]) rfl ?_); at_builtin; refine Kd.R_append_rows (Kd.int .u8) (w0 := w0) w0.heap.size rfl (.tmp 40) (.tmp 54) 59 5 (.int .u8 0) 1 rfl Tryd.underlying59 info5 rfl zq23 (by omega) u9000_ l0 y118 _ _ _ (fun k_ => (P0_ k_ ∨ w.heap.size ≤ k_) ∧ some k_ ≠ (.slice Ao27 y118.length co27 : Value).ownBlock) (fun _ => False) rfl rfl ?aO ?aR (fun _ _ h => h) (fun _ h => h.elim) ?aF ?aB ?aS ?aL ?_; (case aR => repeat (first | exact (Kd.R_reads' HO120.out).2.2 | (with_reducible refine Kd.C_alloc ?_ _) | (with_reducible refine Kd.C_drewN ?_ _) | (with_reducible refine Kd.C_drew ?_))); (case aB => exact zq0); (case aF => exact (fun k_ hk => ⟨(.inr (Nat.le_trans zq17 hk)), Kd.fresh' (Kd.R_lt (by (with_reducible repeat (first | apply Kd.R_alloc | apply Kd.R_drewN | apply Kd.R_drew)); exact HO120.out)) k_ hk⟩)); (case aO => exact zq13); (case aS => exact (below_size zq0)); (case aL => have := LMc23.out; omega); intro v122 w26 ho hb hg hat; rw [← Ny121.out] at ho; have n0_ := mk0 (Kd.R_after (ok := (fun k_ => (P0_ k_ ∨ w.heap.size ≤ k_))) (by (with_reducible repeat (first | apply Kd.R_alloc | apply Kd.R_drewN | apply Kd.R_drew)); exact Kd.R_mono HO120.out (fun _ hk => ⟨hk.1.1, hk.2⟩)) hg hat); have n1_ := mk0 (hb); have n2_ := mk0 (Kept.of_grown (S := (fun k_ => P0_ k_)) hg zq5 (fun k_ e_ => (HO_0.out.1 k_ e_).1)); have n3_ := mk0 (ho); clear HO120 HB HK HO_0; have HO120 := n0_; have HB := n1_; have HK := n2_; have HO123 := n3_; clear n0_ n1_ n2_ n3_; clear ho hb hg hat))
    go_ret
    exact ⟨_, by first | rfl | (simp [errW_none, errW_some] <;> rfl) | (simp [*, errW_none, errW_some] <;> rfl), by (with_reducible repeat (first | apply Kd.R_alloc | apply Kd.R_drewN | apply Kd.R_drew)); exact Kd.R_mono HO123.out (fun _ hk => hk.1), by repeat (first | (with_reducible first | exact HB.out | apply below_alloc | apply pw_below_drewN | apply below_drew1) | exact HB.out), by repeat (first | (with_reducible first | exact HK.out | apply Kept.alloc | apply Kept.drewN | apply Kept.drew) | exact HK.out)⟩
   rw [if_neg c22] at H
   have c22b0 : decide (a1 < 65536) = false := decide_eq_false c22
   clear c22
   obtain ⟨y124, hy124⟩ : ∃ y_ : List Int, y_ = (([(wrap64 (240 + (wrap64 (Int.tdiv a1 262144)))) % 256, (wrap64 (128 + (Int.tmod (wrap64 (Int.tdiv a1 4096)) 64))) % 256, (wrap64 (128 + (Int.tmod (wrap64 (Int.tdiv a1 64)) 64))) % 256, (wrap64 (128 + (Int.tmod a1 64))) % 256] : List Int)) := ⟨_, rfl⟩
   replace H : (if l0.length + y124.length < 140737488355328 then (some (l0 ++ y124)) else (none)) = some r := by first | (rw [hy124]; with_reducible exact H) | (have H2_ := (Option.bind_some _ _).symm.trans H; rw [hy124]; with_reducible exact H2_) | (have H2_ := (Option.bind_some _ _).symm.trans H; with_reducible exact H2_) | with_reducible exact H | (rw [hy124]; exact H) | exact H
   have Ny124 := mk0 hy124
   clear hy124
   by_cases c28 : l0.length + y124.length < 140737488355328
   rotate_left
   ·rw [if_neg c28] at H
    exact absurd H (by simp)
   rw [if_pos c28] at H
   have LMc28 := mk0 c28
   clear c28
   obtain ⟨y127, hy127⟩ : ∃ y_ : List Int, y_ = (l0 ++ y124) := ⟨_, rfl⟩
   replace H : (some y127) = some r := by first | (rw [hy127]; with_reducible exact H) | (have H2_ := (Option.bind_some _ _).symm.trans H; rw [hy127]; with_reducible exact H2_) | (have H2_ := (Option.bind_some _ _).symm.trans H; with_reducible exact H2_) | with_reducible exact H | (rw [hy127]; exact H) | exact H
   have Ny127 := mk0 hy127
   clear hy127
   obtain rfl := Option.some.inj H
   go_wp2_with (first | ((with_reducible refine gate_dst (N := 75) rfl ?_); refine Kd.R_lit (Kd.int .u8) _ 5 ?hg (N := 75) ?hd (xs := ([(wrap64 (240 + (wrap64 (Int.tdiv a1 262144)))) % 256, (wrap64 (128 + (Int.tmod (wrap64 (Int.tdiv a1 4096)) 64))) % 256, (wrap64 (128 + (Int.tmod (wrap64 (Int.tdiv a1 64)) 64))) % 256, (wrap64 (128 + (Int.tmod a1 64))) % 256] : List Int)) (inner := [.int .u8 ((wrap64 (240 + (wrap64 (Int.tdiv a1 262144)))) % 256), .int .u8 ((wrap64 (128 + (Int.tmod (wrap64 (Int.tdiv a1 4096)) 64))) % 256), .int .u8 ((wrap64 (128 + (Int.tmod (wrap64 (Int.tdiv a1 64)) 64))) % 256), .int .u8 ((wrap64 (128 + (Int.tmod a1 64))) % 256)]) (ok := fun _ => True) (okp := fun _ => True) ?hr ?hp (fun _ hk => hk) trivial (Below.refl _ _) (Nat.le_refl _) (by simp) ?_; (case hd => rfl); (case hg => rfl); (case hr => exact zq22); (case hp => exact (Reps.one (show Kd.M (Kd.int .u8) _ _ _ ((wrap64 (240 + (wrap64 (Int.tdiv a1 262144)))) % 256) [.int .u8 ((wrap64 (240 + (wrap64 (Int.tdiv a1 262144)))) % 256)] from rfl) (Reps.one (show Kd.M (Kd.int .u8) _ _ _ ((wrap64 (128 + (Int.tmod (wrap64 (Int.tdiv a1 4096)) 64))) % 256) [.int .u8 ((wrap64 (128 + (Int.tmod (wrap64 (Int.tdiv a1 4096)) 64))) % 256)] from rfl) (Reps.one (show Kd.M (Kd.int .u8) _ _ _ ((wrap64 (128 + (Int.tmod (wrap64 (Int.tdiv a1 64)) 64))) % 256) [.int .u8 ((wrap64 (128 + (Int.tmod (wrap64 (Int.tdiv a1 64)) 64))) % 256)] from rfl) (Reps.one (show Kd.M (Kd.int .u8) _ _ _ ((wrap64 (128 + (Int.tmod a1 64))) % 256) [.int .u8 ((wrap64 (128 + (Int.tmod a1 64))) % 256)] from rfl) (Reps.none _ _)))))); intro v125 w29 ho30 hb hg_ hnew_; clear hg_ hnew_; (first | rw [← Ny124.out] at ho30 | (simp only [Int.reduceToNat] at ho30; rw [← Ny124.out] at ho30)); have n0_ := mk0 (Kd.R_elder' zq13 (Kd.R_base ho30) hb); have n1_ := mk0 (Kd.R_lower (Kd.R_new' (Kd.R_newM (M := fun k_ => (P0_ k_ ∨ w.heap.size ≤ k_)) ho30 zq17 (fun k_ h_ => .inr h_)) (Kd.R_lt zq13)) (below_size zq0)); have n2_ := mk0 (Kept.below (S := (fun k_ => P0_ k_)) zq5 hb); have n3_ := mk0 (below_step zq0 hb); clear HO_0 HK HB; have HO_0 := n0_; have HO126 := n1_; have HK := n2_; have HB := n3_; clear n0_ n1_ n2_ n3_; clear hb ho30; obtain ⟨Ao32, co32, eo32⟩ := Kd.R_slice HO126.out; subst eo32) | ((with_reducible refine gate_builtin (b := .append) (xs := #[.tmp 56, .tmp 75]) rfl ?_); at_builtin; refine Kd.R_append_rows (Kd.int .u8) (w0 := w0) w0.heap.size rfl (.tmp 56) (.tmp 75) 59 5 (.int .u8 0) 1 rfl Tryd.underlying59 info5 rfl zq23 (by omega) u9000_ l0 y124 _ _ _ (fun k_ => (P0_ k_ ∨ w.heap.size ≤ k_) ∧ some k_ ≠ (.slice Ao32 y124.length co32 : Value).ownBlock) (fun _ => False) rfl rfl ?aO ?aR (fun _ _ h => h) (fun _ h => h.elim) ?aF ?aB ?aS ?aL ?_; (case aR => repeat (first | exact (Kd.R_reads' HO126.out).2.2 | (with_reducible refine Kd.C_alloc ?_ _) | (with_reducible refine Kd.C_drewN ?_ _) | (with_reducible refine Kd.C_drew ?_))); (case aB => exact zq0); (case aF => exact (fun k_ hk => ⟨(.inr (Nat.le_trans zq17 hk)), Kd.fresh' (Kd.R_lt (by (with_reducible repeat (first | apply Kd.R_alloc | apply Kd.R_drewN | apply Kd.R_drew)); exact HO126.out)) k_ hk⟩)); (case aO => exact zq13); (case aS => exact (below_size zq0)); (case aL => have := LMc28.out; omega); intro v128 w31 ho hb hg hat; rw [← Ny127.out] at ho; have n0_ := mk0 (Kd.R_after (ok := (fun k_ => (P0_ k_ ∨ w.heap.size ≤ k_))) (by (with_reducible repeat (first | apply Kd.R_alloc | apply Kd.R_drewN | apply Kd.R_drew)); exact Kd.R_mono HO126.out (fun _ hk => ⟨hk.1.1, hk.2⟩)) hg hat); have n1_ := mk0 (hb); have n2_ := mk0 (Kept.of_grown (S := (fun k_ => P0_ k_)) hg zq5 (fun k_ e_ => (HO_0.out.1 k_ e_).1)); have n3_ := mk0 (ho); clear HO126 HB HK HO_0; have HO126 := n0_; have HB := n1_; have HK := n2_; have HO129 := n3_; clear n0_ n1_ n2_ n3_; clear ho hb hg hat))
   go_ret
   exact ⟨_, by first | rfl | (simp [errW_none, errW_some] <;> rfl) | (simp [*, errW_none, errW_some] <;> rfl), by (with_reducible repeat (first | apply Kd.R_alloc | apply Kd.R_drewN | apply Kd.R_drew)); exact Kd.R_mono HO129.out (fun _ hk => hk.1), by repeat (first | (with_reducible first | exact HB.out | apply below_alloc | apply pw_below_drewN | apply below_drew1) | exact HB.out), by repeat (first | (with_reducible first | exact HK.out | apply Kept.alloc | apply Kept.drewN | apply Kept.drew) | exact HK.out)⟩
end Go.Proofs.YtafbdpdbagkbgaaDoor.Q
end
