/- The words, walks and laws that the proof rests on, laid together (part 2). -/
import Derived.Test.YtaigbkkgmncipaaDoorKFnJpParseStringForms1
section
namespace Go.Proofs.YtaigbkkgmncipaaDoor.Y
open Go.RowKit Go.Proofs.YtaigbkkgmncipaaDoorW.PrintWords Go.Proofs.YtaigbkkgmncipaaDoorW.PrintLast Go.Proofs.YtaigbkkgmncipaaDoorW.PrintMore
attribute [local go_sem] max2_int min2_int max_two min_two max_three min_three max_four min_four
set_option linter.unusedVariables false
set_option linter.unusedSimpArgs false

structure DS (w0 w : World) (g : Nat) (A : Option Addr) (n c : Nat) (code : List Int) (used : Int) (ov : Value) (out : List Int) : Prop where
  blk : w.heap[g]? = some (.cells #[.slice A n c, .int .i64 used, ov] 53 (0, 0))
  at_ : w0.heap.size ≤ g
  src : Kd.C (Kd.int .u8) w0 A n code
  row : Kd.R (Kd.int .u8) 5 w w0.heap.size (fun k => k ≠ g) ov out
  below : Below w0.heap.size w0 w
  bound : 0 ≤ used ∧ used ≤ 1099511627776
  u8 : ∀ x ∈ code, 0 ≤ x ∧ x ≤ 255
theorem DS.drewN {w0 w : World} {g : Nat} {A : Option Addr} {n c : Nat} {code : List Int} {used : Int} {ov : Value} {out : List Int} (h : DS w0 w g A n c code used ov out) (k : Nat) : DS w0 (w.drewN k) g A n c code used ov out :=
 ⟨h.blk, h.at_, h.src, Kd.R_drewN h.row k, pw_below_drewN h.below k, h.bound, h.u8⟩
theorem DS.setUsed {w0 w : World} {g : Nat} {A : Option Addr} {n c : Nat} {code : List Int} {used : Int} {ov : Value} {out : List Int} (h : DS w0 w g A n c code used ov out) (u : Int) (hu : 0 ≤ u ∧ u ≤ 1099511627776) : DS w0 (w.setCell ⟨g, 1, none⟩ (.int .i64 u)) g A n c code u ov out :=
 ⟨heap_setCell_same w g 1 _ _ _ h.blk, h.at_, h.src, Kd.R_far h.row (p := ⟨g, 1, none⟩) (fun _ hk => hk) _, below_set h.below h.at_, hu, h.u8⟩
theorem rd_u8 {xs : List Int} (h : ∀ x ∈ xs, 0 ≤ x ∧ x ≤ 255) (i : Int) : 0 ≤ rd xs i ∧ rd xs i ≤ 255 := by
 unfold rd
 rw [List.getD_eq_getElem?_getD]
 cases e : xs[i.toNat]? with
 | none => simp
 | some x => exact h x (List.mem_of_getElem? e)
def pickF (code : List Int) (used n : Int) : Int × Int := if code = [] then (0, used) else (rd code (used % code.length) % n, used + 1)
set_option maxHeartbeats 4000000 in
set_option maxRecDepth 100000 in
theorem pick_calls (w0 w : World) (g : Nat) (A : Option Addr) (n c : Nat) (code : List Int) (used : Int) (ov : Value) (out : List Int) (m : Int) (hm : 0 < m ∧ m ≤ 4) (h : DS w0 w g A n c code used ov out) (hu : used < 1099511627776) :
 Calls Tryd.prog 43 #[.pointer (some ⟨g, 0, none⟩), .int .i64 m] w fun e w' => e = .returned (.int .i64 (pickF code used m).1) ∧ DS w0 w' g A n c code (pickF code used m).2 ov out := by
 have hC := Kd.C_below h.src h.below
 have hlen := Kd.C_len hC
 have hc0 : w.cell? ⟨g, 0, none⟩ = some (.slice A n c) := (blk_cell h.blk 0).trans rfl
 have hc1 : w.cell? ⟨g, 1, none⟩ = some (.int .i64 used) := (blk_cell h.blk 1).trans rfl
 have hf1 : w.frozen? ⟨g, 1, none⟩ = false := blk_frozen h.blk 1
 have H := mk0 h
 by_cases he : code = []
 ·subst he
  have hn : n = 0 := by rw [← hlen]; rfl
  subst hn
  clear hC hlen h
  go_enter Tryd.func43, Tryd.ntmps43
  go_wp2
  go_ret
  exact ⟨rfl, H.out⟩
 have hn : 0 < n := by
  rw [← hlen]
  exact List.length_pos_iff.mpr he
 have hb := h.bound
 have i0 : 0 ≤ used % (n : Int) := Int.emod_nonneg _ (by omega)
 have i1 : used % (n : Int) < n := Int.emod_lt_of_pos _ (by omega)
 obtain ⟨ad, hA, hcell⟩ := Kd.at_int hC (used % (n : Int)) i0 i1
 have hr := rd_u8 h.u8 (used % (n : Int))
 subst hA
 have hpf : pickF code used m = (rd code (used % (n : Int)) % m, used + 1) := by unfold pickF; rw [if_neg he, hlen]
 rw [hpf]
 have hn63 := Kd.C_max hC
 generalize rd code (used % (n : Int)) = q at hcell hr ⊢
 clear hC hlen h hpf he
 go_enter Tryd.func43, Tryd.ntmps43
 go_wp2_with fail
 go_quiet (fail)
 go_wp2
 go_ret
 exact ⟨rfl, (H.out.drewN _).setUsed _ (by omega)⟩
theorem Dr_append_lits {P : Program} {ops : Array Oper} {rest : List Oper} {o : Oper} {a : Act} {Q : Exit → Act → World → Prop} {w0 W : World} (base : Nat) (hgd : o.guard = none) (s x : Operand) (t e : TypeId) (k : IntKind) (bytes : Nat)
 (ho : o.op = .call { callee := .builtin .append, args := #[s, x], argTypes := #[t, t] })
 (ht : P.underlying t = some (.slice e)) (hinfo : (P.info? e).map (fun i => (i.zero, i.size, i.bytes)) = some (some (.int k 0), 1, bytes)) (hb0 : 0 < bytes)
 (v : Value) (xs ys : List Int) (cs : Array Value) (m : Nat) (hcs : cs.toList = nums k ys) (hm : m = ys.length) (ok : Nat → Prop) (hs : a.eval s = v) (hx : a.eval x = .slice (some ⟨W.heap.size, 0, none⟩) m m) (hok : ∀ k_, W.heap.size ≤ k_ → ok k_)
 (HO : Kd.R (Kd.int k) e W base ok v xs) (HB : Below base w0 W) (hbase : base ≤ W.heap.size) (hl : (xs.length + ys.length) * bytes ≤ 140737488355328)
 (h : ∀ v1 w1, Kd.R (Kd.int k) e w1 base ok v1 (xs ++ ys) → Below base w0 w1 → W.grownBy w1 v.ownBlock → (v1.ownBlock = v.ownBlock ∨ ∃ b, v1.ownBlock = some b ∧ W.heap.size ≤ b) → wpList P ops Q rest (a.put o.dst v1) w1) :
 wpList P ops Q (o :: rest) a (W.alloc (.cells cs e)) := by
 obtain ⟨i0, hi, hzz⟩ := Option.map_eq_some_iff.1 hinfo
 simp only [Prod.mk.injEq] at hzz
 obtain ⟨hz0, hz1, hz2⟩ := hzz
 have HOw := Kd.own_of_R HO
 have hok0 := HO.1
 have hlen : xs.length + ys.length ≤ 140737488355328 := Nat.le_trans (Nat.le_mul_of_pos_right _ hb0) hl
 have hle : (encs (Value.int k) xs).length = xs.length := by simp [encs]
 have hcl : cs.toList.length = m := by rw [hcs, hm]; simp [nums]
 refine wpList_append_own_at (W.alloc (.cells cs e)) hgd s x t ho base e i0 (.int k 0) 1 bytes ht hi hz0 hz1 hz2 rfl (by omega) v xs.length (encs (Value.int k) xs) hs (HOw.alloc _) ⟨W.heap.size, 0, none⟩ m m cs.toList hx (by rw [hcl]; omega)
  (World.news_of_block (cs := cs) (t := e) (fr := (0, 0)) (heap_alloc_new W _)) (by rw [hcs]; intro u hu; simp only [nums, List.mem_map] at hu; obtain ⟨q, _, rfl⟩ := hu; rfl) (by simp only [maxLen]; omega) (by rw [hm]; exact hl) (by simp; omega) ?_
 intro v1 w1 hown hg _ hat
 have e1 : encs (Value.int k) xs ++ cs.toList = encs (Value.int k) (xs ++ ys) := by rw [encs_append, hcs]; rfl
 have hat' : v1.ownBlock = v.ownBlock ∨ ∃ b, v1.ownBlock = some b ∧ W.heap.size ≤ b := by
  rcases hat with hat | hat
  ·exact .inl hat
  exact .inr ⟨_, hat, by simp⟩
 refine h v1 w1 (Kd.R_of_own (by rw [List.length_append, ← hm, ← e1]; exact hown) fun q hq => ?_) ((HB.alloc hbase _).grown hg (by simp; omega) (own_base HOw)) (World.grownBy.trans (World.grownBy_alloc W _ _) hg) hat'
 rcases hat' with hat' | ⟨b, hat', hb⟩
 ·exact hok0 q (hat'.symm.trans hq)
 ·rw [hat'] at hq
  cases hq
  exact hok _ hb
theorem DS.drew {w0 w : World} {g : Nat} {A : Option Addr} {n c : Nat} {code : List Int} {used : Int} {ov : Value} {out : List Int} (h : DS w0 w g A n c code used ov out) : DS w0 w.drew g A n c code used ov out :=
 ⟨h.blk, h.at_, h.src, Kd.R_drew h.row, below_drew h.below, h.bound, h.u8⟩
def blk4 (i : Int) : Int := if i = 0 then 32 else if i = 1 then 10 else if i = 2 then 9 else 13
def blF (code : List Int) : Nat → Int → List Int → Int × List Int
  | 0, used, out => (used, out)
  | k + 1, used, out => blF code k (pickF code used 4).2 (out ++ [blk4 (pickF code used 4).1])
theorem pick_range {code : List Int} (h : ∀ x ∈ code, 0 ≤ x ∧ x ≤ 255) (used m : Int) (hm : 0 < m) : 0 ≤ (pickF code used m).1 ∧ (pickF code used m).1 < m := by
 unfold pickF
 split
 ·exact ⟨Int.le_refl _, hm⟩
 ·exact ⟨Int.emod_nonneg _ (by omega), Int.emod_lt_of_pos _ hm⟩
theorem DS.put {w0 w1 w6 : World} {g : Nat} {A : Option Addr} {n c : Nat} {code : List Int} {used : Int} {ov v1 : Value} {xs ys : List Int} (h : DS w0 w1 g A n c code used ov xs) (hB : w6.heap[g]? = some (.cells #[.slice A n c, .int .i64 used, ov] 53 (0, 0))) (hO : Kd.R (Kd.int .u8) 5 w6 w0.heap.size (fun k => k ≠ g) v1 ys) (hL : Below w0.heap.size w0 w6) : DS w0 (w6.setCell ⟨g, 2, none⟩ v1) g A n c code used v1 ys :=
 ⟨heap_setCell_same w6 g 2 _ _ _ hB, h.at_, h.src, Kd.R_far hO (p := ⟨g, 2, none⟩) (fun _ hk => hk) _, below_set hL h.at_, h.bound, h.u8⟩
def blanks.T3 : Bool × List (List Nat × List Nat) := (true, [([], []), ([], []), ([1], [1]), ([2], [2]), ([3], [3]), ([], []), ([5], [5]), ([6], [6]), ([7], [7]), ([4, 8, 6], [4, 8]), ([0, 0, 1, 2, 3, 4, 5, 6, 7, 8, 9], [0]), ([10, 0, 1, 2, 3, 4, 5, 6, 7, 8, 9], [10]), ([11, 9, 9, 0, 1, 2, 3, 4, 5, 6, 7, 8, 9], [9, 11])])
def blanks.B3 : List Nat := [0, 0, 2, 6, 14, 0, 32, 96, 224, 510, 1023, 2047, 4095]
theorem blanks.tab3 : rtab .any (opsOf Tryd.f26 3) = blanks.T3 := by kernel_rfl
theorem blanks.bits3 : waitsOk blanks.T3.2 blanks.B3 = true := by kernel_rfl
set_option maxHeartbeats 8000000 in
set_option maxRecDepth 100000 in
theorem blanks_calls (w0 w : World) (g : Nat) (A : Option Addr) (n c : Nat) (code : List Int) (used : Int) (ov : Value) (out : List Int) (h : DS w0 w g A n c code used ov out) (hu : used + 10 < 1099511627776) (ho : out.length ≤ 1099511627776) :
 Calls Tryd.prog 26 #[.pointer (some ⟨g, 0, none⟩)] w fun e w' => e = .returned (.tuple #[]) ∧ ∃ ov', DS w0 w' g A n c code (blF code (pickF code used 4).1.toNat (pickF code used 4).2 out).1 ov' (blF code (pickF code used 4).1.toNat (pickF code used 4).2 out).2 := by
 have H := mk0 h
 have hp := pick_range h.u8 used 4 zq45
 have hp2 : (pickF code used 4).2 ≤ used + 1 := by unfold pickF; split <;> simp; omega
 clear h
 obtain ⟨p1, e1⟩ : ∃ p, p = pickF code used 4 := ⟨_, rfl⟩
 rw [← e1] at hp hp2 ⊢
 have hpc := fun W (hW : DS w0 W g A n c code used ov out) => pick_calls w0 W g A n c code used ov out 4 zq45 hW (by omega)
 rw [← e1] at hpc
 have HP := mk0 hpc
 clear hpc
 obtain ⟨j, hj⟩ : ∃ j : Nat, p1.1 = (j : Int) := ⟨p1.1.toNat, by omega⟩
 rw [hj] at hp HP ⊢
 rw [Int.toNat_natCast]
 clear hj
 go_enter Tryd.func26, Tryd.ntmps26
 go_wp2_with (go_at_call 43; (with_reducible refine (HP.out _ H.out).mono ?_); rintro e w1 ⟨rfl, hds⟩; have n0_ := mk0 hds; clear H HP hds; have H := n0_; clear n0_)
 go_loopg [2] j (fun kq v2 w' => ∃ (u : Int) (xs : List Int) (ov' : Value), v2 = .int .i64 (kq : Int) ∧ Aside0 (u + kq ≤ used + 4 ∧ 0 ≤ u ∧ xs.length + kq ≤ out.length + 3 ∧ blF code kq u xs = blF code j p1.2 out) ∧ Aside0 (DS w0 w' g A n c code u ov' xs))
 case atStart => exact ⟨p1.2, out, ov, rfl, ⟨by omega, H.out.bound.1, by omega, rfl⟩, H⟩
 case round =>
  clear H
  obtain ⟨u, xs, ov', rfl, HF, H⟩ := hrel
  cases gk with
  | zero =>
   go_wp2
   go_end0
   have hz := HF.out.2.2.2
   rw [← hz]
   exact ⟨rfl, ov', H.out⟩
  | succ k =>
   have hk : ((k + 1 : Nat) : Int) = (k : Int) + 1 := by omega
   have hc2 : wr.cell? ⟨g, 2, none⟩ = some ov' := (blk_cell H.out.blk 2).trans rfl
   have hf2 : wr.frozen? ⟨g, 2, none⟩ = false := blk_frozen H.out.blk 2
   have hb := H.out.bound
   have hq := pick_range H.out.u8 u 4 zq45
   have hq2 : (pickF code u 4).2 ≤ u + 1 := by unfold pickF; split <;> simp; omega
   have hpk := fun W (hW : DS w0 W g A n c code u ov' xs) => pick_calls w0 W g A n c code u ov' xs 4 zq45 hW (by have := HF.out.1; omega)
   have hbl : blF code (k + 1) u xs = blF code k (pickF code u 4).2 (xs ++ [blk4 (pickF code u 4).1]) := rfl
   have HBL := mk0 hbl
   clear hbl
   generalize pickF code u 4 = p2 at hq hq2 hpk HBL
   have HP := mk0 hpk
   clear hpk
   go_wp2_with fail
   have HD := mk0 H.out.drew
   obtain ⟨pa, pb⟩ := p2
   simp only at hq hq2 HP HBL
   have hxl : xs.length + (k + 1) ≤ out.length + 3 := HF.out.2.2.1
   have hpa : pa = 0 ∨ pa = 1 ∨ pa = 2 ∨ pa = 3 := by omega
   rcases hpa with rfl | rfl | rfl | rfl
   ·refine start_ (n := 13) (S := fun w' => w'.cell? ⟨g, 2, none⟩ = some ov') (ds := [12]) #[false, false, false, false, false, false, false, false, false, false, false, false, false] zq23 rfl rfl ((blk_cell HD.out.blk 2).trans rfl) (fun hHeld => ?_); refine with_tabW blanks.tab3 blanks.bits3 (fun HT_ HW_ => ?_)
    refine pure_ (i := 0) (N := some 9) (v := ?_) (a' := ?_) #[true, false, false, false, false, false, false, false, false, false, false, false, false] rfl rfl (any_of HT_.out zq23) (fun _ _ _ h => h) (Or.inl ⟨by rfl, ?_⟩) ?_ ?_
    rotate_left
    ·intro w'
     go_simp
     with_reducible rfl
    rotate_left
    ·simp only [Act.put, List.setIfInBounds_toArray, List.set_cons_zero, List.set_cons_succ, i64_w, i32_w]
     rfl
    refine pure_ (i := 1) (N := some 10) (v := ?_) (a' := ?_) #[true, true, false, false, false, false, false, false, false, false, false, false, false] rfl rfl (any_of HT_.out zq23) (fun _ _ _ h => h) (Or.inl ⟨by rfl, ?_⟩) ?_ ?_
    rotate_left
    ·intro w'
     go_simp
     with_reducible rfl
    rotate_left
    ·simp only [Act.put, List.setIfInBounds_toArray, List.set_cons_zero, List.set_cons_succ, i64_w, i32_w]
     rfl
    refine pure_ (i := 2) (N := some 11) (v := ?_) (a' := ?_) #[true, true, true, false, false, false, false, false, false, false, false, false, false] rfl rfl (any_of HT_.out zq23) (fun _ _ _ h => h) (Or.inl ⟨by rfl, ?_⟩) ?_ ?_
    rotate_left
    ·intro w'
     go_simp
     with_reducible rfl
    rotate_left
    ·simp only [Act.put, List.setIfInBounds_toArray, List.set_cons_zero, List.set_cons_succ, i64_w, i32_w]
     rfl
    refine pure_ (i := 3) (N := some 12) (v := ?_) (a' := ?_) #[true, true, true, true, false, false, false, false, false, false, false, false, false] rfl rfl (any_of HT_.out zq23) (fun _ _ _ h => h) (Or.inl ⟨by rfl, ?_⟩) ?_ ?_
    rotate_left
    ·intro w'
     go_simp
     with_reducible rfl
    rotate_left
    ·simp only [Act.put, List.setIfInBounds_toArray, List.set_cons_zero, List.set_cons_succ, i64_w, i32_w]
     rfl
    refine take_ (i := 4) (N := some 13) (v := ?_) (a' := ?_) #[true, true, true, true, true, false, false, false, false, false, false, false, false] rfl rfl (take_ofW HT_.out HW_.out zq23) (fun _ _ _ h => h) (Or.inl ⟨by rfl, ?_⟩) hHeld ?_ ?_
    rotate_left
    ·intro w' s0
     go_simp
     with_reducible rfl
    rotate_left
    ·simp only [Act.put, List.setIfInBounds_toArray, List.set_cons_zero, List.set_cons_succ, i64_w, i32_w]
     rfl
    refine pure_ (i := 5) (N := some 14) (v := ?_) (a' := ?_) #[true, true, true, true, true, true, false, false, false, false, false, false, false] rfl rfl (any_of HT_.out zq23) (fun _ _ _ h => h) (Or.inl ⟨by rfl, ?_⟩) ?_ ?_
    rotate_left
    ·intro w'
     go_simp
     with_reducible rfl
    rotate_left
    ·simp only [Act.put, List.setIfInBounds_toArray, List.set_cons_zero, List.set_cons_succ, i64_w, i32_w]
     rfl
    refine one_ (i := 6) (N := some 15) #[true, true, true, true, true, true, true, false, false, false, false, false, false] rfl rfl (one_of HT_.out zq23) zq45 (fun K hK => ?_)
    refine goes_ Tryd.func43 zq23 rfl #[.pointer (some ⟨g, 0, none⟩), .int .i64 4] (by rfl) rfl rfl zq32 ?_
    with_reducible refine (HP.out _ HD.out).mono ?_
    rintro e w5 ⟨rfl, HD2'⟩
    have HD2 := mk0 HD2'
    clear HD2' HD
    refine ⟨_, rfl, ?_⟩
    refine hK.out _ _ ((blk_cell HD2.out.blk 2).trans rfl) (fun hHeld => ?_)
    clear hK K
    refine norm_ (a' := ?_) ?_ ?_
    rotate_left
    ·show Act.put _ (some 15) _ = _
     simp only [Act.put, List.setIfInBounds_toArray, List.set_cons_zero, List.set_cons_succ, i64_w, i32_w]
     rfl
    refine pure_ (i := 7) (N := some 16) (v := ?_) (a' := ?_) #[true, true, true, true, true, true, true, true, false, false, false, false, false] rfl rfl (any_of HT_.out zq23) (fun _ _ _ h => h) (Or.inl ⟨by rfl, ?_⟩) ?_ ?_
    rotate_left
    ·intro w'
     go_simp
     with_reducible rfl
    rotate_left
    ·simp only [Act.put, List.setIfInBounds_toArray, List.set_cons_zero, List.set_cons_succ, i64_w, i32_w]
     rfl
    refine one_ (i := 8) (N := some 17) #[true, true, true, true, true, true, true, true, true, false, false, false, false] rfl rfl (one_of HT_.out zq23) zq45 (fun K hK => ?_)
    refine value_ (w1 := ?_) (v := ?_) (by rfl) rfl ?_ ?_
    rotate_left 2
    ·go_simp
     constructor
     ·rfl
     ·rfl
    have HDa := mk0 (blk_alloc HD2.out.blk (.cells #[.int .u8 32] 5 (0, 0)))
    refine hK.out _ _ ((blk_cell (blk_alloc HD2.out.blk _) 2).trans rfl) (fun hHeld => ?_)
    clear hK K
    refine norm_ (a' := ?_) ?_ ?_
    rotate_left
    ·show Act.put _ (some 17) _ = _
     simp only [Act.put, List.setIfInBounds_toArray, List.set_cons_zero, List.set_cons_succ, i64_w, i32_w]
     rfl
    refine one_ (i := 9) (N := some 18) #[true, true, true, true, true, true, true, true, true, true, false, false, false] rfl rfl (one_of HT_.out zq23) zq45 (fun K hK => ?_)
    refine Kd.R_append_step (Kd.int .u8) (w0 := w0) w0.heap.size (by rfl) (.tmp 13) (.tmp 17) 29 5 (.int .u8 0) 1 (by rfl) Tryd.underlying29 info5 rfl zq45 zq45 ov' xs 32 [.int .u8 32] (fun k => k ≠ g) (fun _ => False) (by rfl) (by rfl) rfl (fun _ hk => hk.elim) ?aF HD2.out.row HD2.out.below (below_size HD2.out.below) ?aL ?_
    (case aF => exact fun q hq => (by have := blk_lt HD2.out.blk; omega))
    (case aL => omega)
    intro v1 w6 ho6 hb6 hg6 hat6
    obtain ⟨A1, c1, hv6, _, _⟩ := Kd.R_reads ho6
    subst hv6
    rw [List.length_append, List.length_singleton] at ho6
    have hB6 := mk0 (blk_grown HD2.out.blk hg6 (Kd.R_away HD2.out.row (fun _ hk => hk)))
    have O6 := mk0 ho6
    have L6 := mk0 hb6
    clear ho6 hb6 hg6 hat6
    refine hK.out _ _ ((blk_cell hB6.out 2).trans rfl) (fun hHeld => ?_)
    clear hK K
    refine norm_ (a' := ?_) ?_ ?_
    rotate_left
    ·show Act.put _ (some 18) _ = _
     simp only [Act.put, List.setIfInBounds_toArray, List.set_cons_zero, List.set_cons_succ, i64_w, i32_w]
     rfl
    refine pure_ (i := 10) (N := some 19) (v := ?_) (a' := ?_) #[true, true, true, true, true, true, true, true, true, true, true, false, false] rfl rfl (any_of HT_.out zq23) (fun _ _ _ h => h) (Or.inl ⟨by rfl, ?_⟩) ?_ ?_
    rotate_left
    ·intro w'
     go_simp
     with_reducible rfl
    rotate_left
    ·simp only [Act.put, List.setIfInBounds_toArray, List.set_cons_zero, List.set_cons_succ, i64_w, i32_w]
     rfl
    refine pure_ (i := 11) (N := some 20) (v := ?_) (a' := ?_) #[true, true, true, true, true, true, true, true, true, true, true, true, false] rfl rfl (any_of HT_.out zq23) (fun _ _ _ h => h) (Or.inl ⟨by rfl, ?_⟩) ?_ ?_
    rotate_left
    ·intro w'
     go_simp
     with_reducible rfl
    rotate_left
    ·simp only [Act.put, List.setIfInBounds_toArray, List.set_cons_zero, List.set_cons_succ, i64_w, i32_w]
     rfl
    refine last_ (i := 12) (N := none) #[true, true, true, true, true, true, true, true, true, true, true, true, true] rfl rfl (one_of HT_.out zq23) zq45 (fun K hK => ?_)
    have hc6 : w6.cell? ⟨g, 2, none⟩ = some ov' := (blk_cell hB6.out 2).trans rfl
    have hf6 := blk_frozen hB6.out 2
    refine skip_ (w1 := ?_) (by rfl) rfl ?_ ?_
    rotate_left
    ·go_simp
     rfl
    refine hK.out _ _ ?_
    clear hK K
    refine done_ (done_of HT_.out zq23) ?_
    try go_wp2
    go_roundg k
    case measure => omega
    case rel =>
     refine ⟨pb, xs ++ [32], _, zq13, ⟨?_, HD2.out.bound.1, ?_, ?_⟩, ⟨HD2.out.put hB6.out O6.out L6.out⟩⟩
     ·have := HF.out.1; omega
     ·have := HF.out.2.2.1; rw [List.length_append, List.length_singleton]; omega
     ·exact HBL.out.symm.trans HF.out.2.2.2
   ·refine start_ (n := 13) (S := fun w' => w'.cell? ⟨g, 2, none⟩ = some ov') (ds := [12]) #[false, false, false, false, false, false, false, false, false, false, false, false, false] zq23 rfl rfl ((blk_cell HD.out.blk 2).trans rfl) (fun hHeld => ?_); refine with_tabW blanks.tab3 blanks.bits3 (fun HT_ HW_ => ?_)
    refine pure_ (i := 0) (N := some 9) (v := ?_) (a' := ?_) #[true, false, false, false, false, false, false, false, false, false, false, false, false] rfl rfl (any_of HT_.out zq23) (fun _ _ _ h => h) (Or.inl ⟨by rfl, ?_⟩) ?_ ?_
    rotate_left
    ·intro w'
     go_simp
     with_reducible rfl
    rotate_left
    ·simp only [Act.put, List.setIfInBounds_toArray, List.set_cons_zero, List.set_cons_succ, i64_w, i32_w]
     rfl
    refine pure_ (i := 1) (N := some 10) (v := ?_) (a' := ?_) #[true, true, false, false, false, false, false, false, false, false, false, false, false] rfl rfl (any_of HT_.out zq23) (fun _ _ _ h => h) (Or.inl ⟨by rfl, ?_⟩) ?_ ?_
    rotate_left
    ·intro w'
     go_simp
     with_reducible rfl
    rotate_left
    ·simp only [Act.put, List.setIfInBounds_toArray, List.set_cons_zero, List.set_cons_succ, i64_w, i32_w]
     rfl
    refine pure_ (i := 2) (N := some 11) (v := ?_) (a' := ?_) #[true, true, true, false, false, false, false, false, false, false, false, false, false] rfl rfl (any_of HT_.out zq23) (fun _ _ _ h => h) (Or.inl ⟨by rfl, ?_⟩) ?_ ?_
    rotate_left
    ·intro w'
     go_simp
     with_reducible rfl
    rotate_left
    ·simp only [Act.put, List.setIfInBounds_toArray, List.set_cons_zero, List.set_cons_succ, i64_w, i32_w]
     rfl
    refine pure_ (i := 3) (N := some 12) (v := ?_) (a' := ?_) #[true, true, true, true, false, false, false, false, false, false, false, false, false] rfl rfl (any_of HT_.out zq23) (fun _ _ _ h => h) (Or.inl ⟨by rfl, ?_⟩) ?_ ?_
    rotate_left
    ·intro w'
     go_simp
     with_reducible rfl
    rotate_left
    ·simp only [Act.put, List.setIfInBounds_toArray, List.set_cons_zero, List.set_cons_succ, i64_w, i32_w]
     rfl
    refine take_ (i := 4) (N := some 13) (v := ?_) (a' := ?_) #[true, true, true, true, true, false, false, false, false, false, false, false, false] rfl rfl (take_ofW HT_.out HW_.out zq23) (fun _ _ _ h => h) (Or.inl ⟨by rfl, ?_⟩) hHeld ?_ ?_
    rotate_left
    ·intro w' s0
     go_simp
     with_reducible rfl
    rotate_left
    ·simp only [Act.put, List.setIfInBounds_toArray, List.set_cons_zero, List.set_cons_succ, i64_w, i32_w]
     rfl
    refine pure_ (i := 5) (N := some 14) (v := ?_) (a' := ?_) #[true, true, true, true, true, true, false, false, false, false, false, false, false] rfl rfl (any_of HT_.out zq23) (fun _ _ _ h => h) (Or.inl ⟨by rfl, ?_⟩) ?_ ?_
    rotate_left
    ·intro w'
     go_simp
     with_reducible rfl
    rotate_left
    ·simp only [Act.put, List.setIfInBounds_toArray, List.set_cons_zero, List.set_cons_succ, i64_w, i32_w]
     rfl
    refine one_ (i := 6) (N := some 15) #[true, true, true, true, true, true, true, false, false, false, false, false, false] rfl rfl (one_of HT_.out zq23) zq45 (fun K hK => ?_)
    refine goes_ Tryd.func43 zq23 rfl #[.pointer (some ⟨g, 0, none⟩), .int .i64 4] (by rfl) rfl rfl zq32 ?_
    with_reducible refine (HP.out _ HD.out).mono ?_
    rintro e w5 ⟨rfl, HD2'⟩
    have HD2 := mk0 HD2'
    clear HD2' HD
    refine ⟨_, rfl, ?_⟩
    refine hK.out _ _ ((blk_cell HD2.out.blk 2).trans rfl) (fun hHeld => ?_)
    clear hK K
    refine norm_ (a' := ?_) ?_ ?_
    rotate_left
    ·show Act.put _ (some 15) _ = _
     simp only [Act.put, List.setIfInBounds_toArray, List.set_cons_zero, List.set_cons_succ, i64_w, i32_w]
     rfl
    refine pure_ (i := 7) (N := some 16) (v := ?_) (a' := ?_) #[true, true, true, true, true, true, true, true, false, false, false, false, false] rfl rfl (any_of HT_.out zq23) (fun _ _ _ h => h) (Or.inl ⟨by rfl, ?_⟩) ?_ ?_
    rotate_left
    ·intro w'
     go_simp
     with_reducible rfl
    rotate_left
    ·simp only [Act.put, List.setIfInBounds_toArray, List.set_cons_zero, List.set_cons_succ, i64_w, i32_w]
     rfl
    refine one_ (i := 8) (N := some 17) #[true, true, true, true, true, true, true, true, true, false, false, false, false] rfl rfl (one_of HT_.out zq23) zq45 (fun K hK => ?_)
    refine value_ (w1 := ?_) (v := ?_) (by rfl) rfl ?_ ?_
    rotate_left 2
    ·go_simp
     constructor
     ·rfl
     ·rfl
    have HDa := mk0 (blk_alloc HD2.out.blk (.cells #[.int .u8 10] 5 (0, 0)))
    refine hK.out _ _ ((blk_cell (blk_alloc HD2.out.blk _) 2).trans rfl) (fun hHeld => ?_)
    clear hK K
    refine norm_ (a' := ?_) ?_ ?_
    rotate_left
    ·show Act.put _ (some 17) _ = _
     simp only [Act.put, List.setIfInBounds_toArray, List.set_cons_zero, List.set_cons_succ, i64_w, i32_w]
     rfl
    refine one_ (i := 9) (N := some 18) #[true, true, true, true, true, true, true, true, true, true, false, false, false] rfl rfl (one_of HT_.out zq23) zq45 (fun K hK => ?_)
    refine Kd.R_append_step (Kd.int .u8) (w0 := w0) w0.heap.size (by rfl) (.tmp 13) (.tmp 17) 29 5 (.int .u8 0) 1 (by rfl) Tryd.underlying29 info5 rfl zq45 zq45 ov' xs 10 [.int .u8 10] (fun k => k ≠ g) (fun _ => False) (by rfl) (by rfl) rfl (fun _ hk => hk.elim) ?aF HD2.out.row HD2.out.below (below_size HD2.out.below) ?aL ?_
    (case aF => exact fun q hq => (by have := blk_lt HD2.out.blk; omega))
    (case aL => omega)
    intro v1 w6 ho6 hb6 hg6 hat6
    obtain ⟨A1, c1, hv6, _, _⟩ := Kd.R_reads ho6
    subst hv6
    rw [List.length_append, List.length_singleton] at ho6
    have hB6 := mk0 (blk_grown HD2.out.blk hg6 (Kd.R_away HD2.out.row (fun _ hk => hk)))
    have O6 := mk0 ho6
    have L6 := mk0 hb6
    clear ho6 hb6 hg6 hat6
    refine hK.out _ _ ((blk_cell hB6.out 2).trans rfl) (fun hHeld => ?_)
    clear hK K
    refine norm_ (a' := ?_) ?_ ?_
    rotate_left
    ·show Act.put _ (some 18) _ = _
     simp only [Act.put, List.setIfInBounds_toArray, List.set_cons_zero, List.set_cons_succ, i64_w, i32_w]
     rfl
    refine pure_ (i := 10) (N := some 19) (v := ?_) (a' := ?_) #[true, true, true, true, true, true, true, true, true, true, true, false, false] rfl rfl (any_of HT_.out zq23) (fun _ _ _ h => h) (Or.inl ⟨by rfl, ?_⟩) ?_ ?_
    rotate_left
    ·intro w'
     go_simp
     with_reducible rfl
    rotate_left
    ·simp only [Act.put, List.setIfInBounds_toArray, List.set_cons_zero, List.set_cons_succ, i64_w, i32_w]
     rfl
    refine pure_ (i := 11) (N := some 20) (v := ?_) (a' := ?_) #[true, true, true, true, true, true, true, true, true, true, true, true, false] rfl rfl (any_of HT_.out zq23) (fun _ _ _ h => h) (Or.inl ⟨by rfl, ?_⟩) ?_ ?_
    rotate_left
    ·intro w'
     go_simp
     with_reducible rfl
    rotate_left
    ·simp only [Act.put, List.setIfInBounds_toArray, List.set_cons_zero, List.set_cons_succ, i64_w, i32_w]
     rfl
    refine last_ (i := 12) (N := none) #[true, true, true, true, true, true, true, true, true, true, true, true, true] rfl rfl (one_of HT_.out zq23) zq45 (fun K hK => ?_)
    have hc6 : w6.cell? ⟨g, 2, none⟩ = some ov' := (blk_cell hB6.out 2).trans rfl
    have hf6 := blk_frozen hB6.out 2
    refine skip_ (w1 := ?_) (by rfl) rfl ?_ ?_
    rotate_left
    ·go_simp
     rfl
    refine hK.out _ _ ?_
    clear hK K
    refine done_ (done_of HT_.out zq23) ?_
    try go_wp2
    go_roundg k
    case measure => omega
    case rel =>
     refine ⟨pb, xs ++ [10], _, zq13, ⟨?_, HD2.out.bound.1, ?_, ?_⟩, ⟨HD2.out.put hB6.out O6.out L6.out⟩⟩
     ·have := HF.out.1; omega
     ·have := HF.out.2.2.1; rw [List.length_append, List.length_singleton]; omega
     ·exact HBL.out.symm.trans HF.out.2.2.2
   ·refine start_ (n := 13) (S := fun w' => w'.cell? ⟨g, 2, none⟩ = some ov') (ds := [12]) #[false, false, false, false, false, false, false, false, false, false, false, false, false] zq23 rfl rfl ((blk_cell HD.out.blk 2).trans rfl) (fun hHeld => ?_); refine with_tabW blanks.tab3 blanks.bits3 (fun HT_ HW_ => ?_)
    refine pure_ (i := 0) (N := some 9) (v := ?_) (a' := ?_) #[true, false, false, false, false, false, false, false, false, false, false, false, false] rfl rfl (any_of HT_.out zq23) (fun _ _ _ h => h) (Or.inl ⟨by rfl, ?_⟩) ?_ ?_
    rotate_left
    ·intro w'
     go_simp
     with_reducible rfl
    rotate_left
    ·simp only [Act.put, List.setIfInBounds_toArray, List.set_cons_zero, List.set_cons_succ, i64_w, i32_w]
     rfl
    refine pure_ (i := 1) (N := some 10) (v := ?_) (a' := ?_) #[true, true, false, false, false, false, false, false, false, false, false, false, false] rfl rfl (any_of HT_.out zq23) (fun _ _ _ h => h) (Or.inl ⟨by rfl, ?_⟩) ?_ ?_
    rotate_left
    ·intro w'
     go_simp
     with_reducible rfl
    rotate_left
    ·simp only [Act.put, List.setIfInBounds_toArray, List.set_cons_zero, List.set_cons_succ, i64_w, i32_w]
     rfl
    refine pure_ (i := 2) (N := some 11) (v := ?_) (a' := ?_) #[true, true, true, false, false, false, false, false, false, false, false, false, false] rfl rfl (any_of HT_.out zq23) (fun _ _ _ h => h) (Or.inl ⟨by rfl, ?_⟩) ?_ ?_
    rotate_left
    ·intro w'
     go_simp
     with_reducible rfl
    rotate_left
    ·simp only [Act.put, List.setIfInBounds_toArray, List.set_cons_zero, List.set_cons_succ, i64_w, i32_w]
     rfl
    refine pure_ (i := 3) (N := some 12) (v := ?_) (a' := ?_) #[true, true, true, true, false, false, false, false, false, false, false, false, false] rfl rfl (any_of HT_.out zq23) (fun _ _ _ h => h) (Or.inl ⟨by rfl, ?_⟩) ?_ ?_
    rotate_left
    ·intro w'
     go_simp
     with_reducible rfl
    rotate_left
    ·simp only [Act.put, List.setIfInBounds_toArray, List.set_cons_zero, List.set_cons_succ, i64_w, i32_w]
     rfl
    refine take_ (i := 4) (N := some 13) (v := ?_) (a' := ?_) #[true, true, true, true, true, false, false, false, false, false, false, false, false] rfl rfl (take_ofW HT_.out HW_.out zq23) (fun _ _ _ h => h) (Or.inl ⟨by rfl, ?_⟩) hHeld ?_ ?_
    rotate_left
    ·intro w' s0
     go_simp
     with_reducible rfl
    rotate_left
    ·simp only [Act.put, List.setIfInBounds_toArray, List.set_cons_zero, List.set_cons_succ, i64_w, i32_w]
     rfl
    refine pure_ (i := 5) (N := some 14) (v := ?_) (a' := ?_) #[true, true, true, true, true, true, false, false, false, false, false, false, false] rfl rfl (any_of HT_.out zq23) (fun _ _ _ h => h) (Or.inl ⟨by rfl, ?_⟩) ?_ ?_
    rotate_left
    ·intro w'
     go_simp
     with_reducible rfl
    rotate_left
    ·simp only [Act.put, List.setIfInBounds_toArray, List.set_cons_zero, List.set_cons_succ, i64_w, i32_w]
     rfl
    refine one_ (i := 6) (N := some 15) #[true, true, true, true, true, true, true, false, false, false, false, false, false] rfl rfl (one_of HT_.out zq23) zq45 (fun K hK => ?_)
    refine goes_ Tryd.func43 zq23 rfl #[.pointer (some ⟨g, 0, none⟩), .int .i64 4] (by rfl) rfl rfl zq32 ?_
    with_reducible refine (HP.out _ HD.out).mono ?_
    rintro e w5 ⟨rfl, HD2'⟩
    have HD2 := mk0 HD2'
    clear HD2' HD
    refine ⟨_, rfl, ?_⟩
    refine hK.out _ _ ((blk_cell HD2.out.blk 2).trans rfl) (fun hHeld => ?_)
    clear hK K
    refine norm_ (a' := ?_) ?_ ?_
    rotate_left
    ·show Act.put _ (some 15) _ = _
     simp only [Act.put, List.setIfInBounds_toArray, List.set_cons_zero, List.set_cons_succ, i64_w, i32_w]
     rfl
    refine pure_ (i := 7) (N := some 16) (v := ?_) (a' := ?_) #[true, true, true, true, true, true, true, true, false, false, false, false, false] rfl rfl (any_of HT_.out zq23) (fun _ _ _ h => h) (Or.inl ⟨by rfl, ?_⟩) ?_ ?_
    rotate_left
    ·intro w'
     go_simp
     with_reducible rfl
    rotate_left
    ·simp only [Act.put, List.setIfInBounds_toArray, List.set_cons_zero, List.set_cons_succ, i64_w, i32_w]
     rfl
    refine one_ (i := 8) (N := some 17) #[true, true, true, true, true, true, true, true, true, false, false, false, false] rfl rfl (one_of HT_.out zq23) zq45 (fun K hK => ?_)
    refine value_ (w1 := ?_) (v := ?_) (by rfl) rfl ?_ ?_
    rotate_left 2
    ·go_simp
     constructor
     ·rfl
     ·rfl
    have HDa := mk0 (blk_alloc HD2.out.blk (.cells #[.int .u8 9] 5 (0, 0)))
    refine hK.out _ _ ((blk_cell (blk_alloc HD2.out.blk _) 2).trans rfl) (fun hHeld => ?_)
    clear hK K
    refine norm_ (a' := ?_) ?_ ?_
    rotate_left
    ·show Act.put _ (some 17) _ = _
     simp only [Act.put, List.setIfInBounds_toArray, List.set_cons_zero, List.set_cons_succ, i64_w, i32_w]
     rfl
    refine one_ (i := 9) (N := some 18) #[true, true, true, true, true, true, true, true, true, true, false, false, false] rfl rfl (one_of HT_.out zq23) zq45 (fun K hK => ?_)
    refine Kd.R_append_step (Kd.int .u8) (w0 := w0) w0.heap.size (by rfl) (.tmp 13) (.tmp 17) 29 5 (.int .u8 0) 1 (by rfl) Tryd.underlying29 info5 rfl zq45 zq45 ov' xs 9 [.int .u8 9] (fun k => k ≠ g) (fun _ => False) (by rfl) (by rfl) rfl (fun _ hk => hk.elim) ?aF HD2.out.row HD2.out.below (below_size HD2.out.below) ?aL ?_
    (case aF => exact fun q hq => (by have := blk_lt HD2.out.blk; omega))
    (case aL => omega)
    intro v1 w6 ho6 hb6 hg6 hat6
    obtain ⟨A1, c1, hv6, _, _⟩ := Kd.R_reads ho6
    subst hv6
    rw [List.length_append, List.length_singleton] at ho6
    have hB6 := mk0 (blk_grown HD2.out.blk hg6 (Kd.R_away HD2.out.row (fun _ hk => hk)))
    have O6 := mk0 ho6
    have L6 := mk0 hb6
    clear ho6 hb6 hg6 hat6
    refine hK.out _ _ ((blk_cell hB6.out 2).trans rfl) (fun hHeld => ?_)
    clear hK K
    refine norm_ (a' := ?_) ?_ ?_
    rotate_left
    ·show Act.put _ (some 18) _ = _
     simp only [Act.put, List.setIfInBounds_toArray, List.set_cons_zero, List.set_cons_succ, i64_w, i32_w]
     rfl
    refine pure_ (i := 10) (N := some 19) (v := ?_) (a' := ?_) #[true, true, true, true, true, true, true, true, true, true, true, false, false] rfl rfl (any_of HT_.out zq23) (fun _ _ _ h => h) (Or.inl ⟨by rfl, ?_⟩) ?_ ?_
    rotate_left
    ·intro w'
     go_simp
     with_reducible rfl
    rotate_left
    ·simp only [Act.put, List.setIfInBounds_toArray, List.set_cons_zero, List.set_cons_succ, i64_w, i32_w]
     rfl
    refine pure_ (i := 11) (N := some 20) (v := ?_) (a' := ?_) #[true, true, true, true, true, true, true, true, true, true, true, true, false] rfl rfl (any_of HT_.out zq23) (fun _ _ _ h => h) (Or.inl ⟨by rfl, ?_⟩) ?_ ?_
    rotate_left
    ·intro w'
     go_simp
     with_reducible rfl
    rotate_left
    ·simp only [Act.put, List.setIfInBounds_toArray, List.set_cons_zero, List.set_cons_succ, i64_w, i32_w]
     rfl
    refine last_ (i := 12) (N := none) #[true, true, true, true, true, true, true, true, true, true, true, true, true] rfl rfl (one_of HT_.out zq23) zq45 (fun K hK => ?_)
    have hc6 : w6.cell? ⟨g, 2, none⟩ = some ov' := (blk_cell hB6.out 2).trans rfl
    have hf6 := blk_frozen hB6.out 2
    refine skip_ (w1 := ?_) (by rfl) rfl ?_ ?_
    rotate_left
    ·go_simp
     rfl
    refine hK.out _ _ ?_
    clear hK K
    refine done_ (done_of HT_.out zq23) ?_
    try go_wp2
    go_roundg k
    case measure => omega
    case rel =>
     refine ⟨pb, xs ++ [9], _, zq13, ⟨?_, HD2.out.bound.1, ?_, ?_⟩, ⟨HD2.out.put hB6.out O6.out L6.out⟩⟩
     ·have := HF.out.1; omega
     ·have := HF.out.2.2.1; rw [List.length_append, List.length_singleton]; omega
     ·exact HBL.out.symm.trans HF.out.2.2.2
   ·refine start_ (n := 13) (S := fun w' => w'.cell? ⟨g, 2, none⟩ = some ov') (ds := [12]) #[false, false, false, false, false, false, false, false, false, false, false, false, false] zq23 rfl rfl ((blk_cell HD.out.blk 2).trans rfl) (fun hHeld => ?_); refine with_tabW blanks.tab3 blanks.bits3 (fun HT_ HW_ => ?_)
    refine pure_ (i := 0) (N := some 9) (v := ?_) (a' := ?_) #[true, false, false, false, false, false, false, false, false, false, false, false, false] rfl rfl (any_of HT_.out zq23) (fun _ _ _ h => h) (Or.inl ⟨by rfl, ?_⟩) ?_ ?_
    rotate_left
    ·intro w'
     go_simp
     with_reducible rfl
    rotate_left
    ·simp only [Act.put, List.setIfInBounds_toArray, List.set_cons_zero, List.set_cons_succ, i64_w, i32_w]
     rfl
    refine pure_ (i := 1) (N := some 10) (v := ?_) (a' := ?_) #[true, true, false, false, false, false, false, false, false, false, false, false, false] rfl rfl (any_of HT_.out zq23) (fun _ _ _ h => h) (Or.inl ⟨by rfl, ?_⟩) ?_ ?_
    rotate_left
    ·intro w'
     go_simp
     with_reducible rfl
    rotate_left
    ·simp only [Act.put, List.setIfInBounds_toArray, List.set_cons_zero, List.set_cons_succ, i64_w, i32_w]
     rfl
    refine pure_ (i := 2) (N := some 11) (v := ?_) (a' := ?_) #[true, true, true, false, false, false, false, false, false, false, false, false, false] rfl rfl (any_of HT_.out zq23) (fun _ _ _ h => h) (Or.inl ⟨by rfl, ?_⟩) ?_ ?_
    rotate_left
    ·intro w'
     go_simp
     with_reducible rfl
    rotate_left
    ·simp only [Act.put, List.setIfInBounds_toArray, List.set_cons_zero, List.set_cons_succ, i64_w, i32_w]
     rfl
    refine pure_ (i := 3) (N := some 12) (v := ?_) (a' := ?_) #[true, true, true, true, false, false, false, false, false, false, false, false, false] rfl rfl (any_of HT_.out zq23) (fun _ _ _ h => h) (Or.inl ⟨by rfl, ?_⟩) ?_ ?_
    rotate_left
    ·intro w'
     go_simp
     with_reducible rfl
    rotate_left
    ·simp only [Act.put, List.setIfInBounds_toArray, List.set_cons_zero, List.set_cons_succ, i64_w, i32_w]
     rfl
    refine take_ (i := 4) (N := some 13) (v := ?_) (a' := ?_) #[true, true, true, true, true, false, false, false, false, false, false, false, false] rfl rfl (take_ofW HT_.out HW_.out zq23) (fun _ _ _ h => h) (Or.inl ⟨by rfl, ?_⟩) hHeld ?_ ?_
    rotate_left
    ·intro w' s0
     go_simp
     with_reducible rfl
    rotate_left
    ·simp only [Act.put, List.setIfInBounds_toArray, List.set_cons_zero, List.set_cons_succ, i64_w, i32_w]
     rfl
    refine pure_ (i := 5) (N := some 14) (v := ?_) (a' := ?_) #[true, true, true, true, true, true, false, false, false, false, false, false, false] rfl rfl (any_of HT_.out zq23) (fun _ _ _ h => h) (Or.inl ⟨by rfl, ?_⟩) ?_ ?_
    rotate_left
    ·intro w'
     go_simp
     with_reducible rfl
    rotate_left
    ·simp only [Act.put, List.setIfInBounds_toArray, List.set_cons_zero, List.set_cons_succ, i64_w, i32_w]
     rfl
    refine one_ (i := 6) (N := some 15) #[true, true, true, true, true, true, true, false, false, false, false, false, false] rfl rfl (one_of HT_.out zq23) zq45 (fun K hK => ?_)
    refine goes_ Tryd.func43 zq23 rfl #[.pointer (some ⟨g, 0, none⟩), .int .i64 4] (by rfl) rfl rfl zq32 ?_
    with_reducible refine (HP.out _ HD.out).mono ?_
    rintro e w5 ⟨rfl, HD2'⟩
    have HD2 := mk0 HD2'
    clear HD2' HD
    refine ⟨_, rfl, ?_⟩
    refine hK.out _ _ ((blk_cell HD2.out.blk 2).trans rfl) (fun hHeld => ?_)
    clear hK K
    refine norm_ (a' := ?_) ?_ ?_
    rotate_left
    ·show Act.put _ (some 15) _ = _
     simp only [Act.put, List.setIfInBounds_toArray, List.set_cons_zero, List.set_cons_succ, i64_w, i32_w]
     rfl
    refine pure_ (i := 7) (N := some 16) (v := ?_) (a' := ?_) #[true, true, true, true, true, true, true, true, false, false, false, false, false] rfl rfl (any_of HT_.out zq23) (fun _ _ _ h => h) (Or.inl ⟨by rfl, ?_⟩) ?_ ?_
    rotate_left
    ·intro w'
     go_simp
     with_reducible rfl
    rotate_left
    ·simp only [Act.put, List.setIfInBounds_toArray, List.set_cons_zero, List.set_cons_succ, i64_w, i32_w]
     rfl
    refine one_ (i := 8) (N := some 17) #[true, true, true, true, true, true, true, true, true, false, false, false, false] rfl rfl (one_of HT_.out zq23) zq45 (fun K hK => ?_)
    refine value_ (w1 := ?_) (v := ?_) (by rfl) rfl ?_ ?_
    rotate_left 2
    ·go_simp
     constructor
     ·rfl
     ·rfl
    have HDa := mk0 (blk_alloc HD2.out.blk (.cells #[.int .u8 13] 5 (0, 0)))
    refine hK.out _ _ ((blk_cell (blk_alloc HD2.out.blk _) 2).trans rfl) (fun hHeld => ?_)
    clear hK K
    refine norm_ (a' := ?_) ?_ ?_
    rotate_left
    ·show Act.put _ (some 17) _ = _
     simp only [Act.put, List.setIfInBounds_toArray, List.set_cons_zero, List.set_cons_succ, i64_w, i32_w]
     rfl
    refine one_ (i := 9) (N := some 18) #[true, true, true, true, true, true, true, true, true, true, false, false, false] rfl rfl (one_of HT_.out zq23) zq45 (fun K hK => ?_)
    refine Kd.R_append_step (Kd.int .u8) (w0 := w0) w0.heap.size (by rfl) (.tmp 13) (.tmp 17) 29 5 (.int .u8 0) 1 (by rfl) Tryd.underlying29 info5 rfl zq45 zq45 ov' xs 13 [.int .u8 13] (fun k => k ≠ g) (fun _ => False) (by rfl) (by rfl) rfl (fun _ hk => hk.elim) ?aF HD2.out.row HD2.out.below (below_size HD2.out.below) ?aL ?_
    (case aF => exact fun q hq => (by have := blk_lt HD2.out.blk; omega))
    (case aL => omega)
    intro v1 w6 ho6 hb6 hg6 hat6
    obtain ⟨A1, c1, hv6, _, _⟩ := Kd.R_reads ho6
    subst hv6
    rw [List.length_append, List.length_singleton] at ho6
    have hB6 := mk0 (blk_grown HD2.out.blk hg6 (Kd.R_away HD2.out.row (fun _ hk => hk)))
    have O6 := mk0 ho6
    have L6 := mk0 hb6
    clear ho6 hb6 hg6 hat6
    refine hK.out _ _ ((blk_cell hB6.out 2).trans rfl) (fun hHeld => ?_)
    clear hK K
    refine norm_ (a' := ?_) ?_ ?_
    rotate_left
    ·show Act.put _ (some 18) _ = _
     simp only [Act.put, List.setIfInBounds_toArray, List.set_cons_zero, List.set_cons_succ, i64_w, i32_w]
     rfl
    refine pure_ (i := 10) (N := some 19) (v := ?_) (a' := ?_) #[true, true, true, true, true, true, true, true, true, true, true, false, false] rfl rfl (any_of HT_.out zq23) (fun _ _ _ h => h) (Or.inl ⟨by rfl, ?_⟩) ?_ ?_
    rotate_left
    ·intro w'
     go_simp
     with_reducible rfl
    rotate_left
    ·simp only [Act.put, List.setIfInBounds_toArray, List.set_cons_zero, List.set_cons_succ, i64_w, i32_w]
     rfl
    refine pure_ (i := 11) (N := some 20) (v := ?_) (a' := ?_) #[true, true, true, true, true, true, true, true, true, true, true, true, false] rfl rfl (any_of HT_.out zq23) (fun _ _ _ h => h) (Or.inl ⟨by rfl, ?_⟩) ?_ ?_
    rotate_left
    ·intro w'
     go_simp
     with_reducible rfl
    rotate_left
    ·simp only [Act.put, List.setIfInBounds_toArray, List.set_cons_zero, List.set_cons_succ, i64_w, i32_w]
     rfl
    refine last_ (i := 12) (N := none) #[true, true, true, true, true, true, true, true, true, true, true, true, true] rfl rfl (one_of HT_.out zq23) zq45 (fun K hK => ?_)
    have hc6 : w6.cell? ⟨g, 2, none⟩ = some ov' := (blk_cell hB6.out 2).trans rfl
    have hf6 := blk_frozen hB6.out 2
    refine skip_ (w1 := ?_) (by rfl) rfl ?_ ?_
    rotate_left
    ·go_simp
     rfl
    refine hK.out _ _ ?_
    clear hK K
    refine done_ (done_of HT_.out zq23) ?_
    try go_wp2
    go_roundg k
    case measure => omega
    case rel =>
     refine ⟨pb, xs ++ [13], _, zq13, ⟨?_, HD2.out.bound.1, ?_, ?_⟩, ⟨HD2.out.put hB6.out O6.out L6.out⟩⟩
     ·have := HF.out.1; omega
     ·have := HF.out.2.2.1; rw [List.length_append, List.length_singleton]; omega
     ·exact HBL.out.symm.trans HF.out.2.2.2
section
variable {P : Program} {ops : Array Oper} {o : Oper} {a : Act} {Q : Exit → Act → World → Prop} {Kc : Act → World → Prop} {w0 W : World}
theorem append_str_step (base : Nat) (hw : Region.wanted o (yielded ops a.tmps) = true) (s x : Operand) (t u e : TypeId)
 (ho : o.op = .call { callee := .builtin .append, args := #[s, x], argTypes := #[t, u] })
 (ht : P.underlying t = some (.slice e)) (hu : P.underlying u = some .string) (hinfo : (P.info? e).map (fun i => (i.zero, i.size, i.bytes)) = some (some (.int .u8 0), 1, 1))
 (v : Value) (xs : List Int) (y : ByteArray) (ok : Nat → Prop) (hs : a.eval s = v) (hx : a.eval x = .string y) (hfresh : ∀ k, W.heap.size ≤ k → ok k)
 (HO : (Kd.int .u8).R e W base ok v xs) (HB : Below base w0 W) (hbase : base ≤ W.heap.size) (hl : xs.length + y.size ≤ 140737488355328)
 (h : ∀ v1 w1, (Kd.int .u8).R e w1 base ok v1 (xs ++ bytesOf y) → Below base w0 w1 → W.grownBy w1 v.ownBlock → (v1.ownBlock = v.ownBlock ∨ ∃ b, v1.ownBlock = some b ∧ W.heap.size ≤ b) → Kc (a.put o.dst v1) w1) :
 if Region.wanted o (yielded ops a.tmps) = true then Oper.wp P o a W Kc Q else Kc (a.put o.dst undef) W := by
 have hown : W.ownsRow base e 1 v xs.length (nums .u8 xs) := Kd.own_of_R HO
 obtain ⟨i0, hi, hzz⟩ := Option.map_eq_some_iff.1 hinfo
 simp only [Prod.mk.injEq] at hzz
 obtain ⟨hz0, hz1, hz2⟩ := hzz
 obtain ⟨v', w', hr, h2, h3, _⟩ := Lib.run_append_own_string (P := P) W base t u o.type e i0 ht hu hi hz0 hz1 hz2 v xs.length (nums .u8 xs) hown y (by simp only [maxLen]; omega) hl hbase
 have hat := append_str_at (P := P) W base t u o.type e i0 ht hu hi hz0 hz1 hz2 v xs.length (nums .u8 xs) hown y hl v' w' hr
 have hl2 : (xs ++ bytesOf y).length = xs.length + y.size := by rw [List.length_append, bytesOf_length]
 have hc : nums .u8 (xs ++ bytesOf y) = nums .u8 xs ++ Lib.strCells y := by
  rw [nums_append]
  congr 1
  simp [nums, bytesOf, Lib.strCells]
 have hR : (Kd.int .u8).R e w' base ok v' (xs ++ bytesOf y) := by
  refine Kd.R_of_own (by rw [hl2, show encs (Value.int .u8) (xs ++ bytesOf y) = nums .u8 (xs ++ bytesOf y) from rfl, hc]; exact h2) fun k hk => ?_
  rcases hat with h4 | ⟨b, h4, h5⟩
  ·exact HO.1 k (h4.symm.trans hk)
  ·rw [h4] at hk
   injection hk with hk
   subst hk
   exact hfresh _ h5
 rw [if_pos hw]
 unfold Oper.wp execOp
 simp only [ho, resolve, invoke, builtin, Sem.run_bind, Sem.run_pure, Result.andThen_ok, List.map_toArray, List.map_cons, List.map_nil, hs, hx, hr]
 exact h v' w' hR (HB.grown h3 hbase (own_base hown)) h3 hat
end
def unit.T4 : Bool × List (List Nat × List Nat) := (true, [([], []), ([], []), ([1], [1]), ([2], [2]), ([3], [3]), ([], []), ([], []), ([5, 6], [5, 6]), ([7], [7]), ([], []), ([9], [9]), ([10], [10]), ([8, 11, 10], [8, 11]), ([12], [12]), ([4, 13, 12], [4, 13]), ([0, 0, 1, 2, 3, 4, 5, 6, 7, 8, 9, 10, 11, 12, 13, 14], [0]), ([15, 0, 1, 2, 3, 4, 5, 6, 7, 8, 9, 10, 11, 12, 13, 14], [15]), ([16, 14, 14, 0, 1, 2, 3, 4, 5, 6, 7, 8, 9, 10, 11, 12, 13, 14], [14, 16])])
def unit.B4 : List Nat := [0, 0, 2, 6, 14, 0, 0, 96, 224, 0, 512, 1536, 4064, 8160, 16382, 32767, 65535, 131071]
theorem unit.tab4 : rtab .any (opsOf Tryd.f75 4) = unit.T4 := by kernel_rfl
theorem unit.bits4 : waitsOk unit.T4.2 unit.B4 = true := by kernel_rfl
def digF (d up : Int) : Int := if d < 10 then 48 + d else if up = 1 then 55 + d else 87 + d
theorem wraps_i64 (n : Int) (h₀ : 0 ≤ n) (h₁ : n < 2 ^ 62) : IntKind.i64.wrap n = n := by rw [IntKind.wrap_i64]; omega
theorem dig_step (x d pa : Int) (hx : 0 ≤ x ∧ x < 65536) (hd : d = x % 16) : spec_digitOf.f (bits .and .i64 x 15) (pa == 1) = some (digF d pa) := by
 have h1 : bits .and .i64 x 15 = x % 16 := bits_mask .i64 62 zq45 wraps_i64 4 zq45 x hx.1 (by omega)
 rw [h1, ← hd]
 have hd2 : 0 ≤ d ∧ d < 16 := by omega
 clear h1 hx hd
 unfold spec_digitOf.f digF wrap64
 by_cases h10 : d < 10
 ·rw [if_pos h10, if_pos h10]; congr 1; omega
 rw [if_neg h10, if_neg h10]
 by_cases hp : pa = 1
 rotate_left
 ·rw [if_neg (by simp [hp]), if_neg hp]; congr 1; omega
 rw [if_pos (by simp [hp]), if_pos hp]; congr 1; omega
theorem DS.drawn0 {w0 w w1 : World} {g : Nat} {A : Option Addr} {n c : Nat} {code : List Int} {used : Int} {ov : Value} {out : List Int} (h : DS w0 w g A n c code used ov out) (hd : Drawn0 w w1) : DS w0 w1 g A n c code used ov out := by
 obtain ⟨k, rfl⟩ := hd.out
 exact h.drewN k
def unitF (code : List Int) (m : Int) : Nat → Int → List Int → Int × List Int
  | 0, used, out => (used, out)
  | k + 1, used, out => unitF code m k (pickF code used 2).2 (out ++ [digF (m / 16 ^ k % 16) (pickF code used 2).1])
def unit5F (code : List Int) (m used : Int) (out : List Int) : Int × List Int := unitF code m 4 used (out ++ [92, 117])
set_option maxHeartbeats 8000000 in
set_option maxRecDepth 100000 in
theorem unit_calls (w0 w : World) (g : Nat) (A : Option Addr) (n c : Nat) (code : List Int) (used : Int) (ov : Value) (out : List Int) (m : Int) (hm : 0 ≤ m ∧ m ≤ 65535) (h : DS w0 w g A n c code used ov out) (hu : used + 10 < 1099511627776) (ho : out.length ≤ 1099511627776) :
 Calls Tryd.prog 75 #[.pointer (some ⟨g, 0, none⟩), .int .i64 m] w fun e w' => e = .returned (.tuple #[]) ∧ ∃ ov', DS w0 w' g A n c code (unit5F code m used out).1 ov' (unit5F code m used out).2 := by
 have H := mk0 h
 have hc2 : w.cell? ⟨g, 2, none⟩ = some ov := (blk_cell h.blk 2).trans rfl
 have hf2 : w.frozen? ⟨g, 2, none⟩ = false := blk_frozen h.blk 2
 clear h
 go_enter Tryd.func75, Tryd.ntmps75
 go_wp2_with (first | ((with_reducible refine gate_builtin (b := .append) (xs := #[.tmp 9, .tmp 10]) rfl ?_); at_builtin; refine Dr_append_lits (w0 := w0) w0.heap.size rfl (.tmp 9) (.tmp 10) 29 5 .u8 1 rfl Tryd.underlying29 info5 zq45 ov out [92, 117] #[.int .u8 92, .int .u8 117] 2 rfl rfl (fun k => k ≠ g) rfl rfl ?aF ?aO H.out.below (below_size H.out.below) ?aL ?_; (case aF => exact fun q hq => (by have := blk_lt H.out.blk; omega)); (case aO => exact H.out.row); (case aL => exact zq56); intro v1 w6 ho6 hb6 hg6 hat6; obtain ⟨A1, c1, hv6, _, _⟩ := Kd.R_reads ho6; subst hv6; rw [List.length_append, show [(92 : Int), 117].length = 2 from rfl] at ho6; have hB6 := mk0 (blk_grown H.out.blk hg6 (Kd.R_away H.out.row (fun _ hk => hk))); have O6 := mk0 ho6; have L6 := mk0 hb6; clear ho6 hb6 hg6 hat6; have hc6 : w6.cell? ⟨g, 2, none⟩ = some ov := (blk_cell hB6.out 2).trans rfl; have hf6 := blk_frozen hB6.out 2))
 have HE := mk0 (H.out.put hB6.out O6.out L6.out)
 clear H hc2 hf2 hc6 hf6 hB6 O6 L6
 go_loopg [4] 4 (fun kq v4 w' => ∃ (u : Int) (xs : List Int) (ov' : Value), v4 = .int .i64 (4 * (kq : Int) - 4) ∧ kq ≤ 4 ∧ Aside0 (u + kq ≤ used + 4 ∧ 0 ≤ u ∧ xs.length + kq = out.length + 6 ∧ unitF code m kq u xs = unitF code m 4 used (out ++ [92, 117])) ∧ Aside0 (DS w0 w' g A n c code u ov' xs))
 case atStart => exact ⟨used, out ++ [92, 117], _, rfl, Nat.le_refl _, ⟨by omega, HE.out.bound.1, by simp, rfl⟩, HE⟩
 case round =>
  clear HE
  obtain ⟨u, xs, ov', rfl, hkq, HF, H⟩ := hrel
  cases gk with
  | zero =>
   go_wp2
   go_end0
   have hz := HF.out.2.2.2
   unfold unit5F
   rw [← hz]
   exact ⟨rfl, ov', H.out⟩
  | succ k =>
   have hpk := fun W (hW : DS w0 W g A n c code u ov' xs) => pick_calls w0 W g A n c code u ov' xs 2 zq45 hW (by have := HF.out.1; omega)
   have hq := pick_range H.out.u8 u 2 zq45
   have hun : unitF code m (k + 1) u xs = unitF code m k (pickF code u 2).2 (xs ++ [digF (m / 16 ^ k % 16) (pickF code u 2).1]) := rfl
   have hq2 : (pickF code u 2).2 ≤ u + 1 := by unfold pickF; split <;> simp; omega
   generalize pickF code u 2 = p2 at hpk hq hun hq2
   obtain ⟨pa, pb⟩ := p2
   simp only at hpk hq hun hq2
   have HP := mk0 hpk
   obtain ⟨dg, hdg⟩ : ∃ d, d = m / 16 ^ k % 16 := ⟨_, rfl⟩
   rw [← hdg] at hun
   have HUN := mk0 hun
   clear hpk hun
   have hk4 : k = 0 ∨ k = 1 ∨ k = 2 ∨ k = 3 := by omega
   rcases hk4 with rfl | rfl | rfl | rfl
   ·simp only [Int.reducePow, Nat.reducePow, Int.pow_zero, Int.ediv_one] at hdg
    have HDG := mk0 hdg
    clear hdg
    go_wp2_with fail
    have HD := mk0 H.out.drew
    refine start_ (n := 18) (S := fun w' => w'.cell? ⟨g, 2, none⟩ = some ov') (ds := [17]) #[false, false, false, false, false, false, false, false, false, false, false, false, false, false, false, false, false, false] zq23 rfl rfl ((blk_cell HD.out.blk 2).trans rfl) (fun hHeld => ?_); refine with_tabW unit.tab4 unit.bits4 (fun HT_ HW_ => ?_)
    refine pure_ (i := 0) (N := some 18) (v := ?_) (a' := ?_) #[true, false, false, false, false, false, false, false, false, false, false, false, false, false, false, false, false, false] rfl rfl (any_of HT_.out zq23) (fun _ _ _ h => h) (Or.inl ⟨by rfl, ?_⟩) ?_ ?_
    rotate_left
    ·intro w'
     go_simp
     with_reducible rfl
    rotate_left
    ·simp only [Act.put, List.setIfInBounds_toArray, List.set_cons_zero, List.set_cons_succ, i64_w, i32_w]
     rfl
    refine pure_ (i := 1) (N := some 19) (v := ?_) (a' := ?_) #[true, true, false, false, false, false, false, false, false, false, false, false, false, false, false, false, false, false] rfl rfl (any_of HT_.out zq23) (fun _ _ _ h => h) (Or.inl ⟨by rfl, ?_⟩) ?_ ?_
    rotate_left
    ·intro w'
     go_simp
     with_reducible rfl
    rotate_left
    ·simp only [Act.put, List.setIfInBounds_toArray, List.set_cons_zero, List.set_cons_succ, i64_w, i32_w]
     rfl
    refine pure_ (i := 2) (N := some 20) (v := ?_) (a' := ?_) #[true, true, true, false, false, false, false, false, false, false, false, false, false, false, false, false, false, false] rfl rfl (any_of HT_.out zq23) (fun _ _ _ h => h) (Or.inl ⟨by rfl, ?_⟩) ?_ ?_
    rotate_left
    ·intro w'
     go_simp
     with_reducible rfl
    rotate_left
    ·simp only [Act.put, List.setIfInBounds_toArray, List.set_cons_zero, List.set_cons_succ, i64_w, i32_w]
     rfl
    refine pure_ (i := 3) (N := some 21) (v := ?_) (a' := ?_) #[true, true, true, true, false, false, false, false, false, false, false, false, false, false, false, false, false, false] rfl rfl (any_of HT_.out zq23) (fun _ _ _ h => h) (Or.inl ⟨by rfl, ?_⟩) ?_ ?_
    rotate_left
    ·intro w'
     go_simp
     with_reducible rfl
    rotate_left
    ·simp only [Act.put, List.setIfInBounds_toArray, List.set_cons_zero, List.set_cons_succ, i64_w, i32_w]
     rfl
    refine pure_ (i := 5) (N := some 23) (v := ?_) (a' := ?_) #[true, true, true, true, false, true, false, false, false, false, false, false, false, false, false, false, false, false] rfl rfl (any_of HT_.out zq23) (fun _ _ _ h => h) (Or.inl ⟨by rfl, ?_⟩) ?_ ?_
    rotate_left
    ·intro w'
     go_simp
     with_reducible rfl
    rotate_left
    ·simp only [Act.put, List.setIfInBounds_toArray, List.set_cons_zero, List.set_cons_succ, i64_w, i32_w]
     rfl
    refine pure_ (i := 6) (N := some 24) (v := ?_) (a' := ?_) #[true, true, true, true, false, true, true, false, false, false, false, false, false, false, false, false, false, false] rfl rfl (any_of HT_.out zq23) (fun _ _ _ h => h) (Or.inl ⟨by rfl, ?_⟩) ?_ ?_
    rotate_left
    ·intro w'
     go_simp
     with_reducible rfl
    rotate_left
    ·simp only [Act.put, List.setIfInBounds_toArray, List.set_cons_zero, List.set_cons_succ, i64_w, i32_w]
     rfl
    refine pure_ (i := 7) (N := some 25) (v := ?_) (a' := ?_) #[true, true, true, true, false, true, true, true, false, false, false, false, false, false, false, false, false, false] rfl rfl (any_of HT_.out zq23) (fun _ _ _ h => h) (Or.inl ⟨by rfl, ?_⟩) ?_ ?_
    rotate_left
    ·intro w'
     go_simp
     with_reducible rfl
    rotate_left
    ·simp only [Act.put, List.setIfInBounds_toArray, List.set_cons_zero, List.set_cons_succ, i64_w, i32_w]
     rfl
    refine pure_ (i := 8) (N := some 26) (v := ?_) (a' := ?_) #[true, true, true, true, false, true, true, true, true, false, false, false, false, false, false, false, false, false] rfl rfl (any_of HT_.out zq23) (fun _ _ _ h => h) (Or.inl ⟨by rfl, ?_⟩) ?_ ?_
    rotate_left
    ·intro w'
     go_simp
     with_reducible rfl
    rotate_left
    ·simp only [Act.put, List.setIfInBounds_toArray, List.set_cons_zero, List.set_cons_succ, i64_w, i32_w]
     rfl
    refine pure_ (i := 9) (N := some 27) (v := ?_) (a' := ?_) #[true, true, true, true, false, true, true, true, true, true, false, false, false, false, false, false, false, false] rfl rfl (any_of HT_.out zq23) (fun _ _ _ h => h) (Or.inl ⟨by rfl, ?_⟩) ?_ ?_
    rotate_left
    ·intro w'
     go_simp
     with_reducible rfl
    rotate_left
    ·simp only [Act.put, List.setIfInBounds_toArray, List.set_cons_zero, List.set_cons_succ, i64_w, i32_w]
     rfl
    refine take_ (i := 4) (N := some 22) (v := ?_) (a' := ?_) #[true, true, true, true, true, true, true, true, true, true, false, false, false, false, false, false, false, false] rfl rfl (take_ofW HT_.out HW_.out zq23) (fun _ _ _ h => h) (Or.inl ⟨by rfl, ?_⟩) hHeld ?_ ?_
    rotate_left
    ·intro w' s0
     go_simp
     with_reducible rfl
    rotate_left
    ·simp only [Act.put, List.setIfInBounds_toArray, List.set_cons_zero, List.set_cons_succ, i64_w, i32_w]
     rfl
    refine one_ (i := 10) (N := some 28) #[true, true, true, true, true, true, true, true, true, true, true, false, false, false, false, false, false, false] rfl rfl (one_of HT_.out zq23) zq45 (fun K hK => ?_)
    refine goes_ Tryd.func43 zq23 rfl #[.pointer (some ⟨g, 0, none⟩), .int .i64 2] (by rfl) rfl rfl zq32 ?_
    with_reducible refine (HP.out _ HD.out).mono ?_
    rintro e w5 ⟨rfl, HD2'⟩
    have HD2 := mk0 HD2'
    clear HD2' HD
    refine ⟨_, rfl, ?_⟩
    refine hK.out _ _ ((blk_cell HD2.out.blk 2).trans rfl) (fun hHeld => ?_)
    clear hK K
    refine norm_ (a' := ?_) ?_ ?_
    rotate_left
    ·show Act.put _ (some 28) _ = _
     simp only [Act.put, List.setIfInBounds_toArray, List.set_cons_zero, List.set_cons_succ, i64_w, i32_w]
     rfl
    refine pure_ (i := 11) (N := some 29) (v := ?_) (a' := ?_) #[true, true, true, true, true, true, true, true, true, true, true, true, false, false, false, false, false, false] rfl rfl (any_of HT_.out zq23) (fun _ _ _ h => h) (Or.inl ⟨by rfl, ?_⟩) ?_ ?_
    rotate_left
    ·intro w'
     go_simp
     with_reducible rfl
    rotate_left
    ·simp only [Act.put, List.setIfInBounds_toArray, List.set_cons_zero, List.set_cons_succ, i64_w, i32_w]
     rfl
    refine one_ (i := 12) (N := some 30) #[true, true, true, true, true, true, true, true, true, true, true, true, true, false, false, false, false, false] rfl rfl (one_of HT_.out zq23) zq45 (fun K hK => ?_)
    refine goes_ Tryd.func76 zq23 rfl #[.int .i64 _, .bool (pa == 1)] (by rfl) rfl rfl zq32 ?_
    with_reducible refine (spec_digitOf.calls _ _ (digF dg pa) _ ?hdg).mono ?_
    (case hdg => exact dig_step _ _ _ (by omega) HDG.out)
    rintro e w7 ⟨rfl, hd0⟩
    have HD3 := mk0 (HD2.out.drawn0 hd0)
    clear hd0 HD2
    refine ⟨_, rfl, ?_⟩
    refine hK.out _ _ ((blk_cell HD3.out.blk 2).trans rfl) (fun hHeld => ?_)
    clear hK K
    refine norm_ (a' := ?_) ?_ ?_
    rotate_left
    ·show Act.put _ (some 30) _ = _
     simp only [Act.put, List.setIfInBounds_toArray, List.set_cons_zero, List.set_cons_succ, i64_w, i32_w]
     rfl
    refine one_ (i := 13) (N := some 31) #[true, true, true, true, true, true, true, true, true, true, true, true, true, true, false, false, false, false] rfl rfl (one_of HT_.out zq23) zq45 (fun K hK => ?_)
    refine value_ (w1 := ?_) (v := ?_) (by rfl) rfl ?_ ?_
    rotate_left 2
    ·go_simp
     constructor
     ·rfl
     ·rfl
    refine hK.out _ _ ((blk_cell (blk_alloc HD3.out.blk _) 2).trans rfl) (fun hHeld => ?_)
    clear hK K
    refine norm_ (a' := ?_) ?_ ?_
    rotate_left
    ·show Act.put _ (some 31) _ = _
     simp only [Act.put, List.setIfInBounds_toArray, List.set_cons_zero, List.set_cons_succ, i64_w, i32_w]
     rfl
    refine one_ (i := 14) (N := some 32) #[true, true, true, true, true, true, true, true, true, true, true, true, true, true, true, false, false, false] rfl rfl (one_of HT_.out zq23) zq45 (fun K hK => ?_)
    refine Kd.R_append_step (Kd.int .u8) (w0 := w0) w0.heap.size (by rfl) (.tmp 22) (.tmp 31) 29 5 (.int .u8 0) 1 (by rfl) Tryd.underlying29 info5 rfl zq45 zq45 ov' xs (digF dg pa) [.int .u8 (digF dg pa)] (fun k => k ≠ g) (fun _ => False) (by rfl) (by rfl) rfl (fun _ hk => hk.elim) ?aF HD3.out.row HD3.out.below (below_size HD3.out.below) ?aL ?_
    (case aF => exact fun q hq => (by have := blk_lt HD3.out.blk; omega))
    (case aL => have := HF.out.2.2.1; omega)
    intro v1 w6 ho6 hb6 hg6 hat6
    obtain ⟨A1, c1, hv6, _, _⟩ := Kd.R_reads ho6
    subst hv6
    rw [List.length_append, List.length_singleton] at ho6
    have hB6 := mk0 (blk_grown HD3.out.blk hg6 (Kd.R_away HD3.out.row (fun _ hk => hk)))
    have O6 := mk0 ho6
    have L6 := mk0 hb6
    clear ho6 hb6 hg6 hat6
    refine hK.out _ _ ((blk_cell hB6.out 2).trans rfl) (fun hHeld => ?_)
    clear hK K
    refine norm_ (a' := ?_) ?_ ?_
    rotate_left
    ·show Act.put _ (some 32) _ = _
     simp only [Act.put, List.setIfInBounds_toArray, List.set_cons_zero, List.set_cons_succ, i64_w, i32_w]
     rfl
    refine pure_ (i := 15) (N := some 33) (v := ?_) (a' := ?_) #[true, true, true, true, true, true, true, true, true, true, true, true, true, true, true, true, false, false] rfl rfl (any_of HT_.out zq23) (fun _ _ _ h => h) (Or.inl ⟨by rfl, ?_⟩) ?_ ?_
    rotate_left
    ·intro w'
     go_simp
     with_reducible rfl
    rotate_left
    ·simp only [Act.put, List.setIfInBounds_toArray, List.set_cons_zero, List.set_cons_succ, i64_w, i32_w]
     rfl
    refine pure_ (i := 16) (N := some 34) (v := ?_) (a' := ?_) #[true, true, true, true, true, true, true, true, true, true, true, true, true, true, true, true, true, false] rfl rfl (any_of HT_.out zq23) (fun _ _ _ h => h) (Or.inl ⟨by rfl, ?_⟩) ?_ ?_
    rotate_left
    ·intro w'
     go_simp
     with_reducible rfl
    rotate_left
    ·simp only [Act.put, List.setIfInBounds_toArray, List.set_cons_zero, List.set_cons_succ, i64_w, i32_w]
     rfl
    refine last_ (i := 17) (N := none) #[true, true, true, true, true, true, true, true, true, true, true, true, true, true, true, true, true, true] rfl rfl (one_of HT_.out zq23) zq45 (fun K hK => ?_)
    have hc6 : w6.cell? ⟨g, 2, none⟩ = some ov' := (blk_cell hB6.out 2).trans rfl
    have hf6 := blk_frozen hB6.out 2
    refine skip_ (w1 := ?_) (by rfl) rfl ?_ ?_
    rotate_left
    ·go_simp
     rfl
    refine hK.out _ _ ?_
    clear hK K
    refine done_ (done_of HT_.out zq23) ?_
    try go_wp2
    go_roundg 0
    case measure => omega
    case rel =>
     refine ⟨pb, xs ++ [digF dg pa], _, zq13, (by omega), ⟨?_, HD3.out.bound.1, ?_, ?_⟩, ⟨HD3.out.put hB6.out O6.out L6.out⟩⟩
     ·have := HF.out.1; omega
     ·have := HF.out.2.2.1; rw [List.length_append, List.length_singleton]; omega
     ·exact HUN.out.symm.trans HF.out.2.2.2
   ·simp only [Int.reducePow, Nat.reducePow, Int.pow_zero, Int.ediv_one] at hdg
    have HDG := mk0 hdg
    clear hdg
    go_wp2_with fail
    have HD := mk0 H.out.drew
    refine start_ (n := 18) (S := fun w' => w'.cell? ⟨g, 2, none⟩ = some ov') (ds := [17]) #[false, false, false, false, false, false, false, false, false, false, false, false, false, false, false, false, false, false] zq23 rfl rfl ((blk_cell HD.out.blk 2).trans rfl) (fun hHeld => ?_); refine with_tabW unit.tab4 unit.bits4 (fun HT_ HW_ => ?_)
    refine pure_ (i := 0) (N := some 18) (v := ?_) (a' := ?_) #[true, false, false, false, false, false, false, false, false, false, false, false, false, false, false, false, false, false] rfl rfl (any_of HT_.out zq23) (fun _ _ _ h => h) (Or.inl ⟨by rfl, ?_⟩) ?_ ?_
    rotate_left
    ·intro w'
     go_simp
     with_reducible rfl
    rotate_left
    ·simp only [Act.put, List.setIfInBounds_toArray, List.set_cons_zero, List.set_cons_succ, i64_w, i32_w]
     rfl
    refine pure_ (i := 1) (N := some 19) (v := ?_) (a' := ?_) #[true, true, false, false, false, false, false, false, false, false, false, false, false, false, false, false, false, false] rfl rfl (any_of HT_.out zq23) (fun _ _ _ h => h) (Or.inl ⟨by rfl, ?_⟩) ?_ ?_
    rotate_left
    ·intro w'
     go_simp
     with_reducible rfl
    rotate_left
    ·simp only [Act.put, List.setIfInBounds_toArray, List.set_cons_zero, List.set_cons_succ, i64_w, i32_w]
     rfl
    refine pure_ (i := 2) (N := some 20) (v := ?_) (a' := ?_) #[true, true, true, false, false, false, false, false, false, false, false, false, false, false, false, false, false, false] rfl rfl (any_of HT_.out zq23) (fun _ _ _ h => h) (Or.inl ⟨by rfl, ?_⟩) ?_ ?_
    rotate_left
    ·intro w'
     go_simp
     with_reducible rfl
    rotate_left
    ·simp only [Act.put, List.setIfInBounds_toArray, List.set_cons_zero, List.set_cons_succ, i64_w, i32_w]
     rfl
    refine pure_ (i := 3) (N := some 21) (v := ?_) (a' := ?_) #[true, true, true, true, false, false, false, false, false, false, false, false, false, false, false, false, false, false] rfl rfl (any_of HT_.out zq23) (fun _ _ _ h => h) (Or.inl ⟨by rfl, ?_⟩) ?_ ?_
    rotate_left
    ·intro w'
     go_simp
     with_reducible rfl
    rotate_left
    ·simp only [Act.put, List.setIfInBounds_toArray, List.set_cons_zero, List.set_cons_succ, i64_w, i32_w]
     rfl
    refine pure_ (i := 5) (N := some 23) (v := ?_) (a' := ?_) #[true, true, true, true, false, true, false, false, false, false, false, false, false, false, false, false, false, false] rfl rfl (any_of HT_.out zq23) (fun _ _ _ h => h) (Or.inl ⟨by rfl, ?_⟩) ?_ ?_
    rotate_left
    ·intro w'
     go_simp
     with_reducible rfl
    rotate_left
    ·simp only [Act.put, List.setIfInBounds_toArray, List.set_cons_zero, List.set_cons_succ, i64_w, i32_w]
     rfl
    refine pure_ (i := 6) (N := some 24) (v := ?_) (a' := ?_) #[true, true, true, true, false, true, true, false, false, false, false, false, false, false, false, false, false, false] rfl rfl (any_of HT_.out zq23) (fun _ _ _ h => h) (Or.inl ⟨by rfl, ?_⟩) ?_ ?_
    rotate_left
    ·intro w'
     go_simp
     with_reducible rfl
    rotate_left
    ·simp only [Act.put, List.setIfInBounds_toArray, List.set_cons_zero, List.set_cons_succ, i64_w, i32_w]
     rfl
    refine pure_ (i := 7) (N := some 25) (v := ?_) (a' := ?_) #[true, true, true, true, false, true, true, true, false, false, false, false, false, false, false, false, false, false] rfl rfl (any_of HT_.out zq23) (fun _ _ _ h => h) (Or.inl ⟨by rfl, ?_⟩) ?_ ?_
    rotate_left
    ·intro w'
     go_simp
     with_reducible rfl
    rotate_left
    ·simp only [Act.put, List.setIfInBounds_toArray, List.set_cons_zero, List.set_cons_succ, i64_w, i32_w]
     rfl
    refine pure_ (i := 8) (N := some 26) (v := ?_) (a' := ?_) #[true, true, true, true, false, true, true, true, true, false, false, false, false, false, false, false, false, false] rfl rfl (any_of HT_.out zq23) (fun _ _ _ h => h) (Or.inl ⟨by rfl, ?_⟩) ?_ ?_
    rotate_left
    ·intro w'
     go_simp
     with_reducible rfl
    rotate_left
    ·simp only [Act.put, List.setIfInBounds_toArray, List.set_cons_zero, List.set_cons_succ, i64_w, i32_w]
     rfl
    refine pure_ (i := 9) (N := some 27) (v := ?_) (a' := ?_) #[true, true, true, true, false, true, true, true, true, true, false, false, false, false, false, false, false, false] rfl rfl (any_of HT_.out zq23) (fun _ _ _ h => h) (Or.inl ⟨by rfl, ?_⟩) ?_ ?_
    rotate_left
    ·intro w'
     go_simp
     with_reducible rfl
    rotate_left
    ·simp only [Act.put, List.setIfInBounds_toArray, List.set_cons_zero, List.set_cons_succ, i64_w, i32_w]
     rfl
    refine take_ (i := 4) (N := some 22) (v := ?_) (a' := ?_) #[true, true, true, true, true, true, true, true, true, true, false, false, false, false, false, false, false, false] rfl rfl (take_ofW HT_.out HW_.out zq23) (fun _ _ _ h => h) (Or.inl ⟨by rfl, ?_⟩) hHeld ?_ ?_
    rotate_left
    ·intro w' s0
     go_simp
     with_reducible rfl
    rotate_left
    ·simp only [Act.put, List.setIfInBounds_toArray, List.set_cons_zero, List.set_cons_succ, i64_w, i32_w]
     rfl
    refine one_ (i := 10) (N := some 28) #[true, true, true, true, true, true, true, true, true, true, true, false, false, false, false, false, false, false] rfl rfl (one_of HT_.out zq23) zq45 (fun K hK => ?_)
    refine goes_ Tryd.func43 zq23 rfl #[.pointer (some ⟨g, 0, none⟩), .int .i64 2] (by rfl) rfl rfl zq32 ?_
    with_reducible refine (HP.out _ HD.out).mono ?_
    rintro e w5 ⟨rfl, HD2'⟩
    have HD2 := mk0 HD2'
    clear HD2' HD
    refine ⟨_, rfl, ?_⟩
    refine hK.out _ _ ((blk_cell HD2.out.blk 2).trans rfl) (fun hHeld => ?_)
    clear hK K
    refine norm_ (a' := ?_) ?_ ?_
    rotate_left
    ·show Act.put _ (some 28) _ = _
     simp only [Act.put, List.setIfInBounds_toArray, List.set_cons_zero, List.set_cons_succ, i64_w, i32_w]
     rfl
    refine pure_ (i := 11) (N := some 29) (v := ?_) (a' := ?_) #[true, true, true, true, true, true, true, true, true, true, true, true, false, false, false, false, false, false] rfl rfl (any_of HT_.out zq23) (fun _ _ _ h => h) (Or.inl ⟨by rfl, ?_⟩) ?_ ?_
    rotate_left
    ·intro w'
     go_simp
     with_reducible rfl
    rotate_left
    ·simp only [Act.put, List.setIfInBounds_toArray, List.set_cons_zero, List.set_cons_succ, i64_w, i32_w]
     rfl
    refine one_ (i := 12) (N := some 30) #[true, true, true, true, true, true, true, true, true, true, true, true, true, false, false, false, false, false] rfl rfl (one_of HT_.out zq23) zq45 (fun K hK => ?_)
    refine goes_ Tryd.func76 zq23 rfl #[.int .i64 _, .bool (pa == 1)] (by rfl) rfl rfl zq32 ?_
    with_reducible refine (spec_digitOf.calls _ _ (digF dg pa) _ ?hdg).mono ?_
    (case hdg => exact dig_step _ _ _ (by omega) HDG.out)
    rintro e w7 ⟨rfl, hd0⟩
    have HD3 := mk0 (HD2.out.drawn0 hd0)
    clear hd0 HD2
    refine ⟨_, rfl, ?_⟩
    refine hK.out _ _ ((blk_cell HD3.out.blk 2).trans rfl) (fun hHeld => ?_)
    clear hK K
    refine norm_ (a' := ?_) ?_ ?_
    rotate_left
    ·show Act.put _ (some 30) _ = _
     simp only [Act.put, List.setIfInBounds_toArray, List.set_cons_zero, List.set_cons_succ, i64_w, i32_w]
     rfl
    refine one_ (i := 13) (N := some 31) #[true, true, true, true, true, true, true, true, true, true, true, true, true, true, false, false, false, false] rfl rfl (one_of HT_.out zq23) zq45 (fun K hK => ?_)
    refine value_ (w1 := ?_) (v := ?_) (by rfl) rfl ?_ ?_
    rotate_left 2
    ·go_simp
     constructor
     ·rfl
     ·rfl
    refine hK.out _ _ ((blk_cell (blk_alloc HD3.out.blk _) 2).trans rfl) (fun hHeld => ?_)
    clear hK K
    refine norm_ (a' := ?_) ?_ ?_
    rotate_left
    ·show Act.put _ (some 31) _ = _
     simp only [Act.put, List.setIfInBounds_toArray, List.set_cons_zero, List.set_cons_succ, i64_w, i32_w]
     rfl
    refine one_ (i := 14) (N := some 32) #[true, true, true, true, true, true, true, true, true, true, true, true, true, true, true, false, false, false] rfl rfl (one_of HT_.out zq23) zq45 (fun K hK => ?_)
    refine Kd.R_append_step (Kd.int .u8) (w0 := w0) w0.heap.size (by rfl) (.tmp 22) (.tmp 31) 29 5 (.int .u8 0) 1 (by rfl) Tryd.underlying29 info5 rfl zq45 zq45 ov' xs (digF dg pa) [.int .u8 (digF dg pa)] (fun k => k ≠ g) (fun _ => False) (by rfl) (by rfl) rfl (fun _ hk => hk.elim) ?aF HD3.out.row HD3.out.below (below_size HD3.out.below) ?aL ?_
    (case aF => exact fun q hq => (by have := blk_lt HD3.out.blk; omega))
    (case aL => have := HF.out.2.2.1; omega)
    intro v1 w6 ho6 hb6 hg6 hat6
    obtain ⟨A1, c1, hv6, _, _⟩ := Kd.R_reads ho6
    subst hv6
    rw [List.length_append, List.length_singleton] at ho6
    have hB6 := mk0 (blk_grown HD3.out.blk hg6 (Kd.R_away HD3.out.row (fun _ hk => hk)))
    have O6 := mk0 ho6
    have L6 := mk0 hb6
    clear ho6 hb6 hg6 hat6
    refine hK.out _ _ ((blk_cell hB6.out 2).trans rfl) (fun hHeld => ?_)
    clear hK K
    refine norm_ (a' := ?_) ?_ ?_
    rotate_left
    ·show Act.put _ (some 32) _ = _
     simp only [Act.put, List.setIfInBounds_toArray, List.set_cons_zero, List.set_cons_succ, i64_w, i32_w]
     rfl
    refine pure_ (i := 15) (N := some 33) (v := ?_) (a' := ?_) #[true, true, true, true, true, true, true, true, true, true, true, true, true, true, true, true, false, false] rfl rfl (any_of HT_.out zq23) (fun _ _ _ h => h) (Or.inl ⟨by rfl, ?_⟩) ?_ ?_
    rotate_left
    ·intro w'
     go_simp
     with_reducible rfl
    rotate_left
    ·simp only [Act.put, List.setIfInBounds_toArray, List.set_cons_zero, List.set_cons_succ, i64_w, i32_w]
     rfl
    refine pure_ (i := 16) (N := some 34) (v := ?_) (a' := ?_) #[true, true, true, true, true, true, true, true, true, true, true, true, true, true, true, true, true, false] rfl rfl (any_of HT_.out zq23) (fun _ _ _ h => h) (Or.inl ⟨by rfl, ?_⟩) ?_ ?_
    rotate_left
    ·intro w'
     go_simp
     with_reducible rfl
    rotate_left
    ·simp only [Act.put, List.setIfInBounds_toArray, List.set_cons_zero, List.set_cons_succ, i64_w, i32_w]
     rfl
    refine last_ (i := 17) (N := none) #[true, true, true, true, true, true, true, true, true, true, true, true, true, true, true, true, true, true] rfl rfl (one_of HT_.out zq23) zq45 (fun K hK => ?_)
    have hc6 : w6.cell? ⟨g, 2, none⟩ = some ov' := (blk_cell hB6.out 2).trans rfl
    have hf6 := blk_frozen hB6.out 2
    refine skip_ (w1 := ?_) (by rfl) rfl ?_ ?_
    rotate_left
    ·go_simp
     rfl
    refine hK.out _ _ ?_
    clear hK K
    refine done_ (done_of HT_.out zq23) ?_
    try go_wp2
    go_roundg 1
    case measure => omega
    case rel =>
     refine ⟨pb, xs ++ [digF dg pa], _, zq13, (by omega), ⟨?_, HD3.out.bound.1, ?_, ?_⟩, ⟨HD3.out.put hB6.out O6.out L6.out⟩⟩
     ·have := HF.out.1; omega
     ·have := HF.out.2.2.1; rw [List.length_append, List.length_singleton]; omega
     ·exact HUN.out.symm.trans HF.out.2.2.2
   ·simp only [Int.reducePow, Nat.reducePow, Int.pow_zero, Int.ediv_one] at hdg
    have HDG := mk0 hdg
    clear hdg
    go_wp2_with fail
    have HD := mk0 H.out.drew
    refine start_ (n := 18) (S := fun w' => w'.cell? ⟨g, 2, none⟩ = some ov') (ds := [17]) #[false, false, false, false, false, false, false, false, false, false, false, false, false, false, false, false, false, false] zq23 rfl rfl ((blk_cell HD.out.blk 2).trans rfl) (fun hHeld => ?_); refine with_tabW unit.tab4 unit.bits4 (fun HT_ HW_ => ?_)
    refine pure_ (i := 0) (N := some 18) (v := ?_) (a' := ?_) #[true, false, false, false, false, false, false, false, false, false, false, false, false, false, false, false, false, false] rfl rfl (any_of HT_.out zq23) (fun _ _ _ h => h) (Or.inl ⟨by rfl, ?_⟩) ?_ ?_
    rotate_left
    ·intro w'
     go_simp
     with_reducible rfl
    rotate_left
    ·simp only [Act.put, List.setIfInBounds_toArray, List.set_cons_zero, List.set_cons_succ, i64_w, i32_w]
     rfl
    refine pure_ (i := 1) (N := some 19) (v := ?_) (a' := ?_) #[true, true, false, false, false, false, false, false, false, false, false, false, false, false, false, false, false, false] rfl rfl (any_of HT_.out zq23) (fun _ _ _ h => h) (Or.inl ⟨by rfl, ?_⟩) ?_ ?_
    rotate_left
    ·intro w'
     go_simp
     with_reducible rfl
    rotate_left
    ·simp only [Act.put, List.setIfInBounds_toArray, List.set_cons_zero, List.set_cons_succ, i64_w, i32_w]
     rfl
    refine pure_ (i := 2) (N := some 20) (v := ?_) (a' := ?_) #[true, true, true, false, false, false, false, false, false, false, false, false, false, false, false, false, false, false] rfl rfl (any_of HT_.out zq23) (fun _ _ _ h => h) (Or.inl ⟨by rfl, ?_⟩) ?_ ?_
    rotate_left
    ·intro w'
     go_simp
     with_reducible rfl
    rotate_left
    ·simp only [Act.put, List.setIfInBounds_toArray, List.set_cons_zero, List.set_cons_succ, i64_w, i32_w]
     rfl
    refine pure_ (i := 3) (N := some 21) (v := ?_) (a' := ?_) #[true, true, true, true, false, false, false, false, false, false, false, false, false, false, false, false, false, false] rfl rfl (any_of HT_.out zq23) (fun _ _ _ h => h) (Or.inl ⟨by rfl, ?_⟩) ?_ ?_
    rotate_left
    ·intro w'
     go_simp
     with_reducible rfl
    rotate_left
    ·simp only [Act.put, List.setIfInBounds_toArray, List.set_cons_zero, List.set_cons_succ, i64_w, i32_w]
     rfl
    refine pure_ (i := 5) (N := some 23) (v := ?_) (a' := ?_) #[true, true, true, true, false, true, false, false, false, false, false, false, false, false, false, false, false, false] rfl rfl (any_of HT_.out zq23) (fun _ _ _ h => h) (Or.inl ⟨by rfl, ?_⟩) ?_ ?_
    rotate_left
    ·intro w'
     go_simp
     with_reducible rfl
    rotate_left
    ·simp only [Act.put, List.setIfInBounds_toArray, List.set_cons_zero, List.set_cons_succ, i64_w, i32_w]
     rfl
    refine pure_ (i := 6) (N := some 24) (v := ?_) (a' := ?_) #[true, true, true, true, false, true, true, false, false, false, false, false, false, false, false, false, false, false] rfl rfl (any_of HT_.out zq23) (fun _ _ _ h => h) (Or.inl ⟨by rfl, ?_⟩) ?_ ?_
    rotate_left
    ·intro w'
     go_simp
     with_reducible rfl
    rotate_left
    ·simp only [Act.put, List.setIfInBounds_toArray, List.set_cons_zero, List.set_cons_succ, i64_w, i32_w]
     rfl
    refine pure_ (i := 7) (N := some 25) (v := ?_) (a' := ?_) #[true, true, true, true, false, true, true, true, false, false, false, false, false, false, false, false, false, false] rfl rfl (any_of HT_.out zq23) (fun _ _ _ h => h) (Or.inl ⟨by rfl, ?_⟩) ?_ ?_
    rotate_left
    ·intro w'
     go_simp
     with_reducible rfl
    rotate_left
    ·simp only [Act.put, List.setIfInBounds_toArray, List.set_cons_zero, List.set_cons_succ, i64_w, i32_w]
     rfl
    refine pure_ (i := 8) (N := some 26) (v := ?_) (a' := ?_) #[true, true, true, true, false, true, true, true, true, false, false, false, false, false, false, false, false, false] rfl rfl (any_of HT_.out zq23) (fun _ _ _ h => h) (Or.inl ⟨by rfl, ?_⟩) ?_ ?_
    rotate_left
    ·intro w'
     go_simp
     with_reducible rfl
    rotate_left
    ·simp only [Act.put, List.setIfInBounds_toArray, List.set_cons_zero, List.set_cons_succ, i64_w, i32_w]
     rfl
    refine pure_ (i := 9) (N := some 27) (v := ?_) (a' := ?_) #[true, true, true, true, false, true, true, true, true, true, false, false, false, false, false, false, false, false] rfl rfl (any_of HT_.out zq23) (fun _ _ _ h => h) (Or.inl ⟨by rfl, ?_⟩) ?_ ?_
    rotate_left
    ·intro w'
     go_simp
     with_reducible rfl
    rotate_left
    ·simp only [Act.put, List.setIfInBounds_toArray, List.set_cons_zero, List.set_cons_succ, i64_w, i32_w]
     rfl
    refine take_ (i := 4) (N := some 22) (v := ?_) (a' := ?_) #[true, true, true, true, true, true, true, true, true, true, false, false, false, false, false, false, false, false] rfl rfl (take_ofW HT_.out HW_.out zq23) (fun _ _ _ h => h) (Or.inl ⟨by rfl, ?_⟩) hHeld ?_ ?_
    rotate_left
    ·intro w' s0
     go_simp
     with_reducible rfl
    rotate_left
    ·simp only [Act.put, List.setIfInBounds_toArray, List.set_cons_zero, List.set_cons_succ, i64_w, i32_w]
     rfl
    refine one_ (i := 10) (N := some 28) #[true, true, true, true, true, true, true, true, true, true, true, false, false, false, false, false, false, false] rfl rfl (one_of HT_.out zq23) zq45 (fun K hK => ?_)
    refine goes_ Tryd.func43 zq23 rfl #[.pointer (some ⟨g, 0, none⟩), .int .i64 2] (by rfl) rfl rfl zq32 ?_
    with_reducible refine (HP.out _ HD.out).mono ?_
    rintro e w5 ⟨rfl, HD2'⟩
    have HD2 := mk0 HD2'
    clear HD2' HD
    refine ⟨_, rfl, ?_⟩
    refine hK.out _ _ ((blk_cell HD2.out.blk 2).trans rfl) (fun hHeld => ?_)
    clear hK K
    refine norm_ (a' := ?_) ?_ ?_
    rotate_left
    ·show Act.put _ (some 28) _ = _
     simp only [Act.put, List.setIfInBounds_toArray, List.set_cons_zero, List.set_cons_succ, i64_w, i32_w]
     rfl
    refine pure_ (i := 11) (N := some 29) (v := ?_) (a' := ?_) #[true, true, true, true, true, true, true, true, true, true, true, true, false, false, false, false, false, false] rfl rfl (any_of HT_.out zq23) (fun _ _ _ h => h) (Or.inl ⟨by rfl, ?_⟩) ?_ ?_
    rotate_left
    ·intro w'
     go_simp
     with_reducible rfl
    rotate_left
    ·simp only [Act.put, List.setIfInBounds_toArray, List.set_cons_zero, List.set_cons_succ, i64_w, i32_w]
     rfl
    refine one_ (i := 12) (N := some 30) #[true, true, true, true, true, true, true, true, true, true, true, true, true, false, false, false, false, false] rfl rfl (one_of HT_.out zq23) zq45 (fun K hK => ?_)
    refine goes_ Tryd.func76 zq23 rfl #[.int .i64 _, .bool (pa == 1)] (by rfl) rfl rfl zq32 ?_
    with_reducible refine (spec_digitOf.calls _ _ (digF dg pa) _ ?hdg).mono ?_
    (case hdg => exact dig_step _ _ _ (by omega) HDG.out)
    rintro e w7 ⟨rfl, hd0⟩
    have HD3 := mk0 (HD2.out.drawn0 hd0)
    clear hd0 HD2
    refine ⟨_, rfl, ?_⟩
    refine hK.out _ _ ((blk_cell HD3.out.blk 2).trans rfl) (fun hHeld => ?_)
    clear hK K
    refine norm_ (a' := ?_) ?_ ?_
    rotate_left
    ·show Act.put _ (some 30) _ = _
     simp only [Act.put, List.setIfInBounds_toArray, List.set_cons_zero, List.set_cons_succ, i64_w, i32_w]
     rfl
    refine one_ (i := 13) (N := some 31) #[true, true, true, true, true, true, true, true, true, true, true, true, true, true, false, false, false, false] rfl rfl (one_of HT_.out zq23) zq45 (fun K hK => ?_)
    refine value_ (w1 := ?_) (v := ?_) (by rfl) rfl ?_ ?_
    rotate_left 2
    ·go_simp
     constructor
     ·rfl
     ·rfl
    refine hK.out _ _ ((blk_cell (blk_alloc HD3.out.blk _) 2).trans rfl) (fun hHeld => ?_)
    clear hK K
    refine norm_ (a' := ?_) ?_ ?_
    rotate_left
    ·show Act.put _ (some 31) _ = _
     simp only [Act.put, List.setIfInBounds_toArray, List.set_cons_zero, List.set_cons_succ, i64_w, i32_w]
     rfl
    refine one_ (i := 14) (N := some 32) #[true, true, true, true, true, true, true, true, true, true, true, true, true, true, true, false, false, false] rfl rfl (one_of HT_.out zq23) zq45 (fun K hK => ?_)
    refine Kd.R_append_step (Kd.int .u8) (w0 := w0) w0.heap.size (by rfl) (.tmp 22) (.tmp 31) 29 5 (.int .u8 0) 1 (by rfl) Tryd.underlying29 info5 rfl zq45 zq45 ov' xs (digF dg pa) [.int .u8 (digF dg pa)] (fun k => k ≠ g) (fun _ => False) (by rfl) (by rfl) rfl (fun _ hk => hk.elim) ?aF HD3.out.row HD3.out.below (below_size HD3.out.below) ?aL ?_
    (case aF => exact fun q hq => (by have := blk_lt HD3.out.blk; omega))
    (case aL => have := HF.out.2.2.1; omega)
    intro v1 w6 ho6 hb6 hg6 hat6
    obtain ⟨A1, c1, hv6, _, _⟩ := Kd.R_reads ho6
    subst hv6
    rw [List.length_append, List.length_singleton] at ho6
    have hB6 := mk0 (blk_grown HD3.out.blk hg6 (Kd.R_away HD3.out.row (fun _ hk => hk)))
    have O6 := mk0 ho6
    have L6 := mk0 hb6
    clear ho6 hb6 hg6 hat6
    refine hK.out _ _ ((blk_cell hB6.out 2).trans rfl) (fun hHeld => ?_)
    clear hK K
    refine norm_ (a' := ?_) ?_ ?_
    rotate_left
    ·show Act.put _ (some 32) _ = _
     simp only [Act.put, List.setIfInBounds_toArray, List.set_cons_zero, List.set_cons_succ, i64_w, i32_w]
     rfl
    refine pure_ (i := 15) (N := some 33) (v := ?_) (a' := ?_) #[true, true, true, true, true, true, true, true, true, true, true, true, true, true, true, true, false, false] rfl rfl (any_of HT_.out zq23) (fun _ _ _ h => h) (Or.inl ⟨by rfl, ?_⟩) ?_ ?_
    rotate_left
    ·intro w'
     go_simp
     with_reducible rfl
    rotate_left
    ·simp only [Act.put, List.setIfInBounds_toArray, List.set_cons_zero, List.set_cons_succ, i64_w, i32_w]
     rfl
    refine pure_ (i := 16) (N := some 34) (v := ?_) (a' := ?_) #[true, true, true, true, true, true, true, true, true, true, true, true, true, true, true, true, true, false] rfl rfl (any_of HT_.out zq23) (fun _ _ _ h => h) (Or.inl ⟨by rfl, ?_⟩) ?_ ?_
    rotate_left
    ·intro w'
     go_simp
     with_reducible rfl
    rotate_left
    ·simp only [Act.put, List.setIfInBounds_toArray, List.set_cons_zero, List.set_cons_succ, i64_w, i32_w]
     rfl
    refine last_ (i := 17) (N := none) #[true, true, true, true, true, true, true, true, true, true, true, true, true, true, true, true, true, true] rfl rfl (one_of HT_.out zq23) zq45 (fun K hK => ?_)
    have hc6 : w6.cell? ⟨g, 2, none⟩ = some ov' := (blk_cell hB6.out 2).trans rfl
    have hf6 := blk_frozen hB6.out 2
    refine skip_ (w1 := ?_) (by rfl) rfl ?_ ?_
    rotate_left
    ·go_simp
     rfl
    refine hK.out _ _ ?_
    clear hK K
    refine done_ (done_of HT_.out zq23) ?_
    try go_wp2
    go_roundg 2
    case measure => omega
    case rel =>
     refine ⟨pb, xs ++ [digF dg pa], _, zq13, (by omega), ⟨?_, HD3.out.bound.1, ?_, ?_⟩, ⟨HD3.out.put hB6.out O6.out L6.out⟩⟩
     ·have := HF.out.1; omega
     ·have := HF.out.2.2.1; rw [List.length_append, List.length_singleton]; omega
     ·exact HUN.out.symm.trans HF.out.2.2.2
   ·simp only [Int.reducePow, Nat.reducePow, Int.pow_zero, Int.ediv_one] at hdg
    have HDG := mk0 hdg
    clear hdg
    go_wp2_with fail
    have HD := mk0 H.out.drew
    refine start_ (n := 18) (S := fun w' => w'.cell? ⟨g, 2, none⟩ = some ov') (ds := [17]) #[false, false, false, false, false, false, false, false, false, false, false, false, false, false, false, false, false, false] zq23 rfl rfl ((blk_cell HD.out.blk 2).trans rfl) (fun hHeld => ?_); refine with_tabW unit.tab4 unit.bits4 (fun HT_ HW_ => ?_)
    refine pure_ (i := 0) (N := some 18) (v := ?_) (a' := ?_) #[true, false, false, false, false, false, false, false, false, false, false, false, false, false, false, false, false, false] rfl rfl (any_of HT_.out zq23) (fun _ _ _ h => h) (Or.inl ⟨by rfl, ?_⟩) ?_ ?_
    rotate_left
    ·intro w'
     go_simp
     with_reducible rfl
    rotate_left
    ·simp only [Act.put, List.setIfInBounds_toArray, List.set_cons_zero, List.set_cons_succ, i64_w, i32_w]
     rfl
    refine pure_ (i := 1) (N := some 19) (v := ?_) (a' := ?_) #[true, true, false, false, false, false, false, false, false, false, false, false, false, false, false, false, false, false] rfl rfl (any_of HT_.out zq23) (fun _ _ _ h => h) (Or.inl ⟨by rfl, ?_⟩) ?_ ?_
    rotate_left
    ·intro w'
     go_simp
     with_reducible rfl
    rotate_left
    ·simp only [Act.put, List.setIfInBounds_toArray, List.set_cons_zero, List.set_cons_succ, i64_w, i32_w]
     rfl
    refine pure_ (i := 2) (N := some 20) (v := ?_) (a' := ?_) #[true, true, true, false, false, false, false, false, false, false, false, false, false, false, false, false, false, false] rfl rfl (any_of HT_.out zq23) (fun _ _ _ h => h) (Or.inl ⟨by rfl, ?_⟩) ?_ ?_
    rotate_left
    ·intro w'
     go_simp
     with_reducible rfl
    rotate_left
    ·simp only [Act.put, List.setIfInBounds_toArray, List.set_cons_zero, List.set_cons_succ, i64_w, i32_w]
     rfl
    refine pure_ (i := 3) (N := some 21) (v := ?_) (a' := ?_) #[true, true, true, true, false, false, false, false, false, false, false, false, false, false, false, false, false, false] rfl rfl (any_of HT_.out zq23) (fun _ _ _ h => h) (Or.inl ⟨by rfl, ?_⟩) ?_ ?_
    rotate_left
    ·intro w'
     go_simp
     with_reducible rfl
    rotate_left
    ·simp only [Act.put, List.setIfInBounds_toArray, List.set_cons_zero, List.set_cons_succ, i64_w, i32_w]
     rfl
    refine pure_ (i := 5) (N := some 23) (v := ?_) (a' := ?_) #[true, true, true, true, false, true, false, false, false, false, false, false, false, false, false, false, false, false] rfl rfl (any_of HT_.out zq23) (fun _ _ _ h => h) (Or.inl ⟨by rfl, ?_⟩) ?_ ?_
    rotate_left
    ·intro w'
     go_simp
     with_reducible rfl
    rotate_left
    ·simp only [Act.put, List.setIfInBounds_toArray, List.set_cons_zero, List.set_cons_succ, i64_w, i32_w]
     rfl
    refine pure_ (i := 6) (N := some 24) (v := ?_) (a' := ?_) #[true, true, true, true, false, true, true, false, false, false, false, false, false, false, false, false, false, false] rfl rfl (any_of HT_.out zq23) (fun _ _ _ h => h) (Or.inl ⟨by rfl, ?_⟩) ?_ ?_
    rotate_left
    ·intro w'
     go_simp
     with_reducible rfl
    rotate_left
    ·simp only [Act.put, List.setIfInBounds_toArray, List.set_cons_zero, List.set_cons_succ, i64_w, i32_w]
     rfl
    refine pure_ (i := 7) (N := some 25) (v := ?_) (a' := ?_) #[true, true, true, true, false, true, true, true, false, false, false, false, false, false, false, false, false, false] rfl rfl (any_of HT_.out zq23) (fun _ _ _ h => h) (Or.inl ⟨by rfl, ?_⟩) ?_ ?_
    rotate_left
    ·intro w'
     go_simp
     with_reducible rfl
    rotate_left
    ·simp only [Act.put, List.setIfInBounds_toArray, List.set_cons_zero, List.set_cons_succ, i64_w, i32_w]
     rfl
    refine pure_ (i := 8) (N := some 26) (v := ?_) (a' := ?_) #[true, true, true, true, false, true, true, true, true, false, false, false, false, false, false, false, false, false] rfl rfl (any_of HT_.out zq23) (fun _ _ _ h => h) (Or.inl ⟨by rfl, ?_⟩) ?_ ?_
    rotate_left
    ·intro w'
     go_simp
     with_reducible rfl
    rotate_left
    ·simp only [Act.put, List.setIfInBounds_toArray, List.set_cons_zero, List.set_cons_succ, i64_w, i32_w]
     rfl
    refine pure_ (i := 9) (N := some 27) (v := ?_) (a' := ?_) #[true, true, true, true, false, true, true, true, true, true, false, false, false, false, false, false, false, false] rfl rfl (any_of HT_.out zq23) (fun _ _ _ h => h) (Or.inl ⟨by rfl, ?_⟩) ?_ ?_
    rotate_left
    ·intro w'
     go_simp
     with_reducible rfl
    rotate_left
    ·simp only [Act.put, List.setIfInBounds_toArray, List.set_cons_zero, List.set_cons_succ, i64_w, i32_w]
     rfl
    refine take_ (i := 4) (N := some 22) (v := ?_) (a' := ?_) #[true, true, true, true, true, true, true, true, true, true, false, false, false, false, false, false, false, false] rfl rfl (take_ofW HT_.out HW_.out zq23) (fun _ _ _ h => h) (Or.inl ⟨by rfl, ?_⟩) hHeld ?_ ?_
    rotate_left
    ·intro w' s0
     go_simp
     with_reducible rfl
    rotate_left
    ·simp only [Act.put, List.setIfInBounds_toArray, List.set_cons_zero, List.set_cons_succ, i64_w, i32_w]
     rfl
    refine one_ (i := 10) (N := some 28) #[true, true, true, true, true, true, true, true, true, true, true, false, false, false, false, false, false, false] rfl rfl (one_of HT_.out zq23) zq45 (fun K hK => ?_)
    refine goes_ Tryd.func43 zq23 rfl #[.pointer (some ⟨g, 0, none⟩), .int .i64 2] (by rfl) rfl rfl zq32 ?_
    with_reducible refine (HP.out _ HD.out).mono ?_
    rintro e w5 ⟨rfl, HD2'⟩
    have HD2 := mk0 HD2'
    clear HD2' HD
    refine ⟨_, rfl, ?_⟩
    refine hK.out _ _ ((blk_cell HD2.out.blk 2).trans rfl) (fun hHeld => ?_)
    clear hK K
    refine norm_ (a' := ?_) ?_ ?_
    rotate_left
    ·show Act.put _ (some 28) _ = _
     simp only [Act.put, List.setIfInBounds_toArray, List.set_cons_zero, List.set_cons_succ, i64_w, i32_w]
     rfl
    refine pure_ (i := 11) (N := some 29) (v := ?_) (a' := ?_) #[true, true, true, true, true, true, true, true, true, true, true, true, false, false, false, false, false, false] rfl rfl (any_of HT_.out zq23) (fun _ _ _ h => h) (Or.inl ⟨by rfl, ?_⟩) ?_ ?_
    rotate_left
    ·intro w'
     go_simp
     with_reducible rfl
    rotate_left
    ·simp only [Act.put, List.setIfInBounds_toArray, List.set_cons_zero, List.set_cons_succ, i64_w, i32_w]
     rfl
    refine one_ (i := 12) (N := some 30) #[true, true, true, true, true, true, true, true, true, true, true, true, true, false, false, false, false, false] rfl rfl (one_of HT_.out zq23) zq45 (fun K hK => ?_)
    refine goes_ Tryd.func76 zq23 rfl #[.int .i64 _, .bool (pa == 1)] (by rfl) rfl rfl zq32 ?_
    with_reducible refine (spec_digitOf.calls _ _ (digF dg pa) _ ?hdg).mono ?_
    (case hdg => exact dig_step _ _ _ (by omega) HDG.out)
    rintro e w7 ⟨rfl, hd0⟩
    have HD3 := mk0 (HD2.out.drawn0 hd0)
    clear hd0 HD2
    refine ⟨_, rfl, ?_⟩
    refine hK.out _ _ ((blk_cell HD3.out.blk 2).trans rfl) (fun hHeld => ?_)
    clear hK K
    refine norm_ (a' := ?_) ?_ ?_
    rotate_left
    ·show Act.put _ (some 30) _ = _
     simp only [Act.put, List.setIfInBounds_toArray, List.set_cons_zero, List.set_cons_succ, i64_w, i32_w]
     rfl
    refine one_ (i := 13) (N := some 31) #[true, true, true, true, true, true, true, true, true, true, true, true, true, true, false, false, false, false] rfl rfl (one_of HT_.out zq23) zq45 (fun K hK => ?_)
    refine value_ (w1 := ?_) (v := ?_) (by rfl) rfl ?_ ?_
    rotate_left 2
    ·go_simp
     constructor
     ·rfl
     ·rfl
    refine hK.out _ _ ((blk_cell (blk_alloc HD3.out.blk _) 2).trans rfl) (fun hHeld => ?_)
    clear hK K
    refine norm_ (a' := ?_) ?_ ?_
    rotate_left
    ·show Act.put _ (some 31) _ = _
     simp only [Act.put, List.setIfInBounds_toArray, List.set_cons_zero, List.set_cons_succ, i64_w, i32_w]
     rfl
    refine one_ (i := 14) (N := some 32) #[true, true, true, true, true, true, true, true, true, true, true, true, true, true, true, false, false, false] rfl rfl (one_of HT_.out zq23) zq45 (fun K hK => ?_)
    refine Kd.R_append_step (Kd.int .u8) (w0 := w0) w0.heap.size (by rfl) (.tmp 22) (.tmp 31) 29 5 (.int .u8 0) 1 (by rfl) Tryd.underlying29 info5 rfl zq45 zq45 ov' xs (digF dg pa) [.int .u8 (digF dg pa)] (fun k => k ≠ g) (fun _ => False) (by rfl) (by rfl) rfl (fun _ hk => hk.elim) ?aF HD3.out.row HD3.out.below (below_size HD3.out.below) ?aL ?_
    (case aF => exact fun q hq => (by have := blk_lt HD3.out.blk; omega))
    (case aL => have := HF.out.2.2.1; omega)
    intro v1 w6 ho6 hb6 hg6 hat6
    obtain ⟨A1, c1, hv6, _, _⟩ := Kd.R_reads ho6
    subst hv6
    rw [List.length_append, List.length_singleton] at ho6
    have hB6 := mk0 (blk_grown HD3.out.blk hg6 (Kd.R_away HD3.out.row (fun _ hk => hk)))
    have O6 := mk0 ho6
    have L6 := mk0 hb6
    clear ho6 hb6 hg6 hat6
    refine hK.out _ _ ((blk_cell hB6.out 2).trans rfl) (fun hHeld => ?_)
    clear hK K
    refine norm_ (a' := ?_) ?_ ?_
    rotate_left
    ·show Act.put _ (some 32) _ = _
     simp only [Act.put, List.setIfInBounds_toArray, List.set_cons_zero, List.set_cons_succ, i64_w, i32_w]
     rfl
    refine pure_ (i := 15) (N := some 33) (v := ?_) (a' := ?_) #[true, true, true, true, true, true, true, true, true, true, true, true, true, true, true, true, false, false] rfl rfl (any_of HT_.out zq23) (fun _ _ _ h => h) (Or.inl ⟨by rfl, ?_⟩) ?_ ?_
    rotate_left
    ·intro w'
     go_simp
     with_reducible rfl
    rotate_left
    ·simp only [Act.put, List.setIfInBounds_toArray, List.set_cons_zero, List.set_cons_succ, i64_w, i32_w]
     rfl
    refine pure_ (i := 16) (N := some 34) (v := ?_) (a' := ?_) #[true, true, true, true, true, true, true, true, true, true, true, true, true, true, true, true, true, false] rfl rfl (any_of HT_.out zq23) (fun _ _ _ h => h) (Or.inl ⟨by rfl, ?_⟩) ?_ ?_
    rotate_left
    ·intro w'
     go_simp
     with_reducible rfl
    rotate_left
    ·simp only [Act.put, List.setIfInBounds_toArray, List.set_cons_zero, List.set_cons_succ, i64_w, i32_w]
     rfl
    refine last_ (i := 17) (N := none) #[true, true, true, true, true, true, true, true, true, true, true, true, true, true, true, true, true, true] rfl rfl (one_of HT_.out zq23) zq45 (fun K hK => ?_)
    have hc6 : w6.cell? ⟨g, 2, none⟩ = some ov' := (blk_cell hB6.out 2).trans rfl
    have hf6 := blk_frozen hB6.out 2
    refine skip_ (w1 := ?_) (by rfl) rfl ?_ ?_
    rotate_left
    ·go_simp
     rfl
    refine hK.out _ _ ?_
    clear hK K
    refine done_ (done_of HT_.out zq23) ?_
    try go_wp2
    go_roundg 3
    case measure => omega
    case rel =>
     refine ⟨pb, xs ++ [digF dg pa], _, zq13, (by omega), ⟨?_, HD3.out.bound.1, ?_, ?_⟩, ⟨HD3.out.put hB6.out O6.out L6.out⟩⟩
     ·have := HF.out.1; omega
     ·have := HF.out.2.2.1; rw [List.length_append, List.length_singleton]; omega
     ·exact HUN.out.symm.trans HF.out.2.2.2
theorem pick_used (code : List Int) (used m : Int) : used ≤ (pickF code used m).2 ∧ (pickF code used m).2 ≤ used + 1 := by
 unfold pickF
 split <;> simp <;> omega
theorem unitF_bounds (code : List Int) (m : Int) : ∀ (k : Nat) (used : Int) (out : List Int), used ≤ (unitF code m k used out).1 ∧ (unitF code m k used out).1 ≤ used + k ∧ (unitF code m k used out).2.length = out.length + k
 | 0, used, out => by simp [unitF]
 | k + 1, used, out => by
  have h := unitF_bounds code m k (pickF code used 2).2 (out ++ [digF (m / 16 ^ k % 16) (pickF code used 2).1])
  have h2 := pick_used code used 2
  simp only [unitF, List.length_append, List.length_singleton] at h ⊢
  omega
theorem unit5F_bounds (code : List Int) (m used : Int) (out : List Int) : used ≤ (unit5F code m used out).1 ∧ (unit5F code m used out).1 ≤ used + 4 ∧ (unit5F code m used out).2.length = out.length + 6 := by
 have h := unitF_bounds code m 4 used (out ++ [92, 117])
 unfold unit5F
 simp only [List.length_append, List.length_cons, List.length_nil] at h ⊢
 omega
def escF (code : List Int) (c used : Int) (out : List Int) : Int × List Int :=
  if 65536 ≤ c then unit5F code (56320 + (c - 65536) % 1024) (unit5F code (55296 + (c - 65536) / 1024) used out).1 (unit5F code (55296 + (c - 65536) / 1024) used out).2
  else unit5F code c used out
set_option maxHeartbeats 8000000 in
set_option maxRecDepth 100000 in
theorem escape_calls (w0 w : World) (g : Nat) (A : Option Addr) (n c : Nat) (code : List Int) (used : Int) (ov : Value) (out : List Int) (m : Int) (hm : 0 ≤ m ∧ m ≤ 1114111) (h : DS w0 w g A n c code used ov out) (hu : used + 20 < 1099511627776) (ho : out.length + 10 ≤ 1099511627776) :
 Calls Tryd.prog 65 #[.pointer (some ⟨g, 0, none⟩), .int .i64 m] w fun e w' => e = .returned (.tuple #[]) ∧ ∃ ov', DS w0 w' g A n c code (escF code m used out).1 ov' (escF code m used out).2 := by
 have H := mk0 h
 clear h
 by_cases hc : 65536 ≤ m
 rotate_left
 ·have he : escF code m used out = unit5F code m used out := by unfold escF; rw [if_neg hc]
  rw [he]
  clear he
  have U1 := mk0 (unit_calls w0 w g A n c code used ov out m (by omega) H.out (by omega) (by omega))
  generalize unit5F code m used out = p1 at U1 ⊢
  go_enter Tryd.func65, Tryd.ntmps65
  go_wp2_with (first | (go_at_call 75; (with_reducible refine (U1.out).mono ?_); rintro e w5 ⟨rfl, ov1, HD2⟩))
  go_end0
  exact ⟨rfl, ov1, HD2⟩
 have hb := unit5F_bounds code (55296 + (m - 65536) / 1024) used out
 have he : escF code m used out = unit5F code (56320 + (m - 65536) % 1024) (unit5F code (55296 + (m - 65536) / 1024) used out).1 (unit5F code (55296 + (m - 65536) / 1024) used out).2 := by unfold escF; rw [if_pos hc]
 rw [he]
 have h1 : 0 ≤ 55296 + (m - 65536) / 1024 ∧ 55296 + (m - 65536) / 1024 ≤ 65535 := by omega
 have h2 : 0 ≤ 56320 + (m - 65536) % 1024 ∧ 56320 + (m - 65536) % 1024 ≤ 65535 := by omega
 clear he
 have U1 := mk0 fun W (hW : DS w0 W g A n c code used ov out) => unit_calls w0 W g A n c code used ov out _ h1 hW (by omega) (by omega)
 generalize unit5F code (55296 + (m - 65536) / 1024) used out = p1 at U1 hb ⊢
 obtain ⟨u1, o1⟩ := p1
 simp only at hb
 have U2 := mk0 fun ov1 W (hW : DS w0 W g A n c code u1 ov1 o1) => unit_calls w0 W g A n c code u1 ov1 o1 _ h2 hW (by omega) (by omega)
 clear h1 h2
 generalize unit5F code (56320 + (m - 65536) % 1024) u1 o1 = p2 at U2 ⊢
 go_enter Tryd.func65, Tryd.ntmps65
 go_wp2_with (first | (go_at_call 75; (with_reducible refine (U1.out _ (by first | exact H.out | exact H.out.drewN _)).mono ?_); rintro e w5 ⟨rfl, ov1, HD2⟩; clear U1; have K1 := mk0 HD2; clear HD2) | (go_at_call 75; (with_reducible refine (U2.out _ _ (by first | exact K1.out | exact K1.out.drewN _)).mono ?_); rintro e w6 ⟨rfl, ov2, HD3⟩))
 ((try simp only [Exit.inBlock, Exit.then]); refine bodyPost_ret (results_none rfl _ _ _) rfl ?_)
 exact ⟨rfl, ov2, HD3⟩
theorem escF_bounds (code : List Int) (m used : Int) (out : List Int) : used ≤ (escF code m used out).1 ∧ (escF code m used out).1 ≤ used + 8 ∧ (escF code m used out).2.length ≤ out.length + 12 := by
 unfold escF
 split
 ·have h1 := unit5F_bounds code (55296 + (m - 65536) / 1024) used out
  have h2 := unit5F_bounds code (56320 + (m - 65536) % 1024) (unit5F code (55296 + (m - 65536) / 1024) used out).1 (unit5F code (55296 + (m - 65536) / 1024) used out).2
  omega
 ·have h1 := unit5F_bounds code m used out
  omega
def mustB (x : Int) : Bool := decide (x < 32 ∨ x = 34 ∨ x = 92)
def stepF (code : List Int) (must ok : Bool) (l c : Int) (raw : List Int) (used : Int) (out : List Int) : Int × List Int :=
  if (pickF code used 4).1 = 3 ∨ (must = true ∧ ok = false) then escF code c (pickF code used 4).2 out
  else if ok = true ∧ (must = true ∨ (pickF code used 4).1 = 2) then ((pickF code used 4).2, out ++ [92, l])
  else ((pickF code used 4).2, out ++ raw)
def quL (code : List Int) (s : ByteArray) : Nat → Int → Int → List Int → Option (Int × List Int)
  | 0, _, _, _ => none
  | k + 1, i, used, out => if i < (s.size : Int) then
      (spec_Character.f k s i).bind fun t => if t.2.2 = true ∧ 0 ≤ t.1 ∧ t.1 ≤ 1114111 ∧ 1 ≤ t.2.1 ∧ t.2.1 ≤ 4 ∧ i + t.2.1 ≤ (s.size : Int) then
        (spec_shortOf.f (bt s i)).bind fun q => quL code s k (i + t.2.1) (stepF code (mustB (bt s i)) q.2 q.1 t.1 (bytesOf (s.extract i.toNat (i + t.2.1).toNat)) used out).1 (stepF code (mustB (bt s i)) q.2 q.1 t.1 (bytesOf (s.extract i.toNat (i + t.2.1).toNat)) used out).2
      else none
    else some (used, out)
def quoted.T7 : Bool × List (List Nat × List Nat) := (true, [([], []), ([], []), ([1], [1]), ([2], [2]), ([3], [3]), ([], []), ([], []), ([], []), ([], []), ([7, 8], [7, 8]), ([5, 6, 9], [5, 6, 9]), ([4, 10], [4, 10]), ([0, 0, 1, 2, 3, 4, 5, 6, 7, 8, 9, 10, 11], [0]), ([12, 0, 1, 2, 3, 4, 5, 6, 7, 8, 9, 10, 11], [12]), ([13, 11, 11, 0, 1, 2, 3, 4, 5, 6, 7, 8, 9, 10, 11], [11, 13])])
def quoted.B7 : List Nat := [0, 0, 2, 6, 14, 0, 0, 0, 0, 384, 992, 2046, 4095, 8191, 16383]
theorem quoted.tab7 : rtab .any (opsOf Tryd.f45 7) = quoted.T7 := by kernel_rfl
theorem quoted.bits7 : waitsOk quoted.T7.2 quoted.B7 = true := by kernel_rfl
set_option maxHeartbeats 8000000 in
set_option maxRecDepth 100000 in
theorem quoted_calls (w0 w : World) (g : Nat) (A : Option Addr) (n c' : Nat) (code : List Int) (used : Int) (ov : Value) (out : List Int) (s : ByteArray) (k0 : Nat) (ru : Int) (ro : List Int) (hs : s.size ≤ 2147483647) (h : DS w0 w g A n c' code used ov out) (hu : used + 20 * s.size + 20 < 1099511627776) (ho : (out.length : Int) + 20 * s.size + 20 ≤ 1099511627776) (hq : quL code s k0 0 used (out ++ [34]) = some (ru, ro)) :
 Calls Tryd.prog 45 #[.pointer (some ⟨g, 0, none⟩), .string s] w fun e w' => e = .returned (.tuple #[]) ∧ ∃ ov', DS w0 w' g A n c' code ru ov' (ro ++ [34]) := by
 have H := mk0 h
 have hc2 : w.cell? ⟨g, 2, none⟩ = some ov := (blk_cell h.blk 2).trans rfl
 have hf2 : w.frozen? ⟨g, 2, none⟩ = false := blk_frozen h.blk 2
 have HQ := mk0 hq
 clear h hq
 go_enter Tryd.func45, Tryd.ntmps45
 go_wp2_with (first | ((with_reducible refine gate_builtin (b := .append) (xs := #[.tmp 16, .tmp 17]) rfl ?_); at_builtin; refine Dr_append_lits (w0 := w0) w0.heap.size rfl (.tmp 16) (.tmp 17) 29 5 .u8 1 rfl Tryd.underlying29 info5 zq45 ov out [34] #[.int .u8 34] 1 rfl rfl (fun k => k ≠ g) rfl rfl ?aF ?aO H.out.below (below_size H.out.below) ?aL ?_; (case aF => exact fun q hq => (by have := blk_lt H.out.blk; omega)); (case aO => exact H.out.row); (case aL => exact zq56); intro v1 w6 ho6 hb6 hg6 hat6; obtain ⟨A1, c1, hv6, _, _⟩ := Kd.R_reads ho6; subst hv6; rw [List.length_append, show ([34] : List Int).length = 1 from rfl] at ho6; have hB6 := mk0 (blk_grown H.out.blk hg6 (Kd.R_away H.out.row (fun _ hk => hk))); have O6 := mk0 ho6; have L6 := mk0 hb6; clear ho6 hb6 hg6 hat6; have hc6 : w6.cell? ⟨g, 2, none⟩ = some ov := (blk_cell hB6.out 2).trans rfl; have hf6 := blk_frozen hB6.out 2))
 have HE := mk0 (H.out.put hB6.out O6.out L6.out)
 clear H hc2 hf2 hc6 hf6 hB6 O6 L6
 go_loopg [4] k0 (fun kq v4 w' => ∃ (i u : Int) (xs : List Int) (ov' : Value), v4 = .int .i64 i ∧ Aside0 (kq ≤ k0) ∧ (0 ≤ i ∧ i ≤ (s.size : Int)) ∧ Aside0 (u ≤ used + 20 * i ∧ 0 ≤ u ∧ (xs.length : Int) ≤ out.length + 1 + 20 * i) ∧ Aside0 (quL code s kq i u xs = some (ru, ro)) ∧ Aside0 (DS w0 w' g A n c' code u ov' xs))
 case atStart => exact ⟨0, used, out ++ [34], _, rfl, ⟨Nat.le_refl _⟩, by omega, ⟨by have := HE.out.bound; simp only [List.length_append, List.length_cons, List.length_nil]; omega⟩, HQ, HE⟩
 case round =>
  clear HE HQ
  obtain ⟨i, u, xs, ov', rfl, HK1, hi, HF, HQ, H⟩ := hrel
  cases gk with
  | zero => exact absurd HQ.out (by simp [quL])
  | succ k =>
   have hc2 : wr.cell? ⟨g, 2, none⟩ = some ov' := (blk_cell H.out.blk 2).trans rfl
   have hf2 : wr.frozen? ⟨g, 2, none⟩ = false := blk_frozen H.out.blk 2
   have hbd := HF.out
   have hH := HQ.out
   clear HQ
   unfold quL at hH
   by_cases hlt : i < (s.size : Int)
   rotate_left
   ·rw [if_neg hlt] at hH
    obtain ⟨rfl, rfl⟩ := Prod.mk.inj (Option.some.inj hH)
    clear hH
    go_wp2_with (first | ((with_reducible refine gate_builtin (b := .append) (xs := #[.tmp 125, .tmp 126]) rfl ?_); at_builtin; refine Dr_append_lits (w0 := w0) w0.heap.size rfl (.tmp 125) (.tmp 126) 29 5 .u8 1 rfl Tryd.underlying29 info5 zq45 ov' xs [34] #[.int .u8 34] 1 rfl rfl (fun k => k ≠ g) rfl rfl ?aF ?aO H.out.below (below_size H.out.below) ?aL ?_; (case aF => exact fun q hq => (by have := blk_lt H.out.blk; omega)); (case aO => exact H.out.row); (case aL => exact zq56); intro v1 w6 ho6 hb6 hg6 hat6; obtain ⟨A1, c1, hv6, _, _⟩ := Kd.R_reads ho6; subst hv6; rw [List.length_append, show ([34] : List Int).length = 1 from rfl] at ho6; have hB6 := mk0 (blk_grown H.out.blk hg6 (Kd.R_away H.out.row (fun _ hk => hk))); have O6 := mk0 ho6; have L6 := mk0 hb6; clear ho6 hb6 hg6 hat6; have hc6 : w6.cell? ⟨g, 2, none⟩ = some ov' := (blk_cell hB6.out 2).trans rfl; have hf6 := blk_frozen hB6.out 2))
    have HE := mk0 (H.out.put hB6.out O6.out L6.out)
    go_end0
    exact ⟨rfl, _, HE.out⟩
   rw [if_pos hlt] at hH
   replace hH := Option.bind_eq_some_iff.mp hH
   obtain ⟨⟨c, sz, vb⟩, hA3, hH⟩ := hH
   simp only at hH
   split at hH
   case isFalse => cases hH
   case isTrue hg =>
   obtain ⟨rfl, hc0, hc1, hsz0, hsz1, hend⟩ := hg
   replace hH := Option.bind_eq_some_iff.mp hH
   obtain ⟨⟨l, okb⟩, hB3, hH⟩ := hH
   simp only at hH
   have hz := bt_range s i
   have hmb : mustB (bt s i) = decide (bt s i < 32 ∨ bt s i = 34 ∨ bt s i = 92) := rfl
   have A3 := mk0 hA3
   have B3 := mk0 hB3
   clear hA3 hB3
   have hst : stepF code (mustB (bt s i)) okb l c (bytesOf (s.extract i.toNat (i + sz).toNat)) u xs = stepF code (mustB (bt s i)) okb l c (bytesOf (s.extract i.toNat (i + sz).toNat)) u xs := rfl
   conv at hst => rhs; unfold stepF
   have hp := pick_range H.out.u8 u 4 zq45
   have hp2 : (pickF code u 4).2 ≤ u + 1 := by unfold pickF; split <;> simp; omega
   have hpk := fun W (hW : DS w0 W g A n c' code u ov' xs) => pick_calls w0 W g A n c' code u ov' xs 4 zq45 hW (by omega)
   generalize stepF code (mustB (bt s i)) okb l c (bytesOf (s.extract i.toNat (i + sz).toNat)) u xs = st at hst hH
   generalize pickF code u 4 = p at hp hp2 hst hpk
   obtain ⟨pa, pb⟩ := p
   obtain ⟨su, so⟩ := st
   simp only at hp hp2 hH
   have HP := mk0 hpk
   have HQ := mk0 hH
   clear hpk hH
   have HST := mk0 hst
   clear hst
   have hx6 := bt_at s i
   have p6 : (0 ≤ i) = True := eq_true hi.1
   have q6 : (i < (s.size : Int)) = True := eq_true hlt
   by_cases hm1 : bt s i < 32
   ·skip
    cases okb with
    | false =>
     by_cases h3 : pa = 3
     ·subst h3
      have hm : mustB (bt s i) = true := by rw [hmb]; exact decide_eq_true (by omega)
      have hst := HST.out
      clear HST
      rw [hm] at hst
      clear hm hmb
      rw [if_pos zq50] at hst
      have hbe := escF_bounds code c pb xs
      rw [← hst] at hbe
      simp only at hbe
      have hex := fun W (hW : DS w0 W g A n c' code pb ov' xs) => escape_calls w0 W g A n c' code pb ov' xs c ⟨hc0, hc1⟩ hW (by omega) (by omega)
      rw [← hst] at hex
      clear hst
      have HE := mk0 hex
      clear hex
      go_wp2_with (first | (go_at_call 25; (with_reducible refine (spec_Character.calls k s i c sz true _ A3.out).mono ?_); rintro e w1 ⟨rfl, hd1⟩; have D1 := mk0 (H.out.drawn0 hd1); clear hd1 H) | (go_at_call 64; (with_reducible refine (spec_shortOf.calls _ l _ _ B3.out).mono ?_); rintro e w2 ⟨rfl, hd2⟩; have D2 := mk0 (D1.out.drawn0 hd2); clear hd2 D1) | (go_at_call 43; (with_reducible refine (HP.out _ zq38).mono ?_); rintro e w3 ⟨rfl, hds⟩; have D3 := mk0 hds; clear hds D2; have hc3 : w3.cell? ⟨g, 2, none⟩ = some ov' := (blk_cell D3.out.blk 2).trans rfl; have hf3 := blk_frozen D3.out.blk 2) | (go_at_call 65; (with_reducible refine (HE.out _ zq54).mono ?_); rintro e w4 ⟨rfl, ov4, hds⟩; have D4 := mk0 hds; clear hds D3))
      go_roundg k
      case measure => have := HK1.out; omega
      case rel => exact ⟨i + sz, su, so, ov4, zq13, ⟨by have := HK1.out; omega⟩, by omega, ⟨by have := D4.out.bound; have := HF.out; omega⟩, HQ, D4⟩
     skip
     have hm : mustB (bt s i) = true := by rw [hmb]; exact decide_eq_true (by omega)
     have hst := HST.out
     clear HST
     rw [hm] at hst
     clear hm hmb
     have hb3 : (pa == 3) = false := by simp [h3]
     have hd3 : decide (pa = 3) = false := decide_eq_false h3
     rw [if_pos zq50] at hst
     have hbe := escF_bounds code c pb xs
     rw [← hst] at hbe
     simp only at hbe
     have hex := fun W (hW : DS w0 W g A n c' code pb ov' xs) => escape_calls w0 W g A n c' code pb ov' xs c ⟨hc0, hc1⟩ hW (by omega) (by omega)
     rw [← hst] at hex
     clear hst
     have HE := mk0 hex
     clear hex
     go_wp2_with (first | (go_at_call 25; (with_reducible refine (spec_Character.calls k s i c sz true _ A3.out).mono ?_); rintro e w1 ⟨rfl, hd1⟩; have D1 := mk0 (H.out.drawn0 hd1); clear hd1 H) | (go_at_call 64; (with_reducible refine (spec_shortOf.calls _ l _ _ B3.out).mono ?_); rintro e w2 ⟨rfl, hd2⟩; have D2 := mk0 (D1.out.drawn0 hd2); clear hd2 D1) | (go_at_call 43; (with_reducible refine (HP.out _ zq38).mono ?_); rintro e w3 ⟨rfl, hds⟩; have D3 := mk0 hds; clear hds D2; have hc3 : w3.cell? ⟨g, 2, none⟩ = some ov' := (blk_cell D3.out.blk 2).trans rfl; have hf3 := blk_frozen D3.out.blk 2) | (go_at_call 65; (with_reducible refine (HE.out _ zq54).mono ?_); rintro e w4 ⟨rfl, ov4, hds⟩; have D4 := mk0 hds; clear hds D3))
     go_roundg k
     case measure => have := HK1.out; omega
     case rel => exact ⟨i + sz, su, so, ov4, zq13, ⟨by have := HK1.out; omega⟩, by omega, ⟨by have := D4.out.bound; have := HF.out; omega⟩, HQ, D4⟩
    | true =>
     by_cases h3 : pa = 3
     ·subst h3
      have hm : mustB (bt s i) = true := by rw [hmb]; exact decide_eq_true (by omega)
      have hst := HST.out
      clear HST
      rw [hm] at hst
      clear hm hmb
      rw [if_pos zq50] at hst
      have hbe := escF_bounds code c pb xs
      rw [← hst] at hbe
      simp only at hbe
      have hex := fun W (hW : DS w0 W g A n c' code pb ov' xs) => escape_calls w0 W g A n c' code pb ov' xs c ⟨hc0, hc1⟩ hW (by omega) (by omega)
      rw [← hst] at hex
      clear hst
      have HE := mk0 hex
      clear hex
      go_wp2_with (first | (go_at_call 25; (with_reducible refine (spec_Character.calls k s i c sz true _ A3.out).mono ?_); rintro e w1 ⟨rfl, hd1⟩; have D1 := mk0 (H.out.drawn0 hd1); clear hd1 H) | (go_at_call 64; (with_reducible refine (spec_shortOf.calls _ l _ _ B3.out).mono ?_); rintro e w2 ⟨rfl, hd2⟩; have D2 := mk0 (D1.out.drawn0 hd2); clear hd2 D1) | (go_at_call 43; (with_reducible refine (HP.out _ zq38).mono ?_); rintro e w3 ⟨rfl, hds⟩; have D3 := mk0 hds; clear hds D2; have hc3 : w3.cell? ⟨g, 2, none⟩ = some ov' := (blk_cell D3.out.blk 2).trans rfl; have hf3 := blk_frozen D3.out.blk 2) | (go_at_call 65; (with_reducible refine (HE.out _ zq54).mono ?_); rintro e w4 ⟨rfl, ov4, hds⟩; have D4 := mk0 hds; clear hds D3))
      go_roundg k
      case measure => have := HK1.out; omega
      case rel => exact ⟨i + sz, su, so, ov4, zq13, ⟨by have := HK1.out; omega⟩, by omega, ⟨by have := D4.out.bound; have := HF.out; omega⟩, HQ, D4⟩
     skip
     have hm : mustB (bt s i) = true := by rw [hmb]; exact decide_eq_true (by omega)
     have hst := HST.out
     clear HST
     rw [hm] at hst
     clear hm hmb
     have hb3 : (pa == 3) = false := by simp [h3]
     have hd3 : decide (pa = 3) = false := decide_eq_false h3
     rw [if_neg (by simp [h3]), if_pos zq69] at hst
     obtain ⟨rfl, rfl⟩ := Prod.mk.inj hst
     clear hst
     go_wp2_with (first | (go_at_call 25; (with_reducible refine (spec_Character.calls k s i c sz true _ A3.out).mono ?_); rintro e w1 ⟨rfl, hd1⟩; have D1 := mk0 (H.out.drawn0 hd1); clear hd1 H) | (go_at_call 64; (with_reducible refine (spec_shortOf.calls _ l _ _ B3.out).mono ?_); rintro e w2 ⟨rfl, hd2⟩; have D2 := mk0 (D1.out.drawn0 hd2); clear hd2 D1) | (go_at_call 43; (with_reducible refine (HP.out _ zq38).mono ?_); rintro e w3 ⟨rfl, hds⟩; have D3 := mk0 hds; clear hds D2; have hc3 : w3.cell? ⟨g, 2, none⟩ = some ov' := (blk_cell D3.out.blk 2).trans rfl; have hf3 := blk_frozen D3.out.blk 2) | ((with_reducible refine gate_builtin (b := .append) (xs := #[.tmp 112, .tmp 114]) rfl ?_); at_builtin; refine Dr_append_lits (w0 := w0) w0.heap.size rfl (.tmp 112) (.tmp 114) 29 5 .u8 1 rfl Tryd.underlying29 info5 zq45 ov' xs [92, l] #[.int .u8 92, .int .u8 l] 2 rfl rfl (fun k => k ≠ g) rfl rfl ?aF ?aO D3.out.below (below_size D3.out.below) ?aL ?_; (case aF => exact fun q hq => (by have := blk_lt D3.out.blk; omega)); (case aO => exact D3.out.row); (case aL => exact zq56); intro v1 w6 ho6 hb6 hg6 hat6; obtain ⟨A1, c1, hv6, _, _⟩ := Kd.R_reads ho6; subst hv6; rw [List.length_append, show ([92, l] : List Int).length = 2 from rfl] at ho6; have hB6 := mk0 (blk_grown D3.out.blk hg6 (Kd.R_away D3.out.row (fun _ hk => hk))); have O6 := mk0 ho6; have L6 := mk0 hb6; clear ho6 hb6 hg6 hat6; have hc6 : w6.cell? ⟨g, 2, none⟩ = some ov' := (blk_cell hB6.out 2).trans rfl; have hf6 := blk_frozen hB6.out 2))
     have HE := mk0 (D3.out.put hB6.out O6.out L6.out)
     go_roundg k
     case measure => have := HK1.out; omega
     case rel => exact ⟨i + sz, _, _, _, zq13, ⟨by have := HK1.out; omega⟩, by omega, ⟨by have := HE.out.bound; have := HF.out; simp only [List.length_append, List.length_cons, List.length_nil]; omega⟩, HQ, HE⟩
   by_cases hm2 : bt s i = 34
   ·skip
    have hB3 := B3.out
    rw [hm2] at hB3
    clear B3
    have B3 := mk0 hB3
    clear hB3
    cases okb with
    | false =>
     by_cases h3 : pa = 3
     ·subst h3
      have hm : mustB (bt s i) = true := by rw [hmb]; exact decide_eq_true (by omega)
      have hst := HST.out
      clear HST
      rw [hm] at hst
      clear hm hmb
      rw [if_pos zq50] at hst
      have hbe := escF_bounds code c pb xs
      rw [← hst] at hbe
      simp only at hbe
      have hex := fun W (hW : DS w0 W g A n c' code pb ov' xs) => escape_calls w0 W g A n c' code pb ov' xs c ⟨hc0, hc1⟩ hW (by omega) (by omega)
      rw [← hst] at hex
      clear hst
      have HE := mk0 hex
      clear hex
      go_wp2_with (first | (go_at_call 25; (with_reducible refine (spec_Character.calls k s i c sz true _ A3.out).mono ?_); rintro e w1 ⟨rfl, hd1⟩; have D1 := mk0 (H.out.drawn0 hd1); clear hd1 H) | (go_at_call 64; (with_reducible refine (spec_shortOf.calls _ l _ _ B3.out).mono ?_); rintro e w2 ⟨rfl, hd2⟩; have D2 := mk0 (D1.out.drawn0 hd2); clear hd2 D1) | (go_at_call 43; (with_reducible refine (HP.out _ zq38).mono ?_); rintro e w3 ⟨rfl, hds⟩; have D3 := mk0 hds; clear hds D2; have hc3 : w3.cell? ⟨g, 2, none⟩ = some ov' := (blk_cell D3.out.blk 2).trans rfl; have hf3 := blk_frozen D3.out.blk 2) | (go_at_call 65; (with_reducible refine (HE.out _ zq54).mono ?_); rintro e w4 ⟨rfl, ov4, hds⟩; have D4 := mk0 hds; clear hds D3))
      go_roundg k
      case measure => have := HK1.out; omega
      case rel => exact ⟨i + sz, su, so, ov4, zq13, ⟨by have := HK1.out; omega⟩, by omega, ⟨by have := D4.out.bound; have := HF.out; omega⟩, HQ, D4⟩
     skip
     have hm : mustB (bt s i) = true := by rw [hmb]; exact decide_eq_true (by omega)
     have hst := HST.out
     clear HST
     rw [hm] at hst
     clear hm hmb
     have hb3 : (pa == 3) = false := by simp [h3]
     have hd3 : decide (pa = 3) = false := decide_eq_false h3
     rw [if_pos zq50] at hst
     have hbe := escF_bounds code c pb xs
     rw [← hst] at hbe
     simp only at hbe
     have hex := fun W (hW : DS w0 W g A n c' code pb ov' xs) => escape_calls w0 W g A n c' code pb ov' xs c ⟨hc0, hc1⟩ hW (by omega) (by omega)
     rw [← hst] at hex
     clear hst
     have HE := mk0 hex
     clear hex
     go_wp2_with (first | (go_at_call 25; (with_reducible refine (spec_Character.calls k s i c sz true _ A3.out).mono ?_); rintro e w1 ⟨rfl, hd1⟩; have D1 := mk0 (H.out.drawn0 hd1); clear hd1 H) | (go_at_call 64; (with_reducible refine (spec_shortOf.calls _ l _ _ B3.out).mono ?_); rintro e w2 ⟨rfl, hd2⟩; have D2 := mk0 (D1.out.drawn0 hd2); clear hd2 D1) | (go_at_call 43; (with_reducible refine (HP.out _ zq38).mono ?_); rintro e w3 ⟨rfl, hds⟩; have D3 := mk0 hds; clear hds D2; have hc3 : w3.cell? ⟨g, 2, none⟩ = some ov' := (blk_cell D3.out.blk 2).trans rfl; have hf3 := blk_frozen D3.out.blk 2) | (go_at_call 65; (with_reducible refine (HE.out _ zq54).mono ?_); rintro e w4 ⟨rfl, ov4, hds⟩; have D4 := mk0 hds; clear hds D3))
     go_roundg k
     case measure => have := HK1.out; omega
     case rel => exact ⟨i + sz, su, so, ov4, zq13, ⟨by have := HK1.out; omega⟩, by omega, ⟨by have := D4.out.bound; have := HF.out; omega⟩, HQ, D4⟩
    | true =>
     by_cases h3 : pa = 3
     ·subst h3
      have hm : mustB (bt s i) = true := by rw [hmb]; exact decide_eq_true (by omega)
      have hst := HST.out
      clear HST
      rw [hm] at hst
      clear hm hmb
      rw [if_pos zq50] at hst
      have hbe := escF_bounds code c pb xs
      rw [← hst] at hbe
      simp only at hbe
      have hex := fun W (hW : DS w0 W g A n c' code pb ov' xs) => escape_calls w0 W g A n c' code pb ov' xs c ⟨hc0, hc1⟩ hW (by omega) (by omega)
      rw [← hst] at hex
      clear hst
      have HE := mk0 hex
      clear hex
      go_wp2_with (first | (go_at_call 25; (with_reducible refine (spec_Character.calls k s i c sz true _ A3.out).mono ?_); rintro e w1 ⟨rfl, hd1⟩; have D1 := mk0 (H.out.drawn0 hd1); clear hd1 H) | (go_at_call 64; (with_reducible refine (spec_shortOf.calls _ l _ _ B3.out).mono ?_); rintro e w2 ⟨rfl, hd2⟩; have D2 := mk0 (D1.out.drawn0 hd2); clear hd2 D1) | (go_at_call 43; (with_reducible refine (HP.out _ zq38).mono ?_); rintro e w3 ⟨rfl, hds⟩; have D3 := mk0 hds; clear hds D2; have hc3 : w3.cell? ⟨g, 2, none⟩ = some ov' := (blk_cell D3.out.blk 2).trans rfl; have hf3 := blk_frozen D3.out.blk 2) | (go_at_call 65; (with_reducible refine (HE.out _ zq54).mono ?_); rintro e w4 ⟨rfl, ov4, hds⟩; have D4 := mk0 hds; clear hds D3))
      go_roundg k
      case measure => have := HK1.out; omega
      case rel => exact ⟨i + sz, su, so, ov4, zq13, ⟨by have := HK1.out; omega⟩, by omega, ⟨by have := D4.out.bound; have := HF.out; omega⟩, HQ, D4⟩
     skip
     have hm : mustB (bt s i) = true := by rw [hmb]; exact decide_eq_true (by omega)
     have hst := HST.out
     clear HST
     rw [hm] at hst
     clear hm hmb
     have hb3 : (pa == 3) = false := by simp [h3]
     have hd3 : decide (pa = 3) = false := decide_eq_false h3
     rw [if_neg (by simp [h3]), if_pos zq69] at hst
     obtain ⟨rfl, rfl⟩ := Prod.mk.inj hst
     clear hst
     go_wp2_with (first | (go_at_call 25; (with_reducible refine (spec_Character.calls k s i c sz true _ A3.out).mono ?_); rintro e w1 ⟨rfl, hd1⟩; have D1 := mk0 (H.out.drawn0 hd1); clear hd1 H) | (go_at_call 64; (with_reducible refine (spec_shortOf.calls _ l _ _ B3.out).mono ?_); rintro e w2 ⟨rfl, hd2⟩; have D2 := mk0 (D1.out.drawn0 hd2); clear hd2 D1) | (go_at_call 43; (with_reducible refine (HP.out _ zq38).mono ?_); rintro e w3 ⟨rfl, hds⟩; have D3 := mk0 hds; clear hds D2; have hc3 : w3.cell? ⟨g, 2, none⟩ = some ov' := (blk_cell D3.out.blk 2).trans rfl; have hf3 := blk_frozen D3.out.blk 2) | ((with_reducible refine gate_builtin (b := .append) (xs := #[.tmp 112, .tmp 114]) rfl ?_); at_builtin; refine Dr_append_lits (w0 := w0) w0.heap.size rfl (.tmp 112) (.tmp 114) 29 5 .u8 1 rfl Tryd.underlying29 info5 zq45 ov' xs [92, l] #[.int .u8 92, .int .u8 l] 2 rfl rfl (fun k => k ≠ g) rfl rfl ?aF ?aO D3.out.below (below_size D3.out.below) ?aL ?_; (case aF => exact fun q hq => (by have := blk_lt D3.out.blk; omega)); (case aO => exact D3.out.row); (case aL => exact zq56); intro v1 w6 ho6 hb6 hg6 hat6; obtain ⟨A1, c1, hv6, _, _⟩ := Kd.R_reads ho6; subst hv6; rw [List.length_append, show ([92, l] : List Int).length = 2 from rfl] at ho6; have hB6 := mk0 (blk_grown D3.out.blk hg6 (Kd.R_away D3.out.row (fun _ hk => hk))); have O6 := mk0 ho6; have L6 := mk0 hb6; clear ho6 hb6 hg6 hat6; have hc6 : w6.cell? ⟨g, 2, none⟩ = some ov' := (blk_cell hB6.out 2).trans rfl; have hf6 := blk_frozen hB6.out 2))
     have HE := mk0 (D3.out.put hB6.out O6.out L6.out)
     go_roundg k
     case measure => have := HK1.out; omega
     case rel => exact ⟨i + sz, _, _, _, zq13, ⟨by have := HK1.out; omega⟩, by omega, ⟨by have := HE.out.bound; have := HF.out; simp only [List.length_append, List.length_cons, List.length_nil]; omega⟩, HQ, HE⟩
   by_cases hm3 : bt s i = 92
   ·skip
    have hB3 := B3.out
    rw [hm3] at hB3
    clear B3
    have B3 := mk0 hB3
    clear hB3
    cases okb with
    | false =>
     by_cases h3 : pa = 3
     ·subst h3
      have hm : mustB (bt s i) = true := by rw [hmb]; exact decide_eq_true (by omega)
      have hst := HST.out
      clear HST
      rw [hm] at hst
      clear hm hmb
      rw [if_pos zq50] at hst
      have hbe := escF_bounds code c pb xs
      rw [← hst] at hbe
      simp only at hbe
      have hex := fun W (hW : DS w0 W g A n c' code pb ov' xs) => escape_calls w0 W g A n c' code pb ov' xs c ⟨hc0, hc1⟩ hW (by omega) (by omega)
      rw [← hst] at hex
      clear hst
      have HE := mk0 hex
      clear hex
      go_wp2_with (first | (go_at_call 25; (with_reducible refine (spec_Character.calls k s i c sz true _ A3.out).mono ?_); rintro e w1 ⟨rfl, hd1⟩; have D1 := mk0 (H.out.drawn0 hd1); clear hd1 H) | (go_at_call 64; (with_reducible refine (spec_shortOf.calls _ l _ _ B3.out).mono ?_); rintro e w2 ⟨rfl, hd2⟩; have D2 := mk0 (D1.out.drawn0 hd2); clear hd2 D1) | (go_at_call 43; (with_reducible refine (HP.out _ zq38).mono ?_); rintro e w3 ⟨rfl, hds⟩; have D3 := mk0 hds; clear hds D2; have hc3 : w3.cell? ⟨g, 2, none⟩ = some ov' := (blk_cell D3.out.blk 2).trans rfl; have hf3 := blk_frozen D3.out.blk 2) | (go_at_call 65; (with_reducible refine (HE.out _ zq54).mono ?_); rintro e w4 ⟨rfl, ov4, hds⟩; have D4 := mk0 hds; clear hds D3))
      go_roundg k
      case measure => have := HK1.out; omega
      case rel => exact ⟨i + sz, su, so, ov4, zq13, ⟨by have := HK1.out; omega⟩, by omega, ⟨by have := D4.out.bound; have := HF.out; omega⟩, HQ, D4⟩
     skip
     have hm : mustB (bt s i) = true := by rw [hmb]; exact decide_eq_true (by omega)
     have hst := HST.out
     clear HST
     rw [hm] at hst
     clear hm hmb
     have hb3 : (pa == 3) = false := by simp [h3]
     have hd3 : decide (pa = 3) = false := decide_eq_false h3
     rw [if_pos zq50] at hst
     have hbe := escF_bounds code c pb xs
     rw [← hst] at hbe
     simp only at hbe
     have hex := fun W (hW : DS w0 W g A n c' code pb ov' xs) => escape_calls w0 W g A n c' code pb ov' xs c ⟨hc0, hc1⟩ hW (by omega) (by omega)
     rw [← hst] at hex
     clear hst
     have HE := mk0 hex
     clear hex
     go_wp2_with (first | (go_at_call 25; (with_reducible refine (spec_Character.calls k s i c sz true _ A3.out).mono ?_); rintro e w1 ⟨rfl, hd1⟩; have D1 := mk0 (H.out.drawn0 hd1); clear hd1 H) | (go_at_call 64; (with_reducible refine (spec_shortOf.calls _ l _ _ B3.out).mono ?_); rintro e w2 ⟨rfl, hd2⟩; have D2 := mk0 (D1.out.drawn0 hd2); clear hd2 D1) | (go_at_call 43; (with_reducible refine (HP.out _ zq38).mono ?_); rintro e w3 ⟨rfl, hds⟩; have D3 := mk0 hds; clear hds D2; have hc3 : w3.cell? ⟨g, 2, none⟩ = some ov' := (blk_cell D3.out.blk 2).trans rfl; have hf3 := blk_frozen D3.out.blk 2) | (go_at_call 65; (with_reducible refine (HE.out _ zq54).mono ?_); rintro e w4 ⟨rfl, ov4, hds⟩; have D4 := mk0 hds; clear hds D3))
     go_roundg k
     case measure => have := HK1.out; omega
     case rel => exact ⟨i + sz, su, so, ov4, zq13, ⟨by have := HK1.out; omega⟩, by omega, ⟨by have := D4.out.bound; have := HF.out; omega⟩, HQ, D4⟩
    | true =>
     by_cases h3 : pa = 3
     ·subst h3
      have hm : mustB (bt s i) = true := by rw [hmb]; exact decide_eq_true (by omega)
      have hst := HST.out
      clear HST
      rw [hm] at hst
      clear hm hmb
      rw [if_pos zq50] at hst
      have hbe := escF_bounds code c pb xs
      rw [← hst] at hbe
      simp only at hbe
      have hex := fun W (hW : DS w0 W g A n c' code pb ov' xs) => escape_calls w0 W g A n c' code pb ov' xs c ⟨hc0, hc1⟩ hW (by omega) (by omega)
      rw [← hst] at hex
      clear hst
      have HE := mk0 hex
      clear hex
      go_wp2_with (first | (go_at_call 25; (with_reducible refine (spec_Character.calls k s i c sz true _ A3.out).mono ?_); rintro e w1 ⟨rfl, hd1⟩; have D1 := mk0 (H.out.drawn0 hd1); clear hd1 H) | (go_at_call 64; (with_reducible refine (spec_shortOf.calls _ l _ _ B3.out).mono ?_); rintro e w2 ⟨rfl, hd2⟩; have D2 := mk0 (D1.out.drawn0 hd2); clear hd2 D1) | (go_at_call 43; (with_reducible refine (HP.out _ zq38).mono ?_); rintro e w3 ⟨rfl, hds⟩; have D3 := mk0 hds; clear hds D2; have hc3 : w3.cell? ⟨g, 2, none⟩ = some ov' := (blk_cell D3.out.blk 2).trans rfl; have hf3 := blk_frozen D3.out.blk 2) | (go_at_call 65; (with_reducible refine (HE.out _ zq54).mono ?_); rintro e w4 ⟨rfl, ov4, hds⟩; have D4 := mk0 hds; clear hds D3))
      go_roundg k
      case measure => have := HK1.out; omega
      case rel => exact ⟨i + sz, su, so, ov4, zq13, ⟨by have := HK1.out; omega⟩, by omega, ⟨by have := D4.out.bound; have := HF.out; omega⟩, HQ, D4⟩
     skip
     have hm : mustB (bt s i) = true := by rw [hmb]; exact decide_eq_true (by omega)
     have hst := HST.out
     clear HST
     rw [hm] at hst
     clear hm hmb
     have hb3 : (pa == 3) = false := by simp [h3]
     have hd3 : decide (pa = 3) = false := decide_eq_false h3
     rw [if_neg (by simp [h3]), if_pos zq69] at hst
     obtain ⟨rfl, rfl⟩ := Prod.mk.inj hst
     clear hst
     go_wp2_with (first | (go_at_call 25; (with_reducible refine (spec_Character.calls k s i c sz true _ A3.out).mono ?_); rintro e w1 ⟨rfl, hd1⟩; have D1 := mk0 (H.out.drawn0 hd1); clear hd1 H) | (go_at_call 64; (with_reducible refine (spec_shortOf.calls _ l _ _ B3.out).mono ?_); rintro e w2 ⟨rfl, hd2⟩; have D2 := mk0 (D1.out.drawn0 hd2); clear hd2 D1) | (go_at_call 43; (with_reducible refine (HP.out _ zq38).mono ?_); rintro e w3 ⟨rfl, hds⟩; have D3 := mk0 hds; clear hds D2; have hc3 : w3.cell? ⟨g, 2, none⟩ = some ov' := (blk_cell D3.out.blk 2).trans rfl; have hf3 := blk_frozen D3.out.blk 2) | ((with_reducible refine gate_builtin (b := .append) (xs := #[.tmp 112, .tmp 114]) rfl ?_); at_builtin; refine Dr_append_lits (w0 := w0) w0.heap.size rfl (.tmp 112) (.tmp 114) 29 5 .u8 1 rfl Tryd.underlying29 info5 zq45 ov' xs [92, l] #[.int .u8 92, .int .u8 l] 2 rfl rfl (fun k => k ≠ g) rfl rfl ?aF ?aO D3.out.below (below_size D3.out.below) ?aL ?_; (case aF => exact fun q hq => (by have := blk_lt D3.out.blk; omega)); (case aO => exact D3.out.row); (case aL => exact zq56); intro v1 w6 ho6 hb6 hg6 hat6; obtain ⟨A1, c1, hv6, _, _⟩ := Kd.R_reads ho6; subst hv6; rw [List.length_append, show ([92, l] : List Int).length = 2 from rfl] at ho6; have hB6 := mk0 (blk_grown D3.out.blk hg6 (Kd.R_away D3.out.row (fun _ hk => hk))); have O6 := mk0 ho6; have L6 := mk0 hb6; clear ho6 hb6 hg6 hat6; have hc6 : w6.cell? ⟨g, 2, none⟩ = some ov' := (blk_cell hB6.out 2).trans rfl; have hf6 := blk_frozen hB6.out 2))
     have HE := mk0 (D3.out.put hB6.out O6.out L6.out)
     go_roundg k
     case measure => have := HK1.out; omega
     case rel => exact ⟨i + sz, _, _, _, zq13, ⟨by have := HK1.out; omega⟩, by omega, ⟨by have := HE.out.bound; have := HF.out; simp only [List.length_append, List.length_cons, List.length_nil]; omega⟩, HQ, HE⟩
   cases okb with
   | false =>
    by_cases h3 : pa = 3
    ·subst h3
     have hm : mustB (bt s i) = false := by rw [hmb]; exact decide_eq_false (by omega)
     have hst := HST.out
     clear HST
     rw [hm] at hst
     clear hm hmb
     have hm1b : decide (bt s i < 32) = false := decide_eq_false hm1
     have hm2b : (bt s i == 34) = false := by simp [hm2]
     have hm2c : decide (bt s i = 34) = false := decide_eq_false hm2
     have hm3b : (bt s i == 92) = false := by simp [hm3]
     have hm3c : decide (bt s i = 92) = false := decide_eq_false hm3
     rw [if_pos zq50] at hst
     have hbe := escF_bounds code c pb xs
     rw [← hst] at hbe
     simp only at hbe
     have hex := fun W (hW : DS w0 W g A n c' code pb ov' xs) => escape_calls w0 W g A n c' code pb ov' xs c ⟨hc0, hc1⟩ hW (by omega) (by omega)
     rw [← hst] at hex
     clear hst
     have HE := mk0 hex
     clear hex
     go_wp2_with (first | (go_at_call 25; (with_reducible refine (spec_Character.calls k s i c sz true _ A3.out).mono ?_); rintro e w1 ⟨rfl, hd1⟩; have D1 := mk0 (H.out.drawn0 hd1); clear hd1 H) | (go_at_call 64; (with_reducible refine (spec_shortOf.calls _ l _ _ B3.out).mono ?_); rintro e w2 ⟨rfl, hd2⟩; have D2 := mk0 (D1.out.drawn0 hd2); clear hd2 D1) | (go_at_call 43; (with_reducible refine (HP.out _ zq38).mono ?_); rintro e w3 ⟨rfl, hds⟩; have D3 := mk0 hds; clear hds D2; have hc3 : w3.cell? ⟨g, 2, none⟩ = some ov' := (blk_cell D3.out.blk 2).trans rfl; have hf3 := blk_frozen D3.out.blk 2) | (go_at_call 65; (with_reducible refine (HE.out _ zq54).mono ?_); rintro e w4 ⟨rfl, ov4, hds⟩; have D4 := mk0 hds; clear hds D3))
     go_roundg k
     case measure => have := HK1.out; omega
     case rel => exact ⟨i + sz, su, so, ov4, zq13, ⟨by have := HK1.out; omega⟩, by omega, ⟨by have := D4.out.bound; have := HF.out; omega⟩, HQ, D4⟩
    skip
    have hm : mustB (bt s i) = false := by rw [hmb]; exact decide_eq_false (by omega)
    have hst := HST.out
    clear HST
    rw [hm] at hst
    clear hm hmb
    have hm1b : decide (bt s i < 32) = false := decide_eq_false hm1
    have hm2b : (bt s i == 34) = false := by simp [hm2]
    have hm2c : decide (bt s i = 34) = false := decide_eq_false hm2
    have hm3b : (bt s i == 92) = false := by simp [hm3]
    have hm3c : decide (bt s i = 92) = false := decide_eq_false hm3
    have hb3 : (pa == 3) = false := by simp [h3]
    have hd3 : decide (pa = 3) = false := decide_eq_false h3
    rw [if_neg (by simp [h3]), if_neg (by simp)] at hst
    obtain ⟨rfl, rfl⟩ := Prod.mk.inj hst
    clear hst
    have hxl : (bytesOf (s.extract i.toNat (i + sz).toNat)).length ≤ 4 := by rw [bytesOf_length, ByteArray.size_extract]; omega
    go_wp2_with (first | (go_at_call 25; (with_reducible refine (spec_Character.calls k s i c sz true _ A3.out).mono ?_); rintro e w1 ⟨rfl, hd1⟩; have D1 := mk0 (H.out.drawn0 hd1); clear hd1 H) | (go_at_call 64; (with_reducible refine (spec_shortOf.calls _ l _ _ B3.out).mono ?_); rintro e w2 ⟨rfl, hd2⟩; have D2 := mk0 (D1.out.drawn0 hd2); clear hd2 D1) | (go_at_call 43; (with_reducible refine (HP.out _ zq38).mono ?_); rintro e w3 ⟨rfl, hds⟩; have D3 := mk0 hds; clear hds D2; have hc3 : w3.cell? ⟨g, 2, none⟩ = some ov' := (blk_cell D3.out.blk 2).trans rfl; have hf3 := blk_frozen D3.out.blk 2))
    have HD := mk0 D3.out.drew
    have hsl : ∀ w' : World, (Instr.slice 9 (.string s) (some (.int .i64 i)) (some (.int .i64 (wrap64 (i + sz)))) none).run Tryd.prog w' = .ok (.string (s.extract i.toNat (i + sz).toNat)) w' := by
     intro w'
     rw [show wrap64 (i + sz) = i + sz by unfold wrap64; omega]
     exact run_slice_string w' 9 s .i64 .i64 i (i + sz) Tryd.underlying9 hi.1 (by omega) hend
    have HSL := mk0 hsl
    clear hsl
    refine start_ (n := 15) (S := fun w' => w'.cell? ⟨g, 2, none⟩ = some ov') (ds := [14]) #[false, false, false, false, false, false, false, false, false, false, false, false, false, false, false] zq23 rfl rfl ((blk_cell HD.out.blk 2).trans rfl) (fun hHeld => ?_); refine with_tabW quoted.tab7 quoted.bits7 (fun HT_ HW_ => ?_)
    refine pure_ (i := 0) (N := some 57) (v := ?_) (a' := ?_) #[true, false, false, false, false, false, false, false, false, false, false, false, false, false, false] rfl rfl (any_of HT_.out zq23) (fun _ _ _ h => h) (Or.inl ⟨by rfl, ?_⟩) ?_ ?_
    rotate_left
    ·intro w'
     go_simp
     with_reducible rfl
    rotate_left
    ·simp only [Act.put, List.setIfInBounds_toArray, List.set_cons_zero, List.set_cons_succ, i64_w, i32_w]
     rfl
    refine pure_ (i := 1) (N := some 58) (v := ?_) (a' := ?_) #[true, true, false, false, false, false, false, false, false, false, false, false, false, false, false] rfl rfl (any_of HT_.out zq23) (fun _ _ _ h => h) (Or.inl ⟨by rfl, ?_⟩) ?_ ?_
    rotate_left
    ·intro w'
     go_simp
     with_reducible rfl
    rotate_left
    ·simp only [Act.put, List.setIfInBounds_toArray, List.set_cons_zero, List.set_cons_succ, i64_w, i32_w]
     rfl
    refine pure_ (i := 2) (N := some 59) (v := ?_) (a' := ?_) #[true, true, true, false, false, false, false, false, false, false, false, false, false, false, false] rfl rfl (any_of HT_.out zq23) (fun _ _ _ h => h) (Or.inl ⟨by rfl, ?_⟩) ?_ ?_
    rotate_left
    ·intro w'
     go_simp
     with_reducible rfl
    rotate_left
    ·simp only [Act.put, List.setIfInBounds_toArray, List.set_cons_zero, List.set_cons_succ, i64_w, i32_w]
     rfl
    refine pure_ (i := 3) (N := some 60) (v := ?_) (a' := ?_) #[true, true, true, true, false, false, false, false, false, false, false, false, false, false, false] rfl rfl (any_of HT_.out zq23) (fun _ _ _ h => h) (Or.inl ⟨by rfl, ?_⟩) ?_ ?_
    rotate_left
    ·intro w'
     go_simp
     with_reducible rfl
    rotate_left
    ·simp only [Act.put, List.setIfInBounds_toArray, List.set_cons_zero, List.set_cons_succ, i64_w, i32_w]
     rfl
    refine pure_ (i := 5) (N := some 62) (v := ?_) (a' := ?_) #[true, true, true, true, false, true, false, false, false, false, false, false, false, false, false] rfl rfl (any_of HT_.out zq23) (fun _ _ _ h => h) (Or.inl ⟨by rfl, ?_⟩) ?_ ?_
    rotate_left
    ·intro w'
     go_simp
     with_reducible rfl
    rotate_left
    ·simp only [Act.put, List.setIfInBounds_toArray, List.set_cons_zero, List.set_cons_succ, i64_w, i32_w]
     rfl
    refine pure_ (i := 6) (N := some 63) (v := ?_) (a' := ?_) #[true, true, true, true, false, true, true, false, false, false, false, false, false, false, false] rfl rfl (any_of HT_.out zq23) (fun _ _ _ h => h) (Or.inl ⟨by rfl, ?_⟩) ?_ ?_
    rotate_left
    ·intro w'
     go_simp
     with_reducible rfl
    rotate_left
    ·simp only [Act.put, List.setIfInBounds_toArray, List.set_cons_zero, List.set_cons_succ, i64_w, i32_w]
     rfl
    refine pure_ (i := 7) (N := some 64) (v := ?_) (a' := ?_) #[true, true, true, true, false, true, true, true, false, false, false, false, false, false, false] rfl rfl (any_of HT_.out zq23) (fun _ _ _ h => h) (Or.inl ⟨by rfl, ?_⟩) ?_ ?_
    rotate_left
    ·intro w'
     go_simp
     with_reducible rfl
    rotate_left
    ·simp only [Act.put, List.setIfInBounds_toArray, List.set_cons_zero, List.set_cons_succ, i64_w, i32_w]
     rfl
    refine pure_ (i := 8) (N := some 65) (v := ?_) (a' := ?_) #[true, true, true, true, false, true, true, true, true, false, false, false, false, false, false] rfl rfl (any_of HT_.out zq23) (fun _ _ _ h => h) (Or.inl ⟨by rfl, ?_⟩) ?_ ?_
    rotate_left
    ·intro w'
     go_simp
     with_reducible rfl
    rotate_left
    ·simp only [Act.put, List.setIfInBounds_toArray, List.set_cons_zero, List.set_cons_succ, i64_w, i32_w]
     rfl
    refine pure_ (i := 9) (N := some 66) (v := ?_) (a' := ?_) #[true, true, true, true, false, true, true, true, true, true, false, false, false, false, false] rfl rfl (any_of HT_.out zq23) (fun _ _ _ h => h) (Or.inl ⟨by rfl, ?_⟩) ?_ ?_
    rotate_left
    ·intro w'
     go_simp
     with_reducible rfl
    rotate_left
    ·simp only [Act.put, List.setIfInBounds_toArray, List.set_cons_zero, List.set_cons_succ, i64_w, i32_w]
     rfl
    refine pure_ (i := 10) (N := some 67) (v := ?_) (a' := ?_) #[true, true, true, true, false, true, true, true, true, true, true, false, false, false, false] rfl rfl (any_of HT_.out zq23) (fun _ _ _ h => h) (Or.inl ⟨by rfl, ?_⟩) ?_ ?_
    rotate_left
    ·intro w'
     go_simp
     simp only [HSL.out, Result.andThen_ok]
     with_reducible rfl
    rotate_left
    ·simp only [Act.put, List.setIfInBounds_toArray, List.set_cons_zero, List.set_cons_succ, i64_w, i32_w]
     rfl
    refine take_ (i := 4) (N := some 61) (v := ?_) (a' := ?_) #[true, true, true, true, true, true, true, true, true, true, true, false, false, false, false] rfl rfl (take_ofW HT_.out HW_.out zq23) (fun _ _ _ h => h) (Or.inl ⟨by rfl, ?_⟩) hHeld ?_ ?_
    rotate_left
    ·intro w' s0
     go_simp
     with_reducible rfl
    rotate_left
    ·simp only [Act.put, List.setIfInBounds_toArray, List.set_cons_zero, List.set_cons_succ, i64_w, i32_w]
     rfl
    refine one_ (i := 11) (N := some 68) #[true, true, true, true, true, true, true, true, true, true, true, true, false, false, false] rfl rfl (one_of HT_.out zq23) zq45 (fun K hK => ?_)
    refine append_str_step (w0 := w0) w0.heap.size (by rfl) (.tmp 61) (.tmp 67) 29 9 5 (by rfl) Tryd.underlying29 Tryd.underlying9 info5 ov' xs (s.extract i.toNat (i + sz).toNat) (fun k => k ≠ g) (by rfl) (by rfl) (fun q hq => (by have := blk_lt HD.out.blk; omega)) HD.out.row HD.out.below (below_size HD.out.below) (by rw [bytesOf_length] at hxl; omega) ?_
    intro v1 w6 ho6 hb6 hg6 hat6
    obtain ⟨A1, c1, hv6, _, _⟩ := Kd.R_reads ho6
    subst hv6
    rw [List.length_append] at ho6
    have hB6 := mk0 (blk_grown HD.out.blk hg6 (Kd.R_away HD.out.row (fun _ hk => hk)))
    have O6 := mk0 ho6
    have L6 := mk0 hb6
    clear ho6 hb6 hg6 hat6
    refine hK.out _ _ ((blk_cell hB6.out 2).trans rfl) (fun hHeld => ?_)
    clear hK K
    refine norm_ (a' := ?_) ?_ ?_
    rotate_left
    ·show Act.put _ (some 68) _ = _
     simp only [Act.put, List.setIfInBounds_toArray, List.set_cons_zero, List.set_cons_succ, i64_w, i32_w]
     rfl
    refine pure_ (i := 12) (N := some 69) (v := ?_) (a' := ?_) #[true, true, true, true, true, true, true, true, true, true, true, true, true, false, false] rfl rfl (any_of HT_.out zq23) (fun _ _ _ h => h) (Or.inl ⟨by rfl, ?_⟩) ?_ ?_
    rotate_left
    ·intro w'
     go_simp
     with_reducible rfl
    rotate_left
    ·simp only [Act.put, List.setIfInBounds_toArray, List.set_cons_zero, List.set_cons_succ, i64_w, i32_w]
     rfl
    refine pure_ (i := 13) (N := some 70) (v := ?_) (a' := ?_) #[true, true, true, true, true, true, true, true, true, true, true, true, true, true, false] rfl rfl (any_of HT_.out zq23) (fun _ _ _ h => h) (Or.inl ⟨by rfl, ?_⟩) ?_ ?_
    rotate_left
    ·intro w'
     go_simp
     with_reducible rfl
    rotate_left
    ·simp only [Act.put, List.setIfInBounds_toArray, List.set_cons_zero, List.set_cons_succ, i64_w, i32_w]
     rfl
    refine last_ (i := 14) (N := none) #[true, true, true, true, true, true, true, true, true, true, true, true, true, true, true] rfl rfl (one_of HT_.out zq23) zq45 (fun K hK => ?_)
    have hc6 : w6.cell? ⟨g, 2, none⟩ = some ov' := (blk_cell hB6.out 2).trans rfl
    have hf6 := blk_frozen hB6.out 2
    refine skip_ (w1 := ?_) (by rfl) rfl ?_ ?_
    rotate_left
    ·go_simp
     rfl
    refine hK.out _ _ ?_
    clear hK K
    refine done_ (done_of HT_.out zq23) ?_
    try go_wp2
    have HE := mk0 (HD.out.put hB6.out O6.out L6.out)
    go_roundg k
    case measure => have := HK1.out; omega
    case rel => exact ⟨i + sz, _, _, _, zq13, ⟨by have := HK1.out; omega⟩, by omega, ⟨by have := HE.out.bound; have := HF.out; rw [List.length_append]; omega⟩, HQ, HE⟩
   | true =>
    by_cases h3 : pa = 3
    ·subst h3
     have hm : mustB (bt s i) = false := by rw [hmb]; exact decide_eq_false (by omega)
     have hst := HST.out
     clear HST
     rw [hm] at hst
     clear hm hmb
     have hm1b : decide (bt s i < 32) = false := decide_eq_false hm1
     have hm2b : (bt s i == 34) = false := by simp [hm2]
     have hm2c : decide (bt s i = 34) = false := decide_eq_false hm2
     have hm3b : (bt s i == 92) = false := by simp [hm3]
     have hm3c : decide (bt s i = 92) = false := decide_eq_false hm3
     rw [if_pos zq50] at hst
     have hbe := escF_bounds code c pb xs
     rw [← hst] at hbe
     simp only at hbe
     have hex := fun W (hW : DS w0 W g A n c' code pb ov' xs) => escape_calls w0 W g A n c' code pb ov' xs c ⟨hc0, hc1⟩ hW (by omega) (by omega)
     rw [← hst] at hex
     clear hst
     have HE := mk0 hex
     clear hex
     go_wp2_with (first | (go_at_call 25; (with_reducible refine (spec_Character.calls k s i c sz true _ A3.out).mono ?_); rintro e w1 ⟨rfl, hd1⟩; have D1 := mk0 (H.out.drawn0 hd1); clear hd1 H) | (go_at_call 64; (with_reducible refine (spec_shortOf.calls _ l _ _ B3.out).mono ?_); rintro e w2 ⟨rfl, hd2⟩; have D2 := mk0 (D1.out.drawn0 hd2); clear hd2 D1) | (go_at_call 43; (with_reducible refine (HP.out _ zq38).mono ?_); rintro e w3 ⟨rfl, hds⟩; have D3 := mk0 hds; clear hds D2; have hc3 : w3.cell? ⟨g, 2, none⟩ = some ov' := (blk_cell D3.out.blk 2).trans rfl; have hf3 := blk_frozen D3.out.blk 2) | (go_at_call 65; (with_reducible refine (HE.out _ zq54).mono ?_); rintro e w4 ⟨rfl, ov4, hds⟩; have D4 := mk0 hds; clear hds D3))
     go_roundg k
     case measure => have := HK1.out; omega
     case rel => exact ⟨i + sz, su, so, ov4, zq13, ⟨by have := HK1.out; omega⟩, by omega, ⟨by have := D4.out.bound; have := HF.out; omega⟩, HQ, D4⟩
    by_cases h2 : pa = 2
    ·subst h2
     have hm : mustB (bt s i) = false := by rw [hmb]; exact decide_eq_false (by omega)
     have hst := HST.out
     clear HST
     rw [hm] at hst
     clear hm hmb
     have hm1b : decide (bt s i < 32) = false := decide_eq_false hm1
     have hm2b : (bt s i == 34) = false := by simp [hm2]
     have hm2c : decide (bt s i = 34) = false := decide_eq_false hm2
     have hm3b : (bt s i == 92) = false := by simp [hm3]
     have hm3c : decide (bt s i = 92) = false := decide_eq_false hm3
     rw [if_neg (by simp [h3]), if_pos zq69] at hst
     obtain ⟨rfl, rfl⟩ := Prod.mk.inj hst
     clear hst
     go_wp2_with (first | (go_at_call 25; (with_reducible refine (spec_Character.calls k s i c sz true _ A3.out).mono ?_); rintro e w1 ⟨rfl, hd1⟩; have D1 := mk0 (H.out.drawn0 hd1); clear hd1 H) | (go_at_call 64; (with_reducible refine (spec_shortOf.calls _ l _ _ B3.out).mono ?_); rintro e w2 ⟨rfl, hd2⟩; have D2 := mk0 (D1.out.drawn0 hd2); clear hd2 D1) | (go_at_call 43; (with_reducible refine (HP.out _ zq38).mono ?_); rintro e w3 ⟨rfl, hds⟩; have D3 := mk0 hds; clear hds D2; have hc3 : w3.cell? ⟨g, 2, none⟩ = some ov' := (blk_cell D3.out.blk 2).trans rfl; have hf3 := blk_frozen D3.out.blk 2) | ((with_reducible refine gate_builtin (b := .append) (xs := #[.tmp 112, .tmp 114]) rfl ?_); at_builtin; refine Dr_append_lits (w0 := w0) w0.heap.size rfl (.tmp 112) (.tmp 114) 29 5 .u8 1 rfl Tryd.underlying29 info5 zq45 ov' xs [92, l] #[.int .u8 92, .int .u8 l] 2 rfl rfl (fun k => k ≠ g) rfl rfl ?aF ?aO D3.out.below (below_size D3.out.below) ?aL ?_; (case aF => exact fun q hq => (by have := blk_lt D3.out.blk; omega)); (case aO => exact D3.out.row); (case aL => exact zq56); intro v1 w6 ho6 hb6 hg6 hat6; obtain ⟨A1, c1, hv6, _, _⟩ := Kd.R_reads ho6; subst hv6; rw [List.length_append, show ([92, l] : List Int).length = 2 from rfl] at ho6; have hB6 := mk0 (blk_grown D3.out.blk hg6 (Kd.R_away D3.out.row (fun _ hk => hk))); have O6 := mk0 ho6; have L6 := mk0 hb6; clear ho6 hb6 hg6 hat6; have hc6 : w6.cell? ⟨g, 2, none⟩ = some ov' := (blk_cell hB6.out 2).trans rfl; have hf6 := blk_frozen hB6.out 2))
     have HE := mk0 (D3.out.put hB6.out O6.out L6.out)
     go_roundg k
     case measure => have := HK1.out; omega
     case rel => exact ⟨i + sz, _, _, _, zq13, ⟨by have := HK1.out; omega⟩, by omega, ⟨by have := HE.out.bound; have := HF.out; simp only [List.length_append, List.length_cons, List.length_nil]; omega⟩, HQ, HE⟩
    skip
    have hm : mustB (bt s i) = false := by rw [hmb]; exact decide_eq_false (by omega)
    have hst := HST.out
    clear HST
    rw [hm] at hst
    clear hm hmb
    have hm1b : decide (bt s i < 32) = false := decide_eq_false hm1
    have hm2b : (bt s i == 34) = false := by simp [hm2]
    have hm2c : decide (bt s i = 34) = false := decide_eq_false hm2
    have hm3b : (bt s i == 92) = false := by simp [hm3]
    have hm3c : decide (bt s i = 92) = false := decide_eq_false hm3
    have hb3 : (pa == 3) = false := by simp [h3]
    have hd3 : decide (pa = 3) = false := decide_eq_false h3
    rw [if_neg (by simp [h3]), if_neg (by simp [h2])] at hst
    obtain ⟨rfl, rfl⟩ := Prod.mk.inj hst
    clear hst
    have hb2 : (pa == 2) = false := by simp [h2]
    have hd2_ : decide (pa = 2) = false := decide_eq_false h2
    have hxl : (bytesOf (s.extract i.toNat (i + sz).toNat)).length ≤ 4 := by rw [bytesOf_length, ByteArray.size_extract]; omega
    go_wp2_with (first | (go_at_call 25; (with_reducible refine (spec_Character.calls k s i c sz true _ A3.out).mono ?_); rintro e w1 ⟨rfl, hd1⟩; have D1 := mk0 (H.out.drawn0 hd1); clear hd1 H) | (go_at_call 64; (with_reducible refine (spec_shortOf.calls _ l _ _ B3.out).mono ?_); rintro e w2 ⟨rfl, hd2⟩; have D2 := mk0 (D1.out.drawn0 hd2); clear hd2 D1) | (go_at_call 43; (with_reducible refine (HP.out _ zq38).mono ?_); rintro e w3 ⟨rfl, hds⟩; have D3 := mk0 hds; clear hds D2; have hc3 : w3.cell? ⟨g, 2, none⟩ = some ov' := (blk_cell D3.out.blk 2).trans rfl; have hf3 := blk_frozen D3.out.blk 2))
    have HD := mk0 D3.out.drew
    have hsl : ∀ w' : World, (Instr.slice 9 (.string s) (some (.int .i64 i)) (some (.int .i64 (wrap64 (i + sz)))) none).run Tryd.prog w' = .ok (.string (s.extract i.toNat (i + sz).toNat)) w' := by
     intro w'
     rw [show wrap64 (i + sz) = i + sz by unfold wrap64; omega]
     exact run_slice_string w' 9 s .i64 .i64 i (i + sz) Tryd.underlying9 hi.1 (by omega) hend
    have HSL := mk0 hsl
    clear hsl
    refine start_ (n := 15) (S := fun w' => w'.cell? ⟨g, 2, none⟩ = some ov') (ds := [14]) #[false, false, false, false, false, false, false, false, false, false, false, false, false, false, false] zq23 rfl rfl ((blk_cell HD.out.blk 2).trans rfl) (fun hHeld => ?_); refine with_tabW quoted.tab7 quoted.bits7 (fun HT_ HW_ => ?_)
    refine pure_ (i := 0) (N := some 57) (v := ?_) (a' := ?_) #[true, false, false, false, false, false, false, false, false, false, false, false, false, false, false] rfl rfl (any_of HT_.out zq23) (fun _ _ _ h => h) (Or.inl ⟨by rfl, ?_⟩) ?_ ?_
    rotate_left
    ·intro w'
     go_simp
     with_reducible rfl
    rotate_left
    ·simp only [Act.put, List.setIfInBounds_toArray, List.set_cons_zero, List.set_cons_succ, i64_w, i32_w]
     rfl
    refine pure_ (i := 1) (N := some 58) (v := ?_) (a' := ?_) #[true, true, false, false, false, false, false, false, false, false, false, false, false, false, false] rfl rfl (any_of HT_.out zq23) (fun _ _ _ h => h) (Or.inl ⟨by rfl, ?_⟩) ?_ ?_
    rotate_left
    ·intro w'
     go_simp
     with_reducible rfl
    rotate_left
    ·simp only [Act.put, List.setIfInBounds_toArray, List.set_cons_zero, List.set_cons_succ, i64_w, i32_w]
     rfl
    refine pure_ (i := 2) (N := some 59) (v := ?_) (a' := ?_) #[true, true, true, false, false, false, false, false, false, false, false, false, false, false, false] rfl rfl (any_of HT_.out zq23) (fun _ _ _ h => h) (Or.inl ⟨by rfl, ?_⟩) ?_ ?_
    rotate_left
    ·intro w'
     go_simp
     with_reducible rfl
    rotate_left
    ·simp only [Act.put, List.setIfInBounds_toArray, List.set_cons_zero, List.set_cons_succ, i64_w, i32_w]
     rfl
    refine pure_ (i := 3) (N := some 60) (v := ?_) (a' := ?_) #[true, true, true, true, false, false, false, false, false, false, false, false, false, false, false] rfl rfl (any_of HT_.out zq23) (fun _ _ _ h => h) (Or.inl ⟨by rfl, ?_⟩) ?_ ?_
    rotate_left
    ·intro w'
     go_simp
     with_reducible rfl
    rotate_left
    ·simp only [Act.put, List.setIfInBounds_toArray, List.set_cons_zero, List.set_cons_succ, i64_w, i32_w]
     rfl
    refine pure_ (i := 5) (N := some 62) (v := ?_) (a' := ?_) #[true, true, true, true, false, true, false, false, false, false, false, false, false, false, false] rfl rfl (any_of HT_.out zq23) (fun _ _ _ h => h) (Or.inl ⟨by rfl, ?_⟩) ?_ ?_
    rotate_left
    ·intro w'
     go_simp
     with_reducible rfl
    rotate_left
    ·simp only [Act.put, List.setIfInBounds_toArray, List.set_cons_zero, List.set_cons_succ, i64_w, i32_w]
     rfl
    refine pure_ (i := 6) (N := some 63) (v := ?_) (a' := ?_) #[true, true, true, true, false, true, true, false, false, false, false, false, false, false, false] rfl rfl (any_of HT_.out zq23) (fun _ _ _ h => h) (Or.inl ⟨by rfl, ?_⟩) ?_ ?_
    rotate_left
    ·intro w'
     go_simp
     with_reducible rfl
    rotate_left
    ·simp only [Act.put, List.setIfInBounds_toArray, List.set_cons_zero, List.set_cons_succ, i64_w, i32_w]
     rfl
    refine pure_ (i := 7) (N := some 64) (v := ?_) (a' := ?_) #[true, true, true, true, false, true, true, true, false, false, false, false, false, false, false] rfl rfl (any_of HT_.out zq23) (fun _ _ _ h => h) (Or.inl ⟨by rfl, ?_⟩) ?_ ?_
    rotate_left
    ·intro w'
     go_simp
     with_reducible rfl
    rotate_left
    ·simp only [Act.put, List.setIfInBounds_toArray, List.set_cons_zero, List.set_cons_succ, i64_w, i32_w]
     rfl
    refine pure_ (i := 8) (N := some 65) (v := ?_) (a' := ?_) #[true, true, true, true, false, true, true, true, true, false, false, false, false, false, false] rfl rfl (any_of HT_.out zq23) (fun _ _ _ h => h) (Or.inl ⟨by rfl, ?_⟩) ?_ ?_
    rotate_left
    ·intro w'
     go_simp
     with_reducible rfl
    rotate_left
    ·simp only [Act.put, List.setIfInBounds_toArray, List.set_cons_zero, List.set_cons_succ, i64_w, i32_w]
     rfl
    refine pure_ (i := 9) (N := some 66) (v := ?_) (a' := ?_) #[true, true, true, true, false, true, true, true, true, true, false, false, false, false, false] rfl rfl (any_of HT_.out zq23) (fun _ _ _ h => h) (Or.inl ⟨by rfl, ?_⟩) ?_ ?_
    rotate_left
    ·intro w'
     go_simp
     with_reducible rfl
    rotate_left
    ·simp only [Act.put, List.setIfInBounds_toArray, List.set_cons_zero, List.set_cons_succ, i64_w, i32_w]
     rfl
    refine pure_ (i := 10) (N := some 67) (v := ?_) (a' := ?_) #[true, true, true, true, false, true, true, true, true, true, true, false, false, false, false] rfl rfl (any_of HT_.out zq23) (fun _ _ _ h => h) (Or.inl ⟨by rfl, ?_⟩) ?_ ?_
    rotate_left
    ·intro w'
     go_simp
     simp only [HSL.out, Result.andThen_ok]
     with_reducible rfl
    rotate_left
    ·simp only [Act.put, List.setIfInBounds_toArray, List.set_cons_zero, List.set_cons_succ, i64_w, i32_w]
     rfl
    refine take_ (i := 4) (N := some 61) (v := ?_) (a' := ?_) #[true, true, true, true, true, true, true, true, true, true, true, false, false, false, false] rfl rfl (take_ofW HT_.out HW_.out zq23) (fun _ _ _ h => h) (Or.inl ⟨by rfl, ?_⟩) hHeld ?_ ?_
    rotate_left
    ·intro w' s0
     go_simp
     with_reducible rfl
    rotate_left
    ·simp only [Act.put, List.setIfInBounds_toArray, List.set_cons_zero, List.set_cons_succ, i64_w, i32_w]
     rfl
    refine one_ (i := 11) (N := some 68) #[true, true, true, true, true, true, true, true, true, true, true, true, false, false, false] rfl rfl (one_of HT_.out zq23) zq45 (fun K hK => ?_)
    refine append_str_step (w0 := w0) w0.heap.size (by rfl) (.tmp 61) (.tmp 67) 29 9 5 (by rfl) Tryd.underlying29 Tryd.underlying9 info5 ov' xs (s.extract i.toNat (i + sz).toNat) (fun k => k ≠ g) (by rfl) (by rfl) (fun q hq => (by have := blk_lt HD.out.blk; omega)) HD.out.row HD.out.below (below_size HD.out.below) (by rw [bytesOf_length] at hxl; omega) ?_
    intro v1 w6 ho6 hb6 hg6 hat6
    obtain ⟨A1, c1, hv6, _, _⟩ := Kd.R_reads ho6
    subst hv6
    rw [List.length_append] at ho6
    have hB6 := mk0 (blk_grown HD.out.blk hg6 (Kd.R_away HD.out.row (fun _ hk => hk)))
    have O6 := mk0 ho6
    have L6 := mk0 hb6
    clear ho6 hb6 hg6 hat6
    refine hK.out _ _ ((blk_cell hB6.out 2).trans rfl) (fun hHeld => ?_)
    clear hK K
    refine norm_ (a' := ?_) ?_ ?_
    rotate_left
    ·show Act.put _ (some 68) _ = _
     simp only [Act.put, List.setIfInBounds_toArray, List.set_cons_zero, List.set_cons_succ, i64_w, i32_w]
     rfl
    refine pure_ (i := 12) (N := some 69) (v := ?_) (a' := ?_) #[true, true, true, true, true, true, true, true, true, true, true, true, true, false, false] rfl rfl (any_of HT_.out zq23) (fun _ _ _ h => h) (Or.inl ⟨by rfl, ?_⟩) ?_ ?_
    rotate_left
    ·intro w'
     go_simp
     with_reducible rfl
    rotate_left
    ·simp only [Act.put, List.setIfInBounds_toArray, List.set_cons_zero, List.set_cons_succ, i64_w, i32_w]
     rfl
    refine pure_ (i := 13) (N := some 70) (v := ?_) (a' := ?_) #[true, true, true, true, true, true, true, true, true, true, true, true, true, true, false] rfl rfl (any_of HT_.out zq23) (fun _ _ _ h => h) (Or.inl ⟨by rfl, ?_⟩) ?_ ?_
    rotate_left
    ·intro w'
     go_simp
     with_reducible rfl
    rotate_left
    ·simp only [Act.put, List.setIfInBounds_toArray, List.set_cons_zero, List.set_cons_succ, i64_w, i32_w]
     rfl
    refine last_ (i := 14) (N := none) #[true, true, true, true, true, true, true, true, true, true, true, true, true, true, true] rfl rfl (one_of HT_.out zq23) zq45 (fun K hK => ?_)
    have hc6 : w6.cell? ⟨g, 2, none⟩ = some ov' := (blk_cell hB6.out 2).trans rfl
    have hf6 := blk_frozen hB6.out 2
    refine skip_ (w1 := ?_) (by rfl) rfl ?_ ?_
    rotate_left
    ·go_simp
     rfl
    refine hK.out _ _ ?_
    clear hK K
    refine done_ (done_of HT_.out zq23) ?_
    try go_wp2
    have HE := mk0 (HD.out.put hB6.out O6.out L6.out)
    go_roundg k
    case measure => have := HK1.out; omega
    case rel => exact ⟨i + sz, _, _, _, zq13, ⟨by have := HK1.out; omega⟩, by omega, ⟨by have := HE.out.bound; have := HF.out; rw [List.length_append]; omega⟩, HQ, HE⟩
theorem DS.alloc {w0 w : World} {g : Nat} {A : Option Addr} {n c : Nat} {code : List Int} {used : Int} {ov : Value} {out : List Int} (h : DS w0 w g A n c code used ov out) (b : Obj) : DS w0 (w.alloc b) g A n c code used ov out :=
 ⟨blk_alloc h.blk b, h.at_, h.src, Kd.R_alloc h.row b, below_alloc h.below b, h.bound, h.u8⟩
set_option maxHeartbeats 8000000 in
set_option maxRecDepth 100000 in
theorem value_calls (A2 A3 : Option Addr) (c2 c3 : Nat) (w0 w : World) (g : Nat) (A : Option Addr) (n c : Nat) (code : List Int) (used : Int) (ov : Value) (out : List Int) (s : ByteArray) (k0 : Nat) (ru : Int) (ro : List Int) (hs : s.size ≤ 2147483647) (h : DS w0 w g A n c code used ov out) (hu : used + 20 * s.size + 20 < 1099511627776) (ho : (out.length : Int) + 20 * s.size + 20 ≤ 1099511627776) (hq : quL code s k0 0 used (out ++ [34]) = some (ru, ro)) :
 Calls Tryd.prog 27 #[.pointer (some ⟨g, 0, none⟩), .agg #[.int .i64 4, .string s, .slice A2 0 c2, .slice A3 0 c3]] w fun e w' => e = .returned (.tuple #[]) ∧ ∃ ov', DS w0 w' g A n c code ru ov' (ro ++ [34]) := by
 have H := mk0 h
 have HS := mk0 fun W (hW : DS w0 W g A n c code used ov out) => quoted_calls w0 W g A n c code used ov out s k0 ru ro hs hW hu ho hq
 clear h hq
 go_enter Tryd.func27, Tryd.ntmps27
 go_wp2_with (first | (go_at_call 45; (with_reducible refine (HS.out _ (by first | exact H.out.alloc _ | exact (H.out.alloc _).drewN _)).mono ?_); rintro e w1 ⟨rfl, ov1, hd1⟩))
 go_end0
 exact ⟨rfl, ov1, hd1⟩
theorem blF_bounds (code : List Int) : ∀ (k : Nat) (used : Int) (out : List Int), used ≤ (blF code k used out).1 ∧ (blF code k used out).1 ≤ used + k ∧ (blF code k used out).2.length = out.length + k
 | 0, used, out => by simp [blF]
 | k + 1, used, out => by
  have h := blF_bounds code k (pickF code used 4).2 (out ++ [blk4 (pickF code used 4).1])
  have h2 := pick_used code used 4
  simp only [blF, List.length_append, List.length_singleton] at h ⊢
  omega
def bl4 (code : List Int) (used : Int) (out : List Int) : Int × List Int := blF code (pickF code used 4).1.toNat (pickF code used 4).2 out
theorem bl4_bounds {code : List Int} (h : ∀ x ∈ code, 0 ≤ x ∧ x ≤ 255) (used : Int) (out : List Int) : used ≤ (bl4 code used out).1 ∧ (bl4 code used out).1 ≤ used + 4 ∧ (bl4 code used out).2.length ≤ out.length + 3 := by
 have h1 := pick_range h used 4 zq45
 have h2 := pick_used code used 4
 have h3 := blF_bounds code (pickF code used 4).1.toNat (pickF code used 4).2 out
 unfold bl4
 omega
theorem quL_bounds {code : List Int} (s : ByteArray) : ∀ (k : Nat) (i used : Int) (out : List Int) (r : Int × List Int), 0 ≤ i → quL code s k i used out = some r → used ≤ r.1 ∧ (i ≤ s.size → r.1 ≤ used + 20 * (s.size - i) ∧ (r.2.length : Int) ≤ out.length + 20 * (s.size - i))
 | 0, _, _, _, _, _, h => by simp [quL] at h
 | k + 1, i, used, out, r, hi, h => by
  unfold quL at h
  split at h
  ·obtain ⟨⟨c, sz, vb⟩, hA3, h⟩ := Option.bind_eq_some_iff.mp h
   simp only at h
   split at h
   ·rename_i hg
    obtain ⟨rfl, hc0, hc1, hsz0, hsz1, hend⟩ := hg
    obtain ⟨⟨l, okb⟩, hB3, h⟩ := Option.bind_eq_some_iff.mp h
    simp only at h
    have hst : used ≤ (stepF code (mustB (bt s i)) okb l c (bytesOf (s.extract i.toNat (i + sz).toNat)) used out).1 ∧ (stepF code (mustB (bt s i)) okb l c (bytesOf (s.extract i.toNat (i + sz).toNat)) used out).1 ≤ used + 9 ∧ (stepF code (mustB (bt s i)) okb l c (bytesOf (s.extract i.toNat (i + sz).toNat)) used out).2.length ≤ out.length + 12 := by
     have h1 := pick_used code used 4
     unfold stepF
     split
     ·have h2 := escF_bounds code c (pickF code used 4).2 out
      omega
     ·split
      ·simp only [List.length_append, List.length_cons, List.length_nil]
       omega
      ·simp only [List.length_append, bytesOf_length, ByteArray.size_extract]
       omega
    generalize stepF code (mustB (bt s i)) okb l c (bytesOf (s.extract i.toNat (i + sz).toNat)) used out = st at h hst
    have ih := quL_bounds s k (i + sz) st.1 st.2 r (by omega) h
    refine ⟨by omega, fun _ => ?_⟩
    have ih2 := ih.2 hend
    omega
   ·cases h
  ·cases h
   refine ⟨by simp, fun h2 => ?_⟩
   simp only
   omega
def dressS (k : Nat) (s : ByteArray) (code : List Int) : Option ByteArray :=
  if (∀ x ∈ code, 0 ≤ x ∧ x ≤ 255) ∧ s.size ≤ 2147483647 then
    (quL code s k 0 (bl4 code 0 []).1 ((bl4 code 0 []).2 ++ [34])).bind fun q => some (strOfNums (bl4 code q.1 (q.2 ++ [34])).2)
  else none
set_option maxHeartbeats 8000000 in
set_option maxRecDepth 100000 in
theorem dress_calls (A2 A3 : Option Addr) (c2 c3 : Nat) (k : Nat) (s : ByteArray) (A : Option Addr) (c : Nat) (code : List Int) (r : ByteArray) (w : World) (hr : Kd.C (Kd.int .u8) w A code.length code) (hc : code.length ≤ c) (h : dressS k s code = some r) :
 Calls Tryd.prog 14 #[.agg #[.int .i64 4, .string s, .slice A2 0 c2, .slice A3 0 c3], .slice A code.length c] w fun e w' => e = .returned (.string r) ∧ Below w.heap.size w w' := by
 unfold dressS at h
 split at h
 case isFalse => cases h
 case isTrue hg =>
 obtain ⟨hu8, hs⟩ := hg
 obtain ⟨⟨qu, qo⟩, hq, hr2⟩ := Option.bind_eq_some_iff.mp h
 simp only at hr2
 obtain rfl := Option.some.inj hr2
 clear h hr2
 have hb1 := bl4_bounds hu8 0 []
 have hqb := quL_bounds s k 0 _ _ _ (Int.le_refl 0) hq
 have hqb2 := hqb.2 (by omega)
 have hqb1 := hqb.1
 have hb2 := bl4_bounds hu8 qu (qo ++ [34])
 simp only [List.length_append, List.length_cons, List.length_nil] at hqb1 hqb2 hb1 hb2
 have HQ := mk0 hq
 clear hq hqb
 have B1 := mk0 fun w0 W g ov (hW : DS w0 W g A code.length c code 0 ov []) => blanks_calls w0 W g A code.length c code 0 ov [] hW (by omega) (by simp)
 have V1 := mk0 fun w0 W g ov (hW : DS w0 W g A code.length c code (bl4 code 0 []).1 ov (bl4 code 0 []).2) => value_calls A2 A3 c2 c3 w0 W g A code.length c code _ ov _ s k qu qo hs hW (by omega) (by omega) HQ.out
 have B2 := mk0 fun w0 W g ov (hW : DS w0 W g A code.length c code qu ov (qo ++ [34])) => blanks_calls w0 W g A code.length c code qu ov (qo ++ [34]) hW (by omega) (by simp only [List.length_append, List.length_cons, List.length_nil]; omega)
 change Aside0 (∀ w0 W g ov, DS w0 W g A code.length c code 0 ov [] → Calls Tryd.prog _ _ W fun e w' => e = .returned (.tuple #[]) ∧ ∃ ov', DS w0 w' g A code.length c code (bl4 code 0 []).1 ov' (bl4 code 0 []).2) at B1
 change Aside0 (∀ w0 W g ov, DS w0 W g A code.length c code qu ov (qo ++ [34]) → Calls Tryd.prog _ _ W fun e w' => e = .returned (.tuple #[]) ∧ ∃ ov', DS w0 w' g A code.length c code (bl4 code qu (qo ++ [34])).1 ov' (bl4 code qu (qo ++ [34])).2) at B2
 generalize bl4 code 0 [] = p1 at B1 V1 hb1 hqb1 hqb2 HQ
 generalize bl4 code qu (qo ++ [34]) = p2 at B2 hb2 ⊢
 clear HQ
 have hC := mk0 hr
 have hU := mk0 hu8
 clear hr hu8
 go_enter Tryd.func14, Tryd.ntmps14
 have hD0 : DS (w.alloc (.cells #[.int .i64 4, .string s, .slice A2 0 c2, .slice A3 0 c3] 34)) ((w.alloc (.cells #[.int .i64 4, .string s, .slice A2 0 c2, .slice A3 0 c3] 34)).alloc (.cells #[.slice A code.length c, .int .i64 0, .slice none 0 0] 53)) (w.heap.size + 1) A code.length c code 0 (.slice none 0 0) [] :=
  ⟨by have := blk_new (w.alloc (.cells #[.int .i64 4, .string s, .slice A2 0 c2, .slice A3 0 c3] 34)) (.cells #[.slice A code.length c, .int .i64 0, .slice none 0 0] 53); simpa using this, by simp, Kd.C_below hC.out (below_alloc (Below.refl _ _) _), Kd.R_nil _ _ _ _ _, below_alloc (Below.refl _ _) _, by omega, hU.out⟩
 have hn : ∀ (W : World) (used : Int) (ov : Value) (out : List Int), DS (w.alloc (.cells #[.int .i64 4, .string s, .slice A2 0 c2, .slice A3 0 c3] 34)) W (w.heap.size + 1) A code.length c code used ov out → W.heap[w.heap.size]? = some (.cells #[.int .i64 4, .string s, .slice A2 0 c2, .slice A3 0 c3] 34 (0, 0)) ∧ Below w.heap.size w W := by
  intro W used ov out hd
  have hb := hd.below
  refine ⟨?_, ?_⟩
  ·have h1 := blk_new w (.cells #[.int .i64 4, .string s, .slice A2 0 c2, .slice A3 0 c3] 34)
   exact (hb.block w.heap.size (by simp)).trans h1
  ·refine Below.trans (below_alloc (Below.refl _ _) _) ⟨hb.os, hb.tape, hb.output, hb.size, fun k hk => hb.block k (by simp; omega)⟩
 have HD0 := mk0 hD0
 have HN := mk0 hn
 clear hD0 hn
 go_wp2_with (first | (go_at_call 26; (with_reducible refine (B1.out _ _ _ _ (by first | exact HD0.out | exact HD0.out.drewN _)).mono ?_); rintro e w1 ⟨rfl, ov1, hd1⟩; have hnb := (HN.out _ _ _ _ hd1).1; have hn0 := blk_cell hnb 0; have hn1 := blk_cell hnb 1; have hn2 := blk_cell hnb 2; have hn3 := blk_cell hnb 3; clear hnb; have K1 := mk0 hd1; clear hd1 B1 HD0) | (go_at_call 27; (with_reducible refine (V1.out _ _ _ _ (by first | exact K1.out | exact K1.out.drewN _)).mono ?_); rintro e w2 ⟨rfl, ov2, hd2⟩; clear hn0 hn1 hn2 hn3; have K2 := mk0 hd2; clear hd2 V1 K1) | (go_at_call 26; (with_reducible refine (B2.out _ _ _ _ (by first | exact K2.out | exact K2.out.drewN _)).mono ?_); rintro e w3 ⟨rfl, ov3, hd3⟩; have K3 := mk0 hd3; clear hd3 B2 K2; have hc3 : w3.cell? ⟨w.heap.size + 1, 2, none⟩ = some ov3 := (blk_cell K3.out.blk 2).trans rfl; have hcv := own_string (P := Tryd.prog) Tryd.underlying29 Tryd.underlying5 Tryd.underlying9 (Kd.own_of_R K3.out.row)))
 go_ret
 exact ⟨rfl, (HN.out _ _ _ _ K3.out).2⟩
theorem quL_mono (code : List Int) (s : ByteArray) : ∀ (k : Nat) (i used : Int) (out : List Int), LeO (quL code s k i used out) (quL code s (k + 1) i used out)
 | 0, _, _, _ => fun r h => by simp [quL] at h
 | k + 1, i, used, out => by
  rw [quL, quL]
  exact LeO.ite (LeO.bind (spec_Character.mono _ _ _) (fun _ => LeO.ite (LeO.bind (LeO.refl _) (fun _ => quL_mono code s k _ _ _)) (LeO.refl _))) (LeO.refl _)
theorem dressS_mono (k : Nat) (s : ByteArray) (code : List Int) : LeO (dressS k s code) (dressS (k + 1) s code) := by
 unfold dressS
 exact LeO.ite (LeO.bind (quL_mono _ _ _ _ _ _) (fun _ => LeO.refl _)) (LeO.refl _)
def spec_Dress.f (k : Nat) (a0_0 : Int) (a0_1 : ByteArray) (a0_2 : List ByteArray) (a0_3 : List (S34)) (a1 : List Int) : Option (ByteArray) := if a0_0 = 4 ∧ a0_2.length = 0 ∧ a0_3.length = 0 then dressS k a0_1 a1 else none
theorem spec_Dress.mono : ∀ a0_0 a0_1 a0_2 a0_3 a1 k, LeO (spec_Dress.f k a0_0 a0_1 a0_2 a0_3 a1) (spec_Dress.f (k + 1) a0_0 a0_1 a0_2 a0_3 a1) := fun _ _ _ _ _ k => LeO.ite (dressS_mono k _ _) (LeO.refl _)
theorem spec_Dress.calls (k : Nat) (a0_0 : Int) (a0_1 : ByteArray) (A2 : Option Addr) (c2 : Nat) (a0_2 : List ByteArray) (A3 : Option Addr) (c3 : Nat) (a0_3 : List (S34)) (A1 : Option Addr) (c1 : Nat) (a1 : List Int) (r : ByteArray) (w : World) (hr2 : Kd.C Kd.string w A2 a0_2.length a0_2) (hc2 : a0_2.length ≤ c2) (hr3 : Kd.C k34 w A3 a0_3.length a0_3) (hc3 : a0_3.length ≤ c3) (hr1 : Kd.C (Kd.int .u8) w A1 a1.length a1) (hc1 : a1.length ≤ c1) (h : spec_Dress.f k a0_0 a0_1 a0_2 a0_3 a1 = some r) :
 Calls Tryd.prog 14 #[.agg #[.int .i64 a0_0, .string a0_1, .slice A2 a0_2.length c2, .slice A3 a0_3.length c3], .slice A1 a1.length c1] w fun e w' => e = .returned (.string r) ∧ Below w.heap.size w w' := by
 unfold spec_Dress.f at h
 split at h
 case isFalse => cases h
 case isTrue hg =>
 obtain ⟨rfl, h2, h3⟩ := hg
 rw [h2, h3]
 exact dress_calls A2 A3 c2 c3 k a0_1 A1 c1 a1 r w hr1 hc1 h
end Go.Proofs.YtaigbkkgmncipaaDoor.Y
end
section
namespace Go.Proofs.YtaigbkkgmncipaaDoor.Y
open Go.RowKit Go.Proofs.YtaigbkkgmncipaaDoorW.PrintWords Go.Proofs.YtaigbkkgmncipaaDoorW.PrintLast Go.Proofs.YtaigbkkgmncipaaDoorW.PrintMore
attribute [local go_sem] max2_int min2_int max_two min_two max_three min_three max_four min_four
set_option linter.unusedVariables false
set_option linter.unusedSimpArgs false
def spec_Blank.f (a0 : Int) : Option (Bool) := if a0 = 32 then (some true) else (if a0 = 9 then (some true) else (if a0 = 10 then (some true) else (some (a0 == 13))))
set_option maxHeartbeats 8000000 in
set_option maxRecDepth 100000 in
theorem spec_Blank.calls (a0 : Int) (r : Bool) (w : World) (h : spec_Blank.f a0 = some r) :
 Calls Tryd.prog 47 #[.int .u8 a0] w fun e w' => e = .returned (.bool r) ∧ Drawn0 w w' := by
 have H : (if a0 = 32 then (some true) else (if a0 = 9 then (some true) else (if a0 = 10 then (some true) else (some (a0 == 13))))) = some r := h
 clear h
 by_cases c2 : a0 = 32
 ·rw [if_pos c2] at H
  have c2b0 : (a0 == 32) = true := beq_iff_eq.mpr c2
  have c2b1 : (a0 != 32) = false := bne_eq_false_iff_eq.mpr c2
  clear c2
  obtain rfl := Option.some.inj H
  go_enter Tryd.func47, Tryd.ntmps47
  go_wp2
  go_ret
  exact ⟨by first | rfl | (simp; done) | (simp [*]; done), by repeat (first | exact Drawn0.refl _ | apply Drawn0.step)⟩
 rw [if_neg c2] at H
 have c2b0 : (a0 == 32) = false := beq_eq_false_iff_ne.mpr c2
 have c2b1 : (a0 != 32) = true := bne_iff_ne.mpr c2
 by_cases c3 : a0 = 9
 ·rw [if_pos c3] at H
  have c3b0 : (a0 == 9) = true := beq_iff_eq.mpr c3
  have c3b1 : (a0 != 9) = false := bne_eq_false_iff_eq.mpr c3
  clear c3
  obtain rfl := Option.some.inj H
  go_enter Tryd.func47, Tryd.ntmps47
  go_wp2
  go_ret
  exact ⟨by first | rfl | (simp; done) | (simp [*]; done), by repeat (first | exact Drawn0.refl _ | apply Drawn0.step)⟩
 rw [if_neg c3] at H
 have c3b0 : (a0 == 9) = false := beq_eq_false_iff_ne.mpr c3
 have c3b1 : (a0 != 9) = true := bne_iff_ne.mpr c3
 by_cases c4 : a0 = 10
 rotate_left
 ·rw [if_neg c4] at H
  have c4b0 : (a0 == 10) = false := beq_eq_false_iff_ne.mpr c4
  have c4b1 : (a0 != 10) = true := bne_iff_ne.mpr c4
  obtain rfl := Option.some.inj H
  go_enter Tryd.func47, Tryd.ntmps47
  go_wp2
  go_ret
  exact ⟨by first | rfl | (simp; done) | (simp [*]; done), by repeat (first | exact Drawn0.refl _ | apply Drawn0.step)⟩
 rw [if_pos c4] at H
 have c4b0 : (a0 == 10) = true := beq_iff_eq.mpr c4
 have c4b1 : (a0 != 10) = false := bne_eq_false_iff_eq.mpr c4
 clear c4
 obtain rfl := Option.some.inj H
 go_enter Tryd.func47, Tryd.ntmps47
 go_wp2
 go_ret
 exact ⟨by first | rfl | (simp; done) | (simp [*]; done), by repeat (first | exact Drawn0.refl _ | apply Drawn0.step)⟩
def IsS56 (w0 W : World) (g : Nat) (f0 : ByteArray) (f1 : Int) : Prop := W.heap[g]? = some (.cells #[.string f0, .int .i64 f1] 56 (0, 0)) ∧ w0.heap.size ≤ g
theorem IsS56.grown {w0 W : World} {g : Nat} {f0 : ByteArray} {f1 : Int} {W1 : World} {row : Option Nat} (h : IsS56 w0 W g f0 f1) (hw : W.grownBy W1 row) (hne : some g ≠ row) : IsS56 w0 W1 g f0 f1 := by
 obtain ⟨hb, hg⟩ := h
 exact ⟨blk_grown hb hw hne, hg⟩
theorem IsS56.kept {w0 W : World} {g : Nat} {f0 : ByteArray} {f1 : Int} {W1 : World} {S : Nat → Prop} (h : IsS56 w0 W g f0 f1) (hk : Kept W W1 S) (hne : ¬ S g) : IsS56 w0 W1 g f0 f1 := by
 obtain ⟨hb, hg⟩ := h
 exact ⟨blk_kept hb hk hne, hg⟩
theorem IsS56.below {w0 W : World} {g : Nat} {f0 : ByteArray} {f1 : Int} {W1 : World} (h : IsS56 w0 W g f0 f1) (hw : Below W.heap.size W W1) : IsS56 w0 W1 g f0 f1 := h.grown (grown_of_below hw none) (by simp)
theorem IsS56.alloc {w0 W : World} {g : Nat} {f0 : ByteArray} {f1 : Int} (h : IsS56 w0 W g f0 f1) (o : Obj) : IsS56 w0 (W.alloc o) g f0 f1 := h.below (below_alloc (Below.refl _ _) o)
theorem IsS56.drewN {w0 W : World} {g : Nat} {f0 : ByteArray} {f1 : Int} (h : IsS56 w0 W g f0 f1) (m : Nat) : IsS56 w0 (W.drewN m) g f0 f1 := h
theorem IsS56.drew {w0 W : World} {g : Nat} {f0 : ByteArray} {f1 : Int} (h : IsS56 w0 W g f0 f1) : IsS56 w0 W.drew g f0 f1 := h
theorem IsS56.at_ {w0 W : World} {g : Nat} {f0 : ByteArray} {f1 : Int} {w' : World} {m : Nat} (hq : W.drewN m = w') (h : IsS56 w0 W g f0 f1) : IsS56 w0 w' g f0 f1 := by subst hq; exact IsS56.drewN h m
theorem IsS56.apart {w0 W : World} {g : Nat} {f0 : ByteArray} {f1 : Int} {α : Type} {d : Kd α} {e : Nat} {base : Nat} {ok : Nat → Prop} {v : Value} {xs : List α} (h : IsS56 w0 W g f0 f1) (ho : d.R e W base ok v xs) (ht : ∀ q, q ∈ e :: d.E → q ≠ 56) : d.R e W base (fun k => ok k ∧ k ≠ g) v xs := by
 obtain ⟨hb, hg⟩ := h
 exact Kd.R_types ho hb ht
theorem IsS56.own_ne {w0 W : World} {g : Nat} {f0 : ByteArray} {f1 : Int} {α : Type} {d : Kd α} {e : Nat} {base : Nat} {ok : Nat → Prop} {v : Value} {xs : List α} (h : IsS56 w0 W g f0 f1) (ho : d.R e W base ok v xs) (ht : e ≠ 56) : some g ≠ v.ownBlock := by
 obtain ⟨hb, hg⟩ := h
 exact Kd.R_ne ho hb ht
theorem IsS56.lt {w0 W : World} {g : Nat} {f0 : ByteArray} {f1 : Int} (h : IsS56 w0 W g f0 f1) : g < W.heap.size := by
 obtain ⟨hb, hg⟩ := h
 exact blk_lt hb
theorem IsS56.ge {w0 W : World} {g : Nat} {f0 : ByteArray} {f1 : Int} (h : IsS56 w0 W g f0 f1) : w0.heap.size ≤ g := by
 obtain ⟨hb, hg⟩ := h
 exact hg
theorem IsS56.far {w0 W : World} {g : Nat} {f0 : ByteArray} {f1 : Int} {p : Addr} (h : IsS56 w0 W g f0 f1) (hne : g ≠ p.block) (u : Value) : IsS56 w0 (W.setCell p u) g f0 f1 := by
 obtain ⟨hb, hg⟩ := h
 exact ⟨blk_far hb hne u, hg⟩
theorem cellS56_0 {W : World} {g : Nat} {f0 : ByteArray} {f1 : Int} (h : W.heap[g]? = some (.cells #[.string f0, .int .i64 f1] 56 (0, 0))) : W.cell? ⟨g, 0, none⟩ = some (.string f0) := (blk_cell h 0).trans rfl
theorem IsS56.set_0 {w0 W : World} {g : Nat} {f0 : ByteArray} {f1 : Int} (h : IsS56 w0 W g f0 f1) (x : ByteArray) : IsS56 w0 (W.setCell ⟨g, 0, none⟩ (.string x)) g x f1 := by
 obtain ⟨hb, hg⟩ := h
 exact ⟨by simpa using blk_set hb 0 (.string x), hg⟩
theorem cellS56_1 {W : World} {g : Nat} {f0 : ByteArray} {f1 : Int} (h : W.heap[g]? = some (.cells #[.string f0, .int .i64 f1] 56 (0, 0))) : W.cell? ⟨g, 1, none⟩ = some (.int .i64 f1) := (blk_cell h 1).trans rfl
theorem IsS56.set_1 {w0 W : World} {g : Nat} {f0 : ByteArray} {f1 : Int} (h : IsS56 w0 W g f0 f1) (x : Int) : IsS56 w0 (W.setCell ⟨g, 1, none⟩ (.int .i64 x)) g f0 x := by
 obtain ⟨hb, hg⟩ := h
 exact ⟨by simpa using blk_set hb 1 (.int .i64 x), hg⟩
theorem IsS56.new (w0 W : World) (f0 : ByteArray) (f1 : Int) (hB : Below w0.heap.size w0 W) : IsS56 w0 (W.alloc (.cells #[.string f0, .int .i64 f1] 56)) W.heap.size f0 f1 := ⟨by simpa using heap_alloc_new W _, hB.size⟩
def spec_reader_blanks.l0 : Nat → ByteArray → Int → Option (ByteArray × Int)
  | 0, _, _ => none
  | k + 1, x1000, x1001 => if x1001 < (x1000.size : Int) then (if 0 ≤ x1001 then ((spec_Blank.f (bt x1000 x1001)).bind fun t101 => (if t101 = true then (spec_reader_blanks.l0 k x1000 (wrap64 (x1001 + 1))) else (some (x1000, x1001)))) else (none)) else (some (x1000, x1001))
def spec_reader_blanks.f (k : Nat) (s0_0 : ByteArray) (s0_1 : Int) : Option (ByteArray × Int) := spec_reader_blanks.l0 k s0_0 s0_1
theorem spec_reader_blanks.mono_l : ∀ k, (∀ y0 y1, LeO (spec_reader_blanks.l0 k y0 y1) (spec_reader_blanks.l0 (k + 1) y0 y1))
 | 0 => fun _ _ r h => by simp [spec_reader_blanks.l0] at h
 | k + 1 => by
  have ih0 := spec_reader_blanks.mono_l k
  ·intro y0 y1
   unfold spec_reader_blanks.l0
   repeat' first
   | (with_reducible exact ih0 _ _)
   | (with_reducible exact LeO.refl _)
   | (with_reducible exact LeO.none _)
   | (with_reducible refine LeO.ite ?_ ?_)
   | (with_reducible refine LeO.bind ?_ (fun _ => ?_))
   | exact ih0 _ _
   | exact LeO.none _
   | refine LeO.ite ?_ ?_
   | refine LeO.bind ?_ (fun _ => ?_)
theorem spec_reader_blanks.mono : ∀ a0 a1 k, LeO (spec_reader_blanks.f k a0 a1) (spec_reader_blanks.f (k + 1) a0 a1) := by
 intro a0 a1 k
 have ih0 := spec_reader_blanks.mono_l k
 unfold spec_reader_blanks.f
 repeat' first
  | (with_reducible exact ih0 _ _)
  | (with_reducible exact LeO.refl _)
  | (with_reducible exact LeO.none _)
  | (with_reducible refine LeO.ite ?_ ?_)
  | (with_reducible refine LeO.bind ?_ (fun _ => ?_))
  | exact ih0 _ _
  | exact LeO.none _
  | refine LeO.ite ?_ ?_
  | refine LeO.bind ?_ (fun _ => ?_)
set_option maxHeartbeats 8000000 in
set_option maxRecDepth 100000 in
theorem spec_reader_blanks.calls (k : Nat) (g : Nat) (s0_0 : ByteArray) (s0_1 : Int) (r1 : ByteArray) (r2 : Int) (w0 w : World) (hI : IsS56 w0 w g s0_0 s0_1) (hB : Below w0.heap.size w0 w) (h : spec_reader_blanks.f k s0_0 s0_1 = some (r1, r2)) :
 Calls Tryd.prog 28 #[.pointer (some ⟨g, 0, none⟩)] w fun e w' => e = .returned (.tuple #[]) ∧ IsS56 w0 w' g r1 r2 ∧ Below w0.heap.size w0 w' ∧ KeepBut w w' g none := by
 have HI0 := mk0 hI
 have HK := mk0 (KeepBut.refl w g none)
 have HL := mk0 hB.size
 clear hI
 have HW0 := mk0 hB.size
 have HB := mk0 hB
 clear hB
 have H : (spec_reader_blanks.l0 k s0_0 s0_1) = some (r1, r2) := h
 clear h
 have H' := mk0 H
 clear H
 go_enter Tryd.func28, Tryd.ntmps28
 go_wp2
 repeat (go_quiet (fail); try go_wp2)
 go_loopg [] k (fun kq w' => ∃ (x1001_1 : Int), Aside0 (spec_reader_blanks.l0 kq s0_0 x1001_1 = some (r1, r2)) ∧ Aside0 (kq ≤ k) ∧ Aside0 (IsS56 w0 w' g s0_0 x1001_1) ∧ Aside0 (KeepBut w w' g none) ∧ Aside0 (Below w0.heap.size w0 w'))
 case atStart => exact ⟨(s0_1), H', ⟨Nat.le_refl _⟩, ⟨by repeat (first | (with_reducible first | exact HI0.out | apply IsS56.alloc | apply IsS56.drewN | apply IsS56.drew | apply IsS56.set_0 | apply IsS56.set_1) | exact HI0.out)⟩, ⟨by repeat (first | (with_reducible first | exact HK.out | apply KeepBut.set_ | apply keep_drewN | apply keep_drew | apply keep_alloc) | exact HK.out)⟩, ⟨by repeat (first | (with_reducible first | exact HB.out | apply below_alloc | apply pw_below_drewN | apply below_drew1 | refine below_set ?_ (IsS56.ge HI0.out)) | exact HB.out)⟩⟩
 case round =>
  clear H'
  obtain ⟨x1001_1, HA, HK1, HI0, HK, HB⟩ := hrel
  cases gk with
  | zero => exact absurd HA.out (by simp [spec_reader_blanks.l0])
  | succ k1 =>
   have H := HA.out
   clear HA
   simp only [spec_reader_blanks.l0] at H
   by_cases c2 : x1001_1 < (s0_0.size : Int)
   rotate_left
   ·rw [if_neg c2] at H
    have c2b0 : decide (x1001_1 < (s0_0.size : Int)) = false := decide_eq_false c2
    clear c2
    simp only [Option.some.injEq, Prod.mk.injEq] at H
    obtain ⟨rfl, rfl⟩ := H
    obtain ⟨HGz9, hgz9⟩ := HI0.out
    have hcz9_0 := cellS56_0 HGz9
    have hcz9_1 := cellS56_1 HGz9
    have hfz9_0 := blk_frozen HGz9 0
    have hfz9_1 := blk_frozen HGz9 1
    clear HGz9 hgz9
    go_wp2
    repeat (go_quiet (fail); try go_wp2)
    first | go_end0 | ((try simp only [Exit.inBlock, Exit.then]); refine bodyPost_ret (results_none rfl _ _ _) rfl ?_)
    exact ⟨by first | rfl | (simp [errW_none, errW_some] <;> rfl) | (simp [*, errW_none, errW_some] <;> rfl), by repeat (first | (with_reducible first | exact HI0.out | apply IsS56.alloc | apply IsS56.drewN | apply IsS56.drew | apply IsS56.set_0 | apply IsS56.set_1) | exact HI0.out), by repeat (first | (with_reducible first | exact HB.out | apply below_alloc | apply pw_below_drewN | apply below_drew1 | refine below_set ?_ (IsS56.ge HI0.out)) | exact HB.out), by repeat (first | (with_reducible first | exact HK.out | apply KeepBut.set_ | apply keep_drewN | apply keep_drew | apply keep_alloc) | exact HK.out)⟩
   rw [if_pos c2] at H
   have c2b0 : decide (x1001_1 < (s0_0.size : Int)) = true := decide_eq_true c2
   clear c2
   by_cases c3 : 0 ≤ x1001_1
   rotate_left
   ·rw [if_neg c3] at H
    exact absurd H (by simp)
   rw [if_pos c3] at H
   have c3b0 : decide (0 ≤ x1001_1) = true := decide_eq_true c3
   clear c3
   replace H := Option.bind_eq_some_iff.mp H
   obtain ⟨t101, A50, H⟩ := H
   replace H : (if t101 = true then (spec_reader_blanks.l0 k1 s0_0 (wrap64 (x1001_1 + 1))) else (some (s0_0, x1001_1))) = some (r1, r2) := H
   have A5 := mk0 A50
   clear A50
   by_cases c6 : t101 = true
   ·subst c6
    have H1 : (spec_reader_blanks.l0 k1 s0_0 (wrap64 (x1001_1 + 1))) = some (r1, r2) := by rw [if_pos rfl] at H; exact H
    clear H
    have H := H1
    clear H1
    have H' := mk0 H
    clear H
    obtain ⟨HGz7, hgz7⟩ := HI0.out
    have hcz7_0 := cellS56_0 HGz7
    have hcz7_1 := cellS56_1 HGz7
    have hfz7_0 := blk_frozen HGz7 0
    have hfz7_1 := blk_frozen HGz7 1
    clear HGz7 hgz7
    have p4 : 0 ≤ (x1001_1 : Int) := of_decide_eq_true zq9
    have q4 : x1001_1 < (s0_0.size : Int) := of_decide_eq_true zq9
    have hx4 := bt_at s0_0 x1001_1
    replace p4 := eq_true p4
    replace q4 := eq_true q4
    go_wp2_with (first | (go_at_call 47; (with_reducible refine (spec_Blank.calls (bt s0_0 x1001_1) true _ A5.out).mono ?_); rintro e w' ⟨rfl, ⟨nd, rfl⟩⟩; (try first | exact ⟨rfl, _, World.drewN_drewN _ _ _⟩ | exact ⟨rfl, _, Eq.trans (World.drewN_drewN _ _ _) (congrArg (World.drewN _) (Nat.add_assoc _ _ _))⟩)))
    repeat (go_quiet (first | (go_at_call 47; (with_reducible refine (spec_Blank.calls (bt s0_0 x1001_1) true _ A5.out).mono ?_); rintro e w' ⟨rfl, ⟨nd, rfl⟩⟩; (try first | exact ⟨rfl, _, World.drewN_drewN _ _ _⟩ | exact ⟨rfl, _, Eq.trans (World.drewN_drewN _ _ _) (congrArg (World.drewN _) (Nat.add_assoc _ _ _))⟩))); try go_wp2_with (first | (go_at_call 47; (with_reducible refine (spec_Blank.calls (bt s0_0 x1001_1) true _ A5.out).mono ?_); rintro e w' ⟨rfl, ⟨nd, rfl⟩⟩; (try first | exact ⟨rfl, _, World.drewN_drewN _ _ _⟩ | exact ⟨rfl, _, Eq.trans (World.drewN_drewN _ _ _) (congrArg (World.drewN _) (Nat.add_assoc _ _ _))⟩))))
    go_roundg k1
    case measure => have := HK1.out; omega
    case rel => exact ⟨(wrap64 (x1001_1 + 1)), H', ⟨by have := HK1.out; omega⟩, ⟨by repeat (first | (with_reducible first | exact HI0.out | apply IsS56.alloc | apply IsS56.drewN | apply IsS56.drew | apply IsS56.set_0 | apply IsS56.set_1) | exact HI0.out)⟩, ⟨by repeat (first | (with_reducible first | exact HK.out | apply KeepBut.set_ | apply keep_drewN | apply keep_drew | apply keep_alloc) | exact HK.out)⟩, ⟨by repeat (first | (with_reducible first | exact HB.out | apply below_alloc | apply pw_below_drewN | apply below_drew1 | refine below_set ?_ (IsS56.ge HI0.out)) | exact HB.out)⟩⟩
   replace c6 := Bool.eq_false_iff.mpr c6
   subst c6
   have H1 : (some (s0_0, x1001_1)) = some (r1, r2) := by rw [if_neg (show ¬ (false = true) by decide)] at H; exact H
   clear H
   have H := H1
   clear H1
   simp only [Option.some.injEq, Prod.mk.injEq] at H
   obtain ⟨rfl, rfl⟩ := H
   obtain ⟨HGz8, hgz8⟩ := HI0.out
   have hcz8_0 := cellS56_0 HGz8
   have hcz8_1 := cellS56_1 HGz8
   have hfz8_0 := blk_frozen HGz8 0
   have hfz8_1 := blk_frozen HGz8 1
   clear HGz8 hgz8
   have p4 : 0 ≤ (x1001_1 : Int) := of_decide_eq_true zq9
   have q4 : x1001_1 < (s0_0.size : Int) := of_decide_eq_true zq9
   have hx4 := bt_at s0_0 x1001_1
   replace p4 := eq_true p4
   replace q4 := eq_true q4
   go_wp2_with (first | (go_at_call 47; (with_reducible refine (spec_Blank.calls (bt s0_0 x1001_1) false _ A5.out).mono ?_); rintro e w' ⟨rfl, ⟨nd, rfl⟩⟩; (try first | exact ⟨rfl, _, World.drewN_drewN _ _ _⟩ | exact ⟨rfl, _, Eq.trans (World.drewN_drewN _ _ _) (congrArg (World.drewN _) (Nat.add_assoc _ _ _))⟩)))
   repeat (go_quiet (first | (go_at_call 47; (with_reducible refine (spec_Blank.calls (bt s0_0 x1001_1) false _ A5.out).mono ?_); rintro e w' ⟨rfl, ⟨nd, rfl⟩⟩; (try first | exact ⟨rfl, _, World.drewN_drewN _ _ _⟩ | exact ⟨rfl, _, Eq.trans (World.drewN_drewN _ _ _) (congrArg (World.drewN _) (Nat.add_assoc _ _ _))⟩))); try go_wp2_with (first | (go_at_call 47; (with_reducible refine (spec_Blank.calls (bt s0_0 x1001_1) false _ A5.out).mono ?_); rintro e w' ⟨rfl, ⟨nd, rfl⟩⟩; (try first | exact ⟨rfl, _, World.drewN_drewN _ _ _⟩ | exact ⟨rfl, _, Eq.trans (World.drewN_drewN _ _ _) (congrArg (World.drewN _) (Nat.add_assoc _ _ _))⟩))))
   first | go_end0 | ((try simp only [Exit.inBlock, Exit.then]); refine bodyPost_ret (results_none rfl _ _ _) rfl ?_)
   exact ⟨by first | rfl | (simp [errW_none, errW_some] <;> rfl) | (simp [*, errW_none, errW_some] <;> rfl), by repeat (first | (with_reducible first | exact HI0.out | apply IsS56.alloc | apply IsS56.drewN | apply IsS56.drew | apply IsS56.set_0 | apply IsS56.set_1) | exact HI0.out), by repeat (first | (with_reducible first | exact HB.out | apply below_alloc | apply pw_below_drewN | apply below_drew1 | refine below_set ?_ (IsS56.ge HI0.out)) | exact HB.out), by repeat (first | (with_reducible first | exact HK.out | apply KeepBut.set_ | apply keep_drewN | apply keep_drew | apply keep_alloc) | exact HK.out)⟩
def spec_reader_here.f (s0_0 : ByteArray) (s0_1 : Int) : Option (Int × ByteArray × Int) := if s0_1 < (s0_0.size : Int) then (if 0 ≤ s0_1 then (some (bt s0_0 s0_1, s0_0, s0_1)) else (none)) else (some (0, s0_0, s0_1))
set_option maxHeartbeats 8000000 in
set_option maxRecDepth 100000 in
theorem spec_reader_here.calls (g : Nat) (s0_0 : ByteArray) (s0_1 : Int) (r1 : Int) (r2 : ByteArray) (r3 : Int) (w0 w : World) (hI : IsS56 w0 w g s0_0 s0_1) (hB : Below w0.heap.size w0 w) (h : spec_reader_here.f s0_0 s0_1 = some (r1, r2, r3)) :
 Calls Tryd.prog 48 #[.pointer (some ⟨g, 0, none⟩)] w fun e w' => e = .returned (.int .u8 r1) ∧ IsS56 w0 w' g r2 r3 ∧ Below w0.heap.size w0 w' ∧ KeepBut w w' g none := by
 have HI0 := mk0 hI
 have HK := mk0 (KeepBut.refl w g none)
 have HL := mk0 hB.size
 clear hI
 have HW0 := mk0 hB.size
 have HB := mk0 hB
 clear hB
 have H : (if s0_1 < (s0_0.size : Int) then (if 0 ≤ s0_1 then (some (bt s0_0 s0_1, s0_0, s0_1)) else (none)) else (some (0, s0_0, s0_1))) = some (r1, r2, r3) := h
 clear h
 by_cases c2 : s0_1 < (s0_0.size : Int)
 rotate_left
 ·rw [if_neg c2] at H
  have c2b0 : decide (s0_1 < (s0_0.size : Int)) = false := decide_eq_false c2
  clear c2
  simp only [Option.some.injEq, Prod.mk.injEq] at H
  obtain ⟨rfl, rfl, rfl⟩ := H
  obtain ⟨HGz6, hgz6⟩ := HI0.out
  have hcz6_0 := cellS56_0 HGz6
  have hcz6_1 := cellS56_1 HGz6
  have hfz6_0 := blk_frozen HGz6 0
  have hfz6_1 := blk_frozen HGz6 1
  clear HGz6 hgz6
  go_enter Tryd.func48, Tryd.ntmps48
  go_wp2
  repeat (go_quiet (fail); try go_wp2)
  go_ret
  exact ⟨by first | rfl | (simp [errW_none, errW_some] <;> rfl) | (simp [*, errW_none, errW_some] <;> rfl), by repeat (first | (with_reducible first | exact HI0.out | apply IsS56.alloc | apply IsS56.drewN | apply IsS56.drew | apply IsS56.set_0 | apply IsS56.set_1) | exact HI0.out), by repeat (first | (with_reducible first | exact HB.out | apply below_alloc | apply pw_below_drewN | apply below_drew1 | refine below_set ?_ (IsS56.ge HI0.out)) | exact HB.out), by repeat (first | (with_reducible first | exact HK.out | apply KeepBut.set_ | apply keep_drewN | apply keep_drew | apply keep_alloc) | exact HK.out)⟩
 rw [if_pos c2] at H
 have c2b0 : decide (s0_1 < (s0_0.size : Int)) = true := decide_eq_true c2
 clear c2
 by_cases c3 : 0 ≤ s0_1
 rotate_left
 ·rw [if_neg c3] at H
  exact absurd H (by simp)
 rw [if_pos c3] at H
 have c3b0 : decide (0 ≤ s0_1) = true := decide_eq_true c3
 clear c3
 simp only [Option.some.injEq, Prod.mk.injEq] at H
 obtain ⟨rfl, rfl, rfl⟩ := H
 obtain ⟨HGz5, hgz5⟩ := HI0.out
 have hcz5_0 := cellS56_0 HGz5
 have hcz5_1 := cellS56_1 HGz5
 have hfz5_0 := blk_frozen HGz5 0
 have hfz5_1 := blk_frozen HGz5 1
 clear HGz5 hgz5
 have p4 : 0 ≤ (s0_1 : Int) := of_decide_eq_true zq9
 have q4 : s0_1 < (s0_0.size : Int) := of_decide_eq_true zq9
 have hx4 := bt_at s0_0 s0_1
 replace p4 := eq_true p4
 replace q4 := eq_true q4
 go_enter Tryd.func48, Tryd.ntmps48
 go_wp2
 repeat (go_quiet (fail); try go_wp2)
 go_ret
 exact ⟨by first | rfl | (simp [errW_none, errW_some] <;> rfl) | (simp [*, errW_none, errW_some] <;> rfl), by repeat (first | (with_reducible first | exact HI0.out | apply IsS56.alloc | apply IsS56.drewN | apply IsS56.drew | apply IsS56.set_0 | apply IsS56.set_1) | exact HI0.out), by repeat (first | (with_reducible first | exact HB.out | apply below_alloc | apply pw_below_drewN | apply below_drew1 | refine below_set ?_ (IsS56.ge HI0.out)) | exact HB.out), by repeat (first | (with_reducible first | exact HK.out | apply KeepBut.set_ | apply keep_drewN | apply keep_drew | apply keep_alloc) | exact HK.out)⟩
mutual
def spec_hexDigit.j0 : Nat → Int → Bool → Option (Int × Bool)
  | 0, _, _ => none
  | k + 1, x0, x4 => if x4 = true then (some ((x0 - 48) % 256, true)) else (if 97 ≤ x0 then (spec_hexDigit.j1 k x0 (decide (x0 ≤ 102))) else (spec_hexDigit.j1 k x0 false))
def spec_hexDigit.j1 : Nat → Int → Bool → Option (Int × Bool)
  | 0, _, _ => none
  | k + 1, x0, x14 => if x14 = true then (some (((x0 - 97) % 256) + 10, true)) else (if 65 ≤ x0 then (if x0 ≤ 70 then (some (((x0 - 65) % 256) + 10, true)) else (some (0, false))) else (some (0, false)))
end
def spec_hexDigit.f (k : Nat) (a0 : Int) : Option (Int × Bool) := if 48 ≤ a0 then (spec_hexDigit.j0 k a0 (decide (a0 ≤ 57))) else (spec_hexDigit.j0 k a0 false)
theorem spec_hexDigit.mono_l : ∀ k, (∀ y0 y1, LeO (spec_hexDigit.j0 k y0 y1) (spec_hexDigit.j0 (k + 1) y0 y1)) ∧ (∀ y0 y1, LeO (spec_hexDigit.j1 k y0 y1) (spec_hexDigit.j1 (k + 1) y0 y1))
 | 0 => ⟨fun _ _ r h => by simp [spec_hexDigit.j0] at h, fun _ _ r h => by simp [spec_hexDigit.j1] at h⟩
 | k + 1 => by
  obtain ⟨ih0, ih1⟩ := spec_hexDigit.mono_l k
  refine ⟨?_, ?_⟩
  ·intro y0 y1
   unfold spec_hexDigit.j0
   repeat' first
   | (with_reducible exact ih0 _ _)
   | (with_reducible exact ih1 _ _)
   | (with_reducible exact LeO.refl _)
   | (with_reducible exact LeO.none _)
   | (with_reducible refine LeO.ite ?_ ?_)
   | (with_reducible refine LeO.bind ?_ (fun _ => ?_))
   | exact ih0 _ _
   | exact ih1 _ _
   | exact LeO.none _
   | refine LeO.ite ?_ ?_
   | refine LeO.bind ?_ (fun _ => ?_)
  ·intro y0 y1
   unfold spec_hexDigit.j1
   repeat' first
   | (with_reducible exact ih0 _ _)
   | (with_reducible exact ih1 _ _)
   | (with_reducible exact LeO.refl _)
   | (with_reducible exact LeO.none _)
   | (with_reducible refine LeO.ite ?_ ?_)
   | (with_reducible refine LeO.bind ?_ (fun _ => ?_))
   | exact ih0 _ _
   | exact ih1 _ _
   | exact LeO.none _
   | refine LeO.ite ?_ ?_
   | refine LeO.bind ?_ (fun _ => ?_)
theorem spec_hexDigit.mono : ∀ a0 k, LeO (spec_hexDigit.f k a0) (spec_hexDigit.f (k + 1) a0) := by
 intro a0 k
 obtain ⟨ih0, ih1⟩ := spec_hexDigit.mono_l k
 unfold spec_hexDigit.f
 repeat' first
  | (with_reducible exact ih0 _ _)
  | (with_reducible exact ih1 _ _)
  | (with_reducible exact LeO.refl _)
  | (with_reducible exact LeO.none _)
  | (with_reducible refine LeO.ite ?_ ?_)
  | (with_reducible refine LeO.bind ?_ (fun _ => ?_))
  | exact ih0 _ _
  | exact ih1 _ _
  | exact LeO.none _
  | refine LeO.ite ?_ ?_
  | refine LeO.bind ?_ (fun _ => ?_)
set_option maxHeartbeats 8000000 in
set_option maxRecDepth 100000 in
theorem spec_hexDigit.calls (k : Nat) (a0 : Int) (r1 : Int) (r2 : Bool) (w : World) (h : spec_hexDigit.f k a0 = some (r1, r2)) :
 Calls Tryd.prog 54 #[.int .u8 a0] w fun e w' => e = .returned (.tuple #[.int .i64 r1, .bool r2]) ∧ Drawn0 w w' := by
 have H : (if 48 ≤ a0 then (spec_hexDigit.j0 k a0 (decide (a0 ≤ 57))) else (spec_hexDigit.j0 k a0 false)) = some (r1, r2) := h
 clear h
 have HC2 := mk0 H
 clear H
 go_enter Tryd.func54, Tryd.ntmps54
 go_upto_region 1 with (fail)
 go_cut [4] (fun v4 wc => ∃ (kq : Nat) (x4_1 : Bool), v4 = .bool x4_1 ∧ Aside0 (spec_hexDigit.j0 kq a0 x4_1 = some (r1, r2)) ∧ Aside0 (kq ≤ k) ∧ Drawn0 w wc)
 case first =>
  have H := HC2.out
  clear HC2
  by_cases c3 : 48 ≤ a0
  rotate_left
  ·rw [if_neg c3] at H
   have c3b0 : decide (48 ≤ a0) = false := decide_eq_false c3
   clear c3
   (first | rw [c3b0] | (simp only [i64_w, i32_w]; rw [c3b0]) | skip)
   have H' := mk0 H
   clear H
   go_wp2
   go_meet
   case rel => exact ⟨_, (false), zq13, H', ⟨by first | omega | exact Nat.le_refl _⟩, by repeat (first | exact Drawn0.refl _ | apply Drawn0.step)⟩
  rw [if_pos c3] at H
  have c3b0 : decide (48 ≤ a0) = true := decide_eq_true c3
  clear c3
  (first | rw [c3b0] | (simp only [i64_w, i32_w]; rw [c3b0]) | skip)
  have H' := mk0 H
  clear H
  go_wp2
  go_meet
  case rel => exact ⟨_, (decide (a0 ≤ 57)), zq13, H', ⟨by first | omega | exact Nat.le_refl _⟩, by repeat (first | exact Drawn0.refl _ | apply Drawn0.step)⟩
 case rest =>
  clear HC2
  try clear p2
  try clear c3
  try clear c3b0
  obtain ⟨kq, x4_1, rfl, HA, HJ1, ⟨mc1, rfl⟩⟩ := hcut
  cases kq with
  | zero => exact absurd HA.out (by simp [spec_hexDigit.j0])
  | succ kj1 =>
   have H := HA.out
   clear HA
   simp only [spec_hexDigit.j0] at H
   by_cases c4 : x4_1 = true
   ·subst c4
    have H1 : (some ((a0 - 48) % 256, true)) = some (r1, r2) := by rw [if_pos rfl] at H; exact H
    clear H
    have H := H1
    clear H1
    simp only [Option.some.injEq, Prod.mk.injEq] at H
    obtain ⟨rfl, rfl⟩ := H
    go_wp2
    go_ret2
    exact ⟨by first | rfl | (simp; done) | (simp [*]; done), by repeat (first | exact Drawn0.refl _ | apply Drawn0.step)⟩
   replace c4 := Bool.eq_false_iff.mpr c4
   subst c4
   have H1 : (if 97 ≤ a0 then (spec_hexDigit.j1 kj1 a0 (decide (a0 ≤ 102))) else (spec_hexDigit.j1 kj1 a0 false)) = some (r1, r2) := by rw [if_neg (show ¬ (false = true) by decide)] at H; exact H
   clear H
   have H := H1
   clear H1
   have HC5 := mk0 H
   clear H
   go_upto_region 3 with (fail)
   go_cut [14] (fun v14 wc => ∃ (kq : Nat) (x14_4 : Bool), v14 = .bool x14_4 ∧ Aside0 (spec_hexDigit.j1 kq a0 x14_4 = some (r1, r2)) ∧ Aside0 (kq ≤ kj1) ∧ Drawn0 w wc)
   case first =>
    have H := HC5.out
    clear HC5
    by_cases c6 : 97 ≤ a0
    rotate_left
    ·rw [if_neg c6] at H
     have c6b0 : decide (97 ≤ a0) = false := decide_eq_false c6
     clear c6
     (first | rw [c6b0] | (simp only [i64_w, i32_w]; rw [c6b0]) | skip)
     have H' := mk0 H
     clear H
     go_wp2
     go_meet
     case rel => exact ⟨_, (false), zq13, H', ⟨by have := HJ1.out; first | omega | exact Nat.le_refl _⟩, by repeat (first | exact Drawn0.refl _ | apply Drawn0.step)⟩
    rw [if_pos c6] at H
    have c6b0 : decide (97 ≤ a0) = true := decide_eq_true c6
    clear c6
    (first | rw [c6b0] | (simp only [i64_w, i32_w]; rw [c6b0]) | skip)
    have H' := mk0 H
    clear H
    go_wp2
    go_meet
    case rel => exact ⟨_, (decide (a0 ≤ 102)), zq13, H', ⟨by have := HJ1.out; first | omega | exact Nat.le_refl _⟩, by repeat (first | exact Drawn0.refl _ | apply Drawn0.step)⟩
   case rest =>
    clear HC5
    try clear c1
    try clear p2
    try clear c3
    try clear c3b0
    try clear c4
    try clear c5
    try clear c6
    try clear c6b0
    try clear p2
    obtain ⟨kq, x14_4, rfl, HA, HJ4, ⟨mc4, rfl⟩⟩ := hcut
    cases kq with
    | zero => exact absurd HA.out (by simp [spec_hexDigit.j1])
    | succ kj4 =>
     have H := HA.out
     clear HA
     simp only [spec_hexDigit.j1] at H
     by_cases c7 : x14_4 = true
     ·subst c7
      have H1 : (some (((a0 - 97) % 256) + 10, true)) = some (r1, r2) := by rw [if_pos rfl] at H; exact H
      clear H
      have H := H1
      clear H1
      simp only [Option.some.injEq, Prod.mk.injEq] at H
      obtain ⟨rfl, rfl⟩ := H
      go_wp2
      go_ret2
      exact ⟨by first | rfl | (simp; done) | (simp [*]; done), by repeat (first | exact Drawn0.refl _ | apply Drawn0.step)⟩
     replace c7 := Bool.eq_false_iff.mpr c7
     subst c7
     have H1 : (if 65 ≤ a0 then (if a0 ≤ 70 then (some (((a0 - 65) % 256) + 10, true)) else (some (0, false))) else (some (0, false))) = some (r1, r2) := by rw [if_neg (show ¬ (false = true) by decide)] at H; exact H
     clear H
     have H := H1
     clear H1
     by_cases c8 : 65 ≤ a0
     rotate_left
     ·rw [if_neg c8] at H
      have c8b0 : decide (65 ≤ a0) = false := decide_eq_false c8
      clear c8
      simp only [Option.some.injEq, Prod.mk.injEq] at H
      obtain ⟨rfl, rfl⟩ := H
      go_wp2
      go_ret2
      exact ⟨by first | rfl | (simp; done) | (simp [*]; done), by repeat (first | exact Drawn0.refl _ | apply Drawn0.step)⟩
     rw [if_pos c8] at H
     have c8b0 : decide (65 ≤ a0) = true := decide_eq_true c8
     clear c8
     by_cases c9 : a0 ≤ 70
     ·rw [if_pos c9] at H
      have c9b0 : decide (a0 ≤ 70) = true := decide_eq_true c9
      clear c9
      simp only [Option.some.injEq, Prod.mk.injEq] at H
      obtain ⟨rfl, rfl⟩ := H
      go_wp2
      go_ret2
      exact ⟨by first | rfl | (simp; done) | (simp [*]; done), by repeat (first | exact Drawn0.refl _ | apply Drawn0.step)⟩
     rw [if_neg c9] at H
     have c9b0 : decide (a0 ≤ 70) = false := decide_eq_false c9
     clear c9
     simp only [Option.some.injEq, Prod.mk.injEq] at H
     obtain ⟨rfl, rfl⟩ := H
     go_wp2
     go_ret2
     exact ⟨by first | rfl | (simp; done) | (simp [*]; done), by repeat (first | exact Drawn0.refl _ | apply Drawn0.step)⟩
mutual
def spec_reader_escape.j0 : Nat → Int → Bool → ByteArray → Int → Option (Bool × ByteArray × Int)
  | 0, _, _, _, _ => none
  | k + 1, x7, x8, x1000, x1001 => if x8 = true then (some (true, x1000, wrap64 (x1001 + 1))) else (if x7 = 117 then (spec_reader_escape.l0 k 0 x1000 (wrap64 (x1001 + 1))) else (some (false, x1000, x1001)))
def spec_reader_escape.l0 : Nat → Int → ByteArray → Int → Option (Bool × ByteArray × Int)
  | 0, _, _, _ => none
  | k + 1, x3, x1000, x1001 => if x3 < 4 then ((spec_reader_here.f x1000 x1001).bind fun bt104 => ((spec_hexDigit.f k bt104.1).bind fun bt107 => (if bt107.2 = true then (spec_reader_escape.l0 k (wrap64 (x3 + 1)) bt104.2.1 (wrap64 (bt104.2.2 + 1))) else (some (false, bt104.2.1, bt104.2.2))))) else (some (true, x1000, x1001))
end
def spec_reader_escape.f (k : Nat) (s0_0 : ByteArray) (s0_1 : Int) : Option (Bool × ByteArray × Int) := (spec_reader_here.f s0_0 s0_1).bind fun bt101 => (if bt101.1 = 34 then (spec_reader_escape.j0 k bt101.1 (bt101.1 == 34) bt101.2.1 bt101.2.2) else (if bt101.1 = 92 then (spec_reader_escape.j0 k bt101.1 (bt101.1 == 92) bt101.2.1 bt101.2.2) else (if bt101.1 = 47 then (spec_reader_escape.j0 k bt101.1 (bt101.1 == 47) bt101.2.1 bt101.2.2) else (if bt101.1 = 98 then (spec_reader_escape.j0 k bt101.1 (bt101.1 == 98) bt101.2.1 bt101.2.2) else (if bt101.1 = 102 then (spec_reader_escape.j0 k bt101.1 (bt101.1 == 102) bt101.2.1 bt101.2.2) else (if bt101.1 = 110 then (spec_reader_escape.j0 k bt101.1 (bt101.1 == 110) bt101.2.1 bt101.2.2) else (if bt101.1 = 114 then (spec_reader_escape.j0 k bt101.1 (bt101.1 == 114) bt101.2.1 bt101.2.2) else (spec_reader_escape.j0 k bt101.1 (bt101.1 == 116) bt101.2.1 bt101.2.2))))))))
theorem spec_reader_escape.mono_l : ∀ k, (∀ y0 y1 y2 y3, LeO (spec_reader_escape.j0 k y0 y1 y2 y3) (spec_reader_escape.j0 (k + 1) y0 y1 y2 y3)) ∧ (∀ y0 y1 y2, LeO (spec_reader_escape.l0 k y0 y1 y2) (spec_reader_escape.l0 (k + 1) y0 y1 y2))
 | 0 => ⟨fun _ _ _ _ r h => by simp [spec_reader_escape.j0] at h, fun _ _ _ r h => by simp [spec_reader_escape.l0] at h⟩
 | k + 1 => by
  obtain ⟨ih0, ih1⟩ := spec_reader_escape.mono_l k
  refine ⟨?_, ?_⟩
  ·intro y0 y1 y2 y3
   unfold spec_reader_escape.j0
   repeat' first
   | (with_reducible exact ih0 _ _ _ _)
   | (with_reducible exact ih1 _ _ _)
   | (with_reducible exact spec_hexDigit.mono _ _)
   | (with_reducible exact LeO.refl _)
   | (with_reducible exact LeO.none _)
   | (with_reducible refine LeO.ite ?_ ?_)
   | (with_reducible refine LeO.bind ?_ (fun _ => ?_))
   | exact ih0 _ _ _ _
   | exact ih1 _ _ _
   | exact spec_hexDigit.mono _ _
   | exact LeO.none _
   | refine LeO.ite ?_ ?_
   | refine LeO.bind ?_ (fun _ => ?_)
  ·intro y0 y1 y2
   unfold spec_reader_escape.l0
   repeat' first
   | (with_reducible exact ih0 _ _ _ _)
   | (with_reducible exact ih1 _ _ _)
   | (with_reducible exact spec_hexDigit.mono _ _)
   | (with_reducible exact LeO.refl _)
   | (with_reducible exact LeO.none _)
   | (with_reducible refine LeO.ite ?_ ?_)
   | (with_reducible refine LeO.bind ?_ (fun _ => ?_))
   | exact ih0 _ _ _ _
   | exact ih1 _ _ _
   | exact spec_hexDigit.mono _ _
   | exact LeO.none _
   | refine LeO.ite ?_ ?_
   | refine LeO.bind ?_ (fun _ => ?_)
theorem spec_reader_escape.mono : ∀ a0 a1 k, LeO (spec_reader_escape.f k a0 a1) (spec_reader_escape.f (k + 1) a0 a1) := by
 intro a0 a1 k
 obtain ⟨ih0, ih1⟩ := spec_reader_escape.mono_l k
 unfold spec_reader_escape.f
 repeat' first
  | (with_reducible exact ih0 _ _ _ _)
  | (with_reducible exact ih1 _ _ _)
  | (with_reducible exact spec_hexDigit.mono _ _)
  | (with_reducible exact LeO.refl _)
  | (with_reducible exact LeO.none _)
  | (with_reducible refine LeO.ite ?_ ?_)
  | (with_reducible refine LeO.bind ?_ (fun _ => ?_))
  | exact ih0 _ _ _ _
  | exact ih1 _ _ _
  | exact spec_hexDigit.mono _ _
  | exact LeO.none _
  | refine LeO.ite ?_ ?_
  | refine LeO.bind ?_ (fun _ => ?_)
set_option maxHeartbeats 8000000 in
set_option maxRecDepth 100000 in
theorem spec_reader_escape.calls (k : Nat) (g : Nat) (s0_0 : ByteArray) (s0_1 : Int) (r1 : Bool) (r2 : ByteArray) (r3 : Int) (w0 w : World) (hI : IsS56 w0 w g s0_0 s0_1) (hB : Below w0.heap.size w0 w) (h : spec_reader_escape.f k s0_0 s0_1 = some (r1, r2, r3)) :
 Calls Tryd.prog 31 #[.pointer (some ⟨g, 0, none⟩)] w fun e w' => e = .returned (.bool r1) ∧ IsS56 w0 w' g r2 r3 ∧ Below w0.heap.size w0 w' ∧ KeepBut w w' g none := by
 have HI0 := mk0 hI
 have HK := mk0 (KeepBut.refl w g none)
 have HL := mk0 hB.size
 clear hI
 have HW0 := mk0 hB.size
 have HB := mk0 hB
 clear hB
 have H : ((spec_reader_here.f s0_0 s0_1).bind fun bt101 => (if bt101.1 = 34 then (spec_reader_escape.j0 k bt101.1 (bt101.1 == 34) bt101.2.1 bt101.2.2) else (if bt101.1 = 92 then (spec_reader_escape.j0 k bt101.1 (bt101.1 == 92) bt101.2.1 bt101.2.2) else (if bt101.1 = 47 then (spec_reader_escape.j0 k bt101.1 (bt101.1 == 47) bt101.2.1 bt101.2.2) else (if bt101.1 = 98 then (spec_reader_escape.j0 k bt101.1 (bt101.1 == 98) bt101.2.1 bt101.2.2) else (if bt101.1 = 102 then (spec_reader_escape.j0 k bt101.1 (bt101.1 == 102) bt101.2.1 bt101.2.2) else (if bt101.1 = 110 then (spec_reader_escape.j0 k bt101.1 (bt101.1 == 110) bt101.2.1 bt101.2.2) else (if bt101.1 = 114 then (spec_reader_escape.j0 k bt101.1 (bt101.1 == 114) bt101.2.1 bt101.2.2) else (spec_reader_escape.j0 k bt101.1 (bt101.1 == 116) bt101.2.1 bt101.2.2))))))))) = some (r1, r2, r3) := h
 clear h
 replace H := Option.bind_eq_some_iff.mp H
 obtain ⟨⟨t101, t102, t103⟩, A20, H⟩ := H
 replace H : (if t101 = 34 then (spec_reader_escape.j0 k t101 (t101 == 34) t102 t103) else (if t101 = 92 then (spec_reader_escape.j0 k t101 (t101 == 92) t102 t103) else (if t101 = 47 then (spec_reader_escape.j0 k t101 (t101 == 47) t102 t103) else (if t101 = 98 then (spec_reader_escape.j0 k t101 (t101 == 98) t102 t103) else (if t101 = 102 then (spec_reader_escape.j0 k t101 (t101 == 102) t102 t103) else (if t101 = 110 then (spec_reader_escape.j0 k t101 (t101 == 110) t102 t103) else (if t101 = 114 then (spec_reader_escape.j0 k t101 (t101 == 114) t102 t103) else (spec_reader_escape.j0 k t101 (t101 == 116) t102 t103)))))))) = some (r1, r2, r3) := H
 have A2 := mk0 A20
 clear A20
 have HC3 := mk0 H
 clear H
 go_enter Tryd.func31, Tryd.ntmps31
 go_upto_if 8 with (first | ((with_reducible refine gate_callee (f := 48) rfl ?_); refine goesL_ (some 7) rfl rfl Tryd.func48 zq23 rfl #[.pointer (some ⟨g, 0, none⟩)] rfl zq2 ?_; (with_reducible refine (spec_reader_here.calls g s0_0 s0_1 t101 t102 t103 w0 _ ?side1 ?side2 A2.out).mono ?_); (case side1 => exact zq0); (case side2 => exact zq3); rintro e w4 ⟨rfl, hi, hb, hk⟩; refine ⟨_, rfl, ?_⟩; have n0_ := mk0 (KeepBut.trans zq1 hk (.inl rfl)); have n1_ := mk0 (hb); have n2_ := mk0 (hi); clear HK HB HI0; have HK := n0_; have HB := n1_; have HI0 := n2_; clear n0_ n1_ n2_; (try clear hb); (try clear hb2); (try clear hk); (try clear hi)))
 (try simp only [Act.put, List.setIfInBounds_toArray, List.set_cons_zero, List.set_cons_succ])
 go_cut [8] (fun v8 wc => ∃ (kq : Nat) (x8_2 : Bool), v8 = .bool x8_2 ∧ Aside0 (spec_reader_escape.j0 kq t101 x8_2 t102 t103 = some (r1, r2, r3)) ∧ Aside0 (kq ≤ k) ∧ Aside0 (IsS56 w0 wc g t102 t103) ∧ Aside0 (KeepBut w wc g none) ∧ Aside0 (Below w0.heap.size w0 wc))
 case first =>
  have H := HC3.out
  clear HC3
  by_cases c5 : t101 = 34
  ·rw [if_pos c5] at H
   have c5b0 : (t101 == 34) = true := beq_iff_eq.mpr c5
   have c5b1 : (t101 != 34) = false := bne_eq_false_iff_eq.mpr c5
   clear c5
   (first | rw [c5b0] | (simp only [i64_w, i32_w]; rw [c5b0]) | skip)
   have H' := mk0 H
   clear H
   go_wp2
   go_meet
   case rel => exact ⟨_, ((t101 == 34)), zq13, H', ⟨by first | omega | exact Nat.le_refl _⟩, ⟨by repeat (first | (with_reducible first | exact HI0.out | apply IsS56.alloc | apply IsS56.drewN | apply IsS56.drew | apply IsS56.set_0 | apply IsS56.set_1) | exact HI0.out)⟩, ⟨by repeat (first | (with_reducible first | exact HK.out | apply KeepBut.set_ | apply keep_drewN | apply keep_drew | apply keep_alloc) | exact HK.out)⟩, ⟨by repeat (first | (with_reducible first | exact HB.out | apply below_alloc | apply pw_below_drewN | apply below_drew1 | refine below_set ?_ (IsS56.ge HI0.out)) | exact HB.out)⟩⟩
  rw [if_neg c5] at H
  have c5b0 : (t101 == 34) = false := beq_eq_false_iff_ne.mpr c5
  have c5b1 : (t101 != 34) = true := bne_iff_ne.mpr c5
  (first | rw [c5b0] | (simp only [i64_w, i32_w]; rw [c5b0]) | skip)
  by_cases c6 : t101 = 92
  ·rw [if_pos c6] at H
   have c6b0 : (t101 == 92) = true := beq_iff_eq.mpr c6
   have c6b1 : (t101 != 92) = false := bne_eq_false_iff_eq.mpr c6
   clear c6
   have H' := mk0 H
   clear H
   go_wp2
   go_meet
   case rel => exact ⟨_, ((t101 == 92)), zq13, H', ⟨by first | omega | exact Nat.le_refl _⟩, ⟨by repeat (first | (with_reducible first | exact HI0.out | apply IsS56.alloc | apply IsS56.drewN | apply IsS56.drew | apply IsS56.set_0 | apply IsS56.set_1) | exact HI0.out)⟩, ⟨by repeat (first | (with_reducible first | exact HK.out | apply KeepBut.set_ | apply keep_drewN | apply keep_drew | apply keep_alloc) | exact HK.out)⟩, ⟨by repeat (first | (with_reducible first | exact HB.out | apply below_alloc | apply pw_below_drewN | apply below_drew1 | refine below_set ?_ (IsS56.ge HI0.out)) | exact HB.out)⟩⟩
  rw [if_neg c6] at H
  have c6b0 : (t101 == 92) = false := beq_eq_false_iff_ne.mpr c6
  have c6b1 : (t101 != 92) = true := bne_iff_ne.mpr c6
  by_cases c7 : t101 = 47
  ·rw [if_pos c7] at H
   have c7b0 : (t101 == 47) = true := beq_iff_eq.mpr c7
   have c7b1 : (t101 != 47) = false := bne_eq_false_iff_eq.mpr c7
   clear c7
   have H' := mk0 H
   clear H
   go_wp2
   go_meet
   case rel => exact ⟨_, ((t101 == 47)), zq13, H', ⟨by first | omega | exact Nat.le_refl _⟩, ⟨by repeat (first | (with_reducible first | exact HI0.out | apply IsS56.alloc | apply IsS56.drewN | apply IsS56.drew | apply IsS56.set_0 | apply IsS56.set_1) | exact HI0.out)⟩, ⟨by repeat (first | (with_reducible first | exact HK.out | apply KeepBut.set_ | apply keep_drewN | apply keep_drew | apply keep_alloc) | exact HK.out)⟩, ⟨by repeat (first | (with_reducible first | exact HB.out | apply below_alloc | apply pw_below_drewN | apply below_drew1 | refine below_set ?_ (IsS56.ge HI0.out)) | exact HB.out)⟩⟩
  rw [if_neg c7] at H
  have c7b0 : (t101 == 47) = false := beq_eq_false_iff_ne.mpr c7
  have c7b1 : (t101 != 47) = true := bne_iff_ne.mpr c7
  by_cases c8 : t101 = 98
  ·rw [if_pos c8] at H
   have c8b0 : (t101 == 98) = true := beq_iff_eq.mpr c8
   have c8b1 : (t101 != 98) = false := bne_eq_false_iff_eq.mpr c8
   clear c8
   have H' := mk0 H
   clear H
   go_wp2
   go_meet
   case rel => exact ⟨_, ((t101 == 98)), zq13, H', ⟨by first | omega | exact Nat.le_refl _⟩, ⟨by repeat (first | (with_reducible first | exact HI0.out | apply IsS56.alloc | apply IsS56.drewN | apply IsS56.drew | apply IsS56.set_0 | apply IsS56.set_1) | exact HI0.out)⟩, ⟨by repeat (first | (with_reducible first | exact HK.out | apply KeepBut.set_ | apply keep_drewN | apply keep_drew | apply keep_alloc) | exact HK.out)⟩, ⟨by repeat (first | (with_reducible first | exact HB.out | apply below_alloc | apply pw_below_drewN | apply below_drew1 | refine below_set ?_ (IsS56.ge HI0.out)) | exact HB.out)⟩⟩
  rw [if_neg c8] at H
  have c8b0 : (t101 == 98) = false := beq_eq_false_iff_ne.mpr c8
  have c8b1 : (t101 != 98) = true := bne_iff_ne.mpr c8
  by_cases c9 : t101 = 102
  ·rw [if_pos c9] at H
   have c9b0 : (t101 == 102) = true := beq_iff_eq.mpr c9
   have c9b1 : (t101 != 102) = false := bne_eq_false_iff_eq.mpr c9
   clear c9
   have H' := mk0 H
   clear H
   go_wp2
   go_meet
   case rel => exact ⟨_, ((t101 == 102)), zq13, H', ⟨by first | omega | exact Nat.le_refl _⟩, ⟨by repeat (first | (with_reducible first | exact HI0.out | apply IsS56.alloc | apply IsS56.drewN | apply IsS56.drew | apply IsS56.set_0 | apply IsS56.set_1) | exact HI0.out)⟩, ⟨by repeat (first | (with_reducible first | exact HK.out | apply KeepBut.set_ | apply keep_drewN | apply keep_drew | apply keep_alloc) | exact HK.out)⟩, ⟨by repeat (first | (with_reducible first | exact HB.out | apply below_alloc | apply pw_below_drewN | apply below_drew1 | refine below_set ?_ (IsS56.ge HI0.out)) | exact HB.out)⟩⟩
  rw [if_neg c9] at H
  have c9b0 : (t101 == 102) = false := beq_eq_false_iff_ne.mpr c9
  have c9b1 : (t101 != 102) = true := bne_iff_ne.mpr c9
  by_cases c10 : t101 = 110
  ·rw [if_pos c10] at H
   have c10b0 : (t101 == 110) = true := beq_iff_eq.mpr c10
   have c10b1 : (t101 != 110) = false := bne_eq_false_iff_eq.mpr c10
   clear c10
   have H' := mk0 H
   clear H
   go_wp2
   go_meet
   case rel => exact ⟨_, ((t101 == 110)), zq13, H', ⟨by first | omega | exact Nat.le_refl _⟩, ⟨by repeat (first | (with_reducible first | exact HI0.out | apply IsS56.alloc | apply IsS56.drewN | apply IsS56.drew | apply IsS56.set_0 | apply IsS56.set_1) | exact HI0.out)⟩, ⟨by repeat (first | (with_reducible first | exact HK.out | apply KeepBut.set_ | apply keep_drewN | apply keep_drew | apply keep_alloc) | exact HK.out)⟩, ⟨by repeat (first | (with_reducible first | exact HB.out | apply below_alloc | apply pw_below_drewN | apply below_drew1 | refine below_set ?_ (IsS56.ge HI0.out)) | exact HB.out)⟩⟩
  rw [if_neg c10] at H
  have c10b0 : (t101 == 110) = false := beq_eq_false_iff_ne.mpr c10
  have c10b1 : (t101 != 110) = true := bne_iff_ne.mpr c10
  by_cases c11 : t101 = 114
  rotate_left
  ·rw [if_neg c11] at H
   have c11b0 : (t101 == 114) = false := beq_eq_false_iff_ne.mpr c11
   have c11b1 : (t101 != 114) = true := bne_iff_ne.mpr c11
   have H' := mk0 H
   clear H
   go_wp2
   go_meet
   case rel => exact ⟨_, ((t101 == 116)), zq13, H', ⟨by first | omega | exact Nat.le_refl _⟩, ⟨by repeat (first | (with_reducible first | exact HI0.out | apply IsS56.alloc | apply IsS56.drewN | apply IsS56.drew | apply IsS56.set_0 | apply IsS56.set_1) | exact HI0.out)⟩, ⟨by repeat (first | (with_reducible first | exact HK.out | apply KeepBut.set_ | apply keep_drewN | apply keep_drew | apply keep_alloc) | exact HK.out)⟩, ⟨by repeat (first | (with_reducible first | exact HB.out | apply below_alloc | apply pw_below_drewN | apply below_drew1 | refine below_set ?_ (IsS56.ge HI0.out)) | exact HB.out)⟩⟩
  rw [if_pos c11] at H
  have c11b0 : (t101 == 114) = true := beq_iff_eq.mpr c11
  have c11b1 : (t101 != 114) = false := bne_eq_false_iff_eq.mpr c11
  clear c11
  have H' := mk0 H
  clear H
  go_wp2
  go_meet
  case rel => exact ⟨_, ((t101 == 114)), zq13, H', ⟨by first | omega | exact Nat.le_refl _⟩, ⟨by repeat (first | (with_reducible first | exact HI0.out | apply IsS56.alloc | apply IsS56.drewN | apply IsS56.drew | apply IsS56.set_0 | apply IsS56.set_1) | exact HI0.out)⟩, ⟨by repeat (first | (with_reducible first | exact HK.out | apply KeepBut.set_ | apply keep_drewN | apply keep_drew | apply keep_alloc) | exact HK.out)⟩, ⟨by repeat (first | (with_reducible first | exact HB.out | apply below_alloc | apply pw_below_drewN | apply below_drew1 | refine below_set ?_ (IsS56.ge HI0.out)) | exact HB.out)⟩⟩
 case rest =>
  clear HC3
  try clear c1
  try clear p2
  try clear c3
  try clear c4
  try clear c5
  try clear c5b0
  try clear c5b1
  try clear c6
  try clear c6b0
  try clear c6b1
  try clear c7
  try clear c7b0
  try clear c7b1
  try clear c8
  try clear c8b0
  try clear c8b1
  try clear c9
  try clear c9b0
  try clear c9b1
  try clear c10
  try clear c10b0
  try clear c10b1
  try clear c11
  try clear c11b0
  try clear c11b1
  obtain ⟨kq, x8_2, rfl, HA, HJ2, HI0, HK, HB⟩ := hcut
  cases kq with
  | zero => exact absurd HA.out (by simp [spec_reader_escape.j0])
  | succ kj2 =>
   have H := HA.out
   clear HA
   simp only [spec_reader_escape.j0] at H
   by_cases c12 : x8_2 = true
   ·subst c12
    have H1 : (some (true, t102, wrap64 (t103 + 1))) = some (r1, r2, r3) := by rw [if_pos rfl] at H; exact H
    clear H
    have H := H1
    clear H1
    simp only [Option.some.injEq, Prod.mk.injEq] at H
    obtain ⟨rfl, rfl, rfl⟩ := H
    obtain ⟨HGz13, hgz13⟩ := HI0.out
    have hcz13_0 := cellS56_0 HGz13
    have hcz13_1 := cellS56_1 HGz13
    have hfz13_0 := blk_frozen HGz13 0
    have hfz13_1 := blk_frozen HGz13 1
    clear HGz13 hgz13
    go_wp2
    go_ret
    exact ⟨by first | rfl | (simp [errW_none, errW_some] <;> rfl) | (simp [*, errW_none, errW_some] <;> rfl), by repeat (first | (with_reducible first | exact HI0.out | apply IsS56.alloc | apply IsS56.drewN | apply IsS56.drew | apply IsS56.set_0 | apply IsS56.set_1) | exact HI0.out), by repeat (first | (with_reducible first | exact HB.out | apply below_alloc | apply pw_below_drewN | apply below_drew1 | refine below_set ?_ (IsS56.ge HI0.out)) | exact HB.out), by repeat (first | (with_reducible first | exact HK.out | apply KeepBut.set_ | apply keep_drewN | apply keep_drew | apply keep_alloc) | exact HK.out)⟩
   replace c12 := Bool.eq_false_iff.mpr c12
   subst c12
   have H1 : (if t101 = 117 then (spec_reader_escape.l0 kj2 0 t102 (wrap64 (t103 + 1))) else (some (false, t102, t103))) = some (r1, r2, r3) := by rw [if_neg (show ¬ (false = true) by decide)] at H; exact H
   clear H
   have H := H1
   clear H1
   by_cases c14 : t101 = 117
   rotate_left
   ·rw [if_neg c14] at H
    have c14b0 : (t101 == 117) = false := beq_eq_false_iff_ne.mpr c14
    have c14b1 : (t101 != 117) = true := bne_iff_ne.mpr c14
    simp only [Option.some.injEq, Prod.mk.injEq] at H
    obtain ⟨rfl, rfl, rfl⟩ := H
    go_wp2
    go_ret
    exact ⟨by first | rfl | (simp [errW_none, errW_some] <;> rfl) | (simp [*, errW_none, errW_some] <;> rfl), by repeat (first | (with_reducible first | exact HI0.out | apply IsS56.alloc | apply IsS56.drewN | apply IsS56.drew | apply IsS56.set_0 | apply IsS56.set_1) | exact HI0.out), by repeat (first | (with_reducible first | exact HB.out | apply below_alloc | apply pw_below_drewN | apply below_drew1 | refine below_set ?_ (IsS56.ge HI0.out)) | exact HB.out), by repeat (first | (with_reducible first | exact HK.out | apply KeepBut.set_ | apply keep_drewN | apply keep_drew | apply keep_alloc) | exact HK.out)⟩
   rw [if_pos c14] at H
   have c14b0 : (t101 == 117) = true := beq_iff_eq.mpr c14
   have c14b1 : (t101 != 117) = false := bne_eq_false_iff_eq.mpr c14
   clear c14
   have H' := mk0 H
   clear H
   obtain ⟨HGz15, hgz15⟩ := HI0.out
   have hcz15_0 := cellS56_0 HGz15
   have hcz15_1 := cellS56_1 HGz15
   have hfz15_0 := blk_frozen HGz15 0
   have hfz15_1 := blk_frozen HGz15 1
   clear HGz15 hgz15
   go_wp2
   go_loopg [3] kj2 (fun kq v3 w' => ∃ (x3_2 : Int) (x1000_2 : ByteArray) (x1001_2 : Int), v3 = .int .i64 x3_2 ∧ Aside0 (spec_reader_escape.l0 kq x3_2 x1000_2 x1001_2 = some (r1, r2, r3)) ∧ Aside0 (kq ≤ kj2) ∧ Aside0 (IsS56 w0 w' g x1000_2 x1001_2) ∧ Aside0 (KeepBut w w' g none) ∧ Aside0 (Below w0.heap.size w0 w'))
   case atStart => exact ⟨(0), (t102), (wrap64 (t103 + 1)), zq13, H', ⟨Nat.le_refl _⟩, ⟨by repeat (first | (with_reducible first | exact HI0.out | apply IsS56.alloc | apply IsS56.drewN | apply IsS56.drew | apply IsS56.set_0 | apply IsS56.set_1) | exact HI0.out)⟩, ⟨by repeat (first | (with_reducible first | exact HK.out | apply KeepBut.set_ | apply keep_drewN | apply keep_drew | apply keep_alloc) | exact HK.out)⟩, ⟨by repeat (first | (with_reducible first | exact HB.out | apply below_alloc | apply pw_below_drewN | apply below_drew1 | refine below_set ?_ (IsS56.ge HI0.out)) | exact HB.out)⟩⟩
   case round =>
    clear H'
    try clear c1
    try clear p2
    try clear c3
    try clear c4
    try clear c5
    try clear c5b0
    try clear c5b1
    try clear c6
    try clear c6b0
    try clear c6b1
    try clear p6
    try clear c7
    try clear c7b0
    try clear c7b1
    try clear c8
    try clear c8b0
    try clear c8b1
    try clear c9
    try clear c9b0
    try clear c9b1
    try clear c10
    try clear c10b0
    try clear c10b1
    try clear c11
    try clear c11b0
    try clear c11b1
    try clear c12
    try clear c14
    try clear c14b0
    try clear c14b1
    try clear hcz13_0
    try clear hcz13_1
    try clear hcz15_0
    try clear hcz15_1
    try clear hfz13_0
    try clear hfz13_1
    try clear hfz15_0
    try clear hfz15_1
    try clear p2
    obtain ⟨x3_2, x1000_2, x1001_2, rfl, HA, HK2, HI0, HK, HB⟩ := hrel
    cases gk with
    | zero => exact absurd HA.out (by simp [spec_reader_escape.l0])
    | succ k2 =>
     have H := HA.out
     clear HA
     simp only [spec_reader_escape.l0] at H
     by_cases c16 : x3_2 < 4
     rotate_left
     ·rw [if_neg c16] at H
      have c16b0 : decide (x3_2 < 4) = false := decide_eq_false c16
      clear c16
      simp only [Option.some.injEq, Prod.mk.injEq] at H
      obtain ⟨rfl, rfl, rfl⟩ := H
      go_wp2
      go_ret
      exact ⟨by first | rfl | (simp [errW_none, errW_some] <;> rfl) | (simp [*, errW_none, errW_some] <;> rfl), by repeat (first | (with_reducible first | exact HI0.out | apply IsS56.alloc | apply IsS56.drewN | apply IsS56.drew | apply IsS56.set_0 | apply IsS56.set_1) | exact HI0.out), by repeat (first | (with_reducible first | exact HB.out | apply below_alloc | apply pw_below_drewN | apply below_drew1 | refine below_set ?_ (IsS56.ge HI0.out)) | exact HB.out), by repeat (first | (with_reducible first | exact HK.out | apply KeepBut.set_ | apply keep_drewN | apply keep_drew | apply keep_alloc) | exact HK.out)⟩
     rw [if_pos c16] at H
     have c16b0 : decide (x3_2 < 4) = true := decide_eq_true c16
     clear c16
     replace H := Option.bind_eq_some_iff.mp H
     obtain ⟨⟨t104, t105, t106⟩, A170, H⟩ := H
     replace H : ((spec_hexDigit.f k2 t104).bind fun bt107 => (if bt107.2 = true then (spec_reader_escape.l0 k2 (wrap64 (x3_2 + 1)) t105 (wrap64 (t106 + 1))) else (some (false, t105, t106)))) = some (r1, r2, r3) := H
     have A17 := mk0 A170
     clear A170
     replace H := Option.bind_eq_some_iff.mp H
     obtain ⟨⟨t107, t108⟩, A180, H⟩ := H
     replace H : (if t108 = true then (spec_reader_escape.l0 k2 (wrap64 (x3_2 + 1)) t105 (wrap64 (t106 + 1))) else (some (false, t105, t106))) = some (r1, r2, r3) := H
     have A18 := mk0 A180
     clear A180
     by_cases c19 : t108 = true
     rotate_left
     ·replace c19 := Bool.eq_false_iff.mpr c19
      subst c19
      have H1 : (some (false, t105, t106)) = some (r1, r2, r3) := by rw [if_neg (show ¬ (false = true) by decide)] at H; exact H
      clear H
      have H := H1
      clear H1
      simp only [Option.some.injEq, Prod.mk.injEq] at H
      obtain ⟨rfl, rfl, rfl⟩ := H
      go_wp2_with (first | ((with_reducible refine gate_callee (f := 48) rfl ?_); refine goesL_ (some 39) rfl rfl Tryd.func48 zq23 rfl #[.pointer (some ⟨g, 0, none⟩)] rfl zq2 ?_; (with_reducible refine (spec_reader_here.calls g x1000_2 x1001_2 t104 t105 t106 w0 _ ?side1 ?side2 A17.out).mono ?_); (case side1 => exact zq0); (case side2 => exact zq3); rintro e w22 ⟨rfl, hi, hb, hk⟩; refine ⟨_, rfl, ?_⟩; have n0_ := mk0 (KeepBut.trans zq1 hk (.inl rfl)); have n1_ := mk0 (hb); have n2_ := mk0 (hi); clear HK HB HI0; have HK := n0_; have HB := n1_; have HI0 := n2_; clear n0_ n1_ n2_; (try clear hb); (try clear hb2); (try clear hk); (try clear hi)) | ((with_reducible refine gate_callee (f := 54) rfl ?_); refine goesL_ (some 40) rfl rfl Tryd.func54 zq23 rfl #[.int .u8 t104] rfl zq2 ?_; (with_reducible refine (spec_hexDigit.calls k2 t104 t107 false _ A18.out).mono ?_); rintro e w' ⟨rfl, ⟨nd, rfl⟩⟩; refine ⟨_, rfl, ?_⟩))
      go_ret
      exact ⟨by first | rfl | (simp [errW_none, errW_some] <;> rfl) | (simp [*, errW_none, errW_some] <;> rfl), by repeat (first | (with_reducible first | exact HI0.out | apply IsS56.alloc | apply IsS56.drewN | apply IsS56.drew | apply IsS56.set_0 | apply IsS56.set_1) | exact HI0.out), by repeat (first | (with_reducible first | exact HB.out | apply below_alloc | apply pw_below_drewN | apply below_drew1 | refine below_set ?_ (IsS56.ge HI0.out)) | exact HB.out), by repeat (first | (with_reducible first | exact HK.out | apply KeepBut.set_ | apply keep_drewN | apply keep_drew | apply keep_alloc) | exact HK.out)⟩
     subst c19
     have H1 : (spec_reader_escape.l0 k2 (wrap64 (x3_2 + 1)) t105 (wrap64 (t106 + 1))) = some (r1, r2, r3) := by rw [if_pos rfl] at H; exact H
     clear H
     have H := H1
     clear H1
     have H' := mk0 H
     clear H
     go_wp2_with (first | ((with_reducible refine gate_callee (f := 48) rfl ?_); refine goesL_ (some 39) rfl rfl Tryd.func48 zq23 rfl #[.pointer (some ⟨g, 0, none⟩)] rfl zq2 ?_; (with_reducible refine (spec_reader_here.calls g x1000_2 x1001_2 t104 t105 t106 w0 _ ?side1 ?side2 A17.out).mono ?_); (case side1 => exact zq0); (case side2 => exact zq3); rintro e w20 ⟨rfl, hi, hb, hk⟩; refine ⟨_, rfl, ?_⟩; have n0_ := mk0 (KeepBut.trans zq1 hk (.inl rfl)); have n1_ := mk0 (hb); have n2_ := mk0 (hi); clear HK HB HI0; have HK := n0_; have HB := n1_; have HI0 := n2_; clear n0_ n1_ n2_; (try clear hb); (try clear hb2); (try clear hk); (try clear hi)) | ((with_reducible refine gate_callee (f := 54) rfl ?_); refine goesL_ (some 40) rfl rfl Tryd.func54 zq23 rfl #[.int .u8 t104] rfl zq2 ?_; (with_reducible refine (spec_hexDigit.calls k2 t104 t107 true _ A18.out).mono ?_); rintro e w' ⟨rfl, ⟨nd, rfl⟩⟩; refine ⟨_, rfl, ?_⟩; (try (rw [drewN_self w20]; generalize hq_ : World.drewN w20 _ = w20; have n0_ : Aside0 (IsS56 w0 w20 g t105 t106) := ⟨by rw [← hq_]; exact zq0⟩; have n1_ : Aside0 (KeepBut w w20 g none) := ⟨by rw [← hq_]; exact zq1⟩; have n2_ : Aside0 (Below w0.heap.size w0 w20) := ⟨by rw [← hq_]; exact zq3⟩; clear HI0 HK HB hq_; have HI0 := n0_; have HK := n1_; have HB := n2_; clear n0_ n1_ n2_)); obtain ⟨HGz21, hgz21⟩ := HI0.out; have hcz21_0 := cellS56_0 HGz21; have hcz21_1 := cellS56_1 HGz21; have hfz21_0 := blk_frozen HGz21 0; have hfz21_1 := blk_frozen HGz21 1; clear HGz21 hgz21))
     go_roundg k2
     case measure => have := HJ2.out; have := HK2.out; omega
     case rel => exact ⟨(wrap64 (x3_2 + 1)), (t105), (wrap64 (t106 + 1)), zq13, H', ⟨by have := HJ2.out; have := HK2.out; omega⟩, ⟨by repeat (first | (with_reducible first | exact HI0.out | apply IsS56.alloc | apply IsS56.drewN | apply IsS56.drew | apply IsS56.set_0 | apply IsS56.set_1) | exact HI0.out)⟩, ⟨by repeat (first | (with_reducible first | exact HK.out | apply KeepBut.set_ | apply keep_drewN | apply keep_drew | apply keep_alloc) | exact HK.out)⟩, ⟨by repeat (first | (with_reducible first | exact HB.out | apply below_alloc | apply pw_below_drewN | apply below_drew1 | refine below_set ?_ (IsS56.ge HI0.out)) | exact HB.out)⟩⟩
def spec_reader_quoted.l0 : Nat → ByteArray → Int → Option (Bool × ByteArray × Int)
  | 0, _, _ => none
  | k + 1, x1000, x1001 => if x1001 < (x1000.size : Int) then (if 0 ≤ x1001 then (if (bt x1000 x1001) = 34 then (some (true, x1000, wrap64 (x1001 + 1))) else (if (bt x1000 x1001) < 32 then (some (false, x1000, wrap64 (x1001 + 1))) else (if (bt x1000 x1001) = 92 then ((spec_reader_escape.f k x1000 (wrap64 (x1001 + 1))).bind fun bt101 => (if bt101.1 = true then (spec_reader_quoted.l0 k bt101.2.1 bt101.2.2) else (some (false, bt101.2.1, bt101.2.2)))) else (spec_reader_quoted.l0 k x1000 (wrap64 (x1001 + 1)))))) else (none)) else (some (false, x1000, x1001))
def spec_reader_quoted.f (k : Nat) (s0_0 : ByteArray) (s0_1 : Int) : Option (Bool × ByteArray × Int) := spec_reader_quoted.l0 k s0_0 (wrap64 (s0_1 + 1))
theorem spec_reader_quoted.mono_l : ∀ k, (∀ y0 y1, LeO (spec_reader_quoted.l0 k y0 y1) (spec_reader_quoted.l0 (k + 1) y0 y1))
 | 0 => fun _ _ r h => by simp [spec_reader_quoted.l0] at h
 | k + 1 => by
  have ih0 := spec_reader_quoted.mono_l k
  ·intro y0 y1
   unfold spec_reader_quoted.l0
   repeat' first
   | (with_reducible exact ih0 _ _)
   | (with_reducible exact spec_reader_escape.mono _ _ _)
   | (with_reducible exact LeO.refl _)
   | (with_reducible exact LeO.none _)
   | (with_reducible refine LeO.ite ?_ ?_)
   | (with_reducible refine LeO.bind ?_ (fun _ => ?_))
   | exact ih0 _ _
   | exact spec_reader_escape.mono _ _ _
   | exact LeO.none _
   | refine LeO.ite ?_ ?_
   | refine LeO.bind ?_ (fun _ => ?_)
theorem spec_reader_quoted.mono : ∀ a0 a1 k, LeO (spec_reader_quoted.f k a0 a1) (spec_reader_quoted.f (k + 1) a0 a1) := by
 intro a0 a1 k
 have ih0 := spec_reader_quoted.mono_l k
 unfold spec_reader_quoted.f
 repeat' first
  | (with_reducible exact ih0 _ _)
  | (with_reducible exact spec_reader_escape.mono _ _ _)
  | (with_reducible exact LeO.refl _)
  | (with_reducible exact LeO.none _)
  | (with_reducible refine LeO.ite ?_ ?_)
  | (with_reducible refine LeO.bind ?_ (fun _ => ?_))
  | exact ih0 _ _
  | exact spec_reader_escape.mono _ _ _
  | exact LeO.none _
  | refine LeO.ite ?_ ?_
  | refine LeO.bind ?_ (fun _ => ?_)
set_option maxHeartbeats 8000000 in
set_option maxRecDepth 100000 in
theorem spec_reader_quoted.calls (k : Nat) (g : Nat) (s0_0 : ByteArray) (s0_1 : Int) (r1 : Bool) (r2 : ByteArray) (r3 : Int) (w0 w : World) (hI : IsS56 w0 w g s0_0 s0_1) (hB : Below w0.heap.size w0 w) (h : spec_reader_quoted.f k s0_0 s0_1 = some (r1, r2, r3)) :
 Calls Tryd.prog 51 #[.pointer (some ⟨g, 0, none⟩)] w fun e w' => e = .returned (.bool r1) ∧ IsS56 w0 w' g r2 r3 ∧ Below w0.heap.size w0 w' ∧ KeepBut w w' g none := by
 have HI0 := mk0 hI
 have HK := mk0 (KeepBut.refl w g none)
 have HL := mk0 hB.size
 clear hI
 have HW0 := mk0 hB.size
 have HB := mk0 hB
 clear hB
 have H : (spec_reader_quoted.l0 k s0_0 (wrap64 (s0_1 + 1))) = some (r1, r2, r3) := h
 clear h
 have H' := mk0 H
 clear H
 obtain ⟨HGz2, hgz2⟩ := HI0.out
 have hcz2_0 := cellS56_0 HGz2
 have hcz2_1 := cellS56_1 HGz2
 have hfz2_0 := blk_frozen HGz2 0
 have hfz2_1 := blk_frozen HGz2 1
 clear HGz2 hgz2
 go_enter Tryd.func51, Tryd.ntmps51
 go_wp2
 repeat (go_quiet (fail); try go_wp2)
 go_loopg [] k (fun kq w' => ∃ (x1000_1 : ByteArray) (x1001_1 : Int), Aside0 (spec_reader_quoted.l0 kq x1000_1 x1001_1 = some (r1, r2, r3)) ∧ Aside0 (kq ≤ k) ∧ Aside0 (IsS56 w0 w' g x1000_1 x1001_1) ∧ Aside0 (KeepBut w w' g none) ∧ Aside0 (Below w0.heap.size w0 w'))
 case atStart => exact ⟨(s0_0), (wrap64 (s0_1 + 1)), H', ⟨Nat.le_refl _⟩, ⟨by repeat (first | (with_reducible first | exact HI0.out | apply IsS56.alloc | apply IsS56.drewN | apply IsS56.drew | apply IsS56.set_0 | apply IsS56.set_1) | exact HI0.out)⟩, ⟨by repeat (first | (with_reducible first | exact HK.out | apply KeepBut.set_ | apply keep_drewN | apply keep_drew | apply keep_alloc) | exact HK.out)⟩, ⟨by repeat (first | (with_reducible first | exact HB.out | apply below_alloc | apply pw_below_drewN | apply below_drew1 | refine below_set ?_ (IsS56.ge HI0.out)) | exact HB.out)⟩⟩
 case round =>
  clear H'
  try clear p2
  try clear hcz2_0
  try clear hcz2_1
  try clear hfz2_0
  try clear hfz2_1
  obtain ⟨x1000_1, x1001_1, HA, HK1, HI0, HK, HB⟩ := hrel
  cases gk with
  | zero => exact absurd HA.out (by simp [spec_reader_quoted.l0])
  | succ k1 =>
   have H := HA.out
   clear HA
   simp only [spec_reader_quoted.l0] at H
   by_cases c3 : x1001_1 < (x1000_1.size : Int)
   rotate_left
   ·rw [if_neg c3] at H
    have c3b0 : decide (x1001_1 < (x1000_1.size : Int)) = false := decide_eq_false c3
    clear c3
    simp only [Option.some.injEq, Prod.mk.injEq] at H
    obtain ⟨rfl, rfl, rfl⟩ := H
    obtain ⟨HGz18, hgz18⟩ := HI0.out
    have hcz18_0 := cellS56_0 HGz18
    have hcz18_1 := cellS56_1 HGz18
    have hfz18_0 := blk_frozen HGz18 0
    have hfz18_1 := blk_frozen HGz18 1
    clear HGz18 hgz18
    go_wp2
    repeat (go_quiet (fail); try go_wp2)
    go_ret
    exact ⟨by first | rfl | (simp [errW_none, errW_some] <;> rfl) | (simp [*, errW_none, errW_some] <;> rfl), by repeat (first | (with_reducible first | exact HI0.out | apply IsS56.alloc | apply IsS56.drewN | apply IsS56.drew | apply IsS56.set_0 | apply IsS56.set_1) | exact HI0.out), by repeat (first | (with_reducible first | exact HB.out | apply below_alloc | apply pw_below_drewN | apply below_drew1 | refine below_set ?_ (IsS56.ge HI0.out)) | exact HB.out), by repeat (first | (with_reducible first | exact HK.out | apply KeepBut.set_ | apply keep_drewN | apply keep_drew | apply keep_alloc) | exact HK.out)⟩
   rw [if_pos c3] at H
   have c3b0 : decide (x1001_1 < (x1000_1.size : Int)) = true := decide_eq_true c3
   clear c3
   by_cases c4 : 0 ≤ x1001_1
   rotate_left
   ·rw [if_neg c4] at H
    exact absurd H (by simp)
   rw [if_pos c4] at H
   have c4b0 : decide (0 ≤ x1001_1) = true := decide_eq_true c4
   clear c4
   by_cases c6 : (bt x1000_1 x1001_1) = 34
   ·rw [if_pos c6] at H
    have c6b0 : ((bt x1000_1 x1001_1) == 34) = true := beq_iff_eq.mpr c6
    have c6b1 : ((bt x1000_1 x1001_1) != 34) = false := bne_eq_false_iff_eq.mpr c6
    clear c6
    simp only [Option.some.injEq, Prod.mk.injEq] at H
    obtain ⟨rfl, rfl, rfl⟩ := H
    obtain ⟨HGz7, hgz7⟩ := HI0.out
    have hcz7_0 := cellS56_0 HGz7
    have hcz7_1 := cellS56_1 HGz7
    have hfz7_0 := blk_frozen HGz7 0
    have hfz7_1 := blk_frozen HGz7 1
    clear HGz7 hgz7
    have p5 : 0 ≤ (x1001_1 : Int) := of_decide_eq_true zq9
    have q5 : x1001_1 < (x1000_1.size : Int) := of_decide_eq_true zq9
    have hx5 := bt_at x1000_1 x1001_1
    replace p5 := eq_true p5
    replace q5 := eq_true q5
    go_wp2
    repeat (go_quiet (fail); try go_wp2)
    go_ret
    exact ⟨by first | rfl | (simp [errW_none, errW_some] <;> rfl) | (simp [*, errW_none, errW_some] <;> rfl), by repeat (first | (with_reducible first | exact HI0.out | apply IsS56.alloc | apply IsS56.drewN | apply IsS56.drew | apply IsS56.set_0 | apply IsS56.set_1) | exact HI0.out), by repeat (first | (with_reducible first | exact HB.out | apply below_alloc | apply pw_below_drewN | apply below_drew1 | refine below_set ?_ (IsS56.ge HI0.out)) | exact HB.out), by repeat (first | (with_reducible first | exact HK.out | apply KeepBut.set_ | apply keep_drewN | apply keep_drew | apply keep_alloc) | exact HK.out)⟩
   rw [if_neg c6] at H
   have c6b0 : ((bt x1000_1 x1001_1) == 34) = false := beq_eq_false_iff_ne.mpr c6
   have c6b1 : ((bt x1000_1 x1001_1) != 34) = true := bne_iff_ne.mpr c6
   by_cases c8 : (bt x1000_1 x1001_1) < 32
   ·rw [if_pos c8] at H
    have c8b0 : decide ((bt x1000_1 x1001_1) < 32) = true := decide_eq_true c8
    clear c8
    simp only [Option.some.injEq, Prod.mk.injEq] at H
    obtain ⟨rfl, rfl, rfl⟩ := H
    obtain ⟨HGz9, hgz9⟩ := HI0.out
    have hcz9_0 := cellS56_0 HGz9
    have hcz9_1 := cellS56_1 HGz9
    have hfz9_0 := blk_frozen HGz9 0
    have hfz9_1 := blk_frozen HGz9 1
    clear HGz9 hgz9
    have p5 : 0 ≤ (x1001_1 : Int) := of_decide_eq_true zq9
    have q5 : x1001_1 < (x1000_1.size : Int) := of_decide_eq_true zq9
    have hx5 := bt_at x1000_1 x1001_1
    replace p5 := eq_true p5
    replace q5 := eq_true q5
    go_wp2
    repeat (go_quiet (fail); try go_wp2)
    go_ret
    exact ⟨by first | rfl | (simp [errW_none, errW_some] <;> rfl) | (simp [*, errW_none, errW_some] <;> rfl), by repeat (first | (with_reducible first | exact HI0.out | apply IsS56.alloc | apply IsS56.drewN | apply IsS56.drew | apply IsS56.set_0 | apply IsS56.set_1) | exact HI0.out), by repeat (first | (with_reducible first | exact HB.out | apply below_alloc | apply pw_below_drewN | apply below_drew1 | refine below_set ?_ (IsS56.ge HI0.out)) | exact HB.out), by repeat (first | (with_reducible first | exact HK.out | apply KeepBut.set_ | apply keep_drewN | apply keep_drew | apply keep_alloc) | exact HK.out)⟩
   rw [if_neg c8] at H
   have c8b0 : decide ((bt x1000_1 x1001_1) < 32) = false := decide_eq_false c8
   clear c8
   by_cases c10 : (bt x1000_1 x1001_1) = 92
   rotate_left
   ·rw [if_neg c10] at H
    have c10b0 : ((bt x1000_1 x1001_1) == 92) = false := beq_eq_false_iff_ne.mpr c10
    have c10b1 : ((bt x1000_1 x1001_1) != 92) = true := bne_iff_ne.mpr c10
    have H' := mk0 H
    clear H
    obtain ⟨HGz17, hgz17⟩ := HI0.out
    have hcz17_0 := cellS56_0 HGz17
    have hcz17_1 := cellS56_1 HGz17
    have hfz17_0 := blk_frozen HGz17 0
    have hfz17_1 := blk_frozen HGz17 1
    clear HGz17 hgz17
    have p5 : 0 ≤ (x1001_1 : Int) := of_decide_eq_true zq9
    have q5 : x1001_1 < (x1000_1.size : Int) := of_decide_eq_true zq9
    have hx5 := bt_at x1000_1 x1001_1
    replace p5 := eq_true p5
    replace q5 := eq_true q5
    go_wp2
    repeat (go_quiet (fail); try go_wp2)
    go_roundg k1
    case measure => have := HK1.out; omega
    case rel => exact ⟨(x1000_1), (wrap64 (x1001_1 + 1)), H', ⟨by have := HK1.out; omega⟩, ⟨by repeat (first | (with_reducible first | exact HI0.out | apply IsS56.alloc | apply IsS56.drewN | apply IsS56.drew | apply IsS56.set_0 | apply IsS56.set_1) | exact HI0.out)⟩, ⟨by repeat (first | (with_reducible first | exact HK.out | apply KeepBut.set_ | apply keep_drewN | apply keep_drew | apply keep_alloc) | exact HK.out)⟩, ⟨by repeat (first | (with_reducible first | exact HB.out | apply below_alloc | apply pw_below_drewN | apply below_drew1 | refine below_set ?_ (IsS56.ge HI0.out)) | exact HB.out)⟩⟩
   rw [if_pos c10] at H
   have c10b0 : ((bt x1000_1 x1001_1) == 92) = true := beq_iff_eq.mpr c10
   have c10b1 : ((bt x1000_1 x1001_1) != 92) = false := bne_eq_false_iff_eq.mpr c10
   clear c10
   replace H := Option.bind_eq_some_iff.mp H
   obtain ⟨⟨t101, t102, t103⟩, A110, H⟩ := H
   replace H : (if t101 = true then (spec_reader_quoted.l0 k1 t102 t103) else (some (false, t102, t103))) = some (r1, r2, r3) := H
   have A11 := mk0 A110
   clear A110
   by_cases c12 : t101 = true
   ·subst c12
    have H1 : (spec_reader_quoted.l0 k1 t102 t103) = some (r1, r2, r3) := by rw [if_pos rfl] at H; exact H
    clear H
    have H := H1
    clear H1
    have H' := mk0 H
    clear H
    obtain ⟨HGz13, hgz13⟩ := HI0.out
    have hcz13_0 := cellS56_0 HGz13
    have hcz13_1 := cellS56_1 HGz13
    have hfz13_0 := blk_frozen HGz13 0
    have hfz13_1 := blk_frozen HGz13 1
    clear HGz13 hgz13
    have p5 : 0 ≤ (x1001_1 : Int) := of_decide_eq_true zq9
    have q5 : x1001_1 < (x1000_1.size : Int) := of_decide_eq_true zq9
    have hx5 := bt_at x1000_1 x1001_1
    replace p5 := eq_true p5
    replace q5 := eq_true q5
    go_wp2_with (first | (go_at_call 31; (with_reducible refine (spec_reader_escape.calls k1 g x1000_1 (wrap64 (x1001_1 + 1)) true t102 t103 w0 _ ?side1 ?side2 A11.out).mono ?_); (case side1 => exact zq0); (case side2 => exact zq3); rintro e w14 ⟨rfl, hi, hb, hk⟩; have n0_ := mk0 (KeepBut.trans zq1 hk (.inl rfl)); have n1_ := mk0 (hb); have n2_ := mk0 (hi); clear HK HB HI0; have HK := n0_; have HB := n1_; have HI0 := n2_; clear n0_ n1_ n2_; (try clear hb); (try clear hb2); (try clear hk); (try clear hi)))
    repeat (go_quiet (first | (go_at_call 31; (with_reducible refine (spec_reader_escape.calls k1 g x1000_1 (wrap64 (x1001_1 + 1)) true t102 t103 w0 _ ?side1 ?side2 A11.out).mono ?_); (case side1 => exact zq0); (case side2 => exact zq3); rintro e w14 ⟨rfl, hi, hb, hk⟩; have n0_ := mk0 (KeepBut.trans zq1 hk (.inl rfl)); have n1_ := mk0 (hb); have n2_ := mk0 (hi); clear HK HB HI0; have HK := n0_; have HB := n1_; have HI0 := n2_; clear n0_ n1_ n2_; (try clear hb); (try clear hb2); (try clear hk); (try clear hi))); try go_wp2_with (first | (go_at_call 31; (with_reducible refine (spec_reader_escape.calls k1 g x1000_1 (wrap64 (x1001_1 + 1)) true t102 t103 w0 _ ?side1 ?side2 A11.out).mono ?_); (case side1 => exact zq0); (case side2 => exact zq3); rintro e w14 ⟨rfl, hi, hb, hk⟩; have n0_ := mk0 (KeepBut.trans zq1 hk (.inl rfl)); have n1_ := mk0 (hb); have n2_ := mk0 (hi); clear HK HB HI0; have HK := n0_; have HB := n1_; have HI0 := n2_; clear n0_ n1_ n2_; (try clear hb); (try clear hb2); (try clear hk); (try clear hi))))
    go_roundg k1
    case measure => have := HK1.out; omega
    case rel => exact ⟨(t102), (t103), H', ⟨by have := HK1.out; omega⟩, ⟨by repeat (first | (with_reducible first | exact HI0.out | apply IsS56.alloc | apply IsS56.drewN | apply IsS56.drew | apply IsS56.set_0 | apply IsS56.set_1) | exact HI0.out)⟩, ⟨by repeat (first | (with_reducible first | exact HK.out | apply KeepBut.set_ | apply keep_drewN | apply keep_drew | apply keep_alloc) | exact HK.out)⟩, ⟨by repeat (first | (with_reducible first | exact HB.out | apply below_alloc | apply pw_below_drewN | apply below_drew1 | refine below_set ?_ (IsS56.ge HI0.out)) | exact HB.out)⟩⟩
   replace c12 := Bool.eq_false_iff.mpr c12
   subst c12
   have H1 : (some (false, t102, t103)) = some (r1, r2, r3) := by rw [if_neg (show ¬ (false = true) by decide)] at H; exact H
   clear H
   have H := H1
   clear H1
   simp only [Option.some.injEq, Prod.mk.injEq] at H
   obtain ⟨rfl, rfl, rfl⟩ := H
   obtain ⟨HGz15, hgz15⟩ := HI0.out
   have hcz15_0 := cellS56_0 HGz15
   have hcz15_1 := cellS56_1 HGz15
   have hfz15_0 := blk_frozen HGz15 0
   have hfz15_1 := blk_frozen HGz15 1
   clear HGz15 hgz15
   have p5 : 0 ≤ (x1001_1 : Int) := of_decide_eq_true zq9
   have q5 : x1001_1 < (x1000_1.size : Int) := of_decide_eq_true zq9
   have hx5 := bt_at x1000_1 x1001_1
   replace p5 := eq_true p5
   replace q5 := eq_true q5
   go_wp2_with (first | (go_at_call 31; (with_reducible refine (spec_reader_escape.calls k1 g x1000_1 (wrap64 (x1001_1 + 1)) false t102 t103 w0 _ ?side1 ?side2 A11.out).mono ?_); (case side1 => exact zq0); (case side2 => exact zq3); rintro e w16 ⟨rfl, hi, hb, hk⟩; have n0_ := mk0 (KeepBut.trans zq1 hk (.inl rfl)); have n1_ := mk0 (hb); have n2_ := mk0 (hi); clear HK HB HI0; have HK := n0_; have HB := n1_; have HI0 := n2_; clear n0_ n1_ n2_; (try clear hb); (try clear hb2); (try clear hk); (try clear hi)))
   repeat (go_quiet (first | (go_at_call 31; (with_reducible refine (spec_reader_escape.calls k1 g x1000_1 (wrap64 (x1001_1 + 1)) false t102 t103 w0 _ ?side1 ?side2 A11.out).mono ?_); (case side1 => exact zq0); (case side2 => exact zq3); rintro e w16 ⟨rfl, hi, hb, hk⟩; have n0_ := mk0 (KeepBut.trans zq1 hk (.inl rfl)); have n1_ := mk0 (hb); have n2_ := mk0 (hi); clear HK HB HI0; have HK := n0_; have HB := n1_; have HI0 := n2_; clear n0_ n1_ n2_; (try clear hb); (try clear hb2); (try clear hk); (try clear hi))); try go_wp2_with (first | (go_at_call 31; (with_reducible refine (spec_reader_escape.calls k1 g x1000_1 (wrap64 (x1001_1 + 1)) false t102 t103 w0 _ ?side1 ?side2 A11.out).mono ?_); (case side1 => exact zq0); (case side2 => exact zq3); rintro e w16 ⟨rfl, hi, hb, hk⟩; have n0_ := mk0 (KeepBut.trans zq1 hk (.inl rfl)); have n1_ := mk0 (hb); have n2_ := mk0 (hi); clear HK HB HI0; have HK := n0_; have HB := n1_; have HI0 := n2_; clear n0_ n1_ n2_; (try clear hb); (try clear hb2); (try clear hk); (try clear hi))))
   go_ret
   exact ⟨by first | rfl | (simp [errW_none, errW_some] <;> rfl) | (simp [*, errW_none, errW_some] <;> rfl), by repeat (first | (with_reducible first | exact HI0.out | apply IsS56.alloc | apply IsS56.drewN | apply IsS56.drew | apply IsS56.set_0 | apply IsS56.set_1) | exact HI0.out), by repeat (first | (with_reducible first | exact HB.out | apply below_alloc | apply pw_below_drewN | apply below_drew1 | refine below_set ?_ (IsS56.ge HI0.out)) | exact HB.out), by repeat (first | (with_reducible first | exact HK.out | apply KeepBut.set_ | apply keep_drewN | apply keep_drew | apply keep_alloc) | exact HK.out)⟩
def spec_reader_take.f (s0_0 : ByteArray) (s0_1 : Int) (a1 : Int) : Option (Bool × ByteArray × Int) := if s0_1 < (s0_0.size : Int) then (if 0 ≤ s0_1 then (if (bt s0_0 s0_1) = a1 then (some (true, s0_0, wrap64 (s0_1 + 1))) else (some (false, s0_0, s0_1))) else (none)) else (some (false, s0_0, s0_1))
set_option maxHeartbeats 8000000 in
set_option maxRecDepth 100000 in
theorem spec_reader_take.calls (g : Nat) (s0_0 : ByteArray) (s0_1 : Int) (a1 : Int) (r1 : Bool) (r2 : ByteArray) (r3 : Int) (w0 w : World) (hI : IsS56 w0 w g s0_0 s0_1) (hB : Below w0.heap.size w0 w) (h : spec_reader_take.f s0_0 s0_1 a1 = some (r1, r2, r3)) :
 Calls Tryd.prog 67 #[.pointer (some ⟨g, 0, none⟩), .int .u8 a1] w fun e w' => e = .returned (.bool r1) ∧ IsS56 w0 w' g r2 r3 ∧ Below w0.heap.size w0 w' ∧ KeepBut w w' g none := by
 have HI0 := mk0 hI
 have HK := mk0 (KeepBut.refl w g none)
 have HL := mk0 hB.size
 clear hI
 have HW0 := mk0 hB.size
 have HB := mk0 hB
 clear hB
 have H : (if s0_1 < (s0_0.size : Int) then (if 0 ≤ s0_1 then (if (bt s0_0 s0_1) = a1 then (some (true, s0_0, wrap64 (s0_1 + 1))) else (some (false, s0_0, s0_1))) else (none)) else (some (false, s0_0, s0_1))) = some (r1, r2, r3) := h
 clear h
 by_cases c3 : s0_1 < (s0_0.size : Int)
 rotate_left
 ·rw [if_neg c3] at H
  have c3b0 : decide (s0_1 < (s0_0.size : Int)) = false := decide_eq_false c3
  clear c3
  simp only [Option.some.injEq, Prod.mk.injEq] at H
  obtain ⟨rfl, rfl, rfl⟩ := H
  obtain ⟨HGz9, hgz9⟩ := HI0.out
  have hcz9_0 := cellS56_0 HGz9
  have hcz9_1 := cellS56_1 HGz9
  have hfz9_0 := blk_frozen HGz9 0
  have hfz9_1 := blk_frozen HGz9 1
  clear HGz9 hgz9
  go_enter Tryd.func67, Tryd.ntmps67
  go_wp2
  repeat (go_quiet (fail); try go_wp2)
  go_ret
  exact ⟨by first | rfl | (simp [errW_none, errW_some] <;> rfl) | (simp [*, errW_none, errW_some] <;> rfl), by repeat (first | (with_reducible first | exact HI0.out | apply IsS56.alloc | apply IsS56.drewN | apply IsS56.drew | apply IsS56.set_0 | apply IsS56.set_1) | exact HI0.out), by repeat (first | (with_reducible first | exact HB.out | apply below_alloc | apply pw_below_drewN | apply below_drew1 | refine below_set ?_ (IsS56.ge HI0.out)) | exact HB.out), by repeat (first | (with_reducible first | exact HK.out | apply KeepBut.set_ | apply keep_drewN | apply keep_drew | apply keep_alloc) | exact HK.out)⟩
 rw [if_pos c3] at H
 have c3b0 : decide (s0_1 < (s0_0.size : Int)) = true := decide_eq_true c3
 clear c3
 by_cases c4 : 0 ≤ s0_1
 rotate_left
 ·rw [if_neg c4] at H
  exact absurd H (by simp)
 rw [if_pos c4] at H
 have c4b0 : decide (0 ≤ s0_1) = true := decide_eq_true c4
 clear c4
 by_cases c6 : (bt s0_0 s0_1) = a1
 rotate_left
 ·rw [if_neg c6] at H
  have c6b0 : ((bt s0_0 s0_1) == a1) = false := beq_eq_false_iff_ne.mpr c6
  have c6b1 : ((bt s0_0 s0_1) != a1) = true := bne_iff_ne.mpr c6
  simp only [Option.some.injEq, Prod.mk.injEq] at H
  obtain ⟨rfl, rfl, rfl⟩ := H
  obtain ⟨HGz8, hgz8⟩ := HI0.out
  have hcz8_0 := cellS56_0 HGz8
  have hcz8_1 := cellS56_1 HGz8
  have hfz8_0 := blk_frozen HGz8 0
  have hfz8_1 := blk_frozen HGz8 1
  clear HGz8 hgz8
  have p5 : 0 ≤ (s0_1 : Int) := of_decide_eq_true zq9
  have q5 : s0_1 < (s0_0.size : Int) := of_decide_eq_true zq9
  have hx5 := bt_at s0_0 s0_1
  replace p5 := eq_true p5
  replace q5 := eq_true q5
  go_enter Tryd.func67, Tryd.ntmps67
  go_wp2
  repeat (go_quiet (fail); try go_wp2)
  go_ret
  exact ⟨by first | rfl | (simp [errW_none, errW_some] <;> rfl) | (simp [*, errW_none, errW_some] <;> rfl), by repeat (first | (with_reducible first | exact HI0.out | apply IsS56.alloc | apply IsS56.drewN | apply IsS56.drew | apply IsS56.set_0 | apply IsS56.set_1) | exact HI0.out), by repeat (first | (with_reducible first | exact HB.out | apply below_alloc | apply pw_below_drewN | apply below_drew1 | refine below_set ?_ (IsS56.ge HI0.out)) | exact HB.out), by repeat (first | (with_reducible first | exact HK.out | apply KeepBut.set_ | apply keep_drewN | apply keep_drew | apply keep_alloc) | exact HK.out)⟩
 rw [if_pos c6] at H
 have c6b0 : ((bt s0_0 s0_1) == a1) = true := beq_iff_eq.mpr c6
 have c6b1 : ((bt s0_0 s0_1) != a1) = false := bne_eq_false_iff_eq.mpr c6
 clear c6
 simp only [Option.some.injEq, Prod.mk.injEq] at H
 obtain ⟨rfl, rfl, rfl⟩ := H
 obtain ⟨HGz7, hgz7⟩ := HI0.out
 have hcz7_0 := cellS56_0 HGz7
 have hcz7_1 := cellS56_1 HGz7
 have hfz7_0 := blk_frozen HGz7 0
 have hfz7_1 := blk_frozen HGz7 1
 clear HGz7 hgz7
 have p5 : 0 ≤ (s0_1 : Int) := of_decide_eq_true zq9
 have q5 : s0_1 < (s0_0.size : Int) := of_decide_eq_true zq9
 have hx5 := bt_at s0_0 s0_1
 replace p5 := eq_true p5
 replace q5 := eq_true q5
 go_enter Tryd.func67, Tryd.ntmps67
 go_wp2
 repeat (go_quiet (fail); try go_wp2)
 go_ret
 exact ⟨by first | rfl | (simp [errW_none, errW_some] <;> rfl) | (simp [*, errW_none, errW_some] <;> rfl), by repeat (first | (with_reducible first | exact HI0.out | apply IsS56.alloc | apply IsS56.drewN | apply IsS56.drew | apply IsS56.set_0 | apply IsS56.set_1) | exact HI0.out), by repeat (first | (with_reducible first | exact HB.out | apply below_alloc | apply pw_below_drewN | apply below_drew1 | refine below_set ?_ (IsS56.ge HI0.out)) | exact HB.out), by repeat (first | (with_reducible first | exact HK.out | apply KeepBut.set_ | apply keep_drewN | apply keep_drew | apply keep_alloc) | exact HK.out)⟩
def spec_reader_digits.l0 : Nat → Int → Int → ByteArray → Int → Option (Bool × ByteArray × Int)
  | 0, _, _, _, _ => none
  | k + 1, x3, x4, x1000, x1001 => if 48 ≤ x4 then (if x4 ≤ 57 then ((spec_reader_here.f x1000 (wrap64 (x1001 + 1))).bind fun bt104 => (spec_reader_digits.l0 k x3 bt104.1 bt104.2.1 bt104.2.2)) else (some (decide (x1001 > x3), x1000, x1001))) else (some (decide (x1001 > x3), x1000, x1001))
def spec_reader_digits.f (k : Nat) (s0_0 : ByteArray) (s0_1 : Int) : Option (Bool × ByteArray × Int) := (spec_reader_here.f s0_0 s0_1).bind fun bt101 => (spec_reader_digits.l0 k s0_1 bt101.1 bt101.2.1 bt101.2.2)
theorem spec_reader_digits.mono_l : ∀ k, (∀ y0 y1 y2 y3, LeO (spec_reader_digits.l0 k y0 y1 y2 y3) (spec_reader_digits.l0 (k + 1) y0 y1 y2 y3))
 | 0 => fun _ _ _ _ r h => by simp [spec_reader_digits.l0] at h
 | k + 1 => by
  have ih0 := spec_reader_digits.mono_l k
  ·intro y0 y1 y2 y3
   unfold spec_reader_digits.l0
   repeat' first
   | (with_reducible exact ih0 _ _ _ _)
   | (with_reducible exact LeO.refl _)
   | (with_reducible exact LeO.none _)
   | (with_reducible refine LeO.ite ?_ ?_)
   | (with_reducible refine LeO.bind ?_ (fun _ => ?_))
   | exact ih0 _ _ _ _
   | exact LeO.none _
   | refine LeO.ite ?_ ?_
   | refine LeO.bind ?_ (fun _ => ?_)
theorem spec_reader_digits.mono : ∀ a0 a1 k, LeO (spec_reader_digits.f k a0 a1) (spec_reader_digits.f (k + 1) a0 a1) := by
 intro a0 a1 k
 have ih0 := spec_reader_digits.mono_l k
 unfold spec_reader_digits.f
 repeat' first
  | (with_reducible exact ih0 _ _ _ _)
  | (with_reducible exact LeO.refl _)
  | (with_reducible exact LeO.none _)
  | (with_reducible refine LeO.ite ?_ ?_)
  | (with_reducible refine LeO.bind ?_ (fun _ => ?_))
  | exact ih0 _ _ _ _
  | exact LeO.none _
  | refine LeO.ite ?_ ?_
  | refine LeO.bind ?_ (fun _ => ?_)
set_option maxHeartbeats 8000000 in
set_option maxRecDepth 100000 in
theorem spec_reader_digits.calls (k : Nat) (g : Nat) (s0_0 : ByteArray) (s0_1 : Int) (r1 : Bool) (r2 : ByteArray) (r3 : Int) (w0 w : World) (hI : IsS56 w0 w g s0_0 s0_1) (hB : Below w0.heap.size w0 w) (h : spec_reader_digits.f k s0_0 s0_1 = some (r1, r2, r3)) :
 Calls Tryd.prog 68 #[.pointer (some ⟨g, 0, none⟩)] w fun e w' => e = .returned (.bool r1) ∧ IsS56 w0 w' g r2 r3 ∧ Below w0.heap.size w0 w' ∧ KeepBut w w' g none := by
 have HI0 := mk0 hI
 have HK := mk0 (KeepBut.refl w g none)
 have HL := mk0 hB.size
 clear hI
 have HW0 := mk0 hB.size
 have HB := mk0 hB
 clear hB
 have H : ((spec_reader_here.f s0_0 s0_1).bind fun bt101 => (spec_reader_digits.l0 k s0_1 bt101.1 bt101.2.1 bt101.2.2)) = some (r1, r2, r3) := h
 clear h
 replace H := Option.bind_eq_some_iff.mp H
 obtain ⟨⟨t101, t102, t103⟩, A20, H⟩ := H
 replace H : (spec_reader_digits.l0 k s0_1 t101 t102 t103) = some (r1, r2, r3) := H
 have A2 := mk0 A20
 clear A20
 have H' := mk0 H
 clear H
 obtain ⟨HGz3, hgz3⟩ := HI0.out
 have hcz3_0 := cellS56_0 HGz3
 have hcz3_1 := cellS56_1 HGz3
 have hfz3_0 := blk_frozen HGz3 0
 have hfz3_1 := blk_frozen HGz3 1
 clear HGz3 hgz3
 go_enter Tryd.func68, Tryd.ntmps68
 go_wp2_with (first | ((with_reducible refine gate_callee (f := 48) rfl ?_); refine goesL_ (some 10) rfl rfl Tryd.func48 zq23 rfl #[.pointer (some ⟨g, 0, none⟩)] rfl zq2 ?_; (with_reducible refine (spec_reader_here.calls g s0_0 s0_1 t101 t102 t103 w0 _ ?side1 ?side2 A2.out).mono ?_); (case side1 => exact zq0); (case side2 => exact zq3); rintro e w4 ⟨rfl, hi, hb, hk⟩; refine ⟨_, rfl, ?_⟩; have n0_ := mk0 (KeepBut.trans zq1 hk (.inl rfl)); have n1_ := mk0 (hb); have n2_ := mk0 (hi); clear HK HB HI0; have HK := n0_; have HB := n1_; have HI0 := n2_; clear n0_ n1_ n2_; (try clear hb); (try clear hb2); (try clear hk); (try clear hi)))
 (try simp only [Act.put, List.setIfInBounds_toArray, List.set_cons_zero, List.set_cons_succ])
 go_loopg [4] k (fun kq v4 w' => ∃ (x4_1 : Int) (x1000_1 : ByteArray) (x1001_1 : Int), v4 = .int .u8 x4_1 ∧ Aside0 (spec_reader_digits.l0 kq s0_1 x4_1 x1000_1 x1001_1 = some (r1, r2, r3)) ∧ Aside0 (kq ≤ k) ∧ Aside0 (IsS56 w0 w' g x1000_1 x1001_1) ∧ Aside0 (KeepBut w w' g none) ∧ Aside0 (Below w0.heap.size w0 w'))
 case atStart => exact ⟨(t101), (t102), (t103), zq13, H', ⟨Nat.le_refl _⟩, ⟨by repeat (first | (with_reducible first | exact HI0.out | apply IsS56.alloc | apply IsS56.drewN | apply IsS56.drew | apply IsS56.set_0 | apply IsS56.set_1) | exact HI0.out)⟩, ⟨by repeat (first | (with_reducible first | exact HK.out | apply KeepBut.set_ | apply keep_drewN | apply keep_drew | apply keep_alloc) | exact HK.out)⟩, ⟨by repeat (first | (with_reducible first | exact HB.out | apply below_alloc | apply pw_below_drewN | apply below_drew1 | refine below_set ?_ (IsS56.ge HI0.out)) | exact HB.out)⟩⟩
 case round =>
  clear H'
  try clear p2
  try clear c4
  try clear hcz3_0
  try clear hcz3_1
  try clear hfz3_0
  try clear hfz3_1
  obtain ⟨x4_1, x1000_1, x1001_1, rfl, HA, HK1, HI0, HK, HB⟩ := hrel
  cases gk with
  | zero => exact absurd HA.out (by simp [spec_reader_digits.l0])
  | succ k1 =>
   have H := HA.out
   clear HA
   simp only [spec_reader_digits.l0] at H
   by_cases c5 : 48 ≤ x4_1
   rotate_left
   ·rw [if_neg c5] at H
    have c5b0 : decide (48 ≤ x4_1) = false := decide_eq_false c5
    clear c5
    simp only [Option.some.injEq, Prod.mk.injEq] at H
    obtain ⟨rfl, rfl, rfl⟩ := H
    obtain ⟨HGz11, hgz11⟩ := HI0.out
    have hcz11_0 := cellS56_0 HGz11
    have hcz11_1 := cellS56_1 HGz11
    have hfz11_0 := blk_frozen HGz11 0
    have hfz11_1 := blk_frozen HGz11 1
    clear HGz11 hgz11
    go_wp2
    go_ret
    exact ⟨by first | rfl | (simp [errW_none, errW_some] <;> rfl) | (simp [*, errW_none, errW_some] <;> rfl), by repeat (first | (with_reducible first | exact HI0.out | apply IsS56.alloc | apply IsS56.drewN | apply IsS56.drew | apply IsS56.set_0 | apply IsS56.set_1) | exact HI0.out), by repeat (first | (with_reducible first | exact HB.out | apply below_alloc | apply pw_below_drewN | apply below_drew1 | refine below_set ?_ (IsS56.ge HI0.out)) | exact HB.out), by repeat (first | (with_reducible first | exact HK.out | apply KeepBut.set_ | apply keep_drewN | apply keep_drew | apply keep_alloc) | exact HK.out)⟩
   rw [if_pos c5] at H
   have c5b0 : decide (48 ≤ x4_1) = true := decide_eq_true c5
   clear c5
   by_cases c6 : x4_1 ≤ 57
   rotate_left
   ·rw [if_neg c6] at H
    have c6b0 : decide (x4_1 ≤ 57) = false := decide_eq_false c6
    clear c6
    simp only [Option.some.injEq, Prod.mk.injEq] at H
    obtain ⟨rfl, rfl, rfl⟩ := H
    obtain ⟨HGz10, hgz10⟩ := HI0.out
    have hcz10_0 := cellS56_0 HGz10
    have hcz10_1 := cellS56_1 HGz10
    have hfz10_0 := blk_frozen HGz10 0
    have hfz10_1 := blk_frozen HGz10 1
    clear HGz10 hgz10
    go_wp2
    go_ret
    exact ⟨by first | rfl | (simp [errW_none, errW_some] <;> rfl) | (simp [*, errW_none, errW_some] <;> rfl), by repeat (first | (with_reducible first | exact HI0.out | apply IsS56.alloc | apply IsS56.drewN | apply IsS56.drew | apply IsS56.set_0 | apply IsS56.set_1) | exact HI0.out), by repeat (first | (with_reducible first | exact HB.out | apply below_alloc | apply pw_below_drewN | apply below_drew1 | refine below_set ?_ (IsS56.ge HI0.out)) | exact HB.out), by repeat (first | (with_reducible first | exact HK.out | apply KeepBut.set_ | apply keep_drewN | apply keep_drew | apply keep_alloc) | exact HK.out)⟩
   rw [if_pos c6] at H
   have c6b0 : decide (x4_1 ≤ 57) = true := decide_eq_true c6
   clear c6
   replace H := Option.bind_eq_some_iff.mp H
   obtain ⟨⟨t104, t105, t106⟩, A70, H⟩ := H
   replace H : (spec_reader_digits.l0 k1 s0_1 t104 t105 t106) = some (r1, r2, r3) := H
   have A7 := mk0 A70
   clear A70
   have H' := mk0 H
   clear H
   obtain ⟨HGz8, hgz8⟩ := HI0.out
   have hcz8_0 := cellS56_0 HGz8
   have hcz8_1 := cellS56_1 HGz8
   have hfz8_0 := blk_frozen HGz8 0
   have hfz8_1 := blk_frozen HGz8 1
   clear HGz8 hgz8
   go_wp2_with (first | ((with_reducible refine gate_callee (f := 48) rfl ?_); refine goesL_ (some 18) rfl rfl Tryd.func48 zq23 rfl #[.pointer (some ⟨g, 0, none⟩)] rfl zq2 ?_; (with_reducible refine (spec_reader_here.calls g x1000_1 (wrap64 (x1001_1 + 1)) t104 t105 t106 w0 _ ?side1 ?side2 A7.out).mono ?_); (case side1 => exact zq0); (case side2 => exact zq3); rintro e w9 ⟨rfl, hi, hb, hk⟩; refine ⟨_, rfl, ?_⟩; have n0_ := mk0 (KeepBut.trans zq1 hk (.inl rfl)); have n1_ := mk0 (hb); have n2_ := mk0 (hi); clear HK HB HI0; have HK := n0_; have HB := n1_; have HI0 := n2_; clear n0_ n1_ n2_; (try clear hb); (try clear hb2); (try clear hk); (try clear hi)))
   go_roundg k1
   case measure => have := HK1.out; omega
   case rel => exact ⟨(t104), (t105), (t106), zq13, H', ⟨by have := HK1.out; omega⟩, ⟨by repeat (first | (with_reducible first | exact HI0.out | apply IsS56.alloc | apply IsS56.drewN | apply IsS56.drew | apply IsS56.set_0 | apply IsS56.set_1) | exact HI0.out)⟩, ⟨by repeat (first | (with_reducible first | exact HK.out | apply KeepBut.set_ | apply keep_drewN | apply keep_drew | apply keep_alloc) | exact HK.out)⟩, ⟨by repeat (first | (with_reducible first | exact HB.out | apply below_alloc | apply pw_below_drewN | apply below_drew1 | refine below_set ?_ (IsS56.ge HI0.out)) | exact HB.out)⟩⟩
end Go.Proofs.YtaigbkkgmncipaaDoor.Y
end
