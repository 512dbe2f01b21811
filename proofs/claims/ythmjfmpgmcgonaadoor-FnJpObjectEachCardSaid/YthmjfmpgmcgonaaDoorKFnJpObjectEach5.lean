/- The words, walks and laws that the proof rests on, laid together (part 5). -/
import Derived.Test.YthmjfmpgmcgonaaDoorKFnJpObjectEach4
section
namespace Go.Proofs.YthmjfmpgmcgonaaDoor.K
open Go.RowKit Go.Proofs.YthmjfmpgmcgonaaDoorW.PrintWords Go.Proofs.YthmjfmpgmcgonaaDoorW.PrintLast Go.Proofs.YthmjfmpgmcgonaaDoorW.PrintMore
attribute [local go_sem] max2_int min2_int max_two min_two max_three min_three max_four min_four
set_option linter.unusedVariables false
set_option linter.unusedSimpArgs false
mutual
def laws_FnJpObjectEach.j0 : Nat → ByteArray→List ByteArray→Bool→Option (Bool)
  | 0,_,_,_=>none
  | k+1,x0,x1,x18=>if x18=true then (some true) else ((j2l.f k x0 x1).bind fun bt102=>(if bt102.2.2.2.2.2=true then (laws_FnJpObjectEach.j1 k x0 x1 (bt102.1 != 6) bt102.1 bt102.2.1 bt102.2.2.1 bt102.2.2.2.1 bt102.2.2.2.2.1) else (laws_FnJpObjectEach.j1 k x0 x1 true bt102.1 bt102.2.1 bt102.2.2.1 bt102.2.2.2.1 bt102.2.2.2.2.1)))
def laws_FnJpObjectEach.j1 : Nat → ByteArray→List ByteArray→Bool→Int→Int→Int→List (S49)→List (S27)→Option (Bool)
  | 0,_,_,_,_,_,_,_,_=>none
  | k+1,x0,x1,x31,x113000,x113001,x113002,x113003,x113004=>if x31=true then (some true) else ((j3e.f k x0 x1).bind fun bt113=>(if bt113.2=true then (laws_FnJpObjectEach.j2 k x0 bt113.1 ((bt113.1.length:Int) != (x113004.length:Int)) x113000 x113001 x113002 x113003 x113004) else (laws_FnJpObjectEach.j2 k x0 bt113.1 true x113000 x113001 x113002 x113003 x113004)))
def laws_FnJpObjectEach.j2 : Nat → ByteArray→List (S31)→Bool→Int→Int→Int→List (S49)→List (S27)→Option (Bool)
  | 0,_,_,_,_,_,_,_,_=>none
  | k+1,x0,x7,x47,x113000,x113001,x113002,x113003,x113004=>if x47=true then (some false) else (laws_FnJpObjectEach.l0 k x0 x7 (x7.length:Int) 0 x113000 x113001 x113002 x113003 x113004)
def laws_FnJpObjectEach.l0 : Nat → ByteArray→List (S31)→Int→Int→Int→Int→Int→List (S49)→List (S27)→Option (Bool)
  | 0,_,_,_,_,_,_,_,_,_=>none
  | k+1,x0,x48,x49,x50,x113000,x113001,x113002,x113003,x113004=>if x50<x49 then (if 0≤x50 then (if x50<(x48.length:Int) then (if x50<(x113003.length:Int) then (if 0≤((j2s x113003 x50).f0) then (if ((j2s x113003 x50).f0)≤((j2s x113003 x50).f1) then (if ((j2s x113003 x50).f1)≤(x0.size:Int) then ((j1z.f k (x0.extract (((j2s x113003 x50).f0):Int).toNat (((j2s x113003 x50).f1):Int).toNat)).bind fun t121=>(if ((j2d x48 x50).f0).toList=t121.toList then (if x50<(x113004.length:Int) then ((j3i.f ((j2d x48 x50).f0) ((j2d x48 x50).f1) ((j2d x48 x50).f2) ((j2d x48 x50).f3) x0 ((j2i x113004 x50).f0) ((j2i x113004 x50).f1) ((j2i x113004 x50).f2) ((j2i x113004 x50).f3) ((j2i x113004 x50).f4)).bind fun t123=>(if t123=true then (laws_FnJpObjectEach.l0 k x0 x48 x49 (wrap64 (x50+1)) x113000 x113001 x113002 x113003 x113004) else (some false))) else (none)) else (some false))) else (none)) else (none)) else (none)) else (none)) else (none)) else (none)) else (some true)
end
def laws_FnJpObjectEach.f (k : Nat) (a0:ByteArray) (l1:List ByteArray):Option (Bool):=if (a0.size:Int)>2147483647 then (laws_FnJpObjectEach.j0 k a0 l1 true) else ((j2m.f k l1).bind fun t101=>(laws_FnJpObjectEach.j0 k a0 l1 (!t101)))
theorem laws_FnJpObjectEach.mono_l : ∀ k,(∀ y0 y1 y2,LeO (laws_FnJpObjectEach.j0 k y0 y1 y2) (laws_FnJpObjectEach.j0 (k+1) y0 y1 y2))∧(∀ y0 y1 y2 y3 y4 y5 y6 y7,LeO (laws_FnJpObjectEach.j1 k y0 y1 y2 y3 y4 y5 y6 y7) (laws_FnJpObjectEach.j1 (k+1) y0 y1 y2 y3 y4 y5 y6 y7))∧(∀ y0 y1 y2 y3 y4 y5 y6 y7,LeO (laws_FnJpObjectEach.j2 k y0 y1 y2 y3 y4 y5 y6 y7) (laws_FnJpObjectEach.j2 (k+1) y0 y1 y2 y3 y4 y5 y6 y7))∧(∀ y0 y1 y2 y3 y4 y5 y6 y7 y8,LeO (laws_FnJpObjectEach.l0 k y0 y1 y2 y3 y4 y5 y6 y7 y8) (laws_FnJpObjectEach.l0 (k+1) y0 y1 y2 y3 y4 y5 y6 y7 y8))
 | 0=>⟨fun _ _ _ r h=>by simp [laws_FnJpObjectEach.j0] at h,fun _ _ _ _ _ _ _ _ r h=>by simp [laws_FnJpObjectEach.j1] at h,fun _ _ _ _ _ _ _ _ r h=>by simp [laws_FnJpObjectEach.j2] at h,fun _ _ _ _ _ _ _ _ _ r h=>by simp [laws_FnJpObjectEach.l0] at h⟩
 | k+1=>by
  obtain ⟨ih0,ih1,ih2,ih3⟩:=laws_FnJpObjectEach.mono_l k;refine ⟨?_,?_,?_,?_⟩
  ·intro y0 y1 y2;unfold laws_FnJpObjectEach.j0
   exact zm
  ·intro y0 y1 y2 y3 y4 y5 y6 y7;unfold laws_FnJpObjectEach.j1
   exact zm
  ·intro y0 y1 y2 y3 y4 y5 y6 y7;unfold laws_FnJpObjectEach.j2
   exact zm
  ·intro y0 y1 y2 y3 y4 y5 y6 y7 y8;unfold laws_FnJpObjectEach.l0
   exact zm
theorem laws_FnJpObjectEach.mono : ∀ a0 a1 k,LeO (laws_FnJpObjectEach.f k a0 a1) (laws_FnJpObjectEach.f (k+1) a0 a1):=by
 intro a0 a1 k;obtain ⟨ih0,ih1,ih2,ih3⟩:=laws_FnJpObjectEach.mono_l k;unfold laws_FnJpObjectEach.f
 exact zm
def laws_FnJpObjectEach.T12 : Bool × List (List Nat × List Nat):=(true,[([],[]),([0],[0]),([],[]),([],[]),([3],[3]),([],[]),([4,5],[4,5]),([6],[6]),([7],[7]),([],[]),([9],[9]),([],[]),([10,11],[10,11]),([12],[12]),([13],[13]),([2,8,14],[2,8,14]),([15],[15]),([1,16],[1,16]),([17,16],[17]),([18],[18]),([18],[18]),([18],[18]),([21,18],[18,21]),([18],[18]),([22,23,18],[18,22,23]),([24,18],[18,24]),([19,20,25,18,18],[18,19,20,25]),([26,18],[18,26]),([18,27],[18,27])])
def laws_FnJpObjectEach.B12 : List Nat:=[0,1,0,0,8,0,56,120,248,0,512,0,3584,7680,15872,32764,65532,131071,262143,524287,524287,524287,2621439,524287,15204351,31981567,67108863,134217727,268435455]
theorem laws_FnJpObjectEach.tab12 : rtab .any (opsOf Tryd.f6 12)=laws_FnJpObjectEach.T12:=by kernel_rfl
theorem laws_FnJpObjectEach.bits12 : waitsOk laws_FnJpObjectEach.T12.2 laws_FnJpObjectEach.B12=true:=by kernel_rfl
set_option maxHeartbeats 8000000 in
set_option maxRecDepth 100000 in
theorem laws_FnJpObjectEach.calls (k : Nat) (a0:ByteArray) (A1:Option Addr) (c1:Nat) (l1:List ByteArray) (r:Bool) (w:World) (hr1:Kd.C Kd.string w A1 l1.length l1) (hc1:l1.length≤c1) (hG:Laid w) (h:laws_FnJpObjectEach.f k a0 l1=some r) :
 Calls Tryd.prog 6 #[.string a0, .slice A1 l1.length c1] w fun e w'=>e = .returned (.bool r)∧Below w.heap.size w w':=by
 have HG:=mk0 hG;clear hG;have hu27:=Tryd.underlying27;have hu31:=Tryd.underlying31;have HR1:=mk0 hr1;have HC1:=mk0 hc1;clear hr1 hc1;have HB:=mk0 (Below.refl w.heap.size w);have H:(if (a0.size:Int)>2147483647 then (laws_FnJpObjectEach.j0 k a0 l1 true) else ((j2m.f k l1).bind fun t101=>(laws_FnJpObjectEach.j0 k a0 l1 (!t101))))=some r:=h;clear h;have HC3:=mk0 H;clear H;go_enter Tryd.func6,Tryd.ntmps6;go_upto_region 1 with (fail)
 go_cut [18] (fun v18 wc=>∃ (kq:Nat) (x18_2:Bool),v18 = .bool x18_2∧Aside0 (laws_FnJpObjectEach.j0 kq a0 l1 x18_2=some r)∧Aside0 (kq≤k)∧Aside0 (Below w.heap.size w wc))
 case first =>
  have H:=HC3.out;clear HC3;by_cases c4:(a0.size:Int)>2147483647
  ·rw [if_pos c4] at H;have c4b0:decide (2147483647<(a0.size:Int))=true:=decide_eq_true c4;have c4b1:decide (2147483647<a0.size)=true:=decide_eq_true (by omega);clear c4;(skip);have H':=mk0 H;clear H;go_wp2;go_meet
   case rel=>exact ⟨_,(true),(by rfl),H',⟨by omega⟩,⟨by repeat (first|(with_reducible first|exact HB.out|apply j1f|apply j1d|apply j1h)|exact HB.out)⟩⟩
  rw [if_neg c4] at H;have c4b0:decide (2147483647<(a0.size:Int))=false:=decide_eq_false c4;have c4b1:decide (2147483647<a0.size)=false:=decide_eq_false (by omega);clear c4;(skip);replace H:=Option.bind_eq_some_iff.mp H;obtain ⟨t101,A50,H⟩:=H;(try dsimp only at H);have A5:=mk0 A50;clear A50;have H':=mk0 H;clear H;go_wp2_with (first|(go_at_call 7;(with_reducible refine (j2m.calls k _ _ l1 t101 _ ?side1 ?side2 A5.out).mono ?_);(case side1=>exact zq62);(case side2=>exact HC1.out);rintro e w' ⟨rfl,⟨nd,rfl⟩⟩))
  go_meet
  case rel=>exact ⟨_,(!t101),(by rfl),H',⟨by omega⟩,⟨by repeat (first|(with_reducible first|exact HB.out|apply j1f|apply j1d|apply j1h)|exact HB.out)⟩⟩
 case rest =>
  clear HC3;obtain ⟨kq,x18_2,rfl,HA,HJ2,HB⟩:=hcut;cases kq with
  | zero=>exact absurd HA.out (by simp [laws_FnJpObjectEach.j0])
  | succ kj2 =>
   have H:=HA.out;clear HA;simp only [laws_FnJpObjectEach.j0] at H;by_cases c6:x18_2=true
   ·subst c6;rw [if_pos rfl] at H;obtain rfl:=Option.some.inj H;go_wp2;go_ret;exact ⟨by rfl,by repeat (first|(with_reducible first|exact HB.out|apply j1f|apply j1d|apply j1h)|exact HB.out)⟩
   replace c6:=Bool.eq_false_iff.mpr c6;subst c6;rw [if_neg (show ¬ (false=true) by decide)] at H;replace H:=Option.bind_eq_some_iff.mp H;obtain ⟨⟨t102,t103,t104,t105,t108,t111⟩,A70,H⟩:=H;(try dsimp only at H);have A7:=mk0 A70;clear A70;have HC8:=mk0 H;clear H;go_upto_region 4 with (first|((with_reducible refine j1w (f:=8) rfl ?_);refine j2t (some 22) rfl rfl Tryd.func8 zq7 rfl #[.string a0, .slice A1 l1.length c1] rfl zq1 ?_;(with_reducible refine (j2l.calls kj2 a0 _ _ l1 t102 t103 t104 t105 t108 t111 _ ?side1 ?side2 A7.out).mono ?_);(case side1=>exact zq62);(case side2=>exact HC1.out);rintro e w9 ⟨v106,v109,rfl,ho0,ho1,hb⟩;refine ⟨_,rfl,?_⟩;have HO107:=mk0 (Kd.V_lower (Kd.V_mono (ok':=fun k_=>True) ho0 (fun k_ hk_=>trivial)) (j2p zq4));have HO110:=mk0 (Kd.V_lower (Kd.V_mono (ok':=fun k_=>True) ho1 (fun k_ hk_=>trivial)) (j2p zq4));replace HB:=mk0 (j1o zq4 hb);clear hb ho0 ho1)|((with_reducible refine j2x (N:=5) rfl ?_);(try (refine j4l (by rfl) ?_;dsimp only));refine j3d ?hg (N:=5) ?hd (cs:=#[.int .i64 0, .int .i64 0, .int .i64 0, .slice none 0 0, .slice none 0 0]) (t:=27) ?hr ?_;(case hd=>rfl);(case hg=>rfl);(case hr=>exact zq28);intro gb112 hg w10 hbox hb;replace HO107:=mk0 (Kd.V_below (Kd.V_elderB (by (with_reducible repeat (first|apply Kd.V_alloc|apply Kd.V_drewN|apply Kd.V_drew));exact HO107.out) gb112 (Nat.le_of_eq hg.symm)) hb);replace HO110:=mk0 (Kd.V_below (Kd.V_elderB (by (with_reducible repeat (first|apply Kd.V_alloc|apply Kd.V_drewN|apply Kd.V_drew));exact HO110.out) gb112 (Nat.le_of_eq hg.symm)) hb);have BK112:=mk0 (hbox);have GW112:=mk0 ((zq40:w.heap.size≤gb112));have GE112:=mk0 ((zq40:w.heap.size≤gb112));replace HB:=mk0 (j1o zq4 hb);clear hb hbox hg;have hcz11_0:w10.cell? ⟨gb112,0,none⟩=some (.int .i64 0):=(j1b BK112.out 0).trans rfl;have hcz11_1:w10.cell? ⟨gb112,1,none⟩=some (.int .i64 0):=(j1b BK112.out 1).trans rfl;have hcz11_2:w10.cell? ⟨gb112,2,none⟩=some (.int .i64 0):=(j1b BK112.out 2).trans rfl;have hcz11_3:w10.cell? ⟨gb112,3,none⟩=some (.slice none 0 0):=(j1b BK112.out 3).trans rfl;have hcz11_4:w10.cell? ⟨gb112,4,none⟩=some (.slice none 0 0):=(j1b BK112.out 4).trans rfl;have hfz11_0:=j1a BK112.out 0;have hfz11_1:=j1a BK112.out 1;have hfz11_2:=j1a BK112.out 2;have hfz11_3:=j1a BK112.out 3;have hfz11_4:=j1a BK112.out 4;obtain ⟨Ao12,co12,eo12⟩:=Kd.V_slice HO107.out;subst eo12;obtain ⟨Ao13,co13,eo13⟩:=Kd.V_slice HO110.out;subst eo13))
   (try simp only [Act.put,List.setIfInBounds_toArray,List.set_cons_zero,List.set_cons_succ]);go_cut [31] (fun v31 wc=>∃ (kq:Nat) (x31_7:Bool),v31 = .bool x31_7∧Aside0 (laws_FnJpObjectEach.j1 kq a0 l1 x31_7 t102 t103 t104 t105 t108=some r)∧Aside0 (kq≤kj2)∧Aside0 (Kd.V k49 49 wc w.heap.size (fun k_=>k_≠gb112) (.slice Ao12 t105.length co12) t105)∧Aside0 (Kd.V k27 27 wc w.heap.size (fun k_=>k_≠gb112) (.slice Ao13 t108.length co13) t108)∧Aside0 (wc.heap[gb112]? = some (.cells #[.int .i64 t102, .int .i64 t103, .int .i64 t104,(.slice Ao12 t105.length co12),(.slice Ao13 t108.length co13)] 27 (0,0)))∧Aside0 (Below w.heap.size w wc))
   case first =>
    have H:=HC8.out;clear HC8;by_cases c14:t111=true
    rotate_left
    ·replace c14:=Bool.eq_false_iff.mpr c14;subst c14;rw [if_neg (show ¬ (false=true) by decide)] at H;have H':=mk0 H;clear H;go_wp2;go_meet
     case rel=>exact ⟨_,(true),(by rfl),H',⟨by have:=HJ2.out;first|omega|exact Nat.le_refl _⟩,⟨by (with_reducible repeat (first|apply Kd.V_alloc|apply Kd.V_drewN|apply Kd.V_drew));exact Kd.V_mono (Kd.V_far (p:=⟨gb112,4,none⟩) (Kd.V_far (p:=⟨gb112,3,none⟩) (Kd.V_far (p:=⟨gb112,2,none⟩) (Kd.V_far (p:=⟨gb112,1,none⟩) (Kd.V_far (p:=⟨gb112,0,none⟩) (Kd.V_mono HO107.out (fun k_ hk=>(⟨hk,hk.2⟩:_∧k_≠gb112))) (fun _ hk=>hk.2) (.int .i64 t102)) (fun _ hk=>hk.2) (.int .i64 t103)) (fun _ hk=>hk.2) (.int .i64 t104)) (fun _ hk=>hk.2) (.slice Ao12 t105.length co12)) (fun _ hk=>hk.2) (.slice Ao13 t108.length co13)) (fun _ hk=>hk.1.2)⟩,⟨by (with_reducible repeat (first|apply Kd.V_alloc|apply Kd.V_drewN|apply Kd.V_drew));exact Kd.V_mono (Kd.V_far (p:=⟨gb112,4,none⟩) (Kd.V_far (p:=⟨gb112,3,none⟩) (Kd.V_far (p:=⟨gb112,2,none⟩) (Kd.V_far (p:=⟨gb112,1,none⟩) (Kd.V_far (p:=⟨gb112,0,none⟩) (Kd.V_mono HO110.out (fun k_ hk=>(⟨hk,hk.2⟩:_∧k_≠gb112))) (fun _ hk=>hk.2) (.int .i64 t102)) (fun _ hk=>hk.2) (.int .i64 t103)) (fun _ hk=>hk.2) (.int .i64 t104)) (fun _ hk=>hk.2) (.slice Ao12 t105.length co12)) (fun _ hk=>hk.2) (.slice Ao13 t108.length co13)) (fun _ hk=>hk.1.2)⟩,⟨by (with_reducible repeat (first|refine j1e ?_ _|refine j1k ?_|refine j1c ?_ _));refine j2c (cs:=#[.int .i64 t102, .int .i64 t103, .int .i64 t104, .slice Ao12 t105.length co12, .slice none 0 0]) ?_ 4 _ rfl;(with_reducible repeat (first|refine j1e ?_ _|refine j1k ?_|refine j1c ?_ _));refine j2c (cs:=#[.int .i64 t102, .int .i64 t103, .int .i64 t104, .slice none 0 0, .slice none 0 0]) ?_ 3 _ rfl;(with_reducible repeat (first|refine j1e ?_ _|refine j1k ?_|refine j1c ?_ _));refine j2c (cs:=#[.int .i64 t102, .int .i64 t103, .int .i64 0, .slice none 0 0, .slice none 0 0]) ?_ 2 _ rfl;(with_reducible repeat (first|refine j1e ?_ _|refine j1k ?_|refine j1c ?_ _));refine j2c (cs:=#[.int .i64 t102, .int .i64 0, .int .i64 0, .slice none 0 0, .slice none 0 0]) ?_ 1 _ rfl;(with_reducible repeat (first|refine j1e ?_ _|refine j1k ?_|refine j1c ?_ _));refine j2c (cs:=#[.int .i64 0, .int .i64 0, .int .i64 0, .slice none 0 0, .slice none 0 0]) ?_ 0 _ rfl;(with_reducible repeat (first|refine j1e ?_ _|refine j1k ?_|refine j1c ?_ _));exact BK112.out⟩,⟨by repeat (first|(with_reducible first|exact HB.out|apply j1f|apply j1d|apply j1h|refine j1s ?_ GE112.out)|exact HB.out)⟩⟩
    subst c14;rw [if_pos rfl] at H;have H':=mk0 H;clear H;have hcz15_0:w10.cell? ⟨gb112,0,none⟩=some (.int .i64 0):=(j1b BK112.out 0).trans rfl;have hcz15_1:w10.cell? ⟨gb112,1,none⟩=some (.int .i64 0):=(j1b BK112.out 1).trans rfl;have hcz15_2:w10.cell? ⟨gb112,2,none⟩=some (.int .i64 0):=(j1b BK112.out 2).trans rfl;have hcz15_3:w10.cell? ⟨gb112,3,none⟩=some (.slice none 0 0):=(j1b BK112.out 3).trans rfl;have hcz15_4:w10.cell? ⟨gb112,4,none⟩=some (.slice none 0 0):=(j1b BK112.out 4).trans rfl;have hfz15_0:=j1a BK112.out 0;have hfz15_1:=j1a BK112.out 1;have hfz15_2:=j1a BK112.out 2;have hfz15_3:=j1a BK112.out 3;have hfz15_4:=j1a BK112.out 4;go_wp2;go_meet
    case rel=>exact ⟨_,((t102 != 6)),(by rfl),H',⟨by have:=HJ2.out;first|omega|exact Nat.le_refl _⟩,⟨by (with_reducible repeat (first|apply Kd.V_alloc|apply Kd.V_drewN|apply Kd.V_drew));exact Kd.V_mono (Kd.V_far (p:=⟨gb112,4,none⟩) (Kd.V_far (p:=⟨gb112,3,none⟩) (Kd.V_far (p:=⟨gb112,2,none⟩) (Kd.V_far (p:=⟨gb112,1,none⟩) (Kd.V_far (p:=⟨gb112,0,none⟩) (Kd.V_mono HO107.out (fun k_ hk=>(⟨hk,hk.2⟩:_∧k_≠gb112))) (fun _ hk=>hk.2) (.int .i64 t102)) (fun _ hk=>hk.2) (.int .i64 t103)) (fun _ hk=>hk.2) (.int .i64 t104)) (fun _ hk=>hk.2) (.slice Ao12 t105.length co12)) (fun _ hk=>hk.2) (.slice Ao13 t108.length co13)) (fun _ hk=>hk.1.2)⟩,⟨by (with_reducible repeat (first|apply Kd.V_alloc|apply Kd.V_drewN|apply Kd.V_drew));exact Kd.V_mono (Kd.V_far (p:=⟨gb112,4,none⟩) (Kd.V_far (p:=⟨gb112,3,none⟩) (Kd.V_far (p:=⟨gb112,2,none⟩) (Kd.V_far (p:=⟨gb112,1,none⟩) (Kd.V_far (p:=⟨gb112,0,none⟩) (Kd.V_mono HO110.out (fun k_ hk=>(⟨hk,hk.2⟩:_∧k_≠gb112))) (fun _ hk=>hk.2) (.int .i64 t102)) (fun _ hk=>hk.2) (.int .i64 t103)) (fun _ hk=>hk.2) (.int .i64 t104)) (fun _ hk=>hk.2) (.slice Ao12 t105.length co12)) (fun _ hk=>hk.2) (.slice Ao13 t108.length co13)) (fun _ hk=>hk.1.2)⟩,⟨by (with_reducible repeat (first|refine j1e ?_ _|refine j1k ?_|refine j1c ?_ _));refine j2c (cs:=#[.int .i64 t102, .int .i64 t103, .int .i64 t104, .slice Ao12 t105.length co12, .slice none 0 0]) ?_ 4 _ rfl;(with_reducible repeat (first|refine j1e ?_ _|refine j1k ?_|refine j1c ?_ _));refine j2c (cs:=#[.int .i64 t102, .int .i64 t103, .int .i64 t104, .slice none 0 0, .slice none 0 0]) ?_ 3 _ rfl;(with_reducible repeat (first|refine j1e ?_ _|refine j1k ?_|refine j1c ?_ _));refine j2c (cs:=#[.int .i64 t102, .int .i64 t103, .int .i64 0, .slice none 0 0, .slice none 0 0]) ?_ 2 _ rfl;(with_reducible repeat (first|refine j1e ?_ _|refine j1k ?_|refine j1c ?_ _));refine j2c (cs:=#[.int .i64 t102, .int .i64 0, .int .i64 0, .slice none 0 0, .slice none 0 0]) ?_ 1 _ rfl;(with_reducible repeat (first|refine j1e ?_ _|refine j1k ?_|refine j1c ?_ _));refine j2c (cs:=#[.int .i64 0, .int .i64 0, .int .i64 0, .slice none 0 0, .slice none 0 0]) ?_ 0 _ rfl;(with_reducible repeat (first|refine j1e ?_ _|refine j1k ?_|refine j1c ?_ _));exact BK112.out⟩,⟨by repeat (first|(with_reducible first|exact HB.out|apply j1f|apply j1d|apply j1h|refine j1s ?_ GE112.out)|exact HB.out)⟩⟩
   case rest =>
    clear HC8 hcz11_0 hcz11_1 hcz11_2 hcz11_3 hcz11_4 hfz11_0 hfz11_1 hfz11_2 hfz11_3 hfz11_4;obtain ⟨kq,x31_7,rfl,HA,HJ7,HO_113003,HO_113004,BK112,HB⟩:=hcut;cases kq with
    | zero=>exact absurd HA.out (by simp [laws_FnJpObjectEach.j1])
    | succ kj7 =>
     have H:=HA.out;clear HA;simp only [laws_FnJpObjectEach.j1] at H;by_cases c16:x31_7=true
     ·subst c16;rw [if_pos rfl] at H;obtain rfl:=Option.some.inj H;go_wp2;go_ret;exact ⟨by rfl,by repeat (first|(with_reducible first|exact HB.out|apply j1f|apply j1d|apply j1h|refine j1s ?_ GE112.out)|exact HB.out)⟩
     replace c16:=Bool.eq_false_iff.mpr c16;subst c16;rw [if_neg (show ¬ (false=true) by decide)] at H;replace H:=Option.bind_eq_some_iff.mp H;obtain ⟨⟨t113,t114⟩,A170,H⟩:=H;(try dsimp only at H);have A17:=mk0 A170;clear A170;have HC18:=mk0 H;clear H;go_upto_region 7 with (first|((with_reducible refine j1w (f:=16) rfl ?_);refine j2t (some 35) rfl rfl Tryd.func16 zq7 rfl #[.string a0, .slice A1 l1.length c1] rfl zq1 ?_;(with_reducible refine (j3e.calls kj7 a0 _ _ l1 t113 t114 _ ?side1 ?side2 ?side3 A17.out).mono ?_);(case side1=>exact zq62);(case side2=>exact HC1.out);(case side3=>first|exact HG.out|exact Laid.below HG.out zq25);rintro e w19 ⟨v115,rfl,ho0,hb⟩;refine ⟨_,rfl,?_⟩;replace HO_113003:=mk0 (Kd.V_elder' zq43 (Kd.R_base ho0) hb);replace HO_113004:=mk0 (Kd.V_elder' zq44 (Kd.R_base ho0) hb);have HO116:=mk0 (Kd.R_lower ho0 (j2p zq25));replace BK112:=mk0 (j2y (g:=gb112) (o := .cells #[.int .i64 t102, .int .i64 t103, .int .i64 t104, .slice Ao12 t105.length co12, .slice Ao13 t108.length co13] 27 (0,0)) zq29 hb);replace HB:=mk0 (j1o zq25 hb);clear hb ho0))
     (try simp only [Act.put,List.setIfInBounds_toArray,List.set_cons_zero,List.set_cons_succ]);go_cut [47] (fun v47 wc=>∃ (kq:Nat) (x47_17:Bool),v47 = .bool x47_17∧Aside0 (laws_FnJpObjectEach.j2 kq a0 t113 x47_17 t102 t103 t104 t105 t108=some r)∧Aside0 (kq≤kj7)∧Aside0 (Kd.R k31 31 wc w.heap.size (fun _=>True) v115 t113)∧Aside0 (Kd.V k49 49 wc w.heap.size (fun k_=>some k_≠(v115:Value).ownBlock∧k_≠gb112) (.slice Ao12 t105.length co12) t105)∧Aside0 (Kd.V k27 27 wc w.heap.size (fun k_=>some k_≠(v115:Value).ownBlock∧k_≠gb112) (.slice Ao13 t108.length co13) t108)∧Aside0 (wc.heap[gb112]? = some (.cells #[.int .i64 t102, .int .i64 t103, .int .i64 t104,(.slice Ao12 t105.length co12),(.slice Ao13 t108.length co13)] 27 (0,0)))∧Aside0 (Below w.heap.size w wc))
     case first =>
      have H:=HC18.out;clear HC18;by_cases c20:t114=true
      rotate_left
      ·replace c20:=Bool.eq_false_iff.mpr c20;subst c20;rw [if_neg (show ¬ (false=true) by decide)] at H;have H':=mk0 H;clear H;go_wp2;go_meet
       case rel=>exact ⟨_,(true),(by rfl),H',⟨by have:=HJ2.out;have:=HJ7.out;first|omega|exact Nat.le_refl _⟩,⟨by (with_reducible repeat (first|apply Kd.R_alloc|apply Kd.R_drewN|apply Kd.R_drew));exact HO116.out⟩,⟨by (with_reducible repeat (first|apply Kd.V_alloc|apply Kd.V_drewN|apply Kd.V_drew));exact Kd.V_mono HO_113003.out (fun _ hk=>⟨hk.2,hk.1⟩)⟩,⟨by (with_reducible repeat (first|apply Kd.V_alloc|apply Kd.V_drewN|apply Kd.V_drew));exact Kd.V_mono HO_113004.out (fun _ hk=>⟨hk.2,hk.1⟩)⟩,⟨by (with_reducible repeat (first|refine j1e ?_ _|refine j1k ?_|refine j1c ?_ _));exact BK112.out⟩,⟨by repeat (first|(with_reducible first|exact HB.out|apply j1f|apply j1d|apply j1h|refine j1s ?_ GE112.out)|exact HB.out)⟩⟩
      subst c20;rw [if_pos rfl] at H;have H':=mk0 H;clear H;obtain ⟨Ao21,co21,eo21⟩:=Kd.R_slice HO116.out;subst eo21;have hcz22_0:w19.cell? ⟨gb112,0,none⟩=some (.int .i64 t102):=(j1b BK112.out 0).trans rfl;have hcz22_1:w19.cell? ⟨gb112,1,none⟩=some (.int .i64 t103):=(j1b BK112.out 1).trans rfl;have hcz22_2:w19.cell? ⟨gb112,2,none⟩=some (.int .i64 t104):=(j1b BK112.out 2).trans rfl;have hcz22_3:w19.cell? ⟨gb112,3,none⟩=some (.slice Ao12 t105.length co12):=(j1b BK112.out 3).trans rfl;have hcz22_4:w19.cell? ⟨gb112,4,none⟩=some (.slice Ao13 t108.length co13):=(j1b BK112.out 4).trans rfl;have hfz22_0:=j1a BK112.out 0;have hfz22_1:=j1a BK112.out 1;have hfz22_2:=j1a BK112.out 2;have hfz22_3:=j1a BK112.out 3;have hfz22_4:=j1a BK112.out 4;go_wp2;go_meet
      case rel=>exact ⟨_,(((t113.length:Int) != (t108.length:Int))),(by rfl),H',⟨by have:=HJ2.out;have:=HJ7.out;first|omega|exact Nat.le_refl _⟩,⟨by (with_reducible repeat (first|apply Kd.R_alloc|apply Kd.R_drewN|apply Kd.R_drew));exact HO116.out⟩,⟨by (with_reducible repeat (first|apply Kd.V_alloc|apply Kd.V_drewN|apply Kd.V_drew));exact Kd.V_mono HO_113003.out (fun _ hk=>⟨hk.2,hk.1⟩)⟩,⟨by (with_reducible repeat (first|apply Kd.V_alloc|apply Kd.V_drewN|apply Kd.V_drew));exact Kd.V_mono HO_113004.out (fun _ hk=>⟨hk.2,hk.1⟩)⟩,⟨by (with_reducible repeat (first|refine j1e ?_ _|refine j1k ?_|refine j1c ?_ _));exact BK112.out⟩,⟨by repeat (first|(with_reducible first|exact HB.out|apply j1f|apply j1d|apply j1h|refine j1s ?_ GE112.out)|exact HB.out)⟩⟩
     case rest =>
      clear HC18;obtain ⟨kq,x47_17,rfl,HA,HJ17,HO_7,HO_113003,HO_113004,BK112,HB⟩:=hcut;cases kq with
      | zero=>exact absurd HA.out (by simp [laws_FnJpObjectEach.j2])
      | succ kj17 =>
       have H:=HA.out;clear HA;simp only [laws_FnJpObjectEach.j2] at H;by_cases c23:x47_17=true
       ·subst c23;rw [if_pos rfl] at H;obtain rfl:=Option.some.inj H;go_wp2;go_ret;exact ⟨by rfl,by repeat (first|(with_reducible first|exact HB.out|apply j1f|apply j1d|apply j1h|refine j1s ?_ GE112.out)|exact HB.out)⟩
       replace c23:=Bool.eq_false_iff.mpr c23;subst c23;rw [if_neg (show ¬ (false=true) by decide)] at H;have H':=mk0 H;clear H;obtain ⟨Ao24,co24,eo24⟩:=Kd.R_slice HO_7.out;subst eo24;go_wp2;go_loopg [50] kj17 (fun kq v50 w'=>∃ (x50_4:Int),v50 = .int .i64 x50_4∧Aside0 (laws_FnJpObjectEach.l0 kq a0 t113 (t113.length:Int) x50_4 t102 t103 t104 t105 t108=some r)∧Aside0 (kq≤kj17)∧Aside0 (Kd.R k31 31 w' w.heap.size (fun _=>True) (.slice Ao24 t113.length co24) t113)∧Aside0 (Kd.V k49 49 w' w.heap.size (fun k_=>some k_≠((.slice Ao24 t113.length co24):Value).ownBlock∧k_≠gb112) (.slice Ao12 t105.length co12) t105)∧Aside0 (Kd.V k27 27 w' w.heap.size (fun k_=>some k_≠((.slice Ao24 t113.length co24):Value).ownBlock∧k_≠gb112) (.slice Ao13 t108.length co13) t108)∧Aside0 (w'.heap[gb112]? = some (.cells #[.int .i64 t102, .int .i64 t103, .int .i64 t104,(.slice Ao12 t105.length co12),(.slice Ao13 t108.length co13)] 27 (0,0)))∧Aside0 (Below w.heap.size w w'))
       case atStart=>exact ⟨(0),(by rfl),H',⟨Nat.le_refl _⟩,⟨by (with_reducible repeat (first|apply Kd.R_alloc|apply Kd.R_drewN|apply Kd.R_drew));exact HO_7.out⟩,⟨by (with_reducible repeat (first|apply Kd.V_alloc|apply Kd.V_drewN|apply Kd.V_drew));exact HO_113003.out⟩,⟨by (with_reducible repeat (first|apply Kd.V_alloc|apply Kd.V_drewN|apply Kd.V_drew));exact HO_113004.out⟩,⟨by (with_reducible repeat (first|refine j1e ?_ _|refine j1k ?_|refine j1c ?_ _));exact BK112.out⟩,⟨by repeat (first|(with_reducible first|exact HB.out|apply j1f|apply j1d|apply j1h|refine j1s ?_ GE112.out)|exact HB.out)⟩⟩
       case round =>
        clear H';obtain ⟨x50_4,rfl,HA,HK4,HO_48,HO_113003,HO_113004,BK112,HB⟩:=hrel;cases gk with
        | zero=>exact absurd HA.out (by simp [laws_FnJpObjectEach.l0])
        | succ k4 =>
         have H:=HA.out;clear HA;simp only [laws_FnJpObjectEach.l0] at H;by_cases c25:x50_4<(t113.length:Int)
         rotate_left
         ·rw [if_neg c25] at H;have c25b0:decide (x50_4<(t113.length:Int))=false:=decide_eq_false c25;clear c25;obtain rfl:=Option.some.inj H;go_wp2;go_ret;exact ⟨by rfl,by repeat (first|(with_reducible first|exact HB.out|apply j1f|apply j1d|apply j1h|refine j1s ?_ GE112.out)|exact HB.out)⟩
         rw [if_pos c25] at H;have c25b0:decide (x50_4<(t113.length:Int))=true:=decide_eq_true c25;clear c25;by_cases c26:0≤x50_4
         rotate_left
         ·rw [if_neg c26] at H;exact absurd H (by simp)
         rw [if_pos c26] at H;have c26b0:decide (0≤x50_4)=true:=decide_eq_true c26;clear c26;by_cases c27:x50_4<(t113.length:Int)
         rotate_left
         ·rw [if_neg c27] at H;exact absurd H (by simp)
         rw [if_pos c27] at H;have c27b0:decide (x50_4<(t113.length:Int))=true:=decide_eq_true c27;clear c27;by_cases c28:x50_4<(t105.length:Int)
         rotate_left
         ·rw [if_neg c28] at H;exact absurd H (by simp)
         rw [if_pos c28] at H;have c28b0:decide (x50_4<(t105.length:Int))=true:=decide_eq_true c28;clear c28;by_cases c29:0≤((j2s t105 x50_4).f0)
         rotate_left
         ·rw [if_neg c29] at H;exact absurd H (by simp)
         rw [if_pos c29] at H;have c29b0:=eq_true c29;have c29b1:decide (0≤((j2s t105 x50_4).f0))=true:=decide_eq_true c29;clear c29;by_cases c30:((j2s t105 x50_4).f0)≤((j2s t105 x50_4).f1)
         rotate_left
         ·rw [if_neg c30] at H;exact absurd H (by simp)
         rw [if_pos c30] at H;have c30b0:=eq_true c30;have c30b1:decide (((j2s t105 x50_4).f0)≤((j2s t105 x50_4).f1))=true:=decide_eq_true c30;clear c30;by_cases c31:((j2s t105 x50_4).f1)≤(a0.size:Int)
         rotate_left
         ·rw [if_neg c31] at H;exact absurd H (by simp)
         rw [if_pos c31] at H;have c31b0:=eq_true c31;have c31b1:decide (((j2s t105 x50_4).f1)≤(a0.size:Int))=true:=decide_eq_true c31;clear c31;replace H:=Option.bind_eq_some_iff.mp H;obtain ⟨t121,A320,H⟩:=H;(try dsimp only at H);have A32:=mk0 A320;clear A320;by_cases c33:((j2d t113 x50_4).f0).toList=t121.toList
         rotate_left
         ·rw [if_neg c33] at H;have c33b0:(((j2d t113 x50_4).f0).toList == t121.toList)=false:=beq_eq_false_iff_ne.mpr c33;have c33b1:(((j2d t113 x50_4).f0).toList != t121.toList)=true:=bne_iff_ne.mpr c33;obtain rfl:=Option.some.inj H;have p117:0≤(x50_4:Int):=of_decide_eq_true zq17;have q117:x50_4<(t113.length:Int):=of_decide_eq_true zq17;obtain ⟨ad117,e117,hx117_0,hx117_1,hx117_2,hx117_3⟩:=at_T31 (Kd.R_reads' HO_48.out).2.2 x50_4 p117 q117;cases e117;replace p117:=eq_true p117;replace q117:=eq_true q117
          try go_wp2_with (first|((with_reducible refine j2x (N:=10) rfl ?_);(try (refine j4l (by rfl) ?_;dsimp only));refine j3d ?hg (N:=10) ?hd (cs:=#[.string (⟨#[]⟩:ByteArray), .string (⟨#[]⟩:ByteArray), .int .i64 0, .int .i64 0]) (t:=31) ?hr ?_;(case hd=>rfl);(case hg=>rfl);(case hr=>exact zq28);intro gb118 hg w51 hbox hb;replace HO_48:=mk0 (Kd.R_below (Kd.R_elderB zq57 gb118 (Nat.le_of_eq hg.symm)) hb);replace HO_113003:=mk0 (Kd.V_below (Kd.V_elderB zq43 gb118 (Nat.le_of_eq hg.symm)) hb);replace HO_113004:=mk0 (Kd.V_below (Kd.V_elderB zq44 gb118 (Nat.le_of_eq hg.symm)) hb);have BK118:=mk0 (hbox);have GW118:=mk0 ((by rw [hg];exact (j2p zq25):w.heap.size≤gb118));have GE118:=mk0 ((by rw [hg];exact (j2p zq25):w.heap.size≤gb118));replace HB:=mk0 (j1o zq25 hb);have NB112_118:=mk0 ((zq75:gb112≠gb118));have NB118_112:=mk0 ((zq76:gb118≠gb112));replace BK112:=mk0 (j2y (g:=gb112) (o := .cells #[.int .i64 t102, .int .i64 t103, .int .i64 t104, .slice Ao12 t105.length co12, .slice Ao13 t108.length co13] 27 (0,0)) zq29 hb);clear hb hbox hg;have hnb52:=NB118_112.out;have hnc52:=NB112_118.out;have hcz53_0:w51.cell? ⟨gb118,0,none⟩=some (.string (⟨#[]⟩:ByteArray)):=(j1b BK118.out 0).trans rfl;have hcz53_1:w51.cell? ⟨gb118,1,none⟩=some (.string (⟨#[]⟩:ByteArray)):=(j1b BK118.out 1).trans rfl;have hcz53_2:w51.cell? ⟨gb118,2,none⟩=some (.int .i64 0):=(j1b BK118.out 2).trans rfl;have hcz53_3:w51.cell? ⟨gb118,3,none⟩=some (.int .i64 0):=(j1b BK118.out 3).trans rfl;have hfz53_0:=j1a BK118.out 0;have hfz53_1:=j1a BK118.out 1;have hfz53_2:=j1a BK118.out 2;have hfz53_3:=j1a BK118.out 3))
          have n0_:Aside0 (Kd.R k31 31 ((((w51.setCell ⟨gb118,0,none⟩ (.string ((j2d t113 x50_4).f0))).setCell ⟨gb118,1,none⟩ (.string ((j2d t113 x50_4).f1))).setCell ⟨gb118,2,none⟩ (.int .i64 ((j2d t113 x50_4).f2))).setCell ⟨gb118,3,none⟩ (.int .i64 ((j2d t113 x50_4).f3))) w.heap.size (fun k_=>k_≠gb118) (.slice (some ad117) t113.length co24) t113):=⟨by (with_reducible repeat (first|apply Kd.R_alloc|apply Kd.R_drewN|apply Kd.R_drew));exact Kd.R_mono (Kd.R_far (p:=⟨gb118,3,none⟩) (Kd.R_far (p:=⟨gb118,2,none⟩) (Kd.R_far (p:=⟨gb118,1,none⟩) (Kd.R_far (p:=⟨gb118,0,none⟩) (Kd.R_mono HO_48.out (fun k_ hk=>(⟨hk,hk.2⟩:_∧k_≠gb118))) (fun _ hk=>hk.2) (.string ((j2d t113 x50_4).f0))) (fun _ hk=>hk.2) (.string ((j2d t113 x50_4).f1))) (fun _ hk=>hk.2) (.int .i64 ((j2d t113 x50_4).f2))) (fun _ hk=>hk.2) (.int .i64 ((j2d t113 x50_4).f3))) (fun _ hk=>hk.1.2)⟩;have n1_:Aside0 (Kd.V k49 49 ((((w51.setCell ⟨gb118,0,none⟩ (.string ((j2d t113 x50_4).f0))).setCell ⟨gb118,1,none⟩ (.string ((j2d t113 x50_4).f1))).setCell ⟨gb118,2,none⟩ (.int .i64 ((j2d t113 x50_4).f2))).setCell ⟨gb118,3,none⟩ (.int .i64 ((j2d t113 x50_4).f3))) w.heap.size (fun k_=>some k_≠(.slice (some ad117) t113.length co24:Value).ownBlock∧k_≠gb112∧k_≠gb118) (.slice Ao12 t105.length co12) t105):=⟨by (with_reducible repeat (first|apply Kd.V_alloc|apply Kd.V_drewN|apply Kd.V_drew));exact Kd.V_mono (Kd.V_far (p:=⟨gb118,3,none⟩) (Kd.V_far (p:=⟨gb118,2,none⟩) (Kd.V_far (p:=⟨gb118,1,none⟩) (Kd.V_far (p:=⟨gb118,0,none⟩) (Kd.V_mono HO_113003.out (fun k_ hk=>(⟨hk,hk.2⟩:_∧k_≠gb118))) (fun _ hk=>hk.2) (.string ((j2d t113 x50_4).f0))) (fun _ hk=>hk.2) (.string ((j2d t113 x50_4).f1))) (fun _ hk=>hk.2) (.int .i64 ((j2d t113 x50_4).f2))) (fun _ hk=>hk.2) (.int .i64 ((j2d t113 x50_4).f3))) (fun _ hk=>⟨hk.1.1.1,⟨hk.1.1.2,hk.1.2⟩⟩)⟩;have n2_:Aside0 (Kd.V k27 27 ((((w51.setCell ⟨gb118,0,none⟩ (.string ((j2d t113 x50_4).f0))).setCell ⟨gb118,1,none⟩ (.string ((j2d t113 x50_4).f1))).setCell ⟨gb118,2,none⟩ (.int .i64 ((j2d t113 x50_4).f2))).setCell ⟨gb118,3,none⟩ (.int .i64 ((j2d t113 x50_4).f3))) w.heap.size (fun k_=>some k_≠(.slice (some ad117) t113.length co24:Value).ownBlock∧k_≠gb112∧k_≠gb118) (.slice Ao13 t108.length co13) t108):=⟨by (with_reducible repeat (first|apply Kd.V_alloc|apply Kd.V_drewN|apply Kd.V_drew));exact Kd.V_mono (Kd.V_far (p:=⟨gb118,3,none⟩) (Kd.V_far (p:=⟨gb118,2,none⟩) (Kd.V_far (p:=⟨gb118,1,none⟩) (Kd.V_far (p:=⟨gb118,0,none⟩) (Kd.V_mono HO_113004.out (fun k_ hk=>(⟨hk,hk.2⟩:_∧k_≠gb118))) (fun _ hk=>hk.2) (.string ((j2d t113 x50_4).f0))) (fun _ hk=>hk.2) (.string ((j2d t113 x50_4).f1))) (fun _ hk=>hk.2) (.int .i64 ((j2d t113 x50_4).f2))) (fun _ hk=>hk.2) (.int .i64 ((j2d t113 x50_4).f3))) (fun _ hk=>⟨hk.1.1.1,⟨hk.1.1.2,hk.1.2⟩⟩)⟩;have n3_:Aside0 (((((w51.setCell ⟨gb118,0,none⟩ (.string ((j2d t113 x50_4).f0))).setCell ⟨gb118,1,none⟩ (.string ((j2d t113 x50_4).f1))).setCell ⟨gb118,2,none⟩ (.int .i64 ((j2d t113 x50_4).f2))).setCell ⟨gb118,3,none⟩ (.int .i64 ((j2d t113 x50_4).f3))).heap[gb112]? = some (.cells #[.int .i64 t102, .int .i64 t103, .int .i64 t104, .slice Ao12 t105.length co12, .slice Ao13 t108.length co13] 27 (0,0))):=⟨by (with_reducible repeat (first|refine j1e ?_ _|refine j1k ?_|refine j1c ?_ _));refine j3h ?_ NB112_118.out _;(with_reducible repeat (first|refine j1e ?_ _|refine j1k ?_|refine j1c ?_ _));refine j3h ?_ NB112_118.out _;(with_reducible repeat (first|refine j1e ?_ _|refine j1k ?_|refine j1c ?_ _));refine j3h ?_ NB112_118.out _;(with_reducible repeat (first|refine j1e ?_ _|refine j1k ?_|refine j1c ?_ _));refine j3h ?_ NB112_118.out _;(with_reducible repeat (first|refine j1e ?_ _|refine j1k ?_|refine j1c ?_ _));exact BK112.out⟩;have n4_:Aside0 (((((w51.setCell ⟨gb118,0,none⟩ (.string ((j2d t113 x50_4).f0))).setCell ⟨gb118,1,none⟩ (.string ((j2d t113 x50_4).f1))).setCell ⟨gb118,2,none⟩ (.int .i64 ((j2d t113 x50_4).f2))).setCell ⟨gb118,3,none⟩ (.int .i64 ((j2d t113 x50_4).f3))).heap[gb118]? = some (.cells #[.string ((j2d t113 x50_4).f0), .string ((j2d t113 x50_4).f1), .int .i64 ((j2d t113 x50_4).f2), .int .i64 ((j2d t113 x50_4).f3)] 31 (0,0))):=⟨by (with_reducible repeat (first|refine j1e ?_ _|refine j1k ?_|refine j1c ?_ _));refine j2c (cs:=#[.string ((j2d t113 x50_4).f0), .string ((j2d t113 x50_4).f1), .int .i64 ((j2d t113 x50_4).f2), .int .i64 0]) ?_ 3 _ rfl;(with_reducible repeat (first|refine j1e ?_ _|refine j1k ?_|refine j1c ?_ _));refine j2c (cs:=#[.string ((j2d t113 x50_4).f0), .string ((j2d t113 x50_4).f1), .int .i64 0, .int .i64 0]) ?_ 2 _ rfl;(with_reducible repeat (first|refine j1e ?_ _|refine j1k ?_|refine j1c ?_ _));refine j2c (cs:=#[.string ((j2d t113 x50_4).f0), .string (⟨#[]⟩:ByteArray), .int .i64 0, .int .i64 0]) ?_ 1 _ rfl;(with_reducible repeat (first|refine j1e ?_ _|refine j1k ?_|refine j1c ?_ _));refine j2c (cs:=#[.string (⟨#[]⟩:ByteArray), .string (⟨#[]⟩:ByteArray), .int .i64 0, .int .i64 0]) ?_ 0 _ rfl;(with_reducible repeat (first|refine j1e ?_ _|refine j1k ?_|refine j1c ?_ _));exact BK118.out⟩;have n5_:Aside0 (Below w.heap.size w ((((w51.setCell ⟨gb118,0,none⟩ (.string ((j2d t113 x50_4).f0))).setCell ⟨gb118,1,none⟩ (.string ((j2d t113 x50_4).f1))).setCell ⟨gb118,2,none⟩ (.int .i64 ((j2d t113 x50_4).f2))).setCell ⟨gb118,3,none⟩ (.int .i64 ((j2d t113 x50_4).f3)))):=⟨by repeat (first|(with_reducible first|exact HB.out|apply j1f|apply j1d|apply j1h|refine j1s ?_ GE112.out|refine j1s ?_ GE118.out)|exact HB.out)⟩;clear HO_48 HO_113003 HO_113004 BK112 BK118 HB
          generalize ((((w51.setCell ⟨gb118,0,none⟩ (.string ((j2d t113 x50_4).f0))).setCell ⟨gb118,1,none⟩ (.string ((j2d t113 x50_4).f1))).setCell ⟨gb118,2,none⟩ (.int .i64 ((j2d t113 x50_4).f2))).setCell ⟨gb118,3,none⟩ (.int .i64 ((j2d t113 x50_4).f3)))=w54 at n0_ n1_ n2_ n3_ n4_ n5_ ⊢
          have HO_48:=n0_;have HO_113003:=n1_;have HO_113004:=n2_;have BK112:=n3_;have BK118:=n4_;have HB:=n5_;clear n0_ n1_ n2_ n3_ n4_ n5_;have n0_:=mk0 (Kd.R_drew HO_48.out);have n1_:=mk0 (Kd.V_drew HO_113003.out);have n2_:=mk0 (Kd.V_drew HO_113004.out);have n3_:=mk0 (j1k BK112.out);have n4_:=mk0 (j1k BK118.out);have n5_:=mk0 (j1h HB.out);clear HO_48 HO_113003 HO_113004 BK112 BK118 HB;have HO_48:=n0_;have HO_113003:=n1_;have HO_113004:=n2_;have BK112:=n3_;have BK118:=n4_;have HB:=n5_;clear n0_ n1_ n2_ n3_ n4_ n5_;have p119:0≤(x50_4:Int):=of_decide_eq_true zq17;have q119:x50_4<(t105.length:Int):=of_decide_eq_true zq17;obtain ⟨ad119,e119,hx119_0,hx119_1⟩:=at_T49 (Kd.V_reads' HO_113003.out).2.2 x50_4 p119 q119;cases e119;replace p119:=eq_true p119;replace q119:=eq_true q119;have p120:0≤(x50_4:Int):=of_decide_eq_true zq17;have q120:x50_4<(t105.length:Int):=of_decide_eq_true zq17;obtain ⟨ad120,e120,hx120_0,hx120_1⟩:=at_T49 (Kd.V_reads' HO_113003.out).2.2 x50_4 p120 q120;obtain rfl:ad119=ad120:=(by injection e120);replace p120:=eq_true p120;replace q120:=eq_true q120;refine j3t (n:=29) (S:=fun w'=>w'.cell? ⟨gb118,0,none⟩=some (.string ((j2d t113 x50_4).f0))∧w'.cell? ⟨gb118,1,none⟩=some (.string ((j2d t113 x50_4).f1))∧w'.cell? ⟨gb118,2,none⟩=some (.int .i64 ((j2d t113 x50_4).f2))∧w'.cell? ⟨gb118,3,none⟩=some (.int .i64 ((j2d t113 x50_4).f3))∧w'.cell? ⟨gb112,0,none⟩=some (.int .i64 t102)∧w'.cell? ⟨gb112,1,none⟩=some (.int .i64 t103)∧w'.cell? ⟨gb112,2,none⟩=some (.int .i64 t104)∧w'.cell? ⟨gb112,3,none⟩=some (.slice (some ad119) t105.length co12)∧w'.cell? ⟨gb112,4,none⟩=some (.slice Ao13 t108.length co13)∧w'.cell? (ad119.add ((x50_4).toNat*2))=some (.int .i64 ((j2s t105 x50_4).f0))∧w'.cell? ⟨(ad119.add ((x50_4).toNat*2)).block,(ad119.add ((x50_4).toNat*2)).off+1,none⟩=some (.int .i64 ((j2s t105 x50_4).f1))∧w'.cell? (ad119.add ((x50_4).toNat*2))=some (.int .i64 ((j2s t105 x50_4).f0))∧w'.cell? ⟨(ad119.add ((x50_4).toNat*2)).block,(ad119.add ((x50_4).toNat*2)).off+1,none⟩=some (.int .i64 ((j2s t105 x50_4).f1))) (ds:=[]) #[false,false,false,false,false,false,false,false,false,false,false,false,false,false,false,false,false,false,false,false,false,false,false,false,false,false,false,false,false] zq7 rfl rfl ⟨(j1b BK118.out 0).trans rfl,(j1b BK118.out 1).trans rfl,(j1b BK118.out 2).trans rfl,(j1b BK118.out 3).trans rfl,(j1b BK112.out 0).trans rfl,(j1b BK112.out 1).trans rfl,(j1b BK112.out 2).trans rfl,(j1b BK112.out 3).trans rfl,(j1b BK112.out 4).trans rfl,hx119_0,hx119_1,hx120_0,hx120_1⟩ (fun hHeld=>?_);refine with_tabW laws_FnJpObjectEach.tab12 laws_FnJpObjectEach.bits12 (fun HT_ HW_=>?_)
          generalize w54.drew=w55 at HO_48 HO_113003 HO_113004 BK112 BK118 HB hx119_0 hx119_1 hx120_0 hx120_1 hHeld ⊢
          refine pure_ (i:=0) (N:=some 55) (v:=?_) (a':=?_) #[true,false,false,false,false,false,false,false,false,false,false,false,false,false,false,false,false,false,false,false,false,false,false,false,false,false,false,false,false] rfl rfl (j2q HT_.out zq7) (fun _ _ _ h=>h) (Or.inl ⟨by rfl,?_⟩) ?_ ?_;rotate_left
          ·exact zl2
          rotate_left
          ·exact zl0
          refine pure_ (i:=2) (N:=some 57) (v:=?_) (a':=?_) #[true,false,true,false,false,false,false,false,false,false,false,false,false,false,false,false,false,false,false,false,false,false,false,false,false,false,false,false,false] rfl rfl (j2q HT_.out zq7) (fun _ _ _ h=>h) (Or.inl ⟨by rfl,?_⟩) ?_ ?_;rotate_left
          ·exact zl2
          rotate_left
          ·exact zl0
          refine pure_ (i:=3) (N:=some 58) (v:=?_) (a':=?_) #[true,false,true,true,false,false,false,false,false,false,false,false,false,false,false,false,false,false,false,false,false,false,false,false,false,false,false,false,false] rfl rfl (j2q HT_.out zq7) (fun _ _ _ h=>h) (Or.inl ⟨by rfl,?_⟩) ?_ ?_;rotate_left
          ·exact zl2
          rotate_left
          ·exact zl0
          refine pure_ (i:=5) (N:=some 60) (v:=?_) (a':=?_) #[true,false,true,true,false,true,false,false,false,false,false,false,false,false,false,false,false,false,false,false,false,false,false,false,false,false,false,false,false] rfl rfl (j2q HT_.out zq7) (fun _ _ _ h=>h) (Or.inl ⟨by rfl,?_⟩) ?_ ?_;rotate_left
          ·exact zl2
          rotate_left
          ·exact zl0
          refine pure_ (i:=9) (N:=some 64) (v:=?_) (a':=?_) #[true,false,true,true,false,true,false,false,false,true,false,false,false,false,false,false,false,false,false,false,false,false,false,false,false,false,false,false,false] rfl rfl (j2q HT_.out zq7) (fun _ _ _ h=>h) (Or.inl ⟨by rfl,?_⟩) ?_ ?_;rotate_left
          ·exact zl2
          rotate_left
          ·exact zl0
          refine pure_ (i:=11) (N:=some 66) (v:=?_) (a':=?_) #[true,false,true,true,false,true,false,false,false,true,false,true,false,false,false,false,false,false,false,false,false,false,false,false,false,false,false,false,false] rfl rfl (j2q HT_.out zq7) (fun _ _ _ h=>h) (Or.inl ⟨by rfl,?_⟩) ?_ ?_;rotate_left
          ·exact zl2
          rotate_left
          ·exact zl0
          refine take_ (i:=1) (N:=some 56) (v:=?_) (a':=?_) #[true,true,true,true,false,true,false,false,false,true,false,true,false,false,false,false,false,false,false,false,false,false,false,false,false,false,false,false,false] rfl rfl (j3j HT_.out HW_.out zq7) (fun _ _ _ h=>h) (Or.inl ⟨by rfl,?_⟩) hHeld ?_ ?_;rotate_left
          ·exact zl18
          rotate_left
          ·exact zl0
          refine take_ (i:=4) (N:=some 59) (v:=?_) (a':=?_) #[true,true,true,true,true,true,false,false,false,true,false,true,false,false,false,false,false,false,false,false,false,false,false,false,false,false,false,false,false] rfl rfl (j3j HT_.out HW_.out zq7) (fun _ _ _ h=>h) (Or.inl ⟨by rfl,?_⟩) hHeld ?_ ?_;rotate_left
          ·exact zl18
          rotate_left
          ·exact zl0
          refine pure_ (i:=6) (N:=some 61) (v:=?_) (a':=?_) #[true,true,true,true,true,true,true,false,false,true,false,true,false,false,false,false,false,false,false,false,false,false,false,false,false,false,false,false,false] rfl rfl (j2q HT_.out zq7) (fun _ _ _ h=>h) (Or.inl ⟨by rfl,?_⟩) ?_ ?_;rotate_left
          ·exact zl2
          rotate_left
          ·exact zl0
          refine pure_ (i:=7) (N:=some 62) (v:=?_) (a':=?_) #[true,true,true,true,true,true,true,true,false,true,false,true,false,false,false,false,false,false,false,false,false,false,false,false,false,false,false,false,false] rfl rfl (j2q HT_.out zq7) (fun _ _ _ h=>h) (Or.inl ⟨by rfl,?_⟩) ?_ ?_;rotate_left
          ·exact zl2
          rotate_left
          ·exact zl0
          refine take_ (i:=8) (N:=some 63) (v:=?_) (a':=?_) #[true,true,true,true,true,true,true,true,true,true,false,true,false,false,false,false,false,false,false,false,false,false,false,false,false,false,false,false,false] rfl rfl (j3j HT_.out HW_.out zq7) (fun _ _ _ h=>h) (Or.inl ⟨by rfl,?_⟩) hHeld ?_ ?_;rotate_left
          ·exact zl18
          rotate_left
          ·exact zl0
          refine take_ (i:=10) (N:=some 65) (v:=?_) (a':=?_) #[true,true,true,true,true,true,true,true,true,true,true,true,false,false,false,false,false,false,false,false,false,false,false,false,false,false,false,false,false] rfl rfl (j3j HT_.out HW_.out zq7) (fun _ _ _ h=>h) (Or.inl ⟨by rfl,?_⟩) hHeld ?_ ?_;rotate_left
          ·exact zl18
          rotate_left
          ·exact zl0
          refine pure_ (i:=12) (N:=some 67) (v:=?_) (a':=?_) #[true,true,true,true,true,true,true,true,true,true,true,true,true,false,false,false,false,false,false,false,false,false,false,false,false,false,false,false,false] rfl rfl (j2q HT_.out zq7) (fun _ _ _ h=>h) (Or.inl ⟨by rfl,?_⟩) ?_ ?_;rotate_left
          ·exact zl2
          rotate_left
          ·exact zl0
          refine pure_ (i:=13) (N:=some 68) (v:=?_) (a':=?_) #[true,true,true,true,true,true,true,true,true,true,true,true,true,true,false,false,false,false,false,false,false,false,false,false,false,false,false,false,false] rfl rfl (j2q HT_.out zq7) (fun _ _ _ h=>h) (Or.inl ⟨by rfl,?_⟩) ?_ ?_;rotate_left
          ·exact zl2
          rotate_left
          ·exact zl0
          refine take_ (i:=14) (N:=some 69) (v:=?_) (a':=?_) #[true,true,true,true,true,true,true,true,true,true,true,true,true,true,true,false,false,false,false,false,false,false,false,false,false,false,false,false,false] rfl rfl (j3j HT_.out HW_.out zq7) (fun _ _ _ h=>h) (Or.inl ⟨by rfl,?_⟩) hHeld ?_ ?_;rotate_left
          ·exact zl18
          rotate_left
          ·exact zl0
          refine pure_ (i:=15) (N:=some 70) (v:=?_) (a':=?_) #[true,true,true,true,true,true,true,true,true,true,true,true,true,true,true,true,false,false,false,false,false,false,false,false,false,false,false,false,false] rfl rfl (j2q HT_.out zq7) (fun _ _ _ h=>h) (Or.inl ⟨by rfl,?_⟩) ?_ ?_;rotate_left
          ·exact zl2
          rotate_left
          ·exact zl0
          refine one_ (i:=16) (N:=some 71) #[true,true,true,true,true,true,true,true,true,true,true,true,true,true,true,true,true,false,false,false,false,false,false,false,false,false,false,false,false] rfl rfl (one_of HT_.out zq7) zq50 (fun K hK=>?_);refine goes_ Tryd.func17 zq7 rfl #[.string (a0.extract (((j2s t105 x50_4).f0):Int).toNat (((j2s t105 x50_4).f1):Int).toNat)] (by rfl) rfl rfl zq1 ?_;with_reducible refine (j1z.calls k4 (a0.extract (((j2s t105 x50_4).f0):Int).toNat (((j2s t105 x50_4).f1):Int).toNat) t121 _ A32.out).mono ?_
          rintro e w56 ⟨rfl,hb⟩;have HS9_:=(hb.cell (World.block_lt_of_cell? _ _ (hHeld.2.2.2.2.2.2.2.2.2.1))).trans (hHeld.2.2.2.2.2.2.2.2.2.1);have HS10_:=(hb.cell (World.block_lt_of_cell? _ _ (hHeld.2.2.2.2.2.2.2.2.2.2.1))).trans (hHeld.2.2.2.2.2.2.2.2.2.2.1);have HS11_:=(hb.cell (World.block_lt_of_cell? _ _ (hHeld.2.2.2.2.2.2.2.2.2.2.2.1))).trans (hHeld.2.2.2.2.2.2.2.2.2.2.2.1);have HS12_:=(hb.cell (World.block_lt_of_cell? _ _ (hHeld.2.2.2.2.2.2.2.2.2.2.2.2))).trans (hHeld.2.2.2.2.2.2.2.2.2.2.2.2);refine ⟨_,rfl,?_⟩;have n0_:=mk0 (Kd.R_below zq57 hb);have n1_:=mk0 (Kd.V_below zq43 hb);have n2_:=mk0 (Kd.V_below zq44 hb);have n3_:=mk0 (j2y (g:=gb112) (o := .cells #[.int .i64 t102, .int .i64 t103, .int .i64 t104, .slice (some ad119) t105.length co12, .slice Ao13 t108.length co13] 27 (0,0)) zq29 hb);have n4_:=mk0 (j2y (g:=gb118) (o := .cells #[.string ((j2d t113 x50_4).f0), .string ((j2d t113 x50_4).f1), .int .i64 ((j2d t113 x50_4).f2), .int .i64 ((j2d t113 x50_4).f3)] 31 (0,0)) zq68 hb);have n5_:=mk0 (j1o zq58 hb);clear HO_48 HO_113003 HO_113004 BK112 BK118 HB;have HO_48:=n0_;have HO_113003:=n1_;have HO_113004:=n2_;have BK112:=n3_;have BK118:=n4_;have HB:=n5_;clear n0_ n1_ n2_ n3_ n4_ n5_ hb;refine hK.out _ _ ⟨(j1b BK118.out 0).trans rfl,(j1b BK118.out 1).trans rfl,(j1b BK118.out 2).trans rfl,(j1b BK118.out 3).trans rfl,(j1b BK112.out 0).trans rfl,(j1b BK112.out 1).trans rfl,(j1b BK112.out 2).trans rfl,(j1b BK112.out 3).trans rfl,(j1b BK112.out 4).trans rfl,HS9_,HS10_,HS11_,HS12_⟩ (fun hHeld=>?_);clear hK K;refine norm_ (a':=?_) ?_ ?_;rotate_left
          ·show Act.put _ (some 71) _=_
           exact zl0
          refine pure_ (i:=17) (N:=some 72) (v:=?_) (a':=?_) #[true,true,true,true,true,true,true,true,true,true,true,true,true,true,true,true,true,true,false,false,false,false,false,false,false,false,false,false,false] rfl rfl (j2q HT_.out zq7) (fun _ _ _ h=>h) (Or.inl ⟨by rfl,?_⟩) ?_ ?_;rotate_left
          ·exact zl2
          rotate_left
          ·exact zl0
          refine pure_ (i:=18) (N:=some 73) (v:=?_) (a':=?_) #[true,true,true,true,true,true,true,true,true,true,true,true,true,true,true,true,true,true,true,false,false,false,false,false,false,false,false,false,false] rfl rfl (j2q HT_.out zq7) (fun _ _ _ h=>h) (Or.inl ⟨by rfl,?_⟩) ?_ ?_;rotate_left
          ·exact zl2
          rotate_left
          ·exact zl0
          refine pure_ (i:=19) (N:=some 74) (v:=undef) (a':=?_) #[true,true,true,true,true,true,true,true,true,true,true,true,true,true,true,true,true,true,true,true,false,false,false,false,false,false,false,false,false] rfl rfl (j2q HT_.out zq7) (fun _ _ _ h=>h) (Or.inr ⟨by rfl,rfl⟩) ?_ ?_;rotate_left
          ·exact zl0
          refine pure_ (i:=20) (N:=some 75) (v:=undef) (a':=?_) #[true,true,true,true,true,true,true,true,true,true,true,true,true,true,true,true,true,true,true,true,true,false,false,false,false,false,false,false,false] rfl rfl (j2q HT_.out zq7) (fun _ _ _ h=>h) (Or.inr ⟨by rfl,rfl⟩) ?_ ?_;rotate_left
          ·exact zl0
          refine pure_ (i:=21) (N:=some 76) (v:=undef) (a':=?_) #[true,true,true,true,true,true,true,true,true,true,true,true,true,true,true,true,true,true,true,true,true,true,false,false,false,false,false,false,false] rfl rfl (j2q HT_.out zq7) (fun _ _ _ h=>h) (Or.inr ⟨by rfl,rfl⟩) ?_ ?_;rotate_left
          ·exact zl0
          refine pure_ (i:=22) (N:=some 77) (v:=undef) (a':=?_) #[true,true,true,true,true,true,true,true,true,true,true,true,true,true,true,true,true,true,true,true,true,true,true,false,false,false,false,false,false] rfl rfl (j2q HT_.out zq7) (fun _ _ _ h=>h) (Or.inr ⟨by rfl,rfl⟩) ?_ ?_;rotate_left
          ·exact zl0
          refine pure_ (i:=23) (N:=some 78) (v:=undef) (a':=?_) #[true,true,true,true,true,true,true,true,true,true,true,true,true,true,true,true,true,true,true,true,true,true,true,true,false,false,false,false,false] rfl rfl (j2q HT_.out zq7) (fun _ _ _ h=>h) (Or.inr ⟨by rfl,rfl⟩) ?_ ?_;rotate_left
          ·exact zl0
          refine pure_ (i:=24) (N:=some 79) (v:=undef) (a':=?_) #[true,true,true,true,true,true,true,true,true,true,true,true,true,true,true,true,true,true,true,true,true,true,true,true,true,false,false,false,false] rfl rfl (j2q HT_.out zq7) (fun _ _ _ h=>h) (Or.inr ⟨by rfl,rfl⟩) ?_ ?_;rotate_left
          ·exact zl0
          refine pure_ (i:=25) (N:=some 80) (v:=undef) (a':=?_) #[true,true,true,true,true,true,true,true,true,true,true,true,true,true,true,true,true,true,true,true,true,true,true,true,true,true,false,false,false] rfl rfl (j2q HT_.out zq7) (fun _ _ _ h=>h) (Or.inr ⟨by rfl,rfl⟩) ?_ ?_;rotate_left
          ·exact zl0
          refine pure_ (i:=26) (N:=some 81) (v:=undef) (a':=?_) #[true,true,true,true,true,true,true,true,true,true,true,true,true,true,true,true,true,true,true,true,true,true,true,true,true,true,true,false,false] rfl rfl (j2q HT_.out zq7) (fun _ _ _ h=>h) (Or.inr ⟨by rfl,rfl⟩) ?_ ?_;rotate_left
          ·exact zl0
          refine pure_ (i:=27) (N:=some 82) (v:=undef) (a':=?_) #[true,true,true,true,true,true,true,true,true,true,true,true,true,true,true,true,true,true,true,true,true,true,true,true,true,true,true,true,false] rfl rfl (j2q HT_.out zq7) (fun _ _ _ h=>h) (Or.inr ⟨by rfl,rfl⟩) ?_ ?_;rotate_left
          ·exact zl0
          refine pure_ (i:=28) (N:=some 83) (v:=?_) (a':=?_) #[true,true,true,true,true,true,true,true,true,true,true,true,true,true,true,true,true,true,true,true,true,true,true,true,true,true,true,true,true] rfl rfl (j2q HT_.out zq7) (fun _ _ _ h=>h) (Or.inl ⟨by rfl,?_⟩) ?_ ?_;rotate_left
          ·exact zl2
          rotate_left
          ·exact zl0
          refine done_ (done_of HT_.out zq7) ?_
          try go_wp2
          go_ret;exact zl20
         rw [if_pos c33] at H;have c33b0:(((j2d t113 x50_4).f0).toList == t121.toList)=true:=beq_iff_eq.mpr c33;have c33b1:(((j2d t113 x50_4).f0).toList != t121.toList)=false:=bne_eq_false_iff_eq.mpr c33;clear c33;by_cases c34:x50_4<(t108.length:Int)
         rotate_left
         ·rw [if_neg c34] at H;exact absurd H (by simp)
         rw [if_pos c34] at H;have c34b0:decide (x50_4<(t108.length:Int))=true:=decide_eq_true c34;clear c34;replace H:=Option.bind_eq_some_iff.mp H;obtain ⟨t123,A350,H⟩:=H;(try dsimp only at H);have A35:=mk0 A350;clear A350;have p117:0≤(x50_4:Int):=of_decide_eq_true zq17;have q117:x50_4<(t113.length:Int):=of_decide_eq_true zq17;obtain ⟨ad117,e117,hx117_0,hx117_1,hx117_2,hx117_3⟩:=at_T31 (Kd.R_reads' HO_48.out).2.2 x50_4 p117 q117;cases e117;replace p117:=eq_true p117;replace q117:=eq_true q117
         try go_wp2_with (first|((with_reducible refine j2x (N:=10) rfl ?_);(try (refine j4l (by rfl) ?_;dsimp only));refine j3d ?hg (N:=10) ?hd (cs:=#[.string (⟨#[]⟩:ByteArray), .string (⟨#[]⟩:ByteArray), .int .i64 0, .int .i64 0]) (t:=31) ?hr ?_;(case hd=>rfl);(case hg=>rfl);(case hr=>exact zq28);intro gb118 hg w37 hbox hb;replace HO_48:=mk0 (Kd.R_below (Kd.R_elderB zq57 gb118 (Nat.le_of_eq hg.symm)) hb);replace HO_113003:=mk0 (Kd.V_below (Kd.V_elderB zq43 gb118 (Nat.le_of_eq hg.symm)) hb);replace HO_113004:=mk0 (Kd.V_below (Kd.V_elderB zq44 gb118 (Nat.le_of_eq hg.symm)) hb);have BK118:=mk0 (hbox);have GW118:=mk0 ((by rw [hg];exact (j2p zq25):w.heap.size≤gb118));have GE118:=mk0 ((by rw [hg];exact (j2p zq25):w.heap.size≤gb118));replace HB:=mk0 (j1o zq25 hb);have NB112_118:=mk0 ((zq75:gb112≠gb118));have NB118_112:=mk0 ((zq76:gb118≠gb112));replace BK112:=mk0 (j2y (g:=gb112) (o := .cells #[.int .i64 t102, .int .i64 t103, .int .i64 t104, .slice Ao12 t105.length co12, .slice Ao13 t108.length co13] 27 (0,0)) zq29 hb);clear hb hbox hg;have hnb38:=NB118_112.out;have hnc38:=NB112_118.out;have hcz39_0:w37.cell? ⟨gb118,0,none⟩=some (.string (⟨#[]⟩:ByteArray)):=(j1b BK118.out 0).trans rfl;have hcz39_1:w37.cell? ⟨gb118,1,none⟩=some (.string (⟨#[]⟩:ByteArray)):=(j1b BK118.out 1).trans rfl;have hcz39_2:w37.cell? ⟨gb118,2,none⟩=some (.int .i64 0):=(j1b BK118.out 2).trans rfl;have hcz39_3:w37.cell? ⟨gb118,3,none⟩=some (.int .i64 0):=(j1b BK118.out 3).trans rfl;have hfz39_0:=j1a BK118.out 0;have hfz39_1:=j1a BK118.out 1;have hfz39_2:=j1a BK118.out 2;have hfz39_3:=j1a BK118.out 3))
         have n0_:Aside0 (Kd.R k31 31 ((((w37.setCell ⟨gb118,0,none⟩ (.string ((j2d t113 x50_4).f0))).setCell ⟨gb118,1,none⟩ (.string ((j2d t113 x50_4).f1))).setCell ⟨gb118,2,none⟩ (.int .i64 ((j2d t113 x50_4).f2))).setCell ⟨gb118,3,none⟩ (.int .i64 ((j2d t113 x50_4).f3))) w.heap.size (fun k_=>k_≠gb118) (.slice (some ad117) t113.length co24) t113):=⟨by (with_reducible repeat (first|apply Kd.R_alloc|apply Kd.R_drewN|apply Kd.R_drew));exact Kd.R_mono (Kd.R_far (p:=⟨gb118,3,none⟩) (Kd.R_far (p:=⟨gb118,2,none⟩) (Kd.R_far (p:=⟨gb118,1,none⟩) (Kd.R_far (p:=⟨gb118,0,none⟩) (Kd.R_mono HO_48.out (fun k_ hk=>(⟨hk,hk.2⟩:_∧k_≠gb118))) (fun _ hk=>hk.2) (.string ((j2d t113 x50_4).f0))) (fun _ hk=>hk.2) (.string ((j2d t113 x50_4).f1))) (fun _ hk=>hk.2) (.int .i64 ((j2d t113 x50_4).f2))) (fun _ hk=>hk.2) (.int .i64 ((j2d t113 x50_4).f3))) (fun _ hk=>hk.1.2)⟩;have n1_:Aside0 (Kd.V k49 49 ((((w37.setCell ⟨gb118,0,none⟩ (.string ((j2d t113 x50_4).f0))).setCell ⟨gb118,1,none⟩ (.string ((j2d t113 x50_4).f1))).setCell ⟨gb118,2,none⟩ (.int .i64 ((j2d t113 x50_4).f2))).setCell ⟨gb118,3,none⟩ (.int .i64 ((j2d t113 x50_4).f3))) w.heap.size (fun k_=>some k_≠(.slice (some ad117) t113.length co24:Value).ownBlock∧k_≠gb112∧k_≠gb118) (.slice Ao12 t105.length co12) t105):=⟨by (with_reducible repeat (first|apply Kd.V_alloc|apply Kd.V_drewN|apply Kd.V_drew));exact Kd.V_mono (Kd.V_far (p:=⟨gb118,3,none⟩) (Kd.V_far (p:=⟨gb118,2,none⟩) (Kd.V_far (p:=⟨gb118,1,none⟩) (Kd.V_far (p:=⟨gb118,0,none⟩) (Kd.V_mono HO_113003.out (fun k_ hk=>(⟨hk,hk.2⟩:_∧k_≠gb118))) (fun _ hk=>hk.2) (.string ((j2d t113 x50_4).f0))) (fun _ hk=>hk.2) (.string ((j2d t113 x50_4).f1))) (fun _ hk=>hk.2) (.int .i64 ((j2d t113 x50_4).f2))) (fun _ hk=>hk.2) (.int .i64 ((j2d t113 x50_4).f3))) (fun _ hk=>⟨hk.1.1.1,⟨hk.1.1.2,hk.1.2⟩⟩)⟩;have n2_:Aside0 (Kd.V k27 27 ((((w37.setCell ⟨gb118,0,none⟩ (.string ((j2d t113 x50_4).f0))).setCell ⟨gb118,1,none⟩ (.string ((j2d t113 x50_4).f1))).setCell ⟨gb118,2,none⟩ (.int .i64 ((j2d t113 x50_4).f2))).setCell ⟨gb118,3,none⟩ (.int .i64 ((j2d t113 x50_4).f3))) w.heap.size (fun k_=>some k_≠(.slice (some ad117) t113.length co24:Value).ownBlock∧k_≠gb112∧k_≠gb118) (.slice Ao13 t108.length co13) t108):=⟨by (with_reducible repeat (first|apply Kd.V_alloc|apply Kd.V_drewN|apply Kd.V_drew));exact Kd.V_mono (Kd.V_far (p:=⟨gb118,3,none⟩) (Kd.V_far (p:=⟨gb118,2,none⟩) (Kd.V_far (p:=⟨gb118,1,none⟩) (Kd.V_far (p:=⟨gb118,0,none⟩) (Kd.V_mono HO_113004.out (fun k_ hk=>(⟨hk,hk.2⟩:_∧k_≠gb118))) (fun _ hk=>hk.2) (.string ((j2d t113 x50_4).f0))) (fun _ hk=>hk.2) (.string ((j2d t113 x50_4).f1))) (fun _ hk=>hk.2) (.int .i64 ((j2d t113 x50_4).f2))) (fun _ hk=>hk.2) (.int .i64 ((j2d t113 x50_4).f3))) (fun _ hk=>⟨hk.1.1.1,⟨hk.1.1.2,hk.1.2⟩⟩)⟩;have n3_:Aside0 (((((w37.setCell ⟨gb118,0,none⟩ (.string ((j2d t113 x50_4).f0))).setCell ⟨gb118,1,none⟩ (.string ((j2d t113 x50_4).f1))).setCell ⟨gb118,2,none⟩ (.int .i64 ((j2d t113 x50_4).f2))).setCell ⟨gb118,3,none⟩ (.int .i64 ((j2d t113 x50_4).f3))).heap[gb112]? = some (.cells #[.int .i64 t102, .int .i64 t103, .int .i64 t104, .slice Ao12 t105.length co12, .slice Ao13 t108.length co13] 27 (0,0))):=⟨by (with_reducible repeat (first|refine j1e ?_ _|refine j1k ?_|refine j1c ?_ _));refine j3h ?_ NB112_118.out _;(with_reducible repeat (first|refine j1e ?_ _|refine j1k ?_|refine j1c ?_ _));refine j3h ?_ NB112_118.out _;(with_reducible repeat (first|refine j1e ?_ _|refine j1k ?_|refine j1c ?_ _));refine j3h ?_ NB112_118.out _;(with_reducible repeat (first|refine j1e ?_ _|refine j1k ?_|refine j1c ?_ _));refine j3h ?_ NB112_118.out _;(with_reducible repeat (first|refine j1e ?_ _|refine j1k ?_|refine j1c ?_ _));exact BK112.out⟩;have n4_:Aside0 (((((w37.setCell ⟨gb118,0,none⟩ (.string ((j2d t113 x50_4).f0))).setCell ⟨gb118,1,none⟩ (.string ((j2d t113 x50_4).f1))).setCell ⟨gb118,2,none⟩ (.int .i64 ((j2d t113 x50_4).f2))).setCell ⟨gb118,3,none⟩ (.int .i64 ((j2d t113 x50_4).f3))).heap[gb118]? = some (.cells #[.string ((j2d t113 x50_4).f0), .string ((j2d t113 x50_4).f1), .int .i64 ((j2d t113 x50_4).f2), .int .i64 ((j2d t113 x50_4).f3)] 31 (0,0))):=⟨by (with_reducible repeat (first|refine j1e ?_ _|refine j1k ?_|refine j1c ?_ _));refine j2c (cs:=#[.string ((j2d t113 x50_4).f0), .string ((j2d t113 x50_4).f1), .int .i64 ((j2d t113 x50_4).f2), .int .i64 0]) ?_ 3 _ rfl;(with_reducible repeat (first|refine j1e ?_ _|refine j1k ?_|refine j1c ?_ _));refine j2c (cs:=#[.string ((j2d t113 x50_4).f0), .string ((j2d t113 x50_4).f1), .int .i64 0, .int .i64 0]) ?_ 2 _ rfl;(with_reducible repeat (first|refine j1e ?_ _|refine j1k ?_|refine j1c ?_ _));refine j2c (cs:=#[.string ((j2d t113 x50_4).f0), .string (⟨#[]⟩:ByteArray), .int .i64 0, .int .i64 0]) ?_ 1 _ rfl;(with_reducible repeat (first|refine j1e ?_ _|refine j1k ?_|refine j1c ?_ _));refine j2c (cs:=#[.string (⟨#[]⟩:ByteArray), .string (⟨#[]⟩:ByteArray), .int .i64 0, .int .i64 0]) ?_ 0 _ rfl;(with_reducible repeat (first|refine j1e ?_ _|refine j1k ?_|refine j1c ?_ _));exact BK118.out⟩;have n5_:Aside0 (Below w.heap.size w ((((w37.setCell ⟨gb118,0,none⟩ (.string ((j2d t113 x50_4).f0))).setCell ⟨gb118,1,none⟩ (.string ((j2d t113 x50_4).f1))).setCell ⟨gb118,2,none⟩ (.int .i64 ((j2d t113 x50_4).f2))).setCell ⟨gb118,3,none⟩ (.int .i64 ((j2d t113 x50_4).f3)))):=⟨by repeat (first|(with_reducible first|exact HB.out|apply j1f|apply j1d|apply j1h|refine j1s ?_ GE112.out|refine j1s ?_ GE118.out)|exact HB.out)⟩;clear HO_48 HO_113003 HO_113004 BK112 BK118 HB
         generalize ((((w37.setCell ⟨gb118,0,none⟩ (.string ((j2d t113 x50_4).f0))).setCell ⟨gb118,1,none⟩ (.string ((j2d t113 x50_4).f1))).setCell ⟨gb118,2,none⟩ (.int .i64 ((j2d t113 x50_4).f2))).setCell ⟨gb118,3,none⟩ (.int .i64 ((j2d t113 x50_4).f3)))=w40 at n0_ n1_ n2_ n3_ n4_ n5_ ⊢
         have HO_48:=n0_;have HO_113003:=n1_;have HO_113004:=n2_;have BK112:=n3_;have BK118:=n4_;have HB:=n5_;clear n0_ n1_ n2_ n3_ n4_ n5_;have n0_:=mk0 (Kd.R_drew HO_48.out);have n1_:=mk0 (Kd.V_drew HO_113003.out);have n2_:=mk0 (Kd.V_drew HO_113004.out);have n3_:=mk0 (j1k BK112.out);have n4_:=mk0 (j1k BK118.out);have n5_:=mk0 (j1h HB.out);clear HO_48 HO_113003 HO_113004 BK112 BK118 HB;have HO_48:=n0_;have HO_113003:=n1_;have HO_113004:=n2_;have BK112:=n3_;have BK118:=n4_;have HB:=n5_;clear n0_ n1_ n2_ n3_ n4_ n5_;have p119:0≤(x50_4:Int):=of_decide_eq_true zq17;have q119:x50_4<(t105.length:Int):=of_decide_eq_true zq17;obtain ⟨ad119,e119,hx119_0,hx119_1⟩:=at_T49 (Kd.V_reads' HO_113003.out).2.2 x50_4 p119 q119;cases e119;replace p119:=eq_true p119;replace q119:=eq_true q119;have p120:0≤(x50_4:Int):=of_decide_eq_true zq17;have q120:x50_4<(t105.length:Int):=of_decide_eq_true zq17;obtain ⟨ad120,e120,hx120_0,hx120_1⟩:=at_T49 (Kd.V_reads' HO_113003.out).2.2 x50_4 p120 q120;obtain rfl:ad119=ad120:=(by injection e120);replace p120:=eq_true p120;replace q120:=eq_true q120;have p122:0≤(x50_4:Int):=of_decide_eq_true zq17;have q122:x50_4<(t108.length:Int):=of_decide_eq_true zq17;obtain ⟨ad122,A122_3,c122_3,A122_4,c122_4,e122,hx122_0,hx122_1,hx122_2,hx122_3,hx122_4,hl122_3,hi122_3,hl122_4,hi122_4⟩:=at_T27 (Kd.V_reads' HO_113004.out).2.2 x50_4 p122 q122;cases e122;obtain ⟨ce122,hce122,hMe122,hcc122⟩:=Kd.V_get HO_113004.out z27 x50_4 p122 (by exact q122);obtain ⟨ua122_3,uc122_3,ua122_4,uc122_4,rfl,ul122_3,ge122_3,ul122_4,ge122_4⟩:=k27_openF hMe122;have hv122_3:=hcc122 3 _ rfl;rw [j3z _ _ 3 (by omega)] at hv122_3;replace hv122_3:=Option.some.inj (hv122_3.symm.trans hx122_3);injection hv122_3 with hva_ hvn_ hvc_
         rw [hva_] at ge122_3;rw [hvc_] at ul122_3;have HL122_3:=mk0 (show Kd.V k49 49 _ w.heap.size _ _ ((j2i t108 x50_4).f3) from Kd.V_mk ul122_3 ge122_3);clear hva_ hvn_ hvc_ ge122_3 ul122_3;have hv122_4:=hcc122 4 _ rfl;rw [j3z _ _ 4 (by omega)] at hv122_4;replace hv122_4:=Option.some.inj (hv122_4.symm.trans hx122_4);injection hv122_4 with hva_ hvn_ hvc_
         rw [hva_] at ge122_4;rw [hvc_] at ul122_4;have HL122_4:=mk0 (show Kd.V k27 27 _ w.heap.size _ _ ((j2i t108 x50_4).f4) from Kd.V_mk ul122_4 ge122_4);clear hva_ hvn_ hvc_ ge122_4 ul122_4 hcc122 hce122;have HR122_3:=mk0 hi122_3;have HC122_3:=mk0 hl122_3;clear hi122_3 hl122_3;have HR122_4:=mk0 hi122_4;have HC122_4:=mk0 hl122_4;clear hi122_4 hl122_4;replace p122:=eq_true p122;replace q122:=eq_true q122;refine j3t (n:=29) (S:=fun w'=>w'.cell? ⟨gb118,0,none⟩=some (.string ((j2d t113 x50_4).f0))∧w'.cell? ⟨gb118,1,none⟩=some (.string ((j2d t113 x50_4).f1))∧w'.cell? ⟨gb118,2,none⟩=some (.int .i64 ((j2d t113 x50_4).f2))∧w'.cell? ⟨gb118,3,none⟩=some (.int .i64 ((j2d t113 x50_4).f3))∧w'.cell? ⟨gb112,0,none⟩=some (.int .i64 t102)∧w'.cell? ⟨gb112,1,none⟩=some (.int .i64 t103)∧w'.cell? ⟨gb112,2,none⟩=some (.int .i64 t104)∧w'.cell? ⟨gb112,3,none⟩=some (.slice (some ad119) t105.length co12)∧w'.cell? ⟨gb112,4,none⟩=some (.slice (some ad122) t108.length co13)∧w'.cell? (ad119.add ((x50_4).toNat*2))=some (.int .i64 ((j2s t105 x50_4).f0))∧w'.cell? ⟨(ad119.add ((x50_4).toNat*2)).block,(ad119.add ((x50_4).toNat*2)).off+1,none⟩=some (.int .i64 ((j2s t105 x50_4).f1))∧w'.cell? (ad119.add ((x50_4).toNat*2))=some (.int .i64 ((j2s t105 x50_4).f0))∧w'.cell? ⟨(ad119.add ((x50_4).toNat*2)).block,(ad119.add ((x50_4).toNat*2)).off+1,none⟩=some (.int .i64 ((j2s t105 x50_4).f1))∧w'.cell? (ad122.add ((x50_4).toNat*5))=some (.int .i64 ((j2i t108 x50_4).f0))∧w'.cell? ⟨(ad122.add ((x50_4).toNat*5)).block,(ad122.add ((x50_4).toNat*5)).off+1,none⟩=some (.int .i64 ((j2i t108 x50_4).f1))∧w'.cell? ⟨(ad122.add ((x50_4).toNat*5)).block,(ad122.add ((x50_4).toNat*5)).off+2,none⟩=some (.int .i64 ((j2i t108 x50_4).f2))∧w'.cell? ⟨(ad122.add ((x50_4).toNat*5)).block,(ad122.add ((x50_4).toNat*5)).off+3,none⟩=some (.slice A122_3 ((j2i t108 x50_4).f3).length c122_3)∧w'.cell? ⟨(ad122.add ((x50_4).toNat*5)).block,(ad122.add ((x50_4).toNat*5)).off+4,none⟩=some (.slice A122_4 ((j2i t108 x50_4).f4).length c122_4)) (ds:=[]) #[false,false,false,false,false,false,false,false,false,false,false,false,false,false,false,false,false,false,false,false,false,false,false,false,false,false,false,false,false] zq7 rfl rfl ⟨(j1b BK118.out 0).trans rfl,(j1b BK118.out 1).trans rfl,(j1b BK118.out 2).trans rfl,(j1b BK118.out 3).trans rfl,(j1b BK112.out 0).trans rfl,(j1b BK112.out 1).trans rfl,(j1b BK112.out 2).trans rfl,(j1b BK112.out 3).trans rfl,(j1b BK112.out 4).trans rfl,hx119_0,hx119_1,hx120_0,hx120_1,hx122_0,hx122_1,hx122_2,hx122_3,hx122_4⟩ (fun hHeld=>?_);refine with_tabW laws_FnJpObjectEach.tab12 laws_FnJpObjectEach.bits12 (fun HT_ HW_=>?_)
         generalize w40.drew=w41 at HO_48 HO_113003 HO_113004 BK112 BK118 HB HL122_3 HL122_4 HR122_3 HR122_4 hx119_0 hx119_1 hx120_0 hx120_1 hx122_0 hx122_1 hx122_2 hx122_3 hx122_4 hHeld ⊢
         refine pure_ (i:=0) (N:=some 55) (v:=?_) (a':=?_) #[true,false,false,false,false,false,false,false,false,false,false,false,false,false,false,false,false,false,false,false,false,false,false,false,false,false,false,false,false] rfl rfl (j2q HT_.out zq7) (fun _ _ _ h=>h) (Or.inl ⟨by rfl,?_⟩) ?_ ?_;rotate_left
         ·exact zl2
         rotate_left
         ·exact zl0
         refine pure_ (i:=2) (N:=some 57) (v:=?_) (a':=?_) #[true,false,true,false,false,false,false,false,false,false,false,false,false,false,false,false,false,false,false,false,false,false,false,false,false,false,false,false,false] rfl rfl (j2q HT_.out zq7) (fun _ _ _ h=>h) (Or.inl ⟨by rfl,?_⟩) ?_ ?_;rotate_left
         ·exact zl2
         rotate_left
         ·exact zl0
         refine pure_ (i:=3) (N:=some 58) (v:=?_) (a':=?_) #[true,false,true,true,false,false,false,false,false,false,false,false,false,false,false,false,false,false,false,false,false,false,false,false,false,false,false,false,false] rfl rfl (j2q HT_.out zq7) (fun _ _ _ h=>h) (Or.inl ⟨by rfl,?_⟩) ?_ ?_;rotate_left
         ·exact zl2
         rotate_left
         ·exact zl0
         refine pure_ (i:=5) (N:=some 60) (v:=?_) (a':=?_) #[true,false,true,true,false,true,false,false,false,false,false,false,false,false,false,false,false,false,false,false,false,false,false,false,false,false,false,false,false] rfl rfl (j2q HT_.out zq7) (fun _ _ _ h=>h) (Or.inl ⟨by rfl,?_⟩) ?_ ?_;rotate_left
         ·exact zl2
         rotate_left
         ·exact zl0
         refine pure_ (i:=9) (N:=some 64) (v:=?_) (a':=?_) #[true,false,true,true,false,true,false,false,false,true,false,false,false,false,false,false,false,false,false,false,false,false,false,false,false,false,false,false,false] rfl rfl (j2q HT_.out zq7) (fun _ _ _ h=>h) (Or.inl ⟨by rfl,?_⟩) ?_ ?_;rotate_left
         ·exact zl2
         rotate_left
         ·exact zl0
         refine pure_ (i:=11) (N:=some 66) (v:=?_) (a':=?_) #[true,false,true,true,false,true,false,false,false,true,false,true,false,false,false,false,false,false,false,false,false,false,false,false,false,false,false,false,false] rfl rfl (j2q HT_.out zq7) (fun _ _ _ h=>h) (Or.inl ⟨by rfl,?_⟩) ?_ ?_;rotate_left
         ·exact zl2
         rotate_left
         ·exact zl0
         refine take_ (i:=1) (N:=some 56) (v:=?_) (a':=?_) #[true,true,true,true,false,true,false,false,false,true,false,true,false,false,false,false,false,false,false,false,false,false,false,false,false,false,false,false,false] rfl rfl (j3j HT_.out HW_.out zq7) (fun _ _ _ h=>h) (Or.inl ⟨by rfl,?_⟩) hHeld ?_ ?_;rotate_left
         ·exact zl15
         rotate_left
         ·exact zl0
         refine take_ (i:=4) (N:=some 59) (v:=?_) (a':=?_) #[true,true,true,true,true,true,false,false,false,true,false,true,false,false,false,false,false,false,false,false,false,false,false,false,false,false,false,false,false] rfl rfl (j3j HT_.out HW_.out zq7) (fun _ _ _ h=>h) (Or.inl ⟨by rfl,?_⟩) hHeld ?_ ?_;rotate_left
         ·exact zl15
         rotate_left
         ·exact zl0
         refine pure_ (i:=6) (N:=some 61) (v:=?_) (a':=?_) #[true,true,true,true,true,true,true,false,false,true,false,true,false,false,false,false,false,false,false,false,false,false,false,false,false,false,false,false,false] rfl rfl (j2q HT_.out zq7) (fun _ _ _ h=>h) (Or.inl ⟨by rfl,?_⟩) ?_ ?_;rotate_left
         ·exact zl2
         rotate_left
         ·exact zl0
         refine pure_ (i:=7) (N:=some 62) (v:=?_) (a':=?_) #[true,true,true,true,true,true,true,true,false,true,false,true,false,false,false,false,false,false,false,false,false,false,false,false,false,false,false,false,false] rfl rfl (j2q HT_.out zq7) (fun _ _ _ h=>h) (Or.inl ⟨by rfl,?_⟩) ?_ ?_;rotate_left
         ·exact zl2
         rotate_left
         ·exact zl0
         refine take_ (i:=8) (N:=some 63) (v:=?_) (a':=?_) #[true,true,true,true,true,true,true,true,true,true,false,true,false,false,false,false,false,false,false,false,false,false,false,false,false,false,false,false,false] rfl rfl (j3j HT_.out HW_.out zq7) (fun _ _ _ h=>h) (Or.inl ⟨by rfl,?_⟩) hHeld ?_ ?_;rotate_left
         ·exact zl15
         rotate_left
         ·exact zl0
         refine take_ (i:=10) (N:=some 65) (v:=?_) (a':=?_) #[true,true,true,true,true,true,true,true,true,true,true,true,false,false,false,false,false,false,false,false,false,false,false,false,false,false,false,false,false] rfl rfl (j3j HT_.out HW_.out zq7) (fun _ _ _ h=>h) (Or.inl ⟨by rfl,?_⟩) hHeld ?_ ?_;rotate_left
         ·exact zl15
         rotate_left
         ·exact zl0
         refine pure_ (i:=12) (N:=some 67) (v:=?_) (a':=?_) #[true,true,true,true,true,true,true,true,true,true,true,true,true,false,false,false,false,false,false,false,false,false,false,false,false,false,false,false,false] rfl rfl (j2q HT_.out zq7) (fun _ _ _ h=>h) (Or.inl ⟨by rfl,?_⟩) ?_ ?_;rotate_left
         ·exact zl2
         rotate_left
         ·exact zl0
         refine pure_ (i:=13) (N:=some 68) (v:=?_) (a':=?_) #[true,true,true,true,true,true,true,true,true,true,true,true,true,true,false,false,false,false,false,false,false,false,false,false,false,false,false,false,false] rfl rfl (j2q HT_.out zq7) (fun _ _ _ h=>h) (Or.inl ⟨by rfl,?_⟩) ?_ ?_;rotate_left
         ·exact zl2
         rotate_left
         ·exact zl0
         refine take_ (i:=14) (N:=some 69) (v:=?_) (a':=?_) #[true,true,true,true,true,true,true,true,true,true,true,true,true,true,true,false,false,false,false,false,false,false,false,false,false,false,false,false,false] rfl rfl (j3j HT_.out HW_.out zq7) (fun _ _ _ h=>h) (Or.inl ⟨by rfl,?_⟩) hHeld ?_ ?_;rotate_left
         ·exact zl15
         rotate_left
         ·exact zl0
         refine pure_ (i:=15) (N:=some 70) (v:=?_) (a':=?_) #[true,true,true,true,true,true,true,true,true,true,true,true,true,true,true,true,false,false,false,false,false,false,false,false,false,false,false,false,false] rfl rfl (j2q HT_.out zq7) (fun _ _ _ h=>h) (Or.inl ⟨by rfl,?_⟩) ?_ ?_;rotate_left
         ·exact zl2
         rotate_left
         ·exact zl0
         refine one_ (i:=16) (N:=some 71) #[true,true,true,true,true,true,true,true,true,true,true,true,true,true,true,true,true,false,false,false,false,false,false,false,false,false,false,false,false] rfl rfl (one_of HT_.out zq7) zq50 (fun K hK=>?_);refine goes_ Tryd.func17 zq7 rfl #[.string (a0.extract (((j2s t105 x50_4).f0):Int).toNat (((j2s t105 x50_4).f1):Int).toNat)] (by rfl) rfl rfl zq1 ?_;with_reducible refine (j1z.calls k4 (a0.extract (((j2s t105 x50_4).f0):Int).toNat (((j2s t105 x50_4).f1):Int).toNat) t121 _ A32.out).mono ?_
         rintro e w42 ⟨rfl,hb⟩;have HS9_:=(hb.cell (World.block_lt_of_cell? _ _ (hHeld.2.2.2.2.2.2.2.2.2.1))).trans (hHeld.2.2.2.2.2.2.2.2.2.1);have HS10_:=(hb.cell (World.block_lt_of_cell? _ _ (hHeld.2.2.2.2.2.2.2.2.2.2.1))).trans (hHeld.2.2.2.2.2.2.2.2.2.2.1);have HS11_:=(hb.cell (World.block_lt_of_cell? _ _ (hHeld.2.2.2.2.2.2.2.2.2.2.2.1))).trans (hHeld.2.2.2.2.2.2.2.2.2.2.2.1);have HS12_:=(hb.cell (World.block_lt_of_cell? _ _ (hHeld.2.2.2.2.2.2.2.2.2.2.2.2.1))).trans (hHeld.2.2.2.2.2.2.2.2.2.2.2.2.1);have HS13_:=(hb.cell (World.block_lt_of_cell? _ _ (hHeld.2.2.2.2.2.2.2.2.2.2.2.2.2.1))).trans (hHeld.2.2.2.2.2.2.2.2.2.2.2.2.2.1);have HS14_:=(hb.cell (World.block_lt_of_cell? _ _ (hHeld.2.2.2.2.2.2.2.2.2.2.2.2.2.2.1))).trans (hHeld.2.2.2.2.2.2.2.2.2.2.2.2.2.2.1);have HS15_:=(hb.cell (World.block_lt_of_cell? _ _ (hHeld.2.2.2.2.2.2.2.2.2.2.2.2.2.2.2.1))).trans (hHeld.2.2.2.2.2.2.2.2.2.2.2.2.2.2.2.1);have HS16_:=(hb.cell (World.block_lt_of_cell? _ _ (hHeld.2.2.2.2.2.2.2.2.2.2.2.2.2.2.2.2.1))).trans (hHeld.2.2.2.2.2.2.2.2.2.2.2.2.2.2.2.2.1);have HS17_:=(hb.cell (World.block_lt_of_cell? _ _ (hHeld.2.2.2.2.2.2.2.2.2.2.2.2.2.2.2.2.2))).trans (hHeld.2.2.2.2.2.2.2.2.2.2.2.2.2.2.2.2.2);refine ⟨_,rfl,?_⟩;have y0_:=mk0 (Kd.C_below HR122_3.out hb);have y1_:=mk0 (Kd.C_below HR122_4.out hb);have y2_:=mk0 (Kd.V_below HL122_3.out hb);have y3_:=mk0 (Kd.V_below HL122_4.out hb);clear HR122_3 HR122_4 HL122_3 HL122_4;have HR122_3:=y0_;have HR122_4:=y1_;have HL122_3:=y2_;have HL122_4:=y3_;have n0_:=mk0 (Kd.R_below zq57 hb);have n1_:=mk0 (Kd.V_below zq43 hb);have n2_:=mk0 (Kd.V_below zq44 hb);have n3_:=mk0 (j2y (g:=gb112) (o := .cells #[.int .i64 t102, .int .i64 t103, .int .i64 t104, .slice (some ad119) t105.length co12, .slice (some ad122) t108.length co13] 27 (0,0)) zq29 hb);have n4_:=mk0 (j2y (g:=gb118) (o := .cells #[.string ((j2d t113 x50_4).f0), .string ((j2d t113 x50_4).f1), .int .i64 ((j2d t113 x50_4).f2), .int .i64 ((j2d t113 x50_4).f3)] 31 (0,0)) zq68 hb);have n5_:=mk0 (j1o zq58 hb);clear HO_48 HO_113003 HO_113004 BK112 BK118 HB;have HO_48:=n0_;have HO_113003:=n1_;have HO_113004:=n2_;have BK112:=n3_;have BK118:=n4_;have HB:=n5_;clear n0_ n1_ n2_ n3_ n4_ n5_ hb;refine hK.out _ _ ⟨(j1b BK118.out 0).trans rfl,(j1b BK118.out 1).trans rfl,(j1b BK118.out 2).trans rfl,(j1b BK118.out 3).trans rfl,(j1b BK112.out 0).trans rfl,(j1b BK112.out 1).trans rfl,(j1b BK112.out 2).trans rfl,(j1b BK112.out 3).trans rfl,(j1b BK112.out 4).trans rfl,HS9_,HS10_,HS11_,HS12_,HS13_,HS14_,HS15_,HS16_,HS17_⟩ (fun hHeld=>?_);clear hK K;refine norm_ (a':=?_) ?_ ?_;rotate_left
         ·show Act.put _ (some 71) _=_
          exact zl0
         refine pure_ (i:=17) (N:=some 72) (v:=?_) (a':=?_) #[true,true,true,true,true,true,true,true,true,true,true,true,true,true,true,true,true,true,false,false,false,false,false,false,false,false,false,false,false] rfl rfl (j2q HT_.out zq7) (fun _ _ _ h=>h) (Or.inl ⟨by rfl,?_⟩) ?_ ?_;rotate_left
         ·exact zl2
         rotate_left
         ·exact zl0
         refine pure_ (i:=18) (N:=some 73) (v:=?_) (a':=?_) #[true,true,true,true,true,true,true,true,true,true,true,true,true,true,true,true,true,true,true,false,false,false,false,false,false,false,false,false,false] rfl rfl (j2q HT_.out zq7) (fun _ _ _ h=>h) (Or.inl ⟨by rfl,?_⟩) ?_ ?_;rotate_left
         ·exact zl2
         rotate_left
         ·exact zl0
         refine pure_ (i:=20) (N:=some 75) (v:=?_) (a':=?_) #[true,true,true,true,true,true,true,true,true,true,true,true,true,true,true,true,true,true,true,false,true,false,false,false,false,false,false,false,false] rfl rfl (j2q HT_.out zq7) (fun _ _ _ h=>h) (Or.inl ⟨by rfl,?_⟩) ?_ ?_;rotate_left
         ·exact zl2
         rotate_left
         ·exact zl0
         refine pure_ (i:=21) (N:=some 76) (v:=?_) (a':=?_) #[true,true,true,true,true,true,true,true,true,true,true,true,true,true,true,true,true,true,true,false,true,true,false,false,false,false,false,false,false] rfl rfl (j2q HT_.out zq7) (fun _ _ _ h=>h) (Or.inl ⟨by rfl,?_⟩) ?_ ?_;rotate_left
         ·exact zl2
         rotate_left
         ·exact zl0
         refine pure_ (i:=23) (N:=some 78) (v:=?_) (a':=?_) #[true,true,true,true,true,true,true,true,true,true,true,true,true,true,true,true,true,true,true,false,true,true,false,true,false,false,false,false,false] rfl rfl (j2q HT_.out zq7) (fun _ _ _ h=>h) (Or.inl ⟨by rfl,?_⟩) ?_ ?_;rotate_left
         ·exact zl2
         rotate_left
         ·exact zl0
         refine take_ (i:=19) (N:=some 74) (v:=?_) (a':=?_) #[true,true,true,true,true,true,true,true,true,true,true,true,true,true,true,true,true,true,true,true,true,true,false,true,false,false,false,false,false] rfl rfl (j3j HT_.out HW_.out zq7) (fun _ _ _ h=>h) (Or.inl ⟨by rfl,?_⟩) hHeld ?_ ?_;rotate_left
         ·exact zl15
         rotate_left
         ·exact zl0
         refine take_ (i:=22) (N:=some 77) (v:=?_) (a':=?_) #[true,true,true,true,true,true,true,true,true,true,true,true,true,true,true,true,true,true,true,true,true,true,true,true,false,false,false,false,false] rfl rfl (j3j HT_.out HW_.out zq7) (fun _ _ _ h=>h) (Or.inl ⟨by rfl,?_⟩) hHeld ?_ ?_;rotate_left
         ·exact zl15
         rotate_left
         ·exact zl0
         refine pure_ (i:=24) (N:=some 79) (v:=?_) (a':=?_) #[true,true,true,true,true,true,true,true,true,true,true,true,true,true,true,true,true,true,true,true,true,true,true,true,true,false,false,false,false] rfl rfl (j2q HT_.out zq7) (fun _ _ _ h=>h) (Or.inl ⟨by rfl,?_⟩) ?_ ?_;rotate_left
         ·exact zl2
         rotate_left
         ·exact zl0
         refine take_ (i:=25) (N:=some 80) (v:=?_) (a':=?_) #[true,true,true,true,true,true,true,true,true,true,true,true,true,true,true,true,true,true,true,true,true,true,true,true,true,true,false,false,false] rfl rfl (j3j HT_.out HW_.out zq7) (fun _ _ _ h=>h) (Or.inl ⟨by rfl,?_⟩) hHeld ?_ ?_;rotate_left
         ·exact zl15
         rotate_left
         ·exact zl0
         refine one_ (i:=26) (N:=some 81) #[true,true,true,true,true,true,true,true,true,true,true,true,true,true,true,true,true,true,true,true,true,true,true,true,true,true,true,false,false] rfl rfl (one_of HT_.out zq7) zq50 (fun K hK=>?_);refine goes_ Tryd.func18 zq7 rfl #[.agg #[.string ((j2d t113 x50_4).f0), .string ((j2d t113 x50_4).f1), .int .i64 ((j2d t113 x50_4).f2), .int .i64 ((j2d t113 x50_4).f3)], .string a0, .agg #[.int .i64 ((j2i t108 x50_4).f0), .int .i64 ((j2i t108 x50_4).f1), .int .i64 ((j2i t108 x50_4).f2), .slice A122_3 ((j2i t108 x50_4).f3).length c122_3, .slice A122_4 ((j2i t108 x50_4).f4).length c122_4]] (by rfl) rfl rfl zq1 ?_;with_reducible refine (j3i.calls ((j2d t113 x50_4).f0) ((j2d t113 x50_4).f1) ((j2d t113 x50_4).f2) ((j2d t113 x50_4).f3) a0 ((j2i t108 x50_4).f0) ((j2i t108 x50_4).f1) ((j2i t108 x50_4).f2) _ _ ((j2i t108 x50_4).f3) _ _ ((j2i t108 x50_4).f4) t123 _ ?side1 ?side2 ?side3 ?side4 A35.out).mono ?_
         (case side1=>repeat (first|exact zq73|(with_reducible refine Kd.C_alloc ?_ _)|(with_reducible refine Kd.C_drewN ?_ _)|(with_reducible refine Kd.C_drew ?_)));(case side2=>exact HC122_3.out);(case side3=>repeat (first|exact zq74|(with_reducible refine Kd.C_alloc ?_ _)|(with_reducible refine Kd.C_drewN ?_ _)|(with_reducible refine Kd.C_drew ?_)));(case side4=>exact HC122_4.out);rintro e w43 ⟨rfl,hb⟩;have HS9_:=(hb.cell (World.block_lt_of_cell? _ _ (hHeld.2.2.2.2.2.2.2.2.2.1))).trans (hHeld.2.2.2.2.2.2.2.2.2.1);have HS10_:=(hb.cell (World.block_lt_of_cell? _ _ (hHeld.2.2.2.2.2.2.2.2.2.2.1))).trans (hHeld.2.2.2.2.2.2.2.2.2.2.1);have HS11_:=(hb.cell (World.block_lt_of_cell? _ _ (hHeld.2.2.2.2.2.2.2.2.2.2.2.1))).trans (hHeld.2.2.2.2.2.2.2.2.2.2.2.1);have HS12_:=(hb.cell (World.block_lt_of_cell? _ _ (hHeld.2.2.2.2.2.2.2.2.2.2.2.2.1))).trans (hHeld.2.2.2.2.2.2.2.2.2.2.2.2.1);have HS13_:=(hb.cell (World.block_lt_of_cell? _ _ (hHeld.2.2.2.2.2.2.2.2.2.2.2.2.2.1))).trans (hHeld.2.2.2.2.2.2.2.2.2.2.2.2.2.1);have HS14_:=(hb.cell (World.block_lt_of_cell? _ _ (hHeld.2.2.2.2.2.2.2.2.2.2.2.2.2.2.1))).trans (hHeld.2.2.2.2.2.2.2.2.2.2.2.2.2.2.1);have HS15_:=(hb.cell (World.block_lt_of_cell? _ _ (hHeld.2.2.2.2.2.2.2.2.2.2.2.2.2.2.2.1))).trans (hHeld.2.2.2.2.2.2.2.2.2.2.2.2.2.2.2.1);have HS16_:=(hb.cell (World.block_lt_of_cell? _ _ (hHeld.2.2.2.2.2.2.2.2.2.2.2.2.2.2.2.2.1))).trans (hHeld.2.2.2.2.2.2.2.2.2.2.2.2.2.2.2.2.1);have HS17_:=(hb.cell (World.block_lt_of_cell? _ _ (hHeld.2.2.2.2.2.2.2.2.2.2.2.2.2.2.2.2.2))).trans (hHeld.2.2.2.2.2.2.2.2.2.2.2.2.2.2.2.2.2);refine ⟨_,rfl,?_⟩;have n0_:=mk0 (Kd.R_below zq57 hb);have n1_:=mk0 (Kd.V_below zq43 hb);have n2_:=mk0 (Kd.V_below zq44 hb);have n3_:=mk0 (Kd.V_below (by (with_reducible repeat (first|apply Kd.V_alloc|apply Kd.V_drewN|apply Kd.V_drew));exact HL122_3.out) hb);have n4_:=mk0 (Kd.V_below (by (with_reducible repeat (first|apply Kd.V_alloc|apply Kd.V_drewN|apply Kd.V_drew));exact HL122_4.out) hb);have n5_:=mk0 (j2y (g:=gb112) (o := .cells #[.int .i64 t102, .int .i64 t103, .int .i64 t104, .slice (some ad119) t105.length co12, .slice (some ad122) t108.length co13] 27 (0,0)) zq29 hb);have n6_:=mk0 (j2y (g:=gb118) (o := .cells #[.string ((j2d t113 x50_4).f0), .string ((j2d t113 x50_4).f1), .int .i64 ((j2d t113 x50_4).f2), .int .i64 ((j2d t113 x50_4).f3)] 31 (0,0)) zq68 hb);have n7_:=mk0 (Kd.C_below zq73 hb);have n8_:=mk0 (Kd.C_below zq74 hb);have n9_:=mk0 (j1o zq58 hb);clear HO_48 HO_113003 HO_113004 HL122_3 HL122_4 BK112 BK118 HR122_3 HR122_4 HB;have HO_48:=n0_;have HO_113003:=n1_;have HO_113004:=n2_;have HL122_3:=n3_;have HL122_4:=n4_;have BK112:=n5_;have BK118:=n6_;have HR122_3:=n7_;have HR122_4:=n8_;have HB:=n9_;clear n0_ n1_ n2_ n3_ n4_ n5_ n6_ n7_ n8_ n9_ hb;refine hK.out _ _ ⟨(j1b BK118.out 0).trans rfl,(j1b BK118.out 1).trans rfl,(j1b BK118.out 2).trans rfl,(j1b BK118.out 3).trans rfl,(j1b BK112.out 0).trans rfl,(j1b BK112.out 1).trans rfl,(j1b BK112.out 2).trans rfl,(j1b BK112.out 3).trans rfl,(j1b BK112.out 4).trans rfl,HS9_,HS10_,HS11_,HS12_,HS13_,HS14_,HS15_,HS16_,HS17_⟩ (fun hHeld=>?_);clear hK K;refine norm_ (a':=?_) ?_ ?_;rotate_left
         ·show Act.put _ (some 81) _=_
          exact zl0
         refine pure_ (i:=27) (N:=some 82) (v:=?_) (a':=?_) #[true,true,true,true,true,true,true,true,true,true,true,true,true,true,true,true,true,true,true,true,true,true,true,true,true,true,true,true,false] rfl rfl (j2q HT_.out zq7) (fun _ _ _ h=>h) (Or.inl ⟨by rfl,?_⟩) ?_ ?_;rotate_left
         ·exact zl2
         rotate_left
         ·exact zl0
         refine pure_ (i:=28) (N:=some 83) (v:=?_) (a':=?_) #[true,true,true,true,true,true,true,true,true,true,true,true,true,true,true,true,true,true,true,true,true,true,true,true,true,true,true,true,true] rfl rfl (j2q HT_.out zq7) (fun _ _ _ h=>h) (Or.inl ⟨by rfl,?_⟩) ?_ ?_;rotate_left
         ·exact zl2
         rotate_left
         ·exact zl0
         refine done_ (done_of HT_.out zq7) ?_;by_cases c36:t123=true
         rotate_left
         ·replace c36:=Bool.eq_false_iff.mpr c36;subst c36;rw [if_neg (show ¬ (false=true) by decide)] at H;obtain rfl:=Option.some.inj H
          try go_wp2
          go_ret;exact zl20
         subst c36;rw [if_pos rfl] at H;have H':=mk0 H;clear H
         try go_wp2
         go_roundg k4
         case measure=>have:=HJ2.out;have:=HJ7.out;have:=HJ17.out;have:=HK4.out;omega
         case rel=>exact ⟨(wrap64 (x50_4+1)),(by rfl),H',⟨by have:=HJ2.out;have:=HJ7.out;have:=HJ17.out;have:=HK4.out;omega⟩,⟨by (with_reducible repeat (first|apply Kd.R_alloc|apply Kd.R_drewN|apply Kd.R_drew));exact Kd.R_mono HO_48.out (fun _ hk=>trivial)⟩,⟨by (with_reducible repeat (first|apply Kd.V_alloc|apply Kd.V_drewN|apply Kd.V_drew));exact Kd.V_mono HO_113003.out (fun _ hk=>⟨hk.1,hk.2.1⟩)⟩,⟨by (with_reducible repeat (first|apply Kd.V_alloc|apply Kd.V_drewN|apply Kd.V_drew));exact Kd.V_mono HO_113004.out (fun _ hk=>⟨hk.1,hk.2.1⟩)⟩,⟨by (with_reducible repeat (first|refine j1e ?_ _|refine j1k ?_|refine j1c ?_ _));exact BK112.out⟩,⟨by repeat (first|(with_reducible first|exact HB.out|apply j1f|apply j1d|apply j1h|refine j1s ?_ GE112.out|refine j1s ?_ GE118.out)|exact HB.out)⟩⟩
def laws_FnJpObjectEach.Pure : Prop := ∀ (a0:ByteArray) (l1:List ByteArray),a0.size≤140737488351232→∃ k,laws_FnJpObjectEach.f k a0 l1=some true
theorem laws_FnJpObjectEach.walk (P : laws_FnJpObjectEach.Pure) (a0:ByteArray) (a1:Option Addr) (len1 cap1:Nat) (z1:List ByteArray) (w:World) (hG:Laid w) (w0:a0.size≤140737488351232) (w1:(a1=none∧len1=0∧cap1=0∧z1=[])∨∃ x,a1=some x∧len1≤cap1∧cap1≤maxLen∧z1.length=cap1∧∀ i,i<z1.length→w.cell? (x.add i)=some (.string (z1.getD i ByteArray.empty))) :
 Calls Tryd.prog 6 #[.string a0, .slice a1 len1 cap1] w fun e w'=>e = .returned (.bool true)∧Below w.heap.size w w':=by
 obtain ⟨l1,rfl,hr1,hc1⟩:=str_rowC w1;obtain ⟨k,h⟩:=P a0 l1 w0;refine (laws_FnJpObjectEach.calls k a0 _ _ l1 true w hr1 hc1 hG h).mono ?_;rintro e w' ⟨rfl,hd⟩;exact ⟨rfl,hd⟩
end Go.Proofs.YthmjfmpgmcgonaaDoor.K
end
section
namespace Go.Proofs.YthmjfmpgmcgonaaDoor.K
open Go.RowKit Go.Proofs.YthmjfmpgmcgonaaDoorW.PrintWords Go.Proofs.YthmjfmpgmcgonaaDoorW.PrintLast Go.Proofs.YthmjfmpgmcgonaaDoorW.PrintMore
attribute [local go_sem] max2_int min2_int max_two min_two max_three min_three max_four min_four
set_option linter.unusedVariables false
set_option linter.unusedSimpArgs false

end Go.Proofs.YthmjfmpgmcgonaaDoor.K
end
section
namespace Go.Proofs.YthmjfmpgmcgonaaDoor.J
open Go.RowKit Go.Proofs.YthmjfmpgmcgonaaDoor.K Go.Proofs.YthmjfmpgmcgonaaDoorW.PrintWords Go.Proofs.YthmjfmpgmcgonaaDoorW.PrintLast

theorem hexDigit_eq {c : Int} (h:0≤c∧c≤255):Ev (fun k=>j2a.f k c) ((hexv c).getD 0,(hexv c).isSome):=by
 refine ⟨2,fun k hk=>?_⟩;obtain ⟨k,rfl⟩:∃ m,k=m+2:=⟨k - 2,by omega⟩;unfold j2a.f hexv;simp only [j2a.j0,j2a.j1];by_cases h1:48≤c∧c≤57
 ·rw [if_pos h1.1,if_pos zq85,if_pos h1]
  simp;omega
 rw [if_neg h1]
 have key:(if 97≤c then (if decide (c≤102)=true then some ((c - 97) % 256+10,true) else if 65≤c then if c≤70 then some ((c - 65) % 256+10,true) else some (0,false) else some (0,false))
  else (if false=true then some ((c - 97) % 256+10,true) else if 65≤c then if c≤70 then some ((c - 65) % 256+10,true) else some (0,false) else some (0,false))) =
  some (((if 97≤c∧c≤102 then some (c - 87) else if 65≤c∧c≤70 then some (c - 55) else none:Option Int).getD 0,(if 97≤c∧c≤102 then some (c - 87) else if 65≤c∧c≤70 then some (c - 55) else none:Option Int).isSome)):=by
  by_cases h2:97≤c∧c≤102
  ·rw [if_pos h2.1,if_pos zq85,if_pos h2]
   simp;omega
  rw [if_neg h2];by_cases h3:65≤c∧c≤70
  ·rw [if_neg (by omega),if_neg (by simp),if_pos h3.1,if_pos h3.2,if_pos h3]
   simp;omega
  rw [if_neg h3];by_cases h4:97≤c
  ·rw [if_pos h4,if_neg zq85,if_pos (by omega),if_neg (by omega)];rfl
  rw [if_neg h4,if_neg (by simp)];by_cases h5:65≤c
  rotate_left
  ·rw [if_neg h5];rfl
  rw [if_pos h5,if_neg (by omega)];rfl
 by_cases h6:48≤c
 rotate_left
 ·rw [if_neg h6,if_neg (by simp)];exact key
 rw [if_pos h6,if_neg zq85];exact key
theorem here_cons {s : ByteArray} {i:Nat} {a:Int} {l:List Int} (h:From s i (a :: l)):j2f.f s (i:Int)=some (a,s,(i:Int)):=by
 have:=h.lt;unfold j2f.f;rw [if_pos (by omega),if_pos (by omega),h.bt]
theorem here_nil {s : ByteArray} {i:Nat} (h:From s i []):j2f.f s (i:Int)=some (0,s,(i:Int)):=by
 have:=h.nil;unfold j2f.f;rw [if_neg (by omega)]
theorem up {i n : Nat} (k:Nat) (h:i≤n) (hn:n≤140737488351232) (hk:k≤100):wrap64 ((i:Int)+(k:Int))=((i+k:Nat):Int):=by
 rw [w64 (by omega)];omega
theorem up1 {i n : Nat} (h:i≤n) (hn:n≤140737488351232):wrap64 ((i:Int)+1)=((i+1:Nat):Int):=up 1 h hn (by omega)
def hexs : Nat → List Int→Bool
  | 0,_=>true
  | _+1,[]=>false
  | n+1,a :: r=>(hexv a).isSome && hexs n r
theorem hex4_hexs (l : List Int):(hex4 l).isSome=hexs 4 l:=by
 match l with
 | []=>rfl
 | [a]=>simp [hex4,hexs]
 | [a,b]=>simp [hex4,hexs]
 | [a,b,c]=>simp [hex4,hexs]
 | a :: b :: c :: d :: r =>
  simp only [hex4,hexs];cases hexv a<;>cases hexv b<;>cases hexv c<;>cases hexv d<;>rfl
section
variable {s : ByteArray} (hs:s.size≤140737488351232)
include hs
theorem esc_l0 : ∀ (n:Nat) (i:Nat) (l:List Int),n≤4→From s i l →
 (hexs n l=true→Ev (fun k=>j1g.l0 k (((4 - n:Nat):Int)) s i) (true,s,((i+n:Nat):Int))) ∧
 (hexs n l=false→∃ p,Ev (fun k=>j1g.l0 k (((4 - n:Nat):Int)) s i) (false,s,p))
 | 0,i,l,_,h=>⟨fun _=>Ev.step (f:=fun _=>some (true,s,(i:Int))) (fun k=>by simp only [j1g.l0];rw [if_neg (by omega)]) (Ev.now _),fun h=>by simp [hexs] at h⟩
 | n+1,i,[],hn,h=>by
  refine ⟨fun e=>by simp [hexs] at e,fun _=>⟨(i:Int),?_⟩⟩;refine Ev.step (f:=fun k=>(j2a.f k 0).bind fun bt107=>(if bt107.2=true then (j1g.l0 k (wrap64 ((((4 - (n+1):Nat):Int))+1)) s (wrap64 ((i:Int)+1))) else some (false,s,(i:Int)))) (fun k=>?_) (Ev.bind (hexDigit_eq (by omega)) (Ev.congr (fun k=>if_neg (by simp [hexv])) (Ev.now _)));simp only [j1g.l0];rw [if_pos (by omega),here_nil h];rfl
 | n+1,i,a :: l,hn,h=>by
  have ih:=esc_l0 n (i+1) l (by omega) h.tail;have e1:wrap64 ((((4 - (n+1):Nat):Int))+1)=(((4 - n:Nat):Int)):=by rw [w64 (by omega)];omega
  have e2:=up1 (Nat.le_of_lt h.lt) hs
  have st:∀ R,Ev (fun k=>if (hexv a).isSome=true then (j1g.l0 k (((4 - n:Nat):Int)) s ((i+1:Nat):Int)) else some (false,s,(i:Int))) R→Ev (fun k=>j1g.l0 k (((4 - (n+1):Nat):Int)) s i) R:=fun R hR=>by
   refine Ev.step (f:=fun k=>(j2a.f k a).bind fun bt107=>(if bt107.2=true then (j1g.l0 k (((4 - n:Nat):Int)) s ((i+1:Nat):Int)) else some (false,s,(i:Int)))) (fun k=>?_) (Ev.bind (hexDigit_eq h.head) hR);simp only [j1g.l0];rw [if_pos (by omega),here_cons h,e1];simp only [Option.bind_some,e2]
  by_cases ha:(hexv a).isSome=true
  rotate_left
  ·exact ⟨fun e=>by simp [hexs,ha] at e,fun _=>⟨_,st _ (Ev.congr (fun k=>if_neg ha) (Ev.now _))⟩⟩
  refine ⟨fun e=>?_,fun e=>?_⟩
  ·simp only [hexs,Bool.and_eq_true] at e;have:=st _ (Ev.congr (fun k=>if_pos ha) (ih.1 e.2))
   rwa [show i+1+n=i+(n+1) by omega] at this
  ·rw [hexs,ha,Bool.true_and] at e;obtain ⟨p,hp⟩:=ih.2 e;exact ⟨p,st _ (Ev.congr (fun k=>if_pos ha) hp)⟩
theorem escape_eq {i : Nat} {l:List Int} (h:From s i l) :
 (∀ r,escL l=some r→Ev (fun k=>j1g.f k s i) (true,s,((s.size - r.length:Nat):Int))) ∧
 (escL l=none→∃ p,Ev (fun k=>j1g.f k s i) (false,s,p)):=by
 have j0:∀ a x,x=isE a→Ev (fun k=>j1g.j0 k a x s i)=Ev (fun k=>if isE a=true then some (true,s,wrap64 ((i:Int)+1)) else if a=117 then j1g.l0 (k - 1) 0 s (wrap64 ((i:Int)+1)) else some (false,s,(i:Int))):=by
  intro a x e;subst e
  funext R
  apply propext
  constructor
  ·rintro ⟨K,hK⟩;refine ⟨K+1,fun k hk=>?_⟩;obtain ⟨k,rfl⟩:∃ m,k=m+1:=⟨k - 1,by omega⟩;have:=hK (k+1) (by omega)
   simpa only [j1g.j0,Nat.add_sub_cancel] using this
  ·rintro ⟨K,hK⟩;refine ⟨K+1,fun k hk=>?_⟩;obtain ⟨k,rfl⟩:∃ m,k=m+1:=⟨k - 1,by omega⟩;have:=hK (k+1) (by omega)
   simpa only [j1g.j0,Nat.add_sub_cancel] using this
 have sh:∀ {g:Nat→Option (Bool × ByteArray × Int)} {R},Ev g R→Ev (fun k=>g (k - 1)) R:=by
  rintro g R ⟨K,hK⟩;exact ⟨K+1,fun k hk=>hK _ (by omega)⟩
 match l,h with
 | [],h =>
  refine ⟨fun r hr=>by simp [escL] at hr,fun _=>⟨(i:Int),?_⟩⟩;refine Ev.congr (f:=fun k=>j1g.j0 k 0 ((0:Int) == 116) s i) (fun k=>?_) ?_
  ·unfold j1g.f;rw [here_nil h];rfl
  ·rw [j0 0 _ zq50];exact Ev.congr (fun k=>by rw [if_neg zq50,if_neg zq50]) (Ev.now _)
 | a :: l,h =>
  have e2:=up1 (Nat.le_of_lt h.lt) hs;have hl:=h.len;simp only [List.length_cons] at hl
  have key:Ev (fun k=>j1g.f k s i)=Ev (fun k=>j1g.j0 k a (isE a) s i):=by
   congr 1
   funext k
   unfold j1g.f;rw [here_cons h];simp only [Option.bind_some,isE];by_cases h1:a=34
   ·rw [if_pos h1,h1];rfl
   rw [if_neg h1];by_cases h2:a=92
   ·rw [if_pos h2,h2];rfl
   rw [if_neg h2];by_cases h3:a=47
   ·rw [if_pos h3,h3];rfl
   rw [if_neg h3];by_cases h4:a=98
   ·rw [if_pos h4,h4];rfl
   rw [if_neg h4];by_cases h5:a=102
   ·rw [if_pos h5,h5];rfl
   rw [if_neg h5];by_cases h6:a=110
   ·rw [if_pos h6,h6];rfl
   rw [if_neg h6];by_cases h7:a=114
   ·rw [if_pos h7,h7];rfl
   rw [if_neg h7]
   congr 1
   rw [Bool.eq_iff_iff];simp;omega
  rw [key,j0 a _ rfl];by_cases h1:isE a=true
  ·refine ⟨fun r hr=>?_,fun hr=>(by rw [escL_let _ h1] at hr;cases hr)⟩;rw [escL_let _ h1] at hr;cases hr;refine Ev.congr (fun k=>if_pos h1) (Ev_same (Ev.now _) ?_);rw [e2,show i+1=s.size - l.length by omega]
  by_cases h2:a=117
  rotate_left
  ·refine ⟨fun r hr=>(by rw [escL,if_neg h1,if_neg h2] at hr;cases hr),fun _=>⟨(i:Int),Ev.congr (fun k=>by rw [if_neg h1,if_neg h2]) (Ev.now _)⟩⟩
  subst h2;have hh:=esc_l0 hs 4 (i+1) l (by omega) h.tail;refine ⟨fun r hr=>?_,fun hr=>?_⟩
  ·rw [escL,if_neg h1,if_pos rfl] at hr;obtain ⟨v,hv,hr⟩:=Option.bind_eq_some_iff.mp hr;cases hr;have h4:hexs 4 l=true:=by rw [← hex4_hexs,hv];rfl
   have hlen:=hex4_len hv;refine Ev.congr (f:=fun k=>j1g.l0 (k - 1) 0 s ((i+1:Nat):Int)) (fun k=>by rw [if_neg h1,if_pos rfl,e2]) (Ev_same (sh (hh.1 h4)) ?_);rw [show i+1+4=s.size - (l.drop 4).length by rw [List.length_drop];omega]
  ·rw [escL,if_neg h1,if_pos rfl] at hr
   have h4:hexs 4 l=false:=by
    rw [← hex4_hexs];cases hv:hex4 l with
    | none=>rfl
    | some v=>rw [hv] at hr;cases hr
   obtain ⟨p,hp⟩:=hh.2 h4;exact ⟨p,Ev.congr (f:=fun k=>j1g.l0 (k - 1) 0 s ((i+1:Nat):Int)) (fun k=>by rw [if_neg h1,if_pos rfl,e2]) (sh hp)⟩
theorem quoted_l0 : ∀ (n i:Nat) (l:List Int),l.length≤n→From s i l →
 (∀ r,strL l=some r→Ev (fun k=>j1v.l0 k s i) (true,s,((s.size - r.length:Nat):Int))) ∧
 (strL l=none→∃ p,Ev (fun k=>j1v.l0 k s i) (false,s,p))
 | n,i,[],_,h=>by
  have:=h.nil;refine ⟨fun r hr=>(by rw [strL_nil] at hr;cases hr),fun _=>⟨(i:Int),Ev.step (f:=fun _=>some (false,s,(i:Int))) (fun k=>?_) (Ev.now _)⟩⟩;simp only [j1v.l0];rw [if_neg (by omega)]
 | 0,i,c :: l,hn,h=>by simp at hn
 | n+1,i,c :: l,hn,h=>by
  simp only [List.length_cons] at hn;have hl:=h.len;simp only [List.length_cons] at hl;have e2:=up1 (Nat.le_of_lt h.lt) hs
  have st:∀ k,j1v.l0 (k+1) s i=(if c=34 then (some (true,s,((i+1:Nat):Int))) else (if c<32 then (some (false,s,((i+1:Nat):Int))) else (if c=92 then ((j1g.f k s ((i+1:Nat):Int)).bind fun bt101=>(if bt101.1=true then (j1v.l0 k bt101.2.1 bt101.2.2) else (some (false,bt101.2.1,bt101.2.2)))) else (j1v.l0 k s ((i+1:Nat):Int))))):=fun k=>by
   simp only [j1v.l0];rw [if_pos (by have:=h.lt;omega),if_pos (by omega),h.bt,e2]
  by_cases h1:c=34
  ·subst h1;refine ⟨fun r hr=>?_,fun hr=>(by rw [strL_end] at hr;cases hr)⟩;rw [strL_end] at hr;cases hr;refine Ev.step (fun k=>(st k).trans (if_pos rfl)) (Ev_same (Ev.now _) ?_);rw [show i+1=s.size - l.length by omega]
  by_cases h2:c<32
  ·refine ⟨fun r hr=>(by rw [strL_low _ h2] at hr;cases hr),fun _=>⟨_,Ev.step (fun k=>(st k).trans ((if_neg h1).trans (if_pos h2))) (Ev.now _)⟩⟩
  by_cases h3:c=92
  rotate_left
  ·rw [strL_raw _ ⟨h1,h2,h3⟩];have ih:=quoted_l0 n (i+1) l (by omega) h.tail;have go:∀ k,j1v.l0 (k+1) s i=j1v.l0 k s ((i+1:Nat):Int):=fun k=>(st k).trans ((if_neg h1).trans ((if_neg h2).trans (if_neg h3)))
   refine ⟨fun r hr=>Ev.step go (ih.1 r hr),fun hr=>?_⟩;obtain ⟨p,hq⟩:=ih.2 hr;exact ⟨p,Ev.step go hq⟩
  subst h3;have hh:=escape_eq hs h.tail;rw [strL_esc]
  have go:∀ {a q R},Ev (fun k=>j1g.f k s ((i+1:Nat):Int)) (a,s,q)→Ev (fun k=>if a=true then (j1v.l0 k s q) else (some (false,s,q))) R→Ev (fun k=>j1v.l0 k s i) R:=fun {a q R} hx hy =>
   Ev.step (fun k=>(st k).trans ((if_neg h1).trans ((if_neg h2).trans (if_pos rfl)))) (Ev.bind hx hy)
  cases he:escL l with
  | none =>
   refine ⟨fun r hr=>(by cases hr),fun _=>?_⟩;obtain ⟨p,hp⟩:=hh.2 he;exact ⟨p,go hp (Ev.congr (fun k=>if_neg zq50) (Ev.now _))⟩
  | some r' =>
   have hlen:=escL_len he;have hp:=hh.1 r' he
   have hF:From s (s.size - r'.length) r':=by
    rcases escL_ex he with ⟨b,_,rfl⟩|⟨a,b,c,d,v,_,rfl⟩
    ·have:=h.tail.tail;have hz:=this.len
     rwa [show i+1+1=s.size - r'.length by omega] at this
    ·have:=h.tail.tail.tail.tail.tail.tail;have hz:=this.len
     rwa [show i+1+1+1+1+1+1=s.size - r'.length by omega] at this
   have ih:=quoted_l0 n (s.size - r'.length) r' (by omega) hF;refine ⟨fun r hr=>go hp (Ev.congr (fun k=>if_pos rfl) (ih.1 r hr)),fun hr=>?_⟩;obtain ⟨p,hq⟩:=ih.2 hr;exact ⟨p,go hp (Ev.congr (fun k=>if_pos rfl) hq)⟩
theorem quoted_eq {i : Nat} {c:Int} {l:List Int} (h:From s i (c :: l)) :
 (∀ r,strL l=some r→Ev (fun k=>j1v.f k s i) (true,s,((s.size - r.length:Nat):Int))) ∧
 (strL l=none→∃ p,Ev (fun k=>j1v.f k s i) (false,s,p)):=by
 have e2:=up1 (Nat.le_of_lt h.lt) hs;have:=quoted_l0 hs l.length (i+1) l (Nat.le_refl _) h.tail;unfold j1v.f;rw [e2];exact this
end

end Go.Proofs.YthmjfmpgmcgonaaDoor.J
end
section
namespace Go.Proofs.YthmjfmpgmcgonaaDoor.J
open Go.RowKit Go.Proofs.YthmjfmpgmcgonaaDoor.K Go.Proofs.YthmjfmpgmcgonaaDoorW.PrintWords Go.Proofs.YthmjfmpgmcgonaaDoorW.PrintLast

theorem up2 {i n : Nat} (h:i≤n) (hn:n≤140737488351232):wrap64 ((i:Int)+2)=((i+2:Nat):Int):=up 2 h hn (by omega)
theorem up6 {i n : Nat} (h:i≤n) (hn:n≤140737488351232):wrap64 ((i:Int)+6)=((i+6:Nat):Int):=up 6 h hn (by omega)
theorem high_eq (n : Int):j3x.f n=some (hiS n):=by
 unfold j3x.f hiS;by_cases h:55296≤n
 rotate_left
 ·rw [if_neg h];simp [h]
 rw [if_pos h];simp [h]
theorem low_eq (n : Int):j4o.f n=some (loS n):=by
 unfold j4o.f loS;by_cases h:56320≤n
 rotate_left
 ·rw [if_neg h];simp [h]
 rw [if_pos h];simp [h]
theorem td {c : Int} (h:0≤c) (k:Int):Int.tdiv c k=c / k:=Int.tdiv_eq_ediv_of_nonneg h
theorem tm {c : Int} (h:0≤c) (k:Int):Int.tmod c k=c % k:=Int.tmod_eq_emod_of_nonneg h
theorem appendUTF8_eq {l : List Int} {c:Int} (h0:0≤c) (h1:c≤1114111) (hl:l.length+4<140737488355328):Ev (fun k=>j1y.f k l c) (l++utf c):=by
 refine ⟨1,fun k hk=>?_⟩;obtain ⟨k,rfl⟩:∃ m,k=m+1:=⟨k - 1,by omega⟩;unfold j1y.f utf;simp only [j1y.j0,high_eq,low_eq,Option.bind_some,td h0,tm h0];have e1:wrap64 (c / 64)=c / 64:=w64 (by omega);have e2:wrap64 (c / 4096)=c / 4096:=w64 (by omega);have e3:wrap64 (c / 262144)=c / 262144:=w64 (by omega);rw [e1,e2,e3,tm (c:=c / 64) (by omega),tm (c:=c / 4096) (by omega)];by_cases a1:c<128
 ·rw [if_pos a1,if_pos a1,if_pos (by omega)]
  congr 3;omega
 rw [if_neg a1,if_neg a1];by_cases a2:c<2048
 ·rw [if_pos a2,if_pos a2,if_pos zq85];rw [w64 (x:=192+c / 64) (by omega),w64 (x:=128+c % 64) (by omega)]
  congr 3
  ·omega
  ·congr 1;omega
 rw [if_neg a2,if_neg a2];by_cases a3:hiS c=true
 ·rw [if_pos a3,if_pos trivial,if_pos zq85,if_pos (.inl a3)]
 rw [if_neg a3];by_cases a4:loS c=true
 ·rw [if_pos a4,if_pos zq85,if_pos (.inr a4)]
 rw [if_neg a4,if_neg (show ¬ (hiS c=true∨loS c=true) from fun h=>h.elim a3 a4)];by_cases a5:c<65536
 ·rw [if_pos a5,if_pos a5,if_pos zq85];rw [w64 (x:=224+c / 4096) (by omega),w64 (x:=128+c / 64 % 64) (by omega),w64 (x:=128+c % 64) (by omega)]
  congr 3
  ·omega
  ·congr 1
   ·omega
   ·congr 1;omega
 rw [if_neg a5,if_neg a5,if_pos zq85];rw [w64 (x:=240+c / 262144) (by omega),w64 (x:=128+c / 4096 % 64) (by omega),w64 (x:=128+c / 64 % 64) (by omega),w64 (x:=128+c % 64) (by omega)]
 congr 3
 ·omega
 ·congr 1
  ·omega
  ·congr 1
   ·omega
   ·congr 1;omega
section
variable {s : ByteArray} (hs:s.size≤140737488351232)
include hs
theorem unit_yes {i j : Nat} {a acc d:Int} {r:List Int} {R:Int × Bool} (h:From s j (a :: r)) (hi:i≤s.size) (hj:j<i+6) (h0:0≤acc∧acc≤100000000) (hd:hexv a=some d)
 (k:Ev (fun k=>j2e.l0 k s i (acc*16+d) ((j+1:Nat):Int)) R):Ev (fun k=>j2e.l0 k s i acc j) R:=by
 have hr:=j3k hd
 refine Ev.step (f:=fun k=>(j2a.f k a).bind fun bt101=>(if bt101.2=true then (j2e.l0 k s i (wrap64 ((wrap64 (acc*16))+bt101.1)) ((j+1:Nat):Int)) else some (0,false))) (fun k=>?_)
  (Ev.bind (hexDigit_eq h.head) (Ev.congr (fun n=>?_) k))
 ·exact zl27
 ·rw [hd];simp only [Option.isSome_some,if_true,Option.getD_some];rw [w64 (x:=acc*16) (by omega),w64 (by omega)]
theorem unit_no {i j : Nat} {a acc:Int} {r:List Int} (h:From s j (a :: r)) (hi:i≤s.size) (hj:j<i+6) (hd:hexv a=none):Ev (fun k=>j2e.l0 k s i acc j) (0,false):=by
 refine Ev.step (f:=fun k=>(j2a.f k a).bind fun bt101=>(if bt101.2=true then (j2e.l0 k s i (wrap64 ((wrap64 (acc*16))+bt101.1)) ((j+1:Nat):Int)) else some (0,false))) (fun k=>?_)
  (Ev.bind (hexDigit_eq h.head) (Ev.congr (fun n=>?_) (Ev.now _)))
 ·exact zl27
 ·rw [hd];rfl
theorem unit_l0 {i : Nat} {l:List Int} (h:From s (i+2) l) (hl:4≤l.length):Ev (fun k=>j2e.l0 k s i 0 ((i+2:Nat):Int)) ((hex4 l).getD 0,(hex4 l).isSome):=by
 match l,hl,h with
 | a :: b :: c :: d :: r,_,h =>
  have hz:=h.len;simp only [List.length_cons] at hz;have hi:i≤s.size:=by omega
  simp only [hex4];cases ea:hexv a with
  | none=>exact Ev_same (unit_no hs h hi (by omega) ea) (by simp)
  | some x =>
   have:=j3k ea;refine unit_yes hs h hi (by omega) (by omega) ea ?_;cases eb:hexv b with
   | none=>exact Ev_same (unit_no hs h.tail hi (by omega) eb) (by simp)
   | some y =>
    have:=j3k eb;refine unit_yes hs h.tail hi (by omega) (by omega) eb ?_;cases ec:hexv c with
    | none=>exact Ev_same (unit_no hs h.tail.tail hi (by omega) ec) (by simp)
    | some z =>
     have:=j3k ec;refine unit_yes hs h.tail.tail hi (by omega) (by omega) ec ?_;cases ed:hexv d with
     | none=>exact Ev_same (unit_no hs h.tail.tail.tail hi (by omega) ed) (by simp)
     | some u =>
      have:=j3k ed;refine unit_yes hs h.tail.tail.tail hi (by omega) (by omega) ed ?_;refine Ev.step (f:=fun _=>some ((((0*16+x)*16+y)*16+z)*16+u,true)) (fun k=>?_) (Ev_same (Ev.now _) (by simp));simp only [j2e.l0];rw [up6 hi hs,if_neg (by omega)]
theorem unit_eq {i : Nat} {l:List Int} (h:From s i l):Ev (fun k=>j2e.f k s i) ((unitL l).getD 0,(unitL l).isSome):=by
 have hz:=h.len;have no:Ev (fun k=>j2e.j0 k s i true) (0,false):=Ev.step (f:=fun _=>some (0,false)) (fun k=>by simp only [j2e.j0];rw [if_pos trivial]) (Ev.now _);unfold j2e.f;have e0:wrap64 ((s.size:Int) - (i:Int))=((l.length:Nat):Int):=by rw [w64 (by omega)];omega
 rw [e0];by_cases h6:l.length<6
 ·have e1:unitL l=none:=by
   cases e:unitL l with
   | none=>rfl
   | some v=>have:=unitL_len e;omega
  rw [e1];exact Ev.congr (fun k=>if_pos (by omega)) no
 match l,h,h6,hz with
 | [],_,h6,_=>exact absurd (by simp) h6
 | [a],_,h6,_=>exact absurd (by simp) h6
 | a :: b :: l,h,h6,hz =>
  simp only [List.length_cons] at h6 hz;have hlt:=h.lt;have e1:unitL (a :: b :: l)=if a=92∧b=117 then hex4 l else none:=rfl
  by_cases h1:a=92
  rotate_left
  ·rw [e1,if_neg (by omega)];refine Ev.congr (fun k=>?_) no;rw [if_neg zq66,if_pos (by omega),if_pos (by omega),h.bt,if_neg h1]
  refine Ev.congr (f:=fun k=>j2e.j0 k s i (b != 117)) (fun k=>?_) ?_
  ·rw [if_neg zq66,if_pos (by omega),if_pos (by omega),h.bt,if_pos h1,up1 (Nat.le_of_lt h.lt) hs,if_pos (by omega),if_pos (by omega),h.tail.bt]
  ·by_cases h2:b=117
   rotate_left
   ·rw [e1,if_neg (by omega)];exact Ev.congr (fun k=>by rw [bne_iff_ne.mpr h2]) no
   rw [e1,if_pos ⟨h1,h2⟩];refine Ev.congr (f:=fun k=>j2e.j0 k s i false) (fun k=>by rw [h2];rfl) ?_;refine Ev.step (f:=fun k=>j2e.l0 k s i 0 ((i+2:Nat):Int)) (fun k=>?_) (unit_l0 hs (by simpa using h.tail.tail) (by omega));simp only [j2e.j0];rw [if_neg zq50,up2 (Nat.le_of_lt h.lt) hs]
omit hs in
theorem short_eq (b : Int):j4k.f b=some (unl b):=by
 unfold j4k.f unl
 repeat' split
 all_goals rfl
omit hs in
theorem unitL_range {l : List Int} {v:Int} (h:unitL l=some v):0≤v∧v≤65535:=by
 unfold unitL at h
 split at h
 ·split at h
  ·exact hex4_range h
  ·cases h
 ·cases h
theorem unquote_l0 : ∀ (n i:Nat) (l acc:List Int),l.length≤n→From s i l→Body l→acc.length+l.length≤140737488351232→Ev (fun k=>j1z.l0 k acc s i) (strOfNums (acc++unqL l))
 | n,i,[],acc,_,h,_,_=>by
  have:=h.nil;refine Ev.step (f:=fun _=>some (strOfNums acc)) (fun k=>?_) (Ev_same (Ev.now _) (by rw [unqL_nil,List.append_nil]));simp only [j1z.l0];rw [if_neg (by omega)]
 | 0,i,c :: l,acc,hn,_,_,_=>by simp at hn
 | n+1,i,c :: l,acc,hn,h,hb,hk=>by
  simp only [List.length_cons] at hn hk;have hlt:=h.lt;have hz:=h.len;simp only [List.length_cons] at hz;have hle:=Nat.le_of_lt hlt;have e1:=up1 hle hs;have e2:=up2 hle hs;have e6:=up6 hle hs;by_cases hc:c=92
  rotate_left
  ·cases hb with
   | two h1 hb=>exact absurd rfl hc
   | six h1 hb=>exact absurd rfl hc
   | raw _ _ _ hb =>
    refine Ev.step (fun k=>?_) (Ev_same (unquote_l0 n (i+1) l (acc++[c]) (by omega) h.tail hb zq85) ?_)
    ·simp only [j1z.l0];rw [if_pos (by omega),if_pos (by omega),h.bt,if_neg hc,if_pos (by omega),e1]
    ·rw [unqL_raw _ hc,List.append_assoc];rfl
  subst hc
  have st:∀ {a b R},Ev (fun k=>j2e.f k s i) (a,b)→Ev (fun x1=>(if b=true then ((j2e.f x1 s ((i+6:Nat):Int)).bind fun bt110=>(if bt110.2=true then ((j3x.f a).bind fun t112=>(if t112=true then ((j4o.f bt110.1).bind fun t113=>(if t113=true then ((j1y.f x1 acc (wrap64 ((wrap64 (65536+(wrap64 ((wrap64 (a - 55296))*1024))))+(wrap64 (bt110.1 - 56320))))).bind fun t114=>(j1z.l0 x1 t114 s (wrap64 (((i+6:Nat):Int)+6)))) else ((j1y.f x1 acc a).bind fun t117=>(j1z.l0 x1 t117 s ((i+6:Nat):Int))))) else ((j1y.f x1 acc a).bind fun t120=>(j1z.l0 x1 t120 s ((i+6:Nat):Int))))) else ((j1y.f x1 acc a).bind fun t123=>(j1z.l0 x1 t123 s ((i+6:Nat):Int))))) else (if 0≤((i+1:Nat):Int) then (if ((i+1:Nat):Int)<(s.size:Int) then ((j4k.f (bt s ((i+1:Nat):Int))).bind fun t106=>(if acc.length<140737488355328 then (j1z.l0 x1 (acc++[t106]) s ((i+2:Nat):Int)) else (none))) else (none)) else (none)))) R→Ev (fun k=>j1z.l0 k acc s i) R:=fun {a b R} hx hy=>by
   refine Ev.step (f:=fun x1=>(j2e.f x1 s i).bind fun bt104=>(if bt104.2=true then ((j2e.f x1 s ((i+6:Nat):Int)).bind fun bt110=>(if bt110.2=true then ((j3x.f bt104.1).bind fun t112=>(if t112=true then ((j4o.f bt110.1).bind fun t113=>(if t113=true then ((j1y.f x1 acc (wrap64 ((wrap64 (65536+(wrap64 ((wrap64 (bt104.1 - 55296))*1024))))+(wrap64 (bt110.1 - 56320))))).bind fun t114=>(j1z.l0 x1 t114 s (wrap64 (((i+6:Nat):Int)+6)))) else ((j1y.f x1 acc bt104.1).bind fun t117=>(j1z.l0 x1 t117 s ((i+6:Nat):Int))))) else ((j1y.f x1 acc bt104.1).bind fun t120=>(j1z.l0 x1 t120 s ((i+6:Nat):Int))))) else ((j1y.f x1 acc bt104.1).bind fun t123=>(j1z.l0 x1 t123 s ((i+6:Nat):Int))))) else (if 0≤((i+1:Nat):Int) then (if ((i+1:Nat):Int)<(s.size:Int) then ((j4k.f (bt s ((i+1:Nat):Int))).bind fun t106=>(if acc.length<140737488355328 then (j1z.l0 x1 (acc++[t106]) s ((i+2:Nat):Int)) else (none))) else (none)) else (none)))) (fun k=>?_) (Ev.bind hx hy);simp only [j1z.l0];rw [if_pos (by omega),if_pos (by omega),if_pos h.bt,e1,e2,e6]
  have hu:=unit_eq hs h;cases hb with
  | raw _ _ h3 _=>exact absurd rfl h3
  | @two b l hE hb =>
   rw [unitL_two (isE_ne hE)] at hu;refine st hu (Ev.congr (f:=fun x1=>j1z.l0 x1 (acc++[unl b]) s ((i+2:Nat):Int)) (fun k=>?_) ?_)
   ·rw [if_neg zq50,if_pos (by omega),if_pos (by have:=h.tail.lt;omega),h.tail.bt,short_eq,Option.bind_some,if_pos (by omega)]
   ·simp only [List.length_cons] at hn hk;refine Ev_same (unquote_l0 n (i+2) l (acc++[unl b]) (by omega) h.tail.tail hb zq85) ?_;rw [unqL_two _ (isE_ne hE),List.append_assoc];rfl
  | @six a b c d v l hx hb =>
   have hr:=hex4_range hx;rw [unitL_six hx] at hu;simp only [List.length_cons] at hn hk;have hF:From s (i+6) l:=h.tail.tail.tail.tail.tail.tail;have hu2:=unit_eq hs hF;have one:∀ {R},Ev (fun x1=>(j1y.f x1 acc v).bind fun t123=>(j1z.l0 x1 t123 s ((i+6:Nat):Int))) R↔Ev (fun x1=>(j1y.f x1 acc v).bind fun t123=>(j1z.l0 x1 t123 s ((i+6:Nat):Int))) R:=Iff.rfl;have hul:=utf_len v
   have fin:Ev (fun x1=>(j1y.f x1 acc v).bind fun t123=>(j1z.l0 x1 t123 s ((i+6:Nat):Int))) (strOfNums (acc++(utf v++unqL l))):=by
    refine Ev.bind (appendUTF8_eq hr.1 (by omega) (by omega)) ?_;have:=unquote_l0 n (i+6) l (acc++utf v) (by omega) hF hb zq85
    rwa [List.append_assoc] at this
   refine st hu ?_;rw [unqL_six hx];refine Ev.congr (fun k=>if_pos rfl) (Ev.bind hu2 ?_);simp only [Option.getD_some];cases hv2:unitL l with
   | none =>
    have e:pairL v l=none:=by unfold pairL;rw [hv2];rfl
    rw [e];exact Ev.congr (fun k=>if_neg (by simp)) fin
   | some m =>
    have hm:=unitL_range hv2;refine Ev.congr (f:=fun x1=>if hiS v=true then (if loS m=true then ((j1y.f x1 acc (wrap64 ((wrap64 (65536+(wrap64 ((wrap64 (v - 55296))*1024))))+(wrap64 (m - 56320))))).bind fun t114=>(j1z.l0 x1 t114 s (wrap64 (((i+6:Nat):Int)+6)))) else ((j1y.f x1 acc v).bind fun t117=>(j1z.l0 x1 t117 s ((i+6:Nat):Int)))) else ((j1y.f x1 acc v).bind fun t120=>(j1z.l0 x1 t120 s ((i+6:Nat):Int)))) (fun k=>?_) ?_
    ·rw [if_pos (by simp),high_eq,Option.bind_some];simp only [low_eq,Option.bind_some,Option.getD_some]
    by_cases h3:hiS v=true
    rotate_left
    ·have e:pairL v l=none:=by unfold pairL;rw [hv2,Option.bind_some,if_neg (by simp [h3])]
     rw [e];exact Ev.congr (fun k=>if_neg h3) fin
    by_cases h4:loS m=true
    rotate_left
    ·have e:pairL v l=none:=by unfold pairL;rw [hv2,Option.bind_some,if_neg (by simp [h4])]
     rw [e];exact Ev.congr (fun k=>by rw [if_pos h3,if_neg h4]) fin
    have e:pairL v l=some m:=by unfold pairL;rw [hv2,Option.bind_some,h3,h4];rfl
    rw [e];have h3':=h3;have h4':=h4;simp only [hiS,decide_eq_true_eq] at h3';simp only [loS,decide_eq_true_eq] at h4';have h6:=unitL_len hv2
    have hC:wrap64 ((wrap64 (65536+(wrap64 ((wrap64 (v - 55296))*1024))))+(wrap64 (m - 56320)))=65536+(v - 55296)*1024+(m - 56320):=by
     rw [w64 (x:=v - 55296) (by omega),w64 (x:=(v - 55296)*1024) (by omega),w64 (x:=65536+(v - 55296)*1024) (by omega),w64 (x:=m - 56320) (by omega),w64 (by omega)]
    have hul2:=utf_len (65536+(v - 55296)*1024+(m - 56320));refine Ev.congr (f:=fun x1=>(j1y.f x1 acc (65536+(v - 55296)*1024+(m - 56320))).bind fun t114=>(j1z.l0 x1 t114 s ((i+6+6:Nat):Int))) (fun k=>?_) (Ev.bind (appendUTF8_eq (by omega) (by omega) (by omega)) ?_)
    ·rw [if_pos h3,if_pos h4,hC,up6 (i:=i+6) (by have:=hF.len;omega) hs]
    ·have:=unquote_l0 n (i+6+6) (l.drop 6) (acc++utf (65536+(v - 55296)*1024+(m - 56320))) (by rw [List.length_drop];omega) (hF.drop 6 h6) (body_drop6 hb hv2) zq85
     rwa [List.append_assoc] at this
theorem unquote_eq {b : List Int} (hq:bytesOf s=34 :: (b++[34])) (hb:Body b):Ev (fun k=>j1z.f k s) (strOfNums (unqL b)):=by
 have hz:s.size=b.length+2:=by
  have:=congrArg List.length hq;rw [bytesOf_length] at this
  simpa using this
 have e0:wrap64 ((s.size:Int) - 1)=((b.length+1:Nat):Int):=by rw [w64 (by omega)];omega
 have hF:From s 1 (b++[34]):=⟨by omega,by rw [hq];rfl⟩
 have hx:bytesOf (s.extract 1 (b.length+1))=b:=by
  have:=hF.extract
  rwa [Nat.add_comm] at this
 refine Ev.congr (f:=fun k=>j1z.l0 k [] (s.extract 1 (b.length+1)) ((0:Nat):Int)) (fun k=>?_) ?_
 ·unfold j1z.f;rw [e0,if_pos (by omega),if_pos (by omega),Int.toNat_natCast];rfl
 ·have hz2:(s.extract 1 (b.length+1)).size≤140737488351232:=by
   rw [← bytesOf_length,hx];omega
  have:=unquote_l0 hz2 b.length 0 b [] (Nat.le_refl _) (by have:=From.start (s.extract 1 (b.length+1));rwa [hx] at this) hb zq85
  simpa using this
end

end Go.Proofs.YthmjfmpgmcgonaaDoor.J
end
section
namespace Go.Proofs.YthmjfmpgmcgonaaDoor.RN
open Go.RowKit Go.Proofs.YthmjfmpgmcgonaaDoor.K Go.Proofs.YthmjfmpgmcgonaaDoorW.PrintWords Go.Proofs.YthmjfmpgmcgonaaDoorW.PrintLast
theorem wrap_up {i : Nat} {n:Nat} (h:i≤n) (hn:n≤140737488351232):wrap64 ((i:Int)+1)=((i+1:Nat):Int):=by
 unfold wrap64;omega
def tk (s : ByteArray) (i:Nat) (c:Int):Bool:=decide (i<s.size∧bt s i=c)
def dg (s : ByteArray) (i:Nat):Bool:=decide (i<s.size∧48≤bt s i∧bt s i≤57)
def dE (s : ByteArray) (i:Nat):Nat:=if i<s.size then (if dg s i=true then dE s (i+1) else i) else i
termination_by s.size - i
theorem dE_dg {s : ByteArray} {i:Nat} (h:dg s i=true):dE s i=dE s (i+1):=by
 have h':=h;simp only [dg,decide_eq_true_eq] at h'
 rw [dE,if_pos h'.1,if_pos h]
theorem dE_no {s : ByteArray} {i:Nat} (h:dg s i=false):dE s i=i:=by
 rw [dE];split
 ·rw [if_neg (by simp [h])]
 ·rfl
theorem dE_le (s : ByteArray) (d:Nat):∀ i,s.size - i=d→i≤s.size→i≤dE s i∧dE s i≤s.size:=by
 induction d with
 | zero =>
  intro i hd hi;rw [dE_no (by simp [dg];omega)];omega
 | succ d ih =>
  intro i hd hi;by_cases h:dg s i=true
  rotate_left
  ·rw [dE_no (by simpa using h)];omega
  rw [dE_dg h];have:=ih (i+1) (by omega) (by omega);omega
theorem dE_bounds {s : ByteArray} {i:Nat} (hi:i≤s.size):i≤dE s i∧dE s i≤s.size:=dE_le s _ i rfl hi
theorem dE_more {s : ByteArray} {i:Nat} (_hi:i≤s.size):decide (dE s i>i)=dg s i:=by
 by_cases h:dg s i=true
 rotate_left
 ·rw [dE_no (by simpa using h)];simp at h
  simp [h]
 have h':=h;simp only [dg,decide_eq_true_eq] at h'
 rw [dE_dg h,h];have:=dE_bounds (s:=s) (i:=i+1) (by omega);simp only [decide_eq_true_eq];omega
theorem take_eq {s : ByteArray} {i:Nat} (hs:s.size≤140737488351232) (hi:i≤s.size) (c:Int) :
 j1n.f s (i:Int) c=some (tk s i c,s,((if tk s i c=true then i+1 else i:Nat):Int)):=by
 unfold j1n.f tk;by_cases h1:i<s.size
 rotate_left
 ·rw [if_neg (by omega)];simp [h1]
 rw [if_pos (by omega),if_pos (by omega)];by_cases h2:bt s i=c
 rotate_left
 ·rw [if_neg h2];simp [h1,h2]
 rw [if_pos h2,wrap_up hi hs];simp [h1,h2]
theorem here_eq {s : ByteArray} {i:Nat}:j2f.f s (i:Int)=some (if i<s.size then bt s i else 0,s,(i:Int)):=by
 unfold j2f.f;by_cases h1:i<s.size
 rotate_left
 ·rw [if_neg (by omega),if_neg h1]
 rw [if_pos (by omega),if_pos (by omega),if_pos h1]
theorem digits_l0 {s : ByteArray} (hs:s.size≤140737488351232) (x3:Nat) (d:Nat):∀ i,s.size - i=d→i≤s.size →
 Ev (fun k=>j1x.l0 k x3 (if i<s.size then bt s i else 0) s i) (decide (((dE s i:Nat):Int)>x3),s,((dE s i:Nat):Int)):=by
 induction d with
 | zero =>
  intro i hd hi;have hn:¬ i<s.size:=by omega
  have hz:dg s i=false:=by simp [dg];omega
  rw [dE_no hz];refine Ev.step (f:=fun _=>some (decide (((i:Nat):Int)>x3),s,((i:Nat):Int))) (fun k=>?_) (Ev.now _);simp only [j1x.l0];rw [if_neg hn,if_neg (by omega)]
 | succ d ih =>
  intro i hd hi;have hlt:i<s.size:=by omega
  by_cases h:dg s i=true
  ·have h':=h;simp only [dg,decide_eq_true_eq] at h'
   rw [dE_dg h];refine Ev.step (f:=fun k=>j1x.l0 k x3 (if i+1<s.size then bt s ((i+1:Nat):Int) else 0) s ((i+1:Nat):Int)) (fun k=>?_) (ih (i+1) (by omega) (by omega));simp only [j1x.l0];rw [if_pos hlt,if_pos h'.2.1,if_pos h'.2.2,wrap_up hi hs,here_eq];rfl
  have hz:dg s i=false:=by simpa using h
  have h':=hz;simp only [dg,decide_eq_false_iff_not] at h'
  rw [dE_no hz];refine Ev.step (f:=fun _=>some (decide (((i:Nat):Int)>x3),s,((i:Nat):Int))) (fun k=>?_) (Ev.now _);simp only [j1x.l0];rw [if_pos hlt];by_cases h48:48≤bt s i
  rotate_left
  ·rw [if_neg h48]
  rw [if_pos h48,if_neg (by omega)]
theorem digits_eq {s : ByteArray} (hs:s.size≤140737488351232) {i:Nat} (hi:i≤s.size) :
 Ev (fun k=>j1x.f k s i) (dg s i,s,((dE s i:Nat):Int)):=by
 have h:=digits_l0 hs i _ i rfl hi;refine Ev.congr (f:=fun k=>j1x.l0 k i (if i<s.size then bt s i else 0) s i) (fun k=>?_) ?_
 ·unfold j1x.f;rw [here_eq];rfl
 ·have e:decide (((dE s i:Nat):Int)>(i:Int))=dg s i:=by
   rw [← dE_more hi,Bool.eq_iff_iff,decide_eq_true_eq,decide_eq_true_eq];omega
  rw [e] at h
  exact h
def numX (s : ByteArray) (i:Nat):Bool × Nat :=
  if (tk s i 101 || tk s i 69)=true then (let j:=if (tk s (i+1) 43 || tk s (i+1) 45)=true then i+2 else i+1;(dg s j,dE s j)) else (true,i)
def numF (s : ByteArray) (i:Nat):Bool × Nat :=
  if tk s i 46=true then (if dg s (i+1)=true then numX s (dE s (i+1)) else (false,i+1)) else numX s i
def numE (s : ByteArray) (i:Nat):Bool × Nat :=
  let j:=if tk s i 45=true then i+1 else i
  if tk s j 48=true then numF s (j+1) else if dg s j=true then numF s (dE s j) else (false,j)

theorem tk_lt {s : ByteArray} {i:Nat} {c:Int} (h:tk s i c=true):i<s.size:=by
 simp only [tk,decide_eq_true_eq] at h
 exact h.1
theorem tk_out {s : ByteArray} {i:Nat} {c:Int} (h:¬ i<s.size):tk s i c=false:=decide_eq_false fun x=>h x.1
theorem dg_out {s : ByteArray} {i:Nat} (h:¬ i<s.size):dg s i=false:=decide_eq_false fun x=>h x.1
theorem take_yes {s : ByteArray} {i:Nat} {c:Int} (hs:s.size≤140737488351232) (h:tk s i c=true):j1n.f s (i:Int) c=some (true,s,((i+1:Nat):Int)):=by
 have:=tk_lt h;rw [take_eq hs (by omega),h];rfl
theorem take_no {s : ByteArray} {i:Nat} {c:Int} (hs:s.size≤140737488351232) (hi:i≤s.size) (h:¬ tk s i c=true):j1n.f s (i:Int) c=some (false,s,(i:Int)):=by
 have h':tk s i c=false:=by simpa using h
 rw [take_eq hs hi,h'];rfl
theorem Ev_same {α : Type} {g:Nat→Option α} {r r':α} (h:Ev g r) (e:r=r'):Ev g r':=e ▸ h
theorem number_j2 {s : ByteArray} (hs:s.size≤140737488351232) {i:Nat} (hi:i+1≤s.size) :
 Ev (fun k=>j1j.j2 k true s ((i+1:Nat):Int)) (let j:=if (tk s (i+1) 43 || tk s (i+1) 45)=true then i+2 else i+1;(dg s j,s,((dE s j:Nat):Int))):=by
 have key:∀ j,j≤s.size→Ev (fun k=>(j1x.f k s (j:Int)).bind fun b=>some (b.1,b.2.1,b.2.2)) (dg s j,s,((dE s j:Nat):Int)):=fun j hj=>Ev.bind (digits_eq hs hj) (Ev.now _)
 by_cases h1:tk s (i+1) 43=true
 ·have hl:=tk_lt h1;refine Ev_same (Ev.step (fun k=>?_) (key (i+2) hl)) (by simp [h1]);simp only [j1j.j2,take_yes hs h1,Option.bind_some,if_true]
 by_cases h2:tk s (i+1) 45=true
 rotate_left
 ·refine Ev_same (Ev.step (fun k=>?_) (key (i+1) hi)) (by simp [h1,h2]);simp only [j1j.j2,take_no hs hi h1,take_no hs hi h2,Option.bind_some,if_true,Bool.false_eq_true,if_false]
 have hl:=tk_lt h2;refine Ev_same (Ev.step (fun k=>?_) (key (i+2) hl)) (by simp [h2]);simp only [j1j.j2,take_no hs hi h1,take_yes hs h2,Option.bind_some,if_true,Bool.false_eq_true,if_false]
theorem number_j1 {s : ByteArray} (hs:s.size≤140737488351232) {i:Nat} (hi:i≤s.size) :
 Ev (fun k=>j1j.j1 k false s (i:Int)) ((numX s i).1,s,(((numX s i).2:Nat):Int)):=by
 by_cases h1:tk s i 101=true
 ·have hl:=tk_lt h1;refine Ev_same (Ev.step (fun k=>?_) (number_j2 hs hl)) (by simp [numX,h1]);simp only [j1j.j1,take_yes hs h1,Option.bind_some,if_true,Bool.false_eq_true,if_false]
 by_cases h2:tk s i 69=true
 ·have hl:=tk_lt h2;refine Ev_same (Ev.step (fun k=>?_) (number_j2 hs hl)) (by simp [numX,h2]);simp only [j1j.j1,take_no hs hi h1,take_yes hs h2,Option.bind_some,Bool.false_eq_true,if_false]
 refine Ev_same (Ev.step (f:=fun k=>j1j.j2 k false s (i:Int)) (fun k=>?_) (Ev.step (f:=fun _=>some (true,s,(i:Int))) (fun k=>?_) (Ev.now _))) (by simp [numX,h1,h2])
 ·simp only [j1j.j1,take_no hs hi h1,take_no hs hi h2,Option.bind_some,Bool.false_eq_true,if_false]
 ·simp only [j1j.j2,Bool.false_eq_true,if_false]
theorem number_j0 {s : ByteArray} (hs:s.size≤140737488351232) {i:Nat} (hi:i≤s.size) :
 Ev (fun k=>j1j.j0 k false s (i:Int)) ((numF s i).1,s,(((numF s i).2:Nat):Int)):=by
 by_cases h1:tk s i 46=true
 rotate_left
 ·refine Ev_same (Ev.step (fun k=>?_) (number_j1 hs hi)) (by simp [numF,h1]);simp only [j1j.j0,take_no hs hi h1,Option.bind_some,Bool.false_eq_true,if_false]
 have hl:=tk_lt h1;have hb:=dE_bounds (s:=s) hl
 have key:Ev (fun k=>(j1x.f k s ((i+1:Nat):Int)).bind fun b=>j1j.j1 k (!b.1) b.2.1 b.2.2) ((numF s i).1,s,(((numF s i).2:Nat):Int)):=by
  refine Ev.bind (digits_eq hs hl) ?_;by_cases h2:dg s (i+1)=true
  ·refine Ev_same (Ev.congr (fun k=>?_) (number_j1 hs hb.2)) (by simp [numF,h1,h2]);simp only [h2,Bool.not_true]
  have h2':dg s (i+1)=false:=by simpa using h2
  refine Ev_same (Ev.step (f:=fun _=>some (false,s,((i+1:Nat):Int))) (fun k=>?_) (Ev.now _)) (by simp [numF,h1,h2]);simp only [j1j.j1,h2',Bool.not_false,if_true,dE_no h2']
 refine Ev.step (fun k=>?_) key;simp only [j1j.j0,take_yes hs h1,Option.bind_some,if_true,Bool.false_eq_true,if_false]
theorem number_eq {s : ByteArray} (hs:s.size≤140737488351232) {i:Nat} (hi:i≤s.size) :
 Ev (fun k=>j1j.f k s (i:Int)) ((numE s i).1,s,(((numE s i).2:Nat):Int)):=by
 have key:∀ j,j≤s.size→Ev (fun k=>(j1n.f s (j:Int) 48).bind fun b=>if b.1=true then j1j.j0 k false b.2.1 b.2.2 else (j1x.f k b.2.1 b.2.2).bind fun c=>j1j.j0 k (!c.1) c.2.1 c.2.2)
  ((if tk s j 48=true then numF s (j+1) else if dg s j=true then numF s (dE s j) else (false,j)).1,s,(((if tk s j 48=true then numF s (j+1) else if dg s j=true then numF s (dE s j) else (false,j)).2:Nat):Int)):=by
  intro j hj;by_cases h1:tk s j 48=true
  ·refine Ev_same (Ev.congr (fun k=>?_) (number_j0 hs (tk_lt h1))) (by simp [h1]);simp only [take_yes hs h1,Option.bind_some,if_true]
  have hb:=dE_bounds (s:=s) hj;refine Ev.congr (f:=fun k=>(j1x.f k s (j:Int)).bind fun c=>j1j.j0 k (!c.1) c.2.1 c.2.2) (fun k=>?_) (Ev.bind (digits_eq hs hj) ?_)
  ·simp only [take_no hs hj h1,Option.bind_some,Bool.false_eq_true,if_false]
  ·by_cases h2:dg s j=true
   ·refine Ev_same (Ev.congr (fun k=>?_) (number_j0 hs hb.2)) (by simp [h1,h2]);simp only [h2,Bool.not_true]
   have h2':dg s j=false:=by simpa using h2
   refine Ev_same (Ev.step (f:=fun _=>some (false,s,(j:Int))) (fun k=>?_) (Ev.now _)) (by simp [h1,h2]);simp only [j1j.j0,h2',Bool.not_false,if_true,dE_no h2']
 by_cases h0:tk s i 45=true
 rotate_left
 ·refine Ev_same (Ev.congr (fun k=>?_) (key i hi)) (by simp [numE,h0]);unfold j1j.f;simp only [take_no hs hi h0,Option.bind_some]
 refine Ev_same (Ev.congr (fun k=>?_) (key (i+1) (tk_lt h0))) (by simp [numE,h0]);unfold j1j.f;simp only [take_yes hs h0,Option.bind_some]
end Go.Proofs.YthmjfmpgmcgonaaDoor.RN
end
section
namespace Go.Proofs.YthmjfmpgmcgonaaDoor.J
def isD (c : Int):Bool:=decide (48≤c∧c≤57)
def skD : List Int→List Int
  | []=>[]
  | c :: r=>if isD c=true then skD r else c :: r
theorem skD_len : ∀ l,(skD l).length≤l.length
 | []=>Nat.le_refl _
 | c :: r=>by
  unfold skD;split
  ·have:=skD_len r
   simp;omega
  ·exact Nat.le_refl _
def digL : List Int→Option (List Int)
  | []=>none
  | c :: r=>if isD c=true then some (skD r) else none
def expL : List Int→Option (List Int)
  | []=>some []
  | c :: r=>if c=101∨c=69 then (match r with
    | []=>none
    | d :: t=>if d=43∨d=45 then digL t else digL (d :: t)) else some (c :: r)
def fracL : List Int→Option (List Int)
  | []=>some []
  | c :: r=>if c=46 then (digL r).bind expL else expL (c :: r)
def intL : List Int→Option (List Int)
  | []=>none
  | c :: r=>if c=48 then fracL r else if isD c=true then fracL (skD r) else none
def numL : List Int→Option (List Int)
  | []=>none
  | c :: r=>if c=45 then intL r else intL (c :: r)
theorem digL_len {l r : List Int} (h:digL l=some r):r.length<l.length:=by
 unfold digL at h
 split at h
 ·cases h
 ·split at h
  ·cases h;have:=skD_len (by assumption)
   simp;omega
  ·cases h
theorem expL_len {l r : List Int} (h:expL l=some r):r.length≤l.length:=by
 unfold expL at h
 split at h
 ·cases h;exact Nat.le_refl _
 ·split at h
  ·split at h
   ·cases h
   ·split at h
    ·have:=digL_len h
     simp;omega
    ·have:=digL_len h;simp at this ⊢; omega
  ·cases h;exact Nat.le_refl _
theorem fracL_len {l r : List Int} (h:fracL l=some r):r.length≤l.length:=by
 unfold fracL at h
 split at h
 ·cases h;exact Nat.le_refl _
 ·split at h
  ·obtain ⟨t,h1,h2⟩:=Option.bind_eq_some_iff.mp h;have:=digL_len h1;have:=expL_len h2
   simp;omega
  ·exact expL_len h
theorem intL_len {l r : List Int} (h:intL l=some r):r.length<l.length:=by
 unfold intL at h
 split at h
 ·cases h
 ·rename_i c t;split at h
  ·have:=fracL_len h
   simp;omega
  ·split at h
   ·have:=fracL_len h;have:=skD_len t
    simp;omega
   ·cases h
theorem numL_len {l r : List Int} (h:numL l=some r):r.length<l.length:=by
 unfold numL at h
 split at h
 ·cases h
 ·split at h
  ·have:=intL_len h
   simp;omega
  ·exact intL_len h
def wordL (w l : List Int):Option (List Int):=if l.take w.length=w then some (l.drop w.length) else none
theorem wordL_len {w l r:List Int} (hw:w≠[]) (h:wordL w l=some r):r.length<l.length:=by
 unfold wordL at h
 split at h
 ·rename_i e;cases h;have h1:0<w.length:=List.length_pos_iff.mpr hw;have h2:=congrArg List.length e;simp at h2 ⊢;omega
 ·cases h
def nullW : List Int:=[110,117,108,108]
def falseW : List Int:=[102,97,108,115,101]
def trueW : List Int:=[116,114,117,101]

mutual
def valL (l : List Int):Option (List Int) :=
  match l with
  | []=>none
  | c :: r=>if c=123 then objL r else if c=91 then arrL r else if c=34 then strL r else if c=45∨isD c=true then numL (c :: r)
    else if c=110 then wordL nullW (c :: r) else if c=102 then wordL falseW (c :: r) else if c=116 then wordL trueW (c :: r) else none
termination_by 3 * l.length
decreasing_by all_goals (simp; omega)
def arrL (l : List Int):Option (List Int) :=
  match _h:skB l with
  | []=>none
  | c :: r=>if c=93 then some r else elsL (c :: r)
termination_by 3 * l.length + 2
decreasing_by
  have:=j3r l
  rw [_h] at this
  simp at this ⊢
  omega
def elsL (l : List Int):Option (List Int) :=
  match valL l with
  | none=>none
  | some t=>if t.length<l.length then (match _h:skB t with
    | []=>none
    | c :: u=>if c=93 then some u else if c=44 then elsL (skB u) else none) else none
termination_by 3 * l.length + 1
decreasing_by
  · omega
  · have h1:=j3r t
    rw [_h] at h1
    have h2:=j3r u
    simp at h1
    omega
def objL (l : List Int):Option (List Int) :=
  match _h:skB l with
  | []=>none
  | c :: r=>if c=125 then some r else memL (c :: r)
termination_by 3 * l.length + 2
decreasing_by
  have:=j3r l
  rw [_h] at this
  simp at this ⊢
  omega
def memL (l : List Int):Option (List Int) :=
  match l with
  | []=>none
  | c :: r=>if c=34 then (match _h1:strL r with
    | none=>none
    | some t=>(match _h2:skB t with
      | []=>none
      | d :: u=>if d=58 then (match valL (skB u) with
        | none=>none
        | some v=>if v.length≤r.length then (match _h3:skB v with
          | []=>none
          | e :: x=>if e=125 then some x else if e=44 then memL (skB x) else none) else none) else none)) else none
termination_by 3 * l.length + 1
decreasing_by
  · have h0:=strL_len _ _ _ (Nat.le_refl _) _h1
    have h1:=j3r t
    rw [_h2] at h1
    have h2:=j3r u
    simp at h1 ⊢
    omega
  · have h1:=j3r v
    rw [_h3] at h1
    have h2:=j3r x
    simp only [List.length_cons] at *
    omega
end
theorem arrL_of {l r : List Int} (h:arrL l=some r):r.length<l.length∨∃ b,b.length≤l.length∧elsL b=some r:=by
 rw [arrL] at h
 have:=j3r l;split at h
 ·cases h
 ·rename_i c t e;rw [e] at this;split at h
  ·cases h;simp at this;omega
  ·exact .inr ⟨_,this,h⟩
theorem objL_of {l r : List Int} (h:objL l=some r):r.length<l.length∨∃ b,b.length≤l.length∧memL b=some r:=by
 rw [objL] at h
 have:=j3r l;split at h
 ·cases h
 ·rename_i c t e;rw [e] at this;split at h
  ·cases h;simp at this;omega
  ·exact .inr ⟨_,this,h⟩
theorem all_len : ∀ n:Nat,(∀ l r:List Int,l.length≤n→valL l=some r→r.length<l.length)∧(∀ l r:List Int,l.length≤n→elsL l=some r→r.length<l.length)∧(∀ l r:List Int,l.length≤n→memL l=some r→r.length<l.length):=by
 intro n
 induction n with
 | zero =>
  refine ⟨fun l r hl h=>?_,fun l r hl h=>?_,fun l r hl h=>?_⟩
  ·obtain rfl:=List.length_eq_zero_iff.mp (Nat.le_zero.mp hl);rw [valL] at h
   cases h
  ·obtain rfl:=List.length_eq_zero_iff.mp (Nat.le_zero.mp hl);rw [elsL,valL] at h
   cases h
  ·obtain rfl:=List.length_eq_zero_iff.mp (Nat.le_zero.mp hl);rw [memL] at h
   cases h
 | succ n ih =>
  obtain ⟨ih1,ih2,ih3⟩:=ih
  have hv:∀ l r:List Int,l.length≤n+1→valL l=some r→r.length<l.length:=by
   intro l r hl h;rw [valL.eq_def] at h
   split at h
   ·cases h
   ·rename_i c t;simp only [List.length_cons] at hl ⊢;split at h
    ·rcases objL_of h with h1|⟨b,h1,h2⟩
     ·omega
     ·have:=ih3 b r (by omega) h2;omega
    split at h
    ·rcases arrL_of h with h1|⟨b,h1,h2⟩
     ·omega
     ·have:=ih2 b r (by omega) h2;omega
    split at h
    ·have:=strL_len _ _ _ (Nat.le_refl _) h;omega
    split at h
    ·exact numL_len h
    split at h
    ·exact wordL_len zq50 h
    split at h
    ·exact wordL_len zq50 h
    split at h
    ·exact wordL_len zq50 h
    ·cases h
  refine ⟨hv,fun l r hl h=>?_,fun l r hl h=>?_⟩
  ·rw [elsL] at h
   split at h
   ·cases h
   ·rename_i t e1;split at h
    ·rename_i e2;have h1:=j3r t;split at h
     ·cases h
     ·rename_i c u e3;rw [e3] at h1;simp only [List.length_cons] at h1;split at h
      ·cases h;omega
      split at h
      ·have h2:=j3r u;have:=ih2 (skB u) r (by omega) h;omega
      ·cases h
    ·cases h
  ·rw [memL.eq_def] at h
   split at h
   ·cases h
   ·rename_i c r0;simp only [List.length_cons] at hl h ⊢;split at h
    ·split at h
     ·cases h
     ·rename_i t e1;have k1:=strL_len _ _ _ (Nat.le_refl _) e1;split at h
      ·cases h
      ·rename_i d u e2;have k2:=j3r t;rw [e2] at k2;simp only [List.length_cons] at k2;split at h
       ·split at h
        ·cases h
        ·rename_i v e3;split at h
         ·rename_i e4;have k3:=j3r v;split at h
          ·cases h
          ·rename_i e x e5;rw [e5] at k3;simp only [List.length_cons] at k3;split at h
           ·cases h;omega
           split at h
           ·have k4:=j3r x;have:=ih3 (skB x) r (by omega) h;omega
           ·cases h
         ·cases h
       ·cases h
    ·cases h
theorem valL_len {l r : List Int} (h:valL l=some r):r.length<l.length:=(all_len l.length).1 l r (Nat.le_refl _) h
theorem memL_bad {l : List Int} (e:strL l=none):memL (34 :: l)=none:=by
 rw [memL.eq_def];simp only [if_true];split
 ·rfl
 ·rename_i h1;rw [h1] at e;cases e
end Go.Proofs.YthmjfmpgmcgonaaDoor.J
end
section
namespace Go.Proofs.YthmjfmpgmcgonaaDoor.J
open Go.RowKit Go.Proofs.YthmjfmpgmcgonaaDoor.K Go.Proofs.YthmjfmpgmcgonaaDoorW.PrintWords Go.Proofs.YthmjfmpgmcgonaaDoorW.PrintLast

def Suf (s : ByteArray) (l:List Int):Prop:=From s (s.size - l.length) l
def P (s : ByteArray) (l:List Int):Int:=((s.size - l.length:Nat):Int)
theorem Suf.le {s : ByteArray} {l:List Int} (h:Suf s l):l.length≤s.size:=by
 have:=From.len h;omega
theorem Suf.tail {s : ByteArray} {a:Int} {l:List Int} (h:Suf s (a :: l)):Suf s l:=by
 have h1:=h.le;have:=From.tail h;simp only [List.length_cons] at this h1;unfold Suf
 rwa [show s.size - l.length=s.size - (l.length+1)+1 by omega]
theorem Suf.app {s : ByteArray} {a l:List Int} (h:Suf s (a++l)):Suf s l:=by
 induction a with
 | nil=>exact h
 | cons x a ih=>exact ih (Suf.tail h)
theorem Suf.of {s : ByteArray} {i:Nat} {l:List Int} (h:From s i l):Suf s l∧i=s.size - l.length:=by
 have:=h.len;have e:i=s.size - l.length:=by omega
 refine ⟨?_,e⟩;unfold Suf;rw [← e];exact h
theorem Suf.start (s : ByteArray):Suf s (bytesOf s):=by
 unfold Suf;rw [bytesOf_length,Nat.sub_self];exact From.start s
theorem P_cons {s : ByteArray} {a:Int} {l:List Int} (h:Suf s (a :: l)):P s l=P s (a :: l)+1:=by
 have:=h.le;unfold P;simp only [List.length_cons] at this ⊢;omega
theorem P_le (s : ByteArray) (l:List Int):0≤P s l∧P s l≤s.size:=by unfold P;omega
theorem P_lt {s : ByteArray} {a:Int} {l:List Int} (h:Suf s (a :: l)):P s (a :: l)<s.size:=by
 have:=h.le;unfold P;simp only [List.length_cons] at this ⊢;omega
theorem P_nil (s : ByteArray):P s []=s.size:=by unfold P;simp
theorem Suf.bt {s : ByteArray} {a:Int} {l:List Int} (h:Suf s (a :: l)):bt s (P s (a :: l))=a:=From.bt h
theorem Suf.skB {s : ByteArray} {l:List Int} (h:Suf s l):Suf s (skB l):=by
 obtain ⟨b,_,e⟩:=skB_ex l;rw [e] at h
 exact h.app
theorem Suf.str {s : ByteArray} {l r:List Int} (h:Suf s l) (k:strL l=some r):Suf s r:=by
 obtain ⟨b,_,e⟩:=strL_iff.mp k;rw [e] at h
 exact Suf.tail h.app
theorem skD_ex : ∀ l,∃ b,l=b++skD l
 | []=>⟨[],rfl⟩
 | c :: r=>by
  unfold skD;split
  ·obtain ⟨b,e⟩:=skD_ex r;exact ⟨c :: b,by rw [List.cons_append,← e]⟩
  ·exact ⟨[],rfl⟩
theorem Suf.skD {s : ByteArray} {l:List Int} (h:Suf s l):Suf s (skD l):=by
 obtain ⟨b,e⟩:=skD_ex l;rw [e] at h
 exact h.app
theorem Suf.drop {s : ByteArray} {l:List Int} (h:Suf s l) (n:Nat):Suf s (l.drop n):=by
 rw [← List.take_append_drop n l] at h
 exact h.app
section
variable {s : ByteArray} (hs:s.size≤140737488351232)
include hs
theorem up_P {a : Int} {l:List Int} (h:Suf s (a :: l)):wrap64 (P s (a :: l)+1)=P s l:=by
 have:=P_le s (a :: l);rw [P_cons h,w64 (by omega)]
theorem j4a {a : Int} {l:List Int} (h:Suf s (a :: l)) (c:Int):j1n.f s (P s (a :: l)) c=if a=c then some (true,s,P s l) else some (false,s,P s (a :: l)):=by
 have h1:=P_lt h;have h2:=P_le s (a :: l);unfold j1n.f;rw [if_pos (by omega),if_pos (by omega),h.bt,up_P hs h]
omit hs in
theorem take_nil (c : Int):j1n.f s (P s []) c=some (false,s,P s []):=by
 unfold j1n.f;rw [P_nil,if_neg (by omega)]
omit hs in
theorem here_P {a : Int} {l:List Int} (h:Suf s (a :: l)):j2f.f s (P s (a :: l))=some (a,s,P s (a :: l)):=here_cons h
omit hs in
theorem here_P0 : j2f.f s (P s [])=some (0,s,P s []):=by
 unfold j2f.f;rw [P_nil,if_neg (by omega)]
theorem j4h : ∀ l,Suf s l→Ev (fun k=>j1l.f k s (P s l)) (s,P s (skB l))
 | [],_=>by
  refine Ev.step (f:=fun _=>some (s,P s [])) (fun k=>?_) (Ev.now _);unfold j1l.f;simp only [j1l.l0];rw [P_nil,if_neg (by omega)]
 | c :: l,h=>by
  have h1:=P_lt h;have h2:=P_le s (c :: l)
  have hb:j4b.f c=some (isB c):=by
   unfold j4b.f isB;by_cases e1:c=32
   ·rw [if_pos e1,e1];rfl
   by_cases e2:c=9
   ·rw [if_neg e1,if_pos e2,e2];rfl
   by_cases e3:c=10
   ·rw [if_neg e1,if_neg e2,if_pos e3,e3];rfl
   rw [if_neg e1,if_neg e2,if_neg e3]
   congr 1
   rw [Bool.eq_iff_iff];simp [e1,e2,e3]
  unfold j1l.f;by_cases e:isB c=true
  ·refine Ev.step (fun k=>?_) (Ev_same (j4h l h.tail) (by rw [skB,if_pos e]));simp only [j1l.l0];rw [if_pos (by omega),if_pos (by omega),h.bt,hb,Option.bind_some,if_pos e,up_P hs h];rfl
  refine Ev.step (f:=fun _=>some (s,P s (c :: l))) (fun k=>?_) (Ev_same (Ev.now _) (by rw [skB,if_neg e]));simp only [j1l.l0];rw [if_pos (by omega),if_pos (by omega),h.bt,hb,Option.bind_some,if_neg e]
theorem quoted_P {a : Int} {l:List Int} (h:Suf s (a :: l)) :
 (∀ r,strL l=some r→Ev (fun k=>j1v.f k s (P s (a :: l))) (true,s,P s r))∧(strL l=none→∃ p,Ev (fun k=>j1v.f k s (P s (a :: l))) (false,s,p)):=quoted_eq hs h
theorem word_eq {l : List Int} (h:Suf s l) (w:ByteArray) (hw:w.size≤10):j3a.f s (P s l) w=match wordL (bytesOf w) l with
 | some r=>some (true,s,P s r)
 | none=>some (false,s,P s l):=by
 have h1:=h.le;have h2:=P_le s l;have hl:(bytesOf w).length=w.size:=bytesOf_length w
 have e0:wrap64 ((s.size:Int) - P s l)=l.length:=by
  unfold P at h2 ⊢;rw [w64 (by omega)];omega
 have e1:wrap64 (P s l+(w.size:Int))=((s.size - l.length+w.size:Nat):Int):=by
  unfold P at h2 ⊢;rw [w64 (by omega)];omega
 unfold j3a.f wordL;rw [e0,e1,hl];by_cases e2:(l.length:Int)<(w.size:Int)
 ·rw [if_pos e2,if_neg];intro e;have:=congrArg List.length e;rw [hl,List.length_take] at this;omega
 rw [if_neg e2,if_pos (by omega),if_pos (by unfold P;omega),if_pos (by omega)]
 have e3:bytesOf (s.extract (P s l).toNat ((s.size - l.length+w.size:Nat):Int).toNat)=l.take w.size:=by
  have:=h.2;unfold P;rw [Int.toNat_natCast,Int.toNat_natCast,bytesOf_extract,List.drop_take,this,Nat.add_sub_cancel_left]
 have e4:((s.extract (P s l).toNat ((s.size - l.length+w.size:Nat):Int).toNat).toList=w.toList)=(l.take w.size=bytesOf w):=by
  apply propext
  constructor
  ·intro e;rw [← e3,toList_inj e]
  ·intro e;rw [← e3] at e;rw [bytesOf_inj e]
 have e5:((s.size - l.length+w.size:Nat):Int)=P s (l.drop w.size):=by
  unfold P;rw [List.length_drop];omega
 by_cases e6:l.take w.size=bytesOf w
 rotate_left
 ·rw [if_neg (e4 ▸ e6),if_neg e6]
 rw [if_pos (e4 ▸ e6),if_pos e6,e5]
omit hs in
theorem j4q {a : Int} {l:List Int} {i:Nat} (h:From s i (a :: l)) (c:Int):RN.tk s i c=decide (a=c):=by
 unfold RN.tk;have:=h.lt;rw [h.bt];simp [this]
omit hs in
theorem tk_nil {i : Nat} (h:From s i []) (c:Int):RN.tk s i c=false:=RN.tk_out (by have:=h.nil;omega)
omit hs in
theorem dg_cons {a : Int} {l:List Int} {i:Nat} (h:From s i (a :: l)):RN.dg s i=isD a:=by
 unfold RN.dg isD;have:=h.lt;rw [h.bt];simp [this]
omit hs in
theorem dg_nil {i : Nat} (h:From s i []):RN.dg s i=false:=RN.dg_out (by have:=h.nil;omega)
omit hs in
theorem dE_eq : ∀ (l:List Int) (i:Nat),From s i l→From s (RN.dE s i) (skD l)
 | [],i,h=>by rw [RN.dE_no (dg_nil h)];exact h
 | c :: l,i,h=>by
  by_cases e:isD c=true
  rotate_left
  ·rw [RN.dE_no (by rw [dg_cons h];simpa using e),skD,if_neg e];exact h
  rw [RN.dE_dg (by rw [dg_cons h,e]),skD,if_pos e];exact dE_eq l (i+1) h.tail
omit hs in
theorem digs {l : List Int} {i:Nat} (h:From s i l):(∀ r,digL l=some r→RN.dg s i=true∧From s (RN.dE s i) r)∧(digL l=none→RN.dg s i=false):=by
 match l,h with
 | [],h=>exact ⟨fun r hr=>(by simp [digL] at hr),fun _=>dg_nil h⟩
 | c :: l,h =>
  by_cases e:isD c=true
  rotate_left
  ·exact ⟨fun r hr=>(by rw [digL,if_neg e] at hr;cases hr),fun _=>(by rw [dg_cons h];simpa using e)⟩
  refine ⟨fun r hr=>?_,fun hr=>(by rw [digL,if_pos e] at hr;cases hr)⟩;rw [digL,if_pos e] at hr;cases hr;have:=dE_eq _ _ h;rw [skD,if_pos e] at this;exact ⟨by rw [dg_cons h,e],this⟩
omit hs in
theorem expL_other {c : Int} {l:List Int} (e:¬ (c=101∨c=69)):expL (c :: l)=some (c :: l):=by
 unfold expL;exact if_neg e
omit hs in
theorem numX_eq {l : List Int} {i:Nat} (h:From s i l):(∀ r,expL l=some r→(RN.numX s i).1=true∧From s (RN.numX s i).2 r)∧(expL l=none→(RN.numX s i).1=false):=by
 match l,h with
 | [],h =>
  have e:RN.numX s i=(true,i):=by unfold RN.numX;rw [tk_nil h,tk_nil h];rfl
  rw [e];refine ⟨fun r hr=>?_,fun hr=>(by simp [expL] at hr)⟩;simp only [expL,Option.some.injEq] at hr;subst hr;exact ⟨rfl,h⟩
 | c :: l,h =>
  by_cases e:c=101∨c=69
  rotate_left
  ·have e1:(RN.tk s i 101 || RN.tk s i 69)=false:=by
    rw [j4q h,j4q h]
    simpa using e
   unfold RN.numX;rw [if_neg (by rw [e1];decide)];refine ⟨fun r hr=>?_,fun hr=>(by rw [expL_other e] at hr;cases hr)⟩;rw [expL_other e] at hr;cases hr;exact ⟨rfl,h⟩
  have e1:(RN.tk s i 101 || RN.tk s i 69)=true:=by
   rw [j4q h,j4q h]
   simpa using e
  unfold RN.numX;rw [if_pos e1];have h1:=h.tail
  match l,h1 with
  | [],h1 =>
   have e2:(RN.tk s (i+1) 43 || RN.tk s (i+1) 45)=false:=by rw [tk_nil h1,tk_nil h1];rfl
   refine ⟨fun r hr=>(by rw [expL,if_pos e] at hr;cases hr),fun _=>?_⟩;simp only [e2,Bool.false_eq_true,if_false];exact dg_nil h1
  | d :: t,h1 =>
   by_cases e2:d=43∨d=45
   rotate_left
   ·have e3:(RN.tk s (i+1) 43 || RN.tk s (i+1) 45)=false:=by
     rw [j4q h1,j4q h1]
     simpa using e2
    have hd:=digs h1;simp only [e3,Bool.false_eq_true,if_false];refine ⟨fun r hr=>?_,fun hr=>?_⟩
    ·simp only [expL,if_pos e,if_neg e2] at hr;exact hd.1 r hr
    ·simp only [expL,if_pos e,if_neg e2] at hr;exact hd.2 hr
   have e3:(RN.tk s (i+1) 43 || RN.tk s (i+1) 45)=true:=by rw [j4q h1,j4q h1];simpa using e2
   have hd:=digs h1.tail;simp only [e3,if_true];refine ⟨fun r hr=>?_,fun hr=>?_⟩
   ·rw [expL,if_pos e] at hr;simp only [if_pos e2] at hr;exact hd.1 r hr
   ·rw [expL,if_pos e] at hr;simp only [if_pos e2] at hr;exact hd.2 hr
omit hs in
theorem numF_eq {l : List Int} {i:Nat} (h:From s i l):(∀ r,fracL l=some r→(RN.numF s i).1=true∧From s (RN.numF s i).2 r)∧(fracL l=none→(RN.numF s i).1=false):=by
 match l,h with
 | [],h =>
  have e:RN.numF s i=RN.numX s i:=by unfold RN.numF;rw [tk_nil h];rfl
  rw [e];exact numX_eq h
 | c :: l,h =>
  by_cases e:c=46
  rotate_left
  ·have e1:RN.tk s i 46=false:=by rw [j4q h];simpa using e
   have e3:RN.numF s i=RN.numX s i:=by unfold RN.numF;rw [e1];rfl
   rw [e3];have h3:=numX_eq h;refine ⟨fun r hr=>?_,fun hr=>?_⟩
   ·rw [fracL,if_neg e] at hr;exact h3.1 r hr
   ·rw [fracL,if_neg e] at hr;exact h3.2 hr
  have hd:=digs h.tail;have e1:RN.tk s i 46=true:=by rw [j4q h];simpa using e
  unfold RN.numF;rw [if_pos e1];cases e2:digL l with
  | none =>
   rw [if_neg (by rw [hd.2 e2];decide)];exact ⟨fun r hr=>(by rw [fracL,if_pos e,e2] at hr;cases hr),fun _=>rfl⟩
  | some t =>
   have h2:=hd.1 t e2;rw [if_pos h2.1];have h3:=numX_eq h2.2;refine ⟨fun r hr=>?_,fun hr=>?_⟩
   ·rw [fracL,if_pos e,e2] at hr;exact h3.1 r hr
   ·rw [fracL,if_pos e,e2] at hr;exact h3.2 hr
omit hs in
theorem intE_eq {l : List Int} {i:Nat} (h:From s i l) :
 (∀ r,intL l=some r→(if RN.tk s i 48=true then RN.numF s (i+1) else if RN.dg s i=true then RN.numF s (RN.dE s i) else (false,i)).1=true∧From s (if RN.tk s i 48=true then RN.numF s (i+1) else if RN.dg s i=true then RN.numF s (RN.dE s i) else (false,i)).2 r) ∧
 (intL l=none→(if RN.tk s i 48=true then RN.numF s (i+1) else if RN.dg s i=true then RN.numF s (RN.dE s i) else (false,i)).1=false):=by
 match l,h with
 | [],h =>
  rw [if_neg (by rw [tk_nil h];decide),if_neg (by rw [dg_nil h];decide)];exact ⟨fun r hr=>(by simp [intL] at hr),fun _=>rfl⟩
 | c :: l,h =>
  by_cases e:c=48
  ·rw [if_pos (by rw [j4q h];simpa using e),intL,if_pos e];exact numF_eq h.tail
  rw [if_neg (by rw [j4q h];simpa using e),intL,if_neg e];by_cases e2:isD c=true
  rotate_left
  ·have e4:¬ RN.dg s i=true:=by rw [dg_cons h];exact e2
   simp only [if_neg e4,if_neg e2];exact ⟨fun r hr=>(by cases hr),fun _=>trivial⟩
  have h2:=dE_eq _ _ h;rw [skD,if_pos e2] at h2;have e4:RN.dg s i=true:=by rw [dg_cons h];exact e2
  simp only [if_pos e4,if_pos e2];exact numF_eq h2
omit hs in
theorem numE_eq {l : List Int} {i:Nat} (h:From s i l):(∀ r,numL l=some r→(RN.numE s i).1=true∧From s (RN.numE s i).2 r)∧(numL l=none→(RN.numE s i).1=false):=by
 match l,h with
 | [],h =>
  have hd:=intE_eq h
  have e:RN.numE s i=(if RN.tk s i 48=true then RN.numF s (i+1) else if RN.dg s i=true then RN.numF s (RN.dE s i) else (false,i)):=by
   unfold RN.numE;have e0:¬ RN.tk s i 45=true:=by rw [tk_nil h];decide
   simp only [if_neg e0]
  rw [e];exact ⟨fun r hr=>(by simp [numL] at hr),fun _=>hd.2 rfl⟩
 | c :: l,h =>
  by_cases e:c=45
  rotate_left
  ·have e1:RN.numE s i=(if RN.tk s i 48=true then RN.numF s (i+1) else if RN.dg s i=true then RN.numF s (RN.dE s i) else (false,i)):=by
    unfold RN.numE;have e0:¬ RN.tk s i 45=true:=by rw [j4q h];simpa using e
    simp only [if_neg e0]
   rw [e1,numL,if_neg e];exact intE_eq h
  have e1:RN.numE s i=(if RN.tk s (i+1) 48=true then RN.numF s (i+1+1) else if RN.dg s (i+1)=true then RN.numF s (RN.dE s (i+1)) else (false,i+1)):=by
   unfold RN.numE;have e0:RN.tk s i 45=true:=by rw [j4q h];simpa using e
   simp only [if_pos e0]
  rw [e1,numL,if_pos e];exact intE_eq h.tail
theorem number_P {l : List Int} (h:Suf s l):(∀ r,numL l=some r→Ev (fun k=>j1j.f k s (P s l)) (true,s,P s r)∧Suf s r)∧(numL l=none→∃ p,Ev (fun k=>j1j.f k s (P s l)) (false,s,p)):=by
 have hn:=RN.number_eq hs (i:=s.size - l.length) (by omega);have he:=numE_eq h;refine ⟨fun r hr=>?_,fun hr=>?_⟩
 ·obtain ⟨h1,h2⟩:=he.1 r hr;rw [h1] at hn;obtain ⟨h3,h4⟩:=Suf.of h2;rw [h4] at hn;exact ⟨hn,h3⟩
 ·rw [he.2 hr] at hn;exact ⟨_,hn⟩
end
end Go.Proofs.YthmjfmpgmcgonaaDoor.J
end
section
namespace Go.Proofs.YthmjfmpgmcgonaaDoor.J
open Go.RowKit Go.Proofs.YthmjfmpgmcgonaaDoor.K Go.Proofs.YthmjfmpgmcgonaaDoorW.PrintWords Go.Proofs.YthmjfmpgmcgonaaDoorW.PrintLast
set_option linter.unusedVariables false
set_option linter.unusedSimpArgs false
set_option linter.unusedSectionVars false

def Bl (B : List Int):Prop:=∀ a ∈ B,isB a=true
theorem Bl.tail {c : Int} {B:List Int} (h:Bl (c :: B)):Bl B:=fun a ha=>h a (List.mem_cons_of_mem _ ha)
theorem Bl.nil : Bl []:=fun _ h=>by simp at h
theorem Bl.app {A B : List Int} (h:Bl A) (h':Bl B):Bl (A++B):=fun a ha=>(List.mem_append.mp ha).elim (h a) (h' a)
theorem Bl.sk {B : List Int} (h:Bl B) (l:List Int):skB (B++l)=skB l:=skB_app B l h
theorem j4c (l : List Int):∃ B,Bl B∧l=B++skB l:=skB_ex l
def NC (c : Int):Prop:=(48≤c∧c≤57)∨c=45∨c=43∨c=46∨c=101∨c=69
def ND (x : List Int):Prop:=∀ c r,x=c :: r→isD c=false
theorem isD_NC {c : Int} (h:isD c=true):NC c:=by
 simp only [isD,decide_eq_true_eq] at h
 exact .inl h
theorem skD_split : ∀ l:List Int,∃ d,l=d++skD l∧(∀ c ∈ d,isD c=true)∧ND (skD l)
 | []=>⟨[],rfl,fun _ h=>(by simp at h),fun c r h=>(by simp [skD] at h)⟩
 | c :: t=>by
  rw [skD];by_cases h:isD c=true
  rotate_left
  ·rw [if_neg h];refine ⟨[],rfl,fun _ h=>(by simp at h),fun a r e=>?_⟩;cases e
   simpa using h
  rw [if_pos h];obtain ⟨d,h1,h2,h3⟩:=skD_split t;refine ⟨c :: d,by rw [List.cons_append,← h1],fun a ha=>?_,h3⟩;rcases List.mem_cons.mp ha with rfl|ha
  ·exact h
  ·exact h2 a ha
theorem skD_app : ∀ (d x:List Int),(∀ c ∈ d,isD c=true)→ND x→skD (d++x)=x
 | [],[],_,_=>rfl
 | [],c :: x,_,h=>by
  rw [List.nil_append,skD,if_neg (by simp [h c x rfl])]
 | c :: d,x,h,hx=>by
  rw [List.cons_append,skD,if_pos (h c (by simp))];exact skD_app d x (fun a ha=>h a (List.mem_cons_of_mem _ ha)) hx
theorem ND_part {e r : List Int} (h:ND (e++r)):ND e:=fun c t he=>h c (t++r) (by rw [he];rfl)
def Cut (F : List Int→Option (List Int)) (l r:List Int):Prop:=∃ v,l=v++r∧F v=some []∧∀ c ∈ v,NC c
theorem digL_cut {l r : List Int} (h:digL l=some r):∃ d,l=d++r∧(∀ c ∈ d,NC c)∧ND r∧∀ x,ND x→digL (d++x)=some x:=by
 unfold digL at h
 split at h
 ·cases h
 ·rename_i c t;split at h
  ·rename_i hc;cases h;obtain ⟨d,h1,h2,h3⟩:=skD_split t;refine ⟨c :: d,by rw [List.cons_append,← h1],fun a ha=>?_,h3,fun x hx=>?_⟩
   ·rcases List.mem_cons.mp ha with rfl|ha
    ·exact isD_NC hc
    ·exact isD_NC (h2 a ha)
   ·rw [List.cons_append,digL,if_pos hc,skD_app d x h2 hx]
  ·cases h
theorem ND_nil : ND []:=fun c r h=>by cases h
theorem expL_cut {l r : List Int} (h:expL l=some r):Cut expL l r:=by
 unfold expL at h
 split at h
 ·cases h;exact ⟨[],rfl,rfl,fun _ h=>by simp at h⟩
 ·rename_i c t;split at h
  ·rename_i hc;have hN:NC c:=by unfold NC;omega
   split at h
   ·cases h
   ·rename_i d t;split at h
    ·rename_i hd;obtain ⟨v,h1,h2,h3,h4⟩:=digL_cut h;refine ⟨c :: d :: v,by rw [h1];rfl,?_,fun a ha=>?_⟩
     ·have:=h4 [] ND_nil;rw [List.append_nil] at this;simp only [expL,if_pos hc,if_pos hd,this]
     ·rcases List.mem_cons.mp ha with rfl|ha
      ·exact hN
      rcases List.mem_cons.mp ha with rfl|ha
      ·unfold NC;omega
      ·exact h2 a ha
    ·rename_i hd;obtain ⟨v,h1,h2,h3,h4⟩:=digL_cut h;have h5:=h4 [] ND_nil;rw [List.append_nil] at h5;cases v with
     | nil=>simp [digL] at h5
     | cons d' v =>
      obtain ⟨rfl,rfl⟩:=List.cons.inj h1;refine ⟨c :: d :: v,rfl,by simp only [expL,if_pos hc,if_neg hd,h5],fun a ha=>?_⟩;rcases List.mem_cons.mp ha with rfl|ha
      ·exact hN
      ·exact h2 a ha
  ·cases h;exact ⟨[],rfl,rfl,fun _ h=>by simp at h⟩
theorem fracL_cut {l r : List Int} (h:fracL l=some r):Cut fracL l r:=by
 unfold fracL at h
 split at h
 ·cases h;exact ⟨[],rfl,rfl,fun _ h=>by simp at h⟩
 ·rename_i c t;split at h
  ·rename_i hc;obtain ⟨u,h1,h2⟩:=Option.bind_eq_some_iff.mp h;obtain ⟨d,rfl,k2,k3,k4⟩:=digL_cut h1;obtain ⟨e,rfl,k6,k7⟩:=expL_cut h2;refine ⟨c :: (d++e),by simp,?_,fun a ha=>?_⟩
   ·simp only [fracL,if_pos hc,k4 e (ND_part k3),Option.bind_some,k6]
   ·rcases List.mem_cons.mp ha with rfl|ha
    ·unfold NC;omega
    ·exact (List.mem_append.mp ha).elim (k2 a) (k7 a)
  ·rename_i hc;obtain ⟨v,h1,h2,h3⟩:=expL_cut h;cases v with
   | nil=>exact ⟨[],h1,rfl,h3⟩
   | cons c' v =>
    obtain ⟨rfl,rfl⟩:=List.cons.inj h1;exact ⟨c :: v,rfl,by simp only [fracL,if_neg hc,h2],h3⟩
theorem intL_cut {l r : List Int} (h:intL l=some r):Cut intL l r∧∀ c t,l=c :: t→isD c=true:=by
 unfold intL at h
 split at h
 ·cases h
 ·rename_i c t;split at h
  ·rename_i hc;obtain ⟨v,rfl,h2,h3⟩:=fracL_cut h;refine ⟨⟨c :: v,rfl,by simp only [intL,if_pos hc,h2],fun a ha=>?_⟩,fun a t e=>?_⟩
   ·rcases List.mem_cons.mp ha with rfl|ha
    ·unfold NC;omega
    ·exact h3 a ha
   ·cases e;rw [hc];rfl
  ·rename_i hc;split at h
   ·rename_i hd;obtain ⟨v,h1,h2,h3⟩:=fracL_cut h;obtain ⟨d,k1,k2,k3⟩:=skD_split t;rw [h1] at k1 k3;refine ⟨⟨c :: (d++v),by rw [k1];simp,?_,fun a ha=>?_⟩,fun a t e=>by cases e;exact hd⟩
    ·simp only [intL,if_neg hc,if_pos hd,skD_app d v k2 (ND_part k3),h2]
    ·rcases List.mem_cons.mp ha with rfl|ha
     ·exact isD_NC hd
     ·exact (List.mem_append.mp ha).elim (fun h=>isD_NC (k2 a h)) (h3 a)
   ·cases h
theorem numL_cut {l r : List Int} (h:numL l=some r):Cut numL l r:=by
 unfold numL at h
 split at h
 ·cases h
 ·rename_i c t;split at h
  ·rename_i hc;obtain ⟨⟨v,rfl,h2,h3⟩,_⟩:=intL_cut h;refine ⟨c :: v,rfl,by simp only [numL,if_pos hc,h2],fun a ha=>?_⟩;rcases List.mem_cons.mp ha with rfl|ha
   ·unfold NC;omega
   ·exact h3 a ha
  ·rename_i hc;obtain ⟨⟨v,h1,h2,h3⟩,_⟩:=intL_cut h;cases v with
   | nil=>simp [intL] at h2
   | cons c' v =>
    obtain ⟨rfl,rfl⟩:=List.cons.inj h1;exact ⟨c :: v,rfl,by simp only [numL,if_neg hc,h2],h3⟩
theorem numL_head {v r : List Int} (h:numL v=some r):∃ c t,v=c :: t∧(c=45∨isD c=true):=by
 unfold numL at h
 split at h
 ·cases h
 ·rename_i c t;split at h
  ·rename_i hc;exact ⟨c,t,rfl, .inl hc⟩
  ·exact ⟨c,t,rfl, .inr ((intL_cut h).2 c t rfl)⟩
theorem numL_all {v : List Int} (h:numL v=some []):∀ c ∈ v,NC c:=by
 obtain ⟨w,h1,_,h3⟩:=numL_cut h;rw [List.append_nil] at h1;subst h1;exact h3
mutual
inductive PV : Nat → List Int→S27→Prop
  | str {a:Nat} {v b:List Int} {p:S27}:Body b→v=34 :: (b++[34])→p=⟨4,(a:Int),((a+v.length:Nat):Int),[],[]⟩→PV a v p
  | sca {a:Nat} {v:List Int} {k:Int} {p:S27}:(k=3∧numL v=some []∨k=0∧v=nullW∨k=1∧v=falseW∨k=2∧v=trueW)→p=⟨k,(a:Int),((a+v.length:Nat):Int),[],[]⟩→PV a v p
  | obj0 {a:Nat} {v B:List Int} {p:S27}:Bl B→v=123 :: (B++[125])→p=⟨6,(a:Int),((a+v.length:Nat):Int),[],[]⟩→PV a v p
  | obj {a:Nat} {v B m:List Int} {ns:List S49} {ps:List S27} {p:S27}:Bl B→PM (a+1+B.length) m ns ps→v=123 :: (B++m)→p=⟨6,(a:Int),((a+v.length:Nat):Int),ns,ps⟩→PV a v p
  | arr0 {a:Nat} {v B:List Int} {p:S27}:Bl B→v=91 :: (B++[93])→p=⟨5,(a:Int),((a+v.length:Nat):Int),[],[]⟩→PV a v p
  | arr {a:Nat} {v B m:List Int} {ps:List S27} {p:S27}:Bl B→PE (a+1+B.length) m ps→v=91 :: (B++m)→p=⟨5,(a:Int),((a+v.length:Nat):Int),[],ps⟩→PV a v p
inductive PM : Nat → List Int→List S49→List S27→Prop
  | one {a:Nat} {m b B1 B2 v B3:List Int} {p:S27} {ns:List S49} {ps:List S27}:Body b→Bl B1→Bl B2→Bl B3→PV (a+b.length+2+B1.length+1+B2.length) v p →
      m=34 :: (b++34 :: (B1++58 :: (B2++(v++(B3++[125])))))→ns=[⟨(a:Int),((a+b.length+2:Nat):Int)⟩]→ps=[p]→PM a m ns ps
  | more {a:Nat} {m b B1 B2 v B3 B4 m':List Int} {p:S27} {ns ns':List S49} {ps ps':List S27}:Body b→Bl B1→Bl B2→Bl B3→Bl B4→PV (a+b.length+2+B1.length+1+B2.length) v p →
      PM (a+b.length+2+B1.length+1+B2.length+v.length+B3.length+1+B4.length) m' ns' ps' →
      m=34 :: (b++34 :: (B1++58 :: (B2++(v++(B3++44 :: (B4++m'))))))→ns=⟨(a:Int),((a+b.length+2:Nat):Int)⟩ :: ns'→ps=p :: ps'→PM a m ns ps
inductive PE : Nat → List Int→List S27→Prop
  | one {a:Nat} {m v B:List Int} {p:S27} {ps:List S27}:Bl B→PV a v p→m=v++(B++[93])→ps=[p]→PE a m ps
  | more {a:Nat} {m v B B' m':List Int} {p:S27} {ps ps':List S27}:Bl B→Bl B'→PV a v p→PE (a+v.length+B.length+1+B'.length) m' ps'→m=v++(B++44 :: (B'++m'))→ps=p :: ps'→PE a m ps
end
theorem PV.at {a : Nat} {v:List Int} {p:S27} (h:PV a v p):p.f1=(a:Int)∧p.f2=((a+v.length:Nat):Int):=by
 cases h<;>(rename_i e;subst e;exact ⟨rfl,rfl⟩)
def V1 (c : Int):Prop:=c=34∨c=123∨c=91∨c=45∨isD c=true∨c=110∨c=102∨c=116
theorem V1.nb {c : Int} (h:V1 c):isB c=false:=by
 unfold V1 isD at h
 simp only [decide_eq_true_eq] at h
 simp only [isB,decide_eq_false_iff_not];omega
theorem PV.head {a : Nat} {v:List Int} {p:S27} (h:PV a v p):∃ c t,v=c :: t∧V1 c:=by
 unfold V1;cases h with
 | str _ e _=>exact ⟨_,_,e, .inl rfl⟩
 | sca h _ =>
  rcases h with ⟨_,h⟩|⟨_,h⟩|⟨_,h⟩|⟨_,h⟩
  ·obtain ⟨c,t,e,h⟩:=numL_head h;exact ⟨c,t,e,by rcases h with h|h<;>simp [h]⟩
  ·exact ⟨_,_,h,by simp⟩
  ·exact ⟨_,_,h,by simp⟩
  ·exact ⟨_,_,h,by simp⟩
 | obj0 _ e _=>exact ⟨_,_,e,by simp⟩
 | obj _ _ e _=>exact ⟨_,_,e,by simp⟩
 | arr0 _ e _=>exact ⟨_,_,e,by simp⟩
 | arr _ _ e _=>exact ⟨_,_,e,by simp⟩
theorem PV.pos {a : Nat} {v:List Int} {p:S27} (h:PV a v p):0<v.length:=by
 obtain ⟨c,t,rfl,_⟩:=h.head;simp
theorem strE_body {b : List Int} (h:Body b):∀ (r:List Int) (i:Nat) (e:Bool),strE 34 (b++34 :: r) i e false=(((i+b.length+1:Nat):Int),e || decide (92 ∈ b)):=by
 have hx:∀ {c v:Int},hexv c=some v→c≠34∧c≠92:=fun {c v} h=>by
  unfold hexv at h
  split at h
  ·omega
  split at h
  ·omega
  split at h
  ·omega
  ·cases h
 induction h with
 | nil =>
  intro r i e;rw [List.nil_append,strE,if_pos rfl,if_neg zq50];simp
 | @raw c l h1 h2 h3 _ ih =>
  intro r i e;rw [List.cons_append,strE,if_neg h1,if_neg h3,ih];have:(92:Int)≠c:=fun h=>h3 h.symm
  simp only [List.length_cons,List.mem_cons,this,false_or];rw [show i+1+l.length+1=i+(l.length+1)+1 by omega]
 | @two b l hE _ ih =>
  intro r i e
  have go:strE 34 (92 :: b :: (l++34 :: r)) i e false=strE 34 (l++34 :: r) (i+1+1) true false:=by
   rw [strE,if_neg zq50,if_pos rfl,strE];by_cases h34:b=34
   ·rw [if_pos h34,if_pos (by rfl)]
   rw [if_neg h34];by_cases h92:b=92
   rotate_left
   ·rw [if_neg h92]
   rw [if_pos h92];rfl
  rw [List.cons_append,List.cons_append,go,ih];simp only [List.length_cons,List.mem_cons,true_or,decide_true,Bool.or_true,Bool.true_or];rw [show i+1+1+l.length+1=i+(l.length+1+1)+1 by omega]
 | @six a b c d v l h _ ih =>
  intro r i e
  obtain ⟨⟨a1,a2⟩,⟨b1,b2⟩,⟨c1,c2⟩,⟨d1,d2⟩⟩:(a≠34∧a≠92)∧(b≠34∧b≠92)∧(c≠34∧c≠92)∧(d≠34∧d≠92):=by
   unfold hex4 at h
   obtain ⟨x,h1,h⟩:=Option.bind_eq_some_iff.mp h;obtain ⟨y,h2,h⟩:=Option.bind_eq_some_iff.mp h;obtain ⟨z,h3,h⟩:=Option.bind_eq_some_iff.mp h;obtain ⟨u,h4,h⟩:=Option.bind_eq_some_iff.mp h;exact ⟨hx h1,hx h2,hx h3,hx h4⟩
  have go:strE 34 (92 :: 117 :: a :: b :: c :: d :: (l++34 :: r)) i e false=strE 34 (l++34 :: r) (i+1+1+1+1+1+1) true false:=by
   rw [strE,if_neg zq50,if_pos rfl,strE,if_neg zq50,if_neg zq50,strE,if_neg a1,if_neg a2,strE,if_neg b1,if_neg b2,strE,if_neg c1,if_neg c2,strE,if_neg d1,if_neg d2]
  simp only [List.cons_append];rw [go,ih];simp only [List.length_cons,List.mem_cons,true_or,decide_true,Bool.or_true,Bool.true_or];rw [show i+1+1+1+1+1+1+l.length+1=i+(l.length+1+1+1+1+1+1)+1 by omega]
theorem nT_bl : ∀ {B:List Int} {c:Int} {r:List Int},Bl B→isB c=false→∀ i:Nat,nT (B++c :: r) i=((i+B.length:Nat):Int)
 | [],c,r,_,h,i=>by rw [List.nil_append,nT,if_neg (by simp [h])];rfl
 | a :: B,c,r,hB,h,i=>by
  rw [List.cons_append,nT,if_pos (hB a (by simp)),nT_bl hB.tail h];simp only [List.length_cons];omega
def SC (c : Int):Prop:=K.isE c=false∧32<c∧c≠34∧c≠39∧c≠123∧c≠125∧c≠91∧c≠93∧c≠58∧c≠44
instance (c : Int) : Decidable (SC c):=by unfold SC;infer_instance
theorem NC.sc {c : Int} (h:NC c):SC c:=by
 unfold NC at h
 unfold SC K.isE;simp only [decide_eq_false_iff_not];omega
def Sca (k : Int) (v:List Int):Prop:=k=3∧numL v=some []∨k=0∧v=nullW∨k=1∧v=falseW∨k=2∧v=trueW
theorem Sca.sc {k : Int} {v:List Int} (h:Sca k v):∀ c ∈ v,SC c:=by
 rcases h with ⟨_,h⟩|⟨_,rfl⟩|⟨_,rfl⟩|⟨_,rfl⟩
 ·exact fun c hc=>(numL_all h c hc).sc
 ·exact (zq50:∀ c ∈ nullW,SC c)
 ·exact (zq50:∀ c ∈ falseW,SC c)
 ·exact (zq50:∀ c ∈ trueW,SC c)
def Dl (r : List Int):Prop:=∀ c t,r=c :: t→K.isE c=true
theorem tE_sc : ∀ {v r:List Int},(∀ c ∈ v,SC c)→Dl r→∀ i:Nat,tE (v++r) i=i+v.length
 | [],[],_,_,i=>rfl
 | [],c :: r,_,h,i=>by rw [List.nil_append,tE,if_pos (h c r rfl)];rfl
 | c :: v,r,hv,h,i=>by
  rw [List.cons_append,tE,if_neg (by simp [(hv c (by simp)).1]),tE_sc (fun a ha=>hv a (List.mem_cons_of_mem _ ha)) h];simp only [List.length_cons];omega
theorem isB_E {c : Int} (h:isB c=true):K.isE c=true:=by
 simp only [isB,decide_eq_true_eq] at h
 simp only [K.isE,decide_eq_true_eq];omega
theorem Dl_bl {B r : List Int} (hB:Bl B) (h:Dl r):Dl (B++r):=by
 cases B with
 | nil=>exact h
 | cons a B =>
  intro c t e;cases e;exact isB_E (hB a (by simp))
theorem Dl_cons {c : Int} {t:List Int} (h:c=44∨c=93∨c=125):Dl (c :: t):=by
 intro a r e;cases e;simp only [K.isE,decide_eq_true_eq];omega
theorem Dl_nil : Dl []:=fun c t h=>by cases h
section
variable {sq : Bool} {op cl:Int} (hoc:(op=123∧cl=125)∨(op=91∧cl=93))
include hoc
theorem bE_skip {c : Int} {t:List Int} (h:c≤32∨(92<c∧c≠op∧c≠cl)) (i:Nat) (lv:Int):bE sq op cl (c :: t) i lv=bE sq op cl t (i+1) lv:=by
 rw [bE,if_pos h]
theorem bE_oth {c : Int} {t:List Int} (h1:c≠34) (h2:c≠39) (h3:c≠op) (h4:c≠cl) (i:Nat) (lv:Int):bE sq op cl (c :: t) i lv=bE sq op cl t (i+1) lv:=by
 rw [bE];by_cases h0:c≤32∨(92<c∧c≠op∧c≠cl)
 ·rw [if_pos h0]
 have h5:¬ (c=34∨(c=39∧sq=true)):=by
  rintro (h|h)
  ·exact h1 h
  ·exact h2 h.1
 rw [if_neg h0,if_neg h5,if_neg h2,if_neg h3,if_neg h4]
theorem bE_op {t : List Int} (i:Nat) (lv:Int):bE sq op cl (op :: t) i lv=bE sq op cl t (i+1) (lv+1):=by
 rw [bE,if_neg (by omega),if_neg (by omega),if_neg (by omega),if_pos rfl]
theorem bE_cl {t : List Int} (i:Nat) (lv:Int):bE sq op cl (cl :: t) i lv=if lv - 1=0 then (i:Int)+1 else bE sq op cl t (i+1) (lv - 1):=by
 rw [bE,if_neg (by omega),if_neg (by omega),if_neg (by omega),if_neg (by omega),if_pos rfl]
theorem bE_str {b : List Int} (hb:Body b) (r:List Int) (i:Nat) (lv:Int):bE sq op cl (34 :: (b++34 :: r)) i lv=bE sq op cl r (i+b.length+2) lv:=by
 rw [bE,if_neg (by omega),if_pos (.inl rfl),strE_body hb];simp only [Nat.zero_add,Int.toNat_natCast];rw [if_neg (by omega)]
 have:List.drop (b.length+1) (b++34 :: r)=r:=by
  rw [List.drop_append,List.drop_of_length_le (by omega)];simp
 rw [this,show i+1+(b.length+1)=i+b.length+2 by omega]
theorem bE_bl : ∀ {B:List Int},Bl B→∀ (r:List Int) (i:Nat) (lv:Int),bE sq op cl (B++r) i lv=bE sq op cl r (i+B.length) lv
 | [],_,r,i,lv=>rfl
 | c :: B,h,r,i,lv=>by
  have hc:=h c (by simp);simp only [isB,decide_eq_true_eq] at hc;rw [List.cons_append,bE_skip hoc (by omega),bE_bl h.tail];simp only [List.length_cons];rw [show i+1+B.length=i+(B.length+1) by omega]
theorem bE_sc : ∀ {v:List Int},(∀ c ∈ v,SC c)→∀ (r:List Int) (i:Nat) (lv:Int),bE sq op cl (v++r) i lv=bE sq op cl r (i+v.length) lv
 | [],_,r,i,lv=>rfl
 | c :: v,h,r,i,lv=>by
  obtain ⟨_,_,h34,h39,h123,h125,h91,h93,_⟩:=h c (by simp);rw [List.cons_append,bE_oth hoc h34 h39 (by omega) (by omega),bE_sc (fun a ha=>h a (List.mem_cons_of_mem _ ha))];simp only [List.length_cons];rw [show i+1+v.length=i+(v.length+1) by omega]
def bK (sq : Bool) (op cl c:Int) (r:List Int) (j:Nat) (lv:Int):Int:=if c=cl then (if lv - 1=0 then (j:Int) else bE sq op cl r j (lv - 1)) else bE sq op cl r j lv
theorem bE_k {c : Int} (hc:c=125∨c=93) (r:List Int) (i:Nat) (lv:Int):bE sq op cl (c :: r) i lv=bK sq op cl c r (i+1) lv:=by
 unfold bK;by_cases h:c=cl
 ·rw [if_pos h];subst h;rw [bE_cl hoc];rfl
 rw [if_neg h];exact bE_oth hoc (by omega) (by omega) (by omega) h i lv
theorem bE_all : ∀ n:Nat,(∀ (a:Nat) (v:List Int) (p:S27),v.length≤n→PV a v p→∀ (r:List Int) (i:Nat) (lv:Int),1≤lv→bE sq op cl (v++r) i lv=bE sq op cl r (i+v.length) lv) ∧
 (∀ (a:Nat) (m:List Int) (ns:List S49) (ps:List S27),m.length≤n→PM a m ns ps→∀ (r:List Int) (i:Nat) (lv:Int),1≤lv→bE sq op cl (m++r) i lv=bK sq op cl 125 r (i+m.length) lv) ∧
 (∀ (a:Nat) (m:List Int) (ps:List S27),m.length≤n→PE a m ps→∀ (r:List Int) (i:Nat) (lv:Int),1≤lv→bE sq op cl (m++r) i lv=bK sq op cl 93 r (i+m.length) lv):=by
 intro n
 induction n with
 | zero =>
  refine ⟨fun a v p hn h=>?_,fun a m ns ps hn h=>?_,fun a m ps hn h=>?_⟩
  ·exact absurd h.pos (by omega)
  ·cases h<;>(subst_vars;simp at hn)
  ·cases h with
   | one _ _ e _=>subst e;simp at hn
   | more _ _ _ _ e _=>subst e;simp at hn
 | succ n ih =>
  obtain ⟨ihV,ihM,ihE⟩:=ih
  have pre:∀ (b B1 B2:List Int),Body b→Bl B1→Bl B2→∀ (r:List Int) (i:Nat) (lv:Int),bE sq op cl (34 :: (b++34 :: (B1++58 :: (B2++r)))) i lv=bE sq op cl r (i+b.length+2+B1.length+1+B2.length) lv:=fun b B1 B2 hb h1 h2 r i lv=>by
   rw [bE_str hoc hb,bE_bl hoc h1,bE_oth hoc zq50 zq50 (by omega) (by omega),bE_bl hoc h2]
  refine ⟨fun a v p hn h r i lv hlv=>?_,fun a m ns ps hn h r i lv hlv=>?_,fun a m ps hn h r i lv hlv=>?_⟩
  ·have blk:∀ (o c:Int),(o=123∧c=125)∨(o=91∧c=93)→∀ (x:List Int),(∀ (i:Nat) (lv:Int),1≤lv→bE sq op cl (x++r) i lv=bK sq op cl c r (i+x.length) lv)→bE sq op cl (o :: (x++r)) i lv=bE sq op cl r (i+(x.length+1)) lv:=fun o c ho x hx=>by
    by_cases e:o=op
    rotate_left
    ·rw [bE_oth hoc (by omega) (by omega) e (by omega),hx _ _ hlv,bK,if_neg (by omega),show i+1+x.length=i+(x.length+1) by omega]
    have ec:c=cl:=by omega
    subst e ec;rw [bE_op hoc,hx _ _ (by omega),bK,if_pos rfl,if_neg (by omega),show lv+1 - 1=lv by omega,show i+1+x.length=i+(x.length+1) by omega]
   cases h with
   | @str _ _ b _ hb e _ =>
    subst e;rw [show (34 :: (b++[34]))++r=34 :: (b++34 :: r) by simp,bE_str hoc hb];simp only [List.length_cons,List.length_append,List.length_nil];rw [show i+b.length+2=i+(b.length+(0+1)+1) by omega]
   | @sca _ _ k _ h _=>exact bE_sc hoc (Sca.sc (k:=k) h) r i lv
   | @obj0 _ _ B _ hB e _ =>
    subst e
    have:=blk 123 125 (.inl ⟨rfl,rfl⟩) (B++[125]) (fun i lv h=>by
     rw [List.append_assoc,bE_bl hoc hB,List.cons_append,bE_k hoc (.inl rfl),List.nil_append,List.length_append];rfl)
    simpa using this
   | @obj _ _ B m ns ps _ hB hm e _ =>
    subst e;simp only [List.length_cons,List.length_append] at hn
    have:=blk 123 125 (.inl ⟨rfl,rfl⟩) (B++m) (fun i lv h=>by
     rw [List.append_assoc,bE_bl hoc hB,ihM _ m _ _ (by omega) hm _ _ _ h,List.length_append,Nat.add_assoc])
    simpa using this
   | @arr0 _ _ B _ hB e _ =>
    subst e
    have:=blk 91 93 (.inr ⟨rfl,rfl⟩) (B++[93]) (fun i lv h=>by
     rw [List.append_assoc,bE_bl hoc hB,List.cons_append,bE_k hoc (.inr rfl),List.nil_append,List.length_append];rfl)
    simpa using this
   | @arr _ _ B m ps _ hB hm e _ =>
    subst e;simp only [List.length_cons,List.length_append] at hn
    have:=blk 91 93 (.inr ⟨rfl,rfl⟩) (B++m) (fun i lv h=>by
     rw [List.append_assoc,bE_bl hoc hB,ihE _ m _ (by omega) hm _ _ _ h,List.length_append,Nat.add_assoc])
    simpa using this
  ·cases h with
   | @one _ _ b B1 B2 v B3 p _ _ hb h1 h2 h3 hv e _ _ =>
    subst e;simp only [List.length_cons,List.length_append] at hn;have:=pre b B1 B2 hb h1 h2 (v++(B3++125 :: r)) i lv;rw [ihV _ v _ (by omega) hv _ _ _ hlv,bE_bl hoc h3,bE_k hoc (.inl rfl)] at this;rw [show (34 :: (b++34 :: (B1++58 :: (B2++(v++(B3++[125]))))))++r=34 :: (b++34 :: (B1++58 :: (B2++(v++(B3++125 :: r))))) by simp,this]
    congr 1
    simp only [List.length_cons,List.length_append,List.length_nil];omega
   | @more _ _ b B1 B2 v B3 B4 m' p _ ns' _ ps' hb h1 h2 h3 h4 hv hm e _ _ =>
    subst e;simp only [List.length_cons,List.length_append] at hn;have:=pre b B1 B2 hb h1 h2 (v++(B3++44 :: (B4++(m'++r)))) i lv;rw [ihV _ v _ (by omega) hv _ _ _ hlv,bE_bl hoc h3,bE_oth hoc (c:=44) zq50 zq50 (by omega) (by omega),bE_bl hoc h4,ihM _ m' _ _ (by omega) hm _ _ _ hlv] at this;rw [show (34 :: (b++34 :: (B1++58 :: (B2++(v++(B3++44 :: (B4++m')))))))++r=34 :: (b++34 :: (B1++58 :: (B2++(v++(B3++44 :: (B4++(m'++r))))))) by simp,this]
    congr 1
    simp only [List.length_cons,List.length_append];omega
  ·cases h with
   | @one _ _ v B p _ hB hv e _ =>
    subst e;have hvp:=hv.pos;simp only [List.length_cons,List.length_append] at hn;rw [show (v++(B++[93]))++r=v++(B++93 :: r) by simp,ihV _ v _ (by simp at hn;omega) hv _ _ _ hlv,bE_bl hoc hB,bE_k hoc (.inr rfl)]
    congr 1
    simp only [List.length_cons,List.length_append,List.length_nil];omega
   | @more _ _ v B B' m' p _ ps' hB hB' hv hm e _ =>
    subst e;have hvp:=hv.pos;simp only [List.length_cons,List.length_append] at hn;rw [show (v++(B++44 :: (B'++m')))++r=v++(B++44 :: (B'++(m'++r))) by simp,ihV _ v _ (by omega) hv _ _ _ hlv,bE_bl hoc hB,bE_oth hoc zq50 zq50 (by omega) (by omega),bE_bl hoc hB',ihE _ m' _ (by omega) hm _ _ _ hlv]
    congr 1
    simp only [List.length_cons,List.length_append];omega
end
theorem bE_obj {sq : Bool} {a:Nat} {v:List Int} {p:S27} (h:PV a v p) (hk:p.f0=6) (r:List Int):bE sq 123 125 (v++r) 0 0=(v.length:Int):=by
 have hoc:((123:Int)=123∧(125:Int)=125)∨((123:Int)=91∧(125:Int)=93) := .inl ⟨rfl,rfl⟩;cases h with
 | str _ _ e=>subst e;simp at hk
 | sca h e=>subst e;simp only at hk;omega
 | @obj0 _ _ B _ hB e _ =>
  subst e;rw [show (123 :: (B++[125]))++r=123 :: (B++125 :: r) by simp,bE_op hoc,bE_bl hoc hB,bE_cl hoc,if_pos zq50];simp only [List.length_cons,List.length_append,List.length_nil];omega
 | @obj _ _ B m ns ps _ hB hm e _ =>
  subst e;rw [show (123 :: (B++m))++r=123 :: (B++(m++r)) by simp,bE_op hoc,bE_bl hoc hB,(bE_all hoc m.length).2.1 _ m _ _ (Nat.le_refl _) hm _ _ _ zq50,bK,if_pos rfl,if_pos zq50];simp only [List.length_cons,List.length_append];omega
 | arr0 _ _ e=>subst e;simp at hk
 | arr _ _ _ e=>subst e;simp at hk
theorem bE_arr {sq : Bool} {a:Nat} {v:List Int} {p:S27} (h:PV a v p) (hk:p.f0=5) (r:List Int):bE sq 91 93 (v++r) 0 0=(v.length:Int):=by
 have hoc:((91:Int)=123∧(93:Int)=125)∨((91:Int)=91∧(93:Int)=93) := .inr ⟨rfl,rfl⟩;cases h with
 | str _ _ e=>subst e;simp at hk
 | sca h e=>subst e;simp only at hk;omega
 | @arr0 _ _ B _ hB e _ =>
  subst e;rw [show (91 :: (B++[93]))++r=91 :: (B++93 :: r) by simp,bE_op hoc,bE_bl hoc hB,bE_cl hoc,if_pos zq50];simp only [List.length_cons,List.length_append,List.length_nil];omega
 | @arr _ _ B m ps _ hB hm e _ =>
  subst e;rw [show (91 :: (B++m))++r=91 :: (B++(m++r)) by simp,bE_op hoc,bE_bl hoc hB,(bE_all hoc m.length).2.2 _ m _ (Nat.le_refl _) hm _ _ _ zq50,bK,if_pos rfl,if_pos zq50];simp only [List.length_cons,List.length_append];omega
 | obj0 _ _ e=>subst e;simp at hk
 | obj _ _ _ e=>subst e;simp at hk
def jkind (k : Int):Int:=if k=4 then 1 else if k=3 then 2 else if k=6 then 3 else if k=5 then 4 else if k=0 then 6 else 5
theorem gT_PV {sq : Bool} {a:Nat} {v:List Int} {p:S27} (h:PV a v p) {l r:List Int} {i:Nat} (hl:l.drop i=v++r) (hr:Dl r):gT sq l i=⟨jkind p.f0,i+v.length,true⟩:=by
 have hil:i<l.length:=by
  have:=congrArg List.length hl;have:=h.pos;simp at *;omega
 obtain ⟨c,t,ev,hc⟩:=h.head
 have h0:l.getD i 0=c:=by
  have:=at_int hil;rw [hl,ev] at this;exact (List.cons.inj this).1.symm
 have h1:l.drop (i+1)=t++r:=by
  have:=at_int hil;rw [hl,ev] at this;exact (List.cons.inj this).2.symm
 unfold gT;rw [h0,h1,hl];have hv:∀ x:Int,v.headD 0=x→c=x:=fun x hx=>by rw [ev] at hx;exact hx
 cases h with
 | @str _ _ b _ hb e ep =>
  subst ep;have:c=34:=hv 34 (by rw [e];rfl);subst this;have et:t=b++[34]:=by rw [ev] at e;exact (List.cons.inj e).2
  rw [if_pos (.inl rfl),et,show (b++[34])++r=b++34 :: r by simp,strE_body hb,if_neg (by simp only;omega)];simp only [jkind,if_true,e,List.length_cons,List.length_append,List.length_nil,Int.toNat_natCast]
  congr 1
  omega
 | @sca _ _ k _ hs ep =>
  subst ep;have hsc:=Sca.sc (k:=k) hs;have hTE:tE (v++r) 0=v.length:=by rw [tE_sc hsc hr];omega
  obtain ⟨_,_,s34,s39,s123,_,s91,_⟩:=hsc c (by rw [ev];simp);rw [if_neg (by rintro (h|h);exact s34 h;exact s39 h.1),if_neg s91,if_neg s123,hTE];have htk:List.take v.length (v++r)=v:=by simp
  rw [htk];rcases hs with ⟨rfl,hn⟩|⟨rfl,e⟩|⟨rfl,e⟩|⟨rfl,e⟩
  ·obtain ⟨c',t',e',hc'⟩:=numL_head hn;rw [ev] at e';obtain ⟨rfl,rfl⟩:=List.cons.inj e';simp only [isD,decide_eq_true_eq] at hc';rw [if_neg (by omega),if_neg (by omega),if_pos (by omega)];rfl
  ·have:c=110:=hv 110 (by rw [e];rfl);rw [if_neg (by omega),if_pos (.inr this),litB,if_pos (by rw [e];decide)];rfl
  ·have:c=102:=hv 102 (by rw [e];rfl);rw [if_pos (.inr this),litB,if_pos (by rw [e];decide)];rfl
  ·have:c=116:=hv 116 (by rw [e];rfl);rw [if_pos (.inl this),litB,if_pos (by rw [e];decide)];rfl
 | @obj0 _ _ B _ hB e ep =>
  have:c=123:=hv 123 (by rw [e];rfl);rw [if_neg (by omega),if_neg (by omega),if_pos this,bE_obj (.obj0 hB e ep) (by rw [ep]),if_neg (by omega),ep];simp [jkind,Nat.add_comm]
 | @obj _ _ B m ns ps _ hB hm e ep =>
  have:c=123:=hv 123 (by rw [e];rfl);rw [if_neg (by omega),if_neg (by omega),if_pos this,bE_obj (.obj hB hm e ep) (by rw [ep]),if_neg (by omega),ep];simp [jkind,Nat.add_comm]
 | @arr0 _ _ B _ hB e ep =>
  have:c=91:=hv 91 (by rw [e];rfl);rw [if_neg (by omega),if_pos this,bE_arr (.arr0 hB e ep) (by rw [ep]),if_neg (by omega),ep];simp [jkind,Nat.add_comm]
 | @arr _ _ B m ps _ hB hm e ep =>
  have:c=91:=hv 91 (by rw [e];rfl);rw [if_neg (by omega),if_pos this,bE_arr (.arr hB hm e ep) (by rw [ep]),if_neg (by omega),ep];simp [jkind,Nat.add_comm]
end Go.Proofs.YthmjfmpgmcgonaaDoor.J
end
section
namespace Go.Proofs.YthmjfmpgmcgonaaDoor.J
open Go.RowKit Go.Proofs.YthmjfmpgmcgonaaDoor.K Go.Proofs.YthmjfmpgmcgonaaDoorW.PrintWords Go.Proofs.YthmjfmpgmcgonaaDoorW.PrintLast
set_option linter.unusedVariables false

theorem Ev_shift {α : Type} {g:Nat→Option α} {r:α} (h:Ev (fun k=>g (k+1)) r):Ev g r:=Ev.step (fun _=>rfl) h
def PN (s : ByteArray) (l:List Int):Nat:=s.size - l.length
theorem P_PN (s : ByteArray) (l:List Int):P s l=(PN s l:Int):=rfl
theorem PN_app {s : ByteArray} {x l:List Int} (h:(x++l).length≤s.size):PN s l=PN s (x++l)+x.length:=by
 unfold PN;rw [List.length_append] at *;omega
def VA (s : ByteArray) (l:List Int):Prop :=
  (∀ r,valL l=some r→∃ (v:List Int) (p:S27),l=v++r∧PV (PN s l) v p∧Suf s r∧Ev (fun k=>j1m.f k s (P s l)) (p.f0,p.f1,p.f2,p.f3,p.f4,true,s,P s r)) ∧
  (valL l=none→∃ a b c d e q,Ev (fun k=>j1m.f k s (P s l)) (a,b,c,d,e,false,s,q))
def EA (s : ByteArray) (l:List Int):Prop:=∀ x4:List S27,x4.length+l.length≤s.size →
  (∀ r,elsL l=some r→∃ (m:List Int) (ys:List S27),l=m++r∧PE (PN s l) m ys∧Suf s r∧Ev (fun k=>j1q.l0 k x4 s (P s l)) (x4++ys,true,s,P s r)) ∧
  (elsL l=none→∃ ys q,Ev (fun k=>j1q.l0 k x4 s (P s l)) (ys,false,s,q))
def MA (s : ByteArray) (l:List Int):Prop:=∀ (x5:List S49) (x6:List S27),x5.length+l.length≤s.size→x6.length+l.length≤s.size →
  (∀ r,memL l=some r→∃ (m:List Int) (ns:List S49) (ys:List S27),l=m++r∧PM (PN s l) m ns ys∧Suf s r∧Ev (fun k=>j1i.l0 k x5 x6 s (P s l)) (x5++ns,x6++ys,true,s,P s r)) ∧
  (memL l=none→∃ ns ys q,Ev (fun k=>j1i.l0 k x5 x6 s (P s l)) (ns,ys,false,s,q))
section
variable {s : ByteArray} (hs:s.size≤2147483647)
include hs
theorem els_of {l : List Int} (h:Suf s l) (hv:VA s l) (ih:∀ u,u.length<l.length→Suf s u→EA s u):EA s l:=by
 intro x4 hn;have hs':s.size≤140737488351232:=by omega
 cases e:valL l with
 | none =>
  obtain ⟨a,b,c,d,e',q,hq⟩:=hv.2 e;refine ⟨fun r hr=>(by rw [elsL.eq_def,e] at hr;cases hr),fun _=>⟨[],q,Ev_shift ?_⟩⟩;simp only [j1q.l0];exact Ev.bind hq (Ev.congr (fun _=>if_neg (by simp)) (Ev.now _))
 | some t =>
  obtain ⟨V,⟨p0,p1,p2,p3,p4⟩,hlV,hp,ht,hq⟩:=hv.1 t e;have hlen:=valL_len e
  have e1:elsL l=(match skB t with
   | []=>none
   | c :: u=>if c=93 then some u else if c=44 then elsL (skB u) else none):=by
   rw [elsL.eq_def,e];simp only [if_pos hlen];split<;>rename_i h1<;>rw [h1]
  obtain ⟨B,hB,hBt⟩:=j4c t;have hle:=h.le;have hb:=j4h hs' t ht;have hbS:=ht.skB;have hbl:=j3r t
  have go:∀ {R},Ev (fun k=>(j1n.f s (P s (skB t)) 93).bind fun bt206=>(if bt206.1=true then (some (x4++[(⟨p0,p1,p2,p3,p4⟩:S27)],true,bt206.2.1,bt206.2.2)) else ((j1n.f bt206.2.1 bt206.2.2 44).bind fun bt209=>(if bt209.1=true then ((j1l.f k bt209.2.1 bt209.2.2).bind fun bt212=>(j1q.l0 k (x4++[(⟨p0,p1,p2,p3,p4⟩:S27)]) bt212.1 bt212.2)) else (some (([]:List S27),false,bt209.2.1,bt209.2.2)))))) R →
   Ev (fun k=>j1q.l0 k x4 s (P s l)) R:=fun {R} hR=>by
   refine Ev_shift ?_;simp only [j1q.l0];refine Ev.bind hq (Ev.congr (fun _=>if_pos rfl) (Ev.congr (fun _=>if_pos (by omega)) ?_));exact Ev.bind (a:=x4++[(⟨p0,p1,p2,p3,p4⟩:S27)]) (Ev.now _) (Ev.bind hb hR)
  rw [e1]
  match h5:skB t,hbS with
  | [],_ =>
   refine ⟨fun r hr=>(by cases hr),fun _=>⟨[],P s [],go ?_⟩⟩;rw [h5];refine Ev.congr (fun k=>?_) (Ev.now _);simp only [take_nil,Option.bind_some,Bool.false_eq_true,if_false]
  | c :: u,hbS =>
   rw [h5] at hbl;simp only [List.length_cons] at hbl;by_cases e93:c=93
   ·refine ⟨fun r hr=>?_,fun hr=>(by simp only [if_pos e93] at hr;cases hr)⟩;simp only [if_pos e93,Option.some.injEq] at hr;subst hr;refine ⟨V++(B++[93]),[(⟨p0,p1,p2,p3,p4⟩:S27)],by rw [hlV,hBt,h5,e93];simp, .one hB hp rfl rfl,hbS.tail,go ?_⟩;rw [h5];refine Ev.congr (fun k=>?_) (Ev.now _);simp only [j4a hs' hbS,if_pos e93,Option.bind_some,if_true]
   by_cases e44:c=44
   rotate_left
   ·refine ⟨fun r hr=>(by simp only [if_neg e93,if_neg e44] at hr;cases hr),fun _=>⟨[],P s (c :: u),go ?_⟩⟩;rw [h5];refine Ev.congr (fun k=>?_) (Ev.now _);simp only [j4a hs' hbS,if_neg e93,if_neg e44,Option.bind_some,Bool.false_eq_true,if_false]
   have hu:=j3r u;have hE:=ih (skB u) (by omega) hbS.tail.skB (x4++[(⟨p0,p1,p2,p3,p4⟩:S27)]) zq85;have hb2:=j4h hs' u hbS.tail
   have go2:∀ {R},Ev (fun k=>j1q.l0 k (x4++[(⟨p0,p1,p2,p3,p4⟩:S27)]) s (P s (skB u))) R→Ev (fun k=>j1q.l0 k x4 s (P s l)) R:=fun {R} hR=>by
    refine go ?_;rw [h5];simp only [j4a hs' hbS,if_neg e93,if_pos e44,Option.bind_some,if_true,Bool.false_eq_true,if_false];exact Ev.bind hb2 hR
   simp only [if_neg e93,if_pos e44];refine ⟨fun r hr=>?_,fun hr=>?_⟩
   ·obtain ⟨m,ys,h6,h9,h7,h8⟩:=hE.1 r hr;obtain ⟨B',hB',hBu⟩:=j4c u;have el:l=V++(B++44 :: (B'++skB u)):=by conv=>lhs;rw [hlV,hBt,h5,e44,hBu]
    have ei:PN s l+V.length+B.length+1+B'.length=PN s (skB u):=by
     have:=congrArg List.length el;simp only [List.length_append,List.length_cons] at this;unfold PN;omega
    refine ⟨V++(B++44 :: (B'++m)),⟨p0,p1,p2,p3,p4⟩ :: ys,by rw [el,h6];simp, .more hB hB' hp (by rw [ei];exact h9) rfl rfl,h7,?_⟩;have:=go2 h8;rw [List.append_assoc] at this;exact this
   ·obtain ⟨ys,q,h8⟩:=hE.2 hr;exact ⟨ys,q,go2 h8⟩
theorem mem_of {l : List Int} (h:Suf s l) (hv:∀ u,u.length<l.length→Suf s u→VA s u) (ih:∀ u,u.length<l.length→Suf s u→MA s u):MA s l:=by
 intro x5 x6 hn hm;have hs':s.size≤140737488351232:=by omega
 have bad:∀ q,Ev (fun k=>j1i.j1 k x5 x6 (P s l) true s q) ([],[],false,s,q):=fun q=>by
  refine Ev_shift ?_;simp only [j1i.j1];exact Ev.congr (fun _=>if_pos trivial) (Ev.now _)
 match l,h with
 | [],h =>
  refine ⟨fun r hr=>(by rw [memL.eq_def] at hr;cases hr),fun _=>⟨[],[],P s [],Ev_shift ?_⟩⟩;simp only [j1i.l0,here_P0,Option.bind_some];exact Ev.congr (fun _=>if_neg zq50) (bad _)
 | c :: l,h =>
  by_cases e34:c=34
  rotate_left
  ·refine ⟨fun r hr=>(by rw [memL.eq_def] at hr;simp only [if_neg e34] at hr;cases hr),fun _=>⟨[],[],P s (c :: l),Ev_shift ?_⟩⟩;simp only [j1i.l0,here_P h,Option.bind_some];exact Ev.congr (fun _=>if_neg e34) (bad _)
  subst e34;have hq:=quoted_P hs' h
  have st:∀ {b q R},Ev (fun k=>j1v.f k s (P s (34 :: l))) (b,s,q)→Ev (fun k=>j1i.j1 k x5 x6 (P s (34 :: l)) (!b) s q) R→Ev (fun k=>j1i.l0 k x5 x6 s (P s (34 :: l))) R:=fun {b q R} ha hb=>by
   refine Ev_shift ?_;simp only [j1i.l0,here_P h,Option.bind_some];exact Ev.congr (fun _=>if_pos trivial) (Ev.bind ha hb)
  cases e:strL l with
  | none =>
   obtain ⟨q,hq2⟩:=hq.2 e;refine ⟨fun r hr=>(by rw [memL_bad e] at hr;cases hr),fun _=>⟨[],[],q,st hq2 (bad _)⟩⟩
  | some t =>
   have hq2:=hq.1 t e;obtain ⟨b,hB,eB⟩:=strL_iff.mp e;have ht:Suf s t:=h.tail.str e;have hlen:=strL_len _ _ _ (Nat.le_refl _) e;simp only [List.length_cons] at hn hm hlen;have hle:=h.le;simp only [List.length_cons] at hle;obtain ⟨B1,hB1,hBt⟩:=j4c t;have hb:=j4h hs' t ht;have hbS:=ht.skB;have hbl:=j3r t
   have go:∀ {R},Ev (fun k=>(j1n.f s (P s (skB t)) 58).bind fun bt152=>(if bt152.1=true then ((j1l.f k bt152.2.1 bt152.2.2).bind fun bt155=>((j1m.f k bt155.1 bt155.2).bind fun bt157=>(if bt157.2.2.2.2.2.1=true then (if x6.length<1954687338268 then ((some (x6++[(⟨bt157.1,bt157.2.1,bt157.2.2.1,bt157.2.2.2.1,bt157.2.2.2.2.1⟩:S27)]:List S27)).bind fun y170=>((j1l.f k bt157.2.2.2.2.2.2.1 bt157.2.2.2.2.2.2.2).bind fun bt173=>((j1n.f bt173.1 bt173.2 125).bind fun bt175=>(if bt175.1=true then (some (x5++[(⟨P s (34 :: l),P s t⟩:S49)],y170,true,bt175.2.1,bt175.2.2)) else ((j1n.f bt175.2.1 bt175.2.2 44).bind fun bt178=>(if bt178.1=true then ((j1l.f k bt178.2.1 bt178.2.2).bind fun bt181=>(j1i.l0 k (x5++[(⟨P s (34 :: l),P s t⟩:S49)]) y170 bt181.1 bt181.2)) else (some (([]:List S49),([]:List S27),false,bt178.2.1,bt178.2.2)))))))) else (none)) else (some (([]:List S49),([]:List S27),false,bt157.2.2.2.2.2.2.1,bt157.2.2.2.2.2.2.2))))) else (some (([]:List S49),([]:List S27),false,bt152.2.1,bt152.2.2)))) R →
    Ev (fun k=>j1i.l0 k x5 x6 s (P s (34 :: l))) R:=fun {R} hR=>by
    refine st hq2 (Ev_shift ?_);simp only [j1i.j1];refine Ev.congr (fun _=>if_neg zq50) (Ev.congr (fun _=>if_pos (by omega)) ?_);exact Ev.bind (a:=x5++[(⟨P s (34 :: l),P s t⟩:S49)]) (Ev.now _) (Ev.bind hb hR)
   have e1:memL (34 :: l)=(match skB t with
    | []=>none
    | d :: u=>if d=58 then (match valL (skB u) with
     | none=>none
     | some v=>(match skB v with
      | []=>none
      | e :: x=>if e=125 then some x else if e=44 then memL (skB x) else none)) else none):=by
    rw [memL.eq_def];simp only [if_true];split
    ·rename_i h0;rw [h0] at e;cases e
    ·rename_i t' h0;rw [h0] at e;cases e;split
     ·rename_i h1;rw [h1]
     ·rename_i d u h1;rw [h1];simp only;split
      ·split
       ·rename_i h2;first|rfl|rw [h2]
       ·rename_i v h2
        first|rw [h2]|skip
        try simp only
        have k1:=valL_len h2;have k2:=j3r u;have k3:=j3r t;rw [h1] at k3;simp only [List.length_cons] at k3;rw [if_pos (by omega)];split<;>rename_i h3<;>rw [h3]
      ·rfl
   rw [e1]
   match h7:skB t,hbS with
   | [],_ =>
    refine ⟨fun r hr=>(by cases hr),fun _=>⟨[],[],P s [],go ?_⟩⟩;rw [h7];refine Ev.congr (fun k=>?_) (Ev.now _);simp only [take_nil,Option.bind_some,Bool.false_eq_true,if_false]
   | d :: u,hbS =>
    rw [h7] at hbl;simp only [List.length_cons] at hbl;by_cases e58:d=58
    rotate_left
    ·refine ⟨fun r hr=>(by simp only [if_neg e58] at hr;cases hr),fun _=>⟨[],[],P s (d :: u),go ?_⟩⟩;rw [h7];refine Ev.congr (fun k=>?_) (Ev.now _);simp only [j4a hs' hbS,if_neg e58,Option.bind_some,Bool.false_eq_true,if_false]
    have hu:=j3r u;have hb2:=j4h hs' u hbS.tail;have hV:=hv (skB u) zq66 hbS.tail.skB;simp only [if_pos e58];cases e3:valL (skB u) with
    | none =>
     obtain ⟨a1,a2,a3,a4,a5,q,hq3⟩:=hV.2 e3;refine ⟨fun r hr=>(by cases hr),fun _=>⟨[],[],q,go ?_⟩⟩;rw [h7];simp only [j4a hs' hbS,if_pos e58,Option.bind_some,if_true];exact Ev.bind hb2 (Ev.bind hq3 (Ev.congr (fun _=>if_neg (by simp)) (Ev.now _)))
    | some v =>
     obtain ⟨V,⟨p0,p1,p2,p3,p4⟩,hlV,hp,hvS,hq3⟩:=hV.1 v e3;obtain ⟨B2,hB2,hBu⟩:=j4c u;obtain ⟨B3,hB3,hBv⟩:=j4c v;have hvl:=valL_len e3;have hb3:=j4h hs' v hvS;have hb3S:=hvS.skB;have hb3l:=j3r v;have el:34 :: l=34 :: (b++34 :: (B1++58 :: (B2++(V++(B3++skB v))))):=by conv=>lhs;rw [eB,hBt,h7,e58,hBu,hlV,hBv]
     have eN:P s t=((PN s (34 :: l)+b.length+2:Nat):Int):=by
      have:=congrArg List.length eB;simp only [List.length_append,List.length_cons] at this;unfold P PN;simp only [List.length_cons];omega
     have eV:PN s (34 :: l)+b.length+2+B1.length+1+B2.length=PN s (skB u):=by
      have:=congrArg List.length el;rw [← hBv,← hlV] at this;simp only [List.length_append,List.length_cons] at this;unfold PN;simp only [List.length_cons];omega
     have go3:∀ {R},Ev (fun k=>(j1n.f s (P s (skB v)) 125).bind fun bt175=>(if bt175.1=true then (some (x5++[(⟨P s (34 :: l),P s t⟩:S49)],x6++[(⟨p0,p1,p2,p3,p4⟩:S27)],true,bt175.2.1,bt175.2.2)) else ((j1n.f bt175.2.1 bt175.2.2 44).bind fun bt178=>(if bt178.1=true then ((j1l.f k bt178.2.1 bt178.2.2).bind fun bt181=>(j1i.l0 k (x5++[(⟨P s (34 :: l),P s t⟩:S49)]) (x6++[(⟨p0,p1,p2,p3,p4⟩:S27)]) bt181.1 bt181.2)) else (some (([]:List S49),([]:List S27),false,bt178.2.1,bt178.2.2)))))) R →
      Ev (fun k=>j1i.l0 k x5 x6 s (P s (34 :: l))) R:=fun {R} hR=>by
      refine go ?_;rw [h7];simp only [j4a hs' hbS,if_pos e58,Option.bind_some,if_true];refine Ev.bind hb2 (Ev.bind hq3 (Ev.congr (fun _=>if_pos rfl) (Ev.congr (fun _=>if_pos (by omega)) ?_)));exact Ev.bind hb3 hR
     simp only
     match h8:skB v,hb3S with
     | [],_ =>
      refine ⟨fun r hr=>(by cases hr),fun _=>⟨[],[],P s [],go3 ?_⟩⟩;rw [h8];refine Ev.congr (fun k=>?_) (Ev.now _);simp only [take_nil,Option.bind_some,Bool.false_eq_true,if_false]
     | e :: x,hb3S =>
      rw [h8] at hb3l;simp only [List.length_cons] at hb3l;by_cases e125:e=125
      ·refine ⟨fun r hr=>?_,fun hr=>(by simp only [if_pos e125] at hr;cases hr)⟩;simp only [if_pos e125,Option.some.injEq] at hr;subst hr;refine ⟨34 :: (b++34 :: (B1++58 :: (B2++(V++(B3++[125]))))),[⟨P s (34 :: l),P s t⟩],[⟨p0,p1,p2,p3,p4⟩],by rw [el,h8,e125];simp, .one hB hB1 hB2 hB3 (by rw [eV];exact hp) rfl (by rw [eN,P_PN]) rfl,hb3S.tail,go3 ?_⟩;rw [h8];refine Ev.congr (fun k=>?_) (Ev.now _);simp only [j4a hs' hb3S,if_pos e125,Option.bind_some,if_true]
      by_cases e44:e=44
      rotate_left
      ·refine ⟨fun r hr=>(by simp only [if_neg e125,if_neg e44] at hr;cases hr),fun _=>⟨[],[],P s (e :: x),go3 ?_⟩⟩;rw [h8];refine Ev.congr (fun k=>?_) (Ev.now _);simp only [j4a hs' hb3S,if_neg e125,if_neg e44,Option.bind_some,Bool.false_eq_true,if_false]
      have hx:=j3r x;have hM:=ih (skB x) zq66 hb3S.tail.skB (x5++[(⟨P s (34 :: l),P s t⟩:S49)]) (x6++[(⟨p0,p1,p2,p3,p4⟩:S27)]) zq85 zq85;have hb4:=j4h hs' x hb3S.tail
      have go4:∀ {R},Ev (fun k=>j1i.l0 k (x5++[(⟨P s (34 :: l),P s t⟩:S49)]) (x6++[(⟨p0,p1,p2,p3,p4⟩:S27)]) s (P s (skB x))) R→Ev (fun k=>j1i.l0 k x5 x6 s (P s (34 :: l))) R:=fun {R} hR=>by
       refine go3 ?_;rw [h8];simp only [j4a hs' hb3S,if_neg e125,if_pos e44,Option.bind_some,if_true,Bool.false_eq_true,if_false];exact Ev.bind hb4 hR
      simp only [if_neg e125,if_pos e44];refine ⟨fun r hr=>?_,fun hr=>?_⟩
      ·obtain ⟨m,ns,ys,k1,k2,k3,k4⟩:=hM.1 r hr;obtain ⟨B4,hB4,hBx⟩:=j4c x
       have eM:PN s (34 :: l)+b.length+2+B1.length+1+B2.length+V.length+B3.length+1+B4.length=PN s (skB x):=by
        have:=congrArg List.length el;rw [h8,hBx] at this;simp only [List.length_append,List.length_cons] at this;unfold PN;simp only [List.length_cons];omega
       refine ⟨34 :: (b++34 :: (B1++58 :: (B2++(V++(B3++44 :: (B4++m)))))),⟨P s (34 :: l),P s t⟩ :: ns,⟨p0,p1,p2,p3,p4⟩ :: ys,?_, .more hB hB1 hB2 hB3 hB4 (by rw [eV];exact hp) (by rw [eM];exact k2) rfl (by rw [eN,P_PN]) rfl,k3,?_⟩
       ·rw [el,h8,e44,hBx,k1];simp
       ·have:=go4 k4;rw [List.append_assoc,List.append_assoc] at this;exact this
      ·obtain ⟨ns,ys,q,k4⟩:=hM.2 hr;exact ⟨ns,ys,q,go4 k4⟩
end
end Go.Proofs.YthmjfmpgmcgonaaDoor.J
end
section
namespace Go.Proofs.YthmjfmpgmcgonaaDoor.J
open Go.RowKit Go.Proofs.YthmjfmpgmcgonaaDoor.K Go.Proofs.YthmjfmpgmcgonaaDoorW.PrintWords Go.Proofs.YthmjfmpgmcgonaaDoorW.PrintLast
set_option linter.unusedVariables false

theorem wordL_head {w0 : Int} {w:List Int} {c:Int} {r:List Int} (h:c≠w0):wordL (w0 :: w) (c :: r)=none:=by
 unfold wordL;rw [if_neg];intro e;simp only [List.length_cons,List.take_succ_cons,List.cons.injEq] at e;exact h e.1
theorem nullB : bytesOf (⟨#[110,117,108,108]⟩:ByteArray)=nullW:=by decide
theorem falseB : bytesOf (⟨#[102,97,108,115,101]⟩:ByteArray)=falseW:=by decide
theorem trueB : bytesOf (⟨#[116,114,117,101]⟩:ByteArray)=trueW:=by decide
theorem wordL_suf {s : ByteArray} {w l r:List Int} (h:Suf s l) (k:wordL w l=some r):Suf s r:=by
 unfold wordL at k;split at k
 ·cases k;exact h.drop _
 ·cases k
def wdL (l : List Int):Option (List Int) :=
  match l with
  | []=>none
  | c :: r=>if c=110 then wordL nullW (c :: r) else if c=102 then wordL falseW (c :: r) else if c=116 then wordL trueW (c :: r) else none
section
variable {s : ByteArray} (hs:s.size≤2147483647)
include hs
theorem words_of {l : List Int} (h:Suf s l) :
 (∀ r,wdL l=some r→∃ (v:List Int) (p:S27),l=v++r∧PV (PN s l) v p∧Suf s r∧Ev (fun k=>j1m.j0 k true false s (P s l) 0 (P s l) 0) (p.f0,p.f1,p.f2,p.f3,p.f4,true,s,P s r)) ∧
 (wdL l=none→∃ a b c d e q,Ev (fun k=>j1m.j0 k true false s (P s l) 0 (P s l) 0) (a,b,c,d,e,false,s,q)):=by
 have hs':s.size≤140737488351232:=by omega
 have w1:=word_eq hs' h (⟨#[110,117,108,108]⟩:ByteArray) zq50;have w2:=word_eq hs' h (⟨#[102,97,108,115,101]⟩:ByteArray) zq50;have w3:=word_eq hs' h (⟨#[116,114,117,101]⟩:ByteArray) zq50;rw [nullB] at w1;rw [falseB] at w2;rw [trueB] at w3
 have yes:∀ {kd:Int} {w r:List Int},(kd=0∧w=nullW∨kd=1∧w=falseW∨kd=2∧w=trueW)→wordL w l=some r→Ev (fun k=>j1m.j0 k true false s (P s l) 0 (P s l) 0) (kd,P s l,P s r,[],[],true,s,P s r) →
  ∃ (v:List Int) (p:S27),l=v++r∧PV (PN s l) v p∧Suf s r∧Ev (fun k=>j1m.j0 k true false s (P s l) 0 (P s l) 0) (p.f0,p.f1,p.f2,p.f3,p.f4,true,s,P s r):=fun {kd w r} hk hr hE=>by
  have e:l=w++r:=by
   unfold wordL at hr;split at hr
   ·rename_i h1;cases hr
    conv=>lhs;rw [← List.take_append_drop w.length l,h1]
   ·cases hr
  refine ⟨w,⟨kd,P s l,P s r,[],[]⟩,e, .sca (k:=kd) (.inr hk) ?_,wordL_suf h hr,hE⟩;rw [P_PN,P_PN,PN_app (s:=s) (x:=w) (l:=r) (by rw [← e];exact h.le),← e]
 have no:wordL nullW l=none→wordL falseW l=none→wordL trueW l=none→∃ a b c d e q,Ev (fun k=>j1m.j0 k true false s (P s l) 0 (P s l) 0) (a,b,c,d,e,false,s,q):=fun k1 k2 k3=>by
  rw [k1] at w1;rw [k2] at w2;rw [k3] at w3;refine ⟨0,P s l,P s l,[],[],P s l,Ev_shift (Ev.congr (fun k=>?_) (Ev.now _))⟩;simp only [j1m.j0,Bool.false_eq_true,if_false,w1,w2,w3,Option.bind_some]
 match l,h with
 | [],h=>exact ⟨fun r hr=>(by cases hr),fun _=>no rfl rfl rfl⟩
 | c :: r0,h =>
  unfold wdL;by_cases e1:c=110
  ·simp only [if_pos e1];have k2:wordL falseW (c :: r0)=none:=wordL_head (by omega);have k3:wordL trueW (c :: r0)=none:=wordL_head (by omega);refine ⟨fun r hr=>?_,fun hr=>no hr k2 k3⟩;rw [hr] at w1;refine yes (kd:=0) (w:=nullW) (by simp) hr (Ev_shift (Ev.congr (fun k=>?_) (Ev.now _)));simp only [j1m.j0,Bool.false_eq_true,if_false,w1,Option.bind_some,if_true]
  have k1:wordL nullW (c :: r0)=none:=wordL_head e1;simp only [if_neg e1];by_cases e2:c=102
  ·simp only [if_pos e2];have k3:wordL trueW (c :: r0)=none:=wordL_head (by omega);refine ⟨fun r hr=>?_,fun hr=>no k1 hr k3⟩;have hr':=hr;rw [k1] at w1;rw [hr] at w2;refine yes (kd:=1) (w:=falseW) (by simp) hr' (Ev_shift (Ev.congr (fun k=>?_) (Ev.now _)));simp only [j1m.j0,Bool.false_eq_true,if_false,w1,w2,Option.bind_some,if_true]
  have k2:wordL falseW (c :: r0)=none:=wordL_head e2;simp only [if_neg e2];by_cases e3:c=116
  rotate_left
  ·simp only [if_neg e3];exact ⟨fun r hr=>(by cases hr),fun _=>no k1 k2 (wordL_head e3)⟩
  simp only [if_pos e3];refine ⟨fun r hr=>?_,fun hr=>no k1 k2 hr⟩;have hr':=hr;rw [k1] at w1;rw [k2] at w2;rw [hr] at w3;refine yes (kd:=2) (w:=trueW) (by simp) hr' (Ev_shift (Ev.congr (fun k=>?_) (Ev.now _)));simp only [j1m.j0,Bool.false_eq_true,if_false,w1,w2,w3,Option.bind_some,if_true]
theorem obj_of {c : Int} {l:List Int} (h:Suf s (c :: l)) (ih:∀ u,u.length<l.length+1→Suf s u→MA s u) :
 (∀ r,objL l=some r→∃ (v:List Int) (ns:List S49) (ys:List S27),123 :: l=v++r∧PV (PN s (c :: l)) v ⟨6,P s (c :: l),P s r,ns,ys⟩∧Suf s r∧Ev (fun k=>j1i.f k s (P s (c :: l))) (ns,ys,true,s,P s r)) ∧
 (objL l=none→∃ ns ys q,Ev (fun k=>j1i.f k s (P s (c :: l))) (ns,ys,false,s,q)):=by
 have hs':s.size≤140737488351232:=by omega
 have hb:=j4h hs' l h.tail;have hbS:=h.tail.skB;have hbl:=j3r l
 have go:∀ {R},Ev (fun k=>(j1n.f s (P s (skB l)) 125).bind fun bt138=>(if bt138.1=true then (some (([]:List S49),([]:List S27),true,bt138.2.1,bt138.2.2)) else (j1i.l0 k ([]:List S49) ([]:List S27) bt138.2.1 bt138.2.2))) R→Ev (fun k=>j1i.f k s (P s (c :: l))) R:=fun {R} hR=>by
  refine Ev_shift ?_;simp only [j1i.f,up_P hs' h];exact Ev.bind hb hR
 have e1:objL l=(match skB l with
  | []=>none
  | c :: r=>if c=125 then some r else memL (c :: r)):=by
  rw [objL.eq_def];split<;>rename_i h1<;>rw [h1]
 rw [e1]
 match h5:skB l,hbS with
 | [],hbS =>
  rw [h5] at go hbl;have hM:=ih [] (by simp) hbS [] [] (by simp) (by simp);refine ⟨fun r hr=>(by cases hr),fun _=>?_⟩;obtain ⟨ns,ys,q,hq⟩:=hM.2 (by rw [memL.eq_def]);refine ⟨ns,ys,q,go ?_⟩;simp only [take_nil,Option.bind_some,Bool.false_eq_true,if_false];exact hq
 | d :: u,hbS =>
  rw [h5] at go hbl;simp only [List.length_cons] at hbl;by_cases e:d=125
  ·refine ⟨fun r hr=>?_,fun hr=>(by simp only [if_pos e] at hr;cases hr)⟩;simp only [if_pos e,Option.some.injEq] at hr;subst hr;obtain ⟨B,hB,hBl⟩:=j4c l;have el:123 :: l=(123 :: (B++[125]))++u:=by rw [hBl,h5,e];simp
   refine ⟨123 :: (B++[125]),[],[],el, .obj0 hB rfl ?_,hbS.tail,go (Ev.congr (fun k=>?_) (Ev.now _))⟩
   ·have:=congrArg List.length el;have hle:=h.le;simp only [List.length_append,List.length_cons] at this hle;unfold P PN;simp only [List.length_append,List.length_cons]
    congr 1
    omega
   simp only [j4a hs' hbS,if_pos e,Option.bind_some,if_true]
  have hle:=hbS.le;have hM:=ih (d :: u) zq66 hbS [] [] (by simpa using hle) (by simpa using hle)
  have go2:∀ {R},Ev (fun k=>j1i.l0 k [] [] s (P s (d :: u))) R→Ev (fun k=>j1i.f k s (P s (c :: l))) R:=fun {R} hR=>by
   refine go ?_;simp only [j4a hs' hbS,if_neg e,Option.bind_some,Bool.false_eq_true,if_false];exact hR
  simp only [if_neg e];refine ⟨fun r hr=>?_,fun hr=>?_⟩
  ·obtain ⟨m,ns,ys,k1,k2,k3,k4⟩:=hM.1 r hr;obtain ⟨B,hB,hBl⟩:=j4c l;have el:123 :: l=(123 :: (B++m))++r:=by rw [hBl,h5,k1];simp
   have e2:=congrArg List.length el;have hle:=h.le;have e3:=congrArg List.length k1;simp only [List.length_append,List.length_cons] at e2 hle e3;refine ⟨123 :: (B++m),ns,ys,el, .obj hB (m:=m) (ns:=ns) (ps:=ys) ?_ rfl ?_,k3,go2 k4⟩
   ·rw [show PN s (c :: l)+1+B.length=PN s (d :: u) by unfold PN;simp only [List.length_cons];omega];exact k2
   ·unfold P PN;simp only [List.length_append,List.length_cons]
    congr 1
    omega
  ·obtain ⟨ns,ys,q,k4⟩:=hM.2 hr;exact ⟨ns,ys,q,go2 k4⟩
theorem arr_of {c : Int} {l:List Int} (h:Suf s (c :: l)) (ih:∀ u,u.length<l.length+1→Suf s u→EA s u) :
 (∀ r,arrL l=some r→∃ (v:List Int) (ys:List S27),91 :: l=v++r∧PV (PN s (c :: l)) v ⟨5,P s (c :: l),P s r,[],ys⟩∧Suf s r∧Ev (fun k=>j1q.f k s (P s (c :: l))) (ys,true,s,P s r)) ∧
 (arrL l=none→∃ ys q,Ev (fun k=>j1q.f k s (P s (c :: l))) (ys,false,s,q)):=by
 have hs':s.size≤140737488351232:=by omega
 have hb:=j4h hs' l h.tail;have hbS:=h.tail.skB;have hbl:=j3r l
 have go:∀ {R},Ev (fun k=>(j1n.f s (P s (skB l)) 93).bind fun bt185=>(if bt185.1=true then (some (([]:List S27),true,bt185.2.1,bt185.2.2)) else (j1q.l0 k ([]:List S27) bt185.2.1 bt185.2.2))) R→Ev (fun k=>j1q.f k s (P s (c :: l))) R:=fun {R} hR=>by
  refine Ev_shift ?_;simp only [j1q.f,up_P hs' h];exact Ev.bind hb hR
 have e1:arrL l=(match skB l with
  | []=>none
  | c :: r=>if c=93 then some r else elsL (c :: r)):=by
  rw [arrL.eq_def];split<;>rename_i h1<;>rw [h1]
 rw [e1]
 match h5:skB l,hbS with
 | [],hbS =>
  rw [h5] at go hbl;have hM:=ih [] (by simp) hbS [] (by simp);refine ⟨fun r hr=>(by cases hr),fun _=>?_⟩;obtain ⟨ys,q,hq⟩:=hM.2 (by rw [elsL.eq_def,valL.eq_def]);refine ⟨ys,q,go ?_⟩;simp only [take_nil,Option.bind_some,Bool.false_eq_true,if_false];exact hq
 | d :: u,hbS =>
  rw [h5] at go hbl;simp only [List.length_cons] at hbl;by_cases e:d=93
  ·refine ⟨fun r hr=>?_,fun hr=>(by simp only [if_pos e] at hr;cases hr)⟩;simp only [if_pos e,Option.some.injEq] at hr;subst hr;obtain ⟨B,hB,hBl⟩:=j4c l;have el:91 :: l=(91 :: (B++[93]))++u:=by rw [hBl,h5,e];simp
   refine ⟨91 :: (B++[93]),[],el, .arr0 hB rfl ?_,hbS.tail,go (Ev.congr (fun k=>?_) (Ev.now _))⟩
   ·have:=congrArg List.length el;have hle:=h.le;simp only [List.length_append,List.length_cons] at this hle;unfold P PN;simp only [List.length_append,List.length_cons]
    congr 1
    omega
   simp only [j4a hs' hbS,if_pos e,Option.bind_some,if_true]
  have hle:=hbS.le;have hM:=ih (d :: u) zq66 hbS [] (by simpa using hle)
  have go2:∀ {R},Ev (fun k=>j1q.l0 k [] s (P s (d :: u))) R→Ev (fun k=>j1q.f k s (P s (c :: l))) R:=fun {R} hR=>by
   refine go ?_;simp only [j4a hs' hbS,if_neg e,Option.bind_some,Bool.false_eq_true,if_false];exact hR
  simp only [if_neg e];refine ⟨fun r hr=>?_,fun hr=>?_⟩
  ·obtain ⟨m,ys,k1,k2,k3,k4⟩:=hM.1 r hr;obtain ⟨B,hB,hBl⟩:=j4c l;have el:91 :: l=(91 :: (B++m))++r:=by rw [hBl,h5,k1];simp
   have e2:=congrArg List.length el;have hle:=h.le;have e3:=congrArg List.length k1;simp only [List.length_append,List.length_cons] at e2 hle e3;refine ⟨91 :: (B++m),ys,el, .arr hB (m:=m) (ps:=ys) ?_ rfl ?_,k3,go2 k4⟩
   ·rw [show PN s (c :: l)+1+B.length=PN s (d :: u) by unfold PN;simp only [List.length_cons];omega];exact k2
   ·unfold P PN;simp only [List.length_append,List.length_cons]
    congr 1
    omega
  ·obtain ⟨ys,q,k4⟩:=hM.2 hr;exact ⟨ys,q,go2 k4⟩
theorem val_of {l : List Int} (h:Suf s l) (ihE:∀ u,u.length<l.length→Suf s u→EA s u) (ihM:∀ u,u.length<l.length→Suf s u→MA s u):VA s l:=by
 have hs':s.size≤140737488351232:=by omega
 match l,h with
 | [],h =>
  refine ⟨fun r hr=>(by rw [valL.eq_def] at hr;cases hr),fun _=>?_⟩;obtain ⟨a,b,c,d,e,q,hq⟩:=(words_of hs h).2 rfl;refine ⟨a,b,c,d,e,q,Ev_shift ?_⟩;simp only [j1m.f,here_P0,Option.bind_some];refine Ev.congr (fun k=>?_) hq;rw [if_neg zq50,if_neg zq50,if_neg zq50,if_neg zq50,if_neg zq50]
 | c :: l,h =>
  have st:∀ {R},Ev (fun k=>if c=123 then ((j1i.f k s (P s (c :: l))).bind fun bt106=>(some (6,P s (c :: l),bt106.2.2.2.2,bt106.1,bt106.2.1,bt106.2.2.1,bt106.2.2.2.1,bt106.2.2.2.2))) else (if c=91 then ((j1q.f k s (P s (c :: l))).bind fun bt115=>(some (5,P s (c :: l),bt115.2.2.2,([]:List S49),bt115.1,bt115.2.1,bt115.2.2.1,bt115.2.2.2))) else (if c=34 then ((j1v.f k s (P s (c :: l))).bind fun bt121=>(some (4,P s (c :: l),bt121.2.2,([]:List S49),([]:List S27),bt121.1,bt121.2.1,bt121.2.2))) else (if c=45 then (j1m.j0 k true true s (P s (c :: l)) 0 (P s (c :: l)) 0) else (if 48≤c then (j1m.j0 k true (decide (c≤57)) s (P s (c :: l)) 0 (P s (c :: l)) 0) else (j1m.j0 k true false s (P s (c :: l)) 0 (P s (c :: l)) 0)))))) R →
   Ev (fun k=>j1m.f k s (P s (c :: l))) R:=fun {R} hR=>by
   refine Ev_shift ?_;simp only [j1m.f,here_P h,Option.bind_some];exact hR
  have hnum:Ev (fun k=>j1m.j0 k true true s (P s (c :: l)) 0 (P s (c :: l)) 0)=Ev (fun k=>(j1j.f (k - 1) s (P s (c :: l))).bind fun bt124=>(some (3,P s (c :: l),bt124.2.2,([]:List S49),([]:List S27),bt124.1,bt124.2.1,bt124.2.2))):=by
   funext R
   apply propext
   constructor
   ·rintro ⟨K,hK⟩;refine ⟨K+1,fun k hk=>?_⟩;obtain ⟨k,rfl⟩:∃ m,k=m+1:=⟨k - 1,by omega⟩;have:=hK (k+1) (by omega)
    simpa only [j1m.j0,if_true,Nat.add_sub_cancel] using this
   ·rintro ⟨K,hK⟩;refine ⟨K+1,fun k hk=>?_⟩;obtain ⟨k,rfl⟩:∃ m,k=m+1:=⟨k - 1,by omega⟩;have:=hK (k+1) (by omega)
    simpa only [j1m.j0,if_true,Nat.add_sub_cancel] using this
  have sh:∀ {α:Type} {g:Nat→Option α} {R},Ev g R→Ev (fun k=>g (k - 1)) R:=by
   rintro α g R ⟨K,hK⟩;exact ⟨K+1,fun k hk=>hK _ (by omega)⟩
  rw [VA,valL.eq_def];simp only;by_cases e123:c=123
  ·have hO:=obj_of hs h (fun u hu hS=>ihM u (by simpa using hu) hS);simp only [if_pos e123];refine ⟨fun r hr=>?_,fun hr=>?_⟩
   ·obtain ⟨v,ns,ys,k1,k2,k3,k4⟩:=hO.1 r hr;exact ⟨v,⟨6,P s (c :: l),P s r,ns,ys⟩,by rw [e123];exact k1,k2,k3,st (Ev.congr (fun _=>if_pos e123) (Ev.bind k4 (Ev.now _)))⟩
   ·obtain ⟨ns,ys,q,k4⟩:=hO.2 hr;exact ⟨_,_,_,_,_,_,st (Ev.congr (fun _=>if_pos e123) (Ev.bind k4 (Ev.now _)))⟩
  simp only [if_neg e123];by_cases e91:c=91
  ·have hO:=arr_of hs h (fun u hu hS=>ihE u (by simpa using hu) hS);simp only [if_pos e91];refine ⟨fun r hr=>?_,fun hr=>?_⟩
   ·obtain ⟨v,ys,k1,k2,k3,k4⟩:=hO.1 r hr;exact ⟨v,⟨5,P s (c :: l),P s r,[],ys⟩,by rw [e91];exact k1,k2,k3,st (Ev.congr (fun _=>by rw [if_neg e123,if_pos e91]) (Ev.bind k4 (Ev.now _)))⟩
   ·obtain ⟨ys,q,k4⟩:=hO.2 hr;exact ⟨_,_,_,_,_,_,st (Ev.congr (fun _=>by rw [if_neg e123,if_pos e91]) (Ev.bind k4 (Ev.now _)))⟩
  simp only [if_neg e91];by_cases e34:c=34
  ·subst e34;have hq:=quoted_P hs' h;simp only [if_true];refine ⟨fun r hr=>?_,fun hr=>?_⟩
   ·obtain ⟨b,hB,eB⟩:=strL_iff.mp hr;have el:34 :: l=(34 :: (b++[34]))++r:=by rw [eB];simp
    refine ⟨34 :: (b++[34]),⟨4,P s (34 :: l),P s r,[],[]⟩,el, .str hB rfl ?_,h.tail.str hr,st (Ev.congr (fun _=>by rw [if_neg zq50,if_neg zq50,if_pos rfl]) (Ev.bind (hq.1 r hr) (Ev.now _)))⟩;have:=congrArg List.length el;have hle:=h.le;simp only [List.length_append,List.length_cons] at this hle;unfold P PN;simp only [List.length_append,List.length_cons]
    congr 1
    omega
   ·obtain ⟨q,k4⟩:=hq.2 hr;exact ⟨_,_,_,_,_,_,st (Ev.congr (fun _=>by rw [if_neg zq50,if_neg zq50,if_pos rfl]) (Ev.bind k4 (Ev.now _)))⟩
  simp only [if_neg e34];by_cases eN:c=45∨isD c=true
  rotate_left
  ·simp only [if_neg eN]
   have st2:∀ {R},Ev (fun k=>j1m.j0 k true false s (P s (c :: l)) 0 (P s (c :: l)) 0) R→Ev (fun k=>j1m.f k s (P s (c :: l))) R:=fun {R} hR=>by
    refine st (Ev.congr (fun k=>?_) hR);have e45:c≠45:=fun e=>eN (.inl e)
    rw [if_neg e123,if_neg e91,if_neg e34,if_neg e45];by_cases e48:48≤c
    rotate_left
    ·rw [if_neg e48]
    have:¬ c≤57:=fun e=>eN (.inr (by simp [isD,e48,e]))
    rw [if_pos e48,decide_eq_false this]
   have hw:=words_of hs h;refine ⟨fun r hr=>?_,fun hr=>?_⟩
   ·obtain ⟨v,p,k0,k1,k2,k3⟩:=hw.1 r hr;exact ⟨v,p,k0,k1,k2,st2 k3⟩
   ·obtain ⟨a,b,c',d,e,q,k3⟩:=hw.2 hr;exact ⟨a,b,c',d,e,q,st2 k3⟩
  simp only [if_pos eN]
  have st2:∀ {R},Ev (fun k=>j1m.j0 k true true s (P s (c :: l)) 0 (P s (c :: l)) 0) R→Ev (fun k=>j1m.f k s (P s (c :: l))) R:=fun {R} hR=>by
   refine st (Ev.congr (fun k=>?_) hR);rw [if_neg e123,if_neg e91,if_neg e34];by_cases e45:c=45
   ·rw [if_pos e45]
   have hd:isD c=true:=eN.resolve_left e45;simp only [isD,decide_eq_true_eq] at hd;rw [if_neg e45,if_pos hd.1,decide_eq_true hd.2]
  have hn:=number_P hs' h;refine ⟨fun r hr=>?_,fun hr=>?_⟩
  ·obtain ⟨k1,k2⟩:=hn.1 r hr;obtain ⟨v,el,hv,_⟩:=numL_cut hr;refine ⟨v,⟨3,P s (c :: l),P s r,[],[]⟩,el, .sca (k:=3) (.inl ⟨rfl,hv⟩) (by rw [P_PN,P_PN,PN_app (s:=s) (x:=v) (l:=r) (by rw [← el];exact h.le),← el]),k2,st2 ?_⟩;rw [hnum];exact Ev.bind (sh k1) (Ev.now _)
  ·obtain ⟨q,k1⟩:=hn.2 hr;refine ⟨3,P s (c :: l),q,[],[],q,st2 ?_⟩;rw [hnum];exact Ev.bind (sh k1) (Ev.now _)
theorem reader_all : ∀ n:Nat,∀ l,l.length≤n→Suf s l→VA s l∧EA s l∧MA s l:=by
 intro n
 induction n with
 | zero =>
  intro l hl h;have e:=List.length_eq_zero_iff.mp (Nat.le_zero.mp hl);subst e;have hv:=val_of hs h (fun u hu _=>(by simp at hu)) (fun u hu _=>(by simp at hu));exact ⟨hv,els_of hs h hv (fun u hu _=>(by simp at hu)),mem_of hs h (fun u hu _=>(by simp at hu)) (fun u hu _=>(by simp at hu))⟩
 | succ n ih =>
  intro l hl h;have hv:=val_of hs h (fun u hu hS=>(ih u (by omega) hS).2.1) (fun u hu hS=>(ih u (by omega) hS).2.2);exact ⟨hv,els_of hs h hv (fun u hu hS=>(ih u (by omega) hS).2.1),mem_of hs h (fun u hu hS=>(ih u (by omega) hS).1) (fun u hu hS=>(ih u (by omega) hS).2.2)⟩
end
def textL (l : List Int):Bool:=match valL (skB l) with
  | none=>false
  | some r=>(skB r).isEmpty
theorem places_eq {s : ByteArray} (hs:s.size≤2147483647) :
 (textL (bytesOf s)=true→∃ (B v B':List Int) (p:S27),bytesOf s=B++(v++B')∧Bl B∧Bl B'∧PV B.length v p∧Ev (fun k=>j3l.f k s) (p.f0,p.f1,p.f2,p.f3,p.f4,true)) ∧
 (textL (bytesOf s)=false→Ev (fun k=>j3l.f k s) (0,0,0,[],[],false)):=by
 have hs':s.size≤140737488351232:=by omega
 have h0:=Suf.start s;have hb:=j4h hs' _ h0;have e0:P s (bytesOf s)=0:=by unfold P;rw [bytesOf_length];simp
 rw [e0] at hb;have hV:=(reader_all hs _ _ (Nat.le_refl _) h0.skB).1;unfold textL;cases e:valL (skB (bytesOf s)) with
 | none =>
  obtain ⟨a,b,c,d,e',q,hq⟩:=hV.2 e;refine ⟨fun h=>(by cases h),fun _=>?_⟩;unfold j3l.f;exact Ev.bind hb (Ev.bind hq (Ev.congr (fun _=>if_neg (by simp)) (Ev.now _)))
 | some r =>
  obtain ⟨v,p,hlv,hp,hr,hq⟩:=hV.1 r e;have hb2:=j4h hs' r hr;have hbS:=hr.skB;simp only;cases e2:skB r with
  | nil =>
   rw [e2,P_nil] at hb2;obtain ⟨B,hB,hBl⟩:=j4c (bytesOf s);obtain ⟨B',hB',hBr⟩:=j4c r;rw [e2,List.append_nil] at hBr
   have ep:PN s (skB (bytesOf s))=B.length:=by
    have:=congrArg List.length hBl;rw [bytesOf_length,List.length_append] at this;unfold PN;omega
   rw [ep] at hp;refine ⟨fun _=>⟨B,v,B',p,by rw [hBr] at hlv;rw [← hlv];exact hBl,hB,hB',hp,?_⟩,fun h=>(by simp at h)⟩;unfold j3l.f;exact Ev.bind hb (Ev.bind hq (Ev.congr (fun _=>if_pos rfl) (Ev.bind hb2 (Ev.congr (fun _=>if_pos rfl) (Ev.now _)))))
  | cons c t =>
   rw [e2] at hb2 hbS;have:=P_lt hbS;refine ⟨fun h=>(by simp at h),fun _=>?_⟩;unfold j3l.f;exact Ev.bind hb (Ev.bind hq (Ev.congr (fun _=>if_pos rfl) (Ev.bind hb2 (Ev.congr (fun _=>if_neg (by simp only;omega)) (Ev.now _)))))
end Go.Proofs.YthmjfmpgmcgonaaDoor.J
end
section
namespace Go.Proofs.YthmjfmpgmcgonaaDoor.J
open Go.RowKit Go.Proofs.YthmjfmpgmcgonaaDoor.K Go.Proofs.YthmjfmpgmcgonaaDoorW.PrintWords Go.Proofs.YthmjfmpgmcgonaaDoorW.PrintLast
set_option linter.unusedVariables false
set_option linter.unusedSimpArgs false
set_option linter.unusedSectionVars false

theorem j4e {l : List Int} {i:Nat} {c:Int} {t:List Int} (h:l.drop i=c :: t):l.drop (i+1)=t:=by rw [← List.drop_drop,h];rfl
theorem j2z {l x y:List Int} {i:Nat} (h:l.drop i=x++y):l.drop (i+x.length)=y:=by rw [← List.drop_drop,h,List.drop_left]
theorem drop_lt {l : List Int} {i:Nat} {c:Int} {t:List Int} (h:l.drop i=c :: t):i<l.length:=by
 have:=congrArg List.length h;simp at this;omega
theorem j3w {l : List Int} {i:Nat} {c:Int} {t:List Int} (h:l.drop i=c :: t):l.getD i 0=c:=by
 have:=at_int (drop_lt h);rw [h] at this;exact (List.cons.inj this).1.symm
theorem unqL_id : ∀ {b:List Int},92 ∉ b→unqL b=b
 | [],_=>unqL_nil
 | c :: b,h=>by
  rw [unqL_raw b (fun e=>h (by simp [e])),unqL_id (fun k=>h (List.mem_cons_of_mem _ k))]
def Told (L w : List Int) (p:S27) (x:AC):Prop :=
  ∃ (a:Nat) (v R r:List Int),PV a v p∧L.drop a=v++R∧w.drop (pick x).1=v++r∧(pick x).2=v.length∧Dl r∧x.kd=jkind p.f0∧v.length<w.length∧(x.kd=1→x.vo=(pick x).1+1∧x.vn+2=v.length∧x.off=((pick x).1:Int)+2)∧(x.kd≠1→x.vo=(pick x).1∧x.vn=v.length∧x.off=((pick x).1:Int))
theorem jk_str {k : Int}:jkind k=1↔k=4:=by
 unfold jkind
 constructor
 ·intro h
  repeat' split at h
  all_goals first|assumption|(exact absurd h zq50)
 ·intro h;rw [if_pos h]
theorem PV.str_len {a : Nat} {v:List Int} {p:S27} (h:PV a v p) (hk:p.f0=4):2≤v.length:=by
 cases h with
 | str _ e _=>subst e;simp
 | sca h e=>subst e;simp only at hk;omega
 | obj0 _ _ e=>subst e;simp at hk
 | obj _ _ _ e=>subst e;simp at hk
 | arr0 _ _ e=>subst e;simp at hk
 | arr _ _ _ e=>subst e;simp at hk
theorem told_of {sq : Bool} {L w:List Int} {a q:Nat} {B v R r:List Int} {p:S27} (hB:Bl B) (hv:PV a v p) (hL:L.drop a=v++R) (hw:w.drop q=B++(v++r)) (hr:Dl r) (hlt:v.length<w.length) :
 nT (w.drop q) 0=(B.length:Int)∧gT sq (w.drop q) B.length=⟨jkind p.f0,B.length+v.length,true⟩∧Told L w p (acOf ⟨jkind p.f0,B.length+v.length,true⟩ q B.length):=by
 obtain ⟨c,t,ev,hc⟩:=hv.head;refine ⟨?_,?_,a,v,R,r,hv,hL,?_⟩
 ·rw [hw,ev,List.cons_append,nT_bl hB hc.nb];omega
 ·exact gT_PV hv (by rw [hw,List.drop_left]) hr
 ·have hwd:=j2z hw;by_cases hk:p.f0=4
  ·have h2:=hv.str_len hk;have hk1:jkind p.f0=1:=jk_str.mpr hk
   have hp:pick (acOf ⟨jkind p.f0,B.length+v.length,true⟩ q B.length)=(q+B.length,v.length):=by
    unfold pick acOf vN;simp only [hk1,if_true]
    congr 1<;>omega
   rw [hp];refine ⟨hwd,rfl,hr,rfl,hlt,fun _=>?_,fun h=>absurd hk1 h⟩;unfold acOf vN vB;simp only [hk1,if_true];omega
  have hk1:jkind p.f0≠1:=fun h=>hk (jk_str.mp h)
  have hp:pick (acOf ⟨jkind p.f0,B.length+v.length,true⟩ q B.length)=(q+B.length,v.length):=by
   unfold pick acOf vN;simp only [hk1,if_false]
   congr 1<;>omega
  rw [hp];refine ⟨hwd,rfl,hr,rfl,hlt,fun h=>absurd h hk1,fun _=>?_⟩;unfold acOf vN vB;simp only [hk1,if_false];exact ⟨trivial,by omega,by omega⟩
inductive TL (L w : List Int):List S27→List AC→Prop
  | nil:TL L w [] []
  | cons {p:S27} {x:AC} {ps:List S27} {cs:List AC}:Told L w p x→TL L w ps cs→TL L w (p :: ps) (x :: cs)
theorem TL.len {L w : List Int} {ps:List S27} {cs:List AC} (h:TL L w ps cs):cs.length=ps.length:=by
 induction h with
 | nil=>rfl
 | cons _ _ ih=>simp [ih]
theorem TL.get {L w : List Int} {ps:List S27} {cs:List AC} (h:TL L w ps cs):∀ {j:Nat} {p:S27},ps[j]? = some p→∃ x,cs[j]? = some x∧Told L w p x:=by
 induction h with
 | nil=>intro j p h;simp at h
 | cons h1 _ ih =>
  intro j p h;cases j with
  | zero=>simp at h;subst h;exact ⟨_,by simp,h1⟩
  | succ j=>simpa using ih (by simpa using h)
theorem els_calls {sq : Bool} {L w:List Int}:∀ (n:Nat) (a q:Nat) (B m R r:List Int) (ps:List S27),m.length≤n→Bl B→PE a m ps→L.drop a=m++R→w.drop q=B++(m++r)→∃ cs,aEl sq w n q=some (cs,q+B.length+m.length - 1)∧TL L w ps cs:=by
 intro n
 induction n with
 | zero =>
  intro a q B m R r ps hn _ h;cases h with
  | one _ _ e _=>subst e;simp at hn
  | more _ _ _ _ e _=>subst e;simp at hn
 | succ n ih =>
  intro a q B m R r ps hn hB h hL hw;have hwl:=congrArg List.length hw;simp only [List.length_drop,List.length_append] at hwl;cases h with
  | @one _ _ v B1 p _ hB1 hv e ep =>
   subst e ep;simp only [List.length_append,List.length_cons,List.length_nil] at hwl hn;have hd:Dl (B1++93 :: r):=Dl_bl hB1 (Dl_cons (.inr (.inl rfl)));obtain ⟨h1,h2,h3⟩:=told_of (sq:=sq) (L:=L) (w:=w) hB hv (R:=(B1++[93])++R) zq82 (r:=B1++93 :: r) (by rw [hw];simp) hd (by omega)
   have h6:w.drop (q+(B.length+v.length))=B1++93 :: r:=by
    have:=j2z (x:=B++v) (y:=B1++93 :: r) (by rw [hw];simp)
    simpa using this
   have h5:nT (w.drop (q+(B.length+v.length))) 0=(B1.length:Int):=by
    rw [h6,nT_bl hB1 zq50];omega
   have hvp:=hv.pos;rw [aEl_step h1 h2 rfl (by simp only;omega) h5];have hg:w.getD (q+(B.length+v.length)+B1.length) 0=93:=j3w (j2z h6);simp only;rw [if_pos hg];refine ⟨_,?_, .cons h3 .nil⟩
   congr 2
   simp only [List.length_append,List.length_cons,List.length_nil];omega
  | @more _ _ v B1 B2 m' p _ ps' hB1 hB2 hv hm e ep =>
   subst e ep;simp only [List.length_append,List.length_cons,List.length_nil] at hwl hn;have hd:Dl (B1++44 :: (B2++(m'++r))):=Dl_bl hB1 (Dl_cons (.inl rfl));have hwx:w.drop q=B++(v++(B1++44 :: (B2++(m'++r)))):=by rw [hw];simp
   obtain ⟨h1,h2,h3⟩:=told_of (sq:=sq) (L:=L) (w:=w) hB hv (R:=(B1++44 :: (B2++m'))++R) zq82 hwx hd (by omega)
   have h6:w.drop (q+(B.length+v.length))=B1++44 :: (B2++(m'++r)):=by
    have:=j2z (x:=B++v) (y:=B1++44 :: (B2++(m'++r))) (by rw [hwx];simp)
    simpa using this
   have h5:nT (w.drop (q+(B.length+v.length))) 0=(B1.length:Int):=by
    rw [h6,nT_bl hB1 zq50];omega
   have hvp:=hv.pos;rw [aEl_step h1 h2 rfl (by simp only;omega) h5];have h7:=j2z h6;have hg:w.getD (q+(B.length+v.length)+B1.length) 0=44:=j3w h7
   have hLd:L.drop (a+v.length+B1.length+1+B2.length)=m'++R:=by
    have:=j2z (x:=v++(B1++44 :: B2)) (y:=m'++R) zq82;rw [← this]
    congr 1
    simp only [List.length_append,List.length_cons];omega
   obtain ⟨cs,h8,h9⟩:=ih _ (q+(B.length+v.length)+B1.length+1) B2 m' R r ps' (by omega) hB2 hm hLd (j4e h7);simp only;rw [if_neg (by rw [hg];decide),if_pos hg,h8];refine ⟨_,?_, .cons h3 h9⟩;simp only [Option.map_some]
   congr 2
   simp only [List.length_append,List.length_cons];omega
theorem aE_PV {sq : Bool} {L w:List Int} {a:Nat} {v R r:List Int} {p:S27} (h:PV a v p) (hk:p.f0=5) (hL:L.drop a=v++R) (hw:w=v++r):∃ cs,aE sq w=some (cs,v.length - 1)∧TL L w p.f4 cs:=by
 cases h with
 | str _ _ e=>subst e;simp at hk
 | sca h e=>subst e;simp only at hk;omega
 | obj0 _ _ e=>subst e;simp at hk
 | obj _ _ _ e=>subst e;simp at hk
 | @arr0 _ _ B _ hB e ep =>
  subst e ep;rw [List.cons_append,List.append_assoc] at hw;have h1:nT w 0=((0:Nat):Int):=by rw [hw,nT,if_neg zq50]
  have h2:w.getD 0 0=91:=by rw [hw];rfl
  have h3:nT (w.drop (0+1)) 0=(B.length:Int):=by
   rw [hw,Nat.zero_add,List.drop_succ_cons,List.drop_zero,List.cons_append,nT_bl hB zq50];omega
  have h4:w.getD (0+1+B.length) 0=93:=by
   refine j3w (t:=r) ?_;rw [hw,show 0+1+B.length=B.length+1 by omega,List.drop_succ_cons,List.drop_left];rfl
  rw [aE_eq h1 h2 h3,if_pos h4];refine ⟨_,?_, .nil⟩
  congr 2
  simp only [List.length_append,List.length_cons,List.length_nil];omega
 | @arr _ _ B m ps _ hB hm e ep =>
  subst e ep;rw [List.cons_append,List.append_assoc] at hw
  obtain ⟨v1,x1,y1,hv1,hm1⟩:∃ (v1:List Int) (x1:S27) (y1:List Int),PV (a+1+B.length) v1 x1∧m=v1++y1:=by
   cases hm with
   | one _ hv e _=>exact ⟨_,_,_,hv,e⟩
   | more _ _ hv _ e _=>exact ⟨_,_,_,hv,e⟩
  obtain ⟨c,t,ev,hc⟩:=hv1.head;have h1:nT w 0=((0:Nat):Int):=by rw [hw,nT,if_neg zq50]
  have h2:w.getD 0 0=91:=by rw [hw];rfl
  have hwd:w.drop (0+1)=B++(m++r):=by rw [hw];rfl
  have h3:nT (w.drop (0+1)) 0=(B.length:Int):=by
   rw [hwd,hm1,ev,List.cons_append,List.cons_append,nT_bl hB hc.nb];omega
  have hwm:w.drop (0+1+B.length)=[]++(m++r):=j2z hwd
  have h4:¬ w.getD (0+1+B.length) 0=93:=by
   rw [j3w (c:=c) (t:=t++y1++r) (by rw [hwm,hm1,ev];simp)];have:=hc;unfold V1 isD at this;simp only [decide_eq_true_eq] at this;omega
  rw [aE_eq h1 h2 h3,if_neg h4]
  have hLd:L.drop (a+1+B.length)=m++R:=by
   have:=j2z (x:=91 :: B) (y:=m++R) zq82;rw [← this]
   congr 1
   simp only [List.length_cons];omega
  have hwl:=congrArg List.length hw;simp only [List.length_append,List.length_cons] at hwl;obtain ⟨cs,h8,h9⟩:=els_calls (sq:=sq) (L:=L) (w:=w) w.length _ _ [] m R r ps (by omega) Bl.nil hm hLd hwm;refine ⟨cs,?_,h9⟩;rw [h8]
  congr 2
  simp only [List.length_append,List.length_cons,List.length_nil];omega
section
variable {sq : Bool} {un:List Int→Option (Option (List Int))} {ks:List ByteArray} {l:List Int}
def Pa (sq : Bool) (un:List Int→Option (Option (List Int))) (ks:List ByteArray) (l:List Int) (kl lv:Int) (i:Nat) (lm:Bool) (kl' lv':Int) (i':Nat) (lm':Bool):Prop:=∃ k,∀ n,sKl sq un (n+k) ks l kl lv i lm=sKl sq un n ks l kl' lv' i' lm'
def Pd (sq : Bool) (un:List Int→Option (Option (List Int))) (ks:List ByteArray) (l:List Int) (kl lv:Int) (i:Nat) (lm:Bool) (R:Int):Prop:=∃ k,∀ n,sKl sq un (n+k) ks l kl lv i lm=some R
theorem Pa.refl {kl lv : Int} {i:Nat} {lm:Bool}:Pa sq un ks l kl lv i lm kl lv i lm:=⟨0,fun n=>rfl⟩
theorem Pa.trans {kl lv kl' lv' kl2 lv2:Int} {i i' i2:Nat} {lm lm' lm2:Bool} (h:Pa sq un ks l kl lv i lm kl' lv' i' lm') (h':Pa sq un ks l kl' lv' i' lm' kl2 lv2 i2 lm2):Pa sq un ks l kl lv i lm kl2 lv2 i2 lm2:=by
 obtain ⟨k,hk⟩:=h;obtain ⟨k',hk'⟩:=h';exact ⟨k'+k,fun n=>by rw [← Nat.add_assoc,hk,hk']⟩
theorem Pa.done {kl lv kl' lv':Int} {i i':Nat} {lm lm':Bool} {R:Int} (h:Pa sq un ks l kl lv i lm kl' lv' i' lm') (h':Pd sq un ks l kl' lv' i' lm' R):Pd sq un ks l kl lv i lm R:=by
 obtain ⟨k,hk⟩:=h;obtain ⟨k',hk'⟩:=h';exact ⟨k'+k,fun n=>by rw [← Nat.add_assoc,hk,hk']⟩
def Skp (c : Int):Prop:=c≤32∨(92<c∧c≠123∧c≠125)
theorem skp_of {c : Int} {t:List Int} {i:Nat} (h:Skp c):skp (c :: t) i=skp t (i+1):=by
 rw [skp];rcases h with h|h
 ·rw [if_pos h]
 by_cases h2:c≤32
 ·rw [if_pos h2]
 rw [if_neg h2,if_pos h]
theorem skp_no {c : Int} {t:List Int} {i:Nat} (h:¬ Skp c):skp (c :: t) i=i:=by
 rw [skp,if_neg (fun k=>h (.inl k)),if_neg (fun k=>h (.inr k))]
theorem sKl_skip {c : Int} {t:List Int} {i:Nat} (h:l.drop i=c :: t) (hc:Skp c) (n:Nat) (kl lv:Int) (lm:Bool):sKl sq un n ks l kl lv i lm=sKl sq un n ks l kl lv (i+1) lm:=by
 cases n with
 | zero=>simp only [sKl]
 | succ n =>
  have e:skp (l.drop i) i=skp (l.drop (i+1)) (i+1):=by rw [j4e h,h,skp_of hc]
  rw [sKl,sKl,e]
theorem sKl_bl : ∀ {B:List Int},Bl B→∀ {x:List Int} {i:Nat},l.drop i=B++x→∀ (n:Nat) (kl lv:Int) (lm:Bool),sKl sq un n ks l kl lv i lm=sKl sq un n ks l kl lv (i+B.length) lm
 | [],_,x,i,h,n,kl,lv,lm=>rfl
 | c :: B,hB,x,i,h,n,kl,lv,lm=>by
  have hc:=hB c (by simp);simp only [isB,decide_eq_true_eq] at hc;rw [sKl_skip h (.inl (by omega)),sKl_bl hB.tail (j4e h)];simp only [List.length_cons];rw [show i+1+B.length=i+(B.length+1) by omega]
theorem pa_bl {B x : List Int} {i:Nat} (hB:Bl B) (h:l.drop i=B++x) {kl lv:Int} {lm:Bool}:Pa sq un ks l kl lv i lm kl lv (i+B.length) lm:=⟨0,fun n=>sKl_bl hB h n kl lv lm⟩
theorem sKl_stop {c : Int} {t:List Int} {i:Nat} (h:l.drop i=c :: t) (hc:¬ Skp c) (n:Nat) (kl lv:Int) (lm:Bool):sKl sq un (n+1) ks l kl lv i lm =
 (sStep sq un ks l kl lv i lm).bind fun r=>match r with
  | .done r=>some r
  | .go kl' lv' i' lm'=>sKl sq un n ks l kl' lv' i' lm'
  | .sub m=>(aE sq (l.drop i)).bind fun cs=>(cs.1[m]?).bind fun x =>
   (if ks.drop (lv.toNat+1)=[] then some 0 else sKl sq un n (ks.drop (lv.toNat+1)) ((l.drop (i+(pick x).1)).take (pick x).2) 0 0 0 true).bind fun r =>
    if r<0 then some (-1) else some (((i+(pick x).1:Nat):Int)+r):=by
 have hs:skp (l.drop i) i=i:=by rw [h,skp_no hc]
 have:=drop_lt h;rw [sKl,hs,if_neg (by omega)];rfl
theorem pa_go {c : Int} {t:List Int} {i:Nat} (h:l.drop i=c :: t) (hc:¬ Skp c) {kl lv kl' lv':Int} {i':Nat} {lm lm':Bool} (hs:sStep sq un ks l kl lv i lm=some (.go kl' lv' i' lm')):Pa sq un ks l kl lv i lm kl' lv' i' lm' :=
 ⟨1,fun n=>by rw [sKl_stop h hc,hs];rfl⟩
theorem pd_done {c : Int} {t:List Int} {i:Nat} (h:l.drop i=c :: t) (hc:¬ Skp c) {kl lv R:Int} {lm:Bool} (hs:sStep sq un ks l kl lv i lm=some (.done R)):Pd sq un ks l kl lv i lm R :=
 ⟨1,fun n=>by rw [sKl_stop h hc,hs];rfl⟩
theorem pa_oth {c : Int} {t:List Int} {i:Nat} (h:l.drop i=c :: t) (h34:c≠34) (h39:c≠39) (h123:c≠123) (h125:c≠125) (h91:c≠91) (h58:c≠58) {kl lv:Int} {lm:Bool}:Pa sq un ks l kl lv i lm kl lv (i+1) lm:=by
 by_cases hc:Skp c
 ·exact ⟨0,fun n=>sKl_skip h hc n kl lv lm⟩
 refine pa_go h hc ?_;rw [sStep,j3w h,if_neg (by rintro (h|h);exact h34 h;exact h39 h.1),if_neg h39,if_neg h123,if_neg h125,if_neg h91,if_neg h58]
theorem pa_sc : ∀ {v:List Int},(∀ c ∈ v,SC c)→∀ {x:List Int} {i:Nat},l.drop i=v++x→∀ {kl lv:Int} {lm:Bool},Pa sq un ks l kl lv i lm kl lv (i+v.length) lm
 | [],_,x,i,h,kl,lv,lm => .refl
 | c :: v,hv,x,i,h,kl,lv,lm=>by
  obtain ⟨_,_,h34,h39,h123,h125,h91,h93,h58,_⟩:=hv c (by simp);have:=(pa_oth (sq:=sq) (un:=un) (ks:=ks) h h34 h39 h123 h125 h91 h58 (kl:=kl) (lv:=lv) (lm:=lm)).trans (pa_sc (fun a ha=>hv a (List.mem_cons_of_mem _ ha)) (j4e h));rw [show i+(c :: v).length=i+1+v.length by simp only [List.length_cons];omega];exact this
theorem step_str {b r : List Int} (hb:Body b) {i:Nat} (h:l.drop i=34 :: (b++34 :: r)) (kl lv:Int) (lm:Bool):sStep sq un ks l kl lv i lm=sStr un ks l kl lv i lm (((b.length+1:Nat):Int),decide (92 ∈ b)):=by
 rw [sStep,j3w h,if_pos (.inl rfl),j4e h,strE_body hb];rw [Nat.zero_add,Bool.false_or]
theorem drop_str {b r : List Int} {i:Nat} (h:l.drop i=34 :: (b++34 :: r)):l.drop (i+1+(b.length+1))=r:=by
 have:=j2z (j4e h);have:=j4e this;rw [← this]
 congr 1
theorem pa_str {b r t:List Int} {c:Int} (hb:Body b) {i:Nat} (h:l.drop i=34 :: (b++34 :: r)) (hr:skB r=c :: t) (hc:c≠58) {kl lv:Int} {lm:Bool}:Pa sq un ks l kl lv i lm kl lv (i+b.length+2) lm:=by
 obtain ⟨B,hB,hBr⟩:=j4c r;rw [hr] at hBr;have hd:=drop_str h;have hcb:=skB_head r c t hr;refine ⟨1,fun n=>?_⟩
 have hs:sStep sq un ks l kl lv i lm=some (.go kl lv (i+1+(b.length+1)+B.length) lm):=by
  rw [step_str hb h,sStr];simp only [Int.toNat_natCast];rw [if_neg (by omega),hd,hBr,nT_bl hB hcb,if_neg (by omega),Nat.zero_add,Int.toNat_natCast];have hg:l.getD (i+1+(b.length+1)+B.length) 0=c:=j3w (j2z (hd.trans hBr));rw [hg,if_neg hc]
 rw [sKl_stop h zq90,hs];simp only [Option.bind_some];rw [show i+b.length+2=i+1+(b.length+1) by omega,sKl_bl hB (hd.trans hBr)]
theorem pa_V {a : Nat} {v r t:List Int} {c:Int} {p:S27} (h:PV a v p) {i:Nat} (hl:l.drop i=v++r) (hr:skB r=c :: t) (hc:c≠58) {kl lv:Int} (hk:kl≠lv):Pa sq un ks l kl lv i false kl lv (i+v.length) false:=by
 cases h with
 | @str _ _ b _ hb e _ =>
  subst e;have:=pa_str (sq:=sq) (un:=un) (ks:=ks) hb (r:=r) (i:=i) (by rw [hl];simp) hr hc (kl:=kl) (lv:=lv) (lm:=false);rw [show i+(34 :: (b++[34])).length=i+b.length+2 by simp only [List.length_cons,List.length_append,List.length_nil];omega];exact this
 | @sca _ _ k _ h _=>exact pa_sc (Sca.sc (k:=k) h) hl
 | @obj0 _ _ B _ hB e ep =>
  have hE:=bE_obj (sq:=sq) (PV.obj0 (a:=a) hB e ep) (by rw [ep]) r;have h2:l.drop i=123 :: (B++125 :: r):=by rw [hl,e];simp
  refine pa_go h2 zq90 ?_;rw [sStep,j3w h2,if_neg (by omega),if_neg (by omega),if_pos rfl,if_pos rfl,hl,hE,if_neg (by omega),Int.toNat_natCast]
 | @obj _ _ B m ns ps _ hB hm e ep =>
  have hE:=bE_obj (sq:=sq) (PV.obj (a:=a) hB hm e ep) (by rw [ep]) r;have h2:l.drop i=123 :: (B++(m++r)):=by rw [hl,e];simp
  refine pa_go h2 zq90 ?_;rw [sStep,j3w h2,if_neg (by omega),if_neg (by omega),if_pos rfl,if_pos rfl,hl,hE,if_neg (by omega),Int.toNat_natCast]
 | @arr0 _ _ B _ hB e ep =>
  have hE:=bE_arr (sq:=sq) (PV.arr0 (a:=a) hB e ep) (by rw [ep]) r;have h2:l.drop i=91 :: (B++93 :: r):=by rw [hl,e];simp
  refine pa_go h2 zq90 ?_;rw [sStep,j3w h2,if_neg (by omega),if_neg (by omega),if_neg (by omega),if_neg (by omega),if_pos rfl,sArr,if_neg (fun h=>hk h.1),if_neg (fun h=>hk h.1),hl,hE,if_neg (by omega),Int.toNat_natCast]
 | @arr _ _ B m ps _ hB hm e ep =>
  have hE:=bE_arr (sq:=sq) (PV.arr (a:=a) hB hm e ep) (by rw [ep]) r;have h2:l.drop i=91 :: (B++(m++r)):=by rw [hl,e];simp
  refine pa_go h2 zq90 ?_;rw [sStep,j3w h2,if_neg (by omega),if_neg (by omega),if_neg (by omega),if_neg (by omega),if_pos rfl,sArr,if_neg (fun h=>hk h.1),if_neg (fun h=>hk h.1),hl,hE,if_neg (by omega),Int.toNat_natCast]
theorem step_name (hun : ∀ b,Body b→(∀ x ∈ b,0≤x∧x≤255)→b.length≤l.length→un b=some (some (unqL b))) (hlr:∀ x ∈ l,0≤x∧x≤255) {b B r:List Int} (hb:Body b) (hB:Bl B) {i:Nat} (h:l.drop i=34 :: (b++34 :: (B++58 :: r))) {kl lv:Int} (hlv:1≤lv) (lm:Bool) :
 sStep sq un ks l kl lv i lm=sKey ks kl lv (i+b.length+2+B.length) (some (unqL b)):=by
 have hd:=drop_str h;have htk:(l.drop (i+1)).take (b.length+1 - 1)=b:=by rw [j4e h];simp
 have hbl:b.length≤l.length:=by
  have:=congrArg List.length h;simp only [List.length_drop,List.length_cons,List.length_append] at this;omega
 have hbr:∀ x ∈ b,0≤x∧x≤255:=fun x hx=>hlr x (List.mem_of_mem_drop (i:=i) (by rw [h];simp [hx]))
 rw [step_str hb h,sStr];simp only [Int.toNat_natCast];rw [if_neg (by omega),hd,nT_bl hB zq50,if_neg (by omega),Nat.zero_add,Int.toNat_natCast];have hg:l.getD (i+1+(b.length+1)+B.length) 0=58:=j3w (j2z hd);rw [hg,if_pos rfl,if_neg (by omega),htk];by_cases h92:92 ∈ b
 rotate_left
 ·rw [if_pos (by simp [h92]),unqL_id h92];simp only [Option.bind_some];rw [show i+1+(b.length+1)+B.length=i+b.length+2+B.length by omega]
 rw [if_neg (by simp [h92]),hun b hb hbr hbl];simp only [Option.bind_some];rw [show i+1+(b.length+1)+B.length=i+b.length+2+B.length by omega]
end
def nmB (L : List Int) (q:S49):List Int:=unqL ((L.drop (q.f0.toNat+1)).take (q.f1.toNat - q.f0.toNat - 2))
theorem nmB_eq {L b x:List Int} {a:Nat} (h:L.drop a=34 :: (b++x)):nmB L ⟨(a:Int),((a+b.length+2:Nat):Int)⟩=unqL b:=by
 unfold nmB;simp only [Int.toNat_natCast];rw [j4e h,show a+b.length+2 - a - 2=b.length by omega];simp
inductive SeekP (L : List Int):S27→List ByteArray→S27→Prop
  | nil {p:S27}:SeekP L p [] p
  | obj {p q p':S27} {key:ByteArray} {ks:List ByteArray} {j:Nat}:p.f0=6→(∀ i,i<j→∀ x,p.f3[i]? = some x→strOfNums (nmB L x)≠key)→(∃ x,p.f3[j]? = some x∧strOfNums (nmB L x)=key)→p.f4[j]? = some q→SeekP L q ks p'→SeekP L p (key :: ks) p'
  | arr {p q p':S27} {key:ByteArray} {ks:List ByteArray} {j:Nat}:p.f0=5→isIx key=true→kIdx key=some (j:Int)→p.f4[j]? = some q→SeekP L q ks p'→SeekP L p (key :: ks) p'
section
variable {sq : Bool} {un:List Int→Option (Option (List Int))} {L:List Int} (N:Nat) (hun:∀ b,Body b→(∀ x ∈ b,0≤x∧x≤255)→b.length≤N→un b=some (some (unqL b)))
include hun
theorem find_M : ∀ n:Nat,∀ (a i d:Nat) (ks:List ByteArray) (l m R r:List Int) (ns:List S49) (ps:List S27) (j:Nat) (lm:Bool) (key:ByteArray) (q:S27),m.length≤n→l.length≤N→(∀ x ∈ l,0≤x∧x≤255)→PM a m ns ps→L.drop a=m++R→l.drop i=m++r→d<ks.length→ks.getD d default=key →
 (∀ i,i<j→∀ x,ns[i]? = some x→strOfNums (nmB L x)≠key)→(∃ x,ns[j]? = some x∧strOfNums (nmB L x)=key)→ps[j]? = some q →
 ∃ (i1 a1:Nat) (v B r1 R1:List Int),PV a1 v q∧L.drop a1=v++R1∧l.drop i1=B++(v++r1)∧Bl B∧Dl r1∧v.length<m.length ∧
  (d+1=ks.length→Pd sq un ks l (d:Int) ((d:Int)+1) i lm (i1:Int))∧(d+1<ks.length→Pa sq un ks l (d:Int) ((d:Int)+1) i lm ((d+1:Nat):Int) ((d+1:Nat):Int) i1 true):=by
 intro n
 induction n with
 | zero =>
  intro a i d ks l m R r ns ps j lm key q hn _ _ h;cases h<;>(subst_vars;simp at hn)
 | succ n ih =>
  intro a i d ks l m R r ns ps j lm key q hn hN hlr h hL hl hd hkey hno hyes hq;have hun':∀ b,Body b→(∀ x ∈ b,0≤x∧x≤255)→b.length≤l.length→un b=some (some (unqL b)):=fun b h1 h2 h3=>hun b h1 h2 (by omega)
  -- a member's name is the one
  have hit:∀ (b B1 B2 v x:List Int),Body b→Bl B1→Bl B2→l.drop i=34 :: (b++34 :: (B1++58 :: (B2++(v++x))))→strOfNums (unqL b)=key →
   l.drop (i+b.length+2+B1.length+1)=B2++(v++x)∧(d+1=ks.length→Pd sq un ks l (d:Int) ((d:Int)+1) i lm ((i+b.length+2+B1.length+1:Nat):Int))∧(d+1<ks.length→Pa sq un ks l (d:Int) ((d:Int)+1) i lm ((d+1:Nat):Int) ((d+1:Nat):Int) (i+b.length+2+B1.length+1) true):=fun b B1 B2 v x hb h1 h2 h hk=>by
   have hst:=step_name (sq:=sq) (ks:=ks) hun' hlr hb h1 h (kl:=(d:Int)) (lv:=(d:Int)+1) (by omega) lm;rw [sKey,if_pos (by omega),show ((d:Int)+1).toNat - 1=d by omega,hkey,if_pos hk,if_pos (by omega)] at hst;refine ⟨?_,fun hdk=>?_,fun hdk=>?_⟩
   ·have:=j4e (j2z (drop_str h));rw [← this]
    congr 1
    omega
   ·rw [if_pos (by omega)] at hst;exact pd_done h zq90 hst
   ·rw [if_neg (by omega)] at hst;exact pa_go h zq90 hst
  cases h with
  | @one _ _ b B1 B2 v B3 p _ _ hb h1 h2 h3 hv e en ep =>
   subst e en ep
   obtain rfl:j=0:=by
    obtain ⟨x,hx,_⟩:=hyes;cases j with
    | zero=>rfl
    | succ j=>simp at hx
   obtain rfl:p=q:=by simpa using hq
   obtain ⟨x,hx,hxk⟩:=hyes;obtain rfl:(⟨(a:Int),((a+b.length+2:Nat):Int)⟩:S49)=x:=by simpa using hx
   rw [nmB_eq (x:=34 :: (B1++58 :: (B2++(v++(B3++[125]))))++R) zq82] at hxk;obtain ⟨k1,k2,k3⟩:=hit b B1 B2 v (B3++125 :: r) hb h1 h2 (by rw [hl];simp) hxk;refine ⟨_,_,v,B2,B3++125 :: r,(B3++[125])++R,hv,?_,k1,h2,Dl_bl h3 (Dl_cons (.inr (.inr rfl))),by simp only [List.length_cons,List.length_append];omega,k2,k3⟩;have:=j2z (x:=34 :: (b++34 :: (B1++58 :: B2))) (y:=v++((B3++[125])++R)) zq82;rw [← this]
   congr 1
   simp only [List.length_cons,List.length_append];omega
  | @more _ _ b B1 B2 v B3 B4 m' p _ ns' _ ps' hb h1 h2 h3 h4 hv hm e en ep =>
   subst e en ep;simp only [List.length_cons,List.length_append] at hn;have hnm:nmB L ⟨(a:Int),((a+b.length+2:Nat):Int)⟩=unqL b:=nmB_eq (x:=34 :: (B1++58 :: (B2++(v++(B3++44 :: (B4++m')))))++R) zq82;have hl':l.drop i=34 :: (b++34 :: (B1++58 :: (B2++(v++(B3++44 :: (B4++(m'++r))))))):=by rw [hl];simp
   cases j with
   | zero =>
    obtain rfl:p=q:=by simpa using hq
    obtain ⟨x,hx,hxk⟩:=hyes;obtain rfl:(⟨(a:Int),((a+b.length+2:Nat):Int)⟩:S49)=x:=by simpa using hx
    rw [hnm] at hxk;obtain ⟨k1,k2,k3⟩:=hit b B1 B2 v _ hb h1 h2 hl' hxk;refine ⟨_,_,v,B2,_,(B3++44 :: (B4++m'))++R,hv,?_,k1,h2,Dl_bl h3 (Dl_cons (.inl rfl)),by simp only [List.length_cons,List.length_append];omega,k2,k3⟩;have:=j2z (x:=34 :: (b++34 :: (B1++58 :: B2))) (y:=v++((B3++44 :: (B4++m'))++R)) zq82;rw [← this]
    congr 1
    simp only [List.length_cons,List.length_append];omega
   | succ j =>
    have hne:strOfNums (unqL b)≠key:=by
     have:=hno 0 (by omega) ⟨(a:Int),((a+b.length+2:Nat):Int)⟩ rfl;rw [hnm] at this;exact this
    have hst:=step_name (sq:=sq) (ks:=ks) hun' hlr hb h1 hl' (kl:=(d:Int)) (lv:=(d:Int)+1) (by omega) lm;rw [sKey,if_pos (by omega),show ((d:Int)+1).toNat - 1=d by omega,hkey,if_neg hne] at hst;have g1:=pa_go (sq:=sq) (un:=un) (ks:=ks) hl' zq90 hst
    have d1:l.drop (i+b.length+2+B1.length+1)=B2++(v++(B3++44 :: (B4++(m'++r)))):=by
     have:=j4e (j2z (drop_str hl'));rw [← this]
     congr 1
     omega
    have g2:=pa_bl (sq:=sq) (un:=un) (ks:=ks) h2 d1 (kl:=(d:Int)) (lv:=(d:Int)+1) (lm:=false);have d2:=j2z d1;have hsk:skB (B3++44 :: (B4++(m'++r)))=44 :: (B4++(m'++r)):=by rw [h3.sk,skB_no zq50]
    have g3:=pa_V (sq:=sq) (un:=un) (ks:=ks) hv d2 hsk zq50 (kl:=(d:Int)) (lv:=(d:Int)+1) (by omega);have d3:=j2z d2;have g4:=pa_bl (sq:=sq) (un:=un) (ks:=ks) h3 d3 (kl:=(d:Int)) (lv:=(d:Int)+1) (lm:=false);have d4:=j2z d3;have g5:=pa_oth (sq:=sq) (un:=un) (ks:=ks) d4 zq50 zq50 zq50 zq50 zq50 zq50 (kl:=(d:Int)) (lv:=(d:Int)+1) (lm:=false);have d5:=j4e d4;have g6:=pa_bl (sq:=sq) (un:=un) (ks:=ks) h4 d5 (kl:=(d:Int)) (lv:=(d:Int)+1) (lm:=false);have d6:=j2z d5
    have hLd:L.drop (a+b.length+2+B1.length+1+B2.length+v.length+B3.length+1+B4.length)=m'++R:=by
     have:=j2z (x:=34 :: (b++34 :: (B1++58 :: (B2++(v++(B3++44 :: B4)))))) (y:=m'++R) zq82;rw [← this]
     congr 1
     simp only [List.length_cons,List.length_append];omega
    obtain ⟨i1,a1,v1,C,r1,R1,z1,z2,z3,z4,z5,z6,z7,z8⟩:=ih _ _ d ks l m' R r ns' ps' j false key q (by omega) hN hlr hm hLd d6 hd hkey (fun i hi x hx=>hno (i+1) (by omega) x (by simpa using hx)) (by obtain ⟨x,hx,hk⟩:=hyes;exact ⟨x,by simpa using hx,hk⟩) (by simpa using hq);have G:=((((g1.trans g2).trans g3).trans g4).trans g5).trans g6;exact ⟨i1,a1,v1,C,r1,R1,z1,z2,z3,z4,z5,by simp only [List.length_cons,List.length_append];omega,fun h=>G.done (z7 h),fun h=>G.trans (z8 h)⟩
theorem find_V : ∀ n:Nat,∀ (a i d:Nat) (ks:List ByteArray) (l v R r:List Int) (p p':S27),v.length≤n→l.length≤N→(∀ x ∈ l,0≤x∧x≤255)→PV a v p→L.drop a=v++R→l.drop i=v++r→ks.drop d≠[]→SeekP L p (ks.drop d) p' →
 ∃ (i1 a1:Nat) (v1 B r1 R1:List Int),PV a1 v1 p'∧L.drop a1=v1++R1∧l.drop i1=B++(v1++r1)∧Bl B∧(Dl r→Dl r1)∧Pd sq un ks l (d:Int) (d:Int) i true (i1:Int):=by
 intro n
 induction n with
 | zero =>
  intro a i d ks l v R r p p' hn _ _ h;exact absurd h.pos (by omega)
 | succ n ih =>
  intro a i d ks l v R r p p' hn hN hlr h hL hl hks hS
  obtain ⟨key,rest,hkr⟩:∃ key rest,ks.drop d=key :: rest:=by
   cases e:ks.drop d with
   | nil=>exact absurd e hks
   | cons x y=>exact ⟨x,y,rfl⟩
  have hd:d<ks.length:=by
   have:=congrArg List.length hkr;simp at this;omega
  have hkey:ks.getD d default=key:=by
   have e:=List.drop_eq_getElem_cons hd;rw [hkr] at e;rw [List.getD_eq_getElem?_getD,List.getElem?_eq_getElem hd];exact (List.cons.inj e).1.symm
  have hrest:ks.drop (d+1)=rest:=by rw [← List.drop_drop,hkr];rfl
  rw [hkr] at hS;cases hS with
  | @obj _ q _ _ _ j hk hno hyes hq hS =>
   cases h with
   | str _ _ e=>subst e;simp at hk
   | sca h e=>subst e;simp only at hk;omega
   | arr0 _ _ e=>subst e;simp at hk
   | arr _ _ _ e=>subst e;simp at hk
   | obj0 _ _ e=>subst e;simp at hq
   | @obj _ _ B m ns ps _ hB hm e ep =>
    subst e ep;simp only [List.length_cons,List.length_append] at hn;have d0:l.drop i=123 :: (B++(m++r)):=by rw [hl];simp
    have g0:Pa sq un ks l (d:Int) (d:Int) i true (d:Int) ((d:Int)+1) (i+1) true:=by
     refine pa_go d0 zq90 ?_;rw [sStep,j3w d0,if_neg (by omega),if_neg (by omega),if_pos rfl,if_neg zq50]
    have d1:=j4e d0;have g1:=pa_bl (sq:=sq) (un:=un) (ks:=ks) hB d1 (kl:=(d:Int)) (lv:=(d:Int)+1) (lm:=true);have d2:=j2z d1
    have hLd:L.drop (a+1+B.length)=m++R:=by
     have:=j2z (x:=123 :: B) (y:=m++R) zq82;rw [← this]
     congr 1
     simp only [List.length_cons];omega
    obtain ⟨i1,a1,v1,C,r1,R1,z1,z2,z3,z4,z5,z6,z7,z8⟩:=find_M N hun (sq:=sq) m.length _ _ d ks l m R r ns ps j true key q (Nat.le_refl _) hN hlr hm hLd d2 hd hkey hno hyes hq;by_cases hlast:d+1=ks.length
    ·have:rest=[]:=by rw [← hrest,List.drop_of_length_le (by omega)]
     subst this;cases hS;exact ⟨i1,a1,v1,C,r1,R1,z1,z2,z3,z4,fun _=>z5,(g0.trans g1).done (z7 hlast)⟩
    have hlt:d+1<ks.length:=by omega
    have hne:ks.drop (d+1)≠[]:=fun e=>by
     have:=congrArg List.length e;simp at this;omega
    rw [← hrest] at hS;have g2:=pa_bl (sq:=sq) (un:=un) (ks:=ks) z4 z3 (kl:=((d+1:Nat):Int)) (lv:=((d+1:Nat):Int)) (lm:=true);obtain ⟨i2,a2,v2,C2,r2,R2,y1,y2,y3,y4,y5,y6⟩:=ih a1 (i1+C.length) (d+1) ks l v1 R1 r1 q p' (by omega) hN hlr z1 z2 (j2z z3) hne hS;exact ⟨i2,a2,v2,C2,r2,R2,y1,y2,y3,y4,fun _=>y5 z5,((((g0.trans g1).trans (z8 hlt)).trans g2)).done y6⟩
  | @arr _ q _ _ _ j hk hix hkx hq hS =>
   obtain ⟨t0,ht0⟩:∃ t,v=91 :: t:=by
    cases h with
    | str _ _ e=>subst e;simp at hk
    | sca h e=>subst e;simp only at hk;omega
    | arr0 _ e _=>exact ⟨_,e⟩
    | arr _ _ e _=>exact ⟨_,e⟩
    | obj0 _ _ e=>subst e;simp at hk
    | obj _ _ _ e=>subst e;simp at hk
   obtain ⟨cs,hae,hTL⟩:=aE_PV (sq:=sq) h hk hL hl;obtain ⟨x,hx,a1,v1,R1,r1,w1,w2,w3,w4,w5,w6,w7,_⟩:=hTL.get hq;have hwl:=congrArg List.length hl;have d0:l.drop i=91 :: (t0++r):=by rw [hl,ht0];rfl
   have hjl:j<cs.length:=by
    rw [List.getElem?_eq_some_iff] at hx;exact hx.1
   have hst:sStep sq un ks l (d:Int) (d:Int) i true=some (.sub j):=by
    rw [sStep,j3w d0,if_neg (by omega),if_neg (by omega),if_neg (by omega),if_neg (by omega),if_pos rfl,sArr,if_neg (by omega),Int.toNat_natCast,hkey,if_pos ⟨rfl,hix⟩,hkx,Option.bind_some,hae,Option.bind_some];simp only;rw [if_pos ⟨by omega,by omega⟩,Int.toNat_natCast]
   have hdp:l.drop (i+(pick x).1)=v1++r1:=by rw [← List.drop_drop];exact w3
   have hwin:(l.drop (i+(pick x).1)).take (pick x).2=v1:=by rw [hdp,w4];simp
   have run:∀ n R0,(if ks.drop (d+1)=[] then some 0 else sKl sq un n (ks.drop (d+1)) v1 0 0 0 true)=some R0→0≤R0→sKl sq un (n+1) ks l (d:Int) (d:Int) i true=some (((i+(pick x).1:Nat):Int)+R0):=fun n R0 h0 h1=>by
    rw [sKl_stop d0 zq90,hst];simp only [Option.bind_some,hae,hx,Int.toNat_natCast,hwin,h0];rw [if_neg (by omega)]
   have hdl:Dl r→Dl r1:=fun _=>w5
   by_cases hre:rest=[]
   ·subst hre;cases hS;refine ⟨i+(pick x).1,a1,v1,[],r1,R1,w1,w2,hdp,Bl.nil,hdl,1,fun n=>?_⟩;have:=run n 0 (by rw [if_pos hrest]) zq50;rw [this];simp
   have hvl:v1.length≤n:=by
    -- an element is shorter than its array
    have:v1.length<v.length:=by
     cases h with
     | str _ _ e=>subst e;simp at hk
     | sca h e=>subst e;simp only at hk;omega
     | obj0 _ _ e=>subst e;simp at hk
     | obj _ _ _ e=>subst e;simp at hk
     | arr0 _ _ e=>subst e;simp at hq
     | @arr _ _ B m ps _ hB hm e ep =>
      subst ep
      have hp2:∀ (n:Nat) (a:Nat) (m:List Int) (ps:List S27),m.length≤n→PE a m ps→∀ (j:Nat) (q:S27),ps[j]? = some q→∃ a2 v2,PV a2 v2 q∧v2.length≤m.length:=by
       intro n
       induction n with
       | zero =>
        intro a m ps hn h;cases h with
        | one _ _ e _=>subst e;simp at hn
        | more _ _ _ _ e _=>subst e;simp at hn
       | succ n ih =>
        intro a m ps hn h j q hq;cases h with
        | one _ hv e ep =>
         subst e ep;cases j with
         | zero=>simp at hq;subst hq;exact ⟨_,_,hv,by simp⟩
         | succ j=>simp at hq
        | more _ _ hv hm e ep =>
         subst e ep;cases j with
         | zero=>simp at hq;subst hq;exact ⟨_,_,hv,by simp⟩
         | succ j =>
          simp only [List.length_cons,List.length_append] at hn;obtain ⟨a2,v2,h1,h2⟩:=ih _ _ _ (by omega) hm j q (by simpa using hq);exact ⟨a2,v2,h1,by simp only [List.length_cons,List.length_append];omega⟩
      obtain ⟨a2,v2,h1,h2⟩:=hp2 _ _ _ _ (Nat.le_refl _) hm j q hq;have e1:=h1.at;have e2:=w1.at;have:v1.length=v2.length:=by omega
      rw [e];simp only [List.length_cons,List.length_append];omega
    omega
   have hv1N:v1.length≤N:=by
    have:=congrArg List.length hdp;simp only [List.length_drop,List.length_append] at this;omega
   have hv1r:∀ y ∈ v1,0≤y∧y≤255:=fun y hy=>hlr y (List.mem_of_mem_drop (i:=i+(pick x).1) (by rw [hdp];simp [hy]))
   obtain ⟨i2,a2,v2,C2,r2,R2,y1,y2,y3,y4,y5,k,y6⟩:=ih a1 0 0 (ks.drop (d+1)) v1 v1 R1 [] q p' hvl hv1N hv1r w1 w2 (by simp) (by rw [List.drop_zero,hrest];exact hre) (by rw [List.drop_zero,hrest];exact hS);refine ⟨i+(pick x).1+i2,a2,v2,C2,r2++r1,R2,y1,y2,?_,y4,fun _=>?_,k+1,fun n=>?_⟩
   ·have hi2:i2≤v1.length:=by
     have h1:=congrArg List.length y3;have h2:=y1.pos;simp only [List.length_drop,List.length_append] at h1;omega
    rw [← List.drop_drop,hdp,List.drop_append_of_le_length hi2,y3];simp
   ·intro c t e;cases r2 with
    | nil=>exact w5 c t e
    | cons c' r2 =>
     cases e;exact y5 Dl_nil c _ rfl
   ·have:=run (n+k) (i2:Int) (by rw [if_neg (by rw [hrest];exact hre)];exact y6 n) (by omega);rw [← Nat.add_assoc,this];simp
theorem find_all {B v B':List Int} {p p':S27} (hL:L=B++(v++B')) (hLN:L.length≤N) (hLr:∀ x ∈ L,0≤x∧x≤255) (hB:Bl B) (hB':Bl B') (h:PV B.length v p) {ks:List ByteArray} (hS:SeekP L p ks p') :
 ∃ (i1 a1:Nat) (v1 C r1 R1:List Int),PV a1 v1 p'∧L.drop a1=v1++R1∧L.drop i1=C++(v1++r1)∧Bl C∧Dl r1∧∃ k,∀ n,sK sq un (n+k) ks L=some (i1:Int):=by
 have hd:Dl B':=by
  have:=Dl_bl hB' Dl_nil
  simpa using this
 have d0:L.drop 0=B++(v++B'):=hL;have d1:=j2z d0;by_cases hk:ks=[]
 ·subst hk;cases hS;exact ⟨0,B.length,v,B,B',B',h,by rw [← d1,Nat.zero_add],d0,hB,hd,0,fun n=>by rw [sK,if_pos rfl];rfl⟩
 obtain ⟨i1,a1,v1,C,r1,R1,z1,z2,z3,z4,z5,z6⟩:=find_V N hun (sq:=sq) (L:=L) v.length B.length (0+B.length) 0 ks L v B' B' p p' (Nat.le_refl _) hLN hLr h (by rw [← d1,Nat.zero_add]) d1 (by simpa using hk) (by simpa using hS);have g:=pa_bl (sq:=sq) (un:=un) (ks:=ks) hB d0 (kl:=0) (lv:=0) (lm:=true);obtain ⟨k,hk2⟩:=g.done z6;exact ⟨i1,a1,v1,C,r1,R1,z1,z2,z3,z4,z5 hd,k,fun n=>by rw [sK,if_neg hk];exact hk2 n⟩
end
end Go.Proofs.YthmjfmpgmcgonaaDoor.J
end
section
namespace Go.Proofs.YthmjfmpgmcgonaaDoor.J
open Go.RowKit Go.Proofs.YthmjfmpgmcgonaaDoor.K Go.Proofs.YthmjfmpgmcgonaaDoorW.PrintWords Go.Proofs.YthmjfmpgmcgonaaDoorW.PrintLast
set_option linter.unusedVariables false
set_option linter.unusedSimpArgs false
set_option linter.unusedSectionVars false

def idxL : List Int→Int→Option Int
  | [],n=>some n
  | c :: r,n=>if c<48 then none else if c>57 then none else idxL r (if n<288230376151711744 then n*10+(c - 48) else 4611686018427387904)
theorem idx_l0 {s : ByteArray} (hs:s.size≤2147483647):∀ (l:List Int) (i:Nat) (n:Int),From s i l→0≤n→n≤4611686018427387904→Ev (fun k=>j2b.l0 k s n i) ((idxL l n).getD 0,(idxL l n).isSome)
 | [],i,n,h,h0,h1=>by
  have:=h.nil;refine Ev_shift ?_;simp only [j2b.l0];exact zl22
 | c :: r,i,n,h,h0,h1=>by
  have hlt:=h.lt;have hb:=h.bt;have hw:wrap64 ((i:Int)+1)=((i+1:Nat):Int):=by rw [w64 (by omega)];omega
  refine Ev_shift ?_;simp only [j2b.l0,hb];refine Ev.congr (fun _=>if_pos (by omega)) (Ev.congr (fun _=>if_pos (by omega)) ?_);rw [idxL];by_cases c1:c<48
  ·refine Ev.congr (fun _=>if_pos c1) ?_;rw [if_pos c1];refine Ev_shift ?_;simp only [j2b.j2,if_true];exact Ev.now _
  refine Ev.congr (fun _=>if_neg c1) ?_;rw [if_neg c1];by_cases c2:c>57
  ·rw [if_pos c2,decide_eq_true c2];refine Ev_shift ?_;simp only [j2b.j2,if_true];exact Ev.now _
  rw [if_neg c2,decide_eq_false c2];refine Ev_shift ?_;simp only [j2b.j2,Bool.false_eq_true,if_false];by_cases c3:n<288230376151711744
  rotate_left
  ·refine Ev.congr (fun _=>if_neg c3) ?_;rw [if_neg c3,hw];exact idx_l0 hs r (i+1) _ h.tail (by omega) (by omega)
  refine Ev.congr (fun _=>if_pos c3) ?_;rw [if_pos c3,hw,w64 (x:=n*10) (by omega),show (c - 48) % 256=c - 48 by omega,w64 (by omega)];exact idx_l0 hs r (i+1) _ h.tail (by omega) (by omega)
theorem idx_ge : ∀ (l:List Int) (n v:Int),0≤n→n≤4611686018427387904→idxL l n=some v→n≤v
 | [],n,v,_,_,h=>by cases h;exact Int.le_refl _
 | c :: r,n,v,h0,h1,h=>by
  rw [idxL] at h
  split at h
  ·cases h
  split at h
  ·cases h
  by_cases c3:n<288230376151711744
  rotate_left
  ·rw [if_neg c3] at h
   have:=idx_ge r _ v (by omega) (by omega) h;omega
  rw [if_pos c3] at h
  have:=idx_ge r _ v (by omega) (by omega) h;omega
theorem idx_dec : ∀ (u:List UInt8) (acc:Nat) (v:Int),(acc:Int)≤4611686018427387904→idxL (u.map fun b=>(b.toNat:Int)) acc=some v→v<288230376151711744→Lib.decFrom acc u=some v.toNat∧0≤v∧(1≤acc→((acc*10 ^ u.length:Nat):Int)≤v)
 | [],acc,v,_,h,_=>by
  cases h;exact ⟨by simp [Lib.decFrom],by omega,fun _=>by simp⟩
 | c :: r,acc,v,ha,h,hv=>by
  rw [List.map_cons,idxL] at h
  split at h
  ·cases h
  rename_i c1;split at h
  ·cases h
  rename_i c2;by_cases c3:(acc:Int)<288230376151711744
  rotate_left
  ·rw [if_neg c3] at h
   have:=idx_ge _ _ _ (by omega) (by omega) h;omega
  rw [if_pos c3] at h
  have e:(acc:Int)*10+((c.toNat:Int) - 48)=((acc*10+(c.toNat - 48):Nat):Int):=by omega
  rw [e] at h
  obtain ⟨h1,h2,h3⟩:=idx_dec r _ v (by omega) h hv;refine ⟨?_,h2,fun h4=>?_⟩
  ·rw [Lib.decFrom,Lib.digitVal,if_pos ⟨by omega,by omega⟩];exact h1
  ·have h5:=h3 (by omega)
   have h6:acc*10 ^ (c :: r).length≤(acc*10+(c.toNat - 48))*10 ^ r.length:=by
    rw [List.length_cons,Nat.pow_succ,Nat.mul_comm (10 ^ r.length) 10,← Nat.mul_assoc];exact Nat.mul_le_mul_right _ (by omega)
   omega
theorem bytesOf_map (s : ByteArray):bytesOf s=s.data.toList.map fun b=>(b.toNat:Int):=rfl
theorem index_eq {s : ByteArray} (hs:s.size≤2147483647):∃ v b,Ev (fun k=>j2b.f k s) (v,b)∧(b=true→v<2147483648→0≤v∧s.size≤18∧Lib.atoi s.data.toList=some v):=by
 have h0:=From.start s;have el:s.data.toList.length=s.size:=rfl;unfold j2b.f;by_cases c1:s.toList=([]:List UInt8)
 ·refine ⟨0,false,Ev.congr (fun _=>if_pos c1) (Ev_shift ?_),fun h=>by cases h⟩;simp only [j2b.j0,if_true];exact Ev.now _
 have hne:s.data.toList≠[]:=fun e=>c1 (by rw [ByteArray.toList_eq];exact e)
 have hl:=idx_l0 hs _ 0 0 h0 (by omega) (by omega)
 have go:Ev (fun k=>j2b.j0 k s false) ((idxL (bytesOf s) 0).getD 0,(idxL (bytesOf s) 0).isSome):=by
  refine Ev_shift ?_;simp only [j2b.j0,Bool.false_eq_true,if_false];exact hl
 have told:∀ (v:Int),idxL (bytesOf s) 0=some v→v<2147483648→(1<s.size→bt s 0≠48)→0≤v∧s.size≤18∧Lib.atoi s.data.toList=some v:=fun v hv hlt hz=>by
  rw [bytesOf_map] at hv;obtain ⟨d1,d2,_⟩:=idx_dec s.data.toList 0 v (by omega) hv (by omega);refine ⟨d2,?_,?_⟩
  ·cases e:s.data.toList with
   | nil=>exact absurd e hne
   | cons c r =>
    by_cases h1:1<s.size
    rotate_left
    ·omega
    have hc:=hz h1
    have hbt:bt s 0=(c.toNat:Int):=by
     have:From s 0 ((c.toNat:Int) :: r.map fun b=>(b.toNat:Int)):=⟨Nat.zero_le _,by rw [bytesOf_map,e];rfl⟩;exact this.bt
    rw [e,List.map_cons,idxL] at hv;split at hv
    ·cases hv
    rename_i c2;split at hv
    ·cases hv
    rename_i c3;rw [if_pos (by omega)] at hv;have e2:(0:Int)*10+((c.toNat:Int) - 48)=((c.toNat - 48:Nat):Int):=by omega
    rw [e2] at hv;obtain ⟨_,_,h5⟩:=idx_dec r _ v (by omega) hv (by omega);have h6:=h5 (by omega);have h7:s.size=r.length+1:=by rw [← el,e];rfl
    have h8:r.length≤17:=by
     refine Nat.le_of_not_lt fun h9=>?_
     have h10:10 ^ 18≤10 ^ r.length:=Nat.pow_le_pow_right zq50 h9;have h11:1*10 ^ r.length≤(c.toNat - 48)*10 ^ r.length:=Nat.mul_le_mul_right _ (by omega);omega
    omega
  ·cases e:s.data.toList with
   | nil=>exact absurd e hne
   | cons c r =>
    rw [e] at d1 hv;rw [List.map_cons,idxL] at hv;split at hv
    ·cases hv
    rename_i c2;split at hv
    ·cases hv
    rename_i c3;have n45:¬ (c == 45)=true:=fun h=>by have:=beq_iff_eq.mp h;subst this;exact c2 zq50
    have n43:¬ (c == 43)=true:=fun h=>by have:=beq_iff_eq.mp h;subst this;exact c2 zq50
    rw [Lib.atoi,if_neg n45,if_neg n43,Lib.decNat,if_neg (by simp),d1];simp only [Option.map_some,Option.some.injEq];omega
 by_cases c2:(s.size:Int)>1
 rotate_left
 ·refine ⟨_,_,Ev.congr (fun _=>if_neg c1) (Ev.congr (fun _=>if_neg c2) go),fun h1 h2=>?_⟩;cases e:idxL (bytesOf s) 0 with
  | none=>rw [e] at h1;cases h1
  | some v=>rw [e] at h2;exact told v e h2 (fun h=>by omega)
 by_cases c3:bt s 0=48
 ·refine ⟨0,false,Ev.congr (fun _=>if_neg c1) (Ev.congr (fun _=>if_pos c2) (Ev.congr (fun _=>if_pos (by omega)) ?_)),fun h=>by cases h⟩;rw [beq_iff_eq.mpr c3];refine Ev_shift ?_;simp only [j2b.j0,if_true];exact Ev.now _
 refine ⟨(idxL (bytesOf s) 0).getD 0,(idxL (bytesOf s) 0).isSome,Ev.congr (fun _=>if_neg c1) (Ev.congr (fun _=>if_pos c2) (Ev.congr (fun _=>if_pos (by omega)) ?_)),fun h1 h2=>?_⟩
 ·rw [beq_eq_false_iff_ne.mpr c3];exact go
 ·cases e:idxL (bytesOf s) 0 with
  | none=>rw [e] at h1;cases h1
  | some v=>rw [e] at h2;exact told v e h2 (fun _=>c3)
theorem bt_getD {s : ByteArray} {i:Nat} (h:i<s.size):bt s (i:Int)=(bytesOf s).getD i 0:=by
 have h1:i<(bytesOf s).length:=by rw [bytesOf_length];exact h
 have hF:From s i ((bytesOf s).getD i 0 :: (bytesOf s).drop (i+1)):=⟨by omega,at_int h1⟩;exact hF.bt
theorem bracket_eq {s : ByteArray} (hs:s.size≤2147483647):∃ v b,Ev (fun k=>j3o.f k s) (v,b)∧(b=true→v<2147483648→0≤v∧isIx s=true∧kIdx s=some v):=by
 unfold j3o.f;by_cases c1:(s.size:Int)<3
 ·exact ⟨0,false,Ev.congr (fun _=>if_pos c1) (Ev.now _),fun h=>by cases h⟩
 have hw:wrap64 ((s.size:Int) - 1)=((s.size - 1:Nat):Int):=by rw [w64 (by omega)];omega
 rw [hw];by_cases c2:bt s 0=91
 rotate_left
 ·exact ⟨0,false,Ev.congr (fun _=>if_neg c1) (Ev.congr (fun _=>if_pos (by omega)) (Ev.congr (fun _=>if_neg c2) (Ev.now _))),fun h=>by cases h⟩
 by_cases c3:bt s ((s.size - 1:Nat):Int)=93
 rotate_left
 ·exact ⟨0,false,Ev.congr (fun _=>if_neg c1) (Ev.congr (fun _=>if_pos (by omega)) (Ev.congr (fun _=>if_pos c2) (Ev.congr (fun _=>if_pos (by omega)) (Ev.congr (fun _=>if_pos (by omega)) (Ev.congr (fun _=>if_neg c3) (Ev.now _)))))),fun h=>by cases h⟩
 obtain ⟨v,b,h1,h2⟩:=index_eq (s:=s.extract 1 (s.size - 1)) (by rw [ByteArray.size_extract];omega);refine ⟨v,b,Ev.congr (fun _=>if_neg c1) (Ev.congr (fun _=>if_pos (by omega)) (Ev.congr (fun _=>if_pos c2) (Ev.congr (fun _=>if_pos (by omega)) (Ev.congr (fun _=>if_pos (by omega)) (Ev.congr (fun _=>if_pos c3) (Ev.congr (fun _=>if_pos (by omega)) (Ev.congr (fun _=>if_pos (by omega)) ?_))))))),fun hb hv=>?_⟩
 ·rw [Int.toNat_natCast];exact Ev.bind h1 (Ev.now _)
 ·obtain ⟨g1,g2,g3⟩:=h2 hb hv;rw [ByteArray.size_extract] at g2;have e0:=bt_getD (s:=s) (i:=0) (by omega);have e1:=bt_getD (s:=s) (i:=s.size - 1) (by omega);refine ⟨g1,?_,?_⟩
  ·exact decide_eq_true ⟨by omega,by rw [← e0];exact c2⟩
  ·rw [kIdx,if_pos ⟨by omega,by omega,by rw [← e1];exact c3⟩];exact g3
def OKP (s : ByteArray) (p:S27):Prop:=∃ (a:Nat) (v R:List Int),PV a v p∧(bytesOf s).drop a=v++R
def NQ (s : ByteArray) (q:S49):Prop:=∃ (a:Nat) (b x:List Int),Body b∧(bytesOf s).drop a=34 :: (b++34 :: x)∧q=⟨(a:Int),((a+b.length+2:Nat):Int)⟩
theorem PM.kids {s : ByteArray}:∀ (n:Nat) (a:Nat) (m R:List Int) (ns:List S49) (ps:List S27),m.length≤n→PM a m ns ps→(bytesOf s).drop a=m++R→(∀ q ∈ ns,NQ s q)∧(∀ q ∈ ps,OKP s q)∧ns.length=ps.length∧ps.length≤m.length:=by
 intro n
 induction n with
 | zero =>
  intro a m R ns ps hn h;cases h<;>(subst_vars;simp at hn)
 | succ n ih =>
  intro a m R ns ps hn h hL
  have sub:∀ (b B1 B2 v x:List Int),(bytesOf s).drop a=34 :: (b++34 :: (B1++58 :: (B2++(v++x))))→(bytesOf s).drop (a+b.length+2+B1.length+1+B2.length)=v++x:=fun b B1 B2 v x h=>by
   have:=j2z (x:=34 :: (b++34 :: (B1++58 :: B2))) (y:=v++x) (by rw [h];simp);rw [← this]
   congr 1
   simp only [List.length_cons,List.length_append];omega
  cases h with
  | @one _ _ b B1 B2 v B3 p _ _ hb h1 h2 h3 hv e en ep =>
   subst e en ep;refine ⟨fun q hq=>?_,fun q hq=>?_,rfl,by simp⟩
   ·rw [List.mem_singleton.mp hq];exact ⟨a,b,B1++58 :: (B2++(v++(B3++[125])))++R,hb,by rw [hL];simp,rfl⟩
   ·rw [List.mem_singleton.mp hq];exact ⟨_,v,(B3++[125])++R,hv,sub b B1 B2 v _ zq82⟩
  | @more _ _ b B1 B2 v B3 B4 m' p _ ns' _ ps' hb h1 h2 h3 h4 hv hm e en ep =>
   subst e en ep;simp only [List.length_cons,List.length_append] at hn;have hx:=sub b B1 B2 v ((B3++44 :: (B4++m'))++R) zq82
   have hd:(bytesOf s).drop (a+b.length+2+B1.length+1+B2.length+v.length+B3.length+1+B4.length)=m'++R:=by
    have:=j2z (x:=v++(B3++44 :: B4)) (y:=m'++R) (by rw [hx];simp);rw [← this]
    congr 1
    simp only [List.length_cons,List.length_append];omega
   obtain ⟨k1,k2,k3,k4⟩:=ih _ _ _ _ _ (by omega) hm hd;refine ⟨fun q hq=>?_,fun q hq=>?_,by simp [k3],by simp only [List.length_cons,List.length_append];omega⟩
   ·rcases List.mem_cons.mp hq with rfl|hq
    ·exact ⟨a,b,B1++58 :: (B2++(v++(B3++44 :: (B4++m'))))++R,hb,by rw [hL];simp,rfl⟩
    ·exact k1 q hq
   ·rcases List.mem_cons.mp hq with rfl|hq
    ·exact ⟨_,v,_,hv,hx⟩
    ·exact k2 q hq
theorem PE.kids {s : ByteArray}:∀ (n:Nat) (a:Nat) (m R:List Int) (ps:List S27),m.length≤n→PE a m ps→(bytesOf s).drop a=m++R→(∀ q ∈ ps,OKP s q)∧ps.length≤m.length:=by
 intro n
 induction n with
 | zero =>
  intro a m R ps hn h;cases h with
  | one _ _ e _=>subst e;simp at hn
  | more _ _ _ _ e _=>subst e;simp at hn
 | succ n ih =>
  intro a m R ps hn h hL;cases h with
  | @one _ _ v B p _ hB hv e ep =>
   subst e ep;exact ⟨fun q hq=>by rw [List.mem_singleton.mp hq];exact ⟨_,v,(B++[93])++R,hv,by rw [hL];simp⟩,by simp;omega⟩
  | @more _ _ v B B' m' p _ ps' hB hB' hv hm e ep =>
   subst e ep;simp only [List.length_cons,List.length_append] at hn
   have hd:(bytesOf s).drop (a+v.length+B.length+1+B'.length)=m'++R:=by
    have:=j2z (x:=v++(B++44 :: B')) (y:=m'++R) zq82;rw [← this]
    congr 1
    simp only [List.length_cons,List.length_append];omega
   have hvp:=hv.pos;obtain ⟨k1,k2⟩:=ih _ _ _ _ (by omega) hm hd;refine ⟨fun q hq=>?_,by simp only [List.length_cons,List.length_append];omega⟩;rcases List.mem_cons.mp hq with rfl|hq
   ·exact ⟨_,v,(B++44 :: (B'++m'))++R,hv,by rw [hL];simp⟩
   ·exact k1 q hq
theorem OKP.kids {s : ByteArray} {p:S27} (h:OKP s p):(∀ q ∈ p.f3,NQ s q)∧(∀ q ∈ p.f4,OKP s q)∧(p.f0=6→p.f3.length=p.f4.length)∧p.f3.length≤s.size∧p.f4.length≤s.size:=by
 obtain ⟨a,v,R,h,hL⟩:=h;have hl:=congrArg List.length hL;simp only [List.length_drop,List.length_append,bytesOf_length] at hl;have nil:(∀ q ∈ ([]:List S49),NQ s q)∧(∀ q ∈ ([]:List S27),OKP s q):=⟨fun _ h=>by simp at h,fun _ h=>by simp at h⟩
 have sub:∀ (c:Int) (B m:List Int),v=c :: (B++m)→(bytesOf s).drop (a+1+B.length)=m++R:=fun c B m e=>by
  have:=j2z (x:=c :: B) (y:=m++R) (by rw [hL,e];simp);rw [← this]
  congr 1
  simp only [List.length_cons];omega
 cases h with
 | str _ _ e=>subst e;exact ⟨nil.1,nil.2,fun _=>rfl,Nat.zero_le _,Nat.zero_le _⟩
 | sca _ e=>subst e;exact ⟨nil.1,nil.2,fun _=>rfl,Nat.zero_le _,Nat.zero_le _⟩
 | obj0 _ _ e=>subst e;exact ⟨nil.1,nil.2,fun _=>rfl,Nat.zero_le _,Nat.zero_le _⟩
 | arr0 _ _ e=>subst e;exact ⟨nil.1,nil.2,fun _=>rfl,Nat.zero_le _,Nat.zero_le _⟩
 | @obj _ _ B m ns ps _ hB hm e ep =>
  subst ep;obtain ⟨k1,k2,k3,k4⟩:=PM.kids _ _ _ _ _ _ (Nat.le_refl _) hm (sub 123 B m e);have:=congrArg List.length e;simp only [List.length_cons,List.length_append] at this;exact ⟨k1,k2,fun _=>k3,by simp only;omega,by simp only;omega⟩
 | @arr _ _ B m ps _ hB hm e ep =>
  subst ep;obtain ⟨k2,k4⟩:=PE.kids _ _ _ _ _ (Nat.le_refl _) hm (sub 91 B m e);have:=congrArg List.length e;simp only [List.length_cons,List.length_append] at this;exact ⟨nil.1,k2,fun h=>(by simp at h),Nat.zero_le _,by simp only;omega⟩
theorem NQ.unq {s : ByteArray} (hs:s.size≤2147483647) {q:S49} (h:NQ s q):0≤q.f0∧q.f0≤q.f1∧q.f1≤(s.size:Int)∧Ev (fun k=>j1z.f k (s.extract q.f0.toNat q.f1.toNat)) (strOfNums (nmB (bytesOf s) q)):=by
 obtain ⟨a,b,x,hb,hL,rfl⟩:=h;have hl:=congrArg List.length hL;simp only [List.length_drop,List.length_append,List.length_cons,bytesOf_length] at hl;refine ⟨by simp only;omega,by simp only;omega,by simp only;omega,?_⟩;rw [nmB_eq (x:=34 :: x) (by rw [hL])];simp only [Int.toNat_natCast];have hF:From s a ((34 :: (b++[34]))++x):=⟨by omega,by rw [hL];simp⟩;have hx:=hF.extract;rw [show a+(34 :: (b++[34])).length=a+b.length+2 by simp only [List.length_cons,List.length_append,List.length_nil];omega] at hx;exact unquote_eq (by rw [ByteArray.size_extract];omega) hx hb
theorem rd_ns {ns : List S49} {i:Nat} (h:i<ns.length):ns[i]? = some (j2s ns (i:Int)):=by
 unfold j2s;rw [Int.toNat_natCast,List.getD_eq_getElem?_getD,List.getElem?_eq_getElem h];rfl
theorem rd_ps {ps : List S27} {i:Nat} (h:i<ps.length):ps[i]? = some (j2i ps (i:Int)):=by
 unfold j2i;rw [Int.toNat_natCast,List.getD_eq_getElem?_getD,List.getElem?_eq_getElem h];rfl
section
variable {s : ByteArray} (hs:s.size≤2147483647)
include hs
theorem named_l0 {key : ByteArray} {ns:List S49} {ps:List S27} {p0 p1 p2:Int} (hn:∀ q ∈ ns,NQ s q) (hl:ns.length≤s.size):∀ (n i:Nat),ns.length - i≤n→(∀ j,j<i→∀ x,ns[j]? = some x→strOfNums (nmB (bytesOf s) x)≠key) →
 ∃ r:Int,Ev (fun k=>j2n.l0 k s key i p0 p1 p2 ns ps) r∧(r = -1∨∃ j:Nat,r=(j:Int)∧j<ns.length∧(∀ i,i<j→∀ x,ns[i]? = some x→strOfNums (nmB (bytesOf s) x)≠key)∧∃ x,ns[j]? = some x∧strOfNums (nmB (bytesOf s) x)=key):=by
 intro n
 induction n with
 | zero =>
  intro i hi _;refine ⟨-1,Ev_shift ?_, .inl rfl⟩;simp only [j2n.l0];exact zl22
 | succ n ih =>
  intro i hi hno;by_cases hlt:i<ns.length
  rotate_left
  ·refine ⟨-1,Ev_shift ?_, .inl rfl⟩;simp only [j2n.l0];exact zl22
  have hq:=rd_ns hlt;have hmem:j2s ns (i:Int) ∈ ns:=List.mem_of_getElem? hq;obtain ⟨u1,u2,u3,u4⟩:=(hn _ hmem).unq hs;have hw:wrap64 ((i:Int)+1)=((i+1:Nat):Int):=by rw [w64 (by omega)];omega
  have st:∀ {r},Ev (fun k=>if (strOfNums (nmB (bytesOf s) (j2s ns (i:Int)))).toList=key.toList then some (i:Int) else j2n.l0 k s key (wrap64 ((i:Int)+1)) p0 p1 p2 ns ps) r→Ev (fun k=>j2n.l0 k s key i p0 p1 p2 ns ps) r:=fun {r} hr=>by
   refine Ev_shift ?_;simp only [j2n.l0];exact zl21
  by_cases he:strOfNums (nmB (bytesOf s) (j2s ns (i:Int)))=key
  ·exact ⟨(i:Int),st (Ev.congr (fun _=>if_pos (by rw [he])) (Ev.now _)), .inr ⟨i,rfl,hlt,hno,_,hq,he⟩⟩
  obtain ⟨r,h1,h2⟩:=ih (i+1) (by omega) (fun j hj x hx=>by
   by_cases hji:j<i
   ·exact hno j hji x hx
   obtain rfl:j=i:=by omega
   rw [hq] at hx;cases hx;exact he)
  refine ⟨r,st (Ev.congr (fun _=>if_neg (fun e=>he (toList_inj e))) ?_),h2⟩;rw [hw];exact h1
def Stp (s : ByteArray) (p:S27) (key:ByteArray) (q:S27):Prop :=
  (p.f0=6∧∃ j:Nat,(∀ i,i<j→∀ x,p.f3[i]? = some x→strOfNums (nmB (bytesOf s) x)≠key)∧(∃ x,p.f3[j]? = some x∧strOfNums (nmB (bytesOf s) x)=key)∧p.f4[j]? = some q) ∨
  (p.f0=5∧isIx key=true∧∃ j:Nat,kIdx key=some (j:Int)∧p.f4[j]? = some q)
omit hs in
theorem Stp.seek {p q p':S27} {key:ByteArray} {ks:List ByteArray} (h:Stp s p key q) (k:SeekP (bytesOf s) q ks p'):SeekP (bytesOf s) p (key :: ks) p':=by
 rcases h with ⟨h0,j,h1,h2,h3⟩|⟨h0,h1,j,h2,h3⟩
 ·exact .obj h0 h1 h2 h3 k
 ·exact .arr h0 h1 h2 h3 k
theorem step_eq {p : S27} (hp:OKP s p) {key:ByteArray} (hk:key.size≤2147483647):∃ (q:S27) (ok:Bool),Ev (fun k=>j2r.f k s p.f0 p.f1 p.f2 p.f3 p.f4 key) (q.f0,q.f1,q.f2,q.f3,q.f4,ok)∧(ok=true→OKP s q∧Stp s p key q):=by
 obtain ⟨k1,k2,k3,k4,k5⟩:=hp.kids;unfold j2r.f;have zero:∀ {g:Nat→Option _},Ev g (0,0,0,([]:List S49),([]:List S27),false)→∃ (q:S27) (ok:Bool),Ev g (q.f0,q.f1,q.f2,q.f3,q.f4,ok)∧(ok=true→OKP s q∧Stp s p key q):=fun h=>⟨⟨0,0,0,[],[]⟩,false,h,fun h=>by cases h⟩
 by_cases c6:p.f0=6
 ·obtain ⟨r,h1,h2⟩:=named_l0 hs (key:=key) (ps:=p.f4) (p0:=p.f0) (p1:=p.f1) (p2:=p.f2) k1 k4 _ 0 (Nat.le_refl _) (fun j hj=>by omega);have h1':Ev (fun k=>j2n.f k s p.f0 p.f1 p.f2 p.f3 p.f4 key) r:=h1;rcases h2 with rfl|⟨j,rfl,hj,h4,h5⟩
  ·exact zero (Ev.congr (fun _=>if_pos c6) (Ev.bind h1' (Ev.congr (fun _=>if_pos zq50) (Ev.now _))))
  ·have hjp:j<p.f4.length:=by rw [← k3 c6];exact hj
   have hq:=rd_ps hjp;refine ⟨j2i p.f4 (j:Int),true,Ev.congr (fun _=>if_pos c6) (Ev.bind h1' (Ev.congr (fun _=>if_neg (by omega)) (Ev.congr (fun _=>if_pos (by omega)) (Ev.congr (fun _=>if_pos (by omega)) (Ev.now _))))),fun _=>⟨k2 _ (List.mem_of_getElem? hq), .inl ⟨c6,j,h4,h5,hq⟩⟩⟩
 by_cases c5:p.f0=5
 rotate_left
 ·exact zero (Ev.congr (fun _=>if_neg c6) (Ev.congr (fun _=>if_neg c5) (Ev.congr (fun _=>if_pos zq50) (Ev.now _))))
 obtain ⟨v,b,h1,h2⟩:=bracket_eq hk
 have j0:∀ (x:Bool) {R},Ev (fun _=>if x=true then (if v<0 then (some (0,0,0,([]:List S49),([]:List S27),false)) else (if 0≤v then (if v<(p.f4.length:Int) then (some ((j2i p.f4 v).f0,(j2i p.f4 v).f1,(j2i p.f4 v).f2,(j2i p.f4 v).f3,(j2i p.f4 v).f4,true)) else (none)) else (none))) else some (0,0,0,([]:List S49),([]:List S27),false)) R →
  Ev (fun k=>j2r.j0 k (-1) v x p.f0 p.f1 p.f2 p.f3 p.f4) R:=fun x {R} h=>by
  refine Ev_shift ?_;simp only [j2r.j0];refine Ev.congr (fun _=>?_) h;cases x<;>simp
 cases b with
 | false=>exact zero (Ev.congr (fun _=>if_neg c6) (Ev.congr (fun _=>if_pos c5) (Ev.bind h1 (Ev.congr (fun _=>if_neg (by simp)) (j0 false (Ev.congr (fun _=>if_neg (by simp)) (Ev.now _)))))))
 | true =>
  by_cases hv:v<(p.f4.length:Int)
  rotate_left
  ·refine zero (Ev.congr (fun _=>if_neg c6) (Ev.congr (fun _=>if_pos c5) (Ev.bind h1 (Ev.congr (fun _=>if_pos rfl) ?_))));rw [decide_eq_false hv];exact j0 false (Ev.congr (fun _=>if_neg (by simp)) (Ev.now _))
  obtain ⟨g1,g2,g3⟩:=h2 rfl (by omega);obtain ⟨j,rfl⟩:∃ j:Nat,v=(j:Int):=⟨v.toNat,by omega⟩;have hq:=rd_ps (ps:=p.f4) (i:=j) (by omega);refine ⟨j2i p.f4 (j:Int),true,Ev.congr (fun _=>if_neg c6) (Ev.congr (fun _=>if_pos c5) (Ev.bind h1 (Ev.congr (fun _=>if_pos rfl) ?_))),fun _=>⟨k2 _ (List.mem_of_getElem? hq), .inr ⟨c5,g2,j,g3,hq⟩⟩⟩;rw [decide_eq_true hv];exact j0 true (Ev.congr (fun _=>if_pos rfl) (Ev.congr (fun _=>if_neg (by omega)) (Ev.congr (fun _=>if_pos (by omega)) (Ev.congr (fun _=>if_pos hv) (Ev.now _)))))
end
end Go.Proofs.YthmjfmpgmcgonaaDoor.J
end
section
namespace Go.Proofs.YthmjfmpgmcgonaaDoor.J
open Go.RowKit Go.Proofs.YthmjfmpgmcgonaaDoor.K Go.Proofs.YthmjfmpgmcgonaaDoorW.PrintWords Go.Proofs.YthmjfmpgmcgonaaDoorW.PrintLast
set_option linter.unusedVariables false
set_option linter.unusedSimpArgs false
theorem h2I_eq {c : Int} (h:0≤c∧c≤255) (k:Nat):j1r.f (k+4) c=some ((hexv c).getD (-1)):=by
 unfold j1r.f hexv;by_cases h1:48≤c∧c≤57
 ·rw [if_pos (by omega),decide_eq_true h1.2,j1r.j0,if_pos rfl,if_pos h1]
  congr 1
  show _=c - 48
  omega
 have e:(if c≥48 then j1r.j0 (k+4) c (decide (c≤57)) else j1r.j0 (k+4) c false)=j1r.j0 (k+4) c false:=by
  by_cases h48:c≥48
  rotate_left
  ·rw [if_neg h48]
  rw [if_pos h48,decide_eq_false (by omega)]
 rw [e,if_neg h1,j1r.j0,if_neg zq50];by_cases h2:65≤c∧c≤70
 ·rw [if_pos (by omega),decide_eq_true h2.2,j1r.j1,if_pos rfl,if_neg (by omega),if_pos h2]
  congr 1
  show _=c - 55
  omega
 have e2:(if c≥65 then j1r.j1 (k+3) c (decide (c≤70)) else j1r.j1 (k+3) c false)=j1r.j1 (k+3) c false:=by
  by_cases h65:c≥65
  rotate_left
  ·rw [if_neg h65]
  rw [if_pos h65,decide_eq_false (by omega)]
 rw [e2,j1r.j1,if_neg zq50];by_cases h3:97≤c∧c≤102
 ·rw [if_pos (by omega),if_pos (by omega),if_pos h3]
  congr 1
  show _=c - 87
  omega
 rw [if_neg h3,if_neg h2];by_cases h97:c≥97
 rotate_left
 ·rw [if_neg h97];rfl
 rw [if_pos h97,if_neg (by omega)];rfl
def dS (l : List Int):Int × Bool:=if (l.length:Int)<6 then (65533,false) else match hex4 (l.drop 2) with
  | some v=>(v,true)
  | none=>(65533,false)
theorem single_eq {l : List Int} (hr:∀ x ∈ l,0≤x∧x≤255) (k:Nat):j1u.f (k+4) l=some (dS l):=by
 unfold j1u.f dS;by_cases h6:(l.length:Int)<6
 ·rw [if_pos h6,if_pos h6]
 rw [if_neg h6,if_neg h6]
 match l,h6,hr with
 | [],h6,_=>exact absurd h6 (by simp)
 | [_],h6,_=>exact absurd h6 (by simp)
 | [_,_],h6,_=>exact absurd h6 (by simp)
 | [_,_,_],h6,_=>exact absurd h6 (by simp)
 | [_,_,_,_],h6,_=>exact absurd h6 (by simp)
 | [_,_,_,_,_],h6,_=>exact absurd h6 (by simp)
 | p :: q :: a :: b :: c :: d :: r,h6,hr =>
  have ha:=hr a (by simp);have hb:=hr b (by simp);have hc:=hr c (by simp);have hd:=hr d (by simp);have e2:rd (p :: q :: a :: b :: c :: d :: r) 2=a:=rfl;have e3:rd (p :: q :: a :: b :: c :: d :: r) 3=b:=rfl;have e4:rd (p :: q :: a :: b :: c :: d :: r) 4=c:=rfl;have e5:rd (p :: q :: a :: b :: c :: d :: r) 5=d:=rfl;rw [if_pos (by omega),e2,h2I_eq ha,Option.bind_some,if_pos (by omega),e3,h2I_eq hb,Option.bind_some,if_pos (by omega),e4,h2I_eq hc,Option.bind_some,if_pos (by omega),e5,h2I_eq hd,Option.bind_some];simp only [List.drop_succ_cons,List.drop_zero,hex4];cases qa:hexv a with
  | none=>simp
  | some va =>
   cases qb:hexv b with
   | none=>have:=j3k qa;simp [show va ≠ -1 by omega]
   | some vb =>
    cases qc:hexv c with
    | none=>have:=j3k qa;have:=j3k qb;simp [show va ≠ -1 by omega,show vb ≠ -1 by omega]
    | some vc =>
     cases qd:hexv d with
     | none=>have:=j3k qa;have:=j3k qb;have:=j3k qc;simp [show va ≠ -1 by omega,show vb ≠ -1 by omega,show vc ≠ -1 by omega]
     | some vd =>
      have r1:=j3k qa;have r2:=j3k qb;have r3:=j3k qc;have r4:=j3k qd;simp only [Option.getD_some,Option.bind_some];rw [if_neg (by omega),if_neg (by omega),if_neg (by omega),if_neg (by omega)];have w1:wrap64 (va*4096)=va*4096:=w64 (by omega);have w2:wrap64 (vb*256)=vb*256:=w64 (by omega);have w3:wrap64 (vc*16)=vc*16:=w64 (by omega);rw [w1,w2,w3,w64 (x:=va*4096+vb*256) (by omega),w64 (x:=va*4096+vb*256+vc*16) (by omega),w64 (x:=va*4096+vb*256+vc*16+vd) (by omega)];have w4:wrap32 (va*4096+vb*256+vc*16+vd)=va*4096+vb*256+vc*16+vd:=by unfold wrap32;omega
      rw [w4]
      congr 2
      omega
def dU (l : List Int):Int × Int :=
  if (dS l).2=true then
    (if 55296≤(dS l).1∧(dS l).1≤57343 then
      (if (dS l).1≥56320 then (65533,6)
       else if (l.length:Int)<8∨rd l 6≠92∨rd l 7≠117 then (65533,6)
       else if (dS (l.drop 6)).2=true then
         (if (dS (l.drop 6)).1<56320∨57343<(dS (l.drop 6)).1 then (65533,6) else (65536+((dS l).1 - 55296)*1024+((dS (l.drop 6)).1 - 56320),12))
       else (65533,-1))
     else ((dS l).1,6))
  else (65533,-1)
theorem dS_len {l : List Int} (h:(dS l).2=true):6≤l.length∧0≤(dS l).1∧(dS l).1≤65535:=by
 unfold dS at h ⊢
 split at h
 ·cases h
 ·rename_i h6;rw [if_neg h6];split at h
  ·rename_i v hv;have:=hex4_range hv;simp only;omega
  ·cases h
theorem decode_eq {l : List Int} (hr:∀ x ∈ l,0≤x∧x≤255) (k:Nat):j1p.f (k+5) l=some (dU l):=by
 have hS:=single_eq hr (k+1);have hS2:=single_eq (l:=l.drop 6) (fun x hx=>hr x (List.mem_of_mem_drop hx)) k;have j0t:j1p.j0 (k+5) l (dS l).1 true=some (65533,6):=by rw [j1p.j0,if_pos rfl]
 unfold j1p.f dU;rw [hS,Option.bind_some];cases hs:(dS l).2 with
 | false=>rfl
 | true =>
  obtain ⟨h6,g0,g1⟩:=dS_len hs;simp only [if_true,j2w.f]
  have e1:(if 55296≤(dS l).1 then some (decide ((dS l).1≤57343)) else some false)=some (decide (55296≤(dS l).1∧(dS l).1≤57343)):=by
   split<;>simp<;>omega
  rw [e1,Option.bind_some];by_cases hsu:55296≤(dS l).1∧(dS l).1≤57343
  rotate_left
  ·rw [decide_eq_false hsu,if_neg zq50,if_neg hsu]
  rw [decide_eq_true hsu,if_pos rfl,if_pos hsu];by_cases hlo:(dS l).1≥56320
  ·rw [if_pos hlo,if_pos hlo]
  rw [if_neg hlo,if_neg hlo];by_cases h8:(l.length:Int)<8
  ·rw [if_pos h8,j0t,if_pos (.inl h8)]
  rw [if_neg h8,if_pos (by omega)];by_cases h92:rd l 6=92
  rotate_left
  ·rw [if_neg h92,j0t,if_pos (.inr (.inl h92))]
  rw [if_pos h92,if_pos (by omega)];by_cases h117:rd l 7=117
  rotate_left
  ·have e2:(rd l 7 != 117)=true:=by simp [h117]
   rw [e2,j0t,if_pos (.inr (.inr h117))]
  have e2:(rd l 7 != 117)=false:=by simp [h117]
  have hno:¬ ((l.length:Int)<8∨rd l 6≠92∨rd l 7≠117):=by rintro (h|h|h)<;>omega
  rw [e2,j1p.j0,if_neg zq50,if_pos (by omega),hS2,Option.bind_some,if_neg hno];cases hs2:(dS (l.drop 6)).2 with
  | false=>rfl
  | true =>
   obtain ⟨_,q0,q1⟩:=dS_len hs2;simp only [if_true];by_cases ha:(dS (l.drop 6)).1<56320
   ·rw [if_pos ha,if_pos (.inl ha)]
   rw [if_neg ha];by_cases hb:(dS (l.drop 6)).1>57343
   ·rw [if_pos hb,if_pos (.inr hb)]
   rw [if_neg hb,if_neg (by omega)];simp only [j3c.f,Option.bind_some]
   congr 2
   unfold wrap32;omega
theorem stp_eq {l : List Int} (hr:∀ x ∈ l,0≤x∧x≤255) (k:Nat):stp (k+5) l=some (if (l.length:Int)<2 then (-1,[]) else if rd l 0=92 then (if isE (rd l 1)=true then (2,[unl (rd l 1)]) else if rd l 1=117 then (if (dU l).2 = -1 then (-1,[]) else ((dU l).2,eB (dU l).1)) else (-1,[])) else (-1,[])):=by
 unfold stp;by_cases h2:(l.length:Int)<2
 ·rw [if_pos h2,if_pos h2]
 rw [if_neg h2,if_neg h2];by_cases h92:rd l 0=92
 rotate_left
 ·rw [if_neg h92,if_neg h92]
 rw [if_pos h92,if_pos h92];by_cases hE:isE (rd l 1)=true
 ·rw [if_pos hE,if_pos hE]
 rw [if_neg hE,if_neg hE];by_cases hu:rd l 1=117
 rotate_left
 ·rw [if_neg hu,if_neg hu]
 rw [if_pos hu,if_pos hu,decode_eq hr,Option.bind_some];by_cases hm:(dU l).2 = -1
 ·rw [if_pos hm,if_pos hm]
 rw [if_neg hm,if_neg hm,if_pos];unfold dU at hm ⊢;by_cases hs:(dS l).2=true
 rotate_left
 ·rw [if_neg hs] at hm;exact absurd rfl hm
 obtain ⟨h6,g0,g1⟩:=dS_len hs;rw [if_pos hs] at hm ⊢;by_cases hsu:55296≤(dS l).1∧(dS l).1≤57343
 rotate_left
 ·rw [if_neg hsu];simp only;omega
 rw [if_pos hsu] at hm ⊢;by_cases hlo:(dS l).1≥56320
 ·rw [if_pos hlo];simp only;omega
 rw [if_neg hlo] at hm ⊢;by_cases h8:(l.length:Int)<8∨rd l 6≠92∨rd l 7≠117
 ·rw [if_pos h8];simp only;omega
 rw [if_neg h8] at hm ⊢;by_cases hs2:(dS (l.drop 6)).2=true
 rotate_left
 ·rw [if_neg hs2] at hm;exact absurd rfl hm
 obtain ⟨q6,q0,q1⟩:=dS_len hs2;rw [List.length_drop] at q6;rw [if_pos hs2] at hm ⊢;by_cases hab:(dS (l.drop 6)).1<56320∨57343<(dS (l.drop 6)).1
 rotate_left
 ·rw [if_neg hab];simp only;omega
 rw [if_pos hab];simp only;omega
theorem eB_utf2 {c : Int}:eB c=utf c:=by
 unfold eB utf;split
 ·rfl
 split
 ·rfl
 by_cases h:55296≤c∧c≤57343
 ·have h':hiS c=true∨loS c=true:=by simp only [hiS,loS,decide_eq_true_eq];omega
  rw [if_pos h,if_pos h']
 have h':¬ (hiS c=true∨loS c=true):=by simp only [hiS,loS,decide_eq_true_eq];omega
 rw [if_neg h,if_neg h']
theorem utf_half {v : Int} (h:55296≤v∧v≤57343):utf v=[239,191,189]:=by
 have h':hiS v=true∨loS v=true:=by simp only [hiS,loS,decide_eq_true_eq];omega
 unfold utf;rw [if_neg (by omega),if_neg (by omega),if_pos h']
theorem eB_fffd : eB 65533=[239,191,189]:=by decide
theorem dS_six2 {a b c d v:Int} (r:List Int) (h:hex4 (a :: b :: c :: d :: r)=some v) (p q:Int):dS (p :: q :: a :: b :: c :: d :: r)=(v,true):=by
 unfold dS;rw [if_neg zq66,show List.drop 2 (p :: q :: a :: b :: c :: d :: r)=a :: b :: c :: d :: r from rfl,h]
theorem stp_body {r : List Int} (hb:Body (92 :: r)) (hr:∀ x ∈ 92 :: r,0≤x∧x≤255) (k:Nat):∃ (m:Nat) (x:List Int),stp (k+5) (92 :: r)=some ((m:Int),x)∧1≤m∧m≤(92 :: r).length∧x.length≤m∧unqL (92 :: r)=x++unqL ((92 :: r).drop m)∧Body ((92 :: r).drop m):=by
 rw [stp_eq hr];cases hb with
 | raw h1 h2 h3 _=>exact absurd rfl h3
 | @two b l hE hb =>
  refine ⟨2,[unl b],?_,by omega,by simp,by simp,?_,hb⟩
  ·rw [if_neg zq66,if_pos (by rfl),if_pos (by exact hE)];rfl
  ·rw [unqL_two _ (isE_ne hE)];rfl
 | @six a b c d v l hx hb =>
  have hrg:=hex4_range hx;have hl:=utf_len v
  have ht:(if ((92 :: 117 :: a :: b :: c :: d :: l:List Int).length:Int)<2 then ((-1:Int),([]:List Int)) else if rd (92 :: 117 :: a :: b :: c :: d :: l) 0=92 then (if isE (rd (92 :: 117 :: a :: b :: c :: d :: l) 1)=true then (2,[unl (rd (92 :: 117 :: a :: b :: c :: d :: l) 1)]) else if rd (92 :: 117 :: a :: b :: c :: d :: l) 1=117 then (if (dU (92 :: 117 :: a :: b :: c :: d :: l)).2 = -1 then (-1,[]) else ((dU (92 :: 117 :: a :: b :: c :: d :: l)).2,eB (dU (92 :: 117 :: a :: b :: c :: d :: l)).1)) else (-1,[])) else (-1,[]))=(if (dU (92 :: 117 :: a :: b :: c :: d :: l)).2 = -1 then (-1,[]) else ((dU (92 :: 117 :: a :: b :: c :: d :: l)).2,eB (dU (92 :: 117 :: a :: b :: c :: d :: l)).1)):=by
   rw [if_neg zq66,if_pos (by rfl),if_neg (by exact fun hh=>absurd (show isE 117=true from hh) zq50),if_pos (by rfl)]
  rw [ht]
  have six:∀ {q:Int} {x:List Int},dU (92 :: 117 :: a :: b :: c :: d :: l)=(q,6)→eB q=utf v→pairL v l=none→∃ (m:Nat) (x:List Int),some (if (dU (92 :: 117 :: a :: b :: c :: d :: l)).2 = -1 then ((-1:Int),([]:List Int)) else ((dU (92 :: 117 :: a :: b :: c :: d :: l)).2,eB (dU (92 :: 117 :: a :: b :: c :: d :: l)).1))=some ((m:Int),x)∧1≤m∧m≤(92 :: 117 :: a :: b :: c :: d :: l).length∧x.length≤m∧unqL (92 :: 117 :: a :: b :: c :: d :: l)=x++unqL ((92 :: 117 :: a :: b :: c :: d :: l).drop m)∧Body ((92 :: 117 :: a :: b :: c :: d :: l).drop m):=by
   intro q _ hq he hp;rw [hq,if_neg (by simp only;omega)];refine ⟨6,utf v,by simp only [he];rfl,by omega,by simp,by omega,?_,hb⟩;rw [unqL_six hx,hp];rfl
  have hdS:=dS_six2 (p:=92) (q:=117) l hx;by_cases hsu:55296≤v∧v≤57343
  rotate_left
  ·refine six (x:=[]) (q:=v) ?_ eB_utf2 ?_
   ·unfold dU;rw [hdS];simp only [if_true];rw [if_neg hsu]
   ·unfold pairL;have h1:hiS v=false:=by simp only [hiS,decide_eq_false_iff_not];omega
    rw [h1];cases unitL l<;>rfl
  by_cases hlo:v≥56320
  ·refine six (x:=[]) (q:=65533) ?_ (by rw [eB_fffd,utf_half hsu]) ?_
   ·unfold dU;rw [hdS];simp only [if_true];rw [if_pos hsu,if_pos hlo]
   ·unfold pairL;have h1:hiS v=false:=by simp only [hiS,decide_eq_false_iff_not];omega
    rw [h1];cases unitL l<;>rfl
  cases hu:unitL l with
  | none =>
   refine six (x:=[]) (q:=65533) ?_ (by rw [eB_fffd,utf_half hsu]) (by unfold pairL;rw [hu];rfl);unfold dU;rw [hdS];simp only [if_true];rw [if_pos hsu,if_neg hlo];rw [if_pos];cases hb with
   | nil=>exact .inl (by simp only [List.length_cons,List.length_nil];omega)
   | @raw c2 l2 g1 g2 g3 _ =>
    refine .inr (.inl ?_)
    show c2≠92
    exact g3
   | @two b2 l2 hE2 _ =>
    refine .inr (.inr ?_)
    show b2≠117
    exact isE_ne hE2
   | six hx2 _ =>
    rw [unitL_six hx2] at hu;cases hu
  | some m =>
   cases hb with
   | nil=>simp [unitL] at hu
   | @raw c2 l2 g1 g2 g3 _ =>
    cases l2 with
    | nil=>simp [unitL] at hu
    | cons z l2 =>
     simp only [unitL] at hu;rw [if_neg (fun hh=>g3 hh.1)] at hu;cases hu
   | @two b2 l2 hE2 _ =>
    rw [unitL_two (isE_ne hE2)] at hu;cases hu
   | @six a2 b2 c2 d2 m2 l2 hx2 hb2 =>
    rw [unitL_six hx2] at hu;obtain rfl:=Option.some.inj hu;have hrg2:=hex4_range hx2;have e1:List.drop 6 (92 :: 117 :: a :: b :: c :: d :: 92 :: 117 :: a2 :: b2 :: c2 :: d2 :: l2)=92 :: 117 :: a2 :: b2 :: c2 :: d2 :: l2:=rfl;have e2:rd (92 :: 117 :: a :: b :: c :: d :: 92 :: 117 :: a2 :: b2 :: c2 :: d2 :: l2) 6=92:=rfl;have e3:rd (92 :: 117 :: a :: b :: c :: d :: 92 :: 117 :: a2 :: b2 :: c2 :: d2 :: l2) 7=117:=rfl
    have hno:¬ (((92 :: 117 :: a :: b :: c :: d :: 92 :: 117 :: a2 :: b2 :: c2 :: d2 :: l2:List Int).length:Int)<8∨(92:Int)≠92∨(117:Int)≠117):=by
     simp only [List.length_cons];omega
    have hdS2:=dS_six2 (p:=92) (q:=117) l2 hx2;by_cases hm2:m2<56320∨57343<m2
    ·refine six (x:=[]) (q:=65533) ?_ (by rw [eB_fffd,utf_half hsu]) ?_
     ·unfold dU;rw [hdS];simp only [if_true];rw [if_pos hsu,if_neg hlo,e1,e2,e3,if_neg hno,hdS2];simp only [if_true];rw [if_pos hm2]
     ·unfold pairL;have h1:loS m2=false:=by simp only [loS,decide_eq_false_iff_not];omega
      rw [unitL_six hx2,Option.bind_some,h1,Bool.and_false,if_neg zq50]
    have hU:dU (92 :: 117 :: a :: b :: c :: d :: 92 :: 117 :: a2 :: b2 :: c2 :: d2 :: l2)=(65536+(v - 55296)*1024+(m2 - 56320),12):=by
     unfold dU;rw [hdS];simp only [if_true];rw [if_pos hsu,if_neg hlo,e1,e2,e3,if_neg hno,hdS2];simp only [if_true];rw [if_neg hm2]
    have hul:=utf_len (65536+(v - 55296)*1024+(m2 - 56320));rw [hU,if_neg (by simp only;omega)];refine ⟨12,utf (65536+(v - 55296)*1024+(m2 - 56320)),by simp only [eB_utf2];rfl,by omega,by simp,by omega,?_,hb2⟩
    have hp:pairL v (92 :: 117 :: a2 :: b2 :: c2 :: d2 :: l2)=some m2:=by
     unfold pairL;have h1:hiS v=true:=by simp only [hiS,decide_eq_true_eq];omega
     have h2:loS m2=true:=by simp only [loS,decide_eq_true_eq];omega
     rw [unitL_six hx2,Option.bind_some,h1,h2];rfl
    rw [unqL_six hx,hp];rfl
theorem unqL_no : ∀ l:List Int,ixL l = -1→unqL l=l
 | [],_=>unqL_nil
 | c :: l,h=>by
  rw [ixL] at h
  split at h
  ·omega
  ·rename_i hc;split at h
   ·rename_i h2;rw [unqL_raw _ hc,unqL_no l h2]
   ·have:=ixL_range l;omega
theorem unqL_at : ∀ (l:List Int) (j:Nat),ixL l=(j:Int)→Body l→unqL l=l.take j++unqL (l.drop j)∧Body (l.drop j)∧∃ r,l.drop j=92 :: r
 | [],j,h,_=>by simp only [ixL] at h;omega
 | c :: l,j,h,hb=>by
  rw [ixL] at h
  split at h
  ·rename_i hc;subst hc;obtain rfl:j=0:=by omega
   exact ⟨rfl,hb,l,rfl⟩
  ·rename_i hc;split at h
   ·omega
   ·obtain ⟨j,rfl⟩:∃ i,j=i+1:=⟨j - 1,by have:=ixL_range l;omega⟩
    have hb2:Body l:=by
     cases hb with
     | raw _ _ _ hb=>exact hb
     | two _ _=>exact absurd rfl hc
     | six _ _=>exact absurd rfl hc
    obtain ⟨h1,h2,h3⟩:=unqL_at l j (by omega) hb2;rw [unqL_raw _ hc,List.drop_succ_cons,List.take_succ_cons,List.cons_append,← h1];exact ⟨rfl,h2,h3⟩
theorem jun_body (k : Nat):∀ (n:Nat) (r E:List Int) (f:Nat),(92 :: r).length≤n→n<f→Body (92 :: r)→(∀ x ∈ 92 :: r,0≤x∧x≤255)→jun (k+5) f (92 :: r) E=some (some (E++unqL (92 :: r))):=by
 intro n
 induction n with
 | zero=>intro r E f hn;simp at hn
 | succ n ih =>
  intro r E f hn hf hb hr;obtain ⟨f,rfl⟩:∃ g,f=g+1:=⟨f - 1,by omega⟩;obtain ⟨m,x,h1,h4,h5,h6,h7,h8⟩:=stp_body hb hr k;rw [jun,h1,Option.bind_some];simp only;rw [if_neg (by omega),if_pos ⟨by omega,by omega,by omega⟩,Int.toNat_natCast,h7];have hld:((92 :: r).drop m).length=(92 :: r).length - m:=List.length_drop;have hrd:∀ x ∈ (92 :: r).drop m,0≤x∧x≤255:=fun x hx=>hr x (List.mem_of_mem_drop hx)
  generalize (92 :: r).drop m=l2 at hld hrd h8 ⊢
  rcases ixL_range l2 with hj|⟨j,hj,hj1,_⟩
  ·rw [if_pos hj,unqL_no l2 hj,List.append_assoc]
  ·obtain ⟨h9,h10,r3,h11⟩:=unqL_at l2 j hj h8;rw [if_neg (by omega),hj,Int.toNat_natCast,h9,h11];have hl3:(92 :: r3).length=l2.length - j:=by rw [← h11];exact List.length_drop
   rw [ih r3 _ f (by omega) (by omega) (by rw [← h11];exact h10) (fun x hx=>hrd x (List.mem_of_mem_drop (by rw [h11];exact hx)))];simp only [List.append_assoc]
theorem unc_body {b : List Int} (hb:Body b) (hr:∀ x ∈ b,0≤x∧x≤255) (k:Nat) (hk:b.length+10≤k):unc k b=some (some (unqL b)):=by
 obtain ⟨k,rfl⟩:∃ j,k=j+5:=⟨k - 5,by omega⟩;unfold unc;rcases ixL_range b with hj|⟨j,hj,hj1,_⟩
 ·rw [if_pos hj,unqL_no b hj]
 ·obtain ⟨h9,h10,r3,h11⟩:=unqL_at b j hj hb;rw [if_neg (by omega),hj,Int.toNat_natCast,h9,h11];have hl3:(92 :: r3).length=b.length - j:=by rw [← h11];exact List.length_drop
  exact jun_body k (92 :: r3).length r3 _ (k+5) (Nat.le_refl _) (by omega) (by rw [← h11];exact h10) (fun x hx=>hr x (List.mem_of_mem_drop (by rw [h11];exact hx)))
end Go.Proofs.YthmjfmpgmcgonaaDoor.J
end
section
namespace Go.Proofs.YthmjfmpgmcgonaaDoor.J
open Go.RowKit Go.Proofs.YthmjfmpgmcgonaaDoor.K Go.Proofs.YthmjfmpgmcgonaaDoorW.PrintWords Go.Proofs.YthmjfmpgmcgonaaDoorW.PrintLast
set_option linter.unusedVariables false
set_option linter.unusedSimpArgs false
set_option linter.unusedSectionVars false

theorem up31 {i : Nat} (h:i≤2147483647):wrap64 ((i:Int)+1)=((i+1:Nat):Int):=by rw [w64 (by omega)];omega
theorem rd_ks {ks : List ByteArray} {i:Nat} (h:i<ks.length):ks.drop i=rdOf ByteArray.empty ks (i:Int) :: ks.drop (i+1):=by
 have e:=List.drop_eq_getElem_cons h;rw [e];unfold rdOf;rw [Int.toNat_natCast,List.getD_eq_getElem?_getD,List.getElem?_eq_getElem h];rfl
theorem rd_mem {ks : List ByteArray} {i:Nat} (h:i<ks.length):rdOf ByteArray.empty ks (i:Int) ∈ ks:=by
 have:=rd_ks h;exact List.mem_of_mem_drop (i:=i) (by rw [this];simp)
theorem fits_l0 {ks : List ByteArray} (hl:ks.length≤2147483647):∀ (n i:Nat),ks.length - i≤n→i≤ks.length→∃ b,Ev (fun k=>j2m.l0 k ks (ks.length:Int) i) b∧(b=true→∀ s ∈ ks.drop i,s.size≤2147483647):=by
 intro n
 induction n with
 | zero =>
  intro i hi hle;refine ⟨true,Ev_shift ?_,fun _ s hs=>?_⟩
  ·simp only [j2m.l0];exact Ev.congr (fun _=>if_neg (by omega)) (Ev.now _)
  ·rw [List.drop_of_length_le (by omega)] at hs;simp at hs
 | succ n ih =>
  intro i hi hle;by_cases hlt:i<ks.length
  rotate_left
  ·refine ⟨true,Ev_shift ?_,fun _ s hs=>?_⟩
   ·simp only [j2m.l0];exact Ev.congr (fun _=>if_neg (by omega)) (Ev.now _)
   ·rw [List.drop_of_length_le (by omega)] at hs;simp at hs
  have hI_i:i≤2147483647:=by omega
  have st:∀ {r},Ev (fun k=>if ((rdOf ByteArray.empty ks (i:Int)).size:Int)>2147483647 then some false else j2m.l0 k ks (ks.length:Int) (wrap64 ((i:Int)+1))) r→Ev (fun k=>j2m.l0 k ks (ks.length:Int) i) r:=fun {r} hr=>by
   refine Ev_shift ?_;simp only [j2m.l0];exact Ev.congr (fun _=>if_pos (by omega)) (Ev.congr (fun _=>if_pos (by omega)) (Ev.congr (fun _=>if_pos (by omega)) hr))
  by_cases hz:((rdOf ByteArray.empty ks (i:Int)).size:Int)>2147483647
  ·exact ⟨false,st (Ev.congr (fun _=>if_pos hz) (Ev.now _)),fun h=>by cases h⟩
  obtain ⟨b,h1,h2⟩:=ih (i+1) (by omega) (by omega);refine ⟨b,st (Ev.congr (fun _=>if_neg hz) ?_),fun hb s hs=>?_⟩
  ·rw [up31 hI_i];exact h1
  ·rw [rd_ks hlt] at hs;rcases List.mem_cons.mp hs with rfl|hs
   ·omega
   ·exact h2 hb s hs
theorem fits_eq (ks : List ByteArray):∃ b,Ev (fun k=>j2m.f k ks) b∧(b=true→ks.length≤2147483647∧∀ s ∈ ks,s.size≤2147483647):=by
 unfold j2m.f;by_cases c:(ks.length:Int)>2147483647
 ·exact ⟨false,Ev.congr (fun _=>if_pos c) (Ev.now _),fun h=>by cases h⟩
 obtain ⟨b,h1,h2⟩:=fits_l0 (ks:=ks) (by omega) _ 0 (Nat.le_refl _) (Nat.zero_le _);exact ⟨b,Ev.congr (fun _=>if_neg c) h1,fun h=>⟨by omega,by simpa using h2 h⟩⟩
section
variable {s : ByteArray} (hs:s.size≤2147483647) {ks:List ByteArray} (hl:ks.length≤2147483647) (hk:∀ x ∈ ks,x.size≤2147483647)
include hs hl hk
theorem once_l1 {key : ByteArray} {i:Nat} {p:S27} (hp:OKP s p) (hc:∃ b,Ev (fun k=>(j2r.f k s p.f0 p.f1 p.f2 p.f3 p.f4 key).bind fun t=>if t.2.2.2.2.2=true then j2h.l0 k s ks (ks.length:Int) (wrap64 ((i:Int)+1)) t.1 t.2.1 t.2.2.1 t.2.2.2.1 t.2.2.2.2.1 else some true) b) :
 ∀ (n j c:Nat),p.f3.length - j≤n→c≤j→j≤p.f3.length→∃ b,Ev (fun k=>j2h.l1 k s key c j ks (ks.length:Int) i p.f0 p.f1 p.f2 p.f3 p.f4) b:=by
 obtain ⟨k1,k2,k3,k4,k5⟩:=hp.kids
 have last:∀ (j c:Nat),¬ (j:Int)<(p.f3.length:Int)→∃ b,Ev (fun k=>j2h.l1 k s key c j ks (ks.length:Int) i p.f0 p.f1 p.f2 p.f3 p.f4) b:=fun j c hj=>by
  by_cases h1:(c:Int)>1
  ·refine ⟨false,Ev_shift ?_⟩;simp only [j2h.l1];exact Ev.congr (fun _=>if_neg hj) (Ev.congr (fun _=>if_pos h1) (Ev.now _))
  obtain ⟨b,hb⟩:=hc;refine ⟨b,Ev_shift ?_⟩;simp only [j2h.l1];exact Ev.congr (fun _=>if_neg hj) (Ev.congr (fun _=>if_neg h1) hb)
 intro n
 induction n with
 | zero =>
  intro j c hn hcj hj;exact last j c (by omega)
 | succ n ih =>
  intro j c hn hcj hj;by_cases hlt:j<p.f3.length
  rotate_left
  ·exact last j c (by omega)
  have hq:=rd_ns hlt;have hmem:j2s p.f3 (j:Int) ∈ p.f3:=List.mem_of_getElem? hq;obtain ⟨u1,u2,u3,u4⟩:=(k1 _ hmem).unq hs;have hI_j:j≤2147483647:=by omega
  have hI_c:c≤2147483647:=by omega
  have st:∀ {r},Ev (fun k=>if (strOfNums (nmB (bytesOf s) (j2s p.f3 (j:Int)))).toList=key.toList then j2h.l1 k s key (wrap64 ((c:Int)+1)) (wrap64 ((j:Int)+1)) ks (ks.length:Int) i p.f0 p.f1 p.f2 p.f3 p.f4 else j2h.l1 k s key c (wrap64 ((j:Int)+1)) ks (ks.length:Int) i p.f0 p.f1 p.f2 p.f3 p.f4) r→Ev (fun k=>j2h.l1 k s key c j ks (ks.length:Int) i p.f0 p.f1 p.f2 p.f3 p.f4) r:=fun {r} hr=>by
   refine Ev_shift ?_;simp only [j2h.l1];exact zl21
  by_cases he:(strOfNums (nmB (bytesOf s) (j2s p.f3 (j:Int)))).toList=key.toList
  rotate_left
  ·obtain ⟨b,hb⟩:=ih (j+1) c (by omega) (by omega) (by omega);refine ⟨b,st (Ev.congr (fun _=>if_neg he) ?_)⟩;rw [up31 hI_j];exact hb
  obtain ⟨b,hb⟩:=ih (j+1) (c+1) (by omega) (by omega) (by omega);refine ⟨b,st (Ev.congr (fun _=>if_pos he) ?_)⟩;rw [up31 hI_j,up31 hI_c];exact hb
theorem once_l0 : ∀ (n i:Nat) (p:S27),OKP s p→ks.length - i≤n→i≤ks.length→∃ b,Ev (fun k=>j2h.l0 k s ks (ks.length:Int) i p.f0 p.f1 p.f2 p.f3 p.f4) b:=by
 intro n
 induction n with
 | zero =>
  intro i p hp hn hi;refine ⟨true,Ev_shift ?_⟩;simp only [j2h.l0];exact zl22
 | succ n ih =>
  intro i p hp hn hi;by_cases hlt:i<ks.length
  rotate_left
  ·refine ⟨true,Ev_shift ?_⟩;simp only [j2h.l0];exact zl22
  have hI_i:i≤2147483647:=by omega
  obtain ⟨q,ok,h1,h2⟩:=step_eq hs hp (hk _ (rd_mem hlt))
  have hc:∃ b,Ev (fun k=>(j2r.f k s p.f0 p.f1 p.f2 p.f3 p.f4 (rdOf ByteArray.empty ks (i:Int))).bind fun t=>if t.2.2.2.2.2=true then j2h.l0 k s ks (ks.length:Int) (wrap64 ((i:Int)+1)) t.1 t.2.1 t.2.2.1 t.2.2.2.1 t.2.2.2.2.1 else some true) b:=by
   cases ok with
   | false=>exact ⟨true,Ev.bind h1 (Ev.congr (fun _=>if_neg (by simp)) (Ev.now _))⟩
   | true =>
    obtain ⟨b,hb⟩:=ih (i+1) q (h2 rfl).1 (by omega) (by omega);refine ⟨b,Ev.bind h1 (Ev.congr (fun _=>if_pos rfl) ?_)⟩;rw [up31 hI_i];exact hb
  by_cases h6:p.f0=6
  rotate_left
  ·obtain ⟨b,hb⟩:=hc;refine ⟨b,Ev_shift ?_⟩;simp only [j2h.l0];exact Ev.congr (fun _=>if_pos (by omega)) (Ev.congr (fun _=>if_pos (by omega)) (Ev.congr (fun _=>if_pos (by omega)) (Ev.congr (fun _=>if_neg h6) hb)))
  obtain ⟨b,hb⟩:=once_l1 hs hl hk hp hc _ 0 0 (Nat.le_refl _) (Nat.le_refl _) (Nat.zero_le _);refine ⟨b,Ev_shift ?_⟩;simp only [j2h.l0];exact Ev.congr (fun _=>if_pos (by omega)) (Ev.congr (fun _=>if_pos (by omega)) (Ev.congr (fun _=>if_pos (by omega)) (Ev.congr (fun _=>if_pos h6) hb)))
omit hs hl hk in
theorem jpIndex_eq (key : ByteArray):∃ b,j3y.f key=some b:=by
 unfold j3y.f;split
 ·exact ⟨_,rfl⟩
 ·rename_i h;split
  ·exact ⟨_,rfl⟩
  ·rename_i h2;exfalso;apply h;rw [ByteArray.toList_eq];apply List.length_eq_zero_iff.mp
   show key.size=0
   omega
theorem found_l0 : ∀ (n i:Nat) (p:S27),OKP s p→ks.length - i≤n→i≤ks.length→∃ (q:S27) (ok:Bool),Ev (fun k=>j2l.l0 k s ks i p.f0 p.f1 p.f2 p.f3 p.f4) (q.f0,q.f1,q.f2,q.f3,q.f4,ok)∧(ok=true→OKP s q∧SeekP (bytesOf s) p (ks.drop i) q):=by
 have zero:∀ {g:Nat→Option _} {R:S27→Prop},Ev g (0,0,0,([]:List S49),([]:List S27),false)→∃ (q:S27) (ok:Bool),Ev g (q.f0,q.f1,q.f2,q.f3,q.f4,ok)∧(ok=true→R q):=fun h=>⟨⟨0,0,0,[],[]⟩,false,h,fun h=>by cases h⟩
 have done:∀ (i:Nat) (p:S27),OKP s p→¬ i<ks.length→∃ (q:S27) (ok:Bool),Ev (fun k=>j2l.l0 k s ks i p.f0 p.f1 p.f2 p.f3 p.f4) (q.f0,q.f1,q.f2,q.f3,q.f4,ok)∧(ok=true→OKP s q∧SeekP (bytesOf s) p (ks.drop i) q):=fun i p hp hi=>by
  refine ⟨p,true,Ev_shift ?_,fun _=>⟨hp,?_⟩⟩
  ·simp only [j2l.l0];exact Ev.congr (fun _=>if_pos (by omega)) (Ev.congr (fun _=>if_neg (by omega)) (Ev.now _))
  ·rw [List.drop_of_length_le (by omega)];exact .nil
 intro n
 induction n with
 | zero=>exact fun i p hp hn hi=>done i p hp (by omega)
 | succ n ih =>
  intro i p hp hn hi;by_cases hlt:i<ks.length
  rotate_left
  ·exact done i p hp hlt
  have hI_i:i≤2147483647:=by omega
  obtain ⟨q,ok,h1,h2⟩:=step_eq hs hp (hk _ (rd_mem hlt))
  have hx:∃ b,(if p.f0=6 then j3y.f (rdOf ByteArray.empty ks (i:Int)) else some false)=some b:=by
   split
   ·exact jpIndex_eq _
   ·exact ⟨_,rfl⟩
  obtain ⟨b,hb⟩:=hx
  have st:∀ {r},Ev (fun k=>if b=true then some (0,0,0,([]:List S49),([]:List S27),false) else (j2r.f k s p.f0 p.f1 p.f2 p.f3 p.f4 (rdOf ByteArray.empty ks (i:Int))).bind fun t=>if t.2.2.2.2.2=true then j2l.l0 k s ks (wrap64 ((i:Int)+1)) t.1 t.2.1 t.2.2.1 t.2.2.2.1 t.2.2.2.2.1 else some (0,0,0,[],[],false)) r→Ev (fun k=>j2l.l0 k s ks i p.f0 p.f1 p.f2 p.f3 p.f4) r:=fun {r} hr=>by
   refine Ev_shift ?_;simp only [j2l.l0];refine Ev.congr (fun _=>if_pos (by omega)) (Ev.congr (fun _=>if_pos (by omega)) ?_);rw [hb];exact hr
  cases b with
  | true=>exact zero (st (Ev.congr (fun _=>if_pos rfl) (Ev.now _)))
  | false =>
   cases ok with
   | false=>exact zero (st (Ev.congr (fun _=>if_neg (by simp)) (Ev.bind h1 (Ev.congr (fun _=>if_neg (by simp)) (Ev.now _)))))
   | true =>
    obtain ⟨hq,hS⟩:=h2 rfl;obtain ⟨r,ok,g1,g2⟩:=ih (i+1) q hq (by omega) (by omega);refine ⟨r,ok,st (Ev.congr (fun _=>if_neg (by simp)) (Ev.bind h1 (Ev.congr (fun _=>if_pos rfl) ?_))),fun hok=>?_⟩
    ·rw [up31 hI_i];exact g1
    ·obtain ⟨g3,g4⟩:=g2 hok;refine ⟨g3,?_⟩;rw [rd_ks hlt];exact hS.seek g4
theorem found_eq : ∃ (q:S27) (ok:Bool),Ev (fun k=>j2l.f k s ks) (q.f0,q.f1,q.f2,q.f3,q.f4,ok)∧(ok=true→s.size≤65536∧OKP s q∧∃ (B v B':List Int) (p:S27),bytesOf s=B++(v++B')∧Bl B∧Bl B'∧PV B.length v p∧SeekP (bytesOf s) p ks q):=by
 have zero:∀ {g:Nat→Option _} {R:S27→Prop},Ev g (0,0,0,([]:List S49),([]:List S27),false)→∃ (q:S27) (ok:Bool),Ev g (q.f0,q.f1,q.f2,q.f3,q.f4,ok)∧(ok=true→R q):=fun h=>⟨⟨0,0,0,[],[]⟩,false,h,fun h=>by cases h⟩
 unfold j2l.f;by_cases c1:(s.size:Int)>65536
 ·have hP:Ev (fun k=>j3g.f k s) (0,0,0,[],[],false):=by
   unfold j3g.f;exact Ev.congr (fun _=>if_pos c1) (Ev.now _)
  exact zero (Ev.bind hP (Ev.congr (fun _=>if_neg (by simp)) (Ev.now _)))
 obtain ⟨hy,hno⟩:=places_eq hs;cases ht:textL (bytesOf s) with
 | false =>
  have hP:Ev (fun k=>j3g.f k s) (0,0,0,[],[],false):=by
   unfold j3g.f;exact Ev.congr (fun _=>if_neg c1) (Ev.bind (hno ht) (Ev.now _))
  exact zero (Ev.bind hP (Ev.congr (fun _=>if_neg (by simp)) (Ev.now _)))
 | true =>
  obtain ⟨B,v,B',p,hL,hB,hB',hv,hE⟩:=hy ht
  have hP:Ev (fun k=>j3g.f k s) (p.f0,p.f1,p.f2,p.f3,p.f4,true):=by
   unfold j3g.f;exact Ev.congr (fun _=>if_neg c1) (Ev.bind hE (Ev.now _))
  have hp:OKP s p:=⟨B.length,v,B',hv,by rw [hL];simp⟩;obtain ⟨b,hO⟩:=once_l0 hs hl hk _ 0 p hp (Nat.le_refl _) (Nat.zero_le _);have hO':Ev (fun k=>j2h.f k s p.f0 p.f1 p.f2 p.f3 p.f4 ks) b:=hO;cases b with
  | false=>exact zero (Ev.bind hP (Ev.congr (fun _=>if_pos rfl) (Ev.bind hO' (Ev.congr (fun _=>if_neg (by simp)) (Ev.now _)))))
  | true =>
   obtain ⟨q,ok,g1,g2⟩:=found_l0 hs hl hk _ 0 p hp (Nat.le_refl _) (Nat.zero_le _);refine ⟨q,ok,Ev.bind hP (Ev.congr (fun _=>if_pos rfl) (Ev.bind hO' (Ev.congr (fun _=>if_pos rfl) g1))),fun hok=>?_⟩;obtain ⟨g3,g4⟩:=g2 hok;exact ⟨by omega,g3,B,v,B',p,hL,hB,hB',hv,by simpa using g4⟩
end
theorem sStep_un {un un' : List Int→Option (Option (List Int))} (h:∀ l,LeO (un l) (un' l)) (sq:Bool):∀ (n:Nat) (ks:List ByteArray) (l:List Int) (kl lv:Int) (i:Nat) (lm:Bool),LeO (sKl sq un n ks l kl lv i lm) (sKl sq un' n ks l kl lv i lm)
 | 0,_,_,_,_,_,_=>fun r h=>by simp [sKl] at h
 | n+1,ks,l,kl,lv,i,lm=>by
  rw [sKl,sKl];refine LeO.ite (LeO.refl _) (LeO.bind (sStep_mono h _ _ _ _ _ _ _) (fun r=>?_));cases r with
  | done r=>exact LeO.refl _
  | go kl' lv' i' lm'=>exact sStep_un h sq n _ _ _ _ _ _
  | sub m=>exact LeO.bind (LeO.refl _) (fun _=>LeO.bind (LeO.refl _) (fun _=>LeO.bind (LeO.ite (LeO.refl _) (sStep_un h sq n _ _ _ _ _ _)) (fun _=>LeO.refl _)))
theorem unc_up {u k : Nat} (h:u≤k) (l:List Int):LeO (unc u l) (unc k l):=fun r hr=>at_rounds (g:=fun k=>unc k l) (fun k=>unc_mono k l) h hr
theorem sK_ev {ks : List ByteArray} {l:List Int} {R:Int} {u k0:Nat} (h:∀ n,sK false (unc u) (n+k0) ks l=some R):Ev (fun k=>sK false (unc k) k ks l) R:=by
 refine ⟨u+k0,fun k hk=>?_⟩;have h1:=h (k - k0);rw [show k - k0+k0=k by omega] at h1;have:LeO (sK false (unc u) k ks l) (sK false (unc k) k ks l):=LeO.ite (LeO.refl _) (sStep_un (unc_up (by omega)) false k _ _ _ _ _ _);exact this _ h1
section
variable {s : ByteArray} (hs:s.size≤2147483647) {ks:List ByteArray} (hl:ks.length≤2147483647) (hk:∀ x ∈ ks,x.size≤2147483647)
include hs hl hk
theorem seek_ev {B v B':List Int} {p q:S27} (hL:bytesOf s=B++(v++B')) (hB:Bl B) (hB':Bl B') (hv:PV B.length v p) (hS:SeekP (bytesOf s) p ks q) :
 ∃ (i a:Nat) (v1 C r1 R1:List Int),PV a v1 q∧(bytesOf s).drop a=v1++R1∧(bytesOf s).drop i=C++(v1++r1)∧Bl C∧Dl r1∧Ev (fun k=>sK false (unc k) k ks (bytesOf s)) (i:Int):=by
 have hun:∀ b,Body b→(∀ x ∈ b,0≤x∧x≤255)→b.length≤(bytesOf s).length→unc ((bytesOf s).length+10) b=some (some (unqL b)):=fun b h1 h2 h3=>unc_body h1 h2 _ (by omega)
 obtain ⟨i,a,v1,C,r1,R1,z1,z2,z3,z4,z5,k,z6⟩:=find_all (bytesOf s).length hun (sq:=false) hL (Nat.le_refl _) (bytesOf_range s) hB hB' hv hS;exact ⟨i,a,v1,C,r1,R1,z1,z2,z3,z4,z5,sK_ev z6⟩
end
end Go.Proofs.YthmjfmpgmcgonaaDoor.J
end
