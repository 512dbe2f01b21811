/- The words, walks and laws that the proof rests on, laid together (part 4). -/
import Derived.Test.YtchhndbekjgimaaKFnPrSpecInPlace3
section
namespace Go.Proofs.Ytchhndbekjgimaa.S
open Go.RowKit Go.Proofs.YtchhndbekjgimaaW.PrintWords Go.Proofs.YtchhndbekjgimaaW.PrintLast Go.Proofs.YtchhndbekjgimaaW.PrintMore
attribute [local go_sem] max2_int min2_int max_two min_two max_three min_three max_four min_four
set_option linter.unusedVariables false
set_option linter.unusedSimpArgs false
def j1v.l0 : Nat → ByteArray→ByteArray→Int→Option (Bool)
  | 0,_,_,_=>none
  | k+1,x0,x1,x5=>if x5<(x0.size:Int) then (if 0≤x5 then (if x5<(x1.size:Int) then (if (((bt x0 x5) == 10) != ((bt x1 x5) == 10))=true then (some false) else (j1v.l0 k x0 x1 (wrap64 (x5+1)))) else (none)) else (none)) else ((j2j.f k x0).bind fun bt101=>((j2j.f k x1).bind fun bt112=>(if bt101.2.2.2.2.2=true then (if bt112.2.2.2.2.2=true then ((j1m.f k bt101.1 bt101.2.1 bt101.2.2.1 bt101.2.2.2.1 bt101.2.2.2.2.1 bt112.1 bt112.2.1 bt112.2.2.1 bt112.2.2.2.1 bt112.2.2.2.2.1).bind fun t123=>(if t123=true then ((j2r.f k x0 bt101.1 bt101.2.1 bt101.2.2.1 bt101.2.2.2.1 bt101.2.2.2.2.1).bind fun t124=>((j2r.f k x1 bt112.1 bt112.2.1 bt112.2.2.1 bt112.2.2.2.1 bt112.2.2.2.2.1).bind fun t125=>(some (t124.toList == t125.toList)))) else (some false))) else (some false)) else (some false))))
def j1v.f (k : Nat) (a0:ByteArray) (a1:ByteArray):Option (Bool):=if (a0.size:Int)=(a1.size:Int) then (j1v.l0 k a0 a1 0) else (some false)
theorem j1v.mono_l : ∀ k,(∀ y0 y1 y2,LeO (j1v.l0 k y0 y1 y2) (j1v.l0 (k+1) y0 y1 y2))
 | 0=>fun _ _ _ r h=>by simp [j1v.l0] at h
 | k+1=>by
  have ih0:=j1v.mono_l k
  ·intro y0 y1 y2;unfold j1v.l0
   exact zm
theorem j1v.mono : ∀ a0 a1 k,LeO (j1v.f k a0 a1) (j1v.f (k+1) a0 a1):=by
 intro a0 a1 k;have ih0:=j1v.mono_l k;unfold j1v.f
 exact zm
def j1v.T6 : Bool × List (List Nat × List Nat):=(true,[([],[]),([],[]),([0,1],[0,1]),([2],[2]),([],[]),([],[]),([4,5],[4,5]),([6],[6]),([3,7],[3,7])])
def j1v.B6 : List Nat:=[0,0,3,7,0,0,48,112,255]
theorem j1v.tab6 : rtab .any (opsOf Try.f7 6)=j1v.T6:=by kernel_rfl
theorem j1v.bits6 : waitsOk j1v.T6.2 j1v.B6=true:=by kernel_rfl
def j1v.T10 : Bool × List (List Nat × List Nat):=(true,[([],[]),([0],[0]),([1],[1]),([1,2],[1,2]),([3,1],[3]),([4],[4]),([4],[4]),([5,6,4,4],[4,5,6]),([4,7],[4,7]),([8,7],[8]),([9],[9]),([9],[9]),([10,11,9,9],[9,10,11]),([9],[9]),([9],[9]),([13,14,12,9],[9,13,14]),([12,15,9],[9,12,15]),([9,16],[9,16]),([17,15,0,1,2,3,4,5,6,7,8,9,10,11,12,13,14,15,16,17],[17])])
def j1v.B10 : List Nat:=[0,1,3,7,15,31,31,127,255,511,1023,1023,4095,1023,1023,32767,65535,131071,262143]
theorem j1v.tab10 : rtab .any (opsOf Try.f7 10)=j1v.T10:=by kernel_rfl
theorem j1v.bits10 : waitsOk j1v.T10.2 j1v.B10=true:=by kernel_rfl
set_option maxHeartbeats 8000000 in
set_option maxRecDepth 100000 in
theorem j1v.calls (k : Nat) (a0:ByteArray) (a1:ByteArray) (r:Bool) (w:World) (h:j1v.f k a0 a1=some r) :
 Calls Try.prog 7 #[.string a0, .string a1] w fun e w'=>e = .returned (.bool r)∧Below w.heap.size w w':=by
 have hu34:=Try.underlying34;have HB:=mk0 (Below.refl w.heap.size w);have H:(if (a0.size:Int)=(a1.size:Int) then (j1v.l0 k a0 a1 0) else (some false))=some r:=h;clear h;by_cases c3:(a0.size:Int)=(a1.size:Int)
 rotate_left
 ·rw [if_neg c3] at H;have c3b0:((a0.size:Int) == (a1.size:Int))=false:=beq_eq_false_iff_ne.mpr c3;have c3b1:((a0.size:Int) != (a1.size:Int))=true:=bne_iff_ne.mpr c3;have c3b2:(a0.size == a1.size)=false:=by first|simpa using c3|(simp at c3 ⊢; omega)
  obtain rfl:=Option.some.inj H;go_enter Try.func7,Try.ntmps7;go_wp2;go_ret;exact zl9
 rw [if_pos c3] at H;have c3b0:((a0.size:Int) == (a1.size:Int))=true:=beq_iff_eq.mpr c3;have c3b1:((a0.size:Int) != (a1.size:Int))=false:=bne_eq_false_iff_eq.mpr c3;have c3b2:(a0.size == a1.size)=true:=by first|simpa using c3|(simp at c3 ⊢; omega)
 clear c3;have H':=mk0 H;clear H;go_enter Try.func7,Try.ntmps7;go_wp2;go_loopg [5] k (fun kq v5 w'=>∃ (x5_1:Int),v5 = .int .i64 x5_1∧Aside0 (j1v.l0 kq a0 a1 x5_1=some r)∧Aside0 (kq≤k)∧Aside0 (Below w.heap.size w w'))
 case atStart=>exact ⟨(0),zq27,H',⟨Nat.le_refl _⟩,⟨by repeat (first|(with_reducible first|exact HB.out|apply j1s|apply j1q|apply j1t)|exact HB.out)⟩⟩
 case round =>
  clear H'
  try clear p2
  try clear c3
  try clear c3b0
  try clear c3b1
  try clear c3b2
  obtain ⟨x5_1,rfl,HA,HK1,HB⟩:=hrel;cases gk with
  | zero=>exact absurd HA.out (by simp [j1v.l0])
  | succ k1 =>
   have H:=HA.out;clear HA;simp only [j1v.l0] at H;by_cases c4:x5_1<(a0.size:Int)
   ·rw [if_pos c4] at H;have c4b0:decide (x5_1<(a0.size:Int))=true:=decide_eq_true c4;clear c4;by_cases c5:0≤x5_1
    rotate_left
    ·rw [if_neg c5] at H;exact absurd H (by simp)
    rw [if_pos c5] at H;have c5b0:decide (0≤x5_1)=true:=decide_eq_true c5;clear c5;by_cases c7:x5_1<(a1.size:Int)
    rotate_left
    ·rw [if_neg c7] at H;exact absurd H (by simp)
    rw [if_pos c7] at H;have c7b0:decide (x5_1<(a1.size:Int))=true:=decide_eq_true c7;clear c7;by_cases c9:(((bt a0 x5_1) == 10) != ((bt a1 x5_1) == 10))=true
    rotate_left
    ·rw [if_neg c9] at H;have c9b0:(((bt a0 x5_1) == 10) != ((bt a1 x5_1) == 10))=false:=by simpa using c9
     (try (have c9b1:decide (((bt a0 x5_1) == 10)=((bt a1 x5_1) == 10))=true:=by simpa using c9));(try (have c9b2:(((bt a0 x5_1) == 10) == ((bt a1 x5_1) == 10))=true:=by simpa using c9));clear c9;have H':=mk0 H;clear H
     try go_wp2
     have n0_:=mk0 (j1t HB.out);clear HB;have HB:=n0_;clear n0_;have p6:0≤(x5_1:Int):=of_decide_eq_true zq12;have q6:x5_1<(a0.size:Int):=of_decide_eq_true zq12;have hx6:=bt_at a0 x5_1;replace p6:=eq_true p6;replace q6:=eq_true q6;have p8:0≤(x5_1:Int):=of_decide_eq_true zq12;have q8:x5_1<(a1.size:Int):=of_decide_eq_true zq12;have hx8:=bt_at a1 x5_1;replace p8:=eq_true p8;replace q8:=eq_true q8;refine start_ (n:=9) (S:=fun w'=>True) (ds:=[]) #[false,false,false,false,false,false,false,false,false] zq23 rfl rfl trivial (fun hHeld=>?_);refine j3l j1v.tab6 j1v.bits6 (fun HT_ HW_=>?_)
     generalize wr.drew=w11 at HB hHeld ⊢
     refine pure_ (i:=0) (N:=some 21) (v:=?_) (a':=?_) #[true,false,false,false,false,false,false,false,false] rfl rfl (j2e HT_.out zq23) (fun _ _ _ h=>h) (Or.inl ⟨by rfl,?_⟩) ?_ ?_;rotate_left
     ·exact zl3
     rotate_left
     ·exact zl0
     refine pure_ (i:=1) (N:=some 22) (v:=?_) (a':=?_) #[true,true,false,false,false,false,false,false,false] rfl rfl (j2e HT_.out zq23) (fun _ _ _ h=>h) (Or.inl ⟨by rfl,?_⟩) ?_ ?_;rotate_left
     ·exact zl3
     rotate_left
     ·exact zl0
     refine pure_ (i:=4) (N:=some 25) (v:=?_) (a':=?_) #[true,true,false,false,true,false,false,false,false] rfl rfl (j2e HT_.out zq23) (fun _ _ _ h=>h) (Or.inl ⟨by rfl,?_⟩) ?_ ?_;rotate_left
     ·exact zl3
     rotate_left
     ·exact zl0
     refine pure_ (i:=5) (N:=some 26) (v:=?_) (a':=?_) #[true,true,false,false,true,true,false,false,false] rfl rfl (j2e HT_.out zq23) (fun _ _ _ h=>h) (Or.inl ⟨by rfl,?_⟩) ?_ ?_;rotate_left
     ·exact zl3
     rotate_left
     ·exact zl0
     refine take_ (i:=2) (N:=some 23) (v:=?_) (a':=?_) #[true,true,true,false,true,true,false,false,false] rfl rfl (j2w HT_.out HW_.out zq23) (fun _ _ _ h=>h) (Or.inl ⟨by rfl,?_⟩) hHeld ?_ ?_;rotate_left
     ·intro w' _;go_simp;with_reducible rfl
     rotate_left
     ·exact zl0
     refine pure_ (i:=3) (N:=some 24) (v:=?_) (a':=?_) #[true,true,true,true,true,true,false,false,false] rfl rfl (j2e HT_.out zq23) (fun _ _ _ h=>h) (Or.inl ⟨by rfl,?_⟩) ?_ ?_;rotate_left
     ·exact zl3
     rotate_left
     ·exact zl0
     refine take_ (i:=6) (N:=some 27) (v:=?_) (a':=?_) #[true,true,true,true,true,true,true,false,false] rfl rfl (j2w HT_.out HW_.out zq23) (fun _ _ _ h=>h) (Or.inl ⟨by rfl,?_⟩) hHeld ?_ ?_;rotate_left
     ·intro w' _;go_simp;with_reducible rfl
     rotate_left
     ·exact zl0
     refine pure_ (i:=7) (N:=some 28) (v:=?_) (a':=?_) #[true,true,true,true,true,true,true,true,false] rfl rfl (j2e HT_.out zq23) (fun _ _ _ h=>h) (Or.inl ⟨by rfl,?_⟩) ?_ ?_;rotate_left
     ·exact zl3
     rotate_left
     ·exact zl0
     refine pure_ (i:=8) (N:=some 29) (v:=?_) (a':=?_) #[true,true,true,true,true,true,true,true,true] rfl rfl (j2e HT_.out zq23) (fun _ _ _ h=>h) (Or.inl ⟨by rfl,?_⟩) ?_ ?_;rotate_left
     ·exact zl3
     rotate_left
     ·exact zl0
     refine done_ (done_of HT_.out zq23) ?_
     try go_wp2
     go_roundg k1
     case measure=>have:=HK1.out;omega
     case rel=>exact ⟨(wrap64 (x5_1+1)),zq27,H',⟨by have:=HK1.out;omega⟩,⟨by repeat (first|(with_reducible first|exact HB.out|apply j1s|apply j1q|apply j1t)|exact HB.out)⟩⟩
    rw [if_pos c9] at H;have c9b0:(((bt a0 x5_1) == 10) != ((bt a1 x5_1) == 10))=true:=c9;(try (have c9b1:decide (((bt a0 x5_1) == 10)=((bt a1 x5_1) == 10))=false:=by simpa using c9));(try (have c9b2:(((bt a0 x5_1) == 10) == ((bt a1 x5_1) == 10))=false:=by simpa using c9));(try (have c9b3:¬ (((bt a0 x5_1) == 10)=((bt a1 x5_1) == 10)):=by simpa using c9));clear c9;obtain rfl:=Option.some.inj H
    try go_wp2
    have n0_:=mk0 (j1t HB.out);clear HB;have HB:=n0_;clear n0_;have p6:0≤(x5_1:Int):=of_decide_eq_true zq12;have q6:x5_1<(a0.size:Int):=of_decide_eq_true zq12;have hx6:=bt_at a0 x5_1;replace p6:=eq_true p6;replace q6:=eq_true q6;have p8:0≤(x5_1:Int):=of_decide_eq_true zq12;have q8:x5_1<(a1.size:Int):=of_decide_eq_true zq12;have hx8:=bt_at a1 x5_1;replace p8:=eq_true p8;replace q8:=eq_true q8;refine start_ (n:=9) (S:=fun w'=>True) (ds:=[]) #[false,false,false,false,false,false,false,false,false] zq23 rfl rfl trivial (fun hHeld=>?_);refine j3l j1v.tab6 j1v.bits6 (fun HT_ HW_=>?_)
    generalize wr.drew=w10 at HB hHeld ⊢
    refine pure_ (i:=0) (N:=some 21) (v:=?_) (a':=?_) #[true,false,false,false,false,false,false,false,false] rfl rfl (j2e HT_.out zq23) (fun _ _ _ h=>h) (Or.inl ⟨by rfl,?_⟩) ?_ ?_;rotate_left
    ·exact zl3
    rotate_left
    ·exact zl0
    refine pure_ (i:=1) (N:=some 22) (v:=?_) (a':=?_) #[true,true,false,false,false,false,false,false,false] rfl rfl (j2e HT_.out zq23) (fun _ _ _ h=>h) (Or.inl ⟨by rfl,?_⟩) ?_ ?_;rotate_left
    ·exact zl3
    rotate_left
    ·exact zl0
    refine pure_ (i:=4) (N:=some 25) (v:=?_) (a':=?_) #[true,true,false,false,true,false,false,false,false] rfl rfl (j2e HT_.out zq23) (fun _ _ _ h=>h) (Or.inl ⟨by rfl,?_⟩) ?_ ?_;rotate_left
    ·exact zl3
    rotate_left
    ·exact zl0
    refine pure_ (i:=5) (N:=some 26) (v:=?_) (a':=?_) #[true,true,false,false,true,true,false,false,false] rfl rfl (j2e HT_.out zq23) (fun _ _ _ h=>h) (Or.inl ⟨by rfl,?_⟩) ?_ ?_;rotate_left
    ·exact zl3
    rotate_left
    ·exact zl0
    refine take_ (i:=2) (N:=some 23) (v:=?_) (a':=?_) #[true,true,true,false,true,true,false,false,false] rfl rfl (j2w HT_.out HW_.out zq23) (fun _ _ _ h=>h) (Or.inl ⟨by rfl,?_⟩) hHeld ?_ ?_;rotate_left
    ·intro w' _;go_simp;with_reducible rfl
    rotate_left
    ·exact zl0
    refine pure_ (i:=3) (N:=some 24) (v:=?_) (a':=?_) #[true,true,true,true,true,true,false,false,false] rfl rfl (j2e HT_.out zq23) (fun _ _ _ h=>h) (Or.inl ⟨by rfl,?_⟩) ?_ ?_;rotate_left
    ·exact zl3
    rotate_left
    ·exact zl0
    refine take_ (i:=6) (N:=some 27) (v:=?_) (a':=?_) #[true,true,true,true,true,true,true,false,false] rfl rfl (j2w HT_.out HW_.out zq23) (fun _ _ _ h=>h) (Or.inl ⟨by rfl,?_⟩) hHeld ?_ ?_;rotate_left
    ·intro w' _;go_simp;with_reducible rfl
    rotate_left
    ·exact zl0
    refine pure_ (i:=7) (N:=some 28) (v:=?_) (a':=?_) #[true,true,true,true,true,true,true,true,false] rfl rfl (j2e HT_.out zq23) (fun _ _ _ h=>h) (Or.inl ⟨by rfl,?_⟩) ?_ ?_;rotate_left
    ·exact zl3
    rotate_left
    ·exact zl0
    refine pure_ (i:=8) (N:=some 29) (v:=?_) (a':=?_) #[true,true,true,true,true,true,true,true,true] rfl rfl (j2e HT_.out zq23) (fun _ _ _ h=>h) (Or.inl ⟨by rfl,?_⟩) ?_ ?_;rotate_left
    ·exact zl3
    rotate_left
    ·exact zl0
    refine done_ (done_of HT_.out zq23) ?_
    try go_wp2
    go_ret;exact zl9
   rw [if_neg c4] at H;have c4b0:decide (x5_1<(a0.size:Int))=false:=decide_eq_false c4;clear c4;replace H:=Option.bind_eq_some_iff.mp H;obtain ⟨⟨t101,t102,t103,t104,t107,t110⟩,A120,H⟩:=H;replace H:((j2j.f k1 a1).bind fun bt112=>(if t110=true then (if bt112.2.2.2.2.2=true then ((j1m.f k1 t101 t102 t103 t104 t107 bt112.1 bt112.2.1 bt112.2.2.1 bt112.2.2.2.1 bt112.2.2.2.2.1).bind fun t123=>(if t123=true then ((j2r.f k1 a0 t101 t102 t103 t104 t107).bind fun t124=>((j2r.f k1 a1 bt112.1 bt112.2.1 bt112.2.2.1 bt112.2.2.2.1 bt112.2.2.2.2.1).bind fun t125=>(some (t124.toList == t125.toList)))) else (some false))) else (some false)) else (some false)))=some r:=H;have A12:=mk0 A120;clear A120;replace H:=Option.bind_eq_some_iff.mp H;obtain ⟨⟨t112,t113,t114,t115,t118,t121⟩,A130,H⟩:=H;replace H:(if t110=true then (if t121=true then ((j1m.f k1 t101 t102 t103 t104 t107 t112 t113 t114 t115 t118).bind fun t123=>(if t123=true then ((j2r.f k1 a0 t101 t102 t103 t104 t107).bind fun t124=>((j2r.f k1 a1 t112 t113 t114 t115 t118).bind fun t125=>(some (t124.toList == t125.toList)))) else (some false))) else (some false)) else (some false))=some r:=H;have A13:=mk0 A130;clear A130;by_cases c14:t110=true
   rotate_left
   ·replace c14:=Bool.eq_false_iff.mpr c14;subst c14;have H1:(some false)=some r:=by rw [if_neg (show ¬ (false=true) by decide)] at H;exact H
    clear H;have H:=H1;clear H1;obtain rfl:=Option.some.inj H
    try go_wp2_with (first|((with_reducible refine j1r (f:=16) rfl ?_);refine j2f (some 32) rfl rfl Try.func16 zq23 rfl #[.string a0] rfl zq2 ?_;(with_reducible refine (j2j.calls k1 a0 t101 t102 t103 t104 t107 false _ A12.out).mono ?_);rintro e w63 ⟨v105,v108,rfl,ho0,ho1,hb⟩;refine ⟨_,rfl,?_⟩;have n0_:=mk0 (Kd.R_lower ho0 (j2u zq7));have n1_:=mk0 (Kd.R_lower ho1 (j2u zq7));have n2_:=mk0 (j2a zq7 hb);clear HB;have HO106:=n0_;have HO109:=n1_;have HB:=n2_;clear n0_ n1_ n2_;(try clear hb);(try clear hb2);(try clear hk);(try clear hi);(try clear ho0);(try clear ho1))|((with_reducible refine j2v (N:=6) rfl ?_);refine j2s ?hg (N:=6) ?hd (cs:=#[.int .i64 0, .int .i64 0, .int .i64 0, .slice none 0 0, .slice none 0 0]) (t:=34) ?hr ?_;(case hd=>rfl);(case hg=>rfl);(case hr=>exact zq37);intro gb111 hg w64 hbox hb;have n0_:=mk0 (Kd.R_below zq38 hb);have n1_:=mk0 (Kd.R_below (Kd.R_elderB zq39 gb111 (Nat.le_of_eq hg.symm)) hb);have n2_:=mk0 (j2a zq7 hb);have n3_:=mk0 (hbox);have n4_:=mk0 ((zq77:w.heap.size≤gb111));have n5_:=mk0 ((zq77:w.heap.size≤gb111));clear HO106 HO109 HB;have HO106:=n0_;have HO109:=n1_;have HB:=n2_;have BK111:=n3_;have GW111:=n4_;have GE111:=n5_;clear n0_ n1_ n2_ n3_ n4_ n5_;clear hb hbox hg;have hcz65_0:w64.cell? ⟨gb111,0,none⟩=some (.int .i64 0):=(j1b BK111.out 0).trans rfl;have hcz65_1:w64.cell? ⟨gb111,1,none⟩=some (.int .i64 0):=(j1b BK111.out 1).trans rfl;have hcz65_2:w64.cell? ⟨gb111,2,none⟩=some (.int .i64 0):=(j1b BK111.out 2).trans rfl;have hcz65_3:w64.cell? ⟨gb111,3,none⟩=some (.slice none 0 0):=(j1b BK111.out 3).trans rfl;have hcz65_4:w64.cell? ⟨gb111,4,none⟩=some (.slice none 0 0):=(j1b BK111.out 4).trans rfl;have hfz65_0:=j1a BK111.out 0;have hfz65_1:=j1a BK111.out 1;have hfz65_2:=j1a BK111.out 2;have hfz65_3:=j1a BK111.out 3;have hfz65_4:=j1a BK111.out 4;obtain ⟨Ao66,co66,eo66⟩:=Kd.R_slice HO106.out;subst eo66;obtain ⟨Ao67,co67,eo67⟩:=Kd.R_slice HO109.out;subst eo67)|((with_reducible refine j1r (f:=16) rfl ?_);refine j2f (some 37) rfl rfl Try.func16 zq23 rfl #[.string a1] rfl zq2 ?_;(with_reducible refine (j2j.calls k1 a1 t112 t113 t114 t115 t118 t121 _ A13.out).mono ?_);rintro e w68 ⟨v116,v119,rfl,ho0,ho1,hb⟩;refine ⟨_,rfl,?_⟩;have n0_:=mk0 (Kd.R_elder' zq40 (Kd.R_base ho0) hb);have n1_:=mk0 (Kd.R_mono (Kd.R_told (Kd.R_told (Kd.R_old zq53 hb) (Kd.R_base ho0)) (Kd.R_base ho1)) (fun _ h_=>h_.1));have n2_:=mk0 (Kd.R_lower (Kd.R_new' ho0 (Kd.R_lt zq40)) (j2u zq11));have n3_:=mk0 (Kd.R_lower (Kd.R_newB (Kd.R_new' (Kd.R_new' ho1 (Kd.R_lt zq40)) (Kd.R_lt zq53)) (g:=gb111) (o := .cells #[.int .i64 t101, .int .i64 t102, .int .i64 t103, .slice Ao66 t104.length co66, .slice Ao67 t107.length co67] 34 (0,0)) zq32) (j2u zq11));have n4_:=mk0 (j2t (g:=gb111) (o := .cells #[.int .i64 t101, .int .i64 t102, .int .i64 t103, .slice Ao66 t104.length co66, .slice Ao67 t107.length co67] 34 (0,0)) zq32 hb);have n5_:=mk0 (j2a zq11 hb);clear HO106 HO109 BK111 HB;have HO106:=n0_;have HO109:=n1_;have HO117:=n2_;have HO120:=n3_;have BK111:=n4_;have HB:=n5_;clear n0_ n1_ n2_ n3_ n4_ n5_;(try clear hb);(try clear hb2);(try clear hk);(try clear hi);(try clear ho0);(try clear ho1))|((with_reducible refine j2v (N:=8) rfl ?_);refine j2s ?hg (N:=8) ?hd (cs:=#[.int .i64 0, .int .i64 0, .int .i64 0, .slice none 0 0, .slice none 0 0]) (t:=34) ?hr ?_;(case hd=>rfl);(case hg=>rfl);(case hr=>exact zq37);intro gb122 hg w69 hbox hb;have n0_:=mk0 (Kd.R_below zq38 hb);have n1_:=mk0 (Kd.R_below (Kd.R_elderB zq39 gb122 (Nat.le_of_eq hg.symm)) hb);have n2_:=mk0 (Kd.R_below zq47 hb);have n3_:=mk0 (Kd.R_below (Kd.R_elderB zq48 gb122 (Nat.le_of_eq hg.symm)) hb);have n4_:=mk0 (j2t (g:=gb111) (o := .cells #[.int .i64 t101, .int .i64 t102, .int .i64 t103, .slice Ao66 t104.length co66, .slice Ao67 t107.length co67] 34 (0,0)) zq25 hb);have n5_:=mk0 (j2a zq11 hb);have n6_:=mk0 (hbox);have n7_:=mk0 ((zq78:w.heap.size≤gb122));have n8_:=mk0 ((zq78:w.heap.size≤gb122));have n9_:=mk0 ((by rw [hg];exact Nat.ne_of_lt (j3m (g:=gb111) (o := .cells #[.int .i64 t101, .int .i64 t102, .int .i64 t103, .slice Ao66 t104.length co66, .slice Ao67 t107.length co67] 34 (0,0)) zq25):gb111≠gb122));have n10_:=mk0 ((by rw [hg];exact Nat.ne_of_gt (j3m (g:=gb111) (o := .cells #[.int .i64 t101, .int .i64 t102, .int .i64 t103, .slice Ao66 t104.length co66, .slice Ao67 t107.length co67] 34 (0,0)) zq25):gb122≠gb111));clear HO106 HO109 HO117 HO120 BK111 HB;have HO106:=n0_;have HO109:=n1_;have HO117:=n2_;have HO120:=n3_;have BK111:=n4_;have HB:=n5_;have BK122:=n6_;have GW122:=n7_;have GE122:=n8_;have NB111_122:=n9_;have NB122_111:=n10_;clear n0_ n1_ n2_ n3_ n4_ n5_ n6_ n7_ n8_ n9_ n10_;clear hb hbox hg;have hnb70:=NB122_111.out;have hnc70:=NB111_122.out;have hcz71_0:w69.cell? ⟨gb122,0,none⟩=some (.int .i64 0):=(j1b BK122.out 0).trans rfl;have hcz71_1:w69.cell? ⟨gb122,1,none⟩=some (.int .i64 0):=(j1b BK122.out 1).trans rfl;have hcz71_2:w69.cell? ⟨gb122,2,none⟩=some (.int .i64 0):=(j1b BK122.out 2).trans rfl;have hcz71_3:w69.cell? ⟨gb122,3,none⟩=some (.slice none 0 0):=(j1b BK122.out 3).trans rfl;have hcz71_4:w69.cell? ⟨gb122,4,none⟩=some (.slice none 0 0):=(j1b BK122.out 4).trans rfl;have hfz71_0:=j1a BK122.out 0;have hfz71_1:=j1a BK122.out 1;have hfz71_2:=j1a BK122.out 2;have hfz71_3:=j1a BK122.out 3;have hfz71_4:=j1a BK122.out 4;obtain ⟨Ao72,co72,eo72⟩:=Kd.R_slice HO117.out;subst eo72;obtain ⟨Ao73,co73,eo73⟩:=Kd.R_slice HO120.out;subst eo73))
    have n0_:Aside0 (Kd.R k60 60 (((((w69.setCell ⟨gb122,0,none⟩ (.int .i64 t112)).setCell ⟨gb122,1,none⟩ (.int .i64 t113)).setCell ⟨gb122,2,none⟩ (.int .i64 t114)).setCell ⟨gb122,3,none⟩ (.slice Ao72 t115.length co72)).setCell ⟨gb122,4,none⟩ (.slice Ao73 t118.length co73)) w.heap.size (fun k_=>some k_≠(.slice Ao72 t115.length co72:Value).ownBlock) (.slice Ao66 t104.length co66) t104):=⟨by (with_reducible repeat (first|apply Kd.R_alloc|apply Kd.R_drewN|apply Kd.R_drew));exact Kd.R_mono (Kd.R_far (p:=⟨gb122,4,none⟩) (Kd.R_far (p:=⟨gb122,3,none⟩) (Kd.R_far (p:=⟨gb122,2,none⟩) (Kd.R_far (p:=⟨gb122,1,none⟩) (Kd.R_far (p:=⟨gb122,0,none⟩) (Kd.R_types HO106.out BK122.out zq50) (fun _ hk=>hk.2) (.int .i64 t112)) (fun _ hk=>hk.2) (.int .i64 t113)) (fun _ hk=>hk.2) (.int .i64 t114)) (fun _ hk=>hk.2) (.slice Ao72 t115.length co72)) (fun _ hk=>hk.2) (.slice Ao73 t118.length co73)) (fun _ hk=>hk.1.2)⟩;have n1_:Aside0 (Kd.R k34 34 (((((w69.setCell ⟨gb122,0,none⟩ (.int .i64 t112)).setCell ⟨gb122,1,none⟩ (.int .i64 t113)).setCell ⟨gb122,2,none⟩ (.int .i64 t114)).setCell ⟨gb122,3,none⟩ (.slice Ao72 t115.length co72)).setCell ⟨gb122,4,none⟩ (.slice Ao73 t118.length co73)) w.heap.size (fun k_=>some k_≠(.slice Ao66 t104.length co66:Value).ownBlock∧some k_≠(.slice Ao72 t115.length co72:Value).ownBlock∧some k_≠(.slice Ao73 t118.length co73:Value).ownBlock∧k_≠gb111∧k_≠gb122) (.slice Ao67 t107.length co67) t107):=⟨by (with_reducible repeat (first|apply Kd.R_alloc|apply Kd.R_drewN|apply Kd.R_drew));exact Kd.R_mono (Kd.R_far (p:=⟨gb122,4,none⟩) (Kd.R_far (p:=⟨gb122,3,none⟩) (Kd.R_far (p:=⟨gb122,2,none⟩) (Kd.R_far (p:=⟨gb122,1,none⟩) (Kd.R_far (p:=⟨gb122,0,none⟩) (Kd.R_mono HO109.out (fun k_ hk=>(⟨hk,hk.2⟩:_∧k_≠gb122))) (fun _ hk=>hk.2) (.int .i64 t112)) (fun _ hk=>hk.2) (.int .i64 t113)) (fun _ hk=>hk.2) (.int .i64 t114)) (fun _ hk=>hk.2) (.slice Ao72 t115.length co72)) (fun _ hk=>hk.2) (.slice Ao73 t118.length co73)) (fun _ hk=>⟨hk.1.1.1.1.1,⟨hk.1.1.1.2,⟨hk.1.1.2,⟨hk.1.1.1.1.2,hk.1.2⟩⟩⟩⟩)⟩;have n2_:Aside0 (Kd.R k60 60 (((((w69.setCell ⟨gb122,0,none⟩ (.int .i64 t112)).setCell ⟨gb122,1,none⟩ (.int .i64 t113)).setCell ⟨gb122,2,none⟩ (.int .i64 t114)).setCell ⟨gb122,3,none⟩ (.slice Ao72 t115.length co72)).setCell ⟨gb122,4,none⟩ (.slice Ao73 t118.length co73)) w.heap.size (fun k_=>some k_≠(.slice Ao66 t104.length co66:Value).ownBlock) (.slice Ao72 t115.length co72) t115):=⟨by (with_reducible repeat (first|apply Kd.R_alloc|apply Kd.R_drewN|apply Kd.R_drew));exact Kd.R_mono (Kd.R_far (p:=⟨gb122,4,none⟩) (Kd.R_far (p:=⟨gb122,3,none⟩) (Kd.R_far (p:=⟨gb122,2,none⟩) (Kd.R_far (p:=⟨gb122,1,none⟩) (Kd.R_far (p:=⟨gb122,0,none⟩) (Kd.R_types HO117.out BK122.out zq50) (fun _ hk=>hk.2) (.int .i64 t112)) (fun _ hk=>hk.2) (.int .i64 t113)) (fun _ hk=>hk.2) (.int .i64 t114)) (fun _ hk=>hk.2) (.slice Ao72 t115.length co72)) (fun _ hk=>hk.2) (.slice Ao73 t118.length co73)) (fun _ hk=>hk.1.2)⟩;have n3_:Aside0 (Kd.R k34 34 (((((w69.setCell ⟨gb122,0,none⟩ (.int .i64 t112)).setCell ⟨gb122,1,none⟩ (.int .i64 t113)).setCell ⟨gb122,2,none⟩ (.int .i64 t114)).setCell ⟨gb122,3,none⟩ (.slice Ao72 t115.length co72)).setCell ⟨gb122,4,none⟩ (.slice Ao73 t118.length co73)) w.heap.size (fun k_=>some k_≠(.slice Ao66 t104.length co66:Value).ownBlock∧some k_≠(.slice Ao67 t107.length co67:Value).ownBlock∧some k_≠(.slice Ao72 t115.length co72:Value).ownBlock∧k_≠gb111∧k_≠gb122) (.slice Ao73 t118.length co73) t118):=⟨by (with_reducible repeat (first|apply Kd.R_alloc|apply Kd.R_drewN|apply Kd.R_drew));exact Kd.R_mono (Kd.R_far (p:=⟨gb122,4,none⟩) (Kd.R_far (p:=⟨gb122,3,none⟩) (Kd.R_far (p:=⟨gb122,2,none⟩) (Kd.R_far (p:=⟨gb122,1,none⟩) (Kd.R_far (p:=⟨gb122,0,none⟩) (Kd.R_mono HO120.out (fun k_ hk=>(⟨hk,hk.2⟩:_∧k_≠gb122))) (fun _ hk=>hk.2) (.int .i64 t112)) (fun _ hk=>hk.2) (.int .i64 t113)) (fun _ hk=>hk.2) (.int .i64 t114)) (fun _ hk=>hk.2) (.slice Ao72 t115.length co72)) (fun _ hk=>hk.2) (.slice Ao73 t118.length co73)) (fun _ hk=>⟨hk.1.1.1.1.2,⟨hk.1.1.1.2,⟨hk.1.1.1.1.1,⟨hk.1.1.2,hk.1.2⟩⟩⟩⟩)⟩;have n4_:Aside0 ((((((w69.setCell ⟨gb122,0,none⟩ (.int .i64 t112)).setCell ⟨gb122,1,none⟩ (.int .i64 t113)).setCell ⟨gb122,2,none⟩ (.int .i64 t114)).setCell ⟨gb122,3,none⟩ (.slice Ao72 t115.length co72)).setCell ⟨gb122,4,none⟩ (.slice Ao73 t118.length co73)).heap[gb111]? = some (.cells #[.int .i64 t101, .int .i64 t102, .int .i64 t103, .slice Ao66 t104.length co66, .slice Ao67 t107.length co67] 34 (0,0))):=⟨by (with_reducible repeat (first|refine j1i ?_ _|refine j1j ?_|refine j1h ?_ _));refine j2q ?_ NB111_122.out _;(with_reducible repeat (first|refine j1i ?_ _|refine j1j ?_|refine j1h ?_ _));refine j2q ?_ NB111_122.out _;(with_reducible repeat (first|refine j1i ?_ _|refine j1j ?_|refine j1h ?_ _));refine j2q ?_ NB111_122.out _;(with_reducible repeat (first|refine j1i ?_ _|refine j1j ?_|refine j1h ?_ _));refine j2q ?_ NB111_122.out _;(with_reducible repeat (first|refine j1i ?_ _|refine j1j ?_|refine j1h ?_ _));refine j2q ?_ NB111_122.out _;(with_reducible repeat (first|refine j1i ?_ _|refine j1j ?_|refine j1h ?_ _));exact BK111.out⟩;have n5_:Aside0 ((((((w69.setCell ⟨gb122,0,none⟩ (.int .i64 t112)).setCell ⟨gb122,1,none⟩ (.int .i64 t113)).setCell ⟨gb122,2,none⟩ (.int .i64 t114)).setCell ⟨gb122,3,none⟩ (.slice Ao72 t115.length co72)).setCell ⟨gb122,4,none⟩ (.slice Ao73 t118.length co73)).heap[gb122]? = some (.cells #[.int .i64 t112, .int .i64 t113, .int .i64 t114, .slice Ao72 t115.length co72, .slice Ao73 t118.length co73] 34 (0,0))):=⟨by (with_reducible repeat (first|refine j1i ?_ _|refine j1j ?_|refine j1h ?_ _));refine j1w (cs:=#[.int .i64 t112, .int .i64 t113, .int .i64 t114, .slice Ao72 t115.length co72, .slice none 0 0]) ?_ 4 _ rfl;(with_reducible repeat (first|refine j1i ?_ _|refine j1j ?_|refine j1h ?_ _));refine j1w (cs:=#[.int .i64 t112, .int .i64 t113, .int .i64 t114, .slice none 0 0, .slice none 0 0]) ?_ 3 _ rfl;(with_reducible repeat (first|refine j1i ?_ _|refine j1j ?_|refine j1h ?_ _));refine j1w (cs:=#[.int .i64 t112, .int .i64 t113, .int .i64 0, .slice none 0 0, .slice none 0 0]) ?_ 2 _ rfl;(with_reducible repeat (first|refine j1i ?_ _|refine j1j ?_|refine j1h ?_ _));refine j1w (cs:=#[.int .i64 t112, .int .i64 0, .int .i64 0, .slice none 0 0, .slice none 0 0]) ?_ 1 _ rfl;(with_reducible repeat (first|refine j1i ?_ _|refine j1j ?_|refine j1h ?_ _));refine j1w (cs:=#[.int .i64 0, .int .i64 0, .int .i64 0, .slice none 0 0, .slice none 0 0]) ?_ 0 _ rfl;(with_reducible repeat (first|refine j1i ?_ _|refine j1j ?_|refine j1h ?_ _));exact BK122.out⟩;have n6_:Aside0 (Below w.heap.size w (((((w69.setCell ⟨gb122,0,none⟩ (.int .i64 t112)).setCell ⟨gb122,1,none⟩ (.int .i64 t113)).setCell ⟨gb122,2,none⟩ (.int .i64 t114)).setCell ⟨gb122,3,none⟩ (.slice Ao72 t115.length co72)).setCell ⟨gb122,4,none⟩ (.slice Ao73 t118.length co73))):=⟨by repeat (first|(with_reducible first|exact HB.out|apply j1s|apply j1q|apply j1t|refine j1u ?_ GE111.out|refine j1u ?_ GE122.out)|exact HB.out)⟩;(try clear HO106);(try clear HO109);(try clear HO117);(try clear HO120);(try clear BK111);(try clear BK122);(try clear HB)
    generalize (((((w69.setCell ⟨gb122,0,none⟩ (.int .i64 t112)).setCell ⟨gb122,1,none⟩ (.int .i64 t113)).setCell ⟨gb122,2,none⟩ (.int .i64 t114)).setCell ⟨gb122,3,none⟩ (.slice Ao72 t115.length co72)).setCell ⟨gb122,4,none⟩ (.slice Ao73 t118.length co73))=w74 at n0_ n1_ n2_ n3_ n4_ n5_ n6_ ⊢
    have HO106:=n0_;have HO109:=n1_;have HO117:=n2_;have HO120:=n3_;have BK111:=n4_;have BK122:=n5_;have HB:=n6_;clear n0_ n1_ n2_ n3_ n4_ n5_ n6_;have n0_:=mk0 (Kd.R_drew HO106.out);have n1_:=mk0 (Kd.R_drew HO109.out);have n2_:=mk0 (Kd.R_drew HO117.out);have n3_:=mk0 (Kd.R_drew HO120.out);have n4_:=mk0 (j1j BK111.out);have n5_:=mk0 (j1j BK122.out);have n6_:=mk0 (j1t HB.out);clear HO106;clear HO109;clear HO117;clear HO120;clear BK111;clear BK122;clear HB;have HO106:=n0_;have HO109:=n1_;have HO117:=n2_;have HO120:=n3_;have BK111:=n4_;have BK122:=n5_;have HB:=n6_;clear n0_ n1_ n2_ n3_ n4_ n5_ n6_;refine start_ (n:=19) (S:=fun w'=>True) (ds:=[]) #[false,false,false,false,false,false,false,false,false,false,false,false,false,false,false,false,false,false,false] zq23 rfl rfl trivial (fun hHeld=>?_);refine j3l j1v.tab10 j1v.bits10 (fun HT_ HW_=>?_)
    generalize w74.drew=w75 at HO106 HO109 HO117 HO120 BK111 BK122 HB hHeld ⊢
    refine pure_ (i:=0) (N:=some 40) (v:=?_) (a':=?_) #[true,false,false,false,false,false,false,false,false,false,false,false,false,false,false,false,false,false,false] rfl rfl (j2e HT_.out zq23) (fun _ _ _ h=>h) (Or.inl ⟨by rfl,?_⟩) ?_ ?_;rotate_left
    ·exact zl3
    rotate_left
    ·exact zl0
    refine pure_ (i:=1) (N:=some 41) (v:=?_) (a':=?_) #[true,true,false,false,false,false,false,false,false,false,false,false,false,false,false,false,false,false,false] rfl rfl (j2e HT_.out zq23) (fun _ _ _ h=>h) (Or.inl ⟨by rfl,?_⟩) ?_ ?_;rotate_left
    ·exact zl3
    rotate_left
    ·exact zl0
    refine pure_ (i:=2) (N:=some 42) (v:=undef) (a':=?_) #[true,true,true,false,false,false,false,false,false,false,false,false,false,false,false,false,false,false,false] rfl rfl (j2e HT_.out zq23) (fun _ _ _ h=>h) (Or.inr ⟨by rfl,rfl⟩) ?_ ?_;rotate_left
    ·exact zl0
    refine pure_ (i:=3) (N:=some 43) (v:=?_) (a':=?_) #[true,true,true,true,false,false,false,false,false,false,false,false,false,false,false,false,false,false,false] rfl rfl (j2e HT_.out zq23) (fun _ _ _ h=>h) (Or.inl ⟨by rfl,?_⟩) ?_ ?_;rotate_left
    ·exact zl3
    rotate_left
    ·exact zl0
    refine pure_ (i:=4) (N:=some 44) (v:=?_) (a':=?_) #[true,true,true,true,true,false,false,false,false,false,false,false,false,false,false,false,false,false,false] rfl rfl (j2e HT_.out zq23) (fun _ _ _ h=>h) (Or.inl ⟨by rfl,?_⟩) ?_ ?_;rotate_left
    ·exact zl3
    rotate_left
    ·exact zl0
    refine pure_ (i:=5) (N:=some 45) (v:=undef) (a':=?_) #[true,true,true,true,true,true,false,false,false,false,false,false,false,false,false,false,false,false,false] rfl rfl (j2e HT_.out zq23) (fun _ _ _ h=>h) (Or.inr ⟨by rfl,rfl⟩) ?_ ?_;rotate_left
    ·exact zl0
    refine pure_ (i:=6) (N:=some 46) (v:=undef) (a':=?_) #[true,true,true,true,true,true,true,false,false,false,false,false,false,false,false,false,false,false,false] rfl rfl (j2e HT_.out zq23) (fun _ _ _ h=>h) (Or.inr ⟨by rfl,rfl⟩) ?_ ?_;rotate_left
    ·exact zl0
    refine pure_ (i:=7) (N:=some 47) (v:=undef) (a':=?_) #[true,true,true,true,true,true,true,true,false,false,false,false,false,false,false,false,false,false,false] rfl rfl (j2e HT_.out zq23) (fun _ _ _ h=>h) (Or.inr ⟨by rfl,rfl⟩) ?_ ?_;rotate_left
    ·exact zl0
    refine pure_ (i:=8) (N:=some 48) (v:=?_) (a':=?_) #[true,true,true,true,true,true,true,true,true,false,false,false,false,false,false,false,false,false,false] rfl rfl (j2e HT_.out zq23) (fun _ _ _ h=>h) (Or.inl ⟨by rfl,?_⟩) ?_ ?_;rotate_left
    ·exact zl3
    rotate_left
    ·exact zl0
    refine pure_ (i:=9) (N:=some 49) (v:=?_) (a':=?_) #[true,true,true,true,true,true,true,true,true,true,false,false,false,false,false,false,false,false,false] rfl rfl (j2e HT_.out zq23) (fun _ _ _ h=>h) (Or.inl ⟨by rfl,?_⟩) ?_ ?_;rotate_left
    ·exact zl3
    rotate_left
    ·exact zl0
    refine pure_ (i:=10) (N:=some 50) (v:=undef) (a':=?_) #[true,true,true,true,true,true,true,true,true,true,true,false,false,false,false,false,false,false,false] rfl rfl (j2e HT_.out zq23) (fun _ _ _ h=>h) (Or.inr ⟨by rfl,rfl⟩) ?_ ?_;rotate_left
    ·exact zl0
    refine pure_ (i:=11) (N:=some 51) (v:=undef) (a':=?_) #[true,true,true,true,true,true,true,true,true,true,true,true,false,false,false,false,false,false,false] rfl rfl (j2e HT_.out zq23) (fun _ _ _ h=>h) (Or.inr ⟨by rfl,rfl⟩) ?_ ?_;rotate_left
    ·exact zl0
    refine pure_ (i:=12) (N:=some 52) (v:=undef) (a':=?_) #[true,true,true,true,true,true,true,true,true,true,true,true,true,false,false,false,false,false,false] rfl rfl (j2e HT_.out zq23) (fun _ _ _ h=>h) (Or.inr ⟨by rfl,rfl⟩) ?_ ?_;rotate_left
    ·exact zl0
    refine pure_ (i:=13) (N:=some 53) (v:=undef) (a':=?_) #[true,true,true,true,true,true,true,true,true,true,true,true,true,true,false,false,false,false,false] rfl rfl (j2e HT_.out zq23) (fun _ _ _ h=>h) (Or.inr ⟨by rfl,rfl⟩) ?_ ?_;rotate_left
    ·exact zl0
    refine pure_ (i:=14) (N:=some 54) (v:=undef) (a':=?_) #[true,true,true,true,true,true,true,true,true,true,true,true,true,true,true,false,false,false,false] rfl rfl (j2e HT_.out zq23) (fun _ _ _ h=>h) (Or.inr ⟨by rfl,rfl⟩) ?_ ?_;rotate_left
    ·exact zl0
    refine pure_ (i:=15) (N:=some 55) (v:=undef) (a':=?_) #[true,true,true,true,true,true,true,true,true,true,true,true,true,true,true,true,false,false,false] rfl rfl (j2e HT_.out zq23) (fun _ _ _ h=>h) (Or.inr ⟨by rfl,rfl⟩) ?_ ?_;rotate_left
    ·exact zl0
    refine pure_ (i:=16) (N:=some 56) (v:=undef) (a':=?_) #[true,true,true,true,true,true,true,true,true,true,true,true,true,true,true,true,true,false,false] rfl rfl (j2e HT_.out zq23) (fun _ _ _ h=>h) (Or.inr ⟨by rfl,rfl⟩) ?_ ?_;rotate_left
    ·exact zl0
    refine pure_ (i:=17) (N:=some 57) (v:=?_) (a':=?_) #[true,true,true,true,true,true,true,true,true,true,true,true,true,true,true,true,true,true,false] rfl rfl (j2e HT_.out zq23) (fun _ _ _ h=>h) (Or.inl ⟨by rfl,?_⟩) ?_ ?_;rotate_left
    ·exact zl3
    rotate_left
    ·exact zl0
    refine pure_ (i:=18) (N:=some 4) (v:=?_) (a':=?_) #[true,true,true,true,true,true,true,true,true,true,true,true,true,true,true,true,true,true,true] rfl rfl (j2e HT_.out zq23) (fun _ _ _ h=>h) (Or.inl ⟨by rfl,?_⟩) ?_ ?_;rotate_left
    ·exact zl3
    rotate_left
    ·exact zl0
    refine done_ (done_of HT_.out zq23) ?_
    try go_wp2
    go_ret;exact zl8
   subst c14;have H1:(if t121=true then ((j1m.f k1 t101 t102 t103 t104 t107 t112 t113 t114 t115 t118).bind fun t123=>(if t123=true then ((j2r.f k1 a0 t101 t102 t103 t104 t107).bind fun t124=>((j2r.f k1 a1 t112 t113 t114 t115 t118).bind fun t125=>(some (t124.toList == t125.toList)))) else (some false))) else (some false))=some r:=by rw [if_pos rfl] at H;exact H
   clear H;have H:=H1;clear H1;by_cases c15:t121=true
   rotate_left
   ·replace c15:=Bool.eq_false_iff.mpr c15;subst c15;have H1:(some false)=some r:=by rw [if_neg (show ¬ (false=true) by decide)] at H;exact H
    clear H;have H:=H1;clear H1;obtain rfl:=Option.some.inj H
    try go_wp2_with (first|((with_reducible refine j1r (f:=16) rfl ?_);refine j2f (some 32) rfl rfl Try.func16 zq23 rfl #[.string a0] rfl zq2 ?_;(with_reducible refine (j2j.calls k1 a0 t101 t102 t103 t104 t107 true _ A12.out).mono ?_);rintro e w50 ⟨v105,v108,rfl,ho0,ho1,hb⟩;refine ⟨_,rfl,?_⟩;have n0_:=mk0 (Kd.R_lower ho0 (j2u zq7));have n1_:=mk0 (Kd.R_lower ho1 (j2u zq7));have n2_:=mk0 (j2a zq7 hb);clear HB;have HO106:=n0_;have HO109:=n1_;have HB:=n2_;clear n0_ n1_ n2_;(try clear hb);(try clear hb2);(try clear hk);(try clear hi);(try clear ho0);(try clear ho1))|((with_reducible refine j2v (N:=6) rfl ?_);refine j2s ?hg (N:=6) ?hd (cs:=#[.int .i64 0, .int .i64 0, .int .i64 0, .slice none 0 0, .slice none 0 0]) (t:=34) ?hr ?_;(case hd=>rfl);(case hg=>rfl);(case hr=>exact zq37);intro gb111 hg w51 hbox hb;have n0_:=mk0 (Kd.R_below zq38 hb);have n1_:=mk0 (Kd.R_below (Kd.R_elderB zq39 gb111 (Nat.le_of_eq hg.symm)) hb);have n2_:=mk0 (j2a zq7 hb);have n3_:=mk0 (hbox);have n4_:=mk0 ((zq77:w.heap.size≤gb111));have n5_:=mk0 ((zq77:w.heap.size≤gb111));clear HO106 HO109 HB;have HO106:=n0_;have HO109:=n1_;have HB:=n2_;have BK111:=n3_;have GW111:=n4_;have GE111:=n5_;clear n0_ n1_ n2_ n3_ n4_ n5_;clear hb hbox hg;have hcz52_0:w51.cell? ⟨gb111,0,none⟩=some (.int .i64 0):=(j1b BK111.out 0).trans rfl;have hcz52_1:w51.cell? ⟨gb111,1,none⟩=some (.int .i64 0):=(j1b BK111.out 1).trans rfl;have hcz52_2:w51.cell? ⟨gb111,2,none⟩=some (.int .i64 0):=(j1b BK111.out 2).trans rfl;have hcz52_3:w51.cell? ⟨gb111,3,none⟩=some (.slice none 0 0):=(j1b BK111.out 3).trans rfl;have hcz52_4:w51.cell? ⟨gb111,4,none⟩=some (.slice none 0 0):=(j1b BK111.out 4).trans rfl;have hfz52_0:=j1a BK111.out 0;have hfz52_1:=j1a BK111.out 1;have hfz52_2:=j1a BK111.out 2;have hfz52_3:=j1a BK111.out 3;have hfz52_4:=j1a BK111.out 4;obtain ⟨Ao53,co53,eo53⟩:=Kd.R_slice HO106.out;subst eo53;obtain ⟨Ao54,co54,eo54⟩:=Kd.R_slice HO109.out;subst eo54)|((with_reducible refine j1r (f:=16) rfl ?_);refine j2f (some 37) rfl rfl Try.func16 zq23 rfl #[.string a1] rfl zq2 ?_;(with_reducible refine (j2j.calls k1 a1 t112 t113 t114 t115 t118 false _ A13.out).mono ?_);rintro e w55 ⟨v116,v119,rfl,ho0,ho1,hb⟩;refine ⟨_,rfl,?_⟩;have n0_:=mk0 (Kd.R_elder' zq41 (Kd.R_base ho0) hb);have n1_:=mk0 (Kd.R_mono (Kd.R_told (Kd.R_told (Kd.R_old zq54 hb) (Kd.R_base ho0)) (Kd.R_base ho1)) (fun _ h_=>h_.1));have n2_:=mk0 (Kd.R_lower (Kd.R_new' ho0 (Kd.R_lt zq41)) (j2u zq11));have n3_:=mk0 (Kd.R_lower (Kd.R_newB (Kd.R_new' (Kd.R_new' ho1 (Kd.R_lt zq41)) (Kd.R_lt zq54)) (g:=gb111) (o := .cells #[.int .i64 t101, .int .i64 t102, .int .i64 t103, .slice Ao53 t104.length co53, .slice Ao54 t107.length co54] 34 (0,0)) zq33) (j2u zq11));have n4_:=mk0 (j2t (g:=gb111) (o := .cells #[.int .i64 t101, .int .i64 t102, .int .i64 t103, .slice Ao53 t104.length co53, .slice Ao54 t107.length co54] 34 (0,0)) zq33 hb);have n5_:=mk0 (j2a zq11 hb);clear HO106 HO109 BK111 HB;have HO106:=n0_;have HO109:=n1_;have HO117:=n2_;have HO120:=n3_;have BK111:=n4_;have HB:=n5_;clear n0_ n1_ n2_ n3_ n4_ n5_;(try clear hb);(try clear hb2);(try clear hk);(try clear hi);(try clear ho0);(try clear ho1))|((with_reducible refine j2v (N:=8) rfl ?_);refine j2s ?hg (N:=8) ?hd (cs:=#[.int .i64 0, .int .i64 0, .int .i64 0, .slice none 0 0, .slice none 0 0]) (t:=34) ?hr ?_;(case hd=>rfl);(case hg=>rfl);(case hr=>exact zq37);intro gb122 hg w56 hbox hb;have n0_:=mk0 (Kd.R_below zq38 hb);have n1_:=mk0 (Kd.R_below (Kd.R_elderB zq39 gb122 (Nat.le_of_eq hg.symm)) hb);have n2_:=mk0 (Kd.R_below zq47 hb);have n3_:=mk0 (Kd.R_below (Kd.R_elderB zq48 gb122 (Nat.le_of_eq hg.symm)) hb);have n4_:=mk0 (j2t (g:=gb111) (o := .cells #[.int .i64 t101, .int .i64 t102, .int .i64 t103, .slice Ao53 t104.length co53, .slice Ao54 t107.length co54] 34 (0,0)) zq25 hb);have n5_:=mk0 (j2a zq11 hb);have n6_:=mk0 (hbox);have n7_:=mk0 ((zq78:w.heap.size≤gb122));have n8_:=mk0 ((zq78:w.heap.size≤gb122));have n9_:=mk0 ((by rw [hg];exact Nat.ne_of_lt (j3m (g:=gb111) (o := .cells #[.int .i64 t101, .int .i64 t102, .int .i64 t103, .slice Ao53 t104.length co53, .slice Ao54 t107.length co54] 34 (0,0)) zq25):gb111≠gb122));have n10_:=mk0 ((by rw [hg];exact Nat.ne_of_gt (j3m (g:=gb111) (o := .cells #[.int .i64 t101, .int .i64 t102, .int .i64 t103, .slice Ao53 t104.length co53, .slice Ao54 t107.length co54] 34 (0,0)) zq25):gb122≠gb111));clear HO106 HO109 HO117 HO120 BK111 HB;have HO106:=n0_;have HO109:=n1_;have HO117:=n2_;have HO120:=n3_;have BK111:=n4_;have HB:=n5_;have BK122:=n6_;have GW122:=n7_;have GE122:=n8_;have NB111_122:=n9_;have NB122_111:=n10_;clear n0_ n1_ n2_ n3_ n4_ n5_ n6_ n7_ n8_ n9_ n10_;clear hb hbox hg;have hnb57:=NB122_111.out;have hnc57:=NB111_122.out;have hcz58_0:w56.cell? ⟨gb122,0,none⟩=some (.int .i64 0):=(j1b BK122.out 0).trans rfl;have hcz58_1:w56.cell? ⟨gb122,1,none⟩=some (.int .i64 0):=(j1b BK122.out 1).trans rfl;have hcz58_2:w56.cell? ⟨gb122,2,none⟩=some (.int .i64 0):=(j1b BK122.out 2).trans rfl;have hcz58_3:w56.cell? ⟨gb122,3,none⟩=some (.slice none 0 0):=(j1b BK122.out 3).trans rfl;have hcz58_4:w56.cell? ⟨gb122,4,none⟩=some (.slice none 0 0):=(j1b BK122.out 4).trans rfl;have hfz58_0:=j1a BK122.out 0;have hfz58_1:=j1a BK122.out 1;have hfz58_2:=j1a BK122.out 2;have hfz58_3:=j1a BK122.out 3;have hfz58_4:=j1a BK122.out 4;obtain ⟨Ao59,co59,eo59⟩:=Kd.R_slice HO117.out;subst eo59;obtain ⟨Ao60,co60,eo60⟩:=Kd.R_slice HO120.out;subst eo60))
    have n0_:Aside0 (Kd.R k60 60 (((((w56.setCell ⟨gb122,0,none⟩ (.int .i64 t112)).setCell ⟨gb122,1,none⟩ (.int .i64 t113)).setCell ⟨gb122,2,none⟩ (.int .i64 t114)).setCell ⟨gb122,3,none⟩ (.slice Ao59 t115.length co59)).setCell ⟨gb122,4,none⟩ (.slice Ao60 t118.length co60)) w.heap.size (fun k_=>some k_≠(.slice Ao59 t115.length co59:Value).ownBlock) (.slice Ao53 t104.length co53) t104):=⟨by (with_reducible repeat (first|apply Kd.R_alloc|apply Kd.R_drewN|apply Kd.R_drew));exact Kd.R_mono (Kd.R_far (p:=⟨gb122,4,none⟩) (Kd.R_far (p:=⟨gb122,3,none⟩) (Kd.R_far (p:=⟨gb122,2,none⟩) (Kd.R_far (p:=⟨gb122,1,none⟩) (Kd.R_far (p:=⟨gb122,0,none⟩) (Kd.R_types HO106.out BK122.out zq50) (fun _ hk=>hk.2) (.int .i64 t112)) (fun _ hk=>hk.2) (.int .i64 t113)) (fun _ hk=>hk.2) (.int .i64 t114)) (fun _ hk=>hk.2) (.slice Ao59 t115.length co59)) (fun _ hk=>hk.2) (.slice Ao60 t118.length co60)) (fun _ hk=>hk.1.2)⟩;have n1_:Aside0 (Kd.R k34 34 (((((w56.setCell ⟨gb122,0,none⟩ (.int .i64 t112)).setCell ⟨gb122,1,none⟩ (.int .i64 t113)).setCell ⟨gb122,2,none⟩ (.int .i64 t114)).setCell ⟨gb122,3,none⟩ (.slice Ao59 t115.length co59)).setCell ⟨gb122,4,none⟩ (.slice Ao60 t118.length co60)) w.heap.size (fun k_=>some k_≠(.slice Ao53 t104.length co53:Value).ownBlock∧some k_≠(.slice Ao59 t115.length co59:Value).ownBlock∧some k_≠(.slice Ao60 t118.length co60:Value).ownBlock∧k_≠gb111∧k_≠gb122) (.slice Ao54 t107.length co54) t107):=⟨by (with_reducible repeat (first|apply Kd.R_alloc|apply Kd.R_drewN|apply Kd.R_drew));exact Kd.R_mono (Kd.R_far (p:=⟨gb122,4,none⟩) (Kd.R_far (p:=⟨gb122,3,none⟩) (Kd.R_far (p:=⟨gb122,2,none⟩) (Kd.R_far (p:=⟨gb122,1,none⟩) (Kd.R_far (p:=⟨gb122,0,none⟩) (Kd.R_mono HO109.out (fun k_ hk=>(⟨hk,hk.2⟩:_∧k_≠gb122))) (fun _ hk=>hk.2) (.int .i64 t112)) (fun _ hk=>hk.2) (.int .i64 t113)) (fun _ hk=>hk.2) (.int .i64 t114)) (fun _ hk=>hk.2) (.slice Ao59 t115.length co59)) (fun _ hk=>hk.2) (.slice Ao60 t118.length co60)) (fun _ hk=>⟨hk.1.1.1.1.1,⟨hk.1.1.1.2,⟨hk.1.1.2,⟨hk.1.1.1.1.2,hk.1.2⟩⟩⟩⟩)⟩;have n2_:Aside0 (Kd.R k60 60 (((((w56.setCell ⟨gb122,0,none⟩ (.int .i64 t112)).setCell ⟨gb122,1,none⟩ (.int .i64 t113)).setCell ⟨gb122,2,none⟩ (.int .i64 t114)).setCell ⟨gb122,3,none⟩ (.slice Ao59 t115.length co59)).setCell ⟨gb122,4,none⟩ (.slice Ao60 t118.length co60)) w.heap.size (fun k_=>some k_≠(.slice Ao53 t104.length co53:Value).ownBlock) (.slice Ao59 t115.length co59) t115):=⟨by (with_reducible repeat (first|apply Kd.R_alloc|apply Kd.R_drewN|apply Kd.R_drew));exact Kd.R_mono (Kd.R_far (p:=⟨gb122,4,none⟩) (Kd.R_far (p:=⟨gb122,3,none⟩) (Kd.R_far (p:=⟨gb122,2,none⟩) (Kd.R_far (p:=⟨gb122,1,none⟩) (Kd.R_far (p:=⟨gb122,0,none⟩) (Kd.R_types HO117.out BK122.out zq50) (fun _ hk=>hk.2) (.int .i64 t112)) (fun _ hk=>hk.2) (.int .i64 t113)) (fun _ hk=>hk.2) (.int .i64 t114)) (fun _ hk=>hk.2) (.slice Ao59 t115.length co59)) (fun _ hk=>hk.2) (.slice Ao60 t118.length co60)) (fun _ hk=>hk.1.2)⟩;have n3_:Aside0 (Kd.R k34 34 (((((w56.setCell ⟨gb122,0,none⟩ (.int .i64 t112)).setCell ⟨gb122,1,none⟩ (.int .i64 t113)).setCell ⟨gb122,2,none⟩ (.int .i64 t114)).setCell ⟨gb122,3,none⟩ (.slice Ao59 t115.length co59)).setCell ⟨gb122,4,none⟩ (.slice Ao60 t118.length co60)) w.heap.size (fun k_=>some k_≠(.slice Ao53 t104.length co53:Value).ownBlock∧some k_≠(.slice Ao54 t107.length co54:Value).ownBlock∧some k_≠(.slice Ao59 t115.length co59:Value).ownBlock∧k_≠gb111∧k_≠gb122) (.slice Ao60 t118.length co60) t118):=⟨by (with_reducible repeat (first|apply Kd.R_alloc|apply Kd.R_drewN|apply Kd.R_drew));exact Kd.R_mono (Kd.R_far (p:=⟨gb122,4,none⟩) (Kd.R_far (p:=⟨gb122,3,none⟩) (Kd.R_far (p:=⟨gb122,2,none⟩) (Kd.R_far (p:=⟨gb122,1,none⟩) (Kd.R_far (p:=⟨gb122,0,none⟩) (Kd.R_mono HO120.out (fun k_ hk=>(⟨hk,hk.2⟩:_∧k_≠gb122))) (fun _ hk=>hk.2) (.int .i64 t112)) (fun _ hk=>hk.2) (.int .i64 t113)) (fun _ hk=>hk.2) (.int .i64 t114)) (fun _ hk=>hk.2) (.slice Ao59 t115.length co59)) (fun _ hk=>hk.2) (.slice Ao60 t118.length co60)) (fun _ hk=>⟨hk.1.1.1.1.2,⟨hk.1.1.1.2,⟨hk.1.1.1.1.1,⟨hk.1.1.2,hk.1.2⟩⟩⟩⟩)⟩;have n4_:Aside0 ((((((w56.setCell ⟨gb122,0,none⟩ (.int .i64 t112)).setCell ⟨gb122,1,none⟩ (.int .i64 t113)).setCell ⟨gb122,2,none⟩ (.int .i64 t114)).setCell ⟨gb122,3,none⟩ (.slice Ao59 t115.length co59)).setCell ⟨gb122,4,none⟩ (.slice Ao60 t118.length co60)).heap[gb111]? = some (.cells #[.int .i64 t101, .int .i64 t102, .int .i64 t103, .slice Ao53 t104.length co53, .slice Ao54 t107.length co54] 34 (0,0))):=⟨by (with_reducible repeat (first|refine j1i ?_ _|refine j1j ?_|refine j1h ?_ _));refine j2q ?_ NB111_122.out _;(with_reducible repeat (first|refine j1i ?_ _|refine j1j ?_|refine j1h ?_ _));refine j2q ?_ NB111_122.out _;(with_reducible repeat (first|refine j1i ?_ _|refine j1j ?_|refine j1h ?_ _));refine j2q ?_ NB111_122.out _;(with_reducible repeat (first|refine j1i ?_ _|refine j1j ?_|refine j1h ?_ _));refine j2q ?_ NB111_122.out _;(with_reducible repeat (first|refine j1i ?_ _|refine j1j ?_|refine j1h ?_ _));refine j2q ?_ NB111_122.out _;(with_reducible repeat (first|refine j1i ?_ _|refine j1j ?_|refine j1h ?_ _));exact BK111.out⟩;have n5_:Aside0 ((((((w56.setCell ⟨gb122,0,none⟩ (.int .i64 t112)).setCell ⟨gb122,1,none⟩ (.int .i64 t113)).setCell ⟨gb122,2,none⟩ (.int .i64 t114)).setCell ⟨gb122,3,none⟩ (.slice Ao59 t115.length co59)).setCell ⟨gb122,4,none⟩ (.slice Ao60 t118.length co60)).heap[gb122]? = some (.cells #[.int .i64 t112, .int .i64 t113, .int .i64 t114, .slice Ao59 t115.length co59, .slice Ao60 t118.length co60] 34 (0,0))):=⟨by (with_reducible repeat (first|refine j1i ?_ _|refine j1j ?_|refine j1h ?_ _));refine j1w (cs:=#[.int .i64 t112, .int .i64 t113, .int .i64 t114, .slice Ao59 t115.length co59, .slice none 0 0]) ?_ 4 _ rfl;(with_reducible repeat (first|refine j1i ?_ _|refine j1j ?_|refine j1h ?_ _));refine j1w (cs:=#[.int .i64 t112, .int .i64 t113, .int .i64 t114, .slice none 0 0, .slice none 0 0]) ?_ 3 _ rfl;(with_reducible repeat (first|refine j1i ?_ _|refine j1j ?_|refine j1h ?_ _));refine j1w (cs:=#[.int .i64 t112, .int .i64 t113, .int .i64 0, .slice none 0 0, .slice none 0 0]) ?_ 2 _ rfl;(with_reducible repeat (first|refine j1i ?_ _|refine j1j ?_|refine j1h ?_ _));refine j1w (cs:=#[.int .i64 t112, .int .i64 0, .int .i64 0, .slice none 0 0, .slice none 0 0]) ?_ 1 _ rfl;(with_reducible repeat (first|refine j1i ?_ _|refine j1j ?_|refine j1h ?_ _));refine j1w (cs:=#[.int .i64 0, .int .i64 0, .int .i64 0, .slice none 0 0, .slice none 0 0]) ?_ 0 _ rfl;(with_reducible repeat (first|refine j1i ?_ _|refine j1j ?_|refine j1h ?_ _));exact BK122.out⟩;have n6_:Aside0 (Below w.heap.size w (((((w56.setCell ⟨gb122,0,none⟩ (.int .i64 t112)).setCell ⟨gb122,1,none⟩ (.int .i64 t113)).setCell ⟨gb122,2,none⟩ (.int .i64 t114)).setCell ⟨gb122,3,none⟩ (.slice Ao59 t115.length co59)).setCell ⟨gb122,4,none⟩ (.slice Ao60 t118.length co60))):=⟨by repeat (first|(with_reducible first|exact HB.out|apply j1s|apply j1q|apply j1t|refine j1u ?_ GE111.out|refine j1u ?_ GE122.out)|exact HB.out)⟩;(try clear HO106);(try clear HO109);(try clear HO117);(try clear HO120);(try clear BK111);(try clear BK122);(try clear HB)
    generalize (((((w56.setCell ⟨gb122,0,none⟩ (.int .i64 t112)).setCell ⟨gb122,1,none⟩ (.int .i64 t113)).setCell ⟨gb122,2,none⟩ (.int .i64 t114)).setCell ⟨gb122,3,none⟩ (.slice Ao59 t115.length co59)).setCell ⟨gb122,4,none⟩ (.slice Ao60 t118.length co60))=w61 at n0_ n1_ n2_ n3_ n4_ n5_ n6_ ⊢
    have HO106:=n0_;have HO109:=n1_;have HO117:=n2_;have HO120:=n3_;have BK111:=n4_;have BK122:=n5_;have HB:=n6_;clear n0_ n1_ n2_ n3_ n4_ n5_ n6_;have n0_:=mk0 (Kd.R_drew HO106.out);have n1_:=mk0 (Kd.R_drew HO109.out);have n2_:=mk0 (Kd.R_drew HO117.out);have n3_:=mk0 (Kd.R_drew HO120.out);have n4_:=mk0 (j1j BK111.out);have n5_:=mk0 (j1j BK122.out);have n6_:=mk0 (j1t HB.out);clear HO106;clear HO109;clear HO117;clear HO120;clear BK111;clear BK122;clear HB;have HO106:=n0_;have HO109:=n1_;have HO117:=n2_;have HO120:=n3_;have BK111:=n4_;have BK122:=n5_;have HB:=n6_;clear n0_ n1_ n2_ n3_ n4_ n5_ n6_;refine start_ (n:=19) (S:=fun w'=>True) (ds:=[]) #[false,false,false,false,false,false,false,false,false,false,false,false,false,false,false,false,false,false,false] zq23 rfl rfl trivial (fun hHeld=>?_);refine j3l j1v.tab10 j1v.bits10 (fun HT_ HW_=>?_)
    generalize w61.drew=w62 at HO106 HO109 HO117 HO120 BK111 BK122 HB hHeld ⊢
    refine pure_ (i:=0) (N:=some 40) (v:=?_) (a':=?_) #[true,false,false,false,false,false,false,false,false,false,false,false,false,false,false,false,false,false,false] rfl rfl (j2e HT_.out zq23) (fun _ _ _ h=>h) (Or.inl ⟨by rfl,?_⟩) ?_ ?_;rotate_left
    ·exact zl3
    rotate_left
    ·exact zl0
    refine pure_ (i:=1) (N:=some 41) (v:=?_) (a':=?_) #[true,true,false,false,false,false,false,false,false,false,false,false,false,false,false,false,false,false,false] rfl rfl (j2e HT_.out zq23) (fun _ _ _ h=>h) (Or.inl ⟨by rfl,?_⟩) ?_ ?_;rotate_left
    ·exact zl3
    rotate_left
    ·exact zl0
    refine pure_ (i:=2) (N:=some 42) (v:=?_) (a':=?_) #[true,true,true,false,false,false,false,false,false,false,false,false,false,false,false,false,false,false,false] rfl rfl (j2e HT_.out zq23) (fun _ _ _ h=>h) (Or.inl ⟨by rfl,?_⟩) ?_ ?_;rotate_left
    ·exact zl3
    rotate_left
    ·exact zl0
    refine pure_ (i:=3) (N:=some 43) (v:=?_) (a':=?_) #[true,true,true,true,false,false,false,false,false,false,false,false,false,false,false,false,false,false,false] rfl rfl (j2e HT_.out zq23) (fun _ _ _ h=>h) (Or.inl ⟨by rfl,?_⟩) ?_ ?_;rotate_left
    ·exact zl3
    rotate_left
    ·exact zl0
    refine pure_ (i:=4) (N:=some 44) (v:=?_) (a':=?_) #[true,true,true,true,true,false,false,false,false,false,false,false,false,false,false,false,false,false,false] rfl rfl (j2e HT_.out zq23) (fun _ _ _ h=>h) (Or.inl ⟨by rfl,?_⟩) ?_ ?_;rotate_left
    ·exact zl3
    rotate_left
    ·exact zl0
    refine pure_ (i:=5) (N:=some 45) (v:=undef) (a':=?_) #[true,true,true,true,true,true,false,false,false,false,false,false,false,false,false,false,false,false,false] rfl rfl (j2e HT_.out zq23) (fun _ _ _ h=>h) (Or.inr ⟨by rfl,rfl⟩) ?_ ?_;rotate_left
    ·exact zl0
    refine pure_ (i:=6) (N:=some 46) (v:=undef) (a':=?_) #[true,true,true,true,true,true,true,false,false,false,false,false,false,false,false,false,false,false,false] rfl rfl (j2e HT_.out zq23) (fun _ _ _ h=>h) (Or.inr ⟨by rfl,rfl⟩) ?_ ?_;rotate_left
    ·exact zl0
    refine pure_ (i:=7) (N:=some 47) (v:=undef) (a':=?_) #[true,true,true,true,true,true,true,true,false,false,false,false,false,false,false,false,false,false,false] rfl rfl (j2e HT_.out zq23) (fun _ _ _ h=>h) (Or.inr ⟨by rfl,rfl⟩) ?_ ?_;rotate_left
    ·exact zl0
    refine pure_ (i:=8) (N:=some 48) (v:=?_) (a':=?_) #[true,true,true,true,true,true,true,true,true,false,false,false,false,false,false,false,false,false,false] rfl rfl (j2e HT_.out zq23) (fun _ _ _ h=>h) (Or.inl ⟨by rfl,?_⟩) ?_ ?_;rotate_left
    ·exact zl3
    rotate_left
    ·exact zl0
    refine pure_ (i:=9) (N:=some 49) (v:=?_) (a':=?_) #[true,true,true,true,true,true,true,true,true,true,false,false,false,false,false,false,false,false,false] rfl rfl (j2e HT_.out zq23) (fun _ _ _ h=>h) (Or.inl ⟨by rfl,?_⟩) ?_ ?_;rotate_left
    ·exact zl3
    rotate_left
    ·exact zl0
    refine pure_ (i:=10) (N:=some 50) (v:=undef) (a':=?_) #[true,true,true,true,true,true,true,true,true,true,true,false,false,false,false,false,false,false,false] rfl rfl (j2e HT_.out zq23) (fun _ _ _ h=>h) (Or.inr ⟨by rfl,rfl⟩) ?_ ?_;rotate_left
    ·exact zl0
    refine pure_ (i:=11) (N:=some 51) (v:=undef) (a':=?_) #[true,true,true,true,true,true,true,true,true,true,true,true,false,false,false,false,false,false,false] rfl rfl (j2e HT_.out zq23) (fun _ _ _ h=>h) (Or.inr ⟨by rfl,rfl⟩) ?_ ?_;rotate_left
    ·exact zl0
    refine pure_ (i:=12) (N:=some 52) (v:=undef) (a':=?_) #[true,true,true,true,true,true,true,true,true,true,true,true,true,false,false,false,false,false,false] rfl rfl (j2e HT_.out zq23) (fun _ _ _ h=>h) (Or.inr ⟨by rfl,rfl⟩) ?_ ?_;rotate_left
    ·exact zl0
    refine pure_ (i:=13) (N:=some 53) (v:=undef) (a':=?_) #[true,true,true,true,true,true,true,true,true,true,true,true,true,true,false,false,false,false,false] rfl rfl (j2e HT_.out zq23) (fun _ _ _ h=>h) (Or.inr ⟨by rfl,rfl⟩) ?_ ?_;rotate_left
    ·exact zl0
    refine pure_ (i:=14) (N:=some 54) (v:=undef) (a':=?_) #[true,true,true,true,true,true,true,true,true,true,true,true,true,true,true,false,false,false,false] rfl rfl (j2e HT_.out zq23) (fun _ _ _ h=>h) (Or.inr ⟨by rfl,rfl⟩) ?_ ?_;rotate_left
    ·exact zl0
    refine pure_ (i:=15) (N:=some 55) (v:=undef) (a':=?_) #[true,true,true,true,true,true,true,true,true,true,true,true,true,true,true,true,false,false,false] rfl rfl (j2e HT_.out zq23) (fun _ _ _ h=>h) (Or.inr ⟨by rfl,rfl⟩) ?_ ?_;rotate_left
    ·exact zl0
    refine pure_ (i:=16) (N:=some 56) (v:=undef) (a':=?_) #[true,true,true,true,true,true,true,true,true,true,true,true,true,true,true,true,true,false,false] rfl rfl (j2e HT_.out zq23) (fun _ _ _ h=>h) (Or.inr ⟨by rfl,rfl⟩) ?_ ?_;rotate_left
    ·exact zl0
    refine pure_ (i:=17) (N:=some 57) (v:=?_) (a':=?_) #[true,true,true,true,true,true,true,true,true,true,true,true,true,true,true,true,true,true,false] rfl rfl (j2e HT_.out zq23) (fun _ _ _ h=>h) (Or.inl ⟨by rfl,?_⟩) ?_ ?_;rotate_left
    ·exact zl3
    rotate_left
    ·exact zl0
    refine pure_ (i:=18) (N:=some 4) (v:=?_) (a':=?_) #[true,true,true,true,true,true,true,true,true,true,true,true,true,true,true,true,true,true,true] rfl rfl (j2e HT_.out zq23) (fun _ _ _ h=>h) (Or.inl ⟨by rfl,?_⟩) ?_ ?_;rotate_left
    ·exact zl3
    rotate_left
    ·exact zl0
    refine done_ (done_of HT_.out zq23) ?_
    try go_wp2
    go_ret;exact zl8
   subst c15;have H1:((j1m.f k1 t101 t102 t103 t104 t107 t112 t113 t114 t115 t118).bind fun t123=>(if t123=true then ((j2r.f k1 a0 t101 t102 t103 t104 t107).bind fun t124=>((j2r.f k1 a1 t112 t113 t114 t115 t118).bind fun t125=>(some (t124.toList == t125.toList)))) else (some false)))=some r:=by rw [if_pos rfl] at H;exact H
   clear H;have H:=H1;clear H1;replace H:=Option.bind_eq_some_iff.mp H;obtain ⟨t123,A160,H⟩:=H;replace H:(if t123=true then ((j2r.f k1 a0 t101 t102 t103 t104 t107).bind fun t124=>((j2r.f k1 a1 t112 t113 t114 t115 t118).bind fun t125=>(some (t124.toList == t125.toList)))) else (some false))=some r:=H;have A16:=mk0 A160;clear A160;by_cases c17:t123=true
   rotate_left
   ·replace c17:=Bool.eq_false_iff.mpr c17;subst c17;have H1:(some false)=some r:=by rw [if_neg (show ¬ (false=true) by decide)] at H;exact H
    clear H;have H:=H1;clear H1;obtain rfl:=Option.some.inj H
    try go_wp2_with (first|((with_reducible refine j1r (f:=16) rfl ?_);refine j2f (some 32) rfl rfl Try.func16 zq23 rfl #[.string a0] rfl zq2 ?_;(with_reducible refine (j2j.calls k1 a0 t101 t102 t103 t104 t107 true _ A12.out).mono ?_);rintro e w36 ⟨v105,v108,rfl,ho0,ho1,hb⟩;refine ⟨_,rfl,?_⟩;have n0_:=mk0 (Kd.R_lower ho0 (j2u zq7));have n1_:=mk0 (Kd.R_lower ho1 (j2u zq7));have n2_:=mk0 (j2a zq7 hb);clear HB;have HO106:=n0_;have HO109:=n1_;have HB:=n2_;clear n0_ n1_ n2_;(try clear hb);(try clear hb2);(try clear hk);(try clear hi);(try clear ho0);(try clear ho1))|((with_reducible refine j2v (N:=6) rfl ?_);refine j2s ?hg (N:=6) ?hd (cs:=#[.int .i64 0, .int .i64 0, .int .i64 0, .slice none 0 0, .slice none 0 0]) (t:=34) ?hr ?_;(case hd=>rfl);(case hg=>rfl);(case hr=>exact zq37);intro gb111 hg w37 hbox hb;have n0_:=mk0 (Kd.R_below zq38 hb);have n1_:=mk0 (Kd.R_below (Kd.R_elderB zq39 gb111 (Nat.le_of_eq hg.symm)) hb);have n2_:=mk0 (j2a zq7 hb);have n3_:=mk0 (hbox);have n4_:=mk0 ((zq77:w.heap.size≤gb111));have n5_:=mk0 ((zq77:w.heap.size≤gb111));clear HO106 HO109 HB;have HO106:=n0_;have HO109:=n1_;have HB:=n2_;have BK111:=n3_;have GW111:=n4_;have GE111:=n5_;clear n0_ n1_ n2_ n3_ n4_ n5_;clear hb hbox hg;have hcz38_0:w37.cell? ⟨gb111,0,none⟩=some (.int .i64 0):=(j1b BK111.out 0).trans rfl;have hcz38_1:w37.cell? ⟨gb111,1,none⟩=some (.int .i64 0):=(j1b BK111.out 1).trans rfl;have hcz38_2:w37.cell? ⟨gb111,2,none⟩=some (.int .i64 0):=(j1b BK111.out 2).trans rfl;have hcz38_3:w37.cell? ⟨gb111,3,none⟩=some (.slice none 0 0):=(j1b BK111.out 3).trans rfl;have hcz38_4:w37.cell? ⟨gb111,4,none⟩=some (.slice none 0 0):=(j1b BK111.out 4).trans rfl;have hfz38_0:=j1a BK111.out 0;have hfz38_1:=j1a BK111.out 1;have hfz38_2:=j1a BK111.out 2;have hfz38_3:=j1a BK111.out 3;have hfz38_4:=j1a BK111.out 4;obtain ⟨Ao39,co39,eo39⟩:=Kd.R_slice HO106.out;subst eo39;obtain ⟨Ao40,co40,eo40⟩:=Kd.R_slice HO109.out;subst eo40)|((with_reducible refine j1r (f:=16) rfl ?_);refine j2f (some 37) rfl rfl Try.func16 zq23 rfl #[.string a1] rfl zq2 ?_;(with_reducible refine (j2j.calls k1 a1 t112 t113 t114 t115 t118 true _ A13.out).mono ?_);rintro e w41 ⟨v116,v119,rfl,ho0,ho1,hb⟩;refine ⟨_,rfl,?_⟩;have n0_:=mk0 (Kd.R_elder' zq42 (Kd.R_base ho0) hb);have n1_:=mk0 (Kd.R_mono (Kd.R_told (Kd.R_told (Kd.R_old zq55 hb) (Kd.R_base ho0)) (Kd.R_base ho1)) (fun _ h_=>h_.1));have n2_:=mk0 (Kd.R_lower (Kd.R_new' ho0 (Kd.R_lt zq42)) (j2u zq11));have n3_:=mk0 (Kd.R_lower (Kd.R_newB (Kd.R_new' (Kd.R_new' ho1 (Kd.R_lt zq42)) (Kd.R_lt zq55)) (g:=gb111) (o := .cells #[.int .i64 t101, .int .i64 t102, .int .i64 t103, .slice Ao39 t104.length co39, .slice Ao40 t107.length co40] 34 (0,0)) zq34) (j2u zq11));have n4_:=mk0 (j2t (g:=gb111) (o := .cells #[.int .i64 t101, .int .i64 t102, .int .i64 t103, .slice Ao39 t104.length co39, .slice Ao40 t107.length co40] 34 (0,0)) zq34 hb);have n5_:=mk0 (j2a zq11 hb);clear HO106 HO109 BK111 HB;have HO106:=n0_;have HO109:=n1_;have HO117:=n2_;have HO120:=n3_;have BK111:=n4_;have HB:=n5_;clear n0_ n1_ n2_ n3_ n4_ n5_;(try clear hb);(try clear hb2);(try clear hk);(try clear hi);(try clear ho0);(try clear ho1))|((with_reducible refine j2v (N:=8) rfl ?_);refine j2s ?hg (N:=8) ?hd (cs:=#[.int .i64 0, .int .i64 0, .int .i64 0, .slice none 0 0, .slice none 0 0]) (t:=34) ?hr ?_;(case hd=>rfl);(case hg=>rfl);(case hr=>exact zq37);intro gb122 hg w42 hbox hb;have n0_:=mk0 (Kd.R_below zq38 hb);have n1_:=mk0 (Kd.R_below (Kd.R_elderB zq39 gb122 (Nat.le_of_eq hg.symm)) hb);have n2_:=mk0 (Kd.R_below zq47 hb);have n3_:=mk0 (Kd.R_below (Kd.R_elderB zq48 gb122 (Nat.le_of_eq hg.symm)) hb);have n4_:=mk0 (j2t (g:=gb111) (o := .cells #[.int .i64 t101, .int .i64 t102, .int .i64 t103, .slice Ao39 t104.length co39, .slice Ao40 t107.length co40] 34 (0,0)) zq25 hb);have n5_:=mk0 (j2a zq11 hb);have n6_:=mk0 (hbox);have n7_:=mk0 ((zq78:w.heap.size≤gb122));have n8_:=mk0 ((zq78:w.heap.size≤gb122));have n9_:=mk0 ((by rw [hg];exact Nat.ne_of_lt (j3m (g:=gb111) (o := .cells #[.int .i64 t101, .int .i64 t102, .int .i64 t103, .slice Ao39 t104.length co39, .slice Ao40 t107.length co40] 34 (0,0)) zq25):gb111≠gb122));have n10_:=mk0 ((by rw [hg];exact Nat.ne_of_gt (j3m (g:=gb111) (o := .cells #[.int .i64 t101, .int .i64 t102, .int .i64 t103, .slice Ao39 t104.length co39, .slice Ao40 t107.length co40] 34 (0,0)) zq25):gb122≠gb111));clear HO106 HO109 HO117 HO120 BK111 HB;have HO106:=n0_;have HO109:=n1_;have HO117:=n2_;have HO120:=n3_;have BK111:=n4_;have HB:=n5_;have BK122:=n6_;have GW122:=n7_;have GE122:=n8_;have NB111_122:=n9_;have NB122_111:=n10_;clear n0_ n1_ n2_ n3_ n4_ n5_ n6_ n7_ n8_ n9_ n10_;clear hb hbox hg;have hnb43:=NB122_111.out;have hnc43:=NB111_122.out;have hcz44_0:w42.cell? ⟨gb122,0,none⟩=some (.int .i64 0):=(j1b BK122.out 0).trans rfl;have hcz44_1:w42.cell? ⟨gb122,1,none⟩=some (.int .i64 0):=(j1b BK122.out 1).trans rfl;have hcz44_2:w42.cell? ⟨gb122,2,none⟩=some (.int .i64 0):=(j1b BK122.out 2).trans rfl;have hcz44_3:w42.cell? ⟨gb122,3,none⟩=some (.slice none 0 0):=(j1b BK122.out 3).trans rfl;have hcz44_4:w42.cell? ⟨gb122,4,none⟩=some (.slice none 0 0):=(j1b BK122.out 4).trans rfl;have hfz44_0:=j1a BK122.out 0;have hfz44_1:=j1a BK122.out 1;have hfz44_2:=j1a BK122.out 2;have hfz44_3:=j1a BK122.out 3;have hfz44_4:=j1a BK122.out 4;obtain ⟨Ao45,co45,eo45⟩:=Kd.R_slice HO117.out;subst eo45;obtain ⟨Ao46,co46,eo46⟩:=Kd.R_slice HO120.out;subst eo46))
    have n0_:Aside0 (Kd.R k60 60 (((((w42.setCell ⟨gb122,0,none⟩ (.int .i64 t112)).setCell ⟨gb122,1,none⟩ (.int .i64 t113)).setCell ⟨gb122,2,none⟩ (.int .i64 t114)).setCell ⟨gb122,3,none⟩ (.slice Ao45 t115.length co45)).setCell ⟨gb122,4,none⟩ (.slice Ao46 t118.length co46)) w.heap.size (fun k_=>some k_≠(.slice Ao45 t115.length co45:Value).ownBlock) (.slice Ao39 t104.length co39) t104):=⟨by (with_reducible repeat (first|apply Kd.R_alloc|apply Kd.R_drewN|apply Kd.R_drew));exact Kd.R_mono (Kd.R_far (p:=⟨gb122,4,none⟩) (Kd.R_far (p:=⟨gb122,3,none⟩) (Kd.R_far (p:=⟨gb122,2,none⟩) (Kd.R_far (p:=⟨gb122,1,none⟩) (Kd.R_far (p:=⟨gb122,0,none⟩) (Kd.R_types HO106.out BK122.out zq50) (fun _ hk=>hk.2) (.int .i64 t112)) (fun _ hk=>hk.2) (.int .i64 t113)) (fun _ hk=>hk.2) (.int .i64 t114)) (fun _ hk=>hk.2) (.slice Ao45 t115.length co45)) (fun _ hk=>hk.2) (.slice Ao46 t118.length co46)) (fun _ hk=>hk.1.2)⟩;have n1_:Aside0 (Kd.R k34 34 (((((w42.setCell ⟨gb122,0,none⟩ (.int .i64 t112)).setCell ⟨gb122,1,none⟩ (.int .i64 t113)).setCell ⟨gb122,2,none⟩ (.int .i64 t114)).setCell ⟨gb122,3,none⟩ (.slice Ao45 t115.length co45)).setCell ⟨gb122,4,none⟩ (.slice Ao46 t118.length co46)) w.heap.size (fun k_=>some k_≠(.slice Ao39 t104.length co39:Value).ownBlock∧some k_≠(.slice Ao45 t115.length co45:Value).ownBlock∧some k_≠(.slice Ao46 t118.length co46:Value).ownBlock∧k_≠gb111∧k_≠gb122) (.slice Ao40 t107.length co40) t107):=⟨by (with_reducible repeat (first|apply Kd.R_alloc|apply Kd.R_drewN|apply Kd.R_drew));exact Kd.R_mono (Kd.R_far (p:=⟨gb122,4,none⟩) (Kd.R_far (p:=⟨gb122,3,none⟩) (Kd.R_far (p:=⟨gb122,2,none⟩) (Kd.R_far (p:=⟨gb122,1,none⟩) (Kd.R_far (p:=⟨gb122,0,none⟩) (Kd.R_mono HO109.out (fun k_ hk=>(⟨hk,hk.2⟩:_∧k_≠gb122))) (fun _ hk=>hk.2) (.int .i64 t112)) (fun _ hk=>hk.2) (.int .i64 t113)) (fun _ hk=>hk.2) (.int .i64 t114)) (fun _ hk=>hk.2) (.slice Ao45 t115.length co45)) (fun _ hk=>hk.2) (.slice Ao46 t118.length co46)) (fun _ hk=>⟨hk.1.1.1.1.1,⟨hk.1.1.1.2,⟨hk.1.1.2,⟨hk.1.1.1.1.2,hk.1.2⟩⟩⟩⟩)⟩;have n2_:Aside0 (Kd.R k60 60 (((((w42.setCell ⟨gb122,0,none⟩ (.int .i64 t112)).setCell ⟨gb122,1,none⟩ (.int .i64 t113)).setCell ⟨gb122,2,none⟩ (.int .i64 t114)).setCell ⟨gb122,3,none⟩ (.slice Ao45 t115.length co45)).setCell ⟨gb122,4,none⟩ (.slice Ao46 t118.length co46)) w.heap.size (fun k_=>some k_≠(.slice Ao39 t104.length co39:Value).ownBlock) (.slice Ao45 t115.length co45) t115):=⟨by (with_reducible repeat (first|apply Kd.R_alloc|apply Kd.R_drewN|apply Kd.R_drew));exact Kd.R_mono (Kd.R_far (p:=⟨gb122,4,none⟩) (Kd.R_far (p:=⟨gb122,3,none⟩) (Kd.R_far (p:=⟨gb122,2,none⟩) (Kd.R_far (p:=⟨gb122,1,none⟩) (Kd.R_far (p:=⟨gb122,0,none⟩) (Kd.R_types HO117.out BK122.out zq50) (fun _ hk=>hk.2) (.int .i64 t112)) (fun _ hk=>hk.2) (.int .i64 t113)) (fun _ hk=>hk.2) (.int .i64 t114)) (fun _ hk=>hk.2) (.slice Ao45 t115.length co45)) (fun _ hk=>hk.2) (.slice Ao46 t118.length co46)) (fun _ hk=>hk.1.2)⟩;have n3_:Aside0 (Kd.R k34 34 (((((w42.setCell ⟨gb122,0,none⟩ (.int .i64 t112)).setCell ⟨gb122,1,none⟩ (.int .i64 t113)).setCell ⟨gb122,2,none⟩ (.int .i64 t114)).setCell ⟨gb122,3,none⟩ (.slice Ao45 t115.length co45)).setCell ⟨gb122,4,none⟩ (.slice Ao46 t118.length co46)) w.heap.size (fun k_=>some k_≠(.slice Ao39 t104.length co39:Value).ownBlock∧some k_≠(.slice Ao40 t107.length co40:Value).ownBlock∧some k_≠(.slice Ao45 t115.length co45:Value).ownBlock∧k_≠gb111∧k_≠gb122) (.slice Ao46 t118.length co46) t118):=⟨by (with_reducible repeat (first|apply Kd.R_alloc|apply Kd.R_drewN|apply Kd.R_drew));exact Kd.R_mono (Kd.R_far (p:=⟨gb122,4,none⟩) (Kd.R_far (p:=⟨gb122,3,none⟩) (Kd.R_far (p:=⟨gb122,2,none⟩) (Kd.R_far (p:=⟨gb122,1,none⟩) (Kd.R_far (p:=⟨gb122,0,none⟩) (Kd.R_mono HO120.out (fun k_ hk=>(⟨hk,hk.2⟩:_∧k_≠gb122))) (fun _ hk=>hk.2) (.int .i64 t112)) (fun _ hk=>hk.2) (.int .i64 t113)) (fun _ hk=>hk.2) (.int .i64 t114)) (fun _ hk=>hk.2) (.slice Ao45 t115.length co45)) (fun _ hk=>hk.2) (.slice Ao46 t118.length co46)) (fun _ hk=>⟨hk.1.1.1.1.2,⟨hk.1.1.1.2,⟨hk.1.1.1.1.1,⟨hk.1.1.2,hk.1.2⟩⟩⟩⟩)⟩;have n4_:Aside0 ((((((w42.setCell ⟨gb122,0,none⟩ (.int .i64 t112)).setCell ⟨gb122,1,none⟩ (.int .i64 t113)).setCell ⟨gb122,2,none⟩ (.int .i64 t114)).setCell ⟨gb122,3,none⟩ (.slice Ao45 t115.length co45)).setCell ⟨gb122,4,none⟩ (.slice Ao46 t118.length co46)).heap[gb111]? = some (.cells #[.int .i64 t101, .int .i64 t102, .int .i64 t103, .slice Ao39 t104.length co39, .slice Ao40 t107.length co40] 34 (0,0))):=⟨by (with_reducible repeat (first|refine j1i ?_ _|refine j1j ?_|refine j1h ?_ _));refine j2q ?_ NB111_122.out _;(with_reducible repeat (first|refine j1i ?_ _|refine j1j ?_|refine j1h ?_ _));refine j2q ?_ NB111_122.out _;(with_reducible repeat (first|refine j1i ?_ _|refine j1j ?_|refine j1h ?_ _));refine j2q ?_ NB111_122.out _;(with_reducible repeat (first|refine j1i ?_ _|refine j1j ?_|refine j1h ?_ _));refine j2q ?_ NB111_122.out _;(with_reducible repeat (first|refine j1i ?_ _|refine j1j ?_|refine j1h ?_ _));refine j2q ?_ NB111_122.out _;(with_reducible repeat (first|refine j1i ?_ _|refine j1j ?_|refine j1h ?_ _));exact BK111.out⟩;have n5_:Aside0 ((((((w42.setCell ⟨gb122,0,none⟩ (.int .i64 t112)).setCell ⟨gb122,1,none⟩ (.int .i64 t113)).setCell ⟨gb122,2,none⟩ (.int .i64 t114)).setCell ⟨gb122,3,none⟩ (.slice Ao45 t115.length co45)).setCell ⟨gb122,4,none⟩ (.slice Ao46 t118.length co46)).heap[gb122]? = some (.cells #[.int .i64 t112, .int .i64 t113, .int .i64 t114, .slice Ao45 t115.length co45, .slice Ao46 t118.length co46] 34 (0,0))):=⟨by (with_reducible repeat (first|refine j1i ?_ _|refine j1j ?_|refine j1h ?_ _));refine j1w (cs:=#[.int .i64 t112, .int .i64 t113, .int .i64 t114, .slice Ao45 t115.length co45, .slice none 0 0]) ?_ 4 _ rfl;(with_reducible repeat (first|refine j1i ?_ _|refine j1j ?_|refine j1h ?_ _));refine j1w (cs:=#[.int .i64 t112, .int .i64 t113, .int .i64 t114, .slice none 0 0, .slice none 0 0]) ?_ 3 _ rfl;(with_reducible repeat (first|refine j1i ?_ _|refine j1j ?_|refine j1h ?_ _));refine j1w (cs:=#[.int .i64 t112, .int .i64 t113, .int .i64 0, .slice none 0 0, .slice none 0 0]) ?_ 2 _ rfl;(with_reducible repeat (first|refine j1i ?_ _|refine j1j ?_|refine j1h ?_ _));refine j1w (cs:=#[.int .i64 t112, .int .i64 0, .int .i64 0, .slice none 0 0, .slice none 0 0]) ?_ 1 _ rfl;(with_reducible repeat (first|refine j1i ?_ _|refine j1j ?_|refine j1h ?_ _));refine j1w (cs:=#[.int .i64 0, .int .i64 0, .int .i64 0, .slice none 0 0, .slice none 0 0]) ?_ 0 _ rfl;(with_reducible repeat (first|refine j1i ?_ _|refine j1j ?_|refine j1h ?_ _));exact BK122.out⟩;have n6_:Aside0 (Below w.heap.size w (((((w42.setCell ⟨gb122,0,none⟩ (.int .i64 t112)).setCell ⟨gb122,1,none⟩ (.int .i64 t113)).setCell ⟨gb122,2,none⟩ (.int .i64 t114)).setCell ⟨gb122,3,none⟩ (.slice Ao45 t115.length co45)).setCell ⟨gb122,4,none⟩ (.slice Ao46 t118.length co46))):=⟨by repeat (first|(with_reducible first|exact HB.out|apply j1s|apply j1q|apply j1t|refine j1u ?_ GE111.out|refine j1u ?_ GE122.out)|exact HB.out)⟩;(try clear HO106);(try clear HO109);(try clear HO117);(try clear HO120);(try clear BK111);(try clear BK122);(try clear HB)
    generalize (((((w42.setCell ⟨gb122,0,none⟩ (.int .i64 t112)).setCell ⟨gb122,1,none⟩ (.int .i64 t113)).setCell ⟨gb122,2,none⟩ (.int .i64 t114)).setCell ⟨gb122,3,none⟩ (.slice Ao45 t115.length co45)).setCell ⟨gb122,4,none⟩ (.slice Ao46 t118.length co46))=w47 at n0_ n1_ n2_ n3_ n4_ n5_ n6_ ⊢
    have HO106:=n0_;have HO109:=n1_;have HO117:=n2_;have HO120:=n3_;have BK111:=n4_;have BK122:=n5_;have HB:=n6_;clear n0_ n1_ n2_ n3_ n4_ n5_ n6_;have n0_:=mk0 (Kd.R_drew HO106.out);have n1_:=mk0 (Kd.R_drew HO109.out);have n2_:=mk0 (Kd.R_drew HO117.out);have n3_:=mk0 (Kd.R_drew HO120.out);have n4_:=mk0 (j1j BK111.out);have n5_:=mk0 (j1j BK122.out);have n6_:=mk0 (j1t HB.out);clear HO106;clear HO109;clear HO117;clear HO120;clear BK111;clear BK122;clear HB;have HO106:=n0_;have HO109:=n1_;have HO117:=n2_;have HO120:=n3_;have BK111:=n4_;have BK122:=n5_;have HB:=n6_;clear n0_ n1_ n2_ n3_ n4_ n5_ n6_;refine start_ (n:=19) (S:=fun w'=>w'.cell? ⟨gb111,0,none⟩=some (.int .i64 t101)∧w'.cell? ⟨gb111,1,none⟩=some (.int .i64 t102)∧w'.cell? ⟨gb111,2,none⟩=some (.int .i64 t103)∧w'.cell? ⟨gb111,3,none⟩=some (.slice Ao39 t104.length co39)∧w'.cell? ⟨gb111,4,none⟩=some (.slice Ao40 t107.length co40)∧w'.cell? ⟨gb122,0,none⟩=some (.int .i64 t112)∧w'.cell? ⟨gb122,1,none⟩=some (.int .i64 t113)∧w'.cell? ⟨gb122,2,none⟩=some (.int .i64 t114)∧w'.cell? ⟨gb122,3,none⟩=some (.slice Ao45 t115.length co45)∧w'.cell? ⟨gb122,4,none⟩=some (.slice Ao46 t118.length co46)) (ds:=[]) #[false,false,false,false,false,false,false,false,false,false,false,false,false,false,false,false,false,false,false] zq23 rfl rfl ⟨(j1b BK111.out 0).trans rfl,(j1b BK111.out 1).trans rfl,(j1b BK111.out 2).trans rfl,(j1b BK111.out 3).trans rfl,(j1b BK111.out 4).trans rfl,(j1b BK122.out 0).trans rfl,(j1b BK122.out 1).trans rfl,(j1b BK122.out 2).trans rfl,(j1b BK122.out 3).trans rfl,(j1b BK122.out 4).trans rfl⟩ (fun hHeld=>?_);refine j3l j1v.tab10 j1v.bits10 (fun HT_ HW_=>?_)
    generalize w47.drew=w48 at HO106 HO109 HO117 HO120 BK111 BK122 HB hHeld ⊢
    refine pure_ (i:=0) (N:=some 40) (v:=?_) (a':=?_) #[true,false,false,false,false,false,false,false,false,false,false,false,false,false,false,false,false,false,false] rfl rfl (j2e HT_.out zq23) (fun _ _ _ h=>h) (Or.inl ⟨by rfl,?_⟩) ?_ ?_;rotate_left
    ·exact zl3
    rotate_left
    ·exact zl0
    refine pure_ (i:=1) (N:=some 41) (v:=?_) (a':=?_) #[true,true,false,false,false,false,false,false,false,false,false,false,false,false,false,false,false,false,false] rfl rfl (j2e HT_.out zq23) (fun _ _ _ h=>h) (Or.inl ⟨by rfl,?_⟩) ?_ ?_;rotate_left
    ·exact zl3
    rotate_left
    ·exact zl0
    refine pure_ (i:=2) (N:=some 42) (v:=?_) (a':=?_) #[true,true,true,false,false,false,false,false,false,false,false,false,false,false,false,false,false,false,false] rfl rfl (j2e HT_.out zq23) (fun _ _ _ h=>h) (Or.inl ⟨by rfl,?_⟩) ?_ ?_;rotate_left
    ·exact zl3
    rotate_left
    ·exact zl0
    refine pure_ (i:=3) (N:=some 43) (v:=?_) (a':=?_) #[true,true,true,true,false,false,false,false,false,false,false,false,false,false,false,false,false,false,false] rfl rfl (j2e HT_.out zq23) (fun _ _ _ h=>h) (Or.inl ⟨by rfl,?_⟩) ?_ ?_;rotate_left
    ·exact zl3
    rotate_left
    ·exact zl0
    refine pure_ (i:=4) (N:=some 44) (v:=?_) (a':=?_) #[true,true,true,true,true,false,false,false,false,false,false,false,false,false,false,false,false,false,false] rfl rfl (j2e HT_.out zq23) (fun _ _ _ h=>h) (Or.inl ⟨by rfl,?_⟩) ?_ ?_;rotate_left
    ·exact zl3
    rotate_left
    ·exact zl0
    refine take_ (i:=5) (N:=some 45) (v:=?_) (a':=?_) #[true,true,true,true,true,true,false,false,false,false,false,false,false,false,false,false,false,false,false] rfl rfl (j2w HT_.out HW_.out zq23) (fun _ _ _ h=>h) (Or.inl ⟨by rfl,?_⟩) hHeld ?_ ?_;rotate_left
    ·exact zl13
    rotate_left
    ·exact zl0
    refine take_ (i:=6) (N:=some 46) (v:=?_) (a':=?_) #[true,true,true,true,true,true,true,false,false,false,false,false,false,false,false,false,false,false,false] rfl rfl (j2w HT_.out HW_.out zq23) (fun _ _ _ h=>h) (Or.inl ⟨by rfl,?_⟩) hHeld ?_ ?_;rotate_left
    ·exact zl13
    rotate_left
    ·exact zl0
    refine one_ (i:=7) (N:=some 47) #[true,true,true,true,true,true,true,true,false,false,false,false,false,false,false,false,false,false,false] rfl rfl (one_of HT_.out zq23) zq50 (fun K hK=>?_);refine goes_ Try.func18 zq23 rfl #[.agg #[.int .i64 t101, .int .i64 t102, .int .i64 t103, .slice Ao39 t104.length co39, .slice Ao40 t107.length co40], .agg #[.int .i64 t112, .int .i64 t113, .int .i64 t114, .slice Ao45 t115.length co45, .slice Ao46 t118.length co46]] (by rfl) rfl rfl zq2 ?_;with_reducible refine (j1m.calls k1 t101 t102 t103 _ _ t104 _ _ t107 t112 t113 t114 _ _ t115 _ _ t118 false _ ?side1 ?side2 ?side3 ?side4 ?side5 ?side6 ?side7 ?side8 A16.out).mono ?_
    (case side1=>exact zq65);(case side2=>exact (Kd.R_reads' HO106.out).2.1);(case side3=>exact zq66);(case side4=>exact (Kd.R_reads' HO109.out).2.1);(case side5=>exact zq67);(case side6=>exact (Kd.R_reads' HO117.out).2.1);(case side7=>exact zq68);(case side8=>exact (Kd.R_reads' HO120.out).2.1);rintro e w49 ⟨rfl,hb⟩;refine ⟨_,rfl,?_⟩;have n0_:=mk0 (Kd.R_below zq38 hb);have n1_:=mk0 (Kd.R_below zq39 hb);have n2_:=mk0 (Kd.R_below zq47 hb);have n3_:=mk0 (Kd.R_below zq48 hb);have n4_:=mk0 (j2t (g:=gb111) (o := .cells #[.int .i64 t101, .int .i64 t102, .int .i64 t103, .slice Ao39 t104.length co39, .slice Ao40 t107.length co40] 34 (0,0)) zq25 hb);have n5_:=mk0 (j2t (g:=gb122) (o := .cells #[.int .i64 t112, .int .i64 t113, .int .i64 t114, .slice Ao45 t115.length co45, .slice Ao46 t118.length co46] 34 (0,0)) zq64 hb);have n6_:=mk0 (j2a zq52 hb);clear HO106;clear HO109;clear HO117;clear HO120;clear BK111;clear BK122;clear HB;have HO106:=n0_;have HO109:=n1_;have HO117:=n2_;have HO120:=n3_;have BK111:=n4_;have BK122:=n5_;have HB:=n6_;clear n0_ n1_ n2_ n3_ n4_ n5_ n6_;(try clear hb);(try clear hb2);(try clear hk);(try clear hi);refine hK.out _ _ ⟨(j1b BK111.out 0).trans rfl,(j1b BK111.out 1).trans rfl,(j1b BK111.out 2).trans rfl,(j1b BK111.out 3).trans rfl,(j1b BK111.out 4).trans rfl,(j1b BK122.out 0).trans rfl,(j1b BK122.out 1).trans rfl,(j1b BK122.out 2).trans rfl,(j1b BK122.out 3).trans rfl,(j1b BK122.out 4).trans rfl⟩ (fun hHeld=>?_);clear hK K;refine norm_ (a':=?_) ?_ ?_;rotate_left
    ·show Act.put _ (some 47) _=_
     exact zl0
    refine pure_ (i:=8) (N:=some 48) (v:=?_) (a':=?_) #[true,true,true,true,true,true,true,true,true,false,false,false,false,false,false,false,false,false,false] rfl rfl (j2e HT_.out zq23) (fun _ _ _ h=>h) (Or.inl ⟨by rfl,?_⟩) ?_ ?_;rotate_left
    ·exact zl3
    rotate_left
    ·exact zl0
    refine pure_ (i:=9) (N:=some 49) (v:=?_) (a':=?_) #[true,true,true,true,true,true,true,true,true,true,false,false,false,false,false,false,false,false,false] rfl rfl (j2e HT_.out zq23) (fun _ _ _ h=>h) (Or.inl ⟨by rfl,?_⟩) ?_ ?_;rotate_left
    ·exact zl3
    rotate_left
    ·exact zl0
    refine pure_ (i:=10) (N:=some 50) (v:=undef) (a':=?_) #[true,true,true,true,true,true,true,true,true,true,true,false,false,false,false,false,false,false,false] rfl rfl (j2e HT_.out zq23) (fun _ _ _ h=>h) (Or.inr ⟨by rfl,rfl⟩) ?_ ?_;rotate_left
    ·exact zl0
    refine pure_ (i:=11) (N:=some 51) (v:=undef) (a':=?_) #[true,true,true,true,true,true,true,true,true,true,true,true,false,false,false,false,false,false,false] rfl rfl (j2e HT_.out zq23) (fun _ _ _ h=>h) (Or.inr ⟨by rfl,rfl⟩) ?_ ?_;rotate_left
    ·exact zl0
    refine pure_ (i:=12) (N:=some 52) (v:=undef) (a':=?_) #[true,true,true,true,true,true,true,true,true,true,true,true,true,false,false,false,false,false,false] rfl rfl (j2e HT_.out zq23) (fun _ _ _ h=>h) (Or.inr ⟨by rfl,rfl⟩) ?_ ?_;rotate_left
    ·exact zl0
    refine pure_ (i:=13) (N:=some 53) (v:=undef) (a':=?_) #[true,true,true,true,true,true,true,true,true,true,true,true,true,true,false,false,false,false,false] rfl rfl (j2e HT_.out zq23) (fun _ _ _ h=>h) (Or.inr ⟨by rfl,rfl⟩) ?_ ?_;rotate_left
    ·exact zl0
    refine pure_ (i:=14) (N:=some 54) (v:=undef) (a':=?_) #[true,true,true,true,true,true,true,true,true,true,true,true,true,true,true,false,false,false,false] rfl rfl (j2e HT_.out zq23) (fun _ _ _ h=>h) (Or.inr ⟨by rfl,rfl⟩) ?_ ?_;rotate_left
    ·exact zl0
    refine pure_ (i:=15) (N:=some 55) (v:=undef) (a':=?_) #[true,true,true,true,true,true,true,true,true,true,true,true,true,true,true,true,false,false,false] rfl rfl (j2e HT_.out zq23) (fun _ _ _ h=>h) (Or.inr ⟨by rfl,rfl⟩) ?_ ?_;rotate_left
    ·exact zl0
    refine pure_ (i:=16) (N:=some 56) (v:=undef) (a':=?_) #[true,true,true,true,true,true,true,true,true,true,true,true,true,true,true,true,true,false,false] rfl rfl (j2e HT_.out zq23) (fun _ _ _ h=>h) (Or.inr ⟨by rfl,rfl⟩) ?_ ?_;rotate_left
    ·exact zl0
    refine pure_ (i:=17) (N:=some 57) (v:=?_) (a':=?_) #[true,true,true,true,true,true,true,true,true,true,true,true,true,true,true,true,true,true,false] rfl rfl (j2e HT_.out zq23) (fun _ _ _ h=>h) (Or.inl ⟨by rfl,?_⟩) ?_ ?_;rotate_left
    ·exact zl3
    rotate_left
    ·exact zl0
    refine pure_ (i:=18) (N:=some 4) (v:=?_) (a':=?_) #[true,true,true,true,true,true,true,true,true,true,true,true,true,true,true,true,true,true,true] rfl rfl (j2e HT_.out zq23) (fun _ _ _ h=>h) (Or.inl ⟨by rfl,?_⟩) ?_ ?_;rotate_left
    ·exact zl3
    rotate_left
    ·exact zl0
    refine done_ (done_of HT_.out zq23) ?_
    try go_wp2
    go_ret;exact zl8
   subst c17;have H1:((j2r.f k1 a0 t101 t102 t103 t104 t107).bind fun t124=>((j2r.f k1 a1 t112 t113 t114 t115 t118).bind fun t125=>(some (t124.toList == t125.toList))))=some r:=by rw [if_pos rfl] at H;exact H
   clear H;have H:=H1;clear H1;replace H:=Option.bind_eq_some_iff.mp H;obtain ⟨t124,A180,H⟩:=H;replace H:((j2r.f k1 a1 t112 t113 t114 t115 t118).bind fun t125=>(some (t124.toList == t125.toList)))=some r:=H;have A18:=mk0 A180;clear A180;replace H:=Option.bind_eq_some_iff.mp H;obtain ⟨t125,A190,H⟩:=H;replace H:(some (t124.toList == t125.toList))=some r:=H;have A19:=mk0 A190;clear A190;obtain rfl:=Option.some.inj H
   try go_wp2_with (first|((with_reducible refine j1r (f:=16) rfl ?_);refine j2f (some 32) rfl rfl Try.func16 zq23 rfl #[.string a0] rfl zq2 ?_;(with_reducible refine (j2j.calls k1 a0 t101 t102 t103 t104 t107 true _ A12.out).mono ?_);rintro e w20 ⟨v105,v108,rfl,ho0,ho1,hb⟩;refine ⟨_,rfl,?_⟩;have n0_:=mk0 (Kd.R_lower ho0 (j2u zq7));have n1_:=mk0 (Kd.R_lower ho1 (j2u zq7));have n2_:=mk0 (j2a zq7 hb);clear HB;have HO106:=n0_;have HO109:=n1_;have HB:=n2_;clear n0_ n1_ n2_;(try clear hb);(try clear hb2);(try clear hk);(try clear hi);(try clear ho0);(try clear ho1))|((with_reducible refine j2v (N:=6) rfl ?_);refine j2s ?hg (N:=6) ?hd (cs:=#[.int .i64 0, .int .i64 0, .int .i64 0, .slice none 0 0, .slice none 0 0]) (t:=34) ?hr ?_;(case hd=>rfl);(case hg=>rfl);(case hr=>exact zq37);intro gb111 hg w21 hbox hb;have n0_:=mk0 (Kd.R_below zq38 hb);have n1_:=mk0 (Kd.R_below (Kd.R_elderB zq39 gb111 (Nat.le_of_eq hg.symm)) hb);have n2_:=mk0 (j2a zq7 hb);have n3_:=mk0 (hbox);have n4_:=mk0 ((zq77:w.heap.size≤gb111));have n5_:=mk0 ((zq77:w.heap.size≤gb111));clear HO106 HO109 HB;have HO106:=n0_;have HO109:=n1_;have HB:=n2_;have BK111:=n3_;have GW111:=n4_;have GE111:=n5_;clear n0_ n1_ n2_ n3_ n4_ n5_;clear hb hbox hg;have hcz22_0:w21.cell? ⟨gb111,0,none⟩=some (.int .i64 0):=(j1b BK111.out 0).trans rfl;have hcz22_1:w21.cell? ⟨gb111,1,none⟩=some (.int .i64 0):=(j1b BK111.out 1).trans rfl;have hcz22_2:w21.cell? ⟨gb111,2,none⟩=some (.int .i64 0):=(j1b BK111.out 2).trans rfl;have hcz22_3:w21.cell? ⟨gb111,3,none⟩=some (.slice none 0 0):=(j1b BK111.out 3).trans rfl;have hcz22_4:w21.cell? ⟨gb111,4,none⟩=some (.slice none 0 0):=(j1b BK111.out 4).trans rfl;have hfz22_0:=j1a BK111.out 0;have hfz22_1:=j1a BK111.out 1;have hfz22_2:=j1a BK111.out 2;have hfz22_3:=j1a BK111.out 3;have hfz22_4:=j1a BK111.out 4;obtain ⟨Ao23,co23,eo23⟩:=Kd.R_slice HO106.out;subst eo23;obtain ⟨Ao24,co24,eo24⟩:=Kd.R_slice HO109.out;subst eo24)|((with_reducible refine j1r (f:=16) rfl ?_);refine j2f (some 37) rfl rfl Try.func16 zq23 rfl #[.string a1] rfl zq2 ?_;(with_reducible refine (j2j.calls k1 a1 t112 t113 t114 t115 t118 true _ A13.out).mono ?_);rintro e w25 ⟨v116,v119,rfl,ho0,ho1,hb⟩;refine ⟨_,rfl,?_⟩;have n0_:=mk0 (Kd.R_elder' zq43 (Kd.R_base ho0) hb);have n1_:=mk0 (Kd.R_mono (Kd.R_told (Kd.R_told (Kd.R_old zq56 hb) (Kd.R_base ho0)) (Kd.R_base ho1)) (fun _ h_=>h_.1));have n2_:=mk0 (Kd.R_lower (Kd.R_new' ho0 (Kd.R_lt zq43)) (j2u zq11));have n3_:=mk0 (Kd.R_lower (Kd.R_newB (Kd.R_new' (Kd.R_new' ho1 (Kd.R_lt zq43)) (Kd.R_lt zq56)) (g:=gb111) (o := .cells #[.int .i64 t101, .int .i64 t102, .int .i64 t103, .slice Ao23 t104.length co23, .slice Ao24 t107.length co24] 34 (0,0)) zq35) (j2u zq11));have n4_:=mk0 (j2t (g:=gb111) (o := .cells #[.int .i64 t101, .int .i64 t102, .int .i64 t103, .slice Ao23 t104.length co23, .slice Ao24 t107.length co24] 34 (0,0)) zq35 hb);have n5_:=mk0 (j2a zq11 hb);clear HO106 HO109 BK111 HB;have HO106:=n0_;have HO109:=n1_;have HO117:=n2_;have HO120:=n3_;have BK111:=n4_;have HB:=n5_;clear n0_ n1_ n2_ n3_ n4_ n5_;(try clear hb);(try clear hb2);(try clear hk);(try clear hi);(try clear ho0);(try clear ho1))|((with_reducible refine j2v (N:=8) rfl ?_);refine j2s ?hg (N:=8) ?hd (cs:=#[.int .i64 0, .int .i64 0, .int .i64 0, .slice none 0 0, .slice none 0 0]) (t:=34) ?hr ?_;(case hd=>rfl);(case hg=>rfl);(case hr=>exact zq37);intro gb122 hg w26 hbox hb;have n0_:=mk0 (Kd.R_below zq38 hb);have n1_:=mk0 (Kd.R_below (Kd.R_elderB zq39 gb122 (Nat.le_of_eq hg.symm)) hb);have n2_:=mk0 (Kd.R_below zq47 hb);have n3_:=mk0 (Kd.R_below (Kd.R_elderB zq48 gb122 (Nat.le_of_eq hg.symm)) hb);have n4_:=mk0 (j2t (g:=gb111) (o := .cells #[.int .i64 t101, .int .i64 t102, .int .i64 t103, .slice Ao23 t104.length co23, .slice Ao24 t107.length co24] 34 (0,0)) zq25 hb);have n5_:=mk0 (j2a zq11 hb);have n6_:=mk0 (hbox);have n7_:=mk0 ((zq78:w.heap.size≤gb122));have n8_:=mk0 ((zq78:w.heap.size≤gb122));have n9_:=mk0 ((by rw [hg];exact Nat.ne_of_lt (j3m (g:=gb111) (o := .cells #[.int .i64 t101, .int .i64 t102, .int .i64 t103, .slice Ao23 t104.length co23, .slice Ao24 t107.length co24] 34 (0,0)) zq25):gb111≠gb122));have n10_:=mk0 ((by rw [hg];exact Nat.ne_of_gt (j3m (g:=gb111) (o := .cells #[.int .i64 t101, .int .i64 t102, .int .i64 t103, .slice Ao23 t104.length co23, .slice Ao24 t107.length co24] 34 (0,0)) zq25):gb122≠gb111));clear HO106 HO109 HO117 HO120 BK111 HB;have HO106:=n0_;have HO109:=n1_;have HO117:=n2_;have HO120:=n3_;have BK111:=n4_;have HB:=n5_;have BK122:=n6_;have GW122:=n7_;have GE122:=n8_;have NB111_122:=n9_;have NB122_111:=n10_;clear n0_ n1_ n2_ n3_ n4_ n5_ n6_ n7_ n8_ n9_ n10_;clear hb hbox hg;have hnb27:=NB122_111.out;have hnc27:=NB111_122.out;have hcz28_0:w26.cell? ⟨gb122,0,none⟩=some (.int .i64 0):=(j1b BK122.out 0).trans rfl;have hcz28_1:w26.cell? ⟨gb122,1,none⟩=some (.int .i64 0):=(j1b BK122.out 1).trans rfl;have hcz28_2:w26.cell? ⟨gb122,2,none⟩=some (.int .i64 0):=(j1b BK122.out 2).trans rfl;have hcz28_3:w26.cell? ⟨gb122,3,none⟩=some (.slice none 0 0):=(j1b BK122.out 3).trans rfl;have hcz28_4:w26.cell? ⟨gb122,4,none⟩=some (.slice none 0 0):=(j1b BK122.out 4).trans rfl;have hfz28_0:=j1a BK122.out 0;have hfz28_1:=j1a BK122.out 1;have hfz28_2:=j1a BK122.out 2;have hfz28_3:=j1a BK122.out 3;have hfz28_4:=j1a BK122.out 4;obtain ⟨Ao29,co29,eo29⟩:=Kd.R_slice HO117.out;subst eo29;obtain ⟨Ao30,co30,eo30⟩:=Kd.R_slice HO120.out;subst eo30))
   have n0_:Aside0 (Kd.R k60 60 (((((w26.setCell ⟨gb122,0,none⟩ (.int .i64 t112)).setCell ⟨gb122,1,none⟩ (.int .i64 t113)).setCell ⟨gb122,2,none⟩ (.int .i64 t114)).setCell ⟨gb122,3,none⟩ (.slice Ao29 t115.length co29)).setCell ⟨gb122,4,none⟩ (.slice Ao30 t118.length co30)) w.heap.size (fun k_=>some k_≠(.slice Ao29 t115.length co29:Value).ownBlock) (.slice Ao23 t104.length co23) t104):=⟨by (with_reducible repeat (first|apply Kd.R_alloc|apply Kd.R_drewN|apply Kd.R_drew));exact Kd.R_mono (Kd.R_far (p:=⟨gb122,4,none⟩) (Kd.R_far (p:=⟨gb122,3,none⟩) (Kd.R_far (p:=⟨gb122,2,none⟩) (Kd.R_far (p:=⟨gb122,1,none⟩) (Kd.R_far (p:=⟨gb122,0,none⟩) (Kd.R_types HO106.out BK122.out zq50) (fun _ hk=>hk.2) (.int .i64 t112)) (fun _ hk=>hk.2) (.int .i64 t113)) (fun _ hk=>hk.2) (.int .i64 t114)) (fun _ hk=>hk.2) (.slice Ao29 t115.length co29)) (fun _ hk=>hk.2) (.slice Ao30 t118.length co30)) (fun _ hk=>hk.1.2)⟩;have n1_:Aside0 (Kd.R k34 34 (((((w26.setCell ⟨gb122,0,none⟩ (.int .i64 t112)).setCell ⟨gb122,1,none⟩ (.int .i64 t113)).setCell ⟨gb122,2,none⟩ (.int .i64 t114)).setCell ⟨gb122,3,none⟩ (.slice Ao29 t115.length co29)).setCell ⟨gb122,4,none⟩ (.slice Ao30 t118.length co30)) w.heap.size (fun k_=>some k_≠(.slice Ao23 t104.length co23:Value).ownBlock∧some k_≠(.slice Ao29 t115.length co29:Value).ownBlock∧some k_≠(.slice Ao30 t118.length co30:Value).ownBlock∧k_≠gb111∧k_≠gb122) (.slice Ao24 t107.length co24) t107):=⟨by (with_reducible repeat (first|apply Kd.R_alloc|apply Kd.R_drewN|apply Kd.R_drew));exact Kd.R_mono (Kd.R_far (p:=⟨gb122,4,none⟩) (Kd.R_far (p:=⟨gb122,3,none⟩) (Kd.R_far (p:=⟨gb122,2,none⟩) (Kd.R_far (p:=⟨gb122,1,none⟩) (Kd.R_far (p:=⟨gb122,0,none⟩) (Kd.R_mono HO109.out (fun k_ hk=>(⟨hk,hk.2⟩:_∧k_≠gb122))) (fun _ hk=>hk.2) (.int .i64 t112)) (fun _ hk=>hk.2) (.int .i64 t113)) (fun _ hk=>hk.2) (.int .i64 t114)) (fun _ hk=>hk.2) (.slice Ao29 t115.length co29)) (fun _ hk=>hk.2) (.slice Ao30 t118.length co30)) (fun _ hk=>⟨hk.1.1.1.1.1,⟨hk.1.1.1.2,⟨hk.1.1.2,⟨hk.1.1.1.1.2,hk.1.2⟩⟩⟩⟩)⟩;have n2_:Aside0 (Kd.R k60 60 (((((w26.setCell ⟨gb122,0,none⟩ (.int .i64 t112)).setCell ⟨gb122,1,none⟩ (.int .i64 t113)).setCell ⟨gb122,2,none⟩ (.int .i64 t114)).setCell ⟨gb122,3,none⟩ (.slice Ao29 t115.length co29)).setCell ⟨gb122,4,none⟩ (.slice Ao30 t118.length co30)) w.heap.size (fun k_=>some k_≠(.slice Ao23 t104.length co23:Value).ownBlock) (.slice Ao29 t115.length co29) t115):=⟨by (with_reducible repeat (first|apply Kd.R_alloc|apply Kd.R_drewN|apply Kd.R_drew));exact Kd.R_mono (Kd.R_far (p:=⟨gb122,4,none⟩) (Kd.R_far (p:=⟨gb122,3,none⟩) (Kd.R_far (p:=⟨gb122,2,none⟩) (Kd.R_far (p:=⟨gb122,1,none⟩) (Kd.R_far (p:=⟨gb122,0,none⟩) (Kd.R_types HO117.out BK122.out zq50) (fun _ hk=>hk.2) (.int .i64 t112)) (fun _ hk=>hk.2) (.int .i64 t113)) (fun _ hk=>hk.2) (.int .i64 t114)) (fun _ hk=>hk.2) (.slice Ao29 t115.length co29)) (fun _ hk=>hk.2) (.slice Ao30 t118.length co30)) (fun _ hk=>hk.1.2)⟩;have n3_:Aside0 (Kd.R k34 34 (((((w26.setCell ⟨gb122,0,none⟩ (.int .i64 t112)).setCell ⟨gb122,1,none⟩ (.int .i64 t113)).setCell ⟨gb122,2,none⟩ (.int .i64 t114)).setCell ⟨gb122,3,none⟩ (.slice Ao29 t115.length co29)).setCell ⟨gb122,4,none⟩ (.slice Ao30 t118.length co30)) w.heap.size (fun k_=>some k_≠(.slice Ao23 t104.length co23:Value).ownBlock∧some k_≠(.slice Ao24 t107.length co24:Value).ownBlock∧some k_≠(.slice Ao29 t115.length co29:Value).ownBlock∧k_≠gb111∧k_≠gb122) (.slice Ao30 t118.length co30) t118):=⟨by (with_reducible repeat (first|apply Kd.R_alloc|apply Kd.R_drewN|apply Kd.R_drew));exact Kd.R_mono (Kd.R_far (p:=⟨gb122,4,none⟩) (Kd.R_far (p:=⟨gb122,3,none⟩) (Kd.R_far (p:=⟨gb122,2,none⟩) (Kd.R_far (p:=⟨gb122,1,none⟩) (Kd.R_far (p:=⟨gb122,0,none⟩) (Kd.R_mono HO120.out (fun k_ hk=>(⟨hk,hk.2⟩:_∧k_≠gb122))) (fun _ hk=>hk.2) (.int .i64 t112)) (fun _ hk=>hk.2) (.int .i64 t113)) (fun _ hk=>hk.2) (.int .i64 t114)) (fun _ hk=>hk.2) (.slice Ao29 t115.length co29)) (fun _ hk=>hk.2) (.slice Ao30 t118.length co30)) (fun _ hk=>⟨hk.1.1.1.1.2,⟨hk.1.1.1.2,⟨hk.1.1.1.1.1,⟨hk.1.1.2,hk.1.2⟩⟩⟩⟩)⟩;have n4_:Aside0 ((((((w26.setCell ⟨gb122,0,none⟩ (.int .i64 t112)).setCell ⟨gb122,1,none⟩ (.int .i64 t113)).setCell ⟨gb122,2,none⟩ (.int .i64 t114)).setCell ⟨gb122,3,none⟩ (.slice Ao29 t115.length co29)).setCell ⟨gb122,4,none⟩ (.slice Ao30 t118.length co30)).heap[gb111]? = some (.cells #[.int .i64 t101, .int .i64 t102, .int .i64 t103, .slice Ao23 t104.length co23, .slice Ao24 t107.length co24] 34 (0,0))):=⟨by (with_reducible repeat (first|refine j1i ?_ _|refine j1j ?_|refine j1h ?_ _));refine j2q ?_ NB111_122.out _;(with_reducible repeat (first|refine j1i ?_ _|refine j1j ?_|refine j1h ?_ _));refine j2q ?_ NB111_122.out _;(with_reducible repeat (first|refine j1i ?_ _|refine j1j ?_|refine j1h ?_ _));refine j2q ?_ NB111_122.out _;(with_reducible repeat (first|refine j1i ?_ _|refine j1j ?_|refine j1h ?_ _));refine j2q ?_ NB111_122.out _;(with_reducible repeat (first|refine j1i ?_ _|refine j1j ?_|refine j1h ?_ _));refine j2q ?_ NB111_122.out _;(with_reducible repeat (first|refine j1i ?_ _|refine j1j ?_|refine j1h ?_ _));exact BK111.out⟩;have n5_:Aside0 ((((((w26.setCell ⟨gb122,0,none⟩ (.int .i64 t112)).setCell ⟨gb122,1,none⟩ (.int .i64 t113)).setCell ⟨gb122,2,none⟩ (.int .i64 t114)).setCell ⟨gb122,3,none⟩ (.slice Ao29 t115.length co29)).setCell ⟨gb122,4,none⟩ (.slice Ao30 t118.length co30)).heap[gb122]? = some (.cells #[.int .i64 t112, .int .i64 t113, .int .i64 t114, .slice Ao29 t115.length co29, .slice Ao30 t118.length co30] 34 (0,0))):=⟨by (with_reducible repeat (first|refine j1i ?_ _|refine j1j ?_|refine j1h ?_ _));refine j1w (cs:=#[.int .i64 t112, .int .i64 t113, .int .i64 t114, .slice Ao29 t115.length co29, .slice none 0 0]) ?_ 4 _ rfl;(with_reducible repeat (first|refine j1i ?_ _|refine j1j ?_|refine j1h ?_ _));refine j1w (cs:=#[.int .i64 t112, .int .i64 t113, .int .i64 t114, .slice none 0 0, .slice none 0 0]) ?_ 3 _ rfl;(with_reducible repeat (first|refine j1i ?_ _|refine j1j ?_|refine j1h ?_ _));refine j1w (cs:=#[.int .i64 t112, .int .i64 t113, .int .i64 0, .slice none 0 0, .slice none 0 0]) ?_ 2 _ rfl;(with_reducible repeat (first|refine j1i ?_ _|refine j1j ?_|refine j1h ?_ _));refine j1w (cs:=#[.int .i64 t112, .int .i64 0, .int .i64 0, .slice none 0 0, .slice none 0 0]) ?_ 1 _ rfl;(with_reducible repeat (first|refine j1i ?_ _|refine j1j ?_|refine j1h ?_ _));refine j1w (cs:=#[.int .i64 0, .int .i64 0, .int .i64 0, .slice none 0 0, .slice none 0 0]) ?_ 0 _ rfl;(with_reducible repeat (first|refine j1i ?_ _|refine j1j ?_|refine j1h ?_ _));exact BK122.out⟩;have n6_:Aside0 (Below w.heap.size w (((((w26.setCell ⟨gb122,0,none⟩ (.int .i64 t112)).setCell ⟨gb122,1,none⟩ (.int .i64 t113)).setCell ⟨gb122,2,none⟩ (.int .i64 t114)).setCell ⟨gb122,3,none⟩ (.slice Ao29 t115.length co29)).setCell ⟨gb122,4,none⟩ (.slice Ao30 t118.length co30))):=⟨by repeat (first|(with_reducible first|exact HB.out|apply j1s|apply j1q|apply j1t|refine j1u ?_ GE111.out|refine j1u ?_ GE122.out)|exact HB.out)⟩;(try clear HO106);(try clear HO109);(try clear HO117);(try clear HO120);(try clear BK111);(try clear BK122);(try clear HB)
   generalize (((((w26.setCell ⟨gb122,0,none⟩ (.int .i64 t112)).setCell ⟨gb122,1,none⟩ (.int .i64 t113)).setCell ⟨gb122,2,none⟩ (.int .i64 t114)).setCell ⟨gb122,3,none⟩ (.slice Ao29 t115.length co29)).setCell ⟨gb122,4,none⟩ (.slice Ao30 t118.length co30))=w31 at n0_ n1_ n2_ n3_ n4_ n5_ n6_ ⊢
   have HO106:=n0_;have HO109:=n1_;have HO117:=n2_;have HO120:=n3_;have BK111:=n4_;have BK122:=n5_;have HB:=n6_;clear n0_ n1_ n2_ n3_ n4_ n5_ n6_;have n0_:=mk0 (Kd.R_drew HO106.out);have n1_:=mk0 (Kd.R_drew HO109.out);have n2_:=mk0 (Kd.R_drew HO117.out);have n3_:=mk0 (Kd.R_drew HO120.out);have n4_:=mk0 (j1j BK111.out);have n5_:=mk0 (j1j BK122.out);have n6_:=mk0 (j1t HB.out);clear HO106;clear HO109;clear HO117;clear HO120;clear BK111;clear BK122;clear HB;have HO106:=n0_;have HO109:=n1_;have HO117:=n2_;have HO120:=n3_;have BK111:=n4_;have BK122:=n5_;have HB:=n6_;clear n0_ n1_ n2_ n3_ n4_ n5_ n6_;refine start_ (n:=19) (S:=fun w'=>w'.cell? ⟨gb111,0,none⟩=some (.int .i64 t101)∧w'.cell? ⟨gb111,1,none⟩=some (.int .i64 t102)∧w'.cell? ⟨gb111,2,none⟩=some (.int .i64 t103)∧w'.cell? ⟨gb111,3,none⟩=some (.slice Ao23 t104.length co23)∧w'.cell? ⟨gb111,4,none⟩=some (.slice Ao24 t107.length co24)∧w'.cell? ⟨gb122,0,none⟩=some (.int .i64 t112)∧w'.cell? ⟨gb122,1,none⟩=some (.int .i64 t113)∧w'.cell? ⟨gb122,2,none⟩=some (.int .i64 t114)∧w'.cell? ⟨gb122,3,none⟩=some (.slice Ao29 t115.length co29)∧w'.cell? ⟨gb122,4,none⟩=some (.slice Ao30 t118.length co30)) (ds:=[]) #[false,false,false,false,false,false,false,false,false,false,false,false,false,false,false,false,false,false,false] zq23 rfl rfl ⟨(j1b BK111.out 0).trans rfl,(j1b BK111.out 1).trans rfl,(j1b BK111.out 2).trans rfl,(j1b BK111.out 3).trans rfl,(j1b BK111.out 4).trans rfl,(j1b BK122.out 0).trans rfl,(j1b BK122.out 1).trans rfl,(j1b BK122.out 2).trans rfl,(j1b BK122.out 3).trans rfl,(j1b BK122.out 4).trans rfl⟩ (fun hHeld=>?_);refine j3l j1v.tab10 j1v.bits10 (fun HT_ HW_=>?_)
   generalize w31.drew=w32 at HO106 HO109 HO117 HO120 BK111 BK122 HB hHeld ⊢
   refine pure_ (i:=0) (N:=some 40) (v:=?_) (a':=?_) #[true,false,false,false,false,false,false,false,false,false,false,false,false,false,false,false,false,false,false] rfl rfl (j2e HT_.out zq23) (fun _ _ _ h=>h) (Or.inl ⟨by rfl,?_⟩) ?_ ?_;rotate_left
   ·exact zl3
   rotate_left
   ·exact zl0
   refine pure_ (i:=1) (N:=some 41) (v:=?_) (a':=?_) #[true,true,false,false,false,false,false,false,false,false,false,false,false,false,false,false,false,false,false] rfl rfl (j2e HT_.out zq23) (fun _ _ _ h=>h) (Or.inl ⟨by rfl,?_⟩) ?_ ?_;rotate_left
   ·exact zl3
   rotate_left
   ·exact zl0
   refine pure_ (i:=2) (N:=some 42) (v:=?_) (a':=?_) #[true,true,true,false,false,false,false,false,false,false,false,false,false,false,false,false,false,false,false] rfl rfl (j2e HT_.out zq23) (fun _ _ _ h=>h) (Or.inl ⟨by rfl,?_⟩) ?_ ?_;rotate_left
   ·exact zl3
   rotate_left
   ·exact zl0
   refine pure_ (i:=3) (N:=some 43) (v:=?_) (a':=?_) #[true,true,true,true,false,false,false,false,false,false,false,false,false,false,false,false,false,false,false] rfl rfl (j2e HT_.out zq23) (fun _ _ _ h=>h) (Or.inl ⟨by rfl,?_⟩) ?_ ?_;rotate_left
   ·exact zl3
   rotate_left
   ·exact zl0
   refine pure_ (i:=4) (N:=some 44) (v:=?_) (a':=?_) #[true,true,true,true,true,false,false,false,false,false,false,false,false,false,false,false,false,false,false] rfl rfl (j2e HT_.out zq23) (fun _ _ _ h=>h) (Or.inl ⟨by rfl,?_⟩) ?_ ?_;rotate_left
   ·exact zl3
   rotate_left
   ·exact zl0
   refine take_ (i:=5) (N:=some 45) (v:=?_) (a':=?_) #[true,true,true,true,true,true,false,false,false,false,false,false,false,false,false,false,false,false,false] rfl rfl (j2w HT_.out HW_.out zq23) (fun _ _ _ h=>h) (Or.inl ⟨by rfl,?_⟩) hHeld ?_ ?_;rotate_left
   ·exact zl13
   rotate_left
   ·exact zl0
   refine take_ (i:=6) (N:=some 46) (v:=?_) (a':=?_) #[true,true,true,true,true,true,true,false,false,false,false,false,false,false,false,false,false,false,false] rfl rfl (j2w HT_.out HW_.out zq23) (fun _ _ _ h=>h) (Or.inl ⟨by rfl,?_⟩) hHeld ?_ ?_;rotate_left
   ·exact zl13
   rotate_left
   ·exact zl0
   refine one_ (i:=7) (N:=some 47) #[true,true,true,true,true,true,true,true,false,false,false,false,false,false,false,false,false,false,false] rfl rfl (one_of HT_.out zq23) zq50 (fun K hK=>?_);refine goes_ Try.func18 zq23 rfl #[.agg #[.int .i64 t101, .int .i64 t102, .int .i64 t103, .slice Ao23 t104.length co23, .slice Ao24 t107.length co24], .agg #[.int .i64 t112, .int .i64 t113, .int .i64 t114, .slice Ao29 t115.length co29, .slice Ao30 t118.length co30]] (by rfl) rfl rfl zq2 ?_;with_reducible refine (j1m.calls k1 t101 t102 t103 _ _ t104 _ _ t107 t112 t113 t114 _ _ t115 _ _ t118 true _ ?side1 ?side2 ?side3 ?side4 ?side5 ?side6 ?side7 ?side8 A16.out).mono ?_
   (case side1=>exact zq65);(case side2=>exact (Kd.R_reads' HO106.out).2.1);(case side3=>exact zq66);(case side4=>exact (Kd.R_reads' HO109.out).2.1);(case side5=>exact zq67);(case side6=>exact (Kd.R_reads' HO117.out).2.1);(case side7=>exact zq68);(case side8=>exact (Kd.R_reads' HO120.out).2.1);rintro e w33 ⟨rfl,hb⟩;refine ⟨_,rfl,?_⟩;have n0_:=mk0 (Kd.R_below zq38 hb);have n1_:=mk0 (Kd.R_below zq39 hb);have n2_:=mk0 (Kd.R_below zq47 hb);have n3_:=mk0 (Kd.R_below zq48 hb);have n4_:=mk0 (j2t (g:=gb111) (o := .cells #[.int .i64 t101, .int .i64 t102, .int .i64 t103, .slice Ao23 t104.length co23, .slice Ao24 t107.length co24] 34 (0,0)) zq25 hb);have n5_:=mk0 (j2t (g:=gb122) (o := .cells #[.int .i64 t112, .int .i64 t113, .int .i64 t114, .slice Ao29 t115.length co29, .slice Ao30 t118.length co30] 34 (0,0)) zq64 hb);have n6_:=mk0 (j2a zq52 hb);clear HO106;clear HO109;clear HO117;clear HO120;clear BK111;clear BK122;clear HB;have HO106:=n0_;have HO109:=n1_;have HO117:=n2_;have HO120:=n3_;have BK111:=n4_;have BK122:=n5_;have HB:=n6_;clear n0_ n1_ n2_ n3_ n4_ n5_ n6_;(try clear hb);(try clear hb2);(try clear hk);(try clear hi);refine hK.out _ _ ⟨(j1b BK111.out 0).trans rfl,(j1b BK111.out 1).trans rfl,(j1b BK111.out 2).trans rfl,(j1b BK111.out 3).trans rfl,(j1b BK111.out 4).trans rfl,(j1b BK122.out 0).trans rfl,(j1b BK122.out 1).trans rfl,(j1b BK122.out 2).trans rfl,(j1b BK122.out 3).trans rfl,(j1b BK122.out 4).trans rfl⟩ (fun hHeld=>?_);clear hK K;refine norm_ (a':=?_) ?_ ?_;rotate_left
   ·show Act.put _ (some 47) _=_
    exact zl0
   refine pure_ (i:=8) (N:=some 48) (v:=?_) (a':=?_) #[true,true,true,true,true,true,true,true,true,false,false,false,false,false,false,false,false,false,false] rfl rfl (j2e HT_.out zq23) (fun _ _ _ h=>h) (Or.inl ⟨by rfl,?_⟩) ?_ ?_;rotate_left
   ·exact zl3
   rotate_left
   ·exact zl0
   refine pure_ (i:=9) (N:=some 49) (v:=?_) (a':=?_) #[true,true,true,true,true,true,true,true,true,true,false,false,false,false,false,false,false,false,false] rfl rfl (j2e HT_.out zq23) (fun _ _ _ h=>h) (Or.inl ⟨by rfl,?_⟩) ?_ ?_;rotate_left
   ·exact zl3
   rotate_left
   ·exact zl0
   refine pure_ (i:=10) (N:=some 50) (v:=?_) (a':=?_) #[true,true,true,true,true,true,true,true,true,true,true,false,false,false,false,false,false,false,false] rfl rfl (j2e HT_.out zq23) (fun _ _ _ h=>h) (Or.inl ⟨by rfl,?_⟩) ?_ ?_;rotate_left
   ·exact zl3
   rotate_left
   ·exact zl0
   refine pure_ (i:=13) (N:=some 53) (v:=?_) (a':=?_) #[true,true,true,true,true,true,true,true,true,true,true,false,false,true,false,false,false,false,false] rfl rfl (j2e HT_.out zq23) (fun _ _ _ h=>h) (Or.inl ⟨by rfl,?_⟩) ?_ ?_;rotate_left
   ·exact zl3
   rotate_left
   ·exact zl0
   refine take_ (i:=11) (N:=some 51) (v:=?_) (a':=?_) #[true,true,true,true,true,true,true,true,true,true,true,true,false,true,false,false,false,false,false] rfl rfl (j2w HT_.out HW_.out zq23) (fun _ _ _ h=>h) (Or.inl ⟨by rfl,?_⟩) hHeld ?_ ?_;rotate_left
   ·exact zl13
   rotate_left
   ·exact zl0
   refine take_ (i:=14) (N:=some 54) (v:=?_) (a':=?_) #[true,true,true,true,true,true,true,true,true,true,true,true,false,true,true,false,false,false,false] rfl rfl (j2w HT_.out HW_.out zq23) (fun _ _ _ h=>h) (Or.inl ⟨by rfl,?_⟩) hHeld ?_ ?_;rotate_left
   ·exact zl13
   rotate_left
   ·exact zl0
   refine one_ (i:=12) (N:=some 52) #[true,true,true,true,true,true,true,true,true,true,true,true,true,true,true,false,false,false,false] rfl rfl (one_of HT_.out zq23) zq50 (fun K hK=>?_);refine goes_ Try.func19 zq23 rfl #[.string a0, .agg #[.int .i64 t101, .int .i64 t102, .int .i64 t103, .slice Ao23 t104.length co23, .slice Ao24 t107.length co24]] (by rfl) rfl rfl zq2 ?_;with_reducible refine (j2r.calls k1 a0 t101 t102 t103 _ _ t104 _ _ t107 t124 _ ?side1 ?side2 ?side3 ?side4 A18.out).mono ?_
   (case side1=>exact zq65);(case side2=>exact (Kd.R_reads' HO106.out).2.1);(case side3=>exact zq66);(case side4=>exact (Kd.R_reads' HO109.out).2.1);rintro e w34 ⟨rfl,hb⟩;refine ⟨_,rfl,?_⟩;have n0_:=mk0 (Kd.R_below zq38 hb);have n1_:=mk0 (Kd.R_below zq39 hb);have n2_:=mk0 (Kd.R_below zq47 hb);have n3_:=mk0 (Kd.R_below zq48 hb);have n4_:=mk0 (j2t (g:=gb111) (o := .cells #[.int .i64 t101, .int .i64 t102, .int .i64 t103, .slice Ao23 t104.length co23, .slice Ao24 t107.length co24] 34 (0,0)) zq25 hb);have n5_:=mk0 (j2t (g:=gb122) (o := .cells #[.int .i64 t112, .int .i64 t113, .int .i64 t114, .slice Ao29 t115.length co29, .slice Ao30 t118.length co30] 34 (0,0)) zq64 hb);have n6_:=mk0 (j2a zq52 hb);clear HO106;clear HO109;clear HO117;clear HO120;clear BK111;clear BK122;clear HB;have HO106:=n0_;have HO109:=n1_;have HO117:=n2_;have HO120:=n3_;have BK111:=n4_;have BK122:=n5_;have HB:=n6_;clear n0_ n1_ n2_ n3_ n4_ n5_ n6_;(try clear hb);(try clear hb2);(try clear hk);(try clear hi);refine hK.out _ _ ⟨(j1b BK111.out 0).trans rfl,(j1b BK111.out 1).trans rfl,(j1b BK111.out 2).trans rfl,(j1b BK111.out 3).trans rfl,(j1b BK111.out 4).trans rfl,(j1b BK122.out 0).trans rfl,(j1b BK122.out 1).trans rfl,(j1b BK122.out 2).trans rfl,(j1b BK122.out 3).trans rfl,(j1b BK122.out 4).trans rfl⟩ (fun hHeld=>?_);clear hK K;refine norm_ (a':=?_) ?_ ?_;rotate_left
   ·show Act.put _ (some 52) _=_
    exact zl0
   refine one_ (i:=15) (N:=some 55) #[true,true,true,true,true,true,true,true,true,true,true,true,true,true,true,true,false,false,false] rfl rfl (one_of HT_.out zq23) zq50 (fun K hK=>?_);refine goes_ Try.func19 zq23 rfl #[.string a1, .agg #[.int .i64 t112, .int .i64 t113, .int .i64 t114, .slice Ao29 t115.length co29, .slice Ao30 t118.length co30]] (by rfl) rfl rfl zq2 ?_;with_reducible refine (j2r.calls k1 a1 t112 t113 t114 _ _ t115 _ _ t118 t125 _ ?side1 ?side2 ?side3 ?side4 A19.out).mono ?_
   (case side1=>exact zq67);(case side2=>exact (Kd.R_reads' HO117.out).2.1);(case side3=>exact zq68);(case side4=>exact (Kd.R_reads' HO120.out).2.1);rintro e w35 ⟨rfl,hb⟩;refine ⟨_,rfl,?_⟩;have n0_:=mk0 (Kd.R_below zq38 hb);have n1_:=mk0 (Kd.R_below zq39 hb);have n2_:=mk0 (Kd.R_below zq47 hb);have n3_:=mk0 (Kd.R_below zq48 hb);have n4_:=mk0 (j2t (g:=gb111) (o := .cells #[.int .i64 t101, .int .i64 t102, .int .i64 t103, .slice Ao23 t104.length co23, .slice Ao24 t107.length co24] 34 (0,0)) zq25 hb);have n5_:=mk0 (j2t (g:=gb122) (o := .cells #[.int .i64 t112, .int .i64 t113, .int .i64 t114, .slice Ao29 t115.length co29, .slice Ao30 t118.length co30] 34 (0,0)) zq64 hb);have n6_:=mk0 (j2a zq52 hb);clear HO106;clear HO109;clear HO117;clear HO120;clear BK111;clear BK122;clear HB;have HO106:=n0_;have HO109:=n1_;have HO117:=n2_;have HO120:=n3_;have BK111:=n4_;have BK122:=n5_;have HB:=n6_;clear n0_ n1_ n2_ n3_ n4_ n5_ n6_;(try clear hb);(try clear hb2);(try clear hk);(try clear hi);refine hK.out _ _ ⟨(j1b BK111.out 0).trans rfl,(j1b BK111.out 1).trans rfl,(j1b BK111.out 2).trans rfl,(j1b BK111.out 3).trans rfl,(j1b BK111.out 4).trans rfl,(j1b BK122.out 0).trans rfl,(j1b BK122.out 1).trans rfl,(j1b BK122.out 2).trans rfl,(j1b BK122.out 3).trans rfl,(j1b BK122.out 4).trans rfl⟩ (fun hHeld=>?_);clear hK K;refine norm_ (a':=?_) ?_ ?_;rotate_left
   ·show Act.put _ (some 55) _=_
    exact zl0
   refine pure_ (i:=16) (N:=some 56) (v:=?_) (a':=?_) #[true,true,true,true,true,true,true,true,true,true,true,true,true,true,true,true,true,false,false] rfl rfl (j2e HT_.out zq23) (fun _ _ _ h=>h) (Or.inl ⟨by rfl,?_⟩) ?_ ?_;rotate_left
   ·exact zl3
   rotate_left
   ·exact zl0
   refine pure_ (i:=17) (N:=some 57) (v:=?_) (a':=?_) #[true,true,true,true,true,true,true,true,true,true,true,true,true,true,true,true,true,true,false] rfl rfl (j2e HT_.out zq23) (fun _ _ _ h=>h) (Or.inl ⟨by rfl,?_⟩) ?_ ?_;rotate_left
   ·exact zl3
   rotate_left
   ·exact zl0
   refine pure_ (i:=18) (N:=some 4) (v:=?_) (a':=?_) #[true,true,true,true,true,true,true,true,true,true,true,true,true,true,true,true,true,true,true] rfl rfl (j2e HT_.out zq23) (fun _ _ _ h=>h) (Or.inl ⟨by rfl,?_⟩) ?_ ?_;rotate_left
   ·exact zl3
   rotate_left
   ·exact zl0
   refine done_ (done_of HT_.out zq23) ?_
   try go_wp2
   go_ret;exact zl8
def j2y.f (k : Nat) (a0:ByteArray):Option (ByteArray):=prF k a0
theorem j2y.mono : ∀ a0 k,LeO (j2y.f k a0) (j2y.f (k+1) a0):=prF_mono
theorem j2y.calls (k : Nat) (a0:ByteArray) (r:ByteArray) (w:World) (h:j2y.f k a0=some r) :
 Calls Try.prog 8 #[.string a0] w fun e w'=>e = .returned (.string r)∧Below w.heap.size w w':=prspec0_calls k a0 r w h
def laws_FnPrSpecInPlace.f (k : Nat) (a0:ByteArray):Option (Bool):=if (a0.size:Int)>2147483647 then (some true) else (if (a0.size:Int)>4096 then (some true) else ((j2p.f k a0).bind fun bt101=>(if bt101.2=true then ((j2l.f k a0).bind fun t103=>((j1v.f k t103 bt101.1).bind fun t104=>(if t104=true then ((j2y.f k a0).bind fun t105=>(some (t103.toList == t105.toList))) else (some false)))) else (some true))))
theorem laws_FnPrSpecInPlace.mono : ∀ a0 k,LeO (laws_FnPrSpecInPlace.f k a0) (laws_FnPrSpecInPlace.f (k+1) a0):=by
 intro a0 k;unfold laws_FnPrSpecInPlace.f
 exact zm
set_option maxHeartbeats 8000000 in
set_option maxRecDepth 100000 in
theorem laws_FnPrSpecInPlace.calls (k : Nat) (a0:ByteArray) (r:Bool) (w:World) (h:laws_FnPrSpecInPlace.f k a0=some r) :
 Calls Try.prog 3 #[.string a0] w fun e w'=>e = .returned (.bool r)∧Below w.heap.size w w':=by
 have HB:=mk0 (Below.refl w.heap.size w);have H:(if (a0.size:Int)>2147483647 then (some true) else (if (a0.size:Int)>4096 then (some true) else ((j2p.f k a0).bind fun bt101=>(if bt101.2=true then ((j2l.f k a0).bind fun t103=>((j1v.f k t103 bt101.1).bind fun t104=>(if t104=true then ((j2y.f k a0).bind fun t105=>(some (t103.toList == t105.toList))) else (some false)))) else (some true)))))=some r:=h;clear h;by_cases c2:(a0.size:Int)>2147483647
 ·rw [if_pos c2] at H;have c2b0:decide (2147483647<(a0.size:Int))=true:=decide_eq_true c2;have c2b1:decide (2147483647<a0.size)=true:=decide_eq_true (by omega);clear c2;obtain rfl:=Option.some.inj H;go_enter Try.func3,Try.ntmps3;go_wp2;go_ret;exact ⟨by first|rfl|(simp [j2o,j2n]<;>rfl)|(simp [*, j2o,j2n]<;>rfl),by repeat (first|(with_reducible first|exact HB.out|apply j1s|apply j1q|apply j1t)|exact HB.out)⟩
 rw [if_neg c2] at H;have c2b0:decide (2147483647<(a0.size:Int))=false:=decide_eq_false c2;have c2b1:decide (2147483647<a0.size)=false:=decide_eq_false (by omega);clear c2;by_cases c3:(a0.size:Int)>4096
 ·rw [if_pos c3] at H;have c3b0:decide (4096<(a0.size:Int))=true:=decide_eq_true c3;have c3b1:decide (4096<a0.size)=true:=decide_eq_true (by omega);clear c3;obtain rfl:=Option.some.inj H;go_enter Try.func3,Try.ntmps3;go_wp2;go_ret;exact ⟨by first|rfl|(simp [j2o,j2n]<;>rfl)|(simp [*, j2o,j2n]<;>rfl),by repeat (first|(with_reducible first|exact HB.out|apply j1s|apply j1q|apply j1t)|exact HB.out)⟩
 rw [if_neg c3] at H;have c3b0:decide (4096<(a0.size:Int))=false:=decide_eq_false c3;have c3b1:decide (4096<a0.size)=false:=decide_eq_false (by omega);clear c3;replace H:=Option.bind_eq_some_iff.mp H;obtain ⟨⟨t101,t102⟩,A40,H⟩:=H;replace H:(if t102=true then ((j2l.f k a0).bind fun t103=>((j1v.f k t103 t101).bind fun t104=>(if t104=true then ((j2y.f k a0).bind fun t105=>(some (t103.toList == t105.toList))) else (some false)))) else (some true))=some r:=H;have A4:=mk0 A40;clear A40;by_cases c5:t102=true
 rotate_left
 ·replace c5:=Bool.eq_false_iff.mpr c5;subst c5;have H1:(some true)=some r:=by rw [if_neg (show ¬ (false=true) by decide)] at H;exact H
  clear H;have H:=H1;clear H1;obtain rfl:=Option.some.inj H;go_enter Try.func3,Try.ntmps3;go_wp2_with (first|((with_reducible refine j1r (f:=5) rfl ?_);refine j2f (some 14) rfl rfl Try.func5 zq23 rfl #[.string a0] rfl zq2 ?_;(with_reducible refine (j2p.calls k a0 t101 false _ A4.out).mono ?_);rintro e w17 ⟨rfl,hb⟩;refine ⟨_,rfl,?_⟩;have n0_:=mk0 (j2a zq7 hb);clear HB;have HB:=n0_;clear n0_;(try clear hb);(try clear hb2);(try clear hk);(try clear hi)))
  go_ret;exact zl9
 subst c5;have H1:((j2l.f k a0).bind fun t103=>((j1v.f k t103 t101).bind fun t104=>(if t104=true then ((j2y.f k a0).bind fun t105=>(some (t103.toList == t105.toList))) else (some false))))=some r:=by rw [if_pos rfl] at H;exact H
 clear H;have H:=H1;clear H1;replace H:=Option.bind_eq_some_iff.mp H;obtain ⟨t103,A60,H⟩:=H;replace H:((j1v.f k t103 t101).bind fun t104=>(if t104=true then ((j2y.f k a0).bind fun t105=>(some (t103.toList == t105.toList))) else (some false)))=some r:=H;have A6:=mk0 A60;clear A60;replace H:=Option.bind_eq_some_iff.mp H;obtain ⟨t104,A70,H⟩:=H;replace H:(if t104=true then ((j2y.f k a0).bind fun t105=>(some (t103.toList == t105.toList))) else (some false))=some r:=H;have A7:=mk0 A70;clear A70;by_cases c8:t104=true
 rotate_left
 ·replace c8:=Bool.eq_false_iff.mpr c8;subst c8;have H1:(some false)=some r:=by rw [if_neg (show ¬ (false=true) by decide)] at H;exact H
  clear H;have H:=H1;clear H1;obtain rfl:=Option.some.inj H;go_enter Try.func3,Try.ntmps3;go_wp2_with (first|((with_reducible refine j1r (f:=5) rfl ?_);refine j2f (some 14) rfl rfl Try.func5 zq23 rfl #[.string a0] rfl zq2 ?_;(with_reducible refine (j2p.calls k a0 t101 true _ A4.out).mono ?_);rintro e w14 ⟨rfl,hb⟩;refine ⟨_,rfl,?_⟩;have n0_:=mk0 (j2a zq7 hb);clear HB;have HB:=n0_;clear n0_;(try clear hb);(try clear hb2);(try clear hk);(try clear hi))|((with_reducible refine j1r (f:=6) rfl ?_);refine j2f (some 20) rfl rfl Try.func6 zq23 rfl #[.string a0] rfl zq2 ?_;(with_reducible refine (j2l.calls k a0 t103 _ A6.out).mono ?_);rintro e w15 ⟨rfl,hb⟩;refine ⟨_,rfl,?_⟩;have n0_:=mk0 (j2a zq7 hb);clear HB;have HB:=n0_;clear n0_;(try clear hb);(try clear hb2);(try clear hk);(try clear hi))|((with_reducible refine j1r (f:=7) rfl ?_);refine j2f (some 23) rfl rfl Try.func7 zq23 rfl #[.string t103, .string t101] rfl zq2 ?_;(with_reducible refine (j1v.calls k t103 t101 false _ A7.out).mono ?_);rintro e w16 ⟨rfl,hb⟩;refine ⟨_,rfl,?_⟩;have n0_:=mk0 (j2a zq7 hb);clear HB;have HB:=n0_;clear n0_;(try clear hb);(try clear hb2);(try clear hk);(try clear hi)))
  go_ret;exact zl9
 subst c8;have H1:((j2y.f k a0).bind fun t105=>(some (t103.toList == t105.toList)))=some r:=by rw [if_pos rfl] at H;exact H
 clear H;have H:=H1;clear H1;replace H:=Option.bind_eq_some_iff.mp H;obtain ⟨t105,A90,H⟩:=H;replace H:(some (t103.toList == t105.toList))=some r:=H;have A9:=mk0 A90;clear A90;obtain rfl:=Option.some.inj H;go_enter Try.func3,Try.ntmps3;go_wp2_with (first|((with_reducible refine j1r (f:=5) rfl ?_);refine j2f (some 14) rfl rfl Try.func5 zq23 rfl #[.string a0] rfl zq2 ?_;(with_reducible refine (j2p.calls k a0 t101 true _ A4.out).mono ?_);rintro e w10 ⟨rfl,hb⟩;refine ⟨_,rfl,?_⟩;have n0_:=mk0 (j2a zq7 hb);clear HB;have HB:=n0_;clear n0_;(try clear hb);(try clear hb2);(try clear hk);(try clear hi))|((with_reducible refine j1r (f:=6) rfl ?_);refine j2f (some 20) rfl rfl Try.func6 zq23 rfl #[.string a0] rfl zq2 ?_;(with_reducible refine (j2l.calls k a0 t103 _ A6.out).mono ?_);rintro e w11 ⟨rfl,hb⟩;refine ⟨_,rfl,?_⟩;have n0_:=mk0 (j2a zq7 hb);clear HB;have HB:=n0_;clear n0_;(try clear hb);(try clear hb2);(try clear hk);(try clear hi))|((with_reducible refine j1r (f:=7) rfl ?_);refine j2f (some 23) rfl rfl Try.func7 zq23 rfl #[.string t103, .string t101] rfl zq2 ?_;(with_reducible refine (j1v.calls k t103 t101 true _ A7.out).mono ?_);rintro e w12 ⟨rfl,hb⟩;refine ⟨_,rfl,?_⟩;have n0_:=mk0 (j2a zq7 hb);clear HB;have HB:=n0_;clear n0_;(try clear hb);(try clear hb2);(try clear hk);(try clear hi))|(go_at_call 8;(with_reducible refine (j2y.calls k a0 t105 _ A9.out).mono ?_);rintro e w13 ⟨rfl,hb⟩;have n0_:=mk0 (j2a zq7 hb);clear HB;have HB:=n0_;clear n0_;(try clear hb);(try clear hb2);(try clear hk);(try clear hi)))
 go_ret;exact zl9
def laws_FnPrSpecInPlace.Pure : Prop := ∀ (a0:ByteArray),a0.size≤140737488351232→∃ k,laws_FnPrSpecInPlace.f k a0=some true
theorem laws_FnPrSpecInPlace.walk (P : laws_FnPrSpecInPlace.Pure) (a0:ByteArray) (w:World) (w0:a0.size≤140737488351232) :
 Calls Try.prog 3 #[.string a0] w fun e w'=>e = .returned (.bool true)∧Below w.heap.size w w':=by
 obtain ⟨k,h⟩:=P a0 w0;refine (laws_FnPrSpecInPlace.calls k a0 true w h).mono ?_;rintro e w' ⟨rfl,hd⟩;exact ⟨rfl,hd⟩
end Go.Proofs.Ytchhndbekjgimaa.S
end
section
namespace Go.Proofs.Ytchhndbekjgimaa.J
open Go.RowKit Go.Proofs.YtchhndbekjgimaaW.PrintWords Go.Proofs.YtchhndbekjgimaaW.PrintLast
theorem w64 {x : Int} (h : -9223372036854775808≤x∧x≤9223372036854775807):wrap64 x=x:=by
 unfold wrap64;omega
theorem Ev_same {α : Type} {g:Nat→Option α} {r r':α} (h:Ev g r) (e:r=r'):Ev g r':=e ▸ h
def From (s : ByteArray) (i:Nat) (l:List Int):Prop:=i≤s.size∧(bytesOf s).drop i=l
theorem From.len {s : ByteArray} {i:Nat} {l:List Int} (h:From s i l):i+l.length=s.size:=by
 have h1:=h.1;rw [← h.2,List.length_drop,bytesOf_length];omega
theorem From.start (s : ByteArray):From s 0 (bytesOf s):=⟨Nat.zero_le _,rfl⟩
theorem From.at {s : ByteArray} {i:Nat} (h:i≤s.size):From s i ((bytesOf s).drop i):=⟨h,rfl⟩
theorem From.drop {s : ByteArray} {i:Nat} {l:List Int} (h:From s i l) (n:Nat) (hn:n≤l.length):From s (i+n) (l.drop n):=by
 have:=h.len;exact ⟨by omega,by rw [← h.2,List.drop_drop]⟩
theorem From.app {s : ByteArray} {i:Nat} {a l:List Int} (h:From s i (a++l)):From s (i+a.length) l:=by
 have:=h.drop a.length (by simp)
 simpa using this
theorem From.tail {s : ByteArray} {i:Nat} {a:Int} {l:List Int} (h:From s i (a :: l)):From s (i+1) l:=by
 have:=h.drop 1 (by simp)
 simpa using this
theorem From.lt {s : ByteArray} {i:Nat} {a:Int} {l:List Int} (h:From s i (a :: l)):i<s.size:=by
 have:=h.len;simp at this;omega
theorem From.bt {s : ByteArray} {i:Nat} {a:Int} {l:List Int} (h:From s i (a :: l)):bt s (i:Int)=a:=by
 have h1:(bytesOf s)[i]? = some a:=by
  have:=congrArg (·[0]?) h.2
  simpa using this
 rw [← rd_bytesOf];unfold rd;simp [List.getD_eq_getElem?_getD,h1]
theorem From.nil {s : ByteArray} {i:Nat} (h:From s i []):i=s.size:=by
 have:=h.len
 simpa using this
theorem From.same {s : ByteArray} {i:Nat} {l l':List Int} (h:From s i l) (h':From s i l'):l=l':=h.2.symm.trans h'.2
theorem bytesOf_range (s : ByteArray):∀ a ∈ bytesOf s,0≤a∧a≤255:=by
 intro a ha;unfold bytesOf at ha;rw [List.mem_map] at ha;obtain ⟨b,_,rfl⟩:=ha;have:=b.toNat_lt;omega
theorem From.range {s : ByteArray} {i:Nat} {l:List Int} (h:From s i l):∀ a ∈ l,0≤a∧a≤255:=by
 intro a ha;rw [← h.2] at ha;exact bytesOf_range s a (List.mem_of_mem_drop ha)
theorem From.head {s : ByteArray} {i:Nat} {a:Int} {l:List Int} (h:From s i (a :: l)):0≤a∧a≤255:=h.range a (by simp)
theorem bytesOf_extract (s : ByteArray) (i j:Nat):bytesOf (s.extract i j)=((bytesOf s).take j).drop i:=by
 unfold bytesOf;rw [ByteArray.data_extract,Array.toList_extract,List.extract_eq_take_drop,List.map_take,List.map_drop,List.drop_take]
theorem From.extract {s : ByteArray} {i:Nat} {a l:List Int} (h:From s i (a++l)):bytesOf (s.extract i (i+a.length))=a:=by
 rw [bytesOf_extract,List.drop_take,h.2];simp
theorem bytesOf_strOfNums (l : List Int) (h:∀ a ∈ l,0≤a∧a≤255):bytesOf (strOfNums l)=l:=by
 unfold bytesOf;rw [strOfNums_data,List.map_map]
 conv=>rhs;rw [← List.map_id l]
 apply List.map_congr_left;intro a ha;have:=h a ha;simp only [Function.comp,id];rw [show (UInt8.ofNat a.toNat).toNat=a.toNat % 256 from UInt8.toNat_ofNat ..];omega
theorem strOfNums_bytesOf (s : ByteArray):strOfNums (bytesOf s)=s:=by
 apply ByteArray.ext;apply Array.toList_inj.mp;rw [strOfNums_data];unfold bytesOf;rw [List.map_map]
 conv=>rhs;rw [← List.map_id s.data.toList]
 apply List.map_congr_left;intro b _;simp [Function.comp]
theorem bytesOf_inj {s t : ByteArray} (h:bytesOf s=bytesOf t):s=t:=by
 rw [← strOfNums_bytesOf s,h,strOfNums_bytesOf]
theorem toList_inj {s t : ByteArray} (h:s.toList=t.toList):s=t:=by
 rw [ByteArray.toList_eq,ByteArray.toList_eq] at h
 exact ByteArray.ext (Array.toList_inj.mp h)
def isB (c : Int):Bool:=decide (c=32∨c=9∨c=10∨c=13)
def skB : List Int→List Int
  | []=>[]
  | c :: r=>if isB c=true then skB r else c :: r
theorem j3b : ∀ l,(skB l).length≤l.length
 | []=>Nat.le_refl _
 | c :: r=>by
  unfold skB;split
  ·have:=j3b r
   simp;omega
  ·exact Nat.le_refl _
theorem skB_ex : ∀ l,∃ b,(∀ a ∈ b,isB a=true)∧l=b++skB l
 | []=>⟨[],by simp,rfl⟩
 | c :: r=>by
  unfold skB;split
  ·rename_i h;obtain ⟨b,hb,e⟩:=skB_ex r;exact ⟨c :: b,by simp [h];exact hb,by rw [List.cons_append,← e]⟩
  ·exact ⟨[],by simp,rfl⟩
theorem skB_app : ∀ (b l:List Int),(∀ a ∈ b,isB a=true)→skB (b++l)=skB l
 | [],_,_=>rfl
 | c :: r,l,h=>by
  rw [List.cons_append,skB,if_pos (h c (by simp))];exact skB_app r l (fun a ha=>h a (by simp [ha]))
theorem j3h {c : Int} {r:List Int} (h:isB c=false):skB (c :: r)=c :: r:=by
 rw [skB,if_neg (by simp [h])]
def hexv (c : Int):Option Int:=if 48≤c∧c≤57 then some (c - 48) else if 97≤c∧c≤102 then some (c - 87) else if 65≤c∧c≤70 then some (c - 55) else none
def hex4 : List Int→Option Int
  | a :: b :: c :: d :: _=>(hexv a).bind fun x=>(hexv b).bind fun y=>(hexv c).bind fun z=>(hexv d).bind fun u=>some (((x*16+y)*16+z)*16+u)
  | _=>none
theorem hex4_len {l : List Int} {v:Int} (h:hex4 l=some v):4≤l.length:=by
 unfold hex4 at h
 split at h
 ·simp
 ·cases h
def isE (c : Int):Bool:=decide (c=34∨c=92∨c=47∨c=98∨c=102∨c=110∨c=114∨c=116)
def escL : List Int→Option (List Int)
  | []=>none
  | c :: r=>if isE c=true then some r else if c=117 then (hex4 r).bind fun _=>some (r.drop 4) else none
theorem escL_len {l r : List Int} (h:escL l=some r):r.length<l.length:=by
 unfold escL at h
 split at h
 ·cases h
 ·split at h
  ·cases h;simp
  ·split at h
   ·obtain ⟨v,hv,h⟩:=Option.bind_eq_some_iff.mp h;have:=hex4_len hv;cases h;simp;omega
   ·cases h
def strL (l : List Int):Option (List Int) :=
  match l with
  | []=>none
  | c :: r=>if c=34 then some r else if c<32 then none else if c=92 then (match _h:escL r with
    | none=>none
    | some r'=>strL r') else strL r
termination_by l.length
decreasing_by
  · have:=escL_len ‹_›
    simp;omega
  · simp
theorem strL_nil : strL []=none:=by rw [strL]
theorem strL_end (r : List Int):strL (34 :: r)=some r:=by rw [strL,if_pos rfl]
theorem strL_low {c : Int} (r:List Int) (h:c<32):strL (c :: r)=none:=by
 rw [strL,if_neg (by omega),if_pos h]
theorem strL_esc (r : List Int):strL (92 :: r)=(escL r).bind strL:=by
 rw [strL,if_neg (by omega),if_neg (by omega),if_pos rfl];split
 ·rename_i h;rw [h];rfl
 ·rename_i r' h;rw [h];rfl
theorem strL_raw {c : Int} (r:List Int) (h:c≠34∧¬ c<32∧c≠92):strL (c :: r)=strL r:=by
 rw [strL,if_neg h.1,if_neg h.2.1,if_neg h.2.2]
theorem strL_len : ∀ (n:Nat) (l r:List Int),l.length≤n→strL l=some r→r.length<l.length
 | _,[],r,_,h=>by rw [strL_nil] at h;cases h
 | 0,c :: l,r,hn,h=>by simp at hn
 | n+1,c :: l,r,hn,h=>by
  simp only [List.length_cons] at hn ⊢;by_cases h1:c=34
  ·subst h1;rw [strL_end] at h
   cases h;omega
  by_cases h2:c<32
  ·rw [strL_low _ h2] at h
   cases h
  by_cases h3:c=92
  rotate_left
  ·rw [strL_raw _ ⟨h1,h2,h3⟩] at h
   have:=strL_len n l r (by omega) h;omega
  subst h3;rw [strL_esc] at h
  obtain ⟨r',h4,h5⟩:=Option.bind_eq_some_iff.mp h;have:=escL_len h4;have:=strL_len n r' r (by omega) h5;omega
inductive Body : List Int→Prop
  | nil:Body []
  | raw {c:Int} {l:List Int}:c≠34→¬ c<32→c≠92→Body l→Body (c :: l)
  | two {b:Int} {l:List Int}:isE b=true→Body l→Body (92 :: b :: l)
  | six {a b c d v:Int} {l:List Int}:hex4 (a :: b :: c :: d :: l)=some v→Body l→Body (92 :: 117 :: a :: b :: c :: d :: l)
theorem hex4_more {a b c d:Int} (l l':List Int):hex4 (a :: b :: c :: d :: l)=hex4 (a :: b :: c :: d :: l'):=rfl
theorem isE_117 : isE 117=false:=by decide
theorem escL_let {b : Int} (l:List Int) (h:isE b=true):escL (b :: l)=some l:=by
 rw [escL,if_pos h]
theorem escL_hex {a b c d v:Int} {l:List Int} (h:hex4 (a :: b :: c :: d :: l)=some v):escL (117 :: a :: b :: c :: d :: l)=some l:=by
 rw [escL,if_neg (by simp [isE_117]),if_pos rfl,h];rfl
theorem strL_body {b : List Int} (h:Body b) (r:List Int):strL (b++34 :: r)=some r:=by
 induction h with
 | nil=>exact strL_end r
 | raw h1 h2 h3 _ ih=>rw [List.cons_append,strL_raw _ ⟨h1,h2,h3⟩,ih]
 | two h1 _ ih=>rw [List.cons_append,List.cons_append,strL_esc,escL_let _ h1];exact ih
 | six h1 _ ih =>
  simp only [List.cons_append];rw [strL_esc,escL_hex (v:=by assumption) ((hex4_more _ _).trans h1)];exact ih
theorem escL_ex {l r : List Int} (h:escL l=some r):(∃ b,isE b=true∧l=b :: r)∨∃ a b c d v,hex4 (a :: b :: c :: d :: r)=some v∧l=117 :: a :: b :: c :: d :: r:=by
 unfold escL at h
 split at h
 ·cases h
 ·rename_i c l;split at h
  ·cases h;exact .inl ⟨_,by assumption,rfl⟩
  ·split at h
   ·obtain ⟨v,hv,h⟩:=Option.bind_eq_some_iff.mp h;cases h;subst c
    match l,hv with
    | a :: b :: c :: d :: l,hv=>exact .inr ⟨a,b,c,d,v,hv,rfl⟩
   ·cases h
theorem body_strL : ∀ (n:Nat) {l r:List Int},l.length≤n→strL l=some r→∃ b,Body b∧l=b++34 :: r
 | _,[],r,_,h=>by rw [strL_nil] at h;cases h
 | 0,c :: l,r,hn,h=>by simp at hn
 | n+1,c :: l,r,hn,h=>by
  simp only [List.length_cons] at hn;by_cases h1:c=34
  ·subst h1;rw [strL_end] at h
   cases h;exact ⟨[], .nil,rfl⟩
  by_cases h2:c<32
  ·rw [strL_low _ h2] at h
   cases h
  by_cases h3:c=92
  rotate_left
  ·rw [strL_raw _ ⟨h1,h2,h3⟩] at h
   obtain ⟨t,ht,e⟩:=body_strL n (by omega) h;exact ⟨c :: t, .raw h1 h2 h3 ht,by rw [e];rfl⟩
  subst h3;rw [strL_esc] at h
  obtain ⟨r',h4,h5⟩:=Option.bind_eq_some_iff.mp h;have:=escL_len h4;obtain ⟨t,ht,e⟩:=body_strL n (by omega) h5;rcases escL_ex h4 with ⟨b,hb,rfl⟩|⟨a,b,c,d,v,hv,rfl⟩
  ·exact ⟨92 :: b :: t, .two hb ht,by rw [e];rfl⟩
  ·subst e;exact ⟨92 :: 117 :: a :: b :: c :: d :: t, .six ((hex4_more _ _).trans hv) ht,rfl⟩
theorem strL_iff {l r : List Int}:strL l=some r↔∃ b,Body b∧l=b++34 :: r :=
 ⟨fun h=>body_strL _ (Nat.le_refl _) h,fun ⟨_,hb,e⟩=>e ▸ strL_body hb r⟩
end Go.Proofs.Ytchhndbekjgimaa.J
end
section
namespace Go.Proofs.Ytchhndbekjgimaa.J
open Go.RowKit Go.Proofs.Ytchhndbekjgimaa.S Go.Proofs.YtchhndbekjgimaaW.PrintWords Go.Proofs.YtchhndbekjgimaaW.PrintLast

theorem hexDigit_eq {c : Int} (h:0≤c∧c≤255):Ev (fun k=>j1x.f k c) ((hexv c).getD 0,(hexv c).isSome):=by
 refine ⟨2,fun k hk=>?_⟩;obtain ⟨k,rfl⟩:∃ m,k=m+2:=⟨k - 2,by omega⟩;unfold j1x.f hexv;simp only [j1x.j0,j1x.j1];by_cases h1:48≤c∧c≤57
 ·rw [if_pos h1.1,if_pos zq86,if_pos h1]
  simp;omega
 rw [if_neg h1]
 have key:(if 97≤c then (if decide (c≤102)=true then some ((c - 97) % 256+10,true) else if 65≤c then if c≤70 then some ((c - 65) % 256+10,true) else some (0,false) else some (0,false))
  else (if false=true then some ((c - 97) % 256+10,true) else if 65≤c then if c≤70 then some ((c - 65) % 256+10,true) else some (0,false) else some (0,false))) =
  some (((if 97≤c∧c≤102 then some (c - 87) else if 65≤c∧c≤70 then some (c - 55) else none:Option Int).getD 0,(if 97≤c∧c≤102 then some (c - 87) else if 65≤c∧c≤70 then some (c - 55) else none:Option Int).isSome)):=by
  by_cases h2:97≤c∧c≤102
  ·rw [if_pos h2.1,if_pos zq86,if_pos h2]
   simp;omega
  rw [if_neg h2];by_cases h3:65≤c∧c≤70
  ·rw [if_neg (by omega),if_neg (by simp),if_pos h3.1,if_pos h3.2,if_pos h3]
   simp;omega
  rw [if_neg h3];by_cases h4:97≤c
  ·rw [if_pos h4,if_neg zq86,if_pos (by omega),if_neg (by omega)];rfl
  rw [if_neg h4,if_neg (by simp)];by_cases h5:65≤c
  rotate_left
  ·rw [if_neg h5];rfl
  rw [if_pos h5,if_neg (by omega)];rfl
 by_cases h6:48≤c
 rotate_left
 ·rw [if_neg h6,if_neg (by simp)];exact key
 rw [if_pos h6,if_neg zq86];exact key
theorem here_cons {s : ByteArray} {i:Nat} {a:Int} {l:List Int} (h:From s i (a :: l)):j1y.f s (i:Int)=some (a,s,(i:Int)):=by
 have:=h.lt;unfold j1y.f;rw [if_pos (by omega),if_pos (by omega),h.bt]
theorem here_nil {s : ByteArray} {i:Nat} (h:From s i []):j1y.f s (i:Int)=some (0,s,(i:Int)):=by
 have:=h.nil;unfold j1y.f;rw [if_neg (by omega)]
theorem up {i n : Nat} (k:Nat) (h:i≤n) (hn:n≤140737488351232) (hk:k≤100):wrap64 ((i:Int)+(k:Int))=((i+k:Nat):Int):=by
 rw [w64 (by omega)];omega
theorem up1 {i n : Nat} (h:i≤n) (hn:n≤140737488351232):wrap64 ((i:Int)+1)=((i+1:Nat):Int):=up 1 h hn (by omega)
def hexs : Nat → List Int→Bool
  | 0,_=>true
  | _+1,[]=>false
  | n+1,a :: r=>(hexv a).isSome && hexs n r
theorem hex4_hexs (l : List Int):(hex4 l).isSome=hexs 4 l:=by
 match l with
 | []=>rfl
 | [a]=>simp [hex4,hexs]
 | [a,b]=>simp [hex4,hexs]
 | [a,b,c]=>simp [hex4,hexs]
 | a :: b :: c :: d :: r =>
  simp only [hex4,hexs];cases hexv a<;>cases hexv b<;>cases hexv c<;>cases hexv d<;>rfl
section
variable {s : ByteArray} (hs:s.size≤140737488351232)
include hs
theorem esc_l0 : ∀ (n:Nat) (i:Nat) (l:List Int),n≤4→From s i l →
 (hexs n l=true→Ev (fun k=>j1g.l0 k (((4 - n:Nat):Int)) s i) (true,s,((i+n:Nat):Int))) ∧
 (hexs n l=false→∃ p,Ev (fun k=>j1g.l0 k (((4 - n:Nat):Int)) s i) (false,s,p))
 | 0,i,l,_,h=>⟨fun _=>Ev.step (f:=fun _=>some (true,s,(i:Int))) (fun k=>by simp only [j1g.l0];rw [if_neg (by omega)]) (Ev.now _),fun h=>by simp [hexs] at h⟩
 | n+1,i,[],hn,h=>by
  refine ⟨fun e=>by simp [hexs] at e,fun _=>⟨(i:Int),?_⟩⟩;refine Ev.step (f:=fun k=>(j1x.f k 0).bind fun bt107=>(if bt107.2=true then (j1g.l0 k (wrap64 ((((4 - (n+1):Nat):Int))+1)) s (wrap64 ((i:Int)+1))) else some (false,s,(i:Int)))) (fun k=>?_) (Ev.bind (hexDigit_eq (by omega)) (Ev.congr (fun k=>if_neg (by simp [hexv])) (Ev.now _)));simp only [j1g.l0];rw [if_pos (by omega),here_nil h];rfl
 | n+1,i,a :: l,hn,h=>by
  have ih:=esc_l0 n (i+1) l (by omega) h.tail;have e1:wrap64 ((((4 - (n+1):Nat):Int))+1)=(((4 - n:Nat):Int)):=by rw [w64 (by omega)];omega
  have e2:=up1 (Nat.le_of_lt h.lt) hs
  have st:∀ R,Ev (fun k=>if (hexv a).isSome=true then (j1g.l0 k (((4 - n:Nat):Int)) s ((i+1:Nat):Int)) else some (false,s,(i:Int))) R→Ev (fun k=>j1g.l0 k (((4 - (n+1):Nat):Int)) s i) R:=fun R hR=>by
   refine Ev.step (f:=fun k=>(j1x.f k a).bind fun bt107=>(if bt107.2=true then (j1g.l0 k (((4 - n:Nat):Int)) s ((i+1:Nat):Int)) else some (false,s,(i:Int)))) (fun k=>?_) (Ev.bind (hexDigit_eq h.head) hR);simp only [j1g.l0];rw [if_pos (by omega),here_cons h,e1];simp only [Option.bind_some,e2]
  by_cases ha:(hexv a).isSome=true
  rotate_left
  ·exact ⟨fun e=>by simp [hexs,ha] at e,fun _=>⟨_,st _ (Ev.congr (fun k=>if_neg ha) (Ev.now _))⟩⟩
  refine ⟨fun e=>?_,fun e=>?_⟩
  ·simp only [hexs,Bool.and_eq_true] at e;have:=st _ (Ev.congr (fun k=>if_pos ha) (ih.1 e.2))
   rwa [show i+1+n=i+(n+1) by omega] at this
  ·rw [hexs,ha,Bool.true_and] at e;obtain ⟨p,hp⟩:=ih.2 e;exact ⟨p,st _ (Ev.congr (fun k=>if_pos ha) hp)⟩
theorem escape_eq {i : Nat} {l:List Int} (h:From s i l) :
 (∀ r,escL l=some r→Ev (fun k=>j1g.f k s i) (true,s,((s.size - r.length:Nat):Int))) ∧
 (escL l=none→∃ p,Ev (fun k=>j1g.f k s i) (false,s,p)):=by
 have j0:∀ a x,x=isE a→Ev (fun k=>j1g.j0 k a x s i)=Ev (fun k=>if isE a=true then some (true,s,wrap64 ((i:Int)+1)) else if a=117 then j1g.l0 (k - 1) 0 s (wrap64 ((i:Int)+1)) else some (false,s,(i:Int))):=by
  intro a x e;subst e
  funext R
  apply propext
  constructor
  ·rintro ⟨K,hK⟩;refine ⟨K+1,fun k hk=>?_⟩;obtain ⟨k,rfl⟩:∃ m,k=m+1:=⟨k - 1,by omega⟩;have:=hK (k+1) (by omega)
   simpa only [j1g.j0,Nat.add_sub_cancel] using this
  ·rintro ⟨K,hK⟩;refine ⟨K+1,fun k hk=>?_⟩;obtain ⟨k,rfl⟩:∃ m,k=m+1:=⟨k - 1,by omega⟩;have:=hK (k+1) (by omega)
   simpa only [j1g.j0,Nat.add_sub_cancel] using this
 have sh:∀ {g:Nat→Option (Bool × ByteArray × Int)} {R},Ev g R→Ev (fun k=>g (k - 1)) R:=by
  rintro g R ⟨K,hK⟩;exact ⟨K+1,fun k hk=>hK _ (by omega)⟩
 match l,h with
 | [],h =>
  refine ⟨fun r hr=>by simp [escL] at hr,fun _=>⟨(i:Int),?_⟩⟩;refine Ev.congr (f:=fun k=>j1g.j0 k 0 ((0:Int) == 116) s i) (fun k=>?_) ?_
  ·unfold j1g.f;rw [here_nil h];rfl
  ·rw [j0 0 _ zq50];exact Ev.congr (fun k=>by rw [if_neg zq50,if_neg zq50]) (Ev.now _)
 | a :: l,h =>
  have e2:=up1 (Nat.le_of_lt h.lt) hs;have hl:=h.len;simp only [List.length_cons] at hl
  have key:Ev (fun k=>j1g.f k s i)=Ev (fun k=>j1g.j0 k a (isE a) s i):=by
   congr 1
   funext k
   unfold j1g.f;rw [here_cons h];simp only [Option.bind_some,isE];by_cases h1:a=34
   ·rw [if_pos h1,h1];rfl
   rw [if_neg h1];by_cases h2:a=92
   ·rw [if_pos h2,h2];rfl
   rw [if_neg h2];by_cases h3:a=47
   ·rw [if_pos h3,h3];rfl
   rw [if_neg h3];by_cases h4:a=98
   ·rw [if_pos h4,h4];rfl
   rw [if_neg h4];by_cases h5:a=102
   ·rw [if_pos h5,h5];rfl
   rw [if_neg h5];by_cases h6:a=110
   ·rw [if_pos h6,h6];rfl
   rw [if_neg h6];by_cases h7:a=114
   ·rw [if_pos h7,h7];rfl
   rw [if_neg h7]
   congr 1
   rw [Bool.eq_iff_iff];simp;omega
  rw [key,j0 a _ rfl];by_cases h1:isE a=true
  ·refine ⟨fun r hr=>?_,fun hr=>(by rw [escL_let _ h1] at hr;cases hr)⟩;rw [escL_let _ h1] at hr;cases hr;refine Ev.congr (fun k=>if_pos h1) (Ev_same (Ev.now _) ?_);rw [e2,show i+1=s.size - l.length by omega]
  by_cases h2:a=117
  rotate_left
  ·refine ⟨fun r hr=>(by rw [escL,if_neg h1,if_neg h2] at hr;cases hr),fun _=>⟨(i:Int),Ev.congr (fun k=>by rw [if_neg h1,if_neg h2]) (Ev.now _)⟩⟩
  subst h2;have hh:=esc_l0 hs 4 (i+1) l (by omega) h.tail;refine ⟨fun r hr=>?_,fun hr=>?_⟩
  ·rw [escL,if_neg h1,if_pos rfl] at hr;obtain ⟨v,hv,hr⟩:=Option.bind_eq_some_iff.mp hr;cases hr;have h4:hexs 4 l=true:=by rw [← hex4_hexs,hv];rfl
   have hlen:=hex4_len hv;refine Ev.congr (f:=fun k=>j1g.l0 (k - 1) 0 s ((i+1:Nat):Int)) (fun k=>by rw [if_neg h1,if_pos rfl,e2]) (Ev_same (sh (hh.1 h4)) ?_);rw [show i+1+4=s.size - (l.drop 4).length by rw [List.length_drop];omega]
  ·rw [escL,if_neg h1,if_pos rfl] at hr
   have h4:hexs 4 l=false:=by
    rw [← hex4_hexs];cases hv:hex4 l with
    | none=>rfl
    | some v=>rw [hv] at hr;cases hr
   obtain ⟨p,hp⟩:=hh.2 h4;exact ⟨p,Ev.congr (f:=fun k=>j1g.l0 (k - 1) 0 s ((i+1:Nat):Int)) (fun k=>by rw [if_neg h1,if_pos rfl,e2]) (sh hp)⟩
theorem quoted_l0 : ∀ (n i:Nat) (l:List Int),l.length≤n→From s i l →
 (∀ r,strL l=some r→Ev (fun k=>j1p.l0 k s i) (true,s,((s.size - r.length:Nat):Int))) ∧
 (strL l=none→∃ p,Ev (fun k=>j1p.l0 k s i) (false,s,p))
 | n,i,[],_,h=>by
  have:=h.nil;refine ⟨fun r hr=>(by rw [strL_nil] at hr;cases hr),fun _=>⟨(i:Int),Ev.step (f:=fun _=>some (false,s,(i:Int))) (fun k=>?_) (Ev.now _)⟩⟩;simp only [j1p.l0];rw [if_neg (by omega)]
 | 0,i,c :: l,hn,h=>by simp at hn
 | n+1,i,c :: l,hn,h=>by
  simp only [List.length_cons] at hn;have hl:=h.len;simp only [List.length_cons] at hl;have e2:=up1 (Nat.le_of_lt h.lt) hs
  have st:∀ k,j1p.l0 (k+1) s i=(if c=34 then (some (true,s,((i+1:Nat):Int))) else (if c<32 then (some (false,s,((i+1:Nat):Int))) else (if c=92 then ((j1g.f k s ((i+1:Nat):Int)).bind fun bt101=>(if bt101.1=true then (j1p.l0 k bt101.2.1 bt101.2.2) else (some (false,bt101.2.1,bt101.2.2)))) else (j1p.l0 k s ((i+1:Nat):Int))))):=fun k=>by
   simp only [j1p.l0];rw [if_pos (by have:=h.lt;omega),if_pos (by omega),h.bt,e2]
  by_cases h1:c=34
  ·subst h1;refine ⟨fun r hr=>?_,fun hr=>(by rw [strL_end] at hr;cases hr)⟩;rw [strL_end] at hr;cases hr;refine Ev.step (fun k=>(st k).trans (if_pos rfl)) (Ev_same (Ev.now _) ?_);rw [show i+1=s.size - l.length by omega]
  by_cases h2:c<32
  ·refine ⟨fun r hr=>(by rw [strL_low _ h2] at hr;cases hr),fun _=>⟨_,Ev.step (fun k=>(st k).trans ((if_neg h1).trans (if_pos h2))) (Ev.now _)⟩⟩
  by_cases h3:c=92
  rotate_left
  ·rw [strL_raw _ ⟨h1,h2,h3⟩];have ih:=quoted_l0 n (i+1) l (by omega) h.tail;have go:∀ k,j1p.l0 (k+1) s i=j1p.l0 k s ((i+1:Nat):Int):=fun k=>(st k).trans ((if_neg h1).trans ((if_neg h2).trans (if_neg h3)))
   refine ⟨fun r hr=>Ev.step go (ih.1 r hr),fun hr=>?_⟩;obtain ⟨p,hq⟩:=ih.2 hr;exact ⟨p,Ev.step go hq⟩
  subst h3;have hh:=escape_eq hs h.tail;rw [strL_esc]
  have go:∀ {a q R},Ev (fun k=>j1g.f k s ((i+1:Nat):Int)) (a,s,q)→Ev (fun k=>if a=true then (j1p.l0 k s q) else (some (false,s,q))) R→Ev (fun k=>j1p.l0 k s i) R:=fun {a q R} hx hy =>
   Ev.step (fun k=>(st k).trans ((if_neg h1).trans ((if_neg h2).trans (if_pos rfl)))) (Ev.bind hx hy)
  cases he:escL l with
  | none =>
   refine ⟨fun r hr=>(by cases hr),fun _=>?_⟩;obtain ⟨p,hp⟩:=hh.2 he;exact ⟨p,go hp (Ev.congr (fun k=>if_neg zq50) (Ev.now _))⟩
  | some r' =>
   have hlen:=escL_len he;have hp:=hh.1 r' he
   have hF:From s (s.size - r'.length) r':=by
    rcases escL_ex he with ⟨b,_,rfl⟩|⟨a,b,c,d,v,_,rfl⟩
    ·have:=h.tail.tail;have hz:=this.len
     rwa [show i+1+1=s.size - r'.length by omega] at this
    ·have:=h.tail.tail.tail.tail.tail.tail;have hz:=this.len
     rwa [show i+1+1+1+1+1+1=s.size - r'.length by omega] at this
   have ih:=quoted_l0 n (s.size - r'.length) r' (by omega) hF;refine ⟨fun r hr=>go hp (Ev.congr (fun k=>if_pos rfl) (ih.1 r hr)),fun hr=>?_⟩;obtain ⟨p,hq⟩:=ih.2 hr;exact ⟨p,go hp (Ev.congr (fun k=>if_pos rfl) hq)⟩
theorem quoted_eq {i : Nat} {c:Int} {l:List Int} (h:From s i (c :: l)) :
 (∀ r,strL l=some r→Ev (fun k=>j1p.f k s i) (true,s,((s.size - r.length:Nat):Int))) ∧
 (strL l=none→∃ p,Ev (fun k=>j1p.f k s i) (false,s,p)):=by
 have e2:=up1 (Nat.le_of_lt h.lt) hs;have:=quoted_l0 hs l.length (i+1) l (Nat.le_refl _) h.tail;unfold j1p.f;rw [e2];exact this
end

end Go.Proofs.Ytchhndbekjgimaa.J
end
section
namespace Go.Proofs.Ytchhndbekjgimaa.RN
open Go.RowKit Go.Proofs.Ytchhndbekjgimaa.S Go.Proofs.YtchhndbekjgimaaW.PrintWords Go.Proofs.YtchhndbekjgimaaW.PrintLast
theorem wrap_up {i : Nat} {n:Nat} (h:i≤n) (hn:n≤140737488351232):wrap64 ((i:Int)+1)=((i+1:Nat):Int):=by
 unfold wrap64;omega
def tk (s : ByteArray) (i:Nat) (c:Int):Bool:=decide (i<s.size∧bt s i=c)
def dg (s : ByteArray) (i:Nat):Bool:=decide (i<s.size∧48≤bt s i∧bt s i≤57)
def dE (s : ByteArray) (i:Nat):Nat:=if i<s.size then (if dg s i=true then dE s (i+1) else i) else i
termination_by s.size - i
theorem dE_dg {s : ByteArray} {i:Nat} (h:dg s i=true):dE s i=dE s (i+1):=by
 have h':=h;simp only [dg,decide_eq_true_eq] at h'
 rw [dE,if_pos h'.1,if_pos h]
theorem dE_no {s : ByteArray} {i:Nat} (h:dg s i=false):dE s i=i:=by
 rw [dE];split
 ·rw [if_neg (by simp [h])]
 ·rfl
theorem dE_le (s : ByteArray) (d:Nat):∀ i,s.size - i=d→i≤s.size→i≤dE s i∧dE s i≤s.size:=by
 induction d with
 | zero =>
  intro i hd hi;rw [dE_no (by simp [dg];omega)];omega
 | succ d ih =>
  intro i hd hi;by_cases h:dg s i=true
  rotate_left
  ·rw [dE_no (by simpa using h)];omega
  rw [dE_dg h];have:=ih (i+1) (by omega) (by omega);omega
theorem dE_bounds {s : ByteArray} {i:Nat} (hi:i≤s.size):i≤dE s i∧dE s i≤s.size:=dE_le s _ i rfl hi
theorem dE_more {s : ByteArray} {i:Nat} (_hi:i≤s.size):decide (dE s i>i)=dg s i:=by
 by_cases h:dg s i=true
 rotate_left
 ·rw [dE_no (by simpa using h)];simp at h
  simp [h]
 have h':=h;simp only [dg,decide_eq_true_eq] at h'
 rw [dE_dg h,h];have:=dE_bounds (s:=s) (i:=i+1) (by omega);simp only [decide_eq_true_eq];omega
theorem take_eq {s : ByteArray} {i:Nat} (hs:s.size≤140737488351232) (hi:i≤s.size) (c:Int) :
 j1d.f s (i:Int) c=some (tk s i c,s,((if tk s i c=true then i+1 else i:Nat):Int)):=by
 unfold j1d.f tk;by_cases h1:i<s.size
 rotate_left
 ·rw [if_neg (by omega)];simp [h1]
 rw [if_pos (by omega),if_pos (by omega)];by_cases h2:bt s i=c
 rotate_left
 ·rw [if_neg h2];simp [h1,h2]
 rw [if_pos h2,wrap_up hi hs];simp [h1,h2]
theorem here_eq {s : ByteArray} {i:Nat}:j1y.f s (i:Int)=some (if i<s.size then bt s i else 0,s,(i:Int)):=by
 unfold j1y.f;by_cases h1:i<s.size
 rotate_left
 ·rw [if_neg (by omega),if_neg h1]
 rw [if_pos (by omega),if_pos (by omega),if_pos h1]
theorem digits_l0 {s : ByteArray} (hs:s.size≤140737488351232) (x3:Nat) (d:Nat):∀ i,s.size - i=d→i≤s.size →
 Ev (fun k=>j1o.l0 k x3 (if i<s.size then bt s i else 0) s i) (decide (((dE s i:Nat):Int)>x3),s,((dE s i:Nat):Int)):=by
 induction d with
 | zero =>
  intro i hd hi;have hn:¬ i<s.size:=by omega
  have hz:dg s i=false:=by simp [dg];omega
  rw [dE_no hz];refine Ev.step (f:=fun _=>some (decide (((i:Nat):Int)>x3),s,((i:Nat):Int))) (fun k=>?_) (Ev.now _);simp only [j1o.l0];rw [if_neg hn,if_neg (by omega)]
 | succ d ih =>
  intro i hd hi;have hlt:i<s.size:=by omega
  by_cases h:dg s i=true
  ·have h':=h;simp only [dg,decide_eq_true_eq] at h'
   rw [dE_dg h];refine Ev.step (f:=fun k=>j1o.l0 k x3 (if i+1<s.size then bt s ((i+1:Nat):Int) else 0) s ((i+1:Nat):Int)) (fun k=>?_) (ih (i+1) (by omega) (by omega));simp only [j1o.l0];rw [if_pos hlt,if_pos h'.2.1,if_pos h'.2.2,wrap_up hi hs,here_eq];rfl
  have hz:dg s i=false:=by simpa using h
  have h':=hz;simp only [dg,decide_eq_false_iff_not] at h'
  rw [dE_no hz];refine Ev.step (f:=fun _=>some (decide (((i:Nat):Int)>x3),s,((i:Nat):Int))) (fun k=>?_) (Ev.now _);simp only [j1o.l0];rw [if_pos hlt];by_cases h48:48≤bt s i
  rotate_left
  ·rw [if_neg h48]
  rw [if_pos h48,if_neg (by omega)]
theorem digits_eq {s : ByteArray} (hs:s.size≤140737488351232) {i:Nat} (hi:i≤s.size) :
 Ev (fun k=>j1o.f k s i) (dg s i,s,((dE s i:Nat):Int)):=by
 have h:=digits_l0 hs i _ i rfl hi;refine Ev.congr (f:=fun k=>j1o.l0 k i (if i<s.size then bt s i else 0) s i) (fun k=>?_) ?_
 ·unfold j1o.f;rw [here_eq];rfl
 ·have e:decide (((dE s i:Nat):Int)>(i:Int))=dg s i:=by
   rw [← dE_more hi,Bool.eq_iff_iff,decide_eq_true_eq,decide_eq_true_eq];omega
  rw [e] at h
  exact h
def numX (s : ByteArray) (i:Nat):Bool × Nat :=
  if (tk s i 101 || tk s i 69)=true then (let j:=if (tk s (i+1) 43 || tk s (i+1) 45)=true then i+2 else i+1;(dg s j,dE s j)) else (true,i)
def numF (s : ByteArray) (i:Nat):Bool × Nat :=
  if tk s i 46=true then (if dg s (i+1)=true then numX s (dE s (i+1)) else (false,i+1)) else numX s i
def numE (s : ByteArray) (i:Nat):Bool × Nat :=
  let j:=if tk s i 45=true then i+1 else i
  if tk s j 48=true then numF s (j+1) else if dg s j=true then numF s (dE s j) else (false,j)

theorem tk_lt {s : ByteArray} {i:Nat} {c:Int} (h:tk s i c=true):i<s.size:=by
 simp only [tk,decide_eq_true_eq] at h
 exact h.1
theorem tk_out {s : ByteArray} {i:Nat} {c:Int} (h:¬ i<s.size):tk s i c=false:=decide_eq_false fun x=>h x.1
theorem dg_out {s : ByteArray} {i:Nat} (h:¬ i<s.size):dg s i=false:=decide_eq_false fun x=>h x.1
theorem take_yes {s : ByteArray} {i:Nat} {c:Int} (hs:s.size≤140737488351232) (h:tk s i c=true):j1d.f s (i:Int) c=some (true,s,((i+1:Nat):Int)):=by
 have:=tk_lt h;rw [take_eq hs (by omega),h];rfl
theorem take_no {s : ByteArray} {i:Nat} {c:Int} (hs:s.size≤140737488351232) (hi:i≤s.size) (h:¬ tk s i c=true):j1d.f s (i:Int) c=some (false,s,(i:Int)):=by
 have h':tk s i c=false:=by simpa using h
 rw [take_eq hs hi,h'];rfl
theorem Ev_same {α : Type} {g:Nat→Option α} {r r':α} (h:Ev g r) (e:r=r'):Ev g r':=e ▸ h
theorem number_j2 {s : ByteArray} (hs:s.size≤140737488351232) {i:Nat} (hi:i+1≤s.size) :
 Ev (fun k=>j1f.j2 k true s ((i+1:Nat):Int)) (let j:=if (tk s (i+1) 43 || tk s (i+1) 45)=true then i+2 else i+1;(dg s j,s,((dE s j:Nat):Int))):=by
 have key:∀ j,j≤s.size→Ev (fun k=>(j1o.f k s (j:Int)).bind fun b=>some (b.1,b.2.1,b.2.2)) (dg s j,s,((dE s j:Nat):Int)):=fun j hj=>Ev.bind (digits_eq hs hj) (Ev.now _)
 by_cases h1:tk s (i+1) 43=true
 ·have hl:=tk_lt h1;refine Ev_same (Ev.step (fun k=>?_) (key (i+2) hl)) (by simp [h1]);simp only [j1f.j2,take_yes hs h1,Option.bind_some,if_true]
 by_cases h2:tk s (i+1) 45=true
 rotate_left
 ·refine Ev_same (Ev.step (fun k=>?_) (key (i+1) hi)) (by simp [h1,h2]);simp only [j1f.j2,take_no hs hi h1,take_no hs hi h2,Option.bind_some,if_true,Bool.false_eq_true,if_false]
 have hl:=tk_lt h2;refine Ev_same (Ev.step (fun k=>?_) (key (i+2) hl)) (by simp [h2]);simp only [j1f.j2,take_no hs hi h1,take_yes hs h2,Option.bind_some,if_true,Bool.false_eq_true,if_false]
theorem number_j1 {s : ByteArray} (hs:s.size≤140737488351232) {i:Nat} (hi:i≤s.size) :
 Ev (fun k=>j1f.j1 k false s (i:Int)) ((numX s i).1,s,(((numX s i).2:Nat):Int)):=by
 by_cases h1:tk s i 101=true
 ·have hl:=tk_lt h1;refine Ev_same (Ev.step (fun k=>?_) (number_j2 hs hl)) (by simp [numX,h1]);simp only [j1f.j1,take_yes hs h1,Option.bind_some,if_true,Bool.false_eq_true,if_false]
 by_cases h2:tk s i 69=true
 ·have hl:=tk_lt h2;refine Ev_same (Ev.step (fun k=>?_) (number_j2 hs hl)) (by simp [numX,h2]);simp only [j1f.j1,take_no hs hi h1,take_yes hs h2,Option.bind_some,Bool.false_eq_true,if_false]
 refine Ev_same (Ev.step (f:=fun k=>j1f.j2 k false s (i:Int)) (fun k=>?_) (Ev.step (f:=fun _=>some (true,s,(i:Int))) (fun k=>?_) (Ev.now _))) (by simp [numX,h1,h2])
 ·simp only [j1f.j1,take_no hs hi h1,take_no hs hi h2,Option.bind_some,Bool.false_eq_true,if_false]
 ·simp only [j1f.j2,Bool.false_eq_true,if_false]
theorem number_j0 {s : ByteArray} (hs:s.size≤140737488351232) {i:Nat} (hi:i≤s.size) :
 Ev (fun k=>j1f.j0 k false s (i:Int)) ((numF s i).1,s,(((numF s i).2:Nat):Int)):=by
 by_cases h1:tk s i 46=true
 rotate_left
 ·refine Ev_same (Ev.step (fun k=>?_) (number_j1 hs hi)) (by simp [numF,h1]);simp only [j1f.j0,take_no hs hi h1,Option.bind_some,Bool.false_eq_true,if_false]
 have hl:=tk_lt h1;have hb:=dE_bounds (s:=s) hl
 have key:Ev (fun k=>(j1o.f k s ((i+1:Nat):Int)).bind fun b=>j1f.j1 k (!b.1) b.2.1 b.2.2) ((numF s i).1,s,(((numF s i).2:Nat):Int)):=by
  refine Ev.bind (digits_eq hs hl) ?_;by_cases h2:dg s (i+1)=true
  ·refine Ev_same (Ev.congr (fun k=>?_) (number_j1 hs hb.2)) (by simp [numF,h1,h2]);simp only [h2,Bool.not_true]
  have h2':dg s (i+1)=false:=by simpa using h2
  refine Ev_same (Ev.step (f:=fun _=>some (false,s,((i+1:Nat):Int))) (fun k=>?_) (Ev.now _)) (by simp [numF,h1,h2]);simp only [j1f.j1,h2',Bool.not_false,if_true,dE_no h2']
 refine Ev.step (fun k=>?_) key;simp only [j1f.j0,take_yes hs h1,Option.bind_some,if_true,Bool.false_eq_true,if_false]
theorem number_eq {s : ByteArray} (hs:s.size≤140737488351232) {i:Nat} (hi:i≤s.size) :
 Ev (fun k=>j1f.f k s (i:Int)) ((numE s i).1,s,(((numE s i).2:Nat):Int)):=by
 have key:∀ j,j≤s.size→Ev (fun k=>(j1d.f s (j:Int) 48).bind fun b=>if b.1=true then j1f.j0 k false b.2.1 b.2.2 else (j1o.f k b.2.1 b.2.2).bind fun c=>j1f.j0 k (!c.1) c.2.1 c.2.2)
  ((if tk s j 48=true then numF s (j+1) else if dg s j=true then numF s (dE s j) else (false,j)).1,s,(((if tk s j 48=true then numF s (j+1) else if dg s j=true then numF s (dE s j) else (false,j)).2:Nat):Int)):=by
  intro j hj;by_cases h1:tk s j 48=true
  ·refine Ev_same (Ev.congr (fun k=>?_) (number_j0 hs (tk_lt h1))) (by simp [h1]);simp only [take_yes hs h1,Option.bind_some,if_true]
  have hb:=dE_bounds (s:=s) hj;refine Ev.congr (f:=fun k=>(j1o.f k s (j:Int)).bind fun c=>j1f.j0 k (!c.1) c.2.1 c.2.2) (fun k=>?_) (Ev.bind (digits_eq hs hj) ?_)
  ·simp only [take_no hs hj h1,Option.bind_some,Bool.false_eq_true,if_false]
  ·by_cases h2:dg s j=true
   ·refine Ev_same (Ev.congr (fun k=>?_) (number_j0 hs hb.2)) (by simp [h1,h2]);simp only [h2,Bool.not_true]
   have h2':dg s j=false:=by simpa using h2
   refine Ev_same (Ev.step (f:=fun _=>some (false,s,(j:Int))) (fun k=>?_) (Ev.now _)) (by simp [h1,h2]);simp only [j1f.j0,h2',Bool.not_false,if_true,dE_no h2']
 by_cases h0:tk s i 45=true
 rotate_left
 ·refine Ev_same (Ev.congr (fun k=>?_) (key i hi)) (by simp [numE,h0]);unfold j1f.f;simp only [take_no hs hi h0,Option.bind_some]
 refine Ev_same (Ev.congr (fun k=>?_) (key (i+1) (tk_lt h0))) (by simp [numE,h0]);unfold j1f.f;simp only [take_yes hs h0,Option.bind_some]
end Go.Proofs.Ytchhndbekjgimaa.RN
end
section
namespace Go.Proofs.Ytchhndbekjgimaa.J
def isD (c : Int):Bool:=decide (48≤c∧c≤57)
def skD : List Int→List Int
  | []=>[]
  | c :: r=>if isD c=true then skD r else c :: r
theorem skD_len : ∀ l,(skD l).length≤l.length
 | []=>Nat.le_refl _
 | c :: r=>by
  unfold skD;split
  ·have:=skD_len r
   simp;omega
  ·exact Nat.le_refl _
def digL : List Int→Option (List Int)
  | []=>none
  | c :: r=>if isD c=true then some (skD r) else none
def expL : List Int→Option (List Int)
  | []=>some []
  | c :: r=>if c=101∨c=69 then (match r with
    | []=>none
    | d :: t=>if d=43∨d=45 then digL t else digL (d :: t)) else some (c :: r)
def fracL : List Int→Option (List Int)
  | []=>some []
  | c :: r=>if c=46 then (digL r).bind expL else expL (c :: r)
def intL : List Int→Option (List Int)
  | []=>none
  | c :: r=>if c=48 then fracL r else if isD c=true then fracL (skD r) else none
def numL : List Int→Option (List Int)
  | []=>none
  | c :: r=>if c=45 then intL r else intL (c :: r)
theorem digL_len {l r : List Int} (h:digL l=some r):r.length<l.length:=by
 unfold digL at h
 split at h
 ·cases h
 ·split at h
  ·cases h;have:=skD_len (by assumption)
   simp;omega
  ·cases h
theorem expL_len {l r : List Int} (h:expL l=some r):r.length≤l.length:=by
 unfold expL at h
 split at h
 ·cases h;exact Nat.le_refl _
 ·split at h
  ·split at h
   ·cases h
   ·split at h
    ·have:=digL_len h
     simp;omega
    ·have:=digL_len h;simp at this ⊢; omega
  ·cases h;exact Nat.le_refl _
theorem fracL_len {l r : List Int} (h:fracL l=some r):r.length≤l.length:=by
 unfold fracL at h
 split at h
 ·cases h;exact Nat.le_refl _
 ·split at h
  ·obtain ⟨t,h1,h2⟩:=Option.bind_eq_some_iff.mp h;have:=digL_len h1;have:=expL_len h2
   simp;omega
  ·exact expL_len h
theorem intL_len {l r : List Int} (h:intL l=some r):r.length<l.length:=by
 unfold intL at h
 split at h
 ·cases h
 ·rename_i c t;split at h
  ·have:=fracL_len h
   simp;omega
  ·split at h
   ·have:=fracL_len h;have:=skD_len t
    simp;omega
   ·cases h
theorem numL_len {l r : List Int} (h:numL l=some r):r.length<l.length:=by
 unfold numL at h
 split at h
 ·cases h
 ·split at h
  ·have:=intL_len h
   simp;omega
  ·exact intL_len h
def wordL (w l : List Int):Option (List Int):=if l.take w.length=w then some (l.drop w.length) else none
theorem wordL_len {w l r:List Int} (hw:w≠[]) (h:wordL w l=some r):r.length<l.length:=by
 unfold wordL at h
 split at h
 ·rename_i e;cases h;have h1:0<w.length:=List.length_pos_iff.mpr hw;have h2:=congrArg List.length e;simp at h2 ⊢;omega
 ·cases h
def nullW : List Int:=[110,117,108,108]
def falseW : List Int:=[102,97,108,115,101]
def trueW : List Int:=[116,114,117,101]

mutual
def valL (l : List Int):Option (List Int) :=
  match l with
  | []=>none
  | c :: r=>if c=123 then objL r else if c=91 then arrL r else if c=34 then strL r else if c=45∨isD c=true then numL (c :: r)
    else if c=110 then wordL nullW (c :: r) else if c=102 then wordL falseW (c :: r) else if c=116 then wordL trueW (c :: r) else none
termination_by 3 * l.length
decreasing_by all_goals (simp; omega)
def arrL (l : List Int):Option (List Int) :=
  match _h:skB l with
  | []=>none
  | c :: r=>if c=93 then some r else elsL (c :: r)
termination_by 3 * l.length + 2
decreasing_by
  have:=j3b l
  rw [_h] at this
  simp at this ⊢
  omega
def elsL (l : List Int):Option (List Int) :=
  match valL l with
  | none=>none
  | some t=>if t.length<l.length then (match _h:skB t with
    | []=>none
    | c :: u=>if c=93 then some u else if c=44 then elsL (skB u) else none) else none
termination_by 3 * l.length + 1
decreasing_by
  · omega
  · have h1:=j3b t
    rw [_h] at h1
    have h2:=j3b u
    simp at h1
    omega
def objL (l : List Int):Option (List Int) :=
  match _h:skB l with
  | []=>none
  | c :: r=>if c=125 then some r else memL (c :: r)
termination_by 3 * l.length + 2
decreasing_by
  have:=j3b l
  rw [_h] at this
  simp at this ⊢
  omega
def memL (l : List Int):Option (List Int) :=
  match l with
  | []=>none
  | c :: r=>if c=34 then (match _h1:strL r with
    | none=>none
    | some t=>(match _h2:skB t with
      | []=>none
      | d :: u=>if d=58 then (match valL (skB u) with
        | none=>none
        | some v=>if v.length≤r.length then (match _h3:skB v with
          | []=>none
          | e :: x=>if e=125 then some x else if e=44 then memL (skB x) else none) else none) else none)) else none
termination_by 3 * l.length + 1
decreasing_by
  · have h0:=strL_len _ _ _ (Nat.le_refl _) _h1
    have h1:=j3b t
    rw [_h2] at h1
    have h2:=j3b u
    simp at h1 ⊢
    omega
  · have h1:=j3b v
    rw [_h3] at h1
    have h2:=j3b x
    simp only [List.length_cons] at *
    omega
end
theorem arrL_of {l r : List Int} (h:arrL l=some r):r.length<l.length∨∃ b,b.length≤l.length∧elsL b=some r:=by
 rw [arrL] at h
 have:=j3b l;split at h
 ·cases h
 ·rename_i c t e;rw [e] at this;split at h
  ·cases h;simp at this;omega
  ·exact .inr ⟨_,this,h⟩
theorem objL_of {l r : List Int} (h:objL l=some r):r.length<l.length∨∃ b,b.length≤l.length∧memL b=some r:=by
 rw [objL] at h
 have:=j3b l;split at h
 ·cases h
 ·rename_i c t e;rw [e] at this;split at h
  ·cases h;simp at this;omega
  ·exact .inr ⟨_,this,h⟩
theorem all_len : ∀ n:Nat,(∀ l r:List Int,l.length≤n→valL l=some r→r.length<l.length)∧(∀ l r:List Int,l.length≤n→elsL l=some r→r.length<l.length)∧(∀ l r:List Int,l.length≤n→memL l=some r→r.length<l.length):=by
 intro n
 induction n with
 | zero =>
  refine ⟨fun l r hl h=>?_,fun l r hl h=>?_,fun l r hl h=>?_⟩
  ·obtain rfl:=List.length_eq_zero_iff.mp (Nat.le_zero.mp hl);rw [valL] at h
   cases h
  ·obtain rfl:=List.length_eq_zero_iff.mp (Nat.le_zero.mp hl);rw [elsL,valL] at h
   cases h
  ·obtain rfl:=List.length_eq_zero_iff.mp (Nat.le_zero.mp hl);rw [memL] at h
   cases h
 | succ n ih =>
  obtain ⟨ih1,ih2,ih3⟩:=ih
  have hv:∀ l r:List Int,l.length≤n+1→valL l=some r→r.length<l.length:=by
   intro l r hl h;rw [valL.eq_def] at h
   split at h
   ·cases h
   ·rename_i c t;simp only [List.length_cons] at hl ⊢;split at h
    ·rcases objL_of h with h1|⟨b,h1,h2⟩
     ·omega
     ·have:=ih3 b r (by omega) h2;omega
    split at h
    ·rcases arrL_of h with h1|⟨b,h1,h2⟩
     ·omega
     ·have:=ih2 b r (by omega) h2;omega
    split at h
    ·have:=strL_len _ _ _ (Nat.le_refl _) h;omega
    split at h
    ·exact numL_len h
    split at h
    ·exact wordL_len zq50 h
    split at h
    ·exact wordL_len zq50 h
    split at h
    ·exact wordL_len zq50 h
    ·cases h
  refine ⟨hv,fun l r hl h=>?_,fun l r hl h=>?_⟩
  ·rw [elsL] at h
   split at h
   ·cases h
   ·rename_i t e1;split at h
    ·rename_i e2;have h1:=j3b t;split at h
     ·cases h
     ·rename_i c u e3;rw [e3] at h1;simp only [List.length_cons] at h1;split at h
      ·cases h;omega
      split at h
      ·have h2:=j3b u;have:=ih2 (skB u) r (by omega) h;omega
      ·cases h
    ·cases h
  ·rw [memL.eq_def] at h
   split at h
   ·cases h
   ·rename_i c r0;simp only [List.length_cons] at hl h ⊢;split at h
    ·split at h
     ·cases h
     ·rename_i t e1;have k1:=strL_len _ _ _ (Nat.le_refl _) e1;split at h
      ·cases h
      ·rename_i d u e2;have k2:=j3b t;rw [e2] at k2;simp only [List.length_cons] at k2;split at h
       ·split at h
        ·cases h
        ·rename_i v e3;split at h
         ·rename_i e4;have k3:=j3b v;split at h
          ·cases h
          ·rename_i e x e5;rw [e5] at k3;simp only [List.length_cons] at k3;split at h
           ·cases h;omega
           split at h
           ·have k4:=j3b x;have:=ih3 (skB x) r (by omega) h;omega
           ·cases h
         ·cases h
       ·cases h
    ·cases h
theorem valL_len {l r : List Int} (h:valL l=some r):r.length<l.length:=(all_len l.length).1 l r (Nat.le_refl _) h
theorem memL_bad {l : List Int} (e:strL l=none):memL (34 :: l)=none:=by
 rw [memL.eq_def];simp only [if_true];split
 ·rfl
 ·rename_i h1;rw [h1] at e;cases e
end Go.Proofs.Ytchhndbekjgimaa.J
end
section
namespace Go.Proofs.Ytchhndbekjgimaa.J
open Go.RowKit Go.Proofs.Ytchhndbekjgimaa.S Go.Proofs.YtchhndbekjgimaaW.PrintWords Go.Proofs.YtchhndbekjgimaaW.PrintLast

def Suf (s : ByteArray) (l:List Int):Prop:=From s (s.size - l.length) l
def P (s : ByteArray) (l:List Int):Int:=((s.size - l.length:Nat):Int)
theorem Suf.le {s : ByteArray} {l:List Int} (h:Suf s l):l.length≤s.size:=by
 have:=From.len h;omega
theorem Suf.tail {s : ByteArray} {a:Int} {l:List Int} (h:Suf s (a :: l)):Suf s l:=by
 have h1:=h.le;have:=From.tail h;simp only [List.length_cons] at this h1;unfold Suf
 rwa [show s.size - l.length=s.size - (l.length+1)+1 by omega]
theorem Suf.app {s : ByteArray} {a l:List Int} (h:Suf s (a++l)):Suf s l:=by
 induction a with
 | nil=>exact h
 | cons x a ih=>exact ih (Suf.tail h)
theorem Suf.of {s : ByteArray} {i:Nat} {l:List Int} (h:From s i l):Suf s l∧i=s.size - l.length:=by
 have:=h.len;have e:i=s.size - l.length:=by omega
 refine ⟨?_,e⟩;unfold Suf;rw [← e];exact h
theorem Suf.start (s : ByteArray):Suf s (bytesOf s):=by
 unfold Suf;rw [bytesOf_length,Nat.sub_self];exact From.start s
theorem P_cons {s : ByteArray} {a:Int} {l:List Int} (h:Suf s (a :: l)):P s l=P s (a :: l)+1:=by
 have:=h.le;unfold P;simp only [List.length_cons] at this ⊢;omega
theorem P_le (s : ByteArray) (l:List Int):0≤P s l∧P s l≤s.size:=by unfold P;omega
theorem P_lt {s : ByteArray} {a:Int} {l:List Int} (h:Suf s (a :: l)):P s (a :: l)<s.size:=by
 have:=h.le;unfold P;simp only [List.length_cons] at this ⊢;omega
theorem P_nil (s : ByteArray):P s []=s.size:=by unfold P;simp
theorem Suf.bt {s : ByteArray} {a:Int} {l:List Int} (h:Suf s (a :: l)):bt s (P s (a :: l))=a:=From.bt h
theorem Suf.skB {s : ByteArray} {l:List Int} (h:Suf s l):Suf s (skB l):=by
 obtain ⟨b,_,e⟩:=skB_ex l;rw [e] at h
 exact h.app
theorem Suf.str {s : ByteArray} {l r:List Int} (h:Suf s l) (k:strL l=some r):Suf s r:=by
 obtain ⟨b,_,e⟩:=strL_iff.mp k;rw [e] at h
 exact Suf.tail h.app
theorem skD_ex : ∀ l,∃ b,l=b++skD l
 | []=>⟨[],rfl⟩
 | c :: r=>by
  unfold skD;split
  ·obtain ⟨b,e⟩:=skD_ex r;exact ⟨c :: b,by rw [List.cons_append,← e]⟩
  ·exact ⟨[],rfl⟩
theorem Suf.skD {s : ByteArray} {l:List Int} (h:Suf s l):Suf s (skD l):=by
 obtain ⟨b,e⟩:=skD_ex l;rw [e] at h
 exact h.app
theorem Suf.drop {s : ByteArray} {l:List Int} (h:Suf s l) (n:Nat):Suf s (l.drop n):=by
 rw [← List.take_append_drop n l] at h
 exact h.app
section
variable {s : ByteArray} (hs:s.size≤140737488351232)
include hs
theorem up_P {a : Int} {l:List Int} (h:Suf s (a :: l)):wrap64 (P s (a :: l)+1)=P s l:=by
 have:=P_le s (a :: l);rw [P_cons h,w64 (by omega)]
theorem j3e {a : Int} {l:List Int} (h:Suf s (a :: l)) (c:Int):j1d.f s (P s (a :: l)) c=if a=c then some (true,s,P s l) else some (false,s,P s (a :: l)):=by
 have h1:=P_lt h;have h2:=P_le s (a :: l);unfold j1d.f;rw [if_pos (by omega),if_pos (by omega),h.bt,up_P hs h]
omit hs in
theorem take_nil (c : Int):j1d.f s (P s []) c=some (false,s,P s []):=by
 unfold j1d.f;rw [P_nil,if_neg (by omega)]
omit hs in
theorem here_P {a : Int} {l:List Int} (h:Suf s (a :: l)):j1y.f s (P s (a :: l))=some (a,s,P s (a :: l)):=here_cons h
omit hs in
theorem here_P0 : j1y.f s (P s [])=some (0,s,P s []):=by
 unfold j1y.f;rw [P_nil,if_neg (by omega)]
theorem j3i : ∀ l,Suf s l→Ev (fun k=>j1c.f k s (P s l)) (s,P s (skB l))
 | [],_=>by
  refine Ev.step (f:=fun _=>some (s,P s [])) (fun k=>?_) (Ev.now _);unfold j1c.f;simp only [j1c.l0];rw [P_nil,if_neg (by omega)]
 | c :: l,h=>by
  have h1:=P_lt h;have h2:=P_le s (c :: l)
  have hb:j2z.f c=some (isB c):=by
   unfold j2z.f isB;by_cases e1:c=32
   ·rw [if_pos e1,e1];rfl
   by_cases e2:c=9
   ·rw [if_neg e1,if_pos e2,e2];rfl
   by_cases e3:c=10
   ·rw [if_neg e1,if_neg e2,if_pos e3,e3];rfl
   rw [if_neg e1,if_neg e2,if_neg e3]
   congr 1
   rw [Bool.eq_iff_iff];simp [e1,e2,e3]
  unfold j1c.f;by_cases e:isB c=true
  ·refine Ev.step (fun k=>?_) (Ev_same (j3i l h.tail) (by rw [skB,if_pos e]));simp only [j1c.l0];rw [if_pos (by omega),if_pos (by omega),h.bt,hb,Option.bind_some,if_pos e,up_P hs h];rfl
  refine Ev.step (f:=fun _=>some (s,P s (c :: l))) (fun k=>?_) (Ev_same (Ev.now _) (by rw [skB,if_neg e]));simp only [j1c.l0];rw [if_pos (by omega),if_pos (by omega),h.bt,hb,Option.bind_some,if_neg e]
theorem quoted_P {a : Int} {l:List Int} (h:Suf s (a :: l)) :
 (∀ r,strL l=some r→Ev (fun k=>j1p.f k s (P s (a :: l))) (true,s,P s r))∧(strL l=none→∃ p,Ev (fun k=>j1p.f k s (P s (a :: l))) (false,s,p)):=quoted_eq hs h
theorem word_eq {l : List Int} (h:Suf s l) (w:ByteArray) (hw:w.size≤10):j2b.f s (P s l) w=match wordL (bytesOf w) l with
 | some r=>some (true,s,P s r)
 | none=>some (false,s,P s l):=by
 have h1:=h.le;have h2:=P_le s l;have hl:(bytesOf w).length=w.size:=bytesOf_length w
 have e0:wrap64 ((s.size:Int) - P s l)=l.length:=by
  unfold P at h2 ⊢;rw [w64 (by omega)];omega
 have e1:wrap64 (P s l+(w.size:Int))=((s.size - l.length+w.size:Nat):Int):=by
  unfold P at h2 ⊢;rw [w64 (by omega)];omega
 unfold j2b.f wordL;rw [e0,e1,hl];by_cases e2:(l.length:Int)<(w.size:Int)
 ·rw [if_pos e2,if_neg];intro e;have:=congrArg List.length e;rw [hl,List.length_take] at this;omega
 rw [if_neg e2,if_pos (by omega),if_pos (by unfold P;omega),if_pos (by omega)]
 have e3:bytesOf (s.extract (P s l).toNat ((s.size - l.length+w.size:Nat):Int).toNat)=l.take w.size:=by
  have:=h.2;unfold P;rw [Int.toNat_natCast,Int.toNat_natCast,bytesOf_extract,List.drop_take,this,Nat.add_sub_cancel_left]
 have e4:((s.extract (P s l).toNat ((s.size - l.length+w.size:Nat):Int).toNat).toList=w.toList)=(l.take w.size=bytesOf w):=by
  apply propext
  constructor
  ·intro e;rw [← e3,toList_inj e]
  ·intro e;rw [← e3] at e;rw [bytesOf_inj e]
 have e5:((s.size - l.length+w.size:Nat):Int)=P s (l.drop w.size):=by
  unfold P;rw [List.length_drop];omega
 by_cases e6:l.take w.size=bytesOf w
 rotate_left
 ·rw [if_neg (e4 ▸ e6),if_neg e6]
 rw [if_pos (e4 ▸ e6),if_pos e6,e5]
omit hs in
theorem j3n {a : Int} {l:List Int} {i:Nat} (h:From s i (a :: l)) (c:Int):RN.tk s i c=decide (a=c):=by
 unfold RN.tk;have:=h.lt;rw [h.bt];simp [this]
omit hs in
theorem tk_nil {i : Nat} (h:From s i []) (c:Int):RN.tk s i c=false:=RN.tk_out (by have:=h.nil;omega)
omit hs in
theorem dg_cons {a : Int} {l:List Int} {i:Nat} (h:From s i (a :: l)):RN.dg s i=isD a:=by
 unfold RN.dg isD;have:=h.lt;rw [h.bt];simp [this]
omit hs in
theorem dg_nil {i : Nat} (h:From s i []):RN.dg s i=false:=RN.dg_out (by have:=h.nil;omega)
omit hs in
theorem dE_eq : ∀ (l:List Int) (i:Nat),From s i l→From s (RN.dE s i) (skD l)
 | [],i,h=>by rw [RN.dE_no (dg_nil h)];exact h
 | c :: l,i,h=>by
  by_cases e:isD c=true
  rotate_left
  ·rw [RN.dE_no (by rw [dg_cons h];simpa using e),skD,if_neg e];exact h
  rw [RN.dE_dg (by rw [dg_cons h,e]),skD,if_pos e];exact dE_eq l (i+1) h.tail
omit hs in
theorem digs {l : List Int} {i:Nat} (h:From s i l):(∀ r,digL l=some r→RN.dg s i=true∧From s (RN.dE s i) r)∧(digL l=none→RN.dg s i=false):=by
 match l,h with
 | [],h=>exact ⟨fun r hr=>(by simp [digL] at hr),fun _=>dg_nil h⟩
 | c :: l,h =>
  by_cases e:isD c=true
  rotate_left
  ·exact ⟨fun r hr=>(by rw [digL,if_neg e] at hr;cases hr),fun _=>(by rw [dg_cons h];simpa using e)⟩
  refine ⟨fun r hr=>?_,fun hr=>(by rw [digL,if_pos e] at hr;cases hr)⟩;rw [digL,if_pos e] at hr;cases hr;have:=dE_eq _ _ h;rw [skD,if_pos e] at this;exact ⟨by rw [dg_cons h,e],this⟩
omit hs in
theorem expL_other {c : Int} {l:List Int} (e:¬ (c=101∨c=69)):expL (c :: l)=some (c :: l):=by
 unfold expL;exact if_neg e
omit hs in
theorem numX_eq {l : List Int} {i:Nat} (h:From s i l):(∀ r,expL l=some r→(RN.numX s i).1=true∧From s (RN.numX s i).2 r)∧(expL l=none→(RN.numX s i).1=false):=by
 match l,h with
 | [],h =>
  have e:RN.numX s i=(true,i):=by unfold RN.numX;rw [tk_nil h,tk_nil h];rfl
  rw [e];refine ⟨fun r hr=>?_,fun hr=>(by simp [expL] at hr)⟩;simp only [expL,Option.some.injEq] at hr;subst hr;exact ⟨rfl,h⟩
 | c :: l,h =>
  by_cases e:c=101∨c=69
  rotate_left
  ·have e1:(RN.tk s i 101 || RN.tk s i 69)=false:=by
    rw [j3n h,j3n h]
    simpa using e
   unfold RN.numX;rw [if_neg (by rw [e1];decide)];refine ⟨fun r hr=>?_,fun hr=>(by rw [expL_other e] at hr;cases hr)⟩;rw [expL_other e] at hr;cases hr;exact ⟨rfl,h⟩
  have e1:(RN.tk s i 101 || RN.tk s i 69)=true:=by
   rw [j3n h,j3n h]
   simpa using e
  unfold RN.numX;rw [if_pos e1];have h1:=h.tail
  match l,h1 with
  | [],h1 =>
   have e2:(RN.tk s (i+1) 43 || RN.tk s (i+1) 45)=false:=by rw [tk_nil h1,tk_nil h1];rfl
   refine ⟨fun r hr=>(by rw [expL,if_pos e] at hr;cases hr),fun _=>?_⟩;simp only [e2,Bool.false_eq_true,if_false];exact dg_nil h1
  | d :: t,h1 =>
   by_cases e2:d=43∨d=45
   rotate_left
   ·have e3:(RN.tk s (i+1) 43 || RN.tk s (i+1) 45)=false:=by
     rw [j3n h1,j3n h1]
     simpa using e2
    have hd:=digs h1;simp only [e3,Bool.false_eq_true,if_false];refine ⟨fun r hr=>?_,fun hr=>?_⟩
    ·simp only [expL,if_pos e,if_neg e2] at hr;exact hd.1 r hr
    ·simp only [expL,if_pos e,if_neg e2] at hr;exact hd.2 hr
   have e3:(RN.tk s (i+1) 43 || RN.tk s (i+1) 45)=true:=by rw [j3n h1,j3n h1];simpa using e2
   have hd:=digs h1.tail;simp only [e3,if_true];refine ⟨fun r hr=>?_,fun hr=>?_⟩
   ·rw [expL,if_pos e] at hr;simp only [if_pos e2] at hr;exact hd.1 r hr
   ·rw [expL,if_pos e] at hr;simp only [if_pos e2] at hr;exact hd.2 hr
omit hs in
theorem numF_eq {l : List Int} {i:Nat} (h:From s i l):(∀ r,fracL l=some r→(RN.numF s i).1=true∧From s (RN.numF s i).2 r)∧(fracL l=none→(RN.numF s i).1=false):=by
 match l,h with
 | [],h =>
  have e:RN.numF s i=RN.numX s i:=by unfold RN.numF;rw [tk_nil h];rfl
  rw [e];exact numX_eq h
 | c :: l,h =>
  by_cases e:c=46
  rotate_left
  ·have e1:RN.tk s i 46=false:=by rw [j3n h];simpa using e
   have e3:RN.numF s i=RN.numX s i:=by unfold RN.numF;rw [e1];rfl
   rw [e3];have h3:=numX_eq h;refine ⟨fun r hr=>?_,fun hr=>?_⟩
   ·rw [fracL,if_neg e] at hr;exact h3.1 r hr
   ·rw [fracL,if_neg e] at hr;exact h3.2 hr
  have hd:=digs h.tail;have e1:RN.tk s i 46=true:=by rw [j3n h];simpa using e
  unfold RN.numF;rw [if_pos e1];cases e2:digL l with
  | none =>
   rw [if_neg (by rw [hd.2 e2];decide)];exact ⟨fun r hr=>(by rw [fracL,if_pos e,e2] at hr;cases hr),fun _=>rfl⟩
  | some t =>
   have h2:=hd.1 t e2;rw [if_pos h2.1];have h3:=numX_eq h2.2;refine ⟨fun r hr=>?_,fun hr=>?_⟩
   ·rw [fracL,if_pos e,e2] at hr;exact h3.1 r hr
   ·rw [fracL,if_pos e,e2] at hr;exact h3.2 hr
omit hs in
theorem intE_eq {l : List Int} {i:Nat} (h:From s i l) :
 (∀ r,intL l=some r→(if RN.tk s i 48=true then RN.numF s (i+1) else if RN.dg s i=true then RN.numF s (RN.dE s i) else (false,i)).1=true∧From s (if RN.tk s i 48=true then RN.numF s (i+1) else if RN.dg s i=true then RN.numF s (RN.dE s i) else (false,i)).2 r) ∧
 (intL l=none→(if RN.tk s i 48=true then RN.numF s (i+1) else if RN.dg s i=true then RN.numF s (RN.dE s i) else (false,i)).1=false):=by
 match l,h with
 | [],h =>
  rw [if_neg (by rw [tk_nil h];decide),if_neg (by rw [dg_nil h];decide)];exact ⟨fun r hr=>(by simp [intL] at hr),fun _=>rfl⟩
 | c :: l,h =>
  by_cases e:c=48
  ·rw [if_pos (by rw [j3n h];simpa using e),intL,if_pos e];exact numF_eq h.tail
  rw [if_neg (by rw [j3n h];simpa using e),intL,if_neg e];by_cases e2:isD c=true
  rotate_left
  ·have e4:¬ RN.dg s i=true:=by rw [dg_cons h];exact e2
   simp only [if_neg e4,if_neg e2];exact ⟨fun r hr=>(by cases hr),fun _=>trivial⟩
  have h2:=dE_eq _ _ h;rw [skD,if_pos e2] at h2;have e4:RN.dg s i=true:=by rw [dg_cons h];exact e2
  simp only [if_pos e4,if_pos e2];exact numF_eq h2
omit hs in
theorem numE_eq {l : List Int} {i:Nat} (h:From s i l):(∀ r,numL l=some r→(RN.numE s i).1=true∧From s (RN.numE s i).2 r)∧(numL l=none→(RN.numE s i).1=false):=by
 match l,h with
 | [],h =>
  have hd:=intE_eq h
  have e:RN.numE s i=(if RN.tk s i 48=true then RN.numF s (i+1) else if RN.dg s i=true then RN.numF s (RN.dE s i) else (false,i)):=by
   unfold RN.numE;have e0:¬ RN.tk s i 45=true:=by rw [tk_nil h];decide
   simp only [if_neg e0]
  rw [e];exact ⟨fun r hr=>(by simp [numL] at hr),fun _=>hd.2 rfl⟩
 | c :: l,h =>
  by_cases e:c=45
  rotate_left
  ·have e1:RN.numE s i=(if RN.tk s i 48=true then RN.numF s (i+1) else if RN.dg s i=true then RN.numF s (RN.dE s i) else (false,i)):=by
    unfold RN.numE;have e0:¬ RN.tk s i 45=true:=by rw [j3n h];simpa using e
    simp only [if_neg e0]
   rw [e1,numL,if_neg e];exact intE_eq h
  have e1:RN.numE s i=(if RN.tk s (i+1) 48=true then RN.numF s (i+1+1) else if RN.dg s (i+1)=true then RN.numF s (RN.dE s (i+1)) else (false,i+1)):=by
   unfold RN.numE;have e0:RN.tk s i 45=true:=by rw [j3n h];simpa using e
   simp only [if_pos e0]
  rw [e1,numL,if_pos e];exact intE_eq h.tail
theorem number_P {l : List Int} (h:Suf s l):(∀ r,numL l=some r→Ev (fun k=>j1f.f k s (P s l)) (true,s,P s r)∧Suf s r)∧(numL l=none→∃ p,Ev (fun k=>j1f.f k s (P s l)) (false,s,p)):=by
 have hn:=RN.number_eq hs (i:=s.size - l.length) (by omega);have he:=numE_eq h;refine ⟨fun r hr=>?_,fun hr=>?_⟩
 ·obtain ⟨h1,h2⟩:=he.1 r hr;rw [h1] at hn;obtain ⟨h3,h4⟩:=Suf.of h2;rw [h4] at hn;exact ⟨hn,h3⟩
 ·rw [he.2 hr] at hn;exact ⟨_,hn⟩
end
end Go.Proofs.Ytchhndbekjgimaa.J
end
section
namespace Go.Proofs.Ytchhndbekjgimaa.J
open Go.RowKit Go.Proofs.Ytchhndbekjgimaa.S Go.Proofs.YtchhndbekjgimaaW.PrintWords Go.Proofs.YtchhndbekjgimaaW.PrintLast
set_option linter.unusedVariables false
set_option linter.unusedSimpArgs false
set_option linter.unusedSectionVars false
def Bl (B : List Int):Prop:=∀ a ∈ B,isB a=true
theorem Bl.tail {c : Int} {B:List Int} (h:Bl (c :: B)):Bl B:=fun a ha=>h a (List.mem_cons_of_mem _ ha)
theorem Bl.nil : Bl []:=fun _ h=>by simp at h
theorem Bl.app {A B : List Int} (h:Bl A) (h':Bl B):Bl (A++B):=fun a ha=>(List.mem_append.mp ha).elim (h a) (h' a)
theorem Bl.sk {B : List Int} (h:Bl B) (l:List Int):skB (B++l)=skB l:=skB_app B l h
theorem j3g (l : List Int):∃ B,Bl B∧l=B++skB l:=skB_ex l
def NC (c : Int):Prop:=(48≤c∧c≤57)∨c=45∨c=43∨c=46∨c=101∨c=69
def ND (x : List Int):Prop:=∀ c r,x=c :: r→isD c=false
theorem isD_NC {c : Int} (h:isD c=true):NC c:=by
 simp only [isD,decide_eq_true_eq] at h
 exact .inl h
theorem skD_split : ∀ l:List Int,∃ d,l=d++skD l∧(∀ c ∈ d,isD c=true)∧ND (skD l)
 | []=>⟨[],rfl,fun _ h=>(by simp at h),fun c r h=>(by simp [skD] at h)⟩
 | c :: t=>by
  rw [skD];by_cases h:isD c=true
  rotate_left
  ·rw [if_neg h];refine ⟨[],rfl,fun _ h=>(by simp at h),fun a r e=>?_⟩;cases e
   simpa using h
  rw [if_pos h];obtain ⟨d,h1,h2,h3⟩:=skD_split t;refine ⟨c :: d,by rw [List.cons_append,← h1],fun a ha=>?_,h3⟩;rcases List.mem_cons.mp ha with rfl|ha
  ·exact h
  ·exact h2 a ha
theorem skD_app : ∀ (d x:List Int),(∀ c ∈ d,isD c=true)→ND x→skD (d++x)=x
 | [],[],_,_=>rfl
 | [],c :: x,_,h=>by
  rw [List.nil_append,skD,if_neg (by simp [h c x rfl])]
 | c :: d,x,h,hx=>by
  rw [List.cons_append,skD,if_pos (h c (by simp))];exact skD_app d x (fun a ha=>h a (List.mem_cons_of_mem _ ha)) hx
theorem ND_part {e r : List Int} (h:ND (e++r)):ND e:=fun c t he=>h c (t++r) (by rw [he];rfl)
def Cut (F : List Int→Option (List Int)) (l r:List Int):Prop:=∃ v,l=v++r∧F v=some []∧∀ c ∈ v,NC c
theorem digL_cut {l r : List Int} (h:digL l=some r):∃ d,l=d++r∧(∀ c ∈ d,NC c)∧ND r∧∀ x,ND x→digL (d++x)=some x:=by
 unfold digL at h
 split at h
 ·cases h
 ·rename_i c t;split at h
  ·rename_i hc;cases h;obtain ⟨d,h1,h2,h3⟩:=skD_split t;refine ⟨c :: d,by rw [List.cons_append,← h1],fun a ha=>?_,h3,fun x hx=>?_⟩
   ·rcases List.mem_cons.mp ha with rfl|ha
    ·exact isD_NC hc
    ·exact isD_NC (h2 a ha)
   ·rw [List.cons_append,digL,if_pos hc,skD_app d x h2 hx]
  ·cases h
theorem ND_nil : ND []:=fun c r h=>by cases h
theorem expL_cut {l r : List Int} (h:expL l=some r):Cut expL l r:=by
 unfold expL at h
 split at h
 ·cases h;exact ⟨[],rfl,rfl,fun _ h=>by simp at h⟩
 ·rename_i c t;split at h
  ·rename_i hc;have hN:NC c:=by unfold NC;omega
   split at h
   ·cases h
   ·rename_i d t;split at h
    ·rename_i hd;obtain ⟨v,h1,h2,h3,h4⟩:=digL_cut h;refine ⟨c :: d :: v,by rw [h1];rfl,?_,fun a ha=>?_⟩
     ·have:=h4 [] ND_nil;rw [List.append_nil] at this;simp only [expL,if_pos hc,if_pos hd,this]
     ·rcases List.mem_cons.mp ha with rfl|ha
      ·exact hN
      rcases List.mem_cons.mp ha with rfl|ha
      ·unfold NC;omega
      ·exact h2 a ha
    ·rename_i hd;obtain ⟨v,h1,h2,h3,h4⟩:=digL_cut h;have h5:=h4 [] ND_nil;rw [List.append_nil] at h5;cases v with
     | nil=>simp [digL] at h5
     | cons d' v =>
      obtain ⟨rfl,rfl⟩:=List.cons.inj h1;refine ⟨c :: d :: v,rfl,by simp only [expL,if_pos hc,if_neg hd,h5],fun a ha=>?_⟩;rcases List.mem_cons.mp ha with rfl|ha
      ·exact hN
      ·exact h2 a ha
  ·cases h;exact ⟨[],rfl,rfl,fun _ h=>by simp at h⟩
theorem fracL_cut {l r : List Int} (h:fracL l=some r):Cut fracL l r:=by
 unfold fracL at h
 split at h
 ·cases h;exact ⟨[],rfl,rfl,fun _ h=>by simp at h⟩
 ·rename_i c t;split at h
  ·rename_i hc;obtain ⟨u,h1,h2⟩:=Option.bind_eq_some_iff.mp h;obtain ⟨d,rfl,k2,k3,k4⟩:=digL_cut h1;obtain ⟨e,rfl,k6,k7⟩:=expL_cut h2;refine ⟨c :: (d++e),by simp,?_,fun a ha=>?_⟩
   ·simp only [fracL,if_pos hc,k4 e (ND_part k3),Option.bind_some,k6]
   ·rcases List.mem_cons.mp ha with rfl|ha
    ·unfold NC;omega
    ·exact (List.mem_append.mp ha).elim (k2 a) (k7 a)
  ·rename_i hc;obtain ⟨v,h1,h2,h3⟩:=expL_cut h;cases v with
   | nil=>exact ⟨[],h1,rfl,h3⟩
   | cons c' v =>
    obtain ⟨rfl,rfl⟩:=List.cons.inj h1;exact ⟨c :: v,rfl,by simp only [fracL,if_neg hc,h2],h3⟩
theorem intL_cut {l r : List Int} (h:intL l=some r):Cut intL l r∧∀ c t,l=c :: t→isD c=true:=by
 unfold intL at h
 split at h
 ·cases h
 ·rename_i c t;split at h
  ·rename_i hc;obtain ⟨v,rfl,h2,h3⟩:=fracL_cut h;refine ⟨⟨c :: v,rfl,by simp only [intL,if_pos hc,h2],fun a ha=>?_⟩,fun a t e=>?_⟩
   ·rcases List.mem_cons.mp ha with rfl|ha
    ·unfold NC;omega
    ·exact h3 a ha
   ·cases e;rw [hc];rfl
  ·rename_i hc;split at h
   ·rename_i hd;obtain ⟨v,h1,h2,h3⟩:=fracL_cut h;obtain ⟨d,k1,k2,k3⟩:=skD_split t;rw [h1] at k1 k3;refine ⟨⟨c :: (d++v),by rw [k1];simp,?_,fun a ha=>?_⟩,fun a t e=>by cases e;exact hd⟩
    ·simp only [intL,if_neg hc,if_pos hd,skD_app d v k2 (ND_part k3),h2]
    ·rcases List.mem_cons.mp ha with rfl|ha
     ·exact isD_NC hd
     ·exact (List.mem_append.mp ha).elim (fun h=>isD_NC (k2 a h)) (h3 a)
   ·cases h
theorem numL_cut {l r : List Int} (h:numL l=some r):Cut numL l r:=by
 unfold numL at h
 split at h
 ·cases h
 ·rename_i c t;split at h
  ·rename_i hc;obtain ⟨⟨v,rfl,h2,h3⟩,_⟩:=intL_cut h;refine ⟨c :: v,rfl,by simp only [numL,if_pos hc,h2],fun a ha=>?_⟩;rcases List.mem_cons.mp ha with rfl|ha
   ·unfold NC;omega
   ·exact h3 a ha
  ·rename_i hc;obtain ⟨⟨v,h1,h2,h3⟩,_⟩:=intL_cut h;cases v with
   | nil=>simp [intL] at h2
   | cons c' v =>
    obtain ⟨rfl,rfl⟩:=List.cons.inj h1;exact ⟨c :: v,rfl,by simp only [numL,if_neg hc,h2],h3⟩
theorem numL_head {v r : List Int} (h:numL v=some r):∃ c t,v=c :: t∧(c=45∨isD c=true):=by
 unfold numL at h
 split at h
 ·cases h
 ·rename_i c t;split at h
  ·rename_i hc;exact ⟨c,t,rfl, .inl hc⟩
  ·exact ⟨c,t,rfl, .inr ((intL_cut h).2 c t rfl)⟩
theorem numL_all {v : List Int} (h:numL v=some []):∀ c ∈ v,NC c:=by
 obtain ⟨w,h1,_,h3⟩:=numL_cut h;rw [List.append_nil] at h1;subst h1;exact h3
mutual
inductive PV : Nat → List Int→S34→Prop
  | str {a:Nat} {v b:List Int} {p:S34}:Body b→v=34 :: (b++[34])→p=⟨4,(a:Int),((a+v.length:Nat):Int),[],[]⟩→PV a v p
  | sca {a:Nat} {v:List Int} {k:Int} {p:S34}:(k=3∧numL v=some []∨k=0∧v=nullW∨k=1∧v=falseW∨k=2∧v=trueW)→p=⟨k,(a:Int),((a+v.length:Nat):Int),[],[]⟩→PV a v p
  | obj0 {a:Nat} {v B:List Int} {p:S34}:Bl B→v=123 :: (B++[125])→p=⟨6,(a:Int),((a+v.length:Nat):Int),[],[]⟩→PV a v p
  | obj {a:Nat} {v B m:List Int} {ns:List S60} {ps:List S34} {p:S34}:Bl B→PM (a+1+B.length) m ns ps→v=123 :: (B++m)→p=⟨6,(a:Int),((a+v.length:Nat):Int),ns,ps⟩→PV a v p
  | arr0 {a:Nat} {v B:List Int} {p:S34}:Bl B→v=91 :: (B++[93])→p=⟨5,(a:Int),((a+v.length:Nat):Int),[],[]⟩→PV a v p
  | arr {a:Nat} {v B m:List Int} {ps:List S34} {p:S34}:Bl B→PE (a+1+B.length) m ps→v=91 :: (B++m)→p=⟨5,(a:Int),((a+v.length:Nat):Int),[],ps⟩→PV a v p
inductive PM : Nat → List Int→List S60→List S34→Prop
  | one {a:Nat} {m b B1 B2 v B3:List Int} {p:S34} {ns:List S60} {ps:List S34}:Body b→Bl B1→Bl B2→Bl B3→PV (a+b.length+2+B1.length+1+B2.length) v p →
      m=34 :: (b++34 :: (B1++58 :: (B2++(v++(B3++[125])))))→ns=[⟨(a:Int),((a+b.length+2:Nat):Int)⟩]→ps=[p]→PM a m ns ps
  | more {a:Nat} {m b B1 B2 v B3 B4 m':List Int} {p:S34} {ns ns':List S60} {ps ps':List S34}:Body b→Bl B1→Bl B2→Bl B3→Bl B4→PV (a+b.length+2+B1.length+1+B2.length) v p →
      PM (a+b.length+2+B1.length+1+B2.length+v.length+B3.length+1+B4.length) m' ns' ps' →
      m=34 :: (b++34 :: (B1++58 :: (B2++(v++(B3++44 :: (B4++m'))))))→ns=⟨(a:Int),((a+b.length+2:Nat):Int)⟩ :: ns'→ps=p :: ps'→PM a m ns ps
inductive PE : Nat → List Int→List S34→Prop
  | one {a:Nat} {m v B:List Int} {p:S34} {ps:List S34}:Bl B→PV a v p→m=v++(B++[93])→ps=[p]→PE a m ps
  | more {a:Nat} {m v B B' m':List Int} {p:S34} {ps ps':List S34}:Bl B→Bl B'→PV a v p→PE (a+v.length+B.length+1+B'.length) m' ps'→m=v++(B++44 :: (B'++m'))→ps=p :: ps'→PE a m ps
end
theorem PV.at {a : Nat} {v:List Int} {p:S34} (h:PV a v p):p.f1=(a:Int)∧p.f2=((a+v.length:Nat):Int):=by
 cases h<;>(rename_i e;subst e;exact ⟨rfl,rfl⟩)
def V1 (c : Int):Prop:=c=34∨c=123∨c=91∨c=45∨isD c=true∨c=110∨c=102∨c=116
theorem V1.nb {c : Int} (h:V1 c):isB c=false:=by
 unfold V1 isD at h
 simp only [decide_eq_true_eq] at h
 simp only [isB,decide_eq_false_iff_not];omega
theorem PV.head {a : Nat} {v:List Int} {p:S34} (h:PV a v p):∃ c t,v=c :: t∧V1 c:=by
 unfold V1;cases h with
 | str _ e _=>exact ⟨_,_,e, .inl rfl⟩
 | sca h _ =>
  rcases h with ⟨_,h⟩|⟨_,h⟩|⟨_,h⟩|⟨_,h⟩
  ·obtain ⟨c,t,e,h⟩:=numL_head h;exact ⟨c,t,e,by rcases h with h|h<;>simp [h]⟩
  ·exact ⟨_,_,h,by simp⟩
  ·exact ⟨_,_,h,by simp⟩
  ·exact ⟨_,_,h,by simp⟩
 | obj0 _ e _=>exact ⟨_,_,e,by simp⟩
 | obj _ _ e _=>exact ⟨_,_,e,by simp⟩
 | arr0 _ e _=>exact ⟨_,_,e,by simp⟩
 | arr _ _ e _=>exact ⟨_,_,e,by simp⟩
theorem PV.pos {a : Nat} {v:List Int} {p:S34} (h:PV a v p):0<v.length:=by
 obtain ⟨c,t,rfl,_⟩:=h.head;simp
end Go.Proofs.Ytchhndbekjgimaa.J
end
section
namespace Go.Proofs.Ytchhndbekjgimaa.J
open Go.RowKit Go.Proofs.Ytchhndbekjgimaa.S Go.Proofs.YtchhndbekjgimaaW.PrintWords Go.Proofs.YtchhndbekjgimaaW.PrintLast
set_option linter.unusedVariables false

theorem Ev_shift {α : Type} {g:Nat→Option α} {r:α} (h:Ev (fun k=>g (k+1)) r):Ev g r:=Ev.step (fun _=>rfl) h
def PN (s : ByteArray) (l:List Int):Nat:=s.size - l.length
theorem P_PN (s : ByteArray) (l:List Int):P s l=(PN s l:Int):=rfl
theorem PN_app {s : ByteArray} {x l:List Int} (h:(x++l).length≤s.size):PN s l=PN s (x++l)+x.length:=by
 unfold PN;rw [List.length_append] at *;omega
def VA (s : ByteArray) (l:List Int):Prop :=
  (∀ r,valL l=some r→∃ (v:List Int) (p:S34),l=v++r∧PV (PN s l) v p∧Suf s r∧Ev (fun k=>j1l.f k s (P s l)) (p.f0,p.f1,p.f2,p.f3,p.f4,true,s,P s r)) ∧
  (valL l=none→∃ a b c d e q,Ev (fun k=>j1l.f k s (P s l)) (a,b,c,d,e,false,s,q))
def EA (s : ByteArray) (l:List Int):Prop:=∀ x4:List S34,x4.length+l.length≤s.size →
  (∀ r,elsL l=some r→∃ (m:List Int) (ys:List S34),l=m++r∧PE (PN s l) m ys∧Suf s r∧Ev (fun k=>j1k.l0 k x4 s (P s l)) (x4++ys,true,s,P s r)) ∧
  (elsL l=none→∃ ys q,Ev (fun k=>j1k.l0 k x4 s (P s l)) (ys,false,s,q))
def MA (s : ByteArray) (l:List Int):Prop:=∀ (x5:List S60) (x6:List S34),x5.length+l.length≤s.size→x6.length+l.length≤s.size →
  (∀ r,memL l=some r→∃ (m:List Int) (ns:List S60) (ys:List S34),l=m++r∧PM (PN s l) m ns ys∧Suf s r∧Ev (fun k=>j1e.l0 k x5 x6 s (P s l)) (x5++ns,x6++ys,true,s,P s r)) ∧
  (memL l=none→∃ ns ys q,Ev (fun k=>j1e.l0 k x5 x6 s (P s l)) (ns,ys,false,s,q))
section
variable {s : ByteArray} (hs:s.size≤2147483647)
include hs
theorem els_of {l : List Int} (h:Suf s l) (hv:VA s l) (ih:∀ u,u.length<l.length→Suf s u→EA s u):EA s l:=by
 intro x4 hn;have hs':s.size≤140737488351232:=by omega
 cases e:valL l with
 | none =>
  obtain ⟨a,b,c,d,e',q,hq⟩:=hv.2 e;refine ⟨fun r hr=>(by rw [elsL.eq_def,e] at hr;cases hr),fun _=>⟨[],q,Ev_shift ?_⟩⟩;simp only [j1k.l0];exact Ev.bind hq (Ev.congr (fun _=>if_neg (by simp)) (Ev.now _))
 | some t =>
  obtain ⟨V,⟨p0,p1,p2,p3,p4⟩,hlV,hp,ht,hq⟩:=hv.1 t e;have hlen:=valL_len e
  have e1:elsL l=(match skB t with
   | []=>none
   | c :: u=>if c=93 then some u else if c=44 then elsL (skB u) else none):=by
   rw [elsL.eq_def,e];simp only [if_pos hlen];split<;>rename_i h1<;>rw [h1]
  obtain ⟨B,hB,hBt⟩:=j3g t;have hle:=h.le;have hb:=j3i hs' t ht;have hbS:=ht.skB;have hbl:=j3b t
  have go:∀ {R},Ev (fun k=>(j1d.f s (P s (skB t)) 93).bind fun bt206=>(if bt206.1=true then (some (x4++[(⟨p0,p1,p2,p3,p4⟩:S34)],true,bt206.2.1,bt206.2.2)) else ((j1d.f bt206.2.1 bt206.2.2 44).bind fun bt209=>(if bt209.1=true then ((j1c.f k bt209.2.1 bt209.2.2).bind fun bt212=>(j1k.l0 k (x4++[(⟨p0,p1,p2,p3,p4⟩:S34)]) bt212.1 bt212.2)) else (some (([]:List S34),false,bt209.2.1,bt209.2.2)))))) R →
   Ev (fun k=>j1k.l0 k x4 s (P s l)) R:=fun {R} hR=>by
   refine Ev_shift ?_;simp only [j1k.l0];refine Ev.bind hq (Ev.congr (fun _=>if_pos rfl) (Ev.congr (fun _=>if_pos (by omega)) ?_));exact Ev.bind (a:=x4++[(⟨p0,p1,p2,p3,p4⟩:S34)]) (Ev.now _) (Ev.bind hb hR)
  rw [e1]
  match h5:skB t,hbS with
  | [],_ =>
   refine ⟨fun r hr=>(by cases hr),fun _=>⟨[],P s [],go ?_⟩⟩;rw [h5];refine Ev.congr (fun k=>?_) (Ev.now _);simp only [take_nil,Option.bind_some,Bool.false_eq_true,if_false]
  | c :: u,hbS =>
   rw [h5] at hbl;simp only [List.length_cons] at hbl;by_cases e93:c=93
   ·refine ⟨fun r hr=>?_,fun hr=>(by simp only [if_pos e93] at hr;cases hr)⟩;simp only [if_pos e93,Option.some.injEq] at hr;subst hr;refine ⟨V++(B++[93]),[(⟨p0,p1,p2,p3,p4⟩:S34)],by rw [hlV,hBt,h5,e93];simp, .one hB hp rfl rfl,hbS.tail,go ?_⟩;rw [h5];refine Ev.congr (fun k=>?_) (Ev.now _);simp only [j3e hs' hbS,if_pos e93,Option.bind_some,if_true]
   by_cases e44:c=44
   rotate_left
   ·refine ⟨fun r hr=>(by simp only [if_neg e93,if_neg e44] at hr;cases hr),fun _=>⟨[],P s (c :: u),go ?_⟩⟩;rw [h5];refine Ev.congr (fun k=>?_) (Ev.now _);simp only [j3e hs' hbS,if_neg e93,if_neg e44,Option.bind_some,Bool.false_eq_true,if_false]
   have hu:=j3b u;have hE:=ih (skB u) (by omega) hbS.tail.skB (x4++[(⟨p0,p1,p2,p3,p4⟩:S34)]) zq86;have hb2:=j3i hs' u hbS.tail
   have go2:∀ {R},Ev (fun k=>j1k.l0 k (x4++[(⟨p0,p1,p2,p3,p4⟩:S34)]) s (P s (skB u))) R→Ev (fun k=>j1k.l0 k x4 s (P s l)) R:=fun {R} hR=>by
    refine go ?_;rw [h5];simp only [j3e hs' hbS,if_neg e93,if_pos e44,Option.bind_some,if_true,Bool.false_eq_true,if_false];exact Ev.bind hb2 hR
   simp only [if_neg e93,if_pos e44];refine ⟨fun r hr=>?_,fun hr=>?_⟩
   ·obtain ⟨m,ys,h6,h9,h7,h8⟩:=hE.1 r hr;obtain ⟨B',hB',hBu⟩:=j3g u;have el:l=V++(B++44 :: (B'++skB u)):=by conv=>lhs;rw [hlV,hBt,h5,e44,hBu]
    have ei:PN s l+V.length+B.length+1+B'.length=PN s (skB u):=by
     have:=congrArg List.length el;simp only [List.length_append,List.length_cons] at this;unfold PN;omega
    refine ⟨V++(B++44 :: (B'++m)),⟨p0,p1,p2,p3,p4⟩ :: ys,by rw [el,h6];simp, .more hB hB' hp (by rw [ei];exact h9) rfl rfl,h7,?_⟩;have:=go2 h8;rw [List.append_assoc] at this;exact this
   ·obtain ⟨ys,q,h8⟩:=hE.2 hr;exact ⟨ys,q,go2 h8⟩
theorem mem_of {l : List Int} (h:Suf s l) (hv:∀ u,u.length<l.length→Suf s u→VA s u) (ih:∀ u,u.length<l.length→Suf s u→MA s u):MA s l:=by
 intro x5 x6 hn hm;have hs':s.size≤140737488351232:=by omega
 have bad:∀ q,Ev (fun k=>j1e.j1 k x5 x6 (P s l) true s q) ([],[],false,s,q):=fun q=>by
  refine Ev_shift ?_;simp only [j1e.j1];exact Ev.congr (fun _=>if_pos trivial) (Ev.now _)
 match l,h with
 | [],h =>
  refine ⟨fun r hr=>(by rw [memL.eq_def] at hr;cases hr),fun _=>⟨[],[],P s [],Ev_shift ?_⟩⟩;simp only [j1e.l0,here_P0,Option.bind_some];exact Ev.congr (fun _=>if_neg zq50) (bad _)
 | c :: l,h =>
  by_cases e34:c=34
  rotate_left
  ·refine ⟨fun r hr=>(by rw [memL.eq_def] at hr;simp only [if_neg e34] at hr;cases hr),fun _=>⟨[],[],P s (c :: l),Ev_shift ?_⟩⟩;simp only [j1e.l0,here_P h,Option.bind_some];exact Ev.congr (fun _=>if_neg e34) (bad _)
  subst e34;have hq:=quoted_P hs' h
  have st:∀ {b q R},Ev (fun k=>j1p.f k s (P s (34 :: l))) (b,s,q)→Ev (fun k=>j1e.j1 k x5 x6 (P s (34 :: l)) (!b) s q) R→Ev (fun k=>j1e.l0 k x5 x6 s (P s (34 :: l))) R:=fun {b q R} ha hb=>by
   refine Ev_shift ?_;simp only [j1e.l0,here_P h,Option.bind_some];exact Ev.congr (fun _=>if_pos trivial) (Ev.bind ha hb)
  cases e:strL l with
  | none =>
   obtain ⟨q,hq2⟩:=hq.2 e;refine ⟨fun r hr=>(by rw [memL_bad e] at hr;cases hr),fun _=>⟨[],[],q,st hq2 (bad _)⟩⟩
  | some t =>
   have hq2:=hq.1 t e;obtain ⟨b,hB,eB⟩:=strL_iff.mp e;have ht:Suf s t:=h.tail.str e;have hlen:=strL_len _ _ _ (Nat.le_refl _) e;simp only [List.length_cons] at hn hm hlen;have hle:=h.le;simp only [List.length_cons] at hle;obtain ⟨B1,hB1,hBt⟩:=j3g t;have hb:=j3i hs' t ht;have hbS:=ht.skB;have hbl:=j3b t
   have go:∀ {R},Ev (fun k=>(j1d.f s (P s (skB t)) 58).bind fun bt152=>(if bt152.1=true then ((j1c.f k bt152.2.1 bt152.2.2).bind fun bt155=>((j1l.f k bt155.1 bt155.2).bind fun bt157=>(if bt157.2.2.2.2.2.1=true then (if x6.length<1954687338268 then ((some (x6++[(⟨bt157.1,bt157.2.1,bt157.2.2.1,bt157.2.2.2.1,bt157.2.2.2.2.1⟩:S34)]:List S34)).bind fun y170=>((j1c.f k bt157.2.2.2.2.2.2.1 bt157.2.2.2.2.2.2.2).bind fun bt173=>((j1d.f bt173.1 bt173.2 125).bind fun bt175=>(if bt175.1=true then (some (x5++[(⟨P s (34 :: l),P s t⟩:S60)],y170,true,bt175.2.1,bt175.2.2)) else ((j1d.f bt175.2.1 bt175.2.2 44).bind fun bt178=>(if bt178.1=true then ((j1c.f k bt178.2.1 bt178.2.2).bind fun bt181=>(j1e.l0 k (x5++[(⟨P s (34 :: l),P s t⟩:S60)]) y170 bt181.1 bt181.2)) else (some (([]:List S60),([]:List S34),false,bt178.2.1,bt178.2.2)))))))) else (none)) else (some (([]:List S60),([]:List S34),false,bt157.2.2.2.2.2.2.1,bt157.2.2.2.2.2.2.2))))) else (some (([]:List S60),([]:List S34),false,bt152.2.1,bt152.2.2)))) R →
    Ev (fun k=>j1e.l0 k x5 x6 s (P s (34 :: l))) R:=fun {R} hR=>by
    refine st hq2 (Ev_shift ?_);simp only [j1e.j1];refine Ev.congr (fun _=>if_neg zq50) (Ev.congr (fun _=>if_pos (by omega)) ?_);exact Ev.bind (a:=x5++[(⟨P s (34 :: l),P s t⟩:S60)]) (Ev.now _) (Ev.bind hb hR)
   have e1:memL (34 :: l)=(match skB t with
    | []=>none
    | d :: u=>if d=58 then (match valL (skB u) with
     | none=>none
     | some v=>(match skB v with
      | []=>none
      | e :: x=>if e=125 then some x else if e=44 then memL (skB x) else none)) else none):=by
    rw [memL.eq_def];simp only [if_true];split
    ·rename_i h0;rw [h0] at e;cases e
    ·rename_i t' h0;rw [h0] at e;cases e;split
     ·rename_i h1;rw [h1]
     ·rename_i d u h1;rw [h1];simp only;split
      ·split
       ·rename_i h2;first|rfl|rw [h2]
       ·rename_i v h2
        first|rw [h2]|skip
        try simp only
        have k1:=valL_len h2;have k2:=j3b u;have k3:=j3b t;rw [h1] at k3;simp only [List.length_cons] at k3;rw [if_pos (by omega)];split<;>rename_i h3<;>rw [h3]
      ·rfl
   rw [e1]
   match h7:skB t,hbS with
   | [],_ =>
    refine ⟨fun r hr=>(by cases hr),fun _=>⟨[],[],P s [],go ?_⟩⟩;rw [h7];refine Ev.congr (fun k=>?_) (Ev.now _);simp only [take_nil,Option.bind_some,Bool.false_eq_true,if_false]
   | d :: u,hbS =>
    rw [h7] at hbl;simp only [List.length_cons] at hbl;by_cases e58:d=58
    rotate_left
    ·refine ⟨fun r hr=>(by simp only [if_neg e58] at hr;cases hr),fun _=>⟨[],[],P s (d :: u),go ?_⟩⟩;rw [h7];refine Ev.congr (fun k=>?_) (Ev.now _);simp only [j3e hs' hbS,if_neg e58,Option.bind_some,Bool.false_eq_true,if_false]
    have hu:=j3b u;have hb2:=j3i hs' u hbS.tail;have hV:=hv (skB u) (by simp only [List.length_cons];omega) hbS.tail.skB;simp only [if_pos e58];cases e3:valL (skB u) with
    | none =>
     obtain ⟨a1,a2,a3,a4,a5,q,hq3⟩:=hV.2 e3;refine ⟨fun r hr=>(by cases hr),fun _=>⟨[],[],q,go ?_⟩⟩;rw [h7];simp only [j3e hs' hbS,if_pos e58,Option.bind_some,if_true];exact Ev.bind hb2 (Ev.bind hq3 (Ev.congr (fun _=>if_neg (by simp)) (Ev.now _)))
    | some v =>
     obtain ⟨V,⟨p0,p1,p2,p3,p4⟩,hlV,hp,hvS,hq3⟩:=hV.1 v e3;obtain ⟨B2,hB2,hBu⟩:=j3g u;obtain ⟨B3,hB3,hBv⟩:=j3g v;have hvl:=valL_len e3;have hb3:=j3i hs' v hvS;have hb3S:=hvS.skB;have hb3l:=j3b v;have el:34 :: l=34 :: (b++34 :: (B1++58 :: (B2++(V++(B3++skB v))))):=by conv=>lhs;rw [eB,hBt,h7,e58,hBu,hlV,hBv]
     have eN:P s t=((PN s (34 :: l)+b.length+2:Nat):Int):=by
      have:=congrArg List.length eB;simp only [List.length_append,List.length_cons] at this;unfold P PN;simp only [List.length_cons];omega
     have eV:PN s (34 :: l)+b.length+2+B1.length+1+B2.length=PN s (skB u):=by
      have:=congrArg List.length el;rw [← hBv,← hlV] at this;simp only [List.length_append,List.length_cons] at this;unfold PN;simp only [List.length_cons];omega
     have go3:∀ {R},Ev (fun k=>(j1d.f s (P s (skB v)) 125).bind fun bt175=>(if bt175.1=true then (some (x5++[(⟨P s (34 :: l),P s t⟩:S60)],x6++[(⟨p0,p1,p2,p3,p4⟩:S34)],true,bt175.2.1,bt175.2.2)) else ((j1d.f bt175.2.1 bt175.2.2 44).bind fun bt178=>(if bt178.1=true then ((j1c.f k bt178.2.1 bt178.2.2).bind fun bt181=>(j1e.l0 k (x5++[(⟨P s (34 :: l),P s t⟩:S60)]) (x6++[(⟨p0,p1,p2,p3,p4⟩:S34)]) bt181.1 bt181.2)) else (some (([]:List S60),([]:List S34),false,bt178.2.1,bt178.2.2)))))) R →
      Ev (fun k=>j1e.l0 k x5 x6 s (P s (34 :: l))) R:=fun {R} hR=>by
      refine go ?_;rw [h7];simp only [j3e hs' hbS,if_pos e58,Option.bind_some,if_true];refine Ev.bind hb2 (Ev.bind hq3 (Ev.congr (fun _=>if_pos rfl) (Ev.congr (fun _=>if_pos (by omega)) ?_)));exact Ev.bind hb3 hR
     simp only
     match h8:skB v,hb3S with
     | [],_ =>
      refine ⟨fun r hr=>(by cases hr),fun _=>⟨[],[],P s [],go3 ?_⟩⟩;rw [h8];refine Ev.congr (fun k=>?_) (Ev.now _);simp only [take_nil,Option.bind_some,Bool.false_eq_true,if_false]
     | e :: x,hb3S =>
      rw [h8] at hb3l;simp only [List.length_cons] at hb3l;by_cases e125:e=125
      ·refine ⟨fun r hr=>?_,fun hr=>(by simp only [if_pos e125] at hr;cases hr)⟩;simp only [if_pos e125,Option.some.injEq] at hr;subst hr;refine ⟨34 :: (b++34 :: (B1++58 :: (B2++(V++(B3++[125]))))),[⟨P s (34 :: l),P s t⟩],[⟨p0,p1,p2,p3,p4⟩],by rw [el,h8,e125];simp, .one hB hB1 hB2 hB3 (by rw [eV];exact hp) rfl (by rw [eN,P_PN]) rfl,hb3S.tail,go3 ?_⟩;rw [h8];refine Ev.congr (fun k=>?_) (Ev.now _);simp only [j3e hs' hb3S,if_pos e125,Option.bind_some,if_true]
      by_cases e44:e=44
      rotate_left
      ·refine ⟨fun r hr=>(by simp only [if_neg e125,if_neg e44] at hr;cases hr),fun _=>⟨[],[],P s (e :: x),go3 ?_⟩⟩;rw [h8];refine Ev.congr (fun k=>?_) (Ev.now _);simp only [j3e hs' hb3S,if_neg e125,if_neg e44,Option.bind_some,Bool.false_eq_true,if_false]
      have hx:=j3b x;have hM:=ih (skB x) (by simp only [List.length_cons];omega) hb3S.tail.skB (x5++[(⟨P s (34 :: l),P s t⟩:S60)]) (x6++[(⟨p0,p1,p2,p3,p4⟩:S34)]) zq86 zq86;have hb4:=j3i hs' x hb3S.tail
      have go4:∀ {R},Ev (fun k=>j1e.l0 k (x5++[(⟨P s (34 :: l),P s t⟩:S60)]) (x6++[(⟨p0,p1,p2,p3,p4⟩:S34)]) s (P s (skB x))) R→Ev (fun k=>j1e.l0 k x5 x6 s (P s (34 :: l))) R:=fun {R} hR=>by
       refine go3 ?_;rw [h8];simp only [j3e hs' hb3S,if_neg e125,if_pos e44,Option.bind_some,if_true,Bool.false_eq_true,if_false];exact Ev.bind hb4 hR
      simp only [if_neg e125,if_pos e44];refine ⟨fun r hr=>?_,fun hr=>?_⟩
      ·obtain ⟨m,ns,ys,k1,k2,k3,k4⟩:=hM.1 r hr;obtain ⟨B4,hB4,hBx⟩:=j3g x
       have eM:PN s (34 :: l)+b.length+2+B1.length+1+B2.length+V.length+B3.length+1+B4.length=PN s (skB x):=by
        have:=congrArg List.length el;rw [h8,hBx] at this;simp only [List.length_append,List.length_cons] at this;unfold PN;simp only [List.length_cons];omega
       refine ⟨34 :: (b++34 :: (B1++58 :: (B2++(V++(B3++44 :: (B4++m)))))),⟨P s (34 :: l),P s t⟩ :: ns,⟨p0,p1,p2,p3,p4⟩ :: ys,?_, .more hB hB1 hB2 hB3 hB4 (by rw [eV];exact hp) (by rw [eM];exact k2) rfl (by rw [eN,P_PN]) rfl,k3,?_⟩
       ·rw [el,h8,e44,hBx,k1];simp
       ·have:=go4 k4;rw [List.append_assoc,List.append_assoc] at this;exact this
      ·obtain ⟨ns,ys,q,k4⟩:=hM.2 hr;exact ⟨ns,ys,q,go4 k4⟩
end
end Go.Proofs.Ytchhndbekjgimaa.J
end
section
namespace Go.Proofs.Ytchhndbekjgimaa.J
open Go.RowKit Go.Proofs.Ytchhndbekjgimaa.S Go.Proofs.YtchhndbekjgimaaW.PrintWords Go.Proofs.YtchhndbekjgimaaW.PrintLast
set_option linter.unusedVariables false

theorem wordL_head {w0 : Int} {w:List Int} {c:Int} {r:List Int} (h:c≠w0):wordL (w0 :: w) (c :: r)=none:=by
 unfold wordL;rw [if_neg];intro e;simp only [List.length_cons,List.take_succ_cons,List.cons.injEq] at e;exact h e.1
theorem nullB : bytesOf (⟨#[110,117,108,108]⟩:ByteArray)=nullW:=by decide
theorem falseB : bytesOf (⟨#[102,97,108,115,101]⟩:ByteArray)=falseW:=by decide
theorem trueB : bytesOf (⟨#[116,114,117,101]⟩:ByteArray)=trueW:=by decide
theorem wordL_suf {s : ByteArray} {w l r:List Int} (h:Suf s l) (k:wordL w l=some r):Suf s r:=by
 unfold wordL at k;split at k
 ·cases k;exact h.drop _
 ·cases k
def wdL (l : List Int):Option (List Int) :=
  match l with
  | []=>none
  | c :: r=>if c=110 then wordL nullW (c :: r) else if c=102 then wordL falseW (c :: r) else if c=116 then wordL trueW (c :: r) else none
section
variable {s : ByteArray} (hs:s.size≤2147483647)
include hs
theorem words_of {l : List Int} (h:Suf s l) :
 (∀ r,wdL l=some r→∃ (v:List Int) (p:S34),l=v++r∧PV (PN s l) v p∧Suf s r∧Ev (fun k=>j1l.j0 k true false s (P s l) 0 (P s l) 0) (p.f0,p.f1,p.f2,p.f3,p.f4,true,s,P s r)) ∧
 (wdL l=none→∃ a b c d e q,Ev (fun k=>j1l.j0 k true false s (P s l) 0 (P s l) 0) (a,b,c,d,e,false,s,q)):=by
 have hs':s.size≤140737488351232:=by omega
 have w1:=word_eq hs' h (⟨#[110,117,108,108]⟩:ByteArray) zq50;have w2:=word_eq hs' h (⟨#[102,97,108,115,101]⟩:ByteArray) zq50;have w3:=word_eq hs' h (⟨#[116,114,117,101]⟩:ByteArray) zq50;rw [nullB] at w1;rw [falseB] at w2;rw [trueB] at w3
 have yes:∀ {kd:Int} {w r:List Int},(kd=0∧w=nullW∨kd=1∧w=falseW∨kd=2∧w=trueW)→wordL w l=some r→Ev (fun k=>j1l.j0 k true false s (P s l) 0 (P s l) 0) (kd,P s l,P s r,[],[],true,s,P s r) →
  ∃ (v:List Int) (p:S34),l=v++r∧PV (PN s l) v p∧Suf s r∧Ev (fun k=>j1l.j0 k true false s (P s l) 0 (P s l) 0) (p.f0,p.f1,p.f2,p.f3,p.f4,true,s,P s r):=fun {kd w r} hk hr hE=>by
  have e:l=w++r:=by
   unfold wordL at hr;split at hr
   ·rename_i h1;cases hr
    conv=>lhs;rw [← List.take_append_drop w.length l,h1]
   ·cases hr
  refine ⟨w,⟨kd,P s l,P s r,[],[]⟩,e, .sca (k:=kd) (.inr hk) ?_,wordL_suf h hr,hE⟩;rw [P_PN,P_PN,PN_app (s:=s) (x:=w) (l:=r) (by rw [← e];exact h.le),← e]
 have no:wordL nullW l=none→wordL falseW l=none→wordL trueW l=none→∃ a b c d e q,Ev (fun k=>j1l.j0 k true false s (P s l) 0 (P s l) 0) (a,b,c,d,e,false,s,q):=fun k1 k2 k3=>by
  rw [k1] at w1;rw [k2] at w2;rw [k3] at w3;refine ⟨0,P s l,P s l,[],[],P s l,Ev_shift (Ev.congr (fun k=>?_) (Ev.now _))⟩;simp only [j1l.j0,Bool.false_eq_true,if_false,w1,w2,w3,Option.bind_some]
 match l,h with
 | [],h=>exact ⟨fun r hr=>(by cases hr),fun _=>no rfl rfl rfl⟩
 | c :: r0,h =>
  unfold wdL;by_cases e1:c=110
  ·simp only [if_pos e1];have k2:wordL falseW (c :: r0)=none:=wordL_head (by omega);have k3:wordL trueW (c :: r0)=none:=wordL_head (by omega);refine ⟨fun r hr=>?_,fun hr=>no hr k2 k3⟩;rw [hr] at w1;refine yes (kd:=0) (w:=nullW) (by simp) hr (Ev_shift (Ev.congr (fun k=>?_) (Ev.now _)));simp only [j1l.j0,Bool.false_eq_true,if_false,w1,Option.bind_some,if_true]
  have k1:wordL nullW (c :: r0)=none:=wordL_head e1;simp only [if_neg e1];by_cases e2:c=102
  ·simp only [if_pos e2];have k3:wordL trueW (c :: r0)=none:=wordL_head (by omega);refine ⟨fun r hr=>?_,fun hr=>no k1 hr k3⟩;have hr':=hr;rw [k1] at w1;rw [hr] at w2;refine yes (kd:=1) (w:=falseW) (by simp) hr' (Ev_shift (Ev.congr (fun k=>?_) (Ev.now _)));simp only [j1l.j0,Bool.false_eq_true,if_false,w1,w2,Option.bind_some,if_true]
  have k2:wordL falseW (c :: r0)=none:=wordL_head e2;simp only [if_neg e2];by_cases e3:c=116
  rotate_left
  ·simp only [if_neg e3];exact ⟨fun r hr=>(by cases hr),fun _=>no k1 k2 (wordL_head e3)⟩
  simp only [if_pos e3];refine ⟨fun r hr=>?_,fun hr=>no k1 k2 hr⟩;have hr':=hr;rw [k1] at w1;rw [k2] at w2;rw [hr] at w3;refine yes (kd:=2) (w:=trueW) (by simp) hr' (Ev_shift (Ev.congr (fun k=>?_) (Ev.now _)));simp only [j1l.j0,Bool.false_eq_true,if_false,w1,w2,w3,Option.bind_some,if_true]
theorem obj_of {c : Int} {l:List Int} (h:Suf s (c :: l)) (ih:∀ u,u.length<l.length+1→Suf s u→MA s u) :
 (∀ r,objL l=some r→∃ (v:List Int) (ns:List S60) (ys:List S34),123 :: l=v++r∧PV (PN s (c :: l)) v ⟨6,P s (c :: l),P s r,ns,ys⟩∧Suf s r∧Ev (fun k=>j1e.f k s (P s (c :: l))) (ns,ys,true,s,P s r)) ∧
 (objL l=none→∃ ns ys q,Ev (fun k=>j1e.f k s (P s (c :: l))) (ns,ys,false,s,q)):=by
 have hs':s.size≤140737488351232:=by omega
 have hb:=j3i hs' l h.tail;have hbS:=h.tail.skB;have hbl:=j3b l
 have go:∀ {R},Ev (fun k=>(j1d.f s (P s (skB l)) 125).bind fun bt138=>(if bt138.1=true then (some (([]:List S60),([]:List S34),true,bt138.2.1,bt138.2.2)) else (j1e.l0 k ([]:List S60) ([]:List S34) bt138.2.1 bt138.2.2))) R→Ev (fun k=>j1e.f k s (P s (c :: l))) R:=fun {R} hR=>by
  refine Ev_shift ?_;simp only [j1e.f,up_P hs' h];exact Ev.bind hb hR
 have e1:objL l=(match skB l with
  | []=>none
  | c :: r=>if c=125 then some r else memL (c :: r)):=by
  rw [objL.eq_def];split<;>rename_i h1<;>rw [h1]
 rw [e1]
 match h5:skB l,hbS with
 | [],hbS =>
  rw [h5] at go hbl;have hM:=ih [] (by simp) hbS [] [] (by simp) (by simp);refine ⟨fun r hr=>(by cases hr),fun _=>?_⟩;obtain ⟨ns,ys,q,hq⟩:=hM.2 (by rw [memL.eq_def]);refine ⟨ns,ys,q,go ?_⟩;simp only [take_nil,Option.bind_some,Bool.false_eq_true,if_false];exact hq
 | d :: u,hbS =>
  rw [h5] at go hbl;simp only [List.length_cons] at hbl;by_cases e:d=125
  ·refine ⟨fun r hr=>?_,fun hr=>(by simp only [if_pos e] at hr;cases hr)⟩;simp only [if_pos e,Option.some.injEq] at hr;subst hr;obtain ⟨B,hB,hBl⟩:=j3g l;have el:123 :: l=(123 :: (B++[125]))++u:=by rw [hBl,h5,e];simp
   refine ⟨123 :: (B++[125]),[],[],el, .obj0 hB rfl ?_,hbS.tail,go (Ev.congr (fun k=>?_) (Ev.now _))⟩
   ·have:=congrArg List.length el;have hle:=h.le;simp only [List.length_append,List.length_cons] at this hle;unfold P PN;simp only [List.length_append,List.length_cons]
    congr 1
    omega
   simp only [j3e hs' hbS,if_pos e,Option.bind_some,if_true]
  have hle:=hbS.le;have hM:=ih (d :: u) (by simp only [List.length_cons];omega) hbS [] [] (by simpa using hle) (by simpa using hle)
  have go2:∀ {R},Ev (fun k=>j1e.l0 k [] [] s (P s (d :: u))) R→Ev (fun k=>j1e.f k s (P s (c :: l))) R:=fun {R} hR=>by
   refine go ?_;simp only [j3e hs' hbS,if_neg e,Option.bind_some,Bool.false_eq_true,if_false];exact hR
  simp only [if_neg e];refine ⟨fun r hr=>?_,fun hr=>?_⟩
  ·obtain ⟨m,ns,ys,k1,k2,k3,k4⟩:=hM.1 r hr;obtain ⟨B,hB,hBl⟩:=j3g l;have el:123 :: l=(123 :: (B++m))++r:=by rw [hBl,h5,k1];simp
   have e2:=congrArg List.length el;have hle:=h.le;have e3:=congrArg List.length k1;simp only [List.length_append,List.length_cons] at e2 hle e3;refine ⟨123 :: (B++m),ns,ys,el, .obj hB (m:=m) (ns:=ns) (ps:=ys) ?_ rfl ?_,k3,go2 k4⟩
   ·rw [show PN s (c :: l)+1+B.length=PN s (d :: u) by unfold PN;simp only [List.length_cons];omega];exact k2
   ·unfold P PN;simp only [List.length_append,List.length_cons]
    congr 1
    omega
  ·obtain ⟨ns,ys,q,k4⟩:=hM.2 hr;exact ⟨ns,ys,q,go2 k4⟩
theorem arr_of {c : Int} {l:List Int} (h:Suf s (c :: l)) (ih:∀ u,u.length<l.length+1→Suf s u→EA s u) :
 (∀ r,arrL l=some r→∃ (v:List Int) (ys:List S34),91 :: l=v++r∧PV (PN s (c :: l)) v ⟨5,P s (c :: l),P s r,[],ys⟩∧Suf s r∧Ev (fun k=>j1k.f k s (P s (c :: l))) (ys,true,s,P s r)) ∧
 (arrL l=none→∃ ys q,Ev (fun k=>j1k.f k s (P s (c :: l))) (ys,false,s,q)):=by
 have hs':s.size≤140737488351232:=by omega
 have hb:=j3i hs' l h.tail;have hbS:=h.tail.skB;have hbl:=j3b l
 have go:∀ {R},Ev (fun k=>(j1d.f s (P s (skB l)) 93).bind fun bt185=>(if bt185.1=true then (some (([]:List S34),true,bt185.2.1,bt185.2.2)) else (j1k.l0 k ([]:List S34) bt185.2.1 bt185.2.2))) R→Ev (fun k=>j1k.f k s (P s (c :: l))) R:=fun {R} hR=>by
  refine Ev_shift ?_;simp only [j1k.f,up_P hs' h];exact Ev.bind hb hR
 have e1:arrL l=(match skB l with
  | []=>none
  | c :: r=>if c=93 then some r else elsL (c :: r)):=by
  rw [arrL.eq_def];split<;>rename_i h1<;>rw [h1]
 rw [e1]
 match h5:skB l,hbS with
 | [],hbS =>
  rw [h5] at go hbl;have hM:=ih [] (by simp) hbS [] (by simp);refine ⟨fun r hr=>(by cases hr),fun _=>?_⟩;obtain ⟨ys,q,hq⟩:=hM.2 (by rw [elsL.eq_def,valL.eq_def]);refine ⟨ys,q,go ?_⟩;simp only [take_nil,Option.bind_some,Bool.false_eq_true,if_false];exact hq
 | d :: u,hbS =>
  rw [h5] at go hbl;simp only [List.length_cons] at hbl;by_cases e:d=93
  ·refine ⟨fun r hr=>?_,fun hr=>(by simp only [if_pos e] at hr;cases hr)⟩;simp only [if_pos e,Option.some.injEq] at hr;subst hr;obtain ⟨B,hB,hBl⟩:=j3g l;have el:91 :: l=(91 :: (B++[93]))++u:=by rw [hBl,h5,e];simp
   refine ⟨91 :: (B++[93]),[],el, .arr0 hB rfl ?_,hbS.tail,go (Ev.congr (fun k=>?_) (Ev.now _))⟩
   ·have:=congrArg List.length el;have hle:=h.le;simp only [List.length_append,List.length_cons] at this hle;unfold P PN;simp only [List.length_append,List.length_cons]
    congr 1
    omega
   simp only [j3e hs' hbS,if_pos e,Option.bind_some,if_true]
  have hle:=hbS.le;have hM:=ih (d :: u) (by simp only [List.length_cons];omega) hbS [] (by simpa using hle)
  have go2:∀ {R},Ev (fun k=>j1k.l0 k [] s (P s (d :: u))) R→Ev (fun k=>j1k.f k s (P s (c :: l))) R:=fun {R} hR=>by
   refine go ?_;simp only [j3e hs' hbS,if_neg e,Option.bind_some,Bool.false_eq_true,if_false];exact hR
  simp only [if_neg e];refine ⟨fun r hr=>?_,fun hr=>?_⟩
  ·obtain ⟨m,ys,k1,k2,k3,k4⟩:=hM.1 r hr;obtain ⟨B,hB,hBl⟩:=j3g l;have el:91 :: l=(91 :: (B++m))++r:=by rw [hBl,h5,k1];simp
   have e2:=congrArg List.length el;have hle:=h.le;have e3:=congrArg List.length k1;simp only [List.length_append,List.length_cons] at e2 hle e3;refine ⟨91 :: (B++m),ys,el, .arr hB (m:=m) (ps:=ys) ?_ rfl ?_,k3,go2 k4⟩
   ·rw [show PN s (c :: l)+1+B.length=PN s (d :: u) by unfold PN;simp only [List.length_cons];omega];exact k2
   ·unfold P PN;simp only [List.length_append,List.length_cons]
    congr 1
    omega
  ·obtain ⟨ys,q,k4⟩:=hM.2 hr;exact ⟨ys,q,go2 k4⟩
theorem val_of {l : List Int} (h:Suf s l) (ihE:∀ u,u.length<l.length→Suf s u→EA s u) (ihM:∀ u,u.length<l.length→Suf s u→MA s u):VA s l:=by
 have hs':s.size≤140737488351232:=by omega
 match l,h with
 | [],h =>
  refine ⟨fun r hr=>(by rw [valL.eq_def] at hr;cases hr),fun _=>?_⟩;obtain ⟨a,b,c,d,e,q,hq⟩:=(words_of hs h).2 rfl;refine ⟨a,b,c,d,e,q,Ev_shift ?_⟩;simp only [j1l.f,here_P0,Option.bind_some];refine Ev.congr (fun k=>?_) hq;rw [if_neg zq50,if_neg zq50,if_neg zq50,if_neg zq50,if_neg zq50]
 | c :: l,h =>
  have st:∀ {R},Ev (fun k=>if c=123 then ((j1e.f k s (P s (c :: l))).bind fun bt106=>(some (6,P s (c :: l),bt106.2.2.2.2,bt106.1,bt106.2.1,bt106.2.2.1,bt106.2.2.2.1,bt106.2.2.2.2))) else (if c=91 then ((j1k.f k s (P s (c :: l))).bind fun bt115=>(some (5,P s (c :: l),bt115.2.2.2,([]:List S60),bt115.1,bt115.2.1,bt115.2.2.1,bt115.2.2.2))) else (if c=34 then ((j1p.f k s (P s (c :: l))).bind fun bt121=>(some (4,P s (c :: l),bt121.2.2,([]:List S60),([]:List S34),bt121.1,bt121.2.1,bt121.2.2))) else (if c=45 then (j1l.j0 k true true s (P s (c :: l)) 0 (P s (c :: l)) 0) else (if 48≤c then (j1l.j0 k true (decide (c≤57)) s (P s (c :: l)) 0 (P s (c :: l)) 0) else (j1l.j0 k true false s (P s (c :: l)) 0 (P s (c :: l)) 0)))))) R →
   Ev (fun k=>j1l.f k s (P s (c :: l))) R:=fun {R} hR=>by
   refine Ev_shift ?_;simp only [j1l.f,here_P h,Option.bind_some];exact hR
  have hnum:Ev (fun k=>j1l.j0 k true true s (P s (c :: l)) 0 (P s (c :: l)) 0)=Ev (fun k=>(j1f.f (k - 1) s (P s (c :: l))).bind fun bt124=>(some (3,P s (c :: l),bt124.2.2,([]:List S60),([]:List S34),bt124.1,bt124.2.1,bt124.2.2))):=by
   funext R
   apply propext
   constructor
   ·rintro ⟨K,hK⟩;refine ⟨K+1,fun k hk=>?_⟩;obtain ⟨k,rfl⟩:∃ m,k=m+1:=⟨k - 1,by omega⟩;have:=hK (k+1) (by omega)
    simpa only [j1l.j0,if_true,Nat.add_sub_cancel] using this
   ·rintro ⟨K,hK⟩;refine ⟨K+1,fun k hk=>?_⟩;obtain ⟨k,rfl⟩:∃ m,k=m+1:=⟨k - 1,by omega⟩;have:=hK (k+1) (by omega)
    simpa only [j1l.j0,if_true,Nat.add_sub_cancel] using this
  have sh:∀ {α:Type} {g:Nat→Option α} {R},Ev g R→Ev (fun k=>g (k - 1)) R:=by
   rintro α g R ⟨K,hK⟩;exact ⟨K+1,fun k hk=>hK _ (by omega)⟩
  rw [VA,valL.eq_def];simp only;by_cases e123:c=123
  ·have hO:=obj_of hs h (fun u hu hS=>ihM u (by simpa using hu) hS);simp only [if_pos e123];refine ⟨fun r hr=>?_,fun hr=>?_⟩
   ·obtain ⟨v,ns,ys,k1,k2,k3,k4⟩:=hO.1 r hr;exact ⟨v,⟨6,P s (c :: l),P s r,ns,ys⟩,by rw [e123];exact k1,k2,k3,st (Ev.congr (fun _=>if_pos e123) (Ev.bind k4 (Ev.now _)))⟩
   ·obtain ⟨ns,ys,q,k4⟩:=hO.2 hr;exact ⟨_,_,_,_,_,_,st (Ev.congr (fun _=>if_pos e123) (Ev.bind k4 (Ev.now _)))⟩
  simp only [if_neg e123];by_cases e91:c=91
  ·have hO:=arr_of hs h (fun u hu hS=>ihE u (by simpa using hu) hS);simp only [if_pos e91];refine ⟨fun r hr=>?_,fun hr=>?_⟩
   ·obtain ⟨v,ys,k1,k2,k3,k4⟩:=hO.1 r hr;exact ⟨v,⟨5,P s (c :: l),P s r,[],ys⟩,by rw [e91];exact k1,k2,k3,st (Ev.congr (fun _=>by rw [if_neg e123,if_pos e91]) (Ev.bind k4 (Ev.now _)))⟩
   ·obtain ⟨ys,q,k4⟩:=hO.2 hr;exact ⟨_,_,_,_,_,_,st (Ev.congr (fun _=>by rw [if_neg e123,if_pos e91]) (Ev.bind k4 (Ev.now _)))⟩
  simp only [if_neg e91];by_cases e34:c=34
  ·subst e34;have hq:=quoted_P hs' h;simp only [if_true];refine ⟨fun r hr=>?_,fun hr=>?_⟩
   ·obtain ⟨b,hB,eB⟩:=strL_iff.mp hr;have el:34 :: l=(34 :: (b++[34]))++r:=by rw [eB];simp
    refine ⟨34 :: (b++[34]),⟨4,P s (34 :: l),P s r,[],[]⟩,el, .str hB rfl ?_,h.tail.str hr,st (Ev.congr (fun _=>by rw [if_neg zq50,if_neg zq50,if_pos rfl]) (Ev.bind (hq.1 r hr) (Ev.now _)))⟩;have:=congrArg List.length el;have hle:=h.le;simp only [List.length_append,List.length_cons] at this hle;unfold P PN;simp only [List.length_append,List.length_cons]
    congr 1
    omega
   ·obtain ⟨q,k4⟩:=hq.2 hr;exact ⟨_,_,_,_,_,_,st (Ev.congr (fun _=>by rw [if_neg zq50,if_neg zq50,if_pos rfl]) (Ev.bind k4 (Ev.now _)))⟩
  simp only [if_neg e34];by_cases eN:c=45∨isD c=true
  rotate_left
  ·simp only [if_neg eN]
   have st2:∀ {R},Ev (fun k=>j1l.j0 k true false s (P s (c :: l)) 0 (P s (c :: l)) 0) R→Ev (fun k=>j1l.f k s (P s (c :: l))) R:=fun {R} hR=>by
    refine st (Ev.congr (fun k=>?_) hR);have e45:c≠45:=fun e=>eN (.inl e)
    rw [if_neg e123,if_neg e91,if_neg e34,if_neg e45];by_cases e48:48≤c
    rotate_left
    ·rw [if_neg e48]
    have:¬ c≤57:=fun e=>eN (.inr (by simp [isD,e48,e]))
    rw [if_pos e48,decide_eq_false this]
   have hw:=words_of hs h;refine ⟨fun r hr=>?_,fun hr=>?_⟩
   ·obtain ⟨v,p,k0,k1,k2,k3⟩:=hw.1 r hr;exact ⟨v,p,k0,k1,k2,st2 k3⟩
   ·obtain ⟨a,b,c',d,e,q,k3⟩:=hw.2 hr;exact ⟨a,b,c',d,e,q,st2 k3⟩
  simp only [if_pos eN]
  have st2:∀ {R},Ev (fun k=>j1l.j0 k true true s (P s (c :: l)) 0 (P s (c :: l)) 0) R→Ev (fun k=>j1l.f k s (P s (c :: l))) R:=fun {R} hR=>by
   refine st (Ev.congr (fun k=>?_) hR);rw [if_neg e123,if_neg e91,if_neg e34];by_cases e45:c=45
   ·rw [if_pos e45]
   have hd:isD c=true:=eN.resolve_left e45;simp only [isD,decide_eq_true_eq] at hd;rw [if_neg e45,if_pos hd.1,decide_eq_true hd.2]
  have hn:=number_P hs' h;refine ⟨fun r hr=>?_,fun hr=>?_⟩
  ·obtain ⟨k1,k2⟩:=hn.1 r hr;obtain ⟨v,el,hv,_⟩:=numL_cut hr;refine ⟨v,⟨3,P s (c :: l),P s r,[],[]⟩,el, .sca (k:=3) (.inl ⟨rfl,hv⟩) (by rw [P_PN,P_PN,PN_app (s:=s) (x:=v) (l:=r) (by rw [← el];exact h.le),← el]),k2,st2 ?_⟩;rw [hnum];exact Ev.bind (sh k1) (Ev.now _)
  ·obtain ⟨q,k1⟩:=hn.2 hr;refine ⟨3,P s (c :: l),q,[],[],q,st2 ?_⟩;rw [hnum];exact Ev.bind (sh k1) (Ev.now _)
theorem reader_all : ∀ n:Nat,∀ l,l.length≤n→Suf s l→VA s l∧EA s l∧MA s l:=by
 intro n
 induction n with
 | zero =>
  intro l hl h;have e:=List.length_eq_zero_iff.mp (Nat.le_zero.mp hl);subst e;have hv:=val_of hs h (fun u hu _=>(by simp at hu)) (fun u hu _=>(by simp at hu));exact ⟨hv,els_of hs h hv (fun u hu _=>(by simp at hu)),mem_of hs h (fun u hu _=>(by simp at hu)) (fun u hu _=>(by simp at hu))⟩
 | succ n ih =>
  intro l hl h;have hv:=val_of hs h (fun u hu hS=>(ih u (by omega) hS).2.1) (fun u hu hS=>(ih u (by omega) hS).2.2);exact ⟨hv,els_of hs h hv (fun u hu hS=>(ih u (by omega) hS).2.1),mem_of hs h (fun u hu hS=>(ih u (by omega) hS).1) (fun u hu hS=>(ih u (by omega) hS).2.2)⟩
end
def textL (l : List Int):Bool:=match valL (skB l) with
  | none=>false
  | some r=>(skB r).isEmpty
theorem places_eq {s : ByteArray} (hs:s.size≤2147483647) :
 (textL (bytesOf s)=true→∃ (B v B':List Int) (p:S34),bytesOf s=B++(v++B')∧Bl B∧Bl B'∧PV B.length v p∧Ev (fun k=>j2j.f k s) (p.f0,p.f1,p.f2,p.f3,p.f4,true)) ∧
 (textL (bytesOf s)=false→Ev (fun k=>j2j.f k s) (0,0,0,[],[],false)):=by
 have hs':s.size≤140737488351232:=by omega
 have h0:=Suf.start s;have hb:=j3i hs' _ h0;have e0:P s (bytesOf s)=0:=by unfold P;rw [bytesOf_length];simp
 rw [e0] at hb;have hV:=(reader_all hs _ _ (Nat.le_refl _) h0.skB).1;unfold textL;cases e:valL (skB (bytesOf s)) with
 | none =>
  obtain ⟨a,b,c,d,e',q,hq⟩:=hV.2 e;refine ⟨fun h=>(by cases h),fun _=>?_⟩;unfold j2j.f;exact Ev.bind hb (Ev.bind hq (Ev.congr (fun _=>if_neg (by simp)) (Ev.now _)))
 | some r =>
  obtain ⟨v,p,hlv,hp,hr,hq⟩:=hV.1 r e;have hb2:=j3i hs' r hr;have hbS:=hr.skB;simp only;cases e2:skB r with
  | nil =>
   rw [e2,P_nil] at hb2;obtain ⟨B,hB,hBl⟩:=j3g (bytesOf s);obtain ⟨B',hB',hBr⟩:=j3g r;rw [e2,List.append_nil] at hBr
   have ep:PN s (skB (bytesOf s))=B.length:=by
    have:=congrArg List.length hBl;rw [bytesOf_length,List.length_append] at this;unfold PN;omega
   rw [ep] at hp;refine ⟨fun _=>⟨B,v,B',p,by rw [hBr] at hlv;rw [← hlv];exact hBl,hB,hB',hp,?_⟩,fun h=>(by simp at h)⟩;unfold j2j.f;exact Ev.bind hb (Ev.bind hq (Ev.congr (fun _=>if_pos rfl) (Ev.bind hb2 (Ev.congr (fun _=>if_pos rfl) (Ev.now _)))))
  | cons c t =>
   rw [e2] at hb2 hbS;have:=P_lt hbS;refine ⟨fun h=>(by simp at h),fun _=>?_⟩;unfold j2j.f;exact Ev.bind hb (Ev.bind hq (Ev.congr (fun _=>if_pos rfl) (Ev.bind hb2 (Ev.congr (fun _=>if_neg (by simp only;omega)) (Ev.now _)))))
end Go.Proofs.Ytchhndbekjgimaa.J
end
section
namespace Go.Proofs.Ytchhndbekjgimaa.J
open Go.RowKit Go.Proofs.Ytchhndbekjgimaa.S Go.Proofs.YtchhndbekjgimaaW.PrintWords Go.Proofs.YtchhndbekjgimaaW.PrintLast
set_option linter.unusedVariables false
set_option linter.unusedSimpArgs false
set_option linter.unusedSectionVars false
theorem body_uniq {b b' r r':List Int} (h:Body b) (h':Body b') (e:b++34 :: r=b'++34 :: r'):b=b'∧r=r':=by
 have h1:=strL_body h r;rw [e,strL_body h' r'] at h1;have h2:=Option.some.inj h1;subst h2;exact ⟨List.append_cancel_right e,rfl⟩
inductive Sm : List Int→List Int→Prop
  | nil:Sm [] []
  | chr {c:Int} {x y:List Int}:c≠34→Sm x y→Sm (c :: x) (c :: y)
  | bl {d:Int} {x y:List Int}:(d=9∨d=13)→Sm x y→Sm (32 :: x) (d :: y)
  | str {b x y X Y:List Int}:Body b→Sm x y→X=34 :: (b++34 :: x)→Y=34 :: (b++34 :: y)→Sm X Y
theorem Sm.app {a a' b b':List Int} (h:Sm a a') (k:Sm b b'):Sm (a++b) (a'++b'):=by
 induction h with
 | nil=>exact k
 | chr hc _ ih=>exact .chr hc ih
 | bl hd _ ih=>exact .bl hd ih
 | str hb _ e e' ih =>
  subst e;subst e';exact .str hb ih (by simp) (by simp)
theorem Sm.len {a a' : List Int} (h:Sm a a'):a'.length=a.length:=by
 induction h with
 | nil=>rfl
 | chr hc _ ih=>simp [ih]
 | bl hd _ ih=>simp [ih]
 | str hb _ e e' ih=>subst e;subst e';simp [ih]
theorem Sm.lf {a a' : List Int} (h:Sm a a'):a.map (fun c=>c == 10)=a'.map (fun c=>c == 10):=by
 induction h with
 | nil=>rfl
 | chr hc _ ih=>simp [ih]
 | bl hd _ ih=>rcases hd with rfl|rfl<;>simp [ih]
 | str hb _ e e' ih=>subst e;subst e';simp [ih]
theorem Sm.cons {c : Int} {x z:List Int} (h:Sm (c :: x) z) (h1:c≠34) (h2:c≠32):∃ y,z=c :: y∧Sm x y:=by
 cases h with
 | chr _ h=>exact ⟨_,rfl,h⟩
 | bl _ _=>exact absurd rfl h2
 | str _ _ e _=>exact absurd (List.cons.inj e).1 h1
theorem Sm.blank {c : Int} {x z:List Int} (h:Sm (c :: x) z) (h1:isB c=true):∃ d y,z=d :: y∧isB d=true∧Sm x y:=by
 cases h with
 | chr _ h=>exact ⟨_,_,rfl,h1,h⟩
 | bl hd h=>exact ⟨_,_,rfl,by rcases hd with rfl|rfl<;>decide,h⟩
 | str _ _ e _=>rw [(List.cons.inj e).1] at h1;exact absurd h1 zq50
theorem Sm.quote {b x z:List Int} (hb:Body b) (h:Sm (34 :: (b++34 :: x)) z):∃ y,z=34 :: (b++34 :: y)∧Sm x y:=by
 generalize hX:34 :: (b++34 :: x)=X at h
 cases h with
 | nil=>cases hX
 | chr hc h=>exact absurd (List.cons.inj hX).1.symm hc
 | bl hd h=>exact absurd (List.cons.inj hX).1 zq50
 | str hb' h e e' =>
  rw [e] at hX;obtain ⟨rfl,rfl⟩:=body_uniq hb hb' (List.cons.inj hX).2;exact ⟨_,e',h⟩
theorem Sm.blanks : ∀ (B:List Int) {x z:List Int},Bl B→Sm (B++x) z→∃ B' y,z=B'++y∧B'.length=B.length∧Bl B'∧Sm x y
 | [],_,z,_,h=>⟨[],z,rfl,rfl,Bl.nil,h⟩
 | c :: B,x,z,hB,h=>by
  obtain ⟨d,y,rfl,hd,h⟩:=Sm.blank h (hB c (by simp));obtain ⟨B',y,rfl,hl,hB',h0⟩:=Sm.blanks B hB.tail h;clear h;have h:=h0;clear h0;refine ⟨d :: B',y,rfl,by simp [hl],fun a ha=>?_,h⟩;rcases List.mem_cons.mp ha with rfl|ha
  ·exact hd
  ·exact hB' a ha
theorem Sm.solid : ∀ (v:List Int) {x z:List Int},(∀ c ∈ v,c≠34∧c≠32)→Sm (v++x) z→∃ y,z=v++y∧Sm x y
 | [],_,z,_,h=>⟨z,rfl,h⟩
 | c :: v,x,z,hv,h=>by
  obtain ⟨h1,h2⟩:=hv c (by simp);obtain ⟨y,rfl,h0⟩:=Sm.cons h h1 h2;clear h;have h:=h0;clear h0;obtain ⟨y,rfl,h0⟩:=Sm.solid v (fun a ha=>hv a (List.mem_cons_of_mem _ ha)) h;clear h;have h:=h0;clear h0;exact ⟨y,rfl,h⟩
def SC (k : Int) (v:List Int):Prop:=k=3∧numL v=some []∨k=0∧v=nullW∨k=1∧v=falseW∨k=2∧v=trueW
theorem SC.all {k : Int} {v:List Int} (h:SC k v):∀ c ∈ v,34<c∧isB c=false:=by
 have hz:∀ c:Int,NC c→34<c∧isB c=false:=fun c hc=>by
  unfold NC at hc;refine ⟨by omega,?_⟩;simp only [isB,decide_eq_false_iff_not];omega
 rcases h with ⟨_,h⟩|⟨_,rfl⟩|⟨_,rfl⟩|⟨_,rfl⟩
 ·exact fun c hc=>hz c (numL_all h c hc)
 ·decide
 ·decide
 ·decide
def SV (a : Nat) (v:List Int) (p:S34):Prop:=∀ x z,Sm (v++x) z→∃ v' y,z=v'++y∧v'.length=v.length∧PV a v' p∧Sm x y
def SMm (a : Nat) (m:List Int) (ns:List S60) (ps:List S34):Prop:=∀ x z,Sm (m++x) z→∃ m' y,z=m'++y∧m'.length=m.length∧PM a m' ns ps∧Sm x y
def SE (a : Nat) (m:List Int) (ps:List S34):Prop:=∀ x z,Sm (m++x) z→∃ m' y,z=m'++y∧m'.length=m.length∧PE a m' ps∧Sm x y
theorem simV {a : Nat} {v:List Int} {p:S34} (h:PV a v p):SV a v p:=by
 refine PV.rec (motive_1:=fun a v p _=>SV a v p) (motive_2:=fun a m ns ps _=>SMm a m ns ps) (motive_3:=fun a m ps _=>SE a m ps) ?_ ?_ ?_ ?_ ?_ ?_ ?_ ?_ ?_ ?_ h
 ·intro a v b p hb ev ep x z hz;subst ev;rw [show 34 :: (b++[34])++x=34 :: (b++34 :: x) by simp] at hz;obtain ⟨y,rfl,h⟩:=Sm.quote hb hz;exact ⟨34 :: (b++[34]),y,by simp,rfl, .str hb rfl ep,h⟩
 ·intro a v k p hk ep x z hz;obtain ⟨y,rfl,h⟩:=Sm.solid v (fun c hc=>by obtain ⟨h1,h2⟩:=SC.all hk c hc;exact ⟨by omega,fun e=>by rw [e] at h2;exact absurd h2 zq50⟩) hz;exact ⟨v,y,rfl,rfl, .sca hk ep,h⟩
 ·intro a v B p hB ev ep x z hz;subst ev;rw [show 123 :: (B++[125])++x=123 :: (B++125 :: x) by simp] at hz;obtain ⟨y,rfl,h⟩:=Sm.cons hz zq50 zq50;obtain ⟨B',y,rfl,hl,hB',h0⟩:=Sm.blanks B hB h;clear h;have h:=h0;clear h0;obtain ⟨y,rfl,h0⟩:=Sm.cons h zq50 zq50;clear h;have h:=h0;clear h0;exact ⟨123 :: (B'++[125]),y,by simp,by simp [hl], .obj0 hB' rfl (by rw [ep];simp [hl]),h⟩
 ·intro a v B m ns ps p hB hm ev ep ih x z hz;subst ev;rw [show 123 :: (B++m)++x=123 :: (B++(m++x)) by simp] at hz;obtain ⟨y,rfl,h⟩:=Sm.cons hz zq50 zq50;obtain ⟨B',y,rfl,hl,hB',h0⟩:=Sm.blanks B hB h;clear h;have h:=h0;clear h0;obtain ⟨m',y,rfl,hl2,hm',h0⟩:=ih _ _ h;clear h;have h:=h0;clear h0;exact ⟨123 :: (B'++m'),y,by simp,by simp [hl,hl2], .obj hB' (by rw [hl];exact hm') rfl (by rw [ep];simp [hl,hl2]),h⟩
 ·intro a v B p hB ev ep x z hz;subst ev;rw [show 91 :: (B++[93])++x=91 :: (B++93 :: x) by simp] at hz;obtain ⟨y,rfl,h⟩:=Sm.cons hz zq50 zq50;obtain ⟨B',y,rfl,hl,hB',h0⟩:=Sm.blanks B hB h;clear h;have h:=h0;clear h0;obtain ⟨y,rfl,h0⟩:=Sm.cons h zq50 zq50;clear h;have h:=h0;clear h0;exact ⟨91 :: (B'++[93]),y,by simp,by simp [hl], .arr0 hB' rfl (by rw [ep];simp [hl]),h⟩
 ·intro a v B m ps p hB hm ev ep ih x z hz;subst ev;rw [show 91 :: (B++m)++x=91 :: (B++(m++x)) by simp] at hz;obtain ⟨y,rfl,h⟩:=Sm.cons hz zq50 zq50;obtain ⟨B',y,rfl,hl,hB',h0⟩:=Sm.blanks B hB h;clear h;have h:=h0;clear h0;obtain ⟨m',y,rfl,hl2,hm',h0⟩:=ih _ _ h;clear h;have h:=h0;clear h0;exact ⟨91 :: (B'++m'),y,by simp,by simp [hl,hl2], .arr hB' (by rw [hl];exact hm') rfl (by rw [ep];simp [hl,hl2]),h⟩
 ·intro a m b B1 B2 v B3 p ns ps hb h1 h2 h3 hv em en ep ih x z hz;subst em;rw [show 34 :: (b++34 :: (B1++58 :: (B2++(v++(B3++[125])))))++x=34 :: (b++34 :: (B1++58 :: (B2++(v++(B3++125 :: x))))) by simp] at hz;obtain ⟨y,rfl,h⟩:=Sm.quote hb hz;obtain ⟨B1',y,rfl,l1,hB1,h0⟩:=Sm.blanks B1 h1 h;clear h;have h:=h0;clear h0;obtain ⟨y,rfl,h0⟩:=Sm.cons h zq50 zq50;clear h;have h:=h0;clear h0;obtain ⟨B2',y,rfl,l2,hB2,h0⟩:=Sm.blanks B2 h2 h;clear h;have h:=h0;clear h0;obtain ⟨v',y,rfl,lv,hv',h0⟩:=ih _ _ h;clear h;have h:=h0;clear h0;obtain ⟨B3',y,rfl,l3,hB3,h0⟩:=Sm.blanks B3 h3 h;clear h;have h:=h0;clear h0;obtain ⟨y,rfl,h0⟩:=Sm.cons h zq50 zq50;clear h;have h:=h0;clear h0;exact ⟨34 :: (b++34 :: (B1'++58 :: (B2'++(v'++(B3'++[125]))))),y,by simp,by simp [l1,l2,lv,l3], .one hb hB1 hB2 hB3 (by rw [l1,l2];exact hv') rfl en ep,h⟩
 ·intro a m b B1 B2 v B3 B4 m' p ns ns' ps ps' hb h1 h2 h3 h4 hv hm em en ep ih ih2 x z hz;subst em;rw [show 34 :: (b++34 :: (B1++58 :: (B2++(v++(B3++44 :: (B4++m'))))))++x=34 :: (b++34 :: (B1++58 :: (B2++(v++(B3++44 :: (B4++(m'++x))))))) by simp] at hz;obtain ⟨y,rfl,h⟩:=Sm.quote hb hz;obtain ⟨B1',y,rfl,l1,hB1,h0⟩:=Sm.blanks B1 h1 h;clear h;have h:=h0;clear h0;obtain ⟨y,rfl,h0⟩:=Sm.cons h zq50 zq50;clear h;have h:=h0;clear h0;obtain ⟨B2',y,rfl,l2,hB2,h0⟩:=Sm.blanks B2 h2 h;clear h;have h:=h0;clear h0;obtain ⟨v',y,rfl,lv,hv',h0⟩:=ih _ _ h;clear h;have h:=h0;clear h0;obtain ⟨B3',y,rfl,l3,hB3,h0⟩:=Sm.blanks B3 h3 h;clear h;have h:=h0;clear h0;obtain ⟨y,rfl,h0⟩:=Sm.cons h zq50 zq50;clear h;have h:=h0;clear h0;obtain ⟨B4',y,rfl,l4,hB4,h0⟩:=Sm.blanks B4 h4 h;clear h;have h:=h0;clear h0;obtain ⟨m2,y,rfl,lm,hm',h0⟩:=ih2 _ _ h;clear h;have h:=h0;clear h0;exact ⟨34 :: (b++34 :: (B1'++58 :: (B2'++(v'++(B3'++44 :: (B4'++m2)))))),y,by simp,by simp [l1,l2,lv,l3,l4,lm], .more hb hB1 hB2 hB3 hB4 (by rw [l1,l2];exact hv') (by rw [l1,l2,lv,l3,l4];exact hm') rfl en ep,h⟩
 ·intro a m v B p ps hB hv em ep ih x z hz;subst em;rw [show v++(B++[93])++x=v++(B++93 :: x) by simp] at hz;obtain ⟨v',y,rfl,lv,hv',h⟩:=ih _ _ hz;obtain ⟨B',y,rfl,l,hB',h0⟩:=Sm.blanks B hB h;clear h;have h:=h0;clear h0;obtain ⟨y,rfl,h0⟩:=Sm.cons h zq50 zq50;clear h;have h:=h0;clear h0;exact ⟨v'++(B'++[93]),y,by simp,by simp [lv,l], .one hB' hv' rfl ep,h⟩
 ·intro a m v B B2 m' p ps ps' hB hB2 hv hm em ep ih ih2 x z hz;subst em;rw [show v++(B++44 :: (B2++m'))++x=v++(B++44 :: (B2++(m'++x))) by simp] at hz;obtain ⟨v',y,rfl,lv,hv',h⟩:=ih _ _ hz;obtain ⟨B',y,rfl,l,hB',h0⟩:=Sm.blanks B hB h;clear h;have h:=h0;clear h0;obtain ⟨y,rfl,h0⟩:=Sm.cons h zq50 zq50;clear h;have h:=h0;clear h0;obtain ⟨B2',y,rfl,l2,hB2',h0⟩:=Sm.blanks B2 hB2 h;clear h;have h:=h0;clear h0;obtain ⟨m2,y,rfl,lm,hm',h0⟩:=ih2 _ _ h;clear h;have h:=h0;clear h0;exact ⟨v'++(B'++44 :: (B2'++m2)),y,by simp,by simp [lv,l,l2,lm], .more hB' hB2' hv' (by rw [lv,l,l2];exact hm') rfl ep,h⟩
inductive SP : List Int→List Int→Prop
  | nil:SP [] []
  | bl {c:Int} {x X:List Int}:isB c=true→SP x X→SP (c :: x) X
  | chr {c:Int} {x X:List Int}:c≠34→32<c→SP x X→SP (c :: x) (c :: X)
  | str {b x X y Y:List Int}:Body b→SP x X→y=34 :: (b++34 :: x)→Y=34 :: (b++34 :: X)→SP y Y
theorem isB_low {c : Int} (h:isB c=true):c≤32∧c≠34:=by
 simp only [isB,decide_eq_true_eq] at h
 omega
theorem SP.blanks : ∀ (B:List Int) {x X:List Int},Bl B→SP x X→SP (B++x) X
 | [],_,_,_,h=>h
 | c :: B,_,_,hB,h => .bl (hB c (by simp)) (SP.blanks B hB.tail h)
theorem SP.solid : ∀ (v:List Int) {x X:List Int},(∀ c ∈ v,34<c)→SP x X→SP (v++x) (v++X)
 | [],_,_,_,h=>h
 | c :: v,_,_,hv,h => .chr (by have:=hv c (by simp);omega) (by have:=hv c (by simp);omega) (SP.solid v (fun a ha=>hv a (List.mem_cons_of_mem _ ha)) h)
theorem SP.same {x y : List Int} (h:Sm x y):∀ {X Y:List Int},SP x X→SP y Y→X=Y:=by
 induction h with
 | nil =>
  intro X Y h1 h2;cases h1<;>cases h2<;>simp_all
 | chr hc hs ih =>
  intro X Y h1 h2;cases h1 with
  | bl hb h1 =>
   cases h2 with
   | bl _ h2=>exact ih h1 h2
   | chr _ h32 h2=>exact absurd (isB_low hb).1 (by omega)
   | str _ _ e _=>exact absurd (List.cons.inj e).1 hc
  | chr _ h32 h1 =>
   cases h2 with
   | bl hb h2=>exact absurd (isB_low hb).1 (by omega)
   | chr _ h32 h2=>rw [ih h1 h2]
   | str _ _ e _=>exact absurd (List.cons.inj e).1 hc
  | str _ _ e _=>exact absurd (List.cons.inj e).1 hc
 | bl hd hs ih =>
  intro X Y h1 h2;cases h1 with
  | bl hb h1 =>
   cases h2 with
   | bl _ h2=>exact ih h1 h2
   | chr _ h32 h2=>exact absurd hd (by omega)
   | str _ _ e _=>exact absurd (List.cons.inj e).1 (by omega)
  | chr _ h32 h1=>exact absurd h32 (by omega)
  | str _ _ e _=>exact absurd (List.cons.inj e).1 (by omega)
 | str hb hs e e' ih =>
  intro X Y h1 h2;subst e;subst e'
  have inv:∀ {b x Y:List Int},Body b→SP (34 :: (b++34 :: x)) Y→∃ X,Y=34 :: (b++34 :: X)∧SP x X:=by
   intro b x Y hb h
   generalize hX:34 :: (b++34 :: x)=z at h
   cases h with
   | nil=>cases hX
   | bl h _=>rw [← (List.cons.inj hX).1] at h;exact absurd h zq50
   | chr h _ _=>exact absurd (List.cons.inj hX).1.symm h
   | str hb' h e e' =>
    rw [e] at hX;obtain ⟨rfl,rfl⟩:=body_uniq hb hb' (List.cons.inj hX).2;exact ⟨_,e',h⟩
  obtain ⟨X1,rfl,k1⟩:=inv hb h1;obtain ⟨X2,rfl,k2⟩:=inv hb h2;rw [ih k1 k2]
theorem appO_ok {o xs : List Int} (h:o.length+xs.length≤1099511627776):appO o xs=some (o++xs):=if_pos h
theorem Ev_app {o xs : List Int} (h:o.length+xs.length≤1099511627776):Ev (fun _=>appO o xs) (o++xs):=Ev.congr (fun _=>appO_ok h) (Ev.now _)
def cj (j : Nat) (o:List Int):List Int:=if 0<j then o++[44] else o
theorem Ev_cj {j : Nat} {o:List Int} (h:(cj j o).length≤1099511627776):Ev (fun _=>if 0<j then appO o [44] else some o) (cj j o):=by
 unfold cj at h ⊢
 split
 ·rename_i hj;rw [if_pos hj] at h
  exact Ev_app (by simpa using h)
 ·exact Ev.now _
theorem dropg {α : Type} (d:α) {l:List α} {i:Nat} {c:α} {r:List α} (h:l.drop i=c :: r):i<l.length∧l.getD i d=c∧l.drop (i+1)=r:=by
 have hl:i<l.length:=by
  have:=congrArg List.length h;simp only [List.length_drop,List.length_cons] at this;omega
 have e:=List.drop_eq_getElem_cons hl;rw [h] at e;obtain ⟨h1,h2⟩:=List.cons.inj e;refine ⟨hl,?_,h2.symm⟩;rw [List.getD_eq_getElem?_getD,List.getElem?_eq_getElem hl];exact h1.symm
theorem piece {s : ByteArray} {a:Nat} {v r o:List Int} {k0:Int} (hs:s.size≤2147483647) (h:From s a (v++r)) (ho:o.length+v.length≤1099511627776) (hk:k0≠5∧k0≠6):Ev (fun k=>bT k o s k0 (a:Int) ((a+v.length:Nat):Int) [] []) (o++v):=by
 have hl:=h.len;rw [List.length_append] at hl;refine Ev_shift ?_;simp only [bT];refine Ev.congr (fun _=>if_neg (by omega)) (Ev.congr (fun _=>if_pos (by omega)) ?_);rw [Int.toNat_natCast,Int.toNat_natCast,h.extract];exact Ev_app ho
def BV (a : Nat) (v:List Int) (p:S34):Prop:=∃ X:List Int,X.length≤v.length∧(∀ x Z,SP x Z→SP (v++x) (X++Z))∧∀ (s:ByteArray) (r:List Int),s.size≤2147483647→From s a (v++r)→∀ o:List Int,o.length+v.length≤1099511627776→Ev (fun k=>bT k o s p.f0 p.f1 p.f2 p.f3 p.f4) (o++X)
def BM (a : Nat) (m:List Int) (ns:List S60) (ps:List S34):Prop:=∃ X:List Int,X.length+1≤m.length∧(∀ x Z,SP x Z→SP (m++x) (X++125 :: Z))∧∀ (s:ByteArray) (r:List Int),s.size≤2147483647→From s a (m++r)→∀ (ns0:List S60) (ps0:List S34) (j:Nat) (o:List Int),ns0.drop j=ns→ps0.drop j=ps→(cj j o).length+m.length≤1099511627776→Ev (fun k=>bL (fun o p=>bT k o s p.f0 p.f1 p.f2 p.f3 p.f4) s true ns0 ps0 ps.length j o) (cj j o++X)
def BE (a : Nat) (m:List Int) (ps:List S34):Prop:=∃ X:List Int,X.length+1≤m.length∧(∀ x Z,SP x Z→SP (m++x) (X++93 :: Z))∧∀ (s:ByteArray) (r:List Int),s.size≤2147483647→From s a (m++r)→∀ (ns0:List S60) (ps0:List S34) (j:Nat) (o:List Int),ps0.drop j=ps→(cj j o).length+m.length≤1099511627776→Ev (fun k=>bL (fun o p=>bT k o s p.f0 p.f1 p.f2 p.f3 p.f4) s false ns0 ps0 ps.length j o) (cj j o++X)
theorem mem_step {s : ByteArray} {a:Nat} {b B1 B2 v t X Y o:List Int} {p:S34} {ns0:List S60} {ps0 ps':List S34} {ns':List S60} {j n:Nat} (hs:s.size≤2147483647) (h:From s a (34 :: (b++34 :: (B1++58 :: (B2++(v++t)))))) (hv:∀ (s:ByteArray) (r:List Int),s.size≤2147483647→From s (a+b.length+2+B1.length+1+B2.length) (v++r)→∀ o:List Int,o.length+v.length≤1099511627776→Ev (fun k=>bT k o s p.f0 p.f1 p.f2 p.f3 p.f4) (o++X)) (hn:ns0.drop j=⟨(a:Int),((a+b.length+2:Nat):Int)⟩ :: ns') (hp:ps0.drop j=p :: ps') (hl:(cj j o).length+b.length+3+v.length≤1099511627776) (hr:Ev (fun k=>bL (fun o p=>bT k o s p.f0 p.f1 p.f2 p.f3 p.f4) s true ns0 ps0 n (j+1) (cj j o++(34 :: (b++[34]))++[58]++X)) Y):Ev (fun k=>bL (fun o p=>bT k o s p.f0 p.f1 p.f2 p.f3 p.f4) s true ns0 ps0 (n+1) j o) Y:=by
 obtain ⟨j1,j2,_⟩:=dropg z60 hn;obtain ⟨j3,j4,_⟩:=dropg z34 hp;have hsz:=h.len;simp only [List.length_cons,List.length_append] at hsz;have e1:j2x ns0 (j:Int)=⟨(a:Int),((a+b.length+2:Nat):Int)⟩:=j2;have e2:j2k ps0 (j:Int)=p:=j4
 have hx:bytesOf (s.extract a (a+b.length+2))=34 :: (b++[34]):=by
  have:=From.extract (a:=34 :: (b++[34])) (l:=B1++58 :: (B2++(v++t))) (s:=s) (i:=a) (by simpa using h);rw [← this];simp [Nat.add_assoc]
 have hF:From s (a+b.length+2+B1.length+1+B2.length) (v++t):=by
  have:=From.app (a:=34 :: (b++34 :: (B1++58 :: B2))) (l:=v++t) (s:=s) (i:=a) (by simpa using h);rw [show a+b.length+2+B1.length+1+B2.length=a+(34 :: (b++34 :: (B1++58 :: B2))).length by simp;omega];exact this
 simp only [bL];refine Ev.bind (Ev_cj (by omega)) ?_;simp only [e1,e2,if_true];refine Ev.bind (a:=cj j o++(34 :: (b++[34]))++[58]) ?_ ?_
 ·refine Ev.congr (fun _=>if_pos ⟨by omega,by omega,by omega,by omega⟩) ?_;rw [Int.toNat_natCast,Int.toNat_natCast,hx];exact Ev.bind (Ev_app zq86) (Ev_app zq86)
 ·exact Ev.bind (hv s t hs hF _ zq86) hr
theorem el_step {s : ByteArray} {a:Nat} {v t X Y o:List Int} {p:S34} {ns0:List S60} {ps0 ps':List S34} {j n:Nat} (hs:s.size≤2147483647) (h:From s a (v++t)) (hv:∀ (s:ByteArray) (r:List Int),s.size≤2147483647→From s a (v++r)→∀ o:List Int,o.length+v.length≤1099511627776→Ev (fun k=>bT k o s p.f0 p.f1 p.f2 p.f3 p.f4) (o++X)) (hp:ps0.drop j=p :: ps') (hl:(cj j o).length+v.length≤1099511627776) (hr:Ev (fun k=>bL (fun o p=>bT k o s p.f0 p.f1 p.f2 p.f3 p.f4) s false ns0 ps0 n (j+1) (cj j o++X)) Y):Ev (fun k=>bL (fun o p=>bT k o s p.f0 p.f1 p.f2 p.f3 p.f4) s false ns0 ps0 (n+1) j o) Y:=by
 obtain ⟨j3,j4,_⟩:=dropg z34 hp;have e2:j2k ps0 (j:Int)=p:=j4;simp only [bL];refine Ev.bind (Ev_cj (by omega)) ?_;simp only [e2,Bool.false_eq_true,if_false];exact Ev.bind (Ev.now _) (Ev.bind (hv s t hs h _ hl) hr)
theorem bT_box {s : ByteArray} {o X:List Int} {k0 p1 p2:Int} {ns:List S60} {ps:List S34} (hk:k0=5∨k0=6) (hl:o.length+X.length+2≤1099511627776) (h:Ev (fun k=>bL (fun o p=>bT k o s p.f0 p.f1 p.f2 p.f3 p.f4) s (decide (k0=6)) ns ps ps.length 0 (o++[if k0=6 then 123 else 91])) ((o++[if k0=6 then 123 else 91])++X)):Ev (fun k=>bT k o s k0 p1 p2 ns ps) (o++((if k0=6 then 123 else 91) :: (X++[if k0=6 then 125 else 93]))):=by
 refine Ev_shift ?_;simp only [bT];refine Ev.congr (fun _=>if_pos hk) (Ev.bind (Ev_app zq86) (Ev.bind h ?_));refine Ev_same (Ev_app zq86) (by simp)
theorem bareV {a : Nat} {v:List Int} {p:S34} (h:PV a v p):BV a v p:=by
 refine PV.rec (motive_1:=fun a v p _=>BV a v p) (motive_2:=fun a m ns ps _=>BM a m ns ps) (motive_3:=fun a m ps _=>BE a m ps) ?_ ?_ ?_ ?_ ?_ ?_ ?_ ?_ ?_ ?_ h
 ·intro a v b p hb ev ep;refine ⟨v,Nat.le_refl _,fun x Z hx=>?_,fun s r hs hF o ho=>?_⟩
  ·subst ev;exact .str hb hx (by simp) (by simp)
  ·subst ep;exact piece hs hF ho (by constructor<;>simp)
 ·intro a v k p hk ep;refine ⟨v,Nat.le_refl _,fun x Z hx=>SP.solid v (fun c hc=>(SC.all hk c hc).1) hx,fun s r hs hF o ho=>?_⟩;subst ep;exact piece hs hF ho (by rcases hk with ⟨rfl,_⟩|⟨rfl,_⟩|⟨rfl,_⟩|⟨rfl,_⟩<;>constructor<;>simp)
 ·intro a v B p hB ev ep;subst ev;subst ep;refine ⟨[123,125],by simp,fun x Z hx=>?_,fun s r hs hF o ho=>?_⟩
  ·simp only [List.cons_append,List.append_assoc,List.nil_append];exact .chr zq50 zq50 (SP.blanks B hB (.chr zq50 zq50 hx))
  ·simp only [List.length_cons,List.length_append] at ho;exact bT_box (X:=[]) (.inr rfl) zq86 (Ev_same (Ev.now _) (by simp))
 ·intro a v B m ns ps p hB hm ev ep ih;obtain ⟨X,h1,h2,h3⟩:=ih;subst ev;subst ep;refine ⟨123 :: (X++[125]),by simp;omega,fun x Z hx=>?_,fun s r hs hF o ho=>?_⟩
  ·simp only [List.cons_append,List.append_assoc,List.nil_append];refine .chr zq50 zq50 ?_;exact SP.blanks B hB (h2 _ _ hx)
  ·simp only [List.length_cons,List.length_append] at ho;refine bT_box (X:=X) (.inr rfl) (by omega) ?_
   have hF2:From s (a+1+B.length) (m++r):=by
    have:=From.app (a:=123 :: B) (l:=m++r) (s:=s) (i:=a) (by simpa using hF);rw [show a+1+B.length=a+(123 :: B).length by simp;omega];exact this
   exact h3 s r hs hF2 ns ps 0 _ rfl rfl (by simp [cj];omega)
 ·intro a v B p hB ev ep;subst ev;subst ep;refine ⟨[91,93],by simp,fun x Z hx=>?_,fun s r hs hF o ho=>?_⟩
  ·simp only [List.cons_append,List.append_assoc,List.nil_append];exact .chr zq50 zq50 (SP.blanks B hB (.chr zq50 zq50 hx))
  ·simp only [List.length_cons,List.length_append] at ho;exact bT_box (X:=[]) (.inl rfl) zq86 (Ev_same (Ev.now _) (by simp))
 ·intro a v B m ps p hB hm ev ep ih;obtain ⟨X,h1,h2,h3⟩:=ih;subst ev;subst ep;refine ⟨91 :: (X++[93]),by simp;omega,fun x Z hx=>?_,fun s r hs hF o ho=>?_⟩
  ·simp only [List.cons_append,List.append_assoc,List.nil_append];refine .chr zq50 zq50 ?_;exact SP.blanks B hB (h2 _ _ hx)
  ·simp only [List.length_cons,List.length_append] at ho;refine bT_box (X:=X) (.inl rfl) (by omega) ?_
   have hF2:From s (a+1+B.length) (m++r):=by
    have:=From.app (a:=91 :: B) (l:=m++r) (s:=s) (i:=a) (by simpa using hF);rw [show a+1+B.length=a+(91 :: B).length by simp;omega];exact this
   exact h3 s r hs hF2 [] ps 0 _ rfl (by simp [cj];omega)
 ·intro a m b B1 B2 v B3 p ns ps hb h1 h2 h3 hv em en ep ih;obtain ⟨X,k1,k2,k3⟩:=ih;subst em;subst en;subst ep;refine ⟨34 :: (b++34 :: 58 :: X),by simp;omega,fun x Z hx=>?_,fun s r hs hF ns0 ps0 j o hn hp ho=>?_⟩
  ·refine .str (x:=B1++58 :: (B2++(v++(B3++125 :: x)))) (X:=58 :: (X++125 :: Z)) hb ?_ (by simp) (by simp);exact SP.blanks B1 h1 (.chr zq50 zq50 (SP.blanks B2 h2 (k2 _ _ (SP.blanks B3 h3 (.chr zq50 zq50 hx)))))
  ·simp only [List.length_cons,List.length_append] at ho;refine mem_step (n:=0) (t:=B3++125 :: r) (X:=X) hs (by simpa using hF) k3 hn hp (by omega) ?_;exact Ev_same (Ev.now _) (by simp)
 ·intro a m b B1 B2 v B3 B4 m' p ns ns' ps ps' hb h1 h2 h3 h4 hv hm em en ep ih ih2;obtain ⟨X,k1,k2,k3⟩:=ih;obtain ⟨X2,q1,q2,q3⟩:=ih2;subst em;subst en;subst ep;refine ⟨34 :: (b++34 :: 58 :: (X++44 :: X2)),by simp;omega,fun x Z hx=>?_,fun s r hs hF ns0 ps0 j o hn hp ho=>?_⟩
  ·refine .str (x:=B1++58 :: (B2++(v++(B3++44 :: (B4++(m'++x)))))) (X:=58 :: (X++44 :: (X2++125 :: Z))) hb ?_ (by simp) (by simp);exact SP.blanks B1 h1 (.chr zq50 zq50 (SP.blanks B2 h2 (k2 _ _ (SP.blanks B3 h3 (.chr zq50 zq50 (SP.blanks B4 h4 (q2 _ _ hx)))))))
  ·simp only [List.length_cons,List.length_append] at ho
   have hF2:From s (a+b.length+2+B1.length+1+B2.length+v.length+B3.length+1+B4.length) (m'++r):=by
    have:=From.app (a:=34 :: (b++34 :: (B1++58 :: (B2++(v++(B3++44 :: B4)))))) (l:=m'++r) (s:=s) (i:=a) (by simpa using hF);rw [show a+b.length+2+B1.length+1+B2.length+v.length+B3.length+1+B4.length=a+(34 :: (b++34 :: (B1++58 :: (B2++(v++(B3++44 :: B4)))))).length by simp;omega];exact this
   refine mem_step (n:=ps'.length) (t:=B3++44 :: (B4++(m'++r))) (X:=X) hs (by simpa using hF) k3 hn hp (by omega) ?_;have ec:∀ o:List Int,cj (j+1) o=o++[44]:=fun o=>if_pos (by omega)
   refine Ev_same (q3 s r hs hF2 ns0 ps0 (j+1) _ (dropg z60 hn).2.2 (dropg z34 hp).2.2 (by rw [ec];simp;omega)) (by rw [ec];simp)
 ·intro a m v B p ps hB hv em ep ih;obtain ⟨X,k1,k2,k3⟩:=ih;subst em;subst ep;have:=PV.pos hv;refine ⟨X,by simp;omega,fun x Z hx=>?_,fun s r hs hF ns0 ps0 j o hp ho=>?_⟩
  ·rw [List.append_assoc,List.append_assoc];exact k2 _ _ (SP.blanks B hB (.chr zq50 zq50 hx))
  ·simp only [List.length_cons,List.length_append] at ho;refine el_step (n:=0) (t:=B++93 :: r) (X:=X) hs (by simpa using hF) k3 hp (by omega) ?_;exact Ev.now _
 ·intro a m v B B2 m' p ps ps' hB hB2 hv hm em ep ih ih2;obtain ⟨X,k1,k2,k3⟩:=ih;obtain ⟨X2,q1,q2,q3⟩:=ih2;subst em;subst ep;refine ⟨X++44 :: X2,by simp;omega,fun x Z hx=>?_,fun s r hs hF ns0 ps0 j o hp ho=>?_⟩
  ·have:=k2 _ _ (SP.blanks B hB (.chr (c:=44) zq50 zq50 (SP.blanks B2 hB2 (q2 _ _ hx))))
   simpa using this
  ·simp only [List.length_cons,List.length_append] at ho
   have hF2:From s (a+v.length+B.length+1+B2.length) (m'++r):=by
    have:=From.app (a:=v++(B++44 :: B2)) (l:=m'++r) (s:=s) (i:=a) (by simpa using hF);rw [show a+v.length+B.length+1+B2.length=a+(v++(B++44 :: B2)).length by simp;omega];exact this
   refine el_step (n:=ps'.length) (t:=B++44 :: (B2++(m'++r))) (X:=X) hs (by simpa using hF) k3 hp (by omega) ?_;have ec:∀ o:List Int,cj (j+1) o=o++[44]:=fun o=>if_pos (by omega)
   refine Ev_same (q3 s r hs hF2 ns0 ps0 (j+1) _ (dropg z34 hp).2.2 (by rw [ec];simp;omega)) (by rw [ec];simp)
def PLP (q : S34):Prop:=Ev (fun k=>j1m.f k q.f0 q.f1 q.f2 q.f3 q.f4 q.f0 q.f1 q.f2 q.f3 q.f4) true
theorem plc_l1 {p0 p1 p2:Int} {ns:List S60} {ps:List S34} (hl:ps.length≤2147483647) (hq:∀ q ∈ ps,PLP q):∀ (n i:Nat),ps.length - i≤n→i≤ps.length→Ev (fun k=>j1m.l1 k (ps.length:Int) (i:Int) p0 p1 p2 ns ps p0 p1 p2 ns ps) true:=by
 intro n
 induction n with
 | zero =>
  intro i hi hle;refine Ev_shift ?_;simp only [j1m.l1];exact Ev.congr (fun _=>if_neg (by omega)) (Ev.now _)
 | succ n ih =>
  intro i hi hle;refine Ev_shift ?_;simp only [j1m.l1];by_cases hi2:i<ps.length
  rotate_left
  ·exact Ev.congr (fun _=>if_neg (by omega)) (Ev.now _)
  refine Ev.congr (fun _=>if_pos (by omega)) (Ev.congr (fun _=>if_pos (by omega)) (Ev.congr (fun _=>if_pos (by omega)) (Ev.congr (fun _=>if_pos (by omega)) ?_)))
  have hm:j2k ps (i:Int) ∈ ps:=by
   unfold j2k;rw [Int.toNat_natCast,List.getD_eq_getElem?_getD,List.getElem?_eq_getElem hi2];exact List.getElem_mem hi2
  refine Ev.bind (hq _ hm) (Ev.congr (fun _=>if_pos rfl) ?_);rw [show wrap64 ((i:Int)+1)=((i+1:Nat):Int) by rw [w64 (by omega)];omega];exact ih (i+1) (by omega) (by omega)
theorem plc_l0 {p0 p1 p2:Int} {ns:List S60} {ps:List S34} (hln:ns.length≤2147483647) (hl:ps.length≤2147483647) (hq:∀ q ∈ ps,PLP q):∀ (n i:Nat),ns.length - i≤n→i≤ns.length→Ev (fun k=>j1m.l0 k (ns.length:Int) (i:Int) p0 p1 p2 ns ps p0 p1 p2 ns ps) true:=by
 intro n
 induction n with
 | zero =>
  intro i hi hle;refine Ev_shift ?_;simp only [j1m.l0];exact Ev.congr (fun _=>if_neg (by omega)) (plc_l1 hl hq ps.length 0 (by omega) (by omega))
 | succ n ih =>
  intro i hi hle;refine Ev_shift ?_;simp only [j1m.l0];by_cases hi2:i<ns.length
  rotate_left
  ·exact Ev.congr (fun _=>if_neg (by omega)) (plc_l1 hl hq ps.length 0 (by omega) (by omega))
  refine Ev.congr (fun _=>if_pos (by omega)) (Ev.congr (fun _=>if_pos (by omega)) (Ev.congr (fun _=>if_pos (by omega)) (Ev.congr (fun _=>if_pos (by omega)) (Ev.congr (fun _=>if_neg (by simp)) ?_))));rw [show wrap64 ((i:Int)+1)=((i+1:Nat):Int) by rw [w64 (by omega)];omega];exact ih (i+1) (by omega) (by omega)
theorem plc_of {q : S34} (hln:q.f3.length≤2147483647) (hl:q.f4.length≤2147483647) (hq:∀ p ∈ q.f4,PLP p):PLP q:=by
 unfold PLP;refine Ev_shift ?_;simp only [j1m.f,if_true];refine Ev_shift ?_;simp only [j1m.j0];exact Ev.congr (fun _=>if_neg (by simp)) (plc_l0 hln hl hq q.f3.length 0 (by omega) (by omega))
theorem placed {a : Nat} {v:List Int} {p:S34} (h:PV a v p):v.length≤2147483647→PLP p:=by
 refine PV.rec (motive_1:=fun a v p _=>v.length≤2147483647→PLP p) (motive_2:=fun a m ns ps _=>ns.length≤m.length∧ps.length≤m.length∧(m.length≤2147483647→∀ q ∈ ps,PLP q)) (motive_3:=fun a m ps _=>ps.length≤m.length∧(m.length≤2147483647→∀ q ∈ ps,PLP q)) ?_ ?_ ?_ ?_ ?_ ?_ ?_ ?_ ?_ ?_ h
 ·intro a v b p hb ev ep hl;subst ep;exact plc_of (by simp) (by simp) (by simp)
 ·intro a v k p hk ep hl;subst ep;exact plc_of (by simp) (by simp) (by simp)
 ·intro a v B p hB ev ep hl;subst ep;exact plc_of (by simp) (by simp) (by simp)
 ·intro a v B m ns ps p hB hm ev ep ih hl;subst ev;subst ep;simp only [List.length_cons,List.length_append] at hl;exact plc_of (by have:=ih.1;simp only;omega) (by have:=ih.2.1;simp only;omega) (ih.2.2 (by omega))
 ·intro a v B p hB ev ep hl;subst ep;exact plc_of (by simp) (by simp) (by simp)
 ·intro a v B m ps p hB hm ev ep ih hl;subst ev;subst ep;simp only [List.length_cons,List.length_append] at hl;exact plc_of (by simp) (by have:=ih.1;simp only;omega) (ih.2 (by omega))
 ·intro a m b B1 B2 v B3 p ns ps hb h1 h2 h3 hv em en ep ih;subst em;subst en;subst ep;refine ⟨by simp,by simp,fun hl q hq=>?_⟩;simp only [List.length_cons,List.length_append] at hl;rw [List.mem_singleton] at hq;subst hq;exact ih (by omega)
 ·intro a m b B1 B2 v B3 B4 m' p ns ns' ps ps' hb h1 h2 h3 h4 hv hm em en ep ih ih2;subst em;subst en;subst ep;refine ⟨by have:=ih2.1;simp;omega,by have:=ih2.2.1;simp;omega,fun hl q hq=>?_⟩;simp only [List.length_cons,List.length_append] at hl;rcases List.mem_cons.mp hq with rfl|hq
  ·exact ih (by omega)
  ·exact ih2.2.2 (by omega) q hq
 ·intro a m v B p ps hB hv em ep ih;subst em;subst ep;refine ⟨by simp;omega,fun hl q hq=>?_⟩;simp only [List.length_cons,List.length_append] at hl;rw [List.mem_singleton] at hq;subst hq;exact ih (by omega)
 ·intro a m v B B2 m' p ps ps' hB hB2 hv hm em ep ih ih2;subst em;subst ep;refine ⟨by have:=ih2.1;simp;omega,fun hl q hq=>?_⟩;simp only [List.length_cons,List.length_append] at hl;rcases List.mem_cons.mp hq with rfl|hq
  ·exact ih (by omega)
  ·exact ih2.2 (by omega) q hq
inductive Tk where
  | c (x:Int)
  | s (b:List Int)
def flat1 : Tk → List Int
  | .c x=>[x]
  | .s b=>34 :: (b++[34])
def fl : List Tk→List Int
  | []=>[]
  | t :: ts=>fl ts++flat1 t
inductive Rl : List Tk→List Tk→Prop
  | nil:Rl [] []
  | chr {x:Int} {a a':List Tk}:x≠34→Rl a a'→Rl (.c x :: a) (.c x :: a')
  | bl {d:Int} {a a':List Tk}:(d=9∨d=13)→Rl a a'→Rl (.c 32 :: a) (.c d :: a')
  | str {b:List Int} {a a':List Tk}:Body b→Rl a a'→Rl (.s b :: a) (.s b :: a')
theorem Rl.sm {a a' : List Tk} (h:Rl a a'):Sm (fl a) (fl a'):=by
 induction h with
 | nil=>exact .nil
 | chr hx _ ih=>exact ih.app (.chr hx .nil)
 | bl hd _ ih=>exact ih.app (.bl hd .nil)
 | str hb _ ih=>exact ih.app (.str hb .nil (by simp [flat1]) (by simp [flat1]))
def wf : List Tk→Prop
  | []=>True
  | .c x :: r=>x≠34∧wf r
  | .s b :: r=>Body b∧wf r
def gd : List Tk→Prop
  | []=>True
  | .c x :: r=>(isB x=true∨32<x)∧gd r
  | .s _ :: r=>gd r
theorem SP.quote {b x Y:List Int} (hb:Body b) (h:SP (34 :: (b++34 :: x)) Y):∃ X,Y=34 :: (b++34 :: X)∧SP x X:=by
 generalize hX:34 :: (b++34 :: x)=z at h
 cases h with
 | nil=>cases hX
 | bl h _=>rw [← (List.cons.inj hX).1] at h;exact absurd h zq50
 | chr h _ _=>exact absurd (List.cons.inj hX).1.symm h
 | str hb' h e e' =>
  rw [e] at hX;obtain ⟨rfl,rfl⟩:=body_uniq hb hb' (List.cons.inj hX).2;exact ⟨_,e',h⟩
theorem SP.gd : ∀ (t:List Tk) {y X:List Int},wf t→SP (fl t++y) X→gd t∧∃ Y,SP y Y
 | [],y,X,_,h=>⟨trivial,X,h⟩
 | .c x :: r,y,X,hw,h=>by
  rw [fl,List.append_assoc] at h
  obtain ⟨h1,Y,h2⟩:=SP.gd r hw.2 h;cases h2 with
  | bl hb h2=>exact ⟨⟨.inl hb,h1⟩,_,h2⟩
  | chr _ h32 h2=>exact ⟨⟨.inr h32,h1⟩,_,h2⟩
  | str _ _ e _=>exact absurd (List.cons.inj e).1 hw.1
 | .s b :: r,y,X,hw,h=>by
  rw [fl,List.append_assoc,show flat1 (.s b)++y=34 :: (b++34 :: y) by simp [flat1]] at h
  obtain ⟨h1,Y,h2⟩:=SP.gd r hw.2 h;obtain ⟨Y2,_,h3⟩:=SP.quote hw.1 h2;exact ⟨h1,_,h3⟩
def cmT : List Tk→List Tk
  | []=>[]
  | .c x :: r=>if isB x=true then .c x :: cmT r else if x=44 then .c 32 :: r else .c x :: r
  | .s b :: r => .s b :: r
def LI (s : ByteArray):List Tk→Int→Prop
  | [],l=>l = -1
  | .c x :: r,l=>if isB x=true then LI s r l else l=((fl r).length:Int)∧(bt s l=44↔x=44)
  | .s _ :: r,l=>l=((fl r).length:Int)∧bt s l≠44
theorem cmT_len : ∀ t:List Tk,(fl (cmT t)).length=(fl t).length
 | []=>rfl
 | .c x :: r=>by
  rw [cmT];split
  ·simp [fl,flat1,cmT_len r]
  split<;>simp [fl,flat1]
 | .s b :: r=>rfl
theorem cmT_wf : ∀ t:List Tk,wf t→wf (cmT t)
 | [],_=>trivial
 | .c x :: r,h=>by
  rw [cmT];split
  ·exact ⟨h.1,cmT_wf r h.2⟩
  split
  ·exact ⟨by decide,h.2⟩
  ·exact h
 | .s b :: r,h=>h
theorem cmT_gd : ∀ t:List Tk,gd (cmT t)→gd t
 | [],_=>trivial
 | .c x :: r,h=>by
  rw [cmT] at h
  split at h
  ·exact ⟨h.1,cmT_gd r h.2⟩
  split at h
  ·rename_i e;exact ⟨.inr (by omega),h.2⟩
  ·exact h
 | .s b :: r,h=>h
def RG (l : List Int):Prop:=∀ a ∈ l,0≤a∧a≤255
theorem RG.app {a b : List Int} (h:RG a) (k:RG b):RG (a++b):=fun x hx=>(List.mem_append.mp hx).elim (h x) (k x)
theorem RG.left {a b : List Int} (h:RG (a++b)):RG a:=fun x hx=>h x (List.mem_append.mpr (.inl hx))
theorem RG.right {a b : List Int} (h:RG (a++b)):RG b:=fun x hx=>h x (List.mem_append.mpr (.inr hx))
theorem RG.one {c : Int} (h:0≤c∧c≤255):RG [c]:=fun x hx=>by rw [List.mem_singleton] at hx;subst hx;exact h
theorem cmT_rg : ∀ t:List Tk,RG (fl t)→RG (fl (cmT t))
 | [],h=>h
 | .c x :: r,h=>by
  rw [cmT];rw [fl] at h
  split
  ·exact RG.app (cmT_rg r h.left) h.right
  split
  ·exact RG.app h.left (RG.one (by omega))
  ·exact h
 | .s b :: r,h=>h
theorem Sm.rg {x y : List Int} (h:Sm x y):RG x→RG y:=by
 induction h with
 | nil=>exact id
 | chr _ _ ih=>exact fun k=>RG.app (a:=[_]) (RG.left (a:=[_]) k) (ih (RG.right (a:=[_]) k))
 | bl hd _ ih=>exact fun k=>RG.app (a:=[_]) (RG.one (by omega)) (ih (RG.right (a:=[_]) k))
 | @str b x y X Y _ _ e e' ih =>
  intro k;subst e;subst e';have:RG ((34 :: (b++[34]))++x):=by simpa using k
  have:=RG.app this.left (ih this.right)
  simpa using this
theorem un_cm {s : ByteArray}:∀ (t:List Tk) (l:List Int) (last:Int),LI s t last→(if 0≤last∧bt s last=44 then (fl t++l).set last.toNat 32 else fl t++l)=fl (cmT t)++l
 | [],l,last,h=>by
  have:last = -1:=h;rw [if_neg (by omega)];rfl
 | .c x :: r,l,last,h=>by
  rw [LI] at h
  rw [cmT,fl,List.append_assoc];split at h
  ·rename_i hb;rw [if_pos hb,un_cm r (flat1 (.c x)++l) last h,fl,List.append_assoc]
  ·rename_i hb;obtain ⟨h1,h2⟩:=h;rw [if_neg hb];by_cases hx:x=44
   rotate_left
   ·rw [if_neg (fun k=>hx (h2.mp k.2)),if_neg hx,fl,List.append_assoc]
   rw [if_pos ⟨by omega,h2.mpr hx⟩,if_pos hx,h1,Int.toNat_natCast];simp [fl,flat1,List.set_append]
 | .s b :: r,l,last,h=>by
  rw [if_neg (fun k=>h.2 k.2)];rfl
theorem pr_cm {t t' : List Tk} (h:Rl t t'):gd t→∃ t2,cmL (fl t').reverse=(fl t2).reverse∧Rl (cmT t) t2:=by
 induction h with
 | nil=>exact fun _=>⟨[],rfl, .nil⟩
 | @chr x a a' hx hr ih =>
  intro hg;rw [fl,List.reverse_append,show (flat1 (.c x)).reverse=[x] from rfl,List.singleton_append,cmL,cmT];by_cases hb:isB x=true
  ·obtain ⟨t2,e,h2⟩:=ih hg.2;rw [if_pos (isB_low hb).1,if_pos hb,e];exact ⟨.c x :: t2,by simp [fl,flat1], .chr hx h2⟩
  have h32:32<x:=hg.1.resolve_left hb;rw [if_neg (by omega),if_neg hb];by_cases h44:x=44
  rotate_left
  ·rw [if_neg h44,if_neg h44];exact ⟨.c x :: a',by simp [fl,flat1], .chr hx hr⟩
  rw [if_pos h44,if_pos h44];exact ⟨.c 32 :: a',by simp [fl,flat1], .chr zq50 hr⟩
 | @bl d a a' hd hr ih =>
  intro hg;obtain ⟨t2,e,h2⟩:=ih hg.2;rw [fl,List.reverse_append,show (flat1 (.c d)).reverse=[d] from rfl,List.singleton_append,cmL,cmT,if_pos (by omega),if_pos zq50,e];exact ⟨.c d :: t2,by simp [fl,flat1], .bl hd h2⟩
 | @str b a a' hb hr ih =>
  intro hg;refine ⟨.s b :: a',?_, .str hb hr⟩;rw [fl,List.reverse_append,show (flat1 (.s b)).reverse=34 :: (34 :: b).reverse by simp [flat1],List.cons_append,cmL,if_neg (by omega),if_neg (by omega)]
def uB (c : Int):Int:=if c=10 then 10 else 32
def pu : List Int→List Tk→List Tk
  | [],t=>t
  | x :: xs,t=>pu xs (.c x :: t)
theorem fl_pu : ∀ (xs:List Int) (t:List Tk),fl (pu xs t)=fl t++xs
 | [],t=>by simp [pu]
 | x :: xs,t=>by rw [pu,fl_pu xs];simp [fl,flat1]
theorem pu_gd : ∀ (xs:List Int) (t:List Tk),gd (pu xs t)→gd t
 | [],_,h=>h
 | x :: xs,t,h=>(pu_gd xs _ h).2
theorem pu_wf : ∀ (w:List Int) (t:List Tk),wf t→wf (pu (w.map uB) t)
 | [],_,h=>h
 | x :: w,t,h=>pu_wf w _ ⟨by unfold uB;split<;>decide,h⟩
theorem pu_LI {s : ByteArray} {l:Int}:∀ (w:List Int) (t:List Tk),LI s t l→LI s (pu (w.map uB) t) l
 | [],_,h=>h
 | x :: w,t,h=>pu_LI w _ (by rw [LI,if_pos (by unfold uB;split<;>decide)];exact h)
theorem pu_rl : ∀ (w:List Int) {t t':List Tk},Rl t t'→Rl (pu (w.map uB) t) (pu (w.map cB) t')
 | [],_,_,h=>h
 | x :: w,t,t',h=>by
  refine pu_rl w ?_;unfold uB cB;by_cases h1:x=10
  ·rw [if_pos h1,if_pos (.inl h1),h1];exact .chr zq50 h
  rw [if_neg h1];by_cases h2:x=10∨x=9∨x=13
  ·rw [if_pos h2];exact .bl (by omega) h
  rw [if_neg h2];exact .chr zq50 h
theorem uB_rg (w : List Int):RG (w.map uB):=fun a ha=>by
 obtain ⟨c,_,rfl⟩:=List.mem_map.mp ha;unfold uB;split<;>omega
theorem blk_eq : ∀ (w A r:List Int),blkL (A++(w++r)) A.length w.length=A++(w.map uB++r)
 | [],A,r=>rfl
 | c :: w,A,r=>by
  rw [List.length_cons,blkL];have e1:(A++(c :: w++r)).getD A.length 0=c:=by simp [List.getD_eq_getElem?_getD]
  have e2:(A++(c :: w++r)).set A.length 32=A++(32 :: w++r):=by simp [List.set_append]
  rw [e1,e2]
  have e3:(if c=10 then A++(c :: w++r) else A++(32 :: w++r))=(A++[uB c])++(w++r):=by
   unfold uB;split
   ·rename_i h;simp [h]
   ·simp
  rw [e3];have:=blk_eq w (A++[uB c]) r;rw [List.length_append,List.length_singleton] at this;rw [this];simp
end Go.Proofs.Ytchhndbekjgimaa.J
end
section
namespace Go.Proofs.Ytchhndbekjgimaa.J
open Go.RowKit Go.Proofs.Ytchhndbekjgimaa.S Go.Proofs.YtchhndbekjgimaaW.PrintWords Go.Proofs.YtchhndbekjgimaaW.PrintLast
set_option linter.unusedVariables false
set_option linter.unusedSimpArgs false
set_option linter.unusedSectionVars false

theorem lnL_ex : ∀ r:List Int,((∀ c ∈ r,c≠10)∧lnL r=(r.map cB,[]))∨∃ w r3,r=w++10 :: r3∧(∀ c ∈ w,c≠10)∧lnL r=(w.map cB++[10],r3)
 | [] => .inl ⟨by simp,rfl⟩
 | c :: r=>by
  by_cases hc:c=10
  ·subst hc;exact .inr ⟨[],r,rfl,by simp,by rw [lnL,if_pos rfl];rfl⟩
  rcases lnL_ex r with ⟨h1,h2⟩|⟨w,r3,h1,h2,h3⟩
  ·refine .inl ⟨fun a ha=>?_,by rw [lnL,if_neg hc,h2];rfl⟩;rcases List.mem_cons.mp ha with rfl|ha
   ·exact hc
   ·exact h1 a ha
  ·refine .inr ⟨c :: w,r3,by rw [h1];rfl,fun a ha=>?_,by rw [lnL,if_neg hc,h3];rfl⟩;rcases List.mem_cons.mp ha with rfl|ha
   ·exact hc
   ·exact h2 a ha
theorem bkL_ex : ∀ (r:List Int) (p:List Int × List Int),bkL r=some p→∃ w,r=w++p.2∧p.1=w.map cB
 | [],p,h=>by simp [bkL] at h
 | [_],p,h=>by simp [bkL] at h
 | c :: d :: r,p,h=>by
  rw [bkL] at h
  split at h
  ·rename_i hc;cases h;exact ⟨[c,d],rfl,by rw [hc.1,hc.2];rfl⟩
  ·obtain ⟨q,hq,rfl⟩:=Option.map_eq_some_iff.mp h;obtain ⟨w,h1,h2⟩:=bkL_ex (d :: r) q hq;exact ⟨c :: w,by rw [h1];rfl,by simp [h2]⟩
theorem stL_body {b : List Int} (h:Body b) (r:List Int):stL false (b++34 :: r)=(b++[34],r):=by
 have hx:∀ {a:Int} {l:List Int},a≠34→a≠92→stL false (l++34 :: r)=(l++[34],r)→stL false (a :: l++34 :: r)=(a :: l++[34],r):=by
  intro a l h1 h2 ih;rw [List.cons_append,stL,if_neg (fun k=>h1 k.1),show (decide (a=92) && !false)=false by simp [h2],ih];rfl
 have hh:∀ {a b c d v:Int} {l:List Int},hex4 (a :: b :: c :: d :: l)=some v→(a≠34∧a≠92)∧(b≠34∧b≠92)∧(c≠34∧c≠92)∧(d≠34∧d≠92):=by
  intro a b c d v l h;have hv:∀ x:Int,hexv x≠none→x≠34∧x≠92:=fun x hx=>⟨fun e=>hx (by rw [e];rfl),fun e=>hx (by rw [e];rfl)⟩
  unfold hex4 at h
  refine ⟨hv a ?_,hv b ?_,hv c ?_,hv d ?_⟩<;>(intro e;simp [e] at h)
 induction h with
 | nil=>rw [List.nil_append,stL,if_pos ⟨rfl,rfl⟩];rfl
 | raw h1 _ h3 _ ih=>exact hx h1 h3 ih
 | @two b l hb _ ih =>
  rw [List.cons_append,List.cons_append,stL,if_neg zq50,show (decide ((92:Int)=92) && !false)=true from rfl,stL,if_neg (by simp),show (decide (b=92) && !true)=false by simp,ih];rfl
 | @six a b c d v l hh4 _ ih =>
  obtain ⟨⟨a1,a2⟩,⟨b1,b2⟩,⟨c1,c2⟩,⟨d1,d2⟩⟩:=hh hh4;have h1:=hx a1 a2 (hx b1 b2 (hx c1 c2 (hx d1 d2 ih)));rw [show (92 :: 117 :: a :: b :: c :: d :: l)++34 :: r=92 :: 117 :: (a :: b :: c :: d :: l++34 :: r) from rfl,stL,if_neg zq50,show (decide ((92:Int)=92) && !false)=true from rfl,stL,if_neg (by simp),show (decide ((117:Int)=92) && !true)=false by simp,h1];rfl
section
variable {s : ByteArray} (hs:s.size≤2147483647)
include hs
theorem cm_line {i : Nat} {r:List Int} (h0:From s i (47 :: 47 :: r)):∀ (w r2:List Int) (j:Nat),From s j (w++r2)→i+2≤j→(∀ c ∈ w,c≠10)→(r2=[]∨∃ r3,r2=10 :: r3)→Ev (fun k=>j1n.l0 k s (i:Int) (j:Int)) (((j+w.length:Nat):Int),true):=by
 have e1:=up1 (Nat.le_of_lt h0.lt) (by omega:s.size≤140737488351232);have b1:=h0.tail.bt;have l1:=h0.tail.lt;intro w
 induction w with
 | nil =>
  intro r2 j hj hij hw hr;refine Ev_shift ?_;simp only [j1n.l0,e1,b1];clear e1;rcases hr with rfl|⟨r3,rfl⟩
  ·have:=hj.nil;refine Ev.congr (fun _=>if_neg (by omega)) (Ev.congr (fun _=>if_pos (by omega)) (Ev.congr (fun _=>if_pos (by omega)) ?_));exact Ev_same (Ev.now _) (by rw [← this];rfl)
  ·have l2:=hj.lt;have b2:=hj.bt;refine Ev.congr (fun _=>if_pos (by omega)) (Ev.congr (fun _=>if_pos (by omega)) (Ev.congr (fun _=>if_pos (by omega)) (Ev.congr (fun _=>if_pos trivial) (Ev.congr (fun _=>if_pos (by omega)) ?_))));refine Ev_shift ?_;simp only [j1n.j2];exact Ev.congr (fun _=>if_pos (by rw [b2];rfl)) (Ev.now _)
 | cons c w ih =>
  intro r2 j hj hij hw hr;have l2:=hj.lt;have b2:=hj.bt;have q1:(j:Int)<(s.size:Int):=by clear e1;omega
  have q2:(0:Int)≤((i+1:Nat):Int):=by clear e1;omega
  have q3:((i+1:Nat):Int)<(s.size:Int):=by clear e1;omega
  have q4:(0:Int)≤(j:Int):=by clear e1;omega
  refine Ev_shift ?_;simp only [j1n.l0,e1,b1];refine Ev.congr (fun _=>if_pos q1) (Ev.congr (fun _=>if_pos q2) (Ev.congr (fun _=>if_pos q3) (Ev.congr (fun _=>if_pos trivial) (Ev.congr (fun _=>if_pos q4) ?_))));refine Ev_shift ?_;simp only [j1n.j2,e1,b1];clear e1;have hc:=hw c (by simp);refine Ev.congr (fun _=>if_neg (by rw [b2];simpa using hc)) (Ev.congr (fun _=>if_pos q2) (Ev.congr (fun _=>if_pos q3) (Ev.congr (fun _=>if_neg zq50) ?_)));rw [up1 (Nat.le_of_lt l2) (by omega)];refine Ev_same (ih r2 (j+1) hj.tail (by omega) (fun a ha=>hw a (List.mem_cons_of_mem _ ha)) hr) ?_;rw [List.length_cons]
  congr 2
  omega
theorem cm_blk {i : Nat} {r:List Int} (h0:From s i (47 :: 42 :: r)):∀ (rest:List Int) (c:Int) (j:Nat),From s j (c :: rest)→i+2≤j→(∀ p,bkL (c :: rest)=some p→Ev (fun k=>j1n.l0 k s (i:Int) ((j+1:Nat):Int)) (((j+p.1.length:Nat):Int),true))∧(bkL (c :: rest)=none→Ev (fun k=>j1n.l0 k s (i:Int) ((j+1:Nat):Int)) ((s.size:Int),false)):=by
 have hs':s.size≤140737488351232:=by omega
 have e1:=up1 (Nat.le_of_lt h0.lt) hs';have e2:wrap64 ((i:Int)+2)=((i+2:Nat):Int):=up 2 (Nat.le_of_lt h0.lt) hs' zq50;have b1:=h0.tail.bt;have l1:=h0.tail.lt;intro rest
 induction rest with
 | nil =>
  intro c j hj hij;refine ⟨fun p hp=>by simp [bkL] at hp,fun _=>?_⟩;have:=hj.tail.nil;refine Ev_shift ?_;simp only [j1n.l0,e1,b1];clear e1 e2;refine Ev.congr (fun _=>if_neg (by omega)) (Ev.congr (fun _=>if_pos (by omega)) (Ev.congr (fun _=>if_pos (by omega)) ?_));exact Ev.now _
 | cons d rest ih =>
  intro c j hj hij;have l2:=hj.tail.lt;have b2:=hj.bt;have b3:=hj.tail.bt;have w1:wrap64 (((j+1:Nat):Int) - 1)=(j:Int):=by clear e1 e2;rw [w64 (by omega)];omega
  have w2:=up1 (Nat.le_of_lt l2) (by clear e1 e2 w1;omega:s.size≤140737488351232)
  have go:∀ k,j1n.l0 (k+1+1) s (i:Int) ((j+1:Nat):Int)=if c=42 then (if d=47 then some (((j+1+1:Nat):Int),true) else j1n.l0 k s (i:Int) ((j+1+1:Nat):Int)) else j1n.l0 k s (i:Int) ((j+1+1:Nat):Int):=by
   intro k;simp only [j1n.l0,j1n.j2,e1,e2,b1,w1,w2,b2,b3];clear e1 e2 w1 w2;have q1:((j+1:Nat):Int)<(s.size:Int):=by omega
   have q2:(0:Int)≤((i+1:Nat):Int):=by omega
   have q3:((i+1:Nat):Int)<(s.size:Int):=by omega
   have q4:(0:Int)≤(j:Int):=by omega
   have q5:((j+1:Nat):Int)>((i+2:Nat):Int):=by omega
   have q6:(j:Int)<(s.size:Int):=by omega
   have q7:(0:Int)≤((j+1:Nat):Int):=by omega
   have q8:¬ ((42:Int)=47):=by decide
   simp only [if_pos q1,if_pos q2,if_pos q3,if_pos q4,if_pos q5,if_pos q6,if_pos q7,if_neg q8,if_true,Bool.false_eq_true,if_false]
  clear e1 e2 w1 w2;obtain ⟨i1,i2⟩:=ih d (j+1) hj.tail (by omega);by_cases hcd:c=42∧d=47
  ·refine ⟨fun p hp=>?_,fun hp=>by rw [bkL,if_pos hcd] at hp;cases hp⟩;rw [bkL,if_pos hcd] at hp;cases hp;exact Ev_shift (Ev_shift (Ev.congr go (Ev.congr (fun _=>if_pos hcd.1) (Ev.congr (fun _=>if_pos hcd.2) (Ev.now _)))))
  have go2:∀ k,j1n.l0 (k+1+1) s (i:Int) ((j+1:Nat):Int)=j1n.l0 k s (i:Int) ((j+1+1:Nat):Int):=by
   intro k;rw [go];by_cases h1:c=42
   rotate_left
   ·rw [if_neg h1]
   rw [if_pos h1,if_neg (fun h2=>hcd ⟨h1,h2⟩)]
  refine ⟨fun p hp=>?_,fun hp=>?_⟩
  ·rw [bkL,if_neg hcd] at hp;obtain ⟨q,hq,rfl⟩:=Option.map_eq_some_iff.mp hp;refine Ev_same (Ev_shift (Ev_shift (Ev.congr go2 (i1 q hq)))) ?_;simp only [List.length_cons]
   congr 2
   omega
  ·rw [bkL,if_neg hcd] at hp;exact Ev_shift (Ev_shift (Ev.congr go2 (i2 (Option.map_eq_none_iff.mp hp))))
theorem com_none {i : Nat} {c:Int} {r:List Int} (h:From s i (c :: r)) (hc:c≠47):Ev (fun k=>j1n.f k s (i:Int)) ((i:Int),true):=by
 have l:=h.lt;unfold j1n.f;exact Ev.congr (fun _=>if_pos (by omega)) (Ev.congr (fun _=>if_pos (by omega)) (Ev.congr (fun _=>if_neg (by rw [h.bt];exact hc)) (Ev.now _)))
theorem com_end {i : Nat} (h:From s i [47]):Ev (fun k=>j1n.f k s (i:Int)) ((i:Int),false):=by
 have l:=h.lt;have l2:=h.tail.nil;have e1:=up1 (Nat.le_of_lt l) (by omega:s.size≤140737488351232);unfold j1n.f;rw [e1];clear e1;refine Ev.congr (fun _=>if_pos (by omega)) (Ev.congr (fun _=>if_pos (by omega)) (Ev.congr (fun _=>if_pos h.bt) (Ev.congr (fun _=>if_pos (by omega)) (Ev_shift ?_))));simp only [j1n.j0,if_true];exact Ev.now _
theorem com_two {i : Nat} {d:Int} {r:List Int} {R:Int × Bool} (h:From s i (47 :: d :: r)):(d≠47→d≠42→R=((i:Int),false))→((d=47∨d=42)→Ev (fun k=>j1n.l0 k s (i:Int) ((i+2:Nat):Int)) R)→Ev (fun k=>j1n.f k s (i:Int)) R:=by
 intro h1 h2;have l:=h.lt;have l2:=h.tail.lt;have hs':s.size≤140737488351232:=by omega
 have e1:=up1 (Nat.le_of_lt l) hs';have e2:wrap64 ((i:Int)+2)=((i+2:Nat):Int):=up 2 (Nat.le_of_lt l) hs' zq50;have q1:(0:Int)≤(i:Int):=by clear e1 e2;omega
 have q2:(i:Int)<(s.size:Int):=by clear e1 e2;omega
 have q3:¬ (((i+1:Nat):Int)=(s.size:Int)):=by clear e1 e2;omega
 have q4:(0:Int)≤((i+1:Nat):Int):=by clear e1 e2;omega
 have q5:((i+1:Nat):Int)<(s.size:Int):=by clear e1 e2;omega
 unfold j1n.f;rw [e1,h.tail.bt];refine Ev.congr (fun _=>if_pos q1) (Ev.congr (fun _=>if_pos q2) (Ev.congr (fun _=>if_pos h.bt) (Ev.congr (fun _=>if_neg q3) (Ev.congr (fun _=>if_pos q4) (Ev.congr (fun _=>if_pos q5) ?_)))));by_cases d1:d=47
 ·refine Ev.congr (fun _=>if_pos d1) (Ev_shift ?_);simp only [j1n.j0,e2];exact Ev.congr (fun _=>if_neg (by simp)) (h2 (.inl d1))
 refine Ev.congr (fun _=>if_neg d1) (Ev_shift ?_);simp only [j1n.j0,e2];by_cases d2:d=42
 ·exact Ev.congr (fun _=>if_neg (by simp [d2])) (h2 (.inr d2))
 refine Ev.congr (fun _=>if_pos (by simp [d2])) ?_;rw [h1 d1 d2];exact Ev.now _
theorem cm_bnil {i : Nat} (h:From s i [47,42]):Ev (fun k=>j1n.l0 k s (i:Int) ((i+2:Nat):Int)) ((s.size:Int),false):=by
 have l1:=h.tail.lt;have l2:=h.tail.tail.nil;have b1:=h.tail.bt;have hs':s.size≤140737488351232:=by omega
 have q1:¬ (((i+2:Nat):Int)<(s.size:Int)):=by omega
 have q2:(0:Int)≤((i+1:Nat):Int):=by omega
 have q3:((i+1:Nat):Int)<(s.size:Int):=by omega
 have e1:=up1 (Nat.le_of_lt h.lt) hs';refine Ev_shift ?_;simp only [j1n.l0,e1,b1];exact Ev.congr (fun _=>if_neg q1) (Ev.congr (fun _=>if_pos q2) (Ev.congr (fun _=>if_pos q3) (Ev.now _)))
theorem cm_bfst {i : Nat} {c:Int} {r:List Int} {R:Int × Bool} (h:From s i (47 :: 42 :: c :: r)) (k:Ev (fun k=>j1n.l0 k s (i:Int) ((i+2+1:Nat):Int)) R):Ev (fun k=>j1n.l0 k s (i:Int) ((i+2:Nat):Int)) R:=by
 have l1:=h.tail.tail.lt;have b1:=h.tail.bt;have hs':s.size≤140737488351232:=by omega
 have q1:((i+2:Nat):Int)<(s.size:Int):=by omega
 have q2:(0:Int)≤((i+1:Nat):Int):=by omega
 have q3:((i+1:Nat):Int)<(s.size:Int):=by omega
 have q4:¬ (((i+2:Nat):Int)>((i+2:Nat):Int)):=by omega
 have l3:i+2≤s.size:=by omega
 have e1:=up1 (Nat.le_of_lt h.lt) hs';have e2:wrap64 ((i:Int)+2)=((i+2:Nat):Int):=up 2 (Nat.le_of_lt h.lt) hs' zq50;have e3:=up1 l3 hs';refine Ev_shift (Ev_shift (Ev.congr (fun k=>?_) k));simp only [j1n.l0,j1n.j2,e1,e2,e3,b1,if_pos q1,if_pos q2,if_pos q3,if_neg q4,if_true,Bool.false_eq_true,if_false,show ¬ ((42:Int)=47) by decide]
end
end Go.Proofs.Ytchhndbekjgimaa.J
end
section
namespace Go.Proofs.Ytchhndbekjgimaa.J
open Go.RowKit Go.Proofs.Ytchhndbekjgimaa.S Go.Proofs.YtchhndbekjgimaaW.PrintWords Go.Proofs.YtchhndbekjgimaaW.PrintLast
set_option linter.unusedVariables false
set_option linter.unusedSimpArgs false
set_option linter.unusedSectionVars false

theorem blank_is (c : Int):j2z.f c=some (isB c):=by
 unfold j2z.f isB;by_cases e1:c=32
 ·rw [if_pos e1,e1];rfl
 by_cases e2:c=9
 ·rw [if_neg e1,if_pos e2,e2];rfl
 by_cases e3:c=10
 ·rw [if_neg e1,if_neg e2,if_pos e3,e3];rfl
 rw [if_neg e1,if_neg e2,if_neg e3];by_cases e4:c=13
 ·rw [e4];rfl
 simp [e1,e2,e3,e4]
section
variable {s : ByteArray} (hs:s.size≤2147483647)
include hs
theorem un_com {t : List Tk} {W r:List Int} {last:Int} {R:ByteArray × Bool} (h:From s (fl t).length (W++r)) (hW:0<W.length) (hc:Ev (fun k=>j1n.f k s ((fl t).length:Int)) ((((fl t).length+W.length:Nat):Int),true)) (hn:Ev (fun k=>unL k s (fl (pu (W.map uB) t)++r) (fl (pu (W.map uB) t)).length last) R):Ev (fun k=>unL k s (fl t++(W++r)) (fl t).length last) R:=by
 have hl:=h.len;rw [List.length_append] at hl;refine Ev_shift ?_;simp only [unL];refine Ev.congr (fun _=>if_pos (by omega)) (Ev.bind hc ?_);refine Ev.congr (fun _=>if_neg (by simp)) (Ev.congr (fun _=>if_pos (by simp only;omega)) (Ev.congr (fun _=>if_pos (by simp only;omega)) ?_));rw [fl_pu,List.length_append,List.length_map,List.append_assoc] at hn;simp only [Int.toNat_natCast,Nat.add_sub_cancel_left,blk_eq];exact hn
theorem un_bad {t : List Tk} {l:List Int} {last:Int} {x:Int} (hi:(fl t).length<s.size) (hc:Ev (fun k=>j1n.f k s ((fl t).length:Int)) (x,false)):Ev (fun k=>unL k s (fl t++l) (fl t).length last) (⟨#[]⟩,false):=by
 refine Ev_shift ?_;simp only [unL];exact Ev.congr (fun _=>if_pos hi) (Ev.bind hc (Ev.congr (fun _=>if_pos rfl) (Ev.now _)))
theorem un_chr {t : List Tk} {c:Int} {r:List Int} {last:Int} {R:ByteArray × Bool} (h:From s (fl t).length (c :: r)) (h47:c≠47) (h34:c≠34) (hL:LI s t last) (hn:Ev (fun k=>unL k s (fl (.c c :: (if c=125∨c=93 then cmT t else t))++r) (fl (.c c :: (if c=125∨c=93 then cmT t else t))).length (if isB c=true then last else ((fl t).length:Int))) R):Ev (fun k=>unL k s (fl t++(c :: r)) (fl t).length last) R:=by
 have hi:=h.lt;refine Ev_shift ?_;simp only [unL];refine Ev.congr (fun _=>if_pos hi) (Ev.bind (com_none hs h h47) ?_);refine Ev.congr (fun _=>if_neg (by simp)) (Ev.congr (fun _=>if_neg (by simp only;omega)) (Ev.congr (fun _=>if_neg (by rw [h.bt];exact h34)) ?_));rw [h.bt,blank_is];refine Ev.bind (Ev.now _) ?_
 have e:(if (c=125∨c=93)∧0≤last∧bt s last=44 then (fl t++c :: r).set last.toNat 32 else fl t++c :: r)=fl (.c c :: (if c=125∨c=93 then cmT t else t))++r:=by
  by_cases hb:c=125∨c=93
  rotate_left
  ·rw [if_neg (fun k=>hb k.1),if_neg hb,fl,List.append_assoc];rfl
  rw [if_pos hb];have:=un_cm t (c :: r) last hL;rw [fl,List.append_assoc,show flat1 (.c c)++r=c :: r from rfl,← this];by_cases hx:0≤last∧bt s last=44
  ·rw [if_pos hx,if_pos ⟨hb,hx⟩]
  rw [if_neg hx,if_neg (fun k=>hx k.2)]
 have e2:(fl (.c c :: (if c=125∨c=93 then cmT t else t))).length=(fl t).length+1:=by
  rw [fl,List.length_append];split
  ·rw [cmT_len];rfl
  ·rfl
 rw [e2] at hn;rw [e];exact hn
theorem un_str {t : List Tk} {b r:List Int} {last:Int} {R:ByteArray × Bool} (h:From s (fl t).length (34 :: (b++34 :: r))) (hb:Body b) (hn:Ev (fun k=>unL k s (fl (.s b :: t)++r) (fl (.s b :: t)).length ((fl t).length:Int)) R):Ev (fun k=>unL k s (fl t++34 :: (b++34 :: r)) (fl t).length last) R:=by
 have hi:=h.lt;have hl:=h.len;have hq:=(quoted_eq (by omega:s.size≤140737488351232) h).1 r (strL_body hb r);refine Ev_shift ?_;simp only [unL];refine Ev.congr (fun _=>if_pos hi) (Ev.bind (com_none hs h zq50) ?_);refine Ev.congr (fun _=>if_neg (by simp)) (Ev.congr (fun _=>if_neg (by simp only;omega)) (Ev.congr (fun _=>if_pos h.bt) ?_));refine Ev.bind hq (Ev.congr (fun _=>if_pos rfl) (Ev.congr (fun _=>if_pos ⟨by simp only;omega,by simp only;omega⟩) ?_))
 have e:(((s.size - r.length:Nat):Int)).toNat=(fl (.s b :: t)).length:=by
  rw [Int.toNat_natCast];simp only [List.length_cons,List.length_append] at hl;simp [fl,flat1];omega
 have e2:fl (.s b :: t)++r=fl t++34 :: (b++34 :: r):=by simp [fl,flat1]
 rw [e2] at hn;simp only [e];exact hn
theorem un_nostr {t : List Tk} {l:List Int} {last:Int} (h:From s (fl t).length (34 :: l)) (hb:strL l=none):Ev (fun k=>unL k s (fl t++34 :: l) (fl t).length last) (⟨#[]⟩,false):=by
 have hi:=h.lt;obtain ⟨p,hq⟩:=(quoted_eq (by omega:s.size≤140737488351232) h).2 hb;refine Ev_shift ?_;simp only [unL];refine Ev.congr (fun _=>if_pos hi) (Ev.bind (com_none hs h zq50) ?_);refine Ev.congr (fun _=>if_neg (by simp)) (Ev.congr (fun _=>if_neg (by simp only;omega)) (Ev.congr (fun _=>if_pos h.bt) ?_));exact Ev.bind hq (Ev.congr (fun _=>if_neg (by simp)) (Ev.now _))
end
def GO (s : ByteArray) (l:List Int) (t:List Tk) (last:Int):Prop:=∃ R:ByteArray × Bool,Ev (fun k=>unL k s (fl t++l) (fl t).length last) R ∧
  (R.2=true→∃ T,wf T∧R.1=strOfNums (fl T)∧RG (fl T)∧(fl T).length=s.size∧textL (fl T)=true∧(gd T→gd t∧∀ t',Rl t t'→∃ T',Rl T T'∧Ev (fun k=>prL k l (fl t').reverse) (fl T')))
theorem GO.bad {s : ByteArray} {l:List Int} {t:List Tk} {last:Int} (h:Ev (fun k=>unL k s (fl t++l) (fl t).length last) (⟨#[]⟩,false)):GO s l t last:=⟨_,h,fun h=>by cases h⟩
theorem GO.step {s : ByteArray} {l l2:List Int} {t t2:List Tk} {last last2:Int} (hu:∀ R,Ev (fun k=>unL k s (fl t2++l2) (fl t2).length last2) R→Ev (fun k=>unL k s (fl t++l) (fl t).length last) R) (hg:gd t2→gd t) (hp:gd t→∀ t',Rl t t'→∃ t2',Rl t2 t2'∧∀ U,Ev (fun k=>prL k l2 (fl t2').reverse) U→Ev (fun k=>prL k l (fl t').reverse) U) (h:GO s l2 t2 last2):GO s l t last:=by
 obtain ⟨R,h1,h2⟩:=h;refine ⟨R,hu R h1,fun hR=>?_⟩;obtain ⟨T,k1,k2,k3,k4,k5,k6⟩:=h2 hR;refine ⟨T,k1,k2,k3,k4,k5,fun hT=>?_⟩;obtain ⟨q1,q2⟩:=k6 hT;refine ⟨hg q1,fun t' ht=>?_⟩;obtain ⟨t2',z1,z2⟩:=hp (hg q1) t' ht;obtain ⟨T',y1,y2⟩:=q2 t2' z1;exact ⟨T',y1,z2 _ y2⟩
section
variable {s : ByteArray} (hs:s.size≤2147483647)
include hs
theorem go_chr {t : List Tk} {c:Int} {r:List Int} {last:Int} (h:From s (fl t).length (c :: r)) (h47:c≠47) (h34:c≠34) (hL:LI s t last) (ih:GO s r (.c c :: (if c=125∨c=93 then cmT t else t)) (if isB c=true then last else ((fl t).length:Int))):GO s (c :: r) t last:=by
 refine GO.step (fun R hR=>un_chr hs h h47 h34 hL hR) (fun hg=>?_) (fun hg t' ht=>?_) ih
 ·have h2:=hg.2;split at h2
  ·exact cmT_gd t h2
  ·exact h2
 ·by_cases hb:c=125∨c=93
  rotate_left
  ·rw [if_neg hb];refine ⟨.c c :: t', .chr h34 ht,fun U hU=>Ev_shift ?_⟩;simp only [prL];refine Ev.congr (fun _=>if_neg (fun k=>h47 k.1)) (Ev.congr (fun _=>if_neg (fun k=>h47 k.1)) (Ev.congr (fun _=>if_neg h34) (Ev.congr (fun _=>if_neg hb) ?_)))
   simpa [fl,flat1] using hU
  obtain ⟨t2,e,h2⟩:=pr_cm ht hg;rw [if_pos hb];refine ⟨.c c :: t2, .chr h34 h2,fun U hU=>Ev_shift ?_⟩;simp only [prL];refine Ev.congr (fun _=>if_neg (fun k=>h47 k.1)) (Ev.congr (fun _=>if_neg (fun k=>h47 k.1)) (Ev.congr (fun _=>if_neg h34) (Ev.congr (fun _=>if_pos hb) ?_)));rw [e]
  simpa [fl,flat1] using hU
theorem chr_wf {t : List Tk} {c:Int} (h34:c≠34) (hw:wf t):wf (.c c :: (if c=125∨c=93 then cmT t else t)):=by
 refine ⟨h34,?_⟩;split
 ·exact cmT_wf t hw
 ·exact hw
theorem chr_rg {t : List Tk} {c:Int} (hc:0≤c∧c≤255) (hr:RG (fl t)):RG (fl (.c c :: (if c=125∨c=93 then cmT t else t))):=by
 rw [fl];refine RG.app ?_ (RG.one hc);split
 ·exact cmT_rg t hr
 ·exact hr
theorem chr_LI {t : List Tk} {c:Int} {r:List Int} {last:Int} (h:From s (fl t).length (c :: r)) (hL:LI s t last):LI s (.c c :: (if c=125∨c=93 then cmT t else t)) (if isB c=true then last else ((fl t).length:Int)):=by
 rw [LI];by_cases hb:isB c=true
 ·rw [if_pos hb,if_pos hb,if_neg (by have:=isB_low hb;omega)];exact hL
 rw [if_neg hb,if_neg hb];refine ⟨?_,by rw [h.bt]⟩;split
 ·rw [cmT_len]
 ·rfl
theorem chr_len {t : List Tk} {c:Int}:(fl (.c c :: (if c=125∨c=93 then cmT t else t))).length=(fl t).length+1:=by
 rw [fl,List.length_append];split
 ·rw [cmT_len];rfl
 ·rfl
theorem un_all : ∀ (n:Nat) (l:List Int) (t:List Tk) (last:Int),l.length≤n→From s (fl t).length l→wf t→RG (fl t)→LI s t last→GO s l t last:=by
 intro n
 induction n with
 | zero =>
  intro l t last hn h hw hr hL;have:l=[]:=List.length_eq_zero_iff.mp (by omega);subst this;have hsz:=h.nil;have hbs:=bytesOf_strOfNums (fl t) hr;have hz:(strOfNums (fl t)).size=s.size:=by rw [← bytesOf_length,hbs,hsz]
  obtain ⟨p1,p2⟩:=places_eq (s:=strOfNums (fl t)) (by omega);rw [hbs] at p1 p2;cases ht:textL (fl t) with
  | true =>
   obtain ⟨B,v,B',p,_,_,_,_,hp⟩:=p1 ht;refine ⟨(strOfNums (fl t),true),Ev_shift ?_,fun _=>⟨t,hw,rfl,hr,hsz,ht,fun hg=>⟨hg,fun t' h'=>⟨t',h',Ev_shift ?_⟩⟩⟩⟩
   ·simp only [unL,List.append_nil];exact Ev.congr (fun _=>if_neg (by omega)) (Ev.bind hp (Ev.now _))
   ·simp only [prL,List.reverse_reverse];exact Ev.now _
  | false =>
   refine ⟨(strOfNums (fl t),false),Ev_shift ?_,fun h=>by cases h⟩;simp only [unL,List.append_nil];exact Ev.congr (fun _=>if_neg (by omega)) (Ev.bind (p2 ht) (Ev.now _))
 | succ n ih =>
  intro l t last hn h hw hr hL
  match l,hn,h with
  | [],_,h=>exact ih [] t last (by simp) h hw hr hL
  | c :: r,hn,h =>
   rw [List.length_cons] at hn;by_cases h47:c=47
   rotate_left
   ·by_cases h34:c=34
    rotate_left
    ·refine go_chr hs h h47 h34 hL (ih r _ _ (by omega) ?_ (chr_wf hs h34 hw) (chr_rg hs h.head hr) (chr_LI hs h hL));rw [chr_len hs];exact h.tail
    subst h34;cases hq:strL r with
    | none=>exact GO.bad (un_nostr hs h hq)
    | some r2 =>
     obtain ⟨b,hb,rfl⟩:=strL_iff.mp hq;have hlen:r2.length≤n:=by simp only [List.length_append,List.length_cons] at hn;omega
     have hF:From s (fl (.s b :: t)).length r2:=by
      have h0:From s (fl t).length ((34 :: (b++[34]))++r2):=by simpa using h
      rw [fl,List.length_append];exact h0.app
     have hrg:RG (34 :: (b++[34])):=by
      have h0:From s (fl t).length ((34 :: (b++[34]))++r2):=by simpa using h
      exact RG.left (b:=r2) h0.range
     refine GO.step (fun R hR=>un_str hs h hb hR) (fun hg=>hg) (fun hg t' ht=>⟨.s b :: t', .str hb ht,fun U hU=>Ev_shift ?_⟩) (ih r2 (.s b :: t) ((fl t).length:Int) hlen hF ⟨hb,hw⟩ (by rw [fl];exact RG.app hr hrg) ⟨rfl,by rw [h.bt];decide⟩);simp only [prL,stL_body hb];refine Ev.congr (fun _=>if_neg (by simp)) (Ev.congr (fun _=>if_neg (by simp)) (Ev.congr (fun _=>if_pos trivial) ?_))
     simpa [fl,flat1] using hU
   subst h47
   match r,hn,h with
   | [],_,h=>exact GO.bad (un_bad hs h.lt (com_end hs h))
   | d :: r,hn,h =>
    rw [List.length_cons] at hn;by_cases d1:d=47
    rotate_left
    ·by_cases d2:d=42
     rotate_left
     ·exact GO.bad (un_bad hs h.lt (com_two hs (R:=(((fl t).length:Int),false)) h (fun _ _=>rfl) (fun k=>by rcases k with k|k<;>contradiction)))
     subst d2;cases hk:bkL r with
     | none =>
      refine GO.bad (un_bad hs h.lt (com_two hs (R:=((s.size:Int),false)) h (fun _ k=>absurd rfl k) (fun _=>?_)))
      match r,hk,h with
      | [],_,h =>
       exact cm_bnil hs h
      | c :: r,hk,h =>
       exact cm_bfst hs h ((cm_blk hs h r c ((fl t).length+2) h.tail.tail (Nat.le_refl _)).2 hk)
     | some p =>
      obtain ⟨w,w1,w2⟩:=bkL_ex r p hk
      have hc:=com_two hs (R:=((((fl t).length+(47 :: 42 :: w).length:Nat):Int),true)) h (fun _ k=>absurd rfl k) (fun _=>by
       match r,hk,h,w1 with
       | [],hk,_,_=>simp [bkL] at hk
       | c :: r,hk,h,w1 =>
        refine Ev_same (cm_bfst hs h ((cm_blk hs h r c ((fl t).length+2) h.tail.tail (Nat.le_refl _)).1 p hk)) ?_;rw [w2];simp only [List.length_cons,List.length_map]
        congr 2
        omega)
      have h0:From s (fl t).length ((47 :: 42 :: w)++p.2):=by rw [w1] at h;exact h
      have hlen:p.2.length≤n:=by rw [w1,List.length_append] at hn;omega
      have eR:(47:Int) :: 42 :: r=(47 :: 42 :: w)++p.2:=by rw [w1];rfl
      refine GO.step (t2:=pu ((47 :: 42 :: w).map uB) t) (l2:=p.2) (last2:=last) (fun R hR=>by rw [eR];exact un_com hs h0 (by simp) hc hR) (pu_gd _ _) (fun hg t' ht=>⟨_,pu_rl (47 :: 42 :: w) ht,fun U hU=>Ev_shift ?_⟩) (ih p.2 _ last hlen ?_ (pu_wf _ _ hw) ?_ (pu_LI _ _ hL))
      ·simp only [prL,List.head?_cons,List.tail_cons,hk];refine Ev.congr (fun _=>if_neg (by simp)) (Ev.congr (fun _=>if_pos (by simp)) (Ev.bind (Ev.now _) ?_));rw [fl_pu] at hU;rw [w2]
       simpa [cB] using hU
      ·rw [fl_pu,List.length_append,List.length_map];exact h0.app
      ·rw [fl_pu];exact RG.app hr (uB_rg _)
    subst d1;rcases lnL_ex r with ⟨h1,h2⟩|⟨w,r3,h1,h2,h3⟩
    ·have hc:=com_two hs (R:=((((fl t).length+(47 :: 47 :: r).length:Nat):Int),true)) h (fun k=>absurd rfl k) (fun _=>by
      have hF:=h.tail.tail;refine Ev_same (cm_line hs h r [] ((fl t).length+2) (by simpa using hF) (Nat.le_refl _) h1 (.inl rfl)) ?_;simp only [List.length_cons]
      congr 2
      omega)
     have h0:From s (fl t).length ((47 :: 47 :: r)++[]):=by simpa using h
     refine GO.step (t2:=pu ((47 :: 47 :: r).map uB) t) (l2:=[]) (last2:=last) (fun R hR=>by have:=un_com hs h0 (by simp) hc hR;simpa using this) (pu_gd _ _) (fun hg t' ht=>⟨_,pu_rl (47 :: 47 :: r) ht,fun U hU=>Ev_shift ?_⟩) (ih [] _ last (by simp) ?_ (pu_wf _ _ hw) ?_ (pu_LI _ _ hL))
     ·simp only [prL,List.head?_cons,List.tail_cons,h2];refine Ev.congr (fun _=>if_pos (by simp)) ?_;rw [fl_pu] at hU
      simpa [cB] using hU
     ·rw [fl_pu,List.length_append,List.length_map];exact h0.app
     ·rw [fl_pu];exact RG.app hr (uB_rg _)
    ·subst h1
     have hc:=com_two hs (R:=((((fl t).length+(47 :: 47 :: w).length:Nat):Int),true)) h (fun k=>absurd rfl k) (fun _=>by
      have hF:=h.tail.tail;refine Ev_same (cm_line hs h w (10 :: r3) ((fl t).length+2) hF (Nat.le_refl _) h2 (.inr ⟨_,rfl⟩)) ?_;simp only [List.length_cons]
      congr 2
      omega)
     have h0:From s (fl t).length ((47 :: 47 :: w)++10 :: r3):=h
     have hF1:From s (fl (pu ((47 :: 47 :: w).map uB) t)).length (10 :: r3):=by
      rw [fl_pu,List.length_append,List.length_map];exact h0.app
     have hL1:=pu_LI (47 :: 47 :: w) t hL;have hw1:=pu_wf (47 :: 47 :: w) t hw;have hr1:RG (fl (pu ((47 :: 47 :: w).map uB) t)):=by rw [fl_pu];exact RG.app hr (uB_rg _)
     have hlen:r3.length≤n:=by simp only [List.length_append,List.length_cons] at hn;omega
     have hF2:From s (fl (.c 10 :: pu ((47 :: 47 :: w).map uB) t)).length r3:=by
      rw [fl,List.length_append];exact hF1.tail
     have hG:=ih r3 (.c 10 :: pu ((47 :: 47 :: w).map uB) t) last hlen hF2 ⟨by decide,hw1⟩ (by rw [fl];exact RG.app hr1 (RG.one (by omega))) (by rw [LI,if_pos zq50];exact hL1);refine GO.step (t2 := .c 10 :: pu ((47 :: 47 :: w).map uB) t) (l2:=r3) (last2:=last) (fun R hR=>?_) (fun hg=>pu_gd _ _ hg.2) (fun hg t' ht=>⟨.c 10 :: pu ((47 :: 47 :: w).map cB) t', .chr zq50 (pu_rl (47 :: 47 :: w) ht),fun U hU=>Ev_shift ?_⟩) hG
     ·refine un_com hs h0 (by simp) hc ?_;exact un_chr hs hF1 zq50 zq50 hL1 hR
     ·simp only [prL,List.head?_cons,List.tail_cons,h3];refine Ev.congr (fun _=>if_pos (by simp)) ?_;rw [fl,fl_pu] at hU
      simpa [cB,flat1] using hU
end
end Go.Proofs.Ytchhndbekjgimaa.J
end
section
namespace Go.Proofs.Ytchhndbekjgimaa.J
open Go.RowKit Go.Proofs.Ytchhndbekjgimaa.S Go.Proofs.YtchhndbekjgimaaW.PrintWords Go.Proofs.YtchhndbekjgimaaW.PrintLast
set_option linter.unusedVariables false
set_option linter.unusedSimpArgs false
set_option linter.unusedSectionVars false
def FO (x : List Int):Prop:=∀ c t,x=c :: t→¬ NC c
theorem FO.nd {x : List Int} (h:FO x):ND x:=fun c t e=>by
 have:=h c t e;cases hd:isD c with
 | false=>rfl
 | true=>exact absurd (isD_NC hd) this
theorem FO_bl {B : List Int} (hB:Bl B) {c:Int} (hc:¬ NC c) (x:List Int):FO (B++c :: x):=by
 intro a t e;cases B with
 | nil=>rw [(List.cons.inj e).1] at hc;exact hc
 | cons b B =>
  rw [← (List.cons.inj e).1];have:=isB_low (hB b (by simp));unfold NC;omega
theorem FO_bls {B : List Int} (hB:Bl B):FO B:=by
 intro a t e;have:=isB_low (hB a (by rw [e];simp));unfold NC;omega
theorem skD_ap {x : List Int} (hx:ND x):∀ l:List Int,skD (l++x)=skD l++x
 | []=>by
  cases x with
  | nil=>rfl
  | cons c t =>
   show skD (c :: t)=c :: t
   rw [skD,if_neg (by simp [hx c t rfl])]
 | c :: l=>by
  rw [List.cons_append,skD,skD];split
  ·exact skD_ap hx l
  ·rfl
theorem digL_ap {x l r:List Int} (hx:ND x) (h:digL l=some r):digL (l++x)=some (r++x):=by
 cases l with
 | nil=>cases h
 | cons c l =>
  rw [List.cons_append,digL];rw [digL] at h
  split at h
  ·rename_i hc;cases h;rw [if_pos hc,skD_ap hx]
  ·cases h
theorem expL_fo {x : List Int} (hx:FO x):expL x=some x:=by
 cases x with
 | nil=>rfl
 | cons c t =>
  have:=hx c t rfl;unfold NC at this;simp only [expL];rw [if_neg (by omega)]
theorem expL_ap {x l r:List Int} (hx:FO x) (h:expL l=some r):expL (l++x)=some (r++x):=by
 cases l with
 | nil=>cases h;exact expL_fo hx
 | cons c l =>
  rw [List.cons_append];by_cases hc:c=101∨c=69
  rotate_left
  ·simp only [expL,if_neg hc] at h ⊢
   cases h;rfl
  cases l with
  | nil=>simp [expL,hc] at h
  | cons d t =>
   simp only [expL,if_pos hc,List.cons_append] at h ⊢
   by_cases hd:d=43∨d=45
   rotate_left
   ·rw [if_neg hd] at h ⊢
    exact digL_ap hx.nd h
   rw [if_pos hd] at h ⊢
   exact digL_ap hx.nd h
theorem fracL_fo {x : List Int} (hx:FO x):fracL x=some x:=by
 cases x with
 | nil=>rfl
 | cons c t =>
  have:=hx c t rfl;unfold NC at this;rw [fracL,if_neg (by omega)];exact expL_fo hx
theorem fracL_ap {x l r:List Int} (hx:FO x) (h:fracL l=some r):fracL (l++x)=some (r++x):=by
 cases l with
 | nil=>cases h;exact fracL_fo hx
 | cons c l =>
  rw [List.cons_append];by_cases hc:c=46
  rotate_left
  ·rw [fracL,if_neg hc] at h ⊢
   exact expL_ap (l:=c :: l) hx h
  rw [fracL,if_pos hc] at h ⊢
  obtain ⟨q,hq,h⟩:=Option.bind_eq_some_iff.mp h;rw [digL_ap hx.nd hq];exact expL_ap hx h
theorem intL_ap {x l r:List Int} (hx:FO x) (h:intL l=some r):intL (l++x)=some (r++x):=by
 cases l with
 | nil=>cases h
 | cons c l =>
  rw [List.cons_append];rw [intL] at h ⊢
  by_cases hc:c=48
  ·rw [if_pos hc] at h ⊢
   exact fracL_ap hx h
  rw [if_neg hc] at h ⊢
  by_cases hd:isD c=true
  rotate_left
  ·rw [if_neg hd] at h
   cases h
  rw [if_pos hd] at h ⊢
  rw [skD_ap hx.nd];exact fracL_ap hx h
theorem numL_ap {x l r:List Int} (hx:FO x) (h:numL l=some r):numL (l++x)=some (r++x):=by
 cases l with
 | nil=>cases h
 | cons c l =>
  rw [List.cons_append];rw [numL] at h ⊢
  by_cases hc:c=45
  ·rw [if_pos hc] at h ⊢
   exact intL_ap hx h
  rw [if_neg hc] at h ⊢
  exact intL_ap (l:=c :: l) hx h
theorem objL_by {l r : List Int} {c:Int} (h:skB l=c :: r):objL l=if c=125 then some r else memL (c :: r):=by
 rw [objL];split
 ·rename_i e;rw [h] at e;cases e
 ·rename_i e;rw [h] at e;cases e;rfl
theorem arrL_by {l r : List Int} {c:Int} (h:skB l=c :: r):arrL l=if c=93 then some r else elsL (c :: r):=by
 rw [arrL];split
 ·rename_i e;rw [h] at e;cases e
 ·rename_i e;rw [h] at e;cases e;rfl
theorem elsL_by {l t u:List Int} {c:Int} (h1:valL l=some t) (h2:t.length<l.length) (h3:skB t=c :: u):elsL l=if c=93 then some u else if c=44 then elsL (skB u) else none:=by
 rw [elsL];split
 ·rename_i e;rw [h1] at e;cases e
 ·rename_i e;rw [h1] at e;cases e;rw [if_pos h2];split
  ·rename_i e;rw [h3] at e;cases e
  ·rename_i e;rw [h3] at e;cases e;rfl
theorem memL_by {r t u v x:List Int} {e:Int} (h1:strL r=some t) (h2:skB t=58 :: u) (h3:valL (skB u)=some v) (h4:v.length≤r.length) (h5:skB v=e :: x):memL (34 :: r)=if e=125 then some x else if e=44 then memL (skB x) else none:=by
 rw [memL];rw [if_pos rfl];split
 ·rename_i k;rw [h1] at k;cases k
 ·rename_i k;rw [h1] at k;cases k;split
  ·rename_i k;rw [h2] at k;cases k
  ·rename_i k;rw [h2] at k;cases k;rw [if_pos rfl];split
   ·rename_i k;rw [h3] at k;cases k
   ·rename_i k;rw [h3] at k;cases k;rw [if_pos h4];split
    ·rename_i k;rw [h5] at k;cases k
    ·rename_i k;rw [h5] at k;cases k;rfl
theorem PV.sk {a : Nat} {v:List Int} {p:S34} (h:PV a v p) (r:List Int):skB (v++r)=v++r:=by
 obtain ⟨c,t,rfl,hh⟩:=h.head;exact j3h hh.nb
theorem PM.hd {a : Nat} {m:List Int} {ns:List S60} {ps:List S34} (h:PM a m ns ps):∃ t,m=34 :: t:=by
 cases h with
 | one _ _ _ _ _ e _ _=>exact ⟨_,e⟩
 | more _ _ _ _ _ _ _ e _ _=>exact ⟨_,e⟩
theorem PM.sk {a : Nat} {m:List Int} {ns:List S60} {ps:List S34} (h:PM a m ns ps) (r:List Int):skB (m++r)=m++r:=by
 obtain ⟨t,rfl⟩:=h.hd;exact j3h zq50
theorem PE.hd {a : Nat} {m:List Int} {ps:List S34} (h:PE a m ps):∃ c t,m=c :: t∧V1 c:=by
 cases h with
 | one _ hv e _=>obtain ⟨c,t,rfl,h⟩:=hv.head;exact ⟨c,_,e,h⟩
 | more _ _ hv _ e _=>obtain ⟨c,t,rfl,h⟩:=hv.head;exact ⟨c,_,e,h⟩
theorem PE.sk {a : Nat} {m:List Int} {ps:List S34} (h:PE a m ps) (r:List Int):skB (m++r)=m++r:=by
 obtain ⟨c,t,rfl,hh⟩:=h.hd;exact j3h hh.nb
theorem n44 : ¬ NC 44:=by unfold NC;omega
theorem n93 : ¬ NC 93:=by unfold NC;omega
theorem n125 : ¬ NC 125:=by unfold NC;omega
theorem cutV {a : Nat} {v:List Int} {p:S34} (h:PV a v p):∀ r,FO r→valL (v++r)=some r:=by
 refine PV.rec (motive_1:=fun a v p _=>∀ r,FO r→valL (v++r)=some r) (motive_2:=fun a m ns ps _=>∀ r,memL (m++r)=some r) (motive_3:=fun a m ps _=>∀ r,elsL (m++r)=some r) ?_ ?_ ?_ ?_ ?_ ?_ ?_ ?_ ?_ ?_ h
 ·intro a v b p hb ev ep r hr;subst ev;rw [show 34 :: (b++[34])++r=34 :: (b++34 :: r) by simp,valL,if_neg zq50,if_neg zq50,if_pos rfl];exact strL_body hb r
 ·intro a v k p hk ep r hr;rcases hk with ⟨_,h⟩|⟨_,rfl⟩|⟨_,rfl⟩|⟨_,rfl⟩
  ·have h2:=numL_ap hr h;obtain ⟨c,t,rfl,hc⟩:=numL_head h;have hx:c=45∨isD c=true:=hc
   have h3:¬ c=123∧¬ c=91∧¬ c=34:=by
    rcases hc with hc|hc
    ·omega
    simp only [isD,decide_eq_true_eq] at hc;omega
   rw [List.cons_append,valL,if_neg h3.1,if_neg h3.2.1,if_neg h3.2.2,if_pos hx];exact h2
  ·simp [nullW,valL,wordL,isD]
  ·simp [falseW,valL,wordL,isD]
  ·simp [trueW,valL,wordL,isD]
 ·intro a v B p hB ev ep r hr;subst ev;rw [show 123 :: (B++[125])++r=123 :: (B++125 :: r) by simp,valL,if_pos rfl,objL_by (c:=125) (r:=r) (by rw [hB.sk];exact j3h zq50),if_pos rfl]
 ·intro a v B m ns ps p hB hm ev ep ih r hr;subst ev;obtain ⟨t,ht⟩:=hm.hd;rw [show 123 :: (B++m)++r=123 :: (B++(m++r)) by simp,valL,if_pos rfl,objL_by (c:=34) (r:=t++r) (by rw [hB.sk,hm.sk,ht];rfl),if_neg zq50];have:=ih r;rw [ht] at this;exact this
 ·intro a v B p hB ev ep r hr;subst ev;rw [show 91 :: (B++[93])++r=91 :: (B++93 :: r) by simp,valL,if_neg zq50,if_pos rfl,arrL_by (c:=93) (r:=r) (by rw [hB.sk];exact j3h zq50),if_pos rfl]
 ·intro a v B m ps p hB hm ev ep ih r hr;subst ev;obtain ⟨c,t,ht,hc⟩:=hm.hd
  have h93:¬ c=93:=by
   unfold V1 isD at hc;simp only [decide_eq_true_eq] at hc;omega
  rw [show 91 :: (B++m)++r=91 :: (B++(m++r)) by simp,valL,if_neg zq50,if_pos rfl,arrL_by (c:=c) (r:=t++r) (by rw [hB.sk,hm.sk,ht];rfl),if_neg h93];have:=ih r;rw [ht] at this;exact this
 ·intro a m b B1 B2 v B3 p ns ps hb h1 h2 h3 hv em en ep ih r;subst em;rw [show 34 :: (b++34 :: (B1++58 :: (B2++(v++(B3++[125])))))++r=34 :: (b++34 :: (B1++58 :: (B2++(v++(B3++125 :: r))))) by simp];rw [memL_by (strL_body hb _) (u:=B2++(v++(B3++125 :: r))) (by rw [h1.sk];exact j3h zq50) (v:=B3++125 :: r) (by rw [h2.sk,hv.sk];exact ih _ (FO_bl h3 n125 r)) zq86 (e:=125) (x:=r) (by rw [h3.sk];exact j3h zq50),if_pos rfl]
 ·intro a m b B1 B2 v B3 B4 m' p ns ns' ps ps' hb h1 h2 h3 h4 hv hm em en ep ih ih2 r;subst em;rw [show 34 :: (b++34 :: (B1++58 :: (B2++(v++(B3++44 :: (B4++m'))))))++r=34 :: (b++34 :: (B1++58 :: (B2++(v++(B3++44 :: (B4++(m'++r))))))) by simp];rw [memL_by (strL_body hb _) (u:=B2++(v++(B3++44 :: (B4++(m'++r))))) (by rw [h1.sk];exact j3h zq50) (v:=B3++44 :: (B4++(m'++r))) (by rw [h2.sk,hv.sk];exact ih _ (FO_bl h3 n44 _)) zq86 (e:=44) (x:=B4++(m'++r)) (by rw [h3.sk];exact j3h zq50),if_neg zq50,if_pos rfl,h4.sk,hm.sk];exact ih2 r
 ·intro a m v B p ps hB hv em ep ih r;subst em;have:=hv.pos;rw [show v++(B++[93])++r=v++(B++93 :: r) by simp];rw [elsL_by (ih _ (FO_bl hB n93 r)) zq86 (c:=93) (u:=r) (by rw [hB.sk];exact j3h zq50),if_pos rfl]
 ·intro a m v B B2 m' p ps ps' hB hB2 hv hm em ep ih ih2 r;subst em;have:=hv.pos;rw [show v++(B++44 :: (B2++m'))++r=v++(B++44 :: (B2++(m'++r))) by simp];rw [elsL_by (ih _ (FO_bl hB n44 _)) zq86 (c:=44) (u:=B2++(m'++r)) (by rw [hB.sk];exact j3h zq50),if_neg zq50,if_pos rfl,hB2.sk,hm.sk];exact ih2 r
end Go.Proofs.Ytchhndbekjgimaa.J
end
