/- The words, walks and laws that the proof rests on, laid together (part 4). -/
import Derived.Test.YthmjfmpgmcgonaaDoorKFnJpObjectEach3
section
namespace Go.Proofs.YthmjfmpgmcgonaaDoor.K
open Go.RowKit Go.Proofs.YthmjfmpgmcgonaaDoorW.PrintWords Go.Proofs.YthmjfmpgmcgonaaDoorW.PrintLast Go.Proofs.YthmjfmpgmcgonaaDoorW.PrintMore
attribute [local go_sem] max2_int min2_int max_two min_two max_three min_three max_four min_four
set_option linter.unusedVariables false
set_option linter.unusedSimpArgs false
def j1p.j0 : Nat → List Int→Int→Bool→Option (Int × Int)
  | 0,_,_,_=>none
  | k+1,x0,x4,x35=>if x35=true then (some (65533,6)) else (if 6≤(x0.length:Int) then ((j1u.f k (x0.drop 6)).bind fun bt107=>(if bt107.2=true then (if bt107.1<56320 then (some (65533,6)) else (if bt107.1>57343 then (some (65533,6)) else ((j3c.f x4 bt107.1).bind fun t109=>(some (t109,12))))) else (some (65533,(-1))))) else (none))
def j1p.f (k : Nat) (l0:List Int):Option (Int × Int):=(j1u.f k l0).bind fun bt101=>(if bt101.2=true then ((j2w.f bt101.1).bind fun t103=>(if t103=true then (if bt101.1≥56320 then (some (65533,6)) else (if (l0.length:Int)<8 then (j1p.j0 k l0 bt101.1 true) else (if 6<(l0.length:Int) then (if (rd l0 6)=92 then (if 7<(l0.length:Int) then (j1p.j0 k l0 bt101.1 ((rd l0 7) != 117)) else (none)) else (j1p.j0 k l0 bt101.1 true)) else (none)))) else (some (bt101.1,6)))) else (some (65533,(-1))))
theorem j1p.mono_l : ∀ k,(∀ y0 y1 y2,LeO (j1p.j0 k y0 y1 y2) (j1p.j0 (k+1) y0 y1 y2))
 | 0=>fun _ _ _ r h=>by simp [j1p.j0] at h
 | k+1=>by
  have ih0:=j1p.mono_l k
  ·intro y0 y1 y2;unfold j1p.j0
   exact zm
theorem j1p.mono : ∀ a0 k,LeO (j1p.f k a0) (j1p.f (k+1) a0):=by
 intro a0 k;have ih0:=j1p.mono_l k;unfold j1p.f
 exact zm
set_option maxHeartbeats 8000000 in
set_option maxRecDepth 100000 in
theorem j1p.calls (k : Nat) (A0:Option Addr) (c0:Nat) (l0:List Int) (r1:Int) (r2:Int) (w:World) (hr0:Kd.C (Kd.int .u8) w A0 l0.length l0) (hc0:l0.length≤c0) (h:j1p.f k l0=some (r1,r2)) :
 Calls Tryd.prog 90 #[.slice A0 l0.length c0] w fun e w'=>e = .returned (.tuple #[.int .i32 r1, .int .i64 r2])∧Drawn0 w w':=by
 have HR0:=mk0 hr0;have HC0:=mk0 hc0;clear hr0 hc0;have H:((j1u.f k l0).bind fun bt101=>(if bt101.2=true then ((j2w.f bt101.1).bind fun t103=>(if t103=true then (if bt101.1≥56320 then (some (65533,6)) else (if (l0.length:Int)<8 then (j1p.j0 k l0 bt101.1 true) else (if 6<(l0.length:Int) then (if (rd l0 6)=92 then (if 7<(l0.length:Int) then (j1p.j0 k l0 bt101.1 ((rd l0 7) != 117)) else (none)) else (j1p.j0 k l0 bt101.1 true)) else (none)))) else (some (bt101.1,6)))) else (some (65533,(-1)))))=some (r1,r2):=h;clear h;replace H:=Option.bind_eq_some_iff.mp H;obtain ⟨⟨t101,t102⟩,A20,H⟩:=H;(try dsimp only at H);have A2:=mk0 A20;clear A20;by_cases c3:t102=true
 rotate_left
 ·replace c3:=Bool.eq_false_iff.mpr c3;subst c3;rw [if_neg (show ¬ (false=true) by decide)] at H;simp only [Option.some.injEq,Prod.mk.injEq] at H;obtain ⟨rfl,rfl⟩:=H;go_enter Tryd.func90,Tryd.ntmps90;go_wp2_with (first|((with_reducible refine j1w (f:=94) rfl ?_);refine j2t (some 10) rfl rfl Tryd.func94 zq7 rfl #[.slice A0 l0.length c0] rfl zq1 ?_;(with_reducible refine (j1u.calls k _ _ l0 t101 false _ ?side1 ?side2 A2.out).mono ?_);(case side1=>exact zq53);(case side2=>exact HC0.out);rintro e w' ⟨rfl,⟨nd,rfl⟩⟩;refine ⟨_,rfl,?_⟩))
  go_ret2;exact zl17
 subst c3;rw [if_pos rfl] at H;replace H:=Option.bind_eq_some_iff.mp H;obtain ⟨t103,A40,H⟩:=H;(try dsimp only at H);have A4:=mk0 A40;clear A40;by_cases c5:t103=true
 rotate_left
 ·replace c5:=Bool.eq_false_iff.mpr c5;subst c5;rw [if_neg (show ¬ (false=true) by decide)] at H;simp only [Option.some.injEq,Prod.mk.injEq] at H;obtain ⟨rfl,rfl⟩:=H;go_enter Tryd.func90,Tryd.ntmps90;go_wp2_with (first|((with_reducible refine j1w (f:=94) rfl ?_);refine j2t (some 10) rfl rfl Tryd.func94 zq7 rfl #[.slice A0 l0.length c0] rfl zq1 ?_;(with_reducible refine (j1u.calls k _ _ l0 t101 true _ ?side1 ?side2 A2.out).mono ?_);(case side1=>exact zq53);(case side2=>exact HC0.out);rintro e w' ⟨rfl,⟨nd,rfl⟩⟩;refine ⟨_,rfl,?_⟩)|((with_reducible refine j1w (f:=95) rfl ?_);refine j2t (some 16) rfl rfl Tryd.func95 zq7 rfl #[.int .i32 t101] rfl zq1 ?_;(with_reducible refine (j2w.calls t101 false _ A4.out).mono ?_);rintro e w' ⟨rfl,⟨nd,rfl⟩⟩;refine ⟨_,rfl,?_⟩))
  go_ret2;exact zl17
 subst c5;rw [if_pos rfl] at H;by_cases c6:t101≥56320
 ·rw [if_pos c6] at H;have c6b0:decide (56320≤t101)=true:=decide_eq_true c6;clear c6;simp only [Option.some.injEq,Prod.mk.injEq] at H;obtain ⟨rfl,rfl⟩:=H;go_enter Tryd.func90,Tryd.ntmps90;go_wp2_with (first|((with_reducible refine j1w (f:=94) rfl ?_);refine j2t (some 10) rfl rfl Tryd.func94 zq7 rfl #[.slice A0 l0.length c0] rfl zq1 ?_;(with_reducible refine (j1u.calls k _ _ l0 t101 true _ ?side1 ?side2 A2.out).mono ?_);(case side1=>exact zq53);(case side2=>exact HC0.out);rintro e w' ⟨rfl,⟨nd,rfl⟩⟩;refine ⟨_,rfl,?_⟩)|((with_reducible refine j1w (f:=95) rfl ?_);refine j2t (some 16) rfl rfl Tryd.func95 zq7 rfl #[.int .i32 t101] rfl zq1 ?_;(with_reducible refine (j2w.calls t101 true _ A4.out).mono ?_);rintro e w' ⟨rfl,⟨nd,rfl⟩⟩;refine ⟨_,rfl,?_⟩))
  go_ret2;exact zl17
 rw [if_neg c6] at H;have c6b0:decide (56320≤t101)=false:=decide_eq_false c6;clear c6;have HC7:=mk0 H;clear H;go_enter Tryd.func90,Tryd.ntmps90;go_upto_region 8 with (first|((with_reducible refine j1w (f:=94) rfl ?_);refine j2t (some 10) rfl rfl Tryd.func94 zq7 rfl #[.slice A0 l0.length c0] rfl zq1 ?_;(with_reducible refine (j1u.calls k _ _ l0 t101 true _ ?side1 ?side2 A2.out).mono ?_);(case side1=>exact zq53);(case side2=>exact HC0.out);rintro e w' ⟨rfl,⟨nd,rfl⟩⟩;refine ⟨_,rfl,?_⟩)|((with_reducible refine j1w (f:=95) rfl ?_);refine j2t (some 16) rfl rfl Tryd.func95 zq7 rfl #[.int .i32 t101] rfl zq1 ?_;(with_reducible refine (j2w.calls t101 true _ A4.out).mono ?_);rintro e w' ⟨rfl,⟨nd,rfl⟩⟩;refine ⟨_,rfl,?_⟩))
 (try simp only [Act.put,List.setIfInBounds_toArray,List.set_cons_zero,List.set_cons_succ]);go_cut [35] (fun v35 wc=>∃ (kq:Nat) (x35_6:Bool),v35 = .bool x35_6∧Aside0 (j1p.j0 kq l0 t101 x35_6=some (r1,r2))∧Aside0 (kq≤k)∧Drawn0 w wc)
 case first =>
  have H:=HC7.out;clear HC7;by_cases c8:(l0.length:Int)<8
  ·rw [if_pos c8] at H;have c8b0:decide ((l0.length:Int)<8)=true:=decide_eq_true c8;have c8b1:decide (l0.length<8)=true:=decide_eq_true (by omega);clear c8;(skip);have H':=mk0 H;clear H;go_wp2;go_meet
   case rel=>exact ⟨_,(true),(by rfl),H',⟨by omega⟩,by repeat (first|exact Drawn0.refl _|apply Drawn0.step)⟩
  rw [if_neg c8] at H;have c8b0:decide ((l0.length:Int)<8)=false:=decide_eq_false c8;have c8b1:decide (l0.length<8)=false:=decide_eq_false (by omega);clear c8;(skip);by_cases c9:6<(l0.length:Int)
  rotate_left
  ·rw [if_neg c9] at H;exact absurd H (by simp)
  rw [if_pos c9] at H;have c9b0:decide (6<(l0.length:Int))=true:=decide_eq_true c9;have c9b1:decide (6<l0.length)=true:=decide_eq_true (by omega);clear c9;by_cases c10:(rd l0 6)=92
  rotate_left
  ·rw [if_neg c10] at H;have c10b0:((rd l0 6) == 92)=false:=beq_eq_false_iff_ne.mpr c10;have c10b1:((rd l0 6) != 92)=true:=bne_iff_ne.mpr c10;have H':=mk0 H;clear H;have p104:0≤(6:Int):=(by omega);have q104:6<(l0.length:Int):=of_decide_eq_true zq17;obtain ⟨ad104,e104,hx104_0⟩:=Kd.at_int HR0.out 6 p104 q104;cases e104;(try simp only [show (6:Int).toNat=6 from rfl,Nat.reduceMul,Nat.reduceEqDiff,Go.Addr.add, ↓reduceIte] at hx104_0);have qi104:(6<l0.length)=True:=eq_true (by omega);(try rw [show ((6:Int)).toNat=6 from rfl] at hx104_0);replace p104:=eq_true p104;replace q104:=eq_true q104;go_wp2;go_meet
   case rel=>exact ⟨_,(true),(by rfl),H',⟨by omega⟩,by repeat (first|exact Drawn0.refl _|apply Drawn0.step)⟩
  rw [if_pos c10] at H;have c10b0:((rd l0 6) == 92)=true:=beq_iff_eq.mpr c10;have c10b1:((rd l0 6) != 92)=false:=bne_eq_false_iff_eq.mpr c10;clear c10;by_cases c11:7<(l0.length:Int)
  rotate_left
  ·exact zl30
  rw [if_pos c11] at H;have c11b0:decide (7<(l0.length:Int))=true:=decide_eq_true c11;have c11b1:decide (7<l0.length)=true:=decide_eq_true (by omega);clear c11;have H':=mk0 H;clear H;have p104:0≤(6:Int):=(by omega);have q104:6<(l0.length:Int):=of_decide_eq_true zq17;obtain ⟨ad104,e104,hx104_0⟩:=Kd.at_int HR0.out 6 p104 q104;cases e104;(try simp only [show (6:Int).toNat=6 from rfl,Nat.reduceMul,Nat.reduceEqDiff,Go.Addr.add, ↓reduceIte] at hx104_0);have qi104:(6<l0.length)=True:=eq_true (by omega);(try rw [show ((6:Int)).toNat=6 from rfl] at hx104_0);replace p104:=eq_true p104;replace q104:=eq_true q104;have p105:0≤(7:Int):=(by omega);have q105:7<(l0.length:Int):=of_decide_eq_true zq17;obtain ⟨ad105,e105,hx105_0⟩:=Kd.at_int HR0.out 7 p105 q105;obtain rfl:ad104=ad105:=(by injection e105);(try simp only [show (7:Int).toNat=7 from rfl,Nat.reduceMul,Nat.reduceEqDiff,Go.Addr.add, ↓reduceIte] at hx105_0);have qi105:(7<l0.length)=True:=eq_true (by omega);(try rw [show ((7:Int)).toNat=7 from rfl] at hx105_0);replace p105:=eq_true p105;replace q105:=eq_true q105;go_wp2;go_meet
  case rel=>exact ⟨_,(((rd l0 7) != 117)),(by rfl),H',⟨by omega⟩,by repeat (first|exact Drawn0.refl _|apply Drawn0.step)⟩
 case rest =>
  clear HC7 c6b0;obtain ⟨kq,x35_6,rfl,HA,HJ6,⟨mc6,rfl⟩⟩:=hcut;cases kq with
  | zero=>exact absurd HA.out (by simp [j1p.j0])
  | succ kj6 =>
   have H:=HA.out;clear HA;simp only [j1p.j0] at H;by_cases c12:x35_6=true
   ·subst c12;rw [if_pos rfl] at H;simp only [Option.some.injEq,Prod.mk.injEq] at H;obtain ⟨rfl,rfl⟩:=H;go_wp2;go_ret2;exact ⟨by rfl,by repeat (first|exact Drawn0.refl _|apply Drawn0.step)⟩
   replace c12:=Bool.eq_false_iff.mpr c12;subst c12;rw [if_neg (show ¬ (false=true) by decide)] at H;by_cases c13:6≤(l0.length:Int)
   rotate_left
   ·rw [if_neg c13] at H;exact absurd H (by simp)
   rw [if_pos c13] at H;have c13b0:=eq_true c13;have c13b1:decide (6≤(l0.length:Int))=true:=decide_eq_true c13;clear c13;replace H:=Option.bind_eq_some_iff.mp H;obtain ⟨⟨t107,t108⟩,A140,H⟩:=H;(try dsimp only at H);have A14:=mk0 A140;clear A140;by_cases c15:t108=true
   rotate_left
   ·replace c15:=Bool.eq_false_iff.mpr c15;subst c15;rw [if_neg (show ¬ (false=true) by decide)] at H;simp only [Option.some.injEq,Prod.mk.injEq] at H;obtain ⟨rfl,rfl⟩:=H;obtain ⟨i022,hi022,_,hsz22,_⟩:=info_parts info5;obtain ⟨A22,hcut22,hA22,hC22⟩:=print_drop_of (P:=Tryd.prog) (Value.int .u8) 0 55 5 .i64 Tryd.underlying55 hi022 hsz22 A0 c0 l0 6 (by omega) (of_decide_eq_true zq17) HC0.out;have HR106:=mk0 (Kd.C_of_reads (h1:=fun _=>rfl) (hA22 _ (Kd.reads_of_C HR0.out)));have HC106:=mk0 hC22;clear hA22 hC22 hi022 hsz22;go_wp2_with (first|((with_reducible refine j1w (f:=94) rfl ?_);refine j2t (some 39) rfl rfl Tryd.func94 zq7 rfl #[.slice A22 (l0.drop 6).length (c0 - 6)] rfl zq39 ?_;(with_reducible refine (j1u.calls kj6 _ _ (l0.drop 6) t107 false _ ?side1 ?side2 A14.out).mono ?_);(case side1=>exact zq52);(case side2=>exact HC106.out);rintro e w' ⟨rfl,⟨nd,rfl⟩⟩;refine ⟨_,rfl,?_⟩))
    go_ret2;exact zl17
   subst c15;rw [if_pos rfl] at H;by_cases c16:t107<56320
   ·rw [if_pos c16] at H;have c16b0:decide (t107<56320)=true:=decide_eq_true c16;clear c16;simp only [Option.some.injEq,Prod.mk.injEq] at H;obtain ⟨rfl,rfl⟩:=H;obtain ⟨i017,hi017,_,hsz17,_⟩:=info_parts info5;obtain ⟨A17,hcut17,hA17,hC17⟩:=print_drop_of (P:=Tryd.prog) (Value.int .u8) 0 55 5 .i64 Tryd.underlying55 hi017 hsz17 A0 c0 l0 6 (by omega) (of_decide_eq_true zq17) HC0.out;have HR106:=mk0 (Kd.C_of_reads (h1:=fun _=>rfl) (hA17 _ (Kd.reads_of_C HR0.out)));have HC106:=mk0 hC17;clear hA17 hC17 hi017 hsz17;go_wp2_with (first|((with_reducible refine j1w (f:=94) rfl ?_);refine j2t (some 39) rfl rfl Tryd.func94 zq7 rfl #[.slice A17 (l0.drop 6).length (c0 - 6)] rfl zq39 ?_;(with_reducible refine (j1u.calls kj6 _ _ (l0.drop 6) t107 true _ ?side1 ?side2 A14.out).mono ?_);(case side1=>exact zq52);(case side2=>exact HC106.out);rintro e w' ⟨rfl,⟨nd,rfl⟩⟩;refine ⟨_,rfl,?_⟩))
    go_ret2;exact zl17
   rw [if_neg c16] at H;have c16b0:decide (t107<56320)=false:=decide_eq_false c16;clear c16;by_cases c18:t107>57343
   ·rw [if_pos c18] at H;have c18b0:decide (57343<t107)=true:=decide_eq_true c18;clear c18;simp only [Option.some.injEq,Prod.mk.injEq] at H;obtain ⟨rfl,rfl⟩:=H;obtain ⟨i019,hi019,_,hsz19,_⟩:=info_parts info5;obtain ⟨A19,hcut19,hA19,hC19⟩:=print_drop_of (P:=Tryd.prog) (Value.int .u8) 0 55 5 .i64 Tryd.underlying55 hi019 hsz19 A0 c0 l0 6 (by omega) (of_decide_eq_true zq17) HC0.out;have HR106:=mk0 (Kd.C_of_reads (h1:=fun _=>rfl) (hA19 _ (Kd.reads_of_C HR0.out)));have HC106:=mk0 hC19;clear hA19 hC19 hi019 hsz19;go_wp2_with (first|((with_reducible refine j1w (f:=94) rfl ?_);refine j2t (some 39) rfl rfl Tryd.func94 zq7 rfl #[.slice A19 (l0.drop 6).length (c0 - 6)] rfl zq39 ?_;(with_reducible refine (j1u.calls kj6 _ _ (l0.drop 6) t107 true _ ?side1 ?side2 A14.out).mono ?_);(case side1=>exact zq52);(case side2=>exact HC106.out);rintro e w' ⟨rfl,⟨nd,rfl⟩⟩;refine ⟨_,rfl,?_⟩))
    go_ret2;exact zl17
   rw [if_neg c18] at H;have c18b0:decide (57343<t107)=false:=decide_eq_false c18;clear c18;replace H:=Option.bind_eq_some_iff.mp H;obtain ⟨t109,A200,H⟩:=H;(try dsimp only at H);have A20:=mk0 A200;clear A200;simp only [Option.some.injEq,Prod.mk.injEq] at H;obtain ⟨rfl,rfl⟩:=H;obtain ⟨i021,hi021,_,hsz21,_⟩:=info_parts info5;obtain ⟨A21,hcut21,hA21,hC21⟩:=print_drop_of (P:=Tryd.prog) (Value.int .u8) 0 55 5 .i64 Tryd.underlying55 hi021 hsz21 A0 c0 l0 6 (by omega) (of_decide_eq_true zq17) HC0.out;have HR106:=mk0 (Kd.C_of_reads (h1:=fun _=>rfl) (hA21 _ (Kd.reads_of_C HR0.out)));have HC106:=mk0 hC21;clear hA21 hC21 hi021 hsz21;go_wp2_with (first|((with_reducible refine j1w (f:=94) rfl ?_);refine j2t (some 39) rfl rfl Tryd.func94 zq7 rfl #[.slice A21 (l0.drop 6).length (c0 - 6)] rfl zq39 ?_;(with_reducible refine (j1u.calls kj6 _ _ (l0.drop 6) t107 true _ ?side1 ?side2 A14.out).mono ?_);(case side1=>exact zq52);(case side2=>exact HC106.out);rintro e w' ⟨rfl,⟨nd,rfl⟩⟩;refine ⟨_,rfl,?_⟩)|((with_reducible refine j1w (f:=96) rfl ?_);refine j2t (some 52) rfl rfl Tryd.func96 zq7 rfl #[.int .i32 t101, .int .i32 t107] rfl zq1 ?_;(with_reducible refine (j3c.calls t101 t107 t109 _ A20.out).mono ?_);rintro e w' ⟨rfl,⟨nd,rfl⟩⟩;refine ⟨_,rfl,?_⟩))
   go_ret2;exact zl17
section
set_option maxHeartbeats 8000000
set_option maxRecDepth 100000
def eB (r : Int):List Int :=
  if r<128 then [r]
  else if r<2048 then [192+r / 64,128+r % 64]
  else if 55296≤r∧r≤57343 then [239,191,189]
  else if r<65536 then [224+r / 4096,128+r / 64 % 64,128+r % 64]
  else [240+r / 262144,128+r / 4096 % 64,128+r / 64 % 64,128+r % 64]
theorem eB_len (r : Int):1≤(eB r).length∧(eB r).length≤4:=by
 unfold eB;split
 ·simp
 split
 ·simp
 split
 ·simp
 split<;>simp
def setB (w : World) (g:Nat):Nat→List Int→World
  | _,[]=>w
  | o,b :: r=>setB (w.setCell ⟨g,o,none⟩ (.int .u8 b)) g (o+1) r
def EncPost (g off : Nat) (r:Int) (w:World) (e:Ending) (w':World):Prop:=e = .returned (.int .i64 ((eB r).length:Int))∧w'=setB w g off (eB r)
theorem encNon_at (g off n c:Nat) (r:Int) (w:World) (hr0:128≤r) (hr1:r≤1114111) (hn:4≤n) (hn2:n≤9223372036854775807)
 (b0 b1 b2 b3:Int) (h0:w.cell? ⟨g,off,none⟩=some (.int .u8 b0)) (h1:w.cell? ⟨g,off+1,none⟩=some (.int .u8 b1)) (h2:w.cell? ⟨g,off+2,none⟩=some (.int .u8 b2)) (h3:w.cell? ⟨g,off+3,none⟩=some (.int .u8 b3))
 (f0:w.frozen? ⟨g,off,none⟩=false) (f1:w.frozen? ⟨g,off+1,none⟩=false) (f2:w.frozen? ⟨g,off+2,none⟩=false) (f3:w.frozen? ⟨g,off+3,none⟩=false) :
 Calls Tryd.prog 97 #[.slice (some ⟨g,off,none⟩) n c, .int .i32 r] w (EncPost g off r w):=by
 have hu:(r % 4294967296)=r:=by omega
 go_enter Tryd.func97,Tryd.ntmps97;go_wp2
 all_goals
  go_ret;unfold EncPost eB
  first
  | (rw [if_neg (by omega),if_pos (by omega)];exact ⟨rfl,rfl⟩)
  | (rw [if_neg (by omega),if_neg (by omega),if_pos (by omega)];exact ⟨rfl,rfl⟩)
  | (rw [if_neg (by omega),if_neg (by omega),if_neg (by omega),if_pos (by omega)];exact ⟨rfl,rfl⟩)
  | (rw [if_neg (by omega),if_neg (by omega),if_neg (by omega),if_neg (by omega)];exact ⟨rfl,rfl⟩)
theorem enc_at (g off n c:Nat) (r:Int) (w:World) (hr0:0≤r) (hr1:r≤1114111) (hn:4≤n) (hn2:n≤9223372036854775807)
 (b0 b1 b2 b3:Int) (h0:w.cell? ⟨g,off,none⟩=some (.int .u8 b0)) (h1:w.cell? ⟨g,off+1,none⟩=some (.int .u8 b1)) (h2:w.cell? ⟨g,off+2,none⟩=some (.int .u8 b2)) (h3:w.cell? ⟨g,off+3,none⟩=some (.int .u8 b3))
 (f0:w.frozen? ⟨g,off,none⟩=false) (f1:w.frozen? ⟨g,off+1,none⟩=false) (f2:w.frozen? ⟨g,off+2,none⟩=false) (f3:w.frozen? ⟨g,off+3,none⟩=false) :
 Calls Tryd.prog 91 #[.slice (some ⟨g,off,none⟩) n c, .int .i32 r] w (EncPost g off r w):=by
 by_cases hc:r<128
 ·go_enter Tryd.func91,Tryd.ntmps91;go_wp2;go_ret;unfold EncPost eB;rw [if_pos hc];exact ⟨rfl,rfl⟩
 have hc1:127<r:=by omega
 have hc2:127<r % 4294967296:=by omega
 go_enter Tryd.func91,Tryd.ntmps91;go_wp2_with (go_at_call 97;(with_reducible refine (encNon_at g off n c r w (by omega) hr1 hn hn2 b0 b1 b2 b3 h0 h1 h2 h3 f0 f1 f2 f3).mono ?_);rintro e w' ⟨rfl,rfl⟩)
 go_ret;exact ⟨rfl,rfl⟩
theorem set_mid {α : Type} (L:List α) (o:Nat) (b:α) (h:o<L.length):L.set o b=L.take o++b :: L.drop (o+1):=List.set_eq_take_append_cons_drop .. |>.trans (by rw [if_pos h])
theorem splice_cons {α : Type} (L:List α) (o:Nat) (b:α) (r:List α) (h:o<L.length):splice (L.set o b) (o+1) r=splice L o (b :: r):=by
 have ht:(L.take o).length=o:=by rw [List.length_take];omega
 unfold splice;rw [set_mid L o b h]
 have e1:(L.take o++b :: L.drop (o+1)).take (o+1)=L.take o++[b]:=by
  rw [List.take_append,ht,Nat.add_sub_cancel_left,List.take_of_length_le (by omega)];rfl
 have e2:(L.take o++b :: L.drop (o+1)).drop (o+1+r.length)=L.drop (o+(b :: r).length):=by
  rw [List.drop_append,ht,List.drop_of_length_le (by omega),List.nil_append,show o+1+r.length - o=r.length+1 by omega,List.drop_succ_cons,List.drop_drop]
  congr 1
  simp only [List.length_cons];omega
 rw [e1,e2];simp
theorem nums_set (L : List Int) (o:Nat) (b:Int):(nums .u8 L).toArray.setIfInBounds o (.int .u8 b)=(nums .u8 (L.set o b)).toArray:=by
 simp [nums,List.map_set]
theorem keep_setc {v W : World} {G j:Nat} {x:Value} (h:KeepBut v W G none):KeepBut v (W.setCell ⟨G,j,none⟩ x) G none :=
 ⟨by have:=h.1;simpa [World.setCell] using this,fun i hi hg hr=>(heap_setCell_other W ⟨G,j,none⟩ i x hg).trans (h.2 i hi hg hr)⟩
theorem keep_tr {u v W:World} {G:Nat} (h:KeepBut u v G none) (k:KeepBut v W G none):KeepBut u W G none :=
 ⟨Nat.le_trans h.1 k.1,fun i hi hg hr=>(k.2 i (Nat.lt_of_lt_of_le hi h.1) hg hr).trans (h.2 i hi hg hr)⟩
structure BF (v w0 W:World) (G:Nat) (ty:Nat) (L:List Int):Prop where
  blk:W.heap[G]? = some (.cells (nums .u8 L).toArray ty (0,0))
  at_:w0.heap.size≤G
  below:Below w0.heap.size w0 W
  keep:KeepBut v W G none
theorem BF.alloc {v w0 W:World} {G ty:Nat} {L:List Int} (h:BF v w0 W G ty L) (o:Obj):BF v w0 (W.alloc o) G ty L:=⟨j1c h.blk o,h.at_,j1f h.below o,j2j h.keep o⟩
theorem BF.drewN {v w0 W:World} {G ty:Nat} {L:List Int} (h:BF v w0 W G ty L) (k:Nat):BF v w0 (W.drewN k) G ty L:=⟨h.blk,h.at_,j1d h.below k,j2k h.keep k⟩
theorem BF.drawn0 {v w0 W w1:World} {G ty:Nat} {L:List Int} (h:BF v w0 W G ty L) (hd:Drawn0 W w1):BF v w0 w1 G ty L:=by
 obtain ⟨k,rfl⟩:=hd.out;exact h.drewN k
theorem BF.setB {v w0 : World} {G ty:Nat}:∀ (bs:List Int) (o:Nat) (W:World) (L:List Int),BF v w0 W G ty L→o+bs.length≤L.length→BF v w0 (setB W G o bs) G ty (splice L o bs)
 | [],o,W,L,h,_=>by
  have e:splice L o []=L:=by simp [splice]
  rw [e];exact h
 | b :: r,o,W,L,h,hl=>by
  simp only [List.length_cons] at hl;rw [← splice_cons L o b r (by omega)];refine BF.setB r (o+1) _ _ ⟨?_,h.at_,j1s h.below h.at_,keep_setc h.keep⟩ (by rw [List.length_set];omega);rw [← nums_set];exact heap_setCell_same W G o _ _ _ h.blk
theorem BF.cell {v w0 W:World} {G ty:Nat} {L:List Int} (h:BF v w0 W G ty L) (i:Nat) (hi:i<L.length):W.cell? ⟨G,i,none⟩=some (.int .u8 (rd L i)):=by
 rw [j1b h.blk i];simp [nums,rd,hi]
theorem BF.frz {v w0 W:World} {G ty:Nat} {L:List Int} (h:BF v w0 W G ty L) (i:Nat):W.frozen? ⟨G,i,none⟩=false:=j1a h.blk i
theorem BF.self {v w0 W:World} {G ty:Nat} {L:List Int} (h:BF v w0 W G ty L):BF W w0 W G ty L:=⟨h.blk,h.at_,h.below,KeepBut.refl _ _ _⟩
theorem BF.tr {u v w0 W:World} {G ty:Nat} {L:List Int} (k:KeepBut u v G none) (h:BF v w0 W G ty L):BF u w0 W G ty L:=⟨h.blk,h.at_,h.below,keep_tr k h.keep⟩
def stp (k : Nat) (l:List Int):Option (Int × List Int) :=
  if (l.length:Int)<2 then some (-1,[]) else if rd l 0=92 then
    (if J.isE (rd l 1)=true then some (2,[J.unl (rd l 1)])
    else if rd l 1=117 then (j1p.f k l).bind fun t=>if t.2 = -1 then some (-1,[]) else if 0≤t.1∧t.1≤1114111∧6≤t.2∧t.2≤(l.length:Int) then some (t.2,eB t.1) else none
    else some (-1,[]))
  else some (-1,[])
theorem u8c_calls (k : Nat) (l:List Int) (A:Option Addr) (c G q bl bc ty:Nat) (L:List Int) (n:Int) (bs:List Int) (w0 w:World) (hT:Laid w) (hr:Kd.C (Kd.int .u8) w A l.length l) (hc:l.length≤c) (hF:BF w w0 w G ty L) (hq:q+bl≤L.length) (hroom:l.length≤bl) (hbc:bl≤bc) (hl:l.length≤2147483647) (hL:L.length≤4294967296) (hbcm:bc≤4294967296) (h:stp k l=some (n,bs)) :
 Calls Tryd.prog 83 #[.agg #[.bool false, .bool false, .int .i64 0], .slice A l.length c, .slice (some ⟨G,q,none⟩) bl bc] w fun e w'=>e = .returned (.tuple #[.int .i64 n, .int .i64 (if n = -1 then -1 else (bs.length:Int))])∧BF w w0 w' G ty (splice L q bs):=by
 have E0:=mk0 (show splice L q []=L by simp [splice]);have hFA:BF w w0 (w.alloc (.cells #[.bool false, .bool false, .int .i64 0] 93)) G ty L:=hF.alloc _;have hrA:Kd.C (Kd.int .u8) (w.alloc (.cells #[.bool false, .bool false, .int .i64 0] 93)) A l.length l:=Kd.C_alloc hr _;have HF:=mk0 hFA;have HR:=mk0 hrA;have HT:=mk0 hT;unfold stp at h
 by_cases h2:(l.length:Int)<2
 ·rw [if_pos h2] at h
  obtain ⟨rfl,rfl⟩:=Prod.mk.inj (Option.some.inj h);clear h hF hr hT hFA hrA;have h2b:decide ((l.length:Int)<2)=true:=decide_eq_true h2;go_enter Tryd.func83,Tryd.ntmps83;go_wp2;go_ret2;rw [E0.out];exact ⟨rfl,HF.out⟩
 rw [if_neg h2] at h
 have h2b:decide ((l.length:Int)<2)=false:=decide_eq_false h2;obtain ⟨ad,rfl,h0⟩:=Kd.at_int hrA 0 (by omega) (by omega);obtain ⟨ad',e',h1⟩:=Kd.at_int hrA 1 (by omega) (by omega);obtain rfl:=Option.some.inj e';replace h0:(w.alloc (.cells #[.bool false, .bool false, .int .i64 0] 93)).cell? ad=some (.int .u8 (rd l 0)):=h0;replace h1:(w.alloc (.cells #[.bool false, .bool false, .int .i64 0] 93)).cell? ⟨ad.block,ad.off+1,none⟩=some (.int .u8 (rd l 1)):=h1;by_cases hb:rd l 0=92
 rotate_left
 ·rw [if_neg hb] at h
  obtain ⟨rfl,rfl⟩:=Prod.mk.inj (Option.some.inj h);clear h hF hr hT hFA hrA;have hbb:(rd l 0 == 92)=false:=by simp [hb]
  have hbd:decide (rd l 0=92)=false:=decide_eq_false hb;go_enter Tryd.func83,Tryd.ntmps83;go_wp2;go_ret2;rw [E0.out];exact ⟨rfl,HF.out⟩
 rw [if_pos hb] at h
 rw [hb] at h0;have hcG:=HF.out.cell q (by omega);have hfG:=HF.out.frz q;by_cases hE:J.isE (rd l 1)=true
 ·rw [if_pos hE] at h
  obtain ⟨rfl,rfl⟩:=Prod.mk.inj (Option.some.inj h);clear h hF hr hT hFA hrA;have hE2:rd l 1=34∨rd l 1=92∨rd l 1=47∨rd l 1=98∨rd l 1=102∨rd l 1=110∨rd l 1=114∨rd l 1=116:=by simpa [J.isE] using hE
  have hbel:Below w.heap.size w (w.alloc (.cells #[.bool false, .bool false, .int .i64 0] 93)):=j1f (Below.refl _ _) _;have htab:∀ j:Nat,j<117→(w.alloc (.cells #[.bool false, .bool false, .int .i64 0] 93)).cell? ⟨14,j,none⟩=some (.int .u8 (tabv j)):=(HT.out.below hbel).tab;have fin:=fun (b:Int)=>BF.setB [b] q _ _ HF.out (by simp only [List.length_cons,List.length_nil];omega)
  have FIN:=mk0 fin;clear fin hE;have HTAB:=mk0 htab;clear htab hbel;rcases hE2 with hz|hz|hz|hz|hz|hz|hz|hz
  all_goals
   rw [hz] at h1;have ht:=HTAB.out (rd l 1).toNat (by rw [hz];decide);rw [hz] at ht ⊢;simp only [Int.reduceToNat,tabv,Nat.reduceEqDiff,if_true,if_false] at ht;clear hz;go_enter Tryd.func83,Tryd.ntmps83;go_wp2;go_ret2;exact ⟨rfl,FIN.out _⟩
 rw [if_neg hE] at h
 have hne:rd l 1≠34∧rd l 1≠92∧rd l 1≠47∧rd l 1≠98∧rd l 1≠102∧rd l 1≠110∧rd l 1≠114∧rd l 1≠116:=by
  simp only [J.isE,decide_eq_true_eq,not_or] at hE;exact hE
 clear hE;by_cases h117:rd l 1=117
 rotate_left
 ·rw [if_neg h117] at h
  obtain ⟨rfl,rfl⟩:=Prod.mk.inj (Option.some.inj h);clear h hF hr hT hFA hrA;obtain ⟨n1,n2,n3,n4,n5,n6,n7,n8⟩:=hne;have b1:(rd l 1 == 34)=false:=by simp [n1]
  have b2:(rd l 1 == 92)=false:=by simp [n2]
  have b3:(rd l 1 == 47)=false:=by simp [n3]
  have b4:(rd l 1 == 98)=false:=by simp [n4]
  have b5:(rd l 1 == 102)=false:=by simp [n5]
  have b6:(rd l 1 == 110)=false:=by simp [n6]
  have b7:(rd l 1 == 114)=false:=by simp [n7]
  have b8:(rd l 1 == 116)=false:=by simp [n8]
  have b9:(rd l 1 == 117)=false:=by simp [h117]
  have d1:=decide_eq_false n1;have d2:=decide_eq_false n2;have d3:=decide_eq_false n3;have d4:=decide_eq_false n4;have d5:=decide_eq_false n5;have d6:=decide_eq_false n6;have d7:=decide_eq_false n7;have d8:=decide_eq_false n8;have d9:=decide_eq_false h117;by_cases h39:rd l 1=39
  rotate_left
  ·have b10:(rd l 1 == 39)=false:=by simp [h39]
   have d10:=decide_eq_false h39;go_enter Tryd.func83,Tryd.ntmps83;go_wp2;go_ret2;rw [E0.out];exact ⟨rfl,HF.out⟩
  rw [h39] at h1;clear n1 n2 n3 n4 n5 n6 n7 n8 b1 b2 b3 b4 b5 b6 b7 b8 b9 d1 d2 d3 d4 d5 d6 d7 d8 d9 h117 h39;go_enter Tryd.func83,Tryd.ntmps83;go_wp2;go_ret2;rw [E0.out];exact ⟨rfl,HF.out⟩
 rw [if_pos h117] at h
 replace h:=Option.bind_eq_some_iff.mp h;obtain ⟨⟨r,m⟩,hD,h⟩:=h;simp only at h
 rw [h117] at h1;have HD:=mk0 hD;clear hD hne h117;by_cases hm:m = -1
 ·rw [if_pos hm] at h
  obtain ⟨rfl,rfl⟩:=Prod.mk.inj (Option.some.inj h);subst hm;clear h hF hr hT hFA hrA;go_enter Tryd.func83,Tryd.ntmps83;go_wp2_with (first|(go_at_call 90;(with_reducible refine (j1p.calls k (some ad) c l r _ _ HR.out hc HD.out).mono ?_);rintro e w1 ⟨rfl,hd1⟩;have K1:=mk0 (HF.out.drawn0 hd1);clear hd1))
  go_ret2;rw [E0.out];exact ⟨rfl,K1.out⟩
 rw [if_neg hm] at h
 split at h
 case isFalse=>cases h
 case isTrue hg =>
 obtain ⟨hg0,hg1,hg2,hg3⟩:=hg;obtain ⟨rfl,rfl⟩:=Prod.mk.inj (Option.some.inj h);have hmb:(m == -1)=false:=by simp [hm]
 have hmd:decide (m = -1)=false:=decide_eq_false hm;have hle:=eB_len r;clear h hF hr hT hFA hrA;go_enter Tryd.func83,Tryd.ntmps83;go_wp2_with (first|(go_at_call 90;(with_reducible refine (j1p.calls k (some ad) c l r _ _ HR.out hc HD.out).mono ?_);rintro e w1 ⟨rfl,hd1⟩;have K1:=mk0 (HF.out.drawn0 hd1);clear hd1)|(go_at_call 91;(with_reducible refine (enc_at G q bl bc r _ hg0 hg1 (by omega) (by omega) _ _ _ _ (K1.out.cell q (by omega)) (K1.out.cell (q+1) (by omega)) (K1.out.cell (q+2) (by omega)) (K1.out.cell (q+3) (by omega)) (K1.out.frz _) (K1.out.frz _) (K1.out.frz _) (K1.out.frz _)).mono ?_);rintro e w2 ⟨rfl,rfl⟩))
 go_ret2
 try rw [if_neg hm]
 exact ⟨rfl,K1.out.setB (eB r) q _ _ (by omega)⟩
end
end Go.Proofs.YthmjfmpgmcgonaaDoor.K
end
section
namespace Go.Proofs.YthmjfmpgmcgonaaDoor.K
open Go.RowKit Go.Proofs.YthmjfmpgmcgonaaDoorW.PrintWords Go.Proofs.YthmjfmpgmcgonaaDoorW.PrintLast Go.Proofs.YthmjfmpgmcgonaaDoorW.PrintMore
attribute [local go_sem] max2_int min2_int max_two min_two max_three min_three max_four min_four
set_option linter.unusedVariables false
set_option linter.unusedSimpArgs false
def ixL : List Int→Int
  | [] => -1
  | b :: l=>if b=92 then 0 else if ixL l = -1 then -1 else ixL l+1
theorem ixL_lib : ∀ l:List Int,(∀ x ∈ l,0≤x∧x≤255)→Lib.indexByte (Lib.bytesOf l) (92:Int).toNat.toUInt8=ixL l
 | [],_=>rfl
 | b :: l,h=>by
  have ih:=ixL_lib l fun x hx=>h x (by simp [hx])
  have hb:=h b (by simp);have e:Lib.bytesOf (b :: l)=UInt8.ofNat b.toNat :: Lib.bytesOf l:=rfl;rw [e,Lib.indexByte,ih,ixL]
  have hq:(UInt8.ofNat b.toNat == (92:Int).toNat.toUInt8)=decide (b=92):=by
   by_cases h92:b=92
   ·subst h92;rfl
   rw [decide_eq_false h92];refine beq_eq_false_iff_ne.mpr fun hh=>h92 ?_
   have:=congrArg UInt8.toNat hh;simp at this;omega
  rw [hq];by_cases h92:b=92
  rotate_left
  ·simp [h92]
  simp [h92]
theorem ixL_range : ∀ l:List Int,ixL l = -1∨∃ j:Nat,ixL l=(j:Int)∧j<l.length∧rd l j=92
 | [] => .inl rfl
 | b :: l=>by
  rw [ixL];by_cases h:b=92
  ·rw [if_pos h];exact .inr ⟨0,rfl,by simp,by simp [rd,h]⟩
  rw [if_neg h];rcases ixL_range l with h1|⟨j,h1,h2,h3⟩
  ·rw [if_pos h1];exact .inl rfl
  ·rw [if_neg (by omega),h1];refine .inr ⟨j+1,by omega,by simp;omega,?_⟩
   simpa [rd] using h3
theorem cut_buf (G q n c m:Nat) (hm:m≤n) (hc:n≤c) :
 ∃ q1,(∀ W:World,(Instr.slice 55 (.slice (some ⟨G,q,none⟩) n c) (some (.int .i64 (m:Int))) none none).run Tryd.prog W = .ok (.slice (some ⟨G,q1,none⟩) (n - m) (c - m)) W)∧(0<n - m→q1=q+m):=by
 refine ⟨if c=m then q else q+m,fun W=>?_,fun h=>if_neg (by omega)⟩;rw [slc_l _ _ _ _ hm W];by_cases hcm:c=m
 ·rw [if_pos hcm,if_pos hcm]
 rw [if_neg hcm,if_neg hcm];simp only [Option.map_some,add_at]
theorem idx_calls {W : World} {b o:Nat} {l:List Int} (h:IN W b o l) (c:Nat) :
 Calls Tryd.prog 82 #[.slice (some ⟨b,o,none⟩) l.length c, .int .u8 92] W fun e w'=>e = .returned (.int .i64 (ixL l))∧w'=W:=by
 have:=Tryd.bytes_IndexByte b o l.length c l 92 W rfl h.cell;rw [ixL_lib l h.u8] at this;exact this
theorem make_bytes (n : Nat) (hn:n≤4294967296):∀ W:World,(Instr.makeSlice 55 (.int .i64 (n:Int)) (.int .i64 (n:Int))).run Tryd.prog W = .ok (.slice (some ⟨W.heap.size,0,none⟩) n n) (W.alloc (.cells (nums .u8 (List.replicate n 0)).toArray 5)):=fun W=>by
 obtain ⟨i0,hi,hzz⟩:=Option.map_eq_some_iff.1 info5;simp only [Prod.mk.injEq] at hzz;have h:=run_make (P:=Tryd.prog) W 55 5 i0 (.int .u8 0) Tryd.underlying55 hi hzz.1 .i64 .i64 (n:Int) (n:Int) (by omega) (Int.le_refl _) (by rw [hzz.2.2];omega) (by omega);rw [h,hzz.2.1]
 have e:madeCells (Value.int IntKind.u8 0).cells ((n:Int).toNat*1)=(nums .u8 (List.replicate n 0)).toArray:=by
  apply Array.toList_inj.mp;rw [show (Value.int IntKind.u8 0).cells = #[Value.int IntKind.u8 0] from rfl,toList_madeCells_one];simp [nums]
 rw [e];simp
section
variable {P : Program} {ops:Array Oper} {rest:List Oper} {o:Oper} {a:Act} {Q:Exit→Act→World→Prop}
theorem copy_BF {v w0 W:World} {G ty:Nat} {L:List Int} (hgd:o.guard=none) (d s:Operand) (dT sT:TypeId)
 (ho:o.op = .call { callee := .builtin .copy,args:=#[d,s],argTypes:=#[dT,sT] }) (elem:TypeId) (hu:P.underlying dT=some (.slice elem)) (hsz:(P.info? elem).map (·.size)=some 1)
 (q bl bc b o1 sl sc:Nat) (hd:a.eval d = .slice (some ⟨G,q,none⟩) bl bc) (hs:a.eval s = .slice (some ⟨b,o1,none⟩) sl sc) (off:Nat) (hF:BF v w0 W G ty L) (xs:List Int) (hx:xs.length=sl) (hle:sl≤bl) (hoff:0<sl→q=off) (hcell:∀ i,i<sl→W.cell? ⟨b,o1+i,none⟩=some (.int .u8 (xs.getD i 0))) (hfit:off+sl≤L.length)
 (h:∀ W',BF v w0 W' G ty (splice L off xs)→wpList P ops Q rest (a.put o.dst (goInt sl)) W'):wpList P ops Q (o :: rest) a W:=by
 by_cases h0:sl=0
 ·subst h0;obtain rfl:xs=[]:=List.eq_nil_of_length_eq_zero hx;refine wpList_copy_nothing hgd d s dT sT ho elem hu hsz _ _ bl bc 0 sc hd hs (by simp) ?_;have e:splice L off []=L:=by simp [splice]
  have:=h W (by rw [e];exact hF);exact this
 obtain rfl:=hoff (by omega);have hcl:(nums .u8 xs).length=sl:=by simp [nums,hx]
 refine wpList_copy_own hgd d s dT sT ho elem hu hsz G q bl bc ⟨b,o1,none⟩ sl sc hd hs (nums .u8 L).toArray ty hF.blk (nums .u8 xs) (by rw [hcl];exact (Nat.min_eq_left hle).symm) (fun j u hj=>?_) (by rw [hcl];simp [nums];omega) (fun u hu=>by simp only [nums,List.mem_map] at hu;obtain ⟨z,_,rfl⟩:=hu;rfl) ?_
 ·rw [add_at]
  have hlt:j<sl:=by
   have:=(List.getElem?_eq_some_iff.mp hj).1;omega
  rw [hcell j hlt,← hj];simp [nums,List.getD_eq_getElem?_getD,show j<xs.length by omega]
 ·have e:(nums .u8 L).toArray.toList.take q++(nums .u8 xs++(nums .u8 L).toArray.toList.drop (q+(nums .u8 xs).length))=nums .u8 (splice L q xs):=by
   simp [nums,splice,List.map_take,List.map_drop]
  rw [e,hcl];refine h _ ⟨setRow_heap W G _ _ ty _ hF.blk,hF.at_,hF.below.trans ⟨rfl,rfl,rfl,by simp [World.setRow],fun i hi=>setRow_other W G i _ (by have:=hF.at_;omega)⟩,?_⟩;exact keep_tr hF.keep ⟨by simp [World.setRow],fun i hi hg _=>setRow_other W G i _ hg⟩
end
def jun (k : Nat):Nat→List Int→List Int→Option (Option (List Int))
  | 0,_,_=>none
  | f+1,l,E=>(stp k l).bind fun t=>if t.1 = -1 then some none
      else if 1≤t.1∧t.1≤(l.length:Int)∧(t.2.length:Int)≤t.1 then
        (if ixL (l.drop t.1.toNat) = -1 then some (some (E++t.2++l.drop t.1.toNat))
         else jun k f ((l.drop t.1.toNat).drop (ixL (l.drop t.1.toNat)).toNat) (E++t.2++(l.drop t.1.toNat).take (ixL (l.drop t.1.toNat)).toNat))
      else none
def unc (k : Nat) (l:List Int):Option (Option (List Int)) :=
  if ixL l = -1 then some (some l) else jun k k (l.drop (ixL l).toNat) (l.take (ixL l).toNat)
end Go.Proofs.YthmjfmpgmcgonaaDoor.K
end
section
namespace Go.Proofs.YthmjfmpgmcgonaaDoor.K
open Go.RowKit Go.Proofs.YthmjfmpgmcgonaaDoorW.PrintWords Go.Proofs.YthmjfmpgmcgonaaDoorW.PrintLast Go.Proofs.YthmjfmpgmcgonaaDoorW.PrintMore
attribute [local go_sem] max2_int min2_int max_two min_two max_three min_three max_four min_four
set_option linter.unusedVariables false
set_option linter.unusedSimpArgs false
section
set_option maxHeartbeats 16000000
set_option maxRecDepth 100000
theorem sz1_ : ((Tryd.prog).info? 5).map (·.size)=some 1:=by
 obtain ⟨i0,hi,hzz⟩:=Option.map_eq_some_iff.1 info5;simp only [Prod.mk.injEq] at hzz;rw [hi,Option.map_some,hzz.2.1]
def UPost (w0 : World) (res:Option (List Int)) (e:Ending) (w':World):Prop :=
  Below w0.heap.size w0 w'∧match res with
  | some R=>∃ A' c',e = .returned (.tuple #[.slice A' R.length c', .nilIface])∧R.length≤c'∧Kd.C (Kd.int .u8) w' A' R.length R
  | none=>∃ te pe,e = .returned (.tuple #[.slice none 0 0, .iface te pe])∧w0.cell? ⟨8,0,none⟩=some (.iface te pe)
theorem j4f {L : List Int} {q:Nat} {bs E:List Int} (hE:L.take q=E) (hl:E.length=q) (hf:q+bs.length≤L.length):(splice L q bs).take (q+bs.length)=E++bs:=by
 unfold splice;rw [hE,← List.append_assoc,List.take_append_of_le_length zq85,List.take_of_length_le zq85]
theorem BF.C {v w0 W:World} {G ty:Nat} {L R:List Int} (h:BF v w0 W G ty L) (hR:L.take R.length=R) (hm:R.length≤4294967296):Kd.C (Kd.int .u8) W (some ⟨G,0,none⟩) R.length R:=by
 refine Kd.C_of_reads (enc:=Value.int .u8) (d:=(0:Int)) (h1:=fun _=>rfl) ⟨rfl,by omega,fun _=>⟨⟨G,0,none⟩,rfl,fun j hj=>?_⟩⟩
 have hl:R.length≤L.length:=by
  have:=congrArg List.length hR;rw [List.length_take] at this;omega
 rw [add_at,Nat.zero_add,h.cell j (by omega)]
 have e:R.getD j 0=L.getD j 0:=by
  conv=>lhs;rw [← hR]
  simp [List.getD_eq_getElem?_getD,List.getElem?_take,hj]
 rw [e];rfl
theorem BF.box {v w0 W:World} {G ty X:Nat} {L:List Int} {o:Obj} (h:BF v w0 W G ty L) (hX:v.heap[X]? = some o) (hg:X≠G):W.heap[X]? = some o :=
 (h.keep.2 X (j3p hX) hg (by simp)).trans hX
theorem stp_neg {k : Nat} {l bs:List Int} (h:stp k l=some (-1,bs)):bs=[]:=by
 unfold stp at h
 split at h
 ·cases h;rfl
 split at h
 ·split at h
  ·cases h
  split at h
  ·obtain ⟨t,_,h⟩:=Option.bind_eq_some_iff.mp h;split at h
   ·cases h;rfl
   split at h
   ·rename_i h1 h2;simp only [Option.some.injEq,Prod.mk.injEq] at h
    exact absurd h.1 h1
   ·cases h
  ·cases h;rfl
 ·cases h;rfl
def UP2 (w w0 : World) (G ty n:Nat) (res:Option (List Int)) (e:Ending) (w':World):Prop:=UPost w0 res e w'∧∃ L:List Int,L.length=n∧BF w w0 w' G ty L
theorem keep_one (w : World) (o:Obj) (G:Nat):KeepBut w (w.alloc o) G none:=j2j (KeepBut.refl _ _ _) o
theorem BF.beside {w w0 W:World} {G ty ty2:Nat} {L L2:List Int} {o o2:Obj} (h:BF w w0 w G ty L) (k:BF ((w.alloc o).alloc o2) w0 W (w.heap.size+1) ty2 L2):BF w w0 W G ty L:=by
 have hG:=j3p h.blk
 have two:∀ i,i<w.heap.size→W.heap[i]? = w.heap[i]? := fun i hi=>by
  have h1:=k.keep.2 i zq85 (by omega) (by simp);rw [h1];have e1:=(keep_one (w.alloc o) o2 (w.heap.size+5)).2 i zq85 (by omega) (by simp);have e2:=(keep_one w o (w.heap.size+5)).2 i hi (by omega) (by simp);rw [e1,e2]
 have hs:=k.keep.1;refine ⟨by rw [two G hG];exact h.blk,h.at_,k.below,⟨by simp at hs;omega,fun i hi _ _=>two i hi⟩⟩
theorem uc2_make (k : Nat) (l:List Int) (b o c:Nat) (w0 w:World) (res:Option (List Int)) (Ao:Option Addr) (on oc:Nat) (hT:Laid w0) (hB:Below w0.heap.size w0 w) (hI:IN w0 b o l) (hc:l.length≤c) (hcm:c≤9223372036854775807) (j0:Nat) (hj0:ixL l=(j0:Int)) (hj1:j0<l.length) (hoc:oc<l.length) (hQ:jun k k (l.drop j0) (l.take j0)=some res) (G tyG:Nat) (LG:List Int) (hG:BF w w0 w G tyG LG) (hLG:LG.length=64) :
 Calls Tryd.prog 61 #[.agg #[.bool false, .bool false, .int .i64 0], .slice (some ⟨b,o,none⟩) l.length c, .slice Ao on oc] w fun e w'=>UP2 w w0 G tyG 64 res e w':=by
 have HG:=mk0 hG;clear hG;have HI:=mk0 hI;have HT:=mk0 hT;have HQ:=mk0 hQ;have hnl:=hI.max;have hjm:(((j0:Nat):Int) == -1)=false:=by simp
 have hjm2:decide (((j0:Nat):Int) = -1)=false:=decide_eq_false (by omega);have HIX:=mk0 (fun W_ (hB_:Below w0.heap.size w0 W_)=>idx_calls (hI.below hB_) c);rw [hj0] at HIX;have HBA:=mk0 (show Below w0.heap.size w0 (w.alloc (.cells #[.bool false, .bool false, .int .i64 0] 93)) from j1f hB _);clear hI hT hQ;have hmk:=make_bytes l.length (by omega);have hbd:decide ((oc:Int)<(l.length:Int))=true:=decide_eq_true (by omega);have hBw:=hB.size;obtain ⟨L0,hL0e⟩:∃ L0:List Int,L0=List.replicate l.length 0:=⟨_,rfl⟩;have hL0:L0.length=l.length:=by rw [hL0e];simp
 have hnC:l.length≤l.length:=Nat.le_refl _;have hX:((w.alloc (.cells #[.bool false, .bool false, .int .i64 0] 93)).alloc (.cells (nums .u8 L0).toArray 5)).heap[w.heap.size]? = some (.cells #[.bool false, .bool false, .int .i64 0] 93 (0,0)):=j1c (j4m w _) _;have hXG:w.heap.size≠w.heap.size+1:=by omega
 have hF:BF ((w.alloc (.cells #[.bool false, .bool false, .int .i64 0] 93)).alloc (.cells (nums .u8 L0).toArray 5)) w0 ((w.alloc (.cells #[.bool false, .bool false, .int .i64 0] 93)).alloc (.cells (nums .u8 L0).toArray 5)) (w.heap.size+1) 5 L0 :=
  ⟨by have:=j4m (w.alloc (.cells #[.bool false, .bool false, .int .i64 0] 93)) (.cells (nums .u8 L0).toArray 5);simpa using this,by omega,j1f HBA.out _,KeepBut.refl _ _ _⟩
 have HF:=mk0 hF;rw [← hL0e] at hmk;clear hL0e hF;go_enter Tryd.func61,Tryd.ntmps61;go_upto_region 7 with (first|(go_at_call 82;(with_reducible refine (HIX.out _ HBA.out).mono ?_);rintro e_ w_ ⟨rfl,rfl⟩))
 clear HIX;have hl0:L0.length=l.length:=hL0;obtain ⟨o1,hcut1,HI1,hc1⟩:=j3v HI.out c j0 (by omega) hc;obtain ⟨q1,hcutb,hq1⟩:=cut_buf (w.heap.size+1) 0 l.length l.length j0 (by omega) hnC;have hcuth:=slc_h (some ⟨b,o,none⟩) l.length c j0 (by omega);go_wp2_with (first|((with_reducible refine j3f (b := .copy) (xs:=#[.tmp 30, .tmp 33]) rfl ?_);refine copy_BF (v:=((w.alloc (.cells #[.bool false, .bool false, .int .i64 0] 93)).alloc (.cells (nums .u8 L0).toArray 5))) (w0:=w0) rfl (.tmp 30) (.tmp 33) 55 55 rfl 5 Tryd.underlying55 sz1_ 0 l.length l.length b o j0 c rfl rfl 0 HF.out (l.take j0) zq81 (by omega) (fun _=>rfl) (fun i_ hi_=>((HI.out.take j0 (by omega)).below HF.out.below).cell i_ zq81) (by omega) ?_;intro w1 HF1_;have HF1:=mk0 HF1_;clear HF1_ ))
 have HI1':=mk0 HI1;clear HI1 hcut1 hcutb hcuth HF;go_loopg [1,9] k (fun kq v1 v9 w'=>∃ (lc:List Int) (oc_ cc q_ bl bc:Nat) (E L:List Int),v1 = .slice (some ⟨b,oc_,none⟩) lc.length cc∧v9 = .slice (some ⟨(w.heap.size+1),q_,none⟩) bl bc∧Aside0 (kq≤k)∧Aside0 (IN w0 b oc_ lc)∧(lc.length≤cc∧cc≤9223372036854775807∧q_+bl=l.length∧q_+bc=l.length∧lc.length≤bl∧1≤lc.length)∧Aside0 (E.length=q_∧L.length=l.length∧L.take q_=E)∧Aside0 (jun k kq lc E=some res)∧Aside0 (BF ((w.alloc (.cells #[.bool false, .bool false, .int .i64 0] 93)).alloc (.cells (nums .u8 L0).toArray 5)) w0 w' (w.heap.size+1) 5 L))
 case atStart =>
  have e1:q1=j0:=by have:=hq1 (by omega);omega
  subst e1;refine ⟨l.drop q1,o1,c - q1,q1,l.length - q1,l.length - q1,l.take q1,splice L0 0 (l.take q1),zq84,zq84,⟨Nat.le_refl _⟩,HI1',⟨hc1,by omega,by omega,by omega,by rw [List.length_drop];omega,by rw [List.length_drop];omega⟩,⟨by rw [List.length_take];omega,by rw [length_splice _ _ _ zq81];exact hl0,?_⟩,HQ,HF1⟩;have:=j4f (L:=L0) (q:=0) (bs:=l.take q1) (E:=[]) (by simp) rfl zq81
  rwa [Nat.zero_add,List.length_take,Nat.min_eq_left (by omega),List.nil_append] at this
 case round =>
  clear HF1 HI1' HQ hq1 hc1;obtain ⟨lc,oc_,cc,q_,bl,bc,E,L,rfl,rfl,HK1,HIc,hnum,HE,HQ,HF⟩:=hrel;obtain ⟨hcc,hccm,hqb,hqc,hlb,hl1⟩:=hnum;cases gk with
  | zero=>exact absurd HQ.out (by simp [jun])
  | succ kr =>
   have hH:=HQ.out;clear HQ;rw [jun] at hH;replace hH:=Option.bind_eq_some_iff.mp hH;obtain ⟨⟨m,bs⟩,hS,hH⟩:=hH;simp only at hH;have hbox:=HF.out.box hX hXG;have x0:=j1b hbox 0;have x1:=j1b hbox 1;have x2:=j1b hbox 2;clear hbox;replace x0:wr.cell? ⟨w.heap.size,0,none⟩=some (.bool false):=x0;replace x1:wr.cell? ⟨w.heap.size,1,none⟩=some (.bool false):=x1;replace x2:wr.cell? ⟨w.heap.size,2,none⟩=some (.int .i64 0):=x2;have hLl:L.length=l.length:=HE.out.2.1;have HU:=mk0 (u8c_calls k lc (some ⟨b,oc_,none⟩) cc (w.heap.size+1) q_ bl bc 5 L m bs w0 wr (HT.out.below HF.out.below) (HIc.out.below HF.out.below).C hcc HF.out.self (by omega) hlb (by omega) (by have:=HIc.out.max;omega) (by omega) (by omega) hS);clear hS;by_cases hm:m = -1
   ·rw [if_pos hm] at hH;obtain rfl:=Option.some.inj hH;subst hm;obtain ⟨te,pe,hesc0⟩:=HT.out.esc;go_wp2_with (first|(go_at_call 83;(with_reducible refine HU.out.mono ?_);rintro e_ w5 ⟨rfl,hd5⟩;have K5:=mk0 hd5;have hesc5:w5.cell? ⟨8,0,none⟩=some (.iface te pe):=(j2g hd5.below (World.block_lt_of_cell? w0 _ hesc0)).trans hesc0;clear hd5))
    go_quiet (fail)
    go_wp2;go_ret2;exact ⟨⟨by first|exact j1d K5.out.below _|exact K5.out.below,te,pe,rfl,hesc0⟩,LG,hLG,HG.out.beside (by first|exact (BF.tr HF.out.keep K5.out).drewN _|exact BF.tr HF.out.keep K5.out)⟩
   rw [if_neg hm] at hH;split at hH
   case isFalse=>cases hH
   case isTrue hg =>
   obtain ⟨hg0,hg1,hg2⟩:=hg;skip
   obtain ⟨mm,rfl⟩:∃ x:Nat,m=(x:Int):=⟨m.toNat,by omega⟩;rw [Int.toNat_natCast] at hH;have hmb:(((mm:Nat):Int) == -1)=false:=by simp
   have hmd:decide (((mm:Nat):Int) = -1)=false:=decide_eq_false hm;obtain ⟨o2,hcut2,HI2,hc2⟩:=j3v HIc.out cc mm (by omega) hcc;obtain ⟨q2,hcutb2,hq2⟩:=cut_buf (w.heap.size+1) q_ bl bc bs.length (by omega) (by omega);have hl2:(lc.drop mm).length=lc.length - mm:=List.length_drop
   generalize lc.drop mm=l2 at hcut2 HI2 hc2 hl2 hH
   have hb2:bs.length+l2.length≤bl:=by omega
   have HL2:=mk0 hl2;clear hl2;have HI2':=mk0 HI2;clear HI2;have hL5:(splice L q_ bs).length=l.length:=by rw [length_splice _ _ _ (by omega)];exact hLl
   have hT5:=j4f (bs:=bs) HE.out.2.2 HE.out.1 (by omega);have HU2:=mk0 (HU.out.mono (fun e_ w_ (h_:e_=_∧BF wr w0 w_ (w.heap.size+1) 5 (splice L q_ bs))=>(⟨by rw [h_.1,if_neg hm],h_.2⟩:e_ = .returned (.tuple #[.int .i64 (mm:Int), .int .i64 (bs.length:Int)])∧BF wr w0 w_ (w.heap.size+1) 5 (splice L q_ bs))));clear HU
   generalize splice L q_ bs=L5 at HU2 hL5 hT5
   have HT5:=mk0 hT5;clear hT5 hm;rcases ixL_range l2 with hix|⟨j,hix,hj1,hj2⟩
   ·rw [if_pos hix] at hH;obtain rfl:=Option.some.inj hH;have HIX2:=mk0 (fun W_ (hB_:Below w0.heap.size w0 W_)=>idx_calls (HI2'.out.below hB_) (cc - mm));rw [hix] at HIX2;obtain ⟨q3,hcutb3,hq3⟩:=cut_buf (w.heap.size+1) q2 (bl - bs.length) (bc - bs.length) l2.length (by omega) (by omega)
    have hfin:∀ W:World,(Instr.slice 55 (.slice (some ⟨(w.heap.size+1),0,none⟩) l.length l.length) none (some (.int .i64 ((l.length:Int) - (((bl - bs.length - l2.length):Nat):Int)))) none).run Tryd.prog W = .ok (.slice (some ⟨(w.heap.size+1),0,none⟩) (q_+bs.length+l2.length) l.length) W:=fun W=>by
     rw [show (l.length:Int) - (((bl - bs.length - l2.length):Nat):Int)=((q_+bs.length+l2.length:Nat):Int) by omega];exact slc_h (some ⟨(w.heap.size+1),0,none⟩) l.length l.length (q_+bs.length+l2.length) (by omega) W
    go_wp2_with (first|(go_at_call 83;(with_reducible refine HU2.out.mono ?_);rintro e_ w5 ⟨rfl,hd5⟩;have K5:=mk0 (BF.tr HF.out.keep hd5);clear hd5)|(go_at_call 82;(with_reducible refine (HIX2.out _ zq77).mono ?_);rintro e_ w_ ⟨rfl,rfl⟩)|((with_reducible refine j3f (b := .copy) (xs:=#[.tmp 61, .tmp 62]) rfl ?_);refine copy_BF (v:=((w.alloc (.cells #[.bool false, .bool false, .int .i64 0] 93)).alloc (.cells (nums .u8 L0).toArray 5))) (w0:=w0) rfl (.tmp 61) (.tmp 62) 55 55 rfl 5 Tryd.underlying55 sz1_ q2 (bl - bs.length) (bc - bs.length) b o2 l2.length (cc - mm) rfl rfl (q_+bs.length) K5.out l2 rfl (by omega) (fun hp=>hq2 (by omega)) (HI2'.out.below K5.out.below).cell (by omega) ?_;intro w6 K6_;have K6:=mk0 K6_;clear K6_ ))
    go_ret2;have hlR:(E++bs++l2).length=q_+bs.length+l2.length:=by have:=HE.out.1;simp only [List.length_append];omega
    have hlE:(E++bs).length=q_+bs.length:=by have:=HE.out.1;simp only [List.length_append];omega
    have hRt:=j4f (L:=L5) (q:=q_+bs.length) (bs:=l2) HT5.out hlE (by omega);rw [← hlR] at hRt ⊢;exact ⟨⟨K6.out.below,_,_,rfl,by omega,K6.out.C hRt (by omega)⟩,LG,hLG,HG.out.beside K6.out⟩
   ·rw [if_neg (by omega),hix,Int.toNat_natCast] at hH;have HIX2:=mk0 (fun W_ (hB_:Below w0.heap.size w0 W_)=>idx_calls (HI2'.out.below hB_) (cc - mm));rw [hix] at HIX2;have hjb:(((j:Nat):Int) == -1)=false:=by simp
    have hjd:decide (((j:Nat):Int) = -1)=false:=decide_eq_false (by omega);obtain ⟨q3,hcutb3,hq3⟩:=cut_buf (w.heap.size+1) q2 (bl - bs.length) (bc - bs.length) j (by omega) (by omega);obtain ⟨o3,hcut3,HI3,hc3⟩:=j3v HI2'.out (cc - mm) j (by omega) hc2;have hcuth3:=slc_h (some ⟨b,o2,none⟩) l2.length (cc - mm) j (by omega);have HI3':=mk0 HI3;have HQ:=mk0 hH;clear HI3 hH;have hlt3:(l2.take j).length=j:=by rw [List.length_take];omega
    go_wp2_with (first|(go_at_call 83;(with_reducible refine HU2.out.mono ?_);rintro e_ w5 ⟨rfl,hd5⟩;have K5:=mk0 (BF.tr HF.out.keep hd5);clear hd5)|(go_at_call 82;(with_reducible refine (HIX2.out _ zq77).mono ?_);rintro e_ w_ ⟨rfl,rfl⟩)|((with_reducible refine j3f (b := .copy) (xs:=#[.tmp 68, .tmp 71]) rfl ?_);refine copy_BF (v:=((w.alloc (.cells #[.bool false, .bool false, .int .i64 0] 93)).alloc (.cells (nums .u8 L0).toArray 5))) (w0:=w0) rfl (.tmp 68) (.tmp 71) 55 55 rfl 5 Tryd.underlying55 sz1_ q2 (bl - bs.length) (bc - bs.length) b o2 j (cc - mm) rfl rfl (q_+bs.length) K5.out (l2.take j) hlt3 (by omega) (fun hp=>hq2 (by omega)) (fun i_ hi_=>((HI2'.out.take j (by omega)).below K5.out.below).cell i_ (by omega)) (by omega) ?_;intro w6 K6_;have K6:=mk0 K6_;clear K6_ ))
    go_roundg kr
    case measure=>have:=HK1.out;omega
    case rel =>
     have hl2:=HL2.out;have hl3:(l2.drop j).length=l2.length - j:=List.length_drop;have e2:q2=q_+bs.length:=hq2 (by omega);have e3:q3=q_+bs.length+j:=by have:=hq3 (by omega);omega
     subst e2;subst e3;refine ⟨l2.drop j,o3,cc - mm - j,q_+bs.length+j,bl - bs.length - j,bc - bs.length - j,E++bs++l2.take j,splice L5 (q_+bs.length) (l2.take j),zq84,zq84,⟨by have:=HK1.out;omega⟩,HI3',⟨hc3,by omega,by omega,by omega,by omega,by omega⟩,⟨by have:=HE.out.1;simp only [List.length_append];omega,by rw [length_splice _ _ _ (by omega)];exact hL5,?_⟩,HQ,K6⟩;have:=j4f (L:=L5) (q:=q_+bs.length) (bs:=l2.take j) HT5.out (by have:=HE.out.1;simp only [List.length_append];omega) (by omega)
     rwa [hlt3] at this
theorem uc2_there (k : Nat) (l:List Int) (b o c:Nat) (w0 w:World) (res:Option (List Int)) (G ty:Nat) (L0:List Int) (hT:Laid w0) (hB:Below w0.heap.size w0 w) (hI:IN w0 b o l) (hc:l.length≤c) (hcm:c≤9223372036854775807) (j0:Nat) (hj0:ixL l=(j0:Int)) (hj1:j0<l.length) (hF0:BF w w0 w G ty L0) (hL64:L0.length=64) (hr64:l.length≤64) (hQ:jun k k (l.drop j0) (l.take j0)=some res) :
 Calls Tryd.prog 61 #[.agg #[.bool false, .bool false, .int .i64 0], .slice (some ⟨b,o,none⟩) l.length c, .slice (some ⟨G,0,none⟩) 64 64] w fun e w'=>UP2 w w0 G ty 64 res e w':=by
 have HI:=mk0 hI;have HT:=mk0 hT;have HQ:=mk0 hQ;have hnl:=hI.max;have hjm:(((j0:Nat):Int) == -1)=false:=by simp
 have hjm2:decide (((j0:Nat):Int) = -1)=false:=decide_eq_false (by omega);have HIX:=mk0 (fun W_ (hB_:Below w0.heap.size w0 W_)=>idx_calls (hI.below hB_) c);rw [hj0] at HIX;have HBA:=mk0 (show Below w0.heap.size w0 (w.alloc (.cells #[.bool false, .bool false, .int .i64 0] 93)) from j1f hB _);clear hI hT hQ;have hbd:decide ((64:Int)<(l.length:Int))=false:=decide_eq_false (by omega);have hbd2:¬ ((64:Int)<(l.length:Int)):=by omega
 have hcut0:=slc_0h (some ⟨G,0,none⟩) 64 64 l.length hr64;have hnC:l.length≤64:=hr64;have hL0:L0.length=64:=hL64;have hX:(w.alloc (.cells #[.bool false, .bool false, .int .i64 0] 93)).heap[w.heap.size]? = some (.cells #[.bool false, .bool false, .int .i64 0] 93 (0,0)):=j4m w _;have hXG:w.heap.size≠G:=by have:=j3p hF0.blk;omega
 have HF:=mk0 (hF0.alloc (.cells #[.bool false, .bool false, .int .i64 0] 93)).self;clear hF0;go_enter Tryd.func61,Tryd.ntmps61;go_upto_region 7 with (first|(go_at_call 82;(with_reducible refine (HIX.out _ HBA.out).mono ?_);rintro e_ w_ ⟨rfl,rfl⟩))
 clear HIX;have hl0:L0.length=64:=hL0;obtain ⟨o1,hcut1,HI1,hc1⟩:=j3v HI.out c j0 (by omega) hc;obtain ⟨q1,hcutb,hq1⟩:=cut_buf G 0 l.length 64 j0 (by omega) hnC;have hcuth:=slc_h (some ⟨b,o,none⟩) l.length c j0 (by omega);go_wp2_with (first|((with_reducible refine j3f (b := .copy) (xs:=#[.tmp 30, .tmp 33]) rfl ?_);refine copy_BF (v:=(w.alloc (.cells #[.bool false, .bool false, .int .i64 0] 93))) (w0:=w0) rfl (.tmp 30) (.tmp 33) 55 55 rfl 5 Tryd.underlying55 sz1_ 0 l.length 64 b o j0 c rfl rfl 0 HF.out (l.take j0) zq81 (by omega) (fun _=>rfl) (fun i_ hi_=>((HI.out.take j0 (by omega)).below HF.out.below).cell i_ zq81) (by omega) ?_;intro w1 HF1_;have HF1:=mk0 HF1_;clear HF1_ ))
 have HI1':=mk0 HI1;clear HI1 hcut1 hcutb hcuth HF;go_loopg [1,9] k (fun kq v1 v9 w'=>∃ (lc:List Int) (oc_ cc q_ bl bc:Nat) (E L:List Int),v1 = .slice (some ⟨b,oc_,none⟩) lc.length cc∧v9 = .slice (some ⟨G,q_,none⟩) bl bc∧Aside0 (kq≤k)∧Aside0 (IN w0 b oc_ lc)∧(lc.length≤cc∧cc≤9223372036854775807∧q_+bl=l.length∧q_+bc=64∧lc.length≤bl∧1≤lc.length)∧Aside0 (E.length=q_∧L.length=64∧L.take q_=E)∧Aside0 (jun k kq lc E=some res)∧Aside0 (BF (w.alloc (.cells #[.bool false, .bool false, .int .i64 0] 93)) w0 w' G ty L))
 case atStart =>
  have e1:q1=j0:=by have:=hq1 (by omega);omega
  subst e1;refine ⟨l.drop q1,o1,c - q1,q1,l.length - q1,64 - q1,l.take q1,splice L0 0 (l.take q1),zq84,zq84,⟨Nat.le_refl _⟩,HI1',⟨hc1,by omega,by omega,by omega,by rw [List.length_drop];omega,by rw [List.length_drop];omega⟩,⟨by rw [List.length_take];omega,by rw [length_splice _ _ _ zq81];exact hl0,?_⟩,HQ,HF1⟩;have:=j4f (L:=L0) (q:=0) (bs:=l.take q1) (E:=[]) (by simp) rfl zq81
  rwa [Nat.zero_add,List.length_take,Nat.min_eq_left (by omega),List.nil_append] at this
 case round =>
  clear HF1 HI1' HQ hq1 hc1;obtain ⟨lc,oc_,cc,q_,bl,bc,E,L,rfl,rfl,HK1,HIc,hnum,HE,HQ,HF⟩:=hrel;obtain ⟨hcc,hccm,hqb,hqc,hlb,hl1⟩:=hnum;cases gk with
  | zero=>exact absurd HQ.out (by simp [jun])
  | succ kr =>
   have hH:=HQ.out;clear HQ;rw [jun] at hH;replace hH:=Option.bind_eq_some_iff.mp hH;obtain ⟨⟨m,bs⟩,hS,hH⟩:=hH;simp only at hH;have hbox:=HF.out.box hX hXG;have x0:=j1b hbox 0;have x1:=j1b hbox 1;have x2:=j1b hbox 2;clear hbox;replace x0:wr.cell? ⟨w.heap.size,0,none⟩=some (.bool false):=x0;replace x1:wr.cell? ⟨w.heap.size,1,none⟩=some (.bool false):=x1;replace x2:wr.cell? ⟨w.heap.size,2,none⟩=some (.int .i64 0):=x2;have hLl:L.length=64:=HE.out.2.1;have HU:=mk0 (u8c_calls k lc (some ⟨b,oc_,none⟩) cc G q_ bl bc ty L m bs w0 wr (HT.out.below HF.out.below) (HIc.out.below HF.out.below).C hcc HF.out.self (by omega) hlb (by omega) (by have:=HIc.out.max;omega) (by omega) (by omega) hS);have HSN:Aside0 (m = -1→bs=[]):=⟨fun e=>stp_neg (e ▸ hS)⟩;clear hS;by_cases hm:m = -1
   ·rw [if_pos hm] at hH;obtain rfl:=Option.some.inj hH;have hbs:=HSN.out hm;subst hbs;subst hm;obtain ⟨te,pe,hesc0⟩:=HT.out.esc;go_wp2_with (first|(go_at_call 83;(with_reducible refine HU.out.mono ?_);rintro e_ w5 ⟨rfl,hd5⟩;have K5:=mk0 hd5;have hesc5:w5.cell? ⟨8,0,none⟩=some (.iface te pe):=(j2g hd5.below (World.block_lt_of_cell? w0 _ hesc0)).trans hesc0;clear hd5))
    go_quiet (fail)
    go_wp2;go_ret2;have K5b:=BF.tr HF.out.keep K5.out;have hlz:(splice L q_ []).length=64:=(length_splice _ _ _ (by simp only [List.length_nil];omega)).trans hLl;exact ⟨⟨by first|exact j1d K5.out.below _|exact K5.out.below,te,pe,rfl,hesc0⟩,splice L q_ [],hlz,BF.tr (keep_one _ _ _) (by first|exact K5b.drewN _|exact K5b)⟩
   rw [if_neg hm] at hH;split at hH
   case isFalse=>cases hH
   case isTrue hg =>
   obtain ⟨hg0,hg1,hg2⟩:=hg;skip
   obtain ⟨mm,rfl⟩:∃ x:Nat,m=(x:Int):=⟨m.toNat,by omega⟩;rw [Int.toNat_natCast] at hH;have hmb:(((mm:Nat):Int) == -1)=false:=by simp
   have hmd:decide (((mm:Nat):Int) = -1)=false:=decide_eq_false hm;obtain ⟨o2,hcut2,HI2,hc2⟩:=j3v HIc.out cc mm (by omega) hcc;obtain ⟨q2,hcutb2,hq2⟩:=cut_buf G q_ bl bc bs.length (by omega) (by omega);have hl2:(lc.drop mm).length=lc.length - mm:=List.length_drop
   generalize lc.drop mm=l2 at hcut2 HI2 hc2 hl2 hH
   have hb2:bs.length+l2.length≤bl:=by omega
   have HL2:=mk0 hl2;clear hl2;have HI2':=mk0 HI2;clear HI2;have hL5:(splice L q_ bs).length=64:=by rw [length_splice _ _ _ (by omega)];exact hLl
   have hT5:=j4f (bs:=bs) HE.out.2.2 HE.out.1 (by omega);have HU2:=mk0 (HU.out.mono (fun e_ w_ (h_:e_=_∧BF wr w0 w_ G ty (splice L q_ bs))=>(⟨by rw [h_.1,if_neg hm],h_.2⟩:e_ = .returned (.tuple #[.int .i64 (mm:Int), .int .i64 (bs.length:Int)])∧BF wr w0 w_ G ty (splice L q_ bs))));clear HU
   generalize splice L q_ bs=L5 at HU2 hL5 hT5
   have HT5:=mk0 hT5;clear hT5 hm;rcases ixL_range l2 with hix|⟨j,hix,hj1,hj2⟩
   ·rw [if_pos hix] at hH;obtain rfl:=Option.some.inj hH;have HIX2:=mk0 (fun W_ (hB_:Below w0.heap.size w0 W_)=>idx_calls (HI2'.out.below hB_) (cc - mm));rw [hix] at HIX2;obtain ⟨q3,hcutb3,hq3⟩:=cut_buf G q2 (bl - bs.length) (bc - bs.length) l2.length (by omega) (by omega)
    have hfin:∀ W:World,(Instr.slice 55 (.slice (some ⟨G,0,none⟩) l.length 64) none (some (.int .i64 ((l.length:Int) - (((bl - bs.length - l2.length):Nat):Int)))) none).run Tryd.prog W = .ok (.slice (some ⟨G,0,none⟩) (q_+bs.length+l2.length) 64) W:=fun W=>by
     rw [show (l.length:Int) - (((bl - bs.length - l2.length):Nat):Int)=((q_+bs.length+l2.length:Nat):Int) by omega];exact slc_h (some ⟨G,0,none⟩) l.length 64 (q_+bs.length+l2.length) (by omega) W
    go_wp2_with (first|(go_at_call 83;(with_reducible refine HU2.out.mono ?_);rintro e_ w5 ⟨rfl,hd5⟩;have K5:=mk0 (BF.tr HF.out.keep hd5);clear hd5)|(go_at_call 82;(with_reducible refine (HIX2.out _ zq77).mono ?_);rintro e_ w_ ⟨rfl,rfl⟩)|((with_reducible refine j3f (b := .copy) (xs:=#[.tmp 61, .tmp 62]) rfl ?_);refine copy_BF (v:=(w.alloc (.cells #[.bool false, .bool false, .int .i64 0] 93))) (w0:=w0) rfl (.tmp 61) (.tmp 62) 55 55 rfl 5 Tryd.underlying55 sz1_ q2 (bl - bs.length) (bc - bs.length) b o2 l2.length (cc - mm) rfl rfl (q_+bs.length) K5.out l2 rfl (by omega) (fun hp=>hq2 (by omega)) (HI2'.out.below K5.out.below).cell (by omega) ?_;intro w6 K6_;have K6:=mk0 K6_;clear K6_ ))
    go_ret2;have hlR:(E++bs++l2).length=q_+bs.length+l2.length:=by have:=HE.out.1;simp only [List.length_append];omega
    have hlE:(E++bs).length=q_+bs.length:=by have:=HE.out.1;simp only [List.length_append];omega
    have hRt:=j4f (L:=L5) (q:=q_+bs.length) (bs:=l2) HT5.out hlE (by omega);rw [← hlR] at hRt ⊢;refine ⟨⟨K6.out.below,_,_,rfl,by omega,K6.out.C hRt (by omega)⟩,splice L5 (q_+bs.length) l2,(length_splice _ _ _ (by omega)).trans hL5,BF.tr (keep_one _ _ _) K6.out⟩
   ·rw [if_neg (by omega),hix,Int.toNat_natCast] at hH;have HIX2:=mk0 (fun W_ (hB_:Below w0.heap.size w0 W_)=>idx_calls (HI2'.out.below hB_) (cc - mm));rw [hix] at HIX2;have hjb:(((j:Nat):Int) == -1)=false:=by simp
    have hjd:decide (((j:Nat):Int) = -1)=false:=decide_eq_false (by omega);obtain ⟨q3,hcutb3,hq3⟩:=cut_buf G q2 (bl - bs.length) (bc - bs.length) j (by omega) (by omega);obtain ⟨o3,hcut3,HI3,hc3⟩:=j3v HI2'.out (cc - mm) j (by omega) hc2;have hcuth3:=slc_h (some ⟨b,o2,none⟩) l2.length (cc - mm) j (by omega);have HI3':=mk0 HI3;have HQ:=mk0 hH;clear HI3 hH;have hlt3:(l2.take j).length=j:=by rw [List.length_take];omega
    go_wp2_with (first|(go_at_call 83;(with_reducible refine HU2.out.mono ?_);rintro e_ w5 ⟨rfl,hd5⟩;have K5:=mk0 (BF.tr HF.out.keep hd5);clear hd5)|(go_at_call 82;(with_reducible refine (HIX2.out _ zq77).mono ?_);rintro e_ w_ ⟨rfl,rfl⟩)|((with_reducible refine j3f (b := .copy) (xs:=#[.tmp 68, .tmp 71]) rfl ?_);refine copy_BF (v:=(w.alloc (.cells #[.bool false, .bool false, .int .i64 0] 93))) (w0:=w0) rfl (.tmp 68) (.tmp 71) 55 55 rfl 5 Tryd.underlying55 sz1_ q2 (bl - bs.length) (bc - bs.length) b o2 j (cc - mm) rfl rfl (q_+bs.length) K5.out (l2.take j) hlt3 (by omega) (fun hp=>hq2 (by omega)) (fun i_ hi_=>((HI2'.out.take j (by omega)).below K5.out.below).cell i_ (by omega)) (by omega) ?_;intro w6 K6_;have K6:=mk0 K6_;clear K6_ ))
    go_roundg kr
    case measure=>have:=HK1.out;omega
    case rel =>
     have hl2:=HL2.out;have hl3:(l2.drop j).length=l2.length - j:=List.length_drop;have e2:q2=q_+bs.length:=hq2 (by omega);have e3:q3=q_+bs.length+j:=by have:=hq3 (by omega);omega
     subst e2;subst e3;refine ⟨l2.drop j,o3,cc - mm - j,q_+bs.length+j,bl - bs.length - j,bc - bs.length - j,E++bs++l2.take j,splice L5 (q_+bs.length) (l2.take j),zq84,zq84,⟨by have:=HK1.out;omega⟩,HI3',⟨hc3,by omega,by omega,by omega,by omega,by omega⟩,⟨by have:=HE.out.1;simp only [List.length_append];omega,by rw [length_splice _ _ _ (by omega)];exact hL5,?_⟩,HQ,K6⟩;have:=j4f (L:=L5) (q:=q_+bs.length) (bs:=l2.take j) HT5.out (by have:=HE.out.1;simp only [List.length_append];omega) (by omega)
     rwa [hlt3] at this
theorem uc2_none (l : List Int) (b o c:Nat) (w0 w:World) (ov:Value) (hB:Below w0.heap.size w0 w) (hI:IN w0 b o l) (hc:l.length≤c) (hj:ixL l = -1) (G ty:Nat) (LG:List Int) (hG:BF w w0 w G ty LG) (hLG:LG.length=64) :
 Calls Tryd.prog 61 #[.agg #[.bool false, .bool false, .int .i64 0], .slice (some ⟨b,o,none⟩) l.length c,ov] w fun e w'=>UP2 w w0 G ty 64 (some l) e w':=by
 have HG:=mk0 hG;clear hG;have HI:=mk0 hI;have HIX:=mk0 (fun W_ (hB_:Below w0.heap.size w0 W_)=>idx_calls (hI.below hB_) c);rw [hj] at HIX;have HBA:=mk0 (show Below w0.heap.size w0 (w.alloc (.cells #[.bool false, .bool false, .int .i64 0] 93)) from j1f hB _);clear hI hj hB;go_enter Tryd.func61,Tryd.ntmps61;go_wp2_with (first|(go_at_call 82;(with_reducible refine (HIX.out _ HBA.out).mono ?_);rintro e_ w_ ⟨rfl,rfl⟩))
 go_ret2;exact ⟨⟨HBA.out,_,_,rfl,hc,(HI.out.below HBA.out).C⟩,LG,hLG,HG.out.alloc _⟩
theorem unc2_there (k : Nat) (l:List Int) (b o c:Nat) (w0 w:World) (res:Option (List Int)) (G ty:Nat) (L0:List Int) (hT:Laid w0) (hB:Below w0.heap.size w0 w) (hI:IN w0 b o l) (hc:l.length≤c) (hcm:c≤9223372036854775807) (hF0:BF w w0 w G ty L0) (hL64:L0.length=64) (h:unc k l=some res) :
 Calls Tryd.prog 61 #[.agg #[.bool false, .bool false, .int .i64 0], .slice (some ⟨b,o,none⟩) l.length c, .slice (some ⟨G,0,none⟩) 64 64] w fun e w'=>UP2 w w0 G ty 64 res e w':=by
 unfold unc at h
 rcases ixL_range l with hj|⟨j,hj,hj1,_⟩
 ·rw [if_pos hj] at h
  obtain rfl:=Option.some.inj h;exact uc2_none l b o c w0 w _ hB hI hc hj G ty L0 hF0 hL64
 ·rw [if_neg (by omega),hj,Int.toNat_natCast] at h
  by_cases h64:l.length≤64
  ·exact uc2_there k l b o c w0 w res G ty L0 hT hB hI hc hcm j hj hj1 hF0 hL64 h64 h
  exact uc2_make k l b o c w0 w res _ _ _ hT hB hI hc hcm j hj hj1 (by omega) h G ty L0 hF0 hL64
end
structure OC where
  kx:List Int
  vo:Nat
  vn:Nat
  kd:Int
  off:Nat
def ocOf (g : GR) (q r:Nat) (k:List Int):OC:=⟨k,q+vB g r,vN g r,g.kd,q+g.en⟩
def oKey (un : List Int→Option (Option (List Int))) (es:Bool) (kx:List Int):Option (List Int):=if es=true then (un kx).bind id else some kx
def oA (un : List Int→Option (Option (List Int))) (l:List Int) (p:Nat):Option (List Int × Nat) :=
  if p<l.length∧l.getD p 0=34∧0≤(strE 34 (l.drop (p+1)) 0 false false).1∧0≤nT (l.drop (p+1+(strE 34 (l.drop (p+1)) 0 false false).1.toNat)) 0 ∧
      l.getD (p+1+(strE 34 (l.drop (p+1)) 0 false false).1.toNat+(nT (l.drop (p+1+(strE 34 (l.drop (p+1)) 0 false false).1.toNat)) 0).toNat) 0=58 then
    (oKey un (strE 34 (l.drop (p+1)) 0 false false).2 ((l.drop (p+1)).take ((strE 34 (l.drop (p+1)) 0 false false).1.toNat - 1))).map fun k=>(k,p+1+(strE 34 (l.drop (p+1)) 0 false false).1.toNat+(nT (l.drop (p+1+(strE 34 (l.drop (p+1)) 0 false false).1.toNat)) 0).toNat+1)
  else none
def oB (sq : Bool) (l:List Int) (q:Nat):Option (GR × Nat) :=
  if 0≤nT (l.drop q) 0∧(gT sq (l.drop q) (nT (l.drop q) 0).toNat).ok=true then some (gT sq (l.drop q) (nT (l.drop q) 0).toNat,(nT (l.drop q) 0).toNat) else none
def oM (sq : Bool) (un:List Int→Option (Option (List Int))) (l:List Int):Nat→Nat→Option (List OC)
  | 0,_=>none
  | n+1,p=>(oA un l p).bind fun a=>(oB sq l a.2).bind fun g =>
    if nT (l.drop (a.2+g.1.en)) 0<0 then none
    else if l.getD (a.2+g.1.en+(nT (l.drop (a.2+g.1.en)) 0).toNat) 0=125 then some [ocOf g.1 a.2 g.2 a.1]
    else if l.getD (a.2+g.1.en+(nT (l.drop (a.2+g.1.en)) 0).toNat) 0=44 then
      (if nT (l.drop (a.2+g.1.en+(nT (l.drop (a.2+g.1.en)) 0).toNat+1)) 0<0 then none
      else (oM sq un l n (a.2+g.1.en+(nT (l.drop (a.2+g.1.en)) 0).toNat+1+(nT (l.drop (a.2+g.1.en+(nT (l.drop (a.2+g.1.en)) 0).toNat+1)) 0).toNat)).map fun t=>ocOf g.1 a.2 g.2 a.1 :: t)
    else none
def oE (sq : Bool) (un:List Int→Option (Option (List Int))) (l:List Int) (R:Nat):Option (List OC) :=
  if 0≤nT (l.drop R) 0∧l.getD (R+(nT (l.drop R) 0).toNat) 0=123∧0≤nT (l.drop (R+(nT (l.drop R) 0).toNat+1)) 0 then
    (if l.getD (R+(nT (l.drop R) 0).toNat+1+(nT (l.drop (R+(nT (l.drop R) 0).toNat+1)) 0).toNat) 0=125 then some []
    else oM sq un l l.length (R+(nT (l.drop R) 0).toNat+1+(nT (l.drop (R+(nT (l.drop R) 0).toNat+1)) 0).toNat))
  else none
theorem nT_nat {l : List Int} (h:0≤nT l 0):∃ t:Nat,nT l 0=(t:Int)∧t<l.length:=by
 rcases j4d l 0 with e|⟨j,e,_,h2⟩
 ·omega
 ·exact ⟨j,e,by omega⟩
theorem oA_eq {un : List Int→Option (Option (List Int))} {l k:List Int} {p m t:Nat} {es:Bool} (h1:p<l.length) (h2:l.getD p 0=34) (h3:strE 34 (l.drop (p+1)) 0 false false=((m:Int),es)) (h4:oKey un es ((l.drop (p+1)).take (m - 1))=some k)
 (h5:nT (l.drop (p+1+m)) 0=(t:Int)) (h6:l.getD (p+1+m+t) 0=58):oA un l p=some (k,p+1+m+t+1):=by
 unfold oA;rw [h3];simp only [Int.toNat_natCast];rw [h5];simp only [Int.toNat_natCast];rw [if_pos ⟨h1,h2,by omega,by omega,h6⟩,h4];rfl
theorem oA_inv {un : List Int→Option (Option (List Int))} {l k:List Int} {p q:Nat} (h:oA un l p=some (k,q)) :
 ∃ (m t:Nat) (es:Bool),p<l.length∧l.getD p 0=34∧strE 34 (l.drop (p+1)) 0 false false=((m:Int),es)∧1≤m∧p+1+m≤l.length∧oKey un es ((l.drop (p+1)).take (m - 1))=some k∧nT (l.drop (p+1+m)) 0=(t:Int)∧p+1+m+t<l.length∧l.getD (p+1+m+t) 0=58∧q=p+1+m+t+1:=by
 unfold oA at h
 split at h
 case isFalse=>cases h
 case isTrue hc =>
 obtain ⟨h1,h2,h3,h4,h5⟩:=hc;obtain ⟨k',hk,e⟩:=Option.map_eq_some_iff.mp h;cases e;have rng:=j4j 34 (l.drop (p+1)) 0 false false
 generalize strE 34 (l.drop (p+1)) 0 false false=se at *
 obtain ⟨s1,es⟩:=se;simp only at *;rcases rng with e|⟨m,e,g1,g2⟩
 ·omega
 subst e;rw [Int.toNat_natCast] at *;obtain ⟨t,ht,g3⟩:=nT_nat h4;rw [ht,Int.toNat_natCast] at h5;rw [List.length_drop] at g2 g3;exact ⟨m,t,es,h1,h2,rfl,by omega,by omega,hk,ht,by omega,h5,by rw [ht,Int.toNat_natCast]⟩
theorem oB_inv {sq : Bool} {l:List Int} {q r:Nat} {g:GR} (h:oB sq l q=some (g,r)):nT (l.drop q) 0=(r:Int)∧gT sq (l.drop q) r=g∧g.ok=true∧r<(l.drop q).length:=by
 unfold oB at h
 split at h
 case isFalse=>cases h
 case isTrue hc =>
 obtain ⟨t,ht,g3⟩:=nT_nat hc.1;rw [ht,Int.toNat_natCast] at h hc
 cases h;exact ⟨ht,rfl,hc.2,g3⟩
theorem oB_eq {sq : Bool} {l:List Int} {q r:Nat} {g:GR} (h1:nT (l.drop q) 0=(r:Int)) (h2:gT sq (l.drop q) r=g) (h3:g.ok=true):oB sq l q=some (g,r):=by
 unfold oB;rw [h1,Int.toNat_natCast,h2,if_pos ⟨by omega,h3⟩]
theorem oM_inv {sq : Bool} {un:List Int→Option (Option (List Int))} {l:List Int} {n p:Nat} {cs:List OC} (h:oM sq un l (n+1) p=some cs) :
 ∃ (k:List Int) (q r u:Nat) (g:GR),oA un l p=some (k,q)∧oB sq l q=some (g,r)∧nT (l.drop (q+g.en)) 0=(u:Int)∧q+g.en+u<l.length ∧
  ((l.getD (q+g.en+u) 0=125∧cs=[ocOf g q r k])∨(l.getD (q+g.en+u) 0=44∧∃ (v:Nat) (tl:List OC),nT (l.drop (q+g.en+u+1)) 0=(v:Int)∧q+g.en+u+1+v<l.length∧oM sq un l n (q+g.en+u+1+v)=some tl∧cs=ocOf g q r k :: tl)):=by
 rw [oM] at h
 obtain ⟨⟨k,q⟩,hA,h⟩:=Option.bind_eq_some_iff.mp h;obtain ⟨⟨g,r⟩,hB,h⟩:=Option.bind_eq_some_iff.mp h;simp only at h
 split at h
 case isTrue=>cases h
 rename_i hn;obtain ⟨u,hu,hul⟩:=nT_nat (l:=l.drop (q+g.en)) (by omega);rw [hu,Int.toNat_natCast] at h
 rw [List.length_drop] at hul;refine ⟨k,q,r,u,g,hA,hB,hu,by omega,?_⟩;split at h
 ·rename_i h6;cases h;exact .inl ⟨h6,rfl⟩
 split at h
 case isFalse=>cases h
 rename_i h6 h7;split at h
 case isTrue=>cases h
 rename_i hn2;obtain ⟨v,hv,hvl⟩:=nT_nat (l:=l.drop (q+g.en+u+1)) (by omega);rw [hv,Int.toNat_natCast] at h
 rw [List.length_drop] at hvl;obtain ⟨tl,ht,e⟩:=Option.map_eq_some_iff.mp h;exact .inr ⟨h7,v,tl,hv,by omega,ht,e.symm⟩
theorem oM_last {sq : Bool} {un:List Int→Option (Option (List Int))} {l k:List Int} {n p q r u:Nat} {g:GR} (h1:oA un l p=some (k,q)) (h2:oB sq l q=some (g,r)) (h3:nT (l.drop (q+g.en)) 0=(u:Int)) (h4:l.getD (q+g.en+u) 0=125):oM sq un l (n+1) p=some [ocOf g q r k]:=by
 rw [oM,h1,Option.bind_some,h2,Option.bind_some];simp only;rw [h3,if_neg (by omega),Int.toNat_natCast,if_pos h4]
theorem oM_more {sq : Bool} {un:List Int→Option (Option (List Int))} {l k:List Int} {n p q r u v:Nat} {g:GR} {tl:List OC} (h1:oA un l p=some (k,q)) (h2:oB sq l q=some (g,r)) (h3:nT (l.drop (q+g.en)) 0=(u:Int)) (h4:l.getD (q+g.en+u) 0=44)
 (h5:nT (l.drop (q+g.en+u+1)) 0=(v:Int)) (h6:oM sq un l n (q+g.en+u+1+v)=some tl):oM sq un l (n+1) p=some (ocOf g q r k :: tl):=by
 rw [oM,h1,Option.bind_some,h2,Option.bind_some];simp only;rw [h3,if_neg (by omega),Int.toNat_natCast,if_neg (by rw [h4];decide),if_pos h4,h5,if_neg (by omega),Int.toNat_natCast,h6];rfl
theorem oE_eq {sq : Bool} {un:List Int→Option (Option (List Int))} {l:List Int} {R r s:Nat} (h1:nT (l.drop R) 0=(r:Int)) (h2:l.getD (R+r) 0=123) (h3:nT (l.drop (R+r+1)) 0=(s:Int)) :
 oE sq un l R=if l.getD (R+r+1+s) 0=125 then some [] else oM sq un l l.length (R+r+1+s):=by
 unfold oE;rw [h1,Int.toNat_natCast,h3,Int.toNat_natCast,if_pos ⟨by omega,h2,by omega⟩]
theorem oE_inv {sq : Bool} {un:List Int→Option (Option (List Int))} {l:List Int} {R:Nat} {cs:List OC} (h:oE sq un l R=some cs) :
 ∃ r s:Nat,nT (l.drop R) 0=(r:Int)∧R+r<l.length∧l.getD (R+r) 0=123∧nT (l.drop (R+r+1)) 0=(s:Int)∧R+r+1+s<l.length∧((l.getD (R+r+1+s) 0=125∧cs=[])∨(l.getD (R+r+1+s) 0≠125∧oM sq un l l.length (R+r+1+s)=some cs)):=by
 have h0:=h;unfold oE at h
 split at h
 case isFalse=>cases h
 case isTrue hc =>
 obtain ⟨r,hr,hrl⟩:=nT_nat hc.1;rw [hr,Int.toNat_natCast] at hc;obtain ⟨s,hs,hsl⟩:=nT_nat hc.2.2;rw [oE_eq hr hc.2.1 hs] at h0;rw [List.length_drop] at hrl hsl;refine ⟨r,s,hr,by omega,hc.2.1,hs,by omega,?_⟩;split at h0
 ·rename_i h4;cases h0;exact .inl ⟨h4,rfl⟩
 ·rename_i h4;exact .inr ⟨h4,h0⟩
theorem tl_ne {a b : ByteArray} (h:¬ a=b):(a.toList == b.toList)=false:=beq_eq_false_iff_ne.mpr fun e=>h (by
 rw [Lib.toList_data,Lib.toList_data] at e;cases a with|mk x=>cases b with|mk y=>exact congrArg ByteArray.mk (Array.toList_inj.mp e))
set_option maxHeartbeats 8000000 in
set_option maxRecDepth 100000 in
theorem eq_calls (x n c:Nat) (A:Option Addr) (v:List Int) (s:ByteArray) (w:World) (hx:w.cell? ⟨x,0,none⟩=some (.slice A n c)) (hC:Kd.C (Kd.int .u8) w A n v) (hn:v.length=n) :
 Calls Tryd.prog 76 #[.pointer (some ⟨x,0,none⟩), .string s] w fun e w'=>e = .returned (.bool (decide (strOfNums v=s)))∧w'=w:=by
 subst hn;have hcv:=Kd.C_string (P:=Tryd.prog) (c:=c) Tryd.underlying55 Tryd.underlying5 Tryd.underlying9 hC;by_cases he:strOfNums v=s
 ·have e2:decide (strOfNums v=s)=true:=decide_eq_true he;clear hC;rw [e2];subst he;clear e2;go_enter Tryd.func76,Tryd.ntmps76;go_wp2;go_ret;exact ⟨rfl,rfl⟩
 have e2:decide (strOfNums v=s)=false:=decide_eq_false he;clear hC;rw [e2];have HE:=mk0 he;go_enter Tryd.func76,Tryd.ntmps76;go_wp2;go_ret;refine ⟨?_,rfl⟩
 show Ending.returned (.bool ((strOfNums v).toList == s.toList))=_
 rw [tl_ne HE.out]
theorem atoi_c (s : ByteArray) (n:Int) (hl:s.size≤18) (h:Lib.atoi s.data.toList=some n) (w:World) :
 Calls Tryd.prog 78 #[.string s] w fun e w'=>e = .returned (.tuple #[.int .i64 n, .nilIface])∧Below w.heap.size w w':=by
 refine (Tryd.strconv_Atoi s n hl h w).mono ?_;rintro e w' ⟨he,t,rfl⟩;exact ⟨he,bytes_below (Below.refl _ w) (Nat.le_refl _) _ t⟩
def skp : List Int→Nat→Nat
  | [],i=>i
  | c :: t,i=>if c≤32 then skp t (i+1) else if 92<c∧c≠123∧c≠125 then skp t (i+1) else i
theorem skp_range : ∀ (l:List Int) (i:Nat),i≤skp l i∧skp l i≤i+l.length
 | [],i=>by simp [skp]
 | c :: t,i=>by
  have:=skp_range t (i+1);rw [skp];simp only [List.length_cons];split
  ·omega
  split<;>omega
def kIdx (s : ByteArray):Option Int :=
  if 3≤s.size∧s.size≤20∧(bytesOf s).getD (s.size - 1) 0=93 then Lib.atoi (s.extract 1 (s.size - 1)).data.toList else none
def isIx (s : ByteArray):Bool:=decide (0<s.size∧(bytesOf s).getD 0 0=91)
def pick (x : AC):Nat × Nat:=if x.kd=1 then ((x.off - 2).toNat,x.vn+2) else (x.off.toNat,x.vn)
inductive SR where
  | done (r:Int)
  | go (kl lv:Int) (i:Nat) (lm:Bool)
  | sub (m:Nat)
def sKey (ks : List ByteArray) (kl lv:Int) (i3:Nat):Option (List Int)→Option SR
  | none=>some (.done (-1))
  | some v =>
    if lv≤(ks.length:Int) then
      (if strOfNums v=ks.getD (lv.toNat - 1) default then
        (if kl=lv - 1 then (if kl+1=(ks.length:Int) then some (.done ((i3+1:Nat):Int)) else some (.go (kl+1) lv (i3+1) true))
        else some (.go kl lv (i3+1) true))
      else some (.go kl lv (i3+1) false))
    else some (.done (-1))
def sStr (un : List Int→Option (Option (List Int))) (ks:List ByteArray) (l:List Int) (kl lv:Int) (i:Nat) (lm:Bool) (se:Int × Bool):Option SR :=
  if se.1<0 then some (.done (-1))
  else if nT (l.drop (i+1+se.1.toNat)) 0<0 then some (.done (-1))
  else if l.getD (i+1+se.1.toNat+(nT (l.drop (i+1+se.1.toNat)) 0).toNat) 0=58 then
    (if lv<1 then some (.done (-1))
    else (if se.2=false then some (some ((l.drop (i+1)).take (se.1.toNat - 1))) else un ((l.drop (i+1)).take (se.1.toNat - 1))).bind (sKey ks kl lv (i+1+se.1.toNat+(nT (l.drop (i+1+se.1.toNat)) 0).toNat)))
  else some (.go kl lv (i+1+se.1.toNat+(nT (l.drop (i+1+se.1.toNat)) 0).toNat) lm)
def sArr (sq : Bool) (ks:List ByteArray) (l:List Int) (kl lv:Int) (i:Nat) (lm:Bool):Option SR :=
  if kl=lv∧lv<0 then none
  else if kl=lv∧isIx (ks.getD lv.toNat default)=true then
    (kIdx (ks.getD lv.toNat default)).bind fun ai=>(aE sq (l.drop i)).bind fun cs =>
      if 0≤ai∧ai<(cs.1.length:Int) then some (.sub ai.toNat) else some (.done (-1))
  else if bE sq 91 93 (l.drop i) 0 0<0 then some (.done (-1)) else some (.go kl lv (i+(bE sq 91 93 (l.drop i) 0 0).toNat) lm)
def sStep (sq : Bool) (un:List Int→Option (Option (List Int))) (ks:List ByteArray) (l:List Int) (kl lv:Int) (i:Nat) (lm:Bool):Option SR :=
  if l.getD i 0=34∨(l.getD i 0=39∧sq=true) then sStr un ks l kl lv i lm (strE (l.getD i 0) (l.drop (i+1)) 0 false false)
  else if l.getD i 0=39 then some (.go kl lv (i+1) lm)
  else if l.getD i 0=123 then
    (if lm=false then (if bE sq 123 125 (l.drop i) 0 0<0 then some (.done (-1)) else some (.go kl lv (i+(bE sq 123 125 (l.drop i) 0 0).toNat) lm))
    else some (.go kl (lv+1) (i+1) lm))
  else if l.getD i 0=125 then some (.go (if lv - 1=kl then kl - 1 else kl) (lv - 1) (i+1) lm)
  else if l.getD i 0=91 then sArr sq ks l kl lv i lm
  else if l.getD i 0=58 then some (.done (-1))
  else some (.go kl lv (i+1) lm)
def sKl (sq : Bool) (un:List Int→Option (Option (List Int))):Nat→List ByteArray→List Int→Int→Int→Nat→Bool→Option Int
  | 0,_,_,_,_,_,_=>none
  | n+1,ks,l,kl,lv,i,lm =>
    if l.length≤skp (l.drop i) i then some (-1)
    else (sStep sq un ks l kl lv (skp (l.drop i) i) lm).bind fun r=>match r with
      | .done r=>some r
      | .go kl' lv' i' lm'=>sKl sq un n ks l kl' lv' i' lm'
      | .sub m=>(aE sq (l.drop (skp (l.drop i) i))).bind fun cs=>(cs.1[m]?).bind fun x =>
          (if ks.drop (lv.toNat+1)=[] then some 0 else sKl sq un n (ks.drop (lv.toNat+1)) ((l.drop (skp (l.drop i) i+(pick x).1)).take (pick x).2) 0 0 0 true).bind fun r =>
            if r<0 then some (-1) else some (((skp (l.drop i) i+(pick x).1:Nat):Int)+r)
def sK (sq : Bool) (un:List Int→Option (Option (List Int))) (n:Nat) (ks:List ByteArray) (l:List Int):Option Int:=if ks=[] then some 0 else sKl sq un n ks l 0 0 0 true
structure KY (w : World) (b o:Nat) (ks:List ByteArray):Prop where
  cell:∀ i,i<ks.length→w.cell? ⟨b,o+i,none⟩=some (.string (ks.getD i default))
  lt:b<w.heap.size
  len:ks.length≤2147483647
  sz:∀ s ∈ ks,s.size≤2147483647
theorem KY.below {w0 W : World} {b o:Nat} {ks:List ByteArray} (h:KY w0 b o ks) (hb:Below w0.heap.size w0 W):KY W b o ks :=
 ⟨fun i hi=>(j2g hb h.lt).trans (h.cell i hi),Nat.lt_of_lt_of_le h.lt hb.size,h.len,h.sz⟩
theorem KY.drop {w : World} {b o:Nat} {ks:List ByteArray} (h:KY w b o ks) (m:Nat) (hm:m≤ks.length):KY w b (o+m) (ks.drop m) :=
 ⟨fun i hi=>by
  rw [List.length_drop] at hi;have:=h.cell (m+i) (by omega);rw [show o+m+i=o+(m+i) by omega,this];simp [List.getD_eq_getElem?_getD],h.lt,by have:=h.len;rw [List.length_drop];omega,fun s hs=>h.sz s (List.mem_of_mem_drop hs)⟩
theorem KY.nil {w : World} {b:Nat} (h:b<w.heap.size) (o:Nat):KY w b o []:=⟨fun i hi=>(by simp at hi),h,by simp,fun s hs=>(by simp at hs)⟩
theorem infoS_ : (Tryd.prog.info? 9).map (fun i=>(i.zero,i.size,i.bytes))=some (some (.string ByteArray.empty),1,16):=by kernel_rfl
theorem slk_l (A : Option Addr) (n c m:Nat) (hm:m≤n):∀ W:World,(Instr.slice 22 (.slice A n c) (some (.int .i64 (m:Int))) none none).run Tryd.prog W = .ok (.slice (if c=m then A else A.map (·.add m)) (n - m) (c - m)) W:=fun W=>by
 obtain ⟨i0,hi,hzz⟩:=Option.map_eq_some_iff.1 infoS_;simp only [Prod.mk.injEq] at hzz;have hel:(Tryd.prog).elem 22=9:=by simp [Program.elem,Tryd.underlying22]
 have hu:(Tryd.prog).underlying 22=some (.slice ((Tryd.prog).elem 22)):=by rw [hel];exact Tryd.underlying22
 rw [run_slice_l W 22 A n c hu .i64 (m:Int) (Int.natCast_nonneg _) (by omega),hel];simp [sizeOf,typeInfo,hi,hzz.2.1,sliced,Result.andThen]
theorem cut_keys {w0 : World} {b o:Nat} {ks:List ByteArray} (h:KY w0 b o ks) (c m:Nat) (hm:m≤ks.length) (hc:ks.length≤c) :
 ∃ o1,(∀ W:World,(Instr.slice 22 (.slice (some ⟨b,o,none⟩) ks.length c) (some (.int .i64 (m:Int))) none none).run Tryd.prog W = .ok (.slice (some ⟨b,o1,none⟩) (ks.length - m) (c - m)) W)∧KY w0 b o1 (ks.drop m)∧ks.length - m≤c - m:=by
 refine ⟨if c=m then o else o+m,fun W=>?_,?_,by omega⟩
 ·rw [slk_l _ _ _ _ hm W];by_cases hcm:c=m
  ·rw [if_pos hcm,if_pos hcm]
  rw [if_neg hcm,if_neg hcm];simp only [Option.map_some,add_at]
 ·by_cases hcm:c=m
  rotate_left
  ·rw [if_neg hcm];exact h.drop m hm
  rw [if_pos hcm,List.drop_of_length_le (by omega)];exact KY.nil h.lt o
theorem keep_cell {v W : World} {G:Nat} (h:KeepBut v W G none) {a:Addr} {x:Value} (hg:a.block≠G) (hc:v.cell? a=some x):W.cell? a=some x:=by
 rw [← hc];unfold World.cell?;rw [h.2 a.block (World.block_lt_of_cell? _ _ hc) hg (by simp)]
theorem BF.carry {v w0 W W':World} {G ty:Nat} {L:List Int} (h:BF v w0 W G ty L) (hb:Below W.heap.size W W'):BF v w0 W' G ty L :=
 ⟨(hb.block _ (j3p h.blk)).trans h.blk,h.at_,j1o h.below hb,keep_tr h.keep ⟨hb.size,fun i hi _ _=>hb.block i hi⟩⟩
theorem aEl_len {sq : Bool} {l:List Int}:∀ (n p E:Nat) (cs:List AC),aEl sq l n p=some (cs,E)→cs.length≤n
 | 0,_,_,_,h=>by simp [aEl] at h
 | n+1,p,E,cs,h=>by
  obtain ⟨r,q,g,_,_,_,_,_,⟨_,rfl,_⟩|⟨_,t,ht,rfl⟩⟩:=aEl_inv h
  ·simp
  ·have:=aEl_len n _ _ _ ht;simp only [List.length_cons];omega
def ACok (l : List Int) (x:AC):Prop:=(x.kd=1→x.off=((x.vo+1:Nat):Int)∧1≤x.vo∧x.vo+x.vn+1≤l.length)∧(x.kd≠1→x.off=(x.vo:Int)∧x.vo+x.vn≤l.length)
theorem acOf_ok {sq : Bool} {l:List Int} {p r:Nat} {g:GR} (hr:nT (l.drop p) 0=(r:Int)) (hg:gT sq (l.drop p) r=g) (hok:g.ok=true) (hp:p<l.length):ACok l (acOf g p r):=by
 have hrb:r<(l.drop p).length:=by
  rcases j4d (l.drop p) 0 with h|⟨j,h,_,h5⟩<;>omega
 have hgr:=gT_range (sq:=sq) hrb;have hgs:=fun h1 h2=>gT_str (sq:=sq) (l:=l.drop p) (off:=r) h1 h2
 rw [hg] at hgr hgs;rw [List.length_drop] at hgr hrb;refine ⟨fun h=>?_,fun h=>?_⟩
 ·have h1:g.kd=1:=h;have h2:=hgs h1 hok;unfold acOf vB vN;simp only [if_pos h1];omega
 ·have h1:¬ g.kd=1:=h;unfold acOf vB vN;simp only [if_neg h1];omega
theorem aEl_ok {sq : Bool} {l:List Int}:∀ (n p E:Nat) (cs:List AC),aEl sq l n p=some (cs,E)→∀ x ∈ cs,ACok l x
 | 0,_,_,_,h=>by simp [aEl] at h
 | n+1,p,E,cs,h=>by
  have hp:=aEl_lt h;obtain ⟨r,q,g,h1,h2,h3,_,_,⟨_,rfl,_⟩|⟨_,t,ht,rfl⟩⟩:=aEl_inv h
  ·intro x hx;rw [List.mem_singleton.mp hx];exact acOf_ok h1 h2 h3 hp
  ·intro x hx;rcases List.mem_cons.mp hx with rfl|hx
   ·exact acOf_ok h1 h2 h3 hp
   ·exact aEl_ok n _ _ _ ht x hx
theorem aE_ok {sq : Bool} {l:List Int} {cs:List AC} {E:Nat} (h:aE sq l=some (cs,E)):cs.length≤l.length∧∀ x ∈ cs,ACok l x:=by
 obtain ⟨r,s,_,_,_,⟨_,h2⟩|⟨_,h2⟩⟩:=aE_inv h
 ·cases h2;exact ⟨Nat.zero_le _,fun x hx=>by simp at hx⟩
 ·exact ⟨aEl_len _ _ _ _ h2,aEl_ok _ _ _ _ h2⟩
def FV (w : World) (b:Nat) (l:List Int) (j:Nat) (x:AC) (v:Value) (vo:Int):Prop :=
  ∃ o' c',v = .slice (some ⟨b,o',none⟩) (pick x).2 c'∧IN w b o' ((l.drop (j+(pick x).1)).take (pick x).2)∧(pick x).2≤c'∧c'≤9223372036854775807∧vo=((pick x).1:Int)
def CI (w w1 : World) (b:Nat) (l:List Int) (j:Nat) (pC pA pV pO pD pI:Nat) (ai:Int) (dv:Value) (cs r:List AC) (W:World):Prop :=
  ∃ (cur:Nat) (v:Value) (vo:Int),CS w1 W pC pA pV pO pD pI cur ai v vo dv j∧cur+r.length=cs.length∧r=cs.drop cur ∧
    ((0≤ai∧ai<cur)→∃ x,cs[ai.toNat]? = some x∧FV w b l j x v vo)∧(¬ (0≤ai∧ai<cur)→v = .slice none 0 0∧vo=0)
theorem CI.cb {w w1 : World} {b o c:Nat} {l:List Int} {j pC pA pV pO pI pD:Nat} {ai:Int} {sq:Bool} {cs:List AC} {E:Nat} (hI:IN w b o l) (hc:l.length≤c) (hcm:c≤9223372036854775807) (hj:j<l.length) (hE:aE sq (l.drop j)=some (cs,E))
 (x:AC) (r:List AC) (W:World) (o1:Nat) (h:CI w w1 b l j pC pA pV pO pD pI ai (.slice (some ⟨b,o,none⟩) l.length c) cs (x :: r) W) (hI1:IN w b o1 (((l.drop j).drop x.vo).take x.vn)) :
 Calls Tryd.prog 80 #[.slice (some ⟨b,o1,none⟩) x.vn x.vn, .int .i64 x.kd, .int .i64 x.off, .nilIface, .pointer (some ⟨pC,0,none⟩), .pointer (some ⟨pA,0,none⟩), .pointer (some ⟨pV,0,none⟩), .pointer (some ⟨pO,0,none⟩), .pointer (some ⟨pD,0,none⟩), .pointer (some ⟨pI,0,none⟩)] W
  fun e W'=>e = .returned (.tuple #[])∧CI w w1 b l j pC pA pV pO pD pI ai (.slice (some ⟨b,o,none⟩) l.length c) cs r W'∧KS (S3 pC pV pO) W W':=by
 obtain ⟨cur,v,vo,hCS,hlen,hr,hyes,hno⟩:=h;obtain ⟨hcl,hok⟩:=aE_ok hE;rw [List.length_drop] at hcl;have hlm:=hI.max;have hcur:cur<cs.length:=by simp only [List.length_cons] at hlen;omega
 have hx:cs[cur]? = some x:=by
  have:=congrArg (fun t:List AC=>t[0]?) hr
  simpa using this.symm
 have hr2:r=cs.drop (cur+1):=by
  have:=congrArg List.tail hr
  simpa [List.tail_drop] using this
 have hxm:x ∈ cs:=List.mem_of_getElem? hx;have hxo:=hok x hxm;have hlen2:cur+1+r.length=cs.length:=by simp only [List.length_cons] at hlen;omega
 by_cases hce:(cur:Int)=ai
 rotate_left
 ·refine (cl_miss w1 W pC pA pV pO pD pI cur ai vo j x.kd x.off v _ _ .nilIface hCS hce (by omega)).mono ?_;rintro e W' ⟨he,hC',hK'⟩;exact ⟨he,⟨cur+1,v,vo,(by exact_mod_cast hC'),hlen2,hr2,fun hh=>hyes ⟨hh.1,by omega⟩,fun hn=>hno (fun hh=>hn ⟨hh.1,by omega⟩)⟩,hK'⟩
 subst hce;by_cases hkd:x.kd=1
 rotate_left
 ·obtain ⟨h1,h2⟩:=hxo.2 hkd;rw [List.length_drop] at h2;refine (cl_hit w1 W pC pA pV pO pD pI cur vo j x.kd x.off v _ .nilIface (some ⟨b,o1,none⟩) x.vn x.vn hCS hkd (by omega)).mono ?_;rintro e W' ⟨he,hC',hK'⟩
  have hp:pick x=(x.vo,x.vn):=by
   unfold pick;rw [if_neg hkd,h1];simp
  refine ⟨he,⟨cur+1,_,_,(by exact_mod_cast hC'),hlen2,hr2,fun _=>⟨x,(by simpa using hx),o1,_,(by rw [hp]),(by rw [hp,← List.drop_drop];exact hI1),(by rw [hp];exact Nat.le_refl _),by omega,by rw [hp];exact h1⟩,fun hn=>absurd ⟨by omega,by omega⟩ hn⟩,hK'⟩
 obtain ⟨h1,h2,h3⟩:=hxo.1 hkd;rw [List.length_drop] at h3;obtain ⟨o2,hcut,hI2,hcc⟩:=cut_mid hI c (j+(x.vo - 1)) (j+(x.vo - 1)+x.vn+2) (by omega) (by omega) hc;rw [show j+(x.vo - 1)+x.vn+2 - (j+(x.vo - 1))=x.vn+2 by omega] at hcut hI2 hcc
 have hcs:=cl_str w1 W pC pA pV pO pD pI cur vo x.off j v .nilIface (some ⟨b,o1,none⟩) x.vn x.vn (some ⟨b,o,none⟩) l.length c (some ⟨b,o2,none⟩) (x.vn+2) (c - (j+(x.vo - 1))) hCS (by omega) (by omega) (by omega) (by omega) (fun W'=>by
  have e1:(j:Int)+(x.off - 2)=((j+(x.vo - 1):Nat):Int):=by omega
  have e2:((j+(x.vo - 1):Nat):Int)+(x.vn:Int)+2=((j+(x.vo - 1)+x.vn+2:Nat):Int):=by omega
  rw [e1,e2];exact hcut W')
 rw [hkd];refine hcs.mono ?_;rintro e W' ⟨he,hC',hK'⟩
 have hp:pick x=(x.vo - 1,x.vn+2):=by
  unfold pick;rw [if_pos hkd,h1]
  congr 1
  omega
 refine ⟨he,⟨cur+1,_,_,(by exact_mod_cast hC'),hlen2,hr2,fun _=>⟨x,(by simpa using hx),o2,_,(by rw [hp]),(by rw [hp];exact hI2),(by rw [hp];exact hcc),by omega,by rw [hp];simp only;omega⟩,fun hn=>absurd ⟨by omega,by omega⟩ hn⟩,hK'⟩
theorem get_bytes (s : ByteArray) (i:Nat) (h:i<s.size):(bytesOf s).getD i 0=((s[i]'h).toNat:Int):=by
 have h2:i<s.data.size:=h;have:s[i]'h=s.data[i]'h2:=rfl;rw [this];simp [bytesOf,List.getD_eq_getElem?_getD];rw [Array.getElem?_eq_getElem h2];rfl
theorem sKey_range {ks : List ByteArray} {kl lv:Int} {i3:Nat} {u:Option (List Int)} {x:SR} (h:sKey ks kl lv i3 u=some x):(∃ r,x = .done r∧(r = -1∨r=((i3+1:Nat):Int)))∨∃ kl' lv' lm',x = .go kl' lv' (i3+1) lm':=by
 cases u with
 | none=>cases h;exact .inl ⟨_,rfl, .inl rfl⟩
 | some v =>
  rw [sKey] at h
  split at h
  ·split at h
   ·split at h
    ·split at h
     ·cases h;exact .inl ⟨_,rfl, .inr rfl⟩
     ·cases h;exact .inr ⟨_,_,_,rfl⟩
    ·cases h;exact .inr ⟨_,_,_,rfl⟩
   ·cases h;exact .inr ⟨_,_,_,rfl⟩
  ·exact zl33
theorem sStep_range {sq : Bool} {un:List Int→Option (Option (List Int))} {ks:List ByteArray} {l:List Int} {kl lv:Int} {i:Nat} {lm:Bool} {x:SR} (hi:i<l.length) (h:sStep sq un ks l kl lv i lm=some x) :
 (∃ r,x = .done r∧(r = -1∨∃ m:Nat,r=(m:Int)∧m≤l.length))∨(∃ kl' lv' i' lm',x = .go kl' lv' i' lm'∧i'≤l.length)∨∃ m,x = .sub m:=by
 have blk:∀ op cl,(if bE sq op cl (l.drop i) 0 0<0 then some (SR.done (-1)) else some (.go kl lv (i+(bE sq op cl (l.drop i) 0 0).toNat) lm))=some x→(∃ r,x = .done r∧(r = -1∨∃ m:Nat,r=(m:Int)∧m≤l.length))∨(∃ kl' lv' i' lm',x = .go kl' lv' i' lm'∧i'≤l.length)∨∃ m,x = .sub m:=fun op cl h=>by
  split at h
  ·exact zl33
  ·rename_i hn;rcases bE_range sq op cl _ (l.drop i) 0 0 (Nat.le_refl _) with h6|⟨m,h6,h7,h8⟩
   ·rw [h6] at hn;exact absurd zq50 hn
   ·rw [h6,Int.toNat_natCast] at h
    rw [List.length_drop] at h8;cases h;exact .inr (.inl ⟨_,_,_,_,rfl,by omega⟩)
 rw [sStep] at h
 split at h
 ·rw [sStr] at h
  rcases j4j (l.getD i 0) (l.drop (i+1)) 0 false false with h6|⟨m,h6,h7,h8⟩
  ·rw [h6,if_pos zq50] at h
   cases h;exact .inl ⟨_,rfl, .inl rfl⟩
  rw [List.length_drop] at h8;rw [h6,if_neg (by omega),Int.toNat_natCast] at h
  rcases j4d (l.drop (i+1+m)) 0 with g6|⟨t,g6,g7,g8⟩
  ·rw [g6,if_pos zq50] at h
   cases h;exact .inl ⟨_,rfl, .inl rfl⟩
  rw [List.length_drop] at g8;rw [g6,if_neg (by omega),Int.toNat_natCast] at h
  split at h
  ·split at h
   ·exact zl33
   ·obtain ⟨u,_,h⟩:=Option.bind_eq_some_iff.mp h;rcases sKey_range h with ⟨r,rfl,rfl|rfl⟩|⟨_,_,_,rfl⟩
    ·exact .inl ⟨_,rfl, .inl rfl⟩
    ·exact .inl ⟨_,rfl, .inr ⟨_,rfl,by omega⟩⟩
    ·exact .inr (.inl ⟨_,_,_,_,rfl,by omega⟩)
  ·exact zl29
 split at h
 ·exact zl29
 split at h
 ·split at h
  ·exact blk _ _ h
  ·exact zl29
 split at h
 ·exact zl29
 split at h
 ·rw [sArr] at h
  split at h
  ·cases h
  split at h
  ·obtain ⟨ai,_,h⟩:=Option.bind_eq_some_iff.mp h;obtain ⟨cs,_,h⟩:=Option.bind_eq_some_iff.mp h;split at h
   ·cases h;exact .inr (.inr ⟨_,rfl⟩)
   ·exact zl33
  ·exact blk _ _ h
 split at h
 ·exact zl33
 ·exact zl29
theorem pick_ok {l : List Int} {x:AC} (h:ACok l x):(pick x).1+(pick x).2≤l.length:=by
 unfold pick;by_cases hk:x.kd=1
 rotate_left
 ·obtain ⟨h1,h2⟩:=h.2 hk;rw [if_neg hk];simp only;omega
 obtain ⟨h1,h2,h3⟩:=h.1 hk;rw [if_pos hk];simp only;omega
theorem sKl_range {sq : Bool} {un:List Int→Option (Option (List Int))}:∀ (n:Nat) (ks:List ByteArray) (l:List Int) (kl lv:Int) (i:Nat) (lm:Bool) (R:Int),i≤l.length→sKl sq un n ks l kl lv i lm=some R→R = -1∨∃ m:Nat,R=(m:Int)∧m≤l.length
 | 0,_,_,_,_,_,_,_,_,h=>by simp [sKl] at h
 | n+1,ks,l,kl,lv,i,lm,R,hi,h=>by
  rw [sKl] at h
  split at h
  ·cases h;exact .inl rfl
  rename_i hl;obtain ⟨x,hx,h⟩:=Option.bind_eq_some_iff.mp h;rcases sStep_range (by omega) hx with ⟨r,rfl,hr⟩|⟨kl',lv',i',lm',rfl,hi'⟩|⟨m,rfl⟩
  ·have:r=R:=Option.some.inj h;exact this ▸ hr
  ·exact sKl_range n _ _ _ _ _ _ _ hi' h
  ·obtain ⟨cs,hc,h⟩:=Option.bind_eq_some_iff.mp h;obtain ⟨y,hy,h⟩:=Option.bind_eq_some_iff.mp h;obtain ⟨r,hr,h⟩:=Option.bind_eq_some_iff.mp h;have hok:=pick_ok ((aE_ok (cs:=cs.1) (E:=cs.2) hc).2 y (List.mem_of_getElem? hy));rw [List.length_drop] at hok;have hsk:=skp_range (l.drop i) i
   have hr2:r = -1∨∃ m:Nat,r=(m:Int)∧m≤(pick y).2:=by
    split at hr
    ·cases hr;exact .inr ⟨0,rfl,Nat.zero_le _⟩
    ·have:=sKl_range n _ _ _ _ _ _ _ (Nat.zero_le _) hr;rw [List.length_take] at this;rcases this with h|⟨m,h1,h2⟩
     ·exact .inl h
     ·exact .inr ⟨m,h1,by omega⟩
   split at h
   ·cases h;exact .inl rfl
   ·rename_i hn;have h:=Option.some.inj h;rcases hr2 with h2|⟨m,h2,h3⟩
    ·omega
    ·exact .inr ⟨_,(by rw [← h,h2];exact (Int.natCast_add _ _).symm),by omega⟩
theorem sK_range {sq : Bool} {un:List Int→Option (Option (List Int))} {n:Nat} {ks:List ByteArray} {l:List Int} {R:Int} (h:sK sq un n ks l=some R):R = -1∨∃ m:Nat,R=(m:Int)∧m≤l.length:=by
 rw [sK] at h
 split at h
 ·cases h;exact .inr ⟨0,rfl,Nat.zero_le _⟩
 ·exact sKl_range _ _ _ _ _ _ _ _ (Nat.zero_le _) h
theorem slc_str (s : ByteArray) (h:2≤s.size):∀ W:World,(Instr.slice 9 (.string s) (some (.int .i64 1)) (some (.int .i64 ((s.size:Int) - 1))) none).run Tryd.prog W = .ok (.string (s.extract 1 (s.size - 1))) W:=fun W=>by
 have e:=run_slice_string (P:=Tryd.prog) W 9 s .i64 .i64 1 ((s.size:Int) - 1) Tryd.underlying9 zq50 (by omega) (by omega);rw [e];have e2:((s.size:Int) - 1).toNat=s.size - 1:=by omega
 rw [e2];rfl
theorem CI.start {w w1 w3:World} {b:Nat} {l:List Int} {j pD:Nat} {ai:Int} {dv:Value} {cs:List AC} (hb:Below w1.heap.size w1 w3) (hD:w3.heap[pD]? = some (.cells #[dv] 55 (0,0))) :
 CI w w1 b l j (w3.heap.size+1) w3.heap.size (w3.heap.size+1+1) (w3.heap.size+1+1+1) pD (w3.heap.size+1+1+1+1) ai dv cs cs (((((w3.alloc (.cells #[.int .i64 ai] 3)).alloc (.cells #[.int .i64 0] 3)).alloc (.cells #[.slice none 0 0] 55)).alloc (.cells #[.int .i64 0] 3)).alloc (.cells #[.int .i64 (j:Int)] 3)):=by
 have hp:=j3p hD;have hs:=hb.size;have q:∀ (W:World) (o:Obj) (n:Nat),n=W.heap.size→(W.alloc o).heap[n]? = some o:=fun W o n e=>e ▸ j4m W o
 refine ⟨0, .slice none 0 0,0,⟨?_,?_,?_,?_,?_,?_,?_,?_⟩,by simp,by simp,fun h=>absurd h (by omega),fun _=>⟨rfl,rfl⟩⟩
 ·exact j1c (j1c (j1c (q _ _ _ (by simp)) _) _) _
 ·exact j1c (j1c (j1c (j1c (q _ _ _ rfl) _) _) _) _
 ·exact j1c (j1c (q _ _ _ (by simp)) _) _
 ·exact j1c (q _ _ _ (by simp)) _
 ·exact j1c (j1c (j1c (j1c (j1c hD _) _) _) _) _
 ·exact q _ _ _ (by simp)
 ·exact j1f (j1f (j1f (j1f (j1f hb _) _) _) _) _
 ·omega
theorem CI.carry {w w1 W W':World} {b:Nat} {l:List Int} {j pC pA pV pO pD pI:Nat} {ai:Int} {dv:Value} {cs r:List AC} (h:CI w w1 b l j pC pA pV pO pD pI ai dv cs r W) (hb:Below W.heap.size W W'):CI w w1 b l j pC pA pV pO pD pI ai dv cs r W':=by
 obtain ⟨cur,v,vo,h1,h2⟩:=h;exact ⟨cur,v,vo,h1.carry hb,h2⟩
theorem CI.below {w w1 W:World} {b:Nat} {l:List Int} {j pC pA pV pO pD pI:Nat} {ai:Int} {dv:Value} {cs r:List AC} (h:CI w w1 b l j pC pA pV pO pD pI ai dv cs r W):Below w1.heap.size w1 W:=by
 obtain ⟨cur,v,vo,h1,h2⟩:=h;exact h1.below
theorem CI.lt {w w1 W:World} {b:Nat} {l:List Int} {j pC pA pV pO pD pI:Nat} {ai:Int} {dv:Value} {cs r:List AC} (h:CI w w1 b l j pC pA pV pO pD pI ai dv cs r W):∀ i,S3 pC pV pO i→i<W.heap.size:=by
 obtain ⟨cur,v,vo,h1,h2⟩:=h;rintro i (rfl|rfl|rfl)
 ·exact lt_of_block h1.C
 ·exact lt_of_block h1.V
 ·exact lt_of_block h1.O
theorem CI.gone {w w1 W:World} {b:Nat} {l:List Int} {j pC pA pV pO pD pI:Nat} {ai:Int} {dv:Value} {cs:List AC} (h:CI w w1 b l j pC pA pV pO pD pI ai dv cs [] W) (hn:¬ (0≤ai∧ai<(cs.length:Int))):W.cell? ⟨pV,0,none⟩=some (.slice none 0 0):=by
 obtain ⟨cur,v,vo,h1,h2,_,_,h3⟩:=h;rw [List.length_nil,Nat.add_zero] at h2;obtain ⟨rfl,_⟩:=h3 (by rw [h2];exact hn);exact cell_of_one h1.V
theorem CI.found {w w1 W:World} {b:Nat} {l:List Int} {j pC pA pV pO pD pI:Nat} {ai:Int} {dv:Value} {cs:List AC} (h:CI w w1 b l j pC pA pV pO pD pI ai dv cs [] W) (hn:0≤ai∧ai<(cs.length:Int)) :
 ∃ x o' c',cs[ai.toNat]? = some x∧W.cell? ⟨pV,0,none⟩=some (.slice (some ⟨b,o',none⟩) (pick x).2 c')∧IN w b o' ((l.drop (j+(pick x).1)).take (pick x).2)∧(pick x).2≤c'∧c'≤9223372036854775807∧W.cell? ⟨pO,0,none⟩=some (.int .i64 ((pick x).1:Int)):=by
 obtain ⟨cur,v,vo,h1,h2,_,h3,_⟩:=h;rw [List.length_nil,Nat.add_zero] at h2;obtain ⟨x,hx,o',c',rfl,hI,hc,hcm,rfl⟩:=h3 (by rw [h2];exact hn);exact ⟨x,o',c',hx,cell_of_one h1.V,hI,hc,hcm,cell_of_one h1.O⟩
theorem nil_eq (a : Option Addr) (n c:Nat):∀ W:World,(binOp .eql 55 (.slice a n c) (.slice none 0 0)).run Tryd.prog W = .ok (.bool a.isNone) W:=fun W=>by
 have e:=run_equal_slice_nil (P:=Tryd.prog) W 55 5 a n c Tryd.underlying55;simp [binOp,e]
section
set_option maxHeartbeats 64000000
set_option maxRecDepth 100000
def UNc (un : List Int→Option (Option (List Int))) (a0 a1:Bool) (a2:Int):Prop:=∀ (v:List Int) (res:Option (List Int)) (b o c G ty:Nat) (L:List Int) (w0 w:World),Laid w0→Below w0.heap.size w0 w→IN w0 b o v→v.length≤c→c≤9223372036854775807→BF w w0 w G ty L→L.length=64→un v=some res →
  Calls Tryd.prog 61 #[.agg #[.bool a0, .bool a1, .int .i64 a2], .slice (some ⟨b,o,none⟩) v.length c, .slice (some ⟨G,0,none⟩) 64 64] w fun e w'=>UP2 w w0 G ty 64 res e w'
theorem unc_is (k : Nat):UNc (unc k) false false 0:=fun v res b o c G ty L w0 w hT hB hI hc hcm hF hL h=>unc2_there k v b o c w0 w res G ty L hT hB hI hc hcm hF hL h
theorem C_set {W : World} {A:Option Addr} {n:Nat} {v:List Int} {g:Nat} {ty:TypeId} {sa:Option Addr} {sn sc:Nat} {x:Value} (h:Kd.C (Kd.int .u8) W A n v) (hg:W.heap[g]? = some (.cells #[.slice sa sn sc] ty (0,0))):Kd.C (Kd.int .u8) (W.setCell ⟨g,0,none⟩ x) A n v:=by
 obtain ⟨h1,h2,h3⟩:=Kd.reads_of_C (enc:=Value.int .u8) (d:=(0:Int)) (h1:=fun _=>rfl) h;refine Kd.C_of_reads (enc:=Value.int .u8) (d:=(0:Int)) (h1:=fun _=>rfl) ⟨h1,h2,fun hp=>?_⟩;obtain ⟨ad,e,hc⟩:=h3 hp;refine ⟨ad,e,fun j hj=>?_⟩;have hcj:=hc j hj
 have hne:(ad.add j).block≠g:=by
  intro hb
  generalize ad.add j=q at hcj hb
  obtain ⟨qb,qo,qp⟩:=q;simp only at hb;subst hb;unfold World.cell? at hcj;rw [hg] at hcj;cases qo with
  | zero=>simp at hcj
  | succ k=>simp at hcj
 rw [← hcj];unfold World.cell?;rw [Below.heap_setCell _ _ _ _ hne]
theorem sk_nil (a0 a1 : Bool) (a2:Int) (dv:Value) (da:Option Addr) (dn dc:Nat) (KA:Option Addr) (kc:Nat) (w:World) :
 Calls Tryd.prog 58 #[.agg #[.bool a0, .bool a1, .int .i64 a2], .slice da dn dc, .slice KA 0 kc] w fun e w'=>e = .returned (.int .i64 0)∧Below w.heap.size w w':=by
 have hcd:(w.alloc (.cells #[.bool a0, .bool a1, .int .i64 a2] 93) |>.alloc (.cells #[.slice da dn dc] 55)).cell? ⟨w.heap.size+1,0,none⟩=some (.slice da dn dc):=by rw [World.cell?_alloc_at _ _ _ _ (by simp)];rfl
 go_enter Tryd.func58,Tryd.ntmps58;go_wp2;go_ret;exact ⟨rfl,j1f (j1f (Below.refl _ _) _) _⟩
theorem sk_calls (un : List Int→Option (Option (List Int))) (a0 a1:Bool) (a2:Int) (hun:UNc un a0 a1 a2) (hsq:a0=false):∀ (mx:Nat) (n:Nat) (ks:List ByteArray) (l:List Int) (b o c kb ko kc:Nat) (w:World) (R:Int),ks.length≤mx→Laid w→IN w b o l→l.length≤c→c≤9223372036854775807→KY w kb ko ks→ks.length≤kc→sK a0 un n ks l=some R →
 Calls Tryd.prog 58 #[.agg #[.bool a0, .bool a1, .int .i64 a2], .slice (some ⟨b,o,none⟩) l.length c, .slice (some ⟨kb,ko,none⟩) ks.length kc] w fun e w'=>e = .returned (.int .i64 R)∧Below w.heap.size w w':=by
 intro mx
 induction mx with
 | zero =>
  intro n ks l b o c kb ko kc w R hm _ _ _ _ _ _ hR;obtain rfl:ks=[]:=List.length_eq_zero_iff.mp (by omega);rw [sK,if_pos rfl] at hR;cases hR;exact sk_nil a0 a1 a2 (.slice none 0 0) _ _ _ _ kc w
 | succ mx ih =>
 intro n ks l b o c kb ko kc w R hm hT hI hc hcm hK hkc hR;by_cases hk0:ks=[]
 ·subst hk0;rw [sK,if_pos rfl] at hR;cases hR;exact sk_nil a0 a1 a2 (.slice none 0 0) _ _ _ _ kc w
 rw [sK,if_neg hk0] at hR;have hkl:0<ks.length:=List.length_pos_iff.mpr hk0;have HIH:=mk0 ih;have HUN:=mk0 hun;have HSQ:=mk0 hsq;have HM:=mk0 hm;have HT:=mk0 hT;have HI:=mk0 hI;have HC:=mk0 (And.intro hc hcm);have HK:=mk0 (And.intro hK hkc);have HR:=mk0 hR;have hlm:=hI.max;have hkm:=hK.len;have k1:((ks.length:Int) == 0)=false:=beq_eq_false_iff_ne.mpr (by omega);have k2:decide ((ks.length:Int)=0)=false:=decide_eq_false (by omega);have k3:decide (ks.length=0)=false:=decide_eq_false (by omega);obtain ⟨w1,hw1⟩:∃ w1,w1=(w.alloc (.cells #[.bool a0, .bool a1, .int .i64 a2] 93)).alloc (.cells #[.slice (some ⟨b,o,none⟩) l.length c] 55):=⟨_,rfl⟩;have hsz:w1.heap.size=w.heap.size+2:=by rw [hw1];simp
 have hcd:w1.cell? ⟨w.heap.size+1,0,none⟩=some (.slice (some ⟨b,o,none⟩) l.length c):=by rw [hw1,World.cell?_alloc_at _ _ _ _ (by simp)];rfl
 have hblD:w1.heap[w.heap.size+1]? = some (.cells #[.slice (some ⟨b,o,none⟩) l.length c] 55 (0,0)):=by rw [hw1];have:=j4m (w.alloc (.cells #[.bool a0, .bool a1, .int .i64 a2] 93)) (.cells #[.slice (some ⟨b,o,none⟩) l.length c] 55);simpa using this
 have HBL:=mk0 hblD;clear hblD;have hcf:=j4n w a0 a1 a2 93;have hc0:w1.cell? ⟨w.heap.size,0,none⟩=some (.bool a0):=by rw [hw1,World.cell?_alloc_past _ _ _ (by simp)];exact hcf.1
 have hc1:w1.cell? ⟨w.heap.size,1,none⟩=some (.bool a1):=by rw [hw1,World.cell?_alloc_past _ _ _ (by simp)];exact hcf.2.1
 have hc2:w1.cell? ⟨w.heap.size,2,none⟩=some (.int .i64 a2):=by rw [hw1,World.cell?_alloc_past _ _ _ (by simp)];exact hcf.2.2
 have HB1:Aside0 (Below w.heap.size w w1):=⟨by rw [hw1];exact j1f (j1f (Below.refl _ _) _) _⟩;have hF0:BF (w1.alloc (.cells #[.int .u8 0, .int .u8 0, .int .u8 0, .int .u8 0, .int .u8 0, .int .u8 0, .int .u8 0, .int .u8 0, .int .u8 0, .int .u8 0, .int .u8 0, .int .u8 0, .int .u8 0, .int .u8 0, .int .u8 0, .int .u8 0, .int .u8 0, .int .u8 0, .int .u8 0, .int .u8 0, .int .u8 0, .int .u8 0, .int .u8 0, .int .u8 0, .int .u8 0, .int .u8 0, .int .u8 0, .int .u8 0, .int .u8 0, .int .u8 0, .int .u8 0, .int .u8 0, .int .u8 0, .int .u8 0, .int .u8 0, .int .u8 0, .int .u8 0, .int .u8 0, .int .u8 0, .int .u8 0, .int .u8 0, .int .u8 0, .int .u8 0, .int .u8 0, .int .u8 0, .int .u8 0, .int .u8 0, .int .u8 0, .int .u8 0, .int .u8 0, .int .u8 0, .int .u8 0, .int .u8 0, .int .u8 0, .int .u8 0, .int .u8 0, .int .u8 0, .int .u8 0, .int .u8 0, .int .u8 0, .int .u8 0, .int .u8 0, .int .u8 0, .int .u8 0] 106)) w1 (w1.alloc (.cells #[.int .u8 0, .int .u8 0, .int .u8 0, .int .u8 0, .int .u8 0, .int .u8 0, .int .u8 0, .int .u8 0, .int .u8 0, .int .u8 0, .int .u8 0, .int .u8 0, .int .u8 0, .int .u8 0, .int .u8 0, .int .u8 0, .int .u8 0, .int .u8 0, .int .u8 0, .int .u8 0, .int .u8 0, .int .u8 0, .int .u8 0, .int .u8 0, .int .u8 0, .int .u8 0, .int .u8 0, .int .u8 0, .int .u8 0, .int .u8 0, .int .u8 0, .int .u8 0, .int .u8 0, .int .u8 0, .int .u8 0, .int .u8 0, .int .u8 0, .int .u8 0, .int .u8 0, .int .u8 0, .int .u8 0, .int .u8 0, .int .u8 0, .int .u8 0, .int .u8 0, .int .u8 0, .int .u8 0, .int .u8 0, .int .u8 0, .int .u8 0, .int .u8 0, .int .u8 0, .int .u8 0, .int .u8 0, .int .u8 0, .int .u8 0, .int .u8 0, .int .u8 0, .int .u8 0, .int .u8 0, .int .u8 0, .int .u8 0, .int .u8 0, .int .u8 0] 106)) w1.heap.size 106 (List.replicate 64 0):=⟨j4m w1 _,Nat.le_refl _,j1f (Below.refl _ _) _,KeepBut.refl _ _ _⟩;have HBS:=mk0 (j1f (Below.refl w1.heap.size w1) (.cells #[.int .u8 0, .int .u8 0, .int .u8 0, .int .u8 0, .int .u8 0, .int .u8 0, .int .u8 0, .int .u8 0, .int .u8 0, .int .u8 0, .int .u8 0, .int .u8 0, .int .u8 0, .int .u8 0, .int .u8 0, .int .u8 0, .int .u8 0, .int .u8 0, .int .u8 0, .int .u8 0, .int .u8 0, .int .u8 0, .int .u8 0, .int .u8 0, .int .u8 0, .int .u8 0, .int .u8 0, .int .u8 0, .int .u8 0, .int .u8 0, .int .u8 0, .int .u8 0, .int .u8 0, .int .u8 0, .int .u8 0, .int .u8 0, .int .u8 0, .int .u8 0, .int .u8 0, .int .u8 0, .int .u8 0, .int .u8 0, .int .u8 0, .int .u8 0, .int .u8 0, .int .u8 0, .int .u8 0, .int .u8 0, .int .u8 0, .int .u8 0, .int .u8 0, .int .u8 0, .int .u8 0, .int .u8 0, .int .u8 0, .int .u8 0, .int .u8 0, .int .u8 0, .int .u8 0, .int .u8 0, .int .u8 0, .int .u8 0, .int .u8 0, .int .u8 0] 106));have HF0:=mk0 hF0;clear hT hI hc hcm hK hkc hR hm hk0 ih hun hcf hF0 hsq;go_enter Tryd.func58,Tryd.ntmps58;go_upto_region 4 with (fail)
 rw [← hw1];obtain ⟨gc,hgc⟩:∃ gc,gc=w.heap.size:=⟨_,rfl⟩;have HGC:=mk0 (And.intro hgc hsz);rw [← hgc] at hcd hc0 hc1 hc2 HBL ⊢;clear hw1 hgc hsz;go_upto_block 0 with (fail)
 obtain ⟨w2,hw2⟩:∃ w2,w2=w1.alloc (.cells #[.int .u8 0, .int .u8 0, .int .u8 0, .int .u8 0, .int .u8 0, .int .u8 0, .int .u8 0, .int .u8 0, .int .u8 0, .int .u8 0, .int .u8 0, .int .u8 0, .int .u8 0, .int .u8 0, .int .u8 0, .int .u8 0, .int .u8 0, .int .u8 0, .int .u8 0, .int .u8 0, .int .u8 0, .int .u8 0, .int .u8 0, .int .u8 0, .int .u8 0, .int .u8 0, .int .u8 0, .int .u8 0, .int .u8 0, .int .u8 0, .int .u8 0, .int .u8 0, .int .u8 0, .int .u8 0, .int .u8 0, .int .u8 0, .int .u8 0, .int .u8 0, .int .u8 0, .int .u8 0, .int .u8 0, .int .u8 0, .int .u8 0, .int .u8 0, .int .u8 0, .int .u8 0, .int .u8 0, .int .u8 0, .int .u8 0, .int .u8 0, .int .u8 0, .int .u8 0, .int .u8 0, .int .u8 0, .int .u8 0, .int .u8 0, .int .u8 0, .int .u8 0, .int .u8 0, .int .u8 0, .int .u8 0, .int .u8 0, .int .u8 0, .int .u8 0] 106):=⟨_,rfl⟩;rw [← hw2] at HBS HF0 ⊢;have hd0:=(j2g HBS.out (World.block_lt_of_cell? _ _ hc0)).trans hc0;have hd1:=(j2g HBS.out (World.block_lt_of_cell? _ _ hc1)).trans hc1;have hd2:=(j2g HBS.out (World.block_lt_of_cell? _ _ hc2)).trans hc2;have hdd:=(j2g HBS.out (World.block_lt_of_cell? _ _ hcd)).trans hcd;have HCF:=mk0 (And.intro hd0 (And.intro hd1 (And.intro hd2 hdd)));obtain ⟨gs,hgs⟩:∃ gs,gs=w1.heap.size:=⟨_,rfl⟩;rw [← hgs] at HF0 HGC ⊢;have HGS:=mk0 hgs;have HBD:Aside0 (∀ (W:World) {L:List Int},BF w2 w1 W gs 106 L→W.heap[gc+1]? = some (.cells #[.slice (some ⟨b,o,none⟩) l.length c] 55 (0,0))):=⟨fun W L h=>(h.below.block _ (by have:=HGC.out;omega)).trans HBL.out⟩;clear hw2 hgs hc0 hc1 hc2 hcd hd0 hd1 hd2 hdd k1 k2 k3;go_wp2;go_loopg [7,8,9,12] n (fun kq v7 v8 v9 v12 w'=>∃ (i:Nat) (kl lv:Int) (lm:Bool) (L:List Int),v7 = .int .i64 kl∧v8 = .int .i64 lv∧v9 = .int .i64 (i:Int)∧v12 = .bool lm∧Aside0 (i≤l.length∧sKl a0 un kq ks l kl lv i lm=some R ∧ -(i:Int)≤lv∧lv≤i ∧ -(i:Int) - 1≤kl∧kl<ks.length)∧Aside0 (BF w2 w1 w' gs 106 L∧L.length=64))
 case atStart=>exact ⟨0,0,0,true,_,rfl,rfl,rfl,rfl,⟨by omega,HR.out,by omega,by omega,by omega,by omega⟩,⟨HF0.out,List.length_replicate⟩⟩
 case round =>
  clear HR HF0 HBS;obtain ⟨i,kl,lv,lm,L,rfl,rfl,rfl,rfl,HJ,HF⟩:=hrel;cases gk with
  | zero=>exact absurd HJ.out.2.1 (by simp [sKl])
  | succ kr =>
   have hi:=HJ.out.1;obtain ⟨wo,rfl⟩:∃ wo:World,wo=wr:=⟨_,rfl⟩;have hIr:=(HI.out.below HB1.out).below HF.out.1.below;have HIR:=mk0 hIr;have hdd:=keep_cell HF.out.1.keep (a:=⟨gc+1,0,none⟩) (by show gc+1≠gs;have:=HGC.out;omega) HCF.out.2.2.2;clear hIr;by_cases hlt:i<l.length
   rotate_left
   ·have t1:decide ((i:Int)<(l.length:Int))=false:=decide_eq_false (by omega);have hst:=HJ.out.2.1;rw [sKl,List.drop_of_length_le (by omega),skp,if_pos (by omega)] at hst;have HS:=mk0 (Option.some.inj hst);clear hst;go_wp2;go_ret;exact ⟨by rw [← HS.out];rfl,j1o HB1.out HF.out.1.below⟩
   have t1:decide ((i:Int)<(l.length:Int))=true:=decide_eq_true (by omega);go_upto_block 2 with (fail)
   go_cut [9] (fun v9 wc=>∃ j:Nat,v9 = .int .i64 (j:Int)∧Aside0 (i≤j∧j≤l.length∧skp (l.drop i) i=j∧(j<l.length→¬ (l.getD j 0≤32∨(92<l.getD j 0∧l.getD j 0≠123∧l.getD j 0≠125))))∧wc=wo)
   case first=>as_aux_lemma =>
    go_wp2_with fail
    go_loopg [9] (l.length - i) (fun kq v9 w'=>∃ j:Nat,v9 = .int .i64 (j:Int)∧Aside0 (i≤j∧j≤l.length∧skp (l.drop i) i=skp (l.drop j) j)∧kq=l.length - j∧w'=wo)
    case atStart=>exact ⟨i,rfl,⟨Nat.le_refl _,hi,rfl⟩,rfl,rfl⟩
    case round =>
     obtain ⟨j,rfl,HK2,hkk,rfl⟩:=hrel;have hj:=HK2.out.2.1;by_cases hjl:j<l.length
     rotate_left
     ·have s1:decide ((j:Int)<(l.length:Int))=false:=decide_eq_false (by omega);have HN:Aside0 (i≤j∧j≤l.length∧skp (l.drop i) i=j∧(j<l.length→¬ (l.getD j 0≤32∨(92<l.getD j 0∧l.getD j 0≠123∧l.getD j 0≠125)))):=⟨HK2.out.1,hj,by rw [HK2.out.2.2,List.drop_of_length_le (by omega),skp],fun h=>absurd h hjl⟩;go_wp2;go_meet
      case rel=>exact ⟨j,rfl,HN,rfl⟩
     have s1:decide ((j:Int)<(l.length:Int))=true:=decide_eq_true (by omega);have s2:(0≤(j:Int))=True:=eq_true (by omega);have s3:((j:Int)<(l.length:Int))=True:=eq_true (by omega);have hcx:=HIR.out.cell j hjl;have hst:=HK2.out.2.2;rw [at_int hjl,skp] at hst;obtain ⟨x,hx⟩:∃ x,x=l.getD j 0:=⟨_,rfl⟩;rw [← hx] at hcx hst;have HX:=mk0 hx;clear hx;by_cases hsk:x≤32
     ·rw [if_pos hsk] at hst;have HN:Aside0 (i≤j+1∧j+1≤l.length∧skp (l.drop i) i=skp (l.drop (j+1)) (j+1)):=⟨by have:=HK2.out.1;omega,hjl,hst⟩;have f1:decide (x≤32)=true:=decide_eq_true hsk;clear hst;go_wp2;go_roundg (l.length - (j+1))
      case measure=>omega
      case rel=>exact ⟨j+1,by go_num,HN,rfl,rfl⟩
     rw [if_neg hsk] at hst;have f1:decide (x≤32)=false:=decide_eq_false hsk;by_cases h92:92<x
     rotate_left
     ·have f2:decide (92<x)=false:=decide_eq_false h92;have HN:Aside0 (i≤j∧j≤l.length∧skp (l.drop i) i=j∧(j<l.length→¬ (l.getD j 0≤32∨(92<l.getD j 0∧l.getD j 0≠123∧l.getD j 0≠125)))):=⟨HK2.out.1,hj,by rw [hst,if_neg (by omega)],fun _=>by rw [← HX.out];omega⟩;clear hst;go_wp2;go_meet
      case rel=>exact ⟨j,rfl,HN,rfl⟩
     have f2:decide (92<x)=true:=decide_eq_true h92;by_cases hop:x=123
     ·have HN:Aside0 (i≤j∧j≤l.length∧skp (l.drop i) i=j∧(j<l.length→¬ (l.getD j 0≤32∨(92<l.getD j 0∧l.getD j 0≠123∧l.getD j 0≠125)))):=⟨HK2.out.1,hj,by rw [hst,if_neg (by omega)],fun _=>by rw [← HX.out];omega⟩;clear hst f1 f2 hsk h92;rw [hop] at hcx;clear hop;go_wp2;go_meet
      case rel=>exact ⟨j,rfl,HN,rfl⟩
     by_cases hcl:x=125
     ·have HN:Aside0 (i≤j∧j≤l.length∧skp (l.drop i) i=j∧(j<l.length→¬ (l.getD j 0≤32∨(92<l.getD j 0∧l.getD j 0≠123∧l.getD j 0≠125)))):=⟨HK2.out.1,hj,by rw [hst,if_neg (by omega)],fun _=>by rw [← HX.out];omega⟩;clear hst f1 f2 hsk h92;rw [hcl] at hcx;clear hop hcl;go_wp2;go_meet
      case rel=>exact ⟨j,rfl,HN,rfl⟩
     rw [if_pos ⟨h92,hop,hcl⟩] at hst;have HN:Aside0 (i≤j+1∧j+1≤l.length∧skp (l.drop i) i=skp (l.drop (j+1)) (j+1)):=⟨by have:=HK2.out.1;omega,hjl,hst⟩;have f3:(x != 123)=true:=bne_iff_ne.mpr hop;have f4:(x != 125)=true:=bne_iff_ne.mpr hcl;have f5:decide (x=123)=false:=decide_eq_false hop;have f6:decide (x=125)=false:=decide_eq_false hcl;clear hst hop hcl;go_wp2;go_roundg (l.length - (j+1))
     case measure=>omega
     case rel=>exact ⟨j+1,by go_num,HN,rfl,rfl⟩
   case rest =>
    obtain ⟨j,rfl,HK2,rfl⟩:=hcut;have hj:=HK2.out.2.1;have hij:=HK2.out.1;have hst:=HJ.out.2.1;rw [sKl,HK2.out.2.2.1] at hst;by_cases hjl:j<l.length
    rotate_left
    ·rw [if_pos (by omega)] at hst;have HS:=mk0 (Option.some.inj hst);have s1:decide ((l.length:Int)≤(j:Int))=true:=decide_eq_true (by omega);clear hst;go_wp2;go_ret;exact ⟨by rw [← HS.out];rfl,j1o HB1.out HF.out.1.below⟩
    rw [if_neg (by omega)] at hst;have s1:decide ((l.length:Int)≤(j:Int))=false:=decide_eq_false (by omega);have s2:(0≤(j:Int))=True:=eq_true (by omega);have s3:((j:Int)<(l.length:Int))=True:=eq_true (by omega);have hcx:=HIR.out.cell j hjl;have hns:=HK2.out.2.2.2 hjl;have hb1:=HJ.out.2.2.1;have hb2:=HJ.out.2.2.2.1;have hb3:=HJ.out.2.2.2.2.1;have hb4:=HJ.out.2.2.2.2.2;have hc0:=keep_cell HF.out.1.keep (a:=⟨gc,0,none⟩) (by show gc≠gs;have:=HGC.out;omega) HCF.out.1;have hc1:=keep_cell HF.out.1.keep (a:=⟨gc,1,none⟩) (by show gc≠gs;have:=HGC.out;omega) HCF.out.2.1;have hc2:=keep_cell HF.out.1.keep (a:=⟨gc,2,none⟩) (by show gc≠gs;have:=HGC.out;omega) HCF.out.2.2.1;rw [sStep] at hst;obtain ⟨x,hx⟩:∃ x,x=l.getD j 0:=⟨_,rfl⟩;rw [← hx] at hcx hst hns;have HX:=mk0 hx;clear hx;by_cases hstr:x=34∨(x=39∧a0=true)
    ·rw [if_pos hstr] at hst;obtain ⟨o1,hcut,hI1,hcc⟩:=j3v HIR.out c (j+1) (by omega) HC.out.1;rw [List.length_drop] at hcut hcc
     push_cast at hcut
     have hq:x=34∨x=39:=by omega
     have rng:=j4j x (l.drop (j+1)) 0 false false;rw [List.length_drop] at rng;have HSE:=mk0 (fun (W:World) (hb:Below wc.heap.size wc W)=>se_c a0 a1 a2 b o1 (l.length - (j+1)) (c - (j+1)) (l.drop (j+1)) x W (hI1.below hb) List.length_drop hcc hq)
     generalize strE x (l.drop (j+1)) 0 false false=se at hst rng HSE
     have HST:=mk0 hst;have RNG:=mk0 rng;have hwr:IntKind.i64.wrap ((j:Int)+1)=(j:Int)+1:=IntWalk.i64_in _ (by omega);clear hst rng hq hcc hI1 hns;have HD:=mk0 (j1h (Below.refl wc.heap.size wc));rcases hstr with h|⟨_,h⟩
     ·as_aux_lemma =>
       rw [h] at hcx HSE;clear h;go_wp2_with fail
       refine j3t (n:=11) (S:=fun w'=>w'.cell? ⟨gc,0,none⟩=some (.bool a0)∧w'.cell? ⟨gc,1,none⟩=some (.bool a1)∧w'.cell? ⟨gc,2,none⟩=some (.int .i64 a2)∧w'.cell? ⟨gc+1,0,none⟩=some (.slice (some ⟨b,o,none⟩) l.length c)) (ds:=[5]) #[false,false,false,false,false,false,false,false,false,false,false] zq7 rfl rfl ⟨hc0,hc1,hc2,hdd⟩ (fun hHeld=>?_)
       generalize wc.drew=w4 at HD hHeld ⊢
       refine pure_ (i:=2) (N:=some 94) (v:=?_) (a':=?_) #[false,false,true,false,false,false,false,false,false,false,false] rfl rfl zq7 (fun _ _ _ h=>h) (Or.inl ⟨by rfl,?_⟩) ?_ ?_;rotate_left
       ·exact zl2
       rotate_left
       ·exact zl0
       refine pure_ (i:=4) (N:=some 96) (v:=?_) (a':=?_) #[false,false,true,false,true,false,false,false,false,false,false] rfl rfl zq7 (fun _ _ _ h=>h) (Or.inl ⟨by rfl,?_⟩) ?_ ?_;rotate_left
       ·exact zl2
       rotate_left
       ·exact zl0
       refine take_ (i:=0) (N:=some 92) (v:=?_) (a':=?_) #[true,false,true,false,true,false,false,false,false,false,false] rfl rfl zq7 (fun _ _ _ h=>h) (Or.inl ⟨by rfl,?_⟩) hHeld ?_ ?_;rotate_left
       ·exact zl11
       rotate_left
       ·exact zl0
       refine take_ (i:=1) (N:=some 93) (v:=?_) (a':=?_) #[true,true,true,false,true,false,false,false,false,false,false] rfl rfl zq7 (fun _ _ _ h=>h) (Or.inl ⟨by rfl,?_⟩) hHeld ?_ ?_;rotate_left
       ·exact zl11
       rotate_left
       ·exact zl0
       refine pure_ (i:=3) (N:=some 95) (v:=?_) (a':=?_) #[true,true,true,true,true,false,false,false,false,false,false] rfl rfl zq7 (fun _ _ _ h=>h) (Or.inl ⟨by rfl,?_⟩) ?_ ?_;rotate_left
       ·exact zl2
       rotate_left
       ·exact zl0
       refine last_ (i:=5) (N:=some 97) #[true,true,true,true,true,true,false,false,false,false,false] rfl rfl zq7 zq50 (fun K hK=>?_);refine goes_ Tryd.func60 zq7 rfl #[.agg #[.bool a0, .bool a1, .int .i64 a2], .slice (some ⟨b,o1,none⟩) (l.length - (j+1)) (c - (j+1)), .int .u8 _] (by rfl) rfl rfl zq19 ?_;with_reducible refine (HSE.out _ HD.out).mono ?_
       rintro e_ w5 ⟨rfl,hb⟩;refine ⟨_,rfl,?_⟩;have HB5:=mk0 (j1o HD.out hb);have HF5:=mk0 (And.intro (HF.out.1.carry HB5.out) HF.out.2);clear hb;refine hK.out _ _ ?_;clear hK K;refine norm_ (a':=?_) ?_ ?_;rotate_left
       ·show Act.put _ (some 97) _=_
        exact zl0
       refine pure_ (i:=6) (N:=some 91) (v:=?_) (a':=?_) #[true,true,true,true,true,true,true,false,false,false,false] rfl rfl zq7 (fun _ _ _ h=>h) (Or.inl ⟨by rfl,?_⟩) ?_ ?_;rotate_left
       ·exact zl2
       rotate_left
       ·exact zl0
       refine pure_ (i:=7) (N:=some 98) (v:=?_) (a':=?_) #[true,true,true,true,true,true,true,true,false,false,false] rfl rfl zq7 (fun _ _ _ h=>h) (Or.inl ⟨by rfl,?_⟩) ?_ ?_;rotate_left
       ·exact zl2
       rotate_left
       ·exact zl0
       refine pure_ (i:=8) (N:=some 99) (v:=?_) (a':=?_) #[true,true,true,true,true,true,true,true,true,false,false] rfl rfl zq7 (fun _ _ _ h=>h) (Or.inl ⟨by rfl,?_⟩) ?_ ?_;rotate_left
       ·exact zl2
       rotate_left
       ·exact zl0
       refine pure_ (i:=9) (N:=some 17) (v:=?_) (a':=?_) #[true,true,true,true,true,true,true,true,true,true,false] rfl rfl zq7 (fun _ _ _ h=>h) (Or.inl ⟨by rfl,?_⟩) ?_ ?_;rotate_left
       ·exact zl2
       rotate_left
       ·exact zl0
       refine pure_ (i:=10) (N:=some 18) (v:=?_) (a':=?_) #[true,true,true,true,true,true,true,true,true,true,true] rfl rfl zq7 (fun _ _ _ h=>h) (Or.inl ⟨by rfl,?_⟩) ?_ ?_;rotate_left
       ·exact zl2
       rotate_left
       ·exact zl0
       refine done_ zq7 ?_;clear hwr;rcases RNG.out with h1|⟨m,h1,h2,h3⟩
       ·have hst:=HST.out;rw [sStr,h1,if_pos zq50] at hst;have HS:Aside0 (-1=R):=⟨Option.some.inj hst⟩;rw [h1];clear hst h1;go_wp2;go_ret;exact ⟨by rw [← HS.out];rfl,j1o HB1.out HF5.out.1.below⟩
       ·have hst:=HST.out;rw [sStr,h1,if_neg (by omega),Int.toNat_natCast] at hst;obtain ⟨o2,hcut2,hI2,hcc2⟩:=j3v HIR.out c (j+1+m) (by omega) HC.out.1;rw [List.length_drop] at hcut2 hcc2
        push_cast at hcut2
        have rng2:=j4d (l.drop (j+1+m)) 0;rw [List.length_drop] at rng2;have HNT:=mk0 (fun (W:World) (hb:Below wc.heap.size wc W)=>nt_calls a0 a1 a2 b o2 (l.length - (j+1+m)) (c - (j+1+m)) (l.drop (j+1+m)) W (hI2.below hb) List.length_drop)
        generalize nT (l.drop (j+1+m)) 0=t0 at hst rng2 HNT
        have HST2:=mk0 hst;have RNG2:=mk0 rng2;have f1:((m:Int) == -1)=false:=beq_eq_false_iff_ne.mpr (by omega);have f2:decide ((m:Int) = -1)=false:=decide_eq_false (by omega);have hmb:m≤2147483647:=by omega
        have hx0:=(j2g HB5.out (World.block_lt_of_cell? _ _ hc0)).trans hc0;have hx1:=(j2g HB5.out (World.block_lt_of_cell? _ _ hc1)).trans hc1;have hx2:=(j2g HB5.out (World.block_lt_of_cell? _ _ hc2)).trans hc2;have hxd:=(j2g HB5.out (World.block_lt_of_cell? _ _ hdd)).trans hdd;have HD6:=mk0 (j1h (Below.refl w5.heap.size w5));rw [h1];clear h1 hst rng2 hI2 hcc2 hcut;go_wp2_with fail
        refine j3t (n:=6) (S:=fun w'=>w'.cell? ⟨gc,0,none⟩=some (.bool a0)∧w'.cell? ⟨gc,1,none⟩=some (.bool a1)∧w'.cell? ⟨gc,2,none⟩=some (.int .i64 a2)∧w'.cell? ⟨gc+1,0,none⟩=some (.slice (some ⟨b,o,none⟩) l.length c)) (ds:=[4]) #[false,false,false,false,false,false] zq7 rfl rfl ⟨hx0,hx1,hx2,hxd⟩ (fun hHeld=>?_)
        generalize w5.drew=w6 at HD6 hHeld ⊢
        refine pure_ (i:=2) (N:=some 109) (v:=?_) (a':=?_) #[false,false,true,false,false,false] rfl rfl zq7 (fun _ _ _ h=>h) (Or.inl ⟨by rfl,?_⟩) ?_ ?_;rotate_left
        ·exact zl2
        rotate_left
        ·exact zl0
        refine take_ (i:=0) (N:=some 107) (v:=?_) (a':=?_) #[true,false,true,false,false,false] rfl rfl zq7 (fun _ _ _ h=>h) (Or.inl ⟨by rfl,?_⟩) hHeld ?_ ?_;rotate_left
        ·exact zl11
        rotate_left
        ·exact zl0
        refine take_ (i:=1) (N:=some 108) (v:=?_) (a':=?_) #[true,true,true,false,false,false] rfl rfl zq7 (fun _ _ _ h=>h) (Or.inl ⟨by rfl,?_⟩) hHeld ?_ ?_;rotate_left
        ·exact zl11
        rotate_left
        ·exact zl0
        refine pure_ (i:=3) (N:=some 110) (v:=?_) (a':=?_) #[true,true,true,true,false,false] rfl rfl zq7 (fun _ _ _ h=>h) (Or.inl ⟨by rfl,?_⟩) ?_ ?_;rotate_left
        ·exact zl2
        rotate_left
        ·exact zl0
        refine last_ (i:=4) (N:=some 111) #[true,true,true,true,true,false] rfl rfl zq7 zq50 (fun K hK=>?_);refine goes_ Tryd.func59 zq7 rfl #[.agg #[.bool a0, .bool a1, .int .i64 a2], .slice (some ⟨b,o2,none⟩) (l.length - (j+1+m)) (c - (j+1+m))] (by rfl) rfl rfl zq19 ?_;with_reducible refine (HNT.out _ (j1o HB5.out HD6.out)).mono ?_
        rintro e_ w7 ⟨rfl,hb⟩;refine ⟨_,rfl,?_⟩;have HB7:=mk0 (j1o HB5.out (j1o HD6.out hb));have HF7:=mk0 (And.intro (HF.out.1.carry HB7.out) HF.out.2);clear hb hx0 hx1 hx2 hxd;refine hK.out _ _ ?_;clear hK K;refine norm_ (a':=?_) ?_ ?_;rotate_left
        ·show Act.put _ (some 111) _=_
         exact zl0
        refine pure_ (i:=5) (N:=some 20) (v:=?_) (a':=?_) #[true,true,true,true,true,true] rfl rfl zq7 (fun _ _ _ h=>h) (Or.inl ⟨by rfl,?_⟩) ?_ ?_;rotate_left
        ·exact zl2
        rotate_left
        ·exact zl0
        refine done_ zq7 ?_;clear hHeld hcut2;have hz0:=(j2g HB7.out (World.block_lt_of_cell? _ _ hc0)).trans hc0;have hz1:=(j2g HB7.out (World.block_lt_of_cell? _ _ hc1)).trans hc1;have hz2:=(j2g HB7.out (World.block_lt_of_cell? _ _ hc2)).trans hc2;have hzd:=(j2g HB7.out (World.block_lt_of_cell? _ _ hdd)).trans hdd;clear hc0 hc1 hc2 hdd hcx;rcases RNG2.out with h1|⟨t,h1,h5,h6⟩
        ·have hst:=HST2.out;rw [h1,if_pos zq50] at hst;have HS:Aside0 (-1=R):=⟨Option.some.inj hst⟩;rw [h1];clear hst h1;go_wp2;go_ret;exact ⟨by rw [← HS.out];rfl,j1o HB1.out HF7.out.1.below⟩
        have hst:=HST2.out;rw [h1,if_neg (by omega),Int.toNat_natCast] at hst;have htl:j+1+m+t<l.length:=by omega
        have hcy:=(HIR.out.below HB7.out).cell (j+1+m+t) htl;obtain ⟨y,hy⟩:∃ y,y=l.getD (j+1+m+t) 0:=⟨_,rfl⟩;rw [← hy] at hst hcy;clear hy;have g1:((t:Int) == -1)=false:=beq_eq_false_iff_ne.mpr (by omega);have g2:decide ((t:Int) = -1)=false:=decide_eq_false (by omega);have htb:t≤2147483647:=by omega
        rw [h1];clear h1;by_cases h58:y=58
        rotate_left
        ·rw [if_neg h58] at hst;replace hst:sKl a0 un kr ks l kl lv (j+1+m+t) lm=some R:=hst;have p58:(y == 58)=false:=beq_eq_false_iff_ne.mpr h58;have q58:decide (y=58)=false:=decide_eq_false h58;clear h58
         as_aux_lemma =>
          have HN:Aside0 (j+1+m+t≤l.length∧sKl a0 un kr ks l (kl) (lv) (j+1+m+t) lm=some R ∧ -((j+1+m+t:Nat):Int)≤lv∧lv≤((j+1+m+t:Nat):Int) ∧ -((j+1+m+t:Nat):Int) - 1≤kl∧(kl:Int)<(ks.length:Int)):=⟨by omega,hst,by omega,by omega,by omega,by omega⟩;clear hst;go_wp2;go_roundg kr
          case measure=>omega
          case rel=>exact ⟨j+1+m+t,kl,lv,lm,L,zq48,zq48,zq54,rfl,HN,HF7⟩
        subst h58;rw [if_pos rfl] at hst;by_cases hlv:lv<1
        ·rw [if_pos hlv] at hst;have HS:Aside0 (-1=R):=⟨Option.some.inj hst⟩;have p1:decide (lv<1)=true:=decide_eq_true hlv;clear hst
         as_aux_lemma =>
          go_wp2;go_ret;exact ⟨by rw [← HS.out];rfl,j1o HB1.out HF7.out.1.below⟩
        rw [if_neg hlv] at hst;have p1:decide (lv<1)=false:=decide_eq_false hlv;obtain ⟨o3,hcut3,hI3,hcc3⟩:=cut_mid HIR.out c (j+1) (j+1+(m - 1)) (by omega) (by omega) HC.out.1;rw [show j+1+(m - 1) - (j+1)=m - 1 by omega] at hcut3 hI3 hcc3;rw [show ((j+1:Nat):Int)=(j:Int)+1 by omega,show ((j+1+(m - 1):Nat):Int)=(j:Int)+1+(m:Int) - 1 by omega] at hcut3;obtain ⟨kx,hkx⟩:∃ kx,kx=(l.drop (j+1)).take (m - 1):=⟨_,rfl⟩;rw [← hkx] at hst hI3;have hkxl:kx.length=m - 1:=by rw [hkx,List.length_take,List.length_drop];omega
        have HKL:=mk0 hkxl;have HI3:=mk0 hI3;have HCC3:=mk0 (And.intro hcc3 (show c - (j+1)≤9223372036854775807 by have:=HC.out;omega));clear hkx hI3 hcc3 hkxl;go_upto_region 39 with (fail)
        obtain ⟨w8,hw8⟩:∃ w8,w8=w7.alloc (.cells #[.slice none 0 0] 55):=⟨_,rfl⟩;have hB8:Below w7.heap.size w7 w8:=by rw [hw8];exact j1f (Below.refl _ _) _
        have hbx:w8.heap[w7.heap.size]? = some (.cells #[.slice none 0 0] 55 (0,0)):=by rw [hw8];exact j4m _ _
        have hgg:gs<w7.heap.size:=j3p HF7.out.1.blk;rw [← hw8];clear hw8;obtain ⟨gb,hgb⟩:∃ gb,gb=w7.heap.size:=⟨_,rfl⟩;rw [← hgb] at hB8 hbx hgg ⊢;have HGB:=mk0 (And.intro hgb hgg);have HB8:=mk0 hB8;have HBX:=mk0 hbx;have hcb:=cell_of_one hbx;have hfb:=free_of_one hbx;clear hgb hgg hB8 hbx;obtain ⟨es,hes⟩:∃ es,es=se.snd:=⟨_,rfl⟩;rw [← hes] at hst ⊢;clear hes;cases es with
        | false=>as_aux_lemma =>
         rw [if_pos rfl] at hst;replace hst:(sKey ks kl lv (j+1+m+t) (some kx)).bind _=some R:=hst;have HST3:=mk0 hst;clear hst;go_upto_region 45 with (fail)
         obtain ⟨w9,hw9⟩:∃ w9,w9=w8.setCell ⟨gb,0,none⟩ (.slice (some ⟨b,o3,none⟩) (m - 1) (c - (j+1))):=⟨_,rfl⟩;have hB9:Below gb w7 w9:=by rw [hw9];exact HB8.out.setCell (by show gb≤gb;omega) _
         have CB:Aside0 (w9.cell? ⟨gb,0,none⟩=some (.slice (some ⟨b,o3,none⟩) (m - 1) (c - (j+1)))):=⟨by rw [hw9];exact cell_of_one (one_setCell HBX.out)⟩;rw [← hw9];clear hw9 hcb hfb hz0 hz1 hz2 hzd
         have hB9':Below w7.heap.size w7 w9:=by
          have:=hB9;rw [HGB.out.1] at this;exact this
         have HF9:=mk0 (And.intro (HF7.out.1.carry hB9') HF7.out.2)
         have HCK:Aside0 (Kd.C (Kd.int .u8) w9 (some ⟨b,o3,none⟩) (m - 1) kx):=⟨by
          have:=(HI3.out.below (j1o HB7.out hB9')).C;rw [HKL.out] at this;exact this⟩
         have hst:=HST3.out;clear hB9 hB9' HST3;rw [sKey] at hst;by_cases hlk:lv≤(ks.length:Int)
         rotate_left
         ·rw [if_neg hlk] at hst;have pl:decide (lv≤(ks.length:Int))=false:=decide_eq_false hlk;have HS:Aside0 (-1=R):=⟨Option.some.inj hst⟩;clear hst;go_wp2;go_ret;exact ⟨by rw [← HS.out];rfl,j1o HB1.out HF9.out.1.below⟩
         rw [if_pos hlk] at hst;have pl:decide (lv≤(ks.length:Int))=true:=decide_eq_true hlk;obtain ⟨u,rfl⟩:∃ u:Nat,lv=(u:Int)+1:=⟨lv.toNat - 1,by omega⟩;have hul:u<ks.length:=by omega
         rw [show ((u:Int)+1).toNat - 1=u by omega] at hst;have hkc:=(HK.out.1.below (j1o HB1.out HF9.out.1.below)).cell u hul;have q1:(0≤(u:Int))=True:=eq_true (by omega);have q2:((u:Int)<(ks.length:Int))=True:=eq_true (by omega);obtain ⟨s,hs⟩:∃ s,s=ks.getD u default:=⟨_,rfl⟩;rw [← hs] at hst hkc;clear hs;have HEQ:=mk0 (eq_calls gb _ _ _ kx s w9 CB.out HCK.out HKL.out);by_cases he:strOfNums kx=s
         rotate_left
         ·rw [if_neg he] at hst;rw [decide_eq_false he] at HEQ;clear he;replace hst:sKl a0 un kr ks l kl ((u:Int)+1) (j+1+m+t+1) false=some R:=hst
          as_aux_lemma =>
           have HN:Aside0 (j+1+m+t+1≤l.length∧sKl a0 un kr ks l (kl) ((u:Int)+1) (j+1+m+t+1) false=some R ∧ -((j+1+m+t+1:Nat):Int)≤(u:Int)+1∧(u:Int)+1≤((j+1+m+t+1:Nat):Int) ∧ -((j+1+m+t+1:Nat):Int) - 1≤kl∧(kl:Int)<(ks.length:Int)):=⟨by omega,hst,by omega,by omega,by omega,by omega⟩;clear hst;go_wp2_with (go_at_call 76;(with_reducible refine HEQ.out.mono ?_);rintro e_ w_ ⟨rfl,rfl⟩)
           go_roundg kr
           case measure=>omega
           case rel=>exact ⟨j+1+m+t+1,kl,(u:Int)+1,false,L,zq48,zq48,zq54,rfl,HN,HF9⟩
         rw [if_pos he] at hst;rw [decide_eq_true he] at HEQ;clear he;by_cases hku:kl=(u:Int)+1 - 1
         rotate_left
         ·rw [if_neg hku] at hst;replace hst:sKl a0 un kr ks l kl ((u:Int)+1) (j+1+m+t+1) true=some R:=hst;have r1:(kl == (u:Int))=false:=beq_eq_false_iff_ne.mpr (by omega);have r2:decide (kl=(u:Int))=false:=decide_eq_false (by omega);clear hku
          as_aux_lemma =>
           have HN:Aside0 (j+1+m+t+1≤l.length∧sKl a0 un kr ks l (kl) ((u:Int)+1) (j+1+m+t+1) true=some R ∧ -((j+1+m+t+1:Nat):Int)≤(u:Int)+1∧(u:Int)+1≤((j+1+m+t+1:Nat):Int) ∧ -((j+1+m+t+1:Nat):Int) - 1≤kl∧(kl:Int)<(ks.length:Int)):=⟨by omega,hst,by omega,by omega,by omega,by omega⟩;clear hst;go_wp2_with (go_at_call 76;(with_reducible refine HEQ.out.mono ?_);rintro e_ w_ ⟨rfl,rfl⟩)
           go_roundg kr
           case measure=>omega
           case rel=>exact ⟨j+1+m+t+1,kl,(u:Int)+1,true,L,zq48,zq48,zq54,rfl,HN,HF9⟩
         rw [if_pos hku] at hst;have r1:(kl == (u:Int))=true:=beq_iff_eq.mpr (by omega);have r2:decide (kl=(u:Int))=true:=decide_eq_true (by omega);by_cases hkk:kl+1=(ks.length:Int)
         ·rw [if_pos hkk] at hst;have HS:Aside0 (((j+1+m+t+1:Nat):Int)=R):=⟨Option.some.inj hst⟩;have r3:(kl+1 == (ks.length:Int))=true:=beq_iff_eq.mpr hkk;have r4:decide (kl+1=(ks.length:Int))=true:=decide_eq_true hkk;clear hst hku hkk;go_wp2_with (go_at_call 76;(with_reducible refine HEQ.out.mono ?_);rintro e_ w_ ⟨rfl,rfl⟩)
          go_ret;exact ⟨by rw [← HS.out];first|rfl|(congr 2;omega)|(congr 1;congr 1;omega),j1o HB1.out HF9.out.1.below⟩
         rw [if_neg hkk] at hst;replace hst:sKl a0 un kr ks l (kl+1) ((u:Int)+1) (j+1+m+t+1) true=some R:=hst;have r3:(kl+1 == (ks.length:Int))=false:=beq_eq_false_iff_ne.mpr hkk;have r4:decide (kl+1=(ks.length:Int))=false:=decide_eq_false hkk
         as_aux_lemma =>
          have HN:Aside0 (j+1+m+t+1≤l.length∧sKl a0 un kr ks l (kl+1) ((u:Int)+1) (j+1+m+t+1) true=some R ∧ -((j+1+m+t+1:Nat):Int)≤(u:Int)+1∧(u:Int)+1≤((j+1+m+t+1:Nat):Int) ∧ -((j+1+m+t+1:Nat):Int) - 1≤kl+1∧(kl+1:Int)<(ks.length:Int)):=⟨by omega,hst,by omega,by omega,by omega,by omega⟩;clear hst;go_wp2_with (go_at_call 76;(with_reducible refine HEQ.out.mono ?_);rintro e_ w_ ⟨rfl,rfl⟩)
          go_roundg kr
          case measure=>omega
          case rel=>exact ⟨j+1+m+t+1,kl+1,(u:Int)+1,true,L,zq48,zq48,zq54,rfl,HN,HF9⟩
        | true=>as_aux_lemma =>
         rw [if_neg zq50] at hst;rw [Option.bind_assoc] at hst;obtain ⟨res,hres,hst⟩:=Option.bind_eq_some_iff.mp hst;replace hst:(sKey ks kl lv (j+1+m+t) res).bind _=some R:=hst;have HST3:=mk0 hst
         have hB8':Below w7.heap.size w7 w8:=by
          have:=HB8.out;rw [HGB.out.1] at this;exact this
         have HB8P:=mk0 hB8'
         have HUNX:Aside0 (∀ W:World,Below w8.heap.size w8 W→Calls Tryd.prog 61 #[.agg #[.bool a0, .bool a1, .int .i64 a2], .slice (some ⟨b,o3,none⟩) (m - 1) (c - (j+1)), .slice (some ⟨gs,0,none⟩) 64 64] W fun e w'=>UP2 W w1 gs 106 64 res e w'):=⟨fun W hb=>by
          have k:=HF7.out.1.carry (j1o HB8P.out hb);have:=HUN.out kx res b o3 (c - (j+1)) gs 106 L w1 W (HT.out.below HB1.out) k.below (HI3.out.back HF.out.1.below (HI.out.below HB1.out).lt) (by rw [HKL.out];exact HCC3.out.1) HCC3.out.2 ⟨k.blk,k.at_,k.below,KeepBut.refl _ _ _⟩ HF.out.2 hres;rw [HKL.out] at this;exact this⟩
         have hy0:=(j2g HB8P.out (World.block_lt_of_cell? _ _ hz0)).trans hz0;have hy1:=(j2g HB8P.out (World.block_lt_of_cell? _ _ hz1)).trans hz1;have hy2:=(j2g HB8P.out (World.block_lt_of_cell? _ _ hz2)).trans hz2;have HD8:=mk0 (j1h (Below.refl w8.heap.size w8));clear hst hres hB8' hcb hfb hz0 hz1 hz2 hzd;cases res with
         | none =>
          go_wp2_with fail
          refine j3t (n:=9) (S:=fun w'=>w'.cell? ⟨gc,0,none⟩=some (.bool a0)∧w'.cell? ⟨gc,1,none⟩=some (.bool a1)∧w'.cell? ⟨gc,2,none⟩=some (.int .i64 a2)) (ds:=[3]) #[false,false,false,false,false,false,false,false,false] zq7 rfl rfl ⟨hy0,hy1,hy2⟩ (fun hHeld=>?_)
          generalize w8.drew=w9 at HD8 hHeld ⊢
          refine pure_ (i:=1) (N:=some 133) (v:=?_) (a':=?_) #[false,true,false,false,false,false,false,false,false] rfl rfl zq7 (fun _ _ _ h=>h) (Or.inl ⟨by rfl,?_⟩) ?_ ?_;rotate_left
          ·exact zl2
          rotate_left
          ·exact zl0
          refine pure_ (i:=2) (N:=some 134) (v:=?_) (a':=?_) #[false,true,true,false,false,false,false,false,false] rfl rfl zq7 (fun _ _ _ h=>h) (Or.inl ⟨by rfl,?_⟩) ?_ ?_;rotate_left
          ·exact zl2
          rotate_left
          ·exact zl0
          refine take_ (i:=0) (N:=some 132) (v:=?_) (a':=?_) #[true,true,true,false,false,false,false,false,false] rfl rfl zq7 (fun _ _ _ h=>h) (Or.inl ⟨by rfl,?_⟩) hHeld ?_ ?_;rotate_left
          ·exact zl12
          rotate_left
          ·exact zl0
          refine last_ (i:=3) (N:=some 135) #[true,true,true,true,false,false,false,false,false] rfl rfl zq7 zq50 (fun K hK=>?_);refine goes_ Tryd.func61 zq7 rfl #[.agg #[.bool a0, .bool a1, .int .i64 a2], .slice (some ⟨b,o3,none⟩) (m - 1) (c - (j+1)), .slice (some ⟨gs,0,none⟩) 64 64] (by rfl) rfl rfl zq19 ?_;with_reducible refine (HUNX.out _ HD8.out).mono ?_
          rintro e_ w10 ⟨⟨hb,te,pe,rfl,hesc⟩,L2,hL2,hbf⟩;refine ⟨_,rfl,?_⟩;have HB10:=mk0 hb;clear hb hesc hL2 hbf hy0 hy1 hy2;refine hK.out _ _ ?_;clear hK K;refine norm_ (a':=?_) ?_ ?_;rotate_left
          ·show Act.put _ (some 135) _=_
           exact zl0
          refine pure_ (i:=4) (N:=some 131) (v:=?_) (a':=?_) #[true,true,true,true,true,false,false,false,false] rfl rfl zq7 (fun _ _ _ h=>h) (Or.inl ⟨by rfl,?_⟩) ?_ ?_;rotate_left
          ·exact zl2
          rotate_left
          ·exact zl0
          refine pure_ (i:=5) (N:=some 136) (v:=?_) (a':=?_) #[true,true,true,true,true,true,false,false,false] rfl rfl zq7 (fun _ _ _ h=>h) (Or.inl ⟨by rfl,?_⟩) ?_ ?_;rotate_left
          ·exact zl2
          rotate_left
          ·exact zl0
          refine pure_ (i:=6) (N:=some 137) (v:=?_) (a':=?_) #[true,true,true,true,true,true,true,false,false] rfl rfl zq7 (fun _ _ _ h=>h) (Or.inl ⟨by rfl,?_⟩) ?_ ?_;rotate_left
          ·exact zl2
          rotate_left
          ·exact zl0
          refine pure_ (i:=7) (N:=some 23) (v:=?_) (a':=?_) #[true,true,true,true,true,true,true,true,false] rfl rfl zq7 (fun _ _ _ h=>h) (Or.inl ⟨by rfl,?_⟩) ?_ ?_;rotate_left
          ·exact zl2
          rotate_left
          ·exact zl0
          refine pure_ (i:=8) (N:=some 24) (v:=?_) (a':=?_) #[true,true,true,true,true,true,true,true,true] rfl rfl zq7 (fun _ _ _ h=>h) (Or.inl ⟨by rfl,?_⟩) ?_ ?_;rotate_left
          ·exact zl2
          rotate_left
          ·exact zl0
          refine done_ zq7 ?_;have hst:=HST3.out;have HS:Aside0 (-1=R):=⟨Option.some.inj hst⟩;clear hst;go_wp2;go_ret;exact ⟨by rw [← HS.out];rfl,j1o HB1.out HB10.out⟩
         | some v =>
          go_wp2_with fail
          refine j3t (n:=9) (S:=fun w'=>w'.cell? ⟨gc,0,none⟩=some (.bool a0)∧w'.cell? ⟨gc,1,none⟩=some (.bool a1)∧w'.cell? ⟨gc,2,none⟩=some (.int .i64 a2)) (ds:=[3]) #[false,false,false,false,false,false,false,false,false] zq7 rfl rfl ⟨hy0,hy1,hy2⟩ (fun hHeld=>?_)
          generalize w8.drew=w9 at HD8 hHeld ⊢
          refine pure_ (i:=1) (N:=some 133) (v:=?_) (a':=?_) #[false,true,false,false,false,false,false,false,false] rfl rfl zq7 (fun _ _ _ h=>h) (Or.inl ⟨by rfl,?_⟩) ?_ ?_;rotate_left
          ·exact zl2
          rotate_left
          ·exact zl0
          refine pure_ (i:=2) (N:=some 134) (v:=?_) (a':=?_) #[false,true,true,false,false,false,false,false,false] rfl rfl zq7 (fun _ _ _ h=>h) (Or.inl ⟨by rfl,?_⟩) ?_ ?_;rotate_left
          ·exact zl2
          rotate_left
          ·exact zl0
          refine take_ (i:=0) (N:=some 132) (v:=?_) (a':=?_) #[true,true,true,false,false,false,false,false,false] rfl rfl zq7 (fun _ _ _ h=>h) (Or.inl ⟨by rfl,?_⟩) hHeld ?_ ?_;rotate_left
          ·exact zl12
          rotate_left
          ·exact zl0
          refine last_ (i:=3) (N:=some 135) #[true,true,true,true,false,false,false,false,false] rfl rfl zq7 zq50 (fun K hK=>?_);refine goes_ Tryd.func61 zq7 rfl #[.agg #[.bool a0, .bool a1, .int .i64 a2], .slice (some ⟨b,o3,none⟩) (m - 1) (c - (j+1)), .slice (some ⟨gs,0,none⟩) 64 64] (by rfl) rfl rfl zq19 ?_;with_reducible refine (HUNX.out _ HD8.out).mono ?_
          rintro e_ w10 ⟨⟨hb,A1,c1,rfl,hc1,hC1⟩,L2,hL2,hbf⟩;refine ⟨_,rfl,?_⟩;have HBF:=mk0 (And.intro hbf hL2);have HC1:=mk0 (And.intro hc1 hC1);clear hb hc1 hC1 hL2 hbf hy0 hy1 hy2;refine hK.out _ _ ?_;clear hK K;refine norm_ (a':=?_) ?_ ?_;rotate_left
          ·show Act.put _ (some 135) _=_
           exact zl0
          refine pure_ (i:=4) (N:=some 131) (v:=?_) (a':=?_) #[true,true,true,true,true,false,false,false,false] rfl rfl zq7 (fun _ _ _ h=>h) (Or.inl ⟨by rfl,?_⟩) ?_ ?_;rotate_left
          ·exact zl2
          rotate_left
          ·exact zl0
          refine pure_ (i:=5) (N:=some 136) (v:=?_) (a':=?_) #[true,true,true,true,true,true,false,false,false] rfl rfl zq7 (fun _ _ _ h=>h) (Or.inl ⟨by rfl,?_⟩) ?_ ?_;rotate_left
          ·exact zl2
          rotate_left
          ·exact zl0
          refine pure_ (i:=6) (N:=some 137) (v:=?_) (a':=?_) #[true,true,true,true,true,true,true,false,false] rfl rfl zq7 (fun _ _ _ h=>h) (Or.inl ⟨by rfl,?_⟩) ?_ ?_;rotate_left
          ·exact zl2
          rotate_left
          ·exact zl0
          refine pure_ (i:=7) (N:=some 23) (v:=?_) (a':=?_) #[true,true,true,true,true,true,true,true,false] rfl rfl zq7 (fun _ _ _ h=>h) (Or.inl ⟨by rfl,?_⟩) ?_ ?_;rotate_left
          ·exact zl2
          rotate_left
          ·exact zl0
          refine pure_ (i:=8) (N:=some 24) (v:=?_) (a':=?_) #[true,true,true,true,true,true,true,true,true] rfl rfl zq7 (fun _ _ _ h=>h) (Or.inl ⟨by rfl,?_⟩) ?_ ?_;rotate_left
          ·exact zl2
          rotate_left
          ·exact zl0
          refine done_ zq7 ?_;have hgb1:=HGB.out;have hbx9:w9.heap[gb]? = some (.cells #[.slice none 0 0] 55 (0,0)):=(HD8.out.block _ (j3p HBX.out)).trans HBX.out;have hbx10:w10.heap[gb]? = some (.cells #[.slice none 0 0] 55 (0,0)):=(HBF.out.1.keep.2 gb (j3p hbx9) (by omega) (by simp)).trans hbx9;have hF9:=HF7.out.1.carry (j1o HB8P.out HD8.out);have HF10:Aside0 (BF w2 w1 w10 gs 106 L2):=⟨⟨HBF.out.1.blk,HBF.out.1.at_,HBF.out.1.below,keep_tr hF9.keep HBF.out.1.keep⟩⟩;have HBX10:=mk0 hbx10;have hcb:=cell_of_one hbx10;have hfb:=free_of_one hbx10;clear hHeld hgb1 hbx9 hbx10 hF9;go_upto_region 45 with (fail)
          obtain ⟨w11,hw11⟩:∃ w11,w11=w10.setCell ⟨gb,0,none⟩ (.slice A1 v.length c1):=⟨_,rfl⟩;have CB:Aside0 (w11.cell? ⟨gb,0,none⟩=some (.slice A1 v.length c1)):=⟨by rw [hw11];exact cell_of_one (one_setCell HBX10.out)⟩;have HCK:Aside0 (Kd.C (Kd.int .u8) w11 A1 v.length v):=⟨by rw [hw11];exact C_set HC1.out.2 HBX10.out⟩
          have HF11:Aside0 (BF w2 w1 w11 gs 106 L2∧L2.length=64):=⟨by
           have h1:=HGB.out;have h2:=HF7.out.1.keep.1;have h3:=HF10.out;have h4:=HF10.out.at_;rw [hw11];exact ⟨⟨(Below.heap_setCell _ _ _ _ (by show gs≠gb;omega)).trans h3.blk,h3.at_,h3.below.setCell (by show w1.heap.size≤gb;omega) _,⟨by rw [World.size_setCell];exact h3.keep.1,fun i hi hg hr=>(Below.heap_setCell _ _ _ _ (by show i≠gb;omega)).trans (h3.keep.2 i hi hg hr)⟩⟩,HBF.out.2⟩⟩
          rw [← hw11];clear hw11 hcb hfb;have hst:=HST3.out;clear HST3;rw [sKey] at hst;by_cases hlk:lv≤(ks.length:Int)
          rotate_left
          ·rw [if_neg hlk] at hst;have pl:decide (lv≤(ks.length:Int))=false:=decide_eq_false hlk;have HS:Aside0 (-1=R):=⟨Option.some.inj hst⟩;clear hst;go_wp2;go_ret;exact ⟨by rw [← HS.out];rfl,j1o HB1.out HF11.out.1.below⟩
          rw [if_pos hlk] at hst;have pl:decide (lv≤(ks.length:Int))=true:=decide_eq_true hlk;obtain ⟨u,rfl⟩:∃ u:Nat,lv=(u:Int)+1:=⟨lv.toNat - 1,by omega⟩;have hul:u<ks.length:=by omega
          rw [show ((u:Int)+1).toNat - 1=u by omega] at hst;have hkc:=(HK.out.1.below (j1o HB1.out HF11.out.1.below)).cell u hul;have q1:(0≤(u:Int))=True:=eq_true (by omega);have q2:((u:Int)<(ks.length:Int))=True:=eq_true (by omega);obtain ⟨s,hs⟩:∃ s,s=ks.getD u default:=⟨_,rfl⟩;rw [← hs] at hst hkc;clear hs;have HEQ:=mk0 (eq_calls gb _ _ _ v s w11 CB.out HCK.out rfl);by_cases he:strOfNums v=s
          rotate_left
          ·rw [if_neg he] at hst;rw [decide_eq_false he] at HEQ;clear he;replace hst:sKl a0 un kr ks l kl ((u:Int)+1) (j+1+m+t+1) false=some R:=hst
           as_aux_lemma =>
            have HN:Aside0 (j+1+m+t+1≤l.length∧sKl a0 un kr ks l (kl) ((u:Int)+1) (j+1+m+t+1) false=some R ∧ -((j+1+m+t+1:Nat):Int)≤(u:Int)+1∧(u:Int)+1≤((j+1+m+t+1:Nat):Int) ∧ -((j+1+m+t+1:Nat):Int) - 1≤kl∧(kl:Int)<(ks.length:Int)):=⟨by omega,hst,by omega,by omega,by omega,by omega⟩;clear hst;go_wp2_with (go_at_call 76;(with_reducible refine HEQ.out.mono ?_);rintro e_ w_ ⟨rfl,rfl⟩)
            go_roundg kr
            case measure=>omega
            case rel=>exact ⟨j+1+m+t+1,kl,(u:Int)+1,false,L2,zq48,zq48,zq54,rfl,HN,HF11⟩
          rw [if_pos he] at hst;rw [decide_eq_true he] at HEQ;clear he;by_cases hku:kl=(u:Int)+1 - 1
          rotate_left
          ·rw [if_neg hku] at hst;replace hst:sKl a0 un kr ks l kl ((u:Int)+1) (j+1+m+t+1) true=some R:=hst;have r1:(kl == (u:Int))=false:=beq_eq_false_iff_ne.mpr (by omega);have r2:decide (kl=(u:Int))=false:=decide_eq_false (by omega);clear hku
           as_aux_lemma =>
            have HN:Aside0 (j+1+m+t+1≤l.length∧sKl a0 un kr ks l (kl) ((u:Int)+1) (j+1+m+t+1) true=some R ∧ -((j+1+m+t+1:Nat):Int)≤(u:Int)+1∧(u:Int)+1≤((j+1+m+t+1:Nat):Int) ∧ -((j+1+m+t+1:Nat):Int) - 1≤kl∧(kl:Int)<(ks.length:Int)):=⟨by omega,hst,by omega,by omega,by omega,by omega⟩;clear hst;go_wp2_with (go_at_call 76;(with_reducible refine HEQ.out.mono ?_);rintro e_ w_ ⟨rfl,rfl⟩)
            go_roundg kr
            case measure=>omega
            case rel=>exact ⟨j+1+m+t+1,kl,(u:Int)+1,true,L2,zq48,zq48,zq54,rfl,HN,HF11⟩
          rw [if_pos hku] at hst;have r1:(kl == (u:Int))=true:=beq_iff_eq.mpr (by omega);have r2:decide (kl=(u:Int))=true:=decide_eq_true (by omega);by_cases hkk:kl+1=(ks.length:Int)
          ·rw [if_pos hkk] at hst;have HS:Aside0 (((j+1+m+t+1:Nat):Int)=R):=⟨Option.some.inj hst⟩;have r3:(kl+1 == (ks.length:Int))=true:=beq_iff_eq.mpr hkk;have r4:decide (kl+1=(ks.length:Int))=true:=decide_eq_true hkk;clear hst hku hkk;go_wp2_with (go_at_call 76;(with_reducible refine HEQ.out.mono ?_);rintro e_ w_ ⟨rfl,rfl⟩)
           go_ret;exact ⟨by rw [← HS.out];first|rfl|(congr 2;omega)|(congr 1;congr 1;omega),j1o HB1.out HF11.out.1.below⟩
          rw [if_neg hkk] at hst;replace hst:sKl a0 un kr ks l (kl+1) ((u:Int)+1) (j+1+m+t+1) true=some R:=hst;have r3:(kl+1 == (ks.length:Int))=false:=beq_eq_false_iff_ne.mpr hkk;have r4:decide (kl+1=(ks.length:Int))=false:=decide_eq_false hkk
          as_aux_lemma =>
           have HN:Aside0 (j+1+m+t+1≤l.length∧sKl a0 un kr ks l (kl+1) ((u:Int)+1) (j+1+m+t+1) true=some R ∧ -((j+1+m+t+1:Nat):Int)≤(u:Int)+1∧(u:Int)+1≤((j+1+m+t+1:Nat):Int) ∧ -((j+1+m+t+1:Nat):Int) - 1≤kl+1∧(kl+1:Int)<(ks.length:Int)):=⟨by omega,hst,by omega,by omega,by omega,by omega⟩;clear hst;go_wp2_with (go_at_call 76;(with_reducible refine HEQ.out.mono ?_);rintro e_ w_ ⟨rfl,rfl⟩)
           go_roundg kr
           case measure=>omega
           case rel=>exact ⟨j+1+m+t+1,kl+1,(u:Int)+1,true,L2,zq48,zq48,zq54,rfl,HN,HF11⟩
     ·as_aux_lemma =>
       exact absurd (HSQ.out.symm.trans h) zq50
    rw [if_neg hstr] at hst;by_cases h39:x=39
    ·have ha0:a0=false:=by
      cases a0 with
      | false=>rfl
      | true=>exact absurd (.inr ⟨h39,rfl⟩) hstr
     rw [if_pos h39] at hst;replace hst:sKl a0 un kr ks l kl lv (j+1) lm=some R:=hst;rw [h39] at hcx;rw [ha0] at hc0;clear h39 hstr hns
     as_aux_lemma =>
      have HN:Aside0 (j+1≤l.length∧sKl a0 un kr ks l (kl) (lv) (j+1) lm=some R ∧ -((j+1:Nat):Int)≤lv∧lv≤((j+1:Nat):Int) ∧ -((j+1:Nat):Int) - 1≤kl∧(kl:Int)<(ks.length:Int)):=⟨by omega,hst,by omega,by omega,by omega,by omega⟩;clear hst;go_wp2;go_roundg kr
      case measure=>omega
      case rel=>exact ⟨j+1,kl,lv,lm,L,zq48,zq48,zq54,rfl,HN,HF⟩
    rw [if_neg h39] at hst;by_cases h123:x=123
    ·rw [if_pos h123] at hst;rw [h123] at hcx;clear h123 h39 hstr hns;cases lm with
     | true =>
      rw [if_neg zq50] at hst;replace hst:sKl a0 un kr ks l kl (lv+1) (j+1) true=some R:=hst
      as_aux_lemma =>
       have HN:Aside0 (j+1≤l.length∧sKl a0 un kr ks l (kl) (lv+1) (j+1) true=some R ∧ -((j+1:Nat):Int)≤lv+1∧lv+1≤((j+1:Nat):Int) ∧ -((j+1:Nat):Int) - 1≤kl∧(kl:Int)<(ks.length:Int)):=⟨by omega,hst,by omega,by omega,by omega,by omega⟩;clear hst;go_wp2;go_roundg kr
       case measure=>omega
       case rel=>exact ⟨j+1,kl,lv+1,true,L,zq48,zq48,zq54,rfl,HN,HF⟩
     | false =>
      rw [if_pos rfl] at hst
      as_aux_lemma =>
       obtain ⟨o1,hcut,hI1,hcc⟩:=j3v HIR.out c j (by omega) HC.out.1;rw [List.length_drop] at hcut hcc;have rng:=bE_range a0 123 125 _ (l.drop j) 0 0 (Nat.le_refl _);rw [List.length_drop] at rng;have HBE:=mk0 (fun (W:World) (hb:Below wc.heap.size wc W)=>be_calls a0 a1 a2 b o1 (l.length - j) (c - j) (l.drop j) 123 125 W (hI1.below hb) List.length_drop hcc zq50)
       generalize bE a0 123 125 (l.drop j) 0 0=be at hst rng HBE
       have RNG:=mk0 rng;have HST:=mk0 hst;clear hst rng hcc hI1;have HD:=mk0 (j1h (Below.refl wc.heap.size wc));go_wp2_with fail
       refine j3t (n:=6) (S:=fun w'=>w'.cell? ⟨gc,0,none⟩=some (.bool a0)∧w'.cell? ⟨gc,1,none⟩=some (.bool a1)∧w'.cell? ⟨gc,2,none⟩=some (.int .i64 a2)∧w'.cell? ⟨gc+1,0,none⟩=some (.slice (some ⟨b,o,none⟩) l.length c)) (ds:=[4]) #[false,false,false,false,false,false] zq7 rfl rfl ⟨hc0,hc1,hc2,hdd⟩ (fun hHeld=>?_)
       generalize wc.drew=w4 at HD hHeld ⊢
       refine pure_ (i:=2) (N:=some 170) (v:=?_) (a':=?_) #[false,false,true,false,false,false] rfl rfl zq7 (fun _ _ _ h=>h) (Or.inl ⟨by rfl,?_⟩) ?_ ?_;rotate_left
       ·exact zl2
       rotate_left
       ·exact zl0
       refine take_ (i:=0) (N:=some 168) (v:=?_) (a':=?_) #[true,false,true,false,false,false] rfl rfl zq7 (fun _ _ _ h=>h) (Or.inl ⟨by rfl,?_⟩) hHeld ?_ ?_;rotate_left
       ·exact zl11
       rotate_left
       ·exact zl0
       refine take_ (i:=1) (N:=some 169) (v:=?_) (a':=?_) #[true,true,true,false,false,false] rfl rfl zq7 (fun _ _ _ h=>h) (Or.inl ⟨by rfl,?_⟩) hHeld ?_ ?_;rotate_left
       ·exact zl11
       rotate_left
       ·exact zl0
       refine pure_ (i:=3) (N:=some 171) (v:=?_) (a':=?_) #[true,true,true,true,false,false] rfl rfl zq7 (fun _ _ _ h=>h) (Or.inl ⟨by rfl,?_⟩) ?_ ?_;rotate_left
       ·exact zl2
       rotate_left
       ·exact zl0
       refine last_ (i:=4) (N:=some 172) #[true,true,true,true,true,false] rfl rfl zq7 zq50 (fun K hK=>?_);refine goes_ Tryd.func77 zq7 rfl #[.agg #[.bool a0, .bool a1, .int .i64 a2], .slice (some ⟨b,o1,none⟩) (l.length - j) (c - j), .int .u8 123, .int .u8 125] (by rfl) rfl rfl zq19 ?_;with_reducible refine (HBE.out _ HD.out).mono ?_
       rintro e_ w5 ⟨rfl,hb⟩;refine ⟨_,rfl,?_⟩;have HF5:=mk0 (And.intro (HF.out.1.carry (j1o HD.out hb)) HF.out.2);clear hb;refine hK.out _ _ ?_;clear hK K;refine norm_ (a':=?_) ?_ ?_;rotate_left
       ·show Act.put _ (some 172) _=_
        exact zl0
       refine pure_ (i:=5) (N:=some 25) (v:=?_) (a':=?_) #[true,true,true,true,true,true] rfl rfl zq7 (fun _ _ _ h=>h) (Or.inl ⟨by rfl,?_⟩) ?_ ?_;rotate_left
       ·exact zl2
       rotate_left
       ·exact zl0
       refine done_ zq7 ?_;rcases RNG.out with h1|⟨m,h1,h2,h3⟩
       ·exact zl16
       ·have hst:=HST.out;rw [h1,if_neg (by omega),Int.toNat_natCast] at hst;replace hst:sKl a0 un kr ks l kl lv (j+m) false=some R:=hst;have f1:((m:Int) == -1)=false:=beq_eq_false_iff_ne.mpr (by omega);have f2:decide ((m:Int) = -1)=false:=decide_eq_false (by omega);have hmb:m≤2147483647:=by omega
        rw [h1];clear h1
        as_aux_lemma =>
         have HN:Aside0 (j+m≤l.length∧sKl a0 un kr ks l (kl) (lv) (j+m) false=some R ∧ -((j+m:Nat):Int)≤lv∧lv≤((j+m:Nat):Int) ∧ -((j+m:Nat):Int) - 1≤kl∧(kl:Int)<(ks.length:Int)):=⟨by omega,hst,by omega,by omega,by omega,by omega⟩;clear hst;go_wp2;go_roundg kr
         case measure=>omega
         case rel=>exact ⟨j+m,kl,lv,false,L,zq48,zq48,zq54,rfl,HN,HF5⟩
    rw [if_neg h123] at hst;by_cases h125:x=125
    ·rw [if_pos h125] at hst;rw [h125] at hcx;clear h125 h39 hstr hns h123;by_cases hq:lv - 1=kl
     rotate_left
     ·rw [if_neg hq] at hst;replace hst:sKl a0 un kr ks l kl (lv - 1) (j+1) lm=some R:=hst;have e1:(lv - 1 == kl)=false:=beq_eq_false_iff_ne.mpr hq;have e2:decide (lv - 1=kl)=false:=decide_eq_false hq
      as_aux_lemma =>
       have HN:Aside0 (j+1≤l.length∧sKl a0 un kr ks l (kl) (lv - 1) (j+1) lm=some R ∧ -((j+1:Nat):Int)≤lv - 1∧lv - 1≤((j+1:Nat):Int) ∧ -((j+1:Nat):Int) - 1≤kl∧(kl:Int)<(ks.length:Int)):=⟨by omega,hst,by omega,by omega,by omega,by omega⟩;clear hst;go_wp2;go_roundg kr
       case measure=>omega
       case rel=>exact ⟨j+1,kl,lv - 1,lm,L,zq48,zq48,zq54,rfl,HN,HF⟩
     rw [if_pos hq] at hst;replace hst:sKl a0 un kr ks l (kl - 1) (lv - 1) (j+1) lm=some R:=hst;have e1:(lv - 1 == kl)=true:=beq_iff_eq.mpr hq;have e2:decide (lv - 1=kl)=true:=decide_eq_true hq
     as_aux_lemma =>
      have HN:Aside0 (j+1≤l.length∧sKl a0 un kr ks l (kl - 1) (lv - 1) (j+1) lm=some R ∧ -((j+1:Nat):Int)≤lv - 1∧lv - 1≤((j+1:Nat):Int) ∧ -((j+1:Nat):Int) - 1≤kl - 1∧(kl - 1:Int)<(ks.length:Int)):=⟨by omega,hst,by omega,by omega,by omega,by omega⟩;clear hst;go_wp2;go_roundg kr
      case measure=>omega
      case rel=>exact ⟨j+1,kl - 1,lv - 1,lm,L,zq48,zq48,zq54,rfl,HN,HF⟩
    rw [if_neg h125] at hst;by_cases h91:x=91
    ·rw [if_pos h91] at hst;rw [h91] at hcx;clear h91 h39 hstr hns h123 h125;rw [sArr] at hst;by_cases hkv:kl=lv
     rotate_left
     ·rw [if_neg (fun h=>hkv h.1),if_neg (fun h=>hkv h.1)] at hst;have e1:(kl == lv)=false:=beq_eq_false_iff_ne.mpr hkv;have e2:decide (kl=lv)=false:=decide_eq_false hkv;clear hkv
      as_aux_lemma =>
       obtain ⟨o1,hcut,hI1,hcc⟩:=j3v HIR.out c j (by omega) HC.out.1;rw [List.length_drop] at hcut hcc;have rng:=bE_range a0 91 93 _ (l.drop j) 0 0 (Nat.le_refl _);rw [List.length_drop] at rng;have HBE:=mk0 (fun (W:World) (hb:Below wc.heap.size wc W)=>be_calls a0 a1 a2 b o1 (l.length - j) (c - j) (l.drop j) 91 93 W (hI1.below hb) List.length_drop hcc zq50)
       generalize bE a0 91 93 (l.drop j) 0 0=be at hst rng HBE
       have RNG:=mk0 rng;have HST:=mk0 hst;clear hst rng hcc hI1;have HD:=mk0 (j1h (Below.refl wc.heap.size wc));go_wp2_with fail
       refine j3t (n:=6) (S:=fun w'=>w'.cell? ⟨gc,0,none⟩=some (.bool a0)∧w'.cell? ⟨gc,1,none⟩=some (.bool a1)∧w'.cell? ⟨gc,2,none⟩=some (.int .i64 a2)∧w'.cell? ⟨gc+1,0,none⟩=some (.slice (some ⟨b,o,none⟩) l.length c)) (ds:=[4]) #[false,false,false,false,false,false] zq7 rfl rfl ⟨hc0,hc1,hc2,hdd⟩ (fun hHeld=>?_)
       generalize wc.drew=w4 at HD hHeld ⊢
       refine pure_ (i:=2) (N:=some 270) (v:=?_) (a':=?_) #[false,false,true,false,false,false] rfl rfl zq7 (fun _ _ _ h=>h) (Or.inl ⟨by rfl,?_⟩) ?_ ?_;rotate_left
       ·exact zl2
       rotate_left
       ·exact zl0
       refine take_ (i:=0) (N:=some 268) (v:=?_) (a':=?_) #[true,false,true,false,false,false] rfl rfl zq7 (fun _ _ _ h=>h) (Or.inl ⟨by rfl,?_⟩) hHeld ?_ ?_;rotate_left
       ·exact zl11
       rotate_left
       ·exact zl0
       refine take_ (i:=1) (N:=some 269) (v:=?_) (a':=?_) #[true,true,true,false,false,false] rfl rfl zq7 (fun _ _ _ h=>h) (Or.inl ⟨by rfl,?_⟩) hHeld ?_ ?_;rotate_left
       ·exact zl11
       rotate_left
       ·exact zl0
       refine pure_ (i:=3) (N:=some 271) (v:=?_) (a':=?_) #[true,true,true,true,false,false] rfl rfl zq7 (fun _ _ _ h=>h) (Or.inl ⟨by rfl,?_⟩) ?_ ?_;rotate_left
       ·exact zl2
       rotate_left
       ·exact zl0
       refine last_ (i:=4) (N:=some 272) #[true,true,true,true,true,false] rfl rfl zq7 zq50 (fun K hK=>?_);refine goes_ Tryd.func77 zq7 rfl #[.agg #[.bool a0, .bool a1, .int .i64 a2], .slice (some ⟨b,o1,none⟩) (l.length - j) (c - j), .int .u8 91, .int .u8 93] (by rfl) rfl rfl zq19 ?_;with_reducible refine (HBE.out _ HD.out).mono ?_
       rintro e_ w5 ⟨rfl,hb⟩;refine ⟨_,rfl,?_⟩;have HF5:=mk0 (And.intro (HF.out.1.carry (j1o HD.out hb)) HF.out.2);clear hb;refine hK.out _ _ ?_;clear hK K;refine norm_ (a':=?_) ?_ ?_;rotate_left
       ·show Act.put _ (some 272) _=_
        exact zl0
       refine pure_ (i:=5) (N:=some 34) (v:=?_) (a':=?_) #[true,true,true,true,true,true] rfl rfl zq7 (fun _ _ _ h=>h) (Or.inl ⟨by rfl,?_⟩) ?_ ?_;rotate_left
       ·exact zl2
       rotate_left
       ·exact zl0
       refine done_ zq7 ?_;rcases RNG.out with h1|⟨m,h1,h2,h3⟩
       ·exact zl16
       ·have hst:=HST.out;rw [h1,if_neg (by omega),Int.toNat_natCast] at hst;replace hst:sKl a0 un kr ks l kl lv (j+m) lm=some R:=hst;have f1:((m:Int) == -1)=false:=beq_eq_false_iff_ne.mpr (by omega);have f2:decide ((m:Int) = -1)=false:=decide_eq_false (by omega);have hmb:m≤2147483647:=by omega
        rw [h1];clear h1
        as_aux_lemma =>
         have HN:Aside0 (j+m≤l.length∧sKl a0 un kr ks l (kl) (lv) (j+m) lm=some R ∧ -((j+m:Nat):Int)≤lv∧lv≤((j+m:Nat):Int) ∧ -((j+m:Nat):Int) - 1≤kl∧(kl:Int)<(ks.length:Int)):=⟨by omega,hst,by omega,by omega,by omega,by omega⟩;clear hst;go_wp2;go_roundg kr
         case measure=>omega
         case rel=>exact ⟨j+m,kl,lv,lm,L,zq48,zq48,zq54,rfl,HN,HF5⟩
     subst hkv;by_cases hneg:kl<0
     ·rw [if_pos ⟨rfl,hneg⟩] at hst;cases hst
     obtain ⟨v,rfl⟩:∃ v:Nat,kl=(v:Int):=⟨kl.toNat,by omega⟩;rw [if_neg (fun h=>hneg h.2),Int.toNat_natCast] at hst;clear hneg;have hvk:v<ks.length:=by omega
     have hkc:=((HK.out.1.below HB1.out).below HF.out.1.below).cell v hvk;have hsz:=HK.out.1.sz (ks.getD v default) (by rw [List.getD_eq_getElem?_getD,List.getElem?_eq_getElem hvk];exact List.getElem_mem hvk);obtain ⟨s,hs⟩:∃ s,s=ks.getD v default:=⟨_,rfl⟩;rw [← hs] at hst hkc hsz;have HSS:=mk0 hs;clear hs;have t4:(0≤(v:Int))=True:=eq_true (by omega);have t5:((v:Int)<(ks.length:Int))=True:=eq_true (by omega);by_cases hix:isIx s=true
     rotate_left
     ·rw [if_neg (fun h=>hix h.2)] at hst;by_cases h0:0<s.size
      rotate_left
      ·have r0:decide (0<s.size)=false:=decide_eq_false h0;have r1:decide ((0:Int)<(s.size:Int))=false:=decide_eq_false (by omega);clear hix
       as_aux_lemma =>
        obtain ⟨o1,hcut,hI1,hcc⟩:=j3v HIR.out c j (by omega) HC.out.1;rw [List.length_drop] at hcut hcc;have rng:=bE_range a0 91 93 _ (l.drop j) 0 0 (Nat.le_refl _);rw [List.length_drop] at rng;have HBE:=mk0 (fun (W:World) (hb:Below wc.heap.size wc W)=>be_calls a0 a1 a2 b o1 (l.length - j) (c - j) (l.drop j) 91 93 W (hI1.below hb) List.length_drop hcc zq50)
        generalize bE a0 91 93 (l.drop j) 0 0=be at hst rng HBE
        have RNG:=mk0 rng;have HST:=mk0 hst;clear hst rng hcc hI1;have HD:=mk0 (j1h (Below.refl wc.heap.size wc));go_wp2_with fail
        refine j3t (n:=6) (S:=fun w'=>w'.cell? ⟨gc,0,none⟩=some (.bool a0)∧w'.cell? ⟨gc,1,none⟩=some (.bool a1)∧w'.cell? ⟨gc,2,none⟩=some (.int .i64 a2)∧w'.cell? ⟨gc+1,0,none⟩=some (.slice (some ⟨b,o,none⟩) l.length c)) (ds:=[4]) #[false,false,false,false,false,false] zq7 rfl rfl ⟨hc0,hc1,hc2,hdd⟩ (fun hHeld=>?_)
        generalize wc.drew=w4 at HD hHeld ⊢
        refine pure_ (i:=2) (N:=some 270) (v:=?_) (a':=?_) #[false,false,true,false,false,false] rfl rfl zq7 (fun _ _ _ h=>h) (Or.inl ⟨by rfl,?_⟩) ?_ ?_;rotate_left
        ·exact zl2
        rotate_left
        ·exact zl0
        refine take_ (i:=0) (N:=some 268) (v:=?_) (a':=?_) #[true,false,true,false,false,false] rfl rfl zq7 (fun _ _ _ h=>h) (Or.inl ⟨by rfl,?_⟩) hHeld ?_ ?_;rotate_left
        ·exact zl11
        rotate_left
        ·exact zl0
        refine take_ (i:=1) (N:=some 269) (v:=?_) (a':=?_) #[true,true,true,false,false,false] rfl rfl zq7 (fun _ _ _ h=>h) (Or.inl ⟨by rfl,?_⟩) hHeld ?_ ?_;rotate_left
        ·exact zl11
        rotate_left
        ·exact zl0
        refine pure_ (i:=3) (N:=some 271) (v:=?_) (a':=?_) #[true,true,true,true,false,false] rfl rfl zq7 (fun _ _ _ h=>h) (Or.inl ⟨by rfl,?_⟩) ?_ ?_;rotate_left
        ·exact zl2
        rotate_left
        ·exact zl0
        refine last_ (i:=4) (N:=some 272) #[true,true,true,true,true,false] rfl rfl zq7 zq50 (fun K hK=>?_);refine goes_ Tryd.func77 zq7 rfl #[.agg #[.bool a0, .bool a1, .int .i64 a2], .slice (some ⟨b,o1,none⟩) (l.length - j) (c - j), .int .u8 91, .int .u8 93] (by rfl) rfl rfl zq19 ?_;with_reducible refine (HBE.out _ HD.out).mono ?_
        rintro e_ w5 ⟨rfl,hb⟩;refine ⟨_,rfl,?_⟩;have HF5:=mk0 (And.intro (HF.out.1.carry (j1o HD.out hb)) HF.out.2);clear hb;refine hK.out _ _ ?_;clear hK K;refine norm_ (a':=?_) ?_ ?_;rotate_left
        ·show Act.put _ (some 272) _=_
         exact zl0
        refine pure_ (i:=5) (N:=some 34) (v:=?_) (a':=?_) #[true,true,true,true,true,true] rfl rfl zq7 (fun _ _ _ h=>h) (Or.inl ⟨by rfl,?_⟩) ?_ ?_;rotate_left
        ·exact zl2
        rotate_left
        ·exact zl0
        refine done_ zq7 ?_;rcases RNG.out with h1|⟨m,h1,h2,h3⟩
        ·exact zl16
        ·have hst:=HST.out;rw [h1,if_neg (by omega),Int.toNat_natCast] at hst;replace hst:sKl a0 un kr ks l ↑v ↑v (j+m) lm=some R:=hst;have f1:((m:Int) == -1)=false:=beq_eq_false_iff_ne.mpr (by omega);have f2:decide ((m:Int) = -1)=false:=decide_eq_false (by omega);have hmb:m≤2147483647:=by omega
         rw [h1];clear h1
         as_aux_lemma =>
          have HN:Aside0 (j+m≤l.length∧sKl a0 un kr ks l (↑v) (↑v) (j+m) lm=some R ∧ -((j+m:Nat):Int) ≤ ↑v ∧ ↑v≤((j+m:Nat):Int) ∧ -((j+m:Nat):Int) - 1 ≤ ↑v∧(↑v:Int)<(ks.length:Int)):=⟨by omega,hst,by omega,by omega,by omega,by omega⟩;clear hst;go_wp2;go_roundg kr
          case measure=>omega
          case rel=>exact ⟨j+m,↑v,↑v,lm,L,zq48,zq48,zq54,rfl,HN,HF5⟩
      have hb0:¬ (bytesOf s).getD 0 0=91:=fun h=>hix (decide_eq_true ⟨h0,h⟩)
      rw [get_bytes s 0 h0] at hb0;have p0:((((s[0]'h0).toNat:Nat):Int) == 91)=false:=beq_eq_false_iff_ne.mpr hb0;have q0:decide ((((s[0]'h0).toNat:Nat):Int)=91)=false:=decide_eq_false hb0;have r0:decide (0<s.size)=true:=decide_eq_true h0;have r1:decide ((0:Int)<(s.size:Int))=true:=decide_eq_true (by omega);clear hix hb0
      as_aux_lemma =>
       obtain ⟨o1,hcut,hI1,hcc⟩:=j3v HIR.out c j (by omega) HC.out.1;rw [List.length_drop] at hcut hcc;have rng:=bE_range a0 91 93 _ (l.drop j) 0 0 (Nat.le_refl _);rw [List.length_drop] at rng;have HBE:=mk0 (fun (W:World) (hb:Below wc.heap.size wc W)=>be_calls a0 a1 a2 b o1 (l.length - j) (c - j) (l.drop j) 91 93 W (hI1.below hb) List.length_drop hcc zq50)
       generalize bE a0 91 93 (l.drop j) 0 0=be at hst rng HBE
       have RNG:=mk0 rng;have HST:=mk0 hst;clear hst rng hcc hI1;have HD:=mk0 (j1h (Below.refl wc.heap.size wc));go_wp2_with fail
       refine j3t (n:=6) (S:=fun w'=>w'.cell? ⟨gc,0,none⟩=some (.bool a0)∧w'.cell? ⟨gc,1,none⟩=some (.bool a1)∧w'.cell? ⟨gc,2,none⟩=some (.int .i64 a2)∧w'.cell? ⟨gc+1,0,none⟩=some (.slice (some ⟨b,o,none⟩) l.length c)) (ds:=[4]) #[false,false,false,false,false,false] zq7 rfl rfl ⟨hc0,hc1,hc2,hdd⟩ (fun hHeld=>?_)
       generalize wc.drew=w4 at HD hHeld ⊢
       refine pure_ (i:=2) (N:=some 270) (v:=?_) (a':=?_) #[false,false,true,false,false,false] rfl rfl zq7 (fun _ _ _ h=>h) (Or.inl ⟨by rfl,?_⟩) ?_ ?_;rotate_left
       ·exact zl2
       rotate_left
       ·exact zl0
       refine take_ (i:=0) (N:=some 268) (v:=?_) (a':=?_) #[true,false,true,false,false,false] rfl rfl zq7 (fun _ _ _ h=>h) (Or.inl ⟨by rfl,?_⟩) hHeld ?_ ?_;rotate_left
       ·exact zl11
       rotate_left
       ·exact zl0
       refine take_ (i:=1) (N:=some 269) (v:=?_) (a':=?_) #[true,true,true,false,false,false] rfl rfl zq7 (fun _ _ _ h=>h) (Or.inl ⟨by rfl,?_⟩) hHeld ?_ ?_;rotate_left
       ·exact zl11
       rotate_left
       ·exact zl0
       refine pure_ (i:=3) (N:=some 271) (v:=?_) (a':=?_) #[true,true,true,true,false,false] rfl rfl zq7 (fun _ _ _ h=>h) (Or.inl ⟨by rfl,?_⟩) ?_ ?_;rotate_left
       ·exact zl2
       rotate_left
       ·exact zl0
       refine last_ (i:=4) (N:=some 272) #[true,true,true,true,true,false] rfl rfl zq7 zq50 (fun K hK=>?_);refine goes_ Tryd.func77 zq7 rfl #[.agg #[.bool a0, .bool a1, .int .i64 a2], .slice (some ⟨b,o1,none⟩) (l.length - j) (c - j), .int .u8 91, .int .u8 93] (by rfl) rfl rfl zq19 ?_;with_reducible refine (HBE.out _ HD.out).mono ?_
       rintro e_ w5 ⟨rfl,hb⟩;refine ⟨_,rfl,?_⟩;have HF5:=mk0 (And.intro (HF.out.1.carry (j1o HD.out hb)) HF.out.2);clear hb;refine hK.out _ _ ?_;clear hK K;refine norm_ (a':=?_) ?_ ?_;rotate_left
       ·show Act.put _ (some 272) _=_
        exact zl0
       refine pure_ (i:=5) (N:=some 34) (v:=?_) (a':=?_) #[true,true,true,true,true,true] rfl rfl zq7 (fun _ _ _ h=>h) (Or.inl ⟨by rfl,?_⟩) ?_ ?_;rotate_left
       ·exact zl2
       rotate_left
       ·exact zl0
       refine done_ zq7 ?_;rcases RNG.out with h1|⟨m,h1,h2,h3⟩
       ·exact zl16
       ·have hst:=HST.out;rw [h1,if_neg (by omega),Int.toNat_natCast] at hst;replace hst:sKl a0 un kr ks l ↑v ↑v (j+m) lm=some R:=hst;have f1:((m:Int) == -1)=false:=beq_eq_false_iff_ne.mpr (by omega);have f2:decide ((m:Int) = -1)=false:=decide_eq_false (by omega);have hmb:m≤2147483647:=by omega
        rw [h1];clear h1
        as_aux_lemma =>
         have HN:Aside0 (j+m≤l.length∧sKl a0 un kr ks l (↑v) (↑v) (j+m) lm=some R ∧ -((j+m:Nat):Int) ≤ ↑v ∧ ↑v≤((j+m:Nat):Int) ∧ -((j+m:Nat):Int) - 1 ≤ ↑v∧(↑v:Int)<(ks.length:Int)):=⟨by omega,hst,by omega,by omega,by omega,by omega⟩;clear hst;go_wp2;go_roundg kr
         case measure=>omega
         case rel=>exact ⟨j+m,↑v,↑v,lm,L,zq48,zq48,zq54,rfl,HN,HF5⟩
     as_aux_lemma =>
      rw [if_pos ⟨rfl,hix⟩] at hst;obtain ⟨hp,hb0⟩:0<s.size∧(bytesOf s).getD 0 0=91:=of_decide_eq_true hix;rw [get_bytes s 0 hp] at hb0;obtain ⟨x0,hst,hfin⟩:=Option.bind_eq_some_iff.mp hst;obtain ⟨ai,hkx,hst⟩:=Option.bind_eq_some_iff.mp hst;obtain ⟨⟨cs,E⟩,hae,hst⟩:=Option.bind_eq_some_iff.mp hst;simp only at hst;rw [kIdx] at hkx;split at hkx
      case isFalse=>cases hkx
      case isTrue hk3 =>
      obtain ⟨hs3,hs20,hb1⟩:=hk3;rw [get_bytes s (s.size - 1) (by omega)] at hb1;have p0:((((s[0]'hp).toNat:Nat):Int) == 91)=true:=beq_iff_eq.mpr hb0;have p1:((((s[s.size - 1]'(by omega)).toNat:Nat):Int) != 93)=false:=bne_eq_false_iff_eq.mpr hb1;have r3:(3:Int)≤(s.size:Int):=by omega
      have hsl:=slc_str s (by omega);have hz:(s.extract 1 (s.size - 1)).size≤18:=by rw [ByteArray.size_extract];omega
      have HAT:=mk0 (atoi_c (s.extract 1 (s.size - 1)) ai hz hkx wc);have hmf:∀ (fn:Fn) (first cap:Array Value) (w:World),(Instr.makeFunc fn first cap).run Tryd.prog w = .ok (.func fn first cap) w:=fun _ _ _ _=>rfl
      have hbD:wc.heap[gc+1]? = some (.cells #[.slice (some ⟨b,o,none⟩) l.length c] 55 (0,0)):=HBD.out _ HF.out.1;have HBDc:=mk0 hbD;have HST:=mk0 hst;have HFIN:=mk0 hfin;have HAE0:=mk0 hae;clear hix hb0 hst hfin hkx hae hb1 hz hbD;go_upto_region 78 with (go_at_call 78;(with_reducible refine HAT.out.mono ?_);rintro e_ w3 ⟨rfl,hb3⟩;have HB3:=mk0 hb3;clear hb3)
      have hB4:=j1f (j1f (j1f (j1f (j1f HB3.out (.cells #[.int .i64 ai] 3)) (.cells #[.int .i64 0] 3)) (.cells #[.slice none 0 0] 55)) (.cells #[.int .i64 0] 3)) (.cells #[.int .i64 (j:Int)] 3);have hCI:=CI.start (w:=w) (b:=b) (l:=l) (j:=j) (ai:=ai) (cs:=cs) (j1o HF.out.1.below HB3.out) ((HB3.out.block _ (j3p HBDc.out)).trans HBDc.out);have hpA:gs<w3.heap.size:=Nat.lt_of_lt_of_le (j3p HF.out.1.blk) HB3.out.size;obtain ⟨w4,hw4⟩:∃ w4,w4=((((w3.alloc (.cells #[.int .i64 ai] 3)).alloc (.cells #[.int .i64 0] 3)).alloc (.cells #[.slice none 0 0] 55)).alloc (.cells #[.int .i64 0] 3)).alloc (.cells #[.int .i64 (j:Int)] 3):=⟨_,rfl⟩;rw [← hw4] at hB4 hCI ⊢;clear hw4;obtain ⟨pA,hpq⟩:∃ pA,pA=w3.heap.size:=⟨_,rfl⟩;rw [← hpq] at hCI hpA ⊢;clear hpq;have HB4:=mk0 hB4;have HCI:=mk0 hCI;have HPA:=mk0 hpA;have hx0:=(j2g HB4.out (World.block_lt_of_cell? _ _ hc0)).trans hc0;have hx1:=(j2g HB4.out (World.block_lt_of_cell? _ _ hc1)).trans hc1;have hx2:=(j2g HB4.out (World.block_lt_of_cell? _ _ hc2)).trans hc2;have hxd:=(j2g HB4.out (World.block_lt_of_cell? _ _ hdd)).trans hdd;obtain ⟨o1,hcut,hI1,hcc⟩:=j3v HI.out c j (by omega) HC.out.1;rw [List.length_drop] at hcut;have HAEC:=mk0 (fun (W:World) (hb:Below w4.heap.size w4 W)=>ae_calls a0 a1 a2 b o1 (c - j) (l.drop j) w W (S3 (pA+1) (pA+1+1) (pA+1+1+1)) (fun r W=>CI w w1 b l j (pA+1) pA (pA+1+1) (pA+1+1+1) (gc+1) (pA+1+1+1+1) ai (.slice (some ⟨b,o,none⟩) l.length c) cs r W) (.pointer (some ⟨pA+1,0,none⟩)) (.pointer (some ⟨pA,0,none⟩)) (.pointer (some ⟨pA+1+1,0,none⟩)) (.pointer (some ⟨pA+1+1+1,0,none⟩)) (.pointer (some ⟨gc+1,0,none⟩)) (.pointer (some ⟨pA+1+1+1+1,0,none⟩)) cs E HT.out hI1 hcc (HCI.out.carry hb).lt HAE0.out (HCI.out.carry hb) (fun r W h=>j1o HB1.out h.below) (fun r W W' h hb=>h.carry hb) (fun x r W o1 h _ hI=>CI.cb HI.out HC.out.1 HC.out.2 hjl HAE0.out x r W o1 h hI));rw [List.length_drop] at HAEC;have HD:=mk0 (j1h (Below.refl w4.heap.size w4))
      have hnG:¬ S3 (pA+1) (pA+1+1) (pA+1+1+1) gc:=by
       have:=HGC.out;rintro (h|h|h)<;>omega
      have HNG:=mk0 hnG;clear hB4 hCI hpA hI1 hcc hnG hc0 hc1 hc2 hdd hkc;go_wp2_with fail
      refine j3t (n:=6) (S:=fun w'=>w'.cell? ⟨gc,0,none⟩=some (.bool a0)∧w'.cell? ⟨gc,1,none⟩=some (.bool a1)∧w'.cell? ⟨gc,2,none⟩=some (.int .i64 a2)∧w'.cell? ⟨gc+1,0,none⟩=some (.slice (some ⟨b,o,none⟩) l.length c)) (ds:=[5]) #[false,false,false,false,false,false] zq7 rfl rfl ⟨hx0,hx1,hx2,hxd⟩ (fun hHeld=>?_)
      generalize w4.drew=w5 at HD hHeld ⊢
      refine pure_ (i:=2) (N:=some 248) (v:=?_) (a':=?_) #[false,false,true,false,false,false] rfl rfl zq7 (fun _ _ _ h=>h) (Or.inl ⟨by rfl,?_⟩) ?_ ?_;rotate_left
      ·exact zl2
      rotate_left
      ·exact zl0
      refine pure_ (i:=4) (N:=some 250) (v:=?_) (a':=?_) #[false,false,true,false,true,false] rfl rfl zq7 (fun _ _ _ h=>h) (Or.inl ⟨by rfl,?_⟩) ?_ ?_;rotate_left
      ·exact zl2
      rotate_left
      ·exact zl0
      refine take_ (i:=0) (N:=some 246) (v:=?_) (a':=?_) #[true,false,true,false,true,false] rfl rfl zq7 (fun _ _ _ h=>h) (Or.inl ⟨by rfl,?_⟩) hHeld ?_ ?_;rotate_left
      ·exact zl11
      rotate_left
      ·exact zl0
      refine take_ (i:=1) (N:=some 247) (v:=?_) (a':=?_) #[true,true,true,false,true,false] rfl rfl zq7 (fun _ _ _ h=>h) (Or.inl ⟨by rfl,?_⟩) hHeld ?_ ?_;rotate_left
      ·exact zl11
      rotate_left
      ·exact zl0
      refine pure_ (i:=3) (N:=some 249) (v:=?_) (a':=?_) #[true,true,true,true,true,false] rfl rfl zq7 (fun _ _ _ h=>h) (Or.inl ⟨by rfl,?_⟩) ?_ ?_;rotate_left
      ·exact zl2
      rotate_left
      ·exact zl0
      refine last_ (i:=5) (N:=some 251) #[true,true,true,true,true,true] rfl rfl zq7 zq50 (fun K hK=>?_);refine goes_ Tryd.func79 zq7 rfl #[.agg #[.bool a0, .bool a1, .int .i64 a2], .slice (some ⟨b,o1,none⟩) (l.length - j) (c - j), .func (.func 80) #[] #[.pointer (some ⟨pA+1,0,none⟩), .pointer (some ⟨pA,0,none⟩), .pointer (some ⟨pA+1+1,0,none⟩), .pointer (some ⟨pA+1+1+1,0,none⟩), .pointer (some ⟨gc+1,0,none⟩), .pointer (some ⟨pA+1+1+1+1,0,none⟩)], .slice none 0 0] (by rfl) rfl rfl zq19 ?_;with_reducible refine (HAEC.out _ HD.out).mono ?_
      rintro e_ w6 ⟨rfl,hv,hk⟩;refine ⟨_,rfl,?_⟩;have HV6:=mk0 hv;have HK6:=mk0 ((KS.below HD.out).trans hk);clear hv hk;refine hK.out _ _ ?_;clear hK K;refine norm_ (a':=?_) ?_ ?_;rotate_left
      ·show Act.put _ (some 251) _=_
       exact zl0
      refine done_ zq7 ?_;have hy0:=HK6.out.cell (a:=⟨gc,0,none⟩) HNG.out hx0;have hy1:=HK6.out.cell (a:=⟨gc,1,none⟩) HNG.out hx1;have hy2:=HK6.out.cell (a:=⟨gc,2,none⟩) HNG.out hx2;clear hHeld hx0 hx1 hx2 hxd hcut hmf hsl;by_cases hfa:0≤ai∧ai<(cs.length:Int)
      rotate_left
      ·have hst:=HST.out;rw [if_neg hfa] at hst;have hfin:=HFIN.out;rw [← Option.some.inj hst] at hfin;have HS:Aside0 (-1=R):=⟨Option.some.inj hfin⟩;have hcV:=HV6.out.gone hfa;clear hst hfin hfa;have hnq:∀ W:World,(binOp .eql 55 (.slice none 0 0) (.slice none 0 0)).run Tryd.prog W = .ok (.bool true) W:=nil_eq none 0 0;go_wp2;go_ret;exact ⟨by rw [← HS.out];rfl,j1o HB1.out HV6.out.below⟩
      have hst:=HST.out;rw [if_pos hfa] at hst;have hfin:=HFIN.out;rw [← Option.some.inj hst] at hfin;simp only [HAE0.out,Option.bind_some] at hfin;obtain ⟨x,o4,c4,hxi,hcV,hI4,hc4,hc4m,hcO⟩:=HV6.out.found hfa;rw [hxi,Option.bind_some] at hfin;obtain ⟨r,hr,hfin⟩:=Option.bind_eq_some_iff.mp hfin;have hr2:sK a0 un kr (ks.drop (v+1)) ((l.drop (j+(pick x).1)).take (pick x).2)=some r:=hr;have rng:=sK_range hr2;have hpk:=pick_ok ((aE_ok HAE0.out).2 x (List.mem_of_getElem? hxi));rw [List.length_drop] at hpk;have hlen:((l.drop (j+(pick x).1)).take (pick x).2).length=(pick x).2:=by rw [List.length_take,List.length_drop];omega
      rw [hlen] at rng;obtain ⟨ko2,hkcut,hK2,hkc2⟩:=cut_keys HK.out.1 kc (v+1) (by omega) HK.out.2;have HIHX:=mk0 (fun (W:World) (hb:Below w.heap.size w W)=>HIH.out kr (ks.drop (v+1)) _ b o4 c4 kb ko2 (kc - (v+1)) W r (by rw [List.length_drop];have:=HM.out;omega) (HT.out.below hb) (hI4.below hb) (by rw [hlen];exact hc4) hc4m (hK2.below hb) (by rw [List.length_drop];exact hkc2) hr2);rw [hlen,List.length_drop] at HIHX
      push_cast at hkcut
      have HFIN2:=mk0 hfin;have RNG:=mk0 rng;clear hfin rng hr hr2 hlen hK2 hkc2 hI4 hc4 hc4m hxi hst hfa
      generalize (pick x).1=p1 at HFIN2 hcO hpk
      generalize (pick x).2=p2 at RNG hcV HIHX hpk
      have hwr:IntKind.i64.wrap ((v:Int)+1)=(v:Int)+1:=IntWalk.i64_in _ (by omega);have hnq:∀ W:World,(binOp .eql 55 (.slice (some ⟨b,o4,none⟩) p2 c4) (.slice none 0 0)).run Tryd.prog W = .ok (.bool false) W:=nil_eq (some ⟨b,o4,none⟩) p2 c4;have HD7:=mk0 (j1h (Below.refl w6.heap.size w6));have HB6:=mk0 (j1o HB1.out HV6.out.below);have hltO:=World.block_lt_of_cell? _ _ hcO;go_wp2_with fail
      refine j3t (n:=8) (S:=fun w'=>w'.cell? ⟨gc,0,none⟩=some (.bool a0)∧w'.cell? ⟨gc,1,none⟩=some (.bool a1)∧w'.cell? ⟨gc,2,none⟩=some (.int .i64 a2)∧w'.cell? ⟨pA+1+1,0,none⟩=some (.slice (some ⟨b,o4,none⟩) p2 c4)) (ds:=[6]) #[false,false,false,false,false,false,false,false] zq7 rfl rfl ⟨hy0,hy1,hy2,hcV⟩ (fun hHeld=>?_)
      generalize w6.drew=w7 at HD7 hHeld ⊢
      refine pure_ (i:=2) (N:=some 256) (v:=?_) (a':=?_) #[false,false,true,false,false,false,false,false] rfl rfl zq7 (fun _ _ _ h=>h) (Or.inl ⟨by rfl,?_⟩) ?_ ?_;rotate_left
      ·exact zl2
      rotate_left
      ·exact zl0
      refine pure_ (i:=3) (N:=some 257) (v:=?_) (a':=?_) #[false,false,true,true,false,false,false,false] rfl rfl zq7 (fun _ _ _ h=>h) (Or.inl ⟨by rfl,?_⟩) ?_ ?_;rotate_left
      ·exact zl2
      rotate_left
      ·exact zl0
      refine pure_ (i:=4) (N:=some 258) (v:=?_) (a':=?_) #[false,false,true,true,true,false,false,false] rfl rfl zq7 (fun _ _ _ h=>h) (Or.inl ⟨by rfl,?_⟩) ?_ ?_;rotate_left
      ·exact zl2
      rotate_left
      ·exact zl0
      refine pure_ (i:=5) (N:=some 259) (v:=?_) (a':=?_) #[false,false,true,true,true,true,false,false] rfl rfl zq7 (fun _ _ _ h=>h) (Or.inl ⟨by rfl,?_⟩) ?_ ?_;rotate_left
      ·exact zl2
      rotate_left
      ·exact zl0
      refine take_ (i:=0) (N:=some 254) (v:=?_) (a':=?_) #[true,false,true,true,true,true,false,false] rfl rfl zq7 (fun _ _ _ h=>h) (Or.inl ⟨by rfl,?_⟩) hHeld ?_ ?_;rotate_left
      ·exact zl11
      rotate_left
      ·exact zl0
      refine take_ (i:=1) (N:=some 255) (v:=?_) (a':=?_) #[true,true,true,true,true,true,false,false] rfl rfl zq7 (fun _ _ _ h=>h) (Or.inl ⟨by rfl,?_⟩) hHeld ?_ ?_;rotate_left
      ·exact zl11
      rotate_left
      ·exact zl0
      refine last_ (i:=6) (N:=some 260) #[true,true,true,true,true,true,true,false] rfl rfl zq7 zq50 (fun K hK=>?_);refine goes_ Tryd.func58 zq7 rfl #[.agg #[.bool a0, .bool a1, .int .i64 a2], .slice (some ⟨b,o4,none⟩) p2 c4, .slice (some ⟨kb,ko2,none⟩) (ks.length - (v+1)) (kc - (v+1))] (by rfl) rfl rfl zq19 ?_;with_reducible refine (HIHX.out _ (j1o HB6.out HD7.out)).mono ?_
      rintro e_ w8 ⟨rfl,hb⟩;refine ⟨_,rfl,?_⟩;have HB8:=mk0 (j1o HD7.out hb);have hcO8:=(j2g HB8.out hltO).trans hcO;clear hb hcO hltO;refine hK.out _ _ ?_;clear hK K;refine norm_ (a':=?_) ?_ ?_;rotate_left
      ·show Act.put _ (some 260) _=_
       exact zl0
      refine pure_ (i:=7) (N:=some 33) (v:=?_) (a':=?_) #[true,true,true,true,true,true,true,true] rfl rfl zq7 (fun _ _ _ h=>h) (Or.inl ⟨by rfl,?_⟩) ?_ ?_;rotate_left
      ·exact zl2
      rotate_left
      ·exact zl0
      refine done_ zq7 ?_;clear hwr;rcases RNG.out with h1|⟨m,h1,h2⟩
      ·have hfin:=HFIN2.out;rw [h1,if_pos zq50] at hfin;have HS:Aside0 (-1=R):=⟨Option.some.inj hfin⟩;rw [h1];clear hfin h1;go_wp2;go_ret;exact ⟨by rw [← HS.out];rfl,j1o HB6.out HB8.out⟩
      ·have hfin:=HFIN2.out;rw [h1,if_neg (by omega)] at hfin;have HS:Aside0 (((j+p1:Nat):Int)+(m:Int)=R):=⟨Option.some.inj hfin⟩;have f1:decide ((m:Int)<0)=false:=decide_eq_false (by omega);rw [h1];clear hfin h1;go_wp2;go_ret;exact ⟨by rw [← HS.out,Int.natCast_add];rfl,j1o HB6.out HB8.out⟩
    rw [if_neg h91] at hst;by_cases h58:x=58
    ·rw [if_pos h58] at hst;have HS:Aside0 (-1=R):=⟨Option.some.inj hst⟩;rw [h58] at hcx;clear h58 h91 h39 hstr hns h123 h125 hst
     as_aux_lemma =>
      go_wp2;go_ret;exact ⟨by rw [← HS.out];rfl,j1o HB1.out HF.out.1.below⟩
    rw [if_neg h58] at hst;replace hst:sKl a0 un kr ks l kl lv (j+1) lm=some R:=hst;have h34:x≠34:=fun h=>hstr (.inl h)
    have p34:(x == 34)=false:=beq_eq_false_iff_ne.mpr h34;have q34:decide (x=34)=false:=decide_eq_false h34;have p39:(x == 39)=false:=beq_eq_false_iff_ne.mpr h39;have q39:decide (x=39)=false:=decide_eq_false h39;have p123:(x == 123)=false:=beq_eq_false_iff_ne.mpr h123;have q123:decide (x=123)=false:=decide_eq_false h123;have p125:(x == 125)=false:=beq_eq_false_iff_ne.mpr h125;have q125:decide (x=125)=false:=decide_eq_false h125;have p91:(x == 91)=false:=beq_eq_false_iff_ne.mpr h91;have q91:decide (x=91)=false:=decide_eq_false h91;have p58:(x == 58)=false:=beq_eq_false_iff_ne.mpr h58;have q58:decide (x=58)=false:=decide_eq_false h58;clear h34 h58 h91 h39 hstr hns h123 h125
    as_aux_lemma =>
     have HN:Aside0 (j+1≤l.length∧sKl a0 un kr ks l (kl) (lv) (j+1) lm=some R ∧ -((j+1:Nat):Int)≤lv∧lv≤((j+1:Nat):Int) ∧ -((j+1:Nat):Int) - 1≤kl∧(kl:Int)<(ks.length:Int)):=⟨by omega,hst,by omega,by omega,by omega,by omega⟩;clear hst;go_wp2;go_roundg kr
     case measure=>omega
     case rel=>exact ⟨j+1,kl,lv,lm,L,zq48,zq48,zq54,rfl,HN,HF⟩
end
theorem IN.ks {S : Nat→Prop} {w0 W:World} {b o:Nat} {l:List Int} (h:IN w0 b o l) (hb:¬ S b) (k:KS S w0 W):IN W b o l :=
 ⟨fun i hi=>by
  rw [← h.cell i hi];unfold World.cell?;rw [k.2 b h.lt hb],Nat.lt_of_lt_of_le h.lt k.1,h.u8,h.max⟩
theorem IN.backks {S : Nat→Prop} {w0 W:World} {b o:Nat} {l:List Int} (h:IN W b o l) (hb:¬ S b) (k:KS S w0 W) (hlt:b<w0.heap.size):IN w0 b o l :=
 ⟨fun i hi=>by
  rw [← h.cell i hi];unfold World.cell?;rw [k.2 b hlt hb],hlt,h.u8,h.max⟩
set_option maxHeartbeats 16000000 in
set_option maxRecDepth 100000 in
theorem oe_calls (un : List Int→Option (Option (List Int))) (a0 a1:Bool) (a2:Int) (b o c:Nat) (l:List Int) (wL w0 w:World) (S:Nat→Prop) (Inv:List OC→World→Prop) (C1:Value) (cs:List OC) (R:Nat) (KA:Option Addr) (ks kc:Nat)
 (hUN:UNc un a0 a1 a2) (hT:Laid wL) (hL:∀ r W,Inv r W→Below wL.heap.size wL W) (hnb:¬ S b) (hI:IN w0 b o l) (hc:l.length≤c) (hcm:c≤9223372036854775807) (hS:¬ S w.heap.size) (hE:oE a0 un l R=some cs) (hInv:Inv cs w)
 (hbel:∀ r W,Inv r W→KS S w0 W) (hcar:∀ r W W',Inv r W→Below W.heap.size W W'→Inv r W')
 (hcb:∀ (x:OC) (r:List OC) (W:World) (A:Option Addr) (n:Nat) (o1:Nat),Inv (x :: r) W→(x :: r) <:+ cs→Kd.C (Kd.int .u8) W A x.kx.length x.kx→IN w0 b o1 ((l.drop x.vo).take x.vn)→((l.drop x.vo).take x.vn).length=x.vn→w.heap.size<W.heap.size→Calls Tryd.prog 31 #[.slice A x.kx.length n, .slice (some ⟨b,o1,none⟩) x.vn x.vn, .int .i64 x.kd, .int .i64 (x.off:Int),C1] W fun e W'=>e = .returned .nilIface∧Inv r W'∧KS S W W')
 (hsk:ks=0∧R=0∨0<ks∧ks≤2147483647∧∀ W:World,Below w.heap.size w W→Calls Tryd.prog 58 #[.agg #[.bool a0, .bool a1, .int .i64 a2], .slice (some ⟨b,o,none⟩) l.length c, .slice KA ks kc] W fun e w'=>e = .returned (.int .i64 (R:Int))∧Below W.heap.size W w') :
 Calls Tryd.prog 48 #[.agg #[.bool a0, .bool a1, .int .i64 a2], .slice (some ⟨b,o,none⟩) l.length c, .func (.func 31) #[] #[C1], .slice KA ks kc] w fun e w'=>e = .returned .nilIface∧Inv [] w'∧KS S w w':=by
 obtain ⟨r,s,h1,hrr,h2,h3,hss,h4⟩:=oE_inv hE;have hlm:=hI.max;have hcf:=j4n w a0 a1 a2 93;have hB0:Below w.heap.size w (w.alloc (.cells #[.bool a0, .bool a1, .int .i64 a2] 93)):=(Below.refl w.heap.size w).alloc (Nat.le_refl _) (.cells #[.bool a0, .bool a1, .int .i64 a2] 93);have hgs:w.heap.size<(w.alloc (.cells #[.bool a0, .bool a1, .int .i64 a2] 93)).heap.size:=World.block_lt_of_cell? _ _ hcf.1;have hIv1:=hcar _ _ _ hInv hB0;have HIV:=mk0 hIv1;have HB0:=mk0 hB0;have HBE:=mk0 hbel;have HCA:=mk0 hcar;have HCB:=mk0 hcb;have HS:=mk0 hS;have HT:=mk0 hT;have HL:=mk0 hL;have HNB:=mk0 hnb;have HI:=mk0 hI;have HC:=mk0 (And.intro hc hcm);have HH:=mk0 h4;have HSK:=mk0 hsk;have HUN:=mk0 hUN;have HR:=mk0 (And.intro h1 (And.intro h2 h3));clear hE hInv hIv1 hbel hcar hcb hS hT hL hnb hI hc hcm h1 h2 h3 h4 hsk hUN hB0;go_enter Tryd.func48,Tryd.ntmps48;go_upto_region 1 with (fail)
 obtain ⟨gc,hgc⟩:∃ gc,gc=w.heap.size:=⟨_,rfl⟩;rw [← hgc] at hcf hgs ⊢
 generalize hw1:w.alloc (.cells #[.bool a0, .bool a1, .int .i64 a2] 93)=w1 at hcf HIV HB0 hgs ⊢
 have HGC:=mk0 hgc;have hgl:=hgs;obtain ⟨hc0,hc1,hc2⟩:=hcf;have HCF:=mk0 (And.intro hc0 (And.intro hc1 hc2));clear hgc hw1 hgs hc0 hc1 hc2;have hrb:(R:Int)≤2147483647:=by omega
 go_upto_if 31 with (fail)
 go_cut [9,10] (fun v9 v10 wc=>v9 = .int .i64 (R:Int)∧(∃ z:Value,v10=z)∧Aside0 (Below w1.heap.size w1 wc))
 case first =>
  rcases HSK.out with ⟨h0,h0'⟩|⟨h0,h0b,hsk⟩
  ·subst h0;subst h0';go_wp2;go_meet
   case rel=>exact ⟨rfl,⟨_,rfl⟩,⟨Below.refl _ _⟩⟩
  ·have q1:decide ((0:Int)<(ks:Int))=true:=decide_eq_true (by omega);have q2:decide ((ks:Int)>0)=true:=decide_eq_true (by omega);have q3:decide (0<ks)=true:=decide_eq_true h0;have f1:((R:Int) == -1)=false:=beq_eq_false_iff_ne.mpr (by omega);have f2:decide ((R:Int) = -1)=false:=decide_eq_false (by omega);have hc0:=HCF.out.1;have hc1:=HCF.out.2.1;have hc2:=HCF.out.2.2;have HX:=mk0 (hsk _ HB0.out);clear hsk h0 h0b;(try simp only [q3]);(try rw [q3]);go_wp2_with (first|(go_at_call 58;(with_reducible refine HX.out.mono ?_);rintro e_ w2 ⟨rfl,hb⟩;have K:=mk0 hb;clear hb))
   go_meet
   case rel=>exact ⟨rfl,⟨_,rfl⟩,K⟩
 case rest =>
  obtain ⟨rfl,⟨z,rfl⟩,HB1⟩:=hcut;have hc0:=(j2g HB1.out hgl).trans HCF.out.1;have hc1:=(j2g HB1.out hgl).trans HCF.out.2.1;have hc2:=(j2g HB1.out hgl).trans HCF.out.2.2;have hglc:=Nat.lt_of_lt_of_le hgl HB1.out.size;have HIVc:=mk0 (HCA.out _ _ _ HIV.out HB1.out);have HKc:=mk0 (KS.below (S:=S) (j1o HB0.out HB1.out));have HBc:=mk0 (HBE.out _ _ HIVc.out);obtain ⟨o1,hcut,hI1,hcc⟩:=j3v HI.out c R (by omega) HC.out.1;rw [List.length_drop] at hcut hcc;have HI1:=mk0 hI1;have HNT:=mk0 (fun (W:World) (hb:Below wc.heap.size wc W)=>nt_calls a0 a1 a2 b o1 (l.length - R) (c - R) (l.drop R) W (HI1.out.ks HNB.out (HBc.out.trans (KS.below hb))) List.length_drop);rw [HR.out.1] at HNT;have HD:=mk0 (j1h (Below.refl wc.heap.size wc));clear hI1 hcc HIV HCF HSK;go_wp2_with fail
  refine j3t (n:=6) (S:=fun w'=>w'.cell? ⟨gc,0,none⟩=some (.bool a0)∧w'.cell? ⟨gc,1,none⟩=some (.bool a1)∧w'.cell? ⟨gc,2,none⟩=some (.int .i64 a2)) (ds:=[4]) #[false,false,false,false,false,false] zq7 rfl rfl ⟨hc0,hc1,hc2⟩ (fun hHeld=>?_)
  generalize wc.drew=w2 at HD hHeld ⊢
  refine pure_ (i:=1) (N:=some 41) (v:=?_) (a':=?_) #[false,true,false,false,false,false] rfl rfl zq7 (fun _ _ _ h=>h) (Or.inl ⟨by rfl,?_⟩) ?_ ?_;rotate_left
  ·exact zl2
  rotate_left
  ·exact zl0
  refine pure_ (i:=2) (N:=some 42) (v:=?_) (a':=?_) #[false,true,true,false,false,false] rfl rfl zq7 (fun _ _ _ h=>h) (Or.inl ⟨by rfl,?_⟩) ?_ ?_;rotate_left
  ·exact zl2
  rotate_left
  ·exact zl0
  refine pure_ (i:=3) (N:=some 43) (v:=?_) (a':=?_) #[false,true,true,true,false,false] rfl rfl zq7 (fun _ _ _ h=>h) (Or.inl ⟨by rfl,?_⟩) ?_ ?_;rotate_left
  ·exact zl2
  rotate_left
  ·exact zl0
  refine take_ (i:=0) (N:=some 40) (v:=?_) (a':=?_) #[true,true,true,true,false,false] rfl rfl zq7 (fun _ _ _ h=>h) (Or.inl ⟨by rfl,?_⟩) hHeld ?_ ?_;rotate_left
  ·exact zl12
  rotate_left
  ·exact zl0
  refine last_ (i:=4) (N:=some 44) #[true,true,true,true,true,false] rfl rfl zq7 zq50 (fun K hK=>?_);refine goes_ Tryd.func59 zq7 rfl #[.agg #[.bool a0, .bool a1, .int .i64 a2], .slice (some ⟨b,o1,none⟩) (l.length - R) (c - R)] (by rfl) rfl rfl zq19 ?_;with_reducible refine (HNT.out _ HD.out).mono ?_
  rintro e_ w3 ⟨rfl,hb⟩;refine ⟨_,rfl,?_⟩;have HB3:=mk0 (j1o HD.out hb);have hd0:=(j2g HB3.out hglc).trans hc0;have hd1:=(j2g HB3.out hglc).trans hc1;have hd2:=(j2g HB3.out hglc).trans hc2;clear hb hc0 hc1 hc2;refine hK.out _ _ ?_;clear hK K;refine norm_ (a':=?_) ?_ ?_;rotate_left
  ·show Act.put _ (some 44) _=_
   exact zl0
  refine pure_ (i:=5) (N:=some 11) (v:=?_) (a':=?_) #[true,true,true,true,true,true] rfl rfl zq7 (fun _ _ _ h=>h) (Or.inl ⟨by rfl,?_⟩) ?_ ?_;rotate_left
  ·exact zl2
  rotate_left
  ·exact zl0
  refine done_ zq7 ?_;clear hcut HNT hHeld;have HIV3:=mk0 (HCA.out _ _ _ HIVc.out HB3.out);have HK3:=mk0 (HKc.out.trans (KS.below HB3.out));have HBw3:=mk0 (HBE.out _ _ HIV3.out);have hgl3:=Nat.lt_of_lt_of_le hglc HB3.out.size;have hcy:=(HI.out.ks HNB.out HBw3.out).cell (R+r) hrr;rw [HR.out.2.1] at hcy;have r1:((r:Int) == -1)=false:=beq_eq_false_iff_ne.mpr (by omega);have r2:decide ((r:Int) = -1)=false:=decide_eq_false (by omega);have t2:(0≤(R:Int)+(r:Int))=True:=eq_true (by omega);have t3:((R:Int)+(r:Int)<(l.length:Int))=True:=eq_true (by omega);have hrb2:(r:Int)≤2147483647:=by omega
  obtain ⟨o2,hcut,hI2,hcc⟩:=j3v HI.out c (R+r+1) (by omega) HC.out.1;rw [List.length_drop] at hcut hcc
  push_cast at hcut
  have HI2:=mk0 hI2;have HNT2:=mk0 (fun (W:World) (hb:Below w3.heap.size w3 W)=>nt_calls a0 a1 a2 b o2 (l.length - (R+r+1)) (c - (R+r+1)) (l.drop (R+r+1)) W (HI2.out.ks HNB.out (HBw3.out.trans (KS.below hb))) List.length_drop);rw [HR.out.2.2] at HNT2;have HD4:=mk0 (j1h (Below.refl w3.heap.size w3));clear hI2 hcc HIVc HKc HBc;go_wp2_with fail
  refine j3t (n:=6) (S:=fun w'=>w'.cell? ⟨gc,0,none⟩=some (.bool a0)∧w'.cell? ⟨gc,1,none⟩=some (.bool a1)∧w'.cell? ⟨gc,2,none⟩=some (.int .i64 a2)) (ds:=[4]) #[false,false,false,false,false,false] zq7 rfl rfl ⟨hd0,hd1,hd2⟩ (fun hHeld=>?_)
  generalize w3.drew=w4 at HD4 hHeld ⊢
  refine pure_ (i:=1) (N:=some 60) (v:=?_) (a':=?_) #[false,true,false,false,false,false] rfl rfl zq7 (fun _ _ _ h=>h) (Or.inl ⟨by rfl,?_⟩) ?_ ?_;rotate_left
  ·exact zl2
  rotate_left
  ·exact zl0
  refine pure_ (i:=2) (N:=some 61) (v:=?_) (a':=?_) #[false,true,true,false,false,false] rfl rfl zq7 (fun _ _ _ h=>h) (Or.inl ⟨by rfl,?_⟩) ?_ ?_;rotate_left
  ·exact zl2
  rotate_left
  ·exact zl0
  refine pure_ (i:=3) (N:=some 62) (v:=?_) (a':=?_) #[false,true,true,true,false,false] rfl rfl zq7 (fun _ _ _ h=>h) (Or.inl ⟨by rfl,?_⟩) ?_ ?_;rotate_left
  ·exact zl2
  rotate_left
  ·exact zl0
  refine take_ (i:=0) (N:=some 59) (v:=?_) (a':=?_) #[true,true,true,true,false,false] rfl rfl zq7 (fun _ _ _ h=>h) (Or.inl ⟨by rfl,?_⟩) hHeld ?_ ?_;rotate_left
  ·exact zl12
  rotate_left
  ·exact zl0
  refine last_ (i:=4) (N:=some 63) #[true,true,true,true,true,false] rfl rfl zq7 zq50 (fun K hK=>?_);refine goes_ Tryd.func59 zq7 rfl #[.agg #[.bool a0, .bool a1, .int .i64 a2], .slice (some ⟨b,o2,none⟩) (l.length - (R+r+1)) (c - (R+r+1))] (by rfl) rfl rfl zq19 ?_;with_reducible refine (HNT2.out _ HD4.out).mono ?_
  rintro e_ w5 ⟨rfl,hb⟩;refine ⟨_,rfl,?_⟩;have HB5:=mk0 (j1o HD4.out hb);have hx0:=(j2g HB5.out hgl3).trans hd0;have hx1:=(j2g HB5.out hgl3).trans hd1;have hx2:=(j2g HB5.out hgl3).trans hd2;clear hb hd0 hd1 hd2 hcy;refine hK.out _ _ ?_;clear hK K;refine norm_ (a':=?_) ?_ ?_;rotate_left
  ·show Act.put _ (some 63) _=_
   exact zl0
  refine pure_ (i:=5) (N:=some 12) (v:=?_) (a':=?_) #[true,true,true,true,true,true] rfl rfl zq7 (fun _ _ _ h=>h) (Or.inl ⟨by rfl,?_⟩) ?_ ?_;rotate_left
  ·exact zl2
  rotate_left
  ·exact zl0
  refine done_ zq7 ?_;clear hcut HNT2 hHeld;have HIV5:=mk0 (HCA.out _ _ _ HIV3.out HB5.out);have HK5:=mk0 (HK3.out.trans (KS.below HB5.out));have HBw5:=mk0 (HBE.out _ _ HIV5.out);have hgl5:=Nat.lt_of_lt_of_le hgl3 HB5.out.size;have hcz:=(HI.out.ks HNB.out HBw5.out).cell (R+r+1+s) hss;have s1:((s:Int) == -1)=false:=beq_eq_false_iff_ne.mpr (by omega);have s2:decide ((s:Int) = -1)=false:=decide_eq_false (by omega);have u2:(0≤(R:Int)+(r:Int)+1+(s:Int))=True:=eq_true (by omega);have u3:((R:Int)+(r:Int)+1+(s:Int)<(l.length:Int))=True:=eq_true (by omega);have hsb2:(s:Int)≤2147483647:=by omega
  have HCF5:=mk0 (And.intro hx0 (And.intro hx1 hx2));clear HIV3 HK3 HBw3 hx0 hx1 hx2;rcases HH.out with ⟨h5,h6⟩|⟨h5,h6⟩
  ·rw [h5] at hcz;have H6:=mk0 h6;clear h5 h6 HH;go_wp2;go_ret;exact ⟨rfl,H6.out ▸ HIV5.out,HK5.out⟩
  ·have HREL:=mk0 h6;have n1:(l.getD (R+r+1+s) 0 == 125)=false:=beq_eq_false_iff_ne.mpr h5;have m1:decide (l.getD (R+r+1+s) 0=125)=false:=decide_eq_false h5
   generalize l.getD (R+r+1+s) 0=x at hcz n1 m1
   clear h5 h6 HH;go_wp2;clear hcz n1 m1 s1 s2 r1 r2 t2 t3 u2 u3;have hnS:Aside0 (¬ S gc):=⟨by rw [HGC.out];exact HS.out⟩;go_loopg [9] (l.length) (fun kq v9 w'=>∃ (p:Nat) (rem:List OC),v9 = .int .i64 (p:Int)∧Aside0 (oM a0 un l kq p=some rem∧rem <:+ cs)∧Aside0 (Inv rem w')∧Aside0 (KS S w5 w'))
   case atStart=>exact ⟨R+r+1+s,cs,(by go_num),⟨HREL.out,List.suffix_refl _⟩,HIV5,⟨KS.refl _ _⟩⟩
   case round =>
    clear HREL hrr hss HIV5;obtain ⟨p,rem,rfl,HP,HV,HK⟩:=hrel;cases gk with
    | zero=>exact absurd HP.out.1 (by simp [oM])
    | succ kr =>
     obtain ⟨k,q,rr,u,g,hA,hB,hu,hul,hfin⟩:=oM_inv HP.out.1;obtain ⟨m,t,es,hpl,h34,hse,hm1,hml,hkey,ht,htl,h58,hq⟩:=oA_inv hA;obtain ⟨hrr2,hg,hok,hrl⟩:=oB_inv hB;subst hq;have hx0:=HK.out.cell (a:=⟨gc,0,none⟩) hnS.out HCF5.out.1;have hx1:=HK.out.cell (a:=⟨gc,1,none⟩) hnS.out HCF5.out.2.1;have hx2:=HK.out.cell (a:=⟨gc,2,none⟩) hnS.out HCF5.out.2.2;have hglr:=Nat.lt_of_lt_of_le hgl5 HK.out.1;have HBr:=mk0 (HBE.out _ _ HV.out);have hcx:=(HI.out.ks HNB.out HBr.out).cell p hpl;rw [h34] at hcx;have hgr:=gT_range (sq:=a0) hrl;have hgs:=fun h1 h2=>gT_str (sq:=a0) (l:=l.drop (p+1+m+t+1)) (off:=rr) h1 h2
     rw [hg] at hgr hgs;rw [List.length_drop] at hgr hrl
     have hvn:vN g rr≤g.en:=by
      unfold vN;split<;>omega
     have hvbn:vB g rr+vN g rr≤g.en:=by
      have h5:=hgs;unfold vB vN;by_cases hk1:g.kd=1
      rotate_left
      ·rw [if_neg hk1,if_neg hk1];omega
      have:=h5 hk1 hok;rw [if_pos hk1,if_pos hk1];omega
     have HVL:Aside0 (((l.drop (p+1+m+t+1+vB g rr)).take (vN g rr)).length=vN g rr):=⟨by rw [List.length_take,List.length_drop];omega⟩;have HA:=mk0 (And.intro hkey (And.intro ht h58));have HB2:=mk0 (And.intro hrr2 (And.intro hg hok));have HU:=mk0 hu;have HFIN:=mk0 hfin;clear hA hB hkey ht h58 hrr2 hg hok hu hfin h34;obtain ⟨o3,hcut,hI3,hcc⟩:=j3v HI.out c (p+1) (by omega) HC.out.1;rw [List.length_drop] at hcut hcc
     push_cast at hcut
     have HI3:=mk0 hI3;have HCC:=mk0 hcc;have HSE:=mk0 (fun (W:World) (hb:Below wr.heap.size wr W)=>se_c a0 a1 a2 b o3 (l.length - (p+1)) (c - (p+1)) (l.drop (p+1)) 34 W (HI3.out.ks HNB.out (HBr.out.trans (KS.below hb))) List.length_drop HCC.out (.inl rfl));rw [hse] at HSE;have HD6:=mk0 (j1h (Below.refl wr.heap.size wr));have t2:(0≤(p:Int))=True:=eq_true (by omega);have t3:((p:Int)<(l.length:Int))=True:=eq_true (by omega);clear hcc hI3 hse;go_wp2_with fail
     refine j3t (n:=11) (S:=fun w'=>w'.cell? ⟨gc,0,none⟩=some (.bool a0)∧w'.cell? ⟨gc,1,none⟩=some (.bool a1)∧w'.cell? ⟨gc,2,none⟩=some (.int .i64 a2)) (ds:=[5]) #[false,false,false,false,false,false,false,false,false,false,false] zq7 rfl rfl ⟨hx0,hx1,hx2⟩ (fun hHeld=>?_)
     generalize wr.drew=w6 at HD6 hHeld ⊢
     refine pure_ (i:=1) (N:=some 101) (v:=?_) (a':=?_) #[false,true,false,false,false,false,false,false,false,false,false] rfl rfl zq7 (fun _ _ _ h=>h) (Or.inl ⟨by rfl,?_⟩) ?_ ?_;rotate_left
     ·exact zl2
     rotate_left
     ·exact zl0
     refine pure_ (i:=2) (N:=some 102) (v:=?_) (a':=?_) #[false,true,true,false,false,false,false,false,false,false,false] rfl rfl zq7 (fun _ _ _ h=>h) (Or.inl ⟨by rfl,?_⟩) ?_ ?_;rotate_left
     ·exact zl2
     rotate_left
     ·exact zl0
     refine pure_ (i:=3) (N:=some 103) (v:=?_) (a':=?_) #[false,true,true,true,false,false,false,false,false,false,false] rfl rfl zq7 (fun _ _ _ h=>h) (Or.inl ⟨by rfl,?_⟩) ?_ ?_;rotate_left
     ·exact zl2
     rotate_left
     ·exact zl0
     refine pure_ (i:=4) (N:=some 104) (v:=?_) (a':=?_) #[false,true,true,true,true,false,false,false,false,false,false] rfl rfl zq7 (fun _ _ _ h=>h) (Or.inl ⟨by rfl,?_⟩) ?_ ?_;rotate_left
     ·exact zl2
     rotate_left
     ·exact zl0
     refine take_ (i:=0) (N:=some 100) (v:=?_) (a':=?_) #[true,true,true,true,true,false,false,false,false,false,false] rfl rfl zq7 (fun _ _ _ h=>h) (Or.inl ⟨by rfl,?_⟩) hHeld ?_ ?_;rotate_left
     ·exact zl12
     rotate_left
     ·exact zl0
     refine last_ (i:=5) (N:=some 105) #[true,true,true,true,true,true,false,false,false,false,false] rfl rfl zq7 zq50 (fun K hK=>?_);refine goes_ Tryd.func60 zq7 rfl #[.agg #[.bool a0, .bool a1, .int .i64 a2], .slice (some ⟨b,o3,none⟩) (l.length - (p+1)) (c - (p+1)), .int .u8 34] (by rfl) rfl rfl zq19 ?_;with_reducible refine (HSE.out _ HD6.out).mono ?_
     rintro e_ w7 ⟨rfl,hb⟩;refine ⟨_,rfl,?_⟩;have HB7:=mk0 (j1o HD6.out hb);have hd0:=(j2g HB7.out hglr).trans hx0;have hd1:=(j2g HB7.out hglr).trans hx1;have hd2:=(j2g HB7.out hglr).trans hx2;clear hb hx0 hx1 hx2 hcx;refine hK.out _ _ ?_;clear hK K;refine norm_ (a':=?_) ?_ ?_;rotate_left
     ·show Act.put _ (some 105) _=_
      exact zl0
     refine pure_ (i:=6) (N:=some 99) (v:=?_) (a':=?_) #[true,true,true,true,true,true,true,false,false,false,false] rfl rfl zq7 (fun _ _ _ h=>h) (Or.inl ⟨by rfl,?_⟩) ?_ ?_;rotate_left
     ·exact zl2
     rotate_left
     ·exact zl0
     refine pure_ (i:=7) (N:=some 106) (v:=?_) (a':=?_) #[true,true,true,true,true,true,true,true,false,false,false] rfl rfl zq7 (fun _ _ _ h=>h) (Or.inl ⟨by rfl,?_⟩) ?_ ?_;rotate_left
     ·exact zl2
     rotate_left
     ·exact zl0
     refine pure_ (i:=8) (N:=some 107) (v:=?_) (a':=?_) #[true,true,true,true,true,true,true,true,true,false,false] rfl rfl zq7 (fun _ _ _ h=>h) (Or.inl ⟨by rfl,?_⟩) ?_ ?_;rotate_left
     ·exact zl2
     rotate_left
     ·exact zl0
     refine pure_ (i:=9) (N:=some 16) (v:=?_) (a':=?_) #[true,true,true,true,true,true,true,true,true,true,false] rfl rfl zq7 (fun _ _ _ h=>h) (Or.inl ⟨by rfl,?_⟩) ?_ ?_;rotate_left
     ·exact zl2
     rotate_left
     ·exact zl0
     refine pure_ (i:=10) (N:=some 17) (v:=?_) (a':=?_) #[true,true,true,true,true,true,true,true,true,true,true] rfl rfl zq7 (fun _ _ _ h=>h) (Or.inl ⟨by rfl,?_⟩) ?_ ?_;rotate_left
     ·exact zl2
     rotate_left
     ·exact zl0
     refine done_ zq7 ?_;clear hcut HSE hHeld t2 t3;have f1:((m:Int) == -1)=false:=beq_eq_false_iff_ne.mpr (by omega);have f2:decide ((m:Int) = -1)=false:=decide_eq_false (by omega);have hmb:(m:Int)≤2147483647:=by omega
     have hpb:(p:Int)≤2147483647:=by omega
     have hgl7:=Nat.lt_of_lt_of_le hglr HB7.out.size;have HV7:=mk0 (HCA.out _ _ _ HV.out HB7.out);have HBw7:=mk0 (HBE.out _ _ HV7.out);have HK7:=mk0 (HK.out.trans (KS.below HB7.out));obtain ⟨o4,hcut3,hI4,hcc3⟩:=cut_mid HI.out c (p+1) (p+1+(m - 1)) (by omega) (by omega) HC.out.1;rw [show p+1+(m - 1) - (p+1)=m - 1 by omega] at hcut3 hI4 hcc3;rw [show ((p+1:Nat):Int)=(p:Int)+1 by omega,show ((p+1+(m - 1):Nat):Int)=(p:Int)+1+(m:Int) - 1 by omega] at hcut3;obtain ⟨kx,hkx⟩:∃ kx,kx=(l.drop (p+1)).take (m - 1):=⟨_,rfl⟩;have hA1:=HA.out.1;rw [← hkx] at hA1 hI4;have hkxl:kx.length=m - 1:=by rw [hkx,List.length_take,List.length_drop];omega
     have HKEY:=mk0 hA1;have HKL:=mk0 hkxl;have HI4:=mk0 hI4;have HCC4:=mk0 (And.intro hcc3 (show c - (p+1)≤9223372036854775807 by have:=HC.out;omega));have HCF7:=mk0 (And.intro hd0 (And.intro hd1 hd2));clear hkx hI4 hcc3 hkxl hA1 hd0 hd1 hd2 HV HK HBr;go_upto_if 122 with (fail)
     go_cut [13] (fun v13 wc=>∃ (A:Option Addr) (n:Nat),v13 = .slice A k.length n∧Aside0 (Kd.C (Kd.int .u8) wc A k.length k)∧Aside0 (Below w7.heap.size w7 wc))
     case first =>
      cases es with
      | false =>
       have hk:kx=k:=by
        have:=HKEY.out;rw [oKey,if_neg zq50] at this;exact Option.some.inj this
       have HCK:Aside0 (Kd.C (Kd.int .u8) w7 (some ⟨b,o4,none⟩) k.length k):=⟨by rw [← hk];exact (HI4.out.ks HNB.out HBw7.out).C⟩;have hkl:m - 1=k.length:=by rw [← hk];exact HKL.out.symm
       clear hk;go_wp2;go_meet
       case rel=>exact ⟨some ⟨b,o4,none⟩,c - (p+1),by rw [← hkl],HCK,⟨Below.refl _ _⟩⟩
      | true =>
       have hk:un kx=some (some k):=by
        have:=HKEY.out;rw [oKey,if_pos rfl] at this;obtain ⟨res,h1,h2⟩:=Option.bind_eq_some_iff.mp this;rw [h1];exact congrArg some h2
       go_upto_region 40 with (fail)
       obtain ⟨w8,hw8⟩:∃ w8,w8=w7.alloc (.cells #[.int .u8 0, .int .u8 0, .int .u8 0, .int .u8 0, .int .u8 0, .int .u8 0, .int .u8 0, .int .u8 0, .int .u8 0, .int .u8 0, .int .u8 0, .int .u8 0, .int .u8 0, .int .u8 0, .int .u8 0, .int .u8 0, .int .u8 0, .int .u8 0, .int .u8 0, .int .u8 0, .int .u8 0, .int .u8 0, .int .u8 0, .int .u8 0, .int .u8 0, .int .u8 0, .int .u8 0, .int .u8 0, .int .u8 0, .int .u8 0, .int .u8 0, .int .u8 0, .int .u8 0, .int .u8 0, .int .u8 0, .int .u8 0, .int .u8 0, .int .u8 0, .int .u8 0, .int .u8 0, .int .u8 0, .int .u8 0, .int .u8 0, .int .u8 0, .int .u8 0, .int .u8 0, .int .u8 0, .int .u8 0, .int .u8 0, .int .u8 0, .int .u8 0, .int .u8 0, .int .u8 0, .int .u8 0, .int .u8 0, .int .u8 0, .int .u8 0, .int .u8 0, .int .u8 0, .int .u8 0, .int .u8 0, .int .u8 0, .int .u8 0, .int .u8 0] 106):=⟨_,rfl⟩;have hB8:Below w7.heap.size w7 w8:=by rw [hw8];exact j1f (Below.refl _ _) _
       have hF0:BF w8 w7 w8 w7.heap.size 106 (List.replicate 64 0):=by rw [hw8];exact ⟨j4m w7 _,Nat.le_refl _,j1f (Below.refl _ _) _,KeepBut.refl _ _ _⟩
       rw [← hw8];clear hw8;have HB8:=mk0 hB8;have HF0:=mk0 hF0;have hy0:=(j2g HB8.out hgl7).trans HCF7.out.1;have hy1:=(j2g HB8.out hgl7).trans HCF7.out.2.1;have hy2:=(j2g HB8.out hgl7).trans HCF7.out.2.2
       have HUNX:Aside0 (∀ W:World,Below w8.heap.size w8 W→Calls Tryd.prog 61 #[.agg #[.bool a0, .bool a1, .int .i64 a2], .slice (some ⟨b,o4,none⟩) (m - 1) (c - (p+1)), .slice (some ⟨w7.heap.size,0,none⟩) 64 64] W fun e w'=>UP2 W w7 w7.heap.size 106 64 (some k) e w'):=⟨fun W hb=>by
        have k0:=HF0.out.carry hb;have:=HUN.out kx (some k) b o4 (c - (p+1)) w7.heap.size 106 (List.replicate 64 0) w7 W (HT.out.below (HL.out _ _ HV7.out)) k0.below (HI4.out.ks HNB.out HBw7.out) (by rw [HKL.out];exact HCC4.out.1) HCC4.out.2 ⟨k0.blk,k0.at_,k0.below,KeepBut.refl _ _ _⟩ (by simp) hk;rw [HKL.out] at this;exact this⟩
       have HD8:=mk0 (j1h (Below.refl w8.heap.size w8));clear hB8 hF0 hk;go_wp2_with fail
       refine j3t (n:=9) (S:=fun w'=>w'.cell? ⟨gc,0,none⟩=some (.bool a0)∧w'.cell? ⟨gc,1,none⟩=some (.bool a1)∧w'.cell? ⟨gc,2,none⟩=some (.int .i64 a2)) (ds:=[3]) #[false,false,false,false,false,false,false,false,false] zq7 rfl rfl ⟨hy0,hy1,hy2⟩ (fun hHeld=>?_)
       generalize w8.drew=w9 at HD8 hHeld ⊢
       refine pure_ (i:=1) (N:=some 125) (v:=?_) (a':=?_) #[false,true,false,false,false,false,false,false,false] rfl rfl zq7 (fun _ _ _ h=>h) (Or.inl ⟨by rfl,?_⟩) ?_ ?_;rotate_left
       ·exact zl2
       rotate_left
       ·exact zl0
       refine pure_ (i:=2) (N:=some 126) (v:=?_) (a':=?_) #[false,true,true,false,false,false,false,false,false] rfl rfl zq7 (fun _ _ _ h=>h) (Or.inl ⟨by rfl,?_⟩) ?_ ?_;rotate_left
       ·exact zl2
       rotate_left
       ·exact zl0
       refine take_ (i:=0) (N:=some 124) (v:=?_) (a':=?_) #[true,true,true,false,false,false,false,false,false] rfl rfl zq7 (fun _ _ _ h=>h) (Or.inl ⟨by rfl,?_⟩) hHeld ?_ ?_;rotate_left
       ·exact zl12
       rotate_left
       ·exact zl0
       refine last_ (i:=3) (N:=some 127) #[true,true,true,true,false,false,false,false,false] rfl rfl zq7 zq50 (fun K hK=>?_);refine goes_ Tryd.func61 zq7 rfl #[.agg #[.bool a0, .bool a1, .int .i64 a2], .slice (some ⟨b,o4,none⟩) (m - 1) (c - (p+1)), .slice (some ⟨w7.heap.size,0,none⟩) 64 64] (by rfl) rfl rfl zq19 ?_;with_reducible refine (HUNX.out _ HD8.out).mono ?_
       rintro e_ w10 ⟨⟨hb,A1,c1,rfl,hc1,hC1⟩,L2,hL2,hbf⟩;refine ⟨_,rfl,?_⟩;have HB10:=mk0 hb;have HC1:=mk0 hC1;clear hb hc1 hC1 hL2 hbf hy0 hy1 hy2;refine hK.out _ _ ?_;clear hK K;refine norm_ (a':=?_) ?_ ?_;rotate_left
       ·show Act.put _ (some 127) _=_
        exact zl0
       refine pure_ (i:=4) (N:=some 123) (v:=?_) (a':=?_) #[true,true,true,true,true,false,false,false,false] rfl rfl zq7 (fun _ _ _ h=>h) (Or.inl ⟨by rfl,?_⟩) ?_ ?_;rotate_left
       ·exact zl2
       rotate_left
       ·exact zl0
       refine pure_ (i:=5) (N:=some 128) (v:=?_) (a':=?_) #[true,true,true,true,true,true,false,false,false] rfl rfl zq7 (fun _ _ _ h=>h) (Or.inl ⟨by rfl,?_⟩) ?_ ?_;rotate_left
       ·exact zl2
       rotate_left
       ·exact zl0
       refine pure_ (i:=6) (N:=some 129) (v:=?_) (a':=?_) #[true,true,true,true,true,true,true,false,false] rfl rfl zq7 (fun _ _ _ h=>h) (Or.inl ⟨by rfl,?_⟩) ?_ ?_;rotate_left
       ·exact zl2
       rotate_left
       ·exact zl0
       refine pure_ (i:=7) (N:=some 19) (v:=?_) (a':=?_) #[true,true,true,true,true,true,true,true,false] rfl rfl zq7 (fun _ _ _ h=>h) (Or.inl ⟨by rfl,?_⟩) ?_ ?_;rotate_left
       ·exact zl2
       rotate_left
       ·exact zl0
       refine pure_ (i:=8) (N:=some 20) (v:=?_) (a':=?_) #[true,true,true,true,true,true,true,true,true] rfl rfl zq7 (fun _ _ _ h=>h) (Or.inl ⟨by rfl,?_⟩) ?_ ?_;rotate_left
       ·exact zl2
       rotate_left
       ·exact zl0
       refine done_ zq7 ?_;clear HUNX hHeld;go_wp2;go_meet
       case rel=>exact ⟨A1,c1,rfl,HC1,HB10⟩
     case rest =>
      obtain ⟨KA1,kn,rfl,HCK,HB11⟩:=hcut;have hgl11:=Nat.lt_of_lt_of_le hgl7 HB11.out.size;have HV11:=mk0 (HCA.out _ _ _ HV7.out HB11.out);have HBw11:=mk0 (HBE.out _ _ HV11.out);have HK11:=mk0 (HK7.out.trans (KS.below HB11.out));have hc0:=(j2g HB11.out hgl7).trans HCF7.out.1;have hc1:=(j2g HB11.out hgl7).trans HCF7.out.2.1;have hc2:=(j2g HB11.out hgl7).trans HCF7.out.2.2;obtain ⟨o5,hcut,hI5,hcc⟩:=j3v HI.out c (p+1+m) (by omega) HC.out.1;rw [List.length_drop] at hcut hcc
      push_cast at hcut
      have HI5:=mk0 hI5;have HNT5:=mk0 (fun (W:World) (hb:Below wc.heap.size wc W)=>nt_calls a0 a1 a2 b o5 (l.length - (p+1+m)) (c - (p+1+m)) (l.drop (p+1+m)) W (HI5.out.ks HNB.out (HBw11.out.trans (KS.below hb))) List.length_drop);rw [HA.out.2.1] at HNT5;have HD11:=mk0 (j1h (Below.refl wc.heap.size wc));clear hI5 hcc HV7 HBw7 HK7 HKEY HKL HI4 HCC4 hcut3 HCF7;go_wp2_with fail
      refine j3t (n:=6) (S:=fun w'=>w'.cell? ⟨gc,0,none⟩=some (.bool a0)∧w'.cell? ⟨gc,1,none⟩=some (.bool a1)∧w'.cell? ⟨gc,2,none⟩=some (.int .i64 a2)) (ds:=[4]) #[false,false,false,false,false,false] zq7 rfl rfl ⟨hc0,hc1,hc2⟩ (fun hHeld=>?_)
      generalize wc.drew=w12 at HD11 hHeld ⊢
      refine pure_ (i:=1) (N:=some 135) (v:=?_) (a':=?_) #[false,true,false,false,false,false] rfl rfl zq7 (fun _ _ _ h=>h) (Or.inl ⟨by rfl,?_⟩) ?_ ?_;rotate_left
      ·exact zl2
      rotate_left
      ·exact zl0
      refine pure_ (i:=2) (N:=some 136) (v:=?_) (a':=?_) #[false,true,true,false,false,false] rfl rfl zq7 (fun _ _ _ h=>h) (Or.inl ⟨by rfl,?_⟩) ?_ ?_;rotate_left
      ·exact zl2
      rotate_left
      ·exact zl0
      refine pure_ (i:=3) (N:=some 137) (v:=?_) (a':=?_) #[false,true,true,true,false,false] rfl rfl zq7 (fun _ _ _ h=>h) (Or.inl ⟨by rfl,?_⟩) ?_ ?_;rotate_left
      ·exact zl2
      rotate_left
      ·exact zl0
      refine take_ (i:=0) (N:=some 134) (v:=?_) (a':=?_) #[true,true,true,true,false,false] rfl rfl zq7 (fun _ _ _ h=>h) (Or.inl ⟨by rfl,?_⟩) hHeld ?_ ?_;rotate_left
      ·exact zl12
      rotate_left
      ·exact zl0
      refine last_ (i:=4) (N:=some 138) #[true,true,true,true,true,false] rfl rfl zq7 zq50 (fun K hK=>?_);refine goes_ Tryd.func59 zq7 rfl #[.agg #[.bool a0, .bool a1, .int .i64 a2], .slice (some ⟨b,o5,none⟩) (l.length - (p+1+m)) (c - (p+1+m))] (by rfl) rfl rfl zq19 ?_;with_reducible refine (HNT5.out _ HD11.out).mono ?_
      rintro e_ w13 ⟨rfl,hb⟩;refine ⟨_,rfl,?_⟩;have HB13:=mk0 (j1o HD11.out hb);have hd0:=(j2g HB13.out hgl11).trans hc0;have hd1:=(j2g HB13.out hgl11).trans hc1;have hd2:=(j2g HB13.out hgl11).trans hc2;clear hb hc0 hc1 hc2;refine hK.out _ _ ?_;clear hK K;refine norm_ (a':=?_) ?_ ?_;rotate_left
      ·show Act.put _ (some 138) _=_
       exact zl0
      refine pure_ (i:=5) (N:=some 21) (v:=?_) (a':=?_) #[true,true,true,true,true,true] rfl rfl zq7 (fun _ _ _ h=>h) (Or.inl ⟨by rfl,?_⟩) ?_ ?_;rotate_left
      ·exact zl2
      rotate_left
      ·exact zl0
      refine done_ zq7 ?_;clear hcut HNT5 hHeld;have hgl13:=Nat.lt_of_lt_of_le hgl11 HB13.out.size;have HV13:=mk0 (HCA.out _ _ _ HV11.out HB13.out);have HBw13:=mk0 (HBE.out _ _ HV13.out);have HK13:=mk0 (HK11.out.trans (KS.below HB13.out));have HCK13:=mk0 (Kd.C_below HCK.out HB13.out);have hcy:=(HI.out.ks HNB.out HBw13.out).cell (p+1+m+t) htl;rw [HA.out.2.2] at hcy;have g1:((t:Int) == -1)=false:=beq_eq_false_iff_ne.mpr (by omega);have g2:decide ((t:Int) = -1)=false:=decide_eq_false (by omega);have htb:(t:Int)≤2147483647:=by omega
      have t2:(0≤(p:Int)+1+(m:Int)+(t:Int))=True:=eq_true (by omega);have t3:((p:Int)+1+(m:Int)+(t:Int)<(l.length:Int))=True:=eq_true (by omega);obtain ⟨o6,hcut,hI6,hcc⟩:=j3v HI.out c (p+1+m+t+1) (by omega) HC.out.1;rw [List.length_drop] at hcut hcc
      push_cast at hcut
      have HI6:=mk0 hI6;have HCC6:=mk0 hcc;have HCG:=mk0 (fun (W:World) (hb:Below w13.heap.size w13 W)=>cg_ok a0 a1 a2 b o6 (l.length - (p+1+m+t+1)) (c - (p+1+m+t+1)) (l.drop (p+1+m+t+1)) none 0 W (HT.out.below (j1o (HL.out _ _ HV13.out) hb)) (HI6.out.ks HNB.out (HBw13.out.trans (KS.below hb))) List.length_drop HCC6.out rr HB2.out.1 (by rw [HB2.out.2.1];exact HB2.out.2.2));rw [HB2.out.2.1] at HCG;have hac:ocOf g (p+1+m+t+1) rr k=⟨k,p+1+m+t+1+vB g rr,vN g rr,g.kd,p+1+m+t+1+g.en⟩:=rfl;have HCBX:=mk0 (fun (rm:List OC) (W:World) (A:Option Addr) (n:Nat) (o1:Nat) (h1:Inv (ocOf g (p+1+m+t+1) rr k :: rm) W) (h2:(ocOf g (p+1+m+t+1) rr k :: rm) <:+ cs) (h3:Kd.C (Kd.int .u8) W A k.length k) (h4:IN w0 b o1 ((l.drop (p+1+m+t+1+vB g rr)).take (vN g rr))) (h6:gc<W.heap.size)=>HCB.out (ocOf g (p+1+m+t+1) rr k) rm W A n o1 h1 h2 h3 h4 HVL.out (by rw [← HGC.out];exact h6));simp only [hac] at HCBX;have HAC:=mk0 hac;obtain ⟨vb,hvb⟩:∃ vb,vb=vB g rr:=⟨_,rfl⟩;obtain ⟨vn,hvnq⟩:∃ vn,vn=vN g rr:=⟨_,rfl⟩;rw [← hvb,← hvnq] at HCG HCBX HAC;rw [← hvnq] at hvn;have heb:(g.en:Int)≤2147483647:=by omega
      have HD13:=mk0 (j1h (Below.refl w13.heap.size w13));clear hI6 hcc hac hvb hvnq HV11 HBw11 HK11 HCK;go_wp2_with fail
      refine j3t (n:=14) (S:=fun w'=>w'.cell? ⟨gc,0,none⟩=some (.bool a0)∧w'.cell? ⟨gc,1,none⟩=some (.bool a1)∧w'.cell? ⟨gc,2,none⟩=some (.int .i64 a2)) (ds:=[4]) #[false,false,false,false,false,false,false,false,false,false,false,false,false,false] zq7 rfl rfl ⟨hd0,hd1,hd2⟩ (fun hHeld=>?_)
      generalize w13.drew=w14 at HD13 hHeld ⊢
      refine pure_ (i:=1) (N:=some 155) (v:=?_) (a':=?_) #[false,true,false,false,false,false,false,false,false,false,false,false,false,false] rfl rfl zq7 (fun _ _ _ h=>h) (Or.inl ⟨by rfl,?_⟩) ?_ ?_;rotate_left
      ·exact zl2
      rotate_left
      ·exact zl0
      refine pure_ (i:=2) (N:=some 156) (v:=?_) (a':=?_) #[false,true,true,false,false,false,false,false,false,false,false,false,false,false] rfl rfl zq7 (fun _ _ _ h=>h) (Or.inl ⟨by rfl,?_⟩) ?_ ?_;rotate_left
      ·exact zl2
      rotate_left
      ·exact zl0
      refine pure_ (i:=3) (N:=some 157) (v:=?_) (a':=?_) #[false,true,true,true,false,false,false,false,false,false,false,false,false,false] rfl rfl zq7 (fun _ _ _ h=>h) (Or.inl ⟨by rfl,?_⟩) ?_ ?_;rotate_left
      ·exact zl2
      rotate_left
      ·exact zl0
      refine take_ (i:=0) (N:=some 154) (v:=?_) (a':=?_) #[true,true,true,true,false,false,false,false,false,false,false,false,false,false] rfl rfl zq7 (fun _ _ _ h=>h) (Or.inl ⟨by rfl,?_⟩) hHeld ?_ ?_;rotate_left
      ·exact zl12
      rotate_left
      ·exact zl0
      refine last_ (i:=4) (N:=some 158) #[true,true,true,true,true,false,false,false,false,false,false,false,false,false] rfl rfl zq7 zq50 (fun K hK=>?_);refine goes_ Tryd.func62 zq7 rfl #[.agg #[.bool a0, .bool a1, .int .i64 a2], .slice (some ⟨b,o6,none⟩) (l.length - (p+1+m+t+1)) (c - (p+1+m+t+1)), .slice none 0 0] (by rfl) rfl rfl zq19 ?_;with_reducible refine (HCG.out _ HD13.out).mono ?_
      rintro e_ w15 ⟨o7,rfl,hi,hb⟩;refine ⟨_,rfl,?_⟩;have HB15:=mk0 (j1o HD13.out hb);have HI7:Aside0 (IN w0 b o7 ((l.drop (p+1+m+t+1+vb)).take vn)):=⟨by rw [List.drop_drop] at hi;exact hi.backks HNB.out (HBw13.out.trans (KS.below HD13.out)) HI.out.lt⟩;have he0:=(j2g HB15.out hgl13).trans hd0;have he1:=(j2g HB15.out hgl13).trans hd1;have he2:=(j2g HB15.out hgl13).trans hd2;clear hb hi hd0 hd1 hd2 hcy;refine hK.out _ _ ?_;clear hK K;refine norm_ (a':=?_) ?_ ?_;rotate_left
      ·show Act.put _ (some 158) _=_
       exact zl0
      refine pure_ (i:=5) (N:=some 153) (v:=?_) (a':=?_) #[true,true,true,true,true,true,false,false,false,false,false,false,false,false] rfl rfl zq7 (fun _ _ _ h=>h) (Or.inl ⟨by rfl,?_⟩) ?_ ?_;rotate_left
      ·exact zl2
      rotate_left
      ·exact zl0
      refine pure_ (i:=6) (N:=some 159) (v:=?_) (a':=?_) #[true,true,true,true,true,true,true,false,false,false,false,false,false,false] rfl rfl zq7 (fun _ _ _ h=>h) (Or.inl ⟨by rfl,?_⟩) ?_ ?_;rotate_left
      ·exact zl2
      rotate_left
      ·exact zl0
      refine pure_ (i:=7) (N:=some 160) (v:=?_) (a':=?_) #[true,true,true,true,true,true,true,true,false,false,false,false,false,false] rfl rfl zq7 (fun _ _ _ h=>h) (Or.inl ⟨by rfl,?_⟩) ?_ ?_;rotate_left
      ·exact zl2
      rotate_left
      ·exact zl0
      refine pure_ (i:=8) (N:=some 161) (v:=?_) (a':=?_) #[true,true,true,true,true,true,true,true,true,false,false,false,false,false] rfl rfl zq7 (fun _ _ _ h=>h) (Or.inl ⟨by rfl,?_⟩) ?_ ?_;rotate_left
      ·exact zl2
      rotate_left
      ·exact zl0
      refine pure_ (i:=9) (N:=some 162) (v:=?_) (a':=?_) #[true,true,true,true,true,true,true,true,true,true,false,false,false,false] rfl rfl zq7 (fun _ _ _ h=>h) (Or.inl ⟨by rfl,?_⟩) ?_ ?_;rotate_left
      ·exact zl2
      rotate_left
      ·exact zl0
      refine pure_ (i:=10) (N:=some 22) (v:=?_) (a':=?_) #[true,true,true,true,true,true,true,true,true,true,true,false,false,false] rfl rfl zq7 (fun _ _ _ h=>h) (Or.inl ⟨by rfl,?_⟩) ?_ ?_;rotate_left
      ·exact zl2
      rotate_left
      ·exact zl0
      refine pure_ (i:=11) (N:=some 23) (v:=?_) (a':=?_) #[true,true,true,true,true,true,true,true,true,true,true,true,false,false] rfl rfl zq7 (fun _ _ _ h=>h) (Or.inl ⟨by rfl,?_⟩) ?_ ?_;rotate_left
      ·exact zl2
      rotate_left
      ·exact zl0
      refine pure_ (i:=12) (N:=some 24) (v:=?_) (a':=?_) #[true,true,true,true,true,true,true,true,true,true,true,true,true,false] rfl rfl zq7 (fun _ _ _ h=>h) (Or.inl ⟨by rfl,?_⟩) ?_ ?_;rotate_left
      ·exact zl2
      rotate_left
      ·exact zl0
      refine pure_ (i:=13) (N:=some 25) (v:=?_) (a':=?_) #[true,true,true,true,true,true,true,true,true,true,true,true,true,true] rfl rfl zq7 (fun _ _ _ h=>h) (Or.inl ⟨by rfl,?_⟩) ?_ ?_;rotate_left
      ·exact zl2
      rotate_left
      ·exact zl0
      refine done_ zq7 ?_;clear hcut HCG hHeld g1 g2 t2 t3;have hgl15:=Nat.lt_of_lt_of_le hgl13 HB15.out.size;have HV15:=mk0 (HCA.out _ _ _ HV13.out HB15.out);have HK15:=mk0 (HK13.out.trans (KS.below HB15.out));have HCK15:=mk0 (Kd.C_below HCK13.out HB15.out);have HCE:=mk0 (And.intro he0 (And.intro he1 he2));obtain ⟨o8,hcut,hI8,hcc⟩:=j3v HI.out c (p+1+m+t+1+g.en) (by omega) HC.out.1;rw [List.length_drop] at hcut hcc
      push_cast at hcut
      have HI8:=mk0 hI8;have HNT8:=mk0 (fun (W:World) (hb:KS S w0 W)=>nt_calls a0 a1 a2 b o8 (l.length - (p+1+m+t+1+g.en)) (c - (p+1+m+t+1+g.en)) (l.drop (p+1+m+t+1+g.en)) W (HI8.out.ks HNB.out hb) List.length_drop);rw [HU.out] at HNT8;have v1:((u:Int) == -1)=false:=beq_eq_false_iff_ne.mpr (by omega);have v2:decide ((u:Int) = -1)=false:=decide_eq_false (by omega);have hub:(u:Int)≤2147483647:=by omega
      have w2':(0≤(p:Int)+1+(m:Int)+(t:Int)+1+(g.en:Int)+(u:Int))=True:=eq_true (by omega);have w3':((p:Int)+1+(m:Int)+(t:Int)+1+(g.en:Int)+(u:Int)<(l.length:Int))=True:=eq_true (by omega);clear hI8 hcc HV13 HBw13 HK13 HCK13 he0 he1 he2;have HRS0:Aside0 (rem <:+ cs):=⟨HP.out.2⟩;rcases HFIN.out with ⟨h6,h7⟩|⟨h6,vv,tl,hv,hvl,hrec,h7⟩
      ·have HREM:=mk0 h7;rw [HREM.out] at HV15 HRS0;rw [HAC.out] at HV15 HRS0;have hX:=HCBX.out [] w15 KA1 kn o7 HV15.out HRS0.out HCK15.out HI7.out hgl15
       push_cast at hX
       have HX:=mk0 hX;clear hX;have H6:=mk0 h6;clear h6 h7 HREM;go_upto_region 58 with (go_at_call 31;(with_reducible refine HX.out.mono ?_);rintro e_ w16 ⟨rfl,hv16,hk16⟩;have HV16:=mk0 hv16;have HK16:=mk0 hk16;clear hv16 hk16)
       have KA:=mk0 HK16.out;have hy0:=KA.out.cell (a:=⟨gc,0,none⟩) hnS.out HCE.out.1;have hy1:=KA.out.cell (a:=⟨gc,1,none⟩) hnS.out HCE.out.2.1;have hy2:=KA.out.cell (a:=⟨gc,2,none⟩) hnS.out HCE.out.2.2;have HD16:=mk0 (j1h (Below.refl w16.heap.size w16));have HB16:=mk0 (HBE.out _ _ HV16.out);go_wp2_with fail
       refine j3t (n:=6) (S:=fun w'=>w'.cell? ⟨gc,0,none⟩=some (.bool a0)∧w'.cell? ⟨gc,1,none⟩=some (.bool a1)∧w'.cell? ⟨gc,2,none⟩=some (.int .i64 a2)) (ds:=[4]) #[false,false,false,false,false,false] zq7 rfl rfl ⟨hy0,hy1,hy2⟩ (fun hHeld=>?_)
       generalize w16.drew=w17 at HD16 hHeld ⊢
       refine pure_ (i:=1) (N:=some 181) (v:=?_) (a':=?_) #[false,true,false,false,false,false] rfl rfl zq7 (fun _ _ _ h=>h) (Or.inl ⟨by rfl,?_⟩) ?_ ?_;rotate_left
       ·exact zl2
       rotate_left
       ·exact zl0
       refine pure_ (i:=2) (N:=some 182) (v:=?_) (a':=?_) #[false,true,true,false,false,false] rfl rfl zq7 (fun _ _ _ h=>h) (Or.inl ⟨by rfl,?_⟩) ?_ ?_;rotate_left
       ·exact zl2
       rotate_left
       ·exact zl0
       refine pure_ (i:=3) (N:=some 183) (v:=?_) (a':=?_) #[false,true,true,true,false,false] rfl rfl zq7 (fun _ _ _ h=>h) (Or.inl ⟨by rfl,?_⟩) ?_ ?_;rotate_left
       ·exact zl2
       rotate_left
       ·exact zl0
       refine take_ (i:=0) (N:=some 180) (v:=?_) (a':=?_) #[true,true,true,true,false,false] rfl rfl zq7 (fun _ _ _ h=>h) (Or.inl ⟨by rfl,?_⟩) hHeld ?_ ?_;rotate_left
       ·exact zl12
       rotate_left
       ·exact zl0
       refine last_ (i:=4) (N:=some 184) #[true,true,true,true,true,false] rfl rfl zq7 zq50 (fun K hK=>?_);refine goes_ Tryd.func59 zq7 rfl #[.agg #[.bool a0, .bool a1, .int .i64 a2], .slice (some ⟨b,o8,none⟩) (l.length - (p+1+m+t+1+g.en)) (c - (p+1+m+t+1+g.en))] (by rfl) rfl rfl zq19 ?_;with_reducible refine (HNT8.out _ (HB16.out.trans (KS.below HD16.out))).mono ?_
       rintro e_ w18 ⟨rfl,hb⟩;refine ⟨_,rfl,?_⟩;have HB18:=mk0 (j1o HD16.out hb);clear hb;refine hK.out _ _ ?_;clear hK K;refine norm_ (a':=?_) ?_ ?_;rotate_left
       ·show Act.put _ (some 184) _=_
        exact zl0
       refine pure_ (i:=5) (N:=some 27) (v:=?_) (a':=?_) #[true,true,true,true,true,true] rfl rfl zq7 (fun _ _ _ h=>h) (Or.inl ⟨by rfl,?_⟩) ?_ ?_;rotate_left
       ·exact zl2
       rotate_left
       ·exact zl0
       refine done_ zq7 ?_;have HV18:=mk0 (HCA.out _ _ _ HV16.out HB18.out);have hcz:=(HI.out.ks HNB.out (HBE.out _ _ HV18.out)).cell (p+1+m+t+1+g.en+u) hul;have HK18:=mk0 (HK15.out.trans (KA.out.trans (KS.below HB18.out)));rw [H6.out] at hcz;clear hHeld hy0 hy1 hy2 hcut HNT8 H6;go_wp2;go_ret;exact ⟨rfl,HV18.out,HK5.out.trans HK18.out⟩
      ·have HREM:=mk0 h7;rw [HREM.out] at HV15 HRS0;rw [HAC.out] at HV15 HRS0;have hX:=HCBX.out tl w15 KA1 kn o7 HV15.out HRS0.out HCK15.out HI7.out hgl15
       push_cast at hX
       have HX:=mk0 hX;clear hX;have H6:=mk0 h6;have HREC:=mk0 hrec;obtain ⟨o9,hcut9,hI9,hcc9⟩:=j3v HI.out c (p+1+m+t+1+g.en+u+1) (by omega) HC.out.1;rw [List.length_drop] at hcut9 hcc9
       push_cast at hcut9
       have HI9:=mk0 hI9;have HNT9:=mk0 (fun (W:World) (hb:KS S w0 W)=>nt_calls a0 a1 a2 b o9 (l.length - (p+1+m+t+1+g.en+u+1)) (c - (p+1+m+t+1+g.en+u+1)) (l.drop (p+1+m+t+1+g.en+u+1)) W (HI9.out.ks HNB.out hb) List.length_drop);rw [hv] at HNT9;have z1:((vv:Int) == -1)=false:=beq_eq_false_iff_ne.mpr (by omega);have z2:decide ((vv:Int) = -1)=false:=decide_eq_false (by omega);have hvb2:(vv:Int)≤2147483647:=by omega
       clear h6 h7 HREM hrec hI9 hcc9 hv;go_upto_region 58 with (go_at_call 31;(with_reducible refine HX.out.mono ?_);rintro e_ w16 ⟨rfl,hv16,hk16⟩;have HV16:=mk0 hv16;have HK16:=mk0 hk16;clear hv16 hk16)
       have KA:=mk0 HK16.out;have hy0:=KA.out.cell (a:=⟨gc,0,none⟩) hnS.out HCE.out.1;have hy1:=KA.out.cell (a:=⟨gc,1,none⟩) hnS.out HCE.out.2.1;have hy2:=KA.out.cell (a:=⟨gc,2,none⟩) hnS.out HCE.out.2.2;have HD16:=mk0 (j1h (Below.refl w16.heap.size w16));have HB16:=mk0 (HBE.out _ _ HV16.out);have hgl16:=Nat.lt_of_lt_of_le hgl15 KA.out.1;go_wp2_with fail
       refine j3t (n:=6) (S:=fun w'=>w'.cell? ⟨gc,0,none⟩=some (.bool a0)∧w'.cell? ⟨gc,1,none⟩=some (.bool a1)∧w'.cell? ⟨gc,2,none⟩=some (.int .i64 a2)) (ds:=[4]) #[false,false,false,false,false,false] zq7 rfl rfl ⟨hy0,hy1,hy2⟩ (fun hHeld=>?_)
       generalize w16.drew=w17 at HD16 hHeld ⊢
       refine pure_ (i:=1) (N:=some 181) (v:=?_) (a':=?_) #[false,true,false,false,false,false] rfl rfl zq7 (fun _ _ _ h=>h) (Or.inl ⟨by rfl,?_⟩) ?_ ?_;rotate_left
       ·exact zl2
       rotate_left
       ·exact zl0
       refine pure_ (i:=2) (N:=some 182) (v:=?_) (a':=?_) #[false,true,true,false,false,false] rfl rfl zq7 (fun _ _ _ h=>h) (Or.inl ⟨by rfl,?_⟩) ?_ ?_;rotate_left
       ·exact zl2
       rotate_left
       ·exact zl0
       refine pure_ (i:=3) (N:=some 183) (v:=?_) (a':=?_) #[false,true,true,true,false,false] rfl rfl zq7 (fun _ _ _ h=>h) (Or.inl ⟨by rfl,?_⟩) ?_ ?_;rotate_left
       ·exact zl2
       rotate_left
       ·exact zl0
       refine take_ (i:=0) (N:=some 180) (v:=?_) (a':=?_) #[true,true,true,true,false,false] rfl rfl zq7 (fun _ _ _ h=>h) (Or.inl ⟨by rfl,?_⟩) hHeld ?_ ?_;rotate_left
       ·exact zl12
       rotate_left
       ·exact zl0
       refine last_ (i:=4) (N:=some 184) #[true,true,true,true,true,false] rfl rfl zq7 zq50 (fun K hK=>?_);refine goes_ Tryd.func59 zq7 rfl #[.agg #[.bool a0, .bool a1, .int .i64 a2], .slice (some ⟨b,o8,none⟩) (l.length - (p+1+m+t+1+g.en)) (c - (p+1+m+t+1+g.en))] (by rfl) rfl rfl zq19 ?_;with_reducible refine (HNT8.out _ (HB16.out.trans (KS.below HD16.out))).mono ?_
       rintro e_ w18 ⟨rfl,hb⟩;refine ⟨_,rfl,?_⟩;have HB18:=mk0 (j1o HD16.out hb);have hm0:=(j2g HB18.out hgl16).trans hy0;have hm1:=(j2g HB18.out hgl16).trans hy1;have hm2:=(j2g HB18.out hgl16).trans hy2;clear hb;refine hK.out _ _ ?_;clear hK K;refine norm_ (a':=?_) ?_ ?_;rotate_left
       ·show Act.put _ (some 184) _=_
        exact zl0
       refine pure_ (i:=5) (N:=some 27) (v:=?_) (a':=?_) #[true,true,true,true,true,true] rfl rfl zq7 (fun _ _ _ h=>h) (Or.inl ⟨by rfl,?_⟩) ?_ ?_;rotate_left
       ·exact zl2
       rotate_left
       ·exact zl0
       refine done_ zq7 ?_;have HV18:=mk0 (HCA.out _ _ _ HV16.out HB18.out);have HB18w:=mk0 (HBE.out _ _ HV18.out);have hcz:=(HI.out.ks HNB.out HB18w.out).cell (p+1+m+t+1+g.en+u) hul;have HK18:=mk0 (HK15.out.trans (KA.out.trans (KS.below HB18.out)));rw [H6.out] at hcz;have HD18:=mk0 (j1h (Below.refl w18.heap.size w18));clear hHeld hy0 hy1 hy2 hcut HNT8 H6;go_wp2_with fail
       refine j3t (n:=6) (S:=fun w'=>w'.cell? ⟨gc,0,none⟩=some (.bool a0)∧w'.cell? ⟨gc,1,none⟩=some (.bool a1)∧w'.cell? ⟨gc,2,none⟩=some (.int .i64 a2)) (ds:=[4]) #[false,false,false,false,false,false] zq7 rfl rfl ⟨hm0,hm1,hm2⟩ (fun hHeld=>?_)
       generalize w18.drew=w19 at HD18 hHeld ⊢
       refine pure_ (i:=1) (N:=some 203) (v:=?_) (a':=?_) #[false,true,false,false,false,false] rfl rfl zq7 (fun _ _ _ h=>h) (Or.inl ⟨by rfl,?_⟩) ?_ ?_;rotate_left
       ·exact zl2
       rotate_left
       ·exact zl0
       refine pure_ (i:=2) (N:=some 204) (v:=?_) (a':=?_) #[false,true,true,false,false,false] rfl rfl zq7 (fun _ _ _ h=>h) (Or.inl ⟨by rfl,?_⟩) ?_ ?_;rotate_left
       ·exact zl2
       rotate_left
       ·exact zl0
       refine pure_ (i:=3) (N:=some 205) (v:=?_) (a':=?_) #[false,true,true,true,false,false] rfl rfl zq7 (fun _ _ _ h=>h) (Or.inl ⟨by rfl,?_⟩) ?_ ?_;rotate_left
       ·exact zl2
       rotate_left
       ·exact zl0
       refine take_ (i:=0) (N:=some 202) (v:=?_) (a':=?_) #[true,true,true,true,false,false] rfl rfl zq7 (fun _ _ _ h=>h) (Or.inl ⟨by rfl,?_⟩) hHeld ?_ ?_;rotate_left
       ·exact zl12
       rotate_left
       ·exact zl0
       refine last_ (i:=4) (N:=some 206) #[true,true,true,true,true,false] rfl rfl zq7 zq50 (fun K hK=>?_);refine goes_ Tryd.func59 zq7 rfl #[.agg #[.bool a0, .bool a1, .int .i64 a2], .slice (some ⟨b,o9,none⟩) (l.length - (p+1+m+t+1+g.en+u+1)) (c - (p+1+m+t+1+g.en+u+1))] (by rfl) rfl rfl zq19 ?_;with_reducible refine (HNT9.out _ (HB18w.out.trans (KS.below HD18.out))).mono ?_
       rintro e_ w20 ⟨rfl,hb⟩;refine ⟨_,rfl,?_⟩;have HB20:=mk0 (j1o HD18.out hb);clear hb;refine hK.out _ _ ?_;clear hK K;refine norm_ (a':=?_) ?_ ?_;rotate_left
       ·show Act.put _ (some 206) _=_
        exact zl0
       refine pure_ (i:=5) (N:=some 28) (v:=?_) (a':=?_) #[true,true,true,true,true,true] rfl rfl zq7 (fun _ _ _ h=>h) (Or.inl ⟨by rfl,?_⟩) ?_ ?_;rotate_left
       ·exact zl2
       rotate_left
       ·exact zl0
       refine done_ zq7 ?_;have HV20:=mk0 (HCA.out _ _ _ HV18.out HB20.out);have HK20:=mk0 (HK18.out.trans (KS.below HB20.out));clear hHeld hm0 hm1 hm2 hcut9 HNT9 hcz;go_wp2;go_roundg kr
       case measure=>omega
       case rel=>exact ⟨p+1+m+t+1+g.en+u+1+vv,tl,(by go_num),⟨HREC.out,(List.suffix_cons _ _).trans HRS0.out⟩,HV20,HK20⟩
theorem infoFd : ((Tryd.prog).info? 31).map (fun i=>(i.zero,i.size,i.bytes))=some (some (.agg #[(.string ⟨#[]⟩),(.string ⟨#[]⟩),(.int .i64 0),(.int .i64 0)]),4,48):=by kernel_rfl
def toS (l : List Int) (x:OC):S31:=⟨strOfNums x.kx,strOfNums ((l.drop x.vo).take x.vn),x.kd,(x.off:Int)⟩
def SO (pO gc : Nat) (i:Nat):Prop:=i=pO∨gc<i
def OInv (l : List Int) (cs:List OC) (E w0:World) (pO gc:Nat) (rem:List OC) (W:World):Prop:=∃ (pre:List OC) (v:Value),cs=pre++rem∧W.heap[pO]? = some (.cells #[v] 44 (0,0))∧Kd.R k31 31 W (gc+1) (fun k=>gc<k) v (pre.map (toS l))∧Below E.heap.size E W∧KS (SO pO gc) w0 W
theorem OInv.carry {l : List Int} {cs:List OC} {E w0:World} {pO gc:Nat} {rem:List OC} {W W':World} (h:OInv l cs E w0 pO gc rem W) (hb:Below W.heap.size W W'):OInv l cs E w0 pO gc rem W':=by
 obtain ⟨pre,v,h1,h2,h3,h4,h5⟩:=h;exact ⟨pre,v,h1,(hb.block _ (lt_of_block h2)).trans h2,Kd.R_below h3 hb,j1o h4 hb,h5.trans (KS.below hb)⟩
set_option maxHeartbeats 8000000 in
set_option maxRecDepth 100000 in
theorem oc_calls (l : List Int) (cs:List OC) (E w0:World) (pO gc:Nat) (x:OC) (r:List OC) (W:World) (A:Option Addr) (n b o1:Nat) (hord:E.heap.size≤pO∧pO<gc) (hI:IN W b o1 ((l.drop x.vo).take x.vn)) (hInv:OInv l cs E w0 pO gc (x :: r) W)
 (hC:Kd.C (Kd.int .u8) W A x.kx.length x.kx) (hlen:((l.drop x.vo).take x.vn).length=x.vn) (hgt:gc<W.heap.size) (hcl:cs.length≤2147483647) :
 Calls Tryd.prog 31 #[.slice A x.kx.length n, .slice (some ⟨b,o1,none⟩) x.vn x.vn, .int .i64 x.kd, .int .i64 (x.off:Int), .pointer (some ⟨pO,0,none⟩)] W fun e W'=>e = .returned .nilIface∧OInv l cs E w0 pO gc r W'∧KS (SO pO gc) W W':=by
 obtain ⟨pre,v,hcs,hO,hR,hBE,hKS⟩:=hInv;have cO:=cell_of_one hO;have fO:=free_of_one hO;have hcv1:=Kd.C_string (P:=Tryd.prog) (c:=n) Tryd.underlying55 Tryd.underlying5 Tryd.underlying9 hC;have hC2:=hI.C;rw [hlen] at hC2;have hcv2:=Kd.C_string (P:=Tryd.prog) (c:=x.vn) Tryd.underlying55 Tryd.underlying5 Tryd.underlying9 hC2
 have hpl:pre.length+1≤2147483647:=by
  have:=congrArg List.length hcs;simp only [List.length_append,List.length_cons] at this;omega
 have HO:=mk0 hO;have HR:=mk0 hR;have HBE:=mk0 hBE;have HKS:=mk0 hKS;have HCS:=mk0 hcs;have HGT:=mk0 hgt;have HORD:=mk0 hord;have HLEN:Aside0 (((pre.map (toS l)).length+1)*48≤140737488355328):=⟨by rw [List.length_map];omega⟩
 have hne:some pO≠v.ownBlock:=fun e=>by
  have:=Kd.R_base hR pO e.symm;omega
 have HNE:=mk0 hne;clear hC hI hC2 hlen hR hBE hKS hcs hgt hcl hord hpl hne hO;go_enter Tryd.func31,Tryd.ntmps31;go_wp2_with (first|((with_reducible refine j3f (b := .append) (xs:=#[.tmp 10, .tmp 18]) rfl ?_);at_builtin;refine Kd.R_append k31 (gc+1) rfl (.tmp 10) (.tmp 18) 44 31 (.agg #[(.string ⟨#[]⟩),(.string ⟨#[]⟩),(.int .i64 0),(.int .i64 0)]) 48 rfl Tryd.underlying44 infoFd rfl zq50 (by omega) v (pre.map (toS l)) (toS l x) [.string (strOfNums x.kx), .string (strOfNums ((l.drop x.vo).take x.vn)), .int .i64 x.kd, .int .i64 (x.off:Int)] (fun k=>gc<k) (fun _=>False) rfl rfl (k31_mkM _ _ _ (toS l x)) (fun _ h=>h.elim) (fun k hk=>Nat.lt_of_lt_of_le HGT.out hk) HR.out (Below.refl _ _) HGT.out HLEN.out ?_;intro v1 w1 ho hb1 hg hat;obtain ⟨A1,n1,rfl⟩:=Kd.R_slice ho;have HO1:=mk0 (blk_grown HO.out hg HNE.out);have HR1:=mk0 ho;have HB1:=mk0 hb1;have cO1:=cell_of_one HO1.out;have fO1:=free_of_one HO1.out;clear ho hb1 hg hat cO fO))
 go_ret;have hord:=HORD.out;refine ⟨rfl,⟨pre++[x],_,by rw [HCS.out];simp,one_setCell HO1.out,?_,?_,?_⟩,?_⟩
 ·have h6:=Kd.R_far (p:=⟨pO,0,none⟩) HR1.out (fun k hk=>by show k≠pO;omega) (.slice A1 (pre.length+1) n1);have e:(List.map (toS l) pre++[toS l x]).length=pre.length+1:=by simp
  rw [e] at h6;rw [List.map_append];exact h6
 ·exact (HBE.out.trans (bel_lower HB1.out (by omega))).setCell (by show E.heap.size≤pO;omega) _
 ·refine KS.set (HKS.out.trans ⟨HB1.out.size,fun i hi hs=>HB1.out.block i ?_⟩) (.inl rfl) _;have:¬ gc<i:=fun h=>hs (.inr h)
  omega
 ·refine KS.set (⟨HB1.out.size,fun i hi hs=>HB1.out.block i ?_⟩) (.inl rfl) _;have:¬ gc<i:=fun h=>hs (.inr h)
  omega
end Go.Proofs.YthmjfmpgmcgonaaDoor.K
end
section
namespace Go.Proofs.YthmjfmpgmcgonaaDoor.K
open Go.RowKit Go.Proofs.YthmjfmpgmcgonaaDoorW.PrintWords Go.Proofs.YthmjfmpgmcgonaaDoorW.PrintLast Go.Proofs.YthmjfmpgmcgonaaDoorW.PrintMore
attribute [local go_sem] max2_int min2_int max_two min_two max_three min_three max_four min_four
set_option linter.unusedVariables false
set_option linter.unusedSimpArgs false
end Go.Proofs.YthmjfmpgmcgonaaDoor.K
end
section
namespace Go.Proofs.YthmjfmpgmcgonaaDoor.K
open Go.RowKit Go.Proofs.YthmjfmpgmcgonaaDoorW.PrintWords Go.Proofs.YthmjfmpgmcgonaaDoorW.PrintLast Go.Proofs.YthmjfmpgmcgonaaDoorW.PrintMore
attribute [local go_sem] max2_int min2_int max_two min_two max_three min_three max_four min_four
set_option linter.unusedVariables false
set_option linter.unusedSimpArgs false
theorem stp_mono (k : Nat) (l:List Int):LeO (stp k l) (stp (k+1) l):=by
 unfold stp;exact LeO.ite (LeO.refl _) (LeO.ite (LeO.ite (LeO.refl _) (LeO.ite (LeO.bind (j1p.mono _ _) (fun _=>LeO.refl _)) (LeO.refl _))) (LeO.refl _))
theorem jun_mono (k : Nat):∀ (f:Nat) (l E:List Int),LeO (jun k f l E) (jun (k+1) (f+1) l E)
 | 0,_,_=>fun r h=>by simp [jun] at h
 | f+1,l,E=>by
  rw [jun,jun];exact LeO.bind (stp_mono k l) (fun _=>LeO.ite (LeO.refl _) (LeO.ite (LeO.ite (LeO.refl _) (jun_mono k f _ _)) (LeO.refl _)))
theorem unc_mono (k : Nat) (l:List Int):LeO (unc k l) (unc (k+1) l):=by
 unfold unc;exact LeO.ite (LeO.refl _) (jun_mono k k _ _)
theorem in_bytes (w : World) (s:ByteArray) (hs:s.size≤2147483647):IN (Lib.bytesWorld w 5 s) w.heap.size 0 (bytesOf s):=by
 refine ⟨fun i hi=>?_,by rw [Lib.bytesWorld_size];omega,J.bytesOf_range s,by rw [bytesOf_length];exact hs⟩;rw [bytesOf_length] at hi;obtain ⟨ad,e,h⟩:=(bytes_reads w 5 s (by omega)).2.2 (by omega);cases e;have:=h i hi;rw [add_at] at this;exact this
theorem sStep_mono {un un' : List Int→Option (Option (List Int))} (h:∀ l,LeO (un l) (un' l)) (sq:Bool) (ks:List ByteArray) (l:List Int) (kl lv:Int) (i:Nat) (lm:Bool):LeO (sStep sq un ks l kl lv i lm) (sStep sq un' ks l kl lv i lm):=by
 unfold sStep sStr
 repeat' first
  | exact LeO.refl _
  | exact h _
  | refine LeO.ite ?_ ?_
  | refine LeO.bind ?_ (fun _=>?_)
theorem sKl_mono {un un' : List Int→Option (Option (List Int))} (h:∀ l,LeO (un l) (un' l)) (sq:Bool):∀ (n:Nat) (ks:List ByteArray) (l:List Int) (kl lv:Int) (i:Nat) (lm:Bool),LeO (sKl sq un n ks l kl lv i lm) (sKl sq un' (n+1) ks l kl lv i lm)
 | 0,_,_,_,_,_,_=>fun r h=>by simp [sKl] at h
 | n+1,ks,l,kl,lv,i,lm=>by
  rw [sKl,sKl];refine LeO.ite (LeO.refl _) (LeO.bind (sStep_mono h _ _ _ _ _ _ _) (fun r=>?_));cases r with
  | done r=>exact LeO.refl _
  | go kl' lv' i' lm'=>exact sKl_mono h sq n _ _ _ _ _ _
  | sub m=>exact LeO.bind (LeO.refl _) (fun _=>LeO.bind (LeO.refl _) (fun _=>LeO.bind (LeO.ite (LeO.refl _) (sKl_mono h sq n _ _ _ _ _ _)) (fun _=>LeO.refl _)))
theorem sK_mono {un un' : List Int→Option (Option (List Int))} (h:∀ l,LeO (un l) (un' l)) (sq:Bool) (n:Nat) (ks:List ByteArray) (l:List Int):LeO (sK sq un n ks l) (sK sq un' (n+1) ks l):=LeO.ite (LeO.refl _) (sKl_mono h sq n _ _ _ _ _ _)
def Kok (a0 : ByteArray) (l1:List ByteArray):Prop:=a0.size≤2147483647∧l1.length≤2147483647∧∀ s ∈ l1,s.size≤2147483647
instance (a0 : ByteArray) (l1:List ByteArray):Decidable (Kok a0 l1):=by unfold Kok;infer_instance
theorem ky_of {w : World} {A:Option Addr} {ks:List ByteArray} (h:Kd.C Kd.string w A ks.length ks) (h0:ks≠[]) (hl:ks.length≤2147483647) (hz:∀ s ∈ ks,s.size≤2147483647):∃ b o,A=some ⟨b,o,none⟩∧KY w b o ks:=by
 have hp:0<ks.length:=List.length_pos_iff.mpr h0;obtain ⟨⟨b,o,sp⟩,rfl,hc⟩:=Kd.at_string h 0 (by omega) (by omega)
 have hsp:sp=none:=by
  have:(⟨b,o,sp⟩:Addr).add (0:Int).toNat=⟨b,o,sp⟩:=by unfold Addr.add;simp
  rw [this] at hc;unfold World.cell? at hc;split at hc
  ·cases sp with
   | none=>rfl
   | some x=>simp at hc
  ·cases hc
 subst hsp;refine ⟨b,o,rfl,fun i hi=>?_,?_,hl,hz⟩
 ·obtain ⟨ad,e,hc⟩:=Kd.at_string h (i:Int) (by omega) (by omega);cases e;rw [Int.toNat_natCast,add_at] at hc;exact hc
 ·have:=World.block_lt_of_cell? _ _ hc;rw [add_block] at this;exact this
section
set_option maxHeartbeats 8000000
set_option maxRecDepth 100000
theorem oKey_mono {un un' : List Int→Option (Option (List Int))} (h:∀ l,LeO (un l) (un' l)) (es:Bool) (kx:List Int):LeO (oKey un es kx) (oKey un' es kx):=LeO.ite (LeO.bind (h _) (fun _=>LeO.refl _)) (LeO.refl _)
theorem leo_map {α β : Type} {f:α→β} {a b:Option α} (h:LeO a b):LeO (a.map f) (b.map f):=fun r hr=>by
 obtain ⟨x,hx,e⟩:=Option.map_eq_some_iff.mp hr;rw [h x hx];exact congrArg some e
theorem oA_mono {un un' : List Int→Option (Option (List Int))} (h:∀ l,LeO (un l) (un' l)) (l:List Int) (p:Nat):LeO (oA un l p) (oA un' l p):=LeO.ite (leo_map (oKey_mono h _ _)) (LeO.refl _)
theorem oM_mono {un un' : List Int→Option (Option (List Int))} (h:∀ l,LeO (un l) (un' l)) (sq:Bool) (l:List Int):∀ n p,LeO (oM sq un l n p) (oM sq un' l n p)
 | 0,_=>LeO.refl _
 | n+1,p=>by
  rw [oM,oM];exact LeO.bind (oA_mono h l p) (fun _=>LeO.bind (LeO.refl _) (fun _=>LeO.ite (LeO.refl _) (LeO.ite (LeO.refl _) (LeO.ite (LeO.ite (LeO.refl _) (leo_map (oM_mono h sq l n _))) (LeO.refl _)))))
theorem oE_mono {un un' : List Int→Option (Option (List Int))} (h:∀ l,LeO (un l) (un' l)) (sq:Bool) (l:List Int) (R:Nat):LeO (oE sq un l R) (oE sq un' l R):=LeO.ite (LeO.ite (LeO.refl _) (oM_mono h sq l _ _)) (LeO.refl _)
theorem oM_len {sq : Bool} {un:List Int→Option (Option (List Int))} {l:List Int}:∀ {n p:Nat} {cs:List OC},oM sq un l n p=some cs→cs.length≤n
 | 0,_,_,h=>by simp [oM] at h
 | n+1,p,cs,h=>by
  obtain ⟨k,q,r,u,g,_,_,_,_,⟨_,rfl⟩|⟨_,v,tl,_,_,ht,rfl⟩⟩:=oM_inv h
  ·simp
  ·have:=oM_len ht;simp only [List.length_cons];omega
theorem oE_len {sq : Bool} {un:List Int→Option (Option (List Int))} {l:List Int} {R:Nat} {cs:List OC} (h:oE sq un l R=some cs):cs.length≤l.length:=by
 obtain ⟨r,s,_,_,_,_,_,⟨_,rfl⟩|⟨_,h⟩⟩:=oE_inv h
 ·simp
 ·exact oM_len h
def jpoeF (k : Nat) (a0:ByteArray) (l1:List ByteArray):Option (List S31 × Bool):=if Kok a0 l1 then (sK false (unc k) k l1 (bytesOf a0)).bind fun R=>if R<0 then none else (oE false (unc k) (bytesOf a0) R.toNat).map fun cs=>(cs.map (toS (bytesOf a0)),true) else none
theorem jpoeF_mono : ∀ a0 l1 k,LeO (jpoeF k a0 l1) (jpoeF (k+1) a0 l1):=fun a0 l1 k=>LeO.ite (LeO.bind (sK_mono (unc_mono k) _ _ _ _) (fun _=>LeO.ite (LeO.refl _) (leo_map (oE_mono (unc_mono k) _ _ _)))) (LeO.refl _)
theorem oew_calls (dv fv kv:Value) (w:World) (Q:World→Prop) (hT:Laid w)
 (hU:Calls Tryd.prog 48 #[.agg #[.bool false, .bool false, .int .i64 0],dv,fv,kv] w fun e w'=>e = .returned .nilIface∧Q w') :
 Calls Tryd.prog 30 #[dv,fv,kv] w fun e w'=>e = .returned .nilIface∧Q w':=by
 have c0:=hT.cfg0;have c1:=hT.cfg1;have c2:=hT.cfg2;have HU:=mk0 hU;clear hT hU;go_enter Tryd.func30,Tryd.ntmps30;go_wp2_with (first|(go_at_call 48;(with_reducible refine HU.out.mono ?_);rintro e_ w_ ⟨rfl,hq⟩;have K:=mk0 hq;clear hq))
 go_ret;exact ⟨rfl,K.out⟩
theorem jpoe_calls (k : Nat) (a0:ByteArray) (A1:Option Addr) (c1:Nat) (l1:List ByteArray) (r0:List S31) (r1:Bool) (w:World) (hr1:Kd.C Kd.string w A1 l1.length l1) (hc1:l1.length≤c1) (hG:Laid w) (h:jpoeF k a0 l1=some (r0,r1)) :
 Calls Tryd.prog 16 #[.string a0, .slice A1 l1.length c1] w fun e w'=>∃ v0:Value,e = .returned (.tuple #[v0, .bool r1])∧Kd.R k31 31 w' w.heap.size (fun k_=>w.heap.size≤k_) v0 r0∧Below w.heap.size w w':=by
 unfold jpoeF at h
 split at h
 case isFalse=>cases h
 case isTrue hk =>
 obtain ⟨R,hS,h⟩:=Option.bind_eq_some_iff.mp h;split at h
 case isTrue=>cases h
 case isFalse hR0 =>
 obtain ⟨cs,hE,h⟩:=Option.map_eq_some_iff.mp h
 obtain ⟨rfl,rfl⟩:cs.map (toS (bytesOf a0))=r0∧true=r1:=by
  simp only [Prod.mk.injEq] at h
  exact h
 obtain ⟨W1,hW1⟩:∃ W1,W1=w.alloc (.cells #[.slice none 0 0] 44):=⟨_,rfl⟩;have hb0:Below w.heap.size w W1:=by rw [hW1];exact j1f (Below.refl _ _) _
 have hO1:W1.heap[w.heap.size]? = some (.cells #[.slice none 0 0] 44 (0,0)):=by rw [hW1];exact j4m w _
 have hs1:W1.heap.size=w.heap.size+1:=by rw [hW1];show (w.heap.push _).size=_;rw [Array.size_push]
 have hb1:=bytes_below (B:=W1.heap.size) (Below.refl _ W1) (Nat.le_refl _) 5 a0;have hI:=in_bytes W1 a0 hk.1;have hs2:=Lib.bytesWorld_size W1 5 a0;have hcg:=grownCap_ge W1 a0.size 0 5;have hcm:grownCap W1 a0.size 0 5≤9223372036854775807:=by have:=grownCap_le_maxLen W1 a0.size 0 5 (by have:=hk.1;simp only [maxLen];omega);simpa [maxLen] using this
 have kb:=fun W=>print_bytes (P:=Tryd.prog) 9 55 5 Tryd.underlying9 Tryd.underlying55 Tryd.underlying5 a0 W
 obtain ⟨W2,hW2⟩:∃ W2,W2=Lib.bytesWorld W1 5 a0:=⟨_,rfl⟩;obtain ⟨cc,hcc⟩:∃ cc,cc=grownCap W1 a0.size 0 5:=⟨_,rfl⟩;rw [← hW2] at hb1 hI hs2;rw [← hcc] at hcg hcm;have hb2:=j1o hb0 hb1;have hO2:W2.heap[w.heap.size]? = some (.cells #[.slice none 0 0] 44 (0,0)):=(hb1.block _ (by omega)).trans hO1;have hnb:¬ SO w.heap.size W2.heap.size W1.heap.size:=fun h=>by rcases h with h|h<;>omega
 have hlen:=bytesOf_length a0
 have hob:=oe_calls (unc k) false false 0 W1.heap.size 0 cc (bytesOf a0) w W2 W2 (SO w.heap.size W2.heap.size) (OInv (bytesOf a0) cs w W2 w.heap.size W2.heap.size) (.pointer (some ⟨w.heap.size,0,none⟩)) cs R.toNat A1 l1.length c1 (unc_is k) hG
  (fun r W hv=>(by obtain ⟨_,_,_,_,_,h4,_⟩:=hv;exact h4)) hnb hI (by rw [hlen];exact hcg) hcm (fun h=>by rcases h with h|h<;>omega) hE ⟨[], .slice none 0 0,rfl,hO2,Kd.R_nil _ _ _ _ _,hb2,KS.refl _ _⟩
  (fun r W hv=>(by obtain ⟨_,_,_,_,_,_,h5⟩:=hv;exact h5)) (fun r W W' hv hb=>hv.carry hb)
  (fun x r W A n o1 hv _ hC hi hl hgt=>oc_calls (bytesOf a0) cs w W2 w.heap.size W2.heap.size x r W A n W1.heap.size o1 ⟨Nat.le_refl _,by omega⟩ (hi.ks hnb (by obtain ⟨_,_,_,_,_,_,h5⟩:=hv;exact h5)) hv hC hl hgt (by have:=oE_len hE;have:=hk.1;omega))
  (by
   by_cases h0:l1=[]
   ·subst h0;rw [sK,if_pos rfl] at hS;cases hS;exact .inl ⟨rfl,rfl⟩
   obtain ⟨b,o,rfl,hK⟩:=ky_of hr1 h0 hk.2.1 hk.2.2;refine .inr ⟨List.length_pos_iff.mpr h0,hk.2.1,fun W hW=>?_⟩;have:=sk_calls (unc k) false false 0 (unc_is k) rfl l1.length k l1 (bytesOf a0) W1.heap.size 0 cc b o c1 W R (Nat.le_refl _) ((hG.below hb2).below hW) (hI.below hW) (by rw [hlen];exact hcg) hcm ((hK.below hb2).below hW) hc1 hS;rw [hlen] at this ⊢;rw [Int.toNat_of_nonneg (by omega)];exact this)
 rw [hlen] at hob;have hq:=oew_calls _ _ _ W2 _ (hG.below hb2) hob;rw [hs1] at hq;have HP:=mk0 hq;have HZ:=mk0 hb2.size;clear hob hq hS hE hk hr1 hc1 hG hI hb0 hb1 hb2 hO1 hO2 hnb hcg hcm hlen h hR0 hs1 hs2;subst hcc;subst hW2;subst hW1;go_enter Tryd.func16,Tryd.ntmps16;go_wp2_with (first|(go_at_call 30;(with_reducible refine HP.out.mono ?_);rintro e_ w3 ⟨rfl,⟨pre,v,hcs,hO3,hR3,hB3,_⟩,_⟩;have HR3:=mk0 hR3;have HB3:=mk0 hB3;have HCS:=mk0 hcs;obtain ⟨va,vc,rfl⟩:=Kd.R_slice hR3;have cO3:=cell_of_one hO3;clear hcs hO3 hR3 hB3))
 repeat (go_quiet (fail);try go_wp2)
 go_ret2
 obtain rfl:cs=pre:=by
  have:=HCS.out;rw [List.append_nil] at this;exact this
 refine ⟨.slice va cs.length vc,rfl,?_,j1d HB3.out _⟩;have hz:=HZ.out;have h6:=Kd.R_drewN (Kd.R_lower (base':=w.heap.size) (Kd.R_mono (ok':=fun k_=>w.heap.size≤k_) HR3.out (fun k hk=>by omega)) (by omega)) nq;rw [List.length_map] at h6;exact h6
end
def j3e.f (k : Nat) (a0:ByteArray) (l1:List ByteArray):Option (List S31 × Bool):=jpoeF k a0 l1
theorem j3e.mono : ∀ a0 l1 k,LeO (j3e.f k a0 l1) (j3e.f (k+1) a0 l1):=jpoeF_mono
theorem j3e.calls (k : Nat) (a0:ByteArray) (A1:Option Addr) (c1:Nat) (l1:List ByteArray) (r0:List S31) (r1:Bool) (w:World) (hr1:Kd.C Kd.string w A1 l1.length l1) (hc1:l1.length≤c1) (hG:Laid w) (h:j3e.f k a0 l1=some (r0,r1)) :
 Calls Tryd.prog 16 #[.string a0, .slice A1 l1.length c1] w fun e w'=>∃ v0:Value,e = .returned (.tuple #[v0, .bool r1])∧Kd.R k31 31 w' w.heap.size (fun _=>True) v0 r0∧Below w.heap.size w w':=by
 refine (jpoe_calls k a0 A1 c1 l1 r0 r1 w hr1 hc1 hG h).mono ?_;rintro e w' ⟨v0,he,hr,hb⟩;exact ⟨v0,he,Kd.R_mono hr (fun _ _=>trivial),hb⟩
def j4p.f (a0 : Int):Option (Int):=if a0=4 then (some 1) else (if a0=3 then (some 2) else (if a0=6 then (some 3) else (if a0=5 then (some 4) else (if a0=2 then (some 5) else (if a0=1 then (some 5) else (some 6))))))
set_option maxHeartbeats 8000000 in
set_option maxRecDepth 100000 in
theorem j4p.calls (a0 : Int) (r:Int) (w:World) (h:j4p.f a0=some r) :
 Calls Tryd.prog 37 #[.int .i64 a0] w fun e w'=>e = .returned (.int .i64 r)∧Drawn0 w w':=by
 have H:(if a0=4 then (some 1) else (if a0=3 then (some 2) else (if a0=6 then (some 3) else (if a0=5 then (some 4) else (if a0=2 then (some 5) else (if a0=1 then (some 5) else (some 6)))))))=some r:=h;clear h;by_cases c2:a0=4
 ·rw [if_pos c2] at H;have c2b0:(a0 == 4)=true:=beq_iff_eq.mpr c2;have c2b1:(a0 != 4)=false:=bne_eq_false_iff_eq.mpr c2;clear c2;obtain rfl:=Option.some.inj H;go_enter Tryd.func37,Tryd.ntmps37;go_wp2;go_ret;exact ⟨by first|rfl|(simp;done)|(simp [*];done),by repeat (first|exact Drawn0.refl _|apply Drawn0.step)⟩
 rw [if_neg c2] at H;have c2b0:(a0 == 4)=false:=beq_eq_false_iff_ne.mpr c2;have c2b1:(a0 != 4)=true:=bne_iff_ne.mpr c2;by_cases c3:a0=3
 ·rw [if_pos c3] at H;have c3b0:(a0 == 3)=true:=beq_iff_eq.mpr c3;have c3b1:(a0 != 3)=false:=bne_eq_false_iff_eq.mpr c3;clear c3;obtain rfl:=Option.some.inj H;go_enter Tryd.func37,Tryd.ntmps37;go_wp2;go_ret;exact ⟨by first|rfl|(simp;done)|(simp [*];done),by repeat (first|exact Drawn0.refl _|apply Drawn0.step)⟩
 rw [if_neg c3] at H;have c3b0:(a0 == 3)=false:=beq_eq_false_iff_ne.mpr c3;have c3b1:(a0 != 3)=true:=bne_iff_ne.mpr c3;by_cases c4:a0=6
 ·rw [if_pos c4] at H;have c4b0:(a0 == 6)=true:=beq_iff_eq.mpr c4;have c4b1:(a0 != 6)=false:=bne_eq_false_iff_eq.mpr c4;clear c4;obtain rfl:=Option.some.inj H;go_enter Tryd.func37,Tryd.ntmps37;go_wp2;go_ret;exact ⟨by first|rfl|(simp;done)|(simp [*];done),by repeat (first|exact Drawn0.refl _|apply Drawn0.step)⟩
 rw [if_neg c4] at H;have c4b0:(a0 == 6)=false:=beq_eq_false_iff_ne.mpr c4;have c4b1:(a0 != 6)=true:=bne_iff_ne.mpr c4;by_cases c5:a0=5
 ·rw [if_pos c5] at H;have c5b0:(a0 == 5)=true:=beq_iff_eq.mpr c5;have c5b1:(a0 != 5)=false:=bne_eq_false_iff_eq.mpr c5;clear c5;obtain rfl:=Option.some.inj H;go_enter Tryd.func37,Tryd.ntmps37;go_wp2;go_ret;exact ⟨by first|rfl|(simp;done)|(simp [*];done),by repeat (first|exact Drawn0.refl _|apply Drawn0.step)⟩
 rw [if_neg c5] at H;have c5b0:(a0 == 5)=false:=beq_eq_false_iff_ne.mpr c5;have c5b1:(a0 != 5)=true:=bne_iff_ne.mpr c5;by_cases c6:a0=2
 ·rw [if_pos c6] at H;have c6b0:(a0 == 2)=true:=beq_iff_eq.mpr c6;have c6b1:(a0 != 2)=false:=bne_eq_false_iff_eq.mpr c6;clear c6;obtain rfl:=Option.some.inj H;go_enter Tryd.func37,Tryd.ntmps37;go_wp2;go_ret;exact ⟨by first|rfl|(simp;done)|(simp [*];done),by repeat (first|exact Drawn0.refl _|apply Drawn0.step)⟩
 rw [if_neg c6] at H;have c6b0:(a0 == 2)=false:=beq_eq_false_iff_ne.mpr c6;have c6b1:(a0 != 2)=true:=bne_iff_ne.mpr c6;by_cases c7:a0=1
 rotate_left
 ·rw [if_neg c7] at H;have c7b0:(a0 == 1)=false:=beq_eq_false_iff_ne.mpr c7;have c7b1:(a0 != 1)=true:=bne_iff_ne.mpr c7;obtain rfl:=Option.some.inj H;go_enter Tryd.func37,Tryd.ntmps37;go_wp2;go_ret;exact ⟨by first|rfl|(simp;done)|(simp [*];done),by repeat (first|exact Drawn0.refl _|apply Drawn0.step)⟩
 rw [if_pos c7] at H;have c7b0:(a0 == 1)=true:=beq_iff_eq.mpr c7;have c7b1:(a0 != 1)=false:=bne_eq_false_iff_eq.mpr c7;clear c7;obtain rfl:=Option.some.inj H;go_enter Tryd.func37,Tryd.ntmps37;go_wp2;go_ret;exact zl4
def spec_Raw.f (a0 : ByteArray) (a1_0:Int) (a1_1:Int) (a1_2:Int) (l1_3:List (S49)) (l1_4:List (S27)):Option (ByteArray):=if a1_0=4 then (if 0≤(wrap64 (a1_1+1)) then (if (wrap64 (a1_1+1))≤(wrap64 (a1_2 - 1)) then (if (wrap64 (a1_2 - 1))≤(a0.size:Int) then (some (a0.extract ((wrap64 (a1_1+1)):Int).toNat ((wrap64 (a1_2 - 1)):Int).toNat)) else (none)) else (none)) else (none)) else (if 0≤a1_1 then (if a1_1≤a1_2 then (if a1_2≤(a0.size:Int) then (some (a0.extract (a1_1:Int).toNat (a1_2:Int).toNat)) else (none)) else (none)) else (none))
set_option maxHeartbeats 8000000 in
set_option maxRecDepth 100000 in
theorem spec_Raw.calls (a0 : ByteArray) (a1_0:Int) (a1_1:Int) (a1_2:Int) (A1_3:Option Addr) (c1_3:Nat) (l1_3:List (S49)) (A1_4:Option Addr) (c1_4:Nat) (l1_4:List (S27)) (r:ByteArray) (w:World) (hr1_3:Kd.C k49 w A1_3 l1_3.length l1_3) (hc1_3:l1_3.length≤c1_3) (hr1_4:Kd.C k27 w A1_4 l1_4.length l1_4) (hc1_4:l1_4.length≤c1_4) (h:spec_Raw.f a0 a1_0 a1_1 a1_2 l1_3 l1_4=some r) :
 Calls Tryd.prog 38 #[.string a0, .agg #[.int .i64 a1_0, .int .i64 a1_1, .int .i64 a1_2, .slice A1_3 l1_3.length c1_3, .slice A1_4 l1_4.length c1_4]] w fun e w'=>e = .returned (.string r)∧Below w.heap.size w w':=by
 have hu27:=Tryd.underlying27;have HR1_3:=mk0 hr1_3;have HC1_3:=mk0 hc1_3;clear hr1_3 hc1_3;have HR1_4:=mk0 hr1_4;have HC1_4:=mk0 hc1_4;clear hr1_4 hc1_4;have HB:=mk0 (Below.refl w.heap.size w);have H:(if a1_0=4 then (if 0≤(wrap64 (a1_1+1)) then (if (wrap64 (a1_1+1))≤(wrap64 (a1_2 - 1)) then (if (wrap64 (a1_2 - 1))≤(a0.size:Int) then (some (a0.extract ((wrap64 (a1_1+1)):Int).toNat ((wrap64 (a1_2 - 1)):Int).toNat)) else (none)) else (none)) else (none)) else (if 0≤a1_1 then (if a1_1≤a1_2 then (if a1_2≤(a0.size:Int) then (some (a0.extract (a1_1:Int).toNat (a1_2:Int).toNat)) else (none)) else (none)) else (none)))=some r:=h;clear h;by_cases c3:a1_0=4
 rotate_left
 ·rw [if_neg c3] at H;have c3b0:(a1_0 == 4)=false:=beq_eq_false_iff_ne.mpr c3;have c3b1:(a1_0 != 4)=true:=bne_iff_ne.mpr c3;by_cases c10:0≤a1_1
  rotate_left
  ·rw [if_neg c10] at H;exact absurd H (by simp)
  rw [if_pos c10] at H;have c10b0:=eq_true c10;have c10b1:decide (0≤a1_1)=true:=decide_eq_true c10;clear c10;by_cases c11:a1_1≤a1_2
  rotate_left
  ·exact zl30
  rw [if_pos c11] at H;have c11b0:=eq_true c11;have c11b1:decide (a1_1≤a1_2)=true:=decide_eq_true c11;clear c11;by_cases c12:a1_2≤(a0.size:Int)
  rotate_left
  ·rw [if_neg c12] at H;exact absurd H (by simp)
  rw [if_pos c12] at H;have c12b0:=eq_true c12;have c12b1:decide (a1_2≤(a0.size:Int))=true:=decide_eq_true c12;clear c12;obtain rfl:=Option.some.inj H;go_enter Tryd.func38,Tryd.ntmps38;go_wp2_with (first|((with_reducible refine j2x (N:=3) rfl ?_);refine j3d ?hg (N:=3) ?hd (cs:=#[.int .i64 a1_0, .int .i64 a1_1, .int .i64 a1_2, .slice A1_3 l1_3.length c1_3, .slice A1_4 l1_4.length c1_4]) (t:=27) ?hr ?_;(case hd=>rfl);(case hg=>rfl);(case hr=>exact zq28);intro gb101 hg w13 hbox hb;have BK101:=mk0 (hbox);have GW101:=mk0 ((zq40:w.heap.size≤gb101));have GE101:=mk0 ((zq40:w.heap.size≤gb101));replace HB:=mk0 (j1o zq4 hb);clear hb hbox hg;have hcz14_0:w13.cell? ⟨gb101,0,none⟩=some (.int .i64 a1_0):=(j1b BK101.out 0).trans rfl;have hcz14_1:w13.cell? ⟨gb101,1,none⟩=some (.int .i64 a1_1):=(j1b BK101.out 1).trans rfl;have hcz14_2:w13.cell? ⟨gb101,2,none⟩=some (.int .i64 a1_2):=(j1b BK101.out 2).trans rfl;have hcz14_3:w13.cell? ⟨gb101,3,none⟩=some (.slice A1_3 l1_3.length c1_3):=(j1b BK101.out 3).trans rfl;have hcz14_4:w13.cell? ⟨gb101,4,none⟩=some (.slice A1_4 l1_4.length c1_4):=(j1b BK101.out 4).trans rfl;have hfz14_0:=j1a BK101.out 0;have hfz14_1:=j1a BK101.out 1;have hfz14_2:=j1a BK101.out 2;have hfz14_3:=j1a BK101.out 3;have hfz14_4:=j1a BK101.out 4))
  go_ret;exact zl9
 rw [if_pos c3] at H;have c3b0:(a1_0 == 4)=true:=beq_iff_eq.mpr c3;have c3b1:(a1_0 != 4)=false:=bne_eq_false_iff_eq.mpr c3;clear c3;obtain ⟨ji4,hji4⟩:∃ j_:Int,(wrap64 (a1_1+1))=j_:=⟨_,rfl⟩;replace H:(if 0≤(ji4) then (if (ji4)≤(wrap64 (a1_2 - 1)) then (if (wrap64 (a1_2 - 1))≤(a0.size:Int) then (some (a0.extract ((ji4):Int).toNat ((wrap64 (a1_2 - 1)):Int).toNat)) else (none)) else (none)) else (none))=some r:=by (rw [hji4] at H;exact H)
 have hji4w:(IntKind.i64.wrap (a1_1+1))=ji4:=(i64_w _).trans hji4;by_cases c5:0≤(ji4)
 rotate_left
 ·exact zl23
 rw [if_pos c5] at H;have c5b0:=eq_true c5;have c5b1:decide (0≤(ji4))=true:=decide_eq_true c5;clear c5;by_cases c6:(ji4)≤(wrap64 (a1_2 - 1))
 rotate_left
 ·exact zl31
 rw [if_pos c6] at H;have c6b0:=eq_true c6;have c6b1:decide ((ji4)≤(wrap64 (a1_2 - 1)))=true:=decide_eq_true c6;clear c6;by_cases c7:(wrap64 (a1_2 - 1))≤(a0.size:Int)
 rotate_left
 ·exact zl24
 rw [if_pos c7] at H;have c7b0:=eq_true c7;have c7b1:decide ((wrap64 (a1_2 - 1))≤(a0.size:Int))=true:=decide_eq_true c7;clear c7;obtain rfl:=Option.some.inj H;go_enter Tryd.func38,Tryd.ntmps38;go_wp2_with (first|((with_reducible refine j2x (N:=3) rfl ?_);refine j3d ?hg (N:=3) ?hd (cs:=#[.int .i64 a1_0, .int .i64 a1_1, .int .i64 a1_2, .slice A1_3 l1_3.length c1_3, .slice A1_4 l1_4.length c1_4]) (t:=27) ?hr ?_;(case hd=>rfl);(case hg=>rfl);(case hr=>exact zq28);intro gb101 hg w8 hbox hb;have BK101:=mk0 (hbox);have GW101:=mk0 ((zq40:w.heap.size≤gb101));have GE101:=mk0 ((zq40:w.heap.size≤gb101));replace HB:=mk0 (j1o zq4 hb);clear hb hbox hg;have hcz9_0:w8.cell? ⟨gb101,0,none⟩=some (.int .i64 a1_0):=(j1b BK101.out 0).trans rfl;have hcz9_1:w8.cell? ⟨gb101,1,none⟩=some (.int .i64 a1_1):=(j1b BK101.out 1).trans rfl;have hcz9_2:w8.cell? ⟨gb101,2,none⟩=some (.int .i64 a1_2):=(j1b BK101.out 2).trans rfl;have hcz9_3:w8.cell? ⟨gb101,3,none⟩=some (.slice A1_3 l1_3.length c1_3):=(j1b BK101.out 3).trans rfl;have hcz9_4:w8.cell? ⟨gb101,4,none⟩=some (.slice A1_4 l1_4.length c1_4):=(j1b BK101.out 4).trans rfl;have hfz9_0:=j1a BK101.out 0;have hfz9_1:=j1a BK101.out 1;have hfz9_2:=j1a BK101.out 2;have hfz9_3:=j1a BK101.out 3;have hfz9_4:=j1a BK101.out 4))
 go_ret;exact zl9
def j3i.f (a0_0 : ByteArray) (a0_1:ByteArray) (a0_2:Int) (a0_3:Int) (a1:ByteArray) (a2_0:Int) (a2_1:Int) (a2_2:Int) (l2_3:List (S49)) (l2_4:List (S27)):Option (Bool):=(j4p.f a2_0).bind fun t103=>(if a0_2=t103 then ((spec_Raw.f a1 a2_0 a2_1 a2_2 l2_3 l2_4).bind fun t104=>(some (a0_1.toList == t104.toList))) else (some false))
def j3i.T1 : Bool × List (List Nat × List Nat):=(true,[([],[]),([0],[0]),([],[]),([2],[2]),([3],[3]),([1,4],[1,4]),([5,4],[5]),([6],[6]),([7,6],[6,7]),([6],[6]),([6],[6]),([9,10,6,6],[6,9,10]),([8,11,6],[6,8,11]),([6,12],[6,12]),([13,11,0,1,2,3,4,5,6,7,8,9,10,11,12,13],[13])])
def j3i.B1 : List Nat:=[0,1,0,4,12,31,63,127,255,127,127,1663,4095,8191,16383]
theorem j3i.tab1 : rtab .any (opsOf Tryd.f18 1)=j3i.T1:=by kernel_rfl
theorem j3i.bits1 : waitsOk j3i.T1.2 j3i.B1=true:=by kernel_rfl
set_option maxHeartbeats 8000000 in
set_option maxRecDepth 100000 in
theorem j3i.calls (a0_0 : ByteArray) (a0_1:ByteArray) (a0_2:Int) (a0_3:Int) (a1:ByteArray) (a2_0:Int) (a2_1:Int) (a2_2:Int) (A2_3:Option Addr) (c2_3:Nat) (l2_3:List (S49)) (A2_4:Option Addr) (c2_4:Nat) (l2_4:List (S27)) (r:Bool) (w:World) (hr2_3:Kd.C k49 w A2_3 l2_3.length l2_3) (hc2_3:l2_3.length≤c2_3) (hr2_4:Kd.C k27 w A2_4 l2_4.length l2_4) (hc2_4:l2_4.length≤c2_4) (h:j3i.f a0_0 a0_1 a0_2 a0_3 a1 a2_0 a2_1 a2_2 l2_3 l2_4=some r) :
 Calls Tryd.prog 18 #[.agg #[.string a0_0, .string a0_1, .int .i64 a0_2, .int .i64 a0_3], .string a1, .agg #[.int .i64 a2_0, .int .i64 a2_1, .int .i64 a2_2, .slice A2_3 l2_3.length c2_3, .slice A2_4 l2_4.length c2_4]] w fun e w'=>e = .returned (.bool r)∧Below w.heap.size w w':=by
 have hu31:=Tryd.underlying31;have hu27:=Tryd.underlying27;have HR2_3:=mk0 hr2_3;have HC2_3:=mk0 hc2_3;clear hr2_3 hc2_3;have HR2_4:=mk0 hr2_4;have HC2_4:=mk0 hc2_4;clear hr2_4 hc2_4;have HB:=mk0 (Below.refl w.heap.size w);have H:((j4p.f a2_0).bind fun t103=>(if a0_2=t103 then ((spec_Raw.f a1 a2_0 a2_1 a2_2 l2_3 l2_4).bind fun t104=>(some (a0_1.toList == t104.toList))) else (some false)))=some r:=h;clear h;replace H:=Option.bind_eq_some_iff.mp H;obtain ⟨t103,A40,H⟩:=H;(try dsimp only at H);have A4:=mk0 A40;clear A40;by_cases c5:a0_2=t103
 rotate_left
 ·rw [if_neg c5] at H;have c5b0:(a0_2 == t103)=false:=beq_eq_false_iff_ne.mpr c5;have c5b1:(a0_2 != t103)=true:=bne_iff_ne.mpr c5;obtain rfl:=Option.some.inj H;go_enter Tryd.func18,Tryd.ntmps18
  try go_wp2_with (first|((with_reducible refine j2x (N:=3) rfl ?_);refine j3d ?hg (N:=3) ?hd (cs:=#[.string a0_0, .string a0_1, .int .i64 a0_2, .int .i64 a0_3]) (t:=31) ?hr ?_;(case hd=>rfl);(case hg=>rfl);(case hr=>exact zq28);intro gb101 hg w11 hbox hb;have BK101:=mk0 (hbox);have GW101:=mk0 ((zq40:w.heap.size≤gb101));have GE101:=mk0 ((zq40:w.heap.size≤gb101));replace HB:=mk0 (j1o zq4 hb);clear hb hbox hg)|((with_reducible refine j2x (N:=5) rfl ?_);refine j3d ?hg (N:=5) ?hd (cs:=#[.int .i64 a2_0, .int .i64 a2_1, .int .i64 a2_2, .slice A2_3 l2_3.length c2_3, .slice A2_4 l2_4.length c2_4]) (t:=27) ?hr ?_;(case hd=>rfl);(case hg=>rfl);(case hr=>exact zq28);intro gb102 hg w12 hbox hb;have BK102:=mk0 (hbox);have GW102:=mk0 ((zq51:w.heap.size≤gb102));have GE102:=mk0 ((zq51:w.heap.size≤gb102));replace HB:=mk0 (j1o zq5 hb);have NB101_102:=mk0 ((zq87:gb101≠gb102));have NB102_101:=mk0 ((zq88:gb102≠gb101));replace BK101:=mk0 (j2y (g:=gb101) (o := .cells #[.string a0_0, .string a0_1, .int .i64 a0_2, .int .i64 a0_3] 31 (0,0)) zq6 hb);clear hb hbox hg))
  have n0_:=mk0 (j1k BK101.out);have n1_:=mk0 (j1k BK102.out);have n2_:=mk0 (j1h HB.out);clear BK101 BK102 HB;have BK101:=n0_;have BK102:=n1_;have HB:=n2_;clear n0_ n1_ n2_;refine j3t (n:=15) (S:=fun w'=>w'.cell? ⟨gb101,0,none⟩=some (.string a0_0)∧w'.cell? ⟨gb101,1,none⟩=some (.string a0_1)∧w'.cell? ⟨gb101,2,none⟩=some (.int .i64 a0_2)∧w'.cell? ⟨gb101,3,none⟩=some (.int .i64 a0_3)∧w'.cell? ⟨gb102,0,none⟩=some (.int .i64 a2_0)∧w'.cell? ⟨gb102,1,none⟩=some (.int .i64 a2_1)∧w'.cell? ⟨gb102,2,none⟩=some (.int .i64 a2_2)∧w'.cell? ⟨gb102,3,none⟩=some (.slice A2_3 l2_3.length c2_3)∧w'.cell? ⟨gb102,4,none⟩=some (.slice A2_4 l2_4.length c2_4)) (ds:=[]) #[false,false,false,false,false,false,false,false,false,false,false,false,false,false,false] zq7 rfl rfl ⟨(j1b BK101.out 0).trans rfl,(j1b BK101.out 1).trans rfl,(j1b BK101.out 2).trans rfl,(j1b BK101.out 3).trans rfl,(j1b BK102.out 0).trans rfl,(j1b BK102.out 1).trans rfl,(j1b BK102.out 2).trans rfl,(j1b BK102.out 3).trans rfl,(j1b BK102.out 4).trans rfl⟩ (fun hHeld=>?_);refine with_tabW j3i.tab1 j3i.bits1 (fun HT_ HW_=>?_)
  generalize w12.drew=w13 at BK101 BK102 HB hHeld ⊢
  refine pure_ (i:=0) (N:=some 7) (v:=?_) (a':=?_) #[true,false,false,false,false,false,false,false,false,false,false,false,false,false,false] rfl rfl (j2q HT_.out zq7) (fun _ _ _ h=>h) (Or.inl ⟨by rfl,?_⟩) ?_ ?_;rotate_left
  ·exact zl2
  rotate_left
  ·exact zl0
  refine pure_ (i:=2) (N:=some 9) (v:=?_) (a':=?_) #[true,false,true,false,false,false,false,false,false,false,false,false,false,false,false] rfl rfl (j2q HT_.out zq7) (fun _ _ _ h=>h) (Or.inl ⟨by rfl,?_⟩) ?_ ?_;rotate_left
  ·exact zl2
  rotate_left
  ·exact zl0
  refine take_ (i:=1) (N:=some 8) (v:=?_) (a':=?_) #[true,true,true,false,false,false,false,false,false,false,false,false,false,false,false] rfl rfl (j3j HT_.out HW_.out zq7) (fun _ _ _ h=>h) (Or.inl ⟨by rfl,?_⟩) hHeld ?_ ?_;rotate_left
  ·exact zl13
  rotate_left
  ·exact zl0
  refine take_ (i:=3) (N:=some 10) (v:=?_) (a':=?_) #[true,true,true,true,false,false,false,false,false,false,false,false,false,false,false] rfl rfl (j3j HT_.out HW_.out zq7) (fun _ _ _ h=>h) (Or.inl ⟨by rfl,?_⟩) hHeld ?_ ?_;rotate_left
  ·exact zl13
  rotate_left
  ·exact zl0
  refine one_ (i:=4) (N:=some 11) #[true,true,true,true,true,false,false,false,false,false,false,false,false,false,false] rfl rfl (one_of HT_.out zq7) zq50 (fun K hK=>?_);refine goes_ Tryd.func37 zq7 rfl #[.int .i64 a2_0] (by rfl) rfl rfl zq1 ?_;with_reducible refine (j4p.calls a2_0 t103 _ A4.out).mono ?_
  rintro e w' ⟨rfl,⟨nd,rfl⟩⟩;refine ⟨_,rfl,?_⟩;refine hK.out _ _ ⟨(j1b BK101.out 0).trans rfl,(j1b BK101.out 1).trans rfl,(j1b BK101.out 2).trans rfl,(j1b BK101.out 3).trans rfl,(j1b BK102.out 0).trans rfl,(j1b BK102.out 1).trans rfl,(j1b BK102.out 2).trans rfl,(j1b BK102.out 3).trans rfl,(j1b BK102.out 4).trans rfl⟩ (fun hHeld=>?_);clear hK K;refine norm_ (a':=?_) ?_ ?_;rotate_left
  ·show Act.put _ (some 11) _=_
   exact zl0
  refine pure_ (i:=5) (N:=some 12) (v:=?_) (a':=?_) #[true,true,true,true,true,true,false,false,false,false,false,false,false,false,false] rfl rfl (j2q HT_.out zq7) (fun _ _ _ h=>h) (Or.inl ⟨by rfl,?_⟩) ?_ ?_;rotate_left
  ·exact zl2
  rotate_left
  ·exact zl0
  refine pure_ (i:=6) (N:=some 13) (v:=?_) (a':=?_) #[true,true,true,true,true,true,true,false,false,false,false,false,false,false,false] rfl rfl (j2q HT_.out zq7) (fun _ _ _ h=>h) (Or.inl ⟨by rfl,?_⟩) ?_ ?_;rotate_left
  ·exact zl2
  rotate_left
  ·exact zl0
  refine pure_ (i:=7) (N:=some 14) (v:=undef) (a':=?_) #[true,true,true,true,true,true,true,true,false,false,false,false,false,false,false] rfl rfl (j2q HT_.out zq7) (fun _ _ _ h=>h) (Or.inr ⟨by rfl,rfl⟩) ?_ ?_;rotate_left
  ·exact zl0
  refine pure_ (i:=8) (N:=some 15) (v:=undef) (a':=?_) #[true,true,true,true,true,true,true,true,true,false,false,false,false,false,false] rfl rfl (j2q HT_.out zq7) (fun _ _ _ h=>h) (Or.inr ⟨by rfl,rfl⟩) ?_ ?_;rotate_left
  ·exact zl0
  refine pure_ (i:=9) (N:=some 16) (v:=undef) (a':=?_) #[true,true,true,true,true,true,true,true,true,true,false,false,false,false,false] rfl rfl (j2q HT_.out zq7) (fun _ _ _ h=>h) (Or.inr ⟨by rfl,rfl⟩) ?_ ?_;rotate_left
  ·exact zl0
  refine pure_ (i:=10) (N:=some 17) (v:=undef) (a':=?_) #[true,true,true,true,true,true,true,true,true,true,true,false,false,false,false] rfl rfl (j2q HT_.out zq7) (fun _ _ _ h=>h) (Or.inr ⟨by rfl,rfl⟩) ?_ ?_;rotate_left
  ·exact zl0
  refine pure_ (i:=11) (N:=some 18) (v:=undef) (a':=?_) #[true,true,true,true,true,true,true,true,true,true,true,true,false,false,false] rfl rfl (j2q HT_.out zq7) (fun _ _ _ h=>h) (Or.inr ⟨by rfl,rfl⟩) ?_ ?_;rotate_left
  ·exact zl0
  refine pure_ (i:=12) (N:=some 19) (v:=undef) (a':=?_) #[true,true,true,true,true,true,true,true,true,true,true,true,true,false,false] rfl rfl (j2q HT_.out zq7) (fun _ _ _ h=>h) (Or.inr ⟨by rfl,rfl⟩) ?_ ?_;rotate_left
  ·exact zl0
  refine pure_ (i:=13) (N:=some 20) (v:=?_) (a':=?_) #[true,true,true,true,true,true,true,true,true,true,true,true,true,true,false] rfl rfl (j2q HT_.out zq7) (fun _ _ _ h=>h) (Or.inl ⟨by rfl,?_⟩) ?_ ?_;rotate_left
  ·exact zl2
  rotate_left
  ·exact zl0
  refine pure_ (i:=14) (N:=some 6) (v:=?_) (a':=?_) #[true,true,true,true,true,true,true,true,true,true,true,true,true,true,true] rfl rfl (j2q HT_.out zq7) (fun _ _ _ h=>h) (Or.inl ⟨by rfl,?_⟩) ?_ ?_;rotate_left
  ·exact zl2
  rotate_left
  ·exact zl0
  refine done_ (done_of HT_.out zq7) ?_
  try go_wp2
  go_ret;exact zl19
 rw [if_pos c5] at H;have c5b0:(a0_2 == t103)=true:=beq_iff_eq.mpr c5;have c5b1:(a0_2 != t103)=false:=bne_eq_false_iff_eq.mpr c5;clear c5;replace H:=Option.bind_eq_some_iff.mp H;obtain ⟨t104,A60,H⟩:=H;(try dsimp only at H);have A6:=mk0 A60;clear A60;obtain rfl:=Option.some.inj H;go_enter Tryd.func18,Tryd.ntmps18
 try go_wp2_with (first|((with_reducible refine j2x (N:=3) rfl ?_);refine j3d ?hg (N:=3) ?hd (cs:=#[.string a0_0, .string a0_1, .int .i64 a0_2, .int .i64 a0_3]) (t:=31) ?hr ?_;(case hd=>rfl);(case hg=>rfl);(case hr=>exact zq28);intro gb101 hg w7 hbox hb;have BK101:=mk0 (hbox);have GW101:=mk0 ((zq40:w.heap.size≤gb101));have GE101:=mk0 ((zq40:w.heap.size≤gb101));replace HB:=mk0 (j1o zq4 hb);clear hb hbox hg)|((with_reducible refine j2x (N:=5) rfl ?_);refine j3d ?hg (N:=5) ?hd (cs:=#[.int .i64 a2_0, .int .i64 a2_1, .int .i64 a2_2, .slice A2_3 l2_3.length c2_3, .slice A2_4 l2_4.length c2_4]) (t:=27) ?hr ?_;(case hd=>rfl);(case hg=>rfl);(case hr=>exact zq28);intro gb102 hg w8 hbox hb;have BK102:=mk0 (hbox);have GW102:=mk0 ((zq51:w.heap.size≤gb102));have GE102:=mk0 ((zq51:w.heap.size≤gb102));replace HB:=mk0 (j1o zq5 hb);have NB101_102:=mk0 ((zq87:gb101≠gb102));have NB102_101:=mk0 ((zq88:gb102≠gb101));replace BK101:=mk0 (j2y (g:=gb101) (o := .cells #[.string a0_0, .string a0_1, .int .i64 a0_2, .int .i64 a0_3] 31 (0,0)) zq6 hb);clear hb hbox hg))
 have n0_:=mk0 (j1k BK101.out);have n1_:=mk0 (j1k BK102.out);have n2_:=mk0 (j1h HB.out);clear BK101 BK102 HB;have BK101:=n0_;have BK102:=n1_;have HB:=n2_;clear n0_ n1_ n2_;refine j3t (n:=15) (S:=fun w'=>w'.cell? ⟨gb101,0,none⟩=some (.string a0_0)∧w'.cell? ⟨gb101,1,none⟩=some (.string a0_1)∧w'.cell? ⟨gb101,2,none⟩=some (.int .i64 a0_2)∧w'.cell? ⟨gb101,3,none⟩=some (.int .i64 a0_3)∧w'.cell? ⟨gb102,0,none⟩=some (.int .i64 a2_0)∧w'.cell? ⟨gb102,1,none⟩=some (.int .i64 a2_1)∧w'.cell? ⟨gb102,2,none⟩=some (.int .i64 a2_2)∧w'.cell? ⟨gb102,3,none⟩=some (.slice A2_3 l2_3.length c2_3)∧w'.cell? ⟨gb102,4,none⟩=some (.slice A2_4 l2_4.length c2_4)) (ds:=[]) #[false,false,false,false,false,false,false,false,false,false,false,false,false,false,false] zq7 rfl rfl ⟨(j1b BK101.out 0).trans rfl,(j1b BK101.out 1).trans rfl,(j1b BK101.out 2).trans rfl,(j1b BK101.out 3).trans rfl,(j1b BK102.out 0).trans rfl,(j1b BK102.out 1).trans rfl,(j1b BK102.out 2).trans rfl,(j1b BK102.out 3).trans rfl,(j1b BK102.out 4).trans rfl⟩ (fun hHeld=>?_);refine with_tabW j3i.tab1 j3i.bits1 (fun HT_ HW_=>?_)
 generalize w8.drew=w9 at BK101 BK102 HB hHeld ⊢
 refine pure_ (i:=0) (N:=some 7) (v:=?_) (a':=?_) #[true,false,false,false,false,false,false,false,false,false,false,false,false,false,false] rfl rfl (j2q HT_.out zq7) (fun _ _ _ h=>h) (Or.inl ⟨by rfl,?_⟩) ?_ ?_;rotate_left
 ·exact zl2
 rotate_left
 ·exact zl0
 refine pure_ (i:=2) (N:=some 9) (v:=?_) (a':=?_) #[true,false,true,false,false,false,false,false,false,false,false,false,false,false,false] rfl rfl (j2q HT_.out zq7) (fun _ _ _ h=>h) (Or.inl ⟨by rfl,?_⟩) ?_ ?_;rotate_left
 ·exact zl2
 rotate_left
 ·exact zl0
 refine take_ (i:=1) (N:=some 8) (v:=?_) (a':=?_) #[true,true,true,false,false,false,false,false,false,false,false,false,false,false,false] rfl rfl (j3j HT_.out HW_.out zq7) (fun _ _ _ h=>h) (Or.inl ⟨by rfl,?_⟩) hHeld ?_ ?_;rotate_left
 ·exact zl13
 rotate_left
 ·exact zl0
 refine take_ (i:=3) (N:=some 10) (v:=?_) (a':=?_) #[true,true,true,true,false,false,false,false,false,false,false,false,false,false,false] rfl rfl (j3j HT_.out HW_.out zq7) (fun _ _ _ h=>h) (Or.inl ⟨by rfl,?_⟩) hHeld ?_ ?_;rotate_left
 ·exact zl13
 rotate_left
 ·exact zl0
 refine one_ (i:=4) (N:=some 11) #[true,true,true,true,true,false,false,false,false,false,false,false,false,false,false] rfl rfl (one_of HT_.out zq7) zq50 (fun K hK=>?_);refine goes_ Tryd.func37 zq7 rfl #[.int .i64 a2_0] (by rfl) rfl rfl zq1 ?_;with_reducible refine (j4p.calls a2_0 t103 _ A4.out).mono ?_
 rintro e w' ⟨rfl,⟨nd,rfl⟩⟩;refine ⟨_,rfl,?_⟩;refine hK.out _ _ ⟨(j1b BK101.out 0).trans rfl,(j1b BK101.out 1).trans rfl,(j1b BK101.out 2).trans rfl,(j1b BK101.out 3).trans rfl,(j1b BK102.out 0).trans rfl,(j1b BK102.out 1).trans rfl,(j1b BK102.out 2).trans rfl,(j1b BK102.out 3).trans rfl,(j1b BK102.out 4).trans rfl⟩ (fun hHeld=>?_);clear hK K;refine norm_ (a':=?_) ?_ ?_;rotate_left
 ·show Act.put _ (some 11) _=_
  exact zl0
 refine pure_ (i:=5) (N:=some 12) (v:=?_) (a':=?_) #[true,true,true,true,true,true,false,false,false,false,false,false,false,false,false] rfl rfl (j2q HT_.out zq7) (fun _ _ _ h=>h) (Or.inl ⟨by rfl,?_⟩) ?_ ?_;rotate_left
 ·exact zl2
 rotate_left
 ·exact zl0
 refine pure_ (i:=6) (N:=some 13) (v:=?_) (a':=?_) #[true,true,true,true,true,true,true,false,false,false,false,false,false,false,false] rfl rfl (j2q HT_.out zq7) (fun _ _ _ h=>h) (Or.inl ⟨by rfl,?_⟩) ?_ ?_;rotate_left
 ·exact zl2
 rotate_left
 ·exact zl0
 refine pure_ (i:=7) (N:=some 14) (v:=?_) (a':=?_) #[true,true,true,true,true,true,true,true,false,false,false,false,false,false,false] rfl rfl (j2q HT_.out zq7) (fun _ _ _ h=>h) (Or.inl ⟨by rfl,?_⟩) ?_ ?_;rotate_left
 ·exact zl2
 rotate_left
 ·exact zl0
 refine pure_ (i:=9) (N:=some 16) (v:=?_) (a':=?_) #[true,true,true,true,true,true,true,true,false,true,false,false,false,false,false] rfl rfl (j2q HT_.out zq7) (fun _ _ _ h=>h) (Or.inl ⟨by rfl,?_⟩) ?_ ?_;rotate_left
 ·exact zl2
 rotate_left
 ·exact zl0
 refine take_ (i:=8) (N:=some 15) (v:=?_) (a':=?_) #[true,true,true,true,true,true,true,true,true,true,false,false,false,false,false] rfl rfl (j3j HT_.out HW_.out zq7) (fun _ _ _ h=>h) (Or.inl ⟨by rfl,?_⟩) hHeld ?_ ?_;rotate_left
 ·exact zl13
 rotate_left
 ·exact zl0
 refine take_ (i:=10) (N:=some 17) (v:=?_) (a':=?_) #[true,true,true,true,true,true,true,true,true,true,true,false,false,false,false] rfl rfl (j3j HT_.out HW_.out zq7) (fun _ _ _ h=>h) (Or.inl ⟨by rfl,?_⟩) hHeld ?_ ?_;rotate_left
 ·exact zl13
 rotate_left
 ·exact zl0
 refine one_ (i:=11) (N:=some 18) #[true,true,true,true,true,true,true,true,true,true,true,true,false,false,false] rfl rfl (one_of HT_.out zq7) zq50 (fun K hK=>?_);refine goes_ Tryd.func38 zq7 rfl #[.string a1, .agg #[.int .i64 a2_0, .int .i64 a2_1, .int .i64 a2_2, .slice A2_3 l2_3.length c2_3, .slice A2_4 l2_4.length c2_4]] (by rfl) rfl rfl zq1 ?_;with_reducible refine (spec_Raw.calls a1 a2_0 a2_1 a2_2 _ _ l2_3 _ _ l2_4 t104 _ ?side1 ?side2 ?side3 ?side4 A6.out).mono ?_
 (case side1=>repeat (first|exact (Kd.C_below HR2_3.out zq38)|(with_reducible refine Kd.C_alloc ?_ _)|(with_reducible refine Kd.C_drewN ?_ _)|(with_reducible refine Kd.C_drew ?_)));(case side2=>exact HC2_3.out);(case side3=>repeat (first|exact (Kd.C_below HR2_4.out zq38)|(with_reducible refine Kd.C_alloc ?_ _)|(with_reducible refine Kd.C_drewN ?_ _)|(with_reducible refine Kd.C_drew ?_)));(case side4=>exact HC2_4.out);rintro e w10 ⟨rfl,hb⟩;refine ⟨_,rfl,?_⟩;have n0_:=mk0 (j2y (g:=gb101) (o := .cells #[.string a0_0, .string a0_1, .int .i64 a0_2, .int .i64 a0_3] 31 (0,0)) zq6 hb);have n1_:=mk0 (j2y (g:=gb102) (o := .cells #[.int .i64 a2_0, .int .i64 a2_1, .int .i64 a2_2, .slice A2_3 l2_3.length c2_3, .slice A2_4 l2_4.length c2_4] 27 (0,0)) zq31 hb);have n2_:=mk0 (j1o zq38 hb);clear BK101 BK102 HB;have BK101:=n0_;have BK102:=n1_;have HB:=n2_;clear n0_ n1_ n2_ hb;refine hK.out _ _ ⟨(j1b BK101.out 0).trans rfl,(j1b BK101.out 1).trans rfl,(j1b BK101.out 2).trans rfl,(j1b BK101.out 3).trans rfl,(j1b BK102.out 0).trans rfl,(j1b BK102.out 1).trans rfl,(j1b BK102.out 2).trans rfl,(j1b BK102.out 3).trans rfl,(j1b BK102.out 4).trans rfl⟩ (fun hHeld=>?_);clear hK K;refine norm_ (a':=?_) ?_ ?_;rotate_left
 ·show Act.put _ (some 18) _=_
  exact zl0
 refine pure_ (i:=12) (N:=some 19) (v:=?_) (a':=?_) #[true,true,true,true,true,true,true,true,true,true,true,true,true,false,false] rfl rfl (j2q HT_.out zq7) (fun _ _ _ h=>h) (Or.inl ⟨by rfl,?_⟩) ?_ ?_;rotate_left
 ·exact zl2
 rotate_left
 ·exact zl0
 refine pure_ (i:=13) (N:=some 20) (v:=?_) (a':=?_) #[true,true,true,true,true,true,true,true,true,true,true,true,true,true,false] rfl rfl (j2q HT_.out zq7) (fun _ _ _ h=>h) (Or.inl ⟨by rfl,?_⟩) ?_ ?_;rotate_left
 ·exact zl2
 rotate_left
 ·exact zl0
 refine pure_ (i:=14) (N:=some 6) (v:=?_) (a':=?_) #[true,true,true,true,true,true,true,true,true,true,true,true,true,true,true] rfl rfl (j2q HT_.out zq7) (fun _ _ _ h=>h) (Or.inl ⟨by rfl,?_⟩) ?_ ?_;rotate_left
 ·exact zl2
 rotate_left
 ·exact zl0
 refine done_ (done_of HT_.out zq7) ?_
 try go_wp2
 go_ret;exact zl19
end Go.Proofs.YthmjfmpgmcgonaaDoor.K
end
