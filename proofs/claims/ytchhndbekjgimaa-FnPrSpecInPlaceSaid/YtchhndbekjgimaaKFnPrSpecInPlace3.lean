/- The words, walks and laws that the proof rests on, laid together (part 3). -/
import Derived.Test.YtchhndbekjgimaaKFnPrSpecInPlace2
section
namespace Go.Proofs.Ytchhndbekjgimaa.S
open Go.RowKit Go.Proofs.YtchhndbekjgimaaW.PrintWords Go.Proofs.YtchhndbekjgimaaW.PrintLast Go.Proofs.YtchhndbekjgimaaW.PrintMore
attribute [local go_sem] max2_int min2_int max_two min_two max_three min_three max_four min_four
set_option linter.unusedVariables false
set_option linter.unusedSimpArgs false
set_option maxHeartbeats 8000000 in
set_option maxRecDepth 100000 in
theorem j1k.step (k : Nat) (ih_25:∀ m,m<k→j1l.Stmt m) (ih_32:∀ m,m<k→j1e.Stmt m) (ih_33:∀ m,m<k→j1k.Stmt m):j1k.Stmt k:=by
 intro g s0_0 s0_1 r1 r2 r3 r4 w0 w hI hB h;cases k with
 | zero=>exact absurd h (by simp [j1k.f])
 | succ k =>
 simp only [j1k.f] at h
 have hu34:=Try.underlying34;have HI0:=mk0 hI;have HK:=mk0 (KeepBut.refl w g none);have HL:=mk0 hB.size;clear hI;have HW0:=mk0 hB.size;have HB:=mk0 hB;clear hB;have H:((j1c.f k s0_0 (wrap64 (s0_1+1))).bind fun bt183=>((j1d.f bt183.1 bt183.2 93).bind fun bt185=>(if bt185.1=true then (some (([]:List (S34)),true,bt185.2.1,bt185.2.2)) else (j1k.l0 k ([]:List (S34)) bt185.2.1 bt185.2.2))))=some (r1,r2,r3,r4):=h;clear h;replace H:=Option.bind_eq_some_iff.mp H;obtain ⟨⟨t183,t184⟩,A20,H⟩:=H;replace H:((j1d.f t183 t184 93).bind fun bt185=>(if bt185.1=true then (some (([]:List (S34)),true,bt185.2.1,bt185.2.2)) else (j1k.l0 k ([]:List (S34)) bt185.2.1 bt185.2.2)))=some (r1,r2,r3,r4):=H;have A2:=mk0 A20;clear A20;replace H:=Option.bind_eq_some_iff.mp H;obtain ⟨⟨t185,t186,t187⟩,A30,H⟩:=H;replace H:(if t185=true then (some (([]:List (S34)),true,t186,t187)) else (j1k.l0 k ([]:List (S34)) t186 t187))=some (r1,r2,r3,r4):=H;have A3:=mk0 A30;clear A30;by_cases c4:t185=true
 ·subst c4;have H1:(some (([]:List (S34)),true,t186,t187))=some (r1,r2,r3,r4):=by rw [if_pos rfl] at H;exact H
  clear H;have H:=H1;clear H1;simp only [Option.some.injEq,Prod.mk.injEq] at H;obtain ⟨rfl,rfl,rfl,rfl⟩:=H;obtain ⟨HGz5,hgz5⟩:=HI0.out;have hcz5_0:=j2i HGz5;have hcz5_1:=j2g HGz5;have hfz5_0:=j1a HGz5 0;have hfz5_1:=j1a HGz5 1;clear HGz5 hgz5;go_enter Try.func33,Try.ntmps33;go_wp2_with (first|((with_reducible refine j1r (f:=24) rfl ?_);refine j2f (some 15) rfl rfl Try.func24 zq23 rfl #[.pointer (some ⟨g,0,none⟩)] rfl zq2 ?_;(with_reducible refine (j1c.calls k g s0_0 (wrap64 (s0_1+1)) t183 t184 w0 _ ?side1 ?side2 A2.out).mono ?_);(case side1=>exact zq0);(case side2=>exact zq3);rintro e w6 ⟨rfl,hi,hb,hk⟩;refine ⟨_,rfl,?_⟩;have n0_:=mk0 (KeepBut.trans zq1 hk (.inl rfl));have n1_:=mk0 (hb);have n2_:=mk0 (hi);clear HK HB HI0;have HK:=n0_;have HB:=n1_;have HI0:=n2_;clear n0_ n1_ n2_;(try clear hb);(try clear hb2);(try clear hk);(try clear hi))|((with_reducible refine j1r (f:=36) rfl ?_);refine j2f (some 17) rfl rfl Try.func36 zq23 rfl #[.pointer (some ⟨g,0,none⟩), .int .u8 93] rfl zq2 ?_;(with_reducible refine (j1d.calls g t183 t184 93 true t186 t187 w0 _ ?side1 ?side2 A3.out).mono ?_);(case side1=>exact zq0);(case side2=>exact zq3);rintro e w7 ⟨rfl,hi,hb,hk⟩;refine ⟨_,rfl,?_⟩;have n0_:=mk0 (KeepBut.trans zq1 hk (.inl rfl));have n1_:=mk0 (hb);have n2_:=mk0 (hi);clear HK HB HI0;have HK:=n0_;have HB:=n1_;have HI0:=n2_;clear n0_ n1_ n2_;(try clear hb);(try clear hb2);(try clear hk);(try clear hi)))
  go_ret2;exact ⟨_,by first|rfl|(simp [j2o,j2n]<;>rfl)|(simp [*, j2o,j2n]<;>rfl),by first|exact Kd.R_nil _ _ _ _ _|exact Kd.N_nil _ _ _ _ _|exact Kd.V_nil _ _ _ _ _|exact Kd.Q_nil _ _ _ _ _|exact Kd.S_nil _ _ _ _ _,by repeat (first|(with_reducible first|exact HI0.out|apply IsS44.alloc|apply IsS44.drewN|apply IsS44.drew|apply IsS44.set_0|apply IsS44.set_1)|exact HI0.out),by repeat (first|(with_reducible first|exact HB.out|apply j1s|apply j1q|apply j1t|refine j1u ?_ (IsS44.ge HI0.out))|exact HB.out),by repeat (first|(with_reducible first|exact HK.out|apply KeepBut.set_|apply j2c|apply j2h|apply j2d)|exact HK.out)⟩
 replace c4:=Bool.eq_false_iff.mpr c4;subst c4;have H1:(j1k.l0 k ([]:List (S34)) t186 t187)=some (r1,r2,r3,r4):=by rw [if_neg (show ¬ (false=true) by decide)] at H;exact H
 clear H;have H:=H1;clear H1;have H':=mk0 H;clear H;obtain ⟨HGz8,hgz8⟩:=HI0.out;have hcz8_0:=j2i HGz8;have hcz8_1:=j2g HGz8;have hfz8_0:=j1a HGz8 0;have hfz8_1:=j1a HGz8 1;clear HGz8 hgz8;go_enter Try.func33,Try.ntmps33;go_wp2_with (first|((with_reducible refine j1r (f:=24) rfl ?_);refine j2f (some 15) rfl rfl Try.func24 zq23 rfl #[.pointer (some ⟨g,0,none⟩)] rfl zq2 ?_;(with_reducible refine (j1c.calls k g s0_0 (wrap64 (s0_1+1)) t183 t184 w0 _ ?side1 ?side2 A2.out).mono ?_);(case side1=>exact zq0);(case side2=>exact zq3);rintro e w9 ⟨rfl,hi,hb,hk⟩;refine ⟨_,rfl,?_⟩;have n0_:=mk0 (KeepBut.trans zq1 hk (.inl rfl));have n1_:=mk0 (hb);have n2_:=mk0 (hi);clear HK HB HI0;have HK:=n0_;have HB:=n1_;have HI0:=n2_;clear n0_ n1_ n2_;(try clear hb);(try clear hb2);(try clear hk);(try clear hi))|((with_reducible refine j1r (f:=36) rfl ?_);refine j2f (some 17) rfl rfl Try.func36 zq23 rfl #[.pointer (some ⟨g,0,none⟩), .int .u8 93] rfl zq2 ?_;(with_reducible refine (j1d.calls g t183 t184 93 false t186 t187 w0 _ ?side1 ?side2 A3.out).mono ?_);(case side1=>exact zq0);(case side2=>exact zq3);rintro e w10 ⟨rfl,hi,hb,hk⟩;refine ⟨_,rfl,?_⟩;have n0_:=mk0 (KeepBut.trans zq1 hk (.inl rfl));have n1_:=mk0 (hb);have n2_:=mk0 (hi);clear HK HB HI0;have HK:=n0_;have HB:=n1_;have HI0:=n2_;clear n0_ n1_ n2_;(try clear hb);(try clear hb2);(try clear hk);(try clear hi)))
 (try simp only [Act.put,List.setIfInBounds_toArray,List.set_cons_zero,List.set_cons_succ]);go_loopg [4] k (fun kq v4 w'=>∃ (x4_1:List (S34)) (x1000_1:ByteArray) (x1001_1:Int),Aside0 (j1k.l0 kq x4_1 x1000_1 x1001_1=some (r1,r2,r3,r4))∧Aside0 (kq≤k)∧Aside0 (Kd.R k34 34 w' w.heap.size (fun _=>True) v4 x4_1)∧Aside0 (IsS44 w0 w' g x1000_1 x1001_1)∧Aside0 (KeepBut w w' g none)∧Aside0 (Below w0.heap.size w0 w'))
 case atStart=>exact ⟨(([]:List (S34))),(t186),(t187),H',⟨Nat.le_refl _⟩,⟨by first|exact Kd.R_nil _ _ _ _ _|exact Kd.N_nil _ _ _ _ _|exact Kd.V_nil _ _ _ _ _|exact Kd.Q_nil _ _ _ _ _|exact Kd.S_nil _ _ _ _ _⟩,⟨by repeat (first|(with_reducible first|exact HI0.out|apply IsS44.alloc|apply IsS44.drewN|apply IsS44.drew|apply IsS44.set_0|apply IsS44.set_1)|exact HI0.out)⟩,⟨by repeat (first|(with_reducible first|exact HK.out|apply KeepBut.set_|apply j2c|apply j2h|apply j2d)|exact HK.out)⟩,⟨by repeat (first|(with_reducible first|exact HB.out|apply j1s|apply j1q|apply j1t|refine j1u ?_ (IsS44.ge HI0.out))|exact HB.out)⟩⟩
 case round =>
  clear H'
  try clear c2
  try clear p2
  try clear c3
  try clear c4
  try clear p6
  try clear hcz5_0
  try clear hcz5_1
  try clear hcz8_0
  try clear hcz8_1
  try clear hfz5_0
  try clear hfz5_1
  try clear hfz8_0
  try clear hfz8_1
  obtain ⟨x4_1,x1000_1,x1001_1,HA,HK1,HO_4,HI0,HK,HB⟩:=hrel;cases gk with
  | zero=>exact absurd HA.out (by simp [j1k.l0])
  | succ k1 =>
   have H:=HA.out;clear HA;simp only [j1k.l0] at H;replace H:=Option.bind_eq_some_iff.mp H;obtain ⟨⟨t188,t189,t190,t191,t194,t197,t198,t199⟩,A110,H⟩:=H;replace H:(if t197=true then (if x4_1.length<1954687338268 then ((some (x4_1++[(⟨t188,t189,t190,t191,t194⟩:S34)]:List (S34))).bind fun y201=>((j1c.f k1 t198 t199).bind fun bt204=>((j1d.f bt204.1 bt204.2 93).bind fun bt206=>(if bt206.1=true then (some (y201,true,bt206.2.1,bt206.2.2)) else ((j1d.f bt206.2.1 bt206.2.2 44).bind fun bt209=>(if bt209.1=true then ((j1c.f k1 bt209.2.1 bt209.2.2).bind fun bt212=>(j1k.l0 k1 y201 bt212.1 bt212.2)) else (some (([]:List (S34)),false,bt209.2.1,bt209.2.2)))))))) else (none)) else (some (([]:List (S34)),false,t198,t199)))=some (r1,r2,r3,r4):=H;have A11:=mk0 A110;clear A110;by_cases c12:t197=true
   rotate_left
   ·replace c12:=Bool.eq_false_iff.mpr c12;subst c12;have H1:(some (([]:List (S34)),false,t198,t199))=some (r1,r2,r3,r4):=by rw [if_neg (show ¬ (false=true) by decide)] at H;exact H
    clear H;have H:=H1;clear H1;simp only [Option.some.injEq,Prod.mk.injEq] at H;obtain ⟨rfl,rfl,rfl,rfl⟩:=H;go_wp2_with (first|((with_reducible refine j1r (f:=25) rfl ?_);refine j2f (some 20) rfl rfl Try.func25 zq23 rfl #[.pointer (some ⟨g,0,none⟩)] rfl zq2 ?_;(with_reducible refine (ih_25 k1 (by have:=HK1.out;omega) g x1000_1 x1001_1 t188 t189 t190 t191 t194 false t198 t199 w0 _ ?side1 ?side2 A11.out).mono ?_);(case side1=>exact zq0);(case side2=>exact zq3);rintro e w56 ⟨v192,v195,rfl,ho0,ho1,hi,hb,hk⟩;refine ⟨_,rfl,?_⟩;have n0_:=mk0 (Kd.R_mono (Kd.R_told (Kd.R_told (Kd.R_oldK (IsS44.apart (show IsS44 w0 _ g x1000_1 x1001_1 from zq0) zq44 zq50) hk) (Kd.R_base ho0)) (Kd.R_base ho1)) (fun _ h_=>h_.1));have n1_:=mk0 (Kd.R_lower ho0 (j2m (w:=w) (g:=g) (row:=none) zq1));have n2_:=mk0 (Kd.R_lower (Kd.R_new' ho1 (Kd.R_lt zq44)) (j2m (w:=w) (g:=g) (row:=none) zq1));have n3_:=mk0 (KeepBut.trans zq1 hk (.inl rfl));have n4_:=mk0 (hb);have n5_:=mk0 (hi);clear HO_4 HK HB HI0;have HO_4:=n0_;have HO193:=n1_;have HO196:=n2_;have HK:=n3_;have HB:=n4_;have HI0:=n5_;clear n0_ n1_ n2_ n3_ n4_ n5_;(try clear hb);(try clear hb2);(try clear hk);(try clear hi);(try clear ho0);(try clear ho1))|((with_reducible refine j2v (N:=5) rfl ?_);refine j2s ?hg (N:=5) ?hd (cs:=#[.int .i64 0, .int .i64 0, .int .i64 0, .slice none 0 0, .slice none 0 0]) (t:=34) ?hr ?_;(case hd=>rfl);(case hg=>rfl);(case hr=>exact zq37);intro gb200 hg w57 hbox hb;have n0_:=mk0 (Kd.R_below (Kd.R_elderB zq44 gb200 (Nat.le_of_eq hg.symm)) hb);have n1_:=mk0 (Kd.R_below zq73 hb);have n2_:=mk0 (Kd.R_below (Kd.R_elderB zq74 gb200 (Nat.le_of_eq hg.symm)) hb);have n3_:=mk0 (IsS44.below zq0 hb);have n4_:=mk0 (KeepBut.trans zq1 (KeepBut.of_below hb g none) (.inl rfl));have n5_:=mk0 (j2a zq3 hb);have n6_:=mk0 (hbox);have n7_:=mk0 ((zq30:w.heap.size≤gb200));have n8_:=mk0 ((Nat.le_trans HW0.out (zq30:w.heap.size≤gb200):w0.heap.size≤gb200));have n9_:=mk0 ((by rw [hg];exact Nat.ne_of_lt (IsS44.lt (show IsS44 w0 _ g t198 t199 from zq0)):g≠gb200));have n10_:=mk0 ((by rw [hg];exact Nat.ne_of_gt (IsS44.lt (show IsS44 w0 _ g t198 t199 from zq0)):gb200≠g));clear HO_4 HO193 HO196 HI0 HK HB;have HO_4:=n0_;have HO193:=n1_;have HO196:=n2_;have HI0:=n3_;have HK:=n4_;have HB:=n5_;have BK200:=n6_;have GW200:=n7_;have GE200:=n8_;have NB0_200:=n9_;have NB200_0:=n10_;clear n0_ n1_ n2_ n3_ n4_ n5_ n6_ n7_ n8_ n9_ n10_;clear hb hbox hg;have hnb58:=NB200_0.out;have hnc58:=NB0_200.out;have hcz59_0:w57.cell? ⟨gb200,0,none⟩=some (.int .i64 0):=(j1b BK200.out 0).trans rfl;have hcz59_1:w57.cell? ⟨gb200,1,none⟩=some (.int .i64 0):=(j1b BK200.out 1).trans rfl;have hcz59_2:w57.cell? ⟨gb200,2,none⟩=some (.int .i64 0):=(j1b BK200.out 2).trans rfl;have hcz59_3:w57.cell? ⟨gb200,3,none⟩=some (.slice none 0 0):=(j1b BK200.out 3).trans rfl;have hcz59_4:w57.cell? ⟨gb200,4,none⟩=some (.slice none 0 0):=(j1b BK200.out 4).trans rfl;have hfz59_0:=j1a BK200.out 0;have hfz59_1:=j1a BK200.out 1;have hfz59_2:=j1a BK200.out 2;have hfz59_3:=j1a BK200.out 3;have hfz59_4:=j1a BK200.out 4;obtain ⟨Ao60,co60,eo60⟩:=Kd.R_slice HO193.out;subst eo60;obtain ⟨Ao61,co61,eo61⟩:=Kd.R_slice HO196.out;subst eo61))
    go_ret2;exact zl6
   subst c12;have H1:(if x4_1.length<1954687338268 then ((some (x4_1++[(⟨t188,t189,t190,t191,t194⟩:S34)]:List (S34))).bind fun y201=>((j1c.f k1 t198 t199).bind fun bt204=>((j1d.f bt204.1 bt204.2 93).bind fun bt206=>(if bt206.1=true then (some (y201,true,bt206.2.1,bt206.2.2)) else ((j1d.f bt206.2.1 bt206.2.2 44).bind fun bt209=>(if bt209.1=true then ((j1c.f k1 bt209.2.1 bt209.2.2).bind fun bt212=>(j1k.l0 k1 y201 bt212.1 bt212.2)) else (some (([]:List (S34)),false,bt209.2.1,bt209.2.2)))))))) else (none))=some (r1,r2,r3,r4):=by rw [if_pos rfl] at H;exact H
   clear H;have H:=H1;clear H1;by_cases c13:x4_1.length<1954687338268
   rotate_left
   ·rw [if_neg c13] at H;exact absurd H (by simp)
   rw [if_pos c13] at H;have LMc13:=mk0 c13;clear c13;obtain ⟨y201,hy201⟩:∃ y_:List (S34),y_=(x4_1++[(⟨t188,t189,t190,t191,t194⟩:S34)]):=⟨_,rfl⟩;replace H:((j1c.f k1 t198 t199).bind fun bt204=>((j1d.f bt204.1 bt204.2 93).bind fun bt206=>(if bt206.1=true then (some (y201,true,bt206.2.1,bt206.2.2)) else ((j1d.f bt206.2.1 bt206.2.2 44).bind fun bt209=>(if bt209.1=true then ((j1c.f k1 bt209.2.1 bt209.2.2).bind fun bt212=>(j1k.l0 k1 y201 bt212.1 bt212.2)) else (some (([]:List (S34)),false,bt209.2.1,bt209.2.2)))))))=some (r1,r2,r3,r4):=by first|(rw [hy201];with_reducible exact H)|(have H2_:=(Option.bind_some _ _).symm.trans H;rw [hy201];with_reducible exact H2_)|(have H2_:=(Option.bind_some _ _).symm.trans H;with_reducible exact H2_)|with_reducible exact H|(rw [hy201];exact H)|exact H
   have Ny201:=mk0 hy201;clear hy201;replace H:=Option.bind_eq_some_iff.mp H;obtain ⟨⟨t204,t205⟩,A140,H⟩:=H;replace H:((j1d.f t204 t205 93).bind fun bt206=>(if bt206.1=true then (some (y201,true,bt206.2.1,bt206.2.2)) else ((j1d.f bt206.2.1 bt206.2.2 44).bind fun bt209=>(if bt209.1=true then ((j1c.f k1 bt209.2.1 bt209.2.2).bind fun bt212=>(j1k.l0 k1 y201 bt212.1 bt212.2)) else (some (([]:List (S34)),false,bt209.2.1,bt209.2.2))))))=some (r1,r2,r3,r4):=H;have A14:=mk0 A140;clear A140;replace H:=Option.bind_eq_some_iff.mp H;obtain ⟨⟨t206,t207,t208⟩,A150,H⟩:=H;replace H:(if t206=true then (some (y201,true,t207,t208)) else ((j1d.f t207 t208 44).bind fun bt209=>(if bt209.1=true then ((j1c.f k1 bt209.2.1 bt209.2.2).bind fun bt212=>(j1k.l0 k1 y201 bt212.1 bt212.2)) else (some (([]:List (S34)),false,bt209.2.1,bt209.2.2)))))=some (r1,r2,r3,r4):=H;have A15:=mk0 A150;clear A150;by_cases c16:t206=true
   ·subst c16;have H1:(some (y201,true,t207,t208))=some (r1,r2,r3,r4):=by rw [if_pos rfl] at H;exact H
    clear H;have H:=H1;clear H1;simp only [Option.some.injEq,Prod.mk.injEq] at H;obtain ⟨rfl,rfl,rfl,rfl⟩:=H;go_wp2_with (first|((with_reducible refine j1r (f:=25) rfl ?_);refine j2f (some 20) rfl rfl Try.func25 zq23 rfl #[.pointer (some ⟨g,0,none⟩)] rfl zq2 ?_;(with_reducible refine (ih_25 k1 (by have:=HK1.out;omega) g x1000_1 x1001_1 t188 t189 t190 t191 t194 true t198 t199 w0 _ ?side1 ?side2 A11.out).mono ?_);(case side1=>exact zq0);(case side2=>exact zq3);rintro e w17 ⟨v192,v195,rfl,ho0,ho1,hi,hb,hk⟩;refine ⟨_,rfl,?_⟩;have n0_:=mk0 (Kd.R_mono (Kd.R_told (Kd.R_told (Kd.R_oldK (IsS44.apart (show IsS44 w0 _ g x1000_1 x1001_1 from zq0) zq44 zq50) hk) (Kd.R_base ho0)) (Kd.R_base ho1)) (fun _ h_=>h_.1));have n1_:=mk0 (Kd.R_lower ho0 (j2m (w:=w) (g:=g) (row:=none) zq1));have n2_:=mk0 (Kd.R_lower (Kd.R_new' ho1 (Kd.R_lt zq44)) (j2m (w:=w) (g:=g) (row:=none) zq1));have n3_:=mk0 (KeepBut.trans zq1 hk (.inl rfl));have n4_:=mk0 (hb);have n5_:=mk0 (hi);clear HO_4 HK HB HI0;have HO_4:=n0_;have HO193:=n1_;have HO196:=n2_;have HK:=n3_;have HB:=n4_;have HI0:=n5_;clear n0_ n1_ n2_ n3_ n4_ n5_;(try clear hb);(try clear hb2);(try clear hk);(try clear hi);(try clear ho0);(try clear ho1))|((with_reducible refine j2v (N:=5) rfl ?_);refine j2s ?hg (N:=5) ?hd (cs:=#[.int .i64 0, .int .i64 0, .int .i64 0, .slice none 0 0, .slice none 0 0]) (t:=34) ?hr ?_;(case hd=>rfl);(case hg=>rfl);(case hr=>exact zq37);intro gb200 hg w18 hbox hb;have n0_:=mk0 (Kd.R_below (Kd.R_elderB zq44 gb200 (Nat.le_of_eq hg.symm)) hb);have n1_:=mk0 (Kd.R_below zq73 hb);have n2_:=mk0 (Kd.R_below (Kd.R_elderB zq74 gb200 (Nat.le_of_eq hg.symm)) hb);have n3_:=mk0 (IsS44.below zq0 hb);have n4_:=mk0 (KeepBut.trans zq1 (KeepBut.of_below hb g none) (.inl rfl));have n5_:=mk0 (j2a zq3 hb);have n6_:=mk0 (hbox);have n7_:=mk0 ((zq30:w.heap.size≤gb200));have n8_:=mk0 ((Nat.le_trans HW0.out (zq30:w.heap.size≤gb200):w0.heap.size≤gb200));have n9_:=mk0 ((by rw [hg];exact Nat.ne_of_lt (IsS44.lt (show IsS44 w0 _ g t198 t199 from zq0)):g≠gb200));have n10_:=mk0 ((by rw [hg];exact Nat.ne_of_gt (IsS44.lt (show IsS44 w0 _ g t198 t199 from zq0)):gb200≠g));clear HO_4 HO193 HO196 HI0 HK HB;have HO_4:=n0_;have HO193:=n1_;have HO196:=n2_;have HI0:=n3_;have HK:=n4_;have HB:=n5_;have BK200:=n6_;have GW200:=n7_;have GE200:=n8_;have NB0_200:=n9_;have NB200_0:=n10_;clear n0_ n1_ n2_ n3_ n4_ n5_ n6_ n7_ n8_ n9_ n10_;clear hb hbox hg;have hnb19:=NB200_0.out;have hnc19:=NB0_200.out;have hcz20_0:w18.cell? ⟨gb200,0,none⟩=some (.int .i64 0):=(j1b BK200.out 0).trans rfl;have hcz20_1:w18.cell? ⟨gb200,1,none⟩=some (.int .i64 0):=(j1b BK200.out 1).trans rfl;have hcz20_2:w18.cell? ⟨gb200,2,none⟩=some (.int .i64 0):=(j1b BK200.out 2).trans rfl;have hcz20_3:w18.cell? ⟨gb200,3,none⟩=some (.slice none 0 0):=(j1b BK200.out 3).trans rfl;have hcz20_4:w18.cell? ⟨gb200,4,none⟩=some (.slice none 0 0):=(j1b BK200.out 4).trans rfl;have hfz20_0:=j1a BK200.out 0;have hfz20_1:=j1a BK200.out 1;have hfz20_2:=j1a BK200.out 2;have hfz20_3:=j1a BK200.out 3;have hfz20_4:=j1a BK200.out 4;obtain ⟨Ao21,co21,eo21⟩:=Kd.R_slice HO193.out;subst eo21;obtain ⟨Ao22,co22,eo22⟩:=Kd.R_slice HO196.out;subst eo22)|((with_reducible refine j3j (t:=34) (p:=5) rfl ?_);refine store_event (t:=34) (p:=5) (v:=?vo_w23) (w1:=(((((w18.setCell ⟨gb200,0,none⟩ (.int .i64 t188)).setCell ⟨gb200,1,none⟩ (.int .i64 t189)).setCell ⟨gb200,2,none⟩ (.int .i64 t190)).setCell ⟨gb200,3,none⟩ (.slice Ao21 t191.length co21)).setCell ⟨gb200,4,none⟩ (.slice Ao22 t194.length co22))) ?hg ?ho ?hn ?hr ?_;(case ho=>rfl);(case hg=>rfl);(case hn=>rfl);(case hr=>exact zq37);intro w23 hw;have n0_:Aside0 (Kd.R k34 34 w23 w.heap.size (fun k_=>some k_≠(.slice Ao21 t191.length co21:Value).ownBlock∧some k_≠(.slice Ao22 t194.length co22:Value).ownBlock∧k_≠gb200) u4 x4_1):=⟨(by rw [hw];exact (by (with_reducible repeat (first|apply Kd.R_alloc|apply Kd.R_drewN|apply Kd.R_drew));exact Kd.R_mono (Kd.R_far (p:=⟨gb200,4,none⟩) (Kd.R_far (p:=⟨gb200,3,none⟩) (Kd.R_far (p:=⟨gb200,2,none⟩) (Kd.R_far (p:=⟨gb200,1,none⟩) (Kd.R_far (p:=⟨gb200,0,none⟩) (Kd.R_mono HO_4.out (fun k_ hk=>(⟨hk,hk.2⟩:_∧k_≠gb200))) (fun _ hk=>hk.2) (.int .i64 t188)) (fun _ hk=>hk.2) (.int .i64 t189)) (fun _ hk=>hk.2) (.int .i64 t190)) (fun _ hk=>hk.2) (.slice Ao21 t191.length co21)) (fun _ hk=>hk.2) (.slice Ao22 t194.length co22)) (fun _ hk=>⟨hk.1.1.1.2,⟨hk.1.1.2,hk.1.2⟩⟩)))⟩;have n1_:Aside0 (Kd.R k60 60 w23 w.heap.size (fun _=>True) (.slice Ao21 t191.length co21) t191):=⟨(by rw [hw];exact (by (with_reducible repeat (first|apply Kd.R_alloc|apply Kd.R_drewN|apply Kd.R_drew));exact Kd.R_mono (Kd.R_far (p:=⟨gb200,4,none⟩) (Kd.R_far (p:=⟨gb200,3,none⟩) (Kd.R_far (p:=⟨gb200,2,none⟩) (Kd.R_far (p:=⟨gb200,1,none⟩) (Kd.R_far (p:=⟨gb200,0,none⟩) (Kd.R_types HO193.out BK200.out zq50) (fun _ hk=>hk.2) (.int .i64 t188)) (fun _ hk=>hk.2) (.int .i64 t189)) (fun _ hk=>hk.2) (.int .i64 t190)) (fun _ hk=>hk.2) (.slice Ao21 t191.length co21)) (fun _ hk=>hk.2) (.slice Ao22 t194.length co22)) (fun _ hk=>trivial)))⟩;have n2_:Aside0 (Kd.R k34 34 w23 w.heap.size (fun k_=>some k_≠(u4:Value).ownBlock∧some k_≠(.slice Ao21 t191.length co21:Value).ownBlock∧k_≠gb200) (.slice Ao22 t194.length co22) t194):=⟨(by rw [hw];exact (by (with_reducible repeat (first|apply Kd.R_alloc|apply Kd.R_drewN|apply Kd.R_drew));exact Kd.R_mono (Kd.R_far (p:=⟨gb200,4,none⟩) (Kd.R_far (p:=⟨gb200,3,none⟩) (Kd.R_far (p:=⟨gb200,2,none⟩) (Kd.R_far (p:=⟨gb200,1,none⟩) (Kd.R_far (p:=⟨gb200,0,none⟩) (Kd.R_mono HO196.out (fun k_ hk=>(⟨hk,hk.2⟩:_∧k_≠gb200))) (fun _ hk=>hk.2) (.int .i64 t188)) (fun _ hk=>hk.2) (.int .i64 t189)) (fun _ hk=>hk.2) (.int .i64 t190)) (fun _ hk=>hk.2) (.slice Ao21 t191.length co21)) (fun _ hk=>hk.2) (.slice Ao22 t194.length co22)) (fun _ hk=>⟨hk.1.1.2,⟨hk.1.1.1,hk.1.2⟩⟩)))⟩;have n3_:Aside0 (w23.heap[gb200]? = some (.cells #[.int .i64 t188, .int .i64 t189, .int .i64 t190, .slice Ao21 t191.length co21, .slice Ao22 t194.length co22] 34 (0,0))):=⟨(by rw [hw];exact (by (with_reducible repeat (first|refine j1i ?_ _|refine j1j ?_|refine j1h ?_ _));refine j1w (cs:=#[.int .i64 t188, .int .i64 t189, .int .i64 t190, .slice Ao21 t191.length co21, .slice none 0 0]) ?_ 4 _ rfl;(with_reducible repeat (first|refine j1i ?_ _|refine j1j ?_|refine j1h ?_ _));refine j1w (cs:=#[.int .i64 t188, .int .i64 t189, .int .i64 t190, .slice none 0 0, .slice none 0 0]) ?_ 3 _ rfl;(with_reducible repeat (first|refine j1i ?_ _|refine j1j ?_|refine j1h ?_ _));refine j1w (cs:=#[.int .i64 t188, .int .i64 t189, .int .i64 0, .slice none 0 0, .slice none 0 0]) ?_ 2 _ rfl;(with_reducible repeat (first|refine j1i ?_ _|refine j1j ?_|refine j1h ?_ _));refine j1w (cs:=#[.int .i64 t188, .int .i64 0, .int .i64 0, .slice none 0 0, .slice none 0 0]) ?_ 1 _ rfl;(with_reducible repeat (first|refine j1i ?_ _|refine j1j ?_|refine j1h ?_ _));refine j1w (cs:=#[.int .i64 0, .int .i64 0, .int .i64 0, .slice none 0 0, .slice none 0 0]) ?_ 0 _ rfl;(with_reducible repeat (first|refine j1i ?_ _|refine j1j ?_|refine j1h ?_ _));exact BK200.out))⟩;have n4_:Aside0 (IsS44 w0 w23 g t198 t199):=⟨(by rw [hw];exact zq5)⟩;have n5_:Aside0 (KeepBut w w23 g none):=⟨(by rw [hw];exact zq16)⟩;have n6_:Aside0 (Below w0.heap.size w0 w23):=⟨(by rw [hw];exact zq19)⟩;clear hw HO_4 HO193 HO196 BK200 HI0 HK HB;have HO_4:=n0_;have HO193:=n1_;have HO196:=n2_;have BK200:=n3_;have HI0:=n4_;have HK:=n5_;have HB:=n6_;clear n0_ n1_ n2_ n3_ n4_ n5_ n6_;have hcz24_0:w23.cell? ⟨gb200,0,none⟩=some (.int .i64 t188):=(j1b BK200.out 0).trans rfl;have hcz24_1:w23.cell? ⟨gb200,1,none⟩=some (.int .i64 t189):=(j1b BK200.out 1).trans rfl;have hcz24_2:w23.cell? ⟨gb200,2,none⟩=some (.int .i64 t190):=(j1b BK200.out 2).trans rfl;have hcz24_3:w23.cell? ⟨gb200,3,none⟩=some (.slice Ao21 t191.length co21):=(j1b BK200.out 3).trans rfl;have hcz24_4:w23.cell? ⟨gb200,4,none⟩=some (.slice Ao22 t194.length co22):=(j1b BK200.out 4).trans rfl;have hfz24_0:=j1a BK200.out 0;have hfz24_1:=j1a BK200.out 1;have hfz24_2:=j1a BK200.out 2;have hfz24_3:=j1a BK200.out 3;have hfz24_4:=j1a BK200.out 4)|((with_reducible refine j1z (b := .append) (xs:=#[.tmp 25, .tmp 27]) rfl ?_);at_builtin;refine Kd.R_append k34 w.heap.size rfl (.tmp 25) (.tmp 27) 32 34 (.agg #[(.int .i64 0),(.int .i64 0),(.int .i64 0),(.slice none 0 0),(.slice none 0 0)]) 72 rfl Try.underlying32 info34 rfl zq50 (by omega) u4 x4_1 (⟨t188,t189,t190,t191,t194⟩:S34) [.int .i64 t188, .int .i64 t189, .int .i64 t190, .slice Ao21 t191.length co21, .slice Ao22 t194.length co22] (fun k_=>k_≠gb200) (fun k_=>((fun k_=>k_≠gb200)) k_∧some k_≠(u4:Value).ownBlock) rfl rfl ?aP (fun _ hk=>hk) ?aF ?aO (Below.refl _ _) ?aS ?aL ?_;(case aP=>exact k34_mkM _ _ _ (⟨t188,t189,t190,t191,t194⟩:S34) (Kd.R_mono (Kd.R_types (Kd.R_apart' (HO193.out) (Kd.R_typed HO_4.out) zq50) BK200.out zq50) (fun k_ hk=>⟨hk.2,hk.1.2⟩)) (Kd.R_mono (HO196.out) (fun k_ hk=>⟨hk.2.2,hk.1⟩)));(case aF=>exact (fun k_ hk=>Kd.freshB (g:=gb200) (o := .cells #[.int .i64 t188, .int .i64 t189, .int .i64 t190, .slice Ao21 t191.length co21, .slice Ao22 t194.length co22] 34 (0,0)) zq29 k_ hk));(case aO=>exact zq76);(case aS=>exact (j2m (w:=w) (g:=g) (row:=none) zq16));(case aL=>exact zq81);intro v202 w25 ho hb hg hat;rw [← Ny201.out] at ho;have n0_:=mk0 (IsS44.grown zq5 hg (IsS44.own_ne HI0.out HO_4.out zq50));have n1_:=mk0 (blk_grown (g:=gb200) (o := .cells #[.int .i64 t188, .int .i64 t189, .int .i64 t190, .slice Ao21 t191.length co21, .slice Ao22 t194.length co22] 34 (0,0)) zq29 hg (Kd.R_away HO_4.out (fun _ hk=>hk.2.2)));have n2_:=mk0 (j3d zq19 HL.out hb);have n3_:=mk0 (KeepBut.trans zq16 (KeepBut.of_grown hg g) (Kd.R_base2 HO_4.out));have n4_:=mk0 (ho);clear HI0 BK200 HB HK HO_4 HO193 HO196;have HI0:=n0_;have BK200:=n1_;have HB:=n2_;have HK:=n3_;have HO203:=n4_;clear n0_ n1_ n2_ n3_ n4_;clear ho hb hg hat)|((with_reducible refine j1r (f:=24) rfl ?_);refine j2f (some 30) rfl rfl Try.func24 zq23 rfl #[.pointer (some ⟨g,0,none⟩)] rfl zq2 ?_;(with_reducible refine (j1c.calls k1 g t198 t199 t204 t205 w0 _ ?side1 ?side2 A14.out).mono ?_);(case side1=>exact zq5);(case side2=>exact zq19);rintro e w26 ⟨rfl,hi,hb,hk⟩;refine ⟨_,rfl,?_⟩;have n0_:=mk0 (KeepBut.blk hk (g':=gb200) (o := .cells #[.int .i64 t188, .int .i64 t189, .int .i64 t190, .slice Ao21 t191.length co21, .slice Ao22 t194.length co22] 34 (0,0)) zq29 NB200_0.out (by simp));have n1_:=mk0 (Kd.R_mono (Kd.R_keep (IsS44.apart (show IsS44 w0 _ g t198 t199 from zq5) zq46 zq50) hk (fun _ h=>h.2)) (fun _ h=>h.1));have n2_:=mk0 (KeepBut.trans zq16 hk (.inl rfl));have n3_:=mk0 (hb);have n4_:=mk0 (hi);clear BK200 HO203 HK HB HI0;have BK200:=n0_;have HO203:=n1_;have HK:=n2_;have HB:=n3_;have HI0:=n4_;clear n0_ n1_ n2_ n3_ n4_;(try clear hb);(try clear hb2);(try clear hk);(try clear hi))|((with_reducible refine j1r (f:=36) rfl ?_);refine j2f (some 32) rfl rfl Try.func36 zq23 rfl #[.pointer (some ⟨g,0,none⟩), .int .u8 93] rfl zq2 ?_;(with_reducible refine (j1d.calls g t204 t205 93 true t207 t208 w0 _ ?side1 ?side2 A15.out).mono ?_);(case side1=>exact zq5);(case side2=>exact zq19);rintro e w27 ⟨rfl,hi,hb,hk⟩;refine ⟨_,rfl,?_⟩;have n0_:=mk0 (KeepBut.blk hk (g':=gb200) (o := .cells #[.int .i64 t188, .int .i64 t189, .int .i64 t190, .slice Ao21 t191.length co21, .slice Ao22 t194.length co22] 34 (0,0)) zq29 NB200_0.out (by simp));have n1_:=mk0 (Kd.R_mono (Kd.R_keep (IsS44.apart (show IsS44 w0 _ g t204 t205 from zq5) zq46 zq50) hk (fun _ h=>h.2)) (fun _ h=>h.1));have n2_:=mk0 (KeepBut.trans zq16 hk (.inl rfl));have n3_:=mk0 (hb);have n4_:=mk0 (hi);clear BK200 HO203 HK HB HI0;have BK200:=n0_;have HO203:=n1_;have HK:=n2_;have HB:=n3_;have HI0:=n4_;clear n0_ n1_ n2_ n3_ n4_;(try clear hb);(try clear hb2);(try clear hk);(try clear hi)))
    go_ret2;exact ⟨_,by first|rfl|(simp [j2o,j2n]<;>rfl)|(simp [*, j2o,j2n]<;>rfl),by (with_reducible repeat (first|apply Kd.R_alloc|apply Kd.R_drewN|apply Kd.R_drew));exact Kd.R_mono HO203.out (fun _ hk=>trivial),by repeat (first|(with_reducible first|exact HI0.out|apply IsS44.alloc|apply IsS44.drewN|apply IsS44.drew|apply IsS44.set_0|apply IsS44.set_1|refine IsS44.far ?_ NB0_200.out _)|exact HI0.out),by repeat (first|(with_reducible first|exact HB.out|apply j1s|apply j1q|apply j1t|refine j1u ?_ (IsS44.ge HI0.out)|refine j1u ?_ GE200.out)|exact HB.out),by repeat (first|(with_reducible first|exact HK.out|apply KeepBut.set_|apply j2c|apply j2h|apply j2d|refine j3a ?_ GW200.out _)|exact HK.out)⟩
   replace c16:=Bool.eq_false_iff.mpr c16;subst c16;have H1:((j1d.f t207 t208 44).bind fun bt209=>(if bt209.1=true then ((j1c.f k1 bt209.2.1 bt209.2.2).bind fun bt212=>(j1k.l0 k1 y201 bt212.1 bt212.2)) else (some (([]:List (S34)),false,bt209.2.1,bt209.2.2))))=some (r1,r2,r3,r4):=by rw [if_neg (show ¬ (false=true) by decide)] at H;exact H
   clear H;have H:=H1;clear H1;replace H:=Option.bind_eq_some_iff.mp H;obtain ⟨⟨t209,t210,t211⟩,A280,H⟩:=H;replace H:(if t209=true then ((j1c.f k1 t210 t211).bind fun bt212=>(j1k.l0 k1 y201 bt212.1 bt212.2)) else (some (([]:List (S34)),false,t210,t211)))=some (r1,r2,r3,r4):=H;have A28:=mk0 A280;clear A280;by_cases c29:t209=true
   rotate_left
   ·replace c29:=Bool.eq_false_iff.mpr c29;subst c29;have H1:(some (([]:List (S34)),false,t210,t211))=some (r1,r2,r3,r4):=by rw [if_neg (show ¬ (false=true) by decide)] at H;exact H
    clear H;have H:=H1;clear H1;simp only [Option.some.injEq,Prod.mk.injEq] at H;obtain ⟨rfl,rfl,rfl,rfl⟩:=H;go_wp2_with (first|((with_reducible refine j1r (f:=25) rfl ?_);refine j2f (some 20) rfl rfl Try.func25 zq23 rfl #[.pointer (some ⟨g,0,none⟩)] rfl zq2 ?_;(with_reducible refine (ih_25 k1 (by have:=HK1.out;omega) g x1000_1 x1001_1 t188 t189 t190 t191 t194 true t198 t199 w0 _ ?side1 ?side2 A11.out).mono ?_);(case side1=>exact zq0);(case side2=>exact zq3);rintro e w44 ⟨v192,v195,rfl,ho0,ho1,hi,hb,hk⟩;refine ⟨_,rfl,?_⟩;have n0_:=mk0 (Kd.R_mono (Kd.R_told (Kd.R_told (Kd.R_oldK (IsS44.apart (show IsS44 w0 _ g x1000_1 x1001_1 from zq0) zq44 zq50) hk) (Kd.R_base ho0)) (Kd.R_base ho1)) (fun _ h_=>h_.1));have n1_:=mk0 (Kd.R_lower ho0 (j2m (w:=w) (g:=g) (row:=none) zq1));have n2_:=mk0 (Kd.R_lower (Kd.R_new' ho1 (Kd.R_lt zq44)) (j2m (w:=w) (g:=g) (row:=none) zq1));have n3_:=mk0 (KeepBut.trans zq1 hk (.inl rfl));have n4_:=mk0 (hb);have n5_:=mk0 (hi);clear HO_4 HK HB HI0;have HO_4:=n0_;have HO193:=n1_;have HO196:=n2_;have HK:=n3_;have HB:=n4_;have HI0:=n5_;clear n0_ n1_ n2_ n3_ n4_ n5_;(try clear hb);(try clear hb2);(try clear hk);(try clear hi);(try clear ho0);(try clear ho1))|((with_reducible refine j2v (N:=5) rfl ?_);refine j2s ?hg (N:=5) ?hd (cs:=#[.int .i64 0, .int .i64 0, .int .i64 0, .slice none 0 0, .slice none 0 0]) (t:=34) ?hr ?_;(case hd=>rfl);(case hg=>rfl);(case hr=>exact zq37);intro gb200 hg w45 hbox hb;have n0_:=mk0 (Kd.R_below (Kd.R_elderB zq44 gb200 (Nat.le_of_eq hg.symm)) hb);have n1_:=mk0 (Kd.R_below zq73 hb);have n2_:=mk0 (Kd.R_below (Kd.R_elderB zq74 gb200 (Nat.le_of_eq hg.symm)) hb);have n3_:=mk0 (IsS44.below zq0 hb);have n4_:=mk0 (KeepBut.trans zq1 (KeepBut.of_below hb g none) (.inl rfl));have n5_:=mk0 (j2a zq3 hb);have n6_:=mk0 (hbox);have n7_:=mk0 ((zq30:w.heap.size≤gb200));have n8_:=mk0 ((Nat.le_trans HW0.out (zq30:w.heap.size≤gb200):w0.heap.size≤gb200));have n9_:=mk0 ((by rw [hg];exact Nat.ne_of_lt (IsS44.lt (show IsS44 w0 _ g t198 t199 from zq0)):g≠gb200));have n10_:=mk0 ((by rw [hg];exact Nat.ne_of_gt (IsS44.lt (show IsS44 w0 _ g t198 t199 from zq0)):gb200≠g));clear HO_4 HO193 HO196 HI0 HK HB;have HO_4:=n0_;have HO193:=n1_;have HO196:=n2_;have HI0:=n3_;have HK:=n4_;have HB:=n5_;have BK200:=n6_;have GW200:=n7_;have GE200:=n8_;have NB0_200:=n9_;have NB200_0:=n10_;clear n0_ n1_ n2_ n3_ n4_ n5_ n6_ n7_ n8_ n9_ n10_;clear hb hbox hg;have hnb46:=NB200_0.out;have hnc46:=NB0_200.out;have hcz47_0:w45.cell? ⟨gb200,0,none⟩=some (.int .i64 0):=(j1b BK200.out 0).trans rfl;have hcz47_1:w45.cell? ⟨gb200,1,none⟩=some (.int .i64 0):=(j1b BK200.out 1).trans rfl;have hcz47_2:w45.cell? ⟨gb200,2,none⟩=some (.int .i64 0):=(j1b BK200.out 2).trans rfl;have hcz47_3:w45.cell? ⟨gb200,3,none⟩=some (.slice none 0 0):=(j1b BK200.out 3).trans rfl;have hcz47_4:w45.cell? ⟨gb200,4,none⟩=some (.slice none 0 0):=(j1b BK200.out 4).trans rfl;have hfz47_0:=j1a BK200.out 0;have hfz47_1:=j1a BK200.out 1;have hfz47_2:=j1a BK200.out 2;have hfz47_3:=j1a BK200.out 3;have hfz47_4:=j1a BK200.out 4;obtain ⟨Ao48,co48,eo48⟩:=Kd.R_slice HO193.out;subst eo48;obtain ⟨Ao49,co49,eo49⟩:=Kd.R_slice HO196.out;subst eo49)|((with_reducible refine j3j (t:=34) (p:=5) rfl ?_);refine store_event (t:=34) (p:=5) (v:=?vo_w50) (w1:=(((((w45.setCell ⟨gb200,0,none⟩ (.int .i64 t188)).setCell ⟨gb200,1,none⟩ (.int .i64 t189)).setCell ⟨gb200,2,none⟩ (.int .i64 t190)).setCell ⟨gb200,3,none⟩ (.slice Ao48 t191.length co48)).setCell ⟨gb200,4,none⟩ (.slice Ao49 t194.length co49))) ?hg ?ho ?hn ?hr ?_;(case ho=>rfl);(case hg=>rfl);(case hn=>rfl);(case hr=>exact zq37);intro w50 hw;have n0_:Aside0 (Kd.R k34 34 w50 w.heap.size (fun k_=>some k_≠(.slice Ao48 t191.length co48:Value).ownBlock∧some k_≠(.slice Ao49 t194.length co49:Value).ownBlock∧k_≠gb200) u4 x4_1):=⟨(by rw [hw];exact (by (with_reducible repeat (first|apply Kd.R_alloc|apply Kd.R_drewN|apply Kd.R_drew));exact Kd.R_mono (Kd.R_far (p:=⟨gb200,4,none⟩) (Kd.R_far (p:=⟨gb200,3,none⟩) (Kd.R_far (p:=⟨gb200,2,none⟩) (Kd.R_far (p:=⟨gb200,1,none⟩) (Kd.R_far (p:=⟨gb200,0,none⟩) (Kd.R_mono HO_4.out (fun k_ hk=>(⟨hk,hk.2⟩:_∧k_≠gb200))) (fun _ hk=>hk.2) (.int .i64 t188)) (fun _ hk=>hk.2) (.int .i64 t189)) (fun _ hk=>hk.2) (.int .i64 t190)) (fun _ hk=>hk.2) (.slice Ao48 t191.length co48)) (fun _ hk=>hk.2) (.slice Ao49 t194.length co49)) (fun _ hk=>⟨hk.1.1.1.2,⟨hk.1.1.2,hk.1.2⟩⟩)))⟩;have n1_:Aside0 (Kd.R k60 60 w50 w.heap.size (fun _=>True) (.slice Ao48 t191.length co48) t191):=⟨(by rw [hw];exact (by (with_reducible repeat (first|apply Kd.R_alloc|apply Kd.R_drewN|apply Kd.R_drew));exact Kd.R_mono (Kd.R_far (p:=⟨gb200,4,none⟩) (Kd.R_far (p:=⟨gb200,3,none⟩) (Kd.R_far (p:=⟨gb200,2,none⟩) (Kd.R_far (p:=⟨gb200,1,none⟩) (Kd.R_far (p:=⟨gb200,0,none⟩) (Kd.R_types HO193.out BK200.out zq50) (fun _ hk=>hk.2) (.int .i64 t188)) (fun _ hk=>hk.2) (.int .i64 t189)) (fun _ hk=>hk.2) (.int .i64 t190)) (fun _ hk=>hk.2) (.slice Ao48 t191.length co48)) (fun _ hk=>hk.2) (.slice Ao49 t194.length co49)) (fun _ hk=>trivial)))⟩;have n2_:Aside0 (Kd.R k34 34 w50 w.heap.size (fun k_=>some k_≠(u4:Value).ownBlock∧some k_≠(.slice Ao48 t191.length co48:Value).ownBlock∧k_≠gb200) (.slice Ao49 t194.length co49) t194):=⟨(by rw [hw];exact (by (with_reducible repeat (first|apply Kd.R_alloc|apply Kd.R_drewN|apply Kd.R_drew));exact Kd.R_mono (Kd.R_far (p:=⟨gb200,4,none⟩) (Kd.R_far (p:=⟨gb200,3,none⟩) (Kd.R_far (p:=⟨gb200,2,none⟩) (Kd.R_far (p:=⟨gb200,1,none⟩) (Kd.R_far (p:=⟨gb200,0,none⟩) (Kd.R_mono HO196.out (fun k_ hk=>(⟨hk,hk.2⟩:_∧k_≠gb200))) (fun _ hk=>hk.2) (.int .i64 t188)) (fun _ hk=>hk.2) (.int .i64 t189)) (fun _ hk=>hk.2) (.int .i64 t190)) (fun _ hk=>hk.2) (.slice Ao48 t191.length co48)) (fun _ hk=>hk.2) (.slice Ao49 t194.length co49)) (fun _ hk=>⟨hk.1.1.2,⟨hk.1.1.1,hk.1.2⟩⟩)))⟩;have n3_:Aside0 (w50.heap[gb200]? = some (.cells #[.int .i64 t188, .int .i64 t189, .int .i64 t190, .slice Ao48 t191.length co48, .slice Ao49 t194.length co49] 34 (0,0))):=⟨(by rw [hw];exact (by (with_reducible repeat (first|refine j1i ?_ _|refine j1j ?_|refine j1h ?_ _));refine j1w (cs:=#[.int .i64 t188, .int .i64 t189, .int .i64 t190, .slice Ao48 t191.length co48, .slice none 0 0]) ?_ 4 _ rfl;(with_reducible repeat (first|refine j1i ?_ _|refine j1j ?_|refine j1h ?_ _));refine j1w (cs:=#[.int .i64 t188, .int .i64 t189, .int .i64 t190, .slice none 0 0, .slice none 0 0]) ?_ 3 _ rfl;(with_reducible repeat (first|refine j1i ?_ _|refine j1j ?_|refine j1h ?_ _));refine j1w (cs:=#[.int .i64 t188, .int .i64 t189, .int .i64 0, .slice none 0 0, .slice none 0 0]) ?_ 2 _ rfl;(with_reducible repeat (first|refine j1i ?_ _|refine j1j ?_|refine j1h ?_ _));refine j1w (cs:=#[.int .i64 t188, .int .i64 0, .int .i64 0, .slice none 0 0, .slice none 0 0]) ?_ 1 _ rfl;(with_reducible repeat (first|refine j1i ?_ _|refine j1j ?_|refine j1h ?_ _));refine j1w (cs:=#[.int .i64 0, .int .i64 0, .int .i64 0, .slice none 0 0, .slice none 0 0]) ?_ 0 _ rfl;(with_reducible repeat (first|refine j1i ?_ _|refine j1j ?_|refine j1h ?_ _));exact BK200.out))⟩;have n4_:Aside0 (IsS44 w0 w50 g t198 t199):=⟨(by rw [hw];exact zq5)⟩;have n5_:Aside0 (KeepBut w w50 g none):=⟨(by rw [hw];exact zq16)⟩;have n6_:Aside0 (Below w0.heap.size w0 w50):=⟨(by rw [hw];exact zq19)⟩;clear hw HO_4 HO193 HO196 BK200 HI0 HK HB;have HO_4:=n0_;have HO193:=n1_;have HO196:=n2_;have BK200:=n3_;have HI0:=n4_;have HK:=n5_;have HB:=n6_;clear n0_ n1_ n2_ n3_ n4_ n5_ n6_;have hcz51_0:w50.cell? ⟨gb200,0,none⟩=some (.int .i64 t188):=(j1b BK200.out 0).trans rfl;have hcz51_1:w50.cell? ⟨gb200,1,none⟩=some (.int .i64 t189):=(j1b BK200.out 1).trans rfl;have hcz51_2:w50.cell? ⟨gb200,2,none⟩=some (.int .i64 t190):=(j1b BK200.out 2).trans rfl;have hcz51_3:w50.cell? ⟨gb200,3,none⟩=some (.slice Ao48 t191.length co48):=(j1b BK200.out 3).trans rfl;have hcz51_4:w50.cell? ⟨gb200,4,none⟩=some (.slice Ao49 t194.length co49):=(j1b BK200.out 4).trans rfl;have hfz51_0:=j1a BK200.out 0;have hfz51_1:=j1a BK200.out 1;have hfz51_2:=j1a BK200.out 2;have hfz51_3:=j1a BK200.out 3;have hfz51_4:=j1a BK200.out 4)|((with_reducible refine j1z (b := .append) (xs:=#[.tmp 25, .tmp 27]) rfl ?_);at_builtin;refine Kd.R_append k34 w.heap.size rfl (.tmp 25) (.tmp 27) 32 34 (.agg #[(.int .i64 0),(.int .i64 0),(.int .i64 0),(.slice none 0 0),(.slice none 0 0)]) 72 rfl Try.underlying32 info34 rfl zq50 (by omega) u4 x4_1 (⟨t188,t189,t190,t191,t194⟩:S34) [.int .i64 t188, .int .i64 t189, .int .i64 t190, .slice Ao48 t191.length co48, .slice Ao49 t194.length co49] (fun k_=>k_≠gb200) (fun k_=>((fun k_=>k_≠gb200)) k_∧some k_≠(u4:Value).ownBlock) rfl rfl ?aP (fun _ hk=>hk) ?aF ?aO (Below.refl _ _) ?aS ?aL ?_;(case aP=>exact k34_mkM _ _ _ (⟨t188,t189,t190,t191,t194⟩:S34) (Kd.R_mono (Kd.R_types (Kd.R_apart' (HO193.out) (Kd.R_typed HO_4.out) zq50) BK200.out zq50) (fun k_ hk=>⟨hk.2,hk.1.2⟩)) (Kd.R_mono (HO196.out) (fun k_ hk=>⟨hk.2.2,hk.1⟩)));(case aF=>exact (fun k_ hk=>Kd.freshB (g:=gb200) (o := .cells #[.int .i64 t188, .int .i64 t189, .int .i64 t190, .slice Ao48 t191.length co48, .slice Ao49 t194.length co49] 34 (0,0)) zq29 k_ hk));(case aO=>exact zq76);(case aS=>exact (j2m (w:=w) (g:=g) (row:=none) zq16));(case aL=>exact zq81);intro v202 w52 ho hb hg hat;rw [← Ny201.out] at ho;have n0_:=mk0 (IsS44.grown zq5 hg (IsS44.own_ne HI0.out HO_4.out zq50));have n1_:=mk0 (blk_grown (g:=gb200) (o := .cells #[.int .i64 t188, .int .i64 t189, .int .i64 t190, .slice Ao48 t191.length co48, .slice Ao49 t194.length co49] 34 (0,0)) zq29 hg (Kd.R_away HO_4.out (fun _ hk=>hk.2.2)));have n2_:=mk0 (j3d zq19 HL.out hb);have n3_:=mk0 (KeepBut.trans zq16 (KeepBut.of_grown hg g) (Kd.R_base2 HO_4.out));have n4_:=mk0 (ho);clear HI0 BK200 HB HK HO_4 HO193 HO196;have HI0:=n0_;have BK200:=n1_;have HB:=n2_;have HK:=n3_;have HO203:=n4_;clear n0_ n1_ n2_ n3_ n4_;clear ho hb hg hat)|((with_reducible refine j1r (f:=24) rfl ?_);refine j2f (some 30) rfl rfl Try.func24 zq23 rfl #[.pointer (some ⟨g,0,none⟩)] rfl zq2 ?_;(with_reducible refine (j1c.calls k1 g t198 t199 t204 t205 w0 _ ?side1 ?side2 A14.out).mono ?_);(case side1=>exact zq5);(case side2=>exact zq19);rintro e w53 ⟨rfl,hi,hb,hk⟩;refine ⟨_,rfl,?_⟩;have n0_:=mk0 (KeepBut.blk hk (g':=gb200) (o := .cells #[.int .i64 t188, .int .i64 t189, .int .i64 t190, .slice Ao48 t191.length co48, .slice Ao49 t194.length co49] 34 (0,0)) zq29 NB200_0.out (by simp));have n1_:=mk0 (Kd.R_mono (Kd.R_keep (IsS44.apart (show IsS44 w0 _ g t198 t199 from zq5) zq46 zq50) hk (fun _ h=>h.2)) (fun _ h=>h.1));have n2_:=mk0 (KeepBut.trans zq16 hk (.inl rfl));have n3_:=mk0 (hb);have n4_:=mk0 (hi);clear BK200 HO203 HK HB HI0;have BK200:=n0_;have HO203:=n1_;have HK:=n2_;have HB:=n3_;have HI0:=n4_;clear n0_ n1_ n2_ n3_ n4_;(try clear hb);(try clear hb2);(try clear hk);(try clear hi))|((with_reducible refine j1r (f:=36) rfl ?_);refine j2f (some 32) rfl rfl Try.func36 zq23 rfl #[.pointer (some ⟨g,0,none⟩), .int .u8 93] rfl zq2 ?_;(with_reducible refine (j1d.calls g t204 t205 93 false t207 t208 w0 _ ?side1 ?side2 A15.out).mono ?_);(case side1=>exact zq5);(case side2=>exact zq19);rintro e w54 ⟨rfl,hi,hb,hk⟩;refine ⟨_,rfl,?_⟩;have n0_:=mk0 (KeepBut.blk hk (g':=gb200) (o := .cells #[.int .i64 t188, .int .i64 t189, .int .i64 t190, .slice Ao48 t191.length co48, .slice Ao49 t194.length co49] 34 (0,0)) zq29 NB200_0.out (by simp));have n1_:=mk0 (Kd.R_mono (Kd.R_keep (IsS44.apart (show IsS44 w0 _ g t204 t205 from zq5) zq46 zq50) hk (fun _ h=>h.2)) (fun _ h=>h.1));have n2_:=mk0 (KeepBut.trans zq16 hk (.inl rfl));have n3_:=mk0 (hb);have n4_:=mk0 (hi);clear BK200 HO203 HK HB HI0;have BK200:=n0_;have HO203:=n1_;have HK:=n2_;have HB:=n3_;have HI0:=n4_;clear n0_ n1_ n2_ n3_ n4_;(try clear hb);(try clear hb2);(try clear hk);(try clear hi))|((with_reducible refine j1r (f:=36) rfl ?_);refine j2f (some 35) rfl rfl Try.func36 zq23 rfl #[.pointer (some ⟨g,0,none⟩), .int .u8 44] rfl zq2 ?_;(with_reducible refine (j1d.calls g t207 t208 44 false t210 t211 w0 _ ?side1 ?side2 A28.out).mono ?_);(case side1=>exact zq5);(case side2=>exact zq19);rintro e w55 ⟨rfl,hi,hb,hk⟩;refine ⟨_,rfl,?_⟩;have n0_:=mk0 (KeepBut.blk hk (g':=gb200) (o := .cells #[.int .i64 t188, .int .i64 t189, .int .i64 t190, .slice Ao48 t191.length co48, .slice Ao49 t194.length co49] 34 (0,0)) zq29 NB200_0.out (by simp));have n1_:=mk0 (Kd.R_mono (Kd.R_keep (IsS44.apart (show IsS44 w0 _ g t207 t208 from zq5) zq46 zq50) hk (fun _ h=>h.2)) (fun _ h=>h.1));have n2_:=mk0 (KeepBut.trans zq16 hk (.inl rfl));have n3_:=mk0 (hb);have n4_:=mk0 (hi);clear BK200 HO203 HK HB HI0;have BK200:=n0_;have HO203:=n1_;have HK:=n2_;have HB:=n3_;have HI0:=n4_;clear n0_ n1_ n2_ n3_ n4_;(try clear hb);(try clear hb2);(try clear hk);(try clear hi)))
    go_ret2;exact zl6
   subst c29;have H1:((j1c.f k1 t210 t211).bind fun bt212=>(j1k.l0 k1 y201 bt212.1 bt212.2))=some (r1,r2,r3,r4):=by rw [if_pos rfl] at H;exact H
   clear H;have H:=H1;clear H1;replace H:=Option.bind_eq_some_iff.mp H;obtain ⟨⟨t212,t213⟩,A300,H⟩:=H;replace H:(j1k.l0 k1 y201 t212 t213)=some (r1,r2,r3,r4):=H;have A30:=mk0 A300;clear A300;have H':=mk0 H;clear H;go_wp2_with (first|((with_reducible refine j1r (f:=25) rfl ?_);refine j2f (some 20) rfl rfl Try.func25 zq23 rfl #[.pointer (some ⟨g,0,none⟩)] rfl zq2 ?_;(with_reducible refine (ih_25 k1 (by have:=HK1.out;omega) g x1000_1 x1001_1 t188 t189 t190 t191 t194 true t198 t199 w0 _ ?side1 ?side2 A11.out).mono ?_);(case side1=>exact zq0);(case side2=>exact zq3);rintro e w31 ⟨v192,v195,rfl,ho0,ho1,hi,hb,hk⟩;refine ⟨_,rfl,?_⟩;have n0_:=mk0 (Kd.R_mono (Kd.R_told (Kd.R_told (Kd.R_oldK (IsS44.apart (show IsS44 w0 _ g x1000_1 x1001_1 from zq0) zq44 zq50) hk) (Kd.R_base ho0)) (Kd.R_base ho1)) (fun _ h_=>h_.1));have n1_:=mk0 (Kd.R_lower ho0 (j2m (w:=w) (g:=g) (row:=none) zq1));have n2_:=mk0 (Kd.R_lower (Kd.R_new' ho1 (Kd.R_lt zq44)) (j2m (w:=w) (g:=g) (row:=none) zq1));have n3_:=mk0 (KeepBut.trans zq1 hk (.inl rfl));have n4_:=mk0 (hb);have n5_:=mk0 (hi);clear HO_4 HK HB HI0;have HO_4:=n0_;have HO193:=n1_;have HO196:=n2_;have HK:=n3_;have HB:=n4_;have HI0:=n5_;clear n0_ n1_ n2_ n3_ n4_ n5_;(try clear hb);(try clear hb2);(try clear hk);(try clear hi);(try clear ho0);(try clear ho1))|((with_reducible refine j2v (N:=5) rfl ?_);refine j2s ?hg (N:=5) ?hd (cs:=#[.int .i64 0, .int .i64 0, .int .i64 0, .slice none 0 0, .slice none 0 0]) (t:=34) ?hr ?_;(case hd=>rfl);(case hg=>rfl);(case hr=>exact zq37);intro gb200 hg w32 hbox hb;have n0_:=mk0 (Kd.R_below (Kd.R_elderB zq44 gb200 (Nat.le_of_eq hg.symm)) hb);have n1_:=mk0 (Kd.R_below zq73 hb);have n2_:=mk0 (Kd.R_below (Kd.R_elderB zq74 gb200 (Nat.le_of_eq hg.symm)) hb);have n3_:=mk0 (IsS44.below zq0 hb);have n4_:=mk0 (KeepBut.trans zq1 (KeepBut.of_below hb g none) (.inl rfl));have n5_:=mk0 (j2a zq3 hb);have n6_:=mk0 (hbox);have n7_:=mk0 ((zq30:w.heap.size≤gb200));have n8_:=mk0 ((Nat.le_trans HW0.out (zq30:w.heap.size≤gb200):w0.heap.size≤gb200));have n9_:=mk0 ((by rw [hg];exact Nat.ne_of_lt (IsS44.lt (show IsS44 w0 _ g t198 t199 from zq0)):g≠gb200));have n10_:=mk0 ((by rw [hg];exact Nat.ne_of_gt (IsS44.lt (show IsS44 w0 _ g t198 t199 from zq0)):gb200≠g));clear HO_4 HO193 HO196 HI0 HK HB;have HO_4:=n0_;have HO193:=n1_;have HO196:=n2_;have HI0:=n3_;have HK:=n4_;have HB:=n5_;have BK200:=n6_;have GW200:=n7_;have GE200:=n8_;have NB0_200:=n9_;have NB200_0:=n10_;clear n0_ n1_ n2_ n3_ n4_ n5_ n6_ n7_ n8_ n9_ n10_;clear hb hbox hg;have hnb33:=NB200_0.out;have hnc33:=NB0_200.out;have hcz34_0:w32.cell? ⟨gb200,0,none⟩=some (.int .i64 0):=(j1b BK200.out 0).trans rfl;have hcz34_1:w32.cell? ⟨gb200,1,none⟩=some (.int .i64 0):=(j1b BK200.out 1).trans rfl;have hcz34_2:w32.cell? ⟨gb200,2,none⟩=some (.int .i64 0):=(j1b BK200.out 2).trans rfl;have hcz34_3:w32.cell? ⟨gb200,3,none⟩=some (.slice none 0 0):=(j1b BK200.out 3).trans rfl;have hcz34_4:w32.cell? ⟨gb200,4,none⟩=some (.slice none 0 0):=(j1b BK200.out 4).trans rfl;have hfz34_0:=j1a BK200.out 0;have hfz34_1:=j1a BK200.out 1;have hfz34_2:=j1a BK200.out 2;have hfz34_3:=j1a BK200.out 3;have hfz34_4:=j1a BK200.out 4;obtain ⟨Ao35,co35,eo35⟩:=Kd.R_slice HO193.out;subst eo35;obtain ⟨Ao36,co36,eo36⟩:=Kd.R_slice HO196.out;subst eo36)|((with_reducible refine j3j (t:=34) (p:=5) rfl ?_);refine store_event (t:=34) (p:=5) (v:=?vo_w37) (w1:=(((((w32.setCell ⟨gb200,0,none⟩ (.int .i64 t188)).setCell ⟨gb200,1,none⟩ (.int .i64 t189)).setCell ⟨gb200,2,none⟩ (.int .i64 t190)).setCell ⟨gb200,3,none⟩ (.slice Ao35 t191.length co35)).setCell ⟨gb200,4,none⟩ (.slice Ao36 t194.length co36))) ?hg ?ho ?hn ?hr ?_;(case ho=>rfl);(case hg=>rfl);(case hn=>rfl);(case hr=>exact zq37);intro w37 hw;have n0_:Aside0 (Kd.R k34 34 w37 w.heap.size (fun k_=>some k_≠(.slice Ao35 t191.length co35:Value).ownBlock∧some k_≠(.slice Ao36 t194.length co36:Value).ownBlock∧k_≠gb200) u4 x4_1):=⟨(by rw [hw];exact (by (with_reducible repeat (first|apply Kd.R_alloc|apply Kd.R_drewN|apply Kd.R_drew));exact Kd.R_mono (Kd.R_far (p:=⟨gb200,4,none⟩) (Kd.R_far (p:=⟨gb200,3,none⟩) (Kd.R_far (p:=⟨gb200,2,none⟩) (Kd.R_far (p:=⟨gb200,1,none⟩) (Kd.R_far (p:=⟨gb200,0,none⟩) (Kd.R_mono HO_4.out (fun k_ hk=>(⟨hk,hk.2⟩:_∧k_≠gb200))) (fun _ hk=>hk.2) (.int .i64 t188)) (fun _ hk=>hk.2) (.int .i64 t189)) (fun _ hk=>hk.2) (.int .i64 t190)) (fun _ hk=>hk.2) (.slice Ao35 t191.length co35)) (fun _ hk=>hk.2) (.slice Ao36 t194.length co36)) (fun _ hk=>⟨hk.1.1.1.2,⟨hk.1.1.2,hk.1.2⟩⟩)))⟩;have n1_:Aside0 (Kd.R k60 60 w37 w.heap.size (fun _=>True) (.slice Ao35 t191.length co35) t191):=⟨(by rw [hw];exact (by (with_reducible repeat (first|apply Kd.R_alloc|apply Kd.R_drewN|apply Kd.R_drew));exact Kd.R_mono (Kd.R_far (p:=⟨gb200,4,none⟩) (Kd.R_far (p:=⟨gb200,3,none⟩) (Kd.R_far (p:=⟨gb200,2,none⟩) (Kd.R_far (p:=⟨gb200,1,none⟩) (Kd.R_far (p:=⟨gb200,0,none⟩) (Kd.R_types HO193.out BK200.out zq50) (fun _ hk=>hk.2) (.int .i64 t188)) (fun _ hk=>hk.2) (.int .i64 t189)) (fun _ hk=>hk.2) (.int .i64 t190)) (fun _ hk=>hk.2) (.slice Ao35 t191.length co35)) (fun _ hk=>hk.2) (.slice Ao36 t194.length co36)) (fun _ hk=>trivial)))⟩;have n2_:Aside0 (Kd.R k34 34 w37 w.heap.size (fun k_=>some k_≠(u4:Value).ownBlock∧some k_≠(.slice Ao35 t191.length co35:Value).ownBlock∧k_≠gb200) (.slice Ao36 t194.length co36) t194):=⟨(by rw [hw];exact (by (with_reducible repeat (first|apply Kd.R_alloc|apply Kd.R_drewN|apply Kd.R_drew));exact Kd.R_mono (Kd.R_far (p:=⟨gb200,4,none⟩) (Kd.R_far (p:=⟨gb200,3,none⟩) (Kd.R_far (p:=⟨gb200,2,none⟩) (Kd.R_far (p:=⟨gb200,1,none⟩) (Kd.R_far (p:=⟨gb200,0,none⟩) (Kd.R_mono HO196.out (fun k_ hk=>(⟨hk,hk.2⟩:_∧k_≠gb200))) (fun _ hk=>hk.2) (.int .i64 t188)) (fun _ hk=>hk.2) (.int .i64 t189)) (fun _ hk=>hk.2) (.int .i64 t190)) (fun _ hk=>hk.2) (.slice Ao35 t191.length co35)) (fun _ hk=>hk.2) (.slice Ao36 t194.length co36)) (fun _ hk=>⟨hk.1.1.2,⟨hk.1.1.1,hk.1.2⟩⟩)))⟩;have n3_:Aside0 (w37.heap[gb200]? = some (.cells #[.int .i64 t188, .int .i64 t189, .int .i64 t190, .slice Ao35 t191.length co35, .slice Ao36 t194.length co36] 34 (0,0))):=⟨(by rw [hw];exact (by (with_reducible repeat (first|refine j1i ?_ _|refine j1j ?_|refine j1h ?_ _));refine j1w (cs:=#[.int .i64 t188, .int .i64 t189, .int .i64 t190, .slice Ao35 t191.length co35, .slice none 0 0]) ?_ 4 _ rfl;(with_reducible repeat (first|refine j1i ?_ _|refine j1j ?_|refine j1h ?_ _));refine j1w (cs:=#[.int .i64 t188, .int .i64 t189, .int .i64 t190, .slice none 0 0, .slice none 0 0]) ?_ 3 _ rfl;(with_reducible repeat (first|refine j1i ?_ _|refine j1j ?_|refine j1h ?_ _));refine j1w (cs:=#[.int .i64 t188, .int .i64 t189, .int .i64 0, .slice none 0 0, .slice none 0 0]) ?_ 2 _ rfl;(with_reducible repeat (first|refine j1i ?_ _|refine j1j ?_|refine j1h ?_ _));refine j1w (cs:=#[.int .i64 t188, .int .i64 0, .int .i64 0, .slice none 0 0, .slice none 0 0]) ?_ 1 _ rfl;(with_reducible repeat (first|refine j1i ?_ _|refine j1j ?_|refine j1h ?_ _));refine j1w (cs:=#[.int .i64 0, .int .i64 0, .int .i64 0, .slice none 0 0, .slice none 0 0]) ?_ 0 _ rfl;(with_reducible repeat (first|refine j1i ?_ _|refine j1j ?_|refine j1h ?_ _));exact BK200.out))⟩;have n4_:Aside0 (IsS44 w0 w37 g t198 t199):=⟨(by rw [hw];exact zq5)⟩;have n5_:Aside0 (KeepBut w w37 g none):=⟨(by rw [hw];exact zq16)⟩;have n6_:Aside0 (Below w0.heap.size w0 w37):=⟨(by rw [hw];exact zq19)⟩;clear hw HO_4 HO193 HO196 BK200 HI0 HK HB;have HO_4:=n0_;have HO193:=n1_;have HO196:=n2_;have BK200:=n3_;have HI0:=n4_;have HK:=n5_;have HB:=n6_;clear n0_ n1_ n2_ n3_ n4_ n5_ n6_;have hcz38_0:w37.cell? ⟨gb200,0,none⟩=some (.int .i64 t188):=(j1b BK200.out 0).trans rfl;have hcz38_1:w37.cell? ⟨gb200,1,none⟩=some (.int .i64 t189):=(j1b BK200.out 1).trans rfl;have hcz38_2:w37.cell? ⟨gb200,2,none⟩=some (.int .i64 t190):=(j1b BK200.out 2).trans rfl;have hcz38_3:w37.cell? ⟨gb200,3,none⟩=some (.slice Ao35 t191.length co35):=(j1b BK200.out 3).trans rfl;have hcz38_4:w37.cell? ⟨gb200,4,none⟩=some (.slice Ao36 t194.length co36):=(j1b BK200.out 4).trans rfl;have hfz38_0:=j1a BK200.out 0;have hfz38_1:=j1a BK200.out 1;have hfz38_2:=j1a BK200.out 2;have hfz38_3:=j1a BK200.out 3;have hfz38_4:=j1a BK200.out 4)|((with_reducible refine j1z (b := .append) (xs:=#[.tmp 25, .tmp 27]) rfl ?_);at_builtin;refine Kd.R_append k34 w.heap.size rfl (.tmp 25) (.tmp 27) 32 34 (.agg #[(.int .i64 0),(.int .i64 0),(.int .i64 0),(.slice none 0 0),(.slice none 0 0)]) 72 rfl Try.underlying32 info34 rfl zq50 (by omega) u4 x4_1 (⟨t188,t189,t190,t191,t194⟩:S34) [.int .i64 t188, .int .i64 t189, .int .i64 t190, .slice Ao35 t191.length co35, .slice Ao36 t194.length co36] (fun k_=>k_≠gb200) (fun k_=>((fun k_=>k_≠gb200)) k_∧some k_≠(u4:Value).ownBlock) rfl rfl ?aP (fun _ hk=>hk) ?aF ?aO (Below.refl _ _) ?aS ?aL ?_;(case aP=>exact k34_mkM _ _ _ (⟨t188,t189,t190,t191,t194⟩:S34) (Kd.R_mono (Kd.R_types (Kd.R_apart' (HO193.out) (Kd.R_typed HO_4.out) zq50) BK200.out zq50) (fun k_ hk=>⟨hk.2,hk.1.2⟩)) (Kd.R_mono (HO196.out) (fun k_ hk=>⟨hk.2.2,hk.1⟩)));(case aF=>exact (fun k_ hk=>Kd.freshB (g:=gb200) (o := .cells #[.int .i64 t188, .int .i64 t189, .int .i64 t190, .slice Ao35 t191.length co35, .slice Ao36 t194.length co36] 34 (0,0)) zq29 k_ hk));(case aO=>exact zq76);(case aS=>exact (j2m (w:=w) (g:=g) (row:=none) zq16));(case aL=>exact zq81);intro v202 w39 ho hb hg hat;rw [← Ny201.out] at ho;have n0_:=mk0 (IsS44.grown zq5 hg (IsS44.own_ne HI0.out HO_4.out zq50));have n1_:=mk0 (blk_grown (g:=gb200) (o := .cells #[.int .i64 t188, .int .i64 t189, .int .i64 t190, .slice Ao35 t191.length co35, .slice Ao36 t194.length co36] 34 (0,0)) zq29 hg (Kd.R_away HO_4.out (fun _ hk=>hk.2.2)));have n2_:=mk0 (j3d zq19 HL.out hb);have n3_:=mk0 (KeepBut.trans zq16 (KeepBut.of_grown hg g) (Kd.R_base2 HO_4.out));have n4_:=mk0 (ho);clear HI0 BK200 HB HK HO_4 HO193 HO196;have HI0:=n0_;have BK200:=n1_;have HB:=n2_;have HK:=n3_;have HO203:=n4_;clear n0_ n1_ n2_ n3_ n4_;clear ho hb hg hat)|((with_reducible refine j1r (f:=24) rfl ?_);refine j2f (some 30) rfl rfl Try.func24 zq23 rfl #[.pointer (some ⟨g,0,none⟩)] rfl zq2 ?_;(with_reducible refine (j1c.calls k1 g t198 t199 t204 t205 w0 _ ?side1 ?side2 A14.out).mono ?_);(case side1=>exact zq5);(case side2=>exact zq19);rintro e w40 ⟨rfl,hi,hb,hk⟩;refine ⟨_,rfl,?_⟩;have n0_:=mk0 (KeepBut.blk hk (g':=gb200) (o := .cells #[.int .i64 t188, .int .i64 t189, .int .i64 t190, .slice Ao35 t191.length co35, .slice Ao36 t194.length co36] 34 (0,0)) zq29 NB200_0.out (by simp));have n1_:=mk0 (Kd.R_mono (Kd.R_keep (IsS44.apart (show IsS44 w0 _ g t198 t199 from zq5) zq46 zq50) hk (fun _ h=>h.2)) (fun _ h=>h.1));have n2_:=mk0 (KeepBut.trans zq16 hk (.inl rfl));have n3_:=mk0 (hb);have n4_:=mk0 (hi);clear BK200 HO203 HK HB HI0;have BK200:=n0_;have HO203:=n1_;have HK:=n2_;have HB:=n3_;have HI0:=n4_;clear n0_ n1_ n2_ n3_ n4_;(try clear hb);(try clear hb2);(try clear hk);(try clear hi))|((with_reducible refine j1r (f:=36) rfl ?_);refine j2f (some 32) rfl rfl Try.func36 zq23 rfl #[.pointer (some ⟨g,0,none⟩), .int .u8 93] rfl zq2 ?_;(with_reducible refine (j1d.calls g t204 t205 93 false t207 t208 w0 _ ?side1 ?side2 A15.out).mono ?_);(case side1=>exact zq5);(case side2=>exact zq19);rintro e w41 ⟨rfl,hi,hb,hk⟩;refine ⟨_,rfl,?_⟩;have n0_:=mk0 (KeepBut.blk hk (g':=gb200) (o := .cells #[.int .i64 t188, .int .i64 t189, .int .i64 t190, .slice Ao35 t191.length co35, .slice Ao36 t194.length co36] 34 (0,0)) zq29 NB200_0.out (by simp));have n1_:=mk0 (Kd.R_mono (Kd.R_keep (IsS44.apart (show IsS44 w0 _ g t204 t205 from zq5) zq46 zq50) hk (fun _ h=>h.2)) (fun _ h=>h.1));have n2_:=mk0 (KeepBut.trans zq16 hk (.inl rfl));have n3_:=mk0 (hb);have n4_:=mk0 (hi);clear BK200 HO203 HK HB HI0;have BK200:=n0_;have HO203:=n1_;have HK:=n2_;have HB:=n3_;have HI0:=n4_;clear n0_ n1_ n2_ n3_ n4_;(try clear hb);(try clear hb2);(try clear hk);(try clear hi))|((with_reducible refine j1r (f:=36) rfl ?_);refine j2f (some 35) rfl rfl Try.func36 zq23 rfl #[.pointer (some ⟨g,0,none⟩), .int .u8 44] rfl zq2 ?_;(with_reducible refine (j1d.calls g t207 t208 44 true t210 t211 w0 _ ?side1 ?side2 A28.out).mono ?_);(case side1=>exact zq5);(case side2=>exact zq19);rintro e w42 ⟨rfl,hi,hb,hk⟩;refine ⟨_,rfl,?_⟩;have n0_:=mk0 (KeepBut.blk hk (g':=gb200) (o := .cells #[.int .i64 t188, .int .i64 t189, .int .i64 t190, .slice Ao35 t191.length co35, .slice Ao36 t194.length co36] 34 (0,0)) zq29 NB200_0.out (by simp));have n1_:=mk0 (Kd.R_mono (Kd.R_keep (IsS44.apart (show IsS44 w0 _ g t207 t208 from zq5) zq46 zq50) hk (fun _ h=>h.2)) (fun _ h=>h.1));have n2_:=mk0 (KeepBut.trans zq16 hk (.inl rfl));have n3_:=mk0 (hb);have n4_:=mk0 (hi);clear BK200 HO203 HK HB HI0;have BK200:=n0_;have HO203:=n1_;have HK:=n2_;have HB:=n3_;have HI0:=n4_;clear n0_ n1_ n2_ n3_ n4_;(try clear hb);(try clear hb2);(try clear hk);(try clear hi))|((with_reducible refine j1r (f:=24) rfl ?_);refine j2f (some 38) rfl rfl Try.func24 zq23 rfl #[.pointer (some ⟨g,0,none⟩)] rfl zq2 ?_;(with_reducible refine (j1c.calls k1 g t210 t211 t212 t213 w0 _ ?side1 ?side2 A30.out).mono ?_);(case side1=>exact zq5);(case side2=>exact zq19);rintro e w43 ⟨rfl,hi,hb,hk⟩;refine ⟨_,rfl,?_⟩;have n0_:=mk0 (KeepBut.blk hk (g':=gb200) (o := .cells #[.int .i64 t188, .int .i64 t189, .int .i64 t190, .slice Ao35 t191.length co35, .slice Ao36 t194.length co36] 34 (0,0)) zq29 NB200_0.out (by simp));have n1_:=mk0 (Kd.R_mono (Kd.R_keep (IsS44.apart (show IsS44 w0 _ g t210 t211 from zq5) zq46 zq50) hk (fun _ h=>h.2)) (fun _ h=>h.1));have n2_:=mk0 (KeepBut.trans zq16 hk (.inl rfl));have n3_:=mk0 (hb);have n4_:=mk0 (hi);clear BK200 HO203 HK HB HI0;have BK200:=n0_;have HO203:=n1_;have HK:=n2_;have HB:=n3_;have HI0:=n4_;clear n0_ n1_ n2_ n3_ n4_;(try clear hb);(try clear hb2);(try clear hk);(try clear hi)))
   go_roundg k1
   case measure=>have:=HK1.out;omega
   case rel=>exact ⟨(y201),(t212),(t213),H',⟨by have:=HK1.out;omega⟩,⟨by (with_reducible repeat (first|apply Kd.R_alloc|apply Kd.R_drewN|apply Kd.R_drew));exact Kd.R_mono HO203.out (fun _ hk=>trivial)⟩,⟨by repeat (first|(with_reducible first|exact HI0.out|apply IsS44.alloc|apply IsS44.drewN|apply IsS44.drew|apply IsS44.set_0|apply IsS44.set_1|refine IsS44.far ?_ NB0_200.out _)|exact HI0.out)⟩,⟨by repeat (first|(with_reducible first|exact HK.out|apply KeepBut.set_|apply j2c|apply j2h|apply j2d|refine j3a ?_ GW200.out _)|exact HK.out)⟩,⟨by repeat (first|(with_reducible first|exact HB.out|apply j1s|apply j1q|apply j1t|refine j1u ?_ (IsS44.ge HI0.out)|refine j1u ?_ GE200.out)|exact HB.out)⟩⟩
theorem grp25.calls (k : Nat):j1l.Stmt k∧j1e.Stmt k∧j1k.Stmt k:=by
 induction k using Nat.strongRecOn with
 | _ k ih=>exact ⟨j1l.step k (fun m h=>(ih m h).1) (fun m h=>(ih m h).2.1) (fun m h=>(ih m h).2.2),j1e.step k (fun m h=>(ih m h).1) (fun m h=>(ih m h).2.1) (fun m h=>(ih m h).2.2),j1k.step k (fun m h=>(ih m h).1) (fun m h=>(ih m h).2.1) (fun m h=>(ih m h).2.2)⟩
theorem j1l.calls (k : Nat):∀ (g:Nat) (s0_0:ByteArray) (s0_1:Int) (r1:Int) (r2:Int) (r3:Int) (r4:List (S60)) (r5:List (S34)) (r6:Bool) (r7:ByteArray) (r8:Int) (w0 w:World) (hI:IsS44 w0 w g s0_0 s0_1) (hB:Below w0.heap.size w0 w) (h:j1l.f k s0_0 s0_1=some (r1,r2,r3,r4,r5,r6,r7,r8)),
 Calls Try.prog 25 #[.pointer (some ⟨g,0,none⟩)] w fun e w'=>∃ v3_ v4_:Value,e = .returned (.tuple #[.agg #[.int .i64 r1, .int .i64 r2, .int .i64 r3,v3_,v4_], .bool r6])∧Kd.R k60 60 w' w.heap.size (fun _=>True) v3_ r4∧Kd.R k34 34 w' w.heap.size (fun k_=>some k_≠(v3_:Value).ownBlock) v4_ r5∧IsS44 w0 w' g r7 r8∧Below w0.heap.size w0 w'∧KeepBut w w' g none:=(grp25.calls k).1
theorem j1e.calls (k : Nat):∀ (g:Nat) (s0_0:ByteArray) (s0_1:Int) (r1:List (S60)) (r2:List (S34)) (r3:Bool) (r4:ByteArray) (r5:Int) (w0 w:World) (hI:IsS44 w0 w g s0_0 s0_1) (hB:Below w0.heap.size w0 w) (h:j1e.f k s0_0 s0_1=some (r1,r2,r3,r4,r5)),
 Calls Try.prog 32 #[.pointer (some ⟨g,0,none⟩)] w fun e w'=>∃ v0_ v1_:Value,e = .returned (.tuple #[v0_,v1_, .bool r3])∧Kd.R k60 60 w' w.heap.size (fun _=>True) v0_ r1∧Kd.R k34 34 w' w.heap.size (fun k_=>some k_≠(v0_:Value).ownBlock) v1_ r2∧IsS44 w0 w' g r4 r5∧Below w0.heap.size w0 w'∧KeepBut w w' g none:=(grp25.calls k).2.1
theorem j1k.calls (k : Nat):∀ (g:Nat) (s0_0:ByteArray) (s0_1:Int) (r1:List (S34)) (r2:Bool) (r3:ByteArray) (r4:Int) (w0 w:World) (hI:IsS44 w0 w g s0_0 s0_1) (hB:Below w0.heap.size w0 w) (h:j1k.f k s0_0 s0_1=some (r1,r2,r3,r4)),
 Calls Try.prog 33 #[.pointer (some ⟨g,0,none⟩)] w fun e w'=>∃ v0_:Value,e = .returned (.tuple #[v0_, .bool r2])∧Kd.R k34 34 w' w.heap.size (fun _=>True) v0_ r1∧IsS44 w0 w' g r3 r4∧Below w0.heap.size w0 w'∧KeepBut w w' g none:=(grp25.calls k).2.2
def j2j.f (k : Nat) (a0:ByteArray):Option (Int × Int × Int × (List (S60)) × (List (S34)) × Bool) :=
  (j1c.f k a0 0).bind fun b=>((j1l.f k b.1 b.2).bind fun v=>(if v.2.2.2.2.2.1=true then ((j1c.f k v.2.2.2.2.2.2.1 v.2.2.2.2.2.2.2).bind fun c=>(if c.2=(a0.size:Int) then (some (v.1,v.2.1,v.2.2.1,v.2.2.2.1,v.2.2.2.2.1,true)) else (some (0,0,0,[],[],false)))) else (some (0,0,0,[],[],false))))
theorem j2j.mono : ∀ a0 k,LeO (j2j.f k a0) (j2j.f (k+1) a0):=fun a0 k=>LeO.bind (j1c.mono _ _ k) (fun _=>LeO.bind (j1l.mono _ _ k) (fun _=>LeO.ite (LeO.bind (j1c.mono _ _ k) (fun _=>LeO.refl _)) (LeO.refl _)))
theorem Places_R_keep {α : Type} {d:Kd α} {e:Nat} {w w1:World} {base:Nat} {ok:Nat→Prop} {v:Value} {xs:List α} (h:d.R e w base ok v xs) {g:Nat} (hk:KeepBut w w1 g none) (hg:g<base):d.R e w1 base ok v xs :=
 Kd.R_mono (Kd.R_move (Kd.R_bound h) (fun k hk'=>hk.2 k hk'.2.2.1 (by omega) (by simp))) (fun _ hk=>hk.1)
theorem j2j.calls (k : Nat) (a0:ByteArray) (r1 r2 r3:Int) (r4:List (S60)) (r5:List (S34)) (r6:Bool) (w:World) (h:j2j.f k a0=some (r1,r2,r3,r4,r5,r6)) :
 Calls Try.prog 16 #[.string a0] w fun e w'=>∃ v3_ v4_:Value,e = .returned (.tuple #[.agg #[.int .i64 r1, .int .i64 r2, .int .i64 r3,v3_,v4_], .bool r6])∧Kd.R k60 60 w' w.heap.size (fun _=>True) v3_ r4∧Kd.R k34 34 w' w.heap.size (fun k_=>some k_≠(v3_:Value).ownBlock) v4_ r5∧Below w.heap.size w w':=by
 unfold j2j.f at h
 replace h:=Option.bind_eq_some_iff.mp h;obtain ⟨⟨s1,at1⟩,A1,h⟩:=h;replace h:=Option.bind_eq_some_iff.mp h;obtain ⟨⟨t1,t2,t3,t4,t5,ok,s2,at2⟩,A2,h⟩:=h;have B1:=mk0 A1;have B2:=mk0 A2;have HR:=mk0 h;clear A1 A2 h;go_enter Try.func16,Try.ntmps16;go_wp2_with fail
 refine (j1c.calls k (w.heap.size+1) a0 0 s1 at1 w _ ?i1 ?b1 B1.out).mono ?_
 case i1 =>
  have:=IsS44.new w (w.alloc (.cells #[.int .i64 0, .int .i64 0, .int .i64 0, .slice none 0 0, .slice none 0 0] 34)) a0 0 (j1s (Below.refl _ _) _)
  simpa using this
 case b1=>exact j1s (j1s (Below.refl _ _) _) _
 rintro e w1 ⟨rfl,hI,hB,hK⟩;have hZ:w1.heap[w.heap.size]? = some (.cells #[.int .i64 0, .int .i64 0, .int .i64 0, .slice none 0 0, .slice none 0 0] 34 (0,0)):=KeepBut.blk hK (j1h (blk_new w _) _) (by omega) (by simp);have HI:=mk0 hI;have HB:=mk0 hB;have HZ:=mk0 hZ;clear hI hB hK hZ;go_wp2_with fail
 refine (j1l.calls k (w.heap.size+1) s1 at1 t1 t2 t3 t4 t5 ok s2 at2 w _ HI.out HB.out B2.out).mono ?_;rintro e w2 ⟨v3,v4,rfl,hv3,hv4,hI,hB,hK⟩;obtain ⟨i3,ho3⟩:=Kd.R_own hv3;obtain ⟨A3,c3,e3⟩:=own_slice ho3;subst e3;obtain ⟨i4,ho4⟩:=Kd.R_own hv4;obtain ⟨A4,c4,e4⟩:=own_slice ho4;subst e4;clear ho3 ho4;have hl1:=j2u HB.out;have hl:w.heap.size+1<w1.heap.size:=HI.out.lt;have hZ2:=KeepBut.blk hK HZ.out (by omega) (by simp);have HI2:=mk0 hI;have HB2:=mk0 hB;have HZ2:=mk0 hZ2;have HV3:=mk0 hv3;have HV4:=mk0 hv4;have HL:=mk0 hl;have HL2:=mk0 hK.1;clear hI hB hK hZ2 hv3 hv4 hl hl1 HI HB HZ;have HR1:=HR.out;clear HR;cases ok with
 | false =>
  rw [if_neg zq50] at HR1;simp only [Option.some.injEq,Prod.mk.injEq] at HR1;obtain ⟨rfl,rfl,rfl,rfl,rfl,rfl⟩:=HR1;go_wp2_with (((with_reducible refine j3j (t:=34) (p:=2) rfl ?_);refine box_store (g:=w.heap.size) (new:=#[.int .i64 0, .int .i64 0, .int .i64 0, .slice none 0 0, .slice none 0 0]) rfl rfl rfl rfl rfl (j1h HZ2.out _) rfl zq23 (by simp [Value.oneCell']) ?_;intro w3 hz3 hk3 hb3;have HZ3:=mk0 hz3;have HB3:=mk0 (hb3 w.heap.size (Nat.le_refl _));clear hz3 hk3 hb3))
  refine bodyPost_ret (j3f rfl _ _ w.heap.size 34 #[.int .i64 0, .int .i64 0, .int .i64 0, .slice none 0 0, .slice none 0 0] (0,0) _ rfl HZ3.out Try.underlying34 rfl zq23) rfl ?_;exact ⟨_,_,rfl,Kd.R_nil _ _ _ _ _,Kd.R_nil _ _ _ _ _,(j1s HB2.out _).trans HB3.out⟩
 | true =>
  rw [if_pos rfl] at HR1;replace HR1:=Option.bind_eq_some_iff.mp HR1;obtain ⟨⟨s3,at3⟩,A3,HR1⟩:=HR1;have B3:=mk0 A3;have HR:=mk0 HR1;clear A3 HR1;go_wp2_with fail
  refine (j1c.calls k (w.heap.size+1) s2 at2 s3 at3 w _ (IsS44.alloc HI2.out _) (j1s HB2.out _) B3.out).mono ?_;rintro e w3 ⟨rfl,hI,hB,hK⟩;have hL:=HL.out;have hL2:=HL2.out;have HP3:=mk0 (KeepBut.blk hK (blk_new w2 _) (by omega) (by simp));have HZ3:=mk0 (KeepBut.blk hK (j1h HZ2.out _) (by omega) (by simp));have HV3':=mk0 (Places_R_keep (Kd.R_alloc HV3.out _) hK HL.out);have HV4':=mk0 (Places_R_keep (Kd.R_alloc HV4.out _) hK HL.out);have hc1:=j2g hI.1;have HB3:=mk0 hB;have HR1:=HR.out;clear hI hB hK hL hL2 HR;by_cases c:at3=(a0.size:Int)
  rotate_left
  ·rw [if_neg c] at HR1;have cb:(at3 != (a0.size:Int))=true:=bne_iff_ne.mpr c;clear c;simp only [Option.some.injEq,Prod.mk.injEq] at HR1;obtain ⟨rfl,rfl,rfl,rfl,rfl,rfl⟩:=HR1;go_wp2_with (((with_reducible refine j3j (t:=34) (p:=2) rfl ?_);refine box_store (g:=w.heap.size) (new:=#[.int .i64 0, .int .i64 0, .int .i64 0, .slice none 0 0, .slice none 0 0]) rfl rfl rfl rfl rfl HZ3.out rfl zq23 (by simp [Value.oneCell']) ?_;intro w4 hz4 hk4 hb4;have HZ4:=mk0 hz4;have HB4:=mk0 (hb4 w.heap.size (Nat.le_refl _));clear hz4 hk4 hb4))
   refine bodyPost_ret (j3f rfl _ _ w.heap.size 34 #[.int .i64 0, .int .i64 0, .int .i64 0, .slice none 0 0, .slice none 0 0] (0,0) _ rfl HZ4.out Try.underlying34 rfl zq23) rfl ?_;exact ⟨_,_,rfl,Kd.R_nil _ _ _ _ _,Kd.R_nil _ _ _ _ _,HB3.out.trans HB4.out⟩
  rw [if_pos c] at HR1;have cb:(at3 != (a0.size:Int))=false:=bne_eq_false_iff_eq.mpr c;clear c;simp only [Option.some.injEq,Prod.mk.injEq] at HR1;obtain ⟨rfl,rfl,rfl,rfl,rfl,rfl⟩:=HR1;go_wp2_with (first|((with_reducible refine j2v (N:=24) rfl ?_);refine wpList_load_row rfl 34 _ rfl w2.heap.size rfl 34 _ (0,0) _ HP3.out Try.underlying34 rfl zq23 ?_)|((with_reducible refine j3j (t:=34) (p:=2) rfl ?_);refine box_store (g:=w.heap.size) (new:=#[.int .i64 t1, .int .i64 t2, .int .i64 t3, .slice A3 t4.length c3, .slice A4 t5.length c4]) rfl rfl rfl rfl rfl HZ3.out rfl zq23 (by simp [Value.oneCell']) ?_;intro w4 hz4 hk4 hb4;have HZ4:=mk0 hz4;have HK4:=mk0 hk4;have HB4:=mk0 (hb4 w.heap.size (Nat.le_refl _));clear hz4 hk4 hb4))
  refine bodyPost_ret (j3f rfl _ _ w.heap.size 34 #[.int .i64 t1, .int .i64 t2, .int .i64 t3, .slice A3 t4.length c3, .slice A4 t5.length c4] (0,0) _ rfl HZ4.out Try.underlying34 rfl zq23) rfl ?_;have hL:=HL.out;exact ⟨_,_,rfl,Kd.R_lower (Places_R_keep HV3'.out HK4.out (by omega)) (by omega),Kd.R_lower (Places_R_keep HV4'.out HK4.out (by omega)) (by omega),HB3.out.trans HB4.out⟩
def blkL (out : List Int) (i:Nat):Nat→List Int
  | 0=>out
  | n+1=>blkL (if out.getD i 0=10 then out else out.set i 32) (i+1) n
theorem blkL_len : ∀ (n i:Nat) (out:List Int),(blkL out i n).length=out.length
 | 0,_,_=>rfl
 | n+1,i,out=>by
  rw [blkL,blkL_len];split<;>simp
def unL : Nat → ByteArray→List Int→Nat→Int→Option (ByteArray × Bool)
  | 0,_,_,_,_=>none
  | k+1,s,out,i,last =>
    if i<s.size then (j1n.f k s (i:Int)).bind fun r =>
      if r.2=false then some (⟨#[]⟩,false)
      else if (i:Int)<r.1 then (if r.1≤(s.size:Int) then unL k s (blkL out i (r.1.toNat - i)) r.1.toNat last else none)
      else if bt s (i:Int)=34 then (j1p.f k s (i:Int)).bind fun q=>if q.1=true then (if 0≤q.2.2∧q.2.2≤(s.size:Int) then unL k s out q.2.2.toNat (i:Int) else none) else some (⟨#[]⟩,false)
      else (j2z.f (bt s (i:Int))).bind fun b=>unL k s (if (bt s (i:Int)=125∨bt s (i:Int)=93)∧0≤last∧bt s last=44 then out.set last.toNat 32 else out) (i+1) (if b=true then last else (i:Int))
    else (j2j.f k (strOfNums out)).bind fun p=>some (strOfNums out,p.2.2.2.2.2)
theorem unL_mono : ∀ (k:Nat) (s:ByteArray) (out:List Int) (i:Nat) (last:Int),LeO (unL k s out i last) (unL (k+1) s out i last)
 | 0,_,_,_,_=>fun r h=>by simp [unL] at h
 | k+1,s,out,i,last=>by
  rw [unL,unL];exact LeO.ite (LeO.bind (j1n.mono _ _ k) fun _=>LeO.ite (LeO.refl _) (LeO.ite (LeO.ite (unL_mono k _ _ _ _) (LeO.refl _)) (LeO.ite (LeO.bind (j1p.mono _ _ k) fun _=>LeO.ite (LeO.ite (unL_mono k _ _ _ _) (LeO.refl _)) (LeO.refl _)) (LeO.bind (LeO.refl _) fun _=>unL_mono k _ _ _ _)))) (LeO.bind (j2j.mono _ k) fun _=>LeO.refl _)
def unF (k : Nat) (a0:ByteArray):Option (ByteArray × Bool):=if a0.size≤2147483647 then unL k a0 (bytesOf a0) 0 (-1) else none
theorem unF_mono : ∀ a0 k,LeO (unF k a0) (unF (k+1) a0):=fun a0 k=>LeO.ite (unL_mono k _ _ _ _) (LeO.refl _)
theorem unL_cases {k i : Nat} {s:ByteArray} {out:List Int} {last:Int} {R:ByteArray × Bool} (h:unL (k+1) s out i last=some R) (hi:i<s.size):∃ (r1:Int) (r2:Bool),j1n.f k s (i:Int)=some (r1,r2) ∧
 ((r2=false∧R=(⟨#[]⟩,false))∨(r2=true∧(i:Int)<r1∧r1≤(s.size:Int)∧unL k s (blkL out i (r1.toNat - i)) r1.toNat last=some R) ∨
  (r2=true∧¬ (i:Int)<r1∧bt s (i:Int)=34∧∃ (q1:Bool) (q2:ByteArray) (q3:Int),j1p.f k s (i:Int)=some (q1,q2,q3)∧((q1=false∧R=(⟨#[]⟩,false))∨(q1=true∧0≤q3∧q3≤(s.size:Int)∧unL k s out q3.toNat (i:Int)=some R))) ∨
  (r2=true∧¬ (i:Int)<r1∧bt s (i:Int)≠34∧∃ b:Bool,j2z.f (bt s (i:Int))=some b∧unL k s (if (bt s (i:Int)=125∨bt s (i:Int)=93)∧0≤last∧bt s last=44 then out.set last.toNat 32 else out) (i+1) (if b=true then last else (i:Int))=some R)):=by
 rw [unL,if_pos hi] at h
 obtain ⟨⟨r1,r2⟩,hr,h⟩:=Option.bind_eq_some_iff.mp h;refine ⟨r1,r2,hr,?_⟩;simp only at h
 split at h
 ·rename_i h2;cases h;exact .inl ⟨h2,rfl⟩
 rename_i h2;have h2:r2=true:=by simpa using h2
 split at h
 ·rename_i h3;split at h
  ·rename_i h4;exact .inr (.inl ⟨h2,h3,h4,h⟩)
  ·cases h
 rename_i h3;split at h
 ·rename_i h4;obtain ⟨⟨q1,q2,q3⟩,hq,h⟩:=Option.bind_eq_some_iff.mp h;refine .inr (.inr (.inl ⟨h2,h3,h4,q1,q2,q3,hq,?_⟩));simp only at h
  split at h
  ·rename_i h5;split at h
   ·rename_i h6;exact .inr ⟨h5,h6.1,h6.2,h⟩
   ·cases h
  ·rename_i h5;cases h;exact .inl ⟨by simpa using h5,rfl⟩
 ·rename_i h4;obtain ⟨b,hb,h⟩:=Option.bind_eq_some_iff.mp h;exact .inr (.inr (.inr ⟨h2,h3,h4,b,hb,h⟩))
theorem unL_end {k i : Nat} {s:ByteArray} {out:List Int} {last:Int} {R:ByteArray × Bool} (h:unL (k+1) s out i last=some R) (hi:¬ i<s.size):∃ (r1 r2 r3:Int) (r4:List S60) (r5:List S34) (r6:Bool),j2j.f k (strOfNums out)=some (r1,r2,r3,r4,r5,r6)∧R=(strOfNums out,r6):=by
 rw [unL,if_neg hi] at h
 obtain ⟨⟨r1,r2,r3,r4,r5,r6⟩,hp,h⟩:=Option.bind_eq_some_iff.mp h;cases h;exact ⟨r1,r2,r3,r4,r5,r6,hp,rfl⟩
def OUT (w W : World) (out:List Int):Prop:=(∀ j,j<out.length→W.cell? ⟨w.heap.size,j,none⟩=some (.int .u8 (out.getD j 0))∧W.frozen? ⟨w.heap.size,j,none⟩=false)∧w.heap.size<W.heap.size∧Below w.heap.size w W
theorem OUT.below {w W W':World} {out:List Int} (h:OUT w W out) (hb:Below W.heap.size W W'):OUT w W' out :=
 ⟨fun j hj=>⟨(j3k hb h.2.1).trans (h.1 j hj).1,(hb.frozen (p:=⟨w.heap.size,j,none⟩) h.2.1).trans (h.1 j hj).2⟩,Nat.lt_of_lt_of_le h.2.1 hb.size,j2a h.2.2 hb⟩
theorem OUT.drawn {w W W':World} {out:List Int} (h:OUT w W out) (hb:Drawn0 W W'):OUT w W' out:=h.below hb.below
theorem OUT.set {w W : World} {out:List Int} (h:OUT w W out) {j:Nat} (hj:j<out.length):OUT w (W.setCell ⟨w.heap.size,j,none⟩ (.int .u8 32)) (out.set j 32):=by
 refine ⟨fun q hq=>?_,by have:=h.2.1;simpa using this,h.2.2.setCell (Nat.le_refl _) _⟩;rw [List.length_set] at hq;refine ⟨?_,by rw [World.frozen?_setCell];exact (h.1 q hq).2⟩;by_cases hqj:q=j
 ·subst hqj;rw [World.cell?_setCell_same _ _ _ (h.1 q hq).1,List.getD_eq_getElem?_getD,List.getElem?_set_self hj];rfl
 rw [World.cell?_setCell_other _ _ _ _ (fun e=>hqj (by injection e with _ e2;exact e2.symm)),(h.1 q hq).1];rw [List.getD_eq_getElem?_getD,List.getD_eq_getElem?_getD,List.getElem?_set_ne (fun e=>hqj e.symm)]
theorem OUT.same {w W W':World} {out:List Int} (h:OUT w W out) (hk:W'.heap[w.heap.size]? = W.heap[w.heap.size]?) (hs:w.heap.size<W'.heap.size) (hb:Below w.heap.size w W'):OUT w W' out:=by
 refine ⟨fun j hj=>?_,hs,hb⟩;obtain ⟨h1,h2⟩:=h.1 j hj;exact ⟨by rw [← h1];unfold World.cell?; simp only [hk],by rw [← h2];unfold World.frozen?; simp only [hk]⟩
theorem OUT_keep {w W W':World} {out:List Int} {c:Array Value} {tt:TypeId} (h:OUT w W out) (hk:KeepBut (W.alloc (.cells c tt)) W' W.heap.size none) (hb:Below w.heap.size w W'):OUT w W' out:=by
 have h1:=h.2.1;have h2:=hk.1;have h3:=hk.2 w.heap.size zq86 (by omega) (by simp);refine h.same (h3.trans ?_) (by simp at h2;omega) hb;exact (j1s (Below.refl W.heap.size W) (.cells c tt)).block _ h1
theorem OUT.str {w W : World} {out:List Int} (h:OUT w W out) (n c:Nat) (hn:out.length=n) (hm:n≤2147483647):(convert 38 9 (.slice (some ⟨w.heap.size,0,none⟩) n c)).run Try.prog W = .ok (.string (strOfNums out)) W:=by
 subst hn;have hC:(Kd.int .u8).C W (some ⟨w.heap.size,0,none⟩) out.length out:=Kd.C_of_reads (enc:=Value.int .u8) (d:=(0:Int)) (h1:=fun _=>rfl) ⟨rfl,by omega,fun _=>⟨⟨w.heap.size,0,none⟩,rfl,fun j hj=>(by rw [add_at0,(h.1 j hj).1])⟩⟩;exact Kd.C_string (P:=Try.prog) Try.underlying38 Try.underlying5 Try.underlying9 (c:=c) hC
set_option maxHeartbeats 16000000 in
set_option maxRecDepth 100000 in
theorem unc_calls (k : Nat) (a0 r1:ByteArray) (r2:Bool) (w:World) (h:unF k a0=some (r1,r2)) :
 Calls Try.prog 5 #[.string a0] w fun e w'=>e = .returned (.tuple #[.string r1, .bool r2])∧Below w.heap.size w w':=by
 unfold unF at h
 split at h
 case isFalse=>cases h
 case isTrue hs =>
 have hlen:=bytesOf_length a0;have hcg:=grownCap_ge w a0.size 0 5;have kb:=fun W=>print_bytes (P:=Try.prog) 9 38 5 Try.underlying9 Try.underlying38 Try.underlying5 a0 W
 obtain ⟨cc,hcc⟩:∃ cc,cc=grownCap w a0.size 0 5:=⟨_,rfl⟩;have hO0:OUT w (Lib.bytesWorld w 5 a0) (bytesOf a0):=⟨fun j hj=>⟨bytes_cell w a0 j hj,bytes_free w a0 j (by omega)⟩,by rw [Lib.bytesWorld_size];omega,bytes_below (B:=w.heap.size) (Below.refl _ w) (Nat.le_refl _) 5 a0⟩;have HO0:=mk0 hO0;have H0:=mk0 h;have HLen:=mk0 hlen;clear hO0 h hlen;go_enter Try.func5,Try.ntmps5;go_wp2_with fail
 rw [← hcc] at hcg ⊢;go_loopg [5,6] k (fun kq v5 v6 w'=>∃ (i:Nat) (last:Int) (out:List Int),v6 = .int .i64 (i:Int)∧v5 = .int .i64 last∧Aside0 (OUT w w' out)∧Aside0 (i≤a0.size ∧ -1≤last∧last<(a0.size:Int)∧out.length=a0.size∧unL kq a0 out i last=some (r1,r2)))
 case atStart=>exact ⟨0,-1,bytesOf a0,rfl,rfl,HO0,⟨Nat.zero_le _,by omega,by omega,HLen.out,H0.out⟩⟩
 case round =>
  clear HO0 H0 kb hcc;obtain ⟨i,last,out,rfl,rfl,HO,HJ⟩:=hrel;have hi1:=HJ.out.1;have hl1:=HJ.out.2.1;have hl2:=HJ.out.2.2.1;have hol:=HJ.out.2.2.2.1;have hun:=HJ.out.2.2.2.2;have HOL:=mk0 hol;cases gk with
  | zero=>simp [unL] at hun
  | succ gk =>
  clear HJ hol;by_cases hlt:i<a0.size
  rotate_left
  ·have t1:decide ((i:Int)<(a0.size:Int))=false:=decide_eq_false (by omega);obtain ⟨p1,p2,p3,p4,p5,p6,hp,hR⟩:=unL_end hun hlt;have HPL:=mk0 hp;have ks:=HO.out.str a0.size cc HOL.out hs;cases hR;clear hun hp;go_wp2_with (first|(go_at_call 16;(with_reducible refine (j2j.calls gk _ p1 p2 p3 p4 p5 _ _ HPL.out).mono ?_);rintro e5_ w5_ ⟨v3_,v4_,rfl,hv3,hv4,hb5⟩;obtain ⟨A3_,c3_,rfl⟩:=Kd.R_slice hv3;obtain ⟨A4_,c4_,rfl⟩:=Kd.R_slice hv4;have HO5:=mk0 (HO.out.below hb5);have ks2:=fun o=>(HO5.out.below (j1s (Below.refl _ _) o)).str a0.size cc HOL.out hs;clear hv3 hv4 hb5))
   go_ret2;exact ⟨rfl,(HO5.out.below (j1s (Below.refl _ _) _)).2.2⟩
  have t1:decide ((i:Int)<(a0.size:Int))=true:=decide_eq_true (by omega);obtain ⟨c1,c2,hcm,hc⟩:=unL_cases hun hlt;have HCM:=mk0 hcm;clear hcm hun;rcases hc with ⟨hc2,hR⟩|⟨hc2,hc1,hc3,hun⟩|⟨hc2,hc1,h34,q1,q2,q3,hq,hqq⟩|⟨hc2,hc1,h34,bb,hbb,hun⟩
  ·subst hc2;cases hR;go_wp2_with (first|(go_at_call 13;(with_reducible refine (j1n.calls gk a0 (i:Int) c1 _ _ HCM.out).mono ?_);rintro e_ w_ ⟨rfl,hd⟩;have HO1:=mk0 (HO.out.drawn hd);clear hd))
   go_ret2;exact ⟨rfl,HO1.out.2.2⟩
  ·obtain ⟨e,rfl⟩:=Int.eq_ofNat_of_zero_le (show 0≤c1 by omega);simp only [Int.toNat_natCast] at hun;have HUN:=mk0 hun;subst hc2;have t2:decide ((e:Int)>(i:Int))=true:=decide_eq_true hc1;have t3:decide ((i:Int)<(e:Int))=true:=decide_eq_true hc1;have t4:decide (i<e)=true:=decide_eq_true (by omega);clear hun;go_upto_block 3 with (first|(go_at_call 13;(with_reducible refine (j1n.calls gk a0 (i:Int) _ _ _ HCM.out).mono ?_);rintro e_ w_ ⟨rfl,hd⟩;have HO1:=mk0 (HO.out.drawn hd);clear hd))
   go_cut [6] (fun v6 wc=>v6 = .int .i64 (e:Int)∧Aside0 (OUT w wc (blkL out i (e - i))))
   case first =>
    go_wp2_with fail
    go_loopg [6] (e - i) (fun kq v6 w'=>∃ (i2:Nat) (out2:List Int),v6 = .int .i64 (i2:Int)∧Aside0 (OUT w w' out2)∧Aside0 (i≤i2∧i2≤e∧blkL out2 i2 (e - i2)=blkL out i (e - i)∧out2.length=a0.size)∧kq=e - i2)
    case atStart=>exact ⟨i,out,rfl,HO1,⟨Nat.le_refl _,by omega,rfl,HOL.out⟩,rfl⟩
    case round =>
     clear HO HO1 t2 t3 t4;obtain ⟨i2,out2,rfl,HO2,HJ2,hk2⟩:=hrel;have hi2:=HJ2.out.1;have hi3:=HJ2.out.2.1;by_cases hlt2:i2<e
     rotate_left
     ·have s1:decide ((i2:Int)<(e:Int))=false:=decide_eq_false (by omega);obtain rfl:i2=e:=by omega
      have hst:=HJ2.out.2.2.1;rw [Nat.sub_self,blkL] at hst;have HST:=mk0 hst;clear hst;go_wp2;go_meet
      case rel=>exact ⟨rfl,⟨by rw [← HST.out];exact HO2.out⟩⟩
     have s1:decide ((i2:Int)<(e:Int))=true:=decide_eq_true (by omega);have hl2':=HJ2.out.2.2.2;have hcell:=(HO2.out.1 i2 (by omega)).1;have hfr:=(HO2.out.1 i2 (by omega)).2;have hset:=HO2.out.set (j:=i2) (by omega)
     have hstep:blkL (if out2.getD i2 0=10 then out2 else out2.set i2 32) (i2+1) (e - (i2+1))=blkL out i (e - i):=by
      have:=HJ2.out.2.2.1;rw [show e - i2=(e - (i2+1))+1 by omega,blkL] at this;exact this
     have HSET:=mk0 hset;have HL2:=mk0 hl2';clear hset hl2';by_cases h10:out2.getD i2 0=10
     ·rw [if_pos h10] at hstep;rw [h10] at hcell;have HST:=mk0 hstep;clear hstep h10;go_wp2;go_roundg (e - (i2+1))
      case measure=>omega
      case rel=>exact ⟨i2+1,out2,by go_num,HO2,⟨by omega,by omega,HST.out,HL2.out⟩,rfl⟩
     rw [if_neg h10] at hstep;have HST:=mk0 hstep;have e10:(out2.getD i2 0 == 10)=false:=beq_eq_false_iff_ne.mpr h10;have n10:(out2.getD i2 0 != 10)=true:=bne_iff_ne.mpr h10;have d10:decide (out2.getD i2 0=10)=false:=decide_eq_false h10;clear hstep
     generalize out2.getD i2 0=z at hcell e10 n10 d10 h10
     clear h10;go_wp2;go_roundg (e - (i2+1))
     case measure=>omega
     case rel=>exact ⟨i2+1,out2.set i2 32,by go_num,HSET,⟨by omega,by omega,HST.out,by rw [List.length_set];exact HL2.out⟩,rfl⟩
   case rest =>
    clear HO HO1 t2 t3 t4;obtain ⟨rfl,HO3⟩:=hcut;go_wp2;go_roundg gk
    case measure=>omega
    case rel=>exact ⟨e,last,blkL out i (e - i),rfl,rfl,HO3,⟨by omega,by omega,by omega,by rw [blkL_len];exact HOL.out,HUN.out⟩⟩
  ·subst hc2;have HQ:=mk0 hq;have t2:decide (c1>(i:Int))=false:=decide_eq_false hc1;have t3:decide ((i:Int)<c1)=false:=decide_eq_false hc1;have hbt:∀ h:i<a0.size,((a0[i]'h).toNat:Int)=34:=fun h=>(bt_at a0 (i:Int) h).trans h34
   clear hq h34;rcases hqq with ⟨hq1,hR⟩|⟨hq1,hq3,hq4,hun⟩
   ·subst hq1;cases hR;go_wp2_with (first|(go_at_call 13;(with_reducible refine (j1n.calls gk a0 (i:Int) _ _ _ HCM.out).mono ?_);rintro e_ w_ ⟨rfl,hd⟩;have HO1:=mk0 (HO.out.drawn hd);clear hd))
    have hnew:=IsS44.new w w_ a0 (i:Int) HO1.out.2.2;refine (j1p.calls gk w_.heap.size a0 (i:Int) _ q2 _ w _ hnew (j1s HO1.out.2.2 _) HQ.out).mono ?_;rintro e2_ w2_ ⟨rfl,hI2,hB2,hK2⟩;have hq2_:=j1b hI2.1 1;simp only [List.getElem?_toArray,List.getElem?_cons_succ,List.getElem?_cons_zero] at hq2_;have HO2:=mk0 (OUT_keep HO1.out hK2 hB2);clear hnew hI2 hB2 hK2;go_wp2;go_ret2;exact ⟨rfl,HO2.out.2.2⟩
   ·subst hq1;obtain ⟨e,rfl⟩:=Int.eq_ofNat_of_zero_le hq3;rw [Int.toNat_natCast] at hun;have HUN:=mk0 hun;clear hun;go_wp2_with (first|(go_at_call 13;(with_reducible refine (j1n.calls gk a0 (i:Int) _ _ _ HCM.out).mono ?_);rintro e_ w_ ⟨rfl,hd⟩;have HO1:=mk0 (HO.out.drawn hd);clear hd))
    have hnew:=IsS44.new w w_ a0 (i:Int) HO1.out.2.2;refine (j1p.calls gk w_.heap.size a0 (i:Int) _ q2 _ w _ hnew (j1s HO1.out.2.2 _) HQ.out).mono ?_;rintro e2_ w2_ ⟨rfl,hI2,hB2,hK2⟩;have hq2_:=j1b hI2.1 1;simp only [List.getElem?_toArray,List.getElem?_cons_succ,List.getElem?_cons_zero] at hq2_;have HO2:=mk0 (OUT_keep HO1.out hK2 hB2);clear hnew hI2 hB2 hK2;go_wp2
    repeat (go_quiet (fail);try go_wp2)
    go_roundg gk
    case measure=>omega
    case rel=>exact ⟨e,(i:Int),out,rfl,rfl,⟨by first|exact HO2.out|exact HO2.out.drawn ⟨⟨_,rfl⟩⟩⟩,⟨by omega,by omega,by omega,HOL.out,HUN.out⟩⟩
  ·subst hc2;obtain ⟨q,hq⟩:∃ q,q=bt a0 (i:Int):=⟨_,rfl⟩;rw [← hq] at h34 hbb hun;have t2:decide (c1>(i:Int))=false:=decide_eq_false hc1;have t3:decide ((i:Int)<c1)=false:=decide_eq_false hc1;have e34:(q == 34)=false:=beq_eq_false_iff_ne.mpr h34;have d34:decide (q=34)=false:=decide_eq_false h34;have hbt:∀ h:i<a0.size,((a0[i]'h).toNat:Int)=q:=fun h=>(bt_at a0 (i:Int) h).trans hq.symm
   have HBB:=mk0 hbb;have HUN:=mk0 hun;have HQ:=mk0 hq;clear hbb hun hq h34;go_upto_block 2 with (first|(go_at_call 13;(with_reducible refine (j1n.calls gk a0 (i:Int) _ _ _ HCM.out).mono ?_);rintro e_ w_ ⟨rfl,hd⟩;have HO1:=mk0 (HO.out.drawn hd);clear hd))
   go_cut [5,6] (fun v5 v6 wc=>v5 = .int .i64 last∧v6 = .int .i64 (i:Int)∧Aside0 (OUT w wc (if (q=125∨q=93)∧0≤last∧bt a0 last=44 then out.set last.toNat 32 else out)))
   case first =>
    by_cases hb:q=125∨q=93
    rotate_left
    ·have e125:(q == 125)=false:=beq_eq_false_iff_ne.mpr (fun h=>hb (.inl h));have d125:decide (q=125)=false:=decide_eq_false (fun h=>hb (.inl h));have e93:(q == 93)=false:=beq_eq_false_iff_ne.mpr (fun h=>hb (.inr h));have d93:decide (q=93)=false:=decide_eq_false (fun h=>hb (.inr h));have hif:(if (q=125∨q=93)∧0≤last∧bt a0 last=44 then out.set last.toNat 32 else out)=out:=if_neg (fun h=>hb h.1);have HIF:=mk0 hif;clear hif hb;go_wp2;go_meet
     case rel=>exact ⟨rfl,rfl,⟨by rw [HIF.out];exact HO1.out⟩⟩
    by_cases hl0:0≤last
    rotate_left
    ·have l1:decide (last≥0)=false:=decide_eq_false hl0;have l2:decide ((0:Int)≤last)=false:=decide_eq_false hl0;have hif:(if (q=125∨q=93)∧0≤last∧bt a0 last=44 then out.set last.toNat 32 else out)=out:=if_neg (fun h=>hl0 h.2.1);have HIF:=mk0 hif;clear hif;rcases hb with hb|hb
     rotate_left
     ·subst hb;go_wp2;go_meet
      case rel=>exact ⟨rfl,rfl,⟨by rw [HIF.out];exact HO1.out⟩⟩
     subst hb;go_wp2;go_meet
     case rel=>exact ⟨rfl,rfl,⟨by rw [HIF.out];exact HO1.out⟩⟩
    obtain ⟨m,rfl⟩:=Int.eq_ofNat_of_zero_le hl0;have hm:m<a0.size:=by omega
    have l1:decide ((m:Int)≥0)=true:=decide_eq_true hl0;have l2:decide ((0:Int)≤(m:Int))=true:=decide_eq_true hl0;obtain ⟨z,hz⟩:∃ z,z=bt a0 (m:Int):=⟨_,rfl⟩;have hbt2:∀ h:m<a0.size,((a0[m]'h).toNat:Int)=z:=fun h=>(bt_at a0 (m:Int) h).trans hz.symm
    by_cases h44:z=44
    rotate_left
    ·have e44:(z == 44)=false:=beq_eq_false_iff_ne.mpr h44;have d44:decide (z=44)=false:=decide_eq_false h44;have hif:(if (q=125∨q=93)∧0≤(m:Int)∧bt a0 (m:Int)=44 then out.set (m:Int).toNat 32 else out)=out:=if_neg (fun h=>h44 (hz.trans h.2.2));have HIF:=mk0 hif;clear hif hz h44;rcases hb with hb|hb
     rotate_left
     ·subst hb;go_wp2;go_meet
      case rel=>exact ⟨rfl,rfl,⟨by rw [HIF.out];exact HO1.out⟩⟩
     subst hb;go_wp2;go_meet
     case rel=>exact ⟨rfl,rfl,⟨by rw [HIF.out];exact HO1.out⟩⟩
    subst h44;have hcell:=(HO1.out.1 m (by rw [HOL.out];exact hm)).1;have hfr:=(HO1.out.1 m (by rw [HOL.out];exact hm)).2;have hset:=HO1.out.set (j:=m) (by rw [HOL.out];exact hm);have hif:(if (q=125∨q=93)∧0≤(m:Int)∧bt a0 (m:Int)=44 then out.set (m:Int).toNat 32 else out)=out.set m 32:=by rw [if_pos ⟨hb,hl0,hz.symm⟩,Int.toNat_natCast]
    have HIF:=mk0 hif;have HSET:=mk0 hset;clear hif hset hz
    generalize out.getD m 0=y at hcell
    rcases hb with hb|hb
    rotate_left
    ·subst hb;go_wp2;go_meet
     case rel=>exact ⟨rfl,rfl,⟨by rw [HIF.out];exact HSET.out⟩⟩
    subst hb;go_wp2;go_meet
    case rel=>exact ⟨rfl,rfl,⟨by rw [HIF.out];exact HSET.out⟩⟩
   case rest =>
    clear HO HO1 t2 t3 e34 d34;obtain ⟨rfl,rfl,HO3⟩:=hcut
    have hol3:(if (q=125∨q=93)∧0≤last∧bt a0 last=44 then out.set last.toNat 32 else out).length=a0.size:=by
     split
     ·rw [List.length_set];exact HOL.out
     ·exact HOL.out
    have HOL3:=mk0 hol3;clear hol3
    generalize (if (q=125∨q=93)∧0≤last∧bt a0 last=44 then out.set last.toNat 32 else out)=out3 at HO3 HOL3 HUN
    cases bb with
    | true =>
     have hu:=HUN.out;rw [if_pos rfl] at hu;have HU2:=mk0 hu;clear hu;go_wp2_with (first|(go_at_call 15;(with_reducible refine (j2z.calls q _ _ HBB.out).mono ?_);rintro e3_ w3_ ⟨rfl,hd⟩;have HO4:=mk0 (HO3.out.drawn hd);clear hd))
     go_roundg gk
     case measure=>omega
     case rel=>exact ⟨i+1,last,out3,by go_num,rfl,HO4,⟨by omega,by omega,by omega,HOL3.out,HU2.out⟩⟩
    | false =>
     have hu:=HUN.out;rw [if_neg zq50] at hu;have HU2:=mk0 hu;clear hu;go_wp2_with (first|(go_at_call 15;(with_reducible refine (j2z.calls q _ _ HBB.out).mono ?_);rintro e3_ w3_ ⟨rfl,hd⟩;have HO4:=mk0 (HO3.out.drawn hd);clear hd))
     go_roundg gk
     case measure=>omega
     case rel=>exact ⟨i+1,(i:Int),out3,by go_num,rfl,HO4,⟨by omega,by omega,by omega,HOL3.out,HU2.out⟩⟩
def j2p.f (k : Nat) (a0:ByteArray):Option (ByteArray × Bool):=unF k a0
theorem j2p.mono : ∀ a0 k,LeO (j2p.f k a0) (j2p.f (k+1) a0):=unF_mono
theorem j2p.calls (k : Nat) (a0:ByteArray) (r1:ByteArray) (r2:Bool) (w:World) (h:j2p.f k a0=some (r1,r2)) :
 Calls Try.prog 5 #[.string a0] w fun e w'=>e = .returned (.tuple #[.string r1, .bool r2])∧Below w.heap.size w w':=unc_calls k a0 r1 r2 w h
def j2l.f (k : Nat) (a0:ByteArray):Option (ByteArray):=prF k a0
theorem j2l.mono : ∀ a0 k,LeO (j2l.f k a0) (j2l.f (k+1) a0):=prF_mono
theorem j2l.calls (k : Nat) (a0:ByteArray) (r:ByteArray) (w:World) (h:j2l.f k a0=some r) :
 Calls Try.prog 6 #[.string a0] w fun e w'=>e = .returned (.string r)∧Below w.heap.size w w':=prspecip_calls k a0 r w h
theorem eqA60 (d : Nat) (w:World) (x0 y0:Int) (x1 y1:Int) :
 (Op.equalIn (d+2) 60 (.agg #[.int .i64 x0, .int .i64 x1]) (.agg #[.int .i64 y0, .int .i64 y1])).run Try.prog w = .ok (x0 == y0 && (x1 == y1)) w:=by
 refine eqA_of Try.underlying60 zq23 ?_;refine eqf_cons (by rfl) (by go_simp;rfl) (by go_simp;rfl) (by go_simp) ?_;exact eqf_last (by rfl) (by go_simp;rfl) (by go_simp;rfl) (by go_simp)
end Go.Proofs.Ytchhndbekjgimaa.S
end
section
namespace Go.Proofs.Ytchhndbekjgimaa.S
open Go.RowKit Go.Proofs.YtchhndbekjgimaaW.PrintWords Go.Proofs.YtchhndbekjgimaaW.PrintLast Go.Proofs.YtchhndbekjgimaaW.PrintMore
attribute [local go_sem] max2_int min2_int max_two min_two max_three min_three max_four min_four
set_option linter.unusedVariables false
set_option linter.unusedSimpArgs false
attribute [local go_sem high] eqA60
mutual
def j1m.j0 : Nat → Bool→Int→Int→Int→List (S60)→List (S34)→Int→Int→Int→List (S60)→List (S34)→Option (Bool)
  | 0,_,_,_,_,_,_,_,_,_,_,_=>none
  | k+1,x43,x102000,x102001,x102002,x102003,x102004,x103000,x103001,x103002,x103003,x103004=>if x43=true then (some false) else (j1m.l0 k (x102003.length:Int) 0 x102000 x102001 x102002 x102003 x102004 x103000 x103001 x103002 x103003 x103004)
def j1m.l0 : Nat → Int→Int→Int→Int→Int→List (S60)→List (S34)→Int→Int→Int→List (S60)→List (S34)→Option (Bool)
  | 0,_,_,_,_,_,_,_,_,_,_,_,_=>none
  | k+1,x46,x47,x102000,x102001,x102002,x102003,x102004,x103000,x103001,x103002,x103003,x103004=>if x47<x46 then (if 0≤x47 then (if x47<(x102003.length:Int) then (if x47<(x103003.length:Int) then (if (!(((j2x x102003 x47).f0) == ((j2x x103003 x47).f0)) || (!(((j2x x102003 x47).f1) == ((j2x x103003 x47).f1))))=true then (some false) else (j1m.l0 k x46 (wrap64 (x47+1)) x102000 x102001 x102002 x102003 x102004 x103000 x103001 x103002 x103003 x103004)) else (none)) else (none)) else (none)) else (j1m.l1 k (x102004.length:Int) 0 x102000 x102001 x102002 x102003 x102004 x103000 x103001 x103002 x103003 x103004)
def j1m.l1 : Nat → Int→Int→Int→Int→Int→List (S60)→List (S34)→Int→Int→Int→List (S60)→List (S34)→Option (Bool)
  | 0,_,_,_,_,_,_,_,_,_,_,_,_=>none
  | k+1,x64,x65,x102000,x102001,x102002,x102003,x102004,x103000,x103001,x103002,x103003,x103004=>if x65<x64 then (if 0≤x65 then (if x65<(x102004.length:Int) then (if x65<(x103004.length:Int) then ((j1m.f k ((j2k x102004 x65).f0) ((j2k x102004 x65).f1) ((j2k x102004 x65).f2) ((j2k x102004 x65).f3) ((j2k x102004 x65).f4) ((j2k x103004 x65).f0) ((j2k x103004 x65).f1) ((j2k x103004 x65).f2) ((j2k x103004 x65).f3) ((j2k x103004 x65).f4)).bind fun t107=>(if t107=true then (j1m.l1 k x64 (wrap64 (x65+1)) x102000 x102001 x102002 x102003 x102004 x103000 x103001 x103002 x103003 x103004) else (some false))) else (none)) else (none)) else (none)) else (some true)
def j1m.f : Nat → Int→Int→Int→List (S60)→List (S34)→Int→Int→Int→List (S60)→List (S34)→Option (Bool)
  | 0,_,_,_,_,_,_,_,_,_,_=>none
  | k+1,a0_0,a0_1,a0_2,l0_3,l0_4,a1_0,a1_1,a1_2,l1_3,l1_4=>if a0_0=a1_0 then (if a0_1=a1_1 then (if a0_2=a1_2 then (if (l0_3.length:Int)=(l1_3.length:Int) then (j1m.j0 k ((l0_4.length:Int) != (l1_4.length:Int)) a0_0 a0_1 a0_2 l0_3 l0_4 a1_0 a1_1 a1_2 l1_3 l1_4) else (j1m.j0 k true a0_0 a0_1 a0_2 l0_3 l0_4 a1_0 a1_1 a1_2 l1_3 l1_4)) else (j1m.j0 k true a0_0 a0_1 a0_2 l0_3 l0_4 a1_0 a1_1 a1_2 l1_3 l1_4)) else (j1m.j0 k true a0_0 a0_1 a0_2 l0_3 l0_4 a1_0 a1_1 a1_2 l1_3 l1_4)) else (j1m.j0 k true a0_0 a0_1 a0_2 l0_3 l0_4 a1_0 a1_1 a1_2 l1_3 l1_4)
end
theorem j1m.mono_l : ∀ k,(∀ y0 y1 y2 y3 y4 y5 y6 y7 y8 y9,LeO (j1m.f k y0 y1 y2 y3 y4 y5 y6 y7 y8 y9) (j1m.f (k+1) y0 y1 y2 y3 y4 y5 y6 y7 y8 y9))∧(∀ y0 y1 y2 y3 y4 y5 y6 y7 y8 y9 y10,LeO (j1m.j0 k y0 y1 y2 y3 y4 y5 y6 y7 y8 y9 y10) (j1m.j0 (k+1) y0 y1 y2 y3 y4 y5 y6 y7 y8 y9 y10))∧(∀ y0 y1 y2 y3 y4 y5 y6 y7 y8 y9 y10 y11,LeO (j1m.l0 k y0 y1 y2 y3 y4 y5 y6 y7 y8 y9 y10 y11) (j1m.l0 (k+1) y0 y1 y2 y3 y4 y5 y6 y7 y8 y9 y10 y11))∧(∀ y0 y1 y2 y3 y4 y5 y6 y7 y8 y9 y10 y11,LeO (j1m.l1 k y0 y1 y2 y3 y4 y5 y6 y7 y8 y9 y10 y11) (j1m.l1 (k+1) y0 y1 y2 y3 y4 y5 y6 y7 y8 y9 y10 y11))
 | 0=>⟨fun _ _ _ _ _ _ _ _ _ _ r h=>by simp [j1m.f] at h,fun _ _ _ _ _ _ _ _ _ _ _ r h=>by simp [j1m.j0] at h,fun _ _ _ _ _ _ _ _ _ _ _ _ r h=>by simp [j1m.l0] at h,fun _ _ _ _ _ _ _ _ _ _ _ _ r h=>by simp [j1m.l1] at h⟩
 | k+1=>by
  obtain ⟨ih0,ih1,ih2,ih3⟩:=j1m.mono_l k;refine ⟨?_,?_,?_,?_⟩
  ·intro y0 y1 y2 y3 y4 y5 y6 y7 y8 y9;unfold j1m.f
   exact zm
  ·intro y0 y1 y2 y3 y4 y5 y6 y7 y8 y9 y10;unfold j1m.j0
   exact zm
  ·intro y0 y1 y2 y3 y4 y5 y6 y7 y8 y9 y10 y11;unfold j1m.l0
   exact zm
  ·intro y0 y1 y2 y3 y4 y5 y6 y7 y8 y9 y10 y11;unfold j1m.l1
   exact zm
theorem j1m.mono : ∀ a0 a1 a2 a3 a4 a5 a6 a7 a8 a9 k,LeO (j1m.f k a0 a1 a2 a3 a4 a5 a6 a7 a8 a9) (j1m.f (k+1) a0 a1 a2 a3 a4 a5 a6 a7 a8 a9):=by
 intro a0 a1 a2 a3 a4 a5 a6 a7 a8 a9 k;obtain ⟨ih0,ih1,ih2,ih3⟩:=j1m.mono_l k;exact ih0 a0 a1 a2 a3 a4 a5 a6 a7 a8 a9
def j1m.T6 : Bool × List (List Nat × List Nat):=(true,[([],[]),([0],[0]),([],[]),([1,2],[1,2]),([3],[3]),([],[]),([5],[5]),([],[]),([6,7],[6,7]),([8],[8]),([4,9],[4,9])])
def j1m.B6 : List Nat:=[0,1,0,7,15,0,32,0,224,480,1023]
theorem j1m.tab6 : rtab .any (opsOf Try.f18 6)=j1m.T6:=by kernel_rfl
theorem j1m.bits6 : waitsOk j1m.T6.2 j1m.B6=true:=by kernel_rfl
def j1m.T12 : Bool × List (List Nat × List Nat):=(true,[([],[]),([0],[0]),([],[]),([1,2],[1,2]),([3],[3]),([],[]),([5],[5]),([],[]),([6,7],[6,7]),([8],[8]),([4,9],[4,9]),([10],[10])])
def j1m.B12 : List Nat:=[0,1,0,7,15,0,32,0,224,480,1023,2047]
theorem j1m.tab12 : rtab .any (opsOf Try.f18 12)=j1m.T12:=by kernel_rfl
theorem j1m.bits12 : waitsOk j1m.T12.2 j1m.B12=true:=by kernel_rfl
set_option maxHeartbeats 8000000 in
set_option maxRecDepth 100000 in
theorem j1m.calls (k : Nat):∀ (a0_0:Int) (a0_1:Int) (a0_2:Int) (A0_3:Option Addr) (c0_3:Nat) (l0_3:List (S60)) (A0_4:Option Addr) (c0_4:Nat) (l0_4:List (S34)) (a1_0:Int) (a1_1:Int) (a1_2:Int) (A1_3:Option Addr) (c1_3:Nat) (l1_3:List (S60)) (A1_4:Option Addr) (c1_4:Nat) (l1_4:List (S34)) (r:Bool) (w:World) (hr0_3:Kd.C k60 w A0_3 l0_3.length l0_3) (hc0_3:l0_3.length≤c0_3) (hr0_4:Kd.C k34 w A0_4 l0_4.length l0_4) (hc0_4:l0_4.length≤c0_4) (hr1_3:Kd.C k60 w A1_3 l1_3.length l1_3) (hc1_3:l1_3.length≤c1_3) (hr1_4:Kd.C k34 w A1_4 l1_4.length l1_4) (hc1_4:l1_4.length≤c1_4) (h:j1m.f k a0_0 a0_1 a0_2 l0_3 l0_4 a1_0 a1_1 a1_2 l1_3 l1_4=some r),
 Calls Try.prog 18 #[.agg #[.int .i64 a0_0, .int .i64 a0_1, .int .i64 a0_2, .slice A0_3 l0_3.length c0_3, .slice A0_4 l0_4.length c0_4], .agg #[.int .i64 a1_0, .int .i64 a1_1, .int .i64 a1_2, .slice A1_3 l1_3.length c1_3, .slice A1_4 l1_4.length c1_4]] w fun e w'=>e = .returned (.bool r)∧Below w.heap.size w w':=by
 induction k using Nat.strongRecOn with
 | _ k ih =>
 intro a0_0 a0_1 a0_2 A0_3 c0_3 l0_3 A0_4 c0_4 l0_4 a1_0 a1_1 a1_2 A1_3 c1_3 l1_3 A1_4 c1_4 l1_4 r w hr0_3 hc0_3 hr0_4 hc0_4 hr1_3 hc1_3 hr1_4 hc1_4 h;cases k with
 | zero=>exact absurd h (by simp [j1m.f])
 | succ k =>
 simp only [j1m.f] at h
 have hu34:=Try.underlying34;have hu60:=Try.underlying60;have HR0_3:=mk0 hr0_3;have HC0_3:=mk0 hc0_3;clear hr0_3 hc0_3;have HR0_4:=mk0 hr0_4;have HC0_4:=mk0 hc0_4;clear hr0_4 hc0_4;have HR1_3:=mk0 hr1_3;have HC1_3:=mk0 hc1_3;clear hr1_3 hc1_3;have HR1_4:=mk0 hr1_4;have HC1_4:=mk0 hc1_4;clear hr1_4 hc1_4;have HB:=mk0 (Below.refl w.heap.size w);have H:(if a0_0=a1_0 then (if a0_1=a1_1 then (if a0_2=a1_2 then (if (l0_3.length:Int)=(l1_3.length:Int) then (j1m.j0 k ((l0_4.length:Int) != (l1_4.length:Int)) a0_0 a0_1 a0_2 l0_3 l0_4 a1_0 a1_1 a1_2 l1_3 l1_4) else (j1m.j0 k true a0_0 a0_1 a0_2 l0_3 l0_4 a1_0 a1_1 a1_2 l1_3 l1_4)) else (j1m.j0 k true a0_0 a0_1 a0_2 l0_3 l0_4 a1_0 a1_1 a1_2 l1_3 l1_4)) else (j1m.j0 k true a0_0 a0_1 a0_2 l0_3 l0_4 a1_0 a1_1 a1_2 l1_3 l1_4)) else (j1m.j0 k true a0_0 a0_1 a0_2 l0_3 l0_4 a1_0 a1_1 a1_2 l1_3 l1_4))=some r:=h;clear h;have HC3:=mk0 H;clear H;go_enter Try.func18,Try.ntmps18;go_upto_region 1 with (first|((with_reducible refine j2v (N:=2) rfl ?_);(try (refine gate_guard (by rfl) ?_;dsimp only));refine j2s ?hg (N:=2) ?hd (cs:=#[.int .i64 a0_0, .int .i64 a0_1, .int .i64 a0_2, .slice A0_3 l0_3.length c0_3, .slice A0_4 l0_4.length c0_4]) (t:=34) ?hr ?_;(case hd=>rfl);(case hg=>rfl);(case hr=>exact zq37);intro gb101 hg w4 hbox hb;have n0_:=mk0 (j2a zq7 hb);have n1_:=mk0 (hbox);have n2_:=mk0 ((zq77:w.heap.size≤gb101));have n3_:=mk0 ((zq77:w.heap.size≤gb101));clear HB;have HB:=n0_;have BK101:=n1_;have GW101:=n2_;have GE101:=n3_;clear n0_ n1_ n2_ n3_;clear hb hbox hg)|((with_reducible refine j2v (N:=3) rfl ?_);(try (refine gate_guard (by rfl) ?_;dsimp only));refine j2s ?hg (N:=3) ?hd (cs:=#[.int .i64 a1_0, .int .i64 a1_1, .int .i64 a1_2, .slice A1_3 l1_3.length c1_3, .slice A1_4 l1_4.length c1_4]) (t:=34) ?hr ?_;(case hd=>rfl);(case hg=>rfl);(case hr=>exact zq37);intro gb102 hg w5 hbox hb;have n0_:=mk0 (j2t (g:=gb101) (o := .cells #[.int .i64 a0_0, .int .i64 a0_1, .int .i64 a0_2, .slice A0_3 l0_3.length c0_3, .slice A0_4 l0_4.length c0_4] 34 (0,0)) zq17 hb);have n1_:=mk0 (j2a zq69 hb);have n2_:=mk0 (hbox);have n3_:=mk0 ((by rw [hg];exact (j2u zq69):w.heap.size≤gb102));have n4_:=mk0 ((by rw [hg];exact (j2u zq69):w.heap.size≤gb102));have n5_:=mk0 ((by rw [hg];exact Nat.ne_of_lt (j3m (g:=gb101) (o := .cells #[.int .i64 a0_0, .int .i64 a0_1, .int .i64 a0_2, .slice A0_3 l0_3.length c0_3, .slice A0_4 l0_4.length c0_4] 34 (0,0)) zq17):gb101≠gb102));have n6_:=mk0 ((by rw [hg];exact Nat.ne_of_gt (j3m (g:=gb101) (o := .cells #[.int .i64 a0_0, .int .i64 a0_1, .int .i64 a0_2, .slice A0_3 l0_3.length c0_3, .slice A0_4 l0_4.length c0_4] 34 (0,0)) zq17):gb102≠gb101));clear BK101 HB;have BK101:=n0_;have HB:=n1_;have BK102:=n2_;have GW102:=n3_;have GE102:=n4_;have NB101_102:=n5_;have NB102_101:=n6_;clear n0_ n1_ n2_ n3_ n4_ n5_ n6_;clear hb hbox hg))
 (try simp only [Act.put,List.setIfInBounds_toArray,List.set_cons_zero,List.set_cons_succ]);go_cut [43] (fun v43 wc=>∃ (kq:Nat) (x43_2:Bool),v43 = .bool x43_2∧Aside0 (j1m.j0 kq x43_2 a0_0 a0_1 a0_2 l0_3 l0_4 a1_0 a1_1 a1_2 l1_3 l1_4=some r)∧Aside0 (kq≤k)∧Aside0 (wc.heap[gb101]? = some (.cells #[.int .i64 a0_0, .int .i64 a0_1, .int .i64 a0_2,(.slice A0_3 l0_3.length c0_3),(.slice A0_4 l0_4.length c0_4)] 34 (0,0)))∧Aside0 (wc.heap[gb102]? = some (.cells #[.int .i64 a1_0, .int .i64 a1_1, .int .i64 a1_2,(.slice A1_3 l1_3.length c1_3),(.slice A1_4 l1_4.length c1_4)] 34 (0,0)))∧Aside0 (Below w.heap.size w wc))
 case first =>
  have H:=HC3.out;clear HC3;by_cases c6:a0_0=a1_0
  rotate_left
  ·rw [if_neg c6] at H;have c6b0:(a0_0 == a1_0)=false:=beq_eq_false_iff_ne.mpr c6;have c6b1:(a0_0 != a1_0)=true:=bne_iff_ne.mpr c6;(first|rw [c6b0]|(simp only [i64_w,i32_w];rw [c6b0])|skip);have H':=mk0 H;clear H;have hnb22:=NB101_102.out;have hnc22:=NB102_101.out;have hcz23_0:w5.cell? ⟨gb101,0,none⟩=some (.int .i64 a0_0):=(j1b BK101.out 0).trans rfl;have hcz23_1:w5.cell? ⟨gb101,1,none⟩=some (.int .i64 a0_1):=(j1b BK101.out 1).trans rfl;have hcz23_2:w5.cell? ⟨gb101,2,none⟩=some (.int .i64 a0_2):=(j1b BK101.out 2).trans rfl;have hcz23_3:w5.cell? ⟨gb101,3,none⟩=some (.slice A0_3 l0_3.length c0_3):=(j1b BK101.out 3).trans rfl;have hcz23_4:w5.cell? ⟨gb101,4,none⟩=some (.slice A0_4 l0_4.length c0_4):=(j1b BK101.out 4).trans rfl;have hfz23_0:=j1a BK101.out 0;have hfz23_1:=j1a BK101.out 1;have hfz23_2:=j1a BK101.out 2;have hfz23_3:=j1a BK101.out 3;have hfz23_4:=j1a BK101.out 4;have hcz24_0:w5.cell? ⟨gb102,0,none⟩=some (.int .i64 a1_0):=(j1b BK102.out 0).trans rfl;have hcz24_1:w5.cell? ⟨gb102,1,none⟩=some (.int .i64 a1_1):=(j1b BK102.out 1).trans rfl;have hcz24_2:w5.cell? ⟨gb102,2,none⟩=some (.int .i64 a1_2):=(j1b BK102.out 2).trans rfl;have hcz24_3:w5.cell? ⟨gb102,3,none⟩=some (.slice A1_3 l1_3.length c1_3):=(j1b BK102.out 3).trans rfl;have hcz24_4:w5.cell? ⟨gb102,4,none⟩=some (.slice A1_4 l1_4.length c1_4):=(j1b BK102.out 4).trans rfl;have hfz24_0:=j1a BK102.out 0;have hfz24_1:=j1a BK102.out 1;have hfz24_2:=j1a BK102.out 2;have hfz24_3:=j1a BK102.out 3;have hfz24_4:=j1a BK102.out 4;go_wp2;go_meet
   case rel=>exact ⟨_,(true),zq27,H',⟨by first|omega|exact Nat.le_refl _⟩,⟨by (with_reducible repeat (first|refine j1i ?_ _|refine j1j ?_|refine j1h ?_ _));exact BK101.out⟩,⟨by (with_reducible repeat (first|refine j1i ?_ _|refine j1j ?_|refine j1h ?_ _));exact BK102.out⟩,⟨by repeat (first|(with_reducible first|exact HB.out|apply j1s|apply j1q|apply j1t|refine j1u ?_ GE101.out|refine j1u ?_ GE102.out)|exact HB.out)⟩⟩
  rw [if_pos c6] at H;have c6b0:(a0_0 == a1_0)=true:=beq_iff_eq.mpr c6;have c6b1:(a0_0 != a1_0)=false:=bne_eq_false_iff_eq.mpr c6;clear c6;(first|rw [c6b0]|(simp only [i64_w,i32_w];rw [c6b0])|skip);by_cases c7:a0_1=a1_1
  rotate_left
  ·rw [if_neg c7] at H;have c7b0:(a0_1 == a1_1)=false:=beq_eq_false_iff_ne.mpr c7;have c7b1:(a0_1 != a1_1)=true:=bne_iff_ne.mpr c7;have H':=mk0 H;clear H;have hnb19:=NB101_102.out;have hnc19:=NB102_101.out;have hcz20_0:w5.cell? ⟨gb101,0,none⟩=some (.int .i64 a0_0):=(j1b BK101.out 0).trans rfl;have hcz20_1:w5.cell? ⟨gb101,1,none⟩=some (.int .i64 a0_1):=(j1b BK101.out 1).trans rfl;have hcz20_2:w5.cell? ⟨gb101,2,none⟩=some (.int .i64 a0_2):=(j1b BK101.out 2).trans rfl;have hcz20_3:w5.cell? ⟨gb101,3,none⟩=some (.slice A0_3 l0_3.length c0_3):=(j1b BK101.out 3).trans rfl;have hcz20_4:w5.cell? ⟨gb101,4,none⟩=some (.slice A0_4 l0_4.length c0_4):=(j1b BK101.out 4).trans rfl;have hfz20_0:=j1a BK101.out 0;have hfz20_1:=j1a BK101.out 1;have hfz20_2:=j1a BK101.out 2;have hfz20_3:=j1a BK101.out 3;have hfz20_4:=j1a BK101.out 4;have hcz21_0:w5.cell? ⟨gb102,0,none⟩=some (.int .i64 a1_0):=(j1b BK102.out 0).trans rfl;have hcz21_1:w5.cell? ⟨gb102,1,none⟩=some (.int .i64 a1_1):=(j1b BK102.out 1).trans rfl;have hcz21_2:w5.cell? ⟨gb102,2,none⟩=some (.int .i64 a1_2):=(j1b BK102.out 2).trans rfl;have hcz21_3:w5.cell? ⟨gb102,3,none⟩=some (.slice A1_3 l1_3.length c1_3):=(j1b BK102.out 3).trans rfl;have hcz21_4:w5.cell? ⟨gb102,4,none⟩=some (.slice A1_4 l1_4.length c1_4):=(j1b BK102.out 4).trans rfl;have hfz21_0:=j1a BK102.out 0;have hfz21_1:=j1a BK102.out 1;have hfz21_2:=j1a BK102.out 2;have hfz21_3:=j1a BK102.out 3;have hfz21_4:=j1a BK102.out 4;go_wp2;go_meet
   case rel=>exact ⟨_,(true),zq27,H',⟨by first|omega|exact Nat.le_refl _⟩,⟨by (with_reducible repeat (first|refine j1i ?_ _|refine j1j ?_|refine j1h ?_ _));exact BK101.out⟩,⟨by (with_reducible repeat (first|refine j1i ?_ _|refine j1j ?_|refine j1h ?_ _));exact BK102.out⟩,⟨by repeat (first|(with_reducible first|exact HB.out|apply j1s|apply j1q|apply j1t|refine j1u ?_ GE101.out|refine j1u ?_ GE102.out)|exact HB.out)⟩⟩
  rw [if_pos c7] at H;have c7b0:(a0_1 == a1_1)=true:=beq_iff_eq.mpr c7;have c7b1:(a0_1 != a1_1)=false:=bne_eq_false_iff_eq.mpr c7;clear c7;by_cases c8:a0_2=a1_2
  rotate_left
  ·rw [if_neg c8] at H;have c8b0:(a0_2 == a1_2)=false:=beq_eq_false_iff_ne.mpr c8;have c8b1:(a0_2 != a1_2)=true:=bne_iff_ne.mpr c8;have H':=mk0 H;clear H;have hnb16:=NB101_102.out;have hnc16:=NB102_101.out;have hcz17_0:w5.cell? ⟨gb101,0,none⟩=some (.int .i64 a0_0):=(j1b BK101.out 0).trans rfl;have hcz17_1:w5.cell? ⟨gb101,1,none⟩=some (.int .i64 a0_1):=(j1b BK101.out 1).trans rfl;have hcz17_2:w5.cell? ⟨gb101,2,none⟩=some (.int .i64 a0_2):=(j1b BK101.out 2).trans rfl;have hcz17_3:w5.cell? ⟨gb101,3,none⟩=some (.slice A0_3 l0_3.length c0_3):=(j1b BK101.out 3).trans rfl;have hcz17_4:w5.cell? ⟨gb101,4,none⟩=some (.slice A0_4 l0_4.length c0_4):=(j1b BK101.out 4).trans rfl;have hfz17_0:=j1a BK101.out 0;have hfz17_1:=j1a BK101.out 1;have hfz17_2:=j1a BK101.out 2;have hfz17_3:=j1a BK101.out 3;have hfz17_4:=j1a BK101.out 4;have hcz18_0:w5.cell? ⟨gb102,0,none⟩=some (.int .i64 a1_0):=(j1b BK102.out 0).trans rfl;have hcz18_1:w5.cell? ⟨gb102,1,none⟩=some (.int .i64 a1_1):=(j1b BK102.out 1).trans rfl;have hcz18_2:w5.cell? ⟨gb102,2,none⟩=some (.int .i64 a1_2):=(j1b BK102.out 2).trans rfl;have hcz18_3:w5.cell? ⟨gb102,3,none⟩=some (.slice A1_3 l1_3.length c1_3):=(j1b BK102.out 3).trans rfl;have hcz18_4:w5.cell? ⟨gb102,4,none⟩=some (.slice A1_4 l1_4.length c1_4):=(j1b BK102.out 4).trans rfl;have hfz18_0:=j1a BK102.out 0;have hfz18_1:=j1a BK102.out 1;have hfz18_2:=j1a BK102.out 2;have hfz18_3:=j1a BK102.out 3;have hfz18_4:=j1a BK102.out 4;go_wp2;go_meet
   case rel=>exact ⟨_,(true),zq27,H',⟨by first|omega|exact Nat.le_refl _⟩,⟨by (with_reducible repeat (first|refine j1i ?_ _|refine j1j ?_|refine j1h ?_ _));exact BK101.out⟩,⟨by (with_reducible repeat (first|refine j1i ?_ _|refine j1j ?_|refine j1h ?_ _));exact BK102.out⟩,⟨by repeat (first|(with_reducible first|exact HB.out|apply j1s|apply j1q|apply j1t|refine j1u ?_ GE101.out|refine j1u ?_ GE102.out)|exact HB.out)⟩⟩
  rw [if_pos c8] at H;have c8b0:(a0_2 == a1_2)=true:=beq_iff_eq.mpr c8;have c8b1:(a0_2 != a1_2)=false:=bne_eq_false_iff_eq.mpr c8;clear c8;by_cases c9:(l0_3.length:Int)=(l1_3.length:Int)
  rotate_left
  ·rw [if_neg c9] at H;have c9b0:((l0_3.length:Int) == (l1_3.length:Int))=false:=beq_eq_false_iff_ne.mpr c9;have c9b1:((l0_3.length:Int) != (l1_3.length:Int))=true:=bne_iff_ne.mpr c9;have c9b2:(l0_3.length == l1_3.length)=false:=by first|simpa using c9|(simp at c9 ⊢; omega)
   have H':=mk0 H;clear H;have hnb13:=NB101_102.out;have hnc13:=NB102_101.out;have hcz14_0:w5.cell? ⟨gb101,0,none⟩=some (.int .i64 a0_0):=(j1b BK101.out 0).trans rfl;have hcz14_1:w5.cell? ⟨gb101,1,none⟩=some (.int .i64 a0_1):=(j1b BK101.out 1).trans rfl;have hcz14_2:w5.cell? ⟨gb101,2,none⟩=some (.int .i64 a0_2):=(j1b BK101.out 2).trans rfl;have hcz14_3:w5.cell? ⟨gb101,3,none⟩=some (.slice A0_3 l0_3.length c0_3):=(j1b BK101.out 3).trans rfl;have hcz14_4:w5.cell? ⟨gb101,4,none⟩=some (.slice A0_4 l0_4.length c0_4):=(j1b BK101.out 4).trans rfl;have hfz14_0:=j1a BK101.out 0;have hfz14_1:=j1a BK101.out 1;have hfz14_2:=j1a BK101.out 2;have hfz14_3:=j1a BK101.out 3;have hfz14_4:=j1a BK101.out 4;have hcz15_0:w5.cell? ⟨gb102,0,none⟩=some (.int .i64 a1_0):=(j1b BK102.out 0).trans rfl;have hcz15_1:w5.cell? ⟨gb102,1,none⟩=some (.int .i64 a1_1):=(j1b BK102.out 1).trans rfl;have hcz15_2:w5.cell? ⟨gb102,2,none⟩=some (.int .i64 a1_2):=(j1b BK102.out 2).trans rfl;have hcz15_3:w5.cell? ⟨gb102,3,none⟩=some (.slice A1_3 l1_3.length c1_3):=(j1b BK102.out 3).trans rfl;have hcz15_4:w5.cell? ⟨gb102,4,none⟩=some (.slice A1_4 l1_4.length c1_4):=(j1b BK102.out 4).trans rfl;have hfz15_0:=j1a BK102.out 0;have hfz15_1:=j1a BK102.out 1;have hfz15_2:=j1a BK102.out 2;have hfz15_3:=j1a BK102.out 3;have hfz15_4:=j1a BK102.out 4;go_wp2;go_meet
   case rel=>exact ⟨_,(true),zq27,H',⟨by first|omega|exact Nat.le_refl _⟩,⟨by (with_reducible repeat (first|refine j1i ?_ _|refine j1j ?_|refine j1h ?_ _));exact BK101.out⟩,⟨by (with_reducible repeat (first|refine j1i ?_ _|refine j1j ?_|refine j1h ?_ _));exact BK102.out⟩,⟨by repeat (first|(with_reducible first|exact HB.out|apply j1s|apply j1q|apply j1t|refine j1u ?_ GE101.out|refine j1u ?_ GE102.out)|exact HB.out)⟩⟩
  rw [if_pos c9] at H;have c9b0:((l0_3.length:Int) == (l1_3.length:Int))=true:=beq_iff_eq.mpr c9;have c9b1:((l0_3.length:Int) != (l1_3.length:Int))=false:=bne_eq_false_iff_eq.mpr c9;have c9b2:(l0_3.length == l1_3.length)=true:=by first|simpa using c9|(simp at c9 ⊢; omega)
  clear c9;have H':=mk0 H;clear H;have hnb10:=NB101_102.out;have hnc10:=NB102_101.out;have hcz11_0:w5.cell? ⟨gb101,0,none⟩=some (.int .i64 a0_0):=(j1b BK101.out 0).trans rfl;have hcz11_1:w5.cell? ⟨gb101,1,none⟩=some (.int .i64 a0_1):=(j1b BK101.out 1).trans rfl;have hcz11_2:w5.cell? ⟨gb101,2,none⟩=some (.int .i64 a0_2):=(j1b BK101.out 2).trans rfl;have hcz11_3:w5.cell? ⟨gb101,3,none⟩=some (.slice A0_3 l0_3.length c0_3):=(j1b BK101.out 3).trans rfl;have hcz11_4:w5.cell? ⟨gb101,4,none⟩=some (.slice A0_4 l0_4.length c0_4):=(j1b BK101.out 4).trans rfl;have hfz11_0:=j1a BK101.out 0;have hfz11_1:=j1a BK101.out 1;have hfz11_2:=j1a BK101.out 2;have hfz11_3:=j1a BK101.out 3;have hfz11_4:=j1a BK101.out 4;have hcz12_0:w5.cell? ⟨gb102,0,none⟩=some (.int .i64 a1_0):=(j1b BK102.out 0).trans rfl;have hcz12_1:w5.cell? ⟨gb102,1,none⟩=some (.int .i64 a1_1):=(j1b BK102.out 1).trans rfl;have hcz12_2:w5.cell? ⟨gb102,2,none⟩=some (.int .i64 a1_2):=(j1b BK102.out 2).trans rfl;have hcz12_3:w5.cell? ⟨gb102,3,none⟩=some (.slice A1_3 l1_3.length c1_3):=(j1b BK102.out 3).trans rfl;have hcz12_4:w5.cell? ⟨gb102,4,none⟩=some (.slice A1_4 l1_4.length c1_4):=(j1b BK102.out 4).trans rfl;have hfz12_0:=j1a BK102.out 0;have hfz12_1:=j1a BK102.out 1;have hfz12_2:=j1a BK102.out 2;have hfz12_3:=j1a BK102.out 3;have hfz12_4:=j1a BK102.out 4;go_wp2;go_meet
  case rel=>exact ⟨_,(((l0_4.length:Int) != (l1_4.length:Int))),zq27,H',⟨by first|omega|exact Nat.le_refl _⟩,⟨by (with_reducible repeat (first|refine j1i ?_ _|refine j1j ?_|refine j1h ?_ _));exact BK101.out⟩,⟨by (with_reducible repeat (first|refine j1i ?_ _|refine j1j ?_|refine j1h ?_ _));exact BK102.out⟩,⟨by repeat (first|(with_reducible first|exact HB.out|apply j1s|apply j1q|apply j1t|refine j1u ?_ GE101.out|refine j1u ?_ GE102.out)|exact HB.out)⟩⟩
 case rest =>
  clear HC3
  try clear c1
  try clear c2
  try clear p2
  try clear c6
  try clear c6b0
  try clear c6b1
  try clear c7
  try clear c7b0
  try clear c7b1
  try clear c8
  try clear c8b0
  try clear c8b1
  try clear c9
  try clear c9b0
  try clear c9b1
  try clear c9b2
  try clear c10
  try clear c13
  try clear c16
  try clear c18
  try clear c19
  try clear c22
  try clear hcz11_0
  try clear hcz11_1
  try clear hcz11_2
  try clear hcz11_3
  try clear hcz11_4
  try clear hcz12_0
  try clear hcz12_1
  try clear hcz12_2
  try clear hcz12_3
  try clear hcz12_4
  try clear hcz14_0
  try clear hcz14_1
  try clear hcz14_2
  try clear hcz14_3
  try clear hcz14_4
  try clear hcz15_0
  try clear hcz15_1
  try clear hcz15_2
  try clear hcz15_3
  try clear hcz15_4
  try clear hcz17_0
  try clear hcz17_1
  try clear hcz17_2
  try clear hcz17_3
  try clear hcz17_4
  try clear hcz18_0
  try clear hcz18_1
  try clear hcz18_2
  try clear hcz18_3
  try clear hcz18_4
  try clear hcz20_0
  try clear hcz20_1
  try clear hcz20_2
  try clear hcz20_3
  try clear hcz20_4
  try clear hcz21_0
  try clear hcz21_1
  try clear hcz21_2
  try clear hcz21_3
  try clear hcz21_4
  try clear hcz23_0
  try clear hcz23_1
  try clear hcz23_2
  try clear hcz23_3
  try clear hcz23_4
  try clear hcz24_0
  try clear hcz24_1
  try clear hcz24_2
  try clear hcz24_3
  try clear hcz24_4
  try clear hfz11_0
  try clear hfz11_1
  try clear hfz11_2
  try clear hfz11_3
  try clear hfz11_4
  try clear hfz12_0
  try clear hfz12_1
  try clear hfz12_2
  try clear hfz12_3
  try clear hfz12_4
  try clear hfz14_0
  try clear hfz14_1
  try clear hfz14_2
  try clear hfz14_3
  try clear hfz14_4
  try clear hfz15_0
  try clear hfz15_1
  try clear hfz15_2
  try clear hfz15_3
  try clear hfz15_4
  try clear hfz17_0
  try clear hfz17_1
  try clear hfz17_2
  try clear hfz17_3
  try clear hfz17_4
  try clear hfz18_0
  try clear hfz18_1
  try clear hfz18_2
  try clear hfz18_3
  try clear hfz18_4
  try clear hfz20_0
  try clear hfz20_1
  try clear hfz20_2
  try clear hfz20_3
  try clear hfz20_4
  try clear hfz21_0
  try clear hfz21_1
  try clear hfz21_2
  try clear hfz21_3
  try clear hfz21_4
  try clear hfz23_0
  try clear hfz23_1
  try clear hfz23_2
  try clear hfz23_3
  try clear hfz23_4
  try clear hfz24_0
  try clear hfz24_1
  try clear hfz24_2
  try clear hfz24_3
  try clear hfz24_4
  obtain ⟨kq,x43_2,rfl,HA,HJ2,BK101,BK102,HB⟩:=hcut;cases kq with
  | zero=>exact absurd HA.out (by simp [j1m.j0])
  | succ kj2 =>
   have H:=HA.out;clear HA;simp only [j1m.j0] at H;by_cases c25:x43_2=true
   ·subst c25;have H1:(some false)=some r:=by rw [if_pos rfl] at H;exact H
    clear H;have H:=H1;clear H1;obtain rfl:=Option.some.inj H;go_wp2;go_ret;exact zl7
   replace c25:=Bool.eq_false_iff.mpr c25;subst c25;have H1:(j1m.l0 kj2 (l0_3.length:Int) 0 a0_0 a0_1 a0_2 l0_3 l0_4 a1_0 a1_1 a1_2 l1_3 l1_4)=some r:=by rw [if_neg (show ¬ (false=true) by decide)] at H;exact H
   clear H;have H:=H1;clear H1;have H':=mk0 H;clear H;have hnb26:=NB101_102.out;have hnc26:=NB102_101.out;have hcz27_0:wc.cell? ⟨gb101,0,none⟩=some (.int .i64 a0_0):=(j1b BK101.out 0).trans rfl;have hcz27_1:wc.cell? ⟨gb101,1,none⟩=some (.int .i64 a0_1):=(j1b BK101.out 1).trans rfl;have hcz27_2:wc.cell? ⟨gb101,2,none⟩=some (.int .i64 a0_2):=(j1b BK101.out 2).trans rfl;have hcz27_3:wc.cell? ⟨gb101,3,none⟩=some (.slice A0_3 l0_3.length c0_3):=(j1b BK101.out 3).trans rfl;have hcz27_4:wc.cell? ⟨gb101,4,none⟩=some (.slice A0_4 l0_4.length c0_4):=(j1b BK101.out 4).trans rfl;have hfz27_0:=j1a BK101.out 0;have hfz27_1:=j1a BK101.out 1;have hfz27_2:=j1a BK101.out 2;have hfz27_3:=j1a BK101.out 3;have hfz27_4:=j1a BK101.out 4;go_wp2;go_loopg [47] kj2 (fun kq v47 w'=>∃ (x47_2:Int),v47 = .int .i64 x47_2∧Aside0 (j1m.l0 kq (l0_3.length:Int) x47_2 a0_0 a0_1 a0_2 l0_3 l0_4 a1_0 a1_1 a1_2 l1_3 l1_4=some r)∧Aside0 (kq≤kj2)∧Aside0 (w'.heap[gb101]? = some (.cells #[.int .i64 a0_0, .int .i64 a0_1, .int .i64 a0_2,(.slice A0_3 l0_3.length c0_3),(.slice A0_4 l0_4.length c0_4)] 34 (0,0)))∧Aside0 (w'.heap[gb102]? = some (.cells #[.int .i64 a1_0, .int .i64 a1_1, .int .i64 a1_2,(.slice A1_3 l1_3.length c1_3),(.slice A1_4 l1_4.length c1_4)] 34 (0,0)))∧Aside0 (Below w.heap.size w w'))
   case atStart=>exact ⟨(0),zq27,H',⟨Nat.le_refl _⟩,⟨by (with_reducible repeat (first|refine j1i ?_ _|refine j1j ?_|refine j1h ?_ _));exact BK101.out⟩,⟨by (with_reducible repeat (first|refine j1i ?_ _|refine j1j ?_|refine j1h ?_ _));exact BK102.out⟩,⟨by repeat (first|(with_reducible first|exact HB.out|apply j1s|apply j1q|apply j1t|refine j1u ?_ GE101.out|refine j1u ?_ GE102.out)|exact HB.out)⟩⟩
   case round =>
    clear H'
    try clear c1
    try clear c2
    try clear p2
    try clear c6
    try clear c6b0
    try clear c6b1
    try clear c7
    try clear c7b0
    try clear c7b1
    try clear c8
    try clear c8b0
    try clear c8b1
    try clear c9
    try clear c9b0
    try clear c9b1
    try clear c9b2
    try clear c10
    try clear c13
    try clear c16
    try clear c18
    try clear c19
    try clear c22
    try clear c25
    try clear c26
    try clear hcz11_0
    try clear hcz11_1
    try clear hcz11_2
    try clear hcz11_3
    try clear hcz11_4
    try clear hcz12_0
    try clear hcz12_1
    try clear hcz12_2
    try clear hcz12_3
    try clear hcz12_4
    try clear hcz14_0
    try clear hcz14_1
    try clear hcz14_2
    try clear hcz14_3
    try clear hcz14_4
    try clear hcz15_0
    try clear hcz15_1
    try clear hcz15_2
    try clear hcz15_3
    try clear hcz15_4
    try clear hcz17_0
    try clear hcz17_1
    try clear hcz17_2
    try clear hcz17_3
    try clear hcz17_4
    try clear hcz18_0
    try clear hcz18_1
    try clear hcz18_2
    try clear hcz18_3
    try clear hcz18_4
    try clear hcz20_0
    try clear hcz20_1
    try clear hcz20_2
    try clear hcz20_3
    try clear hcz20_4
    try clear hcz21_0
    try clear hcz21_1
    try clear hcz21_2
    try clear hcz21_3
    try clear hcz21_4
    try clear hcz23_0
    try clear hcz23_1
    try clear hcz23_2
    try clear hcz23_3
    try clear hcz23_4
    try clear hcz24_0
    try clear hcz24_1
    try clear hcz24_2
    try clear hcz24_3
    try clear hcz24_4
    try clear hcz27_0
    try clear hcz27_1
    try clear hcz27_2
    try clear hcz27_3
    try clear hcz27_4
    try clear hfz11_0
    try clear hfz11_1
    try clear hfz11_2
    try clear hfz11_3
    try clear hfz11_4
    try clear hfz12_0
    try clear hfz12_1
    try clear hfz12_2
    try clear hfz12_3
    try clear hfz12_4
    try clear hfz14_0
    try clear hfz14_1
    try clear hfz14_2
    try clear hfz14_3
    try clear hfz14_4
    try clear hfz15_0
    try clear hfz15_1
    try clear hfz15_2
    try clear hfz15_3
    try clear hfz15_4
    try clear hfz17_0
    try clear hfz17_1
    try clear hfz17_2
    try clear hfz17_3
    try clear hfz17_4
    try clear hfz18_0
    try clear hfz18_1
    try clear hfz18_2
    try clear hfz18_3
    try clear hfz18_4
    try clear hfz20_0
    try clear hfz20_1
    try clear hfz20_2
    try clear hfz20_3
    try clear hfz20_4
    try clear hfz21_0
    try clear hfz21_1
    try clear hfz21_2
    try clear hfz21_3
    try clear hfz21_4
    try clear hfz23_0
    try clear hfz23_1
    try clear hfz23_2
    try clear hfz23_3
    try clear hfz23_4
    try clear hfz24_0
    try clear hfz24_1
    try clear hfz24_2
    try clear hfz24_3
    try clear hfz24_4
    try clear hfz27_0
    try clear hfz27_1
    try clear hfz27_2
    try clear hfz27_3
    try clear hfz27_4
    try clear p2
    obtain ⟨x47_2,rfl,HA,HK2,BK101,BK102,HB⟩:=hrel;cases gk with
    | zero=>exact absurd HA.out (by simp [j1m.l0])
    | succ k2 =>
     have H:=HA.out;clear HA;simp only [j1m.l0] at H;by_cases c28:x47_2<(l0_3.length:Int)
     ·rw [if_pos c28] at H;have c28b0:decide (x47_2<(l0_3.length:Int))=true:=decide_eq_true c28;clear c28;by_cases c29:0≤x47_2
      rotate_left
      ·rw [if_neg c29] at H;exact absurd H (by simp)
      rw [if_pos c29] at H;have c29b0:decide (0≤x47_2)=true:=decide_eq_true c29;clear c29;by_cases c30:x47_2<(l0_3.length:Int)
      rotate_left
      ·rw [if_neg c30] at H;exact absurd H (by simp)
      rw [if_pos c30] at H;have c30b0:decide (x47_2<(l0_3.length:Int))=true:=decide_eq_true c30;clear c30;by_cases c31:x47_2<(l1_3.length:Int)
      rotate_left
      ·rw [if_neg c31] at H;exact absurd H (by simp)
      rw [if_pos c31] at H;have c31b0:decide (x47_2<(l1_3.length:Int))=true:=decide_eq_true c31;clear c31;by_cases c32:(!(((j2x l0_3 x47_2).f0) == ((j2x l1_3 x47_2).f0)) || (!(((j2x l0_3 x47_2).f1) == ((j2x l1_3 x47_2).f1))))=true
      ·rw [if_pos c32] at H;have c32b0:(!(((j2x l0_3 x47_2).f0) == ((j2x l1_3 x47_2).f0)) || (!(((j2x l0_3 x47_2).f1) == ((j2x l1_3 x47_2).f1))))=true:=c32;clear c32;obtain rfl:=Option.some.inj H
       try go_wp2
       have n0_:=mk0 (j1j BK101.out);have n1_:=mk0 (j1j BK102.out);have n2_:=mk0 (j1t HB.out);clear BK101;clear BK102;clear HB;have BK101:=n0_;have BK102:=n1_;have HB:=n2_;clear n0_ n1_ n2_;have p103:0≤(x47_2:Int):=of_decide_eq_true zq12;have q103:x47_2<(l0_3.length:Int):=of_decide_eq_true zq12;obtain ⟨ad103,e103,hx103_0,hx103_1⟩:=at_T60 HR0_3.out x47_2 p103 q103;have hw103_1:=hx103_1;have hw103_0:=hx103_0;cases e103;replace hx103_0:=(HB.out.cell (World.block_lt_of_cell? w _ hx103_0)).trans hx103_0;replace hx103_1:=(HB.out.cell (World.block_lt_of_cell? w _ hx103_1)).trans hx103_1;replace p103:=eq_true p103;replace q103:=eq_true q103;have p104:0≤(x47_2:Int):=of_decide_eq_true zq12;have q104:x47_2<(l1_3.length:Int):=of_decide_eq_true zq12;obtain ⟨ad104,e104,hx104_0,hx104_1⟩:=at_T60 HR1_3.out x47_2 p104 q104;have hw104_1:=hx104_1;have hw104_0:=hx104_0;cases e104;replace hx104_0:=(HB.out.cell (World.block_lt_of_cell? w _ hx104_0)).trans hx104_0;replace hx104_1:=(HB.out.cell (World.block_lt_of_cell? w _ hx104_1)).trans hx104_1;replace p104:=eq_true p104;replace q104:=eq_true q104;refine start_ (n:=11) (S:=fun w'=>w'.cell? ⟨gb101,0,none⟩=some (.int .i64 a0_0)∧w'.cell? ⟨gb101,1,none⟩=some (.int .i64 a0_1)∧w'.cell? ⟨gb101,2,none⟩=some (.int .i64 a0_2)∧w'.cell? ⟨gb101,3,none⟩=some (.slice (some ad103) l0_3.length c0_3)∧w'.cell? ⟨gb101,4,none⟩=some (.slice A0_4 l0_4.length c0_4)∧w'.cell? ⟨gb102,0,none⟩=some (.int .i64 a1_0)∧w'.cell? ⟨gb102,1,none⟩=some (.int .i64 a1_1)∧w'.cell? ⟨gb102,2,none⟩=some (.int .i64 a1_2)∧w'.cell? ⟨gb102,3,none⟩=some (.slice (some ad104) l1_3.length c1_3)∧w'.cell? ⟨gb102,4,none⟩=some (.slice A1_4 l1_4.length c1_4)∧w'.cell? (ad103.add ((x47_2).toNat*2))=some (.int .i64 ((j2x l0_3 x47_2).f0))∧w'.cell? ⟨(ad103.add ((x47_2).toNat*2)).block,(ad103.add ((x47_2).toNat*2)).off+1,none⟩=some (.int .i64 ((j2x l0_3 x47_2).f1))∧w'.cell? (ad104.add ((x47_2).toNat*2))=some (.int .i64 ((j2x l1_3 x47_2).f0))∧w'.cell? ⟨(ad104.add ((x47_2).toNat*2)).block,(ad104.add ((x47_2).toNat*2)).off+1,none⟩=some (.int .i64 ((j2x l1_3 x47_2).f1))) (ds:=[]) #[false,false,false,false,false,false,false,false,false,false,false] zq23 rfl rfl ⟨(j1b BK101.out 0).trans rfl,(j1b BK101.out 1).trans rfl,(j1b BK101.out 2).trans rfl,(j1b BK101.out 3).trans rfl,(j1b BK101.out 4).trans rfl,(j1b BK102.out 0).trans rfl,(j1b BK102.out 1).trans rfl,(j1b BK102.out 2).trans rfl,(j1b BK102.out 3).trans rfl,(j1b BK102.out 4).trans rfl,((HB.out.cell (World.block_lt_of_cell? w _ hw103_0)).trans hw103_0),((HB.out.cell (World.block_lt_of_cell? w _ hw103_1)).trans hw103_1),((HB.out.cell (World.block_lt_of_cell? w _ hw104_0)).trans hw104_0),((HB.out.cell (World.block_lt_of_cell? w _ hw104_1)).trans hw104_1)⟩ (fun hHeld=>?_);refine j3l j1m.tab6 j1m.bits6 (fun HT_ HW_=>?_)
       generalize wr.drew=w33 at BK101 BK102 HB hx103_0 hx103_1 hx104_0 hx104_1 hHeld ⊢
       refine pure_ (i:=0) (N:=some 50) (v:=?_) (a':=?_) #[true,false,false,false,false,false,false,false,false,false,false] rfl rfl (j2e HT_.out zq23) (fun _ _ _ h=>h) (Or.inl ⟨by rfl,?_⟩) ?_ ?_;rotate_left
       ·exact zl3
       rotate_left
       ·exact zl0
       refine pure_ (i:=2) (N:=some 52) (v:=?_) (a':=?_) #[true,false,true,false,false,false,false,false,false,false,false] rfl rfl (j2e HT_.out zq23) (fun _ _ _ h=>h) (Or.inl ⟨by rfl,?_⟩) ?_ ?_;rotate_left
       ·exact zl3
       rotate_left
       ·exact zl0
       refine pure_ (i:=5) (N:=some 55) (v:=?_) (a':=?_) #[true,false,true,false,false,true,false,false,false,false,false] rfl rfl (j2e HT_.out zq23) (fun _ _ _ h=>h) (Or.inl ⟨by rfl,?_⟩) ?_ ?_;rotate_left
       ·exact zl3
       rotate_left
       ·exact zl0
       refine pure_ (i:=7) (N:=some 57) (v:=?_) (a':=?_) #[true,false,true,false,false,true,false,true,false,false,false] rfl rfl (j2e HT_.out zq23) (fun _ _ _ h=>h) (Or.inl ⟨by rfl,?_⟩) ?_ ?_;rotate_left
       ·exact zl3
       rotate_left
       ·exact zl0
       refine take_ (i:=1) (N:=some 51) (v:=?_) (a':=?_) #[true,true,true,false,false,true,false,true,false,false,false] rfl rfl (j2w HT_.out HW_.out zq23) (fun _ _ _ h=>h) (Or.inl ⟨by rfl,?_⟩) hHeld ?_ ?_;rotate_left
       ·exact zl12
       rotate_left
       ·exact zl0
       refine pure_ (i:=3) (N:=some 53) (v:=?_) (a':=?_) #[true,true,true,true,false,true,false,true,false,false,false] rfl rfl (j2e HT_.out zq23) (fun _ _ _ h=>h) (Or.inl ⟨by rfl,?_⟩) ?_ ?_;rotate_left
       ·exact zl3
       rotate_left
       ·exact zl0
       refine take_ (i:=4) (N:=some 54) (v:=?_) (a':=?_) #[true,true,true,true,true,true,false,true,false,false,false] rfl rfl (j2w HT_.out HW_.out zq23) (fun _ _ _ h=>h) (Or.inl ⟨by rfl,?_⟩) hHeld ?_ ?_;rotate_left
       ·exact zl12
       rotate_left
       ·exact zl0
       refine take_ (i:=6) (N:=some 56) (v:=?_) (a':=?_) #[true,true,true,true,true,true,true,true,false,false,false] rfl rfl (j2w HT_.out HW_.out zq23) (fun _ _ _ h=>h) (Or.inl ⟨by rfl,?_⟩) hHeld ?_ ?_;rotate_left
       ·exact zl12
       rotate_left
       ·exact zl0
       refine pure_ (i:=8) (N:=some 58) (v:=?_) (a':=?_) #[true,true,true,true,true,true,true,true,true,false,false] rfl rfl (j2e HT_.out zq23) (fun _ _ _ h=>h) (Or.inl ⟨by rfl,?_⟩) ?_ ?_;rotate_left
       ·exact zl3
       rotate_left
       ·exact zl0
       refine take_ (i:=9) (N:=some 59) (v:=?_) (a':=?_) #[true,true,true,true,true,true,true,true,true,true,false] rfl rfl (j2w HT_.out HW_.out zq23) (fun _ _ _ h=>h) (Or.inl ⟨by rfl,?_⟩) hHeld ?_ ?_;rotate_left
       ·exact zl12
       rotate_left
       ·exact zl0
       refine pure_ (i:=10) (N:=some 60) (v:=?_) (a':=?_) #[true,true,true,true,true,true,true,true,true,true,true] rfl rfl (j2e HT_.out zq23) (fun _ _ _ h=>h) (Or.inl ⟨by rfl,?_⟩) ?_ ?_;rotate_left
       ·exact zl3
       rotate_left
       ·exact zl0
       refine done_ (done_of HT_.out zq23) ?_
       try go_wp2
       go_ret;exact zl7
      rw [if_neg c32] at H;have c32b0:(!(((j2x l0_3 x47_2).f0) == ((j2x l1_3 x47_2).f0)) || (!(((j2x l0_3 x47_2).f1) == ((j2x l1_3 x47_2).f1))))=false:=by simpa using c32
      clear c32;have H':=mk0 H;clear H
      try go_wp2
      have n0_:=mk0 (j1j BK101.out);have n1_:=mk0 (j1j BK102.out);have n2_:=mk0 (j1t HB.out);clear BK101;clear BK102;clear HB;have BK101:=n0_;have BK102:=n1_;have HB:=n2_;clear n0_ n1_ n2_;have p103:0≤(x47_2:Int):=of_decide_eq_true zq12;have q103:x47_2<(l0_3.length:Int):=of_decide_eq_true zq12;obtain ⟨ad103,e103,hx103_0,hx103_1⟩:=at_T60 HR0_3.out x47_2 p103 q103;have hw103_1:=hx103_1;have hw103_0:=hx103_0;cases e103;replace hx103_0:=(HB.out.cell (World.block_lt_of_cell? w _ hx103_0)).trans hx103_0;replace hx103_1:=(HB.out.cell (World.block_lt_of_cell? w _ hx103_1)).trans hx103_1;replace p103:=eq_true p103;replace q103:=eq_true q103;have p104:0≤(x47_2:Int):=of_decide_eq_true zq12;have q104:x47_2<(l1_3.length:Int):=of_decide_eq_true zq12;obtain ⟨ad104,e104,hx104_0,hx104_1⟩:=at_T60 HR1_3.out x47_2 p104 q104;have hw104_1:=hx104_1;have hw104_0:=hx104_0;cases e104;replace hx104_0:=(HB.out.cell (World.block_lt_of_cell? w _ hx104_0)).trans hx104_0;replace hx104_1:=(HB.out.cell (World.block_lt_of_cell? w _ hx104_1)).trans hx104_1;replace p104:=eq_true p104;replace q104:=eq_true q104;refine start_ (n:=11) (S:=fun w'=>w'.cell? ⟨gb101,0,none⟩=some (.int .i64 a0_0)∧w'.cell? ⟨gb101,1,none⟩=some (.int .i64 a0_1)∧w'.cell? ⟨gb101,2,none⟩=some (.int .i64 a0_2)∧w'.cell? ⟨gb101,3,none⟩=some (.slice (some ad103) l0_3.length c0_3)∧w'.cell? ⟨gb101,4,none⟩=some (.slice A0_4 l0_4.length c0_4)∧w'.cell? ⟨gb102,0,none⟩=some (.int .i64 a1_0)∧w'.cell? ⟨gb102,1,none⟩=some (.int .i64 a1_1)∧w'.cell? ⟨gb102,2,none⟩=some (.int .i64 a1_2)∧w'.cell? ⟨gb102,3,none⟩=some (.slice (some ad104) l1_3.length c1_3)∧w'.cell? ⟨gb102,4,none⟩=some (.slice A1_4 l1_4.length c1_4)∧w'.cell? (ad103.add ((x47_2).toNat*2))=some (.int .i64 ((j2x l0_3 x47_2).f0))∧w'.cell? ⟨(ad103.add ((x47_2).toNat*2)).block,(ad103.add ((x47_2).toNat*2)).off+1,none⟩=some (.int .i64 ((j2x l0_3 x47_2).f1))∧w'.cell? (ad104.add ((x47_2).toNat*2))=some (.int .i64 ((j2x l1_3 x47_2).f0))∧w'.cell? ⟨(ad104.add ((x47_2).toNat*2)).block,(ad104.add ((x47_2).toNat*2)).off+1,none⟩=some (.int .i64 ((j2x l1_3 x47_2).f1))) (ds:=[]) #[false,false,false,false,false,false,false,false,false,false,false] zq23 rfl rfl ⟨(j1b BK101.out 0).trans rfl,(j1b BK101.out 1).trans rfl,(j1b BK101.out 2).trans rfl,(j1b BK101.out 3).trans rfl,(j1b BK101.out 4).trans rfl,(j1b BK102.out 0).trans rfl,(j1b BK102.out 1).trans rfl,(j1b BK102.out 2).trans rfl,(j1b BK102.out 3).trans rfl,(j1b BK102.out 4).trans rfl,((HB.out.cell (World.block_lt_of_cell? w _ hw103_0)).trans hw103_0),((HB.out.cell (World.block_lt_of_cell? w _ hw103_1)).trans hw103_1),((HB.out.cell (World.block_lt_of_cell? w _ hw104_0)).trans hw104_0),((HB.out.cell (World.block_lt_of_cell? w _ hw104_1)).trans hw104_1)⟩ (fun hHeld=>?_);refine j3l j1m.tab6 j1m.bits6 (fun HT_ HW_=>?_)
      generalize wr.drew=w34 at BK101 BK102 HB hx103_0 hx103_1 hx104_0 hx104_1 hHeld ⊢
      refine pure_ (i:=0) (N:=some 50) (v:=?_) (a':=?_) #[true,false,false,false,false,false,false,false,false,false,false] rfl rfl (j2e HT_.out zq23) (fun _ _ _ h=>h) (Or.inl ⟨by rfl,?_⟩) ?_ ?_;rotate_left
      ·exact zl3
      rotate_left
      ·exact zl0
      refine pure_ (i:=2) (N:=some 52) (v:=?_) (a':=?_) #[true,false,true,false,false,false,false,false,false,false,false] rfl rfl (j2e HT_.out zq23) (fun _ _ _ h=>h) (Or.inl ⟨by rfl,?_⟩) ?_ ?_;rotate_left
      ·exact zl3
      rotate_left
      ·exact zl0
      refine pure_ (i:=5) (N:=some 55) (v:=?_) (a':=?_) #[true,false,true,false,false,true,false,false,false,false,false] rfl rfl (j2e HT_.out zq23) (fun _ _ _ h=>h) (Or.inl ⟨by rfl,?_⟩) ?_ ?_;rotate_left
      ·exact zl3
      rotate_left
      ·exact zl0
      refine pure_ (i:=7) (N:=some 57) (v:=?_) (a':=?_) #[true,false,true,false,false,true,false,true,false,false,false] rfl rfl (j2e HT_.out zq23) (fun _ _ _ h=>h) (Or.inl ⟨by rfl,?_⟩) ?_ ?_;rotate_left
      ·exact zl3
      rotate_left
      ·exact zl0
      refine take_ (i:=1) (N:=some 51) (v:=?_) (a':=?_) #[true,true,true,false,false,true,false,true,false,false,false] rfl rfl (j2w HT_.out HW_.out zq23) (fun _ _ _ h=>h) (Or.inl ⟨by rfl,?_⟩) hHeld ?_ ?_;rotate_left
      ·exact zl12
      rotate_left
      ·exact zl0
      refine pure_ (i:=3) (N:=some 53) (v:=?_) (a':=?_) #[true,true,true,true,false,true,false,true,false,false,false] rfl rfl (j2e HT_.out zq23) (fun _ _ _ h=>h) (Or.inl ⟨by rfl,?_⟩) ?_ ?_;rotate_left
      ·exact zl3
      rotate_left
      ·exact zl0
      refine take_ (i:=4) (N:=some 54) (v:=?_) (a':=?_) #[true,true,true,true,true,true,false,true,false,false,false] rfl rfl (j2w HT_.out HW_.out zq23) (fun _ _ _ h=>h) (Or.inl ⟨by rfl,?_⟩) hHeld ?_ ?_;rotate_left
      ·exact zl12
      rotate_left
      ·exact zl0
      refine take_ (i:=6) (N:=some 56) (v:=?_) (a':=?_) #[true,true,true,true,true,true,true,true,false,false,false] rfl rfl (j2w HT_.out HW_.out zq23) (fun _ _ _ h=>h) (Or.inl ⟨by rfl,?_⟩) hHeld ?_ ?_;rotate_left
      ·exact zl12
      rotate_left
      ·exact zl0
      refine pure_ (i:=8) (N:=some 58) (v:=?_) (a':=?_) #[true,true,true,true,true,true,true,true,true,false,false] rfl rfl (j2e HT_.out zq23) (fun _ _ _ h=>h) (Or.inl ⟨by rfl,?_⟩) ?_ ?_;rotate_left
      ·exact zl3
      rotate_left
      ·exact zl0
      refine take_ (i:=9) (N:=some 59) (v:=?_) (a':=?_) #[true,true,true,true,true,true,true,true,true,true,false] rfl rfl (j2w HT_.out HW_.out zq23) (fun _ _ _ h=>h) (Or.inl ⟨by rfl,?_⟩) hHeld ?_ ?_;rotate_left
      ·exact zl12
      rotate_left
      ·exact zl0
      refine pure_ (i:=10) (N:=some 60) (v:=?_) (a':=?_) #[true,true,true,true,true,true,true,true,true,true,true] rfl rfl (j2e HT_.out zq23) (fun _ _ _ h=>h) (Or.inl ⟨by rfl,?_⟩) ?_ ?_;rotate_left
      ·exact zl3
      rotate_left
      ·exact zl0
      refine done_ (done_of HT_.out zq23) ?_
      try go_wp2
      go_roundg k2
      case measure=>have:=HJ2.out;have:=HK2.out;omega
      case rel=>exact ⟨(wrap64 (x47_2+1)),zq27,H',⟨by have:=HJ2.out;have:=HK2.out;omega⟩,⟨by (with_reducible repeat (first|refine j1i ?_ _|refine j1j ?_|refine j1h ?_ _));exact BK101.out⟩,⟨by (with_reducible repeat (first|refine j1i ?_ _|refine j1j ?_|refine j1h ?_ _));exact BK102.out⟩,⟨by repeat (first|(with_reducible first|exact HB.out|apply j1s|apply j1q|apply j1t|refine j1u ?_ GE101.out|refine j1u ?_ GE102.out)|exact HB.out)⟩⟩
     rw [if_neg c28] at H;have c28b0:decide (x47_2<(l0_3.length:Int))=false:=decide_eq_false c28;clear c28;have H':=mk0 H;clear H;have hnb35:=NB101_102.out;have hnc35:=NB102_101.out;have hcz36_0:wr.cell? ⟨gb101,0,none⟩=some (.int .i64 a0_0):=(j1b BK101.out 0).trans rfl;have hcz36_1:wr.cell? ⟨gb101,1,none⟩=some (.int .i64 a0_1):=(j1b BK101.out 1).trans rfl;have hcz36_2:wr.cell? ⟨gb101,2,none⟩=some (.int .i64 a0_2):=(j1b BK101.out 2).trans rfl;have hcz36_3:wr.cell? ⟨gb101,3,none⟩=some (.slice A0_3 l0_3.length c0_3):=(j1b BK101.out 3).trans rfl;have hcz36_4:wr.cell? ⟨gb101,4,none⟩=some (.slice A0_4 l0_4.length c0_4):=(j1b BK101.out 4).trans rfl;have hfz36_0:=j1a BK101.out 0;have hfz36_1:=j1a BK101.out 1;have hfz36_2:=j1a BK101.out 2;have hfz36_3:=j1a BK101.out 3;have hfz36_4:=j1a BK101.out 4;go_wp2;go_loopg [65] k2 (fun kq v65 w'=>∃ (x65_3:Int),v65 = .int .i64 x65_3∧Aside0 (j1m.l1 kq (l0_4.length:Int) x65_3 a0_0 a0_1 a0_2 l0_3 l0_4 a1_0 a1_1 a1_2 l1_3 l1_4=some r)∧Aside0 (kq≤k2)∧Aside0 (w'.heap[gb101]? = some (.cells #[.int .i64 a0_0, .int .i64 a0_1, .int .i64 a0_2,(.slice A0_3 l0_3.length c0_3),(.slice A0_4 l0_4.length c0_4)] 34 (0,0)))∧Aside0 (w'.heap[gb102]? = some (.cells #[.int .i64 a1_0, .int .i64 a1_1, .int .i64 a1_2,(.slice A1_3 l1_3.length c1_3),(.slice A1_4 l1_4.length c1_4)] 34 (0,0)))∧Aside0 (Below w.heap.size w w'))
     case atStart=>exact ⟨(0),zq27,H',⟨Nat.le_refl _⟩,⟨by (with_reducible repeat (first|refine j1i ?_ _|refine j1j ?_|refine j1h ?_ _));exact BK101.out⟩,⟨by (with_reducible repeat (first|refine j1i ?_ _|refine j1j ?_|refine j1h ?_ _));exact BK102.out⟩,⟨by repeat (first|(with_reducible first|exact HB.out|apply j1s|apply j1q|apply j1t|refine j1u ?_ GE101.out|refine j1u ?_ GE102.out)|exact HB.out)⟩⟩
     case round =>
      clear H'
      try clear c1
      try clear p1
      try clear q1
      try clear hx1
      try clear c2
      try clear p2
      try clear c3
      try clear c6
      try clear c6b0
      try clear c6b1
      try clear p6
      try clear c7
      try clear c7b0
      try clear c7b1
      try clear c8
      try clear c8b0
      try clear c8b1
      try clear c9
      try clear c9b0
      try clear c9b1
      try clear c9b2
      try clear c10
      try clear p10
      try clear q10
      try clear hx10
      try clear c13
      try clear c16
      try clear c18
      try clear c19
      try clear c22
      try clear c25
      try clear c26
      try clear c28
      try clear c28b0
      try clear c29
      try clear c29b0
      try clear c30
      try clear c30b0
      try clear c31
      try clear c31b0
      try clear c32
      try clear c32b0
      try clear c35
      try clear hcz11_0
      try clear hcz11_1
      try clear hcz11_2
      try clear hcz11_3
      try clear hcz11_4
      try clear hcz12_0
      try clear hcz12_1
      try clear hcz12_2
      try clear hcz12_3
      try clear hcz12_4
      try clear hcz14_0
      try clear hcz14_1
      try clear hcz14_2
      try clear hcz14_3
      try clear hcz14_4
      try clear hcz15_0
      try clear hcz15_1
      try clear hcz15_2
      try clear hcz15_3
      try clear hcz15_4
      try clear hcz17_0
      try clear hcz17_1
      try clear hcz17_2
      try clear hcz17_3
      try clear hcz17_4
      try clear hcz18_0
      try clear hcz18_1
      try clear hcz18_2
      try clear hcz18_3
      try clear hcz18_4
      try clear hcz20_0
      try clear hcz20_1
      try clear hcz20_2
      try clear hcz20_3
      try clear hcz20_4
      try clear hcz21_0
      try clear hcz21_1
      try clear hcz21_2
      try clear hcz21_3
      try clear hcz21_4
      try clear hcz23_0
      try clear hcz23_1
      try clear hcz23_2
      try clear hcz23_3
      try clear hcz23_4
      try clear hcz24_0
      try clear hcz24_1
      try clear hcz24_2
      try clear hcz24_3
      try clear hcz24_4
      try clear hcz27_0
      try clear hcz27_1
      try clear hcz27_2
      try clear hcz27_3
      try clear hcz27_4
      try clear hcz36_0
      try clear hcz36_1
      try clear hcz36_2
      try clear hcz36_3
      try clear hcz36_4
      try clear hfz11_0
      try clear hfz11_1
      try clear hfz11_2
      try clear hfz11_3
      try clear hfz11_4
      try clear hfz12_0
      try clear hfz12_1
      try clear hfz12_2
      try clear hfz12_3
      try clear hfz12_4
      try clear hfz14_0
      try clear hfz14_1
      try clear hfz14_2
      try clear hfz14_3
      try clear hfz14_4
      try clear hfz15_0
      try clear hfz15_1
      try clear hfz15_2
      try clear hfz15_3
      try clear hfz15_4
      try clear hfz17_0
      try clear hfz17_1
      try clear hfz17_2
      try clear hfz17_3
      try clear hfz17_4
      try clear hfz18_0
      try clear hfz18_1
      try clear hfz18_2
      try clear hfz18_3
      try clear hfz18_4
      try clear hfz20_0
      try clear hfz20_1
      try clear hfz20_2
      try clear hfz20_3
      try clear hfz20_4
      try clear hfz21_0
      try clear hfz21_1
      try clear hfz21_2
      try clear hfz21_3
      try clear hfz21_4
      try clear hfz23_0
      try clear hfz23_1
      try clear hfz23_2
      try clear hfz23_3
      try clear hfz23_4
      try clear hfz24_0
      try clear hfz24_1
      try clear hfz24_2
      try clear hfz24_3
      try clear hfz24_4
      try clear hfz27_0
      try clear hfz27_1
      try clear hfz27_2
      try clear hfz27_3
      try clear hfz27_4
      try clear hfz36_0
      try clear hfz36_1
      try clear hfz36_2
      try clear hfz36_3
      try clear hfz36_4
      try clear hx103_0
      try clear hx103_1
      try clear hx104_0
      try clear hx104_1
      try clear p103
      try clear p104
      try clear p2
      try clear q103
      try clear q104
      obtain ⟨x65_3,rfl,HA,HK3,BK101,BK102,HB⟩:=hrel;cases gk with
      | zero=>exact absurd HA.out (by simp [j1m.l1])
      | succ k3 =>
       have H:=HA.out;clear HA;simp only [j1m.l1] at H;by_cases c37:x65_3<(l0_4.length:Int)
       rotate_left
       ·rw [if_neg c37] at H;have c37b0:decide (x65_3<(l0_4.length:Int))=false:=decide_eq_false c37;(try (have c37b0h:=c37b0;simp only [hl105_3,hl105_4,hl106_3,hl106_4] at c37b0h));clear c37;obtain rfl:=Option.some.inj H;go_wp2;go_ret;exact zl7
       rw [if_pos c37] at H;have c37b0:decide (x65_3<(l0_4.length:Int))=true:=decide_eq_true c37;clear c37;by_cases c38:0≤x65_3
       rotate_left
       ·rw [if_neg c38] at H;exact absurd H (by simp)
       rw [if_pos c38] at H;have c38b0:decide (0≤x65_3)=true:=decide_eq_true c38;clear c38;by_cases c39:x65_3<(l0_4.length:Int)
       rotate_left
       ·rw [if_neg c39] at H;exact absurd H (by simp)
       rw [if_pos c39] at H;have c39b0:decide (x65_3<(l0_4.length:Int))=true:=decide_eq_true c39;clear c39;by_cases c40:x65_3<(l1_4.length:Int)
       rotate_left
       ·rw [if_neg c40] at H;exact absurd H (by simp)
       rw [if_pos c40] at H;have c40b0:decide (x65_3<(l1_4.length:Int))=true:=decide_eq_true c40;clear c40;replace H:=Option.bind_eq_some_iff.mp H;obtain ⟨t107,A410,H⟩:=H;replace H:(if t107=true then (j1m.l1 k3 (l0_4.length:Int) (wrap64 (x65_3+1)) a0_0 a0_1 a0_2 l0_3 l0_4 a1_0 a1_1 a1_2 l1_3 l1_4) else (some false))=some r:=H;have A41:=mk0 A410;clear A410;by_cases c42:t107=true
       rotate_left
       ·replace c42:=Bool.eq_false_iff.mpr c42;subst c42;have H1:(some false)=some r:=by rw [if_neg (show ¬ (false=true) by decide)] at H;exact H
        clear H;have H:=H1;clear H1;obtain rfl:=Option.some.inj H
        try go_wp2
        have n0_:=mk0 (j1j BK101.out);have n1_:=mk0 (j1j BK102.out);have n2_:=mk0 (j1t HB.out);clear BK101;clear BK102;clear HB;have BK101:=n0_;have BK102:=n1_;have HB:=n2_;clear n0_ n1_ n2_;have p105:0≤(x65_3:Int):=of_decide_eq_true zq12;have q105:x65_3<(l0_4.length:Int):=of_decide_eq_true zq12;obtain ⟨ad105,A105_3,c105_3,A105_4,c105_4,e105,hx105_0,hx105_1,hx105_2,hx105_3,hx105_4,hl105_3,hi105_3,hl105_4,hi105_4⟩:=at_T34 HR0_4.out x65_3 p105 q105;have hw105_4:=hx105_4;have hw105_3:=hx105_3;have hw105_2:=hx105_2;have hw105_1:=hx105_1;have hw105_0:=hx105_0;cases e105;replace hx105_0:=(HB.out.cell (World.block_lt_of_cell? w _ hx105_0)).trans hx105_0;replace hx105_1:=(HB.out.cell (World.block_lt_of_cell? w _ hx105_1)).trans hx105_1;replace hx105_2:=(HB.out.cell (World.block_lt_of_cell? w _ hx105_2)).trans hx105_2;replace hx105_3:=(HB.out.cell (World.block_lt_of_cell? w _ hx105_3)).trans hx105_3;replace hx105_4:=(HB.out.cell (World.block_lt_of_cell? w _ hx105_4)).trans hx105_4;have HR105_3:=mk0 hi105_3;have HC105_3:=mk0 hl105_3;clear hi105_3 hl105_3;have HR105_4:=mk0 hi105_4;have HC105_4:=mk0 hl105_4;clear hi105_4 hl105_4;replace p105:=eq_true p105;replace q105:=eq_true q105;have p106:0≤(x65_3:Int):=of_decide_eq_true zq12;have q106:x65_3<(l1_4.length:Int):=of_decide_eq_true zq12;obtain ⟨ad106,A106_3,c106_3,A106_4,c106_4,e106,hx106_0,hx106_1,hx106_2,hx106_3,hx106_4,hl106_3,hi106_3,hl106_4,hi106_4⟩:=at_T34 HR1_4.out x65_3 p106 q106;have hw106_4:=hx106_4;have hw106_3:=hx106_3;have hw106_2:=hx106_2;have hw106_1:=hx106_1;have hw106_0:=hx106_0;cases e106;replace hx106_0:=(HB.out.cell (World.block_lt_of_cell? w _ hx106_0)).trans hx106_0;replace hx106_1:=(HB.out.cell (World.block_lt_of_cell? w _ hx106_1)).trans hx106_1;replace hx106_2:=(HB.out.cell (World.block_lt_of_cell? w _ hx106_2)).trans hx106_2;replace hx106_3:=(HB.out.cell (World.block_lt_of_cell? w _ hx106_3)).trans hx106_3;replace hx106_4:=(HB.out.cell (World.block_lt_of_cell? w _ hx106_4)).trans hx106_4;have HR106_3:=mk0 hi106_3;have HC106_3:=mk0 hl106_3;clear hi106_3 hl106_3;have HR106_4:=mk0 hi106_4;have HC106_4:=mk0 hl106_4;clear hi106_4 hl106_4;replace p106:=eq_true p106;replace q106:=eq_true q106;refine start_ (n:=12) (S:=fun w'=>w'.cell? ⟨gb101,0,none⟩=some (.int .i64 a0_0)∧w'.cell? ⟨gb101,1,none⟩=some (.int .i64 a0_1)∧w'.cell? ⟨gb101,2,none⟩=some (.int .i64 a0_2)∧w'.cell? ⟨gb101,3,none⟩=some (.slice A0_3 l0_3.length c0_3)∧w'.cell? ⟨gb101,4,none⟩=some (.slice (some ad105) l0_4.length c0_4)∧w'.cell? ⟨gb102,0,none⟩=some (.int .i64 a1_0)∧w'.cell? ⟨gb102,1,none⟩=some (.int .i64 a1_1)∧w'.cell? ⟨gb102,2,none⟩=some (.int .i64 a1_2)∧w'.cell? ⟨gb102,3,none⟩=some (.slice A1_3 l1_3.length c1_3)∧w'.cell? ⟨gb102,4,none⟩=some (.slice (some ad106) l1_4.length c1_4)∧w'.cell? (ad105.add ((x65_3).toNat*5))=some (.int .i64 ((j2k l0_4 x65_3).f0))∧w'.cell? ⟨(ad105.add ((x65_3).toNat*5)).block,(ad105.add ((x65_3).toNat*5)).off+1,none⟩=some (.int .i64 ((j2k l0_4 x65_3).f1))∧w'.cell? ⟨(ad105.add ((x65_3).toNat*5)).block,(ad105.add ((x65_3).toNat*5)).off+2,none⟩=some (.int .i64 ((j2k l0_4 x65_3).f2))∧w'.cell? ⟨(ad105.add ((x65_3).toNat*5)).block,(ad105.add ((x65_3).toNat*5)).off+3,none⟩=some (.slice A105_3 ((j2k l0_4 x65_3).f3).length c105_3)∧w'.cell? ⟨(ad105.add ((x65_3).toNat*5)).block,(ad105.add ((x65_3).toNat*5)).off+4,none⟩=some (.slice A105_4 ((j2k l0_4 x65_3).f4).length c105_4)∧w'.cell? (ad106.add ((x65_3).toNat*5))=some (.int .i64 ((j2k l1_4 x65_3).f0))∧w'.cell? ⟨(ad106.add ((x65_3).toNat*5)).block,(ad106.add ((x65_3).toNat*5)).off+1,none⟩=some (.int .i64 ((j2k l1_4 x65_3).f1))∧w'.cell? ⟨(ad106.add ((x65_3).toNat*5)).block,(ad106.add ((x65_3).toNat*5)).off+2,none⟩=some (.int .i64 ((j2k l1_4 x65_3).f2))∧w'.cell? ⟨(ad106.add ((x65_3).toNat*5)).block,(ad106.add ((x65_3).toNat*5)).off+3,none⟩=some (.slice A106_3 ((j2k l1_4 x65_3).f3).length c106_3)∧w'.cell? ⟨(ad106.add ((x65_3).toNat*5)).block,(ad106.add ((x65_3).toNat*5)).off+4,none⟩=some (.slice A106_4 ((j2k l1_4 x65_3).f4).length c106_4)) (ds:=[]) #[false,false,false,false,false,false,false,false,false,false,false,false] zq23 rfl rfl ⟨(j1b BK101.out 0).trans rfl,(j1b BK101.out 1).trans rfl,(j1b BK101.out 2).trans rfl,(j1b BK101.out 3).trans rfl,(j1b BK101.out 4).trans rfl,(j1b BK102.out 0).trans rfl,(j1b BK102.out 1).trans rfl,(j1b BK102.out 2).trans rfl,(j1b BK102.out 3).trans rfl,(j1b BK102.out 4).trans rfl,((HB.out.cell (World.block_lt_of_cell? w _ hw105_0)).trans hw105_0),((HB.out.cell (World.block_lt_of_cell? w _ hw105_1)).trans hw105_1),((HB.out.cell (World.block_lt_of_cell? w _ hw105_2)).trans hw105_2),((HB.out.cell (World.block_lt_of_cell? w _ hw105_3)).trans hw105_3),((HB.out.cell (World.block_lt_of_cell? w _ hw105_4)).trans hw105_4),((HB.out.cell (World.block_lt_of_cell? w _ hw106_0)).trans hw106_0),((HB.out.cell (World.block_lt_of_cell? w _ hw106_1)).trans hw106_1),((HB.out.cell (World.block_lt_of_cell? w _ hw106_2)).trans hw106_2),((HB.out.cell (World.block_lt_of_cell? w _ hw106_3)).trans hw106_3),((HB.out.cell (World.block_lt_of_cell? w _ hw106_4)).trans hw106_4)⟩ (fun hHeld=>?_);refine j3l j1m.tab12 j1m.bits12 (fun HT_ HW_=>?_)
        generalize wr.drew=w45 at BK101 BK102 HB HR105_3 HR105_4 HR106_3 HR106_4 hx105_0 hx105_1 hx105_2 hx105_3 hx105_4 hx106_0 hx106_1 hx106_2 hx106_3 hx106_4 hHeld ⊢
        refine pure_ (i:=0) (N:=some 68) (v:=?_) (a':=?_) #[true,false,false,false,false,false,false,false,false,false,false,false] rfl rfl (j2e HT_.out zq23) (fun _ _ _ h=>h) (Or.inl ⟨by rfl,?_⟩) ?_ ?_;rotate_left
        ·exact zl3
        rotate_left
        ·exact zl0
        refine pure_ (i:=2) (N:=some 70) (v:=?_) (a':=?_) #[true,false,true,false,false,false,false,false,false,false,false,false] rfl rfl (j2e HT_.out zq23) (fun _ _ _ h=>h) (Or.inl ⟨by rfl,?_⟩) ?_ ?_;rotate_left
        ·exact zl3
        rotate_left
        ·exact zl0
        refine pure_ (i:=5) (N:=some 73) (v:=?_) (a':=?_) #[true,false,true,false,false,true,false,false,false,false,false,false] rfl rfl (j2e HT_.out zq23) (fun _ _ _ h=>h) (Or.inl ⟨by rfl,?_⟩) ?_ ?_;rotate_left
        ·exact zl3
        rotate_left
        ·exact zl0
        refine pure_ (i:=7) (N:=some 75) (v:=?_) (a':=?_) #[true,false,true,false,false,true,false,true,false,false,false,false] rfl rfl (j2e HT_.out zq23) (fun _ _ _ h=>h) (Or.inl ⟨by rfl,?_⟩) ?_ ?_;rotate_left
        ·exact zl3
        rotate_left
        ·exact zl0
        refine take_ (i:=1) (N:=some 69) (v:=?_) (a':=?_) #[true,true,true,false,false,true,false,true,false,false,false,false] rfl rfl (j2w HT_.out HW_.out zq23) (fun _ _ _ h=>h) (Or.inl ⟨by rfl,?_⟩) hHeld ?_ ?_;rotate_left
        ·exact zl10
        rotate_left
        ·exact zl0
        refine pure_ (i:=3) (N:=some 71) (v:=?_) (a':=?_) #[true,true,true,true,false,true,false,true,false,false,false,false] rfl rfl (j2e HT_.out zq23) (fun _ _ _ h=>h) (Or.inl ⟨by rfl,?_⟩) ?_ ?_;rotate_left
        ·exact zl3
        rotate_left
        ·exact zl0
        refine take_ (i:=4) (N:=some 72) (v:=?_) (a':=?_) #[true,true,true,true,true,true,false,true,false,false,false,false] rfl rfl (j2w HT_.out HW_.out zq23) (fun _ _ _ h=>h) (Or.inl ⟨by rfl,?_⟩) hHeld ?_ ?_;rotate_left
        ·exact zl10
        rotate_left
        ·exact zl0
        refine take_ (i:=6) (N:=some 74) (v:=?_) (a':=?_) #[true,true,true,true,true,true,true,true,false,false,false,false] rfl rfl (j2w HT_.out HW_.out zq23) (fun _ _ _ h=>h) (Or.inl ⟨by rfl,?_⟩) hHeld ?_ ?_;rotate_left
        ·exact zl10
        rotate_left
        ·exact zl0
        refine pure_ (i:=8) (N:=some 76) (v:=?_) (a':=?_) #[true,true,true,true,true,true,true,true,true,false,false,false] rfl rfl (j2e HT_.out zq23) (fun _ _ _ h=>h) (Or.inl ⟨by rfl,?_⟩) ?_ ?_;rotate_left
        ·exact zl3
        rotate_left
        ·exact zl0
        refine take_ (i:=9) (N:=some 77) (v:=?_) (a':=?_) #[true,true,true,true,true,true,true,true,true,true,false,false] rfl rfl (j2w HT_.out HW_.out zq23) (fun _ _ _ h=>h) (Or.inl ⟨by rfl,?_⟩) hHeld ?_ ?_;rotate_left
        ·exact zl10
        rotate_left
        ·exact zl0
        refine one_ (i:=10) (N:=some 78) #[true,true,true,true,true,true,true,true,true,true,true,false] rfl rfl (one_of HT_.out zq23) zq50 (fun K hK=>?_);refine goes_ Try.func18 zq23 rfl #[.agg #[.int .i64 ((j2k l0_4 x65_3).f0), .int .i64 ((j2k l0_4 x65_3).f1), .int .i64 ((j2k l0_4 x65_3).f2), .slice A105_3 ((j2k l0_4 x65_3).f3).length c105_3, .slice A105_4 ((j2k l0_4 x65_3).f4).length c105_4], .agg #[.int .i64 ((j2k l1_4 x65_3).f0), .int .i64 ((j2k l1_4 x65_3).f1), .int .i64 ((j2k l1_4 x65_3).f2), .slice A106_3 ((j2k l1_4 x65_3).f3).length c106_3, .slice A106_4 ((j2k l1_4 x65_3).f4).length c106_4]] (by rfl) rfl rfl zq2 ?_;with_reducible refine (ih k3 (by have:=HJ2.out;have:=HK2.out;have:=HK3.out;omega) ((j2k l0_4 x65_3).f0) ((j2k l0_4 x65_3).f1) ((j2k l0_4 x65_3).f2) _ _ ((j2k l0_4 x65_3).f3) _ _ ((j2k l0_4 x65_3).f4) ((j2k l1_4 x65_3).f0) ((j2k l1_4 x65_3).f1) ((j2k l1_4 x65_3).f2) _ _ ((j2k l1_4 x65_3).f3) _ _ ((j2k l1_4 x65_3).f4) false _ ?side1 ?side2 ?side3 ?side4 ?side5 ?side6 ?side7 ?side8 A41.out).mono ?_
        (case side1=>exact zq82);(case side2=>exact HC105_3.out);(case side3=>exact zq83);(case side4=>exact HC105_4.out);(case side5=>exact zq84);(case side6=>exact HC106_3.out);(case side7=>exact zq85);(case side8=>exact HC106_4.out);rintro e w46 ⟨rfl,hb⟩;refine ⟨_,rfl,?_⟩;have n0_:=mk0 (j2t (g:=gb101) (o := .cells #[.int .i64 a0_0, .int .i64 a0_1, .int .i64 a0_2, .slice A0_3 l0_3.length c0_3, .slice (some ad105) l0_4.length c0_4] 34 (0,0)) zq17 hb);have n1_:=mk0 (j2t (g:=gb102) (o := .cells #[.int .i64 a1_0, .int .i64 a1_1, .int .i64 a1_2, .slice A1_3 l1_3.length c1_3, .slice (some ad106) l1_4.length c1_4] 34 (0,0)) zq36 hb);have n2_:=mk0 (j2a zq79 hb);clear BK101;clear BK102;clear HB;have BK101:=n0_;have BK102:=n1_;have HB:=n2_;clear n0_ n1_ n2_;(try clear hb);(try clear hb2);(try clear hk);(try clear hi);refine hK.out _ _ ⟨(j1b BK101.out 0).trans rfl,(j1b BK101.out 1).trans rfl,(j1b BK101.out 2).trans rfl,(j1b BK101.out 3).trans rfl,(j1b BK101.out 4).trans rfl,(j1b BK102.out 0).trans rfl,(j1b BK102.out 1).trans rfl,(j1b BK102.out 2).trans rfl,(j1b BK102.out 3).trans rfl,(j1b BK102.out 4).trans rfl,((HB.out.cell (World.block_lt_of_cell? w _ hw105_0)).trans hw105_0),((HB.out.cell (World.block_lt_of_cell? w _ hw105_1)).trans hw105_1),((HB.out.cell (World.block_lt_of_cell? w _ hw105_2)).trans hw105_2),((HB.out.cell (World.block_lt_of_cell? w _ hw105_3)).trans hw105_3),((HB.out.cell (World.block_lt_of_cell? w _ hw105_4)).trans hw105_4),((HB.out.cell (World.block_lt_of_cell? w _ hw106_0)).trans hw106_0),((HB.out.cell (World.block_lt_of_cell? w _ hw106_1)).trans hw106_1),((HB.out.cell (World.block_lt_of_cell? w _ hw106_2)).trans hw106_2),((HB.out.cell (World.block_lt_of_cell? w _ hw106_3)).trans hw106_3),((HB.out.cell (World.block_lt_of_cell? w _ hw106_4)).trans hw106_4)⟩ (fun hHeld=>?_);clear hK K;refine norm_ (a':=?_) ?_ ?_;rotate_left
        ·show Act.put _ (some 78) _=_
         exact zl0
        refine pure_ (i:=11) (N:=some 79) (v:=?_) (a':=?_) #[true,true,true,true,true,true,true,true,true,true,true,true] rfl rfl (j2e HT_.out zq23) (fun _ _ _ h=>h) (Or.inl ⟨by rfl,?_⟩) ?_ ?_;rotate_left
        ·exact zl3
        rotate_left
        ·exact zl0
        refine done_ (done_of HT_.out zq23) ?_
        try go_wp2
        go_ret;exact zl7
       subst c42;have H1:(j1m.l1 k3 (l0_4.length:Int) (wrap64 (x65_3+1)) a0_0 a0_1 a0_2 l0_3 l0_4 a1_0 a1_1 a1_2 l1_3 l1_4)=some r:=by rw [if_pos rfl] at H;exact H
       clear H;have H:=H1;clear H1;have H':=mk0 H;clear H
       try go_wp2
       have n0_:=mk0 (j1j BK101.out);have n1_:=mk0 (j1j BK102.out);have n2_:=mk0 (j1t HB.out);clear BK101;clear BK102;clear HB;have BK101:=n0_;have BK102:=n1_;have HB:=n2_;clear n0_ n1_ n2_;have p105:0≤(x65_3:Int):=of_decide_eq_true zq12;have q105:x65_3<(l0_4.length:Int):=of_decide_eq_true zq12;obtain ⟨ad105,A105_3,c105_3,A105_4,c105_4,e105,hx105_0,hx105_1,hx105_2,hx105_3,hx105_4,hl105_3,hi105_3,hl105_4,hi105_4⟩:=at_T34 HR0_4.out x65_3 p105 q105;have hw105_4:=hx105_4;have hw105_3:=hx105_3;have hw105_2:=hx105_2;have hw105_1:=hx105_1;have hw105_0:=hx105_0;cases e105;replace hx105_0:=(HB.out.cell (World.block_lt_of_cell? w _ hx105_0)).trans hx105_0;replace hx105_1:=(HB.out.cell (World.block_lt_of_cell? w _ hx105_1)).trans hx105_1;replace hx105_2:=(HB.out.cell (World.block_lt_of_cell? w _ hx105_2)).trans hx105_2;replace hx105_3:=(HB.out.cell (World.block_lt_of_cell? w _ hx105_3)).trans hx105_3;replace hx105_4:=(HB.out.cell (World.block_lt_of_cell? w _ hx105_4)).trans hx105_4;have HR105_3:=mk0 hi105_3;have HC105_3:=mk0 hl105_3;clear hi105_3 hl105_3;have HR105_4:=mk0 hi105_4;have HC105_4:=mk0 hl105_4;clear hi105_4 hl105_4;replace p105:=eq_true p105;replace q105:=eq_true q105;have p106:0≤(x65_3:Int):=of_decide_eq_true zq12;have q106:x65_3<(l1_4.length:Int):=of_decide_eq_true zq12;obtain ⟨ad106,A106_3,c106_3,A106_4,c106_4,e106,hx106_0,hx106_1,hx106_2,hx106_3,hx106_4,hl106_3,hi106_3,hl106_4,hi106_4⟩:=at_T34 HR1_4.out x65_3 p106 q106;have hw106_4:=hx106_4;have hw106_3:=hx106_3;have hw106_2:=hx106_2;have hw106_1:=hx106_1;have hw106_0:=hx106_0;cases e106;replace hx106_0:=(HB.out.cell (World.block_lt_of_cell? w _ hx106_0)).trans hx106_0;replace hx106_1:=(HB.out.cell (World.block_lt_of_cell? w _ hx106_1)).trans hx106_1;replace hx106_2:=(HB.out.cell (World.block_lt_of_cell? w _ hx106_2)).trans hx106_2;replace hx106_3:=(HB.out.cell (World.block_lt_of_cell? w _ hx106_3)).trans hx106_3;replace hx106_4:=(HB.out.cell (World.block_lt_of_cell? w _ hx106_4)).trans hx106_4;have HR106_3:=mk0 hi106_3;have HC106_3:=mk0 hl106_3;clear hi106_3 hl106_3;have HR106_4:=mk0 hi106_4;have HC106_4:=mk0 hl106_4;clear hi106_4 hl106_4;replace p106:=eq_true p106;replace q106:=eq_true q106;refine start_ (n:=12) (S:=fun w'=>w'.cell? ⟨gb101,0,none⟩=some (.int .i64 a0_0)∧w'.cell? ⟨gb101,1,none⟩=some (.int .i64 a0_1)∧w'.cell? ⟨gb101,2,none⟩=some (.int .i64 a0_2)∧w'.cell? ⟨gb101,3,none⟩=some (.slice A0_3 l0_3.length c0_3)∧w'.cell? ⟨gb101,4,none⟩=some (.slice (some ad105) l0_4.length c0_4)∧w'.cell? ⟨gb102,0,none⟩=some (.int .i64 a1_0)∧w'.cell? ⟨gb102,1,none⟩=some (.int .i64 a1_1)∧w'.cell? ⟨gb102,2,none⟩=some (.int .i64 a1_2)∧w'.cell? ⟨gb102,3,none⟩=some (.slice A1_3 l1_3.length c1_3)∧w'.cell? ⟨gb102,4,none⟩=some (.slice (some ad106) l1_4.length c1_4)∧w'.cell? (ad105.add ((x65_3).toNat*5))=some (.int .i64 ((j2k l0_4 x65_3).f0))∧w'.cell? ⟨(ad105.add ((x65_3).toNat*5)).block,(ad105.add ((x65_3).toNat*5)).off+1,none⟩=some (.int .i64 ((j2k l0_4 x65_3).f1))∧w'.cell? ⟨(ad105.add ((x65_3).toNat*5)).block,(ad105.add ((x65_3).toNat*5)).off+2,none⟩=some (.int .i64 ((j2k l0_4 x65_3).f2))∧w'.cell? ⟨(ad105.add ((x65_3).toNat*5)).block,(ad105.add ((x65_3).toNat*5)).off+3,none⟩=some (.slice A105_3 ((j2k l0_4 x65_3).f3).length c105_3)∧w'.cell? ⟨(ad105.add ((x65_3).toNat*5)).block,(ad105.add ((x65_3).toNat*5)).off+4,none⟩=some (.slice A105_4 ((j2k l0_4 x65_3).f4).length c105_4)∧w'.cell? (ad106.add ((x65_3).toNat*5))=some (.int .i64 ((j2k l1_4 x65_3).f0))∧w'.cell? ⟨(ad106.add ((x65_3).toNat*5)).block,(ad106.add ((x65_3).toNat*5)).off+1,none⟩=some (.int .i64 ((j2k l1_4 x65_3).f1))∧w'.cell? ⟨(ad106.add ((x65_3).toNat*5)).block,(ad106.add ((x65_3).toNat*5)).off+2,none⟩=some (.int .i64 ((j2k l1_4 x65_3).f2))∧w'.cell? ⟨(ad106.add ((x65_3).toNat*5)).block,(ad106.add ((x65_3).toNat*5)).off+3,none⟩=some (.slice A106_3 ((j2k l1_4 x65_3).f3).length c106_3)∧w'.cell? ⟨(ad106.add ((x65_3).toNat*5)).block,(ad106.add ((x65_3).toNat*5)).off+4,none⟩=some (.slice A106_4 ((j2k l1_4 x65_3).f4).length c106_4)) (ds:=[]) #[false,false,false,false,false,false,false,false,false,false,false,false] zq23 rfl rfl ⟨(j1b BK101.out 0).trans rfl,(j1b BK101.out 1).trans rfl,(j1b BK101.out 2).trans rfl,(j1b BK101.out 3).trans rfl,(j1b BK101.out 4).trans rfl,(j1b BK102.out 0).trans rfl,(j1b BK102.out 1).trans rfl,(j1b BK102.out 2).trans rfl,(j1b BK102.out 3).trans rfl,(j1b BK102.out 4).trans rfl,((HB.out.cell (World.block_lt_of_cell? w _ hw105_0)).trans hw105_0),((HB.out.cell (World.block_lt_of_cell? w _ hw105_1)).trans hw105_1),((HB.out.cell (World.block_lt_of_cell? w _ hw105_2)).trans hw105_2),((HB.out.cell (World.block_lt_of_cell? w _ hw105_3)).trans hw105_3),((HB.out.cell (World.block_lt_of_cell? w _ hw105_4)).trans hw105_4),((HB.out.cell (World.block_lt_of_cell? w _ hw106_0)).trans hw106_0),((HB.out.cell (World.block_lt_of_cell? w _ hw106_1)).trans hw106_1),((HB.out.cell (World.block_lt_of_cell? w _ hw106_2)).trans hw106_2),((HB.out.cell (World.block_lt_of_cell? w _ hw106_3)).trans hw106_3),((HB.out.cell (World.block_lt_of_cell? w _ hw106_4)).trans hw106_4)⟩ (fun hHeld=>?_);refine j3l j1m.tab12 j1m.bits12 (fun HT_ HW_=>?_)
       generalize wr.drew=w43 at BK101 BK102 HB HR105_3 HR105_4 HR106_3 HR106_4 hx105_0 hx105_1 hx105_2 hx105_3 hx105_4 hx106_0 hx106_1 hx106_2 hx106_3 hx106_4 hHeld ⊢
       refine pure_ (i:=0) (N:=some 68) (v:=?_) (a':=?_) #[true,false,false,false,false,false,false,false,false,false,false,false] rfl rfl (j2e HT_.out zq23) (fun _ _ _ h=>h) (Or.inl ⟨by rfl,?_⟩) ?_ ?_;rotate_left
       ·exact zl3
       rotate_left
       ·exact zl0
       refine pure_ (i:=2) (N:=some 70) (v:=?_) (a':=?_) #[true,false,true,false,false,false,false,false,false,false,false,false] rfl rfl (j2e HT_.out zq23) (fun _ _ _ h=>h) (Or.inl ⟨by rfl,?_⟩) ?_ ?_;rotate_left
       ·exact zl3
       rotate_left
       ·exact zl0
       refine pure_ (i:=5) (N:=some 73) (v:=?_) (a':=?_) #[true,false,true,false,false,true,false,false,false,false,false,false] rfl rfl (j2e HT_.out zq23) (fun _ _ _ h=>h) (Or.inl ⟨by rfl,?_⟩) ?_ ?_;rotate_left
       ·exact zl3
       rotate_left
       ·exact zl0
       refine pure_ (i:=7) (N:=some 75) (v:=?_) (a':=?_) #[true,false,true,false,false,true,false,true,false,false,false,false] rfl rfl (j2e HT_.out zq23) (fun _ _ _ h=>h) (Or.inl ⟨by rfl,?_⟩) ?_ ?_;rotate_left
       ·exact zl3
       rotate_left
       ·exact zl0
       refine take_ (i:=1) (N:=some 69) (v:=?_) (a':=?_) #[true,true,true,false,false,true,false,true,false,false,false,false] rfl rfl (j2w HT_.out HW_.out zq23) (fun _ _ _ h=>h) (Or.inl ⟨by rfl,?_⟩) hHeld ?_ ?_;rotate_left
       ·exact zl10
       rotate_left
       ·exact zl0
       refine pure_ (i:=3) (N:=some 71) (v:=?_) (a':=?_) #[true,true,true,true,false,true,false,true,false,false,false,false] rfl rfl (j2e HT_.out zq23) (fun _ _ _ h=>h) (Or.inl ⟨by rfl,?_⟩) ?_ ?_;rotate_left
       ·exact zl3
       rotate_left
       ·exact zl0
       refine take_ (i:=4) (N:=some 72) (v:=?_) (a':=?_) #[true,true,true,true,true,true,false,true,false,false,false,false] rfl rfl (j2w HT_.out HW_.out zq23) (fun _ _ _ h=>h) (Or.inl ⟨by rfl,?_⟩) hHeld ?_ ?_;rotate_left
       ·exact zl10
       rotate_left
       ·exact zl0
       refine take_ (i:=6) (N:=some 74) (v:=?_) (a':=?_) #[true,true,true,true,true,true,true,true,false,false,false,false] rfl rfl (j2w HT_.out HW_.out zq23) (fun _ _ _ h=>h) (Or.inl ⟨by rfl,?_⟩) hHeld ?_ ?_;rotate_left
       ·exact zl10
       rotate_left
       ·exact zl0
       refine pure_ (i:=8) (N:=some 76) (v:=?_) (a':=?_) #[true,true,true,true,true,true,true,true,true,false,false,false] rfl rfl (j2e HT_.out zq23) (fun _ _ _ h=>h) (Or.inl ⟨by rfl,?_⟩) ?_ ?_;rotate_left
       ·exact zl3
       rotate_left
       ·exact zl0
       refine take_ (i:=9) (N:=some 77) (v:=?_) (a':=?_) #[true,true,true,true,true,true,true,true,true,true,false,false] rfl rfl (j2w HT_.out HW_.out zq23) (fun _ _ _ h=>h) (Or.inl ⟨by rfl,?_⟩) hHeld ?_ ?_;rotate_left
       ·exact zl10
       rotate_left
       ·exact zl0
       refine one_ (i:=10) (N:=some 78) #[true,true,true,true,true,true,true,true,true,true,true,false] rfl rfl (one_of HT_.out zq23) zq50 (fun K hK=>?_);refine goes_ Try.func18 zq23 rfl #[.agg #[.int .i64 ((j2k l0_4 x65_3).f0), .int .i64 ((j2k l0_4 x65_3).f1), .int .i64 ((j2k l0_4 x65_3).f2), .slice A105_3 ((j2k l0_4 x65_3).f3).length c105_3, .slice A105_4 ((j2k l0_4 x65_3).f4).length c105_4], .agg #[.int .i64 ((j2k l1_4 x65_3).f0), .int .i64 ((j2k l1_4 x65_3).f1), .int .i64 ((j2k l1_4 x65_3).f2), .slice A106_3 ((j2k l1_4 x65_3).f3).length c106_3, .slice A106_4 ((j2k l1_4 x65_3).f4).length c106_4]] (by rfl) rfl rfl zq2 ?_;with_reducible refine (ih k3 (by have:=HJ2.out;have:=HK2.out;have:=HK3.out;omega) ((j2k l0_4 x65_3).f0) ((j2k l0_4 x65_3).f1) ((j2k l0_4 x65_3).f2) _ _ ((j2k l0_4 x65_3).f3) _ _ ((j2k l0_4 x65_3).f4) ((j2k l1_4 x65_3).f0) ((j2k l1_4 x65_3).f1) ((j2k l1_4 x65_3).f2) _ _ ((j2k l1_4 x65_3).f3) _ _ ((j2k l1_4 x65_3).f4) true _ ?side1 ?side2 ?side3 ?side4 ?side5 ?side6 ?side7 ?side8 A41.out).mono ?_
       (case side1=>exact zq82);(case side2=>exact HC105_3.out);(case side3=>exact zq83);(case side4=>exact HC105_4.out);(case side5=>exact zq84);(case side6=>exact HC106_3.out);(case side7=>exact zq85);(case side8=>exact HC106_4.out);rintro e w44 ⟨rfl,hb⟩;refine ⟨_,rfl,?_⟩;have n0_:=mk0 (j2t (g:=gb101) (o := .cells #[.int .i64 a0_0, .int .i64 a0_1, .int .i64 a0_2, .slice A0_3 l0_3.length c0_3, .slice (some ad105) l0_4.length c0_4] 34 (0,0)) zq17 hb);have n1_:=mk0 (j2t (g:=gb102) (o := .cells #[.int .i64 a1_0, .int .i64 a1_1, .int .i64 a1_2, .slice A1_3 l1_3.length c1_3, .slice (some ad106) l1_4.length c1_4] 34 (0,0)) zq36 hb);have n2_:=mk0 (j2a zq79 hb);clear BK101;clear BK102;clear HB;have BK101:=n0_;have BK102:=n1_;have HB:=n2_;clear n0_ n1_ n2_;(try clear hb);(try clear hb2);(try clear hk);(try clear hi);refine hK.out _ _ ⟨(j1b BK101.out 0).trans rfl,(j1b BK101.out 1).trans rfl,(j1b BK101.out 2).trans rfl,(j1b BK101.out 3).trans rfl,(j1b BK101.out 4).trans rfl,(j1b BK102.out 0).trans rfl,(j1b BK102.out 1).trans rfl,(j1b BK102.out 2).trans rfl,(j1b BK102.out 3).trans rfl,(j1b BK102.out 4).trans rfl,((HB.out.cell (World.block_lt_of_cell? w _ hw105_0)).trans hw105_0),((HB.out.cell (World.block_lt_of_cell? w _ hw105_1)).trans hw105_1),((HB.out.cell (World.block_lt_of_cell? w _ hw105_2)).trans hw105_2),((HB.out.cell (World.block_lt_of_cell? w _ hw105_3)).trans hw105_3),((HB.out.cell (World.block_lt_of_cell? w _ hw105_4)).trans hw105_4),((HB.out.cell (World.block_lt_of_cell? w _ hw106_0)).trans hw106_0),((HB.out.cell (World.block_lt_of_cell? w _ hw106_1)).trans hw106_1),((HB.out.cell (World.block_lt_of_cell? w _ hw106_2)).trans hw106_2),((HB.out.cell (World.block_lt_of_cell? w _ hw106_3)).trans hw106_3),((HB.out.cell (World.block_lt_of_cell? w _ hw106_4)).trans hw106_4)⟩ (fun hHeld=>?_);clear hK K;refine norm_ (a':=?_) ?_ ?_;rotate_left
       ·show Act.put _ (some 78) _=_
        exact zl0
       refine pure_ (i:=11) (N:=some 79) (v:=?_) (a':=?_) #[true,true,true,true,true,true,true,true,true,true,true,true] rfl rfl (j2e HT_.out zq23) (fun _ _ _ h=>h) (Or.inl ⟨by rfl,?_⟩) ?_ ?_;rotate_left
       ·exact zl3
       rotate_left
       ·exact zl0
       refine done_ (done_of HT_.out zq23) ?_
       try go_wp2
       go_roundg k3
       case measure=>have:=HJ2.out;have:=HK2.out;have:=HK3.out;omega
       case rel=>exact ⟨(wrap64 (x65_3+1)),zq27,H',⟨by have:=HJ2.out;have:=HK2.out;have:=HK3.out;omega⟩,⟨by (with_reducible repeat (first|refine j1i ?_ _|refine j1j ?_|refine j1h ?_ _));exact BK101.out⟩,⟨by (with_reducible repeat (first|refine j1i ?_ _|refine j1j ?_|refine j1h ?_ _));exact BK102.out⟩,⟨by repeat (first|(with_reducible first|exact HB.out|apply j1s|apply j1q|apply j1t|refine j1u ?_ GE101.out|refine j1u ?_ GE102.out)|exact HB.out)⟩⟩
end Go.Proofs.Ytchhndbekjgimaa.S
end
section
namespace Go.Proofs.Ytchhndbekjgimaa.S
open Go.RowKit Go.Proofs.YtchhndbekjgimaaW.PrintWords Go.Proofs.YtchhndbekjgimaaW.PrintLast Go.Proofs.YtchhndbekjgimaaW.PrintMore
attribute [local go_sem] max2_int min2_int max_two min_two max_three min_three max_four min_four
set_option linter.unusedVariables false
set_option linter.unusedSimpArgs false
theorem R_append_lits {P : Program} {ops:Array Oper} {rest:List Oper} {o:Oper} {a:Act} {Q:Exit→Act→World→Prop} {w0 W:World} (base:Nat) (hgd:o.guard=none) (s x:Operand) (t e:TypeId) (k:IntKind) (bytes:Nat)
 (ho:o.op = .call { callee := .builtin .append,args:=#[s,x],argTypes:=#[t,t] })
 (ht:P.underlying t=some (.slice e)) (hinfo:(P.info? e).map (fun i=>(i.zero,i.size,i.bytes))=some (some (.int k 0),1,bytes)) (hb0:0<bytes)
 (v:Value) (xs ys:List Int) (cs:Array Value) (m:Nat) (hcs:cs.toList=nums k ys) (hm:m=ys.length) (ok:Nat→Prop) (hs:a.eval s=v) (hx:a.eval x = .slice (some ⟨W.heap.size,0,none⟩) m m) (hok:∀ k_,W.heap.size≤k_→ok k_)
 (HO:Kd.R (Kd.int k) e W base ok v xs) (HB:Below base w0 W) (hbase:base≤W.heap.size) (hl:(xs.length+ys.length)*bytes≤140737488355328)
 (h:∀ v1 w1,Kd.R (Kd.int k) e w1 base ok v1 (xs++ys)→Below base w0 w1→W.grownBy w1 v.ownBlock→(v1.ownBlock=v.ownBlock∨∃ b,v1.ownBlock=some b∧W.heap.size≤b)→wpList P ops Q rest (a.put o.dst v1) w1) :
 wpList P ops Q (o :: rest) a (W.alloc (.cells cs e)):=by
 obtain ⟨i0,hi,hzz⟩:=Option.map_eq_some_iff.1 hinfo;simp only [Prod.mk.injEq] at hzz;obtain ⟨hz0,hz1,hz2⟩:=hzz;have HOw:=Kd.own_of_R HO;have hok0:=HO.1;have hlen:xs.length+ys.length≤140737488355328:=Nat.le_trans (Nat.le_mul_of_pos_right _ hb0) hl;have hle:(encs (Value.int k) xs).length=xs.length:=by simp [encs]
 have hcl:cs.toList.length=m:=by rw [hcs,hm];simp [nums]
 refine wpList_append_own_at (W.alloc (.cells cs e)) hgd s x t ho base e i0 (.int k 0) 1 bytes ht hi hz0 hz1 hz2 rfl (by omega) v xs.length (encs (Value.int k) xs) hs (HOw.alloc _) ⟨W.heap.size,0,none⟩ m m cs.toList hx (by rw [hcl];omega)
  (World.news_of_block (cs:=cs) (t:=e) (fr:=(0,0)) (heap_alloc_new W _)) (by rw [hcs];intro u hu;simp only [nums,List.mem_map] at hu;obtain ⟨q,_,rfl⟩:=hu;rfl) (by simp only [maxLen];omega) (by rw [hm];exact hl) zq86 ?_
 intro v1 w1 hown hg _ hat;have e1:encs (Value.int k) xs++cs.toList=encs (Value.int k) (xs++ys):=by rw [encs_append,hcs];rfl
 have hat':v1.ownBlock=v.ownBlock∨∃ b,v1.ownBlock=some b∧W.heap.size≤b:=by
  rcases hat with hat|hat
  ·exact .inl hat
  exact .inr ⟨_,hat,by simp⟩
 refine h v1 w1 (Kd.R_of_own (by rw [List.length_append,← hm,← e1];exact hown) fun q hq=>?_) ((HB.alloc hbase _).grown hg zq86 (own_base HOw)) (World.grownBy.trans (World.grownBy_alloc W _ _) hg) hat';rcases hat' with hat'|⟨b,hat',hb⟩
 ·exact hok0 q (hat'.symm.trans hq)
 ·rw [hat'] at hq;cases hq;exact hok _ hb
section
variable {P : Program} {ops:Array Oper} {o:Oper} {a:Act} {Q:Exit→Act→World→Prop} {Kc:Act→World→Prop} {w0 W:World}
theorem append_str_step (base : Nat) (hw:Region.wanted o (yielded ops a.tmps)=true) (s x:Operand) (t u e:TypeId)
 (ho:o.op = .call { callee := .builtin .append,args:=#[s,x],argTypes:=#[t,u] })
 (ht:P.underlying t=some (.slice e)) (hu:P.underlying u=some .string) (hinfo:(P.info? e).map (fun i=>(i.zero,i.size,i.bytes))=some (some (.int .u8 0),1,1))
 (v:Value) (xs:List Int) (y:ByteArray) (ok:Nat→Prop) (hs:a.eval s=v) (hx:a.eval x = .string y) (hfresh:∀ k,W.heap.size≤k→ok k)
 (HO:(Kd.int .u8).R e W base ok v xs) (HB:Below base w0 W) (hbase:base≤W.heap.size) (hl:xs.length+y.size≤140737488355328)
 (h:∀ v1 w1,(Kd.int .u8).R e w1 base ok v1 (xs++bytesOf y)→Below base w0 w1→W.grownBy w1 v.ownBlock→(v1.ownBlock=v.ownBlock∨∃ b,v1.ownBlock=some b∧W.heap.size≤b)→Kc (a.put o.dst v1) w1) :
 if Region.wanted o (yielded ops a.tmps)=true then Oper.wp P o a W Kc Q else Kc (a.put o.dst undef) W:=by
 have hown:W.ownsRow base e 1 v xs.length (nums .u8 xs):=Kd.own_of_R HO;obtain ⟨i0,hi,hzz⟩:=Option.map_eq_some_iff.1 hinfo;simp only [Prod.mk.injEq] at hzz;obtain ⟨hz0,hz1,hz2⟩:=hzz;obtain ⟨v',w',hr,h2,h3,_⟩:=Lib.run_append_own_string (P:=P) W base t u o.type e i0 ht hu hi hz0 hz1 hz2 v xs.length (nums .u8 xs) hown y (by simp only [maxLen];omega) hl hbase;have hat:=append_str_at (P:=P) W base t u o.type e i0 ht hu hi hz0 hz1 hz2 v xs.length (nums .u8 xs) hown y hl v' w' hr;have hl2:(xs++bytesOf y).length=xs.length+y.size:=by rw [List.length_append,bytesOf_length]
 have hc:nums .u8 (xs++bytesOf y)=nums .u8 xs++Lib.strCells y:=by
  rw [nums_append]
  congr 1
  simp [nums,bytesOf,Lib.strCells]
 have hR:(Kd.int .u8).R e w' base ok v' (xs++bytesOf y):=by
  refine Kd.R_of_own (by rw [hl2,show encs (Value.int .u8) (xs++bytesOf y)=nums .u8 (xs++bytesOf y) from rfl,hc];exact h2) fun k hk=>?_
  rcases hat with h4|⟨b,h4,h5⟩
  ·exact HO.1 k (h4.symm.trans hk)
  ·rw [h4] at hk;injection hk with hk
   subst hk;exact hfresh _ h5
 rw [if_pos hw];unfold Oper.wp execOp;simp only [ho,resolve,invoke,builtin,Sem.run_bind,Sem.run_pure,Result.andThen_ok,List.map_toArray,List.map_cons,List.map_nil,hs,hx,hr];exact h v' w' hR (HB.grown h3 hbase (own_base hown)) h3 hat
end
def appO (o xs : List Int):Option (List Int):=if o.length+xs.length≤1099511627776 then some (o++xs) else none
theorem appO_inv {o xs r:List Int} (h:appO o xs=some r):o.length+xs.length≤1099511627776∧r=o++xs:=by
 unfold appO at h
 split at h
 ·rename_i h1;cases h;exact ⟨h1,rfl⟩
 ·cases h
def bL (rec : List Int→S34→Option (List Int)) (a:ByteArray) (obj:Bool) (ns:List S60) (ps:List S34):Nat→Nat→List Int→Option (List Int)
  | 0,_,o=>some o
  | n+1,j,o=>(if 0<j then appO o [44] else some o).bind fun o1 =>
    (if obj=true then (if (j:Int)<(ns.length:Int)∧0≤(j2x ns (j:Int)).f0∧(j2x ns (j:Int)).f0≤(j2x ns (j:Int)).f1∧(j2x ns (j:Int)).f1≤(a.size:Int) then
        (appO o1 (bytesOf (a.extract (j2x ns (j:Int)).f0.toNat (j2x ns (j:Int)).f1.toNat))).bind fun o2=>appO o2 [58] else none) else some o1).bind fun o3 =>
    (rec o3 (j2k ps (j:Int))).bind fun o4=>bL rec a obj ns ps n (j+1) o4
theorem bL_mono {rec rec' : List Int→S34→Option (List Int)} (h:∀ o p,LeO (rec o p) (rec' o p)) (a:ByteArray) (obj:Bool) (ns:List S60) (ps:List S34):∀ (n j:Nat) (o:List Int),LeO (bL rec a obj ns ps n j o) (bL rec' a obj ns ps n j o)
 | 0,_,_=>LeO.refl _
 | n+1,j,o=>LeO.bind (LeO.refl _) fun _=>LeO.bind (LeO.refl _) fun _=>LeO.bind (h _ _) fun _=>bL_mono h a obj ns ps n _ _
def bT : Nat → List Int→ByteArray→Int→Int→Int→List S60→List S34→Option (List Int)
  | 0,_,_,_,_,_,_,_=>none
  | k+1,o,a,p0,p1,p2,ns,ps =>
    if p0=5∨p0=6 then (appO o [if p0=6 then 123 else 91]).bind fun o1=>(bL (fun o p=>bT k o a p.f0 p.f1 p.f2 p.f3 p.f4) a (decide (p0=6)) ns ps ps.length 0 o1).bind fun o2=>appO o2 [if p0=6 then 125 else 93]
    else if 0≤p1∧p1≤p2∧p2≤(a.size:Int) then appO o (bytesOf (a.extract p1.toNat p2.toNat)) else none
theorem bT_mono : ∀ (k:Nat) (o:List Int) (a:ByteArray) (p0 p1 p2:Int) (ns:List S60) (ps:List S34),LeO (bT k o a p0 p1 p2 ns ps) (bT (k+1) o a p0 p1 p2 ns ps)
 | 0,_,_,_,_,_,_,_=>fun r h=>by simp [bT] at h
 | k+1,o,a,p0,p1,p2,ns,ps=>by
  rw [bT,bT];exact LeO.ite (LeO.bind (LeO.refl _) fun _=>LeO.bind (bL_mono (fun o p=>bT_mono k o a p.f0 p.f1 p.f2 p.f3 p.f4) a _ ns ps _ _ _) fun _=>LeO.refl _) (LeO.refl _)
def SB (w0 w1 : World) (v0:Value) (W:World) (o:List Int) (v:Value):Prop :=
  Kd.R (Kd.int .u8) 5 W w0.heap.size (fun _=>True) v o∧w1.grownBy W v0.ownBlock∧(v.ownBlock=v0.ownBlock∨∃ b,v.ownBlock=some b∧w1.heap.size≤b)∧Below w0.heap.size w0 W
theorem SB.step {w0 w1 W W':World} {v0 v v':Value} {o o':List Int} (h:SB w0 w1 v0 W o v) (hR:Kd.R (Kd.int .u8) 5 W' w0.heap.size (fun _=>True) v' o') (hB:Below w0.heap.size w0 W') (hg:W.grownBy W' v.ownBlock) (hat:v'.ownBlock=v.ownBlock∨∃ b,v'.ownBlock=some b∧W.heap.size≤b):SB w0 w1 v0 W' o' v':=by
 obtain ⟨_,g1,a1,_⟩:=h;have hs:=g1.size;refine ⟨hR,⟨hg.os.trans g1.os,hg.tape.trans g1.tape,hg.output.trans g1.output,Nat.le_trans hs hg.size,fun i hi hne=>?_⟩,?_,hB⟩
 ·refine (hg.block i (Nat.lt_of_lt_of_le hi hs) ?_).trans (g1.block i hi hne);rcases a1 with a1|⟨b,a1,hb⟩
  ·rw [a1];exact hne
  ·rw [a1];intro e;cases e;omega
 ·rcases hat with hat|⟨b,hat,hb⟩
  ·rcases a1 with a1|⟨b,a1,hb⟩
   ·exact .inl (hat.trans a1)
   ·exact .inr ⟨b,hat.trans a1,hb⟩
  ·exact .inr ⟨b,hat,by omega⟩
theorem SB.drewN {w0 w1 W:World} {v0 v:Value} {o:List Int} (h:SB w0 w1 v0 W o v) (n:Nat):SB w0 w1 v0 (W.drewN n) o v :=
 ⟨Kd.R_drewN h.1 n,⟨h.2.1.os,h.2.1.tape,h.2.1.output,h.2.1.size,h.2.1.block⟩,h.2.2.1,j1q h.2.2.2 n⟩
end Go.Proofs.Ytchhndbekjgimaa.S
end
section
namespace Go.Proofs.Ytchhndbekjgimaa.S
open Go.RowKit Go.Proofs.YtchhndbekjgimaaW.PrintWords Go.Proofs.YtchhndbekjgimaaW.PrintLast Go.Proofs.YtchhndbekjgimaaW.PrintMore
attribute [local go_sem] max2_int min2_int max_two min_two max_three min_three max_four min_four
set_option linter.unusedVariables false
set_option linter.unusedSimpArgs false
theorem SB.box {w0 w1 W:World} {v0 v:Value} {o:List Int} {g:Nat} {ob:Obj} (h:SB w0 w1 v0 W o v) (hb:w1.heap[g]? = some ob) (hne:some g≠v0.ownBlock):W.heap[g]? = some ob:=(h.2.1.block g (j3m hb) hne).trans hb
set_option maxHeartbeats 16000000 in
set_option maxRecDepth 100000 in
theorem bare_calls : ∀ (k:Nat) (o:List Int) (a0:ByteArray) (p0 p1 p2:Int) (A3:Option Addr) (c3:Nat) (l3:List S60) (A4:Option Addr) (c4:Nat) (l4:List S34) (U:List Int) (v:Value) (w0 w:World),Below w0.heap.size w0 w→Kd.R (Kd.int .u8) 5 w w0.heap.size (fun _=>True) v o →
 Kd.C k60 w0 A3 l3.length l3→l3.length≤c3→Kd.C k34 w0 A4 l4.length l4→l4.length≤c4→bT k o a0 p0 p1 p2 l3 l4=some U →
 Calls Try.prog 27 #[v, .string a0, .agg #[.int .i64 p0, .int .i64 p1, .int .i64 p2, .slice A3 l3.length c3, .slice A4 l4.length c4]] w fun e w'=>∃ v',e = .returned v'∧SB w0 w v w' U v'
 | 0,_,_,_,_,_,_,_,_,_,_,_,_,_,_,_,_,_,_,_,_,_,h=>by simp [bT] at h
 | k+1,o,a0,p0,p1,p2,A3,c3,l3,A4,c4,l4,U,v,w0,w,hB,hR,h3,hc3,h4,hc4,h=>by
  have ih:=bare_calls k;rw [bT] at h
  obtain ⟨w1,hw1⟩:∃ w1,w1=w.alloc (.cells #[.int .i64 p0, .int .i64 p1, .int .i64 p2, .slice A3 l3.length c3, .slice A4 l4.length c4] 34):=⟨_,rfl⟩;have hbx:w1.heap[w.heap.size]? = some (.cells #[.int .i64 p0, .int .i64 p1, .int .i64 p2, .slice A3 l3.length c3, .slice A4 l4.length c4] 34 (0,0)):=by rw [hw1];exact blk_new w _
  have hne:some w.heap.size≠v.ownBlock:=fun e=>by have:=Kd.R_lt hR _ e.symm;omega
  have hS1:SB w0 w1 v w1 o v:=⟨by rw [hw1];exact Kd.R_below hR (j1s (Below.refl _ _) _),World.grownBy.refl w1 _, .inl rfl,by rw [hw1];exact hB.alloc hB.size _⟩
  have hfin:∀ (W:World) (X:List Int) (v':Value),SB w0 w1 v W X v'→SB w0 w v W X v':=fun W X v' h=>by
   refine ⟨h.1,?_,?_,h.2.2.2⟩
   ·exact World.grownBy.trans (by rw [hw1];exact World.grownBy_alloc w _ _) h.2.1
   ·rcases h.2.2.1 with e|⟨b,e,hb⟩
    ·exact .inl e
    ·exact .inr ⟨b,e,by rw [hw1] at hb;simp at hb;omega⟩
  have hm4:=Kd.C_max h4;have IH:=mk0 ih;have HS:=mk0 hS1;have HBX:=mk0 hbx;have HNE:=mk0 hne;have HFIN:=mk0 hfin;have H3:=mk0 (And.intro h3 hc3);have H4:=mk0 (And.intro h4 hc4);have hx0:=(j1b hbx 0).trans rfl;have hx1:=(j1b hbx 1).trans rfl;have hx2:=(j1b hbx 2).trans rfl;have hx3:=(j1b hbx 3).trans rfl;have hx4:=(j1b hbx 4).trans rfl;clear ih hS1 hbx hne hfin h3 hc3 h4 hc4 hB hR;go_enter Try.func27,Try.ntmps27;go_upto_region 1 with (fail)
  rw [← hw1];clear hw1;by_cases hp5:p0=5
  ·subst hp5;have ha1:=h;rw [if_pos zq50] at ha1;obtain ⟨o1,ho1,ha2⟩:=Option.bind_eq_some_iff.mp ha1;obtain ⟨o2,hbl,ha3⟩:=Option.bind_eq_some_iff.mp ha2;clear ha1 ha2;obtain ⟨hl1,rfl⟩:=appO_inv ho1;obtain ⟨hl2,rfl⟩:=appO_inv ha3;simp only [List.length_cons,List.length_nil] at hl1 hl2;have HBL:=mk0 hbl;clear h ha3 ho1 hbl hx1 hx2;go_upto_block 0 with (first|((with_reducible refine j1z (b := .append) (xs:=#[.tmp 29, .tmp 31]) rfl ?_);at_builtin;refine R_append_lits (w0:=w0) w0.heap.size rfl (.tmp 29) (.tmp 31) 38 5 .u8 1 rfl Try.underlying38 info5 zq50 _ o [91] #[.int .u8 91] 1 rfl rfl (fun _=>True) rfl rfl (fun _ _=>trivial) HS.out.1 HS.out.2.2.2 HS.out.2.2.2.size zq70 ?_;intro v1_ w2_ ho_ hb_ hg_ hat_;have HSN:=mk0 (HS.out.step ho_ hb_ hg_ hat_);clear ho_ hb_ hg_ hat_;have hbx_:=HSN.out.box HBX.out HNE.out;have nx4:=(j1b hbx_ 4).trans rfl;clear hbx_))
   go_cut [0] (fun v0 wc=>Aside0 (SB w0 w1 v wc o2 v0))
   case first =>
    go_wp2_with fail
    go_loopg [0,36] (l4.length) (fun kq v0 v36 w'=>∃ (j:Nat) (oj:List Int),v36 = .int .i64 (j:Int)∧Aside0 (SB w0 w1 v w' oj v0)∧Aside0 (j≤l4.length∧bL (fun o p=>bT k o a0 p.f0 p.f1 p.f2 p.f3 p.f4) a0 (decide ((5:Int)=6)) l3 l4 (l4.length - j) j oj=some o2)∧kq=l4.length - j)
    case atStart=>exact ⟨0,o++[91],rfl,HSN,⟨Nat.zero_le _,HBL.out⟩,rfl⟩
    case round =>
     clear HS HSN HBL hx0 hx3 hx4;obtain ⟨j,oj,rfl,HSj,HJ,hk⟩:=hrel;by_cases hlt:j<l4.length
     rotate_left
     ·have t1:decide ((j:Int)<(l4.length:Int))=false:=decide_eq_false (by omega);have hbl:=HJ.out.2;rw [show l4.length - j=0 by omega,bL] at hbl;cases hbl;go_wp2;go_meet
      case rel=>exact HSj
     have t1:decide ((j:Int)<(l4.length:Int))=true:=decide_eq_true (by omega);have hbl:=HJ.out.2;rw [show l4.length - j=(l4.length - (j+1))+1 by omega,bL] at hbl;obtain ⟨oa,hoa,hbl2⟩:=Option.bind_eq_some_iff.mp hbl;obtain ⟨ob,hob,hbl3⟩:=Option.bind_eq_some_iff.mp hbl2;obtain ⟨oc,hoc,hbl4⟩:=Option.bind_eq_some_iff.mp hbl3;have HOA:=mk0 hoa;have HOB:=mk0 hob;have HOC:=mk0 hoc;have HBLj:=mk0 hbl4;clear HJ hoa hob hoc hbl hbl2 hbl3 hbl4;go_upto_if 40 with (fail)
     go_cut [0] (fun v0 wc=>Aside0 (SB w0 w1 v wc oa v0))
     case first =>
      by_cases hj0:0<j
      rotate_left
      ·obtain rfl:j=0:=by omega
       have hoa:=HOA.out;rw [if_neg (by omega)] at hoa;cases hoa;go_wp2;go_meet
       case rel=>exact HSj
      have t2:decide ((j:Int)>0)=true:=decide_eq_true (by omega);have t3:decide ((0:Int)<(j:Int))=true:=decide_eq_true (by omega);have hoa:=HOA.out;rw [if_pos hj0] at hoa;obtain ⟨hl4,rfl⟩:=appO_inv hoa;simp only [List.length_cons,List.length_nil] at hl4;clear hoa;go_wp2_with (first|((with_reducible refine j1z (b := .append) (xs:=#[.tmp 41, .tmp 42]) rfl ?_);at_builtin;refine R_append_lits (w0:=w0) w0.heap.size rfl (.tmp 41) (.tmp 42) 38 5 .u8 1 rfl Try.underlying38 info5 zq50 _ oj [44] #[.int .u8 44] 1 rfl rfl (fun _=>True) rfl rfl (fun _ _=>trivial) HSj.out.1 HSj.out.2.2.2 HSj.out.2.2.2.size zq70 ?_;intro v1_ w2_ ho_ hb_ hg_ hat_;have HSjN:=mk0 (HSj.out.step ho_ hb_ hg_ hat_);clear ho_ hb_ hg_ hat_))
      go_meet
      case rel=>exact HSjN
     case rest =>
     clear HSj HOA;have HSa:=hcut;have hbx_:=HSa.out.box HBX.out HNE.out;have ax0:=(j1b hbx_ 0).trans rfl;have ax3:=(j1b hbx_ 3).trans rfl;have ax4:=(j1b hbx_ 4).trans rfl;clear hbx_;go_upto_if 46 with (fail)
     go_cut [0] (fun v0 wc=>Aside0 (SB w0 w1 v wc ob v0))
     case first =>
      have hob:=HOB.out;rw [if_neg zq50] at hob;cases hob;go_wp2;go_meet
      case rel=>exact HSa
     case rest =>
     clear HSa HOB ax0 ax3 ax4;have HSc:=hcut;have hbx_:=HSc.out.box HBX.out HNE.out;have cx4:=(j1b hbx_ 4).trans rfl;clear hbx_;have hB0:=HSc.out.2.2.2;obtain ⟨ad,A5,c5,A6,c6,ead,hz0,hz1,hz2,hz3,hz4,hlc5,hC5,hlc6,hC6⟩:=at_T34 H4.out.1 (j:Int) (by omega) (by omega);rw [Int.toNat_natCast] at hz0 hz1 hz2 hz3 hz4;have hy0:=(j3k hB0 (World.block_lt_of_cell? w0 _ hz0)).trans hz0;have hy1:=(j3k hB0 (World.block_lt_of_cell? w0 _ hz1)).trans hz1;have hy2:=(j3k hB0 (World.block_lt_of_cell? w0 _ hz2)).trans hz2;have hy3:=(j3k hB0 (World.block_lt_of_cell? w0 _ hz3)).trans hz3;have hy4:=(j3k hB0 (World.block_lt_of_cell? w0 _ hz4)).trans hz4;have HX:=mk0 (And.intro hlc5 (And.intro hC5 (And.intro hlc6 hC6)));subst ead;clear hz0 hz1 hz2 hz3 hz4 hlc5 hC5 hlc6 hC6 hB0;go_wp2_with (first|(go_at_call 27;refine (IH.out ob a0 _ _ _ A5 c5 _ A6 c6 _ oc _ w0 _ HSc.out.2.2.2 HSc.out.1 HX.out.2.1 HX.out.1 HX.out.2.2.2 HX.out.2.2.1 HOC.out).mono ?_;rintro e_ w5_ ⟨v5_,rfl,hS5⟩;have HSe:=mk0 (HSc.out.step hS5.1 hS5.2.2.2 hS5.2.1 hS5.2.2.1);clear hS5))
     go_roundg (l4.length - (j+1))
     case measure=>omega
     case rel=>exact ⟨j+1,oc,by go_num,HSe,⟨by omega,HBLj.out⟩,rfl⟩
   case rest =>
    clear HS HSN HBL hx0 hx3 hx4;have HSd:=hcut;go_wp2_with (first|((with_reducible refine j1z (b := .append) (xs:=#[.tmp 75, .tmp 77]) rfl ?_);at_builtin;refine R_append_lits (w0:=w0) w0.heap.size rfl (.tmp 75) (.tmp 77) 38 5 .u8 1 rfl Try.underlying38 info5 zq50 _ o2 [93] #[.int .u8 93] 1 rfl rfl (fun _=>True) rfl rfl (fun _ _=>trivial) HSd.out.1 HSd.out.2.2.2 HSd.out.2.2.2.size zq70 ?_;intro v1_ w2_ ho_ hb_ hg_ hat_;have HSdN:=mk0 (HSd.out.step ho_ hb_ hg_ hat_);clear ho_ hb_ hg_ hat_))
    go_ret;exact ⟨_,rfl,HFIN.out _ _ _ HSdN.out⟩
  by_cases hp6:p0=6
  ·subst hp6;have ha1:=h;rw [if_pos zq50] at ha1;obtain ⟨o1,ho1,ha2⟩:=Option.bind_eq_some_iff.mp ha1;obtain ⟨o2,hbl,ha3⟩:=Option.bind_eq_some_iff.mp ha2;clear ha1 ha2;obtain ⟨hl1,rfl⟩:=appO_inv ho1;obtain ⟨hl2,rfl⟩:=appO_inv ha3;simp only [List.length_cons,List.length_nil] at hl1 hl2;have HBL:=mk0 hbl;clear h ha3 ho1 hbl hx1 hx2;go_upto_block 0 with (first|((with_reducible refine j1z (b := .append) (xs:=#[.tmp 29, .tmp 31]) rfl ?_);at_builtin;refine R_append_lits (w0:=w0) w0.heap.size rfl (.tmp 29) (.tmp 31) 38 5 .u8 1 rfl Try.underlying38 info5 zq50 _ o [123] #[.int .u8 123] 1 rfl rfl (fun _=>True) rfl rfl (fun _ _=>trivial) HS.out.1 HS.out.2.2.2 HS.out.2.2.2.size zq70 ?_;intro v1_ w2_ ho_ hb_ hg_ hat_;have HSN:=mk0 (HS.out.step ho_ hb_ hg_ hat_);clear ho_ hb_ hg_ hat_;have hbx_:=HSN.out.box HBX.out HNE.out;have nx4:=(j1b hbx_ 4).trans rfl;clear hbx_))
   go_cut [0] (fun v0 wc=>Aside0 (SB w0 w1 v wc o2 v0))
   case first =>
    go_wp2_with fail
    go_loopg [0,36] (l4.length) (fun kq v0 v36 w'=>∃ (j:Nat) (oj:List Int),v36 = .int .i64 (j:Int)∧Aside0 (SB w0 w1 v w' oj v0)∧Aside0 (j≤l4.length∧bL (fun o p=>bT k o a0 p.f0 p.f1 p.f2 p.f3 p.f4) a0 (decide ((6:Int)=6)) l3 l4 (l4.length - j) j oj=some o2)∧kq=l4.length - j)
    case atStart=>exact ⟨0,o++[123],rfl,HSN,⟨Nat.zero_le _,HBL.out⟩,rfl⟩
    case round =>
     clear HS HSN HBL hx0 hx3 hx4;obtain ⟨j,oj,rfl,HSj,HJ,hk⟩:=hrel;by_cases hlt:j<l4.length
     rotate_left
     ·have t1:decide ((j:Int)<(l4.length:Int))=false:=decide_eq_false (by omega);have hbl:=HJ.out.2;rw [show l4.length - j=0 by omega,bL] at hbl;cases hbl;go_wp2;go_meet
      case rel=>exact HSj
     have t1:decide ((j:Int)<(l4.length:Int))=true:=decide_eq_true (by omega);have hbl:=HJ.out.2;rw [show l4.length - j=(l4.length - (j+1))+1 by omega,bL] at hbl;obtain ⟨oa,hoa,hbl2⟩:=Option.bind_eq_some_iff.mp hbl;obtain ⟨ob,hob,hbl3⟩:=Option.bind_eq_some_iff.mp hbl2;obtain ⟨oc,hoc,hbl4⟩:=Option.bind_eq_some_iff.mp hbl3;have HOA:=mk0 hoa;have HOB:=mk0 hob;have HOC:=mk0 hoc;have HBLj:=mk0 hbl4;clear HJ hoa hob hoc hbl hbl2 hbl3 hbl4;go_upto_if 40 with (fail)
     go_cut [0] (fun v0 wc=>Aside0 (SB w0 w1 v wc oa v0))
     case first =>
      by_cases hj0:0<j
      rotate_left
      ·obtain rfl:j=0:=by omega
       have hoa:=HOA.out;rw [if_neg (by omega)] at hoa;cases hoa;go_wp2;go_meet
       case rel=>exact HSj
      have t2:decide ((j:Int)>0)=true:=decide_eq_true (by omega);have t3:decide ((0:Int)<(j:Int))=true:=decide_eq_true (by omega);have hoa:=HOA.out;rw [if_pos hj0] at hoa;obtain ⟨hl4,rfl⟩:=appO_inv hoa;simp only [List.length_cons,List.length_nil] at hl4;clear hoa;go_wp2_with (first|((with_reducible refine j1z (b := .append) (xs:=#[.tmp 41, .tmp 42]) rfl ?_);at_builtin;refine R_append_lits (w0:=w0) w0.heap.size rfl (.tmp 41) (.tmp 42) 38 5 .u8 1 rfl Try.underlying38 info5 zq50 _ oj [44] #[.int .u8 44] 1 rfl rfl (fun _=>True) rfl rfl (fun _ _=>trivial) HSj.out.1 HSj.out.2.2.2 HSj.out.2.2.2.size zq70 ?_;intro v1_ w2_ ho_ hb_ hg_ hat_;have HSjN:=mk0 (HSj.out.step ho_ hb_ hg_ hat_);clear ho_ hb_ hg_ hat_))
      go_meet
      case rel=>exact HSjN
     case rest =>
     clear HSj HOA;have HSa:=hcut;have hbx_:=HSa.out.box HBX.out HNE.out;have ax0:=(j1b hbx_ 0).trans rfl;have ax3:=(j1b hbx_ 3).trans rfl;have ax4:=(j1b hbx_ 4).trans rfl;clear hbx_;go_upto_if 46 with (fail)
     go_cut [0] (fun v0 wc=>Aside0 (SB w0 w1 v wc ob v0))
     case first =>
      have hj3:(j:Int)<(l3.length:Int)∧0≤(j2x l3 (j:Int)).f0∧(j2x l3 (j:Int)).f0≤(j2x l3 (j:Int)).f1∧(j2x l3 (j:Int)).f1≤(a0.size:Int):=by
       by_cases hh:(j:Int)<(l3.length:Int)∧0≤(j2x l3 (j:Int)).f0∧(j2x l3 (j:Int)).f0≤(j2x l3 (j:Int)).f1∧(j2x l3 (j:Int)).f1≤(a0.size:Int)
       ·exact hh
       have:=HOB.out;rw [if_pos zq50,if_neg hh] at this;cases this
      have hob:=HOB.out;rw [if_pos zq50,if_pos hj3] at hob;obtain ⟨od,hod,hob2⟩:=Option.bind_eq_some_iff.mp hob;clear hob;obtain ⟨hl5,rfl⟩:=appO_inv hod;obtain ⟨hl6,rfl⟩:=appO_inv hob2;obtain ⟨hjl,hq0,hq1,hq2⟩:=hj3;have hC3:=Kd.C_below H3.out.1 HSa.out.2.2.2;obtain ⟨ad,ead,hy0,hy1⟩:=at_T60 hC3 (j:Int) (by omega) hjl;obtain ⟨b1,hb1⟩:=Int.eq_ofNat_of_zero_le hq0;obtain ⟨e1,he1⟩:=Int.eq_ofNat_of_zero_le (show 0≤(j2x l3 (j:Int)).f1 by omega);rw [hb1] at hq1 hl5 hy0 hl6;rw [he1] at hq1 hq2 hl5 hy1 hl6;rw [Int.toNat_natCast] at hy0 hy1;have HB1:=mk0 hb1;have HE1:=mk0 he1;simp only [Int.toNat_natCast] at hl5 hl6;rw [bytesOf_length] at hl5;subst ead;clear hC3 hob2 hod hq0 hb1 he1 HOB;go_upto_region 13 with (fail)
      refine start_ (n:=17) (S:=fun w'=>w'.cell? ⟨w.heap.size,3,none⟩=some (.slice (some ad) l3.length c3)∧w'.cell? (ad.add (j*2))=some (.int .i64 (b1:Int))∧w'.cell? ⟨(ad.add (j*2)).block,(ad.add (j*2)).off+1,none⟩=some (.int .i64 (e1:Int))) (ds:=[15]) #[false,false,false,false,false,false,false,false,false,false,false,false,false,false,false,false,false] zq23 rfl rfl ⟨ax3,hy0,hy1⟩ (fun hHeld=>?_);have HSa2:=mk0 (HSa.out.drewN 1)
      change Aside0 (SB _ _ _ wc.drew _ _) at HSa2
      generalize wc.drew=w3 at HSa2 hHeld ⊢
      refine pure_ (i:=0) (N:=some 47) (v:=?_) (a':=?_) #[true,false,false,false,false,false,false,false,false,false,false,false,false,false,false,false,false] rfl rfl zq23 (fun _ _ _ h=>h) (Or.inl ⟨by rfl,?_⟩) ?_ ?_;rotate_left
      ·exact zl3
      rotate_left
      ·exact zl0
      refine pure_ (i:=1) (N:=some 48) (v:=?_) (a':=?_) #[true,true,false,false,false,false,false,false,false,false,false,false,false,false,false,false,false] rfl rfl zq23 (fun _ _ _ h=>h) (Or.inl ⟨by rfl,?_⟩) ?_ ?_;rotate_left
      ·exact zl3
      rotate_left
      ·exact zl0
      refine pure_ (i:=2) (N:=some 49) (v:=?_) (a':=?_) #[true,true,true,false,false,false,false,false,false,false,false,false,false,false,false,false,false] rfl rfl zq23 (fun _ _ _ h=>h) (Or.inl ⟨by rfl,?_⟩) ?_ ?_;rotate_left
      ·exact zl3
      rotate_left
      ·exact zl0
      refine pure_ (i:=4) (N:=some 51) (v:=?_) (a':=?_) #[true,true,true,false,true,false,false,false,false,false,false,false,false,false,false,false,false] rfl rfl zq23 (fun _ _ _ h=>h) (Or.inl ⟨by rfl,?_⟩) ?_ ?_;rotate_left
      ·exact zl3
      rotate_left
      ·exact zl0
      refine pure_ (i:=8) (N:=some 55) (v:=?_) (a':=?_) #[true,true,true,false,true,false,false,false,true,false,false,false,false,false,false,false,false] rfl rfl zq23 (fun _ _ _ h=>h) (Or.inl ⟨by rfl,?_⟩) ?_ ?_;rotate_left
      ·exact zl3
      rotate_left
      ·exact zl0
      refine pure_ (i:=10) (N:=some 57) (v:=?_) (a':=?_) #[true,true,true,false,true,false,false,false,true,false,true,false,false,false,false,false,false] rfl rfl zq23 (fun _ _ _ h=>h) (Or.inl ⟨by rfl,?_⟩) ?_ ?_;rotate_left
      ·exact zl3
      rotate_left
      ·exact zl0
      refine take_ (i:=3) (N:=some 50) (v:=?_) (a':=?_) #[true,true,true,true,true,false,false,false,true,false,true,false,false,false,false,false,false] rfl rfl zq23 (fun _ _ _ h=>h) (Or.inl ⟨by rfl,?_⟩) hHeld ?_ ?_;rotate_left
      ·exact zl16
      rotate_left
      ·exact zl0
      refine pure_ (i:=5) (N:=some 52) (v:=?_) (a':=?_) #[true,true,true,true,true,true,false,false,true,false,true,false,false,false,false,false,false] rfl rfl zq23 (fun _ _ _ h=>h) (Or.inl ⟨by rfl,?_⟩) ?_ ?_;rotate_left
      ·exact zl3
      rotate_left
      ·exact zl0
      refine pure_ (i:=6) (N:=some 53) (v:=?_) (a':=?_) #[true,true,true,true,true,true,true,false,true,false,true,false,false,false,false,false,false] rfl rfl zq23 (fun _ _ _ h=>h) (Or.inl ⟨by rfl,?_⟩) ?_ ?_;rotate_left
      ·exact zl3
      rotate_left
      ·exact zl0
      refine take_ (i:=7) (N:=some 54) (v:=?_) (a':=?_) #[true,true,true,true,true,true,true,true,true,false,true,false,false,false,false,false,false] rfl rfl zq23 (fun _ _ _ h=>h) (Or.inl ⟨by rfl,?_⟩) hHeld ?_ ?_;rotate_left
      ·exact zl16
      rotate_left
      ·exact zl0
      refine take_ (i:=9) (N:=some 56) (v:=?_) (a':=?_) #[true,true,true,true,true,true,true,true,true,true,true,false,false,false,false,false,false] rfl rfl zq23 (fun _ _ _ h=>h) (Or.inl ⟨by rfl,?_⟩) hHeld ?_ ?_;rotate_left
      ·exact zl16
      rotate_left
      ·exact zl0
      refine pure_ (i:=11) (N:=some 58) (v:=?_) (a':=?_) #[true,true,true,true,true,true,true,true,true,true,true,true,false,false,false,false,false] rfl rfl zq23 (fun _ _ _ h=>h) (Or.inl ⟨by rfl,?_⟩) ?_ ?_;rotate_left
      ·exact zl3
      rotate_left
      ·exact zl0
      refine pure_ (i:=12) (N:=some 59) (v:=?_) (a':=?_) #[true,true,true,true,true,true,true,true,true,true,true,true,true,false,false,false,false] rfl rfl zq23 (fun _ _ _ h=>h) (Or.inl ⟨by rfl,?_⟩) ?_ ?_;rotate_left
      ·exact zl3
      rotate_left
      ·exact zl0
      refine take_ (i:=13) (N:=some 60) (v:=?_) (a':=?_) #[true,true,true,true,true,true,true,true,true,true,true,true,true,true,false,false,false] rfl rfl zq23 (fun _ _ _ h=>h) (Or.inl ⟨by rfl,?_⟩) hHeld ?_ ?_;rotate_left
      ·exact zl16
      rotate_left
      ·exact zl0
      refine pure_ (i:=14) (N:=some 61) (v:=?_) (a':=?_) #[true,true,true,true,true,true,true,true,true,true,true,true,true,true,true,false,false] rfl rfl zq23 (fun _ _ _ h=>h) (Or.inl ⟨by rfl,?_⟩) ?_ ?_;rotate_left
      ·exact zl3
      rotate_left
      ·exact zl0
      refine last_ (i:=15) (N:=some 62) #[true,true,true,true,true,true,true,true,true,true,true,true,true,true,true,true,false] rfl rfl zq23 zq50 (fun K hK=>?_);refine append_str_step (w0:=w0) w0.heap.size (by rfl) (.tmp 47) (.tmp 61) 38 9 5 (by rfl) Try.underlying38 Try.underlying9 info5 _ oa (a0.extract b1 e1) (fun _=>True) (by rfl) (by rfl) (fun _ _=>trivial) HSa2.out.1 HSa2.out.2.2.2 HSa2.out.2.2.2.size (by omega) ?_;intro v1_ w4 ho_ hb_ hg_ hat_;have HSb:=mk0 (HSa2.out.step ho_ hb_ hg_ hat_);clear ho_ hb_ hg_ hat_;refine hK.out _ _ ?_;clear hK K;refine norm_ (a':=?_) ?_ ?_;rotate_left
      ·show Act.put _ (some 62) _=_
       exact zl0
      refine pure_ (i:=16) (N:=some 0) (v:=?_) (a':=?_) #[true,true,true,true,true,true,true,true,true,true,true,true,true,true,true,true,true] rfl rfl zq23 (fun _ _ _ h=>h) (Or.inl ⟨by rfl,?_⟩) ?_ ?_;rotate_left
      ·exact zl3
      rotate_left
      ·exact zl0
      refine done_ zq23 ?_;go_wp2_with (first|((with_reducible refine j1z (b := .append) (xs:=#[.tmp 63, .tmp 64]) rfl ?_);at_builtin;refine R_append_lits (w0:=w0) w0.heap.size rfl (.tmp 63) (.tmp 64) 38 5 .u8 1 rfl Try.underlying38 info5 zq50 _ (oa++bytesOf (a0.extract b1 e1)) [58] #[.int .u8 58] 1 rfl rfl (fun _=>True) rfl rfl (fun _ _=>trivial) HSb.out.1 HSb.out.2.2.2 HSb.out.2.2.2.size zq70 ?_;intro v1_ w2_ ho_ hb_ hg_ hat_;have HSbN:=mk0 (HSb.out.step ho_ hb_ hg_ hat_);clear ho_ hb_ hg_ hat_))
      go_meet
      case rel =>
       rw [HB1.out,HE1.out,Int.toNat_natCast,Int.toNat_natCast];exact HSbN
     case rest =>
     clear HSa HOB ax0 ax3 ax4;have HSc:=hcut;have hbx_:=HSc.out.box HBX.out HNE.out;have cx4:=(j1b hbx_ 4).trans rfl;clear hbx_;have hB0:=HSc.out.2.2.2;obtain ⟨ad,A5,c5,A6,c6,ead,hz0,hz1,hz2,hz3,hz4,hlc5,hC5,hlc6,hC6⟩:=at_T34 H4.out.1 (j:Int) (by omega) (by omega);rw [Int.toNat_natCast] at hz0 hz1 hz2 hz3 hz4;have hy0:=(j3k hB0 (World.block_lt_of_cell? w0 _ hz0)).trans hz0;have hy1:=(j3k hB0 (World.block_lt_of_cell? w0 _ hz1)).trans hz1;have hy2:=(j3k hB0 (World.block_lt_of_cell? w0 _ hz2)).trans hz2;have hy3:=(j3k hB0 (World.block_lt_of_cell? w0 _ hz3)).trans hz3;have hy4:=(j3k hB0 (World.block_lt_of_cell? w0 _ hz4)).trans hz4;have HX:=mk0 (And.intro hlc5 (And.intro hC5 (And.intro hlc6 hC6)));subst ead;clear hz0 hz1 hz2 hz3 hz4 hlc5 hC5 hlc6 hC6 hB0;go_wp2_with (first|(go_at_call 27;refine (IH.out ob a0 _ _ _ A5 c5 _ A6 c6 _ oc _ w0 _ HSc.out.2.2.2 HSc.out.1 HX.out.2.1 HX.out.1 HX.out.2.2.2 HX.out.2.2.1 HOC.out).mono ?_;rintro e_ w5_ ⟨v5_,rfl,hS5⟩;have HSe:=mk0 (HSc.out.step hS5.1 hS5.2.2.2 hS5.2.1 hS5.2.2.1);clear hS5))
     go_roundg (l4.length - (j+1))
     case measure=>omega
     case rel=>exact ⟨j+1,oc,by go_num,HSe,⟨by omega,HBLj.out⟩,rfl⟩
   case rest =>
    clear HS HSN HBL hx0 hx3 hx4;have HSd:=hcut;go_wp2_with (first|((with_reducible refine j1z (b := .append) (xs:=#[.tmp 75, .tmp 77]) rfl ?_);at_builtin;refine R_append_lits (w0:=w0) w0.heap.size rfl (.tmp 75) (.tmp 77) 38 5 .u8 1 rfl Try.underlying38 info5 zq50 _ o2 [125] #[.int .u8 125] 1 rfl rfl (fun _=>True) rfl rfl (fun _ _=>trivial) HSd.out.1 HSd.out.2.2.2 HSd.out.2.2.2.size zq70 ?_;intro v1_ w2_ ho_ hb_ hg_ hat_;have HSdN:=mk0 (HSd.out.step ho_ hb_ hg_ hat_);clear ho_ hb_ hg_ hat_))
    go_ret;exact ⟨_,rfl,HFIN.out _ _ _ HSdN.out⟩
  have e5:(p0 == 5)=false:=beq_eq_false_iff_ne.mpr hp5;have n5:(p0 != 5)=true:=bne_iff_ne.mpr hp5;have e6:(p0 == 6)=false:=beq_eq_false_iff_ne.mpr hp6;have n6:(p0 != 6)=true:=bne_iff_ne.mpr hp6;have d5:decide (p0=5)=false:=decide_eq_false hp5;have d6:decide (p0=6)=false:=decide_eq_false hp6;rw [if_neg (by rintro (h|h);exact hp5 h;exact hp6 h)] at h
  split at h
  case isFalse=>cases h
  case isTrue hpp =>
  obtain ⟨hq0,hq1,hq2⟩:=hpp;obtain ⟨b1,rfl⟩:=Int.eq_ofNat_of_zero_le hq0;obtain ⟨e1,rfl⟩:=Int.eq_ofNat_of_zero_le (show 0≤p2 by omega);simp only [Int.toNat_natCast] at h
  obtain ⟨hlu,rfl⟩:=appO_inv h;clear h hp5 hp6;go_wp2_with (first|((with_reducible refine j1z (b := .append) (xs:=#[.tmp 18, .tmp 24]) rfl ?_);at_builtin;refine R_append_str (w0:=w0) w0.heap.size rfl (.tmp 18) (.tmp 24) 38 9 5 rfl Try.underlying38 Try.underlying9 info5 _ o (a0.extract b1 e1) (fun _=>True) rfl rfl (fun _ _=>trivial) HS.out.1 HS.out.2.2.2 HS.out.2.2.2.size (by rw [bytesOf_length] at hlu;omega) ?_;intro v1_ w2_ ho_ hb_ hg_ hat_;have HSN:=mk0 (HS.out.step ho_ hb_ hg_ hat_);clear ho_ hb_ hg_ hat_))
  go_ret;exact ⟨_,rfl,HFIN.out _ _ _ HSN.out⟩
def bareF (k : Nat) (a0:ByteArray) (p0 p1 p2:Int) (l3:List S60) (l4:List S34):Option ByteArray:=(bT k [] a0 p0 p1 p2 l3 l4).map strOfNums
theorem bareF_mono (a0 : ByteArray) (p0 p1 p2:Int) (l3:List S60) (l4:List S34) (k:Nat):LeO (bareF k a0 p0 p1 p2 l3 l4) (bareF (k+1) a0 p0 p1 p2 l3 l4):=fun r h=>by
 obtain ⟨x,hx,e⟩:=Option.map_eq_some_iff.mp h;unfold bareF;rw [bT_mono k _ _ _ _ _ _ _ _ hx];exact congrArg some e
set_option maxHeartbeats 8000000 in
set_option maxRecDepth 100000 in
theorem bare0_calls (k : Nat) (a0:ByteArray) (p0 p1 p2:Int) (A3:Option Addr) (c3:Nat) (l3:List S60) (A4:Option Addr) (c4:Nat) (l4:List S34) (r:ByteArray) (w:World) (h3:Kd.C k60 w A3 l3.length l3) (hc3:l3.length≤c3) (h4:Kd.C k34 w A4 l4.length l4) (hc4:l4.length≤c4) (h:bareF k a0 p0 p1 p2 l3 l4=some r) :
 Calls Try.prog 19 #[.string a0, .agg #[.int .i64 p0, .int .i64 p1, .int .i64 p2, .slice A3 l3.length c3, .slice A4 l4.length c4]] w fun e w'=>e = .returned (.string r)∧Below w.heap.size w w':=by
 obtain ⟨U,hU,rfl⟩:=Option.map_eq_some_iff.mp h;have HP:=mk0 (fun o=>bare_calls k [] a0 p0 p1 p2 A3 c3 l3 A4 c4 l4 U (.slice none 0 0) w (w.alloc o) (j1s (Below.refl _ _) o) (Kd.R_nil _ _ _ _ _) h3 hc3 h4 hc4 hU);clear h h3 hc3 h4 hc4 hU;go_enter Try.func19,Try.ntmps19;go_wp2_with fail
 refine (HP.out _).mono ?_;rintro e_ w3 ⟨v3,rfl,hS⟩;obtain ⟨A5,c5,rfl,_,hC3⟩:=Kd.R_reads hS.1;have ks:=Kd.C_string (P:=Try.prog) Try.underlying38 Try.underlying5 Try.underlying9 (c:=c5) hC3;have HB3:=mk0 hS.2.2.2;clear hS hC3;go_wp2_with fail
 go_ret;exact ⟨rfl,HB3.out⟩
def j2r.f (k : Nat) (a0:ByteArray) (a1_0 a1_1 a1_2:Int) (l1_3:List (S60)) (l1_4:List (S34)):Option (ByteArray):=bareF k a0 a1_0 a1_1 a1_2 l1_3 l1_4
theorem j2r.mono : ∀ a0 a1 a2 a3 a4 a5 k,LeO (j2r.f k a0 a1 a2 a3 a4 a5) (j2r.f (k+1) a0 a1 a2 a3 a4 a5):=bareF_mono
theorem j2r.calls (k : Nat) (a0:ByteArray) (a1_0 a1_1 a1_2:Int) (A1_3:Option Addr) (c1_3:Nat) (l1_3:List (S60)) (A1_4:Option Addr) (c1_4:Nat) (l1_4:List (S34)) (r:ByteArray) (w:World) (hr1_3:Kd.C k60 w A1_3 l1_3.length l1_3) (hc1_3:l1_3.length≤c1_3) (hr1_4:Kd.C k34 w A1_4 l1_4.length l1_4) (hc1_4:l1_4.length≤c1_4) (h:j2r.f k a0 a1_0 a1_1 a1_2 l1_3 l1_4=some r) :
 Calls Try.prog 19 #[.string a0, .agg #[.int .i64 a1_0, .int .i64 a1_1, .int .i64 a1_2, .slice A1_3 l1_3.length c1_3, .slice A1_4 l1_4.length c1_4]] w fun e w'=>e = .returned (.string r)∧Below w.heap.size w w':=bare0_calls k a0 a1_0 a1_1 a1_2 A1_3 c1_3 l1_3 A1_4 c1_4 l1_4 r w hr1_3 hc1_3 hr1_4 hc1_4 h
end Go.Proofs.Ytchhndbekjgimaa.S
end
