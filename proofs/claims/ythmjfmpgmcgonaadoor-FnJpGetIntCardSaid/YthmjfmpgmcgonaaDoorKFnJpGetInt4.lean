/- The words, walks and laws that the proof rests on, laid together (part 4). -/
import Derived.Test.YthmjfmpgmcgonaaDoorKFnJpGetInt3
section
namespace Go.Proofs.YthmjfmpgmcgonaaDoor.K
open Go.RowKit Go.Proofs.YthmjfmpgmcgonaaDoorW.PrintWords Go.Proofs.YthmjfmpgmcgonaaDoorW.PrintLast Go.Proofs.YthmjfmpgmcgonaaDoorW.PrintMore
attribute [local go_sem] max2_int min2_int max_two min_two max_three min_three max_four min_four
set_option linter.unusedVariables false
set_option linter.unusedSimpArgs false
set_option maxHeartbeats 16000000 in
set_option maxRecDepth 100000 in
theorem gt_arr (a0 a1 : Bool) (a2:Int) (b o c:Nat) (l:List Int) (off:Nat) (w:World) (hT:Laid w) (hI:IN w b o l) (hc:l.length≤c) (hoff:off<l.length) (hx:l.getD off 0=91) :
 Calls Tryd.prog 69 #[.agg #[.bool a0, .bool a1, .int .i64 a2], .slice (some ⟨b,o,none⟩) l.length c, .int .i64 (off:Int)] w fun e w'=>GPost w b l off (gT a0 l off) e w':=by
 have hlm:=hI.max;have hcf:=j4h w a0 a1 a2 93;have hB0:=(Below.refl w.heap.size w).alloc (Nat.le_refl _) (.cells #[.bool a0, .bool a1, .int .i64 a2] 93);have HB0:=mk0 hB0;have hI1:=hI.below hB0;have hcx:=hI1.cell off hoff;rw [hx] at hcx;obtain ⟨te,pe,heS⟩:=(hT.below hB0).eA;obtain ⟨o1,hcut,hI2,hcc⟩:=j4a hI1 c off (by omega) hc;rw [List.length_drop] at hcut hcc
 have hg:gT a0 l off=if bE a0 91 93 (l.drop off) 0 0<0 then ⟨4,off,false⟩ else ⟨4,(bE a0 91 93 (l.drop off) 0 0).toNat+off,true⟩:=by
  unfold gT;rw [hx];rfl
 clear hx;have rng:=bE_range a0 91 93 _ (l.drop off) 0 0 (Nat.le_refl _);rw [List.length_drop] at rng;have hse:=fun (W:World) (w1:World) (h1:w1=w.alloc (.cells #[.bool a0, .bool a1, .int .i64 a2] 93)) (hb:Below w1.heap.size w1 W)=>be_calls a0 a1 a2 b o1 (l.length - off) (c - off) (l.drop off) 91 93 W (hI2.below (h1 ▸ hb)) List.length_drop hcc zq47
 have hmid:∀ m:Nat,m+off≤l.length→∃ o3,(∀ W:World,(Instr.slice 55 (.slice (some ⟨b,o,none⟩) l.length c) (some (.int .i64 (off:Int))) (some (.int .i64 ((m:Int)+(off:Int)))) none).run Tryd.prog W = .ok (.slice (some ⟨b,o3,none⟩) m (c - off)) W)∧IN w b o3 ((l.drop off).take m)∧m≤c - off:=fun m hm=>by
  have:=cut_mid hI c off (m+off) (by omega) hm hc
  push_cast at this
  rw [show m+off - off=m by omega] at this;exact this
 generalize bE a0 91 93 (l.drop off) 0 0=be at hg rng hse
 have RNG:=mk0 rng;have HMID:=mk0 hmid;have HG:=mk0 hg;have HOFF:=mk0 hoff;have t2:(0≤(off:Int))=True:=eq_true (by omega);have t3:((off:Int)<(l.length:Int))=True:=eq_true (by omega);clear rng hmid hg hcc hI2 hI hT hB0 hoff hI1;go_enter Tryd.func69,Tryd.ntmps69
 go_upto_region 3 with (fail)
 obtain ⟨gc,hgc⟩:∃ gc,gc=w.heap.size:=⟨_,rfl⟩;rw [← hgc] at hcf ⊢
 generalize hw1:w.alloc (.cells #[.bool a0, .bool a1, .int .i64 a2] 93)=w1 at hcf HB0 hcx heS hse ⊢
 replace hse:=fun W (hb:Below w1.heap.size w1 W)=>hse W w1 rfl hb
 have HSE:=mk0 hse;have HGC:=mk0 hgc;obtain ⟨hc0,hc1,hc2⟩:=hcf;clear hse hgc hw1;have HD:=mk0 (j1l (Below.refl w1.heap.size w1));cases a0
 all_goals
  go_wp2_with fail
  refine j4g (n:=6) (S:=fun w'=>w'.cell? ⟨gc,0,none⟩=some (.bool _)∧w'.cell? ⟨gc,1,none⟩=some (.bool a1)∧w'.cell? ⟨gc,2,none⟩=some (.int .i64 a2)) (ds:=[4]) #[false,false,false,false,false,false] zq14 rfl rfl ⟨hc0,hc1,hc2⟩ (fun hHeld=>?_)
  generalize w1.drew=w2 at HD hHeld ⊢
  refine pure_ (i:=1) (N:=some 61) (v:=?_) (a':=?_) #[false,true,false,false,false,false] rfl rfl zq14 (fun _ _ _ h=>h) (Or.inl ⟨by rfl,?_⟩) ?_ ?_;rotate_left
  ·intro w';go_simp
   exact zl4
  rotate_left
  ·exact zl0
  refine pure_ (i:=2) (N:=some 62) (v:=?_) (a':=?_) #[false,true,true,false,false,false] rfl rfl zq14 (fun _ _ _ h=>h) (Or.inl ⟨by rfl,?_⟩) ?_ ?_;rotate_left
  ·intro w';go_simp
   exact zl4
  rotate_left
  ·exact zl0
  refine pure_ (i:=3) (N:=some 63) (v:=?_) (a':=?_) #[false,true,true,true,false,false] rfl rfl zq14 (fun _ _ _ h=>h) (Or.inl ⟨by rfl,?_⟩) ?_ ?_;rotate_left
  ·intro w';go_simp
   exact zl4
  rotate_left
  ·exact zl0
  refine take_ (i:=0) (N:=some 60) (v:=?_) (a':=?_) #[true,true,true,true,false,false] rfl rfl zq14 (fun _ _ _ h=>h) (Or.inl ⟨by rfl,?_⟩) hHeld ?_ ?_;rotate_left
  ·rintro w' ⟨s0,s1,s2⟩;go_simp
   exact zl4
  rotate_left
  ·exact zl0
  refine last_ (i:=4) (N:=some 64) #[true,true,true,true,true,false] rfl rfl zq14 zq47 (fun K hK=>?_);refine goes_ Tryd.func77 zq14 rfl #[.agg #[.bool _, .bool a1, .int .i64 a2], .slice (some ⟨b,o1,none⟩) (l.length - off) (c - off), .int .u8 91, .int .u8 93] (by rfl) rfl rfl zq27 ?_
  with_reducible refine (HSE.out _ HD.out).mono ?_
  rintro e_ w3 ⟨rfl,hb⟩;refine ⟨_,rfl,?_⟩;have HB3:=mk0 (j1p HD.out hb);have hlt:=World.block_lt_of_cell? _ _ heS;have heS3:=(j2r HB3.out hlt).trans heS;clear hb hlt heS;refine hK.out _ _ ?_;clear hK K;refine norm_ (a':=?_) ?_ ?_;rotate_left
  ·show Act.put _ (some 64) _=_
   exact zl0
  refine pure_ (i:=5) (N:=some 11) (v:=?_) (a':=?_) #[true,true,true,true,true,true] rfl rfl zq14 (fun _ _ _ h=>h) (Or.inl ⟨by rfl,?_⟩) ?_ ?_;rotate_left
  ·intro w';go_simp
   exact zl4
  rotate_left
  ·exact zl0
  refine done_ zq14 ?_;rcases RNG.out with h1|⟨m,h1,h2,h3⟩
  ·have hg:=HG.out;rw [h1,if_pos zq47] at hg;have HG2:=mk0 hg;rw [h1];clear hg h1;go_wp2
   repeat (go_quiet (fail);try go_wp2)
   (try simp only [Exit.inBlock,Exit.then])
   refine bodyPost_ret (j3f rfl _ _ _) rfl ?_;exact GPost.noI zq72 HG2.out
  ·have hg:=HG.out;rw [h1,if_neg (by omega),Int.toNat_natCast] at hg;have HG2:=mk0 hg;have hle:m+off≤l.length:=by have:=HOFF.out;omega
   obtain ⟨o3,hcut3,hI3,hc3⟩:=HMID.out m hle;have HI3:=mk0 (And.intro hI3 hc3);have f2:((m:Int) == -1)=false:=beq_eq_false_iff_ne.mpr (by omega);have f3:decide ((m:Int) = -1)=false:=decide_eq_false (by omega);have hml:m≤2147483647:=by omega
   rw [h1];clear hg h1 hI3 hc3;go_wp2
   (try simp only [Exit.inBlock,Exit.then])
   refine bodyPost_ret (j3f rfl _ _ _) rfl ?_;exact zl20
set_option maxHeartbeats 16000000 in
set_option maxRecDepth 100000 in
theorem gt_obj (a0 a1 : Bool) (a2:Int) (b o c:Nat) (l:List Int) (off:Nat) (w:World) (hT:Laid w) (hI:IN w b o l) (hc:l.length≤c) (hoff:off<l.length) (hx:l.getD off 0=123) :
 Calls Tryd.prog 69 #[.agg #[.bool a0, .bool a1, .int .i64 a2], .slice (some ⟨b,o,none⟩) l.length c, .int .i64 (off:Int)] w fun e w'=>GPost w b l off (gT a0 l off) e w':=by
 have hlm:=hI.max;have hcf:=j4h w a0 a1 a2 93;have hB0:=(Below.refl w.heap.size w).alloc (Nat.le_refl _) (.cells #[.bool a0, .bool a1, .int .i64 a2] 93);have HB0:=mk0 hB0;have hI1:=hI.below hB0;have hcx:=hI1.cell off hoff;rw [hx] at hcx;obtain ⟨te,pe,heS⟩:=(hT.below hB0).eO;obtain ⟨o1,hcut,hI2,hcc⟩:=j4a hI1 c off (by omega) hc;rw [List.length_drop] at hcut hcc
 have hg:gT a0 l off=if bE a0 123 125 (l.drop off) 0 0<0 then ⟨3,off,false⟩ else ⟨3,(bE a0 123 125 (l.drop off) 0 0).toNat+off,true⟩:=by
  unfold gT;rw [hx];rfl
 clear hx;have rng:=bE_range a0 123 125 _ (l.drop off) 0 0 (Nat.le_refl _);rw [List.length_drop] at rng;have hse:=fun (W:World) (w1:World) (h1:w1=w.alloc (.cells #[.bool a0, .bool a1, .int .i64 a2] 93)) (hb:Below w1.heap.size w1 W)=>be_calls a0 a1 a2 b o1 (l.length - off) (c - off) (l.drop off) 123 125 W (hI2.below (h1 ▸ hb)) List.length_drop hcc zq47
 have hmid:∀ m:Nat,m+off≤l.length→∃ o3,(∀ W:World,(Instr.slice 55 (.slice (some ⟨b,o,none⟩) l.length c) (some (.int .i64 (off:Int))) (some (.int .i64 ((m:Int)+(off:Int)))) none).run Tryd.prog W = .ok (.slice (some ⟨b,o3,none⟩) m (c - off)) W)∧IN w b o3 ((l.drop off).take m)∧m≤c - off:=fun m hm=>by
  have:=cut_mid hI c off (m+off) (by omega) hm hc
  push_cast at this
  rw [show m+off - off=m by omega] at this;exact this
 generalize bE a0 123 125 (l.drop off) 0 0=be at hg rng hse
 have RNG:=mk0 rng;have HMID:=mk0 hmid;have HG:=mk0 hg;have HOFF:=mk0 hoff;have t2:(0≤(off:Int))=True:=eq_true (by omega);have t3:((off:Int)<(l.length:Int))=True:=eq_true (by omega);clear rng hmid hg hcc hI2 hI hT hB0 hoff hI1;go_enter Tryd.func69,Tryd.ntmps69
 go_upto_region 3 with (fail)
 obtain ⟨gc,hgc⟩:∃ gc,gc=w.heap.size:=⟨_,rfl⟩;rw [← hgc] at hcf ⊢
 generalize hw1:w.alloc (.cells #[.bool a0, .bool a1, .int .i64 a2] 93)=w1 at hcf HB0 hcx heS hse ⊢
 replace hse:=fun W (hb:Below w1.heap.size w1 W)=>hse W w1 rfl hb
 have HSE:=mk0 hse;have HGC:=mk0 hgc;obtain ⟨hc0,hc1,hc2⟩:=hcf;clear hse hgc hw1;have HD:=mk0 (j1l (Below.refl w1.heap.size w1));cases a0
 all_goals
  go_wp2_with fail
  refine j4g (n:=6) (S:=fun w'=>w'.cell? ⟨gc,0,none⟩=some (.bool _)∧w'.cell? ⟨gc,1,none⟩=some (.bool a1)∧w'.cell? ⟨gc,2,none⟩=some (.int .i64 a2)) (ds:=[4]) #[false,false,false,false,false,false] zq14 rfl rfl ⟨hc0,hc1,hc2⟩ (fun hHeld=>?_)
  generalize w1.drew=w2 at HD hHeld ⊢
  refine pure_ (i:=1) (N:=some 79) (v:=?_) (a':=?_) #[false,true,false,false,false,false] rfl rfl zq14 (fun _ _ _ h=>h) (Or.inl ⟨by rfl,?_⟩) ?_ ?_;rotate_left
  ·intro w';go_simp
   exact zl4
  rotate_left
  ·exact zl0
  refine pure_ (i:=2) (N:=some 80) (v:=?_) (a':=?_) #[false,true,true,false,false,false] rfl rfl zq14 (fun _ _ _ h=>h) (Or.inl ⟨by rfl,?_⟩) ?_ ?_;rotate_left
  ·intro w';go_simp
   exact zl4
  rotate_left
  ·exact zl0
  refine pure_ (i:=3) (N:=some 81) (v:=?_) (a':=?_) #[false,true,true,true,false,false] rfl rfl zq14 (fun _ _ _ h=>h) (Or.inl ⟨by rfl,?_⟩) ?_ ?_;rotate_left
  ·intro w';go_simp
   exact zl4
  rotate_left
  ·exact zl0
  refine take_ (i:=0) (N:=some 78) (v:=?_) (a':=?_) #[true,true,true,true,false,false] rfl rfl zq14 (fun _ _ _ h=>h) (Or.inl ⟨by rfl,?_⟩) hHeld ?_ ?_;rotate_left
  ·rintro w' ⟨s0,s1,s2⟩;go_simp
   exact zl4
  rotate_left
  ·exact zl0
  refine last_ (i:=4) (N:=some 82) #[true,true,true,true,true,false] rfl rfl zq14 zq47 (fun K hK=>?_);refine goes_ Tryd.func77 zq14 rfl #[.agg #[.bool _, .bool a1, .int .i64 a2], .slice (some ⟨b,o1,none⟩) (l.length - off) (c - off), .int .u8 123, .int .u8 125] (by rfl) rfl rfl zq27 ?_
  with_reducible refine (HSE.out _ HD.out).mono ?_
  rintro e_ w3 ⟨rfl,hb⟩;refine ⟨_,rfl,?_⟩;have HB3:=mk0 (j1p HD.out hb);have hlt:=World.block_lt_of_cell? _ _ heS;have heS3:=(j2r HB3.out hlt).trans heS;clear hb hlt heS;refine hK.out _ _ ?_;clear hK K;refine norm_ (a':=?_) ?_ ?_;rotate_left
  ·show Act.put _ (some 82) _=_
   exact zl0
  refine pure_ (i:=5) (N:=some 11) (v:=?_) (a':=?_) #[true,true,true,true,true,true] rfl rfl zq14 (fun _ _ _ h=>h) (Or.inl ⟨by rfl,?_⟩) ?_ ?_;rotate_left
  ·intro w';go_simp
   exact zl4
  rotate_left
  ·exact zl0
  refine done_ zq14 ?_;rcases RNG.out with h1|⟨m,h1,h2,h3⟩
  ·have hg:=HG.out;rw [h1,if_pos zq47] at hg;have HG2:=mk0 hg;rw [h1];clear hg h1;go_wp2
   repeat (go_quiet (fail);try go_wp2)
   (try simp only [Exit.inBlock,Exit.then])
   refine bodyPost_ret (j3f rfl _ _ _) rfl ?_;exact GPost.noI zq72 HG2.out
  ·have hg:=HG.out;rw [h1,if_neg (by omega),Int.toNat_natCast] at hg;have HG2:=mk0 hg;have hle:m+off≤l.length:=by have:=HOFF.out;omega
   obtain ⟨o3,hcut3,hI3,hc3⟩:=HMID.out m hle;have HI3:=mk0 (And.intro hI3 hc3);have f2:((m:Int) == -1)=false:=beq_eq_false_iff_ne.mpr (by omega);have f3:decide ((m:Int) = -1)=false:=decide_eq_false (by omega);have hml:m≤2147483647:=by omega
   rw [h1];clear hg h1 hI3 hc3;go_wp2
   (try simp only [Exit.inBlock,Exit.then])
   refine bodyPost_ret (j3f rfl _ _ _) rfl ?_;exact zl20
theorem gt_calls (a0 a1 : Bool) (a2:Int) (b o n c:Nat) (l:List Int) (off:Nat) (w:World) (hT:Laid w) (hI:IN w b o l) (hn:l.length=n) (hc:n≤c) (hoff:off<l.length) :
 Calls Tryd.prog 69 #[.agg #[.bool a0, .bool a1, .int .i64 a2], .slice (some ⟨b,o,none⟩) n c, .int .i64 (off:Int)] w fun e w'=>GPost w b l off (gT a0 l off) e w':=by
 subst hn;by_cases h1:l.getD off 0=34∨(l.getD off 0=39∧a0=true)
 ·exact gt_str a0 a1 a2 b o c l off w hT hI hc hoff h1
 by_cases h2:l.getD off 0=91
 ·exact gt_arr a0 a1 a2 b o c l off w hT hI hc hoff h2
 by_cases h3:l.getD off 0=123
 ·exact gt_obj a0 a1 a2 b o c l off w hT hI hc hoff h3
 exact gt_lit a0 a1 a2 b o c l off w hT hI hc hoff h1 h2 h3
theorem slc_hm (A : Option Addr) (n c m:Nat) (hm:m≤c):∀ W:World,(Instr.slice 55 (.slice A n c) none (some (.int .i64 (m:Int))) (some (.int .i64 (m:Int)))).run Tryd.prog W = .ok (.slice A m m) W:=fun W=>by
 obtain ⟨i0,hi,hzz⟩:=Option.map_eq_some_iff.1 info5;simp only [Prod.mk.injEq] at hzz;have hel:(Tryd.prog).elem 55=5:=by simp [Program.elem,Tryd.underlying55]
 have hu:(Tryd.prog).underlying 55=some (.slice ((Tryd.prog).elem 55)):=by rw [hel];exact Tryd.underlying55
 rw [run_slice_hm W 55 A n c hu .i64 .i64 (m:Int) (m:Int) (Int.natCast_nonneg _) (by omega) (by omega),hel];cases A with
 | none=>simp [sizeOf,typeInfo,hi,hzz.2.1,sliced,Result.andThen]
 | some a=>simp [sizeOf,typeInfo,hi,hzz.2.1,sliced,Result.andThen,Addr.add]
theorem gT_str {sq : Bool} {l:List Int} {off:Nat} (hk:(gT sq l off).kd=1) (hok:(gT sq l off).ok=true):off+2≤(gT sq l off).en:=by
 unfold gT at *;by_cases h1:l.getD off 0=34∨(l.getD off 0=39∧sq=true)
 rotate_left
 ·rw [if_neg h1] at *
  exfalso
  unfold litB at *
  revert hk
  split
  ·split<;>simp
  split
  ·split<;>simp
  split
  ·split<;>simp
  split
  ·split<;>simp
  split<;>simp
 rw [if_pos h1] at *;by_cases h2:(strE (l.getD off 0) (l.drop (off+1)) 0 false false).1<0
 ·rw [if_pos h2] at hok;cases hok
 rw [if_neg h2] at *;rcases j4m (l.getD off 0) (l.drop (off+1)) 0 false false with h6|⟨m,h6,h7,h8⟩
 ·rw [h6] at h2;exact absurd zq47 h2
 ·rw [h6,Int.toNat_natCast];simp only;omega
def vB (g : GR) (off:Nat):Nat:=if g.kd=1 then off+1 else off
def vN (g : GR) (off:Nat):Nat:=if g.kd=1 then g.en - off - 2 else g.en - off
def IPost (w0 : World) (b:Nat) (sq:Bool) (l:List Int) (off0:Nat) (e:Ending) (w':World):Prop :=
  Below w0.heap.size w0 w' ∧
    ((nT (l.drop off0) 0 = -1∧∃ te pe,e = .returned (.tuple #[.slice none 0 0, .int .i64 0, .int .i64 (off0:Int), .int .i64 (-1), .iface te pe])) ∨
     ∃ j:Nat,nT (l.drop off0) 0=(j:Int) ∧
      (((gT sq l (off0+j)).ok=false∧∃ te pe,e = .returned (.tuple #[.slice none 0 0, .int .i64 (gT sq l (off0+j)).kd, .int .i64 ((off0+j:Nat):Int), .int .i64 ((off0+j:Nat):Int), .iface te pe])) ∨
       ((gT sq l (off0+j)).ok=true∧∃ o1,e = .returned (.tuple #[.slice (some ⟨b,o1,none⟩) (vN (gT sq l (off0+j)) (off0+j)) (vN (gT sq l (off0+j)) (off0+j)), .int .i64 (gT sq l (off0+j)).kd, .int .i64 ((off0+j:Nat):Int), .int .i64 ((gT sq l (off0+j)).en:Int), .nilIface])∧IN w0 b o1 ((l.drop (vB (gT sq l (off0+j)) (off0+j))).take (vN (gT sq l (off0+j)) (off0+j))))))
theorem IN.back {w0 W : World} {b o:Nat} {l:List Int} (h:IN W b o l) (hb:Below w0.heap.size w0 W) (hlt:b<w0.heap.size):IN w0 b o l :=
 ⟨fun i hi=>(j2r hb hlt).symm.trans (h.cell i hi),hlt,h.u8,h.max⟩
theorem IPost.okI {w0 w3 w':World} {b o1:Nat} {sq:Bool} {l:List Int} {off0 j vn:Nat} {kd z:Int} {g:GR} (hb:Below w0.heap.size w0 w') (h3:Below w0.heap.size w0 w3) (hlt:b<w0.heap.size) (hj:nT (l.drop off0) 0=(j:Int)) (hg:g=gT sq l (off0+j)) (hok:g.ok=true) (hkd:kd=g.kd) (hv:vn=vN g (off0+j)) (hz:z=((off0+j:Nat):Int)) (hI:IN w3 b o1 ((l.drop (vB g (off0+j))).take vn)) :
 IPost w0 b sq l off0 (.returned (.tuple #[.slice (some ⟨b,o1,none⟩) vn vn, .int .i64 kd, .int .i64 z, .int .i64 (g.en:Int), .nilIface])) w':=by
 subst hg hkd hv hz;exact ⟨hb, .inr ⟨j,hj, .inr ⟨hok,o1,rfl,hI.back h3 hlt⟩⟩⟩
theorem IPost.noI {w0 w' : World} {b:Nat} {sq:Bool} {l:List Int} {off0 j:Nat} {z z2:Int} {g:GR} {te:TypeId} {pe:Value} (hb:Below w0.heap.size w0 w') (hj:nT (l.drop off0) 0=(j:Int)) (hg:g=gT sq l (off0+j)) (hok:g.ok=false) (hz:z=((off0+j:Nat):Int)) (hz2:z2=((off0+j:Nat):Int)) :
 IPost w0 b sq l off0 (.returned (.tuple #[.slice none 0 0, .int .i64 g.kd, .int .i64 z, .int .i64 z2, .iface te pe])) w':=by
 subst hg hz hz2;exact ⟨hb, .inr ⟨j,hj, .inl ⟨hok,te,pe,rfl⟩⟩⟩
theorem IPost.emI {w0 w' : World} {b:Nat} {sq:Bool} {l:List Int} {off0:Nat} {z:Int} {te:TypeId} {pe:Value} (hb:Below w0.heap.size w0 w') (hj:nT (l.drop off0) 0 = -1) (hz:z=(off0:Int)) :
 IPost w0 b sq l off0 (.returned (.tuple #[.slice none 0 0, .int .i64 0, .int .i64 z, .int .i64 (-1), .iface te pe])) w':=by
 subst hz;exact ⟨hb, .inl ⟨hj,te,pe,rfl⟩⟩
def KPost (w0 : World) (b:Nat) (sq:Bool) (l:List Int) (R:Int) (e:Ending) (w':World):Prop :=
  (R = -1∧(∃ te pe,e = .returned (.tuple #[.slice none 0 0, .int .i64 0, .int .i64 (-1), .int .i64 (-1), .iface te pe]))∧Below w0.heap.size w0 w') ∨
    ∃ m:Nat,R=(m:Int)∧IPost w0 b sq l m e w'
theorem KPost.noI {w0 w' : World} {b:Nat} {sq:Bool} {l:List Int} {R:Int} {te:TypeId} {pe:Value} (hR:R = -1) (hb:Below w0.heap.size w0 w') :
 KPost w0 b sq l R (.returned (.tuple #[.slice none 0 0, .int .i64 0, .int .i64 (-1), .int .i64 (-1), .iface te pe])) w' := .inl ⟨hR,⟨te,pe,rfl⟩,hb⟩
theorem KPost.yes {w0 w' : World} {b:Nat} {sq:Bool} {l:List Int} {R:Int} {m:Nat} {e:Ending} (hR:R=(m:Int)) (h:IPost w0 b sq l m e w'):KPost w0 b sq l R e w' := .inr ⟨m,hR,h⟩
set_option maxHeartbeats 16000000 in
set_option maxRecDepth 100000 in
theorem ig0_calls (a0 a1 : Bool) (a2:Int) (b o n c:Nat) (l:List Int) (KA:Option Addr) (kc:Nat) (w:World) (hT:Laid w) (hI:IN w b o l) (hn:l.length=n) (hc:n≤c) :
 Calls Tryd.prog 53 #[.agg #[.bool a0, .bool a1, .int .i64 a2], .slice (some ⟨b,o,none⟩) n c, .slice KA 0 kc] w fun e w'=>IPost w b a0 l 0 e w':=by
 subst hn;have hlm:=hI.max;have hcf:=j4h w a0 a1 a2 93;have hB0:=(Below.refl w.heap.size w).alloc (Nat.le_refl _) (.cells #[.bool a0, .bool a1, .int .i64 a2] 93);have HB0:=mk0 hB0;have hgs:w.heap.size<(w.alloc (.cells #[.bool a0, .bool a1, .int .i64 a2] 93)).heap.size:=World.block_lt_of_cell? _ _ hcf.1;obtain ⟨te,pe,heJ⟩:=(hT.below hB0).eJ;obtain ⟨tk,pk,heK⟩:=(hT.below hB0).eK;obtain ⟨o1,hcut,hI1,hcc⟩:=j4a hI c 0 (by omega) hc;rw [List.length_drop] at hcut hcc;have hrg:=j3w (l.drop 0) 0;rw [List.length_drop] at hrg
 have HRG:Aside0 (nT l 0 = -1∨∃ j:Nat,nT l 0=(j:Int)∧0+j<l.length):=⟨by
  rcases hrg with h|⟨j,h,h2,h3⟩
  ·exact .inl h
  ·exact .inr ⟨j,h,by omega⟩⟩
 have HI1:=mk0 hI1;have HLM:Aside0 (0≤l.length):=⟨Nat.zero_le _⟩;obtain ⟨m,hm⟩:∃ m,m=0:=⟨_,rfl⟩;have hm0:(0:Int)=((m:Nat):Int):=by rw [hm];rfl
 replace hT:=mk0 hT;replace hI:=mk0 hI;have HC:=mk0 hc;clear hB0 hc;go_enter Tryd.func53,Tryd.ntmps53
 go_upto_region 1 with (fail)
 obtain ⟨gc,hgc⟩:∃ gc,gc=w.heap.size:=⟨_,rfl⟩;rw [← hgc] at hcf hgs ⊢
 generalize hw1:w.alloc (.cells #[.bool a0, .bool a1, .int .i64 a2] 93)=w1 at hcf HB0 heJ heK hgs ⊢
 have HGC:=mk0 hgc;have hgl:=hgs;obtain ⟨hc0,hc1,hc2⟩:=hcf;clear hgc hw1 hgs;clear hm hm0 hcc hrg hI1;have hWX:=mk0 HB0.out;have HD:=mk0 (j1l (Below.refl w1.heap.size w1));have HD2:=mk0 (j1p hWX.out HD.out);have hltJ:=World.block_lt_of_cell? _ _ heJ;go_wp2_with fail
 refine j4g (n:=6) (S:=fun w'=>w'.cell? ⟨gc,0,none⟩=some (.bool a0)∧w'.cell? ⟨gc,1,none⟩=some (.bool a1)∧w'.cell? ⟨gc,2,none⟩=some (.int .i64 a2)) (ds:=[4]) #[false,false,false,false,false,false] zq14 rfl rfl ⟨hc0,hc1,hc2⟩ (fun hHeld=>?_)
 generalize w1.drew=w2 at HD HD2 hHeld ⊢
 refine pure_ (i:=1) (N:=some 23) (v:=?_) (a':=?_) #[false,true,false,false,false,false] rfl rfl zq14 (fun _ _ _ h=>h) (Or.inl ⟨by rfl,?_⟩) ?_ ?_;rotate_left
 ·intro w';go_simp
  exact zl4
 rotate_left
 ·exact zl0
 refine pure_ (i:=2) (N:=some 24) (v:=?_) (a':=?_) #[false,true,true,false,false,false] rfl rfl zq14 (fun _ _ _ h=>h) (Or.inl ⟨by rfl,?_⟩) ?_ ?_;rotate_left
 ·intro w';go_simp
  exact zl4
 rotate_left
 ·exact zl0
 refine pure_ (i:=3) (N:=some 25) (v:=?_) (a':=?_) #[false,true,true,true,false,false] rfl rfl zq14 (fun _ _ _ h=>h) (Or.inl ⟨by rfl,?_⟩) ?_ ?_;rotate_left
 ·intro w';go_simp
  exact zl4
 rotate_left
 ·exact zl0
 refine take_ (i:=0) (N:=some 22) (v:=?_) (a':=?_) #[true,true,true,true,false,false] rfl rfl zq14 (fun _ _ _ h=>h) (Or.inl ⟨by rfl,?_⟩) hHeld ?_ ?_;rotate_left
 ·rintro w' ⟨s0,s1,s2⟩;go_simp
  exact zl4
 rotate_left
 ·exact zl0
 refine last_ (i:=4) (N:=some 26) #[true,true,true,true,true,false] rfl rfl zq14 zq47 (fun K hK=>?_);refine goes_ Tryd.func59 zq14 rfl #[.agg #[.bool a0, .bool a1, .int .i64 a2], .slice (some ⟨b,o,none⟩) l.length c] (by rfl) rfl rfl zq27 ?_
 with_reducible refine (nt_calls a0 a1 a2 b o l.length c l _ (hI.out.below HD2.out) rfl).mono ?_
 rintro e_ w3 ⟨rfl,hb⟩;refine ⟨_,rfl,?_⟩;have HB3:=mk0 (j1p HD2.out hb);have HW3:=mk0 (j1p HD.out hb);have hd0:=(j2r HW3.out hgl).trans hc0;have hd1:=(j2r HW3.out hgl).trans hc1;have hd2:=(j2r HW3.out hgl).trans hc2;have heJ3:=(j2r HW3.out hltJ).trans heJ;clear hb hc0 hc1 hc2 hltJ heJ;refine hK.out _ _ ?_;clear hK K;refine norm_ (a':=?_) ?_ ?_;rotate_left
 ·show Act.put _ (some 26) _=_
  exact zl0
 refine pure_ (i:=5) (N:=some 11) (v:=?_) (a':=?_) #[true,true,true,true,true,true] rfl rfl zq14 (fun _ _ _ h=>h) (Or.inl ⟨by rfl,?_⟩) ?_ ?_;rotate_left
 ·intro w';go_simp
  exact zl4
 rotate_left
 ·exact zl0
 refine done_ zq14 ?_;rcases HRG.out with h1|⟨j,h1,hjl⟩
 ·have HR:=mk0 h1;rw [h1];clear h1;go_wp2
  repeat (go_quiet (fail);try go_wp2)
  (try simp only [Exit.inBlock,Exit.then])
  refine bodyPost_ret (j3s rfl _ _ _) rfl ?_;exact IPost.emI (by repeat (first|exact HB3.out|apply j1d|apply j1l)) HR.out (by omega)
 ·have HR:=mk0 h1;have hjm:j<l.length:=by omega
  have HJM:=mk0 hjm;have hmm:=HLM.out;have HGT:=mk0 (gt_calls a0 a1 a2 b o l.length c l j w3 (hT.out.below HB3.out) (hI.out.below HB3.out) rfl HC.out hjm);have hja:((j:Nat):Int)=(j:Int):=rfl;rw [hja] at HGT;have HJA:=mk0 hja;have f2:((j:Int) == -1)=false:=beq_eq_false_iff_ne.mpr (by omega);have f3:decide ((j:Int) = -1)=false:=decide_eq_false (by omega);have rg:=gT_range (sq:=a0) hjm;have hst:(gT a0 l j).ok=true→(gT a0 l j).kd=1→j+2≤(gT a0 l j).en:=fun h1 h2=>gT_str h2 h1
  rw [h1];clear h1 hja;obtain ⟨g,hg⟩:∃ g,g=gT a0 l j:=⟨_,rfl⟩;rw [← hg] at HGT rg hst;have HGG:=mk0 hg;have HST:=mk0 hst;have HRG2:=mk0 rg;clear hg hst rg;by_cases hok:g.ok=true
  rotate_left
  ·have hok:g.ok=false:=by revert hok;cases g.ok<;>simp
   have HOK:=mk0 hok
   have HGT1:Aside0 (Calls Tryd.prog 69 #[.agg #[.bool a0, .bool a1, .int .i64 a2], .slice (some ⟨b,o,none⟩) l.length c, .int .i64 ((j:Int))] w3 fun e w'=>∃ te pe,e = .returned (.tuple #[.slice none 0 0, .int .i64 g.kd, .int .i64 ((j:Nat):Int), .iface te pe])∧Below w3.heap.size w3 w') :=
    ⟨HGT.out.mono fun e w' h=>by
     rcases h.2 with ⟨h1,_⟩|⟨_,te,pe,he⟩
     ·rw [hok] at h1;cases h1
     ·exact ⟨te,pe,he,h.1⟩⟩
   clear HGT hok;go_wp2_with (go_at_call 69;(with_reducible refine HGT1.out.mono ?_);rintro e_ w4 ⟨te2,pe2,rfl,hb4⟩;have HB4:=mk0 (j1p HB3.out hb4);clear hb4)
   (try simp only [Exit.inBlock,Exit.then])
   refine bodyPost_ret (j3s rfl _ _ _) rfl ?_;exact IPost.noI HB4.out HR.out (by rw [Nat.zero_add];exact HGG.out) HOK.out (by omega) (by omega)
  have HOK:=mk0 hok
  have HGT1:Aside0 (Calls Tryd.prog 69 #[.agg #[.bool a0, .bool a1, .int .i64 a2], .slice (some ⟨b,o,none⟩) l.length c, .int .i64 ((j:Int))] w3 fun e w'=>∃ o3 c3,e = .returned (.tuple #[.slice (some ⟨b,o3,none⟩) (g.en - j) c3, .int .i64 g.kd, .int .i64 (g.en:Int), .nilIface])∧Below w3.heap.size w3 w'∧g.en - j≤c3∧IN w3 b o3 ((l.drop j).take (g.en - j))) :=
   ⟨HGT.out.mono fun e w' h=>by
    rcases h.2 with ⟨_,o3,c3,he,h3,h4⟩|⟨h1,_⟩
    ·exact ⟨o3,c3,he,h.1,h3,h4⟩
    ·rw [hok] at h1;cases h1⟩
  clear HGT hok;have hen:=HRG2.out;have hlen:((l.drop j).take (g.en - j)).length=g.en - j:=by rw [List.length_take,List.length_drop];omega
  have HLEN:=mk0 hlen;clear hlen;by_cases hk:g.kd=1
  rotate_left
  ·have ew:g.en - j=vN g j:=by unfold vN;rw [if_neg hk]
   have ed:((l.drop j).take (vN g j))=(l.drop (vB g j)).take (vN g j):=by
    unfold vB;rw [if_neg hk]
   have hvn:vN g j≤2147483647:=by rw [← ew];omega
   rw [ew,ed] at HGT1;obtain ⟨vn,hvq⟩:∃ vn,vn=vN g j:=⟨_,rfl⟩;have HVQ:=mk0 hvq;rw [← hvq] at HGT1 hvn;have f4:(g.kd == 1)=false:=beq_eq_false_iff_ne.mpr hk;have f5:decide (g.kd=1)=false:=decide_eq_false hk;clear hk hen ew ed hvq HLEN;go_wp2_with (go_at_call 69;(with_reducible refine HGT1.out.mono ?_);rintro e_ w4 ⟨o3,c3,rfl,hb4,hc3,hI3⟩;have hcut5:=slc_hm (some ⟨b,o3,none⟩) vn c3 vn hc3;have HI4:=mk0 hI3;have HB4:=mk0 (j1p HB3.out hb4);clear hI3 hb4 hc3)
   (try simp only [Exit.inBlock,Exit.then])
   refine bodyPost_ret (j3s rfl _ _ _) rfl ?_;exact IPost.okI HB4.out HB3.out hI.out.lt HR.out (by rw [Nat.zero_add];exact HGG.out) HOK.out rfl (by rw [Nat.zero_add];exact HVQ.out) (by omega) (by rw [Nat.zero_add];exact HI4.out)
  have hst:=HST.out HOK.out hk;have HKD:=mk0 hk;rw [hk] at HGT1;have ew:g.en - j - 1 - 1=vN g j:=by unfold vN;rw [if_pos hk];omega
  have ed:((((l.drop j).take (g.en - j)).drop 1).take (vN g j))=(l.drop (vB g j)).take (vN g j):=by
   unfold vB vN;rw [if_pos hk,if_pos hk,List.drop_take,List.drop_drop,List.take_take]
   congr 1
   omega
  have hvn:vN g j≤2147483647:=by unfold vN;rw [if_pos hk];omega
  have hcut4:∀ o3 c3,g.en - j≤c3→IN w3 b o3 ((l.drop j).take (g.en - j))→∃ o4,(∀ W:World,(Instr.slice 55 (.slice (some ⟨b,o3,none⟩) (g.en - j) c3) (some (.int .i64 1)) (some (.int .i64 (((g.en - j:Nat):Int) - 1))) none).run Tryd.prog W = .ok (.slice (some ⟨b,o4,none⟩) (vN g j) (c3 - 1)) W)∧IN w3 b o4 ((l.drop (vB g j)).take (vN g j))∧vN g j≤c3 - 1:=fun o3 c3 hc3 hI3=>by
   have hlen:=HLEN.out;obtain ⟨o4,hcut4,hI4,hc4⟩:=cut_mid hI3 c3 1 (g.en - j - 1) (by omega) (by omega) (by omega);rw [hlen] at hcut4;rw [ew] at hcut4 hI4 hc4;rw [ed] at hI4;rw [show ((g.en - j - 1:Nat):Int)=((g.en - j:Nat):Int) - 1 by omega,show ((1:Nat):Int)=1 from rfl] at hcut4;exact ⟨o4,hcut4,hI4,hc4⟩
  obtain ⟨vn,hvq⟩:∃ vn,vn=vN g j:=⟨_,rfl⟩;have HVQ:=mk0 hvq;rw [← hvq] at hcut4 hvn;have hgn2:1≤g.en - j:=by omega
  have hgn1:g.en - j≤2147483647:=by omega
  generalize g.en - j=gn at HGT1 hcut4 hgn1 hgn2
  have HC4:=mk0 hcut4;clear hk hst hen ew ed hvq hcut4 HLEN;go_wp2_with (go_at_call 69;(with_reducible refine HGT1.out.mono ?_);rintro e_ w4 ⟨o3,c3,rfl,hb4,hc3,hI3⟩;obtain ⟨o4,hcut4,hI4,hc4⟩:=HC4.out o3 c3 hc3 hI3;have hcut5:=slc_hm (some ⟨b,o4,none⟩) vn (c3 - 1) vn hc4;have HI4:=mk0 hI4;have HB4:=mk0 (j1p HB3.out hb4);clear hI3 hb4 hI4 hc3 hc4)
  (try simp only [Exit.inBlock,Exit.then])
  refine bodyPost_ret (j3s rfl _ _ _) rfl ?_;exact IPost.okI HB4.out HB3.out hI.out.lt HR.out (by rw [Nat.zero_add];exact HGG.out) HOK.out HKD.out.symm (by rw [Nat.zero_add];exact HVQ.out) (by omega) (by rw [Nat.zero_add];exact HI4.out)
set_option maxHeartbeats 16000000 in
set_option maxRecDepth 100000 in
theorem igk_calls (a0 a1 : Bool) (a2:Int) (b o n c:Nat) (l:List Int) (KA:Option Addr) (kn kc:Nat) (R:Int) (w:World) (hT:Laid w) (hI:IN w b o l) (hn:l.length=n) (hc:n≤c) (hkn:0<kn) (hR:R = -1∨∃ m:Nat,R=(m:Int)∧m≤l.length) (hsk:∀ W,Below w.heap.size w W→Calls Tryd.prog 58 #[.agg #[.bool a0, .bool a1, .int .i64 a2], .slice (some ⟨b,o,none⟩) l.length c, .slice KA kn kc] W fun e W'=>e = .returned (.int .i64 R)∧Below W.heap.size W W') :
 Calls Tryd.prog 53 #[.agg #[.bool a0, .bool a1, .int .i64 a2], .slice (some ⟨b,o,none⟩) n c, .slice KA kn kc] w fun e w'=>KPost w b a0 l R e w':=by
 subst hn;have hlm:=hI.max;have hcf:=j4h w a0 a1 a2 93;have hB0:=(Below.refl w.heap.size w).alloc (Nat.le_refl _) (.cells #[.bool a0, .bool a1, .int .i64 a2] 93);have HB0:=mk0 hB0;have hgs:w.heap.size<(w.alloc (.cells #[.bool a0, .bool a1, .int .i64 a2] 93)).heap.size:=World.block_lt_of_cell? _ _ hcf.1;obtain ⟨te,pe,heJ⟩:=(hT.below hB0).eJ;obtain ⟨tk,pk,heK⟩:=(hT.below hB0).eK;have hR0:=hR;have HSK:=mk0 hsk;have HRR:=mk0 hR;have hkn1:(kn:Int)>0:=by omega
 have q1:decide ((kn:Int)>0)=true:=decide_eq_true hkn1;have q2:decide (0<(kn:Int))=true:=decide_eq_true hkn1;have q3:decide (0<kn)=true:=decide_eq_true hkn;have q4:(0<kn)=True:=eq_true hkn;clear hR hsk hR0 hkn1 hkn;replace hT:=mk0 hT;replace hI:=mk0 hI;have HC:=mk0 hc;clear hB0 hc;go_enter Tryd.func53,Tryd.ntmps53
 go_upto_region 1 with (fail)
 obtain ⟨gc,hgc⟩:∃ gc,gc=w.heap.size:=⟨_,rfl⟩;rw [← hgc] at hcf hgs ⊢
 generalize hw1:w.alloc (.cells #[.bool a0, .bool a1, .int .i64 a2] 93)=w1 at hcf HB0 heJ heK hgs ⊢
 have HGC:=mk0 hgc;have hgl:=hgs;obtain ⟨hc0,hc1,hc2⟩:=hcf;clear hgc hw1 hgs;have HRUN:=mk0 (HSK.out w1 HB0.out);clear HSK;rcases HRR.out with hr|⟨m,hr,hml⟩
 ·rw [hr] at HRUN;have HRQ0:=mk0 hr;clear hr;go_wp2_with (go_at_call 58;(with_reducible refine HRUN.out.mono ?_);rintro e_ w5 ⟨rfl,hb5⟩;have HB5:=mk0 hb5;clear hb5)
  have hltK:=World.block_lt_of_cell? _ _ heK;have heK5:=(j2r HB5.out hltK).trans heK;have HB6:=mk0 (j1p HB0.out HB5.out)
  repeat (go_quiet (fail);try go_wp2)
  (try simp only [Exit.inBlock,Exit.then])
  refine bodyPost_ret (j3s rfl _ _ _) rfl ?_;exact KPost.noI HRQ0.out (by repeat (first|exact HB6.out|apply j1d|apply j1l))
 rw [hr] at HRUN;obtain ⟨o1,hcut,hI1,hcc⟩:=j4a hI.out c m hml HC.out;rw [List.length_drop] at hcut hcc;have hrg:=j3w (l.drop m) 0;rw [List.length_drop] at hrg
 have HRG:Aside0 (nT (l.drop m) 0 = -1∨∃ j:Nat,nT (l.drop m) 0=(j:Int)∧m+j<l.length):=⟨by
  rcases hrg with h|⟨j,h,h2,h3⟩
  ·exact .inl h
  ·exact .inr ⟨j,h,by omega⟩⟩
 have HI1:=mk0 hI1;have HLM:=mk0 hml;have g2:((m:Int) == -1)=false:=beq_eq_false_iff_ne.mpr (by omega);have g3:decide ((m:Int) = -1)=false:=decide_eq_false (by omega);have HRQ:=mk0 hr;clear hcc hrg hI1 hr;have t2:(0≤(m:Int))=True:=eq_true (by omega);go_upto_region 5 with (go_at_call 58;(with_reducible refine HRUN.out.mono ?_);rintro e_ w5 ⟨rfl,hb5⟩;have HB5:=mk0 hb5;clear hb5)
 replace hc0:=(j2r HB5.out hgl).trans hc0;replace hc1:=(j2r HB5.out hgl).trans hc1;replace hc2:=(j2r HB5.out hgl).trans hc2;have hltJ:=World.block_lt_of_cell? _ _ heJ;replace heJ:=(j2r HB5.out hltJ).trans heJ;clear hltJ;have hWX:=mk0 (j1p HB0.out HB5.out);replace hgl:=Nat.lt_of_lt_of_le hgl HB5.out.size;have HD:=mk0 (j1l (Below.refl w5.heap.size w5));have HD2:=mk0 (j1p hWX.out HD.out);have hltJ:=World.block_lt_of_cell? _ _ heJ;go_wp2_with fail
 refine j4g (n:=6) (S:=fun w'=>w'.cell? ⟨gc,0,none⟩=some (.bool a0)∧w'.cell? ⟨gc,1,none⟩=some (.bool a1)∧w'.cell? ⟨gc,2,none⟩=some (.int .i64 a2)) (ds:=[4]) #[false,false,false,false,false,false] zq14 rfl rfl ⟨hc0,hc1,hc2⟩ (fun hHeld=>?_)
 generalize w5.drew=w2 at HD HD2 hHeld ⊢
 refine pure_ (i:=1) (N:=some 23) (v:=?_) (a':=?_) #[false,true,false,false,false,false] rfl rfl zq14 (fun _ _ _ h=>h) (Or.inl ⟨by rfl,?_⟩) ?_ ?_;rotate_left
 ·intro w';go_simp
  exact zl4
 rotate_left
 ·exact zl0
 refine pure_ (i:=2) (N:=some 24) (v:=?_) (a':=?_) #[false,true,true,false,false,false] rfl rfl zq14 (fun _ _ _ h=>h) (Or.inl ⟨by rfl,?_⟩) ?_ ?_;rotate_left
 ·intro w';go_simp
  exact zl4
 rotate_left
 ·exact zl0
 refine pure_ (i:=3) (N:=some 25) (v:=?_) (a':=?_) #[false,true,true,true,false,false] rfl rfl zq14 (fun _ _ _ h=>h) (Or.inl ⟨by rfl,?_⟩) ?_ ?_;rotate_left
 ·intro w';go_simp
  exact zl4
 rotate_left
 ·exact zl0
 refine take_ (i:=0) (N:=some 22) (v:=?_) (a':=?_) #[true,true,true,true,false,false] rfl rfl zq14 (fun _ _ _ h=>h) (Or.inl ⟨by rfl,?_⟩) hHeld ?_ ?_;rotate_left
 ·rintro w' ⟨s0,s1,s2⟩;go_simp
  exact zl4
 rotate_left
 ·exact zl0
 refine last_ (i:=4) (N:=some 26) #[true,true,true,true,true,false] rfl rfl zq14 zq47 (fun K hK=>?_);refine goes_ Tryd.func59 zq14 rfl #[.agg #[.bool a0, .bool a1, .int .i64 a2], .slice (some ⟨b,o1,none⟩) (l.length - m) (c - m)] (by rfl) rfl rfl zq27 ?_
 with_reducible refine (nt_calls a0 a1 a2 b o1 (l.length - m) (c - m) (l.drop m) _ (HI1.out.below HD2.out) List.length_drop).mono ?_
 rintro e_ w3 ⟨rfl,hb⟩;refine ⟨_,rfl,?_⟩;have HB3:=mk0 (j1p HD2.out hb);have HW3:=mk0 (j1p HD.out hb);have hd0:=(j2r HW3.out hgl).trans hc0;have hd1:=(j2r HW3.out hgl).trans hc1;have hd2:=(j2r HW3.out hgl).trans hc2;have heJ3:=(j2r HW3.out hltJ).trans heJ;clear hb hc0 hc1 hc2 hltJ heJ;refine hK.out _ _ ?_;clear hK K;refine norm_ (a':=?_) ?_ ?_;rotate_left
 ·show Act.put _ (some 26) _=_
  exact zl0
 refine pure_ (i:=5) (N:=some 11) (v:=?_) (a':=?_) #[true,true,true,true,true,true] rfl rfl zq14 (fun _ _ _ h=>h) (Or.inl ⟨by rfl,?_⟩) ?_ ?_;rotate_left
 ·intro w';go_simp
  exact zl4
 rotate_left
 ·exact zl0
 refine done_ zq14 ?_;rcases HRG.out with h1|⟨j,h1,hjl⟩
 ·have HR:=mk0 h1;rw [h1];clear h1;go_wp2
  repeat (go_quiet (fail);try go_wp2)
  (try simp only [Exit.inBlock,Exit.then])
  refine bodyPost_ret (j3s rfl _ _ _) rfl ?_;exact KPost.yes HRQ.out (IPost.emI (by repeat (first|exact HB3.out|apply j1d|apply j1l)) HR.out (by omega))
 ·have HR:=mk0 h1;have hjm:m+j<l.length:=by omega
  have HJM:=mk0 hjm;have hmm:=HLM.out;have HGT:=mk0 (gt_calls a0 a1 a2 b o l.length c l (m+j) w3 (hT.out.below HB3.out) (hI.out.below HB3.out) rfl HC.out hjm);have hja:((m+j:Nat):Int)=(m:Int)+(j:Int):=Int.natCast_add m j;rw [hja] at HGT;have HJA:=mk0 hja;have f2:((j:Int) == -1)=false:=beq_eq_false_iff_ne.mpr (by omega);have f3:decide ((j:Int) = -1)=false:=decide_eq_false (by omega);have rg:=gT_range (sq:=a0) hjm;have hst:(gT a0 l (m+j)).ok=true→(gT a0 l (m+j)).kd=1→m+j+2≤(gT a0 l (m+j)).en:=fun h1 h2=>gT_str h2 h1
  rw [h1];clear h1 hja;obtain ⟨g,hg⟩:∃ g,g=gT a0 l (m+j):=⟨_,rfl⟩;rw [← hg] at HGT rg hst;have HGG:=mk0 hg;have HST:=mk0 hst;have HRG2:=mk0 rg;clear hg hst rg;by_cases hok:g.ok=true
  rotate_left
  ·have hok:g.ok=false:=by revert hok;cases g.ok<;>simp
   have HOK:=mk0 hok
   have HGT1:Aside0 (Calls Tryd.prog 69 #[.agg #[.bool a0, .bool a1, .int .i64 a2], .slice (some ⟨b,o,none⟩) l.length c, .int .i64 ((m:Int)+(j:Int))] w3 fun e w'=>∃ te pe,e = .returned (.tuple #[.slice none 0 0, .int .i64 g.kd, .int .i64 ((m+j:Nat):Int), .iface te pe])∧Below w3.heap.size w3 w') :=
    ⟨HGT.out.mono fun e w' h=>by
     rcases h.2 with ⟨h1,_⟩|⟨_,te,pe,he⟩
     ·rw [hok] at h1;cases h1
     ·exact ⟨te,pe,he,h.1⟩⟩
   clear HGT hok;go_wp2_with (go_at_call 69;(with_reducible refine HGT1.out.mono ?_);rintro e_ w4 ⟨te2,pe2,rfl,hb4⟩;have HB4:=mk0 (j1p HB3.out hb4);clear hb4)
   (try simp only [Exit.inBlock,Exit.then])
   refine bodyPost_ret (j3s rfl _ _ _) rfl ?_;exact KPost.yes HRQ.out (IPost.noI HB4.out HR.out (by exact HGG.out) HOK.out (by omega) (by omega))
  have HOK:=mk0 hok
  have HGT1:Aside0 (Calls Tryd.prog 69 #[.agg #[.bool a0, .bool a1, .int .i64 a2], .slice (some ⟨b,o,none⟩) l.length c, .int .i64 ((m:Int)+(j:Int))] w3 fun e w'=>∃ o3 c3,e = .returned (.tuple #[.slice (some ⟨b,o3,none⟩) (g.en - (m+j)) c3, .int .i64 g.kd, .int .i64 (g.en:Int), .nilIface])∧Below w3.heap.size w3 w'∧g.en - (m+j)≤c3∧IN w3 b o3 ((l.drop (m+j)).take (g.en - (m+j)))) :=
   ⟨HGT.out.mono fun e w' h=>by
    rcases h.2 with ⟨_,o3,c3,he,h3,h4⟩|⟨h1,_⟩
    ·exact ⟨o3,c3,he,h.1,h3,h4⟩
    ·rw [hok] at h1;cases h1⟩
  clear HGT hok;have hen:=HRG2.out;have hlen:((l.drop (m+j)).take (g.en - (m+j))).length=g.en - (m+j):=by rw [List.length_take,List.length_drop];omega
  have HLEN:=mk0 hlen;clear hlen;by_cases hk:g.kd=1
  rotate_left
  ·have ew:g.en - (m+j)=vN g (m+j):=by unfold vN;rw [if_neg hk]
   have ed:((l.drop (m+j)).take (vN g (m+j)))=(l.drop (vB g (m+j))).take (vN g (m+j)):=by
    unfold vB;rw [if_neg hk]
   have hvn:vN g (m+j)≤2147483647:=by rw [← ew];omega
   rw [ew,ed] at HGT1;obtain ⟨vn,hvq⟩:∃ vn,vn=vN g (m+j):=⟨_,rfl⟩;have HVQ:=mk0 hvq;rw [← hvq] at HGT1 hvn;have f4:(g.kd == 1)=false:=beq_eq_false_iff_ne.mpr hk;have f5:decide (g.kd=1)=false:=decide_eq_false hk;clear hk hen ew ed hvq HLEN;go_wp2_with (go_at_call 69;(with_reducible refine HGT1.out.mono ?_);rintro e_ w4 ⟨o3,c3,rfl,hb4,hc3,hI3⟩;have hcut5:=slc_hm (some ⟨b,o3,none⟩) vn c3 vn hc3;have HI4:=mk0 hI3;have HB4:=mk0 (j1p HB3.out hb4);clear hI3 hb4 hc3)
   (try simp only [Exit.inBlock,Exit.then])
   refine bodyPost_ret (j3s rfl _ _ _) rfl ?_;exact KPost.yes HRQ.out (IPost.okI HB4.out HB3.out hI.out.lt HR.out (by exact HGG.out) HOK.out rfl (by exact HVQ.out) (by omega) (by exact HI4.out))
  have hst:=HST.out HOK.out hk;have HKD:=mk0 hk;rw [hk] at HGT1;have ew:g.en - (m+j) - 1 - 1=vN g (m+j):=by unfold vN;rw [if_pos hk];omega
  have ed:((((l.drop (m+j)).take (g.en - (m+j))).drop 1).take (vN g (m+j)))=(l.drop (vB g (m+j))).take (vN g (m+j)):=by
   unfold vB vN;rw [if_pos hk,if_pos hk,List.drop_take,List.drop_drop,List.take_take]
   congr 1
   omega
  have hvn:vN g (m+j)≤2147483647:=by unfold vN;rw [if_pos hk];omega
  have hcut4:∀ o3 c3,g.en - (m+j)≤c3→IN w3 b o3 ((l.drop (m+j)).take (g.en - (m+j)))→∃ o4,(∀ W:World,(Instr.slice 55 (.slice (some ⟨b,o3,none⟩) (g.en - (m+j)) c3) (some (.int .i64 1)) (some (.int .i64 (((g.en - (m+j):Nat):Int) - 1))) none).run Tryd.prog W = .ok (.slice (some ⟨b,o4,none⟩) (vN g (m+j)) (c3 - 1)) W)∧IN w3 b o4 ((l.drop (vB g (m+j))).take (vN g (m+j)))∧vN g (m+j)≤c3 - 1:=fun o3 c3 hc3 hI3=>by
   have hlen:=HLEN.out;obtain ⟨o4,hcut4,hI4,hc4⟩:=cut_mid hI3 c3 1 (g.en - (m+j) - 1) (by omega) (by omega) (by omega);rw [hlen] at hcut4;rw [ew] at hcut4 hI4 hc4;rw [ed] at hI4;rw [show ((g.en - (m+j) - 1:Nat):Int)=((g.en - (m+j):Nat):Int) - 1 by omega,show ((1:Nat):Int)=1 from rfl] at hcut4;exact ⟨o4,hcut4,hI4,hc4⟩
  obtain ⟨vn,hvq⟩:∃ vn,vn=vN g (m+j):=⟨_,rfl⟩;have HVQ:=mk0 hvq;rw [← hvq] at hcut4 hvn;have hgn2:1≤g.en - (m+j):=by omega
  have hgn1:g.en - (m+j)≤2147483647:=by omega
  generalize g.en - (m+j)=gn at HGT1 hcut4 hgn1 hgn2
  have HC4:=mk0 hcut4;clear hk hst hen ew ed hvq hcut4 HLEN;go_wp2_with (go_at_call 69;(with_reducible refine HGT1.out.mono ?_);rintro e_ w4 ⟨o3,c3,rfl,hb4,hc3,hI3⟩;obtain ⟨o4,hcut4,hI4,hc4⟩:=HC4.out o3 c3 hc3 hI3;have hcut5:=slc_hm (some ⟨b,o4,none⟩) vn (c3 - 1) vn hc4;have HI4:=mk0 hI4;have HB4:=mk0 (j1p HB3.out hb4);clear hI3 hb4 hI4 hc3 hc4)
  (try simp only [Exit.inBlock,Exit.then])
  refine bodyPost_ret (j3s rfl _ _ _) rfl ?_;exact KPost.yes HRQ.out (IPost.okI HB4.out HB3.out hI.out.lt HR.out (by exact HGG.out) HOK.out HKD.out.symm (by exact HVQ.out) (by omega) (by exact HI4.out))
structure CS (w0 W : World) (pC pA pV pO pD pI:Nat) (cur ai:Int) (v:Value) (vo:Int) (dv:Value) (ci:Int):Prop where
  C:W.heap[pC]? = some (.cells #[.int .i64 cur] 3 (0,0))
  A:W.heap[pA]? = some (.cells #[.int .i64 ai] 3 (0,0))
  V:W.heap[pV]? = some (.cells #[v] 55 (0,0))
  O:W.heap[pO]? = some (.cells #[.int .i64 vo] 3 (0,0))
  D:W.heap[pD]? = some (.cells #[dv] 55 (0,0))
  I:W.heap[pI]? = some (.cells #[.int .i64 ci] 3 (0,0))
  below:Below w0.heap.size w0 W
  ord:pD<pA∧pA<pC∧pC<pV∧pV<pO∧pO<pI∧w0.heap.size≤pA
theorem CS.carry {w0 W W':World} {pC pA pV pO pD pI:Nat} {cur ai vo ci:Int} {v dv:Value} (h:CS w0 W pC pA pV pO pD pI cur ai v vo dv ci) (hb:Below W.heap.size W W'):CS w0 W' pC pA pV pO pD pI cur ai v vo dv ci :=
 have k:∀ {p:Nat} {o:Obj},W.heap[p]? = some o→W'.heap[p]? = some o:=fun h=>(hb.block _ (lt_of_block h)).trans h
 ⟨k h.C,k h.A,k h.V,k h.O,k h.D,k h.I,j1p h.below hb,h.ord⟩
theorem CS.setC {w0 W : World} {pC pA pV pO pD pI:Nat} {cur ai vo ci:Int} {v dv:Value} (h:CS w0 W pC pA pV pO pD pI cur ai v vo dv ci) (x:Int):CS w0 (W.setCell ⟨pC,0,none⟩ (.int .i64 x)) pC pA pV pO pD pI x ai v vo dv ci:=by
 have o:=h.ord;have k:∀ {p:Nat} {ob:Obj},p≠pC→W.heap[p]? = some ob→(W.setCell ⟨pC,0,none⟩ (.int .i64 x)).heap[p]? = some ob:=fun hne h=>(Below.heap_setCell _ _ _ _ hne).trans h
 exact ⟨one_setCell h.C,k (by omega) h.A,k (by omega) h.V,k (by omega) h.O,k (by omega) h.D,k (by omega) h.I,h.below.setCell (by show w0.heap.size≤pC;omega) _,o⟩
theorem CS.setV {w0 W : World} {pC pA pV pO pD pI:Nat} {cur ai vo ci:Int} {v dv:Value} (h:CS w0 W pC pA pV pO pD pI cur ai v vo dv ci) (x:Value):CS w0 (W.setCell ⟨pV,0,none⟩ x) pC pA pV pO pD pI cur ai x vo dv ci:=by
 have o:=h.ord;have k:∀ {p:Nat} {ob:Obj},p≠pV→W.heap[p]? = some ob→(W.setCell ⟨pV,0,none⟩ x).heap[p]? = some ob:=fun hne h=>(Below.heap_setCell _ _ _ _ hne).trans h
 exact ⟨k (by omega) h.C,k (by omega) h.A,one_setCell h.V,k (by omega) h.O,k (by omega) h.D,k (by omega) h.I,h.below.setCell (by show w0.heap.size≤pV;omega) _,o⟩
theorem CS.setO {w0 W : World} {pC pA pV pO pD pI:Nat} {cur ai vo ci:Int} {v dv:Value} (h:CS w0 W pC pA pV pO pD pI cur ai v vo dv ci) (x:Int):CS w0 (W.setCell ⟨pO,0,none⟩ (.int .i64 x)) pC pA pV pO pD pI cur ai v x dv ci:=by
 have o:=h.ord;have k:∀ {p:Nat} {ob:Obj},p≠pO→W.heap[p]? = some ob→(W.setCell ⟨pO,0,none⟩ (.int .i64 x)).heap[p]? = some ob:=fun hne h=>(Below.heap_setCell _ _ _ _ hne).trans h
 exact ⟨k (by omega) h.C,k (by omega) h.A,k (by omega) h.V,one_setCell h.O,k (by omega) h.D,k (by omega) h.I,h.below.setCell (by show w0.heap.size≤pO;omega) _,o⟩
def KS (S : Nat→Prop) (W W':World):Prop:=W.heap.size≤W'.heap.size∧∀ i,i<W.heap.size→¬ S i→W'.heap[i]? = W.heap[i]?
theorem KS.refl (S : Nat→Prop) (W:World):KS S W W:=⟨Nat.le_refl _,fun _ _ _=>rfl⟩
theorem KS.trans {S : Nat→Prop} {A B C:World} (h:KS S A B) (k:KS S B C):KS S A C:=⟨Nat.le_trans h.1 k.1,fun i hi hs=>(k.2 i (Nat.lt_of_lt_of_le hi h.1) hs).trans (h.2 i hi hs)⟩
theorem KS.below {S : Nat→Prop} {W W':World} (h:Below W.heap.size W W'):KS S W W':=⟨h.size,fun i hi _=>h.block i hi⟩
theorem KS.set {S : Nat→Prop} {A W:World} (h:KS S A W) {p:Nat} (hp:S p) (x:Value):KS S A (W.setCell ⟨p,0,none⟩ x) :=
 ⟨by rw [World.size_setCell];exact h.1,fun i hi hs=>(Below.heap_setCell _ _ _ _ (fun e=>hs (by have e:i=p:=e;subst e;exact hp))).trans (h.2 i hi hs)⟩
theorem KS.cell {S : Nat→Prop} {W W':World} (h:KS S W W') {a:Addr} {v:Value} (hs:¬ S a.block) (hc:W.cell? a=some v):W'.cell? a=some v:=by
 rw [← hc];unfold World.cell?;rw [h.2 a.block (World.block_lt_of_cell? _ _ hc) hs]
def S3 (pC pV pO:Nat) (i:Nat):Prop:=i=pC∨i=pV∨i=pO
set_option maxHeartbeats 8000000 in
set_option maxRecDepth 100000 in
theorem cl_miss (w0 w : World) (pC pA pV pO pD pI:Nat) (cur ai vo ci kd off:Int) (v dv val er:Value) (h:CS w0 w pC pA pV pO pD pI cur ai v vo dv ci) (hne:cur≠ai) (hcu:0≤cur∧cur≤2147483647) :
 Calls Tryd.prog 80 #[val, .int .i64 kd, .int .i64 off,er, .pointer (some ⟨pC,0,none⟩), .pointer (some ⟨pA,0,none⟩), .pointer (some ⟨pV,0,none⟩), .pointer (some ⟨pO,0,none⟩), .pointer (some ⟨pD,0,none⟩), .pointer (some ⟨pI,0,none⟩)] w fun e w' =>
  e = .returned (.tuple #[])∧CS w0 w' pC pA pV pO pD pI (cur+1) ai v vo dv ci∧KS (S3 pC pV pO) w w':=by
 have H:=mk0 h;have K:=mk0 (KS.refl (S3 pC pV pO) w);have cC:=cell_of_one h.C;have fC:=free_of_one h.C;have cA:=cell_of_one h.A;have e1:(cur == ai)=false:=beq_eq_false_iff_ne.mpr hne;have e2:decide (cur=ai)=false:=decide_eq_false hne;clear h hne;go_enter Tryd.func80,Tryd.ntmps80
 go_wp2
 go_end0
 exact ⟨rfl,H.out.setC _,K.out.set (.inl rfl) _⟩
set_option maxHeartbeats 8000000 in
set_option maxRecDepth 100000 in
theorem cl_hit (w0 w : World) (pC pA pV pO pD pI:Nat) (cur vo ci kd off:Int) (v dv er:Value) (va:Option Addr) (vn vc:Nat) (h:CS w0 w pC pA pV pO pD pI cur cur v vo dv ci) (hk:kd≠1) (hcu:0≤cur∧cur≤2147483647) :
 Calls Tryd.prog 80 #[.slice va vn vc, .int .i64 kd, .int .i64 off,er, .pointer (some ⟨pC,0,none⟩), .pointer (some ⟨pA,0,none⟩), .pointer (some ⟨pV,0,none⟩), .pointer (some ⟨pO,0,none⟩), .pointer (some ⟨pD,0,none⟩), .pointer (some ⟨pI,0,none⟩)] w fun e w' =>
  e = .returned (.tuple #[])∧CS w0 w' pC pA pV pO pD pI (cur+1) cur (.slice va vn vc) off dv ci∧KS (S3 pC pV pO) w w':=by
 have H1:=h.setV (.slice va vn vc);have H2:=H1.setO off;have K:=mk0 ((((KS.refl (S3 pC pV pO) w).set (p:=pV) (.inr (.inl rfl)) (.slice va vn vc))).set (p:=pO) (.inr (.inr rfl)) (.int .i64 off));have cC:=cell_of_one h.C;have cA:=cell_of_one h.A;have fV:=free_of_one h.V;have cV:=cell_of_one h.V;have fO:=free_of_one h.O;have fC:=free_of_one h.C;have e1:(kd == 1)=false:=beq_eq_false_iff_ne.mpr hk;have e2:decide (kd=1)=false:=decide_eq_false hk;have B:=mk0 h;clear h hk;go_enter Tryd.func80,Tryd.ntmps80
 go_upto_region 2 with (fail)
 generalize w.setCell ⟨pV,0,none⟩ (.slice va vn vc)=w1 at K H1 H2 ⊢
 have fO1:=free_of_one H1.O;have cO1:=cell_of_one H1.O;go_upto_region 3 with (fail)
 generalize w1.setCell ⟨pO,0,none⟩ (.int .i64 off)=w2 at K H2 ⊢
 have cC2:=cell_of_one H2.C;have fC2:=free_of_one H2.C;have H:=mk0 H2;clear H2 H1;go_wp2
 go_end0
 exact ⟨rfl,H.out.setC _,K.out.set (.inl rfl) _⟩
set_option maxHeartbeats 8000000 in
set_option maxRecDepth 100000 in
theorem cl_str (w0 w : World) (pC pA pV pO pD pI:Nat) (cur vo off:Int) (ci:Nat) (v er:Value) (va:Option Addr) (vn vc:Nat) (da:Option Addr) (dn dc:Nat) (qa:Option Addr) (qn qc:Nat) (h:CS w0 w pC pA pV pO pD pI cur cur v vo (.slice da dn dc) (ci:Int)) (hcu:0≤cur∧cur≤2147483647)
 (hoff:2≤off∧off≤2147483647) (hci:ci≤2147483647) (hvn:vn≤2147483647)
 (hcut:∀ W:World,(Instr.slice 55 (.slice da dn dc) (some (.int .i64 ((ci:Int)+(off - 2)))) (some (.int .i64 ((ci:Int)+(off - 2)+(vn:Int)+2))) none).run Tryd.prog W = .ok (.slice qa qn qc) W) :
 Calls Tryd.prog 80 #[.slice va vn vc, .int .i64 1, .int .i64 off,er, .pointer (some ⟨pC,0,none⟩), .pointer (some ⟨pA,0,none⟩), .pointer (some ⟨pV,0,none⟩), .pointer (some ⟨pO,0,none⟩), .pointer (some ⟨pD,0,none⟩), .pointer (some ⟨pI,0,none⟩)] w fun e w' =>
  e = .returned (.tuple #[])∧CS w0 w' pC pA pV pO pD pI (cur+1) cur (.slice qa qn qc) (off - 2) (.slice da dn dc) (ci:Int)∧KS (S3 pC pV pO) w w':=by
 have H1:=h.setV (.slice va vn vc);have H2:=H1.setO off;have K:=mk0 ((((((KS.refl (S3 pC pV pO) w).set (p:=pV) (.inr (.inl rfl)) (.slice va vn vc))).set (p:=pO) (.inr (.inr rfl)) (.int .i64 off)).set (p:=pO) (.inr (.inr rfl)) (.int .i64 (off - 2))).set (p:=pV) (.inr (.inl rfl)) (.slice qa qn qc));have H3:=H2.setO (off - 2);have H4:=H3.setV (.slice qa qn qc);have cC:=cell_of_one h.C;have cA:=cell_of_one h.A;have fV:=free_of_one h.V;have cV:=cell_of_one h.V;have fO:=free_of_one h.O;have fC:=free_of_one h.C;have hci0:0≤(ci:Int):=Int.natCast_nonneg _;clear h;go_enter Tryd.func80,Tryd.ntmps80
 go_upto_region 2 with (fail)
 generalize w.setCell ⟨pV,0,none⟩ (.slice va vn vc)=w1 at K H1 H2 H3 H4 ⊢
 have fO1:=free_of_one H1.O;have cO1:=cell_of_one H1.O;go_upto_region 3 with (fail)
 generalize w1.setCell ⟨pO,0,none⟩ (.int .i64 off)=w2 at K H2 H3 H4 ⊢
 have cO2:=cell_of_one H2.O;have fO2:=free_of_one H2.O;go_upto_region 5 with (fail)
 generalize w2.setCell ⟨pO,0,none⟩ (.int .i64 (off - 2))=w3 at K H3 H4 ⊢
 have cO3:=cell_of_one H3.O;have cD3:=cell_of_one H3.D;have cI3:=cell_of_one H3.I;have fV3:=free_of_one H3.V;have cV3:=cell_of_one H3.V;go_upto_region 6 with (fail)
 generalize w3.setCell ⟨pV,0,none⟩ (.slice qa qn qc)=w4 at K H4 ⊢
 have cC4:=cell_of_one H4.C;have fC4:=free_of_one H4.C;have H:=mk0 H4;clear H1 H2 H3 H4;go_wp2
 go_end0
 exact ⟨rfl,H.out.setC _,K.out.set (.inl rfl) _⟩
theorem ig0_ok (a0 a1 : Bool) (a2:Int) (b o n c:Nat) (l:List Int) (KA:Option Addr) (kc:Nat) (w:World) (hT:Laid w) (hI:IN w b o l) (hn:l.length=n) (hc:n≤c) (j:Nat) (hj:nT l 0=(j:Int)) (hok:(gT a0 l j).ok=true) :
 Calls Tryd.prog 53 #[.agg #[.bool a0, .bool a1, .int .i64 a2], .slice (some ⟨b,o,none⟩) n c, .slice KA 0 kc] w fun e w' =>
  ∃ o1,e = .returned (.tuple #[.slice (some ⟨b,o1,none⟩) (vN (gT a0 l j) j) (vN (gT a0 l j) j), .int .i64 (gT a0 l j).kd, .int .i64 (j:Int), .int .i64 ((gT a0 l j).en:Int), .nilIface])∧IN w b o1 ((l.drop (vB (gT a0 l j) j)).take (vN (gT a0 l j) j))∧Below w.heap.size w w':=by
 refine (ig0_calls a0 a1 a2 b o n c l KA kc w hT hI hn hc).mono ?_;rintro e w' ⟨hb,⟨h1,_⟩|⟨j2,h1,h2⟩⟩
 ·rw [List.drop_zero,hj] at h1;omega
 ·rw [List.drop_zero,hj] at h1;have e2:j2=j:=by omega
  subst e2;rw [Nat.zero_add] at h2;rcases h2 with ⟨h3,_⟩|⟨_,o1,h4,h5⟩
  ·rw [hok] at h3;cases h3
  ·exact ⟨o1,h4,h5,hb⟩
set_option maxHeartbeats 8000000 in
set_option maxRecDepth 100000 in
theorem cg_ok (a0 a1 : Bool) (a2:Int) (b o n c:Nat) (l:List Int) (KA:Option Addr) (kc:Nat) (w:World) (hT:Laid w) (hI:IN w b o l) (hn:l.length=n) (hc:n≤c) (j:Nat) (hj:nT l 0=(j:Int)) (hok:(gT a0 l j).ok=true) :
 Calls Tryd.prog 62 #[.agg #[.bool a0, .bool a1, .int .i64 a2], .slice (some ⟨b,o,none⟩) n c, .slice KA 0 kc] w fun e w' =>
  ∃ o1,e = .returned (.tuple #[.slice (some ⟨b,o1,none⟩) (vN (gT a0 l j) j) (vN (gT a0 l j) j), .int .i64 (gT a0 l j).kd, .int .i64 ((gT a0 l j).en:Int), .nilIface])∧IN w b o1 ((l.drop (vB (gT a0 l j) j)).take (vN (gT a0 l j) j))∧Below w.heap.size w w':=by
 have hcf:=j4h w a0 a1 a2 93;have hB0:=(Below.refl w.heap.size w).alloc (Nat.le_refl _) (.cells #[.bool a0, .bool a1, .int .i64 a2] 93);have HB0:=mk0 hB0;have HRUN:=mk0 (ig0_ok a0 a1 a2 b o n c l KA kc _ (hT.below hB0) (hI.below hB0) hn hc j hj hok);have HLT:=mk0 hI.lt
 generalize vN (gT a0 l j) j=vn at HRUN ⊢
 generalize (gT a0 l j).kd=kd at HRUN ⊢
 generalize (gT a0 l j).en=en at HRUN ⊢
 clear hB0 hT hI hn hc hj hok;go_enter Tryd.func62,Tryd.ntmps62
 go_upto_region 1 with (fail)
 obtain ⟨gc,hgc⟩:∃ gc,gc=w.heap.size:=⟨_,rfl⟩;rw [← hgc] at hcf ⊢
 generalize hw1:w.alloc (.cells #[.bool a0, .bool a1, .int .i64 a2] 93)=w1 at hcf HB0 HRUN ⊢
 have HGC:=mk0 hgc;obtain ⟨hc0,hc1,hc2⟩:=hcf;clear hgc hw1;go_wp2_with (go_at_call 53;(with_reducible refine HRUN.out.mono ?_);rintro e_ w_ ⟨o1,rfl,hi5,hb5⟩;have HB5:=mk0 hb5;have HI5:=mk0 hi5;clear hb5 hi5)
 (try simp only [Exit.inBlock,Exit.then])
 refine bodyPost_ret (j3f rfl _ _ _) rfl ?_;exact ⟨o1,rfl,HI5.out.back (HGC.out ▸ HB0.out) (HGC.out ▸ HLT.out),HGC.out ▸ j1p (HGC.out ▸ HB0.out) HB5.out⟩
structure AC where
  vo:Nat
  vn:Nat
  kd:Int
  off:Int
def acOf (g : GR) (p r:Nat):AC:=⟨p+vB g r,vN g r,g.kd,((p:Int)+(g.en:Int)) - (vN g r:Int)⟩
def aEl (sq : Bool) (l:List Int):Nat→Nat→Option (List AC × Nat)
  | 0,_=>none
  | n+1,p =>
    if nT (l.drop p) 0<0 then none
    else if (gT sq (l.drop p) (nT (l.drop p) 0).toNat).ok=false∨(gT sq (l.drop p) (nT (l.drop p) 0).toNat).en=0 then none
    else if nT (l.drop (p+(gT sq (l.drop p) (nT (l.drop p) 0).toNat).en)) 0<0 then none
    else if l.getD (p+(gT sq (l.drop p) (nT (l.drop p) 0).toNat).en+(nT (l.drop (p+(gT sq (l.drop p) (nT (l.drop p) 0).toNat).en)) 0).toNat) 0=93 then
      some ([acOf (gT sq (l.drop p) (nT (l.drop p) 0).toNat) p (nT (l.drop p) 0).toNat],p+(gT sq (l.drop p) (nT (l.drop p) 0).toNat).en+(nT (l.drop (p+(gT sq (l.drop p) (nT (l.drop p) 0).toNat).en)) 0).toNat)
    else if l.getD (p+(gT sq (l.drop p) (nT (l.drop p) 0).toNat).en+(nT (l.drop (p+(gT sq (l.drop p) (nT (l.drop p) 0).toNat).en)) 0).toNat) 0=44 then
      (aEl sq l n (p+(gT sq (l.drop p) (nT (l.drop p) 0).toNat).en+(nT (l.drop (p+(gT sq (l.drop p) (nT (l.drop p) 0).toNat).en)) 0).toNat+1)).map fun t=>(acOf (gT sq (l.drop p) (nT (l.drop p) 0).toNat) p (nT (l.drop p) 0).toNat :: t.1,t.2)
    else none
theorem aEl_step {sq : Bool} {l:List Int} {n p r q:Nat} {g:GR} (h1:nT (l.drop p) 0=(r:Int)) (h2:gT sq (l.drop p) r=g) (h3:g.ok=true) (h4:g.en≠0) (h5:nT (l.drop (p+g.en)) 0=(q:Int)) :
 aEl sq l (n+1) p=if l.getD (p+g.en+q) 0=93 then some ([acOf g p r],p+g.en+q) else if l.getD (p+g.en+q) 0=44 then (aEl sq l n (p+g.en+q+1)).map fun t=>(acOf g p r :: t.1,t.2) else none:=by
 rw [aEl,h1,Int.toNat_natCast,h2,if_neg (by omega),if_neg (by rw [h3];simp [h4]),h5,Int.toNat_natCast,if_neg (by omega)]
theorem aEl_inv {sq : Bool} {l:List Int} {n p E:Nat} {cs:List AC} (h:aEl sq l (n+1) p=some (cs,E)) :
 ∃ (r q:Nat) (g:GR),nT (l.drop p) 0=(r:Int)∧gT sq (l.drop p) r=g∧g.ok=true∧g.en≠0∧nT (l.drop (p+g.en)) 0=(q:Int) ∧
  ((l.getD (p+g.en+q) 0=93∧cs=[acOf g p r]∧E=p+g.en+q)∨(l.getD (p+g.en+q) 0=44∧∃ t,aEl sq l n (p+g.en+q+1)=some (t,E)∧cs=acOf g p r :: t)):=by
 rcases j3w (l.drop p) 0 with h1|⟨r,h1,_⟩
 ·rw [aEl,h1,if_pos zq47] at h
  cases h
 obtain ⟨g,h2⟩:∃ g,gT sq (l.drop p) r=g:=⟨_,rfl⟩;by_cases h3:g.ok=false∨g.en=0
 ·rw [aEl,h1,Int.toNat_natCast,h2,if_neg (by omega),if_pos h3] at h
  cases h
 have h30:g.ok=true:=by
  cases hx:g.ok
  ·exact absurd (.inl hx) h3
  ·rfl
 have h4:g.en≠0:=fun e=>h3 (.inr e)
 rcases j3w (l.drop (p+g.en)) 0 with h5|⟨q,h5,_⟩
 ·rw [aEl,h1,Int.toNat_natCast,h2,if_neg (by omega),if_neg h3,h5,if_pos zq47] at h
  cases h
 rw [aEl_step h1 h2 h30 h4 h5] at h
 refine ⟨r,q,g,h1,h2,h30,h4,h5,?_⟩;split at h
 ·rename_i h6;cases h;exact .inl ⟨h6,rfl,rfl⟩
 split at h
 ·rename_i h6 h7;obtain ⟨t,ht,he⟩:=Option.map_eq_some_iff.mp h;cases he;exact .inr ⟨h7,t.1,ht,rfl⟩
 ·cases h
def aE (sq : Bool) (l:List Int):Option (List AC × Nat) :=
  if nT l 0<0 then none
  else if l.getD (nT l 0).toNat 0≠91 then none
  else if nT (l.drop ((nT l 0).toNat+1)) 0<0 then none
  else if l.getD ((nT l 0).toNat+1+(nT (l.drop ((nT l 0).toNat+1)) 0).toNat) 0=93 then some ([],(nT l 0).toNat+1+(nT (l.drop ((nT l 0).toNat+1)) 0).toNat)
  else aEl sq l l.length ((nT l 0).toNat+1+(nT (l.drop ((nT l 0).toNat+1)) 0).toNat)
theorem aE_eq {sq : Bool} {l:List Int} {r s:Nat} (h1:nT l 0=(r:Int)) (h2:l.getD r 0=91) (h3:nT (l.drop (r+1)) 0=(s:Int)) :
 aE sq l=if l.getD (r+1+s) 0=93 then some ([],r+1+s) else aEl sq l l.length (r+1+s):=by
 unfold aE;rw [h1,Int.toNat_natCast,if_neg (by omega),if_neg (fun k=>k h2),h3,Int.toNat_natCast,if_neg (by omega)]
theorem aE_inv {sq : Bool} {l:List Int} {x:List AC × Nat} (h:aE sq l=some x) :
 ∃ r s:Nat,nT l 0=(r:Int)∧l.getD r 0=91∧nT (l.drop (r+1)) 0=(s:Int)∧((l.getD (r+1+s) 0=93∧x=([],r+1+s))∨(l.getD (r+1+s) 0≠93∧aEl sq l l.length (r+1+s)=some x)):=by
 rcases j3w l 0 with h1|⟨r,h1,_⟩
 ·rw [aE,h1,if_pos zq47] at h
  cases h
 by_cases h2:l.getD r 0=91
 rotate_left
 ·rw [aE,h1,Int.toNat_natCast,if_neg (by omega),if_pos h2] at h
  cases h
 rcases j3w (l.drop (r+1)) 0 with h3|⟨s,h3,_⟩
 ·rw [aE,h1,Int.toNat_natCast,if_neg (by omega),if_neg (fun k=>k h2),h3,if_pos zq47] at h
  cases h
 ·rw [aE_eq h1 h2 h3] at h
  refine ⟨r,s,h1,h2,h3,?_⟩;split at h
  ·rename_i h4;cases h;exact .inl ⟨h4,rfl⟩
  ·rename_i h4;exact .inr ⟨h4,h⟩
theorem aEl_lt {sq : Bool} {l:List Int} {n p E:Nat} {cs:List AC} (h:aEl sq l n p=some (cs,E)):p<l.length:=by
 cases n with
 | zero=>simp [aEl] at h
 | succ n =>
  obtain ⟨r,_,_,hr,_⟩:=aEl_inv h;rcases j3w (l.drop p) 0 with h|⟨j,h,_,h5⟩
  ·omega
  ·rw [List.length_drop] at h5;omega
set_option maxHeartbeats 16000000 in
set_option maxRecDepth 100000 in
theorem ae_calls (a0 a1 : Bool) (a2:Int) (b o c:Nat) (l:List Int) (w0 w:World) (S:Nat→Prop) (Inv:List AC→World→Prop) (C1 C2 C3 C4 C5 C6:Value) (cs:List AC) (E:Nat)
 (hT:Laid w0) (hI:IN w0 b o l) (hc:l.length≤c) (hS:∀ i,S i→i<w.heap.size) (hE:aE a0 l=some (cs,E)) (hInv:Inv cs w)
 (hbel:∀ r W,Inv r W→Below w0.heap.size w0 W) (hcar:∀ r W W',Inv r W→Below W.heap.size W W'→Inv r W')
 (hcb:∀ (x:AC) (r:List AC) (W:World) (o1:Nat),Inv (x :: r) W→(x :: r) <:+ cs→IN w0 b o1 ((l.drop x.vo).take x.vn)→Calls Tryd.prog 80 #[.slice (some ⟨b,o1,none⟩) x.vn x.vn, .int .i64 x.kd, .int .i64 x.off, .nilIface,C1,C2,C3,C4,C5,C6] W fun e W'=>e = .returned (.tuple #[])∧Inv r W'∧KS S W W') :
 Calls Tryd.prog 79 #[.agg #[.bool a0, .bool a1, .int .i64 a2], .slice (some ⟨b,o,none⟩) l.length c, .func (.func 80) #[] #[C1,C2,C3,C4,C5,C6], .slice none 0 0] w fun e w'=>e = .returned (.tuple #[.int .i64 (E:Int), .nilIface])∧Inv [] w'∧KS S w w':=by
 obtain ⟨r,s,h1,h2,h3,h4⟩:=aE_inv hE;have hlm:=hI.max;have hcf:=j4h w a0 a1 a2 93;have hB0:Below w.heap.size w (w.alloc (.cells #[.bool a0, .bool a1, .int .i64 a2] 93)):=(Below.refl w.heap.size w).alloc (Nat.le_refl _) (.cells #[.bool a0, .bool a1, .int .i64 a2] 93);have hgs:w.heap.size<(w.alloc (.cells #[.bool a0, .bool a1, .int .i64 a2] 93)).heap.size:=World.block_lt_of_cell? _ _ hcf.1;have hIv1:=hcar _ _ _ hInv hB0;have HIV:=mk0 hIv1;have HK1:=mk0 (KS.below (S:=S) hB0);have HBE:=mk0 hbel;have HCA:=mk0 hcar;have HCB:=mk0 hcb;have HS:=mk0 hS;have HT:=mk0 hT;have HI:=mk0 hI;have HC:=mk0 hc;have HH:=mk0 h4
 have hrr:r<l.length:=by
  rcases j3w l 0 with h|⟨j,h,_,h5⟩
  ·omega
  ·omega
 have hss:r+1+s<l.length:=by
  rcases j3w (l.drop (r+1)) 0 with h|⟨j,h,_,h5⟩
  ·omega
  ·rw [List.length_drop] at h5;omega
 have hl0:decide ((l.length:Int)=0)=false:=decide_eq_false (by omega);have hl1:((l.length:Int) == 0)=false:=beq_eq_false_iff_ne.mpr (by omega);have HNT:=mk0 (nt_calls a0 a1 a2 b o l.length c l _ (hI.below (hbel _ _ hIv1)) rfl);rw [h1] at HNT;have hcx:(w.alloc (.cells #[.bool a0, .bool a1, .int .i64 a2] 93)).cell? ⟨b,o+r,none⟩=some (.int .u8 91):=by rw [← h2];exact (hI.below (hbel _ _ hIv1)).cell r hrr
 have hr1:((r:Int) == -1)=false:=beq_eq_false_iff_ne.mpr (by omega);have hr2:decide ((r:Int) = -1)=false:=decide_eq_false (by omega);have hs1:((s:Int) == -1)=false:=beq_eq_false_iff_ne.mpr (by omega);have hs2:decide ((s:Int) = -1)=false:=decide_eq_false (by omega);have t2:(0≤(r:Int))=True:=eq_true (by omega);have t3:((r:Int)<(l.length:Int))=True:=eq_true (by omega);have H3:=mk0 h3;have HH2:=mk0 h2;clear hE hInv hIv1 hbel hcar hcb hS hT hI hc h1 h2 h3 h4;go_enter Tryd.func79,Tryd.ntmps79
 go_upto_region 1 with (fail)
 obtain ⟨gc,hgc⟩:∃ gc,gc=w.heap.size:=⟨_,rfl⟩;rw [← hgc] at hcf hgs ⊢
 generalize hw1:w.alloc (.cells #[.bool a0, .bool a1, .int .i64 a2] 93)=w1 at hcf HIV HK1 HNT hcx hgs ⊢
 have HGC:=mk0 hgc;have hgl:=hgs;obtain ⟨hc0,hc1,hc2⟩:=hcf;clear hgc hw1 hgs;go_upto_region 20 with (go_at_call 59;(with_reducible refine HNT.out.mono ?_);rintro e_ w2 ⟨rfl,hb2⟩;have HB2:=mk0 hb2;have hcx2:=(j2r HB2.out (World.block_lt_of_cell? _ _ hcx)).trans hcx;clear hb2)
 have HIV2:=mk0 (HCA.out _ _ _ HIV.out HB2.out);have HK2:=mk0 (HK1.out.trans (KS.below HB2.out));have hd0:=(j2r HB2.out hgl).trans hc0;have hd1:=(j2r HB2.out hgl).trans hc1;have hd2:=(j2r HB2.out hgl).trans hc2;have hgl2:=Nat.lt_of_lt_of_le hgl HB2.out.size;have HD:=mk0 (j1l (Below.refl w2.heap.size w2));obtain ⟨o1,hcut,hI1,hcc⟩:=j4a HI.out c (r+1) (by omega) HC.out;rw [List.length_drop] at hcut hcc
 push_cast at hcut
 have HI1:=mk0 hI1;have hwr:IntKind.i64.wrap ((r:Int)+1)=(r:Int)+1:=IntWalk.i64_in _ (by omega);clear hcc hI1 hc0 hc1 hc2 hcx hcx2 HNT;have HNT2:=mk0 (fun (W:World) (hb:Below w2.heap.size w2 W)=>nt_calls a0 a1 a2 b o1 (l.length - (r+1)) (c - (r+1)) (l.drop (r+1)) W (HI1.out.below (j1p (HBE.out _ _ HIV2.out) hb)) List.length_drop);rw [H3.out] at HNT2;clear hB0;go_wp2_with fail
 refine j4g (n:=6) (S:=fun w'=>w'.cell? ⟨gc,0,none⟩=some (.bool a0)∧w'.cell? ⟨gc,1,none⟩=some (.bool a1)∧w'.cell? ⟨gc,2,none⟩=some (.int .i64 a2)) (ds:=[4]) #[false,false,false,false,false,false] zq14 rfl rfl ⟨hd0,hd1,hd2⟩ (fun hHeld=>?_)
 generalize w2.drew=w3 at HD hHeld ⊢
 refine pure_ (i:=1) (N:=some 74) (v:=?_) (a':=?_) #[false,true,false,false,false,false] rfl rfl zq14 (fun _ _ _ h=>h) (Or.inl ⟨by rfl,?_⟩) ?_ ?_;rotate_left
 ·intro w';go_simp
  exact zl4
 rotate_left
 ·exact zl0
 refine pure_ (i:=2) (N:=some 75) (v:=?_) (a':=?_) #[false,true,true,false,false,false] rfl rfl zq14 (fun _ _ _ h=>h) (Or.inl ⟨by rfl,?_⟩) ?_ ?_;rotate_left
 ·intro w';go_simp
  exact zl4
 rotate_left
 ·exact zl0
 refine pure_ (i:=3) (N:=some 76) (v:=?_) (a':=?_) #[false,true,true,true,false,false] rfl rfl zq14 (fun _ _ _ h=>h) (Or.inl ⟨by rfl,?_⟩) ?_ ?_;rotate_left
 ·intro w';go_simp
  exact zl4
 rotate_left
 ·exact zl0
 refine take_ (i:=0) (N:=some 73) (v:=?_) (a':=?_) #[true,true,true,true,false,false] rfl rfl zq14 (fun _ _ _ h=>h) (Or.inl ⟨by rfl,?_⟩) hHeld ?_ ?_;rotate_left
 ·rintro w' ⟨s0,s1,s2⟩;go_simp
  exact zl4
 rotate_left
 ·exact zl0
 refine last_ (i:=4) (N:=some 77) #[true,true,true,true,true,false] rfl rfl zq14 zq47 (fun K hK=>?_);refine goes_ Tryd.func59 zq14 rfl #[.agg #[.bool a0, .bool a1, .int .i64 a2], .slice (some ⟨b,o1,none⟩) (l.length - (r+1)) (c - (r+1))] (by rfl) rfl rfl zq27 ?_
 with_reducible refine (HNT2.out _ HD.out).mono ?_
 rintro e_ w4 ⟨rfl,hb⟩;refine ⟨_,rfl,?_⟩;have HB4:=mk0 (j1p HD.out hb);have hx0:=(j2r HB4.out hgl2).trans hd0;have hx1:=(j2r HB4.out hgl2).trans hd1;have hx2:=(j2r HB4.out hgl2).trans hd2;clear hb hd0 hd1 hd2;refine hK.out _ _ ?_;clear hK K;refine norm_ (a':=?_) ?_ ?_;rotate_left
 ·show Act.put _ (some 77) _=_
  exact zl0
 refine pure_ (i:=5) (N:=some 12) (v:=?_) (a':=?_) #[true,true,true,true,true,true] rfl rfl zq14 (fun _ _ _ h=>h) (Or.inl ⟨by rfl,?_⟩) ?_ ?_;rotate_left
 ·intro w';go_simp
  exact zl4
 rotate_left
 ·exact zl0
 refine done_ zq14 ?_;clear hwr hcut HNT2;have HIV4:=mk0 (HCA.out _ _ _ HIV2.out HB4.out);have HK4:=mk0 (HK2.out.trans (KS.below HB4.out));have hgl4:=Nat.lt_of_lt_of_le hgl2 HB4.out.size;have hcy:=(HI.out.below (HBE.out _ _ HIV4.out)).cell (r+1+s) hss;have HCF4:=mk0 (And.intro hx0 (And.intro hx1 hx2));clear HIV2 HK2 hHeld;rcases HH.out with ⟨h5,h6⟩|⟨h5,h6⟩
 ·rw [h5] at hcy;have h7:cs=[]∧E=r+1+s:=by cases h6;exact ⟨rfl,rfl⟩
  have H7:=mk0 h7;clear h5 h6 h7 HH;go_wp2
  go_ret2
  exact ⟨by rw [H7.out.2];simp,H7.out.1 ▸ HIV4.out,HK4.out⟩
 ·have HREL:=mk0 h6;have n1:(l.getD (r+1+s) 0 == 93)=false:=beq_eq_false_iff_ne.mpr h5;have m1:decide (l.getD (r+1+s) 0=93)=false:=decide_eq_false h5
  generalize l.getD (r+1+s) 0=x at hcy n1 m1
  clear h5 h6 HH;go_wp2
  clear hcy n1 m1 hx0 hx1 hx2;have HCF:Aside0 (w4.cell? ⟨gc,0,none⟩=some (.bool a0)∧w4.cell? ⟨gc,1,none⟩=some (.bool a1)∧w4.cell? ⟨gc,2,none⟩=some (.int .i64 a2)):=HCF4;have hnS:Aside0 (¬ S gc):=⟨fun h=>by have:=HS.out _ h;have:=HGC.out;omega⟩;clear hr1 hr2 hs1 hs2 t2 t3 hl0 hl1;go_loopg [8] (l.length) (fun kq v8 w'=>∃ (p:Nat) (rem:List AC),v8 = .int .i64 (p:Int)∧Aside0 (p<l.length∧aEl a0 l kq p=some (rem,E)∧rem <:+ cs)∧Aside0 (Inv rem w')∧Aside0 (KS S w4 w'))
  case atStart=>exact ⟨r+1+s,cs,(by go_num),⟨hss,HREL.out,List.suffix_refl _⟩,HIV4,⟨KS.refl _ _⟩⟩
  case round =>
   clear HREL hrr hss HIV4;obtain ⟨p,rem,rfl,HP,HV,HK⟩:=hrel;cases gk with
   | zero=>exact absurd HP.out.2.1 (by simp [aEl])
   | succ kr =>
    obtain ⟨ra,qa,g,hra,hg,hok,hen,hq,hfin⟩:=aEl_inv HP.out.2.1;have hpl:=HP.out.1;have hx0:=HK.out.cell (a:=⟨gc,0,none⟩) hnS.out HCF.out.1;have hx1:=HK.out.cell (a:=⟨gc,1,none⟩) hnS.out HCF.out.2.1;have hx2:=HK.out.cell (a:=⟨gc,2,none⟩) hnS.out HCF.out.2.2;have hglr:=Nat.lt_of_lt_of_le hgl4 HK.out.1;have HBr:=mk0 (HBE.out _ _ HV.out);obtain ⟨o2,hcut,hI2,hcc⟩:=j4a HI.out c p (by omega) HC.out;rw [List.length_drop] at hcut hcc
    have hrb:ra<(l.drop p).length:=by
     rcases j3w (l.drop p) 0 with h|⟨j,h,_,h5⟩<;>omega
    have hgr:=gT_range (sq:=a0) hrb;have hgs:=fun h1 h2=>gT_str (sq:=a0) (l:=l.drop p) (off:=ra) h1 h2
    rw [hg] at hgr hgs;rw [List.length_drop] at hgr hrb;have hpe:p+g.en≤l.length:=by omega
    have hqb:p+g.en+qa<l.length:=by
     rcases j3w (l.drop (p+g.en)) 0 with h|⟨j,h,_,h5⟩
     ·omega
     ·rw [List.length_drop] at h5;omega
    have hvn:vN g ra≤g.en:=by
     unfold vN;split<;>omega
    have HI2:=mk0 hI2;have HCG:=mk0 (fun (W:World) (hb:Below wr.heap.size wr W)=>cg_ok a0 a1 a2 b o2 (l.length - p) (c - p) (l.drop p) none 0 W (HT.out.below (j1p HBr.out hb)) (HI2.out.below (j1p HBr.out hb)) List.length_drop hcc ra hra (by rw [hg];exact hok));rw [hg] at HCG;obtain ⟨o3,hcut3,hI3,hcc3⟩:=j4a HI.out c (p+g.en) hpe HC.out;rw [List.length_drop] at hcut3 hcc3
    push_cast at hcut3
    have HI3:=mk0 hI3;have HNT3:=mk0 (fun (W:World) (hb:Below w0.heap.size w0 W)=>nt_calls a0 a1 a2 b o3 (l.length - (p+g.en)) (c - (p+g.en)) (l.drop (p+g.en)) W (HI3.out.below hb) List.length_drop);rw [hq] at HNT3;have hac:acOf g p ra=⟨p+vB g ra,vN g ra,g.kd,((p:Int)+(g.en:Int)) - (vN g ra:Int)⟩:=rfl;have HFIN:=mk0 hfin;have HCBX:=mk0 (fun (rm:List AC) (W:World) (o4:Nat) (h1:Inv (acOf g p ra :: rm) W) (h2:(acOf g p ra :: rm) <:+ cs) (h3:IN w0 b o4 ((l.drop (p+vB g ra)).take (vN g ra)))=>HCB.out (acOf g p ra) rm W o4 h1 h2 h3);rw [hac] at HCBX;have HAC:=mk0 hac;have e1:((g.en:Int) == 0)=false:=beq_eq_false_iff_ne.mpr (by omega);have e2:decide ((g.en:Int)=0)=false:=decide_eq_false (by omega);have e3:((qa:Int) == -1)=false:=beq_eq_false_iff_ne.mpr (by omega);have e4:decide ((qa:Int) = -1)=false:=decide_eq_false (by omega);have e5:decide (g.en=0)=false:=decide_eq_false hen;obtain ⟨vb,hvb⟩:∃ vb,vb=vB g ra:=⟨_,rfl⟩;rw [← hvb] at HCG HCBX HAC;obtain ⟨vn,hvnq⟩:∃ vn,vn=vN g ra:=⟨_,rfl⟩;rw [← hvnq] at HCG HCBX HAC hvn;clear hcc hI2 hg hok hq hfin hI3 hcc3 hac hra hrb hgr hgs hvnq hvb;have HD6:=mk0 (j1l (Below.refl wr.heap.size wr));go_wp2_with fail
    refine j4g (n:=14) (S:=fun w'=>w'.cell? ⟨gc,0,none⟩=some (.bool a0)∧w'.cell? ⟨gc,1,none⟩=some (.bool a1)∧w'.cell? ⟨gc,2,none⟩=some (.int .i64 a2)) (ds:=[4]) #[false,false,false,false,false,false,false,false,false,false,false,false,false,false] zq14 rfl rfl ⟨hx0,hx1,hx2⟩ (fun hHeld=>?_)
    generalize wr.drew=w5 at HD6 hHeld ⊢
    refine pure_ (i:=1) (N:=some 93) (v:=?_) (a':=?_) #[false,true,false,false,false,false,false,false,false,false,false,false,false,false] rfl rfl zq14 (fun _ _ _ h=>h) (Or.inl ⟨by rfl,?_⟩) ?_ ?_;rotate_left
    ·intro w';go_simp
     exact zl4
    rotate_left
    ·exact zl0
    refine pure_ (i:=2) (N:=some 94) (v:=?_) (a':=?_) #[false,true,true,false,false,false,false,false,false,false,false,false,false,false] rfl rfl zq14 (fun _ _ _ h=>h) (Or.inl ⟨by rfl,?_⟩) ?_ ?_;rotate_left
    ·intro w';go_simp
     exact zl4
    rotate_left
    ·exact zl0
    refine pure_ (i:=3) (N:=some 95) (v:=?_) (a':=?_) #[false,true,true,true,false,false,false,false,false,false,false,false,false,false] rfl rfl zq14 (fun _ _ _ h=>h) (Or.inl ⟨by rfl,?_⟩) ?_ ?_;rotate_left
    ·intro w';go_simp
     exact zl4
    rotate_left
    ·exact zl0
    refine take_ (i:=0) (N:=some 92) (v:=?_) (a':=?_) #[true,true,true,true,false,false,false,false,false,false,false,false,false,false] rfl rfl zq14 (fun _ _ _ h=>h) (Or.inl ⟨by rfl,?_⟩) hHeld ?_ ?_;rotate_left
    ·rintro w' ⟨s0,s1,s2⟩;go_simp
     exact zl4
    rotate_left
    ·exact zl0
    refine last_ (i:=4) (N:=some 96) #[true,true,true,true,true,false,false,false,false,false,false,false,false,false] rfl rfl zq14 zq47 (fun K hK=>?_);refine goes_ Tryd.func62 zq14 rfl #[.agg #[.bool a0, .bool a1, .int .i64 a2], .slice (some ⟨b,o2,none⟩) (l.length - p) (c - p), .slice none 0 0] (by rfl) rfl rfl zq27 ?_
    with_reducible refine (HCG.out _ HD6.out).mono ?_
    rintro e_ w6 ⟨o4,rfl,hi,hb⟩;refine ⟨_,rfl,?_⟩;have HB6:=mk0 (j1p HD6.out hb);have HI6:Aside0 (IN w0 b o4 ((l.drop (p+vb)).take vn)):=⟨by rw [List.drop_drop] at hi;exact hi.back (j1p HBr.out HD6.out) HI.out.lt⟩;clear hb hi;refine hK.out _ _ ?_;clear hK K;refine norm_ (a':=?_) ?_ ?_;rotate_left
    ·show Act.put _ (some 96) _=_
     exact zl0
    refine pure_ (i:=5) (N:=some 91) (v:=?_) (a':=?_) #[true,true,true,true,true,true,false,false,false,false,false,false,false,false] rfl rfl zq14 (fun _ _ _ h=>h) (Or.inl ⟨by rfl,?_⟩) ?_ ?_;rotate_left
    ·intro w';go_simp
     exact zl4
    rotate_left
    ·exact zl0
    refine pure_ (i:=6) (N:=some 97) (v:=?_) (a':=?_) #[true,true,true,true,true,true,true,false,false,false,false,false,false,false] rfl rfl zq14 (fun _ _ _ h=>h) (Or.inl ⟨by rfl,?_⟩) ?_ ?_;rotate_left
    ·intro w';go_simp
     exact zl4
    rotate_left
    ·exact zl0
    refine pure_ (i:=7) (N:=some 98) (v:=?_) (a':=?_) #[true,true,true,true,true,true,true,true,false,false,false,false,false,false] rfl rfl zq14 (fun _ _ _ h=>h) (Or.inl ⟨by rfl,?_⟩) ?_ ?_;rotate_left
    ·intro w';go_simp
     exact zl4
    rotate_left
    ·exact zl0
    refine pure_ (i:=8) (N:=some 99) (v:=?_) (a':=?_) #[true,true,true,true,true,true,true,true,true,false,false,false,false,false] rfl rfl zq14 (fun _ _ _ h=>h) (Or.inl ⟨by rfl,?_⟩) ?_ ?_;rotate_left
    ·intro w';go_simp
     exact zl4
    rotate_left
    ·exact zl0
    refine pure_ (i:=9) (N:=some 100) (v:=?_) (a':=?_) #[true,true,true,true,true,true,true,true,true,true,false,false,false,false] rfl rfl zq14 (fun _ _ _ h=>h) (Or.inl ⟨by rfl,?_⟩) ?_ ?_;rotate_left
    ·intro w';go_simp
     exact zl4
    rotate_left
    ·exact zl0
    refine pure_ (i:=10) (N:=some 13) (v:=?_) (a':=?_) #[true,true,true,true,true,true,true,true,true,true,true,false,false,false] rfl rfl zq14 (fun _ _ _ h=>h) (Or.inl ⟨by rfl,?_⟩) ?_ ?_;rotate_left
    ·intro w';go_simp
     exact zl4
    rotate_left
    ·exact zl0
    refine pure_ (i:=11) (N:=some 14) (v:=?_) (a':=?_) #[true,true,true,true,true,true,true,true,true,true,true,true,false,false] rfl rfl zq14 (fun _ _ _ h=>h) (Or.inl ⟨by rfl,?_⟩) ?_ ?_;rotate_left
    ·intro w';go_simp
     exact zl4
    rotate_left
    ·exact zl0
    refine pure_ (i:=12) (N:=some 15) (v:=?_) (a':=?_) #[true,true,true,true,true,true,true,true,true,true,true,true,true,false] rfl rfl zq14 (fun _ _ _ h=>h) (Or.inl ⟨by rfl,?_⟩) ?_ ?_;rotate_left
    ·intro w';go_simp
     exact zl4
    rotate_left
    ·exact zl0
    refine pure_ (i:=13) (N:=some 16) (v:=?_) (a':=?_) #[true,true,true,true,true,true,true,true,true,true,true,true,true,true] rfl rfl zq14 (fun _ _ _ h=>h) (Or.inl ⟨by rfl,?_⟩) ?_ ?_;rotate_left
    ·intro w';go_simp
     exact zl4
    rotate_left
    ·exact zl0
    refine done_ zq14 ?_;clear hcut HCG hHeld;rcases HFIN.out with ⟨h6,h7,h8⟩|⟨h6,tl,h8,h7⟩
    ·have H8:=mk0 h8;have HREM:=mk0 h7;have HRS:Aside0 (rem <:+ cs):=⟨HP.out.2.2⟩;rw [HREM.out] at HV HRS;rw [← HAC.out] at HCBX;have HVD:=mk0 (HCA.out _ _ _ HV.out HB6.out);have HX:=mk0 (HCBX.out [] w6 o4 HVD.out HRS.out HI6.out);clear h7;go_upto_region 33 with (go_at_call 80;(with_reducible refine HX.out.mono ?_);rintro e_ w7 ⟨rfl,hv7,hk7⟩;have HV7:=mk0 hv7;have HK7:=mk0 hk7;clear hv7 hk7)
     have KA6:=mk0 ((KS.below (S:=S) HB6.out).trans HK7.out);have hy0:=KA6.out.cell (a:=⟨gc,0,none⟩) hnS.out hx0;have hy1:=KA6.out.cell (a:=⟨gc,1,none⟩) hnS.out hx1;have hy2:=KA6.out.cell (a:=⟨gc,2,none⟩) hnS.out hx2;have HD8:=mk0 (j1l (Below.refl w7.heap.size w7));have HB7:=mk0 (HBE.out _ _ HV7.out);go_wp2_with fail
     refine j4g (n:=6) (S:=fun w'=>w'.cell? ⟨gc,0,none⟩=some (.bool a0)∧w'.cell? ⟨gc,1,none⟩=some (.bool a1)∧w'.cell? ⟨gc,2,none⟩=some (.int .i64 a2)) (ds:=[4]) #[false,false,false,false,false,false] zq14 rfl rfl ⟨hy0,hy1,hy2⟩ (fun hHeld=>?_)
     generalize w7.drew=w8 at HD8 hHeld ⊢
     refine pure_ (i:=1) (N:=some 124) (v:=?_) (a':=?_) #[false,true,false,false,false,false] rfl rfl zq14 (fun _ _ _ h=>h) (Or.inl ⟨by rfl,?_⟩) ?_ ?_;rotate_left
     ·intro w';go_simp
      exact zl4
     rotate_left
     ·exact zl0
     refine pure_ (i:=2) (N:=some 125) (v:=?_) (a':=?_) #[false,true,true,false,false,false] rfl rfl zq14 (fun _ _ _ h=>h) (Or.inl ⟨by rfl,?_⟩) ?_ ?_;rotate_left
     ·intro w';go_simp
      exact zl4
     rotate_left
     ·exact zl0
     refine pure_ (i:=3) (N:=some 126) (v:=?_) (a':=?_) #[false,true,true,true,false,false] rfl rfl zq14 (fun _ _ _ h=>h) (Or.inl ⟨by rfl,?_⟩) ?_ ?_;rotate_left
     ·intro w';go_simp
      exact zl4
     rotate_left
     ·exact zl0
     refine take_ (i:=0) (N:=some 123) (v:=?_) (a':=?_) #[true,true,true,true,false,false] rfl rfl zq14 (fun _ _ _ h=>h) (Or.inl ⟨by rfl,?_⟩) hHeld ?_ ?_;rotate_left
     ·rintro w' ⟨s0,s1,s2⟩;go_simp
      exact zl4
     rotate_left
     ·exact zl0
     refine last_ (i:=4) (N:=some 127) #[true,true,true,true,true,false] rfl rfl zq14 zq47 (fun K hK=>?_);refine goes_ Tryd.func59 zq14 rfl #[.agg #[.bool a0, .bool a1, .int .i64 a2], .slice (some ⟨b,o3,none⟩) (l.length - (p+g.en)) (c - (p+g.en))] (by rfl) rfl rfl zq27 ?_
     with_reducible refine (HNT3.out _ (j1p HB7.out HD8.out)).mono ?_
     rintro e_ w9 ⟨rfl,hb⟩;refine ⟨_,rfl,?_⟩;have HB9:=mk0 (j1p HD8.out hb);clear hb;refine hK.out _ _ ?_;clear hK K;refine norm_ (a':=?_) ?_ ?_;rotate_left
     ·show Act.put _ (some 127) _=_
      exact zl0
     refine pure_ (i:=5) (N:=some 17) (v:=?_) (a':=?_) #[true,true,true,true,true,true] rfl rfl zq14 (fun _ _ _ h=>h) (Or.inl ⟨by rfl,?_⟩) ?_ ?_;rotate_left
     ·intro w';go_simp
      exact zl4
     rotate_left
     ·exact zl0
     refine done_ zq14 ?_;have HV9:=mk0 (HCA.out _ _ _ HV7.out HB9.out);have hcz:=(HI.out.below (HBE.out _ _ HV9.out)).cell (p+g.en+qa) hqb;have HK9:=mk0 (HK.out.trans (KA6.out.trans (KS.below HB9.out)));rw [h6] at hcz;clear hHeld hx0 hx1 hx2 hy0 hy1 hy2 hcut3 h6;go_wp2
     go_ret2
     exact ⟨by rw [H8.out];simp,HV9.out,HK4.out.trans HK9.out⟩
    ·have H8:=mk0 h8;have HREM:=mk0 h7;have HRS:Aside0 (rem <:+ cs):=⟨HP.out.2.2⟩;rw [HREM.out] at HV HRS;rw [← HAC.out] at HCBX;have HVD:=mk0 (HCA.out _ _ _ HV.out HB6.out);have HX:=mk0 (HCBX.out tl w6 o4 HVD.out HRS.out HI6.out);clear h7;go_upto_region 33 with (go_at_call 80;(with_reducible refine HX.out.mono ?_);rintro e_ w7 ⟨rfl,hv7,hk7⟩;have HV7:=mk0 hv7;have HK7:=mk0 hk7;clear hv7 hk7)
     have KA6:=mk0 ((KS.below (S:=S) HB6.out).trans HK7.out);have hy0:=KA6.out.cell (a:=⟨gc,0,none⟩) hnS.out hx0;have hy1:=KA6.out.cell (a:=⟨gc,1,none⟩) hnS.out hx1;have hy2:=KA6.out.cell (a:=⟨gc,2,none⟩) hnS.out hx2;have HD8:=mk0 (j1l (Below.refl w7.heap.size w7));have HB7:=mk0 (HBE.out _ _ HV7.out);go_wp2_with fail
     refine j4g (n:=6) (S:=fun w'=>w'.cell? ⟨gc,0,none⟩=some (.bool a0)∧w'.cell? ⟨gc,1,none⟩=some (.bool a1)∧w'.cell? ⟨gc,2,none⟩=some (.int .i64 a2)) (ds:=[4]) #[false,false,false,false,false,false] zq14 rfl rfl ⟨hy0,hy1,hy2⟩ (fun hHeld=>?_)
     generalize w7.drew=w8 at HD8 hHeld ⊢
     refine pure_ (i:=1) (N:=some 124) (v:=?_) (a':=?_) #[false,true,false,false,false,false] rfl rfl zq14 (fun _ _ _ h=>h) (Or.inl ⟨by rfl,?_⟩) ?_ ?_;rotate_left
     ·intro w';go_simp
      exact zl4
     rotate_left
     ·exact zl0
     refine pure_ (i:=2) (N:=some 125) (v:=?_) (a':=?_) #[false,true,true,false,false,false] rfl rfl zq14 (fun _ _ _ h=>h) (Or.inl ⟨by rfl,?_⟩) ?_ ?_;rotate_left
     ·intro w';go_simp
      exact zl4
     rotate_left
     ·exact zl0
     refine pure_ (i:=3) (N:=some 126) (v:=?_) (a':=?_) #[false,true,true,true,false,false] rfl rfl zq14 (fun _ _ _ h=>h) (Or.inl ⟨by rfl,?_⟩) ?_ ?_;rotate_left
     ·intro w';go_simp
      exact zl4
     rotate_left
     ·exact zl0
     refine take_ (i:=0) (N:=some 123) (v:=?_) (a':=?_) #[true,true,true,true,false,false] rfl rfl zq14 (fun _ _ _ h=>h) (Or.inl ⟨by rfl,?_⟩) hHeld ?_ ?_;rotate_left
     ·rintro w' ⟨s0,s1,s2⟩;go_simp
      exact zl4
     rotate_left
     ·exact zl0
     refine last_ (i:=4) (N:=some 127) #[true,true,true,true,true,false] rfl rfl zq14 zq47 (fun K hK=>?_);refine goes_ Tryd.func59 zq14 rfl #[.agg #[.bool a0, .bool a1, .int .i64 a2], .slice (some ⟨b,o3,none⟩) (l.length - (p+g.en)) (c - (p+g.en))] (by rfl) rfl rfl zq27 ?_
     with_reducible refine (HNT3.out _ (j1p HB7.out HD8.out)).mono ?_
     rintro e_ w9 ⟨rfl,hb⟩;refine ⟨_,rfl,?_⟩;have HB9:=mk0 (j1p HD8.out hb);clear hb;refine hK.out _ _ ?_;clear hK K;refine norm_ (a':=?_) ?_ ?_;rotate_left
     ·show Act.put _ (some 127) _=_
      exact zl0
     refine pure_ (i:=5) (N:=some 17) (v:=?_) (a':=?_) #[true,true,true,true,true,true] rfl rfl zq14 (fun _ _ _ h=>h) (Or.inl ⟨by rfl,?_⟩) ?_ ?_;rotate_left
     ·intro w';go_simp
      exact zl4
     rotate_left
     ·exact zl0
     refine done_ zq14 ?_;have HV9:=mk0 (HCA.out _ _ _ HV7.out HB9.out);have hcz:=(HI.out.below (HBE.out _ _ HV9.out)).cell (p+g.en+qa) hqb;have HK9:=mk0 (HK.out.trans (KA6.out.trans (KS.below HB9.out)));rw [h6] at hcz;clear hHeld hx0 hx1 hx2 hy0 hy1 hy2 hcut3 h6;go_wp2
     go_roundg kr
     case measure=>omega
     case rel=>exact ⟨p+g.en+qa+1,tl,(by go_num),⟨aEl_lt H8.out,H8.out,(List.suffix_cons _ _).trans HRS.out⟩,HV9,HK9⟩
theorem tl_ne {a b : ByteArray} (h:¬ a=b):(a.toList == b.toList)=false:=beq_eq_false_iff_ne.mpr fun e=>h (by
 rw [Lib.toList_data,Lib.toList_data] at e;cases a with|mk x=>cases b with|mk y=>exact congrArg ByteArray.mk (Array.toList_inj.mp e))
set_option maxHeartbeats 8000000 in
set_option maxRecDepth 100000 in
theorem eq_calls (x n c:Nat) (A:Option Addr) (v:List Int) (s:ByteArray) (w:World) (hx:w.cell? ⟨x,0,none⟩=some (.slice A n c)) (hC:Kd.C (Kd.int .u8) w A n v) (hn:v.length=n) :
 Calls Tryd.prog 76 #[.pointer (some ⟨x,0,none⟩), .string s] w fun e w'=>e = .returned (.bool (decide (strOfNums v=s)))∧w'=w:=by
 subst hn;have hcv:=Kd.C_string (P:=Tryd.prog) (c:=c) Tryd.underlying55 Tryd.underlying5 Tryd.underlying9 hC;by_cases he:strOfNums v=s
 ·have e2:decide (strOfNums v=s)=true:=decide_eq_true he;clear hC;rw [e2];subst he;clear e2;go_enter Tryd.func76,Tryd.ntmps76
  go_wp2
  go_ret
  exact ⟨rfl,rfl⟩
 have e2:decide (strOfNums v=s)=false:=decide_eq_false he;clear hC;rw [e2];have HE:=mk0 he;go_enter Tryd.func76,Tryd.ntmps76
 go_wp2
 go_ret
 refine ⟨?_,rfl⟩
 show Ending.returned (.bool ((strOfNums v).toList == s.toList))=_
 rw [tl_ne HE.out]
theorem atoi_c (s : ByteArray) (n:Int) (hl:s.size≤18) (h:Lib.atoi s.data.toList=some n) (w:World) :
 Calls Tryd.prog 78 #[.string s] w fun e w'=>e = .returned (.tuple #[.int .i64 n, .nilIface])∧Below w.heap.size w w':=by
 refine (Tryd.strconv_Atoi s n hl h w).mono ?_;rintro e w' ⟨he,t,rfl⟩;exact ⟨he,bytes_below (Below.refl _ w) (Nat.le_refl _) _ t⟩
def skp : List Int→Nat→Nat
  | [],i=>i
  | c :: t,i=>if c≤32 then skp t (i+1) else if 92<c∧c≠123∧c≠125 then skp t (i+1) else i
theorem skp_range : ∀ (l:List Int) (i:Nat),i≤skp l i∧skp l i≤i+l.length
 | [],i=>by simp [skp]
 | c :: t,i=>by
  have:=skp_range t (i+1);rw [skp];simp only [List.length_cons];split
  ·omega
  split<;>omega
def kIdx (s : ByteArray):Option Int :=
  if 3≤s.size∧s.size≤20∧(bytesOf s).getD (s.size - 1) 0=93 then Lib.atoi (s.extract 1 (s.size - 1)).data.toList else none
def isIx (s : ByteArray):Bool:=decide (0<s.size∧(bytesOf s).getD 0 0=91)
def pick (x : AC):Nat × Nat:=if x.kd=1 then ((x.off - 2).toNat,x.vn+2) else (x.off.toNat,x.vn)
inductive SR where
  | done (r:Int)
  | go (kl lv:Int) (i:Nat) (lm:Bool)
  | sub (m:Nat)
def sKey (ks : List ByteArray) (kl lv:Int) (i3:Nat):Option (List Int)→Option SR
  | none=>some (.done (-1))
  | some v =>
    if lv≤(ks.length:Int) then
      (if strOfNums v=ks.getD (lv.toNat - 1) default then
        (if kl=lv - 1 then (if kl+1=(ks.length:Int) then some (.done ((i3+1:Nat):Int)) else some (.go (kl+1) lv (i3+1) true))
        else some (.go kl lv (i3+1) true))
      else some (.go kl lv (i3+1) false))
    else some (.done (-1))
def sStr (un : List Int→Option (Option (List Int))) (ks:List ByteArray) (l:List Int) (kl lv:Int) (i:Nat) (lm:Bool) (se:Int × Bool):Option SR :=
  if se.1<0 then some (.done (-1))
  else if nT (l.drop (i+1+se.1.toNat)) 0<0 then some (.done (-1))
  else if l.getD (i+1+se.1.toNat+(nT (l.drop (i+1+se.1.toNat)) 0).toNat) 0=58 then
    (if lv<1 then some (.done (-1))
    else (if se.2=false then some (some ((l.drop (i+1)).take (se.1.toNat - 1))) else un ((l.drop (i+1)).take (se.1.toNat - 1))).bind (sKey ks kl lv (i+1+se.1.toNat+(nT (l.drop (i+1+se.1.toNat)) 0).toNat)))
  else some (.go kl lv (i+1+se.1.toNat+(nT (l.drop (i+1+se.1.toNat)) 0).toNat) lm)
def sArr (sq : Bool) (ks:List ByteArray) (l:List Int) (kl lv:Int) (i:Nat) (lm:Bool):Option SR :=
  if kl=lv∧lv<0 then none
  else if kl=lv∧isIx (ks.getD lv.toNat default)=true then
    (kIdx (ks.getD lv.toNat default)).bind fun ai=>(aE sq (l.drop i)).bind fun cs =>
      if 0≤ai∧ai<(cs.1.length:Int) then some (.sub ai.toNat) else some (.done (-1))
  else if bE sq 91 93 (l.drop i) 0 0<0 then some (.done (-1)) else some (.go kl lv (i+(bE sq 91 93 (l.drop i) 0 0).toNat) lm)
def sStep (sq : Bool) (un:List Int→Option (Option (List Int))) (ks:List ByteArray) (l:List Int) (kl lv:Int) (i:Nat) (lm:Bool):Option SR :=
  if l.getD i 0=34∨(l.getD i 0=39∧sq=true) then sStr un ks l kl lv i lm (strE (l.getD i 0) (l.drop (i+1)) 0 false false)
  else if l.getD i 0=39 then some (.go kl lv (i+1) lm)
  else if l.getD i 0=123 then
    (if lm=false then (if bE sq 123 125 (l.drop i) 0 0<0 then some (.done (-1)) else some (.go kl lv (i+(bE sq 123 125 (l.drop i) 0 0).toNat) lm))
    else some (.go kl (lv+1) (i+1) lm))
  else if l.getD i 0=125 then some (.go (if lv - 1=kl then kl - 1 else kl) (lv - 1) (i+1) lm)
  else if l.getD i 0=91 then sArr sq ks l kl lv i lm
  else if l.getD i 0=58 then some (.done (-1))
  else some (.go kl lv (i+1) lm)
def sKl (sq : Bool) (un:List Int→Option (Option (List Int))):Nat→List ByteArray→List Int→Int→Int→Nat→Bool→Option Int
  | 0,_,_,_,_,_,_=>none
  | n+1,ks,l,kl,lv,i,lm =>
    if l.length≤skp (l.drop i) i then some (-1)
    else (sStep sq un ks l kl lv (skp (l.drop i) i) lm).bind fun r=>match r with
      | .done r=>some r
      | .go kl' lv' i' lm'=>sKl sq un n ks l kl' lv' i' lm'
      | .sub m=>(aE sq (l.drop (skp (l.drop i) i))).bind fun cs=>(cs.1[m]?).bind fun x =>
          (if ks.drop (lv.toNat+1)=[] then some 0 else sKl sq un n (ks.drop (lv.toNat+1)) ((l.drop (skp (l.drop i) i+(pick x).1)).take (pick x).2) 0 0 0 true).bind fun r =>
            if r<0 then some (-1) else some (((skp (l.drop i) i+(pick x).1:Nat):Int)+r)
def sK (sq : Bool) (un:List Int→Option (Option (List Int))) (n:Nat) (ks:List ByteArray) (l:List Int):Option Int:=if ks=[] then some 0 else sKl sq un n ks l 0 0 0 true
structure KY (w : World) (b o:Nat) (ks:List ByteArray):Prop where
  cell:∀ i,i<ks.length→w.cell? ⟨b,o+i,none⟩=some (.string (ks.getD i default))
  lt:b<w.heap.size
  len:ks.length≤2147483647
  sz:∀ s ∈ ks,s.size≤2147483647
theorem KY.below {w0 W : World} {b o:Nat} {ks:List ByteArray} (h:KY w0 b o ks) (hb:Below w0.heap.size w0 W):KY W b o ks :=
 ⟨fun i hi=>(j2r hb h.lt).trans (h.cell i hi),Nat.lt_of_lt_of_le h.lt hb.size,h.len,h.sz⟩
theorem KY.drop {w : World} {b o:Nat} {ks:List ByteArray} (h:KY w b o ks) (m:Nat) (hm:m≤ks.length):KY w b (o+m) (ks.drop m) :=
 ⟨fun i hi=>by
  rw [List.length_drop] at hi;have:=h.cell (m+i) (by omega);rw [show o+m+i=o+(m+i) by omega,this];simp [List.getD_eq_getElem?_getD],h.lt,by have:=h.len;rw [List.length_drop];omega,fun s hs=>h.sz s (List.mem_of_mem_drop hs)⟩
theorem KY.nil {w : World} {b:Nat} (h:b<w.heap.size) (o:Nat):KY w b o []:=⟨fun i hi=>(by simp at hi),h,by simp,fun s hs=>(by simp at hs)⟩
theorem infoS_ : (Tryd.prog.info? 9).map (fun i=>(i.zero,i.size,i.bytes))=some (some (.string ByteArray.empty),1,16):=by kernel_rfl
theorem slk_l (A : Option Addr) (n c m:Nat) (hm:m≤n):∀ W:World,(Instr.slice 22 (.slice A n c) (some (.int .i64 (m:Int))) none none).run Tryd.prog W = .ok (.slice (if c=m then A else A.map (·.add m)) (n - m) (c - m)) W:=fun W=>by
 obtain ⟨i0,hi,hzz⟩:=Option.map_eq_some_iff.1 infoS_;simp only [Prod.mk.injEq] at hzz;have hel:(Tryd.prog).elem 22=9:=by simp [Program.elem,Tryd.underlying22]
 have hu:(Tryd.prog).underlying 22=some (.slice ((Tryd.prog).elem 22)):=by rw [hel];exact Tryd.underlying22
 rw [run_slice_l W 22 A n c hu .i64 (m:Int) (Int.natCast_nonneg _) (by omega),hel];simp [sizeOf,typeInfo,hi,hzz.2.1,sliced,Result.andThen]
theorem cut_keys {w0 : World} {b o:Nat} {ks:List ByteArray} (h:KY w0 b o ks) (c m:Nat) (hm:m≤ks.length) (hc:ks.length≤c) :
 ∃ o1,(∀ W:World,(Instr.slice 22 (.slice (some ⟨b,o,none⟩) ks.length c) (some (.int .i64 (m:Int))) none none).run Tryd.prog W = .ok (.slice (some ⟨b,o1,none⟩) (ks.length - m) (c - m)) W)∧KY w0 b o1 (ks.drop m)∧ks.length - m≤c - m:=by
 refine ⟨if c=m then o else o+m,fun W=>?_,?_,by omega⟩
 ·rw [slk_l _ _ _ _ hm W];by_cases hcm:c=m
  ·rw [if_pos hcm,if_pos hcm]
  rw [if_neg hcm,if_neg hcm];simp only [Option.map_some,add_at]
 ·by_cases hcm:c=m
  rotate_left
  ·rw [if_neg hcm];exact h.drop m hm
  rw [if_pos hcm,List.drop_of_length_le (by omega)];exact KY.nil h.lt o
theorem keep_cell {v W : World} {G:Nat} (h:KeepBut v W G none) {a:Addr} {x:Value} (hg:a.block≠G) (hc:v.cell? a=some x):W.cell? a=some x:=by
 rw [← hc];unfold World.cell?;rw [h.2 a.block (World.block_lt_of_cell? _ _ hc) hg (by simp)]
theorem BF.carry {v w0 W W':World} {G ty:Nat} {L:List Int} (h:BF v w0 W G ty L) (hb:Below W.heap.size W W'):BF v w0 W' G ty L :=
 ⟨(hb.block _ (j3p h.blk)).trans h.blk,h.at_,j1p h.below hb,keep_tr h.keep ⟨hb.size,fun i hi _ _=>hb.block i hi⟩⟩
theorem aEl_len {sq : Bool} {l:List Int}:∀ (n p E:Nat) (cs:List AC),aEl sq l n p=some (cs,E)→cs.length≤n
 | 0,_,_,_,h=>by simp [aEl] at h
 | n+1,p,E,cs,h=>by
  obtain ⟨r,q,g,_,_,_,_,_,⟨_,rfl,_⟩|⟨_,t,ht,rfl⟩⟩:=aEl_inv h
  ·simp
  ·have:=aEl_len n _ _ _ ht;simp only [List.length_cons];omega
def ACok (l : List Int) (x:AC):Prop:=(x.kd=1→x.off=((x.vo+1:Nat):Int)∧1≤x.vo∧x.vo+x.vn+1≤l.length)∧(x.kd≠1→x.off=(x.vo:Int)∧x.vo+x.vn≤l.length)
theorem acOf_ok {sq : Bool} {l:List Int} {p r:Nat} {g:GR} (hr:nT (l.drop p) 0=(r:Int)) (hg:gT sq (l.drop p) r=g) (hok:g.ok=true) (hp:p<l.length):ACok l (acOf g p r):=by
 have hrb:r<(l.drop p).length:=by
  rcases j3w (l.drop p) 0 with h|⟨j,h,_,h5⟩<;>omega
 have hgr:=gT_range (sq:=sq) hrb;have hgs:=fun h1 h2=>gT_str (sq:=sq) (l:=l.drop p) (off:=r) h1 h2
 rw [hg] at hgr hgs;rw [List.length_drop] at hgr hrb;refine ⟨fun h=>?_,fun h=>?_⟩
 ·have h1:g.kd=1:=h;have h2:=hgs h1 hok;unfold acOf vB vN;simp only [if_pos h1];omega
 ·have h1:¬ g.kd=1:=h;unfold acOf vB vN;simp only [if_neg h1];omega
theorem aEl_ok {sq : Bool} {l:List Int}:∀ (n p E:Nat) (cs:List AC),aEl sq l n p=some (cs,E)→∀ x ∈ cs,ACok l x
 | 0,_,_,_,h=>by simp [aEl] at h
 | n+1,p,E,cs,h=>by
  have hp:=aEl_lt h;obtain ⟨r,q,g,h1,h2,h3,_,_,⟨_,rfl,_⟩|⟨_,t,ht,rfl⟩⟩:=aEl_inv h
  ·intro x hx;rw [List.mem_singleton.mp hx];exact acOf_ok h1 h2 h3 hp
  ·intro x hx;rcases List.mem_cons.mp hx with rfl|hx
   ·exact acOf_ok h1 h2 h3 hp
   ·exact aEl_ok n _ _ _ ht x hx
theorem aE_ok {sq : Bool} {l:List Int} {cs:List AC} {E:Nat} (h:aE sq l=some (cs,E)):cs.length≤l.length∧∀ x ∈ cs,ACok l x:=by
 obtain ⟨r,s,_,_,_,⟨_,h2⟩|⟨_,h2⟩⟩:=aE_inv h
 ·cases h2;exact ⟨Nat.zero_le _,fun x hx=>by simp at hx⟩
 ·exact ⟨aEl_len _ _ _ _ h2,aEl_ok _ _ _ _ h2⟩
def FV (w : World) (b:Nat) (l:List Int) (j:Nat) (x:AC) (v:Value) (vo:Int):Prop :=
  ∃ o' c',v = .slice (some ⟨b,o',none⟩) (pick x).2 c'∧IN w b o' ((l.drop (j+(pick x).1)).take (pick x).2)∧(pick x).2≤c'∧c'≤9223372036854775807∧vo=((pick x).1:Int)
def CI (w w1 : World) (b:Nat) (l:List Int) (j:Nat) (pC pA pV pO pD pI:Nat) (ai:Int) (dv:Value) (cs r:List AC) (W:World):Prop :=
  ∃ (cur:Nat) (v:Value) (vo:Int),CS w1 W pC pA pV pO pD pI cur ai v vo dv j∧cur+r.length=cs.length∧r=cs.drop cur ∧
    ((0≤ai∧ai<cur)→∃ x,cs[ai.toNat]? = some x∧FV w b l j x v vo)∧(¬ (0≤ai∧ai<cur)→v = .slice none 0 0∧vo=0)
theorem CI.cb {w w1 : World} {b o c:Nat} {l:List Int} {j pC pA pV pO pI pD:Nat} {ai:Int} {sq:Bool} {cs:List AC} {E:Nat} (hI:IN w b o l) (hc:l.length≤c) (hcm:c≤9223372036854775807) (hj:j<l.length) (hE:aE sq (l.drop j)=some (cs,E))
 (x:AC) (r:List AC) (W:World) (o1:Nat) (h:CI w w1 b l j pC pA pV pO pD pI ai (.slice (some ⟨b,o,none⟩) l.length c) cs (x :: r) W) (hI1:IN w b o1 (((l.drop j).drop x.vo).take x.vn)) :
 Calls Tryd.prog 80 #[.slice (some ⟨b,o1,none⟩) x.vn x.vn, .int .i64 x.kd, .int .i64 x.off, .nilIface, .pointer (some ⟨pC,0,none⟩), .pointer (some ⟨pA,0,none⟩), .pointer (some ⟨pV,0,none⟩), .pointer (some ⟨pO,0,none⟩), .pointer (some ⟨pD,0,none⟩), .pointer (some ⟨pI,0,none⟩)] W
  fun e W'=>e = .returned (.tuple #[])∧CI w w1 b l j pC pA pV pO pD pI ai (.slice (some ⟨b,o,none⟩) l.length c) cs r W'∧KS (S3 pC pV pO) W W':=by
 obtain ⟨cur,v,vo,hCS,hlen,hr,hyes,hno⟩:=h;obtain ⟨hcl,hok⟩:=aE_ok hE;rw [List.length_drop] at hcl;have hlm:=hI.max;have hcur:cur<cs.length:=by simp only [List.length_cons] at hlen;omega
 have hx:cs[cur]? = some x:=by
  have:=congrArg (fun t:List AC=>t[0]?) hr
  simpa using this.symm
 have hr2:r=cs.drop (cur+1):=by
  have:=congrArg List.tail hr
  simpa [List.tail_drop] using this
 have hxm:x ∈ cs:=List.mem_of_getElem? hx;have hxo:=hok x hxm;have hlen2:cur+1+r.length=cs.length:=by simp only [List.length_cons] at hlen;omega
 by_cases hce:(cur:Int)=ai
 rotate_left
 ·refine (cl_miss w1 W pC pA pV pO pD pI cur ai vo j x.kd x.off v _ _ .nilIface hCS hce (by omega)).mono ?_;rintro e W' ⟨he,hC',hK'⟩;exact ⟨he,⟨cur+1,v,vo,(by exact_mod_cast hC'),hlen2,hr2,fun hh=>hyes ⟨hh.1,by omega⟩,fun hn=>hno (fun hh=>hn ⟨hh.1,by omega⟩)⟩,hK'⟩
 subst hce;by_cases hkd:x.kd=1
 rotate_left
 ·obtain ⟨h1,h2⟩:=hxo.2 hkd;rw [List.length_drop] at h2;refine (cl_hit w1 W pC pA pV pO pD pI cur vo j x.kd x.off v _ .nilIface (some ⟨b,o1,none⟩) x.vn x.vn hCS hkd (by omega)).mono ?_;rintro e W' ⟨he,hC',hK'⟩
  have hp:pick x=(x.vo,x.vn):=by
   unfold pick;rw [if_neg hkd,h1];simp
  refine ⟨he,⟨cur+1,_,_,(by exact_mod_cast hC'),hlen2,hr2,fun _=>⟨x,(by simpa using hx),o1,_,(by rw [hp]),(by rw [hp,← List.drop_drop];exact hI1),(by rw [hp];exact Nat.le_refl _),by omega,by rw [hp];exact h1⟩,fun hn=>absurd ⟨by omega,by omega⟩ hn⟩,hK'⟩
 obtain ⟨h1,h2,h3⟩:=hxo.1 hkd;rw [List.length_drop] at h3;obtain ⟨o2,hcut,hI2,hcc⟩:=cut_mid hI c (j+(x.vo - 1)) (j+(x.vo - 1)+x.vn+2) (by omega) (by omega) hc;rw [show j+(x.vo - 1)+x.vn+2 - (j+(x.vo - 1))=x.vn+2 by omega] at hcut hI2 hcc
 have hcs:=cl_str w1 W pC pA pV pO pD pI cur vo x.off j v .nilIface (some ⟨b,o1,none⟩) x.vn x.vn (some ⟨b,o,none⟩) l.length c (some ⟨b,o2,none⟩) (x.vn+2) (c - (j+(x.vo - 1))) hCS (by omega) (by omega) (by omega) (by omega) (fun W'=>by
  have e1:(j:Int)+(x.off - 2)=((j+(x.vo - 1):Nat):Int):=by omega
  have e2:((j+(x.vo - 1):Nat):Int)+(x.vn:Int)+2=((j+(x.vo - 1)+x.vn+2:Nat):Int):=by omega
  rw [e1,e2];exact hcut W')
 rw [hkd];refine hcs.mono ?_;rintro e W' ⟨he,hC',hK'⟩
 have hp:pick x=(x.vo - 1,x.vn+2):=by
  unfold pick;rw [if_pos hkd,h1]
  congr 1
  omega
 refine ⟨he,⟨cur+1,_,_,(by exact_mod_cast hC'),hlen2,hr2,fun _=>⟨x,(by simpa using hx),o2,_,(by rw [hp]),(by rw [hp];exact hI2),(by rw [hp];exact hcc),by omega,by rw [hp];simp only;omega⟩,fun hn=>absurd ⟨by omega,by omega⟩ hn⟩,hK'⟩
theorem get_bytes (s : ByteArray) (i:Nat) (h:i<s.size):(bytesOf s).getD i 0=((s[i]'h).toNat:Int):=by
 have h2:i<s.data.size:=h;have:s[i]'h=s.data[i]'h2:=rfl;rw [this];simp [bytesOf,List.getD_eq_getElem?_getD];rw [Array.getElem?_eq_getElem h2];rfl
theorem sKey_range {ks : List ByteArray} {kl lv:Int} {i3:Nat} {u:Option (List Int)} {x:SR} (h:sKey ks kl lv i3 u=some x):(∃ r,x = .done r∧(r = -1∨r=((i3+1:Nat):Int)))∨∃ kl' lv' lm',x = .go kl' lv' (i3+1) lm':=by
 cases u with
 | none=>cases h;exact .inl ⟨_,rfl, .inl rfl⟩
 | some v =>
  rw [sKey] at h
  split at h
  ·split at h
   ·split at h
    ·split at h
     ·cases h;exact .inl ⟨_,rfl, .inr rfl⟩
     ·cases h;exact .inr ⟨_,_,_,rfl⟩
    ·cases h;exact .inr ⟨_,_,_,rfl⟩
   ·cases h;exact .inr ⟨_,_,_,rfl⟩
  ·cases h;exact .inl ⟨_,rfl, .inl rfl⟩
theorem sStep_range {sq : Bool} {un:List Int→Option (Option (List Int))} {ks:List ByteArray} {l:List Int} {kl lv:Int} {i:Nat} {lm:Bool} {x:SR} (hi:i<l.length) (h:sStep sq un ks l kl lv i lm=some x) :
 (∃ r,x = .done r∧(r = -1∨∃ m:Nat,r=(m:Int)∧m≤l.length))∨(∃ kl' lv' i' lm',x = .go kl' lv' i' lm'∧i'≤l.length)∨∃ m,x = .sub m:=by
 have blk:∀ op cl,(if bE sq op cl (l.drop i) 0 0<0 then some (SR.done (-1)) else some (.go kl lv (i+(bE sq op cl (l.drop i) 0 0).toNat) lm))=some x→(∃ r,x = .done r∧(r = -1∨∃ m:Nat,r=(m:Int)∧m≤l.length))∨(∃ kl' lv' i' lm',x = .go kl' lv' i' lm'∧i'≤l.length)∨∃ m,x = .sub m:=fun op cl h=>by
  split at h
  ·cases h;exact .inl ⟨_,rfl, .inl rfl⟩
  ·rename_i hn;rcases bE_range sq op cl _ (l.drop i) 0 0 (Nat.le_refl _) with h6|⟨m,h6,h7,h8⟩
   ·rw [h6] at hn;exact absurd zq47 hn
   ·rw [h6,Int.toNat_natCast] at h
    rw [List.length_drop] at h8;cases h;exact .inr (.inl ⟨_,_,_,_,rfl,by omega⟩)
 rw [sStep] at h
 split at h
 ·rw [sStr] at h
  rcases j4m (l.getD i 0) (l.drop (i+1)) 0 false false with h6|⟨m,h6,h7,h8⟩
  ·rw [h6,if_pos zq47] at h
   cases h;exact .inl ⟨_,rfl, .inl rfl⟩
  rw [List.length_drop] at h8;rw [h6,if_neg (by omega),Int.toNat_natCast] at h
  rcases j3w (l.drop (i+1+m)) 0 with g6|⟨t,g6,g7,g8⟩
  ·rw [g6,if_pos zq47] at h
   cases h;exact .inl ⟨_,rfl, .inl rfl⟩
  rw [List.length_drop] at g8;rw [g6,if_neg (by omega),Int.toNat_natCast] at h
  split at h
  ·split at h
   ·cases h;exact .inl ⟨_,rfl, .inl rfl⟩
   ·obtain ⟨u,_,h⟩:=Option.bind_eq_some_iff.mp h;rcases sKey_range h with ⟨r,rfl,rfl|rfl⟩|⟨_,_,_,rfl⟩
    ·exact .inl ⟨_,rfl, .inl rfl⟩
    ·exact .inl ⟨_,rfl, .inr ⟨_,rfl,by omega⟩⟩
    ·exact .inr (.inl ⟨_,_,_,_,rfl,by omega⟩)
  ·cases h;exact .inr (.inl ⟨_,_,_,_,rfl,by omega⟩)
 split at h
 ·cases h;exact .inr (.inl ⟨_,_,_,_,rfl,by omega⟩)
 split at h
 ·split at h
  ·exact blk _ _ h
  ·cases h;exact .inr (.inl ⟨_,_,_,_,rfl,by omega⟩)
 split at h
 ·cases h;exact .inr (.inl ⟨_,_,_,_,rfl,by omega⟩)
 split at h
 ·rw [sArr] at h
  split at h
  ·cases h
  split at h
  ·obtain ⟨ai,_,h⟩:=Option.bind_eq_some_iff.mp h;obtain ⟨cs,_,h⟩:=Option.bind_eq_some_iff.mp h;split at h
   ·cases h;exact .inr (.inr ⟨_,rfl⟩)
   ·cases h;exact .inl ⟨_,rfl, .inl rfl⟩
  ·exact blk _ _ h
 split at h
 ·cases h;exact .inl ⟨_,rfl, .inl rfl⟩
 ·cases h;exact .inr (.inl ⟨_,_,_,_,rfl,by omega⟩)
theorem pick_ok {l : List Int} {x:AC} (h:ACok l x):(pick x).1+(pick x).2≤l.length:=by
 unfold pick;by_cases hk:x.kd=1
 rotate_left
 ·obtain ⟨h1,h2⟩:=h.2 hk;rw [if_neg hk];simp only;omega
 obtain ⟨h1,h2,h3⟩:=h.1 hk;rw [if_pos hk];simp only;omega
theorem sKl_range {sq : Bool} {un:List Int→Option (Option (List Int))}:∀ (n:Nat) (ks:List ByteArray) (l:List Int) (kl lv:Int) (i:Nat) (lm:Bool) (R:Int),i≤l.length→sKl sq un n ks l kl lv i lm=some R→R = -1∨∃ m:Nat,R=(m:Int)∧m≤l.length
 | 0,_,_,_,_,_,_,_,_,h=>by simp [sKl] at h
 | n+1,ks,l,kl,lv,i,lm,R,hi,h=>by
  rw [sKl] at h
  split at h
  ·cases h;exact .inl rfl
  rename_i hl;obtain ⟨x,hx,h⟩:=Option.bind_eq_some_iff.mp h;rcases sStep_range (by omega) hx with ⟨r,rfl,hr⟩|⟨kl',lv',i',lm',rfl,hi'⟩|⟨m,rfl⟩
  ·have:r=R:=Option.some.inj h;exact this ▸ hr
  ·exact sKl_range n _ _ _ _ _ _ _ hi' h
  ·obtain ⟨cs,hc,h⟩:=Option.bind_eq_some_iff.mp h;obtain ⟨y,hy,h⟩:=Option.bind_eq_some_iff.mp h;obtain ⟨r,hr,h⟩:=Option.bind_eq_some_iff.mp h;have hok:=pick_ok ((aE_ok (cs:=cs.1) (E:=cs.2) hc).2 y (List.mem_of_getElem? hy));rw [List.length_drop] at hok;have hsk:=skp_range (l.drop i) i
   have hr2:r = -1∨∃ m:Nat,r=(m:Int)∧m≤(pick y).2:=by
    split at hr
    ·cases hr;exact .inr ⟨0,rfl,Nat.zero_le _⟩
    ·have:=sKl_range n _ _ _ _ _ _ _ (Nat.zero_le _) hr;rw [List.length_take] at this;rcases this with h|⟨m,h1,h2⟩
     ·exact .inl h
     ·exact .inr ⟨m,h1,by omega⟩
   split at h
   ·cases h;exact .inl rfl
   ·rename_i hn;have h:=Option.some.inj h;rcases hr2 with h2|⟨m,h2,h3⟩
    ·omega
    ·exact .inr ⟨_,(by rw [← h,h2];exact (Int.natCast_add _ _).symm),by omega⟩
theorem sK_range {sq : Bool} {un:List Int→Option (Option (List Int))} {n:Nat} {ks:List ByteArray} {l:List Int} {R:Int} (h:sK sq un n ks l=some R):R = -1∨∃ m:Nat,R=(m:Int)∧m≤l.length:=by
 rw [sK] at h
 split at h
 ·cases h;exact .inr ⟨0,rfl,Nat.zero_le _⟩
 ·exact sKl_range _ _ _ _ _ _ _ _ (Nat.zero_le _) h
theorem slc_str (s : ByteArray) (h:2≤s.size):∀ W:World,(Instr.slice 9 (.string s) (some (.int .i64 1)) (some (.int .i64 ((s.size:Int) - 1))) none).run Tryd.prog W = .ok (.string (s.extract 1 (s.size - 1))) W:=fun W=>by
 have e:=run_slice_string (P:=Tryd.prog) W 9 s .i64 .i64 1 ((s.size:Int) - 1) Tryd.underlying9 zq47 (by omega) (by omega);rw [e];have e2:((s.size:Int) - 1).toNat=s.size - 1:=by omega
 rw [e2];rfl
theorem CI.start {w w1 w3:World} {b:Nat} {l:List Int} {j pD:Nat} {ai:Int} {dv:Value} {cs:List AC} (hb:Below w1.heap.size w1 w3) (hD:w3.heap[pD]? = some (.cells #[dv] 55 (0,0))) :
 CI w w1 b l j (w3.heap.size+1) w3.heap.size (w3.heap.size+1+1) (w3.heap.size+1+1+1) pD (w3.heap.size+1+1+1+1) ai dv cs cs (((((w3.alloc (.cells #[.int .i64 ai] 3)).alloc (.cells #[.int .i64 0] 3)).alloc (.cells #[.slice none 0 0] 55)).alloc (.cells #[.int .i64 0] 3)).alloc (.cells #[.int .i64 (j:Int)] 3)):=by
 have hp:=j3p hD;have hs:=hb.size;have q:∀ (W:World) (o:Obj) (n:Nat),n=W.heap.size→(W.alloc o).heap[n]? = some o:=fun W o n e=>e ▸ j4l W o
 refine ⟨0, .slice none 0 0,0,⟨?_,?_,?_,?_,?_,?_,?_,?_⟩,by simp,by simp,fun h=>absurd h (by omega),fun _=>⟨rfl,rfl⟩⟩
 ·exact j1e (j1e (j1e (q _ _ _ (by simp)) _) _) _
 ·exact j1e (j1e (j1e (j1e (q _ _ _ rfl) _) _) _) _
 ·exact j1e (j1e (q _ _ _ (by simp)) _) _
 ·exact j1e (q _ _ _ (by simp)) _
 ·exact j1e (j1e (j1e (j1e (j1e hD _) _) _) _) _
 ·exact q _ _ _ (by simp)
 ·exact j1g (j1g (j1g (j1g (j1g hb _) _) _) _) _
 ·omega
theorem CI.carry {w w1 W W':World} {b:Nat} {l:List Int} {j pC pA pV pO pD pI:Nat} {ai:Int} {dv:Value} {cs r:List AC} (h:CI w w1 b l j pC pA pV pO pD pI ai dv cs r W) (hb:Below W.heap.size W W'):CI w w1 b l j pC pA pV pO pD pI ai dv cs r W':=by
 obtain ⟨cur,v,vo,h1,h2⟩:=h;exact ⟨cur,v,vo,h1.carry hb,h2⟩
theorem CI.below {w w1 W:World} {b:Nat} {l:List Int} {j pC pA pV pO pD pI:Nat} {ai:Int} {dv:Value} {cs r:List AC} (h:CI w w1 b l j pC pA pV pO pD pI ai dv cs r W):Below w1.heap.size w1 W:=by
 obtain ⟨cur,v,vo,h1,h2⟩:=h;exact h1.below
theorem CI.lt {w w1 W:World} {b:Nat} {l:List Int} {j pC pA pV pO pD pI:Nat} {ai:Int} {dv:Value} {cs r:List AC} (h:CI w w1 b l j pC pA pV pO pD pI ai dv cs r W):∀ i,S3 pC pV pO i→i<W.heap.size:=by
 obtain ⟨cur,v,vo,h1,h2⟩:=h;rintro i (rfl|rfl|rfl)
 ·exact lt_of_block h1.C
 ·exact lt_of_block h1.V
 ·exact lt_of_block h1.O
theorem CI.gone {w w1 W:World} {b:Nat} {l:List Int} {j pC pA pV pO pD pI:Nat} {ai:Int} {dv:Value} {cs:List AC} (h:CI w w1 b l j pC pA pV pO pD pI ai dv cs [] W) (hn:¬ (0≤ai∧ai<(cs.length:Int))):W.cell? ⟨pV,0,none⟩=some (.slice none 0 0):=by
 obtain ⟨cur,v,vo,h1,h2,_,_,h3⟩:=h;rw [List.length_nil,Nat.add_zero] at h2;obtain ⟨rfl,_⟩:=h3 (by rw [h2];exact hn);exact cell_of_one h1.V
theorem CI.found {w w1 W:World} {b:Nat} {l:List Int} {j pC pA pV pO pD pI:Nat} {ai:Int} {dv:Value} {cs:List AC} (h:CI w w1 b l j pC pA pV pO pD pI ai dv cs [] W) (hn:0≤ai∧ai<(cs.length:Int)) :
 ∃ x o' c',cs[ai.toNat]? = some x∧W.cell? ⟨pV,0,none⟩=some (.slice (some ⟨b,o',none⟩) (pick x).2 c')∧IN w b o' ((l.drop (j+(pick x).1)).take (pick x).2)∧(pick x).2≤c'∧c'≤9223372036854775807∧W.cell? ⟨pO,0,none⟩=some (.int .i64 ((pick x).1:Int)):=by
 obtain ⟨cur,v,vo,h1,h2,_,h3,_⟩:=h;rw [List.length_nil,Nat.add_zero] at h2;obtain ⟨x,hx,o',c',rfl,hI,hc,hcm,rfl⟩:=h3 (by rw [h2];exact hn);exact ⟨x,o',c',hx,cell_of_one h1.V,hI,hc,hcm,cell_of_one h1.O⟩
theorem nil_eq (a : Option Addr) (n c:Nat):∀ W:World,(binOp .eql 55 (.slice a n c) (.slice none 0 0)).run Tryd.prog W = .ok (.bool a.isNone) W:=fun W=>by
 have e:=run_equal_slice_nil (P:=Tryd.prog) W 55 5 a n c Tryd.underlying55;simp [binOp,e]
def getB (sq : Bool) (l:List Int) (off:Nat):Option (List Int × Int × Nat × Nat):=if (gT sq l off).ok=false then none else some ((l.drop (vB (gT sq l off) off)).take (vN (gT sq l off) off),(gT sq l off).kd,off,(gT sq l off).en)
def getA (sq : Bool) (l:List Int) (m:Nat):Option (List Int × Int × Nat × Nat):=if nT (l.drop m) 0<0 then none else getB sq l (m+(nT (l.drop m) 0).toNat)
def getR (sq : Bool) (l:List Int) (R:Int):Option (List Int × Int × Nat × Nat):=if R<0 then none else getA sq l R.toNat
def P5 (w0 : World) (b:Nat) (res:Option (List Int × Int × Nat × Nat)) (e:Ending) (w':World):Prop :=
  Below w0.heap.size w0 w'∧((res=none∧∃ kd og en te pe,e = .returned (.tuple #[.slice none 0 0, .int .i64 kd, .int .i64 og, .int .i64 en, .iface te pe])) ∨
    ∃ v kd og en o1,res=some (v,kd,og,en)∧e = .returned (.tuple #[.slice (some ⟨b,o1,none⟩) v.length v.length, .int .i64 kd, .int .i64 (og:Int), .int .i64 (en:Int), .nilIface])∧IN w0 b o1 v)
def P4 (w0 : World) (b:Nat) (res:Option (List Int × Int × Nat × Nat)) (e:Ending) (w':World):Prop :=
  Below w0.heap.size w0 w'∧((res=none∧∃ kd en te pe,e = .returned (.tuple #[.slice none 0 0, .int .i64 kd, .int .i64 en, .iface te pe])) ∨
    ∃ v kd og en o1,res=some (v,kd,og,en)∧e = .returned (.tuple #[.slice (some ⟨b,o1,none⟩) v.length v.length, .int .i64 kd, .int .i64 (en:Int), .nilIface])∧IN w0 b o1 v)
theorem vN_len {sq : Bool} {l:List Int} {off:Nat} (h:off<l.length) (hok:(gT sq l off).ok=true):((l.drop (vB (gT sq l off) off)).take (vN (gT sq l off) off)).length=vN (gT sq l off) off:=by
 have hr:=gT_range (sq:=sq) h;have hs:=fun h1=>gT_str (sq:=sq) (l:=l) (off:=off) h1 hok
 rw [List.length_take,List.length_drop];unfold vB vN;by_cases hk:(gT sq l off).kd=1
 rotate_left
 ·rw [if_neg hk,if_neg hk];omega
 have:=hs hk;rw [if_pos hk,if_pos hk];omega
theorem P5_of {w0 : World} {b:Nat} {sq:Bool} {l:List Int} {m:Nat} {e:Ending} {w':World} (hm:m≤l.length) (h:IPost w0 b sq l m e w'):P5 w0 b (getA sq l m) e w':=by
 obtain ⟨hb,⟨h1,te,pe,he⟩|⟨j,h1,h2⟩⟩:=h
 ·exact ⟨hb, .inl ⟨by rw [getA,h1];rfl,_,_,_,te,pe,he⟩⟩
 ·have hj:m+j<l.length:=by
   rcases j3w (l.drop m) 0 with h|⟨j',h,_,h3⟩
   ·omega
   ·rw [List.length_drop] at h3;omega
  have e1:getA sq l m=getB sq l (m+j):=by rw [getA,h1,if_neg (by omega),Int.toNat_natCast]
  rcases h2 with ⟨hok,te,pe,he⟩|⟨hok,o1,he,hI⟩
  ·exact ⟨hb, .inl ⟨by rw [e1,getB,if_pos hok],_,_,_,te,pe,he⟩⟩
  ·have hl:=vN_len hj hok;refine ⟨hb, .inr ⟨_,_,_,_,o1,by rw [e1,getB,if_neg (by rw [hok];decide)],?_,hI⟩⟩;rw [he,hl]
theorem P5_K {w0 : World} {b:Nat} {sq:Bool} {l:List Int} {R:Int} {e:Ending} {w':World} (hR:R = -1∨∃ m:Nat,R=(m:Int)∧m≤l.length) (h:KPost w0 b sq l R e w'):P5 w0 b (getR sq l R) e w':=by
 rcases h with ⟨rfl,⟨te,pe,he⟩,hb⟩|⟨m,rfl,h⟩
 ·exact ⟨hb, .inl ⟨rfl,_,_,_,te,pe,he⟩⟩
 ·have hm:m≤l.length:=by
   rcases hR with h|⟨m',h,h'⟩<;>omega
  have:=P5_of hm h;rw [getR,if_neg (by omega),Int.toNat_natCast];exact this
set_option maxHeartbeats 8000000 in
set_option maxRecDepth 100000 in
theorem injg_calls (b : Nat) (res:Option (List Int × Int × Nat × Nat)) (dv kv:Value) (w:World) (hT:Laid w)
 (hU:Calls Tryd.prog 53 #[.agg #[.bool false, .bool false, .int .i64 0],dv,kv] w fun e w'=>P5 w b res e w') :
 Calls Tryd.prog 42 #[dv,kv] w fun e w'=>P5 w b res e w':=by
 have c0:=hT.cfg0;have c1:=hT.cfg1;have c2:=hT.cfg2;have HU:=mk0 hU;clear hT hU;cases res with
 | some R =>
  go_enter Tryd.func42,Tryd.ntmps42
  go_wp2_with (first|(go_at_call 53;(with_reducible refine HU.out.mono ?_);rintro e_ w_ ⟨hb,⟨hn,_⟩|⟨v,kd,og,en,o1,hr,rfl,hI⟩⟩;exact absurd hn (by simp);have K:=mk0 (And.intro hb (And.intro hr hI));clear hb hr hI))
  (try simp only [Exit.inBlock,Exit.then])
  refine bodyPost_ret (j3s rfl _ _ _) rfl ?_;exact ⟨K.out.1, .inr ⟨v,kd,og,en,o1,K.out.2.1,rfl,K.out.2.2⟩⟩
 | none =>
  go_enter Tryd.func42,Tryd.ntmps42
  go_wp2_with (first|(go_at_call 53;(with_reducible refine HU.out.mono ?_);rintro e_ w_ ⟨hb,⟨hn,kd,og,en,te,pe,rfl⟩|⟨v,kd,og,en,o1,hr,_⟩⟩;rotate_left;exact absurd hr (by simp);have K:=mk0 hb;clear hb hn))
  (try simp only [Exit.inBlock,Exit.then])
  refine bodyPost_ret (j3s rfl _ _ _) rfl ?_;exact ⟨K.out, .inl ⟨rfl,kd,og,en,te,pe,rfl⟩⟩
set_option maxHeartbeats 8000000 in
set_option maxRecDepth 100000 in
theorem jg_calls (b : Nat) (res:Option (List Int × Int × Nat × Nat)) (dv kv:Value) (w:World)
 (hU:Calls Tryd.prog 42 #[dv,kv] w fun e w'=>P5 w b res e w') :
 Calls Tryd.prog 23 #[dv,kv] w fun e w'=>P4 w b res e w':=by
 have HU:=mk0 hU;clear hU;cases res with
 | some R =>
  go_enter Tryd.func23,Tryd.ntmps23
  go_wp2_with (first|(go_at_call 42;(with_reducible refine HU.out.mono ?_);rintro e_ w_ ⟨hb,⟨hn,_⟩|⟨v,kd,og,en,o1,hr,rfl,hI⟩⟩;exact absurd hn (by simp);have K:=mk0 (And.intro hb (And.intro hr hI));clear hb hr hI))
  (try simp only [Exit.inBlock,Exit.then])
  refine bodyPost_ret (j3f rfl _ _ _) rfl ?_;exact ⟨K.out.1, .inr ⟨v,kd,og,en,o1,K.out.2.1,rfl,K.out.2.2⟩⟩
 | none =>
  go_enter Tryd.func23,Tryd.ntmps23
  go_wp2_with (first|(go_at_call 42;(with_reducible refine HU.out.mono ?_);rintro e_ w_ ⟨hb,⟨hn,kd,og,en,te,pe,rfl⟩|⟨v,kd,og,en,o1,hr,_⟩⟩;rotate_left;exact absurd hr (by simp);have K:=mk0 hb;clear hb hn))
  (try simp only [Exit.inBlock,Exit.then])
  refine bodyPost_ret (j3f rfl _ _ _) rfl ?_;exact ⟨K.out, .inl ⟨rfl,kd,en,te,pe,rfl⟩⟩
mutual
def j1b.j0 : Nat → List Int→Int→Int→Bool→Int→Option (Int × Bool × Bool)
  | 0,_,_,_,_,_=>none
  | k+1,x0,x2,x5,x6,x7=>if x7=x5 then (some (0,false,false)) else (if (wrap64 (x5 - x7))<19 then (j1b.l0 k x0 x2 x5 x6 x7) else (if x6=true then (if 1≤(x0.length:Int) then (j1b.j2 k (x0.drop 1) x6) else (none)) else (j1b.j2 k x0 x6)))
def j1b.l0 : Nat → List Int→Int→Int→Bool→Int→Option (Int × Bool × Bool)
  | 0,_,_,_,_,_=>none
  | k+1,x0,x2,x5,x6,x7=>if x7<x5 then (if 0≤x7 then (if x7<(x0.length:Int) then (if (((rd x0 x7) - 48) % 256)>9 then (some (0,false,false)) else (j1b.l0 k x0 (wrap64 ((wrap64 (10*x2))+(((rd x0 x7) - 48) % 256))) x5 x6 (wrap64 (x7+1)))) else (none)) else (none)) else (if x6=true then (some (wrap64 (-x2),true,false)) else (some (x2,true,false)))
def j1b.j2 : Nat → List Int→Bool→Option (Int × Bool × Bool)
  | 0,_,_=>none
  | k+1,x0,x6=>j1b.l1 k x6 0 x0 (x0.length:Int) 0
def j1b.l1 : Nat → Bool→Int→List Int→Int→Int→Option (Int × Bool × Bool)
  | 0,_,_,_,_,_=>none
  | k+1,x6,x9,x52,x53,x54=>if x54<x53 then (if 0≤x54 then (if x54<(x52.length:Int) then (if (rd x52 x54)<48 then (j1b.j4 k x6 x9 (rd x52 x54) x52 x53 x54 true) else (j1b.j4 k x6 x9 (rd x52 x54) x52 x53 x54 (decide ((rd x52 x54)>57)))) else (none)) else (none)) else (if x9>9223372036854775807 then (if x6=true then (j1b.j5 k (x9 == 9223372036854775808)) else (j1b.j5 k false)) else (if x6=true then (some (wrap64 (-(wrap64 (x9))),true,false)) else (some (wrap64 (x9),true,false))))
def j1b.j4 : Nat → Bool→Int→Int→List Int→Int→Int→Bool→Option (Int × Bool × Bool)
  | 0,_,_,_,_,_,_,_=>none
  | k+1,x6,x9,x11,x52,x53,x54,x63=>if x63=true then (some (0,false,false)) else (if x9>1844674407370955161 then (some (0,false,true)) else (if (IntKind.u64.wrap ((IntKind.u64.wrap (x9*10))+((x11 - 48) % 256)))<(IntKind.u64.wrap (x9*10)) then (some (0,false,true)) else (j1b.l1 k x6 (IntKind.u64.wrap ((IntKind.u64.wrap (x9*10))+((x11 - 48) % 256))) x52 x53 (wrap64 (x54+1)))))
def j1b.j5 : Nat → Bool→Option (Int × Bool × Bool)
  | 0,_=>none
  | k+1,x84=>if x84=true then (some ((-9223372036854775808),true,false)) else (some (0,false,true))
end
def j1b.f (k : Nat) (l0:List Int):Option (Int × Bool × Bool):=if (l0.length:Int)=0 then (some (0,false,false)) else (if 0<(l0.length:Int) then (if (rd l0 0)=45 then (j1b.j0 k l0 0 (l0.length:Int) true 1) else (j1b.j0 k l0 0 (l0.length:Int) false 0)) else (none))
theorem j1b.mono_l : ∀ k,(∀ y0 y1 y2 y3 y4,LeO (j1b.j0 k y0 y1 y2 y3 y4) (j1b.j0 (k+1) y0 y1 y2 y3 y4))∧(∀ y0 y1 y2 y3 y4,LeO (j1b.l0 k y0 y1 y2 y3 y4) (j1b.l0 (k+1) y0 y1 y2 y3 y4))∧(∀ y0 y1,LeO (j1b.j2 k y0 y1) (j1b.j2 (k+1) y0 y1))∧(∀ y0 y1 y2 y3 y4,LeO (j1b.l1 k y0 y1 y2 y3 y4) (j1b.l1 (k+1) y0 y1 y2 y3 y4))∧(∀ y0 y1 y2 y3 y4 y5 y6,LeO (j1b.j4 k y0 y1 y2 y3 y4 y5 y6) (j1b.j4 (k+1) y0 y1 y2 y3 y4 y5 y6))∧(∀ y0,LeO (j1b.j5 k y0) (j1b.j5 (k+1) y0))
 | 0=>⟨fun _ _ _ _ _ r h=>by simp [j1b.j0] at h,fun _ _ _ _ _ r h=>by simp [j1b.l0] at h,fun _ _ r h=>by simp [j1b.j2] at h,fun _ _ _ _ _ r h=>by simp [j1b.l1] at h,fun _ _ _ _ _ _ _ r h=>by simp [j1b.j4] at h,fun _ r h=>by simp [j1b.j5] at h⟩
 | k+1=>by
  obtain ⟨ih0,ih1,ih2,ih3,ih4,ih5⟩:=j1b.mono_l k;refine ⟨?_,?_,?_,?_,?_,?_⟩
  ·intro y0 y1 y2 y3 y4;unfold j1b.j0
   repeat' first
   | (with_reducible exact ih0 _ _ _ _ _)
   | (with_reducible exact ih1 _ _ _ _ _)
   | (with_reducible exact ih2 _ _)
   | (with_reducible exact ih3 _ _ _ _ _)
   | (with_reducible exact ih4 _ _ _ _ _ _ _)
   | (with_reducible exact ih5 _)
   | (with_reducible exact LeO.refl _)
   | (with_reducible exact LeO.none _)
   | (with_reducible refine LeO.ite ?_ ?_)
   | (with_reducible refine LeO.bind ?_ (fun _=>?_))
   | exact ih0 _ _ _ _ _
   | exact ih1 _ _ _ _ _
   | exact ih2 _ _
   | exact ih3 _ _ _ _ _
   | exact ih4 _ _ _ _ _ _ _
   | exact ih5 _
   | exact LeO.none _
   | refine LeO.ite ?_ ?_
   | refine LeO.bind ?_ (fun _=>?_)
  ·intro y0 y1 y2 y3 y4;unfold j1b.l0
   repeat' first
   | (with_reducible exact ih0 _ _ _ _ _)
   | (with_reducible exact ih1 _ _ _ _ _)
   | (with_reducible exact ih2 _ _)
   | (with_reducible exact ih3 _ _ _ _ _)
   | (with_reducible exact ih4 _ _ _ _ _ _ _)
   | (with_reducible exact ih5 _)
   | (with_reducible exact LeO.refl _)
   | (with_reducible exact LeO.none _)
   | (with_reducible refine LeO.ite ?_ ?_)
   | (with_reducible refine LeO.bind ?_ (fun _=>?_))
   | exact ih0 _ _ _ _ _
   | exact ih1 _ _ _ _ _
   | exact ih2 _ _
   | exact ih3 _ _ _ _ _
   | exact ih4 _ _ _ _ _ _ _
   | exact ih5 _
   | exact LeO.none _
   | refine LeO.ite ?_ ?_
   | refine LeO.bind ?_ (fun _=>?_)
  ·intro y0 y1;unfold j1b.j2
   repeat' first
   | (with_reducible exact ih0 _ _ _ _ _)
   | (with_reducible exact ih1 _ _ _ _ _)
   | (with_reducible exact ih2 _ _)
   | (with_reducible exact ih3 _ _ _ _ _)
   | (with_reducible exact ih4 _ _ _ _ _ _ _)
   | (with_reducible exact ih5 _)
   | (with_reducible exact LeO.refl _)
   | (with_reducible exact LeO.none _)
   | (with_reducible refine LeO.ite ?_ ?_)
   | (with_reducible refine LeO.bind ?_ (fun _=>?_))
   | exact ih0 _ _ _ _ _
   | exact ih1 _ _ _ _ _
   | exact ih2 _ _
   | exact ih3 _ _ _ _ _
   | exact ih4 _ _ _ _ _ _ _
   | exact ih5 _
   | exact LeO.none _
   | refine LeO.ite ?_ ?_
   | refine LeO.bind ?_ (fun _=>?_)
  ·intro y0 y1 y2 y3 y4;unfold j1b.l1
   repeat' first
   | (with_reducible exact ih0 _ _ _ _ _)
   | (with_reducible exact ih1 _ _ _ _ _)
   | (with_reducible exact ih2 _ _)
   | (with_reducible exact ih3 _ _ _ _ _)
   | (with_reducible exact ih4 _ _ _ _ _ _ _)
   | (with_reducible exact ih5 _)
   | (with_reducible exact LeO.refl _)
   | (with_reducible exact LeO.none _)
   | (with_reducible refine LeO.ite ?_ ?_)
   | (with_reducible refine LeO.bind ?_ (fun _=>?_))
   | exact ih0 _ _ _ _ _
   | exact ih1 _ _ _ _ _
   | exact ih2 _ _
   | exact ih3 _ _ _ _ _
   | exact ih4 _ _ _ _ _ _ _
   | exact ih5 _
   | exact LeO.none _
   | refine LeO.ite ?_ ?_
   | refine LeO.bind ?_ (fun _=>?_)
  ·intro y0 y1 y2 y3 y4 y5 y6;unfold j1b.j4
   repeat' first
   | (with_reducible exact ih0 _ _ _ _ _)
   | (with_reducible exact ih1 _ _ _ _ _)
   | (with_reducible exact ih2 _ _)
   | (with_reducible exact ih3 _ _ _ _ _)
   | (with_reducible exact ih4 _ _ _ _ _ _ _)
   | (with_reducible exact ih5 _)
   | (with_reducible exact LeO.refl _)
   | (with_reducible exact LeO.none _)
   | (with_reducible refine LeO.ite ?_ ?_)
   | (with_reducible refine LeO.bind ?_ (fun _=>?_))
   | exact ih0 _ _ _ _ _
   | exact ih1 _ _ _ _ _
   | exact ih2 _ _
   | exact ih3 _ _ _ _ _
   | exact ih4 _ _ _ _ _ _ _
   | exact ih5 _
   | exact LeO.none _
   | refine LeO.ite ?_ ?_
   | refine LeO.bind ?_ (fun _=>?_)
  ·intro y0;unfold j1b.j5
   repeat' first
   | (with_reducible exact ih0 _ _ _ _ _)
   | (with_reducible exact ih1 _ _ _ _ _)
   | (with_reducible exact ih2 _ _)
   | (with_reducible exact ih3 _ _ _ _ _)
   | (with_reducible exact ih4 _ _ _ _ _ _ _)
   | (with_reducible exact ih5 _)
   | (with_reducible exact LeO.refl _)
   | (with_reducible exact LeO.none _)
   | (with_reducible refine LeO.ite ?_ ?_)
   | (with_reducible refine LeO.bind ?_ (fun _=>?_))
   | exact ih0 _ _ _ _ _
   | exact ih1 _ _ _ _ _
   | exact ih2 _ _
   | exact ih3 _ _ _ _ _
   | exact ih4 _ _ _ _ _ _ _
   | exact ih5 _
   | exact LeO.none _
   | refine LeO.ite ?_ ?_
   | refine LeO.bind ?_ (fun _=>?_)
theorem j1b.mono : ∀ a0 k,LeO (j1b.f k a0) (j1b.f (k+1) a0):=by
 intro a0 k;obtain ⟨ih0,ih1,ih2,ih3,ih4,ih5⟩:=j1b.mono_l k;unfold j1b.f
 repeat' first
  | (with_reducible exact ih0 _ _ _ _ _)
  | (with_reducible exact ih1 _ _ _ _ _)
  | (with_reducible exact ih2 _ _)
  | (with_reducible exact ih3 _ _ _ _ _)
  | (with_reducible exact ih4 _ _ _ _ _ _ _)
  | (with_reducible exact ih5 _)
  | (with_reducible exact LeO.refl _)
  | (with_reducible exact LeO.none _)
  | (with_reducible refine LeO.ite ?_ ?_)
  | (with_reducible refine LeO.bind ?_ (fun _=>?_))
  | exact ih0 _ _ _ _ _
  | exact ih1 _ _ _ _ _
  | exact ih2 _ _
  | exact ih3 _ _ _ _ _
  | exact ih4 _ _ _ _ _ _ _
  | exact ih5 _
  | exact LeO.none _
  | refine LeO.ite ?_ ?_
  | refine LeO.bind ?_ (fun _=>?_)
set_option maxHeartbeats 8000000 in
set_option maxRecDepth 100000 in
theorem j1b.calls (k : Nat) (P0_:Nat→Prop) (A0:Option Addr) (c0:Nat) (l0:List Int) (r1:Int) (r2:Bool) (r3:Bool) (w:World) (hs0:Kd.V (Kd.int .u8) 5 w w.heap.size (fun k_=>P0_ k_) (.slice A0 l0.length c0) l0) (h:j1b.f k l0=some (r1,r2,r3)) :
 Calls Tryd.prog 45 #[.slice A0 l0.length c0] w fun e w'=>e = .returned (.tuple #[.int .i64 r1, .bool r2, .bool r3])∧Below w.heap.size w w':=by
 have HO0:=mk0 (show Kd.V (Kd.int .u8) 5 w w.heap.size (fun k_=>(P0_ k_∨w.heap.size≤k_)) (.slice A0 l0.length c0) l0 from Kd.V_mono hs0 (fun k_ hk => .inl hk));have HB:=mk0 (Below.refl w.heap.size w);have H:(if (l0.length:Int)=0 then (some (0,false,false)) else (if 0<(l0.length:Int) then (if (rd l0 0)=45 then (j1b.j0 k l0 0 (l0.length:Int) true 1) else (j1b.j0 k l0 0 (l0.length:Int) false 0)) else (none)))=some (r1,r2,r3):=h;clear h;by_cases c2:(l0.length:Int)=0
 ·rw [if_pos c2] at H;have c2b0:((l0.length:Int) == 0)=true:=beq_iff_eq.mpr c2;have c2b1:((l0.length:Int) != 0)=false:=bne_eq_false_iff_eq.mpr c2;clear c2;simp only [Option.some.injEq,Prod.mk.injEq] at H;obtain ⟨rfl,rfl,rfl⟩:=H;go_enter Tryd.func45,Tryd.ntmps45
  go_wp2
  go_ret3
  exact zl5
 rw [if_neg c2] at H;have c2b0:((l0.length:Int) == 0)=false:=beq_eq_false_iff_ne.mpr c2;have c2b1:((l0.length:Int) != 0)=true:=bne_iff_ne.mpr c2;have c2b2:¬ (l0=[]):=fun h_=>c2 (by rw [h_];rfl)
 by_cases c3:0<(l0.length:Int)
 rotate_left
 ·rw [if_neg c3] at H;exact absurd H (by simp)
 rw [if_pos c3] at H;have c3b0:decide (0<(l0.length:Int))=true:=decide_eq_true c3;have c3b1:decide (0<l0.length)=true:=decide_eq_true (by omega);clear c3;have HC4:=mk0 H;clear H;have p101:0≤(0:Int):=(by omega);have q101:0<(l0.length:Int):=of_decide_eq_true zq16;obtain ⟨ad101,e101,hx101_0⟩:=Kd.at_int (Kd.V_reads' HO0.out).2.2 0 p101 q101;cases e101;have qi101:(0<l0.length)=True:=eq_true (by omega)
 (try rw [show ((0:Int)).toNat=0 from rfl] at hx101_0)
 (try rw [Addr.add_zero'] at hx101_0)
 replace p101:=eq_true p101;replace q101:=eq_true q101;go_enter Tryd.func45,Tryd.ntmps45
 go_upto_if 20 with (fail)
 go_cut [6,7] (fun v6 v7 wc=>∃ (kq:Nat) (x6_3:Bool) (x7_3:Int),v6 = .bool x6_3∧v7 = .int .i64 x7_3∧Aside0 (j1b.j0 kq l0 0 (l0.length:Int) x6_3 x7_3=some (r1,r2,r3))∧Aside0 (kq≤k)∧Aside0 (Kd.V (Kd.int .u8) 5 wc w.heap.size (fun k_=>(P0_ k_∨w.heap.size≤k_)) (.slice (some ad101) l0.length c0) l0)∧Aside0 (Below w.heap.size w wc))
 case first =>
  have H:=HC4.out;clear HC4;by_cases c5:(rd l0 0)=45
  rotate_left
  ·rw [if_neg c5] at H;have c5b0:((rd l0 0) == 45)=false:=beq_eq_false_iff_ne.mpr c5;have c5b1:((rd l0 0) != 45)=true:=bne_iff_ne.mpr c5
   (rw [c5b0])
   have H':=mk0 H;clear H;go_wp2
   go_meet
   case rel=>exact ⟨_,(false),(0),(by rfl),(by rfl),H',⟨by omega⟩,⟨by (with_reducible repeat (first|apply Kd.V_alloc|apply Kd.V_drewN|apply Kd.V_drew));exact HO0.out⟩,⟨by repeat (first|(with_reducible first|exact HB.out|apply j1g|apply j1d|apply j1l)|exact HB.out)⟩⟩
  rw [if_pos c5] at H;have c5b0:((rd l0 0) == 45)=true:=beq_iff_eq.mpr c5;have c5b1:((rd l0 0) != 45)=false:=bne_eq_false_iff_eq.mpr c5;clear c5
  (rw [c5b0])
  have H':=mk0 H;clear H;go_wp2
  go_meet
  case rel=>exact ⟨_,(true),(1),(by rfl),(by rfl),H',⟨by omega⟩,⟨by (with_reducible repeat (first|apply Kd.V_alloc|apply Kd.V_drewN|apply Kd.V_drew));exact HO0.out⟩,⟨by repeat (first|(with_reducible first|exact HB.out|apply j1g|apply j1d|apply j1l)|exact HB.out)⟩⟩
 case rest =>
  clear HC4 c2 c2b0 c2b1 c2b2 c3b0 c3b1 hx101_0 p101 q101;obtain ⟨kq,x6_3,x7_3,rfl,rfl,HA,HJ3,HO_0,HB⟩:=hcut;cases kq with
  | zero=>exact absurd HA.out (by simp [j1b.j0])
  | succ kj3 =>
   have H:=HA.out;clear HA;simp only [j1b.j0] at H;by_cases c6:x7_3=(l0.length:Int)
   ·rw [if_pos c6] at H;have c6b0:(x7_3 == (l0.length:Int))=true:=beq_iff_eq.mpr c6;have c6b1:(x7_3 != (l0.length:Int))=false:=bne_eq_false_iff_eq.mpr c6;clear c6;simp only [Option.some.injEq,Prod.mk.injEq] at H;obtain ⟨rfl,rfl,rfl⟩:=H;go_wp2
    go_ret3
    exact zl5
   rw [if_neg c6] at H;have c6b0:(x7_3 == (l0.length:Int))=false:=beq_eq_false_iff_ne.mpr c6;have c6b1:(x7_3 != (l0.length:Int))=true:=bne_iff_ne.mpr c6;by_cases c7:(wrap64 ((l0.length:Int) - x7_3))<19
   ·rw [if_pos c7] at H;have c7b0:decide ((wrap64 ((l0.length:Int) - x7_3))<19)=true:=decide_eq_true c7;clear c7;have H':=mk0 H;clear H;go_wp2
    go_loopg [2,7] kj3 (fun kq v2 v7 w'=>∃ (x2_2:Int) (x7_2:Int),v2 = .int .i64 x2_2∧v7 = .int .i64 x7_2∧Aside0 (j1b.l0 kq l0 x2_2 (l0.length:Int) x6_3 x7_2=some (r1,r2,r3))∧Aside0 (kq≤kj3)∧Aside0 (Kd.V (Kd.int .u8) 5 w' w.heap.size (fun k_=>(P0_ k_∨w.heap.size≤k_)) (.slice (some ad101) l0.length c0) l0)∧Aside0 (Below w.heap.size w w'))
    case atStart=>exact ⟨(0),(x7_3),(by rfl),(by rfl),H',⟨Nat.le_refl _⟩,⟨by (with_reducible repeat (first|apply Kd.V_alloc|apply Kd.V_drewN|apply Kd.V_drew));exact HO_0.out⟩,⟨by repeat (first|(with_reducible first|exact HB.out|apply j1g|apply j1d|apply j1l)|exact HB.out)⟩⟩
    case round =>
     clear H';clear c6 c6b0 c6b1 c7b0;obtain ⟨x2_2,x7_2,rfl,rfl,HA,HK2,HO_0,HB⟩:=hrel;cases gk with
     | zero=>exact absurd HA.out (by simp [j1b.l0])
     | succ k2 =>
      have H:=HA.out;clear HA;simp only [j1b.l0] at H;by_cases c8:x7_2<(l0.length:Int)
      rotate_left
      ·rw [if_neg c8] at H;have c8b0:decide (x7_2<(l0.length:Int))=false:=decide_eq_false c8;clear c8;by_cases c12:x6_3=true
       ·subst c12;rw [if_pos rfl] at H;simp only [Option.some.injEq,Prod.mk.injEq] at H;obtain ⟨rfl,rfl,rfl⟩:=H;go_wp2
        go_ret3
        exact zl5
       replace c12:=Bool.eq_false_iff.mpr c12;subst c12;rw [if_neg (show ¬ (false=true) by decide)] at H;simp only [Option.some.injEq,Prod.mk.injEq] at H;obtain ⟨rfl,rfl,rfl⟩:=H;go_wp2
       go_ret3
       exact zl5
      rw [if_pos c8] at H;have c8b0:decide (x7_2<(l0.length:Int))=true:=decide_eq_true c8;clear c8;by_cases c9:0≤x7_2
      rotate_left
      ·rw [if_neg c9] at H;exact absurd H (by simp)
      rw [if_pos c9] at H;have c9b0:decide (0≤x7_2)=true:=decide_eq_true c9;clear c9;by_cases c10:x7_2<(l0.length:Int)
      rotate_left
      ·rw [if_neg c10] at H;exact absurd H (by simp)
      rw [if_pos c10] at H;have c10b0:decide (x7_2<(l0.length:Int))=true:=decide_eq_true c10;clear c10;by_cases c11:(((rd l0 x7_2) - 48) % 256)>9
      ·rw [if_pos c11] at H;have c11b0:decide (9<(((rd l0 x7_2) - 48) % 256))=true:=decide_eq_true c11;clear c11;simp only [Option.some.injEq,Prod.mk.injEq] at H;obtain ⟨rfl,rfl,rfl⟩:=H;have p102:0≤(x7_2:Int):=of_decide_eq_true zq16;have q102:x7_2<(l0.length:Int):=of_decide_eq_true zq16;obtain ⟨ad102,e102,hx102_0⟩:=Kd.at_int (Kd.V_reads' HO_0.out).2.2 x7_2 p102 q102;obtain rfl:ad101=ad102:=(by injection e102);replace p102:=eq_true p102;replace q102:=eq_true q102;go_wp2
       go_ret3
       exact zl5
      rw [if_neg c11] at H;have c11b0:decide (9<(((rd l0 x7_2) - 48) % 256))=false:=decide_eq_false c11;clear c11;have H':=mk0 H;clear H;have p102:0≤(x7_2:Int):=of_decide_eq_true zq16;have q102:x7_2<(l0.length:Int):=of_decide_eq_true zq16;obtain ⟨ad102,e102,hx102_0⟩:=Kd.at_int (Kd.V_reads' HO_0.out).2.2 x7_2 p102 q102;obtain rfl:ad101=ad102:=(by injection e102);replace p102:=eq_true p102;replace q102:=eq_true q102;go_wp2
      go_roundg k2
      case measure=>have:=HJ3.out;have:=HK2.out;omega
      case rel=>exact ⟨(wrap64 ((wrap64 (10*x2_2))+(((rd l0 x7_2) - 48) % 256))),(wrap64 (x7_2+1)),(by rfl),(by rfl),H',⟨by have:=HJ3.out;have:=HK2.out;omega⟩,⟨by (with_reducible repeat (first|apply Kd.V_alloc|apply Kd.V_drewN|apply Kd.V_drew));exact HO_0.out⟩,⟨by repeat (first|(with_reducible first|exact HB.out|apply j1g|apply j1d|apply j1l)|exact HB.out)⟩⟩
   rw [if_neg c7] at H;have c7b0:decide ((wrap64 ((l0.length:Int) - x7_3))<19)=false:=decide_eq_false c7;clear c7;have HC13:=mk0 H;clear H;go_upto_if 49 with (fail)
   go_cut [0] (fun v0 wc=>∃ (kq:Nat) (x0_12:List Int),Aside0 (j1b.j2 kq x0_12 x6_3=some (r1,r2,r3))∧Aside0 (kq≤kj3)∧Aside0 (Kd.V (Kd.int .u8) 5 wc w.heap.size (fun k_=>(P0_ k_∨w.heap.size≤k_)) v0 x0_12)∧Aside0 (Below w.heap.size w wc))
   case first =>
    have H:=HC13.out;clear HC13;by_cases c14:x6_3=true
    rotate_left
    ·replace c14:=Bool.eq_false_iff.mpr c14;subst c14;rw [if_neg (show ¬ (false=true) by decide)] at H;have H':=mk0 H;clear H;go_wp2
     go_meet
     case rel=>exact ⟨_,(l0),H',⟨by have:=HJ3.out;first|omega|exact Nat.le_refl _⟩,⟨by (with_reducible repeat (first|apply Kd.V_alloc|apply Kd.V_drewN|apply Kd.V_drew));exact HO_0.out⟩,⟨by repeat (first|(with_reducible first|exact HB.out|apply j1g|apply j1d|apply j1l)|exact HB.out)⟩⟩
    subst c14;rw [if_pos rfl] at H;by_cases c15:1≤(l0.length:Int)
    rotate_left
    ·rw [if_neg c15] at H;exact absurd H (by simp)
    rw [if_pos c15] at H;have c15b0:=eq_true c15;have c15b1:decide (1≤(l0.length:Int))=true:=decide_eq_true c15;clear c15;obtain ⟨y103,hy103⟩:∃ y_:List Int,y_=(l0.drop 1):=⟨_,rfl⟩;replace H:(j1b.j2 kj3 y103 true)=some (r1,r2,r3):=by (rw [hy103];with_reducible exact H)
    have Ny103:=mk0 hy103;clear hy103;have H':=mk0 H;clear H;have q16:(1:Int)≤((l0.length:Int):Int):=of_decide_eq_true zq16;obtain ⟨i016,hi016,_,hsz16,_⟩:=info_parts info5;have hroom16:l0.length≤c0:=(Kd.V_reads' HO_0.out).2.1;have hC16:Kd.F (Kd.int .u8) _ _ (some ad101) l0.length l0:=(Kd.V_at (base:=w.heap.size) HO_0.out).2.2;have hcut16:=cut_from (P:=Tryd.prog) 55 5 .i64 Tryd.underlying55 hi016 1 hsz16 (some ad101) l0.length c0 1 (by omega) q16;have hr16:=Kd.F_cut (m:=(1:Int).toNat) (c:=c0) hC16 (by omega) hroom16;obtain ⟨A16,hA16⟩:∃ A1,A1=(if c0=(1:Int).toNat then (some ad101) else ((some ad101):Option Addr).map (·.add ((1:Int).toNat*1))):=⟨_,rfl⟩;obtain ⟨c16,hc16⟩:∃ c1,c1=c0 - (1:Int).toNat:=⟨_,rfl⟩;have hy16:y103.length=l0.length - (1:Int).toNat:=(by rw [Ny103.out,List.length_drop]<;>omega);rw [show (l0).drop (1:Int).toNat=y103 from Ny103.out.symm] at hr16;replace hr16:Kd.F (Kd.int .u8) _ _ A16 y103.length y103:=(by rw [hA16];exact hr16);rw [← hy16,← hA16,← hc16] at hcut16;have HO107:=mk0 (show Kd.V (Kd.int .u8) 5 _ w.heap.size _ (.slice A16 y103.length c16) y103 from Kd.V_mk (by rw [hy16,hc16];exact Nat.sub_le_sub_right hroom16 _) hr16);have HC107:=mk0 (show y103.length≤c16 from by rw [hy16,hc16];exact Nat.sub_le_sub_right hroom16 _);clear hr16 hC16 hroom16 hi016 hsz16 hc16;have KY16:=mk0 hy16;have KA16:=mk0 hA16;clear hy16 hA16;replace q16:=eq_true q16;go_wp2
    go_meet
    case rel=>exact ⟨_,(y103),H',⟨by have:=HJ3.out;first|omega|exact Nat.le_refl _⟩,⟨by (with_reducible repeat (first|apply Kd.V_alloc|apply Kd.V_drewN|apply Kd.V_drew));exact HO107.out⟩,⟨by repeat (first|(with_reducible first|exact HB.out|apply j1g|apply j1d|apply j1l)|exact HB.out)⟩⟩
   case rest =>
    clear HC13 c6 c6b0 c6b1 c7b0;obtain ⟨kq,x0_12,HA,HJ12,HO_0,HB⟩:=hcut;cases kq with
    | zero=>exact absurd HA.out (by simp [j1b.j2])
    | succ kj12 =>
     have H:=HA.out;clear HA;simp only [j1b.j2] at H;have H':=mk0 H;clear H;obtain ⟨Ao17,co17,eo17⟩:=Kd.V_slice HO_0.out;subst eo17;go_wp2
     go_loopg [9,54] kj12 (fun kq v9 v54 w'=>∃ (x9_3:Int) (x54_3:Int),v9 = .int .u64 x9_3∧v54 = .int .i64 x54_3∧Aside0 (j1b.l1 kq x6_3 x9_3 x0_12 (x0_12.length:Int) x54_3=some (r1,r2,r3))∧Aside0 (kq≤kj12)∧Aside0 (Kd.V (Kd.int .u8) 5 w' w.heap.size (fun k_=>(P0_ k_∨w.heap.size≤k_)) (.slice Ao17 x0_12.length co17) x0_12)∧Aside0 (Below w.heap.size w w'))
     case atStart=>exact ⟨(0),(0),(by rfl),(by rfl),H',⟨Nat.le_refl _⟩,⟨by (with_reducible repeat (first|apply Kd.V_alloc|apply Kd.V_drewN|apply Kd.V_drew));exact HO_0.out⟩,⟨by repeat (first|(with_reducible first|exact HB.out|apply j1g|apply j1d|apply j1l)|exact HB.out)⟩⟩
     case round =>
      clear H';obtain ⟨x9_3,x54_3,rfl,rfl,HA,HK3,HO_52,HB⟩:=hrel;cases gk with
      | zero=>exact absurd HA.out (by simp [j1b.l1])
      | succ k3 =>
       have H:=HA.out;clear HA;simp only [j1b.l1] at H;by_cases c18:x54_3<(x0_12.length:Int)
       rotate_left
       ·rw [if_neg c18] at H;have c18b0:decide (x54_3<(x0_12.length:Int))=false:=decide_eq_false c18;clear c18;by_cases c26:x9_3>9223372036854775807
        rotate_left
        ·rw [if_neg c26] at H;have c26b0:decide (9223372036854775807<x9_3)=false:=decide_eq_false c26;clear c26;by_cases c30:x6_3=true
         ·subst c30;rw [if_pos rfl] at H;simp only [Option.some.injEq,Prod.mk.injEq] at H;obtain ⟨rfl,rfl,rfl⟩:=H;go_wp2
          go_ret3
          exact zl5
         replace c30:=Bool.eq_false_iff.mpr c30;subst c30;rw [if_neg (show ¬ (false=true) by decide)] at H;simp only [Option.some.injEq,Prod.mk.injEq] at H;obtain ⟨rfl,rfl,rfl⟩:=H;go_wp2
         go_ret3
         exact zl5
        rw [if_pos c26] at H;have c26b0:decide (9223372036854775807<x9_3)=true:=decide_eq_true c26;clear c26;have HC27:=mk0 H;clear H;go_upto_region 38 with (fail)
        go_cut [84] (fun v84 wc=>∃ (kq:Nat) (x84_26:Bool),v84 = .bool x84_26∧Aside0 (j1b.j5 kq x84_26=some (r1,r2,r3))∧Aside0 (kq≤k3)∧Aside0 (Below w.heap.size w wc))
        case first =>
         have H:=HC27.out;clear HC27;by_cases c28:x6_3=true
         ·subst c28;rw [if_pos rfl] at H;have H':=mk0 H;clear H;go_wp2
          go_meet
          case rel=>exact ⟨_,((x9_3 == 9223372036854775808)),(by rfl),H',⟨by have:=HJ3.out;have:=HJ12.out;have:=HK3.out;first|omega|exact Nat.le_refl _⟩,⟨by repeat (first|(with_reducible first|exact HB.out|apply j1g|apply j1d|apply j1l)|exact HB.out)⟩⟩
         replace c28:=Bool.eq_false_iff.mpr c28;subst c28;rw [if_neg (show ¬ (false=true) by decide)] at H;have H':=mk0 H;clear H;go_wp2
         go_meet
         case rel=>exact ⟨_,(false),(by rfl),H',⟨by have:=HJ3.out;have:=HJ12.out;have:=HK3.out;first|omega|exact Nat.le_refl _⟩,⟨by repeat (first|(with_reducible first|exact HB.out|apply j1g|apply j1d|apply j1l)|exact HB.out)⟩⟩
        case rest =>
         clear HC27 c18b0 c26b0;obtain ⟨kq,x84_26,rfl,HA,HJ26,HB⟩:=hcut;cases kq with
         | zero=>exact absurd HA.out (by simp [j1b.j5])
         | succ kj26 =>
          have H:=HA.out;clear HA;simp only [j1b.j5] at H;by_cases c29:x84_26=true
          ·subst c29;rw [if_pos rfl] at H;simp only [Option.some.injEq,Prod.mk.injEq] at H;obtain ⟨rfl,rfl,rfl⟩:=H;go_wp2
           go_ret3
           exact zl5
          replace c29:=Bool.eq_false_iff.mpr c29;subst c29;rw [if_neg (show ¬ (false=true) by decide)] at H;simp only [Option.some.injEq,Prod.mk.injEq] at H;obtain ⟨rfl,rfl,rfl⟩:=H;go_wp2
          go_ret3
          exact zl5
       rw [if_pos c18] at H;have c18b0:decide (x54_3<(x0_12.length:Int))=true:=decide_eq_true c18;clear c18;by_cases c19:0≤x54_3
       rotate_left
       ·rw [if_neg c19] at H;exact absurd H (by simp)
       rw [if_pos c19] at H;have c19b0:decide (0≤x54_3)=true:=decide_eq_true c19;clear c19;by_cases c20:x54_3<(x0_12.length:Int)
       rotate_left
       ·rw [if_neg c20] at H;exact absurd H (by simp)
       rw [if_pos c20] at H;have c20b0:decide (x54_3<(x0_12.length:Int))=true:=decide_eq_true c20;clear c20;have HC21:=mk0 H;clear H;have p108:0≤(x54_3:Int):=of_decide_eq_true zq16;have q108:x54_3<(x0_12.length:Int):=of_decide_eq_true zq16;obtain ⟨ad108,e108,hx108_0⟩:=Kd.at_int (Kd.V_reads' HO_52.out).2.2 x54_3 p108 q108;cases e108;replace p108:=eq_true p108;replace q108:=eq_true q108;go_upto_region 27 with (fail)
       go_cut [63] (fun v63 wc=>∃ (kq:Nat) (x63_20:Bool),v63 = .bool x63_20∧Aside0 (j1b.j4 kq x6_3 x9_3 (rd x0_12 x54_3) x0_12 (x0_12.length:Int) x54_3 x63_20=some (r1,r2,r3))∧Aside0 (kq≤k3)∧Aside0 (Kd.V (Kd.int .u8) 5 wc w.heap.size (fun k_=>(P0_ k_∨w.heap.size≤k_)) (.slice (some ad108) x0_12.length co17) x0_12)∧Aside0 (Below w.heap.size w wc))
       case first =>
        have H:=HC21.out;clear HC21;by_cases c22:(rd x0_12 x54_3)<48
        ·rw [if_pos c22] at H;have c22b0:decide ((rd x0_12 x54_3)<48)=true:=decide_eq_true c22;clear c22
         (skip)
         have H':=mk0 H;clear H;go_wp2
         go_meet
         case rel=>exact ⟨_,(true),(by rfl),H',⟨by have:=HJ3.out;have:=HJ12.out;have:=HK3.out;first|omega|exact Nat.le_refl _⟩,⟨by (with_reducible repeat (first|apply Kd.V_alloc|apply Kd.V_drewN|apply Kd.V_drew));exact HO_52.out⟩,⟨by repeat (first|(with_reducible first|exact HB.out|apply j1g|apply j1d|apply j1l)|exact HB.out)⟩⟩
        rw [if_neg c22] at H;have c22b0:decide ((rd x0_12 x54_3)<48)=false:=decide_eq_false c22;clear c22
        (skip)
        have H':=mk0 H;clear H;go_wp2
        go_meet
        case rel=>exact ⟨_,(decide ((rd x0_12 x54_3)>57)),(by rfl),H',⟨by have:=HJ3.out;have:=HJ12.out;have:=HK3.out;first|omega|exact Nat.le_refl _⟩,⟨by (with_reducible repeat (first|apply Kd.V_alloc|apply Kd.V_drewN|apply Kd.V_drew));exact HO_52.out⟩,⟨by repeat (first|(with_reducible first|exact HB.out|apply j1g|apply j1d|apply j1l)|exact HB.out)⟩⟩
       case rest =>
        clear HC21 c18b0 c19b0 c20b0 hx108_0 p108 q108;obtain ⟨kq,x63_20,rfl,HA,HJ20,HO_52,HB⟩:=hcut;cases kq with
        | zero=>exact absurd HA.out (by simp [j1b.j4])
        | succ kj20 =>
         have H:=HA.out;clear HA;simp only [j1b.j4] at H;by_cases c23:x63_20=true
         ·subst c23;rw [if_pos rfl] at H;simp only [Option.some.injEq,Prod.mk.injEq] at H;obtain ⟨rfl,rfl,rfl⟩:=H;go_wp2
          go_ret3
          exact zl5
         replace c23:=Bool.eq_false_iff.mpr c23;subst c23;rw [if_neg (show ¬ (false=true) by decide)] at H;by_cases c24:x9_3>1844674407370955161
         ·rw [if_pos c24] at H;have c24b0:decide (1844674407370955161<x9_3)=true:=decide_eq_true c24;clear c24;simp only [Option.some.injEq,Prod.mk.injEq] at H;obtain ⟨rfl,rfl,rfl⟩:=H;go_wp2
          go_ret3
          exact zl5
         rw [if_neg c24] at H;have c24b0:decide (1844674407370955161<x9_3)=false:=decide_eq_false c24;clear c24;by_cases c25:(IntKind.u64.wrap ((IntKind.u64.wrap (x9_3*10))+(((rd x0_12 x54_3) - 48) % 256)))<(IntKind.u64.wrap (x9_3*10))
         ·rw [if_pos c25] at H;have c25b0:decide ((IntKind.u64.wrap ((IntKind.u64.wrap (x9_3*10))+(((rd x0_12 x54_3) - 48) % 256)))<(IntKind.u64.wrap (x9_3*10)))=true:=decide_eq_true c25;clear c25;simp only [Option.some.injEq,Prod.mk.injEq] at H;obtain ⟨rfl,rfl,rfl⟩:=H;go_wp2
          go_ret3
          exact zl5
         rw [if_neg c25] at H;have c25b0:decide ((IntKind.u64.wrap ((IntKind.u64.wrap (x9_3*10))+(((rd x0_12 x54_3) - 48) % 256)))<(IntKind.u64.wrap (x9_3*10)))=false:=decide_eq_false c25;clear c25;have H':=mk0 H;clear H;go_wp2
         go_roundg kj20
         case measure=>have:=HJ3.out;have:=HJ12.out;have:=HK3.out;have:=HJ20.out;omega
         case rel=>exact ⟨(IntKind.u64.wrap ((IntKind.u64.wrap (x9_3*10))+(((rd x0_12 x54_3) - 48) % 256))),(wrap64 (x54_3+1)),(by rfl),(by rfl),H',⟨by have:=HJ3.out;have:=HJ12.out;have:=HK3.out;have:=HJ20.out;omega⟩,⟨by (with_reducible repeat (first|apply Kd.V_alloc|apply Kd.V_drewN|apply Kd.V_drew));exact HO_52.out⟩,⟨by repeat (first|(with_reducible first|exact HB.out|apply j1g|apply j1d|apply j1l)|exact HB.out)⟩⟩
def errors_New.f (a0 : ByteArray):Option (Option Int):=some (some 0)
theorem errors_New.calls (a0 : ByteArray) (r:Option Int) (w:World) (h:errors_New.f a0=some r) :
 Calls Tryd.prog 43 #[.string a0] w fun e w'=>∃ z_r:Option (TypeId × Value),Zk z_r r∧e = .returned (errW z_r)∧Below w.heap.size w w':=by
 obtain rfl:=Option.some.inj h;go_enter Tryd.func43,Tryd.ntmps43
 go_wp2
 go_ret
 obtain ⟨z,hz,e⟩:=errW_mk 97 w.heap.size (by omega);exact ⟨z,hz,by rw [← e];rfl,(Below.refl _ w).alloc (Nat.le_refl _) _⟩
structure LaidI (w : World):Prop extends Laid w where
  eN:∃ te pe,w.cell? ⟨0,0,none⟩=some (.iface te pe)
  eM:∃ te pe,w.cell? ⟨1,0,none⟩=some (.iface te pe)
  eV:∃ te pe,w.cell? ⟨3,0,none⟩=some (.iface te pe)
theorem LaidI.below {B : Nat} {w w':World} (h:LaidI w) (hb:Below B w w') (hB:w.heap.size≤B:=by exact Nat.le_refl _):LaidI w' where
 toLaid:=h.toLaid.below hb hB
 eN:=by
  obtain ⟨te,pe,h1⟩:=h.eN;exact zl10
 eM:=by
  obtain ⟨te,pe,h1⟩:=h.eM;exact zl10
 eV:=by
  obtain ⟨te,pe,h1⟩:=h.eV;exact zl10
theorem IN.V {w : World} {b o:Nat} {l:List Int} (h:IN w b o l) (c base:Nat) (hc:l.length≤c):Kd.V (Kd.int .u8) 55 w base (fun k=>k=b) (.slice (some ⟨b,o,none⟩) l.length c) l :=
 Kd.V_mk hc (fun W' hW=>IN.C (b:=b) (o:=o) ⟨fun i hi=>by
  rw [← h.cell i hi];unfold World.cell?;rw [hW b rfl h.lt],heap_lt (hW b rfl h.lt) h.lt,h.u8,h.max⟩)
def PE2 (w : World) (r1:Int) (r2:Bool) (e:Ending) (w':World):Prop:=Below w.heap.size w w'∧((r2=true∧e = .returned (.tuple #[.int .i64 r1, .nilIface]))∨(r2=false∧∃ te pe,e = .returned (.tuple #[.int .i64 0, .iface te pe])))
set_option maxHeartbeats 8000000 in
set_option maxRecDepth 100000 in
theorem pi_calls (k : Nat) (b o c:Nat) (l:List Int) (r1:Int) (r2 r3:Bool) (w:World) (hT:LaidI w) (hI:IN w b o l) (hc:l.length≤c) (h:j1b.f k l=some (r1,r2,r3)) :
 Calls Tryd.prog 44 #[.slice (some ⟨b,o,none⟩) l.length c] w fun e w'=>PE2 w r1 r2 e w':=by
 have HP:=mk0 (j1b.calls k (fun k=>k=b) (some ⟨b,o,none⟩) c l r1 r2 r3 w (hI.V c w.heap.size hc) h);have HT:=mk0 hT;clear hI h hT;cases r2
 ·cases r3
  all_goals
   go_enter Tryd.func44,Tryd.ntmps44
   go_wp2_with (first|(go_at_call 45;(with_reducible refine HP.out.mono ?_);rintro e_ w_ ⟨rfl,hb⟩;have K:=mk0 hb;obtain ⟨t1,p1,h1⟩:=(HT.out.below hb).eM;obtain ⟨t2,p2,h2⟩:=(HT.out.below hb).eV;clear hb))
   repeat (go_quiet (fail);try go_wp2)
   go_ret2
   exact ⟨j1d K.out _, .inr ⟨rfl,_,_,rfl⟩⟩
 ·go_enter Tryd.func44,Tryd.ntmps44
  go_wp2_with (first|(go_at_call 45;(with_reducible refine HP.out.mono ?_);rintro e_ w_ ⟨rfl,hb⟩;have K:=mk0 hb;clear hb))
  go_ret2
  exact ⟨K.out, .inl ⟨rfl,rfl⟩⟩
def intF (k : Nat) (res:Option (List Int × Int × Nat × Nat)):Option (Int × Bool):=match res with
  | none=>some (0,false)
  | some (v,kd,_,_)=>if kd=2 then (j1b.f k v).bind fun t=>some (if t.2.1=true then (t.1,true) else (0,false)) else some (0,false)
theorem intF_mono (k : Nat) (res:Option (List Int × Int × Nat × Nat)):LeO (intF k res) (intF (k+1) res):=by
 unfold intF;split
 ·exact LeO.refl _
 ·exact LeO.ite (LeO.bind (j1b.mono _ _) (fun _=>LeO.refl _)) (LeO.refl _)
def PI (w : World) (r0:Int) (r1:Bool) (e:Ending) (w':World):Prop:=Below w.heap.size w w'∧((r1=true∧e = .returned (.tuple #[.int .i64 r0, .nilIface]))∨(r1=false∧r0=0∧∃ te pe,e = .returned (.tuple #[.int .i64 0, .iface te pe])))
set_option maxHeartbeats 8000000 in
set_option maxRecDepth 100000 in
theorem gi_calls (k : Nat) (b:Nat) (res:Option (List Int × Int × Nat × Nat)) (dv kv:Value) (w:World) (r0:Int) (r1:Bool) (hT:LaidI w)
 (hU:Calls Tryd.prog 23 #[dv,kv] w fun e w'=>P4 w b res e w') (h:intF k res=some (r0,r1)) :
 Calls Tryd.prog 24 #[dv,kv] w fun e w'=>PI w r0 r1 e w':=by
 have HU:=mk0 hU;have HT:=mk0 hT;clear hU hT;cases res with
 | none =>
  obtain ⟨rfl,rfl⟩:(0:Int)=r0∧false=r1:=by cases h;exact ⟨rfl,rfl⟩
  clear h;go_enter Tryd.func24,Tryd.ntmps24
  go_wp2_with (first|(go_at_call 23;(with_reducible refine HU.out.mono ?_);rintro e_ w_ ⟨hb,⟨hn,kd,en,te,pe,rfl⟩|⟨v,kd,og,en,o1,hr,_⟩⟩;rotate_left;exact absurd hr (by simp);have K:=mk0 hb;clear hb hn))
  go_ret2
  exact ⟨K.out, .inr ⟨rfl,rfl,_,_,rfl⟩⟩
 | some x =>
  obtain ⟨v,kd,og,en⟩:=x;unfold intF at h
  simp only at h
  by_cases hk:kd=2
  rotate_left
  ·rw [if_neg hk] at h
   obtain ⟨rfl,rfl⟩:(0:Int)=r0∧false=r1:=by cases h;exact ⟨rfl,rfl⟩
   clear h;have f1:(kd != 2)=true:=bne_iff_ne.mpr hk;have f2:decide (kd=2)=false:=decide_eq_false hk;by_cases h6:kd=6
   ·subst h6;clear hk;go_enter Tryd.func24,Tryd.ntmps24
    go_wp2_with (first|(go_at_call 23;(with_reducible refine HU.out.mono ?_);rintro e_ w_ ⟨hb,⟨hn,_⟩|⟨v_,kd_,og_,en_,o1,hr,rfl,hI⟩⟩;exact absurd hn (by simp);cases hr;have K:=mk0 hb;obtain ⟨t1,p1,h1⟩:=(HT.out.below hb).eN;clear hb hI))
    repeat (go_quiet (fail);try go_wp2)
    go_ret2
    exact ⟨j1d K.out _, .inr ⟨rfl,rfl,_,_,rfl⟩⟩
   have f3:(kd == 6)=false:=beq_eq_false_iff_ne.mpr h6;have f4:decide (kd=6)=false:=decide_eq_false h6;clear hk h6;go_enter Tryd.func24,Tryd.ntmps24
   go_wp2_with (first|(go_at_call 23;(with_reducible refine HU.out.mono ?_);rintro e_ w_ ⟨hb,⟨hn,_⟩|⟨v_,kd_,og_,en_,o1,hr,rfl,hI⟩⟩;exact absurd hn (by simp);cases hr;have K:=mk0 hb;clear hb hI)|(go_at_call 43;(with_reducible refine (errors_New.calls _ _ _ rfl).mono ?_);rintro e_ w_ ⟨z,hz,rfl,hb⟩;have K2:=mk0 (j1p K.out hb);rcases z with _|q;exact absurd hz (by simp [Zk]);rw [errW_some];clear hb hz))
   go_ret2
   exact ⟨K2.out, .inr ⟨rfl,rfl,_,_,rfl⟩⟩
  subst hk;rw [if_pos rfl] at h
  obtain ⟨⟨t1,t2,t3⟩,hp,h⟩:=Option.bind_eq_some_iff.mp h;have h:=Option.some.inj h;simp only at h
  go_enter Tryd.func24,Tryd.ntmps24
  have HR:=mk0 h;have HP:=mk0 hp;clear h hp;cases t2
  ·go_wp2_with (first|(go_at_call 23;(with_reducible refine HU.out.mono ?_);rintro e_ w_ ⟨hb,⟨hn,_⟩|⟨v_,kd_,og_,en_,o1,hr,rfl,hI⟩⟩;exact absurd hn (by simp);cases hr;have K:=mk0 hb;have X:=mk0 (pi_calls k b o1 v.length v t1 false t3 w_ (HT.out.below hb) (hI.below hb) (Nat.le_refl _) HP.out);clear hb hI)|(go_at_call 44;(with_reducible refine X.out.mono ?_);rintro e_ w_ ⟨hb,⟨hn,_⟩|⟨_,te,pe,rfl⟩⟩;exact absurd hn (by simp);have K2:=mk0 (j1p K.out hb);clear hb))
   go_ret2
   have h:=HR.out;simp only [Bool.false_eq_true,if_false,Prod.mk.injEq] at h
   exact ⟨K2.out, .inr ⟨h.2.symm,h.1.symm,_,_,rfl⟩⟩
  ·go_wp2_with (first|(go_at_call 23;(with_reducible refine HU.out.mono ?_);rintro e_ w_ ⟨hb,⟨hn,_⟩|⟨v_,kd_,og_,en_,o1,hr,rfl,hI⟩⟩;exact absurd hn (by simp);cases hr;have K:=mk0 hb;have X:=mk0 (pi_calls k b o1 v.length v t1 true t3 w_ (HT.out.below hb) (hI.below hb) (Nat.le_refl _) HP.out);clear hb hI)|(go_at_call 44;(with_reducible refine X.out.mono ?_);rintro e_ w_ ⟨hb,⟨_,rfl⟩|⟨hn,_⟩⟩;rotate_left;exact absurd hn (by simp);have K2:=mk0 (j1p K.out hb);clear hb))
   go_ret2
   have h:=HR.out;simp only [if_true,Prod.mk.injEq] at h
   exact ⟨K2.out, .inl ⟨h.2.symm,by rw [← h.1];rfl⟩⟩
def UNc (un : List Int→Option (Option (List Int))) (a0 a1:Bool) (a2:Int):Prop:=∀ (v:List Int) (res:Option (List Int)) (b o c G ty:Nat) (L:List Int) (w0 w:World),Laid w0→Below w0.heap.size w0 w→IN w0 b o v→v.length≤c→c≤9223372036854775807→BF w w0 w G ty L→L.length=64→un v=some res →
  Calls Tryd.prog 61 #[.agg #[.bool a0, .bool a1, .int .i64 a2], .slice (some ⟨b,o,none⟩) v.length c, .slice (some ⟨G,0,none⟩) 64 64] w fun e w'=>UP2 w w0 G ty 64 res e w'
theorem unc_is (k : Nat):UNc (unc k) false false 0:=fun v res b o c G ty L w0 w hT hB hI hc hcm hF hL h=>unc2_there k v b o c w0 w res G ty L hT hB hI hc hcm hF hL h
theorem C_set {W : World} {A:Option Addr} {n:Nat} {v:List Int} {g:Nat} {ty:TypeId} {sa:Option Addr} {sn sc:Nat} {x:Value} (h:Kd.C (Kd.int .u8) W A n v) (hg:W.heap[g]? = some (.cells #[.slice sa sn sc] ty (0,0))):Kd.C (Kd.int .u8) (W.setCell ⟨g,0,none⟩ x) A n v:=by
 obtain ⟨h1,h2,h3⟩:=Kd.reads_of_C (enc:=Value.int .u8) (d:=(0:Int)) (h1:=fun _=>rfl) h;refine Kd.C_of_reads (enc:=Value.int .u8) (d:=(0:Int)) (h1:=fun _=>rfl) ⟨h1,h2,fun hp=>?_⟩;obtain ⟨ad,e,hc⟩:=h3 hp;refine ⟨ad,e,fun j hj=>?_⟩;have hcj:=hc j hj
 have hne:(ad.add j).block≠g:=by
  intro hb
  generalize ad.add j=q at hcj hb
  obtain ⟨qb,qo,qp⟩:=q;simp only at hb;subst hb;unfold World.cell? at hcj;rw [hg] at hcj;cases qo with
  | zero=>simp at hcj
  | succ k=>simp at hcj
 rw [← hcj];unfold World.cell?;rw [Below.heap_setCell _ _ _ _ hne]
set_option maxHeartbeats 8000000 in
set_option maxRecDepth 100000 in
theorem sk_nil (a0 a1 : Bool) (a2:Int) (dv:Value) (da:Option Addr) (dn dc:Nat) (KA:Option Addr) (kc:Nat) (w:World) :
 Calls Tryd.prog 58 #[.agg #[.bool a0, .bool a1, .int .i64 a2], .slice da dn dc, .slice KA 0 kc] w fun e w'=>e = .returned (.int .i64 0)∧Below w.heap.size w w':=by
 have hcd:(w.alloc (.cells #[.bool a0, .bool a1, .int .i64 a2] 93) |>.alloc (.cells #[.slice da dn dc] 55)).cell? ⟨w.heap.size+1,0,none⟩=some (.slice da dn dc):=by rw [World.cell?_alloc_at _ _ _ _ (by simp)];rfl
 go_enter Tryd.func58,Tryd.ntmps58
 go_wp2
 go_ret
 exact ⟨rfl,j1g (j1g (Below.refl _ _) _) _⟩
set_option maxHeartbeats 64000000 in
set_option maxRecDepth 100000 in
theorem sk_calls (un : List Int→Option (Option (List Int))) (a0 a1:Bool) (a2:Int) (hun:UNc un a0 a1 a2) (hsq:a0=false):∀ (mx:Nat) (n:Nat) (ks:List ByteArray) (l:List Int) (b o c kb ko kc:Nat) (w:World) (R:Int),ks.length≤mx→Laid w→IN w b o l→l.length≤c→c≤9223372036854775807→KY w kb ko ks→ks.length≤kc→sK a0 un n ks l=some R →
 Calls Tryd.prog 58 #[.agg #[.bool a0, .bool a1, .int .i64 a2], .slice (some ⟨b,o,none⟩) l.length c, .slice (some ⟨kb,ko,none⟩) ks.length kc] w fun e w'=>e = .returned (.int .i64 R)∧Below w.heap.size w w':=by
 intro mx
 induction mx with
 | zero =>
  intro n ks l b o c kb ko kc w R hm _ _ _ _ _ _ hR;obtain rfl:ks=[]:=List.length_eq_zero_iff.mp (by omega);rw [sK,if_pos rfl] at hR;cases hR;exact sk_nil a0 a1 a2 (.slice none 0 0) _ _ _ _ kc w
 | succ mx ih =>
 intro n ks l b o c kb ko kc w R hm hT hI hc hcm hK hkc hR;by_cases hk0:ks=[]
 ·subst hk0;rw [sK,if_pos rfl] at hR;cases hR;exact sk_nil a0 a1 a2 (.slice none 0 0) _ _ _ _ kc w
 rw [sK,if_neg hk0] at hR;have hkl:0<ks.length:=List.length_pos_iff.mpr hk0;have HIH:=mk0 ih;have HUN:=mk0 hun;have HSQ:=mk0 hsq;have HM:=mk0 hm;have HT:=mk0 hT;have HI:=mk0 hI;have HC:=mk0 (And.intro hc hcm);have HK:=mk0 (And.intro hK hkc);have HR:=mk0 hR;have hlm:=hI.max;have hkm:=hK.len;have k1:((ks.length:Int) == 0)=false:=beq_eq_false_iff_ne.mpr (by omega);have k2:decide ((ks.length:Int)=0)=false:=decide_eq_false (by omega);have k3:decide (ks.length=0)=false:=decide_eq_false (by omega);obtain ⟨w1,hw1⟩:∃ w1,w1=(w.alloc (.cells #[.bool a0, .bool a1, .int .i64 a2] 93)).alloc (.cells #[.slice (some ⟨b,o,none⟩) l.length c] 55):=⟨_,rfl⟩;have hsz:w1.heap.size=w.heap.size+2:=by rw [hw1];simp
 have hcd:w1.cell? ⟨w.heap.size+1,0,none⟩=some (.slice (some ⟨b,o,none⟩) l.length c):=by rw [hw1,World.cell?_alloc_at _ _ _ _ (by simp)];rfl
 have hblD:w1.heap[w.heap.size+1]? = some (.cells #[.slice (some ⟨b,o,none⟩) l.length c] 55 (0,0)):=by rw [hw1];have:=j4l (w.alloc (.cells #[.bool a0, .bool a1, .int .i64 a2] 93)) (.cells #[.slice (some ⟨b,o,none⟩) l.length c] 55);simpa using this
 have HBL:=mk0 hblD;clear hblD;have hcf:=j4h w a0 a1 a2 93;have hc0:w1.cell? ⟨w.heap.size,0,none⟩=some (.bool a0):=by rw [hw1,World.cell?_alloc_past _ _ _ (by simp)];exact hcf.1
 have hc1:w1.cell? ⟨w.heap.size,1,none⟩=some (.bool a1):=by rw [hw1,World.cell?_alloc_past _ _ _ (by simp)];exact hcf.2.1
 have hc2:w1.cell? ⟨w.heap.size,2,none⟩=some (.int .i64 a2):=by rw [hw1,World.cell?_alloc_past _ _ _ (by simp)];exact hcf.2.2
 have HB1:Aside0 (Below w.heap.size w w1):=⟨by rw [hw1];exact j1g (j1g (Below.refl _ _) _) _⟩;have hF0:BF (w1.alloc (.cells #[.int .u8 0, .int .u8 0, .int .u8 0, .int .u8 0, .int .u8 0, .int .u8 0, .int .u8 0, .int .u8 0, .int .u8 0, .int .u8 0, .int .u8 0, .int .u8 0, .int .u8 0, .int .u8 0, .int .u8 0, .int .u8 0, .int .u8 0, .int .u8 0, .int .u8 0, .int .u8 0, .int .u8 0, .int .u8 0, .int .u8 0, .int .u8 0, .int .u8 0, .int .u8 0, .int .u8 0, .int .u8 0, .int .u8 0, .int .u8 0, .int .u8 0, .int .u8 0, .int .u8 0, .int .u8 0, .int .u8 0, .int .u8 0, .int .u8 0, .int .u8 0, .int .u8 0, .int .u8 0, .int .u8 0, .int .u8 0, .int .u8 0, .int .u8 0, .int .u8 0, .int .u8 0, .int .u8 0, .int .u8 0, .int .u8 0, .int .u8 0, .int .u8 0, .int .u8 0, .int .u8 0, .int .u8 0, .int .u8 0, .int .u8 0, .int .u8 0, .int .u8 0, .int .u8 0, .int .u8 0, .int .u8 0, .int .u8 0, .int .u8 0, .int .u8 0] 106)) w1 (w1.alloc (.cells #[.int .u8 0, .int .u8 0, .int .u8 0, .int .u8 0, .int .u8 0, .int .u8 0, .int .u8 0, .int .u8 0, .int .u8 0, .int .u8 0, .int .u8 0, .int .u8 0, .int .u8 0, .int .u8 0, .int .u8 0, .int .u8 0, .int .u8 0, .int .u8 0, .int .u8 0, .int .u8 0, .int .u8 0, .int .u8 0, .int .u8 0, .int .u8 0, .int .u8 0, .int .u8 0, .int .u8 0, .int .u8 0, .int .u8 0, .int .u8 0, .int .u8 0, .int .u8 0, .int .u8 0, .int .u8 0, .int .u8 0, .int .u8 0, .int .u8 0, .int .u8 0, .int .u8 0, .int .u8 0, .int .u8 0, .int .u8 0, .int .u8 0, .int .u8 0, .int .u8 0, .int .u8 0, .int .u8 0, .int .u8 0, .int .u8 0, .int .u8 0, .int .u8 0, .int .u8 0, .int .u8 0, .int .u8 0, .int .u8 0, .int .u8 0, .int .u8 0, .int .u8 0, .int .u8 0, .int .u8 0, .int .u8 0, .int .u8 0, .int .u8 0, .int .u8 0] 106)) w1.heap.size 106 (List.replicate 64 0):=⟨j4l w1 _,Nat.le_refl _,j1g (Below.refl _ _) _,KeepBut.refl _ _ _⟩;have HBS:=mk0 (j1g (Below.refl w1.heap.size w1) (.cells #[.int .u8 0, .int .u8 0, .int .u8 0, .int .u8 0, .int .u8 0, .int .u8 0, .int .u8 0, .int .u8 0, .int .u8 0, .int .u8 0, .int .u8 0, .int .u8 0, .int .u8 0, .int .u8 0, .int .u8 0, .int .u8 0, .int .u8 0, .int .u8 0, .int .u8 0, .int .u8 0, .int .u8 0, .int .u8 0, .int .u8 0, .int .u8 0, .int .u8 0, .int .u8 0, .int .u8 0, .int .u8 0, .int .u8 0, .int .u8 0, .int .u8 0, .int .u8 0, .int .u8 0, .int .u8 0, .int .u8 0, .int .u8 0, .int .u8 0, .int .u8 0, .int .u8 0, .int .u8 0, .int .u8 0, .int .u8 0, .int .u8 0, .int .u8 0, .int .u8 0, .int .u8 0, .int .u8 0, .int .u8 0, .int .u8 0, .int .u8 0, .int .u8 0, .int .u8 0, .int .u8 0, .int .u8 0, .int .u8 0, .int .u8 0, .int .u8 0, .int .u8 0, .int .u8 0, .int .u8 0, .int .u8 0, .int .u8 0, .int .u8 0, .int .u8 0] 106));have HF0:=mk0 hF0;clear hT hI hc hcm hK hkc hR hm hk0 ih hun hcf hF0 hsq;go_enter Tryd.func58,Tryd.ntmps58
 go_upto_region 4 with (fail)
 rw [← hw1];obtain ⟨gc,hgc⟩:∃ gc,gc=w.heap.size:=⟨_,rfl⟩;have HGC:=mk0 (And.intro hgc hsz);rw [← hgc] at hcd hc0 hc1 hc2 HBL ⊢;clear hw1 hgc hsz;go_upto_block 0 with (fail)
 obtain ⟨w2,hw2⟩:∃ w2,w2=w1.alloc (.cells #[.int .u8 0, .int .u8 0, .int .u8 0, .int .u8 0, .int .u8 0, .int .u8 0, .int .u8 0, .int .u8 0, .int .u8 0, .int .u8 0, .int .u8 0, .int .u8 0, .int .u8 0, .int .u8 0, .int .u8 0, .int .u8 0, .int .u8 0, .int .u8 0, .int .u8 0, .int .u8 0, .int .u8 0, .int .u8 0, .int .u8 0, .int .u8 0, .int .u8 0, .int .u8 0, .int .u8 0, .int .u8 0, .int .u8 0, .int .u8 0, .int .u8 0, .int .u8 0, .int .u8 0, .int .u8 0, .int .u8 0, .int .u8 0, .int .u8 0, .int .u8 0, .int .u8 0, .int .u8 0, .int .u8 0, .int .u8 0, .int .u8 0, .int .u8 0, .int .u8 0, .int .u8 0, .int .u8 0, .int .u8 0, .int .u8 0, .int .u8 0, .int .u8 0, .int .u8 0, .int .u8 0, .int .u8 0, .int .u8 0, .int .u8 0, .int .u8 0, .int .u8 0, .int .u8 0, .int .u8 0, .int .u8 0, .int .u8 0, .int .u8 0, .int .u8 0] 106):=⟨_,rfl⟩;rw [← hw2] at HBS HF0 ⊢;have hd0:=(j2r HBS.out (World.block_lt_of_cell? _ _ hc0)).trans hc0;have hd1:=(j2r HBS.out (World.block_lt_of_cell? _ _ hc1)).trans hc1;have hd2:=(j2r HBS.out (World.block_lt_of_cell? _ _ hc2)).trans hc2;have hdd:=(j2r HBS.out (World.block_lt_of_cell? _ _ hcd)).trans hcd;have HCF:=mk0 (And.intro hd0 (And.intro hd1 (And.intro hd2 hdd)));obtain ⟨gs,hgs⟩:∃ gs,gs=w1.heap.size:=⟨_,rfl⟩;rw [← hgs] at HF0 HGC ⊢;have HGS:=mk0 hgs;have HBD:Aside0 (∀ (W:World) {L:List Int},BF w2 w1 W gs 106 L→W.heap[gc+1]? = some (.cells #[.slice (some ⟨b,o,none⟩) l.length c] 55 (0,0))):=⟨fun W L h=>(h.below.block _ (by have:=HGC.out;omega)).trans HBL.out⟩;clear hw2 hgs hc0 hc1 hc2 hcd hd0 hd1 hd2 hdd k1 k2 k3;go_wp2
 go_loopg [7,8,9,12] n (fun kq v7 v8 v9 v12 w'=>∃ (i:Nat) (kl lv:Int) (lm:Bool) (L:List Int),v7 = .int .i64 kl∧v8 = .int .i64 lv∧v9 = .int .i64 (i:Int)∧v12 = .bool lm∧Aside0 (i≤l.length∧sKl a0 un kq ks l kl lv i lm=some R ∧ -(i:Int)≤lv∧lv≤i ∧ -(i:Int) - 1≤kl∧kl<ks.length)∧Aside0 (BF w2 w1 w' gs 106 L∧L.length=64))
 case atStart=>exact ⟨0,0,0,true,_,rfl,rfl,rfl,rfl,⟨by omega,HR.out,by omega,by omega,by omega,by omega⟩,⟨HF0.out,List.length_replicate⟩⟩
 case round =>
  clear HR HF0 HBS;obtain ⟨i,kl,lv,lm,L,rfl,rfl,rfl,rfl,HJ,HF⟩:=hrel;cases gk with
  | zero=>exact absurd HJ.out.2.1 (by simp [sKl])
  | succ kr =>
   have hi:=HJ.out.1;obtain ⟨wo,rfl⟩:∃ wo:World,wo=wr:=⟨_,rfl⟩;have hIr:=(HI.out.below HB1.out).below HF.out.1.below;have HIR:=mk0 hIr;have hdd:=keep_cell HF.out.1.keep (a:=⟨gc+1,0,none⟩) (by show gc+1≠gs;have:=HGC.out;omega) HCF.out.2.2.2;clear hIr;by_cases hlt:i<l.length
   rotate_left
   ·have t1:decide ((i:Int)<(l.length:Int))=false:=decide_eq_false (by omega);have hst:=HJ.out.2.1;rw [sKl,List.drop_of_length_le (by omega),skp,if_pos (by omega)] at hst;have HS:=mk0 (Option.some.inj hst);clear hst;go_wp2
    go_ret
    exact zl21
   have t1:decide ((i:Int)<(l.length:Int))=true:=decide_eq_true (by omega);go_upto_block 2 with (fail)
   go_cut [9] (fun v9 wc=>∃ j:Nat,v9 = .int .i64 (j:Int)∧Aside0 (i≤j∧j≤l.length∧skp (l.drop i) i=j∧(j<l.length→¬ (l.getD j 0≤32∨(92<l.getD j 0∧l.getD j 0≠123∧l.getD j 0≠125))))∧wc=wo)
   case first=>as_aux_lemma =>
    go_wp2_with fail
    go_loopg [9] (l.length - i) (fun kq v9 w'=>∃ j:Nat,v9 = .int .i64 (j:Int)∧Aside0 (i≤j∧j≤l.length∧skp (l.drop i) i=skp (l.drop j) j)∧kq=l.length - j∧w'=wo)
    case atStart=>exact ⟨i,rfl,⟨Nat.le_refl _,hi,rfl⟩,rfl,rfl⟩
    case round =>
     obtain ⟨j,rfl,HK2,hkk,rfl⟩:=hrel;have hj:=HK2.out.2.1;by_cases hjl:j<l.length
     rotate_left
     ·have s1:decide ((j:Int)<(l.length:Int))=false:=decide_eq_false (by omega);have HN:Aside0 (i≤j∧j≤l.length∧skp (l.drop i) i=j∧(j<l.length→¬ (l.getD j 0≤32∨(92<l.getD j 0∧l.getD j 0≠123∧l.getD j 0≠125)))):=⟨HK2.out.1,hj,by rw [HK2.out.2.2,List.drop_of_length_le (by omega),skp],fun h=>absurd h hjl⟩;go_wp2
      go_meet
      case rel=>exact ⟨j,rfl,HN,rfl⟩
     have s1:decide ((j:Int)<(l.length:Int))=true:=decide_eq_true (by omega);have s2:(0≤(j:Int))=True:=eq_true (by omega);have s3:((j:Int)<(l.length:Int))=True:=eq_true (by omega);have hcx:=HIR.out.cell j hjl;have hst:=HK2.out.2.2;rw [at_int hjl,skp] at hst;obtain ⟨x,hx⟩:∃ x,x=l.getD j 0:=⟨_,rfl⟩;rw [← hx] at hcx hst;have HX:=mk0 hx;clear hx;by_cases hsk:x≤32
     ·rw [if_pos hsk] at hst;have HN:Aside0 (i≤j+1∧j+1≤l.length∧skp (l.drop i) i=skp (l.drop (j+1)) (j+1)):=⟨by have:=HK2.out.1;omega,hjl,hst⟩;have f1:decide (x≤32)=true:=decide_eq_true hsk;clear hst;go_wp2
      go_roundg (l.length - (j+1))
      case measure=>omega
      case rel=>exact ⟨j+1,by go_num,HN,rfl,rfl⟩
     rw [if_neg hsk] at hst;have f1:decide (x≤32)=false:=decide_eq_false hsk;by_cases h92:92<x
     rotate_left
     ·have f2:decide (92<x)=false:=decide_eq_false h92;have HN:Aside0 (i≤j∧j≤l.length∧skp (l.drop i) i=j∧(j<l.length→¬ (l.getD j 0≤32∨(92<l.getD j 0∧l.getD j 0≠123∧l.getD j 0≠125)))):=⟨HK2.out.1,hj,by rw [hst,if_neg (by omega)],fun _=>by rw [← HX.out];omega⟩;clear hst;go_wp2
      go_meet
      case rel=>exact ⟨j,rfl,HN,rfl⟩
     have f2:decide (92<x)=true:=decide_eq_true h92;by_cases hop:x=123
     ·have HN:Aside0 (i≤j∧j≤l.length∧skp (l.drop i) i=j∧(j<l.length→¬ (l.getD j 0≤32∨(92<l.getD j 0∧l.getD j 0≠123∧l.getD j 0≠125)))):=⟨HK2.out.1,hj,by rw [hst,if_neg (by omega)],fun _=>by rw [← HX.out];omega⟩;clear hst f1 f2 hsk h92;rw [hop] at hcx;clear hop;go_wp2
      go_meet
      case rel=>exact ⟨j,rfl,HN,rfl⟩
     by_cases hcl:x=125
     ·have HN:Aside0 (i≤j∧j≤l.length∧skp (l.drop i) i=j∧(j<l.length→¬ (l.getD j 0≤32∨(92<l.getD j 0∧l.getD j 0≠123∧l.getD j 0≠125)))):=⟨HK2.out.1,hj,by rw [hst,if_neg (by omega)],fun _=>by rw [← HX.out];omega⟩;clear hst f1 f2 hsk h92;rw [hcl] at hcx;clear hop hcl;go_wp2
      go_meet
      case rel=>exact ⟨j,rfl,HN,rfl⟩
     rw [if_pos ⟨h92,hop,hcl⟩] at hst;have HN:Aside0 (i≤j+1∧j+1≤l.length∧skp (l.drop i) i=skp (l.drop (j+1)) (j+1)):=⟨by have:=HK2.out.1;omega,hjl,hst⟩;have f3:(x != 123)=true:=bne_iff_ne.mpr hop;have f4:(x != 125)=true:=bne_iff_ne.mpr hcl;have f5:decide (x=123)=false:=decide_eq_false hop;have f6:decide (x=125)=false:=decide_eq_false hcl;clear hst hop hcl;go_wp2
     go_roundg (l.length - (j+1))
     case measure=>omega
     case rel=>exact ⟨j+1,by go_num,HN,rfl,rfl⟩
   case rest =>
    obtain ⟨j,rfl,HK2,rfl⟩:=hcut;have hj:=HK2.out.2.1;have hij:=HK2.out.1;have hst:=HJ.out.2.1;rw [sKl,HK2.out.2.2.1] at hst;by_cases hjl:j<l.length
    rotate_left
    ·rw [if_pos (by omega)] at hst;have HS:=mk0 (Option.some.inj hst);have s1:decide ((l.length:Int)≤(j:Int))=true:=decide_eq_true (by omega);clear hst;go_wp2
     go_ret
     exact zl21
    rw [if_neg (by omega)] at hst;have s1:decide ((l.length:Int)≤(j:Int))=false:=decide_eq_false (by omega);have s2:(0≤(j:Int))=True:=eq_true (by omega);have s3:((j:Int)<(l.length:Int))=True:=eq_true (by omega);have hcx:=HIR.out.cell j hjl;have hns:=HK2.out.2.2.2 hjl;have hb1:=HJ.out.2.2.1;have hb2:=HJ.out.2.2.2.1;have hb3:=HJ.out.2.2.2.2.1;have hb4:=HJ.out.2.2.2.2.2;have hc0:=keep_cell HF.out.1.keep (a:=⟨gc,0,none⟩) (by show gc≠gs;have:=HGC.out;omega) HCF.out.1;have hc1:=keep_cell HF.out.1.keep (a:=⟨gc,1,none⟩) (by show gc≠gs;have:=HGC.out;omega) HCF.out.2.1;have hc2:=keep_cell HF.out.1.keep (a:=⟨gc,2,none⟩) (by show gc≠gs;have:=HGC.out;omega) HCF.out.2.2.1;rw [sStep] at hst;obtain ⟨x,hx⟩:∃ x,x=l.getD j 0:=⟨_,rfl⟩;rw [← hx] at hcx hst hns;have HX:=mk0 hx;clear hx;by_cases hstr:x=34∨(x=39∧a0=true)
    ·rw [if_pos hstr] at hst;obtain ⟨o1,hcut,hI1,hcc⟩:=j4a HIR.out c (j+1) (by omega) HC.out.1;rw [List.length_drop] at hcut hcc
     push_cast at hcut
     have hq:x=34∨x=39:=by omega
     have rng:=j4m x (l.drop (j+1)) 0 false false;rw [List.length_drop] at rng;have HSE:=mk0 (fun (W:World) (hb:Below wc.heap.size wc W)=>se_c a0 a1 a2 b o1 (l.length - (j+1)) (c - (j+1)) (l.drop (j+1)) x W (hI1.below hb) List.length_drop hcc hq)
     generalize strE x (l.drop (j+1)) 0 false false=se at hst rng HSE
     have HST:=mk0 hst;have RNG:=mk0 rng;have hwr:IntKind.i64.wrap ((j:Int)+1)=(j:Int)+1:=IntWalk.i64_in _ (by omega);clear hst rng hq hcc hI1 hns;have HD:=mk0 (j1l (Below.refl wc.heap.size wc));rcases hstr with h|⟨_,h⟩
     ·as_aux_lemma =>
       rw [h] at hcx HSE;clear h;go_wp2_with fail
       refine j4g (n:=11) (S:=fun w'=>w'.cell? ⟨gc,0,none⟩=some (.bool a0)∧w'.cell? ⟨gc,1,none⟩=some (.bool a1)∧w'.cell? ⟨gc,2,none⟩=some (.int .i64 a2)∧w'.cell? ⟨gc+1,0,none⟩=some (.slice (some ⟨b,o,none⟩) l.length c)) (ds:=[5]) #[false,false,false,false,false,false,false,false,false,false,false] zq14 rfl rfl ⟨hc0,hc1,hc2,hdd⟩ (fun hHeld=>?_)
       generalize wc.drew=w4 at HD hHeld ⊢
       refine pure_ (i:=2) (N:=some 94) (v:=?_) (a':=?_) #[false,false,true,false,false,false,false,false,false,false,false] rfl rfl zq14 (fun _ _ _ h=>h) (Or.inl ⟨by rfl,?_⟩) ?_ ?_;rotate_left
       ·intro w';go_simp
        exact zl4
       rotate_left
       ·exact zl0
       refine pure_ (i:=4) (N:=some 96) (v:=?_) (a':=?_) #[false,false,true,false,true,false,false,false,false,false,false] rfl rfl zq14 (fun _ _ _ h=>h) (Or.inl ⟨by rfl,?_⟩) ?_ ?_;rotate_left
       ·intro w';go_simp
        exact zl4
       rotate_left
       ·exact zl0
       refine take_ (i:=0) (N:=some 92) (v:=?_) (a':=?_) #[true,false,true,false,true,false,false,false,false,false,false] rfl rfl zq14 (fun _ _ _ h=>h) (Or.inl ⟨by rfl,?_⟩) hHeld ?_ ?_;rotate_left
       ·rintro w' ⟨s0,s1,s2,s3⟩;go_simp
        exact zl4
       rotate_left
       ·exact zl0
       refine take_ (i:=1) (N:=some 93) (v:=?_) (a':=?_) #[true,true,true,false,true,false,false,false,false,false,false] rfl rfl zq14 (fun _ _ _ h=>h) (Or.inl ⟨by rfl,?_⟩) hHeld ?_ ?_;rotate_left
       ·rintro w' ⟨s0,s1,s2,s3⟩;go_simp
        exact zl4
       rotate_left
       ·exact zl0
       refine pure_ (i:=3) (N:=some 95) (v:=?_) (a':=?_) #[true,true,true,true,true,false,false,false,false,false,false] rfl rfl zq14 (fun _ _ _ h=>h) (Or.inl ⟨by rfl,?_⟩) ?_ ?_;rotate_left
       ·intro w';go_simp
        exact zl4
       rotate_left
       ·exact zl0
       refine last_ (i:=5) (N:=some 97) #[true,true,true,true,true,true,false,false,false,false,false] rfl rfl zq14 zq47 (fun K hK=>?_);refine goes_ Tryd.func60 zq14 rfl #[.agg #[.bool a0, .bool a1, .int .i64 a2], .slice (some ⟨b,o1,none⟩) (l.length - (j+1)) (c - (j+1)), .int .u8 _] (by rfl) rfl rfl zq27 ?_
       with_reducible refine (HSE.out _ HD.out).mono ?_
       rintro e_ w5 ⟨rfl,hb⟩;refine ⟨_,rfl,?_⟩;have HB5:=mk0 (j1p HD.out hb);have HF5:=mk0 (And.intro (HF.out.1.carry HB5.out) HF.out.2);clear hb;refine hK.out _ _ ?_;clear hK K;refine norm_ (a':=?_) ?_ ?_;rotate_left
       ·show Act.put _ (some 97) _=_
        exact zl0
       refine pure_ (i:=6) (N:=some 91) (v:=?_) (a':=?_) #[true,true,true,true,true,true,true,false,false,false,false] rfl rfl zq14 (fun _ _ _ h=>h) (Or.inl ⟨by rfl,?_⟩) ?_ ?_;rotate_left
       ·intro w';go_simp
        exact zl4
       rotate_left
       ·exact zl0
       refine pure_ (i:=7) (N:=some 98) (v:=?_) (a':=?_) #[true,true,true,true,true,true,true,true,false,false,false] rfl rfl zq14 (fun _ _ _ h=>h) (Or.inl ⟨by rfl,?_⟩) ?_ ?_;rotate_left
       ·intro w';go_simp
        exact zl4
       rotate_left
       ·exact zl0
       refine pure_ (i:=8) (N:=some 99) (v:=?_) (a':=?_) #[true,true,true,true,true,true,true,true,true,false,false] rfl rfl zq14 (fun _ _ _ h=>h) (Or.inl ⟨by rfl,?_⟩) ?_ ?_;rotate_left
       ·intro w';go_simp
        exact zl4
       rotate_left
       ·exact zl0
       refine pure_ (i:=9) (N:=some 17) (v:=?_) (a':=?_) #[true,true,true,true,true,true,true,true,true,true,false] rfl rfl zq14 (fun _ _ _ h=>h) (Or.inl ⟨by rfl,?_⟩) ?_ ?_;rotate_left
       ·intro w';go_simp
        exact zl4
       rotate_left
       ·exact zl0
       refine pure_ (i:=10) (N:=some 18) (v:=?_) (a':=?_) #[true,true,true,true,true,true,true,true,true,true,true] rfl rfl zq14 (fun _ _ _ h=>h) (Or.inl ⟨by rfl,?_⟩) ?_ ?_;rotate_left
       ·intro w';go_simp
        exact zl4
       rotate_left
       ·exact zl0
       refine done_ zq14 ?_;clear hwr;rcases RNG.out with h1|⟨m,h1,h2,h3⟩
       ·have hst:=HST.out;rw [sStr,h1,if_pos zq47] at hst;have HS:Aside0 (-1=R):=⟨Option.some.inj hst⟩;rw [h1];clear hst h1;go_wp2
        go_ret
        exact zl18
       ·have hst:=HST.out;rw [sStr,h1,if_neg (by omega),Int.toNat_natCast] at hst;obtain ⟨o2,hcut2,hI2,hcc2⟩:=j4a HIR.out c (j+1+m) (by omega) HC.out.1;rw [List.length_drop] at hcut2 hcc2
        push_cast at hcut2
        have rng2:=j3w (l.drop (j+1+m)) 0;rw [List.length_drop] at rng2;have HNT:=mk0 (fun (W:World) (hb:Below wc.heap.size wc W)=>nt_calls a0 a1 a2 b o2 (l.length - (j+1+m)) (c - (j+1+m)) (l.drop (j+1+m)) W (hI2.below hb) List.length_drop)
        generalize nT (l.drop (j+1+m)) 0=t0 at hst rng2 HNT
        have HST2:=mk0 hst;have RNG2:=mk0 rng2;have f1:((m:Int) == -1)=false:=beq_eq_false_iff_ne.mpr (by omega);have f2:decide ((m:Int) = -1)=false:=decide_eq_false (by omega);have hmb:m≤2147483647:=by omega
        have hx0:=(j2r HB5.out (World.block_lt_of_cell? _ _ hc0)).trans hc0;have hx1:=(j2r HB5.out (World.block_lt_of_cell? _ _ hc1)).trans hc1;have hx2:=(j2r HB5.out (World.block_lt_of_cell? _ _ hc2)).trans hc2;have hxd:=(j2r HB5.out (World.block_lt_of_cell? _ _ hdd)).trans hdd;have HD6:=mk0 (j1l (Below.refl w5.heap.size w5));rw [h1];clear h1 hst rng2 hI2 hcc2 hcut;go_wp2_with fail
        refine j4g (n:=6) (S:=fun w'=>w'.cell? ⟨gc,0,none⟩=some (.bool a0)∧w'.cell? ⟨gc,1,none⟩=some (.bool a1)∧w'.cell? ⟨gc,2,none⟩=some (.int .i64 a2)∧w'.cell? ⟨gc+1,0,none⟩=some (.slice (some ⟨b,o,none⟩) l.length c)) (ds:=[4]) #[false,false,false,false,false,false] zq14 rfl rfl ⟨hx0,hx1,hx2,hxd⟩ (fun hHeld=>?_)
        generalize w5.drew=w6 at HD6 hHeld ⊢
        refine pure_ (i:=2) (N:=some 109) (v:=?_) (a':=?_) #[false,false,true,false,false,false] rfl rfl zq14 (fun _ _ _ h=>h) (Or.inl ⟨by rfl,?_⟩) ?_ ?_;rotate_left
        ·intro w';go_simp
         exact zl4
        rotate_left
        ·exact zl0
        refine take_ (i:=0) (N:=some 107) (v:=?_) (a':=?_) #[true,false,true,false,false,false] rfl rfl zq14 (fun _ _ _ h=>h) (Or.inl ⟨by rfl,?_⟩) hHeld ?_ ?_;rotate_left
        ·rintro w' ⟨s0,s1,s2,s3⟩;go_simp
         exact zl4
        rotate_left
        ·exact zl0
        refine take_ (i:=1) (N:=some 108) (v:=?_) (a':=?_) #[true,true,true,false,false,false] rfl rfl zq14 (fun _ _ _ h=>h) (Or.inl ⟨by rfl,?_⟩) hHeld ?_ ?_;rotate_left
        ·rintro w' ⟨s0,s1,s2,s3⟩;go_simp
         exact zl4
        rotate_left
        ·exact zl0
        refine pure_ (i:=3) (N:=some 110) (v:=?_) (a':=?_) #[true,true,true,true,false,false] rfl rfl zq14 (fun _ _ _ h=>h) (Or.inl ⟨by rfl,?_⟩) ?_ ?_;rotate_left
        ·intro w';go_simp
         exact zl4
        rotate_left
        ·exact zl0
        refine last_ (i:=4) (N:=some 111) #[true,true,true,true,true,false] rfl rfl zq14 zq47 (fun K hK=>?_);refine goes_ Tryd.func59 zq14 rfl #[.agg #[.bool a0, .bool a1, .int .i64 a2], .slice (some ⟨b,o2,none⟩) (l.length - (j+1+m)) (c - (j+1+m))] (by rfl) rfl rfl zq27 ?_
        with_reducible refine (HNT.out _ (j1p HB5.out HD6.out)).mono ?_
        rintro e_ w7 ⟨rfl,hb⟩;refine ⟨_,rfl,?_⟩;have HB7:=mk0 (j1p HB5.out (j1p HD6.out hb));have HF7:=mk0 (And.intro (HF.out.1.carry HB7.out) HF.out.2);clear hb hx0 hx1 hx2 hxd;refine hK.out _ _ ?_;clear hK K;refine norm_ (a':=?_) ?_ ?_;rotate_left
        ·show Act.put _ (some 111) _=_
         exact zl0
        refine pure_ (i:=5) (N:=some 20) (v:=?_) (a':=?_) #[true,true,true,true,true,true] rfl rfl zq14 (fun _ _ _ h=>h) (Or.inl ⟨by rfl,?_⟩) ?_ ?_;rotate_left
        ·intro w';go_simp
         exact zl4
        rotate_left
        ·exact zl0
        refine done_ zq14 ?_;clear hHeld hcut2;have hz0:=(j2r HB7.out (World.block_lt_of_cell? _ _ hc0)).trans hc0;have hz1:=(j2r HB7.out (World.block_lt_of_cell? _ _ hc1)).trans hc1;have hz2:=(j2r HB7.out (World.block_lt_of_cell? _ _ hc2)).trans hc2;have hzd:=(j2r HB7.out (World.block_lt_of_cell? _ _ hdd)).trans hdd;clear hc0 hc1 hc2 hdd hcx;rcases RNG2.out with h1|⟨t,h1,h5,h6⟩
        ·have hst:=HST2.out;rw [h1,if_pos zq47] at hst;have HS:Aside0 (-1=R):=⟨Option.some.inj hst⟩;rw [h1];clear hst h1;go_wp2
         go_ret
         exact ⟨by rw [← HS.out];rfl,j1p HB1.out HF7.out.1.below⟩
        have hst:=HST2.out;rw [h1,if_neg (by omega),Int.toNat_natCast] at hst;have htl:j+1+m+t<l.length:=by omega
        have hcy:=(HIR.out.below HB7.out).cell (j+1+m+t) htl;obtain ⟨y,hy⟩:∃ y,y=l.getD (j+1+m+t) 0:=⟨_,rfl⟩;rw [← hy] at hst hcy;clear hy;have g1:((t:Int) == -1)=false:=beq_eq_false_iff_ne.mpr (by omega);have g2:decide ((t:Int) = -1)=false:=decide_eq_false (by omega);have htb:t≤2147483647:=by omega
        rw [h1];clear h1;by_cases h58:y=58
        rotate_left
        ·rw [if_neg h58] at hst;replace hst:sKl a0 un kr ks l kl lv (j+1+m+t) lm=some R:=hst;have p58:(y == 58)=false:=beq_eq_false_iff_ne.mpr h58;have q58:decide (y=58)=false:=decide_eq_false h58;clear h58
         as_aux_lemma =>
          have HN:Aside0 (j+1+m+t≤l.length∧sKl a0 un kr ks l (kl) (lv) (j+1+m+t) lm=some R ∧ -((j+1+m+t:Nat):Int)≤lv∧lv≤((j+1+m+t:Nat):Int) ∧ -((j+1+m+t:Nat):Int) - 1≤kl∧(kl:Int)<(ks.length:Int)):=⟨by omega,hst,by omega,by omega,by omega,by omega⟩;clear hst;go_wp2
          go_roundg kr
          case measure=>omega
          case rel=>exact ⟨j+1+m+t,kl,lv,lm,L,zq45,zq45,zq50,rfl,HN,HF7⟩
        subst h58;rw [if_pos rfl] at hst;by_cases hlv:lv<1
        ·rw [if_pos hlv] at hst;have HS:Aside0 (-1=R):=⟨Option.some.inj hst⟩;have p1:decide (lv<1)=true:=decide_eq_true hlv;clear hst
         as_aux_lemma =>
          go_wp2
          go_ret
          exact ⟨by rw [← HS.out];rfl,j1p HB1.out HF7.out.1.below⟩
        rw [if_neg hlv] at hst;have p1:decide (lv<1)=false:=decide_eq_false hlv;obtain ⟨o3,hcut3,hI3,hcc3⟩:=cut_mid HIR.out c (j+1) (j+1+(m - 1)) (by omega) (by omega) HC.out.1;rw [show j+1+(m - 1) - (j+1)=m - 1 by omega] at hcut3 hI3 hcc3;rw [show ((j+1:Nat):Int)=(j:Int)+1 by omega,show ((j+1+(m - 1):Nat):Int)=(j:Int)+1+(m:Int) - 1 by omega] at hcut3;obtain ⟨kx,hkx⟩:∃ kx,kx=(l.drop (j+1)).take (m - 1):=⟨_,rfl⟩;rw [← hkx] at hst hI3;have hkxl:kx.length=m - 1:=by rw [hkx,List.length_take,List.length_drop];omega
        have HKL:=mk0 hkxl;have HI3:=mk0 hI3;have HCC3:=mk0 (And.intro hcc3 (show c - (j+1)≤9223372036854775807 by have:=HC.out;omega));clear hkx hI3 hcc3 hkxl;go_upto_region 39 with (fail)
        obtain ⟨w8,hw8⟩:∃ w8,w8=w7.alloc (.cells #[.slice none 0 0] 55):=⟨_,rfl⟩;have hB8:Below w7.heap.size w7 w8:=by rw [hw8];exact j1g (Below.refl _ _) _
        have hbx:w8.heap[w7.heap.size]? = some (.cells #[.slice none 0 0] 55 (0,0)):=by rw [hw8];exact j4l _ _
        have hgg:gs<w7.heap.size:=j3p HF7.out.1.blk;rw [← hw8];clear hw8;obtain ⟨gb,hgb⟩:∃ gb,gb=w7.heap.size:=⟨_,rfl⟩;rw [← hgb] at hB8 hbx hgg ⊢;have HGB:=mk0 (And.intro hgb hgg);have HB8:=mk0 hB8;have HBX:=mk0 hbx;have hcb:=cell_of_one hbx;have hfb:=free_of_one hbx;clear hgb hgg hB8 hbx;obtain ⟨es,hes⟩:∃ es,es=se.snd:=⟨_,rfl⟩;rw [← hes] at hst ⊢;clear hes;cases es with
        | false=>as_aux_lemma =>
         rw [if_pos rfl] at hst;replace hst:(sKey ks kl lv (j+1+m+t) (some kx)).bind _=some R:=hst;have HST3:=mk0 hst;clear hst;go_upto_region 45 with (fail)
         obtain ⟨w9,hw9⟩:∃ w9,w9=w8.setCell ⟨gb,0,none⟩ (.slice (some ⟨b,o3,none⟩) (m - 1) (c - (j+1))):=⟨_,rfl⟩;have hB9:Below gb w7 w9:=by rw [hw9];exact HB8.out.setCell (by show gb≤gb;omega) _
         have CB:Aside0 (w9.cell? ⟨gb,0,none⟩=some (.slice (some ⟨b,o3,none⟩) (m - 1) (c - (j+1)))):=⟨by rw [hw9];exact cell_of_one (one_setCell HBX.out)⟩;rw [← hw9];clear hw9 hcb hfb hz0 hz1 hz2 hzd
         have hB9':Below w7.heap.size w7 w9:=by
          have:=hB9;rw [HGB.out.1] at this;exact this
         have HF9:=mk0 (And.intro (HF7.out.1.carry hB9') HF7.out.2)
         have HCK:Aside0 (Kd.C (Kd.int .u8) w9 (some ⟨b,o3,none⟩) (m - 1) kx):=⟨by
          have:=(HI3.out.below (j1p HB7.out hB9')).C;rw [HKL.out] at this;exact this⟩
         have hst:=HST3.out;clear hB9 hB9' HST3;rw [sKey] at hst;by_cases hlk:lv≤(ks.length:Int)
         rotate_left
         ·rw [if_neg hlk] at hst;have pl:decide (lv≤(ks.length:Int))=false:=decide_eq_false hlk;have HS:Aside0 (-1=R):=⟨Option.some.inj hst⟩;clear hst;go_wp2
          go_ret
          exact ⟨by rw [← HS.out];rfl,j1p HB1.out HF9.out.1.below⟩
         rw [if_pos hlk] at hst;have pl:decide (lv≤(ks.length:Int))=true:=decide_eq_true hlk;obtain ⟨u,rfl⟩:∃ u:Nat,lv=(u:Int)+1:=⟨lv.toNat - 1,by omega⟩;have hul:u<ks.length:=by omega
         rw [show ((u:Int)+1).toNat - 1=u by omega] at hst;have hkc:=(HK.out.1.below (j1p HB1.out HF9.out.1.below)).cell u hul;have q1:(0≤(u:Int))=True:=eq_true (by omega);have q2:((u:Int)<(ks.length:Int))=True:=eq_true (by omega);obtain ⟨s,hs⟩:∃ s,s=ks.getD u default:=⟨_,rfl⟩;rw [← hs] at hst hkc;clear hs;have HEQ:=mk0 (eq_calls gb _ _ _ kx s w9 CB.out HCK.out HKL.out);by_cases he:strOfNums kx=s
         rotate_left
         ·rw [if_neg he] at hst;rw [decide_eq_false he] at HEQ;clear he;replace hst:sKl a0 un kr ks l kl ((u:Int)+1) (j+1+m+t+1) false=some R:=hst
          as_aux_lemma =>
           have HN:Aside0 (j+1+m+t+1≤l.length∧sKl a0 un kr ks l (kl) ((u:Int)+1) (j+1+m+t+1) false=some R ∧ -((j+1+m+t+1:Nat):Int)≤(u:Int)+1∧(u:Int)+1≤((j+1+m+t+1:Nat):Int) ∧ -((j+1+m+t+1:Nat):Int) - 1≤kl∧(kl:Int)<(ks.length:Int)):=⟨by omega,hst,by omega,by omega,by omega,by omega⟩;clear hst;go_wp2_with (go_at_call 76;(with_reducible refine HEQ.out.mono ?_);rintro e_ w_ ⟨rfl,rfl⟩)
           go_roundg kr
           case measure=>omega
           case rel=>exact ⟨j+1+m+t+1,kl,(u:Int)+1,false,L,zq45,zq45,zq50,rfl,HN,HF9⟩
         rw [if_pos he] at hst;rw [decide_eq_true he] at HEQ;clear he;by_cases hku:kl=(u:Int)+1 - 1
         rotate_left
         ·rw [if_neg hku] at hst;replace hst:sKl a0 un kr ks l kl ((u:Int)+1) (j+1+m+t+1) true=some R:=hst;have r1:(kl == (u:Int))=false:=beq_eq_false_iff_ne.mpr (by omega);have r2:decide (kl=(u:Int))=false:=decide_eq_false (by omega);clear hku
          as_aux_lemma =>
           have HN:Aside0 (j+1+m+t+1≤l.length∧sKl a0 un kr ks l (kl) ((u:Int)+1) (j+1+m+t+1) true=some R ∧ -((j+1+m+t+1:Nat):Int)≤(u:Int)+1∧(u:Int)+1≤((j+1+m+t+1:Nat):Int) ∧ -((j+1+m+t+1:Nat):Int) - 1≤kl∧(kl:Int)<(ks.length:Int)):=⟨by omega,hst,by omega,by omega,by omega,by omega⟩;clear hst;go_wp2_with (go_at_call 76;(with_reducible refine HEQ.out.mono ?_);rintro e_ w_ ⟨rfl,rfl⟩)
           go_roundg kr
           case measure=>omega
           case rel=>exact ⟨j+1+m+t+1,kl,(u:Int)+1,true,L,zq45,zq45,zq50,rfl,HN,HF9⟩
         rw [if_pos hku] at hst;have r1:(kl == (u:Int))=true:=beq_iff_eq.mpr (by omega);have r2:decide (kl=(u:Int))=true:=decide_eq_true (by omega);by_cases hkk:kl+1=(ks.length:Int)
         ·rw [if_pos hkk] at hst;have HS:Aside0 (((j+1+m+t+1:Nat):Int)=R):=⟨Option.some.inj hst⟩;have r3:(kl+1 == (ks.length:Int))=true:=beq_iff_eq.mpr hkk;have r4:decide (kl+1=(ks.length:Int))=true:=decide_eq_true hkk;clear hst hku hkk;go_wp2_with (go_at_call 76;(with_reducible refine HEQ.out.mono ?_);rintro e_ w_ ⟨rfl,rfl⟩)
          go_ret
          exact ⟨by rw [← HS.out];first|rfl|(congr 2;omega)|(congr 1;congr 1;omega),j1p HB1.out HF9.out.1.below⟩
         rw [if_neg hkk] at hst;replace hst:sKl a0 un kr ks l (kl+1) ((u:Int)+1) (j+1+m+t+1) true=some R:=hst;have r3:(kl+1 == (ks.length:Int))=false:=beq_eq_false_iff_ne.mpr hkk;have r4:decide (kl+1=(ks.length:Int))=false:=decide_eq_false hkk
         as_aux_lemma =>
          have HN:Aside0 (j+1+m+t+1≤l.length∧sKl a0 un kr ks l (kl+1) ((u:Int)+1) (j+1+m+t+1) true=some R ∧ -((j+1+m+t+1:Nat):Int)≤(u:Int)+1∧(u:Int)+1≤((j+1+m+t+1:Nat):Int) ∧ -((j+1+m+t+1:Nat):Int) - 1≤kl+1∧(kl+1:Int)<(ks.length:Int)):=⟨by omega,hst,by omega,by omega,by omega,by omega⟩;clear hst;go_wp2_with (go_at_call 76;(with_reducible refine HEQ.out.mono ?_);rintro e_ w_ ⟨rfl,rfl⟩)
          go_roundg kr
          case measure=>omega
          case rel=>exact ⟨j+1+m+t+1,kl+1,(u:Int)+1,true,L,zq45,zq45,zq50,rfl,HN,HF9⟩
        | true=>as_aux_lemma =>
         rw [if_neg zq47] at hst;rw [Option.bind_assoc] at hst;obtain ⟨res,hres,hst⟩:=Option.bind_eq_some_iff.mp hst;replace hst:(sKey ks kl lv (j+1+m+t) res).bind _=some R:=hst;have HST3:=mk0 hst
         have hB8':Below w7.heap.size w7 w8:=by
          have:=HB8.out;rw [HGB.out.1] at this;exact this
         have HB8P:=mk0 hB8'
         have HUNX:Aside0 (∀ W:World,Below w8.heap.size w8 W→Calls Tryd.prog 61 #[.agg #[.bool a0, .bool a1, .int .i64 a2], .slice (some ⟨b,o3,none⟩) (m - 1) (c - (j+1)), .slice (some ⟨gs,0,none⟩) 64 64] W fun e w'=>UP2 W w1 gs 106 64 res e w'):=⟨fun W hb=>by
          have k:=HF7.out.1.carry (j1p HB8P.out hb);have:=HUN.out kx res b o3 (c - (j+1)) gs 106 L w1 W (HT.out.below HB1.out) k.below (HI3.out.back HF.out.1.below (HI.out.below HB1.out).lt) (by rw [HKL.out];exact HCC3.out.1) HCC3.out.2 ⟨k.blk,k.at_,k.below,KeepBut.refl _ _ _⟩ HF.out.2 hres;rw [HKL.out] at this;exact this⟩
         have hy0:=(j2r HB8P.out (World.block_lt_of_cell? _ _ hz0)).trans hz0;have hy1:=(j2r HB8P.out (World.block_lt_of_cell? _ _ hz1)).trans hz1;have hy2:=(j2r HB8P.out (World.block_lt_of_cell? _ _ hz2)).trans hz2;have HD8:=mk0 (j1l (Below.refl w8.heap.size w8));clear hst hres hB8' hcb hfb hz0 hz1 hz2 hzd;cases res with
         | none =>
          go_wp2_with fail
          refine j4g (n:=9) (S:=fun w'=>w'.cell? ⟨gc,0,none⟩=some (.bool a0)∧w'.cell? ⟨gc,1,none⟩=some (.bool a1)∧w'.cell? ⟨gc,2,none⟩=some (.int .i64 a2)) (ds:=[3]) #[false,false,false,false,false,false,false,false,false] zq14 rfl rfl ⟨hy0,hy1,hy2⟩ (fun hHeld=>?_)
          generalize w8.drew=w9 at HD8 hHeld ⊢
          refine pure_ (i:=1) (N:=some 133) (v:=?_) (a':=?_) #[false,true,false,false,false,false,false,false,false] rfl rfl zq14 (fun _ _ _ h=>h) (Or.inl ⟨by rfl,?_⟩) ?_ ?_;rotate_left
          ·intro w';go_simp
           exact zl4
          rotate_left
          ·exact zl0
          refine pure_ (i:=2) (N:=some 134) (v:=?_) (a':=?_) #[false,true,true,false,false,false,false,false,false] rfl rfl zq14 (fun _ _ _ h=>h) (Or.inl ⟨by rfl,?_⟩) ?_ ?_;rotate_left
          ·intro w';go_simp
           exact zl4
          rotate_left
          ·exact zl0
          refine take_ (i:=0) (N:=some 132) (v:=?_) (a':=?_) #[true,true,true,false,false,false,false,false,false] rfl rfl zq14 (fun _ _ _ h=>h) (Or.inl ⟨by rfl,?_⟩) hHeld ?_ ?_;rotate_left
          ·rintro w' ⟨s0,s1,s2⟩;go_simp
           exact zl4
          rotate_left
          ·exact zl0
          refine last_ (i:=3) (N:=some 135) #[true,true,true,true,false,false,false,false,false] rfl rfl zq14 zq47 (fun K hK=>?_);refine goes_ Tryd.func61 zq14 rfl #[.agg #[.bool a0, .bool a1, .int .i64 a2], .slice (some ⟨b,o3,none⟩) (m - 1) (c - (j+1)), .slice (some ⟨gs,0,none⟩) 64 64] (by rfl) rfl rfl zq27 ?_
          with_reducible refine (HUNX.out _ HD8.out).mono ?_
          rintro e_ w10 ⟨⟨hb,te,pe,rfl,hesc⟩,L2,hL2,hbf⟩;refine ⟨_,rfl,?_⟩;have HB10:=mk0 hb;clear hb hesc hL2 hbf hy0 hy1 hy2;refine hK.out _ _ ?_;clear hK K;refine norm_ (a':=?_) ?_ ?_;rotate_left
          ·show Act.put _ (some 135) _=_
           exact zl0
          refine pure_ (i:=4) (N:=some 131) (v:=?_) (a':=?_) #[true,true,true,true,true,false,false,false,false] rfl rfl zq14 (fun _ _ _ h=>h) (Or.inl ⟨by rfl,?_⟩) ?_ ?_;rotate_left
          ·intro w';go_simp
           exact zl4
          rotate_left
          ·exact zl0
          refine pure_ (i:=5) (N:=some 136) (v:=?_) (a':=?_) #[true,true,true,true,true,true,false,false,false] rfl rfl zq14 (fun _ _ _ h=>h) (Or.inl ⟨by rfl,?_⟩) ?_ ?_;rotate_left
          ·intro w';go_simp
           exact zl4
          rotate_left
          ·exact zl0
          refine pure_ (i:=6) (N:=some 137) (v:=?_) (a':=?_) #[true,true,true,true,true,true,true,false,false] rfl rfl zq14 (fun _ _ _ h=>h) (Or.inl ⟨by rfl,?_⟩) ?_ ?_;rotate_left
          ·intro w';go_simp
           exact zl4
          rotate_left
          ·exact zl0
          refine pure_ (i:=7) (N:=some 23) (v:=?_) (a':=?_) #[true,true,true,true,true,true,true,true,false] rfl rfl zq14 (fun _ _ _ h=>h) (Or.inl ⟨by rfl,?_⟩) ?_ ?_;rotate_left
          ·intro w';go_simp
           exact zl4
          rotate_left
          ·exact zl0
          refine pure_ (i:=8) (N:=some 24) (v:=?_) (a':=?_) #[true,true,true,true,true,true,true,true,true] rfl rfl zq14 (fun _ _ _ h=>h) (Or.inl ⟨by rfl,?_⟩) ?_ ?_;rotate_left
          ·intro w';go_simp
           exact zl4
          rotate_left
          ·exact zl0
          refine done_ zq14 ?_;have hst:=HST3.out;have HS:Aside0 (-1=R):=⟨Option.some.inj hst⟩;clear hst;go_wp2
          go_ret
          exact ⟨by rw [← HS.out];rfl,j1p HB1.out HB10.out⟩
         | some v =>
          go_wp2_with fail
          refine j4g (n:=9) (S:=fun w'=>w'.cell? ⟨gc,0,none⟩=some (.bool a0)∧w'.cell? ⟨gc,1,none⟩=some (.bool a1)∧w'.cell? ⟨gc,2,none⟩=some (.int .i64 a2)) (ds:=[3]) #[false,false,false,false,false,false,false,false,false] zq14 rfl rfl ⟨hy0,hy1,hy2⟩ (fun hHeld=>?_)
          generalize w8.drew=w9 at HD8 hHeld ⊢
          refine pure_ (i:=1) (N:=some 133) (v:=?_) (a':=?_) #[false,true,false,false,false,false,false,false,false] rfl rfl zq14 (fun _ _ _ h=>h) (Or.inl ⟨by rfl,?_⟩) ?_ ?_;rotate_left
          ·intro w';go_simp
           exact zl4
          rotate_left
          ·exact zl0
          refine pure_ (i:=2) (N:=some 134) (v:=?_) (a':=?_) #[false,true,true,false,false,false,false,false,false] rfl rfl zq14 (fun _ _ _ h=>h) (Or.inl ⟨by rfl,?_⟩) ?_ ?_;rotate_left
          ·intro w';go_simp
           exact zl4
          rotate_left
          ·exact zl0
          refine take_ (i:=0) (N:=some 132) (v:=?_) (a':=?_) #[true,true,true,false,false,false,false,false,false] rfl rfl zq14 (fun _ _ _ h=>h) (Or.inl ⟨by rfl,?_⟩) hHeld ?_ ?_;rotate_left
          ·rintro w' ⟨s0,s1,s2⟩;go_simp
           exact zl4
          rotate_left
          ·exact zl0
          refine last_ (i:=3) (N:=some 135) #[true,true,true,true,false,false,false,false,false] rfl rfl zq14 zq47 (fun K hK=>?_);refine goes_ Tryd.func61 zq14 rfl #[.agg #[.bool a0, .bool a1, .int .i64 a2], .slice (some ⟨b,o3,none⟩) (m - 1) (c - (j+1)), .slice (some ⟨gs,0,none⟩) 64 64] (by rfl) rfl rfl zq27 ?_
          with_reducible refine (HUNX.out _ HD8.out).mono ?_
          rintro e_ w10 ⟨⟨hb,A1,c1,rfl,hc1,hC1⟩,L2,hL2,hbf⟩;refine ⟨_,rfl,?_⟩;have HBF:=mk0 (And.intro hbf hL2);have HC1:=mk0 (And.intro hc1 hC1);clear hb hc1 hC1 hL2 hbf hy0 hy1 hy2;refine hK.out _ _ ?_;clear hK K;refine norm_ (a':=?_) ?_ ?_;rotate_left
          ·show Act.put _ (some 135) _=_
           exact zl0
          refine pure_ (i:=4) (N:=some 131) (v:=?_) (a':=?_) #[true,true,true,true,true,false,false,false,false] rfl rfl zq14 (fun _ _ _ h=>h) (Or.inl ⟨by rfl,?_⟩) ?_ ?_;rotate_left
          ·intro w';go_simp
           exact zl4
          rotate_left
          ·exact zl0
          refine pure_ (i:=5) (N:=some 136) (v:=?_) (a':=?_) #[true,true,true,true,true,true,false,false,false] rfl rfl zq14 (fun _ _ _ h=>h) (Or.inl ⟨by rfl,?_⟩) ?_ ?_;rotate_left
          ·intro w';go_simp
           exact zl4
          rotate_left
          ·exact zl0
          refine pure_ (i:=6) (N:=some 137) (v:=?_) (a':=?_) #[true,true,true,true,true,true,true,false,false] rfl rfl zq14 (fun _ _ _ h=>h) (Or.inl ⟨by rfl,?_⟩) ?_ ?_;rotate_left
          ·intro w';go_simp
           exact zl4
          rotate_left
          ·exact zl0
          refine pure_ (i:=7) (N:=some 23) (v:=?_) (a':=?_) #[true,true,true,true,true,true,true,true,false] rfl rfl zq14 (fun _ _ _ h=>h) (Or.inl ⟨by rfl,?_⟩) ?_ ?_;rotate_left
          ·intro w';go_simp
           exact zl4
          rotate_left
          ·exact zl0
          refine pure_ (i:=8) (N:=some 24) (v:=?_) (a':=?_) #[true,true,true,true,true,true,true,true,true] rfl rfl zq14 (fun _ _ _ h=>h) (Or.inl ⟨by rfl,?_⟩) ?_ ?_;rotate_left
          ·intro w';go_simp
           exact zl4
          rotate_left
          ·exact zl0
          refine done_ zq14 ?_;have hgb1:=HGB.out;have hbx9:w9.heap[gb]? = some (.cells #[.slice none 0 0] 55 (0,0)):=(HD8.out.block _ (j3p HBX.out)).trans HBX.out;have hbx10:w10.heap[gb]? = some (.cells #[.slice none 0 0] 55 (0,0)):=(HBF.out.1.keep.2 gb (j3p hbx9) (by omega) (by simp)).trans hbx9;have hF9:=HF7.out.1.carry (j1p HB8P.out HD8.out);have HF10:Aside0 (BF w2 w1 w10 gs 106 L2):=⟨⟨HBF.out.1.blk,HBF.out.1.at_,HBF.out.1.below,keep_tr hF9.keep HBF.out.1.keep⟩⟩;have HBX10:=mk0 hbx10;have hcb:=cell_of_one hbx10;have hfb:=free_of_one hbx10;clear hHeld hgb1 hbx9 hbx10 hF9;go_upto_region 45 with (fail)
          obtain ⟨w11,hw11⟩:∃ w11,w11=w10.setCell ⟨gb,0,none⟩ (.slice A1 v.length c1):=⟨_,rfl⟩;have CB:Aside0 (w11.cell? ⟨gb,0,none⟩=some (.slice A1 v.length c1)):=⟨by rw [hw11];exact cell_of_one (one_setCell HBX10.out)⟩;have HCK:Aside0 (Kd.C (Kd.int .u8) w11 A1 v.length v):=⟨by rw [hw11];exact C_set HC1.out.2 HBX10.out⟩
          have HF11:Aside0 (BF w2 w1 w11 gs 106 L2∧L2.length=64):=⟨by
           have h1:=HGB.out;have h2:=HF7.out.1.keep.1;have h3:=HF10.out;have h4:=HF10.out.at_;rw [hw11];exact ⟨⟨(Below.heap_setCell _ _ _ _ (by show gs≠gb;omega)).trans h3.blk,h3.at_,h3.below.setCell (by show w1.heap.size≤gb;omega) _,⟨by rw [World.size_setCell];exact h3.keep.1,fun i hi hg hr=>(Below.heap_setCell _ _ _ _ (by show i≠gb;omega)).trans (h3.keep.2 i hi hg hr)⟩⟩,HBF.out.2⟩⟩
          rw [← hw11];clear hw11 hcb hfb;have hst:=HST3.out;clear HST3;rw [sKey] at hst;by_cases hlk:lv≤(ks.length:Int)
          rotate_left
          ·rw [if_neg hlk] at hst;have pl:decide (lv≤(ks.length:Int))=false:=decide_eq_false hlk;have HS:Aside0 (-1=R):=⟨Option.some.inj hst⟩;clear hst;go_wp2
           go_ret
           exact ⟨by rw [← HS.out];rfl,j1p HB1.out HF11.out.1.below⟩
          rw [if_pos hlk] at hst;have pl:decide (lv≤(ks.length:Int))=true:=decide_eq_true hlk;obtain ⟨u,rfl⟩:∃ u:Nat,lv=(u:Int)+1:=⟨lv.toNat - 1,by omega⟩;have hul:u<ks.length:=by omega
          rw [show ((u:Int)+1).toNat - 1=u by omega] at hst;have hkc:=(HK.out.1.below (j1p HB1.out HF11.out.1.below)).cell u hul;have q1:(0≤(u:Int))=True:=eq_true (by omega);have q2:((u:Int)<(ks.length:Int))=True:=eq_true (by omega);obtain ⟨s,hs⟩:∃ s,s=ks.getD u default:=⟨_,rfl⟩;rw [← hs] at hst hkc;clear hs;have HEQ:=mk0 (eq_calls gb _ _ _ v s w11 CB.out HCK.out rfl);by_cases he:strOfNums v=s
          rotate_left
          ·rw [if_neg he] at hst;rw [decide_eq_false he] at HEQ;clear he;replace hst:sKl a0 un kr ks l kl ((u:Int)+1) (j+1+m+t+1) false=some R:=hst
           as_aux_lemma =>
            have HN:Aside0 (j+1+m+t+1≤l.length∧sKl a0 un kr ks l (kl) ((u:Int)+1) (j+1+m+t+1) false=some R ∧ -((j+1+m+t+1:Nat):Int)≤(u:Int)+1∧(u:Int)+1≤((j+1+m+t+1:Nat):Int) ∧ -((j+1+m+t+1:Nat):Int) - 1≤kl∧(kl:Int)<(ks.length:Int)):=⟨by omega,hst,by omega,by omega,by omega,by omega⟩;clear hst;go_wp2_with (go_at_call 76;(with_reducible refine HEQ.out.mono ?_);rintro e_ w_ ⟨rfl,rfl⟩)
            go_roundg kr
            case measure=>omega
            case rel=>exact ⟨j+1+m+t+1,kl,(u:Int)+1,false,L2,zq45,zq45,zq50,rfl,HN,HF11⟩
          rw [if_pos he] at hst;rw [decide_eq_true he] at HEQ;clear he;by_cases hku:kl=(u:Int)+1 - 1
          rotate_left
          ·rw [if_neg hku] at hst;replace hst:sKl a0 un kr ks l kl ((u:Int)+1) (j+1+m+t+1) true=some R:=hst;have r1:(kl == (u:Int))=false:=beq_eq_false_iff_ne.mpr (by omega);have r2:decide (kl=(u:Int))=false:=decide_eq_false (by omega);clear hku
           as_aux_lemma =>
            have HN:Aside0 (j+1+m+t+1≤l.length∧sKl a0 un kr ks l (kl) ((u:Int)+1) (j+1+m+t+1) true=some R ∧ -((j+1+m+t+1:Nat):Int)≤(u:Int)+1∧(u:Int)+1≤((j+1+m+t+1:Nat):Int) ∧ -((j+1+m+t+1:Nat):Int) - 1≤kl∧(kl:Int)<(ks.length:Int)):=⟨by omega,hst,by omega,by omega,by omega,by omega⟩;clear hst;go_wp2_with (go_at_call 76;(with_reducible refine HEQ.out.mono ?_);rintro e_ w_ ⟨rfl,rfl⟩)
            go_roundg kr
            case measure=>omega
            case rel=>exact ⟨j+1+m+t+1,kl,(u:Int)+1,true,L2,zq45,zq45,zq50,rfl,HN,HF11⟩
          rw [if_pos hku] at hst;have r1:(kl == (u:Int))=true:=beq_iff_eq.mpr (by omega);have r2:decide (kl=(u:Int))=true:=decide_eq_true (by omega);by_cases hkk:kl+1=(ks.length:Int)
          ·rw [if_pos hkk] at hst;have HS:Aside0 (((j+1+m+t+1:Nat):Int)=R):=⟨Option.some.inj hst⟩;have r3:(kl+1 == (ks.length:Int))=true:=beq_iff_eq.mpr hkk;have r4:decide (kl+1=(ks.length:Int))=true:=decide_eq_true hkk;clear hst hku hkk;go_wp2_with (go_at_call 76;(with_reducible refine HEQ.out.mono ?_);rintro e_ w_ ⟨rfl,rfl⟩)
           go_ret
           exact ⟨by rw [← HS.out];first|rfl|(congr 2;omega)|(congr 1;congr 1;omega),j1p HB1.out HF11.out.1.below⟩
          rw [if_neg hkk] at hst;replace hst:sKl a0 un kr ks l (kl+1) ((u:Int)+1) (j+1+m+t+1) true=some R:=hst;have r3:(kl+1 == (ks.length:Int))=false:=beq_eq_false_iff_ne.mpr hkk;have r4:decide (kl+1=(ks.length:Int))=false:=decide_eq_false hkk
          as_aux_lemma =>
           have HN:Aside0 (j+1+m+t+1≤l.length∧sKl a0 un kr ks l (kl+1) ((u:Int)+1) (j+1+m+t+1) true=some R ∧ -((j+1+m+t+1:Nat):Int)≤(u:Int)+1∧(u:Int)+1≤((j+1+m+t+1:Nat):Int) ∧ -((j+1+m+t+1:Nat):Int) - 1≤kl+1∧(kl+1:Int)<(ks.length:Int)):=⟨by omega,hst,by omega,by omega,by omega,by omega⟩;clear hst;go_wp2_with (go_at_call 76;(with_reducible refine HEQ.out.mono ?_);rintro e_ w_ ⟨rfl,rfl⟩)
           go_roundg kr
           case measure=>omega
           case rel=>exact ⟨j+1+m+t+1,kl+1,(u:Int)+1,true,L2,zq45,zq45,zq50,rfl,HN,HF11⟩
     ·as_aux_lemma =>
       exact absurd (HSQ.out.symm.trans h) zq47
    rw [if_neg hstr] at hst;by_cases h39:x=39
    ·have ha0:a0=false:=by
      cases a0 with
      | false=>rfl
      | true=>exact absurd (.inr ⟨h39,rfl⟩) hstr
     rw [if_pos h39] at hst;replace hst:sKl a0 un kr ks l kl lv (j+1) lm=some R:=hst;rw [h39] at hcx;rw [ha0] at hc0;clear h39 hstr hns
     as_aux_lemma =>
      have HN:Aside0 (j+1≤l.length∧sKl a0 un kr ks l (kl) (lv) (j+1) lm=some R ∧ -((j+1:Nat):Int)≤lv∧lv≤((j+1:Nat):Int) ∧ -((j+1:Nat):Int) - 1≤kl∧(kl:Int)<(ks.length:Int)):=⟨by omega,hst,by omega,by omega,by omega,by omega⟩;clear hst;go_wp2
      go_roundg kr
      case measure=>omega
      case rel=>exact ⟨j+1,kl,lv,lm,L,zq45,zq45,zq50,rfl,HN,HF⟩
    rw [if_neg h39] at hst;by_cases h123:x=123
    ·rw [if_pos h123] at hst;rw [h123] at hcx;clear h123 h39 hstr hns;cases lm with
     | true =>
      rw [if_neg zq47] at hst;replace hst:sKl a0 un kr ks l kl (lv+1) (j+1) true=some R:=hst
      as_aux_lemma =>
       have HN:Aside0 (j+1≤l.length∧sKl a0 un kr ks l (kl) (lv+1) (j+1) true=some R ∧ -((j+1:Nat):Int)≤lv+1∧lv+1≤((j+1:Nat):Int) ∧ -((j+1:Nat):Int) - 1≤kl∧(kl:Int)<(ks.length:Int)):=⟨by omega,hst,by omega,by omega,by omega,by omega⟩;clear hst;go_wp2
       go_roundg kr
       case measure=>omega
       case rel=>exact ⟨j+1,kl,lv+1,true,L,zq45,zq45,zq50,rfl,HN,HF⟩
     | false =>
      rw [if_pos rfl] at hst
      as_aux_lemma =>
       obtain ⟨o1,hcut,hI1,hcc⟩:=j4a HIR.out c j (by omega) HC.out.1;rw [List.length_drop] at hcut hcc;have rng:=bE_range a0 123 125 _ (l.drop j) 0 0 (Nat.le_refl _);rw [List.length_drop] at rng;have HBE:=mk0 (fun (W:World) (hb:Below wc.heap.size wc W)=>be_calls a0 a1 a2 b o1 (l.length - j) (c - j) (l.drop j) 123 125 W (hI1.below hb) List.length_drop hcc zq47)
       generalize bE a0 123 125 (l.drop j) 0 0=be at hst rng HBE
       have RNG:=mk0 rng;have HST:=mk0 hst;clear hst rng hcc hI1;have HD:=mk0 (j1l (Below.refl wc.heap.size wc));go_wp2_with fail
       refine j4g (n:=6) (S:=fun w'=>w'.cell? ⟨gc,0,none⟩=some (.bool a0)∧w'.cell? ⟨gc,1,none⟩=some (.bool a1)∧w'.cell? ⟨gc,2,none⟩=some (.int .i64 a2)∧w'.cell? ⟨gc+1,0,none⟩=some (.slice (some ⟨b,o,none⟩) l.length c)) (ds:=[4]) #[false,false,false,false,false,false] zq14 rfl rfl ⟨hc0,hc1,hc2,hdd⟩ (fun hHeld=>?_)
       generalize wc.drew=w4 at HD hHeld ⊢
       refine pure_ (i:=2) (N:=some 170) (v:=?_) (a':=?_) #[false,false,true,false,false,false] rfl rfl zq14 (fun _ _ _ h=>h) (Or.inl ⟨by rfl,?_⟩) ?_ ?_;rotate_left
       ·intro w';go_simp
        exact zl4
       rotate_left
       ·exact zl0
       refine take_ (i:=0) (N:=some 168) (v:=?_) (a':=?_) #[true,false,true,false,false,false] rfl rfl zq14 (fun _ _ _ h=>h) (Or.inl ⟨by rfl,?_⟩) hHeld ?_ ?_;rotate_left
       ·rintro w' ⟨s0,s1,s2,s3⟩;go_simp
        exact zl4
       rotate_left
       ·exact zl0
       refine take_ (i:=1) (N:=some 169) (v:=?_) (a':=?_) #[true,true,true,false,false,false] rfl rfl zq14 (fun _ _ _ h=>h) (Or.inl ⟨by rfl,?_⟩) hHeld ?_ ?_;rotate_left
       ·rintro w' ⟨s0,s1,s2,s3⟩;go_simp
        exact zl4
       rotate_left
       ·exact zl0
       refine pure_ (i:=3) (N:=some 171) (v:=?_) (a':=?_) #[true,true,true,true,false,false] rfl rfl zq14 (fun _ _ _ h=>h) (Or.inl ⟨by rfl,?_⟩) ?_ ?_;rotate_left
       ·intro w';go_simp
        exact zl4
       rotate_left
       ·exact zl0
       refine last_ (i:=4) (N:=some 172) #[true,true,true,true,true,false] rfl rfl zq14 zq47 (fun K hK=>?_);refine goes_ Tryd.func77 zq14 rfl #[.agg #[.bool a0, .bool a1, .int .i64 a2], .slice (some ⟨b,o1,none⟩) (l.length - j) (c - j), .int .u8 123, .int .u8 125] (by rfl) rfl rfl zq27 ?_
       with_reducible refine (HBE.out _ HD.out).mono ?_
       rintro e_ w5 ⟨rfl,hb⟩;refine ⟨_,rfl,?_⟩;have HF5:=mk0 (And.intro (HF.out.1.carry (j1p HD.out hb)) HF.out.2);clear hb;refine hK.out _ _ ?_;clear hK K;refine norm_ (a':=?_) ?_ ?_;rotate_left
       ·show Act.put _ (some 172) _=_
        exact zl0
       refine pure_ (i:=5) (N:=some 25) (v:=?_) (a':=?_) #[true,true,true,true,true,true] rfl rfl zq14 (fun _ _ _ h=>h) (Or.inl ⟨by rfl,?_⟩) ?_ ?_;rotate_left
       ·intro w';go_simp
        exact zl4
       rotate_left
       ·exact zl0
       refine done_ zq14 ?_;rcases RNG.out with h1|⟨m,h1,h2,h3⟩
       ·have hst:=HST.out;rw [h1,if_pos zq47] at hst;have HS:Aside0 (-1=R):=⟨Option.some.inj hst⟩;rw [h1];clear hst h1;go_wp2
        go_ret
        exact zl18
       ·have hst:=HST.out;rw [h1,if_neg (by omega),Int.toNat_natCast] at hst;replace hst:sKl a0 un kr ks l kl lv (j+m) false=some R:=hst;have f1:((m:Int) == -1)=false:=beq_eq_false_iff_ne.mpr (by omega);have f2:decide ((m:Int) = -1)=false:=decide_eq_false (by omega);have hmb:m≤2147483647:=by omega
        rw [h1];clear h1
        as_aux_lemma =>
         have HN:Aside0 (j+m≤l.length∧sKl a0 un kr ks l (kl) (lv) (j+m) false=some R ∧ -((j+m:Nat):Int)≤lv∧lv≤((j+m:Nat):Int) ∧ -((j+m:Nat):Int) - 1≤kl∧(kl:Int)<(ks.length:Int)):=⟨by omega,hst,by omega,by omega,by omega,by omega⟩;clear hst;go_wp2
         go_roundg kr
         case measure=>omega
         case rel=>exact ⟨j+m,kl,lv,false,L,zq45,zq45,zq50,rfl,HN,HF5⟩
    rw [if_neg h123] at hst;by_cases h125:x=125
    ·rw [if_pos h125] at hst;rw [h125] at hcx;clear h125 h39 hstr hns h123;by_cases hq:lv - 1=kl
     rotate_left
     ·rw [if_neg hq] at hst;replace hst:sKl a0 un kr ks l kl (lv - 1) (j+1) lm=some R:=hst;have e1:(lv - 1 == kl)=false:=beq_eq_false_iff_ne.mpr hq;have e2:decide (lv - 1=kl)=false:=decide_eq_false hq
      as_aux_lemma =>
       have HN:Aside0 (j+1≤l.length∧sKl a0 un kr ks l (kl) (lv - 1) (j+1) lm=some R ∧ -((j+1:Nat):Int)≤lv - 1∧lv - 1≤((j+1:Nat):Int) ∧ -((j+1:Nat):Int) - 1≤kl∧(kl:Int)<(ks.length:Int)):=⟨by omega,hst,by omega,by omega,by omega,by omega⟩;clear hst;go_wp2
       go_roundg kr
       case measure=>omega
       case rel=>exact ⟨j+1,kl,lv - 1,lm,L,zq45,zq45,zq50,rfl,HN,HF⟩
     rw [if_pos hq] at hst;replace hst:sKl a0 un kr ks l (kl - 1) (lv - 1) (j+1) lm=some R:=hst;have e1:(lv - 1 == kl)=true:=beq_iff_eq.mpr hq;have e2:decide (lv - 1=kl)=true:=decide_eq_true hq
     as_aux_lemma =>
      have HN:Aside0 (j+1≤l.length∧sKl a0 un kr ks l (kl - 1) (lv - 1) (j+1) lm=some R ∧ -((j+1:Nat):Int)≤lv - 1∧lv - 1≤((j+1:Nat):Int) ∧ -((j+1:Nat):Int) - 1≤kl - 1∧(kl - 1:Int)<(ks.length:Int)):=⟨by omega,hst,by omega,by omega,by omega,by omega⟩;clear hst;go_wp2
      go_roundg kr
      case measure=>omega
      case rel=>exact ⟨j+1,kl - 1,lv - 1,lm,L,zq45,zq45,zq50,rfl,HN,HF⟩
    rw [if_neg h125] at hst;by_cases h91:x=91
    ·rw [if_pos h91] at hst;rw [h91] at hcx;clear h91 h39 hstr hns h123 h125;rw [sArr] at hst;by_cases hkv:kl=lv
     rotate_left
     ·rw [if_neg (fun h=>hkv h.1),if_neg (fun h=>hkv h.1)] at hst;have e1:(kl == lv)=false:=beq_eq_false_iff_ne.mpr hkv;have e2:decide (kl=lv)=false:=decide_eq_false hkv;clear hkv
      as_aux_lemma =>
       obtain ⟨o1,hcut,hI1,hcc⟩:=j4a HIR.out c j (by omega) HC.out.1;rw [List.length_drop] at hcut hcc;have rng:=bE_range a0 91 93 _ (l.drop j) 0 0 (Nat.le_refl _);rw [List.length_drop] at rng;have HBE:=mk0 (fun (W:World) (hb:Below wc.heap.size wc W)=>be_calls a0 a1 a2 b o1 (l.length - j) (c - j) (l.drop j) 91 93 W (hI1.below hb) List.length_drop hcc zq47)
       generalize bE a0 91 93 (l.drop j) 0 0=be at hst rng HBE
       have RNG:=mk0 rng;have HST:=mk0 hst;clear hst rng hcc hI1;have HD:=mk0 (j1l (Below.refl wc.heap.size wc));go_wp2_with fail
       refine j4g (n:=6) (S:=fun w'=>w'.cell? ⟨gc,0,none⟩=some (.bool a0)∧w'.cell? ⟨gc,1,none⟩=some (.bool a1)∧w'.cell? ⟨gc,2,none⟩=some (.int .i64 a2)∧w'.cell? ⟨gc+1,0,none⟩=some (.slice (some ⟨b,o,none⟩) l.length c)) (ds:=[4]) #[false,false,false,false,false,false] zq14 rfl rfl ⟨hc0,hc1,hc2,hdd⟩ (fun hHeld=>?_)
       generalize wc.drew=w4 at HD hHeld ⊢
       refine pure_ (i:=2) (N:=some 270) (v:=?_) (a':=?_) #[false,false,true,false,false,false] rfl rfl zq14 (fun _ _ _ h=>h) (Or.inl ⟨by rfl,?_⟩) ?_ ?_;rotate_left
       ·intro w';go_simp
        exact zl4
       rotate_left
       ·exact zl0
       refine take_ (i:=0) (N:=some 268) (v:=?_) (a':=?_) #[true,false,true,false,false,false] rfl rfl zq14 (fun _ _ _ h=>h) (Or.inl ⟨by rfl,?_⟩) hHeld ?_ ?_;rotate_left
       ·rintro w' ⟨s0,s1,s2,s3⟩;go_simp
        exact zl4
       rotate_left
       ·exact zl0
       refine take_ (i:=1) (N:=some 269) (v:=?_) (a':=?_) #[true,true,true,false,false,false] rfl rfl zq14 (fun _ _ _ h=>h) (Or.inl ⟨by rfl,?_⟩) hHeld ?_ ?_;rotate_left
       ·rintro w' ⟨s0,s1,s2,s3⟩;go_simp
        exact zl4
       rotate_left
       ·exact zl0
       refine pure_ (i:=3) (N:=some 271) (v:=?_) (a':=?_) #[true,true,true,true,false,false] rfl rfl zq14 (fun _ _ _ h=>h) (Or.inl ⟨by rfl,?_⟩) ?_ ?_;rotate_left
       ·intro w';go_simp
        exact zl4
       rotate_left
       ·exact zl0
       refine last_ (i:=4) (N:=some 272) #[true,true,true,true,true,false] rfl rfl zq14 zq47 (fun K hK=>?_);refine goes_ Tryd.func77 zq14 rfl #[.agg #[.bool a0, .bool a1, .int .i64 a2], .slice (some ⟨b,o1,none⟩) (l.length - j) (c - j), .int .u8 91, .int .u8 93] (by rfl) rfl rfl zq27 ?_
       with_reducible refine (HBE.out _ HD.out).mono ?_
       rintro e_ w5 ⟨rfl,hb⟩;refine ⟨_,rfl,?_⟩;have HF5:=mk0 (And.intro (HF.out.1.carry (j1p HD.out hb)) HF.out.2);clear hb;refine hK.out _ _ ?_;clear hK K;refine norm_ (a':=?_) ?_ ?_;rotate_left
       ·show Act.put _ (some 272) _=_
        exact zl0
       refine pure_ (i:=5) (N:=some 34) (v:=?_) (a':=?_) #[true,true,true,true,true,true] rfl rfl zq14 (fun _ _ _ h=>h) (Or.inl ⟨by rfl,?_⟩) ?_ ?_;rotate_left
       ·intro w';go_simp
        exact zl4
       rotate_left
       ·exact zl0
       refine done_ zq14 ?_;rcases RNG.out with h1|⟨m,h1,h2,h3⟩
       ·have hst:=HST.out;rw [h1,if_pos zq47] at hst;have HS:Aside0 (-1=R):=⟨Option.some.inj hst⟩;rw [h1];clear hst h1;go_wp2
        go_ret
        exact zl18
       ·have hst:=HST.out;rw [h1,if_neg (by omega),Int.toNat_natCast] at hst;replace hst:sKl a0 un kr ks l kl lv (j+m) lm=some R:=hst;have f1:((m:Int) == -1)=false:=beq_eq_false_iff_ne.mpr (by omega);have f2:decide ((m:Int) = -1)=false:=decide_eq_false (by omega);have hmb:m≤2147483647:=by omega
        rw [h1];clear h1
        as_aux_lemma =>
         have HN:Aside0 (j+m≤l.length∧sKl a0 un kr ks l (kl) (lv) (j+m) lm=some R ∧ -((j+m:Nat):Int)≤lv∧lv≤((j+m:Nat):Int) ∧ -((j+m:Nat):Int) - 1≤kl∧(kl:Int)<(ks.length:Int)):=⟨by omega,hst,by omega,by omega,by omega,by omega⟩;clear hst;go_wp2
         go_roundg kr
         case measure=>omega
         case rel=>exact ⟨j+m,kl,lv,lm,L,zq45,zq45,zq50,rfl,HN,HF5⟩
     subst hkv;by_cases hneg:kl<0
     ·rw [if_pos ⟨rfl,hneg⟩] at hst;cases hst
     obtain ⟨v,rfl⟩:∃ v:Nat,kl=(v:Int):=⟨kl.toNat,by omega⟩;rw [if_neg (fun h=>hneg h.2),Int.toNat_natCast] at hst;clear hneg;have hvk:v<ks.length:=by omega
     have hkc:=((HK.out.1.below HB1.out).below HF.out.1.below).cell v hvk;have hsz:=HK.out.1.sz (ks.getD v default) (by rw [List.getD_eq_getElem?_getD,List.getElem?_eq_getElem hvk];exact List.getElem_mem hvk);obtain ⟨s,hs⟩:∃ s,s=ks.getD v default:=⟨_,rfl⟩;rw [← hs] at hst hkc hsz;have HSS:=mk0 hs;clear hs;have t4:(0≤(v:Int))=True:=eq_true (by omega);have t5:((v:Int)<(ks.length:Int))=True:=eq_true (by omega);by_cases hix:isIx s=true
     rotate_left
     ·rw [if_neg (fun h=>hix h.2)] at hst;by_cases h0:0<s.size
      rotate_left
      ·have r0:decide (0<s.size)=false:=decide_eq_false h0;have r1:decide ((0:Int)<(s.size:Int))=false:=decide_eq_false (by omega);clear hix
       as_aux_lemma =>
        obtain ⟨o1,hcut,hI1,hcc⟩:=j4a HIR.out c j (by omega) HC.out.1;rw [List.length_drop] at hcut hcc;have rng:=bE_range a0 91 93 _ (l.drop j) 0 0 (Nat.le_refl _);rw [List.length_drop] at rng;have HBE:=mk0 (fun (W:World) (hb:Below wc.heap.size wc W)=>be_calls a0 a1 a2 b o1 (l.length - j) (c - j) (l.drop j) 91 93 W (hI1.below hb) List.length_drop hcc zq47)
        generalize bE a0 91 93 (l.drop j) 0 0=be at hst rng HBE
        have RNG:=mk0 rng;have HST:=mk0 hst;clear hst rng hcc hI1;have HD:=mk0 (j1l (Below.refl wc.heap.size wc));go_wp2_with fail
        refine j4g (n:=6) (S:=fun w'=>w'.cell? ⟨gc,0,none⟩=some (.bool a0)∧w'.cell? ⟨gc,1,none⟩=some (.bool a1)∧w'.cell? ⟨gc,2,none⟩=some (.int .i64 a2)∧w'.cell? ⟨gc+1,0,none⟩=some (.slice (some ⟨b,o,none⟩) l.length c)) (ds:=[4]) #[false,false,false,false,false,false] zq14 rfl rfl ⟨hc0,hc1,hc2,hdd⟩ (fun hHeld=>?_)
        generalize wc.drew=w4 at HD hHeld ⊢
        refine pure_ (i:=2) (N:=some 270) (v:=?_) (a':=?_) #[false,false,true,false,false,false] rfl rfl zq14 (fun _ _ _ h=>h) (Or.inl ⟨by rfl,?_⟩) ?_ ?_;rotate_left
        ·intro w';go_simp
         exact zl4
        rotate_left
        ·exact zl0
        refine take_ (i:=0) (N:=some 268) (v:=?_) (a':=?_) #[true,false,true,false,false,false] rfl rfl zq14 (fun _ _ _ h=>h) (Or.inl ⟨by rfl,?_⟩) hHeld ?_ ?_;rotate_left
        ·rintro w' ⟨s0,s1,s2,s3⟩;go_simp
         exact zl4
        rotate_left
        ·exact zl0
        refine take_ (i:=1) (N:=some 269) (v:=?_) (a':=?_) #[true,true,true,false,false,false] rfl rfl zq14 (fun _ _ _ h=>h) (Or.inl ⟨by rfl,?_⟩) hHeld ?_ ?_;rotate_left
        ·rintro w' ⟨s0,s1,s2,s3⟩;go_simp
         exact zl4
        rotate_left
        ·exact zl0
        refine pure_ (i:=3) (N:=some 271) (v:=?_) (a':=?_) #[true,true,true,true,false,false] rfl rfl zq14 (fun _ _ _ h=>h) (Or.inl ⟨by rfl,?_⟩) ?_ ?_;rotate_left
        ·intro w';go_simp
         exact zl4
        rotate_left
        ·exact zl0
        refine last_ (i:=4) (N:=some 272) #[true,true,true,true,true,false] rfl rfl zq14 zq47 (fun K hK=>?_);refine goes_ Tryd.func77 zq14 rfl #[.agg #[.bool a0, .bool a1, .int .i64 a2], .slice (some ⟨b,o1,none⟩) (l.length - j) (c - j), .int .u8 91, .int .u8 93] (by rfl) rfl rfl zq27 ?_
        with_reducible refine (HBE.out _ HD.out).mono ?_
        rintro e_ w5 ⟨rfl,hb⟩;refine ⟨_,rfl,?_⟩;have HF5:=mk0 (And.intro (HF.out.1.carry (j1p HD.out hb)) HF.out.2);clear hb;refine hK.out _ _ ?_;clear hK K;refine norm_ (a':=?_) ?_ ?_;rotate_left
        ·show Act.put _ (some 272) _=_
         exact zl0
        refine pure_ (i:=5) (N:=some 34) (v:=?_) (a':=?_) #[true,true,true,true,true,true] rfl rfl zq14 (fun _ _ _ h=>h) (Or.inl ⟨by rfl,?_⟩) ?_ ?_;rotate_left
        ·intro w';go_simp
         exact zl4
        rotate_left
        ·exact zl0
        refine done_ zq14 ?_;rcases RNG.out with h1|⟨m,h1,h2,h3⟩
        ·have hst:=HST.out;rw [h1,if_pos zq47] at hst;have HS:Aside0 (-1=R):=⟨Option.some.inj hst⟩;rw [h1];clear hst h1;go_wp2
         go_ret
         exact zl18
        ·have hst:=HST.out;rw [h1,if_neg (by omega),Int.toNat_natCast] at hst;replace hst:sKl a0 un kr ks l ↑v ↑v (j+m) lm=some R:=hst;have f1:((m:Int) == -1)=false:=beq_eq_false_iff_ne.mpr (by omega);have f2:decide ((m:Int) = -1)=false:=decide_eq_false (by omega);have hmb:m≤2147483647:=by omega
         rw [h1];clear h1
         as_aux_lemma =>
          have HN:Aside0 (j+m≤l.length∧sKl a0 un kr ks l (↑v) (↑v) (j+m) lm=some R ∧ -((j+m:Nat):Int) ≤ ↑v ∧ ↑v≤((j+m:Nat):Int) ∧ -((j+m:Nat):Int) - 1 ≤ ↑v∧(↑v:Int)<(ks.length:Int)):=⟨by omega,hst,by omega,by omega,by omega,by omega⟩;clear hst;go_wp2
          go_roundg kr
          case measure=>omega
          case rel=>exact ⟨j+m,↑v,↑v,lm,L,zq45,zq45,zq50,rfl,HN,HF5⟩
      have hb0:¬ (bytesOf s).getD 0 0=91:=fun h=>hix (decide_eq_true ⟨h0,h⟩)
      rw [get_bytes s 0 h0] at hb0;have p0:((((s[0]'h0).toNat:Nat):Int) == 91)=false:=beq_eq_false_iff_ne.mpr hb0;have q0:decide ((((s[0]'h0).toNat:Nat):Int)=91)=false:=decide_eq_false hb0;have r0:decide (0<s.size)=true:=decide_eq_true h0;have r1:decide ((0:Int)<(s.size:Int))=true:=decide_eq_true (by omega);clear hix hb0
      as_aux_lemma =>
       obtain ⟨o1,hcut,hI1,hcc⟩:=j4a HIR.out c j (by omega) HC.out.1;rw [List.length_drop] at hcut hcc;have rng:=bE_range a0 91 93 _ (l.drop j) 0 0 (Nat.le_refl _);rw [List.length_drop] at rng;have HBE:=mk0 (fun (W:World) (hb:Below wc.heap.size wc W)=>be_calls a0 a1 a2 b o1 (l.length - j) (c - j) (l.drop j) 91 93 W (hI1.below hb) List.length_drop hcc zq47)
       generalize bE a0 91 93 (l.drop j) 0 0=be at hst rng HBE
       have RNG:=mk0 rng;have HST:=mk0 hst;clear hst rng hcc hI1;have HD:=mk0 (j1l (Below.refl wc.heap.size wc));go_wp2_with fail
       refine j4g (n:=6) (S:=fun w'=>w'.cell? ⟨gc,0,none⟩=some (.bool a0)∧w'.cell? ⟨gc,1,none⟩=some (.bool a1)∧w'.cell? ⟨gc,2,none⟩=some (.int .i64 a2)∧w'.cell? ⟨gc+1,0,none⟩=some (.slice (some ⟨b,o,none⟩) l.length c)) (ds:=[4]) #[false,false,false,false,false,false] zq14 rfl rfl ⟨hc0,hc1,hc2,hdd⟩ (fun hHeld=>?_)
       generalize wc.drew=w4 at HD hHeld ⊢
       refine pure_ (i:=2) (N:=some 270) (v:=?_) (a':=?_) #[false,false,true,false,false,false] rfl rfl zq14 (fun _ _ _ h=>h) (Or.inl ⟨by rfl,?_⟩) ?_ ?_;rotate_left
       ·intro w';go_simp
        exact zl4
       rotate_left
       ·exact zl0
       refine take_ (i:=0) (N:=some 268) (v:=?_) (a':=?_) #[true,false,true,false,false,false] rfl rfl zq14 (fun _ _ _ h=>h) (Or.inl ⟨by rfl,?_⟩) hHeld ?_ ?_;rotate_left
       ·rintro w' ⟨s0,s1,s2,s3⟩;go_simp
        exact zl4
       rotate_left
       ·exact zl0
       refine take_ (i:=1) (N:=some 269) (v:=?_) (a':=?_) #[true,true,true,false,false,false] rfl rfl zq14 (fun _ _ _ h=>h) (Or.inl ⟨by rfl,?_⟩) hHeld ?_ ?_;rotate_left
       ·rintro w' ⟨s0,s1,s2,s3⟩;go_simp
        exact zl4
       rotate_left
       ·exact zl0
       refine pure_ (i:=3) (N:=some 271) (v:=?_) (a':=?_) #[true,true,true,true,false,false] rfl rfl zq14 (fun _ _ _ h=>h) (Or.inl ⟨by rfl,?_⟩) ?_ ?_;rotate_left
       ·intro w';go_simp
        exact zl4
       rotate_left
       ·exact zl0
       refine last_ (i:=4) (N:=some 272) #[true,true,true,true,true,false] rfl rfl zq14 zq47 (fun K hK=>?_);refine goes_ Tryd.func77 zq14 rfl #[.agg #[.bool a0, .bool a1, .int .i64 a2], .slice (some ⟨b,o1,none⟩) (l.length - j) (c - j), .int .u8 91, .int .u8 93] (by rfl) rfl rfl zq27 ?_
       with_reducible refine (HBE.out _ HD.out).mono ?_
       rintro e_ w5 ⟨rfl,hb⟩;refine ⟨_,rfl,?_⟩;have HF5:=mk0 (And.intro (HF.out.1.carry (j1p HD.out hb)) HF.out.2);clear hb;refine hK.out _ _ ?_;clear hK K;refine norm_ (a':=?_) ?_ ?_;rotate_left
       ·show Act.put _ (some 272) _=_
        exact zl0
       refine pure_ (i:=5) (N:=some 34) (v:=?_) (a':=?_) #[true,true,true,true,true,true] rfl rfl zq14 (fun _ _ _ h=>h) (Or.inl ⟨by rfl,?_⟩) ?_ ?_;rotate_left
       ·intro w';go_simp
        exact zl4
       rotate_left
       ·exact zl0
       refine done_ zq14 ?_;rcases RNG.out with h1|⟨m,h1,h2,h3⟩
       ·have hst:=HST.out;rw [h1,if_pos zq47] at hst;have HS:Aside0 (-1=R):=⟨Option.some.inj hst⟩;rw [h1];clear hst h1;go_wp2
        go_ret
        exact zl18
       ·have hst:=HST.out;rw [h1,if_neg (by omega),Int.toNat_natCast] at hst;replace hst:sKl a0 un kr ks l ↑v ↑v (j+m) lm=some R:=hst;have f1:((m:Int) == -1)=false:=beq_eq_false_iff_ne.mpr (by omega);have f2:decide ((m:Int) = -1)=false:=decide_eq_false (by omega);have hmb:m≤2147483647:=by omega
        rw [h1];clear h1
        as_aux_lemma =>
         have HN:Aside0 (j+m≤l.length∧sKl a0 un kr ks l (↑v) (↑v) (j+m) lm=some R ∧ -((j+m:Nat):Int) ≤ ↑v ∧ ↑v≤((j+m:Nat):Int) ∧ -((j+m:Nat):Int) - 1 ≤ ↑v∧(↑v:Int)<(ks.length:Int)):=⟨by omega,hst,by omega,by omega,by omega,by omega⟩;clear hst;go_wp2
         go_roundg kr
         case measure=>omega
         case rel=>exact ⟨j+m,↑v,↑v,lm,L,zq45,zq45,zq50,rfl,HN,HF5⟩
     as_aux_lemma =>
      rw [if_pos ⟨rfl,hix⟩] at hst;obtain ⟨hp,hb0⟩:0<s.size∧(bytesOf s).getD 0 0=91:=of_decide_eq_true hix;rw [get_bytes s 0 hp] at hb0;obtain ⟨x0,hst,hfin⟩:=Option.bind_eq_some_iff.mp hst;obtain ⟨ai,hkx,hst⟩:=Option.bind_eq_some_iff.mp hst;obtain ⟨⟨cs,E⟩,hae,hst⟩:=Option.bind_eq_some_iff.mp hst;simp only at hst;rw [kIdx] at hkx;split at hkx
      case isFalse=>cases hkx
      case isTrue hk3 =>
      obtain ⟨hs3,hs20,hb1⟩:=hk3;rw [get_bytes s (s.size - 1) (by omega)] at hb1;have p0:((((s[0]'hp).toNat:Nat):Int) == 91)=true:=beq_iff_eq.mpr hb0;have p1:((((s[s.size - 1]'(by omega)).toNat:Nat):Int) != 93)=false:=bne_eq_false_iff_eq.mpr hb1;have r3:(3:Int)≤(s.size:Int):=by omega
      have hsl:=slc_str s (by omega);have hz:(s.extract 1 (s.size - 1)).size≤18:=by rw [ByteArray.size_extract];omega
      have HAT:=mk0 (atoi_c (s.extract 1 (s.size - 1)) ai hz hkx wc);have hmf:∀ (fn:Fn) (first cap:Array Value) (w:World),(Instr.makeFunc fn first cap).run Tryd.prog w = .ok (.func fn first cap) w:=fun _ _ _ _=>rfl
      have hbD:wc.heap[gc+1]? = some (.cells #[.slice (some ⟨b,o,none⟩) l.length c] 55 (0,0)):=HBD.out _ HF.out.1;have HBDc:=mk0 hbD;have HST:=mk0 hst;have HFIN:=mk0 hfin;have HAE0:=mk0 hae;clear hix hb0 hst hfin hkx hae hb1 hz hbD;go_upto_region 78 with (go_at_call 78;(with_reducible refine HAT.out.mono ?_);rintro e_ w3 ⟨rfl,hb3⟩;have HB3:=mk0 hb3;clear hb3)
      have hB4:=j1g (j1g (j1g (j1g (j1g HB3.out (.cells #[.int .i64 ai] 3)) (.cells #[.int .i64 0] 3)) (.cells #[.slice none 0 0] 55)) (.cells #[.int .i64 0] 3)) (.cells #[.int .i64 (j:Int)] 3);have hCI:=CI.start (w:=w) (b:=b) (l:=l) (j:=j) (ai:=ai) (cs:=cs) (j1p HF.out.1.below HB3.out) ((HB3.out.block _ (j3p HBDc.out)).trans HBDc.out);have hpA:gs<w3.heap.size:=Nat.lt_of_lt_of_le (j3p HF.out.1.blk) HB3.out.size;obtain ⟨w4,hw4⟩:∃ w4,w4=((((w3.alloc (.cells #[.int .i64 ai] 3)).alloc (.cells #[.int .i64 0] 3)).alloc (.cells #[.slice none 0 0] 55)).alloc (.cells #[.int .i64 0] 3)).alloc (.cells #[.int .i64 (j:Int)] 3):=⟨_,rfl⟩;rw [← hw4] at hB4 hCI ⊢;clear hw4;obtain ⟨pA,hpq⟩:∃ pA,pA=w3.heap.size:=⟨_,rfl⟩;rw [← hpq] at hCI hpA ⊢;clear hpq;have HB4:=mk0 hB4;have HCI:=mk0 hCI;have HPA:=mk0 hpA;have hx0:=(j2r HB4.out (World.block_lt_of_cell? _ _ hc0)).trans hc0;have hx1:=(j2r HB4.out (World.block_lt_of_cell? _ _ hc1)).trans hc1;have hx2:=(j2r HB4.out (World.block_lt_of_cell? _ _ hc2)).trans hc2;have hxd:=(j2r HB4.out (World.block_lt_of_cell? _ _ hdd)).trans hdd;obtain ⟨o1,hcut,hI1,hcc⟩:=j4a HI.out c j (by omega) HC.out.1;rw [List.length_drop] at hcut;have HAEC:=mk0 (fun (W:World) (hb:Below w4.heap.size w4 W)=>ae_calls a0 a1 a2 b o1 (c - j) (l.drop j) w W (S3 (pA+1) (pA+1+1) (pA+1+1+1)) (fun r W=>CI w w1 b l j (pA+1) pA (pA+1+1) (pA+1+1+1) (gc+1) (pA+1+1+1+1) ai (.slice (some ⟨b,o,none⟩) l.length c) cs r W) (.pointer (some ⟨pA+1,0,none⟩)) (.pointer (some ⟨pA,0,none⟩)) (.pointer (some ⟨pA+1+1,0,none⟩)) (.pointer (some ⟨pA+1+1+1,0,none⟩)) (.pointer (some ⟨gc+1,0,none⟩)) (.pointer (some ⟨pA+1+1+1+1,0,none⟩)) cs E HT.out hI1 hcc (HCI.out.carry hb).lt HAE0.out (HCI.out.carry hb) (fun r W h=>j1p HB1.out h.below) (fun r W W' h hb=>h.carry hb) (fun x r W o1 h _ hI=>CI.cb HI.out HC.out.1 HC.out.2 hjl HAE0.out x r W o1 h hI));rw [List.length_drop] at HAEC;have HD:=mk0 (j1l (Below.refl w4.heap.size w4))
      have hnG:¬ S3 (pA+1) (pA+1+1) (pA+1+1+1) gc:=by
       have:=HGC.out;rintro (h|h|h)<;>omega
      have HNG:=mk0 hnG;clear hB4 hCI hpA hI1 hcc hnG hc0 hc1 hc2 hdd hkc;go_wp2_with fail
      refine j4g (n:=6) (S:=fun w'=>w'.cell? ⟨gc,0,none⟩=some (.bool a0)∧w'.cell? ⟨gc,1,none⟩=some (.bool a1)∧w'.cell? ⟨gc,2,none⟩=some (.int .i64 a2)∧w'.cell? ⟨gc+1,0,none⟩=some (.slice (some ⟨b,o,none⟩) l.length c)) (ds:=[5]) #[false,false,false,false,false,false] zq14 rfl rfl ⟨hx0,hx1,hx2,hxd⟩ (fun hHeld=>?_)
      generalize w4.drew=w5 at HD hHeld ⊢
      refine pure_ (i:=2) (N:=some 248) (v:=?_) (a':=?_) #[false,false,true,false,false,false] rfl rfl zq14 (fun _ _ _ h=>h) (Or.inl ⟨by rfl,?_⟩) ?_ ?_;rotate_left
      ·intro w';go_simp
       exact zl4
      rotate_left
      ·exact zl0
      refine pure_ (i:=4) (N:=some 250) (v:=?_) (a':=?_) #[false,false,true,false,true,false] rfl rfl zq14 (fun _ _ _ h=>h) (Or.inl ⟨by rfl,?_⟩) ?_ ?_;rotate_left
      ·intro w';go_simp
       exact zl4
      rotate_left
      ·exact zl0
      refine take_ (i:=0) (N:=some 246) (v:=?_) (a':=?_) #[true,false,true,false,true,false] rfl rfl zq14 (fun _ _ _ h=>h) (Or.inl ⟨by rfl,?_⟩) hHeld ?_ ?_;rotate_left
      ·rintro w' ⟨s0,s1,s2,s3⟩;go_simp
       exact zl4
      rotate_left
      ·exact zl0
      refine take_ (i:=1) (N:=some 247) (v:=?_) (a':=?_) #[true,true,true,false,true,false] rfl rfl zq14 (fun _ _ _ h=>h) (Or.inl ⟨by rfl,?_⟩) hHeld ?_ ?_;rotate_left
      ·rintro w' ⟨s0,s1,s2,s3⟩;go_simp
       exact zl4
      rotate_left
      ·exact zl0
      refine pure_ (i:=3) (N:=some 249) (v:=?_) (a':=?_) #[true,true,true,true,true,false] rfl rfl zq14 (fun _ _ _ h=>h) (Or.inl ⟨by rfl,?_⟩) ?_ ?_;rotate_left
      ·intro w';go_simp
       exact zl4
      rotate_left
      ·exact zl0
      refine last_ (i:=5) (N:=some 251) #[true,true,true,true,true,true] rfl rfl zq14 zq47 (fun K hK=>?_);refine goes_ Tryd.func79 zq14 rfl #[.agg #[.bool a0, .bool a1, .int .i64 a2], .slice (some ⟨b,o1,none⟩) (l.length - j) (c - j), .func (.func 80) #[] #[.pointer (some ⟨pA+1,0,none⟩), .pointer (some ⟨pA,0,none⟩), .pointer (some ⟨pA+1+1,0,none⟩), .pointer (some ⟨pA+1+1+1,0,none⟩), .pointer (some ⟨gc+1,0,none⟩), .pointer (some ⟨pA+1+1+1+1,0,none⟩)], .slice none 0 0] (by rfl) rfl rfl zq27 ?_
      with_reducible refine (HAEC.out _ HD.out).mono ?_
      rintro e_ w6 ⟨rfl,hv,hk⟩;refine ⟨_,rfl,?_⟩;have HV6:=mk0 hv;have HK6:=mk0 ((KS.below HD.out).trans hk);clear hv hk;refine hK.out _ _ ?_;clear hK K;refine norm_ (a':=?_) ?_ ?_;rotate_left
      ·show Act.put _ (some 251) _=_
       exact zl0
      refine done_ zq14 ?_;have hy0:=HK6.out.cell (a:=⟨gc,0,none⟩) HNG.out hx0;have hy1:=HK6.out.cell (a:=⟨gc,1,none⟩) HNG.out hx1;have hy2:=HK6.out.cell (a:=⟨gc,2,none⟩) HNG.out hx2;clear hHeld hx0 hx1 hx2 hxd hcut hmf hsl;by_cases hfa:0≤ai∧ai<(cs.length:Int)
      rotate_left
      ·have hst:=HST.out;rw [if_neg hfa] at hst;have hfin:=HFIN.out;rw [← Option.some.inj hst] at hfin;have HS:Aside0 (-1=R):=⟨Option.some.inj hfin⟩;have hcV:=HV6.out.gone hfa;clear hst hfin hfa;have hnq:∀ W:World,(binOp .eql 55 (.slice none 0 0) (.slice none 0 0)).run Tryd.prog W = .ok (.bool true) W:=nil_eq none 0 0;go_wp2
       go_ret
       exact ⟨by rw [← HS.out];rfl,j1p HB1.out HV6.out.below⟩
      have hst:=HST.out;rw [if_pos hfa] at hst;have hfin:=HFIN.out;rw [← Option.some.inj hst] at hfin;simp only [HAE0.out,Option.bind_some] at hfin;obtain ⟨x,o4,c4,hxi,hcV,hI4,hc4,hc4m,hcO⟩:=HV6.out.found hfa;rw [hxi,Option.bind_some] at hfin;obtain ⟨r,hr,hfin⟩:=Option.bind_eq_some_iff.mp hfin;have hr2:sK a0 un kr (ks.drop (v+1)) ((l.drop (j+(pick x).1)).take (pick x).2)=some r:=hr;have rng:=sK_range hr2;have hpk:=pick_ok ((aE_ok HAE0.out).2 x (List.mem_of_getElem? hxi));rw [List.length_drop] at hpk;have hlen:((l.drop (j+(pick x).1)).take (pick x).2).length=(pick x).2:=by rw [List.length_take,List.length_drop];omega
      rw [hlen] at rng;obtain ⟨ko2,hkcut,hK2,hkc2⟩:=cut_keys HK.out.1 kc (v+1) (by omega) HK.out.2;have HIHX:=mk0 (fun (W:World) (hb:Below w.heap.size w W)=>HIH.out kr (ks.drop (v+1)) _ b o4 c4 kb ko2 (kc - (v+1)) W r (by rw [List.length_drop];have:=HM.out;omega) (HT.out.below hb) (hI4.below hb) (by rw [hlen];exact hc4) hc4m (hK2.below hb) (by rw [List.length_drop];exact hkc2) hr2);rw [hlen,List.length_drop] at HIHX
      push_cast at hkcut
      have HFIN2:=mk0 hfin;have RNG:=mk0 rng;clear hfin rng hr hr2 hlen hK2 hkc2 hI4 hc4 hc4m hxi hst hfa
      generalize (pick x).1=p1 at HFIN2 hcO hpk
      generalize (pick x).2=p2 at RNG hcV HIHX hpk
      have hwr:IntKind.i64.wrap ((v:Int)+1)=(v:Int)+1:=IntWalk.i64_in _ (by omega);have hnq:∀ W:World,(binOp .eql 55 (.slice (some ⟨b,o4,none⟩) p2 c4) (.slice none 0 0)).run Tryd.prog W = .ok (.bool false) W:=nil_eq (some ⟨b,o4,none⟩) p2 c4;have HD7:=mk0 (j1l (Below.refl w6.heap.size w6));have HB6:=mk0 (j1p HB1.out HV6.out.below);have hltO:=World.block_lt_of_cell? _ _ hcO;go_wp2_with fail
      refine j4g (n:=8) (S:=fun w'=>w'.cell? ⟨gc,0,none⟩=some (.bool a0)∧w'.cell? ⟨gc,1,none⟩=some (.bool a1)∧w'.cell? ⟨gc,2,none⟩=some (.int .i64 a2)∧w'.cell? ⟨pA+1+1,0,none⟩=some (.slice (some ⟨b,o4,none⟩) p2 c4)) (ds:=[6]) #[false,false,false,false,false,false,false,false] zq14 rfl rfl ⟨hy0,hy1,hy2,hcV⟩ (fun hHeld=>?_)
      generalize w6.drew=w7 at HD7 hHeld ⊢
      refine pure_ (i:=2) (N:=some 256) (v:=?_) (a':=?_) #[false,false,true,false,false,false,false,false] rfl rfl zq14 (fun _ _ _ h=>h) (Or.inl ⟨by rfl,?_⟩) ?_ ?_;rotate_left
      ·intro w';go_simp
       exact zl4
      rotate_left
      ·exact zl0
      refine pure_ (i:=3) (N:=some 257) (v:=?_) (a':=?_) #[false,false,true,true,false,false,false,false] rfl rfl zq14 (fun _ _ _ h=>h) (Or.inl ⟨by rfl,?_⟩) ?_ ?_;rotate_left
      ·intro w';go_simp
       exact zl4
      rotate_left
      ·exact zl0
      refine pure_ (i:=4) (N:=some 258) (v:=?_) (a':=?_) #[false,false,true,true,true,false,false,false] rfl rfl zq14 (fun _ _ _ h=>h) (Or.inl ⟨by rfl,?_⟩) ?_ ?_;rotate_left
      ·intro w';go_simp
       exact zl4
      rotate_left
      ·exact zl0
      refine pure_ (i:=5) (N:=some 259) (v:=?_) (a':=?_) #[false,false,true,true,true,true,false,false] rfl rfl zq14 (fun _ _ _ h=>h) (Or.inl ⟨by rfl,?_⟩) ?_ ?_;rotate_left
      ·intro w';go_simp
       exact zl4
      rotate_left
      ·exact zl0
      refine take_ (i:=0) (N:=some 254) (v:=?_) (a':=?_) #[true,false,true,true,true,true,false,false] rfl rfl zq14 (fun _ _ _ h=>h) (Or.inl ⟨by rfl,?_⟩) hHeld ?_ ?_;rotate_left
      ·rintro w' ⟨s0,s1,s2,s3⟩;go_simp
       exact zl4
      rotate_left
      ·exact zl0
      refine take_ (i:=1) (N:=some 255) (v:=?_) (a':=?_) #[true,true,true,true,true,true,false,false] rfl rfl zq14 (fun _ _ _ h=>h) (Or.inl ⟨by rfl,?_⟩) hHeld ?_ ?_;rotate_left
      ·rintro w' ⟨s0,s1,s2,s3⟩;go_simp
       exact zl4
      rotate_left
      ·exact zl0
      refine last_ (i:=6) (N:=some 260) #[true,true,true,true,true,true,true,false] rfl rfl zq14 zq47 (fun K hK=>?_);refine goes_ Tryd.func58 zq14 rfl #[.agg #[.bool a0, .bool a1, .int .i64 a2], .slice (some ⟨b,o4,none⟩) p2 c4, .slice (some ⟨kb,ko2,none⟩) (ks.length - (v+1)) (kc - (v+1))] (by rfl) rfl rfl zq27 ?_
      with_reducible refine (HIHX.out _ (j1p HB6.out HD7.out)).mono ?_
      rintro e_ w8 ⟨rfl,hb⟩;refine ⟨_,rfl,?_⟩;have HB8:=mk0 (j1p HD7.out hb);have hcO8:=(j2r HB8.out hltO).trans hcO;clear hb hcO hltO;refine hK.out _ _ ?_;clear hK K;refine norm_ (a':=?_) ?_ ?_;rotate_left
      ·show Act.put _ (some 260) _=_
       exact zl0
      refine pure_ (i:=7) (N:=some 33) (v:=?_) (a':=?_) #[true,true,true,true,true,true,true,true] rfl rfl zq14 (fun _ _ _ h=>h) (Or.inl ⟨by rfl,?_⟩) ?_ ?_;rotate_left
      ·intro w';go_simp
       exact zl4
      rotate_left
      ·exact zl0
      refine done_ zq14 ?_;clear hwr;rcases RNG.out with h1|⟨m,h1,h2⟩
      ·have hfin:=HFIN2.out;rw [h1,if_pos zq47] at hfin;have HS:Aside0 (-1=R):=⟨Option.some.inj hfin⟩;rw [h1];clear hfin h1;go_wp2
       go_ret
       exact ⟨by rw [← HS.out];rfl,j1p HB6.out HB8.out⟩
      ·have hfin:=HFIN2.out;rw [h1,if_neg (by omega)] at hfin;have HS:Aside0 (((j+p1:Nat):Int)+(m:Int)=R):=⟨Option.some.inj hfin⟩;have f1:decide ((m:Int)<0)=false:=decide_eq_false (by omega);rw [h1];clear hfin h1;go_wp2
       go_ret
       exact ⟨by rw [← HS.out,Int.natCast_add];rfl,j1p HB6.out HB8.out⟩
    rw [if_neg h91] at hst;by_cases h58:x=58
    ·rw [if_pos h58] at hst;have HS:Aside0 (-1=R):=⟨Option.some.inj hst⟩;rw [h58] at hcx;clear h58 h91 h39 hstr hns h123 h125 hst
     as_aux_lemma =>
      go_wp2
      go_ret
      exact zl21
    rw [if_neg h58] at hst;replace hst:sKl a0 un kr ks l kl lv (j+1) lm=some R:=hst;have h34:x≠34:=fun h=>hstr (.inl h)
    have p34:(x == 34)=false:=beq_eq_false_iff_ne.mpr h34;have q34:decide (x=34)=false:=decide_eq_false h34;have p39:(x == 39)=false:=beq_eq_false_iff_ne.mpr h39;have q39:decide (x=39)=false:=decide_eq_false h39;have p123:(x == 123)=false:=beq_eq_false_iff_ne.mpr h123;have q123:decide (x=123)=false:=decide_eq_false h123;have p125:(x == 125)=false:=beq_eq_false_iff_ne.mpr h125;have q125:decide (x=125)=false:=decide_eq_false h125;have p91:(x == 91)=false:=beq_eq_false_iff_ne.mpr h91;have q91:decide (x=91)=false:=decide_eq_false h91;have p58:(x == 58)=false:=beq_eq_false_iff_ne.mpr h58;have q58:decide (x=58)=false:=decide_eq_false h58;clear h34 h58 h91 h39 hstr hns h123 h125
    as_aux_lemma =>
     have HN:Aside0 (j+1≤l.length∧sKl a0 un kr ks l (kl) (lv) (j+1) lm=some R ∧ -((j+1:Nat):Int)≤lv∧lv≤((j+1:Nat):Int) ∧ -((j+1:Nat):Int) - 1≤kl∧(kl:Int)<(ks.length:Int)):=⟨by omega,hst,by omega,by omega,by omega,by omega⟩;clear hst;go_wp2
     go_roundg kr
     case measure=>omega
     case rel=>exact ⟨j+1,kl,lv,lm,L,zq45,zq45,zq50,rfl,HN,HF⟩
theorem stp_mono (k : Nat) (l:List Int):LeO (stp k l) (stp (k+1) l):=by
 unfold stp;exact LeO.ite (LeO.refl _) (LeO.ite (LeO.ite (LeO.refl _) (LeO.ite (LeO.bind (j1q.mono _ _) (fun _=>LeO.refl _)) (LeO.refl _))) (LeO.refl _))
theorem jun_mono (k : Nat):∀ (f:Nat) (l E:List Int),LeO (jun k f l E) (jun (k+1) (f+1) l E)
 | 0,_,_=>fun r h=>by simp [jun] at h
 | f+1,l,E=>by
  rw [jun,jun];exact LeO.bind (stp_mono k l) (fun _=>LeO.ite (LeO.refl _) (LeO.ite (LeO.ite (LeO.refl _) (jun_mono k f _ _)) (LeO.refl _)))
theorem unc_mono (k : Nat) (l:List Int):LeO (unc k l) (unc (k+1) l):=by
 unfold unc;exact LeO.ite (LeO.refl _) (jun_mono k k _ _)
theorem in_bytes (w : World) (s:ByteArray) (hs:s.size≤2147483647):IN (Lib.bytesWorld w 5 s) w.heap.size 0 (bytesOf s):=by
 refine ⟨fun i hi=>?_,by rw [Lib.bytesWorld_size];omega,J.bytesOf_range s,by rw [bytesOf_length];exact hs⟩;rw [bytesOf_length] at hi;obtain ⟨ad,e,h⟩:=(bytes_reads w 5 s (by omega)).2.2 (by omega);cases e;have:=h i hi;rw [add_at] at this;exact this
theorem sStep_mono {un un' : List Int→Option (Option (List Int))} (h:∀ l,LeO (un l) (un' l)) (sq:Bool) (ks:List ByteArray) (l:List Int) (kl lv:Int) (i:Nat) (lm:Bool):LeO (sStep sq un ks l kl lv i lm) (sStep sq un' ks l kl lv i lm):=by
 unfold sStep sStr
 repeat' first
  | exact LeO.refl _
  | exact h _
  | refine LeO.ite ?_ ?_
  | refine LeO.bind ?_ (fun _=>?_)
theorem sKl_mono {un un' : List Int→Option (Option (List Int))} (h:∀ l,LeO (un l) (un' l)) (sq:Bool):∀ (n:Nat) (ks:List ByteArray) (l:List Int) (kl lv:Int) (i:Nat) (lm:Bool),LeO (sKl sq un n ks l kl lv i lm) (sKl sq un' (n+1) ks l kl lv i lm)
 | 0,_,_,_,_,_,_=>fun r h=>by simp [sKl] at h
 | n+1,ks,l,kl,lv,i,lm=>by
  rw [sKl,sKl];refine LeO.ite (LeO.refl _) (LeO.bind (sStep_mono h _ _ _ _ _ _ _) (fun r=>?_));cases r with
  | done r=>exact LeO.refl _
  | go kl' lv' i' lm'=>exact sKl_mono h sq n _ _ _ _ _ _
  | sub m=>exact LeO.bind (LeO.refl _) (fun _=>LeO.bind (LeO.refl _) (fun _=>LeO.bind (LeO.ite (LeO.refl _) (sKl_mono h sq n _ _ _ _ _ _)) (fun _=>LeO.refl _)))
theorem sK_mono {un un' : List Int→Option (Option (List Int))} (h:∀ l,LeO (un l) (un' l)) (sq:Bool) (n:Nat) (ks:List ByteArray) (l:List Int):LeO (sK sq un n ks l) (sK sq un' (n+1) ks l):=LeO.ite (LeO.refl _) (sKl_mono h sq n _ _ _ _ _ _)
def getV (r : Option (List Int × Int × Nat × Nat)):ByteArray × ByteArray × Int × Int × Bool:=match r with
  | none=>(⟨#[]⟩,⟨#[]⟩,0,0,false)
  | some (v,kd,og,en)=>(⟨#[]⟩,strOfNums v,kd,(en:Int),true)
def Kok (a0 : ByteArray) (l1:List ByteArray):Prop:=a0.size≤2147483647∧l1.length≤2147483647∧∀ s ∈ l1,s.size≤2147483647
instance (a0 : ByteArray) (l1:List ByteArray):Decidable (Kok a0 l1):=by unfold Kok;infer_instance
def jpgetF (k : Nat) (a0:ByteArray) (l1:List ByteArray):Option (ByteArray × ByteArray × Int × Int × Bool):=if Kok a0 l1 then (sK false (unc k) k l1 (bytesOf a0)).bind fun R=>some (getV (getR false (bytesOf a0) R)) else none
theorem jpgetF_mono : ∀ a0 l1 k,LeO (jpgetF k a0 l1) (jpgetF (k+1) a0 l1):=fun a0 l1 k=>LeO.ite (LeO.bind (sK_mono (unc_mono k) _ _ _ _) (fun _=>LeO.refl _)) (LeO.refl _)
theorem ky_of {w : World} {A:Option Addr} {ks:List ByteArray} (h:Kd.C Kd.string w A ks.length ks) (h0:ks≠[]) (hl:ks.length≤2147483647) (hz:∀ s ∈ ks,s.size≤2147483647):∃ b o,A=some ⟨b,o,none⟩∧KY w b o ks:=by
 have hp:0<ks.length:=List.length_pos_iff.mpr h0;obtain ⟨⟨b,o,sp⟩,rfl,hc⟩:=Kd.at_string h 0 (by omega) (by omega)
 have hsp:sp=none:=by
  have:(⟨b,o,sp⟩:Addr).add (0:Int).toNat=⟨b,o,sp⟩:=by unfold Addr.add;simp
  rw [this] at hc;unfold World.cell? at hc;split at hc
  ·cases sp with
   | none=>rfl
   | some x=>simp at hc
  ·cases hc
 subst hsp;refine ⟨b,o,rfl,fun i hi=>?_,?_,hl,hz⟩
 ·obtain ⟨ad,e,hc⟩:=Kd.at_string h (i:Int) (by omega) (by omega);cases e;rw [Int.toNat_natCast,add_at] at hc;exact hc
 ·have:=World.block_lt_of_cell? _ _ hc;rw [add_block] at this;exact this
theorem jpg_P4 (k : Nat) (a0:ByteArray) (A1:Option Addr) (c1:Nat) (l1:List ByteArray) (R:Int) (w:World) (hr1:Kd.C Kd.string w A1 l1.length l1) (hc1:l1.length≤c1) (hG:Laid w) (hk:Kok a0 l1) (h:sK false (unc k) k l1 (bytesOf a0)=some R) (c:Nat) (hc:a0.size≤c) (hcm:c≤9223372036854775807) :
 Calls Tryd.prog 23 #[.slice (some ⟨w.heap.size,0,none⟩) a0.size c, .slice A1 l1.length c1] (Lib.bytesWorld w 5 a0) fun e w'=>P4 (Lib.bytesWorld w 5 a0) w.heap.size (getR false (bytesOf a0) R) e w':=by
 have hb:=bytes_below (B:=w.heap.size) (Below.refl _ w) (Nat.le_refl _) 5 a0;have hI:=in_bytes w a0 hk.1;have hT:=hG.below hb;refine jg_calls _ _ _ _ _ (injg_calls _ _ _ _ _ hT ?_);by_cases h0:l1=[]
 ·subst h0;rw [sK,if_pos rfl] at h
  cases h;refine (ig0_calls false false 0 w.heap.size 0 a0.size c (bytesOf a0) A1 c1 _ hT hI (bytesOf_length a0) hc).mono ?_;intro e w' hp;exact P5_of (Nat.zero_le _) hp
 obtain ⟨b,o,rfl,hK⟩:=ky_of hr1 h0 hk.2.1 hk.2.2;have hR:=sK_range h;refine (igk_calls false false 0 w.heap.size 0 a0.size c (bytesOf a0) (some ⟨b,o,none⟩) l1.length c1 R _ hT hI (bytesOf_length a0) hc (List.length_pos_iff.mpr h0) hR (fun W hW=>?_)).mono ?_
 ·exact sk_calls (unc k) false false 0 (unc_is k) rfl l1.length k l1 (bytesOf a0) w.heap.size 0 c b o c1 W R (Nat.le_refl _) (hT.below hW) (hI.below hW) (by rw [bytesOf_length];exact hc) hcm ((hK.below hb).below hW) hc1 h
 ·intro e w' hp;exact P5_K hR hp
set_option maxHeartbeats 8000000 in
set_option maxRecDepth 100000 in
theorem jpget_calls (k : Nat) (a0:ByteArray) (A1:Option Addr) (c1:Nat) (l1:List ByteArray) (r0 r1:ByteArray) (r2 r3:Int) (r4:Bool) (w:World) (hr1:Kd.C Kd.string w A1 l1.length l1) (hc1:l1.length≤c1) (hG:Laid w) (h:jpgetF k a0 l1=some (r0,r1,r2,r3,r4)) :
 Calls Tryd.prog 9 #[.string a0, .slice A1 l1.length c1] w fun e w'=>e = .returned (.tuple #[.agg #[.string r0, .string r1, .int .i64 r2, .int .i64 r3], .bool r4])∧Below w.heap.size w w':=by
 unfold jpgetF at h
 split at h
 case isFalse=>cases h
 case isTrue hk =>
 obtain ⟨R,hS,h⟩:=Option.bind_eq_some_iff.mp h;have h:=Option.some.inj h;obtain ⟨W0,hW0⟩:∃ W0,W0=w.alloc (.cells #[.string ⟨#[]⟩, .string ⟨#[]⟩, .int .i64 0, .int .i64 0] 31):=⟨_,rfl⟩;have hb0:Below w.heap.size w W0:=by rw [hW0];exact j1g (Below.refl _ _) _
 have hz0:W0.heap[w.heap.size]? = some (.cells #[.string ⟨#[]⟩, .string ⟨#[]⟩, .int .i64 0, .int .i64 0] 31 (0,0)):=by rw [hW0];exact j4l w _
 have hb1:=bytes_below (B:=W0.heap.size) (Below.refl _ W0) (Nat.le_refl _) 5 a0;have hp:=jpg_P4 k a0 A1 c1 l1 R W0 (Kd.C_below hr1 hb0) hc1 (hG.below hb0) hk hS (grownCap W0 a0.size 0 5) (grownCap_ge W0 a0.size 0 5) (by have:=grownCap_le_maxLen W0 a0.size 0 5 (by have:=hk.1;simp only [maxLen];omega);simpa [maxLen] using this)
 generalize getR false (bytesOf a0) R=res at h hp
 have HP:=mk0 hp;have HB:=mk0 (j1p hb0 hb1);have HZ:=mk0 ((hb1.block _ (j3p hz0)).trans hz0);have kb:=fun W=>print_bytes (P:=Tryd.prog) 9 55 5 Tryd.underlying9 Tryd.underlying55 Tryd.underlying5 a0 W
 clear hb0 hz0 hb1 hp hS hG hk hr1 hc1;cases res with
 | none =>
  obtain ⟨rfl,rfl,rfl,rfl,rfl⟩:(⟨#[]⟩:ByteArray)=r0∧(⟨#[]⟩:ByteArray)=r1∧(0:Int)=r2∧(0:Int)=r3∧false=r4:=by
   have:((⟨#[]⟩:ByteArray),(⟨#[]⟩:ByteArray),(0:Int),(0:Int),false)=(r0,r1,r2,r3,r4):=h;simp only [Prod.mk.injEq] at this;exact this
  clear h;go_enter Tryd.func9,Tryd.ntmps9
  go_upto_region 1 with (fail)
  rw [← hW0];clear hW0;go_wp2_with (first|(go_at_call 23;(with_reducible refine HP.out.mono ?_);rintro e_ w_ ⟨hb,⟨hn,kd,en,te,pe,rfl⟩|⟨v,kd,og,en,o1,hr,_⟩⟩;rotate_left;exact absurd hr (by simp);have K:=mk0 hb;clear hb hn)|((with_reducible refine j3h (t:=31) (p:=4) rfl ?_);refine j3q (g:=w.heap.size) (new:=#[.string ⟨#[]⟩, .string ⟨#[]⟩, .int .i64 0, .int .i64 0]) rfl rfl rfl rfl rfl ((K.out.block _ (j3p HZ.out)).trans HZ.out) rfl zq14 zq61 ?_;intro w5 hz5 hk5 hbb5;have HZ5:=mk0 hz5;have HBB5:=mk0 (hbb5 w.heap.size (Nat.le_refl _));clear hz5 hk5 hbb5))
  refine bodyPost_ret (j2w rfl _ _ w.heap.size 31 #[.string ⟨#[]⟩, .string ⟨#[]⟩, .int .i64 0, .int .i64 0] (0,0) _ rfl HZ5.out Tryd.underlying31 rfl zq14) rfl ?_;exact ⟨rfl,(j1p HB.out K.out).trans HBB5.out⟩
 | some x =>
  obtain ⟨v,kd,og,en⟩:=x
  obtain ⟨rfl,rfl,rfl,rfl,rfl⟩:(⟨#[]⟩:ByteArray)=r0∧strOfNums v=r1∧kd=r2∧(en:Int)=r3∧true=r4:=by
   have:((⟨#[]⟩:ByteArray),strOfNums v,kd,(en:Int),true)=(r0,r1,r2,r3,r4):=h;simp only [Prod.mk.injEq] at this;exact this
  clear h;go_enter Tryd.func9,Tryd.ntmps9
  go_upto_region 1 with (fail)
  rw [← hW0];clear hW0;go_wp2_with (first|(go_at_call 23;(with_reducible refine HP.out.mono ?_);rintro e_ w_ ⟨hb,⟨hn,_⟩|⟨v_,kd_,og_,en_,o1,hr,rfl,hI⟩⟩;exact absurd hn (by simp);cases hr;have K:=mk0 hb;have hcv:=Kd.C_string (P:=Tryd.prog) (c:=v.length) Tryd.underlying55 Tryd.underlying5 Tryd.underlying9 (hI.below hb).C;clear hb hI)|((with_reducible refine j3h (t:=31) (p:=4) rfl ?_);refine j3q (g:=w.heap.size) (new:=#[.string ⟨#[]⟩, .string (strOfNums v), .int .i64 kd, .int .i64 (en:Int)]) rfl rfl rfl rfl rfl ((K.out.block _ (j3p HZ.out)).trans HZ.out) rfl zq14 zq61 ?_;intro w5 hz5 hk5 hbb5;have HZ5:=mk0 hz5;have HBB5:=mk0 (hbb5 w.heap.size (Nat.le_refl _));clear hz5 hk5 hbb5))
  refine bodyPost_ret (j2w rfl _ _ w.heap.size 31 #[.string ⟨#[]⟩, .string (strOfNums v), .int .i64 kd, .int .i64 (en:Int)] (0,0) _ rfl HZ5.out Tryd.underlying31 rfl zq14) rfl ?_;exact ⟨rfl,(j1p HB.out K.out).trans HBB5.out⟩
def jpgetintF (k : Nat) (a0:ByteArray) (l1:List ByteArray):Option (Int × Bool):=if Kok a0 l1 then (sK false (unc k) k l1 (bytesOf a0)).bind fun R=>intF k (getR false (bytesOf a0) R) else none
theorem jpgetintF_mono : ∀ a0 l1 k,LeO (jpgetintF k a0 l1) (jpgetintF (k+1) a0 l1):=fun a0 l1 k=>LeO.ite (LeO.bind (sK_mono (unc_mono k) _ _ _ _) (fun _=>intF_mono k _)) (LeO.refl _)
set_option maxHeartbeats 8000000 in
set_option maxRecDepth 100000 in
theorem jpgi_calls (k : Nat) (a0:ByteArray) (A1:Option Addr) (c1:Nat) (l1:List ByteArray) (r0:Int) (r1:Bool) (w:World) (hr1:Kd.C Kd.string w A1 l1.length l1) (hc1:l1.length≤c1) (hG:LaidI w) (h:jpgetintF k a0 l1=some (r0,r1)) :
 Calls Tryd.prog 10 #[.string a0, .slice A1 l1.length c1] w fun e w'=>e = .returned (.tuple #[.int .i64 r0, .bool r1])∧Below w.heap.size w w':=by
 unfold jpgetintF at h
 split at h
 case isFalse=>cases h
 case isTrue hk =>
 obtain ⟨R,hS,h⟩:=Option.bind_eq_some_iff.mp h;have hb1:=bytes_below (B:=w.heap.size) (Below.refl _ w) (Nat.le_refl _) 5 a0;have hp:=jpg_P4 k a0 A1 c1 l1 R w hr1 hc1 hG.toLaid hk hS (grownCap w a0.size 0 5) (grownCap_ge w a0.size 0 5) (by have:=grownCap_le_maxLen w a0.size 0 5 (by have:=hk.1;simp only [maxLen];omega);simpa [maxLen] using this);have HP:=mk0 (gi_calls k w.heap.size _ _ _ _ r0 r1 (hG.below hb1) hp h);have HB:=mk0 hb1;have kb:=fun W=>print_bytes (P:=Tryd.prog) 9 55 5 Tryd.underlying9 Tryd.underlying55 Tryd.underlying5 a0 W
 clear hb1 hp hS hG hk hr1 hc1 h;cases r1 with
 | false =>
  go_enter Tryd.func10,Tryd.ntmps10
  go_wp2_with (first|(go_at_call 24;(with_reducible refine HP.out.mono ?_);rintro e_ w_ ⟨hb,⟨hn,_⟩|⟨_,h0,te,pe,rfl⟩⟩;exact absurd hn (by simp);have K:=mk0 (j1p HB.out hb);have K0:=mk0 h0;clear hb h0))
  go_ret2
  exact ⟨by rw [K0.out];rfl,K.out⟩
 | true =>
  go_enter Tryd.func10,Tryd.ntmps10
  go_wp2_with (first|(go_at_call 24;(with_reducible refine HP.out.mono ?_);rintro e_ w_ ⟨hb,⟨_,rfl⟩|⟨hn,_⟩⟩;rotate_left;exact absurd hn (by simp);have K:=mk0 (j1p HB.out hb);clear hb))
  go_ret2
  exact ⟨rfl,K.out⟩
def j3a.f (k : Nat) (a0:ByteArray) (l1:List ByteArray):Option (Int × Bool):=jpgetintF k a0 l1
theorem j3a.mono : ∀ a0 l1 k,LeO (j3a.f k a0 l1) (j3a.f (k+1) a0 l1):=jpgetintF_mono
theorem j3a.calls (k : Nat) (a0:ByteArray) (A1:Option Addr) (c1:Nat) (l1:List ByteArray) (r0:Int) (r1:Bool) (w:World) (hr1:Kd.C Kd.string w A1 l1.length l1) (hc1:l1.length≤c1) (hG:LaidI w) (h:j3a.f k a0 l1=some (r0,r1)) :
 Calls Tryd.prog 10 #[.string a0, .slice A1 l1.length c1] w fun e w'=>e = .returned (.tuple #[.int .i64 r0, .bool r1])∧Below w.heap.size w w':=jpgi_calls k a0 A1 c1 l1 r0 r1 w hr1 hc1 hG h
mutual
def j2f.l0 : Nat → ByteArray→Int→Int→Option (Int × Bool)
  | 0,_,_,_=>none
  | k+1,x0,x4,x5=>if x5<(x0.size:Int) then (if 0≤x5 then (if (bt x0 x5)<48 then (j2f.j1 k x0 x4 x5 true) else (j2f.j1 k x0 x4 x5 (decide ((bt x0 x5)>57)))) else (none)) else (some (x4,true))
def j2f.j1 : Nat → ByteArray→Int→Int→Bool→Option (Int × Bool)
  | 0,_,_,_,_=>none
  | k+1,x0,x4,x5,x24=>if x24=true then (some (0,false)) else (if 0≤x5 then (if x5<(x0.size:Int) then (if x4>((18446744073709551615 - (((bt x0 x5) - 48) % 256)) / 10) then (some (0,false)) else (j2f.l0 k x0 (IntKind.u64.wrap ((IntKind.u64.wrap (x4*10))+(((bt x0 x5) - 48) % 256))) (wrap64 (x5+1)))) else (none)) else (none))
end
def j2f.f (k : Nat) (a0:ByteArray):Option (Int × Bool):=if a0.toList=([]:List UInt8) then (some (0,false)) else (j2f.l0 k a0 0 0)
theorem j2f.mono_l : ∀ k,(∀ y0 y1 y2,LeO (j2f.l0 k y0 y1 y2) (j2f.l0 (k+1) y0 y1 y2))∧(∀ y0 y1 y2 y3,LeO (j2f.j1 k y0 y1 y2 y3) (j2f.j1 (k+1) y0 y1 y2 y3))
 | 0=>⟨fun _ _ _ r h=>by simp [j2f.l0] at h,fun _ _ _ _ r h=>by simp [j2f.j1] at h⟩
 | k+1=>by
  obtain ⟨ih0,ih1⟩:=j2f.mono_l k;refine ⟨?_,?_⟩
  ·intro y0 y1 y2;unfold j2f.l0
   repeat' first
   | (with_reducible exact ih0 _ _ _)
   | (with_reducible exact ih1 _ _ _ _)
   | (with_reducible exact LeO.refl _)
   | (with_reducible exact LeO.none _)
   | (with_reducible refine LeO.ite ?_ ?_)
   | (with_reducible refine LeO.bind ?_ (fun _=>?_))
   | exact ih0 _ _ _
   | exact ih1 _ _ _ _
   | exact LeO.none _
   | refine LeO.ite ?_ ?_
   | refine LeO.bind ?_ (fun _=>?_)
  ·intro y0 y1 y2 y3;unfold j2f.j1
   repeat' first
   | (with_reducible exact ih0 _ _ _)
   | (with_reducible exact ih1 _ _ _ _)
   | (with_reducible exact LeO.refl _)
   | (with_reducible exact LeO.none _)
   | (with_reducible refine LeO.ite ?_ ?_)
   | (with_reducible refine LeO.bind ?_ (fun _=>?_))
   | exact ih0 _ _ _
   | exact ih1 _ _ _ _
   | exact LeO.none _
   | refine LeO.ite ?_ ?_
   | refine LeO.bind ?_ (fun _=>?_)
theorem j2f.mono : ∀ a0 k,LeO (j2f.f k a0) (j2f.f (k+1) a0):=by
 intro a0 k;obtain ⟨ih0,ih1⟩:=j2f.mono_l k;unfold j2f.f
 repeat' first
  | (with_reducible exact ih0 _ _ _)
  | (with_reducible exact ih1 _ _ _ _)
  | (with_reducible exact LeO.refl _)
  | (with_reducible exact LeO.none _)
  | (with_reducible refine LeO.ite ?_ ?_)
  | (with_reducible refine LeO.bind ?_ (fun _=>?_))
  | exact ih0 _ _ _
  | exact ih1 _ _ _ _
  | exact LeO.none _
  | refine LeO.ite ?_ ?_
  | refine LeO.bind ?_ (fun _=>?_)
set_option maxHeartbeats 8000000 in
set_option maxRecDepth 100000 in
theorem j2f.calls (k : Nat) (a0:ByteArray) (r1:Int) (r2:Bool) (w:World) (h:j2f.f k a0=some (r1,r2)) :
 Calls Tryd.prog 15 #[.string a0] w fun e w'=>e = .returned (.tuple #[.int .u64 r1, .bool r2])∧Drawn0 w w':=by
 have H:(if a0.toList=([]:List UInt8) then (some (0,false)) else (j2f.l0 k a0 0 0))=some (r1,r2):=h;clear h;by_cases c2:a0.toList=([]:List UInt8)
 ·rw [if_pos c2] at H;have c2b0:(a0.toList == ([]:List UInt8))=true:=beq_iff_eq.mpr c2;have c2b1:(a0.toList != ([]:List UInt8))=false:=bne_eq_false_iff_eq.mpr c2;clear c2;simp only [Option.some.injEq,Prod.mk.injEq] at H;obtain ⟨rfl,rfl⟩:=H;go_enter Tryd.func15,Tryd.ntmps15
  go_wp2
  go_ret2
  exact zl6
 rw [if_neg c2] at H;have c2b0:(a0.toList == ([]:List UInt8))=false:=beq_eq_false_iff_ne.mpr c2;have c2b1:(a0.toList != ([]:List UInt8))=true:=bne_iff_ne.mpr c2;have H':=mk0 H;clear H;go_enter Tryd.func15,Tryd.ntmps15
 go_wp2
 go_loopg [4,5] k (fun kq v4 v5 w'=>∃ (x4_1:Int) (x5_1:Int),v4 = .int .u64 x4_1∧v5 = .int .i64 x5_1∧Aside0 (j2f.l0 kq a0 x4_1 x5_1=some (r1,r2))∧Aside0 (kq≤k)∧Drawn0 w w')
 case atStart=>exact ⟨(0),(0),(by rfl),(by rfl),H',⟨Nat.le_refl _⟩,by repeat (first|exact Drawn0.refl _|apply Drawn0.step)⟩
 case round =>
  clear H';clear c2 c2b0 c2b1;obtain ⟨x4_1,x5_1,rfl,rfl,HA,HK1,⟨m1,rfl⟩⟩:=hrel;cases gk with
  | zero=>exact absurd HA.out (by simp [j2f.l0])
  | succ k1 =>
   have H:=HA.out;clear HA;simp only [j2f.l0] at H;by_cases c3:x5_1<(a0.size:Int)
   rotate_left
   ·rw [if_neg c3] at H;have c3b0:decide (x5_1<(a0.size:Int))=false:=decide_eq_false c3;clear c3;simp only [Option.some.injEq,Prod.mk.injEq] at H;obtain ⟨rfl,rfl⟩:=H;go_wp2
    go_ret2
    exact zl6
   rw [if_pos c3] at H;have c3b0:decide (x5_1<(a0.size:Int))=true:=decide_eq_true c3;clear c3;have HC4:=mk0 H;clear H;go_upto_region 7 with (fail)
   go_cut [24] (fun v24 wc=>∃ (kq:Nat) (x24_3:Bool),v24 = .bool x24_3∧Aside0 (j2f.j1 kq a0 x4_1 x5_1 x24_3=some (r1,r2))∧Aside0 (kq≤k1)∧Drawn0 w wc)
   case first =>
    have H:=HC4.out;clear HC4;by_cases c5:0≤x5_1
    rotate_left
    ·rw [if_neg c5] at H;exact absurd H (by simp)
    rw [if_pos c5] at H;have c5b0:decide (0≤x5_1)=true:=decide_eq_true c5;clear c5
    (skip)
    by_cases c7:(bt a0 x5_1)<48
    ·rw [if_pos c7] at H;have c7b0:decide ((bt a0 x5_1)<48)=true:=decide_eq_true c7;clear c7;have H':=mk0 H;clear H;have p6:0≤(x5_1:Int):=of_decide_eq_true zq16;have q6:x5_1<(a0.size:Int):=of_decide_eq_true zq16;have hx6:=bt_at a0 x5_1;replace p6:=eq_true p6;replace q6:=eq_true q6;go_wp2
     go_meet
     case rel=>exact ⟨_,(true),(by rfl),H',⟨by have:=HK1.out;first|omega|exact Nat.le_refl _⟩,by repeat (first|exact Drawn0.refl _|apply Drawn0.step)⟩
    rw [if_neg c7] at H;have c7b0:decide ((bt a0 x5_1)<48)=false:=decide_eq_false c7;clear c7;have H':=mk0 H;clear H;have p6:0≤(x5_1:Int):=of_decide_eq_true zq16;have q6:x5_1<(a0.size:Int):=of_decide_eq_true zq16;have hx6:=bt_at a0 x5_1;replace p6:=eq_true p6;replace q6:=eq_true q6;have p8:0≤(x5_1:Int):=of_decide_eq_true zq16;have q8:x5_1<(a0.size:Int):=of_decide_eq_true zq16;have hx8:=bt_at a0 x5_1;replace p8:=eq_true p8;replace q8:=eq_true q8;go_wp2
    go_meet
    case rel=>exact ⟨_,(decide ((bt a0 x5_1)>57)),(by rfl),H',⟨by have:=HK1.out;first|omega|exact Nat.le_refl _⟩,by repeat (first|exact Drawn0.refl _|apply Drawn0.step)⟩
   case rest =>
    clear HC4 c3b0;obtain ⟨kq,x24_3,rfl,HA,HJ3,⟨mc3,rfl⟩⟩:=hcut;cases kq with
    | zero=>exact absurd HA.out (by simp [j2f.j1])
    | succ kj3 =>
     have H:=HA.out;clear HA;simp only [j2f.j1] at H;by_cases c9:x24_3=true
     ·subst c9;rw [if_pos rfl] at H;simp only [Option.some.injEq,Prod.mk.injEq] at H;obtain ⟨rfl,rfl⟩:=H;go_wp2
      go_ret2
      exact zl6
     replace c9:=Bool.eq_false_iff.mpr c9;subst c9;rw [if_neg (show ¬ (false=true) by decide)] at H;by_cases c10:0≤x5_1
     rotate_left
     ·rw [if_neg c10] at H;exact absurd H (by simp)
     rw [if_pos c10] at H;have c10b0:decide (0≤x5_1)=true:=decide_eq_true c10;clear c10;by_cases c11:x5_1<(a0.size:Int)
     rotate_left
     ·rw [if_neg c11] at H;exact absurd H (by simp)
     rw [if_pos c11] at H;have c11b0:decide (x5_1<(a0.size:Int))=true:=decide_eq_true c11;clear c11;by_cases c13:x4_1>((18446744073709551615 - (((bt a0 x5_1) - 48) % 256)) / 10)
     ·rw [if_pos c13] at H;have c13b0:decide (((18446744073709551615 - (((bt a0 x5_1) - 48) % 256)) / 10)<x4_1)=true:=decide_eq_true c13;clear c13;simp only [Option.some.injEq,Prod.mk.injEq] at H;obtain ⟨rfl,rfl⟩:=H;have p12:0≤(x5_1:Int):=of_decide_eq_true zq16;have q12:x5_1<(a0.size:Int):=of_decide_eq_true zq16;have hx12:=bt_at a0 x5_1;replace p12:=eq_true p12;replace q12:=eq_true q12;go_wp2
      go_ret2
      exact zl6
     rw [if_neg c13] at H;have c13b0:decide (((18446744073709551615 - (((bt a0 x5_1) - 48) % 256)) / 10)<x4_1)=false:=decide_eq_false c13;clear c13;have H':=mk0 H;clear H;have p12:0≤(x5_1:Int):=of_decide_eq_true zq16;have q12:x5_1<(a0.size:Int):=of_decide_eq_true zq16;have hx12:=bt_at a0 x5_1;replace p12:=eq_true p12;replace q12:=eq_true q12;go_wp2
     go_roundg kj3
     case measure=>have:=HK1.out;have:=HJ3.out;omega
     case rel=>exact ⟨(IntKind.u64.wrap ((IntKind.u64.wrap (x4_1*10))+(((bt a0 x5_1) - 48) % 256))),(wrap64 (x5_1+1)),(by rfl),(by rfl),H',⟨by have:=HK1.out;have:=HJ3.out;omega⟩,by repeat (first|exact Drawn0.refl _|apply Drawn0.step)⟩
mutual
def j2g.j0 : Nat → ByteArray→Bool→Option (Int × Bool)
  | 0,_,_=>none
  | k+1,x0,x4=>if x4=true then (if 1≤(x0.size:Int) then (j2g.j1 k (x0.extract 1 x0.size) x4) else (none)) else (j2g.j1 k x0 x4)
def j2g.j1 : Nat → ByteArray→Bool→Option (Int × Bool)
  | 0,_,_=>none
  | k+1,x0,x4=>(j2f.f k x0).bind fun bt101=>(if bt101.2=true then (if x4=true then (j2g.j2 k x4 bt101.1 (decide (bt101.1≤9223372036854775808))) else (j2g.j2 k x4 bt101.1 false)) else (some (0,false)))
def j2g.j2 : Nat → Bool→Int→Bool→Option (Int × Bool)
  | 0,_,_,_=>none
  | k+1,x4,x5,x25=>if x25=true then (some (wrap64 (IntKind.u64.wrap (-x5)),true)) else (if x4=true then (some (0,false)) else (if x5<9223372036854775808 then (some (wrap64 (x5),true)) else (some (0,false))))
end
def j2g.f (k : Nat) (a0:ByteArray):Option (Int × Bool):=if a0.toList=([]:List UInt8) then (j2g.j0 k a0 false) else (if 0<(a0.size:Int) then (j2g.j0 k a0 ((bt a0 0) == 45)) else (none))
theorem j2g.mono_l : ∀ k,(∀ y0 y1,LeO (j2g.j0 k y0 y1) (j2g.j0 (k+1) y0 y1))∧(∀ y0 y1,LeO (j2g.j1 k y0 y1) (j2g.j1 (k+1) y0 y1))∧(∀ y0 y1 y2,LeO (j2g.j2 k y0 y1 y2) (j2g.j2 (k+1) y0 y1 y2))
 | 0=>⟨fun _ _ r h=>by simp [j2g.j0] at h,fun _ _ r h=>by simp [j2g.j1] at h,fun _ _ _ r h=>by simp [j2g.j2] at h⟩
 | k+1=>by
  obtain ⟨ih0,ih1,ih2⟩:=j2g.mono_l k;refine ⟨?_,?_,?_⟩
  ·intro y0 y1;unfold j2g.j0
   repeat' first
   | (with_reducible exact ih0 _ _)
   | (with_reducible exact ih1 _ _)
   | (with_reducible exact ih2 _ _ _)
   | (with_reducible exact j2f.mono _ _)
   | (with_reducible exact LeO.refl _)
   | (with_reducible exact LeO.none _)
   | (with_reducible refine LeO.ite ?_ ?_)
   | (with_reducible refine LeO.bind ?_ (fun _=>?_))
   | exact ih0 _ _
   | exact ih1 _ _
   | exact ih2 _ _ _
   | exact j2f.mono _ _
   | exact LeO.none _
   | refine LeO.ite ?_ ?_
   | refine LeO.bind ?_ (fun _=>?_)
  ·intro y0 y1;unfold j2g.j1
   repeat' first
   | (with_reducible exact ih0 _ _)
   | (with_reducible exact ih1 _ _)
   | (with_reducible exact ih2 _ _ _)
   | (with_reducible exact j2f.mono _ _)
   | (with_reducible exact LeO.refl _)
   | (with_reducible exact LeO.none _)
   | (with_reducible refine LeO.ite ?_ ?_)
   | (with_reducible refine LeO.bind ?_ (fun _=>?_))
   | exact ih0 _ _
   | exact ih1 _ _
   | exact ih2 _ _ _
   | exact j2f.mono _ _
   | exact LeO.none _
   | refine LeO.ite ?_ ?_
   | refine LeO.bind ?_ (fun _=>?_)
  ·intro y0 y1 y2;unfold j2g.j2
   repeat' first
   | (with_reducible exact ih0 _ _)
   | (with_reducible exact ih1 _ _)
   | (with_reducible exact ih2 _ _ _)
   | (with_reducible exact j2f.mono _ _)
   | (with_reducible exact LeO.refl _)
   | (with_reducible exact LeO.none _)
   | (with_reducible refine LeO.ite ?_ ?_)
   | (with_reducible refine LeO.bind ?_ (fun _=>?_))
   | exact ih0 _ _
   | exact ih1 _ _
   | exact ih2 _ _ _
   | exact j2f.mono _ _
   | exact LeO.none _
   | refine LeO.ite ?_ ?_
   | refine LeO.bind ?_ (fun _=>?_)
theorem j2g.mono : ∀ a0 k,LeO (j2g.f k a0) (j2g.f (k+1) a0):=by
 intro a0 k;obtain ⟨ih0,ih1,ih2⟩:=j2g.mono_l k;unfold j2g.f
 repeat' first
  | (with_reducible exact ih0 _ _)
  | (with_reducible exact ih1 _ _)
  | (with_reducible exact ih2 _ _ _)
  | (with_reducible exact j2f.mono _ _)
  | (with_reducible exact LeO.refl _)
  | (with_reducible exact LeO.none _)
  | (with_reducible refine LeO.ite ?_ ?_)
  | (with_reducible refine LeO.bind ?_ (fun _=>?_))
  | exact ih0 _ _
  | exact ih1 _ _
  | exact ih2 _ _ _
  | exact j2f.mono _ _
  | exact LeO.none _
  | refine LeO.ite ?_ ?_
  | refine LeO.bind ?_ (fun _=>?_)
set_option maxHeartbeats 8000000 in
set_option maxRecDepth 100000 in
theorem j2g.calls (k : Nat) (a0:ByteArray) (r1:Int) (r2:Bool) (w:World) (h:j2g.f k a0=some (r1,r2)) :
 Calls Tryd.prog 11 #[.string a0] w fun e w'=>e = .returned (.tuple #[.int .i64 r1, .bool r2])∧Drawn0 w w':=by
 have H:(if a0.toList=([]:List UInt8) then (j2g.j0 k a0 false) else (if 0<(a0.size:Int) then (j2g.j0 k a0 ((bt a0 0) == 45)) else (none)))=some (r1,r2):=h;clear h;have HC2:=mk0 H;clear H;go_enter Tryd.func11,Tryd.ntmps11
 go_upto_region 1 with (fail)
 go_cut [4] (fun v4 wc=>∃ (kq:Nat) (x4_1:Bool),v4 = .bool x4_1∧Aside0 (j2g.j0 kq a0 x4_1=some (r1,r2))∧Aside0 (kq≤k)∧Drawn0 w wc)
 case first =>
  have H:=HC2.out;clear HC2;by_cases c3:a0.toList=([]:List UInt8)
  ·rw [if_pos c3] at H;have c3b0:(a0.toList == ([]:List UInt8))=true:=beq_iff_eq.mpr c3;have c3b1:(a0.toList != ([]:List UInt8))=false:=bne_eq_false_iff_eq.mpr c3;clear c3
   (skip)
   have H':=mk0 H;clear H;go_wp2
   go_meet
   case rel=>exact ⟨_,(false),(by rfl),H',⟨by omega⟩,by repeat (first|exact Drawn0.refl _|apply Drawn0.step)⟩
  rw [if_neg c3] at H;have c3b0:(a0.toList == ([]:List UInt8))=false:=beq_eq_false_iff_ne.mpr c3;have c3b1:(a0.toList != ([]:List UInt8))=true:=bne_iff_ne.mpr c3
  (skip)
  by_cases c4:0<(a0.size:Int)
  rotate_left
  ·rw [if_neg c4] at H;exact absurd H (by simp)
  rw [if_pos c4] at H;have c4b0:decide (0<(a0.size:Int))=true:=decide_eq_true c4;have c4b1:decide (0<a0.size)=true:=decide_eq_true (by omega);clear c4;have H':=mk0 H;clear H;have p5:0≤(0:Int):=(by omega);have q5:0<a0.size:=(by have:(0:Int)<(a0.size:Int):=of_decide_eq_true zq16;omega);have hx5:∀ h:0<a0.size,((a0[0]'h).toNat:Int)=bt a0 0:=bt_at a0 0;clear p5;have qi5:(0<(a0.size:Int))=True:=eq_true (of_decide_eq_true zq16);replace q5:=eq_true q5;go_wp2
  go_meet
  case rel=>exact ⟨_,(((bt a0 0) == 45)),(by rfl),H',⟨by omega⟩,by repeat (first|exact Drawn0.refl _|apply Drawn0.step)⟩
 case rest =>
  clear HC2;obtain ⟨kq,x4_1,rfl,HA,HJ1,⟨mc1,rfl⟩⟩:=hcut;cases kq with
  | zero=>exact absurd HA.out (by simp [j2g.j0])
  | succ kj1 =>
   have H:=HA.out;clear HA;simp only [j2g.j0] at H;have HC6:=mk0 H;clear H;go_upto_if 14 with (fail)
   go_cut [0] (fun v0 wc=>∃ (kq:Nat) (x0_5:ByteArray),v0 = .string x0_5∧Aside0 (j2g.j1 kq x0_5 x4_1=some (r1,r2))∧Aside0 (kq≤kj1)∧Drawn0 w wc)
   case first =>
    have H:=HC6.out;clear HC6;by_cases c7:x4_1=true
    rotate_left
    ·replace c7:=Bool.eq_false_iff.mpr c7;subst c7;rw [if_neg (show ¬ (false=true) by decide)] at H;have H':=mk0 H;clear H;go_wp2
     go_meet
     case rel=>exact ⟨_,(a0),(by rfl),H',⟨by have:=HJ1.out;first|omega|exact Nat.le_refl _⟩,by repeat (first|exact Drawn0.refl _|apply Drawn0.step)⟩
    subst c7;rw [if_pos rfl] at H;by_cases c8:1≤(a0.size:Int)
    rotate_left
    ·rw [if_neg c8] at H;exact absurd H (by simp)
    rw [if_pos c8] at H;have c8b0:=eq_true c8;have c8b1:decide (1≤(a0.size:Int))=true:=decide_eq_true c8;clear c8;have H':=mk0 H;clear H;go_wp2
    go_meet
    case rel=>exact ⟨_,(a0.extract 1 a0.size),(by rfl),H',⟨by have:=HJ1.out;first|omega|exact Nat.le_refl _⟩,by repeat (first|exact Drawn0.refl _|apply Drawn0.step)⟩
   case rest =>
    clear HC6;obtain ⟨kq,x0_5,rfl,HA,HJ5,⟨mc5,rfl⟩⟩:=hcut;cases kq with
    | zero=>exact absurd HA.out (by simp [j2g.j1])
    | succ kj5 =>
     have H:=HA.out;clear HA;simp only [j2g.j1] at H;replace H:=Option.bind_eq_some_iff.mp H;obtain ⟨⟨t101,t102⟩,A90,H⟩:=H
     (try dsimp only at H)
     have A9:=mk0 A90;clear A90;by_cases c10:t102=true
     rotate_left
     ·replace c10:=Bool.eq_false_iff.mpr c10;subst c10;rw [if_neg (show ¬ (false=true) by decide)] at H;simp only [Option.some.injEq,Prod.mk.injEq] at H;obtain ⟨rfl,rfl⟩:=H;go_wp2_with (first|((with_reducible refine j1u (f:=15) rfl ?_);refine j2p (some 19) rfl rfl Tryd.func15 zq14 rfl #[.string x0_5] rfl zq1 ?_;(with_reducible refine (j2f.calls kj5 x0_5 t101 false _ A9.out).mono ?_);rintro e w' ⟨rfl,⟨nd,rfl⟩⟩;refine ⟨_,rfl,?_⟩))
      go_ret2
      exact zl6
     subst c10;rw [if_pos rfl] at H;have HC11:=mk0 H;clear H;go_upto_region 7 with (first|((with_reducible refine j1u (f:=15) rfl ?_);refine j2p (some 19) rfl rfl Tryd.func15 zq14 rfl #[.string x0_5] rfl zq1 ?_;(with_reducible refine (j2f.calls kj5 x0_5 t101 true _ A9.out).mono ?_);rintro e w' ⟨rfl,⟨nd,rfl⟩⟩;refine ⟨_,rfl,?_⟩))
     (try simp only [Act.put,List.setIfInBounds_toArray,List.set_cons_zero,List.set_cons_succ])
     go_cut [25] (fun v25 wc=>∃ (kq:Nat) (x25_10:Bool),v25 = .bool x25_10∧Aside0 (j2g.j2 kq x4_1 t101 x25_10=some (r1,r2))∧Aside0 (kq≤kj5)∧Drawn0 w wc)
     case first =>
      have H:=HC11.out;clear HC11;by_cases c12:x4_1=true
      ·subst c12;rw [if_pos rfl] at H;have H':=mk0 H;clear H;go_wp2
       go_meet
       case rel=>exact ⟨_,(decide (t101≤9223372036854775808)),(by rfl),H',⟨by have:=HJ1.out;have:=HJ5.out;first|omega|exact Nat.le_refl _⟩,by repeat (first|exact Drawn0.refl _|apply Drawn0.step)⟩
      replace c12:=Bool.eq_false_iff.mpr c12;subst c12;rw [if_neg (show ¬ (false=true) by decide)] at H;have H':=mk0 H;clear H;go_wp2
      go_meet
      case rel=>exact ⟨_,(false),(by rfl),H',⟨by have:=HJ1.out;have:=HJ5.out;first|omega|exact Nat.le_refl _⟩,by repeat (first|exact Drawn0.refl _|apply Drawn0.step)⟩
     case rest =>
      clear HC11;obtain ⟨kq,x25_10,rfl,HA,HJ10,⟨mc10,rfl⟩⟩:=hcut;cases kq with
      | zero=>exact absurd HA.out (by simp [j2g.j2])
      | succ kj10 =>
       have H:=HA.out;clear HA;simp only [j2g.j2] at H;by_cases c13:x25_10=true
       ·subst c13;rw [if_pos rfl] at H;simp only [Option.some.injEq,Prod.mk.injEq] at H;obtain ⟨rfl,rfl⟩:=H;go_wp2
        go_ret2
        exact zl6
       replace c13:=Bool.eq_false_iff.mpr c13;subst c13;rw [if_neg (show ¬ (false=true) by decide)] at H;by_cases c14:x4_1=true
       ·subst c14;rw [if_pos rfl] at H;simp only [Option.some.injEq,Prod.mk.injEq] at H;obtain ⟨rfl,rfl⟩:=H;go_wp2
        go_ret2
        exact zl6
       replace c14:=Bool.eq_false_iff.mpr c14;subst c14;rw [if_neg (show ¬ (false=true) by decide)] at H;by_cases c15:t101<9223372036854775808
       ·rw [if_pos c15] at H;have c15b0:decide (t101<9223372036854775808)=true:=decide_eq_true c15;clear c15;simp only [Option.some.injEq,Prod.mk.injEq] at H;obtain ⟨rfl,rfl⟩:=H;go_wp2
        go_ret2
        exact zl6
       rw [if_neg c15] at H;have c15b0:decide (t101<9223372036854775808)=false:=decide_eq_false c15;clear c15;simp only [Option.some.injEq,Prod.mk.injEq] at H;obtain ⟨rfl,rfl⟩:=H;go_wp2
       go_ret2
       exact zl6
end Go.Proofs.YthmjfmpgmcgonaaDoor.K
end
