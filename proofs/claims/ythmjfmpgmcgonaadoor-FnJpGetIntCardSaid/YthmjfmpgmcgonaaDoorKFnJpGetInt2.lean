/- The words, walks and laws that the proof rests on, laid together (part 2). -/
import Derived.Test.YthmjfmpgmcgonaaDoorKFnJpGetInt1
section
namespace Go.Proofs.YthmjfmpgmcgonaaDoor.K
open Go.RowKit Go.Proofs.YthmjfmpgmcgonaaDoorW.PrintWords Go.Proofs.YthmjfmpgmcgonaaDoorW.PrintLast Go.Proofs.YthmjfmpgmcgonaaDoorW.PrintMore
attribute [local go_sem] max2_int min2_int max_two min_two max_three min_three max_four min_four
set_option linter.unusedVariables false
set_option linter.unusedSimpArgs false
def j2x.f (s0_0 : ByteArray) (s0_1:Int) (a1:ByteArray):Option (Bool × ByteArray × Int):=if (wrap64 ((s0_0.size:Int) - s0_1))<(a1.size:Int) then (some (false,s0_0,s0_1)) else (if 0≤s0_1 then (if s0_1≤(wrap64 (s0_1+(a1.size:Int))) then (if (wrap64 (s0_1+(a1.size:Int)))≤(s0_0.size:Int) then (if (s0_0.extract (s0_1:Int).toNat ((wrap64 (s0_1+(a1.size:Int))):Int).toNat).toList=a1.toList then (some (true,s0_0,wrap64 (s0_1+(a1.size:Int)))) else (some (false,s0_0,s0_1))) else (none)) else (none)) else (none))
set_option maxHeartbeats 8000000 in
set_option maxRecDepth 100000 in
theorem j2x.calls (g : Nat) (s0_0:ByteArray) (s0_1:Int) (a1:ByteArray) (r1:Bool) (r2:ByteArray) (r3:Int) (w0 w:World) (hI:IsS89 w0 w g s0_0 s0_1) (hB:Below w0.heap.size w0 w) (h:j2x.f s0_0 s0_1 a1=some (r1,r2,r3)) :
 Calls Tryd.prog 68 #[.pointer (some ⟨g,0,none⟩), .string a1] w fun e w'=>e = .returned (.bool r1)∧IsS89 w0 w' g r2 r3∧Below w0.heap.size w0 w'∧KeepBut w w' g none:=by
 have HI0:=mk0 hI;have HK:=mk0 (KeepBut.refl w g none);have HL:=mk0 hB.size;clear hI;have HW0:=mk0 hB.size;have HB:=mk0 hB;clear hB;have H:(if (wrap64 ((s0_0.size:Int) - s0_1))<(a1.size:Int) then (some (false,s0_0,s0_1)) else (if 0≤s0_1 then (if s0_1≤(wrap64 (s0_1+(a1.size:Int))) then (if (wrap64 (s0_1+(a1.size:Int)))≤(s0_0.size:Int) then (if (s0_0.extract (s0_1:Int).toNat ((wrap64 (s0_1+(a1.size:Int))):Int).toNat).toList=a1.toList then (some (true,s0_0,wrap64 (s0_1+(a1.size:Int)))) else (some (false,s0_0,s0_1))) else (none)) else (none)) else (none)))=some (r1,r2,r3):=h;clear h;by_cases c3:(wrap64 ((s0_0.size:Int) - s0_1))<(a1.size:Int)
 ·rw [if_pos c3] at H;have c3b0:decide ((wrap64 ((s0_0.size:Int) - s0_1))<(a1.size:Int))=true:=decide_eq_true c3;clear c3;simp only [Option.some.injEq,Prod.mk.injEq] at H;obtain ⟨rfl,rfl,rfl⟩:=H;obtain ⟨HGz4,hgz4⟩:=HI0.out;have hcz4_0:=j2u HGz4;have hcz4_1:=j2t HGz4;have hfz4_0:=j1a HGz4 0;have hfz4_1:=j1a HGz4 1;clear HGz4 hgz4;go_enter Tryd.func68,Tryd.ntmps68
  go_wp2
  repeat (go_quiet (fail);try go_wp2)
  go_ret
  exact zl1
 rw [if_neg c3] at H;have c3b0:decide ((wrap64 ((s0_0.size:Int) - s0_1))<(a1.size:Int))=false:=decide_eq_false c3;clear c3;by_cases c5:0≤s0_1
 rotate_left
 ·rw [if_neg c5] at H;exact absurd H (by simp)
 rw [if_pos c5] at H;have c5b0:=eq_true c5;have c5b1:decide (0≤s0_1)=true:=decide_eq_true c5;clear c5;by_cases c6:s0_1≤(wrap64 (s0_1+(a1.size:Int)))
 rotate_left
 ·rw [if_neg c6] at H;exact absurd H (by simp)
 rw [if_pos c6] at H;have c6b0:=eq_true c6;have c6b1:decide (s0_1≤(wrap64 (s0_1+(a1.size:Int))))=true:=decide_eq_true c6;by_cases c7:(wrap64 (s0_1+(a1.size:Int)))≤(s0_0.size:Int)
 rotate_left
 ·rw [if_neg c7] at H;exact absurd H (by simp)
 rw [if_pos c7] at H;have c7b0:=eq_true c7;have c7b1:decide ((wrap64 (s0_1+(a1.size:Int)))≤(s0_0.size:Int))=true:=decide_eq_true c7;by_cases c8:(s0_0.extract (s0_1:Int).toNat ((wrap64 (s0_1+(a1.size:Int))):Int).toNat).toList=a1.toList
 rotate_left
 ·rw [if_neg c8] at H;have c8b0:((s0_0.extract (s0_1:Int).toNat ((wrap64 (s0_1+(a1.size:Int))):Int).toNat).toList == a1.toList)=false:=beq_eq_false_iff_ne.mpr c8;have c8b1:((s0_0.extract (s0_1:Int).toNat ((wrap64 (s0_1+(a1.size:Int))):Int).toNat).toList != a1.toList)=true:=bne_iff_ne.mpr c8;simp only [Option.some.injEq,Prod.mk.injEq] at H;obtain ⟨rfl,rfl,rfl⟩:=H;obtain ⟨HGz10,hgz10⟩:=HI0.out;have hcz10_0:=j2u HGz10;have hcz10_1:=j2t HGz10;have hfz10_0:=j1a HGz10 0;have hfz10_1:=j1a HGz10 1;clear HGz10 hgz10;go_enter Tryd.func68,Tryd.ntmps68
  go_wp2
  repeat (go_quiet (fail);try go_wp2)
  go_ret
  exact zl1
 rw [if_pos c8] at H;have c8b0:((s0_0.extract (s0_1:Int).toNat ((wrap64 (s0_1+(a1.size:Int))):Int).toNat).toList == a1.toList)=true:=beq_iff_eq.mpr c8;have c8b1:((s0_0.extract (s0_1:Int).toNat ((wrap64 (s0_1+(a1.size:Int))):Int).toNat).toList != a1.toList)=false:=bne_eq_false_iff_eq.mpr c8;clear c8;simp only [Option.some.injEq,Prod.mk.injEq] at H;obtain ⟨rfl,rfl,rfl⟩:=H;obtain ⟨HGz9,hgz9⟩:=HI0.out;have hcz9_0:=j2u HGz9;have hcz9_1:=j2t HGz9;have hfz9_0:=j1a HGz9 0;have hfz9_1:=j1a HGz9 1;clear HGz9 hgz9;go_enter Tryd.func68,Tryd.ntmps68
 go_wp2
 repeat (go_quiet (fail);try go_wp2)
 go_ret
 exact zl1
mutual
def j1n.j0 : Nat → Bool→Bool→ByteArray→Int→Int→Int→Int→Option (Int × Int × Int × (List (S49)) × (List (S27)) × Bool × ByteArray × Int)
  | 0,_,_,_,_,_,_,_=>none
  | k+1,x5,x42,x1000,x1001,x103000,x103001,x103002=>if x42=true then ((j1h.f k x1000 x1001).bind fun bt124=>(some (3,x103001,bt124.2.2,([]:List (S49)),([]:List (S27)),bt124.1,bt124.2.1,bt124.2.2))) else ((j2x.f x1000 x1001 (⟨#[110,117,108,108]⟩:ByteArray)).bind fun bt127=>(if bt127.1=true then (some (0,x103001,bt127.2.2,([]:List (S49)),([]:List (S27)),x5,bt127.2.1,bt127.2.2)) else ((j2x.f bt127.2.1 bt127.2.2 (⟨#[102,97,108,115,101]⟩:ByteArray)).bind fun bt130=>(if bt130.1=true then (some (1,x103001,bt130.2.2,([]:List (S49)),([]:List (S27)),x5,bt130.2.1,bt130.2.2)) else ((j2x.f bt130.2.1 bt130.2.2 (⟨#[116,114,117,101]⟩:ByteArray)).bind fun bt133=>(if bt133.1=true then (some (2,x103001,bt133.2.2,([]:List (S49)),([]:List (S27)),x5,bt133.2.1,bt133.2.2)) else (some (x103000,x103001,bt133.2.2,([]:List (S49)),([]:List (S27)),false,bt133.2.1,bt133.2.2))))))))
def j1n.f : Nat → ByteArray→Int→Option (Int × Int × Int × (List (S49)) × (List (S27)) × Bool × ByteArray × Int)
  | 0,_,_=>none
  | k+1,s0_0,s0_1=>(j2e.f s0_0 s0_1).bind fun bt103=>(if bt103.1=123 then ((j1j.f k bt103.2.1 bt103.2.2).bind fun bt106=>(some (6,s0_1,bt106.2.2.2.2,bt106.1,bt106.2.1,bt106.2.2.1,bt106.2.2.2.1,bt106.2.2.2.2))) else (if bt103.1=91 then ((j1r.f k bt103.2.1 bt103.2.2).bind fun bt115=>(some (5,s0_1,bt115.2.2.2,([]:List (S49)),bt115.1,bt115.2.1,bt115.2.2.1,bt115.2.2.2))) else (if bt103.1=34 then ((j1t.f k bt103.2.1 bt103.2.2).bind fun bt121=>(some (4,s0_1,bt121.2.2,([]:List (S49)),([]:List (S27)),bt121.1,bt121.2.1,bt121.2.2))) else (if bt103.1=45 then (j1n.j0 k true true bt103.2.1 bt103.2.2 0 s0_1 0) else (if 48≤bt103.1 then (j1n.j0 k true (decide (bt103.1≤57)) bt103.2.1 bt103.2.2 0 s0_1 0) else (j1n.j0 k true false bt103.2.1 bt103.2.2 0 s0_1 0))))))
def j1j.l0 : Nat → List (S49)→List (S27)→ByteArray→Int→Option ((List (S49)) × (List (S27)) × Bool × ByteArray × Int)
  | 0,_,_,_,_=>none
  | k+1,x5,x6,x1000,x1001=>(j2e.f x1000 x1001).bind fun bt141=>(if bt141.1=34 then ((j1t.f k bt141.2.1 bt141.2.2).bind fun bt144=>(j1j.j1 k x5 x6 x1001 (!bt144.1) bt144.2.1 bt144.2.2)) else (j1j.j1 k x5 x6 x1001 true bt141.2.1 bt141.2.2))
def j1j.j1 : Nat → List (S49)→List (S27)→Int→Bool→ByteArray→Int→Option ((List (S49)) × (List (S27)) × Bool × ByteArray × Int)
  | 0,_,_,_,_,_,_=>none
  | k+1,x5,x6,x7,x32,x1000,x1001=>if x32=true then (some (([]:List (S49)),([]:List (S27)),false,x1000,x1001)) else (if x5.length<8796093022208 then ((some (x5++[(⟨x7,x1001⟩:S49)]:List (S49))).bind fun y147=>((j1k.f k x1000 x1001).bind fun bt150=>((j1o.f bt150.1 bt150.2 58).bind fun bt152=>(if bt152.1=true then ((j1k.f k bt152.2.1 bt152.2.2).bind fun bt155=>((j1n.f k bt155.1 bt155.2).bind fun bt157=>(if bt157.2.2.2.2.2.1=true then (if x6.length<1954687338268 then ((some (x6++[(⟨bt157.1,bt157.2.1,bt157.2.2.1,bt157.2.2.2.1,bt157.2.2.2.2.1⟩:S27)]:List (S27))).bind fun y170=>((j1k.f k bt157.2.2.2.2.2.2.1 bt157.2.2.2.2.2.2.2).bind fun bt173=>((j1o.f bt173.1 bt173.2 125).bind fun bt175=>(if bt175.1=true then (some (y147,y170,true,bt175.2.1,bt175.2.2)) else ((j1o.f bt175.2.1 bt175.2.2 44).bind fun bt178=>(if bt178.1=true then ((j1k.f k bt178.2.1 bt178.2.2).bind fun bt181=>(j1j.l0 k y147 y170 bt181.1 bt181.2)) else (some (([]:List (S49)),([]:List (S27)),false,bt178.2.1,bt178.2.2)))))))) else (none)) else (some (([]:List (S49)),([]:List (S27)),false,bt157.2.2.2.2.2.2.1,bt157.2.2.2.2.2.2.2))))) else (some (([]:List (S49)),([]:List (S27)),false,bt152.2.1,bt152.2.2)))))) else (none))
def j1j.f : Nat → ByteArray→Int→Option ((List (S49)) × (List (S27)) × Bool × ByteArray × Int)
  | 0,_,_=>none
  | k+1,s0_0,s0_1=>(j1k.f k s0_0 (wrap64 (s0_1+1))).bind fun bt136=>((j1o.f bt136.1 bt136.2 125).bind fun bt138=>(if bt138.1=true then (some (([]:List (S49)),([]:List (S27)),true,bt138.2.1,bt138.2.2)) else (j1j.l0 k ([]:List (S49)) ([]:List (S27)) bt138.2.1 bt138.2.2)))
def j1r.l0 : Nat → List (S27)→ByteArray→Int→Option ((List (S27)) × Bool × ByteArray × Int)
  | 0,_,_,_=>none
  | k+1,x4,x1000,x1001=>(j1n.f k x1000 x1001).bind fun bt188=>(if bt188.2.2.2.2.2.1=true then (if x4.length<1954687338268 then ((some (x4++[(⟨bt188.1,bt188.2.1,bt188.2.2.1,bt188.2.2.2.1,bt188.2.2.2.2.1⟩:S27)]:List (S27))).bind fun y201=>((j1k.f k bt188.2.2.2.2.2.2.1 bt188.2.2.2.2.2.2.2).bind fun bt204=>((j1o.f bt204.1 bt204.2 93).bind fun bt206=>(if bt206.1=true then (some (y201,true,bt206.2.1,bt206.2.2)) else ((j1o.f bt206.2.1 bt206.2.2 44).bind fun bt209=>(if bt209.1=true then ((j1k.f k bt209.2.1 bt209.2.2).bind fun bt212=>(j1r.l0 k y201 bt212.1 bt212.2)) else (some (([]:List (S27)),false,bt209.2.1,bt209.2.2)))))))) else (none)) else (some (([]:List (S27)),false,bt188.2.2.2.2.2.2.1,bt188.2.2.2.2.2.2.2)))
def j1r.f : Nat → ByteArray→Int→Option ((List (S27)) × Bool × ByteArray × Int)
  | 0,_,_=>none
  | k+1,s0_0,s0_1=>(j1k.f k s0_0 (wrap64 (s0_1+1))).bind fun bt183=>((j1o.f bt183.1 bt183.2 93).bind fun bt185=>(if bt185.1=true then (some (([]:List (S27)),true,bt185.2.1,bt185.2.2)) else (j1r.l0 k ([]:List (S27)) bt185.2.1 bt185.2.2)))
end
theorem grp51.mono_l : ∀ k,(∀ y0 y1,LeO (j1n.f k y0 y1) (j1n.f (k+1) y0 y1))∧(∀ y0 y1,LeO (j1j.f k y0 y1) (j1j.f (k+1) y0 y1))∧(∀ y0 y1,LeO (j1r.f k y0 y1) (j1r.f (k+1) y0 y1))∧(∀ y0 y1 y2 y3 y4 y5 y6,LeO (j1n.j0 k y0 y1 y2 y3 y4 y5 y6) (j1n.j0 (k+1) y0 y1 y2 y3 y4 y5 y6))∧(∀ y0 y1 y2 y3,LeO (j1j.l0 k y0 y1 y2 y3) (j1j.l0 (k+1) y0 y1 y2 y3))∧(∀ y0 y1 y2 y3 y4 y5,LeO (j1j.j1 k y0 y1 y2 y3 y4 y5) (j1j.j1 (k+1) y0 y1 y2 y3 y4 y5))∧(∀ y0 y1 y2,LeO (j1r.l0 k y0 y1 y2) (j1r.l0 (k+1) y0 y1 y2))
 | 0=>⟨fun _ _ r h=>by simp [j1n.f] at h,fun _ _ r h=>by simp [j1j.f] at h,fun _ _ r h=>by simp [j1r.f] at h,fun _ _ _ _ _ _ _ r h=>by simp [j1n.j0] at h,fun _ _ _ _ r h=>by simp [j1j.l0] at h,fun _ _ _ _ _ _ r h=>by simp [j1j.j1] at h,fun _ _ _ r h=>by simp [j1r.l0] at h⟩
 | k+1=>by
  obtain ⟨ih0,ih1,ih2,ih3,ih4,ih5,ih6⟩:=grp51.mono_l k;refine ⟨?_,?_,?_,?_,?_,?_,?_⟩
  ·intro y0 y1;unfold j1n.f
   repeat' first
   | (with_reducible exact ih0 _ _)
   | (with_reducible exact ih1 _ _)
   | (with_reducible exact ih2 _ _)
   | (with_reducible exact ih3 _ _ _ _ _ _ _)
   | (with_reducible exact ih4 _ _ _ _)
   | (with_reducible exact ih5 _ _ _ _ _ _)
   | (with_reducible exact ih6 _ _ _)
   | (with_reducible exact j1k.mono _ _ _)
   | (with_reducible exact j1h.mono _ _ _)
   | (with_reducible exact j1t.mono _ _ _)
   | (with_reducible exact LeO.refl _)
   | (with_reducible exact LeO.none _)
   | (with_reducible refine LeO.ite ?_ ?_)
   | (with_reducible refine LeO.bind ?_ (fun _=>?_))
  ·intro y0 y1;unfold j1j.f
   repeat' first
   | (with_reducible exact ih0 _ _)
   | (with_reducible exact ih1 _ _)
   | (with_reducible exact ih2 _ _)
   | (with_reducible exact ih3 _ _ _ _ _ _ _)
   | (with_reducible exact ih4 _ _ _ _)
   | (with_reducible exact ih5 _ _ _ _ _ _)
   | (with_reducible exact ih6 _ _ _)
   | (with_reducible exact j1k.mono _ _ _)
   | (with_reducible exact j1h.mono _ _ _)
   | (with_reducible exact j1t.mono _ _ _)
   | (with_reducible exact LeO.refl _)
   | (with_reducible exact LeO.none _)
   | (with_reducible refine LeO.ite ?_ ?_)
   | (with_reducible refine LeO.bind ?_ (fun _=>?_))
  ·intro y0 y1;unfold j1r.f
   repeat' first
   | (with_reducible exact ih0 _ _)
   | (with_reducible exact ih1 _ _)
   | (with_reducible exact ih2 _ _)
   | (with_reducible exact ih3 _ _ _ _ _ _ _)
   | (with_reducible exact ih4 _ _ _ _)
   | (with_reducible exact ih5 _ _ _ _ _ _)
   | (with_reducible exact ih6 _ _ _)
   | (with_reducible exact j1k.mono _ _ _)
   | (with_reducible exact j1h.mono _ _ _)
   | (with_reducible exact j1t.mono _ _ _)
   | (with_reducible exact LeO.refl _)
   | (with_reducible exact LeO.none _)
   | (with_reducible refine LeO.ite ?_ ?_)
   | (with_reducible refine LeO.bind ?_ (fun _=>?_))
  ·intro y0 y1 y2 y3 y4 y5 y6;unfold j1n.j0
   repeat' first
   | (with_reducible exact ih0 _ _)
   | (with_reducible exact ih1 _ _)
   | (with_reducible exact ih2 _ _)
   | (with_reducible exact ih3 _ _ _ _ _ _ _)
   | (with_reducible exact ih4 _ _ _ _)
   | (with_reducible exact ih5 _ _ _ _ _ _)
   | (with_reducible exact ih6 _ _ _)
   | (with_reducible exact j1k.mono _ _ _)
   | (with_reducible exact j1h.mono _ _ _)
   | (with_reducible exact j1t.mono _ _ _)
   | (with_reducible exact LeO.refl _)
   | (with_reducible exact LeO.none _)
   | (with_reducible refine LeO.ite ?_ ?_)
   | (with_reducible refine LeO.bind ?_ (fun _=>?_))
  ·intro y0 y1 y2 y3;unfold j1j.l0
   repeat' first
   | (with_reducible exact ih0 _ _)
   | (with_reducible exact ih1 _ _)
   | (with_reducible exact ih2 _ _)
   | (with_reducible exact ih3 _ _ _ _ _ _ _)
   | (with_reducible exact ih4 _ _ _ _)
   | (with_reducible exact ih5 _ _ _ _ _ _)
   | (with_reducible exact ih6 _ _ _)
   | (with_reducible exact j1k.mono _ _ _)
   | (with_reducible exact j1h.mono _ _ _)
   | (with_reducible exact j1t.mono _ _ _)
   | (with_reducible exact LeO.refl _)
   | (with_reducible exact LeO.none _)
   | (with_reducible refine LeO.ite ?_ ?_)
   | (with_reducible refine LeO.bind ?_ (fun _=>?_))
  ·intro y0 y1 y2 y3 y4 y5;unfold j1j.j1
   repeat' first
   | (with_reducible exact ih0 _ _)
   | (with_reducible exact ih1 _ _)
   | (with_reducible exact ih2 _ _)
   | (with_reducible exact ih3 _ _ _ _ _ _ _)
   | (with_reducible exact ih4 _ _ _ _)
   | (with_reducible exact ih5 _ _ _ _ _ _)
   | (with_reducible exact ih6 _ _ _)
   | (with_reducible exact j1k.mono _ _ _)
   | (with_reducible exact j1h.mono _ _ _)
   | (with_reducible exact j1t.mono _ _ _)
   | (with_reducible exact LeO.refl _)
   | (with_reducible exact LeO.none _)
   | (with_reducible refine LeO.ite ?_ ?_)
   | (with_reducible refine LeO.bind ?_ (fun _=>?_))
  ·intro y0 y1 y2;unfold j1r.l0
   repeat' first
   | (with_reducible exact ih0 _ _)
   | (with_reducible exact ih1 _ _)
   | (with_reducible exact ih2 _ _)
   | (with_reducible exact ih3 _ _ _ _ _ _ _)
   | (with_reducible exact ih4 _ _ _ _)
   | (with_reducible exact ih5 _ _ _ _ _ _)
   | (with_reducible exact ih6 _ _ _)
   | (with_reducible exact j1k.mono _ _ _)
   | (with_reducible exact j1h.mono _ _ _)
   | (with_reducible exact j1t.mono _ _ _)
   | (with_reducible exact LeO.refl _)
   | (with_reducible exact LeO.none _)
   | (with_reducible refine LeO.ite ?_ ?_)
   | (with_reducible refine LeO.bind ?_ (fun _=>?_))
theorem j1n.mono : ∀ a0 a1 k,LeO (j1n.f k a0 a1) (j1n.f (k+1) a0 a1):=by
 intro a0 a1 k;obtain ⟨ih0,ih1,ih2,ih3,ih4,ih5,ih6⟩:=grp51.mono_l k;exact ih0 a0 a1
theorem j1j.mono : ∀ a0 a1 k,LeO (j1j.f k a0 a1) (j1j.f (k+1) a0 a1):=by
 intro a0 a1 k;obtain ⟨ih0,ih1,ih2,ih3,ih4,ih5,ih6⟩:=grp51.mono_l k;exact ih1 a0 a1
theorem j1r.mono : ∀ a0 a1 k,LeO (j1r.f k a0 a1) (j1r.f (k+1) a0 a1):=by
 intro a0 a1 k;obtain ⟨ih0,ih1,ih2,ih3,ih4,ih5,ih6⟩:=grp51.mono_l k;exact ih2 a0 a1
@[reducible] def j1n.Stmt (k:Nat):Prop:=∀ (g:Nat) (s0_0:ByteArray) (s0_1:Int) (r1:Int) (r2:Int) (r3:Int) (r4:List (S49)) (r5:List (S27)) (r6:Bool) (r7:ByteArray) (r8:Int) (w0 w:World) (hI:IsS89 w0 w g s0_0 s0_1) (hB:Below w0.heap.size w0 w) (h:j1n.f k s0_0 s0_1=some (r1,r2,r3,r4,r5,r6,r7,r8)),
    Calls Tryd.prog 51 #[.pointer (some ⟨g,0,none⟩)] w fun e w'=>∃ v3_ v4_:Value,e = .returned (.tuple #[.agg #[.int .i64 r1, .int .i64 r2, .int .i64 r3,v3_,v4_], .bool r6])∧Kd.R k49 49 w' w.heap.size (fun _=>True) v3_ r4∧Kd.R k27 27 w' w.heap.size (fun k_=>some k_≠(v3_:Value).ownBlock) v4_ r5∧IsS89 w0 w' g r7 r8∧Below w0.heap.size w0 w'∧KeepBut w w' g none
@[reducible] def j1j.Stmt (k:Nat):Prop:=∀ (g:Nat) (s0_0:ByteArray) (s0_1:Int) (r1:List (S49)) (r2:List (S27)) (r3:Bool) (r4:ByteArray) (r5:Int) (w0 w:World) (hI:IsS89 w0 w g s0_0 s0_1) (hB:Below w0.heap.size w0 w) (h:j1j.f k s0_0 s0_1=some (r1,r2,r3,r4,r5)),
    Calls Tryd.prog 65 #[.pointer (some ⟨g,0,none⟩)] w fun e w'=>∃ v0_ v1_:Value,e = .returned (.tuple #[v0_,v1_, .bool r3])∧Kd.R k49 49 w' w.heap.size (fun _=>True) v0_ r1∧Kd.R k27 27 w' w.heap.size (fun k_=>some k_≠(v0_:Value).ownBlock) v1_ r2∧IsS89 w0 w' g r4 r5∧Below w0.heap.size w0 w'∧KeepBut w w' g none
@[reducible] def j1r.Stmt (k:Nat):Prop:=∀ (g:Nat) (s0_0:ByteArray) (s0_1:Int) (r1:List (S27)) (r2:Bool) (r3:ByteArray) (r4:Int) (w0 w:World) (hI:IsS89 w0 w g s0_0 s0_1) (hB:Below w0.heap.size w0 w) (h:j1r.f k s0_0 s0_1=some (r1,r2,r3,r4)),
    Calls Tryd.prog 66 #[.pointer (some ⟨g,0,none⟩)] w fun e w'=>∃ v0_:Value,e = .returned (.tuple #[v0_, .bool r2])∧Kd.R k27 27 w' w.heap.size (fun _=>True) v0_ r1∧IsS89 w0 w' g r3 r4∧Below w0.heap.size w0 w'∧KeepBut w w' g none

set_option maxHeartbeats 8000000 in
set_option maxRecDepth 100000 in
theorem j1n.step (k : Nat) (ih_51:∀ m,m<k→j1n.Stmt m) (ih_65:∀ m,m<k→j1j.Stmt m) (ih_66:∀ m,m<k→j1r.Stmt m):j1n.Stmt k:=by
 intro g s0_0 s0_1 r1 r2 r3 r4 r5 r6 r7 r8 w0 w hI hB h;cases k with
 | zero=>exact absurd h (by simp [j1n.f])
 | succ k =>
 simp only [j1n.f] at h
 have hu27:=Tryd.underlying27;have HI0:=mk0 hI;have HK:=mk0 (KeepBut.refl w g none);have HL:=mk0 hB.size;clear hI;have HW0:=mk0 hB.size;have HB:=mk0 hB;clear hB;have H:((j2e.f s0_0 s0_1).bind fun bt103=>(if bt103.1=123 then ((j1j.f k bt103.2.1 bt103.2.2).bind fun bt106=>(some (6,s0_1,bt106.2.2.2.2,bt106.1,bt106.2.1,bt106.2.2.1,bt106.2.2.2.1,bt106.2.2.2.2))) else (if bt103.1=91 then ((j1r.f k bt103.2.1 bt103.2.2).bind fun bt115=>(some (5,s0_1,bt115.2.2.2,([]:List (S49)),bt115.1,bt115.2.1,bt115.2.2.1,bt115.2.2.2))) else (if bt103.1=34 then ((j1t.f k bt103.2.1 bt103.2.2).bind fun bt121=>(some (4,s0_1,bt121.2.2,([]:List (S49)),([]:List (S27)),bt121.1,bt121.2.1,bt121.2.2))) else (if bt103.1=45 then (j1n.j0 k true true bt103.2.1 bt103.2.2 0 s0_1 0) else (if 48≤bt103.1 then (j1n.j0 k true (decide (bt103.1≤57)) bt103.2.1 bt103.2.2 0 s0_1 0) else (j1n.j0 k true false bt103.2.1 bt103.2.2 0 s0_1 0)))))))=some (r1,r2,r3,r4,r5,r6,r7,r8):=h;clear h;replace H:=Option.bind_eq_some_iff.mp H;obtain ⟨⟨t103,t104,t105⟩,A20,H⟩:=H
 (try dsimp only at H)
 have A2:=mk0 A20;clear A20;go_enter Tryd.func51,Tryd.ntmps51
 go_upto_region 5 with (first|((with_reducible refine j2z (N:=2) rfl ?_);refine j3e ?hg (N:=2) ?hd (cs:=#[.int .i64 0, .int .i64 0, .int .i64 0, .slice none 0 0, .slice none 0 0]) (t:=27) ?hr ?_;(case hd=>rfl);(case hg=>rfl);(case hr=>exact zq28);intro gb101 hg w5 hbox hb;replace HB:=mk0 (j1p zq4 hb);have BK101:=mk0 (hbox);have GW101:=mk0 ((zq41:w.heap.size≤gb101));have GE101:=mk0 ((Nat.le_trans HW0.out (zq41:w.heap.size≤gb101):w0.heap.size≤gb101));replace HK:=mk0 (KeepBut.trans zq2 (KeepBut.of_below hb g none) (.inl rfl));have NB0_101:=mk0 ((by rw [hg];exact Nat.ne_of_lt (IsS89.lt (show IsS89 w0 _ g s0_0 s0_1 from zq0)):g≠gb101));have NB101_0:=mk0 ((by rw [hg];exact Nat.ne_of_gt (IsS89.lt (show IsS89 w0 _ g s0_0 s0_1 from zq0)):gb101≠g));replace HI0:=mk0 (IsS89.below zq0 hb);clear hb hbox hg;obtain ⟨HGz6,hgz6⟩:=HI0.out;have hcz6_0:=j2u HGz6;have hcz6_1:=j2t HGz6;have hfz6_0:=j1a HGz6 0;have hfz6_1:=j1a HGz6 1;clear HGz6 hgz6)|((with_reducible refine j2z (N:=4) rfl ?_);refine j3e ?hg (N:=4) ?hd (cs:=#[.int .i64 0, .int .i64 0, .int .i64 0, .slice none 0 0, .slice none 0 0]) (t:=27) ?hr ?_;(case hd=>rfl);(case hg=>rfl);(case hr=>exact zq28);intro gb102 hg w7 hbox hb;replace HB:=mk0 (j1p (by repeat (first|(with_reducible first|exact HB.out|apply j1g|apply j1d|apply j1l|refine j1y ?_ (IsS89.ge HI0.out)|refine j1y ?_ GE101.out)|exact HB.out)) hb);have BK102:=mk0 (hbox);have GW102:=mk0 ((by rw [hg];exact (j3t (w:=w) (g:=g) (row:=none) zq58):w.heap.size≤gb102));have GE102:=mk0 ((Nat.le_trans HW0.out (by rw [hg];exact (j3t (w:=w) (g:=g) (row:=none) zq58):w.heap.size≤gb102):w0.heap.size≤gb102));replace HK:=mk0 (KeepBut.trans zq58 (KeepBut.of_below hb g none) (.inl rfl));have NB101_102:=mk0 ((by rw [hg];exact Nat.ne_of_lt (j3p (g:=gb101) (o := .cells #[.int .i64 0, .int .i64 0, .int .i64 0, .slice none 0 0, .slice none 0 0] 27 (0,0)) zq6):gb101≠gb102));have NB102_101:=mk0 ((by rw [hg];exact Nat.ne_of_gt (j3p (g:=gb101) (o := .cells #[.int .i64 0, .int .i64 0, .int .i64 0, .slice none 0 0, .slice none 0 0] 27 (0,0)) zq6):gb102≠gb101));replace BK101:=mk0 (j3j (g:=gb101) (o := .cells #[.int .i64 0, .int .i64 0, .int .i64 0, .slice none 0 0, .slice none 0 0] 27 (0,0)) zq6 hb);have NB0_102:=mk0 ((by rw [hg];exact Nat.ne_of_lt (IsS89.lt (show IsS89 w0 _ g s0_0 s0_1 from zq52)):g≠gb102));have NB102_0:=mk0 ((by rw [hg];exact Nat.ne_of_gt (IsS89.lt (show IsS89 w0 _ g s0_0 s0_1 from zq52)):gb102≠g));replace HI0:=mk0 (IsS89.below zq52 hb);clear hb hbox hg;have hnb8:=NB102_101.out;have hnc8:=NB101_102.out;have hnb9:=NB102_0.out;have hnc9:=NB0_102.out;have hcz10_0:w7.cell? ⟨gb102,0,none⟩=some (.int .i64 0):=(j1c BK102.out 0).trans rfl;have hcz10_1:w7.cell? ⟨gb102,1,none⟩=some (.int .i64 0):=(j1c BK102.out 1).trans rfl;have hcz10_2:w7.cell? ⟨gb102,2,none⟩=some (.int .i64 0):=(j1c BK102.out 2).trans rfl;have hcz10_3:w7.cell? ⟨gb102,3,none⟩=some (.slice none 0 0):=(j1c BK102.out 3).trans rfl;have hcz10_4:w7.cell? ⟨gb102,4,none⟩=some (.slice none 0 0):=(j1c BK102.out 4).trans rfl;have hfz10_0:=j1a BK102.out 0;have hfz10_1:=j1a BK102.out 1;have hfz10_2:=j1a BK102.out 2;have hfz10_3:=j1a BK102.out 3;have hfz10_4:=j1a BK102.out 4))
 by_cases c3:t103=123
 ·rw [if_pos c3] at H;have c3b0:(t103 == 123)=true:=beq_iff_eq.mpr c3;have c3b1:(t103 != 123)=false:=bne_eq_false_iff_eq.mpr c3;clear c3;replace H:=Option.bind_eq_some_iff.mp H;obtain ⟨⟨t106,t109,t112,t113,t114⟩,A40,H⟩:=H
  (try dsimp only at H)
  have A4:=mk0 A40;clear A40;simp only [Option.some.injEq,Prod.mk.injEq] at H;obtain ⟨rfl,rfl,rfl,rfl,rfl,rfl,rfl,rfl⟩:=H
  (with_reducible refine (j2e.calls g s0_0 s0_1 t103 t104 t105 w0 _ ?side1 ?side2 A2.out).mono ?_);(case side1=>exact zq11);(case side2=>exact zq12);rintro e w11 ⟨rfl,hi,hb,hk⟩;replace BK101:=mk0 (KeepBut.blk hk (g':=gb101) (o := .cells #[.int .i64 0, .int .i64 0, .int .i64 0, .slice none 0 0, .slice none 0 0] 27 (0,0)) zq15 NB101_0.out (by simp));replace BK102:=mk0 (KeepBut.blk hk (g':=gb102) (o := .cells #[.int .i64 0, .int .i64 s0_1, .int .i64 0, .slice none 0 0, .slice none 0 0] 27 (0,0)) zq8 NB102_0.out (by simp));replace HK:=mk0 (KeepBut.trans zq10 hk (.inl rfl));replace HB:=mk0 (hb);replace HI0:=mk0 (hi);clear hb hk hi;have hcz12_0:w11.cell? ⟨gb102,0,none⟩=some (.int .i64 0):=(j1c BK102.out 0).trans rfl;have hcz12_1:w11.cell? ⟨gb102,1,none⟩=some (.int .i64 s0_1):=(j1c BK102.out 1).trans rfl;have hcz12_2:w11.cell? ⟨gb102,2,none⟩=some (.int .i64 0):=(j1c BK102.out 2).trans rfl;have hcz12_3:w11.cell? ⟨gb102,3,none⟩=some (.slice none 0 0):=(j1c BK102.out 3).trans rfl;have hcz12_4:w11.cell? ⟨gb102,4,none⟩=some (.slice none 0 0):=(j1c BK102.out 4).trans rfl;have hfz12_0:=j1a BK102.out 0;have hfz12_1:=j1a BK102.out 1;have hfz12_2:=j1a BK102.out 2;have hfz12_3:=j1a BK102.out 3;have hfz12_4:=j1a BK102.out 4;go_wp2_with (first|((with_reducible refine j1u (f:=65) rfl ?_);refine j2p (some 20) rfl rfl Tryd.func65 zq14 rfl #[.pointer (some ⟨g,0,none⟩)] rfl zq1 ?_;(with_reducible refine (ih_65 k (by omega) g t104 t105 t106 t109 t112 t113 t114 w0 _ ?side1 ?side2 A4.out).mono ?_);(case side1=>exact zq11);(case side2=>exact zq12);rintro e w13 ⟨v107,v110,rfl,ho0,ho1,hi,hb,hk⟩;refine ⟨_,rfl,?_⟩;have HO108:=mk0 (Kd.R_lower ho0 (j3t (w:=w) (g:=g) (row:=none) zq10));have HO111:=mk0 (Kd.R_lower (Kd.R_newB (Kd.R_newB ho1 (g:=gb101) (o := .cells #[.int .i64 0, .int .i64 0, .int .i64 0, .slice none 0 0, .slice none 0 0] 27 (0,0)) zq26) (g:=gb102) (o := .cells #[.int .i64 6, .int .i64 s0_1, .int .i64 0, .slice none 0 0, .slice none 0 0] 27 (0,0)) zq19) (j3t (w:=w) (g:=g) (row:=none) zq10));replace BK101:=mk0 (KeepBut.blk hk (g':=gb101) (o := .cells #[.int .i64 0, .int .i64 0, .int .i64 0, .slice none 0 0, .slice none 0 0] 27 (0,0)) zq26 NB101_0.out (by simp));replace BK102:=mk0 (KeepBut.blk hk (g':=gb102) (o := .cells #[.int .i64 6, .int .i64 s0_1, .int .i64 0, .slice none 0 0, .slice none 0 0] 27 (0,0)) zq19 NB102_0.out (by simp));replace HK:=mk0 (KeepBut.trans zq10 hk (.inl rfl));replace HB:=mk0 (hb);replace HI0:=mk0 (hi);clear hb hk hi ho0 ho1;obtain ⟨Ao14,co14,eo14⟩:=Kd.R_slice HO108.out;subst eo14;have hcz15_0:w13.cell? ⟨gb102,0,none⟩=some (.int .i64 6):=(j1c BK102.out 0).trans rfl;have hcz15_1:w13.cell? ⟨gb102,1,none⟩=some (.int .i64 s0_1):=(j1c BK102.out 1).trans rfl;have hcz15_2:w13.cell? ⟨gb102,2,none⟩=some (.int .i64 0):=(j1c BK102.out 2).trans rfl;have hcz15_3:w13.cell? ⟨gb102,3,none⟩=some (.slice none 0 0):=(j1c BK102.out 3).trans rfl;have hcz15_4:w13.cell? ⟨gb102,4,none⟩=some (.slice none 0 0):=(j1c BK102.out 4).trans rfl;have hfz15_0:=j1a BK102.out 0;have hfz15_1:=j1a BK102.out 1;have hfz15_2:=j1a BK102.out 2;have hfz15_3:=j1a BK102.out 3;have hfz15_4:=j1a BK102.out 4;obtain ⟨Ao16,co16,eo16⟩:=Kd.R_slice HO111.out;subst eo16;obtain ⟨HGz17,hgz17⟩:=HI0.out;have hcz17_0:=j2u HGz17;have hcz17_1:=j2t HGz17;have hfz17_0:=j1a HGz17 0;have hfz17_1:=j1a HGz17 1;clear HGz17 hgz17;have hnb18:=NB101_0.out;have hnc18:=NB0_101.out;have hcz19_0:w13.cell? ⟨gb101,0,none⟩=some (.int .i64 0):=(j1c BK101.out 0).trans rfl;have hcz19_1:w13.cell? ⟨gb101,1,none⟩=some (.int .i64 0):=(j1c BK101.out 1).trans rfl;have hcz19_2:w13.cell? ⟨gb101,2,none⟩=some (.int .i64 0):=(j1c BK101.out 2).trans rfl;have hcz19_3:w13.cell? ⟨gb101,3,none⟩=some (.slice none 0 0):=(j1c BK101.out 3).trans rfl;have hcz19_4:w13.cell? ⟨gb101,4,none⟩=some (.slice none 0 0):=(j1c BK101.out 4).trans rfl;have hfz19_0:=j1a BK101.out 0;have hfz19_1:=j1a BK101.out 1;have hfz19_2:=j1a BK101.out 2;have hfz19_3:=j1a BK101.out 3;have hfz19_4:=j1a BK101.out 4))
  refine bodyPost_ret (j2w rfl _ _ gb101 27 #[.int .i64 6, .int .i64 s0_1, .int .i64 t114, .slice Ao14 t106.length co14, .slice Ao16 t109.length co16] (0,0) _ rfl (by (with_reducible repeat (first|refine j1i ?_ _|refine j1m ?_|refine j1e ?_ _));refine j2b (cs:=#[.int .i64 6, .int .i64 s0_1, .int .i64 t114, .slice Ao14 t106.length co14, .slice none 0 0]) ?_ 4 _ rfl;(with_reducible repeat (first|refine j1i ?_ _|refine j1m ?_|refine j1e ?_ _));refine j2b (cs:=#[.int .i64 6, .int .i64 s0_1, .int .i64 t114, .slice none 0 0, .slice none 0 0]) ?_ 3 _ rfl;(with_reducible repeat (first|refine j1i ?_ _|refine j1m ?_|refine j1e ?_ _));refine j2b (cs:=#[.int .i64 6, .int .i64 s0_1, .int .i64 0, .slice none 0 0, .slice none 0 0]) ?_ 2 _ rfl;(with_reducible repeat (first|refine j1i ?_ _|refine j1m ?_|refine j1e ?_ _));refine j2b (cs:=#[.int .i64 6, .int .i64 0, .int .i64 0, .slice none 0 0, .slice none 0 0]) ?_ 1 _ rfl;(with_reducible repeat (first|refine j1i ?_ _|refine j1m ?_|refine j1e ?_ _));refine j2b (cs:=#[.int .i64 0, .int .i64 0, .int .i64 0, .slice none 0 0, .slice none 0 0]) ?_ 0 _ rfl;(with_reducible repeat (first|refine j1i ?_ _|refine j1m ?_|refine j1e ?_ _));refine j3m ?_ NB101_102.out _;(with_reducible repeat (first|refine j1i ?_ _|refine j1m ?_|refine j1e ?_ _));refine j3m ?_ NB101_102.out _;(with_reducible repeat (first|refine j1i ?_ _|refine j1m ?_|refine j1e ?_ _));refine j3m ?_ NB101_102.out _;(with_reducible repeat (first|refine j1i ?_ _|refine j1m ?_|refine j1e ?_ _));exact BK101.out) Tryd.underlying27 rfl zq14) rfl ?_;exact ⟨_,_,by rfl,by (with_reducible repeat (first|apply Kd.R_alloc|apply Kd.R_drewN|apply Kd.R_drew));exact Kd.R_mono (Kd.R_far (p:=⟨gb101,4,none⟩) (Kd.R_far (p:=⟨gb101,3,none⟩) (Kd.R_far (p:=⟨gb101,2,none⟩) (Kd.R_far (p:=⟨gb101,1,none⟩) (Kd.R_far (p:=⟨gb101,0,none⟩) (Kd.R_far (p:=⟨gb102,2,none⟩) (Kd.R_far (p:=⟨gb102,4,none⟩) (Kd.R_far (p:=⟨gb102,3,none⟩) (Kd.R_types (Kd.R_types HO108.out BK102.out zq47) BK101.out zq47) (fun _ hk=>hk.1.2) (.slice Ao14 t106.length co14)) (fun _ hk=>hk.1.2) (.slice Ao16 t109.length co16)) (fun _ hk=>hk.1.2) (.int .i64 t114)) (fun _ hk=>hk.2) (.int .i64 6)) (fun _ hk=>hk.2) (.int .i64 s0_1)) (fun _ hk=>hk.2) (.int .i64 t114)) (fun _ hk=>hk.2) (.slice Ao14 t106.length co14)) (fun _ hk=>hk.2) (.slice Ao16 t109.length co16)) (fun _ hk=>trivial),by (with_reducible repeat (first|apply Kd.R_alloc|apply Kd.R_drewN|apply Kd.R_drew));exact Kd.R_mono (Kd.R_far (p:=⟨gb101,4,none⟩) (Kd.R_far (p:=⟨gb101,3,none⟩) (Kd.R_far (p:=⟨gb101,2,none⟩) (Kd.R_far (p:=⟨gb101,1,none⟩) (Kd.R_far (p:=⟨gb101,0,none⟩) (Kd.R_far (p:=⟨gb102,2,none⟩) (Kd.R_far (p:=⟨gb102,4,none⟩) (Kd.R_far (p:=⟨gb102,3,none⟩) (Kd.R_mono (Kd.R_mono HO111.out (fun k_ hk=>(⟨hk,hk.2⟩:_∧k_≠gb102))) (fun k_ hk=>(⟨hk,hk.1.1.2⟩:_∧k_≠gb101))) (fun _ hk=>hk.1.2) (.slice Ao14 t106.length co14)) (fun _ hk=>hk.1.2) (.slice Ao16 t109.length co16)) (fun _ hk=>hk.1.2) (.int .i64 t114)) (fun _ hk=>hk.2) (.int .i64 6)) (fun _ hk=>hk.2) (.int .i64 s0_1)) (fun _ hk=>hk.2) (.int .i64 t114)) (fun _ hk=>hk.2) (.slice Ao14 t106.length co14)) (fun _ hk=>hk.2) (.slice Ao16 t109.length co16)) (fun _ hk=>hk.1.1.1.1),by repeat (first|(with_reducible first|exact HI0.out|apply IsS89.alloc|apply IsS89.drewN|apply IsS89.drew|apply IsS89.set_0|apply IsS89.set_1|refine IsS89.far ?_ NB0_101.out _|refine IsS89.far ?_ NB0_102.out _)|exact HI0.out),by repeat (first|(with_reducible first|exact HB.out|apply j1g|apply j1d|apply j1l|refine j1y ?_ (IsS89.ge HI0.out)|refine j1y ?_ GE101.out|refine j1y ?_ GE102.out)|exact HB.out),by repeat (first|(with_reducible first|exact HK.out|apply KeepBut.set_|apply j2k|apply j2o|apply j2j|refine j3o ?_ GW101.out _|refine j3o ?_ GW102.out _)|exact HK.out)⟩
 rw [if_neg c3] at H;have c3b0:(t103 == 123)=false:=beq_eq_false_iff_ne.mpr c3;have c3b1:(t103 != 123)=true:=bne_iff_ne.mpr c3;by_cases c20:t103=91
 ·rw [if_pos c20] at H;have c20b0:(t103 == 91)=true:=beq_iff_eq.mpr c20;have c20b1:(t103 != 91)=false:=bne_eq_false_iff_eq.mpr c20;clear c20;replace H:=Option.bind_eq_some_iff.mp H;obtain ⟨⟨t115,t118,t119,t120⟩,A210,H⟩:=H
  (try dsimp only at H)
  have A21:=mk0 A210;clear A210;simp only [Option.some.injEq,Prod.mk.injEq] at H;obtain ⟨rfl,rfl,rfl,rfl,rfl,rfl,rfl,rfl⟩:=H
  (with_reducible refine (j2e.calls g s0_0 s0_1 t103 t104 t105 w0 _ ?side1 ?side2 A2.out).mono ?_);(case side1=>exact zq11);(case side2=>exact zq12);rintro e w28 ⟨rfl,hi,hb,hk⟩;replace BK101:=mk0 (KeepBut.blk hk (g':=gb101) (o := .cells #[.int .i64 0, .int .i64 0, .int .i64 0, .slice none 0 0, .slice none 0 0] 27 (0,0)) zq15 NB101_0.out (by simp));replace BK102:=mk0 (KeepBut.blk hk (g':=gb102) (o := .cells #[.int .i64 0, .int .i64 s0_1, .int .i64 0, .slice none 0 0, .slice none 0 0] 27 (0,0)) zq8 NB102_0.out (by simp));replace HK:=mk0 (KeepBut.trans zq10 hk (.inl rfl));replace HB:=mk0 (hb);replace HI0:=mk0 (hi);clear hb hk hi;have hcz29_0:w28.cell? ⟨gb102,0,none⟩=some (.int .i64 0):=(j1c BK102.out 0).trans rfl;have hcz29_1:w28.cell? ⟨gb102,1,none⟩=some (.int .i64 s0_1):=(j1c BK102.out 1).trans rfl;have hcz29_2:w28.cell? ⟨gb102,2,none⟩=some (.int .i64 0):=(j1c BK102.out 2).trans rfl;have hcz29_3:w28.cell? ⟨gb102,3,none⟩=some (.slice none 0 0):=(j1c BK102.out 3).trans rfl;have hcz29_4:w28.cell? ⟨gb102,4,none⟩=some (.slice none 0 0):=(j1c BK102.out 4).trans rfl;have hfz29_0:=j1a BK102.out 0;have hfz29_1:=j1a BK102.out 1;have hfz29_2:=j1a BK102.out 2;have hfz29_3:=j1a BK102.out 3;have hfz29_4:=j1a BK102.out 4;go_wp2_with (first|((with_reducible refine j1u (f:=66) rfl ?_);refine j2p (some 32) rfl rfl Tryd.func66 zq14 rfl #[.pointer (some ⟨g,0,none⟩)] rfl zq1 ?_;(with_reducible refine (ih_66 k (by omega) g t104 t105 t115 t118 t119 t120 w0 _ ?side1 ?side2 A21.out).mono ?_);(case side1=>exact zq11);(case side2=>exact zq12);rintro e w30 ⟨v116,rfl,ho0,hi,hb,hk⟩;refine ⟨_,rfl,?_⟩;have HO117:=mk0 (Kd.R_lower (Kd.R_newB (Kd.R_newB ho0 (g:=gb101) (o := .cells #[.int .i64 0, .int .i64 0, .int .i64 0, .slice none 0 0, .slice none 0 0] 27 (0,0)) zq26) (g:=gb102) (o := .cells #[.int .i64 5, .int .i64 s0_1, .int .i64 0, .slice none 0 0, .slice none 0 0] 27 (0,0)) zq19) (j3t (w:=w) (g:=g) (row:=none) zq10));replace BK101:=mk0 (KeepBut.blk hk (g':=gb101) (o := .cells #[.int .i64 0, .int .i64 0, .int .i64 0, .slice none 0 0, .slice none 0 0] 27 (0,0)) zq26 NB101_0.out (by simp));replace BK102:=mk0 (KeepBut.blk hk (g':=gb102) (o := .cells #[.int .i64 5, .int .i64 s0_1, .int .i64 0, .slice none 0 0, .slice none 0 0] 27 (0,0)) zq19 NB102_0.out (by simp));replace HK:=mk0 (KeepBut.trans zq10 hk (.inl rfl));replace HB:=mk0 (hb);replace HI0:=mk0 (hi);clear hb hk hi ho0;obtain ⟨Ao31,co31,eo31⟩:=Kd.R_slice HO117.out;subst eo31;have hcz32_0:w30.cell? ⟨gb102,0,none⟩=some (.int .i64 5):=(j1c BK102.out 0).trans rfl;have hcz32_1:w30.cell? ⟨gb102,1,none⟩=some (.int .i64 s0_1):=(j1c BK102.out 1).trans rfl;have hcz32_2:w30.cell? ⟨gb102,2,none⟩=some (.int .i64 0):=(j1c BK102.out 2).trans rfl;have hcz32_3:w30.cell? ⟨gb102,3,none⟩=some (.slice none 0 0):=(j1c BK102.out 3).trans rfl;have hcz32_4:w30.cell? ⟨gb102,4,none⟩=some (.slice none 0 0):=(j1c BK102.out 4).trans rfl;have hfz32_0:=j1a BK102.out 0;have hfz32_1:=j1a BK102.out 1;have hfz32_2:=j1a BK102.out 2;have hfz32_3:=j1a BK102.out 3;have hfz32_4:=j1a BK102.out 4;obtain ⟨HGz33,hgz33⟩:=HI0.out;have hcz33_0:=j2u HGz33;have hcz33_1:=j2t HGz33;have hfz33_0:=j1a HGz33 0;have hfz33_1:=j1a HGz33 1;clear HGz33 hgz33;have hnb34:=NB101_0.out;have hnc34:=NB0_101.out;have hcz35_0:w30.cell? ⟨gb101,0,none⟩=some (.int .i64 0):=(j1c BK101.out 0).trans rfl;have hcz35_1:w30.cell? ⟨gb101,1,none⟩=some (.int .i64 0):=(j1c BK101.out 1).trans rfl;have hcz35_2:w30.cell? ⟨gb101,2,none⟩=some (.int .i64 0):=(j1c BK101.out 2).trans rfl;have hcz35_3:w30.cell? ⟨gb101,3,none⟩=some (.slice none 0 0):=(j1c BK101.out 3).trans rfl;have hcz35_4:w30.cell? ⟨gb101,4,none⟩=some (.slice none 0 0):=(j1c BK101.out 4).trans rfl;have hfz35_0:=j1a BK101.out 0;have hfz35_1:=j1a BK101.out 1;have hfz35_2:=j1a BK101.out 2;have hfz35_3:=j1a BK101.out 3;have hfz35_4:=j1a BK101.out 4))
  refine bodyPost_ret (j2w rfl _ _ gb101 27 #[.int .i64 5, .int .i64 s0_1, .int .i64 t120, .slice none 0 0, .slice Ao31 t115.length co31] (0,0) _ rfl (by (with_reducible repeat (first|refine j1i ?_ _|refine j1m ?_|refine j1e ?_ _));refine j2b (cs:=#[.int .i64 5, .int .i64 s0_1, .int .i64 t120, .slice none 0 0, .slice none 0 0]) ?_ 4 _ rfl;(with_reducible repeat (first|refine j1i ?_ _|refine j1m ?_|refine j1e ?_ _));refine j2b (cs:=#[.int .i64 5, .int .i64 s0_1, .int .i64 t120, .slice none 0 0, .slice none 0 0]) ?_ 3 _ rfl;(with_reducible repeat (first|refine j1i ?_ _|refine j1m ?_|refine j1e ?_ _));refine j2b (cs:=#[.int .i64 5, .int .i64 s0_1, .int .i64 0, .slice none 0 0, .slice none 0 0]) ?_ 2 _ rfl;(with_reducible repeat (first|refine j1i ?_ _|refine j1m ?_|refine j1e ?_ _));refine j2b (cs:=#[.int .i64 5, .int .i64 0, .int .i64 0, .slice none 0 0, .slice none 0 0]) ?_ 1 _ rfl;(with_reducible repeat (first|refine j1i ?_ _|refine j1m ?_|refine j1e ?_ _));refine j2b (cs:=#[.int .i64 0, .int .i64 0, .int .i64 0, .slice none 0 0, .slice none 0 0]) ?_ 0 _ rfl;(with_reducible repeat (first|refine j1i ?_ _|refine j1m ?_|refine j1e ?_ _));refine j3m ?_ NB101_102.out _;(with_reducible repeat (first|refine j1i ?_ _|refine j1m ?_|refine j1e ?_ _));refine j3m ?_ NB101_102.out _;(with_reducible repeat (first|refine j1i ?_ _|refine j1m ?_|refine j1e ?_ _));exact BK101.out) Tryd.underlying27 rfl zq14) rfl ?_;exact ⟨_,_,by rfl,by exact Kd.R_nil _ _ _ _ _,by (with_reducible repeat (first|apply Kd.R_alloc|apply Kd.R_drewN|apply Kd.R_drew));exact Kd.R_mono (Kd.R_far (p:=⟨gb101,4,none⟩) (Kd.R_far (p:=⟨gb101,3,none⟩) (Kd.R_far (p:=⟨gb101,2,none⟩) (Kd.R_far (p:=⟨gb101,1,none⟩) (Kd.R_far (p:=⟨gb101,0,none⟩) (Kd.R_far (p:=⟨gb102,2,none⟩) (Kd.R_far (p:=⟨gb102,4,none⟩) (Kd.R_mono (Kd.R_mono HO117.out (fun k_ hk=>(⟨hk,hk.2⟩:_∧k_≠gb102))) (fun k_ hk=>(⟨hk,hk.1.1.2⟩:_∧k_≠gb101))) (fun _ hk=>hk.1.2) (.slice Ao31 t115.length co31)) (fun _ hk=>hk.1.2) (.int .i64 t120)) (fun _ hk=>hk.2) (.int .i64 5)) (fun _ hk=>hk.2) (.int .i64 s0_1)) (fun _ hk=>hk.2) (.int .i64 t120)) (fun _ hk=>hk.2) (.slice none 0 0)) (fun _ hk=>hk.2) (.slice Ao31 t115.length co31)) (fun _ hk=>(by simp [Value.ownBlock])),by repeat (first|(with_reducible first|exact HI0.out|apply IsS89.alloc|apply IsS89.drewN|apply IsS89.drew|apply IsS89.set_0|apply IsS89.set_1|refine IsS89.far ?_ NB0_101.out _|refine IsS89.far ?_ NB0_102.out _)|exact HI0.out),by repeat (first|(with_reducible first|exact HB.out|apply j1g|apply j1d|apply j1l|refine j1y ?_ (IsS89.ge HI0.out)|refine j1y ?_ GE101.out|refine j1y ?_ GE102.out)|exact HB.out),by repeat (first|(with_reducible first|exact HK.out|apply KeepBut.set_|apply j2k|apply j2o|apply j2j|refine j3o ?_ GW101.out _|refine j3o ?_ GW102.out _)|exact HK.out)⟩
 rw [if_neg c20] at H;have c20b0:(t103 == 91)=false:=beq_eq_false_iff_ne.mpr c20;have c20b1:(t103 != 91)=true:=bne_iff_ne.mpr c20;by_cases c36:t103=34
 ·rw [if_pos c36] at H;have c36b0:(t103 == 34)=true:=beq_iff_eq.mpr c36;have c36b1:(t103 != 34)=false:=bne_eq_false_iff_eq.mpr c36;clear c36;replace H:=Option.bind_eq_some_iff.mp H;obtain ⟨⟨t121,t122,t123⟩,A370,H⟩:=H
  (try dsimp only at H)
  have A37:=mk0 A370;clear A370;simp only [Option.some.injEq,Prod.mk.injEq] at H;obtain ⟨rfl,rfl,rfl,rfl,rfl,rfl,rfl,rfl⟩:=H
  (with_reducible refine (j2e.calls g s0_0 s0_1 t103 t104 t105 w0 _ ?side1 ?side2 A2.out).mono ?_);(case side1=>exact zq11);(case side2=>exact zq12);rintro e w44 ⟨rfl,hi,hb,hk⟩;replace BK101:=mk0 (KeepBut.blk hk (g':=gb101) (o := .cells #[.int .i64 0, .int .i64 0, .int .i64 0, .slice none 0 0, .slice none 0 0] 27 (0,0)) zq15 NB101_0.out (by simp));replace BK102:=mk0 (KeepBut.blk hk (g':=gb102) (o := .cells #[.int .i64 0, .int .i64 s0_1, .int .i64 0, .slice none 0 0, .slice none 0 0] 27 (0,0)) zq8 NB102_0.out (by simp));replace HK:=mk0 (KeepBut.trans zq10 hk (.inl rfl));replace HB:=mk0 (hb);replace HI0:=mk0 (hi);clear hb hk hi;have hcz45_0:w44.cell? ⟨gb102,0,none⟩=some (.int .i64 0):=(j1c BK102.out 0).trans rfl;have hcz45_1:w44.cell? ⟨gb102,1,none⟩=some (.int .i64 s0_1):=(j1c BK102.out 1).trans rfl;have hcz45_2:w44.cell? ⟨gb102,2,none⟩=some (.int .i64 0):=(j1c BK102.out 2).trans rfl;have hcz45_3:w44.cell? ⟨gb102,3,none⟩=some (.slice none 0 0):=(j1c BK102.out 3).trans rfl;have hcz45_4:w44.cell? ⟨gb102,4,none⟩=some (.slice none 0 0):=(j1c BK102.out 4).trans rfl;have hfz45_0:=j1a BK102.out 0;have hfz45_1:=j1a BK102.out 1;have hfz45_2:=j1a BK102.out 2;have hfz45_3:=j1a BK102.out 3;have hfz45_4:=j1a BK102.out 4;go_wp2_with (first|((with_reducible refine j1u (f:=67) rfl ?_);refine j2p (some 41) rfl rfl Tryd.func67 zq14 rfl #[.pointer (some ⟨g,0,none⟩)] rfl zq1 ?_;(with_reducible refine (j1t.calls k g t104 t105 t121 t122 t123 w0 _ ?side1 ?side2 A37.out).mono ?_);(case side1=>exact zq11);(case side2=>exact zq12);rintro e w46 ⟨rfl,hi,hb,hk⟩;refine ⟨_,rfl,?_⟩;replace BK101:=mk0 (KeepBut.blk hk (g':=gb101) (o := .cells #[.int .i64 0, .int .i64 0, .int .i64 0, .slice none 0 0, .slice none 0 0] 27 (0,0)) zq26 NB101_0.out (by simp));replace BK102:=mk0 (KeepBut.blk hk (g':=gb102) (o := .cells #[.int .i64 4, .int .i64 s0_1, .int .i64 0, .slice none 0 0, .slice none 0 0] 27 (0,0)) zq19 NB102_0.out (by simp));replace HK:=mk0 (KeepBut.trans zq10 hk (.inl rfl));replace HB:=mk0 (hb);replace HI0:=mk0 (hi);clear hb hk hi;obtain ⟨HGz47,hgz47⟩:=HI0.out;have hcz47_0:=j2u HGz47;have hcz47_1:=j2t HGz47;have hfz47_0:=j1a HGz47 0;have hfz47_1:=j1a HGz47 1;clear HGz47 hgz47;have hcz48_0:w46.cell? ⟨gb102,0,none⟩=some (.int .i64 4):=(j1c BK102.out 0).trans rfl;have hcz48_1:w46.cell? ⟨gb102,1,none⟩=some (.int .i64 s0_1):=(j1c BK102.out 1).trans rfl;have hcz48_2:w46.cell? ⟨gb102,2,none⟩=some (.int .i64 0):=(j1c BK102.out 2).trans rfl;have hcz48_3:w46.cell? ⟨gb102,3,none⟩=some (.slice none 0 0):=(j1c BK102.out 3).trans rfl;have hcz48_4:w46.cell? ⟨gb102,4,none⟩=some (.slice none 0 0):=(j1c BK102.out 4).trans rfl;have hfz48_0:=j1a BK102.out 0;have hfz48_1:=j1a BK102.out 1;have hfz48_2:=j1a BK102.out 2;have hfz48_3:=j1a BK102.out 3;have hfz48_4:=j1a BK102.out 4;have hnb49:=NB101_0.out;have hnc49:=NB0_101.out;have hcz50_0:w46.cell? ⟨gb101,0,none⟩=some (.int .i64 0):=(j1c BK101.out 0).trans rfl;have hcz50_1:w46.cell? ⟨gb101,1,none⟩=some (.int .i64 0):=(j1c BK101.out 1).trans rfl;have hcz50_2:w46.cell? ⟨gb101,2,none⟩=some (.int .i64 0):=(j1c BK101.out 2).trans rfl;have hcz50_3:w46.cell? ⟨gb101,3,none⟩=some (.slice none 0 0):=(j1c BK101.out 3).trans rfl;have hcz50_4:w46.cell? ⟨gb101,4,none⟩=some (.slice none 0 0):=(j1c BK101.out 4).trans rfl;have hfz50_0:=j1a BK101.out 0;have hfz50_1:=j1a BK101.out 1;have hfz50_2:=j1a BK101.out 2;have hfz50_3:=j1a BK101.out 3;have hfz50_4:=j1a BK101.out 4))
  refine bodyPost_ret (j2w rfl _ _ gb101 27 #[.int .i64 4, .int .i64 s0_1, .int .i64 t123, .slice none 0 0, .slice none 0 0] (0,0) _ rfl (by (with_reducible repeat (first|refine j1i ?_ _|refine j1m ?_|refine j1e ?_ _));refine j2b (cs:=#[.int .i64 4, .int .i64 s0_1, .int .i64 t123, .slice none 0 0, .slice none 0 0]) ?_ 4 _ rfl;(with_reducible repeat (first|refine j1i ?_ _|refine j1m ?_|refine j1e ?_ _));refine j2b (cs:=#[.int .i64 4, .int .i64 s0_1, .int .i64 t123, .slice none 0 0, .slice none 0 0]) ?_ 3 _ rfl;(with_reducible repeat (first|refine j1i ?_ _|refine j1m ?_|refine j1e ?_ _));refine j2b (cs:=#[.int .i64 4, .int .i64 s0_1, .int .i64 0, .slice none 0 0, .slice none 0 0]) ?_ 2 _ rfl;(with_reducible repeat (first|refine j1i ?_ _|refine j1m ?_|refine j1e ?_ _));refine j2b (cs:=#[.int .i64 4, .int .i64 0, .int .i64 0, .slice none 0 0, .slice none 0 0]) ?_ 1 _ rfl;(with_reducible repeat (first|refine j1i ?_ _|refine j1m ?_|refine j1e ?_ _));refine j2b (cs:=#[.int .i64 0, .int .i64 0, .int .i64 0, .slice none 0 0, .slice none 0 0]) ?_ 0 _ rfl;(with_reducible repeat (first|refine j1i ?_ _|refine j1m ?_|refine j1e ?_ _));refine j3m ?_ NB101_102.out _;(with_reducible repeat (first|refine j1i ?_ _|refine j1m ?_|refine j1e ?_ _));exact BK101.out) Tryd.underlying27 rfl zq14) rfl ?_;exact zl2
 rw [if_neg c36] at H;have c36b0:(t103 == 34)=false:=beq_eq_false_iff_ne.mpr c36;have c36b1:(t103 != 34)=true:=bne_iff_ne.mpr c36;have HC51:=mk0 H;clear H
 (with_reducible refine (j2e.calls g s0_0 s0_1 t103 t104 t105 w0 _ ?side1 ?side2 A2.out).mono ?_);(case side1=>exact zq11);(case side2=>exact zq12);rintro e w58 ⟨rfl,hi,hb,hk⟩;replace BK101:=mk0 (KeepBut.blk hk (g':=gb101) (o := .cells #[.int .i64 0, .int .i64 0, .int .i64 0, .slice none 0 0, .slice none 0 0] 27 (0,0)) zq15 NB101_0.out (by simp));replace BK102:=mk0 (KeepBut.blk hk (g':=gb102) (o := .cells #[.int .i64 0, .int .i64 s0_1, .int .i64 0, .slice none 0 0, .slice none 0 0] 27 (0,0)) zq8 NB102_0.out (by simp));replace HK:=mk0 (KeepBut.trans zq10 hk (.inl rfl));replace HB:=mk0 (hb);replace HI0:=mk0 (hi);clear hb hk hi;go_upto_region 14 with (fail)
 (try simp only [Act.put,List.setIfInBounds_toArray,List.set_cons_zero,List.set_cons_succ])
 go_cut [42] (fun v42 wc=>∃ (kq:Nat) (x42_50:Bool),v42 = .bool x42_50∧Aside0 (j1n.j0 kq true x42_50 t104 t105 0 s0_1 0=some (r1,r2,r3,r4,r5,r6,r7,r8))∧Aside0 (kq≤k)∧Aside0 (wc.heap[gb101]? = some (.cells #[.int .i64 0, .int .i64 0, .int .i64 0,(.slice none 0 0),(.slice none 0 0)] 27 (0,0)))∧Aside0 (wc.heap[gb102]? = some (.cells #[.int .i64 0, .int .i64 s0_1, .int .i64 0,(.slice none 0 0),(.slice none 0 0)] 27 (0,0)))∧Aside0 (IsS89 w0 wc g t104 t105)∧Aside0 (KeepBut w wc g none)∧Aside0 (Below w0.heap.size w0 wc))
 case first =>
  have H:=HC51.out;clear HC51;by_cases c59:t103=45
  ·rw [if_pos c59] at H;have c59b0:(t103 == 45)=true:=beq_iff_eq.mpr c59;have c59b1:(t103 != 45)=false:=bne_eq_false_iff_eq.mpr c59;clear c59
   (skip)
   have H':=mk0 H;clear H;go_wp2
   go_meet
   case rel=>exact ⟨_,(true),(by rfl),H',⟨by omega⟩,⟨by (with_reducible repeat (first|refine j1i ?_ _|refine j1m ?_|refine j1e ?_ _));exact BK101.out⟩,⟨by (with_reducible repeat (first|refine j1i ?_ _|refine j1m ?_|refine j1e ?_ _));exact BK102.out⟩,⟨by repeat (first|(with_reducible first|exact HI0.out|apply IsS89.alloc|apply IsS89.drewN|apply IsS89.drew|apply IsS89.set_0|apply IsS89.set_1|refine IsS89.far ?_ NB0_101.out _|refine IsS89.far ?_ NB0_102.out _)|exact HI0.out)⟩,⟨by repeat (first|(with_reducible first|exact HK.out|apply KeepBut.set_|apply j2k|apply j2o|apply j2j|refine j3o ?_ GW101.out _|refine j3o ?_ GW102.out _)|exact HK.out)⟩,⟨by repeat (first|(with_reducible first|exact HB.out|apply j1g|apply j1d|apply j1l|refine j1y ?_ (IsS89.ge HI0.out)|refine j1y ?_ GE101.out|refine j1y ?_ GE102.out)|exact HB.out)⟩⟩
  rw [if_neg c59] at H;have c59b0:(t103 == 45)=false:=beq_eq_false_iff_ne.mpr c59;have c59b1:(t103 != 45)=true:=bne_iff_ne.mpr c59
  (skip)
  by_cases c60:48≤t103
  rotate_left
  ·rw [if_neg c60] at H;have c60b0:decide (48≤t103)=false:=decide_eq_false c60;clear c60;have H':=mk0 H;clear H;go_wp2
   go_meet
   case rel=>exact ⟨_,(false),(by rfl),H',⟨by omega⟩,⟨by (with_reducible repeat (first|refine j1i ?_ _|refine j1m ?_|refine j1e ?_ _));exact BK101.out⟩,⟨by (with_reducible repeat (first|refine j1i ?_ _|refine j1m ?_|refine j1e ?_ _));exact BK102.out⟩,⟨by repeat (first|(with_reducible first|exact HI0.out|apply IsS89.alloc|apply IsS89.drewN|apply IsS89.drew|apply IsS89.set_0|apply IsS89.set_1|refine IsS89.far ?_ NB0_101.out _|refine IsS89.far ?_ NB0_102.out _)|exact HI0.out)⟩,⟨by repeat (first|(with_reducible first|exact HK.out|apply KeepBut.set_|apply j2k|apply j2o|apply j2j|refine j3o ?_ GW101.out _|refine j3o ?_ GW102.out _)|exact HK.out)⟩,⟨by repeat (first|(with_reducible first|exact HB.out|apply j1g|apply j1d|apply j1l|refine j1y ?_ (IsS89.ge HI0.out)|refine j1y ?_ GE101.out|refine j1y ?_ GE102.out)|exact HB.out)⟩⟩
  rw [if_pos c60] at H;have c60b0:decide (48≤t103)=true:=decide_eq_true c60;clear c60;have H':=mk0 H;clear H;go_wp2
  go_meet
  case rel=>exact ⟨_,(decide (t103≤57)),(by rfl),H',⟨by omega⟩,⟨by (with_reducible repeat (first|refine j1i ?_ _|refine j1m ?_|refine j1e ?_ _));exact BK101.out⟩,⟨by (with_reducible repeat (first|refine j1i ?_ _|refine j1m ?_|refine j1e ?_ _));exact BK102.out⟩,⟨by repeat (first|(with_reducible first|exact HI0.out|apply IsS89.alloc|apply IsS89.drewN|apply IsS89.drew|apply IsS89.set_0|apply IsS89.set_1|refine IsS89.far ?_ NB0_101.out _|refine IsS89.far ?_ NB0_102.out _)|exact HI0.out)⟩,⟨by repeat (first|(with_reducible first|exact HK.out|apply KeepBut.set_|apply j2k|apply j2o|apply j2j|refine j3o ?_ GW101.out _|refine j3o ?_ GW102.out _)|exact HK.out)⟩,⟨by repeat (first|(with_reducible first|exact HB.out|apply j1g|apply j1d|apply j1l|refine j1y ?_ (IsS89.ge HI0.out)|refine j1y ?_ GE101.out|refine j1y ?_ GE102.out)|exact HB.out)⟩⟩
 case rest =>
  clear HC51 c3 c3b0 c3b1 c20 c20b0 c20b1 c36 c36b0 c36b1 hcz6_0 hcz6_1 hcz10_0 hcz10_1 hcz10_2 hcz10_3 hcz10_4 hfz6_0 hfz6_1 hfz10_0 hfz10_1 hfz10_2 hfz10_3 hfz10_4;obtain ⟨kq,x42_50,rfl,HA,HJ50,BK101,BK102,HI0,HK,HB⟩:=hcut;cases kq with
  | zero=>exact absurd HA.out (by simp [j1n.j0])
  | succ kj50 =>
   have H:=HA.out;clear HA;simp only [j1n.j0] at H;by_cases c61:x42_50=true
   ·subst c61;rw [if_pos rfl] at H;replace H:=Option.bind_eq_some_iff.mp H;obtain ⟨⟨t124,t125,t126⟩,A620,H⟩:=H
    (try dsimp only at H)
    have A62:=mk0 A620;clear A620;simp only [Option.some.injEq,Prod.mk.injEq] at H;obtain ⟨rfl,rfl,rfl,rfl,rfl,rfl,rfl,rfl⟩:=H;have hnb63:=NB102_101.out;have hnc63:=NB101_102.out;have hnb64:=NB102_0.out;have hnc64:=NB0_102.out;have hcz65_0:wc.cell? ⟨gb102,0,none⟩=some (.int .i64 0):=(j1c BK102.out 0).trans rfl;have hcz65_1:wc.cell? ⟨gb102,1,none⟩=some (.int .i64 s0_1):=(j1c BK102.out 1).trans rfl;have hcz65_2:wc.cell? ⟨gb102,2,none⟩=some (.int .i64 0):=(j1c BK102.out 2).trans rfl;have hcz65_3:wc.cell? ⟨gb102,3,none⟩=some (.slice none 0 0):=(j1c BK102.out 3).trans rfl;have hcz65_4:wc.cell? ⟨gb102,4,none⟩=some (.slice none 0 0):=(j1c BK102.out 4).trans rfl;have hfz65_0:=j1a BK102.out 0;have hfz65_1:=j1a BK102.out 1;have hfz65_2:=j1a BK102.out 2;have hfz65_3:=j1a BK102.out 3;have hfz65_4:=j1a BK102.out 4;go_wp2_with (first|((with_reducible refine j1u (f:=47) rfl ?_);refine j2p (some 55) rfl rfl Tryd.func47 zq14 rfl #[.pointer (some ⟨g,0,none⟩)] rfl zq1 ?_;(with_reducible refine (j1h.calls kj50 g t104 t105 t124 t125 t126 w0 _ ?side1 ?side2 A62.out).mono ?_);(case side1=>exact zq11);(case side2=>exact zq12);rintro e w66 ⟨rfl,hi,hb,hk⟩;refine ⟨_,rfl,?_⟩;replace BK101:=mk0 (KeepBut.blk hk (g':=gb101) (o := .cells #[.int .i64 0, .int .i64 0, .int .i64 0, .slice none 0 0, .slice none 0 0] 27 (0,0)) zq26 NB101_0.out (by simp));replace BK102:=mk0 (KeepBut.blk hk (g':=gb102) (o := .cells #[.int .i64 3, .int .i64 s0_1, .int .i64 0, .slice none 0 0, .slice none 0 0] 27 (0,0)) zq19 NB102_0.out (by simp));replace HK:=mk0 (KeepBut.trans zq10 hk (.inl rfl));replace HB:=mk0 (hb);replace HI0:=mk0 (hi);clear hb hk hi;obtain ⟨HGz67,hgz67⟩:=HI0.out;have hcz67_0:=j2u HGz67;have hcz67_1:=j2t HGz67;have hfz67_0:=j1a HGz67 0;have hfz67_1:=j1a HGz67 1;clear HGz67 hgz67;have hcz68_0:w66.cell? ⟨gb102,0,none⟩=some (.int .i64 3):=(j1c BK102.out 0).trans rfl;have hcz68_1:w66.cell? ⟨gb102,1,none⟩=some (.int .i64 s0_1):=(j1c BK102.out 1).trans rfl;have hcz68_2:w66.cell? ⟨gb102,2,none⟩=some (.int .i64 0):=(j1c BK102.out 2).trans rfl;have hcz68_3:w66.cell? ⟨gb102,3,none⟩=some (.slice none 0 0):=(j1c BK102.out 3).trans rfl;have hcz68_4:w66.cell? ⟨gb102,4,none⟩=some (.slice none 0 0):=(j1c BK102.out 4).trans rfl;have hfz68_0:=j1a BK102.out 0;have hfz68_1:=j1a BK102.out 1;have hfz68_2:=j1a BK102.out 2;have hfz68_3:=j1a BK102.out 3;have hfz68_4:=j1a BK102.out 4;have hnb69:=NB101_0.out;have hnc69:=NB0_101.out;have hcz70_0:w66.cell? ⟨gb101,0,none⟩=some (.int .i64 0):=(j1c BK101.out 0).trans rfl;have hcz70_1:w66.cell? ⟨gb101,1,none⟩=some (.int .i64 0):=(j1c BK101.out 1).trans rfl;have hcz70_2:w66.cell? ⟨gb101,2,none⟩=some (.int .i64 0):=(j1c BK101.out 2).trans rfl;have hcz70_3:w66.cell? ⟨gb101,3,none⟩=some (.slice none 0 0):=(j1c BK101.out 3).trans rfl;have hcz70_4:w66.cell? ⟨gb101,4,none⟩=some (.slice none 0 0):=(j1c BK101.out 4).trans rfl;have hfz70_0:=j1a BK101.out 0;have hfz70_1:=j1a BK101.out 1;have hfz70_2:=j1a BK101.out 2;have hfz70_3:=j1a BK101.out 3;have hfz70_4:=j1a BK101.out 4))
    refine bodyPost_ret (j2w rfl _ _ gb101 27 #[.int .i64 3, .int .i64 s0_1, .int .i64 t126, .slice none 0 0, .slice none 0 0] (0,0) _ rfl (by (with_reducible repeat (first|refine j1i ?_ _|refine j1m ?_|refine j1e ?_ _));refine j2b (cs:=#[.int .i64 3, .int .i64 s0_1, .int .i64 t126, .slice none 0 0, .slice none 0 0]) ?_ 4 _ rfl;(with_reducible repeat (first|refine j1i ?_ _|refine j1m ?_|refine j1e ?_ _));refine j2b (cs:=#[.int .i64 3, .int .i64 s0_1, .int .i64 t126, .slice none 0 0, .slice none 0 0]) ?_ 3 _ rfl;(with_reducible repeat (first|refine j1i ?_ _|refine j1m ?_|refine j1e ?_ _));refine j2b (cs:=#[.int .i64 3, .int .i64 s0_1, .int .i64 0, .slice none 0 0, .slice none 0 0]) ?_ 2 _ rfl;(with_reducible repeat (first|refine j1i ?_ _|refine j1m ?_|refine j1e ?_ _));refine j2b (cs:=#[.int .i64 3, .int .i64 0, .int .i64 0, .slice none 0 0, .slice none 0 0]) ?_ 1 _ rfl;(with_reducible repeat (first|refine j1i ?_ _|refine j1m ?_|refine j1e ?_ _));refine j2b (cs:=#[.int .i64 0, .int .i64 0, .int .i64 0, .slice none 0 0, .slice none 0 0]) ?_ 0 _ rfl;(with_reducible repeat (first|refine j1i ?_ _|refine j1m ?_|refine j1e ?_ _));refine j3m ?_ NB101_102.out _;(with_reducible repeat (first|refine j1i ?_ _|refine j1m ?_|refine j1e ?_ _));exact BK101.out) Tryd.underlying27 rfl zq14) rfl ?_;exact zl2
   replace c61:=Bool.eq_false_iff.mpr c61;subst c61;rw [if_neg (show ¬ (false=true) by decide)] at H;replace H:=Option.bind_eq_some_iff.mp H;obtain ⟨⟨t127,t128,t129⟩,A710,H⟩:=H
   (try dsimp only at H)
   have A71:=mk0 A710;clear A710;by_cases c72:t127=true
   ·subst c72;rw [if_pos rfl] at H;simp only [Option.some.injEq,Prod.mk.injEq] at H;obtain ⟨rfl,rfl,rfl,rfl,rfl,rfl,rfl,rfl⟩:=H;go_wp2_with (first|((with_reducible refine j1u (f:=68) rfl ?_);refine j2p (some 58) rfl rfl Tryd.func68 zq14 rfl #[.pointer (some ⟨g,0,none⟩), .string (⟨#[110,117,108,108]⟩:ByteArray)] rfl zq1 ?_;(with_reducible refine (j2x.calls g t104 t105 (⟨#[110,117,108,108]⟩:ByteArray) true t128 t129 w0 _ ?side1 ?side2 A71.out).mono ?_);(case side1=>exact zq11);(case side2=>exact zq12);rintro e w73 ⟨rfl,hi,hb,hk⟩;refine ⟨_,rfl,?_⟩;replace BK101:=mk0 (KeepBut.blk hk (g':=gb101) (o := .cells #[.int .i64 0, .int .i64 0, .int .i64 0, .slice none 0 0, .slice none 0 0] 27 (0,0)) zq6 NB101_0.out (by simp));replace BK102:=mk0 (KeepBut.blk hk (g':=gb102) (o := .cells #[.int .i64 0, .int .i64 s0_1, .int .i64 0, .slice none 0 0, .slice none 0 0] 27 (0,0)) zq35 NB102_0.out (by simp));replace HK:=mk0 (KeepBut.trans zq10 hk (.inl rfl));replace HB:=mk0 (hb);replace HI0:=mk0 (hi);clear hb hk hi;have hnb74:=NB102_101.out;have hnc74:=NB101_102.out;have hnb75:=NB102_0.out;have hnc75:=NB0_102.out;have hcz76_0:w73.cell? ⟨gb102,0,none⟩=some (.int .i64 0):=(j1c BK102.out 0).trans rfl;have hcz76_1:w73.cell? ⟨gb102,1,none⟩=some (.int .i64 s0_1):=(j1c BK102.out 1).trans rfl;have hcz76_2:w73.cell? ⟨gb102,2,none⟩=some (.int .i64 0):=(j1c BK102.out 2).trans rfl;have hcz76_3:w73.cell? ⟨gb102,3,none⟩=some (.slice none 0 0):=(j1c BK102.out 3).trans rfl;have hcz76_4:w73.cell? ⟨gb102,4,none⟩=some (.slice none 0 0):=(j1c BK102.out 4).trans rfl;have hfz76_0:=j1a BK102.out 0;have hfz76_1:=j1a BK102.out 1;have hfz76_2:=j1a BK102.out 2;have hfz76_3:=j1a BK102.out 3;have hfz76_4:=j1a BK102.out 4;obtain ⟨HGz77,hgz77⟩:=HI0.out;have hcz77_0:=j2u HGz77;have hcz77_1:=j2t HGz77;have hfz77_0:=j1a HGz77 0;have hfz77_1:=j1a HGz77 1;clear HGz77 hgz77;have hnb78:=NB101_0.out;have hnc78:=NB0_101.out;have hcz79_0:w73.cell? ⟨gb101,0,none⟩=some (.int .i64 0):=(j1c BK101.out 0).trans rfl;have hcz79_1:w73.cell? ⟨gb101,1,none⟩=some (.int .i64 0):=(j1c BK101.out 1).trans rfl;have hcz79_2:w73.cell? ⟨gb101,2,none⟩=some (.int .i64 0):=(j1c BK101.out 2).trans rfl;have hcz79_3:w73.cell? ⟨gb101,3,none⟩=some (.slice none 0 0):=(j1c BK101.out 3).trans rfl;have hcz79_4:w73.cell? ⟨gb101,4,none⟩=some (.slice none 0 0):=(j1c BK101.out 4).trans rfl;have hfz79_0:=j1a BK101.out 0;have hfz79_1:=j1a BK101.out 1;have hfz79_2:=j1a BK101.out 2;have hfz79_3:=j1a BK101.out 3;have hfz79_4:=j1a BK101.out 4))
    refine bodyPost_ret (j2w rfl _ _ gb101 27 #[.int .i64 0, .int .i64 s0_1, .int .i64 t129, .slice none 0 0, .slice none 0 0] (0,0) _ rfl (by (with_reducible repeat (first|refine j1i ?_ _|refine j1m ?_|refine j1e ?_ _));refine j2b (cs:=#[.int .i64 0, .int .i64 s0_1, .int .i64 t129, .slice none 0 0, .slice none 0 0]) ?_ 4 _ rfl;(with_reducible repeat (first|refine j1i ?_ _|refine j1m ?_|refine j1e ?_ _));refine j2b (cs:=#[.int .i64 0, .int .i64 s0_1, .int .i64 t129, .slice none 0 0, .slice none 0 0]) ?_ 3 _ rfl;(with_reducible repeat (first|refine j1i ?_ _|refine j1m ?_|refine j1e ?_ _));refine j2b (cs:=#[.int .i64 0, .int .i64 s0_1, .int .i64 0, .slice none 0 0, .slice none 0 0]) ?_ 2 _ rfl;(with_reducible repeat (first|refine j1i ?_ _|refine j1m ?_|refine j1e ?_ _));refine j2b (cs:=#[.int .i64 0, .int .i64 0, .int .i64 0, .slice none 0 0, .slice none 0 0]) ?_ 1 _ rfl;(with_reducible repeat (first|refine j1i ?_ _|refine j1m ?_|refine j1e ?_ _));refine j2b (cs:=#[.int .i64 0, .int .i64 0, .int .i64 0, .slice none 0 0, .slice none 0 0]) ?_ 0 _ rfl;(with_reducible repeat (first|refine j1i ?_ _|refine j1m ?_|refine j1e ?_ _));refine j3m ?_ NB101_102.out _;(with_reducible repeat (first|refine j1i ?_ _|refine j1m ?_|refine j1e ?_ _));refine j3m ?_ NB101_102.out _;(with_reducible repeat (first|refine j1i ?_ _|refine j1m ?_|refine j1e ?_ _));exact BK101.out) Tryd.underlying27 rfl zq14) rfl ?_;exact zl2
   replace c72:=Bool.eq_false_iff.mpr c72;subst c72;rw [if_neg (show ¬ (false=true) by decide)] at H;replace H:=Option.bind_eq_some_iff.mp H;obtain ⟨⟨t130,t131,t132⟩,A800,H⟩:=H
   (try dsimp only at H)
   have A80:=mk0 A800;clear A800;go_wp2_with (first|((with_reducible refine j1u (f:=68) rfl ?_);refine j2p (some 58) rfl rfl Tryd.func68 zq14 rfl #[.pointer (some ⟨g,0,none⟩), .string (⟨#[110,117,108,108]⟩:ByteArray)] rfl zq1 ?_;(with_reducible refine (j2x.calls g t104 t105 (⟨#[110,117,108,108]⟩:ByteArray) false t128 t129 w0 _ ?side1 ?side2 A71.out).mono ?_);(case side1=>exact zq11);(case side2=>exact zq12);rintro e w82 ⟨rfl,hi,hb,hk⟩;refine ⟨_,rfl,?_⟩;replace BK101:=mk0 (KeepBut.blk hk (g':=gb101) (o := .cells #[.int .i64 0, .int .i64 0, .int .i64 0, .slice none 0 0, .slice none 0 0] 27 (0,0)) zq6 NB101_0.out (by simp));replace BK102:=mk0 (KeepBut.blk hk (g':=gb102) (o := .cells #[.int .i64 0, .int .i64 s0_1, .int .i64 0, .slice none 0 0, .slice none 0 0] 27 (0,0)) zq35 NB102_0.out (by simp));replace HK:=mk0 (KeepBut.trans zq10 hk (.inl rfl));replace HB:=mk0 (hb);replace HI0:=mk0 (hi);clear hb hk hi))
   by_cases c81:t130=true
   ·subst c81;rw [if_pos rfl] at H;simp only [Option.some.injEq,Prod.mk.injEq] at H;obtain ⟨rfl,rfl,rfl,rfl,rfl,rfl,rfl,rfl⟩:=H
    (with_reducible refine (j2x.calls g t128 t129 (⟨#[102,97,108,115,101]⟩:ByteArray) true t131 t132 w0 _ ?side1 ?side2 A80.out).mono ?_);(case side1=>exact zq11);(case side2=>exact zq12);rintro e w83 ⟨rfl,hi,hb,hk⟩;replace BK101:=mk0 (KeepBut.blk hk (g':=gb101) (o := .cells #[.int .i64 0, .int .i64 0, .int .i64 0, .slice none 0 0, .slice none 0 0] 27 (0,0)) zq6 NB101_0.out (by simp));replace BK102:=mk0 (KeepBut.blk hk (g':=gb102) (o := .cells #[.int .i64 0, .int .i64 s0_1, .int .i64 0, .slice none 0 0, .slice none 0 0] 27 (0,0)) zq35 NB102_0.out (by simp));replace HK:=mk0 (KeepBut.trans zq10 hk (.inl rfl));replace HB:=mk0 (hb);replace HI0:=mk0 (hi);clear hb hk hi;have hnb84:=NB102_101.out;have hnc84:=NB101_102.out;have hnb85:=NB102_0.out;have hnc85:=NB0_102.out;have hcz86_0:w83.cell? ⟨gb102,0,none⟩=some (.int .i64 0):=(j1c BK102.out 0).trans rfl;have hcz86_1:w83.cell? ⟨gb102,1,none⟩=some (.int .i64 s0_1):=(j1c BK102.out 1).trans rfl;have hcz86_2:w83.cell? ⟨gb102,2,none⟩=some (.int .i64 0):=(j1c BK102.out 2).trans rfl;have hcz86_3:w83.cell? ⟨gb102,3,none⟩=some (.slice none 0 0):=(j1c BK102.out 3).trans rfl;have hcz86_4:w83.cell? ⟨gb102,4,none⟩=some (.slice none 0 0):=(j1c BK102.out 4).trans rfl;have hfz86_0:=j1a BK102.out 0;have hfz86_1:=j1a BK102.out 1;have hfz86_2:=j1a BK102.out 2;have hfz86_3:=j1a BK102.out 3;have hfz86_4:=j1a BK102.out 4;obtain ⟨HGz87,hgz87⟩:=HI0.out;have hcz87_0:=j2u HGz87;have hcz87_1:=j2t HGz87;have hfz87_0:=j1a HGz87 0;have hfz87_1:=j1a HGz87 1;clear HGz87 hgz87;have hnb88:=NB101_0.out;have hnc88:=NB0_101.out;have hcz89_0:w83.cell? ⟨gb101,0,none⟩=some (.int .i64 0):=(j1c BK101.out 0).trans rfl;have hcz89_1:w83.cell? ⟨gb101,1,none⟩=some (.int .i64 0):=(j1c BK101.out 1).trans rfl;have hcz89_2:w83.cell? ⟨gb101,2,none⟩=some (.int .i64 0):=(j1c BK101.out 2).trans rfl;have hcz89_3:w83.cell? ⟨gb101,3,none⟩=some (.slice none 0 0):=(j1c BK101.out 3).trans rfl;have hcz89_4:w83.cell? ⟨gb101,4,none⟩=some (.slice none 0 0):=(j1c BK101.out 4).trans rfl;have hfz89_0:=j1a BK101.out 0;have hfz89_1:=j1a BK101.out 1;have hfz89_2:=j1a BK101.out 2;have hfz89_3:=j1a BK101.out 3;have hfz89_4:=j1a BK101.out 4;go_wp2_with fail
    refine bodyPost_ret (j2w rfl _ _ gb101 27 #[.int .i64 1, .int .i64 s0_1, .int .i64 t132, .slice none 0 0, .slice none 0 0] (0,0) _ rfl (by (with_reducible repeat (first|refine j1i ?_ _|refine j1m ?_|refine j1e ?_ _));refine j2b (cs:=#[.int .i64 1, .int .i64 s0_1, .int .i64 t132, .slice none 0 0, .slice none 0 0]) ?_ 4 _ rfl;(with_reducible repeat (first|refine j1i ?_ _|refine j1m ?_|refine j1e ?_ _));refine j2b (cs:=#[.int .i64 1, .int .i64 s0_1, .int .i64 t132, .slice none 0 0, .slice none 0 0]) ?_ 3 _ rfl;(with_reducible repeat (first|refine j1i ?_ _|refine j1m ?_|refine j1e ?_ _));refine j2b (cs:=#[.int .i64 1, .int .i64 s0_1, .int .i64 0, .slice none 0 0, .slice none 0 0]) ?_ 2 _ rfl;(with_reducible repeat (first|refine j1i ?_ _|refine j1m ?_|refine j1e ?_ _));refine j2b (cs:=#[.int .i64 1, .int .i64 0, .int .i64 0, .slice none 0 0, .slice none 0 0]) ?_ 1 _ rfl;(with_reducible repeat (first|refine j1i ?_ _|refine j1m ?_|refine j1e ?_ _));refine j2b (cs:=#[.int .i64 0, .int .i64 0, .int .i64 0, .slice none 0 0, .slice none 0 0]) ?_ 0 _ rfl;(with_reducible repeat (first|refine j1i ?_ _|refine j1m ?_|refine j1e ?_ _));refine j3m ?_ NB101_102.out _;(with_reducible repeat (first|refine j1i ?_ _|refine j1m ?_|refine j1e ?_ _));refine j3m ?_ NB101_102.out _;(with_reducible repeat (first|refine j1i ?_ _|refine j1m ?_|refine j1e ?_ _));exact BK101.out) Tryd.underlying27 rfl zq14) rfl ?_;exact zl2
   replace c81:=Bool.eq_false_iff.mpr c81;subst c81;rw [if_neg (show ¬ (false=true) by decide)] at H;replace H:=Option.bind_eq_some_iff.mp H;obtain ⟨⟨t133,t134,t135⟩,A900,H⟩:=H
   (try dsimp only at H)
   have A90:=mk0 A900;clear A900
   (with_reducible refine (j2x.calls g t128 t129 (⟨#[102,97,108,115,101]⟩:ByteArray) false t131 t132 w0 _ ?side1 ?side2 A80.out).mono ?_);(case side1=>exact zq11);(case side2=>exact zq12);rintro e w93 ⟨rfl,hi,hb,hk⟩;replace BK101:=mk0 (KeepBut.blk hk (g':=gb101) (o := .cells #[.int .i64 0, .int .i64 0, .int .i64 0, .slice none 0 0, .slice none 0 0] 27 (0,0)) zq6 NB101_0.out (by simp));replace BK102:=mk0 (KeepBut.blk hk (g':=gb102) (o := .cells #[.int .i64 0, .int .i64 s0_1, .int .i64 0, .slice none 0 0, .slice none 0 0] 27 (0,0)) zq35 NB102_0.out (by simp));replace HK:=mk0 (KeepBut.trans zq10 hk (.inl rfl));replace HB:=mk0 (hb);replace HI0:=mk0 (hi);clear hb hk hi;go_wp2_with fail
   by_cases c91:t133=true
   rotate_left
   ·replace c91:=Bool.eq_false_iff.mpr c91;subst c91;rw [if_neg (show ¬ (false=true) by decide)] at H;simp only [Option.some.injEq,Prod.mk.injEq] at H;obtain ⟨rfl,rfl,rfl,rfl,rfl,rfl,rfl,rfl⟩:=H
    (with_reducible refine (j2x.calls g t131 t132 (⟨#[116,114,117,101]⟩:ByteArray) false t134 t135 w0 _ ?side1 ?side2 A90.out).mono ?_);(case side1=>exact zq11);(case side2=>exact zq12);rintro e w103 ⟨rfl,hi,hb,hk⟩;replace BK101:=mk0 (KeepBut.blk hk (g':=gb101) (o := .cells #[.int .i64 0, .int .i64 0, .int .i64 0, .slice none 0 0, .slice none 0 0] 27 (0,0)) zq6 NB101_0.out (by simp));replace BK102:=mk0 (KeepBut.blk hk (g':=gb102) (o := .cells #[.int .i64 0, .int .i64 s0_1, .int .i64 0, .slice none 0 0, .slice none 0 0] 27 (0,0)) zq35 NB102_0.out (by simp));replace HK:=mk0 (KeepBut.trans zq10 hk (.inl rfl));replace HB:=mk0 (hb);replace HI0:=mk0 (hi);clear hb hk hi;obtain ⟨HGz104,hgz104⟩:=HI0.out;have hcz104_0:=j2u HGz104;have hcz104_1:=j2t HGz104;have hfz104_0:=j1a HGz104 0;have hfz104_1:=j1a HGz104 1;clear HGz104 hgz104;have hnb105:=NB102_101.out;have hnc105:=NB101_102.out;have hnb106:=NB102_0.out;have hnc106:=NB0_102.out;have hcz107_0:w103.cell? ⟨gb102,0,none⟩=some (.int .i64 0):=(j1c BK102.out 0).trans rfl;have hcz107_1:w103.cell? ⟨gb102,1,none⟩=some (.int .i64 s0_1):=(j1c BK102.out 1).trans rfl;have hcz107_2:w103.cell? ⟨gb102,2,none⟩=some (.int .i64 0):=(j1c BK102.out 2).trans rfl;have hcz107_3:w103.cell? ⟨gb102,3,none⟩=some (.slice none 0 0):=(j1c BK102.out 3).trans rfl;have hcz107_4:w103.cell? ⟨gb102,4,none⟩=some (.slice none 0 0):=(j1c BK102.out 4).trans rfl;have hfz107_0:=j1a BK102.out 0;have hfz107_1:=j1a BK102.out 1;have hfz107_2:=j1a BK102.out 2;have hfz107_3:=j1a BK102.out 3;have hfz107_4:=j1a BK102.out 4;have hnb108:=NB101_0.out;have hnc108:=NB0_101.out;have hcz109_0:w103.cell? ⟨gb101,0,none⟩=some (.int .i64 0):=(j1c BK101.out 0).trans rfl;have hcz109_1:w103.cell? ⟨gb101,1,none⟩=some (.int .i64 0):=(j1c BK101.out 1).trans rfl;have hcz109_2:w103.cell? ⟨gb101,2,none⟩=some (.int .i64 0):=(j1c BK101.out 2).trans rfl;have hcz109_3:w103.cell? ⟨gb101,3,none⟩=some (.slice none 0 0):=(j1c BK101.out 3).trans rfl;have hcz109_4:w103.cell? ⟨gb101,4,none⟩=some (.slice none 0 0):=(j1c BK101.out 4).trans rfl;have hfz109_0:=j1a BK101.out 0;have hfz109_1:=j1a BK101.out 1;have hfz109_2:=j1a BK101.out 2;have hfz109_3:=j1a BK101.out 3;have hfz109_4:=j1a BK101.out 4;go_wp2_with fail
    refine bodyPost_ret (j2w rfl _ _ gb101 27 #[.int .i64 0, .int .i64 s0_1, .int .i64 t135, .slice none 0 0, .slice none 0 0] (0,0) _ rfl (by (with_reducible repeat (first|refine j1i ?_ _|refine j1m ?_|refine j1e ?_ _));refine j2b (cs:=#[.int .i64 0, .int .i64 s0_1, .int .i64 t135, .slice none 0 0, .slice none 0 0]) ?_ 4 _ rfl;(with_reducible repeat (first|refine j1i ?_ _|refine j1m ?_|refine j1e ?_ _));refine j2b (cs:=#[.int .i64 0, .int .i64 s0_1, .int .i64 t135, .slice none 0 0, .slice none 0 0]) ?_ 3 _ rfl;(with_reducible repeat (first|refine j1i ?_ _|refine j1m ?_|refine j1e ?_ _));refine j2b (cs:=#[.int .i64 0, .int .i64 s0_1, .int .i64 0, .slice none 0 0, .slice none 0 0]) ?_ 2 _ rfl;(with_reducible repeat (first|refine j1i ?_ _|refine j1m ?_|refine j1e ?_ _));refine j2b (cs:=#[.int .i64 0, .int .i64 0, .int .i64 0, .slice none 0 0, .slice none 0 0]) ?_ 1 _ rfl;(with_reducible repeat (first|refine j1i ?_ _|refine j1m ?_|refine j1e ?_ _));refine j2b (cs:=#[.int .i64 0, .int .i64 0, .int .i64 0, .slice none 0 0, .slice none 0 0]) ?_ 0 _ rfl;(with_reducible repeat (first|refine j1i ?_ _|refine j1m ?_|refine j1e ?_ _));refine j3m ?_ NB101_102.out _;(with_reducible repeat (first|refine j1i ?_ _|refine j1m ?_|refine j1e ?_ _));exact BK101.out) Tryd.underlying27 rfl zq14) rfl ?_;exact zl2
   subst c91;rw [if_pos rfl] at H;simp only [Option.some.injEq,Prod.mk.injEq] at H;obtain ⟨rfl,rfl,rfl,rfl,rfl,rfl,rfl,rfl⟩:=H
   (with_reducible refine (j2x.calls g t131 t132 (⟨#[116,114,117,101]⟩:ByteArray) true t134 t135 w0 _ ?side1 ?side2 A90.out).mono ?_);(case side1=>exact zq11);(case side2=>exact zq12);rintro e w94 ⟨rfl,hi,hb,hk⟩;replace BK101:=mk0 (KeepBut.blk hk (g':=gb101) (o := .cells #[.int .i64 0, .int .i64 0, .int .i64 0, .slice none 0 0, .slice none 0 0] 27 (0,0)) zq6 NB101_0.out (by simp));replace BK102:=mk0 (KeepBut.blk hk (g':=gb102) (o := .cells #[.int .i64 0, .int .i64 s0_1, .int .i64 0, .slice none 0 0, .slice none 0 0] 27 (0,0)) zq35 NB102_0.out (by simp));replace HK:=mk0 (KeepBut.trans zq10 hk (.inl rfl));replace HB:=mk0 (hb);replace HI0:=mk0 (hi);clear hb hk hi;have hnb95:=NB102_101.out;have hnc95:=NB101_102.out;have hnb96:=NB102_0.out;have hnc96:=NB0_102.out;have hcz97_0:w94.cell? ⟨gb102,0,none⟩=some (.int .i64 0):=(j1c BK102.out 0).trans rfl;have hcz97_1:w94.cell? ⟨gb102,1,none⟩=some (.int .i64 s0_1):=(j1c BK102.out 1).trans rfl;have hcz97_2:w94.cell? ⟨gb102,2,none⟩=some (.int .i64 0):=(j1c BK102.out 2).trans rfl;have hcz97_3:w94.cell? ⟨gb102,3,none⟩=some (.slice none 0 0):=(j1c BK102.out 3).trans rfl;have hcz97_4:w94.cell? ⟨gb102,4,none⟩=some (.slice none 0 0):=(j1c BK102.out 4).trans rfl;have hfz97_0:=j1a BK102.out 0;have hfz97_1:=j1a BK102.out 1;have hfz97_2:=j1a BK102.out 2;have hfz97_3:=j1a BK102.out 3;have hfz97_4:=j1a BK102.out 4;obtain ⟨HGz98,hgz98⟩:=HI0.out;have hcz98_0:=j2u HGz98;have hcz98_1:=j2t HGz98;have hfz98_0:=j1a HGz98 0;have hfz98_1:=j1a HGz98 1;clear HGz98 hgz98;have hnb99:=NB101_0.out;have hnc99:=NB0_101.out;have hcz100_0:w94.cell? ⟨gb101,0,none⟩=some (.int .i64 0):=(j1c BK101.out 0).trans rfl;have hcz100_1:w94.cell? ⟨gb101,1,none⟩=some (.int .i64 0):=(j1c BK101.out 1).trans rfl;have hcz100_2:w94.cell? ⟨gb101,2,none⟩=some (.int .i64 0):=(j1c BK101.out 2).trans rfl;have hcz100_3:w94.cell? ⟨gb101,3,none⟩=some (.slice none 0 0):=(j1c BK101.out 3).trans rfl;have hcz100_4:w94.cell? ⟨gb101,4,none⟩=some (.slice none 0 0):=(j1c BK101.out 4).trans rfl;have hfz100_0:=j1a BK101.out 0;have hfz100_1:=j1a BK101.out 1;have hfz100_2:=j1a BK101.out 2;have hfz100_3:=j1a BK101.out 3;have hfz100_4:=j1a BK101.out 4;go_wp2_with fail
   refine bodyPost_ret (j2w rfl _ _ gb101 27 #[.int .i64 2, .int .i64 s0_1, .int .i64 t135, .slice none 0 0, .slice none 0 0] (0,0) _ rfl (by (with_reducible repeat (first|refine j1i ?_ _|refine j1m ?_|refine j1e ?_ _));refine j2b (cs:=#[.int .i64 2, .int .i64 s0_1, .int .i64 t135, .slice none 0 0, .slice none 0 0]) ?_ 4 _ rfl;(with_reducible repeat (first|refine j1i ?_ _|refine j1m ?_|refine j1e ?_ _));refine j2b (cs:=#[.int .i64 2, .int .i64 s0_1, .int .i64 t135, .slice none 0 0, .slice none 0 0]) ?_ 3 _ rfl;(with_reducible repeat (first|refine j1i ?_ _|refine j1m ?_|refine j1e ?_ _));refine j2b (cs:=#[.int .i64 2, .int .i64 s0_1, .int .i64 0, .slice none 0 0, .slice none 0 0]) ?_ 2 _ rfl;(with_reducible repeat (first|refine j1i ?_ _|refine j1m ?_|refine j1e ?_ _));refine j2b (cs:=#[.int .i64 2, .int .i64 0, .int .i64 0, .slice none 0 0, .slice none 0 0]) ?_ 1 _ rfl;(with_reducible repeat (first|refine j1i ?_ _|refine j1m ?_|refine j1e ?_ _));refine j2b (cs:=#[.int .i64 0, .int .i64 0, .int .i64 0, .slice none 0 0, .slice none 0 0]) ?_ 0 _ rfl;(with_reducible repeat (first|refine j1i ?_ _|refine j1m ?_|refine j1e ?_ _));refine j3m ?_ NB101_102.out _;(with_reducible repeat (first|refine j1i ?_ _|refine j1m ?_|refine j1e ?_ _));refine j3m ?_ NB101_102.out _;(with_reducible repeat (first|refine j1i ?_ _|refine j1m ?_|refine j1e ?_ _));exact BK101.out) Tryd.underlying27 rfl zq14) rfl ?_;exact zl2
set_option maxHeartbeats 8000000 in
set_option maxRecDepth 100000 in
theorem j1j.step (k : Nat) (ih_51:∀ m,m<k→j1n.Stmt m) (ih_65:∀ m,m<k→j1j.Stmt m) (ih_66:∀ m,m<k→j1r.Stmt m):j1j.Stmt k:=by
 intro g s0_0 s0_1 r1 r2 r3 r4 r5 w0 w hI hB h;cases k with
 | zero=>exact absurd h (by simp [j1j.f])
 | succ k =>
 simp only [j1j.f] at h
 have hu49:=Tryd.underlying49;have hu27:=Tryd.underlying27;have HI0:=mk0 hI;have HK:=mk0 (KeepBut.refl w g none);have HL:=mk0 hB.size;clear hI;have HW0:=mk0 hB.size;have HB:=mk0 hB;clear hB;have H:((j1k.f k s0_0 (wrap64 (s0_1+1))).bind fun bt136=>((j1o.f bt136.1 bt136.2 125).bind fun bt138=>(if bt138.1=true then (some (([]:List (S49)),([]:List (S27)),true,bt138.2.1,bt138.2.2)) else (j1j.l0 k ([]:List (S49)) ([]:List (S27)) bt138.2.1 bt138.2.2))))=some (r1,r2,r3,r4,r5):=h;clear h;replace H:=Option.bind_eq_some_iff.mp H;obtain ⟨⟨t136,t137⟩,A20,H⟩:=H
 (try dsimp only at H)
 have A2:=mk0 A20;clear A20;replace H:=Option.bind_eq_some_iff.mp H;obtain ⟨⟨t138,t139,t140⟩,A30,H⟩:=H
 (try dsimp only at H)
 have A3:=mk0 A30;clear A30;obtain ⟨HGz5,hgz5⟩:=HI0.out;have hcz5_0:=j2u HGz5;have hcz5_1:=j2t HGz5;have hfz5_0:=j1a HGz5 0;have hfz5_1:=j1a HGz5 1;clear HGz5 hgz5;go_enter Tryd.func65,Tryd.ntmps65
 go_wp2_with (first|((with_reducible refine j1u (f:=50) rfl ?_);refine j2p (some 18) rfl rfl Tryd.func50 zq14 rfl #[.pointer (some ⟨g,0,none⟩)] rfl zq1 ?_;(with_reducible refine (j1k.calls k g s0_0 (wrap64 (s0_1+1)) t136 t137 w0 _ ?side1 ?side2 A2.out).mono ?_);(case side1=>exact zq0);(case side2=>exact zq4);rintro e w6 ⟨rfl,hi,hb,hk⟩;refine ⟨_,rfl,?_⟩;replace HK:=mk0 (KeepBut.trans zq2 hk (.inl rfl));replace HB:=mk0 (hb);replace HI0:=mk0 (hi);clear hb hk hi))
 by_cases c4:t138=true
 ·subst c4;rw [if_pos rfl] at H;simp only [Option.some.injEq,Prod.mk.injEq] at H;obtain ⟨rfl,rfl,rfl,rfl,rfl⟩:=H
  (with_reducible refine (j1o.calls g t136 t137 125 true t139 t140 w0 _ ?side1 ?side2 A3.out).mono ?_);(case side1=>exact zq0);(case side2=>exact zq4);rintro e w7 ⟨rfl,hi,hb,hk⟩;replace HK:=mk0 (KeepBut.trans zq2 hk (.inl rfl));replace HB:=mk0 (hb);replace HI0:=mk0 (hi);clear hb hk hi;go_wp2_with fail
  go_ret3
  exact zl7
 replace c4:=Bool.eq_false_iff.mpr c4;subst c4;rw [if_neg (show ¬ (false=true) by decide)] at H;have H':=mk0 H;clear H
 (with_reducible refine (j1o.calls g t136 t137 125 false t139 t140 w0 _ ?side1 ?side2 A3.out).mono ?_);(case side1=>exact zq0);(case side2=>exact zq4);rintro e w10 ⟨rfl,hi,hb,hk⟩;replace HK:=mk0 (KeepBut.trans zq2 hk (.inl rfl));replace HB:=mk0 (hb);replace HI0:=mk0 (hi);clear hb hk hi;go_wp2_with fail
 (try simp only [Act.put,List.setIfInBounds_toArray,List.set_cons_zero,List.set_cons_succ])
 go_loopg [5,6] k (fun kq v5 v6 w'=>∃ (x5_1:List (S49)) (x6_1:List (S27)) (x1000_1:ByteArray) (x1001_1:Int),Aside0 (j1j.l0 kq x5_1 x6_1 x1000_1 x1001_1=some (r1,r2,r3,r4,r5))∧Aside0 (kq≤k)∧Aside0 (Kd.R k49 49 w' w.heap.size (fun _=>True) v5 x5_1)∧Aside0 (Kd.R k27 27 w' w.heap.size (fun k_=>some k_≠(v5:Value).ownBlock) v6 x6_1)∧Aside0 (IsS89 w0 w' g x1000_1 x1001_1)∧Aside0 (KeepBut w w' g none)∧Aside0 (Below w0.heap.size w0 w'))
 case atStart=>exact ⟨(([]:List (S49))),(([]:List (S27))),(t139),(t140),H',⟨Nat.le_refl _⟩,⟨by exact Kd.R_nil _ _ _ _ _⟩,⟨by exact Kd.R_nil _ _ _ _ _⟩,⟨by repeat (first|(with_reducible first|exact HI0.out|apply IsS89.alloc|apply IsS89.drewN|apply IsS89.drew|apply IsS89.set_0|apply IsS89.set_1)|exact HI0.out)⟩,⟨by repeat (first|(with_reducible first|exact HK.out|apply KeepBut.set_|apply j2k|apply j2o|apply j2j)|exact HK.out)⟩,⟨by repeat (first|(with_reducible first|exact HB.out|apply j1g|apply j1d|apply j1l|refine j1y ?_ (IsS89.ge HI0.out))|exact HB.out)⟩⟩
 case round =>
  clear H';clear hcz5_0 hcz5_1 hfz5_0 hfz5_1;obtain ⟨x5_1,x6_1,x1000_1,x1001_1,HA,HK1,HO_5,HO_6,HI0,HK,HB⟩:=hrel;cases gk with
  | zero=>exact absurd HA.out (by simp [j1j.l0])
  | succ k1 =>
   have H:=HA.out;clear HA;simp only [j1j.l0] at H;have HC11:=mk0 H;clear H;obtain ⟨HGz12,hgz12⟩:=HI0.out;have hcz12_0:=j2u HGz12;have hcz12_1:=j2t HGz12;have hfz12_0:=j1a HGz12 0;have hfz12_1:=j1a HGz12 1;clear HGz12 hgz12;go_upto_region 8 with (fail)
   go_cut [32] (fun v32 wc=>∃ (kq:Nat) (x32_10:Bool) (x1000_10:ByteArray) (x1001_10:Int),v32 = .bool x32_10∧Aside0 (j1j.j1 kq x5_1 x6_1 x1001_1 x32_10 x1000_10 x1001_10=some (r1,r2,r3,r4,r5))∧Aside0 (kq≤k1)∧Aside0 (Kd.R k49 49 wc w.heap.size (fun _=>True) u5 x5_1)∧Aside0 (Kd.R k27 27 wc w.heap.size (fun k_=>some k_≠(u5:Value).ownBlock) u6 x6_1)∧Aside0 (IsS89 w0 wc g x1000_10 x1001_10)∧Aside0 (KeepBut w wc g none)∧Aside0 (Below w0.heap.size w0 wc))
   case first =>
    have H:=HC11.out;clear HC11;replace H:=Option.bind_eq_some_iff.mp H;obtain ⟨⟨t141,t142,t143⟩,A130,H⟩:=H
    (try dsimp only at H)
    have A13:=mk0 A130;clear A130;by_cases c14:t141=34
    rotate_left
    ·rw [if_neg c14] at H;have c14b0:(t141 == 34)=false:=beq_eq_false_iff_ne.mpr c14;have c14b1:(t141 != 34)=true:=bne_iff_ne.mpr c14
     (skip)
     have H':=mk0 H;clear H;go_wp2_with (first|((with_reducible refine j1u (f:=64) rfl ?_);refine j2p (some 26) rfl rfl Tryd.func64 zq14 rfl #[.pointer (some ⟨g,0,none⟩)] rfl zq1 ?_;(with_reducible refine (j2e.calls g x1000_1 x1001_1 t141 t142 t143 w0 _ ?side1 ?side2 A13.out).mono ?_);(case side1=>exact zq0);(case side2=>exact zq4);rintro e w18 ⟨rfl,hi,hb,hk⟩;refine ⟨_,rfl,?_⟩;replace HO_5:=mk0 (Kd.R_mono (Kd.R_keep (IsS89.apart (show IsS89 w0 _ g x1000_1 x1001_1 from zq0) zq59 zq47) hk (fun _ h=>h.2)) (fun _ h=>h.1));replace HO_6:=mk0 (Kd.R_mono (Kd.R_keep (IsS89.apart (show IsS89 w0 _ g x1000_1 x1001_1 from zq0) zq24 zq47) hk (fun _ h=>h.2)) (fun _ h=>h.1));replace HK:=mk0 (KeepBut.trans zq2 hk (.inl rfl));replace HB:=mk0 (hb);replace HI0:=mk0 (hi);clear hb hk hi))
     go_meet
     case rel=>exact ⟨_,(true),(t142),(t143),(by rfl),H',⟨by have:=HK1.out;first|omega|exact Nat.le_refl _⟩,⟨by (with_reducible repeat (first|apply Kd.R_alloc|apply Kd.R_drewN|apply Kd.R_drew));exact HO_5.out⟩,⟨by (with_reducible repeat (first|apply Kd.R_alloc|apply Kd.R_drewN|apply Kd.R_drew));exact HO_6.out⟩,⟨by repeat (first|(with_reducible first|exact HI0.out|apply IsS89.alloc|apply IsS89.drewN|apply IsS89.drew|apply IsS89.set_0|apply IsS89.set_1)|exact HI0.out)⟩,⟨by repeat (first|(with_reducible first|exact HK.out|apply KeepBut.set_|apply j2k|apply j2o|apply j2j)|exact HK.out)⟩,⟨by repeat (first|(with_reducible first|exact HB.out|apply j1g|apply j1d|apply j1l|refine j1y ?_ (IsS89.ge HI0.out))|exact HB.out)⟩⟩
    rw [if_pos c14] at H;have c14b0:(t141 == 34)=true:=beq_iff_eq.mpr c14;have c14b1:(t141 != 34)=false:=bne_eq_false_iff_eq.mpr c14;clear c14
    (skip)
    replace H:=Option.bind_eq_some_iff.mp H;obtain ⟨⟨t144,t145,t146⟩,A150,H⟩:=H
    (try dsimp only at H)
    have A15:=mk0 A150;clear A150;have H':=mk0 H;clear H;go_wp2_with (first|((with_reducible refine j1u (f:=64) rfl ?_);refine j2p (some 26) rfl rfl Tryd.func64 zq14 rfl #[.pointer (some ⟨g,0,none⟩)] rfl zq1 ?_;(with_reducible refine (j2e.calls g x1000_1 x1001_1 t141 t142 t143 w0 _ ?side1 ?side2 A13.out).mono ?_);(case side1=>exact zq0);(case side2=>exact zq4);rintro e w16 ⟨rfl,hi,hb,hk⟩;refine ⟨_,rfl,?_⟩;replace HO_5:=mk0 (Kd.R_mono (Kd.R_keep (IsS89.apart (show IsS89 w0 _ g x1000_1 x1001_1 from zq0) zq59 zq47) hk (fun _ h=>h.2)) (fun _ h=>h.1));replace HO_6:=mk0 (Kd.R_mono (Kd.R_keep (IsS89.apart (show IsS89 w0 _ g x1000_1 x1001_1 from zq0) zq24 zq47) hk (fun _ h=>h.2)) (fun _ h=>h.1));replace HK:=mk0 (KeepBut.trans zq2 hk (.inl rfl));replace HB:=mk0 (hb);replace HI0:=mk0 (hi);clear hb hk hi)|(go_at_call 67;(with_reducible refine (j1t.calls k1 g t142 t143 t144 t145 t146 w0 _ ?side1 ?side2 A15.out).mono ?_);(case side1=>exact zq0);(case side2=>exact zq4);rintro e w17 ⟨rfl,hi,hb,hk⟩;replace HO_5:=mk0 (Kd.R_mono (Kd.R_keep (IsS89.apart (show IsS89 w0 _ g t142 t143 from zq0) zq59 zq47) hk (fun _ h=>h.2)) (fun _ h=>h.1));replace HO_6:=mk0 (Kd.R_mono (Kd.R_keep (IsS89.apart (show IsS89 w0 _ g t142 t143 from zq0) zq24 zq47) hk (fun _ h=>h.2)) (fun _ h=>h.1));replace HK:=mk0 (KeepBut.trans zq2 hk (.inl rfl));replace HB:=mk0 (hb);replace HI0:=mk0 (hi);clear hb hk hi))
    go_meet
    case rel=>exact ⟨_,(!t144),(t145),(t146),(by rfl),H',⟨by have:=HK1.out;first|omega|exact Nat.le_refl _⟩,⟨by (with_reducible repeat (first|apply Kd.R_alloc|apply Kd.R_drewN|apply Kd.R_drew));exact HO_5.out⟩,⟨by (with_reducible repeat (first|apply Kd.R_alloc|apply Kd.R_drewN|apply Kd.R_drew));exact HO_6.out⟩,⟨by repeat (first|(with_reducible first|exact HI0.out|apply IsS89.alloc|apply IsS89.drewN|apply IsS89.drew|apply IsS89.set_0|apply IsS89.set_1)|exact HI0.out)⟩,⟨by repeat (first|(with_reducible first|exact HK.out|apply KeepBut.set_|apply j2k|apply j2o|apply j2j)|exact HK.out)⟩,⟨by repeat (first|(with_reducible first|exact HB.out|apply j1g|apply j1d|apply j1l|refine j1y ?_ (IsS89.ge HI0.out))|exact HB.out)⟩⟩
   case rest =>
    clear HC11 hcz12_0 hcz12_1 hfz12_0 hfz12_1;obtain ⟨kq,x32_10,x1000_10,x1001_10,rfl,HA,HJ10,HO_5,HO_6,HI0,HK,HB⟩:=hcut;cases kq with
    | zero=>exact absurd HA.out (by simp [j1j.j1])
    | succ kj10 =>
     have H:=HA.out;clear HA;simp only [j1j.j1] at H;by_cases c19:x32_10=true
     ·subst c19;rw [if_pos rfl] at H;simp only [Option.some.injEq,Prod.mk.injEq] at H;obtain ⟨rfl,rfl,rfl,rfl,rfl⟩:=H;go_wp2
      go_ret3
      exact zl7
     replace c19:=Bool.eq_false_iff.mpr c19;subst c19;rw [if_neg (show ¬ (false=true) by decide)] at H;by_cases c20:x5_1.length<8796093022208
     rotate_left
     ·rw [if_neg c20] at H;exact absurd H (by simp)
     rw [if_pos c20] at H;have LMc20:=mk0 c20;clear c20;obtain ⟨y147,hy147⟩:∃ y_:List (S49),y_=(x5_1++[(⟨x1001_1,x1001_10⟩:S49)]):=⟨_,rfl⟩;replace H:((j1k.f kj10 x1000_10 x1001_10).bind fun bt150=>((j1o.f bt150.1 bt150.2 58).bind fun bt152=>(if bt152.1=true then ((j1k.f kj10 bt152.2.1 bt152.2.2).bind fun bt155=>((j1n.f kj10 bt155.1 bt155.2).bind fun bt157=>(if bt157.2.2.2.2.2.1=true then (if x6_1.length<1954687338268 then ((some (x6_1++[(⟨bt157.1,bt157.2.1,bt157.2.2.1,bt157.2.2.2.1,bt157.2.2.2.2.1⟩:S27)]:List (S27))).bind fun y170=>((j1k.f kj10 bt157.2.2.2.2.2.2.1 bt157.2.2.2.2.2.2.2).bind fun bt173=>((j1o.f bt173.1 bt173.2 125).bind fun bt175=>(if bt175.1=true then (some (y147,y170,true,bt175.2.1,bt175.2.2)) else ((j1o.f bt175.2.1 bt175.2.2 44).bind fun bt178=>(if bt178.1=true then ((j1k.f kj10 bt178.2.1 bt178.2.2).bind fun bt181=>(j1j.l0 kj10 y147 y170 bt181.1 bt181.2)) else (some (([]:List (S49)),([]:List (S27)),false,bt178.2.1,bt178.2.2)))))))) else (none)) else (some (([]:List (S49)),([]:List (S27)),false,bt157.2.2.2.2.2.2.1,bt157.2.2.2.2.2.2.2))))) else (some (([]:List (S49)),([]:List (S27)),false,bt152.2.1,bt152.2.2)))))=some (r1,r2,r3,r4,r5):=by (have H2_:=(Option.bind_some _ _).symm.trans H;rw [hy147];with_reducible exact H2_)
     have Ny147:=mk0 hy147;clear hy147;replace H:=Option.bind_eq_some_iff.mp H;obtain ⟨⟨t150,t151⟩,A210,H⟩:=H
     (try dsimp only at H)
     have A21:=mk0 A210;clear A210;replace H:=Option.bind_eq_some_iff.mp H;obtain ⟨⟨t152,t153,t154⟩,A220,H⟩:=H
     (try dsimp only at H)
     have A22:=mk0 A220;clear A220;obtain ⟨HGz31,hgz31⟩:=HI0.out;have hcz31_0:=j2u HGz31;have hcz31_1:=j2t HGz31;have hfz31_0:=j1a HGz31 0;have hfz31_1:=j1a HGz31 1;clear HGz31 hgz31;go_wp2_with (first|((with_reducible refine j3g (b := .append) (xs:=#[.tmp 33, .tmp 40]) rfl ?_);at_builtin;refine Kd.R_append k49 w.heap.size rfl (.tmp 33) (.tmp 40) 24 49 (.agg #[(.int .i64 0),(.int .i64 0)]) 16 rfl Tryd.underlying24 info49 rfl zq47 (by omega) u5 x5_1 (⟨x1001_1,x1001_10⟩:S49) [.int .i64 x1001_1, .int .i64 x1001_10] (fun _=>True) (fun _=>False) rfl rfl ?aP (fun _ hk=>hk.elim) ?aF ?aO (Below.refl _ _) ?aS ?aL ?_;(case aP=>exact k49_mkM _ _ _ (⟨x1001_1,x1001_10⟩:S49));(case aF=>exact (fun _ _=>trivial));(case aO=>exact zq59);(case aS=>exact (j3t (w:=w) (g:=g) (row:=none) zq2));(case aL=>have:=LMc20.out;first|omega|(simp only [List.length_cons,List.length_nil] at this ⊢; omega));intro v148 w32 ho hb hg hat;rw [← Ny147.out] at ho;have n0_:=mk0 (Kd.R_after (ok:=(fun _=>True)) (by (with_reducible repeat (first|apply Kd.R_alloc|apply Kd.R_drewN|apply Kd.R_drew));exact Kd.R_mono HO_6.out (fun _ hk=>⟨trivial,hk⟩)) hg hat);have n1_:=mk0 (IsS89.grown zq0 hg (IsS89.own_ne HI0.out HO_5.out zq47));have n2_:=mk0 (below_weaken zq4 HL.out hb);have n3_:=mk0 (KeepBut.trans zq2 (KeepBut.of_grown hg g) (Kd.R_base2 HO_5.out));have n4_:=mk0 (ho);clear HO_6 HI0 HB HK HO_5;have HO_6:=n0_;have HI0:=n1_;have HB:=n2_;have HK:=n3_;have HO149:=n4_;clear n0_ n1_ n2_ n3_ n4_;clear ho hb hg hat)|((with_reducible refine j1u (f:=50) rfl ?_);refine j2p (some 43) rfl rfl Tryd.func50 zq14 rfl #[.pointer (some ⟨g,0,none⟩)] rfl zq1 ?_;(with_reducible refine (j1k.calls kj10 g x1000_10 x1001_10 t150 t151 w0 _ ?side1 ?side2 A21.out).mono ?_);(case side1=>exact zq0);(case side2=>exact zq4);rintro e w33 ⟨rfl,hi,hb,hk⟩;refine ⟨_,rfl,?_⟩;replace HO_6:=mk0 (Kd.R_mono (Kd.R_keep (IsS89.apart (show IsS89 w0 _ g x1000_10 x1001_10 from zq0) zq24 zq47) hk (fun _ h=>h.2)) (fun _ h=>h.1));replace HO149:=mk0 (Kd.R_mono (Kd.R_keep (IsS89.apart (show IsS89 w0 _ g x1000_10 x1001_10 from zq0) zq17 zq47) hk (fun _ h=>h.2)) (fun _ h=>h.1));replace HK:=mk0 (KeepBut.trans zq2 hk (.inl rfl));replace HB:=mk0 (hb);replace HI0:=mk0 (hi);clear hb hk hi))
     by_cases c23:t152=true
     rotate_left
     ·replace c23:=Bool.eq_false_iff.mpr c23;subst c23;rw [if_neg (show ¬ (false=true) by decide)] at H;simp only [Option.some.injEq,Prod.mk.injEq] at H;obtain ⟨rfl,rfl,rfl,rfl,rfl⟩:=H
      (with_reducible refine (j1o.calls g t150 t151 58 false t153 t154 w0 _ ?side1 ?side2 A22.out).mono ?_);(case side1=>exact zq0);(case side2=>exact zq4);rintro e w99 ⟨rfl,hi,hb,hk⟩;replace HO_6:=mk0 (Kd.R_mono (Kd.R_keep (IsS89.apart (show IsS89 w0 _ g t150 t151 from zq0) zq24 zq47) hk (fun _ h=>h.2)) (fun _ h=>h.1));replace HO149:=mk0 (Kd.R_mono (Kd.R_keep (IsS89.apart (show IsS89 w0 _ g t150 t151 from zq0) zq17 zq47) hk (fun _ h=>h.2)) (fun _ h=>h.1));replace HK:=mk0 (KeepBut.trans zq2 hk (.inl rfl));replace HB:=mk0 (hb);replace HI0:=mk0 (hi);clear hb hk hi;go_wp2_with fail
      go_ret3
      exact zl7
     subst c23;rw [if_pos rfl] at H;replace H:=Option.bind_eq_some_iff.mp H;obtain ⟨⟨t155,t156⟩,A240,H⟩:=H
     (try dsimp only at H)
     have A24:=mk0 A240;clear A240;replace H:=Option.bind_eq_some_iff.mp H;obtain ⟨⟨t157,t158,t159,t160,t163,t166,t167,t168⟩,A250,H⟩:=H
     (try dsimp only at H)
     have A25:=mk0 A250;clear A250
     (with_reducible refine (j1o.calls g t150 t151 58 true t153 t154 w0 _ ?side1 ?side2 A22.out).mono ?_);(case side1=>exact zq0);(case side2=>exact zq4);rintro e w34 ⟨rfl,hi,hb,hk⟩;replace HO_6:=mk0 (Kd.R_mono (Kd.R_keep (IsS89.apart (show IsS89 w0 _ g t150 t151 from zq0) zq24 zq47) hk (fun _ h=>h.2)) (fun _ h=>h.1));replace HO149:=mk0 (Kd.R_mono (Kd.R_keep (IsS89.apart (show IsS89 w0 _ g t150 t151 from zq0) zq17 zq47) hk (fun _ h=>h.2)) (fun _ h=>h.1));replace HK:=mk0 (KeepBut.trans zq2 hk (.inl rfl));replace HB:=mk0 (hb);replace HI0:=mk0 (hi);clear hb hk hi;go_wp2_with (first|((with_reducible refine j1u (f:=50) rfl ?_);refine j2p (some 48) rfl rfl Tryd.func50 zq14 rfl #[.pointer (some ⟨g,0,none⟩)] rfl zq1 ?_;(with_reducible refine (j1k.calls kj10 g t153 t154 t155 t156 w0 _ ?side1 ?side2 A24.out).mono ?_);(case side1=>exact zq0);(case side2=>exact zq4);rintro e w35 ⟨rfl,hi,hb,hk⟩;refine ⟨_,rfl,?_⟩;replace HO_6:=mk0 (Kd.R_mono (Kd.R_keep (IsS89.apart (show IsS89 w0 _ g t153 t154 from zq0) zq24 zq47) hk (fun _ h=>h.2)) (fun _ h=>h.1));replace HO149:=mk0 (Kd.R_mono (Kd.R_keep (IsS89.apart (show IsS89 w0 _ g t153 t154 from zq0) zq17 zq47) hk (fun _ h=>h.2)) (fun _ h=>h.1));replace HK:=mk0 (KeepBut.trans zq2 hk (.inl rfl));replace HB:=mk0 (hb);replace HI0:=mk0 (hi);clear hb hk hi))
     by_cases c26:t166=true
     rotate_left
     ·replace c26:=Bool.eq_false_iff.mpr c26;subst c26;rw [if_neg (show ¬ (false=true) by decide)] at H;simp only [Option.some.injEq,Prod.mk.injEq] at H;obtain ⟨rfl,rfl,rfl,rfl,rfl⟩:=H
      (with_reducible refine (ih_51 kj10 (by have:=HK1.out;have:=HJ10.out;omega) g t155 t156 t157 t158 t159 t160 t163 false t167 t168 w0 _ ?side1 ?side2 A25.out).mono ?_);(case side1=>exact zq0);(case side2=>exact zq4);rintro e w90 ⟨v161,v164,rfl,ho0,ho1,hi,hb,hk⟩;have HO162:=mk0 (Kd.R_lower (Kd.R_new' ho0 (Kd.R_lt zq17)) (j3t (w:=w) (g:=g) (row:=none) zq2));have HO165:=mk0 (Kd.R_lower (Kd.R_new' (Kd.R_new' ho1 (Kd.R_lt zq24)) (Kd.R_lt zq17)) (j3t (w:=w) (g:=g) (row:=none) zq2));replace HO_6:=mk0 (Kd.R_mono (Kd.R_told (Kd.R_told (Kd.R_oldK (IsS89.apart (show IsS89 w0 _ g t155 t156 from zq0) zq24 zq47) hk) (Kd.R_base ho0)) (Kd.R_base ho1)) (fun _ h_=>h_.1));replace HO149:=mk0 (Kd.R_mono (Kd.R_told (Kd.R_oldK (IsS89.apart (show IsS89 w0 _ g t155 t156 from zq0) zq17 zq47) hk) (Kd.R_base ho0)) (fun _ h_=>h_.1));replace HK:=mk0 (KeepBut.trans zq2 hk (.inl rfl));replace HB:=mk0 (hb);replace HI0:=mk0 (hi);clear hb hk hi ho0 ho1;go_wp2_with (first|((with_reducible refine j2z (N:=8) rfl ?_);refine j3e ?hg (N:=8) ?hd (cs:=#[.int .i64 0, .int .i64 0, .int .i64 0, .slice none 0 0, .slice none 0 0]) (t:=27) ?hr ?_;(case hd=>rfl);(case hg=>rfl);(case hr=>exact zq28);intro gb169 hg w91 hbox hb;replace HO_6:=mk0 (Kd.R_below (Kd.R_elderB zq24 gb169 (Nat.le_of_eq hg.symm)) hb);replace HO149:=mk0 (Kd.R_below zq17 hb);replace HO162:=mk0 (Kd.R_below (by (with_reducible repeat (first|apply Kd.R_alloc|apply Kd.R_drewN|apply Kd.R_drew));exact HO162.out) hb);replace HO165:=mk0 (Kd.R_below (Kd.R_elderB (by (with_reducible repeat (first|apply Kd.R_alloc|apply Kd.R_drewN|apply Kd.R_drew));exact HO165.out) gb169 (Nat.le_of_eq hg.symm)) hb);replace HB:=mk0 (j1p zq4 hb);have BK169:=mk0 (hbox);have GW169:=mk0 ((zq41:w.heap.size≤gb169));have GE169:=mk0 ((Nat.le_trans HW0.out (zq41:w.heap.size≤gb169):w0.heap.size≤gb169));replace HK:=mk0 (KeepBut.trans zq2 (KeepBut.of_below hb g none) (.inl rfl));have NB0_169:=mk0 ((by rw [hg];exact Nat.ne_of_lt (IsS89.lt (show IsS89 w0 _ g t167 t168 from zq0)):g≠gb169));have NB169_0:=mk0 ((by rw [hg];exact Nat.ne_of_gt (IsS89.lt (show IsS89 w0 _ g t167 t168 from zq0)):gb169≠g));replace HI0:=mk0 (IsS89.below zq0 hb);clear hb hbox hg;have hnb92:=NB169_0.out;have hnc92:=NB0_169.out;have hcz93_0:w91.cell? ⟨gb169,0,none⟩=some (.int .i64 0):=(j1c BK169.out 0).trans rfl;have hcz93_1:w91.cell? ⟨gb169,1,none⟩=some (.int .i64 0):=(j1c BK169.out 1).trans rfl;have hcz93_2:w91.cell? ⟨gb169,2,none⟩=some (.int .i64 0):=(j1c BK169.out 2).trans rfl;have hcz93_3:w91.cell? ⟨gb169,3,none⟩=some (.slice none 0 0):=(j1c BK169.out 3).trans rfl;have hcz93_4:w91.cell? ⟨gb169,4,none⟩=some (.slice none 0 0):=(j1c BK169.out 4).trans rfl;have hfz93_0:=j1a BK169.out 0;have hfz93_1:=j1a BK169.out 1;have hfz93_2:=j1a BK169.out 2;have hfz93_3:=j1a BK169.out 3;have hfz93_4:=j1a BK169.out 4;obtain ⟨Ao94,co94,eo94⟩:=Kd.R_slice HO162.out;subst eo94;obtain ⟨Ao95,co95,eo95⟩:=Kd.R_slice HO165.out;subst eo95))
      go_ret3
      exact zl8
     subst c26;rw [if_pos rfl] at H;by_cases c27:x6_1.length<1954687338268
     rotate_left
     ·rw [if_neg c27] at H;exact absurd H (by simp)
     rw [if_pos c27] at H;have LMc27:=mk0 c27;clear c27;obtain ⟨y170,hy170⟩:∃ y_:List (S27),y_=(x6_1++[(⟨t157,t158,t159,t160,t163⟩:S27)]):=⟨_,rfl⟩;replace H:((j1k.f kj10 t167 t168).bind fun bt173=>((j1o.f bt173.1 bt173.2 125).bind fun bt175=>(if bt175.1=true then (some (y147,y170,true,bt175.2.1,bt175.2.2)) else ((j1o.f bt175.2.1 bt175.2.2 44).bind fun bt178=>(if bt178.1=true then ((j1k.f kj10 bt178.2.1 bt178.2.2).bind fun bt181=>(j1j.l0 kj10 y147 y170 bt181.1 bt181.2)) else (some (([]:List (S49)),([]:List (S27)),false,bt178.2.1,bt178.2.2)))))))=some (r1,r2,r3,r4,r5):=by (have H2_:=(Option.bind_some _ _).symm.trans H;rw [hy170];with_reducible exact H2_)
     have Ny170:=mk0 hy170;clear hy170;replace H:=Option.bind_eq_some_iff.mp H;obtain ⟨⟨t173,t174⟩,A280,H⟩:=H
     (try dsimp only at H)
     have A28:=mk0 A280;clear A280;replace H:=Option.bind_eq_some_iff.mp H;obtain ⟨⟨t175,t176,t177⟩,A290,H⟩:=H
     (try dsimp only at H)
     have A29:=mk0 A290;clear A290
     (with_reducible refine (ih_51 kj10 (by have:=HK1.out;have:=HJ10.out;omega) g t155 t156 t157 t158 t159 t160 t163 true t167 t168 w0 _ ?side1 ?side2 A25.out).mono ?_);(case side1=>exact zq0);(case side2=>exact zq4);rintro e w36 ⟨v161,v164,rfl,ho0,ho1,hi,hb,hk⟩;have HO162:=mk0 (Kd.R_lower (Kd.R_new' ho0 (Kd.R_lt zq17)) (j3t (w:=w) (g:=g) (row:=none) zq2));have HO165:=mk0 (Kd.R_lower (Kd.R_new' (Kd.R_new' ho1 (Kd.R_lt zq24)) (Kd.R_lt zq17)) (j3t (w:=w) (g:=g) (row:=none) zq2));replace HO_6:=mk0 (Kd.R_mono (Kd.R_told (Kd.R_told (Kd.R_oldK (IsS89.apart (show IsS89 w0 _ g t155 t156 from zq0) zq24 zq47) hk) (Kd.R_base ho0)) (Kd.R_base ho1)) (fun _ h_=>h_.1));replace HO149:=mk0 (Kd.R_mono (Kd.R_told (Kd.R_oldK (IsS89.apart (show IsS89 w0 _ g t155 t156 from zq0) zq17 zq47) hk) (Kd.R_base ho0)) (fun _ h_=>h_.1));replace HK:=mk0 (KeepBut.trans zq2 hk (.inl rfl));replace HB:=mk0 (hb);replace HI0:=mk0 (hi);clear hb hk hi ho0 ho1;go_wp2_with (first|((with_reducible refine j2z (N:=8) rfl ?_);refine j3e ?hg (N:=8) ?hd (cs:=#[.int .i64 0, .int .i64 0, .int .i64 0, .slice none 0 0, .slice none 0 0]) (t:=27) ?hr ?_;(case hd=>rfl);(case hg=>rfl);(case hr=>exact zq28);intro gb169 hg w37 hbox hb;replace HO_6:=mk0 (Kd.R_below (Kd.R_elderB zq24 gb169 (Nat.le_of_eq hg.symm)) hb);replace HO149:=mk0 (Kd.R_below zq17 hb);replace HO162:=mk0 (Kd.R_below (by (with_reducible repeat (first|apply Kd.R_alloc|apply Kd.R_drewN|apply Kd.R_drew));exact HO162.out) hb);replace HO165:=mk0 (Kd.R_below (Kd.R_elderB (by (with_reducible repeat (first|apply Kd.R_alloc|apply Kd.R_drewN|apply Kd.R_drew));exact HO165.out) gb169 (Nat.le_of_eq hg.symm)) hb);replace HB:=mk0 (j1p zq4 hb);have BK169:=mk0 (hbox);have GW169:=mk0 ((zq41:w.heap.size≤gb169));have GE169:=mk0 ((Nat.le_trans HW0.out (zq41:w.heap.size≤gb169):w0.heap.size≤gb169));replace HK:=mk0 (KeepBut.trans zq2 (KeepBut.of_below hb g none) (.inl rfl));have NB0_169:=mk0 ((by rw [hg];exact Nat.ne_of_lt (IsS89.lt (show IsS89 w0 _ g t167 t168 from zq0)):g≠gb169));have NB169_0:=mk0 ((by rw [hg];exact Nat.ne_of_gt (IsS89.lt (show IsS89 w0 _ g t167 t168 from zq0)):gb169≠g));replace HI0:=mk0 (IsS89.below zq0 hb);clear hb hbox hg;have hnb38:=NB169_0.out;have hnc38:=NB0_169.out;have hcz39_0:w37.cell? ⟨gb169,0,none⟩=some (.int .i64 0):=(j1c BK169.out 0).trans rfl;have hcz39_1:w37.cell? ⟨gb169,1,none⟩=some (.int .i64 0):=(j1c BK169.out 1).trans rfl;have hcz39_2:w37.cell? ⟨gb169,2,none⟩=some (.int .i64 0):=(j1c BK169.out 2).trans rfl;have hcz39_3:w37.cell? ⟨gb169,3,none⟩=some (.slice none 0 0):=(j1c BK169.out 3).trans rfl;have hcz39_4:w37.cell? ⟨gb169,4,none⟩=some (.slice none 0 0):=(j1c BK169.out 4).trans rfl;have hfz39_0:=j1a BK169.out 0;have hfz39_1:=j1a BK169.out 1;have hfz39_2:=j1a BK169.out 2;have hfz39_3:=j1a BK169.out 3;have hfz39_4:=j1a BK169.out 4;obtain ⟨Ao40,co40,eo40⟩:=Kd.R_slice HO162.out;subst eo40;obtain ⟨Ao41,co41,eo41⟩:=Kd.R_slice HO165.out;subst eo41)|((with_reducible refine j3h (t:=27) (p:=8) rfl ?_);refine store_event (t:=27) (p:=8) (v:=?vo_w42) (w1:=(((((w37.setCell ⟨gb169,0,none⟩ (.int .i64 t157)).setCell ⟨gb169,1,none⟩ (.int .i64 t158)).setCell ⟨gb169,2,none⟩ (.int .i64 t159)).setCell ⟨gb169,3,none⟩ (.slice Ao40 t160.length co40)).setCell ⟨gb169,4,none⟩ (.slice Ao41 t163.length co41))) ?hg ?ho ?hn ?hr ?_;(case ho=>rfl);(case hg=>rfl);(case hn=>rfl);(case hr=>exact zq28);intro w42 hw;have n0_:Aside0 (Kd.R k27 27 w42 w.heap.size (fun k_=>some k_≠(v148:Value).ownBlock∧some k_≠(.slice Ao40 t160.length co40:Value).ownBlock∧some k_≠(.slice Ao41 t163.length co41:Value).ownBlock∧k_≠gb169) u6 x6_1):=⟨(by rw [hw];exact (by (with_reducible repeat (first|apply Kd.R_alloc|apply Kd.R_drewN|apply Kd.R_drew));exact Kd.R_mono (Kd.R_far (p:=⟨gb169,4,none⟩) (Kd.R_far (p:=⟨gb169,3,none⟩) (Kd.R_far (p:=⟨gb169,2,none⟩) (Kd.R_far (p:=⟨gb169,1,none⟩) (Kd.R_far (p:=⟨gb169,0,none⟩) (Kd.R_mono HO_6.out (fun k_ hk=>(⟨hk,hk.2⟩:_∧k_≠gb169))) (fun _ hk=>hk.2) (.int .i64 t157)) (fun _ hk=>hk.2) (.int .i64 t158)) (fun _ hk=>hk.2) (.int .i64 t159)) (fun _ hk=>hk.2) (.slice Ao40 t160.length co40)) (fun _ hk=>hk.2) (.slice Ao41 t163.length co41)) (fun _ hk=>⟨hk.1.1.1.1.2,⟨hk.1.1.1.2,⟨hk.1.1.2,hk.1.2⟩⟩⟩)))⟩;have n1_:Aside0 (Kd.R k49 49 w42 w.heap.size (fun k_=>some k_≠(.slice Ao40 t160.length co40:Value).ownBlock) v148 y147):=⟨(by rw [hw];exact (by (with_reducible repeat (first|apply Kd.R_alloc|apply Kd.R_drewN|apply Kd.R_drew));exact Kd.R_mono (Kd.R_far (p:=⟨gb169,4,none⟩) (Kd.R_far (p:=⟨gb169,3,none⟩) (Kd.R_far (p:=⟨gb169,2,none⟩) (Kd.R_far (p:=⟨gb169,1,none⟩) (Kd.R_far (p:=⟨gb169,0,none⟩) (Kd.R_types HO149.out BK169.out zq47) (fun _ hk=>hk.2) (.int .i64 t157)) (fun _ hk=>hk.2) (.int .i64 t158)) (fun _ hk=>hk.2) (.int .i64 t159)) (fun _ hk=>hk.2) (.slice Ao40 t160.length co40)) (fun _ hk=>hk.2) (.slice Ao41 t163.length co41)) (fun _ hk=>hk.1.2)))⟩;have n2_:Aside0 (Kd.R k49 49 w42 w.heap.size (fun k_=>some k_≠(v148:Value).ownBlock) (.slice Ao40 t160.length co40) t160):=⟨(by rw [hw];exact (by (with_reducible repeat (first|apply Kd.R_alloc|apply Kd.R_drewN|apply Kd.R_drew));exact Kd.R_mono (Kd.R_far (p:=⟨gb169,4,none⟩) (Kd.R_far (p:=⟨gb169,3,none⟩) (Kd.R_far (p:=⟨gb169,2,none⟩) (Kd.R_far (p:=⟨gb169,1,none⟩) (Kd.R_far (p:=⟨gb169,0,none⟩) (Kd.R_types HO162.out BK169.out zq47) (fun _ hk=>hk.2) (.int .i64 t157)) (fun _ hk=>hk.2) (.int .i64 t158)) (fun _ hk=>hk.2) (.int .i64 t159)) (fun _ hk=>hk.2) (.slice Ao40 t160.length co40)) (fun _ hk=>hk.2) (.slice Ao41 t163.length co41)) (fun _ hk=>hk.1.2)))⟩;have n3_:Aside0 (Kd.R k27 27 w42 w.heap.size (fun k_=>some k_≠(u6:Value).ownBlock∧some k_≠(v148:Value).ownBlock∧some k_≠(.slice Ao40 t160.length co40:Value).ownBlock∧k_≠gb169) (.slice Ao41 t163.length co41) t163):=⟨(by rw [hw];exact (by (with_reducible repeat (first|apply Kd.R_alloc|apply Kd.R_drewN|apply Kd.R_drew));exact Kd.R_mono (Kd.R_far (p:=⟨gb169,4,none⟩) (Kd.R_far (p:=⟨gb169,3,none⟩) (Kd.R_far (p:=⟨gb169,2,none⟩) (Kd.R_far (p:=⟨gb169,1,none⟩) (Kd.R_far (p:=⟨gb169,0,none⟩) (Kd.R_mono HO165.out (fun k_ hk=>(⟨hk,hk.2⟩:_∧k_≠gb169))) (fun _ hk=>hk.2) (.int .i64 t157)) (fun _ hk=>hk.2) (.int .i64 t158)) (fun _ hk=>hk.2) (.int .i64 t159)) (fun _ hk=>hk.2) (.slice Ao40 t160.length co40)) (fun _ hk=>hk.2) (.slice Ao41 t163.length co41)) (fun _ hk=>⟨hk.1.1.1.2,⟨hk.1.1.2,⟨hk.1.1.1.1,hk.1.2⟩⟩⟩)))⟩;have n4_:Aside0 (w42.heap[gb169]? = some (.cells #[.int .i64 t157, .int .i64 t158, .int .i64 t159, .slice Ao40 t160.length co40, .slice Ao41 t163.length co41] 27 (0,0))):=⟨(by rw [hw];exact (by (with_reducible repeat (first|refine j1i ?_ _|refine j1m ?_|refine j1e ?_ _));refine j2b (cs:=#[.int .i64 t157, .int .i64 t158, .int .i64 t159, .slice Ao40 t160.length co40, .slice none 0 0]) ?_ 4 _ rfl;(with_reducible repeat (first|refine j1i ?_ _|refine j1m ?_|refine j1e ?_ _));refine j2b (cs:=#[.int .i64 t157, .int .i64 t158, .int .i64 t159, .slice none 0 0, .slice none 0 0]) ?_ 3 _ rfl;(with_reducible repeat (first|refine j1i ?_ _|refine j1m ?_|refine j1e ?_ _));refine j2b (cs:=#[.int .i64 t157, .int .i64 t158, .int .i64 0, .slice none 0 0, .slice none 0 0]) ?_ 2 _ rfl;(with_reducible repeat (first|refine j1i ?_ _|refine j1m ?_|refine j1e ?_ _));refine j2b (cs:=#[.int .i64 t157, .int .i64 0, .int .i64 0, .slice none 0 0, .slice none 0 0]) ?_ 1 _ rfl;(with_reducible repeat (first|refine j1i ?_ _|refine j1m ?_|refine j1e ?_ _));refine j2b (cs:=#[.int .i64 0, .int .i64 0, .int .i64 0, .slice none 0 0, .slice none 0 0]) ?_ 0 _ rfl;(with_reducible repeat (first|refine j1i ?_ _|refine j1m ?_|refine j1e ?_ _));exact BK169.out))⟩;have n5_:Aside0 (IsS89 w0 w42 g t167 t168):=⟨(by rw [hw];exact zq7)⟩;have n6_:Aside0 (KeepBut w w42 g none):=⟨(by rw [hw];exact zq22)⟩;have n7_:Aside0 (Below w0.heap.size w0 w42):=⟨(by rw [hw];exact zq20)⟩;clear hw HO_6 HO149 HO162 HO165 BK169 HI0 HK HB;have HO_6:=n0_;have HO149:=n1_;have HO162:=n2_;have HO165:=n3_;have BK169:=n4_;have HI0:=n5_;have HK:=n6_;have HB:=n7_;clear n0_ n1_ n2_ n3_ n4_ n5_ n6_ n7_;have hcz43_0:w42.cell? ⟨gb169,0,none⟩=some (.int .i64 t157):=(j1c BK169.out 0).trans rfl;have hcz43_1:w42.cell? ⟨gb169,1,none⟩=some (.int .i64 t158):=(j1c BK169.out 1).trans rfl;have hcz43_2:w42.cell? ⟨gb169,2,none⟩=some (.int .i64 t159):=(j1c BK169.out 2).trans rfl;have hcz43_3:w42.cell? ⟨gb169,3,none⟩=some (.slice Ao40 t160.length co40):=(j1c BK169.out 3).trans rfl;have hcz43_4:w42.cell? ⟨gb169,4,none⟩=some (.slice Ao41 t163.length co41):=(j1c BK169.out 4).trans rfl;have hfz43_0:=j1a BK169.out 0;have hfz43_1:=j1a BK169.out 1;have hfz43_2:=j1a BK169.out 2;have hfz43_3:=j1a BK169.out 3;have hfz43_4:=j1a BK169.out 4)|((with_reducible refine j3g (b := .append) (xs:=#[.tmp 56, .tmp 58]) rfl ?_);at_builtin;refine Kd.R_append k27 w.heap.size rfl (.tmp 56) (.tmp 58) 25 27 (.agg #[(.int .i64 0),(.int .i64 0),(.int .i64 0),(.slice none 0 0),(.slice none 0 0)]) 72 rfl Tryd.underlying25 info27 rfl zq47 (by omega) u6 x6_1 (⟨t157,t158,t159,t160,t163⟩:S27) [.int .i64 t157, .int .i64 t158, .int .i64 t159, .slice Ao40 t160.length co40, .slice Ao41 t163.length co41] (fun k_=>some k_≠(v148:Value).ownBlock∧k_≠gb169) (fun k_=>((fun k_=>some k_≠(v148:Value).ownBlock∧k_≠gb169)) k_∧some k_≠(u6:Value).ownBlock) rfl rfl ?aP (fun _ hk=>hk) ?aF ?aO (Below.refl _ _) ?aS ?aL ?_;(case aP=>exact k27_mkM _ _ _ (⟨t157,t158,t159,t160,t163⟩:S27) (Kd.R_mono (Kd.R_types (Kd.R_apart' (HO162.out) (Kd.R_typed HO_6.out) zq47) BK169.out zq47) (fun k_ hk=>⟨⟨hk.1.1,hk.2⟩,hk.1.2⟩)) (Kd.R_mono (HO165.out) (fun k_ hk=>⟨⟨hk.2.1,hk.2.2.2⟩,hk.1⟩)));(case aF=>exact (fun k_ hk=>⟨Kd.fresh' (Kd.R_lt zq17) k_ hk,Kd.freshB (g:=gb169) (o := .cells #[.int .i64 t157, .int .i64 t158, .int .i64 t159, .slice Ao40 t160.length co40, .slice Ao41 t163.length co41] 27 (0,0)) zq36 k_ hk⟩));(case aO=>exact (by (with_reducible repeat (first|apply Kd.R_alloc|apply Kd.R_drewN|apply Kd.R_drew));exact Kd.R_mono HO_6.out (fun _ hk=>⟨hk.1,hk.2.2.2⟩)));(case aS=>exact (j3t (w:=w) (g:=g) (row:=none) zq22));(case aL=>have:=LMc27.out;first|omega|(simp only [List.length_cons,List.length_nil] at this ⊢; omega));intro v171 w44 ho hb hg hat;rw [← Ny170.out] at ho;have n0_:=mk0 (IsS89.grown zq7 hg (IsS89.own_ne HI0.out HO_6.out zq47));have n1_:=mk0 (Kd.R_over' zq17 (Kd.R_typed zq24) zq47 hg);have n2_:=mk0 (blk_grown (g:=gb169) (o := .cells #[.int .i64 t157, .int .i64 t158, .int .i64 t159, .slice Ao40 t160.length co40, .slice Ao41 t163.length co41] 27 (0,0)) zq36 hg (Kd.R_away HO_6.out (fun _ hk=>hk.2.2.2)));have n3_:=mk0 (below_weaken zq20 HL.out hb);have n4_:=mk0 (KeepBut.trans zq22 (KeepBut.of_grown hg g) (Kd.R_base2 HO_6.out));have n5_:=mk0 (ho);clear HI0 HO149 BK169 HB HK HO_6 HO162 HO165;have HI0:=n0_;have HO149:=n1_;have BK169:=n2_;have HB:=n3_;have HK:=n4_;have HO172:=n5_;clear n0_ n1_ n2_ n3_ n4_ n5_;clear ho hb hg hat)|((with_reducible refine j1u (f:=50) rfl ?_);refine j2p (some 61) rfl rfl Tryd.func50 zq14 rfl #[.pointer (some ⟨g,0,none⟩)] rfl zq1 ?_;(with_reducible refine (j1k.calls kj10 g t167 t168 t173 t174 w0 _ ?side1 ?side2 A28.out).mono ?_);(case side1=>exact zq7);(case side2=>exact zq20);rintro e w45 ⟨rfl,hi,hb,hk⟩;refine ⟨_,rfl,?_⟩;replace HO149:=mk0 (Kd.R_mono (Kd.R_keep (IsS89.apart (show IsS89 w0 _ g t167 t168 from zq7) zq17 zq47) hk (fun _ h=>h.2)) (fun _ h=>h.1));replace BK169:=mk0 (KeepBut.blk hk (g':=gb169) (o := .cells #[.int .i64 t157, .int .i64 t158, .int .i64 t159, .slice Ao40 t160.length co40, .slice Ao41 t163.length co41] 27 (0,0)) zq36 NB169_0.out (by simp));replace HO172:=mk0 (Kd.R_mono (Kd.R_keep (IsS89.apart (show IsS89 w0 _ g t167 t168 from zq7) zq43 zq47) hk (fun _ h=>h.2)) (fun _ h=>h.1));replace HK:=mk0 (KeepBut.trans zq22 hk (.inl rfl));replace HB:=mk0 (hb);replace HI0:=mk0 (hi);clear hb hk hi))
     by_cases c30:t175=true
     ·subst c30;rw [if_pos rfl] at H;simp only [Option.some.injEq,Prod.mk.injEq] at H;obtain ⟨rfl,rfl,rfl,rfl,rfl⟩:=H
      (with_reducible refine (j1o.calls g t173 t174 125 true t176 t177 w0 _ ?side1 ?side2 A29.out).mono ?_);(case side1=>exact zq7);(case side2=>exact zq20);rintro e w46 ⟨rfl,hi,hb,hk⟩;replace HO149:=mk0 (Kd.R_mono (Kd.R_keep (IsS89.apart (show IsS89 w0 _ g t173 t174 from zq7) zq17 zq47) hk (fun _ h=>h.2)) (fun _ h=>h.1));replace BK169:=mk0 (KeepBut.blk hk (g':=gb169) (o := .cells #[.int .i64 t157, .int .i64 t158, .int .i64 t159, .slice Ao40 t160.length co40, .slice Ao41 t163.length co41] 27 (0,0)) zq36 NB169_0.out (by simp));replace HO172:=mk0 (Kd.R_mono (Kd.R_keep (IsS89.apart (show IsS89 w0 _ g t173 t174 from zq7) zq43 zq47) hk (fun _ h=>h.2)) (fun _ h=>h.1));replace HK:=mk0 (KeepBut.trans zq22 hk (.inl rfl));replace HB:=mk0 (hb);replace HI0:=mk0 (hi);clear hb hk hi;go_wp2_with fail
      go_ret3
      exact ⟨_,_,by rfl,by (with_reducible repeat (first|apply Kd.R_alloc|apply Kd.R_drewN|apply Kd.R_drew));exact Kd.R_mono HO149.out (fun _ hk=>trivial),by (with_reducible repeat (first|apply Kd.R_alloc|apply Kd.R_drewN|apply Kd.R_drew));exact Kd.R_mono HO172.out (fun _ hk=>hk.1),by repeat (first|(with_reducible first|exact HI0.out|apply IsS89.alloc|apply IsS89.drewN|apply IsS89.drew|apply IsS89.set_0|apply IsS89.set_1|refine IsS89.far ?_ NB0_169.out _)|exact HI0.out),by repeat (first|(with_reducible first|exact HB.out|apply j1g|apply j1d|apply j1l|refine j1y ?_ (IsS89.ge HI0.out)|refine j1y ?_ GE169.out)|exact HB.out),by repeat (first|(with_reducible first|exact HK.out|apply KeepBut.set_|apply j2k|apply j2o|apply j2j|refine j3o ?_ GW169.out _)|exact HK.out)⟩
     replace c30:=Bool.eq_false_iff.mpr c30;subst c30;rw [if_neg (show ¬ (false=true) by decide)] at H;replace H:=Option.bind_eq_some_iff.mp H;obtain ⟨⟨t178,t179,t180⟩,A470,H⟩:=H
     (try dsimp only at H)
     have A47:=mk0 A470;clear A470
     (with_reducible refine (j1o.calls g t173 t174 125 false t176 t177 w0 _ ?side1 ?side2 A29.out).mono ?_);(case side1=>exact zq7);(case side2=>exact zq20);rintro e w65 ⟨rfl,hi,hb,hk⟩;replace HO149:=mk0 (Kd.R_mono (Kd.R_keep (IsS89.apart (show IsS89 w0 _ g t173 t174 from zq7) zq17 zq47) hk (fun _ h=>h.2)) (fun _ h=>h.1));replace BK169:=mk0 (KeepBut.blk hk (g':=gb169) (o := .cells #[.int .i64 t157, .int .i64 t158, .int .i64 t159, .slice Ao40 t160.length co40, .slice Ao41 t163.length co41] 27 (0,0)) zq36 NB169_0.out (by simp));replace HO172:=mk0 (Kd.R_mono (Kd.R_keep (IsS89.apart (show IsS89 w0 _ g t173 t174 from zq7) zq43 zq47) hk (fun _ h=>h.2)) (fun _ h=>h.1));replace HK:=mk0 (KeepBut.trans zq22 hk (.inl rfl));replace HB:=mk0 (hb);replace HI0:=mk0 (hi);clear hb hk hi;go_wp2_with fail
     by_cases c48:t178=true
     rotate_left
     ·replace c48:=Bool.eq_false_iff.mpr c48;subst c48;rw [if_neg (show ¬ (false=true) by decide)] at H;simp only [Option.some.injEq,Prod.mk.injEq] at H;obtain ⟨rfl,rfl,rfl,rfl,rfl⟩:=H
      (with_reducible refine (j1o.calls g t176 t177 44 false t179 t180 w0 _ ?side1 ?side2 A47.out).mono ?_);(case side1=>exact zq7);(case side2=>exact zq20);rintro e w84 ⟨rfl,hi,hb,hk⟩;replace HO149:=mk0 (Kd.R_mono (Kd.R_keep (IsS89.apart (show IsS89 w0 _ g t176 t177 from zq7) zq17 zq47) hk (fun _ h=>h.2)) (fun _ h=>h.1));replace BK169:=mk0 (KeepBut.blk hk (g':=gb169) (o := .cells #[.int .i64 t157, .int .i64 t158, .int .i64 t159, .slice Ao40 t160.length co40, .slice Ao41 t163.length co41] 27 (0,0)) zq36 NB169_0.out (by simp));replace HO172:=mk0 (Kd.R_mono (Kd.R_keep (IsS89.apart (show IsS89 w0 _ g t176 t177 from zq7) zq43 zq47) hk (fun _ h=>h.2)) (fun _ h=>h.1));replace HK:=mk0 (KeepBut.trans zq22 hk (.inl rfl));replace HB:=mk0 (hb);replace HI0:=mk0 (hi);clear hb hk hi;go_wp2_with fail
      go_ret3
      exact zl8
     subst c48;rw [if_pos rfl] at H;replace H:=Option.bind_eq_some_iff.mp H;obtain ⟨⟨t181,t182⟩,A490,H⟩:=H
     (try dsimp only at H)
     have A49:=mk0 A490;clear A490;have H':=mk0 H;clear H
     (with_reducible refine (j1o.calls g t176 t177 44 true t179 t180 w0 _ ?side1 ?side2 A47.out).mono ?_);(case side1=>exact zq7);(case side2=>exact zq20);rintro e w66 ⟨rfl,hi,hb,hk⟩;replace HO149:=mk0 (Kd.R_mono (Kd.R_keep (IsS89.apart (show IsS89 w0 _ g t176 t177 from zq7) zq17 zq47) hk (fun _ h=>h.2)) (fun _ h=>h.1));replace BK169:=mk0 (KeepBut.blk hk (g':=gb169) (o := .cells #[.int .i64 t157, .int .i64 t158, .int .i64 t159, .slice Ao40 t160.length co40, .slice Ao41 t163.length co41] 27 (0,0)) zq36 NB169_0.out (by simp));replace HO172:=mk0 (Kd.R_mono (Kd.R_keep (IsS89.apart (show IsS89 w0 _ g t176 t177 from zq7) zq43 zq47) hk (fun _ h=>h.2)) (fun _ h=>h.1));replace HK:=mk0 (KeepBut.trans zq22 hk (.inl rfl));replace HB:=mk0 (hb);replace HI0:=mk0 (hi);clear hb hk hi;go_wp2_with (first|((with_reducible refine j1u (f:=50) rfl ?_);refine j2p (some 70) rfl rfl Tryd.func50 zq14 rfl #[.pointer (some ⟨g,0,none⟩)] rfl zq1 ?_;(with_reducible refine (j1k.calls kj10 g t179 t180 t181 t182 w0 _ ?side1 ?side2 A49.out).mono ?_);(case side1=>exact zq7);(case side2=>exact zq20);rintro e w67 ⟨rfl,hi,hb,hk⟩;refine ⟨_,rfl,?_⟩;replace HO149:=mk0 (Kd.R_mono (Kd.R_keep (IsS89.apart (show IsS89 w0 _ g t179 t180 from zq7) zq17 zq47) hk (fun _ h=>h.2)) (fun _ h=>h.1));replace BK169:=mk0 (KeepBut.blk hk (g':=gb169) (o := .cells #[.int .i64 t157, .int .i64 t158, .int .i64 t159, .slice Ao40 t160.length co40, .slice Ao41 t163.length co41] 27 (0,0)) zq36 NB169_0.out (by simp));replace HO172:=mk0 (Kd.R_mono (Kd.R_keep (IsS89.apart (show IsS89 w0 _ g t179 t180 from zq7) zq43 zq47) hk (fun _ h=>h.2)) (fun _ h=>h.1));replace HK:=mk0 (KeepBut.trans zq22 hk (.inl rfl));replace HB:=mk0 (hb);replace HI0:=mk0 (hi);clear hb hk hi))
     go_roundg kj10
     case measure=>have:=HK1.out;have:=HJ10.out;omega
     case rel=>exact ⟨(y147),(y170),(t181),(t182),H',⟨by have:=HK1.out;have:=HJ10.out;omega⟩,⟨by (with_reducible repeat (first|apply Kd.R_alloc|apply Kd.R_drewN|apply Kd.R_drew));exact Kd.R_mono HO149.out (fun _ hk=>trivial)⟩,⟨by (with_reducible repeat (first|apply Kd.R_alloc|apply Kd.R_drewN|apply Kd.R_drew));exact Kd.R_mono HO172.out (fun _ hk=>hk.1)⟩,⟨by repeat (first|(with_reducible first|exact HI0.out|apply IsS89.alloc|apply IsS89.drewN|apply IsS89.drew|apply IsS89.set_0|apply IsS89.set_1|refine IsS89.far ?_ NB0_169.out _)|exact HI0.out)⟩,⟨by repeat (first|(with_reducible first|exact HK.out|apply KeepBut.set_|apply j2k|apply j2o|apply j2j|refine j3o ?_ GW169.out _)|exact HK.out)⟩,⟨by repeat (first|(with_reducible first|exact HB.out|apply j1g|apply j1d|apply j1l|refine j1y ?_ (IsS89.ge HI0.out)|refine j1y ?_ GE169.out)|exact HB.out)⟩⟩
set_option maxHeartbeats 8000000 in
set_option maxRecDepth 100000 in
theorem j1r.step (k : Nat) (ih_51:∀ m,m<k→j1n.Stmt m) (ih_65:∀ m,m<k→j1j.Stmt m) (ih_66:∀ m,m<k→j1r.Stmt m):j1r.Stmt k:=by
 intro g s0_0 s0_1 r1 r2 r3 r4 w0 w hI hB h;cases k with
 | zero=>exact absurd h (by simp [j1r.f])
 | succ k =>
 simp only [j1r.f] at h
 have hu27:=Tryd.underlying27;have HI0:=mk0 hI;have HK:=mk0 (KeepBut.refl w g none);have HL:=mk0 hB.size;clear hI;have HW0:=mk0 hB.size;have HB:=mk0 hB;clear hB;have H:((j1k.f k s0_0 (wrap64 (s0_1+1))).bind fun bt183=>((j1o.f bt183.1 bt183.2 93).bind fun bt185=>(if bt185.1=true then (some (([]:List (S27)),true,bt185.2.1,bt185.2.2)) else (j1r.l0 k ([]:List (S27)) bt185.2.1 bt185.2.2))))=some (r1,r2,r3,r4):=h;clear h;replace H:=Option.bind_eq_some_iff.mp H;obtain ⟨⟨t183,t184⟩,A20,H⟩:=H
 (try dsimp only at H)
 have A2:=mk0 A20;clear A20;replace H:=Option.bind_eq_some_iff.mp H;obtain ⟨⟨t185,t186,t187⟩,A30,H⟩:=H
 (try dsimp only at H)
 have A3:=mk0 A30;clear A30;by_cases c4:t185=true
 ·subst c4;rw [if_pos rfl] at H;simp only [Option.some.injEq,Prod.mk.injEq] at H;obtain ⟨rfl,rfl,rfl,rfl⟩:=H;obtain ⟨HGz5,hgz5⟩:=HI0.out;have hcz5_0:=j2u HGz5;have hcz5_1:=j2t HGz5;have hfz5_0:=j1a HGz5 0;have hfz5_1:=j1a HGz5 1;clear HGz5 hgz5;go_enter Tryd.func66,Tryd.ntmps66
  go_wp2_with (first|((with_reducible refine j1u (f:=50) rfl ?_);refine j2p (some 15) rfl rfl Tryd.func50 zq14 rfl #[.pointer (some ⟨g,0,none⟩)] rfl zq1 ?_;(with_reducible refine (j1k.calls k g s0_0 (wrap64 (s0_1+1)) t183 t184 w0 _ ?side1 ?side2 A2.out).mono ?_);(case side1=>exact zq0);(case side2=>exact zq4);rintro e w6 ⟨rfl,hi,hb,hk⟩;refine ⟨_,rfl,?_⟩;replace HK:=mk0 (KeepBut.trans zq2 hk (.inl rfl));replace HB:=mk0 (hb);replace HI0:=mk0 (hi);clear hb hk hi)|((with_reducible refine j1u (f:=56) rfl ?_);refine j2p (some 17) rfl rfl Tryd.func56 zq14 rfl #[.pointer (some ⟨g,0,none⟩), .int .u8 93] rfl zq1 ?_;(with_reducible refine (j1o.calls g t183 t184 93 true t186 t187 w0 _ ?side1 ?side2 A3.out).mono ?_);(case side1=>exact zq0);(case side2=>exact zq4);rintro e w7 ⟨rfl,hi,hb,hk⟩;refine ⟨_,rfl,?_⟩;replace HK:=mk0 (KeepBut.trans zq2 hk (.inl rfl));replace HB:=mk0 (hb);replace HI0:=mk0 (hi);clear hb hk hi))
  go_ret2
  exact ⟨_,by rfl,by exact Kd.R_nil _ _ _ _ _,by repeat (first|(with_reducible first|exact HI0.out|apply IsS89.alloc|apply IsS89.drewN|apply IsS89.drew|apply IsS89.set_0|apply IsS89.set_1)|exact HI0.out),by repeat (first|(with_reducible first|exact HB.out|apply j1g|apply j1d|apply j1l|refine j1y ?_ (IsS89.ge HI0.out))|exact HB.out),by repeat (first|(with_reducible first|exact HK.out|apply KeepBut.set_|apply j2k|apply j2o|apply j2j)|exact HK.out)⟩
 replace c4:=Bool.eq_false_iff.mpr c4;subst c4;rw [if_neg (show ¬ (false=true) by decide)] at H;have H':=mk0 H;clear H;obtain ⟨HGz8,hgz8⟩:=HI0.out;have hcz8_0:=j2u HGz8;have hcz8_1:=j2t HGz8;have hfz8_0:=j1a HGz8 0;have hfz8_1:=j1a HGz8 1;clear HGz8 hgz8;go_enter Tryd.func66,Tryd.ntmps66
 go_wp2_with (first|((with_reducible refine j1u (f:=50) rfl ?_);refine j2p (some 15) rfl rfl Tryd.func50 zq14 rfl #[.pointer (some ⟨g,0,none⟩)] rfl zq1 ?_;(with_reducible refine (j1k.calls k g s0_0 (wrap64 (s0_1+1)) t183 t184 w0 _ ?side1 ?side2 A2.out).mono ?_);(case side1=>exact zq0);(case side2=>exact zq4);rintro e w9 ⟨rfl,hi,hb,hk⟩;refine ⟨_,rfl,?_⟩;replace HK:=mk0 (KeepBut.trans zq2 hk (.inl rfl));replace HB:=mk0 (hb);replace HI0:=mk0 (hi);clear hb hk hi)|((with_reducible refine j1u (f:=56) rfl ?_);refine j2p (some 17) rfl rfl Tryd.func56 zq14 rfl #[.pointer (some ⟨g,0,none⟩), .int .u8 93] rfl zq1 ?_;(with_reducible refine (j1o.calls g t183 t184 93 false t186 t187 w0 _ ?side1 ?side2 A3.out).mono ?_);(case side1=>exact zq0);(case side2=>exact zq4);rintro e w10 ⟨rfl,hi,hb,hk⟩;refine ⟨_,rfl,?_⟩;replace HK:=mk0 (KeepBut.trans zq2 hk (.inl rfl));replace HB:=mk0 (hb);replace HI0:=mk0 (hi);clear hb hk hi))
 (try simp only [Act.put,List.setIfInBounds_toArray,List.set_cons_zero,List.set_cons_succ])
 go_loopg [4] k (fun kq v4 w'=>∃ (x4_1:List (S27)) (x1000_1:ByteArray) (x1001_1:Int),Aside0 (j1r.l0 kq x4_1 x1000_1 x1001_1=some (r1,r2,r3,r4))∧Aside0 (kq≤k)∧Aside0 (Kd.R k27 27 w' w.heap.size (fun _=>True) v4 x4_1)∧Aside0 (IsS89 w0 w' g x1000_1 x1001_1)∧Aside0 (KeepBut w w' g none)∧Aside0 (Below w0.heap.size w0 w'))
 case atStart=>exact ⟨(([]:List (S27))),(t186),(t187),H',⟨Nat.le_refl _⟩,⟨by exact Kd.R_nil _ _ _ _ _⟩,⟨by repeat (first|(with_reducible first|exact HI0.out|apply IsS89.alloc|apply IsS89.drewN|apply IsS89.drew|apply IsS89.set_0|apply IsS89.set_1)|exact HI0.out)⟩,⟨by repeat (first|(with_reducible first|exact HK.out|apply KeepBut.set_|apply j2k|apply j2o|apply j2j)|exact HK.out)⟩,⟨by repeat (first|(with_reducible first|exact HB.out|apply j1g|apply j1d|apply j1l|refine j1y ?_ (IsS89.ge HI0.out))|exact HB.out)⟩⟩
 case round =>
  clear H';clear hcz8_0 hcz8_1 hfz8_0 hfz8_1;obtain ⟨x4_1,x1000_1,x1001_1,HA,HK1,HO_4,HI0,HK,HB⟩:=hrel;cases gk with
  | zero=>exact absurd HA.out (by simp [j1r.l0])
  | succ k1 =>
   have H:=HA.out;clear HA;simp only [j1r.l0] at H;replace H:=Option.bind_eq_some_iff.mp H;obtain ⟨⟨t188,t189,t190,t191,t194,t197,t198,t199⟩,A110,H⟩:=H
   (try dsimp only at H)
   have A11:=mk0 A110;clear A110;by_cases c12:t197=true
   rotate_left
   ·replace c12:=Bool.eq_false_iff.mpr c12;subst c12;rw [if_neg (show ¬ (false=true) by decide)] at H;simp only [Option.some.injEq,Prod.mk.injEq] at H;obtain ⟨rfl,rfl,rfl,rfl⟩:=H;go_wp2_with (first|((with_reducible refine j1u (f:=51) rfl ?_);refine j2p (some 20) rfl rfl Tryd.func51 zq14 rfl #[.pointer (some ⟨g,0,none⟩)] rfl zq1 ?_;(with_reducible refine (ih_51 k1 (by have:=HK1.out;omega) g x1000_1 x1001_1 t188 t189 t190 t191 t194 false t198 t199 w0 _ ?side1 ?side2 A11.out).mono ?_);(case side1=>exact zq0);(case side2=>exact zq4);rintro e w56 ⟨v192,v195,rfl,ho0,ho1,hi,hb,hk⟩;refine ⟨_,rfl,?_⟩;have HO193:=mk0 (Kd.R_lower ho0 (j3t (w:=w) (g:=g) (row:=none) zq2));have HO196:=mk0 (Kd.R_lower (Kd.R_new' ho1 (Kd.R_lt zq46)) (j3t (w:=w) (g:=g) (row:=none) zq2));replace HO_4:=mk0 (Kd.R_mono (Kd.R_told (Kd.R_told (Kd.R_oldK (IsS89.apart (show IsS89 w0 _ g x1000_1 x1001_1 from zq0) zq46 zq47) hk) (Kd.R_base ho0)) (Kd.R_base ho1)) (fun _ h_=>h_.1));replace HK:=mk0 (KeepBut.trans zq2 hk (.inl rfl));replace HB:=mk0 (hb);replace HI0:=mk0 (hi);clear hb hk hi ho0 ho1)|((with_reducible refine j2z (N:=5) rfl ?_);refine j3e ?hg (N:=5) ?hd (cs:=#[.int .i64 0, .int .i64 0, .int .i64 0, .slice none 0 0, .slice none 0 0]) (t:=27) ?hr ?_;(case hd=>rfl);(case hg=>rfl);(case hr=>exact zq28);intro gb200 hg w57 hbox hb;replace HO_4:=mk0 (Kd.R_below (Kd.R_elderB zq46 gb200 (Nat.le_of_eq hg.symm)) hb);replace HO193:=mk0 (Kd.R_below (by (with_reducible repeat (first|apply Kd.R_alloc|apply Kd.R_drewN|apply Kd.R_drew));exact HO193.out) hb);replace HO196:=mk0 (Kd.R_below (Kd.R_elderB (by (with_reducible repeat (first|apply Kd.R_alloc|apply Kd.R_drewN|apply Kd.R_drew));exact HO196.out) gb200 (Nat.le_of_eq hg.symm)) hb);replace HB:=mk0 (j1p zq4 hb);have BK200:=mk0 (hbox);have GW200:=mk0 ((zq41:w.heap.size≤gb200));have GE200:=mk0 ((Nat.le_trans HW0.out (zq41:w.heap.size≤gb200):w0.heap.size≤gb200));replace HK:=mk0 (KeepBut.trans zq2 (KeepBut.of_below hb g none) (.inl rfl));have NB0_200:=mk0 ((by rw [hg];exact Nat.ne_of_lt (IsS89.lt (show IsS89 w0 _ g t198 t199 from zq0)):g≠gb200));have NB200_0:=mk0 ((by rw [hg];exact Nat.ne_of_gt (IsS89.lt (show IsS89 w0 _ g t198 t199 from zq0)):gb200≠g));replace HI0:=mk0 (IsS89.below zq0 hb);clear hb hbox hg;have hnb58:=NB200_0.out;have hnc58:=NB0_200.out;have hcz59_0:w57.cell? ⟨gb200,0,none⟩=some (.int .i64 0):=(j1c BK200.out 0).trans rfl;have hcz59_1:w57.cell? ⟨gb200,1,none⟩=some (.int .i64 0):=(j1c BK200.out 1).trans rfl;have hcz59_2:w57.cell? ⟨gb200,2,none⟩=some (.int .i64 0):=(j1c BK200.out 2).trans rfl;have hcz59_3:w57.cell? ⟨gb200,3,none⟩=some (.slice none 0 0):=(j1c BK200.out 3).trans rfl;have hcz59_4:w57.cell? ⟨gb200,4,none⟩=some (.slice none 0 0):=(j1c BK200.out 4).trans rfl;have hfz59_0:=j1a BK200.out 0;have hfz59_1:=j1a BK200.out 1;have hfz59_2:=j1a BK200.out 2;have hfz59_3:=j1a BK200.out 3;have hfz59_4:=j1a BK200.out 4;obtain ⟨Ao60,co60,eo60⟩:=Kd.R_slice HO193.out;subst eo60;obtain ⟨Ao61,co61,eo61⟩:=Kd.R_slice HO196.out;subst eo61))
    go_ret2
    exact zl9
   subst c12;rw [if_pos rfl] at H;by_cases c13:x4_1.length<1954687338268
   rotate_left
   ·rw [if_neg c13] at H;exact absurd H (by simp)
   rw [if_pos c13] at H;have LMc13:=mk0 c13;clear c13;obtain ⟨y201,hy201⟩:∃ y_:List (S27),y_=(x4_1++[(⟨t188,t189,t190,t191,t194⟩:S27)]):=⟨_,rfl⟩;replace H:((j1k.f k1 t198 t199).bind fun bt204=>((j1o.f bt204.1 bt204.2 93).bind fun bt206=>(if bt206.1=true then (some (y201,true,bt206.2.1,bt206.2.2)) else ((j1o.f bt206.2.1 bt206.2.2 44).bind fun bt209=>(if bt209.1=true then ((j1k.f k1 bt209.2.1 bt209.2.2).bind fun bt212=>(j1r.l0 k1 y201 bt212.1 bt212.2)) else (some (([]:List (S27)),false,bt209.2.1,bt209.2.2)))))))=some (r1,r2,r3,r4):=by (have H2_:=(Option.bind_some _ _).symm.trans H;rw [hy201];with_reducible exact H2_)
   have Ny201:=mk0 hy201;clear hy201;replace H:=Option.bind_eq_some_iff.mp H;obtain ⟨⟨t204,t205⟩,A140,H⟩:=H
   (try dsimp only at H)
   have A14:=mk0 A140;clear A140;replace H:=Option.bind_eq_some_iff.mp H;obtain ⟨⟨t206,t207,t208⟩,A150,H⟩:=H
   (try dsimp only at H)
   have A15:=mk0 A150;clear A150;go_wp2_with (first|((with_reducible refine j1u (f:=51) rfl ?_);refine j2p (some 20) rfl rfl Tryd.func51 zq14 rfl #[.pointer (some ⟨g,0,none⟩)] rfl zq1 ?_;(with_reducible refine (ih_51 k1 (by have:=HK1.out;omega) g x1000_1 x1001_1 t188 t189 t190 t191 t194 true t198 t199 w0 _ ?side1 ?side2 A11.out).mono ?_);(case side1=>exact zq0);(case side2=>exact zq4);rintro e w17 ⟨v192,v195,rfl,ho0,ho1,hi,hb,hk⟩;refine ⟨_,rfl,?_⟩;have HO193:=mk0 (Kd.R_lower ho0 (j3t (w:=w) (g:=g) (row:=none) zq2));have HO196:=mk0 (Kd.R_lower (Kd.R_new' ho1 (Kd.R_lt zq46)) (j3t (w:=w) (g:=g) (row:=none) zq2));replace HO_4:=mk0 (Kd.R_mono (Kd.R_told (Kd.R_told (Kd.R_oldK (IsS89.apart (show IsS89 w0 _ g x1000_1 x1001_1 from zq0) zq46 zq47) hk) (Kd.R_base ho0)) (Kd.R_base ho1)) (fun _ h_=>h_.1));replace HK:=mk0 (KeepBut.trans zq2 hk (.inl rfl));replace HB:=mk0 (hb);replace HI0:=mk0 (hi);clear hb hk hi ho0 ho1)|((with_reducible refine j2z (N:=5) rfl ?_);refine j3e ?hg (N:=5) ?hd (cs:=#[.int .i64 0, .int .i64 0, .int .i64 0, .slice none 0 0, .slice none 0 0]) (t:=27) ?hr ?_;(case hd=>rfl);(case hg=>rfl);(case hr=>exact zq28);intro gb200 hg w18 hbox hb;replace HO_4:=mk0 (Kd.R_below (Kd.R_elderB zq46 gb200 (Nat.le_of_eq hg.symm)) hb);replace HO193:=mk0 (Kd.R_below (by (with_reducible repeat (first|apply Kd.R_alloc|apply Kd.R_drewN|apply Kd.R_drew));exact HO193.out) hb);replace HO196:=mk0 (Kd.R_below (Kd.R_elderB (by (with_reducible repeat (first|apply Kd.R_alloc|apply Kd.R_drewN|apply Kd.R_drew));exact HO196.out) gb200 (Nat.le_of_eq hg.symm)) hb);replace HB:=mk0 (j1p zq4 hb);have BK200:=mk0 (hbox);have GW200:=mk0 ((zq41:w.heap.size≤gb200));have GE200:=mk0 ((Nat.le_trans HW0.out (zq41:w.heap.size≤gb200):w0.heap.size≤gb200));replace HK:=mk0 (KeepBut.trans zq2 (KeepBut.of_below hb g none) (.inl rfl));have NB0_200:=mk0 ((by rw [hg];exact Nat.ne_of_lt (IsS89.lt (show IsS89 w0 _ g t198 t199 from zq0)):g≠gb200));have NB200_0:=mk0 ((by rw [hg];exact Nat.ne_of_gt (IsS89.lt (show IsS89 w0 _ g t198 t199 from zq0)):gb200≠g));replace HI0:=mk0 (IsS89.below zq0 hb);clear hb hbox hg;have hnb19:=NB200_0.out;have hnc19:=NB0_200.out;have hcz20_0:w18.cell? ⟨gb200,0,none⟩=some (.int .i64 0):=(j1c BK200.out 0).trans rfl;have hcz20_1:w18.cell? ⟨gb200,1,none⟩=some (.int .i64 0):=(j1c BK200.out 1).trans rfl;have hcz20_2:w18.cell? ⟨gb200,2,none⟩=some (.int .i64 0):=(j1c BK200.out 2).trans rfl;have hcz20_3:w18.cell? ⟨gb200,3,none⟩=some (.slice none 0 0):=(j1c BK200.out 3).trans rfl;have hcz20_4:w18.cell? ⟨gb200,4,none⟩=some (.slice none 0 0):=(j1c BK200.out 4).trans rfl;have hfz20_0:=j1a BK200.out 0;have hfz20_1:=j1a BK200.out 1;have hfz20_2:=j1a BK200.out 2;have hfz20_3:=j1a BK200.out 3;have hfz20_4:=j1a BK200.out 4;obtain ⟨Ao21,co21,eo21⟩:=Kd.R_slice HO193.out;subst eo21;obtain ⟨Ao22,co22,eo22⟩:=Kd.R_slice HO196.out;subst eo22)|((with_reducible refine j3h (t:=27) (p:=5) rfl ?_);refine store_event (t:=27) (p:=5) (v:=?vo_w23) (w1:=(((((w18.setCell ⟨gb200,0,none⟩ (.int .i64 t188)).setCell ⟨gb200,1,none⟩ (.int .i64 t189)).setCell ⟨gb200,2,none⟩ (.int .i64 t190)).setCell ⟨gb200,3,none⟩ (.slice Ao21 t191.length co21)).setCell ⟨gb200,4,none⟩ (.slice Ao22 t194.length co22))) ?hg ?ho ?hn ?hr ?_;(case ho=>rfl);(case hg=>rfl);(case hn=>rfl);(case hr=>exact zq28);intro w23 hw;have n0_:Aside0 (Kd.R k27 27 w23 w.heap.size (fun k_=>some k_≠(.slice Ao21 t191.length co21:Value).ownBlock∧some k_≠(.slice Ao22 t194.length co22:Value).ownBlock∧k_≠gb200) u4 x4_1):=⟨(by rw [hw];exact (by (with_reducible repeat (first|apply Kd.R_alloc|apply Kd.R_drewN|apply Kd.R_drew));exact Kd.R_mono (Kd.R_far (p:=⟨gb200,4,none⟩) (Kd.R_far (p:=⟨gb200,3,none⟩) (Kd.R_far (p:=⟨gb200,2,none⟩) (Kd.R_far (p:=⟨gb200,1,none⟩) (Kd.R_far (p:=⟨gb200,0,none⟩) (Kd.R_mono HO_4.out (fun k_ hk=>(⟨hk,hk.2⟩:_∧k_≠gb200))) (fun _ hk=>hk.2) (.int .i64 t188)) (fun _ hk=>hk.2) (.int .i64 t189)) (fun _ hk=>hk.2) (.int .i64 t190)) (fun _ hk=>hk.2) (.slice Ao21 t191.length co21)) (fun _ hk=>hk.2) (.slice Ao22 t194.length co22)) (fun _ hk=>⟨hk.1.1.1.2,⟨hk.1.1.2,hk.1.2⟩⟩)))⟩;have n1_:Aside0 (Kd.R k49 49 w23 w.heap.size (fun _=>True) (.slice Ao21 t191.length co21) t191):=⟨(by rw [hw];exact (by (with_reducible repeat (first|apply Kd.R_alloc|apply Kd.R_drewN|apply Kd.R_drew));exact Kd.R_mono (Kd.R_far (p:=⟨gb200,4,none⟩) (Kd.R_far (p:=⟨gb200,3,none⟩) (Kd.R_far (p:=⟨gb200,2,none⟩) (Kd.R_far (p:=⟨gb200,1,none⟩) (Kd.R_far (p:=⟨gb200,0,none⟩) (Kd.R_types HO193.out BK200.out zq47) (fun _ hk=>hk.2) (.int .i64 t188)) (fun _ hk=>hk.2) (.int .i64 t189)) (fun _ hk=>hk.2) (.int .i64 t190)) (fun _ hk=>hk.2) (.slice Ao21 t191.length co21)) (fun _ hk=>hk.2) (.slice Ao22 t194.length co22)) (fun _ hk=>trivial)))⟩;have n2_:Aside0 (Kd.R k27 27 w23 w.heap.size (fun k_=>some k_≠(u4:Value).ownBlock∧some k_≠(.slice Ao21 t191.length co21:Value).ownBlock∧k_≠gb200) (.slice Ao22 t194.length co22) t194):=⟨(by rw [hw];exact (by (with_reducible repeat (first|apply Kd.R_alloc|apply Kd.R_drewN|apply Kd.R_drew));exact Kd.R_mono (Kd.R_far (p:=⟨gb200,4,none⟩) (Kd.R_far (p:=⟨gb200,3,none⟩) (Kd.R_far (p:=⟨gb200,2,none⟩) (Kd.R_far (p:=⟨gb200,1,none⟩) (Kd.R_far (p:=⟨gb200,0,none⟩) (Kd.R_mono HO196.out (fun k_ hk=>(⟨hk,hk.2⟩:_∧k_≠gb200))) (fun _ hk=>hk.2) (.int .i64 t188)) (fun _ hk=>hk.2) (.int .i64 t189)) (fun _ hk=>hk.2) (.int .i64 t190)) (fun _ hk=>hk.2) (.slice Ao21 t191.length co21)) (fun _ hk=>hk.2) (.slice Ao22 t194.length co22)) (fun _ hk=>⟨hk.1.1.2,⟨hk.1.1.1,hk.1.2⟩⟩)))⟩;have n3_:Aside0 (w23.heap[gb200]? = some (.cells #[.int .i64 t188, .int .i64 t189, .int .i64 t190, .slice Ao21 t191.length co21, .slice Ao22 t194.length co22] 27 (0,0))):=⟨(by rw [hw];exact (by (with_reducible repeat (first|refine j1i ?_ _|refine j1m ?_|refine j1e ?_ _));refine j2b (cs:=#[.int .i64 t188, .int .i64 t189, .int .i64 t190, .slice Ao21 t191.length co21, .slice none 0 0]) ?_ 4 _ rfl;(with_reducible repeat (first|refine j1i ?_ _|refine j1m ?_|refine j1e ?_ _));refine j2b (cs:=#[.int .i64 t188, .int .i64 t189, .int .i64 t190, .slice none 0 0, .slice none 0 0]) ?_ 3 _ rfl;(with_reducible repeat (first|refine j1i ?_ _|refine j1m ?_|refine j1e ?_ _));refine j2b (cs:=#[.int .i64 t188, .int .i64 t189, .int .i64 0, .slice none 0 0, .slice none 0 0]) ?_ 2 _ rfl;(with_reducible repeat (first|refine j1i ?_ _|refine j1m ?_|refine j1e ?_ _));refine j2b (cs:=#[.int .i64 t188, .int .i64 0, .int .i64 0, .slice none 0 0, .slice none 0 0]) ?_ 1 _ rfl;(with_reducible repeat (first|refine j1i ?_ _|refine j1m ?_|refine j1e ?_ _));refine j2b (cs:=#[.int .i64 0, .int .i64 0, .int .i64 0, .slice none 0 0, .slice none 0 0]) ?_ 0 _ rfl;(with_reducible repeat (first|refine j1i ?_ _|refine j1m ?_|refine j1e ?_ _));exact BK200.out))⟩;have n4_:Aside0 (IsS89 w0 w23 g t198 t199):=⟨(by rw [hw];exact zq13)⟩;have n5_:Aside0 (KeepBut w w23 g none):=⟨(by rw [hw];exact zq23)⟩;have n6_:Aside0 (Below w0.heap.size w0 w23):=⟨(by rw [hw];exact zq21)⟩;clear hw HO_4 HO193 HO196 BK200 HI0 HK HB;have HO_4:=n0_;have HO193:=n1_;have HO196:=n2_;have BK200:=n3_;have HI0:=n4_;have HK:=n5_;have HB:=n6_;clear n0_ n1_ n2_ n3_ n4_ n5_ n6_;have hcz24_0:w23.cell? ⟨gb200,0,none⟩=some (.int .i64 t188):=(j1c BK200.out 0).trans rfl;have hcz24_1:w23.cell? ⟨gb200,1,none⟩=some (.int .i64 t189):=(j1c BK200.out 1).trans rfl;have hcz24_2:w23.cell? ⟨gb200,2,none⟩=some (.int .i64 t190):=(j1c BK200.out 2).trans rfl;have hcz24_3:w23.cell? ⟨gb200,3,none⟩=some (.slice Ao21 t191.length co21):=(j1c BK200.out 3).trans rfl;have hcz24_4:w23.cell? ⟨gb200,4,none⟩=some (.slice Ao22 t194.length co22):=(j1c BK200.out 4).trans rfl;have hfz24_0:=j1a BK200.out 0;have hfz24_1:=j1a BK200.out 1;have hfz24_2:=j1a BK200.out 2;have hfz24_3:=j1a BK200.out 3;have hfz24_4:=j1a BK200.out 4)|((with_reducible refine j3g (b := .append) (xs:=#[.tmp 25, .tmp 27]) rfl ?_);at_builtin;refine Kd.R_append k27 w.heap.size rfl (.tmp 25) (.tmp 27) 25 27 (.agg #[(.int .i64 0),(.int .i64 0),(.int .i64 0),(.slice none 0 0),(.slice none 0 0)]) 72 rfl Tryd.underlying25 info27 rfl zq47 (by omega) u4 x4_1 (⟨t188,t189,t190,t191,t194⟩:S27) [.int .i64 t188, .int .i64 t189, .int .i64 t190, .slice Ao21 t191.length co21, .slice Ao22 t194.length co22] (fun k_=>k_≠gb200) (fun k_=>((fun k_=>k_≠gb200)) k_∧some k_≠(u4:Value).ownBlock) rfl rfl ?aP (fun _ hk=>hk) ?aF ?aO (Below.refl _ _) ?aS ?aL ?_;(case aP=>exact k27_mkM _ _ _ (⟨t188,t189,t190,t191,t194⟩:S27) (Kd.R_mono (Kd.R_types (Kd.R_apart' (HO193.out) (Kd.R_typed HO_4.out) zq47) BK200.out zq47) (fun k_ hk=>⟨hk.2,hk.1.2⟩)) (Kd.R_mono (HO196.out) (fun k_ hk=>⟨hk.2.2,hk.1⟩)));(case aF=>exact (fun k_ hk=>Kd.freshB (g:=gb200) (o := .cells #[.int .i64 t188, .int .i64 t189, .int .i64 t190, .slice Ao21 t191.length co21, .slice Ao22 t194.length co22] 27 (0,0)) zq37 k_ hk));(case aO=>exact (by (with_reducible repeat (first|apply Kd.R_alloc|apply Kd.R_drewN|apply Kd.R_drew));exact Kd.R_mono HO_4.out (fun _ hk=>hk.2.2)));(case aS=>exact (j3t (w:=w) (g:=g) (row:=none) zq23));(case aL=>have:=LMc13.out;first|omega|(simp only [List.length_cons,List.length_nil] at this ⊢; omega));intro v202 w25 ho hb hg hat;rw [← Ny201.out] at ho;have n0_:=mk0 (IsS89.grown zq13 hg (IsS89.own_ne HI0.out HO_4.out zq47));have n1_:=mk0 (blk_grown (g:=gb200) (o := .cells #[.int .i64 t188, .int .i64 t189, .int .i64 t190, .slice Ao21 t191.length co21, .slice Ao22 t194.length co22] 27 (0,0)) zq37 hg (Kd.R_away HO_4.out (fun _ hk=>hk.2.2)));have n2_:=mk0 (below_weaken zq21 HL.out hb);have n3_:=mk0 (KeepBut.trans zq23 (KeepBut.of_grown hg g) (Kd.R_base2 HO_4.out));have n4_:=mk0 (ho);clear HI0 BK200 HB HK HO_4 HO193 HO196;have HI0:=n0_;have BK200:=n1_;have HB:=n2_;have HK:=n3_;have HO203:=n4_;clear n0_ n1_ n2_ n3_ n4_;clear ho hb hg hat)|((with_reducible refine j1u (f:=50) rfl ?_);refine j2p (some 30) rfl rfl Tryd.func50 zq14 rfl #[.pointer (some ⟨g,0,none⟩)] rfl zq1 ?_;(with_reducible refine (j1k.calls k1 g t198 t199 t204 t205 w0 _ ?side1 ?side2 A14.out).mono ?_);(case side1=>exact zq13);(case side2=>exact zq21);rintro e w26 ⟨rfl,hi,hb,hk⟩;refine ⟨_,rfl,?_⟩;replace BK200:=mk0 (KeepBut.blk hk (g':=gb200) (o := .cells #[.int .i64 t188, .int .i64 t189, .int .i64 t190, .slice Ao21 t191.length co21, .slice Ao22 t194.length co22] 27 (0,0)) zq37 NB200_0.out (by simp));replace HO203:=mk0 (Kd.R_mono (Kd.R_keep (IsS89.apart (show IsS89 w0 _ g t198 t199 from zq13) zq44 zq47) hk (fun _ h=>h.2)) (fun _ h=>h.1));replace HK:=mk0 (KeepBut.trans zq23 hk (.inl rfl));replace HB:=mk0 (hb);replace HI0:=mk0 (hi);clear hb hk hi))
   by_cases c16:t206=true
   ·subst c16;rw [if_pos rfl] at H;simp only [Option.some.injEq,Prod.mk.injEq] at H;obtain ⟨rfl,rfl,rfl,rfl⟩:=H
    (with_reducible refine (j1o.calls g t204 t205 93 true t207 t208 w0 _ ?side1 ?side2 A15.out).mono ?_);(case side1=>exact zq13);(case side2=>exact zq21);rintro e w27 ⟨rfl,hi,hb,hk⟩;replace BK200:=mk0 (KeepBut.blk hk (g':=gb200) (o := .cells #[.int .i64 t188, .int .i64 t189, .int .i64 t190, .slice Ao21 t191.length co21, .slice Ao22 t194.length co22] 27 (0,0)) zq37 NB200_0.out (by simp));replace HO203:=mk0 (Kd.R_mono (Kd.R_keep (IsS89.apart (show IsS89 w0 _ g t204 t205 from zq13) zq44 zq47) hk (fun _ h=>h.2)) (fun _ h=>h.1));replace HK:=mk0 (KeepBut.trans zq23 hk (.inl rfl));replace HB:=mk0 (hb);replace HI0:=mk0 (hi);clear hb hk hi;go_wp2_with fail
    go_ret2
    exact ⟨_,by rfl,by (with_reducible repeat (first|apply Kd.R_alloc|apply Kd.R_drewN|apply Kd.R_drew));exact Kd.R_mono HO203.out (fun _ hk=>trivial),by repeat (first|(with_reducible first|exact HI0.out|apply IsS89.alloc|apply IsS89.drewN|apply IsS89.drew|apply IsS89.set_0|apply IsS89.set_1|refine IsS89.far ?_ NB0_200.out _)|exact HI0.out),by repeat (first|(with_reducible first|exact HB.out|apply j1g|apply j1d|apply j1l|refine j1y ?_ (IsS89.ge HI0.out)|refine j1y ?_ GE200.out)|exact HB.out),by repeat (first|(with_reducible first|exact HK.out|apply KeepBut.set_|apply j2k|apply j2o|apply j2j|refine j3o ?_ GW200.out _)|exact HK.out)⟩
   replace c16:=Bool.eq_false_iff.mpr c16;subst c16;rw [if_neg (show ¬ (false=true) by decide)] at H;replace H:=Option.bind_eq_some_iff.mp H;obtain ⟨⟨t209,t210,t211⟩,A280,H⟩:=H
   (try dsimp only at H)
   have A28:=mk0 A280;clear A280
   (with_reducible refine (j1o.calls g t204 t205 93 false t207 t208 w0 _ ?side1 ?side2 A15.out).mono ?_);(case side1=>exact zq13);(case side2=>exact zq21);rintro e w41 ⟨rfl,hi,hb,hk⟩;replace BK200:=mk0 (KeepBut.blk hk (g':=gb200) (o := .cells #[.int .i64 t188, .int .i64 t189, .int .i64 t190, .slice Ao21 t191.length co21, .slice Ao22 t194.length co22] 27 (0,0)) zq37 NB200_0.out (by simp));replace HO203:=mk0 (Kd.R_mono (Kd.R_keep (IsS89.apart (show IsS89 w0 _ g t204 t205 from zq13) zq44 zq47) hk (fun _ h=>h.2)) (fun _ h=>h.1));replace HK:=mk0 (KeepBut.trans zq23 hk (.inl rfl));replace HB:=mk0 (hb);replace HI0:=mk0 (hi);clear hb hk hi;go_wp2_with fail
   by_cases c29:t209=true
   rotate_left
   ·replace c29:=Bool.eq_false_iff.mpr c29;subst c29;rw [if_neg (show ¬ (false=true) by decide)] at H;simp only [Option.some.injEq,Prod.mk.injEq] at H;obtain ⟨rfl,rfl,rfl,rfl⟩:=H
    (with_reducible refine (j1o.calls g t207 t208 44 false t210 t211 w0 _ ?side1 ?side2 A28.out).mono ?_);(case side1=>exact zq13);(case side2=>exact zq21);rintro e w55 ⟨rfl,hi,hb,hk⟩;replace BK200:=mk0 (KeepBut.blk hk (g':=gb200) (o := .cells #[.int .i64 t188, .int .i64 t189, .int .i64 t190, .slice Ao21 t191.length co21, .slice Ao22 t194.length co22] 27 (0,0)) zq37 NB200_0.out (by simp));replace HO203:=mk0 (Kd.R_mono (Kd.R_keep (IsS89.apart (show IsS89 w0 _ g t207 t208 from zq13) zq44 zq47) hk (fun _ h=>h.2)) (fun _ h=>h.1));replace HK:=mk0 (KeepBut.trans zq23 hk (.inl rfl));replace HB:=mk0 (hb);replace HI0:=mk0 (hi);clear hb hk hi;go_wp2_with fail
    go_ret2
    exact zl9
   subst c29;rw [if_pos rfl] at H;replace H:=Option.bind_eq_some_iff.mp H;obtain ⟨⟨t212,t213⟩,A300,H⟩:=H
   (try dsimp only at H)
   have A30:=mk0 A300;clear A300;have H':=mk0 H;clear H
   (with_reducible refine (j1o.calls g t207 t208 44 true t210 t211 w0 _ ?side1 ?side2 A28.out).mono ?_);(case side1=>exact zq13);(case side2=>exact zq21);rintro e w42 ⟨rfl,hi,hb,hk⟩;replace BK200:=mk0 (KeepBut.blk hk (g':=gb200) (o := .cells #[.int .i64 t188, .int .i64 t189, .int .i64 t190, .slice Ao21 t191.length co21, .slice Ao22 t194.length co22] 27 (0,0)) zq37 NB200_0.out (by simp));replace HO203:=mk0 (Kd.R_mono (Kd.R_keep (IsS89.apart (show IsS89 w0 _ g t207 t208 from zq13) zq44 zq47) hk (fun _ h=>h.2)) (fun _ h=>h.1));replace HK:=mk0 (KeepBut.trans zq23 hk (.inl rfl));replace HB:=mk0 (hb);replace HI0:=mk0 (hi);clear hb hk hi;go_wp2_with (first|((with_reducible refine j1u (f:=50) rfl ?_);refine j2p (some 38) rfl rfl Tryd.func50 zq14 rfl #[.pointer (some ⟨g,0,none⟩)] rfl zq1 ?_;(with_reducible refine (j1k.calls k1 g t210 t211 t212 t213 w0 _ ?side1 ?side2 A30.out).mono ?_);(case side1=>exact zq13);(case side2=>exact zq21);rintro e w43 ⟨rfl,hi,hb,hk⟩;refine ⟨_,rfl,?_⟩;replace BK200:=mk0 (KeepBut.blk hk (g':=gb200) (o := .cells #[.int .i64 t188, .int .i64 t189, .int .i64 t190, .slice Ao21 t191.length co21, .slice Ao22 t194.length co22] 27 (0,0)) zq37 NB200_0.out (by simp));replace HO203:=mk0 (Kd.R_mono (Kd.R_keep (IsS89.apart (show IsS89 w0 _ g t210 t211 from zq13) zq44 zq47) hk (fun _ h=>h.2)) (fun _ h=>h.1));replace HK:=mk0 (KeepBut.trans zq23 hk (.inl rfl));replace HB:=mk0 (hb);replace HI0:=mk0 (hi);clear hb hk hi))
   go_roundg k1
   case measure=>have:=HK1.out;omega
   case rel=>exact ⟨(y201),(t212),(t213),H',⟨by have:=HK1.out;omega⟩,⟨by (with_reducible repeat (first|apply Kd.R_alloc|apply Kd.R_drewN|apply Kd.R_drew));exact Kd.R_mono HO203.out (fun _ hk=>trivial)⟩,⟨by repeat (first|(with_reducible first|exact HI0.out|apply IsS89.alloc|apply IsS89.drewN|apply IsS89.drew|apply IsS89.set_0|apply IsS89.set_1|refine IsS89.far ?_ NB0_200.out _)|exact HI0.out)⟩,⟨by repeat (first|(with_reducible first|exact HK.out|apply KeepBut.set_|apply j2k|apply j2o|apply j2j|refine j3o ?_ GW200.out _)|exact HK.out)⟩,⟨by repeat (first|(with_reducible first|exact HB.out|apply j1g|apply j1d|apply j1l|refine j1y ?_ (IsS89.ge HI0.out)|refine j1y ?_ GE200.out)|exact HB.out)⟩⟩
theorem grp51.calls (k : Nat):j1n.Stmt k∧j1j.Stmt k∧j1r.Stmt k:=by
 induction k using Nat.strongRecOn with
 | _ k ih=>exact ⟨j1n.step k (fun m h=>(ih m h).1) (fun m h=>(ih m h).2.1) (fun m h=>(ih m h).2.2),j1j.step k (fun m h=>(ih m h).1) (fun m h=>(ih m h).2.1) (fun m h=>(ih m h).2.2),j1r.step k (fun m h=>(ih m h).1) (fun m h=>(ih m h).2.1) (fun m h=>(ih m h).2.2)⟩
theorem j1n.calls (k : Nat):∀ (g:Nat) (s0_0:ByteArray) (s0_1:Int) (r1:Int) (r2:Int) (r3:Int) (r4:List (S49)) (r5:List (S27)) (r6:Bool) (r7:ByteArray) (r8:Int) (w0 w:World) (hI:IsS89 w0 w g s0_0 s0_1) (hB:Below w0.heap.size w0 w) (h:j1n.f k s0_0 s0_1=some (r1,r2,r3,r4,r5,r6,r7,r8)),
 Calls Tryd.prog 51 #[.pointer (some ⟨g,0,none⟩)] w fun e w'=>∃ v3_ v4_:Value,e = .returned (.tuple #[.agg #[.int .i64 r1, .int .i64 r2, .int .i64 r3,v3_,v4_], .bool r6])∧Kd.R k49 49 w' w.heap.size (fun _=>True) v3_ r4∧Kd.R k27 27 w' w.heap.size (fun k_=>some k_≠(v3_:Value).ownBlock) v4_ r5∧IsS89 w0 w' g r7 r8∧Below w0.heap.size w0 w'∧KeepBut w w' g none:=(grp51.calls k).1
theorem j1j.calls (k : Nat):∀ (g:Nat) (s0_0:ByteArray) (s0_1:Int) (r1:List (S49)) (r2:List (S27)) (r3:Bool) (r4:ByteArray) (r5:Int) (w0 w:World) (hI:IsS89 w0 w g s0_0 s0_1) (hB:Below w0.heap.size w0 w) (h:j1j.f k s0_0 s0_1=some (r1,r2,r3,r4,r5)),
 Calls Tryd.prog 65 #[.pointer (some ⟨g,0,none⟩)] w fun e w'=>∃ v0_ v1_:Value,e = .returned (.tuple #[v0_,v1_, .bool r3])∧Kd.R k49 49 w' w.heap.size (fun _=>True) v0_ r1∧Kd.R k27 27 w' w.heap.size (fun k_=>some k_≠(v0_:Value).ownBlock) v1_ r2∧IsS89 w0 w' g r4 r5∧Below w0.heap.size w0 w'∧KeepBut w w' g none:=(grp51.calls k).2.1
theorem j1r.calls (k : Nat):∀ (g:Nat) (s0_0:ByteArray) (s0_1:Int) (r1:List (S27)) (r2:Bool) (r3:ByteArray) (r4:Int) (w0 w:World) (hI:IsS89 w0 w g s0_0 s0_1) (hB:Below w0.heap.size w0 w) (h:j1r.f k s0_0 s0_1=some (r1,r2,r3,r4)),
 Calls Tryd.prog 66 #[.pointer (some ⟨g,0,none⟩)] w fun e w'=>∃ v0_:Value,e = .returned (.tuple #[v0_, .bool r2])∧Kd.R k27 27 w' w.heap.size (fun _=>True) v0_ r1∧IsS89 w0 w' g r3 r4∧Below w0.heap.size w0 w'∧KeepBut w w' g none:=(grp51.calls k).2.2
def j3l.f (k : Nat) (a0:ByteArray):Option (Int × Int × Int × (List (S49)) × (List (S27)) × Bool) :=
  (j1k.f k a0 0).bind fun b=>((j1n.f k b.1 b.2).bind fun v=>(if v.2.2.2.2.2.1=true then ((j1k.f k v.2.2.2.2.2.2.1 v.2.2.2.2.2.2.2).bind fun c=>(if c.2=(a0.size:Int) then (some (v.1,v.2.1,v.2.2.1,v.2.2.2.1,v.2.2.2.2.1,true)) else (some (0,0,0,[],[],false)))) else (some (0,0,0,[],[],false))))
theorem j3l.mono : ∀ a0 k,LeO (j3l.f k a0) (j3l.f (k+1) a0):=fun a0 k=>LeO.bind (j1k.mono _ _ k) (fun _=>LeO.bind (j1n.mono _ _ k) (fun _=>LeO.ite (LeO.bind (j1k.mono _ _ k) (fun _=>LeO.refl _)) (LeO.refl _)))
theorem Places_R_keep {α : Type} {d:Kd α} {e:Nat} {w w1:World} {base:Nat} {ok:Nat→Prop} {v:Value} {xs:List α} (h:d.R e w base ok v xs) {g:Nat} (hk:KeepBut w w1 g none) (hg:g<base):d.R e w1 base ok v xs :=
 Kd.R_mono (Kd.R_move (Kd.R_bound h) (fun k hk'=>hk.2 k hk'.2.2.1 (by omega) (by simp))) (fun _ hk=>hk.1)
theorem j3l.calls (k : Nat) (a0:ByteArray) (r1 r2 r3:Int) (r4:List (S49)) (r5:List (S27)) (r6:Bool) (w:World) (h:j3l.f k a0=some (r1,r2,r3,r4,r5,r6)) :
 Calls Tryd.prog 39 #[.string a0] w fun e w'=>∃ v3_ v4_:Value,e = .returned (.tuple #[.agg #[.int .i64 r1, .int .i64 r2, .int .i64 r3,v3_,v4_], .bool r6])∧Kd.R k49 49 w' w.heap.size (fun _=>True) v3_ r4∧Kd.R k27 27 w' w.heap.size (fun k_=>some k_≠(v3_:Value).ownBlock) v4_ r5∧Below w.heap.size w w':=by
 unfold j3l.f at h
 replace h:=Option.bind_eq_some_iff.mp h;obtain ⟨⟨s1,at1⟩,A1,h⟩:=h;replace h:=Option.bind_eq_some_iff.mp h;obtain ⟨⟨t1,t2,t3,t4,t5,ok,s2,at2⟩,A2,h⟩:=h;have B1:=mk0 A1;have B2:=mk0 A2;have HR:=mk0 h;clear A1 A2 h;go_enter Tryd.func39,Tryd.ntmps39
 go_wp2_with fail
 refine (j1k.calls k (w.heap.size+1) a0 0 s1 at1 w _ ?i1 ?b1 B1.out).mono ?_
 case i1 =>
  have:=IsS89.new w (w.alloc (.cells #[.int .i64 0, .int .i64 0, .int .i64 0, .slice none 0 0, .slice none 0 0] 27)) a0 0 (j1g (Below.refl _ _) _)
  simpa using this
 case b1=>exact j1g (j1g (Below.refl _ _) _) _
 rintro e w1 ⟨rfl,hI,hB,hK⟩;have hZ:w1.heap[w.heap.size]? = some (.cells #[.int .i64 0, .int .i64 0, .int .i64 0, .slice none 0 0, .slice none 0 0] 27 (0,0)):=KeepBut.blk hK (j1e (j4l w _) _) (by omega) (by simp);have HI:=mk0 hI;have HB:=mk0 hB;have HZ:=mk0 hZ;clear hI hB hK hZ;go_wp2_with fail
 refine (j1n.calls k (w.heap.size+1) s1 at1 t1 t2 t3 t4 t5 ok s2 at2 w _ HI.out HB.out B2.out).mono ?_;rintro e w2 ⟨v3,v4,rfl,hv3,hv4,hI,hB,hK⟩;obtain ⟨i3,ho3⟩:=Kd.R_own hv3;obtain ⟨A3,c3,e3⟩:=own_slice ho3;subst e3;obtain ⟨i4,ho4⟩:=Kd.R_own hv4;obtain ⟨A4,c4,e4⟩:=own_slice ho4;subst e4;clear ho3 ho4;have hl1:=j2n HB.out;have hl:w.heap.size+1<w1.heap.size:=HI.out.lt;have hZ2:=KeepBut.blk hK HZ.out (by omega) (by simp);have HI2:=mk0 hI;have HB2:=mk0 hB;have HZ2:=mk0 hZ2;have HV3:=mk0 hv3;have HV4:=mk0 hv4;have HL:=mk0 hl;have HL2:=mk0 hK.1;clear hI hB hK hZ2 hv3 hv4 hl hl1 HI HB HZ;have HR1:=HR.out;clear HR;cases ok with
 | false =>
  rw [if_neg zq47] at HR1;simp only [Option.some.injEq,Prod.mk.injEq] at HR1;obtain ⟨rfl,rfl,rfl,rfl,rfl,rfl⟩:=HR1;go_wp2_with (((with_reducible refine j3h (t:=27) (p:=2) rfl ?_);refine j3q (g:=w.heap.size) (new:=#[.int .i64 0, .int .i64 0, .int .i64 0, .slice none 0 0, .slice none 0 0]) rfl rfl rfl rfl rfl (j1e HZ2.out _) rfl zq14 zq61 ?_;intro w3 hz3 hk3 hb3;have HZ3:=mk0 hz3;have HB3:=mk0 (hb3 w.heap.size (Nat.le_refl _));clear hz3 hk3 hb3))
  refine bodyPost_ret (j2w rfl _ _ w.heap.size 27 #[.int .i64 0, .int .i64 0, .int .i64 0, .slice none 0 0, .slice none 0 0] (0,0) _ rfl HZ3.out Tryd.underlying27 rfl zq14) rfl ?_;exact ⟨_,_,rfl,Kd.R_nil _ _ _ _ _,Kd.R_nil _ _ _ _ _,(j1g HB2.out _).trans HB3.out⟩
 | true =>
  rw [if_pos rfl] at HR1;replace HR1:=Option.bind_eq_some_iff.mp HR1;obtain ⟨⟨s3,at3⟩,A3,HR1⟩:=HR1;have B3:=mk0 A3;have HR:=mk0 HR1;clear A3 HR1;go_wp2_with fail
  refine (j1k.calls k (w.heap.size+1) s2 at2 s3 at3 w _ (IsS89.alloc HI2.out _) (j1g HB2.out _) B3.out).mono ?_;rintro e w3 ⟨rfl,hI,hB,hK⟩;have hL:=HL.out;have hL2:=HL2.out;have HP3:=mk0 (KeepBut.blk hK (j4l w2 _) (by omega) (by simp));have HZ3:=mk0 (KeepBut.blk hK (j1e HZ2.out _) (by omega) (by simp));have HV3':=mk0 (Places_R_keep (Kd.R_alloc HV3.out _) hK HL.out);have HV4':=mk0 (Places_R_keep (Kd.R_alloc HV4.out _) hK HL.out);have hc1:=j2t hI.1;have HB3:=mk0 hB;have HR1:=HR.out;clear hI hB hK hL hL2 HR;by_cases c:at3=(a0.size:Int)
  rotate_left
  ·rw [if_neg c] at HR1;have cb:(at3 != (a0.size:Int))=true:=bne_iff_ne.mpr c;clear c;simp only [Option.some.injEq,Prod.mk.injEq] at HR1;obtain ⟨rfl,rfl,rfl,rfl,rfl,rfl⟩:=HR1;go_wp2_with (((with_reducible refine j3h (t:=27) (p:=2) rfl ?_);refine j3q (g:=w.heap.size) (new:=#[.int .i64 0, .int .i64 0, .int .i64 0, .slice none 0 0, .slice none 0 0]) rfl rfl rfl rfl rfl HZ3.out rfl zq14 zq61 ?_;intro w4 hz4 hk4 hb4;have HZ4:=mk0 hz4;have HB4:=mk0 (hb4 w.heap.size (Nat.le_refl _));clear hz4 hk4 hb4))
   refine bodyPost_ret (j2w rfl _ _ w.heap.size 27 #[.int .i64 0, .int .i64 0, .int .i64 0, .slice none 0 0, .slice none 0 0] (0,0) _ rfl HZ4.out Tryd.underlying27 rfl zq14) rfl ?_;exact ⟨_,_,rfl,Kd.R_nil _ _ _ _ _,Kd.R_nil _ _ _ _ _,HB3.out.trans HB4.out⟩
  rw [if_pos c] at HR1;have cb:(at3 != (a0.size:Int))=false:=bne_eq_false_iff_eq.mpr c;clear c;simp only [Option.some.injEq,Prod.mk.injEq] at HR1;obtain ⟨rfl,rfl,rfl,rfl,rfl,rfl⟩:=HR1;go_wp2_with (first|((with_reducible refine j2z (N:=24) rfl ?_);refine wpList_load_row rfl 27 _ rfl w2.heap.size rfl 27 _ (0,0) _ HP3.out Tryd.underlying27 rfl zq14 ?_)|((with_reducible refine j3h (t:=27) (p:=2) rfl ?_);refine j3q (g:=w.heap.size) (new:=#[.int .i64 t1, .int .i64 t2, .int .i64 t3, .slice A3 t4.length c3, .slice A4 t5.length c4]) rfl rfl rfl rfl rfl HZ3.out rfl zq14 zq61 ?_;intro w4 hz4 hk4 hb4;have HZ4:=mk0 hz4;have HK4:=mk0 hk4;have HB4:=mk0 (hb4 w.heap.size (Nat.le_refl _));clear hz4 hk4 hb4))
  refine bodyPost_ret (j2w rfl _ _ w.heap.size 27 #[.int .i64 t1, .int .i64 t2, .int .i64 t3, .slice A3 t4.length c3, .slice A4 t5.length c4] (0,0) _ rfl HZ4.out Tryd.underlying27 rfl zq14) rfl ?_;have hL:=HL.out;exact ⟨_,_,rfl,Kd.R_lower (Places_R_keep HV3'.out HK4.out (by omega)) (by omega),Kd.R_lower (Places_R_keep HV4'.out HK4.out (by omega)) (by omega),HB3.out.trans HB4.out⟩
def j3d.f (k : Nat) (a0:ByteArray):Option (Int × Int × Int × (List (S49)) × (List (S27)) × Bool):=if (a0.size:Int)>65536 then (some (0,0,0,([]:List (S49)),([]:List (S27)),false)) else ((j3l.f k a0).bind fun bt102=>(some (bt102.1,bt102.2.1,bt102.2.2.1,bt102.2.2.2.1,bt102.2.2.2.2.1,bt102.2.2.2.2.2)))
theorem j3d.mono : ∀ a0 k,LeO (j3d.f k a0) (j3d.f (k+1) a0):=by
 intro a0 k;unfold j3d.f
 repeat' first
  | (with_reducible exact j3l.mono _ _)
  | (with_reducible exact LeO.refl _)
  | (with_reducible exact LeO.none _)
  | (with_reducible refine LeO.ite ?_ ?_)
  | (with_reducible refine LeO.bind ?_ (fun _=>?_))
  | exact j3l.mono _ _
  | exact LeO.none _
  | refine LeO.ite ?_ ?_
  | refine LeO.bind ?_ (fun _=>?_)
set_option maxHeartbeats 8000000 in
set_option maxRecDepth 100000 in
theorem j3d.calls (k : Nat) (a0:ByteArray) (r1:Int) (r2:Int) (r3:Int) (r4:List (S49)) (r5:List (S27)) (r6:Bool) (w:World) (h:j3d.f k a0=some (r1,r2,r3,r4,r5,r6)) :
 Calls Tryd.prog 19 #[.string a0] w fun e w'=>∃ v3_ v4_:Value,e = .returned (.tuple #[.agg #[.int .i64 r1, .int .i64 r2, .int .i64 r3,v3_,v4_], .bool r6])∧Kd.R k49 49 w' w.heap.size (fun _=>True) v3_ r4∧Kd.R k27 27 w' w.heap.size (fun k_=>some k_≠(v3_:Value).ownBlock) v4_ r5∧Below w.heap.size w w':=by
 have hu27:=Tryd.underlying27;have HB:=mk0 (Below.refl w.heap.size w);have H:(if (a0.size:Int)>65536 then (some (0,0,0,([]:List (S49)),([]:List (S27)),false)) else ((j3l.f k a0).bind fun bt102=>(some (bt102.1,bt102.2.1,bt102.2.2.1,bt102.2.2.2.1,bt102.2.2.2.2.1,bt102.2.2.2.2.2))))=some (r1,r2,r3,r4,r5,r6):=h;clear h;by_cases c2:(a0.size:Int)>65536
 ·rw [if_pos c2] at H;have c2b0:decide (65536<(a0.size:Int))=true:=decide_eq_true c2;have c2b1:decide (65536<a0.size)=true:=decide_eq_true (by omega);clear c2;simp only [Option.some.injEq,Prod.mk.injEq] at H;obtain ⟨rfl,rfl,rfl,rfl,rfl,rfl⟩:=H;go_enter Tryd.func19,Tryd.ntmps19
  go_wp2_with (first|((with_reducible refine j2z (N:=2) rfl ?_);refine j3e ?hg (N:=2) ?hd (cs:=#[.int .i64 0, .int .i64 0, .int .i64 0, .slice none 0 0, .slice none 0 0]) (t:=27) ?hr ?_;(case hd=>rfl);(case hg=>rfl);(case hr=>exact zq28);intro gb101 hg w3 hbox hb;have BK101:=mk0 (hbox);have GW101:=mk0 ((zq39:w.heap.size≤gb101));have GE101:=mk0 ((zq39:w.heap.size≤gb101));replace HB:=mk0 (j1p zq3 hb);clear hb hbox hg;have hcz4_0:w3.cell? ⟨gb101,0,none⟩=some (.int .i64 0):=(j1c BK101.out 0).trans rfl;have hcz4_1:w3.cell? ⟨gb101,1,none⟩=some (.int .i64 0):=(j1c BK101.out 1).trans rfl;have hcz4_2:w3.cell? ⟨gb101,2,none⟩=some (.int .i64 0):=(j1c BK101.out 2).trans rfl;have hcz4_3:w3.cell? ⟨gb101,3,none⟩=some (.slice none 0 0):=(j1c BK101.out 3).trans rfl;have hcz4_4:w3.cell? ⟨gb101,4,none⟩=some (.slice none 0 0):=(j1c BK101.out 4).trans rfl;have hfz4_0:=j1a BK101.out 0;have hfz4_1:=j1a BK101.out 1;have hfz4_2:=j1a BK101.out 2;have hfz4_3:=j1a BK101.out 3;have hfz4_4:=j1a BK101.out 4))
  refine bodyPost_ret (j2w rfl _ _ gb101 27 #[.int .i64 0, .int .i64 0, .int .i64 0, .slice none 0 0, .slice none 0 0] (0,0) _ rfl (by (with_reducible repeat (first|refine j1i ?_ _|refine j1m ?_|refine j1e ?_ _));refine j2b (cs:=#[.int .i64 0, .int .i64 0, .int .i64 0, .slice none 0 0, .slice none 0 0]) ?_ 4 _ rfl;(with_reducible repeat (first|refine j1i ?_ _|refine j1m ?_|refine j1e ?_ _));refine j2b (cs:=#[.int .i64 0, .int .i64 0, .int .i64 0, .slice none 0 0, .slice none 0 0]) ?_ 3 _ rfl;(with_reducible repeat (first|refine j1i ?_ _|refine j1m ?_|refine j1e ?_ _));refine j2b (cs:=#[.int .i64 0, .int .i64 0, .int .i64 0, .slice none 0 0, .slice none 0 0]) ?_ 2 _ rfl;(with_reducible repeat (first|refine j1i ?_ _|refine j1m ?_|refine j1e ?_ _));refine j2b (cs:=#[.int .i64 0, .int .i64 0, .int .i64 0, .slice none 0 0, .slice none 0 0]) ?_ 1 _ rfl;(with_reducible repeat (first|refine j1i ?_ _|refine j1m ?_|refine j1e ?_ _));refine j2b (cs:=#[.int .i64 0, .int .i64 0, .int .i64 0, .slice none 0 0, .slice none 0 0]) ?_ 0 _ rfl;(with_reducible repeat (first|refine j1i ?_ _|refine j1m ?_|refine j1e ?_ _));exact BK101.out) Tryd.underlying27 rfl zq14) rfl ?_;exact ⟨_,_,by rfl,by exact Kd.R_nil _ _ _ _ _,by exact Kd.R_nil _ _ _ _ _,by repeat (first|(with_reducible first|exact HB.out|apply j1g|apply j1d|apply j1l|refine j1y ?_ GE101.out)|exact HB.out)⟩
 rw [if_neg c2] at H;have c2b0:decide (65536<(a0.size:Int))=false:=decide_eq_false c2;have c2b1:decide (65536<a0.size)=false:=decide_eq_false (by omega);clear c2;replace H:=Option.bind_eq_some_iff.mp H;obtain ⟨⟨t102,t103,t104,t105,t108,t111⟩,A50,H⟩:=H
 (try dsimp only at H)
 have A5:=mk0 A50;clear A50;simp only [Option.some.injEq,Prod.mk.injEq] at H;obtain ⟨rfl,rfl,rfl,rfl,rfl,rfl⟩:=H;go_enter Tryd.func19,Tryd.ntmps19
 go_wp2_with (first|((with_reducible refine j2z (N:=2) rfl ?_);refine j3e ?hg (N:=2) ?hd (cs:=#[.int .i64 0, .int .i64 0, .int .i64 0, .slice none 0 0, .slice none 0 0]) (t:=27) ?hr ?_;(case hd=>rfl);(case hg=>rfl);(case hr=>exact zq28);intro gb101 hg w6 hbox hb;have BK101:=mk0 (hbox);have GW101:=mk0 ((zq39:w.heap.size≤gb101));have GE101:=mk0 ((zq39:w.heap.size≤gb101));replace HB:=mk0 (j1p zq3 hb);clear hb hbox hg)|((with_reducible refine j1u (f:=39) rfl ?_);refine j2p (some 9) rfl rfl Tryd.func39 zq14 rfl #[.string a0] rfl zq1 ?_;(with_reducible refine (j3l.calls k a0 t102 t103 t104 t105 t108 t111 _ A5.out).mono ?_);rintro e w7 ⟨v106,v109,rfl,ho0,ho1,hb⟩;refine ⟨_,rfl,?_⟩;have HO107:=mk0 (Kd.R_lower ho0 (j2n zq5));have HO110:=mk0 (Kd.R_lower (Kd.R_newB ho1 (g:=gb101) (o := .cells #[.int .i64 0, .int .i64 0, .int .i64 0, .slice none 0 0, .slice none 0 0] 27 (0,0)) zq6) (j2n zq5));replace BK101:=mk0 (j3j (g:=gb101) (o := .cells #[.int .i64 0, .int .i64 0, .int .i64 0, .slice none 0 0, .slice none 0 0] 27 (0,0)) zq6 hb);replace HB:=mk0 (j1p zq5 hb);clear hb ho0 ho1;have hcz8_0:w7.cell? ⟨gb101,0,none⟩=some (.int .i64 0):=(j1c BK101.out 0).trans rfl;have hcz8_1:w7.cell? ⟨gb101,1,none⟩=some (.int .i64 0):=(j1c BK101.out 1).trans rfl;have hcz8_2:w7.cell? ⟨gb101,2,none⟩=some (.int .i64 0):=(j1c BK101.out 2).trans rfl;have hcz8_3:w7.cell? ⟨gb101,3,none⟩=some (.slice none 0 0):=(j1c BK101.out 3).trans rfl;have hcz8_4:w7.cell? ⟨gb101,4,none⟩=some (.slice none 0 0):=(j1c BK101.out 4).trans rfl;have hfz8_0:=j1a BK101.out 0;have hfz8_1:=j1a BK101.out 1;have hfz8_2:=j1a BK101.out 2;have hfz8_3:=j1a BK101.out 3;have hfz8_4:=j1a BK101.out 4;obtain ⟨Ao9,co9,eo9⟩:=Kd.R_slice HO107.out;subst eo9;obtain ⟨Ao10,co10,eo10⟩:=Kd.R_slice HO110.out;subst eo10))
 refine bodyPost_ret (j2w rfl _ _ gb101 27 #[.int .i64 t102, .int .i64 t103, .int .i64 t104, .slice Ao9 t105.length co9, .slice Ao10 t108.length co10] (0,0) _ rfl (by (with_reducible repeat (first|refine j1i ?_ _|refine j1m ?_|refine j1e ?_ _));refine j2b (cs:=#[.int .i64 t102, .int .i64 t103, .int .i64 t104, .slice Ao9 t105.length co9, .slice none 0 0]) ?_ 4 _ rfl;(with_reducible repeat (first|refine j1i ?_ _|refine j1m ?_|refine j1e ?_ _));refine j2b (cs:=#[.int .i64 t102, .int .i64 t103, .int .i64 t104, .slice none 0 0, .slice none 0 0]) ?_ 3 _ rfl;(with_reducible repeat (first|refine j1i ?_ _|refine j1m ?_|refine j1e ?_ _));refine j2b (cs:=#[.int .i64 t102, .int .i64 t103, .int .i64 0, .slice none 0 0, .slice none 0 0]) ?_ 2 _ rfl;(with_reducible repeat (first|refine j1i ?_ _|refine j1m ?_|refine j1e ?_ _));refine j2b (cs:=#[.int .i64 t102, .int .i64 0, .int .i64 0, .slice none 0 0, .slice none 0 0]) ?_ 1 _ rfl;(with_reducible repeat (first|refine j1i ?_ _|refine j1m ?_|refine j1e ?_ _));refine j2b (cs:=#[.int .i64 0, .int .i64 0, .int .i64 0, .slice none 0 0, .slice none 0 0]) ?_ 0 _ rfl;(with_reducible repeat (first|refine j1i ?_ _|refine j1m ?_|refine j1e ?_ _));exact BK101.out) Tryd.underlying27 rfl zq14) rfl ?_;exact ⟨_,_,by rfl,by (with_reducible repeat (first|apply Kd.R_alloc|apply Kd.R_drewN|apply Kd.R_drew));exact Kd.R_mono (Kd.R_far (p:=⟨gb101,4,none⟩) (Kd.R_far (p:=⟨gb101,3,none⟩) (Kd.R_far (p:=⟨gb101,2,none⟩) (Kd.R_far (p:=⟨gb101,1,none⟩) (Kd.R_far (p:=⟨gb101,0,none⟩) (Kd.R_types HO107.out BK101.out zq47) (fun _ hk=>hk.2) (.int .i64 t102)) (fun _ hk=>hk.2) (.int .i64 t103)) (fun _ hk=>hk.2) (.int .i64 t104)) (fun _ hk=>hk.2) (.slice Ao9 t105.length co9)) (fun _ hk=>hk.2) (.slice Ao10 t108.length co10)) (fun _ hk=>trivial),by (with_reducible repeat (first|apply Kd.R_alloc|apply Kd.R_drewN|apply Kd.R_drew));exact Kd.R_mono (Kd.R_far (p:=⟨gb101,4,none⟩) (Kd.R_far (p:=⟨gb101,3,none⟩) (Kd.R_far (p:=⟨gb101,2,none⟩) (Kd.R_far (p:=⟨gb101,1,none⟩) (Kd.R_far (p:=⟨gb101,0,none⟩) (Kd.R_mono HO110.out (fun k_ hk=>(⟨hk,hk.2⟩:_∧k_≠gb101))) (fun _ hk=>hk.2) (.int .i64 t102)) (fun _ hk=>hk.2) (.int .i64 t103)) (fun _ hk=>hk.2) (.int .i64 t104)) (fun _ hk=>hk.2) (.slice Ao9 t105.length co9)) (fun _ hk=>hk.2) (.slice Ao10 t108.length co10)) (fun _ hk=>hk.1.1),by repeat (first|(with_reducible first|exact HB.out|apply j1g|apply j1d|apply j1l|refine j1y ?_ GE101.out)|exact HB.out)⟩
mutual
def j2c.j0 : Nat → ByteArray→Int→Bool→Option (Int × Bool)
  | 0,_,_,_=>none
  | k+1,x0,x1,x27=>if x27=true then (some (0,false)) else (j2c.l0 k x0 x1 0 (wrap64 (x1+2)))
def j2c.l0 : Nat → ByteArray→Int→Int→Int→Option (Int × Bool)
  | 0,_,_,_,_=>none
  | k+1,x0,x1,x6,x7=>if x7<(wrap64 (x1+6)) then (if 0≤x7 then (if x7<(x0.size:Int) then ((j2a.f k (bt x0 x7)).bind fun bt101=>(if bt101.2=true then (j2c.l0 k x0 x1 (wrap64 ((wrap64 (x6*16))+bt101.1)) (wrap64 (x7+1))) else (some (0,false)))) else (none)) else (none)) else (some (x6,true))
end
def j2c.f (k : Nat) (a0:ByteArray) (a1:Int):Option (Int × Bool):=if (wrap64 ((a0.size:Int) - a1))<6 then (j2c.j0 k a0 a1 true) else (if 0≤a1 then (if a1<(a0.size:Int) then (if (bt a0 a1)=92 then (if 0≤(wrap64 (a1+1)) then (if (wrap64 (a1+1))<(a0.size:Int) then (j2c.j0 k a0 a1 ((bt a0 (wrap64 (a1+1))) != 117)) else (none)) else (none)) else (j2c.j0 k a0 a1 true)) else (none)) else (none))
theorem j2c.mono_l : ∀ k,(∀ y0 y1 y2,LeO (j2c.j0 k y0 y1 y2) (j2c.j0 (k+1) y0 y1 y2))∧(∀ y0 y1 y2 y3,LeO (j2c.l0 k y0 y1 y2 y3) (j2c.l0 (k+1) y0 y1 y2 y3))
 | 0=>⟨fun _ _ _ r h=>by simp [j2c.j0] at h,fun _ _ _ _ r h=>by simp [j2c.l0] at h⟩
 | k+1=>by
  obtain ⟨ih0,ih1⟩:=j2c.mono_l k;refine ⟨?_,?_⟩
  ·intro y0 y1 y2;unfold j2c.j0
   repeat' first
   | (with_reducible exact ih0 _ _ _)
   | (with_reducible exact ih1 _ _ _ _)
   | (with_reducible exact j2a.mono _ _)
   | (with_reducible exact LeO.refl _)
   | (with_reducible exact LeO.none _)
   | (with_reducible refine LeO.ite ?_ ?_)
   | (with_reducible refine LeO.bind ?_ (fun _=>?_))
   | exact ih0 _ _ _
   | exact ih1 _ _ _ _
   | exact j2a.mono _ _
   | exact LeO.none _
   | refine LeO.ite ?_ ?_
   | refine LeO.bind ?_ (fun _=>?_)
  ·intro y0 y1 y2 y3;unfold j2c.l0
   repeat' first
   | (with_reducible exact ih0 _ _ _)
   | (with_reducible exact ih1 _ _ _ _)
   | (with_reducible exact j2a.mono _ _)
   | (with_reducible exact LeO.refl _)
   | (with_reducible exact LeO.none _)
   | (with_reducible refine LeO.ite ?_ ?_)
   | (with_reducible refine LeO.bind ?_ (fun _=>?_))
   | exact ih0 _ _ _
   | exact ih1 _ _ _ _
   | exact j2a.mono _ _
   | exact LeO.none _
   | refine LeO.ite ?_ ?_
   | refine LeO.bind ?_ (fun _=>?_)
theorem j2c.mono : ∀ a0 a1 k,LeO (j2c.f k a0 a1) (j2c.f (k+1) a0 a1):=by
 intro a0 a1 k;obtain ⟨ih0,ih1⟩:=j2c.mono_l k;unfold j2c.f
 repeat' first
  | (with_reducible exact ih0 _ _ _)
  | (with_reducible exact ih1 _ _ _ _)
  | (with_reducible exact j2a.mono _ _)
  | (with_reducible exact LeO.refl _)
  | (with_reducible exact LeO.none _)
  | (with_reducible refine LeO.ite ?_ ?_)
  | (with_reducible refine LeO.bind ?_ (fun _=>?_))
  | exact ih0 _ _ _
  | exact ih1 _ _ _ _
  | exact j2a.mono _ _
  | exact LeO.none _
  | refine LeO.ite ?_ ?_
  | refine LeO.bind ?_ (fun _=>?_)
set_option maxHeartbeats 8000000 in
set_option maxRecDepth 100000 in
theorem j2c.calls (k : Nat) (a0:ByteArray) (a1:Int) (r1:Int) (r2:Bool) (w:World) (h:j2c.f k a0 a1=some (r1,r2)) :
 Calls Tryd.prog 32 #[.string a0, .int .i64 a1] w fun e w'=>e = .returned (.tuple #[.int .i64 r1, .bool r2])∧Drawn0 w w':=by
 have H:(if (wrap64 ((a0.size:Int) - a1))<6 then (j2c.j0 k a0 a1 true) else (if 0≤a1 then (if a1<(a0.size:Int) then (if (bt a0 a1)=92 then (if 0≤(wrap64 (a1+1)) then (if (wrap64 (a1+1))<(a0.size:Int) then (j2c.j0 k a0 a1 ((bt a0 (wrap64 (a1+1))) != 117)) else (none)) else (none)) else (j2c.j0 k a0 a1 true)) else (none)) else (none)))=some (r1,r2):=h;clear h;have HC3:=mk0 H;clear H;go_enter Tryd.func32,Tryd.ntmps32
 go_upto_region 1 with (fail)
 go_cut [27] (fun v27 wc=>∃ (kq:Nat) (x27_2:Bool),v27 = .bool x27_2∧Aside0 (j2c.j0 kq a0 a1 x27_2=some (r1,r2))∧Aside0 (kq≤k)∧Drawn0 w wc)
 case first =>
  have H:=HC3.out;clear HC3;by_cases c4:(wrap64 ((a0.size:Int) - a1))<6
  ·rw [if_pos c4] at H;have c4b0:decide ((wrap64 ((a0.size:Int) - a1))<6)=true:=decide_eq_true c4;clear c4
   (first|rw [c4b0]|(simp only [i64_w,i32_w];rw [c4b0])|skip)
   have H':=mk0 H;clear H;go_wp2
   go_meet
   case rel=>exact ⟨_,(true),zq40,H',⟨by first|omega|exact Nat.le_refl _⟩,by repeat (first|exact Drawn0.refl _|apply Drawn0.step)⟩
  rw [if_neg c4] at H;have c4b0:decide ((wrap64 ((a0.size:Int) - a1))<6)=false:=decide_eq_false c4;clear c4
  (first|rw [c4b0]|(simp only [i64_w,i32_w];rw [c4b0])|skip)
  by_cases c5:0≤a1
  rotate_left
  ·rw [if_neg c5] at H;exact absurd H (by simp)
  rw [if_pos c5] at H;have c5b0:decide (0≤a1)=true:=decide_eq_true c5;clear c5;by_cases c6:a1<(a0.size:Int)
  rotate_left
  ·rw [if_neg c6] at H;exact absurd H (by simp)
  rw [if_pos c6] at H;have c6b0:decide (a1<(a0.size:Int))=true:=decide_eq_true c6;clear c6;by_cases c8:(bt a0 a1)=92
  rotate_left
  ·rw [if_neg c8] at H;have c8b0:((bt a0 a1) == 92)=false:=beq_eq_false_iff_ne.mpr c8;have c8b1:((bt a0 a1) != 92)=true:=bne_iff_ne.mpr c8;have H':=mk0 H;clear H;have p7:0≤(a1:Int):=of_decide_eq_true zq25;have q7:a1<(a0.size:Int):=of_decide_eq_true zq25;have hx7:=bt_at a0 a1;replace p7:=eq_true p7;replace q7:=eq_true q7;go_wp2
   go_meet
   case rel=>exact ⟨_,(true),zq40,H',⟨by first|omega|exact Nat.le_refl _⟩,by repeat (first|exact Drawn0.refl _|apply Drawn0.step)⟩
  rw [if_pos c8] at H;have c8b0:((bt a0 a1) == 92)=true:=beq_iff_eq.mpr c8;have c8b1:((bt a0 a1) != 92)=false:=bne_eq_false_iff_eq.mpr c8;clear c8;obtain ⟨ji9,hji9⟩:∃ j_:Int,(wrap64 (a1+1))=j_:=⟨_,rfl⟩;replace H:(if 0≤(ji9) then (if (ji9)<(a0.size:Int) then (j2c.j0 k a0 a1 ((bt a0 (ji9)) != 117)) else (none)) else (none))=some (r1,r2):=by first|(rw [hji9] at H;exact H)|(simp only [hji9] at H ⊢; exact H)
  have hji9w:(IntKind.i64.wrap (a1+1))=ji9:=(i64_w _).trans hji9;by_cases c10:0≤(ji9)
  rotate_left
  ·rw [if_neg c10] at H;exact absurd H (by simp)
  rw [if_pos c10] at H;have c10b0:decide (0≤(ji9))=true:=decide_eq_true c10;clear c10;by_cases c11:(ji9)<(a0.size:Int)
  rotate_left
  ·rw [if_neg c11] at H;exact absurd H (by simp)
  rw [if_pos c11] at H;have c11b0:decide ((ji9)<(a0.size:Int))=true:=decide_eq_true c11;clear c11;have H':=mk0 H;clear H;have p7:0≤(a1:Int):=of_decide_eq_true zq25;have q7:a1<(a0.size:Int):=of_decide_eq_true zq25;have hx7:=bt_at a0 a1;replace p7:=eq_true p7;replace q7:=eq_true q7;have p12:0≤((ji9):Int):=of_decide_eq_true zq25;have q12:(ji9)<(a0.size:Int):=of_decide_eq_true zq25;have hx12:=bt_at a0 (ji9);replace p12:=eq_true p12;replace q12:=eq_true q12;go_wp2
  (try simp only [← hji9])
  go_meet
  case rel=>(try simp only [hji9]);exact ⟨_,(((bt a0 (ji9)) != 117)),(by first|with_reducible rfl|(simp only [← hji9];done)|rfl|(simp;done)|(simp only [← hji9]<;>(first|rfl|(simp;done)))|(simp only [← hji9];done)|(simp only [← hji9];rfl)|(simp [*];done)),(by first|exact H'|(simp only [← hji9] at H' ⊢; exact H')),⟨by first|omega|exact Nat.le_refl _⟩,by repeat (first|exact Drawn0.refl _|apply Drawn0.step)⟩
 case rest =>
  clear HC3
  try clear c1
  try clear p1
  try clear q1
  try clear hx1
  try clear p2
  try clear c3
  try clear c4
  try clear c4b0
  try clear c5
  try clear c5b0
  try clear c6
  try clear c6b0
  try clear p6
  try clear p7
  try clear q7
  try clear hx7
  try clear c8
  try clear c8b0
  try clear c8b1
  try clear c10
  try clear c10b0
  try clear c11
  try clear c11b0
  try clear p12
  try clear q12
  try clear hx12
  try clear p12
  try clear p7
  try clear q12
  try clear q7
  obtain ⟨kq,x27_2,rfl,HA,HJ2,⟨mc2,rfl⟩⟩:=hcut;cases kq with
  | zero=>exact absurd HA.out (by simp [j2c.j0])
  | succ kj2 =>
   have H:=HA.out;clear HA;simp only [j2c.j0] at H;by_cases c13:x27_2=true
   ·subst c13;have H1:(some (0,false))=some (r1,r2):=by rw [if_pos rfl] at H;exact H
    clear H;have H:=H1;clear H1;simp only [Option.some.injEq,Prod.mk.injEq] at H;obtain ⟨rfl,rfl⟩:=H;go_wp2
    go_ret2
    exact zl3
   replace c13:=Bool.eq_false_iff.mpr c13;subst c13;have H1:(j2c.l0 kj2 a0 a1 0 (wrap64 (a1+2)))=some (r1,r2):=by rw [if_neg (show ¬ (false=true) by decide)] at H;exact H
   clear H;have H:=H1;clear H1;have H':=mk0 H;clear H;go_wp2
   go_loopg [6,7] kj2 (fun kq v6 v7 w'=>∃ (x6_2:Int) (x7_2:Int),v6 = .int .i64 x6_2∧v7 = .int .i64 x7_2∧Aside0 (j2c.l0 kq a0 a1 x6_2 x7_2=some (r1,r2))∧Aside0 (kq≤kj2)∧Drawn0 w w')
   case atStart=>exact ⟨(0),(wrap64 (a1+2)),zq40,zq40,H',⟨Nat.le_refl _⟩,by repeat (first|exact Drawn0.refl _|apply Drawn0.step)⟩
   case round =>
    clear H'
    try clear c1
    try clear p1
    try clear q1
    try clear hx1
    try clear c2
    try clear p2
    try clear c3
    try clear c4
    try clear c4b0
    try clear c5
    try clear c5b0
    try clear c6
    try clear c6b0
    try clear p6
    try clear p7
    try clear q7
    try clear hx7
    try clear c8
    try clear c8b0
    try clear c8b1
    try clear c10
    try clear c10b0
    try clear c11
    try clear c11b0
    try clear p12
    try clear q12
    try clear hx12
    try clear c13
    try clear p1
    try clear p12
    try clear p2
    try clear p6
    try clear p7
    try clear q1
    try clear q12
    try clear q7
    obtain ⟨x6_2,x7_2,rfl,rfl,HA,HK2,⟨m2,rfl⟩⟩:=hrel;cases gk with
    | zero=>exact absurd HA.out (by simp [j2c.l0])
    | succ k2 =>
     have H:=HA.out;clear HA;simp only [j2c.l0] at H;by_cases c14:x7_2<(wrap64 (a1+6))
     rotate_left
     ·rw [if_neg c14] at H;have c14b0:decide (x7_2<(wrap64 (a1+6)))=false:=decide_eq_false c14;clear c14;simp only [Option.some.injEq,Prod.mk.injEq] at H;obtain ⟨rfl,rfl⟩:=H;go_wp2
      go_ret2
      exact zl3
     rw [if_pos c14] at H;have c14b0:decide (x7_2<(wrap64 (a1+6)))=true:=decide_eq_true c14;clear c14;by_cases c15:0≤x7_2
     rotate_left
     ·rw [if_neg c15] at H;exact absurd H (by simp)
     rw [if_pos c15] at H;have c15b0:decide (0≤x7_2)=true:=decide_eq_true c15;clear c15;by_cases c16:x7_2<(a0.size:Int)
     rotate_left
     ·rw [if_neg c16] at H;exact absurd H (by simp)
     rw [if_pos c16] at H;have c16b0:decide (x7_2<(a0.size:Int))=true:=decide_eq_true c16;clear c16;replace H:=Option.bind_eq_some_iff.mp H;obtain ⟨⟨t101,t102⟩,A180,H⟩:=H;replace H:(if t102=true then (j2c.l0 k2 a0 a1 (wrap64 ((wrap64 (x6_2*16))+t101)) (wrap64 (x7_2+1))) else (some (0,false)))=some (r1,r2):=H;have A18:=mk0 A180;clear A180;by_cases c19:t102=true
     rotate_left
     ·replace c19:=Bool.eq_false_iff.mpr c19;subst c19;have H1:(some (0,false))=some (r1,r2):=by rw [if_neg (show ¬ (false=true) by decide)] at H;exact H
      clear H;have H:=H1;clear H1;simp only [Option.some.injEq,Prod.mk.injEq] at H;obtain ⟨rfl,rfl⟩:=H;have p17:0≤(x7_2:Int):=of_decide_eq_true zq25;have q17:x7_2<(a0.size:Int):=of_decide_eq_true zq25;have hx17:=bt_at a0 x7_2;replace p17:=eq_true p17;replace q17:=eq_true q17;go_wp2_with (first|((with_reducible refine j1u (f:=49) rfl ?_);refine j2p (some 40) rfl rfl Tryd.func49 zq14 rfl #[.int .u8 (bt a0 x7_2)] rfl zq1 ?_;(with_reducible refine (j2a.calls k2 (bt a0 x7_2) t101 false _ A18.out).mono ?_);rintro e w' ⟨rfl,⟨nd,rfl⟩⟩;refine ⟨_,rfl,?_⟩))
      go_ret2
      exact zl3
     subst c19;have H1:(j2c.l0 k2 a0 a1 (wrap64 ((wrap64 (x6_2*16))+t101)) (wrap64 (x7_2+1)))=some (r1,r2):=by rw [if_pos rfl] at H;exact H
     clear H;have H:=H1;clear H1;have H':=mk0 H;clear H;have p17:0≤(x7_2:Int):=of_decide_eq_true zq25;have q17:x7_2<(a0.size:Int):=of_decide_eq_true zq25;have hx17:=bt_at a0 x7_2;replace p17:=eq_true p17;replace q17:=eq_true q17;go_wp2_with (first|((with_reducible refine j1u (f:=49) rfl ?_);refine j2p (some 40) rfl rfl Tryd.func49 zq14 rfl #[.int .u8 (bt a0 x7_2)] rfl zq1 ?_;(with_reducible refine (j2a.calls k2 (bt a0 x7_2) t101 true _ A18.out).mono ?_);rintro e w' ⟨rfl,⟨nd,rfl⟩⟩;refine ⟨_,rfl,?_⟩))
     go_roundg k2
     case measure=>have:=HJ2.out;have:=HK2.out;omega
     case rel=>exact ⟨(wrap64 ((wrap64 (x6_2*16))+t101)),(wrap64 (x7_2+1)),zq40,zq40,H',⟨by have:=HJ2.out;have:=HK2.out;omega⟩,by repeat (first|exact Drawn0.refl _|apply Drawn0.step)⟩
def j4f.f (a0 : Int):Option (Int):=if a0=98 then (some 8) else (if a0=102 then (some 12) else (if a0=110 then (some 10) else (if a0=114 then (some 13) else (if a0=116 then (some 9) else (some a0)))))
set_option maxHeartbeats 8000000 in
set_option maxRecDepth 100000 in
theorem j4f.calls (a0 : Int) (r:Int) (w:World) (h:j4f.f a0=some r) :
 Calls Tryd.prog 33 #[.int .u8 a0] w fun e w'=>e = .returned (.int .u8 r)∧Drawn0 w w':=by
 have H:(if a0=98 then (some 8) else (if a0=102 then (some 12) else (if a0=110 then (some 10) else (if a0=114 then (some 13) else (if a0=116 then (some 9) else (some a0))))))=some r:=h;clear h;by_cases c2:a0=98
 ·rw [if_pos c2] at H;have c2b0:(a0 == 98)=true:=beq_iff_eq.mpr c2;have c2b1:(a0 != 98)=false:=bne_eq_false_iff_eq.mpr c2;clear c2;obtain rfl:=Option.some.inj H;go_enter Tryd.func33,Tryd.ntmps33
  go_wp2
  go_ret
  exact zl3
 rw [if_neg c2] at H;have c2b0:(a0 == 98)=false:=beq_eq_false_iff_ne.mpr c2;have c2b1:(a0 != 98)=true:=bne_iff_ne.mpr c2;by_cases c3:a0=102
 ·rw [if_pos c3] at H;have c3b0:(a0 == 102)=true:=beq_iff_eq.mpr c3;have c3b1:(a0 != 102)=false:=bne_eq_false_iff_eq.mpr c3;clear c3;obtain rfl:=Option.some.inj H;go_enter Tryd.func33,Tryd.ntmps33
  go_wp2
  go_ret
  exact zl3
 rw [if_neg c3] at H;have c3b0:(a0 == 102)=false:=beq_eq_false_iff_ne.mpr c3;have c3b1:(a0 != 102)=true:=bne_iff_ne.mpr c3;by_cases c4:a0=110
 ·rw [if_pos c4] at H;have c4b0:(a0 == 110)=true:=beq_iff_eq.mpr c4;have c4b1:(a0 != 110)=false:=bne_eq_false_iff_eq.mpr c4;clear c4;obtain rfl:=Option.some.inj H;go_enter Tryd.func33,Tryd.ntmps33
  go_wp2
  go_ret
  exact zl3
 rw [if_neg c4] at H;have c4b0:(a0 == 110)=false:=beq_eq_false_iff_ne.mpr c4;have c4b1:(a0 != 110)=true:=bne_iff_ne.mpr c4;by_cases c5:a0=114
 ·rw [if_pos c5] at H;have c5b0:(a0 == 114)=true:=beq_iff_eq.mpr c5;have c5b1:(a0 != 114)=false:=bne_eq_false_iff_eq.mpr c5;clear c5;obtain rfl:=Option.some.inj H;go_enter Tryd.func33,Tryd.ntmps33
  go_wp2
  go_ret
  exact zl3
 rw [if_neg c5] at H;have c5b0:(a0 == 114)=false:=beq_eq_false_iff_ne.mpr c5;have c5b1:(a0 != 114)=true:=bne_iff_ne.mpr c5;by_cases c6:a0=116
 rotate_left
 ·rw [if_neg c6] at H;have c6b0:(a0 == 116)=false:=beq_eq_false_iff_ne.mpr c6;have c6b1:(a0 != 116)=true:=bne_iff_ne.mpr c6;obtain rfl:=Option.some.inj H;go_enter Tryd.func33,Tryd.ntmps33
  go_wp2
  go_ret
  exact zl3
 rw [if_pos c6] at H;have c6b0:(a0 == 116)=true:=beq_iff_eq.mpr c6;have c6b1:(a0 != 116)=false:=bne_eq_false_iff_eq.mpr c6;clear c6;obtain rfl:=Option.some.inj H;go_enter Tryd.func33,Tryd.ntmps33
 go_wp2
 go_ret
 exact zl3
def j3u.f (a0 : Int):Option (Bool):=if 55296≤a0 then (some (decide (a0≤56319))) else (some false)
set_option maxHeartbeats 8000000 in
set_option maxRecDepth 100000 in
theorem j3u.calls (a0 : Int) (r:Bool) (w:World) (h:j3u.f a0=some r) :
 Calls Tryd.prog 34 #[.int .i64 a0] w fun e w'=>e = .returned (.bool r)∧Drawn0 w w':=by
 have H:(if 55296≤a0 then (some (decide (a0≤56319))) else (some false))=some r:=h;clear h;by_cases c2:55296≤a0
 ·rw [if_pos c2] at H;have c2b0:decide (55296≤a0)=true:=decide_eq_true c2;clear c2;obtain rfl:=Option.some.inj H;go_enter Tryd.func34,Tryd.ntmps34
  go_wp2
  go_ret
  exact zl3
 rw [if_neg c2] at H;have c2b0:decide (55296≤a0)=false:=decide_eq_false c2;clear c2;obtain rfl:=Option.some.inj H;go_enter Tryd.func34,Tryd.ntmps34
 go_wp2
 go_ret
 exact zl3
def j4i.f (a0 : Int):Option (Bool):=if 56320≤a0 then (some (decide (a0≤57343))) else (some false)
set_option maxHeartbeats 8000000 in
set_option maxRecDepth 100000 in
theorem j4i.calls (a0 : Int) (r:Bool) (w:World) (h:j4i.f a0=some r) :
 Calls Tryd.prog 35 #[.int .i64 a0] w fun e w'=>e = .returned (.bool r)∧Drawn0 w w':=by
 have H:(if 56320≤a0 then (some (decide (a0≤57343))) else (some false))=some r:=h;clear h;by_cases c2:56320≤a0
 ·rw [if_pos c2] at H;have c2b0:decide (56320≤a0)=true:=decide_eq_true c2;clear c2;obtain rfl:=Option.some.inj H;go_enter Tryd.func35,Tryd.ntmps35
  go_wp2
  go_ret
  exact zl3
 rw [if_neg c2] at H;have c2b0:decide (56320≤a0)=false:=decide_eq_false c2;clear c2;obtain rfl:=Option.some.inj H;go_enter Tryd.func35,Tryd.ntmps35
 go_wp2
 go_ret
 exact zl3
def j1z.j0 : Nat → List Int→Int→Bool→Option (List Int)
  | 0,_,_,_=>none
  | k+1,x0,x1,x27=>if x27=true then ((some (([239,191,189]:List Int):List Int)).bind fun y112=>(if x0.length+y112.length<140737488355328 then (some (x0++y112)) else (none))) else (if x1<65536 then ((some (([(wrap64 (224+(wrap64 (Int.tdiv x1 4096)))) % 256,(wrap64 (128+(Int.tmod (wrap64 (Int.tdiv x1 64)) 64))) % 256,(wrap64 (128+(Int.tmod x1 64))) % 256]:List Int):List Int)).bind fun y118=>(if x0.length+y118.length<140737488355328 then (some (x0++y118)) else (none))) else ((some (([(wrap64 (240+(wrap64 (Int.tdiv x1 262144)))) % 256,(wrap64 (128+(Int.tmod (wrap64 (Int.tdiv x1 4096)) 64))) % 256,(wrap64 (128+(Int.tmod (wrap64 (Int.tdiv x1 64)) 64))) % 256,(wrap64 (128+(Int.tmod x1 64))) % 256]:List Int):List Int)).bind fun y124=>(if x0.length+y124.length<140737488355328 then (some (x0++y124)) else (none))))
def j1z.f (k : Nat) (l0:List Int) (a1:Int):Option (List Int):=if a1<128 then (if l0.length<140737488355328 then (some (l0++[(a1) % 256])) else (none)) else (if a1<2048 then ((some (([(wrap64 (192+(wrap64 (Int.tdiv a1 64)))) % 256,(wrap64 (128+(Int.tmod a1 64))) % 256]:List Int):List Int)).bind fun y104=>(if l0.length+y104.length<140737488355328 then (some (l0++y104)) else (none))) else ((j3u.f a1).bind fun t110=>(if t110=true then (j1z.j0 k l0 a1 true) else ((j4i.f a1).bind fun t111=>(j1z.j0 k l0 a1 t111)))))
theorem j1z.mono_l : ∀ k,(∀ y0 y1 y2,LeO (j1z.j0 k y0 y1 y2) (j1z.j0 (k+1) y0 y1 y2))
 | 0=>fun _ _ _ r h=>by simp [j1z.j0] at h
 | k+1=>by
  have ih0:=j1z.mono_l k
  ·intro y0 y1 y2;unfold j1z.j0
   repeat' first
   | (with_reducible exact ih0 _ _ _)
   | (with_reducible exact LeO.refl _)
   | (with_reducible exact LeO.none _)
   | (with_reducible refine LeO.ite ?_ ?_)
   | (with_reducible refine LeO.bind ?_ (fun _=>?_))
   | exact ih0 _ _ _
   | exact LeO.none _
   | refine LeO.ite ?_ ?_
   | refine LeO.bind ?_ (fun _=>?_)
theorem j1z.mono : ∀ a0 a1 k,LeO (j1z.f k a0 a1) (j1z.f (k+1) a0 a1):=by
 intro a0 a1 k;have ih0:=j1z.mono_l k;unfold j1z.f
 repeat' first
  | (with_reducible exact ih0 _ _ _)
  | (with_reducible exact LeO.refl _)
  | (with_reducible exact LeO.none _)
  | (with_reducible refine LeO.ite ?_ ?_)
  | (with_reducible refine LeO.bind ?_ (fun _=>?_))
  | exact ih0 _ _ _
  | exact LeO.none _
  | refine LeO.ite ?_ ?_
  | refine LeO.bind ?_ (fun _=>?_)
set_option maxHeartbeats 8000000 in
set_option maxRecDepth 100000 in
theorem j1z.calls (k : Nat) (P0_:Nat→Prop) (u9000_:Value) (l0:List Int) (a1:Int) (r:List Int) (w0 w:World) (hB:Below w0.heap.size w0 w) (ho0:Kd.R (Kd.int .u8) 5 w w0.heap.size P0_ u9000_ l0) (h:j1z.f k l0 a1=some r) :
 Calls Tryd.prog 36 #[u9000_, .int .i64 a1] w fun e w'=>∃ v0_:Value,e = .returned (v0_)∧Kd.R (Kd.int .u8) 5 w' w0.heap.size (fun k_=>(P0_ k_∨w.heap.size≤k_)) v0_ r∧Below w0.heap.size w0 w'∧Kept w w' (fun k_=>P0_ k_):=by
 have HO0:=mk0 (show Kd.R (Kd.int .u8) 5 w w0.heap.size (fun k_=>(P0_ k_∨w.heap.size≤k_)) u9000_ l0 from Kd.R_mono ho0 (fun k_ hk=>(.inl hk)));have HK:=mk0 (Kept.refl w (fun k_=>P0_ k_));have HW0:=mk0 hB.size;have HB:=mk0 hB;clear hB;have H:(if a1<128 then (if l0.length<140737488355328 then (some (l0++[(a1) % 256])) else (none)) else (if a1<2048 then ((some (([(wrap64 (192+(wrap64 (Int.tdiv a1 64)))) % 256,(wrap64 (128+(Int.tmod a1 64))) % 256]:List Int):List Int)).bind fun y104=>(if l0.length+y104.length<140737488355328 then (some (l0++y104)) else (none))) else ((j3u.f a1).bind fun t110=>(if t110=true then (j1z.j0 k l0 a1 true) else ((j4i.f a1).bind fun t111=>(j1z.j0 k l0 a1 t111))))))=some r:=h;clear h;by_cases c3:a1<128
 ·rw [if_pos c3] at H;have c3b0:decide (a1<128)=true:=decide_eq_true c3;clear c3;by_cases c4:l0.length<140737488355328
  rotate_left
  ·rw [if_neg c4] at H;exact absurd H (by simp)
  rw [if_pos c4] at H;have LMc4:=mk0 c4;clear c4;obtain ⟨y101,hy101⟩:∃ y_:List Int,y_=(l0++[(a1) % 256]):=⟨_,rfl⟩;replace H:(some y101)=some r:=by (rw [hy101];with_reducible exact H)
  have Ny101:=mk0 hy101;clear hy101;obtain rfl:=Option.some.inj H;go_enter Tryd.func36,Tryd.ntmps36
  go_wp2_with (first|((with_reducible refine j3g (b := .append) (xs:=#[.tmp 8, .tmp 11]) rfl ?_);at_builtin;refine Kd.R_append (Kd.int .u8) (w0:=w0) w0.heap.size rfl (.tmp 8) (.tmp 11) 55 5 (.int .u8 0) 1 rfl Tryd.underlying55 info5 rfl zq47 (by omega) u9000_ l0 ((a1) % 256) [.int .u8 ((a1) % 256)] (fun k_=>(P0_ k_∨w.heap.size≤k_)) (fun _=>False) rfl rfl ?aP (fun _ hk=>hk.elim) ?aF ?aO ?aB ?aS ?aL ?_;(case aP=>exact rfl);(case aB=>exact zq3);(case aF=>exact (fun k_ hk=>(.inr (Nat.le_trans (by exact HK.out.1) hk))));(case aO=>exact zq60);(case aS=>exact (j2n zq3));(case aL=>have:=LMc4.out;first|omega|(simp only [List.length_cons,List.length_nil] at this ⊢; omega));intro v102 w5 ho hb hg hat;rw [← Ny101.out] at ho;have n0_:=mk0 (hb);have n1_:=mk0 (Kept.of_grown (S:=(fun k_=>P0_ k_)) hg zq29 (fun k_ e_=>(HO0.out.1 k_ e_)));have n2_:=mk0 (ho);clear HB HK HO0;have HB:=n0_;have HK:=n1_;have HO103:=n2_;clear n0_ n1_ n2_;clear ho hb hg hat))
  go_ret
  exact ⟨_,by rfl,by (with_reducible repeat (first|apply Kd.R_alloc|apply Kd.R_drewN|apply Kd.R_drew));exact HO103.out,by repeat (first|(with_reducible first|exact HB.out|apply j1g|apply j1d|apply j1l)|exact HB.out),by repeat (first|(with_reducible first|exact HK.out|apply Kept.alloc|apply Kept.drewN|apply Kept.drew)|exact HK.out)⟩
 rw [if_neg c3] at H;have c3b0:decide (a1<128)=false:=decide_eq_false c3;clear c3;by_cases c6:a1<2048
 ·rw [if_pos c6] at H;have c6b0:decide (a1<2048)=true:=decide_eq_true c6;clear c6;obtain ⟨y104,hy104⟩:∃ y_:List Int,y_=(([(wrap64 (192+(wrap64 (Int.tdiv a1 64)))) % 256,(wrap64 (128+(Int.tmod a1 64))) % 256]:List Int)):=⟨_,rfl⟩;replace H:(if l0.length+y104.length<140737488355328 then (some (l0++y104)) else (none))=some r:=by (have H2_:=(Option.bind_some _ _).symm.trans H;rw [hy104];with_reducible exact H2_)
  have Ny104:=mk0 hy104;clear hy104;by_cases c7:l0.length+y104.length<140737488355328
  rotate_left
  ·rw [if_neg c7] at H;exact absurd H (by simp)
  rw [if_pos c7] at H;have LMc7:=mk0 c7;clear c7;obtain ⟨y107,hy107⟩:∃ y_:List Int,y_=(l0++y104):=⟨_,rfl⟩;replace H:(some y107)=some r:=by (rw [hy107];with_reducible exact H)
  have Ny107:=mk0 hy107;clear hy107;obtain rfl:=Option.some.inj H;go_enter Tryd.func36,Tryd.ntmps36
  go_wp2_with (first|((with_reducible refine j2z (N:=25) rfl ?_);refine Kd.R_lit (Kd.int .u8) _ 5 ?hg (N:=25) ?hd (xs:=([(wrap64 (192+(wrap64 (Int.tdiv a1 64)))) % 256,(wrap64 (128+(Int.tmod a1 64))) % 256]:List Int)) (inner:=[.int .u8 ((wrap64 (192+(wrap64 (Int.tdiv a1 64)))) % 256), .int .u8 ((wrap64 (128+(Int.tmod a1 64))) % 256)]) (ok:=fun _=>True) (okp:=fun _=>True) ?hr ?hp (fun _ hk=>hk) trivial (Below.refl _ _) (Nat.le_refl _) (by simp) ?_;(case hd=>rfl);(case hg=>rfl);(case hr=>exact zq28);(case hp=>exact (Reps.one (show Kd.M (Kd.int .u8) _ _ _ ((wrap64 (192+(wrap64 (Int.tdiv a1 64)))) % 256) [.int .u8 ((wrap64 (192+(wrap64 (Int.tdiv a1 64)))) % 256)] from rfl) (Reps.one (show Kd.M (Kd.int .u8) _ _ _ ((wrap64 (128+(Int.tmod a1 64))) % 256) [.int .u8 ((wrap64 (128+(Int.tmod a1 64))) % 256)] from rfl) (Reps.none _ _))));intro v105 w8 ho9 hb hg_ hnew_;clear hg_ hnew_;(first|rw [← Ny104.out] at ho9|(simp only [Int.reduceToNat] at ho9;rw [← Ny104.out] at ho9));have HO106:=mk0 (Kd.R_lower (Kd.R_new' (Kd.R_newM (M:=fun k_=>(P0_ k_∨w.heap.size≤k_)) ho9 (by exact HK.out.1) (fun k_ h_ => .inr h_)) (Kd.R_lt zq60)) (j2n zq3));replace HO0:=mk0 (Kd.R_elder' zq60 (Kd.R_base ho9) hb);replace HK:=mk0 (Kept.below (S:=(fun k_=>P0_ k_)) zq29 hb);replace HB:=mk0 (j1p zq3 hb);clear hb ho9;obtain ⟨Ao11,co11,eo11⟩:=Kd.R_slice HO106.out;subst eo11)|((with_reducible refine j3g (b := .append) (xs:=#[.tmp 16, .tmp 25]) rfl ?_);at_builtin;refine Kd.R_append_rows (Kd.int .u8) (w0:=w0) w0.heap.size rfl (.tmp 16) (.tmp 25) 55 5 (.int .u8 0) 1 rfl Tryd.underlying55 info5 rfl zq47 (by omega) u9000_ l0 y104 _ _ _ (fun k_=>(P0_ k_∨w.heap.size≤k_)∧some k_≠(.slice Ao11 y104.length co11:Value).ownBlock) (fun _=>False) rfl rfl ?aO ?aR (fun _ _ h=>h) (fun _ h=>h.elim) ?aF ?aB ?aS ?aL ?_;(case aR=>repeat (first|exact (Kd.R_reads' HO106.out).2.2|(with_reducible refine Kd.C_alloc ?_ _)|(with_reducible refine Kd.C_drewN ?_ _)|(with_reducible refine Kd.C_drew ?_)));(case aB=>exact zq3);(case aF=>exact (fun k_ hk=>⟨(.inr (Nat.le_trans (by exact HK.out.1) hk)),Kd.fresh' (Kd.R_lt (by (with_reducible repeat (first|apply Kd.R_alloc|apply Kd.R_drewN|apply Kd.R_drew));exact HO106.out)) k_ hk⟩));(case aO=>exact zq60);(case aS=>exact (j2n zq3));(case aL=>have:=LMc7.out;first|omega|(simp only [List.length_cons,List.length_nil] at this ⊢; omega));intro v108 w10 ho hb hg hat;rw [← Ny107.out] at ho;have n0_:=mk0 (Kd.R_after (ok:=(fun k_=>(P0_ k_∨w.heap.size≤k_))) (by (with_reducible repeat (first|apply Kd.R_alloc|apply Kd.R_drewN|apply Kd.R_drew));exact Kd.R_mono HO106.out (fun _ hk=>⟨hk.1.1,hk.2⟩)) hg hat);have n1_:=mk0 (hb);have n2_:=mk0 (Kept.of_grown (S:=(fun k_=>P0_ k_)) hg zq29 (fun k_ e_=>(HO0.out.1 k_ e_).1));have n3_:=mk0 (ho);clear HO106 HB HK HO0;have HO106:=n0_;have HB:=n1_;have HK:=n2_;have HO109:=n3_;clear n0_ n1_ n2_ n3_;clear ho hb hg hat))
  go_ret
  exact ⟨_,by rfl,by (with_reducible repeat (first|apply Kd.R_alloc|apply Kd.R_drewN|apply Kd.R_drew));exact Kd.R_mono HO109.out (fun _ hk=>hk.1),by repeat (first|(with_reducible first|exact HB.out|apply j1g|apply j1d|apply j1l)|exact HB.out),by repeat (first|(with_reducible first|exact HK.out|apply Kept.alloc|apply Kept.drewN|apply Kept.drew)|exact HK.out)⟩
 rw [if_neg c6] at H;have c6b0:decide (a1<2048)=false:=decide_eq_false c6;clear c6;have HC12:=mk0 H;clear H;go_enter Tryd.func36,Tryd.ntmps36
 go_upto_region 5 with (fail)
 go_cut [27] (fun v27 wc=>∃ (kq:Nat) (x27_11:Bool),v27 = .bool x27_11∧Aside0 (j1z.j0 kq l0 a1 x27_11=some r)∧Aside0 (kq≤k)∧Aside0 (Kd.R (Kd.int .u8) 5 wc w0.heap.size (fun k_=>(P0_ k_∨w.heap.size≤k_)) u9000_ l0)∧Aside0 (Kept w wc (fun k_=>P0_ k_))∧Aside0 (Below w0.heap.size w0 wc))
 case first =>
  have H:=HC12.out;clear HC12;replace H:=Option.bind_eq_some_iff.mp H;obtain ⟨t110,A130,H⟩:=H
  (try dsimp only at H)
  have A13:=mk0 A130;clear A130;by_cases c14:t110=true
  ·subst c14;rw [if_pos rfl] at H;have H':=mk0 H;clear H;go_wp2_with (first|((with_reducible refine j1u (f:=34) rfl ?_);refine j2p (some 29) rfl rfl Tryd.func34 zq14 rfl #[.int .i64 a1] rfl zq1 ?_;(with_reducible refine (j3u.calls a1 true _ A13.out).mono ?_);rintro e w' ⟨rfl,⟨nd,rfl⟩⟩;refine ⟨_,rfl,?_⟩))
   go_meet
   case rel=>exact ⟨_,(true),(by rfl),H',⟨by omega⟩,⟨by (with_reducible repeat (first|apply Kd.R_alloc|apply Kd.R_drewN|apply Kd.R_drew));exact HO0.out⟩,⟨by repeat (first|(with_reducible first|exact HK.out|apply Kept.alloc|apply Kept.drewN|apply Kept.drew)|exact HK.out)⟩,⟨by repeat (first|(with_reducible first|exact HB.out|apply j1g|apply j1d|apply j1l)|exact HB.out)⟩⟩
  replace c14:=Bool.eq_false_iff.mpr c14;subst c14;rw [if_neg (show ¬ (false=true) by decide)] at H;replace H:=Option.bind_eq_some_iff.mp H;obtain ⟨t111,A150,H⟩:=H
  (try dsimp only at H)
  have A15:=mk0 A150;clear A150;have H':=mk0 H;clear H;go_wp2_with (first|((with_reducible refine j1u (f:=34) rfl ?_);refine j2p (some 29) rfl rfl Tryd.func34 zq14 rfl #[.int .i64 a1] rfl zq1 ?_;(with_reducible refine (j3u.calls a1 false _ A13.out).mono ?_);rintro e w' ⟨rfl,⟨nd,rfl⟩⟩;refine ⟨_,rfl,?_⟩)|(go_at_call 35;(with_reducible refine (j4i.calls a1 t111 _ A15.out).mono ?_);rintro e w' ⟨rfl,⟨nd,rfl⟩⟩))
  go_meet
  case rel=>exact ⟨_,(t111),(by rfl),H',⟨by omega⟩,⟨by (with_reducible repeat (first|apply Kd.R_alloc|apply Kd.R_drewN|apply Kd.R_drew));exact HO0.out⟩,⟨by repeat (first|(with_reducible first|exact HK.out|apply Kept.alloc|apply Kept.drewN|apply Kept.drew)|exact HK.out)⟩,⟨by repeat (first|(with_reducible first|exact HB.out|apply j1g|apply j1d|apply j1l)|exact HB.out)⟩⟩
 case rest =>
  clear HC12 c3b0 c6b0;obtain ⟨kq,x27_11,rfl,HA,HJ11,HO_0,HK,HB⟩:=hcut;cases kq with
  | zero=>exact absurd HA.out (by simp [j1z.j0])
  | succ kj11 =>
   have H:=HA.out;clear HA;simp only [j1z.j0] at H;by_cases c16:x27_11=true
   ·subst c16;rw [if_pos rfl] at H;obtain ⟨y112,hy112⟩:∃ y_:List Int,y_=(([239,191,189]:List Int)):=⟨_,rfl⟩;replace H:(if l0.length+y112.length<140737488355328 then (some (l0++y112)) else (none))=some r:=by (have H2_:=(Option.bind_some _ _).symm.trans H;rw [hy112];with_reducible exact H2_)
    have Ny112:=mk0 hy112;clear hy112;by_cases c17:l0.length+y112.length<140737488355328
    rotate_left
    ·rw [if_neg c17] at H;exact absurd H (by simp)
    rw [if_pos c17] at H;have LMc17:=mk0 c17;clear c17;obtain ⟨y115,hy115⟩:∃ y_:List Int,y_=(l0++y112):=⟨_,rfl⟩;replace H:(some y115)=some r:=by (rw [hy115];with_reducible exact H)
    have Ny115:=mk0 hy115;clear hy115;obtain rfl:=Option.some.inj H;go_wp2_with (first|((with_reducible refine j2z (N:=35) rfl ?_);refine Kd.R_lit (Kd.int .u8) _ 5 ?hg (N:=35) ?hd (xs:=([239,191,189]:List Int)) (inner:=[.int .u8 239, .int .u8 191, .int .u8 189]) (ok:=fun _=>True) (okp:=fun _=>True) ?hr ?hp (fun _ hk=>hk) trivial (Below.refl _ _) (Nat.le_refl _) (by simp) ?_;(case hd=>rfl);(case hg=>rfl);(case hr=>exact zq28);(case hp=>exact (Reps.one (show Kd.M (Kd.int .u8) _ _ _ 239 [.int .u8 239] from rfl) (Reps.one (show Kd.M (Kd.int .u8) _ _ _ 191 [.int .u8 191] from rfl) (Reps.one (show Kd.M (Kd.int .u8) _ _ _ 189 [.int .u8 189] from rfl) (Reps.none _ _)))));intro v113 w18 ho19 hb hg_ hnew_;clear hg_ hnew_;(first|rw [← Ny112.out] at ho19|(simp only [Int.reduceToNat] at ho19;rw [← Ny112.out] at ho19));have HO114:=mk0 (Kd.R_lower (Kd.R_new' (Kd.R_newM (M:=fun k_=>(P0_ k_∨w.heap.size≤k_)) ho19 (by exact HK.out.1) (fun k_ h_ => .inr h_)) (Kd.R_lt zq34)) (j2n zq3));replace HO_0:=mk0 (Kd.R_elder' zq34 (Kd.R_base ho19) hb);replace HK:=mk0 (Kept.below (S:=(fun k_=>P0_ k_)) zq29 hb);replace HB:=mk0 (j1p zq3 hb);clear hb ho19;obtain ⟨Ao21,co21,eo21⟩:=Kd.R_slice HO114.out;subst eo21)|((with_reducible refine j3g (b := .append) (xs:=#[.tmp 34, .tmp 35]) rfl ?_);at_builtin;refine Kd.R_append_rows (Kd.int .u8) (w0:=w0) w0.heap.size rfl (.tmp 34) (.tmp 35) 55 5 (.int .u8 0) 1 rfl Tryd.underlying55 info5 rfl zq47 (by omega) u9000_ l0 y112 _ _ _ (fun k_=>(P0_ k_∨w.heap.size≤k_)∧some k_≠(.slice Ao21 y112.length co21:Value).ownBlock) (fun _=>False) rfl rfl ?aO ?aR (fun _ _ h=>h) (fun _ h=>h.elim) ?aF ?aB ?aS ?aL ?_;(case aR=>repeat (first|exact (Kd.R_reads' HO114.out).2.2|(with_reducible refine Kd.C_alloc ?_ _)|(with_reducible refine Kd.C_drewN ?_ _)|(with_reducible refine Kd.C_drew ?_)));(case aB=>exact zq3);(case aF=>exact (fun k_ hk=>⟨(.inr (Nat.le_trans (by exact HK.out.1) hk)),Kd.fresh' (Kd.R_lt (by (with_reducible repeat (first|apply Kd.R_alloc|apply Kd.R_drewN|apply Kd.R_drew));exact HO114.out)) k_ hk⟩));(case aO=>exact zq34);(case aS=>exact (j2n zq3));(case aL=>have:=LMc17.out;first|omega|(simp only [List.length_cons,List.length_nil] at this ⊢; omega));intro v116 w20 ho hb hg hat;rw [← Ny115.out] at ho;have n0_:=mk0 (Kd.R_after (ok:=(fun k_=>(P0_ k_∨w.heap.size≤k_))) (by (with_reducible repeat (first|apply Kd.R_alloc|apply Kd.R_drewN|apply Kd.R_drew));exact Kd.R_mono HO114.out (fun _ hk=>⟨hk.1.1,hk.2⟩)) hg hat);have n1_:=mk0 (hb);have n2_:=mk0 (Kept.of_grown (S:=(fun k_=>P0_ k_)) hg zq29 (fun k_ e_=>(HO_0.out.1 k_ e_).1));have n3_:=mk0 (ho);clear HO114 HB HK HO_0;have HO114:=n0_;have HB:=n1_;have HK:=n2_;have HO117:=n3_;clear n0_ n1_ n2_ n3_;clear ho hb hg hat))
    go_ret
    exact ⟨_,by rfl,by (with_reducible repeat (first|apply Kd.R_alloc|apply Kd.R_drewN|apply Kd.R_drew));exact Kd.R_mono HO117.out (fun _ hk=>hk.1),by repeat (first|(with_reducible first|exact HB.out|apply j1g|apply j1d|apply j1l)|exact HB.out),by repeat (first|(with_reducible first|exact HK.out|apply Kept.alloc|apply Kept.drewN|apply Kept.drew)|exact HK.out)⟩
   replace c16:=Bool.eq_false_iff.mpr c16;subst c16;rw [if_neg (show ¬ (false=true) by decide)] at H;by_cases c22:a1<65536
   ·rw [if_pos c22] at H;have c22b0:decide (a1<65536)=true:=decide_eq_true c22;clear c22;obtain ⟨y118,hy118⟩:∃ y_:List Int,y_=(([(wrap64 (224+(wrap64 (Int.tdiv a1 4096)))) % 256,(wrap64 (128+(Int.tmod (wrap64 (Int.tdiv a1 64)) 64))) % 256,(wrap64 (128+(Int.tmod a1 64))) % 256]:List Int)):=⟨_,rfl⟩;replace H:(if l0.length+y118.length<140737488355328 then (some (l0++y118)) else (none))=some r:=by (have H2_:=(Option.bind_some _ _).symm.trans H;rw [hy118];with_reducible exact H2_)
    have Ny118:=mk0 hy118;clear hy118;by_cases c23:l0.length+y118.length<140737488355328
    rotate_left
    ·rw [if_neg c23] at H;exact absurd H (by simp)
    rw [if_pos c23] at H;have LMc23:=mk0 c23;clear c23;obtain ⟨y121,hy121⟩:∃ y_:List Int,y_=(l0++y118):=⟨_,rfl⟩;replace H:(some y121)=some r:=by (rw [hy121];with_reducible exact H)
    have Ny121:=mk0 hy121;clear hy121;obtain rfl:=Option.some.inj H;go_wp2_with (first|((with_reducible refine j2z (N:=54) rfl ?_);refine Kd.R_lit (Kd.int .u8) _ 5 ?hg (N:=54) ?hd (xs:=([(wrap64 (224+(wrap64 (Int.tdiv a1 4096)))) % 256,(wrap64 (128+(Int.tmod (wrap64 (Int.tdiv a1 64)) 64))) % 256,(wrap64 (128+(Int.tmod a1 64))) % 256]:List Int)) (inner:=[.int .u8 ((wrap64 (224+(wrap64 (Int.tdiv a1 4096)))) % 256), .int .u8 ((wrap64 (128+(Int.tmod (wrap64 (Int.tdiv a1 64)) 64))) % 256), .int .u8 ((wrap64 (128+(Int.tmod a1 64))) % 256)]) (ok:=fun _=>True) (okp:=fun _=>True) ?hr ?hp (fun _ hk=>hk) trivial (Below.refl _ _) (Nat.le_refl _) (by simp) ?_;(case hd=>rfl);(case hg=>rfl);(case hr=>exact zq28);(case hp=>exact (Reps.one (show Kd.M (Kd.int .u8) _ _ _ ((wrap64 (224+(wrap64 (Int.tdiv a1 4096)))) % 256) [.int .u8 ((wrap64 (224+(wrap64 (Int.tdiv a1 4096)))) % 256)] from rfl) (Reps.one (show Kd.M (Kd.int .u8) _ _ _ ((wrap64 (128+(Int.tmod (wrap64 (Int.tdiv a1 64)) 64))) % 256) [.int .u8 ((wrap64 (128+(Int.tmod (wrap64 (Int.tdiv a1 64)) 64))) % 256)] from rfl) (Reps.one (show Kd.M (Kd.int .u8) _ _ _ ((wrap64 (128+(Int.tmod a1 64))) % 256) [.int .u8 ((wrap64 (128+(Int.tmod a1 64))) % 256)] from rfl) (Reps.none _ _)))));intro v119 w24 ho25 hb hg_ hnew_;clear hg_ hnew_;(first|rw [← Ny118.out] at ho25|(simp only [Int.reduceToNat] at ho25;rw [← Ny118.out] at ho25));have HO120:=mk0 (Kd.R_lower (Kd.R_new' (Kd.R_newM (M:=fun k_=>(P0_ k_∨w.heap.size≤k_)) ho25 (by exact HK.out.1) (fun k_ h_ => .inr h_)) (Kd.R_lt zq34)) (j2n zq3));replace HO_0:=mk0 (Kd.R_elder' zq34 (Kd.R_base ho25) hb);replace HK:=mk0 (Kept.below (S:=(fun k_=>P0_ k_)) zq29 hb);replace HB:=mk0 (j1p zq3 hb);clear hb ho25;obtain ⟨Ao27,co27,eo27⟩:=Kd.R_slice HO120.out;subst eo27)|((with_reducible refine j3g (b := .append) (xs:=#[.tmp 40, .tmp 54]) rfl ?_);at_builtin;refine Kd.R_append_rows (Kd.int .u8) (w0:=w0) w0.heap.size rfl (.tmp 40) (.tmp 54) 55 5 (.int .u8 0) 1 rfl Tryd.underlying55 info5 rfl zq47 (by omega) u9000_ l0 y118 _ _ _ (fun k_=>(P0_ k_∨w.heap.size≤k_)∧some k_≠(.slice Ao27 y118.length co27:Value).ownBlock) (fun _=>False) rfl rfl ?aO ?aR (fun _ _ h=>h) (fun _ h=>h.elim) ?aF ?aB ?aS ?aL ?_;(case aR=>repeat (first|exact (Kd.R_reads' HO120.out).2.2|(with_reducible refine Kd.C_alloc ?_ _)|(with_reducible refine Kd.C_drewN ?_ _)|(with_reducible refine Kd.C_drew ?_)));(case aB=>exact zq3);(case aF=>exact (fun k_ hk=>⟨(.inr (Nat.le_trans (by exact HK.out.1) hk)),Kd.fresh' (Kd.R_lt (by (with_reducible repeat (first|apply Kd.R_alloc|apply Kd.R_drewN|apply Kd.R_drew));exact HO120.out)) k_ hk⟩));(case aO=>exact zq34);(case aS=>exact (j2n zq3));(case aL=>have:=LMc23.out;first|omega|(simp only [List.length_cons,List.length_nil] at this ⊢; omega));intro v122 w26 ho hb hg hat;rw [← Ny121.out] at ho;have n0_:=mk0 (Kd.R_after (ok:=(fun k_=>(P0_ k_∨w.heap.size≤k_))) (by (with_reducible repeat (first|apply Kd.R_alloc|apply Kd.R_drewN|apply Kd.R_drew));exact Kd.R_mono HO120.out (fun _ hk=>⟨hk.1.1,hk.2⟩)) hg hat);have n1_:=mk0 (hb);have n2_:=mk0 (Kept.of_grown (S:=(fun k_=>P0_ k_)) hg zq29 (fun k_ e_=>(HO_0.out.1 k_ e_).1));have n3_:=mk0 (ho);clear HO120 HB HK HO_0;have HO120:=n0_;have HB:=n1_;have HK:=n2_;have HO123:=n3_;clear n0_ n1_ n2_ n3_;clear ho hb hg hat))
    go_ret
    exact ⟨_,by rfl,by (with_reducible repeat (first|apply Kd.R_alloc|apply Kd.R_drewN|apply Kd.R_drew));exact Kd.R_mono HO123.out (fun _ hk=>hk.1),by repeat (first|(with_reducible first|exact HB.out|apply j1g|apply j1d|apply j1l)|exact HB.out),by repeat (first|(with_reducible first|exact HK.out|apply Kept.alloc|apply Kept.drewN|apply Kept.drew)|exact HK.out)⟩
   rw [if_neg c22] at H;have c22b0:decide (a1<65536)=false:=decide_eq_false c22;clear c22;obtain ⟨y124,hy124⟩:∃ y_:List Int,y_=(([(wrap64 (240+(wrap64 (Int.tdiv a1 262144)))) % 256,(wrap64 (128+(Int.tmod (wrap64 (Int.tdiv a1 4096)) 64))) % 256,(wrap64 (128+(Int.tmod (wrap64 (Int.tdiv a1 64)) 64))) % 256,(wrap64 (128+(Int.tmod a1 64))) % 256]:List Int)):=⟨_,rfl⟩;replace H:(if l0.length+y124.length<140737488355328 then (some (l0++y124)) else (none))=some r:=by (have H2_:=(Option.bind_some _ _).symm.trans H;rw [hy124];with_reducible exact H2_)
   have Ny124:=mk0 hy124;clear hy124;by_cases c28:l0.length+y124.length<140737488355328
   rotate_left
   ·rw [if_neg c28] at H;exact absurd H (by simp)
   rw [if_pos c28] at H;have LMc28:=mk0 c28;clear c28;obtain ⟨y127,hy127⟩:∃ y_:List Int,y_=(l0++y124):=⟨_,rfl⟩;replace H:(some y127)=some r:=by (rw [hy127];with_reducible exact H)
   have Ny127:=mk0 hy127;clear hy127;obtain rfl:=Option.some.inj H;go_wp2_with (first|((with_reducible refine j2z (N:=75) rfl ?_);refine Kd.R_lit (Kd.int .u8) _ 5 ?hg (N:=75) ?hd (xs:=([(wrap64 (240+(wrap64 (Int.tdiv a1 262144)))) % 256,(wrap64 (128+(Int.tmod (wrap64 (Int.tdiv a1 4096)) 64))) % 256,(wrap64 (128+(Int.tmod (wrap64 (Int.tdiv a1 64)) 64))) % 256,(wrap64 (128+(Int.tmod a1 64))) % 256]:List Int)) (inner:=[.int .u8 ((wrap64 (240+(wrap64 (Int.tdiv a1 262144)))) % 256), .int .u8 ((wrap64 (128+(Int.tmod (wrap64 (Int.tdiv a1 4096)) 64))) % 256), .int .u8 ((wrap64 (128+(Int.tmod (wrap64 (Int.tdiv a1 64)) 64))) % 256), .int .u8 ((wrap64 (128+(Int.tmod a1 64))) % 256)]) (ok:=fun _=>True) (okp:=fun _=>True) ?hr ?hp (fun _ hk=>hk) trivial (Below.refl _ _) (Nat.le_refl _) (by simp) ?_;(case hd=>rfl);(case hg=>rfl);(case hr=>exact zq28);(case hp=>exact (Reps.one (show Kd.M (Kd.int .u8) _ _ _ ((wrap64 (240+(wrap64 (Int.tdiv a1 262144)))) % 256) [.int .u8 ((wrap64 (240+(wrap64 (Int.tdiv a1 262144)))) % 256)] from rfl) (Reps.one (show Kd.M (Kd.int .u8) _ _ _ ((wrap64 (128+(Int.tmod (wrap64 (Int.tdiv a1 4096)) 64))) % 256) [.int .u8 ((wrap64 (128+(Int.tmod (wrap64 (Int.tdiv a1 4096)) 64))) % 256)] from rfl) (Reps.one (show Kd.M (Kd.int .u8) _ _ _ ((wrap64 (128+(Int.tmod (wrap64 (Int.tdiv a1 64)) 64))) % 256) [.int .u8 ((wrap64 (128+(Int.tmod (wrap64 (Int.tdiv a1 64)) 64))) % 256)] from rfl) (Reps.one (show Kd.M (Kd.int .u8) _ _ _ ((wrap64 (128+(Int.tmod a1 64))) % 256) [.int .u8 ((wrap64 (128+(Int.tmod a1 64))) % 256)] from rfl) (Reps.none _ _))))));intro v125 w29 ho30 hb hg_ hnew_;clear hg_ hnew_;(first|rw [← Ny124.out] at ho30|(simp only [Int.reduceToNat] at ho30;rw [← Ny124.out] at ho30));have HO126:=mk0 (Kd.R_lower (Kd.R_new' (Kd.R_newM (M:=fun k_=>(P0_ k_∨w.heap.size≤k_)) ho30 (by exact HK.out.1) (fun k_ h_ => .inr h_)) (Kd.R_lt zq34)) (j2n zq3));replace HO_0:=mk0 (Kd.R_elder' zq34 (Kd.R_base ho30) hb);replace HK:=mk0 (Kept.below (S:=(fun k_=>P0_ k_)) zq29 hb);replace HB:=mk0 (j1p zq3 hb);clear hb ho30;obtain ⟨Ao32,co32,eo32⟩:=Kd.R_slice HO126.out;subst eo32)|((with_reducible refine j3g (b := .append) (xs:=#[.tmp 56, .tmp 75]) rfl ?_);at_builtin;refine Kd.R_append_rows (Kd.int .u8) (w0:=w0) w0.heap.size rfl (.tmp 56) (.tmp 75) 55 5 (.int .u8 0) 1 rfl Tryd.underlying55 info5 rfl zq47 (by omega) u9000_ l0 y124 _ _ _ (fun k_=>(P0_ k_∨w.heap.size≤k_)∧some k_≠(.slice Ao32 y124.length co32:Value).ownBlock) (fun _=>False) rfl rfl ?aO ?aR (fun _ _ h=>h) (fun _ h=>h.elim) ?aF ?aB ?aS ?aL ?_;(case aR=>repeat (first|exact (Kd.R_reads' HO126.out).2.2|(with_reducible refine Kd.C_alloc ?_ _)|(with_reducible refine Kd.C_drewN ?_ _)|(with_reducible refine Kd.C_drew ?_)));(case aB=>exact zq3);(case aF=>exact (fun k_ hk=>⟨(.inr (Nat.le_trans (by exact HK.out.1) hk)),Kd.fresh' (Kd.R_lt (by (with_reducible repeat (first|apply Kd.R_alloc|apply Kd.R_drewN|apply Kd.R_drew));exact HO126.out)) k_ hk⟩));(case aO=>exact zq34);(case aS=>exact (j2n zq3));(case aL=>have:=LMc28.out;first|omega|(simp only [List.length_cons,List.length_nil] at this ⊢; omega));intro v128 w31 ho hb hg hat;rw [← Ny127.out] at ho;have n0_:=mk0 (Kd.R_after (ok:=(fun k_=>(P0_ k_∨w.heap.size≤k_))) (by (with_reducible repeat (first|apply Kd.R_alloc|apply Kd.R_drewN|apply Kd.R_drew));exact Kd.R_mono HO126.out (fun _ hk=>⟨hk.1.1,hk.2⟩)) hg hat);have n1_:=mk0 (hb);have n2_:=mk0 (Kept.of_grown (S:=(fun k_=>P0_ k_)) hg zq29 (fun k_ e_=>(HO_0.out.1 k_ e_).1));have n3_:=mk0 (ho);clear HO126 HB HK HO_0;have HO126:=n0_;have HB:=n1_;have HK:=n2_;have HO129:=n3_;clear n0_ n1_ n2_ n3_;clear ho hb hg hat))
   go_ret
   exact ⟨_,by rfl,by (with_reducible repeat (first|apply Kd.R_alloc|apply Kd.R_drewN|apply Kd.R_drew));exact Kd.R_mono HO129.out (fun _ hk=>hk.1),by repeat (first|(with_reducible first|exact HB.out|apply j1g|apply j1d|apply j1l)|exact HB.out),by repeat (first|(with_reducible first|exact HK.out|apply Kept.alloc|apply Kept.drewN|apply Kept.drew)|exact HK.out)⟩
def j1x.l0 : Nat → List Int→ByteArray→Int→Option (ByteArray)
  | 0,_,_,_=>none
  | k+1,x3,x4,x5=>if x5<(x4.size:Int) then (if 0≤x5 then (if (bt x4 x5)=92 then ((j2c.f k x4 x5).bind fun bt104=>(if bt104.2=true then ((j2c.f k x4 (wrap64 (x5+6))).bind fun bt110=>(if bt110.2=true then ((j3u.f bt104.1).bind fun t112=>(if t112=true then ((j4i.f bt110.1).bind fun t113=>(if t113=true then ((j1z.f k x3 (wrap64 ((wrap64 (65536+(wrap64 ((wrap64 (bt104.1 - 55296))*1024))))+(wrap64 (bt110.1 - 56320))))).bind fun t114=>(j1x.l0 k t114 x4 (wrap64 ((wrap64 (x5+6))+6)))) else ((j1z.f k x3 bt104.1).bind fun t117=>(j1x.l0 k t117 x4 (wrap64 (x5+6)))))) else ((j1z.f k x3 bt104.1).bind fun t120=>(j1x.l0 k t120 x4 (wrap64 (x5+6)))))) else ((j1z.f k x3 bt104.1).bind fun t123=>(j1x.l0 k t123 x4 (wrap64 (x5+6)))))) else (if 0≤(wrap64 (x5+1)) then (if (wrap64 (x5+1))<(x4.size:Int) then ((j4f.f (bt x4 (wrap64 (x5+1)))).bind fun t106=>(if x3.length<140737488355328 then (j1x.l0 k (x3++[t106]) x4 (wrap64 (x5+2))) else (none))) else (none)) else (none)))) else (if x3.length<140737488355328 then (j1x.l0 k (x3++[bt x4 x5]) x4 (wrap64 (x5+1))) else (none))) else (none)) else (some (strOfNums x3))
def j1x.f (k : Nat) (a0:ByteArray):Option (ByteArray):=if 1≤(wrap64 ((a0.size:Int) - 1)) then (if (wrap64 ((a0.size:Int) - 1))≤(a0.size:Int) then (j1x.l0 k ([]:List Int) (a0.extract 1 ((wrap64 ((a0.size:Int) - 1)):Int).toNat) 0) else (none)) else (none)
theorem j1x.mono_l : ∀ k,(∀ y0 y1 y2,LeO (j1x.l0 k y0 y1 y2) (j1x.l0 (k+1) y0 y1 y2))
 | 0=>fun _ _ _ r h=>by simp [j1x.l0] at h
 | k+1=>by
  have ih0:=j1x.mono_l k
  ·intro y0 y1 y2;unfold j1x.l0
   repeat' first
   | (with_reducible exact ih0 _ _ _)
   | (with_reducible exact j1z.mono _ _ _)
   | (with_reducible exact j2c.mono _ _ _)
   | (with_reducible exact LeO.refl _)
   | (with_reducible exact LeO.none _)
   | (with_reducible refine LeO.ite ?_ ?_)
   | (with_reducible refine LeO.bind ?_ (fun _=>?_))
   | exact ih0 _ _ _
   | exact j1z.mono _ _ _
   | exact j2c.mono _ _ _
   | exact LeO.none _
   | refine LeO.ite ?_ ?_
   | refine LeO.bind ?_ (fun _=>?_)
theorem j1x.mono : ∀ a0 k,LeO (j1x.f k a0) (j1x.f (k+1) a0):=by
 intro a0 k;have ih0:=j1x.mono_l k;unfold j1x.f
 repeat' first
  | (with_reducible exact ih0 _ _ _)
  | (with_reducible exact j1z.mono _ _ _)
  | (with_reducible exact j2c.mono _ _ _)
  | (with_reducible exact LeO.refl _)
  | (with_reducible exact LeO.none _)
  | (with_reducible refine LeO.ite ?_ ?_)
  | (with_reducible refine LeO.bind ?_ (fun _=>?_))
  | exact ih0 _ _ _
  | exact j1z.mono _ _ _
  | exact j2c.mono _ _ _
  | exact LeO.none _
  | refine LeO.ite ?_ ?_
  | refine LeO.bind ?_ (fun _=>?_)
set_option maxHeartbeats 8000000 in
set_option maxRecDepth 100000 in
theorem j1x.calls (k : Nat) (a0:ByteArray) (r:ByteArray) (w:World) (h:j1x.f k a0=some r) :
 Calls Tryd.prog 17 #[.string a0] w fun e w'=>e = .returned (.string r)∧Below w.heap.size w w':=by
 have HB:=mk0 (Below.refl w.heap.size w);have H:(if 1≤(wrap64 ((a0.size:Int) - 1)) then (if (wrap64 ((a0.size:Int) - 1))≤(a0.size:Int) then (j1x.l0 k ([]:List Int) (a0.extract 1 ((wrap64 ((a0.size:Int) - 1)):Int).toNat) 0) else (none)) else (none))=some r:=h;clear h;by_cases c2:1≤(wrap64 ((a0.size:Int) - 1))
 rotate_left
 ·rw [if_neg c2] at H;exact absurd H (by simp)
 rw [if_pos c2] at H;have c2b0:=eq_true c2;have c2b1:decide (1≤(wrap64 ((a0.size:Int) - 1)))=true:=decide_eq_true c2;clear c2;by_cases c3:(wrap64 ((a0.size:Int) - 1))≤(a0.size:Int)
 rotate_left
 ·rw [if_neg c3] at H;exact absurd H (by simp)
 rw [if_pos c3] at H;have c3b0:=eq_true c3;have c3b1:decide ((wrap64 ((a0.size:Int) - 1))≤(a0.size:Int))=true:=decide_eq_true c3;clear c3;have H':=mk0 H;clear H;go_enter Tryd.func17,Tryd.ntmps17
 go_wp2
 generalize (a0.extract 1 ((wrap64 ((a0.size:Int) - 1)):Int).toNat)=X_1 at *
 go_loopg [3,5] k (fun kq v3 v5 w'=>∃ (x3_1:List Int) (x5_1:Int),v5 = .int .i64 x5_1∧Aside0 (j1x.l0 kq x3_1 X_1 x5_1=some r)∧Aside0 (kq≤k)∧Aside0 (Kd.R (Kd.int .u8) 5 w' w.heap.size (fun _=>True) v3 x3_1)∧Aside0 (Below w.heap.size w w'))
 case atStart=>exact ⟨(([]:List Int)),(0),(by rfl),H',⟨Nat.le_refl _⟩,⟨by exact Kd.R_nil _ _ _ _ _⟩,⟨by repeat (first|(with_reducible first|exact HB.out|apply j1g|apply j1d|apply j1l)|exact HB.out)⟩⟩
 case round =>
  clear H';clear c2b0 c2b1 c3b0 c3b1;obtain ⟨x3_1,x5_1,rfl,HA,HK1,HO_3,HB⟩:=hrel;cases gk with
  | zero=>exact absurd HA.out (by simp [j1x.l0])
  | succ k1 =>
   have H:=HA.out;clear HA;simp only [j1x.l0] at H;by_cases c4:x5_1<(X_1.size:Int)
   rotate_left
   ·rw [if_neg c4] at H;have c4b0:decide (x5_1<(X_1.size:Int))=false:=decide_eq_false c4;clear c4;obtain rfl:=Option.some.inj H;have hcv38:=own_string (P:=Tryd.prog) Tryd.underlying55 Tryd.underlying5 Tryd.underlying9 (Kd.own_of_R HO_3.out);go_wp2
    go_ret
    exact zl5
   rw [if_pos c4] at H;have c4b0:decide (x5_1<(X_1.size:Int))=true:=decide_eq_true c4;clear c4;by_cases c5:0≤x5_1
   rotate_left
   ·rw [if_neg c5] at H;exact absurd H (by simp)
   rw [if_pos c5] at H;have c5b0:decide (0≤x5_1)=true:=decide_eq_true c5;clear c5;by_cases c7:(bt X_1 x5_1)=92
   rotate_left
   ·rw [if_neg c7] at H;have c7b0:((bt X_1 x5_1) == 92)=false:=beq_eq_false_iff_ne.mpr c7;have c7b1:((bt X_1 x5_1) != 92)=true:=bne_iff_ne.mpr c7;by_cases c36:x3_1.length<140737488355328
    rotate_left
    ·rw [if_neg c36] at H;exact absurd H (by simp)
    rw [if_pos c36] at H;have LMc36:=mk0 c36;clear c36;obtain ⟨y101,hy101⟩:∃ y_:List Int,y_=(x3_1++[bt X_1 x5_1]):=⟨_,rfl⟩;replace H:(j1x.l0 k1 y101 X_1 (wrap64 (x5_1+1)))=some r:=by (rw [hy101];with_reducible exact H)
    have Ny101:=mk0 hy101;clear hy101;have H':=mk0 H;clear H;have p6:0≤(x5_1:Int):=of_decide_eq_true zq16;have q6:x5_1<(X_1.size:Int):=of_decide_eq_true zq16;have hx6:=bt_at X_1 x5_1;replace p6:=eq_true p6;replace q6:=eq_true q6;have p35:0≤(x5_1:Int):=of_decide_eq_true zq16;have q35:x5_1<(X_1.size:Int):=of_decide_eq_true zq16;have hx35:=bt_at X_1 x5_1;replace p35:=eq_true p35;replace q35:=eq_true q35;go_wp2_with (first|((with_reducible refine j3g (b := .append) (xs:=#[.tmp 23, .tmp 27]) rfl ?_);at_builtin;refine Kd.R_append (Kd.int .u8) (w0:=w) w.heap.size rfl (.tmp 23) (.tmp 27) 55 5 (.int .u8 0) 1 rfl Tryd.underlying55 info5 rfl zq47 (by omega) u3 x3_1 (bt X_1 x5_1) [.int .u8 (bt X_1 x5_1)] (fun _=>True) (fun _=>False) rfl rfl ?aP (fun _ hk=>hk.elim) ?aF ?aO ?aB ?aS ?aL ?_;(case aP=>exact rfl);(case aB=>exact zq3);(case aF=>exact (fun _ _=>trivial));(case aO=>exact (by (with_reducible repeat (first|apply Kd.R_alloc|apply Kd.R_drewN|apply Kd.R_drew));exact HO_3.out));(case aS=>exact (j2n zq3));(case aL=>have:=LMc36.out;first|omega|(simp only [List.length_cons,List.length_nil] at this ⊢; omega));intro v102 w37 ho hb hg hat;rw [← Ny101.out] at ho;have n0_:=mk0 (hb);have n1_:=mk0 (ho);clear HB HO_3;have HB:=n0_;have HO103:=n1_;clear n0_ n1_;clear ho hb hg hat))
    go_roundg k1
    case measure=>have:=HK1.out;omega
    case rel=>exact ⟨(y101),(wrap64 (x5_1+1)),(by rfl),H',⟨by have:=HK1.out;omega⟩,⟨by (with_reducible repeat (first|apply Kd.R_alloc|apply Kd.R_drewN|apply Kd.R_drew));exact HO103.out⟩,⟨by repeat (first|(with_reducible first|exact HB.out|apply j1g|apply j1d|apply j1l)|exact HB.out)⟩⟩
   rw [if_pos c7] at H;have c7b0:((bt X_1 x5_1) == 92)=true:=beq_iff_eq.mpr c7;have c7b1:((bt X_1 x5_1) != 92)=false:=bne_eq_false_iff_eq.mpr c7;clear c7;replace H:=Option.bind_eq_some_iff.mp H;obtain ⟨⟨t104,t105⟩,A80,H⟩:=H
   (try dsimp only at H)
   have A8:=mk0 A80;clear A80;by_cases c9:t105=true
   rotate_left
   ·replace c9:=Bool.eq_false_iff.mpr c9;subst c9;rw [if_neg (show ¬ (false=true) by decide)] at H;obtain ⟨ji28,hji28⟩:∃ j_:Int,(wrap64 (x5_1+1))=j_:=⟨_,rfl⟩;replace H:(if 0≤(ji28) then (if (ji28)<(X_1.size:Int) then ((j4f.f (bt X_1 (ji28))).bind fun t106=>(if x3_1.length<140737488355328 then (j1x.l0 k1 (x3_1++[t106]) X_1 (wrap64 (x5_1+2))) else (none))) else (none)) else (none))=some r:=by (rw [hji28] at H;exact H)
    (try rw [hji28] at A8)
    have hji28w:(IntKind.i64.wrap (x5_1+1))=ji28:=(i64_w _).trans hji28;by_cases c29:0≤(ji28)
    rotate_left
    ·rw [if_neg c29] at H;exact absurd H (by simp)
    rw [if_pos c29] at H;have c29b0:decide (0≤(ji28))=true:=decide_eq_true c29;clear c29;by_cases c30:(ji28)<(X_1.size:Int)
    rotate_left
    ·rw [if_neg c30] at H;exact absurd H (by simp)
    rw [if_pos c30] at H;have c30b0:decide ((ji28)<(X_1.size:Int))=true:=decide_eq_true c30;clear c30;replace H:=Option.bind_eq_some_iff.mp H;obtain ⟨t106,A320,H⟩:=H
    (try dsimp only at H)
    have A32:=mk0 A320;clear A320;by_cases c33:x3_1.length<140737488355328
    rotate_left
    ·rw [if_neg c33] at H;exact absurd H (by simp)
    rw [if_pos c33] at H;have LMc33:=mk0 c33;clear c33;obtain ⟨y107,hy107⟩:∃ y_:List Int,y_=(x3_1++[t106]):=⟨_,rfl⟩;replace H:(j1x.l0 k1 y107 X_1 (wrap64 (x5_1+2)))=some r:=by (rw [hy107];with_reducible exact H)
    have Ny107:=mk0 hy107;clear hy107;have H':=mk0 H;clear H;have p6:0≤(x5_1:Int):=of_decide_eq_true zq16;have q6:x5_1<(X_1.size:Int):=of_decide_eq_true zq16;have hx6:=bt_at X_1 x5_1;replace p6:=eq_true p6;replace q6:=eq_true q6;go_wp2_with (first|((with_reducible refine j1u (f:=32) rfl ?_);refine j2p (some 34) rfl rfl Tryd.func32 zq14 rfl #[.string X_1, .int .i64 x5_1] rfl zq1 ?_;(with_reducible refine (j2c.calls k1 X_1 x5_1 t104 false _ A8.out).mono ?_);rintro e w' ⟨rfl,⟨nd,rfl⟩⟩;refine ⟨_,rfl,?_⟩;have p31:0≤((ji28):Int):=of_decide_eq_true zq16;have q31:(ji28)<(X_1.size:Int):=of_decide_eq_true zq16;have hx31:=bt_at X_1 (ji28);replace p31:=eq_true p31;replace q31:=eq_true q31)|((with_reducible refine j1u (f:=33) rfl ?_);refine j2p (some 44) rfl rfl Tryd.func33 zq14 rfl #[.int .u8 (bt X_1 (ji28))] rfl (by (try simp only [List.map_toArray,List.map_cons,List.map_nil]);first|done|(simp only [hji28];rfl)|rfl|(simp only [List.length_drop,List.length_take];rfl)) ?_;(with_reducible refine (j4f.calls (bt X_1 (ji28)) t106 _ A32.out).mono ?_);rintro e w' ⟨rfl,⟨nd,rfl⟩⟩;refine ⟨_,rfl,?_⟩)|((with_reducible refine j3g (b := .append) (xs:=#[.tmp 39, .tmp 45]) rfl ?_);at_builtin;refine Kd.R_append (Kd.int .u8) (w0:=w) w.heap.size rfl (.tmp 39) (.tmp 45) 55 5 (.int .u8 0) 1 rfl Tryd.underlying55 info5 rfl zq47 (by omega) u3 x3_1 t106 [.int .u8 t106] (fun _=>True) (fun _=>False) rfl rfl ?aP (fun _ hk=>hk.elim) ?aF ?aO ?aB ?aS ?aL ?_;(case aP=>exact rfl);(case aB=>exact zq3);(case aF=>exact (fun _ _=>trivial));(case aO=>exact (by (with_reducible repeat (first|apply Kd.R_alloc|apply Kd.R_drewN|apply Kd.R_drew));exact HO_3.out));(case aS=>exact (j2n zq3));(case aL=>have:=LMc33.out;first|omega|(simp only [List.length_cons,List.length_nil] at this ⊢; omega));intro v108 w34 ho hb hg hat;rw [← Ny107.out] at ho;have n0_:=mk0 (hb);have n1_:=mk0 (ho);clear HB HO_3;have HB:=n0_;have HO109:=n1_;clear n0_ n1_;clear ho hb hg hat))
    (try simp only [← hji28])
    go_roundg k1
    case measure=>have:=HK1.out;omega
    case rel=>(try simp only [hji28]);exact ⟨(y107),(wrap64 (x5_1+2)),(by with_reducible rfl),(by exact H'),⟨by have:=HK1.out;omega⟩,⟨by (with_reducible repeat (first|apply Kd.R_alloc|apply Kd.R_drewN|apply Kd.R_drew));exact HO109.out⟩,⟨by repeat (first|(with_reducible first|exact HB.out|apply j1g|apply j1d|apply j1l)|exact HB.out)⟩⟩
   subst c9;rw [if_pos rfl] at H;replace H:=Option.bind_eq_some_iff.mp H;obtain ⟨⟨t110,t111⟩,A100,H⟩:=H
   (try dsimp only at H)
   have A10:=mk0 A100;clear A100;by_cases c11:t111=true
   rotate_left
   ·replace c11:=Bool.eq_false_iff.mpr c11;subst c11;rw [if_neg (show ¬ (false=true) by decide)] at H;replace H:=Option.bind_eq_some_iff.mp H;obtain ⟨t123,A250,H⟩:=H
    (try dsimp only at H)
    have A25:=mk0 A250;clear A250;have H':=mk0 H;clear H;have p6:0≤(x5_1:Int):=of_decide_eq_true zq16;have q6:x5_1<(X_1.size:Int):=of_decide_eq_true zq16;have hx6:=bt_at X_1 x5_1;replace p6:=eq_true p6;replace q6:=eq_true q6;go_wp2_with (first|((with_reducible refine j1u (f:=32) rfl ?_);refine j2p (some 34) rfl rfl Tryd.func32 zq14 rfl #[.string X_1, .int .i64 x5_1] rfl zq1 ?_;(with_reducible refine (j2c.calls k1 X_1 x5_1 t104 true _ A8.out).mono ?_);rintro e w' ⟨rfl,⟨nd,rfl⟩⟩;refine ⟨_,rfl,?_⟩)|((with_reducible refine j1u (f:=32) rfl ?_);refine j2p (some 54) rfl rfl Tryd.func32 zq14 rfl #[.string X_1, .int .i64 (wrap64 (x5_1+6))] rfl zq1 ?_;(with_reducible refine (j2c.calls k1 X_1 (wrap64 (x5_1+6)) t110 false _ A10.out).mono ?_);rintro e w' ⟨rfl,⟨nd,rfl⟩⟩;refine ⟨_,rfl,?_⟩;obtain ⟨Ao26,co26,eo26⟩:=Kd.R_slice HO_3.out;subst eo26)|((with_reducible refine j1u (f:=36) rfl ?_);refine j2p (some 77) rfl rfl Tryd.func36 zq14 rfl #[.slice Ao26 x3_1.length co26, .int .i64 t104] rfl zq1 ?_;(with_reducible refine (j1z.calls k1 (fun k_=>some k_=(.slice Ao26 x3_1.length co26:Value).ownBlock) (.slice Ao26 x3_1.length co26) x3_1 t104 t123 w _ ?side1 ?side2 A25.out).mono ?_);(case side1=>exact zq3);(case side2=>exact Kd.R_tight rfl HO_3.out);rintro e w27 ⟨v124,rfl,ho0,hb,hkp⟩;refine ⟨_,rfl,?_⟩;have n0_:=mk0 (Kd.R_mono (ok':=fun k_=>True) ho0 (fun k_ hk_=>trivial));have n1_:=mk0 (hb);clear HB HO_3;have HO125:=n0_;have HB:=n1_;clear n0_ n1_;clear hb hkp ho0))
    go_roundg k1
    case measure=>have:=HK1.out;omega
    case rel=>exact ⟨(t123),(wrap64 (x5_1+6)),(by rfl),H',⟨by have:=HK1.out;omega⟩,⟨by (with_reducible repeat (first|apply Kd.R_alloc|apply Kd.R_drewN|apply Kd.R_drew));exact HO125.out⟩,⟨by repeat (first|(with_reducible first|exact HB.out|apply j1g|apply j1d|apply j1l)|exact HB.out)⟩⟩
   subst c11;rw [if_pos rfl] at H;replace H:=Option.bind_eq_some_iff.mp H;obtain ⟨t112,A120,H⟩:=H
   (try dsimp only at H)
   have A12:=mk0 A120;clear A120;by_cases c13:t112=true
   rotate_left
   ·replace c13:=Bool.eq_false_iff.mpr c13;subst c13;rw [if_neg (show ¬ (false=true) by decide)] at H;replace H:=Option.bind_eq_some_iff.mp H;obtain ⟨t120,A220,H⟩:=H
    (try dsimp only at H)
    have A22:=mk0 A220;clear A220;have H':=mk0 H;clear H;have p6:0≤(x5_1:Int):=of_decide_eq_true zq16;have q6:x5_1<(X_1.size:Int):=of_decide_eq_true zq16;have hx6:=bt_at X_1 x5_1;replace p6:=eq_true p6;replace q6:=eq_true q6;go_wp2_with (first|((with_reducible refine j1u (f:=32) rfl ?_);refine j2p (some 34) rfl rfl Tryd.func32 zq14 rfl #[.string X_1, .int .i64 x5_1] rfl zq1 ?_;(with_reducible refine (j2c.calls k1 X_1 x5_1 t104 true _ A8.out).mono ?_);rintro e w' ⟨rfl,⟨nd,rfl⟩⟩;refine ⟨_,rfl,?_⟩)|((with_reducible refine j1u (f:=32) rfl ?_);refine j2p (some 54) rfl rfl Tryd.func32 zq14 rfl #[.string X_1, .int .i64 (wrap64 (x5_1+6))] rfl zq1 ?_;(with_reducible refine (j2c.calls k1 X_1 (wrap64 (x5_1+6)) t110 true _ A10.out).mono ?_);rintro e w' ⟨rfl,⟨nd,rfl⟩⟩;refine ⟨_,rfl,?_⟩)|(go_at_call 34;(with_reducible refine (j3u.calls t104 false _ A12.out).mono ?_);rintro e w' ⟨rfl,⟨nd,rfl⟩⟩;obtain ⟨Ao23,co23,eo23⟩:=Kd.R_slice HO_3.out;subst eo23)|((with_reducible refine j1u (f:=36) rfl ?_);refine j2p (some 77) rfl rfl Tryd.func36 zq14 rfl #[.slice Ao23 x3_1.length co23, .int .i64 t104] rfl zq1 ?_;(with_reducible refine (j1z.calls k1 (fun k_=>some k_=(.slice Ao23 x3_1.length co23:Value).ownBlock) (.slice Ao23 x3_1.length co23) x3_1 t104 t120 w _ ?side1 ?side2 A22.out).mono ?_);(case side1=>exact zq3);(case side2=>exact Kd.R_tight rfl HO_3.out);rintro e w24 ⟨v121,rfl,ho0,hb,hkp⟩;refine ⟨_,rfl,?_⟩;have n0_:=mk0 (Kd.R_mono (ok':=fun k_=>True) ho0 (fun k_ hk_=>trivial));have n1_:=mk0 (hb);clear HB HO_3;have HO122:=n0_;have HB:=n1_;clear n0_ n1_;clear hb hkp ho0))
    go_roundg k1
    case measure=>have:=HK1.out;omega
    case rel=>exact ⟨(t120),(wrap64 (x5_1+6)),(by rfl),H',⟨by have:=HK1.out;omega⟩,⟨by (with_reducible repeat (first|apply Kd.R_alloc|apply Kd.R_drewN|apply Kd.R_drew));exact HO122.out⟩,⟨by repeat (first|(with_reducible first|exact HB.out|apply j1g|apply j1d|apply j1l)|exact HB.out)⟩⟩
   subst c13;rw [if_pos rfl] at H;replace H:=Option.bind_eq_some_iff.mp H;obtain ⟨t113,A140,H⟩:=H
   (try dsimp only at H)
   have A14:=mk0 A140;clear A140;by_cases c15:t113=true
   rotate_left
   ·replace c15:=Bool.eq_false_iff.mpr c15;subst c15;rw [if_neg (show ¬ (false=true) by decide)] at H;replace H:=Option.bind_eq_some_iff.mp H;obtain ⟨t117,A190,H⟩:=H
    (try dsimp only at H)
    have A19:=mk0 A190;clear A190;have H':=mk0 H;clear H;have p6:0≤(x5_1:Int):=of_decide_eq_true zq16;have q6:x5_1<(X_1.size:Int):=of_decide_eq_true zq16;have hx6:=bt_at X_1 x5_1;replace p6:=eq_true p6;replace q6:=eq_true q6;go_wp2_with (first|((with_reducible refine j1u (f:=32) rfl ?_);refine j2p (some 34) rfl rfl Tryd.func32 zq14 rfl #[.string X_1, .int .i64 x5_1] rfl zq1 ?_;(with_reducible refine (j2c.calls k1 X_1 x5_1 t104 true _ A8.out).mono ?_);rintro e w' ⟨rfl,⟨nd,rfl⟩⟩;refine ⟨_,rfl,?_⟩)|((with_reducible refine j1u (f:=32) rfl ?_);refine j2p (some 54) rfl rfl Tryd.func32 zq14 rfl #[.string X_1, .int .i64 (wrap64 (x5_1+6))] rfl zq1 ?_;(with_reducible refine (j2c.calls k1 X_1 (wrap64 (x5_1+6)) t110 true _ A10.out).mono ?_);rintro e w' ⟨rfl,⟨nd,rfl⟩⟩;refine ⟨_,rfl,?_⟩)|(go_at_call 34;(with_reducible refine (j3u.calls t104 true _ A12.out).mono ?_);rintro e w' ⟨rfl,⟨nd,rfl⟩⟩)|(go_at_call 35;(with_reducible refine (j4i.calls t110 false _ A14.out).mono ?_);rintro e w' ⟨rfl,⟨nd,rfl⟩⟩;obtain ⟨Ao20,co20,eo20⟩:=Kd.R_slice HO_3.out;subst eo20)|((with_reducible refine j1u (f:=36) rfl ?_);refine j2p (some 77) rfl rfl Tryd.func36 zq14 rfl #[.slice Ao20 x3_1.length co20, .int .i64 t104] rfl zq1 ?_;(with_reducible refine (j1z.calls k1 (fun k_=>some k_=(.slice Ao20 x3_1.length co20:Value).ownBlock) (.slice Ao20 x3_1.length co20) x3_1 t104 t117 w _ ?side1 ?side2 A19.out).mono ?_);(case side1=>exact zq3);(case side2=>exact Kd.R_tight rfl HO_3.out);rintro e w21 ⟨v118,rfl,ho0,hb,hkp⟩;refine ⟨_,rfl,?_⟩;have n0_:=mk0 (Kd.R_mono (ok':=fun k_=>True) ho0 (fun k_ hk_=>trivial));have n1_:=mk0 (hb);clear HB HO_3;have HO119:=n0_;have HB:=n1_;clear n0_ n1_;clear hb hkp ho0))
    go_roundg k1
    case measure=>have:=HK1.out;omega
    case rel=>exact ⟨(t117),(wrap64 (x5_1+6)),(by rfl),H',⟨by have:=HK1.out;omega⟩,⟨by (with_reducible repeat (first|apply Kd.R_alloc|apply Kd.R_drewN|apply Kd.R_drew));exact HO119.out⟩,⟨by repeat (first|(with_reducible first|exact HB.out|apply j1g|apply j1d|apply j1l)|exact HB.out)⟩⟩
   subst c15;rw [if_pos rfl] at H;replace H:=Option.bind_eq_some_iff.mp H;obtain ⟨t114,A160,H⟩:=H
   (try dsimp only at H)
   have A16:=mk0 A160;clear A160;have H':=mk0 H;clear H;have p6:0≤(x5_1:Int):=of_decide_eq_true zq16;have q6:x5_1<(X_1.size:Int):=of_decide_eq_true zq16;have hx6:=bt_at X_1 x5_1;replace p6:=eq_true p6;replace q6:=eq_true q6;go_wp2_with (first|((with_reducible refine j1u (f:=32) rfl ?_);refine j2p (some 34) rfl rfl Tryd.func32 zq14 rfl #[.string X_1, .int .i64 x5_1] rfl zq1 ?_;(with_reducible refine (j2c.calls k1 X_1 x5_1 t104 true _ A8.out).mono ?_);rintro e w' ⟨rfl,⟨nd,rfl⟩⟩;refine ⟨_,rfl,?_⟩)|((with_reducible refine j1u (f:=32) rfl ?_);refine j2p (some 54) rfl rfl Tryd.func32 zq14 rfl #[.string X_1, .int .i64 (wrap64 (x5_1+6))] rfl zq1 ?_;(with_reducible refine (j2c.calls k1 X_1 (wrap64 (x5_1+6)) t110 true _ A10.out).mono ?_);rintro e w' ⟨rfl,⟨nd,rfl⟩⟩;refine ⟨_,rfl,?_⟩)|(go_at_call 34;(with_reducible refine (j3u.calls t104 true _ A12.out).mono ?_);rintro e w' ⟨rfl,⟨nd,rfl⟩⟩)|(go_at_call 35;(with_reducible refine (j4i.calls t110 true _ A14.out).mono ?_);rintro e w' ⟨rfl,⟨nd,rfl⟩⟩;obtain ⟨Ao17,co17,eo17⟩:=Kd.R_slice HO_3.out;subst eo17)|((with_reducible refine j1u (f:=36) rfl ?_);refine j2p (some 77) rfl rfl Tryd.func36 zq14 rfl #[.slice Ao17 x3_1.length co17, .int .i64 (wrap64 ((wrap64 (65536+(wrap64 ((wrap64 (t104 - 55296))*1024))))+(wrap64 (t110 - 56320))))] rfl zq1 ?_;(with_reducible refine (j1z.calls k1 (fun k_=>some k_=(.slice Ao17 x3_1.length co17:Value).ownBlock) (.slice Ao17 x3_1.length co17) x3_1 (wrap64 ((wrap64 (65536+(wrap64 ((wrap64 (t104 - 55296))*1024))))+(wrap64 (t110 - 56320)))) t114 w _ ?side1 ?side2 A16.out).mono ?_);(case side1=>exact zq3);(case side2=>exact Kd.R_tight rfl HO_3.out);rintro e w18 ⟨v115,rfl,ho0,hb,hkp⟩;refine ⟨_,rfl,?_⟩;have n0_:=mk0 (Kd.R_mono (ok':=fun k_=>True) ho0 (fun k_ hk_=>trivial));have n1_:=mk0 (hb);clear HB HO_3;have HO116:=n0_;have HB:=n1_;clear n0_ n1_;clear hb hkp ho0))
   go_roundg k1
   case measure=>have:=HK1.out;omega
   case rel=>exact ⟨(t114),(wrap64 ((wrap64 (x5_1+6))+6)),(by rfl),H',⟨by have:=HK1.out;omega⟩,⟨by (with_reducible repeat (first|apply Kd.R_alloc|apply Kd.R_drewN|apply Kd.R_drew));exact HO116.out⟩,⟨by repeat (first|(with_reducible first|exact HB.out|apply j1g|apply j1d|apply j1l)|exact HB.out)⟩⟩
def j2m.l0 : Nat → ByteArray→ByteArray→Int→Int→Int→Int→List (S49)→List (S27)→Option (Int)
  | 0,_,_,_,_,_,_,_,_=>none
  | k+1,x0,x2,x7,x102000,x102001,x102002,x102003,x102004=>if x7<(x102003.length:Int) then (if 0≤x7 then (if 0≤((j3c x102003 x7).f0) then (if ((j3c x102003 x7).f0)≤((j3c x102003 x7).f1) then (if ((j3c x102003 x7).f1)≤(x0.size:Int) then ((j1x.f k (x0.extract (((j3c x102003 x7).f0):Int).toNat (((j3c x102003 x7).f1):Int).toNat)).bind fun t104=>(if t104.toList=x2.toList then (some x7) else (j2m.l0 k x0 x2 (wrap64 (x7+1)) x102000 x102001 x102002 x102003 x102004))) else (none)) else (none)) else (none)) else (none)) else (some (-1))
def j2m.f (k : Nat) (a0:ByteArray) (a1_0:Int) (a1_1:Int) (a1_2:Int) (l1_3:List (S49)) (l1_4:List (S27)) (a2:ByteArray):Option (Int):=j2m.l0 k a0 a2 0 a1_0 a1_1 a1_2 l1_3 l1_4
theorem j2m.mono_l : ∀ k,(∀ y0 y1 y2 y3 y4 y5 y6 y7,LeO (j2m.l0 k y0 y1 y2 y3 y4 y5 y6 y7) (j2m.l0 (k+1) y0 y1 y2 y3 y4 y5 y6 y7))
 | 0=>fun _ _ _ _ _ _ _ _ r h=>by simp [j2m.l0] at h
 | k+1=>by
  have ih0:=j2m.mono_l k
  ·intro y0 y1 y2 y3 y4 y5 y6 y7;unfold j2m.l0
   repeat' first
   | (with_reducible exact ih0 _ _ _ _ _ _ _ _)
   | (with_reducible exact j1x.mono _ _)
   | (with_reducible exact LeO.refl _)
   | (with_reducible exact LeO.none _)
   | (with_reducible refine LeO.ite ?_ ?_)
   | (with_reducible refine LeO.bind ?_ (fun _=>?_))
   | exact ih0 _ _ _ _ _ _ _ _
   | exact j1x.mono _ _
   | exact LeO.none _
   | refine LeO.ite ?_ ?_
   | refine LeO.bind ?_ (fun _=>?_)
theorem j2m.mono : ∀ a0 a1 a2 a3 a4 a5 a6 k,LeO (j2m.f k a0 a1 a2 a3 a4 a5 a6) (j2m.f (k+1) a0 a1 a2 a3 a4 a5 a6):=by
 intro a0 a1 a2 a3 a4 a5 a6 k;have ih0:=j2m.mono_l k;unfold j2m.f
 repeat' first
  | (with_reducible exact ih0 _ _ _ _ _ _ _ _)
  | (with_reducible exact j1x.mono _ _)
  | (with_reducible exact LeO.refl _)
  | (with_reducible exact LeO.none _)
  | (with_reducible refine LeO.ite ?_ ?_)
  | (with_reducible refine LeO.bind ?_ (fun _=>?_))
  | exact ih0 _ _ _ _ _ _ _ _
  | exact j1x.mono _ _
  | exact LeO.none _
  | refine LeO.ite ?_ ?_
  | refine LeO.bind ?_ (fun _=>?_)
def j2m.T4 : Bool × List (List Nat × List Nat):=(true,[([],[]),([],[]),([1],[1]),([],[]),([2,3],[2,3]),([4],[4]),([5],[5]),([],[]),([7],[7]),([],[]),([8,9],[8,9]),([10],[10]),([11],[11]),([0,6,12],[0,6,12]),([13],[13]),([],[]),([14,15],[14,15])])
def j2m.B4 : List Nat:=[0,0,2,0,14,30,62,0,128,0,896,1920,3968,8191,16383,0,65535]
theorem j2m.tab4 : rtab .any (opsOf Tryd.f40 4)=j2m.T4:=by kernel_rfl
theorem j2m.bits4 : waitsOk j2m.T4.2 j2m.B4=true:=by kernel_rfl
set_option maxHeartbeats 8000000 in
set_option maxRecDepth 100000 in
theorem j2m.calls (k : Nat) (a0:ByteArray) (a1_0:Int) (a1_1:Int) (a1_2:Int) (A1_3:Option Addr) (c1_3:Nat) (l1_3:List (S49)) (A1_4:Option Addr) (c1_4:Nat) (l1_4:List (S27)) (a2:ByteArray) (r:Int) (w:World) (hr1_3:Kd.C k49 w A1_3 l1_3.length l1_3) (hc1_3:l1_3.length≤c1_3) (hr1_4:Kd.C k27 w A1_4 l1_4.length l1_4) (hc1_4:l1_4.length≤c1_4) (h:j2m.f k a0 a1_0 a1_1 a1_2 l1_3 l1_4 a2=some r) :
 Calls Tryd.prog 40 #[.string a0, .agg #[.int .i64 a1_0, .int .i64 a1_1, .int .i64 a1_2, .slice A1_3 l1_3.length c1_3, .slice A1_4 l1_4.length c1_4], .string a2] w fun e w'=>e = .returned (.int .i64 r)∧Below w.heap.size w w':=by
 have hu27:=Tryd.underlying27;have HR1_3:=mk0 hr1_3;have HC1_3:=mk0 hc1_3;clear hr1_3 hc1_3;have HR1_4:=mk0 hr1_4;have HC1_4:=mk0 hc1_4;clear hr1_4 hc1_4;have HB:=mk0 (Below.refl w.heap.size w);have H:(j2m.l0 k a0 a2 0 a1_0 a1_1 a1_2 l1_3 l1_4)=some r:=h;clear h;have H':=mk0 H;clear H;go_enter Tryd.func40,Tryd.ntmps40
 go_wp2_with (first|((with_reducible refine j2z (N:=4) rfl ?_);refine j3e ?hg (N:=4) ?hd (cs:=#[.int .i64 a1_0, .int .i64 a1_1, .int .i64 a1_2, .slice A1_3 l1_3.length c1_3, .slice A1_4 l1_4.length c1_4]) (t:=27) ?hr ?_;(case hd=>rfl);(case hg=>rfl);(case hr=>exact zq28);intro gb101 hg w4 hbox hb;have BK101:=mk0 (hbox);have GW101:=mk0 ((zq39:w.heap.size≤gb101));have GE101:=mk0 ((zq39:w.heap.size≤gb101));replace HB:=mk0 (j1p zq3 hb);clear hb hbox hg))
 (try simp only [Act.put,List.setIfInBounds_toArray,List.set_cons_zero,List.set_cons_succ])
 go_loopg [7] k (fun kq v7 w'=>∃ (x7_1:Int),v7 = .int .i64 x7_1∧Aside0 (j2m.l0 kq a0 a2 x7_1 a1_0 a1_1 a1_2 l1_3 l1_4=some r)∧Aside0 (kq≤k)∧Aside0 (w'.heap[gb101]? = some (.cells #[.int .i64 a1_0, .int .i64 a1_1, .int .i64 a1_2,(.slice A1_3 l1_3.length c1_3),(.slice A1_4 l1_4.length c1_4)] 27 (0,0)))∧Aside0 (Below w.heap.size w w'))
 case atStart=>exact ⟨(0),(by rfl),H',⟨Nat.le_refl _⟩,⟨by (with_reducible repeat (first|refine j1i ?_ _|refine j1m ?_|refine j1e ?_ _));exact BK101.out⟩,⟨by repeat (first|(with_reducible first|exact HB.out|apply j1g|apply j1d|apply j1l|refine j1y ?_ GE101.out)|exact HB.out)⟩⟩
 case round =>
  clear H';obtain ⟨x7_1,rfl,HA,HK1,BK101,HB⟩:=hrel;cases gk with
  | zero=>exact absurd HA.out (by simp [j2m.l0])
  | succ k1 =>
   have H:=HA.out;clear HA;simp only [j2m.l0] at H;by_cases c5:x7_1<(l1_3.length:Int)
   rotate_left
   ·rw [if_neg c5] at H;have c5b0:decide (x7_1<(l1_3.length:Int))=false:=decide_eq_false c5;clear c5;obtain rfl:=Option.some.inj H;have hcz18_0:wr.cell? ⟨gb101,0,none⟩=some (.int .i64 a1_0):=(j1c BK101.out 0).trans rfl;have hcz18_1:wr.cell? ⟨gb101,1,none⟩=some (.int .i64 a1_1):=(j1c BK101.out 1).trans rfl;have hcz18_2:wr.cell? ⟨gb101,2,none⟩=some (.int .i64 a1_2):=(j1c BK101.out 2).trans rfl;have hcz18_3:wr.cell? ⟨gb101,3,none⟩=some (.slice A1_3 l1_3.length c1_3):=(j1c BK101.out 3).trans rfl;have hcz18_4:wr.cell? ⟨gb101,4,none⟩=some (.slice A1_4 l1_4.length c1_4):=(j1c BK101.out 4).trans rfl;have hfz18_0:=j1a BK101.out 0;have hfz18_1:=j1a BK101.out 1;have hfz18_2:=j1a BK101.out 2;have hfz18_3:=j1a BK101.out 3;have hfz18_4:=j1a BK101.out 4;go_wp2
    go_ret
    exact zl14
   rw [if_pos c5] at H;have c5b0:decide (x7_1<(l1_3.length:Int))=true:=decide_eq_true c5;clear c5;by_cases c6:0≤x7_1
   rotate_left
   ·rw [if_neg c6] at H;exact absurd H (by simp)
   rw [if_pos c6] at H;have c6b0:decide (0≤x7_1)=true:=decide_eq_true c6;clear c6;by_cases c7:0≤((j3c l1_3 x7_1).f0)
   rotate_left
   ·rw [if_neg c7] at H;exact absurd H (by simp)
   rw [if_pos c7] at H;have c7b0:=eq_true c7;have c7b1:decide (0≤((j3c l1_3 x7_1).f0))=true:=decide_eq_true c7;clear c7;by_cases c8:((j3c l1_3 x7_1).f0)≤((j3c l1_3 x7_1).f1)
   rotate_left
   ·rw [if_neg c8] at H;exact absurd H (by simp)
   rw [if_pos c8] at H;have c8b0:=eq_true c8;have c8b1:decide (((j3c l1_3 x7_1).f0)≤((j3c l1_3 x7_1).f1))=true:=decide_eq_true c8;clear c8;by_cases c9:((j3c l1_3 x7_1).f1)≤(a0.size:Int)
   rotate_left
   ·rw [if_neg c9] at H;exact absurd H (by simp)
   rw [if_pos c9] at H;have c9b0:=eq_true c9;have c9b1:decide (((j3c l1_3 x7_1).f1)≤(a0.size:Int))=true:=decide_eq_true c9;clear c9;replace H:=Option.bind_eq_some_iff.mp H;obtain ⟨t104,A100,H⟩:=H
   (try dsimp only at H)
   have A10:=mk0 A100;clear A100;have hcz12_0:wr.cell? ⟨gb101,0,none⟩=some (.int .i64 a1_0):=(j1c BK101.out 0).trans rfl;have hcz12_1:wr.cell? ⟨gb101,1,none⟩=some (.int .i64 a1_1):=(j1c BK101.out 1).trans rfl;have hcz12_2:wr.cell? ⟨gb101,2,none⟩=some (.int .i64 a1_2):=(j1c BK101.out 2).trans rfl;have hcz12_3:wr.cell? ⟨gb101,3,none⟩=some (.slice A1_3 l1_3.length c1_3):=(j1c BK101.out 3).trans rfl;have hcz12_4:wr.cell? ⟨gb101,4,none⟩=some (.slice A1_4 l1_4.length c1_4):=(j1c BK101.out 4).trans rfl;have hfz12_0:=j1a BK101.out 0;have hfz12_1:=j1a BK101.out 1;have hfz12_2:=j1a BK101.out 2;have hfz12_3:=j1a BK101.out 3;have hfz12_4:=j1a BK101.out 4
   try go_wp2
   have n0_:=mk0 (j1m BK101.out);have n1_:=mk0 (j1l HB.out);clear BK101 HB;have BK101:=n0_;have HB:=n1_;clear n0_ n1_;have p102:0≤(x7_1:Int):=of_decide_eq_true zq16;have q102:x7_1<(l1_3.length:Int):=of_decide_eq_true zq16;obtain ⟨ad102,e102,hx102_0,hx102_1⟩:=at_T49 HR1_3.out x7_1 p102 q102;have hw102_1:=hx102_1;have hw102_0:=hx102_0;cases e102;replace hx102_0:=(HB.out.cell (World.block_lt_of_cell? w _ hx102_0)).trans hx102_0;replace hx102_1:=(HB.out.cell (World.block_lt_of_cell? w _ hx102_1)).trans hx102_1;replace p102:=eq_true p102;replace q102:=eq_true q102;have p103:0≤(x7_1:Int):=of_decide_eq_true zq16;have q103:x7_1<(l1_3.length:Int):=of_decide_eq_true zq16;obtain ⟨ad103,e103,hx103_0,hx103_1⟩:=at_T49 HR1_3.out x7_1 p103 q103;have hw103_1:=hx103_1;have hw103_0:=hx103_0;obtain rfl:ad102=ad103:=(by injection e103);replace hx103_0:=(HB.out.cell (World.block_lt_of_cell? w _ hx103_0)).trans hx103_0;replace hx103_1:=(HB.out.cell (World.block_lt_of_cell? w _ hx103_1)).trans hx103_1;replace p103:=eq_true p103;replace q103:=eq_true q103;refine j4g (n:=17) (S:=fun w'=>w'.cell? ⟨gb101,0,none⟩=some (.int .i64 a1_0)∧w'.cell? ⟨gb101,1,none⟩=some (.int .i64 a1_1)∧w'.cell? ⟨gb101,2,none⟩=some (.int .i64 a1_2)∧w'.cell? ⟨gb101,3,none⟩=some (.slice (some ad102) l1_3.length c1_3)∧w'.cell? ⟨gb101,4,none⟩=some (.slice A1_4 l1_4.length c1_4)∧w'.cell? (ad102.add ((x7_1).toNat*2))=some (.int .i64 ((j3c l1_3 x7_1).f0))∧w'.cell? ⟨(ad102.add ((x7_1).toNat*2)).block,(ad102.add ((x7_1).toNat*2)).off+1,none⟩=some (.int .i64 ((j3c l1_3 x7_1).f1))∧w'.cell? (ad102.add ((x7_1).toNat*2))=some (.int .i64 ((j3c l1_3 x7_1).f0))∧w'.cell? ⟨(ad102.add ((x7_1).toNat*2)).block,(ad102.add ((x7_1).toNat*2)).off+1,none⟩=some (.int .i64 ((j3c l1_3 x7_1).f1))) (ds:=[]) #[false,false,false,false,false,false,false,false,false,false,false,false,false,false,false,false,false] zq14 rfl rfl ⟨(j1c BK101.out 0).trans rfl,(j1c BK101.out 1).trans rfl,(j1c BK101.out 2).trans rfl,(j1c BK101.out 3).trans rfl,(j1c BK101.out 4).trans rfl,((HB.out.cell (World.block_lt_of_cell? w _ hw102_0)).trans hw102_0),((HB.out.cell (World.block_lt_of_cell? w _ hw102_1)).trans hw102_1),((HB.out.cell (World.block_lt_of_cell? w _ hw103_0)).trans hw103_0),((HB.out.cell (World.block_lt_of_cell? w _ hw103_1)).trans hw103_1)⟩ (fun hHeld=>?_);refine with_tabW j2m.tab4 j2m.bits4 (fun HT_ HW_=>?_)
   generalize wr.drew=w13 at BK101 HB hx102_0 hx102_1 hx103_0 hx103_1 hHeld ⊢
   refine pure_ (i:=0) (N:=some 15) (v:=?_) (a':=?_) #[true,false,false,false,false,false,false,false,false,false,false,false,false,false,false,false,false] rfl rfl (j4b HT_.out zq14) (fun _ _ _ h=>h) (Or.inl ⟨by rfl,?_⟩) ?_ ?_;rotate_left
   ·intro w';go_simp
    exact zl4
   rotate_left
   ·exact zl0
   refine pure_ (i:=1) (N:=some 16) (v:=?_) (a':=?_) #[true,true,false,false,false,false,false,false,false,false,false,false,false,false,false,false,false] rfl rfl (j4b HT_.out zq14) (fun _ _ _ h=>h) (Or.inl ⟨by rfl,?_⟩) ?_ ?_;rotate_left
   ·intro w';go_simp
    exact zl4
   rotate_left
   ·exact zl0
   refine pure_ (i:=3) (N:=some 18) (v:=?_) (a':=?_) #[true,true,false,true,false,false,false,false,false,false,false,false,false,false,false,false,false] rfl rfl (j4b HT_.out zq14) (fun _ _ _ h=>h) (Or.inl ⟨by rfl,?_⟩) ?_ ?_;rotate_left
   ·intro w';go_simp
    exact zl4
   rotate_left
   ·exact zl0
   refine pure_ (i:=7) (N:=some 22) (v:=?_) (a':=?_) #[true,true,false,true,false,false,false,true,false,false,false,false,false,false,false,false,false] rfl rfl (j4b HT_.out zq14) (fun _ _ _ h=>h) (Or.inl ⟨by rfl,?_⟩) ?_ ?_;rotate_left
   ·intro w';go_simp
    exact zl4
   rotate_left
   ·exact zl0
   refine pure_ (i:=9) (N:=some 24) (v:=?_) (a':=?_) #[true,true,false,true,false,false,false,true,false,true,false,false,false,false,false,false,false] rfl rfl (j4b HT_.out zq14) (fun _ _ _ h=>h) (Or.inl ⟨by rfl,?_⟩) ?_ ?_;rotate_left
   ·intro w';go_simp
    exact zl4
   rotate_left
   ·exact zl0
   refine pure_ (i:=15) (N:=some 30) (v:=?_) (a':=?_) #[true,true,false,true,false,false,false,true,false,true,false,false,false,false,false,true,false] rfl rfl (j4b HT_.out zq14) (fun _ _ _ h=>h) (Or.inl ⟨by rfl,?_⟩) ?_ ?_;rotate_left
   ·intro w';go_simp
    exact zl4
   rotate_left
   ·exact zl0
   refine take_ (i:=2) (N:=some 17) (v:=?_) (a':=?_) #[true,true,true,true,false,false,false,true,false,true,false,false,false,false,false,true,false] rfl rfl (take_ofW HT_.out HW_.out zq14) (fun _ _ _ h=>h) (Or.inl ⟨by rfl,?_⟩) hHeld ?_ ?_;rotate_left
   ·rintro w' ⟨s0,s1,s2,s3,s4,s5,s6,s7,s8⟩;go_simp
    exact zl4
   rotate_left
   ·exact zl0
   refine pure_ (i:=4) (N:=some 19) (v:=?_) (a':=?_) #[true,true,true,true,true,false,false,true,false,true,false,false,false,false,false,true,false] rfl rfl (j4b HT_.out zq14) (fun _ _ _ h=>h) (Or.inl ⟨by rfl,?_⟩) ?_ ?_;rotate_left
   ·intro w';go_simp
    exact zl4
   rotate_left
   ·exact zl0
   refine pure_ (i:=5) (N:=some 20) (v:=?_) (a':=?_) #[true,true,true,true,true,true,false,true,false,true,false,false,false,false,false,true,false] rfl rfl (j4b HT_.out zq14) (fun _ _ _ h=>h) (Or.inl ⟨by rfl,?_⟩) ?_ ?_;rotate_left
   ·intro w';go_simp
    exact zl4
   rotate_left
   ·exact zl0
   refine take_ (i:=6) (N:=some 21) (v:=?_) (a':=?_) #[true,true,true,true,true,true,true,true,false,true,false,false,false,false,false,true,false] rfl rfl (take_ofW HT_.out HW_.out zq14) (fun _ _ _ h=>h) (Or.inl ⟨by rfl,?_⟩) hHeld ?_ ?_;rotate_left
   ·rintro w' ⟨s0,s1,s2,s3,s4,s5,s6,s7,s8⟩;go_simp
    exact zl4
   rotate_left
   ·exact zl0
   refine take_ (i:=8) (N:=some 23) (v:=?_) (a':=?_) #[true,true,true,true,true,true,true,true,true,true,false,false,false,false,false,true,false] rfl rfl (take_ofW HT_.out HW_.out zq14) (fun _ _ _ h=>h) (Or.inl ⟨by rfl,?_⟩) hHeld ?_ ?_;rotate_left
   ·rintro w' ⟨s0,s1,s2,s3,s4,s5,s6,s7,s8⟩;go_simp
    exact zl4
   rotate_left
   ·exact zl0
   refine pure_ (i:=10) (N:=some 25) (v:=?_) (a':=?_) #[true,true,true,true,true,true,true,true,true,true,true,false,false,false,false,true,false] rfl rfl (j4b HT_.out zq14) (fun _ _ _ h=>h) (Or.inl ⟨by rfl,?_⟩) ?_ ?_;rotate_left
   ·intro w';go_simp
    exact zl4
   rotate_left
   ·exact zl0
   refine pure_ (i:=11) (N:=some 26) (v:=?_) (a':=?_) #[true,true,true,true,true,true,true,true,true,true,true,true,false,false,false,true,false] rfl rfl (j4b HT_.out zq14) (fun _ _ _ h=>h) (Or.inl ⟨by rfl,?_⟩) ?_ ?_;rotate_left
   ·intro w';go_simp
    exact zl4
   rotate_left
   ·exact zl0
   refine take_ (i:=12) (N:=some 27) (v:=?_) (a':=?_) #[true,true,true,true,true,true,true,true,true,true,true,true,true,false,false,true,false] rfl rfl (take_ofW HT_.out HW_.out zq14) (fun _ _ _ h=>h) (Or.inl ⟨by rfl,?_⟩) hHeld ?_ ?_;rotate_left
   ·rintro w' ⟨s0,s1,s2,s3,s4,s5,s6,s7,s8⟩;go_simp
    exact zl4
   rotate_left
   ·exact zl0
   refine pure_ (i:=13) (N:=some 28) (v:=?_) (a':=?_) #[true,true,true,true,true,true,true,true,true,true,true,true,true,true,false,true,false] rfl rfl (j4b HT_.out zq14) (fun _ _ _ h=>h) (Or.inl ⟨by rfl,?_⟩) ?_ ?_;rotate_left
   ·intro w';go_simp
    exact zl4
   rotate_left
   ·exact zl0
   refine one_ (i:=14) (N:=some 29) #[true,true,true,true,true,true,true,true,true,true,true,true,true,true,true,true,false] rfl rfl (one_of HT_.out zq14) zq47 (fun K hK=>?_);refine goes_ Tryd.func17 zq14 rfl #[.string (a0.extract (((j3c l1_3 x7_1).f0):Int).toNat (((j3c l1_3 x7_1).f1):Int).toNat)] (by rfl) rfl rfl zq1 ?_
   with_reducible refine (j1x.calls k1 (a0.extract (((j3c l1_3 x7_1).f0):Int).toNat (((j3c l1_3 x7_1).f1):Int).toNat) t104 _ A10.out).mono ?_
   rintro e w14 ⟨rfl,hb⟩;refine ⟨_,rfl,?_⟩;have n0_:=mk0 (j3j (g:=gb101) (o := .cells #[.int .i64 a1_0, .int .i64 a1_1, .int .i64 a1_2, .slice (some ad102) l1_3.length c1_3, .slice A1_4 l1_4.length c1_4] 27 (0,0)) zq6 hb);have n1_:=mk0 (j1p zq5 hb);clear BK101 HB;have BK101:=n0_;have HB:=n1_;clear n0_ n1_ hb;refine hK.out _ _ ⟨(j1c BK101.out 0).trans rfl,(j1c BK101.out 1).trans rfl,(j1c BK101.out 2).trans rfl,(j1c BK101.out 3).trans rfl,(j1c BK101.out 4).trans rfl,((HB.out.cell (World.block_lt_of_cell? w _ hw102_0)).trans hw102_0),((HB.out.cell (World.block_lt_of_cell? w _ hw102_1)).trans hw102_1),((HB.out.cell (World.block_lt_of_cell? w _ hw103_0)).trans hw103_0),((HB.out.cell (World.block_lt_of_cell? w _ hw103_1)).trans hw103_1)⟩ (fun hHeld=>?_);clear hK K;refine norm_ (a':=?_) ?_ ?_;rotate_left
   ·show Act.put _ (some 29) _=_
    exact zl0
   refine pure_ (i:=16) (N:=some 31) (v:=?_) (a':=?_) #[true,true,true,true,true,true,true,true,true,true,true,true,true,true,true,true,true] rfl rfl (j4b HT_.out zq14) (fun _ _ _ h=>h) (Or.inl ⟨by rfl,?_⟩) ?_ ?_;rotate_left
   ·intro w';go_simp
    exact zl4
   rotate_left
   ·exact zl0
   refine done_ (done_of HT_.out zq14) ?_;by_cases c11:t104.toList=a2.toList
   ·rw [if_pos c11] at H;have c11b0:(t104.toList == a2.toList)=true:=beq_iff_eq.mpr c11;have c11b1:(t104.toList != a2.toList)=false:=bne_eq_false_iff_eq.mpr c11;clear c11;obtain rfl:=Option.some.inj H
    (try simp only [c11b0])
    try go_wp2
    go_ret
    exact zl14
   rw [if_neg c11] at H;have c11b0:(t104.toList == a2.toList)=false:=beq_eq_false_iff_ne.mpr c11;have c11b1:(t104.toList != a2.toList)=true:=bne_iff_ne.mpr c11;have H':=mk0 H;clear H
   (try simp only [c11b0])
   try go_wp2
   go_roundg k1
   case measure=>have:=HK1.out;omega
   case rel=>exact ⟨(wrap64 (x7_1+1)),(by rfl),H',⟨by have:=HK1.out;omega⟩,⟨by (with_reducible repeat (first|refine j1i ?_ _|refine j1m ?_|refine j1e ?_ _));exact BK101.out⟩,⟨by repeat (first|(with_reducible first|exact HB.out|apply j1g|apply j1d|apply j1l|refine j1y ?_ GE101.out)|exact HB.out)⟩⟩
mutual
def j2d.j0 : Nat → ByteArray→Bool→Option (Int × Bool)
  | 0,_,_=>none
  | k+1,x0,x18=>if x18=true then (some (0,false)) else (j2d.l0 k x0 0 0)
def j2d.l0 : Nat → ByteArray→Int→Int→Option (Int × Bool)
  | 0,_,_,_=>none
  | k+1,x0,x4,x5=>if x5<(x0.size:Int) then (if 0≤x5 then (if (bt x0 x5)<48 then (j2d.j2 k x0 x4 x5 (bt x0 x5) true) else (j2d.j2 k x0 x4 x5 (bt x0 x5) (decide ((bt x0 x5)>57)))) else (none)) else (some (x4,true))
def j2d.j2 : Nat → ByteArray→Int→Int→Int→Bool→Option (Int × Bool)
  | 0,_,_,_,_,_=>none
  | k+1,x0,x4,x5,x6,x33=>if x33=true then (some (0,false)) else (if x4<288230376151711744 then (j2d.l0 k x0 (wrap64 ((wrap64 (x4*10))+((x6 - 48) % 256))) (wrap64 (x5+1))) else (j2d.l0 k x0 4611686018427387904 (wrap64 (x5+1))))
end
def j2d.f (k : Nat) (a0:ByteArray):Option (Int × Bool):=if a0.toList=([]:List UInt8) then (j2d.j0 k a0 true) else (if (a0.size:Int)>1 then (if 0<(a0.size:Int) then (j2d.j0 k a0 ((bt a0 0) == 48)) else (none)) else (j2d.j0 k a0 false))
theorem j2d.mono_l : ∀ k,(∀ y0 y1,LeO (j2d.j0 k y0 y1) (j2d.j0 (k+1) y0 y1))∧(∀ y0 y1 y2,LeO (j2d.l0 k y0 y1 y2) (j2d.l0 (k+1) y0 y1 y2))∧(∀ y0 y1 y2 y3 y4,LeO (j2d.j2 k y0 y1 y2 y3 y4) (j2d.j2 (k+1) y0 y1 y2 y3 y4))
 | 0=>⟨fun _ _ r h=>by simp [j2d.j0] at h,fun _ _ _ r h=>by simp [j2d.l0] at h,fun _ _ _ _ _ r h=>by simp [j2d.j2] at h⟩
 | k+1=>by
  obtain ⟨ih0,ih1,ih2⟩:=j2d.mono_l k;refine ⟨?_,?_,?_⟩
  ·intro y0 y1;unfold j2d.j0
   repeat' first
   | (with_reducible exact ih0 _ _)
   | (with_reducible exact ih1 _ _ _)
   | (with_reducible exact ih2 _ _ _ _ _)
   | (with_reducible exact LeO.refl _)
   | (with_reducible exact LeO.none _)
   | (with_reducible refine LeO.ite ?_ ?_)
   | (with_reducible refine LeO.bind ?_ (fun _=>?_))
   | exact ih0 _ _
   | exact ih1 _ _ _
   | exact ih2 _ _ _ _ _
   | exact LeO.none _
   | refine LeO.ite ?_ ?_
   | refine LeO.bind ?_ (fun _=>?_)
  ·intro y0 y1 y2;unfold j2d.l0
   repeat' first
   | (with_reducible exact ih0 _ _)
   | (with_reducible exact ih1 _ _ _)
   | (with_reducible exact ih2 _ _ _ _ _)
   | (with_reducible exact LeO.refl _)
   | (with_reducible exact LeO.none _)
   | (with_reducible refine LeO.ite ?_ ?_)
   | (with_reducible refine LeO.bind ?_ (fun _=>?_))
   | exact ih0 _ _
   | exact ih1 _ _ _
   | exact ih2 _ _ _ _ _
   | exact LeO.none _
   | refine LeO.ite ?_ ?_
   | refine LeO.bind ?_ (fun _=>?_)
  ·intro y0 y1 y2 y3 y4;unfold j2d.j2
   repeat' first
   | (with_reducible exact ih0 _ _)
   | (with_reducible exact ih1 _ _ _)
   | (with_reducible exact ih2 _ _ _ _ _)
   | (with_reducible exact LeO.refl _)
   | (with_reducible exact LeO.none _)
   | (with_reducible refine LeO.ite ?_ ?_)
   | (with_reducible refine LeO.bind ?_ (fun _=>?_))
   | exact ih0 _ _
   | exact ih1 _ _ _
   | exact ih2 _ _ _ _ _
   | exact LeO.none _
   | refine LeO.ite ?_ ?_
   | refine LeO.bind ?_ (fun _=>?_)
theorem j2d.mono : ∀ a0 k,LeO (j2d.f k a0) (j2d.f (k+1) a0):=by
 intro a0 k;obtain ⟨ih0,ih1,ih2⟩:=j2d.mono_l k;unfold j2d.f
 repeat' first
  | (with_reducible exact ih0 _ _)
  | (with_reducible exact ih1 _ _ _)
  | (with_reducible exact ih2 _ _ _ _ _)
  | (with_reducible exact LeO.refl _)
  | (with_reducible exact LeO.none _)
  | (with_reducible refine LeO.ite ?_ ?_)
  | (with_reducible refine LeO.bind ?_ (fun _=>?_))
  | exact ih0 _ _
  | exact ih1 _ _ _
  | exact ih2 _ _ _ _ _
  | exact LeO.none _
  | refine LeO.ite ?_ ?_
  | refine LeO.bind ?_ (fun _=>?_)
set_option maxHeartbeats 8000000 in
set_option maxRecDepth 100000 in
theorem j2d.calls (k : Nat) (a0:ByteArray) (r1:Int) (r2:Bool) (w:World) (h:j2d.f k a0=some (r1,r2)) :
 Calls Tryd.prog 52 #[.string a0] w fun e w'=>e = .returned (.tuple #[.int .i64 r1, .bool r2])∧Drawn0 w w':=by
 have H:(if a0.toList=([]:List UInt8) then (j2d.j0 k a0 true) else (if (a0.size:Int)>1 then (if 0<(a0.size:Int) then (j2d.j0 k a0 ((bt a0 0) == 48)) else (none)) else (j2d.j0 k a0 false)))=some (r1,r2):=h;clear h;have HC2:=mk0 H;clear H;go_enter Tryd.func52,Tryd.ntmps52
 go_upto_region 1 with (fail)
 go_cut [18] (fun v18 wc=>∃ (kq:Nat) (x18_1:Bool),v18 = .bool x18_1∧Aside0 (j2d.j0 kq a0 x18_1=some (r1,r2))∧Aside0 (kq≤k)∧Drawn0 w wc)
 case first =>
  have H:=HC2.out;clear HC2;by_cases c3:a0.toList=([]:List UInt8)
  ·rw [if_pos c3] at H;have c3b0:(a0.toList == ([]:List UInt8))=true:=beq_iff_eq.mpr c3;have c3b1:(a0.toList != ([]:List UInt8))=false:=bne_eq_false_iff_eq.mpr c3;clear c3
   (skip)
   have H':=mk0 H;clear H;go_wp2
   go_meet
   case rel=>exact ⟨_,(true),(by rfl),H',⟨by omega⟩,by repeat (first|exact Drawn0.refl _|apply Drawn0.step)⟩
  rw [if_neg c3] at H;have c3b0:(a0.toList == ([]:List UInt8))=false:=beq_eq_false_iff_ne.mpr c3;have c3b1:(a0.toList != ([]:List UInt8))=true:=bne_iff_ne.mpr c3
  (skip)
  by_cases c4:(a0.size:Int)>1
  rotate_left
  ·rw [if_neg c4] at H;have c4b0:decide (1<(a0.size:Int))=false:=decide_eq_false c4;have c4b1:decide (1<a0.size)=false:=decide_eq_false (by omega);clear c4;have H':=mk0 H;clear H;go_wp2
   go_meet
   case rel=>exact ⟨_,(false),(by rfl),H',⟨by omega⟩,by repeat (first|exact Drawn0.refl _|apply Drawn0.step)⟩
  rw [if_pos c4] at H;have c4b0:decide (1<(a0.size:Int))=true:=decide_eq_true c4;have c4b1:decide (1<a0.size)=true:=decide_eq_true (by omega);clear c4;by_cases c5:0<(a0.size:Int)
  rotate_left
  ·rw [if_neg c5] at H;exact absurd H (by simp)
  rw [if_pos c5] at H;have c5b0:decide (0<(a0.size:Int))=true:=decide_eq_true c5;have c5b1:decide (0<a0.size)=true:=decide_eq_true (by omega);clear c5;have H':=mk0 H;clear H;have p6:0≤(0:Int):=(by omega);have q6:0<a0.size:=(by have:(0:Int)<(a0.size:Int):=of_decide_eq_true zq16;omega);have hx6:∀ h:0<a0.size,((a0[0]'h).toNat:Int)=bt a0 0:=bt_at a0 0;clear p6;have qi6:(0<(a0.size:Int))=True:=eq_true (of_decide_eq_true zq16);replace q6:=eq_true q6;go_wp2
  go_meet
  case rel=>exact ⟨_,(((bt a0 0) == 48)),(by rfl),H',⟨by omega⟩,by repeat (first|exact Drawn0.refl _|apply Drawn0.step)⟩
 case rest =>
  clear HC2;obtain ⟨kq,x18_1,rfl,HA,HJ1,⟨mc1,rfl⟩⟩:=hcut;cases kq with
  | zero=>exact absurd HA.out (by simp [j2d.j0])
  | succ kj1 =>
   have H:=HA.out;clear HA;simp only [j2d.j0] at H;by_cases c7:x18_1=true
   ·subst c7;rw [if_pos rfl] at H;simp only [Option.some.injEq,Prod.mk.injEq] at H;obtain ⟨rfl,rfl⟩:=H;go_wp2
    go_ret2
    exact zl6
   replace c7:=Bool.eq_false_iff.mpr c7;subst c7;rw [if_neg (show ¬ (false=true) by decide)] at H;have H':=mk0 H;clear H;go_wp2
   go_loopg [4,5] kj1 (fun kq v4 v5 w'=>∃ (x4_2:Int) (x5_2:Int),v4 = .int .i64 x4_2∧v5 = .int .i64 x5_2∧Aside0 (j2d.l0 kq a0 x4_2 x5_2=some (r1,r2))∧Aside0 (kq≤kj1)∧Drawn0 w w')
   case atStart=>exact ⟨(0),(0),(by rfl),(by rfl),H',⟨Nat.le_refl _⟩,by repeat (first|exact Drawn0.refl _|apply Drawn0.step)⟩
   case round =>
    clear H';obtain ⟨x4_2,x5_2,rfl,rfl,HA,HK2,⟨m2,rfl⟩⟩:=hrel;cases gk with
    | zero=>exact absurd HA.out (by simp [j2d.l0])
    | succ k2 =>
     have H:=HA.out;clear HA;simp only [j2d.l0] at H;by_cases c8:x5_2<(a0.size:Int)
     rotate_left
     ·rw [if_neg c8] at H;have c8b0:decide (x5_2<(a0.size:Int))=false:=decide_eq_false c8;clear c8;simp only [Option.some.injEq,Prod.mk.injEq] at H;obtain ⟨rfl,rfl⟩:=H;go_wp2
      go_ret2
      exact zl6
     rw [if_pos c8] at H;have c8b0:decide (x5_2<(a0.size:Int))=true:=decide_eq_true c8;clear c8;by_cases c9:0≤x5_2
     rotate_left
     ·rw [if_neg c9] at H;exact absurd H (by simp)
     rw [if_pos c9] at H;have c9b0:decide (0≤x5_2)=true:=decide_eq_true c9;clear c9;have HC11:=mk0 H;clear H;have p10:0≤(x5_2:Int):=of_decide_eq_true zq16;have q10:x5_2<(a0.size:Int):=of_decide_eq_true zq16;have hx10:=bt_at a0 x5_2;replace p10:=eq_true p10;replace q10:=eq_true q10;go_upto_region 8 with (fail)
     go_cut [33] (fun v33 wc=>∃ (kq:Nat) (x33_10:Bool),v33 = .bool x33_10∧Aside0 (j2d.j2 kq a0 x4_2 x5_2 (bt a0 x5_2) x33_10=some (r1,r2))∧Aside0 (kq≤k2)∧Drawn0 w wc)
     case first =>
      have H:=HC11.out;clear HC11;by_cases c12:(bt a0 x5_2)<48
      ·rw [if_pos c12] at H;have c12b0:decide ((bt a0 x5_2)<48)=true:=decide_eq_true c12;clear c12
       (skip)
       have H':=mk0 H;clear H;go_wp2
       go_meet
       case rel=>exact ⟨_,(true),(by rfl),H',⟨by have:=HJ1.out;have:=HK2.out;first|omega|exact Nat.le_refl _⟩,by repeat (first|exact Drawn0.refl _|apply Drawn0.step)⟩
      rw [if_neg c12] at H;have c12b0:decide ((bt a0 x5_2)<48)=false:=decide_eq_false c12;clear c12
      (skip)
      have H':=mk0 H;clear H;go_wp2
      go_meet
      case rel=>exact ⟨_,(decide ((bt a0 x5_2)>57)),(by rfl),H',⟨by have:=HJ1.out;have:=HK2.out;first|omega|exact Nat.le_refl _⟩,by repeat (first|exact Drawn0.refl _|apply Drawn0.step)⟩
     case rest =>
      clear HC11 c8b0 c9b0 p10 q10 hx10;obtain ⟨kq,x33_10,rfl,HA,HJ10,⟨mc10,rfl⟩⟩:=hcut;cases kq with
      | zero=>exact absurd HA.out (by simp [j2d.j2])
      | succ kj10 =>
       have H:=HA.out;clear HA;simp only [j2d.j2] at H;by_cases c13:x33_10=true
       ·subst c13;rw [if_pos rfl] at H;simp only [Option.some.injEq,Prod.mk.injEq] at H;obtain ⟨rfl,rfl⟩:=H;go_wp2
        go_ret2
        exact zl6
       replace c13:=Bool.eq_false_iff.mpr c13;subst c13;rw [if_neg (show ¬ (false=true) by decide)] at H;by_cases c14:x4_2<288230376151711744
       rotate_left
       ·rw [if_neg c14] at H;have c14b0:decide (x4_2<288230376151711744)=false:=decide_eq_false c14;clear c14;have H':=mk0 H;clear H;go_wp2
        go_roundg kj10
        case measure=>have:=HJ1.out;have:=HK2.out;have:=HJ10.out;omega
        case rel=>exact ⟨(4611686018427387904),(wrap64 (x5_2+1)),(by rfl),(by rfl),H',⟨by have:=HJ1.out;have:=HK2.out;have:=HJ10.out;omega⟩,by repeat (first|exact Drawn0.refl _|apply Drawn0.step)⟩
       rw [if_pos c14] at H;have c14b0:decide (x4_2<288230376151711744)=true:=decide_eq_true c14;clear c14;have H':=mk0 H;clear H;go_wp2
       go_roundg kj10
       case measure=>have:=HJ1.out;have:=HK2.out;have:=HJ10.out;omega
       case rel=>exact ⟨(wrap64 ((wrap64 (x4_2*10))+(((bt a0 x5_2) - 48) % 256))),(wrap64 (x5_2+1)),(by rfl),(by rfl),H',⟨by have:=HJ1.out;have:=HK2.out;have:=HJ10.out;omega⟩,by repeat (first|exact Drawn0.refl _|apply Drawn0.step)⟩
def j3i.f (k : Nat) (a0:ByteArray):Option (Int × Bool):=if (a0.size:Int)<3 then (some (0,false)) else (if 0<(a0.size:Int) then (if (bt a0 0)=91 then (if 0≤(wrap64 ((a0.size:Int) - 1)) then (if (wrap64 ((a0.size:Int) - 1))<(a0.size:Int) then (if (bt a0 (wrap64 ((a0.size:Int) - 1)))=93 then (if 1≤(wrap64 ((a0.size:Int) - 1)) then (if (wrap64 ((a0.size:Int) - 1))≤(a0.size:Int) then ((j2d.f k (a0.extract 1 ((wrap64 ((a0.size:Int) - 1)):Int).toNat)).bind fun bt101=>(some (bt101.1,bt101.2))) else (none)) else (none)) else (some (0,false))) else (none)) else (none)) else (some (0,false))) else (none))
theorem j3i.mono : ∀ a0 k,LeO (j3i.f k a0) (j3i.f (k+1) a0):=by
 intro a0 k;unfold j3i.f
 repeat' first
  | (with_reducible exact j2d.mono _ _)
  | (with_reducible exact LeO.refl _)
  | (with_reducible exact LeO.none _)
  | (with_reducible refine LeO.ite ?_ ?_)
  | (with_reducible refine LeO.bind ?_ (fun _=>?_))
  | exact j2d.mono _ _
  | exact LeO.none _
  | refine LeO.ite ?_ ?_
  | refine LeO.bind ?_ (fun _=>?_)
set_option maxHeartbeats 8000000 in
set_option maxRecDepth 100000 in
theorem j3i.calls (k : Nat) (a0:ByteArray) (r1:Int) (r2:Bool) (w:World) (h:j3i.f k a0=some (r1,r2)) :
 Calls Tryd.prog 41 #[.string a0] w fun e w'=>e = .returned (.tuple #[.int .i64 r1, .bool r2])∧Drawn0 w w':=by
 have H:(if (a0.size:Int)<3 then (some (0,false)) else (if 0<(a0.size:Int) then (if (bt a0 0)=91 then (if 0≤(wrap64 ((a0.size:Int) - 1)) then (if (wrap64 ((a0.size:Int) - 1))<(a0.size:Int) then (if (bt a0 (wrap64 ((a0.size:Int) - 1)))=93 then (if 1≤(wrap64 ((a0.size:Int) - 1)) then (if (wrap64 ((a0.size:Int) - 1))≤(a0.size:Int) then ((j2d.f k (a0.extract 1 ((wrap64 ((a0.size:Int) - 1)):Int).toNat)).bind fun bt101=>(some (bt101.1,bt101.2))) else (none)) else (none)) else (some (0,false))) else (none)) else (none)) else (some (0,false))) else (none)))=some (r1,r2):=h;clear h;by_cases c2:(a0.size:Int)<3
 ·rw [if_pos c2] at H;have c2b0:decide ((a0.size:Int)<3)=true:=decide_eq_true c2;have c2b1:decide (a0.size<3)=true:=decide_eq_true (by omega);clear c2;simp only [Option.some.injEq,Prod.mk.injEq] at H;obtain ⟨rfl,rfl⟩:=H;go_enter Tryd.func41,Tryd.ntmps41
  go_wp2
  go_ret2
  exact zl3
 rw [if_neg c2] at H;have c2b0:decide ((a0.size:Int)<3)=false:=decide_eq_false c2;have c2b1:decide (a0.size<3)=false:=decide_eq_false (by omega);clear c2;by_cases c3:0<(a0.size:Int)
 rotate_left
 ·rw [if_neg c3] at H;exact absurd H (by simp)
 rw [if_pos c3] at H;have c3b0:decide (0<(a0.size:Int))=true:=decide_eq_true c3;have c3b1:decide (0<a0.size)=true:=decide_eq_true (by omega);clear c3;by_cases c5:(bt a0 0)=91
 rotate_left
 ·rw [if_neg c5] at H;have c5b0:((bt a0 0) == 91)=false:=beq_eq_false_iff_ne.mpr c5;have c5b1:((bt a0 0) != 91)=true:=bne_iff_ne.mpr c5;simp only [Option.some.injEq,Prod.mk.injEq] at H;obtain ⟨rfl,rfl⟩:=H;have p4:0≤(0:Int):=(by omega);have q4:0<a0.size:=(by have:(0:Int)<(a0.size:Int):=of_decide_eq_true zq25;omega);have hx4:∀ h:0<a0.size,((a0[0]'h).toNat:Int)=bt a0 0:=bt_at a0 0;clear p4;have qi4:(0<(a0.size:Int))=True:=eq_true (of_decide_eq_true zq25);replace q4:=eq_true q4;go_enter Tryd.func41,Tryd.ntmps41
  go_wp2
  go_ret2
  exact zl3
 rw [if_pos c5] at H;have c5b0:((bt a0 0) == 91)=true:=beq_iff_eq.mpr c5;have c5b1:((bt a0 0) != 91)=false:=bne_eq_false_iff_eq.mpr c5;clear c5;obtain ⟨ji6,hji6⟩:∃ j_:Int,(wrap64 ((a0.size:Int) - 1))=j_:=⟨_,rfl⟩;replace H:(if 0≤(ji6) then (if (ji6)<(a0.size:Int) then (if (bt a0 (ji6))=93 then (if 1≤(ji6) then (if (ji6)≤(a0.size:Int) then ((j2d.f k (a0.extract 1 ((ji6):Int).toNat)).bind fun bt101=>(some (bt101.1,bt101.2))) else (none)) else (none)) else (some (0,false))) else (none)) else (none))=some (r1,r2):=by first|(rw [hji6] at H;exact H)|(simp only [hji6] at H ⊢; exact H)
 have hji6w:(IntKind.i64.wrap ((a0.size:Int) - 1))=ji6:=(i64_w _).trans hji6;by_cases c7:0≤(ji6)
 rotate_left
 ·rw [if_neg c7] at H;exact absurd H (by simp)
 rw [if_pos c7] at H;have c7b0:decide (0≤(ji6))=true:=decide_eq_true c7;clear c7;by_cases c8:(ji6)<(a0.size:Int)
 rotate_left
 ·rw [if_neg c8] at H;exact absurd H (by simp)
 rw [if_pos c8] at H;have c8b0:decide ((ji6)<(a0.size:Int))=true:=decide_eq_true c8;clear c8;by_cases c10:(bt a0 (ji6))=93
 rotate_left
 ·rw [if_neg c10] at H;have c10b0:((bt a0 (ji6)) == 93)=false:=beq_eq_false_iff_ne.mpr c10;have c10b1:((bt a0 (ji6)) != 93)=true:=bne_iff_ne.mpr c10;simp only [Option.some.injEq,Prod.mk.injEq] at H;obtain ⟨rfl,rfl⟩:=H;have p4:0≤(0:Int):=(by omega);have q4:0<a0.size:=(by have:(0:Int)<(a0.size:Int):=of_decide_eq_true zq25;omega);have hx4:∀ h:0<a0.size,((a0[0]'h).toNat:Int)=bt a0 0:=bt_at a0 0;clear p4;have qi4:(0<(a0.size:Int))=True:=eq_true (of_decide_eq_true zq25);replace q4:=eq_true q4;have p9:0≤((ji6):Int):=of_decide_eq_true zq25;have q9:(ji6)<(a0.size:Int):=of_decide_eq_true zq25;have hx9:=bt_at a0 (ji6);replace p9:=eq_true p9;replace q9:=eq_true q9;go_enter Tryd.func41,Tryd.ntmps41
  go_wp2
  go_ret2
  exact zl15
 rw [if_pos c10] at H;have c10b0:((bt a0 (ji6)) == 93)=true:=beq_iff_eq.mpr c10;have c10b1:((bt a0 (ji6)) != 93)=false:=bne_eq_false_iff_eq.mpr c10;clear c10;by_cases c11:1≤(ji6)
 rotate_left
 ·rw [if_neg c11] at H;exact absurd H (by simp)
 rw [if_pos c11] at H;have c11b0:=eq_true c11;have c11b1:decide (1≤(ji6))=true:=decide_eq_true c11;clear c11;by_cases c12:(ji6)≤(a0.size:Int)
 rotate_left
 ·rw [if_neg c12] at H;exact absurd H (by simp)
 rw [if_pos c12] at H;have c12b0:=eq_true c12;have c12b1:decide ((ji6)≤(a0.size:Int))=true:=decide_eq_true c12;clear c12;replace H:=Option.bind_eq_some_iff.mp H;obtain ⟨⟨t101,t102⟩,A130,H⟩:=H;replace H:(some (t101,t102))=some (r1,r2):=H;have A13:=mk0 A130;clear A130;simp only [Option.some.injEq,Prod.mk.injEq] at H;obtain ⟨rfl,rfl⟩:=H;have p4:0≤(0:Int):=(by omega);have q4:0<a0.size:=(by have:(0:Int)<(a0.size:Int):=of_decide_eq_true zq25;omega);have hx4:∀ h:0<a0.size,((a0[0]'h).toNat:Int)=bt a0 0:=bt_at a0 0;clear p4;have qi4:(0<(a0.size:Int))=True:=eq_true (of_decide_eq_true zq25);replace q4:=eq_true q4;have p9:0≤((ji6):Int):=of_decide_eq_true zq25;have q9:(ji6)<(a0.size:Int):=of_decide_eq_true zq25;have hx9:=bt_at a0 (ji6);replace p9:=eq_true p9;replace q9:=eq_true q9;go_enter Tryd.func41,Tryd.ntmps41
 go_wp2_with (first|((with_reducible refine j1u (f:=52) rfl ?_);refine j2p (some 25) rfl rfl Tryd.func52 zq14 rfl #[.string (a0.extract 1 ((ji6):Int).toNat)] rfl (by (try simp only [List.map_toArray,List.map_cons,List.map_nil]);first|done|(simp only [hji6];rfl)|rfl|(simp only [List.length_drop,List.length_take];rfl)) ?_;(with_reducible refine (j2d.calls k (a0.extract 1 ((ji6):Int).toNat) t101 t102 _ A13.out).mono ?_);rintro e w' ⟨rfl,⟨nd,rfl⟩⟩;refine ⟨_,rfl,?_⟩))
 go_ret2
 exact zl15
end Go.Proofs.YthmjfmpgmcgonaaDoor.K
end
