/- The words, walks and laws that the proof rests on, laid together (part 2). -/
import Derived.Test.YtchhndbekjgimaaDoorKFnGjQuoteParse1
section
namespace Go.Proofs.YtchhndbekjgimaaDoor.H
open Go.RowKit Go.Proofs.YtchhndbekjgimaaDoorW.PrintWords Go.Proofs.YtchhndbekjgimaaDoorW.PrintLast Go.Proofs.YtchhndbekjgimaaDoorW.PrintMore
attribute [local go_sem] max2_int min2_int max_two min_two max_three min_three max_four min_four
set_option linter.unusedVariables false
set_option linter.unusedSimpArgs false
mutual
def j1a.l0 : Nat → List Int→ByteArray→Int→Option (List Int)
  | 0,_,_,_=>none
  | k+1,x0,x1,x5=>if x5<(x1.size:Int) then (if 0≤x5 then (if (bt x1 x5)<32 then (if x0.length<140737488355328 then ((some (x0++[92]:List Int)).bind fun y113=>(if (bt x1 x5)=8 then (if y113.length<140737488355328 then (j1a.l0 k (y113++[98]) x1 (wrap64 (x5+1))) else (none)) else (if (bt x1 x5)=12 then (if y113.length<140737488355328 then (j1a.l0 k (y113++[102]) x1 (wrap64 (x5+1))) else (none)) else (if (bt x1 x5)=10 then (if y113.length<140737488355328 then (j1a.l0 k (y113++[110]) x1 (wrap64 (x5+1))) else (none)) else (if (bt x1 x5)=13 then (if y113.length<140737488355328 then (j1a.l0 k (y113++[114]) x1 (wrap64 (x5+1))) else (none)) else (if (bt x1 x5)=9 then (if y113.length<140737488355328 then (j1a.l0 k (y113++[116]) x1 (wrap64 (x5+1))) else (none)) else (if y113.length<140737488355328 then ((j1o.f (y113++[117]) (IntKind.u16.wrap (bt x1 x5))).bind fun t134=>(j1a.l0 k t134 x1 (wrap64 (x5+1)))) else (none)))))))) else (none)) else (if (bt x1 x5)=62 then (j1a.j1 k x0 x1 x5 true) else (if (bt x1 x5)=60 then (j1a.j1 k x0 x1 x5 true) else (j1a.j1 k x0 x1 x5 ((bt x1 x5) == 38))))) else (none)) else (if x0.length<140737488355328 then (some (x0++[34])) else (none))
def j1a.j1 : Nat → List Int→ByteArray→Int→Bool→Option (List Int)
  | 0,_,_,_,_=>none
  | k+1,x0,x1,x5,x88=>if x88=true then ((j2f.f).bind fun t137=>(if t137=true then ((some (([92,117]:List Int):List Int)).bind fun y138=>(if x0.length+y138.length<140737488355328 then (if 0≤x5 then (if x5<(x1.size:Int) then ((j1o.f (x0++y138) (IntKind.u16.wrap (bt x1 x5))).bind fun t144=>(j1a.l0 k t144 x1 (wrap64 (x5+1)))) else (none)) else (none)) else (none))) else (if 0≤x5 then (if x5<(x1.size:Int) then (if x0.length<140737488355328 then (j1a.l0 k (x0++[bt x1 x5]) x1 (wrap64 (x5+1))) else (none)) else (none)) else (none)))) else (if 0≤x5 then (if x5<(x1.size:Int) then (if (bt x1 x5)=92 then ((some (([92,92]:List Int):List Int)).bind fun y150=>(if x0.length+y150.length<140737488355328 then (j1a.l0 k (x0++y150) x1 (wrap64 (x5+1))) else (none))) else (if (bt x1 x5)=34 then ((some (([92,34]:List Int):List Int)).bind fun y156=>(if x0.length+y156.length<140737488355328 then (j1a.l0 k (x0++y156) x1 (wrap64 (x5+1))) else (none))) else (if (bt x1 x5)>127 then (if x5≤(x1.size:Int) then ((utf8_DecodeRuneInString.f (x1.extract (x5:Int).toNat x1.size)).bind fun bt162=>(if bt162.2=0 then (if x0.length<140737488355328 then (some (x0++[34])) else (none)) else (if bt162.1=65533 then (j1a.j2 k x0 x1 x5 bt162.1 bt162.2 (bt162.2 == 1)) else (j1a.j2 k x0 x1 x5 bt162.1 bt162.2 false)))) else (none)) else (if x0.length<140737488355328 then (j1a.l0 k (x0++[bt x1 x5]) x1 (wrap64 (x5+1))) else (none))))) else (none)) else (none))
def j1a.j2 : Nat → List Int→ByteArray→Int→Int→Int→Bool→Option (List Int)
  | 0,_,_,_,_,_,_=>none
  | k+1,x0,x1,x5,x6,x7,x137=>if x137=true then (if x0.length+3<140737488355328 then (j1a.l0 k (x0++bytesOf (⟨#[239,191,189]⟩:ByteArray)) x1 (wrap64 ((wrap64 ((wrap64 (x5+x7)) - 1))+1))) else (none)) else (if x6=8232 then (if x0.length+5<140737488355328 then ((some (x0++bytesOf (⟨#[92,117,50,48,50]⟩:ByteArray):List Int)).bind fun y170=>(if 0≤(Go.bits .and .i32 x6 15) then (if (Go.bits .and .i32 x6 15)<16 then (if y170.length<140737488355328 then (j1a.l0 k (y170++[bt (⟨#[48,49,50,51,52,53,54,55,56,57,97,98,99,100,101,102]⟩:ByteArray) (Go.bits .and .i32 x6 15)]) x1 (wrap64 ((wrap64 ((wrap64 (x5+x7)) - 1))+1))) else (none)) else (none)) else (none))) else (none)) else (if x6=8233 then (if x0.length+5<140737488355328 then ((some (x0++bytesOf (⟨#[92,117,50,48,50]⟩:ByteArray):List Int)).bind fun y176=>(if 0≤(Go.bits .and .i32 x6 15) then (if (Go.bits .and .i32 x6 15)<16 then (if y176.length<140737488355328 then (j1a.l0 k (y176++[bt (⟨#[48,49,50,51,52,53,54,55,56,57,97,98,99,100,101,102]⟩:ByteArray) (Go.bits .and .i32 x6 15)]) x1 (wrap64 ((wrap64 ((wrap64 (x5+x7)) - 1))+1))) else (none)) else (none)) else (none))) else (none)) else (if 0≤x5 then (if x5≤(wrap64 (x5+x7)) then (if (wrap64 (x5+x7))≤(x1.size:Int) then (if x0.length+(x1.extract (x5:Int).toNat ((wrap64 (x5+x7)):Int).toNat).size<140737488355328 then (j1a.l0 k (x0++bytesOf (x1.extract (x5:Int).toNat ((wrap64 (x5+x7)):Int).toNat)) x1 (wrap64 ((wrap64 ((wrap64 (x5+x7)) - 1))+1))) else (none)) else (none)) else (none)) else (none))))
end
def j1a.f (k : Nat) (l0:List Int) (a1:ByteArray):Option (List Int):=if 0≤(wrap64 ((a1.size:Int)+2)) then (if l0.length+(wrap64 ((a1.size:Int)+2):Int).toNat<140737488355328 then ((some (l0++List.replicate (wrap64 ((a1.size:Int)+2):Int).toNat 0:List Int)).bind fun y101=>(if 0≤(wrap64 ((wrap64 ((y101.length:Int) - (a1.size:Int))) - 2)) then (if (wrap64 ((wrap64 ((y101.length:Int) - (a1.size:Int))) - 2))≤(y101.length:Int) then ((some (y101.take ((wrap64 ((wrap64 ((y101.length:Int) - (a1.size:Int))) - 2)):Int).toNat:List Int)).bind fun y104=>(if y104.length<140737488355328 then (j1a.l0 k (y104++[34]) a1 0) else (none))) else (none)) else (none))) else (none)) else (none)
theorem j1a.mono_l : ∀ k,(∀ y0 y1 y2,LeO (j1a.l0 k y0 y1 y2) (j1a.l0 (k+1) y0 y1 y2))∧(∀ y0 y1 y2 y3,LeO (j1a.j1 k y0 y1 y2 y3) (j1a.j1 (k+1) y0 y1 y2 y3))∧(∀ y0 y1 y2 y3 y4 y5,LeO (j1a.j2 k y0 y1 y2 y3 y4 y5) (j1a.j2 (k+1) y0 y1 y2 y3 y4 y5))
 | 0=>⟨fun _ _ _ r h=>by simp [j1a.l0] at h,fun _ _ _ _ r h=>by simp [j1a.j1] at h,fun _ _ _ _ _ _ r h=>by simp [j1a.j2] at h⟩
 | k+1=>by
  obtain ⟨ih0,ih1,ih2⟩:=j1a.mono_l k;refine ⟨?_,?_,?_⟩
  ·intro y0 y1 y2;unfold j1a.l0
   exact zm
  ·intro y0 y1 y2 y3;unfold j1a.j1
   exact zm
  ·intro y0 y1 y2 y3 y4 y5;unfold j1a.j2
   exact zm
theorem j1a.mono : ∀ a0 a1 k,LeO (j1a.f k a0 a1) (j1a.f (k+1) a0 a1):=by
 intro a0 a1 k;obtain ⟨ih0,ih1,ih2⟩:=j1a.mono_l k;unfold j1a.f
 exact zm
set_option maxHeartbeats 8000000 in
set_option maxRecDepth 100000 in
theorem j1a.calls (k : Nat) (P0_:Nat→Prop) (u9000_:Value) (l0:List Int) (a1:ByteArray) (r:List Int) (w0 w:World) (hB:Below w0.heap.size w0 w) (ho0:Kd.R (Kd.int .u8) 5 w w0.heap.size P0_ u9000_ l0) (hG:Laid w0) (h:j1a.f k l0 a1=some r) :
 Calls Tryd.prog 9 #[u9000_, .string a1] w fun e w'=>∃ v0_:Value,e = .returned (v0_)∧Kd.R (Kd.int .u8) 5 w' w0.heap.size (fun k_=>(P0_ k_∨w.heap.size≤k_)) v0_ r∧Below w0.heap.size w0 w'∧Kept w w' (fun k_=>P0_ k_):=by
 have HG:=mk0 hG;clear hG;have HO0:=mk0 (show Kd.R (Kd.int .u8) 5 w w0.heap.size (fun k_=>(P0_ k_∨w.heap.size≤k_)) u9000_ l0 from Kd.R_mono ho0 (fun k_ hk=>(.inl hk)));have HK:=mk0 (Kept.refl w (fun k_=>P0_ k_));have HW0:=mk0 hB.size;have HB:=mk0 hB;clear hB;have H:(if 0≤(wrap64 ((a1.size:Int)+2)) then (if l0.length+(wrap64 ((a1.size:Int)+2):Int).toNat<140737488355328 then ((some (l0++List.replicate (wrap64 ((a1.size:Int)+2):Int).toNat 0:List Int)).bind fun y101=>(if 0≤(wrap64 ((wrap64 ((y101.length:Int) - (a1.size:Int))) - 2)) then (if (wrap64 ((wrap64 ((y101.length:Int) - (a1.size:Int))) - 2))≤(y101.length:Int) then ((some (y101.take ((wrap64 ((wrap64 ((y101.length:Int) - (a1.size:Int))) - 2)):Int).toNat:List Int)).bind fun y104=>(if y104.length<140737488355328 then (j1a.l0 k (y104++[34]) a1 0) else (none))) else (none)) else (none))) else (none)) else (none))=some r:=h;clear h;obtain ⟨ji3,hji3⟩:∃ j_:Int,(wrap64 ((a1.size:Int)+2))=j_:=⟨_,rfl⟩;replace H:(if 0≤(ji3) then (if l0.length+(ji3:Int).toNat<140737488355328 then ((some (l0++List.replicate (ji3:Int).toNat 0:List Int)).bind fun y101=>(if 0≤(wrap64 ((wrap64 ((y101.length:Int) - (a1.size:Int))) - 2)) then (if (wrap64 ((wrap64 ((y101.length:Int) - (a1.size:Int))) - 2))≤(y101.length:Int) then ((some (y101.take ((wrap64 ((wrap64 ((y101.length:Int) - (a1.size:Int))) - 2)):Int).toNat:List Int)).bind fun y104=>(if y104.length<140737488355328 then (j1a.l0 k (y104++[34]) a1 0) else (none))) else (none)) else (none))) else (none)) else (none))=some r:=by first|(rw [hji3] at H;exact H)|(simp only [hji3] at H ⊢; exact H)
 have hji3w:(IntKind.i64.wrap ((a1.size:Int)+2))=ji3:=(i64_w _).trans hji3;by_cases c4:0≤(ji3)
 rotate_left
 ·rw [if_neg c4] at H;exact absurd H (by simp)
 rw [if_pos c4] at H;have c4b0:=eq_true c4;have c4b1:decide (0≤(ji3))=true:=decide_eq_true c4;clear c4;by_cases c5:l0.length+(ji3:Int).toNat<140737488355328
 rotate_left
 ·rw [if_neg c5] at H;exact absurd H (by simp)
 rw [if_pos c5] at H;have LMc5:=mk0 c5;clear c5;obtain ⟨y101,hy101⟩:∃ y_:List Int,y_=(l0++List.replicate (ji3:Int).toNat 0):=⟨_,rfl⟩;replace H:(if 0≤(wrap64 ((wrap64 ((y101.length:Int) - (a1.size:Int))) - 2)) then (if (wrap64 ((wrap64 ((y101.length:Int) - (a1.size:Int))) - 2))≤(y101.length:Int) then ((some (y101.take ((wrap64 ((wrap64 ((y101.length:Int) - (a1.size:Int))) - 2)):Int).toNat:List Int)).bind fun y104=>(if y104.length<140737488355328 then (j1a.l0 k (y104++[34]) a1 0) else (none))) else (none)) else (none))=some r:=by first|(rw [hy101];with_reducible exact H)|(have H2_:=(Option.bind_some _ _).symm.trans H;rw [hy101];with_reducible exact H2_)|(have H2_:=(Option.bind_some _ _).symm.trans H;with_reducible exact H2_)|with_reducible exact H|(rw [hy101];exact H)|exact H
 have Ny101:=mk0 hy101;clear hy101;obtain ⟨ji6,hji6⟩:∃ j_:Int,(wrap64 ((wrap64 ((y101.length:Int) - (a1.size:Int))) - 2))=j_:=⟨_,rfl⟩;replace H:(if 0≤(ji6) then (if (ji6)≤(y101.length:Int) then ((some (y101.take ((ji6):Int).toNat:List Int)).bind fun y104=>(if y104.length<140737488355328 then (j1a.l0 k (y104++[34]) a1 0) else (none))) else (none)) else (none))=some r:=by first|(rw [hji6] at H;exact H)|(simp only [hji6] at H ⊢; exact H)
 have hji6w:(IntKind.i64.wrap ((wrap64 ((y101.length:Int) - (a1.size:Int))) - 2))=ji6:=(i64_w _).trans hji6;by_cases c7:0≤(ji6)
 rotate_left
 ·rw [if_neg c7] at H;exact absurd H (by simp)
 rw [if_pos c7] at H;have c7b0:=eq_true c7;have c7b1:decide (0≤(ji6))=true:=decide_eq_true c7;clear c7;by_cases c8:(ji6)≤(y101.length:Int)
 rotate_left
 ·rw [if_neg c8] at H;exact absurd H (by simp)
 rw [if_pos c8] at H;have c8b0:=eq_true c8;have c8b1:decide ((ji6)≤(y101.length:Int))=true:=decide_eq_true c8;clear c8;obtain ⟨y104,hy104⟩:∃ y_:List Int,y_=(y101.take ((ji6):Int).toNat):=⟨_,rfl⟩;replace H:(if y104.length<140737488355328 then (j1a.l0 k (y104++[34]) a1 0) else (none))=some r:=by first|(rw [hy104];with_reducible exact H)|(have H2_:=(Option.bind_some _ _).symm.trans H;rw [hy104];with_reducible exact H2_)|(have H2_:=(Option.bind_some _ _).symm.trans H;with_reducible exact H2_)|with_reducible exact H|(rw [hy104];exact H)|exact H
 have Ny104:=mk0 hy104;clear hy104;by_cases c9:y104.length<140737488355328
 rotate_left
 ·rw [if_neg c9] at H;exact absurd H (by simp)
 rw [if_pos c9] at H;have LMc9:=mk0 c9;clear c9;obtain ⟨y107,hy107⟩:∃ y_:List Int,y_=(y104++[34]):=⟨_,rfl⟩;replace H:(j1a.l0 k y107 a1 0)=some r:=by first|(rw [hy107];with_reducible exact H)|(have H2_:=(Option.bind_some _ _).symm.trans H;rw [hy107];with_reducible exact H2_)|(have H2_:=(Option.bind_some _ _).symm.trans H;with_reducible exact H2_)|with_reducible exact H|(rw [hy107];exact H)|exact H
 have Ny107:=mk0 hy107;clear hy107;have H':=mk0 H;clear H;go_enter Tryd.func9,Tryd.ntmps9;go_wp2_with (first|(at_builtin;refine Kd.R_append_zeros (Kd.int .u8) (w0:=w0) w0.heap.size rfl (.tmp 8) (.tmp 11) 30 3 5 (.int .u8 0) 1 rfl Tryd.underlying30 Tryd.underlying3 info5 rfl zq24 (by omega) u9000_ l0 0 (ji3:Int) (fun k_=>(P0_ k_∨w.heap.size≤k_)) rfl rfl rfl ?aF ?aO (of_decide_eq_true zq1) ?aB ?aS ?aL ?_;(case aB=>exact zq0);(case aF=>exact (fun k_ hk=>(.inr (Nat.le_trans zq4 hk))));(case aO=>exact zq22);(case aS=>exact (j1m zq0));(case aL=>have:=LMc5.out;first|omega|(simp only [List.length_cons,List.length_nil] at this ⊢; omega));intro v102 w10 ho hb hg hat;rw [← Ny101.out] at ho;have n0_:=mk0 (hb);have n1_:=mk0 (Kept.of_grown (S:=(fun k_=>P0_ k_)) hg zq2 (fun k_ e_=>(HO0.out.1 k_ e_)));have n2_:=mk0 (ho);clear HB HK HO0;have HB:=n0_;have HK:=n1_;have HO103:=n2_;clear n0_ n1_ n2_;clear ho hb hg hat;obtain ⟨Ao11,co11,eo11⟩:=Kd.R_slice HO103.out;subst eo11;have q12:((ji6):Int)≤((y101.length:Int):Int):=of_decide_eq_true zq1;obtain ⟨i012,hi012,_,hsz12,_⟩:=info_parts info5;have hcut12:=cut_to (P:=Tryd.prog) 30 5 .i64 Tryd.underlying30 hi012 Ao11 y101.length co11 (ji6) (of_decide_eq_true zq1) q12 (Kd.R_reads' HO103.out).2.1;have hr12:=Kd.R_take (m:=((ji6):Int).toNat) HO103.out (by omega);have hy12:y104.length=((ji6):Int).toNat:=(by rw [Ny104.out,List.length_take];omega);rw [← Ny104.out] at hr12;rw [← hy12] at hr12 hcut12;clear hy12 hi012 hsz12 HO103;have HO106:=mk0 hr12;clear hr12;replace q12:=eq_true q12;have hob12:=own_len Ao11 y101.length y104.length co11;clear hob12)|((with_reducible refine j1p (b := .append) (xs:=#[.tmp 20, .tmp 21]) rfl ?_);at_builtin;refine Kd.R_append (Kd.int .u8) (w0:=w0) w0.heap.size rfl (.tmp 20) (.tmp 21) 30 5 (.int .u8 0) 1 rfl Tryd.underlying30 info5 rfl zq24 (by omega) (.slice Ao11 y104.length co11) y104 34 [.int .u8 34] (fun k_=>(P0_ k_∨w.heap.size≤k_)) (fun _=>False) rfl rfl ?aP (fun _ hk=>hk.elim) ?aF ?aO ?aB ?aS ?aL ?_;(case aP=>exact rfl);(case aB=>exact zq0);(case aF=>exact (fun k_ hk=>(.inr (Nat.le_trans zq4 hk))));(case aO=>exact (by (with_reducible repeat (first|apply Kd.R_alloc|apply Kd.R_drewN|apply Kd.R_drew));exact HO106.out));(case aS=>exact (j1m zq0));(case aL=>have:=LMc9.out;first|omega|(simp only [List.length_cons,List.length_nil] at this ⊢; omega));intro v108 w13 ho hb hg hat;rw [← Ny107.out] at ho;have n0_:=mk0 (hb);have n1_:=mk0 (Kept.of_grown (S:=(fun k_=>P0_ k_)) hg zq2 (fun k_ e_=>(HO106.out.1 k_ e_)));have n2_:=mk0 (ho);clear HB HK HO106;have HB:=n0_;have HK:=n1_;have HO109:=n2_;clear n0_ n1_ n2_;clear ho hb hg hat))
 (try simp only [Act.put,List.setIfInBounds_toArray,List.set_cons_zero,List.set_cons_succ]);go_loopg [0,5] k (fun kq v0 v5 w'=>∃ (x0_1:List Int) (x5_1:Int),v5 = .int .i64 x5_1∧Aside0 (j1a.l0 kq x0_1 a1 x5_1=some r)∧Aside0 (kq≤k)∧Aside0 (Kd.R (Kd.int .u8) 5 w' w0.heap.size (fun k_=>(P0_ k_∨w.heap.size≤k_)) v0 x0_1)∧Aside0 (Kept w w' (fun k_=>P0_ k_))∧Aside0 (Below w0.heap.size w0 w'))
 case atStart=>exact ⟨(y107),(0),zq7,H',⟨Nat.le_refl _⟩,⟨by (with_reducible repeat (first|apply Kd.R_alloc|apply Kd.R_drewN|apply Kd.R_drew));exact HO109.out⟩,⟨by repeat (first|(with_reducible first|exact HK.out|apply Kept.alloc|apply Kept.drewN|apply Kept.drew)|exact HK.out)⟩,⟨by repeat (first|(with_reducible first|exact HB.out|apply j1i|apply j1d|apply j1h)|exact HB.out)⟩⟩
 case round=>as_aux_lemma =>
  clear H'
  try clear q1
  try clear p2
  try clear c4
  try clear c4b0
  try clear c4b1
  try clear c5
  try clear p6
  try clear c7
  try clear c7b0
  try clear c7b1
  try clear c8
  try clear c8b0
  try clear c8b1
  try clear c9
  try clear q12
  try clear q12
  obtain ⟨x0_1,x5_1,rfl,HA,HK1,HO_0,HK,HB⟩:=hrel;cases gk with
  | zero=>exact absurd HA.out (by simp [j1a.l0])
  | succ k1 =>
   have H:=HA.out;clear HA;simp only [j1a.l0] at H;by_cases c14:x5_1<(a1.size:Int)
   rotate_left
   ·rw [if_neg c14] at H;have c14b0:decide (x5_1<(a1.size:Int))=false:=decide_eq_false c14;clear c14;by_cases c127:x0_1.length<140737488355328
    rotate_left
    ·rw [if_neg c127] at H;exact absurd H (by simp)
    rw [if_pos c127] at H;have LMc127:=mk0 c127;clear c127;obtain ⟨y110,hy110⟩:∃ y_:List Int,y_=(x0_1++[34]):=⟨_,rfl⟩;replace H:(some y110)=some r:=by first|(rw [hy110];with_reducible exact H)|(have H2_:=(Option.bind_some _ _).symm.trans H;rw [hy110];with_reducible exact H2_)|(have H2_:=(Option.bind_some _ _).symm.trans H;with_reducible exact H2_)|with_reducible exact H|(rw [hy110];exact H)|exact H
    have Ny110:=mk0 hy110;clear hy110;obtain rfl:=Option.some.inj H;go_wp2_with (first|((with_reducible refine j1p (b := .append) (xs:=#[.tmp 173, .tmp 174]) rfl ?_);at_builtin;refine Kd.R_append (Kd.int .u8) (w0:=w0) w0.heap.size rfl (.tmp 173) (.tmp 174) 30 5 (.int .u8 0) 1 rfl Tryd.underlying30 info5 rfl zq24 (by omega) u0 x0_1 34 [.int .u8 34] (fun k_=>(P0_ k_∨w.heap.size≤k_)) (fun _=>False) rfl rfl ?aP (fun _ hk=>hk.elim) ?aF ?aO ?aB ?aS ?aL ?_;(case aP=>exact rfl);(case aB=>exact zq0);(case aF=>exact (fun k_ hk=>(.inr (Nat.le_trans zq4 hk))));(case aO=>exact zq5);(case aS=>exact (j1m zq0));(case aL=>have:=LMc127.out;first|omega|(simp only [List.length_cons,List.length_nil] at this ⊢; omega));intro v111 w128 ho hb hg hat;rw [← Ny110.out] at ho;have n0_:=mk0 (hb);have n1_:=mk0 (Kept.of_grown (S:=(fun k_=>P0_ k_)) hg zq2 (fun k_ e_=>(HO_0.out.1 k_ e_)));have n2_:=mk0 (ho);clear HB HK HO_0;have HB:=n0_;have HK:=n1_;have HO112:=n2_;clear n0_ n1_ n2_;clear ho hb hg hat))
    go_ret;exact ⟨_,by first|rfl|(simp [j1t,j1s]<;>rfl)|(simp only [← hji3,← hji6];first|rfl|(simp [j1t,j1s]<;>rfl))|(simp [*, j1t,j1s]<;>rfl),by (with_reducible repeat (first|apply Kd.R_alloc|apply Kd.R_drewN|apply Kd.R_drew));exact HO112.out,by repeat (first|(with_reducible first|exact HB.out|apply j1i|apply j1d|apply j1h)|exact HB.out),by repeat (first|(with_reducible first|exact HK.out|apply Kept.alloc|apply Kept.drewN|apply Kept.drew)|exact HK.out)⟩
   rw [if_pos c14] at H;have c14b0:decide (x5_1<(a1.size:Int))=true:=decide_eq_true c14;clear c14;by_cases c15:0≤x5_1
   rotate_left
   ·rw [if_neg c15] at H;exact absurd H (by simp)
   rw [if_pos c15] at H;have c15b0:decide (0≤x5_1)=true:=decide_eq_true c15;clear c15;by_cases c17:(bt a1 x5_1)<32
   ·rw [if_pos c17] at H;have c17b0:decide ((bt a1 x5_1)<32)=true:=decide_eq_true c17;clear c17;by_cases c18:x0_1.length<140737488355328
    rotate_left
    ·rw [if_neg c18] at H;exact absurd H (by simp)
    rw [if_pos c18] at H;have LMc18:=mk0 c18;clear c18;obtain ⟨y113,hy113⟩:∃ y_:List Int,y_=(x0_1++[92]):=⟨_,rfl⟩;replace H:(if (bt a1 x5_1)=8 then (if y113.length<140737488355328 then (j1a.l0 k1 (y113++[98]) a1 (wrap64 (x5_1+1))) else (none)) else (if (bt a1 x5_1)=12 then (if y113.length<140737488355328 then (j1a.l0 k1 (y113++[102]) a1 (wrap64 (x5_1+1))) else (none)) else (if (bt a1 x5_1)=10 then (if y113.length<140737488355328 then (j1a.l0 k1 (y113++[110]) a1 (wrap64 (x5_1+1))) else (none)) else (if (bt a1 x5_1)=13 then (if y113.length<140737488355328 then (j1a.l0 k1 (y113++[114]) a1 (wrap64 (x5_1+1))) else (none)) else (if (bt a1 x5_1)=9 then (if y113.length<140737488355328 then (j1a.l0 k1 (y113++[116]) a1 (wrap64 (x5_1+1))) else (none)) else (if y113.length<140737488355328 then ((j1o.f (y113++[117]) (IntKind.u16.wrap (bt a1 x5_1))).bind fun t134=>(j1a.l0 k1 t134 a1 (wrap64 (x5_1+1)))) else (none)))))))=some r:=by first|(rw [hy113];with_reducible exact H)|(have H2_:=(Option.bind_some _ _).symm.trans H;rw [hy113];with_reducible exact H2_)|(have H2_:=(Option.bind_some _ _).symm.trans H;with_reducible exact H2_)|with_reducible exact H|(rw [hy113];exact H)|exact H
    have Ny113:=mk0 hy113;clear hy113;by_cases c20:(bt a1 x5_1)=8
    ·rw [if_pos c20] at H;have c20b0:((bt a1 x5_1) == 8)=true:=beq_iff_eq.mpr c20;have c20b1:((bt a1 x5_1) != 8)=false:=bne_eq_false_iff_eq.mpr c20;clear c20;by_cases c21:y113.length<140737488355328
     rotate_left
     ·rw [if_neg c21] at H;exact absurd H (by simp)
     rw [if_pos c21] at H;have LMc21:=mk0 c21;clear c21;obtain ⟨y116,hy116⟩:∃ y_:List Int,y_=(y113++[98]):=⟨_,rfl⟩;replace H:(j1a.l0 k1 y116 a1 (wrap64 (x5_1+1)))=some r:=by first|(rw [hy116];with_reducible exact H)|(have H2_:=(Option.bind_some _ _).symm.trans H;rw [hy116];with_reducible exact H2_)|(have H2_:=(Option.bind_some _ _).symm.trans H;with_reducible exact H2_)|with_reducible exact H|(rw [hy116];exact H)|exact H
     have Ny116:=mk0 hy116;clear hy116;have H':=mk0 H;clear H;have p16:0≤(x5_1:Int):=of_decide_eq_true zq1;have q16:x5_1<(a1.size:Int):=of_decide_eq_true zq1;have hx16:=bt_at a1 x5_1;replace p16:=eq_true p16;replace q16:=eq_true q16;go_wp2_with (first|((with_reducible refine j1p (b := .append) (xs:=#[.tmp 33, .tmp 34]) rfl ?_);at_builtin;refine Kd.R_append (Kd.int .u8) (w0:=w0) w0.heap.size rfl (.tmp 33) (.tmp 34) 30 5 (.int .u8 0) 1 rfl Tryd.underlying30 info5 rfl zq24 (by omega) u0 x0_1 92 [.int .u8 92] (fun k_=>(P0_ k_∨w.heap.size≤k_)) (fun _=>False) rfl rfl ?aP (fun _ hk=>hk.elim) ?aF ?aO ?aB ?aS ?aL ?_;(case aP=>exact rfl);(case aB=>exact zq0);(case aF=>exact (fun k_ hk=>(.inr (Nat.le_trans zq4 hk))));(case aO=>exact zq5);(case aS=>exact (j1m zq0));(case aL=>exact zq15);intro v114 w22 ho hb hg hat;rw [← Ny113.out] at ho;have n0_:=mk0 (hb);have n1_:=mk0 (Kept.of_grown (S:=(fun k_=>P0_ k_)) hg zq2 (fun k_ e_=>(HO_0.out.1 k_ e_)));have n2_:=mk0 (ho);clear HB HK HO_0;have HB:=n0_;have HK:=n1_;have HO115:=n2_;clear n0_ n1_ n2_;clear ho hb hg hat;have p19:0≤(x5_1:Int):=of_decide_eq_true zq1;have q19:x5_1<(a1.size:Int):=of_decide_eq_true zq1;have hx19:=bt_at a1 x5_1;replace p19:=eq_true p19;replace q19:=eq_true q19)|((with_reducible refine j1p (b := .append) (xs:=#[.tmp 50, .tmp 51]) rfl ?_);at_builtin;refine Kd.R_append (Kd.int .u8) (w0:=w0) w0.heap.size rfl (.tmp 50) (.tmp 51) 30 5 (.int .u8 0) 1 rfl Tryd.underlying30 info5 rfl zq24 (by omega) v114 y113 98 [.int .u8 98] (fun k_=>(P0_ k_∨w.heap.size≤k_)) (fun _=>False) rfl rfl ?aP (fun _ hk=>hk.elim) ?aF ?aO ?aB ?aS ?aL ?_;(case aP=>exact rfl);(case aB=>exact zq0);(case aF=>exact (fun k_ hk=>(.inr (Nat.le_trans zq4 hk))));(case aO=>exact zq16);(case aS=>exact (j1m zq0));(case aL=>have:=LMc21.out;first|omega|(simp only [List.length_cons,List.length_nil] at this ⊢; omega));intro v117 w23 ho hb hg hat;rw [← Ny116.out] at ho;have n0_:=mk0 (hb);have n1_:=mk0 (Kept.of_grown (S:=(fun k_=>P0_ k_)) hg zq2 (fun k_ e_=>(HO115.out.1 k_ e_)));have n2_:=mk0 (ho);clear HB HK HO115;have HB:=n0_;have HK:=n1_;have HO118:=n2_;clear n0_ n1_ n2_;clear ho hb hg hat))
     go_roundg k1
     case measure=>have:=HK1.out;omega
     case rel=>exact ⟨(y116),(wrap64 (x5_1+1)),zq7,H',⟨by have:=HK1.out;omega⟩,⟨by (with_reducible repeat (first|apply Kd.R_alloc|apply Kd.R_drewN|apply Kd.R_drew));exact HO118.out⟩,⟨by repeat (first|(with_reducible first|exact HK.out|apply Kept.alloc|apply Kept.drewN|apply Kept.drew)|exact HK.out)⟩,⟨by repeat (first|(with_reducible first|exact HB.out|apply j1i|apply j1d|apply j1h)|exact HB.out)⟩⟩
    rw [if_neg c20] at H;have c20b0:((bt a1 x5_1) == 8)=false:=beq_eq_false_iff_ne.mpr c20;have c20b1:((bt a1 x5_1) != 8)=true:=bne_iff_ne.mpr c20;by_cases c24:(bt a1 x5_1)=12
    ·rw [if_pos c24] at H;have c24b0:((bt a1 x5_1) == 12)=true:=beq_iff_eq.mpr c24;have c24b1:((bt a1 x5_1) != 12)=false:=bne_eq_false_iff_eq.mpr c24;clear c24;by_cases c25:y113.length<140737488355328
     rotate_left
     ·rw [if_neg c25] at H;exact absurd H (by simp)
     rw [if_pos c25] at H;have LMc25:=mk0 c25;clear c25;obtain ⟨y119,hy119⟩:∃ y_:List Int,y_=(y113++[102]):=⟨_,rfl⟩;replace H:(j1a.l0 k1 y119 a1 (wrap64 (x5_1+1)))=some r:=by first|(rw [hy119];with_reducible exact H)|(have H2_:=(Option.bind_some _ _).symm.trans H;rw [hy119];with_reducible exact H2_)|(have H2_:=(Option.bind_some _ _).symm.trans H;with_reducible exact H2_)|with_reducible exact H|(rw [hy119];exact H)|exact H
     have Ny119:=mk0 hy119;clear hy119;have H':=mk0 H;clear H;have p16:0≤(x5_1:Int):=of_decide_eq_true zq1;have q16:x5_1<(a1.size:Int):=of_decide_eq_true zq1;have hx16:=bt_at a1 x5_1;replace p16:=eq_true p16;replace q16:=eq_true q16;go_wp2_with (first|((with_reducible refine j1p (b := .append) (xs:=#[.tmp 33, .tmp 34]) rfl ?_);at_builtin;refine Kd.R_append (Kd.int .u8) (w0:=w0) w0.heap.size rfl (.tmp 33) (.tmp 34) 30 5 (.int .u8 0) 1 rfl Tryd.underlying30 info5 rfl zq24 (by omega) u0 x0_1 92 [.int .u8 92] (fun k_=>(P0_ k_∨w.heap.size≤k_)) (fun _=>False) rfl rfl ?aP (fun _ hk=>hk.elim) ?aF ?aO ?aB ?aS ?aL ?_;(case aP=>exact rfl);(case aB=>exact zq0);(case aF=>exact (fun k_ hk=>(.inr (Nat.le_trans zq4 hk))));(case aO=>exact zq5);(case aS=>exact (j1m zq0));(case aL=>exact zq15);intro v114 w26 ho hb hg hat;rw [← Ny113.out] at ho;have n0_:=mk0 (hb);have n1_:=mk0 (Kept.of_grown (S:=(fun k_=>P0_ k_)) hg zq2 (fun k_ e_=>(HO_0.out.1 k_ e_)));have n2_:=mk0 (ho);clear HB HK HO_0;have HB:=n0_;have HK:=n1_;have HO115:=n2_;clear n0_ n1_ n2_;clear ho hb hg hat;have p19:0≤(x5_1:Int):=of_decide_eq_true zq1;have q19:x5_1<(a1.size:Int):=of_decide_eq_true zq1;have hx19:=bt_at a1 x5_1;replace p19:=eq_true p19;replace q19:=eq_true q19)|((with_reducible refine j1p (b := .append) (xs:=#[.tmp 55, .tmp 56]) rfl ?_);at_builtin;refine Kd.R_append (Kd.int .u8) (w0:=w0) w0.heap.size rfl (.tmp 55) (.tmp 56) 30 5 (.int .u8 0) 1 rfl Tryd.underlying30 info5 rfl zq24 (by omega) v114 y113 102 [.int .u8 102] (fun k_=>(P0_ k_∨w.heap.size≤k_)) (fun _=>False) rfl rfl ?aP (fun _ hk=>hk.elim) ?aF ?aO ?aB ?aS ?aL ?_;(case aP=>exact rfl);(case aB=>exact zq0);(case aF=>exact (fun k_ hk=>(.inr (Nat.le_trans zq4 hk))));(case aO=>exact zq16);(case aS=>exact (j1m zq0));(case aL=>have:=LMc25.out;first|omega|(simp only [List.length_cons,List.length_nil] at this ⊢; omega));intro v120 w27 ho hb hg hat;rw [← Ny119.out] at ho;have n0_:=mk0 (hb);have n1_:=mk0 (Kept.of_grown (S:=(fun k_=>P0_ k_)) hg zq2 (fun k_ e_=>(HO115.out.1 k_ e_)));have n2_:=mk0 (ho);clear HB HK HO115;have HB:=n0_;have HK:=n1_;have HO121:=n2_;clear n0_ n1_ n2_;clear ho hb hg hat))
     go_roundg k1
     case measure=>have:=HK1.out;omega
     case rel=>exact ⟨(y119),(wrap64 (x5_1+1)),zq7,H',⟨by have:=HK1.out;omega⟩,⟨by (with_reducible repeat (first|apply Kd.R_alloc|apply Kd.R_drewN|apply Kd.R_drew));exact HO121.out⟩,⟨by repeat (first|(with_reducible first|exact HK.out|apply Kept.alloc|apply Kept.drewN|apply Kept.drew)|exact HK.out)⟩,⟨by repeat (first|(with_reducible first|exact HB.out|apply j1i|apply j1d|apply j1h)|exact HB.out)⟩⟩
    rw [if_neg c24] at H;have c24b0:((bt a1 x5_1) == 12)=false:=beq_eq_false_iff_ne.mpr c24;have c24b1:((bt a1 x5_1) != 12)=true:=bne_iff_ne.mpr c24;by_cases c28:(bt a1 x5_1)=10
    ·rw [if_pos c28] at H;have c28b0:((bt a1 x5_1) == 10)=true:=beq_iff_eq.mpr c28;have c28b1:((bt a1 x5_1) != 10)=false:=bne_eq_false_iff_eq.mpr c28;clear c28;by_cases c29:y113.length<140737488355328
     rotate_left
     ·rw [if_neg c29] at H;exact absurd H (by simp)
     rw [if_pos c29] at H;have LMc29:=mk0 c29;clear c29;obtain ⟨y122,hy122⟩:∃ y_:List Int,y_=(y113++[110]):=⟨_,rfl⟩;replace H:(j1a.l0 k1 y122 a1 (wrap64 (x5_1+1)))=some r:=by first|(rw [hy122];with_reducible exact H)|(have H2_:=(Option.bind_some _ _).symm.trans H;rw [hy122];with_reducible exact H2_)|(have H2_:=(Option.bind_some _ _).symm.trans H;with_reducible exact H2_)|with_reducible exact H|(rw [hy122];exact H)|exact H
     have Ny122:=mk0 hy122;clear hy122;have H':=mk0 H;clear H;have p16:0≤(x5_1:Int):=of_decide_eq_true zq1;have q16:x5_1<(a1.size:Int):=of_decide_eq_true zq1;have hx16:=bt_at a1 x5_1;replace p16:=eq_true p16;replace q16:=eq_true q16;go_wp2_with (first|((with_reducible refine j1p (b := .append) (xs:=#[.tmp 33, .tmp 34]) rfl ?_);at_builtin;refine Kd.R_append (Kd.int .u8) (w0:=w0) w0.heap.size rfl (.tmp 33) (.tmp 34) 30 5 (.int .u8 0) 1 rfl Tryd.underlying30 info5 rfl zq24 (by omega) u0 x0_1 92 [.int .u8 92] (fun k_=>(P0_ k_∨w.heap.size≤k_)) (fun _=>False) rfl rfl ?aP (fun _ hk=>hk.elim) ?aF ?aO ?aB ?aS ?aL ?_;(case aP=>exact rfl);(case aB=>exact zq0);(case aF=>exact (fun k_ hk=>(.inr (Nat.le_trans zq4 hk))));(case aO=>exact zq5);(case aS=>exact (j1m zq0));(case aL=>exact zq15);intro v114 w30 ho hb hg hat;rw [← Ny113.out] at ho;have n0_:=mk0 (hb);have n1_:=mk0 (Kept.of_grown (S:=(fun k_=>P0_ k_)) hg zq2 (fun k_ e_=>(HO_0.out.1 k_ e_)));have n2_:=mk0 (ho);clear HB HK HO_0;have HB:=n0_;have HK:=n1_;have HO115:=n2_;clear n0_ n1_ n2_;clear ho hb hg hat;have p19:0≤(x5_1:Int):=of_decide_eq_true zq1;have q19:x5_1<(a1.size:Int):=of_decide_eq_true zq1;have hx19:=bt_at a1 x5_1;replace p19:=eq_true p19;replace q19:=eq_true q19)|((with_reducible refine j1p (b := .append) (xs:=#[.tmp 60, .tmp 61]) rfl ?_);at_builtin;refine Kd.R_append (Kd.int .u8) (w0:=w0) w0.heap.size rfl (.tmp 60) (.tmp 61) 30 5 (.int .u8 0) 1 rfl Tryd.underlying30 info5 rfl zq24 (by omega) v114 y113 110 [.int .u8 110] (fun k_=>(P0_ k_∨w.heap.size≤k_)) (fun _=>False) rfl rfl ?aP (fun _ hk=>hk.elim) ?aF ?aO ?aB ?aS ?aL ?_;(case aP=>exact rfl);(case aB=>exact zq0);(case aF=>exact (fun k_ hk=>(.inr (Nat.le_trans zq4 hk))));(case aO=>exact zq16);(case aS=>exact (j1m zq0));(case aL=>have:=LMc29.out;first|omega|(simp only [List.length_cons,List.length_nil] at this ⊢; omega));intro v123 w31 ho hb hg hat;rw [← Ny122.out] at ho;have n0_:=mk0 (hb);have n1_:=mk0 (Kept.of_grown (S:=(fun k_=>P0_ k_)) hg zq2 (fun k_ e_=>(HO115.out.1 k_ e_)));have n2_:=mk0 (ho);clear HB HK HO115;have HB:=n0_;have HK:=n1_;have HO124:=n2_;clear n0_ n1_ n2_;clear ho hb hg hat))
     go_roundg k1
     case measure=>have:=HK1.out;omega
     case rel=>exact ⟨(y122),(wrap64 (x5_1+1)),zq7,H',⟨by have:=HK1.out;omega⟩,⟨by (with_reducible repeat (first|apply Kd.R_alloc|apply Kd.R_drewN|apply Kd.R_drew));exact HO124.out⟩,⟨by repeat (first|(with_reducible first|exact HK.out|apply Kept.alloc|apply Kept.drewN|apply Kept.drew)|exact HK.out)⟩,⟨by repeat (first|(with_reducible first|exact HB.out|apply j1i|apply j1d|apply j1h)|exact HB.out)⟩⟩
    rw [if_neg c28] at H;have c28b0:((bt a1 x5_1) == 10)=false:=beq_eq_false_iff_ne.mpr c28;have c28b1:((bt a1 x5_1) != 10)=true:=bne_iff_ne.mpr c28;by_cases c32:(bt a1 x5_1)=13
    ·rw [if_pos c32] at H;have c32b0:((bt a1 x5_1) == 13)=true:=beq_iff_eq.mpr c32;have c32b1:((bt a1 x5_1) != 13)=false:=bne_eq_false_iff_eq.mpr c32;clear c32;by_cases c33:y113.length<140737488355328
     rotate_left
     ·rw [if_neg c33] at H;exact absurd H (by simp)
     rw [if_pos c33] at H;have LMc33:=mk0 c33;clear c33;obtain ⟨y125,hy125⟩:∃ y_:List Int,y_=(y113++[114]):=⟨_,rfl⟩;replace H:(j1a.l0 k1 y125 a1 (wrap64 (x5_1+1)))=some r:=by first|(rw [hy125];with_reducible exact H)|(have H2_:=(Option.bind_some _ _).symm.trans H;rw [hy125];with_reducible exact H2_)|(have H2_:=(Option.bind_some _ _).symm.trans H;with_reducible exact H2_)|with_reducible exact H|(rw [hy125];exact H)|exact H
     have Ny125:=mk0 hy125;clear hy125;have H':=mk0 H;clear H;have p16:0≤(x5_1:Int):=of_decide_eq_true zq1;have q16:x5_1<(a1.size:Int):=of_decide_eq_true zq1;have hx16:=bt_at a1 x5_1;replace p16:=eq_true p16;replace q16:=eq_true q16;go_wp2_with (first|((with_reducible refine j1p (b := .append) (xs:=#[.tmp 33, .tmp 34]) rfl ?_);at_builtin;refine Kd.R_append (Kd.int .u8) (w0:=w0) w0.heap.size rfl (.tmp 33) (.tmp 34) 30 5 (.int .u8 0) 1 rfl Tryd.underlying30 info5 rfl zq24 (by omega) u0 x0_1 92 [.int .u8 92] (fun k_=>(P0_ k_∨w.heap.size≤k_)) (fun _=>False) rfl rfl ?aP (fun _ hk=>hk.elim) ?aF ?aO ?aB ?aS ?aL ?_;(case aP=>exact rfl);(case aB=>exact zq0);(case aF=>exact (fun k_ hk=>(.inr (Nat.le_trans zq4 hk))));(case aO=>exact zq5);(case aS=>exact (j1m zq0));(case aL=>exact zq15);intro v114 w34 ho hb hg hat;rw [← Ny113.out] at ho;have n0_:=mk0 (hb);have n1_:=mk0 (Kept.of_grown (S:=(fun k_=>P0_ k_)) hg zq2 (fun k_ e_=>(HO_0.out.1 k_ e_)));have n2_:=mk0 (ho);clear HB HK HO_0;have HB:=n0_;have HK:=n1_;have HO115:=n2_;clear n0_ n1_ n2_;clear ho hb hg hat;have p19:0≤(x5_1:Int):=of_decide_eq_true zq1;have q19:x5_1<(a1.size:Int):=of_decide_eq_true zq1;have hx19:=bt_at a1 x5_1;replace p19:=eq_true p19;replace q19:=eq_true q19)|((with_reducible refine j1p (b := .append) (xs:=#[.tmp 65, .tmp 66]) rfl ?_);at_builtin;refine Kd.R_append (Kd.int .u8) (w0:=w0) w0.heap.size rfl (.tmp 65) (.tmp 66) 30 5 (.int .u8 0) 1 rfl Tryd.underlying30 info5 rfl zq24 (by omega) v114 y113 114 [.int .u8 114] (fun k_=>(P0_ k_∨w.heap.size≤k_)) (fun _=>False) rfl rfl ?aP (fun _ hk=>hk.elim) ?aF ?aO ?aB ?aS ?aL ?_;(case aP=>exact rfl);(case aB=>exact zq0);(case aF=>exact (fun k_ hk=>(.inr (Nat.le_trans zq4 hk))));(case aO=>exact zq16);(case aS=>exact (j1m zq0));(case aL=>have:=LMc33.out;first|omega|(simp only [List.length_cons,List.length_nil] at this ⊢; omega));intro v126 w35 ho hb hg hat;rw [← Ny125.out] at ho;have n0_:=mk0 (hb);have n1_:=mk0 (Kept.of_grown (S:=(fun k_=>P0_ k_)) hg zq2 (fun k_ e_=>(HO115.out.1 k_ e_)));have n2_:=mk0 (ho);clear HB HK HO115;have HB:=n0_;have HK:=n1_;have HO127:=n2_;clear n0_ n1_ n2_;clear ho hb hg hat))
     go_roundg k1
     case measure=>have:=HK1.out;omega
     case rel=>exact ⟨(y125),(wrap64 (x5_1+1)),zq7,H',⟨by have:=HK1.out;omega⟩,⟨by (with_reducible repeat (first|apply Kd.R_alloc|apply Kd.R_drewN|apply Kd.R_drew));exact HO127.out⟩,⟨by repeat (first|(with_reducible first|exact HK.out|apply Kept.alloc|apply Kept.drewN|apply Kept.drew)|exact HK.out)⟩,⟨by repeat (first|(with_reducible first|exact HB.out|apply j1i|apply j1d|apply j1h)|exact HB.out)⟩⟩
    rw [if_neg c32] at H;have c32b0:((bt a1 x5_1) == 13)=false:=beq_eq_false_iff_ne.mpr c32;have c32b1:((bt a1 x5_1) != 13)=true:=bne_iff_ne.mpr c32;by_cases c36:(bt a1 x5_1)=9
    ·rw [if_pos c36] at H;have c36b0:((bt a1 x5_1) == 9)=true:=beq_iff_eq.mpr c36;have c36b1:((bt a1 x5_1) != 9)=false:=bne_eq_false_iff_eq.mpr c36;clear c36;by_cases c37:y113.length<140737488355328
     rotate_left
     ·rw [if_neg c37] at H;exact absurd H (by simp)
     rw [if_pos c37] at H;have LMc37:=mk0 c37;clear c37;obtain ⟨y128,hy128⟩:∃ y_:List Int,y_=(y113++[116]):=⟨_,rfl⟩;replace H:(j1a.l0 k1 y128 a1 (wrap64 (x5_1+1)))=some r:=by first|(rw [hy128];with_reducible exact H)|(have H2_:=(Option.bind_some _ _).symm.trans H;rw [hy128];with_reducible exact H2_)|(have H2_:=(Option.bind_some _ _).symm.trans H;with_reducible exact H2_)|with_reducible exact H|(rw [hy128];exact H)|exact H
     have Ny128:=mk0 hy128;clear hy128;have H':=mk0 H;clear H;have p16:0≤(x5_1:Int):=of_decide_eq_true zq1;have q16:x5_1<(a1.size:Int):=of_decide_eq_true zq1;have hx16:=bt_at a1 x5_1;replace p16:=eq_true p16;replace q16:=eq_true q16;go_wp2_with (first|((with_reducible refine j1p (b := .append) (xs:=#[.tmp 33, .tmp 34]) rfl ?_);at_builtin;refine Kd.R_append (Kd.int .u8) (w0:=w0) w0.heap.size rfl (.tmp 33) (.tmp 34) 30 5 (.int .u8 0) 1 rfl Tryd.underlying30 info5 rfl zq24 (by omega) u0 x0_1 92 [.int .u8 92] (fun k_=>(P0_ k_∨w.heap.size≤k_)) (fun _=>False) rfl rfl ?aP (fun _ hk=>hk.elim) ?aF ?aO ?aB ?aS ?aL ?_;(case aP=>exact rfl);(case aB=>exact zq0);(case aF=>exact (fun k_ hk=>(.inr (Nat.le_trans zq4 hk))));(case aO=>exact zq5);(case aS=>exact (j1m zq0));(case aL=>exact zq15);intro v114 w38 ho hb hg hat;rw [← Ny113.out] at ho;have n0_:=mk0 (hb);have n1_:=mk0 (Kept.of_grown (S:=(fun k_=>P0_ k_)) hg zq2 (fun k_ e_=>(HO_0.out.1 k_ e_)));have n2_:=mk0 (ho);clear HB HK HO_0;have HB:=n0_;have HK:=n1_;have HO115:=n2_;clear n0_ n1_ n2_;clear ho hb hg hat;have p19:0≤(x5_1:Int):=of_decide_eq_true zq1;have q19:x5_1<(a1.size:Int):=of_decide_eq_true zq1;have hx19:=bt_at a1 x5_1;replace p19:=eq_true p19;replace q19:=eq_true q19)|((with_reducible refine j1p (b := .append) (xs:=#[.tmp 70, .tmp 71]) rfl ?_);at_builtin;refine Kd.R_append (Kd.int .u8) (w0:=w0) w0.heap.size rfl (.tmp 70) (.tmp 71) 30 5 (.int .u8 0) 1 rfl Tryd.underlying30 info5 rfl zq24 (by omega) v114 y113 116 [.int .u8 116] (fun k_=>(P0_ k_∨w.heap.size≤k_)) (fun _=>False) rfl rfl ?aP (fun _ hk=>hk.elim) ?aF ?aO ?aB ?aS ?aL ?_;(case aP=>exact rfl);(case aB=>exact zq0);(case aF=>exact (fun k_ hk=>(.inr (Nat.le_trans zq4 hk))));(case aO=>exact zq16);(case aS=>exact (j1m zq0));(case aL=>have:=LMc37.out;first|omega|(simp only [List.length_cons,List.length_nil] at this ⊢; omega));intro v129 w39 ho hb hg hat;rw [← Ny128.out] at ho;have n0_:=mk0 (hb);have n1_:=mk0 (Kept.of_grown (S:=(fun k_=>P0_ k_)) hg zq2 (fun k_ e_=>(HO115.out.1 k_ e_)));have n2_:=mk0 (ho);clear HB HK HO115;have HB:=n0_;have HK:=n1_;have HO130:=n2_;clear n0_ n1_ n2_;clear ho hb hg hat))
     go_roundg k1
     case measure=>have:=HK1.out;omega
     case rel=>exact ⟨(y128),(wrap64 (x5_1+1)),zq7,H',⟨by have:=HK1.out;omega⟩,⟨by (with_reducible repeat (first|apply Kd.R_alloc|apply Kd.R_drewN|apply Kd.R_drew));exact HO130.out⟩,⟨by repeat (first|(with_reducible first|exact HK.out|apply Kept.alloc|apply Kept.drewN|apply Kept.drew)|exact HK.out)⟩,⟨by repeat (first|(with_reducible first|exact HB.out|apply j1i|apply j1d|apply j1h)|exact HB.out)⟩⟩
    rw [if_neg c36] at H;have c36b0:((bt a1 x5_1) == 9)=false:=beq_eq_false_iff_ne.mpr c36;have c36b1:((bt a1 x5_1) != 9)=true:=bne_iff_ne.mpr c36;by_cases c40:y113.length<140737488355328
    rotate_left
    ·rw [if_neg c40] at H;exact absurd H (by simp)
    rw [if_pos c40] at H;have LMc40:=mk0 c40;clear c40;obtain ⟨y131,hy131⟩:∃ y_:List Int,y_=(y113++[117]):=⟨_,rfl⟩;replace H:((j1o.f y131 (IntKind.u16.wrap (bt a1 x5_1))).bind fun t134=>(j1a.l0 k1 t134 a1 (wrap64 (x5_1+1))))=some r:=by first|(rw [hy131];with_reducible exact H)|(have H2_:=(Option.bind_some _ _).symm.trans H;rw [hy131];with_reducible exact H2_)|(have H2_:=(Option.bind_some _ _).symm.trans H;with_reducible exact H2_)|with_reducible exact H|(rw [hy131];exact H)|exact H
    have Ny131:=mk0 hy131;clear hy131;replace H:=Option.bind_eq_some_iff.mp H;obtain ⟨t134,A420,H⟩:=H;replace H:(j1a.l0 k1 t134 a1 (wrap64 (x5_1+1)))=some r:=H;have A42:=mk0 A420;clear A420;have H':=mk0 H;clear H;have p16:0≤(x5_1:Int):=of_decide_eq_true zq1;have q16:x5_1<(a1.size:Int):=of_decide_eq_true zq1;have hx16:=bt_at a1 x5_1;replace p16:=eq_true p16;replace q16:=eq_true q16;go_wp2_with (first|((with_reducible refine j1p (b := .append) (xs:=#[.tmp 33, .tmp 34]) rfl ?_);at_builtin;refine Kd.R_append (Kd.int .u8) (w0:=w0) w0.heap.size rfl (.tmp 33) (.tmp 34) 30 5 (.int .u8 0) 1 rfl Tryd.underlying30 info5 rfl zq24 (by omega) u0 x0_1 92 [.int .u8 92] (fun k_=>(P0_ k_∨w.heap.size≤k_)) (fun _=>False) rfl rfl ?aP (fun _ hk=>hk.elim) ?aF ?aO ?aB ?aS ?aL ?_;(case aP=>exact rfl);(case aB=>exact zq0);(case aF=>exact (fun k_ hk=>(.inr (Nat.le_trans zq4 hk))));(case aO=>exact zq5);(case aS=>exact (j1m zq0));(case aL=>exact zq15);intro v114 w43 ho hb hg hat;rw [← Ny113.out] at ho;have n0_:=mk0 (hb);have n1_:=mk0 (Kept.of_grown (S:=(fun k_=>P0_ k_)) hg zq2 (fun k_ e_=>(HO_0.out.1 k_ e_)));have n2_:=mk0 (ho);clear HB HK HO_0;have HB:=n0_;have HK:=n1_;have HO115:=n2_;clear n0_ n1_ n2_;clear ho hb hg hat;have p19:0≤(x5_1:Int):=of_decide_eq_true zq1;have q19:x5_1<(a1.size:Int):=of_decide_eq_true zq1;have hx19:=bt_at a1 x5_1;replace p19:=eq_true p19;replace q19:=eq_true q19)|((with_reducible refine j1p (b := .append) (xs:=#[.tmp 39, .tmp 40]) rfl ?_);at_builtin;refine Kd.R_append (Kd.int .u8) (w0:=w0) w0.heap.size rfl (.tmp 39) (.tmp 40) 30 5 (.int .u8 0) 1 rfl Tryd.underlying30 info5 rfl zq24 (by omega) v114 y113 117 [.int .u8 117] (fun k_=>(P0_ k_∨w.heap.size≤k_)) (fun _=>False) rfl rfl ?aP (fun _ hk=>hk.elim) ?aF ?aO ?aB ?aS ?aL ?_;(case aP=>exact rfl);(case aB=>exact zq0);(case aF=>exact (fun k_ hk=>(.inr (Nat.le_trans zq4 hk))));(case aO=>exact zq16);(case aS=>exact (j1m zq0));(case aL=>have:=LMc40.out;first|omega|(simp only [List.length_cons,List.length_nil] at this ⊢; omega));intro v132 w44 ho hb hg hat;rw [← Ny131.out] at ho;have n0_:=mk0 (hb);have n1_:=mk0 (Kept.of_grown (S:=(fun k_=>P0_ k_)) hg zq2 (fun k_ e_=>(HO115.out.1 k_ e_)));have n2_:=mk0 (ho);clear HB HK HO115;have HB:=n0_;have HK:=n1_;have HO133:=n2_;clear n0_ n1_ n2_;clear ho hb hg hat;have p41:0≤(x5_1:Int):=of_decide_eq_true zq1;have q41:x5_1<(a1.size:Int):=of_decide_eq_true zq1;have hx41:=bt_at a1 x5_1;replace p41:=eq_true p41;replace q41:=eq_true q41;obtain ⟨Ao45,co45,eo45⟩:=Kd.R_slice HO133.out;subst eo45)|((with_reducible refine j1z (f:=14) rfl ?_);refine j2l (some 47) rfl rfl Tryd.func14 zq12 rfl #[.slice Ao45 y131.length co45, .int .u16 (IntKind.u16.wrap (bt a1 x5_1))] rfl zq3 ?_;(with_reducible refine (j1o.calls (fun k_=>some k_=(.slice Ao45 y131.length co45:Value).ownBlock) (.slice Ao45 y131.length co45) y131 (IntKind.u16.wrap (bt a1 x5_1)) t134 w0 _ ?side1 ?side2 ?side3 A42.out).mono ?_);(case side1=>exact zq0);(case side2=>exact Kd.R_tight rfl HO133.out);(case side3=>exact zq11);rintro e w46 ⟨v135,rfl,ho0,hb,hkp⟩;refine ⟨_,rfl,?_⟩;have n0_:=mk0 (Kd.R_mono (ok':=fun k_=>(P0_ k_∨w.heap.size≤k_)) ho0 (fun k_ hk_=>Or.elim hk_ (fun hs_=>(HO133.out.1 k_ (hs_).symm)) (fun hn_=>(.inr (Nat.le_trans zq4 hn_)))));have n1_:=mk0 (Kept.then_ (S:=(fun k_=>P0_ k_)) zq2 hkp (fun k_ hs_=>(fun e_=>(HO133.out.1 k_ e_.symm)) hs_));have n2_:=mk0 (hb);clear HK HB HO133;have HO136:=n0_;have HK:=n1_;have HB:=n2_;clear n0_ n1_ n2_;(try clear hb);(try clear hkp);(try clear ho0)))
    go_roundg k1
    case measure=>have:=HK1.out;omega
    case rel=>exact ⟨(t134),(wrap64 (x5_1+1)),zq7,H',⟨by have:=HK1.out;omega⟩,⟨by (with_reducible repeat (first|apply Kd.R_alloc|apply Kd.R_drewN|apply Kd.R_drew));exact HO136.out⟩,⟨by repeat (first|(with_reducible first|exact HK.out|apply Kept.alloc|apply Kept.drewN|apply Kept.drew)|exact HK.out)⟩,⟨by repeat (first|(with_reducible first|exact HB.out|apply j1i|apply j1d|apply j1h)|exact HB.out)⟩⟩
   rw [if_neg c17] at H;have c17b0:decide ((bt a1 x5_1)<32)=false:=decide_eq_false c17;clear c17;have HC47:=mk0 H;clear H;have p16:0≤(x5_1:Int):=of_decide_eq_true zq1;have q16:x5_1<(a1.size:Int):=of_decide_eq_true zq1;have hx16:=bt_at a1 x5_1;replace p16:=eq_true p16;replace q16:=eq_true q16;go_upto_region 21 with (fail)
   go_cut [88] (fun v88 wc=>∃ (kq:Nat) (x88_46:Bool),v88 = .bool x88_46∧Aside0 (j1a.j1 kq x0_1 a1 x5_1 x88_46=some r)∧Aside0 (kq≤k1)∧Aside0 (Kd.R (Kd.int .u8) 5 wc w0.heap.size (fun k_=>(P0_ k_∨w.heap.size≤k_)) u0 x0_1)∧Aside0 (Kept w wc (fun k_=>P0_ k_))∧Aside0 (Below w0.heap.size w0 wc))
   case first=>as_aux_lemma =>
    have H:=HC47.out;clear HC47;by_cases c49:(bt a1 x5_1)=62
    ·rw [if_pos c49] at H;have c49b0:((bt a1 x5_1) == 62)=true:=beq_iff_eq.mpr c49;have c49b1:((bt a1 x5_1) != 62)=false:=bne_eq_false_iff_eq.mpr c49;clear c49;(first|rw [c49b0]|(simp only [i64_w,i32_w];rw [c49b0])|skip);have H':=mk0 H;clear H;have p48:0≤(x5_1:Int):=of_decide_eq_true zq1;have q48:x5_1<(a1.size:Int):=of_decide_eq_true zq1;have hx48:=bt_at a1 x5_1;replace p48:=eq_true p48;replace q48:=eq_true q48;go_wp2;go_meet
     case rel=>exact ⟨_,(true),zq7,H',⟨by have:=HK1.out;first|omega|exact Nat.le_refl _⟩,⟨by (with_reducible repeat (first|apply Kd.R_alloc|apply Kd.R_drewN|apply Kd.R_drew));exact HO_0.out⟩,⟨by repeat (first|(with_reducible first|exact HK.out|apply Kept.alloc|apply Kept.drewN|apply Kept.drew)|exact HK.out)⟩,⟨by repeat (first|(with_reducible first|exact HB.out|apply j1i|apply j1d|apply j1h)|exact HB.out)⟩⟩
    rw [if_neg c49] at H;have c49b0:((bt a1 x5_1) == 62)=false:=beq_eq_false_iff_ne.mpr c49;have c49b1:((bt a1 x5_1) != 62)=true:=bne_iff_ne.mpr c49;(first|rw [c49b0]|(simp only [i64_w,i32_w];rw [c49b0])|skip);by_cases c51:(bt a1 x5_1)=60
    ·rw [if_pos c51] at H;have c51b0:((bt a1 x5_1) == 60)=true:=beq_iff_eq.mpr c51;have c51b1:((bt a1 x5_1) != 60)=false:=bne_eq_false_iff_eq.mpr c51;clear c51;have H':=mk0 H;clear H;have p48:0≤(x5_1:Int):=of_decide_eq_true zq1;have q48:x5_1<(a1.size:Int):=of_decide_eq_true zq1;have hx48:=bt_at a1 x5_1;replace p48:=eq_true p48;replace q48:=eq_true q48;have p50:0≤(x5_1:Int):=of_decide_eq_true zq1;have q50:x5_1<(a1.size:Int):=of_decide_eq_true zq1;have hx50:=bt_at a1 x5_1;replace p50:=eq_true p50;replace q50:=eq_true q50;go_wp2;go_meet
     case rel=>exact ⟨_,(true),zq7,H',⟨by have:=HK1.out;first|omega|exact Nat.le_refl _⟩,⟨by (with_reducible repeat (first|apply Kd.R_alloc|apply Kd.R_drewN|apply Kd.R_drew));exact HO_0.out⟩,⟨by repeat (first|(with_reducible first|exact HK.out|apply Kept.alloc|apply Kept.drewN|apply Kept.drew)|exact HK.out)⟩,⟨by repeat (first|(with_reducible first|exact HB.out|apply j1i|apply j1d|apply j1h)|exact HB.out)⟩⟩
    rw [if_neg c51] at H;have c51b0:((bt a1 x5_1) == 60)=false:=beq_eq_false_iff_ne.mpr c51;have c51b1:((bt a1 x5_1) != 60)=true:=bne_iff_ne.mpr c51;have H':=mk0 H;clear H;have p48:0≤(x5_1:Int):=of_decide_eq_true zq1;have q48:x5_1<(a1.size:Int):=of_decide_eq_true zq1;have hx48:=bt_at a1 x5_1;replace p48:=eq_true p48;replace q48:=eq_true q48;have p50:0≤(x5_1:Int):=of_decide_eq_true zq1;have q50:x5_1<(a1.size:Int):=of_decide_eq_true zq1;have hx50:=bt_at a1 x5_1;replace p50:=eq_true p50;replace q50:=eq_true q50;have p52:0≤(x5_1:Int):=of_decide_eq_true zq1;have q52:x5_1<(a1.size:Int):=of_decide_eq_true zq1;have hx52:=bt_at a1 x5_1;replace p52:=eq_true p52;replace q52:=eq_true q52;go_wp2;go_meet
    case rel=>exact ⟨_,(((bt a1 x5_1) == 38)),zq7,H',⟨by have:=HK1.out;first|omega|exact Nat.le_refl _⟩,⟨by (with_reducible repeat (first|apply Kd.R_alloc|apply Kd.R_drewN|apply Kd.R_drew));exact HO_0.out⟩,⟨by repeat (first|(with_reducible first|exact HK.out|apply Kept.alloc|apply Kept.drewN|apply Kept.drew)|exact HK.out)⟩,⟨by repeat (first|(with_reducible first|exact HB.out|apply j1i|apply j1d|apply j1h)|exact HB.out)⟩⟩
   case rest=>as_aux_lemma =>
    clear HC47
    try clear c1
    try clear p1
    try clear q1
    try clear hx1
    try clear c2
    try clear p2
    try clear c3
    try clear c4
    try clear c4b0
    try clear c4b1
    try clear p4
    try clear q4
    try clear hx4
    try clear c5
    try clear p5
    try clear q5
    try clear hx5
    try clear p6
    try clear c7
    try clear c7b0
    try clear c7b1
    try clear c8
    try clear c8b0
    try clear c8b1
    try clear c9
    try clear q12
    try clear c14
    try clear c14b0
    try clear c15
    try clear c15b0
    try clear p16
    try clear q16
    try clear hx16
    try clear c17
    try clear c17b0
    try clear c18
    try clear p19
    try clear q19
    try clear hx19
    try clear c20
    try clear c20b0
    try clear c20b1
    try clear c21
    try clear c24
    try clear c24b0
    try clear c24b1
    try clear c25
    try clear c28
    try clear c28b0
    try clear c28b1
    try clear c29
    try clear c32
    try clear c32b0
    try clear c32b1
    try clear c33
    try clear c36
    try clear c36b0
    try clear c36b1
    try clear c37
    try clear c40
    try clear p41
    try clear q41
    try clear hx41
    try clear p48
    try clear q48
    try clear hx48
    try clear c49
    try clear c49b0
    try clear c49b1
    try clear p50
    try clear q50
    try clear hx50
    try clear c51
    try clear c51b0
    try clear c51b1
    try clear p52
    try clear q52
    try clear hx52
    try clear p16
    try clear p19
    try clear p2
    try clear p41
    try clear p48
    try clear p50
    try clear p52
    try clear p6
    try clear q1
    try clear q12
    try clear q16
    try clear q19
    try clear q41
    try clear q48
    try clear q50
    try clear q52
    obtain ⟨kq,x88_46,rfl,HA,HJ46,HO_0,HK,HB⟩:=hcut;cases kq with
    | zero=>exact absurd HA.out (by simp [j1a.j1])
    | succ kj46 =>
     have H:=HA.out;clear HA;simp only [j1a.j1] at H;by_cases c53:x88_46=true
     ·subst c53;have H1:((j2f.f).bind fun t137=>(if t137=true then ((some (([92,117]:List Int):List Int)).bind fun y138=>(if x0_1.length+y138.length<140737488355328 then (if 0≤x5_1 then (if x5_1<(a1.size:Int) then ((j1o.f (x0_1++y138) (IntKind.u16.wrap (bt a1 x5_1))).bind fun t144=>(j1a.l0 kj46 t144 a1 (wrap64 (x5_1+1)))) else (none)) else (none)) else (none))) else (if 0≤x5_1 then (if x5_1<(a1.size:Int) then (if x0_1.length<140737488355328 then (j1a.l0 kj46 (x0_1++[bt a1 x5_1]) a1 (wrap64 (x5_1+1))) else (none)) else (none)) else (none))))=some r:=by rw [if_pos rfl] at H;exact H
      clear H;have H:=H1;clear H1;replace H:=Option.bind_eq_some_iff.mp H;obtain ⟨t137,A540,H⟩:=H;replace H:(if t137=true then ((some (([92,117]:List Int):List Int)).bind fun y138=>(if x0_1.length+y138.length<140737488355328 then (if 0≤x5_1 then (if x5_1<(a1.size:Int) then ((j1o.f (x0_1++y138) (IntKind.u16.wrap (bt a1 x5_1))).bind fun t144=>(j1a.l0 kj46 t144 a1 (wrap64 (x5_1+1)))) else (none)) else (none)) else (none))) else (if 0≤x5_1 then (if x5_1<(a1.size:Int) then (if x0_1.length<140737488355328 then (j1a.l0 kj46 (x0_1++[bt a1 x5_1]) a1 (wrap64 (x5_1+1))) else (none)) else (none)) else (none)))=some r:=H;have A54:=mk0 A540;clear A540;by_cases c55:t137=true
      rotate_left
      ·replace c55:=Bool.eq_false_iff.mpr c55;subst c55;have H1:(if 0≤x5_1 then (if x5_1<(a1.size:Int) then (if x0_1.length<140737488355328 then (j1a.l0 kj46 (x0_1++[bt a1 x5_1]) a1 (wrap64 (x5_1+1))) else (none)) else (none)) else (none))=some r:=by rw [if_neg (show ¬ (false=true) by decide)] at H;exact H
       clear H;have H:=H1;clear H1;by_cases c67:0≤x5_1
       rotate_left
       ·rw [if_neg c67] at H;exact absurd H (by simp)
       rw [if_pos c67] at H;have c67b0:decide (0≤x5_1)=true:=decide_eq_true c67;clear c67;by_cases c68:x5_1<(a1.size:Int)
       rotate_left
       ·rw [if_neg c68] at H;exact absurd H (by simp)
       rw [if_pos c68] at H;have c68b0:decide (x5_1<(a1.size:Int))=true:=decide_eq_true c68;clear c68;by_cases c70:x0_1.length<140737488355328
       rotate_left
       ·rw [if_neg c70] at H;exact absurd H (by simp)
       rw [if_pos c70] at H;have LMc70:=mk0 c70;clear c70;obtain ⟨y147,hy147⟩:∃ y_:List Int,y_=(x0_1++[bt a1 x5_1]):=⟨_,rfl⟩;replace H:(j1a.l0 kj46 y147 a1 (wrap64 (x5_1+1)))=some r:=by first|(rw [hy147];with_reducible exact H)|(have H2_:=(Option.bind_some _ _).symm.trans H;rw [hy147];with_reducible exact H2_)|(have H2_:=(Option.bind_some _ _).symm.trans H;with_reducible exact H2_)|with_reducible exact H|(rw [hy147];exact H)|exact H
       have Ny147:=mk0 hy147;clear hy147;have H':=mk0 H;clear H;go_wp2_with (first|((with_reducible refine j1z (f:=15) rfl ?_);refine j2l (some 89) rfl rfl Tryd.func15 zq12 rfl #[] rfl zq3 ?_;(with_reducible refine (j2f.calls  false _ A54.out).mono ?_);rintro e w' ⟨rfl,⟨nd,rfl⟩⟩;refine ⟨_,rfl,?_⟩;have p69:0≤(x5_1:Int):=of_decide_eq_true zq1;have q69:x5_1<(a1.size:Int):=of_decide_eq_true zq1;have hx69:=bt_at a1 x5_1;replace p69:=eq_true p69;replace q69:=eq_true q69)|((with_reducible refine j1p (b := .append) (xs:=#[.tmp 99, .tmp 103]) rfl ?_);at_builtin;refine Kd.R_append (Kd.int .u8) (w0:=w0) w0.heap.size rfl (.tmp 99) (.tmp 103) 30 5 (.int .u8 0) 1 rfl Tryd.underlying30 info5 rfl zq24 (by omega) u0 x0_1 (bt a1 x5_1) [.int .u8 (bt a1 x5_1)] (fun k_=>(P0_ k_∨w.heap.size≤k_)) (fun _=>False) rfl rfl ?aP (fun _ hk=>hk.elim) ?aF ?aO ?aB ?aS ?aL ?_;(case aP=>exact rfl);(case aB=>exact zq0);(case aF=>exact (fun k_ hk=>(.inr (Nat.le_trans zq4 hk))));(case aO=>exact zq5);(case aS=>exact (j1m zq0));(case aL=>have:=LMc70.out;first|omega|(simp only [List.length_cons,List.length_nil] at this ⊢; omega));intro v148 w71 ho hb hg hat;rw [← Ny147.out] at ho;have n0_:=mk0 (hb);have n1_:=mk0 (Kept.of_grown (S:=(fun k_=>P0_ k_)) hg zq2 (fun k_ e_=>(HO_0.out.1 k_ e_)));have n2_:=mk0 (ho);clear HB HK HO_0;have HB:=n0_;have HK:=n1_;have HO149:=n2_;clear n0_ n1_ n2_;clear ho hb hg hat))
       go_roundg kj46
       case measure=>have:=HK1.out;have:=HJ46.out;omega
       case rel=>exact ⟨(y147),(wrap64 (x5_1+1)),zq7,H',⟨by have:=HK1.out;have:=HJ46.out;omega⟩,⟨by (with_reducible repeat (first|apply Kd.R_alloc|apply Kd.R_drewN|apply Kd.R_drew));exact HO149.out⟩,⟨by repeat (first|(with_reducible first|exact HK.out|apply Kept.alloc|apply Kept.drewN|apply Kept.drew)|exact HK.out)⟩,⟨by repeat (first|(with_reducible first|exact HB.out|apply j1i|apply j1d|apply j1h)|exact HB.out)⟩⟩
      subst c55;have H1:((some (([92,117]:List Int):List Int)).bind fun y138=>(if x0_1.length+y138.length<140737488355328 then (if 0≤x5_1 then (if x5_1<(a1.size:Int) then ((j1o.f (x0_1++y138) (IntKind.u16.wrap (bt a1 x5_1))).bind fun t144=>(j1a.l0 kj46 t144 a1 (wrap64 (x5_1+1)))) else (none)) else (none)) else (none)))=some r:=by rw [if_pos rfl] at H;exact H
      clear H;have H:=H1;clear H1;obtain ⟨y138,hy138⟩:∃ y_:List Int,y_=(([92,117]:List Int)):=⟨_,rfl⟩;replace H:(if x0_1.length+y138.length<140737488355328 then (if 0≤x5_1 then (if x5_1<(a1.size:Int) then ((j1o.f (x0_1++y138) (IntKind.u16.wrap (bt a1 x5_1))).bind fun t144=>(j1a.l0 kj46 t144 a1 (wrap64 (x5_1+1)))) else (none)) else (none)) else (none))=some r:=by first|(rw [hy138];with_reducible exact H)|(have H2_:=(Option.bind_some _ _).symm.trans H;rw [hy138];with_reducible exact H2_)|(have H2_:=(Option.bind_some _ _).symm.trans H;with_reducible exact H2_)|with_reducible exact H|(rw [hy138];exact H)|exact H
      have Ny138:=mk0 hy138;clear hy138;by_cases c56:x0_1.length+y138.length<140737488355328
      rotate_left
      ·rw [if_neg c56] at H;exact absurd H (by simp)
      rw [if_pos c56] at H;have LMc56:=mk0 c56;clear c56;obtain ⟨y141,hy141⟩:∃ y_:List Int,y_=(x0_1++y138):=⟨_,rfl⟩;replace H:(if 0≤x5_1 then (if x5_1<(a1.size:Int) then ((j1o.f y141 (IntKind.u16.wrap (bt a1 x5_1))).bind fun t144=>(j1a.l0 kj46 t144 a1 (wrap64 (x5_1+1)))) else (none)) else (none))=some r:=by first|(rw [hy141];with_reducible exact H)|(have H2_:=(Option.bind_some _ _).symm.trans H;rw [hy141];with_reducible exact H2_)|(have H2_:=(Option.bind_some _ _).symm.trans H;with_reducible exact H2_)|with_reducible exact H|(rw [hy141];exact H)|exact H
      have Ny141:=mk0 hy141;clear hy141;by_cases c57:0≤x5_1
      rotate_left
      ·rw [if_neg c57] at H;exact absurd H (by simp)
      rw [if_pos c57] at H;have c57b0:decide (0≤x5_1)=true:=decide_eq_true c57;clear c57;by_cases c58:x5_1<(a1.size:Int)
      rotate_left
      ·rw [if_neg c58] at H;exact absurd H (by simp)
      rw [if_pos c58] at H;have c58b0:decide (x5_1<(a1.size:Int))=true:=decide_eq_true c58;clear c58;replace H:=Option.bind_eq_some_iff.mp H;obtain ⟨t144,A600,H⟩:=H;replace H:(j1a.l0 kj46 t144 a1 (wrap64 (x5_1+1)))=some r:=H;have A60:=mk0 A600;clear A600;have H':=mk0 H;clear H;go_wp2_with (first|((with_reducible refine j1z (f:=15) rfl ?_);refine j2l (some 89) rfl rfl Tryd.func15 zq12 rfl #[] rfl zq3 ?_;(with_reducible refine (j2f.calls  true _ A54.out).mono ?_);rintro e w' ⟨rfl,⟨nd,rfl⟩⟩;refine ⟨_,rfl,?_⟩)|((with_reducible refine j2j (N:=91) rfl ?_);refine Kd.R_lit (Kd.int .u8) _ 5 ?hg (N:=91) ?hd (xs:=([92,117]:List Int)) (inner:=[.int .u8 92, .int .u8 117]) (ok:=fun _=>True) (okp:=fun _=>True) ?hr ?hp (fun _ hk=>hk) trivial (Below.refl _ _) (Nat.le_refl _) (by simp) ?_;(case hd=>rfl);(case hg=>rfl);(case hr=>exact zq18);(case hp=>exact (Reps.one (show Kd.M (Kd.int .u8) _ _ _ 92 [.int .u8 92] from rfl) (Reps.one (show Kd.M (Kd.int .u8) _ _ _ 117 [.int .u8 117] from rfl) (Reps.none _ _))));intro v139 w61 ho62 hb hg_ hnew_;clear hg_ hnew_;(first|rw [← Ny138.out] at ho62|(simp only [Int.reduceToNat] at ho62;rw [← Ny138.out] at ho62));have n0_:=mk0 (Kd.R_elder' zq5 (Kd.R_base ho62) hb);have n1_:=mk0 (Kd.R_lower (Kd.R_new' (Kd.R_newM (M:=fun k_=>(P0_ k_∨w.heap.size≤k_)) ho62 zq4 (fun k_ h_ => .inr h_)) (Kd.R_lt zq5)) (j1m zq0));have n2_:=mk0 (Kept.below (S:=(fun k_=>P0_ k_)) zq2 hb);have n3_:=mk0 (j1r zq0 hb);clear HO_0 HK HB;have HO_0:=n0_;have HO140:=n1_;have HK:=n2_;have HB:=n3_;clear n0_ n1_ n2_ n3_;clear hb ho62;obtain ⟨Ao64,co64,eo64⟩:=Kd.R_slice HO140.out;subst eo64)|((with_reducible refine j1p (b := .append) (xs:=#[.tmp 90, .tmp 91]) rfl ?_);at_builtin;refine Kd.R_append_rows (Kd.int .u8) (w0:=w0) w0.heap.size rfl (.tmp 90) (.tmp 91) 30 5 (.int .u8 0) 1 rfl Tryd.underlying30 info5 rfl zq24 (by omega) u0 x0_1 y138 _ _ _ (fun k_=>(P0_ k_∨w.heap.size≤k_)∧some k_≠(.slice Ao64 y138.length co64:Value).ownBlock) (fun _=>False) rfl rfl ?aO ?aR (fun _ _ h=>h) (fun _ h=>h.elim) ?aF ?aB ?aS ?aL ?_;(case aR=>repeat (first|exact (Kd.R_reads' HO140.out).2.2|(with_reducible refine Kd.C_alloc ?_ _)|(with_reducible refine Kd.C_drewN ?_ _)|(with_reducible refine Kd.C_drew ?_)));(case aB=>exact zq0);(case aF=>exact (fun k_ hk=>⟨(.inr (Nat.le_trans zq4 hk)),Kd.fresh' (Kd.R_lt (by (with_reducible repeat (first|apply Kd.R_alloc|apply Kd.R_drewN|apply Kd.R_drew));exact HO140.out)) k_ hk⟩));(case aO=>exact zq5);(case aS=>exact (j1m zq0));(case aL=>have:=LMc56.out;first|omega|(simp only [List.length_cons,List.length_nil] at this ⊢; omega));intro v142 w63 ho hb hg hat;rw [← Ny141.out] at ho;have n0_:=mk0 (Kd.R_after (ok:=(fun k_=>(P0_ k_∨w.heap.size≤k_))) (by (with_reducible repeat (first|apply Kd.R_alloc|apply Kd.R_drewN|apply Kd.R_drew));exact Kd.R_mono HO140.out (fun _ hk=>⟨hk.1.1,hk.2⟩)) hg hat);have n1_:=mk0 (hb);have n2_:=mk0 (Kept.of_grown (S:=(fun k_=>P0_ k_)) hg zq2 (fun k_ e_=>(HO_0.out.1 k_ e_).1));have n3_:=mk0 (ho);clear HO140 HB HK HO_0;have HO140:=n0_;have HB:=n1_;have HK:=n2_;have HO143:=n3_;clear n0_ n1_ n2_ n3_;clear ho hb hg hat;have p59:0≤(x5_1:Int):=of_decide_eq_true zq1;have q59:x5_1<(a1.size:Int):=of_decide_eq_true zq1;have hx59:=bt_at a1 x5_1;replace p59:=eq_true p59;replace q59:=eq_true q59;obtain ⟨Ao65,co65,eo65⟩:=Kd.R_slice HO143.out;subst eo65)|((with_reducible refine j1z (f:=14) rfl ?_);refine j2l (some 98) rfl rfl Tryd.func14 zq12 rfl #[.slice Ao65 y141.length co65, .int .u16 (IntKind.u16.wrap (bt a1 x5_1))] rfl zq3 ?_;(with_reducible refine (j1o.calls (fun k_=>some k_=(.slice Ao65 y141.length co65:Value).ownBlock) (.slice Ao65 y141.length co65) y141 (IntKind.u16.wrap (bt a1 x5_1)) t144 w0 _ ?side1 ?side2 ?side3 A60.out).mono ?_);(case side1=>exact zq0);(case side2=>exact Kd.R_tight rfl HO143.out);(case side3=>exact zq11);rintro e w66 ⟨v145,rfl,ho0,hb,hkp⟩;refine ⟨_,rfl,?_⟩;have n0_:=mk0 (Kd.R_mono (ok':=fun k_=>(P0_ k_∨w.heap.size≤k_)∧some k_≠(v145:Value).ownBlock) (Kd.R_keptB (HO140.out) hkp (fun k_ hk_ hs_=>(hk_.2) hs_)) (fun k_ hk_=>⟨hk_.1.1,fun e_=>Or.elim (ho0.1 k_ e_.symm) (fun hs_=>hk_.2.1 hs_) (fun hn_=>Nat.not_le.2 hk_.2.2 hn_)⟩));have n1_:=mk0 (Kd.R_mono (ok':=fun k_=>(P0_ k_∨w.heap.size≤k_)∧some k_≠(.slice Ao64 y138.length co64:Value).ownBlock) ho0 (fun k_ hk_=>⟨Or.elim hk_ (fun hs_=>(HO143.out.1 k_ (hs_).symm).1) (fun hn_=>(.inr (Nat.le_trans zq4 hn_))),Or.elim hk_ (fun hs_=>fun e_=>(((HO140.out).1 k_ e_.symm).2) hs_) (fun hn_=>(Kd.fresh' (Kd.R_lt (by (with_reducible repeat (first|apply Kd.R_alloc|apply Kd.R_drewN|apply Kd.R_drew));exact HO140.out)) k_ hn_))⟩));have n2_:=mk0 (Kept.then_ (S:=(fun k_=>P0_ k_)) zq2 hkp (fun k_ hs_=>(fun e_=>(HO143.out.1 k_ e_.symm).1) hs_));have n3_:=mk0 (hb);clear HO140 HK HB HO143;have HO140:=n0_;have HO146:=n1_;have HK:=n2_;have HB:=n3_;clear n0_ n1_ n2_ n3_;(try clear hb);(try clear hkp);(try clear ho0)))
      go_roundg kj46
      case measure=>have:=HK1.out;have:=HJ46.out;omega
      case rel=>exact ⟨(t144),(wrap64 (x5_1+1)),zq7,H',⟨by have:=HK1.out;have:=HJ46.out;omega⟩,⟨by (with_reducible repeat (first|apply Kd.R_alloc|apply Kd.R_drewN|apply Kd.R_drew));exact Kd.R_mono HO146.out (fun _ hk=>hk.1)⟩,⟨by repeat (first|(with_reducible first|exact HK.out|apply Kept.alloc|apply Kept.drewN|apply Kept.drew)|exact HK.out)⟩,⟨by repeat (first|(with_reducible first|exact HB.out|apply j1i|apply j1d|apply j1h)|exact HB.out)⟩⟩
     replace c53:=Bool.eq_false_iff.mpr c53;subst c53;have H1:(if 0≤x5_1 then (if x5_1<(a1.size:Int) then (if (bt a1 x5_1)=92 then ((some (([92,92]:List Int):List Int)).bind fun y150=>(if x0_1.length+y150.length<140737488355328 then (j1a.l0 kj46 (x0_1++y150) a1 (wrap64 (x5_1+1))) else (none))) else (if (bt a1 x5_1)=34 then ((some (([92,34]:List Int):List Int)).bind fun y156=>(if x0_1.length+y156.length<140737488355328 then (j1a.l0 kj46 (x0_1++y156) a1 (wrap64 (x5_1+1))) else (none))) else (if (bt a1 x5_1)>127 then (if x5_1≤(a1.size:Int) then ((utf8_DecodeRuneInString.f (a1.extract (x5_1:Int).toNat a1.size)).bind fun bt162=>(if bt162.2=0 then (if x0_1.length<140737488355328 then (some (x0_1++[34])) else (none)) else (if bt162.1=65533 then (j1a.j2 kj46 x0_1 a1 x5_1 bt162.1 bt162.2 (bt162.2 == 1)) else (j1a.j2 kj46 x0_1 a1 x5_1 bt162.1 bt162.2 false)))) else (none)) else (if x0_1.length<140737488355328 then (j1a.l0 kj46 (x0_1++[bt a1 x5_1]) a1 (wrap64 (x5_1+1))) else (none))))) else (none)) else (none))=some r:=by rw [if_neg (show ¬ (false=true) by decide)] at H;exact H
     clear H;have H:=H1;clear H1;by_cases c72:0≤x5_1
     rotate_left
     ·rw [if_neg c72] at H;exact absurd H (by simp)
     rw [if_pos c72] at H;have c72b0:decide (0≤x5_1)=true:=decide_eq_true c72;clear c72;by_cases c73:x5_1<(a1.size:Int)
     rotate_left
     ·rw [if_neg c73] at H;exact absurd H (by simp)
     rw [if_pos c73] at H;have c73b0:decide (x5_1<(a1.size:Int))=true:=decide_eq_true c73;clear c73;by_cases c75:(bt a1 x5_1)=92
     ·rw [if_pos c75] at H;have c75b0:((bt a1 x5_1) == 92)=true:=beq_iff_eq.mpr c75;have c75b1:((bt a1 x5_1) != 92)=false:=bne_eq_false_iff_eq.mpr c75;clear c75;obtain ⟨y150,hy150⟩:∃ y_:List Int,y_=(([92,92]:List Int)):=⟨_,rfl⟩;replace H:(if x0_1.length+y150.length<140737488355328 then (j1a.l0 kj46 (x0_1++y150) a1 (wrap64 (x5_1+1))) else (none))=some r:=by first|(rw [hy150];with_reducible exact H)|(have H2_:=(Option.bind_some _ _).symm.trans H;rw [hy150];with_reducible exact H2_)|(have H2_:=(Option.bind_some _ _).symm.trans H;with_reducible exact H2_)|with_reducible exact H|(rw [hy150];exact H)|exact H
      have Ny150:=mk0 hy150;clear hy150;by_cases c76:x0_1.length+y150.length<140737488355328
      rotate_left
      ·rw [if_neg c76] at H;exact absurd H (by simp)
      rw [if_pos c76] at H;have LMc76:=mk0 c76;clear c76;obtain ⟨y153,hy153⟩:∃ y_:List Int,y_=(x0_1++y150):=⟨_,rfl⟩;replace H:(j1a.l0 kj46 y153 a1 (wrap64 (x5_1+1)))=some r:=by first|(rw [hy153];with_reducible exact H)|(have H2_:=(Option.bind_some _ _).symm.trans H;rw [hy153];with_reducible exact H2_)|(have H2_:=(Option.bind_some _ _).symm.trans H;with_reducible exact H2_)|with_reducible exact H|(rw [hy153];exact H)|exact H
      have Ny153:=mk0 hy153;clear hy153;have H':=mk0 H;clear H;have p74:0≤(x5_1:Int):=of_decide_eq_true zq1;have q74:x5_1<(a1.size:Int):=of_decide_eq_true zq1;have hx74:=bt_at a1 x5_1;replace p74:=eq_true p74;replace q74:=eq_true q74;go_wp2_with (first|((with_reducible refine j2j (N:=110) rfl ?_);refine Kd.R_lit (Kd.int .u8) _ 5 ?hg (N:=110) ?hd (xs:=([92,92]:List Int)) (inner:=[.int .u8 92, .int .u8 92]) (ok:=fun _=>True) (okp:=fun _=>True) ?hr ?hp (fun _ hk=>hk) trivial (Below.refl _ _) (Nat.le_refl _) (by simp) ?_;(case hd=>rfl);(case hg=>rfl);(case hr=>exact zq18);(case hp=>exact (Reps.one (show Kd.M (Kd.int .u8) _ _ _ 92 [.int .u8 92] from rfl) (Reps.one (show Kd.M (Kd.int .u8) _ _ _ 92 [.int .u8 92] from rfl) (Reps.none _ _))));intro v151 w77 ho78 hb hg_ hnew_;clear hg_ hnew_;(first|rw [← Ny150.out] at ho78|(simp only [Int.reduceToNat] at ho78;rw [← Ny150.out] at ho78));have n0_:=mk0 (Kd.R_elder' zq5 (Kd.R_base ho78) hb);have n1_:=mk0 (Kd.R_lower (Kd.R_new' (Kd.R_newM (M:=fun k_=>(P0_ k_∨w.heap.size≤k_)) ho78 zq4 (fun k_ h_ => .inr h_)) (Kd.R_lt zq5)) (j1m zq0));have n2_:=mk0 (Kept.below (S:=(fun k_=>P0_ k_)) zq2 hb);have n3_:=mk0 (j1r zq0 hb);clear HO_0 HK HB;have HO_0:=n0_;have HO152:=n1_;have HK:=n2_;have HB:=n3_;clear n0_ n1_ n2_ n3_;clear hb ho78;obtain ⟨Ao80,co80,eo80⟩:=Kd.R_slice HO152.out;subst eo80)|((with_reducible refine j1p (b := .append) (xs:=#[.tmp 109, .tmp 110]) rfl ?_);at_builtin;refine Kd.R_append_rows (Kd.int .u8) (w0:=w0) w0.heap.size rfl (.tmp 109) (.tmp 110) 30 5 (.int .u8 0) 1 rfl Tryd.underlying30 info5 rfl zq24 (by omega) u0 x0_1 y150 _ _ _ (fun k_=>(P0_ k_∨w.heap.size≤k_)∧some k_≠(.slice Ao80 y150.length co80:Value).ownBlock) (fun _=>False) rfl rfl ?aO ?aR (fun _ _ h=>h) (fun _ h=>h.elim) ?aF ?aB ?aS ?aL ?_;(case aR=>repeat (first|exact (Kd.R_reads' HO152.out).2.2|(with_reducible refine Kd.C_alloc ?_ _)|(with_reducible refine Kd.C_drewN ?_ _)|(with_reducible refine Kd.C_drew ?_)));(case aB=>exact zq0);(case aF=>exact (fun k_ hk=>⟨(.inr (Nat.le_trans zq4 hk)),Kd.fresh' (Kd.R_lt (by (with_reducible repeat (first|apply Kd.R_alloc|apply Kd.R_drewN|apply Kd.R_drew));exact HO152.out)) k_ hk⟩));(case aO=>exact zq5);(case aS=>exact (j1m zq0));(case aL=>have:=LMc76.out;first|omega|(simp only [List.length_cons,List.length_nil] at this ⊢; omega));intro v154 w79 ho hb hg hat;rw [← Ny153.out] at ho;have n0_:=mk0 (Kd.R_after (ok:=(fun k_=>(P0_ k_∨w.heap.size≤k_))) (by (with_reducible repeat (first|apply Kd.R_alloc|apply Kd.R_drewN|apply Kd.R_drew));exact Kd.R_mono HO152.out (fun _ hk=>⟨hk.1.1,hk.2⟩)) hg hat);have n1_:=mk0 (hb);have n2_:=mk0 (Kept.of_grown (S:=(fun k_=>P0_ k_)) hg zq2 (fun k_ e_=>(HO_0.out.1 k_ e_).1));have n3_:=mk0 (ho);clear HO152 HB HK HO_0;have HO152:=n0_;have HB:=n1_;have HK:=n2_;have HO155:=n3_;clear n0_ n1_ n2_ n3_;clear ho hb hg hat))
      go_roundg kj46
      case measure=>have:=HK1.out;have:=HJ46.out;omega
      case rel=>exact ⟨(y153),(wrap64 (x5_1+1)),zq7,H',⟨by have:=HK1.out;have:=HJ46.out;omega⟩,⟨by (with_reducible repeat (first|apply Kd.R_alloc|apply Kd.R_drewN|apply Kd.R_drew));exact Kd.R_mono HO155.out (fun _ hk=>hk.1)⟩,⟨by repeat (first|(with_reducible first|exact HK.out|apply Kept.alloc|apply Kept.drewN|apply Kept.drew)|exact HK.out)⟩,⟨by repeat (first|(with_reducible first|exact HB.out|apply j1i|apply j1d|apply j1h)|exact HB.out)⟩⟩
     rw [if_neg c75] at H;have c75b0:((bt a1 x5_1) == 92)=false:=beq_eq_false_iff_ne.mpr c75;have c75b1:((bt a1 x5_1) != 92)=true:=bne_iff_ne.mpr c75;by_cases c82:(bt a1 x5_1)=34
     ·rw [if_pos c82] at H;have c82b0:((bt a1 x5_1) == 34)=true:=beq_iff_eq.mpr c82;have c82b1:((bt a1 x5_1) != 34)=false:=bne_eq_false_iff_eq.mpr c82;clear c82;obtain ⟨y156,hy156⟩:∃ y_:List Int,y_=(([92,34]:List Int)):=⟨_,rfl⟩;replace H:(if x0_1.length+y156.length<140737488355328 then (j1a.l0 kj46 (x0_1++y156) a1 (wrap64 (x5_1+1))) else (none))=some r:=by first|(rw [hy156];with_reducible exact H)|(have H2_:=(Option.bind_some _ _).symm.trans H;rw [hy156];with_reducible exact H2_)|(have H2_:=(Option.bind_some _ _).symm.trans H;with_reducible exact H2_)|with_reducible exact H|(rw [hy156];exact H)|exact H
      have Ny156:=mk0 hy156;clear hy156;by_cases c83:x0_1.length+y156.length<140737488355328
      rotate_left
      ·rw [if_neg c83] at H;exact absurd H (by simp)
      rw [if_pos c83] at H;have LMc83:=mk0 c83;clear c83;obtain ⟨y159,hy159⟩:∃ y_:List Int,y_=(x0_1++y156):=⟨_,rfl⟩;replace H:(j1a.l0 kj46 y159 a1 (wrap64 (x5_1+1)))=some r:=by first|(rw [hy159];with_reducible exact H)|(have H2_:=(Option.bind_some _ _).symm.trans H;rw [hy159];with_reducible exact H2_)|(have H2_:=(Option.bind_some _ _).symm.trans H;with_reducible exact H2_)|with_reducible exact H|(rw [hy159];exact H)|exact H
      have Ny159:=mk0 hy159;clear hy159;have H':=mk0 H;clear H;have p74:0≤(x5_1:Int):=of_decide_eq_true zq1;have q74:x5_1<(a1.size:Int):=of_decide_eq_true zq1;have hx74:=bt_at a1 x5_1;replace p74:=eq_true p74;replace q74:=eq_true q74;have p81:0≤(x5_1:Int):=of_decide_eq_true zq1;have q81:x5_1<(a1.size:Int):=of_decide_eq_true zq1;have hx81:=bt_at a1 x5_1;replace p81:=eq_true p81;replace q81:=eq_true q81;go_wp2_with (first|((with_reducible refine j2j (N:=117) rfl ?_);refine Kd.R_lit (Kd.int .u8) _ 5 ?hg (N:=117) ?hd (xs:=([92,34]:List Int)) (inner:=[.int .u8 92, .int .u8 34]) (ok:=fun _=>True) (okp:=fun _=>True) ?hr ?hp (fun _ hk=>hk) trivial (Below.refl _ _) (Nat.le_refl _) (by simp) ?_;(case hd=>rfl);(case hg=>rfl);(case hr=>exact zq18);(case hp=>exact (Reps.one (show Kd.M (Kd.int .u8) _ _ _ 92 [.int .u8 92] from rfl) (Reps.one (show Kd.M (Kd.int .u8) _ _ _ 34 [.int .u8 34] from rfl) (Reps.none _ _))));intro v157 w84 ho85 hb hg_ hnew_;clear hg_ hnew_;(first|rw [← Ny156.out] at ho85|(simp only [Int.reduceToNat] at ho85;rw [← Ny156.out] at ho85));have n0_:=mk0 (Kd.R_elder' zq5 (Kd.R_base ho85) hb);have n1_:=mk0 (Kd.R_lower (Kd.R_new' (Kd.R_newM (M:=fun k_=>(P0_ k_∨w.heap.size≤k_)) ho85 zq4 (fun k_ h_ => .inr h_)) (Kd.R_lt zq5)) (j1m zq0));have n2_:=mk0 (Kept.below (S:=(fun k_=>P0_ k_)) zq2 hb);have n3_:=mk0 (j1r zq0 hb);clear HO_0 HK HB;have HO_0:=n0_;have HO158:=n1_;have HK:=n2_;have HB:=n3_;clear n0_ n1_ n2_ n3_;clear hb ho85;obtain ⟨Ao87,co87,eo87⟩:=Kd.R_slice HO158.out;subst eo87)|((with_reducible refine j1p (b := .append) (xs:=#[.tmp 116, .tmp 117]) rfl ?_);at_builtin;refine Kd.R_append_rows (Kd.int .u8) (w0:=w0) w0.heap.size rfl (.tmp 116) (.tmp 117) 30 5 (.int .u8 0) 1 rfl Tryd.underlying30 info5 rfl zq24 (by omega) u0 x0_1 y156 _ _ _ (fun k_=>(P0_ k_∨w.heap.size≤k_)∧some k_≠(.slice Ao87 y156.length co87:Value).ownBlock) (fun _=>False) rfl rfl ?aO ?aR (fun _ _ h=>h) (fun _ h=>h.elim) ?aF ?aB ?aS ?aL ?_;(case aR=>repeat (first|exact (Kd.R_reads' HO158.out).2.2|(with_reducible refine Kd.C_alloc ?_ _)|(with_reducible refine Kd.C_drewN ?_ _)|(with_reducible refine Kd.C_drew ?_)));(case aB=>exact zq0);(case aF=>exact (fun k_ hk=>⟨(.inr (Nat.le_trans zq4 hk)),Kd.fresh' (Kd.R_lt (by (with_reducible repeat (first|apply Kd.R_alloc|apply Kd.R_drewN|apply Kd.R_drew));exact HO158.out)) k_ hk⟩));(case aO=>exact zq5);(case aS=>exact (j1m zq0));(case aL=>have:=LMc83.out;first|omega|(simp only [List.length_cons,List.length_nil] at this ⊢; omega));intro v160 w86 ho hb hg hat;rw [← Ny159.out] at ho;have n0_:=mk0 (Kd.R_after (ok:=(fun k_=>(P0_ k_∨w.heap.size≤k_))) (by (with_reducible repeat (first|apply Kd.R_alloc|apply Kd.R_drewN|apply Kd.R_drew));exact Kd.R_mono HO158.out (fun _ hk=>⟨hk.1.1,hk.2⟩)) hg hat);have n1_:=mk0 (hb);have n2_:=mk0 (Kept.of_grown (S:=(fun k_=>P0_ k_)) hg zq2 (fun k_ e_=>(HO_0.out.1 k_ e_).1));have n3_:=mk0 (ho);clear HO158 HB HK HO_0;have HO158:=n0_;have HB:=n1_;have HK:=n2_;have HO161:=n3_;clear n0_ n1_ n2_ n3_;clear ho hb hg hat))
      go_roundg kj46
      case measure=>have:=HK1.out;have:=HJ46.out;omega
      case rel=>exact ⟨(y159),(wrap64 (x5_1+1)),zq7,H',⟨by have:=HK1.out;have:=HJ46.out;omega⟩,⟨by (with_reducible repeat (first|apply Kd.R_alloc|apply Kd.R_drewN|apply Kd.R_drew));exact Kd.R_mono HO161.out (fun _ hk=>hk.1)⟩,⟨by repeat (first|(with_reducible first|exact HK.out|apply Kept.alloc|apply Kept.drewN|apply Kept.drew)|exact HK.out)⟩,⟨by repeat (first|(with_reducible first|exact HB.out|apply j1i|apply j1d|apply j1h)|exact HB.out)⟩⟩
     rw [if_neg c82] at H;have c82b0:((bt a1 x5_1) == 34)=false:=beq_eq_false_iff_ne.mpr c82;have c82b1:((bt a1 x5_1) != 34)=true:=bne_iff_ne.mpr c82;by_cases c89:(bt a1 x5_1)>127
     rotate_left
     ·rw [if_neg c89] at H;have c89b0:decide (127<(bt a1 x5_1))=false:=decide_eq_false c89;clear c89;by_cases c125:x0_1.length<140737488355328
      rotate_left
      ·rw [if_neg c125] at H;exact absurd H (by simp)
      rw [if_pos c125] at H;have LMc125:=mk0 c125;clear c125;obtain ⟨y185,hy185⟩:∃ y_:List Int,y_=(x0_1++[bt a1 x5_1]):=⟨_,rfl⟩;replace H:(j1a.l0 kj46 y185 a1 (wrap64 (x5_1+1)))=some r:=by first|(rw [hy185];with_reducible exact H)|(have H2_:=(Option.bind_some _ _).symm.trans H;rw [hy185];with_reducible exact H2_)|(have H2_:=(Option.bind_some _ _).symm.trans H;with_reducible exact H2_)|with_reducible exact H|(rw [hy185];exact H)|exact H
      have Ny185:=mk0 hy185;clear hy185;have H':=mk0 H;clear H;have p74:0≤(x5_1:Int):=of_decide_eq_true zq1;have q74:x5_1<(a1.size:Int):=of_decide_eq_true zq1;have hx74:=bt_at a1 x5_1;replace p74:=eq_true p74;replace q74:=eq_true q74;have p81:0≤(x5_1:Int):=of_decide_eq_true zq1;have q81:x5_1<(a1.size:Int):=of_decide_eq_true zq1;have hx81:=bt_at a1 x5_1;replace p81:=eq_true p81;replace q81:=eq_true q81;have p88:0≤(x5_1:Int):=of_decide_eq_true zq1;have q88:x5_1<(a1.size:Int):=of_decide_eq_true zq1;have hx88:=bt_at a1 x5_1;replace p88:=eq_true p88;replace q88:=eq_true q88;have p124:0≤(x5_1:Int):=of_decide_eq_true zq1;have q124:x5_1<(a1.size:Int):=of_decide_eq_true zq1;have hx124:=bt_at a1 x5_1;replace p124:=eq_true p124;replace q124:=eq_true q124;go_wp2_with (first|((with_reducible refine j1p (b := .append) (xs:=#[.tmp 167, .tmp 171]) rfl ?_);at_builtin;refine Kd.R_append (Kd.int .u8) (w0:=w0) w0.heap.size rfl (.tmp 167) (.tmp 171) 30 5 (.int .u8 0) 1 rfl Tryd.underlying30 info5 rfl zq24 (by omega) u0 x0_1 (bt a1 x5_1) [.int .u8 (bt a1 x5_1)] (fun k_=>(P0_ k_∨w.heap.size≤k_)) (fun _=>False) rfl rfl ?aP (fun _ hk=>hk.elim) ?aF ?aO ?aB ?aS ?aL ?_;(case aP=>exact rfl);(case aB=>exact zq0);(case aF=>exact (fun k_ hk=>(.inr (Nat.le_trans zq4 hk))));(case aO=>exact zq5);(case aS=>exact (j1m zq0));(case aL=>have:=LMc125.out;first|omega|(simp only [List.length_cons,List.length_nil] at this ⊢; omega));intro v186 w126 ho hb hg hat;rw [← Ny185.out] at ho;have n0_:=mk0 (hb);have n1_:=mk0 (Kept.of_grown (S:=(fun k_=>P0_ k_)) hg zq2 (fun k_ e_=>(HO_0.out.1 k_ e_)));have n2_:=mk0 (ho);clear HB HK HO_0;have HB:=n0_;have HK:=n1_;have HO187:=n2_;clear n0_ n1_ n2_;clear ho hb hg hat))
      go_roundg kj46
      case measure=>have:=HK1.out;have:=HJ46.out;omega
      case rel=>exact ⟨(y185),(wrap64 (x5_1+1)),zq7,H',⟨by have:=HK1.out;have:=HJ46.out;omega⟩,⟨by (with_reducible repeat (first|apply Kd.R_alloc|apply Kd.R_drewN|apply Kd.R_drew));exact HO187.out⟩,⟨by repeat (first|(with_reducible first|exact HK.out|apply Kept.alloc|apply Kept.drewN|apply Kept.drew)|exact HK.out)⟩,⟨by repeat (first|(with_reducible first|exact HB.out|apply j1i|apply j1d|apply j1h)|exact HB.out)⟩⟩
     rw [if_pos c89] at H;have c89b0:decide (127<(bt a1 x5_1))=true:=decide_eq_true c89;clear c89;have c90b0:=eq_true (of_decide_eq_true zq1:0≤x5_1);by_cases c91:x5_1≤(a1.size:Int)
     rotate_left
     ·rw [if_neg c91] at H;exact absurd H (by simp)
     rw [if_pos c91] at H;have c91b0:=eq_true c91;have c91b1:decide (x5_1≤(a1.size:Int))=true:=decide_eq_true c91;clear c91;replace H:=Option.bind_eq_some_iff.mp H;obtain ⟨⟨t162,t163⟩,A920,H⟩:=H;replace H:(if t163=0 then (if x0_1.length<140737488355328 then (some (x0_1++[34])) else (none)) else (if t162=65533 then (j1a.j2 kj46 x0_1 a1 x5_1 t162 t163 (t163 == 1)) else (j1a.j2 kj46 x0_1 a1 x5_1 t162 t163 false)))=some r:=H;have A92:=mk0 A920;clear A920;by_cases c93:t163=0
     ·rw [if_pos c93] at H;have c93b0:(t163 == 0)=true:=beq_iff_eq.mpr c93;have c93b1:(t163 != 0)=false:=bne_eq_false_iff_eq.mpr c93;clear c93;by_cases c94:x0_1.length<140737488355328
      rotate_left
      ·rw [if_neg c94] at H;exact absurd H (by simp)
      rw [if_pos c94] at H;have LMc94:=mk0 c94;clear c94;obtain ⟨y164,hy164⟩:∃ y_:List Int,y_=(x0_1++[34]):=⟨_,rfl⟩;replace H:(some y164)=some r:=by first|(rw [hy164];with_reducible exact H)|(have H2_:=(Option.bind_some _ _).symm.trans H;rw [hy164];with_reducible exact H2_)|(have H2_:=(Option.bind_some _ _).symm.trans H;with_reducible exact H2_)|with_reducible exact H|(rw [hy164];exact H)|exact H
      have Ny164:=mk0 hy164;clear hy164;obtain rfl:=Option.some.inj H;have p74:0≤(x5_1:Int):=of_decide_eq_true zq1;have q74:x5_1<(a1.size:Int):=of_decide_eq_true zq1;have hx74:=bt_at a1 x5_1;replace p74:=eq_true p74;replace q74:=eq_true q74;have p81:0≤(x5_1:Int):=of_decide_eq_true zq1;have q81:x5_1<(a1.size:Int):=of_decide_eq_true zq1;have hx81:=bt_at a1 x5_1;replace p81:=eq_true p81;replace q81:=eq_true q81;have p88:0≤(x5_1:Int):=of_decide_eq_true zq1;have q88:x5_1<(a1.size:Int):=of_decide_eq_true zq1;have hx88:=bt_at a1 x5_1;replace p88:=eq_true p88;replace q88:=eq_true q88;go_wp2_with (first|((with_reducible refine j1z (f:=16) rfl ?_);refine j2l (some 127) rfl rfl Tryd.func16 zq12 rfl #[.string (a1.extract (x5_1:Int).toNat a1.size)] rfl zq3 ?_;(with_reducible refine (utf8_DecodeRuneInString.calls (a1.extract (x5_1:Int).toNat a1.size) t162 t163 _ ?side1 A92.out).mono ?_);(case side1=>exact zq11);rintro e w95 ⟨rfl,hb⟩;refine ⟨_,rfl,?_⟩;have n0_:=mk0 (Kd.R_below zq5 hb);have n1_:=mk0 (Kept.below (S:=(fun k_=>P0_ k_)) zq2 hb);have n2_:=mk0 (j1r zq0 hb);clear HO_0 HK HB;have HO_0:=n0_;have HK:=n1_;have HB:=n2_;clear n0_ n1_ n2_;(try clear hb);(try clear hb2);(try clear hk);(try clear hi))|((with_reducible refine j1p (b := .append) (xs:=#[.tmp 173, .tmp 174]) rfl ?_);at_builtin;refine Kd.R_append (Kd.int .u8) (w0:=w0) w0.heap.size rfl (.tmp 173) (.tmp 174) 30 5 (.int .u8 0) 1 rfl Tryd.underlying30 info5 rfl zq24 (by omega) u0 x0_1 34 [.int .u8 34] (fun k_=>(P0_ k_∨w.heap.size≤k_)) (fun _=>False) rfl rfl ?aP (fun _ hk=>hk.elim) ?aF ?aO ?aB ?aS ?aL ?_;(case aP=>exact rfl);(case aB=>exact zq0);(case aF=>exact (fun k_ hk=>(.inr (Nat.le_trans zq4 hk))));(case aO=>exact zq5);(case aS=>exact (j1m zq0));(case aL=>have:=LMc94.out;first|omega|(simp only [List.length_cons,List.length_nil] at this ⊢; omega));intro v165 w96 ho hb hg hat;rw [← Ny164.out] at ho;have n0_:=mk0 (hb);have n1_:=mk0 (Kept.of_grown (S:=(fun k_=>P0_ k_)) hg zq2 (fun k_ e_=>(HO_0.out.1 k_ e_)));have n2_:=mk0 (ho);clear HB HK HO_0;have HB:=n0_;have HK:=n1_;have HO166:=n2_;clear n0_ n1_ n2_;clear ho hb hg hat))
      go_ret;exact ⟨_,by first|rfl|(simp [j1t,j1s]<;>rfl)|(simp only [← hji3,← hji6];first|rfl|(simp [j1t,j1s]<;>rfl))|(simp [*, j1t,j1s]<;>rfl),by (with_reducible repeat (first|apply Kd.R_alloc|apply Kd.R_drewN|apply Kd.R_drew));exact HO166.out,by repeat (first|(with_reducible first|exact HB.out|apply j1i|apply j1d|apply j1h)|exact HB.out),by repeat (first|(with_reducible first|exact HK.out|apply Kept.alloc|apply Kept.drewN|apply Kept.drew)|exact HK.out)⟩
     rw [if_neg c93] at H;have c93b0:(t163 == 0)=false:=beq_eq_false_iff_ne.mpr c93;have c93b1:(t163 != 0)=true:=bne_iff_ne.mpr c93;have HC97:=mk0 H;clear H;have p74:0≤(x5_1:Int):=of_decide_eq_true zq1;have q74:x5_1<(a1.size:Int):=of_decide_eq_true zq1;have hx74:=bt_at a1 x5_1;replace p74:=eq_true p74;replace q74:=eq_true q74;have p81:0≤(x5_1:Int):=of_decide_eq_true zq1;have q81:x5_1<(a1.size:Int):=of_decide_eq_true zq1;have hx81:=bt_at a1 x5_1;replace p81:=eq_true p81;replace q81:=eq_true q81;have p88:0≤(x5_1:Int):=of_decide_eq_true zq1;have q88:x5_1<(a1.size:Int):=of_decide_eq_true zq1;have hx88:=bt_at a1 x5_1;replace p88:=eq_true p88;replace q88:=eq_true q88;go_upto_region 33 with (first|((with_reducible refine j1z (f:=16) rfl ?_);refine j2l (some 127) rfl rfl Tryd.func16 zq12 rfl #[.string (a1.extract (x5_1:Int).toNat a1.size)] rfl zq3 ?_;(with_reducible refine (utf8_DecodeRuneInString.calls (a1.extract (x5_1:Int).toNat a1.size) t162 t163 _ ?side1 A92.out).mono ?_);(case side1=>exact zq11);rintro e w98 ⟨rfl,hb⟩;refine ⟨_,rfl,?_⟩;have n0_:=mk0 (Kd.R_below zq5 hb);have n1_:=mk0 (Kept.below (S:=(fun k_=>P0_ k_)) zq2 hb);have n2_:=mk0 (j1r zq0 hb);clear HO_0 HK HB;have HO_0:=n0_;have HK:=n1_;have HB:=n2_;clear n0_ n1_ n2_;(try clear hb);(try clear hb2);(try clear hk);(try clear hi)))
     (try simp only [Act.put,List.setIfInBounds_toArray,List.set_cons_zero,List.set_cons_succ]);go_cut [137] (fun v137 wc=>∃ (kq:Nat) (x137_96:Bool),v137 = .bool x137_96∧Aside0 (j1a.j2 kq x0_1 a1 x5_1 t162 t163 x137_96=some r)∧Aside0 (kq≤kj46)∧Aside0 (Kd.R (Kd.int .u8) 5 wc w0.heap.size (fun k_=>(P0_ k_∨w.heap.size≤k_)) u0 x0_1)∧Aside0 (Kept w wc (fun k_=>P0_ k_))∧Aside0 (Below w0.heap.size w0 wc))
     case first=>as_aux_lemma =>
      have H:=HC97.out;clear HC97;by_cases c99:t162=65533
      rotate_left
      ·rw [if_neg c99] at H;have c99b0:(t162 == 65533)=false:=beq_eq_false_iff_ne.mpr c99;have c99b1:(t162 != 65533)=true:=bne_iff_ne.mpr c99;(first|rw [c99b0]|(simp only [i64_w,i32_w];rw [c99b0])|skip);have H':=mk0 H;clear H;go_wp2;go_meet
       case rel=>exact ⟨_,(false),zq7,H',⟨by have:=HK1.out;have:=HJ46.out;first|omega|exact Nat.le_refl _⟩,⟨by (with_reducible repeat (first|apply Kd.R_alloc|apply Kd.R_drewN|apply Kd.R_drew));exact HO_0.out⟩,⟨by repeat (first|(with_reducible first|exact HK.out|apply Kept.alloc|apply Kept.drewN|apply Kept.drew)|exact HK.out)⟩,⟨by repeat (first|(with_reducible first|exact HB.out|apply j1i|apply j1d|apply j1h)|exact HB.out)⟩⟩
      rw [if_pos c99] at H;have c99b0:(t162 == 65533)=true:=beq_iff_eq.mpr c99;have c99b1:(t162 != 65533)=false:=bne_eq_false_iff_eq.mpr c99;clear c99;(first|rw [c99b0]|(simp only [i64_w,i32_w];rw [c99b0])|skip);have H':=mk0 H;clear H;go_wp2;go_meet
      case rel=>exact ⟨_,((t163 == 1)),zq7,H',⟨by have:=HK1.out;have:=HJ46.out;first|omega|exact Nat.le_refl _⟩,⟨by (with_reducible repeat (first|apply Kd.R_alloc|apply Kd.R_drewN|apply Kd.R_drew));exact HO_0.out⟩,⟨by repeat (first|(with_reducible first|exact HK.out|apply Kept.alloc|apply Kept.drewN|apply Kept.drew)|exact HK.out)⟩,⟨by repeat (first|(with_reducible first|exact HB.out|apply j1i|apply j1d|apply j1h)|exact HB.out)⟩⟩
     case rest=>as_aux_lemma =>
      clear HC97
      try clear c1
      try clear p1
      try clear q1
      try clear hx1
      try clear c2
      try clear p2
      try clear c3
      try clear c4
      try clear c4b0
      try clear c4b1
      try clear p4
      try clear q4
      try clear hx4
      try clear c5
      try clear p5
      try clear q5
      try clear hx5
      try clear c6
      try clear p6
      try clear q6
      try clear hx6
      try clear c7
      try clear c7b0
      try clear c7b1
      try clear p7
      try clear q7
      try clear hx7
      try clear c8
      try clear c8b0
      try clear c8b1
      try clear p8
      try clear q8
      try clear hx8
      try clear c9
      try clear q12
      try clear c14
      try clear c14b0
      try clear c15
      try clear c15b0
      try clear c16
      try clear p16
      try clear q16
      try clear hx16
      try clear c17
      try clear c17b0
      try clear c18
      try clear p19
      try clear q19
      try clear hx19
      try clear c20
      try clear c20b0
      try clear c20b1
      try clear c21
      try clear c24
      try clear c24b0
      try clear c24b1
      try clear c25
      try clear c28
      try clear c28b0
      try clear c28b1
      try clear c29
      try clear c32
      try clear c32b0
      try clear c32b1
      try clear c33
      try clear c36
      try clear c36b0
      try clear c36b1
      try clear c37
      try clear c40
      try clear p41
      try clear q41
      try clear hx41
      try clear p48
      try clear q48
      try clear hx48
      try clear c49
      try clear c49b0
      try clear c49b1
      try clear p50
      try clear q50
      try clear hx50
      try clear c51
      try clear c51b0
      try clear c51b1
      try clear p52
      try clear q52
      try clear hx52
      try clear c53
      try clear c55
      try clear c56
      try clear c57
      try clear c57b0
      try clear c58
      try clear c58b0
      try clear p59
      try clear q59
      try clear hx59
      try clear p64
      try clear c67
      try clear c67b0
      try clear c68
      try clear c68b0
      try clear p69
      try clear q69
      try clear hx69
      try clear c70
      try clear c72
      try clear c72b0
      try clear c73
      try clear c73b0
      try clear p74
      try clear q74
      try clear hx74
      try clear c75
      try clear c75b0
      try clear c75b1
      try clear c76
      try clear p81
      try clear q81
      try clear hx81
      try clear c82
      try clear c82b0
      try clear c82b1
      try clear c83
      try clear p88
      try clear q88
      try clear hx88
      try clear c89
      try clear c89b0
      try clear c90
      try clear c90b0
      try clear c91
      try clear c91b0
      try clear c91b1
      try clear c93
      try clear c93b0
      try clear c93b1
      try clear c94
      try clear c99
      try clear c99b0
      try clear c99b1
      try clear p1
      try clear p16
      try clear p19
      try clear p2
      try clear p4
      try clear p41
      try clear p48
      try clear p5
      try clear p50
      try clear p52
      try clear p59
      try clear p6
      try clear p69
      try clear p74
      try clear p81
      try clear p88
      try clear q1
      try clear q12
      try clear q16
      try clear q19
      try clear q4
      try clear q41
      try clear q48
      try clear q5
      try clear q50
      try clear q52
      try clear q59
      try clear q69
      try clear q74
      try clear q81
      try clear q88
      obtain ⟨kq,x137_96,rfl,HA,HJ96,HO_0,HK,HB⟩:=hcut;cases kq with
      | zero=>exact absurd HA.out (by simp [j1a.j2])
      | succ kj96 =>
       have H:=HA.out;clear HA;simp only [j1a.j2] at H;by_cases c100:x137_96=true
       ·subst c100;have H1:(if x0_1.length+3<140737488355328 then (j1a.l0 kj96 (x0_1++bytesOf (⟨#[239,191,189]⟩:ByteArray)) a1 (wrap64 ((wrap64 ((wrap64 (x5_1+t163)) - 1))+1))) else (none))=some r:=by rw [if_pos rfl] at H;exact H
        clear H;have H:=H1;clear H1;by_cases c101:x0_1.length+3<140737488355328
        rotate_left
        ·rw [if_neg c101] at H;exact absurd H (by simp)
        rw [if_pos c101] at H;have LMc101:=mk0 c101;clear c101;obtain ⟨y167,hy167⟩:∃ y_:List Int,y_=(x0_1++bytesOf (⟨#[239,191,189]⟩:ByteArray)):=⟨_,rfl⟩;replace H:(j1a.l0 kj96 y167 a1 (wrap64 ((wrap64 ((wrap64 (x5_1+t163)) - 1))+1)))=some r:=by first|(rw [hy167];with_reducible exact H)|(have H2_:=(Option.bind_some _ _).symm.trans H;rw [hy167];with_reducible exact H2_)|(have H2_:=(Option.bind_some _ _).symm.trans H;with_reducible exact H2_)|with_reducible exact H|(rw [hy167];exact H)|exact H
        have Ny167:=mk0 hy167;clear hy167;have H':=mk0 H;clear H;go_wp2_with (first|(at_builtin;refine R_append_str (w0:=w0) w0.heap.size rfl (.tmp 138) _ 30 9 5 rfl Tryd.underlying30 Tryd.underlying9 info5 u0 x0_1 (⟨#[239,191,189]⟩:ByteArray) (fun k_=>(P0_ k_∨w.heap.size≤k_)) rfl rfl ?aF ?aO ?aB ?aS ?aL ?_;(case aB=>exact zq0);(case aF=>exact (fun k_ hk=>(.inr (Nat.le_trans zq4 hk))));(case aO=>exact zq5);(case aS=>exact (j1m zq0));(case aL=>have:=LMc101.out;first|omega|(exact Nat.le_of_lt (Nat.lt_of_le_of_lt (Nat.le_of_eq rfl) this)));intro v168 w102 ho hb hg hat;rw [← Ny167.out] at ho;change Kd.R (Kd.int .u8) 5 w102 w0.heap.size (fun k_=>(P0_ k_∨w.heap.size≤k_)) v168 y167 at ho;have n0_:=mk0 (hb);have n1_:=mk0 (Kept.of_grown (S:=(fun k_=>P0_ k_)) hg zq2 (fun k_ e_=>(HO_0.out.1 k_ e_)));have n2_:=mk0 (ho);clear HB HK HO_0;have HB:=n0_;have HK:=n1_;have HO169:=n2_;clear n0_ n1_ n2_;clear ho hb hg hat))
        go_roundg kj96
        case measure=>have:=HK1.out;have:=HJ46.out;have:=HJ96.out;omega
        case rel=>exact ⟨(y167),(wrap64 ((wrap64 ((wrap64 (x5_1+t163)) - 1))+1)),zq7,H',⟨by have:=HK1.out;have:=HJ46.out;have:=HJ96.out;omega⟩,⟨by (with_reducible repeat (first|apply Kd.R_alloc|apply Kd.R_drewN|apply Kd.R_drew));exact HO169.out⟩,⟨by repeat (first|(with_reducible first|exact HK.out|apply Kept.alloc|apply Kept.drewN|apply Kept.drew)|exact HK.out)⟩,⟨by repeat (first|(with_reducible first|exact HB.out|apply j1i|apply j1d|apply j1h)|exact HB.out)⟩⟩
       replace c100:=Bool.eq_false_iff.mpr c100;subst c100;have H1:(if t162=8232 then (if x0_1.length+5<140737488355328 then ((some (x0_1++bytesOf (⟨#[92,117,50,48,50]⟩:ByteArray):List Int)).bind fun y170=>(if 0≤(Go.bits .and .i32 t162 15) then (if (Go.bits .and .i32 t162 15)<16 then (if y170.length<140737488355328 then (j1a.l0 kj96 (y170++[bt (⟨#[48,49,50,51,52,53,54,55,56,57,97,98,99,100,101,102]⟩:ByteArray) (Go.bits .and .i32 t162 15)]) a1 (wrap64 ((wrap64 ((wrap64 (x5_1+t163)) - 1))+1))) else (none)) else (none)) else (none))) else (none)) else (if t162=8233 then (if x0_1.length+5<140737488355328 then ((some (x0_1++bytesOf (⟨#[92,117,50,48,50]⟩:ByteArray):List Int)).bind fun y176=>(if 0≤(Go.bits .and .i32 t162 15) then (if (Go.bits .and .i32 t162 15)<16 then (if y176.length<140737488355328 then (j1a.l0 kj96 (y176++[bt (⟨#[48,49,50,51,52,53,54,55,56,57,97,98,99,100,101,102]⟩:ByteArray) (Go.bits .and .i32 t162 15)]) a1 (wrap64 ((wrap64 ((wrap64 (x5_1+t163)) - 1))+1))) else (none)) else (none)) else (none))) else (none)) else (if 0≤x5_1 then (if x5_1≤(wrap64 (x5_1+t163)) then (if (wrap64 (x5_1+t163))≤(a1.size:Int) then (if x0_1.length+(a1.extract (x5_1:Int).toNat ((wrap64 (x5_1+t163)):Int).toNat).size<140737488355328 then (j1a.l0 kj96 (x0_1++bytesOf (a1.extract (x5_1:Int).toNat ((wrap64 (x5_1+t163)):Int).toNat)) a1 (wrap64 ((wrap64 ((wrap64 (x5_1+t163)) - 1))+1))) else (none)) else (none)) else (none)) else (none))))=some r:=by rw [if_neg (show ¬ (false=true) by decide)] at H;exact H
       clear H;have H:=H1;clear H1;by_cases c103:t162=8232
       ·rw [if_pos c103] at H;have c103b0:(t162 == 8232)=true:=beq_iff_eq.mpr c103;have c103b1:(t162 != 8232)=false:=bne_eq_false_iff_eq.mpr c103;clear c103;by_cases c104:x0_1.length+5<140737488355328
        rotate_left
        ·rw [if_neg c104] at H;exact absurd H (by simp)
        rw [if_pos c104] at H;have LMc104:=mk0 c104;clear c104;obtain ⟨y170,hy170⟩:∃ y_:List Int,y_=(x0_1++bytesOf (⟨#[92,117,50,48,50]⟩:ByteArray)):=⟨_,rfl⟩;replace H:(if 0≤(Go.bits .and .i32 t162 15) then (if (Go.bits .and .i32 t162 15)<16 then (if y170.length<140737488355328 then (j1a.l0 kj96 (y170++[bt (⟨#[48,49,50,51,52,53,54,55,56,57,97,98,99,100,101,102]⟩:ByteArray) (Go.bits .and .i32 t162 15)]) a1 (wrap64 ((wrap64 ((wrap64 (x5_1+t163)) - 1))+1))) else (none)) else (none)) else (none))=some r:=by first|(rw [hy170];with_reducible exact H)|(have H2_:=(Option.bind_some _ _).symm.trans H;rw [hy170];with_reducible exact H2_)|(have H2_:=(Option.bind_some _ _).symm.trans H;with_reducible exact H2_)|with_reducible exact H|(rw [hy170];exact H)|exact H
        have Ny170:=mk0 hy170;clear hy170;by_cases c105:0≤(Go.bits .and .i32 t162 15)
        rotate_left
        ·rw [if_neg c105] at H;exact absurd H (by simp)
        rw [if_pos c105] at H;have c105b0:decide (0≤(Go.bits .and .i32 t162 15))=true:=decide_eq_true c105;clear c105;by_cases c106:(Go.bits .and .i32 t162 15)<16
        rotate_left
        ·rw [if_neg c106] at H;exact absurd H (by simp)
        rw [if_pos c106] at H;have c106b0:decide ((Go.bits .and .i32 t162 15)<16)=true:=decide_eq_true c106;clear c106;by_cases c108:y170.length<140737488355328
        rotate_left
        ·rw [if_neg c108] at H;exact absurd H (by simp)
        rw [if_pos c108] at H;have LMc108:=mk0 c108;clear c108;obtain ⟨y173,hy173⟩:∃ y_:List Int,y_=(y170++[bt (⟨#[48,49,50,51,52,53,54,55,56,57,97,98,99,100,101,102]⟩:ByteArray) (Go.bits .and .i32 t162 15)]):=⟨_,rfl⟩;replace H:(j1a.l0 kj96 y173 a1 (wrap64 ((wrap64 ((wrap64 (x5_1+t163)) - 1))+1)))=some r:=by first|(rw [hy173];with_reducible exact H)|(have H2_:=(Option.bind_some _ _).symm.trans H;rw [hy173];with_reducible exact H2_)|(have H2_:=(Option.bind_some _ _).symm.trans H;with_reducible exact H2_)|with_reducible exact H|(rw [hy173];exact H)|exact H
        have Ny173:=mk0 hy173;clear hy173;have H':=mk0 H;clear H;go_wp2_with (first|(at_builtin;refine R_append_str (w0:=w0) w0.heap.size rfl (.tmp 146) _ 30 9 5 rfl Tryd.underlying30 Tryd.underlying9 info5 u0 x0_1 (⟨#[92,117,50,48,50]⟩:ByteArray) (fun k_=>(P0_ k_∨w.heap.size≤k_)) rfl rfl ?aF ?aO ?aB ?aS ?aL ?_;(case aB=>exact zq0);(case aF=>exact (fun k_ hk=>(.inr (Nat.le_trans zq4 hk))));(case aO=>exact zq5);(case aS=>exact (j1m zq0));(case aL=>have:=LMc104.out;first|omega|(exact Nat.le_of_lt (Nat.lt_of_le_of_lt (Nat.le_of_eq rfl) this)));intro v171 w109 ho hb hg hat;rw [← Ny170.out] at ho;change Kd.R (Kd.int .u8) 5 w109 w0.heap.size (fun k_=>(P0_ k_∨w.heap.size≤k_)) v171 y170 at ho;have n0_:=mk0 (hb);have n1_:=mk0 (Kept.of_grown (S:=(fun k_=>P0_ k_)) hg zq2 (fun k_ e_=>(HO_0.out.1 k_ e_)));have n2_:=mk0 (ho);clear HB HK HO_0;have HB:=n0_;have HK:=n1_;have HO172:=n2_;clear n0_ n1_ n2_;clear ho hb hg hat;have p107:0≤((Go.bits .and .i32 t162 15):Int):=of_decide_eq_true zq1;have q107:(Go.bits .and .i32 t162 15)<(16:Int):=of_decide_eq_true zq1;have hx107:=bt_at (⟨#[48,49,50,51,52,53,54,55,56,57,97,98,99,100,101,102]⟩:ByteArray) (Go.bits .and .i32 t162 15);replace p107:=eq_true p107;replace q107:=eq_true q107;have hg107:w109.cell? ⟨0,((Go.bits .and .i32 t162 15)).toNat,none⟩=some (.int .u8 (bt (⟨#[48,49,50,51,52,53,54,55,56,57,97,98,99,100,101,102]⟩:ByteArray) (Go.bits .and .i32 t162 15))):=(by exact Laid.hexchars zq11 _ (of_eq_true p107) (of_eq_true q107)))|((with_reducible refine j1p (b := .append) (xs:=#[.tmp 148, .tmp 153]) rfl ?_);at_builtin;refine Kd.R_append (Kd.int .u8) (w0:=w0) w0.heap.size rfl (.tmp 148) (.tmp 153) 30 5 (.int .u8 0) 1 rfl Tryd.underlying30 info5 rfl zq24 (by omega) v171 y170 (bt (⟨#[48,49,50,51,52,53,54,55,56,57,97,98,99,100,101,102]⟩:ByteArray) (Go.bits .and .i32 t162 15)) [.int .u8 (bt (⟨#[48,49,50,51,52,53,54,55,56,57,97,98,99,100,101,102]⟩:ByteArray) (Go.bits .and .i32 t162 15))] (fun k_=>(P0_ k_∨w.heap.size≤k_)) (fun _=>False) rfl rfl ?aP (fun _ hk=>hk.elim) ?aF ?aO ?aB ?aS ?aL ?_;(case aP=>exact rfl);(case aB=>exact zq0);(case aF=>exact (fun k_ hk=>(.inr (Nat.le_trans zq4 hk))));(case aO=>exact (by (with_reducible repeat (first|apply Kd.R_alloc|apply Kd.R_drewN|apply Kd.R_drew));exact HO172.out));(case aS=>exact (j1m zq0));(case aL=>have:=LMc108.out;first|omega|(simp only [List.length_cons,List.length_nil] at this ⊢; omega));intro v174 w110 ho hb hg hat;rw [← Ny173.out] at ho;have n0_:=mk0 (hb);have n1_:=mk0 (Kept.of_grown (S:=(fun k_=>P0_ k_)) hg zq2 (fun k_ e_=>(HO172.out.1 k_ e_)));have n2_:=mk0 (ho);clear HB HK HO172;have HB:=n0_;have HK:=n1_;have HO175:=n2_;clear n0_ n1_ n2_;clear ho hb hg hat))
        go_roundg kj96
        case measure=>have:=HK1.out;have:=HJ46.out;have:=HJ96.out;omega
        case rel=>exact ⟨(y173),(wrap64 ((wrap64 ((wrap64 (x5_1+t163)) - 1))+1)),zq7,H',⟨by have:=HK1.out;have:=HJ46.out;have:=HJ96.out;omega⟩,⟨by (with_reducible repeat (first|apply Kd.R_alloc|apply Kd.R_drewN|apply Kd.R_drew));exact HO175.out⟩,⟨by repeat (first|(with_reducible first|exact HK.out|apply Kept.alloc|apply Kept.drewN|apply Kept.drew)|exact HK.out)⟩,⟨by repeat (first|(with_reducible first|exact HB.out|apply j1i|apply j1d|apply j1h)|exact HB.out)⟩⟩
       rw [if_neg c103] at H;have c103b0:(t162 == 8232)=false:=beq_eq_false_iff_ne.mpr c103;have c103b1:(t162 != 8232)=true:=bne_iff_ne.mpr c103;by_cases c111:t162=8233
       rotate_left
       ·rw [if_neg c111] at H;have c111b0:(t162 == 8233)=false:=beq_eq_false_iff_ne.mpr c111;have c111b1:(t162 != 8233)=true:=bne_iff_ne.mpr c111;by_cases c119:0≤x5_1
        rotate_left
        ·rw [if_neg c119] at H;exact absurd H (by simp)
        rw [if_pos c119] at H;have c119b0:=eq_true c119;have c119b1:decide (0≤x5_1)=true:=decide_eq_true c119;clear c119;by_cases c120:x5_1≤(wrap64 (x5_1+t163))
        rotate_left
        ·rw [if_neg c120] at H;exact absurd H (by simp)
        rw [if_pos c120] at H;have c120b0:=eq_true c120;have c120b1:decide (x5_1≤(wrap64 (x5_1+t163)))=true:=decide_eq_true c120;by_cases c121:(wrap64 (x5_1+t163))≤(a1.size:Int)
        rotate_left
        ·rw [if_neg c121] at H;exact absurd H (by simp)
        rw [if_pos c121] at H;have c121b0:=eq_true c121;have c121b1:decide ((wrap64 (x5_1+t163))≤(a1.size:Int))=true:=decide_eq_true c121;by_cases c122:x0_1.length+(a1.extract (x5_1:Int).toNat ((wrap64 (x5_1+t163)):Int).toNat).size<140737488355328
        rotate_left
        ·rw [if_neg c122] at H;exact absurd H (by simp)
        rw [if_pos c122] at H;have LMc122:=mk0 c122;clear c122;obtain ⟨y182,hy182⟩:∃ y_:List Int,y_=(x0_1++bytesOf (a1.extract (x5_1:Int).toNat ((wrap64 (x5_1+t163)):Int).toNat)):=⟨_,rfl⟩;replace H:(j1a.l0 kj96 y182 a1 (wrap64 ((wrap64 ((wrap64 (x5_1+t163)) - 1))+1)))=some r:=by first|(rw [hy182];with_reducible exact H)|(have H2_:=(Option.bind_some _ _).symm.trans H;rw [hy182];with_reducible exact H2_)|(have H2_:=(Option.bind_some _ _).symm.trans H;with_reducible exact H2_)|with_reducible exact H|(rw [hy182];exact H)|exact H
        have Ny182:=mk0 hy182;clear hy182;have H':=mk0 H;clear H;go_wp2_with (first|(at_builtin;refine R_append_str (w0:=w0) w0.heap.size rfl (.tmp 155) _ 30 9 5 rfl Tryd.underlying30 Tryd.underlying9 info5 u0 x0_1 (a1.extract (x5_1:Int).toNat ((wrap64 (x5_1+t163)):Int).toNat) (fun k_=>(P0_ k_∨w.heap.size≤k_)) rfl rfl ?aF ?aO ?aB ?aS ?aL ?_;(case aB=>exact zq0);(case aF=>exact (fun k_ hk=>(.inr (Nat.le_trans zq4 hk))));(case aO=>exact zq5);(case aS=>exact (j1m zq0));(case aL=>have:=LMc122.out;first|omega|(exact Nat.le_of_lt (Nat.lt_of_le_of_lt (Nat.le_of_eq rfl) this)));intro v183 w123 ho hb hg hat;rw [← Ny182.out] at ho;change Kd.R (Kd.int .u8) 5 w123 w0.heap.size (fun k_=>(P0_ k_∨w.heap.size≤k_)) v183 y182 at ho;have n0_:=mk0 (hb);have n1_:=mk0 (Kept.of_grown (S:=(fun k_=>P0_ k_)) hg zq2 (fun k_ e_=>(HO_0.out.1 k_ e_)));have n2_:=mk0 (ho);clear HB HK HO_0;have HB:=n0_;have HK:=n1_;have HO184:=n2_;clear n0_ n1_ n2_;clear ho hb hg hat))
        go_roundg kj96
        case measure=>have:=HK1.out;have:=HJ46.out;have:=HJ96.out;omega
        case rel=>exact ⟨(y182),(wrap64 ((wrap64 ((wrap64 (x5_1+t163)) - 1))+1)),zq7,H',⟨by have:=HK1.out;have:=HJ46.out;have:=HJ96.out;omega⟩,⟨by (with_reducible repeat (first|apply Kd.R_alloc|apply Kd.R_drewN|apply Kd.R_drew));exact HO184.out⟩,⟨by repeat (first|(with_reducible first|exact HK.out|apply Kept.alloc|apply Kept.drewN|apply Kept.drew)|exact HK.out)⟩,⟨by repeat (first|(with_reducible first|exact HB.out|apply j1i|apply j1d|apply j1h)|exact HB.out)⟩⟩
       rw [if_pos c111] at H;have c111b0:(t162 == 8233)=true:=beq_iff_eq.mpr c111;have c111b1:(t162 != 8233)=false:=bne_eq_false_iff_eq.mpr c111;clear c111;by_cases c112:x0_1.length+5<140737488355328
       rotate_left
       ·rw [if_neg c112] at H;exact absurd H (by simp)
       rw [if_pos c112] at H;have LMc112:=mk0 c112;clear c112;obtain ⟨y176,hy176⟩:∃ y_:List Int,y_=(x0_1++bytesOf (⟨#[92,117,50,48,50]⟩:ByteArray)):=⟨_,rfl⟩;replace H:(if 0≤(Go.bits .and .i32 t162 15) then (if (Go.bits .and .i32 t162 15)<16 then (if y176.length<140737488355328 then (j1a.l0 kj96 (y176++[bt (⟨#[48,49,50,51,52,53,54,55,56,57,97,98,99,100,101,102]⟩:ByteArray) (Go.bits .and .i32 t162 15)]) a1 (wrap64 ((wrap64 ((wrap64 (x5_1+t163)) - 1))+1))) else (none)) else (none)) else (none))=some r:=by first|(rw [hy176];with_reducible exact H)|(have H2_:=(Option.bind_some _ _).symm.trans H;rw [hy176];with_reducible exact H2_)|(have H2_:=(Option.bind_some _ _).symm.trans H;with_reducible exact H2_)|with_reducible exact H|(rw [hy176];exact H)|exact H
       have Ny176:=mk0 hy176;clear hy176;by_cases c113:0≤(Go.bits .and .i32 t162 15)
       rotate_left
       ·rw [if_neg c113] at H;exact absurd H (by simp)
       rw [if_pos c113] at H;have c113b0:decide (0≤(Go.bits .and .i32 t162 15))=true:=decide_eq_true c113;clear c113;by_cases c114:(Go.bits .and .i32 t162 15)<16
       rotate_left
       ·rw [if_neg c114] at H;exact absurd H (by simp)
       rw [if_pos c114] at H;have c114b0:decide ((Go.bits .and .i32 t162 15)<16)=true:=decide_eq_true c114;clear c114;by_cases c116:y176.length<140737488355328
       rotate_left
       ·rw [if_neg c116] at H;exact absurd H (by simp)
       rw [if_pos c116] at H;have LMc116:=mk0 c116;clear c116;obtain ⟨y179,hy179⟩:∃ y_:List Int,y_=(y176++[bt (⟨#[48,49,50,51,52,53,54,55,56,57,97,98,99,100,101,102]⟩:ByteArray) (Go.bits .and .i32 t162 15)]):=⟨_,rfl⟩;replace H:(j1a.l0 kj96 y179 a1 (wrap64 ((wrap64 ((wrap64 (x5_1+t163)) - 1))+1)))=some r:=by first|(rw [hy179];with_reducible exact H)|(have H2_:=(Option.bind_some _ _).symm.trans H;rw [hy179];with_reducible exact H2_)|(have H2_:=(Option.bind_some _ _).symm.trans H;with_reducible exact H2_)|with_reducible exact H|(rw [hy179];exact H)|exact H
       have Ny179:=mk0 hy179;clear hy179;have H':=mk0 H;clear H;go_wp2_with (first|(at_builtin;refine R_append_str (w0:=w0) w0.heap.size rfl (.tmp 146) _ 30 9 5 rfl Tryd.underlying30 Tryd.underlying9 info5 u0 x0_1 (⟨#[92,117,50,48,50]⟩:ByteArray) (fun k_=>(P0_ k_∨w.heap.size≤k_)) rfl rfl ?aF ?aO ?aB ?aS ?aL ?_;(case aB=>exact zq0);(case aF=>exact (fun k_ hk=>(.inr (Nat.le_trans zq4 hk))));(case aO=>exact zq5);(case aS=>exact (j1m zq0));(case aL=>have:=LMc112.out;first|omega|(exact Nat.le_of_lt (Nat.lt_of_le_of_lt (Nat.le_of_eq rfl) this)));intro v177 w117 ho hb hg hat;rw [← Ny176.out] at ho;change Kd.R (Kd.int .u8) 5 w117 w0.heap.size (fun k_=>(P0_ k_∨w.heap.size≤k_)) v177 y176 at ho;have n0_:=mk0 (hb);have n1_:=mk0 (Kept.of_grown (S:=(fun k_=>P0_ k_)) hg zq2 (fun k_ e_=>(HO_0.out.1 k_ e_)));have n2_:=mk0 (ho);clear HB HK HO_0;have HB:=n0_;have HK:=n1_;have HO178:=n2_;clear n0_ n1_ n2_;clear ho hb hg hat;have p115:0≤((Go.bits .and .i32 t162 15):Int):=of_decide_eq_true zq1;have q115:(Go.bits .and .i32 t162 15)<(16:Int):=of_decide_eq_true zq1;have hx115:=bt_at (⟨#[48,49,50,51,52,53,54,55,56,57,97,98,99,100,101,102]⟩:ByteArray) (Go.bits .and .i32 t162 15);replace p115:=eq_true p115;replace q115:=eq_true q115;have hg115:w117.cell? ⟨0,((Go.bits .and .i32 t162 15)).toNat,none⟩=some (.int .u8 (bt (⟨#[48,49,50,51,52,53,54,55,56,57,97,98,99,100,101,102]⟩:ByteArray) (Go.bits .and .i32 t162 15))):=(by exact Laid.hexchars zq11 _ (of_eq_true p115) (of_eq_true q115)))|((with_reducible refine j1p (b := .append) (xs:=#[.tmp 148, .tmp 153]) rfl ?_);at_builtin;refine Kd.R_append (Kd.int .u8) (w0:=w0) w0.heap.size rfl (.tmp 148) (.tmp 153) 30 5 (.int .u8 0) 1 rfl Tryd.underlying30 info5 rfl zq24 (by omega) v177 y176 (bt (⟨#[48,49,50,51,52,53,54,55,56,57,97,98,99,100,101,102]⟩:ByteArray) (Go.bits .and .i32 t162 15)) [.int .u8 (bt (⟨#[48,49,50,51,52,53,54,55,56,57,97,98,99,100,101,102]⟩:ByteArray) (Go.bits .and .i32 t162 15))] (fun k_=>(P0_ k_∨w.heap.size≤k_)) (fun _=>False) rfl rfl ?aP (fun _ hk=>hk.elim) ?aF ?aO ?aB ?aS ?aL ?_;(case aP=>exact rfl);(case aB=>exact zq0);(case aF=>exact (fun k_ hk=>(.inr (Nat.le_trans zq4 hk))));(case aO=>exact (by (with_reducible repeat (first|apply Kd.R_alloc|apply Kd.R_drewN|apply Kd.R_drew));exact HO178.out));(case aS=>exact (j1m zq0));(case aL=>have:=LMc116.out;first|omega|(simp only [List.length_cons,List.length_nil] at this ⊢; omega));intro v180 w118 ho hb hg hat;rw [← Ny179.out] at ho;have n0_:=mk0 (hb);have n1_:=mk0 (Kept.of_grown (S:=(fun k_=>P0_ k_)) hg zq2 (fun k_ e_=>(HO178.out.1 k_ e_)));have n2_:=mk0 (ho);clear HB HK HO178;have HB:=n0_;have HK:=n1_;have HO181:=n2_;clear n0_ n1_ n2_;clear ho hb hg hat))
       go_roundg kj96
       case measure=>have:=HK1.out;have:=HJ46.out;have:=HJ96.out;omega
       case rel=>exact ⟨(y179),(wrap64 ((wrap64 ((wrap64 (x5_1+t163)) - 1))+1)),zq7,H',⟨by have:=HK1.out;have:=HJ46.out;have:=HJ96.out;omega⟩,⟨by (with_reducible repeat (first|apply Kd.R_alloc|apply Kd.R_drewN|apply Kd.R_drew));exact HO181.out⟩,⟨by repeat (first|(with_reducible first|exact HK.out|apply Kept.alloc|apply Kept.drewN|apply Kept.drew)|exact HK.out)⟩,⟨by repeat (first|(with_reducible first|exact HB.out|apply j1i|apply j1d|apply j1h)|exact HB.out)⟩⟩
def j2c.f (k : Nat) (a0:ByteArray):Option (ByteArray):=(j1a.f k ([]:List Int) a0).bind fun t101=>(some (strOfNums t101))
theorem j2c.mono : ∀ a0 k,LeO (j2c.f k a0) (j2c.f (k+1) a0):=by
 intro a0 k;unfold j2c.f
 exact zm
set_option maxHeartbeats 8000000 in
set_option maxRecDepth 100000 in
theorem j2c.calls (k : Nat) (a0:ByteArray) (r:ByteArray) (w:World) (hG:Laid w) (h:j2c.f k a0=some r) :
 Calls Tryd.prog 5 #[.string a0] w fun e w'=>e = .returned (.string r)∧Below w.heap.size w w':=by
 have HG:=mk0 hG;clear hG;have HB:=mk0 (Below.refl w.heap.size w);have H:((j1a.f k ([]:List Int) a0).bind fun t101=>(some (strOfNums t101)))=some r:=h;clear h;replace H:=Option.bind_eq_some_iff.mp H;obtain ⟨t101,A20,H⟩:=H;replace H:(some (strOfNums t101))=some r:=H;have A2:=mk0 A20;clear A20;obtain rfl:=Option.some.inj H;go_enter Tryd.func5,Tryd.ntmps5;go_wp2_with (first|((with_reducible refine j1z (f:=9) rfl ?_);refine j2l (some 4) rfl rfl Tryd.func9 zq12 rfl #[.slice none 0 0, .string a0] rfl zq3 ?_;(refine (j1a.calls k (fun k_=>some k_=(.slice none 0 0:Value).ownBlock) (.slice none 0 0) ([]:List Int) a0 t101 w _ ?side1 ?side2 ?side3 A2.out).mono ?_);(case side1=>exact zq0);(case side2=>exact Kd.R_nil _ _ _ _ _);(case side3=>exact zq11);rintro e w3 ⟨v102,rfl,ho0,hb,hkp⟩;refine ⟨_,rfl,?_⟩;have n0_:=mk0 (Kd.R_mono (ok':=fun k_=>True) ho0 (fun k_ hk_=>trivial));have n1_:=mk0 (hb);clear HB;have HO103:=n0_;have HB:=n1_;clear n0_ n1_;(try clear hb);(try clear hkp);(try clear ho0);have hcv4:=own_string (P:=Tryd.prog) Tryd.underlying30 Tryd.underlying5 Tryd.underlying9 (Kd.own_of_R HO103.out)))
 go_ret;exact zl2
def j1w.f (a0_0 : Int) (a0_1:ByteArray) (a0_2:ByteArray) (a0_3:Nat) (a0_4:Int) (l0_5:List Int):Option (Bool):=if a0_0=0 then (some ((a0_1.size:Int) != 0)) else (some true)
set_option maxHeartbeats 8000000 in
set_option maxRecDepth 100000 in
theorem j1w.calls (a0_0 : Int) (a0_1:ByteArray) (a0_2:ByteArray) (a0_3:Nat) (a0_4:Int) (A0_5:Option Addr) (c0_5:Nat) (l0_5:List Int) (r:Bool) (w:World) (hr0_5:Kd.C (Kd.int .i64) w A0_5 l0_5.length l0_5) (hc0_5:l0_5.length≤c0_5) (h:j1w.f a0_0 a0_1 a0_2 a0_3 a0_4 l0_5=some r) :
 Calls Tryd.prog 17 #[.agg #[.int .i64 a0_0, .string a0_1, .string a0_2, .float .f64 a0_3, .int .i64 a0_4, .slice A0_5 l0_5.length c0_5]] w fun e w'=>e = .returned (.bool r)∧Below w.heap.size w w':=by
 have hu36:=Tryd.underlying36;have HR0_5:=mk0 hr0_5;have HC0_5:=mk0 hc0_5;clear hr0_5 hc0_5;have HB:=mk0 (Below.refl w.heap.size w);have H:(if a0_0=0 then (some ((a0_1.size:Int) != 0)) else (some true))=some r:=h;clear h;by_cases c2:a0_0=0
 rotate_left
 ·rw [if_neg c2] at H;have c2b0:(a0_0 == 0)=false:=beq_eq_false_iff_ne.mpr c2;have c2b1:(a0_0 != 0)=true:=bne_iff_ne.mpr c2;obtain rfl:=Option.some.inj H;go_enter Tryd.func17,Tryd.ntmps17;go_wp2_with (first|((with_reducible refine j2j (N:=1) rfl ?_);(try (refine gate_guard (by rfl) ?_;dsimp only));refine box_event ?hg (N:=1) ?hd (cs:=#[.int .i64 a0_0, .string a0_1, .string a0_2, .float .f64 a0_3, .int .i64 a0_4, .slice A0_5 l0_5.length c0_5]) (t:=36) ?hr ?_;(case hd=>rfl);(case hg=>rfl);(case hr=>exact zq18);intro gb101 hg w5 hbox hb;have n0_:=mk0 (j1r zq0 hb);have n1_:=mk0 (hbox);have n2_:=mk0 ((zq21:w.heap.size≤gb101));have n3_:=mk0 ((zq21:w.heap.size≤gb101));clear HB;have HB:=n0_;have BK101:=n1_;have GW101:=n2_;have GE101:=n3_;clear n0_ n1_ n2_ n3_;clear hb hbox hg;have hcz6_0:w5.cell? ⟨gb101,0,none⟩=some (.int .i64 a0_0):=(j1g BK101.out 0).trans rfl;have hcz6_1:w5.cell? ⟨gb101,1,none⟩=some (.string a0_1):=(j1g BK101.out 1).trans rfl;have hcz6_2:w5.cell? ⟨gb101,2,none⟩=some (.string a0_2):=(j1g BK101.out 2).trans rfl;have hcz6_3:w5.cell? ⟨gb101,3,none⟩=some (.float .f64 a0_3):=(j1g BK101.out 3).trans rfl;have hcz6_4:w5.cell? ⟨gb101,4,none⟩=some (.int .i64 a0_4):=(j1g BK101.out 4).trans rfl;have hcz6_5:w5.cell? ⟨gb101,5,none⟩=some (.slice A0_5 l0_5.length c0_5):=(j1g BK101.out 5).trans rfl;have hfz6_0:=j1e BK101.out 0;have hfz6_1:=j1e BK101.out 1;have hfz6_2:=j1e BK101.out 2;have hfz6_3:=j1e BK101.out 3;have hfz6_4:=j1e BK101.out 4;have hfz6_5:=j1e BK101.out 5))
  go_ret;exact zl5
 rw [if_pos c2] at H;have c2b0:(a0_0 == 0)=true:=beq_iff_eq.mpr c2;have c2b1:(a0_0 != 0)=false:=bne_eq_false_iff_eq.mpr c2;clear c2;obtain rfl:=Option.some.inj H;go_enter Tryd.func17,Tryd.ntmps17;go_wp2_with (first|((with_reducible refine j2j (N:=1) rfl ?_);(try (refine gate_guard (by rfl) ?_;dsimp only));refine box_event ?hg (N:=1) ?hd (cs:=#[.int .i64 a0_0, .string a0_1, .string a0_2, .float .f64 a0_3, .int .i64 a0_4, .slice A0_5 l0_5.length c0_5]) (t:=36) ?hr ?_;(case hd=>rfl);(case hg=>rfl);(case hr=>exact zq18);intro gb101 hg w3 hbox hb;have n0_:=mk0 (j1r zq0 hb);have n1_:=mk0 (hbox);have n2_:=mk0 ((zq21:w.heap.size≤gb101));have n3_:=mk0 ((zq21:w.heap.size≤gb101));clear HB;have HB:=n0_;have BK101:=n1_;have GW101:=n2_;have GE101:=n3_;clear n0_ n1_ n2_ n3_;clear hb hbox hg;have hcz4_0:w3.cell? ⟨gb101,0,none⟩=some (.int .i64 a0_0):=(j1g BK101.out 0).trans rfl;have hcz4_1:w3.cell? ⟨gb101,1,none⟩=some (.string a0_1):=(j1g BK101.out 1).trans rfl;have hcz4_2:w3.cell? ⟨gb101,2,none⟩=some (.string a0_2):=(j1g BK101.out 2).trans rfl;have hcz4_3:w3.cell? ⟨gb101,3,none⟩=some (.float .f64 a0_3):=(j1g BK101.out 3).trans rfl;have hcz4_4:w3.cell? ⟨gb101,4,none⟩=some (.int .i64 a0_4):=(j1g BK101.out 4).trans rfl;have hcz4_5:w3.cell? ⟨gb101,5,none⟩=some (.slice A0_5 l0_5.length c0_5):=(j1g BK101.out 5).trans rfl;have hfz4_0:=j1e BK101.out 0;have hfz4_1:=j1e BK101.out 1;have hfz4_2:=j1e BK101.out 2;have hfz4_3:=j1e BK101.out 3;have hfz4_4:=j1e BK101.out 4;have hfz4_5:=j1e BK101.out 5))
 go_ret;exact zl5
theorem run_store_float10 (P : Program) (w:World) (a:Addr) (m:Mode) (k:FloatKind) (b:Nat):(store a (.float k b) m).run P w=stored P w a (.float k b) m:=run_store P w a _ m rfl
attribute [local go_sem] run_store_float10
def j2k.f (a0_0 : Int) (a0_1:ByteArray) (a0_2:ByteArray) (a0_3:Nat) (a0_4:Int) (l0_5:List Int):Option (Int × ByteArray × ByteArray × Nat × Bool):=(j1w.f a0_0 a0_1 a0_2 a0_3 a0_4 l0_5).bind fun t103=>(some (a0_0,a0_1,a0_2,a0_3,t103))
def j2k.T1 : Bool × List (List Nat × List Nat):=(true,[([],[]),([0],[0]),([],[]),([2],[2]),([],[]),([4],[4]),([],[]),([6],[6]),([],[]),([8],[8]),([1,3,5,7,9],[1,3,5,7,9]),([10,9,0,1,2,3,4,5,6,7,8,9,10],[10])])
def j2k.B1 : List Nat:=[0,1,0,4,0,16,0,64,0,256,1023,2047]
theorem j2k.tab1 : rtab .any (opsOf Tryd.f10 1)=j2k.T1:=by kernel_rfl
theorem j2k.bits1 : waitsOk j2k.T1.2 j2k.B1=true:=by kernel_rfl
set_option maxHeartbeats 8000000 in
set_option maxRecDepth 100000 in
theorem j2k.calls (a0_0 : Int) (a0_1:ByteArray) (a0_2:ByteArray) (a0_3:Nat) (a0_4:Int) (A0_5:Option Addr) (c0_5:Nat) (l0_5:List Int) (r1:Int) (r2:ByteArray) (r3:ByteArray) (r4:Nat) (r5:Bool) (w:World) (hr0_5:Kd.C (Kd.int .i64) w A0_5 l0_5.length l0_5) (hc0_5:l0_5.length≤c0_5) (h:j2k.f a0_0 a0_1 a0_2 a0_3 a0_4 l0_5=some (r1,r2,r3,r4,r5)) :
 Calls Tryd.prog 10 #[.agg #[.int .i64 a0_0, .string a0_1, .string a0_2, .float .f64 a0_3, .int .i64 a0_4, .slice A0_5 l0_5.length c0_5]] w fun e w'=>e = .returned (.agg #[.int .i64 r1, .string r2, .string r3, .float .f64 r4, .bool r5])∧Below w.heap.size w w':=by
 have hu36:=Tryd.underlying36;have hu26:=Tryd.underlying26;have HR0_5:=mk0 hr0_5;have HC0_5:=mk0 hc0_5;clear hr0_5 hc0_5;have HB:=mk0 (Below.refl w.heap.size w);have H:((j1w.f a0_0 a0_1 a0_2 a0_3 a0_4 l0_5).bind fun t103=>(some (a0_0,a0_1,a0_2,a0_3,t103)))=some (r1,r2,r3,r4,r5):=h;clear h;replace H:=Option.bind_eq_some_iff.mp H;obtain ⟨t103,A20,H⟩:=H;replace H:(some (a0_0,a0_1,a0_2,a0_3,t103))=some (r1,r2,r3,r4,r5):=H;have A2:=mk0 A20;clear A20;simp only [Option.some.injEq,Prod.mk.injEq] at H;obtain ⟨rfl,rfl,rfl,rfl,rfl⟩:=H;go_enter Tryd.func10,Tryd.ntmps10
 try go_wp2_with (first|((with_reducible refine j2j (N:=1) rfl ?_);refine box_event ?hg (N:=1) ?hd (cs:=#[.int .i64 a0_0, .string a0_1, .string a0_2, .float .f64 a0_3, .int .i64 a0_4, .slice A0_5 l0_5.length c0_5]) (t:=36) ?hr ?_;(case hd=>rfl);(case hg=>rfl);(case hr=>exact zq18);intro gb101 hg w3 hbox hb;have n0_:=mk0 (j1r zq0 hb);have n1_:=mk0 (hbox);have n2_:=mk0 ((zq21:w.heap.size≤gb101));have n3_:=mk0 ((zq21:w.heap.size≤gb101));clear HB;have HB:=n0_;have BK101:=n1_;have GW101:=n2_;have GE101:=n3_;clear n0_ n1_ n2_ n3_;clear hb hbox hg)|((with_reducible refine j2j (N:=2) rfl ?_);refine box_event ?hg (N:=2) ?hd (cs:=#[.int .i64 0, .string (⟨#[]⟩:ByteArray), .string (⟨#[]⟩:ByteArray), .float .f64 0, .bool false]) (t:=26) ?hr ?_;(case hd=>rfl);(case hg=>rfl);(case hr=>exact zq18);intro gb102 hg w4 hbox hb;have n0_:=mk0 (j2g (g:=gb101) (o := .cells #[.int .i64 a0_0, .string a0_1, .string a0_2, .float .f64 a0_3, .int .i64 a0_4, .slice A0_5 l0_5.length c0_5] 36 (0,0)) zq10 hb);have n1_:=mk0 (j1r zq8 hb);have n2_:=mk0 (hbox);have n3_:=mk0 ((by rw [hg];exact (j1m zq8):w.heap.size≤gb102));have n4_:=mk0 ((by rw [hg];exact (j1m zq8):w.heap.size≤gb102));have n5_:=mk0 ((by rw [hg];exact Nat.ne_of_lt (blk_lt (g:=gb101) (o := .cells #[.int .i64 a0_0, .string a0_1, .string a0_2, .float .f64 a0_3, .int .i64 a0_4, .slice A0_5 l0_5.length c0_5] 36 (0,0)) zq10):gb101≠gb102));have n6_:=mk0 ((by rw [hg];exact Nat.ne_of_gt (blk_lt (g:=gb101) (o := .cells #[.int .i64 a0_0, .string a0_1, .string a0_2, .float .f64 a0_3, .int .i64 a0_4, .slice A0_5 l0_5.length c0_5] 36 (0,0)) zq10):gb102≠gb101));clear BK101 HB;have BK101:=n0_;have HB:=n1_;have BK102:=n2_;have GW102:=n3_;have GE102:=n4_;have NB101_102:=n5_;have NB102_101:=n6_;clear n0_ n1_ n2_ n3_ n4_ n5_ n6_;clear hb hbox hg))
 have n0_:=mk0 (j1n BK101.out);have n1_:=mk0 (j1n BK102.out);have n2_:=mk0 (j1h HB.out);clear BK101;clear BK102;clear HB;have BK101:=n0_;have BK102:=n1_;have HB:=n2_;clear n0_ n1_ n2_;refine start_ (n:=12) (S:=fun w'=>w'.cell? ⟨gb101,0,none⟩=some (.int .i64 a0_0)∧w'.cell? ⟨gb101,1,none⟩=some (.string a0_1)∧w'.cell? ⟨gb101,2,none⟩=some (.string a0_2)∧w'.cell? ⟨gb101,3,none⟩=some (.float .f64 a0_3)∧w'.cell? ⟨gb101,4,none⟩=some (.int .i64 a0_4)∧w'.cell? ⟨gb101,5,none⟩=some (.slice A0_5 l0_5.length c0_5)) (ds:=[]) #[false,false,false,false,false,false,false,false,false,false,false,false] zq12 rfl rfl ⟨(j1g BK101.out 0).trans rfl,(j1g BK101.out 1).trans rfl,(j1g BK101.out 2).trans rfl,(j1g BK101.out 3).trans rfl,(j1g BK101.out 4).trans rfl,(j1g BK101.out 5).trans rfl⟩ (fun hHeld=>?_);refine with_tabW j2k.tab1 j2k.bits1 (fun HT_ HW_=>?_)
 generalize w4.drew=w5 at BK101 BK102 HB hHeld ⊢
 refine pure_ (i:=0) (N:=some 3) (v:=?_) (a':=?_) #[true,false,false,false,false,false,false,false,false,false,false,false] rfl rfl (j1y HT_.out zq12) (fun _ _ _ h=>h) (Or.inl ⟨by rfl,?_⟩) ?_ ?_;rotate_left
 ·exact zl1
 rotate_left
 ·exact zl0
 refine pure_ (i:=2) (N:=some 5) (v:=?_) (a':=?_) #[true,false,true,false,false,false,false,false,false,false,false,false] rfl rfl (j1y HT_.out zq12) (fun _ _ _ h=>h) (Or.inl ⟨by rfl,?_⟩) ?_ ?_;rotate_left
 ·exact zl1
 rotate_left
 ·exact zl0
 refine pure_ (i:=4) (N:=some 7) (v:=?_) (a':=?_) #[true,false,true,false,true,false,false,false,false,false,false,false] rfl rfl (j1y HT_.out zq12) (fun _ _ _ h=>h) (Or.inl ⟨by rfl,?_⟩) ?_ ?_;rotate_left
 ·exact zl1
 rotate_left
 ·exact zl0
 refine pure_ (i:=6) (N:=some 9) (v:=?_) (a':=?_) #[true,false,true,false,true,false,true,false,false,false,false,false] rfl rfl (j1y HT_.out zq12) (fun _ _ _ h=>h) (Or.inl ⟨by rfl,?_⟩) ?_ ?_;rotate_left
 ·exact zl1
 rotate_left
 ·exact zl0
 refine take_ (i:=1) (N:=some 4) (v:=?_) (a':=?_) #[true,true,true,false,true,false,true,false,false,false,false,false] rfl rfl (take_ofW HT_.out HW_.out zq12) (fun _ _ _ h=>h) (Or.inl ⟨by rfl,?_⟩) hHeld ?_ ?_;rotate_left
 ·exact zl7
 rotate_left
 ·exact zl0
 refine take_ (i:=3) (N:=some 6) (v:=?_) (a':=?_) #[true,true,true,true,true,false,true,false,false,false,false,false] rfl rfl (take_ofW HT_.out HW_.out zq12) (fun _ _ _ h=>h) (Or.inl ⟨by rfl,?_⟩) hHeld ?_ ?_;rotate_left
 ·exact zl7
 rotate_left
 ·exact zl0
 refine take_ (i:=5) (N:=some 8) (v:=?_) (a':=?_) #[true,true,true,true,true,true,true,false,false,false,false,false] rfl rfl (take_ofW HT_.out HW_.out zq12) (fun _ _ _ h=>h) (Or.inl ⟨by rfl,?_⟩) hHeld ?_ ?_;rotate_left
 ·exact zl7
 rotate_left
 ·exact zl0
 refine take_ (i:=7) (N:=some 10) (v:=?_) (a':=?_) #[true,true,true,true,true,true,true,true,false,false,false,false] rfl rfl (take_ofW HT_.out HW_.out zq12) (fun _ _ _ h=>h) (Or.inl ⟨by rfl,?_⟩) hHeld ?_ ?_;rotate_left
 ·exact zl7
 rotate_left
 ·exact zl0
 refine take_ (i:=8) (N:=some 11) (v:=?_) (a':=?_) #[true,true,true,true,true,true,true,true,true,false,false,false] rfl rfl (take_ofW HT_.out HW_.out zq12) (fun _ _ _ h=>h) (Or.inl ⟨by rfl,?_⟩) hHeld ?_ ?_;rotate_left
 ·exact zl7
 rotate_left
 ·exact zl0
 refine one_ (i:=9) (N:=some 12) #[true,true,true,true,true,true,true,true,true,true,false,false] rfl rfl (one_of HT_.out zq12) zq24 (fun K hK=>?_);refine goes_ Tryd.func17 zq12 rfl #[.agg #[.int .i64 a0_0, .string a0_1, .string a0_2, .float .f64 a0_3, .int .i64 a0_4, .slice A0_5 l0_5.length c0_5]] (by rfl) rfl rfl zq3 ?_;with_reducible refine (j1w.calls a0_0 a0_1 a0_2 a0_3 a0_4 _ _ l0_5 t103 _ ?side1 ?side2 A2.out).mono ?_
 (case side1=>repeat (first|exact (Kd.C_below HR0_5.out HB.out)|(with_reducible refine Kd.C_alloc ?_ _)|(with_reducible refine Kd.C_drewN ?_ _)|(with_reducible refine Kd.C_drew ?_)));(case side2=>exact HC0_5.out);rintro e w6 ⟨rfl,hb⟩;refine ⟨_,rfl,?_⟩;have n0_:=mk0 (j2g (g:=gb101) (o := .cells #[.int .i64 a0_0, .string a0_1, .string a0_2, .float .f64 a0_3, .int .i64 a0_4, .slice A0_5 l0_5.length c0_5] 36 (0,0)) zq10 hb);have n1_:=mk0 (j2g (g:=gb102) (o := .cells #[.int .i64 0, .string (⟨#[]⟩:ByteArray), .string (⟨#[]⟩:ByteArray), .float .f64 0, .bool false] 26 (0,0)) (by (with_reducible repeat (first|refine j1j ?_ _|refine j1n ?_|refine j1k ?_ _));exact BK102.out) hb);have n2_:=mk0 (j1r zq9 hb);clear BK101;clear BK102;clear HB;have BK101:=n0_;have BK102:=n1_;have HB:=n2_;clear n0_ n1_ n2_;(try clear hb);(try clear hb2);(try clear hk);(try clear hi);refine hK.out _ _ ⟨(j1g BK101.out 0).trans rfl,(j1g BK101.out 1).trans rfl,(j1g BK101.out 2).trans rfl,(j1g BK101.out 3).trans rfl,(j1g BK101.out 4).trans rfl,(j1g BK101.out 5).trans rfl⟩ (fun hHeld=>?_);clear hK K;refine norm_ (a':=?_) ?_ ?_;rotate_left
 ·show Act.put _ (some 12) _=_
  exact zl0
 refine pure_ (i:=10) (N:=some 13) (v:=?_) (a':=?_) #[true,true,true,true,true,true,true,true,true,true,true,false] rfl rfl (j1y HT_.out zq12) (fun _ _ _ h=>h) (Or.inl ⟨by rfl,?_⟩) ?_ ?_;rotate_left
 ·exact zl1
 rotate_left
 ·exact zl0
 refine one_ (i:=11) (N:=none) #[true,true,true,true,true,true,true,true,true,true,true,true] rfl rfl (one_of HT_.out zq12) zq24 (fun K hK=>?_);have hs7:w6.cell? ⟨gb102,0,none⟩=some (.int .i64 0):=(j1g BK102.out 0).trans rfl;have hfs7:=j1e BK102.out 0;have hns7_0:=NB101_102.out;have hms7_0:=NB102_101.out;have hs8:w6.cell? ⟨gb102,1,none⟩=some (.string (⟨#[]⟩:ByteArray)):=(j1g BK102.out 1).trans rfl;have hfs8:=j1e BK102.out 1;have hns8_0:=NB101_102.out;have hms8_0:=NB102_101.out;have hs9:w6.cell? ⟨gb102,2,none⟩=some (.string (⟨#[]⟩:ByteArray)):=(j1g BK102.out 2).trans rfl;have hfs9:=j1e BK102.out 2;have hns9_0:=NB101_102.out;have hms9_0:=NB102_101.out;have hs10:w6.cell? ⟨gb102,3,none⟩=some (.float .f64 0):=(j1g BK102.out 3).trans rfl;have hfs10:=j1e BK102.out 3;have hns10_0:=NB101_102.out;have hms10_0:=NB102_101.out;have hs11:w6.cell? ⟨gb102,4,none⟩=some (.bool false):=(j1g BK102.out 4).trans rfl;have hfs11:=j1e BK102.out 4;have hns11_0:=NB101_102.out;have hms11_0:=NB102_101.out;refine skip_ (w1:=?_) (by rfl) rfl ?_ ?_;rotate_left
 ·go_simp;rfl
 refine hK.out _ _ ⟨((cell_far (p:=⟨gb102,_,none⟩) NB101_102.out _).trans (((cell_far (p:=⟨gb102,_,none⟩) NB101_102.out _).trans (((cell_far (p:=⟨gb102,_,none⟩) NB101_102.out _).trans (((cell_far (p:=⟨gb102,_,none⟩) NB101_102.out _).trans (((cell_far (p:=⟨gb102,_,none⟩) NB101_102.out _).trans (hHeld.1)))))))))),((cell_far (p:=⟨gb102,_,none⟩) NB101_102.out _).trans (((cell_far (p:=⟨gb102,_,none⟩) NB101_102.out _).trans (((cell_far (p:=⟨gb102,_,none⟩) NB101_102.out _).trans (((cell_far (p:=⟨gb102,_,none⟩) NB101_102.out _).trans (((cell_far (p:=⟨gb102,_,none⟩) NB101_102.out _).trans (hHeld.2.1)))))))))),((cell_far (p:=⟨gb102,_,none⟩) NB101_102.out _).trans (((cell_far (p:=⟨gb102,_,none⟩) NB101_102.out _).trans (((cell_far (p:=⟨gb102,_,none⟩) NB101_102.out _).trans (((cell_far (p:=⟨gb102,_,none⟩) NB101_102.out _).trans (((cell_far (p:=⟨gb102,_,none⟩) NB101_102.out _).trans (hHeld.2.2.1)))))))))),((cell_far (p:=⟨gb102,_,none⟩) NB101_102.out _).trans (((cell_far (p:=⟨gb102,_,none⟩) NB101_102.out _).trans (((cell_far (p:=⟨gb102,_,none⟩) NB101_102.out _).trans (((cell_far (p:=⟨gb102,_,none⟩) NB101_102.out _).trans (((cell_far (p:=⟨gb102,_,none⟩) NB101_102.out _).trans (hHeld.2.2.2.1)))))))))),((cell_far (p:=⟨gb102,_,none⟩) NB101_102.out _).trans (((cell_far (p:=⟨gb102,_,none⟩) NB101_102.out _).trans (((cell_far (p:=⟨gb102,_,none⟩) NB101_102.out _).trans (((cell_far (p:=⟨gb102,_,none⟩) NB101_102.out _).trans (((cell_far (p:=⟨gb102,_,none⟩) NB101_102.out _).trans (hHeld.2.2.2.2.1)))))))))),((cell_far (p:=⟨gb102,_,none⟩) NB101_102.out _).trans (((cell_far (p:=⟨gb102,_,none⟩) NB101_102.out _).trans (((cell_far (p:=⟨gb102,_,none⟩) NB101_102.out _).trans (((cell_far (p:=⟨gb102,_,none⟩) NB101_102.out _).trans (((cell_far (p:=⟨gb102,_,none⟩) NB101_102.out _).trans (hHeld.2.2.2.2.2))))))))))⟩ (fun hHeld=>?_);clear hK K;refine done_ (done_of HT_.out zq12) ?_
 try go_wp2
 refine bodyPost_ret (results_cell_row rfl _ _ gb102 26 #[.int .i64 a0_0, .string a0_1, .string a0_2, .float .f64 a0_3, .bool t103] (0,0) _ rfl (by (with_reducible repeat (first|refine j1j ?_ _|refine j1n ?_|refine j1k ?_ _));refine j1x (cs:=#[.int .i64 a0_0, .string a0_1, .string a0_2, .float .f64 a0_3, .bool false]) ?_ 4 _ rfl;(with_reducible repeat (first|refine j1j ?_ _|refine j1n ?_|refine j1k ?_ _));refine j1x (cs:=#[.int .i64 a0_0, .string a0_1, .string a0_2, .float .f64 0, .bool false]) ?_ 3 _ rfl;(with_reducible repeat (first|refine j1j ?_ _|refine j1n ?_|refine j1k ?_ _));refine j1x (cs:=#[.int .i64 a0_0, .string a0_1, .string (⟨#[]⟩:ByteArray), .float .f64 0, .bool false]) ?_ 2 _ rfl;(with_reducible repeat (first|refine j1j ?_ _|refine j1n ?_|refine j1k ?_ _));refine j1x (cs:=#[.int .i64 a0_0, .string (⟨#[]⟩:ByteArray), .string (⟨#[]⟩:ByteArray), .float .f64 0, .bool false]) ?_ 1 _ rfl;(with_reducible repeat (first|refine j1j ?_ _|refine j1n ?_|refine j1k ?_ _));refine j1x (cs:=#[.int .i64 0, .string (⟨#[]⟩:ByteArray), .string (⟨#[]⟩:ByteArray), .float .f64 0, .bool false]) ?_ 0 _ rfl;(with_reducible repeat (first|refine j1j ?_ _|refine j1n ?_|refine j1k ?_ _));exact BK102.out) Tryd.underlying26 rfl zq12) rfl ?_;exact ⟨by first|rfl|(simp [j1t,j1s]<;>rfl)|(simp [*, j1t,j1s]<;>rfl),by repeat (first|(with_reducible first|exact HB.out|apply j1i|apply j1d|apply j1h|refine j2e ?_ GE101.out|refine j2e ?_ GE102.out)|exact HB.out)⟩
end Go.Proofs.YtchhndbekjgimaaDoor.H
end
section
namespace Go.Proofs.YtchhndbekjgimaaDoor.J
open Go.RowKit Go.Proofs.YtchhndbekjgimaaDoorW.PrintWords Go.Proofs.YtchhndbekjgimaaDoorW.PrintLast
theorem w64 {x : Int} (h : -9223372036854775808≤x∧x≤9223372036854775807):wrap64 x=x:=by
 unfold wrap64;omega
def From (s : ByteArray) (i:Nat) (l:List Int):Prop:=i≤s.size∧(bytesOf s).drop i=l
theorem From.len {s : ByteArray} {i:Nat} {l:List Int} (h:From s i l):i+l.length=s.size:=by
 have h1:=h.1;rw [← h.2,List.length_drop,bytesOf_length];omega
theorem From.start (s : ByteArray):From s 0 (bytesOf s):=⟨Nat.zero_le _,rfl⟩
theorem From.at {s : ByteArray} {i:Nat} (h:i≤s.size):From s i ((bytesOf s).drop i):=⟨h,rfl⟩
theorem From.drop {s : ByteArray} {i:Nat} {l:List Int} (h:From s i l) (n:Nat) (hn:n≤l.length):From s (i+n) (l.drop n):=by
 have:=h.len;exact ⟨by omega,by rw [← h.2,List.drop_drop]⟩
theorem From.app {s : ByteArray} {i:Nat} {a l:List Int} (h:From s i (a++l)):From s (i+a.length) l:=by
 have:=h.drop a.length (by simp)
 simpa using this
theorem From.tail {s : ByteArray} {i:Nat} {a:Int} {l:List Int} (h:From s i (a :: l)):From s (i+1) l:=by
 have:=h.drop 1 (by simp)
 simpa using this
theorem From.lt {s : ByteArray} {i:Nat} {a:Int} {l:List Int} (h:From s i (a :: l)):i<s.size:=by
 have:=h.len;simp at this;omega
theorem From.bt {s : ByteArray} {i:Nat} {a:Int} {l:List Int} (h:From s i (a :: l)):bt s (i:Int)=a:=by
 have h1:(bytesOf s)[i]? = some a:=by
  have:=congrArg (·[0]?) h.2
  simpa using this
 rw [← rd_bytesOf];unfold rd;simp [List.getD_eq_getElem?_getD,h1]
theorem From.nil {s : ByteArray} {i:Nat} (h:From s i []):i=s.size:=by
 have:=h.len
 simpa using this
theorem From.same {s : ByteArray} {i:Nat} {l l':List Int} (h:From s i l) (h':From s i l'):l=l':=h.2.symm.trans h'.2
theorem bytesOf_range (s : ByteArray):∀ a ∈ bytesOf s,0≤a∧a≤255:=by
 intro a ha;unfold bytesOf at ha;rw [List.mem_map] at ha;obtain ⟨b,_,rfl⟩:=ha;have:=b.toNat_lt;omega
theorem From.range {s : ByteArray} {i:Nat} {l:List Int} (h:From s i l):∀ a ∈ l,0≤a∧a≤255:=by
 intro a ha;rw [← h.2] at ha;exact bytesOf_range s a (List.mem_of_mem_drop ha)
theorem From.head {s : ByteArray} {i:Nat} {a:Int} {l:List Int} (h:From s i (a :: l)):0≤a∧a≤255:=h.range a (by simp)
theorem bytesOf_extract (s : ByteArray) (i j:Nat):bytesOf (s.extract i j)=((bytesOf s).take j).drop i:=by
 unfold bytesOf;rw [ByteArray.data_extract,Array.toList_extract,List.extract_eq_take_drop,List.map_take,List.map_drop,List.drop_take]
theorem From.extract {s : ByteArray} {i:Nat} {a l:List Int} (h:From s i (a++l)):bytesOf (s.extract i (i+a.length))=a:=by
 rw [bytesOf_extract,List.drop_take,h.2];simp
theorem bytesOf_strOfNums (l : List Int) (h:∀ a ∈ l,0≤a∧a≤255):bytesOf (strOfNums l)=l:=by
 unfold bytesOf;rw [strOfNums_data,List.map_map]
 conv=>rhs;rw [← List.map_id l]
 apply List.map_congr_left;intro a ha;have:=h a ha;simp only [Function.comp,id];rw [show (UInt8.ofNat a.toNat).toNat=a.toNat % 256 from UInt8.toNat_ofNat ..];omega
theorem strOfNums_bytesOf (s : ByteArray):strOfNums (bytesOf s)=s:=by
 apply ByteArray.ext;apply Array.toList_inj.mp;rw [strOfNums_data];unfold bytesOf;rw [List.map_map]
 conv=>rhs;rw [← List.map_id s.data.toList]
 apply List.map_congr_left;intro b _;simp [Function.comp]
theorem bytesOf_inj {s t : ByteArray} (h:bytesOf s=bytesOf t):s=t:=by
 rw [← strOfNums_bytesOf s,h,strOfNums_bytesOf]
theorem toList_inj {s t : ByteArray} (h:s.toList=t.toList):s=t:=by
 rw [ByteArray.toList_eq,ByteArray.toList_eq] at h
 exact ByteArray.ext (Array.toList_inj.mp h)
def hexv (c : Int):Option Int:=if 48≤c∧c≤57 then some (c - 48) else if 97≤c∧c≤102 then some (c - 87) else if 65≤c∧c≤70 then some (c - 55) else none
theorem hexv_range {c v : Int} (h:hexv c=some v):0≤v∧v≤15:=by
 unfold hexv at h
 split at h
 ·cases h;omega
 split at h
 ·cases h;omega
 split at h
 ·cases h;omega
 ·cases h
def hex4 : List Int→Option Int
  | a :: b :: c :: d :: _=>(hexv a).bind fun x=>(hexv b).bind fun y=>(hexv c).bind fun z=>(hexv d).bind fun u=>some (((x*16+y)*16+z)*16+u)
  | _=>none
theorem hex4_len {l : List Int} {v:Int} (h:hex4 l=some v):4≤l.length:=by
 unfold hex4 at h
 split at h
 ·simp
 ·cases h
theorem hex4_range {l : List Int} {v:Int} (h:hex4 l=some v):0≤v∧v≤65535:=by
 unfold hex4 at h
 split at h
 ·rename_i a b c d _;obtain ⟨x,hx,h⟩:=Option.bind_eq_some_iff.mp h;obtain ⟨y,hy,h⟩:=Option.bind_eq_some_iff.mp h;obtain ⟨z,hz,h⟩:=Option.bind_eq_some_iff.mp h;obtain ⟨u,hu,h⟩:=Option.bind_eq_some_iff.mp h;have:=hexv_range hx;have:=hexv_range hy;have:=hexv_range hz;have:=hexv_range hu;cases h;omega
 ·cases h
def isE (c : Int):Bool:=decide (c=34∨c=92∨c=47∨c=98∨c=102∨c=110∨c=114∨c=116)
def unl (b : Int):Int:=if b=98 then 8 else if b=102 then 12 else if b=110 then 10 else if b=114 then 13 else if b=116 then 9 else b
def hiS (n : Int):Bool:=decide (55296≤n∧n≤56319)
def loS (n : Int):Bool:=decide (56320≤n∧n≤57343)
def utf (c : Int):List Int :=
  if c<128 then [c]
  else if c<2048 then [192+c / 64,128+c % 64]
  else if hiS c=true∨loS c=true then [239,191,189]
  else if c<65536 then [224+c / 4096,128+c / 64 % 64,128+c % 64]
  else [240+c / 262144,128+c / 4096 % 64,128+c / 64 % 64,128+c % 64]
def unitL : List Int→Option Int
  | a :: b :: r=>if a=92∧b=117 then hex4 r else none
  | _=>none
def unqL (l : List Int):List Int :=
  match l with
  | []=>[]
  | c :: r=>if c=92 then (match _h:unitL (c :: r) with
      | some n=>if (match unitL (r.drop 5) with|some m=>hiS n && loS m|none=>false)=true then utf (65536+(n - 55296)*1024+((unitL (r.drop 5)).getD 0 - 56320))++unqL (r.drop 11) else utf n++unqL (r.drop 5)
      | none=>(match r with
        | []=>[]
        | b :: r'=>unl b :: unqL r')) else c :: unqL r
termination_by l.length
decreasing_by all_goals (simp; try omega)

inductive Body : List Int→Prop
  | nil:Body []
  | raw {c:Int} {l:List Int}:c≠34→¬ c<32→c≠92→Body l→Body (c :: l)
  | two {b:Int} {l:List Int}:isE b=true→Body l→Body (92 :: b :: l)
  | six {a b c d v:Int} {l:List Int}:hex4 (a :: b :: c :: d :: l)=some v→Body l→Body (92 :: 117 :: a :: b :: c :: d :: l)
theorem hex4_more {a b c d:Int} (l l':List Int):hex4 (a :: b :: c :: d :: l)=hex4 (a :: b :: c :: d :: l'):=rfl
theorem isE_117 : isE 117=false:=by decide
theorem unitL_six {a b c d v:Int} {l:List Int} (h:hex4 (a :: b :: c :: d :: l)=some v):unitL (92 :: 117 :: a :: b :: c :: d :: l)=some v:=by
 show (if (92:Int)=92∧(117:Int)=117 then hex4 (a :: b :: c :: d :: l) else none)=some v
 rw [if_pos ⟨rfl,rfl⟩,h]
end Go.Proofs.YtchhndbekjgimaaDoor.J
end
section
namespace Go.Proofs.YtchhndbekjgimaaDoor.H
open Go.RowKit Go.Proofs.YtchhndbekjgimaaDoorW.PrintWords Go.Proofs.YtchhndbekjgimaaDoorW.PrintLast Go.Proofs.YtchhndbekjgimaaDoorW.PrintMore
attribute [local go_sem] max2_int min2_int max_two min_two max_three min_three max_four min_four
set_option linter.unusedVariables false
set_option linter.unusedSimpArgs false
section
set_option maxHeartbeats 32000000
set_option maxRecDepth 100000
def loB (c : Int):Int:=bits .or .u8 c 32
def hxd (c : Int):Option Int:=if 48≤c∧c≤57 then some (c - 48) else if 97≤loB c∧loB c≤102 then some (loB c - 87) else none
def hxs : Int → List UInt8→Option Int
  | acc,[]=>some acc
  | acc,c :: r=>(hxd (c.toNat:Int)).bind fun d=>hxs (acc*16+d) r
def hxT : Option Int→Value
  | some v => .tuple #[.int .u64 v, .nilIface]
  | none => .tuple #[.int .u64 0, .iface 65 (.int .i64 2)]
theorem lower_calls (c : Int) (w:World):Calls Tryd.prog 57 #[.int .u8 c] w fun e w'=>e = .returned (.int .u8 (loB c))∧w'=w:=by
 go_enter Tryd.func57,Tryd.ntmps57;go_wp2;go_ret;exact ⟨rfl,rfl⟩
theorem pu16 (t : ByteArray) (hsz:t.size=4) (w:World) :
 Calls Tryd.prog 42 #[.string t, .int .i64 16, .int .i64 16] w fun e w'=>e = .returned (hxT (hxs 0 t.data.toList))∧w'=Lib.bytesWorld w 5 t:=by
 have hemp:t.toList.isEmpty=false:=by
  rw [← decide_eq_emptyBytes];exact decide_eq_false (fun h=>by rw [h] at hsz;revert hsz;decide)
 have hcv:=Lib.run_convert_string_bytes (P:=Tryd.prog) w 9 30 5 t (u := .string) Tryd.underlying9 Tryd.underlying30 Tryd.underlying5;have hB:∀ j,j<t.size→(Lib.bytesWorld w 5 t).cell? ⟨w.heap.size,j,none⟩=some (.int .u8 (t.data.toList.getD j 0).toNat):=fun j hj=>Lib.bytesWorld_cell w 5 t j hj
 obtain ⟨W1,hW1⟩:∃ W1,W1=Lib.bytesWorld w 5 t:=⟨_,rfl⟩;rw [← hW1] at hcv hB ⊢;clear hW1;obtain ⟨bs,hL⟩:∃ bs,bs=t.data.toList:=⟨_,rfl⟩;have hLn:bs.length=t.size:=by rw [hL,Lib.size_eq]
 rw [← hL] at hB ⊢;clear hL;go_enter Tryd.func42,Tryd.ntmps42;go_wp2
 go_loop [12,13,101] (fun vu vn vi=>∃ (k:Nat) (a:Int),vu = .bool false∧vn = .int .u64 a∧vi = .int .i64 k∧k≤t.size∧Hid (0≤a∧a<16 ^ k∧hxs 0 bs=hxs a (bs.drop k)))
  (fun _ _ vi=>t.size - (intOf vi).toNat)
 case atStart=>exact ⟨0,0,rfl,rfl,rfl,by omega,Lib.hid ⟨by omega,by decide,rfl⟩⟩
 case round =>
  obtain ⟨k,a,rfl,rfl,rfl,hk,hh⟩:=hrel;obtain ⟨ha,hacc,hdec⟩:=hh.out;clear hh;have h4:k≤4:=by omega
  have hle:a<65536:=by
   have h1:(16:Nat) ^ k≤16 ^ 4:=Nat.pow_le_pow_right zq24 h4;have h2:((16 ^ k:Nat):Int)≤((16 ^ 4:Nat):Int):=by exact_mod_cast h1
   have h3:(16:Int) ^ k≤65536:=by simpa using h2
   omega
  by_cases hkn:k<t.size
  rotate_left
  ·have hkk:k=t.size:=by omega
   subst hkk;have hF:hxs a (bs.drop t.size)=some a:=by rw [List.drop_eq_nil_of_le (by omega)];rfl
   rw [hF] at hdec;clear hF hacc;go_wp2;go_ret2;exact ⟨rfl,rfl⟩
  have hc:=hB k hkn;have hdrop:bs.drop k=bs[k]'(by omega) :: bs.drop (k+1):=List.drop_eq_getElem_cons (by omega);have hget:bs.getD k 0=bs[k]'(by omega):=by simp [List.getD,List.getElem?_eq_getElem (show k<bs.length by omega)]
  rw [hdrop] at hdec;rw [hget] at hc
  generalize bs[k]'(by omega)=c at hc hdec
  have hc256:c.toNat<256:=c.toNat_lt;clear hB hdrop hget
  have hle2:a<4096:=by
   have h1:(16:Nat) ^ k≤16 ^ 3:=Nat.pow_le_pow_right zq24 (by omega);have h2:((16 ^ k:Nat):Int)≤((16 ^ 3:Nat):Int):=by exact_mod_cast h1
   have h3:(16:Int) ^ k≤4096:=by simpa using h2
   omega
  have hv0:0≤loB (c.toNat:Int):=bits_lo_u8 .or (c.toNat:Int) 32;have hv1:loB (c.toNat:Int)≤255:=by have:=bits_hi_u8 .or (c.toNat:Int) 32;unfold loB;omega
  by_cases hdig:48≤c.toNat∧c.toNat≤57
  ·obtain ⟨hd0,hd1⟩:=hdig;have hF:hxd (c.toNat:Int)=some ((c.toNat:Int) - 48):=by rw [hxd,if_pos (by omega)]
   have HN:Hid (0≤a*16+((c.toNat:Int) - 48)∧a*16+((c.toNat:Int) - 48)<16 ^ (k+1)∧hxs 0 bs=hxs (a*16+((c.toNat:Int) - 48)) (bs.drop (k+1))):=Lib.hid ⟨by omega,by rw [Int.pow_succ];omega,by rw [hdec,hxs,hF,Option.bind_some]⟩;have icut:a<1152921504606846976:=by omega
   have iov:a*16+((c.toNat:Int) - 48)≤65535:=by omega
   clear hF hdec hacc hv0 hv1;go_wp2;refine ⟨⟨k+1,a*16+((c.toNat:Int) - 48),rfl,zq25,zq25,by omega,HN⟩,by simp [intOf];omega⟩
  have low:∀ W,Calls Tryd.prog 57 #[.int .u8 (c.toNat:Int)] W fun e w'=>e = .returned (.int .u8 (loB (c.toNat:Int)))∧w'=W:=fun W=>lower_calls _ W
  have hX0:∀ v,hxd (c.toNat:Int)=v→hxs 0 bs=v.bind fun d=>hxs (a*16+d) (bs.drop (k+1)):=fun v e=>by rw [hdec,hxs,e]
  have hY:hxd (c.toNat:Int)=if 97≤loB (c.toNat:Int)∧loB (c.toNat:Int)≤102 then some (loB (c.toNat:Int) - 87) else none:=by rw [hxd,if_neg (by omega)]
  have hX:=hX0 _ hY;clear hX0 hY hdec
  have h95L:(c.toNat:Int)=95→loB (c.toNat:Int)=127:=fun e=>by
   rw [e];decide
  generalize loB (c.toNat:Int)=L at hv0 hv1 low hX h95L
  by_cases hlet:97≤L∧L≤122
  rotate_left
  ·rw [if_neg (by omega),Option.bind_none] at hX;clear hacc;by_cases h95:(c.toNat:Int)=95
   rotate_left
   ·go_wp2_with (go_at_call 57;refine (low _).mono ?_;rintro e w' ⟨rfl,rfl⟩)
    all_goals go_ret2
    all_goals first|exact ⟨rfl,rfl⟩|exact ⟨by rw [hX];rfl,rfl⟩
   have hl:=h95L h95;subst hl;clear h95L;rw [h95] at low hc;go_wp2_with (go_at_call 57;refine (low _).mono ?_;rintro e w' ⟨rfl,rfl⟩)
   all_goals go_ret2
   all_goals first|exact ⟨rfl,rfl⟩|exact ⟨by rw [hX];rfl,rfl⟩
  obtain ⟨hl0,hl1⟩:=hlet
  have hn95:¬ (c.toNat:Int)=95:=fun e=>by
   have:=h95L e;omega
  clear h95L;by_cases hx:L≤102
  rotate_left
  ·rw [if_neg (by omega),Option.bind_none] at hX;have hx':103≤L:=by omega
   clear hacc hx;go_wp2_with (go_at_call 57;refine (low _).mono ?_;rintro e w' ⟨rfl,rfl⟩)
   all_goals go_ret2
   all_goals first|exact ⟨rfl,rfl⟩|exact ⟨by rw [hX];rfl,rfl⟩
  rw [if_pos ⟨hl0,hx⟩,Option.bind_some] at hX;have HN:Hid (0≤a*16+(L - 87)∧a*16+(L - 87)<16 ^ (k+1)∧hxs 0 bs=hxs (a*16+(L - 87)) (bs.drop (k+1))):=Lib.hid ⟨by omega,by rw [Int.pow_succ];omega,hX⟩;have icut:a<1152921504606846976:=by omega
  have iov:a*16+(L - 87)≤65535:=by omega
  clear hX hacc;go_wp2_with (go_at_call 57;refine (low _).mono ?_;rintro e w' ⟨rfl,rfl⟩)
  all_goals refine ⟨⟨k+1,a*16+(L - 87),rfl,zq25,zq25,by omega,HN⟩,by simp [intOf];omega⟩
theorem pub16 (t : ByteArray) (hsz:t.size=4) (ev:Value) (w:World) (hv:w.cell? ⟨3,0,none⟩=some ev) (hev:ev = .nilIface∨∃ te pe,ev = .iface te pe) :
 Calls Tryd.prog 35 #[.string t, .int .i64 16, .int .i64 16] w fun e w'=>(∀ v,hxs 0 t.data.toList=some v→e = .returned (.tuple #[.int .u64 v, .nilIface]))∧(hxs 0 t.data.toList=none→∃ N,e = .returned (.tuple #[.int .u64 0, .iface 66 (.pointer (some ⟨N,0,none⟩))]))∧Below w.heap.size w w':=by
 have hG:(3:Nat)<w.heap.size:=Lib.lt_of_cell hv;have hI:=pu16 t hsz w
 have hT:∀ W,W.cell? ⟨3,0,none⟩=some ev→Calls Tryd.prog 25 #[.string ⟨#[80,97,114,115,101,85,105,110,116]⟩, .string t, .int .i64 16, .int .i64 16, .iface 65 (.int .i64 2)] W fun e w'=>∃ N,e = .returned (.iface 66 (.pointer (some ⟨N,0,none⟩)))∧Below W.heap.size W w':=fun W hW=>by
  refine (show Calls Tryd.prog 25 #[.string ⟨#[80,97,114,115,101,85,105,110,116]⟩, .string t, .int .i64 16, .int .i64 16, .iface 65 (.int .i64 2)] W _ from AnyPu.strconv_toError_syntax (ρ:=Tryd.laysPu14_ren) { Tryd.laysPu14 with } ⟨#[80,97,114,115,101,85,105,110,116]⟩ t 16 16 ev W (by omega) hW hev).mono ?_;rintro e w' ⟨N,rfl,_,_,hb⟩;exact ⟨N,rfl,hb⟩
 have hb1:Below w.heap.size w (Lib.bytesWorld w 5 t):=Lib.bytesWorld_below _ _ _;have hv1:(Lib.bytesWorld w 5 t).cell? ⟨3,0,none⟩=some ev:=(hb1.cell (show (⟨3,0,none⟩:Addr).block<w.heap.size from hG)).trans hv
 generalize Lib.bytesWorld w 5 t=W1 at hI hb1 hv1
 cases hx:hxs 0 t.data.toList with
 | some v =>
  rw [hx] at hI;have hI:Calls Tryd.prog 42 #[.string t, .int .i64 16, .int .i64 16] w fun e w'=>e = .returned (.tuple #[.int .u64 v, .nilIface])∧w'=W1:=hI
  clear hT;go_enter Tryd.func35,Tryd.ntmps35;go_wp2_with (go_at_call 42;refine hI.mono ?_;rintro e W2 ⟨rfl,rfl⟩)
  go_wp2;go_ret2;exact ⟨fun v' e=>(by cases e;rfl),fun e=>(by cases e),hb1⟩
 | none =>
  rw [hx] at hI;have hI:Calls Tryd.prog 42 #[.string t, .int .i64 16, .int .i64 16] w fun e w'=>e = .returned (.tuple #[.int .u64 0, .iface 65 (.int .i64 2)])∧w'=W1:=hI
  have hT:=hT W1 hv1;go_enter Tryd.func35,Tryd.ntmps35;go_wp2_with (go_at_call 42;refine hI.mono ?_;rintro e W2 ⟨rfl,rfl⟩)
  go_wp2_with (go_at_call 25;refine hT.mono ?_;rintro e W3 ⟨N,rfl,h3⟩)
  go_wp2;go_ret2;exact ⟨fun v' e=>(by cases e),fun _=>⟨N,rfl⟩,hb1.trans (h3.mono hb1.size)⟩
theorem pu16w (t : ByteArray) (hsz:t.size=4) (w:World) :
 Calls Tryd.prog 42 #[.string t, .int .i64 16, .int .i64 64] w fun e w'=>e = .returned (hxT (hxs 0 t.data.toList))∧w'=Lib.bytesWorld w 5 t:=by
 have hmx:IntKind.u64.wrap (IntKind.u64.wrap 18446744073709551616 - 1)=18446744073709551615:=by decide
 have hemp:t.toList.isEmpty=false:=by
  rw [← decide_eq_emptyBytes];exact decide_eq_false (fun h=>by rw [h] at hsz;revert hsz;decide)
 have hcv:=Lib.run_convert_string_bytes (P:=Tryd.prog) w 9 30 5 t (u := .string) Tryd.underlying9 Tryd.underlying30 Tryd.underlying5;have hB:∀ j,j<t.size→(Lib.bytesWorld w 5 t).cell? ⟨w.heap.size,j,none⟩=some (.int .u8 (t.data.toList.getD j 0).toNat):=fun j hj=>Lib.bytesWorld_cell w 5 t j hj
 obtain ⟨W1,hW1⟩:∃ W1,W1=Lib.bytesWorld w 5 t:=⟨_,rfl⟩;rw [← hW1] at hcv hB ⊢;clear hW1;obtain ⟨bs,hL⟩:∃ bs,bs=t.data.toList:=⟨_,rfl⟩;have hLn:bs.length=t.size:=by rw [hL,Lib.size_eq]
 rw [← hL] at hB ⊢;clear hL;go_enter Tryd.func42,Tryd.ntmps42;go_wp2
 go_loop [12,13,101] (fun vu vn vi=>∃ (k:Nat) (a:Int),vu = .bool false∧vn = .int .u64 a∧vi = .int .i64 k∧k≤t.size∧Hid (0≤a∧a<16 ^ k∧hxs 0 bs=hxs a (bs.drop k)))
  (fun _ _ vi=>t.size - (intOf vi).toNat)
 case atStart=>exact ⟨0,0,rfl,rfl,rfl,by omega,Lib.hid ⟨by omega,by decide,rfl⟩⟩
 case round =>
  obtain ⟨k,a,rfl,rfl,rfl,hk,hh⟩:=hrel;obtain ⟨ha,hacc,hdec⟩:=hh.out;clear hh;have h4:k≤4:=by omega
  have hle:a<65536:=by
   have h1:(16:Nat) ^ k≤16 ^ 4:=Nat.pow_le_pow_right zq24 h4;have h2:((16 ^ k:Nat):Int)≤((16 ^ 4:Nat):Int):=by exact_mod_cast h1
   have h3:(16:Int) ^ k≤65536:=by simpa using h2
   omega
  by_cases hkn:k<t.size
  rotate_left
  ·have hkk:k=t.size:=by omega
   subst hkk;have hF:hxs a (bs.drop t.size)=some a:=by rw [List.drop_eq_nil_of_le (by omega)];rfl
   rw [hF] at hdec;clear hF hacc;go_wp2;go_ret2;exact ⟨rfl,rfl⟩
  have hc:=hB k hkn;have hdrop:bs.drop k=bs[k]'(by omega) :: bs.drop (k+1):=List.drop_eq_getElem_cons (by omega);have hget:bs.getD k 0=bs[k]'(by omega):=by simp [List.getD,List.getElem?_eq_getElem (show k<bs.length by omega)]
  rw [hdrop] at hdec;rw [hget] at hc
  generalize bs[k]'(by omega)=c at hc hdec
  have hc256:c.toNat<256:=c.toNat_lt;clear hB hdrop hget
  have hle2:a<4096:=by
   have h1:(16:Nat) ^ k≤16 ^ 3:=Nat.pow_le_pow_right zq24 (by omega);have h2:((16 ^ k:Nat):Int)≤((16 ^ 3:Nat):Int):=by exact_mod_cast h1
   have h3:(16:Int) ^ k≤4096:=by simpa using h2
   omega
  have hv0:0≤loB (c.toNat:Int):=bits_lo_u8 .or (c.toNat:Int) 32;have hv1:loB (c.toNat:Int)≤255:=by have:=bits_hi_u8 .or (c.toNat:Int) 32;unfold loB;omega
  by_cases hdig:48≤c.toNat∧c.toNat≤57
  ·obtain ⟨hd0,hd1⟩:=hdig;have hF:hxd (c.toNat:Int)=some ((c.toNat:Int) - 48):=by rw [hxd,if_pos (by omega)]
   have HN:Hid (0≤a*16+((c.toNat:Int) - 48)∧a*16+((c.toNat:Int) - 48)<16 ^ (k+1)∧hxs 0 bs=hxs (a*16+((c.toNat:Int) - 48)) (bs.drop (k+1))):=Lib.hid ⟨by omega,by rw [Int.pow_succ];omega,by rw [hdec,hxs,hF,Option.bind_some]⟩;have icut:a<1152921504606846976:=by omega
   have iov:a*16+((c.toNat:Int) - 48)≤65535:=by omega
   have iow:a*16+((c.toNat:Int) - 48)≤18446744073709551615:=by omega
   clear hF hdec hacc hv0 hv1;go_wp2;refine ⟨⟨k+1,a*16+((c.toNat:Int) - 48),rfl,zq25,zq25,by omega,HN⟩,by simp [intOf];omega⟩
  have low:∀ W,Calls Tryd.prog 57 #[.int .u8 (c.toNat:Int)] W fun e w'=>e = .returned (.int .u8 (loB (c.toNat:Int)))∧w'=W:=fun W=>lower_calls _ W
  have hX0:∀ v,hxd (c.toNat:Int)=v→hxs 0 bs=v.bind fun d=>hxs (a*16+d) (bs.drop (k+1)):=fun v e=>by rw [hdec,hxs,e]
  have hY:hxd (c.toNat:Int)=if 97≤loB (c.toNat:Int)∧loB (c.toNat:Int)≤102 then some (loB (c.toNat:Int) - 87) else none:=by rw [hxd,if_neg (by omega)]
  have hX:=hX0 _ hY;clear hX0 hY hdec
  have h95L:(c.toNat:Int)=95→loB (c.toNat:Int)=127:=fun e=>by
   rw [e];decide
  generalize loB (c.toNat:Int)=L at hv0 hv1 low hX h95L
  by_cases hlet:97≤L∧L≤122
  rotate_left
  ·rw [if_neg (by omega),Option.bind_none] at hX;clear hacc;by_cases h95:(c.toNat:Int)=95
   rotate_left
   ·go_wp2_with (go_at_call 57;refine (low _).mono ?_;rintro e w' ⟨rfl,rfl⟩)
    all_goals go_ret2
    all_goals first|exact ⟨rfl,rfl⟩|exact ⟨by rw [hX];rfl,rfl⟩
   have hl:=h95L h95;subst hl;clear h95L;rw [h95] at low hc;go_wp2_with (go_at_call 57;refine (low _).mono ?_;rintro e w' ⟨rfl,rfl⟩)
   all_goals go_ret2
   all_goals first|exact ⟨rfl,rfl⟩|exact ⟨by rw [hX];rfl,rfl⟩
  obtain ⟨hl0,hl1⟩:=hlet
  have hn95:¬ (c.toNat:Int)=95:=fun e=>by
   have:=h95L e;omega
  clear h95L;by_cases hx:L≤102
  rotate_left
  ·rw [if_neg (by omega),Option.bind_none] at hX;have hx':103≤L:=by omega
   clear hacc hx;go_wp2_with (go_at_call 57;refine (low _).mono ?_;rintro e w' ⟨rfl,rfl⟩)
   all_goals go_ret2
   all_goals first|exact ⟨rfl,rfl⟩|exact ⟨by rw [hX];rfl,rfl⟩
  rw [if_pos ⟨hl0,hx⟩,Option.bind_some] at hX;have HN:Hid (0≤a*16+(L - 87)∧a*16+(L - 87)<16 ^ (k+1)∧hxs 0 bs=hxs (a*16+(L - 87)) (bs.drop (k+1))):=Lib.hid ⟨by omega,by rw [Int.pow_succ];omega,hX⟩;have icut:a<1152921504606846976:=by omega
  have iov:a*16+(L - 87)≤65535:=by omega
  have iow:a*16+(L - 87)≤18446744073709551615:=by omega
  clear hX hacc;go_wp2_with (go_at_call 57;refine (low _).mono ?_;rintro e w' ⟨rfl,rfl⟩)
  all_goals refine ⟨⟨k+1,a*16+(L - 87),rfl,zq25,zq25,by omega,HN⟩,by simp [intOf];omega⟩
theorem pub16w (t : ByteArray) (hsz:t.size=4) (ev:Value) (w:World) (hv:w.cell? ⟨3,0,none⟩=some ev) (hev:ev = .nilIface∨∃ te pe,ev = .iface te pe) :
 Calls Tryd.prog 35 #[.string t, .int .i64 16, .int .i64 64] w fun e w'=>(∀ v,hxs 0 t.data.toList=some v→e = .returned (.tuple #[.int .u64 v, .nilIface]))∧(hxs 0 t.data.toList=none→∃ N,e = .returned (.tuple #[.int .u64 0, .iface 66 (.pointer (some ⟨N,0,none⟩))]))∧Below w.heap.size w w':=by
 have hG:(3:Nat)<w.heap.size:=Lib.lt_of_cell hv;have hI:=pu16w t hsz w
 have hT:∀ W,W.cell? ⟨3,0,none⟩=some ev→Calls Tryd.prog 25 #[.string ⟨#[80,97,114,115,101,85,105,110,116]⟩, .string t, .int .i64 16, .int .i64 64, .iface 65 (.int .i64 2)] W fun e w'=>∃ N,e = .returned (.iface 66 (.pointer (some ⟨N,0,none⟩)))∧Below W.heap.size W w':=fun W hW=>by
  refine (show Calls Tryd.prog 25 #[.string ⟨#[80,97,114,115,101,85,105,110,116]⟩, .string t, .int .i64 16, .int .i64 64, .iface 65 (.int .i64 2)] W _ from AnyPu.strconv_toError_syntax (ρ:=Tryd.laysPu14_ren) { Tryd.laysPu14 with } ⟨#[80,97,114,115,101,85,105,110,116]⟩ t 16 64 ev W (by omega) hW hev).mono ?_;rintro e w' ⟨N,rfl,_,_,hb⟩;exact ⟨N,rfl,hb⟩
 have hb1:Below w.heap.size w (Lib.bytesWorld w 5 t):=Lib.bytesWorld_below _ _ _;have hv1:(Lib.bytesWorld w 5 t).cell? ⟨3,0,none⟩=some ev:=(hb1.cell (show (⟨3,0,none⟩:Addr).block<w.heap.size from hG)).trans hv
 generalize Lib.bytesWorld w 5 t=W1 at hI hb1 hv1
 cases hx:hxs 0 t.data.toList with
 | some v =>
  rw [hx] at hI;have hI:Calls Tryd.prog 42 #[.string t, .int .i64 16, .int .i64 64] w fun e w'=>e = .returned (.tuple #[.int .u64 v, .nilIface])∧w'=W1:=hI
  clear hT;go_enter Tryd.func35,Tryd.ntmps35;go_wp2_with (go_at_call 42;refine hI.mono ?_;rintro e W2 ⟨rfl,rfl⟩)
  go_wp2;go_ret2;exact ⟨fun v' e=>(by cases e;rfl),fun e=>(by cases e),hb1⟩
 | none =>
  rw [hx] at hI;have hI:Calls Tryd.prog 42 #[.string t, .int .i64 16, .int .i64 64] w fun e w'=>e = .returned (.tuple #[.int .u64 0, .iface 65 (.int .i64 2)])∧w'=W1:=hI
  have hT:=hT W1 hv1;go_enter Tryd.func35,Tryd.ntmps35;go_wp2_with (go_at_call 42;refine hI.mono ?_;rintro e W2 ⟨rfl,rfl⟩)
  go_wp2_with (go_at_call 25;refine hT.mono ?_;rintro e W3 ⟨N,rfl,h3⟩)
  go_wp2;go_ret2;exact ⟨fun v' e=>(by cases e),fun _=>⟨N,rfl⟩,hb1.trans (h3.mono hb1.size)⟩
def j2b.f (a0 : ByteArray) (a1 a2:Int):Option (Int × Option Int) :=
  if a1=10∧a2=64∧a0.size≤281474976710656 then some (match Lib.parseUintB 64 a0.data.toList with | .ok u=>((u:Int),none) | .range=>(18446744073709551615,some 0)|_=>(0,some 0))
  else if a1=16∧a2=16∧a0.size=4 then some (match hxs 0 a0.data.toList with|some v=>(v,none)|none=>(0,some 0))
  else if a1=16∧a2=64∧a0.size=4 then some (match hxs 0 a0.data.toList with|some v=>(v,none)|none=>(0,some 0)) else none
theorem j2b.calls (a0 : ByteArray) (a1 a2:Int) (r1:Int) (r2:Option Int) (w:World) (hG:Laid w) (h:j2b.f a0 a1 a2=some (r1,r2)) :
 Calls Tryd.prog 35 #[.string a0, .int .i64 a1, .int .i64 a2] w fun e w'=>∃ z_r2:Option (TypeId × Value),Zk z_r2 r2∧e = .returned (.tuple #[.int .u64 r1,errW z_r2])∧Below w.heap.size w w':=by
 simp only [j2b.f] at h
 split at h
 case isFalse =>
  split at h
  case isFalse =>
   split at h
   case isFalse=>cases h
   case isTrue hc =>
   obtain ⟨rfl,rfl,hs⟩:=hc;obtain ⟨te,pe,hes⟩:=hG.errS;refine (pub16w a0 hs _ w hes (Or.inr ⟨_,_,rfl⟩)).mono ?_;rintro e w' ⟨h1,h2,hb⟩;cases hx:hxs 0 a0.data.toList with
   | some v =>
    rw [hx] at h
    cases h;exact ⟨none,rfl,h1 _ hx,hb⟩
   | none =>
    rw [hx] at h
    cases h;obtain ⟨N,rfl⟩:=h2 hx;obtain ⟨z,hz,e⟩:=errW_mk 66 N zq24;exact ⟨z,hz,by rw [← e],hb⟩
  case isTrue hc =>
  obtain ⟨rfl,rfl,hs⟩:=hc;obtain ⟨te,pe,hes⟩:=hG.errS;refine (pub16 a0 hs _ w hes (Or.inr ⟨_,_,rfl⟩)).mono ?_;rintro e w' ⟨h1,h2,hb⟩;cases hx:hxs 0 a0.data.toList with
  | some v =>
   rw [hx] at h
   cases h;exact ⟨none,rfl,h1 _ hx,hb⟩
  | none =>
   rw [hx] at h
   cases h;obtain ⟨N,rfl⟩:=h2 hx;obtain ⟨z,hz,e⟩:=errW_mk 66 N zq24;exact ⟨z,hz,by rw [← e],hb⟩
 case isTrue hc =>
 obtain ⟨rfl,rfl,hs⟩:=hc;obtain ⟨te,pe,hes⟩:=hG.errS;obtain ⟨te',pe',her⟩:=hG.errR;cases hp:Lib.parseUintB 64 a0.data.toList with
 | ok u =>
  rw [hp] at h
  cases h;refine (Tryd.strconv_ParseUint_10_at64_ok a0 (by omega) u hp w).mono ?_;rintro e w' ⟨rfl,hw⟩;refine ⟨none,rfl,rfl,?_⟩;rcases hw with rfl|rfl
  ·exact Below.refl _ _
  exact Lib.bytesWorld_below _ _ _
 | range =>
  rw [hp] at h
  cases h;refine (Tryd.strconv_ParseUint_10_at64_range a0 hs hp _ w her (Or.inr ⟨_,_,rfl⟩)).mono ?_;rintro e w' ⟨N,rfl,_,_,hb⟩;obtain ⟨z,hz,e⟩:=errW_mk 66 N zq24;exact ⟨z,hz,by rw [← e],hb⟩
 | _ =>
  rw [hp] at h
  cases h;refine (Tryd.strconv_ParseUint_10_at64_syntax a0 hs hp _ w hes (Or.inr ⟨_,_,rfl⟩)).mono ?_;rintro e w' ⟨N,rfl,_,_,hb⟩;obtain ⟨z,hz,e⟩:=errW_mk 66 N zq24;exact ⟨z,hz,by rw [← e],hb⟩
end
def j2h.f (a0 : ByteArray):Option (Int):=if 0≤4 then (if 4≤(a0.size:Int) then ((j2b.f (a0.extract 0 4) 16 64).bind fun bt101=>(some (wrap32 (bt101.1)))) else (none)) else (none)
set_option maxHeartbeats 8000000 in
set_option maxRecDepth 100000 in
theorem j2h.calls (a0 : ByteArray) (r:Int) (w:World) (hG:Laid w) (h:j2h.f a0=some r) :
 Calls Tryd.prog 26 #[.string a0] w fun e w'=>e = .returned (.int .i32 r)∧Below w.heap.size w w':=by
 have HG:=mk0 hG;clear hG;have HB:=mk0 (Below.refl w.heap.size w);have H:(if 0≤4 then (if 4≤(a0.size:Int) then ((j2b.f (a0.extract 0 4) 16 64).bind fun bt101=>(some (wrap32 (bt101.1)))) else (none)) else (none))=some r:=h;clear h;by_cases c2:0≤4
 rotate_left
 ·rw [if_neg c2] at H;exact absurd H (by simp)
 rw [if_pos c2] at H;have c2b0:=eq_true c2;have c2b1:decide (0≤4)=true:=decide_eq_true c2;clear c2;by_cases c3:4≤(a0.size:Int)
 rotate_left
 ·rw [if_neg c3] at H;exact absurd H (by simp)
 rw [if_pos c3] at H;have c3b0:=eq_true c3;have c3b1:decide (4≤(a0.size:Int))=true:=decide_eq_true c3;clear c3;replace H:=Option.bind_eq_some_iff.mp H;obtain ⟨⟨t101,t102⟩,A40,H⟩:=H;replace H:(some (wrap32 (t101)))=some r:=H;have A4:=mk0 A40;clear A40;obtain rfl:=Option.some.inj H;go_enter Tryd.func26,Tryd.ntmps26;go_wp2_with (first|((with_reducible refine j1z (f:=35) rfl ?_);refine j2l (some 8) rfl rfl Tryd.func35 zq12 rfl #[.string (a0.extract 0 4), .int .i64 16, .int .i64 64] rfl zq3 ?_;(with_reducible refine (j2b.calls (a0.extract 0 4) 16 64 t101 t102 _ ?side1 A4.out).mono ?_);(case side1=>exact zq11);rintro e w5 ⟨z_t102,hz_t102,rfl,hb⟩;have Hz_t102:=mk0 hz_t102;clear hz_t102;refine ⟨_,rfl,?_⟩;have n0_:=mk0 (j1r zq0 hb);clear HB;have HB:=n0_;clear n0_;(try clear hb);(try clear hb2);(try clear hk);(try clear hi);(try simp only [j1t,j1s])))
 go_ret;exact zl2
def j2d.f (a0 : Int):Option (Bool):=if 55296≤a0 then (some (decide (a0<57344))) else (some false)
set_option maxHeartbeats 8000000 in
set_option maxRecDepth 100000 in
theorem j2d.calls (a0 : Int) (r:Bool) (w:World) (h:j2d.f a0=some r) :
 Calls Tryd.prog 27 #[.int .i32 a0] w fun e w'=>e = .returned (.bool r)∧Drawn0 w w':=by
 have H:(if 55296≤a0 then (some (decide (a0<57344))) else (some false))=some r:=h;clear h;by_cases c2:55296≤a0
 ·rw [if_pos c2] at H;have c2b0:decide (55296≤a0)=true:=decide_eq_true c2;clear c2;obtain rfl:=Option.some.inj H;go_enter Tryd.func27,Tryd.ntmps27;go_wp2;go_ret;exact ⟨by first|rfl|(simp;done)|(simp [*];done),by repeat (first|exact Drawn0.refl _|apply Drawn0.step)⟩
 rw [if_neg c2] at H;have c2b0:decide (55296≤a0)=false:=decide_eq_false c2;clear c2;obtain rfl:=Option.some.inj H;go_enter Tryd.func27,Tryd.ntmps27;go_wp2;go_ret;exact zl3
def j2i.f (a0 : Int) (a1:Int):Option (Int):=if 55296≤a0 then (if a0<56320 then (if 56320≤a1 then (if a1<57344 then (some (wrap32 ((Go.bits .or .i32 (wrap32 ((wrap32 (a0 - 55296))*1024)) (wrap32 (a1 - 56320)))+65536))) else (some 65533)) else (some 65533)) else (some 65533)) else (some 65533)
set_option maxHeartbeats 8000000 in
set_option maxRecDepth 100000 in
theorem j2i.calls (a0 : Int) (a1:Int) (r:Int) (w:World) (h:j2i.f a0 a1=some r) :
 Calls Tryd.prog 28 #[.int .i32 a0, .int .i32 a1] w fun e w'=>e = .returned (.int .i32 r)∧Drawn0 w w':=by
 have H:(if 55296≤a0 then (if a0<56320 then (if 56320≤a1 then (if a1<57344 then (some (wrap32 ((Go.bits .or .i32 (wrap32 ((wrap32 (a0 - 55296))*1024)) (wrap32 (a1 - 56320)))+65536))) else (some 65533)) else (some 65533)) else (some 65533)) else (some 65533))=some r:=h;clear h;by_cases c3:55296≤a0
 rotate_left
 ·rw [if_neg c3] at H;have c3b0:decide (55296≤a0)=false:=decide_eq_false c3;clear c3;obtain rfl:=Option.some.inj H;go_enter Tryd.func28,Tryd.ntmps28;go_wp2;go_ret;exact ⟨by first|rfl|(simp;done)|(simp [*];done),by repeat (first|exact Drawn0.refl _|apply Drawn0.step)⟩
 rw [if_pos c3] at H;have c3b0:decide (55296≤a0)=true:=decide_eq_true c3;clear c3;by_cases c4:a0<56320
 rotate_left
 ·rw [if_neg c4] at H;have c4b0:decide (a0<56320)=false:=decide_eq_false c4;clear c4;obtain rfl:=Option.some.inj H;go_enter Tryd.func28,Tryd.ntmps28;go_wp2;go_ret;exact ⟨by first|rfl|(simp;done)|(simp [*];done),by repeat (first|exact Drawn0.refl _|apply Drawn0.step)⟩
 rw [if_pos c4] at H;have c4b0:decide (a0<56320)=true:=decide_eq_true c4;clear c4;by_cases c5:56320≤a1
 rotate_left
 ·rw [if_neg c5] at H;have c5b0:decide (56320≤a1)=false:=decide_eq_false c5;clear c5;obtain rfl:=Option.some.inj H;go_enter Tryd.func28,Tryd.ntmps28;go_wp2;go_ret;exact ⟨by first|rfl|(simp;done)|(simp [*];done),by repeat (first|exact Drawn0.refl _|apply Drawn0.step)⟩
 rw [if_pos c5] at H;have c5b0:decide (56320≤a1)=true:=decide_eq_true c5;clear c5;by_cases c6:a1<57344
 ·rw [if_pos c6] at H;have c6b0:decide (a1<57344)=true:=decide_eq_true c6;clear c6;obtain rfl:=Option.some.inj H;go_enter Tryd.func28,Tryd.ntmps28;go_wp2;go_ret;exact ⟨by first|rfl|(simp;done)|(simp [*];done),by repeat (first|exact Drawn0.refl _|apply Drawn0.step)⟩
 rw [if_neg c6] at H;have c6b0:decide (a1<57344)=false:=decide_eq_false c6;clear c6;obtain rfl:=Option.some.inj H;go_enter Tryd.func28,Tryd.ntmps28;go_wp2;go_ret;exact zl3
section
set_option maxHeartbeats 16000000
set_option maxRecDepth 100000
def eB (r : Int):List Int :=
  if r<128 then [r]
  else if r<2048 then [192+r / 64,128+r % 64]
  else if 55296≤r∧r≤57343 then [239,191,189]
  else if r<65536 then [224+r / 4096,128+r / 64 % 64,128+r % 64]
  else [240+r / 262144,128+r / 4096 % 64,128+r / 64 % 64,128+r % 64]
theorem eB_len (r : Int):1≤(eB r).length∧(eB r).length≤4:=by
 unfold eB;split
 ·simp
 split
 ·simp
 split
 ·simp
 split<;>simp
def setB (w : World) (g:Nat):Nat→List Int→World
  | _,[]=>w
  | o,b :: r=>setB (w.setCell ⟨g,o,none⟩ (.int .u8 b)) g (o+1) r
def EncPost (g off : Nat) (r:Int) (w:World) (e:Ending) (w':World):Prop:=e = .returned (.int .i64 ((eB r).length:Int))∧w'=setB w g off (eB r)
theorem encNon_at (g off n c:Nat) (r:Int) (w:World) (hr0:128≤r) (hr1:r≤1114111) (hn:4≤n) (hn2:n≤9223372036854775807)
 (b0 b1 b2 b3:Int) (h0:w.cell? ⟨g,off,none⟩=some (.int .u8 b0)) (h1:w.cell? ⟨g,off+1,none⟩=some (.int .u8 b1)) (h2:w.cell? ⟨g,off+2,none⟩=some (.int .u8 b2)) (h3:w.cell? ⟨g,off+3,none⟩=some (.int .u8 b3))
 (f0:w.frozen? ⟨g,off,none⟩=false) (f1:w.frozen? ⟨g,off+1,none⟩=false) (f2:w.frozen? ⟨g,off+2,none⟩=false) (f3:w.frozen? ⟨g,off+3,none⟩=false) :
 Calls Tryd.prog 36 #[.slice (some ⟨g,off,none⟩) n c, .int .i32 r] w (EncPost g off r w):=by
 have hu:(r % 4294967296)=r:=by omega
 go_enter Tryd.func36,Tryd.ntmps36;go_wp2
 all_goals
  go_ret;unfold EncPost eB
  first
  | (rw [if_neg (by omega),if_pos (by omega)];exact ⟨rfl,rfl⟩)
  | (rw [if_neg (by omega),if_neg (by omega),if_pos (by omega)];exact ⟨rfl,rfl⟩)
  | (rw [if_neg (by omega),if_neg (by omega),if_neg (by omega),if_pos (by omega)];exact ⟨rfl,rfl⟩)
  | (rw [if_neg (by omega),if_neg (by omega),if_neg (by omega),if_neg (by omega)];exact ⟨rfl,rfl⟩)
theorem enc_at (g off n c:Nat) (r:Int) (w:World) (hr0:0≤r) (hr1:r≤1114111) (hn:4≤n) (hn2:n≤9223372036854775807)
 (b0 b1 b2 b3:Int) (h0:w.cell? ⟨g,off,none⟩=some (.int .u8 b0)) (h1:w.cell? ⟨g,off+1,none⟩=some (.int .u8 b1)) (h2:w.cell? ⟨g,off+2,none⟩=some (.int .u8 b2)) (h3:w.cell? ⟨g,off+3,none⟩=some (.int .u8 b3))
 (f0:w.frozen? ⟨g,off,none⟩=false) (f1:w.frozen? ⟨g,off+1,none⟩=false) (f2:w.frozen? ⟨g,off+2,none⟩=false) (f3:w.frozen? ⟨g,off+3,none⟩=false) :
 Calls Tryd.prog 29 #[.slice (some ⟨g,off,none⟩) n c, .int .i32 r] w (EncPost g off r w):=by
 by_cases hc:r<128
 ·go_enter Tryd.func29,Tryd.ntmps29;go_wp2;go_ret;unfold EncPost eB;rw [if_pos hc];exact ⟨rfl,rfl⟩
 have hc1:127<r:=by omega
 have hc2:127<r % 4294967296:=by omega
 go_enter Tryd.func29,Tryd.ntmps29;go_wp2_with (go_at_call 36;(with_reducible refine (encNon_at g off n c r w (by omega) hr1 hn hn2 b0 b1 b2 b3 h0 h1 h2 h3 f0 f1 f2 f3).mono ?_);rintro e w' ⟨rfl,rfl⟩)
 go_ret;exact ⟨rfl,rfl⟩
theorem R_append_lits {P : Program} {ops:Array Oper} {rest:List Oper} {o:Oper} {a:Act} {Q:Exit→Act→World→Prop} {w0 W:World} (base:Nat) (hgd:o.guard=none) (s x:Operand) (t e:TypeId) (k:IntKind) (bytes:Nat)
 (ho:o.op = .call { callee := .builtin .append,args:=#[s,x],argTypes:=#[t,t] })
 (ht:P.underlying t=some (.slice e)) (hinfo:(P.info? e).map (fun i=>(i.zero,i.size,i.bytes))=some (some (.int k 0),1,bytes)) (hb0:0<bytes)
 (v:Value) (xs ys:List Int) (cs:Array Value) (m:Nat) (hcs:cs.toList=nums k ys) (hm:m=ys.length) (ok:Nat→Prop) (hs:a.eval s=v) (hx:a.eval x = .slice (some ⟨W.heap.size,0,none⟩) m m) (hok:∀ k_,W.heap.size≤k_→ok k_)
 (HO:Kd.R (Kd.int k) e W base ok v xs) (HB:Below base w0 W) (hbase:base≤W.heap.size) (hl:(xs.length+ys.length)*bytes≤140737488355328)
 (h:∀ v1 w1,Kd.R (Kd.int k) e w1 base ok v1 (xs++ys)→Below base w0 w1→W.grownBy w1 v.ownBlock→(v1.ownBlock=v.ownBlock∨∃ b,v1.ownBlock=some b∧W.heap.size≤b)→wpList P ops Q rest (a.put o.dst v1) w1) :
 wpList P ops Q (o :: rest) a (W.alloc (.cells cs e)):=by
 obtain ⟨i0,hi,hzz⟩:=Option.map_eq_some_iff.1 hinfo;simp only [Prod.mk.injEq] at hzz;obtain ⟨hz0,hz1,hz2⟩:=hzz;have HOw:=Kd.own_of_R HO;have hok0:=HO.1;have hlen:xs.length+ys.length≤140737488355328:=Nat.le_trans (Nat.le_mul_of_pos_right _ hb0) hl;have hle:(encs (Value.int k) xs).length=xs.length:=by simp [encs]
 have hcl:cs.toList.length=m:=by rw [hcs,hm];simp [nums]
 refine wpList_append_own_at (W.alloc (.cells cs e)) hgd s x t ho base e i0 (.int k 0) 1 bytes ht hi hz0 hz1 hz2 rfl (by omega) v xs.length (encs (Value.int k) xs) hs (HOw.alloc _) ⟨W.heap.size,0,none⟩ m m cs.toList hx (by rw [hcl];omega)
  (World.news_of_block (cs:=cs) (t:=e) (fr:=(0,0)) (heap_alloc_new W _)) (by rw [hcs];intro u hu;simp only [nums,List.mem_map] at hu;obtain ⟨q,_,rfl⟩:=hu;rfl) (by simp only [maxLen];omega) (by rw [hm];exact hl) (by simp;omega) ?_
 intro v1 w1 hown hg _ hat;have e1:encs (Value.int k) xs++cs.toList=encs (Value.int k) (xs++ys):=by rw [encs_append,hcs];rfl
 have hat':v1.ownBlock=v.ownBlock∨∃ b,v1.ownBlock=some b∧W.heap.size≤b:=by
  rcases hat with hat|hat
  ·exact .inl hat
  exact .inr ⟨_,hat,by simp⟩
 refine h v1 w1 (Kd.R_of_own (by rw [List.length_append,← hm,← e1];exact hown) fun q hq=>?_) ((HB.alloc hbase _).grown hg (by simp;omega) (own_base HOw)) (World.grownBy.trans (World.grownBy_alloc W _ _) hg) hat';rcases hat' with hat'|⟨b,hat',hb⟩
 ·exact hok0 q (hat'.symm.trans hq)
 ·rw [hat'] at hq;cases hq;exact hok _ hb
theorem R_make0 {P : Program} {ops:Array Oper} {rest:List Oper} {o:Oper} {a:Act} {Q:Exit→Act→World→Prop} {w0 W:World} (base:Nat) (hgd:o.guard=none) (t e:TypeId) (x y:Operand) (ho:o.op = .makeSlice t x y) (k:IntKind) (bytes n:Nat) (ok:Nat→Prop)
 (hx:a.eval x = .int .i64 0) (hy:a.eval y = .int .i64 (n:Int)) (ht:P.underlying t=some (.slice e)) (hinfo:(P.info? e).map (fun i=>(i.zero,i.size,i.bytes))=some (some (.int k 0),1,bytes))
 (hok:∀ k_,W.heap.size≤k_→ok k_) (hl:bytes*n≤281474976710656) (hl2:n≤9223372036854775807) (HB:Below base w0 W) (hbase:base≤W.heap.size)
 (h:∀ v1 w1,Kd.R (Kd.int k) e w1 base ok v1 []→Below base w0 w1→W.grownBy w1 none→(∃ b,v1.ownBlock=some b∧W.heap.size≤b)→wpList P ops Q rest (a.put o.dst v1) w1):wpList P ops Q (o :: rest) a W:=by
 obtain ⟨i0,hi,hzz⟩:=Option.map_eq_some_iff.1 hinfo;simp only [Prod.mk.injEq] at hzz;obtain ⟨hz0,hz1,hz2⟩:=hzz;obtain ⟨w',hr,hown,hg⟩:=run_make_own (P:=P) W base t e i0 (.int k 0) 1 ht hi hz0 hz1 .i64 .i64 n (by rw [hz2];exact hl) (by simpa [maxLen] using hl2) hbase;refine Kd.event_run hgd (by simp only [execOp,ho,hx,hy];rw [Sem.run_bind,hr];rfl) (h _ _ (Kd.R_of_own (by simpa [encs] using hown) fun q hq=>?_) (HB.grown hg hbase (fun q hq=>by simp at hq)) hg ⟨W.heap.size,by simp [Value.ownBlock],Nat.le_refl _⟩);have:W.heap.size=q:=by simpa [Value.ownBlock] using hq
 exact hok q (by omega)
def gU (l : List Int):Option (List Int) :=
  match l with
  | []=>some []
  | [c]=>if c=92∨c<32 then none else some [c]
  | c :: d :: r=>if c=92 then
      (if J.isE d=true then (gU r).map (J.unl d :: ·)
       else if d=117 then (match J.hex4 r with
         | none=>none
         | some v=>if 55296≤v∧v<57344 then (match J.unitL (r.drop 4) with
             | none=>none
             | some u=>if v<56320∧56320≤u∧u<57344 then (gU (r.drop 10)).map (eB (65536+(v - 55296)*1024+(u - 56320)) ++ ·) else none)
           else (gU (r.drop 4)).map (eB v ++ ·))
       else none)
    else if c<32 then none else (gU (d :: r)).map (c :: ·)
termination_by l.length
decreasing_by all_goals (simp; try omega)
theorem gU_nil : gU []=some []:=by rw [gU]
theorem gU_cases {c : Int} {l u:List Int} (h:gU (c :: l)=some u):(c≠92∧¬ c<32∧∃ u',gU l=some u'∧u=c :: u') ∨
 (c=92∧∃ d r,l=d :: r∧((J.isE d=true∧∃ u',gU r=some u'∧u=J.unl d :: u') ∨
  (d=117∧∃ v,J.hex4 r=some v∧((¬ (55296≤v∧v<57344)∧∃ u',gU (r.drop 4)=some u'∧u=eB v++u') ∨
   (55296≤v∧v<56320∧∃ x,J.unitL (r.drop 4)=some x∧56320≤x∧x<57344∧∃ u',gU (r.drop 10)=some u'∧u=eB (65536+(v - 55296)*1024+(x - 56320))++u'))))):=by
 match l with
 | [] =>
  rw [gU] at h
  split at h
  ·cases h
  ·rename_i hc;simp only [not_or] at hc;cases h;exact .inl ⟨hc.1,hc.2,[],gU_nil,rfl⟩
 | d :: r =>
  rw [gU] at h
  split at h
  ·rename_i hc;refine .inr ⟨hc,d,r,rfl,?_⟩;split at h
   ·rename_i hd;obtain ⟨u',h1,h2⟩:=Option.map_eq_some_iff.mp h;exact .inl ⟨hd,u',h1,h2.symm⟩
   ·split at h
    ·rename_i hd;refine .inr ⟨hd,?_⟩;split at h
     ·cases h
     ·rename_i v hv;refine ⟨v,hv,?_⟩;split at h
      ·rename_i hs;split at h
       ·cases h
       ·rename_i x hx;split at h
        ·rename_i hp;obtain ⟨u',h1,h2⟩:=Option.map_eq_some_iff.mp h;exact .inr ⟨hs.1,hp.1,x,hx,hp.2.1,hp.2.2,u',h1,h2.symm⟩
        ·cases h
      ·rename_i hs;obtain ⟨u',h1,h2⟩:=Option.map_eq_some_iff.mp h;exact .inl ⟨hs,u',h1,h2.symm⟩
    ·cases h
  ·rename_i hc;split at h
   ·cases h
   ·rename_i hc2;obtain ⟨u',h1,h2⟩:=Option.map_eq_some_iff.mp h;exact .inl ⟨hc,hc2,u',h1,h2.symm⟩
theorem setB_R {e : Nat} {base:Nat} {ok:Nat→Prop} {g n cap:Nat}:∀ (bs:List Int) (o:Nat) (W:World) (ys:List Int),Kd.R (Kd.int .u8) e W base ok (.slice (some ⟨g,0,none⟩) n cap) ys→n=ys.length→o+bs.length≤ys.length →
 Kd.R (Kd.int .u8) e (setB W g o bs) base ok (.slice (some ⟨g,0,none⟩) n cap) (ys.take o++bs++ys.drop (o+bs.length))∧W.grownBy (setB W g o bs) (some g):=by
 intro bs
 induction bs with
 | nil =>
  intro o W ys h hn ho;refine ⟨?_,World.grownBy.refl W _⟩
  simpa [setB] using h
 | cons b r ih =>
  intro o W ys h hn ho;simp only [List.length_cons] at ho;subst hn;obtain ⟨h1,h2⟩:=Kd.R_put (enc:=Value.int .u8) (h1:=fun _=>rfl) h (o:Int) b;simp only [Int.toNat_natCast] at h1 h2;obtain ⟨h3,h4⟩:=ih (o+1) _ (ys.set o b) h1 (by simp) (by simp;omega);refine ⟨?_,h2.trans h4⟩
  have e:ys.take o++(b :: r)++ys.drop (o+(b :: r).length)=(ys.set o b).take (o+1)++r++(ys.set o b).drop (o+1+r.length):=by
   have e1:(ys.set o b).take (o+1)=ys.take o++[b]:=by
    rw [List.take_succ_eq_append_getElem (by simp;omega),List.take_set,List.set_eq_of_length_le (by simp;omega)];simp
   have e2:(ys.set o b).drop (o+1+r.length)=ys.drop (o+(b :: r).length):=by
    rw [List.drop_set_of_lt (by omega),List.length_cons]
    congr 1
    omega
   rw [e1,e2];simp
  rw [e];exact h3
theorem runeit_hex {s : ByteArray} {i:Nat} {l:List Int} {v:Int} (h:J.From s i l) (hv:J.hex4 l=some v):j2h.f (s.extract i s.size)=some v:=by
 have hr:=J.hex4_range hv;have hlen:=J.hex4_len hv
 match l,hv,hlen with
 | a :: b :: c :: d :: r,hv,_ =>
  have hl:=h.len;simp only [List.length_cons] at hl;have hsz:(s.extract i s.size).size=s.size - i:=by rw [ByteArray.size_extract];omega
  have hsz4:((s.extract i s.size).extract 0 4).size=4:=by rw [ByteArray.size_extract,hsz];omega
  have hb:bytesOf ((s.extract i s.size).extract 0 4)=[a,b,c,d]:=by
   have h1:bytesOf (s.extract i s.size)=a :: b :: c :: d :: r:=by rw [J.bytesOf_extract,List.take_of_length_le (by rw [bytesOf_length];omega),h.2]
   rw [J.bytesOf_extract,h1];rfl
  have hx:hxs 0 ((s.extract i s.size).extract 0 4).data.toList=some v:=by
   have hall:∀ (q:List UInt8) (acc:Int),hxs acc q=q.foldl (fun o b=>o.bind fun x=>(J.hexv (b.toNat:Int)).map fun y=>x*16+y) (some acc):=by
    intro q
    induction q with
    | nil=>intro acc;rfl
    | cons b q ih =>
     intro acc;have hd:hxd (b.toNat:Int)=J.hexv (b.toNat:Int):=(by decide +kernel:∀ n:Fin 256,hxd ((n.val:Nat):Int)=J.hexv ((n.val:Nat):Int)) ⟨b.toNat,b.toNat_lt⟩;rw [hxs,List.foldl_cons,hd,Option.bind_some];cases J.hexv (b.toNat:Int) with
     | none =>
      rw [Option.bind_none,Option.map_none]
      have:∀ (q:List UInt8),q.foldl (fun o b=>o.bind fun x=>(J.hexv (b.toNat:Int)).map fun y=>x*16+y) (none:Option Int)=none:=by
       intro q
       induction q with
       | nil=>rfl
       | cons b q ih=>rw [List.foldl_cons,Option.bind_none,ih]
      rw [this]
     | some y=>rw [Option.bind_some,Option.map_some,ih]
   rw [hall]
   have hmap:∀ (q:List UInt8) (o:Option Int),q.foldl (fun o b=>o.bind fun x=>(J.hexv (b.toNat:Int)).map fun y=>x*16+y) o=(q.map fun b=>(b.toNat:Int)).foldl (fun o c=>o.bind fun x=>(J.hexv c).map fun y=>x*16+y) o:=by
    intro q
    induction q with
    | nil=>intro o;rfl
    | cons b q ih=>intro o;rw [List.map_cons,List.foldl_cons,List.foldl_cons,ih]
   rw [hmap];have:(((s.extract i s.size).extract 0 4).data.toList.map fun b=>(b.toNat:Int))=[a,b,c,d]:=hb;rw [this,← hv,J.hex4];simp only [List.foldl_cons,List.foldl_nil,Option.bind_some,Int.zero_mul,Int.zero_add];cases J.hexv a<;>cases J.hexv b<;>cases J.hexv c<;>cases J.hexv d<;>simp
  simp only [j2h.f];rw [if_pos (by omega),if_pos (by rw [hsz];omega)];unfold j2b.f;rw [if_neg (by omega),if_neg (by omega),if_pos ⟨rfl,rfl,hsz4⟩,hx,Option.bind_some];have hw:wrap32 v=v:=by unfold wrap32;omega
  simp only [hw]
theorem zeros_cell {W : World} {base g cap:Nat} {ok:Nat→Prop} {xs:List Int} (ho:Kd.R (Kd.int .u8) 5 W base ok (.slice (some ⟨g,0,none⟩) (xs.length+8) cap) (xs++[0,0,0,0,0,0,0,0])) (j:Nat) (hj:j<4) :
 W.cell? ⟨g,xs.length+j,none⟩=some (.int .u8 0)∧W.frozen? ⟨g,xs.length+j,none⟩=false:=by
 have hl:(xs++([0,0,0,0,0,0,0,0]:List Int)).length=xs.length+8:=by simp
 obtain ⟨h1,h2⟩:=Kd.R_cell (enc:=Value.int .u8) (h1:=fun _=>rfl) (0:Int) (hl.symm ▸ ho) ((xs.length+j:Nat):Int) (by omega) (by omega);rw [Int.toNat_natCast] at h1 h2;refine ⟨?_,h2⟩;rw [h1];unfold rdOf;rw [Int.toNat_natCast,List.getD_eq_getElem?_getD,List.getElem?_append_right (by omega),show xs.length+j - xs.length=j by omega]
 match j,hj with
 | 0,_=>rfl
 | 1,_=>rfl
 | 2,_=>rfl
 | 3,_=>rfl
theorem zeros_cell0 {W : World} {base g cap:Nat} {ok:Nat→Prop} {xs:List Int} (ho:Kd.R (Kd.int .u8) 5 W base ok (.slice (some ⟨g,0,none⟩) (xs.length+8) cap) (xs++[0,0,0,0,0,0,0,0])) :
 W.cell? ⟨g,xs.length,none⟩=some (.int .u8 0)∧W.frozen? ⟨g,xs.length,none⟩=false:=by simpa using zeros_cell ho 0 zq24
theorem cap_ne {n cap : Nat} (h:n+8≤cap):¬ (cap=n):=by omega
theorem unitL_ex {l : List Int} {v:Int} (h:J.unitL l=some v):∃ t,l=92 :: 117 :: t∧J.hex4 t=some v:=by
 unfold J.unitL at h
 split at h
 ·rename_i a b r;split at h
  ·rename_i hab;obtain ⟨rfl,rfl⟩:=hab;exact ⟨r,rfl,h⟩
  ·cases h
 ·cases h
theorem or_ten {x y : Int} (h0:0≤x) (h1:x<2147483648) (hm:x % 1024=0) (hy:0≤y∧y<1024):Go.bits .or .i32 x y=x+y:=bits_join .i32 31 zq24 wraps_i32 10 x y h0 hm h1 hy.1 hy.2 (by omega)
theorem dec_rune {v x : Int} (h0:55296≤v) (h1:v<56320) (h2:56320≤x) (h3:x<57344):j2i.f v x=some (65536+(v - 55296)*1024+(x - 56320)):=by
 unfold j2i.f;rw [if_pos h0,if_pos h1,if_pos h2,if_pos h3];have e1:wrap32 (v - 55296)=v - 55296:=by unfold wrap32;omega
 have e2:wrap32 ((v - 55296)*1024)=(v - 55296)*1024:=by unfold wrap32;omega
 have e3:wrap32 (x - 56320)=x - 56320:=by unfold wrap32;omega
 have e4:Go.bits .or .i32 ((v - 55296)*1024) (x - 56320)=(v - 55296)*1024+(x - 56320):=or_ten (by omega) (by omega) (by omega) (by omega);rw [e1,e2,e3,e4];have e5:wrap32 ((v - 55296)*1024+(x - 56320)+65536)=65536+(v - 55296)*1024+(x - 56320):=by unfold wrap32;omega
 rw [e5]
theorem enc_row {W : World} {base g cap:Nat} {ok:Nat→Prop} {xs:List Int} (rv:Int) (ho:Kd.R (Kd.int .u8) 5 W base ok (.slice (some ⟨g,0,none⟩) (xs.length+8) cap) (xs++[0,0,0,0,0,0,0,0])) :
 Kd.R (Kd.int .u8) 5 (setB W g xs.length (eB rv)) base ok (.slice (some ⟨g,0,none⟩) (xs.length+(eB rv).length) cap) (xs++eB rv)∧W.grownBy (setB W g xs.length (eB rv)) (some g):=by
 have h5:=eB_len rv;have hl:(xs++([0,0,0,0,0,0,0,0]:List Int)).length=xs.length+8:=by simp
 obtain ⟨h1,h2⟩:=setB_R (eB rv) xs.length W _ ho hl.symm (by rw [hl];omega);refine ⟨?_,h2⟩;have h3:=Kd.R_take (m:=xs.length+(eB rv).length) h1 (by simp)
 have e:((xs++([0,0,0,0,0,0,0,0]:List Int)).take xs.length++eB rv++(xs++([0,0,0,0,0,0,0,0]:List Int)).drop (xs.length+(eB rv).length)).take (xs.length+(eB rv).length)=xs++eB rv:=by
  rw [List.take_left,List.take_append_of_le_length (by simp),List.take_of_length_le (by simp)]
 rwa [e] at h3
theorem unescape_walk (a0 : ByteArray) (U:List Int) (w:World) (hG:Laid w) (hs:a0.size≤2147483647) (hU:gU (bytesOf a0)=some U) :
 Calls Tryd.prog 23 #[.string a0] w fun e w'=>e = .returned (.string (strOfNums U))∧Below w.heap.size w w':=by
 have HG:=mk0 hG;have HU:=mk0 hU;clear hG hU;go_enter Tryd.func23,Tryd.ntmps23;go_wp2_with ((with_reducible refine j2j (N:=9) rfl ?_);refine R_make0 (w0:=w) w.heap.size rfl 30 5 (.const (.int .i64 0)) (.tmp 8) rfl .u8 1 a0.size (fun _=>True) rfl rfl Tryd.underlying30 info5 (fun _ _=>trivial) (by omega) (by omega) (Below.refl _ _) (Nat.le_refl _) ?_;intro v1 w1 ho hb hg hat;have HR:=mk0 ho;have HB:=mk0 hb;clear ho hb hg hat)
 go_loopg [3,4] (bytesOf a0).length (fun kq v3 v4 w'=>∃ (i:Nat) (l xs u:List Int),v4 = .int .i64 i∧Aside0 (J.From a0 i l∧gU l=some u∧xs++u=U∧xs.length≤i∧l.length=kq)∧Aside0 (Kd.R (Kd.int .u8) 5 w' w.heap.size (fun _=>True) v3 xs)∧Aside0 (Below w.heap.size w w'))
 case atStart=>exact ⟨0,bytesOf a0,[],U,rfl,⟨J.From.start a0,HU.out,rfl,Nat.le_refl _,rfl⟩,HR,HB⟩
 case round =>
  clear HR HB;obtain ⟨i,l,xs,u,rfl,HF,HR,HB⟩:=hrel;have hle:=HF.out.1.1
  match l,HF with
  | [],HF =>
   have hi:=HF.out.1.nil;subst hi;obtain ⟨A,c,rfl,_,hc⟩:=Kd.R_reads HR.out;have hcv:=Kd.C_string (P:=Tryd.prog) Tryd.underlying30 Tryd.underlying5 (Tryd.underlying9) (n:=xs.length) (c:=c) hc;have hu:u=[]:=by have:=HF.out.2.1;rw [gU_nil] at this;cases this;rfl
   subst hu;have hx:xs=U:=by have:=HF.out.2.2.1;rwa [List.append_nil] at this
   subst hx;clear hc;go_wp2;go_ret;exact ⟨rfl,HB.out⟩
  | q :: l,HF =>
   have hlt:=HF.out.1.lt;have hbt:=HF.out.1.bt;have hx1:∀ h:i<a0.size,((a0[i]'h).toNat:Int)=q:=fun h=>(bt_at a0 (i:Int) h).trans hbt
   rcases gU_cases HF.out.2.1 with ⟨h92,h32,u',h1,hu⟩|⟨hq,d,r,rfl,hd⟩
   ·subst hu;have t1:decide (q<32)=false:=decide_eq_false h32;have t2:(q == 92)=false:=beq_eq_false_iff_ne.mpr h92;have H1:=mk0 h1;clear h1 h92 h32 hbt;go_wp2_with (first|((with_reducible refine j1p (b := .append) (xs:=#[.tmp 16, .tmp 20]) rfl ?_);at_builtin;refine R_append_lits (w0:=w) w.heap.size rfl (.tmp 16) (.tmp 20) 30 5 .u8 1 rfl Tryd.underlying30 info5 zq24 u3 xs [q] #[.int .u8 (q)] 1 rfl rfl (fun _=>True) rfl rfl (fun _ _=>trivial) ?aO HB.out (j1m HB.out) ?aL ?_;(case aO=>exact HR.out);(case aL=>exact zq13);intro v1 w1 ho hb hg hat;have n0_:=mk0 ho;have n1_:=mk0 hb;clear HR HB;have HR:=n0_;have HB:=n1_;clear n0_ n1_ ho hb hg hat))
    go_roundg l.length
    case measure=>have:=HF.out.2.2.2.2;simp only [List.length_cons] at this;omega
    case rel=>exact ⟨i+1,l,xs++[q],u',by go_num,⟨HF.out.1.tail,H1.out,by rw [← HF.out.2.2.1];simp,by have:=HF.out.2.2.2.1;simp;omega,rfl⟩,HR,HB⟩
   ·subst hq;have hlt2:=HF.out.1.tail.lt;have hbt2:=HF.out.1.tail.bt;have hx2:∀ h:i+1<a0.size,((a0[i+1]'h).toNat:Int)=d:=fun h=>(bt_at a0 ((i+1:Nat):Int) h).trans hbt2
    clear hbt hbt2;rcases hd with ⟨hE,u',h1,hu⟩|⟨hd,v,hv,hd2⟩
    ·subst hu;have H1:=mk0 h1;clear h1;have hE':d=34∨d=92∨d=47∨d=98∨d=102∨d=110∨d=114∨d=116:=by unfold J.isE at hE;simpa using hE
     clear hE;rcases hE' with hE|hE|hE|hE|hE|hE|hE|hE
     ·subst hE;go_wp2_with (first|((with_reducible refine j1p (b := .append) (xs:=#[.tmp 84, .tmp 85]) rfl ?_);at_builtin;refine R_append_lits (w0:=w) w.heap.size rfl (.tmp 84) (.tmp 85) 30 5 .u8 1 rfl Tryd.underlying30 info5 zq24 u3 xs [34] #[.int .u8 (34)] 1 rfl rfl (fun _=>True) rfl rfl (fun _ _=>trivial) ?aO HB.out (j1m HB.out) ?aL ?_;(case aO=>exact HR.out);(case aL=>exact zq13);intro v1 w1 ho hb hg hat;have n0_:=mk0 ho;have n1_:=mk0 hb;clear HR HB;have HR:=n0_;have HB:=n1_;clear n0_ n1_ ho hb hg hat))
      go_roundg r.length
      case measure=>have:=HF.out.2.2.2.2;simp only [List.length_cons] at this;omega
      case rel=>exact ⟨i+2,r,xs++[34],u',by go_num,⟨HF.out.1.tail.tail,H1.out,by rw [← HF.out.2.2.1];simp [J.unl],by have:=HF.out.2.2.2.1;simp;omega,rfl⟩,HR,HB⟩
     ·subst hE;go_wp2_with (first|((with_reducible refine j1p (b := .append) (xs:=#[.tmp 49, .tmp 50]) rfl ?_);at_builtin;refine R_append_lits (w0:=w) w.heap.size rfl (.tmp 49) (.tmp 50) 30 5 .u8 1 rfl Tryd.underlying30 info5 zq24 u3 xs [92] #[.int .u8 (92)] 1 rfl rfl (fun _=>True) rfl rfl (fun _ _=>trivial) ?aO HB.out (j1m HB.out) ?aL ?_;(case aO=>exact HR.out);(case aL=>exact zq13);intro v1 w1 ho hb hg hat;have n0_:=mk0 ho;have n1_:=mk0 hb;clear HR HB;have HR:=n0_;have HB:=n1_;clear n0_ n1_ ho hb hg hat))
      go_roundg r.length
      case measure=>have:=HF.out.2.2.2.2;simp only [List.length_cons] at this;omega
      case rel=>exact ⟨i+2,r,xs++[92],u',by go_num,⟨HF.out.1.tail.tail,H1.out,by rw [← HF.out.2.2.1];simp [J.unl],by have:=HF.out.2.2.2.1;simp;omega,rfl⟩,HR,HB⟩
     ·subst hE;go_wp2_with (first|((with_reducible refine j1p (b := .append) (xs:=#[.tmp 54, .tmp 55]) rfl ?_);at_builtin;refine R_append_lits (w0:=w) w.heap.size rfl (.tmp 54) (.tmp 55) 30 5 .u8 1 rfl Tryd.underlying30 info5 zq24 u3 xs [47] #[.int .u8 (47)] 1 rfl rfl (fun _=>True) rfl rfl (fun _ _=>trivial) ?aO HB.out (j1m HB.out) ?aL ?_;(case aO=>exact HR.out);(case aL=>exact zq13);intro v1 w1 ho hb hg hat;have n0_:=mk0 ho;have n1_:=mk0 hb;clear HR HB;have HR:=n0_;have HB:=n1_;clear n0_ n1_ ho hb hg hat))
      go_roundg r.length
      case measure=>have:=HF.out.2.2.2.2;simp only [List.length_cons] at this;omega
      case rel=>exact ⟨i+2,r,xs++[47],u',by go_num,⟨HF.out.1.tail.tail,H1.out,by rw [← HF.out.2.2.1];simp [J.unl],by have:=HF.out.2.2.2.1;simp;omega,rfl⟩,HR,HB⟩
     ·subst hE;go_wp2_with (first|((with_reducible refine j1p (b := .append) (xs:=#[.tmp 59, .tmp 60]) rfl ?_);at_builtin;refine R_append_lits (w0:=w) w.heap.size rfl (.tmp 59) (.tmp 60) 30 5 .u8 1 rfl Tryd.underlying30 info5 zq24 u3 xs [8] #[.int .u8 (8)] 1 rfl rfl (fun _=>True) rfl rfl (fun _ _=>trivial) ?aO HB.out (j1m HB.out) ?aL ?_;(case aO=>exact HR.out);(case aL=>exact zq13);intro v1 w1 ho hb hg hat;have n0_:=mk0 ho;have n1_:=mk0 hb;clear HR HB;have HR:=n0_;have HB:=n1_;clear n0_ n1_ ho hb hg hat))
      go_roundg r.length
      case measure=>have:=HF.out.2.2.2.2;simp only [List.length_cons] at this;omega
      case rel=>exact ⟨i+2,r,xs++[8],u',by go_num,⟨HF.out.1.tail.tail,H1.out,by rw [← HF.out.2.2.1];simp [J.unl],by have:=HF.out.2.2.2.1;simp;omega,rfl⟩,HR,HB⟩
     ·subst hE;go_wp2_with (first|((with_reducible refine j1p (b := .append) (xs:=#[.tmp 64, .tmp 65]) rfl ?_);at_builtin;refine R_append_lits (w0:=w) w.heap.size rfl (.tmp 64) (.tmp 65) 30 5 .u8 1 rfl Tryd.underlying30 info5 zq24 u3 xs [12] #[.int .u8 (12)] 1 rfl rfl (fun _=>True) rfl rfl (fun _ _=>trivial) ?aO HB.out (j1m HB.out) ?aL ?_;(case aO=>exact HR.out);(case aL=>exact zq13);intro v1 w1 ho hb hg hat;have n0_:=mk0 ho;have n1_:=mk0 hb;clear HR HB;have HR:=n0_;have HB:=n1_;clear n0_ n1_ ho hb hg hat))
      go_roundg r.length
      case measure=>have:=HF.out.2.2.2.2;simp only [List.length_cons] at this;omega
      case rel=>exact ⟨i+2,r,xs++[12],u',by go_num,⟨HF.out.1.tail.tail,H1.out,by rw [← HF.out.2.2.1];simp [J.unl],by have:=HF.out.2.2.2.1;simp;omega,rfl⟩,HR,HB⟩
     ·subst hE;go_wp2_with (first|((with_reducible refine j1p (b := .append) (xs:=#[.tmp 69, .tmp 70]) rfl ?_);at_builtin;refine R_append_lits (w0:=w) w.heap.size rfl (.tmp 69) (.tmp 70) 30 5 .u8 1 rfl Tryd.underlying30 info5 zq24 u3 xs [10] #[.int .u8 (10)] 1 rfl rfl (fun _=>True) rfl rfl (fun _ _=>trivial) ?aO HB.out (j1m HB.out) ?aL ?_;(case aO=>exact HR.out);(case aL=>exact zq13);intro v1 w1 ho hb hg hat;have n0_:=mk0 ho;have n1_:=mk0 hb;clear HR HB;have HR:=n0_;have HB:=n1_;clear n0_ n1_ ho hb hg hat))
      go_roundg r.length
      case measure=>have:=HF.out.2.2.2.2;simp only [List.length_cons] at this;omega
      case rel=>exact ⟨i+2,r,xs++[10],u',by go_num,⟨HF.out.1.tail.tail,H1.out,by rw [← HF.out.2.2.1];simp [J.unl],by have:=HF.out.2.2.2.1;simp;omega,rfl⟩,HR,HB⟩
     ·subst hE;go_wp2_with (first|((with_reducible refine j1p (b := .append) (xs:=#[.tmp 74, .tmp 75]) rfl ?_);at_builtin;refine R_append_lits (w0:=w) w.heap.size rfl (.tmp 74) (.tmp 75) 30 5 .u8 1 rfl Tryd.underlying30 info5 zq24 u3 xs [13] #[.int .u8 (13)] 1 rfl rfl (fun _=>True) rfl rfl (fun _ _=>trivial) ?aO HB.out (j1m HB.out) ?aL ?_;(case aO=>exact HR.out);(case aL=>exact zq13);intro v1 w1 ho hb hg hat;have n0_:=mk0 ho;have n1_:=mk0 hb;clear HR HB;have HR:=n0_;have HB:=n1_;clear n0_ n1_ ho hb hg hat))
      go_roundg r.length
      case measure=>have:=HF.out.2.2.2.2;simp only [List.length_cons] at this;omega
      case rel=>exact ⟨i+2,r,xs++[13],u',by go_num,⟨HF.out.1.tail.tail,H1.out,by rw [← HF.out.2.2.1];simp [J.unl],by have:=HF.out.2.2.2.1;simp;omega,rfl⟩,HR,HB⟩
     ·subst hE;go_wp2_with (first|((with_reducible refine j1p (b := .append) (xs:=#[.tmp 79, .tmp 80]) rfl ?_);at_builtin;refine R_append_lits (w0:=w) w.heap.size rfl (.tmp 79) (.tmp 80) 30 5 .u8 1 rfl Tryd.underlying30 info5 zq24 u3 xs [9] #[.int .u8 (9)] 1 rfl rfl (fun _=>True) rfl rfl (fun _ _=>trivial) ?aO HB.out (j1m HB.out) ?aL ?_;(case aO=>exact HR.out);(case aL=>exact zq13);intro v1 w1 ho hb hg hat;have n0_:=mk0 ho;have n1_:=mk0 hb;clear HR HB;have HR:=n0_;have HB:=n1_;clear n0_ n1_ ho hb hg hat))
      go_roundg r.length
      case measure=>have:=HF.out.2.2.2.2;simp only [List.length_cons] at this;omega
      case rel=>exact ⟨i+2,r,xs++[9],u',by go_num,⟨HF.out.1.tail.tail,H1.out,by rw [← HF.out.2.2.1];simp [J.unl],by have:=HF.out.2.2.2.1;simp;omega,rfl⟩,HR,HB⟩
    ·subst hd;have HV:=mk0 hv;have HD:=mk0 hd2;have hlen:=J.hex4_len hv;have hv0:=J.hex4_range hv;have hl6:i+6≤a0.size:=by have:=HF.out.1.len;simp only [List.length_cons] at this;omega
     have hf:=runeit_hex HF.out.1.tail.tail hv;clear hv hd2;rcases HD.out with ⟨hns,u',h1,hu⟩|⟨hh0,hh1,x,hx,hlo0,hlo1,u',h1,hu⟩
     ·have hS:j2d.f v=some false:=by
       unfold j2d.f;by_cases h5:55296≤v
       rotate_left
       ·rw [if_neg h5]
       rw [if_pos h5,decide_eq_false (by omega)]
      subst hu;have H1:=mk0 h1;clear h1 HD;go_wp2_with (first|(go_at_call 26;(with_reducible refine (j2h.calls _ v _ (Laid.below HG.out HB.out) hf).mono ?_);rintro e w2 ⟨rfl,hb⟩;have n0_:=mk0 (Kd.R_below HR.out hb);have n1_:=mk0 (j1r HB.out hb);clear HR HB hb;have HR:=n0_;have HB:=n1_;clear n0_ n1_)|(go_at_call 27;(with_reducible refine (j2d.calls v false _ hS).mono ?_);rintro e w3 ⟨rfl,⟨m3,rfl⟩⟩;have n0_:=mk0 (Kd.R_drewN HR.out m3);have n1_:=mk0 (j1d HB.out m3);clear HR HB;have HR:=n0_;have HB:=n1_;clear n0_ n1_)|((with_reducible refine j1p (b := .append) (xs:=#[.tmp 132, .tmp 133]) rfl ?_);at_builtin;refine R_append_lits (w0:=w) w.heap.size rfl (.tmp 132) (.tmp 133) 30 5 .u8 1 rfl Tryd.underlying30 info5 zq24 u3 xs [0,0,0,0,0,0,0,0] #[.int .u8 0, .int .u8 0, .int .u8 0, .int .u8 0, .int .u8 0, .int .u8 0, .int .u8 0, .int .u8 0] 8 rfl rfl (fun _=>True) rfl rfl (fun _ _=>trivial) ?aO HB.out (j1m HB.out) ?aL ?_;(case aO=>exact HR.out);(case aL=>exact zq13);intro v1 w4 ho hb hg hat;obtain ⟨g,cap,hv1,_,_,_⟩:=Kd.R_form ho (by simp);have hl8:(xs++([0,0,0,0,0,0,0,0]:List Int)).length=xs.length+8:=(by simp);rw [hl8] at hv1;subst hv1;have hcap:=(Kd.R_reads' ho).2.1;have hxl:=Nat.le_trans HF.out.2.2.2.1 (Nat.le_trans hle hs);have hcne:=cap_ne hcap;have hc4:=zeros_cell ho;have hc0:=zeros_cell0 ho;have HC0:=mk0 hc0;clear hc0;have n0_:=mk0 ho;have n1_:=mk0 hb;have HC:=mk0 hc4;clear HR HB hc4 hl8;have HR8:=n0_;have HB:=n1_;clear n0_ n1_ ho hb hg hat)|(go_at_call 29;(with_reducible refine (enc_at g xs.length 8 (cap - xs.length) v _ hv0.1 (Int.le_trans hv0.2 zq24) zq24 zq24 0 0 0 0 HC0.out.1 (HC.out 1 zq24).1 (HC.out 2 zq24).1 (HC.out 3 zq24).1 HC0.out.2 (HC.out 1 zq24).2 (HC.out 2 zq24).2 (HC.out 3 zq24).2).mono ?_);rintro e w5 ⟨rfl,rfl⟩;obtain ⟨hr5,hg5⟩:=enc_row v HR8.out;have hb5:=HB.out.grown hg5 (j1m HB.out) (fun q hq=>Kd.R_base HR8.out q hq);have he5:=(eB_len v).2;have n0_:=mk0 hr5;have n1_:=mk0 hb5;clear HR8 HB HC HC0 hg5 hr5 hb5;have HR:=n0_;have HB:=n1_;clear n0_ n1_))
      go_roundg (r.drop 4).length
      case measure=>have:=HF.out.2.2.2.2;simp only [List.length_cons,List.length_drop] at this ⊢; omega
      case rel=>exact ⟨i+6,r.drop 4,xs++eB v,u',by go_num,⟨HF.out.1.tail.tail.drop 4 hlen,H1.out,by rw [← HF.out.2.2.1];simp,by have:=HF.out.2.2.2.1;have:=eB_len v;simp;omega,rfl⟩,HR,HB⟩
     ·have hS:j2d.f v=some true:=by
       unfold j2d.f;rw [if_pos hh0,decide_eq_true (by omega)]
      obtain ⟨t,et,htx⟩:=unitL_ex hx
      have hFt:J.From a0 (i+1+5) (92 :: 117 :: t):=by
       have:=HF.out.1.tail.tail.drop 4 hlen;rw [et] at this;exact this
      have hD:=dec_rune hh0 hh1 hlo0 hlo1;have hf2:j2h.f (a0.extract (i+1+5+2) a0.size)=some x:=runeit_hex hFt.tail.tail htx;have hx4:=J.hex4_len htx;have hl12:i+12≤a0.size:=by have:=hFt.len;simp only [List.length_cons] at this;omega
      have hb6:=hFt.bt;have hb7:=hFt.tail.bt;have hx6:∀ h:i+1+5<a0.size,((a0[i+1+5]'h).toNat:Int)=92:=fun h=>(bt_at a0 ((i+1+5:Nat):Int) h).trans hb6
      have hx7:∀ h:i+1+5+1<a0.size,((a0[i+1+5+1]'h).toNat:Int)=117:=fun h=>(bt_at a0 ((i+1+5+1:Nat):Int) h).trans hb7
      have hrv:0≤65536+(v - 55296)*1024+(x - 56320)∧65536+(v - 55296)*1024+(x - 56320)≤1114111:=by omega
      have hl10:10≤r.length:=by have:=congrArg List.length et;simp only [List.length_drop,List.length_cons] at this;omega
      have HT:=mk0 hFt;subst hu;have H1:=mk0 h1;clear h1 HD hb6 hb7 hFt et htx
      generalize hrve:65536+(v - 55296)*1024+(x - 56320)=rv at hD hrv
      have HE:=mk0 hrve;clear hrve;go_wp2_with (first|(go_at_call 26;(with_reducible refine (j2h.calls _ v _ (Laid.below HG.out HB.out) hf).mono ?_);rintro e w2 ⟨rfl,hb⟩;have n0_:=mk0 (Kd.R_below HR.out hb);have n1_:=mk0 (j1r HB.out hb);clear HR HB hb;have HR:=n0_;have HB:=n1_;clear n0_ n1_)|(go_at_call 26;(with_reducible refine (j2h.calls _ x _ (Laid.below HG.out HB.out) hf2).mono ?_);rintro e w2 ⟨rfl,hb⟩;have n0_:=mk0 (Kd.R_below HR.out hb);have n1_:=mk0 (j1r HB.out hb);clear HR HB hb;have HR:=n0_;have HB:=n1_;clear n0_ n1_)|(go_at_call 27;(with_reducible refine (j2d.calls v true _ hS).mono ?_);rintro e w3 ⟨rfl,⟨m3,rfl⟩⟩;have n0_:=mk0 (Kd.R_drewN HR.out m3);have n1_:=mk0 (j1d HB.out m3);clear HR HB;have HR:=n0_;have HB:=n1_;clear n0_ n1_)|(go_at_call 28;(with_reducible refine (j2i.calls v x rv _ hD).mono ?_);rintro e w3 ⟨rfl,⟨m3,rfl⟩⟩;have n0_:=mk0 (Kd.R_drewN HR.out m3);have n1_:=mk0 (j1d HB.out m3);clear HR HB;have HR:=n0_;have HB:=n1_;clear n0_ n1_)|((with_reducible refine j1p (b := .append) (xs:=#[.tmp 132, .tmp 133]) rfl ?_);at_builtin;refine R_append_lits (w0:=w) w.heap.size rfl (.tmp 132) (.tmp 133) 30 5 .u8 1 rfl Tryd.underlying30 info5 zq24 u3 xs [0,0,0,0,0,0,0,0] #[.int .u8 0, .int .u8 0, .int .u8 0, .int .u8 0, .int .u8 0, .int .u8 0, .int .u8 0, .int .u8 0] 8 rfl rfl (fun _=>True) rfl rfl (fun _ _=>trivial) ?aO HB.out (j1m HB.out) ?aL ?_;(case aO=>exact HR.out);(case aL=>exact zq13);intro v1 w4 ho hb hg hat;obtain ⟨g,cap,hv1,_,_,_⟩:=Kd.R_form ho (by simp);have hl8:(xs++([0,0,0,0,0,0,0,0]:List Int)).length=xs.length+8:=(by simp);rw [hl8] at hv1;subst hv1;have hcap:=(Kd.R_reads' ho).2.1;have hxl:=Nat.le_trans HF.out.2.2.2.1 (Nat.le_trans hle hs);have hcne:=cap_ne hcap;have hc4:=zeros_cell ho;have hc0:=zeros_cell0 ho;have HC0:=mk0 hc0;clear hc0;have n0_:=mk0 ho;have n1_:=mk0 hb;have HC:=mk0 hc4;clear HR HB hc4 hl8;have HR8:=n0_;have HB:=n1_;clear n0_ n1_ ho hb hg hat)|(go_at_call 29;(with_reducible refine (enc_at g xs.length 8 (cap - xs.length) rv _ hrv.1 hrv.2 zq24 zq24 0 0 0 0 HC0.out.1 (HC.out 1 zq24).1 (HC.out 2 zq24).1 (HC.out 3 zq24).1 HC0.out.2 (HC.out 1 zq24).2 (HC.out 2 zq24).2 (HC.out 3 zq24).2).mono ?_);rintro e w5 ⟨rfl,rfl⟩;obtain ⟨hr5,hg5⟩:=enc_row rv HR8.out;have hb5:=HB.out.grown hg5 (j1m HB.out) (fun q hq=>Kd.R_base HR8.out q hq);have he5:=(eB_len rv).2;have n0_:=mk0 hr5;have n1_:=mk0 hb5;clear HR8 HB HC HC0 hg5 hr5 hb5;have HR:=n0_;have HB:=n1_;clear n0_ n1_))
      go_roundg (r.drop 10).length
      case measure=>have:=HF.out.2.2.2.2;simp only [List.length_cons,List.length_drop] at this ⊢; omega
      case rel=>exact ⟨i+12,r.drop 10,xs++eB rv,u',by go_num,⟨HF.out.1.tail.tail.drop 10 hl10,H1.out,by rw [← HF.out.2.2.1,← HE.out];simp,by have:=HF.out.2.2.2.1;have:=eB_len rv;simp;omega,rfl⟩,HR,HB⟩
def j1q.f (a0 : ByteArray):Option ByteArray:=if a0.size≤2147483647 then (gU (bytesOf a0)).map strOfNums else none
theorem j1q.calls (a0 : ByteArray) (r:ByteArray) (w:World) (hG:Laid w) (h:j1q.f a0=some r) :
 Calls Tryd.prog 23 #[.string a0] w fun e w'=>e = .returned (.string r)∧Below w.heap.size w w':=by
 unfold j1q.f at h
 split at h
 ·rename_i hs;obtain ⟨U,hU,rfl⟩:=Option.map_eq_some_iff.mp h;exact unescape_walk a0 U w hG hs hU
 ·cases h
end
mutual
def j1c.l0 : Nat → ByteArray→Int→Option (ByteArray × ByteArray)
  | 0,_,_=>none
  | k+1,x0,x4=>if x4<(x0.size:Int) then (if 0≤x4 then (if (bt x0 x4)>92 then (j1c.l0 k x0 (wrap64 (x4+1))) else (if (bt x0 x4)=34 then (if 0≤(wrap64 (x4+1)) then (if (wrap64 (x4+1))≤(x0.size:Int) then (if 1≤x4 then (if x4≤(x0.size:Int) then (some (x0.extract 0 ((wrap64 (x4+1)):Int).toNat,x0.extract 1 (x4:Int).toNat)) else (none)) else (none)) else (none)) else (none)) else (if (bt x0 x4)=92 then (j1c.l1 k x0 (wrap64 (x4+1))) else (j1c.l0 k x0 (wrap64 (x4+1)))))) else (none)) else (if 1≤(x0.size:Int) then (some (x0,x0.extract 1 x0.size)) else (none))
def j1c.l1 : Nat → ByteArray→Int→Option (ByteArray × ByteArray)
  | 0,_,_=>none
  | k+1,x0,x4=>if x4<(x0.size:Int) then (if 0≤x4 then (if (bt x0 x4)>92 then (j1c.l1 k x0 (wrap64 (x4+1))) else (if (bt x0 x4)=34 then (if 0≤(wrap64 (x4 - 1)) then (if (wrap64 (x4 - 1))<(x0.size:Int) then (if (bt x0 (wrap64 (x4 - 1)))=92 then (j1c.l2 k x0 x4 0 (wrap64 (x4 - 2))) else (if 0≤(wrap64 (x4+1)) then (if (wrap64 (x4+1))≤(x0.size:Int) then (if 1≤x4 then (if x4≤(x0.size:Int) then ((j1q.f (x0.extract 1 (x4:Int).toNat)).bind fun t105=>(some (x0.extract 0 ((wrap64 (x4+1)):Int).toNat,t105))) else (none)) else (none)) else (none)) else (none))) else (none)) else (none)) else (j1c.l1 k x0 (wrap64 (x4+1))))) else (none)) else (if (wrap64 (x4+1))<(x0.size:Int) then (if 0≤(wrap64 (x4+1)) then (if (wrap64 (x4+1))≤(x0.size:Int) then (if 1≤x4 then (if x4≤(x0.size:Int) then ((j1q.f (x0.extract 1 (x4:Int).toNat)).bind fun t101=>(some (x0.extract 0 ((wrap64 (x4+1)):Int).toNat,t101))) else (none)) else (none)) else (none)) else (none)) else (if 0≤x4 then (if x4≤(x0.size:Int) then (if 1≤x4 then ((j1q.f (x0.extract 1 (x4:Int).toNat)).bind fun t102=>(some (x0.extract 0 (x4:Int).toNat,t102))) else (none)) else (none)) else (none)))
def j1c.l2 : Nat → ByteArray→Int→Int→Int→Option (ByteArray × ByteArray)
  | 0,_,_,_,_=>none
  | k+1,x0,x4,x5,x6=>if x6>0 then (if 0≤x6 then (if x6<(x0.size:Int) then (if (bt x0 x6)=92 then (j1c.l2 k x0 x4 (wrap64 (x5+1)) (wrap64 (x6 - 1))) else (if (Int.tmod x5 2)=0 then (j1c.l1 k x0 (wrap64 (x4+1))) else (if 0≤(wrap64 (x4+1)) then (if (wrap64 (x4+1))≤(x0.size:Int) then (if 1≤x4 then (if x4≤(x0.size:Int) then ((j1q.f (x0.extract 1 (x4:Int).toNat)).bind fun t103=>(some (x0.extract 0 ((wrap64 (x4+1)):Int).toNat,t103))) else (none)) else (none)) else (none)) else (none)))) else (none)) else (none)) else (if (Int.tmod x5 2)=0 then (j1c.l1 k x0 (wrap64 (x4+1))) else (if 0≤(wrap64 (x4+1)) then (if (wrap64 (x4+1))≤(x0.size:Int) then (if 1≤x4 then (if x4≤(x0.size:Int) then ((j1q.f (x0.extract 1 (x4:Int).toNat)).bind fun t104=>(some (x0.extract 0 ((wrap64 (x4+1)):Int).toNat,t104))) else (none)) else (none)) else (none)) else (none)))
end
def j1c.f (k : Nat) (a0:ByteArray):Option (ByteArray × ByteArray):=j1c.l0 k a0 1
theorem j1c.mono_l : ∀ k,(∀ y0 y1,LeO (j1c.l0 k y0 y1) (j1c.l0 (k+1) y0 y1))∧(∀ y0 y1,LeO (j1c.l1 k y0 y1) (j1c.l1 (k+1) y0 y1))∧(∀ y0 y1 y2 y3,LeO (j1c.l2 k y0 y1 y2 y3) (j1c.l2 (k+1) y0 y1 y2 y3))
 | 0=>⟨fun _ _ r h=>by simp [j1c.l0] at h,fun _ _ r h=>by simp [j1c.l1] at h,fun _ _ _ _ r h=>by simp [j1c.l2] at h⟩
 | k+1=>by
  obtain ⟨ih0,ih1,ih2⟩:=j1c.mono_l k;refine ⟨?_,?_,?_⟩
  ·intro y0 y1;unfold j1c.l0
   exact zm
  ·intro y0 y1;unfold j1c.l1
   exact zm
  ·intro y0 y1 y2 y3;unfold j1c.l2
   exact zm
theorem j1c.mono : ∀ a0 k,LeO (j1c.f k a0) (j1c.f (k+1) a0):=by
 intro a0 k;obtain ⟨ih0,ih1,ih2⟩:=j1c.mono_l k;unfold j1c.f
 exact zm
def j1c.T6 : Bool × List (List Nat × List Nat):=(true,[([],[]),([],[]),([1],[1]),([0,2],[0,2]),([],[]),([],[]),([4,5],[4,5]),([3,0,1,2,3],[3]),([6,7,0,1,2,3,4,5,6,7],[6])])
def j1c.B6 : List Nat:=[0,0,2,7,0,0,48,15,255]
theorem j1c.tab6 : rtab .any (opsOf Tryd.f20 6)=j1c.T6:=by kernel_rfl
theorem j1c.bits6 : waitsOk j1c.T6.2 j1c.B6=true:=by kernel_rfl
def j1c.T21 : Bool × List (List Nat × List Nat):=(true,[([],[]),([],[]),([1],[1]),([0,2],[0,2]),([],[]),([],[]),([4,5],[4,5]),([6],[6]),([3,7,0,1,2,3],[3]),([7,8,0,1,2,3,4,5,6,7,8],[7])])
def j1c.B21 : List Nat:=[0,0,2,7,0,0,48,112,255,511]
theorem j1c.tab21 : rtab .any (opsOf Tryd.f20 21)=j1c.T21:=by kernel_rfl
theorem j1c.bits21 : waitsOk j1c.T21.2 j1c.B21=true:=by kernel_rfl
set_option maxHeartbeats 8000000 in
set_option maxRecDepth 100000 in
theorem j1c.calls (k : Nat) (a0:ByteArray) (r1:ByteArray) (r2:ByteArray) (w:World) (hG:Laid w) (h:j1c.f k a0=some (r1,r2)) :
 Calls Tryd.prog 20 #[.string a0] w fun e w'=>e = .returned (.tuple #[.string r1, .string r2])∧Below w.heap.size w w':=by
 have HG:=mk0 hG;clear hG;have HB:=mk0 (Below.refl w.heap.size w);have H:(j1c.l0 k a0 1)=some (r1,r2):=h;clear h;have H':=mk0 H;clear H;go_enter Tryd.func20,Tryd.ntmps20;go_wp2;go_loopg [4] k (fun kq v4 w'=>∃ (x4_1:Int),v4 = .int .i64 x4_1∧Aside0 (j1c.l0 kq a0 x4_1=some (r1,r2))∧Aside0 (kq≤k)∧Aside0 (Below w.heap.size w w'))
 case atStart=>exact ⟨(1),zq6,H',⟨Nat.le_refl _⟩,⟨by repeat (first|(with_reducible first|exact HB.out|apply j1i|apply j1d|apply j1h)|exact HB.out)⟩⟩
 case round =>
  clear H';obtain ⟨x4_1,rfl,HA,HK1,HB⟩:=hrel;cases gk with
  | zero=>exact absurd HA.out (by simp [j1c.l0])
  | succ k1 =>
   have H:=HA.out;clear HA;simp only [j1c.l0] at H;by_cases c2:x4_1<(a0.size:Int)
   rotate_left
   ·rw [if_neg c2] at H;have c2b0:decide (x4_1<(a0.size:Int))=false:=decide_eq_false c2;clear c2;by_cases c72:1≤(a0.size:Int)
    rotate_left
    ·rw [if_neg c72] at H;exact absurd H (by simp)
    rw [if_pos c72] at H;have c72b0:=eq_true c72;have c72b1:decide (1≤(a0.size:Int))=true:=decide_eq_true c72;clear c72;simp only [Option.some.injEq,Prod.mk.injEq] at H;obtain ⟨rfl,rfl⟩:=H
    try go_wp2
    have n0_:=mk0 (j1h HB.out);clear HB;have HB:=n0_;clear n0_;refine start_ (n:=5) (S:=fun w'=>True) (ds:=[]) #[false,false,false,false,false] zq12 rfl rfl trivial (fun hHeld=>?_)
    generalize wr.drew=w73 at HB hHeld ⊢
    refine pure_ (i:=0) (N:=some 94) (v:=?_) (a':=?_) #[true,false,false,false,false] rfl rfl zq12 (fun _ _ _ h=>h) (Or.inl ⟨by rfl,?_⟩) ?_ ?_;rotate_left
    ·exact zl1
    rotate_left
    ·exact zl0
    refine pure_ (i:=1) (N:=some 95) (v:=?_) (a':=?_) #[true,true,false,false,false] rfl rfl zq12 (fun _ _ _ h=>h) (Or.inl ⟨by rfl,?_⟩) ?_ ?_;rotate_left
    ·exact zl1
    rotate_left
    ·exact zl0
    refine pure_ (i:=2) (N:=some 96) (v:=?_) (a':=?_) #[true,true,true,false,false] rfl rfl zq12 (fun _ _ _ h=>h) (Or.inl ⟨by rfl,?_⟩) ?_ ?_;rotate_left
    ·exact zl1
    rotate_left
    ·exact zl0
    refine pure_ (i:=3) (N:=some 2) (v:=?_) (a':=?_) #[true,true,true,true,false] rfl rfl zq12 (fun _ _ _ h=>h) (Or.inl ⟨by rfl,?_⟩) ?_ ?_;rotate_left
    ·exact zl1
    rotate_left
    ·exact zl0
    refine pure_ (i:=4) (N:=some 3) (v:=?_) (a':=?_) #[true,true,true,true,true] rfl rfl zq12 (fun _ _ _ h=>h) (Or.inl ⟨by rfl,?_⟩) ?_ ?_;rotate_left
    ·exact zl1
    rotate_left
    ·exact zl0
    refine done_ zq12 ?_
    try go_wp2
    go_ret2;exact zl2
   rw [if_pos c2] at H;have c2b0:decide (x4_1<(a0.size:Int))=true:=decide_eq_true c2;clear c2;by_cases c3:0≤x4_1
   rotate_left
   ·rw [if_neg c3] at H;exact absurd H (by simp)
   rw [if_pos c3] at H;have c3b0:decide (0≤x4_1)=true:=decide_eq_true c3;clear c3;by_cases c5:(bt a0 x4_1)>92
   ·rw [if_pos c5] at H;have c5b0:decide (92<(bt a0 x4_1))=true:=decide_eq_true c5;clear c5;have H':=mk0 H;clear H;have p4:0≤(x4_1:Int):=of_decide_eq_true zq1;have q4:x4_1<(a0.size:Int):=of_decide_eq_true zq1;have hx4:=bt_at a0 x4_1;replace p4:=eq_true p4;replace q4:=eq_true q4;go_wp2;go_roundg k1
    case measure=>have:=HK1.out;omega
    case rel=>exact ⟨(wrap64 (x4_1+1)),zq6,H',⟨by have:=HK1.out;omega⟩,⟨by repeat (first|(with_reducible first|exact HB.out|apply j1i|apply j1d|apply j1h)|exact HB.out)⟩⟩
   rw [if_neg c5] at H;have c5b0:decide (92<(bt a0 x4_1))=false:=decide_eq_false c5;clear c5;by_cases c7:(bt a0 x4_1)=34
   ·rw [if_pos c7] at H;have c7b0:((bt a0 x4_1) == 34)=true:=beq_iff_eq.mpr c7;have c7b1:((bt a0 x4_1) != 34)=false:=bne_eq_false_iff_eq.mpr c7;clear c7;obtain ⟨ji8,hji8⟩:∃ j_:Int,(wrap64 (x4_1+1))=j_:=⟨_,rfl⟩;replace H:(if 0≤(ji8) then (if (ji8)≤(a0.size:Int) then (if 1≤x4_1 then (if x4_1≤(a0.size:Int) then (some (a0.extract 0 ((ji8):Int).toNat,a0.extract 1 (x4_1:Int).toNat)) else (none)) else (none)) else (none)) else (none))=some (r1,r2):=by first|(rw [hji8] at H;exact H)|(simp only [hji8] at H ⊢; exact H)
    have hji8w:(IntKind.i64.wrap (x4_1+1))=ji8:=(i64_w _).trans hji8;by_cases c9:0≤(ji8)
    rotate_left
    ·rw [if_neg c9] at H;exact absurd H (by simp)
    rw [if_pos c9] at H;have c9b0:=eq_true c9;have c9b1:decide (0≤(ji8))=true:=decide_eq_true c9;clear c9;by_cases c10:(ji8)≤(a0.size:Int)
    rotate_left
    ·rw [if_neg c10] at H;exact absurd H (by simp)
    rw [if_pos c10] at H;have c10b0:=eq_true c10;have c10b1:decide ((ji8)≤(a0.size:Int))=true:=decide_eq_true c10;clear c10;by_cases c11:1≤x4_1
    rotate_left
    ·rw [if_neg c11] at H;exact absurd H (by simp)
    rw [if_pos c11] at H;have c11b0:=eq_true c11;have c11b1:decide (1≤x4_1)=true:=decide_eq_true c11;clear c11;by_cases c12:x4_1≤(a0.size:Int)
    rotate_left
    ·rw [if_neg c12] at H;exact absurd H (by simp)
    rw [if_pos c12] at H;have c12b0:=eq_true c12;have c12b1:decide (x4_1≤(a0.size:Int))=true:=decide_eq_true c12;clear c12;simp only [Option.some.injEq,Prod.mk.injEq] at H;obtain ⟨rfl,rfl⟩:=H;have p4:0≤(x4_1:Int):=of_decide_eq_true zq1;have q4:x4_1<(a0.size:Int):=of_decide_eq_true zq1;have hx4:=bt_at a0 x4_1;replace p4:=eq_true p4;replace q4:=eq_true q4;have p6:0≤(x4_1:Int):=of_decide_eq_true zq1;have q6:x4_1<(a0.size:Int):=of_decide_eq_true zq1;have hx6:=bt_at a0 x4_1;replace p6:=eq_true p6;replace q6:=eq_true q6
    try go_wp2
    have n0_:=mk0 (j1h HB.out);clear HB;have HB:=n0_;clear n0_;refine start_ (n:=9) (S:=fun w'=>True) (ds:=[]) #[false,false,false,false,false,false,false,false,false] zq12 rfl rfl trivial (fun hHeld=>?_);refine with_tabW j1c.tab6 j1c.bits6 (fun HT_ HW_=>?_)
    generalize wr.drew=w13 at HB hHeld ⊢
    refine pure_ (i:=0) (N:=some 22) (v:=?_) (a':=?_) #[true,false,false,false,false,false,false,false,false] rfl rfl (j1y HT_.out zq12) (fun _ _ _ h=>h) (Or.inl ⟨by rfl,?_⟩) ?_ ?_;rotate_left
    ·exact zl1
    rotate_left
    ·exact zl0
    refine pure_ (i:=1) (N:=some 23) (v:=?_) (a':=?_) #[true,true,false,false,false,false,false,false,false] rfl rfl (j1y HT_.out zq12) (fun _ _ _ h=>h) (Or.inl ⟨by rfl,?_⟩) ?_ ?_;rotate_left
    ·exact zl1
    rotate_left
    ·exact zl0
    refine pure_ (i:=2) (N:=some 24) (v:=?_) (a':=?_) #[true,true,true,false,false,false,false,false,false] rfl rfl (j1y HT_.out zq12) (fun _ _ _ h=>h) (Or.inl ⟨by rfl,?_⟩) ?_ ?_;rotate_left
    ·exact zl1
    rotate_left
    ·exact zl0
    refine pure_ (i:=3) (N:=some 25) (v:=?_) (a':=?_) #[true,true,true,true,false,false,false,false,false] rfl rfl (j1y HT_.out zq12) (fun _ _ _ h=>h) (Or.inl ⟨by rfl,?_⟩) ?_ ?_;rotate_left
    ·exact zl1
    rotate_left
    ·exact zl0
    refine pure_ (i:=4) (N:=some 26) (v:=?_) (a':=?_) #[true,true,true,true,true,false,false,false,false] rfl rfl (j1y HT_.out zq12) (fun _ _ _ h=>h) (Or.inl ⟨by rfl,?_⟩) ?_ ?_;rotate_left
    ·exact zl1
    rotate_left
    ·exact zl0
    refine pure_ (i:=5) (N:=some 27) (v:=?_) (a':=?_) #[true,true,true,true,true,true,false,false,false] rfl rfl (j1y HT_.out zq12) (fun _ _ _ h=>h) (Or.inl ⟨by rfl,?_⟩) ?_ ?_;rotate_left
    ·exact zl1
    rotate_left
    ·exact zl0
    refine pure_ (i:=6) (N:=some 28) (v:=?_) (a':=?_) #[true,true,true,true,true,true,true,false,false] rfl rfl (j1y HT_.out zq12) (fun _ _ _ h=>h) (Or.inl ⟨by rfl,?_⟩) ?_ ?_;rotate_left
    ·exact zl1
    rotate_left
    ·exact zl0
    refine pure_ (i:=7) (N:=some 2) (v:=?_) (a':=?_) #[true,true,true,true,true,true,true,true,false] rfl rfl (j1y HT_.out zq12) (fun _ _ _ h=>h) (Or.inl ⟨by rfl,?_⟩) ?_ ?_;rotate_left
    ·exact zl1
    rotate_left
    ·exact zl0
    refine pure_ (i:=8) (N:=some 3) (v:=?_) (a':=?_) #[true,true,true,true,true,true,true,true,true] rfl rfl (j1y HT_.out zq12) (fun _ _ _ h=>h) (Or.inl ⟨by rfl,?_⟩) ?_ ?_;rotate_left
    ·exact zl1
    rotate_left
    ·exact zl0
    refine done_ (done_of HT_.out zq12) ?_
    try go_wp2
    go_ret2;exact ⟨by first|rfl|(simp [j1t,j1s]<;>rfl)|(simp only [← hji8];first|rfl|(simp [j1t,j1s]<;>rfl))|(simp [*, j1t,j1s]<;>rfl),by repeat (first|(with_reducible first|exact HB.out|apply j1i|apply j1d|apply j1h)|exact HB.out)⟩
   rw [if_neg c7] at H;have c7b0:((bt a0 x4_1) == 34)=false:=beq_eq_false_iff_ne.mpr c7;have c7b1:((bt a0 x4_1) != 34)=true:=bne_iff_ne.mpr c7;by_cases c15:(bt a0 x4_1)=92
   rotate_left
   ·rw [if_neg c15] at H;have c15b0:((bt a0 x4_1) == 92)=false:=beq_eq_false_iff_ne.mpr c15;have c15b1:((bt a0 x4_1) != 92)=true:=bne_iff_ne.mpr c15;have H':=mk0 H;clear H;have p4:0≤(x4_1:Int):=of_decide_eq_true zq1;have q4:x4_1<(a0.size:Int):=of_decide_eq_true zq1;have hx4:=bt_at a0 x4_1;replace p4:=eq_true p4;replace q4:=eq_true q4;have p6:0≤(x4_1:Int):=of_decide_eq_true zq1;have q6:x4_1<(a0.size:Int):=of_decide_eq_true zq1;have hx6:=bt_at a0 x4_1;replace p6:=eq_true p6;replace q6:=eq_true q6;have p14:0≤(x4_1:Int):=of_decide_eq_true zq1;have q14:x4_1<(a0.size:Int):=of_decide_eq_true zq1;have hx14:=bt_at a0 x4_1;replace p14:=eq_true p14;replace q14:=eq_true q14;go_wp2;go_roundg k1
    case measure=>have:=HK1.out;omega
    case rel=>exact ⟨(wrap64 (x4_1+1)),zq6,H',⟨by have:=HK1.out;omega⟩,⟨by repeat (first|(with_reducible first|exact HB.out|apply j1i|apply j1d|apply j1h)|exact HB.out)⟩⟩
   rw [if_pos c15] at H;have c15b0:((bt a0 x4_1) == 92)=true:=beq_iff_eq.mpr c15;have c15b1:((bt a0 x4_1) != 92)=false:=bne_eq_false_iff_eq.mpr c15;clear c15;have H':=mk0 H;clear H;have p4:0≤(x4_1:Int):=of_decide_eq_true zq1;have q4:x4_1<(a0.size:Int):=of_decide_eq_true zq1;have hx4:=bt_at a0 x4_1;replace p4:=eq_true p4;replace q4:=eq_true q4;have p6:0≤(x4_1:Int):=of_decide_eq_true zq1;have q6:x4_1<(a0.size:Int):=of_decide_eq_true zq1;have hx6:=bt_at a0 x4_1;replace p6:=eq_true p6;replace q6:=eq_true q6;have p14:0≤(x4_1:Int):=of_decide_eq_true zq1;have q14:x4_1<(a0.size:Int):=of_decide_eq_true zq1;have hx14:=bt_at a0 x4_1;replace p14:=eq_true p14;replace q14:=eq_true q14;go_wp2;go_loopg [4] k1 (fun kq v4 w'=>∃ (x4_2:Int),v4 = .int .i64 x4_2∧Aside0 (j1c.l1 kq a0 x4_2=some (r1,r2))∧Aside0 (kq≤k1)∧Aside0 (Below w.heap.size w w'))
   case atStart=>exact ⟨(wrap64 (x4_1+1)),zq6,H',⟨Nat.le_refl _⟩,⟨by repeat (first|(with_reducible first|exact HB.out|apply j1i|apply j1d|apply j1h)|exact HB.out)⟩⟩
   case round =>
    clear H'
    try clear c1
    try clear p1
    try clear q1
    try clear hx1
    try clear c2
    try clear c2b0
    try clear p2
    try clear c3
    try clear c3b0
    try clear p4
    try clear q4
    try clear hx4
    try clear c5
    try clear c5b0
    try clear p6
    try clear q6
    try clear hx6
    try clear c7
    try clear c7b0
    try clear c7b1
    try clear c9
    try clear c9b0
    try clear c9b1
    try clear c10
    try clear c10b0
    try clear c10b1
    try clear c11
    try clear c11b0
    try clear c11b1
    try clear c12
    try clear c12b0
    try clear c12b1
    try clear p14
    try clear q14
    try clear hx14
    try clear c15
    try clear c15b0
    try clear c15b1
    try clear p14
    try clear p4
    try clear p6
    try clear q14
    try clear q4
    try clear q6
    obtain ⟨x4_2,rfl,HA,HK2,HB⟩:=hrel;cases gk with
    | zero=>exact absurd HA.out (by simp [j1c.l1])
    | succ k2 =>
     have H:=HA.out;clear HA;simp only [j1c.l1] at H;by_cases c16:x4_2<(a0.size:Int)
     rotate_left
     ·rw [if_neg c16] at H;have c16b0:decide (x4_2<(a0.size:Int))=false:=decide_eq_false c16;clear c16;by_cases c58:(wrap64 (x4_2+1))<(a0.size:Int)
      rotate_left
      ·rw [if_neg c58] at H;have c58b0:decide ((wrap64 (x4_2+1))<(a0.size:Int))=false:=decide_eq_false c58;clear c58;by_cases c66:0≤x4_2
       rotate_left
       ·rw [if_neg c66] at H;exact absurd H (by simp)
       rw [if_pos c66] at H;have c66b0:=eq_true c66;have c66b1:decide (0≤x4_2)=true:=decide_eq_true c66;clear c66;by_cases c67:x4_2≤(a0.size:Int)
       rotate_left
       ·rw [if_neg c67] at H;exact absurd H (by simp)
       rw [if_pos c67] at H;have c67b0:=eq_true c67;have c67b1:decide (x4_2≤(a0.size:Int))=true:=decide_eq_true c67;clear c67;by_cases c68:1≤x4_2
       rotate_left
       ·rw [if_neg c68] at H;exact absurd H (by simp)
       rw [if_pos c68] at H;have c68b0:=eq_true c68;have c68b1:decide (1≤x4_2)=true:=decide_eq_true c68;clear c68;have c69b0:=eq_true (of_decide_eq_true zq1:x4_2≤(a0.size:Int));replace H:=Option.bind_eq_some_iff.mp H;obtain ⟨t102,A700,H⟩:=H;replace H:(some (a0.extract 0 (x4_2:Int).toNat,t102))=some (r1,r2):=H;have A70:=mk0 A700;clear A700;simp only [Option.some.injEq,Prod.mk.injEq] at H;obtain ⟨rfl,rfl⟩:=H;go_wp2_with (first|((with_reducible refine j1z (f:=23) rfl ?_);refine j2l (some 93) rfl rfl Tryd.func23 zq12 rfl #[.string (a0.extract 1 (x4_2:Int).toNat)] rfl zq3 ?_;(with_reducible refine (j1q.calls (a0.extract 1 (x4_2:Int).toNat) t102 _ ?side1 A70.out).mono ?_);(case side1=>exact zq11);rintro e w71 ⟨rfl,hb⟩;refine ⟨_,rfl,?_⟩;have n0_:=mk0 (j1r zq0 hb);clear HB;have HB:=n0_;clear n0_;(try clear hb);(try clear hb2);(try clear hk);(try clear hi)))
       go_ret2;exact zl2
      rw [if_pos c58] at H;have c58b0:decide ((wrap64 (x4_2+1))<(a0.size:Int))=true:=decide_eq_true c58;clear c58;obtain ⟨ji59,hji59⟩:∃ j_:Int,(wrap64 (x4_2+1))=j_:=⟨_,rfl⟩;replace H:(if 0≤(ji59) then (if (ji59)≤(a0.size:Int) then (if 1≤x4_2 then (if x4_2≤(a0.size:Int) then ((j1q.f (a0.extract 1 (x4_2:Int).toNat)).bind fun t101=>(some (a0.extract 0 ((ji59):Int).toNat,t101))) else (none)) else (none)) else (none)) else (none))=some (r1,r2):=by first|(rw [hji59] at H;exact H)|(simp only [hji59] at H ⊢; exact H)
      (try rw [hji59] at c58b0);have hji59w:(IntKind.i64.wrap (x4_2+1))=ji59:=(i64_w _).trans hji59;by_cases c60:0≤(ji59)
      rotate_left
      ·rw [if_neg c60] at H;exact absurd H (by simp)
      rw [if_pos c60] at H;have c60b0:=eq_true c60;have c60b1:decide (0≤(ji59))=true:=decide_eq_true c60;clear c60;by_cases c61:(ji59)≤(a0.size:Int)
      rotate_left
      ·rw [if_neg c61] at H;exact absurd H (by simp)
      rw [if_pos c61] at H;have c61b0:=eq_true c61;have c61b1:decide ((ji59)≤(a0.size:Int))=true:=decide_eq_true c61;clear c61;by_cases c62:1≤x4_2
      rotate_left
      ·rw [if_neg c62] at H;exact absurd H (by simp)
      rw [if_pos c62] at H;have c62b0:=eq_true c62;have c62b1:decide (1≤x4_2)=true:=decide_eq_true c62;clear c62;by_cases c63:x4_2≤(a0.size:Int)
      rotate_left
      ·rw [if_neg c63] at H;exact absurd H (by simp)
      rw [if_pos c63] at H;have c63b0:=eq_true c63;have c63b1:decide (x4_2≤(a0.size:Int))=true:=decide_eq_true c63;clear c63;replace H:=Option.bind_eq_some_iff.mp H;obtain ⟨t101,A640,H⟩:=H;replace H:(some (a0.extract 0 ((ji59):Int).toNat,t101))=some (r1,r2):=H;have A64:=mk0 A640;clear A640;simp only [Option.some.injEq,Prod.mk.injEq] at H;obtain ⟨rfl,rfl⟩:=H;go_wp2_with (first|((with_reducible refine j1z (f:=23) rfl ?_);refine j2l (some 93) rfl rfl Tryd.func23 zq12 rfl #[.string (a0.extract 1 (x4_2:Int).toNat)] rfl zq3 ?_;(with_reducible refine (j1q.calls (a0.extract 1 (x4_2:Int).toNat) t101 _ ?side1 A64.out).mono ?_);(case side1=>exact zq11);rintro e w65 ⟨rfl,hb⟩;refine ⟨_,rfl,?_⟩;have n0_:=mk0 (j1r zq0 hb);clear HB;have HB:=n0_;clear n0_;(try clear hb);(try clear hb2);(try clear hk);(try clear hi)))
      go_ret2;exact ⟨by first|rfl|(simp [j1t,j1s]<;>rfl)|(simp only [← hji59];first|rfl|(simp [j1t,j1s]<;>rfl))|(simp [*, j1t,j1s]<;>rfl),by repeat (first|(with_reducible first|exact HB.out|apply j1i|apply j1d|apply j1h)|exact HB.out)⟩
     rw [if_pos c16] at H;have c16b0:decide (x4_2<(a0.size:Int))=true:=decide_eq_true c16;clear c16;by_cases c17:0≤x4_2
     rotate_left
     ·rw [if_neg c17] at H;exact absurd H (by simp)
     rw [if_pos c17] at H;have c17b0:decide (0≤x4_2)=true:=decide_eq_true c17;clear c17;by_cases c19:(bt a0 x4_2)>92
     ·rw [if_pos c19] at H;have c19b0:decide (92<(bt a0 x4_2))=true:=decide_eq_true c19;clear c19;have H':=mk0 H;clear H;have p18:0≤(x4_2:Int):=of_decide_eq_true zq1;have q18:x4_2<(a0.size:Int):=of_decide_eq_true zq1;have hx18:=bt_at a0 x4_2;replace p18:=eq_true p18;replace q18:=eq_true q18;go_wp2;go_roundg k2
      case measure=>have:=HK1.out;have:=HK2.out;omega
      case rel=>exact ⟨(wrap64 (x4_2+1)),zq6,H',⟨by have:=HK1.out;have:=HK2.out;omega⟩,⟨by repeat (first|(with_reducible first|exact HB.out|apply j1i|apply j1d|apply j1h)|exact HB.out)⟩⟩
     rw [if_neg c19] at H;have c19b0:decide (92<(bt a0 x4_2))=false:=decide_eq_false c19;clear c19;by_cases c21:(bt a0 x4_2)=34
     rotate_left
     ·rw [if_neg c21] at H;have c21b0:((bt a0 x4_2) == 34)=false:=beq_eq_false_iff_ne.mpr c21;have c21b1:((bt a0 x4_2) != 34)=true:=bne_iff_ne.mpr c21;have H':=mk0 H;clear H;have p18:0≤(x4_2:Int):=of_decide_eq_true zq1;have q18:x4_2<(a0.size:Int):=of_decide_eq_true zq1;have hx18:=bt_at a0 x4_2;replace p18:=eq_true p18;replace q18:=eq_true q18;have p20:0≤(x4_2:Int):=of_decide_eq_true zq1;have q20:x4_2<(a0.size:Int):=of_decide_eq_true zq1;have hx20:=bt_at a0 x4_2;replace p20:=eq_true p20;replace q20:=eq_true q20;go_wp2;go_roundg k2
      case measure=>have:=HK1.out;have:=HK2.out;omega
      case rel=>exact ⟨(wrap64 (x4_2+1)),zq6,H',⟨by have:=HK1.out;have:=HK2.out;omega⟩,⟨by repeat (first|(with_reducible first|exact HB.out|apply j1i|apply j1d|apply j1h)|exact HB.out)⟩⟩
     rw [if_pos c21] at H;have c21b0:((bt a0 x4_2) == 34)=true:=beq_iff_eq.mpr c21;have c21b1:((bt a0 x4_2) != 34)=false:=bne_eq_false_iff_eq.mpr c21;clear c21;obtain ⟨ji22,hji22⟩:∃ j_:Int,(wrap64 (x4_2 - 1))=j_:=⟨_,rfl⟩;replace H:(if 0≤(ji22) then (if (ji22)<(a0.size:Int) then (if (bt a0 (ji22))=92 then (j1c.l2 k2 a0 x4_2 0 (wrap64 (x4_2 - 2))) else (if 0≤(wrap64 (x4_2+1)) then (if (wrap64 (x4_2+1))≤(a0.size:Int) then (if 1≤x4_2 then (if x4_2≤(a0.size:Int) then ((j1q.f (a0.extract 1 (x4_2:Int).toNat)).bind fun t105=>(some (a0.extract 0 ((wrap64 (x4_2+1)):Int).toNat,t105))) else (none)) else (none)) else (none)) else (none))) else (none)) else (none))=some (r1,r2):=by first|(rw [hji22] at H;exact H)|(simp only [hji22] at H ⊢; exact H)
     have hji22w:(IntKind.i64.wrap (x4_2 - 1))=ji22:=(i64_w _).trans hji22;by_cases c23:0≤(ji22)
     rotate_left
     ·rw [if_neg c23] at H;exact absurd H (by simp)
     rw [if_pos c23] at H;have c23b0:decide (0≤(ji22))=true:=decide_eq_true c23;clear c23;by_cases c24:(ji22)<(a0.size:Int)
     rotate_left
     ·rw [if_neg c24] at H;exact absurd H (by simp)
     rw [if_pos c24] at H;have c24b0:decide ((ji22)<(a0.size:Int))=true:=decide_eq_true c24;clear c24;by_cases c26:(bt a0 (ji22))=92
     rotate_left
     ·rw [if_neg c26] at H;have c26b0:((bt a0 (ji22)) == 92)=false:=beq_eq_false_iff_ne.mpr c26;have c26b1:((bt a0 (ji22)) != 92)=true:=bne_iff_ne.mpr c26;obtain ⟨ji50,hji50⟩:∃ j_:Int,(wrap64 (x4_2+1))=j_:=⟨_,rfl⟩;replace H:(if 0≤(ji50) then (if (ji50)≤(a0.size:Int) then (if 1≤x4_2 then (if x4_2≤(a0.size:Int) then ((j1q.f (a0.extract 1 (x4_2:Int).toNat)).bind fun t105=>(some (a0.extract 0 ((ji50):Int).toNat,t105))) else (none)) else (none)) else (none)) else (none))=some (r1,r2):=by first|(rw [hji50] at H;exact H)|(simp only [hji50] at H ⊢; exact H)
      have hji50w:(IntKind.i64.wrap (x4_2+1))=ji50:=(i64_w _).trans hji50;by_cases c51:0≤(ji50)
      rotate_left
      ·rw [if_neg c51] at H;exact absurd H (by simp)
      rw [if_pos c51] at H;have c51b0:=eq_true c51;have c51b1:decide (0≤(ji50))=true:=decide_eq_true c51;clear c51;by_cases c52:(ji50)≤(a0.size:Int)
      rotate_left
      ·rw [if_neg c52] at H;exact absurd H (by simp)
      rw [if_pos c52] at H;have c52b0:=eq_true c52;have c52b1:decide ((ji50)≤(a0.size:Int))=true:=decide_eq_true c52;clear c52;by_cases c53:1≤x4_2
      rotate_left
      ·rw [if_neg c53] at H;exact absurd H (by simp)
      rw [if_pos c53] at H;have c53b0:=eq_true c53;have c53b1:decide (1≤x4_2)=true:=decide_eq_true c53;clear c53;by_cases c54:x4_2≤(a0.size:Int)
      rotate_left
      ·rw [if_neg c54] at H;exact absurd H (by simp)
      rw [if_pos c54] at H;have c54b0:=eq_true c54;have c54b1:decide (x4_2≤(a0.size:Int))=true:=decide_eq_true c54;clear c54;replace H:=Option.bind_eq_some_iff.mp H;obtain ⟨t105,A550,H⟩:=H;replace H:(some (a0.extract 0 ((ji50):Int).toNat,t105))=some (r1,r2):=H;have A55:=mk0 A550;clear A550;simp only [Option.some.injEq,Prod.mk.injEq] at H;obtain ⟨rfl,rfl⟩:=H;have p18:0≤(x4_2:Int):=of_decide_eq_true zq1;have q18:x4_2<(a0.size:Int):=of_decide_eq_true zq1;have hx18:=bt_at a0 x4_2;replace p18:=eq_true p18;replace q18:=eq_true q18;have p20:0≤(x4_2:Int):=of_decide_eq_true zq1;have q20:x4_2<(a0.size:Int):=of_decide_eq_true zq1;have hx20:=bt_at a0 x4_2;replace p20:=eq_true p20;replace q20:=eq_true q20;have p25:0≤((ji22):Int):=of_decide_eq_true zq1;have q25:(ji22)<(a0.size:Int):=of_decide_eq_true zq1;have hx25:=bt_at a0 (ji22);replace p25:=eq_true p25;replace q25:=eq_true q25
      try go_wp2
      have n0_:=mk0 (j1h HB.out);clear HB;have HB:=n0_;clear n0_;refine start_ (n:=10) (S:=fun w'=>True) (ds:=[]) #[false,false,false,false,false,false,false,false,false,false] zq12 rfl rfl trivial (fun hHeld=>?_);refine with_tabW j1c.tab21 j1c.bits21 (fun HT_ HW_=>?_)
      generalize wr.drew=w56 at HB hHeld ⊢
      refine pure_ (i:=0) (N:=some 69) (v:=?_) (a':=?_) #[true,false,false,false,false,false,false,false,false,false] rfl rfl (j1y HT_.out zq12) (fun _ _ _ h=>h) (Or.inl ⟨by rfl,?_⟩) ?_ ?_;rotate_left
      ·exact zl1
      rotate_left
      ·exact zl0
      refine pure_ (i:=1) (N:=some 70) (v:=?_) (a':=?_) #[true,true,false,false,false,false,false,false,false,false] rfl rfl (j1y HT_.out zq12) (fun _ _ _ h=>h) (Or.inl ⟨by rfl,?_⟩) ?_ ?_;rotate_left
      ·exact zl1
      rotate_left
      ·exact zl0
      refine pure_ (i:=2) (N:=some 71) (v:=?_) (a':=?_) #[true,true,true,false,false,false,false,false,false,false] rfl rfl (j1y HT_.out zq12) (fun _ _ _ h=>h) (Or.inl ⟨by rfl,?_⟩) ?_ ?_;rotate_left
      ·exact zl1
      rotate_left
      ·exact zl0
      refine pure_ (i:=3) (N:=some 72) (v:=?_) (a':=?_) #[true,true,true,true,false,false,false,false,false,false] rfl rfl (j1y HT_.out zq12) (fun _ _ _ h=>h) (Or.inl ⟨by rfl,?_⟩) ?_ ?_;rotate_left
      ·exact zl1
      rotate_left
      ·exact zl0
      refine pure_ (i:=4) (N:=some 73) (v:=?_) (a':=?_) #[true,true,true,true,true,false,false,false,false,false] rfl rfl (j1y HT_.out zq12) (fun _ _ _ h=>h) (Or.inl ⟨by rfl,?_⟩) ?_ ?_;rotate_left
      ·exact zl1
      rotate_left
      ·exact zl0
      refine pure_ (i:=5) (N:=some 74) (v:=?_) (a':=?_) #[true,true,true,true,true,true,false,false,false,false] rfl rfl (j1y HT_.out zq12) (fun _ _ _ h=>h) (Or.inl ⟨by rfl,?_⟩) ?_ ?_;rotate_left
      ·exact zl1
      rotate_left
      ·exact zl0
      refine pure_ (i:=6) (N:=some 75) (v:=?_) (a':=?_) #[true,true,true,true,true,true,true,false,false,false] rfl rfl (j1y HT_.out zq12) (fun _ _ _ h=>h) (Or.inl ⟨by rfl,?_⟩) ?_ ?_;rotate_left
      ·exact zl1
      rotate_left
      ·exact zl0
      refine one_ (i:=7) (N:=some 76) #[true,true,true,true,true,true,true,true,false,false] rfl rfl (one_of HT_.out zq12) zq24 (fun K hK=>?_);refine goes_ Tryd.func23 zq12 rfl #[.string (a0.extract 1 (x4_2:Int).toNat)] (by rfl) rfl rfl zq3 ?_;with_reducible refine (j1q.calls (a0.extract 1 (x4_2:Int).toNat) t105 _ ?side1 A55.out).mono ?_
      (case side1=>exact zq11);rintro e w57 ⟨rfl,hb⟩;refine ⟨_,rfl,?_⟩;have n0_:=mk0 (j1r zq0 hb);clear HB;have HB:=n0_;clear n0_;(try clear hb);(try clear hb2);(try clear hk);(try clear hi);refine hK.out _ _ trivial (fun hHeld=>?_);clear hK K;refine norm_ (a':=?_) ?_ ?_;rotate_left
      ·show Act.put _ (some 76) _=_
       exact zl0
      refine pure_ (i:=8) (N:=some 2) (v:=?_) (a':=?_) #[true,true,true,true,true,true,true,true,true,false] rfl rfl (j1y HT_.out zq12) (fun _ _ _ h=>h) (Or.inl ⟨by rfl,?_⟩) ?_ ?_;rotate_left
      ·exact zl1
      rotate_left
      ·exact zl0
      refine pure_ (i:=9) (N:=some 3) (v:=?_) (a':=?_) #[true,true,true,true,true,true,true,true,true,true] rfl rfl (j1y HT_.out zq12) (fun _ _ _ h=>h) (Or.inl ⟨by rfl,?_⟩) ?_ ?_;rotate_left
      ·exact zl1
      rotate_left
      ·exact zl0
      refine done_ (done_of HT_.out zq12) ?_
      try go_wp2
      go_ret2;exact ⟨by first|rfl|(simp [j1t,j1s]<;>rfl)|(simp only [← hji22,← hji50];first|rfl|(simp [j1t,j1s]<;>rfl))|(simp [*, j1t,j1s]<;>rfl),by repeat (first|(with_reducible first|exact HB.out|apply j1i|apply j1d|apply j1h)|exact HB.out)⟩
     rw [if_pos c26] at H;have c26b0:((bt a0 (ji22)) == 92)=true:=beq_iff_eq.mpr c26;have c26b1:((bt a0 (ji22)) != 92)=false:=bne_eq_false_iff_eq.mpr c26;clear c26;have H':=mk0 H;clear H;have p18:0≤(x4_2:Int):=of_decide_eq_true zq1;have q18:x4_2<(a0.size:Int):=of_decide_eq_true zq1;have hx18:=bt_at a0 x4_2;replace p18:=eq_true p18;replace q18:=eq_true q18;have p20:0≤(x4_2:Int):=of_decide_eq_true zq1;have q20:x4_2<(a0.size:Int):=of_decide_eq_true zq1;have hx20:=bt_at a0 x4_2;replace p20:=eq_true p20;replace q20:=eq_true q20;have p25:0≤((ji22):Int):=of_decide_eq_true zq1;have q25:(ji22)<(a0.size:Int):=of_decide_eq_true zq1;have hx25:=bt_at a0 (ji22);replace p25:=eq_true p25;replace q25:=eq_true q25;go_wp2;go_loopg [5,6] k2 (fun kq v5 v6 w'=>∃ (x5_3:Int) (x6_3:Int),v5 = .int .i64 x5_3∧v6 = .int .i64 x6_3∧Aside0 (j1c.l2 kq a0 x4_2 x5_3 x6_3=some (r1,r2))∧Aside0 (kq≤k2)∧Aside0 (Below w.heap.size w w'))
     case atStart=>exact ⟨(0),(wrap64 (x4_2 - 2)),zq17,zq17,H',⟨Nat.le_refl _⟩,⟨by repeat (first|(with_reducible first|exact HB.out|apply j1i|apply j1d|apply j1h)|exact HB.out)⟩⟩
     case round =>
      clear H'
      try clear c1
      try clear p1
      try clear q1
      try clear hx1
      try clear c2
      try clear c2b0
      try clear p2
      try clear q2
      try clear hx2
      try clear c3
      try clear c3b0
      try clear p4
      try clear q4
      try clear hx4
      try clear c5
      try clear c5b0
      try clear p6
      try clear q6
      try clear hx6
      try clear c7
      try clear c7b0
      try clear c7b1
      try clear c9
      try clear c9b0
      try clear c9b1
      try clear c10
      try clear c10b0
      try clear c10b1
      try clear c11
      try clear c11b0
      try clear c11b1
      try clear c12
      try clear c12b0
      try clear c12b1
      try clear p14
      try clear q14
      try clear hx14
      try clear c15
      try clear c15b0
      try clear c15b1
      try clear c16
      try clear c16b0
      try clear c17
      try clear c17b0
      try clear p18
      try clear q18
      try clear hx18
      try clear c19
      try clear c19b0
      try clear c20
      try clear p20
      try clear q20
      try clear hx20
      try clear c21
      try clear c21b0
      try clear c21b1
      try clear c23
      try clear c23b0
      try clear c24
      try clear c24b0
      try clear p25
      try clear q25
      try clear hx25
      try clear c26
      try clear c26b0
      try clear c26b1
      try clear p1
      try clear p14
      try clear p18
      try clear p2
      try clear p20
      try clear p25
      try clear p4
      try clear p6
      try clear q1
      try clear q14
      try clear q18
      try clear q20
      try clear q25
      try clear q4
      try clear q6
      obtain ⟨x5_3,x6_3,rfl,rfl,HA,HK3,HB⟩:=hrel;cases gk with
      | zero=>exact absurd HA.out (by simp [j1c.l2])
      | succ k3 =>
       have H:=HA.out;clear HA;simp only [j1c.l2] at H;by_cases c27:x6_3>0
       rotate_left
       ·rw [if_neg c27] at H;have c27b0:decide (0<x6_3)=false:=decide_eq_false c27;clear c27;by_cases c41:(Int.tmod x5_3 2)=0
        ·rw [if_pos c41] at H;have c41b0:((Int.tmod x5_3 2) == 0)=true:=beq_iff_eq.mpr c41;have c41b1:((Int.tmod x5_3 2) != 0)=false:=bne_eq_false_iff_eq.mpr c41;clear c41;have H':=mk0 H;clear H;go_wp2;(try simp only [← hji22]);go_roundg k3
         case measure=>have:=HK1.out;have:=HK2.out;have:=HK3.out;omega
         case rel=>(try simp only [hji22]);exact ⟨(wrap64 (x4_2+1)),zq17,(by first|exact H'|(simp only [← hji22] at H' ⊢; exact H')),⟨by have:=HK1.out;have:=HK2.out;have:=HK3.out;omega⟩,⟨by repeat (first|(with_reducible first|exact HB.out|apply j1i|apply j1d|apply j1h)|exact HB.out)⟩⟩
        rw [if_neg c41] at H;have c41b0:((Int.tmod x5_3 2) == 0)=false:=beq_eq_false_iff_ne.mpr c41;have c41b1:((Int.tmod x5_3 2) != 0)=true:=bne_iff_ne.mpr c41;obtain ⟨ji42,hji42⟩:∃ j_:Int,(wrap64 (x4_2+1))=j_:=⟨_,rfl⟩;replace H:(if 0≤(ji42) then (if (ji42)≤(a0.size:Int) then (if 1≤x4_2 then (if x4_2≤(a0.size:Int) then ((j1q.f (a0.extract 1 (x4_2:Int).toNat)).bind fun t104=>(some (a0.extract 0 ((ji42):Int).toNat,t104))) else (none)) else (none)) else (none)) else (none))=some (r1,r2):=by first|(rw [hji42] at H;exact H)|(simp only [hji42] at H ⊢; exact H)
        have hji42w:(IntKind.i64.wrap (x4_2+1))=ji42:=(i64_w _).trans hji42;by_cases c43:0≤(ji42)
        rotate_left
        ·rw [if_neg c43] at H;exact absurd H (by simp)
        rw [if_pos c43] at H;have c43b0:=eq_true c43;have c43b1:decide (0≤(ji42))=true:=decide_eq_true c43;clear c43;by_cases c44:(ji42)≤(a0.size:Int)
        rotate_left
        ·rw [if_neg c44] at H;exact absurd H (by simp)
        rw [if_pos c44] at H;have c44b0:=eq_true c44;have c44b1:decide ((ji42)≤(a0.size:Int))=true:=decide_eq_true c44;clear c44;by_cases c45:1≤x4_2
        rotate_left
        ·rw [if_neg c45] at H;exact absurd H (by simp)
        rw [if_pos c45] at H;have c45b0:=eq_true c45;have c45b1:decide (1≤x4_2)=true:=decide_eq_true c45;clear c45;by_cases c46:x4_2≤(a0.size:Int)
        rotate_left
        ·rw [if_neg c46] at H;exact absurd H (by simp)
        rw [if_pos c46] at H;have c46b0:=eq_true c46;have c46b1:decide (x4_2≤(a0.size:Int))=true:=decide_eq_true c46;clear c46;replace H:=Option.bind_eq_some_iff.mp H;obtain ⟨t104,A470,H⟩:=H;replace H:(some (a0.extract 0 ((ji42):Int).toNat,t104))=some (r1,r2):=H;have A47:=mk0 A470;clear A470;simp only [Option.some.injEq,Prod.mk.injEq] at H;obtain ⟨rfl,rfl⟩:=H
        try go_wp2
        have n0_:=mk0 (j1h HB.out);clear HB;have HB:=n0_;clear n0_;refine start_ (n:=10) (S:=fun w'=>True) (ds:=[]) #[false,false,false,false,false,false,false,false,false,false] zq12 rfl rfl trivial (fun hHeld=>?_);refine with_tabW j1c.tab21 j1c.bits21 (fun HT_ HW_=>?_)
        generalize wr.drew=w48 at HB hHeld ⊢
        refine pure_ (i:=0) (N:=some 69) (v:=?_) (a':=?_) #[true,false,false,false,false,false,false,false,false,false] rfl rfl (j1y HT_.out zq12) (fun _ _ _ h=>h) (Or.inl ⟨by rfl,?_⟩) ?_ ?_;rotate_left
        ·exact zl1
        rotate_left
        ·exact zl0
        refine pure_ (i:=1) (N:=some 70) (v:=?_) (a':=?_) #[true,true,false,false,false,false,false,false,false,false] rfl rfl (j1y HT_.out zq12) (fun _ _ _ h=>h) (Or.inl ⟨by rfl,?_⟩) ?_ ?_;rotate_left
        ·exact zl1
        rotate_left
        ·exact zl0
        refine pure_ (i:=2) (N:=some 71) (v:=?_) (a':=?_) #[true,true,true,false,false,false,false,false,false,false] rfl rfl (j1y HT_.out zq12) (fun _ _ _ h=>h) (Or.inl ⟨by rfl,?_⟩) ?_ ?_;rotate_left
        ·exact zl1
        rotate_left
        ·exact zl0
        refine pure_ (i:=3) (N:=some 72) (v:=?_) (a':=?_) #[true,true,true,true,false,false,false,false,false,false] rfl rfl (j1y HT_.out zq12) (fun _ _ _ h=>h) (Or.inl ⟨by rfl,?_⟩) ?_ ?_;rotate_left
        ·exact zl1
        rotate_left
        ·exact zl0
        refine pure_ (i:=4) (N:=some 73) (v:=?_) (a':=?_) #[true,true,true,true,true,false,false,false,false,false] rfl rfl (j1y HT_.out zq12) (fun _ _ _ h=>h) (Or.inl ⟨by rfl,?_⟩) ?_ ?_;rotate_left
        ·exact zl1
        rotate_left
        ·exact zl0
        refine pure_ (i:=5) (N:=some 74) (v:=?_) (a':=?_) #[true,true,true,true,true,true,false,false,false,false] rfl rfl (j1y HT_.out zq12) (fun _ _ _ h=>h) (Or.inl ⟨by rfl,?_⟩) ?_ ?_;rotate_left
        ·exact zl1
        rotate_left
        ·exact zl0
        refine pure_ (i:=6) (N:=some 75) (v:=?_) (a':=?_) #[true,true,true,true,true,true,true,false,false,false] rfl rfl (j1y HT_.out zq12) (fun _ _ _ h=>h) (Or.inl ⟨by rfl,?_⟩) ?_ ?_;rotate_left
        ·exact zl1
        rotate_left
        ·exact zl0
        refine one_ (i:=7) (N:=some 76) #[true,true,true,true,true,true,true,true,false,false] rfl rfl (one_of HT_.out zq12) zq24 (fun K hK=>?_);refine goes_ Tryd.func23 zq12 rfl #[.string (a0.extract 1 (x4_2:Int).toNat)] (by rfl) rfl rfl zq3 ?_;with_reducible refine (j1q.calls (a0.extract 1 (x4_2:Int).toNat) t104 _ ?side1 A47.out).mono ?_
        (case side1=>exact zq11);rintro e w49 ⟨rfl,hb⟩;refine ⟨_,rfl,?_⟩;have n0_:=mk0 (j1r zq0 hb);clear HB;have HB:=n0_;clear n0_;(try clear hb);(try clear hb2);(try clear hk);(try clear hi);refine hK.out _ _ trivial (fun hHeld=>?_);clear hK K;refine norm_ (a':=?_) ?_ ?_;rotate_left
        ·show Act.put _ (some 76) _=_
         exact zl0
        refine pure_ (i:=8) (N:=some 2) (v:=?_) (a':=?_) #[true,true,true,true,true,true,true,true,true,false] rfl rfl (j1y HT_.out zq12) (fun _ _ _ h=>h) (Or.inl ⟨by rfl,?_⟩) ?_ ?_;rotate_left
        ·exact zl1
        rotate_left
        ·exact zl0
        refine pure_ (i:=9) (N:=some 3) (v:=?_) (a':=?_) #[true,true,true,true,true,true,true,true,true,true] rfl rfl (j1y HT_.out zq12) (fun _ _ _ h=>h) (Or.inl ⟨by rfl,?_⟩) ?_ ?_;rotate_left
        ·exact zl1
        rotate_left
        ·exact zl0
        refine done_ (done_of HT_.out zq12) ?_
        try go_wp2
        go_ret2;exact ⟨by first|rfl|(simp [j1t,j1s]<;>rfl)|(simp only [← hji22,← hji42];first|rfl|(simp [j1t,j1s]<;>rfl))|(simp [*, j1t,j1s]<;>rfl),by repeat (first|(with_reducible first|exact HB.out|apply j1i|apply j1d|apply j1h)|exact HB.out)⟩
       rw [if_pos c27] at H;have c27b0:decide (0<x6_3)=true:=decide_eq_true c27;clear c27;by_cases c28:0≤x6_3
       rotate_left
       ·rw [if_neg c28] at H;exact absurd H (by simp)
       rw [if_pos c28] at H;have c28b0:decide (0≤x6_3)=true:=decide_eq_true c28;clear c28;by_cases c29:x6_3<(a0.size:Int)
       rotate_left
       ·rw [if_neg c29] at H;exact absurd H (by simp)
       rw [if_pos c29] at H;have c29b0:decide (x6_3<(a0.size:Int))=true:=decide_eq_true c29;clear c29;by_cases c31:(bt a0 x6_3)=92
       ·rw [if_pos c31] at H;have c31b0:((bt a0 x6_3) == 92)=true:=beq_iff_eq.mpr c31;have c31b1:((bt a0 x6_3) != 92)=false:=bne_eq_false_iff_eq.mpr c31;clear c31;have H':=mk0 H;clear H;have p30:0≤(x6_3:Int):=of_decide_eq_true zq1;have q30:x6_3<(a0.size:Int):=of_decide_eq_true zq1;have hx30:=bt_at a0 x6_3;replace p30:=eq_true p30;replace q30:=eq_true q30;go_wp2;go_roundg k3
        case measure=>have:=HK1.out;have:=HK2.out;have:=HK3.out;omega
        case rel=>exact ⟨(wrap64 (x5_3+1)),(wrap64 (x6_3 - 1)),zq17,zq17,H',⟨by have:=HK1.out;have:=HK2.out;have:=HK3.out;omega⟩,⟨by repeat (first|(with_reducible first|exact HB.out|apply j1i|apply j1d|apply j1h)|exact HB.out)⟩⟩
       rw [if_neg c31] at H;have c31b0:((bt a0 x6_3) == 92)=false:=beq_eq_false_iff_ne.mpr c31;have c31b1:((bt a0 x6_3) != 92)=true:=bne_iff_ne.mpr c31;by_cases c32:(Int.tmod x5_3 2)=0
       ·rw [if_pos c32] at H;have c32b0:((Int.tmod x5_3 2) == 0)=true:=beq_iff_eq.mpr c32;have c32b1:((Int.tmod x5_3 2) != 0)=false:=bne_eq_false_iff_eq.mpr c32;clear c32;have H':=mk0 H;clear H;have p30:0≤(x6_3:Int):=of_decide_eq_true zq1;have q30:x6_3<(a0.size:Int):=of_decide_eq_true zq1;have hx30:=bt_at a0 x6_3;replace p30:=eq_true p30;replace q30:=eq_true q30;go_wp2;(try simp only [← hji22]);go_roundg k3
        case measure=>have:=HK1.out;have:=HK2.out;have:=HK3.out;omega
        case rel=>(try simp only [hji22]);exact ⟨(wrap64 (x4_2+1)),zq17,(by first|exact H'|(simp only [← hji22] at H' ⊢; exact H')),⟨by have:=HK1.out;have:=HK2.out;have:=HK3.out;omega⟩,⟨by repeat (first|(with_reducible first|exact HB.out|apply j1i|apply j1d|apply j1h)|exact HB.out)⟩⟩
       rw [if_neg c32] at H;have c32b0:((Int.tmod x5_3 2) == 0)=false:=beq_eq_false_iff_ne.mpr c32;have c32b1:((Int.tmod x5_3 2) != 0)=true:=bne_iff_ne.mpr c32;obtain ⟨ji33,hji33⟩:∃ j_:Int,(wrap64 (x4_2+1))=j_:=⟨_,rfl⟩;replace H:(if 0≤(ji33) then (if (ji33)≤(a0.size:Int) then (if 1≤x4_2 then (if x4_2≤(a0.size:Int) then ((j1q.f (a0.extract 1 (x4_2:Int).toNat)).bind fun t103=>(some (a0.extract 0 ((ji33):Int).toNat,t103))) else (none)) else (none)) else (none)) else (none))=some (r1,r2):=by first|(rw [hji33] at H;exact H)|(simp only [hji33] at H ⊢; exact H)
       have hji33w:(IntKind.i64.wrap (x4_2+1))=ji33:=(i64_w _).trans hji33;by_cases c34:0≤(ji33)
       rotate_left
       ·rw [if_neg c34] at H;exact absurd H (by simp)
       rw [if_pos c34] at H;have c34b0:=eq_true c34;have c34b1:decide (0≤(ji33))=true:=decide_eq_true c34;clear c34;by_cases c35:(ji33)≤(a0.size:Int)
       rotate_left
       ·rw [if_neg c35] at H;exact absurd H (by simp)
       rw [if_pos c35] at H;have c35b0:=eq_true c35;have c35b1:decide ((ji33)≤(a0.size:Int))=true:=decide_eq_true c35;clear c35;by_cases c36:1≤x4_2
       rotate_left
       ·rw [if_neg c36] at H;exact absurd H (by simp)
       rw [if_pos c36] at H;have c36b0:=eq_true c36;have c36b1:decide (1≤x4_2)=true:=decide_eq_true c36;clear c36;by_cases c37:x4_2≤(a0.size:Int)
       rotate_left
       ·rw [if_neg c37] at H;exact absurd H (by simp)
       rw [if_pos c37] at H;have c37b0:=eq_true c37;have c37b1:decide (x4_2≤(a0.size:Int))=true:=decide_eq_true c37;clear c37;replace H:=Option.bind_eq_some_iff.mp H;obtain ⟨t103,A380,H⟩:=H;replace H:(some (a0.extract 0 ((ji33):Int).toNat,t103))=some (r1,r2):=H;have A38:=mk0 A380;clear A380;simp only [Option.some.injEq,Prod.mk.injEq] at H;obtain ⟨rfl,rfl⟩:=H;have p30:0≤(x6_3:Int):=of_decide_eq_true zq1;have q30:x6_3<(a0.size:Int):=of_decide_eq_true zq1;have hx30:=bt_at a0 x6_3;replace p30:=eq_true p30;replace q30:=eq_true q30
       try go_wp2
       have n0_:=mk0 (j1h HB.out);clear HB;have HB:=n0_;clear n0_;refine start_ (n:=10) (S:=fun w'=>True) (ds:=[]) #[false,false,false,false,false,false,false,false,false,false] zq12 rfl rfl trivial (fun hHeld=>?_);refine with_tabW j1c.tab21 j1c.bits21 (fun HT_ HW_=>?_)
       generalize wr.drew=w39 at HB hHeld ⊢
       refine pure_ (i:=0) (N:=some 69) (v:=?_) (a':=?_) #[true,false,false,false,false,false,false,false,false,false] rfl rfl (j1y HT_.out zq12) (fun _ _ _ h=>h) (Or.inl ⟨by rfl,?_⟩) ?_ ?_;rotate_left
       ·exact zl1
       rotate_left
       ·exact zl0
       refine pure_ (i:=1) (N:=some 70) (v:=?_) (a':=?_) #[true,true,false,false,false,false,false,false,false,false] rfl rfl (j1y HT_.out zq12) (fun _ _ _ h=>h) (Or.inl ⟨by rfl,?_⟩) ?_ ?_;rotate_left
       ·exact zl1
       rotate_left
       ·exact zl0
       refine pure_ (i:=2) (N:=some 71) (v:=?_) (a':=?_) #[true,true,true,false,false,false,false,false,false,false] rfl rfl (j1y HT_.out zq12) (fun _ _ _ h=>h) (Or.inl ⟨by rfl,?_⟩) ?_ ?_;rotate_left
       ·exact zl1
       rotate_left
       ·exact zl0
       refine pure_ (i:=3) (N:=some 72) (v:=?_) (a':=?_) #[true,true,true,true,false,false,false,false,false,false] rfl rfl (j1y HT_.out zq12) (fun _ _ _ h=>h) (Or.inl ⟨by rfl,?_⟩) ?_ ?_;rotate_left
       ·exact zl1
       rotate_left
       ·exact zl0
       refine pure_ (i:=4) (N:=some 73) (v:=?_) (a':=?_) #[true,true,true,true,true,false,false,false,false,false] rfl rfl (j1y HT_.out zq12) (fun _ _ _ h=>h) (Or.inl ⟨by rfl,?_⟩) ?_ ?_;rotate_left
       ·exact zl1
       rotate_left
       ·exact zl0
       refine pure_ (i:=5) (N:=some 74) (v:=?_) (a':=?_) #[true,true,true,true,true,true,false,false,false,false] rfl rfl (j1y HT_.out zq12) (fun _ _ _ h=>h) (Or.inl ⟨by rfl,?_⟩) ?_ ?_;rotate_left
       ·exact zl1
       rotate_left
       ·exact zl0
       refine pure_ (i:=6) (N:=some 75) (v:=?_) (a':=?_) #[true,true,true,true,true,true,true,false,false,false] rfl rfl (j1y HT_.out zq12) (fun _ _ _ h=>h) (Or.inl ⟨by rfl,?_⟩) ?_ ?_;rotate_left
       ·exact zl1
       rotate_left
       ·exact zl0
       refine one_ (i:=7) (N:=some 76) #[true,true,true,true,true,true,true,true,false,false] rfl rfl (one_of HT_.out zq12) zq24 (fun K hK=>?_);refine goes_ Tryd.func23 zq12 rfl #[.string (a0.extract 1 (x4_2:Int).toNat)] (by rfl) rfl rfl zq3 ?_;with_reducible refine (j1q.calls (a0.extract 1 (x4_2:Int).toNat) t103 _ ?side1 A38.out).mono ?_
       (case side1=>exact zq11);rintro e w40 ⟨rfl,hb⟩;refine ⟨_,rfl,?_⟩;have n0_:=mk0 (j1r zq0 hb);clear HB;have HB:=n0_;clear n0_;(try clear hb);(try clear hb2);(try clear hk);(try clear hi);refine hK.out _ _ trivial (fun hHeld=>?_);clear hK K;refine norm_ (a':=?_) ?_ ?_;rotate_left
       ·show Act.put _ (some 76) _=_
        exact zl0
       refine pure_ (i:=8) (N:=some 2) (v:=?_) (a':=?_) #[true,true,true,true,true,true,true,true,true,false] rfl rfl (j1y HT_.out zq12) (fun _ _ _ h=>h) (Or.inl ⟨by rfl,?_⟩) ?_ ?_;rotate_left
       ·exact zl1
       rotate_left
       ·exact zl0
       refine pure_ (i:=9) (N:=some 3) (v:=?_) (a':=?_) #[true,true,true,true,true,true,true,true,true,true] rfl rfl (j1y HT_.out zq12) (fun _ _ _ h=>h) (Or.inl ⟨by rfl,?_⟩) ?_ ?_;rotate_left
       ·exact zl1
       rotate_left
       ·exact zl0
       refine done_ (done_of HT_.out zq12) ?_
       try go_wp2
       go_ret2;exact ⟨by first|rfl|(simp [j1t,j1s]<;>rfl)|(simp only [← hji22,← hji33];first|rfl|(simp [j1t,j1s]<;>rfl))|(simp [*, j1t,j1s]<;>rfl),by repeat (first|(with_reducible first|exact HB.out|apply j1i|apply j1d|apply j1h)|exact HB.out)⟩
theorem run_store_float11 (P : Program) (w:World) (a:Addr) (m:Mode) (k:FloatKind) (b:Nat):(store a (.float k b) m).run P w=stored P w a (.float k b) m:=run_store P w a _ m rfl
attribute [local go_sem] run_store_float11
def j1u.l0 : Nat → ByteArray→Int→Int→ByteArray→ByteArray→Nat→Int→Option (Int × ByteArray × ByteArray × Nat × Int × List Int)
  | 0,_,_,_,_,_,_,_=>none
  | k+1,x0,x4,x103000,x103001,x103002,x103003,x103004=>if x4<(x0.size:Int) then (if 0≤x4 then (if (bt x0 x4)=123 then (none) else (if (bt x0 x4)=91 then (none) else (if (bt x0 x4)≤32 then (none) else (if (bt x0 x4)=43 then (none) else (if (bt x0 x4)=45 then (none) else (if (bt x0 x4)=48 then (none) else (if (bt x0 x4)=49 then (none) else (if (bt x0 x4)=50 then (none) else (if (bt x0 x4)=51 then (none) else (if (bt x0 x4)=52 then (none) else (if (bt x0 x4)=53 then (none) else (if (bt x0 x4)=54 then (none) else (if (bt x0 x4)=55 then (none) else (if (bt x0 x4)=56 then (none) else (if (bt x0 x4)=57 then (none) else (if (bt x0 x4)=105 then (none) else (if (bt x0 x4)=73 then (none) else (if (bt x0 x4)=78 then (none) else (if (bt x0 x4)=110 then (none) else (if (bt x0 x4)=116 then (none) else (if (bt x0 x4)=102 then (none) else (if (bt x0 x4)=34 then (if x4≤(x0.size:Int) then ((j1c.f k (x0.extract (x4:Int).toNat x0.size)).bind fun bt103=>((j1w.f 3 bt103.1 bt103.2 x103003 x103004 ([]:List Int)).bind fun t105=>(if t105=true then (some (3,bt103.1,bt103.2,x103003,x4,([]:List Int))) else (some (3,bt103.1,bt103.2,x103003,x103004,([]:List Int)))))) else (none)) else (none))))))))))))))))))))))) else (none)) else (none)
def j1u.f (k : Nat) (a0:ByteArray):Option (Int × ByteArray × ByteArray × Nat × Int × List Int):=j1u.l0 k a0 0 0 (⟨#[]⟩:ByteArray) (⟨#[]⟩:ByteArray) 0 0
theorem j1u.mono_l : ∀ k,(∀ y0 y1 y2 y3 y4 y5 y6,LeO (j1u.l0 k y0 y1 y2 y3 y4 y5 y6) (j1u.l0 (k+1) y0 y1 y2 y3 y4 y5 y6))
 | 0=>fun _ _ _ _ _ _ _ r h=>by simp [j1u.l0] at h
 | k+1=>by
  have ih0:=j1u.mono_l k
  ·intro y0 y1 y2 y3 y4 y5 y6;unfold j1u.l0
   exact zm
theorem j1u.mono : ∀ a0 k,LeO (j1u.f k a0) (j1u.f (k+1) a0):=by
 intro a0 k;have ih0:=j1u.mono_l k;unfold j1u.f
 exact zm
set_option maxHeartbeats 8000000 in
set_option maxRecDepth 100000 in
theorem j1u.calls (k : Nat) (a0:ByteArray) (r1:Int) (r2:ByteArray) (r3:ByteArray) (r4:Nat) (r5:Int) (r6:List Int) (w:World) (hG:Laid w) (h:j1u.f k a0=some (r1,r2,r3,r4,r5,r6)) :
 Calls Tryd.prog 11 #[.string a0] w fun e w'=>∃ v5_:Value,e = .returned (.agg #[.int .i64 r1, .string r2, .string r3, .float .f64 r4, .int .i64 r5,v5_])∧Kd.R (Kd.int .i64) 3 w' w.heap.size (fun _=>True) v5_ r6∧Below w.heap.size w w':=by
 have HG:=mk0 hG;clear hG;have hu36:=Tryd.underlying36;have HB:=mk0 (Below.refl w.heap.size w);have H:(j1u.l0 k a0 0 0 (⟨#[]⟩:ByteArray) (⟨#[]⟩:ByteArray) 0 0)=some (r1,r2,r3,r4,r5,r6):=h;clear h;have H':=mk0 H;clear H;go_enter Tryd.func11,Tryd.ntmps11;go_wp2_with (first|((with_reducible refine j2j (N:=2) rfl ?_);refine box_event ?hg (N:=2) ?hd (cs:=#[.int .i64 0, .string (⟨#[]⟩:ByteArray), .string (⟨#[]⟩:ByteArray), .float .f64 0, .int .i64 0, .slice none 0 0]) (t:=36) ?hr ?_;(case hd=>rfl);(case hg=>rfl);(case hr=>exact zq18);intro gb101 hg w2 hbox hb;have n0_:=mk0 (j1r zq0 hb);have n1_:=mk0 (hbox);have n2_:=mk0 ((zq21:w.heap.size≤gb101));have n3_:=mk0 ((zq21:w.heap.size≤gb101));clear HB;have HB:=n0_;have BK101:=n1_;have GW101:=n2_;have GE101:=n3_;clear n0_ n1_ n2_ n3_;clear hb hbox hg)|((with_reducible refine j2j (N:=3) rfl ?_);refine box_event ?hg (N:=3) ?hd (cs:=#[.int .i64 0, .string (⟨#[]⟩:ByteArray), .string (⟨#[]⟩:ByteArray), .float .f64 0, .int .i64 0, .slice none 0 0]) (t:=36) ?hr ?_;(case hd=>rfl);(case hg=>rfl);(case hr=>exact zq18);intro gb102 hg w3 hbox hb;have n0_:=mk0 (j2g (g:=gb101) (o := .cells #[.int .i64 0, .string (⟨#[]⟩:ByteArray), .string (⟨#[]⟩:ByteArray), .float .f64 0, .int .i64 0, .slice none 0 0] 36 (0,0)) zq10 hb);have n1_:=mk0 (j1r zq8 hb);have n2_:=mk0 (hbox);have n3_:=mk0 ((by rw [hg];exact (j1m zq8):w.heap.size≤gb102));have n4_:=mk0 ((by rw [hg];exact (j1m zq8):w.heap.size≤gb102));have n5_:=mk0 ((by rw [hg];exact Nat.ne_of_lt (blk_lt (g:=gb101) (o := .cells #[.int .i64 0, .string (⟨#[]⟩:ByteArray), .string (⟨#[]⟩:ByteArray), .float .f64 0, .int .i64 0, .slice none 0 0] 36 (0,0)) zq10):gb101≠gb102));have n6_:=mk0 ((by rw [hg];exact Nat.ne_of_gt (blk_lt (g:=gb101) (o := .cells #[.int .i64 0, .string (⟨#[]⟩:ByteArray), .string (⟨#[]⟩:ByteArray), .float .f64 0, .int .i64 0, .slice none 0 0] 36 (0,0)) zq10):gb102≠gb101));clear BK101 HB;have BK101:=n0_;have HB:=n1_;have BK102:=n2_;have GW102:=n3_;have GE102:=n4_;have NB101_102:=n5_;have NB102_101:=n6_;clear n0_ n1_ n2_ n3_ n4_ n5_ n6_;clear hb hbox hg))
 (try simp only [Act.put,List.setIfInBounds_toArray,List.set_cons_zero,List.set_cons_succ]);go_loopg [4] k (fun kq v4 w'=>∃ (x4_1:Int) (x102000_1:Int) (x102001_1:ByteArray) (x102002_1:ByteArray) (x102003_1:Nat) (x102004_1:Int) (x103000_1:Int) (x103001_1:ByteArray) (x103002_1:ByteArray) (x103003_1:Nat),v4 = .int .i64 x4_1∧Aside0 (j1u.l0 kq a0 x4_1 x103000_1 x103001_1 x103002_1 x103003_1 0=some (r1,r2,r3,r4,r5,r6))∧Aside0 (kq≤k)∧Aside0 (w'.heap[gb101]? = some (.cells #[.int .i64 x102000_1, .string x102001_1, .string x102002_1, .float .f64 x102003_1, .int .i64 x102004_1,(.slice none 0 0)] 36 (0,0)))∧Aside0 (w'.heap[gb102]? = some (.cells #[.int .i64 x103000_1, .string x103001_1, .string x103002_1, .float .f64 x103003_1, .int .i64 0,(.slice none 0 0)] 36 (0,0)))∧Aside0 (Below w.heap.size w w'))
 case atStart=>exact ⟨(0),(0),((⟨#[]⟩:ByteArray)),((⟨#[]⟩:ByteArray)),(0),(0),(0),((⟨#[]⟩:ByteArray)),((⟨#[]⟩:ByteArray)),(0),zq6,H',⟨Nat.le_refl _⟩,⟨by (with_reducible repeat (first|refine j1j ?_ _|refine j1n ?_|refine j1k ?_ _));exact BK101.out⟩,⟨by (with_reducible repeat (first|refine j1j ?_ _|refine j1n ?_|refine j1k ?_ _));exact BK102.out⟩,⟨by repeat (first|(with_reducible first|exact HB.out|apply j1i|apply j1d|apply j1h|refine j2e ?_ GE101.out|refine j2e ?_ GE102.out)|exact HB.out)⟩⟩
 case round =>
  clear H'
  try clear c1
  try clear p2
  obtain ⟨x4_1,x102000_1,x102001_1,x102002_1,x102003_1,x102004_1,x103000_1,x103001_1,x103002_1,x103003_1,rfl,HA,HK1,BK101,BK102,HB⟩:=hrel;cases gk with
  | zero=>exact absurd HA.out (by simp [j1u.l0])
  | succ k1 =>
   have H:=HA.out;clear HA;simp only [j1u.l0] at H;by_cases c4:x4_1<(a0.size:Int)
   rotate_left
   ·rw [if_neg c4] at H;exact absurd H (by simp)
   rw [if_pos c4] at H;have c4b0:decide (x4_1<(a0.size:Int))=true:=decide_eq_true c4;clear c4;by_cases c5:0≤x4_1
   rotate_left
   ·rw [if_neg c5] at H;exact absurd H (by simp)
   rw [if_pos c5] at H;have c5b0:decide (0≤x4_1)=true:=decide_eq_true c5;clear c5;by_cases c7:(bt a0 x4_1)=123
   ·rw [if_pos c7] at H;exact absurd H (by simp)
   rw [if_neg c7] at H;have c7b0:((bt a0 x4_1) == 123)=false:=beq_eq_false_iff_ne.mpr c7;have c7b1:((bt a0 x4_1) != 123)=true:=bne_iff_ne.mpr c7;by_cases c9:(bt a0 x4_1)=91
   ·rw [if_pos c9] at H;exact absurd H (by simp)
   rw [if_neg c9] at H;have c9b0:((bt a0 x4_1) == 91)=false:=beq_eq_false_iff_ne.mpr c9;have c9b1:((bt a0 x4_1) != 91)=true:=bne_iff_ne.mpr c9;by_cases c11:(bt a0 x4_1)≤32
   ·rw [if_pos c11] at H;exact absurd H (by simp)
   rw [if_neg c11] at H;have c11b0:decide ((bt a0 x4_1)≤32)=false:=decide_eq_false c11;clear c11;by_cases c13:(bt a0 x4_1)=43
   ·rw [if_pos c13] at H;exact absurd H (by simp)
   rw [if_neg c13] at H;have c13b0:((bt a0 x4_1) == 43)=false:=beq_eq_false_iff_ne.mpr c13;have c13b1:((bt a0 x4_1) != 43)=true:=bne_iff_ne.mpr c13;by_cases c14:(bt a0 x4_1)=45
   ·rw [if_pos c14] at H;exact absurd H (by simp)
   rw [if_neg c14] at H;have c14b0:((bt a0 x4_1) == 45)=false:=beq_eq_false_iff_ne.mpr c14;have c14b1:((bt a0 x4_1) != 45)=true:=bne_iff_ne.mpr c14;by_cases c15:(bt a0 x4_1)=48
   ·rw [if_pos c15] at H;exact absurd H (by simp)
   rw [if_neg c15] at H;have c15b0:((bt a0 x4_1) == 48)=false:=beq_eq_false_iff_ne.mpr c15;have c15b1:((bt a0 x4_1) != 48)=true:=bne_iff_ne.mpr c15;by_cases c16:(bt a0 x4_1)=49
   ·rw [if_pos c16] at H;exact absurd H (by simp)
   rw [if_neg c16] at H;have c16b0:((bt a0 x4_1) == 49)=false:=beq_eq_false_iff_ne.mpr c16;have c16b1:((bt a0 x4_1) != 49)=true:=bne_iff_ne.mpr c16;by_cases c17:(bt a0 x4_1)=50
   ·rw [if_pos c17] at H;exact absurd H (by simp)
   rw [if_neg c17] at H;have c17b0:((bt a0 x4_1) == 50)=false:=beq_eq_false_iff_ne.mpr c17;have c17b1:((bt a0 x4_1) != 50)=true:=bne_iff_ne.mpr c17;by_cases c18:(bt a0 x4_1)=51
   ·rw [if_pos c18] at H;exact absurd H (by simp)
   rw [if_neg c18] at H;have c18b0:((bt a0 x4_1) == 51)=false:=beq_eq_false_iff_ne.mpr c18;have c18b1:((bt a0 x4_1) != 51)=true:=bne_iff_ne.mpr c18;by_cases c19:(bt a0 x4_1)=52
   ·rw [if_pos c19] at H;exact absurd H (by simp)
   rw [if_neg c19] at H;have c19b0:((bt a0 x4_1) == 52)=false:=beq_eq_false_iff_ne.mpr c19;have c19b1:((bt a0 x4_1) != 52)=true:=bne_iff_ne.mpr c19;by_cases c20:(bt a0 x4_1)=53
   ·rw [if_pos c20] at H;exact absurd H (by simp)
   rw [if_neg c20] at H;have c20b0:((bt a0 x4_1) == 53)=false:=beq_eq_false_iff_ne.mpr c20;have c20b1:((bt a0 x4_1) != 53)=true:=bne_iff_ne.mpr c20;by_cases c21:(bt a0 x4_1)=54
   ·rw [if_pos c21] at H;exact absurd H (by simp)
   rw [if_neg c21] at H;have c21b0:((bt a0 x4_1) == 54)=false:=beq_eq_false_iff_ne.mpr c21;have c21b1:((bt a0 x4_1) != 54)=true:=bne_iff_ne.mpr c21;by_cases c22:(bt a0 x4_1)=55
   ·rw [if_pos c22] at H;exact absurd H (by simp)
   rw [if_neg c22] at H;have c22b0:((bt a0 x4_1) == 55)=false:=beq_eq_false_iff_ne.mpr c22;have c22b1:((bt a0 x4_1) != 55)=true:=bne_iff_ne.mpr c22;by_cases c23:(bt a0 x4_1)=56
   ·rw [if_pos c23] at H;exact absurd H (by simp)
   rw [if_neg c23] at H;have c23b0:((bt a0 x4_1) == 56)=false:=beq_eq_false_iff_ne.mpr c23;have c23b1:((bt a0 x4_1) != 56)=true:=bne_iff_ne.mpr c23;by_cases c24:(bt a0 x4_1)=57
   ·rw [if_pos c24] at H;exact absurd H (by simp)
   rw [if_neg c24] at H;have c24b0:((bt a0 x4_1) == 57)=false:=beq_eq_false_iff_ne.mpr c24;have c24b1:((bt a0 x4_1) != 57)=true:=bne_iff_ne.mpr c24;by_cases c25:(bt a0 x4_1)=105
   ·rw [if_pos c25] at H;exact absurd H (by simp)
   rw [if_neg c25] at H;have c25b0:((bt a0 x4_1) == 105)=false:=beq_eq_false_iff_ne.mpr c25;have c25b1:((bt a0 x4_1) != 105)=true:=bne_iff_ne.mpr c25;by_cases c26:(bt a0 x4_1)=73
   ·rw [if_pos c26] at H;exact absurd H (by simp)
   rw [if_neg c26] at H;have c26b0:((bt a0 x4_1) == 73)=false:=beq_eq_false_iff_ne.mpr c26;have c26b1:((bt a0 x4_1) != 73)=true:=bne_iff_ne.mpr c26;by_cases c27:(bt a0 x4_1)=78
   ·rw [if_pos c27] at H;exact absurd H (by simp)
   rw [if_neg c27] at H;have c27b0:((bt a0 x4_1) == 78)=false:=beq_eq_false_iff_ne.mpr c27;have c27b1:((bt a0 x4_1) != 78)=true:=bne_iff_ne.mpr c27;by_cases c28:(bt a0 x4_1)=110
   ·rw [if_pos c28] at H;exact absurd H (by simp)
   rw [if_neg c28] at H;have c28b0:((bt a0 x4_1) == 110)=false:=beq_eq_false_iff_ne.mpr c28;have c28b1:((bt a0 x4_1) != 110)=true:=bne_iff_ne.mpr c28;by_cases c29:(bt a0 x4_1)=116
   ·rw [if_pos c29] at H;exact absurd H (by simp)
   rw [if_neg c29] at H;have c29b0:((bt a0 x4_1) == 116)=false:=beq_eq_false_iff_ne.mpr c29;have c29b1:((bt a0 x4_1) != 116)=true:=bne_iff_ne.mpr c29;by_cases c30:(bt a0 x4_1)=102
   ·rw [if_pos c30] at H;exact absurd H (by simp)
   rw [if_neg c30] at H;have c30b0:((bt a0 x4_1) == 102)=false:=beq_eq_false_iff_ne.mpr c30;have c30b1:((bt a0 x4_1) != 102)=true:=bne_iff_ne.mpr c30;by_cases c31:(bt a0 x4_1)=34
   rotate_left
   ·rw [if_neg c31] at H;exact absurd H (by simp)
   rw [if_pos c31] at H;have c31b0:((bt a0 x4_1) == 34)=true:=beq_iff_eq.mpr c31;have c31b1:((bt a0 x4_1) != 34)=false:=bne_eq_false_iff_eq.mpr c31;clear c31;have c32b0:=eq_true (of_decide_eq_true zq1:0≤x4_1);by_cases c33:x4_1≤(a0.size:Int)
   rotate_left
   ·rw [if_neg c33] at H;exact absurd H (by simp)
   rw [if_pos c33] at H;have c33b0:=eq_true c33;have c33b1:decide (x4_1≤(a0.size:Int))=true:=decide_eq_true c33;clear c33;replace H:=Option.bind_eq_some_iff.mp H;obtain ⟨⟨t103,t104⟩,A340,H⟩:=H;replace H:((j1w.f 3 t103 t104 x103003_1 0 ([]:List Int)).bind fun t105=>(if t105=true then (some (3,t103,t104,x103003_1,x4_1,([]:List Int))) else (some (3,t103,t104,x103003_1,0,([]:List Int)))))=some (r1,r2,r3,r4,r5,r6):=H;have A34:=mk0 A340;clear A340;replace H:=Option.bind_eq_some_iff.mp H;obtain ⟨t105,A350,H⟩:=H;replace H:(if t105=true then (some (3,t103,t104,x103003_1,x4_1,([]:List Int))) else (some (3,t103,t104,x103003_1,0,([]:List Int))))=some (r1,r2,r3,r4,r5,r6):=H;have A35:=mk0 A350;clear A350;by_cases c36:t105=true
   rotate_left
   ·replace c36:=Bool.eq_false_iff.mpr c36;subst c36;have H1:(some (3,t103,t104,x103003_1,0,([]:List Int)))=some (r1,r2,r3,r4,r5,r6):=by rw [if_neg (show ¬ (false=true) by decide)] at H;exact H
    clear H;have H:=H1;clear H1;simp only [Option.some.injEq,Prod.mk.injEq] at H;obtain ⟨rfl,rfl,rfl,rfl,rfl,rfl⟩:=H;have p6:0≤(x4_1:Int):=of_decide_eq_true zq1;have q6:x4_1<(a0.size:Int):=of_decide_eq_true zq1;have hx6:=bt_at a0 x4_1;replace p6:=eq_true p6;replace q6:=eq_true q6;have p8:0≤(x4_1:Int):=of_decide_eq_true zq1;have q8:x4_1<(a0.size:Int):=of_decide_eq_true zq1;have hx8:=bt_at a0 x4_1;replace p8:=eq_true p8;replace q8:=eq_true q8;have p10:0≤(x4_1:Int):=of_decide_eq_true zq1;have q10:x4_1<(a0.size:Int):=of_decide_eq_true zq1;have hx10:=bt_at a0 x4_1;replace p10:=eq_true p10;replace q10:=eq_true q10;have p12:0≤(x4_1:Int):=of_decide_eq_true zq1;have q12:x4_1<(a0.size:Int):=of_decide_eq_true zq1;have hx12:=bt_at a0 x4_1;replace p12:=eq_true p12;replace q12:=eq_true q12;have hnb44:=NB102_101.out;have hnc44:=NB101_102.out;have hcz45_0:wr.cell? ⟨gb102,0,none⟩=some (.int .i64 x103000_1):=(j1g BK102.out 0).trans rfl;have hcz45_1:wr.cell? ⟨gb102,1,none⟩=some (.string x103001_1):=(j1g BK102.out 1).trans rfl;have hcz45_2:wr.cell? ⟨gb102,2,none⟩=some (.string x103002_1):=(j1g BK102.out 2).trans rfl;have hcz45_3:wr.cell? ⟨gb102,3,none⟩=some (.float .f64 x103003_1):=(j1g BK102.out 3).trans rfl;have hcz45_4:wr.cell? ⟨gb102,4,none⟩=some (.int .i64 0):=(j1g BK102.out 4).trans rfl;have hcz45_5:wr.cell? ⟨gb102,5,none⟩=some (.slice none 0 0):=(j1g BK102.out 5).trans rfl;have hfz45_0:=j1e BK102.out 0;have hfz45_1:=j1e BK102.out 1;have hfz45_2:=j1e BK102.out 2;have hfz45_3:=j1e BK102.out 3;have hfz45_4:=j1e BK102.out 4;have hfz45_5:=j1e BK102.out 5;go_wp2_with (first|((with_reducible refine j1z (f:=20) rfl ?_);refine j2l (some 113) rfl rfl Tryd.func20 zq12 rfl #[.string (a0.extract (x4_1:Int).toNat a0.size)] rfl zq3 ?_;(with_reducible refine (j1c.calls k1 (a0.extract (x4_1:Int).toNat a0.size) t103 t104 _ ?side1 A34.out).mono ?_);(case side1=>first|exact HG.out|exact Laid.below HG.out zq9);rintro e w46 ⟨rfl,hb⟩;refine ⟨_,rfl,?_⟩;have n0_:=mk0 (j2g (g:=gb101) (o := .cells #[.int .i64 x102000_1, .string x102001_1, .string x102002_1, .float .f64 x102003_1, .int .i64 x102004_1, .slice none 0 0] 36 (0,0)) zq23 hb);have n1_:=mk0 (j2g (g:=gb102) (o := .cells #[.int .i64 3, .string x103001_1, .string x103002_1, .float .f64 x103003_1, .int .i64 0, .slice none 0 0] 36 (0,0)) zq20 hb);have n2_:=mk0 (j1r zq9 hb);clear BK101 BK102 HB;have BK101:=n0_;have BK102:=n1_;have HB:=n2_;clear n0_ n1_ n2_;(try clear hb);(try clear hb2);(try clear hk);(try clear hi);have hcz47_0:w46.cell? ⟨gb102,0,none⟩=some (.int .i64 3):=(j1g BK102.out 0).trans rfl;have hcz47_1:w46.cell? ⟨gb102,1,none⟩=some (.string x103001_1):=(j1g BK102.out 1).trans rfl;have hcz47_2:w46.cell? ⟨gb102,2,none⟩=some (.string x103002_1):=(j1g BK102.out 2).trans rfl;have hcz47_3:w46.cell? ⟨gb102,3,none⟩=some (.float .f64 x103003_1):=(j1g BK102.out 3).trans rfl;have hcz47_4:w46.cell? ⟨gb102,4,none⟩=some (.int .i64 0):=(j1g BK102.out 4).trans rfl;have hcz47_5:w46.cell? ⟨gb102,5,none⟩=some (.slice none 0 0):=(j1g BK102.out 5).trans rfl;have hfz47_0:=j1e BK102.out 0;have hfz47_1:=j1e BK102.out 1;have hfz47_2:=j1e BK102.out 2;have hfz47_3:=j1e BK102.out 3;have hfz47_4:=j1e BK102.out 4;have hfz47_5:=j1e BK102.out 5)|((with_reducible refine j1z (f:=17) rfl ?_);refine j2l (some 119) rfl rfl Tryd.func17 zq12 rfl #[.agg #[.int .i64 3, .string t103, .string t104, .float .f64 x103003_1, .int .i64 0, .slice none 0 0]] rfl zq3 ?_;(refine (j1w.calls 3 t103 t104 x103003_1 0 _ _ ([]:List Int) false _ ?side1 ?side2 A35.out).mono ?_);(case side1=>exact Kd.C_nil _ _);(case side2=>exact Nat.le_refl _);rintro e w48 ⟨rfl,hb⟩;refine ⟨_,rfl,?_⟩;have n0_:=mk0 (j2g (g:=gb101) (o := .cells #[.int .i64 x102000_1, .string x102001_1, .string x102002_1, .float .f64 x102003_1, .int .i64 x102004_1, .slice none 0 0] 36 (0,0)) zq19 hb);have n1_:=mk0 (j2g (g:=gb102) (o := .cells #[.int .i64 3, .string t103, .string t104, .float .f64 x103003_1, .int .i64 0, .slice none 0 0] 36 (0,0)) zq14 hb);have n2_:=mk0 (j1r zq9 hb);clear BK101 BK102 HB;have BK101:=n0_;have BK102:=n1_;have HB:=n2_;clear n0_ n1_ n2_;(try clear hb);(try clear hb2);(try clear hk);(try clear hi);have hcz49_0:w48.cell? ⟨gb102,0,none⟩=some (.int .i64 3):=(j1g BK102.out 0).trans rfl;have hcz49_1:w48.cell? ⟨gb102,1,none⟩=some (.string t103):=(j1g BK102.out 1).trans rfl;have hcz49_2:w48.cell? ⟨gb102,2,none⟩=some (.string t104):=(j1g BK102.out 2).trans rfl;have hcz49_3:w48.cell? ⟨gb102,3,none⟩=some (.float .f64 x103003_1):=(j1g BK102.out 3).trans rfl;have hcz49_4:w48.cell? ⟨gb102,4,none⟩=some (.int .i64 0):=(j1g BK102.out 4).trans rfl;have hcz49_5:w48.cell? ⟨gb102,5,none⟩=some (.slice none 0 0):=(j1g BK102.out 5).trans rfl;have hfz49_0:=j1e BK102.out 0;have hfz49_1:=j1e BK102.out 1;have hfz49_2:=j1e BK102.out 2;have hfz49_3:=j1e BK102.out 3;have hfz49_4:=j1e BK102.out 4;have hfz49_5:=j1e BK102.out 5;have hcz50_0:w48.cell? ⟨gb101,0,none⟩=some (.int .i64 x102000_1):=(j1g BK101.out 0).trans rfl;have hcz50_1:w48.cell? ⟨gb101,1,none⟩=some (.string x102001_1):=(j1g BK101.out 1).trans rfl;have hcz50_2:w48.cell? ⟨gb101,2,none⟩=some (.string x102002_1):=(j1g BK101.out 2).trans rfl;have hcz50_3:w48.cell? ⟨gb101,3,none⟩=some (.float .f64 x102003_1):=(j1g BK101.out 3).trans rfl;have hcz50_4:w48.cell? ⟨gb101,4,none⟩=some (.int .i64 x102004_1):=(j1g BK101.out 4).trans rfl;have hcz50_5:w48.cell? ⟨gb101,5,none⟩=some (.slice none 0 0):=(j1g BK101.out 5).trans rfl;have hfz50_0:=j1e BK101.out 0;have hfz50_1:=j1e BK101.out 1;have hfz50_2:=j1e BK101.out 2;have hfz50_3:=j1e BK101.out 3;have hfz50_4:=j1e BK101.out 4;have hfz50_5:=j1e BK101.out 5))
    refine bodyPost_ret (results_cell_row rfl _ _ gb101 36 #[.int .i64 3, .string t103, .string t104, .float .f64 x103003_1, .int .i64 0, .slice none 0 0] (0,0) _ rfl (by (with_reducible repeat (first|refine j1j ?_ _|refine j1n ?_|refine j1k ?_ _));refine j1x (cs:=#[.int .i64 3, .string t103, .string t104, .float .f64 x103003_1, .int .i64 0, .slice none 0 0]) ?_ 5 _ rfl;(with_reducible repeat (first|refine j1j ?_ _|refine j1n ?_|refine j1k ?_ _));refine j1x (cs:=#[.int .i64 3, .string t103, .string t104, .float .f64 x103003_1, .int .i64 x102004_1, .slice none 0 0]) ?_ 4 _ rfl;(with_reducible repeat (first|refine j1j ?_ _|refine j1n ?_|refine j1k ?_ _));refine j1x (cs:=#[.int .i64 3, .string t103, .string t104, .float .f64 x102003_1, .int .i64 x102004_1, .slice none 0 0]) ?_ 3 _ rfl;(with_reducible repeat (first|refine j1j ?_ _|refine j1n ?_|refine j1k ?_ _));refine j1x (cs:=#[.int .i64 3, .string t103, .string x102002_1, .float .f64 x102003_1, .int .i64 x102004_1, .slice none 0 0]) ?_ 2 _ rfl;(with_reducible repeat (first|refine j1j ?_ _|refine j1n ?_|refine j1k ?_ _));refine j1x (cs:=#[.int .i64 3, .string x102001_1, .string x102002_1, .float .f64 x102003_1, .int .i64 x102004_1, .slice none 0 0]) ?_ 1 _ rfl;(with_reducible repeat (first|refine j1j ?_ _|refine j1n ?_|refine j1k ?_ _));refine j1x (cs:=#[.int .i64 x102000_1, .string x102001_1, .string x102002_1, .float .f64 x102003_1, .int .i64 x102004_1, .slice none 0 0]) ?_ 0 _ rfl;(with_reducible repeat (first|refine j1j ?_ _|refine j1n ?_|refine j1k ?_ _));exact BK101.out) Tryd.underlying36 rfl zq12) rfl ?_;exact zl4
   subst c36;have H1:(some (3,t103,t104,x103003_1,x4_1,([]:List Int)))=some (r1,r2,r3,r4,r5,r6):=by rw [if_pos rfl] at H;exact H
   clear H;have H:=H1;clear H1;simp only [Option.some.injEq,Prod.mk.injEq] at H;obtain ⟨rfl,rfl,rfl,rfl,rfl,rfl⟩:=H;have p6:0≤(x4_1:Int):=of_decide_eq_true zq1;have q6:x4_1<(a0.size:Int):=of_decide_eq_true zq1;have hx6:=bt_at a0 x4_1;replace p6:=eq_true p6;replace q6:=eq_true q6;have p8:0≤(x4_1:Int):=of_decide_eq_true zq1;have q8:x4_1<(a0.size:Int):=of_decide_eq_true zq1;have hx8:=bt_at a0 x4_1;replace p8:=eq_true p8;replace q8:=eq_true q8;have p10:0≤(x4_1:Int):=of_decide_eq_true zq1;have q10:x4_1<(a0.size:Int):=of_decide_eq_true zq1;have hx10:=bt_at a0 x4_1;replace p10:=eq_true p10;replace q10:=eq_true q10;have p12:0≤(x4_1:Int):=of_decide_eq_true zq1;have q12:x4_1<(a0.size:Int):=of_decide_eq_true zq1;have hx12:=bt_at a0 x4_1;replace p12:=eq_true p12;replace q12:=eq_true q12;have hnb37:=NB102_101.out;have hnc37:=NB101_102.out;have hcz38_0:wr.cell? ⟨gb102,0,none⟩=some (.int .i64 x103000_1):=(j1g BK102.out 0).trans rfl;have hcz38_1:wr.cell? ⟨gb102,1,none⟩=some (.string x103001_1):=(j1g BK102.out 1).trans rfl;have hcz38_2:wr.cell? ⟨gb102,2,none⟩=some (.string x103002_1):=(j1g BK102.out 2).trans rfl;have hcz38_3:wr.cell? ⟨gb102,3,none⟩=some (.float .f64 x103003_1):=(j1g BK102.out 3).trans rfl;have hcz38_4:wr.cell? ⟨gb102,4,none⟩=some (.int .i64 0):=(j1g BK102.out 4).trans rfl;have hcz38_5:wr.cell? ⟨gb102,5,none⟩=some (.slice none 0 0):=(j1g BK102.out 5).trans rfl;have hfz38_0:=j1e BK102.out 0;have hfz38_1:=j1e BK102.out 1;have hfz38_2:=j1e BK102.out 2;have hfz38_3:=j1e BK102.out 3;have hfz38_4:=j1e BK102.out 4;have hfz38_5:=j1e BK102.out 5;go_wp2_with (first|((with_reducible refine j1z (f:=20) rfl ?_);refine j2l (some 113) rfl rfl Tryd.func20 zq12 rfl #[.string (a0.extract (x4_1:Int).toNat a0.size)] rfl zq3 ?_;(with_reducible refine (j1c.calls k1 (a0.extract (x4_1:Int).toNat a0.size) t103 t104 _ ?side1 A34.out).mono ?_);(case side1=>first|exact HG.out|exact Laid.below HG.out zq9);rintro e w39 ⟨rfl,hb⟩;refine ⟨_,rfl,?_⟩;have n0_:=mk0 (j2g (g:=gb101) (o := .cells #[.int .i64 x102000_1, .string x102001_1, .string x102002_1, .float .f64 x102003_1, .int .i64 x102004_1, .slice none 0 0] 36 (0,0)) zq23 hb);have n1_:=mk0 (j2g (g:=gb102) (o := .cells #[.int .i64 3, .string x103001_1, .string x103002_1, .float .f64 x103003_1, .int .i64 0, .slice none 0 0] 36 (0,0)) zq20 hb);have n2_:=mk0 (j1r zq9 hb);clear BK101 BK102 HB;have BK101:=n0_;have BK102:=n1_;have HB:=n2_;clear n0_ n1_ n2_;(try clear hb);(try clear hb2);(try clear hk);(try clear hi);have hcz40_0:w39.cell? ⟨gb102,0,none⟩=some (.int .i64 3):=(j1g BK102.out 0).trans rfl;have hcz40_1:w39.cell? ⟨gb102,1,none⟩=some (.string x103001_1):=(j1g BK102.out 1).trans rfl;have hcz40_2:w39.cell? ⟨gb102,2,none⟩=some (.string x103002_1):=(j1g BK102.out 2).trans rfl;have hcz40_3:w39.cell? ⟨gb102,3,none⟩=some (.float .f64 x103003_1):=(j1g BK102.out 3).trans rfl;have hcz40_4:w39.cell? ⟨gb102,4,none⟩=some (.int .i64 0):=(j1g BK102.out 4).trans rfl;have hcz40_5:w39.cell? ⟨gb102,5,none⟩=some (.slice none 0 0):=(j1g BK102.out 5).trans rfl;have hfz40_0:=j1e BK102.out 0;have hfz40_1:=j1e BK102.out 1;have hfz40_2:=j1e BK102.out 2;have hfz40_3:=j1e BK102.out 3;have hfz40_4:=j1e BK102.out 4;have hfz40_5:=j1e BK102.out 5)|((with_reducible refine j1z (f:=17) rfl ?_);refine j2l (some 119) rfl rfl Tryd.func17 zq12 rfl #[.agg #[.int .i64 3, .string t103, .string t104, .float .f64 x103003_1, .int .i64 0, .slice none 0 0]] rfl zq3 ?_;(refine (j1w.calls 3 t103 t104 x103003_1 0 _ _ ([]:List Int) true _ ?side1 ?side2 A35.out).mono ?_);(case side1=>exact Kd.C_nil _ _);(case side2=>exact Nat.le_refl _);rintro e w41 ⟨rfl,hb⟩;refine ⟨_,rfl,?_⟩;have n0_:=mk0 (j2g (g:=gb101) (o := .cells #[.int .i64 x102000_1, .string x102001_1, .string x102002_1, .float .f64 x102003_1, .int .i64 x102004_1, .slice none 0 0] 36 (0,0)) zq19 hb);have n1_:=mk0 (j2g (g:=gb102) (o := .cells #[.int .i64 3, .string t103, .string t104, .float .f64 x103003_1, .int .i64 0, .slice none 0 0] 36 (0,0)) zq14 hb);have n2_:=mk0 (j1r zq9 hb);clear BK101 BK102 HB;have BK101:=n0_;have BK102:=n1_;have HB:=n2_;clear n0_ n1_ n2_;(try clear hb);(try clear hb2);(try clear hk);(try clear hi);have hcz42_0:w41.cell? ⟨gb102,0,none⟩=some (.int .i64 3):=(j1g BK102.out 0).trans rfl;have hcz42_1:w41.cell? ⟨gb102,1,none⟩=some (.string t103):=(j1g BK102.out 1).trans rfl;have hcz42_2:w41.cell? ⟨gb102,2,none⟩=some (.string t104):=(j1g BK102.out 2).trans rfl;have hcz42_3:w41.cell? ⟨gb102,3,none⟩=some (.float .f64 x103003_1):=(j1g BK102.out 3).trans rfl;have hcz42_4:w41.cell? ⟨gb102,4,none⟩=some (.int .i64 0):=(j1g BK102.out 4).trans rfl;have hcz42_5:w41.cell? ⟨gb102,5,none⟩=some (.slice none 0 0):=(j1g BK102.out 5).trans rfl;have hfz42_0:=j1e BK102.out 0;have hfz42_1:=j1e BK102.out 1;have hfz42_2:=j1e BK102.out 2;have hfz42_3:=j1e BK102.out 3;have hfz42_4:=j1e BK102.out 4;have hfz42_5:=j1e BK102.out 5;have hcz43_0:w41.cell? ⟨gb101,0,none⟩=some (.int .i64 x102000_1):=(j1g BK101.out 0).trans rfl;have hcz43_1:w41.cell? ⟨gb101,1,none⟩=some (.string x102001_1):=(j1g BK101.out 1).trans rfl;have hcz43_2:w41.cell? ⟨gb101,2,none⟩=some (.string x102002_1):=(j1g BK101.out 2).trans rfl;have hcz43_3:w41.cell? ⟨gb101,3,none⟩=some (.float .f64 x102003_1):=(j1g BK101.out 3).trans rfl;have hcz43_4:w41.cell? ⟨gb101,4,none⟩=some (.int .i64 x102004_1):=(j1g BK101.out 4).trans rfl;have hcz43_5:w41.cell? ⟨gb101,5,none⟩=some (.slice none 0 0):=(j1g BK101.out 5).trans rfl;have hfz43_0:=j1e BK101.out 0;have hfz43_1:=j1e BK101.out 1;have hfz43_2:=j1e BK101.out 2;have hfz43_3:=j1e BK101.out 3;have hfz43_4:=j1e BK101.out 4;have hfz43_5:=j1e BK101.out 5))
   refine bodyPost_ret (results_cell_row rfl _ _ gb101 36 #[.int .i64 3, .string t103, .string t104, .float .f64 x103003_1, .int .i64 x4_1, .slice none 0 0] (0,0) _ rfl (by (with_reducible repeat (first|refine j1j ?_ _|refine j1n ?_|refine j1k ?_ _));refine j1x (cs:=#[.int .i64 3, .string t103, .string t104, .float .f64 x103003_1, .int .i64 x4_1, .slice none 0 0]) ?_ 5 _ rfl;(with_reducible repeat (first|refine j1j ?_ _|refine j1n ?_|refine j1k ?_ _));refine j1x (cs:=#[.int .i64 3, .string t103, .string t104, .float .f64 x103003_1, .int .i64 x102004_1, .slice none 0 0]) ?_ 4 _ rfl;(with_reducible repeat (first|refine j1j ?_ _|refine j1n ?_|refine j1k ?_ _));refine j1x (cs:=#[.int .i64 3, .string t103, .string t104, .float .f64 x102003_1, .int .i64 x102004_1, .slice none 0 0]) ?_ 3 _ rfl;(with_reducible repeat (first|refine j1j ?_ _|refine j1n ?_|refine j1k ?_ _));refine j1x (cs:=#[.int .i64 3, .string t103, .string x102002_1, .float .f64 x102003_1, .int .i64 x102004_1, .slice none 0 0]) ?_ 2 _ rfl;(with_reducible repeat (first|refine j1j ?_ _|refine j1n ?_|refine j1k ?_ _));refine j1x (cs:=#[.int .i64 3, .string x102001_1, .string x102002_1, .float .f64 x102003_1, .int .i64 x102004_1, .slice none 0 0]) ?_ 1 _ rfl;(with_reducible repeat (first|refine j1j ?_ _|refine j1n ?_|refine j1k ?_ _));refine j1x (cs:=#[.int .i64 x102000_1, .string x102001_1, .string x102002_1, .float .f64 x102003_1, .int .i64 x102004_1, .slice none 0 0]) ?_ 0 _ rfl;(with_reducible repeat (first|refine j1j ?_ _|refine j1n ?_|refine j1k ?_ _));refine blk_far ?_ NB101_102.out _;(with_reducible repeat (first|refine j1j ?_ _|refine j1n ?_|refine j1k ?_ _));exact BK101.out) Tryd.underlying36 rfl zq12) rfl ?_;exact zl4
theorem run_store_float6 (P : Program) (w:World) (a:Addr) (m:Mode) (k:FloatKind) (b:Nat):(store a (.float k b) m).run P w=stored P w a (.float k b) m:=run_store P w a _ m rfl
attribute [local go_sem] run_store_float6
def j2a.f (k : Nat) (a0:ByteArray):Option (Int × ByteArray × ByteArray × Nat × Bool):=(j1u.f k a0).bind fun bt102=>((j2k.f bt102.1 bt102.2.1 bt102.2.2.1 bt102.2.2.2.1 bt102.2.2.2.2.1 bt102.2.2.2.2.2).bind fun bt110=>(some (bt110.1,bt110.2.1,bt110.2.2.1,bt110.2.2.2.1,bt110.2.2.2.2)))
theorem j2a.mono : ∀ a0 k,LeO (j2a.f k a0) (j2a.f (k+1) a0):=by
 intro a0 k;unfold j2a.f
 exact zm
set_option maxHeartbeats 8000000 in
set_option maxRecDepth 100000 in
theorem j2a.calls (k : Nat) (a0:ByteArray) (r1:Int) (r2:ByteArray) (r3:ByteArray) (r4:Nat) (r5:Bool) (w:World) (hG:Laid w) (h:j2a.f k a0=some (r1,r2,r3,r4,r5)) :
 Calls Tryd.prog 6 #[.string a0] w fun e w'=>e = .returned (.agg #[.int .i64 r1, .string r2, .string r3, .float .f64 r4, .bool r5])∧Below w.heap.size w w':=by
 have HG:=mk0 hG;clear hG;have hu26:=Tryd.underlying26;have HB:=mk0 (Below.refl w.heap.size w);have H:((j1u.f k a0).bind fun bt102=>((j2k.f bt102.1 bt102.2.1 bt102.2.2.1 bt102.2.2.2.1 bt102.2.2.2.2.1 bt102.2.2.2.2.2).bind fun bt110=>(some (bt110.1,bt110.2.1,bt110.2.2.1,bt110.2.2.2.1,bt110.2.2.2.2))))=some (r1,r2,r3,r4,r5):=h;clear h;replace H:=Option.bind_eq_some_iff.mp H;obtain ⟨⟨t102,t103,t104,t105,t106,t107⟩,A20,H⟩:=H;replace H:((j2k.f t102 t103 t104 t105 t106 t107).bind fun bt110=>(some (bt110.1,bt110.2.1,bt110.2.2.1,bt110.2.2.2.1,bt110.2.2.2.2)))=some (r1,r2,r3,r4,r5):=H;have A2:=mk0 A20;clear A20;replace H:=Option.bind_eq_some_iff.mp H;obtain ⟨⟨t110,t111,t112,t113,t114⟩,A30,H⟩:=H;replace H:(some (t110,t111,t112,t113,t114))=some (r1,r2,r3,r4,r5):=H;have A3:=mk0 A30;clear A30;simp only [Option.some.injEq,Prod.mk.injEq] at H;obtain ⟨rfl,rfl,rfl,rfl,rfl⟩:=H;go_enter Tryd.func6,Tryd.ntmps6;go_wp2_with (first|((with_reducible refine j2j (N:=2) rfl ?_);refine box_event ?hg (N:=2) ?hd (cs:=#[.int .i64 0, .string (⟨#[]⟩:ByteArray), .string (⟨#[]⟩:ByteArray), .float .f64 0, .bool false]) (t:=26) ?hr ?_;(case hd=>rfl);(case hg=>rfl);(case hr=>exact zq18);intro gb101 hg w4 hbox hb;have n0_:=mk0 (j1r zq0 hb);have n1_:=mk0 (hbox);have n2_:=mk0 ((zq21:w.heap.size≤gb101));have n3_:=mk0 ((zq21:w.heap.size≤gb101));clear HB;have HB:=n0_;have BK101:=n1_;have GW101:=n2_;have GE101:=n3_;clear n0_ n1_ n2_ n3_;clear hb hbox hg)|((with_reducible refine j1z (f:=11) rfl ?_);refine j2l (some 4) rfl rfl Tryd.func11 zq12 rfl #[.string a0] rfl zq3 ?_;(with_reducible refine (j1u.calls k a0 t102 t103 t104 t105 t106 t107 _ ?side1 A2.out).mono ?_);(case side1=>first|exact HG.out|exact Laid.below HG.out zq8);rintro e w5 ⟨v108,rfl,ho0,hb⟩;refine ⟨_,rfl,?_⟩;have n0_:=mk0 (Kd.R_lower ho0 (j1m zq8));have n1_:=mk0 (j2g (g:=gb101) (o := .cells #[.int .i64 0, .string (⟨#[]⟩:ByteArray), .string (⟨#[]⟩:ByteArray), .float .f64 0, .bool false] 26 (0,0)) zq10 hb);have n2_:=mk0 (j1r zq8 hb);clear BK101 HB;have HO109:=n0_;have BK101:=n1_;have HB:=n2_;clear n0_ n1_ n2_;(try clear hb);(try clear hb2);(try clear hk);(try clear hi);(try clear ho0);obtain ⟨Ao6,co6,eo6⟩:=Kd.R_slice HO109.out;subst eo6)|((with_reducible refine j1z (f:=10) rfl ?_);refine j2l (some 5) rfl rfl Tryd.func10 zq12 rfl #[.agg #[.int .i64 t102, .string t103, .string t104, .float .f64 t105, .int .i64 t106, .slice Ao6 t107.length co6]] rfl zq3 ?_;(with_reducible refine (j2k.calls t102 t103 t104 t105 t106 _ _ t107 t110 t111 t112 t113 t114 _ ?side1 ?side2 A3.out).mono ?_);(case side1=>repeat (first|exact (Kd.R_reads' HO109.out).2.2|(with_reducible refine Kd.C_alloc ?_ _)|(with_reducible refine Kd.C_drewN ?_ _)|(with_reducible refine Kd.C_drew ?_)));(case side2=>exact (Kd.R_reads' HO109.out).2.1);rintro e w7 ⟨rfl,hb⟩;refine ⟨_,rfl,?_⟩;have n0_:=mk0 (Kd.R_below (by (with_reducible repeat (first|apply Kd.R_alloc|apply Kd.R_drewN|apply Kd.R_drew));exact HO109.out) hb);have n1_:=mk0 (j2g (g:=gb101) (o := .cells #[.int .i64 0, .string (⟨#[]⟩:ByteArray), .string (⟨#[]⟩:ByteArray), .float .f64 0, .bool false] 26 (0,0)) zq10 hb);have n2_:=mk0 (j1r zq8 hb);clear HO109 BK101 HB;have HO109:=n0_;have BK101:=n1_;have HB:=n2_;clear n0_ n1_ n2_;(try clear hb);(try clear hb2);(try clear hk);(try clear hi);have hcz8_0:w7.cell? ⟨gb101,0,none⟩=some (.int .i64 0):=(j1g BK101.out 0).trans rfl;have hcz8_1:w7.cell? ⟨gb101,1,none⟩=some (.string (⟨#[]⟩:ByteArray)):=(j1g BK101.out 1).trans rfl;have hcz8_2:w7.cell? ⟨gb101,2,none⟩=some (.string (⟨#[]⟩:ByteArray)):=(j1g BK101.out 2).trans rfl;have hcz8_3:w7.cell? ⟨gb101,3,none⟩=some (.float .f64 0):=(j1g BK101.out 3).trans rfl;have hcz8_4:w7.cell? ⟨gb101,4,none⟩=some (.bool false):=(j1g BK101.out 4).trans rfl;have hfz8_0:=j1e BK101.out 0;have hfz8_1:=j1e BK101.out 1;have hfz8_2:=j1e BK101.out 2;have hfz8_3:=j1e BK101.out 3;have hfz8_4:=j1e BK101.out 4))
 refine bodyPost_ret (results_cell_row rfl _ _ gb101 26 #[.int .i64 t110, .string t111, .string t112, .float .f64 t113, .bool t114] (0,0) _ rfl (by (with_reducible repeat (first|refine j1j ?_ _|refine j1n ?_|refine j1k ?_ _));refine j1x (cs:=#[.int .i64 t110, .string t111, .string t112, .float .f64 t113, .bool false]) ?_ 4 _ rfl;(with_reducible repeat (first|refine j1j ?_ _|refine j1n ?_|refine j1k ?_ _));refine j1x (cs:=#[.int .i64 t110, .string t111, .string t112, .float .f64 0, .bool false]) ?_ 3 _ rfl;(with_reducible repeat (first|refine j1j ?_ _|refine j1n ?_|refine j1k ?_ _));refine j1x (cs:=#[.int .i64 t110, .string t111, .string (⟨#[]⟩:ByteArray), .float .f64 0, .bool false]) ?_ 2 _ rfl;(with_reducible repeat (first|refine j1j ?_ _|refine j1n ?_|refine j1k ?_ _));refine j1x (cs:=#[.int .i64 t110, .string (⟨#[]⟩:ByteArray), .string (⟨#[]⟩:ByteArray), .float .f64 0, .bool false]) ?_ 1 _ rfl;(with_reducible repeat (first|refine j1j ?_ _|refine j1n ?_|refine j1k ?_ _));refine j1x (cs:=#[.int .i64 0, .string (⟨#[]⟩:ByteArray), .string (⟨#[]⟩:ByteArray), .float .f64 0, .bool false]) ?_ 0 _ rfl;(with_reducible repeat (first|refine j1j ?_ _|refine j1n ?_|refine j1k ?_ _));exact BK101.out) Tryd.underlying26 rfl zq12) rfl ?_;exact zl5
end Go.Proofs.YtchhndbekjgimaaDoor.H
end
