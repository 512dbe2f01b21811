/- The words, walks and laws that the proof rests on, laid together (part 5). -/
import Derived.Test.YthmjfmpgmcgonaaDoorKFnJqUint4
section
namespace Go.Proofs.YthmjfmpgmcgonaaDoor.K
open Go.RowKit Go.Proofs.YthmjfmpgmcgonaaDoorW.PrintWords Go.Proofs.YthmjfmpgmcgonaaDoorW.PrintLast Go.Proofs.YthmjfmpgmcgonaaDoorW.PrintMore
attribute [local go_sem] max2_int min2_int max_two min_two max_three min_three max_four min_four
set_option linter.unusedVariables false
set_option linter.unusedSimpArgs false
section
set_option maxHeartbeats 64000000
set_option maxRecDepth 100000
def UNc (un : List Int→Option (Option (List Int))) (a0 a1:Bool) (a2:Int):Prop:=∀ (v:List Int) (res:Option (List Int)) (b o c G ty:Nat) (L:List Int) (w0 w:World),Laid w0→Below w0.heap.size w0 w→IN w0 b o v→v.length≤c→c≤9223372036854775807→BF w w0 w G ty L→L.length=64→un v=some res →
  Calls Tryd.prog 61 #[.agg #[.bool a0, .bool a1, .int .i64 a2], .slice (some ⟨b,o,none⟩) v.length c, .slice (some ⟨G,0,none⟩) 64 64] w fun e w'=>UP2 w w0 G ty 64 res e w'
theorem unc_is (k : Nat):UNc (unc k) false false 0:=fun v res b o c G ty L w0 w hT hB hI hc hcm hF hL h=>unc2_there k v b o c w0 w res G ty L hT hB hI hc hcm hF hL h
theorem C_set {W : World} {A:Option Addr} {n:Nat} {v:List Int} {g:Nat} {ty:TypeId} {sa:Option Addr} {sn sc:Nat} {x:Value} (h:Kd.C (Kd.int .u8) W A n v) (hg:W.heap[g]? = some (.cells #[.slice sa sn sc] ty (0,0))):Kd.C (Kd.int .u8) (W.setCell ⟨g,0,none⟩ x) A n v:=by
 obtain ⟨h1,h2,h3⟩:=Kd.reads_of_C (enc:=Value.int .u8) (d:=(0:Int)) (h1:=fun _=>rfl) h;refine Kd.C_of_reads (enc:=Value.int .u8) (d:=(0:Int)) (h1:=fun _=>rfl) ⟨h1,h2,fun hp=>?_⟩;obtain ⟨ad,e,hc⟩:=h3 hp;refine ⟨ad,e,fun j hj=>?_⟩;have hcj:=hc j hj
 have hne:(ad.add j).block≠g:=by
  intro hb
  generalize ad.add j=q at hcj hb
  obtain ⟨qb,qo,qp⟩:=q;simp only at hb;subst hb;unfold World.cell? at hcj;rw [hg] at hcj;cases qo with
  | zero=>simp at hcj
  | succ k=>simp at hcj
 rw [← hcj];unfold World.cell?;rw [Below.heap_setCell _ _ _ _ hne]
theorem sk_nil (a0 a1 : Bool) (a2:Int) (dv:Value) (da:Option Addr) (dn dc:Nat) (KA:Option Addr) (kc:Nat) (w:World) :
 Calls Tryd.prog 58 #[.agg #[.bool a0, .bool a1, .int .i64 a2], .slice da dn dc, .slice KA 0 kc] w fun e w'=>e = .returned (.int .i64 0)∧Below w.heap.size w w':=by
 have hcd:(w.alloc (.cells #[.bool a0, .bool a1, .int .i64 a2] 93) |>.alloc (.cells #[.slice da dn dc] 55)).cell? ⟨w.heap.size+1,0,none⟩=some (.slice da dn dc):=by rw [World.cell?_alloc_at _ _ _ _ (by simp)];rfl
 go_enter Tryd.func58,Tryd.ntmps58;go_wp2;go_ret;exact ⟨rfl,j1g (j1g (Below.refl _ _) _) _⟩
theorem sk_calls (un : List Int→Option (Option (List Int))) (a0 a1:Bool) (a2:Int) (hun:UNc un a0 a1 a2) (hsq:a0=false):∀ (mx:Nat) (n:Nat) (ks:List ByteArray) (l:List Int) (b o c kb ko kc:Nat) (w:World) (R:Int),ks.length≤mx→Laid w→IN w b o l→l.length≤c→c≤9223372036854775807→KY w kb ko ks→ks.length≤kc→sK a0 un n ks l=some R →
 Calls Tryd.prog 58 #[.agg #[.bool a0, .bool a1, .int .i64 a2], .slice (some ⟨b,o,none⟩) l.length c, .slice (some ⟨kb,ko,none⟩) ks.length kc] w fun e w'=>e = .returned (.int .i64 R)∧Below w.heap.size w w':=by
 intro mx
 induction mx with
 | zero =>
  intro n ks l b o c kb ko kc w R hm _ _ _ _ _ _ hR;obtain rfl:ks=[]:=List.length_eq_zero_iff.mp (by omega);rw [sK,if_pos rfl] at hR;cases hR;exact sk_nil a0 a1 a2 (.slice none 0 0) _ _ _ _ kc w
 | succ mx ih =>
 intro n ks l b o c kb ko kc w R hm hT hI hc hcm hK hkc hR;by_cases hk0:ks=[]
 ·subst hk0;rw [sK,if_pos rfl] at hR;cases hR;exact sk_nil a0 a1 a2 (.slice none 0 0) _ _ _ _ kc w
 rw [sK,if_neg hk0] at hR;have hkl:0<ks.length:=List.length_pos_iff.mpr hk0;have HIH:=mk0 ih;have HUN:=mk0 hun;have HSQ:=mk0 hsq;have HM:=mk0 hm;have HT:=mk0 hT;have HI:=mk0 hI;have HC:=mk0 (And.intro hc hcm);have HK:=mk0 (And.intro hK hkc);have HR:=mk0 hR;have hlm:=hI.max;have hkm:=hK.len;have k1:((ks.length:Int) == 0)=false:=beq_eq_false_iff_ne.mpr (by omega);have k2:decide ((ks.length:Int)=0)=false:=decide_eq_false (by omega);have k3:decide (ks.length=0)=false:=decide_eq_false (by omega);obtain ⟨w1,hw1⟩:∃ w1,w1=(w.alloc (.cells #[.bool a0, .bool a1, .int .i64 a2] 93)).alloc (.cells #[.slice (some ⟨b,o,none⟩) l.length c] 55):=⟨_,rfl⟩;have hsz:w1.heap.size=w.heap.size+2:=by rw [hw1];simp
 have hcd:w1.cell? ⟨w.heap.size+1,0,none⟩=some (.slice (some ⟨b,o,none⟩) l.length c):=by rw [hw1,World.cell?_alloc_at _ _ _ _ (by simp)];rfl
 have hblD:w1.heap[w.heap.size+1]? = some (.cells #[.slice (some ⟨b,o,none⟩) l.length c] 55 (0,0)):=by rw [hw1];have:=blk_new (w.alloc (.cells #[.bool a0, .bool a1, .int .i64 a2] 93)) (.cells #[.slice (some ⟨b,o,none⟩) l.length c] 55);simpa using this
 have HBL:=mk0 hblD;clear hblD;have hcf:=j4i w a0 a1 a2 93;have hc0:w1.cell? ⟨w.heap.size,0,none⟩=some (.bool a0):=by rw [hw1,World.cell?_alloc_past _ _ _ (by simp)];exact hcf.1
 have hc1:w1.cell? ⟨w.heap.size,1,none⟩=some (.bool a1):=by rw [hw1,World.cell?_alloc_past _ _ _ (by simp)];exact hcf.2.1
 have hc2:w1.cell? ⟨w.heap.size,2,none⟩=some (.int .i64 a2):=by rw [hw1,World.cell?_alloc_past _ _ _ (by simp)];exact hcf.2.2
 have HB1:Aside0 (Below w.heap.size w w1):=⟨by rw [hw1];exact j1g (j1g (Below.refl _ _) _) _⟩;have hF0:BF (w1.alloc (.cells #[.int .u8 0, .int .u8 0, .int .u8 0, .int .u8 0, .int .u8 0, .int .u8 0, .int .u8 0, .int .u8 0, .int .u8 0, .int .u8 0, .int .u8 0, .int .u8 0, .int .u8 0, .int .u8 0, .int .u8 0, .int .u8 0, .int .u8 0, .int .u8 0, .int .u8 0, .int .u8 0, .int .u8 0, .int .u8 0, .int .u8 0, .int .u8 0, .int .u8 0, .int .u8 0, .int .u8 0, .int .u8 0, .int .u8 0, .int .u8 0, .int .u8 0, .int .u8 0, .int .u8 0, .int .u8 0, .int .u8 0, .int .u8 0, .int .u8 0, .int .u8 0, .int .u8 0, .int .u8 0, .int .u8 0, .int .u8 0, .int .u8 0, .int .u8 0, .int .u8 0, .int .u8 0, .int .u8 0, .int .u8 0, .int .u8 0, .int .u8 0, .int .u8 0, .int .u8 0, .int .u8 0, .int .u8 0, .int .u8 0, .int .u8 0, .int .u8 0, .int .u8 0, .int .u8 0, .int .u8 0, .int .u8 0, .int .u8 0, .int .u8 0, .int .u8 0] 106)) w1 (w1.alloc (.cells #[.int .u8 0, .int .u8 0, .int .u8 0, .int .u8 0, .int .u8 0, .int .u8 0, .int .u8 0, .int .u8 0, .int .u8 0, .int .u8 0, .int .u8 0, .int .u8 0, .int .u8 0, .int .u8 0, .int .u8 0, .int .u8 0, .int .u8 0, .int .u8 0, .int .u8 0, .int .u8 0, .int .u8 0, .int .u8 0, .int .u8 0, .int .u8 0, .int .u8 0, .int .u8 0, .int .u8 0, .int .u8 0, .int .u8 0, .int .u8 0, .int .u8 0, .int .u8 0, .int .u8 0, .int .u8 0, .int .u8 0, .int .u8 0, .int .u8 0, .int .u8 0, .int .u8 0, .int .u8 0, .int .u8 0, .int .u8 0, .int .u8 0, .int .u8 0, .int .u8 0, .int .u8 0, .int .u8 0, .int .u8 0, .int .u8 0, .int .u8 0, .int .u8 0, .int .u8 0, .int .u8 0, .int .u8 0, .int .u8 0, .int .u8 0, .int .u8 0, .int .u8 0, .int .u8 0, .int .u8 0, .int .u8 0, .int .u8 0, .int .u8 0, .int .u8 0] 106)) w1.heap.size 106 (List.replicate 64 0):=⟨blk_new w1 _,Nat.le_refl _,j1g (Below.refl _ _) _,KeepBut.refl _ _ _⟩;have HBS:=mk0 (j1g (Below.refl w1.heap.size w1) (.cells #[.int .u8 0, .int .u8 0, .int .u8 0, .int .u8 0, .int .u8 0, .int .u8 0, .int .u8 0, .int .u8 0, .int .u8 0, .int .u8 0, .int .u8 0, .int .u8 0, .int .u8 0, .int .u8 0, .int .u8 0, .int .u8 0, .int .u8 0, .int .u8 0, .int .u8 0, .int .u8 0, .int .u8 0, .int .u8 0, .int .u8 0, .int .u8 0, .int .u8 0, .int .u8 0, .int .u8 0, .int .u8 0, .int .u8 0, .int .u8 0, .int .u8 0, .int .u8 0, .int .u8 0, .int .u8 0, .int .u8 0, .int .u8 0, .int .u8 0, .int .u8 0, .int .u8 0, .int .u8 0, .int .u8 0, .int .u8 0, .int .u8 0, .int .u8 0, .int .u8 0, .int .u8 0, .int .u8 0, .int .u8 0, .int .u8 0, .int .u8 0, .int .u8 0, .int .u8 0, .int .u8 0, .int .u8 0, .int .u8 0, .int .u8 0, .int .u8 0, .int .u8 0, .int .u8 0, .int .u8 0, .int .u8 0, .int .u8 0, .int .u8 0, .int .u8 0] 106));have HF0:=mk0 hF0;clear hT hI hc hcm hK hkc hR hm hk0 ih hun hcf hF0 hsq;go_enter Tryd.func58,Tryd.ntmps58;go_upto_region 4 with (fail)
 rw [← hw1];obtain ⟨gc,hgc⟩:∃ gc,gc=w.heap.size:=⟨_,rfl⟩;have HGC:=mk0 (And.intro hgc hsz);rw [← hgc] at hcd hc0 hc1 hc2 HBL ⊢;clear hw1 hgc hsz;go_upto_block 0 with (fail)
 obtain ⟨w2,hw2⟩:∃ w2,w2=w1.alloc (.cells #[.int .u8 0, .int .u8 0, .int .u8 0, .int .u8 0, .int .u8 0, .int .u8 0, .int .u8 0, .int .u8 0, .int .u8 0, .int .u8 0, .int .u8 0, .int .u8 0, .int .u8 0, .int .u8 0, .int .u8 0, .int .u8 0, .int .u8 0, .int .u8 0, .int .u8 0, .int .u8 0, .int .u8 0, .int .u8 0, .int .u8 0, .int .u8 0, .int .u8 0, .int .u8 0, .int .u8 0, .int .u8 0, .int .u8 0, .int .u8 0, .int .u8 0, .int .u8 0, .int .u8 0, .int .u8 0, .int .u8 0, .int .u8 0, .int .u8 0, .int .u8 0, .int .u8 0, .int .u8 0, .int .u8 0, .int .u8 0, .int .u8 0, .int .u8 0, .int .u8 0, .int .u8 0, .int .u8 0, .int .u8 0, .int .u8 0, .int .u8 0, .int .u8 0, .int .u8 0, .int .u8 0, .int .u8 0, .int .u8 0, .int .u8 0, .int .u8 0, .int .u8 0, .int .u8 0, .int .u8 0, .int .u8 0, .int .u8 0, .int .u8 0, .int .u8 0] 106):=⟨_,rfl⟩;rw [← hw2] at HBS HF0 ⊢;have hd0:=(j2p HBS.out (World.block_lt_of_cell? _ _ hc0)).trans hc0;have hd1:=(j2p HBS.out (World.block_lt_of_cell? _ _ hc1)).trans hc1;have hd2:=(j2p HBS.out (World.block_lt_of_cell? _ _ hc2)).trans hc2;have hdd:=(j2p HBS.out (World.block_lt_of_cell? _ _ hcd)).trans hcd;have HCF:=mk0 (And.intro hd0 (And.intro hd1 (And.intro hd2 hdd)));obtain ⟨gs,hgs⟩:∃ gs,gs=w1.heap.size:=⟨_,rfl⟩;rw [← hgs] at HF0 HGC ⊢;have HGS:=mk0 hgs;have HBD:Aside0 (∀ (W:World) {L:List Int},BF w2 w1 W gs 106 L→W.heap[gc+1]? = some (.cells #[.slice (some ⟨b,o,none⟩) l.length c] 55 (0,0))):=⟨fun W L h=>(h.below.block _ (by have:=HGC.out;omega)).trans HBL.out⟩;clear hw2 hgs hc0 hc1 hc2 hcd hd0 hd1 hd2 hdd k1 k2 k3;go_wp2;go_loopg [7,8,9,12] n (fun kq v7 v8 v9 v12 w'=>∃ (i:Nat) (kl lv:Int) (lm:Bool) (L:List Int),v7 = .int .i64 kl∧v8 = .int .i64 lv∧v9 = .int .i64 (i:Int)∧v12 = .bool lm∧Aside0 (i≤l.length∧sKl a0 un kq ks l kl lv i lm=some R ∧ -(i:Int)≤lv∧lv≤i ∧ -(i:Int) - 1≤kl∧kl<ks.length)∧Aside0 (BF w2 w1 w' gs 106 L∧L.length=64))
 case atStart=>exact ⟨0,0,0,true,_,rfl,rfl,rfl,rfl,⟨by omega,HR.out,by omega,by omega,by omega,by omega⟩,⟨HF0.out,List.length_replicate⟩⟩
 case round =>
  clear HR HF0 HBS;obtain ⟨i,kl,lv,lm,L,rfl,rfl,rfl,rfl,HJ,HF⟩:=hrel;cases gk with
  | zero=>exact absurd HJ.out.2.1 (by simp [sKl])
  | succ kr =>
   have hi:=HJ.out.1;obtain ⟨wo,rfl⟩:∃ wo:World,wo=wr:=⟨_,rfl⟩;have hIr:=(HI.out.below HB1.out).below HF.out.1.below;have HIR:=mk0 hIr;have hdd:=keep_cell HF.out.1.keep (a:=⟨gc+1,0,none⟩) (by show gc+1≠gs;have:=HGC.out;omega) HCF.out.2.2.2;clear hIr;by_cases hlt:i<l.length
   rotate_left
   ·have t1:decide ((i:Int)<(l.length:Int))=false:=decide_eq_false (by omega);have hst:=HJ.out.2.1;rw [sKl,List.drop_of_length_le (by omega),skp,if_pos (by omega)] at hst;have HS:=mk0 (Option.some.inj hst);clear hst;go_wp2;go_ret;exact ⟨by rw [← HS.out];rfl,j1m HB1.out HF.out.1.below⟩
   have t1:decide ((i:Int)<(l.length:Int))=true:=decide_eq_true (by omega);go_upto_block 2 with (fail)
   go_cut [9] (fun v9 wc=>∃ j:Nat,v9 = .int .i64 (j:Int)∧Aside0 (i≤j∧j≤l.length∧skp (l.drop i) i=j∧(j<l.length→¬ (l.getD j 0≤32∨(92<l.getD j 0∧l.getD j 0≠123∧l.getD j 0≠125))))∧wc=wo)
   case first=>as_aux_lemma =>
    go_wp2_with fail
    go_loopg [9] (l.length - i) (fun kq v9 w'=>∃ j:Nat,v9 = .int .i64 (j:Int)∧Aside0 (i≤j∧j≤l.length∧skp (l.drop i) i=skp (l.drop j) j)∧kq=l.length - j∧w'=wo)
    case atStart=>exact ⟨i,rfl,⟨Nat.le_refl _,hi,rfl⟩,rfl,rfl⟩
    case round =>
     obtain ⟨j,rfl,HK2,hkk,rfl⟩:=hrel;have hj:=HK2.out.2.1;by_cases hjl:j<l.length
     rotate_left
     ·have s1:decide ((j:Int)<(l.length:Int))=false:=decide_eq_false (by omega);have HN:Aside0 (i≤j∧j≤l.length∧skp (l.drop i) i=j∧(j<l.length→¬ (l.getD j 0≤32∨(92<l.getD j 0∧l.getD j 0≠123∧l.getD j 0≠125)))):=⟨HK2.out.1,hj,by rw [HK2.out.2.2,List.drop_of_length_le (by omega),skp],fun h=>absurd h hjl⟩;go_wp2;go_meet
      case rel=>exact ⟨j,rfl,HN,rfl⟩
     have s1:decide ((j:Int)<(l.length:Int))=true:=decide_eq_true (by omega);have s2:(0≤(j:Int))=True:=eq_true (by omega);have s3:((j:Int)<(l.length:Int))=True:=eq_true (by omega);have hcx:=HIR.out.cell j hjl;have hst:=HK2.out.2.2;rw [at_int hjl,skp] at hst;obtain ⟨x,hx⟩:∃ x,x=l.getD j 0:=⟨_,rfl⟩;rw [← hx] at hcx hst;have HX:=mk0 hx;clear hx;by_cases hsk:x≤32
     ·rw [if_pos hsk] at hst;have HN:Aside0 (i≤j+1∧j+1≤l.length∧skp (l.drop i) i=skp (l.drop (j+1)) (j+1)):=⟨by have:=HK2.out.1;omega,hjl,hst⟩;have f1:decide (x≤32)=true:=decide_eq_true hsk;clear hst;go_wp2;go_roundg (l.length - (j+1))
      case measure=>omega
      case rel=>exact ⟨j+1,by go_num,HN,rfl,rfl⟩
     rw [if_neg hsk] at hst;have f1:decide (x≤32)=false:=decide_eq_false hsk;by_cases h92:92<x
     rotate_left
     ·have f2:decide (92<x)=false:=decide_eq_false h92;have HN:Aside0 (i≤j∧j≤l.length∧skp (l.drop i) i=j∧(j<l.length→¬ (l.getD j 0≤32∨(92<l.getD j 0∧l.getD j 0≠123∧l.getD j 0≠125)))):=⟨HK2.out.1,hj,by rw [hst,if_neg (by omega)],fun _=>by rw [← HX.out];omega⟩;clear hst;go_wp2;go_meet
      case rel=>exact ⟨j,rfl,HN,rfl⟩
     have f2:decide (92<x)=true:=decide_eq_true h92;by_cases hop:x=123
     ·have HN:Aside0 (i≤j∧j≤l.length∧skp (l.drop i) i=j∧(j<l.length→¬ (l.getD j 0≤32∨(92<l.getD j 0∧l.getD j 0≠123∧l.getD j 0≠125)))):=⟨HK2.out.1,hj,by rw [hst,if_neg (by omega)],fun _=>by rw [← HX.out];omega⟩;clear hst f1 f2 hsk h92;rw [hop] at hcx;clear hop;go_wp2;go_meet
      case rel=>exact ⟨j,rfl,HN,rfl⟩
     by_cases hcl:x=125
     ·have HN:Aside0 (i≤j∧j≤l.length∧skp (l.drop i) i=j∧(j<l.length→¬ (l.getD j 0≤32∨(92<l.getD j 0∧l.getD j 0≠123∧l.getD j 0≠125)))):=⟨HK2.out.1,hj,by rw [hst,if_neg (by omega)],fun _=>by rw [← HX.out];omega⟩;clear hst f1 f2 hsk h92;rw [hcl] at hcx;clear hop hcl;go_wp2;go_meet
      case rel=>exact ⟨j,rfl,HN,rfl⟩
     rw [if_pos ⟨h92,hop,hcl⟩] at hst;have HN:Aside0 (i≤j+1∧j+1≤l.length∧skp (l.drop i) i=skp (l.drop (j+1)) (j+1)):=⟨by have:=HK2.out.1;omega,hjl,hst⟩;have f3:(x != 123)=true:=bne_iff_ne.mpr hop;have f4:(x != 125)=true:=bne_iff_ne.mpr hcl;have f5:decide (x=123)=false:=decide_eq_false hop;have f6:decide (x=125)=false:=decide_eq_false hcl;clear hst hop hcl;go_wp2;go_roundg (l.length - (j+1))
     case measure=>omega
     case rel=>exact ⟨j+1,by go_num,HN,rfl,rfl⟩
   case rest =>
    obtain ⟨j,rfl,HK2,rfl⟩:=hcut;have hj:=HK2.out.2.1;have hij:=HK2.out.1;have hst:=HJ.out.2.1;rw [sKl,HK2.out.2.2.1] at hst;by_cases hjl:j<l.length
    rotate_left
    ·rw [if_pos (by omega)] at hst;have HS:=mk0 (Option.some.inj hst);have s1:decide ((l.length:Int)≤(j:Int))=true:=decide_eq_true (by omega);clear hst;go_wp2;go_ret;exact ⟨by rw [← HS.out];rfl,j1m HB1.out HF.out.1.below⟩
    rw [if_neg (by omega)] at hst;have s1:decide ((l.length:Int)≤(j:Int))=false:=decide_eq_false (by omega);have s2:(0≤(j:Int))=True:=eq_true (by omega);have s3:((j:Int)<(l.length:Int))=True:=eq_true (by omega);have hcx:=HIR.out.cell j hjl;have hns:=HK2.out.2.2.2 hjl;have hb1:=HJ.out.2.2.1;have hb2:=HJ.out.2.2.2.1;have hb3:=HJ.out.2.2.2.2.1;have hb4:=HJ.out.2.2.2.2.2;have hc0:=keep_cell HF.out.1.keep (a:=⟨gc,0,none⟩) (by show gc≠gs;have:=HGC.out;omega) HCF.out.1;have hc1:=keep_cell HF.out.1.keep (a:=⟨gc,1,none⟩) (by show gc≠gs;have:=HGC.out;omega) HCF.out.2.1;have hc2:=keep_cell HF.out.1.keep (a:=⟨gc,2,none⟩) (by show gc≠gs;have:=HGC.out;omega) HCF.out.2.2.1;rw [sStep] at hst;obtain ⟨x,hx⟩:∃ x,x=l.getD j 0:=⟨_,rfl⟩;rw [← hx] at hcx hst hns;have HX:=mk0 hx;clear hx;by_cases hstr:x=34∨(x=39∧a0=true)
    ·rw [if_pos hstr] at hst;obtain ⟨o1,hcut,hI1,hcc⟩:=j4c HIR.out c (j+1) (by omega) HC.out.1;rw [List.length_drop] at hcut hcc
     push_cast at hcut
     have hq:x=34∨x=39:=by omega
     have rng:=j4m x (l.drop (j+1)) 0 false false;rw [List.length_drop] at rng;have HSE:=mk0 (fun (W:World) (hb:Below wc.heap.size wc W)=>se_c a0 a1 a2 b o1 (l.length - (j+1)) (c - (j+1)) (l.drop (j+1)) x W (hI1.below hb) List.length_drop hcc hq)
     generalize strE x (l.drop (j+1)) 0 false false=se at hst rng HSE
     have HST:=mk0 hst;have RNG:=mk0 rng;have hwr:IntKind.i64.wrap ((j:Int)+1)=(j:Int)+1:=IntWalk.i64_in _ (by omega);clear hst rng hq hcc hI1 hns;have HD:=mk0 (j1h (Below.refl wc.heap.size wc));rcases hstr with h|⟨_,h⟩
     ·as_aux_lemma =>
       rw [h] at hcx HSE;clear h;go_wp2_with fail
       refine j4d (n:=11) (S:=fun w'=>w'.cell? ⟨gc,0,none⟩=some (.bool a0)∧w'.cell? ⟨gc,1,none⟩=some (.bool a1)∧w'.cell? ⟨gc,2,none⟩=some (.int .i64 a2)∧w'.cell? ⟨gc+1,0,none⟩=some (.slice (some ⟨b,o,none⟩) l.length c)) (ds:=[5]) #[false,false,false,false,false,false,false,false,false,false,false] zq17 rfl rfl ⟨hc0,hc1,hc2,hdd⟩ (fun hHeld=>?_)
       generalize wc.drew=w4 at HD hHeld ⊢
       refine pure_ (i:=2) (N:=some 94) (v:=?_) (a':=?_) #[false,false,true,false,false,false,false,false,false,false,false] rfl rfl zq17 (fun _ _ _ h=>h) (Or.inl ⟨by rfl,?_⟩) ?_ ?_;rotate_left
       ·exact zl2
       rotate_left
       ·exact zl0
       refine pure_ (i:=4) (N:=some 96) (v:=?_) (a':=?_) #[false,false,true,false,true,false,false,false,false,false,false] rfl rfl zq17 (fun _ _ _ h=>h) (Or.inl ⟨by rfl,?_⟩) ?_ ?_;rotate_left
       ·exact zl2
       rotate_left
       ·exact zl0
       refine take_ (i:=0) (N:=some 92) (v:=?_) (a':=?_) #[true,false,true,false,true,false,false,false,false,false,false] rfl rfl zq17 (fun _ _ _ h=>h) (Or.inl ⟨by rfl,?_⟩) hHeld ?_ ?_;rotate_left
       ·exact zl11
       rotate_left
       ·exact zl0
       refine take_ (i:=1) (N:=some 93) (v:=?_) (a':=?_) #[true,true,true,false,true,false,false,false,false,false,false] rfl rfl zq17 (fun _ _ _ h=>h) (Or.inl ⟨by rfl,?_⟩) hHeld ?_ ?_;rotate_left
       ·exact zl11
       rotate_left
       ·exact zl0
       refine pure_ (i:=3) (N:=some 95) (v:=?_) (a':=?_) #[true,true,true,true,true,false,false,false,false,false,false] rfl rfl zq17 (fun _ _ _ h=>h) (Or.inl ⟨by rfl,?_⟩) ?_ ?_;rotate_left
       ·exact zl2
       rotate_left
       ·exact zl0
       refine last_ (i:=5) (N:=some 97) #[true,true,true,true,true,true,false,false,false,false,false] rfl rfl zq17 zq56 (fun K hK=>?_);refine goes_ Tryd.func60 zq17 rfl #[.agg #[.bool a0, .bool a1, .int .i64 a2], .slice (some ⟨b,o1,none⟩) (l.length - (j+1)) (c - (j+1)), .int .u8 _] (by rfl) rfl rfl zq39 ?_;with_reducible refine (HSE.out _ HD.out).mono ?_
       rintro e_ w5 ⟨rfl,hb⟩;refine ⟨_,rfl,?_⟩;have HB5:=mk0 (j1m HD.out hb);have HF5:=mk0 (And.intro (HF.out.1.carry HB5.out) HF.out.2);clear hb;refine hK.out _ _ ?_;clear hK K;refine norm_ (a':=?_) ?_ ?_;rotate_left
       ·show Act.put _ (some 97) _=_
        exact zl0
       refine pure_ (i:=6) (N:=some 91) (v:=?_) (a':=?_) #[true,true,true,true,true,true,true,false,false,false,false] rfl rfl zq17 (fun _ _ _ h=>h) (Or.inl ⟨by rfl,?_⟩) ?_ ?_;rotate_left
       ·exact zl2
       rotate_left
       ·exact zl0
       refine pure_ (i:=7) (N:=some 98) (v:=?_) (a':=?_) #[true,true,true,true,true,true,true,true,false,false,false] rfl rfl zq17 (fun _ _ _ h=>h) (Or.inl ⟨by rfl,?_⟩) ?_ ?_;rotate_left
       ·exact zl2
       rotate_left
       ·exact zl0
       refine pure_ (i:=8) (N:=some 99) (v:=?_) (a':=?_) #[true,true,true,true,true,true,true,true,true,false,false] rfl rfl zq17 (fun _ _ _ h=>h) (Or.inl ⟨by rfl,?_⟩) ?_ ?_;rotate_left
       ·exact zl2
       rotate_left
       ·exact zl0
       refine pure_ (i:=9) (N:=some 17) (v:=?_) (a':=?_) #[true,true,true,true,true,true,true,true,true,true,false] rfl rfl zq17 (fun _ _ _ h=>h) (Or.inl ⟨by rfl,?_⟩) ?_ ?_;rotate_left
       ·exact zl2
       rotate_left
       ·exact zl0
       refine pure_ (i:=10) (N:=some 18) (v:=?_) (a':=?_) #[true,true,true,true,true,true,true,true,true,true,true] rfl rfl zq17 (fun _ _ _ h=>h) (Or.inl ⟨by rfl,?_⟩) ?_ ?_;rotate_left
       ·exact zl2
       rotate_left
       ·exact zl0
       refine done_ zq17 ?_;clear hwr;rcases RNG.out with h1|⟨m,h1,h2,h3⟩
       ·have hst:=HST.out;rw [sStr,h1,if_pos zq56] at hst;have HS:Aside0 (-1=R):=⟨Option.some.inj hst⟩;rw [h1];clear hst h1;go_wp2;go_ret;exact ⟨by rw [← HS.out];rfl,j1m HB1.out HF5.out.1.below⟩
       ·have hst:=HST.out;rw [sStr,h1,if_neg (by omega),Int.toNat_natCast] at hst;obtain ⟨o2,hcut2,hI2,hcc2⟩:=j4c HIR.out c (j+1+m) (by omega) HC.out.1;rw [List.length_drop] at hcut2 hcc2
        push_cast at hcut2
        have rng2:=j3y (l.drop (j+1+m)) 0;rw [List.length_drop] at rng2;have HNT:=mk0 (fun (W:World) (hb:Below wc.heap.size wc W)=>nt_calls a0 a1 a2 b o2 (l.length - (j+1+m)) (c - (j+1+m)) (l.drop (j+1+m)) W (hI2.below hb) List.length_drop)
        generalize nT (l.drop (j+1+m)) 0=t0 at hst rng2 HNT
        have HST2:=mk0 hst;have RNG2:=mk0 rng2;have f1:((m:Int) == -1)=false:=beq_eq_false_iff_ne.mpr (by omega);have f2:decide ((m:Int) = -1)=false:=decide_eq_false (by omega);have hmb:m≤2147483647:=by omega
        have hx0:=(j2p HB5.out (World.block_lt_of_cell? _ _ hc0)).trans hc0;have hx1:=(j2p HB5.out (World.block_lt_of_cell? _ _ hc1)).trans hc1;have hx2:=(j2p HB5.out (World.block_lt_of_cell? _ _ hc2)).trans hc2;have hxd:=(j2p HB5.out (World.block_lt_of_cell? _ _ hdd)).trans hdd;have HD6:=mk0 (j1h (Below.refl w5.heap.size w5));rw [h1];clear h1 hst rng2 hI2 hcc2 hcut;go_wp2_with fail
        refine j4d (n:=6) (S:=fun w'=>w'.cell? ⟨gc,0,none⟩=some (.bool a0)∧w'.cell? ⟨gc,1,none⟩=some (.bool a1)∧w'.cell? ⟨gc,2,none⟩=some (.int .i64 a2)∧w'.cell? ⟨gc+1,0,none⟩=some (.slice (some ⟨b,o,none⟩) l.length c)) (ds:=[4]) #[false,false,false,false,false,false] zq17 rfl rfl ⟨hx0,hx1,hx2,hxd⟩ (fun hHeld=>?_)
        generalize w5.drew=w6 at HD6 hHeld ⊢
        refine pure_ (i:=2) (N:=some 109) (v:=?_) (a':=?_) #[false,false,true,false,false,false] rfl rfl zq17 (fun _ _ _ h=>h) (Or.inl ⟨by rfl,?_⟩) ?_ ?_;rotate_left
        ·exact zl2
        rotate_left
        ·exact zl0
        refine take_ (i:=0) (N:=some 107) (v:=?_) (a':=?_) #[true,false,true,false,false,false] rfl rfl zq17 (fun _ _ _ h=>h) (Or.inl ⟨by rfl,?_⟩) hHeld ?_ ?_;rotate_left
        ·exact zl11
        rotate_left
        ·exact zl0
        refine take_ (i:=1) (N:=some 108) (v:=?_) (a':=?_) #[true,true,true,false,false,false] rfl rfl zq17 (fun _ _ _ h=>h) (Or.inl ⟨by rfl,?_⟩) hHeld ?_ ?_;rotate_left
        ·exact zl11
        rotate_left
        ·exact zl0
        refine pure_ (i:=3) (N:=some 110) (v:=?_) (a':=?_) #[true,true,true,true,false,false] rfl rfl zq17 (fun _ _ _ h=>h) (Or.inl ⟨by rfl,?_⟩) ?_ ?_;rotate_left
        ·exact zl2
        rotate_left
        ·exact zl0
        refine last_ (i:=4) (N:=some 111) #[true,true,true,true,true,false] rfl rfl zq17 zq56 (fun K hK=>?_);refine goes_ Tryd.func59 zq17 rfl #[.agg #[.bool a0, .bool a1, .int .i64 a2], .slice (some ⟨b,o2,none⟩) (l.length - (j+1+m)) (c - (j+1+m))] (by rfl) rfl rfl zq39 ?_;with_reducible refine (HNT.out _ (j1m HB5.out HD6.out)).mono ?_
        rintro e_ w7 ⟨rfl,hb⟩;refine ⟨_,rfl,?_⟩;have HB7:=mk0 (j1m HB5.out (j1m HD6.out hb));have HF7:=mk0 (And.intro (HF.out.1.carry HB7.out) HF.out.2);clear hb hx0 hx1 hx2 hxd;refine hK.out _ _ ?_;clear hK K;refine norm_ (a':=?_) ?_ ?_;rotate_left
        ·show Act.put _ (some 111) _=_
         exact zl0
        refine pure_ (i:=5) (N:=some 20) (v:=?_) (a':=?_) #[true,true,true,true,true,true] rfl rfl zq17 (fun _ _ _ h=>h) (Or.inl ⟨by rfl,?_⟩) ?_ ?_;rotate_left
        ·exact zl2
        rotate_left
        ·exact zl0
        refine done_ zq17 ?_;clear hHeld hcut2;have hz0:=(j2p HB7.out (World.block_lt_of_cell? _ _ hc0)).trans hc0;have hz1:=(j2p HB7.out (World.block_lt_of_cell? _ _ hc1)).trans hc1;have hz2:=(j2p HB7.out (World.block_lt_of_cell? _ _ hc2)).trans hc2;have hzd:=(j2p HB7.out (World.block_lt_of_cell? _ _ hdd)).trans hdd;clear hc0 hc1 hc2 hdd hcx;rcases RNG2.out with h1|⟨t,h1,h5,h6⟩
        ·have hst:=HST2.out;rw [h1,if_pos zq56] at hst;have HS:Aside0 (-1=R):=⟨Option.some.inj hst⟩;rw [h1];clear hst h1;go_wp2;go_ret;exact ⟨by rw [← HS.out];rfl,j1m HB1.out HF7.out.1.below⟩
        have hst:=HST2.out;rw [h1,if_neg (by omega),Int.toNat_natCast] at hst;have htl:j+1+m+t<l.length:=by omega
        have hcy:=(HIR.out.below HB7.out).cell (j+1+m+t) htl;obtain ⟨y,hy⟩:∃ y,y=l.getD (j+1+m+t) 0:=⟨_,rfl⟩;rw [← hy] at hst hcy;clear hy;have g1:((t:Int) == -1)=false:=beq_eq_false_iff_ne.mpr (by omega);have g2:decide ((t:Int) = -1)=false:=decide_eq_false (by omega);have htb:t≤2147483647:=by omega
        rw [h1];clear h1;by_cases h58:y=58
        rotate_left
        ·rw [if_neg h58] at hst;replace hst:sKl a0 un kr ks l kl lv (j+1+m+t) lm=some R:=hst;have p58:(y == 58)=false:=beq_eq_false_iff_ne.mpr h58;have q58:decide (y=58)=false:=decide_eq_false h58;clear h58
         as_aux_lemma =>
          have HN:Aside0 (j+1+m+t≤l.length∧sKl a0 un kr ks l (kl) (lv) (j+1+m+t) lm=some R ∧ -((j+1+m+t:Nat):Int)≤lv∧lv≤((j+1+m+t:Nat):Int) ∧ -((j+1+m+t:Nat):Int) - 1≤kl∧(kl:Int)<(ks.length:Int)):=⟨by omega,hst,by omega,by omega,by omega,by omega⟩;clear hst;go_wp2;go_roundg kr
          case measure=>omega
          case rel=>exact ⟨j+1+m+t,kl,lv,lm,L,zq62,zq62,zq66,rfl,HN,HF7⟩
        subst h58;rw [if_pos rfl] at hst;by_cases hlv:lv<1
        ·rw [if_pos hlv] at hst;have HS:Aside0 (-1=R):=⟨Option.some.inj hst⟩;have p1:decide (lv<1)=true:=decide_eq_true hlv;clear hst
         as_aux_lemma =>
          go_wp2;go_ret;exact ⟨by rw [← HS.out];rfl,j1m HB1.out HF7.out.1.below⟩
        rw [if_neg hlv] at hst;have p1:decide (lv<1)=false:=decide_eq_false hlv;obtain ⟨o3,hcut3,hI3,hcc3⟩:=cut_mid HIR.out c (j+1) (j+1+(m - 1)) (by omega) (by omega) HC.out.1;rw [show j+1+(m - 1) - (j+1)=m - 1 by omega] at hcut3 hI3 hcc3;rw [show ((j+1:Nat):Int)=(j:Int)+1 by omega,show ((j+1+(m - 1):Nat):Int)=(j:Int)+1+(m:Int) - 1 by omega] at hcut3;obtain ⟨kx,hkx⟩:∃ kx,kx=(l.drop (j+1)).take (m - 1):=⟨_,rfl⟩;rw [← hkx] at hst hI3;have hkxl:kx.length=m - 1:=by rw [hkx,List.length_take,List.length_drop];omega
        have HKL:=mk0 hkxl;have HI3:=mk0 hI3;have HCC3:=mk0 (And.intro hcc3 (show c - (j+1)≤9223372036854775807 by have:=HC.out;omega));clear hkx hI3 hcc3 hkxl;go_upto_region 39 with (fail)
        obtain ⟨w8,hw8⟩:∃ w8,w8=w7.alloc (.cells #[.slice none 0 0] 55):=⟨_,rfl⟩;have hB8:Below w7.heap.size w7 w8:=by rw [hw8];exact j1g (Below.refl _ _) _
        have hbx:w8.heap[w7.heap.size]? = some (.cells #[.slice none 0 0] 55 (0,0)):=by rw [hw8];exact blk_new _ _
        have hgg:gs<w7.heap.size:=j3w HF7.out.1.blk;rw [← hw8];clear hw8;obtain ⟨gb,hgb⟩:∃ gb,gb=w7.heap.size:=⟨_,rfl⟩;rw [← hgb] at hB8 hbx hgg ⊢;have HGB:=mk0 (And.intro hgb hgg);have HB8:=mk0 hB8;have HBX:=mk0 hbx;have hcb:=cell_of_one hbx;have hfb:=free_of_one hbx;clear hgb hgg hB8 hbx;obtain ⟨es,hes⟩:∃ es,es=se.snd:=⟨_,rfl⟩;rw [← hes] at hst ⊢;clear hes;cases es with
        | false=>as_aux_lemma =>
         rw [if_pos rfl] at hst;replace hst:(sKey ks kl lv (j+1+m+t) (some kx)).bind _=some R:=hst;have HST3:=mk0 hst;clear hst;go_upto_region 45 with (fail)
         obtain ⟨w9,hw9⟩:∃ w9,w9=w8.setCell ⟨gb,0,none⟩ (.slice (some ⟨b,o3,none⟩) (m - 1) (c - (j+1))):=⟨_,rfl⟩;have hB9:Below gb w7 w9:=by rw [hw9];exact HB8.out.setCell (by show gb≤gb;omega) _
         have CB:Aside0 (w9.cell? ⟨gb,0,none⟩=some (.slice (some ⟨b,o3,none⟩) (m - 1) (c - (j+1)))):=⟨by rw [hw9];exact cell_of_one (one_setCell HBX.out)⟩;rw [← hw9];clear hw9 hcb hfb hz0 hz1 hz2 hzd
         have hB9':Below w7.heap.size w7 w9:=by
          have:=hB9;rw [HGB.out.1] at this;exact this
         have HF9:=mk0 (And.intro (HF7.out.1.carry hB9') HF7.out.2)
         have HCK:Aside0 (Kd.C (Kd.int .u8) w9 (some ⟨b,o3,none⟩) (m - 1) kx):=⟨by
          have:=(HI3.out.below (j1m HB7.out hB9')).C;rw [HKL.out] at this;exact this⟩
         have hst:=HST3.out;clear hB9 hB9' HST3;rw [sKey] at hst;by_cases hlk:lv≤(ks.length:Int)
         rotate_left
         ·rw [if_neg hlk] at hst;have pl:decide (lv≤(ks.length:Int))=false:=decide_eq_false hlk;have HS:Aside0 (-1=R):=⟨Option.some.inj hst⟩;clear hst;go_wp2;go_ret;exact ⟨by rw [← HS.out];rfl,j1m HB1.out HF9.out.1.below⟩
         rw [if_pos hlk] at hst;have pl:decide (lv≤(ks.length:Int))=true:=decide_eq_true hlk;obtain ⟨u,rfl⟩:∃ u:Nat,lv=(u:Int)+1:=⟨lv.toNat - 1,by omega⟩;have hul:u<ks.length:=by omega
         rw [show ((u:Int)+1).toNat - 1=u by omega] at hst;have hkc:=(HK.out.1.below (j1m HB1.out HF9.out.1.below)).cell u hul;have q1:(0≤(u:Int))=True:=eq_true (by omega);have q2:((u:Int)<(ks.length:Int))=True:=eq_true (by omega);obtain ⟨s,hs⟩:∃ s,s=ks.getD u default:=⟨_,rfl⟩;rw [← hs] at hst hkc;clear hs;have HEQ:=mk0 (eq_calls gb _ _ _ kx s w9 CB.out HCK.out HKL.out);by_cases he:strOfNums kx=s
         rotate_left
         ·rw [if_neg he] at hst;rw [decide_eq_false he] at HEQ;clear he;replace hst:sKl a0 un kr ks l kl ((u:Int)+1) (j+1+m+t+1) false=some R:=hst
          as_aux_lemma =>
           have HN:Aside0 (j+1+m+t+1≤l.length∧sKl a0 un kr ks l (kl) ((u:Int)+1) (j+1+m+t+1) false=some R ∧ -((j+1+m+t+1:Nat):Int)≤(u:Int)+1∧(u:Int)+1≤((j+1+m+t+1:Nat):Int) ∧ -((j+1+m+t+1:Nat):Int) - 1≤kl∧(kl:Int)<(ks.length:Int)):=⟨by omega,hst,by omega,by omega,by omega,by omega⟩;clear hst;go_wp2_with (go_at_call 76;(with_reducible refine HEQ.out.mono ?_);rintro e_ w_ ⟨rfl,rfl⟩)
           go_roundg kr
           case measure=>omega
           case rel=>exact ⟨j+1+m+t+1,kl,(u:Int)+1,false,L,zq62,zq62,zq66,rfl,HN,HF9⟩
         rw [if_pos he] at hst;rw [decide_eq_true he] at HEQ;clear he;by_cases hku:kl=(u:Int)+1 - 1
         rotate_left
         ·rw [if_neg hku] at hst;replace hst:sKl a0 un kr ks l kl ((u:Int)+1) (j+1+m+t+1) true=some R:=hst;have r1:(kl == (u:Int))=false:=beq_eq_false_iff_ne.mpr (by omega);have r2:decide (kl=(u:Int))=false:=decide_eq_false (by omega);clear hku
          as_aux_lemma =>
           have HN:Aside0 (j+1+m+t+1≤l.length∧sKl a0 un kr ks l (kl) ((u:Int)+1) (j+1+m+t+1) true=some R ∧ -((j+1+m+t+1:Nat):Int)≤(u:Int)+1∧(u:Int)+1≤((j+1+m+t+1:Nat):Int) ∧ -((j+1+m+t+1:Nat):Int) - 1≤kl∧(kl:Int)<(ks.length:Int)):=⟨by omega,hst,by omega,by omega,by omega,by omega⟩;clear hst;go_wp2_with (go_at_call 76;(with_reducible refine HEQ.out.mono ?_);rintro e_ w_ ⟨rfl,rfl⟩)
           go_roundg kr
           case measure=>omega
           case rel=>exact ⟨j+1+m+t+1,kl,(u:Int)+1,true,L,zq62,zq62,zq66,rfl,HN,HF9⟩
         rw [if_pos hku] at hst;have r1:(kl == (u:Int))=true:=beq_iff_eq.mpr (by omega);have r2:decide (kl=(u:Int))=true:=decide_eq_true (by omega);by_cases hkk:kl+1=(ks.length:Int)
         ·rw [if_pos hkk] at hst;have HS:Aside0 (((j+1+m+t+1:Nat):Int)=R):=⟨Option.some.inj hst⟩;have r3:(kl+1 == (ks.length:Int))=true:=beq_iff_eq.mpr hkk;have r4:decide (kl+1=(ks.length:Int))=true:=decide_eq_true hkk;clear hst hku hkk;go_wp2_with (go_at_call 76;(with_reducible refine HEQ.out.mono ?_);rintro e_ w_ ⟨rfl,rfl⟩)
          go_ret;exact ⟨by rw [← HS.out];first|rfl|(congr 2;omega)|(congr 1;congr 1;omega),j1m HB1.out HF9.out.1.below⟩
         rw [if_neg hkk] at hst;replace hst:sKl a0 un kr ks l (kl+1) ((u:Int)+1) (j+1+m+t+1) true=some R:=hst;have r3:(kl+1 == (ks.length:Int))=false:=beq_eq_false_iff_ne.mpr hkk;have r4:decide (kl+1=(ks.length:Int))=false:=decide_eq_false hkk
         as_aux_lemma =>
          have HN:Aside0 (j+1+m+t+1≤l.length∧sKl a0 un kr ks l (kl+1) ((u:Int)+1) (j+1+m+t+1) true=some R ∧ -((j+1+m+t+1:Nat):Int)≤(u:Int)+1∧(u:Int)+1≤((j+1+m+t+1:Nat):Int) ∧ -((j+1+m+t+1:Nat):Int) - 1≤kl+1∧(kl+1:Int)<(ks.length:Int)):=⟨by omega,hst,by omega,by omega,by omega,by omega⟩;clear hst;go_wp2_with (go_at_call 76;(with_reducible refine HEQ.out.mono ?_);rintro e_ w_ ⟨rfl,rfl⟩)
          go_roundg kr
          case measure=>omega
          case rel=>exact ⟨j+1+m+t+1,kl+1,(u:Int)+1,true,L,zq62,zq62,zq66,rfl,HN,HF9⟩
        | true=>as_aux_lemma =>
         rw [if_neg zq56] at hst;rw [Option.bind_assoc] at hst;obtain ⟨res,hres,hst⟩:=Option.bind_eq_some_iff.mp hst;replace hst:(sKey ks kl lv (j+1+m+t) res).bind _=some R:=hst;have HST3:=mk0 hst
         have hB8':Below w7.heap.size w7 w8:=by
          have:=HB8.out;rw [HGB.out.1] at this;exact this
         have HB8P:=mk0 hB8'
         have HUNX:Aside0 (∀ W:World,Below w8.heap.size w8 W→Calls Tryd.prog 61 #[.agg #[.bool a0, .bool a1, .int .i64 a2], .slice (some ⟨b,o3,none⟩) (m - 1) (c - (j+1)), .slice (some ⟨gs,0,none⟩) 64 64] W fun e w'=>UP2 W w1 gs 106 64 res e w'):=⟨fun W hb=>by
          have k:=HF7.out.1.carry (j1m HB8P.out hb);have:=HUN.out kx res b o3 (c - (j+1)) gs 106 L w1 W (HT.out.below HB1.out) k.below (HI3.out.back HF.out.1.below (HI.out.below HB1.out).lt) (by rw [HKL.out];exact HCC3.out.1) HCC3.out.2 ⟨k.blk,k.at_,k.below,KeepBut.refl _ _ _⟩ HF.out.2 hres;rw [HKL.out] at this;exact this⟩
         have hy0:=(j2p HB8P.out (World.block_lt_of_cell? _ _ hz0)).trans hz0;have hy1:=(j2p HB8P.out (World.block_lt_of_cell? _ _ hz1)).trans hz1;have hy2:=(j2p HB8P.out (World.block_lt_of_cell? _ _ hz2)).trans hz2;have HD8:=mk0 (j1h (Below.refl w8.heap.size w8));clear hst hres hB8' hcb hfb hz0 hz1 hz2 hzd;cases res with
         | none =>
          go_wp2_with fail
          refine j4d (n:=9) (S:=fun w'=>w'.cell? ⟨gc,0,none⟩=some (.bool a0)∧w'.cell? ⟨gc,1,none⟩=some (.bool a1)∧w'.cell? ⟨gc,2,none⟩=some (.int .i64 a2)) (ds:=[3]) #[false,false,false,false,false,false,false,false,false] zq17 rfl rfl ⟨hy0,hy1,hy2⟩ (fun hHeld=>?_)
          generalize w8.drew=w9 at HD8 hHeld ⊢
          refine pure_ (i:=1) (N:=some 133) (v:=?_) (a':=?_) #[false,true,false,false,false,false,false,false,false] rfl rfl zq17 (fun _ _ _ h=>h) (Or.inl ⟨by rfl,?_⟩) ?_ ?_;rotate_left
          ·exact zl2
          rotate_left
          ·exact zl0
          refine pure_ (i:=2) (N:=some 134) (v:=?_) (a':=?_) #[false,true,true,false,false,false,false,false,false] rfl rfl zq17 (fun _ _ _ h=>h) (Or.inl ⟨by rfl,?_⟩) ?_ ?_;rotate_left
          ·exact zl2
          rotate_left
          ·exact zl0
          refine take_ (i:=0) (N:=some 132) (v:=?_) (a':=?_) #[true,true,true,false,false,false,false,false,false] rfl rfl zq17 (fun _ _ _ h=>h) (Or.inl ⟨by rfl,?_⟩) hHeld ?_ ?_;rotate_left
          ·exact zl17
          rotate_left
          ·exact zl0
          refine last_ (i:=3) (N:=some 135) #[true,true,true,true,false,false,false,false,false] rfl rfl zq17 zq56 (fun K hK=>?_);refine goes_ Tryd.func61 zq17 rfl #[.agg #[.bool a0, .bool a1, .int .i64 a2], .slice (some ⟨b,o3,none⟩) (m - 1) (c - (j+1)), .slice (some ⟨gs,0,none⟩) 64 64] (by rfl) rfl rfl zq39 ?_;with_reducible refine (HUNX.out _ HD8.out).mono ?_
          rintro e_ w10 ⟨⟨hb,te,pe,rfl,hesc⟩,L2,hL2,hbf⟩;refine ⟨_,rfl,?_⟩;have HB10:=mk0 hb;clear hb hesc hL2 hbf hy0 hy1 hy2;refine hK.out _ _ ?_;clear hK K;refine norm_ (a':=?_) ?_ ?_;rotate_left
          ·show Act.put _ (some 135) _=_
           exact zl0
          refine pure_ (i:=4) (N:=some 131) (v:=?_) (a':=?_) #[true,true,true,true,true,false,false,false,false] rfl rfl zq17 (fun _ _ _ h=>h) (Or.inl ⟨by rfl,?_⟩) ?_ ?_;rotate_left
          ·exact zl2
          rotate_left
          ·exact zl0
          refine pure_ (i:=5) (N:=some 136) (v:=?_) (a':=?_) #[true,true,true,true,true,true,false,false,false] rfl rfl zq17 (fun _ _ _ h=>h) (Or.inl ⟨by rfl,?_⟩) ?_ ?_;rotate_left
          ·exact zl2
          rotate_left
          ·exact zl0
          refine pure_ (i:=6) (N:=some 137) (v:=?_) (a':=?_) #[true,true,true,true,true,true,true,false,false] rfl rfl zq17 (fun _ _ _ h=>h) (Or.inl ⟨by rfl,?_⟩) ?_ ?_;rotate_left
          ·exact zl2
          rotate_left
          ·exact zl0
          refine pure_ (i:=7) (N:=some 23) (v:=?_) (a':=?_) #[true,true,true,true,true,true,true,true,false] rfl rfl zq17 (fun _ _ _ h=>h) (Or.inl ⟨by rfl,?_⟩) ?_ ?_;rotate_left
          ·exact zl2
          rotate_left
          ·exact zl0
          refine pure_ (i:=8) (N:=some 24) (v:=?_) (a':=?_) #[true,true,true,true,true,true,true,true,true] rfl rfl zq17 (fun _ _ _ h=>h) (Or.inl ⟨by rfl,?_⟩) ?_ ?_;rotate_left
          ·exact zl2
          rotate_left
          ·exact zl0
          refine done_ zq17 ?_;have hst:=HST3.out;have HS:Aside0 (-1=R):=⟨Option.some.inj hst⟩;clear hst;go_wp2;go_ret;exact ⟨by rw [← HS.out];rfl,j1m HB1.out HB10.out⟩
         | some v =>
          go_wp2_with fail
          refine j4d (n:=9) (S:=fun w'=>w'.cell? ⟨gc,0,none⟩=some (.bool a0)∧w'.cell? ⟨gc,1,none⟩=some (.bool a1)∧w'.cell? ⟨gc,2,none⟩=some (.int .i64 a2)) (ds:=[3]) #[false,false,false,false,false,false,false,false,false] zq17 rfl rfl ⟨hy0,hy1,hy2⟩ (fun hHeld=>?_)
          generalize w8.drew=w9 at HD8 hHeld ⊢
          refine pure_ (i:=1) (N:=some 133) (v:=?_) (a':=?_) #[false,true,false,false,false,false,false,false,false] rfl rfl zq17 (fun _ _ _ h=>h) (Or.inl ⟨by rfl,?_⟩) ?_ ?_;rotate_left
          ·exact zl2
          rotate_left
          ·exact zl0
          refine pure_ (i:=2) (N:=some 134) (v:=?_) (a':=?_) #[false,true,true,false,false,false,false,false,false] rfl rfl zq17 (fun _ _ _ h=>h) (Or.inl ⟨by rfl,?_⟩) ?_ ?_;rotate_left
          ·exact zl2
          rotate_left
          ·exact zl0
          refine take_ (i:=0) (N:=some 132) (v:=?_) (a':=?_) #[true,true,true,false,false,false,false,false,false] rfl rfl zq17 (fun _ _ _ h=>h) (Or.inl ⟨by rfl,?_⟩) hHeld ?_ ?_;rotate_left
          ·exact zl17
          rotate_left
          ·exact zl0
          refine last_ (i:=3) (N:=some 135) #[true,true,true,true,false,false,false,false,false] rfl rfl zq17 zq56 (fun K hK=>?_);refine goes_ Tryd.func61 zq17 rfl #[.agg #[.bool a0, .bool a1, .int .i64 a2], .slice (some ⟨b,o3,none⟩) (m - 1) (c - (j+1)), .slice (some ⟨gs,0,none⟩) 64 64] (by rfl) rfl rfl zq39 ?_;with_reducible refine (HUNX.out _ HD8.out).mono ?_
          rintro e_ w10 ⟨⟨hb,A1,c1,rfl,hc1,hC1⟩,L2,hL2,hbf⟩;refine ⟨_,rfl,?_⟩;have HBF:=mk0 (And.intro hbf hL2);have HC1:=mk0 (And.intro hc1 hC1);clear hb hc1 hC1 hL2 hbf hy0 hy1 hy2;refine hK.out _ _ ?_;clear hK K;refine norm_ (a':=?_) ?_ ?_;rotate_left
          ·show Act.put _ (some 135) _=_
           exact zl0
          refine pure_ (i:=4) (N:=some 131) (v:=?_) (a':=?_) #[true,true,true,true,true,false,false,false,false] rfl rfl zq17 (fun _ _ _ h=>h) (Or.inl ⟨by rfl,?_⟩) ?_ ?_;rotate_left
          ·exact zl2
          rotate_left
          ·exact zl0
          refine pure_ (i:=5) (N:=some 136) (v:=?_) (a':=?_) #[true,true,true,true,true,true,false,false,false] rfl rfl zq17 (fun _ _ _ h=>h) (Or.inl ⟨by rfl,?_⟩) ?_ ?_;rotate_left
          ·exact zl2
          rotate_left
          ·exact zl0
          refine pure_ (i:=6) (N:=some 137) (v:=?_) (a':=?_) #[true,true,true,true,true,true,true,false,false] rfl rfl zq17 (fun _ _ _ h=>h) (Or.inl ⟨by rfl,?_⟩) ?_ ?_;rotate_left
          ·exact zl2
          rotate_left
          ·exact zl0
          refine pure_ (i:=7) (N:=some 23) (v:=?_) (a':=?_) #[true,true,true,true,true,true,true,true,false] rfl rfl zq17 (fun _ _ _ h=>h) (Or.inl ⟨by rfl,?_⟩) ?_ ?_;rotate_left
          ·exact zl2
          rotate_left
          ·exact zl0
          refine pure_ (i:=8) (N:=some 24) (v:=?_) (a':=?_) #[true,true,true,true,true,true,true,true,true] rfl rfl zq17 (fun _ _ _ h=>h) (Or.inl ⟨by rfl,?_⟩) ?_ ?_;rotate_left
          ·exact zl2
          rotate_left
          ·exact zl0
          refine done_ zq17 ?_;have hgb1:=HGB.out;have hbx9:w9.heap[gb]? = some (.cells #[.slice none 0 0] 55 (0,0)):=(HD8.out.block _ (j3w HBX.out)).trans HBX.out;have hbx10:w10.heap[gb]? = some (.cells #[.slice none 0 0] 55 (0,0)):=(HBF.out.1.keep.2 gb (j3w hbx9) (by omega) (by simp)).trans hbx9;have hF9:=HF7.out.1.carry (j1m HB8P.out HD8.out);have HF10:Aside0 (BF w2 w1 w10 gs 106 L2):=⟨⟨HBF.out.1.blk,HBF.out.1.at_,HBF.out.1.below,keep_tr hF9.keep HBF.out.1.keep⟩⟩;have HBX10:=mk0 hbx10;have hcb:=cell_of_one hbx10;have hfb:=free_of_one hbx10;clear hHeld hgb1 hbx9 hbx10 hF9;go_upto_region 45 with (fail)
          obtain ⟨w11,hw11⟩:∃ w11,w11=w10.setCell ⟨gb,0,none⟩ (.slice A1 v.length c1):=⟨_,rfl⟩;have CB:Aside0 (w11.cell? ⟨gb,0,none⟩=some (.slice A1 v.length c1)):=⟨by rw [hw11];exact cell_of_one (one_setCell HBX10.out)⟩;have HCK:Aside0 (Kd.C (Kd.int .u8) w11 A1 v.length v):=⟨by rw [hw11];exact C_set HC1.out.2 HBX10.out⟩
          have HF11:Aside0 (BF w2 w1 w11 gs 106 L2∧L2.length=64):=⟨by
           have h1:=HGB.out;have h2:=HF7.out.1.keep.1;have h3:=HF10.out;have h4:=HF10.out.at_;rw [hw11];exact ⟨⟨(Below.heap_setCell _ _ _ _ (by show gs≠gb;omega)).trans h3.blk,h3.at_,h3.below.setCell (by show w1.heap.size≤gb;omega) _,⟨by rw [World.size_setCell];exact h3.keep.1,fun i hi hg hr=>(Below.heap_setCell _ _ _ _ (by show i≠gb;omega)).trans (h3.keep.2 i hi hg hr)⟩⟩,HBF.out.2⟩⟩
          rw [← hw11];clear hw11 hcb hfb;have hst:=HST3.out;clear HST3;rw [sKey] at hst;by_cases hlk:lv≤(ks.length:Int)
          rotate_left
          ·rw [if_neg hlk] at hst;have pl:decide (lv≤(ks.length:Int))=false:=decide_eq_false hlk;have HS:Aside0 (-1=R):=⟨Option.some.inj hst⟩;clear hst;go_wp2;go_ret;exact ⟨by rw [← HS.out];rfl,j1m HB1.out HF11.out.1.below⟩
          rw [if_pos hlk] at hst;have pl:decide (lv≤(ks.length:Int))=true:=decide_eq_true hlk;obtain ⟨u,rfl⟩:∃ u:Nat,lv=(u:Int)+1:=⟨lv.toNat - 1,by omega⟩;have hul:u<ks.length:=by omega
          rw [show ((u:Int)+1).toNat - 1=u by omega] at hst;have hkc:=(HK.out.1.below (j1m HB1.out HF11.out.1.below)).cell u hul;have q1:(0≤(u:Int))=True:=eq_true (by omega);have q2:((u:Int)<(ks.length:Int))=True:=eq_true (by omega);obtain ⟨s,hs⟩:∃ s,s=ks.getD u default:=⟨_,rfl⟩;rw [← hs] at hst hkc;clear hs;have HEQ:=mk0 (eq_calls gb _ _ _ v s w11 CB.out HCK.out rfl);by_cases he:strOfNums v=s
          rotate_left
          ·rw [if_neg he] at hst;rw [decide_eq_false he] at HEQ;clear he;replace hst:sKl a0 un kr ks l kl ((u:Int)+1) (j+1+m+t+1) false=some R:=hst
           as_aux_lemma =>
            have HN:Aside0 (j+1+m+t+1≤l.length∧sKl a0 un kr ks l (kl) ((u:Int)+1) (j+1+m+t+1) false=some R ∧ -((j+1+m+t+1:Nat):Int)≤(u:Int)+1∧(u:Int)+1≤((j+1+m+t+1:Nat):Int) ∧ -((j+1+m+t+1:Nat):Int) - 1≤kl∧(kl:Int)<(ks.length:Int)):=⟨by omega,hst,by omega,by omega,by omega,by omega⟩;clear hst;go_wp2_with (go_at_call 76;(with_reducible refine HEQ.out.mono ?_);rintro e_ w_ ⟨rfl,rfl⟩)
            go_roundg kr
            case measure=>omega
            case rel=>exact ⟨j+1+m+t+1,kl,(u:Int)+1,false,L2,zq62,zq62,zq66,rfl,HN,HF11⟩
          rw [if_pos he] at hst;rw [decide_eq_true he] at HEQ;clear he;by_cases hku:kl=(u:Int)+1 - 1
          rotate_left
          ·rw [if_neg hku] at hst;replace hst:sKl a0 un kr ks l kl ((u:Int)+1) (j+1+m+t+1) true=some R:=hst;have r1:(kl == (u:Int))=false:=beq_eq_false_iff_ne.mpr (by omega);have r2:decide (kl=(u:Int))=false:=decide_eq_false (by omega);clear hku
           as_aux_lemma =>
            have HN:Aside0 (j+1+m+t+1≤l.length∧sKl a0 un kr ks l (kl) ((u:Int)+1) (j+1+m+t+1) true=some R ∧ -((j+1+m+t+1:Nat):Int)≤(u:Int)+1∧(u:Int)+1≤((j+1+m+t+1:Nat):Int) ∧ -((j+1+m+t+1:Nat):Int) - 1≤kl∧(kl:Int)<(ks.length:Int)):=⟨by omega,hst,by omega,by omega,by omega,by omega⟩;clear hst;go_wp2_with (go_at_call 76;(with_reducible refine HEQ.out.mono ?_);rintro e_ w_ ⟨rfl,rfl⟩)
            go_roundg kr
            case measure=>omega
            case rel=>exact ⟨j+1+m+t+1,kl,(u:Int)+1,true,L2,zq62,zq62,zq66,rfl,HN,HF11⟩
          rw [if_pos hku] at hst;have r1:(kl == (u:Int))=true:=beq_iff_eq.mpr (by omega);have r2:decide (kl=(u:Int))=true:=decide_eq_true (by omega);by_cases hkk:kl+1=(ks.length:Int)
          ·rw [if_pos hkk] at hst;have HS:Aside0 (((j+1+m+t+1:Nat):Int)=R):=⟨Option.some.inj hst⟩;have r3:(kl+1 == (ks.length:Int))=true:=beq_iff_eq.mpr hkk;have r4:decide (kl+1=(ks.length:Int))=true:=decide_eq_true hkk;clear hst hku hkk;go_wp2_with (go_at_call 76;(with_reducible refine HEQ.out.mono ?_);rintro e_ w_ ⟨rfl,rfl⟩)
           go_ret;exact ⟨by rw [← HS.out];first|rfl|(congr 2;omega)|(congr 1;congr 1;omega),j1m HB1.out HF11.out.1.below⟩
          rw [if_neg hkk] at hst;replace hst:sKl a0 un kr ks l (kl+1) ((u:Int)+1) (j+1+m+t+1) true=some R:=hst;have r3:(kl+1 == (ks.length:Int))=false:=beq_eq_false_iff_ne.mpr hkk;have r4:decide (kl+1=(ks.length:Int))=false:=decide_eq_false hkk
          as_aux_lemma =>
           have HN:Aside0 (j+1+m+t+1≤l.length∧sKl a0 un kr ks l (kl+1) ((u:Int)+1) (j+1+m+t+1) true=some R ∧ -((j+1+m+t+1:Nat):Int)≤(u:Int)+1∧(u:Int)+1≤((j+1+m+t+1:Nat):Int) ∧ -((j+1+m+t+1:Nat):Int) - 1≤kl+1∧(kl+1:Int)<(ks.length:Int)):=⟨by omega,hst,by omega,by omega,by omega,by omega⟩;clear hst;go_wp2_with (go_at_call 76;(with_reducible refine HEQ.out.mono ?_);rintro e_ w_ ⟨rfl,rfl⟩)
           go_roundg kr
           case measure=>omega
           case rel=>exact ⟨j+1+m+t+1,kl+1,(u:Int)+1,true,L2,zq62,zq62,zq66,rfl,HN,HF11⟩
     ·as_aux_lemma =>
       exact absurd (HSQ.out.symm.trans h) zq56
    rw [if_neg hstr] at hst;by_cases h39:x=39
    ·have ha0:a0=false:=by
      cases a0 with
      | false=>rfl
      | true=>exact absurd (.inr ⟨h39,rfl⟩) hstr
     rw [if_pos h39] at hst;replace hst:sKl a0 un kr ks l kl lv (j+1) lm=some R:=hst;rw [h39] at hcx;rw [ha0] at hc0;clear h39 hstr hns
     as_aux_lemma =>
      have HN:Aside0 (j+1≤l.length∧sKl a0 un kr ks l (kl) (lv) (j+1) lm=some R ∧ -((j+1:Nat):Int)≤lv∧lv≤((j+1:Nat):Int) ∧ -((j+1:Nat):Int) - 1≤kl∧(kl:Int)<(ks.length:Int)):=⟨by omega,hst,by omega,by omega,by omega,by omega⟩;clear hst;go_wp2;go_roundg kr
      case measure=>omega
      case rel=>exact ⟨j+1,kl,lv,lm,L,zq62,zq62,zq66,rfl,HN,HF⟩
    rw [if_neg h39] at hst;by_cases h123:x=123
    ·rw [if_pos h123] at hst;rw [h123] at hcx;clear h123 h39 hstr hns;cases lm with
     | true =>
      rw [if_neg zq56] at hst;replace hst:sKl a0 un kr ks l kl (lv+1) (j+1) true=some R:=hst
      as_aux_lemma =>
       have HN:Aside0 (j+1≤l.length∧sKl a0 un kr ks l (kl) (lv+1) (j+1) true=some R ∧ -((j+1:Nat):Int)≤lv+1∧lv+1≤((j+1:Nat):Int) ∧ -((j+1:Nat):Int) - 1≤kl∧(kl:Int)<(ks.length:Int)):=⟨by omega,hst,by omega,by omega,by omega,by omega⟩;clear hst;go_wp2;go_roundg kr
       case measure=>omega
       case rel=>exact ⟨j+1,kl,lv+1,true,L,zq62,zq62,zq66,rfl,HN,HF⟩
     | false =>
      rw [if_pos rfl] at hst
      as_aux_lemma =>
       obtain ⟨o1,hcut,hI1,hcc⟩:=j4c HIR.out c j (by omega) HC.out.1;rw [List.length_drop] at hcut hcc;have rng:=bE_range a0 123 125 _ (l.drop j) 0 0 (Nat.le_refl _);rw [List.length_drop] at rng;have HBE:=mk0 (fun (W:World) (hb:Below wc.heap.size wc W)=>be_calls a0 a1 a2 b o1 (l.length - j) (c - j) (l.drop j) 123 125 W (hI1.below hb) List.length_drop hcc zq56)
       generalize bE a0 123 125 (l.drop j) 0 0=be at hst rng HBE
       have RNG:=mk0 rng;have HST:=mk0 hst;clear hst rng hcc hI1;have HD:=mk0 (j1h (Below.refl wc.heap.size wc));go_wp2_with fail
       refine j4d (n:=6) (S:=fun w'=>w'.cell? ⟨gc,0,none⟩=some (.bool a0)∧w'.cell? ⟨gc,1,none⟩=some (.bool a1)∧w'.cell? ⟨gc,2,none⟩=some (.int .i64 a2)∧w'.cell? ⟨gc+1,0,none⟩=some (.slice (some ⟨b,o,none⟩) l.length c)) (ds:=[4]) #[false,false,false,false,false,false] zq17 rfl rfl ⟨hc0,hc1,hc2,hdd⟩ (fun hHeld=>?_)
       generalize wc.drew=w4 at HD hHeld ⊢
       refine pure_ (i:=2) (N:=some 170) (v:=?_) (a':=?_) #[false,false,true,false,false,false] rfl rfl zq17 (fun _ _ _ h=>h) (Or.inl ⟨by rfl,?_⟩) ?_ ?_;rotate_left
       ·exact zl2
       rotate_left
       ·exact zl0
       refine take_ (i:=0) (N:=some 168) (v:=?_) (a':=?_) #[true,false,true,false,false,false] rfl rfl zq17 (fun _ _ _ h=>h) (Or.inl ⟨by rfl,?_⟩) hHeld ?_ ?_;rotate_left
       ·exact zl11
       rotate_left
       ·exact zl0
       refine take_ (i:=1) (N:=some 169) (v:=?_) (a':=?_) #[true,true,true,false,false,false] rfl rfl zq17 (fun _ _ _ h=>h) (Or.inl ⟨by rfl,?_⟩) hHeld ?_ ?_;rotate_left
       ·exact zl11
       rotate_left
       ·exact zl0
       refine pure_ (i:=3) (N:=some 171) (v:=?_) (a':=?_) #[true,true,true,true,false,false] rfl rfl zq17 (fun _ _ _ h=>h) (Or.inl ⟨by rfl,?_⟩) ?_ ?_;rotate_left
       ·exact zl2
       rotate_left
       ·exact zl0
       refine last_ (i:=4) (N:=some 172) #[true,true,true,true,true,false] rfl rfl zq17 zq56 (fun K hK=>?_);refine goes_ Tryd.func77 zq17 rfl #[.agg #[.bool a0, .bool a1, .int .i64 a2], .slice (some ⟨b,o1,none⟩) (l.length - j) (c - j), .int .u8 123, .int .u8 125] (by rfl) rfl rfl zq39 ?_;with_reducible refine (HBE.out _ HD.out).mono ?_
       rintro e_ w5 ⟨rfl,hb⟩;refine ⟨_,rfl,?_⟩;have HF5:=mk0 (And.intro (HF.out.1.carry (j1m HD.out hb)) HF.out.2);clear hb;refine hK.out _ _ ?_;clear hK K;refine norm_ (a':=?_) ?_ ?_;rotate_left
       ·show Act.put _ (some 172) _=_
        exact zl0
       refine pure_ (i:=5) (N:=some 25) (v:=?_) (a':=?_) #[true,true,true,true,true,true] rfl rfl zq17 (fun _ _ _ h=>h) (Or.inl ⟨by rfl,?_⟩) ?_ ?_;rotate_left
       ·exact zl2
       rotate_left
       ·exact zl0
       refine done_ zq17 ?_;rcases RNG.out with h1|⟨m,h1,h2,h3⟩
       ·exact zl13
       ·have hst:=HST.out;rw [h1,if_neg (by omega),Int.toNat_natCast] at hst;replace hst:sKl a0 un kr ks l kl lv (j+m) false=some R:=hst;have f1:((m:Int) == -1)=false:=beq_eq_false_iff_ne.mpr (by omega);have f2:decide ((m:Int) = -1)=false:=decide_eq_false (by omega);have hmb:m≤2147483647:=by omega
        rw [h1];clear h1
        as_aux_lemma =>
         have HN:Aside0 (j+m≤l.length∧sKl a0 un kr ks l (kl) (lv) (j+m) false=some R ∧ -((j+m:Nat):Int)≤lv∧lv≤((j+m:Nat):Int) ∧ -((j+m:Nat):Int) - 1≤kl∧(kl:Int)<(ks.length:Int)):=⟨by omega,hst,by omega,by omega,by omega,by omega⟩;clear hst;go_wp2;go_roundg kr
         case measure=>omega
         case rel=>exact ⟨j+m,kl,lv,false,L,zq62,zq62,zq66,rfl,HN,HF5⟩
    rw [if_neg h123] at hst;by_cases h125:x=125
    ·rw [if_pos h125] at hst;rw [h125] at hcx;clear h125 h39 hstr hns h123;by_cases hq:lv - 1=kl
     rotate_left
     ·rw [if_neg hq] at hst;replace hst:sKl a0 un kr ks l kl (lv - 1) (j+1) lm=some R:=hst;have e1:(lv - 1 == kl)=false:=beq_eq_false_iff_ne.mpr hq;have e2:decide (lv - 1=kl)=false:=decide_eq_false hq
      as_aux_lemma =>
       have HN:Aside0 (j+1≤l.length∧sKl a0 un kr ks l (kl) (lv - 1) (j+1) lm=some R ∧ -((j+1:Nat):Int)≤lv - 1∧lv - 1≤((j+1:Nat):Int) ∧ -((j+1:Nat):Int) - 1≤kl∧(kl:Int)<(ks.length:Int)):=⟨by omega,hst,by omega,by omega,by omega,by omega⟩;clear hst;go_wp2;go_roundg kr
       case measure=>omega
       case rel=>exact ⟨j+1,kl,lv - 1,lm,L,zq62,zq62,zq66,rfl,HN,HF⟩
     rw [if_pos hq] at hst;replace hst:sKl a0 un kr ks l (kl - 1) (lv - 1) (j+1) lm=some R:=hst;have e1:(lv - 1 == kl)=true:=beq_iff_eq.mpr hq;have e2:decide (lv - 1=kl)=true:=decide_eq_true hq
     as_aux_lemma =>
      have HN:Aside0 (j+1≤l.length∧sKl a0 un kr ks l (kl - 1) (lv - 1) (j+1) lm=some R ∧ -((j+1:Nat):Int)≤lv - 1∧lv - 1≤((j+1:Nat):Int) ∧ -((j+1:Nat):Int) - 1≤kl - 1∧(kl - 1:Int)<(ks.length:Int)):=⟨by omega,hst,by omega,by omega,by omega,by omega⟩;clear hst;go_wp2;go_roundg kr
      case measure=>omega
      case rel=>exact ⟨j+1,kl - 1,lv - 1,lm,L,zq62,zq62,zq66,rfl,HN,HF⟩
    rw [if_neg h125] at hst;by_cases h91:x=91
    ·rw [if_pos h91] at hst;rw [h91] at hcx;clear h91 h39 hstr hns h123 h125;rw [sArr] at hst;by_cases hkv:kl=lv
     rotate_left
     ·rw [if_neg (fun h=>hkv h.1),if_neg (fun h=>hkv h.1)] at hst;have e1:(kl == lv)=false:=beq_eq_false_iff_ne.mpr hkv;have e2:decide (kl=lv)=false:=decide_eq_false hkv;clear hkv
      as_aux_lemma =>
       obtain ⟨o1,hcut,hI1,hcc⟩:=j4c HIR.out c j (by omega) HC.out.1;rw [List.length_drop] at hcut hcc;have rng:=bE_range a0 91 93 _ (l.drop j) 0 0 (Nat.le_refl _);rw [List.length_drop] at rng;have HBE:=mk0 (fun (W:World) (hb:Below wc.heap.size wc W)=>be_calls a0 a1 a2 b o1 (l.length - j) (c - j) (l.drop j) 91 93 W (hI1.below hb) List.length_drop hcc zq56)
       generalize bE a0 91 93 (l.drop j) 0 0=be at hst rng HBE
       have RNG:=mk0 rng;have HST:=mk0 hst;clear hst rng hcc hI1;have HD:=mk0 (j1h (Below.refl wc.heap.size wc));go_wp2_with fail
       refine j4d (n:=6) (S:=fun w'=>w'.cell? ⟨gc,0,none⟩=some (.bool a0)∧w'.cell? ⟨gc,1,none⟩=some (.bool a1)∧w'.cell? ⟨gc,2,none⟩=some (.int .i64 a2)∧w'.cell? ⟨gc+1,0,none⟩=some (.slice (some ⟨b,o,none⟩) l.length c)) (ds:=[4]) #[false,false,false,false,false,false] zq17 rfl rfl ⟨hc0,hc1,hc2,hdd⟩ (fun hHeld=>?_)
       generalize wc.drew=w4 at HD hHeld ⊢
       refine pure_ (i:=2) (N:=some 270) (v:=?_) (a':=?_) #[false,false,true,false,false,false] rfl rfl zq17 (fun _ _ _ h=>h) (Or.inl ⟨by rfl,?_⟩) ?_ ?_;rotate_left
       ·exact zl2
       rotate_left
       ·exact zl0
       refine take_ (i:=0) (N:=some 268) (v:=?_) (a':=?_) #[true,false,true,false,false,false] rfl rfl zq17 (fun _ _ _ h=>h) (Or.inl ⟨by rfl,?_⟩) hHeld ?_ ?_;rotate_left
       ·exact zl11
       rotate_left
       ·exact zl0
       refine take_ (i:=1) (N:=some 269) (v:=?_) (a':=?_) #[true,true,true,false,false,false] rfl rfl zq17 (fun _ _ _ h=>h) (Or.inl ⟨by rfl,?_⟩) hHeld ?_ ?_;rotate_left
       ·exact zl11
       rotate_left
       ·exact zl0
       refine pure_ (i:=3) (N:=some 271) (v:=?_) (a':=?_) #[true,true,true,true,false,false] rfl rfl zq17 (fun _ _ _ h=>h) (Or.inl ⟨by rfl,?_⟩) ?_ ?_;rotate_left
       ·exact zl2
       rotate_left
       ·exact zl0
       refine last_ (i:=4) (N:=some 272) #[true,true,true,true,true,false] rfl rfl zq17 zq56 (fun K hK=>?_);refine goes_ Tryd.func77 zq17 rfl #[.agg #[.bool a0, .bool a1, .int .i64 a2], .slice (some ⟨b,o1,none⟩) (l.length - j) (c - j), .int .u8 91, .int .u8 93] (by rfl) rfl rfl zq39 ?_;with_reducible refine (HBE.out _ HD.out).mono ?_
       rintro e_ w5 ⟨rfl,hb⟩;refine ⟨_,rfl,?_⟩;have HF5:=mk0 (And.intro (HF.out.1.carry (j1m HD.out hb)) HF.out.2);clear hb;refine hK.out _ _ ?_;clear hK K;refine norm_ (a':=?_) ?_ ?_;rotate_left
       ·show Act.put _ (some 272) _=_
        exact zl0
       refine pure_ (i:=5) (N:=some 34) (v:=?_) (a':=?_) #[true,true,true,true,true,true] rfl rfl zq17 (fun _ _ _ h=>h) (Or.inl ⟨by rfl,?_⟩) ?_ ?_;rotate_left
       ·exact zl2
       rotate_left
       ·exact zl0
       refine done_ zq17 ?_;rcases RNG.out with h1|⟨m,h1,h2,h3⟩
       ·exact zl13
       ·have hst:=HST.out;rw [h1,if_neg (by omega),Int.toNat_natCast] at hst;replace hst:sKl a0 un kr ks l kl lv (j+m) lm=some R:=hst;have f1:((m:Int) == -1)=false:=beq_eq_false_iff_ne.mpr (by omega);have f2:decide ((m:Int) = -1)=false:=decide_eq_false (by omega);have hmb:m≤2147483647:=by omega
        rw [h1];clear h1
        as_aux_lemma =>
         have HN:Aside0 (j+m≤l.length∧sKl a0 un kr ks l (kl) (lv) (j+m) lm=some R ∧ -((j+m:Nat):Int)≤lv∧lv≤((j+m:Nat):Int) ∧ -((j+m:Nat):Int) - 1≤kl∧(kl:Int)<(ks.length:Int)):=⟨by omega,hst,by omega,by omega,by omega,by omega⟩;clear hst;go_wp2;go_roundg kr
         case measure=>omega
         case rel=>exact ⟨j+m,kl,lv,lm,L,zq62,zq62,zq66,rfl,HN,HF5⟩
     subst hkv;by_cases hneg:kl<0
     ·rw [if_pos ⟨rfl,hneg⟩] at hst;cases hst
     obtain ⟨v,rfl⟩:∃ v:Nat,kl=(v:Int):=⟨kl.toNat,by omega⟩;rw [if_neg (fun h=>hneg h.2),Int.toNat_natCast] at hst;clear hneg;have hvk:v<ks.length:=by omega
     have hkc:=((HK.out.1.below HB1.out).below HF.out.1.below).cell v hvk;have hsz:=HK.out.1.sz (ks.getD v default) (by rw [List.getD_eq_getElem?_getD,List.getElem?_eq_getElem hvk];exact List.getElem_mem hvk);obtain ⟨s,hs⟩:∃ s,s=ks.getD v default:=⟨_,rfl⟩;rw [← hs] at hst hkc hsz;have HSS:=mk0 hs;clear hs;have t4:(0≤(v:Int))=True:=eq_true (by omega);have t5:((v:Int)<(ks.length:Int))=True:=eq_true (by omega);by_cases hix:isIx s=true
     rotate_left
     ·rw [if_neg (fun h=>hix h.2)] at hst;by_cases h0:0<s.size
      rotate_left
      ·have r0:decide (0<s.size)=false:=decide_eq_false h0;have r1:decide ((0:Int)<(s.size:Int))=false:=decide_eq_false (by omega);clear hix
       as_aux_lemma =>
        obtain ⟨o1,hcut,hI1,hcc⟩:=j4c HIR.out c j (by omega) HC.out.1;rw [List.length_drop] at hcut hcc;have rng:=bE_range a0 91 93 _ (l.drop j) 0 0 (Nat.le_refl _);rw [List.length_drop] at rng;have HBE:=mk0 (fun (W:World) (hb:Below wc.heap.size wc W)=>be_calls a0 a1 a2 b o1 (l.length - j) (c - j) (l.drop j) 91 93 W (hI1.below hb) List.length_drop hcc zq56)
        generalize bE a0 91 93 (l.drop j) 0 0=be at hst rng HBE
        have RNG:=mk0 rng;have HST:=mk0 hst;clear hst rng hcc hI1;have HD:=mk0 (j1h (Below.refl wc.heap.size wc));go_wp2_with fail
        refine j4d (n:=6) (S:=fun w'=>w'.cell? ⟨gc,0,none⟩=some (.bool a0)∧w'.cell? ⟨gc,1,none⟩=some (.bool a1)∧w'.cell? ⟨gc,2,none⟩=some (.int .i64 a2)∧w'.cell? ⟨gc+1,0,none⟩=some (.slice (some ⟨b,o,none⟩) l.length c)) (ds:=[4]) #[false,false,false,false,false,false] zq17 rfl rfl ⟨hc0,hc1,hc2,hdd⟩ (fun hHeld=>?_)
        generalize wc.drew=w4 at HD hHeld ⊢
        refine pure_ (i:=2) (N:=some 270) (v:=?_) (a':=?_) #[false,false,true,false,false,false] rfl rfl zq17 (fun _ _ _ h=>h) (Or.inl ⟨by rfl,?_⟩) ?_ ?_;rotate_left
        ·exact zl2
        rotate_left
        ·exact zl0
        refine take_ (i:=0) (N:=some 268) (v:=?_) (a':=?_) #[true,false,true,false,false,false] rfl rfl zq17 (fun _ _ _ h=>h) (Or.inl ⟨by rfl,?_⟩) hHeld ?_ ?_;rotate_left
        ·exact zl11
        rotate_left
        ·exact zl0
        refine take_ (i:=1) (N:=some 269) (v:=?_) (a':=?_) #[true,true,true,false,false,false] rfl rfl zq17 (fun _ _ _ h=>h) (Or.inl ⟨by rfl,?_⟩) hHeld ?_ ?_;rotate_left
        ·exact zl11
        rotate_left
        ·exact zl0
        refine pure_ (i:=3) (N:=some 271) (v:=?_) (a':=?_) #[true,true,true,true,false,false] rfl rfl zq17 (fun _ _ _ h=>h) (Or.inl ⟨by rfl,?_⟩) ?_ ?_;rotate_left
        ·exact zl2
        rotate_left
        ·exact zl0
        refine last_ (i:=4) (N:=some 272) #[true,true,true,true,true,false] rfl rfl zq17 zq56 (fun K hK=>?_);refine goes_ Tryd.func77 zq17 rfl #[.agg #[.bool a0, .bool a1, .int .i64 a2], .slice (some ⟨b,o1,none⟩) (l.length - j) (c - j), .int .u8 91, .int .u8 93] (by rfl) rfl rfl zq39 ?_;with_reducible refine (HBE.out _ HD.out).mono ?_
        rintro e_ w5 ⟨rfl,hb⟩;refine ⟨_,rfl,?_⟩;have HF5:=mk0 (And.intro (HF.out.1.carry (j1m HD.out hb)) HF.out.2);clear hb;refine hK.out _ _ ?_;clear hK K;refine norm_ (a':=?_) ?_ ?_;rotate_left
        ·show Act.put _ (some 272) _=_
         exact zl0
        refine pure_ (i:=5) (N:=some 34) (v:=?_) (a':=?_) #[true,true,true,true,true,true] rfl rfl zq17 (fun _ _ _ h=>h) (Or.inl ⟨by rfl,?_⟩) ?_ ?_;rotate_left
        ·exact zl2
        rotate_left
        ·exact zl0
        refine done_ zq17 ?_;rcases RNG.out with h1|⟨m,h1,h2,h3⟩
        ·exact zl13
        ·have hst:=HST.out;rw [h1,if_neg (by omega),Int.toNat_natCast] at hst;replace hst:sKl a0 un kr ks l ↑v ↑v (j+m) lm=some R:=hst;have f1:((m:Int) == -1)=false:=beq_eq_false_iff_ne.mpr (by omega);have f2:decide ((m:Int) = -1)=false:=decide_eq_false (by omega);have hmb:m≤2147483647:=by omega
         rw [h1];clear h1
         as_aux_lemma =>
          have HN:Aside0 (j+m≤l.length∧sKl a0 un kr ks l (↑v) (↑v) (j+m) lm=some R ∧ -((j+m:Nat):Int) ≤ ↑v ∧ ↑v≤((j+m:Nat):Int) ∧ -((j+m:Nat):Int) - 1 ≤ ↑v∧(↑v:Int)<(ks.length:Int)):=⟨by omega,hst,by omega,by omega,by omega,by omega⟩;clear hst;go_wp2;go_roundg kr
          case measure=>omega
          case rel=>exact ⟨j+m,↑v,↑v,lm,L,zq62,zq62,zq66,rfl,HN,HF5⟩
      have hb0:¬ (bytesOf s).getD 0 0=91:=fun h=>hix (decide_eq_true ⟨h0,h⟩)
      rw [get_bytes s 0 h0] at hb0;have p0:((((s[0]'h0).toNat:Nat):Int) == 91)=false:=beq_eq_false_iff_ne.mpr hb0;have q0:decide ((((s[0]'h0).toNat:Nat):Int)=91)=false:=decide_eq_false hb0;have r0:decide (0<s.size)=true:=decide_eq_true h0;have r1:decide ((0:Int)<(s.size:Int))=true:=decide_eq_true (by omega);clear hix hb0
      as_aux_lemma =>
       obtain ⟨o1,hcut,hI1,hcc⟩:=j4c HIR.out c j (by omega) HC.out.1;rw [List.length_drop] at hcut hcc;have rng:=bE_range a0 91 93 _ (l.drop j) 0 0 (Nat.le_refl _);rw [List.length_drop] at rng;have HBE:=mk0 (fun (W:World) (hb:Below wc.heap.size wc W)=>be_calls a0 a1 a2 b o1 (l.length - j) (c - j) (l.drop j) 91 93 W (hI1.below hb) List.length_drop hcc zq56)
       generalize bE a0 91 93 (l.drop j) 0 0=be at hst rng HBE
       have RNG:=mk0 rng;have HST:=mk0 hst;clear hst rng hcc hI1;have HD:=mk0 (j1h (Below.refl wc.heap.size wc));go_wp2_with fail
       refine j4d (n:=6) (S:=fun w'=>w'.cell? ⟨gc,0,none⟩=some (.bool a0)∧w'.cell? ⟨gc,1,none⟩=some (.bool a1)∧w'.cell? ⟨gc,2,none⟩=some (.int .i64 a2)∧w'.cell? ⟨gc+1,0,none⟩=some (.slice (some ⟨b,o,none⟩) l.length c)) (ds:=[4]) #[false,false,false,false,false,false] zq17 rfl rfl ⟨hc0,hc1,hc2,hdd⟩ (fun hHeld=>?_)
       generalize wc.drew=w4 at HD hHeld ⊢
       refine pure_ (i:=2) (N:=some 270) (v:=?_) (a':=?_) #[false,false,true,false,false,false] rfl rfl zq17 (fun _ _ _ h=>h) (Or.inl ⟨by rfl,?_⟩) ?_ ?_;rotate_left
       ·exact zl2
       rotate_left
       ·exact zl0
       refine take_ (i:=0) (N:=some 268) (v:=?_) (a':=?_) #[true,false,true,false,false,false] rfl rfl zq17 (fun _ _ _ h=>h) (Or.inl ⟨by rfl,?_⟩) hHeld ?_ ?_;rotate_left
       ·exact zl11
       rotate_left
       ·exact zl0
       refine take_ (i:=1) (N:=some 269) (v:=?_) (a':=?_) #[true,true,true,false,false,false] rfl rfl zq17 (fun _ _ _ h=>h) (Or.inl ⟨by rfl,?_⟩) hHeld ?_ ?_;rotate_left
       ·exact zl11
       rotate_left
       ·exact zl0
       refine pure_ (i:=3) (N:=some 271) (v:=?_) (a':=?_) #[true,true,true,true,false,false] rfl rfl zq17 (fun _ _ _ h=>h) (Or.inl ⟨by rfl,?_⟩) ?_ ?_;rotate_left
       ·exact zl2
       rotate_left
       ·exact zl0
       refine last_ (i:=4) (N:=some 272) #[true,true,true,true,true,false] rfl rfl zq17 zq56 (fun K hK=>?_);refine goes_ Tryd.func77 zq17 rfl #[.agg #[.bool a0, .bool a1, .int .i64 a2], .slice (some ⟨b,o1,none⟩) (l.length - j) (c - j), .int .u8 91, .int .u8 93] (by rfl) rfl rfl zq39 ?_;with_reducible refine (HBE.out _ HD.out).mono ?_
       rintro e_ w5 ⟨rfl,hb⟩;refine ⟨_,rfl,?_⟩;have HF5:=mk0 (And.intro (HF.out.1.carry (j1m HD.out hb)) HF.out.2);clear hb;refine hK.out _ _ ?_;clear hK K;refine norm_ (a':=?_) ?_ ?_;rotate_left
       ·show Act.put _ (some 272) _=_
        exact zl0
       refine pure_ (i:=5) (N:=some 34) (v:=?_) (a':=?_) #[true,true,true,true,true,true] rfl rfl zq17 (fun _ _ _ h=>h) (Or.inl ⟨by rfl,?_⟩) ?_ ?_;rotate_left
       ·exact zl2
       rotate_left
       ·exact zl0
       refine done_ zq17 ?_;rcases RNG.out with h1|⟨m,h1,h2,h3⟩
       ·exact zl13
       ·have hst:=HST.out;rw [h1,if_neg (by omega),Int.toNat_natCast] at hst;replace hst:sKl a0 un kr ks l ↑v ↑v (j+m) lm=some R:=hst;have f1:((m:Int) == -1)=false:=beq_eq_false_iff_ne.mpr (by omega);have f2:decide ((m:Int) = -1)=false:=decide_eq_false (by omega);have hmb:m≤2147483647:=by omega
        rw [h1];clear h1
        as_aux_lemma =>
         have HN:Aside0 (j+m≤l.length∧sKl a0 un kr ks l (↑v) (↑v) (j+m) lm=some R ∧ -((j+m:Nat):Int) ≤ ↑v ∧ ↑v≤((j+m:Nat):Int) ∧ -((j+m:Nat):Int) - 1 ≤ ↑v∧(↑v:Int)<(ks.length:Int)):=⟨by omega,hst,by omega,by omega,by omega,by omega⟩;clear hst;go_wp2;go_roundg kr
         case measure=>omega
         case rel=>exact ⟨j+m,↑v,↑v,lm,L,zq62,zq62,zq66,rfl,HN,HF5⟩
     as_aux_lemma =>
      rw [if_pos ⟨rfl,hix⟩] at hst;obtain ⟨hp,hb0⟩:0<s.size∧(bytesOf s).getD 0 0=91:=of_decide_eq_true hix;rw [get_bytes s 0 hp] at hb0;obtain ⟨x0,hst,hfin⟩:=Option.bind_eq_some_iff.mp hst;obtain ⟨ai,hkx,hst⟩:=Option.bind_eq_some_iff.mp hst;obtain ⟨⟨cs,E⟩,hae,hst⟩:=Option.bind_eq_some_iff.mp hst;simp only at hst;rw [kIdx] at hkx;split at hkx
      case isFalse=>cases hkx
      case isTrue hk3 =>
      obtain ⟨hs3,hs20,hb1⟩:=hk3;rw [get_bytes s (s.size - 1) (by omega)] at hb1;have p0:((((s[0]'hp).toNat:Nat):Int) == 91)=true:=beq_iff_eq.mpr hb0;have p1:((((s[s.size - 1]'(by omega)).toNat:Nat):Int) != 93)=false:=bne_eq_false_iff_eq.mpr hb1;have r3:(3:Int)≤(s.size:Int):=by omega
      have hsl:=slc_str s (by omega);have hz:(s.extract 1 (s.size - 1)).size≤18:=by rw [ByteArray.size_extract];omega
      have HAT:=mk0 (atoi_c (s.extract 1 (s.size - 1)) ai hz hkx wc);have hmf:∀ (fn:Fn) (first cap:Array Value) (w:World),(Instr.makeFunc fn first cap).run Tryd.prog w = .ok (.func fn first cap) w:=fun _ _ _ _=>rfl
      have hbD:wc.heap[gc+1]? = some (.cells #[.slice (some ⟨b,o,none⟩) l.length c] 55 (0,0)):=HBD.out _ HF.out.1;have HBDc:=mk0 hbD;have HST:=mk0 hst;have HFIN:=mk0 hfin;have HAE0:=mk0 hae;clear hix hb0 hst hfin hkx hae hb1 hz hbD;go_upto_region 78 with (go_at_call 78;(with_reducible refine HAT.out.mono ?_);rintro e_ w3 ⟨rfl,hb3⟩;have HB3:=mk0 hb3;clear hb3)
      have hB4:=j1g (j1g (j1g (j1g (j1g HB3.out (.cells #[.int .i64 ai] 3)) (.cells #[.int .i64 0] 3)) (.cells #[.slice none 0 0] 55)) (.cells #[.int .i64 0] 3)) (.cells #[.int .i64 (j:Int)] 3);have hCI:=CI.start (w:=w) (b:=b) (l:=l) (j:=j) (ai:=ai) (cs:=cs) (j1m HF.out.1.below HB3.out) ((HB3.out.block _ (j3w HBDc.out)).trans HBDc.out);have hpA:gs<w3.heap.size:=Nat.lt_of_lt_of_le (j3w HF.out.1.blk) HB3.out.size;obtain ⟨w4,hw4⟩:∃ w4,w4=((((w3.alloc (.cells #[.int .i64 ai] 3)).alloc (.cells #[.int .i64 0] 3)).alloc (.cells #[.slice none 0 0] 55)).alloc (.cells #[.int .i64 0] 3)).alloc (.cells #[.int .i64 (j:Int)] 3):=⟨_,rfl⟩;rw [← hw4] at hB4 hCI ⊢;clear hw4;obtain ⟨pA,hpq⟩:∃ pA,pA=w3.heap.size:=⟨_,rfl⟩;rw [← hpq] at hCI hpA ⊢;clear hpq;have HB4:=mk0 hB4;have HCI:=mk0 hCI;have HPA:=mk0 hpA;have hx0:=(j2p HB4.out (World.block_lt_of_cell? _ _ hc0)).trans hc0;have hx1:=(j2p HB4.out (World.block_lt_of_cell? _ _ hc1)).trans hc1;have hx2:=(j2p HB4.out (World.block_lt_of_cell? _ _ hc2)).trans hc2;have hxd:=(j2p HB4.out (World.block_lt_of_cell? _ _ hdd)).trans hdd;obtain ⟨o1,hcut,hI1,hcc⟩:=j4c HI.out c j (by omega) HC.out.1;rw [List.length_drop] at hcut;have HAEC:=mk0 (fun (W:World) (hb:Below w4.heap.size w4 W)=>ae_calls a0 a1 a2 b o1 (c - j) (l.drop j) w W (S3 (pA+1) (pA+1+1) (pA+1+1+1)) (fun r W=>CI w w1 b l j (pA+1) pA (pA+1+1) (pA+1+1+1) (gc+1) (pA+1+1+1+1) ai (.slice (some ⟨b,o,none⟩) l.length c) cs r W) (.pointer (some ⟨pA+1,0,none⟩)) (.pointer (some ⟨pA,0,none⟩)) (.pointer (some ⟨pA+1+1,0,none⟩)) (.pointer (some ⟨pA+1+1+1,0,none⟩)) (.pointer (some ⟨gc+1,0,none⟩)) (.pointer (some ⟨pA+1+1+1+1,0,none⟩)) cs E HT.out hI1 hcc (HCI.out.carry hb).lt HAE0.out (HCI.out.carry hb) (fun r W h=>j1m HB1.out h.below) (fun r W W' h hb=>h.carry hb) (fun x r W o1 h _ hI=>CI.cb HI.out HC.out.1 HC.out.2 hjl HAE0.out x r W o1 h hI));rw [List.length_drop] at HAEC;have HD:=mk0 (j1h (Below.refl w4.heap.size w4))
      have hnG:¬ S3 (pA+1) (pA+1+1) (pA+1+1+1) gc:=by
       have:=HGC.out;rintro (h|h|h)<;>omega
      have HNG:=mk0 hnG;clear hB4 hCI hpA hI1 hcc hnG hc0 hc1 hc2 hdd hkc;go_wp2_with fail
      refine j4d (n:=6) (S:=fun w'=>w'.cell? ⟨gc,0,none⟩=some (.bool a0)∧w'.cell? ⟨gc,1,none⟩=some (.bool a1)∧w'.cell? ⟨gc,2,none⟩=some (.int .i64 a2)∧w'.cell? ⟨gc+1,0,none⟩=some (.slice (some ⟨b,o,none⟩) l.length c)) (ds:=[5]) #[false,false,false,false,false,false] zq17 rfl rfl ⟨hx0,hx1,hx2,hxd⟩ (fun hHeld=>?_)
      generalize w4.drew=w5 at HD hHeld ⊢
      refine pure_ (i:=2) (N:=some 248) (v:=?_) (a':=?_) #[false,false,true,false,false,false] rfl rfl zq17 (fun _ _ _ h=>h) (Or.inl ⟨by rfl,?_⟩) ?_ ?_;rotate_left
      ·exact zl2
      rotate_left
      ·exact zl0
      refine pure_ (i:=4) (N:=some 250) (v:=?_) (a':=?_) #[false,false,true,false,true,false] rfl rfl zq17 (fun _ _ _ h=>h) (Or.inl ⟨by rfl,?_⟩) ?_ ?_;rotate_left
      ·exact zl2
      rotate_left
      ·exact zl0
      refine take_ (i:=0) (N:=some 246) (v:=?_) (a':=?_) #[true,false,true,false,true,false] rfl rfl zq17 (fun _ _ _ h=>h) (Or.inl ⟨by rfl,?_⟩) hHeld ?_ ?_;rotate_left
      ·exact zl11
      rotate_left
      ·exact zl0
      refine take_ (i:=1) (N:=some 247) (v:=?_) (a':=?_) #[true,true,true,false,true,false] rfl rfl zq17 (fun _ _ _ h=>h) (Or.inl ⟨by rfl,?_⟩) hHeld ?_ ?_;rotate_left
      ·exact zl11
      rotate_left
      ·exact zl0
      refine pure_ (i:=3) (N:=some 249) (v:=?_) (a':=?_) #[true,true,true,true,true,false] rfl rfl zq17 (fun _ _ _ h=>h) (Or.inl ⟨by rfl,?_⟩) ?_ ?_;rotate_left
      ·exact zl2
      rotate_left
      ·exact zl0
      refine last_ (i:=5) (N:=some 251) #[true,true,true,true,true,true] rfl rfl zq17 zq56 (fun K hK=>?_);refine goes_ Tryd.func79 zq17 rfl #[.agg #[.bool a0, .bool a1, .int .i64 a2], .slice (some ⟨b,o1,none⟩) (l.length - j) (c - j), .func (.func 80) #[] #[.pointer (some ⟨pA+1,0,none⟩), .pointer (some ⟨pA,0,none⟩), .pointer (some ⟨pA+1+1,0,none⟩), .pointer (some ⟨pA+1+1+1,0,none⟩), .pointer (some ⟨gc+1,0,none⟩), .pointer (some ⟨pA+1+1+1+1,0,none⟩)], .slice none 0 0] (by rfl) rfl rfl zq39 ?_;with_reducible refine (HAEC.out _ HD.out).mono ?_
      rintro e_ w6 ⟨rfl,hv,hk⟩;refine ⟨_,rfl,?_⟩;have HV6:=mk0 hv;have HK6:=mk0 ((KS.below HD.out).trans hk);clear hv hk;refine hK.out _ _ ?_;clear hK K;refine norm_ (a':=?_) ?_ ?_;rotate_left
      ·show Act.put _ (some 251) _=_
       exact zl0
      refine done_ zq17 ?_;have hy0:=HK6.out.cell (a:=⟨gc,0,none⟩) HNG.out hx0;have hy1:=HK6.out.cell (a:=⟨gc,1,none⟩) HNG.out hx1;have hy2:=HK6.out.cell (a:=⟨gc,2,none⟩) HNG.out hx2;clear hHeld hx0 hx1 hx2 hxd hcut hmf hsl;by_cases hfa:0≤ai∧ai<(cs.length:Int)
      rotate_left
      ·have hst:=HST.out;rw [if_neg hfa] at hst;have hfin:=HFIN.out;rw [← Option.some.inj hst] at hfin;have HS:Aside0 (-1=R):=⟨Option.some.inj hfin⟩;have hcV:=HV6.out.gone hfa;clear hst hfin hfa;have hnq:∀ W:World,(binOp .eql 55 (.slice none 0 0) (.slice none 0 0)).run Tryd.prog W = .ok (.bool true) W:=nil_eq none 0 0;go_wp2;go_ret;exact ⟨by rw [← HS.out];rfl,j1m HB1.out HV6.out.below⟩
      have hst:=HST.out;rw [if_pos hfa] at hst;have hfin:=HFIN.out;rw [← Option.some.inj hst] at hfin;simp only [HAE0.out,Option.bind_some] at hfin;obtain ⟨x,o4,c4,hxi,hcV,hI4,hc4,hc4m,hcO⟩:=HV6.out.found hfa;rw [hxi,Option.bind_some] at hfin;obtain ⟨r,hr,hfin⟩:=Option.bind_eq_some_iff.mp hfin;have hr2:sK a0 un kr (ks.drop (v+1)) ((l.drop (j+(pick x).1)).take (pick x).2)=some r:=hr;have rng:=sK_range hr2;have hpk:=pick_ok ((aE_ok HAE0.out).2 x (List.mem_of_getElem? hxi));rw [List.length_drop] at hpk;have hlen:((l.drop (j+(pick x).1)).take (pick x).2).length=(pick x).2:=by rw [List.length_take,List.length_drop];omega
      rw [hlen] at rng;obtain ⟨ko2,hkcut,hK2,hkc2⟩:=cut_keys HK.out.1 kc (v+1) (by omega) HK.out.2;have HIHX:=mk0 (fun (W:World) (hb:Below w.heap.size w W)=>HIH.out kr (ks.drop (v+1)) _ b o4 c4 kb ko2 (kc - (v+1)) W r (by rw [List.length_drop];have:=HM.out;omega) (HT.out.below hb) (hI4.below hb) (by rw [hlen];exact hc4) hc4m (hK2.below hb) (by rw [List.length_drop];exact hkc2) hr2);rw [hlen,List.length_drop] at HIHX
      push_cast at hkcut
      have HFIN2:=mk0 hfin;have RNG:=mk0 rng;clear hfin rng hr hr2 hlen hK2 hkc2 hI4 hc4 hc4m hxi hst hfa
      generalize (pick x).1=p1 at HFIN2 hcO hpk
      generalize (pick x).2=p2 at RNG hcV HIHX hpk
      have hwr:IntKind.i64.wrap ((v:Int)+1)=(v:Int)+1:=IntWalk.i64_in _ (by omega);have hnq:∀ W:World,(binOp .eql 55 (.slice (some ⟨b,o4,none⟩) p2 c4) (.slice none 0 0)).run Tryd.prog W = .ok (.bool false) W:=nil_eq (some ⟨b,o4,none⟩) p2 c4;have HD7:=mk0 (j1h (Below.refl w6.heap.size w6));have HB6:=mk0 (j1m HB1.out HV6.out.below);have hltO:=World.block_lt_of_cell? _ _ hcO;go_wp2_with fail
      refine j4d (n:=8) (S:=fun w'=>w'.cell? ⟨gc,0,none⟩=some (.bool a0)∧w'.cell? ⟨gc,1,none⟩=some (.bool a1)∧w'.cell? ⟨gc,2,none⟩=some (.int .i64 a2)∧w'.cell? ⟨pA+1+1,0,none⟩=some (.slice (some ⟨b,o4,none⟩) p2 c4)) (ds:=[6]) #[false,false,false,false,false,false,false,false] zq17 rfl rfl ⟨hy0,hy1,hy2,hcV⟩ (fun hHeld=>?_)
      generalize w6.drew=w7 at HD7 hHeld ⊢
      refine pure_ (i:=2) (N:=some 256) (v:=?_) (a':=?_) #[false,false,true,false,false,false,false,false] rfl rfl zq17 (fun _ _ _ h=>h) (Or.inl ⟨by rfl,?_⟩) ?_ ?_;rotate_left
      ·exact zl2
      rotate_left
      ·exact zl0
      refine pure_ (i:=3) (N:=some 257) (v:=?_) (a':=?_) #[false,false,true,true,false,false,false,false] rfl rfl zq17 (fun _ _ _ h=>h) (Or.inl ⟨by rfl,?_⟩) ?_ ?_;rotate_left
      ·exact zl2
      rotate_left
      ·exact zl0
      refine pure_ (i:=4) (N:=some 258) (v:=?_) (a':=?_) #[false,false,true,true,true,false,false,false] rfl rfl zq17 (fun _ _ _ h=>h) (Or.inl ⟨by rfl,?_⟩) ?_ ?_;rotate_left
      ·exact zl2
      rotate_left
      ·exact zl0
      refine pure_ (i:=5) (N:=some 259) (v:=?_) (a':=?_) #[false,false,true,true,true,true,false,false] rfl rfl zq17 (fun _ _ _ h=>h) (Or.inl ⟨by rfl,?_⟩) ?_ ?_;rotate_left
      ·exact zl2
      rotate_left
      ·exact zl0
      refine take_ (i:=0) (N:=some 254) (v:=?_) (a':=?_) #[true,false,true,true,true,true,false,false] rfl rfl zq17 (fun _ _ _ h=>h) (Or.inl ⟨by rfl,?_⟩) hHeld ?_ ?_;rotate_left
      ·exact zl11
      rotate_left
      ·exact zl0
      refine take_ (i:=1) (N:=some 255) (v:=?_) (a':=?_) #[true,true,true,true,true,true,false,false] rfl rfl zq17 (fun _ _ _ h=>h) (Or.inl ⟨by rfl,?_⟩) hHeld ?_ ?_;rotate_left
      ·exact zl11
      rotate_left
      ·exact zl0
      refine last_ (i:=6) (N:=some 260) #[true,true,true,true,true,true,true,false] rfl rfl zq17 zq56 (fun K hK=>?_);refine goes_ Tryd.func58 zq17 rfl #[.agg #[.bool a0, .bool a1, .int .i64 a2], .slice (some ⟨b,o4,none⟩) p2 c4, .slice (some ⟨kb,ko2,none⟩) (ks.length - (v+1)) (kc - (v+1))] (by rfl) rfl rfl zq39 ?_;with_reducible refine (HIHX.out _ (j1m HB6.out HD7.out)).mono ?_
      rintro e_ w8 ⟨rfl,hb⟩;refine ⟨_,rfl,?_⟩;have HB8:=mk0 (j1m HD7.out hb);have hcO8:=(j2p HB8.out hltO).trans hcO;clear hb hcO hltO;refine hK.out _ _ ?_;clear hK K;refine norm_ (a':=?_) ?_ ?_;rotate_left
      ·show Act.put _ (some 260) _=_
       exact zl0
      refine pure_ (i:=7) (N:=some 33) (v:=?_) (a':=?_) #[true,true,true,true,true,true,true,true] rfl rfl zq17 (fun _ _ _ h=>h) (Or.inl ⟨by rfl,?_⟩) ?_ ?_;rotate_left
      ·exact zl2
      rotate_left
      ·exact zl0
      refine done_ zq17 ?_;clear hwr;rcases RNG.out with h1|⟨m,h1,h2⟩
      ·have hfin:=HFIN2.out;rw [h1,if_pos zq56] at hfin;have HS:Aside0 (-1=R):=⟨Option.some.inj hfin⟩;rw [h1];clear hfin h1;go_wp2;go_ret;exact ⟨by rw [← HS.out];rfl,j1m HB6.out HB8.out⟩
      ·have hfin:=HFIN2.out;rw [h1,if_neg (by omega)] at hfin;have HS:Aside0 (((j+p1:Nat):Int)+(m:Int)=R):=⟨Option.some.inj hfin⟩;have f1:decide ((m:Int)<0)=false:=decide_eq_false (by omega);rw [h1];clear hfin h1;go_wp2;go_ret;exact ⟨by rw [← HS.out,Int.natCast_add];rfl,j1m HB6.out HB8.out⟩
    rw [if_neg h91] at hst;by_cases h58:x=58
    ·rw [if_pos h58] at hst;have HS:Aside0 (-1=R):=⟨Option.some.inj hst⟩;rw [h58] at hcx;clear h58 h91 h39 hstr hns h123 h125 hst
     as_aux_lemma =>
      go_wp2;go_ret;exact ⟨by rw [← HS.out];rfl,j1m HB1.out HF.out.1.below⟩
    rw [if_neg h58] at hst;replace hst:sKl a0 un kr ks l kl lv (j+1) lm=some R:=hst;have h34:x≠34:=fun h=>hstr (.inl h)
    have p34:(x == 34)=false:=beq_eq_false_iff_ne.mpr h34;have q34:decide (x=34)=false:=decide_eq_false h34;have p39:(x == 39)=false:=beq_eq_false_iff_ne.mpr h39;have q39:decide (x=39)=false:=decide_eq_false h39;have p123:(x == 123)=false:=beq_eq_false_iff_ne.mpr h123;have q123:decide (x=123)=false:=decide_eq_false h123;have p125:(x == 125)=false:=beq_eq_false_iff_ne.mpr h125;have q125:decide (x=125)=false:=decide_eq_false h125;have p91:(x == 91)=false:=beq_eq_false_iff_ne.mpr h91;have q91:decide (x=91)=false:=decide_eq_false h91;have p58:(x == 58)=false:=beq_eq_false_iff_ne.mpr h58;have q58:decide (x=58)=false:=decide_eq_false h58;clear h34 h58 h91 h39 hstr hns h123 h125
    as_aux_lemma =>
     have HN:Aside0 (j+1≤l.length∧sKl a0 un kr ks l (kl) (lv) (j+1) lm=some R ∧ -((j+1:Nat):Int)≤lv∧lv≤((j+1:Nat):Int) ∧ -((j+1:Nat):Int) - 1≤kl∧(kl:Int)<(ks.length:Int)):=⟨by omega,hst,by omega,by omega,by omega,by omega⟩;clear hst;go_wp2;go_roundg kr
     case measure=>omega
     case rel=>exact ⟨j+1,kl,lv,lm,L,zq62,zq62,zq66,rfl,HN,HF⟩
end
theorem stp_mono (k : Nat) (l:List Int):LeO (stp k l) (stp (k+1) l):=by
 unfold stp;exact LeO.ite (LeO.refl _) (LeO.ite (LeO.ite (LeO.refl _) (LeO.ite (LeO.bind (j1q.mono _ _) (fun _=>LeO.refl _)) (LeO.refl _))) (LeO.refl _))
theorem jun_mono (k : Nat):∀ (f:Nat) (l E:List Int),LeO (jun k f l E) (jun (k+1) (f+1) l E)
 | 0,_,_=>fun r h=>by simp [jun] at h
 | f+1,l,E=>by
  rw [jun,jun];exact LeO.bind (stp_mono k l) (fun _=>LeO.ite (LeO.refl _) (LeO.ite (LeO.ite (LeO.refl _) (jun_mono k f _ _)) (LeO.refl _)))
theorem unc_mono (k : Nat) (l:List Int):LeO (unc k l) (unc (k+1) l):=by
 unfold unc;exact LeO.ite (LeO.refl _) (jun_mono k k _ _)
theorem in_bytes (w : World) (s:ByteArray) (hs:s.size≤2147483647):IN (Lib.bytesWorld w 5 s) w.heap.size 0 (bytesOf s):=by
 refine ⟨fun i hi=>?_,by rw [Lib.bytesWorld_size];omega,J.bytesOf_range s,by rw [bytesOf_length];exact hs⟩;rw [bytesOf_length] at hi;obtain ⟨ad,e,h⟩:=(bytes_reads w 5 s (by omega)).2.2 (by omega);cases e;have:=h i hi;rw [add_at] at this;exact this
theorem sStep_mono {un un' : List Int→Option (Option (List Int))} (h:∀ l,LeO (un l) (un' l)) (sq:Bool) (ks:List ByteArray) (l:List Int) (kl lv:Int) (i:Nat) (lm:Bool):LeO (sStep sq un ks l kl lv i lm) (sStep sq un' ks l kl lv i lm):=by
 unfold sStep sStr
 repeat' first
  | exact LeO.refl _
  | exact h _
  | refine LeO.ite ?_ ?_
  | refine LeO.bind ?_ (fun _=>?_)
theorem sKl_mono {un un' : List Int→Option (Option (List Int))} (h:∀ l,LeO (un l) (un' l)) (sq:Bool):∀ (n:Nat) (ks:List ByteArray) (l:List Int) (kl lv:Int) (i:Nat) (lm:Bool),LeO (sKl sq un n ks l kl lv i lm) (sKl sq un' (n+1) ks l kl lv i lm)
 | 0,_,_,_,_,_,_=>fun r h=>by simp [sKl] at h
 | n+1,ks,l,kl,lv,i,lm=>by
  rw [sKl,sKl];refine LeO.ite (LeO.refl _) (LeO.bind (sStep_mono h _ _ _ _ _ _ _) (fun r=>?_));cases r with
  | done r=>exact LeO.refl _
  | go kl' lv' i' lm'=>exact sKl_mono h sq n _ _ _ _ _ _
  | sub m=>exact LeO.bind (LeO.refl _) (fun _=>LeO.bind (LeO.refl _) (fun _=>LeO.bind (LeO.ite (LeO.refl _) (sKl_mono h sq n _ _ _ _ _ _)) (fun _=>LeO.refl _)))
theorem sK_mono {un un' : List Int→Option (Option (List Int))} (h:∀ l,LeO (un l) (un' l)) (sq:Bool) (n:Nat) (ks:List ByteArray) (l:List Int):LeO (sK sq un n ks l) (sK sq un' (n+1) ks l):=LeO.ite (LeO.refl _) (sKl_mono h sq n _ _ _ _ _ _)
def Kok (a0 : ByteArray) (l1:List ByteArray):Prop:=a0.size≤2147483647∧l1.length≤2147483647∧∀ s ∈ l1,s.size≤2147483647
instance (a0 : ByteArray) (l1:List ByteArray):Decidable (Kok a0 l1):=by unfold Kok;infer_instance
theorem ky_of {w : World} {A:Option Addr} {ks:List ByteArray} (h:Kd.C Kd.string w A ks.length ks) (h0:ks≠[]) (hl:ks.length≤2147483647) (hz:∀ s ∈ ks,s.size≤2147483647):∃ b o,A=some ⟨b,o,none⟩∧KY w b o ks:=by
 have hp:0<ks.length:=List.length_pos_iff.mpr h0;obtain ⟨⟨b,o,sp⟩,rfl,hc⟩:=Kd.at_string h 0 (by omega) (by omega)
 have hsp:sp=none:=by
  have:(⟨b,o,sp⟩:Addr).add (0:Int).toNat=⟨b,o,sp⟩:=by unfold Addr.add;simp
  rw [this] at hc;unfold World.cell? at hc;split at hc
  ·cases sp with
   | none=>rfl
   | some x=>simp at hc
  ·cases hc
 subst hsp;refine ⟨b,o,rfl,fun i hi=>?_,?_,hl,hz⟩
 ·obtain ⟨ad,e,hc⟩:=Kd.at_string h (i:Int) (by omega) (by omega);cases e;rw [Int.toNat_natCast,add_at] at hc;exact hc
 ·have:=World.block_lt_of_cell? _ _ hc;rw [add_block] at this;exact this
theorem jpg_P5 (k : Nat) (a0:ByteArray) (A1:Option Addr) (c1:Nat) (l1:List ByteArray) (R:Int) (w:World) (hr1:Kd.C Kd.string w A1 l1.length l1) (hc1:l1.length≤c1) (hG:Laid w) (hk:Kok a0 l1) (h:sK false (unc k) k l1 (bytesOf a0)=some R) (c:Nat) (hc:a0.size≤c) (hcm:c≤9223372036854775807) :
 Calls Tryd.prog 42 #[.slice (some ⟨w.heap.size,0,none⟩) a0.size c, .slice A1 l1.length c1] (Lib.bytesWorld w 5 a0) fun e w'=>P5 (Lib.bytesWorld w 5 a0) w.heap.size (getR false (bytesOf a0) R) e w':=by
 have hb:=bytes_below (B:=w.heap.size) (Below.refl _ w) (Nat.le_refl _) 5 a0;have hI:=in_bytes w a0 hk.1;have hT:=hG.below hb;refine injg_calls _ _ _ _ _ hT ?_;by_cases h0:l1=[]
 ·subst h0;rw [sK,if_pos rfl] at h
  cases h;refine (ig0_calls false false 0 w.heap.size 0 a0.size c (bytesOf a0) A1 c1 _ hT hI (bytesOf_length a0) hc).mono ?_;intro e w' hp;exact P5_of (Nat.zero_le _) hp
 obtain ⟨b,o,rfl,hK⟩:=ky_of hr1 h0 hk.2.1 hk.2.2;have hR:=sK_range h;refine (igk_calls false false 0 w.heap.size 0 a0.size c (bytesOf a0) (some ⟨b,o,none⟩) l1.length c1 R _ hT hI (bytesOf_length a0) hc (List.length_pos_iff.mpr h0) hR (fun W hW=>?_)).mono ?_
 ·exact sk_calls (unc k) false false 0 (unc_is k) rfl l1.length k l1 (bytesOf a0) w.heap.size 0 c b o c1 W R (Nat.le_refl _) (hT.below hW) (hI.below hW) (by rw [bytesOf_length];exact hc) hcm ((hK.below hb).below hW) hc1 h
 ·intro e w' hp;exact P5_K hR hp
def jquintF (k : Nat) (a0:ByteArray) (l1:List ByteArray):Option (Int × Bool):=if Kok a0 l1 then (sK false (unc k) k l1 (bytesOf a0)).bind fun R=>guF k (getR false (bytesOf a0) R) else none
theorem jquintF_mono : ∀ a0 l1 k,LeO (jquintF k a0 l1) (jquintF (k+1) a0 l1):=fun a0 l1 k=>LeO.ite (LeO.bind (sK_mono (unc_mono k) _ _ _ _) (fun _=>guF_mono k _)) (LeO.refl _)
set_option maxHeartbeats 8000000 in
set_option maxRecDepth 100000 in
theorem jqu_calls (k : Nat) (a0:ByteArray) (A1:Option Addr) (c1:Nat) (l1:List ByteArray) (r0:Int) (r1:Bool) (w:World) (hr1:Kd.C Kd.string w A1 l1.length l1) (hc1:l1.length≤c1) (hG:LaidU w) (h:jquintF k a0 l1=some (r0,r1)) :
 Calls Tryd.prog 13 #[.string a0, .slice A1 l1.length c1] w fun e w'=>e = .returned (.tuple #[.int .u64 r0, .bool r1])∧Below w.heap.size w w':=by
 unfold jquintF at h
 split at h
 case isFalse=>cases h
 case isTrue hk =>
 obtain ⟨R,hS,h⟩:=Option.bind_eq_some_iff.mp h;have hb1:=bytes_below (B:=w.heap.size) (Below.refl _ w) (Nat.le_refl _) 5 a0;have hp:=jpg_P5 k a0 A1 c1 l1 R w hr1 hc1 hG.toLaidI.toLaid hk hS (grownCap w a0.size 0 5) (grownCap_ge w a0.size 0 5) (by have:=grownCap_le_maxLen w a0.size 0 5 (by have:=hk.1;simp only [maxLen];omega);simpa [maxLen] using this);have HP:=mk0 (gu_calls k w.heap.size _ _ _ _ r0 r1 (hG.below hb1) hp h);have HB:=mk0 hb1;have kb:=fun W=>print_bytes (P:=Tryd.prog) 9 55 5 Tryd.underlying9 Tryd.underlying55 Tryd.underlying5 a0 W
 clear hb1 hp hS hG hk hr1 hc1 h;cases r1 with
 | false =>
  go_enter Tryd.func13,Tryd.ntmps13;go_wp2_with (first|(go_at_call 28;(with_reducible refine HP.out.mono ?_);rintro e_ w_ ⟨hb,⟨hn,_⟩|⟨_,h0,te,pe,rfl⟩⟩;exact absurd hn (by simp);have K:=mk0 (j1m HB.out hb);have K0:=mk0 h0;clear hb h0))
  go_ret2;exact ⟨by rw [K0.out];rfl,K.out⟩
 | true =>
  go_enter Tryd.func13,Tryd.ntmps13;go_wp2_with (first|(go_at_call 28;(with_reducible refine HP.out.mono ?_);rintro e_ w_ ⟨hb,⟨_,rfl⟩|⟨hn,_⟩⟩;rotate_left;exact absurd hn (by simp);have K:=mk0 (j1m HB.out hb);clear hb))
  go_ret2;exact ⟨rfl,K.out⟩
theorem str_rowC {w : World} {a:Option Addr} {len cap:Nat} {z:List ByteArray} (h:(a=none∧len=0∧cap=0∧z=[])∨∃ x,a=some x∧len≤cap∧cap≤maxLen∧z.length=cap∧∀ i,i<z.length→w.cell? (x.add i)=some (.string (z.getD i ByteArray.empty))) :
 ∃ l:List ByteArray,len=l.length∧Kd.C Kd.string w a l.length l∧l.length≤cap:=by
 rcases h with ⟨rfl,rfl,rfl,rfl⟩|⟨x,rfl,hl,hm,hz,hc⟩
 ·exact zl22
 ·have e:(z.take len).length=len:=by rw [List.length_take];omega
  refine ⟨z.take len,e.symm,Kd.C_of_reads (enc:=Value.string) (d:=ByteArray.empty) (h1:=fun _=>rfl) ⟨rfl,?_,fun _=>⟨x,rfl,fun j hj=>?_⟩⟩,by omega⟩
  ·rw [e];exact Nat.le_trans hl hm
  ·rw [e] at hj;rw [hc j (by omega),List.getD_eq_getElem?_getD,List.getD_eq_getElem?_getD,List.getElem?_take,if_pos hj]
def j3j.f (k : Nat) (a0:ByteArray) (l1:List ByteArray):Option (Int × Bool):=jquintF k a0 l1
theorem j3j.mono : ∀ a0 l1 k,LeO (j3j.f k a0 l1) (j3j.f (k+1) a0 l1):=jquintF_mono
theorem j3j.calls (k : Nat) (a0:ByteArray) (A1:Option Addr) (c1:Nat) (l1:List ByteArray) (r0:Int) (r1:Bool) (w:World) (hr1:Kd.C Kd.string w A1 l1.length l1) (hc1:l1.length≤c1) (hG:LaidU w) (h:j3j.f k a0 l1=some (r0,r1)) :
 Calls Tryd.prog 13 #[.string a0, .slice A1 l1.length c1] w fun e w'=>e = .returned (.tuple #[.int .u64 r0, .bool r1])∧Below w.heap.size w w':=jqu_calls k a0 A1 c1 l1 r0 r1 w hr1 hc1 hG h
def j3i.f (k : Nat) (a0:ByteArray):Option (Bool):=(j1l.f k a0 0).bind fun b=>if b.1=true then some (b.2.2 == (a0.size:Int)) else some false
theorem j3i.mono : ∀ a0 k,LeO (j3i.f k a0) (j3i.f (k+1) a0):=fun a0 k=>LeO.bind (j1l.mono _ _ k) (fun _=>LeO.refl _)
theorem j3i.calls (k : Nat) (a0:ByteArray) (r:Bool) (w:World) (h:j3i.f k a0=some r) :
 Calls Tryd.prog 29 #[.string a0] w fun e w'=>e = .returned (.bool r)∧Below w.heap.size w w':=by
 unfold j3i.f at h
 replace h:=Option.bind_eq_some_iff.mp h;obtain ⟨⟨b,s1,at1⟩,A0,H⟩:=h;have A:=mk0 A0;have HR:=mk0 H;clear A0 H;go_enter Tryd.func29,Tryd.ntmps29;go_wp2_with fail
 refine (j1l.calls k w.heap.size a0 0 b s1 at1 w _ (IsS89.new w w a0 0 (Below.refl _ _)) (j1g (Below.refl _ _) _) A.out).mono ?_;rintro e w' ⟨rfl,hI,hB,hK⟩;have hc1:=j2w hI.1;have HB:=mk0 hB;clear hI hB hK;have HR1:=HR.out;clear HR;cases b with
 | true =>
  rw [if_pos rfl] at HR1;obtain rfl:=Option.some.inj HR1;clear HR1;go_wp2;go_ret;exact ⟨rfl,HB.out⟩
 | false =>
  rw [if_neg zq56] at HR1;obtain rfl:=Option.some.inj HR1;clear HR1;go_wp2;go_ret;exact ⟨rfl,HB.out⟩
mutual
def j2l.j0 : Nat → ByteArray→Bool→Option (Bool × ByteArray × Bool)
  | 0,_,_=>none
  | k+1,x0,x5=>j2l.l0 k x0 x5 0
def j2l.l0 : Nat → ByteArray→Bool→Int→Option (Bool × ByteArray × Bool)
  | 0,_,_,_=>none
  | k+1,x0,x5,x6=>if x6<(x0.size:Int) then (if 0≤x6 then (if (bt x0 x6)<48 then (some (false,(⟨#[]⟩:ByteArray),false)) else (if (bt x0 x6)>57 then (some (false,(⟨#[]⟩:ByteArray),false)) else (j2l.l0 k x0 x5 (wrap64 (x6+1))))) else (none)) else (some (x5,x0,true))
end
def j2l.f (k : Nat) (a0:ByteArray):Option (Bool × ByteArray × Bool):=(j3i.f k a0).bind fun t101=>(if t101=true then (if 0<(a0.size:Int) then (if (bt a0 0)=45 then (if 1≤(a0.size:Int) then (j2l.j0 k (a0.extract 1 a0.size) ((bt a0 0) == 45)) else (none)) else (j2l.j0 k a0 ((bt a0 0) == 45))) else (none)) else (some (false,(⟨#[]⟩:ByteArray),false)))
theorem j2l.mono_l : ∀ k,(∀ y0 y1,LeO (j2l.j0 k y0 y1) (j2l.j0 (k+1) y0 y1))∧(∀ y0 y1 y2,LeO (j2l.l0 k y0 y1 y2) (j2l.l0 (k+1) y0 y1 y2))
 | 0=>⟨fun _ _ r h=>by simp [j2l.j0] at h,fun _ _ _ r h=>by simp [j2l.l0] at h⟩
 | k+1=>by
  obtain ⟨ih0,ih1⟩:=j2l.mono_l k;refine ⟨?_,?_⟩
  ·intro y0 y1;unfold j2l.j0
   exact zm
  ·intro y0 y1 y2;unfold j2l.l0
   exact zm
theorem j2l.mono : ∀ a0 k,LeO (j2l.f k a0) (j2l.f (k+1) a0):=by
 intro a0 k;obtain ⟨ih0,ih1⟩:=j2l.mono_l k;unfold j2l.f
 exact zm
set_option maxHeartbeats 8000000 in
set_option maxRecDepth 100000 in
theorem j2l.calls (k : Nat) (a0:ByteArray) (r1:Bool) (r2:ByteArray) (r3:Bool) (w:World) (h:j2l.f k a0=some (r1,r2,r3)) :
 Calls Tryd.prog 14 #[.string a0] w fun e w'=>e = .returned (.tuple #[.bool r1, .string r2, .bool r3])∧Below w.heap.size w w':=by
 have HB:=mk0 (Below.refl w.heap.size w);have H:((j3i.f k a0).bind fun t101=>(if t101=true then (if 0<(a0.size:Int) then (if (bt a0 0)=45 then (if 1≤(a0.size:Int) then (j2l.j0 k (a0.extract 1 a0.size) ((bt a0 0) == 45)) else (none)) else (j2l.j0 k a0 ((bt a0 0) == 45))) else (none)) else (some (false,(⟨#[]⟩:ByteArray),false))))=some (r1,r2,r3):=h;clear h;replace H:=Option.bind_eq_some_iff.mp H;obtain ⟨t101,A20,H⟩:=H;(try dsimp only at H);have A2:=mk0 A20;clear A20;by_cases c3:t101=true
 rotate_left
 ·replace c3:=Bool.eq_false_iff.mpr c3;subst c3;rw [if_neg (show ¬ (false=true) by decide)] at H;simp only [Option.some.injEq,Prod.mk.injEq] at H;obtain ⟨rfl,rfl,rfl⟩:=H;go_enter Tryd.func14,Tryd.ntmps14;go_wp2_with (first|((with_reducible refine j1u (f:=29) rfl ?_);refine j2t (some 8) rfl rfl Tryd.func29 zq17 rfl #[.string a0] rfl zq2 ?_;(with_reducible refine (j3i.calls k a0 false _ A2.out).mono ?_);rintro e w16 ⟨rfl,hb⟩;refine ⟨_,rfl,?_⟩;have n0_:=mk0 (j1m zq5 hb);clear HB;have HB:=n0_;clear n0_ hb))
  go_ret3;exact zl16
 subst c3;rw [if_pos rfl] at H;by_cases c4:0<(a0.size:Int)
 rotate_left
 ·exact zl30
 rw [if_pos c4] at H;have c4b0:decide (0<(a0.size:Int))=true:=decide_eq_true c4;have c4b1:decide (0<a0.size)=true:=decide_eq_true (by omega);clear c4;have HC6:=mk0 H;clear H;go_enter Tryd.func14,Tryd.ntmps14;go_upto_if 13 with (first|((with_reducible refine j1u (f:=29) rfl ?_);refine j2t (some 8) rfl rfl Tryd.func29 zq17 rfl #[.string a0] rfl zq2 ?_;(with_reducible refine (j3i.calls k a0 true _ A2.out).mono ?_);rintro e w7 ⟨rfl,hb⟩;refine ⟨_,rfl,?_⟩;have n0_:=mk0 (j1m zq5 hb);clear HB;have HB:=n0_;clear n0_ hb;have p5:0≤(0:Int):=(by omega);have q5:0<a0.size:=(by have:(0:Int)<(a0.size:Int):=of_decide_eq_true zq20;omega);have hx5:∀ h:0<a0.size,((a0[0]'h).toNat:Int)=bt a0 0:=bt_at a0 0;clear p5;have qi5:(0<(a0.size:Int))=True:=eq_true (of_decide_eq_true zq20);replace q5:=eq_true q5))
 (try simp only [Act.put,List.setIfInBounds_toArray,List.set_cons_zero,List.set_cons_succ]);go_cut [0,5] (fun v0 v5 wc=>∃ (kq:Nat) (x0_5:ByteArray) (x5_5:Bool),v0 = .string x0_5∧v5 = .bool x5_5∧Aside0 (j2l.j0 kq x0_5 x5_5=some (r1,r2,r3))∧Aside0 (kq≤k)∧Aside0 (Below w.heap.size w wc))
 case first =>
  have H:=HC6.out;clear HC6;by_cases c8:(bt a0 0)=45
  rotate_left
  ·rw [if_neg c8] at H;have c8b0:((bt a0 0) == 45)=false:=beq_eq_false_iff_ne.mpr c8;rw [c8b0] at H;have c8b1:((bt a0 0) != 45)=true:=bne_iff_ne.mpr c8;(rw [c8b0]);have H':=mk0 H;clear H;go_wp2;go_meet
   case rel=>exact ⟨_,(a0),_,(by rfl),(by rfl),H',⟨by omega⟩,⟨by repeat (first|(with_reducible first|exact HB.out|apply j1g|apply j1d|apply j1h)|exact HB.out)⟩⟩
  rw [if_pos c8] at H;have c8b0:((bt a0 0) == 45)=true:=beq_iff_eq.mpr c8;rw [c8b0] at H;have c8b1:((bt a0 0) != 45)=false:=bne_eq_false_iff_eq.mpr c8;clear c8;(rw [c8b0]);by_cases c9:1≤(a0.size:Int)
  rotate_left
  ·exact zl25
  rw [if_pos c9] at H;have c9b0:=eq_true c9;have c9b1:decide (1≤(a0.size:Int))=true:=decide_eq_true c9;clear c9;have H':=mk0 H;clear H;go_wp2;go_meet
  case rel=>exact ⟨_,(a0.extract 1 a0.size),_,(by rfl),(by rfl),H',⟨by omega⟩,⟨by repeat (first|(with_reducible first|exact HB.out|apply j1g|apply j1d|apply j1h)|exact HB.out)⟩⟩
 case rest =>
  clear HC6 c4b0 c4b1 q5 hx5 qi5;obtain ⟨kq,x0_5,x5_5,rfl,rfl,HA,HJ5,HB⟩:=hcut;cases kq with
  | zero=>exact absurd HA.out (by simp [j2l.j0])
  | succ kj5 =>
   have H:=HA.out;clear HA;simp only [j2l.j0] at H;have H':=mk0 H;clear H;go_wp2;go_loopg [6] kj5 (fun kq v6 w'=>∃ (x6_2:Int),v6 = .int .i64 x6_2∧Aside0 (j2l.l0 kq x0_5 x5_5 x6_2=some (r1,r2,r3))∧Aside0 (kq≤kj5)∧Aside0 (Below w.heap.size w w'))
   case atStart=>exact ⟨(0),(by rfl),H',⟨Nat.le_refl _⟩,⟨by repeat (first|(with_reducible first|exact HB.out|apply j1g|apply j1d|apply j1h)|exact HB.out)⟩⟩
   case round =>
    clear H';obtain ⟨x6_2,rfl,HA,HK2,HB⟩:=hrel;cases gk with
    | zero=>exact absurd HA.out (by simp [j2l.l0])
    | succ k2 =>
     have H:=HA.out;clear HA;simp only [j2l.l0] at H;by_cases c10:x6_2<(x0_5.size:Int)
     rotate_left
     ·rw [if_neg c10] at H;have c10b0:decide (x6_2<(x0_5.size:Int))=false:=decide_eq_false c10;clear c10;simp only [Option.some.injEq,Prod.mk.injEq] at H;obtain ⟨rfl,rfl,rfl⟩:=H;go_wp2;go_ret3;exact ⟨by rfl,by repeat (first|(with_reducible first|exact HB.out|apply j1g|apply j1d|apply j1h)|exact HB.out)⟩
     rw [if_pos c10] at H;have c10b0:decide (x6_2<(x0_5.size:Int))=true:=decide_eq_true c10;clear c10;by_cases c11:0≤x6_2
     rotate_left
     ·exact zl29
     rw [if_pos c11] at H;have c11b0:decide (0≤x6_2)=true:=decide_eq_true c11;clear c11;by_cases c13:(bt x0_5 x6_2)<48
     ·rw [if_pos c13] at H;have c13b0:decide ((bt x0_5 x6_2)<48)=true:=decide_eq_true c13;clear c13;simp only [Option.some.injEq,Prod.mk.injEq] at H;obtain ⟨rfl,rfl,rfl⟩:=H;have p12:0≤(x6_2:Int):=of_decide_eq_true zq20;have q12:x6_2<(x0_5.size:Int):=of_decide_eq_true zq20;have hx12:=bt_at x0_5 x6_2;replace p12:=eq_true p12;replace q12:=eq_true q12;go_wp2;go_ret3;exact ⟨by rfl,by repeat (first|(with_reducible first|exact HB.out|apply j1g|apply j1d|apply j1h)|exact HB.out)⟩
     rw [if_neg c13] at H;have c13b0:decide ((bt x0_5 x6_2)<48)=false:=decide_eq_false c13;clear c13;have p12:0≤(x6_2:Int):=of_decide_eq_true zq20;have q12:x6_2<(x0_5.size:Int):=of_decide_eq_true zq20;have hx12:=bt_at x0_5 x6_2;replace p12:=eq_true p12;replace q12:=eq_true q12;have p14:0≤(x6_2:Int):=of_decide_eq_true zq20;have q14:x6_2<(x0_5.size:Int):=of_decide_eq_true zq20;have hx14:=bt_at x0_5 x6_2;replace p14:=eq_true p14;replace q14:=eq_true q14;by_cases c15:(bt x0_5 x6_2)>57
     ·rw [if_pos c15] at H;have c15b0:decide (57<(bt x0_5 x6_2))=true:=decide_eq_true c15;clear c15;simp only [Option.some.injEq,Prod.mk.injEq] at H;obtain ⟨rfl,rfl,rfl⟩:=H;(try simp only [c15b0]);go_wp2;go_ret3;exact ⟨by rfl,by repeat (first|(with_reducible first|exact HB.out|apply j1g|apply j1d|apply j1h)|exact HB.out)⟩
     rw [if_neg c15] at H;have c15b0:decide (57<(bt x0_5 x6_2))=false:=decide_eq_false c15;clear c15;have H':=mk0 H;clear H;(try simp only [c15b0]);go_wp2;go_roundg k2
     case measure=>have:=HJ5.out;have:=HK2.out;omega
     case rel=>exact ⟨(wrap64 (x6_2+1)),(by rfl),H',⟨by have:=HJ5.out;have:=HK2.out;omega⟩,⟨by repeat (first|(with_reducible first|exact HB.out|apply j1g|apply j1d|apply j1h)|exact HB.out)⟩⟩
mutual
def j2h.l0 : Nat → ByteArray→Int→Int→Option (Int × Bool)
  | 0,_,_,_=>none
  | k+1,x0,x4,x5=>if x5<(x0.size:Int) then (if 0≤x5 then (if (bt x0 x5)<48 then (j2h.j1 k x0 x4 x5 true) else (j2h.j1 k x0 x4 x5 (decide ((bt x0 x5)>57)))) else (none)) else (some (x4,true))
def j2h.j1 : Nat → ByteArray→Int→Int→Bool→Option (Int × Bool)
  | 0,_,_,_,_=>none
  | k+1,x0,x4,x5,x24=>if x24=true then (some (0,false)) else (if 0≤x5 then (if x5<(x0.size:Int) then (if x4>((18446744073709551615 - (((bt x0 x5) - 48) % 256)) / 10) then (some (0,false)) else (j2h.l0 k x0 (IntKind.u64.wrap ((IntKind.u64.wrap (x4*10))+(((bt x0 x5) - 48) % 256))) (wrap64 (x5+1)))) else (none)) else (none))
end
def j2h.f (k : Nat) (a0:ByteArray):Option (Int × Bool):=if a0.toList=([]:List UInt8) then (some (0,false)) else (j2h.l0 k a0 0 0)
theorem j2h.mono_l : ∀ k,(∀ y0 y1 y2,LeO (j2h.l0 k y0 y1 y2) (j2h.l0 (k+1) y0 y1 y2))∧(∀ y0 y1 y2 y3,LeO (j2h.j1 k y0 y1 y2 y3) (j2h.j1 (k+1) y0 y1 y2 y3))
 | 0=>⟨fun _ _ _ r h=>by simp [j2h.l0] at h,fun _ _ _ _ r h=>by simp [j2h.j1] at h⟩
 | k+1=>by
  obtain ⟨ih0,ih1⟩:=j2h.mono_l k;refine ⟨?_,?_⟩
  ·intro y0 y1 y2;unfold j2h.l0
   exact zm
  ·intro y0 y1 y2 y3;unfold j2h.j1
   exact zm
theorem j2h.mono : ∀ a0 k,LeO (j2h.f k a0) (j2h.f (k+1) a0):=by
 intro a0 k;obtain ⟨ih0,ih1⟩:=j2h.mono_l k;unfold j2h.f
 exact zm
set_option maxHeartbeats 8000000 in
set_option maxRecDepth 100000 in
theorem j2h.calls (k : Nat) (a0:ByteArray) (r1:Int) (r2:Bool) (w:World) (h:j2h.f k a0=some (r1,r2)) :
 Calls Tryd.prog 15 #[.string a0] w fun e w'=>e = .returned (.tuple #[.int .u64 r1, .bool r2])∧Drawn0 w w':=by
 have H:(if a0.toList=([]:List UInt8) then (some (0,false)) else (j2h.l0 k a0 0 0))=some (r1,r2):=h;clear h;by_cases c2:a0.toList=([]:List UInt8)
 ·rw [if_pos c2] at H;have c2b0:(a0.toList == ([]:List UInt8))=true:=beq_iff_eq.mpr c2;have c2b1:(a0.toList != ([]:List UInt8))=false:=bne_eq_false_iff_eq.mpr c2;clear c2;simp only [Option.some.injEq,Prod.mk.injEq] at H;obtain ⟨rfl,rfl⟩:=H;go_enter Tryd.func15,Tryd.ntmps15;go_wp2;go_ret2;exact ⟨by rfl,by repeat (first|exact Drawn0.refl _|apply Drawn0.step)⟩
 rw [if_neg c2] at H;have c2b0:(a0.toList == ([]:List UInt8))=false:=beq_eq_false_iff_ne.mpr c2;have c2b1:(a0.toList != ([]:List UInt8))=true:=bne_iff_ne.mpr c2;have H':=mk0 H;clear H;go_enter Tryd.func15,Tryd.ntmps15;go_wp2;go_loopg [4,5] k (fun kq v4 v5 w'=>∃ (x4_1:Int) (x5_1:Int),v4 = .int .u64 x4_1∧v5 = .int .i64 x5_1∧Aside0 (j2h.l0 kq a0 x4_1 x5_1=some (r1,r2))∧Aside0 (kq≤k)∧Drawn0 w w')
 case atStart=>exact ⟨(0),(0),(by rfl),(by rfl),H',⟨Nat.le_refl _⟩,by repeat (first|exact Drawn0.refl _|apply Drawn0.step)⟩
 case round =>
  clear H';clear c2 c2b0 c2b1;obtain ⟨x4_1,x5_1,rfl,rfl,HA,HK1,⟨m1,rfl⟩⟩:=hrel;cases gk with
  | zero=>exact absurd HA.out (by simp [j2h.l0])
  | succ k1 =>
   have H:=HA.out;clear HA;simp only [j2h.l0] at H;by_cases c3:x5_1<(a0.size:Int)
   rotate_left
   ·rw [if_neg c3] at H;have c3b0:decide (x5_1<(a0.size:Int))=false:=decide_eq_false c3;clear c3;simp only [Option.some.injEq,Prod.mk.injEq] at H;obtain ⟨rfl,rfl⟩:=H;go_wp2;go_ret2;exact ⟨by rfl,by repeat (first|exact Drawn0.refl _|apply Drawn0.step)⟩
   rw [if_pos c3] at H;have c3b0:decide (x5_1<(a0.size:Int))=true:=decide_eq_true c3;clear c3;have HC4:=mk0 H;clear H;go_upto_region 7 with (fail)
   go_cut [24] (fun v24 wc=>∃ (kq:Nat) (x24_3:Bool),v24 = .bool x24_3∧Aside0 (j2h.j1 kq a0 x4_1 x5_1 x24_3=some (r1,r2))∧Aside0 (kq≤k1)∧Drawn0 w wc)
   case first =>
    have H:=HC4.out;clear HC4;by_cases c5:0≤x5_1
    rotate_left
    ·exact zl23
    rw [if_pos c5] at H;have c5b0:decide (0≤x5_1)=true:=decide_eq_true c5;clear c5;(skip);by_cases c7:(bt a0 x5_1)<48
    ·rw [if_pos c7] at H;have c7b0:decide ((bt a0 x5_1)<48)=true:=decide_eq_true c7;clear c7;have H':=mk0 H;clear H;have p6:0≤(x5_1:Int):=of_decide_eq_true zq20;have q6:x5_1<(a0.size:Int):=of_decide_eq_true zq20;have hx6:=bt_at a0 x5_1;replace p6:=eq_true p6;replace q6:=eq_true q6;go_wp2;go_meet
     case rel=>exact ⟨_,(true),(by rfl),H',⟨by have:=HK1.out;first|omega|exact Nat.le_refl _⟩,by repeat (first|exact Drawn0.refl _|apply Drawn0.step)⟩
    rw [if_neg c7] at H;have c7b0:decide ((bt a0 x5_1)<48)=false:=decide_eq_false c7;clear c7;have H':=mk0 H;clear H;have p6:0≤(x5_1:Int):=of_decide_eq_true zq20;have q6:x5_1<(a0.size:Int):=of_decide_eq_true zq20;have hx6:=bt_at a0 x5_1;replace p6:=eq_true p6;replace q6:=eq_true q6;have p8:0≤(x5_1:Int):=of_decide_eq_true zq20;have q8:x5_1<(a0.size:Int):=of_decide_eq_true zq20;have hx8:=bt_at a0 x5_1;replace p8:=eq_true p8;replace q8:=eq_true q8;go_wp2;go_meet
    case rel=>exact ⟨_,(decide ((bt a0 x5_1)>57)),(by rfl),H',⟨by have:=HK1.out;first|omega|exact Nat.le_refl _⟩,by repeat (first|exact Drawn0.refl _|apply Drawn0.step)⟩
   case rest =>
    clear HC4 c3b0;obtain ⟨kq,x24_3,rfl,HA,HJ3,⟨mc3,rfl⟩⟩:=hcut;cases kq with
    | zero=>exact absurd HA.out (by simp [j2h.j1])
    | succ kj3 =>
     have H:=HA.out;clear HA;simp only [j2h.j1] at H;by_cases c9:x24_3=true
     ·subst c9;rw [if_pos rfl] at H;simp only [Option.some.injEq,Prod.mk.injEq] at H;obtain ⟨rfl,rfl⟩:=H;go_wp2;go_ret2;exact ⟨by rfl,by repeat (first|exact Drawn0.refl _|apply Drawn0.step)⟩
     replace c9:=Bool.eq_false_iff.mpr c9;subst c9;rw [if_neg (show ¬ (false=true) by decide)] at H;by_cases c10:0≤x5_1
     rotate_left
     ·rw [if_neg c10] at H;exact absurd H (by simp)
     rw [if_pos c10] at H;have c10b0:decide (0≤x5_1)=true:=decide_eq_true c10;clear c10;by_cases c11:x5_1<(a0.size:Int)
     rotate_left
     ·exact zl29
     rw [if_pos c11] at H;have c11b0:decide (x5_1<(a0.size:Int))=true:=decide_eq_true c11;clear c11;by_cases c13:x4_1>((18446744073709551615 - (((bt a0 x5_1) - 48) % 256)) / 10)
     ·rw [if_pos c13] at H;have c13b0:decide (((18446744073709551615 - (((bt a0 x5_1) - 48) % 256)) / 10)<x4_1)=true:=decide_eq_true c13;clear c13;simp only [Option.some.injEq,Prod.mk.injEq] at H;obtain ⟨rfl,rfl⟩:=H;have p12:0≤(x5_1:Int):=of_decide_eq_true zq20;have q12:x5_1<(a0.size:Int):=of_decide_eq_true zq20;have hx12:=bt_at a0 x5_1;replace p12:=eq_true p12;replace q12:=eq_true q12;go_wp2;go_ret2;exact ⟨by rfl,by repeat (first|exact Drawn0.refl _|apply Drawn0.step)⟩
     rw [if_neg c13] at H;have c13b0:decide (((18446744073709551615 - (((bt a0 x5_1) - 48) % 256)) / 10)<x4_1)=false:=decide_eq_false c13;clear c13;have H':=mk0 H;clear H;have p12:0≤(x5_1:Int):=of_decide_eq_true zq20;have q12:x5_1<(a0.size:Int):=of_decide_eq_true zq20;have hx12:=bt_at a0 x5_1;replace p12:=eq_true p12;replace q12:=eq_true q12;go_wp2;go_roundg kj3
     case measure=>have:=HK1.out;have:=HJ3.out;omega
     case rel=>exact ⟨(IntKind.u64.wrap ((IntKind.u64.wrap (x4_1*10))+(((bt a0 x5_1) - 48) % 256))),(wrap64 (x5_1+1)),(by rfl),(by rfl),H',⟨by have:=HK1.out;have:=HJ3.out;omega⟩,by repeat (first|exact Drawn0.refl _|apply Drawn0.step)⟩
def laws_FnJqUint.j0 : Nat → ByteArray→List ByteArray→Bool→Option (Bool)
  | 0,_,_,_=>none
  | k+1,x0,x1,x23=>if x23=true then (some true) else ((j3o.f k x0 x1).bind fun bt102=>(if bt102.2.2.2.2.2=true then ((j3j.f k x0 x1).bind fun bt113=>((j3j.f k (⟨#[49,56,52,52,54,55,52,52,48,55,51,55,48,57,53,53,49,54,49,53]⟩:ByteArray) ([]:List ByteArray)).bind fun bt115=>(if bt102.1=3 then (if 0≤bt102.2.1 then (if bt102.2.1≤bt102.2.2.1 then (if bt102.2.2.1≤(x0.size:Int) then ((j2l.f k (x0.extract (bt102.2.1:Int).toNat (bt102.2.2.1:Int).toNat)).bind fun bt117=>((j2h.f k bt117.2.1).bind fun bt120=>(if bt120.2=true then (if bt117.2.2=true then (if bt117.1=true then (if bt115.2=true then (if (bt113.2 == (bt120.1 == 0))=true then (if bt113.2=true then (some (bt113.1 == bt120.1)) else (some true)) else (none)) else (none)) else (if bt115.2=true then (if (bt113.2 == true)=true then (if bt113.2=true then (some (bt113.1 == bt120.1)) else (some true)) else (none)) else (none))) else (if bt115.2=true then (if (bt113.2 == false)=true then (if bt113.2=true then (some (bt113.1 == bt120.1)) else (some true)) else (none)) else (none))) else (if bt115.2=true then (if (bt113.2 == false)=true then (if bt113.2=true then (some (bt113.1 == bt120.1)) else (some true)) else (none)) else (none))))) else (none)) else (none)) else (none)) else (if bt113.2=true then (some false) else (some bt115.2))))) else (some true)))
def laws_FnJqUint.f (k : Nat) (a0:ByteArray) (l1:List ByteArray):Option (Bool):=if (a0.size:Int)>2147483647 then (laws_FnJqUint.j0 k a0 l1 true) else ((j2n.f k l1).bind fun t101=>(laws_FnJqUint.j0 k a0 l1 (!t101)))
theorem laws_FnJqUint.mono_l : ∀ k,(∀ y0 y1 y2,LeO (laws_FnJqUint.j0 k y0 y1 y2) (laws_FnJqUint.j0 (k+1) y0 y1 y2))
 | 0=>fun _ _ _ r h=>by simp [laws_FnJqUint.j0] at h
 | k+1=>by
  have ih0:=laws_FnJqUint.mono_l k
  ·intro y0 y1 y2;unfold laws_FnJqUint.j0
   exact zm
theorem laws_FnJqUint.mono : ∀ a0 a1 k,LeO (laws_FnJqUint.f k a0 a1) (laws_FnJqUint.f (k+1) a0 a1):=by
 intro a0 a1 k;have ih0:=laws_FnJqUint.mono_l k;unfold laws_FnJqUint.f
 exact zm
theorem lf5_1 {P : Prop} (h:P:=by
 go_wp2_with (first|((with_reducible refine j1u (f:=12) rfl ?_);refine j2t (some 27) rfl rfl Tryd.func12 zq17 rfl #[.string a0, .slice A1 l1.length c1] rfl zq2 ?_;(with_reducible refine (j3o.calls kj2 a0 _ _ l1 _ _ _ _ _ _ _ ?side1 ?side2 A7.out).mono ?_);(case side1=>exact zq32);(case side2=>exact HC1.out);rintro e w_1 ⟨v106,v109,rfl,ho0,ho1,hb⟩;refine ⟨_,rfl,?_⟩;have HO107:=mk0 (Kd.V_lower (Kd.V_mono (ok':=fun k_=>True) ho0 (fun k_ hk_=>trivial)) (j2d zq5));have HO110:=mk0 (Kd.V_lower (Kd.V_mono (ok':=fun k_=>True) ho1 (fun k_ hk_=>trivial)) (j2d zq5));replace HB:=mk0 (j1m zq5 hb);clear hb ho0 ho1)|((with_reducible refine j3b (N:=5) rfl ?_);refine j3a ?hg (N:=5) ?hd (cs:=#[.int .i64 0, .int .i64 0, .int .i64 0, .slice none 0 0, .slice none 0 0]) (t:=27) ?hr ?_;(case hd=>rfl);(case hg=>rfl);(case hr=>exact zq29);intro gb112 hg w_2 hbox hb;replace HO107:=mk0 (Kd.V_below (Kd.V_elderB zq61 gb112 (Nat.le_of_eq hg.symm)) hb);replace HO110:=mk0 (Kd.V_below (Kd.V_elderB zq46 gb112 (Nat.le_of_eq hg.symm)) hb);have BK112:=mk0 (hbox);have GW112:=mk0 ((zq47:w.heap.size≤gb112));have GE112:=mk0 ((zq47:w.heap.size≤gb112));replace HB:=mk0 (j1m zq5 hb);clear hb hbox hg;have hcz_3:w_2.cell? ⟨gb112,0,none⟩=some (.int .i64 0):=(j1b BK112.out 0).trans rfl;have hcz_4:w_2.cell? ⟨gb112,1,none⟩=some (.int .i64 0):=(j1b BK112.out 1).trans rfl;have hcz_5:w_2.cell? ⟨gb112,2,none⟩=some (.int .i64 0):=(j1b BK112.out 2).trans rfl;have hcz_6:w_2.cell? ⟨gb112,3,none⟩=some (.slice none 0 0):=(j1b BK112.out 3).trans rfl;have hcz_7:w_2.cell? ⟨gb112,4,none⟩=some (.slice none 0 0):=(j1b BK112.out 4).trans rfl;have hfz_8:=j1a BK112.out 0;have hfz_9:=j1a BK112.out 1;have hfz_10:=j1a BK112.out 2;have hfz_11:=j1a BK112.out 3;have hfz_12:=j1a BK112.out 4;obtain ⟨Ao_13,co_14,eo_15⟩:=Kd.V_slice HO107.out;subst eo_15;obtain ⟨Ao_16,co_17,eo_18⟩:=Kd.V_slice HO110.out;subst eo_18)|((with_reducible refine j1u (f:=13) rfl ?_);refine j2t (some 35) rfl rfl Tryd.func13 zq17 rfl #[.string a0, .slice A1 l1.length c1] rfl zq2 ?_;(with_reducible refine (j3j.calls kj2 a0 _ _ l1 _ _ _ ?side1 ?side2 ?side3 A9.out).mono ?_);(case side1=>exact Kd.C_below HR1.out zq26);(case side2=>exact HC1.out);(case side3=>exact zq95);rintro e w_19 ⟨rfl,hb⟩;refine ⟨_,rfl,?_⟩;replace HO107:=mk0 (Kd.V_below zq52 hb);replace HO110:=mk0 (Kd.V_below zq53 hb);replace BK112:=mk0 (j2m (g:=gb112) (o := .cells #[.int .i64 t102, .int .i64 t103, .int .i64 t104, .slice Ao_13 t105.length co_14, .slice Ao_16 t108.length co_17] 27 (0,0)) zq35 hb);replace HB:=mk0 (j1m zq26 hb);clear hb)|((with_reducible refine j1u (f:=13) rfl ?_);refine j2t (some 39) rfl rfl Tryd.func13 zq17 rfl #[.string (⟨#[49,56,52,52,54,55,52,52,48,55,51,55,48,57,53,53,49,54,49,53]⟩:ByteArray), .slice none 0 0] rfl zq2 ?_;(refine (j3j.calls kj2 (⟨#[49,56,52,52,54,55,52,52,48,55,51,55,48,57,53,53,49,54,49,53]⟩:ByteArray) _ _ ([]:List ByteArray) _ _ _ ?side1 ?side2 ?side3 A10.out).mono ?_);(case side1=>exact Kd.C_nil _ _);(case side2=>exact Nat.le_refl _);(case side3=>exact zq95);rintro e w_20 ⟨rfl,hb⟩;refine ⟨_,rfl,?_⟩;replace HO107:=mk0 (Kd.V_below zq61 hb);replace HO110:=mk0 (Kd.V_below zq46 hb);replace BK112:=mk0 (j2m (g:=gb112) (o := .cells #[.int .i64 t102, .int .i64 t103, .int .i64 t104, .slice Ao_13 t105.length co_14, .slice Ao_16 t108.length co_17] 27 (0,0)) zq41 hb);replace HB:=mk0 (j1m zq26 hb);clear hb;have hcz_21:w_20.cell? ⟨gb112,0,none⟩=some (.int .i64 t102):=(j1b BK112.out 0).trans rfl;have hcz_22:w_20.cell? ⟨gb112,1,none⟩=some (.int .i64 t103):=(j1b BK112.out 1).trans rfl;have hcz_23:w_20.cell? ⟨gb112,2,none⟩=some (.int .i64 t104):=(j1b BK112.out 2).trans rfl;have hcz_24:w_20.cell? ⟨gb112,3,none⟩=some (.slice Ao_13 t105.length co_14):=(j1b BK112.out 3).trans rfl;have hcz_25:w_20.cell? ⟨gb112,4,none⟩=some (.slice Ao_16 t108.length co_17):=(j1b BK112.out 4).trans rfl;have hfz_26:=j1a BK112.out 0;have hfz_27:=j1a BK112.out 1;have hfz_28:=j1a BK112.out 2;have hfz_29:=j1a BK112.out 3;have hfz_30:=j1a BK112.out 4)|((with_reducible refine j1u (f:=14) rfl ?_);refine j2t (some 57) rfl rfl Tryd.func14 zq17 rfl #[.string (a0.extract (t103:Int).toNat (t104:Int).toNat)] rfl zq2 ?_;(with_reducible refine (j2l.calls kj2 (a0.extract (t103:Int).toNat (t104:Int).toNat) _ _ _ _ A15.out).mono ?_);rintro e w_31 ⟨rfl,hb⟩;refine ⟨_,rfl,?_⟩;replace HO107:=mk0 (Kd.V_below zq61 hb);replace HO110:=mk0 (Kd.V_below zq46 hb);replace BK112:=mk0 (j2m (g:=gb112) (o := .cells #[.int .i64 t102, .int .i64 t103, .int .i64 t104, .slice Ao_13 t105.length co_14, .slice Ao_16 t108.length co_17] 27 (0,0)) zq41 hb);replace HB:=mk0 (j1m zq26 hb);clear hb)|((with_reducible refine j1u (f:=15) rfl ?_);refine j2t (some 63) rfl rfl Tryd.func15 zq17 rfl #[.string t118] rfl zq2 ?_;(with_reducible refine (j2h.calls kj2 _ _ _ _ A16.out).mono ?_);rintro e w' ⟨rfl,⟨nd,rfl⟩⟩;refine ⟨_,rfl,?_⟩))
 go_ret;exact ⟨by rfl,by repeat (first|(with_reducible first|exact HB.out|apply j1g|apply j1d|apply j1h|refine j1s ?_ GE112.out)|exact HB.out)⟩):P:=h
theorem lf5_2 {P : Prop} (h:P:=by
 go_wp2_with (first|((with_reducible refine j1u (f:=12) rfl ?_);refine j2t (some 27) rfl rfl Tryd.func12 zq17 rfl #[.string a0, .slice A1 l1.length c1] rfl zq2 ?_;(with_reducible refine (j3o.calls kj2 a0 _ _ l1 _ _ _ _ _ _ _ ?side1 ?side2 A7.out).mono ?_);(case side1=>exact zq32);(case side2=>exact HC1.out);rintro e w_1 ⟨v106,v109,rfl,ho0,ho1,hb⟩;refine ⟨_,rfl,?_⟩;have HO107:=mk0 (Kd.V_lower (Kd.V_mono (ok':=fun k_=>True) ho0 (fun k_ hk_=>trivial)) (j2d zq5));have HO110:=mk0 (Kd.V_lower (Kd.V_mono (ok':=fun k_=>True) ho1 (fun k_ hk_=>trivial)) (j2d zq5));replace HB:=mk0 (j1m zq5 hb);clear hb ho0 ho1)|((with_reducible refine j3b (N:=5) rfl ?_);refine j3a ?hg (N:=5) ?hd (cs:=#[.int .i64 0, .int .i64 0, .int .i64 0, .slice none 0 0, .slice none 0 0]) (t:=27) ?hr ?_;(case hd=>rfl);(case hg=>rfl);(case hr=>exact zq29);intro gb112 hg w_2 hbox hb;replace HO107:=mk0 (Kd.V_below (Kd.V_elderB zq61 gb112 (Nat.le_of_eq hg.symm)) hb);replace HO110:=mk0 (Kd.V_below (Kd.V_elderB zq46 gb112 (Nat.le_of_eq hg.symm)) hb);have BK112:=mk0 (hbox);have GW112:=mk0 ((zq47:w.heap.size≤gb112));have GE112:=mk0 ((zq47:w.heap.size≤gb112));replace HB:=mk0 (j1m zq5 hb);clear hb hbox hg;have hcz_3:w_2.cell? ⟨gb112,0,none⟩=some (.int .i64 0):=(j1b BK112.out 0).trans rfl;have hcz_4:w_2.cell? ⟨gb112,1,none⟩=some (.int .i64 0):=(j1b BK112.out 1).trans rfl;have hcz_5:w_2.cell? ⟨gb112,2,none⟩=some (.int .i64 0):=(j1b BK112.out 2).trans rfl;have hcz_6:w_2.cell? ⟨gb112,3,none⟩=some (.slice none 0 0):=(j1b BK112.out 3).trans rfl;have hcz_7:w_2.cell? ⟨gb112,4,none⟩=some (.slice none 0 0):=(j1b BK112.out 4).trans rfl;have hfz_8:=j1a BK112.out 0;have hfz_9:=j1a BK112.out 1;have hfz_10:=j1a BK112.out 2;have hfz_11:=j1a BK112.out 3;have hfz_12:=j1a BK112.out 4;obtain ⟨Ao_13,co_14,eo_15⟩:=Kd.V_slice HO107.out;subst eo_15;obtain ⟨Ao_16,co_17,eo_18⟩:=Kd.V_slice HO110.out;subst eo_18)|((with_reducible refine j1u (f:=13) rfl ?_);refine j2t (some 35) rfl rfl Tryd.func13 zq17 rfl #[.string a0, .slice A1 l1.length c1] rfl zq2 ?_;(with_reducible refine (j3j.calls kj2 a0 _ _ l1 _ _ _ ?side1 ?side2 ?side3 A9.out).mono ?_);(case side1=>exact Kd.C_below HR1.out zq26);(case side2=>exact HC1.out);(case side3=>exact zq95);rintro e w_19 ⟨rfl,hb⟩;refine ⟨_,rfl,?_⟩;replace HO107:=mk0 (Kd.V_below zq52 hb);replace HO110:=mk0 (Kd.V_below zq53 hb);replace BK112:=mk0 (j2m (g:=gb112) (o := .cells #[.int .i64 t102, .int .i64 t103, .int .i64 t104, .slice Ao_13 t105.length co_14, .slice Ao_16 t108.length co_17] 27 (0,0)) zq35 hb);replace HB:=mk0 (j1m zq26 hb);clear hb)|((with_reducible refine j1u (f:=13) rfl ?_);refine j2t (some 39) rfl rfl Tryd.func13 zq17 rfl #[.string (⟨#[49,56,52,52,54,55,52,52,48,55,51,55,48,57,53,53,49,54,49,53]⟩:ByteArray), .slice none 0 0] rfl zq2 ?_;(refine (j3j.calls kj2 (⟨#[49,56,52,52,54,55,52,52,48,55,51,55,48,57,53,53,49,54,49,53]⟩:ByteArray) _ _ ([]:List ByteArray) _ _ _ ?side1 ?side2 ?side3 A10.out).mono ?_);(case side1=>exact Kd.C_nil _ _);(case side2=>exact Nat.le_refl _);(case side3=>exact zq95);rintro e w_20 ⟨rfl,hb⟩;refine ⟨_,rfl,?_⟩;replace HO107:=mk0 (Kd.V_below zq61 hb);replace HO110:=mk0 (Kd.V_below zq46 hb);replace BK112:=mk0 (j2m (g:=gb112) (o := .cells #[.int .i64 t102, .int .i64 t103, .int .i64 t104, .slice Ao_13 t105.length co_14, .slice Ao_16 t108.length co_17] 27 (0,0)) zq41 hb);replace HB:=mk0 (j1m zq26 hb);clear hb;have hcz_21:w_20.cell? ⟨gb112,0,none⟩=some (.int .i64 t102):=(j1b BK112.out 0).trans rfl;have hcz_22:w_20.cell? ⟨gb112,1,none⟩=some (.int .i64 t103):=(j1b BK112.out 1).trans rfl;have hcz_23:w_20.cell? ⟨gb112,2,none⟩=some (.int .i64 t104):=(j1b BK112.out 2).trans rfl;have hcz_24:w_20.cell? ⟨gb112,3,none⟩=some (.slice Ao_13 t105.length co_14):=(j1b BK112.out 3).trans rfl;have hcz_25:w_20.cell? ⟨gb112,4,none⟩=some (.slice Ao_16 t108.length co_17):=(j1b BK112.out 4).trans rfl;have hfz_26:=j1a BK112.out 0;have hfz_27:=j1a BK112.out 1;have hfz_28:=j1a BK112.out 2;have hfz_29:=j1a BK112.out 3;have hfz_30:=j1a BK112.out 4))
 go_ret;exact ⟨by rfl,by repeat (first|(with_reducible first|exact HB.out|apply j1g|apply j1d|apply j1h|refine j1s ?_ GE112.out)|exact HB.out)⟩):P:=h
set_option maxHeartbeats 8000000 in
set_option maxRecDepth 100000 in
theorem laws_FnJqUint.calls (k : Nat) (a0:ByteArray) (A1:Option Addr) (c1:Nat) (l1:List ByteArray) (r:Bool) (w:World) (hr1:Kd.C Kd.string w A1 l1.length l1) (hc1:l1.length≤c1) (hG:LaidU w) (h:laws_FnJqUint.f k a0 l1=some r) :
 Calls Tryd.prog 5 #[.string a0, .slice A1 l1.length c1] w fun e w'=>e = .returned (.bool r)∧Below w.heap.size w w':=by
 have HG:=mk0 hG;clear hG;have hu27:=Tryd.underlying27;have HR1:=mk0 hr1;have HC1:=mk0 hc1;clear hr1 hc1;have HB:=mk0 (Below.refl w.heap.size w);have H:(if (a0.size:Int)>2147483647 then (laws_FnJqUint.j0 k a0 l1 true) else ((j2n.f k l1).bind fun t101=>(laws_FnJqUint.j0 k a0 l1 (!t101))))=some r:=h;clear h;have HC3:=mk0 H;clear H;go_enter Tryd.func5,Tryd.ntmps5;go_upto_region 1 with (fail)
 go_cut [23] (fun v23 wc=>∃ (kq:Nat) (x23_2:Bool),v23 = .bool x23_2∧Aside0 (laws_FnJqUint.j0 kq a0 l1 x23_2=some r)∧Aside0 (kq≤k)∧Aside0 (Below w.heap.size w wc))
 case first =>
  have H:=HC3.out;clear HC3;by_cases c4:(a0.size:Int)>2147483647
  ·rw [if_pos c4] at H;have c4b0:decide (2147483647<(a0.size:Int))=true:=decide_eq_true c4;have c4b1:decide (2147483647<a0.size)=true:=decide_eq_true (by omega);clear c4;(skip);have H':=mk0 H;clear H;go_wp2;go_meet
   case rel=>exact ⟨_,(true),(by rfl),H',⟨by omega⟩,⟨by repeat (first|(with_reducible first|exact HB.out|apply j1g|apply j1d|apply j1h)|exact HB.out)⟩⟩
  rw [if_neg c4] at H;have c4b0:decide (2147483647<(a0.size:Int))=false:=decide_eq_false c4;have c4b1:decide (2147483647<a0.size)=false:=decide_eq_false (by omega);clear c4;(skip);replace H:=Option.bind_eq_some_iff.mp H;obtain ⟨t101,A50,H⟩:=H;(try dsimp only at H);have A5:=mk0 A50;clear A50;have H':=mk0 H;clear H;go_wp2_with (first|(go_at_call 7;(with_reducible refine (j2n.calls k _ _ l1 t101 _ ?side1 ?side2 A5.out).mono ?_);(case side1=>exact zq32);(case side2=>exact HC1.out);rintro e w' ⟨rfl,⟨nd,rfl⟩⟩))
  go_meet
  case rel=>exact ⟨_,(!t101),(by rfl),H',⟨by omega⟩,⟨by repeat (first|(with_reducible first|exact HB.out|apply j1g|apply j1d|apply j1h)|exact HB.out)⟩⟩
 case rest =>
  clear HC3;obtain ⟨kq,x23_2,rfl,HA,HJ2,HB⟩:=hcut;cases kq with
  | zero=>exact absurd HA.out (by simp [laws_FnJqUint.j0])
  | succ kj2 =>
   have H:=HA.out;clear HA;simp only [laws_FnJqUint.j0] at H;by_cases c6:x23_2=true
   ·subst c6;rw [if_pos rfl] at H;obtain rfl:=Option.some.inj H;go_wp2;go_ret;exact ⟨by rfl,by repeat (first|(with_reducible first|exact HB.out|apply j1g|apply j1d|apply j1h)|exact HB.out)⟩
   replace c6:=Bool.eq_false_iff.mpr c6;subst c6;rw [if_neg (show ¬ (false=true) by decide)] at H;replace H:=Option.bind_eq_some_iff.mp H;obtain ⟨⟨t102,t103,t104,t105,t108,t111⟩,A70,H⟩:=H;(try dsimp only at H);have A7:=mk0 A70;clear A70;by_cases c8:t111=true
   rotate_left
   ·replace c8:=Bool.eq_false_iff.mpr c8;subst c8;rw [if_neg (show ¬ (false=true) by decide)] at H;obtain rfl:=Option.some.inj H;go_wp2_with (first|((with_reducible refine j1u (f:=12) rfl ?_);refine j2t (some 27) rfl rfl Tryd.func12 zq17 rfl #[.string a0, .slice A1 l1.length c1] rfl zq2 ?_;(with_reducible refine (j3o.calls kj2 a0 _ _ l1 t102 t103 t104 t105 t108 false _ ?side1 ?side2 A7.out).mono ?_);(case side1=>exact zq32);(case side2=>exact HC1.out);rintro e w121 ⟨v106,v109,rfl,ho0,ho1,hb⟩;refine ⟨_,rfl,?_⟩;have HO107:=mk0 (Kd.V_lower (Kd.V_mono (ok':=fun k_=>True) ho0 (fun k_ hk_=>trivial)) (j2d zq5));have HO110:=mk0 (Kd.V_lower (Kd.V_mono (ok':=fun k_=>True) ho1 (fun k_ hk_=>trivial)) (j2d zq5));replace HB:=mk0 (j1m zq5 hb);clear hb ho0 ho1)|((with_reducible refine j3b (N:=5) rfl ?_);refine j3a ?hg (N:=5) ?hd (cs:=#[.int .i64 0, .int .i64 0, .int .i64 0, .slice none 0 0, .slice none 0 0]) (t:=27) ?hr ?_;(case hd=>rfl);(case hg=>rfl);(case hr=>exact zq29);intro gb112 hg w122 hbox hb;replace HO107:=mk0 (Kd.V_below (Kd.V_elderB zq61 gb112 (Nat.le_of_eq hg.symm)) hb);replace HO110:=mk0 (Kd.V_below (Kd.V_elderB zq46 gb112 (Nat.le_of_eq hg.symm)) hb);have BK112:=mk0 (hbox);have GW112:=mk0 ((zq47:w.heap.size≤gb112));have GE112:=mk0 ((zq47:w.heap.size≤gb112));replace HB:=mk0 (j1m zq5 hb);clear hb hbox hg;have hcz123_0:w122.cell? ⟨gb112,0,none⟩=some (.int .i64 0):=(j1b BK112.out 0).trans rfl;have hcz123_1:w122.cell? ⟨gb112,1,none⟩=some (.int .i64 0):=(j1b BK112.out 1).trans rfl;have hcz123_2:w122.cell? ⟨gb112,2,none⟩=some (.int .i64 0):=(j1b BK112.out 2).trans rfl;have hcz123_3:w122.cell? ⟨gb112,3,none⟩=some (.slice none 0 0):=(j1b BK112.out 3).trans rfl;have hcz123_4:w122.cell? ⟨gb112,4,none⟩=some (.slice none 0 0):=(j1b BK112.out 4).trans rfl;have hfz123_0:=j1a BK112.out 0;have hfz123_1:=j1a BK112.out 1;have hfz123_2:=j1a BK112.out 2;have hfz123_3:=j1a BK112.out 3;have hfz123_4:=j1a BK112.out 4;obtain ⟨Ao124,co124,eo124⟩:=Kd.V_slice HO107.out;subst eo124;obtain ⟨Ao125,co125,eo125⟩:=Kd.V_slice HO110.out;subst eo125))
    go_ret;exact ⟨by rfl,by repeat (first|(with_reducible first|exact HB.out|apply j1g|apply j1d|apply j1h|refine j1s ?_ GE112.out)|exact HB.out)⟩
   subst c8;rw [if_pos rfl] at H;replace H:=Option.bind_eq_some_iff.mp H;obtain ⟨⟨t113,t114⟩,A90,H⟩:=H;(try dsimp only at H);have A9:=mk0 A90;clear A90;replace H:=Option.bind_eq_some_iff.mp H;obtain ⟨⟨t115,t116⟩,A100,H⟩:=H;(try dsimp only at H);have A10:=mk0 A100;clear A100;by_cases c11:t102=3
   rotate_left
   ·rw [if_neg c11] at H;have c11b0:(t102 == 3)=false:=beq_eq_false_iff_ne.mpr c11;have c11b1:(t102 != 3)=true:=bne_iff_ne.mpr c11;by_cases c104:t114=true
    ·subst c104;rw [if_pos rfl] at H;obtain rfl:=Option.some.inj H;exact lf5_2
    replace c104:=Bool.eq_false_iff.mpr c104;subst c104;rw [if_neg (show ¬ (false=true) by decide)] at H;obtain rfl:=Option.some.inj H;exact lf5_2
   rw [if_pos c11] at H;have c11b0:(t102 == 3)=true:=beq_iff_eq.mpr c11;have c11b1:(t102 != 3)=false:=bne_eq_false_iff_eq.mpr c11;clear c11;by_cases c12:0≤t103
   rotate_left
   ·rw [if_neg c12] at H;exact absurd H (by simp)
   rw [if_pos c12] at H;have c12b0:=eq_true c12;have c12b1:decide (0≤t103)=true:=decide_eq_true c12;clear c12;by_cases c13:t103≤t104
   rotate_left
   ·exact zl33
   rw [if_pos c13] at H;have c13b0:=eq_true c13;have c13b1:decide (t103≤t104)=true:=decide_eq_true c13;clear c13;by_cases c14:t104≤(a0.size:Int)
   rotate_left
   ·rw [if_neg c14] at H;exact absurd H (by simp)
   rw [if_pos c14] at H;have c14b0:=eq_true c14;have c14b1:decide (t104≤(a0.size:Int))=true:=decide_eq_true c14;clear c14;replace H:=Option.bind_eq_some_iff.mp H;obtain ⟨⟨t117,t118,t119⟩,A150,H⟩:=H;(try dsimp only at H);have A15:=mk0 A150;clear A150;replace H:=Option.bind_eq_some_iff.mp H;obtain ⟨⟨t120,t121⟩,A160,H⟩:=H;(try dsimp only at H);have A16:=mk0 A160;clear A160;by_cases c17:t121=true
   rotate_left
   ·replace c17:=Bool.eq_false_iff.mpr c17;subst c17;rw [if_neg (show ¬ (false=true) by decide)] at H;by_cases c83:t116=true
    rotate_left
    ·replace c83:=Bool.eq_false_iff.mpr c83;subst c83;rw [if_neg (show ¬ (false=true) by decide)] at H;exact absurd H (by simp)
    subst c83;rw [if_pos rfl] at H;by_cases c84:(t114 == false)=true
    rotate_left
    ·rw [if_neg c84] at H;exact absurd H (by simp)
    rw [if_pos c84] at H;have c84b0:(t114 == false)=true:=c84;have c84b1:decide (t114=false)=true:=by simpa using c84
    have c84b2:(t114 == false)=true:=by simpa using c84
    clear c84;by_cases c85:t114=true
    ·subst c85;rw [if_pos rfl] at H;obtain rfl:=Option.some.inj H;exact lf5_1
    replace c85:=Bool.eq_false_iff.mpr c85;subst c85;rw [if_neg (show ¬ (false=true) by decide)] at H;obtain rfl:=Option.some.inj H;exact lf5_1
   subst c17;rw [if_pos rfl] at H;by_cases c18:t119=true
   rotate_left
   ·replace c18:=Bool.eq_false_iff.mpr c18;subst c18;rw [if_neg (show ¬ (false=true) by decide)] at H;by_cases c62:t116=true
    rotate_left
    ·replace c62:=Bool.eq_false_iff.mpr c62;subst c62;rw [if_neg (show ¬ (false=true) by decide)] at H;exact absurd H (by simp)
    subst c62;rw [if_pos rfl] at H;by_cases c63:(t114 == false)=true
    rotate_left
    ·rw [if_neg c63] at H;exact absurd H (by simp)
    rw [if_pos c63] at H;have c63b0:(t114 == false)=true:=c63;have c63b1:decide (t114=false)=true:=by simpa using c63
    have c63b2:(t114 == false)=true:=by simpa using c63
    clear c63;by_cases c64:t114=true
    ·subst c64;rw [if_pos rfl] at H;obtain rfl:=Option.some.inj H;exact lf5_1
    replace c64:=Bool.eq_false_iff.mpr c64;subst c64;rw [if_neg (show ¬ (false=true) by decide)] at H;obtain rfl:=Option.some.inj H;exact lf5_1
   subst c18;rw [if_pos rfl] at H;by_cases c19:t117=true
   ·subst c19;rw [if_pos rfl] at H;by_cases c20:t116=true
    rotate_left
    ·replace c20:=Bool.eq_false_iff.mpr c20;subst c20;rw [if_neg (show ¬ (false=true) by decide)] at H;exact absurd H (by simp)
    subst c20;rw [if_pos rfl] at H;by_cases c21:(t114 == (t120 == 0))=true
    rotate_left
    ·rw [if_neg c21] at H;exact absurd H (by simp)
    rw [if_pos c21] at H;have c21b0:(t114 == (t120 == 0))=true:=c21;have c21b1:decide (t114=(t120 == 0))=true:=by simpa using c21
    have c21b2:(t114 == (t120 == 0))=true:=by simpa using c21
    clear c21;by_cases c22:t114=true
    ·subst c22;rw [if_pos rfl] at H;obtain rfl:=Option.some.inj H;exact lf5_1
    replace c22:=Bool.eq_false_iff.mpr c22;subst c22;rw [if_neg (show ¬ (false=true) by decide)] at H;obtain rfl:=Option.some.inj H;exact lf5_1
   replace c19:=Bool.eq_false_iff.mpr c19;subst c19;rw [if_neg (show ¬ (false=true) by decide)] at H;by_cases c41:t116=true
   rotate_left
   ·replace c41:=Bool.eq_false_iff.mpr c41;subst c41;rw [if_neg (show ¬ (false=true) by decide)] at H;exact absurd H (by simp)
   subst c41;rw [if_pos rfl] at H;by_cases c42:(t114 == true)=true
   rotate_left
   ·rw [if_neg c42] at H;exact absurd H (by simp)
   rw [if_pos c42] at H;have c42b0:(t114 == true)=true:=c42;have c42b1:decide (t114=true)=true:=by simpa using c42
   have c42b2:(t114 == true)=true:=by simpa using c42
   clear c42;by_cases c43:t114=true
   ·subst c43;rw [if_pos rfl] at H;obtain rfl:=Option.some.inj H;exact lf5_1
   replace c43:=Bool.eq_false_iff.mpr c43;subst c43;rw [if_neg (show ¬ (false=true) by decide)] at H;obtain rfl:=Option.some.inj H;exact lf5_1
def laws_FnJqUint.Pure : Prop := ∀ (a0:ByteArray) (l1:List ByteArray),a0.size≤140737488351232→∃ k,laws_FnJqUint.f k a0 l1=some true
theorem laws_FnJqUint.walk (P : laws_FnJqUint.Pure) (a0:ByteArray) (a1:Option Addr) (len1 cap1:Nat) (z1:List ByteArray) (w:World) (hG:LaidU w) (w0:a0.size≤140737488351232) (w1:(a1=none∧len1=0∧cap1=0∧z1=[])∨∃ x,a1=some x∧len1≤cap1∧cap1≤maxLen∧z1.length=cap1∧∀ i,i<z1.length→w.cell? (x.add i)=some (.string (z1.getD i ByteArray.empty))) :
 Calls Tryd.prog 5 #[.string a0, .slice a1 len1 cap1] w fun e w'=>e = .returned (.bool true)∧Below w.heap.size w w':=by
 obtain ⟨l1,rfl,hr1,hc1⟩:=str_rowC w1;obtain ⟨k,h⟩:=P a0 l1 w0;refine (laws_FnJqUint.calls k a0 _ _ l1 true w hr1 hc1 hG h).mono ?_;rintro e w' ⟨rfl,hd⟩;exact ⟨rfl,hd⟩
end Go.Proofs.YthmjfmpgmcgonaaDoor.K
end
section
namespace Go.Proofs.YthmjfmpgmcgonaaDoor.K
open Go.RowKit Go.Proofs.YthmjfmpgmcgonaaDoorW.PrintWords Go.Proofs.YthmjfmpgmcgonaaDoorW.PrintLast Go.Proofs.YthmjfmpgmcgonaaDoorW.PrintMore
attribute [local go_sem] max2_int min2_int max_two min_two max_three min_three max_four min_four
set_option linter.unusedVariables false
set_option linter.unusedSimpArgs false

end Go.Proofs.YthmjfmpgmcgonaaDoor.K
end
section
namespace Go.Proofs.YthmjfmpgmcgonaaDoor.K
open Go.RowKit Go.Proofs.YthmjfmpgmcgonaaDoorW.PrintWords Go.Proofs.YthmjfmpgmcgonaaDoorW.PrintLast Go.Proofs.YthmjfmpgmcgonaaDoorW.PrintMore
attribute [local go_sem] max2_int min2_int max_two min_two max_three min_three max_four min_four
set_option linter.unusedVariables false
set_option linter.unusedSimpArgs false

end Go.Proofs.YthmjfmpgmcgonaaDoor.K
end
section
namespace Go.Proofs.YthmjfmpgmcgonaaDoor.K
open Go.RowKit Go.Proofs.YthmjfmpgmcgonaaDoorW.PrintWords Go.Proofs.YthmjfmpgmcgonaaDoorW.PrintLast Go.Proofs.YthmjfmpgmcgonaaDoorW.PrintMore
attribute [local go_sem] max2_int min2_int max_two min_two max_three min_three max_four min_four
set_option linter.unusedVariables false
set_option linter.unusedSimpArgs false

end Go.Proofs.YthmjfmpgmcgonaaDoor.K
end
section
namespace Go.Proofs.YthmjfmpgmcgonaaDoor.K
open Go.RowKit Go.Proofs.YthmjfmpgmcgonaaDoorW.PrintWords Go.Proofs.YthmjfmpgmcgonaaDoorW.PrintLast Go.Proofs.YthmjfmpgmcgonaaDoorW.PrintMore
attribute [local go_sem] max2_int min2_int max_two min_two max_three min_three max_four min_four
set_option linter.unusedVariables false
set_option linter.unusedSimpArgs false
def Kd.T {α : Type} (_d:Kd α) (_e:Nat) (_W:World) (_base:Nat) (_ok:Nat→Prop) (v:Value) (xs:List α):Prop:=∃ A c,v = .slice A xs.length c
end Go.Proofs.YthmjfmpgmcgonaaDoor.K
end
section
namespace Go.Proofs.YthmjfmpgmcgonaaDoor.J
open Go.RowKit Go.Proofs.YthmjfmpgmcgonaaDoor.K Go.Proofs.YthmjfmpgmcgonaaDoorW.PrintWords Go.Proofs.YthmjfmpgmcgonaaDoorW.PrintLast

theorem hexDigit_eq {c : Int} (h:0≤c∧c≤255):Ev (fun k=>j2c.f k c) ((hexv c).getD 0,(hexv c).isSome):=by
 refine ⟨2,fun k hk=>?_⟩;obtain ⟨k,rfl⟩:∃ m,k=m+2:=⟨k - 2,by omega⟩;unfold j2c.f hexv;simp only [j2c.j0,j2c.j1];by_cases h1:48≤c∧c≤57
 ·rw [if_pos h1.1,if_pos zq96,if_pos h1]
  simp;omega
 rw [if_neg h1]
 have key:(if 97≤c then (if decide (c≤102)=true then some ((c - 97) % 256+10,true) else if 65≤c then if c≤70 then some ((c - 65) % 256+10,true) else some (0,false) else some (0,false))
  else (if false=true then some ((c - 97) % 256+10,true) else if 65≤c then if c≤70 then some ((c - 65) % 256+10,true) else some (0,false) else some (0,false))) =
  some (((if 97≤c∧c≤102 then some (c - 87) else if 65≤c∧c≤70 then some (c - 55) else none:Option Int).getD 0,(if 97≤c∧c≤102 then some (c - 87) else if 65≤c∧c≤70 then some (c - 55) else none:Option Int).isSome)):=by
  by_cases h2:97≤c∧c≤102
  ·rw [if_pos h2.1,if_pos zq96,if_pos h2]
   simp;omega
  rw [if_neg h2];by_cases h3:65≤c∧c≤70
  ·rw [if_neg (by omega),if_neg (by simp),if_pos h3.1,if_pos h3.2,if_pos h3]
   simp;omega
  rw [if_neg h3];by_cases h4:97≤c
  ·rw [if_pos h4,if_neg zq96,if_pos (by omega),if_neg (by omega)];rfl
  rw [if_neg h4,if_neg (by simp)];by_cases h5:65≤c
  rotate_left
  ·rw [if_neg h5];rfl
  rw [if_pos h5,if_neg (by omega)];rfl
 by_cases h6:48≤c
 rotate_left
 ·rw [if_neg h6,if_neg (by simp)];exact key
 rw [if_pos h6,if_neg zq96];exact key
theorem here_cons {s : ByteArray} {i:Nat} {a:Int} {l:List Int} (h:From s i (a :: l)):j2g.f s (i:Int)=some (a,s,(i:Int)):=by
 have:=h.lt;unfold j2g.f;rw [if_pos (by omega),if_pos (by omega),h.bt]
theorem here_nil {s : ByteArray} {i:Nat} (h:From s i []):j2g.f s (i:Int)=some (0,s,(i:Int)):=by
 have:=h.nil;unfold j2g.f;rw [if_neg (by omega)]
theorem up {i n : Nat} (k:Nat) (h:i≤n) (hn:n≤140737488351232) (hk:k≤100):wrap64 ((i:Int)+(k:Int))=((i+k:Nat):Int):=by
 rw [w64 (by omega)];omega
theorem up1 {i n : Nat} (h:i≤n) (hn:n≤140737488351232):wrap64 ((i:Int)+1)=((i+1:Nat):Int):=up 1 h hn (by omega)
def hexs : Nat → List Int→Bool
  | 0,_=>true
  | _+1,[]=>false
  | n+1,a :: r=>(hexv a).isSome && hexs n r
theorem hex4_hexs (l : List Int):(hex4 l).isSome=hexs 4 l:=by
 match l with
 | []=>rfl
 | [a]=>simp [hex4,hexs]
 | [a,b]=>simp [hex4,hexs]
 | [a,b,c]=>simp [hex4,hexs]
 | a :: b :: c :: d :: r =>
  simp only [hex4,hexs];cases hexv a<;>cases hexv b<;>cases hexv c<;>cases hexv d<;>rfl
section
variable {s : ByteArray} (hs:s.size≤140737488351232)
include hs
theorem esc_l0 : ∀ (n:Nat) (i:Nat) (l:List Int),n≤4→From s i l →
 (hexs n l=true→Ev (fun k=>j1j.l0 k (((4 - n:Nat):Int)) s i) (true,s,((i+n:Nat):Int))) ∧
 (hexs n l=false→∃ p,Ev (fun k=>j1j.l0 k (((4 - n:Nat):Int)) s i) (false,s,p))
 | 0,i,l,_,h=>⟨fun _=>Ev.step (f:=fun _=>some (true,s,(i:Int))) (fun k=>by simp only [j1j.l0];rw [if_neg (by omega)]) (Ev.now _),fun h=>by simp [hexs] at h⟩
 | n+1,i,[],hn,h=>by
  refine ⟨fun e=>by simp [hexs] at e,fun _=>⟨(i:Int),?_⟩⟩;refine Ev.step (f:=fun k=>(j2c.f k 0).bind fun bt107=>(if bt107.2=true then (j1j.l0 k (wrap64 ((((4 - (n+1):Nat):Int))+1)) s (wrap64 ((i:Int)+1))) else some (false,s,(i:Int)))) (fun k=>?_) (Ev.bind (hexDigit_eq (by omega)) (Ev.congr (fun k=>if_neg (by simp [hexv])) (Ev.now _)));simp only [j1j.l0];rw [if_pos (by omega),here_nil h];rfl
 | n+1,i,a :: l,hn,h=>by
  have ih:=esc_l0 n (i+1) l (by omega) h.tail;have e1:wrap64 ((((4 - (n+1):Nat):Int))+1)=(((4 - n:Nat):Int)):=by rw [w64 (by omega)];omega
  have e2:=up1 (Nat.le_of_lt h.lt) hs
  have st:∀ R,Ev (fun k=>if (hexv a).isSome=true then (j1j.l0 k (((4 - n:Nat):Int)) s ((i+1:Nat):Int)) else some (false,s,(i:Int))) R→Ev (fun k=>j1j.l0 k (((4 - (n+1):Nat):Int)) s i) R:=fun R hR=>by
   refine Ev.step (f:=fun k=>(j2c.f k a).bind fun bt107=>(if bt107.2=true then (j1j.l0 k (((4 - n:Nat):Int)) s ((i+1:Nat):Int)) else some (false,s,(i:Int)))) (fun k=>?_) (Ev.bind (hexDigit_eq h.head) hR);simp only [j1j.l0];rw [if_pos (by omega),here_cons h,e1];simp only [Option.bind_some,e2]
  by_cases ha:(hexv a).isSome=true
  rotate_left
  ·exact ⟨fun e=>by simp [hexs,ha] at e,fun _=>⟨_,st _ (Ev.congr (fun k=>if_neg ha) (Ev.now _))⟩⟩
  refine ⟨fun e=>?_,fun e=>?_⟩
  ·simp only [hexs,Bool.and_eq_true] at e;have:=st _ (Ev.congr (fun k=>if_pos ha) (ih.1 e.2))
   rwa [show i+1+n=i+(n+1) by omega] at this
  ·rw [hexs,ha,Bool.true_and] at e;obtain ⟨p,hp⟩:=ih.2 e;exact ⟨p,st _ (Ev.congr (fun k=>if_pos ha) hp)⟩
theorem escape_eq {i : Nat} {l:List Int} (h:From s i l) :
 (∀ r,escL l=some r→Ev (fun k=>j1j.f k s i) (true,s,((s.size - r.length:Nat):Int))) ∧
 (escL l=none→∃ p,Ev (fun k=>j1j.f k s i) (false,s,p)):=by
 have j0:∀ a x,x=isE a→Ev (fun k=>j1j.j0 k a x s i)=Ev (fun k=>if isE a=true then some (true,s,wrap64 ((i:Int)+1)) else if a=117 then j1j.l0 (k - 1) 0 s (wrap64 ((i:Int)+1)) else some (false,s,(i:Int))):=by
  intro a x e;subst e
  funext R
  apply propext
  constructor
  ·rintro ⟨K,hK⟩;refine ⟨K+1,fun k hk=>?_⟩;obtain ⟨k,rfl⟩:∃ m,k=m+1:=⟨k - 1,by omega⟩;have:=hK (k+1) (by omega)
   simpa only [j1j.j0,Nat.add_sub_cancel] using this
  ·rintro ⟨K,hK⟩;refine ⟨K+1,fun k hk=>?_⟩;obtain ⟨k,rfl⟩:∃ m,k=m+1:=⟨k - 1,by omega⟩;have:=hK (k+1) (by omega)
   simpa only [j1j.j0,Nat.add_sub_cancel] using this
 have sh:∀ {g:Nat→Option (Bool × ByteArray × Int)} {R},Ev g R→Ev (fun k=>g (k - 1)) R:=by
  rintro g R ⟨K,hK⟩;exact ⟨K+1,fun k hk=>hK _ (by omega)⟩
 match l,h with
 | [],h =>
  refine ⟨fun r hr=>by simp [escL] at hr,fun _=>⟨(i:Int),?_⟩⟩;refine Ev.congr (f:=fun k=>j1j.j0 k 0 ((0:Int) == 116) s i) (fun k=>?_) ?_
  ·unfold j1j.f;rw [here_nil h];rfl
  ·rw [j0 0 _ zq56];exact Ev.congr (fun k=>by rw [if_neg zq56,if_neg zq56]) (Ev.now _)
 | a :: l,h =>
  have e2:=up1 (Nat.le_of_lt h.lt) hs;have hl:=h.len;simp only [List.length_cons] at hl
  have key:Ev (fun k=>j1j.f k s i)=Ev (fun k=>j1j.j0 k a (isE a) s i):=by
   congr 1
   funext k
   unfold j1j.f;rw [here_cons h];simp only [Option.bind_some,isE];by_cases h1:a=34
   ·rw [if_pos h1,h1];rfl
   rw [if_neg h1];by_cases h2:a=92
   ·rw [if_pos h2,h2];rfl
   rw [if_neg h2];by_cases h3:a=47
   ·rw [if_pos h3,h3];rfl
   rw [if_neg h3];by_cases h4:a=98
   ·rw [if_pos h4,h4];rfl
   rw [if_neg h4];by_cases h5:a=102
   ·rw [if_pos h5,h5];rfl
   rw [if_neg h5];by_cases h6:a=110
   ·rw [if_pos h6,h6];rfl
   rw [if_neg h6];by_cases h7:a=114
   ·rw [if_pos h7,h7];rfl
   rw [if_neg h7]
   congr 1
   rw [Bool.eq_iff_iff];simp;omega
  rw [key,j0 a _ rfl];by_cases h1:isE a=true
  ·refine ⟨fun r hr=>?_,fun hr=>(by rw [escL_let _ h1] at hr;cases hr)⟩;rw [escL_let _ h1] at hr;cases hr;refine Ev.congr (fun k=>if_pos h1) (Ev_same (Ev.now _) ?_);rw [e2,show i+1=s.size - l.length by omega]
  by_cases h2:a=117
  rotate_left
  ·refine ⟨fun r hr=>(by rw [escL,if_neg h1,if_neg h2] at hr;cases hr),fun _=>⟨(i:Int),Ev.congr (fun k=>by rw [if_neg h1,if_neg h2]) (Ev.now _)⟩⟩
  subst h2;have hh:=esc_l0 hs 4 (i+1) l (by omega) h.tail;refine ⟨fun r hr=>?_,fun hr=>?_⟩
  ·rw [escL,if_neg h1,if_pos rfl] at hr;obtain ⟨v,hv,hr⟩:=Option.bind_eq_some_iff.mp hr;cases hr;have h4:hexs 4 l=true:=by rw [← hex4_hexs,hv];rfl
   have hlen:=hex4_len hv;refine Ev.congr (f:=fun k=>j1j.l0 (k - 1) 0 s ((i+1:Nat):Int)) (fun k=>by rw [if_neg h1,if_pos rfl,e2]) (Ev_same (sh (hh.1 h4)) ?_);rw [show i+1+4=s.size - (l.drop 4).length by rw [List.length_drop];omega]
  ·rw [escL,if_neg h1,if_pos rfl] at hr
   have h4:hexs 4 l=false:=by
    rw [← hex4_hexs];cases hv:hex4 l with
    | none=>rfl
    | some v=>rw [hv] at hr;cases hr
   obtain ⟨p,hp⟩:=hh.2 h4;exact ⟨p,Ev.congr (f:=fun k=>j1j.l0 (k - 1) 0 s ((i+1:Nat):Int)) (fun k=>by rw [if_neg h1,if_pos rfl,e2]) (sh hp)⟩
theorem quoted_l0 : ∀ (n i:Nat) (l:List Int),l.length≤n→From s i l →
 (∀ r,strL l=some r→Ev (fun k=>j1v.l0 k s i) (true,s,((s.size - r.length:Nat):Int))) ∧
 (strL l=none→∃ p,Ev (fun k=>j1v.l0 k s i) (false,s,p))
 | n,i,[],_,h=>by
  have:=h.nil;refine ⟨fun r hr=>(by rw [strL_nil] at hr;cases hr),fun _=>⟨(i:Int),Ev.step (f:=fun _=>some (false,s,(i:Int))) (fun k=>?_) (Ev.now _)⟩⟩;simp only [j1v.l0];rw [if_neg (by omega)]
 | 0,i,c :: l,hn,h=>by simp at hn
 | n+1,i,c :: l,hn,h=>by
  simp only [List.length_cons] at hn;have hl:=h.len;simp only [List.length_cons] at hl;have e2:=up1 (Nat.le_of_lt h.lt) hs
  have st:∀ k,j1v.l0 (k+1) s i=(if c=34 then (some (true,s,((i+1:Nat):Int))) else (if c<32 then (some (false,s,((i+1:Nat):Int))) else (if c=92 then ((j1j.f k s ((i+1:Nat):Int)).bind fun bt101=>(if bt101.1=true then (j1v.l0 k bt101.2.1 bt101.2.2) else (some (false,bt101.2.1,bt101.2.2)))) else (j1v.l0 k s ((i+1:Nat):Int))))):=fun k=>by
   simp only [j1v.l0];rw [if_pos (by have:=h.lt;omega),if_pos (by omega),h.bt,e2]
  by_cases h1:c=34
  ·subst h1;refine ⟨fun r hr=>?_,fun hr=>(by rw [strL_end] at hr;cases hr)⟩;rw [strL_end] at hr;cases hr;refine Ev.step (fun k=>(st k).trans (if_pos rfl)) (Ev_same (Ev.now _) ?_);rw [show i+1=s.size - l.length by omega]
  by_cases h2:c<32
  ·refine ⟨fun r hr=>(by rw [strL_low _ h2] at hr;cases hr),fun _=>⟨_,Ev.step (fun k=>(st k).trans ((if_neg h1).trans (if_pos h2))) (Ev.now _)⟩⟩
  by_cases h3:c=92
  rotate_left
  ·rw [strL_raw _ ⟨h1,h2,h3⟩];have ih:=quoted_l0 n (i+1) l (by omega) h.tail;have go:∀ k,j1v.l0 (k+1) s i=j1v.l0 k s ((i+1:Nat):Int):=fun k=>(st k).trans ((if_neg h1).trans ((if_neg h2).trans (if_neg h3)))
   refine ⟨fun r hr=>Ev.step go (ih.1 r hr),fun hr=>?_⟩;obtain ⟨p,hq⟩:=ih.2 hr;exact ⟨p,Ev.step go hq⟩
  subst h3;have hh:=escape_eq hs h.tail;rw [strL_esc]
  have go:∀ {a q R},Ev (fun k=>j1j.f k s ((i+1:Nat):Int)) (a,s,q)→Ev (fun k=>if a=true then (j1v.l0 k s q) else (some (false,s,q))) R→Ev (fun k=>j1v.l0 k s i) R:=fun {a q R} hx hy =>
   Ev.step (fun k=>(st k).trans ((if_neg h1).trans ((if_neg h2).trans (if_pos rfl)))) (Ev.bind hx hy)
  cases he:escL l with
  | none =>
   refine ⟨fun r hr=>(by cases hr),fun _=>?_⟩;obtain ⟨p,hp⟩:=hh.2 he;exact ⟨p,go hp (Ev.congr (fun k=>if_neg zq56) (Ev.now _))⟩
  | some r' =>
   have hlen:=escL_len he;have hp:=hh.1 r' he
   have hF:From s (s.size - r'.length) r':=by
    rcases escL_ex he with ⟨b,_,rfl⟩|⟨a,b,c,d,v,_,rfl⟩
    ·have:=h.tail.tail;have hz:=this.len
     rwa [show i+1+1=s.size - r'.length by omega] at this
    ·have:=h.tail.tail.tail.tail.tail.tail;have hz:=this.len
     rwa [show i+1+1+1+1+1+1=s.size - r'.length by omega] at this
   have ih:=quoted_l0 n (s.size - r'.length) r' (by omega) hF;refine ⟨fun r hr=>go hp (Ev.congr (fun k=>if_pos rfl) (ih.1 r hr)),fun hr=>?_⟩;obtain ⟨p,hq⟩:=ih.2 hr;exact ⟨p,go hp (Ev.congr (fun k=>if_pos rfl) hq)⟩
theorem quoted_eq {i : Nat} {c:Int} {l:List Int} (h:From s i (c :: l)) :
 (∀ r,strL l=some r→Ev (fun k=>j1v.f k s i) (true,s,((s.size - r.length:Nat):Int))) ∧
 (strL l=none→∃ p,Ev (fun k=>j1v.f k s i) (false,s,p)):=by
 have e2:=up1 (Nat.le_of_lt h.lt) hs;have:=quoted_l0 hs l.length (i+1) l (Nat.le_refl _) h.tail;unfold j1v.f;rw [e2];exact this
end

end Go.Proofs.YthmjfmpgmcgonaaDoor.J
end
section
namespace Go.Proofs.YthmjfmpgmcgonaaDoor.J
open Go.RowKit Go.Proofs.YthmjfmpgmcgonaaDoor.K Go.Proofs.YthmjfmpgmcgonaaDoorW.PrintWords Go.Proofs.YthmjfmpgmcgonaaDoorW.PrintLast

theorem up2 {i n : Nat} (h:i≤n) (hn:n≤140737488351232):wrap64 ((i:Int)+2)=((i+2:Nat):Int):=up 2 h hn (by omega)
theorem up6 {i n : Nat} (h:i≤n) (hn:n≤140737488351232):wrap64 ((i:Int)+6)=((i+6:Nat):Int):=up 6 h hn (by omega)
theorem high_eq (n : Int):j3x.f n=some (hiS n):=by
 unfold j3x.f hiS;by_cases h:55296≤n
 rotate_left
 ·rw [if_neg h];simp [h]
 rw [if_pos h];simp [h]
theorem low_eq (n : Int):j4j.f n=some (loS n):=by
 unfold j4j.f loS;by_cases h:56320≤n
 rotate_left
 ·rw [if_neg h];simp [h]
 rw [if_pos h];simp [h]
theorem td {c : Int} (h:0≤c) (k:Int):Int.tdiv c k=c / k:=Int.tdiv_eq_ediv_of_nonneg h
theorem tm {c : Int} (h:0≤c) (k:Int):Int.tmod c k=c % k:=Int.tmod_eq_emod_of_nonneg h
theorem appendUTF8_eq {l : List Int} {c:Int} (h0:0≤c) (h1:c≤1114111) (hl:l.length+4<140737488355328):Ev (fun k=>j1y.f k l c) (l++utf c):=by
 refine ⟨1,fun k hk=>?_⟩;obtain ⟨k,rfl⟩:∃ m,k=m+1:=⟨k - 1,by omega⟩;unfold j1y.f utf;simp only [j1y.j0,high_eq,low_eq,Option.bind_some,td h0,tm h0];have e1:wrap64 (c / 64)=c / 64:=w64 (by omega);have e2:wrap64 (c / 4096)=c / 4096:=w64 (by omega);have e3:wrap64 (c / 262144)=c / 262144:=w64 (by omega);rw [e1,e2,e3,tm (c:=c / 64) (by omega),tm (c:=c / 4096) (by omega)];by_cases a1:c<128
 ·rw [if_pos a1,if_pos a1,if_pos (by omega)]
  congr 3;omega
 rw [if_neg a1,if_neg a1];by_cases a2:c<2048
 ·rw [if_pos a2,if_pos a2,if_pos zq96];rw [w64 (x:=192+c / 64) (by omega),w64 (x:=128+c % 64) (by omega)]
  congr 3
  ·omega
  ·congr 1;omega
 rw [if_neg a2,if_neg a2];by_cases a3:hiS c=true
 ·rw [if_pos a3,if_pos trivial,if_pos zq96,if_pos (.inl a3)]
 rw [if_neg a3];by_cases a4:loS c=true
 ·rw [if_pos a4,if_pos zq96,if_pos (.inr a4)]
 rw [if_neg a4,if_neg (show ¬ (hiS c=true∨loS c=true) from fun h=>h.elim a3 a4)];by_cases a5:c<65536
 ·rw [if_pos a5,if_pos a5,if_pos zq96];rw [w64 (x:=224+c / 4096) (by omega),w64 (x:=128+c / 64 % 64) (by omega),w64 (x:=128+c % 64) (by omega)]
  congr 3
  ·omega
  ·congr 1
   ·omega
   ·congr 1;omega
 rw [if_neg a5,if_neg a5,if_pos zq96];rw [w64 (x:=240+c / 262144) (by omega),w64 (x:=128+c / 4096 % 64) (by omega),w64 (x:=128+c / 64 % 64) (by omega),w64 (x:=128+c % 64) (by omega)]
 congr 3
 ·omega
 ·congr 1
  ·omega
  ·congr 1
   ·omega
   ·congr 1;omega
section
variable {s : ByteArray} (hs:s.size≤140737488351232)
include hs
theorem unit_yes {i j : Nat} {a acc d:Int} {r:List Int} {R:Int × Bool} (h:From s j (a :: r)) (hi:i≤s.size) (hj:j<i+6) (h0:0≤acc∧acc≤100000000) (hd:hexv a=some d)
 (k:Ev (fun k=>j2f.l0 k s i (acc*16+d) ((j+1:Nat):Int)) R):Ev (fun k=>j2f.l0 k s i acc j) R:=by
 have hr:=j3k hd
 refine Ev.step (f:=fun k=>(j2c.f k a).bind fun bt101=>(if bt101.2=true then (j2f.l0 k s i (wrap64 ((wrap64 (acc*16))+bt101.1)) ((j+1:Nat):Int)) else some (0,false))) (fun k=>?_)
  (Ev.bind (hexDigit_eq h.head) (Ev.congr (fun n=>?_) k))
 ·exact zl28
 ·rw [hd];simp only [Option.isSome_some,if_true,Option.getD_some];rw [w64 (x:=acc*16) (by omega),w64 (by omega)]
theorem unit_no {i j : Nat} {a acc:Int} {r:List Int} (h:From s j (a :: r)) (hi:i≤s.size) (hj:j<i+6) (hd:hexv a=none):Ev (fun k=>j2f.l0 k s i acc j) (0,false):=by
 refine Ev.step (f:=fun k=>(j2c.f k a).bind fun bt101=>(if bt101.2=true then (j2f.l0 k s i (wrap64 ((wrap64 (acc*16))+bt101.1)) ((j+1:Nat):Int)) else some (0,false))) (fun k=>?_)
  (Ev.bind (hexDigit_eq h.head) (Ev.congr (fun n=>?_) (Ev.now _)))
 ·exact zl28
 ·rw [hd];rfl
theorem unit_l0 {i : Nat} {l:List Int} (h:From s (i+2) l) (hl:4≤l.length):Ev (fun k=>j2f.l0 k s i 0 ((i+2:Nat):Int)) ((hex4 l).getD 0,(hex4 l).isSome):=by
 match l,hl,h with
 | a :: b :: c :: d :: r,_,h =>
  have hz:=h.len;simp only [List.length_cons] at hz;have hi:i≤s.size:=by omega
  simp only [hex4];cases ea:hexv a with
  | none=>exact Ev_same (unit_no hs h hi (by omega) ea) (by simp)
  | some x =>
   have:=j3k ea;refine unit_yes hs h hi (by omega) (by omega) ea ?_;cases eb:hexv b with
   | none=>exact Ev_same (unit_no hs h.tail hi (by omega) eb) (by simp)
   | some y =>
    have:=j3k eb;refine unit_yes hs h.tail hi (by omega) (by omega) eb ?_;cases ec:hexv c with
    | none=>exact Ev_same (unit_no hs h.tail.tail hi (by omega) ec) (by simp)
    | some z =>
     have:=j3k ec;refine unit_yes hs h.tail.tail hi (by omega) (by omega) ec ?_;cases ed:hexv d with
     | none=>exact Ev_same (unit_no hs h.tail.tail.tail hi (by omega) ed) (by simp)
     | some u =>
      have:=j3k ed;refine unit_yes hs h.tail.tail.tail hi (by omega) (by omega) ed ?_;refine Ev.step (f:=fun _=>some ((((0*16+x)*16+y)*16+z)*16+u,true)) (fun k=>?_) (Ev_same (Ev.now _) (by simp));simp only [j2f.l0];rw [up6 hi hs,if_neg (by omega)]
theorem unit_eq {i : Nat} {l:List Int} (h:From s i l):Ev (fun k=>j2f.f k s i) ((unitL l).getD 0,(unitL l).isSome):=by
 have hz:=h.len;have no:Ev (fun k=>j2f.j0 k s i true) (0,false):=Ev.step (f:=fun _=>some (0,false)) (fun k=>by simp only [j2f.j0];rw [if_pos trivial]) (Ev.now _);unfold j2f.f;have e0:wrap64 ((s.size:Int) - (i:Int))=((l.length:Nat):Int):=by rw [w64 (by omega)];omega
 rw [e0];by_cases h6:l.length<6
 ·have e1:unitL l=none:=by
   cases e:unitL l with
   | none=>rfl
   | some v=>have:=unitL_len e;omega
  rw [e1];exact Ev.congr (fun k=>if_pos (by omega)) no
 match l,h,h6,hz with
 | [],_,h6,_=>exact absurd (by simp) h6
 | [a],_,h6,_=>exact absurd (by simp) h6
 | a :: b :: l,h,h6,hz =>
  simp only [List.length_cons] at h6 hz;have hlt:=h.lt;have e1:unitL (a :: b :: l)=if a=92∧b=117 then hex4 l else none:=rfl
  by_cases h1:a=92
  rotate_left
  ·rw [e1,if_neg (by omega)];refine Ev.congr (fun k=>?_) no;rw [if_neg zq76,if_pos (by omega),if_pos (by omega),h.bt,if_neg h1]
  refine Ev.congr (f:=fun k=>j2f.j0 k s i (b != 117)) (fun k=>?_) ?_
  ·rw [if_neg zq76,if_pos (by omega),if_pos (by omega),h.bt,if_pos h1,up1 (Nat.le_of_lt h.lt) hs,if_pos (by omega),if_pos (by omega),h.tail.bt]
  ·by_cases h2:b=117
   rotate_left
   ·rw [e1,if_neg (by omega)];exact Ev.congr (fun k=>by rw [bne_iff_ne.mpr h2]) no
   rw [e1,if_pos ⟨h1,h2⟩];refine Ev.congr (f:=fun k=>j2f.j0 k s i false) (fun k=>by rw [h2];rfl) ?_;refine Ev.step (f:=fun k=>j2f.l0 k s i 0 ((i+2:Nat):Int)) (fun k=>?_) (unit_l0 hs (by simpa using h.tail.tail) (by omega));simp only [j2f.j0];rw [if_neg zq56,up2 (Nat.le_of_lt h.lt) hs]
omit hs in
theorem short_eq (b : Int):j4h.f b=some (unl b):=by
 unfold j4h.f unl
 repeat' split
 all_goals rfl
omit hs in
theorem unitL_range {l : List Int} {v:Int} (h:unitL l=some v):0≤v∧v≤65535:=by
 unfold unitL at h
 split at h
 ·split at h
  ·exact hex4_range h
  ·cases h
 ·cases h
theorem unquote_l0 : ∀ (n i:Nat) (l acc:List Int),l.length≤n→From s i l→Body l→acc.length+l.length≤140737488351232→Ev (fun k=>j1z.l0 k acc s i) (strOfNums (acc++unqL l))
 | n,i,[],acc,_,h,_,_=>by
  have:=h.nil;refine Ev.step (f:=fun _=>some (strOfNums acc)) (fun k=>?_) (Ev_same (Ev.now _) (by rw [unqL_nil,List.append_nil]));simp only [j1z.l0];rw [if_neg (by omega)]
 | 0,i,c :: l,acc,hn,_,_,_=>by simp at hn
 | n+1,i,c :: l,acc,hn,h,hb,hk=>by
  simp only [List.length_cons] at hn hk;have hlt:=h.lt;have hz:=h.len;simp only [List.length_cons] at hz;have hle:=Nat.le_of_lt hlt;have e1:=up1 hle hs;have e2:=up2 hle hs;have e6:=up6 hle hs;by_cases hc:c=92
  rotate_left
  ·cases hb with
   | two h1 hb=>exact absurd rfl hc
   | six h1 hb=>exact absurd rfl hc
   | raw _ _ _ hb =>
    refine Ev.step (fun k=>?_) (Ev_same (unquote_l0 n (i+1) l (acc++[c]) (by omega) h.tail hb zq96) ?_)
    ·simp only [j1z.l0];rw [if_pos (by omega),if_pos (by omega),h.bt,if_neg hc,if_pos (by omega),e1]
    ·rw [unqL_raw _ hc,List.append_assoc];rfl
  subst hc
  have st:∀ {a b R},Ev (fun k=>j2f.f k s i) (a,b)→Ev (fun x1=>(if b=true then ((j2f.f x1 s ((i+6:Nat):Int)).bind fun bt110=>(if bt110.2=true then ((j3x.f a).bind fun t112=>(if t112=true then ((j4j.f bt110.1).bind fun t113=>(if t113=true then ((j1y.f x1 acc (wrap64 ((wrap64 (65536+(wrap64 ((wrap64 (a - 55296))*1024))))+(wrap64 (bt110.1 - 56320))))).bind fun t114=>(j1z.l0 x1 t114 s (wrap64 (((i+6:Nat):Int)+6)))) else ((j1y.f x1 acc a).bind fun t117=>(j1z.l0 x1 t117 s ((i+6:Nat):Int))))) else ((j1y.f x1 acc a).bind fun t120=>(j1z.l0 x1 t120 s ((i+6:Nat):Int))))) else ((j1y.f x1 acc a).bind fun t123=>(j1z.l0 x1 t123 s ((i+6:Nat):Int))))) else (if 0≤((i+1:Nat):Int) then (if ((i+1:Nat):Int)<(s.size:Int) then ((j4h.f (bt s ((i+1:Nat):Int))).bind fun t106=>(if acc.length<140737488355328 then (j1z.l0 x1 (acc++[t106]) s ((i+2:Nat):Int)) else (none))) else (none)) else (none)))) R→Ev (fun k=>j1z.l0 k acc s i) R:=fun {a b R} hx hy=>by
   refine Ev.step (f:=fun x1=>(j2f.f x1 s i).bind fun bt104=>(if bt104.2=true then ((j2f.f x1 s ((i+6:Nat):Int)).bind fun bt110=>(if bt110.2=true then ((j3x.f bt104.1).bind fun t112=>(if t112=true then ((j4j.f bt110.1).bind fun t113=>(if t113=true then ((j1y.f x1 acc (wrap64 ((wrap64 (65536+(wrap64 ((wrap64 (bt104.1 - 55296))*1024))))+(wrap64 (bt110.1 - 56320))))).bind fun t114=>(j1z.l0 x1 t114 s (wrap64 (((i+6:Nat):Int)+6)))) else ((j1y.f x1 acc bt104.1).bind fun t117=>(j1z.l0 x1 t117 s ((i+6:Nat):Int))))) else ((j1y.f x1 acc bt104.1).bind fun t120=>(j1z.l0 x1 t120 s ((i+6:Nat):Int))))) else ((j1y.f x1 acc bt104.1).bind fun t123=>(j1z.l0 x1 t123 s ((i+6:Nat):Int))))) else (if 0≤((i+1:Nat):Int) then (if ((i+1:Nat):Int)<(s.size:Int) then ((j4h.f (bt s ((i+1:Nat):Int))).bind fun t106=>(if acc.length<140737488355328 then (j1z.l0 x1 (acc++[t106]) s ((i+2:Nat):Int)) else (none))) else (none)) else (none)))) (fun k=>?_) (Ev.bind hx hy);simp only [j1z.l0];rw [if_pos (by omega),if_pos (by omega),if_pos h.bt,e1,e2,e6]
  have hu:=unit_eq hs h;cases hb with
  | raw _ _ h3 _=>exact absurd rfl h3
  | @two b l hE hb =>
   rw [unitL_two (isE_ne hE)] at hu;refine st hu (Ev.congr (f:=fun x1=>j1z.l0 x1 (acc++[unl b]) s ((i+2:Nat):Int)) (fun k=>?_) ?_)
   ·rw [if_neg zq56,if_pos (by omega),if_pos (by have:=h.tail.lt;omega),h.tail.bt,short_eq,Option.bind_some,if_pos (by omega)]
   ·simp only [List.length_cons] at hn hk;refine Ev_same (unquote_l0 n (i+2) l (acc++[unl b]) (by omega) h.tail.tail hb zq96) ?_;rw [unqL_two _ (isE_ne hE),List.append_assoc];rfl
  | @six a b c d v l hx hb =>
   have hr:=hex4_range hx;rw [unitL_six hx] at hu;simp only [List.length_cons] at hn hk;have hF:From s (i+6) l:=h.tail.tail.tail.tail.tail.tail;have hu2:=unit_eq hs hF;have one:∀ {R},Ev (fun x1=>(j1y.f x1 acc v).bind fun t123=>(j1z.l0 x1 t123 s ((i+6:Nat):Int))) R↔Ev (fun x1=>(j1y.f x1 acc v).bind fun t123=>(j1z.l0 x1 t123 s ((i+6:Nat):Int))) R:=Iff.rfl;have hul:=utf_len v
   have fin:Ev (fun x1=>(j1y.f x1 acc v).bind fun t123=>(j1z.l0 x1 t123 s ((i+6:Nat):Int))) (strOfNums (acc++(utf v++unqL l))):=by
    refine Ev.bind (appendUTF8_eq hr.1 (by omega) (by omega)) ?_;have:=unquote_l0 n (i+6) l (acc++utf v) (by omega) hF hb zq96
    rwa [List.append_assoc] at this
   refine st hu ?_;rw [unqL_six hx];refine Ev.congr (fun k=>if_pos rfl) (Ev.bind hu2 ?_);simp only [Option.getD_some];cases hv2:unitL l with
   | none =>
    have e:pairL v l=none:=by unfold pairL;rw [hv2];rfl
    rw [e];exact Ev.congr (fun k=>if_neg (by simp)) fin
   | some m =>
    have hm:=unitL_range hv2;refine Ev.congr (f:=fun x1=>if hiS v=true then (if loS m=true then ((j1y.f x1 acc (wrap64 ((wrap64 (65536+(wrap64 ((wrap64 (v - 55296))*1024))))+(wrap64 (m - 56320))))).bind fun t114=>(j1z.l0 x1 t114 s (wrap64 (((i+6:Nat):Int)+6)))) else ((j1y.f x1 acc v).bind fun t117=>(j1z.l0 x1 t117 s ((i+6:Nat):Int)))) else ((j1y.f x1 acc v).bind fun t120=>(j1z.l0 x1 t120 s ((i+6:Nat):Int)))) (fun k=>?_) ?_
    ·rw [if_pos (by simp),high_eq,Option.bind_some];simp only [low_eq,Option.bind_some,Option.getD_some]
    by_cases h3:hiS v=true
    rotate_left
    ·have e:pairL v l=none:=by unfold pairL;rw [hv2,Option.bind_some,if_neg (by simp [h3])]
     rw [e];exact Ev.congr (fun k=>if_neg h3) fin
    by_cases h4:loS m=true
    rotate_left
    ·have e:pairL v l=none:=by unfold pairL;rw [hv2,Option.bind_some,if_neg (by simp [h4])]
     rw [e];exact Ev.congr (fun k=>by rw [if_pos h3,if_neg h4]) fin
    have e:pairL v l=some m:=by unfold pairL;rw [hv2,Option.bind_some,h3,h4];rfl
    rw [e];have h3':=h3;have h4':=h4;simp only [hiS,decide_eq_true_eq] at h3';simp only [loS,decide_eq_true_eq] at h4';have h6:=unitL_len hv2
    have hC:wrap64 ((wrap64 (65536+(wrap64 ((wrap64 (v - 55296))*1024))))+(wrap64 (m - 56320)))=65536+(v - 55296)*1024+(m - 56320):=by
     rw [w64 (x:=v - 55296) (by omega),w64 (x:=(v - 55296)*1024) (by omega),w64 (x:=65536+(v - 55296)*1024) (by omega),w64 (x:=m - 56320) (by omega),w64 (by omega)]
    have hul2:=utf_len (65536+(v - 55296)*1024+(m - 56320));refine Ev.congr (f:=fun x1=>(j1y.f x1 acc (65536+(v - 55296)*1024+(m - 56320))).bind fun t114=>(j1z.l0 x1 t114 s ((i+6+6:Nat):Int))) (fun k=>?_) (Ev.bind (appendUTF8_eq (by omega) (by omega) (by omega)) ?_)
    ·rw [if_pos h3,if_pos h4,hC,up6 (i:=i+6) (by have:=hF.len;omega) hs]
    ·have:=unquote_l0 n (i+6+6) (l.drop 6) (acc++utf (65536+(v - 55296)*1024+(m - 56320))) (by rw [List.length_drop];omega) (hF.drop 6 h6) (body_drop6 hb hv2) zq96
     rwa [List.append_assoc] at this
theorem unquote_eq {b : List Int} (hq:bytesOf s=34 :: (b++[34])) (hb:Body b):Ev (fun k=>j1z.f k s) (strOfNums (unqL b)):=by
 have hz:s.size=b.length+2:=by
  have:=congrArg List.length hq;rw [bytesOf_length] at this
  simpa using this
 have e0:wrap64 ((s.size:Int) - 1)=((b.length+1:Nat):Int):=by rw [w64 (by omega)];omega
 have hF:From s 1 (b++[34]):=⟨by omega,by rw [hq];rfl⟩
 have hx:bytesOf (s.extract 1 (b.length+1))=b:=by
  have:=hF.extract
  rwa [Nat.add_comm] at this
 refine Ev.congr (f:=fun k=>j1z.l0 k [] (s.extract 1 (b.length+1)) ((0:Nat):Int)) (fun k=>?_) ?_
 ·unfold j1z.f;rw [e0,if_pos (by omega),if_pos (by omega),Int.toNat_natCast];rfl
 ·have hz2:(s.extract 1 (b.length+1)).size≤140737488351232:=by
   rw [← bytesOf_length,hx];omega
  have:=unquote_l0 hz2 b.length 0 b [] (Nat.le_refl _) (by have:=From.start (s.extract 1 (b.length+1));rwa [hx] at this) hb zq96
  simpa using this
end

end Go.Proofs.YthmjfmpgmcgonaaDoor.J
end
section
namespace Go.Proofs.YthmjfmpgmcgonaaDoor.RN
open Go.RowKit Go.Proofs.YthmjfmpgmcgonaaDoor.K Go.Proofs.YthmjfmpgmcgonaaDoorW.PrintWords Go.Proofs.YthmjfmpgmcgonaaDoorW.PrintLast
theorem wrap_up {i : Nat} {n:Nat} (h:i≤n) (hn:n≤140737488351232):wrap64 ((i:Int)+1)=((i+1:Nat):Int):=by
 unfold wrap64;omega
def tk (s : ByteArray) (i:Nat) (c:Int):Bool:=decide (i<s.size∧bt s i=c)
def dg (s : ByteArray) (i:Nat):Bool:=decide (i<s.size∧48≤bt s i∧bt s i≤57)
def dE (s : ByteArray) (i:Nat):Nat:=if i<s.size then (if dg s i=true then dE s (i+1) else i) else i
termination_by s.size - i
theorem dE_dg {s : ByteArray} {i:Nat} (h:dg s i=true):dE s i=dE s (i+1):=by
 have h':=h;simp only [dg,decide_eq_true_eq] at h'
 rw [dE,if_pos h'.1,if_pos h]
theorem dE_no {s : ByteArray} {i:Nat} (h:dg s i=false):dE s i=i:=by
 rw [dE];split
 ·rw [if_neg (by simp [h])]
 ·rfl
theorem dE_le (s : ByteArray) (d:Nat):∀ i,s.size - i=d→i≤s.size→i≤dE s i∧dE s i≤s.size:=by
 induction d with
 | zero =>
  intro i hd hi;rw [dE_no (by simp [dg];omega)];omega
 | succ d ih =>
  intro i hd hi;by_cases h:dg s i=true
  rotate_left
  ·rw [dE_no (by simpa using h)];omega
  rw [dE_dg h];have:=ih (i+1) (by omega) (by omega);omega
theorem dE_bounds {s : ByteArray} {i:Nat} (hi:i≤s.size):i≤dE s i∧dE s i≤s.size:=dE_le s _ i rfl hi
theorem dE_more {s : ByteArray} {i:Nat} (_hi:i≤s.size):decide (dE s i>i)=dg s i:=by
 by_cases h:dg s i=true
 rotate_left
 ·rw [dE_no (by simpa using h)];simp at h
  simp [h]
 have h':=h;simp only [dg,decide_eq_true_eq] at h'
 rw [dE_dg h,h];have:=dE_bounds (s:=s) (i:=i+1) (by omega);simp only [decide_eq_true_eq];omega
theorem take_eq {s : ByteArray} {i:Nat} (hs:s.size≤140737488351232) (hi:i≤s.size) (c:Int) :
 j1p.f s (i:Int) c=some (tk s i c,s,((if tk s i c=true then i+1 else i:Nat):Int)):=by
 unfold j1p.f tk;by_cases h1:i<s.size
 rotate_left
 ·rw [if_neg (by omega)];simp [h1]
 rw [if_pos (by omega),if_pos (by omega)];by_cases h2:bt s i=c
 rotate_left
 ·rw [if_neg h2];simp [h1,h2]
 rw [if_pos h2,wrap_up hi hs];simp [h1,h2]
theorem here_eq {s : ByteArray} {i:Nat}:j2g.f s (i:Int)=some (if i<s.size then bt s i else 0,s,(i:Int)):=by
 unfold j2g.f;by_cases h1:i<s.size
 rotate_left
 ·rw [if_neg (by omega),if_neg h1]
 rw [if_pos (by omega),if_pos (by omega),if_pos h1]
theorem digits_l0 {s : ByteArray} (hs:s.size≤140737488351232) (x3:Nat) (d:Nat):∀ i,s.size - i=d→i≤s.size →
 Ev (fun k=>j1x.l0 k x3 (if i<s.size then bt s i else 0) s i) (decide (((dE s i:Nat):Int)>x3),s,((dE s i:Nat):Int)):=by
 induction d with
 | zero =>
  intro i hd hi;have hn:¬ i<s.size:=by omega
  have hz:dg s i=false:=by simp [dg];omega
  rw [dE_no hz];refine Ev.step (f:=fun _=>some (decide (((i:Nat):Int)>x3),s,((i:Nat):Int))) (fun k=>?_) (Ev.now _);simp only [j1x.l0];rw [if_neg hn,if_neg (by omega)]
 | succ d ih =>
  intro i hd hi;have hlt:i<s.size:=by omega
  by_cases h:dg s i=true
  ·have h':=h;simp only [dg,decide_eq_true_eq] at h'
   rw [dE_dg h];refine Ev.step (f:=fun k=>j1x.l0 k x3 (if i+1<s.size then bt s ((i+1:Nat):Int) else 0) s ((i+1:Nat):Int)) (fun k=>?_) (ih (i+1) (by omega) (by omega));simp only [j1x.l0];rw [if_pos hlt,if_pos h'.2.1,if_pos h'.2.2,wrap_up hi hs,here_eq];rfl
  have hz:dg s i=false:=by simpa using h
  have h':=hz;simp only [dg,decide_eq_false_iff_not] at h'
  rw [dE_no hz];refine Ev.step (f:=fun _=>some (decide (((i:Nat):Int)>x3),s,((i:Nat):Int))) (fun k=>?_) (Ev.now _);simp only [j1x.l0];rw [if_pos hlt];by_cases h48:48≤bt s i
  rotate_left
  ·rw [if_neg h48]
  rw [if_pos h48,if_neg (by omega)]
theorem digits_eq {s : ByteArray} (hs:s.size≤140737488351232) {i:Nat} (hi:i≤s.size) :
 Ev (fun k=>j1x.f k s i) (dg s i,s,((dE s i:Nat):Int)):=by
 have h:=digits_l0 hs i _ i rfl hi;refine Ev.congr (f:=fun k=>j1x.l0 k i (if i<s.size then bt s i else 0) s i) (fun k=>?_) ?_
 ·unfold j1x.f;rw [here_eq];rfl
 ·have e:decide (((dE s i:Nat):Int)>(i:Int))=dg s i:=by
   rw [← dE_more hi,Bool.eq_iff_iff,decide_eq_true_eq,decide_eq_true_eq];omega
  rw [e] at h
  exact h
def numX (s : ByteArray) (i:Nat):Bool × Nat :=
  if (tk s i 101 || tk s i 69)=true then (let j:=if (tk s (i+1) 43 || tk s (i+1) 45)=true then i+2 else i+1;(dg s j,dE s j)) else (true,i)
def numF (s : ByteArray) (i:Nat):Bool × Nat :=
  if tk s i 46=true then (if dg s (i+1)=true then numX s (dE s (i+1)) else (false,i+1)) else numX s i
def numE (s : ByteArray) (i:Nat):Bool × Nat :=
  let j:=if tk s i 45=true then i+1 else i
  if tk s j 48=true then numF s (j+1) else if dg s j=true then numF s (dE s j) else (false,j)

theorem tk_lt {s : ByteArray} {i:Nat} {c:Int} (h:tk s i c=true):i<s.size:=by
 simp only [tk,decide_eq_true_eq] at h
 exact h.1
theorem tk_out {s : ByteArray} {i:Nat} {c:Int} (h:¬ i<s.size):tk s i c=false:=decide_eq_false fun x=>h x.1
theorem dg_out {s : ByteArray} {i:Nat} (h:¬ i<s.size):dg s i=false:=decide_eq_false fun x=>h x.1
theorem take_yes {s : ByteArray} {i:Nat} {c:Int} (hs:s.size≤140737488351232) (h:tk s i c=true):j1p.f s (i:Int) c=some (true,s,((i+1:Nat):Int)):=by
 have:=tk_lt h;rw [take_eq hs (by omega),h];rfl
theorem take_no {s : ByteArray} {i:Nat} {c:Int} (hs:s.size≤140737488351232) (hi:i≤s.size) (h:¬ tk s i c=true):j1p.f s (i:Int) c=some (false,s,(i:Int)):=by
 have h':tk s i c=false:=by simpa using h
 rw [take_eq hs hi,h'];rfl
theorem Ev_same {α : Type} {g:Nat→Option α} {r r':α} (h:Ev g r) (e:r=r'):Ev g r':=e ▸ h
theorem number_j2 {s : ByteArray} (hs:s.size≤140737488351232) {i:Nat} (hi:i+1≤s.size) :
 Ev (fun k=>j1l.j2 k true s ((i+1:Nat):Int)) (let j:=if (tk s (i+1) 43 || tk s (i+1) 45)=true then i+2 else i+1;(dg s j,s,((dE s j:Nat):Int))):=by
 have key:∀ j,j≤s.size→Ev (fun k=>(j1x.f k s (j:Int)).bind fun b=>some (b.1,b.2.1,b.2.2)) (dg s j,s,((dE s j:Nat):Int)):=fun j hj=>Ev.bind (digits_eq hs hj) (Ev.now _)
 by_cases h1:tk s (i+1) 43=true
 ·have hl:=tk_lt h1;refine Ev_same (Ev.step (fun k=>?_) (key (i+2) hl)) (by simp [h1]);simp only [j1l.j2,take_yes hs h1,Option.bind_some,if_true]
 by_cases h2:tk s (i+1) 45=true
 rotate_left
 ·refine Ev_same (Ev.step (fun k=>?_) (key (i+1) hi)) (by simp [h1,h2]);simp only [j1l.j2,take_no hs hi h1,take_no hs hi h2,Option.bind_some,if_true,Bool.false_eq_true,if_false]
 have hl:=tk_lt h2;refine Ev_same (Ev.step (fun k=>?_) (key (i+2) hl)) (by simp [h2]);simp only [j1l.j2,take_no hs hi h1,take_yes hs h2,Option.bind_some,if_true,Bool.false_eq_true,if_false]
theorem number_j1 {s : ByteArray} (hs:s.size≤140737488351232) {i:Nat} (hi:i≤s.size) :
 Ev (fun k=>j1l.j1 k false s (i:Int)) ((numX s i).1,s,(((numX s i).2:Nat):Int)):=by
 by_cases h1:tk s i 101=true
 ·have hl:=tk_lt h1;refine Ev_same (Ev.step (fun k=>?_) (number_j2 hs hl)) (by simp [numX,h1]);simp only [j1l.j1,take_yes hs h1,Option.bind_some,if_true,Bool.false_eq_true,if_false]
 by_cases h2:tk s i 69=true
 ·have hl:=tk_lt h2;refine Ev_same (Ev.step (fun k=>?_) (number_j2 hs hl)) (by simp [numX,h2]);simp only [j1l.j1,take_no hs hi h1,take_yes hs h2,Option.bind_some,Bool.false_eq_true,if_false]
 refine Ev_same (Ev.step (f:=fun k=>j1l.j2 k false s (i:Int)) (fun k=>?_) (Ev.step (f:=fun _=>some (true,s,(i:Int))) (fun k=>?_) (Ev.now _))) (by simp [numX,h1,h2])
 ·simp only [j1l.j1,take_no hs hi h1,take_no hs hi h2,Option.bind_some,Bool.false_eq_true,if_false]
 ·simp only [j1l.j2,Bool.false_eq_true,if_false]
theorem number_j0 {s : ByteArray} (hs:s.size≤140737488351232) {i:Nat} (hi:i≤s.size) :
 Ev (fun k=>j1l.j0 k false s (i:Int)) ((numF s i).1,s,(((numF s i).2:Nat):Int)):=by
 by_cases h1:tk s i 46=true
 rotate_left
 ·refine Ev_same (Ev.step (fun k=>?_) (number_j1 hs hi)) (by simp [numF,h1]);simp only [j1l.j0,take_no hs hi h1,Option.bind_some,Bool.false_eq_true,if_false]
 have hl:=tk_lt h1;have hb:=dE_bounds (s:=s) hl
 have key:Ev (fun k=>(j1x.f k s ((i+1:Nat):Int)).bind fun b=>j1l.j1 k (!b.1) b.2.1 b.2.2) ((numF s i).1,s,(((numF s i).2:Nat):Int)):=by
  refine Ev.bind (digits_eq hs hl) ?_;by_cases h2:dg s (i+1)=true
  ·refine Ev_same (Ev.congr (fun k=>?_) (number_j1 hs hb.2)) (by simp [numF,h1,h2]);simp only [h2,Bool.not_true]
  have h2':dg s (i+1)=false:=by simpa using h2
  refine Ev_same (Ev.step (f:=fun _=>some (false,s,((i+1:Nat):Int))) (fun k=>?_) (Ev.now _)) (by simp [numF,h1,h2]);simp only [j1l.j1,h2',Bool.not_false,if_true,dE_no h2']
 refine Ev.step (fun k=>?_) key;simp only [j1l.j0,take_yes hs h1,Option.bind_some,if_true,Bool.false_eq_true,if_false]
theorem number_eq {s : ByteArray} (hs:s.size≤140737488351232) {i:Nat} (hi:i≤s.size) :
 Ev (fun k=>j1l.f k s (i:Int)) ((numE s i).1,s,(((numE s i).2:Nat):Int)):=by
 have key:∀ j,j≤s.size→Ev (fun k=>(j1p.f s (j:Int) 48).bind fun b=>if b.1=true then j1l.j0 k false b.2.1 b.2.2 else (j1x.f k b.2.1 b.2.2).bind fun c=>j1l.j0 k (!c.1) c.2.1 c.2.2)
  ((if tk s j 48=true then numF s (j+1) else if dg s j=true then numF s (dE s j) else (false,j)).1,s,(((if tk s j 48=true then numF s (j+1) else if dg s j=true then numF s (dE s j) else (false,j)).2:Nat):Int)):=by
  intro j hj;by_cases h1:tk s j 48=true
  ·refine Ev_same (Ev.congr (fun k=>?_) (number_j0 hs (tk_lt h1))) (by simp [h1]);simp only [take_yes hs h1,Option.bind_some,if_true]
  have hb:=dE_bounds (s:=s) hj;refine Ev.congr (f:=fun k=>(j1x.f k s (j:Int)).bind fun c=>j1l.j0 k (!c.1) c.2.1 c.2.2) (fun k=>?_) (Ev.bind (digits_eq hs hj) ?_)
  ·simp only [take_no hs hj h1,Option.bind_some,Bool.false_eq_true,if_false]
  ·by_cases h2:dg s j=true
   ·refine Ev_same (Ev.congr (fun k=>?_) (number_j0 hs hb.2)) (by simp [h1,h2]);simp only [h2,Bool.not_true]
   have h2':dg s j=false:=by simpa using h2
   refine Ev_same (Ev.step (f:=fun _=>some (false,s,(j:Int))) (fun k=>?_) (Ev.now _)) (by simp [h1,h2]);simp only [j1l.j0,h2',Bool.not_false,if_true,dE_no h2']
 by_cases h0:tk s i 45=true
 rotate_left
 ·refine Ev_same (Ev.congr (fun k=>?_) (key i hi)) (by simp [numE,h0]);unfold j1l.f;simp only [take_no hs hi h0,Option.bind_some]
 refine Ev_same (Ev.congr (fun k=>?_) (key (i+1) (tk_lt h0))) (by simp [numE,h0]);unfold j1l.f;simp only [take_yes hs h0,Option.bind_some]
end Go.Proofs.YthmjfmpgmcgonaaDoor.RN
end
section
namespace Go.Proofs.YthmjfmpgmcgonaaDoor.J
def isD (c : Int):Bool:=decide (48≤c∧c≤57)
def skD : List Int→List Int
  | []=>[]
  | c :: r=>if isD c=true then skD r else c :: r
theorem skD_len : ∀ l,(skD l).length≤l.length
 | []=>Nat.le_refl _
 | c :: r=>by
  unfold skD;split
  ·have:=skD_len r
   simp;omega
  ·exact Nat.le_refl _
def digL : List Int→Option (List Int)
  | []=>none
  | c :: r=>if isD c=true then some (skD r) else none
def expL : List Int→Option (List Int)
  | []=>some []
  | c :: r=>if c=101∨c=69 then (match r with
    | []=>none
    | d :: t=>if d=43∨d=45 then digL t else digL (d :: t)) else some (c :: r)
def fracL : List Int→Option (List Int)
  | []=>some []
  | c :: r=>if c=46 then (digL r).bind expL else expL (c :: r)
def intL : List Int→Option (List Int)
  | []=>none
  | c :: r=>if c=48 then fracL r else if isD c=true then fracL (skD r) else none
def numL : List Int→Option (List Int)
  | []=>none
  | c :: r=>if c=45 then intL r else intL (c :: r)
theorem digL_len {l r : List Int} (h:digL l=some r):r.length<l.length:=by
 unfold digL at h
 split at h
 ·cases h
 ·split at h
  ·cases h;have:=skD_len (by assumption)
   simp;omega
  ·cases h
theorem expL_len {l r : List Int} (h:expL l=some r):r.length≤l.length:=by
 unfold expL at h
 split at h
 ·cases h;exact Nat.le_refl _
 ·split at h
  ·split at h
   ·cases h
   ·split at h
    ·have:=digL_len h
     simp;omega
    ·have:=digL_len h;simp at this ⊢; omega
  ·cases h;exact Nat.le_refl _
theorem fracL_len {l r : List Int} (h:fracL l=some r):r.length≤l.length:=by
 unfold fracL at h
 split at h
 ·cases h;exact Nat.le_refl _
 ·split at h
  ·obtain ⟨t,h1,h2⟩:=Option.bind_eq_some_iff.mp h;have:=digL_len h1;have:=expL_len h2
   simp;omega
  ·exact expL_len h
theorem intL_len {l r : List Int} (h:intL l=some r):r.length<l.length:=by
 unfold intL at h
 split at h
 ·cases h
 ·rename_i c t;split at h
  ·have:=fracL_len h
   simp;omega
  ·split at h
   ·have:=fracL_len h;have:=skD_len t
    simp;omega
   ·cases h
theorem numL_len {l r : List Int} (h:numL l=some r):r.length<l.length:=by
 unfold numL at h
 split at h
 ·cases h
 ·split at h
  ·have:=intL_len h
   simp;omega
  ·exact intL_len h
def wordL (w l : List Int):Option (List Int):=if l.take w.length=w then some (l.drop w.length) else none
theorem wordL_len {w l r:List Int} (hw:w≠[]) (h:wordL w l=some r):r.length<l.length:=by
 unfold wordL at h
 split at h
 ·rename_i e;cases h;have h1:0<w.length:=List.length_pos_iff.mpr hw;have h2:=congrArg List.length e;simp at h2 ⊢;omega
 ·cases h
def nullW : List Int:=[110,117,108,108]
def falseW : List Int:=[102,97,108,115,101]
def trueW : List Int:=[116,114,117,101]

mutual
def valL (l : List Int):Option (List Int) :=
  match l with
  | []=>none
  | c :: r=>if c=123 then objL r else if c=91 then arrL r else if c=34 then strL r else if c=45∨isD c=true then numL (c :: r)
    else if c=110 then wordL nullW (c :: r) else if c=102 then wordL falseW (c :: r) else if c=116 then wordL trueW (c :: r) else none
termination_by 3 * l.length
decreasing_by all_goals (simp; omega)
def arrL (l : List Int):Option (List Int) :=
  match _h:skB l with
  | []=>none
  | c :: r=>if c=93 then some r else elsL (c :: r)
termination_by 3 * l.length + 2
decreasing_by
  have:=j3s l
  rw [_h] at this
  simp at this ⊢
  omega
def elsL (l : List Int):Option (List Int) :=
  match valL l with
  | none=>none
  | some t=>if t.length<l.length then (match _h:skB t with
    | []=>none
    | c :: u=>if c=93 then some u else if c=44 then elsL (skB u) else none) else none
termination_by 3 * l.length + 1
decreasing_by
  · omega
  · have h1:=j3s t
    rw [_h] at h1
    have h2:=j3s u
    simp at h1
    omega
def objL (l : List Int):Option (List Int) :=
  match _h:skB l with
  | []=>none
  | c :: r=>if c=125 then some r else memL (c :: r)
termination_by 3 * l.length + 2
decreasing_by
  have:=j3s l
  rw [_h] at this
  simp at this ⊢
  omega
def memL (l : List Int):Option (List Int) :=
  match l with
  | []=>none
  | c :: r=>if c=34 then (match _h1:strL r with
    | none=>none
    | some t=>(match _h2:skB t with
      | []=>none
      | d :: u=>if d=58 then (match valL (skB u) with
        | none=>none
        | some v=>if v.length≤r.length then (match _h3:skB v with
          | []=>none
          | e :: x=>if e=125 then some x else if e=44 then memL (skB x) else none) else none) else none)) else none
termination_by 3 * l.length + 1
decreasing_by
  · have h0:=strL_len _ _ _ (Nat.le_refl _) _h1
    have h1:=j3s t
    rw [_h2] at h1
    have h2:=j3s u
    simp at h1 ⊢
    omega
  · have h1:=j3s v
    rw [_h3] at h1
    have h2:=j3s x
    simp only [List.length_cons] at *
    omega
end
theorem arrL_of {l r : List Int} (h:arrL l=some r):r.length<l.length∨∃ b,b.length≤l.length∧elsL b=some r:=by
 rw [arrL] at h
 have:=j3s l;split at h
 ·cases h
 ·rename_i c t e;rw [e] at this;split at h
  ·cases h;simp at this;omega
  ·exact .inr ⟨_,this,h⟩
theorem objL_of {l r : List Int} (h:objL l=some r):r.length<l.length∨∃ b,b.length≤l.length∧memL b=some r:=by
 rw [objL] at h
 have:=j3s l;split at h
 ·cases h
 ·rename_i c t e;rw [e] at this;split at h
  ·cases h;simp at this;omega
  ·exact .inr ⟨_,this,h⟩
theorem all_len : ∀ n:Nat,(∀ l r:List Int,l.length≤n→valL l=some r→r.length<l.length)∧(∀ l r:List Int,l.length≤n→elsL l=some r→r.length<l.length)∧(∀ l r:List Int,l.length≤n→memL l=some r→r.length<l.length):=by
 intro n
 induction n with
 | zero =>
  refine ⟨fun l r hl h=>?_,fun l r hl h=>?_,fun l r hl h=>?_⟩
  ·obtain rfl:=List.length_eq_zero_iff.mp (Nat.le_zero.mp hl);rw [valL] at h
   cases h
  ·obtain rfl:=List.length_eq_zero_iff.mp (Nat.le_zero.mp hl);rw [elsL,valL] at h
   cases h
  ·obtain rfl:=List.length_eq_zero_iff.mp (Nat.le_zero.mp hl);rw [memL] at h
   cases h
 | succ n ih =>
  obtain ⟨ih1,ih2,ih3⟩:=ih
  have hv:∀ l r:List Int,l.length≤n+1→valL l=some r→r.length<l.length:=by
   intro l r hl h;rw [valL.eq_def] at h
   split at h
   ·cases h
   ·rename_i c t;simp only [List.length_cons] at hl ⊢;split at h
    ·rcases objL_of h with h1|⟨b,h1,h2⟩
     ·omega
     ·have:=ih3 b r (by omega) h2;omega
    split at h
    ·rcases arrL_of h with h1|⟨b,h1,h2⟩
     ·omega
     ·have:=ih2 b r (by omega) h2;omega
    split at h
    ·have:=strL_len _ _ _ (Nat.le_refl _) h;omega
    split at h
    ·exact numL_len h
    split at h
    ·exact wordL_len zq56 h
    split at h
    ·exact wordL_len zq56 h
    split at h
    ·exact wordL_len zq56 h
    ·cases h
  refine ⟨hv,fun l r hl h=>?_,fun l r hl h=>?_⟩
  ·rw [elsL] at h
   split at h
   ·cases h
   ·rename_i t e1;split at h
    ·rename_i e2;have h1:=j3s t;split at h
     ·cases h
     ·rename_i c u e3;rw [e3] at h1;simp only [List.length_cons] at h1;split at h
      ·cases h;omega
      split at h
      ·have h2:=j3s u;have:=ih2 (skB u) r (by omega) h;omega
      ·cases h
    ·cases h
  ·rw [memL.eq_def] at h
   split at h
   ·cases h
   ·rename_i c r0;simp only [List.length_cons] at hl h ⊢;split at h
    ·split at h
     ·cases h
     ·rename_i t e1;have k1:=strL_len _ _ _ (Nat.le_refl _) e1;split at h
      ·cases h
      ·rename_i d u e2;have k2:=j3s t;rw [e2] at k2;simp only [List.length_cons] at k2;split at h
       ·split at h
        ·cases h
        ·rename_i v e3;split at h
         ·rename_i e4;have k3:=j3s v;split at h
          ·cases h
          ·rename_i e x e5;rw [e5] at k3;simp only [List.length_cons] at k3;split at h
           ·cases h;omega
           split at h
           ·have k4:=j3s x;have:=ih3 (skB x) r (by omega) h;omega
           ·cases h
         ·cases h
       ·cases h
    ·cases h
theorem valL_len {l r : List Int} (h:valL l=some r):r.length<l.length:=(all_len l.length).1 l r (Nat.le_refl _) h
theorem memL_bad {l : List Int} (e:strL l=none):memL (34 :: l)=none:=by
 rw [memL.eq_def];simp only [if_true];split
 ·rfl
 ·rename_i h1;rw [h1] at e;cases e
end Go.Proofs.YthmjfmpgmcgonaaDoor.J
end
section
namespace Go.Proofs.YthmjfmpgmcgonaaDoor.J
open Go.RowKit Go.Proofs.YthmjfmpgmcgonaaDoor.K Go.Proofs.YthmjfmpgmcgonaaDoorW.PrintWords Go.Proofs.YthmjfmpgmcgonaaDoorW.PrintLast

def Suf (s : ByteArray) (l:List Int):Prop:=From s (s.size - l.length) l
def P (s : ByteArray) (l:List Int):Int:=((s.size - l.length:Nat):Int)
theorem Suf.le {s : ByteArray} {l:List Int} (h:Suf s l):l.length≤s.size:=by
 have:=From.len h;omega
theorem Suf.tail {s : ByteArray} {a:Int} {l:List Int} (h:Suf s (a :: l)):Suf s l:=by
 have h1:=h.le;have:=From.tail h;simp only [List.length_cons] at this h1;unfold Suf
 rwa [show s.size - l.length=s.size - (l.length+1)+1 by omega]
theorem Suf.app {s : ByteArray} {a l:List Int} (h:Suf s (a++l)):Suf s l:=by
 induction a with
 | nil=>exact h
 | cons x a ih=>exact ih (Suf.tail h)
theorem Suf.of {s : ByteArray} {i:Nat} {l:List Int} (h:From s i l):Suf s l∧i=s.size - l.length:=by
 have:=h.len;have e:i=s.size - l.length:=by omega
 refine ⟨?_,e⟩;unfold Suf;rw [← e];exact h
theorem Suf.start (s : ByteArray):Suf s (bytesOf s):=by
 unfold Suf;rw [bytesOf_length,Nat.sub_self];exact From.start s
theorem P_cons {s : ByteArray} {a:Int} {l:List Int} (h:Suf s (a :: l)):P s l=P s (a :: l)+1:=by
 have:=h.le;unfold P;simp only [List.length_cons] at this ⊢;omega
theorem P_le (s : ByteArray) (l:List Int):0≤P s l∧P s l≤s.size:=by unfold P;omega
theorem P_lt {s : ByteArray} {a:Int} {l:List Int} (h:Suf s (a :: l)):P s (a :: l)<s.size:=by
 have:=h.le;unfold P;simp only [List.length_cons] at this ⊢;omega
theorem P_nil (s : ByteArray):P s []=s.size:=by unfold P;simp
theorem Suf.bt {s : ByteArray} {a:Int} {l:List Int} (h:Suf s (a :: l)):bt s (P s (a :: l))=a:=From.bt h
theorem Suf.skB {s : ByteArray} {l:List Int} (h:Suf s l):Suf s (skB l):=by
 obtain ⟨b,_,e⟩:=skB_ex l;rw [e] at h
 exact h.app
theorem Suf.str {s : ByteArray} {l r:List Int} (h:Suf s l) (k:strL l=some r):Suf s r:=by
 obtain ⟨b,_,e⟩:=strL_iff.mp k;rw [e] at h
 exact Suf.tail h.app
theorem skD_ex : ∀ l,∃ b,l=b++skD l
 | []=>⟨[],rfl⟩
 | c :: r=>by
  unfold skD;split
  ·obtain ⟨b,e⟩:=skD_ex r;exact ⟨c :: b,by rw [List.cons_append,← e]⟩
  ·exact ⟨[],rfl⟩
theorem Suf.skD {s : ByteArray} {l:List Int} (h:Suf s l):Suf s (skD l):=by
 obtain ⟨b,e⟩:=skD_ex l;rw [e] at h
 exact h.app
theorem Suf.drop {s : ByteArray} {l:List Int} (h:Suf s l) (n:Nat):Suf s (l.drop n):=by
 rw [← List.take_append_drop n l] at h
 exact h.app
section
variable {s : ByteArray} (hs:s.size≤140737488351232)
include hs
theorem up_P {a : Int} {l:List Int} (h:Suf s (a :: l)):wrap64 (P s (a :: l)+1)=P s l:=by
 have:=P_le s (a :: l);rw [P_cons h,w64 (by omega)]
theorem j3z {a : Int} {l:List Int} (h:Suf s (a :: l)) (c:Int):j1p.f s (P s (a :: l)) c=if a=c then some (true,s,P s l) else some (false,s,P s (a :: l)):=by
 have h1:=P_lt h;have h2:=P_le s (a :: l);unfold j1p.f;rw [if_pos (by omega),if_pos (by omega),h.bt,up_P hs h]
omit hs in
theorem take_nil (c : Int):j1p.f s (P s []) c=some (false,s,P s []):=by
 unfold j1p.f;rw [P_nil,if_neg (by omega)]
omit hs in
theorem here_P {a : Int} {l:List Int} (h:Suf s (a :: l)):j2g.f s (P s (a :: l))=some (a,s,P s (a :: l)):=here_cons h
omit hs in
theorem here_P0 : j2g.f s (P s [])=some (0,s,P s []):=by
 unfold j2g.f;rw [P_nil,if_neg (by omega)]
theorem j4g : ∀ l,Suf s l→Ev (fun k=>j1n.f k s (P s l)) (s,P s (skB l))
 | [],_=>by
  refine Ev.step (f:=fun _=>some (s,P s [])) (fun k=>?_) (Ev.now _);unfold j1n.f;simp only [j1n.l0];rw [P_nil,if_neg (by omega)]
 | c :: l,h=>by
  have h1:=P_lt h;have h2:=P_le s (c :: l)
  have hb:j4a.f c=some (isB c):=by
   unfold j4a.f isB;by_cases e1:c=32
   ·rw [if_pos e1,e1];rfl
   by_cases e2:c=9
   ·rw [if_neg e1,if_pos e2,e2];rfl
   by_cases e3:c=10
   ·rw [if_neg e1,if_neg e2,if_pos e3,e3];rfl
   rw [if_neg e1,if_neg e2,if_neg e3]
   congr 1
   rw [Bool.eq_iff_iff];simp [e1,e2,e3]
  unfold j1n.f;by_cases e:isB c=true
  ·refine Ev.step (fun k=>?_) (Ev_same (j4g l h.tail) (by rw [skB,if_pos e]));simp only [j1n.l0];rw [if_pos (by omega),if_pos (by omega),h.bt,hb,Option.bind_some,if_pos e,up_P hs h];rfl
  refine Ev.step (f:=fun _=>some (s,P s (c :: l))) (fun k=>?_) (Ev_same (Ev.now _) (by rw [skB,if_neg e]));simp only [j1n.l0];rw [if_pos (by omega),if_pos (by omega),h.bt,hb,Option.bind_some,if_neg e]
theorem quoted_P {a : Int} {l:List Int} (h:Suf s (a :: l)) :
 (∀ r,strL l=some r→Ev (fun k=>j1v.f k s (P s (a :: l))) (true,s,P s r))∧(strL l=none→∃ p,Ev (fun k=>j1v.f k s (P s (a :: l))) (false,s,p)):=quoted_eq hs h
theorem word_eq {l : List Int} (h:Suf s l) (w:ByteArray) (hw:w.size≤10):j3c.f s (P s l) w=match wordL (bytesOf w) l with
 | some r=>some (true,s,P s r)
 | none=>some (false,s,P s l):=by
 have h1:=h.le;have h2:=P_le s l;have hl:(bytesOf w).length=w.size:=bytesOf_length w
 have e0:wrap64 ((s.size:Int) - P s l)=l.length:=by
  unfold P at h2 ⊢;rw [w64 (by omega)];omega
 have e1:wrap64 (P s l+(w.size:Int))=((s.size - l.length+w.size:Nat):Int):=by
  unfold P at h2 ⊢;rw [w64 (by omega)];omega
 unfold j3c.f wordL;rw [e0,e1,hl];by_cases e2:(l.length:Int)<(w.size:Int)
 ·rw [if_pos e2,if_neg];intro e;have:=congrArg List.length e;rw [hl,List.length_take] at this;omega
 rw [if_neg e2,if_pos (by omega),if_pos (by unfold P;omega),if_pos (by omega)]
 have e3:bytesOf (s.extract (P s l).toNat ((s.size - l.length+w.size:Nat):Int).toNat)=l.take w.size:=by
  have:=h.2;unfold P;rw [Int.toNat_natCast,Int.toNat_natCast,bytesOf_extract,List.drop_take,this,Nat.add_sub_cancel_left]
 have e4:((s.extract (P s l).toNat ((s.size - l.length+w.size:Nat):Int).toNat).toList=w.toList)=(l.take w.size=bytesOf w):=by
  apply propext
  constructor
  ·intro e;rw [← e3,toList_inj e]
  ·intro e;rw [← e3] at e;rw [bytesOf_inj e]
 have e5:((s.size - l.length+w.size:Nat):Int)=P s (l.drop w.size):=by
  unfold P;rw [List.length_drop];omega
 by_cases e6:l.take w.size=bytesOf w
 rotate_left
 ·rw [if_neg (e4 ▸ e6),if_neg e6]
 rw [if_pos (e4 ▸ e6),if_pos e6,e5]
omit hs in
theorem j4n {a : Int} {l:List Int} {i:Nat} (h:From s i (a :: l)) (c:Int):RN.tk s i c=decide (a=c):=by
 unfold RN.tk;have:=h.lt;rw [h.bt];simp [this]
omit hs in
theorem tk_nil {i : Nat} (h:From s i []) (c:Int):RN.tk s i c=false:=RN.tk_out (by have:=h.nil;omega)
omit hs in
theorem dg_cons {a : Int} {l:List Int} {i:Nat} (h:From s i (a :: l)):RN.dg s i=isD a:=by
 unfold RN.dg isD;have:=h.lt;rw [h.bt];simp [this]
omit hs in
theorem dg_nil {i : Nat} (h:From s i []):RN.dg s i=false:=RN.dg_out (by have:=h.nil;omega)
omit hs in
theorem dE_eq : ∀ (l:List Int) (i:Nat),From s i l→From s (RN.dE s i) (skD l)
 | [],i,h=>by rw [RN.dE_no (dg_nil h)];exact h
 | c :: l,i,h=>by
  by_cases e:isD c=true
  rotate_left
  ·rw [RN.dE_no (by rw [dg_cons h];simpa using e),skD,if_neg e];exact h
  rw [RN.dE_dg (by rw [dg_cons h,e]),skD,if_pos e];exact dE_eq l (i+1) h.tail
omit hs in
theorem digs {l : List Int} {i:Nat} (h:From s i l):(∀ r,digL l=some r→RN.dg s i=true∧From s (RN.dE s i) r)∧(digL l=none→RN.dg s i=false):=by
 match l,h with
 | [],h=>exact ⟨fun r hr=>(by simp [digL] at hr),fun _=>dg_nil h⟩
 | c :: l,h =>
  by_cases e:isD c=true
  rotate_left
  ·exact ⟨fun r hr=>(by rw [digL,if_neg e] at hr;cases hr),fun _=>(by rw [dg_cons h];simpa using e)⟩
  refine ⟨fun r hr=>?_,fun hr=>(by rw [digL,if_pos e] at hr;cases hr)⟩;rw [digL,if_pos e] at hr;cases hr;have:=dE_eq _ _ h;rw [skD,if_pos e] at this;exact ⟨by rw [dg_cons h,e],this⟩
omit hs in
theorem expL_other {c : Int} {l:List Int} (e:¬ (c=101∨c=69)):expL (c :: l)=some (c :: l):=by
 unfold expL;exact if_neg e
omit hs in
theorem numX_eq {l : List Int} {i:Nat} (h:From s i l):(∀ r,expL l=some r→(RN.numX s i).1=true∧From s (RN.numX s i).2 r)∧(expL l=none→(RN.numX s i).1=false):=by
 match l,h with
 | [],h =>
  have e:RN.numX s i=(true,i):=by unfold RN.numX;rw [tk_nil h,tk_nil h];rfl
  rw [e];refine ⟨fun r hr=>?_,fun hr=>(by simp [expL] at hr)⟩;simp only [expL,Option.some.injEq] at hr;subst hr;exact ⟨rfl,h⟩
 | c :: l,h =>
  by_cases e:c=101∨c=69
  rotate_left
  ·have e1:(RN.tk s i 101 || RN.tk s i 69)=false:=by
    rw [j4n h,j4n h]
    simpa using e
   unfold RN.numX;rw [if_neg (by rw [e1];decide)];refine ⟨fun r hr=>?_,fun hr=>(by rw [expL_other e] at hr;cases hr)⟩;rw [expL_other e] at hr;cases hr;exact ⟨rfl,h⟩
  have e1:(RN.tk s i 101 || RN.tk s i 69)=true:=by
   rw [j4n h,j4n h]
   simpa using e
  unfold RN.numX;rw [if_pos e1];have h1:=h.tail
  match l,h1 with
  | [],h1 =>
   have e2:(RN.tk s (i+1) 43 || RN.tk s (i+1) 45)=false:=by rw [tk_nil h1,tk_nil h1];rfl
   refine ⟨fun r hr=>(by rw [expL,if_pos e] at hr;cases hr),fun _=>?_⟩;simp only [e2,Bool.false_eq_true,if_false];exact dg_nil h1
  | d :: t,h1 =>
   by_cases e2:d=43∨d=45
   rotate_left
   ·have e3:(RN.tk s (i+1) 43 || RN.tk s (i+1) 45)=false:=by
     rw [j4n h1,j4n h1]
     simpa using e2
    have hd:=digs h1;simp only [e3,Bool.false_eq_true,if_false];refine ⟨fun r hr=>?_,fun hr=>?_⟩
    ·simp only [expL,if_pos e,if_neg e2] at hr;exact hd.1 r hr
    ·simp only [expL,if_pos e,if_neg e2] at hr;exact hd.2 hr
   have e3:(RN.tk s (i+1) 43 || RN.tk s (i+1) 45)=true:=by rw [j4n h1,j4n h1];simpa using e2
   have hd:=digs h1.tail;simp only [e3,if_true];refine ⟨fun r hr=>?_,fun hr=>?_⟩
   ·rw [expL,if_pos e] at hr;simp only [if_pos e2] at hr;exact hd.1 r hr
   ·rw [expL,if_pos e] at hr;simp only [if_pos e2] at hr;exact hd.2 hr
omit hs in
theorem numF_eq {l : List Int} {i:Nat} (h:From s i l):(∀ r,fracL l=some r→(RN.numF s i).1=true∧From s (RN.numF s i).2 r)∧(fracL l=none→(RN.numF s i).1=false):=by
 match l,h with
 | [],h =>
  have e:RN.numF s i=RN.numX s i:=by unfold RN.numF;rw [tk_nil h];rfl
  rw [e];exact numX_eq h
 | c :: l,h =>
  by_cases e:c=46
  rotate_left
  ·have e1:RN.tk s i 46=false:=by rw [j4n h];simpa using e
   have e3:RN.numF s i=RN.numX s i:=by unfold RN.numF;rw [e1];rfl
   rw [e3];have h3:=numX_eq h;refine ⟨fun r hr=>?_,fun hr=>?_⟩
   ·rw [fracL,if_neg e] at hr;exact h3.1 r hr
   ·rw [fracL,if_neg e] at hr;exact h3.2 hr
  have hd:=digs h.tail;have e1:RN.tk s i 46=true:=by rw [j4n h];simpa using e
  unfold RN.numF;rw [if_pos e1];cases e2:digL l with
  | none =>
   rw [if_neg (by rw [hd.2 e2];decide)];exact ⟨fun r hr=>(by rw [fracL,if_pos e,e2] at hr;cases hr),fun _=>rfl⟩
  | some t =>
   have h2:=hd.1 t e2;rw [if_pos h2.1];have h3:=numX_eq h2.2;refine ⟨fun r hr=>?_,fun hr=>?_⟩
   ·rw [fracL,if_pos e,e2] at hr;exact h3.1 r hr
   ·rw [fracL,if_pos e,e2] at hr;exact h3.2 hr
omit hs in
theorem intE_eq {l : List Int} {i:Nat} (h:From s i l) :
 (∀ r,intL l=some r→(if RN.tk s i 48=true then RN.numF s (i+1) else if RN.dg s i=true then RN.numF s (RN.dE s i) else (false,i)).1=true∧From s (if RN.tk s i 48=true then RN.numF s (i+1) else if RN.dg s i=true then RN.numF s (RN.dE s i) else (false,i)).2 r) ∧
 (intL l=none→(if RN.tk s i 48=true then RN.numF s (i+1) else if RN.dg s i=true then RN.numF s (RN.dE s i) else (false,i)).1=false):=by
 match l,h with
 | [],h =>
  rw [if_neg (by rw [tk_nil h];decide),if_neg (by rw [dg_nil h];decide)];exact ⟨fun r hr=>(by simp [intL] at hr),fun _=>rfl⟩
 | c :: l,h =>
  by_cases e:c=48
  ·rw [if_pos (by rw [j4n h];simpa using e),intL,if_pos e];exact numF_eq h.tail
  rw [if_neg (by rw [j4n h];simpa using e),intL,if_neg e];by_cases e2:isD c=true
  rotate_left
  ·have e4:¬ RN.dg s i=true:=by rw [dg_cons h];exact e2
   simp only [if_neg e4,if_neg e2];exact ⟨fun r hr=>(by cases hr),fun _=>trivial⟩
  have h2:=dE_eq _ _ h;rw [skD,if_pos e2] at h2;have e4:RN.dg s i=true:=by rw [dg_cons h];exact e2
  simp only [if_pos e4,if_pos e2];exact numF_eq h2
omit hs in
theorem numE_eq {l : List Int} {i:Nat} (h:From s i l):(∀ r,numL l=some r→(RN.numE s i).1=true∧From s (RN.numE s i).2 r)∧(numL l=none→(RN.numE s i).1=false):=by
 match l,h with
 | [],h =>
  have hd:=intE_eq h
  have e:RN.numE s i=(if RN.tk s i 48=true then RN.numF s (i+1) else if RN.dg s i=true then RN.numF s (RN.dE s i) else (false,i)):=by
   unfold RN.numE;have e0:¬ RN.tk s i 45=true:=by rw [tk_nil h];decide
   simp only [if_neg e0]
  rw [e];exact ⟨fun r hr=>(by simp [numL] at hr),fun _=>hd.2 rfl⟩
 | c :: l,h =>
  by_cases e:c=45
  rotate_left
  ·have e1:RN.numE s i=(if RN.tk s i 48=true then RN.numF s (i+1) else if RN.dg s i=true then RN.numF s (RN.dE s i) else (false,i)):=by
    unfold RN.numE;have e0:¬ RN.tk s i 45=true:=by rw [j4n h];simpa using e
    simp only [if_neg e0]
   rw [e1,numL,if_neg e];exact intE_eq h
  have e1:RN.numE s i=(if RN.tk s (i+1) 48=true then RN.numF s (i+1+1) else if RN.dg s (i+1)=true then RN.numF s (RN.dE s (i+1)) else (false,i+1)):=by
   unfold RN.numE;have e0:RN.tk s i 45=true:=by rw [j4n h];simpa using e
   simp only [if_pos e0]
  rw [e1,numL,if_pos e];exact intE_eq h.tail
theorem number_P {l : List Int} (h:Suf s l):(∀ r,numL l=some r→Ev (fun k=>j1l.f k s (P s l)) (true,s,P s r)∧Suf s r)∧(numL l=none→∃ p,Ev (fun k=>j1l.f k s (P s l)) (false,s,p)):=by
 have hn:=RN.number_eq hs (i:=s.size - l.length) (by omega);have he:=numE_eq h;refine ⟨fun r hr=>?_,fun hr=>?_⟩
 ·obtain ⟨h1,h2⟩:=he.1 r hr;rw [h1] at hn;obtain ⟨h3,h4⟩:=Suf.of h2;rw [h4] at hn;exact ⟨hn,h3⟩
 ·rw [he.2 hr] at hn;exact ⟨_,hn⟩
end
end Go.Proofs.YthmjfmpgmcgonaaDoor.J
end
section
namespace Go.Proofs.YthmjfmpgmcgonaaDoor.J
open Go.RowKit Go.Proofs.YthmjfmpgmcgonaaDoor.K Go.Proofs.YthmjfmpgmcgonaaDoorW.PrintWords Go.Proofs.YthmjfmpgmcgonaaDoorW.PrintLast
set_option linter.unusedVariables false
set_option linter.unusedSimpArgs false
set_option linter.unusedSectionVars false

def Bl (B : List Int):Prop:=∀ a ∈ B,isB a=true
theorem Bl.tail {c : Int} {B:List Int} (h:Bl (c :: B)):Bl B:=fun a ha=>h a (List.mem_cons_of_mem _ ha)
theorem Bl.nil : Bl []:=fun _ h=>by simp at h
theorem Bl.app {A B : List Int} (h:Bl A) (h':Bl B):Bl (A++B):=fun a ha=>(List.mem_append.mp ha).elim (h a) (h' a)
theorem Bl.sk {B : List Int} (h:Bl B) (l:List Int):skB (B++l)=skB l:=skB_app B l h
theorem j4b (l : List Int):∃ B,Bl B∧l=B++skB l:=skB_ex l
def NC (c : Int):Prop:=(48≤c∧c≤57)∨c=45∨c=43∨c=46∨c=101∨c=69
def ND (x : List Int):Prop:=∀ c r,x=c :: r→isD c=false
theorem isD_NC {c : Int} (h:isD c=true):NC c:=by
 simp only [isD,decide_eq_true_eq] at h
 exact .inl h
theorem skD_split : ∀ l:List Int,∃ d,l=d++skD l∧(∀ c ∈ d,isD c=true)∧ND (skD l)
 | []=>⟨[],rfl,fun _ h=>(by simp at h),fun c r h=>(by simp [skD] at h)⟩
 | c :: t=>by
  rw [skD];by_cases h:isD c=true
  rotate_left
  ·rw [if_neg h];refine ⟨[],rfl,fun _ h=>(by simp at h),fun a r e=>?_⟩;cases e
   simpa using h
  rw [if_pos h];obtain ⟨d,h1,h2,h3⟩:=skD_split t;refine ⟨c :: d,by rw [List.cons_append,← h1],fun a ha=>?_,h3⟩;rcases List.mem_cons.mp ha with rfl|ha
  ·exact h
  ·exact h2 a ha
theorem skD_app : ∀ (d x:List Int),(∀ c ∈ d,isD c=true)→ND x→skD (d++x)=x
 | [],[],_,_=>rfl
 | [],c :: x,_,h=>by
  rw [List.nil_append,skD,if_neg (by simp [h c x rfl])]
 | c :: d,x,h,hx=>by
  rw [List.cons_append,skD,if_pos (h c (by simp))];exact skD_app d x (fun a ha=>h a (List.mem_cons_of_mem _ ha)) hx
theorem ND_part {e r : List Int} (h:ND (e++r)):ND e:=fun c t he=>h c (t++r) (by rw [he];rfl)
def Cut (F : List Int→Option (List Int)) (l r:List Int):Prop:=∃ v,l=v++r∧F v=some []∧∀ c ∈ v,NC c
theorem digL_cut {l r : List Int} (h:digL l=some r):∃ d,l=d++r∧(∀ c ∈ d,NC c)∧ND r∧∀ x,ND x→digL (d++x)=some x:=by
 unfold digL at h
 split at h
 ·cases h
 ·rename_i c t;split at h
  ·rename_i hc;cases h;obtain ⟨d,h1,h2,h3⟩:=skD_split t;refine ⟨c :: d,by rw [List.cons_append,← h1],fun a ha=>?_,h3,fun x hx=>?_⟩
   ·rcases List.mem_cons.mp ha with rfl|ha
    ·exact isD_NC hc
    ·exact isD_NC (h2 a ha)
   ·rw [List.cons_append,digL,if_pos hc,skD_app d x h2 hx]
  ·cases h
theorem ND_nil : ND []:=fun c r h=>by cases h
theorem expL_cut {l r : List Int} (h:expL l=some r):Cut expL l r:=by
 unfold expL at h
 split at h
 ·cases h;exact ⟨[],rfl,rfl,fun _ h=>by simp at h⟩
 ·rename_i c t;split at h
  ·rename_i hc;have hN:NC c:=by unfold NC;omega
   split at h
   ·cases h
   ·rename_i d t;split at h
    ·rename_i hd;obtain ⟨v,h1,h2,h3,h4⟩:=digL_cut h;refine ⟨c :: d :: v,by rw [h1];rfl,?_,fun a ha=>?_⟩
     ·have:=h4 [] ND_nil;rw [List.append_nil] at this;simp only [expL,if_pos hc,if_pos hd,this]
     ·rcases List.mem_cons.mp ha with rfl|ha
      ·exact hN
      rcases List.mem_cons.mp ha with rfl|ha
      ·unfold NC;omega
      ·exact h2 a ha
    ·rename_i hd;obtain ⟨v,h1,h2,h3,h4⟩:=digL_cut h;have h5:=h4 [] ND_nil;rw [List.append_nil] at h5;cases v with
     | nil=>simp [digL] at h5
     | cons d' v =>
      obtain ⟨rfl,rfl⟩:=List.cons.inj h1;refine ⟨c :: d :: v,rfl,by simp only [expL,if_pos hc,if_neg hd,h5],fun a ha=>?_⟩;rcases List.mem_cons.mp ha with rfl|ha
      ·exact hN
      ·exact h2 a ha
  ·cases h;exact ⟨[],rfl,rfl,fun _ h=>by simp at h⟩
theorem fracL_cut {l r : List Int} (h:fracL l=some r):Cut fracL l r:=by
 unfold fracL at h
 split at h
 ·cases h;exact ⟨[],rfl,rfl,fun _ h=>by simp at h⟩
 ·rename_i c t;split at h
  ·rename_i hc;obtain ⟨u,h1,h2⟩:=Option.bind_eq_some_iff.mp h;obtain ⟨d,rfl,k2,k3,k4⟩:=digL_cut h1;obtain ⟨e,rfl,k6,k7⟩:=expL_cut h2;refine ⟨c :: (d++e),by simp,?_,fun a ha=>?_⟩
   ·simp only [fracL,if_pos hc,k4 e (ND_part k3),Option.bind_some,k6]
   ·rcases List.mem_cons.mp ha with rfl|ha
    ·unfold NC;omega
    ·exact (List.mem_append.mp ha).elim (k2 a) (k7 a)
  ·rename_i hc;obtain ⟨v,h1,h2,h3⟩:=expL_cut h;cases v with
   | nil=>exact ⟨[],h1,rfl,h3⟩
   | cons c' v =>
    obtain ⟨rfl,rfl⟩:=List.cons.inj h1;exact ⟨c :: v,rfl,by simp only [fracL,if_neg hc,h2],h3⟩
theorem intL_cut {l r : List Int} (h:intL l=some r):Cut intL l r∧∀ c t,l=c :: t→isD c=true:=by
 unfold intL at h
 split at h
 ·cases h
 ·rename_i c t;split at h
  ·rename_i hc;obtain ⟨v,rfl,h2,h3⟩:=fracL_cut h;refine ⟨⟨c :: v,rfl,by simp only [intL,if_pos hc,h2],fun a ha=>?_⟩,fun a t e=>?_⟩
   ·rcases List.mem_cons.mp ha with rfl|ha
    ·unfold NC;omega
    ·exact h3 a ha
   ·cases e;rw [hc];rfl
  ·rename_i hc;split at h
   ·rename_i hd;obtain ⟨v,h1,h2,h3⟩:=fracL_cut h;obtain ⟨d,k1,k2,k3⟩:=skD_split t;rw [h1] at k1 k3;refine ⟨⟨c :: (d++v),by rw [k1];simp,?_,fun a ha=>?_⟩,fun a t e=>by cases e;exact hd⟩
    ·simp only [intL,if_neg hc,if_pos hd,skD_app d v k2 (ND_part k3),h2]
    ·rcases List.mem_cons.mp ha with rfl|ha
     ·exact isD_NC hd
     ·exact (List.mem_append.mp ha).elim (fun h=>isD_NC (k2 a h)) (h3 a)
   ·cases h
theorem numL_cut {l r : List Int} (h:numL l=some r):Cut numL l r:=by
 unfold numL at h
 split at h
 ·cases h
 ·rename_i c t;split at h
  ·rename_i hc;obtain ⟨⟨v,rfl,h2,h3⟩,_⟩:=intL_cut h;refine ⟨c :: v,rfl,by simp only [numL,if_pos hc,h2],fun a ha=>?_⟩;rcases List.mem_cons.mp ha with rfl|ha
   ·unfold NC;omega
   ·exact h3 a ha
  ·rename_i hc;obtain ⟨⟨v,h1,h2,h3⟩,_⟩:=intL_cut h;cases v with
   | nil=>simp [intL] at h2
   | cons c' v =>
    obtain ⟨rfl,rfl⟩:=List.cons.inj h1;exact ⟨c :: v,rfl,by simp only [numL,if_neg hc,h2],h3⟩
theorem numL_head {v r : List Int} (h:numL v=some r):∃ c t,v=c :: t∧(c=45∨isD c=true):=by
 unfold numL at h
 split at h
 ·cases h
 ·rename_i c t;split at h
  ·rename_i hc;exact ⟨c,t,rfl, .inl hc⟩
  ·exact ⟨c,t,rfl, .inr ((intL_cut h).2 c t rfl)⟩
theorem numL_all {v : List Int} (h:numL v=some []):∀ c ∈ v,NC c:=by
 obtain ⟨w,h1,_,h3⟩:=numL_cut h;rw [List.append_nil] at h1;subst h1;exact h3
mutual
inductive PV : Nat → List Int→S27→Prop
  | str {a:Nat} {v b:List Int} {p:S27}:Body b→v=34 :: (b++[34])→p=⟨4,(a:Int),((a+v.length:Nat):Int),[],[]⟩→PV a v p
  | sca {a:Nat} {v:List Int} {k:Int} {p:S27}:(k=3∧numL v=some []∨k=0∧v=nullW∨k=1∧v=falseW∨k=2∧v=trueW)→p=⟨k,(a:Int),((a+v.length:Nat):Int),[],[]⟩→PV a v p
  | obj0 {a:Nat} {v B:List Int} {p:S27}:Bl B→v=123 :: (B++[125])→p=⟨6,(a:Int),((a+v.length:Nat):Int),[],[]⟩→PV a v p
  | obj {a:Nat} {v B m:List Int} {ns:List S49} {ps:List S27} {p:S27}:Bl B→PM (a+1+B.length) m ns ps→v=123 :: (B++m)→p=⟨6,(a:Int),((a+v.length:Nat):Int),ns,ps⟩→PV a v p
  | arr0 {a:Nat} {v B:List Int} {p:S27}:Bl B→v=91 :: (B++[93])→p=⟨5,(a:Int),((a+v.length:Nat):Int),[],[]⟩→PV a v p
  | arr {a:Nat} {v B m:List Int} {ps:List S27} {p:S27}:Bl B→PE (a+1+B.length) m ps→v=91 :: (B++m)→p=⟨5,(a:Int),((a+v.length:Nat):Int),[],ps⟩→PV a v p
inductive PM : Nat → List Int→List S49→List S27→Prop
  | one {a:Nat} {m b B1 B2 v B3:List Int} {p:S27} {ns:List S49} {ps:List S27}:Body b→Bl B1→Bl B2→Bl B3→PV (a+b.length+2+B1.length+1+B2.length) v p →
      m=34 :: (b++34 :: (B1++58 :: (B2++(v++(B3++[125])))))→ns=[⟨(a:Int),((a+b.length+2:Nat):Int)⟩]→ps=[p]→PM a m ns ps
  | more {a:Nat} {m b B1 B2 v B3 B4 m':List Int} {p:S27} {ns ns':List S49} {ps ps':List S27}:Body b→Bl B1→Bl B2→Bl B3→Bl B4→PV (a+b.length+2+B1.length+1+B2.length) v p →
      PM (a+b.length+2+B1.length+1+B2.length+v.length+B3.length+1+B4.length) m' ns' ps' →
      m=34 :: (b++34 :: (B1++58 :: (B2++(v++(B3++44 :: (B4++m'))))))→ns=⟨(a:Int),((a+b.length+2:Nat):Int)⟩ :: ns'→ps=p :: ps'→PM a m ns ps
inductive PE : Nat → List Int→List S27→Prop
  | one {a:Nat} {m v B:List Int} {p:S27} {ps:List S27}:Bl B→PV a v p→m=v++(B++[93])→ps=[p]→PE a m ps
  | more {a:Nat} {m v B B' m':List Int} {p:S27} {ps ps':List S27}:Bl B→Bl B'→PV a v p→PE (a+v.length+B.length+1+B'.length) m' ps'→m=v++(B++44 :: (B'++m'))→ps=p :: ps'→PE a m ps
end
theorem PV.at {a : Nat} {v:List Int} {p:S27} (h:PV a v p):p.f1=(a:Int)∧p.f2=((a+v.length:Nat):Int):=by
 cases h<;>(rename_i e;subst e;exact ⟨rfl,rfl⟩)
def V1 (c : Int):Prop:=c=34∨c=123∨c=91∨c=45∨isD c=true∨c=110∨c=102∨c=116
theorem V1.nb {c : Int} (h:V1 c):isB c=false:=by
 unfold V1 isD at h
 simp only [decide_eq_true_eq] at h
 simp only [isB,decide_eq_false_iff_not];omega
theorem PV.head {a : Nat} {v:List Int} {p:S27} (h:PV a v p):∃ c t,v=c :: t∧V1 c:=by
 unfold V1;cases h with
 | str _ e _=>exact ⟨_,_,e, .inl rfl⟩
 | sca h _ =>
  rcases h with ⟨_,h⟩|⟨_,h⟩|⟨_,h⟩|⟨_,h⟩
  ·obtain ⟨c,t,e,h⟩:=numL_head h;exact ⟨c,t,e,by rcases h with h|h<;>simp [h]⟩
  ·exact ⟨_,_,h,by simp⟩
  ·exact ⟨_,_,h,by simp⟩
  ·exact ⟨_,_,h,by simp⟩
 | obj0 _ e _=>exact ⟨_,_,e,by simp⟩
 | obj _ _ e _=>exact ⟨_,_,e,by simp⟩
 | arr0 _ e _=>exact ⟨_,_,e,by simp⟩
 | arr _ _ e _=>exact ⟨_,_,e,by simp⟩
theorem PV.pos {a : Nat} {v:List Int} {p:S27} (h:PV a v p):0<v.length:=by
 obtain ⟨c,t,rfl,_⟩:=h.head;simp
theorem strE_body {b : List Int} (h:Body b):∀ (r:List Int) (i:Nat) (e:Bool),strE 34 (b++34 :: r) i e false=(((i+b.length+1:Nat):Int),e || decide (92 ∈ b)):=by
 have hx:∀ {c v:Int},hexv c=some v→c≠34∧c≠92:=fun {c v} h=>by
  unfold hexv at h
  split at h
  ·omega
  split at h
  ·omega
  split at h
  ·omega
  ·cases h
 induction h with
 | nil =>
  intro r i e;rw [List.nil_append,strE,if_pos rfl,if_neg zq56];simp
 | @raw c l h1 h2 h3 _ ih =>
  intro r i e;rw [List.cons_append,strE,if_neg h1,if_neg h3,ih];have:(92:Int)≠c:=fun h=>h3 h.symm
  simp only [List.length_cons,List.mem_cons,this,false_or];rw [show i+1+l.length+1=i+(l.length+1)+1 by omega]
 | @two b l hE _ ih =>
  intro r i e
  have go:strE 34 (92 :: b :: (l++34 :: r)) i e false=strE 34 (l++34 :: r) (i+1+1) true false:=by
   rw [strE,if_neg zq56,if_pos rfl,strE];by_cases h34:b=34
   ·rw [if_pos h34,if_pos (by rfl)]
   rw [if_neg h34];by_cases h92:b=92
   rotate_left
   ·rw [if_neg h92]
   rw [if_pos h92];rfl
  rw [List.cons_append,List.cons_append,go,ih];simp only [List.length_cons,List.mem_cons,true_or,decide_true,Bool.or_true,Bool.true_or];rw [show i+1+1+l.length+1=i+(l.length+1+1)+1 by omega]
 | @six a b c d v l h _ ih =>
  intro r i e
  obtain ⟨⟨a1,a2⟩,⟨b1,b2⟩,⟨c1,c2⟩,⟨d1,d2⟩⟩:(a≠34∧a≠92)∧(b≠34∧b≠92)∧(c≠34∧c≠92)∧(d≠34∧d≠92):=by
   unfold hex4 at h
   obtain ⟨x,h1,h⟩:=Option.bind_eq_some_iff.mp h;obtain ⟨y,h2,h⟩:=Option.bind_eq_some_iff.mp h;obtain ⟨z,h3,h⟩:=Option.bind_eq_some_iff.mp h;obtain ⟨u,h4,h⟩:=Option.bind_eq_some_iff.mp h;exact ⟨hx h1,hx h2,hx h3,hx h4⟩
  have go:strE 34 (92 :: 117 :: a :: b :: c :: d :: (l++34 :: r)) i e false=strE 34 (l++34 :: r) (i+1+1+1+1+1+1) true false:=by
   rw [strE,if_neg zq56,if_pos rfl,strE,if_neg zq56,if_neg zq56,strE,if_neg a1,if_neg a2,strE,if_neg b1,if_neg b2,strE,if_neg c1,if_neg c2,strE,if_neg d1,if_neg d2]
  simp only [List.cons_append];rw [go,ih];simp only [List.length_cons,List.mem_cons,true_or,decide_true,Bool.or_true,Bool.true_or];rw [show i+1+1+1+1+1+1+l.length+1=i+(l.length+1+1+1+1+1+1)+1 by omega]
theorem nT_bl : ∀ {B:List Int} {c:Int} {r:List Int},Bl B→isB c=false→∀ i:Nat,nT (B++c :: r) i=((i+B.length:Nat):Int)
 | [],c,r,_,h,i=>by rw [List.nil_append,nT,if_neg (by simp [h])];rfl
 | a :: B,c,r,hB,h,i=>by
  rw [List.cons_append,nT,if_pos (hB a (by simp)),nT_bl hB.tail h];simp only [List.length_cons];omega
def SC (c : Int):Prop:=K.isE c=false∧32<c∧c≠34∧c≠39∧c≠123∧c≠125∧c≠91∧c≠93∧c≠58∧c≠44
instance (c : Int) : Decidable (SC c):=by unfold SC;infer_instance
theorem NC.sc {c : Int} (h:NC c):SC c:=by
 unfold NC at h
 unfold SC K.isE;simp only [decide_eq_false_iff_not];omega
def Sca (k : Int) (v:List Int):Prop:=k=3∧numL v=some []∨k=0∧v=nullW∨k=1∧v=falseW∨k=2∧v=trueW
theorem Sca.sc {k : Int} {v:List Int} (h:Sca k v):∀ c ∈ v,SC c:=by
 rcases h with ⟨_,h⟩|⟨_,rfl⟩|⟨_,rfl⟩|⟨_,rfl⟩
 ·exact fun c hc=>(numL_all h c hc).sc
 ·exact (zq56:∀ c ∈ nullW,SC c)
 ·exact (zq56:∀ c ∈ falseW,SC c)
 ·exact (zq56:∀ c ∈ trueW,SC c)
def Dl (r : List Int):Prop:=∀ c t,r=c :: t→K.isE c=true
theorem tE_sc : ∀ {v r:List Int},(∀ c ∈ v,SC c)→Dl r→∀ i:Nat,tE (v++r) i=i+v.length
 | [],[],_,_,i=>rfl
 | [],c :: r,_,h,i=>by rw [List.nil_append,tE,if_pos (h c r rfl)];rfl
 | c :: v,r,hv,h,i=>by
  rw [List.cons_append,tE,if_neg (by simp [(hv c (by simp)).1]),tE_sc (fun a ha=>hv a (List.mem_cons_of_mem _ ha)) h];simp only [List.length_cons];omega
theorem isB_E {c : Int} (h:isB c=true):K.isE c=true:=by
 simp only [isB,decide_eq_true_eq] at h
 simp only [K.isE,decide_eq_true_eq];omega
theorem Dl_bl {B r : List Int} (hB:Bl B) (h:Dl r):Dl (B++r):=by
 cases B with
 | nil=>exact h
 | cons a B =>
  intro c t e;cases e;exact isB_E (hB a (by simp))
theorem Dl_cons {c : Int} {t:List Int} (h:c=44∨c=93∨c=125):Dl (c :: t):=by
 intro a r e;cases e;simp only [K.isE,decide_eq_true_eq];omega
theorem Dl_nil : Dl []:=fun c t h=>by cases h
section
variable {sq : Bool} {op cl:Int} (hoc:(op=123∧cl=125)∨(op=91∧cl=93))
include hoc
theorem bE_skip {c : Int} {t:List Int} (h:c≤32∨(92<c∧c≠op∧c≠cl)) (i:Nat) (lv:Int):bE sq op cl (c :: t) i lv=bE sq op cl t (i+1) lv:=by
 rw [bE,if_pos h]
theorem bE_oth {c : Int} {t:List Int} (h1:c≠34) (h2:c≠39) (h3:c≠op) (h4:c≠cl) (i:Nat) (lv:Int):bE sq op cl (c :: t) i lv=bE sq op cl t (i+1) lv:=by
 rw [bE];by_cases h0:c≤32∨(92<c∧c≠op∧c≠cl)
 ·rw [if_pos h0]
 have h5:¬ (c=34∨(c=39∧sq=true)):=by
  rintro (h|h)
  ·exact h1 h
  ·exact h2 h.1
 rw [if_neg h0,if_neg h5,if_neg h2,if_neg h3,if_neg h4]
theorem bE_op {t : List Int} (i:Nat) (lv:Int):bE sq op cl (op :: t) i lv=bE sq op cl t (i+1) (lv+1):=by
 rw [bE,if_neg (by omega),if_neg (by omega),if_neg (by omega),if_pos rfl]
theorem bE_cl {t : List Int} (i:Nat) (lv:Int):bE sq op cl (cl :: t) i lv=if lv - 1=0 then (i:Int)+1 else bE sq op cl t (i+1) (lv - 1):=by
 rw [bE,if_neg (by omega),if_neg (by omega),if_neg (by omega),if_neg (by omega),if_pos rfl]
theorem bE_str {b : List Int} (hb:Body b) (r:List Int) (i:Nat) (lv:Int):bE sq op cl (34 :: (b++34 :: r)) i lv=bE sq op cl r (i+b.length+2) lv:=by
 rw [bE,if_neg (by omega),if_pos (.inl rfl),strE_body hb];simp only [Nat.zero_add,Int.toNat_natCast];rw [if_neg (by omega)]
 have:List.drop (b.length+1) (b++34 :: r)=r:=by
  rw [List.drop_append,List.drop_of_length_le (by omega)];simp
 rw [this,show i+1+(b.length+1)=i+b.length+2 by omega]
theorem bE_bl : ∀ {B:List Int},Bl B→∀ (r:List Int) (i:Nat) (lv:Int),bE sq op cl (B++r) i lv=bE sq op cl r (i+B.length) lv
 | [],_,r,i,lv=>rfl
 | c :: B,h,r,i,lv=>by
  have hc:=h c (by simp);simp only [isB,decide_eq_true_eq] at hc;rw [List.cons_append,bE_skip hoc (by omega),bE_bl h.tail];simp only [List.length_cons];rw [show i+1+B.length=i+(B.length+1) by omega]
theorem bE_sc : ∀ {v:List Int},(∀ c ∈ v,SC c)→∀ (r:List Int) (i:Nat) (lv:Int),bE sq op cl (v++r) i lv=bE sq op cl r (i+v.length) lv
 | [],_,r,i,lv=>rfl
 | c :: v,h,r,i,lv=>by
  obtain ⟨_,_,h34,h39,h123,h125,h91,h93,_⟩:=h c (by simp);rw [List.cons_append,bE_oth hoc h34 h39 (by omega) (by omega),bE_sc (fun a ha=>h a (List.mem_cons_of_mem _ ha))];simp only [List.length_cons];rw [show i+1+v.length=i+(v.length+1) by omega]
def bK (sq : Bool) (op cl c:Int) (r:List Int) (j:Nat) (lv:Int):Int:=if c=cl then (if lv - 1=0 then (j:Int) else bE sq op cl r j (lv - 1)) else bE sq op cl r j lv
theorem bE_k {c : Int} (hc:c=125∨c=93) (r:List Int) (i:Nat) (lv:Int):bE sq op cl (c :: r) i lv=bK sq op cl c r (i+1) lv:=by
 unfold bK;by_cases h:c=cl
 ·rw [if_pos h];subst h;rw [bE_cl hoc];rfl
 rw [if_neg h];exact bE_oth hoc (by omega) (by omega) (by omega) h i lv
theorem bE_all : ∀ n:Nat,(∀ (a:Nat) (v:List Int) (p:S27),v.length≤n→PV a v p→∀ (r:List Int) (i:Nat) (lv:Int),1≤lv→bE sq op cl (v++r) i lv=bE sq op cl r (i+v.length) lv) ∧
 (∀ (a:Nat) (m:List Int) (ns:List S49) (ps:List S27),m.length≤n→PM a m ns ps→∀ (r:List Int) (i:Nat) (lv:Int),1≤lv→bE sq op cl (m++r) i lv=bK sq op cl 125 r (i+m.length) lv) ∧
 (∀ (a:Nat) (m:List Int) (ps:List S27),m.length≤n→PE a m ps→∀ (r:List Int) (i:Nat) (lv:Int),1≤lv→bE sq op cl (m++r) i lv=bK sq op cl 93 r (i+m.length) lv):=by
 intro n
 induction n with
 | zero =>
  refine ⟨fun a v p hn h=>?_,fun a m ns ps hn h=>?_,fun a m ps hn h=>?_⟩
  ·exact absurd h.pos (by omega)
  ·cases h<;>(subst_vars;simp at hn)
  ·cases h with
   | one _ _ e _=>subst e;simp at hn
   | more _ _ _ _ e _=>subst e;simp at hn
 | succ n ih =>
  obtain ⟨ihV,ihM,ihE⟩:=ih
  have pre:∀ (b B1 B2:List Int),Body b→Bl B1→Bl B2→∀ (r:List Int) (i:Nat) (lv:Int),bE sq op cl (34 :: (b++34 :: (B1++58 :: (B2++r)))) i lv=bE sq op cl r (i+b.length+2+B1.length+1+B2.length) lv:=fun b B1 B2 hb h1 h2 r i lv=>by
   rw [bE_str hoc hb,bE_bl hoc h1,bE_oth hoc zq56 zq56 (by omega) (by omega),bE_bl hoc h2]
  refine ⟨fun a v p hn h r i lv hlv=>?_,fun a m ns ps hn h r i lv hlv=>?_,fun a m ps hn h r i lv hlv=>?_⟩
  ·have blk:∀ (o c:Int),(o=123∧c=125)∨(o=91∧c=93)→∀ (x:List Int),(∀ (i:Nat) (lv:Int),1≤lv→bE sq op cl (x++r) i lv=bK sq op cl c r (i+x.length) lv)→bE sq op cl (o :: (x++r)) i lv=bE sq op cl r (i+(x.length+1)) lv:=fun o c ho x hx=>by
    by_cases e:o=op
    rotate_left
    ·rw [bE_oth hoc (by omega) (by omega) e (by omega),hx _ _ hlv,bK,if_neg (by omega),show i+1+x.length=i+(x.length+1) by omega]
    have ec:c=cl:=by omega
    subst e ec;rw [bE_op hoc,hx _ _ (by omega),bK,if_pos rfl,if_neg (by omega),show lv+1 - 1=lv by omega,show i+1+x.length=i+(x.length+1) by omega]
   cases h with
   | @str _ _ b _ hb e _ =>
    subst e;rw [show (34 :: (b++[34]))++r=34 :: (b++34 :: r) by simp,bE_str hoc hb];simp only [List.length_cons,List.length_append,List.length_nil];rw [show i+b.length+2=i+(b.length+(0+1)+1) by omega]
   | @sca _ _ k _ h _=>exact bE_sc hoc (Sca.sc (k:=k) h) r i lv
   | @obj0 _ _ B _ hB e _ =>
    subst e
    have:=blk 123 125 (.inl ⟨rfl,rfl⟩) (B++[125]) (fun i lv h=>by
     rw [List.append_assoc,bE_bl hoc hB,List.cons_append,bE_k hoc (.inl rfl),List.nil_append,List.length_append];rfl)
    simpa using this
   | @obj _ _ B m ns ps _ hB hm e _ =>
    subst e;simp only [List.length_cons,List.length_append] at hn
    have:=blk 123 125 (.inl ⟨rfl,rfl⟩) (B++m) (fun i lv h=>by
     rw [List.append_assoc,bE_bl hoc hB,ihM _ m _ _ (by omega) hm _ _ _ h,List.length_append,Nat.add_assoc])
    simpa using this
   | @arr0 _ _ B _ hB e _ =>
    subst e
    have:=blk 91 93 (.inr ⟨rfl,rfl⟩) (B++[93]) (fun i lv h=>by
     rw [List.append_assoc,bE_bl hoc hB,List.cons_append,bE_k hoc (.inr rfl),List.nil_append,List.length_append];rfl)
    simpa using this
   | @arr _ _ B m ps _ hB hm e _ =>
    subst e;simp only [List.length_cons,List.length_append] at hn
    have:=blk 91 93 (.inr ⟨rfl,rfl⟩) (B++m) (fun i lv h=>by
     rw [List.append_assoc,bE_bl hoc hB,ihE _ m _ (by omega) hm _ _ _ h,List.length_append,Nat.add_assoc])
    simpa using this
  ·cases h with
   | @one _ _ b B1 B2 v B3 p _ _ hb h1 h2 h3 hv e _ _ =>
    subst e;simp only [List.length_cons,List.length_append] at hn;have:=pre b B1 B2 hb h1 h2 (v++(B3++125 :: r)) i lv;rw [ihV _ v _ (by omega) hv _ _ _ hlv,bE_bl hoc h3,bE_k hoc (.inl rfl)] at this;rw [show (34 :: (b++34 :: (B1++58 :: (B2++(v++(B3++[125]))))))++r=34 :: (b++34 :: (B1++58 :: (B2++(v++(B3++125 :: r))))) by simp,this]
    congr 1
    simp only [List.length_cons,List.length_append,List.length_nil];omega
   | @more _ _ b B1 B2 v B3 B4 m' p _ ns' _ ps' hb h1 h2 h3 h4 hv hm e _ _ =>
    subst e;simp only [List.length_cons,List.length_append] at hn;have:=pre b B1 B2 hb h1 h2 (v++(B3++44 :: (B4++(m'++r)))) i lv;rw [ihV _ v _ (by omega) hv _ _ _ hlv,bE_bl hoc h3,bE_oth hoc (c:=44) zq56 zq56 (by omega) (by omega),bE_bl hoc h4,ihM _ m' _ _ (by omega) hm _ _ _ hlv] at this;rw [show (34 :: (b++34 :: (B1++58 :: (B2++(v++(B3++44 :: (B4++m')))))))++r=34 :: (b++34 :: (B1++58 :: (B2++(v++(B3++44 :: (B4++(m'++r))))))) by simp,this]
    congr 1
    simp only [List.length_cons,List.length_append];omega
  ·cases h with
   | @one _ _ v B p _ hB hv e _ =>
    subst e;have hvp:=hv.pos;simp only [List.length_cons,List.length_append] at hn;rw [show (v++(B++[93]))++r=v++(B++93 :: r) by simp,ihV _ v _ (by simp at hn;omega) hv _ _ _ hlv,bE_bl hoc hB,bE_k hoc (.inr rfl)]
    congr 1
    simp only [List.length_cons,List.length_append,List.length_nil];omega
   | @more _ _ v B B' m' p _ ps' hB hB' hv hm e _ =>
    subst e;have hvp:=hv.pos;simp only [List.length_cons,List.length_append] at hn;rw [show (v++(B++44 :: (B'++m')))++r=v++(B++44 :: (B'++(m'++r))) by simp,ihV _ v _ (by omega) hv _ _ _ hlv,bE_bl hoc hB,bE_oth hoc zq56 zq56 (by omega) (by omega),bE_bl hoc hB',ihE _ m' _ (by omega) hm _ _ _ hlv]
    congr 1
    simp only [List.length_cons,List.length_append];omega
end
theorem bE_obj {sq : Bool} {a:Nat} {v:List Int} {p:S27} (h:PV a v p) (hk:p.f0=6) (r:List Int):bE sq 123 125 (v++r) 0 0=(v.length:Int):=by
 have hoc:((123:Int)=123∧(125:Int)=125)∨((123:Int)=91∧(125:Int)=93) := .inl ⟨rfl,rfl⟩;cases h with
 | str _ _ e=>subst e;simp at hk
 | sca h e=>subst e;simp only at hk;omega
 | @obj0 _ _ B _ hB e _ =>
  subst e;rw [show (123 :: (B++[125]))++r=123 :: (B++125 :: r) by simp,bE_op hoc,bE_bl hoc hB,bE_cl hoc,if_pos zq56];simp only [List.length_cons,List.length_append,List.length_nil];omega
 | @obj _ _ B m ns ps _ hB hm e _ =>
  subst e;rw [show (123 :: (B++m))++r=123 :: (B++(m++r)) by simp,bE_op hoc,bE_bl hoc hB,(bE_all hoc m.length).2.1 _ m _ _ (Nat.le_refl _) hm _ _ _ zq56,bK,if_pos rfl,if_pos zq56];simp only [List.length_cons,List.length_append];omega
 | arr0 _ _ e=>subst e;simp at hk
 | arr _ _ _ e=>subst e;simp at hk
theorem bE_arr {sq : Bool} {a:Nat} {v:List Int} {p:S27} (h:PV a v p) (hk:p.f0=5) (r:List Int):bE sq 91 93 (v++r) 0 0=(v.length:Int):=by
 have hoc:((91:Int)=123∧(93:Int)=125)∨((91:Int)=91∧(93:Int)=93) := .inr ⟨rfl,rfl⟩;cases h with
 | str _ _ e=>subst e;simp at hk
 | sca h e=>subst e;simp only at hk;omega
 | @arr0 _ _ B _ hB e _ =>
  subst e;rw [show (91 :: (B++[93]))++r=91 :: (B++93 :: r) by simp,bE_op hoc,bE_bl hoc hB,bE_cl hoc,if_pos zq56];simp only [List.length_cons,List.length_append,List.length_nil];omega
 | @arr _ _ B m ps _ hB hm e _ =>
  subst e;rw [show (91 :: (B++m))++r=91 :: (B++(m++r)) by simp,bE_op hoc,bE_bl hoc hB,(bE_all hoc m.length).2.2 _ m _ (Nat.le_refl _) hm _ _ _ zq56,bK,if_pos rfl,if_pos zq56];simp only [List.length_cons,List.length_append];omega
 | obj0 _ _ e=>subst e;simp at hk
 | obj _ _ _ e=>subst e;simp at hk
def jkind (k : Int):Int:=if k=4 then 1 else if k=3 then 2 else if k=6 then 3 else if k=5 then 4 else if k=0 then 6 else 5
theorem gT_PV {sq : Bool} {a:Nat} {v:List Int} {p:S27} (h:PV a v p) {l r:List Int} {i:Nat} (hl:l.drop i=v++r) (hr:Dl r):gT sq l i=⟨jkind p.f0,i+v.length,true⟩:=by
 have hil:i<l.length:=by
  have:=congrArg List.length hl;have:=h.pos;simp at *;omega
 obtain ⟨c,t,ev,hc⟩:=h.head
 have h0:l.getD i 0=c:=by
  have:=at_int hil;rw [hl,ev] at this;exact (List.cons.inj this).1.symm
 have h1:l.drop (i+1)=t++r:=by
  have:=at_int hil;rw [hl,ev] at this;exact (List.cons.inj this).2.symm
 unfold gT;rw [h0,h1,hl];have hv:∀ x:Int,v.headD 0=x→c=x:=fun x hx=>by rw [ev] at hx;exact hx
 cases h with
 | @str _ _ b _ hb e ep =>
  subst ep;have:c=34:=hv 34 (by rw [e];rfl);subst this;have et:t=b++[34]:=by rw [ev] at e;exact (List.cons.inj e).2
  rw [if_pos (.inl rfl),et,show (b++[34])++r=b++34 :: r by simp,strE_body hb,if_neg (by simp only;omega)];simp only [jkind,if_true,e,List.length_cons,List.length_append,List.length_nil,Int.toNat_natCast]
  congr 1
  omega
 | @sca _ _ k _ hs ep =>
  subst ep;have hsc:=Sca.sc (k:=k) hs;have hTE:tE (v++r) 0=v.length:=by rw [tE_sc hsc hr];omega
  obtain ⟨_,_,s34,s39,s123,_,s91,_⟩:=hsc c (by rw [ev];simp);rw [if_neg (by rintro (h|h);exact s34 h;exact s39 h.1),if_neg s91,if_neg s123,hTE];have htk:List.take v.length (v++r)=v:=by simp
  rw [htk];rcases hs with ⟨rfl,hn⟩|⟨rfl,e⟩|⟨rfl,e⟩|⟨rfl,e⟩
  ·obtain ⟨c',t',e',hc'⟩:=numL_head hn;rw [ev] at e';obtain ⟨rfl,rfl⟩:=List.cons.inj e';simp only [isD,decide_eq_true_eq] at hc';rw [if_neg (by omega),if_neg (by omega),if_pos (by omega)];rfl
  ·have:c=110:=hv 110 (by rw [e];rfl);rw [if_neg (by omega),if_pos (.inr this),litB,if_pos (by rw [e];decide)];rfl
  ·have:c=102:=hv 102 (by rw [e];rfl);rw [if_pos (.inr this),litB,if_pos (by rw [e];decide)];rfl
  ·have:c=116:=hv 116 (by rw [e];rfl);rw [if_pos (.inl this),litB,if_pos (by rw [e];decide)];rfl
 | @obj0 _ _ B _ hB e ep =>
  have:c=123:=hv 123 (by rw [e];rfl);rw [if_neg (by omega),if_neg (by omega),if_pos this,bE_obj (.obj0 hB e ep) (by rw [ep]),if_neg (by omega),ep];simp [jkind,Nat.add_comm]
 | @obj _ _ B m ns ps _ hB hm e ep =>
  have:c=123:=hv 123 (by rw [e];rfl);rw [if_neg (by omega),if_neg (by omega),if_pos this,bE_obj (.obj hB hm e ep) (by rw [ep]),if_neg (by omega),ep];simp [jkind,Nat.add_comm]
 | @arr0 _ _ B _ hB e ep =>
  have:c=91:=hv 91 (by rw [e];rfl);rw [if_neg (by omega),if_pos this,bE_arr (.arr0 hB e ep) (by rw [ep]),if_neg (by omega),ep];simp [jkind,Nat.add_comm]
 | @arr _ _ B m ps _ hB hm e ep =>
  have:c=91:=hv 91 (by rw [e];rfl);rw [if_neg (by omega),if_pos this,bE_arr (.arr hB hm e ep) (by rw [ep]),if_neg (by omega),ep];simp [jkind,Nat.add_comm]
end Go.Proofs.YthmjfmpgmcgonaaDoor.J
end
section
namespace Go.Proofs.YthmjfmpgmcgonaaDoor.J
open Go.RowKit Go.Proofs.YthmjfmpgmcgonaaDoor.K Go.Proofs.YthmjfmpgmcgonaaDoorW.PrintWords Go.Proofs.YthmjfmpgmcgonaaDoorW.PrintLast
set_option linter.unusedVariables false

theorem Ev_shift {α : Type} {g:Nat→Option α} {r:α} (h:Ev (fun k=>g (k+1)) r):Ev g r:=Ev.step (fun _=>rfl) h
def PN (s : ByteArray) (l:List Int):Nat:=s.size - l.length
theorem P_PN (s : ByteArray) (l:List Int):P s l=(PN s l:Int):=rfl
theorem PN_app {s : ByteArray} {x l:List Int} (h:(x++l).length≤s.size):PN s l=PN s (x++l)+x.length:=by
 unfold PN;rw [List.length_append] at *;omega
def VA (s : ByteArray) (l:List Int):Prop :=
  (∀ r,valL l=some r→∃ (v:List Int) (p:S27),l=v++r∧PV (PN s l) v p∧Suf s r∧Ev (fun k=>j1o.f k s (P s l)) (p.f0,p.f1,p.f2,p.f3,p.f4,true,s,P s r)) ∧
  (valL l=none→∃ a b c d e q,Ev (fun k=>j1o.f k s (P s l)) (a,b,c,d,e,false,s,q))
def EA (s : ByteArray) (l:List Int):Prop:=∀ x4:List S27,x4.length+l.length≤s.size →
  (∀ r,elsL l=some r→∃ (m:List Int) (ys:List S27),l=m++r∧PE (PN s l) m ys∧Suf s r∧Ev (fun k=>j1r.l0 k x4 s (P s l)) (x4++ys,true,s,P s r)) ∧
  (elsL l=none→∃ ys q,Ev (fun k=>j1r.l0 k x4 s (P s l)) (ys,false,s,q))
def MA (s : ByteArray) (l:List Int):Prop:=∀ (x5:List S49) (x6:List S27),x5.length+l.length≤s.size→x6.length+l.length≤s.size →
  (∀ r,memL l=some r→∃ (m:List Int) (ns:List S49) (ys:List S27),l=m++r∧PM (PN s l) m ns ys∧Suf s r∧Ev (fun k=>j1k.l0 k x5 x6 s (P s l)) (x5++ns,x6++ys,true,s,P s r)) ∧
  (memL l=none→∃ ns ys q,Ev (fun k=>j1k.l0 k x5 x6 s (P s l)) (ns,ys,false,s,q))
section
variable {s : ByteArray} (hs:s.size≤2147483647)
include hs
theorem els_of {l : List Int} (h:Suf s l) (hv:VA s l) (ih:∀ u,u.length<l.length→Suf s u→EA s u):EA s l:=by
 intro x4 hn;have hs':s.size≤140737488351232:=by omega
 cases e:valL l with
 | none =>
  obtain ⟨a,b,c,d,e',q,hq⟩:=hv.2 e;refine ⟨fun r hr=>(by rw [elsL.eq_def,e] at hr;cases hr),fun _=>⟨[],q,Ev_shift ?_⟩⟩;simp only [j1r.l0];exact Ev.bind hq (Ev.congr (fun _=>if_neg (by simp)) (Ev.now _))
 | some t =>
  obtain ⟨V,⟨p0,p1,p2,p3,p4⟩,hlV,hp,ht,hq⟩:=hv.1 t e;have hlen:=valL_len e
  have e1:elsL l=(match skB t with
   | []=>none
   | c :: u=>if c=93 then some u else if c=44 then elsL (skB u) else none):=by
   rw [elsL.eq_def,e];simp only [if_pos hlen];split<;>rename_i h1<;>rw [h1]
  obtain ⟨B,hB,hBt⟩:=j4b t;have hle:=h.le;have hb:=j4g hs' t ht;have hbS:=ht.skB;have hbl:=j3s t
  have go:∀ {R},Ev (fun k=>(j1p.f s (P s (skB t)) 93).bind fun bt206=>(if bt206.1=true then (some (x4++[(⟨p0,p1,p2,p3,p4⟩:S27)],true,bt206.2.1,bt206.2.2)) else ((j1p.f bt206.2.1 bt206.2.2 44).bind fun bt209=>(if bt209.1=true then ((j1n.f k bt209.2.1 bt209.2.2).bind fun bt212=>(j1r.l0 k (x4++[(⟨p0,p1,p2,p3,p4⟩:S27)]) bt212.1 bt212.2)) else (some (([]:List S27),false,bt209.2.1,bt209.2.2)))))) R →
   Ev (fun k=>j1r.l0 k x4 s (P s l)) R:=fun {R} hR=>by
   refine Ev_shift ?_;simp only [j1r.l0];refine Ev.bind hq (Ev.congr (fun _=>if_pos rfl) (Ev.congr (fun _=>if_pos (by omega)) ?_));exact Ev.bind (a:=x4++[(⟨p0,p1,p2,p3,p4⟩:S27)]) (Ev.now _) (Ev.bind hb hR)
  rw [e1]
  match h5:skB t,hbS with
  | [],_ =>
   refine ⟨fun r hr=>(by cases hr),fun _=>⟨[],P s [],go ?_⟩⟩;rw [h5];refine Ev.congr (fun k=>?_) (Ev.now _);simp only [take_nil,Option.bind_some,Bool.false_eq_true,if_false]
  | c :: u,hbS =>
   rw [h5] at hbl;simp only [List.length_cons] at hbl;by_cases e93:c=93
   ·refine ⟨fun r hr=>?_,fun hr=>(by simp only [if_pos e93] at hr;cases hr)⟩;simp only [if_pos e93,Option.some.injEq] at hr;subst hr;refine ⟨V++(B++[93]),[(⟨p0,p1,p2,p3,p4⟩:S27)],by rw [hlV,hBt,h5,e93];simp, .one hB hp rfl rfl,hbS.tail,go ?_⟩;rw [h5];refine Ev.congr (fun k=>?_) (Ev.now _);simp only [j3z hs' hbS,if_pos e93,Option.bind_some,if_true]
   by_cases e44:c=44
   rotate_left
   ·refine ⟨fun r hr=>(by simp only [if_neg e93,if_neg e44] at hr;cases hr),fun _=>⟨[],P s (c :: u),go ?_⟩⟩;rw [h5];refine Ev.congr (fun k=>?_) (Ev.now _);simp only [j3z hs' hbS,if_neg e93,if_neg e44,Option.bind_some,Bool.false_eq_true,if_false]
   have hu:=j3s u;have hE:=ih (skB u) (by omega) hbS.tail.skB (x4++[(⟨p0,p1,p2,p3,p4⟩:S27)]) zq96;have hb2:=j4g hs' u hbS.tail
   have go2:∀ {R},Ev (fun k=>j1r.l0 k (x4++[(⟨p0,p1,p2,p3,p4⟩:S27)]) s (P s (skB u))) R→Ev (fun k=>j1r.l0 k x4 s (P s l)) R:=fun {R} hR=>by
    refine go ?_;rw [h5];simp only [j3z hs' hbS,if_neg e93,if_pos e44,Option.bind_some,if_true,Bool.false_eq_true,if_false];exact Ev.bind hb2 hR
   simp only [if_neg e93,if_pos e44];refine ⟨fun r hr=>?_,fun hr=>?_⟩
   ·obtain ⟨m,ys,h6,h9,h7,h8⟩:=hE.1 r hr;obtain ⟨B',hB',hBu⟩:=j4b u;have el:l=V++(B++44 :: (B'++skB u)):=by conv=>lhs;rw [hlV,hBt,h5,e44,hBu]
    have ei:PN s l+V.length+B.length+1+B'.length=PN s (skB u):=by
     have:=congrArg List.length el;simp only [List.length_append,List.length_cons] at this;unfold PN;omega
    refine ⟨V++(B++44 :: (B'++m)),⟨p0,p1,p2,p3,p4⟩ :: ys,by rw [el,h6];simp, .more hB hB' hp (by rw [ei];exact h9) rfl rfl,h7,?_⟩;have:=go2 h8;rw [List.append_assoc] at this;exact this
   ·obtain ⟨ys,q,h8⟩:=hE.2 hr;exact ⟨ys,q,go2 h8⟩
theorem mem_of {l : List Int} (h:Suf s l) (hv:∀ u,u.length<l.length→Suf s u→VA s u) (ih:∀ u,u.length<l.length→Suf s u→MA s u):MA s l:=by
 intro x5 x6 hn hm;have hs':s.size≤140737488351232:=by omega
 have bad:∀ q,Ev (fun k=>j1k.j1 k x5 x6 (P s l) true s q) ([],[],false,s,q):=fun q=>by
  refine Ev_shift ?_;simp only [j1k.j1];exact Ev.congr (fun _=>if_pos trivial) (Ev.now _)
 match l,h with
 | [],h =>
  refine ⟨fun r hr=>(by rw [memL.eq_def] at hr;cases hr),fun _=>⟨[],[],P s [],Ev_shift ?_⟩⟩;simp only [j1k.l0,here_P0,Option.bind_some];exact Ev.congr (fun _=>if_neg zq56) (bad _)
 | c :: l,h =>
  by_cases e34:c=34
  rotate_left
  ·refine ⟨fun r hr=>(by rw [memL.eq_def] at hr;simp only [if_neg e34] at hr;cases hr),fun _=>⟨[],[],P s (c :: l),Ev_shift ?_⟩⟩;simp only [j1k.l0,here_P h,Option.bind_some];exact Ev.congr (fun _=>if_neg e34) (bad _)
  subst e34;have hq:=quoted_P hs' h
  have st:∀ {b q R},Ev (fun k=>j1v.f k s (P s (34 :: l))) (b,s,q)→Ev (fun k=>j1k.j1 k x5 x6 (P s (34 :: l)) (!b) s q) R→Ev (fun k=>j1k.l0 k x5 x6 s (P s (34 :: l))) R:=fun {b q R} ha hb=>by
   refine Ev_shift ?_;simp only [j1k.l0,here_P h,Option.bind_some];exact Ev.congr (fun _=>if_pos trivial) (Ev.bind ha hb)
  cases e:strL l with
  | none =>
   obtain ⟨q,hq2⟩:=hq.2 e;refine ⟨fun r hr=>(by rw [memL_bad e] at hr;cases hr),fun _=>⟨[],[],q,st hq2 (bad _)⟩⟩
  | some t =>
   have hq2:=hq.1 t e;obtain ⟨b,hB,eB⟩:=strL_iff.mp e;have ht:Suf s t:=h.tail.str e;have hlen:=strL_len _ _ _ (Nat.le_refl _) e;simp only [List.length_cons] at hn hm hlen;have hle:=h.le;simp only [List.length_cons] at hle;obtain ⟨B1,hB1,hBt⟩:=j4b t;have hb:=j4g hs' t ht;have hbS:=ht.skB;have hbl:=j3s t
   have go:∀ {R},Ev (fun k=>(j1p.f s (P s (skB t)) 58).bind fun bt152=>(if bt152.1=true then ((j1n.f k bt152.2.1 bt152.2.2).bind fun bt155=>((j1o.f k bt155.1 bt155.2).bind fun bt157=>(if bt157.2.2.2.2.2.1=true then (if x6.length<1954687338268 then ((some (x6++[(⟨bt157.1,bt157.2.1,bt157.2.2.1,bt157.2.2.2.1,bt157.2.2.2.2.1⟩:S27)]:List S27)).bind fun y170=>((j1n.f k bt157.2.2.2.2.2.2.1 bt157.2.2.2.2.2.2.2).bind fun bt173=>((j1p.f bt173.1 bt173.2 125).bind fun bt175=>(if bt175.1=true then (some (x5++[(⟨P s (34 :: l),P s t⟩:S49)],y170,true,bt175.2.1,bt175.2.2)) else ((j1p.f bt175.2.1 bt175.2.2 44).bind fun bt178=>(if bt178.1=true then ((j1n.f k bt178.2.1 bt178.2.2).bind fun bt181=>(j1k.l0 k (x5++[(⟨P s (34 :: l),P s t⟩:S49)]) y170 bt181.1 bt181.2)) else (some (([]:List S49),([]:List S27),false,bt178.2.1,bt178.2.2)))))))) else (none)) else (some (([]:List S49),([]:List S27),false,bt157.2.2.2.2.2.2.1,bt157.2.2.2.2.2.2.2))))) else (some (([]:List S49),([]:List S27),false,bt152.2.1,bt152.2.2)))) R →
    Ev (fun k=>j1k.l0 k x5 x6 s (P s (34 :: l))) R:=fun {R} hR=>by
    refine st hq2 (Ev_shift ?_);simp only [j1k.j1];refine Ev.congr (fun _=>if_neg zq56) (Ev.congr (fun _=>if_pos (by omega)) ?_);exact Ev.bind (a:=x5++[(⟨P s (34 :: l),P s t⟩:S49)]) (Ev.now _) (Ev.bind hb hR)
   have e1:memL (34 :: l)=(match skB t with
    | []=>none
    | d :: u=>if d=58 then (match valL (skB u) with
     | none=>none
     | some v=>(match skB v with
      | []=>none
      | e :: x=>if e=125 then some x else if e=44 then memL (skB x) else none)) else none):=by
    rw [memL.eq_def];simp only [if_true];split
    ·rename_i h0;rw [h0] at e;cases e
    ·rename_i t' h0;rw [h0] at e;cases e;split
     ·rename_i h1;rw [h1]
     ·rename_i d u h1;rw [h1];simp only;split
      ·split
       ·rename_i h2;first|rfl|rw [h2]
       ·rename_i v h2
        first|rw [h2]|skip
        try simp only
        have k1:=valL_len h2;have k2:=j3s u;have k3:=j3s t;rw [h1] at k3;simp only [List.length_cons] at k3;rw [if_pos (by omega)];split<;>rename_i h3<;>rw [h3]
      ·rfl
   rw [e1]
   match h7:skB t,hbS with
   | [],_ =>
    refine ⟨fun r hr=>(by cases hr),fun _=>⟨[],[],P s [],go ?_⟩⟩;rw [h7];refine Ev.congr (fun k=>?_) (Ev.now _);simp only [take_nil,Option.bind_some,Bool.false_eq_true,if_false]
   | d :: u,hbS =>
    rw [h7] at hbl;simp only [List.length_cons] at hbl;by_cases e58:d=58
    rotate_left
    ·refine ⟨fun r hr=>(by simp only [if_neg e58] at hr;cases hr),fun _=>⟨[],[],P s (d :: u),go ?_⟩⟩;rw [h7];refine Ev.congr (fun k=>?_) (Ev.now _);simp only [j3z hs' hbS,if_neg e58,Option.bind_some,Bool.false_eq_true,if_false]
    have hu:=j3s u;have hb2:=j4g hs' u hbS.tail;have hV:=hv (skB u) zq76 hbS.tail.skB;simp only [if_pos e58];cases e3:valL (skB u) with
    | none =>
     obtain ⟨a1,a2,a3,a4,a5,q,hq3⟩:=hV.2 e3;refine ⟨fun r hr=>(by cases hr),fun _=>⟨[],[],q,go ?_⟩⟩;rw [h7];simp only [j3z hs' hbS,if_pos e58,Option.bind_some,if_true];exact Ev.bind hb2 (Ev.bind hq3 (Ev.congr (fun _=>if_neg (by simp)) (Ev.now _)))
    | some v =>
     obtain ⟨V,⟨p0,p1,p2,p3,p4⟩,hlV,hp,hvS,hq3⟩:=hV.1 v e3;obtain ⟨B2,hB2,hBu⟩:=j4b u;obtain ⟨B3,hB3,hBv⟩:=j4b v;have hvl:=valL_len e3;have hb3:=j4g hs' v hvS;have hb3S:=hvS.skB;have hb3l:=j3s v;have el:34 :: l=34 :: (b++34 :: (B1++58 :: (B2++(V++(B3++skB v))))):=by conv=>lhs;rw [eB,hBt,h7,e58,hBu,hlV,hBv]
     have eN:P s t=((PN s (34 :: l)+b.length+2:Nat):Int):=by
      have:=congrArg List.length eB;simp only [List.length_append,List.length_cons] at this;unfold P PN;simp only [List.length_cons];omega
     have eV:PN s (34 :: l)+b.length+2+B1.length+1+B2.length=PN s (skB u):=by
      have:=congrArg List.length el;rw [← hBv,← hlV] at this;simp only [List.length_append,List.length_cons] at this;unfold PN;simp only [List.length_cons];omega
     have go3:∀ {R},Ev (fun k=>(j1p.f s (P s (skB v)) 125).bind fun bt175=>(if bt175.1=true then (some (x5++[(⟨P s (34 :: l),P s t⟩:S49)],x6++[(⟨p0,p1,p2,p3,p4⟩:S27)],true,bt175.2.1,bt175.2.2)) else ((j1p.f bt175.2.1 bt175.2.2 44).bind fun bt178=>(if bt178.1=true then ((j1n.f k bt178.2.1 bt178.2.2).bind fun bt181=>(j1k.l0 k (x5++[(⟨P s (34 :: l),P s t⟩:S49)]) (x6++[(⟨p0,p1,p2,p3,p4⟩:S27)]) bt181.1 bt181.2)) else (some (([]:List S49),([]:List S27),false,bt178.2.1,bt178.2.2)))))) R →
      Ev (fun k=>j1k.l0 k x5 x6 s (P s (34 :: l))) R:=fun {R} hR=>by
      refine go ?_;rw [h7];simp only [j3z hs' hbS,if_pos e58,Option.bind_some,if_true];refine Ev.bind hb2 (Ev.bind hq3 (Ev.congr (fun _=>if_pos rfl) (Ev.congr (fun _=>if_pos (by omega)) ?_)));exact Ev.bind hb3 hR
     simp only
     match h8:skB v,hb3S with
     | [],_ =>
      refine ⟨fun r hr=>(by cases hr),fun _=>⟨[],[],P s [],go3 ?_⟩⟩;rw [h8];refine Ev.congr (fun k=>?_) (Ev.now _);simp only [take_nil,Option.bind_some,Bool.false_eq_true,if_false]
     | e :: x,hb3S =>
      rw [h8] at hb3l;simp only [List.length_cons] at hb3l;by_cases e125:e=125
      ·refine ⟨fun r hr=>?_,fun hr=>(by simp only [if_pos e125] at hr;cases hr)⟩;simp only [if_pos e125,Option.some.injEq] at hr;subst hr;refine ⟨34 :: (b++34 :: (B1++58 :: (B2++(V++(B3++[125]))))),[⟨P s (34 :: l),P s t⟩],[⟨p0,p1,p2,p3,p4⟩],by rw [el,h8,e125];simp, .one hB hB1 hB2 hB3 (by rw [eV];exact hp) rfl (by rw [eN,P_PN]) rfl,hb3S.tail,go3 ?_⟩;rw [h8];refine Ev.congr (fun k=>?_) (Ev.now _);simp only [j3z hs' hb3S,if_pos e125,Option.bind_some,if_true]
      by_cases e44:e=44
      rotate_left
      ·refine ⟨fun r hr=>(by simp only [if_neg e125,if_neg e44] at hr;cases hr),fun _=>⟨[],[],P s (e :: x),go3 ?_⟩⟩;rw [h8];refine Ev.congr (fun k=>?_) (Ev.now _);simp only [j3z hs' hb3S,if_neg e125,if_neg e44,Option.bind_some,Bool.false_eq_true,if_false]
      have hx:=j3s x;have hM:=ih (skB x) zq76 hb3S.tail.skB (x5++[(⟨P s (34 :: l),P s t⟩:S49)]) (x6++[(⟨p0,p1,p2,p3,p4⟩:S27)]) zq96 zq96;have hb4:=j4g hs' x hb3S.tail
      have go4:∀ {R},Ev (fun k=>j1k.l0 k (x5++[(⟨P s (34 :: l),P s t⟩:S49)]) (x6++[(⟨p0,p1,p2,p3,p4⟩:S27)]) s (P s (skB x))) R→Ev (fun k=>j1k.l0 k x5 x6 s (P s (34 :: l))) R:=fun {R} hR=>by
       refine go3 ?_;rw [h8];simp only [j3z hs' hb3S,if_neg e125,if_pos e44,Option.bind_some,if_true,Bool.false_eq_true,if_false];exact Ev.bind hb4 hR
      simp only [if_neg e125,if_pos e44];refine ⟨fun r hr=>?_,fun hr=>?_⟩
      ·obtain ⟨m,ns,ys,k1,k2,k3,k4⟩:=hM.1 r hr;obtain ⟨B4,hB4,hBx⟩:=j4b x
       have eM:PN s (34 :: l)+b.length+2+B1.length+1+B2.length+V.length+B3.length+1+B4.length=PN s (skB x):=by
        have:=congrArg List.length el;rw [h8,hBx] at this;simp only [List.length_append,List.length_cons] at this;unfold PN;simp only [List.length_cons];omega
       refine ⟨34 :: (b++34 :: (B1++58 :: (B2++(V++(B3++44 :: (B4++m)))))),⟨P s (34 :: l),P s t⟩ :: ns,⟨p0,p1,p2,p3,p4⟩ :: ys,?_, .more hB hB1 hB2 hB3 hB4 (by rw [eV];exact hp) (by rw [eM];exact k2) rfl (by rw [eN,P_PN]) rfl,k3,?_⟩
       ·rw [el,h8,e44,hBx,k1];simp
       ·have:=go4 k4;rw [List.append_assoc,List.append_assoc] at this;exact this
      ·obtain ⟨ns,ys,q,k4⟩:=hM.2 hr;exact ⟨ns,ys,q,go4 k4⟩
end
end Go.Proofs.YthmjfmpgmcgonaaDoor.J
end
section
namespace Go.Proofs.YthmjfmpgmcgonaaDoor.J
open Go.RowKit Go.Proofs.YthmjfmpgmcgonaaDoor.K Go.Proofs.YthmjfmpgmcgonaaDoorW.PrintWords Go.Proofs.YthmjfmpgmcgonaaDoorW.PrintLast
set_option linter.unusedVariables false

theorem wordL_head {w0 : Int} {w:List Int} {c:Int} {r:List Int} (h:c≠w0):wordL (w0 :: w) (c :: r)=none:=by
 unfold wordL;rw [if_neg];intro e;simp only [List.length_cons,List.take_succ_cons,List.cons.injEq] at e;exact h e.1
theorem nullB : bytesOf (⟨#[110,117,108,108]⟩:ByteArray)=nullW:=by decide
theorem falseB : bytesOf (⟨#[102,97,108,115,101]⟩:ByteArray)=falseW:=by decide
theorem trueB : bytesOf (⟨#[116,114,117,101]⟩:ByteArray)=trueW:=by decide
theorem wordL_suf {s : ByteArray} {w l r:List Int} (h:Suf s l) (k:wordL w l=some r):Suf s r:=by
 unfold wordL at k;split at k
 ·cases k;exact h.drop _
 ·cases k
def wdL (l : List Int):Option (List Int) :=
  match l with
  | []=>none
  | c :: r=>if c=110 then wordL nullW (c :: r) else if c=102 then wordL falseW (c :: r) else if c=116 then wordL trueW (c :: r) else none
section
variable {s : ByteArray} (hs:s.size≤2147483647)
include hs
theorem words_of {l : List Int} (h:Suf s l) :
 (∀ r,wdL l=some r→∃ (v:List Int) (p:S27),l=v++r∧PV (PN s l) v p∧Suf s r∧Ev (fun k=>j1o.j0 k true false s (P s l) 0 (P s l) 0) (p.f0,p.f1,p.f2,p.f3,p.f4,true,s,P s r)) ∧
 (wdL l=none→∃ a b c d e q,Ev (fun k=>j1o.j0 k true false s (P s l) 0 (P s l) 0) (a,b,c,d,e,false,s,q)):=by
 have hs':s.size≤140737488351232:=by omega
 have w1:=word_eq hs' h (⟨#[110,117,108,108]⟩:ByteArray) zq56;have w2:=word_eq hs' h (⟨#[102,97,108,115,101]⟩:ByteArray) zq56;have w3:=word_eq hs' h (⟨#[116,114,117,101]⟩:ByteArray) zq56;rw [nullB] at w1;rw [falseB] at w2;rw [trueB] at w3
 have yes:∀ {kd:Int} {w r:List Int},(kd=0∧w=nullW∨kd=1∧w=falseW∨kd=2∧w=trueW)→wordL w l=some r→Ev (fun k=>j1o.j0 k true false s (P s l) 0 (P s l) 0) (kd,P s l,P s r,[],[],true,s,P s r) →
  ∃ (v:List Int) (p:S27),l=v++r∧PV (PN s l) v p∧Suf s r∧Ev (fun k=>j1o.j0 k true false s (P s l) 0 (P s l) 0) (p.f0,p.f1,p.f2,p.f3,p.f4,true,s,P s r):=fun {kd w r} hk hr hE=>by
  have e:l=w++r:=by
   unfold wordL at hr;split at hr
   ·rename_i h1;cases hr
    conv=>lhs;rw [← List.take_append_drop w.length l,h1]
   ·cases hr
  refine ⟨w,⟨kd,P s l,P s r,[],[]⟩,e, .sca (k:=kd) (.inr hk) ?_,wordL_suf h hr,hE⟩;rw [P_PN,P_PN,PN_app (s:=s) (x:=w) (l:=r) (by rw [← e];exact h.le),← e]
 have no:wordL nullW l=none→wordL falseW l=none→wordL trueW l=none→∃ a b c d e q,Ev (fun k=>j1o.j0 k true false s (P s l) 0 (P s l) 0) (a,b,c,d,e,false,s,q):=fun k1 k2 k3=>by
  rw [k1] at w1;rw [k2] at w2;rw [k3] at w3;refine ⟨0,P s l,P s l,[],[],P s l,Ev_shift (Ev.congr (fun k=>?_) (Ev.now _))⟩;simp only [j1o.j0,Bool.false_eq_true,if_false,w1,w2,w3,Option.bind_some]
 match l,h with
 | [],h=>exact ⟨fun r hr=>(by cases hr),fun _=>no rfl rfl rfl⟩
 | c :: r0,h =>
  unfold wdL;by_cases e1:c=110
  ·simp only [if_pos e1];have k2:wordL falseW (c :: r0)=none:=wordL_head (by omega);have k3:wordL trueW (c :: r0)=none:=wordL_head (by omega);refine ⟨fun r hr=>?_,fun hr=>no hr k2 k3⟩;rw [hr] at w1;refine yes (kd:=0) (w:=nullW) (by simp) hr (Ev_shift (Ev.congr (fun k=>?_) (Ev.now _)));simp only [j1o.j0,Bool.false_eq_true,if_false,w1,Option.bind_some,if_true]
  have k1:wordL nullW (c :: r0)=none:=wordL_head e1;simp only [if_neg e1];by_cases e2:c=102
  ·simp only [if_pos e2];have k3:wordL trueW (c :: r0)=none:=wordL_head (by omega);refine ⟨fun r hr=>?_,fun hr=>no k1 hr k3⟩;have hr':=hr;rw [k1] at w1;rw [hr] at w2;refine yes (kd:=1) (w:=falseW) (by simp) hr' (Ev_shift (Ev.congr (fun k=>?_) (Ev.now _)));simp only [j1o.j0,Bool.false_eq_true,if_false,w1,w2,Option.bind_some,if_true]
  have k2:wordL falseW (c :: r0)=none:=wordL_head e2;simp only [if_neg e2];by_cases e3:c=116
  rotate_left
  ·simp only [if_neg e3];exact ⟨fun r hr=>(by cases hr),fun _=>no k1 k2 (wordL_head e3)⟩
  simp only [if_pos e3];refine ⟨fun r hr=>?_,fun hr=>no k1 k2 hr⟩;have hr':=hr;rw [k1] at w1;rw [k2] at w2;rw [hr] at w3;refine yes (kd:=2) (w:=trueW) (by simp) hr' (Ev_shift (Ev.congr (fun k=>?_) (Ev.now _)));simp only [j1o.j0,Bool.false_eq_true,if_false,w1,w2,w3,Option.bind_some,if_true]
theorem obj_of {c : Int} {l:List Int} (h:Suf s (c :: l)) (ih:∀ u,u.length<l.length+1→Suf s u→MA s u) :
 (∀ r,objL l=some r→∃ (v:List Int) (ns:List S49) (ys:List S27),123 :: l=v++r∧PV (PN s (c :: l)) v ⟨6,P s (c :: l),P s r,ns,ys⟩∧Suf s r∧Ev (fun k=>j1k.f k s (P s (c :: l))) (ns,ys,true,s,P s r)) ∧
 (objL l=none→∃ ns ys q,Ev (fun k=>j1k.f k s (P s (c :: l))) (ns,ys,false,s,q)):=by
 have hs':s.size≤140737488351232:=by omega
 have hb:=j4g hs' l h.tail;have hbS:=h.tail.skB;have hbl:=j3s l
 have go:∀ {R},Ev (fun k=>(j1p.f s (P s (skB l)) 125).bind fun bt138=>(if bt138.1=true then (some (([]:List S49),([]:List S27),true,bt138.2.1,bt138.2.2)) else (j1k.l0 k ([]:List S49) ([]:List S27) bt138.2.1 bt138.2.2))) R→Ev (fun k=>j1k.f k s (P s (c :: l))) R:=fun {R} hR=>by
  refine Ev_shift ?_;simp only [j1k.f,up_P hs' h];exact Ev.bind hb hR
 have e1:objL l=(match skB l with
  | []=>none
  | c :: r=>if c=125 then some r else memL (c :: r)):=by
  rw [objL.eq_def];split<;>rename_i h1<;>rw [h1]
 rw [e1]
 match h5:skB l,hbS with
 | [],hbS =>
  rw [h5] at go hbl;have hM:=ih [] (by simp) hbS [] [] (by simp) (by simp);refine ⟨fun r hr=>(by cases hr),fun _=>?_⟩;obtain ⟨ns,ys,q,hq⟩:=hM.2 (by rw [memL.eq_def]);refine ⟨ns,ys,q,go ?_⟩;simp only [take_nil,Option.bind_some,Bool.false_eq_true,if_false];exact hq
 | d :: u,hbS =>
  rw [h5] at go hbl;simp only [List.length_cons] at hbl;by_cases e:d=125
  ·refine ⟨fun r hr=>?_,fun hr=>(by simp only [if_pos e] at hr;cases hr)⟩;simp only [if_pos e,Option.some.injEq] at hr;subst hr;obtain ⟨B,hB,hBl⟩:=j4b l;have el:123 :: l=(123 :: (B++[125]))++u:=by rw [hBl,h5,e];simp
   refine ⟨123 :: (B++[125]),[],[],el, .obj0 hB rfl ?_,hbS.tail,go (Ev.congr (fun k=>?_) (Ev.now _))⟩
   ·have:=congrArg List.length el;have hle:=h.le;simp only [List.length_append,List.length_cons] at this hle;unfold P PN;simp only [List.length_append,List.length_cons]
    congr 1
    omega
   simp only [j3z hs' hbS,if_pos e,Option.bind_some,if_true]
  have hle:=hbS.le;have hM:=ih (d :: u) zq76 hbS [] [] (by simpa using hle) (by simpa using hle)
  have go2:∀ {R},Ev (fun k=>j1k.l0 k [] [] s (P s (d :: u))) R→Ev (fun k=>j1k.f k s (P s (c :: l))) R:=fun {R} hR=>by
   refine go ?_;simp only [j3z hs' hbS,if_neg e,Option.bind_some,Bool.false_eq_true,if_false];exact hR
  simp only [if_neg e];refine ⟨fun r hr=>?_,fun hr=>?_⟩
  ·obtain ⟨m,ns,ys,k1,k2,k3,k4⟩:=hM.1 r hr;obtain ⟨B,hB,hBl⟩:=j4b l;have el:123 :: l=(123 :: (B++m))++r:=by rw [hBl,h5,k1];simp
   have e2:=congrArg List.length el;have hle:=h.le;have e3:=congrArg List.length k1;simp only [List.length_append,List.length_cons] at e2 hle e3;refine ⟨123 :: (B++m),ns,ys,el, .obj hB (m:=m) (ns:=ns) (ps:=ys) ?_ rfl ?_,k3,go2 k4⟩
   ·rw [show PN s (c :: l)+1+B.length=PN s (d :: u) by unfold PN;simp only [List.length_cons];omega];exact k2
   ·unfold P PN;simp only [List.length_append,List.length_cons]
    congr 1
    omega
  ·obtain ⟨ns,ys,q,k4⟩:=hM.2 hr;exact ⟨ns,ys,q,go2 k4⟩
theorem arr_of {c : Int} {l:List Int} (h:Suf s (c :: l)) (ih:∀ u,u.length<l.length+1→Suf s u→EA s u) :
 (∀ r,arrL l=some r→∃ (v:List Int) (ys:List S27),91 :: l=v++r∧PV (PN s (c :: l)) v ⟨5,P s (c :: l),P s r,[],ys⟩∧Suf s r∧Ev (fun k=>j1r.f k s (P s (c :: l))) (ys,true,s,P s r)) ∧
 (arrL l=none→∃ ys q,Ev (fun k=>j1r.f k s (P s (c :: l))) (ys,false,s,q)):=by
 have hs':s.size≤140737488351232:=by omega
 have hb:=j4g hs' l h.tail;have hbS:=h.tail.skB;have hbl:=j3s l
 have go:∀ {R},Ev (fun k=>(j1p.f s (P s (skB l)) 93).bind fun bt185=>(if bt185.1=true then (some (([]:List S27),true,bt185.2.1,bt185.2.2)) else (j1r.l0 k ([]:List S27) bt185.2.1 bt185.2.2))) R→Ev (fun k=>j1r.f k s (P s (c :: l))) R:=fun {R} hR=>by
  refine Ev_shift ?_;simp only [j1r.f,up_P hs' h];exact Ev.bind hb hR
 have e1:arrL l=(match skB l with
  | []=>none
  | c :: r=>if c=93 then some r else elsL (c :: r)):=by
  rw [arrL.eq_def];split<;>rename_i h1<;>rw [h1]
 rw [e1]
 match h5:skB l,hbS with
 | [],hbS =>
  rw [h5] at go hbl;have hM:=ih [] (by simp) hbS [] (by simp);refine ⟨fun r hr=>(by cases hr),fun _=>?_⟩;obtain ⟨ys,q,hq⟩:=hM.2 (by rw [elsL.eq_def,valL.eq_def]);refine ⟨ys,q,go ?_⟩;simp only [take_nil,Option.bind_some,Bool.false_eq_true,if_false];exact hq
 | d :: u,hbS =>
  rw [h5] at go hbl;simp only [List.length_cons] at hbl;by_cases e:d=93
  ·refine ⟨fun r hr=>?_,fun hr=>(by simp only [if_pos e] at hr;cases hr)⟩;simp only [if_pos e,Option.some.injEq] at hr;subst hr;obtain ⟨B,hB,hBl⟩:=j4b l;have el:91 :: l=(91 :: (B++[93]))++u:=by rw [hBl,h5,e];simp
   refine ⟨91 :: (B++[93]),[],el, .arr0 hB rfl ?_,hbS.tail,go (Ev.congr (fun k=>?_) (Ev.now _))⟩
   ·have:=congrArg List.length el;have hle:=h.le;simp only [List.length_append,List.length_cons] at this hle;unfold P PN;simp only [List.length_append,List.length_cons]
    congr 1
    omega
   simp only [j3z hs' hbS,if_pos e,Option.bind_some,if_true]
  have hle:=hbS.le;have hM:=ih (d :: u) zq76 hbS [] (by simpa using hle)
  have go2:∀ {R},Ev (fun k=>j1r.l0 k [] s (P s (d :: u))) R→Ev (fun k=>j1r.f k s (P s (c :: l))) R:=fun {R} hR=>by
   refine go ?_;simp only [j3z hs' hbS,if_neg e,Option.bind_some,Bool.false_eq_true,if_false];exact hR
  simp only [if_neg e];refine ⟨fun r hr=>?_,fun hr=>?_⟩
  ·obtain ⟨m,ys,k1,k2,k3,k4⟩:=hM.1 r hr;obtain ⟨B,hB,hBl⟩:=j4b l;have el:91 :: l=(91 :: (B++m))++r:=by rw [hBl,h5,k1];simp
   have e2:=congrArg List.length el;have hle:=h.le;have e3:=congrArg List.length k1;simp only [List.length_append,List.length_cons] at e2 hle e3;refine ⟨91 :: (B++m),ys,el, .arr hB (m:=m) (ps:=ys) ?_ rfl ?_,k3,go2 k4⟩
   ·rw [show PN s (c :: l)+1+B.length=PN s (d :: u) by unfold PN;simp only [List.length_cons];omega];exact k2
   ·unfold P PN;simp only [List.length_append,List.length_cons]
    congr 1
    omega
  ·obtain ⟨ys,q,k4⟩:=hM.2 hr;exact ⟨ys,q,go2 k4⟩
theorem val_of {l : List Int} (h:Suf s l) (ihE:∀ u,u.length<l.length→Suf s u→EA s u) (ihM:∀ u,u.length<l.length→Suf s u→MA s u):VA s l:=by
 have hs':s.size≤140737488351232:=by omega
 match l,h with
 | [],h =>
  refine ⟨fun r hr=>(by rw [valL.eq_def] at hr;cases hr),fun _=>?_⟩;obtain ⟨a,b,c,d,e,q,hq⟩:=(words_of hs h).2 rfl;refine ⟨a,b,c,d,e,q,Ev_shift ?_⟩;simp only [j1o.f,here_P0,Option.bind_some];refine Ev.congr (fun k=>?_) hq;rw [if_neg zq56,if_neg zq56,if_neg zq56,if_neg zq56,if_neg zq56]
 | c :: l,h =>
  have st:∀ {R},Ev (fun k=>if c=123 then ((j1k.f k s (P s (c :: l))).bind fun bt106=>(some (6,P s (c :: l),bt106.2.2.2.2,bt106.1,bt106.2.1,bt106.2.2.1,bt106.2.2.2.1,bt106.2.2.2.2))) else (if c=91 then ((j1r.f k s (P s (c :: l))).bind fun bt115=>(some (5,P s (c :: l),bt115.2.2.2,([]:List S49),bt115.1,bt115.2.1,bt115.2.2.1,bt115.2.2.2))) else (if c=34 then ((j1v.f k s (P s (c :: l))).bind fun bt121=>(some (4,P s (c :: l),bt121.2.2,([]:List S49),([]:List S27),bt121.1,bt121.2.1,bt121.2.2))) else (if c=45 then (j1o.j0 k true true s (P s (c :: l)) 0 (P s (c :: l)) 0) else (if 48≤c then (j1o.j0 k true (decide (c≤57)) s (P s (c :: l)) 0 (P s (c :: l)) 0) else (j1o.j0 k true false s (P s (c :: l)) 0 (P s (c :: l)) 0)))))) R →
   Ev (fun k=>j1o.f k s (P s (c :: l))) R:=fun {R} hR=>by
   refine Ev_shift ?_;simp only [j1o.f,here_P h,Option.bind_some];exact hR
  have hnum:Ev (fun k=>j1o.j0 k true true s (P s (c :: l)) 0 (P s (c :: l)) 0)=Ev (fun k=>(j1l.f (k - 1) s (P s (c :: l))).bind fun bt124=>(some (3,P s (c :: l),bt124.2.2,([]:List S49),([]:List S27),bt124.1,bt124.2.1,bt124.2.2))):=by
   funext R
   apply propext
   constructor
   ·rintro ⟨K,hK⟩;refine ⟨K+1,fun k hk=>?_⟩;obtain ⟨k,rfl⟩:∃ m,k=m+1:=⟨k - 1,by omega⟩;have:=hK (k+1) (by omega)
    simpa only [j1o.j0,if_true,Nat.add_sub_cancel] using this
   ·rintro ⟨K,hK⟩;refine ⟨K+1,fun k hk=>?_⟩;obtain ⟨k,rfl⟩:∃ m,k=m+1:=⟨k - 1,by omega⟩;have:=hK (k+1) (by omega)
    simpa only [j1o.j0,if_true,Nat.add_sub_cancel] using this
  have sh:∀ {α:Type} {g:Nat→Option α} {R},Ev g R→Ev (fun k=>g (k - 1)) R:=by
   rintro α g R ⟨K,hK⟩;exact ⟨K+1,fun k hk=>hK _ (by omega)⟩
  rw [VA,valL.eq_def];simp only;by_cases e123:c=123
  ·have hO:=obj_of hs h (fun u hu hS=>ihM u (by simpa using hu) hS);simp only [if_pos e123];refine ⟨fun r hr=>?_,fun hr=>?_⟩
   ·obtain ⟨v,ns,ys,k1,k2,k3,k4⟩:=hO.1 r hr;exact ⟨v,⟨6,P s (c :: l),P s r,ns,ys⟩,by rw [e123];exact k1,k2,k3,st (Ev.congr (fun _=>if_pos e123) (Ev.bind k4 (Ev.now _)))⟩
   ·obtain ⟨ns,ys,q,k4⟩:=hO.2 hr;exact ⟨_,_,_,_,_,_,st (Ev.congr (fun _=>if_pos e123) (Ev.bind k4 (Ev.now _)))⟩
  simp only [if_neg e123];by_cases e91:c=91
  ·have hO:=arr_of hs h (fun u hu hS=>ihE u (by simpa using hu) hS);simp only [if_pos e91];refine ⟨fun r hr=>?_,fun hr=>?_⟩
   ·obtain ⟨v,ys,k1,k2,k3,k4⟩:=hO.1 r hr;exact ⟨v,⟨5,P s (c :: l),P s r,[],ys⟩,by rw [e91];exact k1,k2,k3,st (Ev.congr (fun _=>by rw [if_neg e123,if_pos e91]) (Ev.bind k4 (Ev.now _)))⟩
   ·obtain ⟨ys,q,k4⟩:=hO.2 hr;exact ⟨_,_,_,_,_,_,st (Ev.congr (fun _=>by rw [if_neg e123,if_pos e91]) (Ev.bind k4 (Ev.now _)))⟩
  simp only [if_neg e91];by_cases e34:c=34
  ·subst e34;have hq:=quoted_P hs' h;simp only [if_true];refine ⟨fun r hr=>?_,fun hr=>?_⟩
   ·obtain ⟨b,hB,eB⟩:=strL_iff.mp hr;have el:34 :: l=(34 :: (b++[34]))++r:=by rw [eB];simp
    refine ⟨34 :: (b++[34]),⟨4,P s (34 :: l),P s r,[],[]⟩,el, .str hB rfl ?_,h.tail.str hr,st (Ev.congr (fun _=>by rw [if_neg zq56,if_neg zq56,if_pos rfl]) (Ev.bind (hq.1 r hr) (Ev.now _)))⟩;have:=congrArg List.length el;have hle:=h.le;simp only [List.length_append,List.length_cons] at this hle;unfold P PN;simp only [List.length_append,List.length_cons]
    congr 1
    omega
   ·obtain ⟨q,k4⟩:=hq.2 hr;exact ⟨_,_,_,_,_,_,st (Ev.congr (fun _=>by rw [if_neg zq56,if_neg zq56,if_pos rfl]) (Ev.bind k4 (Ev.now _)))⟩
  simp only [if_neg e34];by_cases eN:c=45∨isD c=true
  rotate_left
  ·simp only [if_neg eN]
   have st2:∀ {R},Ev (fun k=>j1o.j0 k true false s (P s (c :: l)) 0 (P s (c :: l)) 0) R→Ev (fun k=>j1o.f k s (P s (c :: l))) R:=fun {R} hR=>by
    refine st (Ev.congr (fun k=>?_) hR);have e45:c≠45:=fun e=>eN (.inl e)
    rw [if_neg e123,if_neg e91,if_neg e34,if_neg e45];by_cases e48:48≤c
    rotate_left
    ·rw [if_neg e48]
    have:¬ c≤57:=fun e=>eN (.inr (by simp [isD,e48,e]))
    rw [if_pos e48,decide_eq_false this]
   have hw:=words_of hs h;refine ⟨fun r hr=>?_,fun hr=>?_⟩
   ·obtain ⟨v,p,k0,k1,k2,k3⟩:=hw.1 r hr;exact ⟨v,p,k0,k1,k2,st2 k3⟩
   ·obtain ⟨a,b,c',d,e,q,k3⟩:=hw.2 hr;exact ⟨a,b,c',d,e,q,st2 k3⟩
  simp only [if_pos eN]
  have st2:∀ {R},Ev (fun k=>j1o.j0 k true true s (P s (c :: l)) 0 (P s (c :: l)) 0) R→Ev (fun k=>j1o.f k s (P s (c :: l))) R:=fun {R} hR=>by
   refine st (Ev.congr (fun k=>?_) hR);rw [if_neg e123,if_neg e91,if_neg e34];by_cases e45:c=45
   ·rw [if_pos e45]
   have hd:isD c=true:=eN.resolve_left e45;simp only [isD,decide_eq_true_eq] at hd;rw [if_neg e45,if_pos hd.1,decide_eq_true hd.2]
  have hn:=number_P hs' h;refine ⟨fun r hr=>?_,fun hr=>?_⟩
  ·obtain ⟨k1,k2⟩:=hn.1 r hr;obtain ⟨v,el,hv,_⟩:=numL_cut hr;refine ⟨v,⟨3,P s (c :: l),P s r,[],[]⟩,el, .sca (k:=3) (.inl ⟨rfl,hv⟩) (by rw [P_PN,P_PN,PN_app (s:=s) (x:=v) (l:=r) (by rw [← el];exact h.le),← el]),k2,st2 ?_⟩;rw [hnum];exact Ev.bind (sh k1) (Ev.now _)
  ·obtain ⟨q,k1⟩:=hn.2 hr;refine ⟨3,P s (c :: l),q,[],[],q,st2 ?_⟩;rw [hnum];exact Ev.bind (sh k1) (Ev.now _)
theorem reader_all : ∀ n:Nat,∀ l,l.length≤n→Suf s l→VA s l∧EA s l∧MA s l:=by
 intro n
 induction n with
 | zero =>
  intro l hl h;have e:=List.length_eq_zero_iff.mp (Nat.le_zero.mp hl);subst e;have hv:=val_of hs h (fun u hu _=>(by simp at hu)) (fun u hu _=>(by simp at hu));exact ⟨hv,els_of hs h hv (fun u hu _=>(by simp at hu)),mem_of hs h (fun u hu _=>(by simp at hu)) (fun u hu _=>(by simp at hu))⟩
 | succ n ih =>
  intro l hl h;have hv:=val_of hs h (fun u hu hS=>(ih u (by omega) hS).2.1) (fun u hu hS=>(ih u (by omega) hS).2.2);exact ⟨hv,els_of hs h hv (fun u hu hS=>(ih u (by omega) hS).2.1),mem_of hs h (fun u hu hS=>(ih u (by omega) hS).1) (fun u hu hS=>(ih u (by omega) hS).2.2)⟩
end
def textL (l : List Int):Bool:=match valL (skB l) with
  | none=>false
  | some r=>(skB r).isEmpty
theorem places_eq {s : ByteArray} (hs:s.size≤2147483647) :
 (textL (bytesOf s)=true→∃ (B v B':List Int) (p:S27),bytesOf s=B++(v++B')∧Bl B∧Bl B'∧PV B.length v p∧Ev (fun k=>j3m.f k s) (p.f0,p.f1,p.f2,p.f3,p.f4,true)) ∧
 (textL (bytesOf s)=false→Ev (fun k=>j3m.f k s) (0,0,0,[],[],false)):=by
 have hs':s.size≤140737488351232:=by omega
 have h0:=Suf.start s;have hb:=j4g hs' _ h0;have e0:P s (bytesOf s)=0:=by unfold P;rw [bytesOf_length];simp
 rw [e0] at hb;have hV:=(reader_all hs _ _ (Nat.le_refl _) h0.skB).1;unfold textL;cases e:valL (skB (bytesOf s)) with
 | none =>
  obtain ⟨a,b,c,d,e',q,hq⟩:=hV.2 e;refine ⟨fun h=>(by cases h),fun _=>?_⟩;unfold j3m.f;exact Ev.bind hb (Ev.bind hq (Ev.congr (fun _=>if_neg (by simp)) (Ev.now _)))
 | some r =>
  obtain ⟨v,p,hlv,hp,hr,hq⟩:=hV.1 r e;have hb2:=j4g hs' r hr;have hbS:=hr.skB;simp only;cases e2:skB r with
  | nil =>
   rw [e2,P_nil] at hb2;obtain ⟨B,hB,hBl⟩:=j4b (bytesOf s);obtain ⟨B',hB',hBr⟩:=j4b r;rw [e2,List.append_nil] at hBr
   have ep:PN s (skB (bytesOf s))=B.length:=by
    have:=congrArg List.length hBl;rw [bytesOf_length,List.length_append] at this;unfold PN;omega
   rw [ep] at hp;refine ⟨fun _=>⟨B,v,B',p,by rw [hBr] at hlv;rw [← hlv];exact hBl,hB,hB',hp,?_⟩,fun h=>(by simp at h)⟩;unfold j3m.f;exact Ev.bind hb (Ev.bind hq (Ev.congr (fun _=>if_pos rfl) (Ev.bind hb2 (Ev.congr (fun _=>if_pos rfl) (Ev.now _)))))
  | cons c t =>
   rw [e2] at hb2 hbS;have:=P_lt hbS;refine ⟨fun h=>(by simp at h),fun _=>?_⟩;unfold j3m.f;exact Ev.bind hb (Ev.bind hq (Ev.congr (fun _=>if_pos rfl) (Ev.bind hb2 (Ev.congr (fun _=>if_neg (by simp only;omega)) (Ev.now _)))))
end Go.Proofs.YthmjfmpgmcgonaaDoor.J
end
section
namespace Go.Proofs.YthmjfmpgmcgonaaDoor.J
open Go.RowKit Go.Proofs.YthmjfmpgmcgonaaDoor.K Go.Proofs.YthmjfmpgmcgonaaDoorW.PrintWords Go.Proofs.YthmjfmpgmcgonaaDoorW.PrintLast
set_option linter.unusedVariables false
set_option linter.unusedSimpArgs false
set_option linter.unusedSectionVars false

theorem j4k {l : List Int} {i:Nat} {c:Int} {t:List Int} (h:l.drop i=c :: t):l.drop (i+1)=t:=by rw [← List.drop_drop,h];rfl
theorem j3q {l x y:List Int} {i:Nat} (h:l.drop i=x++y):l.drop (i+x.length)=y:=by rw [← List.drop_drop,h,List.drop_left]
theorem drop_lt {l : List Int} {i:Nat} {c:Int} {t:List Int} (h:l.drop i=c :: t):i<l.length:=by
 have:=congrArg List.length h;simp at this;omega
theorem j4l {l : List Int} {i:Nat} {c:Int} {t:List Int} (h:l.drop i=c :: t):l.getD i 0=c:=by
 have:=at_int (drop_lt h);rw [h] at this;exact (List.cons.inj this).1.symm
theorem unqL_id : ∀ {b:List Int},92 ∉ b→unqL b=b
 | [],_=>unqL_nil
 | c :: b,h=>by
  rw [unqL_raw b (fun e=>h (by simp [e])),unqL_id (fun k=>h (List.mem_cons_of_mem _ k))]
def Told (L w : List Int) (p:S27) (x:AC):Prop :=
  ∃ (a:Nat) (v R r:List Int),PV a v p∧L.drop a=v++R∧w.drop (pick x).1=v++r∧(pick x).2=v.length∧Dl r∧x.kd=jkind p.f0∧v.length<w.length∧(x.kd=1→x.vo=(pick x).1+1∧x.vn+2=v.length∧x.off=((pick x).1:Int)+2)∧(x.kd≠1→x.vo=(pick x).1∧x.vn=v.length∧x.off=((pick x).1:Int))
theorem jk_str {k : Int}:jkind k=1↔k=4:=by
 unfold jkind
 constructor
 ·intro h
  repeat' split at h
  all_goals first|assumption|(exact absurd h zq56)
 ·intro h;rw [if_pos h]
theorem PV.str_len {a : Nat} {v:List Int} {p:S27} (h:PV a v p) (hk:p.f0=4):2≤v.length:=by
 cases h with
 | str _ e _=>subst e;simp
 | sca h e=>subst e;simp only at hk;omega
 | obj0 _ _ e=>subst e;simp at hk
 | obj _ _ _ e=>subst e;simp at hk
 | arr0 _ _ e=>subst e;simp at hk
 | arr _ _ _ e=>subst e;simp at hk
theorem told_of {sq : Bool} {L w:List Int} {a q:Nat} {B v R r:List Int} {p:S27} (hB:Bl B) (hv:PV a v p) (hL:L.drop a=v++R) (hw:w.drop q=B++(v++r)) (hr:Dl r) (hlt:v.length<w.length) :
 nT (w.drop q) 0=(B.length:Int)∧gT sq (w.drop q) B.length=⟨jkind p.f0,B.length+v.length,true⟩∧Told L w p (acOf ⟨jkind p.f0,B.length+v.length,true⟩ q B.length):=by
 obtain ⟨c,t,ev,hc⟩:=hv.head;refine ⟨?_,?_,a,v,R,r,hv,hL,?_⟩
 ·rw [hw,ev,List.cons_append,nT_bl hB hc.nb];omega
 ·exact gT_PV hv (by rw [hw,List.drop_left]) hr
 ·have hwd:=j3q hw;by_cases hk:p.f0=4
  ·have h2:=hv.str_len hk;have hk1:jkind p.f0=1:=jk_str.mpr hk
   have hp:pick (acOf ⟨jkind p.f0,B.length+v.length,true⟩ q B.length)=(q+B.length,v.length):=by
    unfold pick acOf vN;simp only [hk1,if_true]
    congr 1<;>omega
   rw [hp];refine ⟨hwd,rfl,hr,rfl,hlt,fun _=>?_,fun h=>absurd hk1 h⟩;unfold acOf vN vB;simp only [hk1,if_true];omega
  have hk1:jkind p.f0≠1:=fun h=>hk (jk_str.mp h)
  have hp:pick (acOf ⟨jkind p.f0,B.length+v.length,true⟩ q B.length)=(q+B.length,v.length):=by
   unfold pick acOf vN;simp only [hk1,if_false]
   congr 1<;>omega
  rw [hp];refine ⟨hwd,rfl,hr,rfl,hlt,fun h=>absurd h hk1,fun _=>?_⟩;unfold acOf vN vB;simp only [hk1,if_false];exact ⟨trivial,by omega,by omega⟩
inductive TL (L w : List Int):List S27→List AC→Prop
  | nil:TL L w [] []
  | cons {p:S27} {x:AC} {ps:List S27} {cs:List AC}:Told L w p x→TL L w ps cs→TL L w (p :: ps) (x :: cs)
theorem TL.len {L w : List Int} {ps:List S27} {cs:List AC} (h:TL L w ps cs):cs.length=ps.length:=by
 induction h with
 | nil=>rfl
 | cons _ _ ih=>simp [ih]
theorem TL.get {L w : List Int} {ps:List S27} {cs:List AC} (h:TL L w ps cs):∀ {j:Nat} {p:S27},ps[j]? = some p→∃ x,cs[j]? = some x∧Told L w p x:=by
 induction h with
 | nil=>intro j p h;simp at h
 | cons h1 _ ih =>
  intro j p h;cases j with
  | zero=>simp at h;subst h;exact ⟨_,by simp,h1⟩
  | succ j=>simpa using ih (by simpa using h)
theorem els_calls {sq : Bool} {L w:List Int}:∀ (n:Nat) (a q:Nat) (B m R r:List Int) (ps:List S27),m.length≤n→Bl B→PE a m ps→L.drop a=m++R→w.drop q=B++(m++r)→∃ cs,aEl sq w n q=some (cs,q+B.length+m.length - 1)∧TL L w ps cs:=by
 intro n
 induction n with
 | zero =>
  intro a q B m R r ps hn _ h;cases h with
  | one _ _ e _=>subst e;simp at hn
  | more _ _ _ _ e _=>subst e;simp at hn
 | succ n ih =>
  intro a q B m R r ps hn hB h hL hw;have hwl:=congrArg List.length hw;simp only [List.length_drop,List.length_append] at hwl;cases h with
  | @one _ _ v B1 p _ hB1 hv e ep =>
   subst e ep;simp only [List.length_append,List.length_cons,List.length_nil] at hwl hn;have hd:Dl (B1++93 :: r):=Dl_bl hB1 (Dl_cons (.inr (.inl rfl)));obtain ⟨h1,h2,h3⟩:=told_of (sq:=sq) (L:=L) (w:=w) hB hv (R:=(B1++[93])++R) (by rw [hL];simp) (r:=B1++93 :: r) (by rw [hw];simp) hd (by omega)
   have h6:w.drop (q+(B.length+v.length))=B1++93 :: r:=by
    have:=j3q (x:=B++v) (y:=B1++93 :: r) (by rw [hw];simp)
    simpa using this
   have h5:nT (w.drop (q+(B.length+v.length))) 0=(B1.length:Int):=by
    rw [h6,nT_bl hB1 zq56];omega
   have hvp:=hv.pos;rw [aEl_step h1 h2 rfl (by simp only;omega) h5];have hg:w.getD (q+(B.length+v.length)+B1.length) 0=93:=j4l (j3q h6);simp only;rw [if_pos hg];refine ⟨_,?_, .cons h3 .nil⟩
   congr 2
   simp only [List.length_append,List.length_cons,List.length_nil];omega
  | @more _ _ v B1 B2 m' p _ ps' hB1 hB2 hv hm e ep =>
   subst e ep;simp only [List.length_append,List.length_cons,List.length_nil] at hwl hn;have hd:Dl (B1++44 :: (B2++(m'++r))):=Dl_bl hB1 (Dl_cons (.inl rfl));have hwx:w.drop q=B++(v++(B1++44 :: (B2++(m'++r)))):=by rw [hw];simp
   obtain ⟨h1,h2,h3⟩:=told_of (sq:=sq) (L:=L) (w:=w) hB hv (R:=(B1++44 :: (B2++m'))++R) (by rw [hL];simp) hwx hd (by omega)
   have h6:w.drop (q+(B.length+v.length))=B1++44 :: (B2++(m'++r)):=by
    have:=j3q (x:=B++v) (y:=B1++44 :: (B2++(m'++r))) (by rw [hwx];simp)
    simpa using this
   have h5:nT (w.drop (q+(B.length+v.length))) 0=(B1.length:Int):=by
    rw [h6,nT_bl hB1 zq56];omega
   have hvp:=hv.pos;rw [aEl_step h1 h2 rfl (by simp only;omega) h5];have h7:=j3q h6;have hg:w.getD (q+(B.length+v.length)+B1.length) 0=44:=j4l h7
   have hLd:L.drop (a+v.length+B1.length+1+B2.length)=m'++R:=by
    have:=j3q (x:=v++(B1++44 :: B2)) (y:=m'++R) (by rw [hL];simp);rw [← this]
    congr 1
    simp only [List.length_append,List.length_cons];omega
   obtain ⟨cs,h8,h9⟩:=ih _ (q+(B.length+v.length)+B1.length+1) B2 m' R r ps' (by omega) hB2 hm hLd (j4k h7);simp only;rw [if_neg (by rw [hg];decide),if_pos hg,h8];refine ⟨_,?_, .cons h3 h9⟩;simp only [Option.map_some]
   congr 2
   simp only [List.length_append,List.length_cons];omega
theorem aE_PV {sq : Bool} {L w:List Int} {a:Nat} {v R r:List Int} {p:S27} (h:PV a v p) (hk:p.f0=5) (hL:L.drop a=v++R) (hw:w=v++r):∃ cs,aE sq w=some (cs,v.length - 1)∧TL L w p.f4 cs:=by
 cases h with
 | str _ _ e=>subst e;simp at hk
 | sca h e=>subst e;simp only at hk;omega
 | obj0 _ _ e=>subst e;simp at hk
 | obj _ _ _ e=>subst e;simp at hk
 | @arr0 _ _ B _ hB e ep =>
  subst e ep;rw [List.cons_append,List.append_assoc] at hw;have h1:nT w 0=((0:Nat):Int):=by rw [hw,nT,if_neg zq56]
  have h2:w.getD 0 0=91:=by rw [hw];rfl
  have h3:nT (w.drop (0+1)) 0=(B.length:Int):=by
   rw [hw,Nat.zero_add,List.drop_succ_cons,List.drop_zero,List.cons_append,nT_bl hB zq56];omega
  have h4:w.getD (0+1+B.length) 0=93:=by
   refine j4l (t:=r) ?_;rw [hw,show 0+1+B.length=B.length+1 by omega,List.drop_succ_cons,List.drop_left];rfl
  rw [aE_eq h1 h2 h3,if_pos h4];refine ⟨_,?_, .nil⟩
  congr 2
  simp only [List.length_append,List.length_cons,List.length_nil];omega
 | @arr _ _ B m ps _ hB hm e ep =>
  subst e ep;rw [List.cons_append,List.append_assoc] at hw
  obtain ⟨v1,x1,y1,hv1,hm1⟩:∃ (v1:List Int) (x1:S27) (y1:List Int),PV (a+1+B.length) v1 x1∧m=v1++y1:=by
   cases hm with
   | one _ hv e _=>exact ⟨_,_,_,hv,e⟩
   | more _ _ hv _ e _=>exact ⟨_,_,_,hv,e⟩
  obtain ⟨c,t,ev,hc⟩:=hv1.head;have h1:nT w 0=((0:Nat):Int):=by rw [hw,nT,if_neg zq56]
  have h2:w.getD 0 0=91:=by rw [hw];rfl
  have hwd:w.drop (0+1)=B++(m++r):=by rw [hw];rfl
  have h3:nT (w.drop (0+1)) 0=(B.length:Int):=by
   rw [hwd,hm1,ev,List.cons_append,List.cons_append,nT_bl hB hc.nb];omega
  have hwm:w.drop (0+1+B.length)=[]++(m++r):=j3q hwd
  have h4:¬ w.getD (0+1+B.length) 0=93:=by
   rw [j4l (c:=c) (t:=t++y1++r) (by rw [hwm,hm1,ev];simp)];have:=hc;unfold V1 isD at this;simp only [decide_eq_true_eq] at this;omega
  rw [aE_eq h1 h2 h3,if_neg h4]
  have hLd:L.drop (a+1+B.length)=m++R:=by
   have:=j3q (x:=91 :: B) (y:=m++R) (by rw [hL];simp);rw [← this]
   congr 1
   simp only [List.length_cons];omega
  have hwl:=congrArg List.length hw;simp only [List.length_append,List.length_cons] at hwl;obtain ⟨cs,h8,h9⟩:=els_calls (sq:=sq) (L:=L) (w:=w) w.length _ _ [] m R r ps (by omega) Bl.nil hm hLd hwm;refine ⟨cs,?_,h9⟩;rw [h8]
  congr 2
  simp only [List.length_append,List.length_cons,List.length_nil];omega
section
variable {sq : Bool} {un:List Int→Option (Option (List Int))} {ks:List ByteArray} {l:List Int}
def Pa (sq : Bool) (un:List Int→Option (Option (List Int))) (ks:List ByteArray) (l:List Int) (kl lv:Int) (i:Nat) (lm:Bool) (kl' lv':Int) (i':Nat) (lm':Bool):Prop:=∃ k,∀ n,sKl sq un (n+k) ks l kl lv i lm=sKl sq un n ks l kl' lv' i' lm'
def Pd (sq : Bool) (un:List Int→Option (Option (List Int))) (ks:List ByteArray) (l:List Int) (kl lv:Int) (i:Nat) (lm:Bool) (R:Int):Prop:=∃ k,∀ n,sKl sq un (n+k) ks l kl lv i lm=some R
theorem Pa.refl {kl lv : Int} {i:Nat} {lm:Bool}:Pa sq un ks l kl lv i lm kl lv i lm:=⟨0,fun n=>rfl⟩
theorem Pa.trans {kl lv kl' lv' kl2 lv2:Int} {i i' i2:Nat} {lm lm' lm2:Bool} (h:Pa sq un ks l kl lv i lm kl' lv' i' lm') (h':Pa sq un ks l kl' lv' i' lm' kl2 lv2 i2 lm2):Pa sq un ks l kl lv i lm kl2 lv2 i2 lm2:=by
 obtain ⟨k,hk⟩:=h;obtain ⟨k',hk'⟩:=h';exact ⟨k'+k,fun n=>by rw [← Nat.add_assoc,hk,hk']⟩
theorem Pa.done {kl lv kl' lv':Int} {i i':Nat} {lm lm':Bool} {R:Int} (h:Pa sq un ks l kl lv i lm kl' lv' i' lm') (h':Pd sq un ks l kl' lv' i' lm' R):Pd sq un ks l kl lv i lm R:=by
 obtain ⟨k,hk⟩:=h;obtain ⟨k',hk'⟩:=h';exact ⟨k'+k,fun n=>by rw [← Nat.add_assoc,hk,hk']⟩
def Skp (c : Int):Prop:=c≤32∨(92<c∧c≠123∧c≠125)
theorem skp_of {c : Int} {t:List Int} {i:Nat} (h:Skp c):skp (c :: t) i=skp t (i+1):=by
 rw [skp];rcases h with h|h
 ·rw [if_pos h]
 by_cases h2:c≤32
 ·rw [if_pos h2]
 rw [if_neg h2,if_pos h]
theorem skp_no {c : Int} {t:List Int} {i:Nat} (h:¬ Skp c):skp (c :: t) i=i:=by
 rw [skp,if_neg (fun k=>h (.inl k)),if_neg (fun k=>h (.inr k))]
theorem sKl_skip {c : Int} {t:List Int} {i:Nat} (h:l.drop i=c :: t) (hc:Skp c) (n:Nat) (kl lv:Int) (lm:Bool):sKl sq un n ks l kl lv i lm=sKl sq un n ks l kl lv (i+1) lm:=by
 cases n with
 | zero=>simp only [sKl]
 | succ n =>
  have e:skp (l.drop i) i=skp (l.drop (i+1)) (i+1):=by rw [j4k h,h,skp_of hc]
  rw [sKl,sKl,e]
theorem sKl_bl : ∀ {B:List Int},Bl B→∀ {x:List Int} {i:Nat},l.drop i=B++x→∀ (n:Nat) (kl lv:Int) (lm:Bool),sKl sq un n ks l kl lv i lm=sKl sq un n ks l kl lv (i+B.length) lm
 | [],_,x,i,h,n,kl,lv,lm=>rfl
 | c :: B,hB,x,i,h,n,kl,lv,lm=>by
  have hc:=hB c (by simp);simp only [isB,decide_eq_true_eq] at hc;rw [sKl_skip h (.inl (by omega)),sKl_bl hB.tail (j4k h)];simp only [List.length_cons];rw [show i+1+B.length=i+(B.length+1) by omega]
theorem pa_bl {B x : List Int} {i:Nat} (hB:Bl B) (h:l.drop i=B++x) {kl lv:Int} {lm:Bool}:Pa sq un ks l kl lv i lm kl lv (i+B.length) lm:=⟨0,fun n=>sKl_bl hB h n kl lv lm⟩
theorem sKl_stop {c : Int} {t:List Int} {i:Nat} (h:l.drop i=c :: t) (hc:¬ Skp c) (n:Nat) (kl lv:Int) (lm:Bool):sKl sq un (n+1) ks l kl lv i lm =
 (sStep sq un ks l kl lv i lm).bind fun r=>match r with
  | .done r=>some r
  | .go kl' lv' i' lm'=>sKl sq un n ks l kl' lv' i' lm'
  | .sub m=>(aE sq (l.drop i)).bind fun cs=>(cs.1[m]?).bind fun x =>
   (if ks.drop (lv.toNat+1)=[] then some 0 else sKl sq un n (ks.drop (lv.toNat+1)) ((l.drop (i+(pick x).1)).take (pick x).2) 0 0 0 true).bind fun r =>
    if r<0 then some (-1) else some (((i+(pick x).1:Nat):Int)+r):=by
 have hs:skp (l.drop i) i=i:=by rw [h,skp_no hc]
 have:=drop_lt h;rw [sKl,hs,if_neg (by omega)];rfl
theorem pa_go {c : Int} {t:List Int} {i:Nat} (h:l.drop i=c :: t) (hc:¬ Skp c) {kl lv kl' lv':Int} {i':Nat} {lm lm':Bool} (hs:sStep sq un ks l kl lv i lm=some (.go kl' lv' i' lm')):Pa sq un ks l kl lv i lm kl' lv' i' lm' :=
 ⟨1,fun n=>by rw [sKl_stop h hc,hs];rfl⟩
theorem pd_done {c : Int} {t:List Int} {i:Nat} (h:l.drop i=c :: t) (hc:¬ Skp c) {kl lv R:Int} {lm:Bool} (hs:sStep sq un ks l kl lv i lm=some (.done R)):Pd sq un ks l kl lv i lm R :=
 ⟨1,fun n=>by rw [sKl_stop h hc,hs];rfl⟩
theorem pa_oth {c : Int} {t:List Int} {i:Nat} (h:l.drop i=c :: t) (h34:c≠34) (h39:c≠39) (h123:c≠123) (h125:c≠125) (h91:c≠91) (h58:c≠58) {kl lv:Int} {lm:Bool}:Pa sq un ks l kl lv i lm kl lv (i+1) lm:=by
 by_cases hc:Skp c
 ·exact ⟨0,fun n=>sKl_skip h hc n kl lv lm⟩
 refine pa_go h hc ?_;rw [sStep,j4l h,if_neg (by rintro (h|h);exact h34 h;exact h39 h.1),if_neg h39,if_neg h123,if_neg h125,if_neg h91,if_neg h58]
theorem pa_sc : ∀ {v:List Int},(∀ c ∈ v,SC c)→∀ {x:List Int} {i:Nat},l.drop i=v++x→∀ {kl lv:Int} {lm:Bool},Pa sq un ks l kl lv i lm kl lv (i+v.length) lm
 | [],_,x,i,h,kl,lv,lm => .refl
 | c :: v,hv,x,i,h,kl,lv,lm=>by
  obtain ⟨_,_,h34,h39,h123,h125,h91,h93,h58,_⟩:=hv c (by simp);have:=(pa_oth (sq:=sq) (un:=un) (ks:=ks) h h34 h39 h123 h125 h91 h58 (kl:=kl) (lv:=lv) (lm:=lm)).trans (pa_sc (fun a ha=>hv a (List.mem_cons_of_mem _ ha)) (j4k h));rw [show i+(c :: v).length=i+1+v.length by simp only [List.length_cons];omega];exact this
theorem step_str {b r : List Int} (hb:Body b) {i:Nat} (h:l.drop i=34 :: (b++34 :: r)) (kl lv:Int) (lm:Bool):sStep sq un ks l kl lv i lm=sStr un ks l kl lv i lm (((b.length+1:Nat):Int),decide (92 ∈ b)):=by
 rw [sStep,j4l h,if_pos (.inl rfl),j4k h,strE_body hb];rw [Nat.zero_add,Bool.false_or]
theorem drop_str {b r : List Int} {i:Nat} (h:l.drop i=34 :: (b++34 :: r)):l.drop (i+1+(b.length+1))=r:=by
 have:=j3q (j4k h);have:=j4k this;rw [← this]
 congr 1
theorem pa_str {b r t:List Int} {c:Int} (hb:Body b) {i:Nat} (h:l.drop i=34 :: (b++34 :: r)) (hr:skB r=c :: t) (hc:c≠58) {kl lv:Int} {lm:Bool}:Pa sq un ks l kl lv i lm kl lv (i+b.length+2) lm:=by
 obtain ⟨B,hB,hBr⟩:=j4b r;rw [hr] at hBr;have hd:=drop_str h;have hcb:=skB_head r c t hr;refine ⟨1,fun n=>?_⟩
 have hs:sStep sq un ks l kl lv i lm=some (.go kl lv (i+1+(b.length+1)+B.length) lm):=by
  rw [step_str hb h,sStr];simp only [Int.toNat_natCast];rw [if_neg (by omega),hd,hBr,nT_bl hB hcb,if_neg (by omega),Nat.zero_add,Int.toNat_natCast];have hg:l.getD (i+1+(b.length+1)+B.length) 0=c:=j4l (j3q (hd.trans hBr));rw [hg,if_neg hc]
 rw [sKl_stop h zq98,hs];simp only [Option.bind_some];rw [show i+b.length+2=i+1+(b.length+1) by omega,sKl_bl hB (hd.trans hBr)]
theorem pa_V {a : Nat} {v r t:List Int} {c:Int} {p:S27} (h:PV a v p) {i:Nat} (hl:l.drop i=v++r) (hr:skB r=c :: t) (hc:c≠58) {kl lv:Int} (hk:kl≠lv):Pa sq un ks l kl lv i false kl lv (i+v.length) false:=by
 cases h with
 | @str _ _ b _ hb e _ =>
  subst e;have:=pa_str (sq:=sq) (un:=un) (ks:=ks) hb (r:=r) (i:=i) (by rw [hl];simp) hr hc (kl:=kl) (lv:=lv) (lm:=false);rw [show i+(34 :: (b++[34])).length=i+b.length+2 by simp only [List.length_cons,List.length_append,List.length_nil];omega];exact this
 | @sca _ _ k _ h _=>exact pa_sc (Sca.sc (k:=k) h) hl
 | @obj0 _ _ B _ hB e ep =>
  have hE:=bE_obj (sq:=sq) (PV.obj0 (a:=a) hB e ep) (by rw [ep]) r;have h2:l.drop i=123 :: (B++125 :: r):=by rw [hl,e];simp
  refine pa_go h2 zq98 ?_;rw [sStep,j4l h2,if_neg (by omega),if_neg (by omega),if_pos rfl,if_pos rfl,hl,hE,if_neg (by omega),Int.toNat_natCast]
 | @obj _ _ B m ns ps _ hB hm e ep =>
  have hE:=bE_obj (sq:=sq) (PV.obj (a:=a) hB hm e ep) (by rw [ep]) r;have h2:l.drop i=123 :: (B++(m++r)):=by rw [hl,e];simp
  refine pa_go h2 zq98 ?_;rw [sStep,j4l h2,if_neg (by omega),if_neg (by omega),if_pos rfl,if_pos rfl,hl,hE,if_neg (by omega),Int.toNat_natCast]
 | @arr0 _ _ B _ hB e ep =>
  have hE:=bE_arr (sq:=sq) (PV.arr0 (a:=a) hB e ep) (by rw [ep]) r;have h2:l.drop i=91 :: (B++93 :: r):=by rw [hl,e];simp
  refine pa_go h2 zq98 ?_;rw [sStep,j4l h2,if_neg (by omega),if_neg (by omega),if_neg (by omega),if_neg (by omega),if_pos rfl,sArr,if_neg (fun h=>hk h.1),if_neg (fun h=>hk h.1),hl,hE,if_neg (by omega),Int.toNat_natCast]
 | @arr _ _ B m ps _ hB hm e ep =>
  have hE:=bE_arr (sq:=sq) (PV.arr (a:=a) hB hm e ep) (by rw [ep]) r;have h2:l.drop i=91 :: (B++(m++r)):=by rw [hl,e];simp
  refine pa_go h2 zq98 ?_;rw [sStep,j4l h2,if_neg (by omega),if_neg (by omega),if_neg (by omega),if_neg (by omega),if_pos rfl,sArr,if_neg (fun h=>hk h.1),if_neg (fun h=>hk h.1),hl,hE,if_neg (by omega),Int.toNat_natCast]
theorem step_name (hun : ∀ b,Body b→(∀ x ∈ b,0≤x∧x≤255)→b.length≤l.length→un b=some (some (unqL b))) (hlr:∀ x ∈ l,0≤x∧x≤255) {b B r:List Int} (hb:Body b) (hB:Bl B) {i:Nat} (h:l.drop i=34 :: (b++34 :: (B++58 :: r))) {kl lv:Int} (hlv:1≤lv) (lm:Bool) :
 sStep sq un ks l kl lv i lm=sKey ks kl lv (i+b.length+2+B.length) (some (unqL b)):=by
 have hd:=drop_str h;have htk:(l.drop (i+1)).take (b.length+1 - 1)=b:=by rw [j4k h];simp
 have hbl:b.length≤l.length:=by
  have:=congrArg List.length h;simp only [List.length_drop,List.length_cons,List.length_append] at this;omega
 have hbr:∀ x ∈ b,0≤x∧x≤255:=fun x hx=>hlr x (List.mem_of_mem_drop (i:=i) (by rw [h];simp [hx]))
 rw [step_str hb h,sStr];simp only [Int.toNat_natCast];rw [if_neg (by omega),hd,nT_bl hB zq56,if_neg (by omega),Nat.zero_add,Int.toNat_natCast];have hg:l.getD (i+1+(b.length+1)+B.length) 0=58:=j4l (j3q hd);rw [hg,if_pos rfl,if_neg (by omega),htk];by_cases h92:92 ∈ b
 rotate_left
 ·rw [if_pos (by simp [h92]),unqL_id h92];simp only [Option.bind_some];rw [show i+1+(b.length+1)+B.length=i+b.length+2+B.length by omega]
 rw [if_neg (by simp [h92]),hun b hb hbr hbl];simp only [Option.bind_some];rw [show i+1+(b.length+1)+B.length=i+b.length+2+B.length by omega]
end
def nmB (L : List Int) (q:S49):List Int:=unqL ((L.drop (q.f0.toNat+1)).take (q.f1.toNat - q.f0.toNat - 2))
theorem nmB_eq {L b x:List Int} {a:Nat} (h:L.drop a=34 :: (b++x)):nmB L ⟨(a:Int),((a+b.length+2:Nat):Int)⟩=unqL b:=by
 unfold nmB;simp only [Int.toNat_natCast];rw [j4k h,show a+b.length+2 - a - 2=b.length by omega];simp
inductive SeekP (L : List Int):S27→List ByteArray→S27→Prop
  | nil {p:S27}:SeekP L p [] p
  | obj {p q p':S27} {key:ByteArray} {ks:List ByteArray} {j:Nat}:p.f0=6→(∀ i,i<j→∀ x,p.f3[i]? = some x→strOfNums (nmB L x)≠key)→(∃ x,p.f3[j]? = some x∧strOfNums (nmB L x)=key)→p.f4[j]? = some q→SeekP L q ks p'→SeekP L p (key :: ks) p'
  | arr {p q p':S27} {key:ByteArray} {ks:List ByteArray} {j:Nat}:p.f0=5→isIx key=true→kIdx key=some (j:Int)→p.f4[j]? = some q→SeekP L q ks p'→SeekP L p (key :: ks) p'
section
variable {sq : Bool} {un:List Int→Option (Option (List Int))} {L:List Int} (N:Nat) (hun:∀ b,Body b→(∀ x ∈ b,0≤x∧x≤255)→b.length≤N→un b=some (some (unqL b)))
include hun
theorem find_M : ∀ n:Nat,∀ (a i d:Nat) (ks:List ByteArray) (l m R r:List Int) (ns:List S49) (ps:List S27) (j:Nat) (lm:Bool) (key:ByteArray) (q:S27),m.length≤n→l.length≤N→(∀ x ∈ l,0≤x∧x≤255)→PM a m ns ps→L.drop a=m++R→l.drop i=m++r→d<ks.length→ks.getD d default=key →
 (∀ i,i<j→∀ x,ns[i]? = some x→strOfNums (nmB L x)≠key)→(∃ x,ns[j]? = some x∧strOfNums (nmB L x)=key)→ps[j]? = some q →
 ∃ (i1 a1:Nat) (v B r1 R1:List Int),PV a1 v q∧L.drop a1=v++R1∧l.drop i1=B++(v++r1)∧Bl B∧Dl r1∧v.length<m.length ∧
  (d+1=ks.length→Pd sq un ks l (d:Int) ((d:Int)+1) i lm (i1:Int))∧(d+1<ks.length→Pa sq un ks l (d:Int) ((d:Int)+1) i lm ((d+1:Nat):Int) ((d+1:Nat):Int) i1 true):=by
 intro n
 induction n with
 | zero =>
  intro a i d ks l m R r ns ps j lm key q hn _ _ h;cases h<;>(subst_vars;simp at hn)
 | succ n ih =>
  intro a i d ks l m R r ns ps j lm key q hn hN hlr h hL hl hd hkey hno hyes hq;have hun':∀ b,Body b→(∀ x ∈ b,0≤x∧x≤255)→b.length≤l.length→un b=some (some (unqL b)):=fun b h1 h2 h3=>hun b h1 h2 (by omega)
  -- a member's name is the one
  have hit:∀ (b B1 B2 v x:List Int),Body b→Bl B1→Bl B2→l.drop i=34 :: (b++34 :: (B1++58 :: (B2++(v++x))))→strOfNums (unqL b)=key →
   l.drop (i+b.length+2+B1.length+1)=B2++(v++x)∧(d+1=ks.length→Pd sq un ks l (d:Int) ((d:Int)+1) i lm ((i+b.length+2+B1.length+1:Nat):Int))∧(d+1<ks.length→Pa sq un ks l (d:Int) ((d:Int)+1) i lm ((d+1:Nat):Int) ((d+1:Nat):Int) (i+b.length+2+B1.length+1) true):=fun b B1 B2 v x hb h1 h2 h hk=>by
   have hst:=step_name (sq:=sq) (ks:=ks) hun' hlr hb h1 h (kl:=(d:Int)) (lv:=(d:Int)+1) (by omega) lm;rw [sKey,if_pos (by omega),show ((d:Int)+1).toNat - 1=d by omega,hkey,if_pos hk,if_pos (by omega)] at hst;refine ⟨?_,fun hdk=>?_,fun hdk=>?_⟩
   ·have:=j4k (j3q (drop_str h));rw [← this]
    congr 1
    omega
   ·rw [if_pos (by omega)] at hst;exact pd_done h zq98 hst
   ·rw [if_neg (by omega)] at hst;exact pa_go h zq98 hst
  cases h with
  | @one _ _ b B1 B2 v B3 p _ _ hb h1 h2 h3 hv e en ep =>
   subst e en ep
   obtain rfl:j=0:=by
    obtain ⟨x,hx,_⟩:=hyes;cases j with
    | zero=>rfl
    | succ j=>simp at hx
   obtain rfl:p=q:=by simpa using hq
   obtain ⟨x,hx,hxk⟩:=hyes;obtain rfl:(⟨(a:Int),((a+b.length+2:Nat):Int)⟩:S49)=x:=by simpa using hx
   rw [nmB_eq (x:=34 :: (B1++58 :: (B2++(v++(B3++[125]))))++R) (by rw [hL];simp)] at hxk;obtain ⟨k1,k2,k3⟩:=hit b B1 B2 v (B3++125 :: r) hb h1 h2 (by rw [hl];simp) hxk;refine ⟨_,_,v,B2,B3++125 :: r,(B3++[125])++R,hv,?_,k1,h2,Dl_bl h3 (Dl_cons (.inr (.inr rfl))),by simp only [List.length_cons,List.length_append];omega,k2,k3⟩;have:=j3q (x:=34 :: (b++34 :: (B1++58 :: B2))) (y:=v++((B3++[125])++R)) (by rw [hL];simp);rw [← this]
   congr 1
   simp only [List.length_cons,List.length_append];omega
  | @more _ _ b B1 B2 v B3 B4 m' p _ ns' _ ps' hb h1 h2 h3 h4 hv hm e en ep =>
   subst e en ep;simp only [List.length_cons,List.length_append] at hn;have hnm:nmB L ⟨(a:Int),((a+b.length+2:Nat):Int)⟩=unqL b:=nmB_eq (x:=34 :: (B1++58 :: (B2++(v++(B3++44 :: (B4++m')))))++R) (by rw [hL];simp);have hl':l.drop i=34 :: (b++34 :: (B1++58 :: (B2++(v++(B3++44 :: (B4++(m'++r))))))):=by rw [hl];simp
   cases j with
   | zero =>
    obtain rfl:p=q:=by simpa using hq
    obtain ⟨x,hx,hxk⟩:=hyes;obtain rfl:(⟨(a:Int),((a+b.length+2:Nat):Int)⟩:S49)=x:=by simpa using hx
    rw [hnm] at hxk;obtain ⟨k1,k2,k3⟩:=hit b B1 B2 v _ hb h1 h2 hl' hxk;refine ⟨_,_,v,B2,_,(B3++44 :: (B4++m'))++R,hv,?_,k1,h2,Dl_bl h3 (Dl_cons (.inl rfl)),by simp only [List.length_cons,List.length_append];omega,k2,k3⟩;have:=j3q (x:=34 :: (b++34 :: (B1++58 :: B2))) (y:=v++((B3++44 :: (B4++m'))++R)) (by rw [hL];simp);rw [← this]
    congr 1
    simp only [List.length_cons,List.length_append];omega
   | succ j =>
    have hne:strOfNums (unqL b)≠key:=by
     have:=hno 0 (by omega) ⟨(a:Int),((a+b.length+2:Nat):Int)⟩ rfl;rw [hnm] at this;exact this
    have hst:=step_name (sq:=sq) (ks:=ks) hun' hlr hb h1 hl' (kl:=(d:Int)) (lv:=(d:Int)+1) (by omega) lm;rw [sKey,if_pos (by omega),show ((d:Int)+1).toNat - 1=d by omega,hkey,if_neg hne] at hst;have g1:=pa_go (sq:=sq) (un:=un) (ks:=ks) hl' zq98 hst
    have d1:l.drop (i+b.length+2+B1.length+1)=B2++(v++(B3++44 :: (B4++(m'++r)))):=by
     have:=j4k (j3q (drop_str hl'));rw [← this]
     congr 1
     omega
    have g2:=pa_bl (sq:=sq) (un:=un) (ks:=ks) h2 d1 (kl:=(d:Int)) (lv:=(d:Int)+1) (lm:=false);have d2:=j3q d1;have hsk:skB (B3++44 :: (B4++(m'++r)))=44 :: (B4++(m'++r)):=by rw [h3.sk,skB_no zq56]
    have g3:=pa_V (sq:=sq) (un:=un) (ks:=ks) hv d2 hsk zq56 (kl:=(d:Int)) (lv:=(d:Int)+1) (by omega);have d3:=j3q d2;have g4:=pa_bl (sq:=sq) (un:=un) (ks:=ks) h3 d3 (kl:=(d:Int)) (lv:=(d:Int)+1) (lm:=false);have d4:=j3q d3;have g5:=pa_oth (sq:=sq) (un:=un) (ks:=ks) d4 zq56 zq56 zq56 zq56 zq56 zq56 (kl:=(d:Int)) (lv:=(d:Int)+1) (lm:=false);have d5:=j4k d4;have g6:=pa_bl (sq:=sq) (un:=un) (ks:=ks) h4 d5 (kl:=(d:Int)) (lv:=(d:Int)+1) (lm:=false);have d6:=j3q d5
    have hLd:L.drop (a+b.length+2+B1.length+1+B2.length+v.length+B3.length+1+B4.length)=m'++R:=by
     have:=j3q (x:=34 :: (b++34 :: (B1++58 :: (B2++(v++(B3++44 :: B4)))))) (y:=m'++R) (by rw [hL];simp);rw [← this]
     congr 1
     simp only [List.length_cons,List.length_append];omega
    obtain ⟨i1,a1,v1,C,r1,R1,z1,z2,z3,z4,z5,z6,z7,z8⟩:=ih _ _ d ks l m' R r ns' ps' j false key q (by omega) hN hlr hm hLd d6 hd hkey (fun i hi x hx=>hno (i+1) (by omega) x (by simpa using hx)) (by obtain ⟨x,hx,hk⟩:=hyes;exact ⟨x,by simpa using hx,hk⟩) (by simpa using hq);have G:=((((g1.trans g2).trans g3).trans g4).trans g5).trans g6;exact ⟨i1,a1,v1,C,r1,R1,z1,z2,z3,z4,z5,by simp only [List.length_cons,List.length_append];omega,fun h=>G.done (z7 h),fun h=>G.trans (z8 h)⟩
theorem find_V : ∀ n:Nat,∀ (a i d:Nat) (ks:List ByteArray) (l v R r:List Int) (p p':S27),v.length≤n→l.length≤N→(∀ x ∈ l,0≤x∧x≤255)→PV a v p→L.drop a=v++R→l.drop i=v++r→ks.drop d≠[]→SeekP L p (ks.drop d) p' →
 ∃ (i1 a1:Nat) (v1 B r1 R1:List Int),PV a1 v1 p'∧L.drop a1=v1++R1∧l.drop i1=B++(v1++r1)∧Bl B∧(Dl r→Dl r1)∧Pd sq un ks l (d:Int) (d:Int) i true (i1:Int):=by
 intro n
 induction n with
 | zero =>
  intro a i d ks l v R r p p' hn _ _ h;exact absurd h.pos (by omega)
 | succ n ih =>
  intro a i d ks l v R r p p' hn hN hlr h hL hl hks hS
  obtain ⟨key,rest,hkr⟩:∃ key rest,ks.drop d=key :: rest:=by
   cases e:ks.drop d with
   | nil=>exact absurd e hks
   | cons x y=>exact ⟨x,y,rfl⟩
  have hd:d<ks.length:=by
   have:=congrArg List.length hkr;simp at this;omega
  have hkey:ks.getD d default=key:=by
   have e:=List.drop_eq_getElem_cons hd;rw [hkr] at e;rw [List.getD_eq_getElem?_getD,List.getElem?_eq_getElem hd];exact (List.cons.inj e).1.symm
  have hrest:ks.drop (d+1)=rest:=by rw [← List.drop_drop,hkr];rfl
  rw [hkr] at hS;cases hS with
  | @obj _ q _ _ _ j hk hno hyes hq hS =>
   cases h with
   | str _ _ e=>subst e;simp at hk
   | sca h e=>subst e;simp only at hk;omega
   | arr0 _ _ e=>subst e;simp at hk
   | arr _ _ _ e=>subst e;simp at hk
   | obj0 _ _ e=>subst e;simp at hq
   | @obj _ _ B m ns ps _ hB hm e ep =>
    subst e ep;simp only [List.length_cons,List.length_append] at hn;have d0:l.drop i=123 :: (B++(m++r)):=by rw [hl];simp
    have g0:Pa sq un ks l (d:Int) (d:Int) i true (d:Int) ((d:Int)+1) (i+1) true:=by
     refine pa_go d0 zq98 ?_;rw [sStep,j4l d0,if_neg (by omega),if_neg (by omega),if_pos rfl,if_neg zq56]
    have d1:=j4k d0;have g1:=pa_bl (sq:=sq) (un:=un) (ks:=ks) hB d1 (kl:=(d:Int)) (lv:=(d:Int)+1) (lm:=true);have d2:=j3q d1
    have hLd:L.drop (a+1+B.length)=m++R:=by
     have:=j3q (x:=123 :: B) (y:=m++R) (by rw [hL];simp);rw [← this]
     congr 1
     simp only [List.length_cons];omega
    obtain ⟨i1,a1,v1,C,r1,R1,z1,z2,z3,z4,z5,z6,z7,z8⟩:=find_M N hun (sq:=sq) m.length _ _ d ks l m R r ns ps j true key q (Nat.le_refl _) hN hlr hm hLd d2 hd hkey hno hyes hq;by_cases hlast:d+1=ks.length
    ·have:rest=[]:=by rw [← hrest,List.drop_of_length_le (by omega)]
     subst this;cases hS;exact ⟨i1,a1,v1,C,r1,R1,z1,z2,z3,z4,fun _=>z5,(g0.trans g1).done (z7 hlast)⟩
    have hlt:d+1<ks.length:=by omega
    have hne:ks.drop (d+1)≠[]:=fun e=>by
     have:=congrArg List.length e;simp at this;omega
    rw [← hrest] at hS;have g2:=pa_bl (sq:=sq) (un:=un) (ks:=ks) z4 z3 (kl:=((d+1:Nat):Int)) (lv:=((d+1:Nat):Int)) (lm:=true);obtain ⟨i2,a2,v2,C2,r2,R2,y1,y2,y3,y4,y5,y6⟩:=ih a1 (i1+C.length) (d+1) ks l v1 R1 r1 q p' (by omega) hN hlr z1 z2 (j3q z3) hne hS;exact ⟨i2,a2,v2,C2,r2,R2,y1,y2,y3,y4,fun _=>y5 z5,((((g0.trans g1).trans (z8 hlt)).trans g2)).done y6⟩
  | @arr _ q _ _ _ j hk hix hkx hq hS =>
   obtain ⟨t0,ht0⟩:∃ t,v=91 :: t:=by
    cases h with
    | str _ _ e=>subst e;simp at hk
    | sca h e=>subst e;simp only at hk;omega
    | arr0 _ e _=>exact ⟨_,e⟩
    | arr _ _ e _=>exact ⟨_,e⟩
    | obj0 _ _ e=>subst e;simp at hk
    | obj _ _ _ e=>subst e;simp at hk
   obtain ⟨cs,hae,hTL⟩:=aE_PV (sq:=sq) h hk hL hl;obtain ⟨x,hx,a1,v1,R1,r1,w1,w2,w3,w4,w5,w6,w7,_⟩:=hTL.get hq;have hwl:=congrArg List.length hl;have d0:l.drop i=91 :: (t0++r):=by rw [hl,ht0];rfl
   have hjl:j<cs.length:=by
    rw [List.getElem?_eq_some_iff] at hx;exact hx.1
   have hst:sStep sq un ks l (d:Int) (d:Int) i true=some (.sub j):=by
    rw [sStep,j4l d0,if_neg (by omega),if_neg (by omega),if_neg (by omega),if_neg (by omega),if_pos rfl,sArr,if_neg (by omega),Int.toNat_natCast,hkey,if_pos ⟨rfl,hix⟩,hkx,Option.bind_some,hae,Option.bind_some];simp only;rw [if_pos ⟨by omega,by omega⟩,Int.toNat_natCast]
   have hdp:l.drop (i+(pick x).1)=v1++r1:=by rw [← List.drop_drop];exact w3
   have hwin:(l.drop (i+(pick x).1)).take (pick x).2=v1:=by rw [hdp,w4];simp
   have run:∀ n R0,(if ks.drop (d+1)=[] then some 0 else sKl sq un n (ks.drop (d+1)) v1 0 0 0 true)=some R0→0≤R0→sKl sq un (n+1) ks l (d:Int) (d:Int) i true=some (((i+(pick x).1:Nat):Int)+R0):=fun n R0 h0 h1=>by
    rw [sKl_stop d0 zq98,hst];simp only [Option.bind_some,hae,hx,Int.toNat_natCast,hwin,h0];rw [if_neg (by omega)]
   have hdl:Dl r→Dl r1:=fun _=>w5
   by_cases hre:rest=[]
   ·subst hre;cases hS;refine ⟨i+(pick x).1,a1,v1,[],r1,R1,w1,w2,hdp,Bl.nil,hdl,1,fun n=>?_⟩;have:=run n 0 (by rw [if_pos hrest]) zq56;rw [this];simp
   have hvl:v1.length≤n:=by
    -- an element is shorter than its array
    have:v1.length<v.length:=by
     cases h with
     | str _ _ e=>subst e;simp at hk
     | sca h e=>subst e;simp only at hk;omega
     | obj0 _ _ e=>subst e;simp at hk
     | obj _ _ _ e=>subst e;simp at hk
     | arr0 _ _ e=>subst e;simp at hq
     | @arr _ _ B m ps _ hB hm e ep =>
      subst ep
      have hp2:∀ (n:Nat) (a:Nat) (m:List Int) (ps:List S27),m.length≤n→PE a m ps→∀ (j:Nat) (q:S27),ps[j]? = some q→∃ a2 v2,PV a2 v2 q∧v2.length≤m.length:=by
       intro n
       induction n with
       | zero =>
        intro a m ps hn h;cases h with
        | one _ _ e _=>subst e;simp at hn
        | more _ _ _ _ e _=>subst e;simp at hn
       | succ n ih =>
        intro a m ps hn h j q hq;cases h with
        | one _ hv e ep =>
         subst e ep;cases j with
         | zero=>simp at hq;subst hq;exact ⟨_,_,hv,by simp⟩
         | succ j=>simp at hq
        | more _ _ hv hm e ep =>
         subst e ep;cases j with
         | zero=>simp at hq;subst hq;exact ⟨_,_,hv,by simp⟩
         | succ j =>
          simp only [List.length_cons,List.length_append] at hn;obtain ⟨a2,v2,h1,h2⟩:=ih _ _ _ (by omega) hm j q (by simpa using hq);exact ⟨a2,v2,h1,by simp only [List.length_cons,List.length_append];omega⟩
      obtain ⟨a2,v2,h1,h2⟩:=hp2 _ _ _ _ (Nat.le_refl _) hm j q hq;have e1:=h1.at;have e2:=w1.at;have:v1.length=v2.length:=by omega
      rw [e];simp only [List.length_cons,List.length_append];omega
    omega
   have hv1N:v1.length≤N:=by
    have:=congrArg List.length hdp;simp only [List.length_drop,List.length_append] at this;omega
   have hv1r:∀ y ∈ v1,0≤y∧y≤255:=fun y hy=>hlr y (List.mem_of_mem_drop (i:=i+(pick x).1) (by rw [hdp];simp [hy]))
   obtain ⟨i2,a2,v2,C2,r2,R2,y1,y2,y3,y4,y5,k,y6⟩:=ih a1 0 0 (ks.drop (d+1)) v1 v1 R1 [] q p' hvl hv1N hv1r w1 w2 (by simp) (by rw [List.drop_zero,hrest];exact hre) (by rw [List.drop_zero,hrest];exact hS);refine ⟨i+(pick x).1+i2,a2,v2,C2,r2++r1,R2,y1,y2,?_,y4,fun _=>?_,k+1,fun n=>?_⟩
   ·have hi2:i2≤v1.length:=by
     have h1:=congrArg List.length y3;have h2:=y1.pos;simp only [List.length_drop,List.length_append] at h1;omega
    rw [← List.drop_drop,hdp,List.drop_append_of_le_length hi2,y3];simp
   ·intro c t e;cases r2 with
    | nil=>exact w5 c t e
    | cons c' r2 =>
     cases e;exact y5 Dl_nil c _ rfl
   ·have:=run (n+k) (i2:Int) (by rw [if_neg (by rw [hrest];exact hre)];exact y6 n) (by omega);rw [← Nat.add_assoc,this];simp
theorem find_all {B v B':List Int} {p p':S27} (hL:L=B++(v++B')) (hLN:L.length≤N) (hLr:∀ x ∈ L,0≤x∧x≤255) (hB:Bl B) (hB':Bl B') (h:PV B.length v p) {ks:List ByteArray} (hS:SeekP L p ks p') :
 ∃ (i1 a1:Nat) (v1 C r1 R1:List Int),PV a1 v1 p'∧L.drop a1=v1++R1∧L.drop i1=C++(v1++r1)∧Bl C∧Dl r1∧∃ k,∀ n,sK sq un (n+k) ks L=some (i1:Int):=by
 have hd:Dl B':=by
  have:=Dl_bl hB' Dl_nil
  simpa using this
 have d0:L.drop 0=B++(v++B'):=hL;have d1:=j3q d0;by_cases hk:ks=[]
 ·subst hk;cases hS;exact ⟨0,B.length,v,B,B',B',h,by rw [← d1,Nat.zero_add],d0,hB,hd,0,fun n=>by rw [sK,if_pos rfl];rfl⟩
 obtain ⟨i1,a1,v1,C,r1,R1,z1,z2,z3,z4,z5,z6⟩:=find_V N hun (sq:=sq) (L:=L) v.length B.length (0+B.length) 0 ks L v B' B' p p' (Nat.le_refl _) hLN hLr h (by rw [← d1,Nat.zero_add]) d1 (by simpa using hk) (by simpa using hS);have g:=pa_bl (sq:=sq) (un:=un) (ks:=ks) hB d0 (kl:=0) (lv:=0) (lm:=true);obtain ⟨k,hk2⟩:=g.done z6;exact ⟨i1,a1,v1,C,r1,R1,z1,z2,z3,z4,z5 hd,k,fun n=>by rw [sK,if_neg hk];exact hk2 n⟩
end
end Go.Proofs.YthmjfmpgmcgonaaDoor.J
end
