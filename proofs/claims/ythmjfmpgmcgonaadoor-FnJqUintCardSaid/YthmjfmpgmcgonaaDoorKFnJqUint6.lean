/- The words, walks and laws that the proof rests on, laid together (part 6). -/
import Derived.Test.YthmjfmpgmcgonaaDoorKFnJqUint5
section
namespace Go.Proofs.YthmjfmpgmcgonaaDoor.J
open Go.RowKit Go.Proofs.YthmjfmpgmcgonaaDoor.K Go.Proofs.YthmjfmpgmcgonaaDoorW.PrintWords Go.Proofs.YthmjfmpgmcgonaaDoorW.PrintLast
set_option linter.unusedVariables false
set_option linter.unusedSimpArgs false
set_option linter.unusedSectionVars false

def idxL : List Int→Int→Option Int
  | [],n=>some n
  | c :: r,n=>if c<48 then none else if c>57 then none else idxL r (if n<288230376151711744 then n*10+(c - 48) else 4611686018427387904)
theorem idx_l0 {s : ByteArray} (hs:s.size≤2147483647):∀ (l:List Int) (i:Nat) (n:Int),From s i l→0≤n→n≤4611686018427387904→Ev (fun k=>j2e.l0 k s n i) ((idxL l n).getD 0,(idxL l n).isSome)
 | [],i,n,h,h0,h1=>by
  have:=h.nil;refine Ev_shift ?_;simp only [j2e.l0];exact zl21
 | c :: r,i,n,h,h0,h1=>by
  have hlt:=h.lt;have hb:=h.bt;have hw:wrap64 ((i:Int)+1)=((i+1:Nat):Int):=by rw [w64 (by omega)];omega
  refine Ev_shift ?_;simp only [j2e.l0,hb];refine Ev.congr (fun _=>if_pos (by omega)) (Ev.congr (fun _=>if_pos (by omega)) ?_);rw [idxL];by_cases c1:c<48
  ·refine Ev.congr (fun _=>if_pos c1) ?_;rw [if_pos c1];refine Ev_shift ?_;simp only [j2e.j2,if_true];exact Ev.now _
  refine Ev.congr (fun _=>if_neg c1) ?_;rw [if_neg c1];by_cases c2:c>57
  ·rw [if_pos c2,decide_eq_true c2];refine Ev_shift ?_;simp only [j2e.j2,if_true];exact Ev.now _
  rw [if_neg c2,decide_eq_false c2];refine Ev_shift ?_;simp only [j2e.j2,Bool.false_eq_true,if_false];by_cases c3:n<288230376151711744
  rotate_left
  ·refine Ev.congr (fun _=>if_neg c3) ?_;rw [if_neg c3,hw];exact idx_l0 hs r (i+1) _ h.tail (by omega) (by omega)
  refine Ev.congr (fun _=>if_pos c3) ?_;rw [if_pos c3,hw,w64 (x:=n*10) (by omega),show (c - 48) % 256=c - 48 by omega,w64 (by omega)];exact idx_l0 hs r (i+1) _ h.tail (by omega) (by omega)
theorem idx_ge : ∀ (l:List Int) (n v:Int),0≤n→n≤4611686018427387904→idxL l n=some v→n≤v
 | [],n,v,_,_,h=>by cases h;exact Int.le_refl _
 | c :: r,n,v,h0,h1,h=>by
  rw [idxL] at h
  split at h
  ·cases h
  split at h
  ·cases h
  by_cases c3:n<288230376151711744
  rotate_left
  ·rw [if_neg c3] at h
   have:=idx_ge r _ v (by omega) (by omega) h;omega
  rw [if_pos c3] at h
  have:=idx_ge r _ v (by omega) (by omega) h;omega
theorem idx_dec : ∀ (u:List UInt8) (acc:Nat) (v:Int),(acc:Int)≤4611686018427387904→idxL (u.map fun b=>(b.toNat:Int)) acc=some v→v<288230376151711744→Lib.decFrom acc u=some v.toNat∧0≤v∧(1≤acc→((acc*10 ^ u.length:Nat):Int)≤v)
 | [],acc,v,_,h,_=>by
  cases h;exact ⟨by simp [Lib.decFrom],by omega,fun _=>by simp⟩
 | c :: r,acc,v,ha,h,hv=>by
  rw [List.map_cons,idxL] at h
  split at h
  ·cases h
  rename_i c1;split at h
  ·cases h
  rename_i c2;by_cases c3:(acc:Int)<288230376151711744
  rotate_left
  ·rw [if_neg c3] at h
   have:=idx_ge _ _ _ (by omega) (by omega) h;omega
  rw [if_pos c3] at h
  have e:(acc:Int)*10+((c.toNat:Int) - 48)=((acc*10+(c.toNat - 48):Nat):Int):=by omega
  rw [e] at h
  obtain ⟨h1,h2,h3⟩:=idx_dec r _ v (by omega) h hv;refine ⟨?_,h2,fun h4=>?_⟩
  ·rw [Lib.decFrom,Lib.digitVal,if_pos ⟨by omega,by omega⟩];exact h1
  ·have h5:=h3 (by omega)
   have h6:acc*10 ^ (c :: r).length≤(acc*10+(c.toNat - 48))*10 ^ r.length:=by
    rw [List.length_cons,Nat.pow_succ,Nat.mul_comm (10 ^ r.length) 10,← Nat.mul_assoc];exact Nat.mul_le_mul_right _ (by omega)
   omega
theorem bytesOf_map (s : ByteArray):bytesOf s=s.data.toList.map fun b=>(b.toNat:Int):=rfl
theorem index_eq {s : ByteArray} (hs:s.size≤2147483647):∃ v b,Ev (fun k=>j2e.f k s) (v,b)∧(b=true→v<2147483648→0≤v∧s.size≤18∧Lib.atoi s.data.toList=some v):=by
 have h0:=From.start s;have el:s.data.toList.length=s.size:=rfl;unfold j2e.f;by_cases c1:s.toList=([]:List UInt8)
 ·refine ⟨0,false,Ev.congr (fun _=>if_pos c1) (Ev_shift ?_),fun h=>by cases h⟩;simp only [j2e.j0,if_true];exact Ev.now _
 have hne:s.data.toList≠[]:=fun e=>c1 (by rw [ByteArray.toList_eq];exact e)
 have hl:=idx_l0 hs _ 0 0 h0 (by omega) (by omega)
 have go:Ev (fun k=>j2e.j0 k s false) ((idxL (bytesOf s) 0).getD 0,(idxL (bytesOf s) 0).isSome):=by
  refine Ev_shift ?_;simp only [j2e.j0,Bool.false_eq_true,if_false];exact hl
 have told:∀ (v:Int),idxL (bytesOf s) 0=some v→v<2147483648→(1<s.size→bt s 0≠48)→0≤v∧s.size≤18∧Lib.atoi s.data.toList=some v:=fun v hv hlt hz=>by
  rw [bytesOf_map] at hv;obtain ⟨d1,d2,_⟩:=idx_dec s.data.toList 0 v (by omega) hv (by omega);refine ⟨d2,?_,?_⟩
  ·cases e:s.data.toList with
   | nil=>exact absurd e hne
   | cons c r =>
    by_cases h1:1<s.size
    rotate_left
    ·omega
    have hc:=hz h1
    have hbt:bt s 0=(c.toNat:Int):=by
     have:From s 0 ((c.toNat:Int) :: r.map fun b=>(b.toNat:Int)):=⟨Nat.zero_le _,by rw [bytesOf_map,e];rfl⟩;exact this.bt
    rw [e,List.map_cons,idxL] at hv;split at hv
    ·cases hv
    rename_i c2;split at hv
    ·cases hv
    rename_i c3;rw [if_pos (by omega)] at hv;have e2:(0:Int)*10+((c.toNat:Int) - 48)=((c.toNat - 48:Nat):Int):=by omega
    rw [e2] at hv;obtain ⟨_,_,h5⟩:=idx_dec r _ v (by omega) hv (by omega);have h6:=h5 (by omega);have h7:s.size=r.length+1:=by rw [← el,e];rfl
    have h8:r.length≤17:=by
     refine Nat.le_of_not_lt fun h9=>?_
     have h10:10 ^ 18≤10 ^ r.length:=Nat.pow_le_pow_right zq56 h9;have h11:1*10 ^ r.length≤(c.toNat - 48)*10 ^ r.length:=Nat.mul_le_mul_right _ (by omega);omega
    omega
  ·cases e:s.data.toList with
   | nil=>exact absurd e hne
   | cons c r =>
    rw [e] at d1 hv;rw [List.map_cons,idxL] at hv;split at hv
    ·cases hv
    rename_i c2;split at hv
    ·cases hv
    rename_i c3;have n45:¬ (c == 45)=true:=fun h=>by have:=beq_iff_eq.mp h;subst this;exact c2 zq56
    have n43:¬ (c == 43)=true:=fun h=>by have:=beq_iff_eq.mp h;subst this;exact c2 zq56
    rw [Lib.atoi,if_neg n45,if_neg n43,Lib.decNat,if_neg (by simp),d1];simp only [Option.map_some,Option.some.injEq];omega
 by_cases c2:(s.size:Int)>1
 rotate_left
 ·refine ⟨_,_,Ev.congr (fun _=>if_neg c1) (Ev.congr (fun _=>if_neg c2) go),fun h1 h2=>?_⟩;cases e:idxL (bytesOf s) 0 with
  | none=>rw [e] at h1;cases h1
  | some v=>rw [e] at h2;exact told v e h2 (fun h=>by omega)
 by_cases c3:bt s 0=48
 ·refine ⟨0,false,Ev.congr (fun _=>if_neg c1) (Ev.congr (fun _=>if_pos c2) (Ev.congr (fun _=>if_pos (by omega)) ?_)),fun h=>by cases h⟩;rw [beq_iff_eq.mpr c3];refine Ev_shift ?_;simp only [j2e.j0,if_true];exact Ev.now _
 refine ⟨(idxL (bytesOf s) 0).getD 0,(idxL (bytesOf s) 0).isSome,Ev.congr (fun _=>if_neg c1) (Ev.congr (fun _=>if_pos c2) (Ev.congr (fun _=>if_pos (by omega)) ?_)),fun h1 h2=>?_⟩
 ·rw [beq_eq_false_iff_ne.mpr c3];exact go
 ·cases e:idxL (bytesOf s) 0 with
  | none=>rw [e] at h1;cases h1
  | some v=>rw [e] at h2;exact told v e h2 (fun _=>c3)
theorem bt_getD {s : ByteArray} {i:Nat} (h:i<s.size):bt s (i:Int)=(bytesOf s).getD i 0:=by
 have h1:i<(bytesOf s).length:=by rw [bytesOf_length];exact h
 have hF:From s i ((bytesOf s).getD i 0 :: (bytesOf s).drop (i+1)):=⟨by omega,at_int h1⟩;exact hF.bt
theorem bracket_eq {s : ByteArray} (hs:s.size≤2147483647):∃ v b,Ev (fun k=>j3p.f k s) (v,b)∧(b=true→v<2147483648→0≤v∧isIx s=true∧kIdx s=some v):=by
 unfold j3p.f;by_cases c1:(s.size:Int)<3
 ·exact ⟨0,false,Ev.congr (fun _=>if_pos c1) (Ev.now _),fun h=>by cases h⟩
 have hw:wrap64 ((s.size:Int) - 1)=((s.size - 1:Nat):Int):=by rw [w64 (by omega)];omega
 rw [hw];by_cases c2:bt s 0=91
 rotate_left
 ·exact ⟨0,false,Ev.congr (fun _=>if_neg c1) (Ev.congr (fun _=>if_pos (by omega)) (Ev.congr (fun _=>if_neg c2) (Ev.now _))),fun h=>by cases h⟩
 by_cases c3:bt s ((s.size - 1:Nat):Int)=93
 rotate_left
 ·exact ⟨0,false,Ev.congr (fun _=>if_neg c1) (Ev.congr (fun _=>if_pos (by omega)) (Ev.congr (fun _=>if_pos c2) (Ev.congr (fun _=>if_pos (by omega)) (Ev.congr (fun _=>if_pos (by omega)) (Ev.congr (fun _=>if_neg c3) (Ev.now _)))))),fun h=>by cases h⟩
 obtain ⟨v,b,h1,h2⟩:=index_eq (s:=s.extract 1 (s.size - 1)) (by rw [ByteArray.size_extract];omega);refine ⟨v,b,Ev.congr (fun _=>if_neg c1) (Ev.congr (fun _=>if_pos (by omega)) (Ev.congr (fun _=>if_pos c2) (Ev.congr (fun _=>if_pos (by omega)) (Ev.congr (fun _=>if_pos (by omega)) (Ev.congr (fun _=>if_pos c3) (Ev.congr (fun _=>if_pos (by omega)) (Ev.congr (fun _=>if_pos (by omega)) ?_))))))),fun hb hv=>?_⟩
 ·rw [Int.toNat_natCast];exact Ev.bind h1 (Ev.now _)
 ·obtain ⟨g1,g2,g3⟩:=h2 hb hv;rw [ByteArray.size_extract] at g2;have e0:=bt_getD (s:=s) (i:=0) (by omega);have e1:=bt_getD (s:=s) (i:=s.size - 1) (by omega);refine ⟨g1,?_,?_⟩
  ·exact decide_eq_true ⟨by omega,by rw [← e0];exact c2⟩
  ·rw [kIdx,if_pos ⟨by omega,by omega,by rw [← e1];exact c3⟩];exact g3
def OKP (s : ByteArray) (p:S27):Prop:=∃ (a:Nat) (v R:List Int),PV a v p∧(bytesOf s).drop a=v++R
def NQ (s : ByteArray) (q:S49):Prop:=∃ (a:Nat) (b x:List Int),Body b∧(bytesOf s).drop a=34 :: (b++34 :: x)∧q=⟨(a:Int),((a+b.length+2:Nat):Int)⟩
theorem PM.kids {s : ByteArray}:∀ (n:Nat) (a:Nat) (m R:List Int) (ns:List S49) (ps:List S27),m.length≤n→PM a m ns ps→(bytesOf s).drop a=m++R→(∀ q ∈ ns,NQ s q)∧(∀ q ∈ ps,OKP s q)∧ns.length=ps.length∧ps.length≤m.length:=by
 intro n
 induction n with
 | zero =>
  intro a m R ns ps hn h;cases h<;>(subst_vars;simp at hn)
 | succ n ih =>
  intro a m R ns ps hn h hL
  have sub:∀ (b B1 B2 v x:List Int),(bytesOf s).drop a=34 :: (b++34 :: (B1++58 :: (B2++(v++x))))→(bytesOf s).drop (a+b.length+2+B1.length+1+B2.length)=v++x:=fun b B1 B2 v x h=>by
   have:=j3q (x:=34 :: (b++34 :: (B1++58 :: B2))) (y:=v++x) (by rw [h];simp);rw [← this]
   congr 1
   simp only [List.length_cons,List.length_append];omega
  cases h with
  | @one _ _ b B1 B2 v B3 p _ _ hb h1 h2 h3 hv e en ep =>
   subst e en ep;refine ⟨fun q hq=>?_,fun q hq=>?_,rfl,by simp⟩
   ·rw [List.mem_singleton.mp hq];exact ⟨a,b,B1++58 :: (B2++(v++(B3++[125])))++R,hb,by rw [hL];simp,rfl⟩
   ·rw [List.mem_singleton.mp hq];exact ⟨_,v,(B3++[125])++R,hv,sub b B1 B2 v _ (by rw [hL];simp)⟩
  | @more _ _ b B1 B2 v B3 B4 m' p _ ns' _ ps' hb h1 h2 h3 h4 hv hm e en ep =>
   subst e en ep;simp only [List.length_cons,List.length_append] at hn;have hx:=sub b B1 B2 v ((B3++44 :: (B4++m'))++R) (by rw [hL];simp)
   have hd:(bytesOf s).drop (a+b.length+2+B1.length+1+B2.length+v.length+B3.length+1+B4.length)=m'++R:=by
    have:=j3q (x:=v++(B3++44 :: B4)) (y:=m'++R) (by rw [hx];simp);rw [← this]
    congr 1
    simp only [List.length_cons,List.length_append];omega
   obtain ⟨k1,k2,k3,k4⟩:=ih _ _ _ _ _ (by omega) hm hd;refine ⟨fun q hq=>?_,fun q hq=>?_,by simp [k3],by simp only [List.length_cons,List.length_append];omega⟩
   ·rcases List.mem_cons.mp hq with rfl|hq
    ·exact ⟨a,b,B1++58 :: (B2++(v++(B3++44 :: (B4++m'))))++R,hb,by rw [hL];simp,rfl⟩
    ·exact k1 q hq
   ·rcases List.mem_cons.mp hq with rfl|hq
    ·exact ⟨_,v,_,hv,hx⟩
    ·exact k2 q hq
theorem PE.kids {s : ByteArray}:∀ (n:Nat) (a:Nat) (m R:List Int) (ps:List S27),m.length≤n→PE a m ps→(bytesOf s).drop a=m++R→(∀ q ∈ ps,OKP s q)∧ps.length≤m.length:=by
 intro n
 induction n with
 | zero =>
  intro a m R ps hn h;cases h with
  | one _ _ e _=>subst e;simp at hn
  | more _ _ _ _ e _=>subst e;simp at hn
 | succ n ih =>
  intro a m R ps hn h hL;cases h with
  | @one _ _ v B p _ hB hv e ep =>
   subst e ep;exact ⟨fun q hq=>by rw [List.mem_singleton.mp hq];exact ⟨_,v,(B++[93])++R,hv,by rw [hL];simp⟩,by simp;omega⟩
  | @more _ _ v B B' m' p _ ps' hB hB' hv hm e ep =>
   subst e ep;simp only [List.length_cons,List.length_append] at hn
   have hd:(bytesOf s).drop (a+v.length+B.length+1+B'.length)=m'++R:=by
    have:=j3q (x:=v++(B++44 :: B')) (y:=m'++R) (by rw [hL];simp);rw [← this]
    congr 1
    simp only [List.length_cons,List.length_append];omega
   have hvp:=hv.pos;obtain ⟨k1,k2⟩:=ih _ _ _ _ (by omega) hm hd;refine ⟨fun q hq=>?_,by simp only [List.length_cons,List.length_append];omega⟩;rcases List.mem_cons.mp hq with rfl|hq
   ·exact ⟨_,v,(B++44 :: (B'++m'))++R,hv,by rw [hL];simp⟩
   ·exact k1 q hq
theorem OKP.kids {s : ByteArray} {p:S27} (h:OKP s p):(∀ q ∈ p.f3,NQ s q)∧(∀ q ∈ p.f4,OKP s q)∧(p.f0=6→p.f3.length=p.f4.length)∧p.f3.length≤s.size∧p.f4.length≤s.size:=by
 obtain ⟨a,v,R,h,hL⟩:=h;have hl:=congrArg List.length hL;simp only [List.length_drop,List.length_append,bytesOf_length] at hl;have nil:(∀ q ∈ ([]:List S49),NQ s q)∧(∀ q ∈ ([]:List S27),OKP s q):=⟨fun _ h=>by simp at h,fun _ h=>by simp at h⟩
 have sub:∀ (c:Int) (B m:List Int),v=c :: (B++m)→(bytesOf s).drop (a+1+B.length)=m++R:=fun c B m e=>by
  have:=j3q (x:=c :: B) (y:=m++R) (by rw [hL,e];simp);rw [← this]
  congr 1
  simp only [List.length_cons];omega
 cases h with
 | str _ _ e=>subst e;exact ⟨nil.1,nil.2,fun _=>rfl,Nat.zero_le _,Nat.zero_le _⟩
 | sca _ e=>subst e;exact ⟨nil.1,nil.2,fun _=>rfl,Nat.zero_le _,Nat.zero_le _⟩
 | obj0 _ _ e=>subst e;exact ⟨nil.1,nil.2,fun _=>rfl,Nat.zero_le _,Nat.zero_le _⟩
 | arr0 _ _ e=>subst e;exact ⟨nil.1,nil.2,fun _=>rfl,Nat.zero_le _,Nat.zero_le _⟩
 | @obj _ _ B m ns ps _ hB hm e ep =>
  subst ep;obtain ⟨k1,k2,k3,k4⟩:=PM.kids _ _ _ _ _ _ (Nat.le_refl _) hm (sub 123 B m e);have:=congrArg List.length e;simp only [List.length_cons,List.length_append] at this;exact ⟨k1,k2,fun _=>k3,by simp only;omega,by simp only;omega⟩
 | @arr _ _ B m ps _ hB hm e ep =>
  subst ep;obtain ⟨k2,k4⟩:=PE.kids _ _ _ _ _ (Nat.le_refl _) hm (sub 91 B m e);have:=congrArg List.length e;simp only [List.length_cons,List.length_append] at this;exact ⟨nil.1,k2,fun h=>(by simp at h),Nat.zero_le _,by simp only;omega⟩
theorem NQ.unq {s : ByteArray} (hs:s.size≤2147483647) {q:S49} (h:NQ s q):0≤q.f0∧q.f0≤q.f1∧q.f1≤(s.size:Int)∧Ev (fun k=>j1z.f k (s.extract q.f0.toNat q.f1.toNat)) (strOfNums (nmB (bytesOf s) q)):=by
 obtain ⟨a,b,x,hb,hL,rfl⟩:=h;have hl:=congrArg List.length hL;simp only [List.length_drop,List.length_append,List.length_cons,bytesOf_length] at hl;refine ⟨by simp only;omega,by simp only;omega,by simp only;omega,?_⟩;rw [nmB_eq (x:=34 :: x) (by rw [hL])];simp only [Int.toNat_natCast];have hF:From s a ((34 :: (b++[34]))++x):=⟨by omega,by rw [hL];simp⟩;have hx:=hF.extract;rw [show a+(34 :: (b++[34])).length=a+b.length+2 by simp only [List.length_cons,List.length_append,List.length_nil];omega] at hx;exact unquote_eq (by rw [ByteArray.size_extract];omega) hx hb
theorem rd_ns {ns : List S49} {i:Nat} (h:i<ns.length):ns[i]? = some (j3g ns (i:Int)):=by
 unfold j3g;rw [Int.toNat_natCast,List.getD_eq_getElem?_getD,List.getElem?_eq_getElem h];rfl
theorem rd_ps {ps : List S27} {i:Nat} (h:i<ps.length):ps[i]? = some (j2s ps (i:Int)):=by
 unfold j2s;rw [Int.toNat_natCast,List.getD_eq_getElem?_getD,List.getElem?_eq_getElem h];rfl
section
variable {s : ByteArray} (hs:s.size≤2147483647)
include hs
theorem named_l0 {key : ByteArray} {ns:List S49} {ps:List S27} {p0 p1 p2:Int} (hn:∀ q ∈ ns,NQ s q) (hl:ns.length≤s.size):∀ (n i:Nat),ns.length - i≤n→(∀ j,j<i→∀ x,ns[j]? = some x→strOfNums (nmB (bytesOf s) x)≠key) →
 ∃ r:Int,Ev (fun k=>j2o.l0 k s key i p0 p1 p2 ns ps) r∧(r = -1∨∃ j:Nat,r=(j:Int)∧j<ns.length∧(∀ i,i<j→∀ x,ns[i]? = some x→strOfNums (nmB (bytesOf s) x)≠key)∧∃ x,ns[j]? = some x∧strOfNums (nmB (bytesOf s) x)=key):=by
 intro n
 induction n with
 | zero =>
  intro i hi _;refine ⟨-1,Ev_shift ?_, .inl rfl⟩;simp only [j2o.l0];exact zl21
 | succ n ih =>
  intro i hi hno;by_cases hlt:i<ns.length
  rotate_left
  ·refine ⟨-1,Ev_shift ?_, .inl rfl⟩;simp only [j2o.l0];exact zl21
  have hq:=rd_ns hlt;have hmem:j3g ns (i:Int) ∈ ns:=List.mem_of_getElem? hq;obtain ⟨u1,u2,u3,u4⟩:=(hn _ hmem).unq hs;have hw:wrap64 ((i:Int)+1)=((i+1:Nat):Int):=by rw [w64 (by omega)];omega
  have st:∀ {r},Ev (fun k=>if (strOfNums (nmB (bytesOf s) (j3g ns (i:Int)))).toList=key.toList then some (i:Int) else j2o.l0 k s key (wrap64 ((i:Int)+1)) p0 p1 p2 ns ps) r→Ev (fun k=>j2o.l0 k s key i p0 p1 p2 ns ps) r:=fun {r} hr=>by
   refine Ev_shift ?_;simp only [j2o.l0];exact zl20
  by_cases he:strOfNums (nmB (bytesOf s) (j3g ns (i:Int)))=key
  ·exact ⟨(i:Int),st (Ev.congr (fun _=>if_pos (by rw [he])) (Ev.now _)), .inr ⟨i,rfl,hlt,hno,_,hq,he⟩⟩
  obtain ⟨r,h1,h2⟩:=ih (i+1) (by omega) (fun j hj x hx=>by
   by_cases hji:j<i
   ·exact hno j hji x hx
   obtain rfl:j=i:=by omega
   rw [hq] at hx;cases hx;exact he)
  refine ⟨r,st (Ev.congr (fun _=>if_neg (fun e=>he (toList_inj e))) ?_),h2⟩;rw [hw];exact h1
def Stp (s : ByteArray) (p:S27) (key:ByteArray) (q:S27):Prop :=
  (p.f0=6∧∃ j:Nat,(∀ i,i<j→∀ x,p.f3[i]? = some x→strOfNums (nmB (bytesOf s) x)≠key)∧(∃ x,p.f3[j]? = some x∧strOfNums (nmB (bytesOf s) x)=key)∧p.f4[j]? = some q) ∨
  (p.f0=5∧isIx key=true∧∃ j:Nat,kIdx key=some (j:Int)∧p.f4[j]? = some q)
omit hs in
theorem Stp.seek {p q p':S27} {key:ByteArray} {ks:List ByteArray} (h:Stp s p key q) (k:SeekP (bytesOf s) q ks p'):SeekP (bytesOf s) p (key :: ks) p':=by
 rcases h with ⟨h0,j,h1,h2,h3⟩|⟨h0,h1,j,h2,h3⟩
 ·exact .obj h0 h1 h2 h3 k
 ·exact .arr h0 h1 h2 h3 k
theorem step_eq {p : S27} (hp:OKP s p) {key:ByteArray} (hk:key.size≤2147483647):∃ (q:S27) (ok:Bool),Ev (fun k=>j2v.f k s p.f0 p.f1 p.f2 p.f3 p.f4 key) (q.f0,q.f1,q.f2,q.f3,q.f4,ok)∧(ok=true→OKP s q∧Stp s p key q):=by
 obtain ⟨k1,k2,k3,k4,k5⟩:=hp.kids;unfold j2v.f;have zero:∀ {g:Nat→Option _},Ev g (0,0,0,([]:List S49),([]:List S27),false)→∃ (q:S27) (ok:Bool),Ev g (q.f0,q.f1,q.f2,q.f3,q.f4,ok)∧(ok=true→OKP s q∧Stp s p key q):=fun h=>⟨⟨0,0,0,[],[]⟩,false,h,fun h=>by cases h⟩
 by_cases c6:p.f0=6
 ·obtain ⟨r,h1,h2⟩:=named_l0 hs (key:=key) (ps:=p.f4) (p0:=p.f0) (p1:=p.f1) (p2:=p.f2) k1 k4 _ 0 (Nat.le_refl _) (fun j hj=>by omega);have h1':Ev (fun k=>j2o.f k s p.f0 p.f1 p.f2 p.f3 p.f4 key) r:=h1;rcases h2 with rfl|⟨j,rfl,hj,h4,h5⟩
  ·exact zero (Ev.congr (fun _=>if_pos c6) (Ev.bind h1' (Ev.congr (fun _=>if_pos zq56) (Ev.now _))))
  ·have hjp:j<p.f4.length:=by rw [← k3 c6];exact hj
   have hq:=rd_ps hjp;refine ⟨j2s p.f4 (j:Int),true,Ev.congr (fun _=>if_pos c6) (Ev.bind h1' (Ev.congr (fun _=>if_neg (by omega)) (Ev.congr (fun _=>if_pos (by omega)) (Ev.congr (fun _=>if_pos (by omega)) (Ev.now _))))),fun _=>⟨k2 _ (List.mem_of_getElem? hq), .inl ⟨c6,j,h4,h5,hq⟩⟩⟩
 by_cases c5:p.f0=5
 rotate_left
 ·exact zero (Ev.congr (fun _=>if_neg c6) (Ev.congr (fun _=>if_neg c5) (Ev.congr (fun _=>if_pos zq56) (Ev.now _))))
 obtain ⟨v,b,h1,h2⟩:=bracket_eq hk
 have j0:∀ (x:Bool) {R},Ev (fun _=>if x=true then (if v<0 then (some (0,0,0,([]:List S49),([]:List S27),false)) else (if 0≤v then (if v<(p.f4.length:Int) then (some ((j2s p.f4 v).f0,(j2s p.f4 v).f1,(j2s p.f4 v).f2,(j2s p.f4 v).f3,(j2s p.f4 v).f4,true)) else (none)) else (none))) else some (0,0,0,([]:List S49),([]:List S27),false)) R →
  Ev (fun k=>j2v.j0 k (-1) v x p.f0 p.f1 p.f2 p.f3 p.f4) R:=fun x {R} h=>by
  refine Ev_shift ?_;simp only [j2v.j0];refine Ev.congr (fun _=>?_) h;cases x<;>simp
 cases b with
 | false=>exact zero (Ev.congr (fun _=>if_neg c6) (Ev.congr (fun _=>if_pos c5) (Ev.bind h1 (Ev.congr (fun _=>if_neg (by simp)) (j0 false (Ev.congr (fun _=>if_neg (by simp)) (Ev.now _)))))))
 | true =>
  by_cases hv:v<(p.f4.length:Int)
  rotate_left
  ·refine zero (Ev.congr (fun _=>if_neg c6) (Ev.congr (fun _=>if_pos c5) (Ev.bind h1 (Ev.congr (fun _=>if_pos rfl) ?_))));rw [decide_eq_false hv];exact j0 false (Ev.congr (fun _=>if_neg (by simp)) (Ev.now _))
  obtain ⟨g1,g2,g3⟩:=h2 rfl (by omega);obtain ⟨j,rfl⟩:∃ j:Nat,v=(j:Int):=⟨v.toNat,by omega⟩;have hq:=rd_ps (ps:=p.f4) (i:=j) (by omega);refine ⟨j2s p.f4 (j:Int),true,Ev.congr (fun _=>if_neg c6) (Ev.congr (fun _=>if_pos c5) (Ev.bind h1 (Ev.congr (fun _=>if_pos rfl) ?_))),fun _=>⟨k2 _ (List.mem_of_getElem? hq), .inr ⟨c5,g2,j,g3,hq⟩⟩⟩;rw [decide_eq_true hv];exact j0 true (Ev.congr (fun _=>if_pos rfl) (Ev.congr (fun _=>if_neg (by omega)) (Ev.congr (fun _=>if_pos (by omega)) (Ev.congr (fun _=>if_pos hv) (Ev.now _)))))
end
end Go.Proofs.YthmjfmpgmcgonaaDoor.J
end
section
namespace Go.Proofs.YthmjfmpgmcgonaaDoor.J
open Go.RowKit Go.Proofs.YthmjfmpgmcgonaaDoor.K Go.Proofs.YthmjfmpgmcgonaaDoorW.PrintWords Go.Proofs.YthmjfmpgmcgonaaDoorW.PrintLast
set_option linter.unusedVariables false
set_option linter.unusedSimpArgs false
theorem h2I_eq {c : Int} (h:0≤c∧c≤255) (k:Nat):j1t.f (k+4) c=some ((hexv c).getD (-1)):=by
 unfold j1t.f hexv;by_cases h1:48≤c∧c≤57
 ·rw [if_pos (by omega),decide_eq_true h1.2,j1t.j0,if_pos rfl,if_pos h1]
  congr 1
  show _=c - 48
  omega
 have e:(if c≥48 then j1t.j0 (k+4) c (decide (c≤57)) else j1t.j0 (k+4) c false)=j1t.j0 (k+4) c false:=by
  by_cases h48:c≥48
  rotate_left
  ·rw [if_neg h48]
  rw [if_pos h48,decide_eq_false (by omega)]
 rw [e,if_neg h1,j1t.j0,if_neg zq56];by_cases h2:65≤c∧c≤70
 ·rw [if_pos (by omega),decide_eq_true h2.2,j1t.j1,if_pos rfl,if_neg (by omega),if_pos h2]
  congr 1
  show _=c - 55
  omega
 have e2:(if c≥65 then j1t.j1 (k+3) c (decide (c≤70)) else j1t.j1 (k+3) c false)=j1t.j1 (k+3) c false:=by
  by_cases h65:c≥65
  rotate_left
  ·rw [if_neg h65]
  rw [if_pos h65,decide_eq_false (by omega)]
 rw [e2,j1t.j1,if_neg zq56];by_cases h3:97≤c∧c≤102
 ·rw [if_pos (by omega),if_pos (by omega),if_pos h3]
  congr 1
  show _=c - 87
  omega
 rw [if_neg h3,if_neg h2];by_cases h97:c≥97
 rotate_left
 ·rw [if_neg h97];rfl
 rw [if_pos h97,if_neg (by omega)];rfl
def dS (l : List Int):Int × Bool:=if (l.length:Int)<6 then (65533,false) else match hex4 (l.drop 2) with
  | some v=>(v,true)
  | none=>(65533,false)
theorem single_eq {l : List Int} (hr:∀ x ∈ l,0≤x∧x≤255) (k:Nat):j1w.f (k+4) l=some (dS l):=by
 unfold j1w.f dS;by_cases h6:(l.length:Int)<6
 ·rw [if_pos h6,if_pos h6]
 rw [if_neg h6,if_neg h6]
 match l,h6,hr with
 | [],h6,_=>exact absurd h6 (by simp)
 | [_],h6,_=>exact absurd h6 (by simp)
 | [_,_],h6,_=>exact absurd h6 (by simp)
 | [_,_,_],h6,_=>exact absurd h6 (by simp)
 | [_,_,_,_],h6,_=>exact absurd h6 (by simp)
 | [_,_,_,_,_],h6,_=>exact absurd h6 (by simp)
 | p :: q :: a :: b :: c :: d :: r,h6,hr =>
  have ha:=hr a (by simp);have hb:=hr b (by simp);have hc:=hr c (by simp);have hd:=hr d (by simp);have e2:rd (p :: q :: a :: b :: c :: d :: r) 2=a:=rfl;have e3:rd (p :: q :: a :: b :: c :: d :: r) 3=b:=rfl;have e4:rd (p :: q :: a :: b :: c :: d :: r) 4=c:=rfl;have e5:rd (p :: q :: a :: b :: c :: d :: r) 5=d:=rfl;rw [if_pos (by omega),e2,h2I_eq ha,Option.bind_some,if_pos (by omega),e3,h2I_eq hb,Option.bind_some,if_pos (by omega),e4,h2I_eq hc,Option.bind_some,if_pos (by omega),e5,h2I_eq hd,Option.bind_some];simp only [List.drop_succ_cons,List.drop_zero,hex4];cases qa:hexv a with
  | none=>simp
  | some va =>
   cases qb:hexv b with
   | none=>have:=j3k qa;simp [show va ≠ -1 by omega]
   | some vb =>
    cases qc:hexv c with
    | none=>have:=j3k qa;have:=j3k qb;simp [show va ≠ -1 by omega,show vb ≠ -1 by omega]
    | some vc =>
     cases qd:hexv d with
     | none=>have:=j3k qa;have:=j3k qb;have:=j3k qc;simp [show va ≠ -1 by omega,show vb ≠ -1 by omega,show vc ≠ -1 by omega]
     | some vd =>
      have r1:=j3k qa;have r2:=j3k qb;have r3:=j3k qc;have r4:=j3k qd;simp only [Option.getD_some,Option.bind_some];rw [if_neg (by omega),if_neg (by omega),if_neg (by omega),if_neg (by omega)];have w1:wrap64 (va*4096)=va*4096:=w64 (by omega);have w2:wrap64 (vb*256)=vb*256:=w64 (by omega);have w3:wrap64 (vc*16)=vc*16:=w64 (by omega);rw [w1,w2,w3,w64 (x:=va*4096+vb*256) (by omega),w64 (x:=va*4096+vb*256+vc*16) (by omega),w64 (x:=va*4096+vb*256+vc*16+vd) (by omega)];have w4:wrap32 (va*4096+vb*256+vc*16+vd)=va*4096+vb*256+vc*16+vd:=by unfold wrap32;omega
      rw [w4]
      congr 2
      omega
def dU (l : List Int):Int × Int :=
  if (dS l).2=true then
    (if 55296≤(dS l).1∧(dS l).1≤57343 then
      (if (dS l).1≥56320 then (65533,6)
       else if (l.length:Int)<8∨rd l 6≠92∨rd l 7≠117 then (65533,6)
       else if (dS (l.drop 6)).2=true then
         (if (dS (l.drop 6)).1<56320∨57343<(dS (l.drop 6)).1 then (65533,6) else (65536+((dS l).1 - 55296)*1024+((dS (l.drop 6)).1 - 56320),12))
       else (65533,-1))
     else ((dS l).1,6))
  else (65533,-1)
theorem dS_len {l : List Int} (h:(dS l).2=true):6≤l.length∧0≤(dS l).1∧(dS l).1≤65535:=by
 unfold dS at h ⊢
 split at h
 ·cases h
 ·rename_i h6;rw [if_neg h6];split at h
  ·rename_i v hv;have:=hex4_range hv;simp only;omega
  ·cases h
theorem decode_eq {l : List Int} (hr:∀ x ∈ l,0≤x∧x≤255) (k:Nat):j1q.f (k+5) l=some (dU l):=by
 have hS:=single_eq hr (k+1);have hS2:=single_eq (l:=l.drop 6) (fun x hx=>hr x (List.mem_of_mem_drop hx)) k;have j0t:j1q.j0 (k+5) l (dS l).1 true=some (65533,6):=by rw [j1q.j0,if_pos rfl]
 unfold j1q.f dU;rw [hS,Option.bind_some];cases hs:(dS l).2 with
 | false=>rfl
 | true =>
  obtain ⟨h6,g0,g1⟩:=dS_len hs;simp only [if_true,j2x.f]
  have e1:(if 55296≤(dS l).1 then some (decide ((dS l).1≤57343)) else some false)=some (decide (55296≤(dS l).1∧(dS l).1≤57343)):=by
   split<;>simp<;>omega
  rw [e1,Option.bind_some];by_cases hsu:55296≤(dS l).1∧(dS l).1≤57343
  rotate_left
  ·rw [decide_eq_false hsu,if_neg zq56,if_neg hsu]
  rw [decide_eq_true hsu,if_pos rfl,if_pos hsu];by_cases hlo:(dS l).1≥56320
  ·rw [if_pos hlo,if_pos hlo]
  rw [if_neg hlo,if_neg hlo];by_cases h8:(l.length:Int)<8
  ·rw [if_pos h8,j0t,if_pos (.inl h8)]
  rw [if_neg h8,if_pos (by omega)];by_cases h92:rd l 6=92
  rotate_left
  ·rw [if_neg h92,j0t,if_pos (.inr (.inl h92))]
  rw [if_pos h92,if_pos (by omega)];by_cases h117:rd l 7=117
  rotate_left
  ·have e2:(rd l 7 != 117)=true:=by simp [h117]
   rw [e2,j0t,if_pos (.inr (.inr h117))]
  have e2:(rd l 7 != 117)=false:=by simp [h117]
  have hno:¬ ((l.length:Int)<8∨rd l 6≠92∨rd l 7≠117):=by rintro (h|h|h)<;>omega
  rw [e2,j1q.j0,if_neg zq56,if_pos (by omega),hS2,Option.bind_some,if_neg hno];cases hs2:(dS (l.drop 6)).2 with
  | false=>rfl
  | true =>
   obtain ⟨_,q0,q1⟩:=dS_len hs2;simp only [if_true];by_cases ha:(dS (l.drop 6)).1<56320
   ·rw [if_pos ha,if_pos (.inl ha)]
   rw [if_neg ha];by_cases hb:(dS (l.drop 6)).1>57343
   ·rw [if_pos hb,if_pos (.inr hb)]
   rw [if_neg hb,if_neg (by omega)];simp only [j3e.f,Option.bind_some]
   congr 2
   unfold wrap32;omega
theorem stp_eq {l : List Int} (hr:∀ x ∈ l,0≤x∧x≤255) (k:Nat):stp (k+5) l=some (if (l.length:Int)<2 then (-1,[]) else if rd l 0=92 then (if isE (rd l 1)=true then (2,[unl (rd l 1)]) else if rd l 1=117 then (if (dU l).2 = -1 then (-1,[]) else ((dU l).2,eB (dU l).1)) else (-1,[])) else (-1,[])):=by
 unfold stp;by_cases h2:(l.length:Int)<2
 ·rw [if_pos h2,if_pos h2]
 rw [if_neg h2,if_neg h2];by_cases h92:rd l 0=92
 rotate_left
 ·rw [if_neg h92,if_neg h92]
 rw [if_pos h92,if_pos h92];by_cases hE:isE (rd l 1)=true
 ·rw [if_pos hE,if_pos hE]
 rw [if_neg hE,if_neg hE];by_cases hu:rd l 1=117
 rotate_left
 ·rw [if_neg hu,if_neg hu]
 rw [if_pos hu,if_pos hu,decode_eq hr,Option.bind_some];by_cases hm:(dU l).2 = -1
 ·rw [if_pos hm,if_pos hm]
 rw [if_neg hm,if_neg hm,if_pos];unfold dU at hm ⊢;by_cases hs:(dS l).2=true
 rotate_left
 ·rw [if_neg hs] at hm;exact absurd rfl hm
 obtain ⟨h6,g0,g1⟩:=dS_len hs;rw [if_pos hs] at hm ⊢;by_cases hsu:55296≤(dS l).1∧(dS l).1≤57343
 rotate_left
 ·rw [if_neg hsu];simp only;omega
 rw [if_pos hsu] at hm ⊢;by_cases hlo:(dS l).1≥56320
 ·rw [if_pos hlo];simp only;omega
 rw [if_neg hlo] at hm ⊢;by_cases h8:(l.length:Int)<8∨rd l 6≠92∨rd l 7≠117
 ·rw [if_pos h8];simp only;omega
 rw [if_neg h8] at hm ⊢;by_cases hs2:(dS (l.drop 6)).2=true
 rotate_left
 ·rw [if_neg hs2] at hm;exact absurd rfl hm
 obtain ⟨q6,q0,q1⟩:=dS_len hs2;rw [List.length_drop] at q6;rw [if_pos hs2] at hm ⊢;by_cases hab:(dS (l.drop 6)).1<56320∨57343<(dS (l.drop 6)).1
 rotate_left
 ·rw [if_neg hab];simp only;omega
 rw [if_pos hab];simp only;omega
theorem eB_utf2 {c : Int}:eB c=utf c:=by
 unfold eB utf;split
 ·rfl
 split
 ·rfl
 by_cases h:55296≤c∧c≤57343
 ·have h':hiS c=true∨loS c=true:=by simp only [hiS,loS,decide_eq_true_eq];omega
  rw [if_pos h,if_pos h']
 have h':¬ (hiS c=true∨loS c=true):=by simp only [hiS,loS,decide_eq_true_eq];omega
 rw [if_neg h,if_neg h']
theorem utf_half {v : Int} (h:55296≤v∧v≤57343):utf v=[239,191,189]:=by
 have h':hiS v=true∨loS v=true:=by simp only [hiS,loS,decide_eq_true_eq];omega
 unfold utf;rw [if_neg (by omega),if_neg (by omega),if_pos h']
theorem eB_fffd : eB 65533=[239,191,189]:=by decide
theorem dS_six2 {a b c d v:Int} (r:List Int) (h:hex4 (a :: b :: c :: d :: r)=some v) (p q:Int):dS (p :: q :: a :: b :: c :: d :: r)=(v,true):=by
 unfold dS;rw [if_neg zq76,show List.drop 2 (p :: q :: a :: b :: c :: d :: r)=a :: b :: c :: d :: r from rfl,h]
theorem stp_body {r : List Int} (hb:Body (92 :: r)) (hr:∀ x ∈ 92 :: r,0≤x∧x≤255) (k:Nat):∃ (m:Nat) (x:List Int),stp (k+5) (92 :: r)=some ((m:Int),x)∧1≤m∧m≤(92 :: r).length∧x.length≤m∧unqL (92 :: r)=x++unqL ((92 :: r).drop m)∧Body ((92 :: r).drop m):=by
 rw [stp_eq hr];cases hb with
 | raw h1 h2 h3 _=>exact absurd rfl h3
 | @two b l hE hb =>
  refine ⟨2,[unl b],?_,by omega,by simp,by simp,?_,hb⟩
  ·rw [if_neg zq76,if_pos (by rfl),if_pos (by exact hE)];rfl
  ·rw [unqL_two _ (isE_ne hE)];rfl
 | @six a b c d v l hx hb =>
  have hrg:=hex4_range hx;have hl:=utf_len v
  have ht:(if ((92 :: 117 :: a :: b :: c :: d :: l:List Int).length:Int)<2 then ((-1:Int),([]:List Int)) else if rd (92 :: 117 :: a :: b :: c :: d :: l) 0=92 then (if isE (rd (92 :: 117 :: a :: b :: c :: d :: l) 1)=true then (2,[unl (rd (92 :: 117 :: a :: b :: c :: d :: l) 1)]) else if rd (92 :: 117 :: a :: b :: c :: d :: l) 1=117 then (if (dU (92 :: 117 :: a :: b :: c :: d :: l)).2 = -1 then (-1,[]) else ((dU (92 :: 117 :: a :: b :: c :: d :: l)).2,eB (dU (92 :: 117 :: a :: b :: c :: d :: l)).1)) else (-1,[])) else (-1,[]))=(if (dU (92 :: 117 :: a :: b :: c :: d :: l)).2 = -1 then (-1,[]) else ((dU (92 :: 117 :: a :: b :: c :: d :: l)).2,eB (dU (92 :: 117 :: a :: b :: c :: d :: l)).1)):=by
   rw [if_neg zq76,if_pos (by rfl),if_neg (by exact fun hh=>absurd (show isE 117=true from hh) zq56),if_pos (by rfl)]
  rw [ht]
  have six:∀ {q:Int} {x:List Int},dU (92 :: 117 :: a :: b :: c :: d :: l)=(q,6)→eB q=utf v→pairL v l=none→∃ (m:Nat) (x:List Int),some (if (dU (92 :: 117 :: a :: b :: c :: d :: l)).2 = -1 then ((-1:Int),([]:List Int)) else ((dU (92 :: 117 :: a :: b :: c :: d :: l)).2,eB (dU (92 :: 117 :: a :: b :: c :: d :: l)).1))=some ((m:Int),x)∧1≤m∧m≤(92 :: 117 :: a :: b :: c :: d :: l).length∧x.length≤m∧unqL (92 :: 117 :: a :: b :: c :: d :: l)=x++unqL ((92 :: 117 :: a :: b :: c :: d :: l).drop m)∧Body ((92 :: 117 :: a :: b :: c :: d :: l).drop m):=by
   intro q _ hq he hp;rw [hq,if_neg (by simp only;omega)];refine ⟨6,utf v,by simp only [he];rfl,by omega,by simp,by omega,?_,hb⟩;rw [unqL_six hx,hp];rfl
  have hdS:=dS_six2 (p:=92) (q:=117) l hx;by_cases hsu:55296≤v∧v≤57343
  rotate_left
  ·refine six (x:=[]) (q:=v) ?_ eB_utf2 ?_
   ·unfold dU;rw [hdS];simp only [if_true];rw [if_neg hsu]
   ·unfold pairL;have h1:hiS v=false:=by simp only [hiS,decide_eq_false_iff_not];omega
    rw [h1];cases unitL l<;>rfl
  by_cases hlo:v≥56320
  ·refine six (x:=[]) (q:=65533) ?_ (by rw [eB_fffd,utf_half hsu]) ?_
   ·unfold dU;rw [hdS];simp only [if_true];rw [if_pos hsu,if_pos hlo]
   ·unfold pairL;have h1:hiS v=false:=by simp only [hiS,decide_eq_false_iff_not];omega
    rw [h1];cases unitL l<;>rfl
  cases hu:unitL l with
  | none =>
   refine six (x:=[]) (q:=65533) ?_ (by rw [eB_fffd,utf_half hsu]) (by unfold pairL;rw [hu];rfl);unfold dU;rw [hdS];simp only [if_true];rw [if_pos hsu,if_neg hlo];rw [if_pos];cases hb with
   | nil=>exact .inl (by simp only [List.length_cons,List.length_nil];omega)
   | @raw c2 l2 g1 g2 g3 _ =>
    refine .inr (.inl ?_)
    show c2≠92
    exact g3
   | @two b2 l2 hE2 _ =>
    refine .inr (.inr ?_)
    show b2≠117
    exact isE_ne hE2
   | six hx2 _ =>
    rw [unitL_six hx2] at hu;cases hu
  | some m =>
   cases hb with
   | nil=>simp [unitL] at hu
   | @raw c2 l2 g1 g2 g3 _ =>
    cases l2 with
    | nil=>simp [unitL] at hu
    | cons z l2 =>
     simp only [unitL] at hu;rw [if_neg (fun hh=>g3 hh.1)] at hu;cases hu
   | @two b2 l2 hE2 _ =>
    rw [unitL_two (isE_ne hE2)] at hu;cases hu
   | @six a2 b2 c2 d2 m2 l2 hx2 hb2 =>
    rw [unitL_six hx2] at hu;obtain rfl:=Option.some.inj hu;have hrg2:=hex4_range hx2;have e1:List.drop 6 (92 :: 117 :: a :: b :: c :: d :: 92 :: 117 :: a2 :: b2 :: c2 :: d2 :: l2)=92 :: 117 :: a2 :: b2 :: c2 :: d2 :: l2:=rfl;have e2:rd (92 :: 117 :: a :: b :: c :: d :: 92 :: 117 :: a2 :: b2 :: c2 :: d2 :: l2) 6=92:=rfl;have e3:rd (92 :: 117 :: a :: b :: c :: d :: 92 :: 117 :: a2 :: b2 :: c2 :: d2 :: l2) 7=117:=rfl
    have hno:¬ (((92 :: 117 :: a :: b :: c :: d :: 92 :: 117 :: a2 :: b2 :: c2 :: d2 :: l2:List Int).length:Int)<8∨(92:Int)≠92∨(117:Int)≠117):=by
     simp only [List.length_cons];omega
    have hdS2:=dS_six2 (p:=92) (q:=117) l2 hx2;by_cases hm2:m2<56320∨57343<m2
    ·refine six (x:=[]) (q:=65533) ?_ (by rw [eB_fffd,utf_half hsu]) ?_
     ·unfold dU;rw [hdS];simp only [if_true];rw [if_pos hsu,if_neg hlo,e1,e2,e3,if_neg hno,hdS2];simp only [if_true];rw [if_pos hm2]
     ·unfold pairL;have h1:loS m2=false:=by simp only [loS,decide_eq_false_iff_not];omega
      rw [unitL_six hx2,Option.bind_some,h1,Bool.and_false,if_neg zq56]
    have hU:dU (92 :: 117 :: a :: b :: c :: d :: 92 :: 117 :: a2 :: b2 :: c2 :: d2 :: l2)=(65536+(v - 55296)*1024+(m2 - 56320),12):=by
     unfold dU;rw [hdS];simp only [if_true];rw [if_pos hsu,if_neg hlo,e1,e2,e3,if_neg hno,hdS2];simp only [if_true];rw [if_neg hm2]
    have hul:=utf_len (65536+(v - 55296)*1024+(m2 - 56320));rw [hU,if_neg (by simp only;omega)];refine ⟨12,utf (65536+(v - 55296)*1024+(m2 - 56320)),by simp only [eB_utf2];rfl,by omega,by simp,by omega,?_,hb2⟩
    have hp:pairL v (92 :: 117 :: a2 :: b2 :: c2 :: d2 :: l2)=some m2:=by
     unfold pairL;have h1:hiS v=true:=by simp only [hiS,decide_eq_true_eq];omega
     have h2:loS m2=true:=by simp only [loS,decide_eq_true_eq];omega
     rw [unitL_six hx2,Option.bind_some,h1,h2];rfl
    rw [unqL_six hx,hp];rfl
theorem unqL_no : ∀ l:List Int,ixL l = -1→unqL l=l
 | [],_=>unqL_nil
 | c :: l,h=>by
  rw [ixL] at h
  split at h
  ·omega
  ·rename_i hc;split at h
   ·rename_i h2;rw [unqL_raw _ hc,unqL_no l h2]
   ·have:=ixL_range l;omega
theorem unqL_at : ∀ (l:List Int) (j:Nat),ixL l=(j:Int)→Body l→unqL l=l.take j++unqL (l.drop j)∧Body (l.drop j)∧∃ r,l.drop j=92 :: r
 | [],j,h,_=>by simp only [ixL] at h;omega
 | c :: l,j,h,hb=>by
  rw [ixL] at h
  split at h
  ·rename_i hc;subst hc;obtain rfl:j=0:=by omega
   exact ⟨rfl,hb,l,rfl⟩
  ·rename_i hc;split at h
   ·omega
   ·obtain ⟨j,rfl⟩:∃ i,j=i+1:=⟨j - 1,by have:=ixL_range l;omega⟩
    have hb2:Body l:=by
     cases hb with
     | raw _ _ _ hb=>exact hb
     | two _ _=>exact absurd rfl hc
     | six _ _=>exact absurd rfl hc
    obtain ⟨h1,h2,h3⟩:=unqL_at l j (by omega) hb2;rw [unqL_raw _ hc,List.drop_succ_cons,List.take_succ_cons,List.cons_append,← h1];exact ⟨rfl,h2,h3⟩
theorem jun_body (k : Nat):∀ (n:Nat) (r E:List Int) (f:Nat),(92 :: r).length≤n→n<f→Body (92 :: r)→(∀ x ∈ 92 :: r,0≤x∧x≤255)→jun (k+5) f (92 :: r) E=some (some (E++unqL (92 :: r))):=by
 intro n
 induction n with
 | zero=>intro r E f hn;simp at hn
 | succ n ih =>
  intro r E f hn hf hb hr;obtain ⟨f,rfl⟩:∃ g,f=g+1:=⟨f - 1,by omega⟩;obtain ⟨m,x,h1,h4,h5,h6,h7,h8⟩:=stp_body hb hr k;rw [jun,h1,Option.bind_some];simp only;rw [if_neg (by omega),if_pos ⟨by omega,by omega,by omega⟩,Int.toNat_natCast,h7];have hld:((92 :: r).drop m).length=(92 :: r).length - m:=List.length_drop;have hrd:∀ x ∈ (92 :: r).drop m,0≤x∧x≤255:=fun x hx=>hr x (List.mem_of_mem_drop hx)
  generalize (92 :: r).drop m=l2 at hld hrd h8 ⊢
  rcases ixL_range l2 with hj|⟨j,hj,hj1,_⟩
  ·rw [if_pos hj,unqL_no l2 hj,List.append_assoc]
  ·obtain ⟨h9,h10,r3,h11⟩:=unqL_at l2 j hj h8;rw [if_neg (by omega),hj,Int.toNat_natCast,h9,h11];have hl3:(92 :: r3).length=l2.length - j:=by rw [← h11];exact List.length_drop
   rw [ih r3 _ f (by omega) (by omega) (by rw [← h11];exact h10) (fun x hx=>hrd x (List.mem_of_mem_drop (by rw [h11];exact hx)))];simp only [List.append_assoc]
theorem unc_body {b : List Int} (hb:Body b) (hr:∀ x ∈ b,0≤x∧x≤255) (k:Nat) (hk:b.length+10≤k):unc k b=some (some (unqL b)):=by
 obtain ⟨k,rfl⟩:∃ j,k=j+5:=⟨k - 5,by omega⟩;unfold unc;rcases ixL_range b with hj|⟨j,hj,hj1,_⟩
 ·rw [if_pos hj,unqL_no b hj]
 ·obtain ⟨h9,h10,r3,h11⟩:=unqL_at b j hj hb;rw [if_neg (by omega),hj,Int.toNat_natCast,h9,h11];have hl3:(92 :: r3).length=b.length - j:=by rw [← h11];exact List.length_drop
  exact jun_body k (92 :: r3).length r3 _ (k+5) (Nat.le_refl _) (by omega) (by rw [← h11];exact h10) (fun x hx=>hr x (List.mem_of_mem_drop (by rw [h11];exact hx)))
end Go.Proofs.YthmjfmpgmcgonaaDoor.J
end
section
namespace Go.Proofs.YthmjfmpgmcgonaaDoor.J
open Go.RowKit Go.Proofs.YthmjfmpgmcgonaaDoor.K Go.Proofs.YthmjfmpgmcgonaaDoorW.PrintWords Go.Proofs.YthmjfmpgmcgonaaDoorW.PrintLast
set_option linter.unusedVariables false
set_option linter.unusedSimpArgs false
set_option linter.unusedSectionVars false

theorem up31 {i : Nat} (h:i≤2147483647):wrap64 ((i:Int)+1)=((i+1:Nat):Int):=by rw [w64 (by omega)];omega
theorem rd_ks {ks : List ByteArray} {i:Nat} (h:i<ks.length):ks.drop i=rdOf ByteArray.empty ks (i:Int) :: ks.drop (i+1):=by
 have e:=List.drop_eq_getElem_cons h;rw [e];unfold rdOf;rw [Int.toNat_natCast,List.getD_eq_getElem?_getD,List.getElem?_eq_getElem h];rfl
theorem rd_mem {ks : List ByteArray} {i:Nat} (h:i<ks.length):rdOf ByteArray.empty ks (i:Int) ∈ ks:=by
 have:=rd_ks h;exact List.mem_of_mem_drop (i:=i) (by rw [this];simp)
theorem fits_l0 {ks : List ByteArray} (hl:ks.length≤2147483647):∀ (n i:Nat),ks.length - i≤n→i≤ks.length→∃ b,Ev (fun k=>j2n.l0 k ks (ks.length:Int) i) b∧(b=true→∀ s ∈ ks.drop i,s.size≤2147483647):=by
 intro n
 induction n with
 | zero =>
  intro i hi hle;refine ⟨true,Ev_shift ?_,fun _ s hs=>?_⟩
  ·simp only [j2n.l0];exact Ev.congr (fun _=>if_neg (by omega)) (Ev.now _)
  ·rw [List.drop_of_length_le (by omega)] at hs;simp at hs
 | succ n ih =>
  intro i hi hle;by_cases hlt:i<ks.length
  rotate_left
  ·refine ⟨true,Ev_shift ?_,fun _ s hs=>?_⟩
   ·simp only [j2n.l0];exact Ev.congr (fun _=>if_neg (by omega)) (Ev.now _)
   ·rw [List.drop_of_length_le (by omega)] at hs;simp at hs
  have hI_i:i≤2147483647:=by omega
  have st:∀ {r},Ev (fun k=>if ((rdOf ByteArray.empty ks (i:Int)).size:Int)>2147483647 then some false else j2n.l0 k ks (ks.length:Int) (wrap64 ((i:Int)+1))) r→Ev (fun k=>j2n.l0 k ks (ks.length:Int) i) r:=fun {r} hr=>by
   refine Ev_shift ?_;simp only [j2n.l0];exact Ev.congr (fun _=>if_pos (by omega)) (Ev.congr (fun _=>if_pos (by omega)) (Ev.congr (fun _=>if_pos (by omega)) hr))
  by_cases hz:((rdOf ByteArray.empty ks (i:Int)).size:Int)>2147483647
  ·exact ⟨false,st (Ev.congr (fun _=>if_pos hz) (Ev.now _)),fun h=>by cases h⟩
  obtain ⟨b,h1,h2⟩:=ih (i+1) (by omega) (by omega);refine ⟨b,st (Ev.congr (fun _=>if_neg hz) ?_),fun hb s hs=>?_⟩
  ·rw [up31 hI_i];exact h1
  ·rw [rd_ks hlt] at hs;rcases List.mem_cons.mp hs with rfl|hs
   ·omega
   ·exact h2 hb s hs
theorem fits_eq (ks : List ByteArray):∃ b,Ev (fun k=>j2n.f k ks) b∧(b=true→ks.length≤2147483647∧∀ s ∈ ks,s.size≤2147483647):=by
 unfold j2n.f;by_cases c:(ks.length:Int)>2147483647
 ·exact ⟨false,Ev.congr (fun _=>if_pos c) (Ev.now _),fun h=>by cases h⟩
 obtain ⟨b,h1,h2⟩:=fits_l0 (ks:=ks) (by omega) _ 0 (Nat.le_refl _) (Nat.zero_le _);exact ⟨b,Ev.congr (fun _=>if_neg c) h1,fun h=>⟨by omega,by simpa using h2 h⟩⟩
section
variable {s : ByteArray} (hs:s.size≤2147483647) {ks:List ByteArray} (hl:ks.length≤2147483647) (hk:∀ x ∈ ks,x.size≤2147483647)
include hs hl hk
theorem once_l1 {key : ByteArray} {i:Nat} {p:S27} (hp:OKP s p) (hc:∃ b,Ev (fun k=>(j2v.f k s p.f0 p.f1 p.f2 p.f3 p.f4 key).bind fun t=>if t.2.2.2.2.2=true then j2i.l0 k s ks (ks.length:Int) (wrap64 ((i:Int)+1)) t.1 t.2.1 t.2.2.1 t.2.2.2.1 t.2.2.2.2.1 else some true) b) :
 ∀ (n j c:Nat),p.f3.length - j≤n→c≤j→j≤p.f3.length→∃ b,Ev (fun k=>j2i.l1 k s key c j ks (ks.length:Int) i p.f0 p.f1 p.f2 p.f3 p.f4) b:=by
 obtain ⟨k1,k2,k3,k4,k5⟩:=hp.kids
 have last:∀ (j c:Nat),¬ (j:Int)<(p.f3.length:Int)→∃ b,Ev (fun k=>j2i.l1 k s key c j ks (ks.length:Int) i p.f0 p.f1 p.f2 p.f3 p.f4) b:=fun j c hj=>by
  by_cases h1:(c:Int)>1
  ·refine ⟨false,Ev_shift ?_⟩;simp only [j2i.l1];exact Ev.congr (fun _=>if_neg hj) (Ev.congr (fun _=>if_pos h1) (Ev.now _))
  obtain ⟨b,hb⟩:=hc;refine ⟨b,Ev_shift ?_⟩;simp only [j2i.l1];exact Ev.congr (fun _=>if_neg hj) (Ev.congr (fun _=>if_neg h1) hb)
 intro n
 induction n with
 | zero =>
  intro j c hn hcj hj;exact last j c (by omega)
 | succ n ih =>
  intro j c hn hcj hj;by_cases hlt:j<p.f3.length
  rotate_left
  ·exact last j c (by omega)
  have hq:=rd_ns hlt;have hmem:j3g p.f3 (j:Int) ∈ p.f3:=List.mem_of_getElem? hq;obtain ⟨u1,u2,u3,u4⟩:=(k1 _ hmem).unq hs;have hI_j:j≤2147483647:=by omega
  have hI_c:c≤2147483647:=by omega
  have st:∀ {r},Ev (fun k=>if (strOfNums (nmB (bytesOf s) (j3g p.f3 (j:Int)))).toList=key.toList then j2i.l1 k s key (wrap64 ((c:Int)+1)) (wrap64 ((j:Int)+1)) ks (ks.length:Int) i p.f0 p.f1 p.f2 p.f3 p.f4 else j2i.l1 k s key c (wrap64 ((j:Int)+1)) ks (ks.length:Int) i p.f0 p.f1 p.f2 p.f3 p.f4) r→Ev (fun k=>j2i.l1 k s key c j ks (ks.length:Int) i p.f0 p.f1 p.f2 p.f3 p.f4) r:=fun {r} hr=>by
   refine Ev_shift ?_;simp only [j2i.l1];exact zl20
  by_cases he:(strOfNums (nmB (bytesOf s) (j3g p.f3 (j:Int)))).toList=key.toList
  rotate_left
  ·obtain ⟨b,hb⟩:=ih (j+1) c (by omega) (by omega) (by omega);refine ⟨b,st (Ev.congr (fun _=>if_neg he) ?_)⟩;rw [up31 hI_j];exact hb
  obtain ⟨b,hb⟩:=ih (j+1) (c+1) (by omega) (by omega) (by omega);refine ⟨b,st (Ev.congr (fun _=>if_pos he) ?_)⟩;rw [up31 hI_j,up31 hI_c];exact hb
theorem once_l0 : ∀ (n i:Nat) (p:S27),OKP s p→ks.length - i≤n→i≤ks.length→∃ b,Ev (fun k=>j2i.l0 k s ks (ks.length:Int) i p.f0 p.f1 p.f2 p.f3 p.f4) b:=by
 intro n
 induction n with
 | zero =>
  intro i p hp hn hi;refine ⟨true,Ev_shift ?_⟩;simp only [j2i.l0];exact zl21
 | succ n ih =>
  intro i p hp hn hi;by_cases hlt:i<ks.length
  rotate_left
  ·refine ⟨true,Ev_shift ?_⟩;simp only [j2i.l0];exact zl21
  have hI_i:i≤2147483647:=by omega
  obtain ⟨q,ok,h1,h2⟩:=step_eq hs hp (hk _ (rd_mem hlt))
  have hc:∃ b,Ev (fun k=>(j2v.f k s p.f0 p.f1 p.f2 p.f3 p.f4 (rdOf ByteArray.empty ks (i:Int))).bind fun t=>if t.2.2.2.2.2=true then j2i.l0 k s ks (ks.length:Int) (wrap64 ((i:Int)+1)) t.1 t.2.1 t.2.2.1 t.2.2.2.1 t.2.2.2.2.1 else some true) b:=by
   cases ok with
   | false=>exact ⟨true,Ev.bind h1 (Ev.congr (fun _=>if_neg (by simp)) (Ev.now _))⟩
   | true =>
    obtain ⟨b,hb⟩:=ih (i+1) q (h2 rfl).1 (by omega) (by omega);refine ⟨b,Ev.bind h1 (Ev.congr (fun _=>if_pos rfl) ?_)⟩;rw [up31 hI_i];exact hb
  by_cases h6:p.f0=6
  rotate_left
  ·obtain ⟨b,hb⟩:=hc;refine ⟨b,Ev_shift ?_⟩;simp only [j2i.l0];exact Ev.congr (fun _=>if_pos (by omega)) (Ev.congr (fun _=>if_pos (by omega)) (Ev.congr (fun _=>if_pos (by omega)) (Ev.congr (fun _=>if_neg h6) hb)))
  obtain ⟨b,hb⟩:=once_l1 hs hl hk hp hc _ 0 0 (Nat.le_refl _) (Nat.le_refl _) (Nat.zero_le _);refine ⟨b,Ev_shift ?_⟩;simp only [j2i.l0];exact Ev.congr (fun _=>if_pos (by omega)) (Ev.congr (fun _=>if_pos (by omega)) (Ev.congr (fun _=>if_pos (by omega)) (Ev.congr (fun _=>if_pos h6) hb)))
end
theorem sStep_un {un un' : List Int→Option (Option (List Int))} (h:∀ l,LeO (un l) (un' l)) (sq:Bool):∀ (n:Nat) (ks:List ByteArray) (l:List Int) (kl lv:Int) (i:Nat) (lm:Bool),LeO (sKl sq un n ks l kl lv i lm) (sKl sq un' n ks l kl lv i lm)
 | 0,_,_,_,_,_,_=>fun r h=>by simp [sKl] at h
 | n+1,ks,l,kl,lv,i,lm=>by
  rw [sKl,sKl];refine LeO.ite (LeO.refl _) (LeO.bind (sStep_mono h _ _ _ _ _ _ _) (fun r=>?_));cases r with
  | done r=>exact LeO.refl _
  | go kl' lv' i' lm'=>exact sStep_un h sq n _ _ _ _ _ _
  | sub m=>exact LeO.bind (LeO.refl _) (fun _=>LeO.bind (LeO.refl _) (fun _=>LeO.bind (LeO.ite (LeO.refl _) (sStep_un h sq n _ _ _ _ _ _)) (fun _=>LeO.refl _)))
theorem unc_up {u k : Nat} (h:u≤k) (l:List Int):LeO (unc u l) (unc k l):=fun r hr=>at_rounds (g:=fun k=>unc k l) (fun k=>unc_mono k l) h hr
theorem sK_ev {ks : List ByteArray} {l:List Int} {R:Int} {u k0:Nat} (h:∀ n,sK false (unc u) (n+k0) ks l=some R):Ev (fun k=>sK false (unc k) k ks l) R:=by
 refine ⟨u+k0,fun k hk=>?_⟩;have h1:=h (k - k0);rw [show k - k0+k0=k by omega] at h1;have:LeO (sK false (unc u) k ks l) (sK false (unc k) k ks l):=LeO.ite (LeO.refl _) (sStep_un (unc_up (by omega)) false k _ _ _ _ _ _);exact this _ h1
theorem jget_at {l C v r:List Int} {a i:Nat} {p:S27} (hv:PV a v p) (hl:l.drop i=C++(v++r)) (hC:Bl C) (hr:Dl r) (hk:p.f0≠4):getR false l (i:Int)=some (v,jkind p.f0,i+C.length,i+C.length+v.length):=by
 obtain ⟨c,t,ev,hc⟩:=hv.head;have h1:nT (l.drop i) 0=(C.length:Int):=by rw [hl,ev,List.cons_append,nT_bl hC hc.nb];omega
 have hd:=j3q hl;have hg:=gT_PV (sq:=false) hv hd hr;have hkd:jkind p.f0≠1:=fun h=>hk (jk_str.mp h)
 rw [getR,if_neg (by omega),Int.toNat_natCast,getA,h1,if_neg (by omega),Int.toNat_natCast,getB,hg,if_neg (by simp)];unfold vB vN;simp only [if_neg hkd];rw [show i+C.length+v.length - (i+C.length)=v.length by omega,hd];simp
theorem jget_str {l C b r:List Int} {i:Nat} (hb:Body b) (hl:l.drop i=C++(34 :: (b++34 :: r))) (hC:Bl C):getR false l (i:Int)=some (b,1,i+C.length,i+C.length+(b.length+2)):=by
 have hv:PV 0 (34 :: (b++[34])) ⟨4,((0:Nat):Int),((0+(34 :: (b++[34])).length:Nat):Int),[],[]⟩ := .str hb rfl rfl;have h1:nT (l.drop i) 0=(C.length:Int):=by rw [hl,nT_bl hC zq56];omega
 have hd:=j3q hl
 have hg:gT false l (i+C.length)=⟨1,i+C.length+(b.length+2),true⟩:=by
  unfold gT;rw [j4l hd,if_pos (.inl rfl),j4k hd,strE_body hb,if_neg (by simp only;omega)];simp only [Int.toNat_natCast]
  congr 1
  omega
 rw [getR,if_neg (by omega),Int.toNat_natCast,getA,h1,if_neg (by omega),Int.toNat_natCast,getB,hg,if_neg (by simp)];unfold vB vN;simp only [if_true];rw [show i+C.length+(b.length+2) - (i+C.length) - 2=b.length by omega,j4k hd];simp
section
variable {s : ByteArray} (hs:s.size≤2147483647) {ks:List ByteArray} (hl:ks.length≤2147483647) (hk:∀ x ∈ ks,x.size≤2147483647)
include hs hl hk
theorem seek_ev {B v B':List Int} {p q:S27} (hL:bytesOf s=B++(v++B')) (hB:Bl B) (hB':Bl B') (hv:PV B.length v p) (hS:SeekP (bytesOf s) p ks q) :
 ∃ (i a:Nat) (v1 C r1 R1:List Int),PV a v1 q∧(bytesOf s).drop a=v1++R1∧(bytesOf s).drop i=C++(v1++r1)∧Bl C∧Dl r1∧Ev (fun k=>sK false (unc k) k ks (bytesOf s)) (i:Int):=by
 have hun:∀ b,Body b→(∀ x ∈ b,0≤x∧x≤255)→b.length≤(bytesOf s).length→unc ((bytesOf s).length+10) b=some (some (unqL b)):=fun b h1 h2 h3=>unc_body h1 h2 _ (by omega)
 obtain ⟨i,a,v1,C,r1,R1,z1,z2,z3,z4,z5,k,z6⟩:=find_all (bytesOf s).length hun (sq:=false) hL (Nat.le_refl _) (bytesOf_range s) hB hB' hv hS;exact ⟨i,a,v1,C,r1,R1,z1,z2,z3,z4,z5,sK_ev z6⟩
end
end Go.Proofs.YthmjfmpgmcgonaaDoor.J
end
section
namespace Go.Proofs.YthmjfmpgmcgonaaDoor.J
open Go.RowKit Go.Proofs.YthmjfmpgmcgonaaDoor.K Go.Proofs.YthmjfmpgmcgonaaDoorW.PrintWords Go.Proofs.YthmjfmpgmcgonaaDoorW.PrintLast
set_option linter.unusedVariables false
set_option linter.unusedSimpArgs false
set_option linter.unusedSectionVars false

section
variable {s : ByteArray} (hs:s.size≤2147483647) {ks:List ByteArray} (hl:ks.length≤2147483647) (hk:∀ x ∈ ks,x.size≤2147483647)
include hs hl hk
theorem clean_j1 {i : Nat} {p:S27} (hp:OKP s p) (hlt:i<ks.length) (ih:∀ q:S27,OKP s q→∃ b,Ev (fun k=>j2a.l0 k s ks ((i+1:Nat):Int) q.f0 q.f1 q.f2 q.f3 q.f4) b) (x:Bool) :
 ∃ b,Ev (fun k=>j2a.j1 k s ks (i:Int) x p.f0 p.f1 p.f2 p.f3 p.f4) b:=by
 have hI_i:i≤2147483647:=by omega
 cases x with
 | true =>
  refine ⟨false,Ev_shift ?_⟩;simp only [j2a.j1,if_true];exact Ev.now _
 | false =>
  obtain ⟨q,ok,h1,h2⟩:=step_eq hs hp (hk _ (rd_mem hlt))
  have hc:∃ b,Ev (fun k=>(j2v.f k s p.f0 p.f1 p.f2 p.f3 p.f4 (rdOf ByteArray.empty ks (i:Int))).bind fun t=>if t.2.2.2.2.2=true then j2a.l0 k s ks (wrap64 ((i:Int)+1)) t.1 t.2.1 t.2.2.1 t.2.2.2.1 t.2.2.2.2.1 else some true) b:=by
   cases ok with
   | false=>exact ⟨true,Ev.bind h1 (Ev.congr (fun _=>if_neg (by simp)) (Ev.now _))⟩
   | true =>
    obtain ⟨b,hb⟩:=ih q (h2 rfl).1;refine ⟨b,Ev.bind h1 (Ev.congr (fun _=>if_pos rfl) ?_)⟩;rw [up31 hI_i];exact hb
  obtain ⟨b,hb⟩:=hc;refine ⟨b,Ev_shift ?_⟩;simp only [j2a.j1,Bool.false_eq_true,if_false];exact Ev.congr (fun _=>if_pos (by omega)) (Ev.congr (fun _=>if_pos (by omega)) hb)
theorem clean_l0 : ∀ (n i:Nat) (p:S27),OKP s p→ks.length - i≤n→i≤ks.length→∃ b,Ev (fun k=>j2a.l0 k s ks (i:Int) p.f0 p.f1 p.f2 p.f3 p.f4) b:=by
 intro n
 induction n with
 | zero =>
  intro i p hp hn hi;refine ⟨true,Ev_shift ?_⟩;simp only [j2a.l0];exact zl21
 | succ n ih =>
  intro i p hp hn hi;by_cases hlt:i<ks.length
  rotate_left
  ·refine ⟨true,Ev_shift ?_⟩;simp only [j2a.l0];exact zl21
  have hj:=fun x=>clean_j1 hs hl hk hp hlt (fun q hq=>ih (i+1) q hq (by omega) (by omega)) x
  by_cases h5:p.f0=5
  ·obtain ⟨b,hb⟩:=hj false;refine ⟨b,Ev_shift ?_⟩;simp only [j2a.l0];exact Ev.congr (fun _=>if_pos (by omega)) (Ev.congr (fun _=>if_pos h5) hb)
  by_cases he:(rdOf ByteArray.empty ks (i:Int)).toList=([]:List UInt8)
  ·obtain ⟨b,hb⟩:=hj false;refine ⟨b,Ev_shift ?_⟩;simp only [j2a.l0];exact Ev.congr (fun _=>if_pos (by omega)) (Ev.congr (fun _=>if_neg h5) (Ev.congr (fun _=>if_pos (by omega)) (Ev.congr (fun _=>if_pos he) hb)))
  have hz:0<((rdOf ByteArray.empty ks (i:Int)).size:Int):=by
   have:(rdOf ByteArray.empty ks (i:Int)).size≠0:=fun h0=>he (by
    rw [ByteArray.toList_eq];exact List.length_eq_zero_iff.mp h0)
   omega
  obtain ⟨b,hb⟩:=hj ((bt (rdOf ByteArray.empty ks (i:Int)) 0) == 91);refine ⟨b,Ev_shift ?_⟩;simp only [j2a.l0];exact Ev.congr (fun _=>if_pos (by omega)) (Ev.congr (fun _=>if_neg h5) (Ev.congr (fun _=>if_pos (by omega)) (Ev.congr (fun _=>if_neg he) (Ev.congr (fun _=>if_pos hz) hb))))
theorem seek_l0 : ∀ (n i:Nat) (p:S27),OKP s p→ks.length - i≤n→i≤ks.length→∃ (q:S27) (ok:Bool),Ev (fun k=>j2z.l0 k s ks (ks.length:Int) i p.f0 p.f1 p.f2 p.f3 p.f4) (q.f0,q.f1,q.f2,q.f3,q.f4,ok)∧(ok=true→OKP s q∧SeekP (bytesOf s) p (ks.drop i) q):=by
 have zero:∀ {g:Nat→Option _} {R:S27→Prop},Ev g (0,0,0,([]:List S49),([]:List S27),false)→∃ (q:S27) (ok:Bool),Ev g (q.f0,q.f1,q.f2,q.f3,q.f4,ok)∧(ok=true→R q):=fun h=>⟨⟨0,0,0,[],[]⟩,false,h,fun h=>by cases h⟩
 have done:∀ (i:Nat) (p:S27),OKP s p→¬ i<ks.length→∃ (q:S27) (ok:Bool),Ev (fun k=>j2z.l0 k s ks (ks.length:Int) i p.f0 p.f1 p.f2 p.f3 p.f4) (q.f0,q.f1,q.f2,q.f3,q.f4,ok)∧(ok=true→OKP s q∧SeekP (bytesOf s) p (ks.drop i) q):=fun i p hp hi=>by
  refine ⟨p,true,Ev_shift ?_,fun _=>⟨hp,?_⟩⟩
  ·simp only [j2z.l0];exact Ev.congr (fun _=>if_neg (by omega)) (Ev.now _)
  ·rw [List.drop_of_length_le (by omega)];exact .nil
 intro n
 induction n with
 | zero=>exact fun i p hp hn hi=>done i p hp (by omega)
 | succ n ih =>
  intro i p hp hn hi;by_cases hlt:i<ks.length
  rotate_left
  ·exact done i p hp hlt
  have hI_i:i≤2147483647:=by omega
  obtain ⟨q,ok,h1,h2⟩:=step_eq hs hp (hk _ (rd_mem hlt))
  have st:∀ {r},Ev (fun k=>(j2v.f k s p.f0 p.f1 p.f2 p.f3 p.f4 (rdOf ByteArray.empty ks (i:Int))).bind fun t=>if t.2.2.2.2.2=true then j2z.l0 k s ks (ks.length:Int) (wrap64 ((i:Int)+1)) t.1 t.2.1 t.2.2.1 t.2.2.2.1 t.2.2.2.2.1 else some (0,0,0,[],[],false)) r→Ev (fun k=>j2z.l0 k s ks (ks.length:Int) i p.f0 p.f1 p.f2 p.f3 p.f4) r:=fun {r} hr=>by
   refine Ev_shift ?_;simp only [j2z.l0];exact Ev.congr (fun _=>if_pos (by omega)) (Ev.congr (fun _=>if_pos (by omega)) (Ev.congr (fun _=>if_pos (by omega)) hr))
  cases ok with
  | false=>exact zero (st (Ev.bind h1 (Ev.congr (fun _=>if_neg (by simp)) (Ev.now _))))
  | true =>
   obtain ⟨hq,hS⟩:=h2 rfl;obtain ⟨r,ok,g1,g2⟩:=ih (i+1) q hq (by omega) (by omega);refine ⟨r,ok,st (Ev.bind h1 (Ev.congr (fun _=>if_pos rfl) ?_)),fun hok=>?_⟩
   ·rw [up31 hI_i];exact g1
   ·obtain ⟨g3,g4⟩:=g2 hok;refine ⟨g3,?_⟩;rw [rd_ks hlt];exact hS.seek g4
theorem jqfound_eq : ∃ (q:S27) (ok:Bool),Ev (fun k=>j3o.f k s ks) (q.f0,q.f1,q.f2,q.f3,q.f4,ok)∧(ok=true→s.size≤16384∧OKP s q∧∃ (B v B':List Int) (p:S27),bytesOf s=B++(v++B')∧Bl B∧Bl B'∧PV B.length v p∧SeekP (bytesOf s) p ks q):=by
 have zero:∀ {g:Nat→Option _} {R:S27→Prop},Ev g (0,0,0,([]:List S49),([]:List S27),false)→∃ (q:S27) (ok:Bool),Ev g (q.f0,q.f1,q.f2,q.f3,q.f4,ok)∧(ok=true→R q):=fun h=>⟨⟨0,0,0,[],[]⟩,false,h,fun h=>by cases h⟩
 unfold j3o.f;by_cases c1:(s.size:Int)>16384
 ·have hP:Ev (fun k=>j3f.f k s) (0,0,0,[],[],false):=by
   unfold j3f.f;exact Ev.congr (fun _=>if_pos c1) (Ev.now _)
  exact zero (Ev.bind hP (Ev.congr (fun _=>if_neg (by simp)) (Ev.now _)))
 obtain ⟨hy,hno⟩:=places_eq hs;cases ht:textL (bytesOf s) with
 | false =>
  have hP:Ev (fun k=>j3f.f k s) (0,0,0,[],[],false):=by
   unfold j3f.f;exact Ev.congr (fun _=>if_neg c1) (Ev.bind (hno ht) (Ev.now _))
  exact zero (Ev.bind hP (Ev.congr (fun _=>if_neg (by simp)) (Ev.now _)))
 | true =>
  obtain ⟨B,v,B',p,hL,hB,hB',hv,hE⟩:=hy ht
  have hP:Ev (fun k=>j3f.f k s) (p.f0,p.f1,p.f2,p.f3,p.f4,true):=by
   unfold j3f.f;exact Ev.congr (fun _=>if_neg c1) (Ev.bind hE (Ev.now _))
  have hp:OKP s p:=⟨B.length,v,B',hv,by rw [hL];simp⟩;obtain ⟨b,hO⟩:=once_l0 hs hl hk _ 0 p hp (Nat.le_refl _) (Nat.zero_le _);have hO':Ev (fun k=>j2i.f k s p.f0 p.f1 p.f2 p.f3 p.f4 ks) b:=hO;cases b with
  | false=>exact zero (Ev.bind hP (Ev.congr (fun _=>if_pos rfl) (Ev.bind hO' (Ev.congr (fun _=>if_neg (by simp)) (Ev.now _)))))
  | true =>
   obtain ⟨b,hC⟩:=clean_l0 hs hl hk _ 0 p hp (Nat.le_refl _) (Nat.zero_le _);have hC':Ev (fun k=>j2a.f k s p.f0 p.f1 p.f2 p.f3 p.f4 ks) b:=hC;cases b with
   | false=>exact zero (Ev.bind hP (Ev.congr (fun _=>if_pos rfl) (Ev.bind hO' (Ev.congr (fun _=>if_pos rfl) (Ev.bind hC' (Ev.congr (fun _=>if_neg (by simp)) (Ev.now _)))))))
   | true =>
    obtain ⟨q,ok,g1,g2⟩:=seek_l0 hs hl hk _ 0 p hp (Nat.le_refl _) (Nat.zero_le _);have g1':Ev (fun k=>j2z.f k s p.f0 p.f1 p.f2 p.f3 p.f4 ks) (q.f0,q.f1,q.f2,q.f3,q.f4,ok):=g1;refine ⟨q,ok,Ev.bind hP (Ev.congr (fun _=>if_pos rfl) (Ev.bind hO' (Ev.congr (fun _=>if_pos rfl) (Ev.bind hC' (Ev.congr (fun _=>if_pos rfl) (Ev.bind g1' (Ev.now _))))))),fun hok=>?_⟩;obtain ⟨g3,g4⟩:=g2 hok;exact ⟨by omega,g3,B,v,B',p,hL,hB,hB',hv,by simpa using g4⟩
end
end Go.Proofs.YthmjfmpgmcgonaaDoor.J
end
section
namespace Go.Proofs.YthmjfmpgmcgonaaDoor.K
open Go.RowKit Go.Proofs.YthmjfmpgmcgonaaDoorW.PrintWords Go.Proofs.YthmjfmpgmcgonaaDoorW.PrintLast Go.Proofs.YthmjfmpgmcgonaaDoorW.PrintMore
attribute [local go_sem] max2_int min2_int max_two min_two max_three min_three max_four min_four
set_option linter.unusedVariables false
set_option linter.unusedSimpArgs false
mutual
def j2q.j0 : Nat → ByteArray→Bool→Option (Int × Bool)
  | 0,_,_=>none
  | k+1,x0,x4=>if x4=true then (if 1≤(x0.size:Int) then (j2q.j1 k (x0.extract 1 x0.size) x4) else (none)) else (j2q.j1 k x0 x4)
def j2q.j1 : Nat → ByteArray→Bool→Option (Int × Bool)
  | 0,_,_=>none
  | k+1,x0,x4=>(j2h.f k x0).bind fun bt101=>(if bt101.2=true then (if x4=true then (j2q.j2 k x4 bt101.1 (decide (bt101.1≤9223372036854775808))) else (j2q.j2 k x4 bt101.1 false)) else (some (0,false)))
def j2q.j2 : Nat → Bool→Int→Bool→Option (Int × Bool)
  | 0,_,_,_=>none
  | k+1,x4,x5,x25=>if x25=true then (some (wrap64 (IntKind.u64.wrap (-x5)),true)) else (if x4=true then (some (0,false)) else (if x5<9223372036854775808 then (some (wrap64 (x5),true)) else (some (0,false))))
end
def j2q.f (k : Nat) (a0:ByteArray):Option (Int × Bool):=if a0.toList=([]:List UInt8) then (j2q.j0 k a0 false) else (if 0<(a0.size:Int) then (j2q.j0 k a0 ((bt a0 0) == 45)) else (none))
theorem j2q.mono_l : ∀ k,(∀ y0 y1,LeO (j2q.j0 k y0 y1) (j2q.j0 (k+1) y0 y1))∧(∀ y0 y1,LeO (j2q.j1 k y0 y1) (j2q.j1 (k+1) y0 y1))∧(∀ y0 y1 y2,LeO (j2q.j2 k y0 y1 y2) (j2q.j2 (k+1) y0 y1 y2))
 | 0=>⟨fun _ _ r h=>by simp [j2q.j0] at h,fun _ _ r h=>by simp [j2q.j1] at h,fun _ _ _ r h=>by simp [j2q.j2] at h⟩
 | k+1=>by
  obtain ⟨ih0,ih1,ih2⟩:=j2q.mono_l k;refine ⟨?_,?_,?_⟩
  ·intro y0 y1;unfold j2q.j0
   exact zm
  ·intro y0 y1;unfold j2q.j1
   exact zm
  ·intro y0 y1 y2;unfold j2q.j2
   exact zm
theorem j2q.mono : ∀ a0 k,LeO (j2q.f k a0) (j2q.f (k+1) a0):=by
 intro a0 k;obtain ⟨ih0,ih1,ih2⟩:=j2q.mono_l k;unfold j2q.f
 exact zm
set_option maxHeartbeats 8000000 in
set_option maxRecDepth 100000 in
theorem j2q.calls (k : Nat) (a0:ByteArray) (r1:Int) (r2:Bool) (w:World) (h:j2q.f k a0=some (r1,r2)) :
 Calls Tryd.prog 11 #[.string a0] w fun e w'=>e = .returned (.tuple #[.int .i64 r1, .bool r2])∧Drawn0 w w':=by
 have H:(if a0.toList=([]:List UInt8) then (j2q.j0 k a0 false) else (if 0<(a0.size:Int) then (j2q.j0 k a0 ((bt a0 0) == 45)) else (none)))=some (r1,r2):=h;clear h;have HC2:=mk0 H;clear H;go_enter Tryd.func11,Tryd.ntmps11;go_upto_region 1 with (fail)
 go_cut [4] (fun v4 wc=>∃ (kq:Nat) (x4_1:Bool),v4 = .bool x4_1∧Aside0 (j2q.j0 kq a0 x4_1=some (r1,r2))∧Aside0 (kq≤k)∧Drawn0 w wc)
 case first =>
  have H:=HC2.out;clear HC2;by_cases c3:a0.toList=([]:List UInt8)
  ·rw [if_pos c3] at H;have c3b0:(a0.toList == ([]:List UInt8))=true:=beq_iff_eq.mpr c3;have c3b1:(a0.toList != ([]:List UInt8))=false:=bne_eq_false_iff_eq.mpr c3;clear c3;(skip);have H':=mk0 H;clear H;go_wp2;go_meet
   case rel=>exact ⟨_,(false),(by rfl),H',⟨by omega⟩,by repeat (first|exact Drawn0.refl _|apply Drawn0.step)⟩
  rw [if_neg c3] at H;have c3b0:(a0.toList == ([]:List UInt8))=false:=beq_eq_false_iff_ne.mpr c3;have c3b1:(a0.toList != ([]:List UInt8))=true:=bne_iff_ne.mpr c3;(skip);by_cases c4:0<(a0.size:Int)
  rotate_left
  ·exact zl30
  rw [if_pos c4] at H;have c4b0:decide (0<(a0.size:Int))=true:=decide_eq_true c4;have c4b1:decide (0<a0.size)=true:=decide_eq_true (by omega);clear c4;have H':=mk0 H;clear H;have p5:0≤(0:Int):=(by omega);have q5:0<a0.size:=(by have:(0:Int)<(a0.size:Int):=of_decide_eq_true zq20;omega);have hx5:∀ h:0<a0.size,((a0[0]'h).toNat:Int)=bt a0 0:=bt_at a0 0;clear p5;have qi5:(0<(a0.size:Int))=True:=eq_true (of_decide_eq_true zq20);replace q5:=eq_true q5;go_wp2;go_meet
  case rel=>exact ⟨_,(((bt a0 0) == 45)),(by rfl),H',⟨by omega⟩,by repeat (first|exact Drawn0.refl _|apply Drawn0.step)⟩
 case rest =>
  clear HC2;obtain ⟨kq,x4_1,rfl,HA,HJ1,⟨mc1,rfl⟩⟩:=hcut;cases kq with
  | zero=>exact absurd HA.out (by simp [j2q.j0])
  | succ kj1 =>
   have H:=HA.out;clear HA;simp only [j2q.j0] at H;have HC6:=mk0 H;clear H;go_upto_if 14 with (fail)
   go_cut [0] (fun v0 wc=>∃ (kq:Nat) (x0_5:ByteArray),v0 = .string x0_5∧Aside0 (j2q.j1 kq x0_5 x4_1=some (r1,r2))∧Aside0 (kq≤kj1)∧Drawn0 w wc)
   case first =>
    have H:=HC6.out;clear HC6;by_cases c7:x4_1=true
    rotate_left
    ·replace c7:=Bool.eq_false_iff.mpr c7;subst c7;rw [if_neg (show ¬ (false=true) by decide)] at H;have H':=mk0 H;clear H;go_wp2;go_meet
     case rel=>exact ⟨_,(a0),(by rfl),H',⟨by have:=HJ1.out;first|omega|exact Nat.le_refl _⟩,by repeat (first|exact Drawn0.refl _|apply Drawn0.step)⟩
    subst c7;rw [if_pos rfl] at H;by_cases c8:1≤(a0.size:Int)
    rotate_left
    ·rw [if_neg c8] at H;exact absurd H (by simp)
    rw [if_pos c8] at H;have c8b0:=eq_true c8;have c8b1:decide (1≤(a0.size:Int))=true:=decide_eq_true c8;clear c8;have H':=mk0 H;clear H;go_wp2;go_meet
    case rel=>exact ⟨_,(a0.extract 1 a0.size),(by rfl),H',⟨by have:=HJ1.out;first|omega|exact Nat.le_refl _⟩,by repeat (first|exact Drawn0.refl _|apply Drawn0.step)⟩
   case rest =>
    clear HC6;obtain ⟨kq,x0_5,rfl,HA,HJ5,⟨mc5,rfl⟩⟩:=hcut;cases kq with
    | zero=>exact absurd HA.out (by simp [j2q.j1])
    | succ kj5 =>
     have H:=HA.out;clear HA;simp only [j2q.j1] at H;replace H:=Option.bind_eq_some_iff.mp H;obtain ⟨⟨t101,t102⟩,A90,H⟩:=H;(try dsimp only at H);have A9:=mk0 A90;clear A90;by_cases c10:t102=true
     rotate_left
     ·replace c10:=Bool.eq_false_iff.mpr c10;subst c10;rw [if_neg (show ¬ (false=true) by decide)] at H;simp only [Option.some.injEq,Prod.mk.injEq] at H;obtain ⟨rfl,rfl⟩:=H;go_wp2_with (first|((with_reducible refine j1u (f:=15) rfl ?_);refine j2t (some 19) rfl rfl Tryd.func15 zq17 rfl #[.string x0_5] rfl zq2 ?_;(with_reducible refine (j2h.calls kj5 x0_5 t101 false _ A9.out).mono ?_);rintro e w' ⟨rfl,⟨nd,rfl⟩⟩;refine ⟨_,rfl,?_⟩))
      go_ret2;exact zl15
     subst c10;rw [if_pos rfl] at H;have HC11:=mk0 H;clear H;go_upto_region 7 with (first|((with_reducible refine j1u (f:=15) rfl ?_);refine j2t (some 19) rfl rfl Tryd.func15 zq17 rfl #[.string x0_5] rfl zq2 ?_;(with_reducible refine (j2h.calls kj5 x0_5 t101 true _ A9.out).mono ?_);rintro e w' ⟨rfl,⟨nd,rfl⟩⟩;refine ⟨_,rfl,?_⟩))
     (try simp only [Act.put,List.setIfInBounds_toArray,List.set_cons_zero,List.set_cons_succ]);go_cut [25] (fun v25 wc=>∃ (kq:Nat) (x25_10:Bool),v25 = .bool x25_10∧Aside0 (j2q.j2 kq x4_1 t101 x25_10=some (r1,r2))∧Aside0 (kq≤kj5)∧Drawn0 w wc)
     case first =>
      have H:=HC11.out;clear HC11;by_cases c12:x4_1=true
      ·subst c12;rw [if_pos rfl] at H;have H':=mk0 H;clear H;go_wp2;go_meet
       case rel=>exact ⟨_,(decide (t101≤9223372036854775808)),(by rfl),H',⟨by have:=HJ1.out;have:=HJ5.out;first|omega|exact Nat.le_refl _⟩,by repeat (first|exact Drawn0.refl _|apply Drawn0.step)⟩
      replace c12:=Bool.eq_false_iff.mpr c12;subst c12;rw [if_neg (show ¬ (false=true) by decide)] at H;have H':=mk0 H;clear H;go_wp2;go_meet
      case rel=>exact ⟨_,(false),(by rfl),H',⟨by have:=HJ1.out;have:=HJ5.out;first|omega|exact Nat.le_refl _⟩,by repeat (first|exact Drawn0.refl _|apply Drawn0.step)⟩
     case rest =>
      clear HC11;obtain ⟨kq,x25_10,rfl,HA,HJ10,⟨mc10,rfl⟩⟩:=hcut;cases kq with
      | zero=>exact absurd HA.out (by simp [j2q.j2])
      | succ kj10 =>
       have H:=HA.out;clear HA;simp only [j2q.j2] at H;by_cases c13:x25_10=true
       ·exact zl19
       replace c13:=Bool.eq_false_iff.mpr c13;subst c13;rw [if_neg (show ¬ (false=true) by decide)] at H;by_cases c14:x4_1=true
       ·subst c14;rw [if_pos rfl] at H;simp only [Option.some.injEq,Prod.mk.injEq] at H;obtain ⟨rfl,rfl⟩:=H;go_wp2;go_ret2;exact ⟨by rfl,by repeat (first|exact Drawn0.refl _|apply Drawn0.step)⟩
       replace c14:=Bool.eq_false_iff.mpr c14;subst c14;rw [if_neg (show ¬ (false=true) by decide)] at H;by_cases c15:t101<9223372036854775808
       ·rw [if_pos c15] at H;have c15b0:decide (t101<9223372036854775808)=true:=decide_eq_true c15;clear c15;simp only [Option.some.injEq,Prod.mk.injEq] at H;obtain ⟨rfl,rfl⟩:=H;go_wp2;go_ret2;exact ⟨by rfl,by repeat (first|exact Drawn0.refl _|apply Drawn0.step)⟩
       rw [if_neg c15] at H;have c15b0:decide (t101<9223372036854775808)=false:=decide_eq_false c15;clear c15;simp only [Option.some.injEq,Prod.mk.injEq] at H;obtain ⟨rfl,rfl⟩:=H;go_wp2;go_ret2;exact zl15
end Go.Proofs.YthmjfmpgmcgonaaDoor.K
end
section
namespace Go.Proofs.YthmjfmpgmcgonaaDoor.J
open Go.RowKit Go.Proofs.YthmjfmpgmcgonaaDoor.K Go.Proofs.YthmjfmpgmcgonaaDoorW.PrintWords Go.Proofs.YthmjfmpgmcgonaaDoorW.PrintLast
set_option linter.unusedVariables false
set_option linter.unusedSimpArgs false
set_option linter.unusedSectionVars false

def uL : Int → List Int→Option Int
  | n,[]=>some n
  | n,c :: r=>if 48≤c∧c≤57 then (if n>(18446744073709551615 - (c - 48)) / 10 then none else uL (n*10+(c - 48)) r) else none
def pI (l : List Int):Option Int :=
  if l=[] then none else if l.headD 0=45 then (if l.tail=[] then none else (uL 0 l.tail).bind fun n=>if n≤9223372036854775808 then some (-n) else none)
  else (uL 0 l).bind fun n=>if n≤9223372036854775807 then some n else none
theorem iuw {x : Int} (h:0≤x∧x<18446744073709551616):IntKind.u64.wrap x=x:=by
 have e:IntKind.u64.wrap x=x % 18446744073709551616:=by simp [IntKind.wrap,IntKind.bits,IntKind.signed]
 rw [e];omega
theorem iuw2 {x : Int}:IntKind.u64.wrap x=x % 18446744073709551616:=by simp [IntKind.wrap,IntKind.bits,IntKind.signed]
theorem j3l {α : Type} {g:Nat→Option α} {r:α} (h:Ev (fun k=>g (k+1)) r):Ev g r:=Ev.step (fun _=>rfl) h
theorem uL_no {n c : Int} {r:List Int} (h:¬ (48≤c∧c≤57)):uL n (c :: r)=none:=by rw [uL,if_neg h]
theorem uL_dig {n c : Int} {r:List Int} (h:48≤c∧c≤57) (hn:n≤(18446744073709551615 - (c - 48)) / 10):uL n (c :: r)=uL (n*10+(c - 48)) r:=by rw [uL,if_pos h,if_neg (by omega)]
theorem uL_big {n c : Int} {r:List Int} (h:n>(18446744073709551615 - (c - 48)) / 10):uL n (c :: r)=none:=by
 by_cases hd:48≤c∧c≤57
 rotate_left
 ·rw [uL,if_neg hd]
 rw [uL,if_pos hd,if_pos h]
theorem pI_m (r : List Int):pI (45 :: r)=if r=[] then none else (uL 0 r).bind fun n=>if n≤9223372036854775808 then some (-n) else none:=by
 rw [pI,if_neg (by simp),if_pos (by simp),List.tail_cons]
theorem pI_p {c : Int} {r:List Int} (hc:c≠45):pI (c :: r)=(uL 0 (c :: r)).bind fun n=>if n≤9223372036854775807 then some n else none:=by
 rw [pI,if_neg (by simp),if_neg (by simp [hc])]
theorem uL_range : ∀ (l:List Int) (n m:Int),0≤n→n≤18446744073709551615→uL n l=some m→0≤m∧m≤18446744073709551615
 | [],n,m,h0,h1,h=>by rw [uL] at h;cases h;exact ⟨h0,h1⟩
 | c :: r,n,m,h0,h1,h=>by
  rw [uL] at h
  split at h
  ·split at h
   ·cases h
   ·exact uL_range r _ _ (by omega) (by omega) h
  ·cases h
theorem uL_small : ∀ (l:List Int) (n m:Int) (j:Nat),0≤n→n<(10:Int) ^ j→uL n l=some m→0≤m∧m<(10:Int) ^ (j+l.length)
 | [],n,m,j,h0,h1,h=>by rw [uL] at h;cases h;exact ⟨h0,h1⟩
 | c :: r,n,m,j,h0,h1,h=>by
  rw [uL] at h
  split at h
  ·split at h
   ·cases h
   ·have:=uL_small r _ m (j+1) (by omega) (by rw [Int.pow_succ];omega) h;rw [List.length_cons,show j+(r.length+1)=j+1+r.length by omega];exact this
  ·cases h
theorem ten_le {j : Nat} (h:j≤18):(10:Int) ^ j≤1000000000000000000:=by
 have:(10:Nat) ^ j≤10 ^ 18:=Nat.pow_le_pow_right zq56 h;have h2:((10 ^ j:Nat):Int)≤((10 ^ 18:Nat):Int):=by exact_mod_cast this
 simpa using h2
theorem u64_l0 {s : ByteArray} (hs:s.size≤2147483647):∀ (l:List Int) (i:Nat) (n:Int),From s i l→0≤n→n≤18446744073709551615 →
 Ev (fun k=>j2h.l0 k s n i) ((uL n l).getD 0,(uL n l).isSome):=by
 intro l
 induction l with
 | nil =>
  intro i n h h0 h1;refine j3l ?_;simp only [j2h.l0];refine Ev.congr (fun _=>if_neg (by have:=h.nil;omega)) ?_;exact Ev.now _
 | cons c r ih =>
  intro i n h h0 h1;have hb:=h.bt;have hlt:=h.lt;have hc:=h.head;refine j3l ?_;simp only [j2h.l0,hb];refine Ev.congr (fun _=>if_pos (by omega)) (Ev.congr (fun _=>if_pos (by omega)) ?_);by_cases hd:48≤c∧c≤57
  rotate_left
  ·rw [uL,if_neg hd]
   have e:(fun k=>if c<48 then j2h.j1 k s n i true else j2h.j1 k s n i (decide (c>57)))=fun k=>j2h.j1 k s n i true:=by
    funext k
    split
    ·rfl
    ·rw [decide_eq_true (by omega)]
   rw [e];refine j3l ?_;simp only [j2h.j1];refine Ev.congr (fun _=>if_pos trivial) ?_;exact Ev.now _
  refine Ev.congr (fun _=>if_neg (by omega)) ?_;refine j3l ?_;rw [decide_eq_false (by omega)];simp only [j2h.j1,hb];refine Ev.congr (fun _=>if_neg zq56) (Ev.congr (fun _=>if_pos (by omega)) (Ev.congr (fun _=>if_pos (by omega)) ?_));rw [uL,if_pos hd,Int.emod_eq_of_lt (by omega) (by omega)];by_cases hn:n>(18446744073709551615 - (c - 48)) / 10
  ·refine Ev.congr (fun _=>if_pos hn) ?_;rw [if_pos hn];exact Ev.now _
  refine Ev.congr (fun _=>if_neg hn) ?_;rw [if_neg hn,w64 (by omega),iuw (x:=n*10) (by omega),iuw (by omega)];exact ih (i+1) _ h.tail (by omega) (by omega)
def pw3 (o : Option Int) (ov:Bool):Int × Bool × Bool:=(o.getD 0,o.isSome,o.isNone && ov)
theorem nil_iff (s : ByteArray):s.toList=([]:List UInt8)↔bytesOf s=[]:=by rw [ByteArray.toList_eq,bytesOf,List.map_eq_nil_iff]
theorem u64_eq {s : ByteArray} (hs:s.size≤2147483647):Ev (fun k=>j2h.f k s) (if bytesOf s=[] then (0,false) else ((uL 0 (bytesOf s)).getD 0,(uL 0 (bytesOf s)).isSome)):=by
 unfold j2h.f;by_cases hne:bytesOf s=[]
 ·rw [if_pos hne];exact Ev.congr (fun _=>if_pos ((nil_iff s).mpr hne)) (Ev.now _)
 rw [if_neg hne];exact Ev.congr (fun _=>if_neg (fun h=>hne ((nil_iff s).mp h))) (u64_l0 hs (bytesOf s) 0 0 (From.start s) (by omega) (by omega))
section
variable {x0 : List Int} (hx:x0.length≤2147483647) (h8:∀ x ∈ x0,0≤x∧x≤255)
include h8
theorem rd_drop {i : Nat} {c:Int} {r:List Int} (h:x0.drop i=c :: r):rd x0 i=c∧i<x0.length∧x0.drop (i+1)=r∧0≤c∧c≤255:=by
 have hl:i<x0.length:=by
  have:=congrArg List.length h;simp only [List.length_drop,List.length_cons] at this;omega
 have e:=List.drop_eq_getElem_cons hl;rw [h] at e;injection e with e1 e2
 refine ⟨?_,hl,e2.symm,?_⟩
 ·rw [rd,Int.toNat_natCast,List.getD_eq_getElem?_getD,List.getElem?_eq_getElem hl,e1];rfl
 ·rw [e1];exact h8 _ (List.getElem_mem hl)
include hx
theorem pint_l0 (neg : Bool):∀ (l:List Int) (i j:Nat) (v:Int),x0.drop i=l→i≤x0.length→j+l.length≤18→0≤v→v<(10:Int) ^ j →
 Ev (fun k=>j1c.l0 k x0 v (x0.length:Int) neg i) (match uL v l with|some m=>(if neg=true then -m else m,true,false)|none=>(0,false,false)):=by
 intro l
 induction l with
 | nil =>
  intro i j v h hi hj h0 h1;have hl:=congrArg List.length h;simp only [List.length_drop,List.length_nil] at hl;have:=ten_le (show j≤18 by simpa using hj);refine j3l ?_;simp only [j1c.l0,uL];refine Ev.congr (fun _=>if_neg (by omega)) ?_;cases neg with
  | true =>
   refine Ev.congr (fun _=>if_pos rfl) ?_;rw [w64 (by omega)];exact Ev.now _
  | false=>exact Ev.congr (fun _=>if_neg zq56) (Ev.now _)
 | cons c r ih =>
  intro i j v h hi hj h0 h1;obtain ⟨hb,hlt,ht,hc0,hc1⟩:=rd_drop h8 h;rw [List.length_cons] at hj
  have h17:v<100000000000000000:=by
   have:(10:Nat) ^ j≤10 ^ 17:=Nat.pow_le_pow_right zq56 (by omega);have h2:((10 ^ j:Nat):Int)≤((10 ^ 17:Nat):Int):=by exact_mod_cast this
   have h3:(10:Int) ^ j≤100000000000000000:=by simpa using h2
   omega
  refine j3l ?_;simp only [j1c.l0,hb];refine Ev.congr (fun _=>if_pos (by omega)) (Ev.congr (fun _=>if_pos (by omega)) (Ev.congr (fun _=>if_pos (by omega)) ?_));by_cases hd:48≤c∧c≤57
  rotate_left
  ·refine Ev.congr (fun _=>if_pos (by omega)) ?_;rw [uL_no hd];exact Ev.now _
  refine Ev.congr (fun _=>if_neg (by omega)) ?_;rw [uL_dig hd (by omega),Int.emod_eq_of_lt (by omega) (by omega),w64 (x:=10*v) (by omega),w64 (by omega),w64 (by omega)];have:=ih (i+1) (j+1) (v*10+(c - 48)) ht (by omega) (by omega) (by omega) (by rw [Int.pow_succ];omega);rw [show (10*v+(c - 48))=v*10+(c - 48) by omega];exact this
theorem pint_l1 (neg : Bool):∀ (l:List Int) (i:Nat) (n:Int),x0.drop i=l→i≤x0.length→0≤n→n≤18446744073709551615 →
 ∃ ov,Ev (fun k=>j1c.l1 k neg n x0 (x0.length:Int) i)
  (pw3 ((uL n l).bind fun n=>if neg=true then (if n≤9223372036854775808 then some (-n) else none) else if n≤9223372036854775807 then some n else none) ov):=by
 intro l
 induction l with
 | nil =>
  intro i n h hi h0 h1;have hl:=congrArg List.length h;simp only [List.length_drop,List.length_nil] at hl;refine ⟨true,j3l ?_⟩;simp only [j1c.l1,uL,Option.bind_some];refine Ev.congr (fun _=>if_neg (by omega)) ?_;by_cases hm:n>9223372036854775807
  rotate_left
  ·refine Ev.congr (fun _=>if_neg hm) ?_;cases neg with
   | true =>
    refine Ev.congr (fun _=>if_pos rfl) ?_;simp only [if_true];rw [if_pos (by omega),w64 (x:=n) (by omega),w64 (by omega)];exact Ev.now _
   | false =>
    refine Ev.congr (fun _=>if_neg zq56) ?_;simp only [Bool.false_eq_true,if_false];rw [if_pos (by omega),w64 (x:=n) (by omega)];exact Ev.now _
  refine Ev.congr (fun _=>if_pos hm) ?_;cases neg with
  | true =>
   refine Ev.congr (fun _=>if_pos rfl) (j3l ?_);simp only [if_true];by_cases h8:n=9223372036854775808
   ·subst h8;exact Ev.now _
   rw [if_neg (by omega),beq_eq_false_iff_ne.mpr h8];exact Ev.now _
  | false =>
   refine Ev.congr (fun _=>if_neg zq56) (j3l ?_);simp only [Bool.false_eq_true,if_false];rw [if_neg (by omega)];exact Ev.now _
 | cons c r ih =>
  intro i n h hi h0 h1;obtain ⟨hb,hlt,ht,hc0,hc1⟩:=rd_drop h8 h;by_cases hd:48≤c∧c≤57
  rotate_left
  ·refine ⟨false,j3l ?_⟩;simp only [j1c.l1,hb];refine Ev.congr (fun _=>if_pos (by omega)) (Ev.congr (fun _=>if_pos (by omega)) (Ev.congr (fun _=>if_pos (by omega)) ?_));rw [uL_no hd]
   have e:(fun k=>if c<48 then j1c.j4 k neg n c x0 (x0.length:Int) i true else j1c.j4 k neg n c x0 (x0.length:Int) i (decide (c>57)))=fun k=>j1c.j4 k neg n c x0 (x0.length:Int) i true:=by
    funext k
    split
    ·rfl
    ·rw [decide_eq_true (by omega)]
   rw [e];refine j3l ?_;simp only [j1c.j4,if_true];exact Ev.now _
  have st:∀ {R},Ev (fun k=>j1c.j4 k neg n c x0 (x0.length:Int) i false) R→Ev (fun k=>j1c.l1 k neg n x0 (x0.length:Int) i) R:=fun {R} hR=>by
   refine j3l ?_;simp only [j1c.l1,hb];refine Ev.congr (fun _=>if_pos (by omega)) (Ev.congr (fun _=>if_pos (by omega)) (Ev.congr (fun _=>if_pos (by omega)) (Ev.congr (fun _=>if_neg (by omega)) ?_)));rw [decide_eq_false (by omega)];exact hR
  by_cases hn:n>1844674407370955161
  ·refine ⟨true,st (j3l ?_)⟩;simp only [j1c.j4,Bool.false_eq_true,if_false];refine Ev.congr (fun _=>if_pos hn) ?_;rw [uL_big (by omega)];exact Ev.now _
  by_cases ho:n*10+(c - 48)≤18446744073709551615
  rotate_left
  ·refine ⟨true,st (j3l ?_)⟩;simp only [j1c.j4,Bool.false_eq_true,if_false];refine Ev.congr (fun _=>if_neg hn) ?_;rw [Int.emod_eq_of_lt (by omega) (by omega),iuw (x:=n*10) (by omega),iuw2,uL_big (by omega)];exact Ev.congr (fun _=>if_pos (by omega)) (Ev.now _)
  obtain ⟨ov,hI⟩:=ih (i+1) (n*10+(c - 48)) ht (by omega) (by omega) ho;refine ⟨ov,st (j3l ?_)⟩;simp only [j1c.j4,Bool.false_eq_true,if_false];refine Ev.congr (fun _=>if_neg hn) ?_;rw [Int.emod_eq_of_lt (by omega) (by omega),iuw (x:=n*10) (by omega),iuw (by omega),w64 (by omega),uL_dig hd (by omega)];exact Ev.congr (fun _=>if_neg (by omega)) hI
end
theorem pint_eq {l : List Int} (hx:l.length≤2147483647) (h8:∀ x ∈ l,0≤x∧x≤255):∃ ov,Ev (fun k=>j1c.f k l) ((pI l).getD 0,(pI l).isSome,ov):=by
 unfold j1c.f;cases l with
 | nil=>exact ⟨false,Ev.congr (fun _=>if_pos rfl) (Ev.now _)⟩
 | cons c r =>
  have hrd:rd (c :: r) 0=c:=rfl;have hl1:((c :: r).length:Int)=(r.length:Int)+1:=by simp
  have hs:∀ {R},Ev (fun k=>if c=45 then j1c.j0 k (c :: r) 0 ((c :: r).length:Int) true 1 else j1c.j0 k (c :: r) 0 ((c :: r).length:Int) false 0) R→Ev (fun k=>if ((c :: r).length:Int)=0 then (some ((0:Int),false,false)) else (if 0<((c :: r).length:Int) then (if (rd (c :: r) 0)=45 then (j1c.j0 k (c :: r) 0 ((c :: r).length:Int) true 1) else (j1c.j0 k (c :: r) 0 ((c :: r).length:Int) false 0)) else (none))) R:=fun {R} hR=>by
   rw [hrd];exact Ev.congr (fun _=>if_neg (by omega)) (Ev.congr (fun _=>if_pos (by omega)) hR)
  by_cases hc:c=45
  rotate_left
  ·have e:pI (c :: r)=(uL 0 (c :: r)).bind fun n=>if n≤9223372036854775807 then some n else none:=pI_p hc
   rw [e];by_cases h19:(c :: r).length<19
   rotate_left
   ·obtain ⟨ov,h1⟩:=pint_l1 (x0:=c :: r) hx h8 false (c :: r) 0 0 rfl (by omega) (by omega) (by omega);simp only [Bool.false_eq_true,if_false] at h1;refine ⟨((uL 0 (c :: r)).bind fun n=>if n≤9223372036854775807 then some n else none).isNone && ov,hs (Ev.congr (fun _=>if_neg hc) (j3l ?_))⟩;simp only [j1c.j0,Bool.false_eq_true,if_false];refine Ev.congr (fun _=>if_neg (by omega)) ?_;rw [w64 (by omega)];refine Ev.congr (fun _=>if_neg (by omega)) (j3l ?_);simp only [j1c.j2];exact h1
   have h1:=pint_l0 (x0:=c :: r) hx h8 false (c :: r) 0 0 0 rfl (by simp) (by omega) (by omega) zq56
   have h2:Ev (fun k=>j1c.l0 k (c :: r) 0 ((c :: r).length:Int) false 0) ((((uL 0 (c :: r)).bind fun n=>if n≤9223372036854775807 then some n else none)).getD 0,(((uL 0 (c :: r)).bind fun n=>if n≤9223372036854775807 then some n else none)).isSome,false):=by
    refine Ev_same h1 ?_;cases hu:uL 0 (c :: r) with
    | none=>rfl
    | some m =>
     have hm:=uL_small _ _ _ 0 (by omega) zq56 hu;have:=ten_le (show 0+(c :: r).length≤18 by omega);simp only [Option.bind_some,Bool.false_eq_true,if_false];rw [if_pos (by omega)];rfl
   refine ⟨false,hs (Ev.congr (fun _=>if_neg hc) (j3l ?_))⟩;simp only [j1c.j0];refine Ev.congr (fun _=>if_neg (by omega)) ?_;rw [w64 (by omega)];exact Ev.congr (fun _=>if_pos (by omega)) h2
  have e:pI (c :: r)=if r=[] then none else (uL 0 r).bind fun n=>if n≤9223372036854775808 then some (-n) else none:=by rw [hc,pI_m]
  by_cases hr:r=[]
  ·rw [e,if_pos hr];refine ⟨false,hs (Ev.congr (fun _=>if_pos hc) (j3l ?_))⟩;simp only [j1c.j0];exact Ev.congr (fun _=>if_pos (by rw [hl1,hr];simp)) (Ev.now _)
  have hr0:0<r.length:=List.length_pos_iff.mpr hr;rw [List.length_cons] at hx;rw [e,if_neg hr];by_cases h19:r.length<19
  rotate_left
  ·obtain ⟨ov,h1⟩:=pint_l1 (x0:=r) (by omega) (fun x hx'=>h8 x (by simp [hx'])) true r 0 0 rfl (by omega) (by omega) (by omega);simp only [if_true] at h1;refine ⟨((uL 0 r).bind fun n=>if n≤9223372036854775808 then some (-n) else none).isNone && ov,hs (Ev.congr (fun _=>if_pos hc) (j3l ?_))⟩;simp only [j1c.j0,if_true];refine Ev.congr (fun _=>if_neg (by omega)) ?_;rw [w64 (by omega)];refine Ev.congr (fun _=>if_neg (by omega)) (Ev.congr (fun _=>if_pos (by omega)) (j3l ?_));simp only [j1c.j2];exact h1
  have h1:=pint_l0 (x0:=c :: r) hx h8 true r 1 0 0 rfl (by simp) (by omega) (by omega) zq56
  have h2:Ev (fun k=>j1c.l0 k (c :: r) 0 ((c :: r).length:Int) true 1) ((((uL 0 r).bind fun n=>if n≤9223372036854775808 then some (-n) else none)).getD 0,(((uL 0 r).bind fun n=>if n≤9223372036854775808 then some (-n) else none)).isSome,false):=by
   refine Ev_same h1 ?_;cases hu:uL 0 r with
   | none=>rfl
   | some m =>
    have hm:=uL_small _ _ _ 0 (by omega) zq56 hu;have:=ten_le (show 0+r.length≤18 by omega);simp only [Option.bind_some,if_true];rw [if_pos (by omega)];rfl
  refine ⟨false,hs (Ev.congr (fun _=>if_pos hc) (j3l ?_))⟩;simp only [j1c.j0];refine Ev.congr (fun _=>if_neg (by omega)) ?_;rw [w64 (by omega)];exact Ev.congr (fun _=>if_pos (by omega)) h2
end Go.Proofs.YthmjfmpgmcgonaaDoor.J
end
section
namespace Go.Proofs.YthmjfmpgmcgonaaDoor.Pure
open Go.RowKit Go.Proofs.YthmjfmpgmcgonaaDoor.K Go.Proofs.YthmjfmpgmcgonaaDoor.J Go.Proofs.YthmjfmpgmcgonaaDoorW.PrintWords Go.Proofs.YthmjfmpgmcgonaaDoorW.PrintLast
set_option linter.unusedVariables false
set_option linter.unusedSimpArgs false
theorem str_of {a : Nat} {v:List Int} {p:S27} (h:PV a v p) (hk:p.f0=4):∃ b,Body b∧v=34 :: (b++[34]):=by
 cases h with
 | str hb hv e=>exact ⟨_,hb,hv⟩
 | sca hh e=>subst e;simp only at hk;exfalso;rcases hh with ⟨h,_⟩|⟨h,_⟩|⟨h,_⟩|⟨h,_⟩<;>omega
 | obj0 _ _ e=>subst e;exact absurd hk (by show ¬ (6:Int)=4;decide)
 | obj _ _ _ e=>subst e;exact absurd hk (by show ¬ (6:Int)=4;decide)
 | arr0 _ _ e=>subst e;exact absurd hk (by show ¬ (5:Int)=4;decide)
 | arr _ _ _ e=>subst e;exact absurd hk (by show ¬ (5:Int)=4;decide)
theorem num_of {a : Nat} {v:List Int} {p:S27} (h:PV a v p) (hk:p.f0=3):numL v=some []:=by
 cases h with
 | str hb hv e=>subst e;exact absurd hk (by show ¬ (4:Int)=3;decide)
 | sca hh e=>subst e;simp only at hk;rcases hh with ⟨_,h⟩|⟨h,_⟩|⟨h,_⟩|⟨h,_⟩<;>first|exact h|(exfalso;omega)
 | obj0 _ _ e=>subst e;exact absurd hk (by show ¬ (6:Int)=3;decide)
 | obj _ _ _ e=>subst e;exact absurd hk (by show ¬ (6:Int)=3;decide)
 | arr0 _ _ e=>subst e;exact absurd hk (by show ¬ (5:Int)=3;decide)
 | arr _ _ _ e=>subst e;exact absurd hk (by show ¬ (5:Int)=3;decide)
theorem raw_of {s : ByteArray} {a:Nat} {v1 R1:List Int} {q:S27} (z1:PV a v1 q) (z2:(bytesOf s).drop a=v1++R1):0≤q.f1∧q.f1≤q.f2∧q.f2≤(s.size:Int)∧bytesOf (s.extract q.f1.toNat q.f2.toNat)=v1:=by
 obtain ⟨e1,e2⟩:=z1.at;obtain ⟨c,t,ev,_⟩:=z1.head;have hlen:=congrArg List.length z2;simp only [List.length_drop,List.length_append,bytesOf_length] at hlen;have hv:0<v1.length:=by rw [ev];simp
 have hF:From s a (v1++R1):=⟨by omega,z2⟩;refine ⟨by omega,by omega,by omega,?_⟩;rw [e1,e2,Int.toNat_natCast,Int.toNat_natCast];exact hF.extract
theorem parse_uL : ∀ (l:List UInt8) (acc:Nat),(match Lib.parseUintM (2 ^ 64 - 1) acc l with | .ok u=>some (u:Int)|_=>none)=uL acc (l.map fun b=>(b.toNat:Int))
 | [],acc=>rfl
 | c :: r,acc=>by
  rw [Lib.parseUintM,List.map_cons,uL];by_cases h:48≤c.toNat∧c.toNat≤57
  rotate_left
  ·rw [if_neg h,if_neg (show ¬ ((48:Int)≤(c.toNat:Int)∧(c.toNat:Int)≤57) by omega)]
  rw [if_pos h,if_pos (show (48:Int)≤(c.toNat:Int)∧(c.toNat:Int)≤57 by omega)];by_cases h1:1844674407370955162≤acc
  ·rw [if_pos h1,if_pos (show (acc:Int)>(18446744073709551615 - ((c.toNat:Int) - 48)) / 10 by omega)]
  rw [if_neg h1];by_cases h2:2 ^ 64 - 1<acc*10+(c.toNat - 48)
  ·rw [if_pos h2,if_pos (show (acc:Int)>(18446744073709551615 - ((c.toNat:Int) - 48)) / 10 by omega)]
  rw [if_neg h2,if_neg (show ¬ (acc:Int)>(18446744073709551615 - ((c.toNat:Int) - 48)) / 10 by omega),parse_uL r]
  congr 1
  omega
theorem puF_eq {v : List Int} (h8:∀ x ∈ v,0≤x∧x≤255) (hne:v≠[]):puF v=uL 0 v:=by
 have hb:=bytesOf_strOfNums v h8;have hp:=parse_uL (strOfNums v).data.toList 0;have e:((strOfNums v).data.toList.map fun b=>(b.toNat:Int))=v:=hb;rw [e] at hp
 have h0:Lib.parseUintB 64 (strOfNums v).data.toList=Lib.parseUintM (2 ^ 64 - 1) 0 (strOfNums v).data.toList:=by
  rw [Lib.parseUintB,if_neg];intro e2;apply hne;rw [← hb,bytesOf,e2];rfl
 unfold puF;rw [h0];exact hp
def dgs (v : List Int):List Int:=if v.headD 0=45 then v.tail else v
def allD : List Int→Bool
  | []=>true
  | c :: r=>decide (48≤c∧c≤57) && allD r
theorem uL_not : ∀ (l:List Int) (n:Int),allD l=false→uL n l=none
 | [],n,h=>by cases h
 | c :: r,n,h=>by
  by_cases hd:48≤c∧c≤57
  rotate_left
  ·exact uL_no hd
  rw [allD,decide_eq_true hd,Bool.true_and] at h
  rw [uL,if_pos hd];split
  ·rfl
  ·exact uL_not r _ h
theorem whole_l0 {s : ByteArray} (hs:s.size≤2147483647) (neg:Bool):∀ (l:List Int) (i:Nat),From s i l→Ev (fun k=>j2l.l0 k s neg (i:Int)) (if allD l=true then (neg,s,true) else (false,⟨#[]⟩,false))
 | [],i,h=>by
  refine Ev_shift ?_;simp only [j2l.l0,allD,if_true];exact Ev.congr (fun _=>if_neg (by have:=h.nil;omega)) (Ev.now _)
 | c :: r,i,h=>by
  have hb:=h.bt;have hlt:=h.lt;refine Ev_shift ?_;simp only [j2l.l0,hb];refine Ev.congr (fun _=>if_pos (by omega)) (Ev.congr (fun _=>if_pos (by omega)) ?_);by_cases h1:c<48
  ·rw [allD,decide_eq_false (by omega)];exact Ev.congr (fun _=>if_pos h1) (Ev.now _)
  by_cases h2:c>57
  ·rw [allD,decide_eq_false (by omega)];exact Ev.congr (fun _=>if_neg h1) (Ev.congr (fun _=>if_pos h2) (Ev.now _))
  rw [allD,decide_eq_true (by omega),Bool.true_and];refine Ev.congr (fun _=>if_neg h1) (Ev.congr (fun _=>if_neg h2) ?_);rw [w64 (by omega)];exact whole_l0 hs neg r (i+1) h.tail
theorem num_ne {v : List Int} (h:numL v=some []):dgs v≠[]:=by
 intro e;cases v with
 | nil=>simp [numL] at h
 | cons c r =>
  unfold dgs at e;rw [List.headD_cons,List.tail_cons] at e;split at e
  ·rename_i hc;subst e;subst hc
   revert h
   decide
  ·cases e
theorem isnum_ev {s : ByteArray} (hs:s.size≤2147483647) (h:numL (bytesOf s)=some []):Ev (fun k=>j3i.f k s) true:=by
 have h0:=((number_P (s:=s) (by omega) (Suf.start s)).1 [] h).1;have e0:P s (bytesOf s)=0:=by unfold P;rw [bytesOf_length];omega
 have e1:P s []=(s.size:Int):=by unfold P;simp
 rw [e0,e1] at h0;unfold j3i.f;refine Ev.bind h0 (Ev.congr (fun _=>if_pos rfl) ?_);simp only [beq_self_eq_true];exact Ev.now _
theorem whole_ev {s : ByteArray} (hs:s.size≤2147483647) (h:numL (bytesOf s)=some []):∃ (neg:Bool) (d:ByteArray) (wh:Bool),Ev (fun k=>j2l.f k s) (neg,d,wh)∧wh=allD (dgs (bytesOf s)) ∧
 (wh=true→neg=decide ((bytesOf s).headD 0=45)∧bytesOf d=dgs (bytesOf s))∧(wh=false→d=⟨#[]⟩)∧d.size≤2147483647:=by
 have h0:=From.start s
 have fin:∀ (t:ByteArray) (neg:Bool),t.size≤2147483647→bytesOf t=dgs (bytesOf s)→neg=decide ((bytesOf s).headD 0=45)→Ev (fun k=>j2l.f k s) (if allD (bytesOf t)=true then (neg,t,true) else (false,⟨#[]⟩,false))→∃ (neg:Bool) (d:ByteArray) (wh:Bool),Ev (fun k=>j2l.f k s) (neg,d,wh)∧wh=allD (dgs (bytesOf s)) ∧
  (wh=true→neg=decide ((bytesOf s).headD 0=45)∧bytesOf d=dgs (bytesOf s))∧(wh=false→d=⟨#[]⟩)∧d.size≤2147483647:=fun t neg ht hb hn hE=>by
  rw [hb] at hE;cases ha:allD (dgs (bytesOf s)) with
  | true =>
   rw [ha,if_pos rfl] at hE;exact ⟨neg,t,true,hE,rfl,fun _=>⟨hn,hb⟩,fun x=>(by cases x),ht⟩
  | false =>
   rw [ha,if_neg zq56] at hE;exact ⟨false,⟨#[]⟩,false,hE,rfl,fun x=>(by cases x),fun _=>rfl,by decide⟩
 obtain ⟨c,r,e⟩:∃ c r,bytesOf s=c :: r:=by
  cases e:bytesOf s with
  | nil=>rw [e] at h;simp [numL] at h
  | cons c r=>exact ⟨c,r,rfl⟩
 have h1:=h0;rw [e] at h1;have hb:bt s 0=c:=h1.bt;have hlt:=h1.lt
 have en:∀ {R},Ev (fun k=>if bt s 0=45 then (if 1≤(s.size:Int) then j2l.j0 k (s.extract 1 s.size) (bt s 0 == 45) else none) else j2l.j0 k s (bt s 0 == 45)) R→Ev (fun k=>j2l.f k s) R:=fun {R} hR=>by
  unfold j2l.f;exact Ev.bind (isnum_ev hs h) (Ev.congr (fun _=>if_pos rfl) (Ev.congr (fun _=>if_pos (by omega)) hR))
 by_cases hc:c=45
 rotate_left
 ·refine fin s false hs (by rw [e];simp [dgs,hc]) (by rw [e];simp [hc]) (en ?_);rw [hb,beq_eq_false_iff_ne.mpr hc];refine Ev.congr (fun _=>if_neg hc) (Ev_shift ?_);simp only [j2l.j0];exact whole_l0 hs false _ 0 (From.start _)
 have ht:bytesOf (s.extract 1 s.size)=r:=by
  have h2:=h1.tail;have:=(show From s (0+1) (r++[]) by rw [List.append_nil];exact h2).extract;have hl:=h2.len;rw [show 0+1+r.length=s.size by omega] at this;exact this
 have hsz:(s.extract 1 s.size).size≤2147483647:=by rw [← bytesOf_length,ht];have:=h1.tail.len;omega
 refine fin (s.extract 1 s.size) true hsz (by rw [ht,e];simp [dgs,hc]) (by rw [e];simp [hc]) (en ?_);rw [hb,beq_iff_eq.mpr hc];refine Ev.congr (fun _=>if_pos hc) (Ev.congr (fun _=>if_pos (by omega)) (Ev_shift ?_));simp only [j2l.j0];exact whole_l0 hsz true _ 0 (From.start _)
def uV (v : List Int):Int × Bool:=if (pI v).isSome=true then (if (pI v).getD 0<0 then (0,false) else (IntKind.u64.wrap ((pI v).getD 0),true)) else ((puF v).getD 0,(puF v).isSome)
theorem u_ev {l : List Int} {a:Nat} {v1 C r1:List Int} {q:S27} {i:Nat} (z1:PV a v1 q) (z3:l.drop i=C++(v1++r1)) (z4:Bl C) (z5:Dl r1) (h8:∀ x ∈ v1,0≤x∧x≤255) (hl:v1.length≤2147483647) :
 Ev (fun k=>guF k (getR false l (i:Int))) (if q.f0=3 then uV v1 else (0,false)):=by
 by_cases c4:q.f0=4
 ·obtain ⟨b,hb,rfl⟩:=str_of z1 c4;rw [if_neg (by omega),jget_str (r:=r1) hb (by rw [z3];simp) z4];exact Ev.now _
 rw [jget_at z1 z3 z4 z5 c4];by_cases c3:q.f0=3
 rotate_left
 ·rw [if_neg c3];refine Ev.congr (fun _=>?_) (Ev.now _);simp only [guF];exact if_neg (fun h=>c3 (by unfold jkind at h;repeat' split at h<;>first|assumption|omega))
 rw [if_pos c3,c3];obtain ⟨ov,hE⟩:=pint_eq hl h8;have hB:Ev (fun k=>(j1c.f k v1).bind fun t=>some (if t.2.1=true then (if t.1<0 then (0,false) else (IntKind.u64.wrap t.1,true)) else ((puF v1).getD 0,(puF v1).isSome))) (uV v1):=Ev.bind hE (Ev.now _);refine Ev.congr (fun _=>?_) hB;simp only [guF];exact if_pos zq56
theorem uV_eq {v : List Int} (h8:∀ x ∈ v,0≤x∧x≤255) (h:numL v=some []):uV v=if v.headD 0=45 then (if uL 0 (dgs v)=some 0 then (0,true) else (0,false)) else ((uL 0 (dgs v)).getD 0,(uL 0 (dgs v)).isSome):=by
 have hne:=num_ne h;have hv:v≠[]:=fun e=>by rw [e] at h;simp [numL] at h
 have hp:=puF_eq h8 hv
 obtain ⟨c,r,rfl⟩:∃ c r,v=c :: r:=by
  cases v with
  | nil=>exact absurd rfl hv
  | cons c r=>exact ⟨c,r,rfl⟩
 have wr:∀ n:Int,0≤n→n≤9223372036854775807→IntKind.u64.wrap n=n:=fun n h0 h1=>iuw (by omega)
 by_cases hc:c=45
 rotate_left
 ·have hd:dgs (c :: r)=c :: r:=by unfold dgs;rw [List.headD_cons,if_neg hc]
  rw [hd,List.headD_cons,if_neg hc];unfold uV;rw [hp,pI_p hc];cases hu:uL 0 (c :: r) with
  | none=>rfl
  | some n =>
   have hr:=uL_range _ _ _ (by omega) (by omega) hu;simp only [Option.bind_some];by_cases hn:n≤9223372036854775807
   rotate_left
   ·rw [if_neg hn];rfl
   rw [if_pos hn];simp only [Option.isSome_some,Option.getD_some,if_true];rw [if_neg (by omega),wr n hr.1 hn]
 subst hc;have hd:dgs (45 :: r)=r:=rfl;rw [hd] at hne ⊢;rw [List.headD_cons,if_pos rfl];have hp0:puF (45 :: r)=none:=by rw [hp];exact uL_no zq56
 unfold uV;rw [hp0,pI_m,if_neg hne];cases hu:uL 0 r with
 | none=>rfl
 | some n =>
  have hr:=uL_range _ _ _ (by omega) (by omega) hu;simp only [Option.bind_some];by_cases hn:n≤9223372036854775808
  rotate_left
  ·rw [if_neg hn,if_neg (show ¬ some n=some 0 by simp;omega)];rfl
  rw [if_pos hn];simp only [Option.isSome_some,Option.getD_some,if_true,Option.some.injEq];by_cases h0:n=0
  rotate_left
  ·rw [if_pos (by omega),if_neg h0]
  subst h0;rw [if_neg zq56,if_pos rfl];rfl
theorem FnJqUint : laws_FnJqUint.Pure := by
 intro a0 l1 _;have j0t:Ev (fun k=>laws_FnJqUint.j0 k a0 l1 true) true:=Ev_shift (by simp only [laws_FnJqUint.j0,if_true];exact Ev.now _)
 have hone:Ev (fun k=>j3j.f k (⟨#[49,56,52,52,54,55,52,52,48,55,51,55,48,57,53,53,49,54,49,53]⟩:ByteArray) ([]:List ByteArray)) (18446744073709551615,true):=by
  have eb:bytesOf (⟨#[49,56,52,52,54,55,52,52,48,55,51,55,48,57,53,53,49,54,49,53]⟩:ByteArray)=[49,56,52,52,54,55,52,52,48,55,51,55,48,57,53,53,49,54,49,53]:=by decide
  have hnum:numL [49,56,52,52,54,55,52,52,48,55,51,55,48,57,53,53,49,54,49,53]=some []:=by decide
  have h8:∀ x ∈ ([49,56,52,52,54,55,52,52,48,55,51,55,48,57,53,53,49,54,49,53]:List Int),0≤x∧x≤255:=by decide
  have hv:PV 0 [49,56,52,52,54,55,52,52,48,55,51,55,48,57,53,53,49,54,49,53] ⟨3,((0:Nat):Int),((0+([49,56,52,52,54,55,52,52,48,55,51,55,48,57,53,53,49,54,49,53]:List Int).length:Nat):Int),[],[]⟩ := .sca (.inl ⟨rfl,hnum⟩) rfl;have hu:=u_ev (l:=[49,56,52,52,54,55,52,52,48,55,51,55,48,57,53,53,49,54,49,53]) (C:=[]) (r1:=[]) (i:=0) hv rfl Bl.nil Dl_nil h8 zq56;rw [if_pos rfl,uV_eq h8 hnum] at hu;unfold j3j.f jquintF;refine Ev.congr (fun _=>if_pos ⟨by decide,by decide,fun x hx=>(by simp at hx)⟩) ?_;refine Ev.bind (a:=((0:Nat):Int)) (Ev.congr (fun k=>?_) (Ev.now _)) ?_
  ·rw [sK,if_pos rfl];rfl
  ·rw [eb];exact Ev_same hu zq56
 have main:Ev (fun k=>laws_FnJqUint.f k a0 l1) true:=by
  unfold laws_FnJqUint.f;by_cases c1:(a0.size:Int)>2147483647
  ·exact Ev.congr (fun _=>if_pos c1) j0t
  refine Ev.congr (fun _=>if_neg c1) ?_;have hs:a0.size≤2147483647:=by omega
  obtain ⟨b,hb,hfit⟩:=fits_eq l1;refine Ev.bind hb ?_;cases b with
  | false=>exact j0t
  | true =>
   obtain ⟨hl,hk⟩:=hfit rfl;obtain ⟨q,ok,h1,h2⟩:=jqfound_eq hs hl hk;refine Ev_shift ?_;simp only [laws_FnJqUint.j0,Bool.not_true,Bool.false_eq_true,if_false];refine Ev.bind h1 ?_;cases ok with
   | false=>exact Ev.congr (fun _=>if_neg (by simp)) (Ev.now _)
   | true =>
    refine Ev.congr (fun _=>if_pos rfl) ?_;obtain ⟨hsz,_,B,v,B',p,hL,hB,hB',hv,hS⟩:=h2 rfl;obtain ⟨i,a,v1,C,r1,R1,z1,z2,z3,z4,z5,z6⟩:=seek_ev hs hl hk hL hB hB' hv hS;obtain ⟨w1,w2,w3,w4⟩:=raw_of z1 z2;have hvr:∀ x ∈ v1,0≤x∧x≤255:=fun x hx=>bytesOf_range a0 x (List.mem_of_mem_drop (i:=a) (by rw [z2];simp [hx]))
    have hvl:v1.length≤a0.size:=by
     have:=congrArg List.length z2;simp only [List.length_drop,List.length_append,bytesOf_length] at this;omega
    have hg:Ev (fun k=>j3j.f k a0 l1) (if q.f0=3 then uV v1 else (0,false)):=by
     unfold j3j.f jquintF;exact Ev.congr (fun _=>if_pos ⟨hs,hl,hk⟩) (Ev.bind z6 (u_ev z1 z3 z4 z5 hvr (by omega)))
    refine Ev.bind hg (Ev.bind hone ?_);by_cases c3:q.f0=3
    rotate_left
    ·simp only [if_neg c3];refine Ev.congr (fun _=>?_) (Ev.now _);simp
    simp only [if_pos c3];refine Ev.congr (fun _=>if_pos w1) (Ev.congr (fun _=>if_pos w2) (Ev.congr (fun _=>if_pos w3) ?_));have hnum:=num_of z1 c3;have hsz1:(a0.extract q.f1.toNat q.f2.toNat).size≤2147483647:=by rw [← bytesOf_length,w4];omega
    obtain ⟨neg,d,wh,hW,hw1,hw2,hw3,hd⟩:=whole_ev hsz1 (by rw [w4];exact hnum);rw [w4] at hw1 hw2;rw [uV_eq hvr hnum];refine Ev.bind hW (Ev.bind (u64_eq hd) ?_);cases wh with
    | false =>
     have ed:=hw3 rfl;subst ed;have hu0:uL 0 (dgs v1)=none:=uL_not _ _ hw1.symm;have e0:bytesOf (⟨#[]⟩:ByteArray)=[]:=rfl;rw [hu0,if_pos e0];refine Ev.congr (fun _=>?_) (Ev.now _);by_cases hh:v1.headD 0=45<;>simp [hh]
    | true =>
     obtain ⟨en,eb⟩:=hw2 rfl;rw [eb,if_neg (num_ne hnum)];refine Ev.congr (fun _=>?_) (Ev.now _);by_cases hh:v1.headD 0=45
     rotate_left
     ·rw [decide_eq_false hh] at en;subst en;rw [if_neg hh];cases hu:uL 0 (dgs v1) with
      | none=>simp
      | some n=>simp
     rw [decide_eq_true hh] at en;subst en;rw [if_pos hh];cases hu:uL 0 (dgs v1) with
     | none=>simp
     | some n =>
      by_cases h0:n=0
      rotate_left
      ·simp [h0]
      subst h0;simp
 exact main.rounds
end Go.Proofs.YthmjfmpgmcgonaaDoor.Pure
end
