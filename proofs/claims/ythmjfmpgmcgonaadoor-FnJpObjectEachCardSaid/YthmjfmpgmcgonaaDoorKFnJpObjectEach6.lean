/- The words, walks and laws that the proof rests on, laid together (part 6). -/
import Derived.Test.YthmjfmpgmcgonaaDoorKFnJpObjectEach5
section
namespace Go.Proofs.YthmjfmpgmcgonaaDoor.J
open Go.RowKit Go.Proofs.YthmjfmpgmcgonaaDoor.K Go.Proofs.YthmjfmpgmcgonaaDoorW.PrintWords Go.Proofs.YthmjfmpgmcgonaaDoorW.PrintLast
set_option linter.unusedVariables false
set_option linter.unusedSimpArgs false
set_option linter.unusedSectionVars false

def rawL (k : Int) (v:List Int):List Int:=if k=4 then (v.drop 1).take (v.length - 2) else v
def ToldO (L l : List Int) (q:S49) (p:S27) (x:OC):Prop :=
  ∃ (a:Nat) (v R:List Int),PV a v p∧L.drop a=v++R∧x.kx=nmB L q∧x.kd=jkind p.f0∧(l.drop x.vo).take x.vn=rawL p.f0 v
theorem raw_at {l v r:List Int} {q B:Nat} {k:Int} (h:l.drop (q+B)=v++r) (h2:k=4→2≤v.length) (kx:List Int) :
 (l.drop (ocOf ⟨jkind k,B+v.length,true⟩ q B kx).vo).take (ocOf ⟨jkind k,B+v.length,true⟩ q B kx).vn=rawL k v:=by
 unfold ocOf rawL vB vN;by_cases hk:k=4
 rotate_left
 ·have hk1:jkind k≠1:=fun h=>hk (jk_str.mp h)
  simp only [hk1,hk,if_false];rw [show B+v.length - B=v.length by omega,h];simp
 have hk1:jkind k=1:=jk_str.mpr hk;have h3:=h2 hk;subst hk;simp only [hk1,if_true];rw [show B+v.length - B - 2=v.length - 2 by omega,← Nat.add_assoc,← List.drop_drop,h,List.drop_append_of_le_length (by omega),List.take_append_of_le_length (by rw [List.length_drop];omega)]
inductive OL (L l : List Int):List S49→List S27→List OC→Prop
  | nil:OL L l [] [] []
  | cons {q:S49} {p:S27} {x:OC} {ns:List S49} {ps:List S27} {cs:List OC}:ToldO L l q p x→OL L l ns ps cs→OL L l (q :: ns) (p :: ps) (x :: cs)
theorem OL.len {L l : List Int} {ns:List S49} {ps:List S27} {cs:List OC} (h:OL L l ns ps cs):cs.length=ps.length∧ns.length=ps.length:=by
 induction h with
 | nil=>exact ⟨rfl,rfl⟩
 | cons _ _ ih=>simp [ih]
theorem OL.get {L l : List Int} {ns:List S49} {ps:List S27} {cs:List OC} (h:OL L l ns ps cs):∀ {j:Nat} {q:S49} {p:S27} {x:OC},ns[j]? = some q→ps[j]? = some p→cs[j]? = some x→ToldO L l q p x:=by
 induction h with
 | nil=>intro j q p x h;simp at h
 | cons h1 _ ih =>
  intro j q p x h2 h3 h4;cases j with
  | zero =>
   simp only [List.getElem?_cons_zero,Option.some.injEq] at h2 h3 h4;subst h2 h3 h4;exact h1
  | succ j=>exact ih (by simpa using h2) (by simpa using h3) (by simpa using h4)
section
variable {sq : Bool} {un:List Int→Option (Option (List Int))} {L l:List Int} (hun:∀ b,Body b→(∀ x ∈ b,0≤x∧x≤255)→b.length≤l.length→un b=some (some (unqL b))) (hlr:∀ x ∈ l,0≤x∧x≤255)
include hun hlr
theorem mem_name {b B x:List Int} {i:Nat} (hb:Body b) (hB:Bl B) (h:l.drop i=34 :: (b++34 :: (B++58 :: x))):oA un l i=some (unqL b,i+b.length+2+B.length+1):=by
 have hd:=drop_str h;have htk:(l.drop (i+1)).take (b.length+1 - 1)=b:=by rw [j4e h];simp
 have hbl:b.length≤l.length:=by
  have:=congrArg List.length h;simp only [List.length_drop,List.length_cons,List.length_append] at this;omega
 have hbr:∀ y ∈ b,0≤y∧y≤255:=fun y hy=>hlr y (List.mem_of_mem_drop (i:=i) (by rw [h];simp [hy]))
 have hk:oKey un (decide (92 ∈ b)) ((l.drop (i+1)).take (b.length+1 - 1))=some (unqL b):=by
  rw [htk];unfold oKey;by_cases h92:92 ∈ b
  rotate_left
  ·rw [if_neg (by simp [h92]),unqL_id h92]
  rw [if_pos (by simp [h92]),hun b hb hbr hbl];rfl
 have hs:strE 34 (l.drop (i+1)) 0 false false=(((b.length+1:Nat):Int),decide (92 ∈ b)):=by
  rw [j4e h,strE_body hb,Nat.zero_add,Bool.false_or]
 have hn:nT (l.drop (i+1+(b.length+1))) 0=(B.length:Int):=by
  rw [hd,nT_bl hB zq50,Nat.zero_add]
 have hg:l.getD (i+1+(b.length+1)+B.length) 0=58:=j3w (j2z hd);rw [oA_eq (drop_lt h) (j3w h) hs hk hn hg,show i+1+(b.length+1)+B.length+1=i+b.length+2+B.length+1 by omega]
theorem mem_val {a q : Nat} {B v r R:List Int} {p:S27} {s:S49} (hB:Bl B) (hv:PV a v p) (hL:L.drop a=v++R) (h:l.drop q=B++(v++r)) (hr:Dl r) (hs:∀ b,nmB L s=b→True) :
 oB sq l q=some (⟨jkind p.f0,B.length+v.length,true⟩,B.length)∧ToldO L l s p (ocOf ⟨jkind p.f0,B.length+v.length,true⟩ q B.length (nmB L s)):=by
 obtain ⟨c,t,ev,hc⟩:=hv.head;refine ⟨oB_eq ?_ (gT_PV hv (by rw [h,List.drop_left]) hr) rfl,a,v,R,hv,hL,rfl,rfl,raw_at (r:=r) (j2z h) (fun hk=>hv.str_len hk) _⟩;rw [h,ev,List.cons_append,nT_bl hB hc.nb,Nat.zero_add]
theorem mems_calls : ∀ (n:Nat) (a i:Nat) (m R r:List Int) (ns:List S49) (ps:List S27),m.length≤n→PM a m ns ps→L.drop a=m++R→l.drop i=m++r→∃ cs,oM sq un l n i=some cs∧OL L l ns ps cs:=by
 intro n
 induction n with
 | zero =>
  intro a i m R r ns ps hn h;cases h<;>(subst_vars;simp at hn)
 | succ n ih =>
  intro a i m R r ns ps hn h hL hl;cases h with
  | @one _ _ b B1 B2 v B3 p _ _ hb h1 h2 h3 hv e en ep =>
   subst e en ep;have hnm:nmB L ⟨(a:Int),((a+b.length+2:Nat):Int)⟩=unqL b:=nmB_eq (x:=34 :: (B1++58 :: (B2++(v++(B3++[125]))))++R) zq82;have hA:=mem_name hun hlr hb h1 (x:=B2++(v++(B3++125 :: r))) (i:=i) (by rw [hl];simp)
   have hq:l.drop (i+b.length+2+B1.length+1)=B2++(v++(B3++125 :: r)):=by
    have:=j2z (x:=34 :: (b++34 :: (B1++[58]))) (y:=B2++(v++(B3++125 :: r))) (by rw [hl];simp);rw [← this]
    congr 1
    simp only [List.length_cons,List.length_append,List.length_nil];omega
   have hLv:L.drop (a+b.length+2+B1.length+1+B2.length)=v++((B3++[125])++R):=by
    have:=j2z (x:=34 :: (b++34 :: (B1++58 :: B2))) (y:=v++((B3++[125])++R)) zq82;rw [← this]
    congr 1
    simp only [List.length_cons,List.length_append];omega
   obtain ⟨hB,hT⟩:=mem_val hun hlr (sq:=sq) (s:=⟨(a:Int),((a+b.length+2:Nat):Int)⟩) h2 hv hLv hq (Dl_bl h3 (Dl_cons (.inr (.inr rfl)))) (fun _ _=>trivial);rw [hnm] at hT
   have hq2:l.drop (i+b.length+2+B1.length+1+(B2.length+v.length))=B3++125 :: r:=by
    rw [← Nat.add_assoc];exact j2z (j2z hq)
   exact ⟨_,oM_last hA hB (by rw [hq2,nT_bl h3 zq50,Nat.zero_add]) (j3w (j2z hq2)), .cons hT .nil⟩
  | @more _ _ b B1 B2 v B3 B4 m' p _ ns' _ ps' hb h1 h2 h3 h4 hv hm e en ep =>
   subst e en ep;simp only [List.length_cons,List.length_append] at hn;have hnm:nmB L ⟨(a:Int),((a+b.length+2:Nat):Int)⟩=unqL b:=nmB_eq (x:=34 :: (B1++58 :: (B2++(v++(B3++44 :: (B4++m')))))++R) zq82;have hA:=mem_name hun hlr hb h1 (x:=B2++(v++(B3++44 :: (B4++(m'++r))))) (i:=i) (by rw [hl];simp)
   have hq:l.drop (i+b.length+2+B1.length+1)=B2++(v++(B3++44 :: (B4++(m'++r)))):=by
    have:=j2z (x:=34 :: (b++34 :: (B1++[58]))) (y:=B2++(v++(B3++44 :: (B4++(m'++r))))) (by rw [hl];simp);rw [← this]
    congr 1
    simp only [List.length_cons,List.length_append,List.length_nil];omega
   have hLv:L.drop (a+b.length+2+B1.length+1+B2.length)=v++((B3++44 :: (B4++m'))++R):=by
    have:=j2z (x:=34 :: (b++34 :: (B1++58 :: B2))) (y:=v++((B3++44 :: (B4++m'))++R)) zq82;rw [← this]
    congr 1
    simp only [List.length_cons,List.length_append];omega
   obtain ⟨hB,hT⟩:=mem_val hun hlr (sq:=sq) (s:=⟨(a:Int),((a+b.length+2:Nat):Int)⟩) h2 hv hLv hq (Dl_bl h3 (Dl_cons (.inl rfl))) (fun _ _=>trivial);rw [hnm] at hT
   have hq2:l.drop (i+b.length+2+B1.length+1+(B2.length+v.length))=B3++44 :: (B4++(m'++r)):=by
    rw [← Nat.add_assoc];exact j2z (j2z hq)
   have hq3:=j4e (j2z hq2)
   have hLd:L.drop (a+b.length+2+B1.length+1+B2.length+v.length+B3.length+1+B4.length)=m'++R:=by
    have:=j2z (x:=34 :: (b++34 :: (B1++58 :: (B2++(v++(B3++44 :: B4)))))) (y:=m'++R) zq82;rw [← this]
    congr 1
    simp only [List.length_cons,List.length_append];omega
   obtain ⟨cs,h8,h9⟩:=ih _ _ m' R r ns' ps' (by omega) hm hLd (j2z hq3)
   obtain ⟨t,em⟩:∃ t,m'=34 :: t:=by
    cases hm with
    | one _ _ _ _ _ e _ _=>exact ⟨_,e⟩
    | more _ _ _ _ _ _ _ e _ _=>exact ⟨_,e⟩
   have h5:nT (l.drop (i+b.length+2+B1.length+1+(B2.length+v.length)+B3.length+1)) 0=(B4.length:Int):=by
    rw [hq3,em,List.cons_append,nT_bl h4 zq50,Nat.zero_add]
   exact ⟨_,oM_more hA hB (by rw [hq2,nT_bl h3 zq50,Nat.zero_add]) (j3w (j2z hq2)) h5 h8, .cons hT h9⟩
theorem oE_PV {a i : Nat} {v C r R:List Int} {p:S27} (h:PV a v p) (hk:p.f0=6) (hL:L.drop a=v++R) (hl:l.drop i=C++(v++r)) (hC:Bl C):∃ cs,oE sq un l i=some cs∧OL L l p.f3 p.f4 cs:=by
 cases h with
 | str _ _ e=>subst e;simp at hk
 | sca h e=>subst e;simp only at hk;omega
 | arr0 _ _ e=>subst e;simp at hk
 | arr _ _ _ e=>subst e;simp at hk
 | @obj0 _ _ B _ hB e ep =>
  subst e ep;have d0:l.drop i=C++123 :: (B++125 :: r):=by rw [hl];simp
  have d1:=j2z d0;have d2:=j4e d1;rw [oE_eq (by rw [d0,nT_bl hC zq50,Nat.zero_add]) (j3w d1) (by rw [d2,nT_bl hB zq50,Nat.zero_add]),if_pos (j3w (j2z d2))];exact ⟨_,rfl, .nil⟩
 | @obj _ _ B m ns ps _ hB hm e ep =>
  subst e ep;have d0:l.drop i=C++123 :: (B++(m++r)):=by rw [hl];simp
  have d1:=j2z d0;have d2:=j4e d1;have d3:=j2z d2
  obtain ⟨t,em⟩:∃ t,m=34 :: t:=by
   cases hm with
   | one _ _ _ _ _ e _ _=>exact ⟨_,e⟩
   | more _ _ _ _ _ _ _ e _ _=>exact ⟨_,e⟩
  have hg:l.getD (i+C.length+1+B.length) 0=34:=j3w (t:=t++r) (by rw [d3,em];rfl);rw [oE_eq (by rw [d0,nT_bl hC zq50,Nat.zero_add]) (j3w d1) (by rw [d2,em,List.cons_append,nT_bl hB zq50,Nat.zero_add]),if_neg (by rw [hg];decide)]
  have hLd:L.drop (a+1+B.length)=m++R:=by
   have:=j2z (x:=123 :: B) (y:=m++R) zq82;rw [← this]
   congr 1
   simp only [List.length_cons];omega
  have hwl:=congrArg List.length hl;simp only [List.length_drop,List.length_append,List.length_cons] at hwl;exact mems_calls hun hlr l.length _ _ m R r ns ps (by omega) hm hLd d3
end
end Go.Proofs.YthmjfmpgmcgonaaDoor.J
end
section
namespace Go.Proofs.YthmjfmpgmcgonaaDoor.Pure
open Go.RowKit Go.Proofs.YthmjfmpgmcgonaaDoor.K Go.Proofs.YthmjfmpgmcgonaaDoor.J Go.Proofs.YthmjfmpgmcgonaaDoorW.PrintWords Go.Proofs.YthmjfmpgmcgonaaDoorW.PrintLast
set_option linter.unusedVariables false
set_option linter.unusedSimpArgs false
theorem kind_eq {a : Nat} {v:List Int} {p:S27} (h:PV a v p):j4p.f p.f0=some (jkind p.f0):=by
 cases h with
 | str _ _ e=>subst e;rfl
 | sca hh e=>subst e;rcases hh with ⟨h,_⟩|⟨h,_⟩|⟨h,_⟩|⟨h,_⟩<;>(subst h;rfl)
 | obj0 _ _ e=>subst e;rfl
 | obj _ _ _ e=>subst e;rfl
 | arr0 _ _ e=>subst e;rfl
 | arr _ _ _ e=>subst e;rfl
theorem raw_eq {s : ByteArray} (hs:s.size≤2147483647) {a:Nat} {v R:List Int} {p:S27} (h:PV a v p) (hL:(bytesOf s).drop a=v++R):spec_Raw.f s p.f0 p.f1 p.f2 p.f3 p.f4=some (strOfNums (rawL p.f0 v)):=by
 obtain ⟨e1,e2⟩:=h.at;have hp:=h.pos;have hlen:=congrArg List.length hL;simp only [List.length_drop,List.length_append,bytesOf_length] at hlen;unfold spec_Raw.f rawL;by_cases c4:p.f0=4
 rotate_left
 ·have hF:From s a (v++R):=⟨by omega,hL⟩;have hx:=hF.extract;rw [if_neg c4,if_neg c4,e1,e2,if_pos (by omega),if_pos (by omega),if_pos (by omega),Int.toNat_natCast,Int.toNat_natCast,← j4i (s.extract _ _),hx]
 have h2:=h.str_len c4;have x1:wrap64 (p.f1+1)=((a+1:Nat):Int):=by rw [w64 (by omega)];omega
 have x2:wrap64 (p.f2 - 1)=((a+v.length - 1:Nat):Int):=by rw [w64 (by omega)];omega
 rw [if_pos c4,if_pos c4,x1,x2,if_pos (by omega),if_pos (by omega),if_pos (by omega),Int.toNat_natCast,Int.toNat_natCast]
 have hF:From s (a+1) ((v.drop 1).take (v.length - 2)++((v.drop 1).drop (v.length - 2)++R)):=⟨by omega,by
  rw [← List.drop_drop,hL,List.drop_append_of_le_length (by omega),← List.append_assoc,List.take_append_drop]⟩
 have hx:=hF.extract;rw [show a+1+((v.drop 1).take (v.length - 2)).length=a+v.length - 1 by rw [List.length_take,List.length_drop];omega] at hx;rw [← j4i (s.extract _ _),hx]
theorem rd_F {l : List Int} {cs:List OC} {i:Nat} {x:OC} (h:cs[i]? = some x):j2d (cs.map (toS l)) (i:Int)=toS l x:=by
 unfold j2d;rw [Int.toNat_natCast,List.getD_eq_getElem?_getD,List.getElem?_map,h];rfl
theorem each_l0 {s : ByteArray} (hs:s.size≤2147483647) {q:S27} (hq:OKP s q) {cs:List OC} (hO:OL (bytesOf s) (bytesOf s) q.f3 q.f4 cs) (hcl:cs.length≤s.size) :
 ∀ (n i:Nat),cs.length - i≤n→i≤cs.length→Ev (fun k=>laws_FnJpObjectEach.l0 k s (cs.map (toS (bytesOf s))) ((cs.map (toS (bytesOf s))).length:Int) (i:Int) q.f0 q.f1 q.f2 q.f3 q.f4) true:=by
 have hlen:(cs.map (toS (bytesOf s))).length=cs.length:=List.length_map ..;obtain ⟨hl1,hl2⟩:=hO.len;intro n
 induction n with
 | zero =>
  intro i hn hi;refine Ev_shift ?_;simp only [laws_FnJpObjectEach.l0];exact zl22
 | succ n ih =>
  intro i hn hi;refine Ev_shift ?_;simp only [laws_FnJpObjectEach.l0];by_cases hlt:i<cs.length
  rotate_left
  ·exact zl22
  have g1:=rd_ns (ns:=q.f3) (i:=i) (by omega);have g2:=rd_ps (ps:=q.f4) (i:=i) (by omega);obtain ⟨x,g3⟩:∃ x,cs[i]? = some x:=⟨cs[i],List.getElem?_eq_getElem hlt⟩;obtain ⟨a,v,R,hv,hL,t1,t2,t3⟩:=hO.get g1 g2 g3;have hN:=hq.kids.1 _ (List.mem_of_getElem? g1);obtain ⟨u1,u2,u3,u4⟩:=hN.unq hs
  have hsame:j3i.f (strOfNums x.kx) (strOfNums (((bytesOf s).drop x.vo).take x.vn)) x.kd (x.off:Int) s (j2i q.f4 (i:Int)).f0 (j2i q.f4 (i:Int)).f1 (j2i q.f4 (i:Int)).f2 (j2i q.f4 (i:Int)).f3 (j2i q.f4 (i:Int)).f4=some true:=by
   unfold j3i.f;rw [kind_eq hv,Option.bind_some,if_pos t2,raw_eq hs hv hL,Option.bind_some,t3];simp
  have hk:((strOfNums x.kx).toList=(strOfNums (nmB (bytesOf s) (j2s q.f3 (i:Int)))).toList):=by rw [t1]
  refine Ev.congr (fun _=>if_pos (by omega)) (Ev.congr (fun _=>if_pos (by omega)) (Ev.congr (fun _=>if_pos (by omega)) (Ev.congr (fun _=>if_pos (by omega)) (Ev.congr (fun _=>if_pos u1) (Ev.congr (fun _=>if_pos u2) (Ev.congr (fun _=>if_pos u3) (Ev.bind u4 ?_)))))));rw [rd_F g3];refine Ev.congr (fun _=>if_pos hk) (Ev.congr (fun _=>if_pos (by omega)) ?_);refine Ev.bind (Ev.congr (fun _=>hsame) (Ev.now true)) (Ev.congr (fun _=>if_pos rfl) ?_);rw [up31 (by omega)];exact ih (i+1) (by omega) (by omega)
theorem FnJpObjectEach : laws_FnJpObjectEach.Pure := by
 intro a0 l1 _;have j0t:Ev (fun k=>laws_FnJpObjectEach.j0 k a0 l1 true) true:=Ev_shift (by simp only [laws_FnJpObjectEach.j0,if_true];exact Ev.now _);have j1t:∀ q:S27,Ev (fun k=>laws_FnJpObjectEach.j1 k a0 l1 true q.f0 q.f1 q.f2 q.f3 q.f4) true:=fun q=>Ev_shift (by simp only [laws_FnJpObjectEach.j1,if_true];exact Ev.now _)
 have main:Ev (fun k=>laws_FnJpObjectEach.f k a0 l1) true:=by
  unfold laws_FnJpObjectEach.f;by_cases c1:(a0.size:Int)>2147483647
  ·exact Ev.congr (fun _=>if_pos c1) j0t
  refine Ev.congr (fun _=>if_neg c1) ?_;have hs:a0.size≤2147483647:=by omega
  obtain ⟨b,hb,hfit⟩:=fits_eq l1;refine Ev.bind hb ?_;cases b with
  | false=>exact j0t
  | true =>
   obtain ⟨hl,hk⟩:=hfit rfl;obtain ⟨q,ok,h1,h2⟩:=found_eq hs hl hk
   have st:∀ {r},Ev (fun k=>if ok=true then laws_FnJpObjectEach.j1 k a0 l1 (q.f0 != 6) q.f0 q.f1 q.f2 q.f3 q.f4 else laws_FnJpObjectEach.j1 k a0 l1 true q.f0 q.f1 q.f2 q.f3 q.f4) r→Ev (fun k=>laws_FnJpObjectEach.j0 k a0 l1 (!true)) r:=fun {r} hr=>by
    refine Ev_shift ?_;simp only [laws_FnJpObjectEach.j0,Bool.not_true,Bool.false_eq_true,if_false];exact Ev.bind h1 hr
   cases ok with
   | false=>exact st (Ev.congr (fun _=>if_neg (by simp)) (j1t q))
   | true =>
    refine st (Ev.congr (fun _=>if_pos rfl) ?_);by_cases c6:q.f0=6
    rotate_left
    ·have hne:(q.f0 != 6)=true:=by simp [c6]
     rw [hne];exact j1t q
    have hne:(q.f0 != 6)=false:=by simp [c6]
    rw [hne];obtain ⟨hsz,hq,B,v,B',p,hL,hB,hB',hv,hS⟩:=h2 rfl;obtain ⟨i,a,v1,C,r1,R1,z1,z2,z3,z4,z5,z6⟩:=seek_ev hs hl hk hL hB hB' hv hS;have hun:∀ b,Body b→(∀ x ∈ b,0≤x∧x≤255)→b.length≤(bytesOf a0).length→unc ((bytesOf a0).length+10) b=some (some (unqL b)):=fun b h1 h2 h3=>unc_body h1 h2 _ (by omega)
    obtain ⟨cs,hE,hO⟩:=oE_PV (sq:=false) hun (bytesOf_range a0) z1 c6 z2 z3 z4;obtain ⟨hl1,hl2⟩:=hO.len;have hcl:cs.length≤a0.size:=by rw [hl1];exact hq.kids.2.2.2.2
    have hEv:Ev (fun k=>oE false (unc k) (bytesOf a0) i) cs:=⟨(bytesOf a0).length+10,fun k hk=>oE_mono (fun l=>unc_up hk l) false (bytesOf a0) i _ hE⟩
    have hg:Ev (fun k=>j3e.f k a0 l1) (cs.map (toS (bytesOf a0)),true):=by
     unfold j3e.f jpoeF;refine Ev.congr (fun _=>if_pos ⟨hs,hl,hk⟩) (Ev.bind z6 (Ev.congr (fun _=>if_neg (by omega)) ?_));rw [Int.toNat_natCast];obtain ⟨k0,h0⟩:=hEv
     exact ⟨k0,fun k hk=>by
      have e:oE false (unc k) (bytesOf a0) i=some cs:=h0 k hk
      show Option.map _ (oE false (unc k) (bytesOf a0) i)=_
      rw [e];rfl⟩
    refine Ev_shift ?_;simp only [laws_FnJpObjectEach.j1,Bool.false_eq_true,if_false];refine Ev.bind hg (Ev.congr (fun _=>if_pos rfl) ?_);have hln:((((cs.map (toS (bytesOf a0))).length:Int)) != (q.f4.length:Int))=false:=by simp [hl1]
    simp only [hln];refine Ev_shift ?_;simp only [laws_FnJpObjectEach.j2,Bool.false_eq_true,if_false];exact each_l0 hs hq hO hcl _ 0 (Nat.le_refl _) (Nat.zero_le _)
 exact main.rounds
end Go.Proofs.YthmjfmpgmcgonaaDoor.Pure
end
