/- The words, walks and laws that the proof rests on, laid together (part 5). -/
import Derived.Test.YtchhndbekjgimaaKFnPrSpecInPlace4
section
namespace Go.Proofs.Ytchhndbekjgimaa.J
open Go.RowKit Go.Proofs.Ytchhndbekjgimaa.S Go.Proofs.YtchhndbekjgimaaW.PrintWords Go.Proofs.YtchhndbekjgimaaW.PrintLast
set_option linter.unusedVariables false
set_option linter.unusedSimpArgs false
set_option linter.unusedSectionVars false
theorem j3c {B B2 x y:List Int} (h1:Bl B) (h2:Bl B2) (e:B++x=B2++y) (hx:skB x=x) (hy:skB y=y):B=B2∧x=y:=by
 have:x=y:=by rw [← hx,← h1.sk,e,h2.sk,hy]
 subst this;exact ⟨List.append_cancel_right e,rfl⟩
theorem vcut {a a' : Nat} {v v' y y':List Int} {p p':S34} (h:PV a v p) (h':PV a' v' p') (hy:FO y) (hy':FO y') (e:v++y=v'++y'):v=v'∧y=y':=by
 have h1:=cutV h y hy;rw [e,cutV h' y' hy'] at h1;have:=Option.some.inj h1;subst this;exact ⟨List.append_cancel_right e,rfl⟩
theorem SC.hd {k : Int} {v:List Int} (h:SC k v):∃ c t,v=c :: t∧c≠34∧c≠123∧c≠91:=by
 rcases h with ⟨_,h⟩|⟨_,rfl⟩|⟨_,rfl⟩|⟨_,rfl⟩
 ·obtain ⟨c,t,rfl,hc⟩:=numL_head h;refine ⟨c,t,rfl,?_⟩;rcases hc with hc|hc
  ·omega
  simp only [isD,decide_eq_true_eq] at hc;omega
 ·exact ⟨_,_,rfl,by decide⟩
 ·exact ⟨_,_,rfl,by decide⟩
 ·exact ⟨_,_,rfl,by decide⟩
theorem SC.uniq {k k2 : Int} {v:List Int} (h:SC k v) (h2:SC k2 v):k2=k:=by
 rcases h with ⟨rfl,h⟩|⟨rfl,h⟩|⟨rfl,h⟩|⟨rfl,h⟩<;>rcases h2 with ⟨rfl,h2⟩|⟨rfl,h2⟩|⟨rfl,h2⟩|⟨rfl,h2⟩<;>first
  | rfl
  | (subst h;simp [numL,intL,isD,nullW,falseW,trueW] at h2)
  | (subst h2;simp [numL,intL,isD,nullW,falseW,trueW] at h)
theorem invStr {a : Nat} {v x:List Int} {p:S34} (h:PV a v p) (e:v=34 :: x):p=⟨4,(a:Int),((a+v.length:Nat):Int),[],[]⟩:=by
 cases h with
 | str _ _ ep=>exact ep
 | sca hk _=>obtain ⟨c,t,e2,h2⟩:=SC.hd hk;rw [e] at e2;exact absurd (List.cons.inj e2).1.symm h2.1
 | obj0 _ e2 _=>rw [e] at e2;exact absurd (List.cons.inj e2).1 zq50
 | obj _ _ e2 _=>rw [e] at e2;exact absurd (List.cons.inj e2).1 zq50
 | arr0 _ e2 _=>rw [e] at e2;exact absurd (List.cons.inj e2).1 zq50
 | arr _ _ e2 _=>rw [e] at e2;exact absurd (List.cons.inj e2).1 zq50
theorem invSca {a : Nat} {v:List Int} {k:Int} {p:S34} (h:PV a v p) (hk:SC k v):p=⟨k,(a:Int),((a+v.length:Nat):Int),[],[]⟩:=by
 obtain ⟨c,t,e,h2⟩:=SC.hd hk;cases h with
 | str _ e2 _=>rw [e] at e2;exact absurd (List.cons.inj e2).1 h2.1
 | sca hk2 ep=>rw [ep,SC.uniq hk hk2]
 | obj0 _ e2 _=>rw [e] at e2;exact absurd (List.cons.inj e2).1 h2.2.1
 | obj _ _ e2 _=>rw [e] at e2;exact absurd (List.cons.inj e2).1 h2.2.1
 | arr0 _ e2 _=>rw [e] at e2;exact absurd (List.cons.inj e2).1 h2.2.2
 | arr _ _ e2 _=>rw [e] at e2;exact absurd (List.cons.inj e2).1 h2.2.2
theorem invObj {a : Nat} {v x:List Int} {p:S34} (h:PV a v p) (e:v=123 :: x):(∃ B,Bl B∧x=B++[125]∧p=⟨6,(a:Int),((a+v.length:Nat):Int),[],[]⟩)∨(∃ B m ns ps,Bl B∧PM (a+1+B.length) m ns ps∧x=B++m∧p=⟨6,(a:Int),((a+v.length:Nat):Int),ns,ps⟩):=by
 cases h with
 | str _ e2 _=>rw [e] at e2;exact absurd (List.cons.inj e2).1 zq50
 | sca hk _=>obtain ⟨c,t,e2,h2⟩:=SC.hd hk;rw [e] at e2;exact absurd (List.cons.inj e2).1.symm h2.2.1
 | obj0 hB e2 ep=>rw [e] at e2;exact .inl ⟨_,hB,(List.cons.inj e2).2,ep⟩
 | obj hB hm e2 ep=>rw [e] at e2;exact .inr ⟨_,_,_,_,hB,hm,(List.cons.inj e2).2,ep⟩
 | arr0 _ e2 _=>rw [e] at e2;exact absurd (List.cons.inj e2).1 zq50
 | arr _ _ e2 _=>rw [e] at e2;exact absurd (List.cons.inj e2).1 zq50
theorem invArr {a : Nat} {v x:List Int} {p:S34} (h:PV a v p) (e:v=91 :: x):(∃ B,Bl B∧x=B++[93]∧p=⟨5,(a:Int),((a+v.length:Nat):Int),[],[]⟩)∨(∃ B m ps,Bl B∧PE (a+1+B.length) m ps∧x=B++m∧p=⟨5,(a:Int),((a+v.length:Nat):Int),[],ps⟩):=by
 cases h with
 | str _ e2 _=>rw [e] at e2;exact absurd (List.cons.inj e2).1 zq50
 | sca hk _=>obtain ⟨c,t,e2,h2⟩:=SC.hd hk;rw [e] at e2;exact absurd (List.cons.inj e2).1.symm h2.2.2
 | obj0 _ e2 _=>rw [e] at e2;exact absurd (List.cons.inj e2).1 zq50
 | obj _ _ e2 _=>rw [e] at e2;exact absurd (List.cons.inj e2).1 zq50
 | arr0 hB e2 ep=>rw [e] at e2;exact .inl ⟨_,hB,(List.cons.inj e2).2,ep⟩
 | arr hB hm e2 ep=>rw [e] at e2;exact .inr ⟨_,_,_,hB,hm,(List.cons.inj e2).2,ep⟩
theorem invMem {a : Nat} {m b B1 B2 v B3 z:List Int} {c:Int} {p:S34} {a0:Nat} {ns:List S60} {ps:List S34} (h:PM a m ns ps) (hb:Body b) (h1:Bl B1) (h2:Bl B2) (h3:Bl B3) (hv:PV a0 v p) (hc:c=125∨c=44) (e:m=34 :: (b++34 :: (B1++58 :: (B2++(v++(B3++c :: z)))))):∃ p' ns' ps',ns=⟨(a:Int),((a+b.length+2:Nat):Int)⟩ :: ns'∧ps=p' :: ps'∧PV (a+b.length+2+B1.length+1+B2.length) v p'∧((c=125∧ns'=[]∧ps'=[])∨(c=44∧∃ B4 m',Bl B4∧z=B4++m'∧PM (a+b.length+2+B1.length+1+B2.length+v.length+B3.length+1+B4.length) m' ns' ps')):=by
 have hnc:¬ NC c:=by unfold NC;omega
 have hskc:∀ z,skB (c :: z)=c :: z:=fun z=>j3h (by rcases hc with rfl|rfl<;>decide)
 cases h with
 | @one _ _ b' B1' B2' v' B3' p' _ _ hb' h1' h2' h3' hv' e' en ep =>
  rw [e] at e';obtain ⟨rfl,f1⟩:=body_uniq hb hb' (List.cons.inj e').2;obtain ⟨rfl,f2⟩:=j3c h1 h1' f1 (j3h zq50) (j3h zq50);obtain ⟨rfl,f3⟩:=j3c h2 h2' (List.cons.inj f2).2 (hv.sk _) (hv'.sk _);obtain ⟨rfl,f4⟩:=vcut hv hv' (FO_bl h3 hnc _) (FO_bl h3' n125 _) f3;obtain ⟨rfl,f5⟩:=j3c h3 h3' f4 (hskc _) (j3h zq50);exact ⟨p',[],[],en,ep,hv', .inl ⟨(List.cons.inj f5).1,rfl,rfl⟩⟩
 | @more _ _ b' B1' B2' v' B3' B4' m' p' _ ns' _ ps' hb' h1' h2' h3' h4' hv' hm' e' en ep =>
  rw [e] at e';obtain ⟨rfl,f1⟩:=body_uniq hb hb' (List.cons.inj e').2;obtain ⟨rfl,f2⟩:=j3c h1 h1' f1 (j3h zq50) (j3h zq50);obtain ⟨rfl,f3⟩:=j3c h2 h2' (List.cons.inj f2).2 (hv.sk _) (hv'.sk _);obtain ⟨rfl,f4⟩:=vcut hv hv' (FO_bl h3 hnc _) (FO_bl h3' n44 _) f3;obtain ⟨rfl,f5⟩:=j3c h3 h3' f4 (hskc _) (j3h zq50);exact ⟨p',ns',ps',en,ep,hv', .inr ⟨(List.cons.inj f5).1,B4',m',h4',(List.cons.inj f5).2,hm'⟩⟩
theorem invEl {a : Nat} {m v B3 z:List Int} {c:Int} {p:S34} {a0:Nat} {ps:List S34} (h:PE a m ps) (h3:Bl B3) (hv:PV a0 v p) (hc:c=93∨c=44) (e:m=v++(B3++c :: z)):∃ p' ps',ps=p' :: ps'∧PV a v p'∧((c=93∧ps'=[])∨(c=44∧∃ B4 m',Bl B4∧z=B4++m'∧PE (a+v.length+B3.length+1+B4.length) m' ps')):=by
 have hnc:¬ NC c:=by unfold NC;omega
 have hskc:∀ z,skB (c :: z)=c :: z:=fun z=>j3h (by rcases hc with rfl|rfl<;>decide)
 cases h with
 | @one _ _ v' B3' p' _ h3' hv' e' ep =>
  rw [e] at e';obtain ⟨rfl,f1⟩:=vcut hv hv' (FO_bl h3 hnc _) (FO_bl h3' n93 _) e';obtain ⟨rfl,f2⟩:=j3c h3 h3' f1 (hskc _) (j3h zq50);exact ⟨p',[],ep,hv', .inl ⟨(List.cons.inj f2).1,rfl⟩⟩
 | @more _ _ v' B3' B4' m' p' _ ps' h3' h4' hv' hm' e' ep =>
  rw [e] at e';obtain ⟨rfl,f1⟩:=vcut hv hv' (FO_bl h3 hnc _) (FO_bl h3' n44 _) e';obtain ⟨rfl,f2⟩:=j3c h3 h3' f1 (hskc _) (j3h zq50);exact ⟨p',ps',ep,hv', .inr ⟨(List.cons.inj f2).1,B4',m',h4',(List.cons.inj f2).2,hm'⟩⟩
theorem PM.sk0 {a : Nat} {m:List Int} {ns:List S60} {ps:List S34} (h:PM a m ns ps):skB m=m:=by
 have:=h.sk []
 simpa using this
theorem PE.sk0 {a : Nat} {m:List Int} {ps:List S34} (h:PE a m ps):skB m=m:=by
 have:=h.sk []
 simpa using this
theorem PE.no93 {a : Nat} {m t:List Int} {ps:List S34} (h:PE a m ps):m≠93 :: t:=by
 obtain ⟨c,t',rfl,hc⟩:=h.hd;intro e;rw [(List.cons.inj e).1] at hc;unfold V1 isD at hc;simp at hc
theorem PM.no125 {a : Nat} {m t:List Int} {ns:List S60} {ps:List S34} (h:PM a m ns ps):m≠125 :: t:=by
 obtain ⟨t',rfl⟩:=h.hd;intro e;exact absurd (List.cons.inj e).1 zq50
theorem uniq {a : Nat} {v:List Int} {p:S34} (h:PV a v p):∀ p2,PV a v p2→p2=p:=by
 refine PV.rec (motive_1:=fun a v p _=>∀ p2,PV a v p2→p2=p) (motive_2:=fun a m ns ps _=>∀ ns2 ps2,PM a m ns2 ps2→ns2=ns∧ps2=ps) (motive_3:=fun a m ps _=>∀ ps2,PE a m ps2→ps2=ps) ?_ ?_ ?_ ?_ ?_ ?_ ?_ ?_ ?_ ?_ h
 ·intro a v b p hb ev ep p2 h2;rw [ep,invStr h2 ev]
 ·intro a v k p hk ep p2 h2;rw [ep,invSca h2 hk]
 ·intro a v B p hB ev ep p2 h2;rcases invObj h2 ev with ⟨B',_,_,e2⟩|⟨B',m,ns,ps,hB',hm,e,_⟩
  ·rw [ep,e2]
  ·exact absurd (j3c hB hB' e (j3h zq50) hm.sk0).2.symm hm.no125
 ·intro a v B m ns ps p hB hm ev ep ih p2 h2;rcases invObj h2 ev with ⟨B',hB',e,_⟩|⟨B',m',ns',ps',hB',hm',e,e2⟩
  ·exact absurd (j3c hB hB' e hm.sk0 (j3h zq50)).2 hm.no125
  ·obtain ⟨rfl,rfl⟩:=j3c hB hB' e hm.sk0 hm'.sk0;obtain ⟨rfl,rfl⟩:=ih _ _ hm';rw [ep,e2]
 ·intro a v B p hB ev ep p2 h2;rcases invArr h2 ev with ⟨B',_,_,e2⟩|⟨B',m,ps,hB',hm,e,_⟩
  ·rw [ep,e2]
  ·exact absurd (j3c hB hB' e (j3h zq50) hm.sk0).2.symm hm.no93
 ·intro a v B m ps p hB hm ev ep ih p2 h2;rcases invArr h2 ev with ⟨B',hB',e,_⟩|⟨B',m',ps',hB',hm',e,e2⟩
  ·exact absurd (j3c hB hB' e hm.sk0 (j3h zq50)).2 hm.no93
  ·obtain ⟨rfl,rfl⟩:=j3c hB hB' e hm.sk0 hm'.sk0;obtain rfl:=ih _ hm';rw [ep,e2]
 ·intro a m b B1 B2 v B3 p ns ps hb h1 h2 h3 hv em en ep ih ns2 ps2 hm2;obtain ⟨p',ns',ps',rfl,rfl,hv',hr⟩:=invMem hm2 hb h1 h2 h3 hv (.inl rfl) em;obtain rfl:=ih _ hv';rcases hr with ⟨_,rfl,rfl⟩|⟨hx,_⟩
  ·exact ⟨en.symm,ep.symm⟩
  ·exact absurd hx zq50
 ·intro a m b B1 B2 v B3 B4 m' p ns ns' ps ps' hb h1 h2 h3 h4 hv hm em en ep ih ih2 ns2 ps2 hm2;obtain ⟨p',ns3,ps3,rfl,rfl,hv',hr⟩:=invMem hm2 hb h1 h2 h3 hv (.inr rfl) em;obtain rfl:=ih _ hv';rcases hr with ⟨hx,_⟩|⟨_,B5,m5,hB5,e5,hm5⟩
  ·exact absurd hx zq50
  ·obtain ⟨rfl,rfl⟩:=j3c h4 hB5 e5 hm.sk0 hm5.sk0;obtain ⟨rfl,rfl⟩:=ih2 _ _ hm5;exact ⟨en.symm,ep.symm⟩
 ·intro a m v B p ps hB hv em ep ih ps2 hm2;obtain ⟨p',ps',rfl,hv',hr⟩:=invEl hm2 hB hv (.inl rfl) em;obtain rfl:=ih _ hv';rcases hr with ⟨_,rfl⟩|⟨hx,_⟩
  ·exact ep.symm
  ·exact absurd hx zq50
 ·intro a m v B B2 m' p ps ps' hB hB2 hv hm em ep ih ih2 ps2 hm2;obtain ⟨p',ps3,rfl,hv',hr⟩:=invEl hm2 hB hv (.inr rfl) em;obtain rfl:=ih _ hv';rcases hr with ⟨hx,_⟩|⟨_,B5,m5,hB5,e5,hm5⟩
  ·exact absurd hx zq50
  ·obtain ⟨rfl,rfl⟩:=j3c hB2 hB5 e5 hm.sk0 hm5.sk0;obtain rfl:=ih2 _ hm5;exact ep.symm
end Go.Proofs.Ytchhndbekjgimaa.J
end
section
namespace Go.Proofs.Ytchhndbekjgimaa.J
open Go.RowKit Go.Proofs.Ytchhndbekjgimaa.S Go.Proofs.YtchhndbekjgimaaW.PrintWords Go.Proofs.YtchhndbekjgimaaW.PrintLast
set_option linter.unusedVariables false
set_option linter.unusedSimpArgs false
set_option linter.unusedSectionVars false

theorem Ev_map {α β : Type} {g:Nat→Option α} {a:α} (f:α→β) (h:Ev g a):Ev (fun k=>(g k).map f) (f a):=by
 obtain ⟨K,hK⟩:=h;exact ⟨K,fun k hk=>by show (g k).map f=_;rw [hK k hk];rfl⟩
theorem textSP {s : ByteArray} (hs:s.size≤2147483647) (ht:textL (bytesOf s)=true):∃ X,SP (bytesOf s) X:=by
 obtain ⟨B,v,B',p,e,hB,hB',hv,_⟩:=(places_eq hs).1 ht;obtain ⟨X,_,h,_⟩:=bareV hv;refine ⟨X++[],?_⟩;rw [e];refine SP.blanks B hB (h _ _ ?_);have:=SP.blanks B' hB' .nil
 rwa [List.append_nil] at this
theorem place2 {s s' : ByteArray} (hs:s.size≤2147483647) (hs':s'.size≤2147483647) (hm:Sm (bytesOf s) (bytesOf s')) (ht:textL (bytesOf s)=true):∃ (p:S34) (X:List Int),Ev (fun k=>j2j.f k s) (p.f0,p.f1,p.f2,p.f3,p.f4,true)∧Ev (fun k=>j2j.f k s') (p.f0,p.f1,p.f2,p.f3,p.f4,true)∧PLP p∧Ev (fun k=>bT k [] s p.f0 p.f1 p.f2 p.f3 p.f4) X∧Ev (fun k=>bT k [] s' p.f0 p.f1 p.f2 p.f3 p.f4) X:=by
 obtain ⟨B,v,B',p,e,hB,hB',hv,hp⟩:=(places_eq hs).1 ht;have hm0:=hm;rw [e] at hm;obtain ⟨C,y,e',hCl,hC,h⟩:=Sm.blanks B hB hm;obtain ⟨v',y',rfl,hvl,hv',h2⟩:=simV hv _ _ h;obtain ⟨C',y2,rfl,hl2,hC',h3⟩:=Sm.blanks B' (x:=[]) hB' (by simpa using h2);have hy2:y2=[]:=List.length_eq_zero_iff.mp (by have:=h3.len;simpa using this);subst hy2;rw [List.append_nil] at e'
 have hsk:skB C'=[]:=by
  have:=hC'.sk []
  rwa [List.append_nil] at this
 have ht':textL (bytesOf s')=true:=by
  unfold textL;rw [e',hC.sk,hv'.sk,cutV hv' _ (FO_bls hC')];simp [hsk]
 obtain ⟨D,v2,D',p2,e2,hD,hD',hv2,hp2⟩:=(places_eq hs').1 ht';rw [e'] at e2;obtain ⟨rfl,f1⟩:=j3c hC hD e2 (hv'.sk _) (hv2.sk _);obtain ⟨rfl,f2⟩:=vcut hv' hv2 (FO_bls hC') (FO_bls hD') f1;rw [hCl] at hv2;obtain rfl:=uniq hv' p2 hv2;obtain ⟨X,x1,x2,x3⟩:=bareV hv;obtain ⟨X',x1',x2',x3'⟩:=bareV hv'
 have nilB:∀ {B:List Int},Bl B→SP B []:=fun {B} hB=>by
  have:=SP.blanks B hB .nil
  rwa [List.append_nil] at this
 have hS1:SP (bytesOf s) (X++[]):=by rw [e];exact SP.blanks B hB (x2 _ _ (nilB hB'))
 have hS2:SP (bytesOf s') (X'++[]):=by rw [e'];exact SP.blanks C hC (x2' _ _ (nilB hC'))
 have hX:=SP.same hm0 hS1 hS2;rw [List.append_nil,List.append_nil] at hX;subst hX
 have hF1:From s B.length (v++B'):=by
  have h0:=From.start s;rw [e] at h0;have:=h0.app
  rwa [Nat.zero_add] at this
 have hF2:From s' B.length (v'++C'):=by
  have h0:=From.start s';rw [e'] at h0;have:=h0.app
  rwa [Nat.zero_add,hCl] at this
 have l1:=hF1.len;have l2:=hF2.len;rw [List.length_append] at l1 l2;refine ⟨p2,X,hp,hp2,placed hv (by omega),?_,?_⟩
 ·have:=x3 s B' hs hF1 [] zq86
  simpa using this
 ·have:=x3' s' C' hs' hF2 [] zq86
  simpa using this
theorem bt_gd (s : ByteArray) (i:Nat):bt s (i:Int)=(bytesOf s).getD i 0:=by
 rw [← rd_bytesOf];unfold rd;rw [Int.toNat_natCast]
theorem same_l0 {U O : ByteArray} (hs:U.size≤2147483647) (hz:U.size=O.size) (hlf:(bytesOf O).map (fun c=>c == 10)=(bytesOf U).map (fun c=>c == 10)) {p:S34} {X:List Int} (hO:Ev (fun k=>j2j.f k O) (p.f0,p.f1,p.f2,p.f3,p.f4,true)) (hU:Ev (fun k=>j2j.f k U) (p.f0,p.f1,p.f2,p.f3,p.f4,true)) (hp:PLP p) (bO:Ev (fun k=>bT k [] O p.f0 p.f1 p.f2 p.f3 p.f4) X) (bU:Ev (fun k=>bT k [] U p.f0 p.f1 p.f2 p.f3 p.f4) X):∀ (n i:Nat),U.size - i≤n→i≤U.size→Ev (fun k=>j1v.l0 k U O (i:Int)) true:=by
 have fin:Ev (fun k=>(j2j.f k U).bind fun bt101=>((j2j.f k O).bind fun bt112=>(if bt101.2.2.2.2.2=true then (if bt112.2.2.2.2.2=true then ((j1m.f k bt101.1 bt101.2.1 bt101.2.2.1 bt101.2.2.2.1 bt101.2.2.2.2.1 bt112.1 bt112.2.1 bt112.2.2.1 bt112.2.2.2.1 bt112.2.2.2.2.1).bind fun t123=>(if t123=true then ((j2r.f k U bt101.1 bt101.2.1 bt101.2.2.1 bt101.2.2.2.1 bt101.2.2.2.2.1).bind fun t124=>((j2r.f k O bt112.1 bt112.2.1 bt112.2.2.1 bt112.2.2.2.1 bt112.2.2.2.2.1).bind fun t125=>(some (t124.toList == t125.toList)))) else (some false))) else (some false)) else (some false)))) true:=by
  refine Ev.bind hU (Ev.bind hO (Ev.congr (fun _=>if_pos rfl) (Ev.congr (fun _=>if_pos rfl) (Ev.bind hp (Ev.congr (fun _=>if_pos rfl) ?_)))));refine Ev.bind (Ev_map strOfNums bU) (Ev.bind (Ev_map strOfNums bO) ?_);exact Ev_same (Ev.now _) (by simp)
 intro n
 induction n with
 | zero =>
  intro i hi hle;refine Ev_shift ?_;simp only [j1v.l0];exact Ev.congr (fun _=>if_neg (by omega)) fin
 | succ n ih =>
  intro i hi hle;refine Ev_shift ?_;simp only [j1v.l0];by_cases hi2:i<U.size
  rotate_left
  ·exact Ev.congr (fun _=>if_neg (by omega)) fin
  have e:(bt U (i:Int) == 10)=(bt O (i:Int) == 10):=by
   rw [bt_gd,bt_gd];have h1:=congrArg (fun l=>l[i]?) hlf;simp only [List.getElem?_map] at h1;have g1:i<(bytesOf U).length:=by rw [bytesOf_length];exact hi2
   have g2:i<(bytesOf O).length:=by rw [bytesOf_length];omega
   rw [List.getElem?_eq_getElem g1,List.getElem?_eq_getElem g2] at h1;rw [List.getD_eq_getElem?_getD,List.getD_eq_getElem?_getD,List.getElem?_eq_getElem g1,List.getElem?_eq_getElem g2];exact (Option.some.inj h1).symm
  rw [e,show wrap64 ((i:Int)+1)=((i+1:Nat):Int) by rw [w64 (by omega)];omega];have hn:=ih (i+1) (by omega) (by omega);refine Ev.congr (fun _=>if_pos (by omega)) (Ev.congr (fun _=>if_pos (by omega)) (Ev.congr (fun _=>if_pos (by omega)) (Ev.congr (fun _=>if_neg (by simp)) hn)))
theorem pr_main (a0 : ByteArray) (hs:a0.size≤4096):Ev (fun k=>laws_FnPrSpecInPlace.f k a0) true:=by
 unfold laws_FnPrSpecInPlace.f;refine Ev.congr (fun _=>if_neg (by omega)) (Ev.congr (fun _=>if_neg (by omega)) ?_);have hG:=un_all (s:=a0) (by omega) (bytesOf a0).length (bytesOf a0) [] (-1) (Nat.le_refl _) (From.start a0) trivial (fun _ h=>by simp [fl] at h) rfl;obtain ⟨R,h1,h2⟩:=hG;have hU:Ev (fun k=>j2p.f k a0) R:=Ev.congr (fun _=>if_pos (by omega)) h1;refine Ev.bind hU ?_;obtain ⟨O,ok⟩:=R;cases ok with
 | false=>exact Ev.congr (fun _=>if_neg (by simp)) (Ev.now _)
 | true =>
  refine Ev.congr (fun _=>if_pos rfl) ?_;obtain ⟨T,hw,hO,hr,hl,ht,hg⟩:=h2 rfl;simp only at hO;subst hO;have eO:=bytesOf_strOfNums (fl T) hr;have zO:(strOfNums (fl T)).size=a0.size:=by rw [← bytesOf_length,eO,hl]
  have ht0:textL (bytesOf (strOfNums (fl T)))=true:=by rw [eO];exact ht
  obtain ⟨X,hX⟩:=textSP (by omega) ht0;rw [eO] at hX;obtain ⟨hgT,_⟩:=SP.gd T (y:=[]) hw (by rw [List.append_nil];exact hX);obtain ⟨T',hT,hP⟩:=(hg hgT).2 [] .nil;have hsm:=hT.sm;have eU:=bytesOf_strOfNums (fl T') (hsm.rg hr);have zU:(strOfNums (fl T')).size=a0.size:=by rw [← bytesOf_length,eU,hsm.len,hl]
  have hPr:Ev (fun k=>prF k a0) (strOfNums (fl T')):=Ev.congr (fun _=>if_pos (by omega)) (Ev_map strOfNums hP);have hsm2:Sm (bytesOf (strOfNums (fl T))) (bytesOf (strOfNums (fl T'))):=by rw [eO,eU];exact hsm
  obtain ⟨p,X,q1,q2,q3,q4,q5⟩:=place2 (by omega) (by omega) hsm2 ht0;refine Ev.bind hPr (Ev.bind (a:=true) ?_ (Ev.congr (fun _=>if_pos rfl) (Ev.bind hPr (Ev_same (Ev.now _) (by simp)))));unfold j1v.f;refine Ev.congr (fun _=>if_pos (by simp only;omega)) ?_;exact same_l0 (by omega) (by omega) hsm2.lf q1 q2 q3 q4 q5 _ 0 (Nat.le_refl _) (Nat.zero_le _)
end Go.Proofs.Ytchhndbekjgimaa.J
namespace Go.Proofs.Ytchhndbekjgimaa.Pure
open Go.RowKit Go.Proofs.Ytchhndbekjgimaa.S Go.Proofs.Ytchhndbekjgimaa.J Go.Proofs.YtchhndbekjgimaaW.PrintWords Go.Proofs.YtchhndbekjgimaaW.PrintLast
theorem FnPrSpecInPlace : laws_FnPrSpecInPlace.Pure := by
 intro a0 _;by_cases h1:(a0.size:Int)>2147483647
 ·exact ⟨0,by unfold laws_FnPrSpecInPlace.f;rw [if_pos h1]⟩
 by_cases h2:(a0.size:Int)>4096
 ·exact ⟨0,by unfold laws_FnPrSpecInPlace.f;rw [if_neg h1,if_pos h2]⟩
 exact (pr_main a0 (by omega)).rounds
end Go.Proofs.Ytchhndbekjgimaa.Pure
end
