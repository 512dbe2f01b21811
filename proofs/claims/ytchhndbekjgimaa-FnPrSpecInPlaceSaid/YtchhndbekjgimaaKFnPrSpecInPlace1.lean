/- The words, walks and laws that the proof rests on, laid together (part 1). -/
import Derived.Test.YtchhndbekjgimaaProg
import Derived.Below
import Derived.Deep.Draws
import Derived.Deep.AppendLies
import Derived.Maps.AppendAt
import Derived.OwnWalk
import Derived.Laws.BytesArg
import Derived.Laws.MakeOwn
import Derived.Laws.OwnMore
import Derived.Deep.OwnRows
import Derived.Tactics
import Derived.Lib.ConvBytes
import Derived.Laws.Slices
import Derived.WalkKit
import Derived.KernelRfl
import Derived.RowKit3
import Derived.Deep.LoopGhost
import Derived.Deep.QuietTactic
import Derived.BigQuiet
import Derived.WideLaws
import Derived.Deep.DeepCutAuto
import Derived.Deep.CutBlock
import Derived.Deep.RegionHeld3
import Derived.Laws.Rows
import Derived.Lib.AppendStr
import Derived.ArgAppend
import Derived.Laws.IdiomCopy
import Derived.OrdersHeld
import Derived.Laws.BitsLemmas
import Derived.RowKit
import Derived.Lib.BufferWrite
import Derived.Laws.CopyOwn
import Derived.Lib.Hide
import Derived.WalkLawsBesides
import Derived.Laws.StructEq
import Derived.Outline
import Derived.StillTailTactics
import Derived.Deep.DeepFit
section
set_option linter.unusedVariables false
set_option linter.unusedSimpArgs false
namespace Go.Proofs.YtchhndbekjgimaaW.PrintWords
open Go.RowKit

structure Aside0 (p : Prop):Prop where mk :: (out:p)
structure Drawn0 (w w' : World):Prop where mk :: (out:∃ n,w'=w.drewN n)
theorem Drawn0.refl (w : World):Drawn0 w w:=⟨⟨0,rfl⟩⟩
theorem Drawn0.step {w w' : World} (h:Drawn0 w w') (n:Nat):Drawn0 w (w'.drewN n):=by
  obtain ⟨m,rfl⟩:=h;exact ⟨⟨m+n,World.drewN_drewN ..⟩⟩
theorem Drawn0.grown {w w' : World} (h:Drawn0 w w'):Grown w w':=by
  obtain ⟨n,rfl⟩:=h
  induction n with
  | zero=>exact Grown.refl _
  | succ n ih=>rw [← World.drew_drewN];exact Grown.drew ih
theorem Drawn0.below {w w' : World} (h:Drawn0 w w'):Below w.heap.size w w':=by
  obtain ⟨n,rfl⟩:=h
  induction n with
  | zero=>exact Below.refl _ _
  | succ n ih=>rw [← World.drew_drewN];exact ih.drew


def rd (xs : List Int) (i:Int):Int:=xs.getD i.toNat 0
def bt (s : ByteArray) (i:Int):Int:=if h:i.toNat<s.size then ((s[i.toNat]'h).toNat:Int) else 0
theorem bt_at (s : ByteArray) (i:Int):∀ h:i.toNat<s.size,((s[i.toNat]'h).toNat:Int)=bt s i:=fun h=>by simp [bt,h]
def nums (k : IntKind) (xs:List Int):List Value:=xs.map fun x => .int k x
theorem nums_append (k : IntKind) (xs ys:List Int):nums k (xs++ys)=nums k xs++nums k ys:=by simp [nums]

theorem j1s {w W : World} (h:Below w.heap.size w W) (o:Obj):Below w.heap.size w (W.alloc o):=h.alloc h.size o
theorem below_drew {B : Nat} {w W:World} (h:Below B w W):Below B w W.drew:=⟨h.os,h.tape,h.output,h.size,h.block⟩
theorem j1q {B : Nat} {w W:World} (h:Below B w W) (n:Nat):Below B w (W.drewN n):=⟨h.os,h.tape,h.output,h.size,h.block⟩
theorem below_then {B : Nat} {w w1 w2:World} (h:Below B w w1) (hB:B≤w1.heap.size) (k:Below w1.heap.size w1 w2):Below B w w2 :=
  h.trans ⟨k.os,k.tape,k.output,k.size,fun i hi=>k.block i (Nat.lt_of_lt_of_le hi hB)⟩
theorem grown_of_below {w w1 : World} (h:Below w.heap.size w w1) (row:Option Nat):w.grownBy w1 row:=⟨h.os,h.tape,h.output,h.size,fun i hi _=>h.block i hi⟩
theorem pw_cell_below {w w1 : World} (h:Below w.heap.size w w1) {a:Addr} {v:Value} (hc:w.cell? a=some v):w1.cell? a=some v:=(h.cell (World.block_lt_of_cell? w a hc)).trans hc

def ReadsInt (w : World) (k:IntKind) (A:Option Addr) (n:Nat) (xs:List Int):Prop :=
  xs.length=n∧n≤9223372036854775807∧(0<n→∃ ad,A=some ad∧∀ j,j<n→w.cell? (ad.add j)=some (.int k (xs.getD j 0)))
theorem ReadsInt.below {w w1 : World} {k:IntKind} {A:Option Addr} {n:Nat} {xs:List Int} (h:ReadsInt w k A n xs) (hb:Below w.heap.size w w1):ReadsInt w1 k A n xs :=
  ⟨h.1,h.2.1,fun hn=>by
    obtain ⟨ad,e,hc⟩:=h.2.2 hn;exact ⟨ad,e,fun j hj=>pw_cell_below hb (hc j hj)⟩⟩

theorem own_nil (W : World) (base:Nat) (e:TypeId) (size:Nat):W.ownsRow base e size (.slice none 0 0) 0 []:=⟨by simp, .inl ⟨rfl,rfl⟩⟩
theorem own_base {w : World} {base:Nat} {e:TypeId} {size n:Nat} {v:Value} {xs:List Value} (h:w.ownsRow base e size v n xs) (k:Nat) (hk:v.ownBlock=some k):base≤k:=by
  rcases h.2 with ⟨rfl,_⟩|⟨g,cap,cur,rfl,hb,_⟩
  · simp [Value.ownBlock] at hk
  · have:g=k:=by simpa [Value.ownBlock] using hk
    omega
theorem own_lt {w : World} {base:Nat} {e:TypeId} {size n:Nat} {v:Value} {xs:List Value} (h:w.ownsRow base e size v n xs) (k:Nat) (hk:v.ownBlock=some k):k<w.heap.size:=by
  rcases h.2 with ⟨rfl,_⟩|⟨g,cap,cur,rfl,hb,hh,_⟩
  · simp [Value.ownBlock] at hk
  · have:g=k:=by simpa [Value.ownBlock] using hk
    subst this;exact (Array.getElem?_eq_some_iff.1 hh).1
theorem pw_own_below {w w1 : World} {base:Nat} {e:TypeId} {size n:Nat} {v:Value} {xs:List Value} (h:w.ownsRow base e size v n xs) (hb:Below w.heap.size w w1):w1.ownsRow base e size v n xs :=
  h.kept (grown_of_below hb none) (by cases v.ownBlock<;>simp)
theorem own_slice {w : World} {base n:Nat} {e:TypeId} {size:Nat} {v:Value} {xs:List Value} (h:w.ownsRow base e size v n xs):∃ A c,v = .slice A n c:=by
  rcases h.2 with ⟨rfl,rfl⟩|⟨g,cap,cur,rfl,_⟩
  · exact ⟨none,0,rfl⟩
  · exact ⟨_,cap,rfl⟩
section
variable {P : Program} {ops:Array Oper} {rest:List Oper} {o:Oper} {a:Act} {Q:Exit→Act→World→Prop}

end

section
variable {P : Program}
end
section
variable {P : Program} {ops:Array Oper} {rest:List Oper} {o:Oper} {a:Act} {Q:Exit→Act→World→Prop}
end

def bytesOf (s : ByteArray):List Int:=s.data.toList.map fun b=>(b.toNat:Int)
theorem data_length (s : ByteArray):s.data.toList.length=s.size:=by rw [Array.length_toList];rfl
theorem bytesOf_length (s : ByteArray):(bytesOf s).length=s.size:=by rw [bytesOf,List.length_map,data_length]
theorem rd_bytesOf (s : ByteArray) (i:Int):rd (bytesOf s) i=bt s i:=by
  unfold rd bt bytesOf;split
  · rename_i h
    have h':i.toNat<s.data.toList.length:=by rw [data_length];exact h
    simp [List.getD_eq_getElem?_getD,List.getElem?_eq_getElem h'];rfl
  · rename_i h
    have h':s.data.toList.length≤i.toNat:=by rw [data_length];omega
    simp [List.getD_eq_getElem?_getD,List.getElem?_eq_none h']
theorem print_bytes {P : Program} (src dst e:TypeId) {u:TypeDesc} (hs:P.underlying src=some u) (hd:P.underlying dst=some (.slice e)) (he:P.underlying e=some (.int .u8)) (s:ByteArray) (W:World) :
    (convert src dst (.string s)).run P W = .ok (.slice (some ⟨W.heap.size,0,none⟩) s.size (grownCap W s.size 0 e)) (Lib.bytesWorld W e s):=Lib.run_convert_string_bytes W src dst e s hs hd he
theorem bytes_below {B : Nat} {w W:World} (h:Below B w W) (hB:B≤W.heap.size) (e:TypeId) (s:ByteArray):Below B w (Lib.bytesWorld W e s) :=
  h.trans ⟨rfl,rfl,rfl,by rw [Lib.bytesWorld_size];omega,fun i hi=>Lib.bytesWorld_at_old W e s i (by omega)⟩
theorem ReadsInt.take_ {w : World} {k:IntKind} {A:Option Addr} {n:Nat} {xs:List Int} (h:ReadsInt w k A n xs) (i:Nat) (hi:i≤n):ReadsInt w k A i (xs.take i):=by
  refine ⟨by rw [List.length_take,h.1];omega,by have:=h.2.1;omega,fun hp=>?_⟩;obtain ⟨ad,e,hc⟩:=h.2.2 (by omega);refine ⟨ad,e,fun j hj=>?_⟩;rw [hc j (by omega)];simp [List.getD_eq_getElem?_getD,hj]
def LeO {α : Type} (a b:Option α):Prop:=∀ r,a=some r→b=some r
theorem LeO.refl {α : Type} (a:Option α):LeO a a:=fun _ h=>h
theorem LeO.none {α : Type} (b:Option α):LeO Option.none b:=fun _ h=>by cases h
theorem LeO.trans {α : Type} {a b c:Option α} (h:LeO a b) (k:LeO b c):LeO a c:=fun r hr=>k r (h r hr)
theorem LeO.ite {α : Type} {c:Prop} [Decidable c] {a a' b b':Option α} (h:LeO a a') (k:LeO b b'):LeO (if c then a else b) (if c then a' else b'):=by
  split
  · exact h
  · exact k
theorem LeO.bind {α β : Type} {a a':Option α} {f f':α→Option β} (h:LeO a a') (k:∀ x,LeO (f x) (f' x)):LeO (a.bind f) (a'.bind f'):=by
  intro r hr;obtain ⟨x,hx,hf⟩:=Option.bind_eq_some_iff.1 hr;exact Option.bind_eq_some_iff.2 ⟨x,h x hx,k x r hf⟩
theorem LeO.map {α β : Type} {a a':Option α} (f:α→β) (h:LeO a a'):LeO (a.map f) (a'.map f):=by
  intro r hr;obtain ⟨x,hx,hf⟩:=Option.map_eq_some_iff.1 hr;exact Option.map_eq_some_iff.2 ⟨x,h x hx,hf⟩
theorem more_rounds {α : Type} {g:Nat→Option α} (h:∀ k,LeO (g k) (g (k+1))) (k:Nat):∀ j,LeO (g k) (g (k+j))
  | 0=>LeO.refl _
  | j+1=>(more_rounds h k j).trans (h (k+j))
theorem at_rounds {α : Type} {g:Nat→Option α} (h:∀ k,LeO (g k) (g (k+1))) {k k':Nat} (hk:k≤k') {r:α} (hr:g k=some r):g k'=some r:=by
  have:=more_rounds h k (k' - k) r hr
  rwa [Nat.add_sub_cancel' hk] at this
def Reps {α : Type} (R:α→List Value→Prop) (size:Nat) (ps:List α) (cs:List Value):Prop :=
  cs.length=ps.length*size∧∀ j p,ps[j]? = some p→R p ((cs.drop (j*size)).take size)
theorem Reps.none {α : Type} (R:α→List Value→Prop) (size:Nat):Reps R size [] []:=⟨by simp,fun j p h=>by simp at h⟩
theorem Reps.snoc {α : Type} {R:α→List Value→Prop} {size:Nat} {ps:List α} {cs c:List Value} {p:α} (h:Reps R size ps cs) (hp:R p c) (hc:c.length=size):Reps R size (ps++[p]) (cs++c):=by
  refine ⟨by rw [List.length_append,h.1,hc,List.length_append,List.length_singleton,Nat.add_mul,Nat.one_mul],fun j q hq=>?_⟩;rcases Nat.lt_or_ge j ps.length with hj|hj
  · rw [List.getElem?_append_left hj] at hq
    have h1:j*size+size≤cs.length:=by rw [h.1,← Nat.succ_mul];exact Nat.mul_le_mul_right _ hj
    have h2:=h.2 j q hq;rw [List.drop_append_of_le_length (by omega),List.take_append_of_le_length (by rw [List.length_drop];omega)];exact h2
  · have hj':j=ps.length:=by
      have:=(List.getElem?_eq_some_iff.1 hq).1;rw [List.length_append,List.length_singleton] at this;omega
    subst hj';have hq':p=q:=by simpa using hq
    subst hq';rw [← h.1,List.drop_left,← hc,List.take_length];exact hp
theorem Reps.imp_ {α : Type} {R R':α→List Value→Prop} {size:Nat} {ps:List α} {cs:List Value} (h:Reps R size ps cs) (hR:∀ p c,R p c→R' p c):Reps R' size ps cs:=⟨h.1,fun j p hj=>hR _ _ (h.2 j p hj)⟩

def ReadsRow {α : Type} (R:α→List Value→Prop) (size:Nat) (w:World) (A:Option Addr) (n:Nat) (ps:List α):Prop :=
  ps.length=n∧n≤9223372036854775807∧(0<n→∃ ad,A=some ad∧∀ j p,ps[j]? = some p→∃ c,c.length=size∧R p c∧∀ i u,c[i]? = some u→w.cell? (ad.add (j*size+i))=some u)
theorem ReadsRow.get_ {α : Type} {R:α→List Value→Prop} {size:Nat} {w:World} {A:Option Addr} {n:Nat} {ps:List α} (h:ReadsRow R size w A n ps) (d:α) (i:Int) (h0:0≤i) (h1:i<n) :
    ∃ ad c,A=some ad∧c.length=size∧R (ps.getD i.toNat d) c∧∀ j u,c[j]? = some u→w.cell? (ad.add (i.toNat*size+j))=some u:=by
  obtain ⟨ad,e,hc⟩:=h.2.2 (by omega);have hl:i.toNat<ps.length:=by have:=h.1;omega
  obtain ⟨c,hs,hr,hcell⟩:=hc i.toNat _ (List.getElem?_eq_getElem hl);refine ⟨ad,c,e,hs,?_,hcell⟩;rw [List.getD_eq_getElem?_getD,List.getElem?_eq_getElem hl];exact hr
theorem ReadsRow.imp_ {α : Type} {R R':α→List Value→Prop} {size:Nat} {w w1:World} {A:Option Addr} {n:Nat} {ps:List α} (h:ReadsRow R size w A n ps) (hb:Below w.heap.size w w1) (hR:∀ p c,R p c→R' p c):ReadsRow R' size w1 A n ps :=
  ⟨h.1,h.2.1,fun hn=>by
    obtain ⟨ad,e,hc⟩:=h.2.2 hn;refine ⟨ad,e,fun j p hj=>?_⟩;obtain ⟨c,hs,hr,hcell⟩:=hc j p hj;exact ⟨c,hs,hR _ _ hr,fun i u hu=>pw_cell_below hb (hcell i u hu)⟩⟩
theorem own_reads_row {α : Type} {R:α→List Value→Prop} {w:World} {base n size:Nat} {e:TypeId} {v:Value} {ps:List α} {cs:List Value} (h:w.ownsRow base e size v n cs) (hR:Reps R size ps cs) (hn:ps.length=n) :
    ∃ A c,v = .slice A n c∧ReadsRow R size w A n ps:=by
  rcases Nat.eq_zero_or_pos n with h0|h0
  · rcases h.2 with ⟨rfl,rfl⟩|⟨g,cap,cur,rfl,_⟩
    · exact ⟨none,0,rfl,hn,by omega,fun hp=>absurd hp (by omega)⟩
    · exact ⟨_,cap,rfl,hn,by omega,fun hp=>absurd hp (by omega)⟩
  · obtain ⟨g,cap,rfl,_,_⟩:=h.form h0
    have hm:n≤9223372036854775807:=by
      rcases h.2 with ⟨_,h1⟩|⟨g',cap',cur,he,_,_,h1,h2,_⟩
      · omega
      · simp only [maxLen] at h2
        omega
    refine ⟨_,cap,rfl,hn,hm,fun _=>⟨_,rfl,fun j p hj=>⟨(cs.drop (j*size)).take size,?_,hR.2 j p hj,fun i u hu=>?_⟩⟩⟩
    · have hjl:=(List.getElem?_eq_some_iff.1 hj).1
      have h1:j*size+size≤cs.length:=by rw [hR.1,← Nat.succ_mul];exact Nat.mul_le_mul_right _ hjl
      rw [List.length_take,List.length_drop];omega
    · refine h.cells (g:=g) rfl _ u ?_
      rw [List.getElem?_take] at hu;split at hu
      · rw [List.getElem?_drop] at hu
        exact hu
      · cases hu
theorem add_field (ad : Addr) (m j:Nat) (hj:0<j):ad.add (m+j)=⟨(ad.add m).block,(ad.add m).off+j,none⟩:=by
  unfold Addr.add;by_cases hm:m=0
  · subst hm
    simp [Nat.ne_of_gt hj]
  · simp [hm,Nat.add_assoc]

section
variable {P : Program} {ops:Array Oper} {rest:List Oper} {o:Oper} {a:Act} {Q:Exit→Act→World→Prop}
theorem print_append_cells {w0 W : World} (base:Nat) (hgd:o.guard=none) (s x:Operand) (t e:TypeId) (z:Value) (size bytes:Nat)
    (ho:o.op = .call { callee := .builtin .append,args:=#[s,x],argTypes:=#[t,t] })
    (ht:P.underlying t=some (.slice e)) (hinfo:(P.info? e).map (fun i=>(i.zero,i.size,i.bytes))=some (some z,size,bytes)) (hz:z.cells.size=size) (hs0:0<size) (hb0:0<bytes)
    (v:Value) (n:Nat) (xs ys:List Value) (hs:a.eval s=v) (hx:a.eval x = .slice (some ⟨W.heap.size,0,none⟩) 1 1) (hys:ys.length=size) (h1:∀ u ∈ ys,u.oneCell'=true)
    (HO:W.ownsRow base e size v n xs) (HB:Below base w0 W) (hbase:base≤W.heap.size) (hl:(n+1)*bytes≤140737488355328)
    (h:∀ v1 w1,w1.ownsRow base e size v1 (n+1) (xs++ys)→Below base w0 w1→W.grownBy w1 v.ownBlock→(v1.ownBlock=v.ownBlock∨∃ b,v1.ownBlock=some b∧W.heap.size≤b)→wpList P ops Q rest (a.put o.dst v1) w1) :
    wpList P ops Q (o :: rest) a (W.alloc (.cells ys.toArray e)):=by
  obtain ⟨i0,hi,hzz⟩:=Option.map_eq_some_iff.1 hinfo;simp only [Prod.mk.injEq] at hzz;obtain ⟨hz0,hz1,hz2⟩:=hzz;have hlen:n+1≤140737488355328:=Nat.le_trans (Nat.le_mul_of_pos_right _ hb0) hl
  refine wpList_append_own_at (W.alloc (.cells ys.toArray e)) hgd s x t ho base e i0 z size bytes ht hi hz0 hz1 hz2 hz hs0 v n xs hs (HO.alloc _) ⟨W.heap.size,0,none⟩ 1 1 ys hx (by rw [hys];simp)
    (by simpa using World.news_of_block (cs:=ys.toArray) (t:=e) (fr:=(0,0)) (heap_alloc_new W (.cells ys.toArray e))) h1 (by simp only [maxLen];omega) hl (by simp;omega) ?_
  intro v1 w1 hown hg _ hat;refine h v1 w1 hown ((HB.alloc hbase _).grown hg (by simp;omega) (own_base HO)) (World.grownBy.trans (World.grownBy_alloc W _ _) hg) ?_;rcases hat with hat|hat
  · exact .inl hat
  · exact .inr ⟨_,hat,by simp⟩
end

theorem own_ne {w : World} {base:Nat} {e t:TypeId} {size n g:Nat} {v:Value} {xs:List Value} {cs:Array Value} (h:w.ownsRow base e size v n xs) (hg:w.heap[g]? = some (.cells cs t (0,0))) (hne:e≠t):some g≠v.ownBlock:=by
  rcases h.2 with ⟨rfl,_⟩|⟨g',cap,cur,rfl,_,hh,_⟩
  · simp [Value.ownBlock]
  · intro he
    have:g=g':=by simpa [Value.ownBlock] using he
    subst this;rw [hg] at hh;injection hh with hh
    injection hh with _ ht
    exact hne ht.symm
theorem own_setCell {w : World} {base:Nat} {e:TypeId} {size n:Nat} {v:Value} {xs:List Value} (h:w.ownsRow base e size v n xs) {p:Addr} (hne:some p.block≠v.ownBlock) (u:Value):(w.setCell p u).ownsRow base e size v n xs:=by
  obtain ⟨h1,h2⟩:=h;refine ⟨h1,?_⟩;rcases h2 with h2|⟨g,cap,cur,rfl,hg,hh,r⟩
  · exact .inl h2
  · exact .inr ⟨g,cap,cur,rfl,hg,by rw [Below.heap_setCell _ _ _ _ (fun e=>hne (by rw [e];rfl))];exact hh,r⟩
theorem blk_set {w : World} {g:Nat} {t:TypeId} {cs:Array Value} (h:w.heap[g]? = some (.cells cs t (0,0))) (i:Nat) (u:Value):(w.setCell ⟨g,i,none⟩ u).heap[g]? = some (.cells (cs.setIfInBounds i u) t (0,0)):=by
  simp [World.setCell,Array.getElem?_modify,h]
theorem j2q {w : World} {g:Nat} {t:TypeId} {cs:Array Value} (h:w.heap[g]? = some (.cells cs t (0,0))) {p:Addr} (hp:g≠p.block) (u:Value):(w.setCell p u).heap[g]? = some (.cells cs t (0,0)):=(Below.heap_setCell w p u g hp).trans h
theorem j3m {w : World} {g:Nat} {o:Obj} (h:w.heap[g]? = some o):g<w.heap.size:=(Array.getElem?_eq_some_iff.1 h).1
theorem j1b {w : World} {g:Nat} {t:TypeId} {cs:Array Value} (h:w.heap[g]? = some (.cells cs t (0,0))) (i:Nat):w.cell? ⟨g,i,none⟩=cs[i]? := cell_of_row w g i cs t (0,0) h
theorem j1a {w : World} {g:Nat} {t:TypeId} {cs:Array Value} (h:w.heap[g]? = some (.cells cs t (0,0))) (i:Nat):w.frozen? ⟨g,i,none⟩=false:=by simp [World.frozen?,h]
theorem blk_grown {w w1 : World} {g:Nat} {o:Obj} {row:Option Nat} (h:w.heap[g]? = some o) (hg:w.grownBy w1 row) (hne:some g≠row):w1.heap[g]? = some o:=(hg.block g (j3m h) hne).trans h
def KeepBut (w w' : World) (g:Nat) (row:Option Nat):Prop:=w.heap.size≤w'.heap.size∧∀ i,i<w.heap.size→i≠g→some i≠row→w'.heap[i]? = w.heap[i]?
theorem KeepBut.refl (w : World) (g:Nat) (row:Option Nat):KeepBut w w g row:=⟨Nat.le_refl _,fun _ _ _ _=>rfl⟩
theorem KeepBut.of_grown {w w1 : World} {row:Option Nat} (h:w.grownBy w1 row) (g:Nat):KeepBut w w1 g row:=⟨h.size,fun i hi _ hr=>h.block i hi hr⟩
theorem KeepBut.of_below {w w1 : World} (h:Below w.heap.size w w1) (g:Nat) (row:Option Nat):KeepBut w w1 g row:=⟨h.size,fun i hi _ _=>h.block i hi⟩
theorem KeepBut.set_ {w w1 : World} {g:Nat} {row:Option Nat} (h:KeepBut w w1 g row) (j:Nat) (u:Value):KeepBut w (w1.setCell ⟨g,j,none⟩ u) g row :=
  ⟨by simpa [World.setCell] using h.1,fun i hi hg hr=>(Below.heap_setCell w1 ⟨g,j,none⟩ u i hg).trans (h.2 i hi hg hr)⟩
theorem KeepBut.trans {w w1 w2:World} {g:Nat} {row row1:Option Nat} (h:KeepBut w w1 g row) (k:KeepBut w1 w2 g row1) (hr:row1=row∨∃ b,row1=some b∧w.heap.size≤b):KeepBut w w2 g row :=
  ⟨Nat.le_trans h.1 k.1,fun i hi hg hn=>by
    refine (k.2 i (Nat.lt_of_lt_of_le hi h.1) hg ?_).trans (h.2 i hi hg hn);rcases hr with rfl|⟨b,rfl,hb⟩
    · exact hn
    · intro e
      injection e with e
      omega⟩
theorem KeepBut.blk {w w1 : World} {g g':Nat} {row:Option Nat} {o:Obj} (h:KeepBut w w1 g row) (hb:w.heap[g']? = some o) (hg:g'≠g) (hr:some g'≠row):w1.heap[g']? = some o:=(h.2 g' (j3m hb) hg hr).trans hb
theorem KeepBut.own {w w1 : World} {g:Nat} {row:Option Nat} {base:Nat} {e:TypeId} {size n:Nat} {v:Value} {xs:List Value} (h:KeepBut w w1 g row) (ho:w.ownsRow base e size v n xs) (hg:v.ownBlock≠some g) (hr:v.ownBlock=none∨v.ownBlock≠row):w1.ownsRow base e size v n xs:=by
  obtain ⟨h1,h2⟩:=ho;refine ⟨h1,?_⟩;rcases h2 with h2|⟨b,cap,cur,rfl,hb,hh,r⟩
  · exact .inl h2
  · refine .inr ⟨b,cap,cur,rfl,hb,h.blk hh ?_ ?_,r⟩
    · intro e
      exact hg (by rw [← e];rfl)
    · rcases hr with hr|hr
      · simp [Value.ownBlock] at hr
      · exact hr
def Ev {α : Type} (g:Nat→Option α) (r:α):Prop:=∃ K,∀ k,K≤k→g k=some r
theorem Ev.of {α : Type} {g:Nat→Option α} {r:α} (hg:∀ k,LeO (g k) (g (k+1))) {k:Nat} (h:g k=some r):Ev g r:=⟨k,fun _ hk=>at_rounds hg hk h⟩
theorem Ev.now {α : Type} (r:α):Ev (fun _=>some r) r:=⟨0,fun _ _=>rfl⟩
theorem Ev.rounds {α : Type} {g:Nat→Option α} {r:α} (h:Ev g r):∃ k,g k=some r:=by
  obtain ⟨K,h⟩:=h;exact ⟨K,h K (Nat.le_refl _)⟩
theorem Ev.bind {α β : Type} {g:Nat→Option α} {f:Nat→α→Option β} {a:α} {r:β} (h:Ev g a) (k:Ev (fun n=>f n a) r):Ev (fun n=>(g n).bind (f n)) r:=by
  obtain ⟨K,h⟩:=h;obtain ⟨K',k⟩:=k;refine ⟨max K K',fun n hn=>?_⟩;have h1:=h n (by omega);have h2:=k n (by omega);simp only [h1,Option.bind_some];exact h2
theorem Ev.step {α : Type} {g f:Nat→Option α} {r:α} (h:∀ k,g (k+1)=f k) (k:Ev f r):Ev g r:=by
  obtain ⟨K,k⟩:=k;refine ⟨K+1,fun n hn=>?_⟩;obtain ⟨m,rfl⟩:∃ m,n=m+1:=⟨n - 1,by omega⟩;rw [h];exact k m (by omega)
theorem Ev.congr {α : Type} {g f:Nat→Option α} {r:α} (h:∀ k,g k=f k) (k:Ev f r):Ev g r:=by
  obtain ⟨K,k⟩:=k;exact ⟨K,fun n hn=>(h n).trans (k n hn)⟩
section
variable {P : Program} {ops:Array Oper} {o:Oper} {a:Act} {Q:Exit→Act→World→Prop} {K:Act→World→Prop}
end
theorem own_weaken {w : World} {base base':Nat} {e:TypeId} {size n:Nat} {v:Value} {xs:List Value} (h:w.ownsRow base e size v n xs) (hb:base'≤base):w.ownsRow base' e size v n xs:=by
  obtain ⟨h1,h2⟩:=h;refine ⟨h1,?_⟩;rcases h2 with h2|⟨g,cap,cur,rfl,hg,r⟩
  · exact .inl h2
  · exact .inr ⟨g,cap,cur,rfl,Nat.le_trans hb hg,r⟩
section
variable {α : Type} {enc:α→Value} {d:α}
def encs (enc : α→Value) (xs:List α):List Value:=xs.map enc
theorem encs_length (xs : List α):(encs enc xs).length=xs.length:=by simp [encs]
theorem encs_append (xs ys : List α):encs enc (xs++ys)=encs enc xs++encs enc ys:=by simp [encs]
def ReadsOf (enc : α→Value) (d:α) (w:World) (A:Option Addr) (n:Nat) (xs:List α):Prop :=
  xs.length=n∧n≤9223372036854775807∧(0<n→∃ ad,A=some ad∧∀ j,j<n→w.cell? (ad.add j)=some (enc (xs.getD j d)))
theorem ReadsOf.below {w w1 : World} {A:Option Addr} {n:Nat} {xs:List α} (h:ReadsOf enc d w A n xs) (hb:Below w.heap.size w w1):ReadsOf enc d w1 A n xs :=
  ⟨h.1,h.2.1,fun hn=>by
    obtain ⟨ad,e,hc⟩:=h.2.2 hn;exact ⟨ad,e,fun j hj=>pw_cell_below hb (hc j hj)⟩⟩
theorem ReadsOf.take_ {w : World} {A:Option Addr} {n:Nat} {xs:List α} (h:ReadsOf enc d w A n xs) (i:Nat) (hi:i≤n):ReadsOf enc d w A i (xs.take i):=by
  refine ⟨by rw [List.length_take,h.1];omega,by have:=h.2.1;omega,fun hp=>?_⟩;obtain ⟨ad,e,hc⟩:=h.2.2 (by omega);refine ⟨ad,e,fun j hj=>?_⟩;rw [hc j (by omega)];simp [List.getD_eq_getElem?_getD,hj]
theorem own_store_of {W : World} {base g n cap:Nat} {e:TypeId} {xs:List α} (h:W.ownsRow base e 1 (.slice (some ⟨g,0,none⟩) n cap) n (encs enc xs)) (i:Int) (x:α) :
    (W.setCell ⟨g,i.toNat,none⟩ (enc x)).ownsRow base e 1 (.slice (some ⟨g,0,none⟩) n cap) n (encs enc (xs.set i.toNat x))∧W.grownBy (W.setCell ⟨g,i.toNat,none⟩ (enc x)) (some g):=by
  have hs:=h.stored i.toNat (enc x);have he:(encs enc xs).set i.toNat (enc x)=encs enc (xs.set i.toNat x):=by simp [encs,List.map_set]
  rwa [he] at hs
end
section
variable {α : Type} {P:Program} {ops:Array Oper} {rest:List Oper} {o:Oper} {a:Act} {Q:Exit→Act→World→Prop}
end

theorem j1h {w : World} {g:Nat} {o:Obj} (h:w.heap[g]? = some o) (o':Obj):(w.alloc o').heap[g]? = some o:=(Below.heap_alloc w o' g (j3m h)).trans h
theorem j1j {w : World} {g:Nat} {o:Obj} (h:w.heap[g]? = some o):w.drew.heap[g]? = some o:=h
theorem j1i {w : World} {g:Nat} {o:Obj} (h:w.heap[g]? = some o) (n:Nat):(w.drewN n).heap[g]? = some o:=h
theorem j2t {w w1 : World} {g:Nat} {o:Obj} (h:w.heap[g]? = some o) (hb:Below w.heap.size w w1):w1.heap[g]? = some o:=(hb.block g (j3m h)).trans h
theorem blk_new (w : World) (o:Obj):(w.alloc o).heap[w.heap.size]? = some o:=heap_alloc_new w o
section
variable {P : Program}
theorem j3f {fn : Func} {p u:Tmp} {ty:TypeId} (h:fn.results = #[.cell p ty, .tmp u]) (tmps:Array Value) (w:World) (g:Nat) (t:TypeId) (cs:Array Value) (fr:Nat × Nat) (d:TypeDesc)
    (hp:tmps.getD p undef = .pointer (some ⟨g,0,none⟩)) (hg:w.heap[g]? = some (.cells cs t fr))
    (hu:P.underlying ty=some d) (hd:(match d with | .struct _ | .array _ _=>true|_=>false)=true) (hi:(P.info? ty).map (·.size)=some cs.size) :
    (results fn tmps).run P w = .ok (.tuple #[.agg cs,tmps.getD u undef]) w:=by
  have hp':tmps[p]?.getD undef = .pointer (some ⟨g,0,none⟩):=by simpa using hp
  simp [results,h,hp',asAddr,run_loadVar_row w g t ty cs fr d hg hu hd hi]
end
theorem own_le {w : World} {base n m c size:Nat} {e:TypeId} {A:Option Addr} {xs:List Value} (h:w.ownsRow base e size (.slice A m c) n xs):m≤c:=by
  rcases h.2 with ⟨he,_⟩|⟨g,cap,cur,he,_,_,hnc,_⟩
  · injection he with _ h2 h3
    omega
  · injection he with _ h2 h3
    omega
def OwnRow {α : Type} (R:α→List Value→Prop) (e:TypeId) (size:Nat) (w:World) (base:Nat) (v:Value) (ps:List α):Prop :=
  ∃ inner,w.ownsRow base e size v ps.length inner∧Reps R size ps inner
section
variable {α : Type} {R R':α→List Value→Prop} {e:TypeId} {size:Nat} {w w1:World} {base:Nat} {v:Value} {ps:List α}
theorem OwnRow.none_ (R : α→List Value→Prop) (e:TypeId) (size:Nat) (w:World) (base:Nat):OwnRow R e size w base (.slice none 0 0) []:=⟨[],own_nil _ _ _ _,Reps.none _ _⟩
theorem OwnRow.imp_ (h : OwnRow R e size w base v ps) (hR:∀ p c,R p c→R' p c):OwnRow R' e size w base v ps:=by
  obtain ⟨inner,ho,hr⟩:=h;exact ⟨inner,ho,hr.imp_ hR⟩
theorem OwnRow.below (h : OwnRow R e size w base v ps) (hb:Below w.heap.size w w1):OwnRow R e size w1 base v ps:=by
  obtain ⟨inner,ho,hr⟩:=h;exact ⟨inner,pw_own_below ho hb,hr⟩
theorem OwnRow.set_ (h : OwnRow R e size w base v ps) {g:Nat} {t:TypeId} {cells:Array Value} (hb:w.heap[g]? = some (.cells cells t (0,0))) (ht:e≠t) (j:Nat) (u:Value):OwnRow R e size (w.setCell ⟨g,j,none⟩ u) base v ps:=by
  obtain ⟨inner,ho,hr⟩:=h;exact ⟨inner,own_setCell ho (own_ne ho hb ht) u,hr⟩
theorem OwnRow.reads (h : OwnRow R e size w base v ps):∃ A c,v = .slice A ps.length c∧ps.length≤c∧ReadsRow R size w A ps.length ps:=by
  obtain ⟨inner,ho,hr⟩:=h;obtain ⟨A,c,rfl,hrow⟩:=own_reads_row ho hr rfl;exact ⟨A,c,rfl,own_le ho,hrow⟩
theorem OwnRow.ne_block (h : OwnRow R e size w base v ps) {g:Nat} {t:TypeId} {cells:Array Value} (hb:w.heap[g]? = some (.cells cells t (0,0))) (ht:e≠t):some g≠v.ownBlock:=by
  obtain ⟨inner,ho,hr⟩:=h;exact own_ne ho hb ht
end
section
variable {P : Program} {ops:Array Oper} {rest:List Oper} {o:Oper} {a:Act} {Q:Exit→Act→World→Prop} {α:Type} {R:α→List Value→Prop}
theorem OwnRow.append {w0 W : World} (base:Nat) (hgd:o.guard=none) (s x:Operand) (t e:TypeId) (z:Value) (size bytes:Nat)
    (ho:o.op = .call { callee := .builtin .append,args:=#[s,x],argTypes:=#[t,t] })
    (ht:P.underlying t=some (.slice e)) (hinfo:(P.info? e).map (fun i=>(i.zero,i.size,i.bytes))=some (some z,size,bytes)) (hz:z.cells.size=size) (hs0:0<size) (hb0:0<bytes)
    (v:Value) (ps:List α) (p:α) (cs:List Value) (hs:a.eval s=v) (hx:a.eval x = .slice (some ⟨W.heap.size,0,none⟩) 1 1) (hp:R p cs) (hcs:cs.length=size) (h1:∀ u ∈ cs,u.oneCell'=true)
    (HO:OwnRow R e size W base v ps) (HB:Below base w0 W) (hbase:base≤W.heap.size) (hl:(ps.length+1)*bytes≤140737488355328)
    (h:∀ v1 w1,OwnRow R e size w1 base v1 (ps++[p])→Below base w0 w1→W.grownBy w1 v.ownBlock→(v1.ownBlock=v.ownBlock∨∃ b,v1.ownBlock=some b∧W.heap.size≤b)→wpList P ops Q rest (a.put o.dst v1) w1) :
    wpList P ops Q (o :: rest) a (W.alloc (.cells cs.toArray e)):=by
  obtain ⟨inner,hown,hr⟩:=HO;refine print_append_cells base hgd s x t e z size bytes ho ht hinfo hz hs0 hb0 v ps.length inner cs hs hx hcs h1 hown HB hbase hl ?_;intro v1 w1 hown1 hb1 hg1 hat1;exact h v1 w1 ⟨inner++cs,by rw [List.length_append,List.length_singleton];exact hown1,hr.snoc hp hcs⟩ hb1 hg1 hat1
end
section
variable {P : Program} {ops:Array Oper} {o:Oper} {a:Act} {Q:Exit→Act→World→Prop} {K:Act→World→Prop} {α:Type} {R:α→List Value→Prop}
end
section
variable {α : Type} {P:Program}
end

section
variable {P : Program} {ops:Array Oper} {rest:List Oper} {o:Oper} {a:Act} {Q:Exit→Act→World→Prop}
end
structure Kd (α : Type) where
  sz:Nat
  E:List Nat
  K:World→α→List Value→Prop
  M:World→Nat→(Nat→Prop)→α→List Value→Prop
  K_len:∀ {w x cs},K w x cs→cs.length=sz
  K_one:∀ {w x cs},K w x cs→∀ u ∈ cs,u.oneCell'=true
  K_below:∀ {w w1:World} {x cs},Below w.heap.size w w1→K w x cs→K w1 x cs
  K_of_M:∀ {w base ok x cs},M w base ok x cs→K w x cs
  M_mono:∀ {w base ok ok' x cs},(∀ k,ok k→ok' k)→M w base ok x cs→M w base ok' x cs
  M_bound:∀ {w:World} {base ok x cs},M w base ok x cs→M w base (fun k=>ok k∧base≤k∧k<w.heap.size∧∃ q,q ∈ E∧∃ cells,w.heap[k]? = some (.cells cells q (0,0))) x cs
  M_move:∀ {w w1:World} {base ok x cs},(∀ k,ok k→w1.heap[k]? = w.heap[k]?)→M w base ok x cs→M w1 base ok x cs
  M_lower:∀ {w base base' ok x cs},base'≤base→M w base ok x cs→M w base' ok x cs

theorem own_move {w w1 : World} {base:Nat} {e:TypeId} {size n:Nat} {v:Value} {xs:List Value} (h:w.ownsRow base e size v n xs) (hm:∀ k,v.ownBlock=some k→w1.heap[k]? = w.heap[k]?):w1.ownsRow base e size v n xs:=by
  obtain ⟨h1,h2⟩:=h;refine ⟨h1,?_⟩;rcases h2 with h2|⟨g,cap,cur,rfl,hg,hh,r⟩
  · exact .inl h2
  · exact .inr ⟨g,cap,cur,rfl,hg,(hm g (by simp [Value.ownBlock])).trans hh,r⟩
theorem own_typed {w : World} {base:Nat} {e:TypeId} {size n:Nat} {v:Value} {xs:List Value} (h:w.ownsRow base e size v n xs) (k:Nat) (hk:v.ownBlock=some k):∃ cells,w.heap[k]? = some (.cells cells e (0,0)):=by
  rcases h.2 with ⟨rfl,_⟩|⟨g,cap,cur,rfl,hg,hh,r⟩
  · simp [Value.ownBlock] at hk
  · have:g=k:=by simpa [Value.ownBlock] using hk
    subst this;exact ⟨cur,hh⟩

namespace Kd
def C {α : Type} (d:Kd α) (w:World) (A:Option Addr) (n:Nat) (xs:List α):Prop:=ReadsRow (d.K w) d.sz w A n xs
def R {α : Type} (d:Kd α) (e:Nat) (w:World) (base:Nat) (ok:Nat→Prop) (v:Value) (xs:List α):Prop :=
  (∀ k,v.ownBlock=some k→ok k)∧OwnRow (d.M w base (fun k=>ok k∧some k≠v.ownBlock)) e d.sz w base v xs
section
variable {α : Type} {d:Kd α} {e:Nat} {w w1:World} {base:Nat} {ok ok':Nat→Prop} {v:Value} {xs:List α}
theorem C_below {A : Option Addr} {n:Nat} (h:d.C w A n xs) (hb:Below w.heap.size w w1):d.C w1 A n xs:=ReadsRow.imp_ h hb (fun _ _ hp=>d.K_below hb hp)
theorem R_nil (d : Kd α) (e:Nat) (w:World) (base:Nat) (ok:Nat→Prop):d.R e w base ok (.slice none 0 0) []:=⟨fun k hk=>by simp [Value.ownBlock] at hk,OwnRow.none_ _ _ _ _ _⟩
theorem R_mono (h : d.R e w base ok v xs) (hok:∀ k,ok k→ok' k):d.R e w base ok' v xs:=⟨fun k hk=>hok k (h.1 k hk),h.2.imp_ (fun _ _ hp=>d.M_mono (fun k hk=>⟨hok k hk.1,hk.2⟩) hp)⟩
theorem R_bound (h : d.R e w base ok v xs):d.R e w base (fun k=>ok k∧base≤k∧k<w.heap.size∧∃ q,q ∈ e :: d.E∧∃ cells,w.heap[k]? = some (.cells cells q (0,0))) v xs:=by
  obtain ⟨h0,inner,ho,hr⟩:=h;refine ⟨fun k hk=>?_,inner,ho,hr.imp_ (fun _ _ hp=>d.M_mono (fun k hk=>?_) (d.M_bound hp))⟩
  · obtain ⟨cells,hc⟩:=own_typed ho k hk
    exact ⟨h0 k hk,own_base ho k hk,own_lt ho k hk,e,List.mem_cons_self,cells,hc⟩
  · obtain ⟨⟨h1,h2⟩,h3,h4,q,hq,hc⟩:=hk
    exact ⟨⟨h1,h3,h4,q,List.mem_cons_of_mem _ hq,hc⟩,h2⟩
theorem R_move (h : d.R e w base ok v xs) (hm:∀ k,ok k→w1.heap[k]? = w.heap[k]?):d.R e w1 base ok v xs:=by
  obtain ⟨h0,inner,ho,hr⟩:=h;exact ⟨h0,inner,own_move ho (fun k hk=>hm k (h0 k hk)),hr.imp_ (fun _ _ hp=>d.M_move (fun k hk=>hm k hk.1) hp)⟩
theorem R_lower {base' : Nat} (h:d.R e w base ok v xs) (hb:base'≤base):d.R e w base' ok v xs:=by
  obtain ⟨h0,inner,ho,hr⟩:=h;exact ⟨h0,inner,own_weaken ho hb,hr.imp_ (fun _ _ hp=>d.M_lower hb hp)⟩
theorem R_step (h : d.R e w base ok v xs) (hm:∀ k,ok k→k<w.heap.size→w1.heap[k]? = w.heap[k]?):d.R e w1 base ok v xs :=
  R_mono (R_move (R_bound h) (fun k hk=>hm k hk.1 hk.2.2.1)) (fun _ hk=>hk.1)
theorem M_step {x : α} {cs:List Value} (h:d.M w base ok x cs) (hm:∀ k,ok k→k<w.heap.size→w1.heap[k]? = w.heap[k]?):d.M w1 base ok x cs :=
  d.M_mono (fun _ hk=>hk.1) (d.M_move (fun k hk=>hm k hk.1 hk.2.2.1) (d.M_bound h))
theorem R_below (h : d.R e w base ok v xs) (hb:Below w.heap.size w w1):d.R e w1 base ok v xs:=R_step h (fun k _ hk=>hb.block k hk)
theorem R_far (h : d.R e w base ok v xs) {p:Addr} (hok:∀ k,ok k→k≠p.block) (u:Value):d.R e (w.setCell p u) base ok v xs:=R_step h (fun k ho _=>Below.heap_setCell w p u k (hok k ho))
theorem R_keep (h : d.R e w base ok v xs) {g:Nat} (hk:KeepBut w w1 g none) (hok:∀ k,ok k→k≠g):d.R e w1 base ok v xs:=R_step h (fun k ho hlt=>hk.2 k hlt (hok k ho) (by simp))
theorem R_types (h : d.R e w base ok v xs) {g t:Nat} {cells:Array Value} (hb:w.heap[g]? = some (.cells cells t (0,0))) (ht:∀ q,q ∈ e :: d.E→q≠t):d.R e w base (fun k=>ok k∧k≠g) v xs :=
  R_mono (R_bound h) (fun k hk=>⟨hk.1,by
    obtain ⟨_,_,_,q,hq,cells',hc⟩:=hk;rintro rfl;rw [hc] at hb;injection hb with hb
    injection hb with _ hb
    exact ht q hq hb⟩)
theorem R_reads (h : d.R e w base ok v xs):∃ A c,v = .slice A xs.length c∧xs.length≤c∧d.C w A xs.length xs:=by
  obtain ⟨A,c,he,hl,hr⟩:=OwnRow.reads h.2;exact ⟨A,c,he,hl,hr.imp_ (Below.refl _ _) (fun _ _ hp=>d.K_of_M hp)⟩
theorem R_slice (h : d.R e w base ok v xs):∃ A c,v = .slice A xs.length c:=by
  obtain ⟨A,c,he,_⟩:=R_reads h;exact ⟨A,c,he⟩
theorem R_own (h : d.R e w base ok v xs):∃ inner,w.ownsRow base e d.sz v xs.length inner:=by
  obtain ⟨_,inner,ho,_⟩:=h;exact ⟨inner,ho⟩
theorem R_ne (h : d.R e w base ok v xs) {g t:Nat} {cells:Array Value} (hb:w.heap[g]? = some (.cells cells t (0,0))) (ht:e≠t):some g≠v.ownBlock:=OwnRow.ne_block h.2 hb ht
end

def scalar {α : Type} (enc:α→Value) (h1:∀ x,(enc x).oneCell'=true):Kd α where
  sz:=1
  E:=[]
  K:=fun _ x cs=>cs=[enc x]
  M:=fun _ _ _ x cs=>cs=[enc x]
  K_len:=fun h=>by rw [h];rfl
  K_one:=fun h u hu=>by
    rw [h] at hu
    rw [List.mem_singleton.1 hu]
    exact h1 _
  K_below:=fun _ h=>h
  K_of_M:=fun h=>h
  M_mono:=fun _ h=>h
  M_bound:=fun h=>h
  M_move:=fun _ h=>h
  M_lower:=fun _ h=>h
def int (k : IntKind):Kd Int:=scalar (Value.int k) (fun _=>rfl)
def bool : Kd Bool:=scalar Value.bool (fun _=>rfl)
def string : Kd ByteArray:=scalar Value.string (fun _=>rfl)
def slice {α : Type} (e:Nat) (d:Kd α):Kd (List α) where
  sz:=1
  E:=e :: d.E
  K:=fun w xs cs=>∃ A c,cs=[.slice A xs.length c]∧xs.length≤c∧d.C w A xs.length xs
  M:=fun w base ok xs cs=>∃ v,cs=[v]∧d.R e w base ok v xs
  K_len:=by
    rintro w x cs ⟨A,c,rfl,_⟩
    rfl
  K_one:=by
    rintro w x cs ⟨A,c,rfl,_⟩ u hu
    rw [List.mem_singleton.1 hu]
    rfl
  K_below:=by
    rintro w w1 x cs hb ⟨A,c,rfl,hl,hr⟩
    exact ⟨A,c,rfl,hl,C_below hr hb⟩
  K_of_M:=by
    rintro w base ok x cs ⟨v,rfl,h⟩
    obtain ⟨A,c,rfl,hl,hr⟩:=R_reads h
    exact ⟨A,c,rfl,hl,hr⟩
  M_mono:=by
    rintro w base ok ok' x cs hok ⟨v,rfl,h⟩
    exact ⟨v,rfl,R_mono h hok⟩
  M_bound:=by
    rintro w base ok x cs ⟨v,rfl,h⟩
    exact ⟨v,rfl,R_bound h⟩
  M_move:=by
    rintro w w1 base ok x cs hm ⟨v,rfl,h⟩
    exact ⟨v,rfl,R_move h hm⟩
  M_lower:=by
    rintro w base base' ok x cs hb ⟨v,rfl,h⟩
    exact ⟨v,rfl,R_lower h hb⟩
def pair {α β : Type} (a:Kd α) (b:Kd β):Kd (α × β) where
  sz:=a.sz+b.sz
  E:=a.E++b.E
  K:=fun w x cs=>∃ c0 c1,cs=c0++c1∧a.K w x.1 c0∧b.K w x.2 c1
  M:=fun w base ok x cs=>∃ c0 c1,cs=c0++c1∧a.M w base ok x.1 c0∧b.M w base ok x.2 c1
  K_len:=by
    rintro w x cs ⟨c0,c1,rfl,h0,h1⟩
    rw [List.length_append,a.K_len h0,b.K_len h1]
  K_one:=by
    rintro w x cs ⟨c0,c1,rfl,h0,h1⟩ u hu
    rcases List.mem_append.1 hu with hu|hu
    · exact a.K_one h0 u hu
    · exact b.K_one h1 u hu
  K_below:=by
    rintro w w1 x cs hb ⟨c0,c1,rfl,h0,h1⟩
    exact ⟨c0,c1,rfl,a.K_below hb h0,b.K_below hb h1⟩
  K_of_M:=by
    rintro w base ok x cs ⟨c0,c1,rfl,h0,h1⟩
    exact ⟨c0,c1,rfl,a.K_of_M h0,b.K_of_M h1⟩
  M_mono:=by
    rintro w base ok ok' x cs hok ⟨c0,c1,rfl,h0,h1⟩
    exact ⟨c0,c1,rfl,a.M_mono hok h0,b.M_mono hok h1⟩
  M_bound:=by
    rintro w base ok x cs ⟨c0,c1,rfl,h0,h1⟩
    refine ⟨c0,c1,rfl,a.M_mono ?_ (a.M_bound h0),b.M_mono ?_ (b.M_bound h1)⟩
    · rintro k ⟨h2,h3,h4,q,hq,hc⟩
      exact ⟨h2,h3,h4,q,List.mem_append_left _ hq,hc⟩
    · rintro k ⟨h2,h3,h4,q,hq,hc⟩
      exact ⟨h2,h3,h4,q,List.mem_append_right _ hq,hc⟩
  M_move:=by
    rintro w w1 base ok x cs hm ⟨c0,c1,rfl,h0,h1⟩
    exact ⟨c0,c1,rfl,a.M_move hm h0,b.M_move hm h1⟩
  M_lower:=by
    rintro w base base' ok x cs hb ⟨c0,c1,rfl,h0,h1⟩
    exact ⟨c0,c1,rfl,a.M_lower hb h0,b.M_lower hb h1⟩
def iso {α β : Type} (d:Kd α) (f:β→α):Kd β where
  sz:=d.sz
  E:=d.E
  K:=fun w x cs=>d.K w (f x) cs
  M:=fun w base ok x cs=>d.M w base ok (f x) cs
  K_len:=d.K_len
  K_one:=d.K_one
  K_below:=d.K_below
  K_of_M:=d.K_of_M
  M_mono:=d.M_mono
  M_bound:=d.M_bound
  M_move:=d.M_move
  M_lower:=d.M_lower
def bot {α : Type} (sz:Nat) (E:List Nat):Kd α where
  sz:=sz
  E:=E
  K:=fun _ _ _=>False
  M:=fun _ _ _ _ _=>False
  K_len:=fun h=>h.elim
  K_one:=fun h=>h.elim
  K_below:=fun _ h=>h
  K_of_M:=fun h=>h
  M_mono:=fun _ h=>h
  M_bound:=fun h=>h
  M_move:=fun _ h=>h
  M_lower:=fun _ h=>h
def upto {α : Type} (F:Kd α→Kd α) (sz:Nat) (E:List Nat):Nat→Kd α
  | 0=>bot sz E
  | n+1=>F (upto F sz E n)
def fix {α : Type} (F:Kd α→Kd α) (sz:Nat) (E:List Nat) (hs:∀ n,(upto F sz E n).sz=sz) (hE:∀ n q,q ∈ (upto F sz E n).E→q ∈ E):Kd α where
  sz:=sz
  E:=E
  K:=fun w x cs=>∃ n,(upto F sz E n).K w x cs
  M:=fun w base ok x cs=>∃ n,(upto F sz E n).M w base ok x cs
  K_len:=by
    rintro w x cs ⟨n,h⟩
    rw [(upto F sz E n).K_len h,hs n]
  K_one:=by
    rintro w x cs ⟨n,h⟩
    exact (upto F sz E n).K_one h
  K_below:=by
    rintro w w1 x cs hb ⟨n,h⟩
    exact ⟨n,(upto F sz E n).K_below hb h⟩
  K_of_M:=by
    rintro w base ok x cs ⟨n,h⟩
    exact ⟨n,(upto F sz E n).K_of_M h⟩
  M_mono:=by
    rintro w base ok ok' x cs hok ⟨n,h⟩
    exact ⟨n,(upto F sz E n).M_mono hok h⟩
  M_bound:=by
    rintro w base ok x cs ⟨n,h⟩
    refine ⟨n,(upto F sz E n).M_mono ?_ ((upto F sz E n).M_bound h)⟩
    rintro k ⟨h2,h3,h4,q,hq,hc⟩
    exact ⟨h2,h3,h4,q,hE n q hq,hc⟩
  M_move:=by
    rintro w w1 base ok x cs hm ⟨n,h⟩
    exact ⟨n,(upto F sz E n).M_move hm h⟩
  M_lower:=by
    rintro w base base' ok x cs hb ⟨n,h⟩
    exact ⟨n,(upto F sz E n).M_lower hb h⟩

theorem C_get {α : Type} {d:Kd α} {w:World} {A:Option Addr} {n:Nat} {xs:List α} (h:d.C w A n xs) (z:α) (i:Int) (h0:0≤i) (h1:i<n) :
    ∃ ad c,A=some ad∧c.length=d.sz∧d.K w (xs.getD i.toNat z) c∧∀ j u,c[j]? = some u→w.cell? (ad.add (i.toNat*d.sz+j))=some u:=ReadsRow.get_ h z i h0 h1
theorem R_appended {α : Type} {d:Kd α} {e base:Nat} {ok okp:Nat→Prop} {W w1:World} {v v1:Value} {xs:List α} {p:α} {inner cs:List Value} (h0:∀ k,v.ownBlock=some k→ok k) (hr:Reps (d.M W base (fun k=>ok k∧some k≠v.ownBlock)) d.sz xs inner) (hp:d.M W base okp p cs) (hokp:∀ k,okp k→ok k∧some k≠v.ownBlock) (hfresh:∀ k,W.heap.size≤k→ok k)
    (hown:w1.ownsRow base e d.sz v1 (xs.length+1) (inner++cs)) (hg:W.grownBy w1 v.ownBlock) (hat:v1.ownBlock=v.ownBlock∨∃ b,v1.ownBlock=some b∧W.heap.size≤b):d.R e w1 base ok v1 (xs++[p]):=by
  have hne:∀ k,some k≠v.ownBlock→k<W.heap.size→some k≠v1.ownBlock:=by
    intro k hk hlt;rcases hat with hat|⟨b,hb,hle⟩
    · rw [hat];exact hk
    · rw [hb]
      intro he;injection he with he
      omega
  have step:∀ {q:α} {c:List Value} {o:Nat→Prop},d.M W base o q c→(∀ k,o k→ok k∧some k≠v.ownBlock)→d.M w1 base (fun k=>ok k∧some k≠v1.ownBlock) q c:=by
    intro q c o hq ho;have h1:=d.M_move (w1:=w1) (fun k hk=>hg.block k hk.2.2.1 (ho k hk.1).2) (d.M_bound hq);exact d.M_mono (fun k hk=>⟨(ho k hk.1).1,hne k (ho k hk.1).2 hk.2.2.1⟩) h1
  refine ⟨fun k hk=>?_,inner++cs,by rw [List.length_append,List.length_singleton];exact hown,?_⟩
  · rcases hat with hat|⟨b,hb,hle⟩
    · exact h0 k (hat ▸ hk)
    · rw [hb] at hk
      injection hk with hk
      exact hfresh k (by omega)
  · exact (hr.imp_ (fun _ _ hq=>step hq (fun _ hk=>hk))).snoc (step hp hokp) (d.K_len (d.K_of_M hp))
section
variable {P : Program} {ops:Array Oper} {rest:List Oper} {o:Oper} {a:Act} {Q:Exit→Act→World→Prop} {α:Type}
theorem R_append (d : Kd α) {w0 W:World} (base:Nat) (hgd:o.guard=none) (s x:Operand) (t e:TypeId) (z:Value) (bytes:Nat)
    (ho:o.op = .call { callee := .builtin .append,args:=#[s,x],argTypes:=#[t,t] })
    (ht:P.underlying t=some (.slice e)) (hinfo:(P.info? e).map (fun i=>(i.zero,i.size,i.bytes))=some (some z,d.sz,bytes)) (hz:z.cells.size=d.sz) (hs0:0<d.sz) (hb0:0<bytes)
    (v:Value) (xs:List α) (p:α) (cs:List Value) (ok okp:Nat→Prop) (hs:a.eval s=v) (hx:a.eval x = .slice (some ⟨W.heap.size,0,none⟩) 1 1) (hp:d.M W base okp p cs) (hokp:∀ k,okp k→ok k∧some k≠v.ownBlock) (hfresh:∀ k,W.heap.size≤k→ok k)
    (HO:d.R e W base ok v xs) (HB:Below base w0 W) (hbase:base≤W.heap.size) (hl:(xs.length+1)*bytes≤140737488355328)
    (h:∀ v1 w1,d.R e w1 base ok v1 (xs++[p])→Below base w0 w1→W.grownBy w1 v.ownBlock→(v1.ownBlock=v.ownBlock∨∃ b,v1.ownBlock=some b∧W.heap.size≤b)→wpList P ops Q rest (a.put o.dst v1) w1) :
    wpList P ops Q (o :: rest) a (W.alloc (.cells cs.toArray e)):=by
  obtain ⟨h0,inner,hown,hr⟩:=HO;refine print_append_cells base hgd s x t e z d.sz bytes ho ht hinfo hz hs0 hb0 v xs.length inner cs hs hx (d.K_len (d.K_of_M hp)) (d.K_one (d.K_of_M hp)) hown HB hbase hl ?_;intro v1 w1 hown1 hb1 hg1 hat1;exact h v1 w1 (R_appended h0 hr hp hokp hfresh hown1 hg1 hat1) hb1 hg1 hat1
end
section
variable {P : Program} {ops:Array Oper} {o:Oper} {a:Act} {Q:Exit→Act→World→Prop} {Kc:Act→World→Prop} {α:Type}
end
theorem reps_scalar {α : Type} {enc:α→Value} (xs:List α):Reps (fun (x:α) (cs:List Value)=>cs=[enc x]) 1 xs (encs enc xs):=by
  refine ⟨by simp [encs],fun j p hj=>?_⟩;obtain ⟨hl,hp⟩:=List.getElem?_eq_some_iff.1 hj;have hl':j<(encs enc xs).length:=by rw [encs_length];exact hl
  rw [Nat.mul_one,List.drop_eq_getElem_cons hl'];simp [encs,hp]
theorem R_of_own {α : Type} {enc:α→Value} {h1:∀ x,(enc x).oneCell'=true} {e:Nat} {w:World} {base:Nat} {ok:Nat→Prop} {v:Value} {xs:List α} (ho:w.ownsRow base e 1 v xs.length (encs enc xs)) (hok:∀ k,v.ownBlock=some k→ok k):(scalar enc h1).R e w base ok v xs:=⟨hok,encs enc xs,ho,reps_scalar xs⟩
theorem own_of_R {α : Type} {enc:α→Value} {h1:∀ x,(enc x).oneCell'=true} {e:Nat} {w:World} {base:Nat} {ok:Nat→Prop} {v:Value} {xs:List α} (h:(scalar enc h1).R e w base ok v xs):w.ownsRow base e 1 v xs.length (encs enc xs):=by
  obtain ⟨_,inner,ho,hr⟩:=h
  have:inner=encs enc xs:=by
    apply List.ext_getElem?;intro j;rcases Nat.lt_or_ge j xs.length with hj|hj
    · have h2:=hr.2 j _ (List.getElem?_eq_getElem hj)
      have hl:j<inner.length:=by have:=hr.1;simp [scalar] at this;omega
      have h3:(inner.drop (j*1)).take 1=[enc xs[j]]:=h2;rw [Nat.mul_one,List.drop_eq_getElem_cons hl] at h3
      have h4:inner[j]=enc xs[j]:=by
        have h5:=congrArg List.head? h3;rw [List.take_succ_cons] at h5;exact Option.some.inj h5
      rw [List.getElem?_eq_getElem hl,h4];simp [encs,List.getElem?_eq_getElem hj]
    · have h3:inner.length=xs.length:=by have:=hr.1;simp [scalar] at this;omega
      rw [List.getElem?_eq_none (by omega),List.getElem?_eq_none (by rw [encs_length];omega)]
  rw [← this];exact ho
theorem C_of_reads {α : Type} {enc:α→Value} {d:α} {h1:∀ x,(enc x).oneCell'=true} {w:World} {A:Option Addr} {n:Nat} {xs:List α} (h:ReadsOf enc d w A n xs):(scalar enc h1).C w A n xs:=by
  refine ⟨h.1,h.2.1,fun hn=>?_⟩;obtain ⟨ad,e,hc⟩:=h.2.2 hn;refine ⟨ad,e,fun j p hj=>⟨[enc p],rfl,rfl,fun i u hu=>?_⟩⟩;obtain ⟨hl,hp⟩:=List.getElem?_eq_some_iff.1 hj;have h2:=hc j (by have:=h.1;omega);rw [List.getD_eq_getElem?_getD,hj] at h2;cases i with
  | zero =>
    have:enc p=u:=by simpa using hu
    subst this
    simpa [scalar] using h2
  | succ i=>simp at hu
theorem reads_of_C {α : Type} {enc:α→Value} {d:α} {h1:∀ x,(enc x).oneCell'=true} {w:World} {A:Option Addr} {n:Nat} {xs:List α} (h:(scalar enc h1).C w A n xs):ReadsOf enc d w A n xs:=by
  refine ⟨h.1,h.2.1,fun hn=>?_⟩;obtain ⟨ad,e,hc⟩:=h.2.2 hn;refine ⟨ad,e,fun j hj=>?_⟩;have hl:j<xs.length:=by have:=h.1;omega
  obtain ⟨c,_,hK,hcell⟩:=hc j _ (List.getElem?_eq_getElem hl);have hK':c=[enc xs[j]]:=hK;subst hK';have:=hcell 0 _ rfl
  simpa [scalar,List.getD_eq_getElem?_getD,List.getElem?_eq_getElem hl] using this
end Kd
namespace Kd
structure Mono {α β : Type} (F:Kd α→Kd β):Prop where
  sz:∀ d d':Kd α,d.sz=d'.sz→(F d).sz=(F d').sz
  K:∀ d d':Kd α,d.sz=d'.sz→(∀ w x cs,d.K w x cs→d'.K w x cs)→∀ w x cs,(F d).K w x cs→(F d').K w x cs
  M:∀ d d':Kd α,d.sz=d'.sz→(∀ w base ok x cs,d.M w base ok x cs→d'.M w base ok x cs)→∀ w base ok x cs,(F d).M w base ok x cs→(F d').M w base ok x cs
theorem mono_const {α β : Type} (k:Kd β):Mono (fun _:Kd α=>k):=⟨fun _ _ _=>rfl,fun _ _ _ _ _ _ _ h=>h,fun _ _ _ _ _ _ _ _ _ h=>h⟩
theorem mono_id {α : Type}:Mono (fun d:Kd α=>d):=⟨fun _ _ h=>h,fun _ _ _ h=>h,fun _ _ _ h=>h⟩
theorem C_imp {α : Type} {d d':Kd α} (hs:d.sz=d'.sz) (h:∀ w x cs,d.K w x cs→d'.K w x cs) {w:World} {A:Option Addr} {n:Nat} {xs:List α} (hc:d.C w A n xs):d'.C w A n xs:=by
  unfold C at hc ⊢;rw [← hs];exact hc.imp_ (Below.refl _ _) (fun _ _ hp=>h _ _ _ hp)
theorem R_imp {α : Type} {d d':Kd α} (hs:d.sz=d'.sz) (h:∀ w base ok x cs,d.M w base ok x cs→d'.M w base ok x cs) {e:Nat} {w:World} {base:Nat} {ok:Nat→Prop} {v:Value} {xs:List α} (hr:d.R e w base ok v xs):d'.R e w base ok v xs:=by
  unfold R at hr ⊢;rw [← hs];exact ⟨hr.1,hr.2.imp_ (fun _ _ hp=>h _ _ _ _ _ hp)⟩
theorem mono_slice {α β : Type} (e:Nat) {G:Kd α→Kd β} (hG:Mono G):Mono (fun d=>slice e (G d)):=by
  refine ⟨fun _ _ _=>rfl,?_,?_⟩
  · rintro d d' hs h w x cs ⟨A,c,rfl,hl,hr⟩
    exact ⟨A,c,rfl,hl,C_imp (hG.sz d d' hs) (hG.K d d' hs h) hr⟩
  · rintro d d' hs h w base ok x cs ⟨v,rfl,hr⟩
    exact ⟨v,rfl,R_imp (hG.sz d d' hs) (hG.M d d' hs h) hr⟩
theorem mono_pair {α β γ:Type} {G:Kd α→Kd β} {H:Kd α→Kd γ} (hG:Mono G) (hH:Mono H):Mono (fun d=>pair (G d) (H d)):=by
  refine ⟨fun d d' hs=>?_,?_,?_⟩
  · show (G d).sz+(H d).sz=(G d').sz+(H d').sz
    rw [hG.sz d d' hs,hH.sz d d' hs]
  · rintro d d' hs h w x cs ⟨c0,c1,rfl,h0,h1⟩
    exact ⟨c0,c1,rfl,hG.K d d' hs h _ _ _ h0,hH.K d d' hs h _ _ _ h1⟩
  · rintro d d' hs h w base ok x cs ⟨c0,c1,rfl,h0,h1⟩
    exact ⟨c0,c1,rfl,hG.M d d' hs h _ _ _ _ _ h0,hH.M d d' hs h _ _ _ _ _ h1⟩
theorem mono_iso {α β γ:Type} {G:Kd α→Kd β} (f:γ→β) (hG:Mono G):Mono (fun d=>iso (G d) f) :=
  ⟨hG.sz,fun d d' hs h w x cs=>hG.K d d' hs h w (f x) cs,fun d d' hs h w base ok x cs=>hG.M d d' hs h w base ok (f x) cs⟩
def Sub {α β : Type} (F:Kd α→Kd β) (E:List Nat):Prop:=∀ d:Kd α,(∀ q,q ∈ d.E→q ∈ E)→∀ q,q ∈ (F d).E→q ∈ E
theorem sub_const {α β : Type} {E:List Nat} (k:Kd β) (h:∀ q,q ∈ k.E→q ∈ E):Sub (fun _:Kd α=>k) E:=fun _ _=>h
theorem sub_id {α : Type} {E:List Nat}:Sub (fun d:Kd α=>d) E:=fun _ h=>h
theorem sub_slice {α β : Type} {E:List Nat} (e:Nat) {G:Kd α→Kd β} (he:e ∈ E) (hG:Sub G E):Sub (fun d=>slice e (G d)) E:=fun d h q hq=>by
  rcases List.mem_cons.1 hq with rfl|hq
  · exact he
  · exact hG d h q hq
theorem sub_pair {α β γ:Type} {E:List Nat} {G:Kd α→Kd β} {H:Kd α→Kd γ} (hG:Sub G E) (hH:Sub H E):Sub (fun d=>pair (G d) (H d)) E:=fun d h q hq=>by
  rcases List.mem_append.1 hq with hq|hq
  · exact hG d h q hq
  · exact hH d h q hq
theorem sub_iso {α β γ:Type} {E:List Nat} {G:Kd α→Kd β} (f:γ→β) (hG:Sub G E):Sub (fun d=>iso (G d) f) E:=hG
theorem upto_E {α : Type} {F:Kd α→Kd α} {sz:Nat} {E:List Nat} (h:Sub F E):∀ n q,q ∈ (upto F sz E n).E→q ∈ E
  | 0,_,hq=>hq
  | n+1,q,hq=>h _ (upto_E h n) q hq
theorem upto_sz {α : Type} {F:Kd α→Kd α} {sz:Nat} {E:List Nat} (h:∀ d:Kd α,(F d).sz=sz):∀ n,(upto F sz E n).sz=sz
  | 0=>rfl
  | _+1=>h _
section
variable {α : Type} {F:Kd α→Kd α} {sz:Nat} {E:List Nat} {hs:∀ n,(upto F sz E n).sz=sz} {hE:∀ n q,q ∈ (upto F sz E n).E→q ∈ E}
theorem upto_M (hm : Mono F) (hs:∀ n,(upto F sz E n).sz=sz):∀ n {w base ok x cs},(upto F sz E n).M w base ok x cs→(upto F sz E (n+1)).M w base ok x cs
  | 0,_,_,_,_,_,h=>h.elim
  | n+1,_,_,_,_,_,h=>hm.M _ _ (by rw [hs n,hs (n+1)]) (fun _ _ _ _ _ hk=>upto_M hm hs n hk) _ _ _ _ _ h
theorem upto_M_le (hm : Mono F) (hs:∀ n,(upto F sz E n).sz=sz) {n m:Nat} (hnm:n≤m) {w base ok x cs} (h:(upto F sz E n).M w base ok x cs):(upto F sz E m).M w base ok x cs:=by
  obtain ⟨j,rfl⟩:=Nat.exists_eq_add_of_le hnm
  induction j with
  | zero=>exact h
  | succ j ih=>exact upto_M hm hs _ (ih (by omega))
theorem fix_C {n : Nat} {w:World} {A:Option Addr} {m:Nat} {xs:List α} (h:(upto F sz E n).C w A m xs):(fix F sz E hs hE).C w A m xs:=C_imp (d':=fix F sz E hs hE) (hs n) (fun w x cs hp=>(⟨n,hp⟩:∃ n,(upto F sz E n).K w x cs)) h
theorem bounded {P : Nat→Nat→Prop} (hP:∀ n m j,n≤m→P n j→P m j):∀ m,(∀ j,j<m→∃ n,P n j)→∃ N,∀ j,j<m→P N j
  | 0,_=>⟨0,fun j hj=>absurd hj (Nat.not_lt_zero j)⟩
  | m+1,h=>by
    obtain ⟨N,hN⟩:=bounded hP m (fun j hj=>h j (by omega));obtain ⟨n,hn⟩:=h m (by omega);refine ⟨max N n,fun j hj=>?_⟩;rcases Nat.lt_or_ge j m with hj'|hj'
    · exact hP N _ j (Nat.le_max_left _ _) (hN j hj')
    · have:j=m:=by omega
      subst this;exact hP n _ j (Nat.le_max_right _ _) hn
theorem reps_bounded {α : Type} {R:Nat→α→List Value→Prop} (hR:∀ n m p c,n≤m→R n p c→R m p c) {size:Nat} {ps:List α} {cs:List Value} (h:Reps (fun p c=>∃ n,R n p c) size ps cs):∃ N,Reps (R N) size ps cs:=by
  obtain ⟨N,hN⟩:=bounded (P:=fun n j=>∀ p,ps[j]? = some p→R n p ((cs.drop (j*size)).take size)) (fun n m j hnm hp p hj=>hR n m p _ hnm (hp p hj)) ps.length
    (fun j hj=>by
      obtain ⟨n,hn⟩:=h.2 j _ (List.getElem?_eq_getElem hj);refine ⟨n,fun p hp=>?_⟩;rw [List.getElem?_eq_getElem hj] at hp;injection hp with hp
      rw [← hp];exact hn)
  exact ⟨N,h.1,fun j p hj=>hN j (List.getElem?_eq_some_iff.1 hj).1 p hj⟩
theorem fix_R_back (hm : Mono F) {e:Nat} {w:World} {base:Nat} {ok:Nat→Prop} {v:Value} {xs:List α} (h:(fix F sz E hs hE).R e w base ok v xs):∃ n,(upto F sz E n).R e w base ok v xs:=by
  obtain ⟨h0,inner,ho,hr⟩:=h;obtain ⟨N,hN⟩:=reps_bounded (R:=fun n p c=>(upto F sz E n).M w base (fun k=>ok k∧some k≠v.ownBlock) p c) (fun n m p c hnm hp=>upto_M_le hm hs hnm hp) hr;refine ⟨N,h0,inner,?_,?_⟩
  · rw [hs N];exact ho
  · rw [hs N];exact hN
theorem upto_R_le (hm : Mono F) (hs:∀ n,(upto F sz E n).sz=sz) {n m:Nat} (hnm:n≤m) {e:Nat} {w:World} {base:Nat} {ok:Nat→Prop} {v:Value} {xs:List α} (h:(upto F sz E n).R e w base ok v xs):(upto F sz E m).R e w base ok v xs:=R_imp (by rw [hs n,hs m]) (fun _ _ _ _ _ hp=>upto_M_le hm hs hnm hp) h
end
end Kd
namespace Kd
theorem R_after {α : Type} {d:Kd α} {e base:Nat} {ok:Nat→Prop} {W w1:World} {u v v1:Value} {xs:List α} (h:d.R e W base (fun k=>ok k∧some k≠v.ownBlock) u xs) (hg:W.grownBy w1 v.ownBlock) (hat:v1.ownBlock=v.ownBlock∨∃ b,v1.ownBlock=some b∧W.heap.size≤b):d.R e w1 base (fun k=>ok k∧some k≠v1.ownBlock) u xs:=by
  refine R_mono (R_move (R_bound h) (fun k hk=>hg.block k hk.2.2.1 hk.1.2)) (fun k hk=>⟨hk.1.1,?_⟩);rcases hat with hat|⟨b,hb,hle⟩
  · rw [hat];exact hk.1.2
  · rw [hb]
    intro he;injection he with he
    have:=hk.2.2.1;omega
end Kd
namespace Kd
section
variable {α β : Type} {d:Kd α} {d':Kd β} {e e':Nat} {w w1 W:World} {base b b':Nat} {ok ok' okv oku:Nat→Prop} {v u:Value} {xs:List α} {ys:List β}
theorem R_alloc (h : d.R e w base ok v xs) (o:Obj):d.R e (w.alloc o) base ok v xs:=R_below h (j1s (Below.refl _ _) o)
theorem R_drew (h : d.R e w base ok v xs):d.R e w.drew base ok v xs:=R_below h (below_drew (Below.refl _ _))
theorem R_drewN (h : d.R e w base ok v xs) (m:Nat):d.R e (w.drewN m) base ok v xs:=R_below h (j1q (Below.refl _ _) m)
theorem C_alloc {A : Option Addr} {n:Nat} (h:d.C w A n xs) (o:Obj):d.C (w.alloc o) A n xs:=C_below h (j1s (Below.refl _ _) o)
theorem C_drew {A : Option Addr} {n:Nat} (h:d.C w A n xs):d.C w.drew A n xs:=C_below h (below_drew (Below.refl _ _))
theorem C_drewN {A : Option Addr} {n:Nat} (h:d.C w A n xs) (m:Nat):d.C (w.drewN m) A n xs:=C_below h (j1q (Below.refl _ _) m)
theorem C_nil (d : Kd α) (w:World):d.C w none ([]:List α).length []:=⟨rfl,by simp,fun h=>absurd h (Nat.lt_irrefl 0)⟩
theorem C_max {A : Option Addr} {n:Nat} (h:d.C w A n xs):n≤9223372036854775807:=h.2.1
theorem R_reads' {A : Option Addr} {n c:Nat} (h:d.R e w base ok (.slice A n c) xs):n=xs.length∧n≤c∧d.C w A xs.length xs:=by
  obtain ⟨A',c',he,hl,hr⟩:=R_reads h;injection he with h1 h2 h3
  subst h1;exact ⟨h2,by omega,hr⟩
theorem R_lt (h : d.R e w base ok v xs):∀ k,v.ownBlock=some k→k<w.heap.size:=by
  obtain ⟨inner,ho⟩:=R_own h;exact own_lt ho
theorem R_base (h : d.R e w base ok v xs):∀ k,v.ownBlock=some k→base≤k:=by
  obtain ⟨inner,ho⟩:=R_own h;exact own_base ho
theorem R_away (h : d.R e w base ok v xs) {g:Nat} (hok:∀ k,ok k→k≠g):some g≠v.ownBlock:=fun e=>hok g (h.1 g e.symm) rfl
end
section
variable {w W : World} {A:Option Addr} {n:Nat}
variable {α : Type} {enc:α→Value} {h1:∀ x,(enc x).oneCell'=true} {e base g cap:Nat} {ok:Nat→Prop} {xs:List α}
theorem R_put (h : (scalar enc h1).R e W base ok (.slice (some ⟨g,0,none⟩) xs.length cap) xs) (i:Int) (x:α):(scalar enc h1).R e (W.setCell ⟨g,i.toNat,none⟩ (enc x)) base ok (.slice (some ⟨g,0,none⟩) xs.length cap) (xs.set i.toNat x)∧W.grownBy (W.setCell ⟨g,i.toNat,none⟩ (enc x)) (some g):=by
  obtain ⟨ho,hg⟩:=own_store_of (own_of_R h) i x;exact ⟨R_of_own (by rw [List.length_set];exact ho) h.1,hg⟩
end

section
variable {P : Program} {ops:Array Oper} {rest:List Oper} {o:Oper} {a:Act} {Q:Exit→Act→World→Prop}
theorem event_run {W w1 : World} {v:Value} (hgd:o.guard=none) (hrun:(execOp a.eval o).run P W = .ok (.value v) w1) (h:wpList P ops Q rest (a.put o.dst v) w1):wpList P ops Q (o :: rest) a W:=by
  refine wpList_plain hgd fun K hK=>?_
  unfold Oper.wp;rw [hrun];exact hK _ _ h
variable {α : Type}
end
end Kd
section
variable {P : Program}
end
def QRow (w : World) (base:Nat) (e:TypeId) (size:Nat) (v:Value) (n:Nat) (xs:List Value):Prop :=
  xs.length=n*size ∧
  ((n=0∧∃ A,v = .slice A 0 0∧∀ a,A=some a→base≤a.block∧∃ cur,w.heap[a.block]? = some (.cells cur e (0,0))) ∨
   ∃ g off cap cur,v = .slice (some ⟨g,off*size,none⟩) n cap∧base≤g∧w.heap[g]? = some (.cells cur e (0,0))∧n≤cap∧off+cap≤maxLen∧cur.size=(off+cap)*size∧(cur.toList.drop (off*size)).take (n*size)=xs)
section
variable {w w1 : World} {base n size:Nat} {e:TypeId} {v:Value} {xs:List Value}
theorem q_of_own (h : w.ownsRow base e size v n xs):QRow w base e size v n xs:=by
  obtain ⟨h1,h2⟩:=h;refine ⟨h1,?_⟩;rcases h2 with ⟨rfl,h0⟩|⟨g,cap,cur,rfl,hb,hh,hnc,hcm,hcs,ht⟩
  · exact .inl ⟨h0,none,rfl,fun a ha=>by cases ha⟩
  · exact .inr ⟨g,0,cap,cur,by rw [Nat.zero_mul],hb,hh,hnc,by rw [Nat.zero_add];exact hcm,by rw [Nat.zero_add];exact hcs,by rw [Nat.zero_mul,List.drop_zero];exact ht⟩
theorem setCells_far {g : Nat}:∀ (vs:List Value) (o:Nat) {w:World} (k:Nat),k≠g→(w.setCells g o vs).heap[k]? = w.heap[k]?
  | [],_,_,_,_=>rfl
  | v :: r,o,w,k,hk=>by
    rw [World.setCells,setCells_far r (o+1) k hk];exact Below.heap_setCell w ⟨g,o,none⟩ v k hk
theorem setCells_same (g : Nat):∀ (vs:List Value) (o:Nat) (w:World),(w.setCells g o vs).os=w.os∧(w.setCells g o vs).tape=w.tape∧(w.setCells g o vs).output=w.output∧(w.setCells g o vs).heap.size=w.heap.size
  | [],_,_=>⟨rfl,rfl,rfl,rfl⟩
  | v :: r,o,w=>by
    obtain ⟨h1,h2,h3,h4⟩:=setCells_same g r (o+1) (w.setCell ⟨g,o,none⟩ v);rw [World.setCells];exact ⟨h1,h2,h3,by rw [h4];simp [World.setCell]⟩
theorem setCells_row {g : Nat} {e:TypeId}:∀ (vs:List Value) (o:Nat) (w:World) (cur:Array Value),w.heap[g]? = some (.cells cur e (0,0))→o+vs.length≤cur.size →
    ∃ cur',(w.setCells g o vs).heap[g]? = some (.cells cur' e (0,0))∧cur'.size=cur.size∧cur'.toList=cur.toList.take o++vs++cur.toList.drop (o+vs.length)
  | [],o,w,cur,h,_=>⟨cur,h,rfl,by simp⟩
  | v :: r,o,w,cur,h,hl=>by
    have h2:=blk_set h o v;simp only [List.length_cons] at hl;obtain ⟨cur',h3,h4,h5⟩:=setCells_row r (o+1) (w.setCell ⟨g,o,none⟩ v) _ h2 (by simp;omega);refine ⟨cur',h3,by rw [h4];simp,?_⟩;rw [h5,Array.toList_setIfInBounds];have ho:o<cur.toList.length:=by rw [Array.length_toList];omega
    rw [List.take_set,List.drop_set_of_lt (by omega)];simp only [List.length_cons];rw [show o+1+r.length=o+(r.length+1) by omega]
    congr 1
    rw [List.take_succ_eq_append_getElem ho,List.set_append_right _ _ (by rw [List.length_take];omega)];have ho':o<cur.size:=by omega
    simp [Nat.min_eq_left (Nat.le_of_lt ho')]
end
section
variable {P : Program}
end
namespace Kd
def Q {α : Type} (d:Kd α) (e:Nat) (w:World) (base:Nat) (ok:Nat→Prop) (v:Value) (xs:List α):Prop :=
  (∀ k,v.ownBlock=some k→ok k)∧∃ inner,QRow w base e d.sz v xs.length inner∧Reps (d.M w base (fun k=>ok k∧some k≠v.ownBlock)) d.sz xs inner
section
variable {α : Type} {d:Kd α} {e:Nat} {w w1 W:World} {base:Nat} {ok ok':Nat→Prop} {v:Value} {xs:List α}
theorem Q_of_R (h : d.R e w base ok v xs):d.Q e w base ok v xs:=by
  obtain ⟨h0,inner,ho,hr⟩:=h;exact ⟨h0,inner,q_of_own ho,hr⟩
theorem Q_nil (d : Kd α) (e:Nat) (w:World) (base:Nat) (ok:Nat→Prop):d.Q e w base ok (.slice none 0 0) []:=Q_of_R (R_nil d e w base ok)
end
section
variable {P : Program} {ops:Array Oper} {rest:List Oper} {o:Oper} {a:Act} {Q':Exit→Act→World→Prop} {Kc:Act→World→Prop} {α:Type}
end
end Kd
namespace Kd
section
variable {α : Type} {d:Kd α} {e e':Nat} {w w1 W:World} {base:Nat} {ok:Nat→Prop} {u v:Value} {xs:List α}
theorem R_typed (h : d.R e w base ok v xs):∀ k,v.ownBlock=some k→∃ cells,w.heap[k]? = some (.cells cells e (0,0)):=by
  obtain ⟨inner,ho⟩:=R_own h;exact fun k hk=>own_typed ho k hk
theorem R_over' (h : d.R e W base ok u xs) (hty:∀ k,v.ownBlock=some k→∃ cells,W.heap[k]? = some (.cells cells e' (0,0))) (ht:∀ q,q ∈ e :: d.E→q≠e') (hg:W.grownBy w1 v.ownBlock):d.R e w1 base ok u xs:=by
  refine R_mono (R_move (R_bound h) (fun k hk=>hg.block k hk.2.2.1 (fun he=>?_))) (fun _ hk=>hk.1);obtain ⟨_,_,_,q,hq,cells,hc⟩:=hk;obtain ⟨cells',hc'⟩:=hty k he.symm;rw [hc] at hc';injection hc' with hc'
  injection hc' with _ hc'
  exact ht q hq hc'
theorem R_apart' (h : d.R e W base ok u xs) (hty:∀ k,v.ownBlock=some k→∃ cells,W.heap[k]? = some (.cells cells e' (0,0))) (ht:∀ q,q ∈ e :: d.E→q≠e'):d.R e W base (fun k=>ok k∧some k≠v.ownBlock) u xs:=by
  refine R_mono (R_bound h) (fun k hk=>⟨hk.1,fun he=>?_⟩);obtain ⟨_,_,_,q,hq,cells,hc⟩:=hk;obtain ⟨cells',hc'⟩:=hty k he.symm;rw [hc] at hc';injection hc' with hc'
  injection hc' with _ hc'
  exact ht q hq hc'
theorem R_elder' (hu : d.R e W base ok u xs) (hbase:∀ k,v.ownBlock=some k→W.heap.size≤k) (hb:Below W.heap.size W w1):d.R e w1 base (fun k=>ok k∧some k≠v.ownBlock) u xs :=
  R_mono (R_move (R_bound hu) (fun k hk=>hb.block k hk.2.2.1)) (fun k hk=>⟨hk.1,fun he=>by have:=hbase k he.symm;have:=hk.2.2.1;omega⟩)
theorem R_new' (h : d.R e w1 W.heap.size ok v xs) (hlt:∀ k,u.ownBlock=some k→k<W.heap.size):d.R e w1 W.heap.size (fun k=>ok k∧some k≠u.ownBlock) v xs :=
  R_mono (R_bound h) (fun k hk=>⟨hk.1,fun he=>by have:=hlt k he.symm;have:=hk.2.1;omega⟩)

theorem fresh' (hlt : ∀ k,u.ownBlock=some k→k<W.heap.size):∀ k,W.heap.size≤k→some k≠u.ownBlock:=fun k hk he=>by have:=hlt k he.symm;omega
end
end Kd
namespace Kd
section
variable {α : Type} {d:Kd α} {e base g n cap:Nat} {ok okp:Nat→Prop} {W:World} {xs:List α}
end
end Kd
namespace Kd
section
variable {α : Type} {F:Kd α→Kd α} {sz:Nat} {E:List Nat} {hs:∀ n,(upto F sz E n).sz=sz} {hE:∀ n q,q ∈ (upto F sz E n).E→q ∈ E}
end
end Kd
namespace Kd
section
variable {P : Program} {ops:Array Oper} {rest:List Oper} {o:Oper} {a:Act} {Q:Exit→Act→World→Prop} {α:Type}
end
end Kd
theorem run_store_run {P : Program} {w:World} {g o:Nat} {e:TypeId} {cur:Array Value} (t:TypeId) (u:Value) (seg:List Value) (hh:w.heap[g]? = some (.cells cur e (0,0))) (hu:u.cells.toList=seg) (ht:(P.info? t).map (·.size)=some seg.length)
    (hfit:o+seg.length≤cur.size) (h1:∀ q ∈ seg,q.oneCell'=true):(Instr.storeAt t (.pointer (some ⟨g,o,none⟩)) u).run P w = .ok () (w.setCells g o seg):=by
  obtain ⟨i,hi,hsz⟩:=Option.map_eq_some_iff.1 ht;have hc:u.cells.size=i.size:=by rw [hsz,← hu,Array.length_toList]
  have hst:=run_storeCells_cells (P:=P) g o seg 0 w (fun j hj=>by rw [cell_of_row w g _ cur e (0,0) hh];simp;omega) (fun j _=>j1a hh _) h1;simp only [Nat.add_zero] at hst;simp [Instr.storeAt,Instr.sureAddr,storeVar,sizeOf,typeInfo,hi,hc,hu,hst]
namespace Kd
section
variable {P : Program} {ops:Array Oper} {rest:List Oper} {o:Oper} {a:Act} {Q:Exit→Act→World→Prop} {α:Type}
end
end Kd
namespace Kd
section
variable {α : Type} {k:Kd α} {w:World} {A:Option Addr} {xs:List α} {m c:Nat}
end
end Kd
section
variable {P : Program}
end
theorem string_of_reads {P : Program} {w:World} {src dst e:TypeId} {A:Option Addr} {n c:Nat} {xs:List Int} (hs:P.underlying src=some (.slice e)) (he:P.underlying e=some (.int .u8)) (hd:P.underlying dst=some .string)
    (h:ReadsInt w .u8 A n xs):(convert src dst (.slice A n c)).run P w = .ok (.string (strOfNums xs)) w:=by
  have hn:xs.length=n:=h.1;rcases A with _|ad
  · have h0:n=0:=by
      rcases Nat.eq_zero_or_pos n with h0|h0
      · exact h0
      · obtain ⟨ad,h',_⟩:=h.2.2 h0
        cases h'
    subst h0;obtain rfl:xs=[]:=List.eq_nil_of_length_eq_zero hn;exact run_convert_bytes_nil w src e hs he 0 c dst hd
  · have hl:(loadCells ad n).run P w = .ok (xs.map (Value.int .u8)).toArray w:=by
      have:=run_loadCells_list (P:=P) w ad (xs.map (Value.int .u8)) (fun j v hj=>by
        have hjl:j<xs.length:=by
          rcases Nat.lt_or_ge j xs.length with h'|h'
          · exact h'
          · rw [List.getElem?_eq_none (by rw [List.length_map];exact h')] at hj
            cases hj
        obtain ⟨ad',he',hc⟩:=h.2.2 (by omega);injection he' with he'
        subst he';rw [hc j (by omega)];rw [List.getElem?_map,List.getElem?_eq_getElem hjl] at hj;simp at hj;subst hj;simp [List.getD_eq_getElem?_getD,List.getElem?_eq_getElem hjl])
      simpa [hn] using this
    rw [run_convert_bytes_string w src dst e _ n c hs he hd,run_bytesToString w ad n c xs hl,foldl_push_bytes];simp [strOfNums,ByteArray.empty,ByteArray.emptyWithCapacity];rfl
theorem Kd.C_string {P : Program} {w:World} {src dst e:TypeId} {A:Option Addr} {n c:Nat} {xs:List Int} (hs:P.underlying src=some (.slice e)) (he:P.underlying e=some (.int .u8)) (hd:P.underlying dst=some .string)
    (h:(Kd.int .u8).C w A n xs):(convert src dst (.slice A n c)).run P w = .ok (.string (strOfNums xs)) w :=
  string_of_reads hs he hd (Kd.reads_of_C (enc:=Value.int .u8) (d:=(0:Int)) (h1:=fun _=>rfl) h)
theorem j2u {w W : World} (h:Below w.heap.size w W):w.heap.size≤W.heap.size:=h.size
theorem j2a {w W w2:World} (h:Below w.heap.size w W) (k:Below W.heap.size W w2):Below w.heap.size w w2:=below_then h h.size k
theorem ReadsInt.nil (W : World) (k:IntKind):ReadsInt W k none ([]:List Int).length []:=⟨rfl,by simp,fun h=>absurd h (Nat.lt_irrefl 0)⟩
theorem ReadsInt.drewN {W : World} {k:IntKind} {A:Option Addr} {n:Nat} {xs:List Int} (h:ReadsInt W k A n xs) (m:Nat):ReadsInt (W.drewN m) k A n xs:=h
theorem j1u {w W : World} {g j:Nat} {v:Value} (h:Below w.heap.size w W) (hg:w.heap.size≤g):Below w.heap.size w (W.setCell ⟨g,j,none⟩ v):=h.setCell hg _
theorem j2c {w W : World} {g:Nat} {row:Option Nat} (h:KeepBut w W g row) (m:Nat):KeepBut w (W.drewN m) g row:=h
theorem j2d {w W : World} {g:Nat} (h:KeepBut w W g none) (o:Obj):KeepBut w (W.alloc o) g none:=h.trans (KeepBut.of_grown (World.grownBy_alloc W o none) g) (.inl rfl)
theorem j3d {w0 w w1:World} {B:Nat} (h:Below w0.heap.size w0 w) (hB:w0.heap.size≤B) (k:Below B w w1):Below w0.heap.size w0 w1 :=
  h.trans ⟨k.os,k.tape,k.output,k.size,fun i hi=>k.block i (Nat.lt_of_lt_of_le hi hB)⟩
theorem own_base' {w : World} {base:Nat} {e:TypeId} {size n:Nat} {v:Value} {xs:List Value} (h:w.ownsRow base e size v n xs):v.ownBlock=none∨∃ b,v.ownBlock=some b∧base≤b:=by
  cases hv:v.ownBlock with
  | none=>exact .inl rfl
  | some b=>exact .inr ⟨b,rfl,own_base h b hv⟩
theorem j2m {w W : World} {g:Nat} {row:Option Nat} (h:KeepBut w W g row):w.heap.size≤W.heap.size:=h.1
theorem ReadsOf.nil {α : Type} (enc:α→Value) (d:α) (W:World):ReadsOf enc d W none ([]:List α).length []:=⟨rfl,by simp,fun h=>absurd h (Nat.lt_irrefl 0)⟩
theorem ReadsOf.drewN {α : Type} {enc:α→Value} {d:α} {W:World} {A:Option Addr} {n:Nat} {xs:List α} (h:ReadsOf enc d W A n xs) (m:Nat):ReadsOf enc d (W.drewN m) A n xs:=h
theorem j1w {w : World} {g:Nat} {t:TypeId} {cs cs':Array Value} (h:w.heap[g]? = some (.cells cs t (0,0))) (i:Nat) (u:Value) (e:cs.setIfInBounds i u=cs'):(w.setCell ⟨g,i,none⟩ u).heap[g]? = some (.cells cs' t (0,0)):=e ▸ blk_set h i u
theorem j3a {w W : World} {g:Nat} {row:Option Nat} (h:KeepBut w W g row) {p:Addr} (hp:w.heap.size≤p.block) (u:Value):KeepBut w (W.setCell p u) g row :=
  ⟨by simpa [World.setCell] using h.1,fun i hi hg hr=>(Below.heap_setCell W p u i (by omega)).trans (h.2 i hi hg hr)⟩
theorem j1t {base : Nat} {w W:World} (h:Below base w W):Below base w W.drew:=h.drew
theorem j2h {w W : World} {g:Nat} {row:Option Nat} (h:KeepBut w W g row):KeepBut w W.drew g row:=h
namespace Kd
section
variable {α β : Type} {d:Kd α} {d':Kd β} {e e' base base' n:Nat} {ok ok':Nat→Prop} {w W w1 W1:World} {v u:Value} {xs:List α} {ys:List β} {A:Option Addr} {c:Nat}
theorem R_base2 (h : d.R e w base ok v xs):v.ownBlock=none∨∃ k,v.ownBlock=some k∧base≤k:=by
  obtain ⟨inner,ho⟩:=R_own h;exact own_base' ho
end
section
variable {α : Type} {enc:α→Value} {h1:∀ x,(enc x).oneCell'=true} {w W:World} {A:Option Addr} {n g:Nat} {xs:List α}
end
end Kd
namespace Kd
section
variable {α : Type} {d:Kd α} {e base g:Nat} {ok:Nat→Prop} {w w1:World} {v:Value} {xs:List α} {o:Obj}
theorem R_elderB (h : d.R e w base ok v xs) (a:Nat) (ha:w.heap.size≤a):d.R e w base (fun k=>ok k∧k≠a) v xs:=R_mono (R_bound h) (fun k hk=>⟨hk.1,by have:=hk.2.2.1;omega⟩)
theorem R_newB (h : d.R e w1 w.heap.size ok v xs) (hb:w.heap[g]? = some o):d.R e w1 w.heap.size (fun k=>ok k∧k≠g) v xs:=R_mono (R_bound h) (fun k hk=>⟨hk.1,by have:=j3m hb;have:=hk.2.1;omega⟩)
theorem freshB (hb : w.heap[g]? = some o):∀ k,w.heap.size≤k→k≠g:=fun k hk=>by have:=j3m hb;omega
end
end Kd
section
variable {P : Program} {ops:Array Oper} {rest:List Oper} {o:Oper} {a:Act} {Q:Exit→Act→World→Prop}
theorem j2s {W : World} (hgd:o.guard=none) {N:Tmp} (_hd:o.dst=some N) {cs:Array Value} {t:TypeId}
    (hrun:(execOp a.eval o).run P W = .ok (.value (.pointer (some ⟨W.heap.size,0,none⟩))) (W.alloc (.cells cs t (0,0))))
    (h:∀ g,g=W.heap.size→∀ w1,w1.heap[g]? = some (.cells cs t (0,0))→Below W.heap.size W w1→wpList P ops Q rest (a.put o.dst (.pointer (some ⟨g,0,none⟩))) w1):wpList P ops Q (o :: rest) a W :=
  Kd.event_run hgd hrun (h _ rfl _ (blk_new W _) (j1s (Below.refl _ _) _))
end
namespace Kd
section
variable {α : Type} {enc:α→Value} {h1:∀ x,(enc x).oneCell'=true} {e base g n cap:Nat} {ok:Nat→Prop} {W:World} {xs:List α}
end
end Kd
section
variable {P : Program} {ops:Array Oper} {rest:List Oper} {o:Oper} {a:Act} {Q:Exit→Act→World→Prop}
theorem store_event {W w1 : World} (hgd:o.guard=none) {t:TypeId} {p:Tmp} {v:Operand} (_ho:o.op = .store t (.tmp p) v) (hN:o.dst=none)
    (hrun:(execOp a.eval o).run P W = .ok .skip w1) (h:∀ w',w'=w1→wpList P ops Q rest a w'):wpList P ops Q (o :: rest) a W:=by
  refine wpList_plain hgd fun K hK=>?_
  unfold Oper.wp;rw [hrun]
  show K (a.put o.dst undef) w1
  rw [hN];exact hK _ _ (h _ rfl)
end
namespace Kd
section
variable {α : Type} {enc:α→Value} {h1:∀ x,(enc x).oneCell'=true} {e base g n cap:Nat} {ok:Nat→Prop} {W:World} {xs:List α}
theorem R_putg (h : (scalar enc h1).R e W base ok (.slice (some ⟨g,0,none⟩) n cap) xs) (i:Int) (x:α):(scalar enc h1).R e (W.setCell ⟨g,i.toNat,none⟩ (enc x)) base ok (.slice (some ⟨g,0,none⟩) n cap) (xs.set i.toNat x)∧W.grownBy (W.setCell ⟨g,i.toNat,none⟩ (enc x)) (some g):=by
  obtain ⟨rfl,_⟩:=R_reads' h;exact R_put h i x
end
end Kd
section
variable {P : Program} {ops:Array Oper} {rest:List Oper} {o:Oper} {a:Act} {Q:Exit→Act→World→Prop} {W:World}
theorem j2v {N : Tmp} (_hN:o.dst=some N) (h:wpList P ops Q (o :: rest) a W):wpList P ops Q (o :: rest) a W:=h
theorem j3j {t : TypeId} {p:Tmp} {v:Operand} (_ho:o.op = .store t (.tmp p) v) (h:wpList P ops Q (o :: rest) a W):wpList P ops Q (o :: rest) a W:=h
end
section
variable {P : Program} {ops:Array Oper} {o:Oper} {a:Act} {Q:Exit→Act→World→Prop} {Kc:Act→World→Prop}
namespace Kd
variable {α : Type}
end Kd
end
inductive Vals (P : Program) (tmps:Array Value) (w:World):List ResultVar→List Value→Prop where
  | nil:Vals P tmps w [] []
  | tmp {u:Tmp} {rs:List ResultVar} {vs:List Value} (h:Vals P tmps w rs vs):Vals P tmps w (.tmp u :: rs) (tmps.getD u undef :: vs)
  | cell {p:Tmp} {ty:TypeId} {rs:List ResultVar} {vs:List Value} (g:Nat) (t:TypeId) (cs:Array Value) (fr:Nat × Nat) (d:TypeDesc)
      (hp:tmps.getD p undef = .pointer (some ⟨g,0,none⟩)) (hg:w.heap[g]? = some (.cells cs t fr))
      (hu:P.underlying ty=some d) (hd:(match d with | .struct _ | .array _ _=>true|_=>false)=true) (hi:(P.info? ty).map (·.size)=some cs.size)
      (h:Vals P tmps w rs vs):Vals P tmps w (.cell p ty :: rs) (.agg cs :: vs)
section
variable {P : Program} {tmps:Array Value} {w:World}
end
namespace Kd
section
variable {P : Program} {α:Type}
end
section
variable {P : Program} {ops:Array Oper} {rest:List Oper} {o:Oper} {a:Act} {Q:Exit→Act→World→Prop} {Kc:Act→World→Prop} {α:Type}
end
end Kd

end Go.Proofs.YtchhndbekjgimaaW.PrintWords
end
section
namespace Go.Proofs.YtchhndbekjgimaaW.PrintLast

section
variable {P : Program} {ops:Array Oper} {Q:Exit→Act→World→Prop} {md:Region.Mode} {S:World→Prop} {ds:List Nat}

def Region.reachB (md : Region.Mode) (ops:Array Oper) (i:Nat):Nat→Nat→Bool
  | 0,_=>false
  | fuel+1,d=>match ops[d]? with
    | some o=>o.after.any fun e=>Region.binds md e && (e.on == i || Region.reachB md ops i fuel e.on)
    | none=>false

def Region.closedB (md : Region.Mode) (ops:Array Oper) (listed:Array Bool):Bool :=
  (List.range ops.size).all fun j => !listed.getD j false || match ops[j]? with
    | some o=>o.after.all fun e => !Region.binds md e || listed.getD e.on false
    | none=>true

def Region.lastB (md : Region.Mode) (ops:Array Oper) (listed:Array Bool) (ds:List Nat) (i:Nat):Bool :=
  ds.all fun d=>listed.getD d true || Region.reachB md ops i ops.size d

def ListedClosed (md : Region.Mode) (ops:Array Oper) (listed:Array Bool):Prop :=
  ∀ j oj,ops[j]? = some oj→listed.getD j false=true→∀ e ∈ oj.after,Region.binds md e=true→listed.getD e.on false=true

theorem Region.closedB_spec {listed : Array Bool} (h:Region.closedB md ops listed=true):ListedClosed md ops listed:=by
  intro j oj hj hl e he hb;have hlt:j<ops.size:=(Array.getElem?_eq_some_iff.1 hj).1;have h1:=List.all_eq_true.1 h j (List.mem_range.2 hlt);simp only [hl,hj,Bool.not_true,Bool.false_or] at h1;have h2:=Array.all_eq_true_iff_forall_mem.1 h1 e he
  simpa [hb] using h2

theorem ListedClosed.set {listed : Array Bool} {i:Nat} (h:ListedClosed md ops listed) (hi:i ∈ Region.ready md ops listed):ListedClosed md ops (listed.setIfInBounds i true):=by
  obtain ⟨_,oi,hoi,hall⟩:=mem_ready.1 hi;intro j oj hj hl e he hb;by_cases hij:i=j
  · subst hij
    have:oj=oi:=Option.some.inj (hj.symm.trans hoi);subst this;exact getD_set_true (hall e he hb)
  · rw [getD_set_ne false hij] at hl
    exact getD_set_true (h j oj hj hl e he hb)

theorem Region.reach_listed {listed : Array Bool} {i:Nat} (hc:ListedClosed md ops listed):∀ (fuel d:Nat),Region.reachB md ops i fuel d=true→listed.getD d false=true→listed.getD i false=true
  | 0,_,h,_=>by simp [Region.reachB] at h
  | fuel+1,d,h,hl=>by
    unfold Region.reachB at h
    cases ho:ops[d]? with
    | none=>rw [ho] at h;simp at h
    | some o =>
      rw [ho] at h
      obtain ⟨e,he,h1⟩:=Array.any_eq_true'.1 h;simp only [Bool.and_eq_true,Bool.or_eq_true,beq_iff_eq] at h1;have hle:=hc d o ho hl e he h1.1;rcases h1.2 with h2|h2
      · rw [← h2];exact hle
      · exact Region.reach_listed hc fuel e.on h2 hle

theorem Region.reach_not_ready {listed : Array Bool} {i d fuel:Nat} (hc:ListedClosed md ops listed) (hr:Region.reachB md ops i fuel d=true) (hun:listed.getD i true=false):d ∉ Region.ready md ops listed:=by
  intro hd;obtain ⟨_,o,ho,hall⟩:=mem_ready.1 hd
  have hi:listed.getD i false=true:=by
    cases fuel with
    | zero=>simp [Region.reachB] at hr
    | succ n =>
      unfold Region.reachB at hr;rw [ho] at hr;obtain ⟨e,he,h1⟩:=Array.any_eq_true'.1 hr;simp only [Bool.and_eq_true,Bool.or_eq_true,beq_iff_eq] at h1;have hle:=hall e he h1.1;rcases h1.2 with h2|h2
      · rw [← h2];exact hle
      · exact Region.reach_listed hc n e.on h2 hle
  rcases Nat.lt_or_ge i listed.size with h'|h'
  · simp [h'] at hun hi
    rw [hun] at hi;cases hi
  · simp [Array.getElem?_eq_none h'] at hun

def wpAnyLast (P : Program) (md:Region.Mode) (ops:Array Oper) (Q:Exit→Act→World→Prop) (S:World→Prop) (ds:List Nat):Nat→Array Bool→Act→World→Prop
  | 0,listed,a,w=>Region.ready md ops listed=[]∧Q .normal a w
  | fuel+1,listed,a,w =>
    (Region.ready md ops listed=[]→Q .normal a w) ∧
    ∀ i ∈ Region.ready md ops listed,wpOp P ops Q i (fun a' w'=>(i ∉ ds→S w→S w')∧wpAnyLast P md ops Q S ds fuel (listed.setIfInBounds i true) a' w') a w

theorem wpAny_of_last : ∀ (fuel:Nat) (listed:Array Bool) (a:Act) (w:World),wpAnyLast P md ops Q S ds fuel listed a w→wpAny P md ops Q fuel listed a w
  | 0,_,_,_,h=>h
  | fuel+1,_,_,_,h=>⟨h.1,fun i hi=>wpOp_mono (fun a' w' h'=>wpAny_of_last fuel _ a' w' h'.2) (h.2 i hi)⟩

theorem wpAnyLast_first {i : Nat} {oi:Oper} {v:Value} (hi:ops[i]? = some oi) (hsel:∀ (j:Nat) (o:Oper) cs b,ops[j]? = some o→o.op ≠ .select cs b)
    (hQ:∀ c a w,Q (.panic c) (a.put oi.dst v) w→Q (.panic c) a w) (n:Nat) :
    ∀ (fuel:Nat) (listed:Array Bool) (a:Act) (w:World),
      (∀ j oj,ops[j]? = some oj→j≠i→listed.getD j true=false→(∀ e ∈ oj.after,Region.binds md e=true→e.on≠i)→oi.apart ops oj=true) →
      ListedClosed md ops listed→(∀ d ∈ ds,listed.getD d true=false→Region.reachB md ops i n d=true) →
      i ∈ Region.ready md ops listed→YieldsIf P ops S oi v a→S w →
      wpAnyLast P md ops Q S ds fuel (listed.setIfInBounds i true) (a.put oi.dst v) w→wpAnyLast P md ops Q S ds (fuel+1) listed a w:=by
  intro fuel
  induction fuel with
  | zero =>
    intro listed a w _ _ _ hr hy hS H;refine ⟨fun h=>(by rw [h] at hr;cases hr),fun j hj=>?_⟩;by_cases hji:j=i
    · subst hji;exact hy.wpOp hi hS ⟨fun _ h=>h,H⟩
    · have:=ready_mono hj hji
      rw [H.1] at this;cases this
  | succ fuel ih =>
    intro listed a w hfree hc hd hr hy hS H;refine ⟨fun h=>(by rw [h] at hr;cases hr),fun j hj=>?_⟩;by_cases hji:j=i
    · subst hji;exact hy.wpOp hi hS ⟨fun _ h=>h,H⟩
    · have h1:=H.2 j (ready_mono hj hji)
      obtain ⟨hjun,oj,hoj,hall⟩:=mem_ready.1 hj;have hiun:=(mem_ready.1 hr).1
      have hnot:∀ e ∈ oj.after,Region.binds md e=true→e.on≠i:=fun e he hb heq=>by
        have h1:=hall e he hb;rw [heq] at h1;rcases Nat.lt_or_ge i listed.size with h'|h'
        · simp [h'] at hiun h1;rw [hiun] at h1;cases h1
        · simp [Array.getElem?_eq_none h'] at h1
      have hjd:j ∉ ds:=fun hm=>Region.reach_not_ready hc (hd j hm hjun) hiun hj
      have h2:=wpOp_putIf hoj (hfree j oj hoj hji hjun hnot) (fun cs b=>hsel i oi cs b hi) (fun cs b=>hsel j oj cs b hoj) hQ hy h1
      have hfree':∀ k ok,ops[k]? = some ok→k≠i→(listed.setIfInBounds j true).getD k true=false →
          (∀ e ∈ ok.after,Region.binds md e=true→e.on≠i)→oi.apart ops ok=true:=fun k ok hk hki hun hno=>by
        refine hfree k ok hk hki ?_ hno;by_cases hjk:j=k
        · subst hjk;exact hjun
        · rw [getD_set_ne true hjk] at hun;exact hun
      have hd':∀ d ∈ ds,(listed.setIfInBounds j true).getD d true=false→Region.reachB md ops i n d=true:=fun d hm hun=>by
        refine hd d hm ?_;by_cases hjk:j=d
        · subst hjk;exact hjun
        · rw [getD_set_ne true hjk] at hun;exact hun
      refine wpOp_mono (fun a' w' h3=>⟨h3.2.1,ih (listed.setIfInBounds j true) a' w' hfree' (hc.set hj) hd' (ready_mono hr (Ne.symm hji)) h3.1 (h3.2.1 hjd hS) ?_⟩) h2;rw [Array.setIfInBounds_comm _ _ hji];exact h3.2.2

theorem wpAnyLast_any {i : Nat} {oi:Oper} {v:Value} (hi:ops[i]? = some oi) (hsel:∀ (j:Nat) (o:Oper) cs b,ops[j]? = some o→o.op ≠ .select cs b)
    (hQ:∀ c a w,Q (.panic c) (a.put oi.dst v) w→Q (.panic c) a w) :
    ∀ (fuel:Nat) (listed:Array Bool) (a:Act) (w:World),
      (∀ j oj,ops[j]? = some oj→j≠i→listed.getD j true=false→(∀ e ∈ oj.after,Region.binds md e=true→e.on≠i)→oi.apart ops oj=true) →
      i ∈ Region.ready md ops listed→Yields P ops oi v a →
      wpAnyLast P md ops Q S ds fuel (listed.setIfInBounds i true) (a.put oi.dst v) w→wpAnyLast P md ops Q S ds (fuel+1) listed a w:=by
  intro fuel
  induction fuel with
  | zero =>
    intro listed a w _ hr hy H;refine ⟨fun h=>(by rw [h] at hr;cases hr),fun j hj=>?_⟩;by_cases hji:j=i
    · subst hji;exact (hy.yieldsIf (S:=fun _=>True)).wpOp hi trivial ⟨fun _ h=>h,H⟩
    · have:=ready_mono hj hji
      rw [H.1] at this;cases this
  | succ fuel ih =>
    intro listed a w hfree hr hy H;refine ⟨fun h=>(by rw [h] at hr;cases hr),fun j hj=>?_⟩;by_cases hji:j=i
    · subst hji;exact (hy.yieldsIf (S:=fun _=>True)).wpOp hi trivial ⟨fun _ h=>h,H⟩
    · have h1:=H.2 j (ready_mono hj hji)
      obtain ⟨hjun,oj,hoj,hall⟩:=mem_ready.1 hj;have hiun:=(mem_ready.1 hr).1
      have hnot:∀ e ∈ oj.after,Region.binds md e=true→e.on≠i:=fun e he hb heq=>by
        have h1:=hall e he hb;rw [heq] at h1;rcases Nat.lt_or_ge i listed.size with h'|h'
        · simp [h'] at hiun h1;rw [hiun] at h1;cases h1
        · simp [Array.getElem?_eq_none h'] at h1
      have h2:=wpOp_put hoj (hfree j oj hoj hji hjun hnot) (fun cs b=>hsel i oi cs b hi) (fun cs b=>hsel j oj cs b hoj) hQ hy h1
      have hfree':∀ k ok,ops[k]? = some ok→k≠i→(listed.setIfInBounds j true).getD k true=false →
          (∀ e ∈ ok.after,Region.binds md e=true→e.on≠i)→oi.apart ops ok=true:=fun k ok hk hki hun hno=>by
        refine hfree k ok hk hki ?_ hno;by_cases hjk:j=k
        · subst hjk;exact hjun
        · rw [getD_set_ne true hjk] at hun;exact hun
      refine wpOp_mono (fun a' w' h3=>⟨h3.2.1,ih (listed.setIfInBounds j true) a' w' hfree' (ready_mono hr (Ne.symm hji)) h3.1 ?_⟩) h2;rw [Array.setIfInBounds_comm _ _ hji];exact h3.2.2

theorem wpAnyLast_take {i : Nat} {oi:Oper} {v:Value} {fuel:Nat} {listed:Array Bool} {a:Act} {w:World} (hi:ops[i]? = some oi)
    (hs:Region.noSelect ops=true) (hf:Region.free md ops listed i=true) (hr:(Region.ready md ops listed).contains i=true)
    (hc:Region.closedB md ops listed=true) (hl:Region.lastB md ops listed ds i=true)
    (hQ:∀ c a w,Q (.panic c) (a.put oi.dst v) w→Q (.panic c) a w) (hy:YieldsIf P ops S oi v a) (hS:S w)
    (h:wpAnyLast P md ops Q S ds fuel (listed.setIfInBounds i true) (a.put oi.dst v) w):wpAnyLast P md ops Q S ds (fuel+1) listed a w :=
  wpAnyLast_first hi (Region.noSelect_spec hs) hQ ops.size fuel listed a w (Region.free_spec hi hf) (Region.closedB_spec hc)
    (fun d hm hun=>by have:=List.all_eq_true.1 hl d hm;rw [hun] at this;simpa using this) (by simpa using hr) hy hS h

theorem wpAnyLast_all {rs : List Nat} {fuel:Nat} {listed:Array Bool} {a:Act} {w:World} (hr:Region.ready md ops listed=rs) (hne:rs≠[])
    (h:∀ i ∈ rs,wpOp P ops Q i (fun a' w'=>(i ∉ ds→S w→S w')∧wpAnyLast P md ops Q S ds fuel (listed.setIfInBounds i true) a' w') a w):wpAnyLast P md ops Q S ds (fuel+1) listed a w :=
  ⟨fun h0=>absurd (hr ▸ h0) hne,hr ▸ h⟩

theorem wpAnyLast_done {listed : Array Bool} {a:Act} {w:World} (hr:Region.ready md ops listed=[]) (h:Q .normal a w) :
    ∀ fuel,wpAnyLast P md ops Q S ds fuel listed a w
  | 0=>⟨hr,h⟩
  | _+1=>⟨fun _=>h,by rw [hr];simp⟩

theorem wp_region_last {id : Nat} {a:Act} {w:World} (hm:P.follows .mixedOrders=true)
    (h:wpAnyLast P .any ops Q S ds ops.size (Array.replicate ops.size false) a { w with drawn:=w.drawn+1 }):(Code.region id ops true).wp P Q a w :=
  wp_region_any hm (wpAny_of_last _ _ _ _ h)

end

section
variable {P : Program} {ops:Array Oper} {Q:Exit→Act→World→Prop} {md:Region.Mode} {S:World→Prop} {ds:List Nat}

def AllReadyL (P : Program) (md:Region.Mode) (ops:Array Oper) (Q:Exit→Act→World→Prop) (S:World→Prop) (ds:List Nat) (fuel:Nat) (listed:Array Bool) (a:Act) (w:World) (rs:List Nat):Prop :=
  ∀ i ∈ rs,wpOp P ops Q i (fun a' w'=>(i ∉ ds→S w→S w')∧wpAnyLast P md ops Q S ds fuel (listed.setIfInBounds i true) a' w') a w
theorem AllReadyL.nil {fuel : Nat} {listed:Array Bool} {a:Act} {w:World}:AllReadyL P md ops Q S ds fuel listed a w []:=fun _ h=>by cases h
theorem AllReadyL.cons {fuel : Nat} {listed:Array Bool} {a:Act} {w:World} {i:Nat} {o:Oper} {rs:List Nat} (ho:ops[i]? = some o) (hd:i ∉ ds)
    (h:∀ K':Act→World→Prop,Shut (∀ a w,S w→(S w→wpAnyLast P md ops Q S ds fuel (listed.setIfInBounds i true) a w)→K' a w)→if Region.wanted o (yielded ops a.tmps)=true then Oper.wp P o a w K' Q else K' (a.put o.dst undef) w)
    (hs:AllReadyL P md ops Q S ds fuel listed a w rs):AllReadyL P md ops Q S ds fuel listed a w (i :: rs):=fun j hj=>by
  rcases List.mem_cons.1 hj with rfl|hj
  · exact wpOp_step ho (fun K' hK=>h K' (fun a w hS hW=>hK a w ⟨fun _ _=>hS,hW hS⟩))
  · exact hs j hj
theorem AllReadyL.cons_last {fuel : Nat} {listed:Array Bool} {a:Act} {w:World} {i:Nat} {o:Oper} {rs:List Nat} (ho:ops[i]? = some o) (hd:i ∈ ds)
    (h:∀ K':Act→World→Prop,Shut (∀ a w,wpAnyLast P md ops Q S ds fuel (listed.setIfInBounds i true) a w→K' a w)→if Region.wanted o (yielded ops a.tmps)=true then Oper.wp P o a w K' Q else K' (a.put o.dst undef) w)
    (hs:AllReadyL P md ops Q S ds fuel listed a w rs):AllReadyL P md ops Q S ds fuel listed a w (i :: rs):=fun j hj=>by
  rcases List.mem_cons.1 hj with rfl|hj
  · exact wpOp_step ho (fun K' hK=>h K' (fun a w hW=>hK a w ⟨fun hn=>absurd hd hn,hW⟩))
  · exact hs j hj
theorem wpAnyLast_ready {rs : List Nat} {fuel:Nat} {listed:Array Bool} {a:Act} {w:World} (hr:Region.ready md ops listed=rs) (hne:rs≠[])
    (h:AllReadyL P md ops Q S ds fuel listed a w rs):wpAnyLast P md ops Q S ds (fuel+1) listed a w:=wpAnyLast_all hr hne h
theorem start_ {id n : Nat} {a:Act} {w:World} (l:Array Bool) (hm:P.follows .mixedOrders=true) (hn:ops.size=n) (hl:Array.replicate n false=l) (hS:S w.drew)
    (h:S w.drew→wpAnyLast P .any ops Q S ds n l a w.drew):(Code.region id ops true).wp P Q a w:=by
  subst hn;subst hl;exact wp_region_last hm (h hS)
def takeB (md : Region.Mode) (ops:Array Oper) (ds:List Nat) (l l':Array Bool) (i:Nat):Bool :=
  Region.noSelect ops && Region.free md ops l i && (Region.ready md ops l).contains i && Region.closedB md ops l && Region.lastB md ops l ds i && (l.setIfInBounds i true == l')
theorem take_ {i : Nat} {N:Option Tmp} {oi:Oper} {v:Value} {fuel:Nat} {l:Array Bool} {a:Act} {w:World} (l':Array Bool) (hi:ops[i]? = some oi) (hN:oi.dst=N) (hc:takeB md ops ds l l' i=true)
    (hQ:∀ c a w,Q (.panic c) (a.put oi.dst v) w→Q (.panic c) a w) (hy:YieldsIf P ops S oi v a) (hS:S w) {a':Act} (ha:a.put N v=a')
    (h:wpAnyLast P md ops Q S ds fuel l' a' w):wpAnyLast P md ops Q S ds (fuel+1) l a w:=by
  subst ha;subst hN;simp only [takeB,Bool.and_eq_true,beq_iff_eq] at hc;obtain ⟨⟨⟨⟨⟨h1,h2⟩,h3⟩,h4⟩,h5⟩,h6⟩:=hc;subst h6;exact wpAnyLast_take hi h1 h2 h3 h4 h5 hQ hy hS h
def anyB (md : Region.Mode) (ops:Array Oper) (l l':Array Bool) (i:Nat):Bool :=
  Region.noSelect ops && Region.free md ops l i && (Region.ready md ops l).contains i && (l.setIfInBounds i true == l')
theorem pure_ {i : Nat} {N:Option Tmp} {oi:Oper} {v:Value} {fuel:Nat} {l:Array Bool} {a:Act} {w:World} (l':Array Bool) (hi:ops[i]? = some oi) (hN:oi.dst=N) (hc:anyB md ops l l' i=true)
    (hQ:∀ c a w,Q (.panic c) (a.put oi.dst v) w→Q (.panic c) a w) (hy:Yields P ops oi v a) {a':Act} (ha:a.put N v=a')
    (h:wpAnyLast P md ops Q S ds fuel l' a' w):wpAnyLast P md ops Q S ds (fuel+1) l a w:=by
  subst ha;subst hN;simp only [anyB,Bool.and_eq_true,beq_iff_eq] at hc;obtain ⟨⟨⟨h1,h2⟩,h3⟩,h6⟩:=hc;subst h6;exact wpAnyLast_any hi (Region.noSelect_spec h1) hQ fuel l a w (Region.free_spec hi h2) (by simpa using h3) hy h
def readyB (md : Region.Mode) (ops:Array Oper) (l l':Array Bool) (i:Nat):Bool:=(Region.ready md ops l == [i]) && (l.setIfInBounds i true == l')
theorem one_ {i : Nat} {N:Option Tmp} {oi:Oper} {fuel:Nat} {l:Array Bool} {a:Act} {w:World} (l':Array Bool) (hi:ops[i]? = some oi) (hN:oi.dst=N) (hc:readyB md ops l l' i=true) (hd:i ∉ ds)
    (h:∀ K:Act→World→Prop,Shut (∀ a' w',S w'→(S w'→wpAnyLast P md ops Q S ds fuel l' a' w')→K a' w')→if Region.wanted oi (yielded ops a.tmps)=true then Oper.wp P oi a w K Q else K (a.put N undef) w) :
    wpAnyLast P md ops Q S ds (fuel+1) l a w:=by
  subst hN;simp only [readyB,Bool.and_eq_true,beq_iff_eq] at hc;obtain ⟨h1,h2⟩:=hc;subst h2;exact wpAnyLast_ready h1 (by simp) (AllReadyL.cons hi hd (fun K hK=>h K hK) AllReadyL.nil)
theorem last_ {i : Nat} {N:Option Tmp} {oi:Oper} {fuel:Nat} {l:Array Bool} {a:Act} {w:World} (l':Array Bool) (hi:ops[i]? = some oi) (hN:oi.dst=N) (hc:readyB md ops l l' i=true) (hd:i ∈ ds)
    (h:∀ K:Act→World→Prop,Shut (∀ a' w',wpAnyLast P md ops Q S ds fuel l' a' w'→K a' w')→if Region.wanted oi (yielded ops a.tmps)=true then Oper.wp P oi a w K Q else K (a.put N undef) w) :
    wpAnyLast P md ops Q S ds (fuel+1) l a w:=by
  subst hN;simp only [readyB,Bool.and_eq_true,beq_iff_eq] at hc;obtain ⟨h1,h2⟩:=hc;subst h2;exact wpAnyLast_ready h1 (by simp) (AllReadyL.cons_last hi hd (fun K hK=>h K hK) AllReadyL.nil)
theorem done_ {l : Array Bool} {a:Act} {w:World} {n:Nat} (hr:(Region.ready md ops l == [])=true) (h:Q .normal a w):wpAnyLast P md ops Q S ds n l a w:=wpAnyLast_done (by simpa using hr) h n
theorem norm_ {fuel : Nat} {l:Array Bool} {a a':Act} {w:World} (ha:a=a') (h:wpAnyLast P md ops Q S ds fuel l a' w):wpAnyLast P md ops Q S ds fuel l a w:=by
  subst ha;exact h
theorem call_ {oi : Oper} {N:Option Tmp} {a:Act} {w:World} {K:Act→World→Prop} (f:FuncId) (args:Array Value) (hw:Region.wanted oi (yielded ops a.tmps)=true) (hN:oi.dst=N) (hrun:(execOp a.eval oi).run P w = .ok (.enter f args) w)
    (h:Calls P f args w fun e w'=>∃ v,e = .returned v∧K (a.put N v) w'):if Region.wanted oi (yielded ops a.tmps)=true then Oper.wp P oi a w K Q else K (a.put N undef) w:=by
  rw [if_pos hw];subst hN;unfold Oper.wp;rw [hrun,Oper.upon_enter];refine h.mono fun e w'' hh=>?_
  obtain ⟨v,rfl,hk⟩:=hh;exact hk
theorem enters_ {f : FuncId} {fn:Func} (hf:P.funcs[f]? = some fn) (hname:(fn.name =="runtime.NumGoroutine")=false) (hb:fn.body.isSome=true) (args:Array Value) (w:World):(callFunc f args).run P w = .ok (.enter f args) w:=by
  have h1:fn.name ≠"runtime.NumGoroutine" := by simpa using hname
  obtain ⟨c,hc⟩:=Option.isSome_iff_exists.1 hb;simp [callFunc,hf,h1,hc]
theorem goes_ {oi : Oper} {N:Option Tmp} {a:Act} {w:World} {K:Act→World→Prop} {f:FuncId} {fn:Func} {as_:Array Operand} {ts:Array TypeId} (hf:P.funcs[f]? = some fn) (hname:(fn.name =="runtime.NumGoroutine")=false) (hb:fn.body.isSome=true) (args:Array Value)
    (hw:Region.wanted oi (yielded ops a.tmps)=true) (hN:oi.dst=N) (hop:oi.op = .call { callee := .value (.func f),args:=as_,argTypes:=ts }) (hargs:as_.map a.eval=args)
    (h:Calls P f args w fun e w'=>∃ v,e = .returned v∧K (a.put N v) w'):if Region.wanted oi (yielded ops a.tmps)=true then Oper.wp P oi a w K Q else K (a.put N undef) w:=by
  refine call_ f args hw hN ?_ h;have he:=enters_ hf hname hb args w;unfold execOp;simp [hop,resolve,Deferred.ofValue,invoke,Act.eval,hargs,he]
theorem j2f {rest : List Oper} {oi:Oper} {a:Act} {w:World} (N:Option Tmp) (hd:oi.dst=N) (hg:oi.guard=none) {f:FuncId} {fn:Func} {as_:Array Operand} {ts:Array TypeId} (hf:P.funcs[f]? = some fn) (hname:(fn.name =="runtime.NumGoroutine")=false) (hb:fn.body.isSome=true) (args:Array Value)
    (hop:oi.op = .call { callee := .value (.func f),args:=as_,argTypes:=ts }) (hargs:as_.map a.eval=args)
    (h:Calls P f args w fun e w'=>∃ v,e = .returned v∧wpList P ops Q rest (a.put N v) w'):wpList P ops Q (oi :: rest) a w:=by
  refine wpList_plain hg fun K hK=>?_
  have he:=enters_ hf hname hb args w
  have hrun:(execOp a.eval oi).run P w = .ok (.enter f args) w:=by
    unfold execOp;simp [hop,resolve,Deferred.ofValue,invoke,Act.eval,hargs,he]
  unfold Oper.wp;rw [hrun,Oper.upon_enter];refine h.mono fun e w'' hh=>?_
  obtain ⟨v,rfl,hk⟩:=hh;subst hd;exact hK _ _ hk
theorem i64_w (n : Int):IntKind.i64.wrap n=Go.RowKit.wrap64 n:=by unfold Go.RowKit.wrap64;exact IntKind.wrap_i64 n
theorem i32_w (n : Int):IntKind.i32.wrap n=Go.RowKit.wrap32 n:=by unfold Go.RowKit.wrap32;exact IntKind.wrap_i32 n
end
end Go.Proofs.YtchhndbekjgimaaW.PrintLast
end
section
namespace Go.Proofs.YtchhndbekjgimaaW.PrintLast
open Go.Proofs.YtchhndbekjgimaaW.PrintWords (Aside0)
def needsOf (md : Region.Mode) (o:Oper):List Nat:=(o.after.toList.filter (fun e=>Region.binds md e)).map (fun e=>e.on)
def clashOf (md : Region.Mode) (ops:Array Oper) (i:Nat) (oi:Oper):List Nat:=(List.range ops.size).filter fun j => !(j == i) && match ops[j]? with
  | some oj => !(oj.after.any (fun e=>Region.binds md e && e.on == i) || oi.apart ops oj)
  | none=>false
def rtab (md : Region.Mode) (ops:Array Oper):Bool × List (List Nat × List Nat):=(Region.noSelect ops,(List.range ops.size).map fun i=>match ops[i]? with
  | some o=>(needsOf md o,clashOf md ops i o)
  | none=>([],[]))
def readyAt (T : List (List Nat × List Nat)) (l:List Bool) (i:Nat):Bool := !l.getD i true && match T[i]? with
  | some r=>r.1.all (fun j=>l.getD j false)
  | none=>false
def readyT (T : List (List Nat × List Nat)) (l:List Bool):List Nat:=(List.range T.length).filter (readyAt T l)
def freeT (T : List (List Nat × List Nat)) (l:List Bool) (i:Nat):Bool:=match T[i]? with
  | some r=>r.2.all (fun j=>l.getD j true)
  | none=>false
def closedT (T : List (List Nat × List Nat)) (l:List Bool):Bool:=(List.range T.length).all fun j => !l.getD j false || match T[j]? with
  | some r=>r.1.all (fun k=>l.getD k false)
  | none=>true
def reachT (T : List (List Nat × List Nat)) (i:Nat):Nat→Nat→Bool
  | 0,_=>false
  | fuel+1,d=>match T[d]? with
    | some r=>r.1.any fun j=>j == i || reachT T i fuel j
    | none=>false
def lastT (T : List (List Nat × List Nat)) (l:List Bool) (ds:List Nat) (i:Nat):Bool:=ds.all fun d=>l.getD d true || reachT T i T.length d
section
variable {md : Region.Mode} {ops:Array Oper} {T:Bool × List (List Nat × List Nat)} {l l' li lj lk:Array Bool} {ds:List Nat} {i j k:Nat}
theorem gd (l : Array Bool) (j:Nat) (b:Bool):l.getD j b=l.toList.getD j b:=by simp [Array.getD_eq_getD_getElem?,List.getD_eq_getElem?_getD]
theorem needs_all (o : Oper) (p:Nat→Bool):o.after.all (fun e => !Region.binds md e || p e.on)=(needsOf md o).all p:=by
  unfold needsOf;rw [← Array.all_toList]
  induction o.after.toList with
  | nil=>rfl
  | cons e r ih =>
    rw [List.all_cons,ih,List.filter_cons];cases h:Region.binds md e<;>simp
theorem needs_any (o : Oper) (p:Nat→Bool):o.after.any (fun e=>Region.binds md e && p e.on)=(needsOf md o).any p:=by
  unfold needsOf;rw [← Array.any_toList]
  induction o.after.toList with
  | nil=>rfl
  | cons e r ih =>
    rw [List.any_cons,ih,List.filter_cons];cases h:Region.binds md e<;>simp
theorem rtab_length : (rtab md ops).2.length=ops.size:=by simp [rtab]
theorem rtab_some {o : Oper} (h:ops[i]? = some o):(rtab md ops).2[i]? = some (needsOf md o,clashOf md ops i o):=by
  have hi:=(Array.getElem?_eq_some_iff.1 h).1;unfold rtab;rw [List.getElem?_map,List.getElem?_range hi,Option.map_some,h]
theorem rtab_none (h : ops[i]? = none):(rtab md ops).2[i]? = none:=by
  have hi:ops.size≤i:=Array.getElem?_eq_none_iff.1 h;exact List.getElem?_eq_none (by rw [rtab_length];exact hi)
theorem readyAt_eq : readyAt (rtab md ops).2 l.toList i=(!l.getD i true && ((ops[i]?).map (·.after.all fun e => !Region.binds md e || l.getD e.on false)).getD false):=by
  unfold readyAt;rw [gd];cases h:ops[i]? with
  | none=>rw [rtab_none h];rfl
  | some o =>
    rw [rtab_some h];simp only [Option.map_some,Option.getD_some];rw [← needs_all];simp only [gd]
theorem ready_eq : Region.ready md ops l=readyT (rtab md ops).2 l.toList:=by
  unfold Region.ready readyT;rw [rtab_length];refine List.filter_congr (fun i _=>?_);rw [readyAt_eq]
theorem free_eq : Region.free md ops l i=freeT (rtab md ops).2 l.toList i:=by
  unfold Region.free freeT;cases h:ops[i]? with
  | none=>rw [rtab_none h]
  | some oi =>
    rw [rtab_some h];simp only [clashOf];rw [List.all_filter]
    congr 1
    funext j
    rw [gd];cases hj:ops[j]? with
    | none=>cases (j == i)<;>cases (l.toList.getD j true)<;>simp
    | some oj =>
      cases (j == i)<;>cases (l.toList.getD j true)<;>cases (oj.after.any (fun e=>Region.binds md e && e.on == i) || oi.apart ops oj)<;>simp_all
theorem closed_eq : Region.closedB md ops l=closedT (rtab md ops).2 l.toList:=by
  unfold Region.closedB closedT;rw [rtab_length]
  congr 1
  funext j
  rw [gd];cases h:ops[j]? with
  | none=>rw [rtab_none h]
  | some o =>
    rw [rtab_some h];simp only;rw [← needs_all];simp only [gd]
theorem reach_eq : ∀ (fuel d:Nat),Region.reachB md ops i fuel d=reachT (rtab md ops).2 i fuel d
  | 0,_=>rfl
  | fuel+1,d=>by
    unfold Region.reachB reachT;cases h:ops[d]? with
    | none=>rw [rtab_none h]
    | some o =>
      rw [rtab_some h];simp only;rw [← needs_any]
      congr 1
      funext e
      rw [reach_eq fuel]
theorem last_eq : Region.lastB md ops l ds i=lastT (rtab md ops).2 l.toList ds i:=by
  unfold Region.lastB lastT;rw [rtab_length]
  congr 1
  funext d
  rw [gd,reach_eq]
theorem readyAt_mem (h : readyAt T.2 l.toList i=true) (hT:rtab md ops=T):(Region.ready md ops l).contains i=true:=by
  subst hT;rw [ready_eq];unfold readyT;rw [List.contains_iff_mem,List.mem_filter,List.mem_range];refine ⟨?_,h⟩;unfold readyAt at h
  rw [Bool.and_eq_true] at h
  cases hq:(rtab md ops).2[i]? with
  | none=>rw [hq] at h;simp at h
  | some r=>exact (List.getElem?_eq_some_iff.1 hq).1
theorem set_of (h : (l.toList.set i true == l'.toList)=true):(l.setIfInBounds i true == l')=true:=by
  rw [beq_iff_eq] at h ⊢
  apply Array.ext';rw [Array.toList_setIfInBounds];exact h
def anyT (T : Bool × List (List Nat × List Nat)) (l l':List Bool) (i:Nat):Bool:=T.1 && freeT T.2 l i && readyAt T.2 l i && (l.set i true == l')
theorem j2e (hT : rtab md ops=T) (h:anyT T l.toList l'.toList i=true):anyB md ops l l' i=true:=by
  simp only [anyT,Bool.and_eq_true] at h
  obtain ⟨⟨⟨h1,h2⟩,h3⟩,h4⟩:=h;have h5:=readyAt_mem h3 hT;have h6:=set_of h4;subst hT;simp only [anyB,Bool.and_eq_true];exact ⟨⟨⟨h1,by rw [free_eq];exact h2⟩,h5⟩,h6⟩
def takeT (T : Bool × List (List Nat × List Nat)) (ds:List Nat) (l l':List Bool) (i:Nat):Bool:=T.1 && freeT T.2 l i && readyAt T.2 l i && closedT T.2 l && lastT T.2 l ds i && (l.set i true == l')
theorem take_of (hT : rtab md ops=T) (h:takeT T ds l.toList l'.toList i=true):takeB md ops ds l l' i=true:=by
  simp only [takeT,Bool.and_eq_true] at h
  obtain ⟨⟨⟨⟨⟨h1,h2⟩,h3⟩,h4⟩,h5⟩,h6⟩:=h;have h7:=readyAt_mem h3 hT;have h8:=set_of h6;subst hT;simp only [takeB,Bool.and_eq_true];exact ⟨⟨⟨⟨⟨h1,by rw [free_eq];exact h2⟩,h7⟩,by rw [closed_eq];exact h4⟩,by rw [last_eq];exact h5⟩,h8⟩
theorem one_of (hT : rtab md ops=T) (h:(readyT T.2 l.toList == [i] && l.toList.set i true == l'.toList)=true):readyB md ops l l' i=true:=by
  simp only [Bool.and_eq_true] at h
  obtain ⟨h1,h2⟩:=h;subst hT;simp only [readyB,Bool.and_eq_true];exact ⟨by rw [ready_eq];exact h1,set_of h2⟩
theorem done_of (hT : rtab md ops=T) (h:(readyT T.2 l.toList == [])=true):(Region.ready md ops l == [])=true:=by
  subst hT;rw [ready_eq];exact h
def upM (B : List Nat) (d:Nat):List Nat→Nat
  | []=>0
  | n :: r=>(2 ^ n ||| (if n<d then B.getD n 0 else 0)) ||| upM B d r
def waitsOk (T : List (List Nat × List Nat)) (B:List Nat):Bool:=(List.range T.length).all fun d=>match T[d]? with
  | some r=>(B.getD d 0 ||| upM B d r.1) == upM B d r.1
  | none=>false
theorem upM_bit {B : List Nat} {d i:Nat}:∀ {ns:List Nat},(upM B d ns).testBit i=true→∃ n ∈ ns,n=i∨(n<d∧(B.getD n 0).testBit i=true)
  | [],h=>by simp [upM] at h
  | n :: r,h=>by
    unfold upM at h
    rw [Nat.testBit_or,Nat.testBit_or,Bool.or_eq_true,Bool.or_eq_true] at h
    rcases h with (h|h)|h
    · rw [Nat.testBit_two_pow] at h
      exact ⟨n,List.mem_cons_self, .inl (by simpa using h)⟩
    · by_cases hn:n<d
      · rw [if_pos hn] at h
        exact ⟨n,List.mem_cons_self, .inr ⟨hn,h⟩⟩
      · rw [if_neg hn] at h
        simp at h
    · obtain ⟨m,hm,h2⟩:=upM_bit h
      exact ⟨m,List.mem_cons_of_mem _ hm,h2⟩
theorem reach_bit {T : List (List Nat × List Nat)} {B:List Nat} (hB:waitsOk T B=true):∀ (fuel d:Nat),d<fuel→d<T.length→(B.getD d 0).testBit i=true→reachT T i fuel d=true
  | 0,d,h,_,_=>by omega
  | fuel+1,d,h,hd,hb=>by
    have h1:=List.all_eq_true.1 hB d (List.mem_range.2 hd);cases hr:T[d]? with
    | none=>rw [hr] at h1;simp at h1
    | some r =>
      rw [hr] at h1;simp only [beq_iff_eq] at h1;have h2:(upM B d r.1).testBit i=true:=by rw [← h1,Nat.testBit_or,hb,Bool.true_or]
      obtain ⟨n,hn,h3⟩:=upM_bit h2;unfold reachT;rw [hr];simp only;rw [List.any_eq_true];refine ⟨n,hn,?_⟩;rcases h3 with rfl|⟨h4,h5⟩
      · simp
      · rw [reach_bit hB fuel n (by omega) (by omega) h5,Bool.or_true]
def lastW (T : List (List Nat × List Nat)) (B:List Nat) (l:List Bool) (ds:List Nat) (i:Nat):Bool:=ds.all fun d=>l.getD d true || (decide (d<T.length) && (B.getD d 0).testBit i)
def takeW (T : Bool × List (List Nat × List Nat)) (B:List Nat) (ds:List Nat) (l l':List Bool) (i:Nat):Bool:=T.1 && freeT T.2 l i && readyAt T.2 l i && closedT T.2 l && lastW T.2 B l ds i && (l.set i true == l')
theorem j2w {B : List Nat} (hT:rtab md ops=T) (hB:waitsOk T.2 B=true) (h:takeW T B ds l.toList l'.toList i=true):takeB md ops ds l l' i=true:=by
  refine take_of hT ?_;simp only [takeW,takeT,Bool.and_eq_true] at h ⊢
  obtain ⟨⟨⟨⟨⟨h1,h2⟩,h3⟩,h4⟩,h5⟩,h6⟩:=h;refine ⟨⟨⟨⟨⟨h1,h2⟩,h3⟩,h4⟩,?_⟩,h6⟩;unfold lastW at h5;unfold lastT;rw [List.all_eq_true] at h5 ⊢;intro d hd;have h7:=h5 d hd;rw [Bool.or_eq_true,Bool.and_eq_true,decide_eq_true_eq] at h7;rcases h7 with h7|⟨h8,h9⟩
  · rw [h7,Bool.true_or]
  · rw [reach_bit hB _ d h8 h8 h9,Bool.or_true]
theorem j3l {P : Program} {Q:Exit→Act→World→Prop} {S:World→Prop} {n:Nat} {a:Act} {w:World} {B:List Nat} (hT:rtab md ops=T) (hB:waitsOk T.2 B=true) (h:Aside0 (rtab md ops=T)→Aside0 (waitsOk T.2 B=true)→wpAnyLast P md ops Q S ds n l a w):wpAnyLast P md ops Q S ds n l a w:=h ⟨hT⟩ ⟨hB⟩
end
def opsIn : Code → Nat→Option (Array Oper)
  | .region id ops _,k=>if id == k then some ops else none
  | .seq a b,k=>match opsIn a k with
    | some o=>some o
    | none=>opsIn b k
  | .cond _ a b,k=>match opsIn a k with
    | some o=>some o
    | none=>opsIn b k
  | .block _ c,k=>opsIn c k
  | .loop c,k=>opsIn c k
  | .scope c,k=>opsIn c k
  | .rangeFunc _ _ a b,k=>match opsIn a k with
    | some o=>some o
    | none=>opsIn b k
  | _,_=>none
def opsOf (f : Func) (k:Nat):Array Oper:=((f.body.bind fun c=>opsIn c k)).getD #[]
end Go.Proofs.YtchhndbekjgimaaW.PrintLast
end
section
namespace Go.Proofs.YtchhndbekjgimaaW.PrintWords
open Go.RowKit
namespace Kd
def tag {α : Type} (f:Nat→Nat) (d:Kd α):Kd (α × Nat) where
  sz:=d.sz
  E:=d.E
  K:=fun w x cs=>d.K w x.1 cs
  M:=fun w base ok x cs=>d.M w base (fun k=>ok k∧f k=x.2) x.1 cs
  K_len:=fun h=>d.K_len h
  K_one:=fun h=>d.K_one h
  K_below:=fun hb h=>d.K_below hb h
  K_of_M:=fun h=>d.K_of_M h
  M_mono:=fun hok h=>d.M_mono (fun k hk=>⟨hok k hk.1,hk.2⟩) h
  M_bound:=fun h=>d.M_mono (fun _ hk=>⟨⟨hk.1.1,hk.2⟩,hk.1.2⟩) (d.M_bound h)
  M_move:=fun hm h=>d.M_move (fun k hk=>hm k hk.1) h
  M_lower:=fun hb h=>d.M_lower hb h
def raw (sz : Nat):Kd (List Value) where
  sz:=sz
  E:=[]
  K:=fun _ x cs=>cs=x∧cs.length=sz∧∀ u ∈ cs,u.oneCell'=true
  M:=fun _ _ _ x cs=>cs=x∧cs.length=sz∧∀ u ∈ cs,u.oneCell'=true
  K_len:=fun h=>h.2.1
  K_one:=fun h=>h.2.2
  K_below:=fun _ h=>h
  K_of_M:=fun h=>h
  M_mono:=fun _ h=>h
  M_bound:=fun h=>h
  M_move:=fun _ h=>h
  M_lower:=fun _ h=>h
def S {α : Type} (d:Kd α) (e:Nat) (w:World) (base:Nat) (ok:Nat→Prop) (v:Value) (xs:List α):Prop:=∃ f,(tag f d).R e w base ok v xs.zipIdx
section
variable {α β : Type} {d:Kd α} {d':Kd β} {e e':Nat} {w w1 W:World} {base b:Nat} {ok ok' okv oku:Nat→Prop} {u v:Value} {xs:List α} {ys:List β}
theorem S_nil (d : Kd α) (e:Nat) (w:World) (base:Nat) (ok:Nat→Prop):S d e w base ok (.slice none 0 0) []:=⟨fun _=>0,R_nil _ _ _ _ _⟩
end
section
variable {α β : Type} {d:Kd α} {d':Kd β} {e e' g:Nat} {w w1 W:World} {base b:Nat} {ok ok' okv oku:Nat→Prop} {u v:Value} {xs:List α} {ys:List β}
end
section
variable {P : Program} {ops:Array Oper} {rest:List Oper} {o:Oper} {a:Act} {Q:Exit→Act→World→Prop} {Kc:Act→World→Prop} {α:Type}
end
def gap {α : Type} (f:Nat→Nat) (d:Kd α) (i:Nat) (c:List Value):Kd (α × Nat) where
  sz:=d.sz
  E:=d.E
  K:=fun w x cs=>(x.2=i→cs=c∧cs.length=d.sz∧∀ u ∈ cs,u.oneCell'=true)∧(x.2≠i→d.K w x.1 cs)
  M:=fun w base ok x cs=>(x.2=i→cs=c∧cs.length=d.sz∧∀ u ∈ cs,u.oneCell'=true)∧(x.2≠i→d.M w base (fun k=>ok k∧f k=x.2) x.1 cs)
  K_len:=fun {w x cs} h=>by
    by_cases hx:x.2=i
    · exact (h.1 hx).2.1
    · exact d.K_len (h.2 hx)
  K_one:=fun {w x cs} h=>by
    by_cases hx:x.2=i
    · exact (h.1 hx).2.2
    · exact d.K_one (h.2 hx)
  K_below:=fun hb h=>⟨h.1,fun hx=>d.K_below hb (h.2 hx)⟩
  K_of_M:=fun h=>⟨h.1,fun hx=>d.K_of_M (h.2 hx)⟩
  M_mono:=fun hok h=>⟨h.1,fun hx=>d.M_mono (fun k hk=>⟨hok k hk.1,hk.2⟩) (h.2 hx)⟩
  M_bound:=fun h=>⟨h.1,fun hx=>d.M_mono (fun _ hk=>⟨⟨hk.1.1,hk.2⟩,hk.1.2⟩) (d.M_bound (h.2 hx))⟩
  M_move:=fun hm h=>⟨h.1,fun hx=>d.M_move (fun k hk=>hm k hk.1) (h.2 hx)⟩
  M_lower:=fun hb h=>⟨h.1,fun hx=>d.M_lower hb (h.2 hx)⟩
def H {α : Type} (d:Kd α) (e:Nat) (w:World) (base:Nat) (ok:Nat→Prop) (v:Value) (xs:List α) (i:Int) (oki:Nat→Prop) (c:List Value):Prop :=
  (∀ k,oki k→ok k)∧∃ f,(gap f d i.toNat c).R e w base (fun k=>ok k∧¬ oki k) v xs.zipIdx
section
variable {α β : Type} {d:Kd α} {e e' g n cap:Nat} {w w1 W:World} {base:Nat} {ok ok' oki okp:Nat→Prop} {u v:Value} {xs:List α} {i:Int} {c:List Value}
end
section
variable {P : Program} {ops:Array Oper} {rest:List Oper} {o:Oper} {a:Act} {Q:Exit→Act→World→Prop} {α:Type}
end
end Kd
end Go.Proofs.YtchhndbekjgimaaW.PrintWords
end
section
namespace Go.Proofs.YtchhndbekjgimaaW.PrintWords
open Go.RowKit
namespace Kd
theorem reps_one {α : Type} {R:α→List Value→Prop} {size:Nat} {ps:List α} {cs:List Value} (h:Reps R size ps cs) (hs0:0<size) (hR:∀ p c,R p c→∀ u ∈ c,u.oneCell'=true):∀ u ∈ cs,u.oneCell'=true:=by
  intro u hu;obtain ⟨q,hq,rfl⟩:=List.mem_iff_getElem.1 hu
  have hql:q / size<ps.length:=by
    rw [Nat.div_lt_iff_lt_mul hs0,← h.1];exact hq
  refine hR _ _ (h.2 (q / size) _ (List.getElem?_eq_getElem hql)) _ ?_;rw [List.mem_iff_getElem?];refine ⟨q % size,?_⟩;rw [List.getElem?_take,if_pos (Nat.mod_lt _ hs0),List.getElem?_drop,Nat.mul_comm,Nat.div_add_mod,List.getElem?_eq_getElem hq]
def arr {α : Type} (n:Nat) (d:Kd α) (hs:0<d.sz):Kd (List α) where
  sz:=n*d.sz
  E:=d.E
  K:=fun w xs cs=>xs.length=n∧Reps (d.K w) d.sz xs cs
  M:=fun w base ok xs cs=>xs.length=n∧Reps (d.M w base ok) d.sz xs cs
  K_len:=fun h=>by rw [← h.1];exact h.2.1
  K_one:=fun h=>reps_one h.2 hs (fun _ _ hk=>d.K_one hk)
  K_below:=fun hb h=>⟨h.1,h.2.imp_ (fun _ _ hk=>d.K_below hb hk)⟩
  K_of_M:=fun h=>⟨h.1,h.2.imp_ (fun _ _ hk=>d.K_of_M hk)⟩
  M_mono:=fun hok h=>⟨h.1,h.2.imp_ (fun _ _ hk=>d.M_mono hok hk)⟩
  M_bound:=fun h=>⟨h.1,h.2.imp_ (fun _ _ hk=>d.M_bound hk)⟩
  M_move:=fun hm h=>⟨h.1,h.2.imp_ (fun _ _ hk=>d.M_move hm hk)⟩
  M_lower:=fun hb h=>⟨h.1,h.2.imp_ (fun _ _ hk=>d.M_lower hb hk)⟩
section
variable {α : Type} {n:Nat} {d:Kd α} {hs:0<d.sz} {w:World} {base:Nat} {ok:Nat→Prop} {xs:List α} {cs:List Value}
end
section
variable {α : Type} {n:Nat} {enc:α→Value} {h1:∀ x,(enc x).oneCell'=true} {hs:0<(scalar enc h1).sz} {w:World} {base:Nat} {ok:Nat→Prop} {xs:List α} {cs:List Value}
end
end Kd
end Go.Proofs.YtchhndbekjgimaaW.PrintWords
end
section
namespace Go.Proofs.YtchhndbekjgimaaW.PrintWords
open Go.RowKit
namespace Kd
structure Heap {α : Type} (d:Kd α):Prop where
  K:∀ {w w1:World} {x:α} {cs:List Value},(∀ k,k<w.heap.size→w1.heap[k]? = w.heap[k]?)→d.K w x cs→d.K w1 x cs
theorem cell_heap {w w1 : World} (hb:∀ k,k<w.heap.size→w1.heap[k]? = w.heap[k]?) {a:Addr} {v:Value} (h:w.cell? a=some v):w1.cell? a=some v:=by
  have:=hb a.block (World.block_lt_of_cell? w a h)
  simpa [World.cell?,this] using h
theorem Heap.C {α : Type} {d:Kd α} (hd:Heap d) {w w1:World} {A:Option Addr} {n:Nat} {xs:List α} (hb:∀ k,k<w.heap.size→w1.heap[k]? = w.heap[k]?) (h:d.C w A n xs):d.C w1 A n xs :=
  ⟨h.1,h.2.1,fun hn=>by
    obtain ⟨ad,e,hc⟩:=h.2.2 hn;refine ⟨ad,e,fun j p hj=>?_⟩;obtain ⟨c,hs,hr,hcell⟩:=hc j p hj;exact ⟨c,hs,hd.K hb hr,fun i u hu=>cell_heap hb (hcell i u hu)⟩⟩
section
variable {α : Type} {d:Kd α} {e base g n c:Nat} {ok:Nat→Prop} {w w0 W:World} {A:Option Addr} {xs:List α}
end
end Kd
end Go.Proofs.YtchhndbekjgimaaW.PrintWords
end
section
namespace Go.Proofs.YtchhndbekjgimaaW.PrintWords
open Go.RowKit
def Kept (w W : World) (S:Nat→Prop):Prop:=w.heap.size≤W.heap.size∧∀ i,i<w.heap.size→¬ S i→W.heap[i]? = w.heap[i]?
section
variable {w W W2 : World} {S S2 S':Nat→Prop}
theorem Kept.refl (w : World) (S:Nat→Prop):Kept w w S:=⟨Nat.le_refl _,fun _ _ _=>rfl⟩
theorem Kept.of_below (h : Below w.heap.size w W) (S:Nat→Prop):Kept w W S:=⟨h.size,fun i hi _=>h.block i hi⟩
theorem Kept.mono (h : Kept w W S) (hs:∀ k,S k→S' k):Kept w W S':=⟨h.1,fun i hi hn=>h.2 i hi (fun hk=>hn (hs i hk))⟩
theorem Kept.then_ (h : Kept w W S) (k:Kept W W2 S2) (hs:∀ k,S2 k→S k∨w.heap.size≤k):Kept w W2 S :=
  ⟨Nat.le_trans h.1 k.1,fun i hi hn=>(k.2 i (Nat.lt_of_lt_of_le hi h.1) (fun h2=>(hs i h2).elim hn (fun h3=>by omega))).trans (h.2 i hi hn)⟩
theorem Kept.of_grown {row : Option Nat} (hg:W.grownBy W2 row) (h:Kept w W S) (hr:∀ k,row=some k→S k∨w.heap.size≤k):Kept w W2 S :=
  h.then_ (S2:=fun k=>row=some k) ⟨hg.size,fun i hi hn=>hg.block i hi (fun he=>hn he.symm)⟩ hr
theorem Kept.below (h : Kept w W S) (hb:Below W.heap.size W W2):Kept w W2 S:=h.then_ (Kept.of_below hb (fun _=>False)) (fun _ hk=>hk.elim)
theorem Kept.alloc (h : Kept w W S) (o:Obj):Kept w (W.alloc o) S:=h.below (j1s (Below.refl _ _) o)
theorem Kept.drew (h : Kept w W S):Kept w W.drew S:=h
theorem Kept.drewN (h : Kept w W S) (m:Nat):Kept w (W.drewN m) S:=h
theorem Kept.setCell (h : Kept w W S) {p:Addr} (hp:S p.block∨w.heap.size≤p.block) (u:Value):Kept w (W.setCell p u) S :=
  h.then_ (S2:=fun k=>k=p.block) ⟨by simp [World.setCell],fun i _ hn=>Below.heap_setCell W p u i hn⟩ (fun k hk=>by rw [hk];exact hp)
theorem blk_kept {g : Nat} {o:Obj} (hb:W.heap[g]? = some o) (hk:Kept W W2 S) (hne:¬ S g):W2.heap[g]? = some o:=(hk.2 g (j3m hb) hne).trans hb
end
namespace Kd
section
variable {α : Type} {d:Kd α} {e base n c:Nat} {ok oki S S2:Nat→Prop} {w w0 W W1 W2:World} {v:Value} {A:Option Addr} {xs:List α} {i:Int} {cs:List Value}
end
end Kd
end Go.Proofs.YtchhndbekjgimaaW.PrintWords
end
section
namespace Go.Proofs.YtchhndbekjgimaaW.PrintWords
open Go.RowKit
def Foot (P : World→Prop) (W:World) (ok:Nat→Prop):Prop:=∀ W':World,(∀ k,ok k→k<W.heap.size→W'.heap[k]? = W.heap[k]?)→P W'
theorem heap_lt {W W1 : World} {k:Nat} (h:W1.heap[k]? = W.heap[k]?) (hlt:k<W.heap.size):k<W1.heap.size:=by
  rw [Array.getElem?_eq_getElem hlt] at h
  exact (Array.getElem?_eq_some_iff.1 h).1
namespace Foot
variable {P Q : World→Prop} {W W1:World} {ok ok':Nat→Prop}
theorem now (h : Foot P W ok):P W:=h W (fun _ _ _=>rfl)
theorem mono (h : Foot P W ok) (hok:∀ k,ok k→ok' k):Foot P W ok':=fun W' hW=>h W' (fun k hk hlt=>hW k (hok k hk) hlt)
theorem step (h : Foot P W ok) (hm:∀ k,ok k→k<W.heap.size→W1.heap[k]? = W.heap[k]?):Foot P W1 ok:=fun W' hW=>h W' (fun k hk hlt=>(hW k hk (heap_lt (hm k hk hlt) hlt)).trans (hm k hk hlt))
end Foot
namespace Kd
def F {α : Type} (d:Kd α) (W:World) (ok:Nat→Prop) (A:Option Addr) (n:Nat) (xs:List α):Prop:=Foot (fun W=>d.C W A n xs) W ok
def FK {α : Type} (d:Kd α) (W:World) (ok:Nat→Prop) (x:α) (c:List Value):Prop:=Foot (fun W=>d.K W x c) W ok
section
variable {α β : Type} {d:Kd α} {e base n n' cc g N:Nat} {ok ok' okp S:Nat→Prop} {w w0 w1 W W1:World} {A A':Option Addr} {u v v1:Value} {xs:List α} {xs':List β} {d':Kd β} {x:α} {c:List Value}
theorem F_nil (d : Kd α) (W:World) (ok:Nat→Prop):F d W ok none ([]:List α).length []:=fun W' _=>C_nil d W'
theorem FK_of_M (h : d.M W base ok x c):FK d W ok x c:=fun _ hW=>d.K_of_M (M_step h hW)
end
end Kd
end Go.Proofs.YtchhndbekjgimaaW.PrintWords
end
section
namespace Go.Proofs.YtchhndbekjgimaaW.PrintWords
open Go.RowKit
namespace Kd
def chunks (sz : Nat) (n:Nat) (inner:List Value):List (List Value):=(List.range n).map fun j=>(inner.drop (j*sz)).take sz
theorem j3o (sz n : Nat) (inner:List Value):(chunks sz n inner).length=n:=by simp [chunks]
theorem chunks_at {sz n : Nat} {inner:List Value} {j:Nat} (hj:j<n):(chunks sz n inner)[j]? = some ((inner.drop (j*sz)).take sz):=by simp [chunks,hj]
theorem chunks_get {sz n : Nat} {inner:List Value} {j:Nat} {c:List Value} (h:(chunks sz n inner)[j]? = some c):c=(inner.drop (j*sz)).take sz:=by
  have hj:j<n:=by have:=(List.getElem?_eq_some_iff.1 h).1;rwa [j3o] at this
  rw [chunks_at hj] at h
  injection h with h
  exact h.symm
theorem reps_raw {α : Type} {Rr:α→List Value→Prop} {sz:Nat} {xs:List α} {inner:List Value} (h:Reps Rr sz xs inner) (hR:∀ x c,Rr x c→c.length=sz∧∀ u ∈ c,u.oneCell'=true):Reps (fun x cs=>cs=x∧cs.length=sz∧∀ u ∈ cs,u.oneCell'=true) sz (chunks sz xs.length inner) inner:=by
  refine ⟨by rw [j3o];exact h.1,fun j p hj=>?_⟩;have hjl:j<xs.length:=by have:=(List.getElem?_eq_some_iff.1 hj).1;rwa [j3o] at this
  have hp:=chunks_get hj;exact ⟨hp.symm,hR _ _ (h.2 j _ (List.getElem?_eq_getElem hjl))⟩
section
variable {α : Type} {d:Kd α} {e base n cc g:Nat} {ok ok' okp S:Nat→Prop} {w w1 W W1:World} {A:Option Addr} {u v v1:Value} {xs:List α} {x:α} {c:List Value}
def N {α : Type} (d:Kd α) (e:Nat) (w:World) (base:Nat) (ok:Nat→Prop) (v:Value) (xs:List α):Prop :=
  (∀ k,v.ownBlock=some k→ok k)∧∃ rows:List (List Value),rows.length=xs.length∧(raw d.sz).R e w base (fun k=>some k=v.ownBlock) v rows∧∀ (j:Nat) (x:α) (c:List Value),xs[j]? = some x→rows[j]? = some c→FK d w (fun k=>ok k∧some k≠v.ownBlock) x c
theorem R_N (h : d.R e w base ok v xs):N d e w base ok v xs:=by
  obtain ⟨h0,inner,ho,hr⟩:=h;refine ⟨h0,chunks d.sz xs.length inner,j3o _ _ _,⟨fun k hk=>hk.symm,inner,by rw [j3o];exact ho,reps_raw hr (fun x c hp=>⟨d.K_len (d.K_of_M hp),d.K_one (d.K_of_M hp)⟩)⟩,fun j x c hx hc=>?_⟩;rw [chunks_get hc];exact FK_of_M (hr.2 j x hx)
theorem N_nil (d : Kd α) (e:Nat) (w:World) (base:Nat) (ok:Nat→Prop):N d e w base ok (.slice none 0 0) []:=R_N (R_nil _ _ _ _ _)
end
end Kd
end Go.Proofs.YtchhndbekjgimaaW.PrintWords
end
section
namespace Go.Proofs.YtchhndbekjgimaaW.PrintWords
open Go.RowKit
section
variable {P : Program} {d:Nat} {xs ys:Array Value} {f:Field} {fs:List Field} {a b:Value} {r s:Bool} {w:World}
theorem eqf_last (hn : (f.name =="_")=false) (ha:(part f.type xs f.offset).run P w = .ok a w) (hb:(part f.type ys f.offset).run P w = .ok b w) (he:(Op.equalIn d f.type a b).run P w = .ok r w):(Op.eqFields d xs ys [f]).run P w = .ok r w:=by
  have hn':f.name ≠"_" := by simpa using hn
  simp only [Op.eqFields,if_pos hn',Sem.run_bind,ha,hb,he,Result.andThen_ok];cases r<;>simp
theorem eqf_cons (hn : (f.name =="_")=false) (ha:(part f.type xs f.offset).run P w = .ok a w) (hb:(part f.type ys f.offset).run P w = .ok b w) (he:(Op.equalIn d f.type a b).run P w = .ok r w) (hr:(Op.eqFields d xs ys fs).run P w = .ok s w):(Op.eqFields d xs ys (f :: fs)).run P w = .ok (r && s) w:=by
  have hn':f.name ≠"_" := by simpa using hn
  rw [Op.eqFields];simp only [if_pos hn',Sem.run_bind,ha,hb,he,Result.andThen_ok];cases r
  · simp
  · simpa using hr
theorem eqA_of {t : TypeId} {fs:Array Field} (hu:P.underlying t=some (.struct fs)) (hp:P.stoodInHeld t=false) (h:(Op.eqFields d xs ys fs.toList).run P w = .ok r w):(Op.equalIn (d+1) t (.agg xs) (.agg ys)).run P w = .ok r w:=by
  have hf:P.fieldsOf t=fs:=by simp [Program.fieldsOf,hu]
  rw [run_equalIn_struct (P:=P) w d t xs ys (by rw [hf];exact hu) hp,hf];exact h
end
end Go.Proofs.YtchhndbekjgimaaW.PrintWords
end
section
namespace Go.Proofs.YtchhndbekjgimaaW.PrintWords
theorem Reps.one {α : Type} {R:α→List Value→Prop} {ps:List α} {cs:List Value} {p:α} {v:Value} (hp:R p [v]) (h:Reps R 1 ps cs):Reps R 1 (p :: ps) (v :: cs):=by
  refine ⟨by simp [h.1],fun j q hq=>?_⟩;cases j with
  | zero =>
    simp only [List.getElem?_cons_zero,Option.some.injEq] at hq;subst hq
    simpa using hp
  | succ j =>
    simp only [List.getElem?_cons_succ] at hq;have h1:=h.2 j q hq
    simpa [Nat.mul_one] using h1
theorem Reps.front {α : Type} {R:α→List Value→Prop} {size:Nat} {ps:List α} {cs c all:List Value} {p:α} (hp:R p c) (hc:c.length=size) (h:Reps R size ps cs) (ha:c++cs=all):Reps R size (p :: ps) all:=by
  subst ha;refine ⟨by rw [List.length_append,hc,h.1,List.length_cons,Nat.succ_mul,Nat.add_comm],fun j q hq=>?_⟩;cases j with
  | zero =>
    simp only [List.getElem?_cons_zero,Option.some.injEq] at hq;subst hq;rw [Nat.zero_mul,List.drop_zero,List.take_append_of_le_length (by omega),List.take_of_length_le (by omega)];exact hp
  | succ j =>
    simp only [List.getElem?_cons_succ] at hq;have h1:=h.2 j q hq;rw [Nat.succ_mul,List.drop_append,List.drop_of_length_le (by rw [hc];exact Nat.le_add_left _ _),List.nil_append,hc,Nat.add_sub_cancel];exact h1
theorem Reps.c2 {α : Type} {R:α→List Value→Prop} {ps:List α} {cs:List Value} {p:α} {va vb:Value} (hp:R p [va,vb]) (h:Reps R 2 ps cs):Reps R 2 (p :: ps) (va :: vb :: cs):=Reps.front hp rfl h rfl
theorem Reps.c3 {α : Type} {R:α→List Value→Prop} {ps:List α} {cs:List Value} {p:α} {va vb vc:Value} (hp:R p [va,vb,vc]) (h:Reps R 3 ps cs):Reps R 3 (p :: ps) (va :: vb :: vc :: cs):=Reps.front hp rfl h rfl
theorem Reps.c4 {α : Type} {R:α→List Value→Prop} {ps:List α} {cs:List Value} {p:α} {va vb vc vd:Value} (hp:R p [va,vb,vc,vd]) (h:Reps R 4 ps cs):Reps R 4 (p :: ps) (va :: vb :: vc :: vd :: cs):=Reps.front hp rfl h rfl
theorem Reps.c5 {α : Type} {R:α→List Value→Prop} {ps:List α} {cs:List Value} {p:α} {va vb vc vd ve:Value} (hp:R p [va,vb,vc,vd,ve]) (h:Reps R 5 ps cs):Reps R 5 (p :: ps) (va :: vb :: vc :: vd :: ve :: cs):=Reps.front hp rfl h rfl
theorem Reps.c6 {α : Type} {R:α→List Value→Prop} {ps:List α} {cs:List Value} {p:α} {va vb vc vd ve vf:Value} (hp:R p [va,vb,vc,vd,ve,vf]) (h:Reps R 6 ps cs):Reps R 6 (p :: ps) (va :: vb :: vc :: vd :: ve :: vf :: cs):=Reps.front hp rfl h rfl
theorem Reps.c7 {α : Type} {R:α→List Value→Prop} {ps:List α} {cs:List Value} {p:α} {va vb vc vd ve vf vg:Value} (hp:R p [va,vb,vc,vd,ve,vf,vg]) (h:Reps R 7 ps cs):Reps R 7 (p :: ps) (va :: vb :: vc :: vd :: ve :: vf :: vg :: cs):=Reps.front hp rfl h rfl
theorem Reps.c8 {α : Type} {R:α→List Value→Prop} {ps:List α} {cs:List Value} {p:α} {va vb vc vd ve vf vg vh:Value} (hp:R p [va,vb,vc,vd,ve,vf,vg,vh]) (h:Reps R 8 ps cs):Reps R 8 (p :: ps) (va :: vb :: vc :: vd :: ve :: vf :: vg :: vh :: cs):=Reps.front hp rfl h rfl
theorem Reps.c9 {α : Type} {R:α→List Value→Prop} {ps:List α} {cs:List Value} {p:α} {va vb vc vd ve vf vg vh vi:Value} (hp:R p [va,vb,vc,vd,ve,vf,vg,vh,vi]) (h:Reps R 9 ps cs):Reps R 9 (p :: ps) (va :: vb :: vc :: vd :: ve :: vf :: vg :: vh :: vi :: cs):=Reps.front hp rfl h rfl
theorem Reps.c10 {α : Type} {R:α→List Value→Prop} {ps:List α} {cs:List Value} {p:α} {va vb vc vd ve vf vg vh vi vj:Value} (hp:R p [va,vb,vc,vd,ve,vf,vg,vh,vi,vj]) (h:Reps R 10 ps cs):Reps R 10 (p :: ps) (va :: vb :: vc :: vd :: ve :: vf :: vg :: vh :: vi :: vj :: cs):=Reps.front hp rfl h rfl
end Go.Proofs.YtchhndbekjgimaaW.PrintWords
end
section
namespace Go.Proofs.YtchhndbekjgimaaW.PrintLast
def up (b : Nat→Bool) (i:Nat):Nat→Bool:=fun j=>if j=i then true else b j
section
variable {P : Program} {ops:Array Oper} {Q:Exit→Act→World→Prop} {md:Region.Mode} {T:Bool × List (List Nat × List Nat)} {B:List Nat} {O:List Nat} {b:Nat→Bool} {i j n:Nat}
end
end Go.Proofs.YtchhndbekjgimaaW.PrintLast
end
section
namespace Go.Proofs.YtchhndbekjgimaaW.PrintWords
open Go.RowKit
section
variable {P : Program} {ops:Array Oper} {rest:List Oper} {o:Oper} {a:Act} {Q:Exit→Act→World→Prop} {W:World}
theorem gate_guard (hw : Region.wanted o (yielded ops a.tmps)=true) (h:wpList P ops Q ({ o with guard:=none } :: rest) a W):wpList P ops Q (o :: rest) a W:=by
  have h1:Region.wanted { o with guard:=none } (yielded ops a.tmps)=true:=rfl;unfold wpList at h ⊢
  rw [if_pos h1] at h
  rw [if_pos hw];exact h
end
end Go.Proofs.YtchhndbekjgimaaW.PrintWords
end
section
namespace Go.Proofs.YtchhndbekjgimaaW.PrintMore
open Go.RowKit Go.Proofs.YtchhndbekjgimaaW.PrintWords
namespace Kd
open Go.Proofs.YtchhndbekjgimaaW.PrintWords.Kd
end Kd

namespace Kd
open Go.Proofs.YtchhndbekjgimaaW.PrintWords.Kd
section
variable {α : Type} {d:Kd α} {e base g N:Nat} {ok:Nat→Prop} {W w1:World} {u v:Value} {xs:List α}
theorem R_old (hu : d.R e W base ok u xs) (hb:Below W.heap.size W w1):d.R e w1 base (fun k=>ok k∧k<W.heap.size) u xs :=
  R_mono (R_below (R_bound hu) hb) (fun _ h=>⟨h.1,h.2.2.1⟩)
theorem R_oldK (hu : d.R e W base (fun k=>ok k∧k≠g) u xs) (hk:KeepBut W w1 g none):d.R e w1 base (fun k=>ok k∧k<W.heap.size) u xs :=
  R_mono (R_keep (R_bound hu) hk (fun _ h=>h.1.2)) (fun _ h=>⟨h.1.1,h.2.2.1⟩)
theorem R_told (h : d.R e w1 base (fun k=>ok k∧k<N) u xs) (hbase:∀ k,v.ownBlock=some k→N≤k):d.R e w1 base (fun k=>(ok k∧some k≠v.ownBlock)∧k<N) u xs :=
  R_mono h (fun k hk=>⟨⟨hk.1,fun e=>Nat.lt_irrefl _ (Nat.lt_of_lt_of_le hk.2 (hbase k e.symm))⟩,hk.2⟩)
end
end Kd
theorem max2_int (k k' : IntKind) (x y:Int):Builtin.max2 (.int k x) (.int k' y)=pure (.int k (if x<y then y else x)):=by simp only [Builtin.max2,gt_iff_lt]
theorem min2_int (k k' : IntKind) (x y:Int):Builtin.min2 (.int k x) (.int k' y)=pure (.int k (if y<x then y else x)):=by simp only [Builtin.min2]
theorem max_two (ats : Array TypeId) (ty:TypeId) (a b:Value):Builtin.max_ ats ty #[a,b]=(Builtin.max2 a b >>= fun s=>pure s):=by simp only [Builtin.max_,List.foldlM_cons,List.foldlM_nil]
theorem min_two (ats : Array TypeId) (ty:TypeId) (a b:Value):Builtin.min_ ats ty #[a,b]=(Builtin.min2 a b >>= fun s=>pure s):=by simp only [Builtin.min_,List.foldlM_cons,List.foldlM_nil]
theorem max_three (ats : Array TypeId) (ty:TypeId) (a b c:Value):Builtin.max_ ats ty #[a,b,c]=(Builtin.max2 a b >>= fun s=>Builtin.max2 s c >>= fun s=>pure s):=by simp only [Builtin.max_,List.foldlM_cons,List.foldlM_nil]
theorem min_three (ats : Array TypeId) (ty:TypeId) (a b c:Value):Builtin.min_ ats ty #[a,b,c]=(Builtin.min2 a b >>= fun s=>Builtin.min2 s c >>= fun s=>pure s):=by simp only [Builtin.min_,List.foldlM_cons,List.foldlM_nil]
theorem max_four (ats : Array TypeId) (ty:TypeId) (a b c d:Value):Builtin.max_ ats ty #[a,b,c,d]=(Builtin.max2 a b >>= fun s=>Builtin.max2 s c >>= fun s=>Builtin.max2 s d >>= fun s=>pure s):=by simp only [Builtin.max_,List.foldlM_cons,List.foldlM_nil]
theorem min_four (ats : Array TypeId) (ty:TypeId) (a b c d:Value):Builtin.min_ ats ty #[a,b,c,d]=(Builtin.min2 a b >>= fun s=>Builtin.min2 s c >>= fun s=>Builtin.min2 s d >>= fun s=>pure s):=by simp only [Builtin.min_,List.foldlM_cons,List.foldlM_nil]
end Go.Proofs.YtchhndbekjgimaaW.PrintMore
namespace Go.Proofs.YtchhndbekjgimaaW.PrintWords
open Go.RowKit
section
variable {P : Program} {ops:Array Oper} {rest:List Oper} {o:Oper} {a:Act} {Q:Exit→Act→World→Prop} {W:World}
theorem j1r {f : FuncId} {as_:Array Operand} {ts:Array TypeId} (_ho:o.op = .call { callee := .value (.func f),args:=as_,argTypes:=ts }) (h:wpList P ops Q (o :: rest) a W):wpList P ops Q (o :: rest) a W:=h
theorem j1z {b : Builtin} {xs:Array Operand} {ts:Array TypeId} (_ho:o.op = .call { callee := .builtin b,args:=xs,argTypes:=ts }) (h:wpList P ops Q (o :: rest) a W):wpList P ops Q (o :: rest) a W:=h
end
theorem drewN_self (w : World) (n:Nat):w.drewN n=w.drewN n:=rfl
namespace Kd
section
variable {α : Type} {d:Kd α} {e base:Nat} {ok:Nat→Prop} {W w1:World} {v:Value} {xs:List α}
end
section
variable {α : Type} {d:Kd α} {e base g n cap:Nat} {ok oki okp:Nat→Prop} {W:World} {xs:List α} {i:Int} {c:List Value}
end
section
variable {α : Type} {d:Kd α} {e base b b' g N:Nat} {ok ok1:Nat→Prop} {W W2 w1:World} {u v:Value} {xs ys:List α} {S:Nat→Prop}
end
end Kd
end Go.Proofs.YtchhndbekjgimaaW.PrintWords
namespace Go.Proofs.YtchhndbekjgimaaW.PrintWords
open Go.RowKit
namespace Kd
def V {α : Type} (d:Kd α) (_e:Nat) (W:World) (_base:Nat) (ok:Nat→Prop) (v:Value) (xs:List α):Prop:=∃ A c,v = .slice A xs.length c∧xs.length≤c∧F d W ok A xs.length xs
section
variable {α β : Type} {d:Kd α} {e base base' n m c g N' lo hi:Nat} {ok ok' S:Nat→Prop} {w W w1:World} {A:Option Addr} {ad:Addr} {u v v1:Value} {xs:List α}
theorem V_nil (d : Kd α) (e:Nat) (W:World) (base:Nat) (ok:Nat→Prop):V d e W base ok (.slice none 0 0) []:=⟨none,0,rfl,Nat.le_refl _,F_nil d W ok⟩
end
end Kd
end Go.Proofs.YtchhndbekjgimaaW.PrintWords
end
namespace Go.Proofs.Ytchhndbekjgimaa
open Go.Proofs.YtchhndbekjgimaaW.PrintWords
theorem mk0 {p : Prop} (h : p) : Aside0 p := ⟨h⟩
theorem zq0 {P : Prop} (h : P := by repeat (first | (with_reducible first | exact HI0.out | apply IsS44.alloc | apply IsS44.drewN | apply IsS44.drew | apply IsS44.set_0 | apply IsS44.set_1) | exact HI0.out)) : P := h
theorem zq1 {P : Prop} (h : P := by repeat (first | (with_reducible first | exact HK.out | apply KeepBut.set_ | apply j2c | apply j2h | apply j2d) | exact HK.out)) : P := h
theorem zq2 {P : Prop} (h : P := by (try simp only [List.map_toArray, List.map_cons, List.map_nil]); first | done | rfl | (simp only [List.length_drop, List.length_take]; rfl)) : P := h
theorem zq3 {P : Prop} (h : P := by repeat (first | (with_reducible first | exact HB.out | apply j1s | apply j1q | apply j1t | refine j1u ?_ (IsS44.ge HI0.out)) | exact HB.out)) : P := h
theorem zq4 {P : Prop} (h : P := by repeat (first | (with_reducible first | exact HI0.out | apply IsS44.alloc | apply IsS44.drewN | apply IsS44.drew | apply IsS44.set_0 | apply IsS44.set_1 | refine IsS44.far ?_ NB0_169.out _) | exact HI0.out)) : P := h
theorem zq5 {P : Prop} (h : P := by repeat (first | (with_reducible first | exact HI0.out | apply IsS44.alloc | apply IsS44.drewN | apply IsS44.drew | apply IsS44.set_0 | apply IsS44.set_1 | refine IsS44.far ?_ NB0_200.out _) | exact HI0.out)) : P := h
theorem zq6 {P : Prop} (h : P := by (with_reducible repeat (first | apply Kd.R_alloc | apply Kd.R_drewN | apply Kd.R_drew)); exact HO149.out) : P := h
theorem zq7 {P : Prop} (h : P := by repeat (first | (with_reducible first | exact HB.out | apply j1s | apply j1q | apply j1t) | exact HB.out)) : P := h
theorem zq8 {P : Prop} (h : P := by repeat (first | (with_reducible first | exact HK.out | apply KeepBut.set_ | apply j2c | apply j2h | apply j2d | refine j3a ?_ GW101.out _ | refine j3a ?_ GW102.out _) | exact HK.out)) : P := h
theorem zq9 {P : Prop} (h : P := by repeat (first | (with_reducible first | exact HI0.out | apply IsS44.alloc | apply IsS44.drewN | apply IsS44.drew | apply IsS44.set_0 | apply IsS44.set_1 | refine IsS44.far ?_ NB0_101.out _ | refine IsS44.far ?_ NB0_102.out _) | exact HI0.out)) : P := h
theorem zq10 {P : Prop} (h : P := by repeat (first | (with_reducible first | exact HB.out | apply j1s | apply j1q | apply j1t | refine j1u ?_ (IsS44.ge HI0.out) | refine j1u ?_ GE101.out | refine j1u ?_ GE102.out) | exact HB.out)) : P := h
theorem zq11 {P : Prop} (h : P := by repeat (first | (with_reducible first | exact HB.out | apply j1s | apply j1q | apply j1t | refine j1u ?_ GE111.out) | exact HB.out)) : P := h
theorem zq12 {P : Prop} (h : P := by first | (with_reducible assumption) | assumption) : P := h
theorem zq13 {P : Prop} (h : P := by (with_reducible repeat (first | refine j1i ?_ _ | refine j1j ?_ | refine j1h ?_ _)); refine j1w (cs := #[.int .i64 0, .int .i64 s0_1, .int .i64 0, .slice none 0 0, .slice none 0 0]) ?_ 4 _ rfl; (with_reducible repeat (first | refine j1i ?_ _ | refine j1j ?_ | refine j1h ?_ _)); refine j1w (cs := #[.int .i64 0, .int .i64 s0_1, .int .i64 0, .slice none 0 0, .slice none 0 0]) ?_ 3 _ rfl; (with_reducible repeat (first | refine j1i ?_ _ | refine j1j ?_ | refine j1h ?_ _)); refine j1w (cs := #[.int .i64 0, .int .i64 s0_1, .int .i64 0, .slice none 0 0, .slice none 0 0]) ?_ 2 _ rfl; (with_reducible repeat (first | refine j1i ?_ _ | refine j1j ?_ | refine j1h ?_ _)); refine j1w (cs := #[.int .i64 0, .int .i64 0, .int .i64 0, .slice none 0 0, .slice none 0 0]) ?_ 1 _ rfl; (with_reducible repeat (first | refine j1i ?_ _ | refine j1j ?_ | refine j1h ?_ _)); refine j1w (cs := #[.int .i64 0, .int .i64 0, .int .i64 0, .slice none 0 0, .slice none 0 0]) ?_ 0 _ rfl; (with_reducible repeat (first | refine j1i ?_ _ | refine j1j ?_ | refine j1h ?_ _)); exact BK102.out) : P := h
theorem zq14 {P : Prop} (h : P := by (with_reducible repeat (first | apply Kd.R_alloc | apply Kd.R_drewN | apply Kd.R_drew)); exact HO_6.out) : P := h
theorem zq15 {P : Prop} (h : P := by repeat (first | (with_reducible first | exact HK.out | apply KeepBut.set_ | apply j2c | apply j2h | apply j2d | refine j3a ?_ GW169.out _) | exact HK.out)) : P := h
theorem zq16 {P : Prop} (h : P := by repeat (first | (with_reducible first | exact HK.out | apply KeepBut.set_ | apply j2c | apply j2h | apply j2d | refine j3a ?_ GW200.out _) | exact HK.out)) : P := h
theorem zq17 {P : Prop} (h : P := by (with_reducible repeat (first | refine j1i ?_ _ | refine j1j ?_ | refine j1h ?_ _)); exact BK101.out) : P := h
theorem zq18 {P : Prop} (h : P := by repeat (first | (with_reducible first | exact HB.out | apply j1s | apply j1q | apply j1t | refine j1u ?_ (IsS44.ge HI0.out) | refine j1u ?_ GE169.out) | exact HB.out)) : P := h
theorem zq19 {P : Prop} (h : P := by repeat (first | (with_reducible first | exact HB.out | apply j1s | apply j1q | apply j1t | refine j1u ?_ (IsS44.ge HI0.out) | refine j1u ?_ GE200.out) | exact HB.out)) : P := h
theorem zq20 {P : Prop} (h : P := by (with_reducible repeat (first | refine j1i ?_ _ | refine j1j ?_ | refine j1h ?_ _)); refine j2q ?_ NB101_102.out _; (with_reducible repeat (first | refine j1i ?_ _ | refine j1j ?_ | refine j1h ?_ _)); refine j2q ?_ NB101_102.out _; (with_reducible repeat (first | refine j1i ?_ _ | refine j1j ?_ | refine j1h ?_ _)); refine j2q ?_ NB101_102.out _; (with_reducible repeat (first | refine j1i ?_ _ | refine j1j ?_ | refine j1h ?_ _)); refine j2q ?_ NB101_102.out _; (with_reducible repeat (first | refine j1i ?_ _ | refine j1j ?_ | refine j1h ?_ _)); refine j2q ?_ NB101_102.out _; (with_reducible repeat (first | refine j1i ?_ _ | refine j1j ?_ | refine j1h ?_ _)); exact BK101.out) : P := h
theorem zq21 {P : Prop} (h : P := by repeat (first | (with_reducible first | exact HI0.out | apply IsS44.alloc | apply IsS44.drewN | apply IsS44.drew | apply IsS44.set_0 | apply IsS44.set_1 | refine IsS44.far ?_ NB0_101.out _) | exact HI0.out)) : P := h
theorem zq22 {P : Prop} (h : P := by repeat (first | (with_reducible first | exact HK.out | apply KeepBut.set_ | apply j2c | apply j2h | apply j2d | refine j3a ?_ GW101.out _) | exact HK.out)) : P := h
theorem zq23 {P : Prop} (h : P := by kernel_rfl) : P := h
theorem zq24 {P : Prop} (h : P := by first | omega | (simp only [List.length_append, List.length_cons, List.length_nil] at *; omega)) : P := h
theorem zq25 {P : Prop} (h : P := by (with_reducible repeat (first | refine j1i ?_ _ | refine j1j ?_ | refine j1h ?_ _)); exact BK111.out) : P := h
theorem zq26 {P : Prop} (h : P := by (with_reducible repeat (first | refine j1i ?_ _ | refine j1j ?_ | refine j1h ?_ _)); refine j1w (cs := #[.int .i64 0, .int .i64 s0_1, .int .i64 0, .slice none 0 0, .slice none 0 0]) ?_ 0 _ rfl; (with_reducible repeat (first | refine j1i ?_ _ | refine j1j ?_ | refine j1h ?_ _)); exact BK102.out) : P := h
theorem zq27 {P : Prop} (h : P := by first | rfl | (simp; done) | (simp [*]; done)) : P := h
theorem zq28 {P : Prop} (h : P := by (with_reducible repeat (first | refine j1i ?_ _ | refine j1j ?_ | refine j1h ?_ _)); exact BK169.out) : P := h
theorem zq29 {P : Prop} (h : P := by (with_reducible repeat (first | refine j1i ?_ _ | refine j1j ?_ | refine j1h ?_ _)); exact BK200.out) : P := h
theorem zq30 {P : Prop} (h : P := by rw [hg]; exact (j2m (w := w) (g := g) (row := none) zq1)) : P := h
theorem zq31 {P : Prop} (h : P := by (with_reducible repeat (first | refine j1i ?_ _ | refine j1j ?_ | refine j1h ?_ _)); refine j2q ?_ NB101_102.out _; (with_reducible repeat (first | refine j1i ?_ _ | refine j1j ?_ | refine j1h ?_ _)); exact BK101.out) : P := h
theorem zq32 {P : Prop} (h : P := by (with_reducible repeat (first | refine j1i ?_ _ | refine j1j ?_ | refine j1h ?_ _)); refine j1w (cs := #[.int .i64 t101, .int .i64 t102, .int .i64 t103, .slice Ao66 t104.length co66, .slice none 0 0]) ?_ 4 _ rfl; (with_reducible repeat (first | refine j1i ?_ _ | refine j1j ?_ | refine j1h ?_ _)); refine j1w (cs := #[.int .i64 t101, .int .i64 t102, .int .i64 t103, .slice none 0 0, .slice none 0 0]) ?_ 3 _ rfl; (with_reducible repeat (first | refine j1i ?_ _ | refine j1j ?_ | refine j1h ?_ _)); refine j1w (cs := #[.int .i64 t101, .int .i64 t102, .int .i64 0, .slice none 0 0, .slice none 0 0]) ?_ 2 _ rfl; (with_reducible repeat (first | refine j1i ?_ _ | refine j1j ?_ | refine j1h ?_ _)); refine j1w (cs := #[.int .i64 t101, .int .i64 0, .int .i64 0, .slice none 0 0, .slice none 0 0]) ?_ 1 _ rfl; (with_reducible repeat (first | refine j1i ?_ _ | refine j1j ?_ | refine j1h ?_ _)); refine j1w (cs := #[.int .i64 0, .int .i64 0, .int .i64 0, .slice none 0 0, .slice none 0 0]) ?_ 0 _ rfl; (with_reducible repeat (first | refine j1i ?_ _ | refine j1j ?_ | refine j1h ?_ _)); exact BK111.out) : P := h
theorem zq33 {P : Prop} (h : P := by (with_reducible repeat (first | refine j1i ?_ _ | refine j1j ?_ | refine j1h ?_ _)); refine j1w (cs := #[.int .i64 t101, .int .i64 t102, .int .i64 t103, .slice Ao53 t104.length co53, .slice none 0 0]) ?_ 4 _ rfl; (with_reducible repeat (first | refine j1i ?_ _ | refine j1j ?_ | refine j1h ?_ _)); refine j1w (cs := #[.int .i64 t101, .int .i64 t102, .int .i64 t103, .slice none 0 0, .slice none 0 0]) ?_ 3 _ rfl; (with_reducible repeat (first | refine j1i ?_ _ | refine j1j ?_ | refine j1h ?_ _)); refine j1w (cs := #[.int .i64 t101, .int .i64 t102, .int .i64 0, .slice none 0 0, .slice none 0 0]) ?_ 2 _ rfl; (with_reducible repeat (first | refine j1i ?_ _ | refine j1j ?_ | refine j1h ?_ _)); refine j1w (cs := #[.int .i64 t101, .int .i64 0, .int .i64 0, .slice none 0 0, .slice none 0 0]) ?_ 1 _ rfl; (with_reducible repeat (first | refine j1i ?_ _ | refine j1j ?_ | refine j1h ?_ _)); refine j1w (cs := #[.int .i64 0, .int .i64 0, .int .i64 0, .slice none 0 0, .slice none 0 0]) ?_ 0 _ rfl; (with_reducible repeat (first | refine j1i ?_ _ | refine j1j ?_ | refine j1h ?_ _)); exact BK111.out) : P := h
theorem zq34 {P : Prop} (h : P := by (with_reducible repeat (first | refine j1i ?_ _ | refine j1j ?_ | refine j1h ?_ _)); refine j1w (cs := #[.int .i64 t101, .int .i64 t102, .int .i64 t103, .slice Ao39 t104.length co39, .slice none 0 0]) ?_ 4 _ rfl; (with_reducible repeat (first | refine j1i ?_ _ | refine j1j ?_ | refine j1h ?_ _)); refine j1w (cs := #[.int .i64 t101, .int .i64 t102, .int .i64 t103, .slice none 0 0, .slice none 0 0]) ?_ 3 _ rfl; (with_reducible repeat (first | refine j1i ?_ _ | refine j1j ?_ | refine j1h ?_ _)); refine j1w (cs := #[.int .i64 t101, .int .i64 t102, .int .i64 0, .slice none 0 0, .slice none 0 0]) ?_ 2 _ rfl; (with_reducible repeat (first | refine j1i ?_ _ | refine j1j ?_ | refine j1h ?_ _)); refine j1w (cs := #[.int .i64 t101, .int .i64 0, .int .i64 0, .slice none 0 0, .slice none 0 0]) ?_ 1 _ rfl; (with_reducible repeat (first | refine j1i ?_ _ | refine j1j ?_ | refine j1h ?_ _)); refine j1w (cs := #[.int .i64 0, .int .i64 0, .int .i64 0, .slice none 0 0, .slice none 0 0]) ?_ 0 _ rfl; (with_reducible repeat (first | refine j1i ?_ _ | refine j1j ?_ | refine j1h ?_ _)); exact BK111.out) : P := h
theorem zq35 {P : Prop} (h : P := by (with_reducible repeat (first | refine j1i ?_ _ | refine j1j ?_ | refine j1h ?_ _)); refine j1w (cs := #[.int .i64 t101, .int .i64 t102, .int .i64 t103, .slice Ao23 t104.length co23, .slice none 0 0]) ?_ 4 _ rfl; (with_reducible repeat (first | refine j1i ?_ _ | refine j1j ?_ | refine j1h ?_ _)); refine j1w (cs := #[.int .i64 t101, .int .i64 t102, .int .i64 t103, .slice none 0 0, .slice none 0 0]) ?_ 3 _ rfl; (with_reducible repeat (first | refine j1i ?_ _ | refine j1j ?_ | refine j1h ?_ _)); refine j1w (cs := #[.int .i64 t101, .int .i64 t102, .int .i64 0, .slice none 0 0, .slice none 0 0]) ?_ 2 _ rfl; (with_reducible repeat (first | refine j1i ?_ _ | refine j1j ?_ | refine j1h ?_ _)); refine j1w (cs := #[.int .i64 t101, .int .i64 0, .int .i64 0, .slice none 0 0, .slice none 0 0]) ?_ 1 _ rfl; (with_reducible repeat (first | refine j1i ?_ _ | refine j1j ?_ | refine j1h ?_ _)); refine j1w (cs := #[.int .i64 0, .int .i64 0, .int .i64 0, .slice none 0 0, .slice none 0 0]) ?_ 0 _ rfl; (with_reducible repeat (first | refine j1i ?_ _ | refine j1j ?_ | refine j1h ?_ _)); exact BK111.out) : P := h
theorem zq36 {P : Prop} (h : P := by (with_reducible repeat (first | refine j1i ?_ _ | refine j1j ?_ | refine j1h ?_ _)); exact BK102.out) : P := h
theorem zq37 {P : Prop} (h : P := by first | (go_simp; done) | (go_simp; rfl)) : P := h
theorem zq38 {P : Prop} (h : P := by (with_reducible repeat (first | apply Kd.R_alloc | apply Kd.R_drewN | apply Kd.R_drew)); exact HO106.out) : P := h
theorem zq39 {P : Prop} (h : P := by (with_reducible repeat (first | apply Kd.R_alloc | apply Kd.R_drewN | apply Kd.R_drew)); exact HO109.out) : P := h
theorem zq40 {P : Prop} (h : P := by (with_reducible repeat (first | apply Kd.R_alloc | apply Kd.R_drewN | apply Kd.R_drew)); exact (Kd.R_mono (Kd.R_far (p := ⟨gb111, 4, none⟩) (Kd.R_far (p := ⟨gb111, 3, none⟩) (Kd.R_far (p := ⟨gb111, 2, none⟩) (Kd.R_far (p := ⟨gb111, 1, none⟩) (Kd.R_far (p := ⟨gb111, 0, none⟩) (Kd.R_types HO106.out BK111.out (by decide)) (fun _ hk => hk.2) (.int .i64 t101)) (fun _ hk => hk.2) (.int .i64 t102)) (fun _ hk => hk.2) (.int .i64 t103)) (fun _ hk => hk.2) (.slice Ao66 t104.length co66)) (fun _ hk => hk.2) (.slice Ao67 t107.length co67)) (fun _ h_ => h_.1))) : P := h
theorem zq41 {P : Prop} (h : P := by (with_reducible repeat (first | apply Kd.R_alloc | apply Kd.R_drewN | apply Kd.R_drew)); exact (Kd.R_mono (Kd.R_far (p := ⟨gb111, 4, none⟩) (Kd.R_far (p := ⟨gb111, 3, none⟩) (Kd.R_far (p := ⟨gb111, 2, none⟩) (Kd.R_far (p := ⟨gb111, 1, none⟩) (Kd.R_far (p := ⟨gb111, 0, none⟩) (Kd.R_types HO106.out BK111.out (by decide)) (fun _ hk => hk.2) (.int .i64 t101)) (fun _ hk => hk.2) (.int .i64 t102)) (fun _ hk => hk.2) (.int .i64 t103)) (fun _ hk => hk.2) (.slice Ao53 t104.length co53)) (fun _ hk => hk.2) (.slice Ao54 t107.length co54)) (fun _ h_ => h_.1))) : P := h
theorem zq42 {P : Prop} (h : P := by (with_reducible repeat (first | apply Kd.R_alloc | apply Kd.R_drewN | apply Kd.R_drew)); exact (Kd.R_mono (Kd.R_far (p := ⟨gb111, 4, none⟩) (Kd.R_far (p := ⟨gb111, 3, none⟩) (Kd.R_far (p := ⟨gb111, 2, none⟩) (Kd.R_far (p := ⟨gb111, 1, none⟩) (Kd.R_far (p := ⟨gb111, 0, none⟩) (Kd.R_types HO106.out BK111.out (by decide)) (fun _ hk => hk.2) (.int .i64 t101)) (fun _ hk => hk.2) (.int .i64 t102)) (fun _ hk => hk.2) (.int .i64 t103)) (fun _ hk => hk.2) (.slice Ao39 t104.length co39)) (fun _ hk => hk.2) (.slice Ao40 t107.length co40)) (fun _ h_ => h_.1))) : P := h
theorem zq43 {P : Prop} (h : P := by (with_reducible repeat (first | apply Kd.R_alloc | apply Kd.R_drewN | apply Kd.R_drew)); exact (Kd.R_mono (Kd.R_far (p := ⟨gb111, 4, none⟩) (Kd.R_far (p := ⟨gb111, 3, none⟩) (Kd.R_far (p := ⟨gb111, 2, none⟩) (Kd.R_far (p := ⟨gb111, 1, none⟩) (Kd.R_far (p := ⟨gb111, 0, none⟩) (Kd.R_types HO106.out BK111.out (by decide)) (fun _ hk => hk.2) (.int .i64 t101)) (fun _ hk => hk.2) (.int .i64 t102)) (fun _ hk => hk.2) (.int .i64 t103)) (fun _ hk => hk.2) (.slice Ao23 t104.length co23)) (fun _ hk => hk.2) (.slice Ao24 t107.length co24)) (fun _ h_ => h_.1))) : P := h
theorem zq44 {P : Prop} (h : P := by (with_reducible repeat (first | apply Kd.R_alloc | apply Kd.R_drewN | apply Kd.R_drew)); exact HO_4.out) : P := h
theorem zq45 {P : Prop} (h : P := by (with_reducible repeat (first | apply Kd.R_alloc | apply Kd.R_drewN | apply Kd.R_drew)); exact HO172.out) : P := h
theorem zq46 {P : Prop} (h : P := by (with_reducible repeat (first | apply Kd.R_alloc | apply Kd.R_drewN | apply Kd.R_drew)); exact HO203.out) : P := h
theorem zq47 {P : Prop} (h : P := by (with_reducible repeat (first | apply Kd.R_alloc | apply Kd.R_drewN | apply Kd.R_drew)); exact HO117.out) : P := h
theorem zq48 {P : Prop} (h : P := by (with_reducible repeat (first | apply Kd.R_alloc | apply Kd.R_drewN | apply Kd.R_drew)); exact HO120.out) : P := h
theorem zq49 {P : Prop} (h : P := by (with_reducible repeat (first | apply Kd.R_alloc | apply Kd.R_drewN | apply Kd.R_drew)); exact HO_5.out) : P := h
theorem zq50 {P : Prop} (h : P := by decide) : P := h
theorem zq51 {P : Prop} (h : P := by repeat (first | (with_reducible first | exact HB.out | apply j1s | apply j1q | apply j1t | refine j1u ?_ (IsS44.ge HI0.out) | refine j1u ?_ GE101.out) | exact HB.out)) : P := h
theorem zq52 {P : Prop} (h : P := by repeat (first | (with_reducible first | exact HB.out | apply j1s | apply j1q | apply j1t | refine j1u ?_ GE111.out | refine j1u ?_ GE122.out) | exact HB.out)) : P := h
theorem zq53 {P : Prop} (h : P := by (with_reducible repeat (first | apply Kd.R_alloc | apply Kd.R_drewN | apply Kd.R_drew)); exact (Kd.R_mono (Kd.R_far (p := ⟨gb111, 4, none⟩) (Kd.R_far (p := ⟨gb111, 3, none⟩) (Kd.R_far (p := ⟨gb111, 2, none⟩) (Kd.R_far (p := ⟨gb111, 1, none⟩) (Kd.R_far (p := ⟨gb111, 0, none⟩) (Kd.R_mono HO109.out (fun k_ hk => (⟨hk, hk.2⟩ : _ ∧ k_ ≠ gb111))) (fun _ hk => hk.2) (.int .i64 t101)) (fun _ hk => hk.2) (.int .i64 t102)) (fun _ hk => hk.2) (.int .i64 t103)) (fun _ hk => hk.2) (.slice Ao66 t104.length co66)) (fun _ hk => hk.2) (.slice Ao67 t107.length co67)) (fun _ h_ => h_.1))) : P := h
theorem zq54 {P : Prop} (h : P := by (with_reducible repeat (first | apply Kd.R_alloc | apply Kd.R_drewN | apply Kd.R_drew)); exact (Kd.R_mono (Kd.R_far (p := ⟨gb111, 4, none⟩) (Kd.R_far (p := ⟨gb111, 3, none⟩) (Kd.R_far (p := ⟨gb111, 2, none⟩) (Kd.R_far (p := ⟨gb111, 1, none⟩) (Kd.R_far (p := ⟨gb111, 0, none⟩) (Kd.R_mono HO109.out (fun k_ hk => (⟨hk, hk.2⟩ : _ ∧ k_ ≠ gb111))) (fun _ hk => hk.2) (.int .i64 t101)) (fun _ hk => hk.2) (.int .i64 t102)) (fun _ hk => hk.2) (.int .i64 t103)) (fun _ hk => hk.2) (.slice Ao53 t104.length co53)) (fun _ hk => hk.2) (.slice Ao54 t107.length co54)) (fun _ h_ => h_.1))) : P := h
theorem zq55 {P : Prop} (h : P := by (with_reducible repeat (first | apply Kd.R_alloc | apply Kd.R_drewN | apply Kd.R_drew)); exact (Kd.R_mono (Kd.R_far (p := ⟨gb111, 4, none⟩) (Kd.R_far (p := ⟨gb111, 3, none⟩) (Kd.R_far (p := ⟨gb111, 2, none⟩) (Kd.R_far (p := ⟨gb111, 1, none⟩) (Kd.R_far (p := ⟨gb111, 0, none⟩) (Kd.R_mono HO109.out (fun k_ hk => (⟨hk, hk.2⟩ : _ ∧ k_ ≠ gb111))) (fun _ hk => hk.2) (.int .i64 t101)) (fun _ hk => hk.2) (.int .i64 t102)) (fun _ hk => hk.2) (.int .i64 t103)) (fun _ hk => hk.2) (.slice Ao39 t104.length co39)) (fun _ hk => hk.2) (.slice Ao40 t107.length co40)) (fun _ h_ => h_.1))) : P := h
theorem zq56 {P : Prop} (h : P := by (with_reducible repeat (first | apply Kd.R_alloc | apply Kd.R_drewN | apply Kd.R_drew)); exact (Kd.R_mono (Kd.R_far (p := ⟨gb111, 4, none⟩) (Kd.R_far (p := ⟨gb111, 3, none⟩) (Kd.R_far (p := ⟨gb111, 2, none⟩) (Kd.R_far (p := ⟨gb111, 1, none⟩) (Kd.R_far (p := ⟨gb111, 0, none⟩) (Kd.R_mono HO109.out (fun k_ hk => (⟨hk, hk.2⟩ : _ ∧ k_ ≠ gb111))) (fun _ hk => hk.2) (.int .i64 t101)) (fun _ hk => hk.2) (.int .i64 t102)) (fun _ hk => hk.2) (.int .i64 t103)) (fun _ hk => hk.2) (.slice Ao23 t104.length co23)) (fun _ hk => hk.2) (.slice Ao24 t107.length co24)) (fun _ h_ => h_.1))) : P := h
theorem zq57 {P : Prop} (h : P := by (with_reducible repeat (first | apply Kd.R_alloc | apply Kd.R_drewN | apply Kd.R_drew)); exact Kd.R_mono HO_6.out (fun _ hk => ⟨trivial, hk⟩)) : P := h
theorem zq58 {P : Prop} (h : P := by rw [hg]; exact Nat.ne_of_lt (j3m (g := gb101) (o := .cells #[.int .i64 0, .int .i64 0, .int .i64 0, .slice none 0 0, .slice none 0 0] 34 (0, 0)) zq17)) : P := h
theorem zq59 {P : Prop} (h : P := by rw [hg]; exact Nat.ne_of_gt (j3m (g := gb101) (o := .cells #[.int .i64 0, .int .i64 0, .int .i64 0, .slice none 0 0, .slice none 0 0] 34 (0, 0)) zq17)) : P := h
theorem zq60 {P : Prop} (h : P := by rw [hg]; exact (j2m (w := w) (g := g) (row := none) zq22)) : P := h
theorem zq61 {P : Prop} (h : P := by first | rfl | simp [nums]) : P := h
theorem zq62 {P : Prop} (h : P := by first | rfl | (simp; rfl)) : P := h
theorem zq63 {P : Prop} (h : P := by have := LMc20.out; first | omega | (simp only [List.length_cons, List.length_nil] at this ⊢; omega)) : P := h
theorem zq64 {P : Prop} (h : P := by (with_reducible repeat (first | refine j1i ?_ _ | refine j1j ?_ | refine j1h ?_ _)); exact BK122.out) : P := h
theorem zq65 {P : Prop} (h : P := by repeat (first | exact (Kd.R_reads' HO106.out).2.2 | (with_reducible refine Kd.C_alloc ?_ _) | (with_reducible refine Kd.C_drewN ?_ _) | (with_reducible refine Kd.C_drew ?_))) : P := h
theorem zq66 {P : Prop} (h : P := by repeat (first | exact (Kd.R_reads' HO109.out).2.2 | (with_reducible refine Kd.C_alloc ?_ _) | (with_reducible refine Kd.C_drewN ?_ _) | (with_reducible refine Kd.C_drew ?_))) : P := h
theorem zq67 {P : Prop} (h : P := by repeat (first | exact (Kd.R_reads' HO117.out).2.2 | (with_reducible refine Kd.C_alloc ?_ _) | (with_reducible refine Kd.C_drewN ?_ _) | (with_reducible refine Kd.C_drew ?_))) : P := h
theorem zq68 {P : Prop} (h : P := by repeat (first | exact (Kd.R_reads' HO120.out).2.2 | (with_reducible refine Kd.C_alloc ?_ _) | (with_reducible refine Kd.C_drewN ?_ _) | (with_reducible refine Kd.C_drew ?_))) : P := h
theorem zq69 {P : Prop} (h : P := by repeat (first | (with_reducible first | exact HB.out | apply j1s | apply j1q | apply j1t | refine j1u ?_ GE101.out) | exact HB.out)) : P := h
theorem zq70 {P : Prop} (h : P := by simp only [List.length_cons, List.length_nil] at *; omega) : P := h
theorem zq71 {P : Prop} (h : P := by (with_reducible repeat (first | apply Kd.R_alloc | apply Kd.R_drewN | apply Kd.R_drew)); exact HO162.out) : P := h
theorem zq72 {P : Prop} (h : P := by (with_reducible repeat (first | apply Kd.R_alloc | apply Kd.R_drewN | apply Kd.R_drew)); exact HO165.out) : P := h
theorem zq73 {P : Prop} (h : P := by (with_reducible repeat (first | apply Kd.R_alloc | apply Kd.R_drewN | apply Kd.R_drew)); exact HO193.out) : P := h
theorem zq74 {P : Prop} (h : P := by (with_reducible repeat (first | apply Kd.R_alloc | apply Kd.R_drewN | apply Kd.R_drew)); exact HO196.out) : P := h
theorem zq75 {P : Prop} (h : P := by (with_reducible repeat (first | apply Kd.R_alloc | apply Kd.R_drewN | apply Kd.R_drew)); exact Kd.R_mono HO_6.out (fun _ hk => ⟨hk.1, hk.2.2.2⟩)) : P := h
theorem zq76 {P : Prop} (h : P := by (with_reducible repeat (first | apply Kd.R_alloc | apply Kd.R_drewN | apply Kd.R_drew)); exact Kd.R_mono HO_4.out (fun _ hk => hk.2.2)) : P := h
theorem zq77 {P : Prop} (h : P := by rw [hg]; exact (j2u zq7)) : P := h
theorem zq78 {P : Prop} (h : P := by rw [hg]; exact (j2u zq11)) : P := h
theorem zq79 {P : Prop} (h : P := by repeat (first | (with_reducible first | exact HB.out | apply j1s | apply j1q | apply j1t | refine j1u ?_ GE101.out | refine j1u ?_ GE102.out) | exact HB.out)) : P := h
theorem zq80 {P : Prop} (h : P := by have := LMc27.out; first | omega | (simp only [List.length_cons, List.length_nil] at this ⊢; omega)) : P := h
theorem zq81 {P : Prop} (h : P := by have := LMc13.out; first | omega | (simp only [List.length_cons, List.length_nil] at this ⊢; omega)) : P := h
theorem zq82 {P : Prop} (h : P := by repeat (first | exact (Kd.C_below HR105_3.out HB.out) | (with_reducible refine Kd.C_alloc ?_ _) | (with_reducible refine Kd.C_drewN ?_ _) | (with_reducible refine Kd.C_drew ?_))) : P := h
theorem zq83 {P : Prop} (h : P := by repeat (first | exact (Kd.C_below HR105_4.out HB.out) | (with_reducible refine Kd.C_alloc ?_ _) | (with_reducible refine Kd.C_drewN ?_ _) | (with_reducible refine Kd.C_drew ?_))) : P := h
theorem zq84 {P : Prop} (h : P := by repeat (first | exact (Kd.C_below HR106_3.out HB.out) | (with_reducible refine Kd.C_alloc ?_ _) | (with_reducible refine Kd.C_drewN ?_ _) | (with_reducible refine Kd.C_drew ?_))) : P := h
theorem zq85 {P : Prop} (h : P := by repeat (first | exact (Kd.C_below HR106_4.out HB.out) | (with_reducible refine Kd.C_alloc ?_ _) | (with_reducible refine Kd.C_drewN ?_ _) | (with_reducible refine Kd.C_drew ?_))) : P := h
theorem zq86 {P : Prop} (h : P := by simp; omega) : P := h
theorem zm {P : Prop} (h : P := by repeat' first|(with_reducible first|apply ih0|apply ih1|apply ih2|apply ih3|apply ih4|apply ih5|apply ih6|apply j1x.mono|apply j1g.mono|apply j1o.mono|apply j1c.mono|apply j1f.mono|apply j1p.mono|apply j1m.mono|apply j2r.mono|apply j2j.mono|apply j2y.mono|apply j2l.mono|apply j1v.mono|apply j2p.mono|exact LeO.refl _|exact LeO.none _|refine LeO.ite ?_ ?_|refine LeO.bind ?_ (fun _=>?_))|apply ih0|apply ih1|apply ih2|apply ih3|apply ih4|apply ih5|apply ih6|apply j1x.mono|apply j1g.mono|apply j1o.mono|apply j1c.mono|apply j1f.mono|apply j1p.mono|apply j1m.mono|apply j2r.mono|apply j2j.mono|apply j2y.mono|apply j2l.mono|apply j1v.mono|apply j2p.mono|exact LeO.none _|refine LeO.ite ?_ ?_|refine LeO.bind ?_ (fun _=>?_)) : P := h
theorem zl0 {P : Prop} (h : P := by simp only [Act.put,List.setIfInBounds_toArray,List.set_cons_zero,List.set_cons_succ,i64_w,i32_w];rfl) : P := h
theorem zl1 {P : Prop} (h : P := by exact ⟨by first|rfl|(simp [j2o,j2n]<;>rfl)|(simp [*, j2o,j2n]<;>rfl),by repeat (first|(with_reducible first|exact HI0.out|apply IsS44.alloc|apply IsS44.drewN|apply IsS44.drew|apply IsS44.set_0|apply IsS44.set_1)|exact HI0.out),by repeat (first|(with_reducible first|exact HB.out|apply j1s|apply j1q|apply j1t|refine j1u ?_ (IsS44.ge HI0.out))|exact HB.out),by repeat (first|(with_reducible first|exact HK.out|apply KeepBut.set_|apply j2c|apply j2h|apply j2d)|exact HK.out)⟩) : P := h
theorem zl2 {P : Prop} (h : P := by exact ⟨_,_,by first|rfl|(simp [j2o,j2n]<;>rfl)|(simp [*, j2o,j2n]<;>rfl),by first|exact Kd.R_nil _ _ _ _ _|exact Kd.N_nil _ _ _ _ _|exact Kd.V_nil _ _ _ _ _|exact Kd.Q_nil _ _ _ _ _|exact Kd.S_nil _ _ _ _ _,by first|exact Kd.R_nil _ _ _ _ _|exact Kd.N_nil _ _ _ _ _|exact Kd.V_nil _ _ _ _ _|exact Kd.Q_nil _ _ _ _ _|exact Kd.S_nil _ _ _ _ _,by repeat (first|(with_reducible first|exact HI0.out|apply IsS44.alloc|apply IsS44.drewN|apply IsS44.drew|apply IsS44.set_0|apply IsS44.set_1|refine IsS44.far ?_ NB0_101.out _|refine IsS44.far ?_ NB0_102.out _)|exact HI0.out),by repeat (first|(with_reducible first|exact HB.out|apply j1s|apply j1q|apply j1t|refine j1u ?_ (IsS44.ge HI0.out)|refine j1u ?_ GE101.out|refine j1u ?_ GE102.out)|exact HB.out),by repeat (first|(with_reducible first|exact HK.out|apply KeepBut.set_|apply j2c|apply j2h|apply j2d|refine j3a ?_ GW101.out _|refine j3a ?_ GW102.out _)|exact HK.out)⟩) : P := h
theorem zl3 {P : Prop} (h : P := by intro w';go_simp;with_reducible rfl) : P := h
theorem zl4 {P : Prop} (h : P := by exact ⟨_,_,by first|rfl|(simp [j2o,j2n]<;>rfl)|(simp [*, j2o,j2n]<;>rfl),by first|exact Kd.R_nil _ _ _ _ _|exact Kd.N_nil _ _ _ _ _|exact Kd.V_nil _ _ _ _ _|exact Kd.Q_nil _ _ _ _ _|exact Kd.S_nil _ _ _ _ _,by first|exact Kd.R_nil _ _ _ _ _|exact Kd.N_nil _ _ _ _ _|exact Kd.V_nil _ _ _ _ _|exact Kd.Q_nil _ _ _ _ _|exact Kd.S_nil _ _ _ _ _,by repeat (first|(with_reducible first|exact HI0.out|apply IsS44.alloc|apply IsS44.drewN|apply IsS44.drew|apply IsS44.set_0|apply IsS44.set_1)|exact HI0.out),by repeat (first|(with_reducible first|exact HB.out|apply j1s|apply j1q|apply j1t|refine j1u ?_ (IsS44.ge HI0.out))|exact HB.out),by repeat (first|(with_reducible first|exact HK.out|apply KeepBut.set_|apply j2c|apply j2h|apply j2d)|exact HK.out)⟩) : P := h
theorem zl5 {P : Prop} (h : P := by exact ⟨_,_,by first|rfl|(simp [j2o,j2n]<;>rfl)|(simp [*, j2o,j2n]<;>rfl),by first|exact Kd.R_nil _ _ _ _ _|exact Kd.N_nil _ _ _ _ _|exact Kd.V_nil _ _ _ _ _|exact Kd.Q_nil _ _ _ _ _|exact Kd.S_nil _ _ _ _ _,by first|exact Kd.R_nil _ _ _ _ _|exact Kd.N_nil _ _ _ _ _|exact Kd.V_nil _ _ _ _ _|exact Kd.Q_nil _ _ _ _ _|exact Kd.S_nil _ _ _ _ _,by repeat (first|(with_reducible first|exact HI0.out|apply IsS44.alloc|apply IsS44.drewN|apply IsS44.drew|apply IsS44.set_0|apply IsS44.set_1|refine IsS44.far ?_ NB0_169.out _)|exact HI0.out),by repeat (first|(with_reducible first|exact HB.out|apply j1s|apply j1q|apply j1t|refine j1u ?_ (IsS44.ge HI0.out)|refine j1u ?_ GE169.out)|exact HB.out),by repeat (first|(with_reducible first|exact HK.out|apply KeepBut.set_|apply j2c|apply j2h|apply j2d|refine j3a ?_ GW169.out _)|exact HK.out)⟩) : P := h
theorem zl6 {P : Prop} (h : P := by exact ⟨_,by first|rfl|(simp [j2o,j2n]<;>rfl)|(simp [*, j2o,j2n]<;>rfl),by first|exact Kd.R_nil _ _ _ _ _|exact Kd.N_nil _ _ _ _ _|exact Kd.V_nil _ _ _ _ _|exact Kd.Q_nil _ _ _ _ _|exact Kd.S_nil _ _ _ _ _,by repeat (first|(with_reducible first|exact HI0.out|apply IsS44.alloc|apply IsS44.drewN|apply IsS44.drew|apply IsS44.set_0|apply IsS44.set_1|refine IsS44.far ?_ NB0_200.out _)|exact HI0.out),by repeat (first|(with_reducible first|exact HB.out|apply j1s|apply j1q|apply j1t|refine j1u ?_ (IsS44.ge HI0.out)|refine j1u ?_ GE200.out)|exact HB.out),by repeat (first|(with_reducible first|exact HK.out|apply KeepBut.set_|apply j2c|apply j2h|apply j2d|refine j3a ?_ GW200.out _)|exact HK.out)⟩) : P := h
theorem zl7 {P : Prop} (h : P := by exact ⟨by first|rfl|(simp [j2o,j2n]<;>rfl)|(simp [*, j2o,j2n]<;>rfl),by repeat (first|(with_reducible first|exact HB.out|apply j1s|apply j1q|apply j1t|refine j1u ?_ GE101.out|refine j1u ?_ GE102.out)|exact HB.out)⟩) : P := h
theorem zl8 {P : Prop} (h : P := by exact ⟨by first|rfl|(simp [j2o,j2n]<;>rfl)|(simp [*, j2o,j2n]<;>rfl),by repeat (first|(with_reducible first|exact HB.out|apply j1s|apply j1q|apply j1t|refine j1u ?_ GE111.out|refine j1u ?_ GE122.out)|exact HB.out)⟩) : P := h
theorem zl9 {P : Prop} (h : P := by exact ⟨by first|rfl|(simp [j2o,j2n]<;>rfl)|(simp [*, j2o,j2n]<;>rfl),by repeat (first|(with_reducible first|exact HB.out|apply j1s|apply j1q|apply j1t)|exact HB.out)⟩) : P := h
theorem zl10 {P : Prop} (h : P := by rintro w' ⟨s0,s1,s2,s3,s4,s5,s6,s7,s8,s9,s10,s11,s12,s13,s14,s15,s16,s17,s18,s19⟩;go_simp;with_reducible rfl) : P := h
theorem zl11 {P : Prop} (h : P := by exact ⟨by first|rfl|(simp;done)|(simp [*];done),by repeat (first|exact Drawn0.refl _|apply Drawn0.step)⟩) : P := h
theorem zl12 {P : Prop} (h : P := by rintro w' ⟨s0,s1,s2,s3,s4,s5,s6,s7,s8,s9,s10,s11,s12,s13⟩;go_simp;with_reducible rfl) : P := h
theorem zl13 {P : Prop} (h : P := by rintro w' ⟨s0,s1,s2,s3,s4,s5,s6,s7,s8,s9⟩;go_simp;with_reducible rfl) : P := h
theorem zl14 {P : Prop} (h : P := by exact HW.out.src _ _ _ i h hlt (.inr (by rw [List.getD_eq_getElem?_getD,← HAL.out,List.getElem?_concat_length];rw [HAL.out,hgx];rfl))) : P := h
theorem zl15 {P : Prop} (h : P := by exact HW.out.src _ _ _ i h hlt (.inr (by rw [← HAL.out,getD_end,HAL.out,hgx]))) : P := h
theorem zl16 {P : Prop} (h : P := by rintro w' ⟨s0,s1,s2⟩;go_simp;with_reducible rfl) : P := h
end Go.Proofs.Ytchhndbekjgimaa
section
namespace Go.Proofs.Ytchhndbekjgimaa.S
open Go.RowKit Go.Proofs.YtchhndbekjgimaaW.PrintWords Go.Proofs.YtchhndbekjgimaaW.PrintLast Go.Proofs.YtchhndbekjgimaaW.PrintMore
attribute [local go_sem] max2_int min2_int max_two min_two max_three min_three max_four min_four
set_option linter.unusedVariables false
set_option linter.unusedSimpArgs false
def errW : Option (TypeId × Value)→Value
  | none => .nilIface
  | some c => .iface c.1 c.2
theorem j2o : errW none = .nilIface:=rfl
theorem j2n (c : TypeId × Value):errW (some c) = .iface c.1 c.2:=rfl
theorem info5 : (Try.prog.info? 5).map (fun i=>(i.zero,i.size,i.bytes))=some (some (.int .u8 0),1,1):=by kernel_rfl
theorem info34 : (Try.prog.info? 34).map (fun i=>(i.zero,i.size,i.bytes))=some (some (.agg #[(.int .i64 0),(.int .i64 0),(.int .i64 0),(.slice none 0 0),(.slice none 0 0)]),5,72):=by kernel_rfl
theorem info60 : (Try.prog.info? 60).map (fun i=>(i.zero,i.size,i.bytes))=some (some (.agg #[(.int .i64 0),(.int .i64 0)]),2,16):=by kernel_rfl
structure S60 where
  f0:Int
  f1:Int
def z60 : S60 := ⟨(0:Int),(0:Int)⟩
def k60 : Kd S60:=Kd.iso (Kd.pair (Kd.int .i64) (Kd.int .i64)) (fun x:S60=>(x.f0,x.f1))
theorem k60_open {w : World} {x:S60} {cs:List Value} (h:k60.K w x cs):cs=[.int .i64 x.f0, .int .i64 x.f1]:=by
 obtain ⟨_,_,rfl,rfl,rfl⟩:=h;exact rfl
theorem k60_mkM (w : World) (base:Nat) (ok:Nat→Prop) (x:S60)  : k60.M w base ok x [.int .i64 x.f0, .int .i64 x.f1]:=⟨[.int .i64 x.f0],[.int .i64 x.f1],rfl,rfl,rfl⟩
def j2x (xs : List S60) (i:Int):S60:=xs.getD i.toNat z60
theorem at_T60 {w : World} {A:Option Addr} {n:Nat} {xs:List S60} (h:Kd.C k60 w A n xs) (i:Int) (h0:0≤i) (h1:i<n):∃ ad , A=some ad∧w.cell? (ad.add (i.toNat*2))=some (.int .i64 (j2x xs i).f0)∧w.cell? ⟨(ad.add (i.toNat*2)).block,(ad.add (i.toNat*2)).off+1,none⟩=some (.int .i64 (j2x xs i).f1):=by
 obtain ⟨ad,c,e,_,hK,hc0⟩:=Kd.C_get h z60 i h0 h1;have hc:∀ j u,c[j]? = some u→w.cell? (ad.add (i.toNat*2+j))=some u:=hc0;obtain rfl:=k60_open hK;exact ⟨ad,e,hc 0 _ rfl,by rw [← add_field _ _ 1 (by omega)];exact hc 1 _ rfl⟩
structure S34 where
  f0:Int
  f1:Int
  f2:Int
  f3:(List S60)
  f4:(List S34)
def z34 : S34 := ⟨(0:Int),(0:Int),(0:Int),([]:List S60),([]:List S34)⟩
def F34 (d : Kd S34):Kd S34:=Kd.iso (Kd.pair (Kd.int .i64) (Kd.pair (Kd.int .i64) (Kd.pair (Kd.int .i64) (Kd.pair (Kd.slice 60 k60) (Kd.slice 34 d))))) (fun x:S34=>(x.f0,x.f1,x.f2,x.f3,x.f4))
theorem mono34 : Kd.Mono F34:=Kd.mono_iso _ (Kd.mono_pair (Kd.mono_const _) (Kd.mono_pair (Kd.mono_const _) (Kd.mono_pair (Kd.mono_const _) (Kd.mono_pair (Kd.mono_const _) (Kd.mono_slice 34 Kd.mono_id)))))
theorem sub34 : Kd.Sub F34 [34,60]:=Kd.sub_iso _ (Kd.sub_pair (Kd.sub_const _ zq50) (Kd.sub_pair (Kd.sub_const _ zq50) (Kd.sub_pair (Kd.sub_const _ zq50) (Kd.sub_pair (Kd.sub_const _ zq50) (Kd.sub_slice 34 zq50 Kd.sub_id)))))
theorem sz34 : ∀ n,(Kd.upto F34 5 [34,60] n).sz=5:=Kd.upto_sz (fun _=>rfl)
def k34 : Kd S34:=Kd.fix F34 5 [34,60] sz34 (Kd.upto_E sub34)
theorem k34_open {w : World} {x:S34} {cs:List Value} (h:k34.K w x cs):∃ A3 c3 A4 c4,cs=[.int .i64 x.f0, .int .i64 x.f1, .int .i64 x.f2, .slice A3 x.f3.length c3, .slice A4 x.f4.length c4]∧x.f3.length≤c3∧k60.C w A3 x.f3.length x.f3∧x.f4.length≤c4∧k34.C w A4 x.f4.length x.f4:=by
 obtain ⟨n,h⟩:=h;cases n with
 | zero=>exact h.elim
 | succ n =>
  obtain ⟨_,_,rfl,rfl,⟨_,_,rfl,rfl,⟨_,_,rfl,rfl,⟨_,_,rfl,⟨A3,c3,rfl,l3,g3⟩,⟨A4,c4,rfl,l4,g4⟩⟩⟩⟩⟩:=h;exact ⟨A3,c3,A4,c4,rfl,l3,g3,l4,Kd.fix_C g4⟩
theorem k34_mkM (w : World) (base:Nat) (ok:Nat→Prop) (x:S34) {v3:Value} (g3:k60.R 60 w base ok v3 x.f3) {v4:Value} (g4:k34.R 34 w base ok v4 x.f4):k34.M w base ok x [.int .i64 x.f0, .int .i64 x.f1, .int .i64 x.f2,v3,v4]:=by
 obtain ⟨n4,q4⟩:=Kd.fix_R_back mono34 g4;have r4:=Kd.upto_R_le mono34 sz34 (show n4≤n4 by omega) q4;exact ⟨n4+1,⟨[.int .i64 x.f0],[.int .i64 x.f1, .int .i64 x.f2,v3,v4],rfl,rfl,⟨[.int .i64 x.f1],[.int .i64 x.f2,v3,v4],rfl,rfl,⟨[.int .i64 x.f2],[v3,v4],rfl,rfl,⟨[v3],[v4],rfl,⟨v3,rfl,g3⟩,⟨v4,rfl,r4⟩⟩⟩⟩⟩⟩
def j2k (xs : List S34) (i:Int):S34:=xs.getD i.toNat z34
theorem at_T34 {w : World} {A:Option Addr} {n:Nat} {xs:List S34} (h:Kd.C k34 w A n xs) (i:Int) (h0:0≤i) (h1:i<n):∃ ad A3 c3 A4 c4,A=some ad∧w.cell? (ad.add (i.toNat*5))=some (.int .i64 (j2k xs i).f0)∧w.cell? ⟨(ad.add (i.toNat*5)).block,(ad.add (i.toNat*5)).off+1,none⟩=some (.int .i64 (j2k xs i).f1)∧w.cell? ⟨(ad.add (i.toNat*5)).block,(ad.add (i.toNat*5)).off+2,none⟩=some (.int .i64 (j2k xs i).f2)∧w.cell? ⟨(ad.add (i.toNat*5)).block,(ad.add (i.toNat*5)).off+3,none⟩=some (.slice A3 (j2k xs i).f3.length c3)∧w.cell? ⟨(ad.add (i.toNat*5)).block,(ad.add (i.toNat*5)).off+4,none⟩=some (.slice A4 (j2k xs i).f4.length c4)∧(j2k xs i).f3.length≤c3∧k60.C w A3 (j2k xs i).f3.length (j2k xs i).f3∧(j2k xs i).f4.length≤c4∧k34.C w A4 (j2k xs i).f4.length (j2k xs i).f4:=by
 obtain ⟨ad,c,e,_,hK,hc0⟩:=Kd.C_get h z34 i h0 h1;have hc:∀ j u,c[j]? = some u→w.cell? (ad.add (i.toNat*5+j))=some u:=hc0;obtain ⟨A3,c3,A4,c4,rfl,l3,g3,l4,g4⟩:=k34_open hK;exact ⟨ad,A3,c3,A4,c4,e,hc 0 _ rfl,by rw [← add_field _ _ 1 (by omega)];exact hc 1 _ rfl,by rw [← add_field _ _ 2 (by omega)];exact hc 2 _ rfl,by rw [← add_field _ _ 3 (by omega)];exact hc 3 _ rfl,by rw [← add_field _ _ 4 (by omega)];exact hc 4 _ rfl,l3,g3,l4,g4⟩
theorem box_store {P : Program} {ops:Array Oper} {rest:List Oper} {o:Oper} {a:Act} {Q:Exit→Act→World→Prop} {W:World} (hgd:o.guard=none) (hN:o.dst=none) {t:TypeId} {p x:Operand} (ho:o.op = .store t p x) {g:Nat} {e:TypeId} {cur new:Array Value}
 (haddr:a.eval p = .pointer (some ⟨g,0,none⟩)) (hx:a.eval x = .agg new) (hb:W.heap[g]? = some (.cells cur e (0,0))) (hsz:new.size=cur.size) (ht:(P.info? t).map (·.size)=some new.toList.length) (h1:∀ q ∈ new.toList,q.oneCell'=true)
 (h:∀ w1,w1.heap[g]? = some (.cells new e (0,0))→KeepBut W w1 g none→(∀ B,B≤g→Below B W w1)→wpList P ops Q rest a w1):wpList P ops Q (o :: rest) a W:=by
 have hl:new.toList.length=cur.size:=by rw [Array.length_toList];exact hsz
 refine wpList_plain hgd fun K hK=>?_
 have hrun:(Instr.storeAt t (.pointer (some ⟨g,0,none⟩)) (.agg new)).run P W = .ok () (W.setCells g 0 new.toList):=run_store_run t (.agg new) new.toList hb rfl ht (by omega) h1;unfold Oper.wp execOp;simp only [ho,haddr,hx,Sem.run_bind,Sem.run_pure,Result.andThen_ok,hrun]
 show K (a.put o.dst undef) _
 rw [hN];obtain ⟨s1,s2,s3,s4⟩:=setCells_same g new.toList 0 W;obtain ⟨cur',c1,c2,c3⟩:=setCells_row new.toList 0 W cur hb (by omega)
 have e1:cur'=new:=by
  apply Array.toList_inj.mp;rw [c3];simp [hl]
 subst e1;exact hK a _ (h _ c1 ⟨by rw [s4];exact Nat.le_refl _,fun i _ hi _=>setCells_far _ _ i hi⟩ (fun B hB=>⟨s1,s2,s3,by rw [s4];exact Nat.le_refl _,fun k hk=>setCells_far _ _ k (by omega)⟩))
theorem j3k {B : Nat} {w w':World} (h:Below B w w') {a:Addr} (ha:a.block<B):w'.cell? a=w.cell? a:=by unfold World.cell?; rw [h.block a.block ha]
theorem append_str_at {P : Program} (W:World) (base:Nat) (t u ty e:TypeId) (i:TypeInfo) (ht:P.underlying t=some (.slice e)) (hu:P.underlying u=some .string) (hi:P.info? e=some i) (hz:i.zero=some (.int .u8 0)) (hsize:i.size=1) (hby:i.bytes=1)
 (v:Value) (n:Nat) (xs:List Value) (hown:W.ownsRow base e 1 v n xs) (s:ByteArray) (hbytes:n+s.size≤140737488355328) (v1:Value) (w1:World)
 (hr:(Builtin.append_ #[t,u] ty #[v, .string s]).run P W = .ok v1 w1):v1.ownBlock=v.ownBlock∨∃ b,v1.ownBlock=some b∧W.heap.size≤b:=by
 have hxl:xs.length=n:=by simpa using hown.1
 rcases hown.2 with ⟨rfl,rfl⟩|⟨g,cap,cur,rfl,hbg,hg,hnc,hcm,hcs,htake⟩
 ·by_cases hm:s.size=0
  rotate_left
  ·rw [run_append_nil_string (P:=P) W t u ty e i (.int .u8 0) ht hu hi hz s (by omega) (by omega) (by rw [hby];omega)] at hr;injection hr with e1 e2
   subst e1;exact .inr ⟨W.heap.size,rfl,Nat.le_refl _⟩
  have hf:=Lib.run_firstCells_string (P:=P) W 1 s;rw [hm] at hf
  have h2:(Builtin.append_ #[t,u] ty #[.slice none 0 0, .string s]).run P W = .ok (.slice none 0 0) W:=by
   simp [Builtin.append_,run_underlying ht,run_underlying hu,sizeOf,typeInfo,hi,hsize,Builtin.lenOf,hm,hf]
  rw [h2] at hr;injection hr with e1 e2
  subst e1;exact .inl rfl
 ·by_cases hroom:n+s.size≤cap
  ·have hcs':cur.size=cap:=by simpa using hcs
   rw [Lib.run_append_room_string (P:=P) W t u ty e i ht hu hi hsize g n cap cur hg s hroom (by omega)] at hr;injection hr with e1 e2
   subst e1;exact .inl rfl
  have holds:∀ j u,xs[j]? = some u→W.cell? ((⟨g,0,none⟩:Addr).add j)=some u:=hown.cells (g:=g) rfl;rw [Lib.run_append_grow_string (P:=P) W t u ty e i (.int .u8 0) ht hu hi hz ⟨g,0,none⟩ n cap xs (by rw [hsize];simpa using hxl) holds s (by omega) (by omega) (by rw [hby];exact growslice_fits (by omega) (by omega))] at hr;injection hr with e1 e2
  subst e1;exact .inr ⟨W.heap.size,rfl,Nat.le_refl _⟩
theorem R_append_str {P : Program} {ops:Array Oper} {rest:List Oper} {o:Oper} {a:Act} {Q:Exit→Act→World→Prop} {w0 W:World} (base:Nat) (hgd:o.guard=none) (s x:Operand) (t u e:TypeId)
 (ho:o.op = .call { callee := .builtin .append,args:=#[s,x],argTypes:=#[t,u] })
 (ht:P.underlying t=some (.slice e)) (hu:P.underlying u=some .string) (hinfo:(P.info? e).map (fun i=>(i.zero,i.size,i.bytes))=some (some (.int .u8 0),1,1))
 (v:Value) (xs:List Int) (y:ByteArray) (ok:Nat→Prop) (hs:a.eval s=v) (hx:a.eval x = .string y) (hfresh:∀ k,W.heap.size≤k→ok k)
 (HO:(Kd.int .u8).R e W base ok v xs) (HB:Below base w0 W) (hbase:base≤W.heap.size) (hl:xs.length+y.size≤140737488355328)
 (h:∀ v1 w1,(Kd.int .u8).R e w1 base ok v1 (xs++bytesOf y)→Below base w0 w1→W.grownBy w1 v.ownBlock→(v1.ownBlock=v.ownBlock∨∃ b,v1.ownBlock=some b∧W.heap.size≤b)→wpList P ops Q rest (a.put o.dst v1) w1) :
 wpList P ops Q (o :: rest) a W:=by
 have hown:W.ownsRow base e 1 v xs.length (nums .u8 xs):=Kd.own_of_R HO;obtain ⟨i0,hi,hzz⟩:=Option.map_eq_some_iff.1 hinfo;simp only [Prod.mk.injEq] at hzz;obtain ⟨hz0,hz1,hz2⟩:=hzz;refine wpList_plain hgd fun K hK=>?_
 obtain ⟨v',w',hr,h2,h3,_⟩:=Lib.run_append_own_string (P:=P) W base t u o.type e i0 ht hu hi hz0 hz1 hz2 v xs.length (nums .u8 xs) hown y (by simp only [maxLen];omega) hl hbase;have hat:=append_str_at (P:=P) W base t u o.type e i0 ht hu hi hz0 hz1 hz2 v xs.length (nums .u8 xs) hown y hl v' w' hr;have hl2:(xs++bytesOf y).length=xs.length+y.size:=by rw [List.length_append,bytesOf_length]
 have hc:nums .u8 (xs++bytesOf y)=nums .u8 xs++Lib.strCells y:=by
  rw [nums_append]
  congr 1
  simp [nums,bytesOf,Lib.strCells]
 have hR:(Kd.int .u8).R e w' base ok v' (xs++bytesOf y):=by
  refine Kd.R_of_own (by rw [hl2,show encs (Value.int .u8) (xs++bytesOf y)=nums .u8 (xs++bytesOf y) from rfl,hc];exact h2) fun k hk=>?_
  rcases hat with h4|⟨b,h4,h5⟩
  ·exact HO.1 k (h4.symm.trans hk)
  ·rw [h4] at hk;injection hk with hk
   subst hk;exact hfresh _ h5
 unfold Oper.wp execOp;simp only [ho,resolve,invoke,builtin,Sem.run_bind,Sem.run_pure,Result.andThen_ok,List.map_toArray,List.map_cons,List.map_nil,hs,hx,hr];exact hK _ _ (h v' w' hR (HB.grown h3 hbase (own_base hown)) h3 hat)
end Go.Proofs.Ytchhndbekjgimaa.S
end
section
namespace Go.Proofs.Ytchhndbekjgimaa.S
open Go.RowKit Go.Proofs.YtchhndbekjgimaaW.PrintWords Go.Proofs.YtchhndbekjgimaaW.PrintLast Go.Proofs.YtchhndbekjgimaaW.PrintMore
attribute [local go_sem] max2_int min2_int max_two min_two max_three min_three max_four min_four
set_option linter.unusedVariables false
set_option linter.unusedSimpArgs false
def cB (c : Int):Int:=if c=10∨c=9∨c=13 then c else 32
def lnL : List Int→List Int × List Int
  | []=>([],[])
  | c :: r=>if c=10 then ([10],r) else (cB c :: (lnL r).1,(lnL r).2)
def bkL : List Int→Option (List Int × List Int)
  | []=>none
  | [_]=>none
  | c :: d :: r=>if c=42∧d=47 then some ([32,32],r) else (bkL (d :: r)).map fun p=>(cB c :: p.1,p.2)
def stL : Bool → List Int→List Int × List Int
  | _,[]=>([],[])
  | o,c :: r=>if c=34∧o=false then ([34],r) else (c :: (stL (decide (c=92) && !o) r).1,(stL (decide (c=92) && !o) r).2)
def cmL : List Int→List Int
  | []=>[]
  | c :: r=>if c≤32 then c :: cmL r else if c=44 then 32 :: r else c :: r
def prL : Nat → List Int→List Int→Option (List Int)
  | 0,_,_=>none
  | _+1,[],a=>some a.reverse
  | n+1,c :: r,a =>
    if c=47∧r.head? = some 47 then prL n (lnL r.tail).2 ((lnL r.tail).1.reverse++32 :: 32 :: a)
    else if c=47∧r.head? = some 42 then (bkL r.tail).bind fun p=>prL n p.2 (p.1.reverse++32 :: 32 :: a)
    else if c=34 then prL n (stL false r).2 ((stL false r).1.reverse++34 :: a)
    else if c=125∨c=93 then prL n r (c :: cmL a)
    else prL n r (c :: a)
theorem lnL_len : ∀ r:List Int,(lnL r).1.length+(lnL r).2.length=r.length
 | []=>rfl
 | c :: r=>by
  rw [lnL];split
  ·simp;omega
  ·have:=lnL_len r;simp only [List.length_cons];omega
theorem bkL_len : ∀ (r:List Int) (p:List Int × List Int),bkL r=some p→p.1.length+p.2.length=r.length
 | [],_,h=>by simp [bkL] at h
 | [_],_,h=>by simp [bkL] at h
 | c :: d :: r,p,h=>by
  rw [bkL] at h
  split at h
  ·cases h
   simp;omega
  ·obtain ⟨q,hq,rfl⟩:=Option.map_eq_some_iff.mp h;have:=bkL_len (d :: r) q hq;simp only [List.length_cons] at this ⊢;omega
theorem stL_len : ∀ (r:List Int) (o:Bool),(stL o r).1.length+(stL o r).2.length=r.length
 | [],_=>rfl
 | c :: r,o=>by
  rw [stL];split
  ·simp;omega
  ·have:=stL_len r (decide (c=92) && !o);simp only [List.length_cons];omega
theorem prL_cases {k : Nat} {c:Int} {r a U:List Int} (h:prL k (c :: r) a=some U):∃ k',
 (c=47∧∃ r',r=47 :: r'∧prL k' (lnL r').2 ((lnL r').1.reverse++32 :: 32 :: a)=some U) ∨
 (c=47∧∃ r' p,r=42 :: r'∧bkL r'=some p∧prL k' p.2 (p.1.reverse++32 :: 32 :: a)=some U) ∨
 (c=34∧prL k' (stL false r).2 ((stL false r).1.reverse++34 :: a)=some U) ∨
 ((c=125∨c=93)∧prL k' r (c :: cmL a)=some U) ∨
 (c≠34∧c≠125∧c≠93∧(c=47→∀ d r',r=d :: r'→d≠47∧d≠42)∧prL k' r (c :: a)=some U):=by
 cases k with
 | zero=>simp [prL] at h
 | succ k =>
  refine ⟨k,?_⟩;rw [prL] at h
  split at h
  ·rename_i hc;obtain ⟨h1,h2⟩:=hc;cases r with
   | nil=>simp at h2
   | cons d r =>
    simp only [List.head?_cons,Option.some.injEq] at h2;subst h2;exact .inl ⟨h1,r,rfl,h⟩
  split at h
  ·rename_i h0 hc;obtain ⟨h1,h2⟩:=hc;cases r with
   | nil=>simp at h2
   | cons d r =>
    simp only [List.head?_cons,Option.some.injEq] at h2;subst h2;obtain ⟨p,hp,h⟩:=Option.bind_eq_some_iff.mp h;exact .inr (.inl ⟨h1,r,p,rfl,hp,h⟩)
  split at h
  ·rename_i hc;exact .inr (.inr (.inl ⟨hc,h⟩))
  split at h
  ·rename_i hc;exact .inr (.inr (.inr (.inl ⟨hc,h⟩)))
  ·rename_i h1 h2 h3 h4;refine .inr (.inr (.inr (.inr ⟨h3,fun e=>h4 (.inl e),fun e=>h4 (.inr e),fun e d r' hr=>⟨fun hd=>h1 ⟨e,by rw [hr,hd];rfl⟩,fun hd=>h2 ⟨e,by rw [hr,hd];rfl⟩⟩,h⟩)))
def bk (l : List Int):Nat→Nat
  | 0=>0
  | i+1=>if l.getD i 0=92 then bk l i+1 else 0
theorem bk_no {l : List Int} {i:Nat} (h:l.getD i 0≠92):bk l (i+1)=0:=if_neg h
theorem bk_yes {l : List Int} {i:Nat} (h:l.getD i 0=92):bk l (i+1)=bk l i+1:=if_pos h
theorem drop_inv {l : List Int} {i:Nat} {c:Int} {r:List Int} (h:l.drop i=c :: r):i<l.length∧l.getD i 0=c∧l.drop (i+1)=r:=by
 have hl:i<l.length:=by
  have:=congrArg List.length h;simp only [List.length_drop,List.length_cons] at this;omega
 have e:=List.drop_eq_getElem_cons hl;rw [h] at e;obtain ⟨h1,h2⟩:=List.cons.inj e;exact ⟨hl,by rw [List.getD_eq_getElem?_getD,List.getElem?_eq_getElem hl];exact h1.symm,h2.symm⟩
theorem bkL_cases {m : List Int} {p:List Int × List Int} (h:bkL m=some p):∃ c d rr,m=c :: d :: rr∧((c=42∧d=47∧p=([32,32],rr))∨(¬ (c=42∧d=47)∧∃ q,bkL (d :: rr)=some q∧p=(cB c :: q.1,q.2))):=by
 match m,h with
 | [],h=>simp [bkL] at h
 | [_],h=>simp [bkL] at h
 | c :: d :: rr,h =>
  refine ⟨c,d,rr,rfl,?_⟩;rw [bkL] at h
  split at h
  ·rename_i hc;cases h;exact .inl ⟨hc.1,hc.2,rfl⟩
  ·rename_i hc;obtain ⟨q,hq,e⟩:=Option.map_eq_some_iff.mp h;exact .inr ⟨hc,q,hq,e.symm⟩
theorem getD_app {acc : List Int} {x:Int} {j:Nat} (h:j<acc.length):(acc++[x]).getD j 0=acc.getD j 0:=by
 rw [List.getD_eq_getElem?_getD,List.getD_eq_getElem?_getD,List.getElem?_append_left h]
theorem getD_end (acc : List Int) (x:Int):(acc++[x]).getD acc.length 0=x:=by
 rw [List.getD_eq_getElem?_getD,List.getElem?_concat_length];rfl
theorem bk_par {l : List Int} {i:Nat} {x:Int} (h:l.getD i 0=x):decide (bk l (i+1) % 2=1)=(decide (x=92) && !decide (bk l i % 2=1)):=by
 by_cases hx:x=92
 rotate_left
 ·rw [bk_no (by rw [h];exact hx),decide_eq_false hx];rfl
 rw [bk_yes (h.trans hx),hx];by_cases hb:bk l i % 2=1
 rotate_left
 ·rw [decide_eq_false hb,decide_eq_true (by omega)];rfl
 rw [decide_eq_true hb,decide_eq_false (by omega)];rfl
theorem tmod_odd (m : Nat) (h:m % 2=1):Int.tmod (-(m:Int)) 2 = -1:=by
 rw [Int.neg_tmod,Int.tmod_eq_emod_of_nonneg (by omega)];omega
theorem tmod_even (m : Nat) (h:m % 2=0):Int.tmod (-(m:Int)) 2=0:=by
 rw [Int.neg_tmod,Int.tmod_eq_emod_of_nonneg (by omega)];omega
theorem cmL_low : ∀ (p r:List Int),(∀ z ∈ p,z≤32)→cmL (p++r)=p++cmL r
 | [],_,_=>rfl
 | c :: p,r,h=>by
  rw [List.cons_append,cmL,if_pos (h c (by simp)),cmL_low p r (fun z hz=>h z (List.mem_cons_of_mem _ hz)),List.cons_append]
theorem rev_split {acc pre post:List Int} {y:Int} (h:acc.reverse=pre++y :: post):acc=post.reverse++y :: pre.reverse:=by
 have:=congrArg List.reverse h
 simpa using this
theorem rev_getD {acc pre post:List Int} {y:Int} (h:acc.reverse=pre++y :: post):post.length<acc.length∧acc.getD post.length 0=y:=by
 have e:=rev_split h;subst e;refine ⟨by simp,?_⟩;rw [List.getD_eq_getElem?_getD,List.getElem?_append_right (by simp)];simp
theorem rev_set {acc pre post:List Int} {y L:Int} (h:acc.reverse=pre++y :: post):((acc++[L]).set post.length 32).reverse=L :: (pre++32 :: post):=by
 have e:=rev_split h;subst e;rw [List.append_assoc,List.set_append_right _ _ (by simp)];simp
structure WR (ST : World→List Int→Value→Prop) (b:Nat) (l:List Int):Prop where
  app:∀ (W:World) (acc xs:List Int) (v:Value) (m:Nat) (ty:TypeId),ST W acc v→xs.length=m→0<m→acc.length+m≤l.length→∃ v1 w1,(Builtin.append_ #[38,38] ty #[v, .slice (some ⟨W.heap.size,0,none⟩) m m]).run Try.prog (W.alloc (.cells (nums .u8 xs).toArray 5)) = .ok v1 w1∧ST w1 (acc++xs) v1
  src:∀ (W:World) (acc:List Int) (v:Value) (j:Nat),ST W acc v→j<l.length→(acc.length≤j∨acc.getD j 0=l.getD j 0)→W.cell? ⟨b,j,none⟩=some (.int .u8 (l.getD j 0))
  val:∀ (W:World) (acc:List Int) (v:Value),ST W acc v→∃ A c,v = .slice A acc.length c∧∀ j,j<acc.length→∃ g,A=some ⟨g,0,none⟩∧W.cell? ⟨g,j,none⟩=some (.int .u8 (acc.getD j 0))∧W.frozen? ⟨g,j,none⟩=false∧ST (W.setCell ⟨g,j,none⟩ (.int .u8 32)) (acc.set j 32) v
section
variable {P : Program} {ops:Array Oper} {rest:List Oper} {o:Oper} {a:Act} {Q:Exit→Act→World→Prop} {W:World} {ST:World→List Int→Value→Prop} {b:Nat} {l:List Int}
theorem G_append (hgd : o.guard=none) (s x:Operand) (ho:o.op = .call { callee := .builtin .append,args:=#[s,x],argTypes:=#[38,38] }) (H:WR ST b l)
 (v:Value) (acc xs:List Int) (cs:Array Value) (m:Nat) (hcs:cs=(nums .u8 xs).toArray) (hm:xs.length=m) (hm0:0<m) (hs:a.eval s=v) (hx:a.eval x = .slice (some ⟨W.heap.size,0,none⟩) m m) (hST:ST W acc v) (hl:acc.length+m≤l.length)
 (h:∀ v1 w1,ST w1 (acc++xs) v1→wpList Try.prog ops Q rest (a.put o.dst v1) w1):wpList Try.prog ops Q (o :: rest) a (W.alloc (.cells cs 5)):=by
 obtain ⟨v1,w1,hr,h1⟩:=H.app W acc xs v m o.type hST hm hm0 hl;subst hcs;refine wpList_plain hgd fun K hK=>?_
 unfold Oper.wp execOp;simp only [ho,resolve,invoke,builtin,Sem.run_bind,Sem.run_pure,Result.andThen_ok,List.map_toArray,List.map_cons,List.map_nil,hs,hx,hr];exact hK _ _ (h v1 w1 h1)
end
theorem src_u8 {l : List Int} (h:∀ x ∈ l,0≤x∧x≤255) {i:Nat} (hi:i<l.length):∃ x:Nat,x<256∧l.getD i 0=(x:Int)∧l.drop i=(x:Int) :: l.drop (i+1):=by
 have e:=List.drop_eq_getElem_cons hi;have hg:l.getD i 0=l[i]:=by rw [List.getD_eq_getElem?_getD,List.getElem?_eq_getElem hi];rfl
 have hr:=h l[i] (List.getElem_mem hi);obtain ⟨x,hx⟩:=Int.eq_ofNat_of_zero_le hr.1;rw [hx] at e;exact ⟨x,by omega,by rw [hg,hx],e⟩
end Go.Proofs.Ytchhndbekjgimaa.S
end
section
namespace Go.Proofs.Ytchhndbekjgimaa.S
open Go.RowKit Go.Proofs.YtchhndbekjgimaaW.PrintWords Go.Proofs.YtchhndbekjgimaaW.PrintLast Go.Proofs.YtchhndbekjgimaaW.PrintMore
attribute [local go_sem] max2_int min2_int max_two min_two max_three min_three max_four min_four
set_option linter.unusedVariables false
set_option linter.unusedSimpArgs false
set_option maxHeartbeats 16000000 in
set_option maxRecDepth 100000 in
theorem prspec_calls (ST : World→List Int→Value→Prop) (b c:Nat) (l U:List Int) (k:Nat) (dv v0:Value) (w:World) (hW:WR ST b l) (hu:∀ x ∈ l,0≤x∧x≤255) (hm:l.length≤2147483647) (hF:prL k l []=some U)
 (sl:∀ W,(Instr.slice 38 dv none (some (.int .i64 0)) none).run Try.prog W = .ok v0 W) (h0:ST w [] v0) :
 Calls Try.prog 26 #[.slice (some ⟨b,0,none⟩) l.length c,dv] w fun e w'=>∃ v,e = .returned v∧ST w' U v:=by
 have HW:=mk0 hW;have HU:=mk0 hu;have HF:=mk0 hF;have H0:=mk0 h0;clear hW hu hF h0;go_enter Try.func26,Try.ntmps26;go_wp2_with fail
 go_loopg [1,5] (l.length+1) (fun kq v1 v5 w'=>∃ (i:Nat) (acc:List Int) (kf:Nat),v5 = .int .i64 (i:Int)∧Aside0 (ST w' acc v1)∧Aside0 ((i≤l.length→acc.length=i)∧acc.length≤l.length∧i≤l.length+1∧prL kf (l.drop i) acc.reverse=some U)∧kq=l.length+1 - i)
 case atStart=>exact ⟨0,[],k,rfl,H0,⟨fun _=>rfl,Nat.zero_le _,Nat.zero_le _,HF.out⟩,rfl⟩
 case round =>
  clear H0 HF sl;obtain ⟨i,acc,kf,rfl,HS,HJ,hk⟩:=hrel;have hib:=HJ.out.2.2.1;by_cases hlt:i<l.length
  rotate_left
  ·have t1:decide ((i:Int)<(l.length:Int))=false:=decide_eq_false (by omega);have hp:=HJ.out.2.2.2;rw [List.drop_of_length_le (by omega)] at hp
   have hU:acc=U:=by
    cases kf with
    | zero=>simp [prL] at hp
    | succ kf =>
     rw [prL,Option.some.injEq,List.reverse_reverse] at hp;exact hp
   subst hU;clear hp HJ;go_wp2;go_ret;exact ⟨_,rfl,HS.out⟩
  have hal:acc.length=i:=HJ.out.1 (by omega);have t1:decide ((i:Int)<(l.length:Int))=true:=decide_eq_true (by omega);obtain ⟨x,hx,hg,hd⟩:=src_u8 HU.out hlt;have hp:=HJ.out.2.2.2;rw [hd] at hp;have hcx:=HW.out.src _ _ _ i HS.out hlt (.inl (by omega));rw [hg] at hcx;have HG:=mk0 hg;have HD:=mk0 hd;have HAL:=mk0 hal;clear hg hd hal HJ;obtain ⟨kg,hc⟩:=prL_cases hp;clear hp;go_upto_block 1 with (fail)
  go_cut [1,5] (fun v1 v5 wc=>∃ (i2:Nat) (acc2:List Int),v5 = .int .i64 (i2:Int)∧Aside0 (ST wc acc2 v1)∧Aside0 ((i2+1≤l.length→acc2.length=i2+1)∧acc2.length≤l.length∧i≤i2∧i2≤l.length∧prL kg (l.drop (i2+1)) acc2.reverse=some U))
  case rest =>
   clear hc HS hcx;obtain ⟨i2,acc2,rfl,HS3,HJ3⟩:=hcut;have hi2:=HJ3.out.2.2.1;have hi3:=HJ3.out.2.2.2.1;go_wp2;go_roundg (l.length+1 - (i2+1))
   case measure=>omega
   case rel=>exact ⟨i2+1,acc2,kg,by go_num,HS3,⟨HJ3.out.1,HJ3.out.2.1,by omega,HJ3.out.2.2.2.2⟩,rfl⟩
  rcases hc with ⟨hx1,r,hr,hp⟩|⟨hx1,r,p,hr,hb,hp⟩|⟨hx1,hp⟩|⟨hx1,hp⟩|⟨h34,h125,h93,h47,hp⟩
  ·as_aux_lemma =>
   obtain ⟨hl1,hg1,hr1⟩:=drop_inv hr;have hcy:=HW.out.src _ _ _ (i+1) HS.out hl1 (.inl (by have:=HAL.out;omega));rw [hg1] at hcy;rw [hx1] at hcx;have hal:=HAL.out;have t2:decide ((i:Int)<(l.length:Int) - 1)=true:=decide_eq_true (by omega);obtain ⟨Af,hAf⟩:∃ Af,Af=acc++[32,32]++(lnL r).1:=⟨_,rfl⟩;obtain ⟨Rf,hRf⟩:∃ Rf,Rf=(lnL r).2:=⟨_,rfl⟩;have hp2:prL kg Rf Af.reverse=some U:=by rw [hRf,hAf];simpa using hp
   have hAl:Af.length+Rf.length=l.length:=by
    have h1:=lnL_len r;have h2:=congrArg List.length hr1;simp only [List.length_drop] at h2;rw [hAf,hRf];simp only [List.length_append,List.length_cons,List.length_nil];omega
   have hA1:acc++[32,32]++(lnL (l.drop (i+2))).1=Af∧(lnL (l.drop (i+2))).2=Rf:=by rw [hr1,hAf,hRf];exact ⟨rfl,rfl⟩
   have HP:=mk0 hp2;have HA:=mk0 hA1;have HAl:=mk0 hAl;clear hx1 hx hp hp2 hA1 hAf hRf hr hr1 hg1 hAl;go_upto_block 2 with (first|((with_reducible refine j1z (b := .append) (xs:=#[.tmp 32, .tmp 33]) rfl ?_);at_builtin;refine G_append rfl (.tmp 32) (.tmp 33) rfl HW.out _ acc [32,32] _ 2 zq61 rfl zq50 rfl zq62 HS.out zq24 ?_;intro v1_ w1_ hS_;have HSN:=mk0 hS_;clear hS_))
   go_cut [1,5] (fun v1 v5 wc=>∃ i2:Nat,v5 = .int .i64 (i2:Int)∧Aside0 (ST wc Af v1)∧Aside0 (l.drop (i2+1)=Rf∧(i2+1≤l.length→Af.length=i2+1)∧Af.length≤l.length∧i+1≤i2∧i2≤l.length))
   case first =>
    go_wp2_with fail
    go_loopg [1,5] (l.length - (i+2)) (fun kq v1 v5 w'=>∃ (i2:Nat) (acc2:List Int),v5 = .int .i64 (i2:Int)∧Aside0 (ST w' acc2 v1)∧Aside0 (acc2.length=i2∧i+2≤i2∧i2≤l.length∧acc2++(lnL (l.drop i2)).1=Af∧(lnL (l.drop i2)).2=Rf)∧kq=l.length - i2)
    case atStart=>exact ⟨i+2,acc++[32,32],by go_num,HSN,⟨by simp [HAL.out],by omega,by omega,HA.out.1,HA.out.2⟩,rfl⟩
    case round =>
     clear HSN hcx hcy HA HS;obtain ⟨i2,acc2,rfl,HS2,HJ2,hk2⟩:=hrel;have hi2:=HJ2.out.2.1;have hi3:=HJ2.out.2.2.1;by_cases hlt2:i2<l.length
     rotate_left
     ·have s1:decide ((i2:Int)<(l.length:Int))=false:=decide_eq_false (by omega);have hA1:=HJ2.out.2.2.2;rw [List.drop_of_length_le (by omega)] at hA1;have hal2:=HJ2.out.1;have HA1:=mk0 hA1;clear hA1;go_wp2;go_meet
      case rel =>
       have e1:=HA1.out.1;have e2:=HA1.out.2;simp only [lnL,List.append_nil] at e1 e2;exact ⟨i2,rfl,⟨by rw [← e1];exact HS2.out⟩,⟨by rw [← e2,List.drop_of_length_le (by omega)],fun h=>by omega,by rw [← e1];omega,by omega,hi3⟩⟩
     have s1:decide ((i2:Int)<(l.length:Int))=true:=decide_eq_true (by omega);obtain ⟨y,hy,hg2,hd2⟩:=src_u8 HU.out hlt2;have hcz:=HW.out.src _ _ _ i2 HS2.out hlt2 (.inl (by have:=HJ2.out.1;omega));rw [hg2] at hcz;have hal2:=HJ2.out.1;have hA1:=HJ2.out.2.2.2;rw [hd2,lnL] at hA1;by_cases h10:(y:Int)=10
     ·rw [if_pos h10] at hA1;rw [h10] at hcz;have HA1:=mk0 hA1;clear hA1 hg2 hd2 h10 hy;go_wp2_with (first|((with_reducible refine j1z (b := .append) (xs:=#[.tmp 48, .tmp 49]) rfl ?_);at_builtin;refine G_append rfl (.tmp 48) (.tmp 49) rfl HW.out _ acc2 [10] _ 1 zq61 rfl zq50 rfl zq62 HS2.out zq24 ?_;intro v1_ w1_ hS_;have HS2N:=mk0 hS_;clear hS_))
      go_meet
      case rel =>
       have e1:=HA1.out.1;have e2:=HA1.out.2;have e3:Af.length=i2+1:=by rw [← e1];simp [hal2]
       exact ⟨i2,rfl,⟨by rw [← e1];exact HS2N.out⟩,⟨e2,fun _=>e3,by omega,by omega,by omega⟩⟩
     rw [if_neg h10] at hA1;have e10:((y:Int) == 10)=false:=beq_eq_false_iff_ne.mpr h10;have d10:decide ((y:Int)=10)=false:=decide_eq_false h10;by_cases h9:(y:Int)=9∨(y:Int)=13
     rotate_left
     ·have hcb:cB (y:Int)=32:=by unfold cB;rw [if_neg (fun h=>by rcases h with h|h;exact h10 h;exact h9 h)]
      rw [hcb] at hA1;have e9:((y:Int) == 9)=false:=beq_eq_false_iff_ne.mpr (fun h=>h9 (.inl h));have d9:decide ((y:Int)=9)=false:=decide_eq_false (fun h=>h9 (.inl h));have e13:((y:Int) == 13)=false:=beq_eq_false_iff_ne.mpr (fun h=>h9 (.inr h));have d13:decide ((y:Int)=13)=false:=decide_eq_false (fun h=>h9 (.inr h));have HA1:=mk0 hA1;clear hA1 hd2 h10 hy hcb h9 hg2;go_wp2_with (first|((with_reducible refine j1z (b := .append) (xs:=#[.tmp 70, .tmp 71]) rfl ?_);at_builtin;refine G_append rfl (.tmp 70) (.tmp 71) rfl HW.out _ acc2 [32] _ 1 zq61 rfl zq50 rfl zq62 HS2.out zq24 ?_;intro v1_ w1_ hS_;have HS2N:=mk0 hS_;clear hS_))
      go_roundg (l.length - (i2+1))
      case measure=>omega
      case rel=>exact ⟨i2+1,acc2++[32],by go_num,HS2N,⟨by simp [hal2],by omega,by omega,by rw [← HA1.out.1];simp,HA1.out.2⟩,rfl⟩
     have hcb:cB (y:Int)=(y:Int):=by unfold cB;rw [if_pos (.inr h9)]
     rw [hcb] at hA1;have HA1:=mk0 hA1;clear hA1 hd2 h10 hy hcb;rcases h9 with h9|h9
     ·rw [h9] at hcz HA1;clear e10 d10 h9 hg2;go_wp2_with (first|((with_reducible refine j1z (b := .append) (xs:=#[.tmp 63, .tmp 68]) rfl ?_);at_builtin;refine G_append rfl (.tmp 63) (.tmp 68) rfl HW.out _ acc2 [9] _ 1 zq61 rfl zq50 rfl zq62 HS2.out zq24 ?_;intro v1_ w1_ hS_;have HS2N:=mk0 hS_;clear hS_))
      go_roundg (l.length - (i2+1))
      case measure=>omega
      case rel=>exact ⟨i2+1,acc2++[9],by go_num,HS2N,⟨by simp [hal2],by omega,by omega,by rw [← HA1.out.1];simp,HA1.out.2⟩,rfl⟩
     rw [h9] at hcz HA1;clear e10 d10 h9 hg2;go_wp2_with (first|((with_reducible refine j1z (b := .append) (xs:=#[.tmp 63, .tmp 68]) rfl ?_);at_builtin;refine G_append rfl (.tmp 63) (.tmp 68) rfl HW.out _ acc2 [13] _ 1 zq61 rfl zq50 rfl zq62 HS2.out zq24 ?_;intro v1_ w1_ hS_;have HS2N:=mk0 hS_;clear hS_))
     go_roundg (l.length - (i2+1))
     case measure=>omega
     case rel=>exact ⟨i2+1,acc2++[13],by go_num,HS2N,⟨by simp [hal2],by omega,by omega,by rw [← HA1.out.1];simp,HA1.out.2⟩,rfl⟩
   case rest =>
    clear HSN hcx hcy HA HS;obtain ⟨i2,rfl,HS3,HJ3⟩:=hcut;have hi2:=HJ3.out.2.2.2.1;have hi3:=HJ3.out.2.2.2.2;go_wp2;go_meet
    case rel=>exact ⟨i2,Af,rfl,HS3,⟨HJ3.out.2.1,HJ3.out.2.2.1,by omega,by omega,by rw [HJ3.out.1];exact HP.out⟩⟩
  ·as_aux_lemma =>
   obtain ⟨hl1,hg1,hr1⟩:=drop_inv hr;have hcy:=HW.out.src _ _ _ (i+1) HS.out hl1 (.inl (by have:=HAL.out;omega));rw [hg1] at hcy;rw [hx1] at hcx;have hal:=HAL.out;have t2:decide ((i:Int)<(l.length:Int) - 1)=true:=decide_eq_true (by omega);obtain ⟨Af,hAf⟩:∃ Af,Af=acc++[32,32]++p.1:=⟨_,rfl⟩;have hp2:prL kg p.2 Af.reverse=some U:=by rw [hAf];simpa using hp
   have hAl:Af.length+p.2.length=l.length:=by
    have h1:=bkL_len r p hb;have h2:=congrArg List.length hr1;simp only [List.length_drop] at h2;rw [hAf];simp only [List.length_append,List.length_cons,List.length_nil];omega
   have hA1:bkL (l.drop (i+2))=some p∧acc++[32,32]++p.1=Af:=by rw [hr1];exact ⟨hb,hAf.symm⟩
   have HP:=mk0 hp2;have HA:=mk0 hA1;have HAl:=mk0 hAl;clear hx1 hx hp hp2 hA1 hAf hr hr1 hg1 hAl hb;go_upto_block 4 with (first|((with_reducible refine j1z (b := .append) (xs:=#[.tmp 79, .tmp 80]) rfl ?_);at_builtin;refine G_append rfl (.tmp 79) (.tmp 80) rfl HW.out _ acc [32,32] _ 2 zq61 rfl zq50 rfl zq62 HS.out zq24 ?_;intro v1_ w1_ hS_;have HSN:=mk0 hS_;clear hS_))
   go_cut [1,5] (fun v1 v5 wc=>∃ i2:Nat,v5 = .int .i64 (i2:Int)∧Aside0 (ST wc Af v1)∧Aside0 (l.drop (i2+1)=p.2∧Af.length=i2+1∧i+1≤i2∧i2<l.length))
   case first =>
    go_wp2_with fail
    go_loopg [1,5] (l.length - (i+2)) (fun kq v1 v5 w'=>∃ (i2:Nat) (acc2:List Int) (q:List Int × List Int),v5 = .int .i64 (i2:Int)∧Aside0 (ST w' acc2 v1)∧Aside0 (acc2.length=i2∧i+2≤i2∧i2≤l.length∧bkL (l.drop i2)=some q∧acc2++q.1=Af∧q.2=p.2)∧kq=l.length - i2)
    case atStart=>exact ⟨i+2,acc++[32,32],p,by go_num,HSN,⟨by simp [HAL.out],by omega,by omega,HA.out.1,HA.out.2,rfl⟩,rfl⟩
    case round =>
     clear HSN hcx hcy HA HS;obtain ⟨i2,acc2,q,rfl,HS2,HJ2,hk2⟩:=hrel;have hi2:=HJ2.out.2.1;have hi3:=HJ2.out.2.2.1;have hal2:=HJ2.out.1;obtain ⟨c2,d2,rr,hm2,hcs⟩:=bkL_cases HJ2.out.2.2.2.1;obtain ⟨hlt2,hg2,hm3⟩:=drop_inv hm2;obtain ⟨hlt3,hg3,hm4⟩:=drop_inv hm3;have s1:decide ((i2:Int)<(l.length:Int) - 1)=true:=decide_eq_true (by omega);have hcz:=HW.out.src _ _ _ i2 HS2.out hlt2 (.inl (by omega));have hcz2:=HW.out.src _ _ _ (i2+1) HS2.out hlt3 (.inl (by omega));rw [hg2] at hcz;rw [hg3] at hcz2;rcases hcs with ⟨h42,h47,hq⟩|⟨hno,q2,hq2,hq⟩
     ·rw [h42] at hcz;rw [h47] at hcz2;have hA1:=HJ2.out.2.2.2.2;rw [hq] at hA1;have HA1:=mk0 hA1;have HM4:=mk0 hm4;clear hA1 hq hg2 hg3 hm2 hm3 hm4 h42 h47;go_wp2_with (first|((with_reducible refine j1z (b := .append) (xs:=#[.tmp 104, .tmp 105]) rfl ?_);at_builtin;refine G_append rfl (.tmp 104) (.tmp 105) rfl HW.out _ acc2 [32,32] _ 2 zq61 rfl zq50 rfl zq62 HS2.out zq24 ?_;intro v1_ w1_ hS_;have HS2N:=mk0 hS_;clear hS_))
      go_meet
      case rel =>
       have e1:=HA1.out.1;have e2:=HA1.out.2;exact ⟨i2+1,by go_num,⟨by rw [← e1];exact HS2N.out⟩,⟨HM4.out.trans e2,by rw [← e1];simp [hal2],by omega,by omega⟩⟩
     ·have hA1:=HJ2.out.2.2.2.2;rw [hq] at hA1;have HN:=mk0 (show bkL (l.drop (i2+1))=some q2 by rw [hm3];exact hq2);have hr2:=HU.out (l.getD i2 0) (by rw [List.getD_eq_getElem?_getD,List.getElem?_eq_getElem hlt2];exact List.getElem_mem hlt2);rw [hg2] at hr2;have hc42:c2=42→d2≠47:=fun h1 h2=>hno ⟨h1,h2⟩
      clear hq2 hq hm2 hm3 hm4 hg2 hg3 hno
      have next:∀ (W:World) (v:Value),ST W (acc2++[cB c2]) v→∃ (i2':Nat) (acc2':List Int) (q':List Int × List Int),Value.int .i64 ((i2:Int)+1) = .int .i64 (i2':Int)∧Aside0 (ST W acc2' v)∧Aside0 (acc2'.length=i2'∧i+2≤i2'∧i2'≤l.length∧bkL (l.drop i2')=some q'∧acc2'++q'.1=Af∧q'.2=p.2)∧l.length - (i2+1)=l.length - i2':=fun W v h =>
       ⟨i2+1,acc2++[cB c2],q2,by go_num,⟨h⟩,⟨by simp [hal2],by omega,by omega,HN.out,by rw [← hA1.1];simp,hA1.2⟩,rfl⟩
      have NX:=mk0 next;clear next hA1;by_cases h42:c2=42
      ·have h47:=hc42 h42;have e47:(d2 == 47)=false:=beq_eq_false_iff_ne.mpr h47;have d47:decide (d2=47)=false:=decide_eq_false h47;rw [h42] at hcz NX;have hcb:cB 42=32:=by decide
       rw [hcb] at NX;clear hcb h47 hc42 h42 hr2;go_wp2_with (first|((with_reducible refine j1z (b := .append) (xs:=#[.tmp 135, .tmp 136]) rfl ?_);at_builtin;refine G_append rfl (.tmp 135) (.tmp 136) rfl HW.out _ acc2 [32] _ 1 zq61 rfl zq50 rfl zq62 HS2.out zq24 ?_;intro v1_ w1_ hS_;have HS2N:=mk0 hS_;clear hS_))
       go_roundg (l.length - (i2+1))
       case measure=>omega
       case rel=>exact NX.out _ _ HS2N.out
      have e42:(c2 == 42)=false:=beq_eq_false_iff_ne.mpr h42;have d42:decide (c2=42)=false:=decide_eq_false h42;by_cases h10:c2=10
      ·have hcb:cB c2=10:=by rw [h10];decide
       rw [hcb] at NX;rw [h10] at hcz;clear hcb h10 hc42 h42 hr2 e42 d42;go_wp2_with (first|((with_reducible refine j1z (b := .append) (xs:=#[.tmp 128, .tmp 133]) rfl ?_);at_builtin;refine G_append rfl (.tmp 128) (.tmp 133) rfl HW.out _ acc2 [10] _ 1 zq61 rfl zq50 rfl zq62 HS2.out zq24 ?_;intro v1_ w1_ hS_;have HS2N:=mk0 hS_;clear hS_))
       go_roundg (l.length - (i2+1))
       case measure=>omega
       case rel=>exact NX.out _ _ HS2N.out
      by_cases h9:c2=9
      ·have hcb:cB c2=9:=by rw [h9];decide
       rw [hcb] at NX;rw [h9] at hcz;clear hcb h10 h9 hc42 h42 hr2 e42 d42;go_wp2_with (first|((with_reducible refine j1z (b := .append) (xs:=#[.tmp 128, .tmp 133]) rfl ?_);at_builtin;refine G_append rfl (.tmp 128) (.tmp 133) rfl HW.out _ acc2 [9] _ 1 zq61 rfl zq50 rfl zq62 HS2.out zq24 ?_;intro v1_ w1_ hS_;have HS2N:=mk0 hS_;clear hS_))
       go_roundg (l.length - (i2+1))
       case measure=>omega
       case rel=>exact NX.out _ _ HS2N.out
      by_cases h13:c2=13
      ·have hcb:cB c2=13:=by rw [h13];decide
       rw [hcb] at NX;rw [h13] at hcz;clear hcb h10 h9 h13 hc42 h42 hr2 e42 d42;go_wp2_with (first|((with_reducible refine j1z (b := .append) (xs:=#[.tmp 128, .tmp 133]) rfl ?_);at_builtin;refine G_append rfl (.tmp 128) (.tmp 133) rfl HW.out _ acc2 [13] _ 1 zq61 rfl zq50 rfl zq62 HS2.out zq24 ?_;intro v1_ w1_ hS_;have HS2N:=mk0 hS_;clear hS_))
       go_roundg (l.length - (i2+1))
       case measure=>omega
       case rel=>exact NX.out _ _ HS2N.out
      have hcb:cB c2=32:=by unfold cB;rw [if_neg (by rintro (h|h|h);exact h10 h;exact h9 h;exact h13 h)]
      rw [hcb] at NX;have e10:(c2 == 10)=false:=beq_eq_false_iff_ne.mpr h10;have d10:decide (c2=10)=false:=decide_eq_false h10;have e9:(c2 == 9)=false:=beq_eq_false_iff_ne.mpr h9;have d9:decide (c2=9)=false:=decide_eq_false h9;have e13:(c2 == 13)=false:=beq_eq_false_iff_ne.mpr h13;have d13:decide (c2=13)=false:=decide_eq_false h13;clear hcb h10 h9 h13 hc42 h42;go_wp2_with (first|((with_reducible refine j1z (b := .append) (xs:=#[.tmp 135, .tmp 136]) rfl ?_);at_builtin;refine G_append rfl (.tmp 135) (.tmp 136) rfl HW.out _ acc2 [32] _ 1 zq61 rfl zq50 rfl zq62 HS2.out zq24 ?_;intro v1_ w1_ hS_;have HS2N:=mk0 hS_;clear hS_))
      go_roundg (l.length - (i2+1))
      case measure=>omega
      case rel=>exact NX.out _ _ HS2N.out
   case rest =>
    clear HSN hcx hcy HA HS;obtain ⟨i2,rfl,HS3,HJ3⟩:=hcut;have hi2:=HJ3.out.2.2.1;have hi3:=HJ3.out.2.2.2;go_wp2;go_meet
    case rel=>exact ⟨i2,Af,rfl,HS3,⟨fun _=>HJ3.out.2.1,(by have:=HJ3.out.2.1;omega),by omega,by omega,by rw [HJ3.out.1];exact HP.out⟩⟩
  ·as_aux_lemma =>
   rw [hx1] at hcx;have hal:=HAL.out;have hgx:=HG.out;rw [hx1] at hgx;obtain ⟨Af,hAf⟩:∃ Af,Af=acc++[34]++(stL false (l.drop (i+1))).1:=⟨_,rfl⟩;obtain ⟨Rf,hRf⟩:∃ Rf,Rf=(stL false (l.drop (i+1))).2:=⟨_,rfl⟩;have hp2:prL kg Rf Af.reverse=some U:=by rw [hRf,hAf];simpa using hp
   have hAl:Af.length+Rf.length=l.length:=by
    have h1:=stL_len (l.drop (i+1)) false;simp only [List.length_drop] at h1;rw [hAf,hRf];simp only [List.length_append,List.length_cons,List.length_nil];omega
   have hb0:bk l (i+1)=0:=bk_no (by rw [hgx];decide);have hA1:acc++[34]++(stL (decide (bk l (i+1) % 2=1)) (l.drop (i+1))).1=Af∧(stL (decide (bk l (i+1) % 2=1)) (l.drop (i+1))).2=Rf:=by rw [hb0,hAf,hRf];exact ⟨rfl,rfl⟩
   have s1:∀ (W:World) (v:Value),ST W (acc++[(34:Int)]) v→W.cell? ⟨b,i,none⟩=some (.int .u8 34):=fun W v h=>by
    rw [← hgx];exact zl15
   have S1:=mk0 s1;have HP:=mk0 hp2;have HA:=mk0 hA1;have HAl:=mk0 hAl;have HGX:=mk0 hgx;clear hx1 hx hp hp2 hA1 hAf hRf hAl hb0 s1 hgx;go_upto_block 6 with (first|((with_reducible refine j1z (b := .append) (xs:=#[.tmp 138, .tmp 143]) rfl ?_);at_builtin;refine G_append rfl (.tmp 138) (.tmp 143) rfl HW.out _ acc [34] _ 1 zq61 rfl zq50 rfl zq62 HS.out zq24 ?_;intro v1_ w1_ hS_;have HSN:=mk0 hS_;clear hS_ ; have hcx1:=S1.out _ _ HSN.out))
   go_wp2_with fail
   go_loopg [1,5] (l.length - (i+1)) (fun kq v1 v5 w'=>∃ (i2:Nat) (acc2:List Int),v5 = .int .i64 (i2:Int)∧Aside0 (ST w' acc2 v1)∧Aside0 (acc2.length=i2∧i+1≤i2∧i2≤l.length∧acc2++(stL (decide (bk l i2 % 2=1)) (l.drop i2)).1=Af∧(stL (decide (bk l i2 % 2=1)) (l.drop i2)).2=Rf∧(∀ j,i≤j→j<i2→acc2.getD j 0=l.getD j 0))∧kq=l.length - i2)
   case atStart =>
    refine ⟨i+1,acc++[34],by go_num,HSN,⟨by simp [HAL.out],by omega,by omega,HA.out.1,HA.out.2,fun j h1 h2=>?_⟩,rfl⟩;obtain rfl:j=i:=by omega
    rw [HGX.out,← HAL.out,getD_end]
   case round =>
    clear HSN hcx HA HS hcx1 S1;obtain ⟨i2,acc2,rfl,HS2,HJ2,hk2⟩:=hrel;have hi2:=HJ2.out.2.1;have hi3:=HJ2.out.2.2.1;by_cases hlt2:i2<l.length
    rotate_left
    ·have s1:decide ((i2:Int)<(l.length:Int))=false:=decide_eq_false (by omega);have hA1:=HJ2.out.2.2.2;rw [List.drop_of_length_le (by omega)] at hA1;have hal2:=HJ2.out.1;have HA1:=mk0 hA1;clear hA1;go_wp2;go_meet
     case rel =>
      have e1:=HA1.out.1;have e2:=HA1.out.2.1;simp only [stL,List.append_nil] at e1 e2;exact ⟨i2,Af,rfl,⟨by rw [← e1];exact HS2.out⟩,⟨fun h=>by omega,by rw [← e1];omega,by omega,hi3,by rw [List.drop_of_length_le (by omega),e2];exact HP.out⟩⟩
    have s1:decide ((i2:Int)<(l.length:Int))=true:=decide_eq_true (by omega);obtain ⟨y,hy,hg2,hd2⟩:=src_u8 HU.out hlt2;have hcz:=HW.out.src _ _ _ i2 HS2.out hlt2 (.inl (by have:=HJ2.out.1;omega));rw [hg2] at hcz;have hal2:=HJ2.out.1;have hA1:=HJ2.out.2.2.2;have hpar:=bk_par hg2
    have same2:∀ j,i≤j→j<i2+1→(acc2++[(y:Int)]).getD j 0=l.getD j 0:=fun j h1 h2=>by
     by_cases hj:j<i2
     ·rw [getD_app (by omega)];exact hA1.2.2 j h1 hj
     obtain rfl:j=i2:=by omega
     rw [hg2,← hal2,getD_end]
    have cells2:∀ (W:World) (v:Value),ST W (acc2++[(y:Int)]) v→∀ j,i≤j→j<i2+1→W.cell? ⟨b,j,none⟩=some (.int .u8 (l.getD j 0)):=fun W v h j h1 h2=>HW.out.src _ _ _ j h (by omega) (.inr (same2 j h1 h2))
    have SM:=mk0 same2;have CE:=mk0 cells2;have HPar:=mk0 hpar;clear same2 cells2 hpar;by_cases h34:(y:Int)=34
    rotate_left
    ·have e34:((y:Int) == 34)=false:=beq_eq_false_iff_ne.mpr h34;have d34:decide ((y:Int)=34)=false:=decide_eq_false h34;rw [hd2,stL,if_neg (fun h=>h34 h.1),← HPar.out] at hA1
     have s2:∀ (W:World) (v:Value),ST W (acc2++[(y:Int)]) v→W.cell? ⟨b,i2,none⟩=some (.int .u8 (y:Int)):=fun W v h=>by
      have:=CE.out W v h i2 (by omega) (by omega);rw [hg2] at this;exact this
     have S2:=mk0 s2;have HA1:=mk0 hA1;clear s2 h34 hg2 hd2 hA1;go_wp2_with (first|((with_reducible refine j1z (b := .append) (xs:=#[.tmp 158, .tmp 163]) rfl ?_);at_builtin;refine G_append rfl (.tmp 158) (.tmp 163) rfl HW.out _ acc2 [(y:Int)] _ 1 zq61 rfl zq50 rfl zq62 HS2.out zq24 ?_;intro v1_ w1_ hS_;have HS2N:=mk0 hS_;clear hS_ ; have hcz1:=S2.out _ _ HS2N.out))
     go_roundg (l.length - (i2+1))
     case measure=>omega
     case rel=>exact ⟨i2+1,acc2++[(y:Int)],by go_num,HS2N,⟨by simp [hal2],by omega,by omega,by rw [← HA1.out.1];simp,HA1.out.2.1,SM.out⟩,rfl⟩
    have s2:∀ (W:World) (v:Value),ST W (acc2++[(34:Int)]) v→W.cell? ⟨b,i2,none⟩=some (.int .u8 34):=fun W v h=>by
     have:=CE.out W v (by rw [h34];exact h) i2 (by omega) (by omega);rw [hg2,h34] at this;exact this
    have S2:=mk0 s2;rw [h34] at hcz SM CE hd2 hg2;have HG2:=mk0 hg2;have HD2:=mk0 hd2;have HA1:=mk0 hA1;clear s2 h34 hg2 hd2 hy hA1;go_upto_block 8 with (first|((with_reducible refine j1z (b := .append) (xs:=#[.tmp 158, .tmp 163]) rfl ?_);at_builtin;refine G_append rfl (.tmp 158) (.tmp 163) rfl HW.out _ acc2 [34] _ 1 zq61 rfl zq50 rfl zq62 HS2.out zq24 ?_;intro v1_ w1_ hS_;have HS2N:=mk0 hS_;clear hS_ ; have hcz1:=S2.out _ _ HS2N.out))
    have HV1:=HS2N;go_cut [6] (fun v6 wc=>v6 = .int .i64 ((i2:Int) - 1 - (bk l i2:Int))∧Aside0 (ST wc (acc2++[34]) v1_)∧Aside0 (bk l i2<i2))
    case first =>
     go_wp2_with fail
     go_loopg [6] (i2 - 1) (fun kq v6 w'=>∃ (j t:Nat),v6 = .int .i64 (j:Int)∧Aside0 (ST w' (acc2++[34]) v1_)∧Aside0 (j+1+t=i2∧i≤j∧bk l (j+1)+t=bk l i2)∧kq=j)
     case atStart=>exact ⟨i2 - 1,0,by congr 1;omega,HS2N,⟨by omega,by omega,by rw [show i2 - 1+1=i2 by omega,Nat.add_zero]⟩,rfl⟩
     case round =>
      clear hcz1 hcz HS2 HS2N HV1 S2;obtain ⟨j,t,rfl,HS4,HJ4,hk4⟩:=hrel;have hj1:=HJ4.out.1;have hj2:=HJ4.out.2.1;have hcj:=CE.out _ _ HS4.out j hj2 (by omega);by_cases h92:l.getD j 0=92
      ·rw [h92] at hcj
       have hji:i<j:=by
        rcases Nat.lt_or_ge i j with h|h
        ·exact h
        ·obtain rfl:j=i:=by omega
         rw [HGX.out] at h92;exact absurd h92 zq50
       have hbb:=bk_yes h92;have HBB:=mk0 hbb;have H92:=mk0 h92;clear hbb h92;go_wp2;go_roundg (j - 1)
       case measure=>omega
       case rel=>exact ⟨j - 1,t+1,by congr 1;omega,HS4,⟨by omega,by omega,by rw [show j - 1+1=j by omega];have:=HJ4.out.2.2;rw [HBB.out] at this;omega⟩,rfl⟩
      have hbb:=bk_no h92;have hrj:=HU.out (l.getD j 0) (by rw [List.getD_eq_getElem?_getD,List.getElem?_eq_getElem (by omega)];exact List.getElem_mem (by omega));have e92:(l.getD j 0 == 92)=false:=beq_eq_false_iff_ne.mpr h92;have d92:decide (l.getD j 0=92)=false:=decide_eq_false h92;have HBB:=mk0 hbb
      generalize l.getD j 0=z at hcj e92 d92 hrj h92
      clear hbb;go_wp2;go_meet
      case rel =>
       have h5:=HJ4.out.2.2;rw [HBB.out] at h5;exact ⟨by congr 1;omega,HS4,⟨by omega⟩⟩
    case rest =>
     clear hcz1 hcz HS2 HS2N HV1 S2;obtain ⟨rfl,HS5,HB5⟩:=hcut;have hb5:=HB5.out;have hA1:=HA1.out;rw [HD2.out,stL] at hA1;rcases Nat.mod_two_eq_zero_or_one (bk l i2) with hb2|hb2
     ·have hfin:acc2++[34]=Af∧l.drop (i2+1)=Rf:=by
       rw [if_pos ⟨rfl,by rw [hb2];rfl⟩] at hA1;exact ⟨hA1.1,hA1.2.1⟩
      have tm:Int.tmod (((i2:Int) - 1 - (bk l i2:Int)) - (i2:Int)) 2 = -1:=by
       have:=tmod_odd (bk l i2+1) (by omega)
       rwa [show -((bk l i2+1:Nat):Int)=((i2:Int) - 1 - (bk l i2:Int)) - (i2:Int) by omega] at this
      have HFIN:=mk0 hfin;clear hfin hA1 HA1
      generalize bk l i2=m at hb2 tm hb5 ⊢
      go_wp2;go_meet
      case rel =>
       have e3:Af.length=i2+1:=by rw [← HFIN.out.1];simp [hal2]
       exact ⟨i2,Af,rfl,⟨by rw [← HFIN.out.1];exact HS5.out⟩,⟨fun _=>e3,by omega,by omega,by omega,by rw [HFIN.out.2];exact HP.out⟩⟩
     ·have hfin:acc2++[34]++(stL false (l.drop (i2+1))).1=Af∧(stL false (l.drop (i2+1))).2=Rf:=by
       rw [if_neg (by rw [hb2];simp)] at hA1
       simpa using And.intro hA1.1 hA1.2.1
      have hb6:bk l (i2+1)=0:=bk_no (by rw [HG2.out];decide)
      have tm:Int.tmod (((i2:Int) - 1 - (bk l i2:Int)) - (i2:Int)) 2=0:=by
       have:=tmod_even (bk l i2+1) (by omega)
       rwa [show -((bk l i2+1:Nat):Int)=((i2:Int) - 1 - (bk l i2:Int)) - (i2:Int) by omega] at this
      have HFIN:=mk0 hfin;have HB6:=mk0 hb6;clear hfin hA1 HA1 hb6
      generalize bk l i2=m at hb2 tm hb5 ⊢
      go_wp2;go_roundg (l.length - (i2+1))
      case measure=>omega
      case rel=>exact ⟨i2+1,acc2++[34],by go_num,HS5,⟨by simp [hal2],by omega,by omega,by rw [HB6.out];exact HFIN.out.1,by rw [HB6.out];exact HFIN.out.2,SM.out⟩,rfl⟩
  ·as_aux_lemma =>
   rcases hx1 with hx1|hx1
   rotate_left
   ·rw [hx1] at hcx hp;have hgx:=HG.out;rw [hx1] at hgx;have hal:=HAL.out;have hl1:(acc++[(93:Int)]).length=i+1:=by simp [HAL.out]
    have s1:∀ (W:World) (v:Value),ST W (acc++[(93:Int)]) v→W.cell? ⟨b,i,none⟩=some (.int .u8 93):=fun W v h=>by
     rw [← hgx];exact zl15
    have S1:=mk0 s1;have HL1:=mk0 hl1;clear hl1;have HP:=mk0 hp;clear hx1 hx hp s1 hgx;go_upto_block 10 with (first|((with_reducible refine j1z (b := .append) (xs:=#[.tmp 138, .tmp 143]) rfl ?_);at_builtin;refine G_append rfl (.tmp 138) (.tmp 143) rfl HW.out _ acc [93] _ 1 zq61 rfl zq50 rfl zq62 HS.out zq24 ?_;intro v1_ w1_ hS_;have HSN:=mk0 hS_;clear hS_ ; have hcx1:=S1.out _ _ HSN.out;obtain ⟨A_,c_,hv_,hc_⟩:=HW.out.val _ _ _ HSN.out;subst hv_;clear hc_))
    go_wp2_with fail
    go_loopg [7] (i) (fun kq v7 w'=>∃ (pre rem:List Int),v7 = .int .i64 ((rem.length:Int) - 1)∧Aside0 (ST w' (acc++[93]) (.slice A_ (acc++[93]).length c_))∧Aside0 (acc.reverse=pre++rem∧(∀ z ∈ pre,z≤32))∧kq=rem.length)
    case atStart=>exact ⟨[],acc.reverse,by simp only [List.length_reverse];congr 1;have:=HL1.out;omega,HSN,⟨rfl,fun z hz=>by simp at hz⟩,by simp [HAL.out]⟩
    case round =>
     clear hcx hcx1 S1 HS HSN;obtain ⟨pre,rem,rfl,HS4,HJ4,hk4⟩:=hrel
     have hrl:pre.length+rem.length=i:=by
      have:=congrArg List.length HJ4.out.1;simp only [List.length_reverse,List.length_append] at this;omega
     rcases rem with _|⟨y,post⟩
     ·have e0:((([]:List Int).length:Nat):Int) - 1 = -1:=rfl
      have hfin:acc++[(93:Int)]=(93 :: cmL acc.reverse).reverse:=by
       have h1:=HJ4.out.1;rw [List.append_nil] at h1;have h2:=cmL_low pre [] HJ4.out.2;rw [List.append_nil,cmL,List.append_nil,← h1] at h2;rw [h2];simp
      have HFIN:=mk0 hfin;clear hfin;rw [e0];go_wp2;go_meet
      case rel=>exact ⟨i,acc++[93],rfl,⟨by have h_:=HS4.out;rw [HL1.out] at h_;exact h_⟩,⟨fun _=>HL1.out,by rw [HL1.out];omega,Nat.le_refl _,by omega,by rw [HFIN.out,List.reverse_reverse];exact HP.out⟩⟩
     ·have e0:(((y :: post).length:Nat):Int) - 1=((post.length:Nat):Int):=by simp only [List.length_cons];omega
      rw [e0];simp only [List.length_cons] at hrl hk4;obtain ⟨hpl,hgy⟩:=rev_getD HJ4.out.1;obtain ⟨A2,c2,hv2,hc2⟩:=HW.out.val _ _ _ HS4.out;have hL1:=HL1.out;obtain ⟨g,hA,hcell,hfz,hset⟩:=hc2 post.length (by omega)
      have hA':A_=some ⟨g,0,none⟩:=by
       injection hv2 with h1 _ _
       rw [h1,hA]
      subst hA';rw [getD_app hpl,hgy] at hcell;have hb1:post.length<(acc++[(93:Int)]).length:=by omega
      have hb2:((post.length:Nat):Int)<(((acc++[(93:Int)]).length:Nat):Int):=by omega
      have q1:decide (((post.length:Nat):Int)≥0)=true:=decide_eq_true (by omega);have q2:decide ((0:Int)≤((post.length:Nat):Int))=true:=decide_eq_true (by omega);have HSET:=mk0 hset;clear hv2 hc2 hA hset hgy e0 hL1;by_cases h32:y≤32
      ·have d32:decide (y≤32)=true:=decide_eq_true h32;go_wp2;go_roundg (post.length)
       case measure=>omega
       case rel=>exact ⟨pre++[y],post,by go_num,HS4,⟨by rw [HJ4.out.1];simp,fun z hz=>by
        rcases List.mem_append.mp hz with hz|hz
        ·exact HJ4.out.2 z hz
        ·simp only [List.mem_singleton] at hz;rw [hz];exact h32⟩,rfl⟩
      have d32:decide (y≤32)=false:=decide_eq_false h32;have hcm:=cmL_low pre (y :: post) HJ4.out.2;rw [← HJ4.out.1,cmL,if_neg h32] at hcm;by_cases h44:y=44
      rotate_left
      ·have e44:(y == 44)=false:=beq_eq_false_iff_ne.mpr h44;have d44:decide (y=44)=false:=decide_eq_false h44;rw [if_neg h44,← HJ4.out.1] at hcm;have HCM:=mk0 hcm;clear hcm h44;go_wp2;go_meet
       case rel=>exact ⟨i,acc++[93],rfl,⟨by have h_:=HS4.out;rw [HL1.out] at h_;exact h_⟩,⟨fun _=>HL1.out,by rw [HL1.out];omega,Nat.le_refl _,by omega,by rw [List.reverse_append];show prL kg _ (93 :: acc.reverse)=_;rw [← HCM.out];exact HP.out⟩⟩
      subst h44;rw [if_pos rfl] at hcm;have hrs:=rev_set (L:=93) HJ4.out.1;rw [← hcm] at hrs;have HRS:=mk0 hrs;have hls:Aside0 (((acc++[(93:Int)]).set post.length 32).length=i+1):=⟨by rw [List.length_set];exact HL1.out⟩;clear hrs hcm h32;go_wp2;go_meet
      case rel=>exact ⟨i,(acc++[93]).set post.length 32,rfl,⟨by have h_:=HSET.out;rw [HL1.out] at h_;exact h_⟩,⟨fun _=>hls.out,by rw [hls.out];omega,Nat.le_refl _,by omega,by rw [HRS.out];exact HP.out⟩⟩
   rw [hx1] at hcx hp;have hgx:=HG.out;rw [hx1] at hgx;have hal:=HAL.out;have hl1:(acc++[(125:Int)]).length=i+1:=by simp [HAL.out]
   have s1:∀ (W:World) (v:Value),ST W (acc++[(125:Int)]) v→W.cell? ⟨b,i,none⟩=some (.int .u8 125):=fun W v h=>by
    rw [← hgx];exact zl15
   have S1:=mk0 s1;have HL1:=mk0 hl1;clear hl1;have HP:=mk0 hp;clear hx1 hx hp s1 hgx;go_upto_block 10 with (first|((with_reducible refine j1z (b := .append) (xs:=#[.tmp 138, .tmp 143]) rfl ?_);at_builtin;refine G_append rfl (.tmp 138) (.tmp 143) rfl HW.out _ acc [125] _ 1 zq61 rfl zq50 rfl zq62 HS.out zq24 ?_;intro v1_ w1_ hS_;have HSN:=mk0 hS_;clear hS_ ; have hcx1:=S1.out _ _ HSN.out;obtain ⟨A_,c_,hv_,hc_⟩:=HW.out.val _ _ _ HSN.out;subst hv_;clear hc_))
   go_wp2_with fail
   go_loopg [7] (i) (fun kq v7 w'=>∃ (pre rem:List Int),v7 = .int .i64 ((rem.length:Int) - 1)∧Aside0 (ST w' (acc++[125]) (.slice A_ (acc++[125]).length c_))∧Aside0 (acc.reverse=pre++rem∧(∀ z ∈ pre,z≤32))∧kq=rem.length)
   case atStart=>exact ⟨[],acc.reverse,by simp only [List.length_reverse];congr 1;have:=HL1.out;omega,HSN,⟨rfl,fun z hz=>by simp at hz⟩,by simp [HAL.out]⟩
   case round =>
    clear hcx hcx1 S1 HS HSN;obtain ⟨pre,rem,rfl,HS4,HJ4,hk4⟩:=hrel
    have hrl:pre.length+rem.length=i:=by
     have:=congrArg List.length HJ4.out.1;simp only [List.length_reverse,List.length_append] at this;omega
    rcases rem with _|⟨y,post⟩
    ·have e0:((([]:List Int).length:Nat):Int) - 1 = -1:=rfl
     have hfin:acc++[(125:Int)]=(125 :: cmL acc.reverse).reverse:=by
      have h1:=HJ4.out.1;rw [List.append_nil] at h1;have h2:=cmL_low pre [] HJ4.out.2;rw [List.append_nil,cmL,List.append_nil,← h1] at h2;rw [h2];simp
     have HFIN:=mk0 hfin;clear hfin;rw [e0];go_wp2;go_meet
     case rel=>exact ⟨i,acc++[125],rfl,⟨by have h_:=HS4.out;rw [HL1.out] at h_;exact h_⟩,⟨fun _=>HL1.out,by rw [HL1.out];omega,Nat.le_refl _,by omega,by rw [HFIN.out,List.reverse_reverse];exact HP.out⟩⟩
    ·have e0:(((y :: post).length:Nat):Int) - 1=((post.length:Nat):Int):=by simp only [List.length_cons];omega
     rw [e0];simp only [List.length_cons] at hrl hk4;obtain ⟨hpl,hgy⟩:=rev_getD HJ4.out.1;obtain ⟨A2,c2,hv2,hc2⟩:=HW.out.val _ _ _ HS4.out;have hL1:=HL1.out;obtain ⟨g,hA,hcell,hfz,hset⟩:=hc2 post.length (by omega)
     have hA':A_=some ⟨g,0,none⟩:=by
      injection hv2 with h1 _ _
      rw [h1,hA]
     subst hA';rw [getD_app hpl,hgy] at hcell;have hb1:post.length<(acc++[(125:Int)]).length:=by omega
     have hb2:((post.length:Nat):Int)<(((acc++[(125:Int)]).length:Nat):Int):=by omega
     have q1:decide (((post.length:Nat):Int)≥0)=true:=decide_eq_true (by omega);have q2:decide ((0:Int)≤((post.length:Nat):Int))=true:=decide_eq_true (by omega);have HSET:=mk0 hset;clear hv2 hc2 hA hset hgy e0 hL1;by_cases h32:y≤32
     ·have d32:decide (y≤32)=true:=decide_eq_true h32;go_wp2;go_roundg (post.length)
      case measure=>omega
      case rel=>exact ⟨pre++[y],post,by go_num,HS4,⟨by rw [HJ4.out.1];simp,fun z hz=>by
       rcases List.mem_append.mp hz with hz|hz
       ·exact HJ4.out.2 z hz
       ·simp only [List.mem_singleton] at hz;rw [hz];exact h32⟩,rfl⟩
     have d32:decide (y≤32)=false:=decide_eq_false h32;have hcm:=cmL_low pre (y :: post) HJ4.out.2;rw [← HJ4.out.1,cmL,if_neg h32] at hcm;by_cases h44:y=44
     rotate_left
     ·have e44:(y == 44)=false:=beq_eq_false_iff_ne.mpr h44;have d44:decide (y=44)=false:=decide_eq_false h44;rw [if_neg h44,← HJ4.out.1] at hcm;have HCM:=mk0 hcm;clear hcm h44;go_wp2;go_meet
      case rel=>exact ⟨i,acc++[125],rfl,⟨by have h_:=HS4.out;rw [HL1.out] at h_;exact h_⟩,⟨fun _=>HL1.out,by rw [HL1.out];omega,Nat.le_refl _,by omega,by rw [List.reverse_append];show prL kg _ (125 :: acc.reverse)=_;rw [← HCM.out];exact HP.out⟩⟩
     subst h44;rw [if_pos rfl] at hcm;have hrs:=rev_set (L:=125) HJ4.out.1;rw [← hcm] at hrs;have HRS:=mk0 hrs;have hls:Aside0 (((acc++[(125:Int)]).set post.length 32).length=i+1):=⟨by rw [List.length_set];exact HL1.out⟩;clear hrs hcm h32;go_wp2;go_meet
     case rel=>exact ⟨i,(acc++[125]).set post.length 32,rfl,⟨by have h_:=HSET.out;rw [HL1.out] at h_;exact h_⟩,⟨fun _=>hls.out,by rw [hls.out];omega,Nat.le_refl _,by omega,by rw [HRS.out];exact HP.out⟩⟩
  ·as_aux_lemma =>
   have e34:((x:Int) == 34)=false:=beq_eq_false_iff_ne.mpr h34;have e125:((x:Int) == 125)=false:=beq_eq_false_iff_ne.mpr h125;have e93:((x:Int) == 93)=false:=beq_eq_false_iff_ne.mpr h93;have d34:decide ((x:Int)=34)=false:=decide_eq_false h34;have d125:decide ((x:Int)=125)=false:=decide_eq_false h125;have d93:decide ((x:Int)=93)=false:=decide_eq_false h93;have HP:=mk0 hp;clear hp;have fin:∀ (W:World) (v:Value),ST W (acc++[(x:Int)]) v→Aside0 (ST W (acc++[(x:Int)]) v)∧Aside0 ((i+1≤l.length→(acc++[(x:Int)]).length=i+1)∧(acc++[(x:Int)]).length≤l.length∧i≤i∧i≤l.length∧prL kg (l.drop (i+1)) (acc++[(x:Int)]).reverse=some U):=fun W v h=>⟨⟨h⟩,⟨fun _=>by simp [HAL.out],by simp [HAL.out];omega,Nat.le_refl _,by omega,by simpa using HP.out⟩⟩
   have FIN:=mk0 fin;clear fin;have h34:=mk0 h34;have h125:=mk0 h125;have h93:=mk0 h93;by_cases hx47:(x:Int)=47
   rotate_left
   ·have h47:=mk0 h47;have hal:=HAL.out;have e47:((x:Int) == 47)=false:=beq_eq_false_iff_ne.mpr hx47;have d47:decide ((x:Int)=47)=false:=decide_eq_false hx47
    have s1:∀ (W:World) (v:Value),ST W (acc++[(x:Int)]) v→W.cell? ⟨b,i,none⟩=some (.int .u8 (x:Int)):=fun W v h=>by
     rw [← HG.out];exact HW.out.src _ _ _ i h hlt (.inr (by rw [List.getD_eq_getElem?_getD,← HAL.out,List.getElem?_concat_length];rw [HAL.out,HG.out];rfl))
    have S1:=mk0 s1;clear s1;go_wp2_with (first|((with_reducible refine j1z (b := .append) (xs:=#[.tmp 138, .tmp 143]) rfl ?_);at_builtin;refine G_append rfl (.tmp 138) (.tmp 143) rfl HW.out _ acc [(x:Int)] _ 1 zq61 rfl zq50 rfl zq62 HS.out zq24 ?_;intro v1_ w1_ hS_;have HSN:=mk0 hS_;clear hS_ ; have hcx1:=S1.out _ _ HSN.out))
    go_meet
    case rel=>exact ⟨i,acc++[(x:Int)],rfl,(FIN.out _ _ HSN.out).1,(FIN.out _ _ HSN.out).2⟩
   have hno:=h47 hx47;have h47:=mk0 h47;have hal:=HAL.out;rw [hx47] at hcx;by_cases hl1:i+1<l.length
   rotate_left
   ·have t2:decide ((i:Int)<(l.length:Int) - 1)=false:=decide_eq_false (by omega);clear hno
    have s1:∀ (W:World) (v:Value),ST W (acc++[(47:Int)]) v→W.cell? ⟨b,i,none⟩=some (.int .u8 47):=fun W v h=>by
     have hgx:=HG.out;rw [hx47] at hgx;rw [← hgx];exact zl14
    have S1:=mk0 s1;have fin':=FIN.out;rw [hx47] at fin';have FIN2:=mk0 fin';have HX47:=mk0 hx47;clear s1 fin' FIN hx47 e34 e125 e93 d34 d125 d93 hx;go_wp2_with (first|((with_reducible refine j1z (b := .append) (xs:=#[.tmp 138, .tmp 143]) rfl ?_);at_builtin;refine G_append rfl (.tmp 138) (.tmp 143) rfl HW.out _ acc [(47:Int)] _ 1 zq61 rfl zq50 rfl zq62 HS.out zq24 ?_;intro v1_ w1_ hS_;have HSN:=mk0 hS_;clear hS_ ; have hcx1:=S1.out _ _ HSN.out))
    go_meet
    case rel=>exact ⟨i,acc++[(47:Int)],rfl,(FIN2.out _ _ HSN.out).1,(FIN2.out _ _ HSN.out).2⟩
   obtain ⟨y,hy,hg2,hd2⟩:=src_u8 HU.out hl1;have hny:=hno _ _ hd2;have hcy:=HW.out.src _ _ _ (i+1) HS.out hl1 (.inl (by omega));rw [hg2] at hcy;have t2:decide ((i:Int)<(l.length:Int) - 1)=true:=decide_eq_true (by omega);have y47:((y:Int) == 47)=false:=beq_eq_false_iff_ne.mpr hny.1;have y42:((y:Int) == 42)=false:=beq_eq_false_iff_ne.mpr hny.2;have z47:decide ((y:Int)=47)=false:=decide_eq_false hny.1;have z42:decide ((y:Int)=42)=false:=decide_eq_false hny.2;clear hno hg2 hd2 hny
   have s1:∀ (W:World) (v:Value),ST W (acc++[(47:Int)]) v→W.cell? ⟨b,i,none⟩=some (.int .u8 47):=fun W v h=>by
    have hgx:=HG.out;rw [hx47] at hgx;rw [← hgx];exact zl14
   have S1:=mk0 s1;have fin':=FIN.out;rw [hx47] at fin';have FIN2:=mk0 fin';have HX47:=mk0 hx47;clear s1 fin' FIN hx47 e34 e125 e93 d34 d125 d93 hx;go_wp2_with (first|((with_reducible refine j1z (b := .append) (xs:=#[.tmp 138, .tmp 143]) rfl ?_);at_builtin;refine G_append rfl (.tmp 138) (.tmp 143) rfl HW.out _ acc [(47:Int)] _ 1 zq61 rfl zq50 rfl zq62 HS.out zq24 ?_;intro v1_ w1_ hS_;have HSN:=mk0 hS_;clear hS_ ; have hcx1:=S1.out _ _ HSN.out))
   go_meet
   case rel=>exact ⟨i,acc++[(47:Int)],rfl,(FIN2.out _ _ HSN.out).1,(FIN2.out _ _ HSN.out).2⟩
theorem add_at0 (b m : Nat):(⟨b,0,none⟩:Addr).add m=⟨b,m,none⟩:=by
 unfold Addr.add;split
 ·rename_i h;subst h;rfl
 ·simp
theorem nums_get {xs : List Int} {j:Nat} {u:Value} (h:(nums .u8 xs)[j]? = some u):j<xs.length∧u = .int .u8 (xs.getD j 0):=by
 unfold nums at h
 rw [List.getElem?_map] at h
 obtain ⟨x,hx,e⟩:=Option.map_eq_some_iff.mp h;have hl:=(List.getElem?_eq_some_iff.mp hx).1;exact ⟨hl,by rw [List.getD_eq_getElem?_getD,hx];exact e.symm⟩
def STn (w0 : World) (W:World) (acc:List Int) (v:Value):Prop :=
  Kd.R (Kd.int .u8) 5 W w0.heap.size (fun _=>True) v acc∧Below w0.heap.size w0 W
theorem STn_wr {w0 : World} {b:Nat} {l:List Int} (hc:∀ j,j<l.length→w0.cell? ⟨b,j,none⟩=some (.int .u8 (l.getD j 0))) (hb:b<w0.heap.size) (hm:l.length≤2147483647):WR (STn w0) b l where
 app:=fun W acc xs v m ty h hx hm0 hl=>by
  obtain ⟨HO,HB⟩:=h;have HOw:=Kd.own_of_R HO;have hsz:=HB.size;obtain ⟨i0,hi,hzz⟩:=Option.map_eq_some_iff.1 info5;simp only [Prod.mk.injEq] at hzz;obtain ⟨hz0,hz1,hz2⟩:=hzz
  obtain ⟨v1,w1,hr,hown,hg,_,hat⟩:=run_append_own_at (P:=Try.prog) (W.alloc (.cells (nums .u8 xs).toArray 5)) w0.heap.size 38 ty 5 i0 (.int .u8 0) 1 1 Try.underlying38 hi hz0 hz1 hz2 rfl (by omega) v acc.length (encs (Value.int .u8) acc) (HOw.alloc _) ⟨W.heap.size,0,none⟩ m m (nums .u8 xs) (by simp [nums,hx])
   (by
    have:=World.news_of_block (cs:=(nums .u8 xs).toArray) (t:=5) (fr:=(0,0)) (heap_alloc_new W _)
    simpa using this)
   (by intro u hu;simp only [nums,List.mem_map] at hu;obtain ⟨q,_,rfl⟩:=hu;rfl) (by simp only [maxLen];omega) (by omega) zq86
  refine ⟨v1,w1,hr,?_,(HB.alloc hsz _).grown hg zq86 (own_base HOw)⟩;have e1:encs (Value.int .u8) acc++nums .u8 xs=encs (Value.int .u8) (acc++xs):=by rw [encs_append];rfl
  exact Kd.R_of_own (by rw [List.length_append,hx,← e1];exact hown) fun q hq=>trivial
 src:=fun W acc v j h hj _=>(j3k h.2 hb).trans (hc j hj)
 val:=fun W acc v h=>by
  obtain ⟨HO,HB⟩:=h;obtain ⟨A,c,rfl,hlc,hC⟩:=Kd.R_reads HO;refine ⟨A,c,rfl,fun j hj=>?_⟩;have HOw:=Kd.own_of_R HO;rcases HOw.2 with ⟨h0,h1⟩|⟨g,cap,cur,hv,hbg,hgb,_⟩
  ·have h2:=HOw.1;omega
  ·have hA:A=some ⟨g,0,none⟩:=by injection hv
   subst hA
   have hcell:=HOw.cells (g:=g) rfl j (.int .u8 (acc.getD j 0)) (by
    simp only [encs,List.getElem?_map];rw [List.getD_eq_getElem?_getD,List.getElem?_eq_getElem hj];rfl)
   rw [add_at0] at hcell;have hp:=Kd.R_putg (enc:=Value.int .u8) (h1:=fun _=>rfl) HO (j:Int) 32;rw [Int.toNat_natCast] at hp;refine ⟨g,rfl,hcell,by simp [World.frozen?,hgb],?_,?_⟩
   ·exact hp.1
   ·exact HB.grown hp.2 HB.size (fun k hk=>by cases hk;exact hbg)
def STi (w0 : World) (b cap:Nat) (l:List Int) (W:World) (acc:List Int) (v:Value):Prop :=
  v = .slice (some ⟨b,0,none⟩) acc.length cap∧acc.length≤l.length∧(∀ j,j<l.length→W.cell? ⟨b,j,none⟩=some (.int .u8 ((acc++l.drop acc.length).getD j 0))∧W.frozen? ⟨b,j,none⟩=false)∧Below w0.heap.size w0 W
theorem below_cells {B : Nat} {w:World} {b:Nat} (hb:B≤b):∀ (vs:List Value) (o:Nat) (W:World),Below B w W→Below B w (W.setCells b o vs)
 | [],_,W,h=>h
 | v :: vs,o,W,h=>below_cells hb vs (o+1) _ (h.setCell hb _)
theorem mix_lo {acc l : List Int} {j:Nat} (h:j<acc.length):(acc++l.drop acc.length).getD j 0=acc.getD j 0:=by
 rw [List.getD_eq_getElem?_getD,List.getD_eq_getElem?_getD,List.getElem?_append_left h]
theorem mix_hi {acc l : List Int} {j:Nat} (h:acc.length≤j):(acc++l.drop acc.length).getD j 0=l.getD j 0:=by
 rw [List.getD_eq_getElem?_getD,List.getD_eq_getElem?_getD,List.getElem?_append_right h,List.getElem?_drop,Nat.add_sub_cancel' h]
theorem STi_wr {w0 : World} {b cap:Nat} {l:List Int} (hb:w0.heap.size≤b) (hcap:l.length≤cap) (hm:l.length≤2147483647):WR (STi w0 b cap l) b l where
 app:=fun W acc xs v m ty h hx hm0 hl=>by
  obtain ⟨rfl,ha,hc,HB⟩:=h;obtain ⟨i0,hi,hzz⟩:=Option.map_eq_some_iff.1 info5;simp only [Prod.mk.injEq] at hzz;obtain ⟨hz0,hz1,hz2⟩:=hzz;have hbl:b<W.heap.size:=World.block_lt_of_cell? W _ (hc acc.length (by omega)).1;obtain ⟨Wa,hWa⟩:∃ Wa,Wa=W.alloc (.cells (nums .u8 xs).toArray 5):=⟨_,rfl⟩;have hca:∀ j,Wa.cell? ⟨b,j,none⟩=W.cell? ⟨b,j,none⟩:=fun j=>by rw [hWa];exact j3k (j1s (Below.refl W.heap.size W) _) hbl
  have hfa:∀ j,Wa.frozen? ⟨b,j,none⟩=W.frozen? ⟨b,j,none⟩:=fun j=>by rw [hWa];exact (j1s (Below.refl W.heap.size W) _).frozen (p:=⟨b,j,none⟩) hbl
  have hne:=World.news_of_block (cs:=(nums .u8 xs).toArray) (t:=5) (fr:=(0,0)) (heap_alloc_new W (.cells (nums .u8 xs).toArray 5));have hnl:(nums .u8 xs).length=m:=by simp [nums,hx]
  have hin:∀ j,j<(nums .u8 xs).length→(Wa.cell? ⟨b,acc.length+j,none⟩).isSome=true:=fun j hj=>by rw [hca,(hc (acc.length+j) (by omega)).1];rfl
  have hr:=run_append_room_cells (P:=Try.prog) Wa 38 ty 5 i0 Try.underlying38 hi b 0 acc.length cap ⟨W.heap.size,0,none⟩ m m (nums .u8 xs) (by rw [hz1,hnl,Nat.mul_one]) (by rw [hWa];simpa using hne)
   (by intro u hu;simp only [nums,List.mem_map] at hu;obtain ⟨q,_,rfl⟩:=hu;rfl) (by omega) (fun j hj=>by rw [hz1,Nat.mul_one,Nat.zero_add];exact hin j hj) (fun j hj=>by rw [hz1,Nat.mul_one,Nat.zero_add,hfa];exact (hc (acc.length+j) (by omega)).2)
  rw [hz1,Nat.mul_one,Nat.zero_add] at hr;rw [← hWa];refine ⟨_,_,hr,by rw [List.length_append,hx],by rw [List.length_append];omega,fun j hj=>⟨?_,by rw [World.frozen?_setCells,hfa];exact (hc j hj).2⟩,below_cells hb _ _ _ (by rw [hWa];exact HB.alloc HB.size _)⟩;by_cases h1:j<acc.length
  ·rw [World.cell?_setCells_out _ _ _ _ _ (fun _ _ => .inl h1),hca,(hc j hj).1,mix_lo h1,mix_lo (by rw [List.length_append];omega)];rw [List.getD_eq_getElem?_getD,List.getD_eq_getElem?_getD,List.getElem?_append_left h1]
  by_cases h2:j<acc.length+m
  rotate_left
  ·rw [World.cell?_setCells_out _ _ _ _ _ (fun _ _ => .inr (by rw [hnl];show acc.length+m≤j;omega)),hca,(hc j hj).1,mix_hi (by omega),mix_hi (by rw [List.length_append];omega)]
  have:=World.cell?_setCells_in b (nums .u8 xs) acc.length Wa hin (j - acc.length) (by omega);rw [Nat.add_sub_cancel' (by omega)] at this;rw [this,mix_lo (by rw [List.length_append];omega)];have h3:=(nums_get (xs:=xs) (j:=j - acc.length) (List.getElem?_eq_getElem (by omega))).2;rw [h3]
  congr 2
  rw [List.getD_eq_getElem?_getD,List.getD_eq_getElem?_getD,List.getElem?_append_right (by omega)]
 src:=fun W acc v j h hj hh=>by
  rw [(h.2.2.1 j hj).1];by_cases h1:acc.length≤j
  ·rw [mix_hi h1]
  rcases hh with hh|hh
  ·exact absurd hh h1
  rw [mix_lo (by omega),hh]
 val:=fun W acc v h=>by
  obtain ⟨rfl,ha,hc,HB⟩:=h;refine ⟨_,_,rfl,fun j hj=>?_⟩;have h1:=hc j (by omega);rw [mix_lo hj] at h1;refine ⟨b,rfl,h1.1,h1.2,by rw [List.length_set],by rw [List.length_set];exact ha,fun q hq=>?_,HB.setCell hb _⟩;have h2:=hc q hq;refine ⟨?_,by rw [World.frozen?_setCell];exact h2.2⟩;by_cases hqj:q=j
  ·subst hqj;rw [World.cell?_setCell_same _ _ _ h1.1,mix_lo (by rw [List.length_set];exact hj),List.getD_eq_getElem?_getD,List.getElem?_set_self hj];rfl
  rw [World.cell?_setCell_other _ _ _ _ (fun e=>hqj (by injection e with _ e2;exact e2.symm)),h2.1];by_cases h3:q<acc.length
  rotate_left
  ·rw [mix_hi (by omega),mix_hi (by rw [List.length_set];omega)]
  rw [mix_lo h3,mix_lo (by rw [List.length_set];exact h3),List.getD_eq_getElem?_getD,List.getD_eq_getElem?_getD,List.getElem?_set_ne (fun e=>hqj e.symm)]
section
set_option maxHeartbeats 8000000
set_option maxRecDepth 100000
theorem slc_h (A : Option Addr) (n c m:Nat) (hm:m≤c):∀ W:World,(Instr.slice 38 (.slice A n c) none (some (.int .i64 (m:Int))) none).run Try.prog W = .ok (.slice A m c) W:=fun W=>by
 obtain ⟨i0,hi,hzz⟩:=Option.map_eq_some_iff.1 info5;simp only [Prod.mk.injEq] at hzz;have hel:(Try.prog).elem 38=5:=by simp [Program.elem,Try.underlying38]
 have hu:(Try.prog).underlying 38=some (.slice ((Try.prog).elem 38)):=by rw [hel];exact Try.underlying38
 rw [run_slice_h W 38 A n c hu .i64 (m:Int) (Int.natCast_nonneg _) (by omega),hel];cases A with
 | none=>simp [sizeOf,typeInfo,hi,hzz.2.1,sliced,Result.andThen]
 | some a=>simp [sizeOf,typeInfo,hi,hzz.2.1,sliced,Result.andThen,Addr.add]
theorem bytes_gd (s : ByteArray) (j:Nat) (hj:j<s.size):(bytesOf s).getD j 0=((s.data.toList.getD j 0).toNat:Int):=by
 have h':j<s.data.toList.length:=by rw [data_length];exact hj
 simp [bytesOf,List.getD_eq_getElem?_getD,List.getElem?_eq_getElem h']
theorem bytes_u8 (s : ByteArray):∀ x ∈ bytesOf s,0≤x∧x≤255:=fun x hx=>by
 unfold bytesOf at hx;obtain ⟨y,_,rfl⟩:=List.mem_map.mp hx;have:=y.toNat_lt;omega
theorem bytes_cell (w : World) (s:ByteArray) (j:Nat) (hj:j<(bytesOf s).length):(Lib.bytesWorld w 5 s).cell? ⟨w.heap.size,j,none⟩=some (.int .u8 ((bytesOf s).getD j 0)):=by
 rw [bytesOf_length] at hj;rw [Lib.bytesWorld_cell w 5 s j hj,bytes_gd s j hj]
theorem bytes_free (w : World) (s:ByteArray) (j:Nat) (hj:j<s.size):(Lib.bytesWorld w 5 s).frozen? ⟨w.heap.size,j,none⟩=false:=by
 have h:=Lib.bytesWorld_at_new w 5 s;have hs:s.size≤(Lib.bytesCells w 5 s).size:=by simp [Lib.bytesCells]
 unfold World.frozen?;simp only [h];simp only [Bool.and_eq_false_iff,decide_eq_false_iff_not]
 left
 omega
theorem prL_mono : ∀ (k:Nat) (l a:List Int),LeO (prL k l a) (prL (k+1) l a)
 | 0,_,_=>fun r h=>by simp [prL] at h
 | k+1,[],a=>LeO.refl _
 | k+1,c :: r,a=>by
  rw [prL,prL];exact LeO.ite (prL_mono k _ _) (LeO.ite (LeO.bind (LeO.refl _) fun _=>prL_mono k _ _) (LeO.ite (prL_mono k _ _) (LeO.ite (prL_mono k _ _) (prL_mono k _ _))))
def prF (k : Nat) (a0:ByteArray):Option ByteArray:=if a0.size≤2147483647 then (prL k (bytesOf a0) []).map strOfNums else none
theorem prF_mono : ∀ a0 k,LeO (prF k a0) (prF (k+1) a0):=fun a0 k=>LeO.ite (fun r h=>by
 obtain ⟨x,hx,e⟩:=Option.map_eq_some_iff.mp h;rw [prL_mono k _ _ _ hx];exact congrArg some e) (LeO.refl _)
theorem prF_inv {k : Nat} {a0 r:ByteArray} (h:prF k a0=some r):a0.size≤2147483647∧∃ U,prL k (bytesOf a0) []=some U∧r=strOfNums U:=by
 unfold prF at h
 split at h
 ·rename_i hs;obtain ⟨U,hU,e⟩:=Option.map_eq_some_iff.mp h;exact ⟨hs,U,hU,e.symm⟩
 ·cases h
theorem spec20_calls (v : Value) (w:World) (Q:Value→World→Prop) (hU:Calls Try.prog 26 #[v, .slice none 0 0] w fun e w'=>∃ r,e = .returned r∧Q r w') :
 Calls Try.prog 20 #[v] w fun e w'=>∃ r,e = .returned r∧Q r w':=by
 have HU:=mk0 hU;clear hU;go_enter Try.func20,Try.ntmps20;go_wp2_with (first|(go_at_call 26;(with_reducible refine HU.out.mono ?_);rintro e_ w_ ⟨r,rfl,hq⟩;have K:=mk0 hq;clear hq))
 go_ret;exact ⟨_,rfl,K.out⟩
theorem spec17_calls (v : Value) (w:World) (Q:Value→World→Prop) (hU:Calls Try.prog 26 #[v,v] w fun e w'=>∃ r,e = .returned r∧Q r w') :
 Calls Try.prog 17 #[v] w fun e w'=>∃ r,e = .returned r∧Q r w':=by
 have HU:=mk0 hU;clear hU;go_enter Try.func17,Try.ntmps17;go_wp2_with (first|(go_at_call 26;(with_reducible refine HU.out.mono ?_);rintro e_ w_ ⟨r,rfl,hq⟩;have K:=mk0 hq;clear hq))
 go_ret;exact ⟨_,rfl,K.out⟩
theorem prspec0_calls (k : Nat) (a0 r:ByteArray) (w:World) (h:prF k a0=some r):Calls Try.prog 8 #[.string a0] w fun e w'=>e = .returned (.string r)∧Below w.heap.size w w':=by
 obtain ⟨hs,U,hU,rfl⟩:=prF_inv h;have hlen:=bytesOf_length a0;have hcg:=grownCap_ge w a0.size 0 5;have kb:=fun W=>print_bytes (P:=Try.prog) 9 38 5 Try.underlying9 Try.underlying38 Try.underlying5 a0 W
 obtain ⟨W2,hW2⟩:∃ W2,W2=Lib.bytesWorld w 5 a0:=⟨_,rfl⟩;obtain ⟨cc,hcc⟩:∃ cc,cc=grownCap w a0.size 0 5:=⟨_,rfl⟩;have hb2:=bytes_below (B:=w.heap.size) (Below.refl _ w) (Nat.le_refl _) 5 a0;have hsz:=Lib.bytesWorld_size w 5 a0;have hcl:∀ j,j<(bytesOf a0).length→(Lib.bytesWorld w 5 a0).cell? ⟨w.heap.size,j,none⟩=some (.int .u8 ((bytesOf a0).getD j 0)):=fun j hj=>bytes_cell w a0 j hj
 rw [← hW2] at hb2 hsz hcl;have hsl:∀ W,(Instr.slice 38 (.slice none 0 0) none (some (.int .i64 0)) none).run Try.prog W = .ok (.slice none 0 0) W:=slc_h none 0 0 0 (Nat.le_refl _);have HP:=mk0 (prspec_calls (STn W2) w.heap.size cc (bytesOf a0) U k (.slice none 0 0) (.slice none 0 0) W2 (STn_wr hcl (by omega) (by omega)) (bytes_u8 a0) (by omega) hU hsl ⟨Kd.R_nil _ _ _ _ _,Below.refl _ _⟩);rw [hlen] at HP;have HB2:=mk0 hb2;have HSZ:=mk0 hsz;clear hb2 hsz hcl hsl hU h hcg hlen hs;subst hcc;subst hW2;go_enter Try.func8,Try.ntmps8;go_wp2_with (first|(go_at_call 20;(with_reducible refine (spec20_calls _ _ _ HP.out).mono ?_);rintro e_ w3 ⟨v3,rfl,hR3,hB3⟩;obtain ⟨A3,c3,rfl,_,hC3⟩:=Kd.R_reads hR3;have ks:=Kd.C_string (P:=Try.prog) Try.underlying38 Try.underlying5 Try.underlying9 (c:=c3) hC3;have HB3:=mk0 hB3;clear hR3 hC3 hB3))
 go_ret;exact ⟨rfl,j2a HB2.out HB3.out⟩
theorem prspecip_calls (k : Nat) (a0 r:ByteArray) (w:World) (h:prF k a0=some r):Calls Try.prog 6 #[.string a0] w fun e w'=>e = .returned (.string r)∧Below w.heap.size w w':=by
 obtain ⟨hs,U,hU,rfl⟩:=prF_inv h;have hlen:=bytesOf_length a0;have hcg:=grownCap_ge w a0.size 0 5;have kb:=fun W=>print_bytes (P:=Try.prog) 9 38 5 Try.underlying9 Try.underlying38 Try.underlying5 a0 W
 obtain ⟨W2,hW2⟩:∃ W2,W2=Lib.bytesWorld w 5 a0:=⟨_,rfl⟩;obtain ⟨cc,hcc⟩:∃ cc,cc=grownCap w a0.size 0 5:=⟨_,rfl⟩;have hb2:=bytes_below (B:=w.heap.size) (Below.refl _ w) (Nat.le_refl _) 5 a0;have hcl:∀ j,j<(bytesOf a0).length→(Lib.bytesWorld w 5 a0).cell? ⟨w.heap.size,j,none⟩=some (.int .u8 ((bytesOf a0).getD j 0))∧(Lib.bytesWorld w 5 a0).frozen? ⟨w.heap.size,j,none⟩=false:=fun j hj=>⟨bytes_cell w a0 j hj,bytes_free w a0 j (by omega)⟩
 rw [← hW2] at hb2 hcl;rw [← hcc] at hcg;have hsl:∀ W,(Instr.slice 38 (.slice (some ⟨w.heap.size,0,none⟩) a0.size cc) none (some (.int .i64 0)) none).run Try.prog W = .ok (.slice (some ⟨w.heap.size,0,none⟩) 0 cc) W:=slc_h (some ⟨w.heap.size,0,none⟩) a0.size cc 0 (Nat.zero_le _);have hwr:WR (STi w w.heap.size cc (bytesOf a0)) w.heap.size (bytesOf a0):=STi_wr (Nat.le_refl _) (by omega) (by omega);have HP:=mk0 (prspec_calls (STi w w.heap.size cc (bytesOf a0)) w.heap.size cc (bytesOf a0) U k (.slice (some ⟨w.heap.size,0,none⟩) a0.size cc) (.slice (some ⟨w.heap.size,0,none⟩) 0 cc) W2 hwr (bytes_u8 a0) (by omega) hU hsl ⟨rfl,Nat.zero_le _,fun j hj=>hcl j hj,hb2⟩);rw [hlen] at HP;have HC:=mk0 (And.intro hlen hs);clear hb2 hcl hsl hU h hcg hlen hs hwr;subst hcc;subst hW2;go_enter Try.func6,Try.ntmps6;go_wp2_with (first|(go_at_call 17;(with_reducible refine (spec17_calls _ _ _ HP.out).mono ?_);rintro e_ w3 ⟨v3,rfl,rfl,hl3,hC3,hB3⟩;have hk3:(Kd.int .u8).C w3 (some ⟨w.heap.size,0,none⟩) U.length U:=Kd.C_of_reads (enc:=Value.int .u8) (d:=(0:Int)) (h1:=fun _=>rfl) ⟨rfl,(by have:=HC.out;omega),fun _=>⟨⟨w.heap.size,0,none⟩,rfl,fun j hj=>(by rw [add_at0,(hC3 j (by omega)).1,mix_lo hj])⟩⟩;have ks:=Kd.C_string (P:=Try.prog) Try.underlying38 Try.underlying5 Try.underlying9 (c:=grownCap w a0.size 0 5) hk3;have HB3:=mk0 hB3;clear hk3 hC3 hB3 hl3))
 go_ret;exact ⟨rfl,HB3.out⟩
end
mutual
def j1n.j0 : Nat → ByteArray→Int→Bool→Option (Int × Bool)
  | 0,_,_,_=>none
  | k+1,x0,x1,x30=>if x30=true then (some (x1,false)) else (j1n.l0 k x0 x1 (wrap64 (x1+2)))
def j1n.l0 : Nat → ByteArray→Int→Int→Option (Int × Bool)
  | 0,_,_,_=>none
  | k+1,x0,x1,x6=>if x6<(x0.size:Int) then (if 0≤(wrap64 (x1+1)) then (if (wrap64 (x1+1))<(x0.size:Int) then (if (bt x0 (wrap64 (x1+1)))=47 then (if 0≤x6 then (j1n.j2 k x0 x1 x6 ((bt x0 x6) == 10)) else (none)) else (j1n.j2 k x0 x1 x6 false)) else (none)) else (none)) else (if 0≤(wrap64 (x1+1)) then (if (wrap64 (x1+1))<(x0.size:Int) then (some ((x0.size:Int),((bt x0 (wrap64 (x1+1))) == 47))) else (none)) else (none))
def j1n.j2 : Nat → ByteArray→Int→Int→Bool→Option (Int × Bool)
  | 0,_,_,_,_=>none
  | k+1,x0,x1,x6,x40=>if x40=true then (some (x6,true)) else (if 0≤(wrap64 (x1+1)) then (if (wrap64 (x1+1))<(x0.size:Int) then (if (bt x0 (wrap64 (x1+1)))=42 then (if x6>(wrap64 (x1+2)) then (if 0≤(wrap64 (x6 - 1)) then (if (wrap64 (x6 - 1))<(x0.size:Int) then (if (bt x0 (wrap64 (x6 - 1)))=42 then (if 0≤x6 then (if x6<(x0.size:Int) then (if (bt x0 x6)=47 then (some (wrap64 (x6+1),true)) else (j1n.l0 k x0 x1 (wrap64 (x6+1)))) else (none)) else (none)) else (j1n.l0 k x0 x1 (wrap64 (x6+1)))) else (none)) else (none)) else (j1n.l0 k x0 x1 (wrap64 (x6+1)))) else (j1n.l0 k x0 x1 (wrap64 (x6+1)))) else (none)) else (none))
end
def j1n.f (k : Nat) (a0:ByteArray) (a1:Int):Option (Int × Bool):=if 0≤a1 then (if a1<(a0.size:Int) then (if (bt a0 a1)=47 then (if (wrap64 (a1+1))=(a0.size:Int) then (j1n.j0 k a0 a1 true) else (if 0≤(wrap64 (a1+1)) then (if (wrap64 (a1+1))<(a0.size:Int) then (if (bt a0 (wrap64 (a1+1)))=47 then (j1n.j0 k a0 a1 false) else (j1n.j0 k a0 a1 ((bt a0 (wrap64 (a1+1))) != 42))) else (none)) else (none))) else (some (a1,true))) else (none)) else (none)
theorem j1n.mono_l : ∀ k,(∀ y0 y1 y2,LeO (j1n.j0 k y0 y1 y2) (j1n.j0 (k+1) y0 y1 y2))∧(∀ y0 y1 y2,LeO (j1n.l0 k y0 y1 y2) (j1n.l0 (k+1) y0 y1 y2))∧(∀ y0 y1 y2 y3,LeO (j1n.j2 k y0 y1 y2 y3) (j1n.j2 (k+1) y0 y1 y2 y3))
 | 0=>⟨fun _ _ _ r h=>by simp [j1n.j0] at h,fun _ _ _ r h=>by simp [j1n.l0] at h,fun _ _ _ _ r h=>by simp [j1n.j2] at h⟩
 | k+1=>by
  obtain ⟨ih0,ih1,ih2⟩:=j1n.mono_l k;refine ⟨?_,?_,?_⟩
  ·intro y0 y1 y2;unfold j1n.j0
   exact zm
  ·intro y0 y1 y2;unfold j1n.l0
   exact zm
  ·intro y0 y1 y2 y3;unfold j1n.j2
   exact zm
theorem j1n.mono : ∀ a0 a1 k,LeO (j1n.f k a0 a1) (j1n.f (k+1) a0 a1):=by
 intro a0 a1 k;obtain ⟨ih0,ih1,ih2⟩:=j1n.mono_l k;unfold j1n.f
 exact zm
set_option maxHeartbeats 8000000 in
set_option maxRecDepth 100000 in
theorem j1n.calls (k : Nat) (a0:ByteArray) (a1:Int) (r1:Int) (r2:Bool) (w:World) (h:j1n.f k a0 a1=some (r1,r2)) :
 Calls Try.prog 13 #[.string a0, .int .i64 a1] w fun e w'=>e = .returned (.tuple #[.int .i64 r1, .bool r2])∧Drawn0 w w':=by
 have H:(if 0≤a1 then (if a1<(a0.size:Int) then (if (bt a0 a1)=47 then (if (wrap64 (a1+1))=(a0.size:Int) then (j1n.j0 k a0 a1 true) else (if 0≤(wrap64 (a1+1)) then (if (wrap64 (a1+1))<(a0.size:Int) then (if (bt a0 (wrap64 (a1+1)))=47 then (j1n.j0 k a0 a1 false) else (j1n.j0 k a0 a1 ((bt a0 (wrap64 (a1+1))) != 42))) else (none)) else (none))) else (some (a1,true))) else (none)) else (none))=some (r1,r2):=h;clear h;by_cases c3:0≤a1
 rotate_left
 ·rw [if_neg c3] at H;exact absurd H (by simp)
 rw [if_pos c3] at H;have c3b0:decide (0≤a1)=true:=decide_eq_true c3;clear c3;by_cases c4:a1<(a0.size:Int)
 rotate_left
 ·rw [if_neg c4] at H;exact absurd H (by simp)
 rw [if_pos c4] at H;have c4b0:decide (a1<(a0.size:Int))=true:=decide_eq_true c4;clear c4;by_cases c6:(bt a0 a1)=47
 rotate_left
 ·rw [if_neg c6] at H;have c6b0:((bt a0 a1) == 47)=false:=beq_eq_false_iff_ne.mpr c6;have c6b1:((bt a0 a1) != 47)=true:=bne_iff_ne.mpr c6;simp only [Option.some.injEq,Prod.mk.injEq] at H;obtain ⟨rfl,rfl⟩:=H;have p5:0≤(a1:Int):=of_decide_eq_true zq12;have q5:a1<(a0.size:Int):=of_decide_eq_true zq12;have hx5:=bt_at a0 a1;replace p5:=eq_true p5;replace q5:=eq_true q5;go_enter Try.func13,Try.ntmps13;go_wp2
  repeat (go_quiet (fail);try go_wp2)
  go_ret2;exact zl11
 rw [if_pos c6] at H;have c6b0:((bt a0 a1) == 47)=true:=beq_iff_eq.mpr c6;have c6b1:((bt a0 a1) != 47)=false:=bne_eq_false_iff_eq.mpr c6;clear c6;have HC7:=mk0 H;clear H;have p5:0≤(a1:Int):=of_decide_eq_true zq12;have q5:a1<(a0.size:Int):=of_decide_eq_true zq12;have hx5:=bt_at a0 a1;replace p5:=eq_true p5;replace q5:=eq_true q5;go_enter Try.func13,Try.ntmps13;go_upto_region 3 with (fail)
 repeat (go_quiet (fail);go_upto_region 3 with (fail))
 go_cut [30] (fun v30 wc=>∃ (kq:Nat) (x30_6:Bool),v30 = .bool x30_6∧Aside0 (j1n.j0 kq a0 a1 x30_6=some (r1,r2))∧Aside0 (kq≤k)∧Drawn0 w wc)
 case first =>
  have H:=HC7.out;clear HC7;by_cases c8:(wrap64 (a1+1))=(a0.size:Int)
  ·rw [if_pos c8] at H;have c8b0:((wrap64 (a1+1)) == (a0.size:Int))=true:=beq_iff_eq.mpr c8;have c8b1:((wrap64 (a1+1)) != (a0.size:Int))=false:=bne_eq_false_iff_eq.mpr c8;clear c8;(first|rw [c8b0]|(simp only [i64_w,i32_w];rw [c8b0])|skip);have H':=mk0 H;clear H;go_wp2
   repeat (go_quiet (fail);try go_wp2)
   go_meet
   case rel=>exact ⟨_,(true),zq27,H',⟨by first|omega|exact Nat.le_refl _⟩,by repeat (first|exact Drawn0.refl _|apply Drawn0.step)⟩
  rw [if_neg c8] at H;have c8b0:((wrap64 (a1+1)) == (a0.size:Int))=false:=beq_eq_false_iff_ne.mpr c8;have c8b1:((wrap64 (a1+1)) != (a0.size:Int))=true:=bne_iff_ne.mpr c8;(first|rw [c8b0]|(simp only [i64_w,i32_w];rw [c8b0])|skip);obtain ⟨ji9,hji9⟩:∃ j_:Int,(wrap64 (a1+1))=j_:=⟨_,rfl⟩;replace H:(if 0≤(ji9) then (if (ji9)<(a0.size:Int) then (if (bt a0 (ji9))=47 then (j1n.j0 k a0 a1 false) else (j1n.j0 k a0 a1 ((bt a0 (ji9)) != 42))) else (none)) else (none))=some (r1,r2):=by first|(rw [hji9] at H;exact H)|(simp only [hji9] at H ⊢; exact H)
  (try rw [hji9] at c8b0);(try rw [hji9] at c8b1);have hji9w:(IntKind.i64.wrap (a1+1))=ji9:=(i64_w _).trans hji9;by_cases c10:0≤(ji9)
  rotate_left
  ·rw [if_neg c10] at H;exact absurd H (by simp)
  rw [if_pos c10] at H;have c10b0:decide (0≤(ji9))=true:=decide_eq_true c10;clear c10;by_cases c11:(ji9)<(a0.size:Int)
  rotate_left
  ·rw [if_neg c11] at H;exact absurd H (by simp)
  rw [if_pos c11] at H;have c11b0:decide ((ji9)<(a0.size:Int))=true:=decide_eq_true c11;clear c11;by_cases c13:(bt a0 (ji9))=47
  ·rw [if_pos c13] at H;have c13b0:((bt a0 (ji9)) == 47)=true:=beq_iff_eq.mpr c13;have c13b1:((bt a0 (ji9)) != 47)=false:=bne_eq_false_iff_eq.mpr c13;clear c13;have H':=mk0 H;clear H;have p12:0≤((ji9):Int):=of_decide_eq_true zq12;have q12:(ji9)<(a0.size:Int):=of_decide_eq_true zq12;have hx12:=bt_at a0 (ji9);replace p12:=eq_true p12;replace q12:=eq_true q12;go_wp2
   repeat (go_quiet (fail);try go_wp2)
   (try simp only [← hji9]);go_meet
   case rel=>(try simp only [hji9]);exact ⟨_,(false),(by first|with_reducible rfl|(simp only [← hji9];done)|rfl|(simp;done)|(simp [*];done)),(by first|exact H'|(simp only [← hji9] at H' ⊢; exact H')),⟨by first|omega|exact Nat.le_refl _⟩,by repeat (first|exact Drawn0.refl _|apply Drawn0.step)⟩
  rw [if_neg c13] at H;have c13b0:((bt a0 (ji9)) == 47)=false:=beq_eq_false_iff_ne.mpr c13;have c13b1:((bt a0 (ji9)) != 47)=true:=bne_iff_ne.mpr c13;have H':=mk0 H;clear H;have p12:0≤((ji9):Int):=of_decide_eq_true zq12;have q12:(ji9)<(a0.size:Int):=of_decide_eq_true zq12;have hx12:=bt_at a0 (ji9);replace p12:=eq_true p12;replace q12:=eq_true q12;have p14:0≤((ji9):Int):=of_decide_eq_true zq12;have q14:(ji9)<(a0.size:Int):=of_decide_eq_true zq12;have hx14:=bt_at a0 (ji9);replace p14:=eq_true p14;replace q14:=eq_true q14;go_wp2
  repeat (go_quiet (fail);try go_wp2)
  (try simp only [← hji9]);go_meet
  case rel=>(try simp only [hji9]);exact ⟨_,(((bt a0 (ji9)) != 42)),(by first|with_reducible rfl|(simp only [← hji9];done)|rfl|(simp;done)|(simp only [← hji9]<;>(first|rfl|(simp;done)))|(simp only [← hji9];done)|(simp only [← hji9];rfl)|(simp [*];done)),(by first|exact H'|(simp only [← hji9] at H' ⊢; exact H')),⟨by first|omega|exact Nat.le_refl _⟩,by repeat (first|exact Drawn0.refl _|apply Drawn0.step)⟩
 case rest =>
  clear HC7
  try clear c1
  try clear p1
  try clear q1
  try clear hx1
  try clear p2
  try clear c3
  try clear c3b0
  try clear c4
  try clear c4b0
  try clear p5
  try clear q5
  try clear hx5
  try clear c6
  try clear c6b0
  try clear c6b1
  try clear p6
  try clear c8
  try clear c8b0
  try clear c8b1
  try clear c10
  try clear c10b0
  try clear c11
  try clear c11b0
  try clear p12
  try clear q12
  try clear hx12
  try clear c13
  try clear c13b0
  try clear c13b1
  try clear p14
  try clear q14
  try clear hx14
  try clear p12
  try clear p14
  try clear p5
  try clear q12
  try clear q14
  try clear q5
  obtain ⟨kq,x30_6,rfl,HA,HJ6,⟨mc6,rfl⟩⟩:=hcut;cases kq with
  | zero=>exact absurd HA.out (by simp [j1n.j0])
  | succ kj6 =>
   have H:=HA.out;clear HA;simp only [j1n.j0] at H;by_cases c15:x30_6=true
   ·subst c15;have H1:(some (a1,false))=some (r1,r2):=by rw [if_pos rfl] at H;exact H
    clear H;have H:=H1;clear H1;simp only [Option.some.injEq,Prod.mk.injEq] at H;obtain ⟨rfl,rfl⟩:=H;go_wp2
    repeat (go_quiet (fail);try go_wp2)
    go_ret2;exact zl11
   replace c15:=Bool.eq_false_iff.mpr c15;subst c15;have H1:(j1n.l0 kj6 a0 a1 (wrap64 (a1+2)))=some (r1,r2):=by rw [if_neg (show ¬ (false=true) by decide)] at H;exact H
   clear H;have H:=H1;clear H1;have H':=mk0 H;clear H;go_wp2
   repeat (go_quiet (fail);try go_wp2)
   go_loopg [6] kj6 (fun kq v6 w'=>∃ (x6_2:Int),v6 = .int .i64 x6_2∧Aside0 (j1n.l0 kq a0 a1 x6_2=some (r1,r2))∧Aside0 (kq≤kj6)∧Drawn0 w w')
   case atStart=>exact ⟨(wrap64 (a1+2)),zq27,H',⟨Nat.le_refl _⟩,by repeat (first|exact Drawn0.refl _|apply Drawn0.step)⟩
   case round =>
    clear H'
    try clear c1
    try clear p1
    try clear q1
    try clear hx1
    try clear p2
    try clear c3
    try clear c3b0
    try clear c4
    try clear c4b0
    try clear p5
    try clear q5
    try clear hx5
    try clear c6
    try clear c6b0
    try clear c6b1
    try clear p6
    try clear c8
    try clear c8b0
    try clear c8b1
    try clear c10
    try clear c10b0
    try clear c11
    try clear c11b0
    try clear p12
    try clear q12
    try clear hx12
    try clear c13
    try clear c13b0
    try clear c13b1
    try clear p14
    try clear q14
    try clear hx14
    try clear c15
    try clear p1
    try clear p12
    try clear p14
    try clear p2
    try clear p5
    try clear p6
    try clear q1
    try clear q12
    try clear q14
    try clear q5
    obtain ⟨x6_2,rfl,HA,HK2,⟨m2,rfl⟩⟩:=hrel;cases gk with
    | zero=>exact absurd HA.out (by simp [j1n.l0])
    | succ k2 =>
     have H:=HA.out;clear HA;simp only [j1n.l0] at H;by_cases c16:x6_2<(a0.size:Int)
     rotate_left
     ·rw [if_neg c16] at H;have c16b0:decide (x6_2<(a0.size:Int))=false:=decide_eq_false c16;clear c16;obtain ⟨ji41,hji41⟩:∃ j_:Int,(wrap64 (a1+1))=j_:=⟨_,rfl⟩;replace H:(if 0≤(ji41) then (if (ji41)<(a0.size:Int) then (some ((a0.size:Int),((bt a0 (ji41)) == 47))) else (none)) else (none))=some (r1,r2):=by first|(rw [hji41] at H;exact H)|(simp only [hji41] at H ⊢; exact H)
      have hji41w:(IntKind.i64.wrap (a1+1))=ji41:=(i64_w _).trans hji41;by_cases c42:0≤(ji41)
      rotate_left
      ·rw [if_neg c42] at H;exact absurd H (by simp)
      rw [if_pos c42] at H;have c42b0:decide (0≤(ji41))=true:=decide_eq_true c42;clear c42;by_cases c43:(ji41)<(a0.size:Int)
      rotate_left
      ·rw [if_neg c43] at H;exact absurd H (by simp)
      rw [if_pos c43] at H;have c43b0:decide ((ji41)<(a0.size:Int))=true:=decide_eq_true c43;clear c43;simp only [Option.some.injEq,Prod.mk.injEq] at H;obtain ⟨rfl,rfl⟩:=H;have p44:0≤((ji41):Int):=of_decide_eq_true zq12;have q44:(ji41)<(a0.size:Int):=of_decide_eq_true zq12;have hx44:=bt_at a0 (ji41);replace p44:=eq_true p44;replace q44:=eq_true q44;go_wp2
      repeat (go_quiet (fail);try go_wp2)
      go_ret2;exact ⟨by first|rfl|(simp;done)|(simp only [← hji41]<;>(first|rfl|(simp;done)))|(simp only [← hji41];done)|(simp only [← hji41];rfl)|(simp [*];done),by repeat (first|exact Drawn0.refl _|apply Drawn0.step)⟩
     rw [if_pos c16] at H;have c16b0:decide (x6_2<(a0.size:Int))=true:=decide_eq_true c16;clear c16;have HC17:=mk0 H;clear H;go_upto_region 8 with (fail)
     repeat (go_quiet (fail);go_upto_region 8 with (fail))
     go_cut [40] (fun v40 wc=>∃ (kq:Nat) (x40_16:Bool),v40 = .bool x40_16∧Aside0 (j1n.j2 kq a0 a1 x6_2 x40_16=some (r1,r2))∧Aside0 (kq≤k2)∧Drawn0 w wc)
     case first =>
      have H:=HC17.out;clear HC17;obtain ⟨ji18,hji18⟩:∃ j_:Int,(wrap64 (a1+1))=j_:=⟨_,rfl⟩;replace H:(if 0≤(ji18) then (if (ji18)<(a0.size:Int) then (if (bt a0 (ji18))=47 then (if 0≤x6_2 then (j1n.j2 k2 a0 a1 x6_2 ((bt a0 x6_2) == 10)) else (none)) else (j1n.j2 k2 a0 a1 x6_2 false)) else (none)) else (none))=some (r1,r2):=by first|(rw [hji18] at H;exact H)|(simp only [hji18] at H ⊢; exact H)
      have hji18w:(IntKind.i64.wrap (a1+1))=ji18:=(i64_w _).trans hji18;by_cases c19:0≤(ji18)
      rotate_left
      ·rw [if_neg c19] at H;exact absurd H (by simp)
      rw [if_pos c19] at H;have c19b0:decide (0≤(ji18))=true:=decide_eq_true c19;clear c19;(first|rw [c19b0]|(simp only [i64_w,i32_w];rw [c19b0])|skip);by_cases c20:(ji18)<(a0.size:Int)
      rotate_left
      ·rw [if_neg c20] at H;exact absurd H (by simp)
      rw [if_pos c20] at H;have c20b0:decide ((ji18)<(a0.size:Int))=true:=decide_eq_true c20;clear c20;by_cases c22:(bt a0 (ji18))=47
      rotate_left
      ·rw [if_neg c22] at H;have c22b0:((bt a0 (ji18)) == 47)=false:=beq_eq_false_iff_ne.mpr c22;have c22b1:((bt a0 (ji18)) != 47)=true:=bne_iff_ne.mpr c22;have H':=mk0 H;clear H;have p21:0≤((ji18):Int):=of_decide_eq_true zq12;have q21:(ji18)<(a0.size:Int):=of_decide_eq_true zq12;have hx21:=bt_at a0 (ji18);replace p21:=eq_true p21;replace q21:=eq_true q21;go_wp2
       repeat (go_quiet (fail);try go_wp2)
       (try simp only [← hji18]);go_meet
       case rel=>(try simp only [hji18]);exact ⟨_,(false),(by first|with_reducible rfl|(simp only [← hji18];done)|rfl|(simp;done)|(simp [*];done)),(by first|exact H'|(simp only [← hji18] at H' ⊢; exact H')),⟨by have:=HJ6.out;have:=HK2.out;first|omega|exact Nat.le_refl _⟩,by repeat (first|exact Drawn0.refl _|apply Drawn0.step)⟩
      rw [if_pos c22] at H;have c22b0:((bt a0 (ji18)) == 47)=true:=beq_iff_eq.mpr c22;have c22b1:((bt a0 (ji18)) != 47)=false:=bne_eq_false_iff_eq.mpr c22;clear c22;by_cases c23:0≤x6_2
      rotate_left
      ·rw [if_neg c23] at H;exact absurd H (by simp)
      rw [if_pos c23] at H;have c23b0:decide (0≤x6_2)=true:=decide_eq_true c23;clear c23;have H':=mk0 H;clear H;have p21:0≤((ji18):Int):=of_decide_eq_true zq12;have q21:(ji18)<(a0.size:Int):=of_decide_eq_true zq12;have hx21:=bt_at a0 (ji18);replace p21:=eq_true p21;replace q21:=eq_true q21;have p24:0≤(x6_2:Int):=of_decide_eq_true zq12;have q24:x6_2<(a0.size:Int):=of_decide_eq_true zq12;have hx24:=bt_at a0 x6_2;replace p24:=eq_true p24;replace q24:=eq_true q24;go_wp2
      repeat (go_quiet (fail);try go_wp2)
      (try simp only [← hji18]);go_meet
      case rel=>(try simp only [hji18]);exact ⟨_,(((bt a0 x6_2) == 10)),(by first|with_reducible rfl|(simp only [← hji18];done)|rfl|(simp;done)|(simp [*];done)),(by first|exact H'|(simp only [← hji18] at H' ⊢; exact H')),⟨by have:=HJ6.out;have:=HK2.out;first|omega|exact Nat.le_refl _⟩,by repeat (first|exact Drawn0.refl _|apply Drawn0.step)⟩
     case rest =>
      clear HC17
      try clear c1
      try clear p1
      try clear q1
      try clear hx1
      try clear c2
      try clear p2
      try clear q2
      try clear hx2
      try clear c3
      try clear c3b0
      try clear c4
      try clear c4b0
      try clear p5
      try clear q5
      try clear hx5
      try clear c6
      try clear c6b0
      try clear c6b1
      try clear p6
      try clear c8
      try clear c8b0
      try clear c8b1
      try clear c10
      try clear c10b0
      try clear c11
      try clear c11b0
      try clear p12
      try clear q12
      try clear hx12
      try clear c13
      try clear c13b0
      try clear c13b1
      try clear p14
      try clear q14
      try clear hx14
      try clear c15
      try clear c16
      try clear c16b0
      try clear c19
      try clear c19b0
      try clear c20
      try clear c20b0
      try clear p21
      try clear q21
      try clear hx21
      try clear c22
      try clear c22b0
      try clear c22b1
      try clear c23
      try clear c23b0
      try clear p24
      try clear q24
      try clear hx24
      try clear p1
      try clear p12
      try clear p14
      try clear p2
      try clear p21
      try clear p24
      try clear p5
      try clear p6
      try clear q1
      try clear q12
      try clear q14
      try clear q21
      try clear q24
      try clear q5
      obtain ⟨kq,x40_16,rfl,HA,HJ16,⟨mc16,rfl⟩⟩:=hcut;cases kq with
      | zero=>exact absurd HA.out (by simp [j1n.j2])
      | succ kj16 =>
       have H:=HA.out;clear HA;simp only [j1n.j2] at H;by_cases c25:x40_16=true
       ·subst c25;have H1:(some (x6_2,true))=some (r1,r2):=by rw [if_pos rfl] at H;exact H
        clear H;have H:=H1;clear H1;simp only [Option.some.injEq,Prod.mk.injEq] at H;obtain ⟨rfl,rfl⟩:=H;go_wp2
        repeat (go_quiet (fail);try go_wp2)
        go_ret2;exact zl11
       replace c25:=Bool.eq_false_iff.mpr c25;subst c25;have H1:(if 0≤(wrap64 (a1+1)) then (if (wrap64 (a1+1))<(a0.size:Int) then (if (bt a0 (wrap64 (a1+1)))=42 then (if x6_2>(wrap64 (a1+2)) then (if 0≤(wrap64 (x6_2 - 1)) then (if (wrap64 (x6_2 - 1))<(a0.size:Int) then (if (bt a0 (wrap64 (x6_2 - 1)))=42 then (if 0≤x6_2 then (if x6_2<(a0.size:Int) then (if (bt a0 x6_2)=47 then (some (wrap64 (x6_2+1),true)) else (j1n.l0 kj16 a0 a1 (wrap64 (x6_2+1)))) else (none)) else (none)) else (j1n.l0 kj16 a0 a1 (wrap64 (x6_2+1)))) else (none)) else (none)) else (j1n.l0 kj16 a0 a1 (wrap64 (x6_2+1)))) else (j1n.l0 kj16 a0 a1 (wrap64 (x6_2+1)))) else (none)) else (none))=some (r1,r2):=by rw [if_neg (show ¬ (false=true) by decide)] at H;exact H
       clear H;have H:=H1;clear H1;obtain ⟨ji26,hji26⟩:∃ j_:Int,(wrap64 (a1+1))=j_:=⟨_,rfl⟩;replace H:(if 0≤(ji26) then (if (ji26)<(a0.size:Int) then (if (bt a0 (ji26))=42 then (if x6_2>(wrap64 (a1+2)) then (if 0≤(wrap64 (x6_2 - 1)) then (if (wrap64 (x6_2 - 1))<(a0.size:Int) then (if (bt a0 (wrap64 (x6_2 - 1)))=42 then (if 0≤x6_2 then (if x6_2<(a0.size:Int) then (if (bt a0 x6_2)=47 then (some (wrap64 (x6_2+1),true)) else (j1n.l0 kj16 a0 a1 (wrap64 (x6_2+1)))) else (none)) else (none)) else (j1n.l0 kj16 a0 a1 (wrap64 (x6_2+1)))) else (none)) else (none)) else (j1n.l0 kj16 a0 a1 (wrap64 (x6_2+1)))) else (j1n.l0 kj16 a0 a1 (wrap64 (x6_2+1)))) else (none)) else (none))=some (r1,r2):=by first|(rw [hji26] at H;exact H)|(simp only [hji26] at H ⊢; exact H)
       have hji26w:(IntKind.i64.wrap (a1+1))=ji26:=(i64_w _).trans hji26;by_cases c27:0≤(ji26)
       rotate_left
       ·rw [if_neg c27] at H;exact absurd H (by simp)
       rw [if_pos c27] at H;have c27b0:decide (0≤(ji26))=true:=decide_eq_true c27;clear c27;by_cases c28:(ji26)<(a0.size:Int)
       rotate_left
       ·rw [if_neg c28] at H;exact absurd H (by simp)
       rw [if_pos c28] at H;have c28b0:decide ((ji26)<(a0.size:Int))=true:=decide_eq_true c28;clear c28;by_cases c30:(bt a0 (ji26))=42
       rotate_left
       ·rw [if_neg c30] at H;have c30b0:((bt a0 (ji26)) == 42)=false:=beq_eq_false_iff_ne.mpr c30;have c30b1:((bt a0 (ji26)) != 42)=true:=bne_iff_ne.mpr c30;have H':=mk0 H;clear H;have p29:0≤((ji26):Int):=of_decide_eq_true zq12;have q29:(ji26)<(a0.size:Int):=of_decide_eq_true zq12;have hx29:=bt_at a0 (ji26);replace p29:=eq_true p29;replace q29:=eq_true q29;go_wp2
        repeat (go_quiet (fail);try go_wp2)
        (try simp only [← hji26]);go_roundg kj16
        case measure=>have:=HJ6.out;have:=HK2.out;have:=HJ16.out;omega
        case rel=>(try simp only [hji26]);exact ⟨(wrap64 (x6_2+1)),(by first|with_reducible rfl|(simp only [← hji26];done)|rfl|(simp;done)|(simp [*];done)),(by first|exact H'|(simp only [← hji26] at H' ⊢; exact H')),⟨by have:=HJ6.out;have:=HK2.out;have:=HJ16.out;omega⟩,by repeat (first|exact Drawn0.refl _|apply Drawn0.step)⟩
       rw [if_pos c30] at H;have c30b0:((bt a0 (ji26)) == 42)=true:=beq_iff_eq.mpr c30;have c30b1:((bt a0 (ji26)) != 42)=false:=bne_eq_false_iff_eq.mpr c30;clear c30;by_cases c31:x6_2>(wrap64 (a1+2))
       rotate_left
       ·rw [if_neg c31] at H;have c31b0:decide ((wrap64 (a1+2))<x6_2)=false:=decide_eq_false c31;clear c31;have H':=mk0 H;clear H;have p29:0≤((ji26):Int):=of_decide_eq_true zq12;have q29:(ji26)<(a0.size:Int):=of_decide_eq_true zq12;have hx29:=bt_at a0 (ji26);replace p29:=eq_true p29;replace q29:=eq_true q29;go_wp2
        repeat (go_quiet (fail);try go_wp2)
        (try simp only [← hji26]);go_roundg kj16
        case measure=>have:=HJ6.out;have:=HK2.out;have:=HJ16.out;omega
        case rel=>(try simp only [hji26]);exact ⟨(wrap64 (x6_2+1)),(by first|with_reducible rfl|(simp only [← hji26];done)|rfl|(simp;done)|(simp [*];done)),(by first|exact H'|(simp only [← hji26] at H' ⊢; exact H')),⟨by have:=HJ6.out;have:=HK2.out;have:=HJ16.out;omega⟩,by repeat (first|exact Drawn0.refl _|apply Drawn0.step)⟩
       rw [if_pos c31] at H;have c31b0:decide ((wrap64 (a1+2))<x6_2)=true:=decide_eq_true c31;clear c31;obtain ⟨ji32,hji32⟩:∃ j_:Int,(wrap64 (x6_2 - 1))=j_:=⟨_,rfl⟩;replace H:(if 0≤(ji32) then (if (ji32)<(a0.size:Int) then (if (bt a0 (ji32))=42 then (if 0≤x6_2 then (if x6_2<(a0.size:Int) then (if (bt a0 x6_2)=47 then (some (wrap64 (x6_2+1),true)) else (j1n.l0 kj16 a0 a1 (wrap64 (x6_2+1)))) else (none)) else (none)) else (j1n.l0 kj16 a0 a1 (wrap64 (x6_2+1)))) else (none)) else (none))=some (r1,r2):=by first|(rw [hji32] at H;exact H)|(simp only [hji32] at H ⊢; exact H)
       have hji32w:(IntKind.i64.wrap (x6_2 - 1))=ji32:=(i64_w _).trans hji32;by_cases c33:0≤(ji32)
       rotate_left
       ·rw [if_neg c33] at H;exact absurd H (by simp)
       rw [if_pos c33] at H;have c33b0:decide (0≤(ji32))=true:=decide_eq_true c33;clear c33;by_cases c34:(ji32)<(a0.size:Int)
       rotate_left
       ·rw [if_neg c34] at H;exact absurd H (by simp)
       rw [if_pos c34] at H;have c34b0:decide ((ji32)<(a0.size:Int))=true:=decide_eq_true c34;clear c34;by_cases c36:(bt a0 (ji32))=42
       rotate_left
       ·rw [if_neg c36] at H;have c36b0:((bt a0 (ji32)) == 42)=false:=beq_eq_false_iff_ne.mpr c36;have c36b1:((bt a0 (ji32)) != 42)=true:=bne_iff_ne.mpr c36;have H':=mk0 H;clear H;have p29:0≤((ji26):Int):=of_decide_eq_true zq12;have q29:(ji26)<(a0.size:Int):=of_decide_eq_true zq12;have hx29:=bt_at a0 (ji26);replace p29:=eq_true p29;replace q29:=eq_true q29;have p35:0≤((ji32):Int):=of_decide_eq_true zq12;have q35:(ji32)<(a0.size:Int):=of_decide_eq_true zq12;have hx35:=bt_at a0 (ji32);replace p35:=eq_true p35;replace q35:=eq_true q35;go_wp2
        repeat (go_quiet (fail);try go_wp2)
        (try simp only [← hji26,← hji32]);go_roundg kj16
        case measure=>have:=HJ6.out;have:=HK2.out;have:=HJ16.out;omega
        case rel=>(try simp only [hji26,hji32]);exact ⟨(wrap64 (x6_2+1)),(by first|with_reducible rfl|(simp only [← hji26,← hji32];done)|rfl|(simp;done)|(simp [*];done)),(by first|exact H'|(simp only [← hji26,← hji32] at H' ⊢; exact H')),⟨by have:=HJ6.out;have:=HK2.out;have:=HJ16.out;omega⟩,by repeat (first|exact Drawn0.refl _|apply Drawn0.step)⟩
       rw [if_pos c36] at H;have c36b0:((bt a0 (ji32)) == 42)=true:=beq_iff_eq.mpr c36;have c36b1:((bt a0 (ji32)) != 42)=false:=bne_eq_false_iff_eq.mpr c36;clear c36;by_cases c37:0≤x6_2
       rotate_left
       ·rw [if_neg c37] at H;exact absurd H (by simp)
       rw [if_pos c37] at H;have c37b0:decide (0≤x6_2)=true:=decide_eq_true c37;clear c37;by_cases c38:x6_2<(a0.size:Int)
       rotate_left
       ·rw [if_neg c38] at H;exact absurd H (by simp)
       rw [if_pos c38] at H;have c38b0:decide (x6_2<(a0.size:Int))=true:=decide_eq_true c38;clear c38;by_cases c40:(bt a0 x6_2)=47
       ·rw [if_pos c40] at H;have c40b0:((bt a0 x6_2) == 47)=true:=beq_iff_eq.mpr c40;have c40b1:((bt a0 x6_2) != 47)=false:=bne_eq_false_iff_eq.mpr c40;clear c40;simp only [Option.some.injEq,Prod.mk.injEq] at H;obtain ⟨rfl,rfl⟩:=H;have p29:0≤((ji26):Int):=of_decide_eq_true zq12;have q29:(ji26)<(a0.size:Int):=of_decide_eq_true zq12;have hx29:=bt_at a0 (ji26);replace p29:=eq_true p29;replace q29:=eq_true q29;have p35:0≤((ji32):Int):=of_decide_eq_true zq12;have q35:(ji32)<(a0.size:Int):=of_decide_eq_true zq12;have hx35:=bt_at a0 (ji32);replace p35:=eq_true p35;replace q35:=eq_true q35;have p39:0≤(x6_2:Int):=of_decide_eq_true zq12;have q39:x6_2<(a0.size:Int):=of_decide_eq_true zq12;have hx39:=bt_at a0 x6_2;replace p39:=eq_true p39;replace q39:=eq_true q39;go_wp2
        repeat (go_quiet (fail);try go_wp2)
        go_ret2;exact ⟨by first|rfl|(simp;done)|(simp only [← hji26,← hji32]<;>(first|rfl|(simp;done)))|(simp only [← hji26,← hji32];done)|(simp only [← hji26,← hji32];rfl)|(simp [*];done),by repeat (first|exact Drawn0.refl _|apply Drawn0.step)⟩
       rw [if_neg c40] at H;have c40b0:((bt a0 x6_2) == 47)=false:=beq_eq_false_iff_ne.mpr c40;have c40b1:((bt a0 x6_2) != 47)=true:=bne_iff_ne.mpr c40;have H':=mk0 H;clear H;have p29:0≤((ji26):Int):=of_decide_eq_true zq12;have q29:(ji26)<(a0.size:Int):=of_decide_eq_true zq12;have hx29:=bt_at a0 (ji26);replace p29:=eq_true p29;replace q29:=eq_true q29;have p35:0≤((ji32):Int):=of_decide_eq_true zq12;have q35:(ji32)<(a0.size:Int):=of_decide_eq_true zq12;have hx35:=bt_at a0 (ji32);replace p35:=eq_true p35;replace q35:=eq_true q35;have p39:0≤(x6_2:Int):=of_decide_eq_true zq12;have q39:x6_2<(a0.size:Int):=of_decide_eq_true zq12;have hx39:=bt_at a0 x6_2;replace p39:=eq_true p39;replace q39:=eq_true q39;go_wp2
       repeat (go_quiet (fail);try go_wp2)
       (try simp only [← hji26,← hji32]);go_roundg kj16
       case measure=>have:=HJ6.out;have:=HK2.out;have:=HJ16.out;omega
       case rel=>(try simp only [hji26,hji32]);exact ⟨(wrap64 (x6_2+1)),(by first|with_reducible rfl|(simp only [← hji26,← hji32];done)|rfl|(simp;done)|(simp [*];done)),(by first|exact H'|(simp only [← hji26,← hji32] at H' ⊢; exact H')),⟨by have:=HJ6.out;have:=HK2.out;have:=HJ16.out;omega⟩,by repeat (first|exact Drawn0.refl _|apply Drawn0.step)⟩
def IsS44 (w0 W : World) (g:Nat) (f0:ByteArray) (f1:Int):Prop:=W.heap[g]? = some (.cells #[.string f0, .int .i64 f1] 44 (0,0))∧w0.heap.size≤g
theorem IsS44.grown {w0 W : World} {g:Nat} {f0:ByteArray} {f1:Int} {W1:World} {row:Option Nat} (h:IsS44 w0 W g f0 f1) (hw:W.grownBy W1 row) (hne:some g≠row):IsS44 w0 W1 g f0 f1:=by
 obtain ⟨hb,hg⟩:=h;exact ⟨blk_grown hb hw hne,hg⟩
theorem IsS44.kept {w0 W : World} {g:Nat} {f0:ByteArray} {f1:Int} {W1:World} {S:Nat→Prop} (h:IsS44 w0 W g f0 f1) (hk:Kept W W1 S) (hne:¬ S g):IsS44 w0 W1 g f0 f1:=by
 obtain ⟨hb,hg⟩:=h;exact ⟨blk_kept hb hk hne,hg⟩
theorem IsS44.below {w0 W : World} {g:Nat} {f0:ByteArray} {f1:Int} {W1:World} (h:IsS44 w0 W g f0 f1) (hw:Below W.heap.size W W1):IsS44 w0 W1 g f0 f1:=h.grown (grown_of_below hw none) (by simp)
theorem IsS44.alloc {w0 W : World} {g:Nat} {f0:ByteArray} {f1:Int} (h:IsS44 w0 W g f0 f1) (o:Obj):IsS44 w0 (W.alloc o) g f0 f1:=h.below (j1s (Below.refl _ _) o)
theorem IsS44.drewN {w0 W : World} {g:Nat} {f0:ByteArray} {f1:Int} (h:IsS44 w0 W g f0 f1) (m:Nat):IsS44 w0 (W.drewN m) g f0 f1:=h
theorem IsS44.drew {w0 W : World} {g:Nat} {f0:ByteArray} {f1:Int} (h:IsS44 w0 W g f0 f1):IsS44 w0 W.drew g f0 f1:=h
theorem IsS44.apart {w0 W : World} {g:Nat} {f0:ByteArray} {f1:Int} {α:Type} {d:Kd α} {e:Nat} {base:Nat} {ok:Nat→Prop} {v:Value} {xs:List α} (h:IsS44 w0 W g f0 f1) (ho:d.R e W base ok v xs) (ht:∀ q,q ∈ e :: d.E→q≠44):d.R e W base (fun k=>ok k∧k≠g) v xs:=by
 obtain ⟨hb,hg⟩:=h;exact Kd.R_types ho hb ht
theorem IsS44.own_ne {w0 W : World} {g:Nat} {f0:ByteArray} {f1:Int} {α:Type} {d:Kd α} {e:Nat} {base:Nat} {ok:Nat→Prop} {v:Value} {xs:List α} (h:IsS44 w0 W g f0 f1) (ho:d.R e W base ok v xs) (ht:e≠44):some g≠v.ownBlock:=by
 obtain ⟨hb,hg⟩:=h;exact Kd.R_ne ho hb ht
theorem IsS44.lt {w0 W : World} {g:Nat} {f0:ByteArray} {f1:Int} (h:IsS44 w0 W g f0 f1):g<W.heap.size:=by
 obtain ⟨hb,hg⟩:=h;exact j3m hb
theorem IsS44.ge {w0 W : World} {g:Nat} {f0:ByteArray} {f1:Int} (h:IsS44 w0 W g f0 f1):w0.heap.size≤g:=by
 obtain ⟨hb,hg⟩:=h;exact hg
theorem IsS44.far {w0 W : World} {g:Nat} {f0:ByteArray} {f1:Int} {p:Addr} (h:IsS44 w0 W g f0 f1) (hne:g≠p.block) (u:Value):IsS44 w0 (W.setCell p u) g f0 f1:=by
 obtain ⟨hb,hg⟩:=h;exact ⟨j2q hb hne u,hg⟩
theorem j2i {W : World} {g:Nat} {f0:ByteArray} {f1:Int} (h:W.heap[g]? = some (.cells #[.string f0, .int .i64 f1] 44 (0,0))):W.cell? ⟨g,0,none⟩=some (.string f0):=(j1b h 0).trans rfl
theorem IsS44.set_0 {w0 W : World} {g:Nat} {f0:ByteArray} {f1:Int} (h:IsS44 w0 W g f0 f1) (x:ByteArray):IsS44 w0 (W.setCell ⟨g,0,none⟩ (.string x)) g x f1:=by
 obtain ⟨hb,hg⟩:=h;exact ⟨by simpa using blk_set hb 0 (.string x),hg⟩
theorem j2g {W : World} {g:Nat} {f0:ByteArray} {f1:Int} (h:W.heap[g]? = some (.cells #[.string f0, .int .i64 f1] 44 (0,0))):W.cell? ⟨g,1,none⟩=some (.int .i64 f1):=(j1b h 1).trans rfl
theorem IsS44.set_1 {w0 W : World} {g:Nat} {f0:ByteArray} {f1:Int} (h:IsS44 w0 W g f0 f1) (x:Int):IsS44 w0 (W.setCell ⟨g,1,none⟩ (.int .i64 x)) g f0 x:=by
 obtain ⟨hb,hg⟩:=h;exact ⟨by simpa using blk_set hb 1 (.int .i64 x),hg⟩
theorem IsS44.new (w0 W : World) (f0:ByteArray) (f1:Int) (hB:Below w0.heap.size w0 W):IsS44 w0 (W.alloc (.cells #[.string f0, .int .i64 f1] 44)) W.heap.size f0 f1:=⟨by simpa using heap_alloc_new W _,hB.size⟩
def j1y.f (s0_0 : ByteArray) (s0_1:Int):Option (Int × ByteArray × Int):=if s0_1<(s0_0.size:Int) then (if 0≤s0_1 then (some (bt s0_0 s0_1,s0_0,s0_1)) else (none)) else (some (0,s0_0,s0_1))
set_option maxHeartbeats 8000000 in
set_option maxRecDepth 100000 in
theorem j1y.calls (g : Nat) (s0_0:ByteArray) (s0_1:Int) (r1:Int) (r2:ByteArray) (r3:Int) (w0 w:World) (hI:IsS44 w0 w g s0_0 s0_1) (hB:Below w0.heap.size w0 w) (h:j1y.f s0_0 s0_1=some (r1,r2,r3)) :
 Calls Try.prog 30 #[.pointer (some ⟨g,0,none⟩)] w fun e w'=>e = .returned (.int .u8 r1)∧IsS44 w0 w' g r2 r3∧Below w0.heap.size w0 w'∧KeepBut w w' g none:=by
 have HI0:=mk0 hI;have HK:=mk0 (KeepBut.refl w g none);have HL:=mk0 hB.size;clear hI;have HW0:=mk0 hB.size;have HB:=mk0 hB;clear hB;have H:(if s0_1<(s0_0.size:Int) then (if 0≤s0_1 then (some (bt s0_0 s0_1,s0_0,s0_1)) else (none)) else (some (0,s0_0,s0_1)))=some (r1,r2,r3):=h;clear h;by_cases c2:s0_1<(s0_0.size:Int)
 rotate_left
 ·rw [if_neg c2] at H;have c2b0:decide (s0_1<(s0_0.size:Int))=false:=decide_eq_false c2;clear c2;simp only [Option.some.injEq,Prod.mk.injEq] at H;obtain ⟨rfl,rfl,rfl⟩:=H;obtain ⟨HGz6,hgz6⟩:=HI0.out;have hcz6_0:=j2i HGz6;have hcz6_1:=j2g HGz6;have hfz6_0:=j1a HGz6 0;have hfz6_1:=j1a HGz6 1;clear HGz6 hgz6;go_enter Try.func30,Try.ntmps30;go_wp2
  repeat (go_quiet (fail);try go_wp2)
  go_ret;exact zl1
 rw [if_pos c2] at H;have c2b0:decide (s0_1<(s0_0.size:Int))=true:=decide_eq_true c2;clear c2;by_cases c3:0≤s0_1
 rotate_left
 ·rw [if_neg c3] at H;exact absurd H (by simp)
 rw [if_pos c3] at H;have c3b0:decide (0≤s0_1)=true:=decide_eq_true c3;clear c3;simp only [Option.some.injEq,Prod.mk.injEq] at H;obtain ⟨rfl,rfl,rfl⟩:=H;obtain ⟨HGz5,hgz5⟩:=HI0.out;have hcz5_0:=j2i HGz5;have hcz5_1:=j2g HGz5;have hfz5_0:=j1a HGz5 0;have hfz5_1:=j1a HGz5 1;clear HGz5 hgz5;have p4:0≤(s0_1:Int):=of_decide_eq_true zq12;have q4:s0_1<(s0_0.size:Int):=of_decide_eq_true zq12;have hx4:=bt_at s0_0 s0_1;replace p4:=eq_true p4;replace q4:=eq_true q4;go_enter Try.func30,Try.ntmps30;go_wp2
 repeat (go_quiet (fail);try go_wp2)
 go_ret;exact zl1
mutual
def j1x.j0 : Nat → Int→Bool→Option (Int × Bool)
  | 0,_,_=>none
  | k+1,x0,x4=>if x4=true then (some ((x0 - 48) % 256,true)) else (if 97≤x0 then (j1x.j1 k x0 (decide (x0≤102))) else (j1x.j1 k x0 false))
def j1x.j1 : Nat → Int→Bool→Option (Int × Bool)
  | 0,_,_=>none
  | k+1,x0,x14=>if x14=true then (some (((x0 - 97) % 256)+10,true)) else (if 65≤x0 then (if x0≤70 then (some (((x0 - 65) % 256)+10,true)) else (some (0,false))) else (some (0,false)))
end
def j1x.f (k : Nat) (a0:Int):Option (Int × Bool):=if 48≤a0 then (j1x.j0 k a0 (decide (a0≤57))) else (j1x.j0 k a0 false)
theorem j1x.mono_l : ∀ k,(∀ y0 y1,LeO (j1x.j0 k y0 y1) (j1x.j0 (k+1) y0 y1))∧(∀ y0 y1,LeO (j1x.j1 k y0 y1) (j1x.j1 (k+1) y0 y1))
 | 0=>⟨fun _ _ r h=>by simp [j1x.j0] at h,fun _ _ r h=>by simp [j1x.j1] at h⟩
 | k+1=>by
  obtain ⟨ih0,ih1⟩:=j1x.mono_l k;refine ⟨?_,?_⟩
  ·intro y0 y1;unfold j1x.j0
   exact zm
  ·intro y0 y1;unfold j1x.j1
   exact zm
theorem j1x.mono : ∀ a0 k,LeO (j1x.f k a0) (j1x.f (k+1) a0):=by
 intro a0 k;obtain ⟨ih0,ih1⟩:=j1x.mono_l k;unfold j1x.f
 exact zm
set_option maxHeartbeats 8000000 in
set_option maxRecDepth 100000 in
theorem j1x.calls (k : Nat) (a0:Int) (r1:Int) (r2:Bool) (w:World) (h:j1x.f k a0=some (r1,r2)) :
 Calls Try.prog 31 #[.int .u8 a0] w fun e w'=>e = .returned (.tuple #[.int .i64 r1, .bool r2])∧Drawn0 w w':=by
 have H:(if 48≤a0 then (j1x.j0 k a0 (decide (a0≤57))) else (j1x.j0 k a0 false))=some (r1,r2):=h;clear h;have HC2:=mk0 H;clear H;go_enter Try.func31,Try.ntmps31;go_upto_region 1 with (fail)
 go_cut [4] (fun v4 wc=>∃ (kq:Nat) (x4_1:Bool),v4 = .bool x4_1∧Aside0 (j1x.j0 kq a0 x4_1=some (r1,r2))∧Aside0 (kq≤k)∧Drawn0 w wc)
 case first =>
  have H:=HC2.out;clear HC2;by_cases c3:48≤a0
  rotate_left
  ·rw [if_neg c3] at H;have c3b0:decide (48≤a0)=false:=decide_eq_false c3;clear c3;(first|rw [c3b0]|(simp only [i64_w,i32_w];rw [c3b0])|skip);have H':=mk0 H;clear H;go_wp2;go_meet
   case rel=>exact ⟨_,(false),zq27,H',⟨by first|omega|exact Nat.le_refl _⟩,by repeat (first|exact Drawn0.refl _|apply Drawn0.step)⟩
  rw [if_pos c3] at H;have c3b0:decide (48≤a0)=true:=decide_eq_true c3;clear c3;(first|rw [c3b0]|(simp only [i64_w,i32_w];rw [c3b0])|skip);have H':=mk0 H;clear H;go_wp2;go_meet
  case rel=>exact ⟨_,(decide (a0≤57)),zq27,H',⟨by first|omega|exact Nat.le_refl _⟩,by repeat (first|exact Drawn0.refl _|apply Drawn0.step)⟩
 case rest =>
  clear HC2
  try clear p2
  try clear c3
  try clear c3b0
  obtain ⟨kq,x4_1,rfl,HA,HJ1,⟨mc1,rfl⟩⟩:=hcut;cases kq with
  | zero=>exact absurd HA.out (by simp [j1x.j0])
  | succ kj1 =>
   have H:=HA.out;clear HA;simp only [j1x.j0] at H;by_cases c4:x4_1=true
   ·subst c4;have H1:(some ((a0 - 48) % 256,true))=some (r1,r2):=by rw [if_pos rfl] at H;exact H
    clear H;have H:=H1;clear H1;simp only [Option.some.injEq,Prod.mk.injEq] at H;obtain ⟨rfl,rfl⟩:=H;go_wp2;go_ret2;exact zl11
   replace c4:=Bool.eq_false_iff.mpr c4;subst c4;have H1:(if 97≤a0 then (j1x.j1 kj1 a0 (decide (a0≤102))) else (j1x.j1 kj1 a0 false))=some (r1,r2):=by rw [if_neg (show ¬ (false=true) by decide)] at H;exact H
   clear H;have H:=H1;clear H1;have HC5:=mk0 H;clear H;go_upto_region 3 with (fail)
   go_cut [14] (fun v14 wc=>∃ (kq:Nat) (x14_4:Bool),v14 = .bool x14_4∧Aside0 (j1x.j1 kq a0 x14_4=some (r1,r2))∧Aside0 (kq≤kj1)∧Drawn0 w wc)
   case first =>
    have H:=HC5.out;clear HC5;by_cases c6:97≤a0
    rotate_left
    ·rw [if_neg c6] at H;have c6b0:decide (97≤a0)=false:=decide_eq_false c6;clear c6;(first|rw [c6b0]|(simp only [i64_w,i32_w];rw [c6b0])|skip);have H':=mk0 H;clear H;go_wp2;go_meet
     case rel=>exact ⟨_,(false),zq27,H',⟨by have:=HJ1.out;first|omega|exact Nat.le_refl _⟩,by repeat (first|exact Drawn0.refl _|apply Drawn0.step)⟩
    rw [if_pos c6] at H;have c6b0:decide (97≤a0)=true:=decide_eq_true c6;clear c6;(first|rw [c6b0]|(simp only [i64_w,i32_w];rw [c6b0])|skip);have H':=mk0 H;clear H;go_wp2;go_meet
    case rel=>exact ⟨_,(decide (a0≤102)),zq27,H',⟨by have:=HJ1.out;first|omega|exact Nat.le_refl _⟩,by repeat (first|exact Drawn0.refl _|apply Drawn0.step)⟩
   case rest =>
    clear HC5
    try clear c1
    try clear p2
    try clear c3
    try clear c3b0
    try clear c4
    try clear c6
    try clear c6b0
    try clear p2
    obtain ⟨kq,x14_4,rfl,HA,HJ4,⟨mc4,rfl⟩⟩:=hcut;cases kq with
    | zero=>exact absurd HA.out (by simp [j1x.j1])
    | succ kj4 =>
     have H:=HA.out;clear HA;simp only [j1x.j1] at H;by_cases c7:x14_4=true
     ·subst c7;have H1:(some (((a0 - 97) % 256)+10,true))=some (r1,r2):=by rw [if_pos rfl] at H;exact H
      clear H;have H:=H1;clear H1;simp only [Option.some.injEq,Prod.mk.injEq] at H;obtain ⟨rfl,rfl⟩:=H;go_wp2;go_ret2;exact zl11
     replace c7:=Bool.eq_false_iff.mpr c7;subst c7;have H1:(if 65≤a0 then (if a0≤70 then (some (((a0 - 65) % 256)+10,true)) else (some (0,false))) else (some (0,false)))=some (r1,r2):=by rw [if_neg (show ¬ (false=true) by decide)] at H;exact H
     clear H;have H:=H1;clear H1;by_cases c8:65≤a0
     rotate_left
     ·rw [if_neg c8] at H;have c8b0:decide (65≤a0)=false:=decide_eq_false c8;clear c8;simp only [Option.some.injEq,Prod.mk.injEq] at H;obtain ⟨rfl,rfl⟩:=H;go_wp2;go_ret2;exact ⟨by first|rfl|(simp;done)|(simp [*];done),by repeat (first|exact Drawn0.refl _|apply Drawn0.step)⟩
     rw [if_pos c8] at H;have c8b0:decide (65≤a0)=true:=decide_eq_true c8;clear c8;by_cases c9:a0≤70
     ·rw [if_pos c9] at H;have c9b0:decide (a0≤70)=true:=decide_eq_true c9;clear c9;simp only [Option.some.injEq,Prod.mk.injEq] at H;obtain ⟨rfl,rfl⟩:=H;go_wp2;go_ret2;exact ⟨by first|rfl|(simp;done)|(simp [*];done),by repeat (first|exact Drawn0.refl _|apply Drawn0.step)⟩
     rw [if_neg c9] at H;have c9b0:decide (a0≤70)=false:=decide_eq_false c9;clear c9;simp only [Option.some.injEq,Prod.mk.injEq] at H;obtain ⟨rfl,rfl⟩:=H;go_wp2;go_ret2;exact zl11
mutual
def j1g.j0 : Nat → Int→Bool→ByteArray→Int→Option (Bool × ByteArray × Int)
  | 0,_,_,_,_=>none
  | k+1,x7,x8,x1000,x1001=>if x8=true then (some (true,x1000,wrap64 (x1001+1))) else (if x7=117 then (j1g.l0 k 0 x1000 (wrap64 (x1001+1))) else (some (false,x1000,x1001)))
def j1g.l0 : Nat → Int→ByteArray→Int→Option (Bool × ByteArray × Int)
  | 0,_,_,_=>none
  | k+1,x3,x1000,x1001=>if x3<4 then ((j1y.f x1000 x1001).bind fun bt104=>((j1x.f k bt104.1).bind fun bt107=>(if bt107.2=true then (j1g.l0 k (wrap64 (x3+1)) bt104.2.1 (wrap64 (bt104.2.2+1))) else (some (false,bt104.2.1,bt104.2.2))))) else (some (true,x1000,x1001))
end
def j1g.f (k : Nat) (s0_0:ByteArray) (s0_1:Int):Option (Bool × ByteArray × Int):=(j1y.f s0_0 s0_1).bind fun bt101=>(if bt101.1=34 then (j1g.j0 k bt101.1 (bt101.1 == 34) bt101.2.1 bt101.2.2) else (if bt101.1=92 then (j1g.j0 k bt101.1 (bt101.1 == 92) bt101.2.1 bt101.2.2) else (if bt101.1=47 then (j1g.j0 k bt101.1 (bt101.1 == 47) bt101.2.1 bt101.2.2) else (if bt101.1=98 then (j1g.j0 k bt101.1 (bt101.1 == 98) bt101.2.1 bt101.2.2) else (if bt101.1=102 then (j1g.j0 k bt101.1 (bt101.1 == 102) bt101.2.1 bt101.2.2) else (if bt101.1=110 then (j1g.j0 k bt101.1 (bt101.1 == 110) bt101.2.1 bt101.2.2) else (if bt101.1=114 then (j1g.j0 k bt101.1 (bt101.1 == 114) bt101.2.1 bt101.2.2) else (j1g.j0 k bt101.1 (bt101.1 == 116) bt101.2.1 bt101.2.2))))))))
theorem j1g.mono_l : ∀ k,(∀ y0 y1 y2 y3,LeO (j1g.j0 k y0 y1 y2 y3) (j1g.j0 (k+1) y0 y1 y2 y3))∧(∀ y0 y1 y2,LeO (j1g.l0 k y0 y1 y2) (j1g.l0 (k+1) y0 y1 y2))
 | 0=>⟨fun _ _ _ _ r h=>by simp [j1g.j0] at h,fun _ _ _ r h=>by simp [j1g.l0] at h⟩
 | k+1=>by
  obtain ⟨ih0,ih1⟩:=j1g.mono_l k;refine ⟨?_,?_⟩
  ·intro y0 y1 y2 y3;unfold j1g.j0
   exact zm
  ·intro y0 y1 y2;unfold j1g.l0
   exact zm
theorem j1g.mono : ∀ a0 a1 k,LeO (j1g.f k a0 a1) (j1g.f (k+1) a0 a1):=by
 intro a0 a1 k;obtain ⟨ih0,ih1⟩:=j1g.mono_l k;unfold j1g.f
 exact zm
set_option maxHeartbeats 8000000 in
set_option maxRecDepth 100000 in
theorem j1g.calls (k : Nat) (g:Nat) (s0_0:ByteArray) (s0_1:Int) (r1:Bool) (r2:ByteArray) (r3:Int) (w0 w:World) (hI:IsS44 w0 w g s0_0 s0_1) (hB:Below w0.heap.size w0 w) (h:j1g.f k s0_0 s0_1=some (r1,r2,r3)) :
 Calls Try.prog 23 #[.pointer (some ⟨g,0,none⟩)] w fun e w'=>e = .returned (.bool r1)∧IsS44 w0 w' g r2 r3∧Below w0.heap.size w0 w'∧KeepBut w w' g none:=by
 have HI0:=mk0 hI;have HK:=mk0 (KeepBut.refl w g none);have HL:=mk0 hB.size;clear hI;have HW0:=mk0 hB.size;have HB:=mk0 hB;clear hB;have H:((j1y.f s0_0 s0_1).bind fun bt101=>(if bt101.1=34 then (j1g.j0 k bt101.1 (bt101.1 == 34) bt101.2.1 bt101.2.2) else (if bt101.1=92 then (j1g.j0 k bt101.1 (bt101.1 == 92) bt101.2.1 bt101.2.2) else (if bt101.1=47 then (j1g.j0 k bt101.1 (bt101.1 == 47) bt101.2.1 bt101.2.2) else (if bt101.1=98 then (j1g.j0 k bt101.1 (bt101.1 == 98) bt101.2.1 bt101.2.2) else (if bt101.1=102 then (j1g.j0 k bt101.1 (bt101.1 == 102) bt101.2.1 bt101.2.2) else (if bt101.1=110 then (j1g.j0 k bt101.1 (bt101.1 == 110) bt101.2.1 bt101.2.2) else (if bt101.1=114 then (j1g.j0 k bt101.1 (bt101.1 == 114) bt101.2.1 bt101.2.2) else (j1g.j0 k bt101.1 (bt101.1 == 116) bt101.2.1 bt101.2.2)))))))))=some (r1,r2,r3):=h;clear h;replace H:=Option.bind_eq_some_iff.mp H;obtain ⟨⟨t101,t102,t103⟩,A20,H⟩:=H;replace H:(if t101=34 then (j1g.j0 k t101 (t101 == 34) t102 t103) else (if t101=92 then (j1g.j0 k t101 (t101 == 92) t102 t103) else (if t101=47 then (j1g.j0 k t101 (t101 == 47) t102 t103) else (if t101=98 then (j1g.j0 k t101 (t101 == 98) t102 t103) else (if t101=102 then (j1g.j0 k t101 (t101 == 102) t102 t103) else (if t101=110 then (j1g.j0 k t101 (t101 == 110) t102 t103) else (if t101=114 then (j1g.j0 k t101 (t101 == 114) t102 t103) else (j1g.j0 k t101 (t101 == 116) t102 t103))))))))=some (r1,r2,r3):=H;have A2:=mk0 A20;clear A20;have HC3:=mk0 H;clear H;go_enter Try.func23,Try.ntmps23;go_upto_if 8 with (first|((with_reducible refine j1r (f:=30) rfl ?_);refine j2f (some 7) rfl rfl Try.func30 zq23 rfl #[.pointer (some ⟨g,0,none⟩)] rfl zq2 ?_;(with_reducible refine (j1y.calls g s0_0 s0_1 t101 t102 t103 w0 _ ?side1 ?side2 A2.out).mono ?_);(case side1=>exact zq0);(case side2=>exact zq3);rintro e w4 ⟨rfl,hi,hb,hk⟩;refine ⟨_,rfl,?_⟩;have n0_:=mk0 (KeepBut.trans zq1 hk (.inl rfl));have n1_:=mk0 (hb);have n2_:=mk0 (hi);clear HK HB HI0;have HK:=n0_;have HB:=n1_;have HI0:=n2_;clear n0_ n1_ n2_;(try clear hb);(try clear hb2);(try clear hk);(try clear hi)))
 (try simp only [Act.put,List.setIfInBounds_toArray,List.set_cons_zero,List.set_cons_succ]);go_cut [8] (fun v8 wc=>∃ (kq:Nat) (x8_2:Bool),v8 = .bool x8_2∧Aside0 (j1g.j0 kq t101 x8_2 t102 t103=some (r1,r2,r3))∧Aside0 (kq≤k)∧Aside0 (IsS44 w0 wc g t102 t103)∧Aside0 (KeepBut w wc g none)∧Aside0 (Below w0.heap.size w0 wc))
 case first =>
  have H:=HC3.out;clear HC3;by_cases c5:t101=34
  ·rw [if_pos c5] at H;have c5b0:(t101 == 34)=true:=beq_iff_eq.mpr c5;have c5b1:(t101 != 34)=false:=bne_eq_false_iff_eq.mpr c5;clear c5;(first|rw [c5b0]|(simp only [i64_w,i32_w];rw [c5b0])|skip);have H':=mk0 H;clear H;go_wp2;go_meet
   case rel=>exact ⟨_,((t101 == 34)),zq27,H',⟨by first|omega|exact Nat.le_refl _⟩,⟨by repeat (first|(with_reducible first|exact HI0.out|apply IsS44.alloc|apply IsS44.drewN|apply IsS44.drew|apply IsS44.set_0|apply IsS44.set_1)|exact HI0.out)⟩,⟨by repeat (first|(with_reducible first|exact HK.out|apply KeepBut.set_|apply j2c|apply j2h|apply j2d)|exact HK.out)⟩,⟨by repeat (first|(with_reducible first|exact HB.out|apply j1s|apply j1q|apply j1t|refine j1u ?_ (IsS44.ge HI0.out))|exact HB.out)⟩⟩
  rw [if_neg c5] at H;have c5b0:(t101 == 34)=false:=beq_eq_false_iff_ne.mpr c5;have c5b1:(t101 != 34)=true:=bne_iff_ne.mpr c5;(first|rw [c5b0]|(simp only [i64_w,i32_w];rw [c5b0])|skip);by_cases c6:t101=92
  ·rw [if_pos c6] at H;have c6b0:(t101 == 92)=true:=beq_iff_eq.mpr c6;have c6b1:(t101 != 92)=false:=bne_eq_false_iff_eq.mpr c6;clear c6;have H':=mk0 H;clear H;go_wp2;go_meet
   case rel=>exact ⟨_,((t101 == 92)),zq27,H',⟨by first|omega|exact Nat.le_refl _⟩,⟨by repeat (first|(with_reducible first|exact HI0.out|apply IsS44.alloc|apply IsS44.drewN|apply IsS44.drew|apply IsS44.set_0|apply IsS44.set_1)|exact HI0.out)⟩,⟨by repeat (first|(with_reducible first|exact HK.out|apply KeepBut.set_|apply j2c|apply j2h|apply j2d)|exact HK.out)⟩,⟨by repeat (first|(with_reducible first|exact HB.out|apply j1s|apply j1q|apply j1t|refine j1u ?_ (IsS44.ge HI0.out))|exact HB.out)⟩⟩
  rw [if_neg c6] at H;have c6b0:(t101 == 92)=false:=beq_eq_false_iff_ne.mpr c6;have c6b1:(t101 != 92)=true:=bne_iff_ne.mpr c6;by_cases c7:t101=47
  ·rw [if_pos c7] at H;have c7b0:(t101 == 47)=true:=beq_iff_eq.mpr c7;have c7b1:(t101 != 47)=false:=bne_eq_false_iff_eq.mpr c7;clear c7;have H':=mk0 H;clear H;go_wp2;go_meet
   case rel=>exact ⟨_,((t101 == 47)),zq27,H',⟨by first|omega|exact Nat.le_refl _⟩,⟨by repeat (first|(with_reducible first|exact HI0.out|apply IsS44.alloc|apply IsS44.drewN|apply IsS44.drew|apply IsS44.set_0|apply IsS44.set_1)|exact HI0.out)⟩,⟨by repeat (first|(with_reducible first|exact HK.out|apply KeepBut.set_|apply j2c|apply j2h|apply j2d)|exact HK.out)⟩,⟨by repeat (first|(with_reducible first|exact HB.out|apply j1s|apply j1q|apply j1t|refine j1u ?_ (IsS44.ge HI0.out))|exact HB.out)⟩⟩
  rw [if_neg c7] at H;have c7b0:(t101 == 47)=false:=beq_eq_false_iff_ne.mpr c7;have c7b1:(t101 != 47)=true:=bne_iff_ne.mpr c7;by_cases c8:t101=98
  ·rw [if_pos c8] at H;have c8b0:(t101 == 98)=true:=beq_iff_eq.mpr c8;have c8b1:(t101 != 98)=false:=bne_eq_false_iff_eq.mpr c8;clear c8;have H':=mk0 H;clear H;go_wp2;go_meet
   case rel=>exact ⟨_,((t101 == 98)),zq27,H',⟨by first|omega|exact Nat.le_refl _⟩,⟨by repeat (first|(with_reducible first|exact HI0.out|apply IsS44.alloc|apply IsS44.drewN|apply IsS44.drew|apply IsS44.set_0|apply IsS44.set_1)|exact HI0.out)⟩,⟨by repeat (first|(with_reducible first|exact HK.out|apply KeepBut.set_|apply j2c|apply j2h|apply j2d)|exact HK.out)⟩,⟨by repeat (first|(with_reducible first|exact HB.out|apply j1s|apply j1q|apply j1t|refine j1u ?_ (IsS44.ge HI0.out))|exact HB.out)⟩⟩
  rw [if_neg c8] at H;have c8b0:(t101 == 98)=false:=beq_eq_false_iff_ne.mpr c8;have c8b1:(t101 != 98)=true:=bne_iff_ne.mpr c8;by_cases c9:t101=102
  ·rw [if_pos c9] at H;have c9b0:(t101 == 102)=true:=beq_iff_eq.mpr c9;have c9b1:(t101 != 102)=false:=bne_eq_false_iff_eq.mpr c9;clear c9;have H':=mk0 H;clear H;go_wp2;go_meet
   case rel=>exact ⟨_,((t101 == 102)),zq27,H',⟨by first|omega|exact Nat.le_refl _⟩,⟨by repeat (first|(with_reducible first|exact HI0.out|apply IsS44.alloc|apply IsS44.drewN|apply IsS44.drew|apply IsS44.set_0|apply IsS44.set_1)|exact HI0.out)⟩,⟨by repeat (first|(with_reducible first|exact HK.out|apply KeepBut.set_|apply j2c|apply j2h|apply j2d)|exact HK.out)⟩,⟨by repeat (first|(with_reducible first|exact HB.out|apply j1s|apply j1q|apply j1t|refine j1u ?_ (IsS44.ge HI0.out))|exact HB.out)⟩⟩
  rw [if_neg c9] at H;have c9b0:(t101 == 102)=false:=beq_eq_false_iff_ne.mpr c9;have c9b1:(t101 != 102)=true:=bne_iff_ne.mpr c9;by_cases c10:t101=110
  ·rw [if_pos c10] at H;have c10b0:(t101 == 110)=true:=beq_iff_eq.mpr c10;have c10b1:(t101 != 110)=false:=bne_eq_false_iff_eq.mpr c10;clear c10;have H':=mk0 H;clear H;go_wp2;go_meet
   case rel=>exact ⟨_,((t101 == 110)),zq27,H',⟨by first|omega|exact Nat.le_refl _⟩,⟨by repeat (first|(with_reducible first|exact HI0.out|apply IsS44.alloc|apply IsS44.drewN|apply IsS44.drew|apply IsS44.set_0|apply IsS44.set_1)|exact HI0.out)⟩,⟨by repeat (first|(with_reducible first|exact HK.out|apply KeepBut.set_|apply j2c|apply j2h|apply j2d)|exact HK.out)⟩,⟨by repeat (first|(with_reducible first|exact HB.out|apply j1s|apply j1q|apply j1t|refine j1u ?_ (IsS44.ge HI0.out))|exact HB.out)⟩⟩
  rw [if_neg c10] at H;have c10b0:(t101 == 110)=false:=beq_eq_false_iff_ne.mpr c10;have c10b1:(t101 != 110)=true:=bne_iff_ne.mpr c10;by_cases c11:t101=114
  rotate_left
  ·rw [if_neg c11] at H;have c11b0:(t101 == 114)=false:=beq_eq_false_iff_ne.mpr c11;have c11b1:(t101 != 114)=true:=bne_iff_ne.mpr c11;have H':=mk0 H;clear H;go_wp2;go_meet
   case rel=>exact ⟨_,((t101 == 116)),zq27,H',⟨by first|omega|exact Nat.le_refl _⟩,⟨by repeat (first|(with_reducible first|exact HI0.out|apply IsS44.alloc|apply IsS44.drewN|apply IsS44.drew|apply IsS44.set_0|apply IsS44.set_1)|exact HI0.out)⟩,⟨by repeat (first|(with_reducible first|exact HK.out|apply KeepBut.set_|apply j2c|apply j2h|apply j2d)|exact HK.out)⟩,⟨by repeat (first|(with_reducible first|exact HB.out|apply j1s|apply j1q|apply j1t|refine j1u ?_ (IsS44.ge HI0.out))|exact HB.out)⟩⟩
  rw [if_pos c11] at H;have c11b0:(t101 == 114)=true:=beq_iff_eq.mpr c11;have c11b1:(t101 != 114)=false:=bne_eq_false_iff_eq.mpr c11;clear c11;have H':=mk0 H;clear H;go_wp2;go_meet
  case rel=>exact ⟨_,((t101 == 114)),zq27,H',⟨by first|omega|exact Nat.le_refl _⟩,⟨by repeat (first|(with_reducible first|exact HI0.out|apply IsS44.alloc|apply IsS44.drewN|apply IsS44.drew|apply IsS44.set_0|apply IsS44.set_1)|exact HI0.out)⟩,⟨by repeat (first|(with_reducible first|exact HK.out|apply KeepBut.set_|apply j2c|apply j2h|apply j2d)|exact HK.out)⟩,⟨by repeat (first|(with_reducible first|exact HB.out|apply j1s|apply j1q|apply j1t|refine j1u ?_ (IsS44.ge HI0.out))|exact HB.out)⟩⟩
 case rest =>
  clear HC3
  try clear c1
  try clear c2
  try clear p2
  try clear c3
  try clear c5
  try clear c5b0
  try clear c5b1
  try clear c6
  try clear c6b0
  try clear c6b1
  try clear c7
  try clear c7b0
  try clear c7b1
  try clear c8
  try clear c8b0
  try clear c8b1
  try clear c9
  try clear c9b0
  try clear c9b1
  try clear c10
  try clear c10b0
  try clear c10b1
  try clear c11
  try clear c11b0
  try clear c11b1
  obtain ⟨kq,x8_2,rfl,HA,HJ2,HI0,HK,HB⟩:=hcut;cases kq with
  | zero=>exact absurd HA.out (by simp [j1g.j0])
  | succ kj2 =>
   have H:=HA.out;clear HA;simp only [j1g.j0] at H;by_cases c12:x8_2=true
   ·subst c12;have H1:(some (true,t102,wrap64 (t103+1)))=some (r1,r2,r3):=by rw [if_pos rfl] at H;exact H
    clear H;have H:=H1;clear H1;simp only [Option.some.injEq,Prod.mk.injEq] at H;obtain ⟨rfl,rfl,rfl⟩:=H;obtain ⟨HGz13,hgz13⟩:=HI0.out;have hcz13_0:=j2i HGz13;have hcz13_1:=j2g HGz13;have hfz13_0:=j1a HGz13 0;have hfz13_1:=j1a HGz13 1;clear HGz13 hgz13;go_wp2;go_ret;exact zl1
   replace c12:=Bool.eq_false_iff.mpr c12;subst c12;have H1:(if t101=117 then (j1g.l0 kj2 0 t102 (wrap64 (t103+1))) else (some (false,t102,t103)))=some (r1,r2,r3):=by rw [if_neg (show ¬ (false=true) by decide)] at H;exact H
   clear H;have H:=H1;clear H1;by_cases c14:t101=117
   rotate_left
   ·rw [if_neg c14] at H;have c14b0:(t101 == 117)=false:=beq_eq_false_iff_ne.mpr c14;have c14b1:(t101 != 117)=true:=bne_iff_ne.mpr c14;simp only [Option.some.injEq,Prod.mk.injEq] at H;obtain ⟨rfl,rfl,rfl⟩:=H;go_wp2;go_ret;exact zl1
   rw [if_pos c14] at H;have c14b0:(t101 == 117)=true:=beq_iff_eq.mpr c14;have c14b1:(t101 != 117)=false:=bne_eq_false_iff_eq.mpr c14;clear c14;have H':=mk0 H;clear H;obtain ⟨HGz15,hgz15⟩:=HI0.out;have hcz15_0:=j2i HGz15;have hcz15_1:=j2g HGz15;have hfz15_0:=j1a HGz15 0;have hfz15_1:=j1a HGz15 1;clear HGz15 hgz15;go_wp2;go_loopg [3] kj2 (fun kq v3 w'=>∃ (x3_2:Int) (x1000_2:ByteArray) (x1001_2:Int),v3 = .int .i64 x3_2∧Aside0 (j1g.l0 kq x3_2 x1000_2 x1001_2=some (r1,r2,r3))∧Aside0 (kq≤kj2)∧Aside0 (IsS44 w0 w' g x1000_2 x1001_2)∧Aside0 (KeepBut w w' g none)∧Aside0 (Below w0.heap.size w0 w'))
   case atStart=>exact ⟨(0),(t102),(wrap64 (t103+1)),zq27,H',⟨Nat.le_refl _⟩,⟨by repeat (first|(with_reducible first|exact HI0.out|apply IsS44.alloc|apply IsS44.drewN|apply IsS44.drew|apply IsS44.set_0|apply IsS44.set_1)|exact HI0.out)⟩,⟨by repeat (first|(with_reducible first|exact HK.out|apply KeepBut.set_|apply j2c|apply j2h|apply j2d)|exact HK.out)⟩,⟨by repeat (first|(with_reducible first|exact HB.out|apply j1s|apply j1q|apply j1t|refine j1u ?_ (IsS44.ge HI0.out))|exact HB.out)⟩⟩
   case round =>
    clear H'
    try clear c1
    try clear c2
    try clear p2
    try clear c3
    try clear c5
    try clear c5b0
    try clear c5b1
    try clear c6
    try clear c6b0
    try clear c6b1
    try clear p6
    try clear c7
    try clear c7b0
    try clear c7b1
    try clear c8
    try clear c8b0
    try clear c8b1
    try clear c9
    try clear c9b0
    try clear c9b1
    try clear c10
    try clear c10b0
    try clear c10b1
    try clear c11
    try clear c11b0
    try clear c11b1
    try clear c12
    try clear c14
    try clear c14b0
    try clear c14b1
    try clear hcz13_0
    try clear hcz13_1
    try clear hcz15_0
    try clear hcz15_1
    try clear hfz13_0
    try clear hfz13_1
    try clear hfz15_0
    try clear hfz15_1
    try clear p2
    obtain ⟨x3_2,x1000_2,x1001_2,rfl,HA,HK2,HI0,HK,HB⟩:=hrel;cases gk with
    | zero=>exact absurd HA.out (by simp [j1g.l0])
    | succ k2 =>
     have H:=HA.out;clear HA;simp only [j1g.l0] at H;by_cases c16:x3_2<4
     rotate_left
     ·rw [if_neg c16] at H;have c16b0:decide (x3_2<4)=false:=decide_eq_false c16;clear c16;simp only [Option.some.injEq,Prod.mk.injEq] at H;obtain ⟨rfl,rfl,rfl⟩:=H;go_wp2;go_ret;exact zl1
     rw [if_pos c16] at H;have c16b0:decide (x3_2<4)=true:=decide_eq_true c16;clear c16;replace H:=Option.bind_eq_some_iff.mp H;obtain ⟨⟨t104,t105,t106⟩,A170,H⟩:=H;replace H:((j1x.f k2 t104).bind fun bt107=>(if bt107.2=true then (j1g.l0 k2 (wrap64 (x3_2+1)) t105 (wrap64 (t106+1))) else (some (false,t105,t106))))=some (r1,r2,r3):=H;have A17:=mk0 A170;clear A170;replace H:=Option.bind_eq_some_iff.mp H;obtain ⟨⟨t107,t108⟩,A180,H⟩:=H;replace H:(if t108=true then (j1g.l0 k2 (wrap64 (x3_2+1)) t105 (wrap64 (t106+1))) else (some (false,t105,t106)))=some (r1,r2,r3):=H;have A18:=mk0 A180;clear A180;by_cases c19:t108=true
     rotate_left
     ·replace c19:=Bool.eq_false_iff.mpr c19;subst c19;have H1:(some (false,t105,t106))=some (r1,r2,r3):=by rw [if_neg (show ¬ (false=true) by decide)] at H;exact H
      clear H;have H:=H1;clear H1;simp only [Option.some.injEq,Prod.mk.injEq] at H;obtain ⟨rfl,rfl,rfl⟩:=H;go_wp2_with (first|((with_reducible refine j1r (f:=30) rfl ?_);refine j2f (some 39) rfl rfl Try.func30 zq23 rfl #[.pointer (some ⟨g,0,none⟩)] rfl zq2 ?_;(with_reducible refine (j1y.calls g x1000_2 x1001_2 t104 t105 t106 w0 _ ?side1 ?side2 A17.out).mono ?_);(case side1=>exact zq0);(case side2=>exact zq3);rintro e w22 ⟨rfl,hi,hb,hk⟩;refine ⟨_,rfl,?_⟩;have n0_:=mk0 (KeepBut.trans zq1 hk (.inl rfl));have n1_:=mk0 (hb);have n2_:=mk0 (hi);clear HK HB HI0;have HK:=n0_;have HB:=n1_;have HI0:=n2_;clear n0_ n1_ n2_;(try clear hb);(try clear hb2);(try clear hk);(try clear hi))|((with_reducible refine j1r (f:=31) rfl ?_);refine j2f (some 40) rfl rfl Try.func31 zq23 rfl #[.int .u8 t104] rfl zq2 ?_;(with_reducible refine (j1x.calls k2 t104 t107 false _ A18.out).mono ?_);rintro e w' ⟨rfl,⟨nd,rfl⟩⟩;refine ⟨_,rfl,?_⟩))
      go_ret;exact zl1
     subst c19;have H1:(j1g.l0 k2 (wrap64 (x3_2+1)) t105 (wrap64 (t106+1)))=some (r1,r2,r3):=by rw [if_pos rfl] at H;exact H
     clear H;have H:=H1;clear H1;have H':=mk0 H;clear H;go_wp2_with (first|((with_reducible refine j1r (f:=30) rfl ?_);refine j2f (some 39) rfl rfl Try.func30 zq23 rfl #[.pointer (some ⟨g,0,none⟩)] rfl zq2 ?_;(with_reducible refine (j1y.calls g x1000_2 x1001_2 t104 t105 t106 w0 _ ?side1 ?side2 A17.out).mono ?_);(case side1=>exact zq0);(case side2=>exact zq3);rintro e w20 ⟨rfl,hi,hb,hk⟩;refine ⟨_,rfl,?_⟩;have n0_:=mk0 (KeepBut.trans zq1 hk (.inl rfl));have n1_:=mk0 (hb);have n2_:=mk0 (hi);clear HK HB HI0;have HK:=n0_;have HB:=n1_;have HI0:=n2_;clear n0_ n1_ n2_;(try clear hb);(try clear hb2);(try clear hk);(try clear hi))|((with_reducible refine j1r (f:=31) rfl ?_);refine j2f (some 40) rfl rfl Try.func31 zq23 rfl #[.int .u8 t104] rfl zq2 ?_;(with_reducible refine (j1x.calls k2 t104 t107 true _ A18.out).mono ?_);rintro e w' ⟨rfl,⟨nd,rfl⟩⟩;refine ⟨_,rfl,?_⟩;(try (rw [drewN_self w20];generalize hq_:World.drewN w20 _=w20;have n0_:Aside0 (IsS44 w0 w20 g t105 t106):=⟨by rw [← hq_];exact zq0⟩;have n1_:Aside0 (KeepBut w w20 g none):=⟨by rw [← hq_];exact zq1⟩;have n2_:Aside0 (Below w0.heap.size w0 w20):=⟨by rw [← hq_];exact zq3⟩;clear HI0 HK HB hq_;have HI0:=n0_;have HK:=n1_;have HB:=n2_;clear n0_ n1_ n2_));obtain ⟨HGz21,hgz21⟩:=HI0.out;have hcz21_0:=j2i HGz21;have hcz21_1:=j2g HGz21;have hfz21_0:=j1a HGz21 0;have hfz21_1:=j1a HGz21 1;clear HGz21 hgz21))
     go_roundg k2
     case measure=>have:=HJ2.out;have:=HK2.out;omega
     case rel=>exact ⟨(wrap64 (x3_2+1)),(t105),(wrap64 (t106+1)),zq27,H',⟨by have:=HJ2.out;have:=HK2.out;omega⟩,⟨by repeat (first|(with_reducible first|exact HI0.out|apply IsS44.alloc|apply IsS44.drewN|apply IsS44.drew|apply IsS44.set_0|apply IsS44.set_1)|exact HI0.out)⟩,⟨by repeat (first|(with_reducible first|exact HK.out|apply KeepBut.set_|apply j2c|apply j2h|apply j2d)|exact HK.out)⟩,⟨by repeat (first|(with_reducible first|exact HB.out|apply j1s|apply j1q|apply j1t|refine j1u ?_ (IsS44.ge HI0.out))|exact HB.out)⟩⟩
end Go.Proofs.Ytchhndbekjgimaa.S
end
