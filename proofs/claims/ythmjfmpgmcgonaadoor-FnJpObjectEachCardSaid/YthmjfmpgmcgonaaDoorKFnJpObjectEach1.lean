/- The words, walks and laws that the proof rests on, laid together (part 1). -/
import Derived.Shelf.Strconv.Atoi
import Derived.Shelf.Strconv.AtoiErrFast
import Derived.Shelf.Strconv.ParseIntEmpty
import Derived.Shelf.Strconv.AtoiFail
import Derived.Shelf.LaysM
import Derived.Shelf.Strconv.Clone
import Derived.Shelf.Strconv.SyntaxError
import Derived.Shelf.LaysC
import Derived.Shelf.Strconv.ToError
import Derived.Ground.MnProg
import Derived.Shelf.Bin.LEUint64
import Derived.Shelf.Strconv.Lower
import Derived.Shelf.Strconv.ParseUint10
import Derived.Shelf.Strconv.ParseUint10Empty
import Derived.Shelf.Strconv.ParseUint10Any
import Derived.Shelf.Strconv.ParseInt10
import Derived.Shelf.Strconv.AtoiLong
import Derived.Shelf.Strconv.AtoiInnerAll
import Derived.Shelf.Strconv.RangeError
import Derived.Shelf.Strconv.ToErrorRange
import Derived.Shelf.Strconv.AtoiAll
import Derived.Ground.MpProg
import Derived.Shelf.Pu.ParseUintPublic10
import Derived.Shelf.Bin.ReadersZ
import Derived.Shelf.Bytes.IndexByte
import Derived.Test.YthmjfmpgmcgonaaDoorProg
import Derived.Below
import Derived.Deep.Draws
import Derived.Deep.AppendLies
import Derived.Maps.AppendAt
import Derived.OwnWalk
import Derived.Laws.BytesArg
import Derived.Laws.MakeOwn
import Derived.Laws.OwnMore
import Derived.Deep.OwnRows
import Derived.Tactics
import Derived.Lib.ConvBytes
import Derived.Laws.Slices
import Derived.WalkKit
import Derived.KernelRfl
import Derived.RowKit3
import Derived.Deep.LoopGhost
import Derived.Deep.QuietTactic
import Derived.BigQuiet
import Derived.WideLaws
import Derived.Deep.DeepCutAuto
import Derived.Deep.CutBlock
import Derived.Deep.RegionHeld3
import Derived.Laws.Rows
import Derived.Lib.AppendStr
import Derived.ArgAppend
import Derived.Laws.IdiomCopy
import Derived.OrdersHeld
import Derived.Laws.BitsLemmas
import Derived.RowKit
import Derived.Lib.BufferWrite
import Derived.Laws.CopyOwn
import Derived.Lib.EndianZ
import Derived.Lib.Hide
import Derived.WalkLawsBesides
import Derived.Laws.StructEq
import Derived.Outline
import Derived.StillTailTactics
import Derived.Deep.DeepFit
import Derived.Lib.LaidU8
import Derived.Shelf.Unicode.DecodeAny
import Derived.SizedLaws
import Derived.ChangeSlices
namespace Go.Proofs
open Go.Shelf
def Tryd.lays172_ren : Go.Shelf.Ren := ⟨fun|172=>78|244=>88|245=>55|247=>93|279=>72|280=>73|281=>74|282=>75|287=>54|316=>86|171=>87|205=>43|321=>70|322=>71|243=>92|246=>98|283=>100|284=>101|285=>102|286=>103|129=>105|317=>104|318=>106|319=>107|320=>108|337=>109|338=>110|n=>n,fun|9=>9|3=>3|75=>58|76=>122|4=>4|5=>5|167=>115|37=>55|0=>0|85=>61|2=>2|168=>84|53=>38|175=>64|46=>116|210=>87|127=>138|145=>99|143=>97|21=>21|171=>147|173=>150|212=>153|51=>144|20=>20|213=>154|232=>157|233=>106|80=>158|n=>n,fun|15=>13|16=>2|17=>16|18=>17|19=>18|n=>n⟩
theorem Tryd.lays172 : Go.Proofs.Lays.n172 Tryd.prog Tryd.lays172_ren:={
  mixed:=by kernel_rfl
  f129:=Tryd.func105.trans (congrArg some (by kernel_rfl))
  f171:=Tryd.func87.trans (congrArg some (by kernel_rfl))
  f172:=Tryd.func78.trans (congrArg some (by kernel_rfl))
  f205:=Tryd.func43.trans (congrArg some (by kernel_rfl))
  f243:=Tryd.func92.trans (congrArg some (by kernel_rfl))
  f244:=Tryd.func88.trans (congrArg some (by kernel_rfl))
  f245:=Tryd.func55.trans (congrArg some (by kernel_rfl))
  f246:=Tryd.func98.trans (congrArg some (by kernel_rfl))
  f247:=Tryd.func93.trans (congrArg some (by kernel_rfl))
  f279:=Tryd.func72.trans (congrArg some (by kernel_rfl))
  f280:=Tryd.func73.trans (congrArg some (by kernel_rfl))
  f281:=Tryd.func74.trans (congrArg some (by kernel_rfl))
  f282:=Tryd.func75.trans (congrArg some (by kernel_rfl))
  f283:=Tryd.func100.trans (congrArg some (by kernel_rfl))
  f284:=Tryd.func101.trans (congrArg some (by kernel_rfl))
  f285:=Tryd.func102.trans (congrArg some (by kernel_rfl))
  f286:=Tryd.func103.trans (congrArg some (by kernel_rfl))
  f287:=Tryd.func54.trans (congrArg some (by kernel_rfl))
  f316:=Tryd.func86.trans (congrArg some (by kernel_rfl))
  f317:=Tryd.func104.trans (congrArg some (by kernel_rfl))
  f318:=Tryd.func106.trans (congrArg some (by kernel_rfl))
  f319:=Tryd.func107.trans (congrArg some (by kernel_rfl))
  f320:=Tryd.func108.trans (congrArg some (by kernel_rfl))
  f321:=Tryd.func70.trans (congrArg some (by kernel_rfl))
  f322:=Tryd.func71.trans (congrArg some (by kernel_rfl))
  f337:=Tryd.func109.trans (congrArg some (by kernel_rfl))
  f338:=Tryd.func110.trans (congrArg some (by kernel_rfl))
  t0:=Tryd.underlying0
  a0:=Tryd.isAgg0
  z0:=Tryd.sizeOf0
  v0:=Tryd.zeroValue0
  t2:=Tryd.underlying2
  a2:=Tryd.isAgg2
  z2:=Tryd.sizeOf2
  v2:=Tryd.zeroValue2
  t3:=Tryd.underlying3
  a3:=Tryd.isAgg3
  z3:=Tryd.sizeOf3
  v3:=Tryd.zeroValue3
  t4:=Tryd.underlying4
  a4:=Tryd.isAgg4
  z4:=Tryd.sizeOf4
  v4:=Tryd.zeroValue4
  t5:=Tryd.underlying5
  a5:=Tryd.isAgg5
  z5:=Tryd.sizeOf5
  v5:=Tryd.zeroValue5
  t9:=Tryd.underlying9
  a9:=Tryd.isAgg9
  z9:=Tryd.sizeOf9
  v9:=Tryd.zeroValue9
  t20:=Tryd.underlying20
  a20:=Tryd.isAgg20
  z20:=Tryd.sizeOf20
  v20:=Tryd.zeroValue20
  t21:=Tryd.underlying21
  a21:=Tryd.isAgg21
  z21:=Tryd.sizeOf21
  v21:=Tryd.zeroValue21
  t37:=Tryd.underlying55
  a37:=Tryd.isAgg55
  z37:=Tryd.sizeOf55
  v37:=Tryd.zeroValue55
  t46:=Tryd.underlying116
  a46:=Tryd.isAgg116
  z46:=Tryd.sizeOf116
  v46:=Tryd.zeroValue116
  t51:=Tryd.underlying144
  a51:=Tryd.isAgg144
  z51:=Tryd.sizeOf144
  v51:=Tryd.zeroValue144
  t53:=Tryd.underlying38
  a53:=Tryd.isAgg38
  z53:=Tryd.sizeOf38
  v53:=Tryd.zeroValue38
  t75:=Tryd.underlying58
  a75:=Tryd.isAgg58
  z75:=Tryd.sizeOf58
  v75:=Tryd.zeroValue58
  t76:=Tryd.underlying122
  a76:=Tryd.isAgg122
  z76:=Tryd.sizeOf122
  v76:=Tryd.zeroValue122
  t85:=Tryd.underlying61
  a85:=Tryd.isAgg61
  z85:=Tryd.sizeOf61
  v85:=Tryd.zeroValue61
  t127:=Tryd.underlying138
  a127:=Tryd.isAgg138
  z127:=Tryd.sizeOf138
  v127:=Tryd.zeroValue138
  t143:=Tryd.underlying97
  a143:=Tryd.isAgg97
  z143:=Tryd.sizeOf97
  v143:=Tryd.zeroValue97
  t145:=Tryd.underlying99
  a145:=Tryd.isAgg99
  z145:=Tryd.sizeOf99
  v145:=Tryd.zeroValue99
  t167:=Tryd.underlying115
  a167:=Tryd.isAgg115
  z167:=Tryd.sizeOf115
  v167:=Tryd.zeroValue115
  t168:=Tryd.underlying84
  a168:=Tryd.isAgg84
  z168:=Tryd.sizeOf84
  v168:=Tryd.zeroValue84
  t171:=Tryd.underlying147
  a171:=Tryd.isAgg147
  z171:=Tryd.sizeOf147
  v171:=Tryd.zeroValue147
  t173:=Tryd.underlying150
  a173:=Tryd.isAgg150
  z173:=Tryd.sizeOf150
  v173:=Tryd.zeroValue150
  t175:=Tryd.underlying64
  a175:=Tryd.isAgg64
  z175:=Tryd.sizeOf64
  v175:=Tryd.zeroValue64
  t210:=Tryd.underlying87
  a210:=Tryd.isAgg87
  z210:=Tryd.sizeOf87
  v210:=Tryd.zeroValue87
  t212:=Tryd.underlying153
  a212:=Tryd.isAgg153
  z212:=Tryd.sizeOf153
  v212:=Tryd.zeroValue153
  t213:=Tryd.underlying154
  a213:=Tryd.isAgg154
  z213:=Tryd.sizeOf154
  t232:=Tryd.underlying157
  a232:=Tryd.isAgg157
  z232:=Tryd.sizeOf157
  v232:=Tryd.zeroValue157
  t233:=Tryd.underlying106
  a233:=Tryd.isAgg106
  z233:=Tryd.sizeOf106
  v233:=Tryd.zeroValue106
  g15:=by kernel_rfl
  g16:=by kernel_rfl
  g17:=by kernel_rfl
  g18:=by kernel_rfl
  g19:=by kernel_rfl }
open Go.RowKit in
theorem Tryd.strconv_Atoi (s : ByteArray) (n:Int) (hl:s.size≤18) (h:Lib.atoi s.data.toList=some n) (w:World) :
    Calls Tryd.prog 78 #[.string s] w fun e w'=>e = .returned (.tuple #[.int .i64 n, .nilIface])∧∃ t,w'=Lib.bytesWorld w 5 t:=Any.strconv_Atoi Tryd.lays172 s n hl h w
def Tryd.laysBin33_ren : Go.Shelf.Ren := ⟨fun|33=>81|n=>n,fun|25=>127|22=>55|33=>38|0=>0|5=>5|45=>116|n=>n,fun|n=>n⟩
theorem Tryd.laysBin33 : Go.Proofs.LaysBin.n33 Tryd.prog Tryd.laysBin33_ren:={
  mixed:=by kernel_rfl
  f33:=Tryd.func81.trans (congrArg some (by kernel_rfl))
  t0:=Tryd.underlying0
  a0:=Tryd.isAgg0
  z0:=Tryd.sizeOf0
  v0:=Tryd.zeroValue0
  i0:=by kernel_rfl
  t5:=Tryd.underlying5
  a5:=Tryd.isAgg5
  z5:=Tryd.sizeOf5
  v5:=Tryd.zeroValue5
  i5:=by kernel_rfl
  t22:=Tryd.underlying55
  a22:=Tryd.isAgg55
  z22:=Tryd.sizeOf55
  v22:=Tryd.zeroValue55
  i22:=by kernel_rfl
  t25:=Tryd.underlying127
  a25:=Tryd.isAgg127
  z25:=Tryd.sizeOf127
  v25:=Tryd.zeroValue127
  i25:=by kernel_rfl
  t33:=Tryd.underlying38
  a33:=Tryd.isAgg38
  z33:=Tryd.sizeOf38
  v33:=Tryd.zeroValue38
  i33:=by kernel_rfl
  t45:=Tryd.underlying116
  a45:=Tryd.isAgg116
  z45:=Tryd.sizeOf116
  v45:=Tryd.zeroValue116
  i45:=by kernel_rfl }
open Go.RowKit in
theorem Tryd.binary_LE_Uint64_z (a : Addr) (n c:Nat) (zs:List Int) (w:World) (hn:8≤n) (hl:8≤zs.length) (hcell:∀ i,i<zs.length→w.cell? (a.add i)=some (.int .u8 (zs.getD i 0))) (hw:∀ z ∈ zs,(Lit.int .u8 z).wf=true) :
    Calls Tryd.prog 81 #[.agg #[], .slice (some a) n c] w fun e w'=>e = .returned (.int .u64 (Lib.leZ (zs.take 8)))∧Below w.heap.size w w':=Any.binary_LE_Uint64_z Tryd.laysBin33 a n c zs w hn hl hcell hw
def Tryd.lays187_ren : Go.Shelf.Ren := ⟨fun|187=>82|255=>89|n=>n,fun|37=>55|5=>5|3=>3|n=>n,fun|n=>n⟩
theorem Tryd.lays187 : Go.Proofs.Lays.n187 Tryd.prog Tryd.lays187_ren:={
  mixed:=by kernel_rfl
  f187:=Tryd.func82.trans (congrArg some (by kernel_rfl))
  f255:=Tryd.func89.trans (congrArg some (by kernel_rfl))
  t3:=Tryd.underlying3
  a3:=Tryd.isAgg3
  z3:=Tryd.sizeOf3
  v3:=Tryd.zeroValue3
  t5:=Tryd.underlying5
  a5:=Tryd.isAgg5
  z5:=Tryd.sizeOf5
  v5:=Tryd.zeroValue5
  t37:=Tryd.underlying55
  a37:=Tryd.isAgg55
  z37:=Tryd.sizeOf55
  v37:=Tryd.zeroValue55 }
theorem Tryd.bytes_IndexByte (b o n c:Nat) (xs:List Int) (cv:Int) (w:World) (hx:xs.length=n) (hc:∀ i,i<n→w.cell? ⟨b,o+i,none⟩=some (.int .u8 (xs.getD i 0))) :
    Calls Tryd.prog 82 #[.slice (some ⟨b,o,none⟩) n c, .int .u8 cv] w fun e w'=>e = .returned (.int .i64 (Lib.indexByte (Lib.bytesOf xs) cv.toNat.toUInt8))∧w'=w:=Any.bytes_IndexByte Tryd.lays187 b o n c xs cv w hx hc
end Go.Proofs
section
set_option linter.unusedVariables false
set_option linter.unusedSimpArgs false
namespace Go.Proofs.YthmjfmpgmcgonaaDoorW.PrintWords
open Go.RowKit

structure Aside0 (p : Prop):Prop where mk :: (out:p)
structure Drawn0 (w w' : World):Prop where mk :: (out:∃ n,w'=w.drewN n)
theorem Drawn0.refl (w : World):Drawn0 w w:=⟨⟨0,rfl⟩⟩
theorem Drawn0.step {w w' : World} (h:Drawn0 w w') (n:Nat):Drawn0 w (w'.drewN n):=by
  obtain ⟨m,rfl⟩:=h;exact ⟨⟨m+n,World.drewN_drewN ..⟩⟩
theorem Drawn0.grown {w w' : World} (h:Drawn0 w w'):Grown w w':=by
  obtain ⟨n,rfl⟩:=h
  induction n with
  | zero=>exact Grown.refl _
  | succ n ih=>rw [← World.drew_drewN];exact Grown.drew ih
theorem Drawn0.below {w w' : World} (h:Drawn0 w w'):Below w.heap.size w w':=by
  obtain ⟨n,rfl⟩:=h
  induction n with
  | zero=>exact Below.refl _ _
  | succ n ih=>rw [← World.drew_drewN];exact ih.drew


def rd (xs : List Int) (i:Int):Int:=xs.getD i.toNat 0
def bt (s : ByteArray) (i:Int):Int:=if h:i.toNat<s.size then ((s[i.toNat]'h).toNat:Int) else 0
theorem bt_at (s : ByteArray) (i:Int):∀ h:i.toNat<s.size,((s[i.toNat]'h).toNat:Int)=bt s i:=fun h=>by simp [bt,h]
def nums (k : IntKind) (xs:List Int):List Value:=xs.map fun x => .int k x
theorem j1f {w W : World} (h:Below w.heap.size w W) (o:Obj):Below w.heap.size w (W.alloc o):=h.alloc h.size o
theorem below_drew {B : Nat} {w W:World} (h:Below B w W):Below B w W.drew:=⟨h.os,h.tape,h.output,h.size,h.block⟩
theorem j1d {B : Nat} {w W:World} (h:Below B w W) (n:Nat):Below B w (W.drewN n):=⟨h.os,h.tape,h.output,h.size,h.block⟩
theorem below_then {B : Nat} {w w1 w2:World} (h:Below B w w1) (hB:B≤w1.heap.size) (k:Below w1.heap.size w1 w2):Below B w w2 :=
  h.trans ⟨k.os,k.tape,k.output,k.size,fun i hi=>k.block i (Nat.lt_of_lt_of_le hi hB)⟩
theorem grown_of_below {w w1 : World} (h:Below w.heap.size w w1) (row:Option Nat):w.grownBy w1 row:=⟨h.os,h.tape,h.output,h.size,fun i hi _=>h.block i hi⟩
theorem pw_cell_below {w w1 : World} (h:Below w.heap.size w w1) {a:Addr} {v:Value} (hc:w.cell? a=some v):w1.cell? a=some v:=(h.cell (World.block_lt_of_cell? w a hc)).trans hc

theorem add_plain (g j : Nat):(⟨g,0,none⟩:Addr).add j=⟨g,j,none⟩:=by unfold Addr.add;split<;>simp_all

def ReadsInt (w : World) (k:IntKind) (A:Option Addr) (n:Nat) (xs:List Int):Prop :=
  xs.length=n∧n≤9223372036854775807∧(0<n→∃ ad,A=some ad∧∀ j,j<n→w.cell? (ad.add j)=some (.int k (xs.getD j 0)))
theorem ReadsInt.at_ {w : World} {k:IntKind} {A:Option Addr} {n:Nat} {xs:List Int} (h:ReadsInt w k A n xs) (i:Int) (h0:0≤i) (h1:i<n):∃ ad,A=some ad∧w.cell? (ad.add i.toNat)=some (.int k (rd xs i)):=by
  obtain ⟨ad,e,hc⟩:=h.2.2 (by omega);exact ⟨ad,e,hc _ (by omega)⟩
theorem ReadsInt.below {w w1 : World} {k:IntKind} {A:Option Addr} {n:Nat} {xs:List Int} (h:ReadsInt w k A n xs) (hb:Below w.heap.size w w1):ReadsInt w1 k A n xs :=
  ⟨h.1,h.2.1,fun hn=>by
    obtain ⟨ad,e,hc⟩:=h.2.2 hn;exact ⟨ad,e,fun j hj=>pw_cell_below hb (hc j hj)⟩⟩

theorem own_nil (W : World) (base:Nat) (e:TypeId) (size:Nat):W.ownsRow base e size (.slice none 0 0) 0 []:=⟨by simp, .inl ⟨rfl,rfl⟩⟩
theorem own_base {w : World} {base:Nat} {e:TypeId} {size n:Nat} {v:Value} {xs:List Value} (h:w.ownsRow base e size v n xs) (k:Nat) (hk:v.ownBlock=some k):base≤k:=by
  rcases h.2 with ⟨rfl,_⟩|⟨g,cap,cur,rfl,hb,_⟩
  · simp [Value.ownBlock] at hk
  · have:g=k:=by simpa [Value.ownBlock] using hk
    omega
theorem own_lt {w : World} {base:Nat} {e:TypeId} {size n:Nat} {v:Value} {xs:List Value} (h:w.ownsRow base e size v n xs) (k:Nat) (hk:v.ownBlock=some k):k<w.heap.size:=by
  rcases h.2 with ⟨rfl,_⟩|⟨g,cap,cur,rfl,hb,hh,_⟩
  · simp [Value.ownBlock] at hk
  · have:g=k:=by simpa [Value.ownBlock] using hk
    subst this;exact (Array.getElem?_eq_some_iff.1 hh).1
theorem pw_own_below {w w1 : World} {base:Nat} {e:TypeId} {size n:Nat} {v:Value} {xs:List Value} (h:w.ownsRow base e size v n xs) (hb:Below w.heap.size w w1):w1.ownsRow base e size v n xs :=
  h.kept (grown_of_below hb none) (by cases v.ownBlock<;>simp)
theorem own_slice {w : World} {base n:Nat} {e:TypeId} {size:Nat} {v:Value} {xs:List Value} (h:w.ownsRow base e size v n xs):∃ A c,v = .slice A n c:=by
  rcases h.2 with ⟨rfl,rfl⟩|⟨g,cap,cur,rfl,_⟩
  · exact ⟨none,0,rfl⟩
  · exact ⟨_,cap,rfl⟩
theorem own_string {P : Program} {w:World} {base n:Nat} {e' src dst e:TypeId} {v:Value} {xs:List Int} (hs:P.underlying src=some (.slice e)) (he:P.underlying e=some (.int .u8)) (hd:P.underlying dst=some .string)
    (h:w.ownsRow base e' 1 v n (nums .u8 xs)):(convert src dst v).run P w = .ok (.string (strOfNums xs)) w:=by
  have hl:xs.length=n:=by have:=h.1;simp [nums] at this;exact this
  rcases h.2 with ⟨rfl,rfl⟩|⟨g,cap,cur,rfl,_⟩
  · obtain rfl:xs=[]:=List.eq_nil_of_length_eq_zero hl
    exact run_convert_bytes_nil w src e hs he 0 0 dst hd
  · refine run_convert_bytes_arg w src e hs he g 0 n cap xs hl (fun i hi=>?_) dst hd
    have hc:=h.cells (g:=g) rfl i (.int .u8 (xs.getD i 0)) (by simp [nums,List.getElem?_eq_getElem (show i<xs.length by omega),List.getD_eq_getElem?_getD]);have ha:(⟨g,0,none⟩:Addr).add i=⟨g,0+i,none⟩:=by unfold Addr.add;split<;>simp_all
    rwa [ha] at hc

section
variable {P : Program} {ops:Array Oper} {rest:List Oper} {o:Oper} {a:Act} {Q:Exit→Act→World→Prop}

end

section
variable {P : Program}
end
section
variable {P : Program} {ops:Array Oper} {rest:List Oper} {o:Oper} {a:Act} {Q:Exit→Act→World→Prop}
end

def bytesOf (s : ByteArray):List Int:=s.data.toList.map fun b=>(b.toNat:Int)
theorem data_length (s : ByteArray):s.data.toList.length=s.size:=by rw [Array.length_toList];rfl
theorem bytesOf_length (s : ByteArray):(bytesOf s).length=s.size:=by rw [bytesOf,List.length_map,data_length]
theorem rd_bytesOf (s : ByteArray) (i:Int):rd (bytesOf s) i=bt s i:=by
  unfold rd bt bytesOf;split
  · rename_i h
    have h':i.toNat<s.data.toList.length:=by rw [data_length];exact h
    simp [List.getD_eq_getElem?_getD,List.getElem?_eq_getElem h'];rfl
  · rename_i h
    have h':s.data.toList.length≤i.toNat:=by rw [data_length];omega
    simp [List.getD_eq_getElem?_getD,List.getElem?_eq_none h']
theorem print_bytes {P : Program} (src dst e:TypeId) {u:TypeDesc} (hs:P.underlying src=some u) (hd:P.underlying dst=some (.slice e)) (he:P.underlying e=some (.int .u8)) (s:ByteArray) (W:World) :
    (convert src dst (.string s)).run P W = .ok (.slice (some ⟨W.heap.size,0,none⟩) s.size (grownCap W s.size 0 e)) (Lib.bytesWorld W e s):=Lib.run_convert_string_bytes W src dst e s hs hd he
theorem bytes_reads (W : World) (e:TypeId) (s:ByteArray) (hs:s.size≤9223372036854775807):ReadsInt (Lib.bytesWorld W e s) .u8 (some ⟨W.heap.size,0,none⟩) s.size (bytesOf s):=by
  refine ⟨bytesOf_length s,hs,fun _=>⟨_,rfl,fun j hj=>?_⟩⟩;rw [add_plain,Lib.bytesWorld_cell W e s j hj];have h':j<s.data.toList.length:=by rw [data_length];exact hj
  simp [bytesOf,List.getD_eq_getElem?_getD,List.getElem?_eq_getElem h']
theorem bytes_below {B : Nat} {w W:World} (h:Below B w W) (hB:B≤W.heap.size) (e:TypeId) (s:ByteArray):Below B w (Lib.bytesWorld W e s) :=
  h.trans ⟨rfl,rfl,rfl,by rw [Lib.bytesWorld_size];omega,fun i hi=>Lib.bytesWorld_at_old W e s i (by omega)⟩
theorem ReadsInt.take_ {w : World} {k:IntKind} {A:Option Addr} {n:Nat} {xs:List Int} (h:ReadsInt w k A n xs) (i:Nat) (hi:i≤n):ReadsInt w k A i (xs.take i):=by
  refine ⟨by rw [List.length_take,h.1];omega,by have:=h.2.1;omega,fun hp=>?_⟩;obtain ⟨ad,e,hc⟩:=h.2.2 (by omega);refine ⟨ad,e,fun j hj=>?_⟩;rw [hc j (by omega)];simp [List.getD_eq_getElem?_getD,hj]
theorem ReadsInt.drop_ {w : World} {k:IntKind} {A:Option Addr} {n c:Nat} {xs:List Int} (h:ReadsInt w k A n xs) (i:Nat) (hi:i≤n) (hc:n≤c):ReadsInt w k (if c=i then A else A.map (·.add i)) (n - i) (xs.drop i):=by
  refine ⟨by rw [List.length_drop,h.1],by have:=h.2.1;omega,fun hp=>?_⟩;obtain ⟨ad,rfl,hcell⟩:=h.2.2 (by omega);rw [if_neg (by omega)];refine ⟨ad.add i,rfl,fun j hj=>?_⟩
  have ha:(ad.add i).add j=ad.add (i+j):=by
    unfold Addr.add;by_cases h1:i=0<;>by_cases h2:j=0<;>simp [h1,h2,Nat.add_assoc]
  rw [ha,hcell (i+j) (by omega)];simp [List.getD_eq_getElem?_getD,List.getElem?_drop]
def LeO {α : Type} (a b:Option α):Prop:=∀ r,a=some r→b=some r
theorem LeO.refl {α : Type} (a:Option α):LeO a a:=fun _ h=>h
theorem LeO.none {α : Type} (b:Option α):LeO Option.none b:=fun _ h=>by cases h
theorem LeO.trans {α : Type} {a b c:Option α} (h:LeO a b) (k:LeO b c):LeO a c:=fun r hr=>k r (h r hr)
theorem LeO.ite {α : Type} {c:Prop} [Decidable c] {a a' b b':Option α} (h:LeO a a') (k:LeO b b'):LeO (if c then a else b) (if c then a' else b'):=by
  split
  · exact h
  · exact k
theorem LeO.bind {α β : Type} {a a':Option α} {f f':α→Option β} (h:LeO a a') (k:∀ x,LeO (f x) (f' x)):LeO (a.bind f) (a'.bind f'):=by
  intro r hr;obtain ⟨x,hx,hf⟩:=Option.bind_eq_some_iff.1 hr;exact Option.bind_eq_some_iff.2 ⟨x,h x hx,k x r hf⟩
theorem LeO.map {α β : Type} {a a':Option α} (f:α→β) (h:LeO a a'):LeO (a.map f) (a'.map f):=by
  intro r hr;obtain ⟨x,hx,hf⟩:=Option.map_eq_some_iff.1 hr;exact Option.map_eq_some_iff.2 ⟨x,h x hx,hf⟩
theorem more_rounds {α : Type} {g:Nat→Option α} (h:∀ k,LeO (g k) (g (k+1))) (k:Nat):∀ j,LeO (g k) (g (k+j))
  | 0=>LeO.refl _
  | j+1=>(more_rounds h k j).trans (h (k+j))
theorem at_rounds {α : Type} {g:Nat→Option α} (h:∀ k,LeO (g k) (g (k+1))) {k k':Nat} (hk:k≤k') {r:α} (hr:g k=some r):g k'=some r:=by
  have:=more_rounds h k (k' - k) r hr
  rwa [Nat.add_sub_cancel' hk] at this
def Reps {α : Type} (R:α→List Value→Prop) (size:Nat) (ps:List α) (cs:List Value):Prop :=
  cs.length=ps.length*size∧∀ j p,ps[j]? = some p→R p ((cs.drop (j*size)).take size)
theorem Reps.none {α : Type} (R:α→List Value→Prop) (size:Nat):Reps R size [] []:=⟨by simp,fun j p h=>by simp at h⟩
theorem Reps.snoc {α : Type} {R:α→List Value→Prop} {size:Nat} {ps:List α} {cs c:List Value} {p:α} (h:Reps R size ps cs) (hp:R p c) (hc:c.length=size):Reps R size (ps++[p]) (cs++c):=by
  refine ⟨by rw [List.length_append,h.1,hc,List.length_append,List.length_singleton,Nat.add_mul,Nat.one_mul],fun j q hq=>?_⟩;rcases Nat.lt_or_ge j ps.length with hj|hj
  · rw [List.getElem?_append_left hj] at hq
    have h1:j*size+size≤cs.length:=by rw [h.1,← Nat.succ_mul];exact Nat.mul_le_mul_right _ hj
    have h2:=h.2 j q hq;rw [List.drop_append_of_le_length (by omega),List.take_append_of_le_length (by rw [List.length_drop];omega)];exact h2
  · have hj':j=ps.length:=by
      have:=(List.getElem?_eq_some_iff.1 hq).1;rw [List.length_append,List.length_singleton] at this;omega
    subst hj';have hq':p=q:=by simpa using hq
    subst hq';rw [← h.1,List.drop_left,← hc,List.take_length];exact hp
theorem Reps.imp_ {α : Type} {R R':α→List Value→Prop} {size:Nat} {ps:List α} {cs:List Value} (h:Reps R size ps cs) (hR:∀ p c,R p c→R' p c):Reps R' size ps cs:=⟨h.1,fun j p hj=>hR _ _ (h.2 j p hj)⟩

def ReadsRow {α : Type} (R:α→List Value→Prop) (size:Nat) (w:World) (A:Option Addr) (n:Nat) (ps:List α):Prop :=
  ps.length=n∧n≤9223372036854775807∧(0<n→∃ ad,A=some ad∧∀ j p,ps[j]? = some p→∃ c,c.length=size∧R p c∧∀ i u,c[i]? = some u→w.cell? (ad.add (j*size+i))=some u)
theorem ReadsRow.get_ {α : Type} {R:α→List Value→Prop} {size:Nat} {w:World} {A:Option Addr} {n:Nat} {ps:List α} (h:ReadsRow R size w A n ps) (d:α) (i:Int) (h0:0≤i) (h1:i<n) :
    ∃ ad c,A=some ad∧c.length=size∧R (ps.getD i.toNat d) c∧∀ j u,c[j]? = some u→w.cell? (ad.add (i.toNat*size+j))=some u:=by
  obtain ⟨ad,e,hc⟩:=h.2.2 (by omega);have hl:i.toNat<ps.length:=by have:=h.1;omega
  obtain ⟨c,hs,hr,hcell⟩:=hc i.toNat _ (List.getElem?_eq_getElem hl);refine ⟨ad,c,e,hs,?_,hcell⟩;rw [List.getD_eq_getElem?_getD,List.getElem?_eq_getElem hl];exact hr
theorem ReadsRow.imp_ {α : Type} {R R':α→List Value→Prop} {size:Nat} {w w1:World} {A:Option Addr} {n:Nat} {ps:List α} (h:ReadsRow R size w A n ps) (hb:Below w.heap.size w w1) (hR:∀ p c,R p c→R' p c):ReadsRow R' size w1 A n ps :=
  ⟨h.1,h.2.1,fun hn=>by
    obtain ⟨ad,e,hc⟩:=h.2.2 hn;refine ⟨ad,e,fun j p hj=>?_⟩;obtain ⟨c,hs,hr,hcell⟩:=hc j p hj;exact ⟨c,hs,hR _ _ hr,fun i u hu=>pw_cell_below hb (hcell i u hu)⟩⟩
theorem own_reads_row {α : Type} {R:α→List Value→Prop} {w:World} {base n size:Nat} {e:TypeId} {v:Value} {ps:List α} {cs:List Value} (h:w.ownsRow base e size v n cs) (hR:Reps R size ps cs) (hn:ps.length=n) :
    ∃ A c,v = .slice A n c∧ReadsRow R size w A n ps:=by
  rcases Nat.eq_zero_or_pos n with h0|h0
  · rcases h.2 with ⟨rfl,rfl⟩|⟨g,cap,cur,rfl,_⟩
    · exact ⟨none,0,rfl,hn,by omega,fun hp=>absurd hp (by omega)⟩
    · exact ⟨_,cap,rfl,hn,by omega,fun hp=>absurd hp (by omega)⟩
  · obtain ⟨g,cap,rfl,_,_⟩:=h.form h0
    have hm:n≤9223372036854775807:=by
      rcases h.2 with ⟨_,h1⟩|⟨g',cap',cur,he,_,_,h1,h2,_⟩
      · omega
      · simp only [maxLen] at h2
        omega
    refine ⟨_,cap,rfl,hn,hm,fun _=>⟨_,rfl,fun j p hj=>⟨(cs.drop (j*size)).take size,?_,hR.2 j p hj,fun i u hu=>?_⟩⟩⟩
    · have hjl:=(List.getElem?_eq_some_iff.1 hj).1
      have h1:j*size+size≤cs.length:=by rw [hR.1,← Nat.succ_mul];exact Nat.mul_le_mul_right _ hjl
      rw [List.length_take,List.length_drop];omega
    · refine h.cells (g:=g) rfl _ u ?_
      rw [List.getElem?_take] at hu;split at hu
      · rw [List.getElem?_drop] at hu
        exact hu
      · cases hu
theorem j3z (ad : Addr) (m j:Nat) (hj:0<j):ad.add (m+j)=⟨(ad.add m).block,(ad.add m).off+j,none⟩:=by
  unfold Addr.add;by_cases hm:m=0
  · subst hm
    simp [Nat.ne_of_gt hj]
  · simp [hm,Nat.add_assoc]

section
variable {P : Program} {ops:Array Oper} {rest:List Oper} {o:Oper} {a:Act} {Q:Exit→Act→World→Prop}
theorem print_append_cells {w0 W : World} (base:Nat) (hgd:o.guard=none) (s x:Operand) (t e:TypeId) (z:Value) (size bytes:Nat)
    (ho:o.op = .call { callee := .builtin .append,args:=#[s,x],argTypes:=#[t,t] })
    (ht:P.underlying t=some (.slice e)) (hinfo:(P.info? e).map (fun i=>(i.zero,i.size,i.bytes))=some (some z,size,bytes)) (hz:z.cells.size=size) (hs0:0<size) (hb0:0<bytes)
    (v:Value) (n:Nat) (xs ys:List Value) (hs:a.eval s=v) (hx:a.eval x = .slice (some ⟨W.heap.size,0,none⟩) 1 1) (hys:ys.length=size) (h1:∀ u ∈ ys,u.oneCell'=true)
    (HO:W.ownsRow base e size v n xs) (HB:Below base w0 W) (hbase:base≤W.heap.size) (hl:(n+1)*bytes≤140737488355328)
    (h:∀ v1 w1,w1.ownsRow base e size v1 (n+1) (xs++ys)→Below base w0 w1→W.grownBy w1 v.ownBlock→(v1.ownBlock=v.ownBlock∨∃ b,v1.ownBlock=some b∧W.heap.size≤b)→wpList P ops Q rest (a.put o.dst v1) w1) :
    wpList P ops Q (o :: rest) a (W.alloc (.cells ys.toArray e)):=by
  obtain ⟨i0,hi,hzz⟩:=Option.map_eq_some_iff.1 hinfo;simp only [Prod.mk.injEq] at hzz;obtain ⟨hz0,hz1,hz2⟩:=hzz;have hlen:n+1≤140737488355328:=Nat.le_trans (Nat.le_mul_of_pos_right _ hb0) hl
  refine wpList_append_own_at (W.alloc (.cells ys.toArray e)) hgd s x t ho base e i0 z size bytes ht hi hz0 hz1 hz2 hz hs0 v n xs hs (HO.alloc _) ⟨W.heap.size,0,none⟩ 1 1 ys hx (by rw [hys];simp)
    (by simpa using World.news_of_block (cs:=ys.toArray) (t:=e) (fr:=(0,0)) (heap_alloc_new W (.cells ys.toArray e))) h1 (by simp only [maxLen];omega) hl (by simp;omega) ?_
  intro v1 w1 hown hg _ hat;refine h v1 w1 hown ((HB.alloc hbase _).grown hg (by simp;omega) (own_base HO)) (World.grownBy.trans (World.grownBy_alloc W _ _) hg) ?_;rcases hat with hat|hat
  · exact .inl hat
  · exact .inr ⟨_,hat,by simp⟩
end

theorem own_ne {w : World} {base:Nat} {e t:TypeId} {size n g:Nat} {v:Value} {xs:List Value} {cs:Array Value} (h:w.ownsRow base e size v n xs) (hg:w.heap[g]? = some (.cells cs t (0,0))) (hne:e≠t):some g≠v.ownBlock:=by
  rcases h.2 with ⟨rfl,_⟩|⟨g',cap,cur,rfl,_,hh,_⟩
  · simp [Value.ownBlock]
  · intro he
    have:g=g':=by simpa [Value.ownBlock] using he
    subst this;rw [hg] at hh;injection hh with hh
    injection hh with _ ht
    exact hne ht.symm
theorem own_setCell {w : World} {base:Nat} {e:TypeId} {size n:Nat} {v:Value} {xs:List Value} (h:w.ownsRow base e size v n xs) {p:Addr} (hne:some p.block≠v.ownBlock) (u:Value):(w.setCell p u).ownsRow base e size v n xs:=by
  obtain ⟨h1,h2⟩:=h;refine ⟨h1,?_⟩;rcases h2 with h2|⟨g,cap,cur,rfl,hg,hh,r⟩
  · exact .inl h2
  · exact .inr ⟨g,cap,cur,rfl,hg,by rw [Below.heap_setCell _ _ _ _ (fun e=>hne (by rw [e];rfl))];exact hh,r⟩
theorem blk_set {w : World} {g:Nat} {t:TypeId} {cs:Array Value} (h:w.heap[g]? = some (.cells cs t (0,0))) (i:Nat) (u:Value):(w.setCell ⟨g,i,none⟩ u).heap[g]? = some (.cells (cs.setIfInBounds i u) t (0,0)):=by
  simp [World.setCell,Array.getElem?_modify,h]
theorem j3h {w : World} {g:Nat} {t:TypeId} {cs:Array Value} (h:w.heap[g]? = some (.cells cs t (0,0))) {p:Addr} (hp:g≠p.block) (u:Value):(w.setCell p u).heap[g]? = some (.cells cs t (0,0)):=(Below.heap_setCell w p u g hp).trans h
theorem j3p {w : World} {g:Nat} {o:Obj} (h:w.heap[g]? = some o):g<w.heap.size:=(Array.getElem?_eq_some_iff.1 h).1
theorem j1b {w : World} {g:Nat} {t:TypeId} {cs:Array Value} (h:w.heap[g]? = some (.cells cs t (0,0))) (i:Nat):w.cell? ⟨g,i,none⟩=cs[i]? := cell_of_row w g i cs t (0,0) h
theorem j1a {w : World} {g:Nat} {t:TypeId} {cs:Array Value} (h:w.heap[g]? = some (.cells cs t (0,0))) (i:Nat):w.frozen? ⟨g,i,none⟩=false:=by simp [World.frozen?,h]
theorem blk_grown {w w1 : World} {g:Nat} {o:Obj} {row:Option Nat} (h:w.heap[g]? = some o) (hg:w.grownBy w1 row) (hne:some g≠row):w1.heap[g]? = some o:=(hg.block g (j3p h) hne).trans h
def KeepBut (w w' : World) (g:Nat) (row:Option Nat):Prop:=w.heap.size≤w'.heap.size∧∀ i,i<w.heap.size→i≠g→some i≠row→w'.heap[i]? = w.heap[i]?
theorem KeepBut.refl (w : World) (g:Nat) (row:Option Nat):KeepBut w w g row:=⟨Nat.le_refl _,fun _ _ _ _=>rfl⟩
theorem KeepBut.of_grown {w w1 : World} {row:Option Nat} (h:w.grownBy w1 row) (g:Nat):KeepBut w w1 g row:=⟨h.size,fun i hi _ hr=>h.block i hi hr⟩
theorem KeepBut.of_below {w w1 : World} (h:Below w.heap.size w w1) (g:Nat) (row:Option Nat):KeepBut w w1 g row:=⟨h.size,fun i hi _ _=>h.block i hi⟩
theorem KeepBut.set_ {w w1 : World} {g:Nat} {row:Option Nat} (h:KeepBut w w1 g row) (j:Nat) (u:Value):KeepBut w (w1.setCell ⟨g,j,none⟩ u) g row :=
  ⟨by simpa [World.setCell] using h.1,fun i hi hg hr=>(Below.heap_setCell w1 ⟨g,j,none⟩ u i hg).trans (h.2 i hi hg hr)⟩
theorem KeepBut.trans {w w1 w2:World} {g:Nat} {row row1:Option Nat} (h:KeepBut w w1 g row) (k:KeepBut w1 w2 g row1) (hr:row1=row∨∃ b,row1=some b∧w.heap.size≤b):KeepBut w w2 g row :=
  ⟨Nat.le_trans h.1 k.1,fun i hi hg hn=>by
    refine (k.2 i (Nat.lt_of_lt_of_le hi h.1) hg ?_).trans (h.2 i hi hg hn);rcases hr with rfl|⟨b,rfl,hb⟩
    · exact hn
    · intro e
      injection e with e
      omega⟩
theorem KeepBut.blk {w w1 : World} {g g':Nat} {row:Option Nat} {o:Obj} (h:KeepBut w w1 g row) (hb:w.heap[g']? = some o) (hg:g'≠g) (hr:some g'≠row):w1.heap[g']? = some o:=(h.2 g' (j3p hb) hg hr).trans hb
theorem KeepBut.own {w w1 : World} {g:Nat} {row:Option Nat} {base:Nat} {e:TypeId} {size n:Nat} {v:Value} {xs:List Value} (h:KeepBut w w1 g row) (ho:w.ownsRow base e size v n xs) (hg:v.ownBlock≠some g) (hr:v.ownBlock=none∨v.ownBlock≠row):w1.ownsRow base e size v n xs:=by
  obtain ⟨h1,h2⟩:=ho;refine ⟨h1,?_⟩;rcases h2 with h2|⟨b,cap,cur,rfl,hb,hh,r⟩
  · exact .inl h2
  · refine .inr ⟨b,cap,cur,rfl,hb,h.blk hh ?_ ?_,r⟩
    · intro e
      exact hg (by rw [← e];rfl)
    · rcases hr with hr|hr
      · simp [Value.ownBlock] at hr
      · exact hr
def Ev {α : Type} (g:Nat→Option α) (r:α):Prop:=∃ K,∀ k,K≤k→g k=some r
theorem Ev.of {α : Type} {g:Nat→Option α} {r:α} (hg:∀ k,LeO (g k) (g (k+1))) {k:Nat} (h:g k=some r):Ev g r:=⟨k,fun _ hk=>at_rounds hg hk h⟩
theorem Ev.now {α : Type} (r:α):Ev (fun _=>some r) r:=⟨0,fun _ _=>rfl⟩
theorem Ev.rounds {α : Type} {g:Nat→Option α} {r:α} (h:Ev g r):∃ k,g k=some r:=by
  obtain ⟨K,h⟩:=h;exact ⟨K,h K (Nat.le_refl _)⟩
theorem Ev.bind {α β : Type} {g:Nat→Option α} {f:Nat→α→Option β} {a:α} {r:β} (h:Ev g a) (k:Ev (fun n=>f n a) r):Ev (fun n=>(g n).bind (f n)) r:=by
  obtain ⟨K,h⟩:=h;obtain ⟨K',k⟩:=k;refine ⟨max K K',fun n hn=>?_⟩;have h1:=h n (by omega);have h2:=k n (by omega);simp only [h1,Option.bind_some];exact h2
theorem Ev.step {α : Type} {g f:Nat→Option α} {r:α} (h:∀ k,g (k+1)=f k) (k:Ev f r):Ev g r:=by
  obtain ⟨K,k⟩:=k;refine ⟨K+1,fun n hn=>?_⟩;obtain ⟨m,rfl⟩:∃ m,n=m+1:=⟨n - 1,by omega⟩;rw [h];exact k m (by omega)
theorem Ev.congr {α : Type} {g f:Nat→Option α} {r:α} (h:∀ k,g k=f k) (k:Ev f r):Ev g r:=by
  obtain ⟨K,k⟩:=k;exact ⟨K,fun n hn=>(h n).trans (k n hn)⟩
section
variable {P : Program} {ops:Array Oper} {o:Oper} {a:Act} {Q:Exit→Act→World→Prop} {K:Act→World→Prop}
end
theorem own_weaken {w : World} {base base':Nat} {e:TypeId} {size n:Nat} {v:Value} {xs:List Value} (h:w.ownsRow base e size v n xs) (hb:base'≤base):w.ownsRow base' e size v n xs:=by
  obtain ⟨h1,h2⟩:=h;refine ⟨h1,?_⟩;rcases h2 with h2|⟨g,cap,cur,rfl,hg,r⟩
  · exact .inl h2
  · exact .inr ⟨g,cap,cur,rfl,Nat.le_trans hb hg,r⟩
section
variable {α : Type} {enc:α→Value} {d:α}
def encs (enc : α→Value) (xs:List α):List Value:=xs.map enc
def rdOf (d : α) (xs:List α) (i:Int):α:=xs.getD i.toNat d
theorem encs_length (xs : List α):(encs enc xs).length=xs.length:=by simp [encs]
def ReadsOf (enc : α→Value) (d:α) (w:World) (A:Option Addr) (n:Nat) (xs:List α):Prop :=
  xs.length=n∧n≤9223372036854775807∧(0<n→∃ ad,A=some ad∧∀ j,j<n→w.cell? (ad.add j)=some (enc (xs.getD j d)))
theorem ReadsOf.at_ {w : World} {A:Option Addr} {n:Nat} {xs:List α} (h:ReadsOf enc d w A n xs) (i:Int) (h0:0≤i) (h1:i<n):∃ ad,A=some ad∧w.cell? (ad.add i.toNat)=some (enc (rdOf d xs i)):=by
  obtain ⟨ad,e,hc⟩:=h.2.2 (by omega);exact ⟨ad,e,hc _ (by omega)⟩
theorem ReadsOf.below {w w1 : World} {A:Option Addr} {n:Nat} {xs:List α} (h:ReadsOf enc d w A n xs) (hb:Below w.heap.size w w1):ReadsOf enc d w1 A n xs :=
  ⟨h.1,h.2.1,fun hn=>by
    obtain ⟨ad,e,hc⟩:=h.2.2 hn;exact ⟨ad,e,fun j hj=>pw_cell_below hb (hc j hj)⟩⟩
theorem ReadsOf.take_ {w : World} {A:Option Addr} {n:Nat} {xs:List α} (h:ReadsOf enc d w A n xs) (i:Nat) (hi:i≤n):ReadsOf enc d w A i (xs.take i):=by
  refine ⟨by rw [List.length_take,h.1];omega,by have:=h.2.1;omega,fun hp=>?_⟩;obtain ⟨ad,e,hc⟩:=h.2.2 (by omega);refine ⟨ad,e,fun j hj=>?_⟩;rw [hc j (by omega)];simp [List.getD_eq_getElem?_getD,hj]
theorem ReadsOf.drop_ {w : World} {A:Option Addr} {n c:Nat} {xs:List α} (h:ReadsOf enc d w A n xs) (i:Nat) (hi:i≤n) (hc:n≤c):ReadsOf enc d w (if c=i then A else A.map (·.add i)) (n - i) (xs.drop i):=by
  refine ⟨by rw [List.length_drop,h.1],by have:=h.2.1;omega,fun hp=>?_⟩;obtain ⟨ad,rfl,hcell⟩:=h.2.2 (by omega);rw [if_neg (by omega)];refine ⟨ad.add i,rfl,fun j hj=>?_⟩
  have ha:(ad.add i).add j=ad.add (i+j):=by
    unfold Addr.add;by_cases h1:i=0<;>by_cases h2:j=0<;>simp [h1,h2,Nat.add_assoc]
  rw [ha,hcell (i+j) (by omega)];simp [List.getD_eq_getElem?_getD,List.getElem?_drop]
theorem print_cut_of {P : Program} (enc:α→Value) (d:α) (t e:TypeId) (kl:IntKind) {i:TypeInfo} (ht:P.underlying t=some (.slice e)) (hi:P.info? e=some i) (hsz:i.size=1) (A:Option Addr) (n c m:Nat) (hm:m≤n) :
    ∃ A':Option Addr,(∀ W:World,(Instr.slice t (.slice A n c) (some (.int kl (m:Int))) none none).run P W = .ok (.slice A' (n - m) (c - m)) W) ∧
      ∀ (w:World) (xs:List α),n≤c→ReadsOf enc d w A n xs→ReadsOf enc d w A' (n - m) (xs.drop m):=by
  refine ⟨if c=m then A else A.map (·.add m),fun W=>?_,fun w xs hc h=>h.drop_ m hm hc⟩;have hel:P.elem t=e:=by simp [Program.elem,ht]
  have hu:P.underlying t=some (.slice (P.elem t)):=by rw [hel];exact ht
  rw [run_slice_l W t A n c hu kl (m:Int) (Int.natCast_nonneg _) (by omega),hel];simp [sizeOf,typeInfo,hi,hsz,sliced,Result.andThen]
end
section
variable {α : Type} {P:Program} {ops:Array Oper} {rest:List Oper} {o:Oper} {a:Act} {Q:Exit→Act→World→Prop}
end

theorem j1c {w : World} {g:Nat} {o:Obj} (h:w.heap[g]? = some o) (o':Obj):(w.alloc o').heap[g]? = some o:=(Below.heap_alloc w o' g (j3p h)).trans h
theorem j1k {w : World} {g:Nat} {o:Obj} (h:w.heap[g]? = some o):w.drew.heap[g]? = some o:=h
theorem j1e {w : World} {g:Nat} {o:Obj} (h:w.heap[g]? = some o) (n:Nat):(w.drewN n).heap[g]? = some o:=h
theorem j2y {w w1 : World} {g:Nat} {o:Obj} (h:w.heap[g]? = some o) (hb:Below w.heap.size w w1):w1.heap[g]? = some o:=(hb.block g (j3p h)).trans h
theorem j4m (w : World) (o:Obj):(w.alloc o).heap[w.heap.size]? = some o:=heap_alloc_new w o
section
variable {P : Program}
theorem j3b {fn : Func} {p u:Tmp} {ty:TypeId} (h:fn.results = #[.cell p ty, .tmp u]) (tmps:Array Value) (w:World) (g:Nat) (t:TypeId) (cs:Array Value) (fr:Nat × Nat) (d:TypeDesc)
    (hp:tmps.getD p undef = .pointer (some ⟨g,0,none⟩)) (hg:w.heap[g]? = some (.cells cs t fr))
    (hu:P.underlying ty=some d) (hd:(match d with | .struct _ | .array _ _=>true|_=>false)=true) (hi:(P.info? ty).map (·.size)=some cs.size) :
    (results fn tmps).run P w = .ok (.tuple #[.agg cs,tmps.getD u undef]) w:=by
  have hp':tmps[p]?.getD undef = .pointer (some ⟨g,0,none⟩):=by simpa using hp
  simp [results,h,hp',asAddr,run_loadVar_row w g t ty cs fr d hg hu hd hi]
end
theorem own_le {w : World} {base n m c size:Nat} {e:TypeId} {A:Option Addr} {xs:List Value} (h:w.ownsRow base e size (.slice A m c) n xs):m≤c:=by
  rcases h.2 with ⟨he,_⟩|⟨g,cap,cur,he,_,_,hnc,_⟩
  · injection he with _ h2 h3
    omega
  · injection he with _ h2 h3
    omega
def OwnRow {α : Type} (R:α→List Value→Prop) (e:TypeId) (size:Nat) (w:World) (base:Nat) (v:Value) (ps:List α):Prop :=
  ∃ inner,w.ownsRow base e size v ps.length inner∧Reps R size ps inner
section
variable {α : Type} {R R':α→List Value→Prop} {e:TypeId} {size:Nat} {w w1:World} {base:Nat} {v:Value} {ps:List α}
theorem OwnRow.none_ (R : α→List Value→Prop) (e:TypeId) (size:Nat) (w:World) (base:Nat):OwnRow R e size w base (.slice none 0 0) []:=⟨[],own_nil _ _ _ _,Reps.none _ _⟩
theorem OwnRow.imp_ (h : OwnRow R e size w base v ps) (hR:∀ p c,R p c→R' p c):OwnRow R' e size w base v ps:=by
  obtain ⟨inner,ho,hr⟩:=h;exact ⟨inner,ho,hr.imp_ hR⟩
theorem OwnRow.below (h : OwnRow R e size w base v ps) (hb:Below w.heap.size w w1):OwnRow R e size w1 base v ps:=by
  obtain ⟨inner,ho,hr⟩:=h;exact ⟨inner,pw_own_below ho hb,hr⟩
theorem OwnRow.set_ (h : OwnRow R e size w base v ps) {g:Nat} {t:TypeId} {cells:Array Value} (hb:w.heap[g]? = some (.cells cells t (0,0))) (ht:e≠t) (j:Nat) (u:Value):OwnRow R e size (w.setCell ⟨g,j,none⟩ u) base v ps:=by
  obtain ⟨inner,ho,hr⟩:=h;exact ⟨inner,own_setCell ho (own_ne ho hb ht) u,hr⟩
theorem OwnRow.keep (h : OwnRow R e size w base v ps) {g:Nat} {t:TypeId} {cells:Array Value} (hb:w.heap[g]? = some (.cells cells t (0,0))) (ht:e≠t) (hk:KeepBut w w1 g none):OwnRow R e size w1 base v ps:=by
  obtain ⟨inner,ho,hr⟩:=h;exact ⟨inner,hk.own ho (Ne.symm (own_ne ho hb ht)) (by cases v.ownBlock<;>simp),hr⟩
theorem OwnRow.reads (h : OwnRow R e size w base v ps):∃ A c,v = .slice A ps.length c∧ps.length≤c∧ReadsRow R size w A ps.length ps:=by
  obtain ⟨inner,ho,hr⟩:=h;obtain ⟨A,c,rfl,hrow⟩:=own_reads_row ho hr rfl;exact ⟨A,c,rfl,own_le ho,hrow⟩
theorem OwnRow.ne_block (h : OwnRow R e size w base v ps) {g:Nat} {t:TypeId} {cells:Array Value} (hb:w.heap[g]? = some (.cells cells t (0,0))) (ht:e≠t):some g≠v.ownBlock:=by
  obtain ⟨inner,ho,hr⟩:=h;exact own_ne ho hb ht
theorem OwnRow.lit (W : World) (base:Nat) {inner:List Value} (hr:Reps R size ps inner) (hb:base≤W.heap.size) (hm:ps.length≤9223372036854775807) :
    OwnRow R e size (W.alloc (.cells inner.toArray e)) base (.slice (some ⟨W.heap.size,0,none⟩) ps.length ps.length) ps:=by
  have h:=World.ownsRow_lit (base:=base) (e:=e) (size:=size) W inner.toArray ps.length hb (by simpa [maxLen] using hm) (by simpa using hr.1);exact ⟨inner,by simpa using h,hr⟩
end
section
variable {P : Program} {ops:Array Oper} {rest:List Oper} {o:Oper} {a:Act} {Q:Exit→Act→World→Prop} {α:Type} {R:α→List Value→Prop}
theorem OwnRow.append {w0 W : World} (base:Nat) (hgd:o.guard=none) (s x:Operand) (t e:TypeId) (z:Value) (size bytes:Nat)
    (ho:o.op = .call { callee := .builtin .append,args:=#[s,x],argTypes:=#[t,t] })
    (ht:P.underlying t=some (.slice e)) (hinfo:(P.info? e).map (fun i=>(i.zero,i.size,i.bytes))=some (some z,size,bytes)) (hz:z.cells.size=size) (hs0:0<size) (hb0:0<bytes)
    (v:Value) (ps:List α) (p:α) (cs:List Value) (hs:a.eval s=v) (hx:a.eval x = .slice (some ⟨W.heap.size,0,none⟩) 1 1) (hp:R p cs) (hcs:cs.length=size) (h1:∀ u ∈ cs,u.oneCell'=true)
    (HO:OwnRow R e size W base v ps) (HB:Below base w0 W) (hbase:base≤W.heap.size) (hl:(ps.length+1)*bytes≤140737488355328)
    (h:∀ v1 w1,OwnRow R e size w1 base v1 (ps++[p])→Below base w0 w1→W.grownBy w1 v.ownBlock→(v1.ownBlock=v.ownBlock∨∃ b,v1.ownBlock=some b∧W.heap.size≤b)→wpList P ops Q rest (a.put o.dst v1) w1) :
    wpList P ops Q (o :: rest) a (W.alloc (.cells cs.toArray e)):=by
  obtain ⟨inner,hown,hr⟩:=HO;refine print_append_cells base hgd s x t e z size bytes ho ht hinfo hz hs0 hb0 v ps.length inner cs hs hx hcs h1 hown HB hbase hl ?_;intro v1 w1 hown1 hb1 hg1 hat1;exact h v1 w1 ⟨inner++cs,by rw [List.length_append,List.length_singleton];exact hown1,hr.snoc hp hcs⟩ hb1 hg1 hat1
end
section
variable {P : Program} {ops:Array Oper} {o:Oper} {a:Act} {Q:Exit→Act→World→Prop} {K:Act→World→Prop} {α:Type} {R:α→List Value→Prop}
end
theorem ReadsRow.inner_ {α : Type} {R:α→List Value→Prop} {size:Nat} {w:World} {ad:Addr} {n:Nat} {ps:List α} (h:ReadsRow R size w (some ad) n ps) :
    ∃ inner,Reps R size ps inner∧∀ j u,inner[j]? = some u→w.cell? (ad.add j)=some u:=by
  have key:∀ m,m≤ps.length→∃ inner,Reps R size (ps.take m) inner∧∀ j u,inner[j]? = some u→w.cell? (ad.add j)=some u:=by
    intro m
    induction m with
    | zero=>exact fun _=>⟨[],Reps.none _ _,fun j u hu=>by simp at hu⟩
    | succ m ih =>
      intro hm;obtain ⟨inner,hr,hc⟩:=ih (by omega);obtain ⟨ad',he,hcell⟩:=h.2.2 (by have:=h.1;omega);injection he with he
      subst he;obtain ⟨c,hcl,hp,hcc⟩:=hcell m _ (List.getElem?_eq_getElem (show m<ps.length by omega));refine ⟨inner++c,?_,fun j u hu=>?_⟩
      · rw [List.take_succ_eq_append_getElem (show m<ps.length by omega)]
        exact hr.snoc hp hcl
      · have hil:inner.length=m*size:=by rw [hr.1,List.length_take,Nat.min_eq_left (by omega)]
        rcases Nat.lt_or_ge j inner.length with hj|hj
        · rw [List.getElem?_append_left hj] at hu
          exact hc j u hu
        · rw [List.getElem?_append_right hj] at hu
          have:=hcc (j - inner.length) u hu
          rwa [hil,Nat.add_sub_cancel' (by omega)] at this
  obtain ⟨inner,hr,hc⟩:=key ps.length (Nat.le_refl _);rw [List.take_length] at hr;exact ⟨inner,hr,hc⟩
section
variable {α : Type} {P:Program}
theorem print_drop_of (enc : α→Value) (d:α) (t e:TypeId) (kl:IntKind) {i:TypeInfo} (ht:P.underlying t=some (.slice e)) (hi:P.info? e=some i) (hsz:i.size=1) (A:Option Addr) (c:Nat) (xs:List α) (j:Int) (h0:0≤j) (hm:j≤xs.length) (hc:xs.length≤c) :
    ∃ A':Option Addr,(∀ W:World,(Instr.slice t (.slice A xs.length c) (some (.int kl j)) none none).run P W = .ok (.slice A' (xs.drop j.toNat).length (c - j.toNat)) W) ∧
      (∀ w:World,ReadsOf enc d w A xs.length xs→ReadsOf enc d w A' (xs.drop j.toNat).length (xs.drop j.toNat))∧(xs.drop j.toNat).length≤c - j.toNat:=by
  obtain ⟨m,rfl⟩:=Int.eq_ofNat_of_zero_le h0;simp only [Int.toNat_natCast];have hmn:m≤xs.length:=by omega
  obtain ⟨A',h1,h2⟩:=print_cut_of (P:=P) enc d t e kl ht hi hsz A xs.length c m hmn;have hl:(xs.drop m).length=xs.length - m:=List.length_drop;exact ⟨A',fun W=>by rw [hl];exact h1 W,fun w h=>by rw [hl];exact h2 w xs hc h,by rw [hl];omega⟩
end

section
variable {P : Program} {ops:Array Oper} {rest:List Oper} {o:Oper} {a:Act} {Q:Exit→Act→World→Prop}
end
structure Kd (α : Type) where
  sz:Nat
  E:List Nat
  K:World→α→List Value→Prop
  M:World→Nat→(Nat→Prop)→α→List Value→Prop
  K_len:∀ {w x cs},K w x cs→cs.length=sz
  K_one:∀ {w x cs},K w x cs→∀ u ∈ cs,u.oneCell'=true
  K_below:∀ {w w1:World} {x cs},Below w.heap.size w w1→K w x cs→K w1 x cs
  K_of_M:∀ {w base ok x cs},M w base ok x cs→K w x cs
  M_mono:∀ {w base ok ok' x cs},(∀ k,ok k→ok' k)→M w base ok x cs→M w base ok' x cs
  M_bound:∀ {w:World} {base ok x cs},M w base ok x cs→M w base (fun k=>ok k∧base≤k∧k<w.heap.size∧∃ q,q ∈ E∧∃ cells,w.heap[k]? = some (.cells cells q (0,0))) x cs
  M_move:∀ {w w1:World} {base ok x cs},(∀ k,ok k→w1.heap[k]? = w.heap[k]?)→M w base ok x cs→M w1 base ok x cs
  M_lower:∀ {w base base' ok x cs},base'≤base→M w base ok x cs→M w base' ok x cs

theorem own_move {w w1 : World} {base:Nat} {e:TypeId} {size n:Nat} {v:Value} {xs:List Value} (h:w.ownsRow base e size v n xs) (hm:∀ k,v.ownBlock=some k→w1.heap[k]? = w.heap[k]?):w1.ownsRow base e size v n xs:=by
  obtain ⟨h1,h2⟩:=h;refine ⟨h1,?_⟩;rcases h2 with h2|⟨g,cap,cur,rfl,hg,hh,r⟩
  · exact .inl h2
  · exact .inr ⟨g,cap,cur,rfl,hg,(hm g (by simp [Value.ownBlock])).trans hh,r⟩
theorem own_typed {w : World} {base:Nat} {e:TypeId} {size n:Nat} {v:Value} {xs:List Value} (h:w.ownsRow base e size v n xs) (k:Nat) (hk:v.ownBlock=some k):∃ cells,w.heap[k]? = some (.cells cells e (0,0)):=by
  rcases h.2 with ⟨rfl,_⟩|⟨g,cap,cur,rfl,hg,hh,r⟩
  · simp [Value.ownBlock] at hk
  · have:g=k:=by simpa [Value.ownBlock] using hk
    subst this;exact ⟨cur,hh⟩

namespace Kd
def C {α : Type} (d:Kd α) (w:World) (A:Option Addr) (n:Nat) (xs:List α):Prop:=ReadsRow (d.K w) d.sz w A n xs
def R {α : Type} (d:Kd α) (e:Nat) (w:World) (base:Nat) (ok:Nat→Prop) (v:Value) (xs:List α):Prop :=
  (∀ k,v.ownBlock=some k→ok k)∧OwnRow (d.M w base (fun k=>ok k∧some k≠v.ownBlock)) e d.sz w base v xs
section
variable {α : Type} {d:Kd α} {e:Nat} {w w1:World} {base:Nat} {ok ok':Nat→Prop} {v:Value} {xs:List α}
theorem C_below {A : Option Addr} {n:Nat} (h:d.C w A n xs) (hb:Below w.heap.size w w1):d.C w1 A n xs:=ReadsRow.imp_ h hb (fun _ _ hp=>d.K_below hb hp)
theorem R_nil (d : Kd α) (e:Nat) (w:World) (base:Nat) (ok:Nat→Prop):d.R e w base ok (.slice none 0 0) []:=⟨fun k hk=>by simp [Value.ownBlock] at hk,OwnRow.none_ _ _ _ _ _⟩
theorem R_mono (h : d.R e w base ok v xs) (hok:∀ k,ok k→ok' k):d.R e w base ok' v xs:=⟨fun k hk=>hok k (h.1 k hk),h.2.imp_ (fun _ _ hp=>d.M_mono (fun k hk=>⟨hok k hk.1,hk.2⟩) hp)⟩
theorem R_bound (h : d.R e w base ok v xs):d.R e w base (fun k=>ok k∧base≤k∧k<w.heap.size∧∃ q,q ∈ e :: d.E∧∃ cells,w.heap[k]? = some (.cells cells q (0,0))) v xs:=by
  obtain ⟨h0,inner,ho,hr⟩:=h;refine ⟨fun k hk=>?_,inner,ho,hr.imp_ (fun _ _ hp=>d.M_mono (fun k hk=>?_) (d.M_bound hp))⟩
  · obtain ⟨cells,hc⟩:=own_typed ho k hk
    exact ⟨h0 k hk,own_base ho k hk,own_lt ho k hk,e,List.mem_cons_self,cells,hc⟩
  · obtain ⟨⟨h1,h2⟩,h3,h4,q,hq,hc⟩:=hk
    exact ⟨⟨h1,h3,h4,q,List.mem_cons_of_mem _ hq,hc⟩,h2⟩
theorem R_move (h : d.R e w base ok v xs) (hm:∀ k,ok k→w1.heap[k]? = w.heap[k]?):d.R e w1 base ok v xs:=by
  obtain ⟨h0,inner,ho,hr⟩:=h;exact ⟨h0,inner,own_move ho (fun k hk=>hm k (h0 k hk)),hr.imp_ (fun _ _ hp=>d.M_move (fun k hk=>hm k hk.1) hp)⟩
theorem R_lower {base' : Nat} (h:d.R e w base ok v xs) (hb:base'≤base):d.R e w base' ok v xs:=by
  obtain ⟨h0,inner,ho,hr⟩:=h;exact ⟨h0,inner,own_weaken ho hb,hr.imp_ (fun _ _ hp=>d.M_lower hb hp)⟩
theorem R_step (h : d.R e w base ok v xs) (hm:∀ k,ok k→k<w.heap.size→w1.heap[k]? = w.heap[k]?):d.R e w1 base ok v xs :=
  R_mono (R_move (R_bound h) (fun k hk=>hm k hk.1 hk.2.2.1)) (fun _ hk=>hk.1)
theorem M_step {x : α} {cs:List Value} (h:d.M w base ok x cs) (hm:∀ k,ok k→k<w.heap.size→w1.heap[k]? = w.heap[k]?):d.M w1 base ok x cs :=
  d.M_mono (fun _ hk=>hk.1) (d.M_move (fun k hk=>hm k hk.1 hk.2.2.1) (d.M_bound h))
theorem R_below (h : d.R e w base ok v xs) (hb:Below w.heap.size w w1):d.R e w1 base ok v xs:=R_step h (fun k _ hk=>hb.block k hk)
theorem M_below {x : α} {cs:List Value} (h:d.M w base ok x cs) (hb:Below w.heap.size w w1):d.M w1 base ok x cs:=M_step h (fun k _ hk=>hb.block k hk)
theorem R_far (h : d.R e w base ok v xs) {p:Addr} (hok:∀ k,ok k→k≠p.block) (u:Value):d.R e (w.setCell p u) base ok v xs:=R_step h (fun k ho _=>Below.heap_setCell w p u k (hok k ho))
theorem R_keep (h : d.R e w base ok v xs) {g:Nat} (hk:KeepBut w w1 g none) (hok:∀ k,ok k→k≠g):d.R e w1 base ok v xs:=R_step h (fun k ho hlt=>hk.2 k hlt (hok k ho) (by simp))
theorem R_types (h : d.R e w base ok v xs) {g t:Nat} {cells:Array Value} (hb:w.heap[g]? = some (.cells cells t (0,0))) (ht:∀ q,q ∈ e :: d.E→q≠t):d.R e w base (fun k=>ok k∧k≠g) v xs :=
  R_mono (R_bound h) (fun k hk=>⟨hk.1,by
    obtain ⟨_,_,_,q,hq,cells',hc⟩:=hk;rintro rfl;rw [hc] at hb;injection hb with hb
    injection hb with _ hb
    exact ht q hq hb⟩)
theorem R_reads (h : d.R e w base ok v xs):∃ A c,v = .slice A xs.length c∧xs.length≤c∧d.C w A xs.length xs:=by
  obtain ⟨A,c,he,hl,hr⟩:=OwnRow.reads h.2;exact ⟨A,c,he,hl,hr.imp_ (Below.refl _ _) (fun _ _ hp=>d.K_of_M hp)⟩
theorem R_slice (h : d.R e w base ok v xs):∃ A c,v = .slice A xs.length c:=by
  obtain ⟨A,c,he,_⟩:=R_reads h;exact ⟨A,c,he⟩
theorem R_own (h : d.R e w base ok v xs):∃ inner,w.ownsRow base e d.sz v xs.length inner:=by
  obtain ⟨_,inner,ho,_⟩:=h;exact ⟨inner,ho⟩
theorem R_ne (h : d.R e w base ok v xs) {g t:Nat} {cells:Array Value} (hb:w.heap[g]? = some (.cells cells t (0,0))) (ht:e≠t):some g≠v.ownBlock:=OwnRow.ne_block h.2 hb ht
end

def scalar {α : Type} (enc:α→Value) (h1:∀ x,(enc x).oneCell'=true):Kd α where
  sz:=1
  E:=[]
  K:=fun _ x cs=>cs=[enc x]
  M:=fun _ _ _ x cs=>cs=[enc x]
  K_len:=fun h=>by rw [h];rfl
  K_one:=fun h u hu=>by
    rw [h] at hu
    rw [List.mem_singleton.1 hu]
    exact h1 _
  K_below:=fun _ h=>h
  K_of_M:=fun h=>h
  M_mono:=fun _ h=>h
  M_bound:=fun h=>h
  M_move:=fun _ h=>h
  M_lower:=fun _ h=>h
def int (k : IntKind):Kd Int:=scalar (Value.int k) (fun _=>rfl)
def bool : Kd Bool:=scalar Value.bool (fun _=>rfl)
def string : Kd ByteArray:=scalar Value.string (fun _=>rfl)
def slice {α : Type} (e:Nat) (d:Kd α):Kd (List α) where
  sz:=1
  E:=e :: d.E
  K:=fun w xs cs=>∃ A c,cs=[.slice A xs.length c]∧xs.length≤c∧d.C w A xs.length xs
  M:=fun w base ok xs cs=>∃ v,cs=[v]∧d.R e w base ok v xs
  K_len:=by
    rintro w x cs ⟨A,c,rfl,_⟩
    rfl
  K_one:=by
    rintro w x cs ⟨A,c,rfl,_⟩ u hu
    rw [List.mem_singleton.1 hu]
    rfl
  K_below:=by
    rintro w w1 x cs hb ⟨A,c,rfl,hl,hr⟩
    exact ⟨A,c,rfl,hl,C_below hr hb⟩
  K_of_M:=by
    rintro w base ok x cs ⟨v,rfl,h⟩
    obtain ⟨A,c,rfl,hl,hr⟩:=R_reads h
    exact ⟨A,c,rfl,hl,hr⟩
  M_mono:=by
    rintro w base ok ok' x cs hok ⟨v,rfl,h⟩
    exact ⟨v,rfl,R_mono h hok⟩
  M_bound:=by
    rintro w base ok x cs ⟨v,rfl,h⟩
    exact ⟨v,rfl,R_bound h⟩
  M_move:=by
    rintro w w1 base ok x cs hm ⟨v,rfl,h⟩
    exact ⟨v,rfl,R_move h hm⟩
  M_lower:=by
    rintro w base base' ok x cs hb ⟨v,rfl,h⟩
    exact ⟨v,rfl,R_lower h hb⟩
def pair {α β : Type} (a:Kd α) (b:Kd β):Kd (α × β) where
  sz:=a.sz+b.sz
  E:=a.E++b.E
  K:=fun w x cs=>∃ c0 c1,cs=c0++c1∧a.K w x.1 c0∧b.K w x.2 c1
  M:=fun w base ok x cs=>∃ c0 c1,cs=c0++c1∧a.M w base ok x.1 c0∧b.M w base ok x.2 c1
  K_len:=by
    rintro w x cs ⟨c0,c1,rfl,h0,h1⟩
    rw [List.length_append,a.K_len h0,b.K_len h1]
  K_one:=by
    rintro w x cs ⟨c0,c1,rfl,h0,h1⟩ u hu
    rcases List.mem_append.1 hu with hu|hu
    · exact a.K_one h0 u hu
    · exact b.K_one h1 u hu
  K_below:=by
    rintro w w1 x cs hb ⟨c0,c1,rfl,h0,h1⟩
    exact ⟨c0,c1,rfl,a.K_below hb h0,b.K_below hb h1⟩
  K_of_M:=by
    rintro w base ok x cs ⟨c0,c1,rfl,h0,h1⟩
    exact ⟨c0,c1,rfl,a.K_of_M h0,b.K_of_M h1⟩
  M_mono:=by
    rintro w base ok ok' x cs hok ⟨c0,c1,rfl,h0,h1⟩
    exact ⟨c0,c1,rfl,a.M_mono hok h0,b.M_mono hok h1⟩
  M_bound:=by
    rintro w base ok x cs ⟨c0,c1,rfl,h0,h1⟩
    refine ⟨c0,c1,rfl,a.M_mono ?_ (a.M_bound h0),b.M_mono ?_ (b.M_bound h1)⟩
    · rintro k ⟨h2,h3,h4,q,hq,hc⟩
      exact ⟨h2,h3,h4,q,List.mem_append_left _ hq,hc⟩
    · rintro k ⟨h2,h3,h4,q,hq,hc⟩
      exact ⟨h2,h3,h4,q,List.mem_append_right _ hq,hc⟩
  M_move:=by
    rintro w w1 base ok x cs hm ⟨c0,c1,rfl,h0,h1⟩
    exact ⟨c0,c1,rfl,a.M_move hm h0,b.M_move hm h1⟩
  M_lower:=by
    rintro w base base' ok x cs hb ⟨c0,c1,rfl,h0,h1⟩
    exact ⟨c0,c1,rfl,a.M_lower hb h0,b.M_lower hb h1⟩
def iso {α β : Type} (d:Kd α) (f:β→α):Kd β where
  sz:=d.sz
  E:=d.E
  K:=fun w x cs=>d.K w (f x) cs
  M:=fun w base ok x cs=>d.M w base ok (f x) cs
  K_len:=d.K_len
  K_one:=d.K_one
  K_below:=d.K_below
  K_of_M:=d.K_of_M
  M_mono:=d.M_mono
  M_bound:=d.M_bound
  M_move:=d.M_move
  M_lower:=d.M_lower
def bot {α : Type} (sz:Nat) (E:List Nat):Kd α where
  sz:=sz
  E:=E
  K:=fun _ _ _=>False
  M:=fun _ _ _ _ _=>False
  K_len:=fun h=>h.elim
  K_one:=fun h=>h.elim
  K_below:=fun _ h=>h
  K_of_M:=fun h=>h
  M_mono:=fun _ h=>h
  M_bound:=fun h=>h
  M_move:=fun _ h=>h
  M_lower:=fun _ h=>h
def upto {α : Type} (F:Kd α→Kd α) (sz:Nat) (E:List Nat):Nat→Kd α
  | 0=>bot sz E
  | n+1=>F (upto F sz E n)
def fix {α : Type} (F:Kd α→Kd α) (sz:Nat) (E:List Nat) (hs:∀ n,(upto F sz E n).sz=sz) (hE:∀ n q,q ∈ (upto F sz E n).E→q ∈ E):Kd α where
  sz:=sz
  E:=E
  K:=fun w x cs=>∃ n,(upto F sz E n).K w x cs
  M:=fun w base ok x cs=>∃ n,(upto F sz E n).M w base ok x cs
  K_len:=by
    rintro w x cs ⟨n,h⟩
    rw [(upto F sz E n).K_len h,hs n]
  K_one:=by
    rintro w x cs ⟨n,h⟩
    exact (upto F sz E n).K_one h
  K_below:=by
    rintro w w1 x cs hb ⟨n,h⟩
    exact ⟨n,(upto F sz E n).K_below hb h⟩
  K_of_M:=by
    rintro w base ok x cs ⟨n,h⟩
    exact ⟨n,(upto F sz E n).K_of_M h⟩
  M_mono:=by
    rintro w base ok ok' x cs hok ⟨n,h⟩
    exact ⟨n,(upto F sz E n).M_mono hok h⟩
  M_bound:=by
    rintro w base ok x cs ⟨n,h⟩
    refine ⟨n,(upto F sz E n).M_mono ?_ ((upto F sz E n).M_bound h)⟩
    rintro k ⟨h2,h3,h4,q,hq,hc⟩
    exact ⟨h2,h3,h4,q,hE n q hq,hc⟩
  M_move:=by
    rintro w w1 base ok x cs hm ⟨n,h⟩
    exact ⟨n,(upto F sz E n).M_move hm h⟩
  M_lower:=by
    rintro w base base' ok x cs hb ⟨n,h⟩
    exact ⟨n,(upto F sz E n).M_lower hb h⟩

theorem C_get {α : Type} {d:Kd α} {w:World} {A:Option Addr} {n:Nat} {xs:List α} (h:d.C w A n xs) (z:α) (i:Int) (h0:0≤i) (h1:i<n) :
    ∃ ad c,A=some ad∧c.length=d.sz∧d.K w (xs.getD i.toNat z) c∧∀ j u,c[j]? = some u→w.cell? (ad.add (i.toNat*d.sz+j))=some u:=ReadsRow.get_ h z i h0 h1
theorem R_appended {α : Type} {d:Kd α} {e base:Nat} {ok okp:Nat→Prop} {W w1:World} {v v1:Value} {xs:List α} {p:α} {inner cs:List Value} (h0:∀ k,v.ownBlock=some k→ok k) (hr:Reps (d.M W base (fun k=>ok k∧some k≠v.ownBlock)) d.sz xs inner) (hp:d.M W base okp p cs) (hokp:∀ k,okp k→ok k∧some k≠v.ownBlock) (hfresh:∀ k,W.heap.size≤k→ok k)
    (hown:w1.ownsRow base e d.sz v1 (xs.length+1) (inner++cs)) (hg:W.grownBy w1 v.ownBlock) (hat:v1.ownBlock=v.ownBlock∨∃ b,v1.ownBlock=some b∧W.heap.size≤b):d.R e w1 base ok v1 (xs++[p]):=by
  have hne:∀ k,some k≠v.ownBlock→k<W.heap.size→some k≠v1.ownBlock:=by
    intro k hk hlt;rcases hat with hat|⟨b,hb,hle⟩
    · rw [hat];exact hk
    · rw [hb]
      intro he;injection he with he
      omega
  have step:∀ {q:α} {c:List Value} {o:Nat→Prop},d.M W base o q c→(∀ k,o k→ok k∧some k≠v.ownBlock)→d.M w1 base (fun k=>ok k∧some k≠v1.ownBlock) q c:=by
    intro q c o hq ho;have h1:=d.M_move (w1:=w1) (fun k hk=>hg.block k hk.2.2.1 (ho k hk.1).2) (d.M_bound hq);exact d.M_mono (fun k hk=>⟨(ho k hk.1).1,hne k (ho k hk.1).2 hk.2.2.1⟩) h1
  refine ⟨fun k hk=>?_,inner++cs,by rw [List.length_append,List.length_singleton];exact hown,?_⟩
  · rcases hat with hat|⟨b,hb,hle⟩
    · exact h0 k (hat ▸ hk)
    · rw [hb] at hk
      injection hk with hk
      exact hfresh k (by omega)
  · exact (hr.imp_ (fun _ _ hq=>step hq (fun _ hk=>hk))).snoc (step hp hokp) (d.K_len (d.K_of_M hp))
section
variable {P : Program} {ops:Array Oper} {rest:List Oper} {o:Oper} {a:Act} {Q:Exit→Act→World→Prop} {α:Type}
theorem R_append (d : Kd α) {w0 W:World} (base:Nat) (hgd:o.guard=none) (s x:Operand) (t e:TypeId) (z:Value) (bytes:Nat)
    (ho:o.op = .call { callee := .builtin .append,args:=#[s,x],argTypes:=#[t,t] })
    (ht:P.underlying t=some (.slice e)) (hinfo:(P.info? e).map (fun i=>(i.zero,i.size,i.bytes))=some (some z,d.sz,bytes)) (hz:z.cells.size=d.sz) (hs0:0<d.sz) (hb0:0<bytes)
    (v:Value) (xs:List α) (p:α) (cs:List Value) (ok okp:Nat→Prop) (hs:a.eval s=v) (hx:a.eval x = .slice (some ⟨W.heap.size,0,none⟩) 1 1) (hp:d.M W base okp p cs) (hokp:∀ k,okp k→ok k∧some k≠v.ownBlock) (hfresh:∀ k,W.heap.size≤k→ok k)
    (HO:d.R e W base ok v xs) (HB:Below base w0 W) (hbase:base≤W.heap.size) (hl:(xs.length+1)*bytes≤140737488355328)
    (h:∀ v1 w1,d.R e w1 base ok v1 (xs++[p])→Below base w0 w1→W.grownBy w1 v.ownBlock→(v1.ownBlock=v.ownBlock∨∃ b,v1.ownBlock=some b∧W.heap.size≤b)→wpList P ops Q rest (a.put o.dst v1) w1) :
    wpList P ops Q (o :: rest) a (W.alloc (.cells cs.toArray e)):=by
  obtain ⟨h0,inner,hown,hr⟩:=HO;refine print_append_cells base hgd s x t e z d.sz bytes ho ht hinfo hz hs0 hb0 v xs.length inner cs hs hx (d.K_len (d.K_of_M hp)) (d.K_one (d.K_of_M hp)) hown HB hbase hl ?_;intro v1 w1 hown1 hb1 hg1 hat1;exact h v1 w1 (R_appended h0 hr hp hokp hfresh hown1 hg1 hat1) hb1 hg1 hat1
end
section
variable {P : Program} {ops:Array Oper} {o:Oper} {a:Act} {Q:Exit→Act→World→Prop} {Kc:Act→World→Prop} {α:Type}
end
theorem own_of_R {α : Type} {enc:α→Value} {h1:∀ x,(enc x).oneCell'=true} {e:Nat} {w:World} {base:Nat} {ok:Nat→Prop} {v:Value} {xs:List α} (h:(scalar enc h1).R e w base ok v xs):w.ownsRow base e 1 v xs.length (encs enc xs):=by
  obtain ⟨_,inner,ho,hr⟩:=h
  have:inner=encs enc xs:=by
    apply List.ext_getElem?;intro j;rcases Nat.lt_or_ge j xs.length with hj|hj
    · have h2:=hr.2 j _ (List.getElem?_eq_getElem hj)
      have hl:j<inner.length:=by have:=hr.1;simp [scalar] at this;omega
      have h3:(inner.drop (j*1)).take 1=[enc xs[j]]:=h2;rw [Nat.mul_one,List.drop_eq_getElem_cons hl] at h3
      have h4:inner[j]=enc xs[j]:=by
        have h5:=congrArg List.head? h3;rw [List.take_succ_cons] at h5;exact Option.some.inj h5
      rw [List.getElem?_eq_getElem hl,h4];simp [encs,List.getElem?_eq_getElem hj]
    · have h3:inner.length=xs.length:=by have:=hr.1;simp [scalar] at this;omega
      rw [List.getElem?_eq_none (by omega),List.getElem?_eq_none (by rw [encs_length];omega)]
  rw [← this];exact ho
theorem C_of_reads {α : Type} {enc:α→Value} {d:α} {h1:∀ x,(enc x).oneCell'=true} {w:World} {A:Option Addr} {n:Nat} {xs:List α} (h:ReadsOf enc d w A n xs):(scalar enc h1).C w A n xs:=by
  refine ⟨h.1,h.2.1,fun hn=>?_⟩;obtain ⟨ad,e,hc⟩:=h.2.2 hn;refine ⟨ad,e,fun j p hj=>⟨[enc p],rfl,rfl,fun i u hu=>?_⟩⟩;obtain ⟨hl,hp⟩:=List.getElem?_eq_some_iff.1 hj;have h2:=hc j (by have:=h.1;omega);rw [List.getD_eq_getElem?_getD,hj] at h2;cases i with
  | zero =>
    have:enc p=u:=by simpa using hu
    subst this
    simpa [scalar] using h2
  | succ i=>simp at hu
theorem reads_of_C {α : Type} {enc:α→Value} {d:α} {h1:∀ x,(enc x).oneCell'=true} {w:World} {A:Option Addr} {n:Nat} {xs:List α} (h:(scalar enc h1).C w A n xs):ReadsOf enc d w A n xs:=by
  refine ⟨h.1,h.2.1,fun hn=>?_⟩;obtain ⟨ad,e,hc⟩:=h.2.2 hn;refine ⟨ad,e,fun j hj=>?_⟩;have hl:j<xs.length:=by have:=h.1;omega
  obtain ⟨c,_,hK,hcell⟩:=hc j _ (List.getElem?_eq_getElem hl);have hK':c=[enc xs[j]]:=hK;subst hK';have:=hcell 0 _ rfl
  simpa [scalar,List.getD_eq_getElem?_getD,List.getElem?_eq_getElem hl] using this
end Kd
namespace Kd
structure Mono {α β : Type} (F:Kd α→Kd β):Prop where
  sz:∀ d d':Kd α,d.sz=d'.sz→(F d).sz=(F d').sz
  K:∀ d d':Kd α,d.sz=d'.sz→(∀ w x cs,d.K w x cs→d'.K w x cs)→∀ w x cs,(F d).K w x cs→(F d').K w x cs
  M:∀ d d':Kd α,d.sz=d'.sz→(∀ w base ok x cs,d.M w base ok x cs→d'.M w base ok x cs)→∀ w base ok x cs,(F d).M w base ok x cs→(F d').M w base ok x cs
theorem mono_const {α β : Type} (k:Kd β):Mono (fun _:Kd α=>k):=⟨fun _ _ _=>rfl,fun _ _ _ _ _ _ _ h=>h,fun _ _ _ _ _ _ _ _ _ h=>h⟩
theorem mono_id {α : Type}:Mono (fun d:Kd α=>d):=⟨fun _ _ h=>h,fun _ _ _ h=>h,fun _ _ _ h=>h⟩
theorem C_imp {α : Type} {d d':Kd α} (hs:d.sz=d'.sz) (h:∀ w x cs,d.K w x cs→d'.K w x cs) {w:World} {A:Option Addr} {n:Nat} {xs:List α} (hc:d.C w A n xs):d'.C w A n xs:=by
  unfold C at hc ⊢;rw [← hs];exact hc.imp_ (Below.refl _ _) (fun _ _ hp=>h _ _ _ hp)
theorem R_imp {α : Type} {d d':Kd α} (hs:d.sz=d'.sz) (h:∀ w base ok x cs,d.M w base ok x cs→d'.M w base ok x cs) {e:Nat} {w:World} {base:Nat} {ok:Nat→Prop} {v:Value} {xs:List α} (hr:d.R e w base ok v xs):d'.R e w base ok v xs:=by
  unfold R at hr ⊢;rw [← hs];exact ⟨hr.1,hr.2.imp_ (fun _ _ hp=>h _ _ _ _ _ hp)⟩
theorem mono_slice {α β : Type} (e:Nat) {G:Kd α→Kd β} (hG:Mono G):Mono (fun d=>slice e (G d)):=by
  refine ⟨fun _ _ _=>rfl,?_,?_⟩
  · rintro d d' hs h w x cs ⟨A,c,rfl,hl,hr⟩
    exact ⟨A,c,rfl,hl,C_imp (hG.sz d d' hs) (hG.K d d' hs h) hr⟩
  · rintro d d' hs h w base ok x cs ⟨v,rfl,hr⟩
    exact ⟨v,rfl,R_imp (hG.sz d d' hs) (hG.M d d' hs h) hr⟩
theorem mono_pair {α β γ:Type} {G:Kd α→Kd β} {H:Kd α→Kd γ} (hG:Mono G) (hH:Mono H):Mono (fun d=>pair (G d) (H d)):=by
  refine ⟨fun d d' hs=>?_,?_,?_⟩
  · show (G d).sz+(H d).sz=(G d').sz+(H d').sz
    rw [hG.sz d d' hs,hH.sz d d' hs]
  · rintro d d' hs h w x cs ⟨c0,c1,rfl,h0,h1⟩
    exact ⟨c0,c1,rfl,hG.K d d' hs h _ _ _ h0,hH.K d d' hs h _ _ _ h1⟩
  · rintro d d' hs h w base ok x cs ⟨c0,c1,rfl,h0,h1⟩
    exact ⟨c0,c1,rfl,hG.M d d' hs h _ _ _ _ _ h0,hH.M d d' hs h _ _ _ _ _ h1⟩
theorem mono_iso {α β γ:Type} {G:Kd α→Kd β} (f:γ→β) (hG:Mono G):Mono (fun d=>iso (G d) f) :=
  ⟨hG.sz,fun d d' hs h w x cs=>hG.K d d' hs h w (f x) cs,fun d d' hs h w base ok x cs=>hG.M d d' hs h w base ok (f x) cs⟩
def Sub {α β : Type} (F:Kd α→Kd β) (E:List Nat):Prop:=∀ d:Kd α,(∀ q,q ∈ d.E→q ∈ E)→∀ q,q ∈ (F d).E→q ∈ E
theorem sub_const {α β : Type} {E:List Nat} (k:Kd β) (h:∀ q,q ∈ k.E→q ∈ E):Sub (fun _:Kd α=>k) E:=fun _ _=>h
theorem sub_id {α : Type} {E:List Nat}:Sub (fun d:Kd α=>d) E:=fun _ h=>h
theorem sub_slice {α β : Type} {E:List Nat} (e:Nat) {G:Kd α→Kd β} (he:e ∈ E) (hG:Sub G E):Sub (fun d=>slice e (G d)) E:=fun d h q hq=>by
  rcases List.mem_cons.1 hq with rfl|hq
  · exact he
  · exact hG d h q hq
theorem sub_pair {α β γ:Type} {E:List Nat} {G:Kd α→Kd β} {H:Kd α→Kd γ} (hG:Sub G E) (hH:Sub H E):Sub (fun d=>pair (G d) (H d)) E:=fun d h q hq=>by
  rcases List.mem_append.1 hq with hq|hq
  · exact hG d h q hq
  · exact hH d h q hq
theorem sub_iso {α β γ:Type} {E:List Nat} {G:Kd α→Kd β} (f:γ→β) (hG:Sub G E):Sub (fun d=>iso (G d) f) E:=hG
theorem upto_E {α : Type} {F:Kd α→Kd α} {sz:Nat} {E:List Nat} (h:Sub F E):∀ n q,q ∈ (upto F sz E n).E→q ∈ E
  | 0,_,hq=>hq
  | n+1,q,hq=>h _ (upto_E h n) q hq
theorem upto_sz {α : Type} {F:Kd α→Kd α} {sz:Nat} {E:List Nat} (h:∀ d:Kd α,(F d).sz=sz):∀ n,(upto F sz E n).sz=sz
  | 0=>rfl
  | _+1=>h _
section
variable {α : Type} {F:Kd α→Kd α} {sz:Nat} {E:List Nat} {hs:∀ n,(upto F sz E n).sz=sz} {hE:∀ n q,q ∈ (upto F sz E n).E→q ∈ E}
theorem upto_M (hm : Mono F) (hs:∀ n,(upto F sz E n).sz=sz):∀ n {w base ok x cs},(upto F sz E n).M w base ok x cs→(upto F sz E (n+1)).M w base ok x cs
  | 0,_,_,_,_,_,h=>h.elim
  | n+1,_,_,_,_,_,h=>hm.M _ _ (by rw [hs n,hs (n+1)]) (fun _ _ _ _ _ hk=>upto_M hm hs n hk) _ _ _ _ _ h
theorem upto_M_le (hm : Mono F) (hs:∀ n,(upto F sz E n).sz=sz) {n m:Nat} (hnm:n≤m) {w base ok x cs} (h:(upto F sz E n).M w base ok x cs):(upto F sz E m).M w base ok x cs:=by
  obtain ⟨j,rfl⟩:=Nat.exists_eq_add_of_le hnm
  induction j with
  | zero=>exact h
  | succ j ih=>exact upto_M hm hs _ (ih (by omega))
theorem fix_C {n : Nat} {w:World} {A:Option Addr} {m:Nat} {xs:List α} (h:(upto F sz E n).C w A m xs):(fix F sz E hs hE).C w A m xs:=C_imp (d':=fix F sz E hs hE) (hs n) (fun w x cs hp=>(⟨n,hp⟩:∃ n,(upto F sz E n).K w x cs)) h
theorem bounded {P : Nat→Nat→Prop} (hP:∀ n m j,n≤m→P n j→P m j):∀ m,(∀ j,j<m→∃ n,P n j)→∃ N,∀ j,j<m→P N j
  | 0,_=>⟨0,fun j hj=>absurd hj (Nat.not_lt_zero j)⟩
  | m+1,h=>by
    obtain ⟨N,hN⟩:=bounded hP m (fun j hj=>h j (by omega));obtain ⟨n,hn⟩:=h m (by omega);refine ⟨max N n,fun j hj=>?_⟩;rcases Nat.lt_or_ge j m with hj'|hj'
    · exact hP N _ j (Nat.le_max_left _ _) (hN j hj')
    · have:j=m:=by omega
      subst this;exact hP n _ j (Nat.le_max_right _ _) hn
theorem reps_bounded {α : Type} {R:Nat→α→List Value→Prop} (hR:∀ n m p c,n≤m→R n p c→R m p c) {size:Nat} {ps:List α} {cs:List Value} (h:Reps (fun p c=>∃ n,R n p c) size ps cs):∃ N,Reps (R N) size ps cs:=by
  obtain ⟨N,hN⟩:=bounded (P:=fun n j=>∀ p,ps[j]? = some p→R n p ((cs.drop (j*size)).take size)) (fun n m j hnm hp p hj=>hR n m p _ hnm (hp p hj)) ps.length
    (fun j hj=>by
      obtain ⟨n,hn⟩:=h.2 j _ (List.getElem?_eq_getElem hj);refine ⟨n,fun p hp=>?_⟩;rw [List.getElem?_eq_getElem hj] at hp;injection hp with hp
      rw [← hp];exact hn)
  exact ⟨N,h.1,fun j p hj=>hN j (List.getElem?_eq_some_iff.1 hj).1 p hj⟩
theorem fix_R_back (hm : Mono F) {e:Nat} {w:World} {base:Nat} {ok:Nat→Prop} {v:Value} {xs:List α} (h:(fix F sz E hs hE).R e w base ok v xs):∃ n,(upto F sz E n).R e w base ok v xs:=by
  obtain ⟨h0,inner,ho,hr⟩:=h;obtain ⟨N,hN⟩:=reps_bounded (R:=fun n p c=>(upto F sz E n).M w base (fun k=>ok k∧some k≠v.ownBlock) p c) (fun n m p c hnm hp=>upto_M_le hm hs hnm hp) hr;refine ⟨N,h0,inner,?_,?_⟩
  · rw [hs N];exact ho
  · rw [hs N];exact hN
theorem upto_R_le (hm : Mono F) (hs:∀ n,(upto F sz E n).sz=sz) {n m:Nat} (hnm:n≤m) {e:Nat} {w:World} {base:Nat} {ok:Nat→Prop} {v:Value} {xs:List α} (h:(upto F sz E n).R e w base ok v xs):(upto F sz E m).R e w base ok v xs:=R_imp (by rw [hs n,hs m]) (fun _ _ _ _ _ hp=>upto_M_le hm hs hnm hp) h
end
end Kd
namespace Kd
theorem R_after {α : Type} {d:Kd α} {e base:Nat} {ok:Nat→Prop} {W w1:World} {u v v1:Value} {xs:List α} (h:d.R e W base (fun k=>ok k∧some k≠v.ownBlock) u xs) (hg:W.grownBy w1 v.ownBlock) (hat:v1.ownBlock=v.ownBlock∨∃ b,v1.ownBlock=some b∧W.heap.size≤b):d.R e w1 base (fun k=>ok k∧some k≠v1.ownBlock) u xs:=by
  refine R_mono (R_move (R_bound h) (fun k hk=>hg.block k hk.2.2.1 hk.1.2)) (fun k hk=>⟨hk.1.1,?_⟩);rcases hat with hat|⟨b,hb,hle⟩
  · rw [hat];exact hk.1.2
  · rw [hb]
    intro he;injection he with he
    have:=hk.2.2.1;omega
end Kd
namespace Kd
section
variable {α β : Type} {d:Kd α} {d':Kd β} {e e':Nat} {w w1 W:World} {base b b':Nat} {ok ok' okv oku:Nat→Prop} {v u:Value} {xs:List α} {ys:List β}
theorem R_alloc (h : d.R e w base ok v xs) (o:Obj):d.R e (w.alloc o) base ok v xs:=R_below h (j1f (Below.refl _ _) o)
theorem R_drew (h : d.R e w base ok v xs):d.R e w.drew base ok v xs:=R_below h (below_drew (Below.refl _ _))
theorem R_drewN (h : d.R e w base ok v xs) (m:Nat):d.R e (w.drewN m) base ok v xs:=R_below h (j1d (Below.refl _ _) m)
theorem C_alloc {A : Option Addr} {n:Nat} (h:d.C w A n xs) (o:Obj):d.C (w.alloc o) A n xs:=C_below h (j1f (Below.refl _ _) o)
theorem C_drew {A : Option Addr} {n:Nat} (h:d.C w A n xs):d.C w.drew A n xs:=C_below h (below_drew (Below.refl _ _))
theorem C_drewN {A : Option Addr} {n:Nat} (h:d.C w A n xs) (m:Nat):d.C (w.drewN m) A n xs:=C_below h (j1d (Below.refl _ _) m)
theorem C_nil (d : Kd α) (w:World):d.C w none ([]:List α).length []:=⟨rfl,by simp,fun h=>absurd h (Nat.lt_irrefl 0)⟩
theorem R_reads' {A : Option Addr} {n c:Nat} (h:d.R e w base ok (.slice A n c) xs):n=xs.length∧n≤c∧d.C w A xs.length xs:=by
  obtain ⟨A',c',he,hl,hr⟩:=R_reads h;injection he with h1 h2 h3
  subst h1;exact ⟨h2,by omega,hr⟩
theorem R_lt (h : d.R e w base ok v xs):∀ k,v.ownBlock=some k→k<w.heap.size:=by
  obtain ⟨inner,ho⟩:=R_own h;exact own_lt ho
theorem R_base (h : d.R e w base ok v xs):∀ k,v.ownBlock=some k→base≤k:=by
  obtain ⟨inner,ho⟩:=R_own h;exact own_base ho
theorem R_away (h : d.R e w base ok v xs) {g:Nat} (hok:∀ k,ok k→k≠g):some g≠v.ownBlock:=fun e=>hok g (h.1 g e.symm) rfl
end
section
variable {w W : World} {A:Option Addr} {n:Nat}
theorem at_int {k : IntKind} {xs:List Int} (h:(Kd.int k).C w A n xs) (i:Int) (h0:0≤i) (h1:i<n):∃ ad,A=some ad∧w.cell? (ad.add i.toNat)=some (.int k (rd xs i)) :=
  ReadsOf.at_ (reads_of_C (enc:=Value.int k) (d:=(0:Int)) (h1:=fun _=>rfl) h) i h0 h1
theorem at_string {xs : List ByteArray} (h:Kd.string.C w A n xs) (i:Int) (h0:0≤i) (h1:i<n):∃ ad,A=some ad∧w.cell? (ad.add i.toNat)=some (.string (rdOf ByteArray.empty xs i)) :=
  ReadsOf.at_ (reads_of_C (enc:=Value.string) (d:=ByteArray.empty) (h1:=fun _=>rfl) h) i h0 h1
variable {α : Type} {enc:α→Value} {h1:∀ x,(enc x).oneCell'=true} {e base g cap:Nat} {ok:Nat→Prop} {xs:List α}
end

section
variable {P : Program} {ops:Array Oper} {rest:List Oper} {o:Oper} {a:Act} {Q:Exit→Act→World→Prop}
theorem event_run {W w1 : World} {v:Value} (hgd:o.guard=none) (hrun:(execOp a.eval o).run P W = .ok (.value v) w1) (h:wpList P ops Q rest (a.put o.dst v) w1):wpList P ops Q (o :: rest) a W:=by
  refine wpList_plain hgd fun K hK=>?_
  unfold Oper.wp;rw [hrun];exact hK _ _ h
variable {α : Type}
theorem R_lit (d : Kd α) {w0 W:World} (base e:Nat) (hgd:o.guard=none) {N:Tmp} (_hd:o.dst=some N) {xs:List α} {inner:List Value} {ok okp:Nat→Prop}
    (hrun:(execOp a.eval o).run P W = .ok (.value (.slice (some ⟨W.heap.size,0,none⟩) xs.length xs.length)) (W.alloc (.cells inner.toArray e)))
    (hrep:Reps (d.M W base okp) d.sz xs inner) (hok:∀ k,okp k→ok k) (hfresh:ok W.heap.size) (HB:Below base w0 W) (hbase:base≤W.heap.size) (hm:xs.length≤9223372036854775807)
    (h:∀ v1 w1,d.R e w1 base ok v1 xs→Below base w0 w1→W.grownBy w1 none→(∃ b,v1.ownBlock=some b∧W.heap.size≤b)→wpList P ops Q rest (a.put o.dst v1) w1):wpList P ops Q (o :: rest) a W:=by
  refine event_run hgd hrun (h _ _ ⟨fun k hk=>?_,inner,?_,?_⟩ (HB.alloc hbase _) (World.grownBy_alloc W _ none) ⟨W.heap.size,by simp [Value.ownBlock],Nat.le_refl _⟩)
  · have:W.heap.size=k:=by simpa [Value.ownBlock] using hk
    subst this;exact hfresh
  · have h2:=World.ownsRow_lit (base:=base) (e:=e) (size:=d.sz) W inner.toArray xs.length hbase (by simpa [maxLen] using hm) (by simpa using hrep.1)
    simpa using h2
  · refine hrep.imp_ (fun p c hp=>d.M_mono (fun k hk=>⟨hok k hk.1,fun he=>?_⟩) (M_below (d.M_bound hp) (j1f (Below.refl _ _) _)))
    have h3:k=W.heap.size:=by simpa [Value.ownBlock] using he
    have:=hk.2.2.1;omega
end
end Kd
section
variable {P : Program}
end
def QRow (w : World) (base:Nat) (e:TypeId) (size:Nat) (v:Value) (n:Nat) (xs:List Value):Prop :=
  xs.length=n*size ∧
  ((n=0∧∃ A,v = .slice A 0 0∧∀ a,A=some a→base≤a.block∧∃ cur,w.heap[a.block]? = some (.cells cur e (0,0))) ∨
   ∃ g off cap cur,v = .slice (some ⟨g,off*size,none⟩) n cap∧base≤g∧w.heap[g]? = some (.cells cur e (0,0))∧n≤cap∧off+cap≤maxLen∧cur.size=(off+cap)*size∧(cur.toList.drop (off*size)).take (n*size)=xs)
section
variable {w w1 : World} {base n size:Nat} {e:TypeId} {v:Value} {xs:List Value}
theorem add_at (g o j:Nat):(⟨g,o,none⟩:Addr).add j=⟨g,o+j,none⟩:=by unfold Addr.add;split<;>simp_all
theorem setCells_far {g : Nat}:∀ (vs:List Value) (o:Nat) {w:World} (k:Nat),k≠g→(w.setCells g o vs).heap[k]? = w.heap[k]?
  | [],_,_,_,_=>rfl
  | v :: r,o,w,k,hk=>by
    rw [World.setCells,setCells_far r (o+1) k hk];exact Below.heap_setCell w ⟨g,o,none⟩ v k hk
theorem setCells_same (g : Nat):∀ (vs:List Value) (o:Nat) (w:World),(w.setCells g o vs).os=w.os∧(w.setCells g o vs).tape=w.tape∧(w.setCells g o vs).output=w.output∧(w.setCells g o vs).heap.size=w.heap.size
  | [],_,_=>⟨rfl,rfl,rfl,rfl⟩
  | v :: r,o,w=>by
    obtain ⟨h1,h2,h3,h4⟩:=setCells_same g r (o+1) (w.setCell ⟨g,o,none⟩ v);rw [World.setCells];exact ⟨h1,h2,h3,by rw [h4];simp [World.setCell]⟩
theorem setCells_row {g : Nat} {e:TypeId}:∀ (vs:List Value) (o:Nat) (w:World) (cur:Array Value),w.heap[g]? = some (.cells cur e (0,0))→o+vs.length≤cur.size →
    ∃ cur',(w.setCells g o vs).heap[g]? = some (.cells cur' e (0,0))∧cur'.size=cur.size∧cur'.toList=cur.toList.take o++vs++cur.toList.drop (o+vs.length)
  | [],o,w,cur,h,_=>⟨cur,h,rfl,by simp⟩
  | v :: r,o,w,cur,h,hl=>by
    have h2:=blk_set h o v;simp only [List.length_cons] at hl;obtain ⟨cur',h3,h4,h5⟩:=setCells_row r (o+1) (w.setCell ⟨g,o,none⟩ v) _ h2 (by simp;omega);refine ⟨cur',h3,by rw [h4];simp,?_⟩;rw [h5,Array.toList_setIfInBounds];have ho:o<cur.toList.length:=by rw [Array.length_toList];omega
    rw [List.take_set,List.drop_set_of_lt (by omega)];simp only [List.length_cons];rw [show o+1+r.length=o+(r.length+1) by omega]
    congr 1
    rw [List.take_succ_eq_append_getElem ho,List.set_append_right _ _ (by rw [List.length_take];omega)];have ho':o<cur.size:=by omega
    simp [Nat.min_eq_left (Nat.le_of_lt ho')]
end
section
variable {P : Program}
end
namespace Kd
def Q {α : Type} (d:Kd α) (e:Nat) (w:World) (base:Nat) (ok:Nat→Prop) (v:Value) (xs:List α):Prop :=
  (∀ k,v.ownBlock=some k→ok k)∧∃ inner,QRow w base e d.sz v xs.length inner∧Reps (d.M w base (fun k=>ok k∧some k≠v.ownBlock)) d.sz xs inner
section
variable {α : Type} {d:Kd α} {e:Nat} {w w1 W:World} {base:Nat} {ok ok':Nat→Prop} {v:Value} {xs:List α}
end
section
variable {P : Program} {ops:Array Oper} {rest:List Oper} {o:Oper} {a:Act} {Q':Exit→Act→World→Prop} {Kc:Act→World→Prop} {α:Type}
end
end Kd
namespace Kd
section
variable {α : Type} {d:Kd α} {e e':Nat} {w w1 W:World} {base:Nat} {ok:Nat→Prop} {u v:Value} {xs:List α}
theorem R_typed (h : d.R e w base ok v xs):∀ k,v.ownBlock=some k→∃ cells,w.heap[k]? = some (.cells cells e (0,0)):=by
  obtain ⟨inner,ho⟩:=R_own h;exact fun k hk=>own_typed ho k hk
theorem R_over' (h : d.R e W base ok u xs) (hty:∀ k,v.ownBlock=some k→∃ cells,W.heap[k]? = some (.cells cells e' (0,0))) (ht:∀ q,q ∈ e :: d.E→q≠e') (hg:W.grownBy w1 v.ownBlock):d.R e w1 base ok u xs:=by
  refine R_mono (R_move (R_bound h) (fun k hk=>hg.block k hk.2.2.1 (fun he=>?_))) (fun _ hk=>hk.1);obtain ⟨_,_,_,q,hq,cells,hc⟩:=hk;obtain ⟨cells',hc'⟩:=hty k he.symm;rw [hc] at hc';injection hc' with hc'
  injection hc' with _ hc'
  exact ht q hq hc'
theorem R_apart' (h : d.R e W base ok u xs) (hty:∀ k,v.ownBlock=some k→∃ cells,W.heap[k]? = some (.cells cells e' (0,0))) (ht:∀ q,q ∈ e :: d.E→q≠e'):d.R e W base (fun k=>ok k∧some k≠v.ownBlock) u xs:=by
  refine R_mono (R_bound h) (fun k hk=>⟨hk.1,fun he=>?_⟩);obtain ⟨_,_,_,q,hq,cells,hc⟩:=hk;obtain ⟨cells',hc'⟩:=hty k he.symm;rw [hc] at hc';injection hc' with hc'
  injection hc' with _ hc'
  exact ht q hq hc'
theorem R_elder' (hu : d.R e W base ok u xs) (hbase:∀ k,v.ownBlock=some k→W.heap.size≤k) (hb:Below W.heap.size W w1):d.R e w1 base (fun k=>ok k∧some k≠v.ownBlock) u xs :=
  R_mono (R_move (R_bound hu) (fun k hk=>hb.block k hk.2.2.1)) (fun k hk=>⟨hk.1,fun he=>by have:=hbase k he.symm;have:=hk.2.2.1;omega⟩)
theorem R_new' (h : d.R e w1 W.heap.size ok v xs) (hlt:∀ k,u.ownBlock=some k→k<W.heap.size):d.R e w1 W.heap.size (fun k=>ok k∧some k≠u.ownBlock) v xs :=
  R_mono (R_bound h) (fun k hk=>⟨hk.1,fun he=>by have:=hlt k he.symm;have:=hk.2.1;omega⟩)

theorem fresh' (hlt : ∀ k,u.ownBlock=some k→k<W.heap.size):∀ k,W.heap.size≤k→some k≠u.ownBlock:=fun k hk he=>by have:=hlt k he.symm;omega
end
end Kd
namespace Kd
section
variable {α : Type} {d:Kd α} {e base g n cap:Nat} {ok okp:Nat→Prop} {W:World} {xs:List α}
end
end Kd
namespace Kd
section
variable {α : Type} {F:Kd α→Kd α} {sz:Nat} {E:List Nat} {hs:∀ n,(upto F sz E n).sz=sz} {hE:∀ n q,q ∈ (upto F sz E n).E→q ∈ E}
end
end Kd
namespace Kd
theorem reps_append {α : Type} {R:α→List Value→Prop} {size:Nat} {ps qs:List α} {cs ds:List Value} (h:Reps R size ps cs) (h':Reps R size qs ds):Reps R size (ps++qs) (cs++ds):=by
  refine ⟨by rw [List.length_append,List.length_append,h.1,h'.1,Nat.add_mul],fun j p hj=>?_⟩;rcases Nat.lt_or_ge j ps.length with hlt|hge
  · rw [List.getElem?_append_left hlt] at hj
    have hle:j*size+size≤cs.length:=by rw [h.1,← Nat.succ_mul];exact Nat.mul_le_mul_right _ hlt
    rw [List.drop_append_of_le_length (by omega),List.take_append_of_le_length (by rw [List.length_drop];omega)];exact h.2 j p hj
  · rw [List.getElem?_append_right hge] at hj
    have h2:=h'.2 (j - ps.length) p hj;have hle:ps.length*size≤j*size:=Nat.mul_le_mul_right _ hge;rw [List.drop_append,List.drop_eq_nil_of_le (by rw [h.1];exact hle),List.nil_append,h.1,← Nat.sub_mul];exact h2
section
variable {P : Program} {ops:Array Oper} {rest:List Oper} {o:Oper} {a:Act} {Q:Exit→Act→World→Prop} {α:Type}
theorem R_append_rows (d : Kd α) {Rr:α→List Value→Prop} {w0 W:World} (base:Nat) (hgd:o.guard=none) (s x:Operand) (t e:TypeId) (z:Value) (bytes:Nat)
    (ho:o.op = .call { callee := .builtin .append,args:=#[s,x],argTypes:=#[t,t] })
    (ht:P.underlying t=some (.slice e)) (hinfo:(P.info? e).map (fun i=>(i.zero,i.size,i.bytes))=some (some z,d.sz,bytes)) (hz:z.cells.size=d.sz) (hs0:0<d.sz) (hb0:0<bytes)
    (v:Value) (xs ys:List α) (A:Option Addr) (m c:Nat) (ok okp:Nat→Prop) (hs:a.eval s=v) (hx:a.eval x = .slice A m c)
    (HO:d.R e W base ok v xs) (HR:ReadsRow Rr d.sz W A m ys) (hKM:∀ x cs,Rr x cs→d.M W base okp x cs) (hokp:∀ k,okp k→ok k∧some k≠v.ownBlock) (hfresh:∀ k,W.heap.size≤k→ok k)
    (HB:Below base w0 W) (hbase:base≤W.heap.size) (hl:(xs.length+m)*bytes≤140737488355328)
    (h:∀ v1 w1,d.R e w1 base ok v1 (xs++ys)→Below base w0 w1→W.grownBy w1 v.ownBlock→(v1.ownBlock=v.ownBlock∨∃ b,v1.ownBlock=some b∧W.heap.size≤b)→wpList P ops Q rest (a.put o.dst v1) w1) :
    wpList P ops Q (o :: rest) a W:=by
  obtain ⟨i0,hi,hzz⟩:=Option.map_eq_some_iff.1 hinfo;simp only [Prod.mk.injEq] at hzz;obtain ⟨hz0,hz1,hz2⟩:=hzz;have hm:ys.length=m:=HR.1;have hlen:xs.length+m≤140737488355328:=Nat.le_trans (Nat.le_mul_of_pos_right _ hb0) hl;obtain ⟨hok,inner,hown,hr⟩:=HO
  have hrun:∃ v1 w1,(Builtin.append_ #[t,t] o.type #[v, .slice A m c]).run P W = .ok v1 w1∧d.R e w1 base ok v1 (xs++ys)∧W.grownBy w1 v.ownBlock∧(v1.ownBlock=v.ownBlock∨∃ b,v1.ownBlock=some b∧W.heap.size≤b):=by
    rcases A with _|ad
    · have h0:m=0:=by
        rcases Nat.eq_zero_or_pos m with h0|h0
        · exact h0
        · obtain ⟨ad,h,_⟩:=HR.2.2 h0
          cases h
      subst h0;obtain rfl:ys=[]:=List.eq_nil_of_length_eq_zero hm;refine ⟨v,W,?_,by rw [List.append_nil];exact ⟨hok,inner,hown,hr⟩,World.grownBy.refl W _, .inl rfl⟩;rcases hown.2 with ⟨rfl,hn⟩|⟨g,cap,cur,rfl,_,_,hnc,_⟩
      · simp [Builtin.append_,run_underlying ht,sizeOf,typeInfo,hi,Builtin.lenOf,Builtin.firstCells]
      · simp [Builtin.append_,run_underlying ht,sizeOf,typeInfo,hi,Builtin.lenOf,Builtin.firstCells,hnc,storeCells]
    · obtain ⟨news,hnr,hnc⟩:=ReadsRow.inner_ HR
      have hnM:Reps (d.M W base okp) d.sz ys news:=hnr.imp_ (fun p c hp=>hKM p c hp)
      have hone:∀ u ∈ news,u.oneCell'=true:=by
        intro u hu;obtain ⟨q,hq,rfl⟩:=List.mem_iff_getElem.1 hu
        have hql:q / d.sz<ys.length:=by
          rw [Nat.div_lt_iff_lt_mul hs0];rw [← hnM.1];exact hq
        have hc:=hnM.2 (q / d.sz) _ (List.getElem?_eq_getElem hql);refine d.K_one (d.K_of_M hc) _ ?_;rw [List.mem_iff_getElem?];refine ⟨q % d.sz,?_⟩;rw [List.getElem?_take,if_pos (Nat.mod_lt _ hs0),List.getElem?_drop,Nat.mul_comm,Nat.div_add_mod,List.getElem?_eq_getElem hq]
      obtain ⟨v1,w1,hrun,h2,hg,_,hat⟩:=run_append_own_at (P:=P) W base t o.type e i0 z d.sz bytes ht hi hz0 hz1 hz2 hz hs0 v xs.length inner hown ad m c news (by rw [hnM.1,hm]) hnc hone (by simp only [maxLen];omega) hl hbase
      have hat':v1.ownBlock=v.ownBlock∨∃ b,v1.ownBlock=some b∧W.heap.size≤b:=by
        rcases hat with hat|hat
        · exact .inl hat
        · exact .inr ⟨_,hat,Nat.le_refl _⟩
      have hne:∀ k,some k≠v.ownBlock→k<W.heap.size→some k≠v1.ownBlock:=by
        intro k hk hlt;rcases hat' with hat|⟨b,hb,hle⟩
        · rw [hat];exact hk
        · rw [hb]
          intro he;injection he with he
          omega
      have step:∀ {q:α} {c:List Value} {o:Nat→Prop},d.M W base o q c→(∀ k,o k→ok k∧some k≠v.ownBlock)→d.M w1 base (fun k=>ok k∧some k≠v1.ownBlock) q c:=by
        intro q c o hq ho;have h1:=d.M_move (w1:=w1) (fun k hk=>hg.block k hk.2.2.1 (ho k hk.1).2) (d.M_bound hq);exact d.M_mono (fun k hk=>⟨(ho k hk.1).1,hne k (ho k hk.1).2 hk.2.2.1⟩) h1
      refine ⟨v1,w1,hrun,⟨fun k hk=>?_,inner++news,by rw [List.length_append,hm];exact h2,reps_append (hr.imp_ (fun _ _ hq=>step hq (fun _ hk=>hk))) (hnM.imp_ (fun _ _ hq=>step hq hokp))⟩,hg,hat'⟩;rcases hat' with hat|⟨b,hb,hle⟩
      · exact hok k (hat ▸ hk)
      · rw [hb] at hk
        injection hk with hk
        exact hfresh k (by omega)
  obtain ⟨v1,w1,hr1,h1,hg,hat⟩:=hrun;refine wpList_plain hgd fun K hK=>?_
  unfold Oper.wp execOp;simp only [ho,resolve,invoke,builtin,Sem.run_bind,Sem.run_pure,Result.andThen_ok,List.map_toArray,List.map_cons,List.map_nil,hs,hx,hr1];exact hK _ _ (h v1 w1 h1 (HB.grown hg hbase (own_base hown)) hg hat)
end
end Kd
theorem run_store_run {P : Program} {w:World} {g o:Nat} {e:TypeId} {cur:Array Value} (t:TypeId) (u:Value) (seg:List Value) (hh:w.heap[g]? = some (.cells cur e (0,0))) (hu:u.cells.toList=seg) (ht:(P.info? t).map (·.size)=some seg.length)
    (hfit:o+seg.length≤cur.size) (h1:∀ q ∈ seg,q.oneCell'=true):(Instr.storeAt t (.pointer (some ⟨g,o,none⟩)) u).run P w = .ok () (w.setCells g o seg):=by
  obtain ⟨i,hi,hsz⟩:=Option.map_eq_some_iff.1 ht;have hc:u.cells.size=i.size:=by rw [hsz,← hu,Array.length_toList]
  have hst:=run_storeCells_cells (P:=P) g o seg 0 w (fun j hj=>by rw [cell_of_row w g _ cur e (0,0) hh];simp;omega) (fun j _=>j1a hh _) h1;simp only [Nat.add_zero] at hst;simp [Instr.storeAt,Instr.sureAddr,storeVar,sizeOf,typeInfo,hi,hc,hu,hst]
namespace Kd
section
variable {P : Program} {ops:Array Oper} {rest:List Oper} {o:Oper} {a:Act} {Q:Exit→Act→World→Prop} {α:Type}
end
end Kd
namespace Kd
section
variable {α : Type} {k:Kd α} {w:World} {A:Option Addr} {xs:List α} {m c:Nat}
end
end Kd
section
variable {P : Program}
theorem cut_mid (t e : TypeId) (kl kh:IntKind) {i:TypeInfo} (ht:P.underlying t=some (.slice e)) (hi:P.info? e=some i) (size:Nat) (hsz:i.size=size) (A:Option Addr) (n c:Nat) (lo hi':Int) (h0:0≤lo) (h1:lo≤hi') (h2:hi'≤n) (hc:n≤c) :
    ∀ W:World,(Instr.slice t (.slice A n c) (some (.int kl lo)) (some (.int kh hi')) none).run P W = .ok (.slice (if c=lo.toNat then A else A.map (·.add (lo.toNat*size))) (hi'.toNat - lo.toNat) (c - lo.toNat)) W:=by
  intro W;have hel:P.elem t=e:=by simp [Program.elem,ht]
  have hu:P.underlying t=some (.slice (P.elem t)):=by rw [hel];exact ht
  rw [run_slice_lh W t A n c hu kl kh lo hi' h0 h1 (by omega),hel];simp [sizeOf,typeInfo,hi,hsz,sliced,Result.andThen]
end
theorem string_of_reads {P : Program} {w:World} {src dst e:TypeId} {A:Option Addr} {n c:Nat} {xs:List Int} (hs:P.underlying src=some (.slice e)) (he:P.underlying e=some (.int .u8)) (hd:P.underlying dst=some .string)
    (h:ReadsInt w .u8 A n xs):(convert src dst (.slice A n c)).run P w = .ok (.string (strOfNums xs)) w:=by
  have hn:xs.length=n:=h.1;rcases A with _|ad
  · have h0:n=0:=by
      rcases Nat.eq_zero_or_pos n with h0|h0
      · exact h0
      · obtain ⟨ad,h',_⟩:=h.2.2 h0
        cases h'
    subst h0;obtain rfl:xs=[]:=List.eq_nil_of_length_eq_zero hn;exact run_convert_bytes_nil w src e hs he 0 c dst hd
  · have hl:(loadCells ad n).run P w = .ok (xs.map (Value.int .u8)).toArray w:=by
      have:=run_loadCells_list (P:=P) w ad (xs.map (Value.int .u8)) (fun j v hj=>by
        have hjl:j<xs.length:=by
          rcases Nat.lt_or_ge j xs.length with h'|h'
          · exact h'
          · rw [List.getElem?_eq_none (by rw [List.length_map];exact h')] at hj
            cases hj
        obtain ⟨ad',he',hc⟩:=h.2.2 (by omega);injection he' with he'
        subst he';rw [hc j (by omega)];rw [List.getElem?_map,List.getElem?_eq_getElem hjl] at hj;simp at hj;subst hj;simp [List.getD_eq_getElem?_getD,List.getElem?_eq_getElem hjl])
      simpa [hn] using this
    rw [run_convert_bytes_string w src dst e _ n c hs he hd,run_bytesToString w ad n c xs hl,foldl_push_bytes];simp [strOfNums,ByteArray.empty,ByteArray.emptyWithCapacity];rfl
theorem Kd.C_string {P : Program} {w:World} {src dst e:TypeId} {A:Option Addr} {n c:Nat} {xs:List Int} (hs:P.underlying src=some (.slice e)) (he:P.underlying e=some (.int .u8)) (hd:P.underlying dst=some .string)
    (h:(Kd.int .u8).C w A n xs):(convert src dst (.slice A n c)).run P w = .ok (.string (strOfNums xs)) w :=
  string_of_reads hs he hd (Kd.reads_of_C (enc:=Value.int .u8) (d:=(0:Int)) (h1:=fun _=>rfl) h)
theorem j2p {w W : World} (h:Below w.heap.size w W):w.heap.size≤W.heap.size:=h.size
theorem j1o {w W w2:World} (h:Below w.heap.size w W) (k:Below W.heap.size W w2):Below w.heap.size w w2:=below_then h h.size k
theorem ReadsInt.nil (W : World) (k:IntKind):ReadsInt W k none ([]:List Int).length []:=⟨rfl,by simp,fun h=>absurd h (Nat.lt_irrefl 0)⟩
theorem ReadsInt.drewN {W : World} {k:IntKind} {A:Option Addr} {n:Nat} {xs:List Int} (h:ReadsInt W k A n xs) (m:Nat):ReadsInt (W.drewN m) k A n xs:=h
theorem j1s {w W : World} {g j:Nat} {v:Value} (h:Below w.heap.size w W) (hg:w.heap.size≤g):Below w.heap.size w (W.setCell ⟨g,j,none⟩ v):=h.setCell hg _
theorem j2k {w W : World} {g:Nat} {row:Option Nat} (h:KeepBut w W g row) (m:Nat):KeepBut w (W.drewN m) g row:=h
theorem j2j {w W : World} {g:Nat} (h:KeepBut w W g none) (o:Obj):KeepBut w (W.alloc o) g none:=h.trans (KeepBut.of_grown (World.grownBy_alloc W o none) g) (.inl rfl)
theorem keep_cell {w W : World} {g:Nat} (h:KeepBut w W g none) {a:Addr} {v:Value} (hc:w.cell? a=some v) (hne:a.block≠g):W.cell? a=some v:=by
  have:=h.2 a.block (World.block_lt_of_cell? w a hc) hne (by simp)
  simpa [World.cell?,this] using hc
theorem add_block (a : Addr) (i:Nat):(a.add i).block=a.block:=by unfold Addr.add;split<;>rfl
theorem below_weaken {w0 w w1:World} {B:Nat} (h:Below w0.heap.size w0 w) (hB:w0.heap.size≤B) (k:Below B w w1):Below w0.heap.size w0 w1 :=
  h.trans ⟨k.os,k.tape,k.output,k.size,fun i hi=>k.block i (Nat.lt_of_lt_of_le hi hB)⟩
theorem own_base' {w : World} {base:Nat} {e:TypeId} {size n:Nat} {v:Value} {xs:List Value} (h:w.ownsRow base e size v n xs):v.ownBlock=none∨∃ b,v.ownBlock=some b∧base≤b:=by
  cases hv:v.ownBlock with
  | none=>exact .inl rfl
  | some b=>exact .inr ⟨b,rfl,own_base h b hv⟩
theorem j3s {w W : World} {g:Nat} {row:Option Nat} (h:KeepBut w W g row):w.heap.size≤W.heap.size:=h.1
theorem ReadsOf.nil {α : Type} (enc:α→Value) (d:α) (W:World):ReadsOf enc d W none ([]:List α).length []:=⟨rfl,by simp,fun h=>absurd h (Nat.lt_irrefl 0)⟩
theorem ReadsOf.drewN {α : Type} {enc:α→Value} {d:α} {W:World} {A:Option Addr} {n:Nat} {xs:List α} (h:ReadsOf enc d W A n xs) (m:Nat):ReadsOf enc d (W.drewN m) A n xs:=h
theorem ReadsInt.keep {w W : World} {k:IntKind} {A:Option Addr} {n g:Nat} {xs:List Int} (h:ReadsInt w k A n xs) (hk:KeepBut w W g none) (hf:∀ ad,A=some ad→0<n→ad.block≠g):ReadsInt W k A n xs :=
  ⟨h.1,h.2.1,fun hn=>by
    obtain ⟨ad,e,hc⟩:=h.2.2 hn;exact ⟨ad,e,fun j hj=>keep_cell hk (hc j hj) (by rw [add_block];exact hf ad e hn)⟩⟩
theorem ReadsOf.keep {α : Type} {enc:α→Value} {d:α} {w W:World} {A:Option Addr} {n g:Nat} {xs:List α} (h:ReadsOf enc d w A n xs) (hk:KeepBut w W g none) (hf:∀ ad,A=some ad→0<n→ad.block≠g):ReadsOf enc d W A n xs :=
  ⟨h.1,h.2.1,fun hn=>by
    obtain ⟨ad,e,hc⟩:=h.2.2 hn;exact ⟨ad,e,fun j hj=>keep_cell hk (hc j hj) (by rw [add_block];exact hf ad e hn)⟩⟩
theorem j2c {w : World} {g:Nat} {t:TypeId} {cs cs':Array Value} (h:w.heap[g]? = some (.cells cs t (0,0))) (i:Nat) (u:Value) (e:cs.setIfInBounds i u=cs'):(w.setCell ⟨g,i,none⟩ u).heap[g]? = some (.cells cs' t (0,0)):=e ▸ blk_set h i u
theorem j3q {w W : World} {g:Nat} {row:Option Nat} (h:KeepBut w W g row) {p:Addr} (hp:w.heap.size≤p.block) (u:Value):KeepBut w (W.setCell p u) g row :=
  ⟨by simpa [World.setCell] using h.1,fun i hi hg hr=>(Below.heap_setCell W p u i (by omega)).trans (h.2 i hi hg hr)⟩
theorem j1h {base : Nat} {w W:World} (h:Below base w W):Below base w W.drew:=h.drew
theorem j2o {w W : World} {g:Nat} {row:Option Nat} (h:KeepBut w W g row):KeepBut w W.drew g row:=h
namespace Kd
section
variable {α β : Type} {d:Kd α} {d':Kd β} {e e' base base' n:Nat} {ok ok':Nat→Prop} {w W w1 W1:World} {v u:Value} {xs:List α} {ys:List β} {A:Option Addr} {c:Nat}
theorem R_base2 (h : d.R e w base ok v xs):v.ownBlock=none∨∃ k,v.ownBlock=some k∧base≤k:=by
  obtain ⟨inner,ho⟩:=R_own h;exact own_base' ho
end
section
variable {α : Type} {enc:α→Value} {h1:∀ x,(enc x).oneCell'=true} {w W:World} {A:Option Addr} {n g:Nat} {xs:List α}
end
end Kd
namespace Kd
section
variable {α : Type} {d:Kd α} {e base g:Nat} {ok:Nat→Prop} {w w1:World} {v:Value} {xs:List α} {o:Obj}
theorem R_elderB (h : d.R e w base ok v xs) (a:Nat) (ha:w.heap.size≤a):d.R e w base (fun k=>ok k∧k≠a) v xs:=R_mono (R_bound h) (fun k hk=>⟨hk.1,by have:=hk.2.2.1;omega⟩)
theorem R_newB (h : d.R e w1 w.heap.size ok v xs) (hb:w.heap[g]? = some o):d.R e w1 w.heap.size (fun k=>ok k∧k≠g) v xs:=R_mono (R_bound h) (fun k hk=>⟨hk.1,by have:=j3p hb;have:=hk.2.1;omega⟩)
theorem freshB (hb : w.heap[g]? = some o):∀ k,w.heap.size≤k→k≠g:=fun k hk=>by have:=j3p hb;omega
end
end Kd
section
variable {P : Program} {ops:Array Oper} {rest:List Oper} {o:Oper} {a:Act} {Q:Exit→Act→World→Prop}
theorem j3d {W : World} (hgd:o.guard=none) {N:Tmp} (_hd:o.dst=some N) {cs:Array Value} {t:TypeId}
    (hrun:(execOp a.eval o).run P W = .ok (.value (.pointer (some ⟨W.heap.size,0,none⟩))) (W.alloc (.cells cs t (0,0))))
    (h:∀ g,g=W.heap.size→∀ w1,w1.heap[g]? = some (.cells cs t (0,0))→Below W.heap.size W w1→wpList P ops Q rest (a.put o.dst (.pointer (some ⟨g,0,none⟩))) w1):wpList P ops Q (o :: rest) a W :=
  Kd.event_run hgd hrun (h _ rfl _ (j4m W _) (j1f (Below.refl _ _) _))
end
namespace Kd
section
variable {α : Type} {enc:α→Value} {h1:∀ x,(enc x).oneCell'=true} {e base g n cap:Nat} {ok:Nat→Prop} {W:World} {xs:List α}
end
end Kd
section
variable {P : Program} {ops:Array Oper} {rest:List Oper} {o:Oper} {a:Act} {Q:Exit→Act→World→Prop}
theorem store_event {W w1 : World} (hgd:o.guard=none) {t:TypeId} {p:Tmp} {v:Operand} (_ho:o.op = .store t (.tmp p) v) (hN:o.dst=none)
    (hrun:(execOp a.eval o).run P W = .ok .skip w1) (h:∀ w',w'=w1→wpList P ops Q rest a w'):wpList P ops Q (o :: rest) a W:=by
  refine wpList_plain hgd fun K hK=>?_
  unfold Oper.wp;rw [hrun]
  show K (a.put o.dst undef) w1
  rw [hN];exact hK _ _ (h _ rfl)
end
namespace Kd
section
variable {α : Type} {enc:α→Value} {h1:∀ x,(enc x).oneCell'=true} {e base g n cap:Nat} {ok:Nat→Prop} {W:World} {xs:List α}
end
end Kd
section
variable {P : Program} {ops:Array Oper} {rest:List Oper} {o:Oper} {a:Act} {Q:Exit→Act→World→Prop} {W:World}
theorem j2x {N : Tmp} (_hN:o.dst=some N) (h:wpList P ops Q (o :: rest) a W):wpList P ops Q (o :: rest) a W:=h
theorem j3n {t : TypeId} {p:Tmp} {v:Operand} (_ho:o.op = .store t (.tmp p) v) (h:wpList P ops Q (o :: rest) a W):wpList P ops Q (o :: rest) a W:=h
end
section
variable {P : Program} {ops:Array Oper} {o:Oper} {a:Act} {Q:Exit→Act→World→Prop} {Kc:Act→World→Prop}
namespace Kd
variable {α : Type}
end Kd
end
inductive Vals (P : Program) (tmps:Array Value) (w:World):List ResultVar→List Value→Prop where
  | nil:Vals P tmps w [] []
  | tmp {u:Tmp} {rs:List ResultVar} {vs:List Value} (h:Vals P tmps w rs vs):Vals P tmps w (.tmp u :: rs) (tmps.getD u undef :: vs)
  | cell {p:Tmp} {ty:TypeId} {rs:List ResultVar} {vs:List Value} (g:Nat) (t:TypeId) (cs:Array Value) (fr:Nat × Nat) (d:TypeDesc)
      (hp:tmps.getD p undef = .pointer (some ⟨g,0,none⟩)) (hg:w.heap[g]? = some (.cells cs t fr))
      (hu:P.underlying ty=some d) (hd:(match d with | .struct _ | .array _ _=>true|_=>false)=true) (hi:(P.info? ty).map (·.size)=some cs.size)
      (h:Vals P tmps w rs vs):Vals P tmps w (.cell p ty :: rs) (.agg cs :: vs)
section
variable {P : Program} {tmps:Array Value} {w:World}
end
namespace Kd
section
variable {P : Program} {α:Type}
end
section
variable {P : Program} {ops:Array Oper} {rest:List Oper} {o:Oper} {a:Act} {Q:Exit→Act→World→Prop} {Kc:Act→World→Prop} {α:Type}
end
end Kd

end Go.Proofs.YthmjfmpgmcgonaaDoorW.PrintWords
end
section
namespace Go.Proofs.YthmjfmpgmcgonaaDoorW.PrintLast

section
variable {P : Program} {ops:Array Oper} {Q:Exit→Act→World→Prop} {md:Region.Mode} {S:World→Prop} {ds:List Nat}

def Region.reachB (md : Region.Mode) (ops:Array Oper) (i:Nat):Nat→Nat→Bool
  | 0,_=>false
  | fuel+1,d=>match ops[d]? with
    | some o=>o.after.any fun e=>Region.binds md e && (e.on == i || Region.reachB md ops i fuel e.on)
    | none=>false

def Region.closedB (md : Region.Mode) (ops:Array Oper) (listed:Array Bool):Bool :=
  (List.range ops.size).all fun j => !listed.getD j false || match ops[j]? with
    | some o=>o.after.all fun e => !Region.binds md e || listed.getD e.on false
    | none=>true

def Region.lastB (md : Region.Mode) (ops:Array Oper) (listed:Array Bool) (ds:List Nat) (i:Nat):Bool :=
  ds.all fun d=>listed.getD d true || Region.reachB md ops i ops.size d

def ListedClosed (md : Region.Mode) (ops:Array Oper) (listed:Array Bool):Prop :=
  ∀ j oj,ops[j]? = some oj→listed.getD j false=true→∀ e ∈ oj.after,Region.binds md e=true→listed.getD e.on false=true

theorem Region.closedB_spec {listed : Array Bool} (h:Region.closedB md ops listed=true):ListedClosed md ops listed:=by
  intro j oj hj hl e he hb;have hlt:j<ops.size:=(Array.getElem?_eq_some_iff.1 hj).1;have h1:=List.all_eq_true.1 h j (List.mem_range.2 hlt);simp only [hl,hj,Bool.not_true,Bool.false_or] at h1;have h2:=Array.all_eq_true_iff_forall_mem.1 h1 e he
  simpa [hb] using h2

theorem ListedClosed.set {listed : Array Bool} {i:Nat} (h:ListedClosed md ops listed) (hi:i ∈ Region.ready md ops listed):ListedClosed md ops (listed.setIfInBounds i true):=by
  obtain ⟨_,oi,hoi,hall⟩:=mem_ready.1 hi;intro j oj hj hl e he hb;by_cases hij:i=j
  · subst hij
    have:oj=oi:=Option.some.inj (hj.symm.trans hoi);subst this;exact getD_set_true (hall e he hb)
  · rw [getD_set_ne false hij] at hl
    exact getD_set_true (h j oj hj hl e he hb)

theorem Region.reach_listed {listed : Array Bool} {i:Nat} (hc:ListedClosed md ops listed):∀ (fuel d:Nat),Region.reachB md ops i fuel d=true→listed.getD d false=true→listed.getD i false=true
  | 0,_,h,_=>by simp [Region.reachB] at h
  | fuel+1,d,h,hl=>by
    unfold Region.reachB at h
    cases ho:ops[d]? with
    | none=>rw [ho] at h;simp at h
    | some o =>
      rw [ho] at h
      obtain ⟨e,he,h1⟩:=Array.any_eq_true'.1 h;simp only [Bool.and_eq_true,Bool.or_eq_true,beq_iff_eq] at h1;have hle:=hc d o ho hl e he h1.1;rcases h1.2 with h2|h2
      · rw [← h2];exact hle
      · exact Region.reach_listed hc fuel e.on h2 hle

theorem Region.reach_not_ready {listed : Array Bool} {i d fuel:Nat} (hc:ListedClosed md ops listed) (hr:Region.reachB md ops i fuel d=true) (hun:listed.getD i true=false):d ∉ Region.ready md ops listed:=by
  intro hd;obtain ⟨_,o,ho,hall⟩:=mem_ready.1 hd
  have hi:listed.getD i false=true:=by
    cases fuel with
    | zero=>simp [Region.reachB] at hr
    | succ n =>
      unfold Region.reachB at hr;rw [ho] at hr;obtain ⟨e,he,h1⟩:=Array.any_eq_true'.1 hr;simp only [Bool.and_eq_true,Bool.or_eq_true,beq_iff_eq] at h1;have hle:=hall e he h1.1;rcases h1.2 with h2|h2
      · rw [← h2];exact hle
      · exact Region.reach_listed hc n e.on h2 hle
  rcases Nat.lt_or_ge i listed.size with h'|h'
  · simp [h'] at hun hi
    rw [hun] at hi;cases hi
  · simp [Array.getElem?_eq_none h'] at hun

def wpAnyLast (P : Program) (md:Region.Mode) (ops:Array Oper) (Q:Exit→Act→World→Prop) (S:World→Prop) (ds:List Nat):Nat→Array Bool→Act→World→Prop
  | 0,listed,a,w=>Region.ready md ops listed=[]∧Q .normal a w
  | fuel+1,listed,a,w =>
    (Region.ready md ops listed=[]→Q .normal a w) ∧
    ∀ i ∈ Region.ready md ops listed,wpOp P ops Q i (fun a' w'=>(i ∉ ds→S w→S w')∧wpAnyLast P md ops Q S ds fuel (listed.setIfInBounds i true) a' w') a w

theorem wpAny_of_last : ∀ (fuel:Nat) (listed:Array Bool) (a:Act) (w:World),wpAnyLast P md ops Q S ds fuel listed a w→wpAny P md ops Q fuel listed a w
  | 0,_,_,_,h=>h
  | fuel+1,_,_,_,h=>⟨h.1,fun i hi=>wpOp_mono (fun a' w' h'=>wpAny_of_last fuel _ a' w' h'.2) (h.2 i hi)⟩

theorem wpAnyLast_first {i : Nat} {oi:Oper} {v:Value} (hi:ops[i]? = some oi) (hsel:∀ (j:Nat) (o:Oper) cs b,ops[j]? = some o→o.op ≠ .select cs b)
    (hQ:∀ c a w,Q (.panic c) (a.put oi.dst v) w→Q (.panic c) a w) (n:Nat) :
    ∀ (fuel:Nat) (listed:Array Bool) (a:Act) (w:World),
      (∀ j oj,ops[j]? = some oj→j≠i→listed.getD j true=false→(∀ e ∈ oj.after,Region.binds md e=true→e.on≠i)→oi.apart ops oj=true) →
      ListedClosed md ops listed→(∀ d ∈ ds,listed.getD d true=false→Region.reachB md ops i n d=true) →
      i ∈ Region.ready md ops listed→YieldsIf P ops S oi v a→S w →
      wpAnyLast P md ops Q S ds fuel (listed.setIfInBounds i true) (a.put oi.dst v) w→wpAnyLast P md ops Q S ds (fuel+1) listed a w:=by
  intro fuel
  induction fuel with
  | zero =>
    intro listed a w _ _ _ hr hy hS H;refine ⟨fun h=>(by rw [h] at hr;cases hr),fun j hj=>?_⟩;by_cases hji:j=i
    · subst hji;exact hy.wpOp hi hS ⟨fun _ h=>h,H⟩
    · have:=ready_mono hj hji
      rw [H.1] at this;cases this
  | succ fuel ih =>
    intro listed a w hfree hc hd hr hy hS H;refine ⟨fun h=>(by rw [h] at hr;cases hr),fun j hj=>?_⟩;by_cases hji:j=i
    · subst hji;exact hy.wpOp hi hS ⟨fun _ h=>h,H⟩
    · have h1:=H.2 j (ready_mono hj hji)
      obtain ⟨hjun,oj,hoj,hall⟩:=mem_ready.1 hj;have hiun:=(mem_ready.1 hr).1
      have hnot:∀ e ∈ oj.after,Region.binds md e=true→e.on≠i:=fun e he hb heq=>by
        have h1:=hall e he hb;rw [heq] at h1;rcases Nat.lt_or_ge i listed.size with h'|h'
        · simp [h'] at hiun h1;rw [hiun] at h1;cases h1
        · simp [Array.getElem?_eq_none h'] at h1
      have hjd:j ∉ ds:=fun hm=>Region.reach_not_ready hc (hd j hm hjun) hiun hj
      have h2:=wpOp_putIf hoj (hfree j oj hoj hji hjun hnot) (fun cs b=>hsel i oi cs b hi) (fun cs b=>hsel j oj cs b hoj) hQ hy h1
      have hfree':∀ k ok,ops[k]? = some ok→k≠i→(listed.setIfInBounds j true).getD k true=false →
          (∀ e ∈ ok.after,Region.binds md e=true→e.on≠i)→oi.apart ops ok=true:=fun k ok hk hki hun hno=>by
        refine hfree k ok hk hki ?_ hno;by_cases hjk:j=k
        · subst hjk;exact hjun
        · rw [getD_set_ne true hjk] at hun;exact hun
      have hd':∀ d ∈ ds,(listed.setIfInBounds j true).getD d true=false→Region.reachB md ops i n d=true:=fun d hm hun=>by
        refine hd d hm ?_;by_cases hjk:j=d
        · subst hjk;exact hjun
        · rw [getD_set_ne true hjk] at hun;exact hun
      refine wpOp_mono (fun a' w' h3=>⟨h3.2.1,ih (listed.setIfInBounds j true) a' w' hfree' (hc.set hj) hd' (ready_mono hr (Ne.symm hji)) h3.1 (h3.2.1 hjd hS) ?_⟩) h2;rw [Array.setIfInBounds_comm _ _ hji];exact h3.2.2

theorem wpAnyLast_any {i : Nat} {oi:Oper} {v:Value} (hi:ops[i]? = some oi) (hsel:∀ (j:Nat) (o:Oper) cs b,ops[j]? = some o→o.op ≠ .select cs b)
    (hQ:∀ c a w,Q (.panic c) (a.put oi.dst v) w→Q (.panic c) a w) :
    ∀ (fuel:Nat) (listed:Array Bool) (a:Act) (w:World),
      (∀ j oj,ops[j]? = some oj→j≠i→listed.getD j true=false→(∀ e ∈ oj.after,Region.binds md e=true→e.on≠i)→oi.apart ops oj=true) →
      i ∈ Region.ready md ops listed→Yields P ops oi v a →
      wpAnyLast P md ops Q S ds fuel (listed.setIfInBounds i true) (a.put oi.dst v) w→wpAnyLast P md ops Q S ds (fuel+1) listed a w:=by
  intro fuel
  induction fuel with
  | zero =>
    intro listed a w _ hr hy H;refine ⟨fun h=>(by rw [h] at hr;cases hr),fun j hj=>?_⟩;by_cases hji:j=i
    · subst hji;exact (hy.yieldsIf (S:=fun _=>True)).wpOp hi trivial ⟨fun _ h=>h,H⟩
    · have:=ready_mono hj hji
      rw [H.1] at this;cases this
  | succ fuel ih =>
    intro listed a w hfree hr hy H;refine ⟨fun h=>(by rw [h] at hr;cases hr),fun j hj=>?_⟩;by_cases hji:j=i
    · subst hji;exact (hy.yieldsIf (S:=fun _=>True)).wpOp hi trivial ⟨fun _ h=>h,H⟩
    · have h1:=H.2 j (ready_mono hj hji)
      obtain ⟨hjun,oj,hoj,hall⟩:=mem_ready.1 hj;have hiun:=(mem_ready.1 hr).1
      have hnot:∀ e ∈ oj.after,Region.binds md e=true→e.on≠i:=fun e he hb heq=>by
        have h1:=hall e he hb;rw [heq] at h1;rcases Nat.lt_or_ge i listed.size with h'|h'
        · simp [h'] at hiun h1;rw [hiun] at h1;cases h1
        · simp [Array.getElem?_eq_none h'] at h1
      have h2:=wpOp_put hoj (hfree j oj hoj hji hjun hnot) (fun cs b=>hsel i oi cs b hi) (fun cs b=>hsel j oj cs b hoj) hQ hy h1
      have hfree':∀ k ok,ops[k]? = some ok→k≠i→(listed.setIfInBounds j true).getD k true=false →
          (∀ e ∈ ok.after,Region.binds md e=true→e.on≠i)→oi.apart ops ok=true:=fun k ok hk hki hun hno=>by
        refine hfree k ok hk hki ?_ hno;by_cases hjk:j=k
        · subst hjk;exact hjun
        · rw [getD_set_ne true hjk] at hun;exact hun
      refine wpOp_mono (fun a' w' h3=>⟨h3.2.1,ih (listed.setIfInBounds j true) a' w' hfree' (ready_mono hr (Ne.symm hji)) h3.1 ?_⟩) h2;rw [Array.setIfInBounds_comm _ _ hji];exact h3.2.2

theorem wpAnyLast_take {i : Nat} {oi:Oper} {v:Value} {fuel:Nat} {listed:Array Bool} {a:Act} {w:World} (hi:ops[i]? = some oi)
    (hs:Region.noSelect ops=true) (hf:Region.free md ops listed i=true) (hr:(Region.ready md ops listed).contains i=true)
    (hc:Region.closedB md ops listed=true) (hl:Region.lastB md ops listed ds i=true)
    (hQ:∀ c a w,Q (.panic c) (a.put oi.dst v) w→Q (.panic c) a w) (hy:YieldsIf P ops S oi v a) (hS:S w)
    (h:wpAnyLast P md ops Q S ds fuel (listed.setIfInBounds i true) (a.put oi.dst v) w):wpAnyLast P md ops Q S ds (fuel+1) listed a w :=
  wpAnyLast_first hi (Region.noSelect_spec hs) hQ ops.size fuel listed a w (Region.free_spec hi hf) (Region.closedB_spec hc)
    (fun d hm hun=>by have:=List.all_eq_true.1 hl d hm;rw [hun] at this;simpa using this) (by simpa using hr) hy hS h

theorem wpAnyLast_all {rs : List Nat} {fuel:Nat} {listed:Array Bool} {a:Act} {w:World} (hr:Region.ready md ops listed=rs) (hne:rs≠[])
    (h:∀ i ∈ rs,wpOp P ops Q i (fun a' w'=>(i ∉ ds→S w→S w')∧wpAnyLast P md ops Q S ds fuel (listed.setIfInBounds i true) a' w') a w):wpAnyLast P md ops Q S ds (fuel+1) listed a w :=
  ⟨fun h0=>absurd (hr ▸ h0) hne,hr ▸ h⟩

theorem wpAnyLast_done {listed : Array Bool} {a:Act} {w:World} (hr:Region.ready md ops listed=[]) (h:Q .normal a w) :
    ∀ fuel,wpAnyLast P md ops Q S ds fuel listed a w
  | 0=>⟨hr,h⟩
  | _+1=>⟨fun _=>h,by rw [hr];simp⟩

theorem wp_region_last {id : Nat} {a:Act} {w:World} (hm:P.follows .mixedOrders=true)
    (h:wpAnyLast P .any ops Q S ds ops.size (Array.replicate ops.size false) a { w with drawn:=w.drawn+1 }):(Code.region id ops true).wp P Q a w :=
  wp_region_any hm (wpAny_of_last _ _ _ _ h)

end

section
variable {P : Program} {ops:Array Oper} {Q:Exit→Act→World→Prop} {md:Region.Mode} {S:World→Prop} {ds:List Nat}

def AllReadyL (P : Program) (md:Region.Mode) (ops:Array Oper) (Q:Exit→Act→World→Prop) (S:World→Prop) (ds:List Nat) (fuel:Nat) (listed:Array Bool) (a:Act) (w:World) (rs:List Nat):Prop :=
  ∀ i ∈ rs,wpOp P ops Q i (fun a' w'=>(i ∉ ds→S w→S w')∧wpAnyLast P md ops Q S ds fuel (listed.setIfInBounds i true) a' w') a w
theorem AllReadyL.nil {fuel : Nat} {listed:Array Bool} {a:Act} {w:World}:AllReadyL P md ops Q S ds fuel listed a w []:=fun _ h=>by cases h
theorem AllReadyL.cons {fuel : Nat} {listed:Array Bool} {a:Act} {w:World} {i:Nat} {o:Oper} {rs:List Nat} (ho:ops[i]? = some o) (hd:i ∉ ds)
    (h:∀ K':Act→World→Prop,Shut (∀ a w,S w→(S w→wpAnyLast P md ops Q S ds fuel (listed.setIfInBounds i true) a w)→K' a w)→if Region.wanted o (yielded ops a.tmps)=true then Oper.wp P o a w K' Q else K' (a.put o.dst undef) w)
    (hs:AllReadyL P md ops Q S ds fuel listed a w rs):AllReadyL P md ops Q S ds fuel listed a w (i :: rs):=fun j hj=>by
  rcases List.mem_cons.1 hj with rfl|hj
  · exact wpOp_step ho (fun K' hK=>h K' (fun a w hS hW=>hK a w ⟨fun _ _=>hS,hW hS⟩))
  · exact hs j hj
theorem AllReadyL.cons_last {fuel : Nat} {listed:Array Bool} {a:Act} {w:World} {i:Nat} {o:Oper} {rs:List Nat} (ho:ops[i]? = some o) (hd:i ∈ ds)
    (h:∀ K':Act→World→Prop,Shut (∀ a w,wpAnyLast P md ops Q S ds fuel (listed.setIfInBounds i true) a w→K' a w)→if Region.wanted o (yielded ops a.tmps)=true then Oper.wp P o a w K' Q else K' (a.put o.dst undef) w)
    (hs:AllReadyL P md ops Q S ds fuel listed a w rs):AllReadyL P md ops Q S ds fuel listed a w (i :: rs):=fun j hj=>by
  rcases List.mem_cons.1 hj with rfl|hj
  · exact wpOp_step ho (fun K' hK=>h K' (fun a w hW=>hK a w ⟨fun hn=>absurd hd hn,hW⟩))
  · exact hs j hj
theorem wpAnyLast_ready {rs : List Nat} {fuel:Nat} {listed:Array Bool} {a:Act} {w:World} (hr:Region.ready md ops listed=rs) (hne:rs≠[])
    (h:AllReadyL P md ops Q S ds fuel listed a w rs):wpAnyLast P md ops Q S ds (fuel+1) listed a w:=wpAnyLast_all hr hne h
theorem j3t {id n : Nat} {a:Act} {w:World} (l:Array Bool) (hm:P.follows .mixedOrders=true) (hn:ops.size=n) (hl:Array.replicate n false=l) (hS:S w.drew)
    (h:S w.drew→wpAnyLast P .any ops Q S ds n l a w.drew):(Code.region id ops true).wp P Q a w:=by
  subst hn;subst hl;exact wp_region_last hm (h hS)
def takeB (md : Region.Mode) (ops:Array Oper) (ds:List Nat) (l l':Array Bool) (i:Nat):Bool :=
  Region.noSelect ops && Region.free md ops l i && (Region.ready md ops l).contains i && Region.closedB md ops l && Region.lastB md ops l ds i && (l.setIfInBounds i true == l')
theorem take_ {i : Nat} {N:Option Tmp} {oi:Oper} {v:Value} {fuel:Nat} {l:Array Bool} {a:Act} {w:World} (l':Array Bool) (hi:ops[i]? = some oi) (hN:oi.dst=N) (hc:takeB md ops ds l l' i=true)
    (hQ:∀ c a w,Q (.panic c) (a.put oi.dst v) w→Q (.panic c) a w) (hy:YieldsIf P ops S oi v a) (hS:S w) {a':Act} (ha:a.put N v=a')
    (h:wpAnyLast P md ops Q S ds fuel l' a' w):wpAnyLast P md ops Q S ds (fuel+1) l a w:=by
  subst ha;subst hN;simp only [takeB,Bool.and_eq_true,beq_iff_eq] at hc;obtain ⟨⟨⟨⟨⟨h1,h2⟩,h3⟩,h4⟩,h5⟩,h6⟩:=hc;subst h6;exact wpAnyLast_take hi h1 h2 h3 h4 h5 hQ hy hS h
def anyB (md : Region.Mode) (ops:Array Oper) (l l':Array Bool) (i:Nat):Bool :=
  Region.noSelect ops && Region.free md ops l i && (Region.ready md ops l).contains i && (l.setIfInBounds i true == l')
theorem pure_ {i : Nat} {N:Option Tmp} {oi:Oper} {v:Value} {fuel:Nat} {l:Array Bool} {a:Act} {w:World} (l':Array Bool) (hi:ops[i]? = some oi) (hN:oi.dst=N) (hc:anyB md ops l l' i=true)
    (hQ:∀ c a w,Q (.panic c) (a.put oi.dst v) w→Q (.panic c) a w) (hy:Yields P ops oi v a) {a':Act} (ha:a.put N v=a')
    (h:wpAnyLast P md ops Q S ds fuel l' a' w):wpAnyLast P md ops Q S ds (fuel+1) l a w:=by
  subst ha;subst hN;simp only [anyB,Bool.and_eq_true,beq_iff_eq] at hc;obtain ⟨⟨⟨h1,h2⟩,h3⟩,h6⟩:=hc;subst h6;exact wpAnyLast_any hi (Region.noSelect_spec h1) hQ fuel l a w (Region.free_spec hi h2) (by simpa using h3) hy h
def readyB (md : Region.Mode) (ops:Array Oper) (l l':Array Bool) (i:Nat):Bool:=(Region.ready md ops l == [i]) && (l.setIfInBounds i true == l')
theorem one_ {i : Nat} {N:Option Tmp} {oi:Oper} {fuel:Nat} {l:Array Bool} {a:Act} {w:World} (l':Array Bool) (hi:ops[i]? = some oi) (hN:oi.dst=N) (hc:readyB md ops l l' i=true) (hd:i ∉ ds)
    (h:∀ K:Act→World→Prop,Shut (∀ a' w',S w'→(S w'→wpAnyLast P md ops Q S ds fuel l' a' w')→K a' w')→if Region.wanted oi (yielded ops a.tmps)=true then Oper.wp P oi a w K Q else K (a.put N undef) w) :
    wpAnyLast P md ops Q S ds (fuel+1) l a w:=by
  subst hN;simp only [readyB,Bool.and_eq_true,beq_iff_eq] at hc;obtain ⟨h1,h2⟩:=hc;subst h2;exact wpAnyLast_ready h1 (by simp) (AllReadyL.cons hi hd (fun K hK=>h K hK) AllReadyL.nil)
theorem last_ {i : Nat} {N:Option Tmp} {oi:Oper} {fuel:Nat} {l:Array Bool} {a:Act} {w:World} (l':Array Bool) (hi:ops[i]? = some oi) (hN:oi.dst=N) (hc:readyB md ops l l' i=true) (hd:i ∈ ds)
    (h:∀ K:Act→World→Prop,Shut (∀ a' w',wpAnyLast P md ops Q S ds fuel l' a' w'→K a' w')→if Region.wanted oi (yielded ops a.tmps)=true then Oper.wp P oi a w K Q else K (a.put N undef) w) :
    wpAnyLast P md ops Q S ds (fuel+1) l a w:=by
  subst hN;simp only [readyB,Bool.and_eq_true,beq_iff_eq] at hc;obtain ⟨h1,h2⟩:=hc;subst h2;exact wpAnyLast_ready h1 (by simp) (AllReadyL.cons_last hi hd (fun K hK=>h K hK) AllReadyL.nil)
theorem done_ {l : Array Bool} {a:Act} {w:World} {n:Nat} (hr:(Region.ready md ops l == [])=true) (h:Q .normal a w):wpAnyLast P md ops Q S ds n l a w:=wpAnyLast_done (by simpa using hr) h n
theorem norm_ {fuel : Nat} {l:Array Bool} {a a':Act} {w:World} (ha:a=a') (h:wpAnyLast P md ops Q S ds fuel l a' w):wpAnyLast P md ops Q S ds fuel l a w:=by
  subst ha;exact h
theorem call_ {oi : Oper} {N:Option Tmp} {a:Act} {w:World} {K:Act→World→Prop} (f:FuncId) (args:Array Value) (hw:Region.wanted oi (yielded ops a.tmps)=true) (hN:oi.dst=N) (hrun:(execOp a.eval oi).run P w = .ok (.enter f args) w)
    (h:Calls P f args w fun e w'=>∃ v,e = .returned v∧K (a.put N v) w'):if Region.wanted oi (yielded ops a.tmps)=true then Oper.wp P oi a w K Q else K (a.put N undef) w:=by
  rw [if_pos hw];subst hN;unfold Oper.wp;rw [hrun,Oper.upon_enter];refine h.mono fun e w'' hh=>?_
  obtain ⟨v,rfl,hk⟩:=hh;exact hk
theorem enters_ {f : FuncId} {fn:Func} (hf:P.funcs[f]? = some fn) (hname:(fn.name =="runtime.NumGoroutine")=false) (hb:fn.body.isSome=true) (args:Array Value) (w:World):(callFunc f args).run P w = .ok (.enter f args) w:=by
  have h1:fn.name ≠"runtime.NumGoroutine" := by simpa using hname
  obtain ⟨c,hc⟩:=Option.isSome_iff_exists.1 hb;simp [callFunc,hf,h1,hc]
theorem goes_ {oi : Oper} {N:Option Tmp} {a:Act} {w:World} {K:Act→World→Prop} {f:FuncId} {fn:Func} {as_:Array Operand} {ts:Array TypeId} (hf:P.funcs[f]? = some fn) (hname:(fn.name =="runtime.NumGoroutine")=false) (hb:fn.body.isSome=true) (args:Array Value)
    (hw:Region.wanted oi (yielded ops a.tmps)=true) (hN:oi.dst=N) (hop:oi.op = .call { callee := .value (.func f),args:=as_,argTypes:=ts }) (hargs:as_.map a.eval=args)
    (h:Calls P f args w fun e w'=>∃ v,e = .returned v∧K (a.put N v) w'):if Region.wanted oi (yielded ops a.tmps)=true then Oper.wp P oi a w K Q else K (a.put N undef) w:=by
  refine call_ f args hw hN ?_ h;have he:=enters_ hf hname hb args w;unfold execOp;simp [hop,resolve,Deferred.ofValue,invoke,Act.eval,hargs,he]
theorem j2t {rest : List Oper} {oi:Oper} {a:Act} {w:World} (N:Option Tmp) (hd:oi.dst=N) (hg:oi.guard=none) {f:FuncId} {fn:Func} {as_:Array Operand} {ts:Array TypeId} (hf:P.funcs[f]? = some fn) (hname:(fn.name =="runtime.NumGoroutine")=false) (hb:fn.body.isSome=true) (args:Array Value)
    (hop:oi.op = .call { callee := .value (.func f),args:=as_,argTypes:=ts }) (hargs:as_.map a.eval=args)
    (h:Calls P f args w fun e w'=>∃ v,e = .returned v∧wpList P ops Q rest (a.put N v) w'):wpList P ops Q (oi :: rest) a w:=by
  refine wpList_plain hg fun K hK=>?_
  have he:=enters_ hf hname hb args w
  have hrun:(execOp a.eval oi).run P w = .ok (.enter f args) w:=by
    unfold execOp;simp [hop,resolve,Deferred.ofValue,invoke,Act.eval,hargs,he]
  unfold Oper.wp;rw [hrun,Oper.upon_enter];refine h.mono fun e w'' hh=>?_
  obtain ⟨v,rfl,hk⟩:=hh;subst hd;exact hK _ _ hk
theorem i64_w (n : Int):IntKind.i64.wrap n=Go.RowKit.wrap64 n:=by unfold Go.RowKit.wrap64;exact IntKind.wrap_i64 n
theorem i32_w (n : Int):IntKind.i32.wrap n=Go.RowKit.wrap32 n:=by unfold Go.RowKit.wrap32;exact IntKind.wrap_i32 n
end
end Go.Proofs.YthmjfmpgmcgonaaDoorW.PrintLast
end
section
namespace Go.Proofs.YthmjfmpgmcgonaaDoorW.PrintWords
open Go.RowKit
namespace Kd
def tag {α : Type} (f:Nat→Nat) (d:Kd α):Kd (α × Nat) where
  sz:=d.sz
  E:=d.E
  K:=fun w x cs=>d.K w x.1 cs
  M:=fun w base ok x cs=>d.M w base (fun k=>ok k∧f k=x.2) x.1 cs
  K_len:=fun h=>d.K_len h
  K_one:=fun h=>d.K_one h
  K_below:=fun hb h=>d.K_below hb h
  K_of_M:=fun h=>d.K_of_M h
  M_mono:=fun hok h=>d.M_mono (fun k hk=>⟨hok k hk.1,hk.2⟩) h
  M_bound:=fun h=>d.M_mono (fun _ hk=>⟨⟨hk.1.1,hk.2⟩,hk.1.2⟩) (d.M_bound h)
  M_move:=fun hm h=>d.M_move (fun k hk=>hm k hk.1) h
  M_lower:=fun hb h=>d.M_lower hb h
def raw (sz : Nat):Kd (List Value) where
  sz:=sz
  E:=[]
  K:=fun _ x cs=>cs=x∧cs.length=sz∧∀ u ∈ cs,u.oneCell'=true
  M:=fun _ _ _ x cs=>cs=x∧cs.length=sz∧∀ u ∈ cs,u.oneCell'=true
  K_len:=fun h=>h.2.1
  K_one:=fun h=>h.2.2
  K_below:=fun _ h=>h
  K_of_M:=fun h=>h
  M_mono:=fun _ h=>h
  M_bound:=fun h=>h
  M_move:=fun _ h=>h
  M_lower:=fun _ h=>h
def S {α : Type} (d:Kd α) (e:Nat) (w:World) (base:Nat) (ok:Nat→Prop) (v:Value) (xs:List α):Prop:=∃ f,(tag f d).R e w base ok v xs.zipIdx
section
variable {α β : Type} {d:Kd α} {d':Kd β} {e e':Nat} {w w1 W:World} {base b:Nat} {ok ok' okv oku:Nat→Prop} {u v:Value} {xs:List α} {ys:List β}
theorem R_tight (hE : d.E=[]) (h:d.R e w base ok v xs):d.R e w base (fun k=>some k=v.ownBlock) v xs:=by
  obtain ⟨h0,inner,ho,hr⟩:=h;refine ⟨fun k hk=>hk.symm,inner,ho,hr.imp_ (fun p c hp=>d.M_mono (fun k hk=>?_) (d.M_bound hp))⟩;obtain ⟨_,_,_,q,hq,_⟩:=hk;rw [hE] at hq;cases hq
end
section
variable {α β : Type} {d:Kd α} {d':Kd β} {e e' g:Nat} {w w1 W:World} {base b:Nat} {ok ok' okv oku:Nat→Prop} {u v:Value} {xs:List α} {ys:List β}
end
section
variable {P : Program} {ops:Array Oper} {rest:List Oper} {o:Oper} {a:Act} {Q:Exit→Act→World→Prop} {Kc:Act→World→Prop} {α:Type}
end
def gap {α : Type} (f:Nat→Nat) (d:Kd α) (i:Nat) (c:List Value):Kd (α × Nat) where
  sz:=d.sz
  E:=d.E
  K:=fun w x cs=>(x.2=i→cs=c∧cs.length=d.sz∧∀ u ∈ cs,u.oneCell'=true)∧(x.2≠i→d.K w x.1 cs)
  M:=fun w base ok x cs=>(x.2=i→cs=c∧cs.length=d.sz∧∀ u ∈ cs,u.oneCell'=true)∧(x.2≠i→d.M w base (fun k=>ok k∧f k=x.2) x.1 cs)
  K_len:=fun {w x cs} h=>by
    by_cases hx:x.2=i
    · exact (h.1 hx).2.1
    · exact d.K_len (h.2 hx)
  K_one:=fun {w x cs} h=>by
    by_cases hx:x.2=i
    · exact (h.1 hx).2.2
    · exact d.K_one (h.2 hx)
  K_below:=fun hb h=>⟨h.1,fun hx=>d.K_below hb (h.2 hx)⟩
  K_of_M:=fun h=>⟨h.1,fun hx=>d.K_of_M (h.2 hx)⟩
  M_mono:=fun hok h=>⟨h.1,fun hx=>d.M_mono (fun k hk=>⟨hok k hk.1,hk.2⟩) (h.2 hx)⟩
  M_bound:=fun h=>⟨h.1,fun hx=>d.M_mono (fun _ hk=>⟨⟨hk.1.1,hk.2⟩,hk.1.2⟩) (d.M_bound (h.2 hx))⟩
  M_move:=fun hm h=>⟨h.1,fun hx=>d.M_move (fun k hk=>hm k hk.1) (h.2 hx)⟩
  M_lower:=fun hb h=>⟨h.1,fun hx=>d.M_lower hb (h.2 hx)⟩
def H {α : Type} (d:Kd α) (e:Nat) (w:World) (base:Nat) (ok:Nat→Prop) (v:Value) (xs:List α) (i:Int) (oki:Nat→Prop) (c:List Value):Prop :=
  (∀ k,oki k→ok k)∧∃ f,(gap f d i.toNat c).R e w base (fun k=>ok k∧¬ oki k) v xs.zipIdx
section
variable {α β : Type} {d:Kd α} {e e' g n cap:Nat} {w w1 W:World} {base:Nat} {ok ok' oki okp:Nat→Prop} {u v:Value} {xs:List α} {i:Int} {c:List Value}
end
section
variable {P : Program} {ops:Array Oper} {rest:List Oper} {o:Oper} {a:Act} {Q:Exit→Act→World→Prop} {α:Type}
end
end Kd
end Go.Proofs.YthmjfmpgmcgonaaDoorW.PrintWords
end
section
namespace Go.Proofs.YthmjfmpgmcgonaaDoorW.PrintWords
open Go.RowKit
namespace Kd
theorem reps_one {α : Type} {R:α→List Value→Prop} {size:Nat} {ps:List α} {cs:List Value} (h:Reps R size ps cs) (hs0:0<size) (hR:∀ p c,R p c→∀ u ∈ c,u.oneCell'=true):∀ u ∈ cs,u.oneCell'=true:=by
  intro u hu;obtain ⟨q,hq,rfl⟩:=List.mem_iff_getElem.1 hu
  have hql:q / size<ps.length:=by
    rw [Nat.div_lt_iff_lt_mul hs0,← h.1];exact hq
  refine hR _ _ (h.2 (q / size) _ (List.getElem?_eq_getElem hql)) _ ?_;rw [List.mem_iff_getElem?];refine ⟨q % size,?_⟩;rw [List.getElem?_take,if_pos (Nat.mod_lt _ hs0),List.getElem?_drop,Nat.mul_comm,Nat.div_add_mod,List.getElem?_eq_getElem hq]
def arr {α : Type} (n:Nat) (d:Kd α) (hs:0<d.sz):Kd (List α) where
  sz:=n*d.sz
  E:=d.E
  K:=fun w xs cs=>xs.length=n∧Reps (d.K w) d.sz xs cs
  M:=fun w base ok xs cs=>xs.length=n∧Reps (d.M w base ok) d.sz xs cs
  K_len:=fun h=>by rw [← h.1];exact h.2.1
  K_one:=fun h=>reps_one h.2 hs (fun _ _ hk=>d.K_one hk)
  K_below:=fun hb h=>⟨h.1,h.2.imp_ (fun _ _ hk=>d.K_below hb hk)⟩
  K_of_M:=fun h=>⟨h.1,h.2.imp_ (fun _ _ hk=>d.K_of_M hk)⟩
  M_mono:=fun hok h=>⟨h.1,h.2.imp_ (fun _ _ hk=>d.M_mono hok hk)⟩
  M_bound:=fun h=>⟨h.1,h.2.imp_ (fun _ _ hk=>d.M_bound hk)⟩
  M_move:=fun hm h=>⟨h.1,h.2.imp_ (fun _ _ hk=>d.M_move hm hk)⟩
  M_lower:=fun hb h=>⟨h.1,h.2.imp_ (fun _ _ hk=>d.M_lower hb hk)⟩
section
variable {α : Type} {n:Nat} {d:Kd α} {hs:0<d.sz} {w:World} {base:Nat} {ok:Nat→Prop} {xs:List α} {cs:List Value}
end
section
variable {α : Type} {n:Nat} {enc:α→Value} {h1:∀ x,(enc x).oneCell'=true} {hs:0<(scalar enc h1).sz} {w:World} {base:Nat} {ok:Nat→Prop} {xs:List α} {cs:List Value}
end
end Kd
end Go.Proofs.YthmjfmpgmcgonaaDoorW.PrintWords
end
section
namespace Go.Proofs.YthmjfmpgmcgonaaDoorW.PrintWords
open Go.RowKit
namespace Kd
structure Heap {α : Type} (d:Kd α):Prop where
  K:∀ {w w1:World} {x:α} {cs:List Value},(∀ k,k<w.heap.size→w1.heap[k]? = w.heap[k]?)→d.K w x cs→d.K w1 x cs
theorem cell_heap {w w1 : World} (hb:∀ k,k<w.heap.size→w1.heap[k]? = w.heap[k]?) {a:Addr} {v:Value} (h:w.cell? a=some v):w1.cell? a=some v:=by
  have:=hb a.block (World.block_lt_of_cell? w a h)
  simpa [World.cell?,this] using h
theorem Heap.C {α : Type} {d:Kd α} (hd:Heap d) {w w1:World} {A:Option Addr} {n:Nat} {xs:List α} (hb:∀ k,k<w.heap.size→w1.heap[k]? = w.heap[k]?) (h:d.C w A n xs):d.C w1 A n xs :=
  ⟨h.1,h.2.1,fun hn=>by
    obtain ⟨ad,e,hc⟩:=h.2.2 hn;refine ⟨ad,e,fun j p hj=>?_⟩;obtain ⟨c,hs,hr,hcell⟩:=hc j p hj;exact ⟨c,hs,hd.K hb hr,fun i u hu=>cell_heap hb (hcell i u hu)⟩⟩
section
variable {α : Type} {d:Kd α} {e base g n c:Nat} {ok:Nat→Prop} {w w0 W:World} {A:Option Addr} {xs:List α}
end
end Kd
end Go.Proofs.YthmjfmpgmcgonaaDoorW.PrintWords
end
section
namespace Go.Proofs.YthmjfmpgmcgonaaDoorW.PrintWords
open Go.RowKit
def Kept (w W : World) (S:Nat→Prop):Prop:=w.heap.size≤W.heap.size∧∀ i,i<w.heap.size→¬ S i→W.heap[i]? = w.heap[i]?
section
variable {w W W2 : World} {S S2 S':Nat→Prop}
theorem Kept.refl (w : World) (S:Nat→Prop):Kept w w S:=⟨Nat.le_refl _,fun _ _ _=>rfl⟩
theorem Kept.of_below (h : Below w.heap.size w W) (S:Nat→Prop):Kept w W S:=⟨h.size,fun i hi _=>h.block i hi⟩
theorem Kept.mono (h : Kept w W S) (hs:∀ k,S k→S' k):Kept w W S':=⟨h.1,fun i hi hn=>h.2 i hi (fun hk=>hn (hs i hk))⟩
theorem Kept.then_ (h : Kept w W S) (k:Kept W W2 S2) (hs:∀ k,S2 k→S k∨w.heap.size≤k):Kept w W2 S :=
  ⟨Nat.le_trans h.1 k.1,fun i hi hn=>(k.2 i (Nat.lt_of_lt_of_le hi h.1) (fun h2=>(hs i h2).elim hn (fun h3=>by omega))).trans (h.2 i hi hn)⟩
theorem Kept.of_grown {row : Option Nat} (hg:W.grownBy W2 row) (h:Kept w W S) (hr:∀ k,row=some k→S k∨w.heap.size≤k):Kept w W2 S :=
  h.then_ (S2:=fun k=>row=some k) ⟨hg.size,fun i hi hn=>hg.block i hi (fun he=>hn he.symm)⟩ hr
theorem Kept.below (h : Kept w W S) (hb:Below W.heap.size W W2):Kept w W2 S:=h.then_ (Kept.of_below hb (fun _=>False)) (fun _ hk=>hk.elim)
theorem Kept.alloc (h : Kept w W S) (o:Obj):Kept w (W.alloc o) S:=h.below (j1f (Below.refl _ _) o)
theorem Kept.drew (h : Kept w W S):Kept w W.drew S:=h
theorem Kept.drewN (h : Kept w W S) (m:Nat):Kept w (W.drewN m) S:=h
theorem Kept.setCell (h : Kept w W S) {p:Addr} (hp:S p.block∨w.heap.size≤p.block) (u:Value):Kept w (W.setCell p u) S :=
  h.then_ (S2:=fun k=>k=p.block) ⟨by simp [World.setCell],fun i _ hn=>Below.heap_setCell W p u i hn⟩ (fun k hk=>by rw [hk];exact hp)
theorem Kept.keep {g : Nat} (h:KeepBut w W g none) (k:Kept W W2 S2) (hs:∀ k,S2 k→w.heap.size≤k):KeepBut w W2 g none :=
  ⟨Nat.le_trans h.1 k.1,fun i hi hg hr=>(k.2 i (Nat.lt_of_lt_of_le hi h.1) (fun h2=>by have:=hs i h2;omega)).trans (h.2 i hi hg hr)⟩
theorem blk_kept {g : Nat} {o:Obj} (hb:W.heap[g]? = some o) (hk:Kept W W2 S) (hne:¬ S g):W2.heap[g]? = some o:=(hk.2 g (j3p hb) hne).trans hb
end
namespace Kd
section
variable {α : Type} {d:Kd α} {e base n c:Nat} {ok oki S S2:Nat→Prop} {w w0 W W1 W2:World} {v:Value} {A:Option Addr} {xs:List α} {i:Int} {cs:List Value}
end
end Kd
end Go.Proofs.YthmjfmpgmcgonaaDoorW.PrintWords
end
section
namespace Go.Proofs.YthmjfmpgmcgonaaDoorW.PrintWords
open Go.RowKit
def Foot (P : World→Prop) (W:World) (ok:Nat→Prop):Prop:=∀ W':World,(∀ k,ok k→k<W.heap.size→W'.heap[k]? = W.heap[k]?)→P W'
theorem heap_lt {W W1 : World} {k:Nat} (h:W1.heap[k]? = W.heap[k]?) (hlt:k<W.heap.size):k<W1.heap.size:=by
  rw [Array.getElem?_eq_getElem hlt] at h
  exact (Array.getElem?_eq_some_iff.1 h).1
namespace Foot
variable {P Q : World→Prop} {W W1:World} {ok ok':Nat→Prop}
theorem now (h : Foot P W ok):P W:=h W (fun _ _ _=>rfl)
theorem mono (h : Foot P W ok) (hok:∀ k,ok k→ok' k):Foot P W ok':=fun W' hW=>h W' (fun k hk hlt=>hW k (hok k hk) hlt)
theorem bound (h : Foot P W ok):Foot P W (fun k=>ok k∧k<W.heap.size):=fun W' hW=>h W' (fun k hk hlt=>hW k ⟨hk,hlt⟩ hlt)
theorem step (h : Foot P W ok) (hm:∀ k,ok k→k<W.heap.size→W1.heap[k]? = W.heap[k]?):Foot P W1 ok:=fun W' hW=>h W' (fun k hk hlt=>(hW k hk (heap_lt (hm k hk hlt) hlt)).trans (hm k hk hlt))
theorem old (h : Foot P W ok) (hb:Below W.heap.size W W1):Foot P W1 (fun k=>ok k∧k<W.heap.size):=(h.bound).step (fun k _ hlt=>hb.block k hlt)
end Foot
namespace Kd
def F {α : Type} (d:Kd α) (W:World) (ok:Nat→Prop) (A:Option Addr) (n:Nat) (xs:List α):Prop:=Foot (fun W=>d.C W A n xs) W ok
def FK {α : Type} (d:Kd α) (W:World) (ok:Nat→Prop) (x:α) (c:List Value):Prop:=Foot (fun W=>d.K W x c) W ok
section
variable {α β : Type} {d:Kd α} {e base n n' cc g N:Nat} {ok ok' okp S:Nat→Prop} {w w0 w1 W W1:World} {A A':Option Addr} {u v v1:Value} {xs:List α} {xs':List β} {d':Kd β} {x:α} {c:List Value}
theorem F_now (h : F d W ok A n xs):d.C W A n xs:=Foot.now h
theorem F_mono (h : F d W ok A n xs) (hok:∀ k,ok k→ok' k):F d W ok' A n xs:=Foot.mono h hok
theorem F_bound (h : F d W ok A n xs):F d W (fun k=>ok k∧k<W.heap.size) A n xs:=Foot.bound h
theorem F_step (h : F d W ok A n xs) (hm:∀ k,ok k→k<W.heap.size→W1.heap[k]? = W.heap[k]?):F d W1 ok A n xs:=Foot.step h hm
theorem F_below (h : F d W ok A n xs) (hb:Below W.heap.size W W1):F d W1 ok A n xs:=F_step h (fun k _ hlt=>hb.block k hlt)
theorem F_alloc (h : F d W ok A n xs) (o:Obj):F d (W.alloc o) ok A n xs:=F_below h (j1f (Below.refl _ _) o)
theorem F_drew (h : F d W ok A n xs):F d W.drew ok A n xs:=F_below h (below_drew (Below.refl _ _))
theorem F_drewN (h : F d W ok A n xs) (m:Nat):F d (W.drewN m) ok A n xs:=F_below h (j1d (Below.refl _ _) m)
theorem F_far (h : F d W ok A n xs) {p:Addr} (hok:∀ k,ok k→k≠p.block) (u:Value):F d (W.setCell p u) ok A n xs:=F_step h (fun k hk _=>Below.heap_setCell W p u k (hok k hk))
theorem F_keep (h : F d W ok A n xs) (hk:KeepBut W W1 g none) (hok:∀ k,ok k→k≠g):F d W1 ok A n xs:=F_step h (fun k ho hlt=>hk.2 k hlt (hok k ho) (by simp))
theorem F_nil (d : Kd α) (W:World) (ok:Nat→Prop):F d W ok none ([]:List α).length []:=fun W' _=>C_nil d W'
theorem F_elder' (h : F d W ok A n xs) (hbase:∀ k,v.ownBlock=some k→W.heap.size≤k) (hb:Below W.heap.size W W1):F d W1 (fun k=>ok k∧some k≠v.ownBlock) A n xs :=
  F_mono (Foot.old h hb) (fun k hk=>⟨hk.1,fun he=>by have:=hbase k he.symm;have:=hk.2;omega⟩)
theorem F_elderB (h : F d W ok A n xs) (a:Nat) (ha:W.heap.size≤a):F d W (fun k=>ok k∧k≠a) A n xs:=F_mono (F_bound h) (fun k hk=>⟨hk.1,by have:=hk.2;omega⟩)
theorem R_F (h : d.R e W base ok (.slice A n cc) xs):F d W ok A n xs:=fun W' hW=>by
  have h2:=R_reads' (R_step h hW);rw [h2.1];exact h2.2.2
theorem FK_now (h : FK d W ok x c):d.K W x c:=Foot.now h
theorem emptied (W : World) (g:Nat):∃ W':World,(∀ k,k≠g→W'.heap[k]? = W.heap[k]?)∧∀ a:Addr,a.block=g→W'.cell? a=none:=by
  refine ⟨{ W with heap:=W.heap.setIfInBounds g (.cells #[] 0) },fun k hk=>by simp [Ne.symm hk],fun a ha=>?_⟩;subst ha;by_cases hlt:a.block<W.heap.size
  · simp [World.cell?,hlt]
  · simp [World.cell?,hlt]
end
end Kd
end Go.Proofs.YthmjfmpgmcgonaaDoorW.PrintWords
end
section
namespace Go.Proofs.YthmjfmpgmcgonaaDoorW.PrintWords
open Go.RowKit
namespace Kd
section
variable {α : Type} {d:Kd α} {e base n cc g:Nat} {ok ok' okp S:Nat→Prop} {w w1 W W1:World} {A:Option Addr} {u v v1:Value} {xs:List α} {x:α} {c:List Value}
theorem F_get (h : F d W ok A n xs) (z:α) (i:Int) (h0:0≤i) (h1:i<n) :
    ∃ ad c,A=some ad∧c.length=d.sz∧FK d W ok (xs.getD i.toNat z) c∧(∀ j u,c[j]? = some u→W.cell? (ad.add (i.toNat*d.sz+j))=some u)∧(0<d.sz→ok ad.block):=by
  obtain ⟨ad,c,rfl,hcl,hK,hcc⟩:=C_get (F_now h) z i h0 h1
  have hin:0<d.sz→ok ad.block:=by
    intro hs;by_cases hk:ok ad.block
    · exact hk
    · obtain ⟨W',h2,h3⟩:=emptied W ad.block
      obtain ⟨ad',c',he,hcl',_,hcc'⟩:=C_get (h W' (fun k hk' _=>h2 k (fun e=>hk (e ▸ hk')))) z i h0 h1;injection he with he
      subst he;have h4:=hcc' 0 _ (List.getElem?_eq_getElem (by omega));rw [h3 _ (add_block _ _)] at h4;cases h4
  refine ⟨ad,c,rfl,hcl,fun W' hW=>?_,hcc,hin⟩;obtain ⟨ad',c',he,hcl',hK',hcc'⟩:=C_get (h W' hW) z i h0 h1;injection he with he
  subst he
  have hc:c=c':=by
    apply List.ext_getElem?;intro j;by_cases hj:j<d.sz
    · have hb:W'.heap[ad.block]? = W.heap[ad.block]? := by
        have h5:=hcc j _ (List.getElem?_eq_getElem (by omega));have h6:=World.block_lt_of_cell? W _ h5;rw [add_block] at h6;exact hW _ (hin (by omega)) h6
      have h5:=hcc j _ (List.getElem?_eq_getElem (by omega));have h6:=hcc' j _ (List.getElem?_eq_getElem (by omega));have h7:W'.cell? (ad.add (i.toNat*d.sz+j))=W.cell? (ad.add (i.toNat*d.sz+j)):=by simp [World.cell?,add_block,hb]
      rw [h7,h5] at h6;rw [List.getElem?_eq_getElem (by omega),List.getElem?_eq_getElem (by omega)];exact h6
    · rw [List.getElem?_eq_none (by omega),List.getElem?_eq_none (by omega)]
  rw [hc];exact hK'
def N {α : Type} (d:Kd α) (e:Nat) (w:World) (base:Nat) (ok:Nat→Prop) (v:Value) (xs:List α):Prop :=
  (∀ k,v.ownBlock=some k→ok k)∧∃ rows:List (List Value),rows.length=xs.length∧(raw d.sz).R e w base (fun k=>some k=v.ownBlock) v rows∧∀ (j:Nat) (x:α) (c:List Value),xs[j]? = some x→rows[j]? = some c→FK d w (fun k=>ok k∧some k≠v.ownBlock) x c
end
end Kd
end Go.Proofs.YthmjfmpgmcgonaaDoorW.PrintWords
end
section
namespace Go.Proofs.YthmjfmpgmcgonaaDoorW.PrintMore
open Go.RowKit Go.Proofs.YthmjfmpgmcgonaaDoorW.PrintWords
namespace Kd
open Go.Proofs.YthmjfmpgmcgonaaDoorW.PrintWords.Kd
end Kd

namespace Kd
open Go.Proofs.YthmjfmpgmcgonaaDoorW.PrintWords.Kd
section
variable {α : Type} {d:Kd α} {e base g N:Nat} {ok:Nat→Prop} {W w1:World} {u v:Value} {xs:List α}
theorem R_oldK (hu : d.R e W base (fun k=>ok k∧k≠g) u xs) (hk:KeepBut W w1 g none):d.R e w1 base (fun k=>ok k∧k<W.heap.size) u xs :=
  R_mono (R_keep (R_bound hu) hk (fun _ h=>h.1.2)) (fun _ h=>⟨h.1.1,h.2.2.1⟩)
theorem R_told (h : d.R e w1 base (fun k=>ok k∧k<N) u xs) (hbase:∀ k,v.ownBlock=some k→N≤k):d.R e w1 base (fun k=>(ok k∧some k≠v.ownBlock)∧k<N) u xs :=
  R_mono h (fun k hk=>⟨⟨hk.1,fun e=>Nat.lt_irrefl _ (Nat.lt_of_lt_of_le hk.2 (hbase k e.symm))⟩,hk.2⟩)
end
end Kd
theorem max2_int (k k' : IntKind) (x y:Int):Builtin.max2 (.int k x) (.int k' y)=pure (.int k (if x<y then y else x)):=by simp only [Builtin.max2,gt_iff_lt]
theorem min2_int (k k' : IntKind) (x y:Int):Builtin.min2 (.int k x) (.int k' y)=pure (.int k (if y<x then y else x)):=by simp only [Builtin.min2]
theorem max_two (ats : Array TypeId) (ty:TypeId) (a b:Value):Builtin.max_ ats ty #[a,b]=(Builtin.max2 a b >>= fun s=>pure s):=by simp only [Builtin.max_,List.foldlM_cons,List.foldlM_nil]
theorem min_two (ats : Array TypeId) (ty:TypeId) (a b:Value):Builtin.min_ ats ty #[a,b]=(Builtin.min2 a b >>= fun s=>pure s):=by simp only [Builtin.min_,List.foldlM_cons,List.foldlM_nil]
theorem max_three (ats : Array TypeId) (ty:TypeId) (a b c:Value):Builtin.max_ ats ty #[a,b,c]=(Builtin.max2 a b >>= fun s=>Builtin.max2 s c >>= fun s=>pure s):=by simp only [Builtin.max_,List.foldlM_cons,List.foldlM_nil]
theorem min_three (ats : Array TypeId) (ty:TypeId) (a b c:Value):Builtin.min_ ats ty #[a,b,c]=(Builtin.min2 a b >>= fun s=>Builtin.min2 s c >>= fun s=>pure s):=by simp only [Builtin.min_,List.foldlM_cons,List.foldlM_nil]
theorem max_four (ats : Array TypeId) (ty:TypeId) (a b c d:Value):Builtin.max_ ats ty #[a,b,c,d]=(Builtin.max2 a b >>= fun s=>Builtin.max2 s c >>= fun s=>Builtin.max2 s d >>= fun s=>pure s):=by simp only [Builtin.max_,List.foldlM_cons,List.foldlM_nil]
theorem min_four (ats : Array TypeId) (ty:TypeId) (a b c d:Value):Builtin.min_ ats ty #[a,b,c,d]=(Builtin.min2 a b >>= fun s=>Builtin.min2 s c >>= fun s=>Builtin.min2 s d >>= fun s=>pure s):=by simp only [Builtin.min_,List.foldlM_cons,List.foldlM_nil]
end Go.Proofs.YthmjfmpgmcgonaaDoorW.PrintMore
namespace Go.Proofs.YthmjfmpgmcgonaaDoorW.PrintWords
open Go.RowKit
section
variable {P : Program} {ops:Array Oper} {rest:List Oper} {o:Oper} {a:Act} {Q:Exit→Act→World→Prop} {W:World}
theorem j1w {f : FuncId} {as_:Array Operand} {ts:Array TypeId} (_ho:o.op = .call { callee := .value (.func f),args:=as_,argTypes:=ts }) (h:wpList P ops Q (o :: rest) a W):wpList P ops Q (o :: rest) a W:=h
theorem j3f {b : Builtin} {xs:Array Operand} {ts:Array TypeId} (_ho:o.op = .call { callee := .builtin b,args:=xs,argTypes:=ts }) (h:wpList P ops Q (o :: rest) a W):wpList P ops Q (o :: rest) a W:=h
end
def mx (a b : Int):Int:=if a<b then b else a
theorem drewN_self (w : World) (n:Nat):w.drewN n=w.drewN n:=rfl
namespace Kd
section
variable {α : Type} {d:Kd α} {e base:Nat} {ok:Nat→Prop} {W w1:World} {v:Value} {xs:List α}
end
section
variable {α : Type} {d:Kd α} {e base g n cap:Nat} {ok oki okp:Nat→Prop} {W:World} {xs:List α} {i:Int} {c:List Value}
end
section
variable {α : Type} {d:Kd α} {e base b b' g N:Nat} {ok ok1:Nat→Prop} {W W2 w1:World} {u v:Value} {xs ys:List α} {S:Nat→Prop}
end
end Kd
end Go.Proofs.YthmjfmpgmcgonaaDoorW.PrintWords
namespace Go.Proofs.YthmjfmpgmcgonaaDoorW.PrintWords
open Go.RowKit
namespace Kd
def V {α : Type} (d:Kd α) (_e:Nat) (W:World) (_base:Nat) (ok:Nat→Prop) (v:Value) (xs:List α):Prop:=∃ A c,v = .slice A xs.length c∧xs.length≤c∧F d W ok A xs.length xs
section
variable {α β : Type} {d:Kd α} {e base base' n m c g N' lo hi:Nat} {ok ok' S:Nat→Prop} {w W w1:World} {A:Option Addr} {ad:Addr} {u v v1:Value} {xs:List α}
theorem V_map (h : V d e W base ok v xs) (hF:∀ A,F d W ok A xs.length xs→F d w1 ok' A xs.length xs):V d e w1 base' ok' v xs:=by
  obtain ⟨A,c,hv,hl,hf⟩:=h;exact ⟨A,c,hv,hl,hF A hf⟩
theorem V_mk (hl : xs.length≤c) (hf:F d W ok A xs.length xs):V d e W base ok (.slice A xs.length c) xs:=⟨A,c,rfl,hl,hf⟩
theorem V_slice (h : V d e W base ok v xs):∃ A c,v = .slice A xs.length c:=by
  obtain ⟨A,c,hv,_⟩:=h;exact ⟨A,c,hv⟩
theorem V_at (h : V d e W base ok (.slice A n c) xs):n=xs.length∧n≤c∧F d W ok A xs.length xs:=by
  obtain ⟨A',c',hv,hl,hf⟩:=h;injection hv with ha hn hc
  subst ha;subst hc;exact ⟨hn,by rw [hn];exact hl,hf⟩
theorem V_reads' (h : V d e W base ok (.slice A n c) xs):n=xs.length∧n≤c∧d.C W A xs.length xs:=⟨(V_at h).1,(V_at h).2.1,F_now (V_at h).2.2⟩
theorem V_F (h : V d e W base ok (.slice A n c) xs):F d W ok A n xs:=by
  obtain ⟨hn,_,hf⟩:=V_at h;rw [hn];exact hf
theorem V_nil (d : Kd α) (e:Nat) (W:World) (base:Nat) (ok:Nat→Prop):V d e W base ok (.slice none 0 0) []:=⟨none,0,rfl,Nat.le_refl _,F_nil d W ok⟩
theorem R_V (h : d.R e W base ok v xs):V d e W base' ok v xs:=by
  obtain ⟨A,c,rfl⟩:=R_slice h;exact ⟨A,c,rfl,(R_reads' h).2.1,R_F h⟩
theorem V_mono (h : V d e W base ok v xs) (hok:∀ k,ok k→ok' k):V d e W base ok' v xs:=V_map h (fun _ hf=>F_mono hf hok)
theorem V_bound (h : V d e W base ok v xs):V d e W base (fun k=>ok k∧k<W.heap.size) v xs:=V_map h (fun _ hf=>F_bound hf)
theorem V_lower (h : V d e W base ok v xs) (_:base'≤base):V d e W base' ok v xs:=h
theorem V_below (h : V d e W base ok v xs) (hb:Below W.heap.size W w1):V d e w1 base ok v xs:=V_map h (fun _ hf=>F_below hf hb)
theorem V_alloc (h : V d e W base ok v xs) (o:Obj):V d e (W.alloc o) base ok v xs:=V_map h (fun _ hf=>F_alloc hf o)
theorem V_drew (h : V d e W base ok v xs):V d e W.drew base ok v xs:=V_map h (fun _ hf=>F_drew hf)
theorem V_drewN (h : V d e W base ok v xs) (m:Nat):V d e (W.drewN m) base ok v xs:=V_map h (fun _ hf=>F_drewN hf m)
theorem V_far (h : V d e W base ok v xs) {p:Addr} (hok:∀ k,ok k→k≠p.block) (u:Value):V d e (W.setCell p u) base ok v xs:=V_map h (fun _ hf=>F_far hf hok u)
theorem V_keep (h : V d e W base ok v xs) (hk:KeepBut W w1 g none) (hok:∀ k,ok k→k≠g):V d e w1 base ok v xs:=V_map h (fun _ hf=>F_keep hf hk hok)
theorem V_elder' (h : V d e W base ok v xs) (hbase:∀ k,u.ownBlock=some k→W.heap.size≤k) (hb:Below W.heap.size W w1):V d e w1 base (fun k=>ok k∧some k≠u.ownBlock) v xs:=V_map h (fun _ hf=>F_elder' hf hbase hb)
theorem V_elderB (h : V d e W base ok v xs) (a:Nat) (ha:W.heap.size≤a):V d e W base (fun k=>ok k∧k≠a) v xs:=V_map h (fun _ hf=>F_elderB hf a ha)
theorem V_get (h : V d e W base ok (.slice (some ad) n c) xs) (z:α) (i:Int) (h0:0≤i) (h1:i<n) :
    ∃ cs,cs.length=d.sz∧FK d W ok (xs.getD i.toNat z) cs∧∀ j u,cs[j]? = some u→W.cell? (ad.add (i.toNat*d.sz+j))=some u:=by
  obtain ⟨ad',cs,he,hcl,hK,hcc,_⟩:=F_get (V_F h) z i h0 h1;injection he with he
  subst he;exact ⟨cs,hcl,hK,hcc⟩
theorem R_newM {M : Nat→Prop} (h:d.R e w1 W.heap.size ok v xs) (hle:w.heap.size≤W.heap.size) (hM:∀ k,w.heap.size≤k→M k):d.R e w1 W.heap.size (fun k=>M k∧ok k) v xs:=R_mono (R_bound h) (fun k hk=>⟨hM k (Nat.le_trans hle hk.2.1),hk.1⟩)
end
end Kd
end Go.Proofs.YthmjfmpgmcgonaaDoorW.PrintWords
end
section
namespace Go.Proofs.YthmjfmpgmcgonaaDoorW.PrintLast
open Go.Proofs.YthmjfmpgmcgonaaDoorW.PrintWords (Aside0)
def needsOf (md : Region.Mode) (o:Oper):List Nat:=(o.after.toList.filter (fun e=>Region.binds md e)).map (fun e=>e.on)
def clashOf (md : Region.Mode) (ops:Array Oper) (i:Nat) (oi:Oper):List Nat:=(List.range ops.size).filter fun j => !(j == i) && match ops[j]? with
  | some oj => !(oj.after.any (fun e=>Region.binds md e && e.on == i) || oi.apart ops oj)
  | none=>false
def rtab (md : Region.Mode) (ops:Array Oper):Bool × List (List Nat × List Nat):=(Region.noSelect ops,(List.range ops.size).map fun i=>match ops[i]? with
  | some o=>(needsOf md o,clashOf md ops i o)
  | none=>([],[]))
def readyAt (T : List (List Nat × List Nat)) (l:List Bool) (i:Nat):Bool := !l.getD i true && match T[i]? with
  | some r=>r.1.all (fun j=>l.getD j false)
  | none=>false
def readyT (T : List (List Nat × List Nat)) (l:List Bool):List Nat:=(List.range T.length).filter (readyAt T l)
def freeT (T : List (List Nat × List Nat)) (l:List Bool) (i:Nat):Bool:=match T[i]? with
  | some r=>r.2.all (fun j=>l.getD j true)
  | none=>false
def closedT (T : List (List Nat × List Nat)) (l:List Bool):Bool:=(List.range T.length).all fun j => !l.getD j false || match T[j]? with
  | some r=>r.1.all (fun k=>l.getD k false)
  | none=>true
def reachT (T : List (List Nat × List Nat)) (i:Nat):Nat→Nat→Bool
  | 0,_=>false
  | fuel+1,d=>match T[d]? with
    | some r=>r.1.any fun j=>j == i || reachT T i fuel j
    | none=>false
def lastT (T : List (List Nat × List Nat)) (l:List Bool) (ds:List Nat) (i:Nat):Bool:=ds.all fun d=>l.getD d true || reachT T i T.length d
section
variable {md : Region.Mode} {ops:Array Oper} {T:Bool × List (List Nat × List Nat)} {l l' li lj lk:Array Bool} {ds:List Nat} {i j k:Nat}
theorem gd (l : Array Bool) (j:Nat) (b:Bool):l.getD j b=l.toList.getD j b:=by simp [Array.getD_eq_getD_getElem?,List.getD_eq_getElem?_getD]
theorem needs_all (o : Oper) (p:Nat→Bool):o.after.all (fun e => !Region.binds md e || p e.on)=(needsOf md o).all p:=by
  unfold needsOf;rw [← Array.all_toList]
  induction o.after.toList with
  | nil=>rfl
  | cons e r ih =>
    rw [List.all_cons,ih,List.filter_cons];cases h:Region.binds md e<;>simp
theorem needs_any (o : Oper) (p:Nat→Bool):o.after.any (fun e=>Region.binds md e && p e.on)=(needsOf md o).any p:=by
  unfold needsOf;rw [← Array.any_toList]
  induction o.after.toList with
  | nil=>rfl
  | cons e r ih =>
    rw [List.any_cons,ih,List.filter_cons];cases h:Region.binds md e<;>simp
theorem rtab_length : (rtab md ops).2.length=ops.size:=by simp [rtab]
theorem rtab_some {o : Oper} (h:ops[i]? = some o):(rtab md ops).2[i]? = some (needsOf md o,clashOf md ops i o):=by
  have hi:=(Array.getElem?_eq_some_iff.1 h).1;unfold rtab;rw [List.getElem?_map,List.getElem?_range hi,Option.map_some,h]
theorem rtab_none (h : ops[i]? = none):(rtab md ops).2[i]? = none:=by
  have hi:ops.size≤i:=Array.getElem?_eq_none_iff.1 h;exact List.getElem?_eq_none (by rw [rtab_length];exact hi)
theorem readyAt_eq : readyAt (rtab md ops).2 l.toList i=(!l.getD i true && ((ops[i]?).map (·.after.all fun e => !Region.binds md e || l.getD e.on false)).getD false):=by
  unfold readyAt;rw [gd];cases h:ops[i]? with
  | none=>rw [rtab_none h];rfl
  | some o =>
    rw [rtab_some h];simp only [Option.map_some,Option.getD_some];rw [← needs_all];simp only [gd]
theorem ready_eq : Region.ready md ops l=readyT (rtab md ops).2 l.toList:=by
  unfold Region.ready readyT;rw [rtab_length];refine List.filter_congr (fun i _=>?_);rw [readyAt_eq]
theorem free_eq : Region.free md ops l i=freeT (rtab md ops).2 l.toList i:=by
  unfold Region.free freeT;cases h:ops[i]? with
  | none=>rw [rtab_none h]
  | some oi =>
    rw [rtab_some h];simp only [clashOf];rw [List.all_filter]
    congr 1
    funext j
    rw [gd];cases hj:ops[j]? with
    | none=>cases (j == i)<;>cases (l.toList.getD j true)<;>simp
    | some oj =>
      cases (j == i)<;>cases (l.toList.getD j true)<;>cases (oj.after.any (fun e=>Region.binds md e && e.on == i) || oi.apart ops oj)<;>simp_all
theorem closed_eq : Region.closedB md ops l=closedT (rtab md ops).2 l.toList:=by
  unfold Region.closedB closedT;rw [rtab_length]
  congr 1
  funext j
  rw [gd];cases h:ops[j]? with
  | none=>rw [rtab_none h]
  | some o =>
    rw [rtab_some h];simp only;rw [← needs_all];simp only [gd]
theorem reach_eq : ∀ (fuel d:Nat),Region.reachB md ops i fuel d=reachT (rtab md ops).2 i fuel d
  | 0,_=>rfl
  | fuel+1,d=>by
    unfold Region.reachB reachT;cases h:ops[d]? with
    | none=>rw [rtab_none h]
    | some o =>
      rw [rtab_some h];simp only;rw [← needs_any]
      congr 1
      funext e
      rw [reach_eq fuel]
theorem last_eq : Region.lastB md ops l ds i=lastT (rtab md ops).2 l.toList ds i:=by
  unfold Region.lastB lastT;rw [rtab_length]
  congr 1
  funext d
  rw [gd,reach_eq]
theorem readyAt_mem (h : readyAt T.2 l.toList i=true) (hT:rtab md ops=T):(Region.ready md ops l).contains i=true:=by
  subst hT;rw [ready_eq];unfold readyT;rw [List.contains_iff_mem,List.mem_filter,List.mem_range];refine ⟨?_,h⟩;unfold readyAt at h
  rw [Bool.and_eq_true] at h
  cases hq:(rtab md ops).2[i]? with
  | none=>rw [hq] at h;simp at h
  | some r=>exact (List.getElem?_eq_some_iff.1 hq).1
theorem set_of (h : (l.toList.set i true == l'.toList)=true):(l.setIfInBounds i true == l')=true:=by
  rw [beq_iff_eq] at h ⊢
  apply Array.ext';rw [Array.toList_setIfInBounds];exact h
def anyT (T : Bool × List (List Nat × List Nat)) (l l':List Bool) (i:Nat):Bool:=T.1 && freeT T.2 l i && readyAt T.2 l i && (l.set i true == l')
theorem j2q (hT : rtab md ops=T) (h:anyT T l.toList l'.toList i=true):anyB md ops l l' i=true:=by
  simp only [anyT,Bool.and_eq_true] at h
  obtain ⟨⟨⟨h1,h2⟩,h3⟩,h4⟩:=h;have h5:=readyAt_mem h3 hT;have h6:=set_of h4;subst hT;simp only [anyB,Bool.and_eq_true];exact ⟨⟨⟨h1,by rw [free_eq];exact h2⟩,h5⟩,h6⟩
def takeT (T : Bool × List (List Nat × List Nat)) (ds:List Nat) (l l':List Bool) (i:Nat):Bool:=T.1 && freeT T.2 l i && readyAt T.2 l i && closedT T.2 l && lastT T.2 l ds i && (l.set i true == l')
theorem take_of (hT : rtab md ops=T) (h:takeT T ds l.toList l'.toList i=true):takeB md ops ds l l' i=true:=by
  simp only [takeT,Bool.and_eq_true] at h
  obtain ⟨⟨⟨⟨⟨h1,h2⟩,h3⟩,h4⟩,h5⟩,h6⟩:=h;have h7:=readyAt_mem h3 hT;have h8:=set_of h6;subst hT;simp only [takeB,Bool.and_eq_true];exact ⟨⟨⟨⟨⟨h1,by rw [free_eq];exact h2⟩,h7⟩,by rw [closed_eq];exact h4⟩,by rw [last_eq];exact h5⟩,h8⟩
theorem one_of (hT : rtab md ops=T) (h:(readyT T.2 l.toList == [i] && l.toList.set i true == l'.toList)=true):readyB md ops l l' i=true:=by
  simp only [Bool.and_eq_true] at h
  obtain ⟨h1,h2⟩:=h;subst hT;simp only [readyB,Bool.and_eq_true];exact ⟨by rw [ready_eq];exact h1,set_of h2⟩
theorem done_of (hT : rtab md ops=T) (h:(readyT T.2 l.toList == [])=true):(Region.ready md ops l == [])=true:=by
  subst hT;rw [ready_eq];exact h
def upM (B : List Nat) (d:Nat):List Nat→Nat
  | []=>0
  | n :: r=>(2 ^ n ||| (if n<d then B.getD n 0 else 0)) ||| upM B d r
def waitsOk (T : List (List Nat × List Nat)) (B:List Nat):Bool:=(List.range T.length).all fun d=>match T[d]? with
  | some r=>(B.getD d 0 ||| upM B d r.1) == upM B d r.1
  | none=>false
theorem upM_bit {B : List Nat} {d i:Nat}:∀ {ns:List Nat},(upM B d ns).testBit i=true→∃ n ∈ ns,n=i∨(n<d∧(B.getD n 0).testBit i=true)
  | [],h=>by simp [upM] at h
  | n :: r,h=>by
    unfold upM at h
    rw [Nat.testBit_or,Nat.testBit_or,Bool.or_eq_true,Bool.or_eq_true] at h
    rcases h with (h|h)|h
    · rw [Nat.testBit_two_pow] at h
      exact ⟨n,List.mem_cons_self, .inl (by simpa using h)⟩
    · by_cases hn:n<d
      · rw [if_pos hn] at h
        exact ⟨n,List.mem_cons_self, .inr ⟨hn,h⟩⟩
      · rw [if_neg hn] at h
        simp at h
    · obtain ⟨m,hm,h2⟩:=upM_bit h
      exact ⟨m,List.mem_cons_of_mem _ hm,h2⟩
theorem reach_bit {T : List (List Nat × List Nat)} {B:List Nat} (hB:waitsOk T B=true):∀ (fuel d:Nat),d<fuel→d<T.length→(B.getD d 0).testBit i=true→reachT T i fuel d=true
  | 0,d,h,_,_=>by omega
  | fuel+1,d,h,hd,hb=>by
    have h1:=List.all_eq_true.1 hB d (List.mem_range.2 hd);cases hr:T[d]? with
    | none=>rw [hr] at h1;simp at h1
    | some r =>
      rw [hr] at h1;simp only [beq_iff_eq] at h1;have h2:(upM B d r.1).testBit i=true:=by rw [← h1,Nat.testBit_or,hb,Bool.true_or]
      obtain ⟨n,hn,h3⟩:=upM_bit h2;unfold reachT;rw [hr];simp only;rw [List.any_eq_true];refine ⟨n,hn,?_⟩;rcases h3 with rfl|⟨h4,h5⟩
      · simp
      · rw [reach_bit hB fuel n (by omega) (by omega) h5,Bool.or_true]
def lastW (T : List (List Nat × List Nat)) (B:List Nat) (l:List Bool) (ds:List Nat) (i:Nat):Bool:=ds.all fun d=>l.getD d true || (decide (d<T.length) && (B.getD d 0).testBit i)
def takeW (T : Bool × List (List Nat × List Nat)) (B:List Nat) (ds:List Nat) (l l':List Bool) (i:Nat):Bool:=T.1 && freeT T.2 l i && readyAt T.2 l i && closedT T.2 l && lastW T.2 B l ds i && (l.set i true == l')
theorem j3j {B : List Nat} (hT:rtab md ops=T) (hB:waitsOk T.2 B=true) (h:takeW T B ds l.toList l'.toList i=true):takeB md ops ds l l' i=true:=by
  refine take_of hT ?_;simp only [takeW,takeT,Bool.and_eq_true] at h ⊢
  obtain ⟨⟨⟨⟨⟨h1,h2⟩,h3⟩,h4⟩,h5⟩,h6⟩:=h;refine ⟨⟨⟨⟨⟨h1,h2⟩,h3⟩,h4⟩,?_⟩,h6⟩;unfold lastW at h5;unfold lastT;rw [List.all_eq_true] at h5 ⊢;intro d hd;have h7:=h5 d hd;rw [Bool.or_eq_true,Bool.and_eq_true,decide_eq_true_eq] at h7;rcases h7 with h7|⟨h8,h9⟩
  · rw [h7,Bool.true_or]
  · rw [reach_bit hB _ d h8 h8 h9,Bool.or_true]
theorem with_tabW {P : Program} {Q:Exit→Act→World→Prop} {S:World→Prop} {n:Nat} {a:Act} {w:World} {B:List Nat} (hT:rtab md ops=T) (hB:waitsOk T.2 B=true) (h:Aside0 (rtab md ops=T)→Aside0 (waitsOk T.2 B=true)→wpAnyLast P md ops Q S ds n l a w):wpAnyLast P md ops Q S ds n l a w:=h ⟨hT⟩ ⟨hB⟩
end
def opsIn : Code → Nat→Option (Array Oper)
  | .region id ops _,k=>if id == k then some ops else none
  | .seq a b,k=>match opsIn a k with
    | some o=>some o
    | none=>opsIn b k
  | .cond _ a b,k=>match opsIn a k with
    | some o=>some o
    | none=>opsIn b k
  | .block _ c,k=>opsIn c k
  | .loop c,k=>opsIn c k
  | .scope c,k=>opsIn c k
  | .rangeFunc _ _ a b,k=>match opsIn a k with
    | some o=>some o
    | none=>opsIn b k
  | _,_=>none
def opsOf (f : Func) (k:Nat):Array Oper:=((f.body.bind fun c=>opsIn c k)).getD #[]
end Go.Proofs.YthmjfmpgmcgonaaDoorW.PrintLast
end
section
namespace Go.Proofs.YthmjfmpgmcgonaaDoorW.PrintWords
theorem Reps.one {α : Type} {R:α→List Value→Prop} {ps:List α} {cs:List Value} {p:α} {v:Value} (hp:R p [v]) (h:Reps R 1 ps cs):Reps R 1 (p :: ps) (v :: cs):=by
  refine ⟨by simp [h.1],fun j q hq=>?_⟩;cases j with
  | zero =>
    simp only [List.getElem?_cons_zero,Option.some.injEq] at hq;subst hq
    simpa using hp
  | succ j =>
    simp only [List.getElem?_cons_succ] at hq;have h1:=h.2 j q hq
    simpa [Nat.mul_one] using h1
theorem Reps.front {α : Type} {R:α→List Value→Prop} {size:Nat} {ps:List α} {cs c all:List Value} {p:α} (hp:R p c) (hc:c.length=size) (h:Reps R size ps cs) (ha:c++cs=all):Reps R size (p :: ps) all:=by
  subst ha;refine ⟨by rw [List.length_append,hc,h.1,List.length_cons,Nat.succ_mul,Nat.add_comm],fun j q hq=>?_⟩;cases j with
  | zero =>
    simp only [List.getElem?_cons_zero,Option.some.injEq] at hq;subst hq;rw [Nat.zero_mul,List.drop_zero,List.take_append_of_le_length (by omega),List.take_of_length_le (by omega)];exact hp
  | succ j =>
    simp only [List.getElem?_cons_succ] at hq;have h1:=h.2 j q hq;rw [Nat.succ_mul,List.drop_append,List.drop_of_length_le (by rw [hc];exact Nat.le_add_left _ _),List.nil_append,hc,Nat.add_sub_cancel];exact h1
theorem Reps.c2 {α : Type} {R:α→List Value→Prop} {ps:List α} {cs:List Value} {p:α} {va vb:Value} (hp:R p [va,vb]) (h:Reps R 2 ps cs):Reps R 2 (p :: ps) (va :: vb :: cs):=Reps.front hp rfl h rfl
theorem Reps.c3 {α : Type} {R:α→List Value→Prop} {ps:List α} {cs:List Value} {p:α} {va vb vc:Value} (hp:R p [va,vb,vc]) (h:Reps R 3 ps cs):Reps R 3 (p :: ps) (va :: vb :: vc :: cs):=Reps.front hp rfl h rfl
theorem Reps.c4 {α : Type} {R:α→List Value→Prop} {ps:List α} {cs:List Value} {p:α} {va vb vc vd:Value} (hp:R p [va,vb,vc,vd]) (h:Reps R 4 ps cs):Reps R 4 (p :: ps) (va :: vb :: vc :: vd :: cs):=Reps.front hp rfl h rfl
theorem Reps.c5 {α : Type} {R:α→List Value→Prop} {ps:List α} {cs:List Value} {p:α} {va vb vc vd ve:Value} (hp:R p [va,vb,vc,vd,ve]) (h:Reps R 5 ps cs):Reps R 5 (p :: ps) (va :: vb :: vc :: vd :: ve :: cs):=Reps.front hp rfl h rfl
theorem Reps.c6 {α : Type} {R:α→List Value→Prop} {ps:List α} {cs:List Value} {p:α} {va vb vc vd ve vf:Value} (hp:R p [va,vb,vc,vd,ve,vf]) (h:Reps R 6 ps cs):Reps R 6 (p :: ps) (va :: vb :: vc :: vd :: ve :: vf :: cs):=Reps.front hp rfl h rfl
theorem Reps.c7 {α : Type} {R:α→List Value→Prop} {ps:List α} {cs:List Value} {p:α} {va vb vc vd ve vf vg:Value} (hp:R p [va,vb,vc,vd,ve,vf,vg]) (h:Reps R 7 ps cs):Reps R 7 (p :: ps) (va :: vb :: vc :: vd :: ve :: vf :: vg :: cs):=Reps.front hp rfl h rfl
theorem Reps.c8 {α : Type} {R:α→List Value→Prop} {ps:List α} {cs:List Value} {p:α} {va vb vc vd ve vf vg vh:Value} (hp:R p [va,vb,vc,vd,ve,vf,vg,vh]) (h:Reps R 8 ps cs):Reps R 8 (p :: ps) (va :: vb :: vc :: vd :: ve :: vf :: vg :: vh :: cs):=Reps.front hp rfl h rfl
theorem Reps.c9 {α : Type} {R:α→List Value→Prop} {ps:List α} {cs:List Value} {p:α} {va vb vc vd ve vf vg vh vi:Value} (hp:R p [va,vb,vc,vd,ve,vf,vg,vh,vi]) (h:Reps R 9 ps cs):Reps R 9 (p :: ps) (va :: vb :: vc :: vd :: ve :: vf :: vg :: vh :: vi :: cs):=Reps.front hp rfl h rfl
theorem Reps.c10 {α : Type} {R:α→List Value→Prop} {ps:List α} {cs:List Value} {p:α} {va vb vc vd ve vf vg vh vi vj:Value} (hp:R p [va,vb,vc,vd,ve,vf,vg,vh,vi,vj]) (h:Reps R 10 ps cs):Reps R 10 (p :: ps) (va :: vb :: vc :: vd :: ve :: vf :: vg :: vh :: vi :: vj :: cs):=Reps.front hp rfl h rfl
end Go.Proofs.YthmjfmpgmcgonaaDoorW.PrintWords
end
section
namespace Go.Proofs.YthmjfmpgmcgonaaDoorW.PrintLast
def up (b : Nat→Bool) (i:Nat):Nat→Bool:=fun j=>if j=i then true else b j
section
variable {P : Program} {ops:Array Oper} {Q:Exit→Act→World→Prop} {md:Region.Mode} {T:Bool × List (List Nat × List Nat)} {B:List Nat} {O:List Nat} {b:Nat→Bool} {i j n:Nat}
end
end Go.Proofs.YthmjfmpgmcgonaaDoorW.PrintLast
end
section
namespace Go.Proofs.YthmjfmpgmcgonaaDoorW.PrintWords
open Go.RowKit
section
variable {P : Program} {ops:Array Oper} {rest:List Oper} {o:Oper} {a:Act} {Q:Exit→Act→World→Prop} {W:World}
theorem j4l (hw : Region.wanted o (yielded ops a.tmps)=true) (h:wpList P ops Q ({ o with guard:=none } :: rest) a W):wpList P ops Q (o :: rest) a W:=by
  have h1:Region.wanted { o with guard:=none } (yielded ops a.tmps)=true:=rfl;unfold wpList at h ⊢
  rw [if_pos h1] at h
  rw [if_pos hw];exact h
end
end Go.Proofs.YthmjfmpgmcgonaaDoorW.PrintWords
end
namespace Go.Proofs.YthmjfmpgmcgonaaDoor
open Go.Proofs.YthmjfmpgmcgonaaDoorW.PrintWords
theorem mk0 {p : Prop} (h : p) : Aside0 p := ⟨h⟩
theorem zq0 {P : Prop} (h : P := by repeat (first | (with_reducible first | exact HI0.out | apply IsS89.alloc | apply IsS89.drewN | apply IsS89.drew | apply IsS89.set_0 | apply IsS89.set_1) | exact HI0.out)) : P := h
theorem zq1 {P : Prop} (h : P := by (try simp only [List.map_toArray, List.map_cons, List.map_nil]); first | done | rfl | (simp only [List.length_drop, List.length_take]; rfl)) : P := h
theorem zq2 {P : Prop} (h : P := by repeat (first | (with_reducible first | exact HK.out | apply KeepBut.set_ | apply j2k | apply j2o | apply j2j) | exact HK.out)) : P := h
theorem zq3 {P : Prop} (h : P := by repeat (first | (with_reducible first | exact HB.out | apply j1f | apply j1d | apply j1h | refine j1s ?_ (IsS89.ge HI0.out)) | exact HB.out)) : P := h
theorem zq4 {P : Prop} (h : P := by repeat (first | (with_reducible first | exact HB.out | apply j1f | apply j1d | apply j1h) | exact HB.out)) : P := h
theorem zq5 {P : Prop} (h : P := by repeat (first | (with_reducible first | exact HB.out | apply j1f | apply j1d | apply j1h | refine j1s ?_ GE101.out) | exact HB.out)) : P := h
theorem zq6 {P : Prop} (h : P := by (with_reducible repeat (first | refine j1e ?_ _ | refine j1k ?_ | refine j1c ?_ _)); exact BK101.out) : P := h
theorem zq7 {P : Prop} (h : P := by kernel_rfl) : P := h
theorem zq8 {P : Prop} (h : P := by repeat (first | (with_reducible first | exact HI0.out | apply IsS89.alloc | apply IsS89.drewN | apply IsS89.drew | apply IsS89.set_0 | apply IsS89.set_1 | refine IsS89.far ?_ NB0_169.out _) | exact HI0.out)) : P := h
theorem zq9 {P : Prop} (h : P := by (with_reducible repeat (first | refine j1e ?_ _ | refine j1k ?_ | refine j1c ?_ _)); refine j2c (cs := #[.int .i64 0, .int .i64 s0_1, .int .i64 0, .slice none 0 0, .slice none 0 0]) ?_ 4 _ rfl; (with_reducible repeat (first | refine j1e ?_ _ | refine j1k ?_ | refine j1c ?_ _)); refine j2c (cs := #[.int .i64 0, .int .i64 s0_1, .int .i64 0, .slice none 0 0, .slice none 0 0]) ?_ 3 _ rfl; (with_reducible repeat (first | refine j1e ?_ _ | refine j1k ?_ | refine j1c ?_ _)); refine j2c (cs := #[.int .i64 0, .int .i64 s0_1, .int .i64 0, .slice none 0 0, .slice none 0 0]) ?_ 2 _ rfl; (with_reducible repeat (first | refine j1e ?_ _ | refine j1k ?_ | refine j1c ?_ _)); refine j2c (cs := #[.int .i64 0, .int .i64 0, .int .i64 0, .slice none 0 0, .slice none 0 0]) ?_ 1 _ rfl; (with_reducible repeat (first | refine j1e ?_ _ | refine j1k ?_ | refine j1c ?_ _)); refine j2c (cs := #[.int .i64 0, .int .i64 0, .int .i64 0, .slice none 0 0, .slice none 0 0]) ?_ 0 _ rfl; (with_reducible repeat (first | refine j1e ?_ _ | refine j1k ?_ | refine j1c ?_ _)); exact BK102.out) : P := h
theorem zq10 {P : Prop} (h : P := by (with_reducible repeat (first | refine j1e ?_ _ | refine j1k ?_ | refine j1c ?_ _)); refine j2c (cs := #[.int .i64 0, .int .i64 0, .int .i64 0, .slice none 0 0, .slice none 0 0]) ?_ 4 _ rfl; (with_reducible repeat (first | refine j1e ?_ _ | refine j1k ?_ | refine j1c ?_ _)); refine j2c (cs := #[.int .i64 0, .int .i64 0, .int .i64 0, .slice none 0 0, .slice none 0 0]) ?_ 3 _ rfl; (with_reducible repeat (first | refine j1e ?_ _ | refine j1k ?_ | refine j1c ?_ _)); refine j2c (cs := #[.int .i64 0, .int .i64 0, .int .i64 0, .slice none 0 0, .slice none 0 0]) ?_ 2 _ rfl; (with_reducible repeat (first | refine j1e ?_ _ | refine j1k ?_ | refine j1c ?_ _)); refine j2c (cs := #[.int .i64 0, .int .i64 0, .int .i64 0, .slice none 0 0, .slice none 0 0]) ?_ 1 _ rfl; (with_reducible repeat (first | refine j1e ?_ _ | refine j1k ?_ | refine j1c ?_ _)); refine j2c (cs := #[.int .i64 0, .int .i64 0, .int .i64 0, .slice none 0 0, .slice none 0 0]) ?_ 0 _ rfl; (with_reducible repeat (first | refine j1e ?_ _ | refine j1k ?_ | refine j1c ?_ _)); exact BK102.out) : P := h
theorem zq11 {P : Prop} (h : P := by repeat (first | (with_reducible first | exact HK.out | apply KeepBut.set_ | apply j2k | apply j2o | apply j2j | refine j3q ?_ GW101.out _ | refine j3q ?_ GW102.out _) | exact HK.out)) : P := h
theorem zq12 {P : Prop} (h : P := by repeat (first | (with_reducible first | exact HI0.out | apply IsS89.alloc | apply IsS89.drewN | apply IsS89.drew | apply IsS89.set_0 | apply IsS89.set_1 | refine IsS89.far ?_ NB0_101.out _ | refine IsS89.far ?_ NB0_102.out _) | exact HI0.out)) : P := h
theorem zq13 {P : Prop} (h : P := by repeat (first | (with_reducible first | exact HB.out | apply j1f | apply j1d | apply j1h | refine j1s ?_ (IsS89.ge HI0.out) | refine j1s ?_ GE101.out | refine j1s ?_ GE102.out) | exact HB.out)) : P := h
theorem zq14 {P : Prop} (h : P := by repeat (first | (with_reducible first | exact HI0.out | apply IsS89.alloc | apply IsS89.drewN | apply IsS89.drew | apply IsS89.set_0 | apply IsS89.set_1 | refine IsS89.far ?_ NB0_200.out _) | exact HI0.out)) : P := h
theorem zq15 {P : Prop} (h : P := by (with_reducible repeat (first | refine j1e ?_ _ | refine j1k ?_ | refine j1c ?_ _)); refine j3h ?_ NB101_102.out _; (with_reducible repeat (first | refine j1e ?_ _ | refine j1k ?_ | refine j1c ?_ _)); refine j3h ?_ NB101_102.out _; (with_reducible repeat (first | refine j1e ?_ _ | refine j1k ?_ | refine j1c ?_ _)); refine j3h ?_ NB101_102.out _; (with_reducible repeat (first | refine j1e ?_ _ | refine j1k ?_ | refine j1c ?_ _)); refine j3h ?_ NB101_102.out _; (with_reducible repeat (first | refine j1e ?_ _ | refine j1k ?_ | refine j1c ?_ _)); refine j3h ?_ NB101_102.out _; (with_reducible repeat (first | refine j1e ?_ _ | refine j1k ?_ | refine j1c ?_ _)); exact BK101.out) : P := h
theorem zq16 {P : Prop} (h : P := by (with_reducible repeat (first | apply Kd.R_alloc | apply Kd.R_drewN | apply Kd.R_drew)); exact HO149.out) : P := h
theorem zq17 {P : Prop} (h : P := by (with_reducible assumption)) : P := h
theorem zq18 {P : Prop} (h : P := by (with_reducible repeat (first | refine j1e ?_ _ | refine j1k ?_ | refine j1c ?_ _)); refine j2c (cs := #[.int .i64 0, .int .i64 s0_1, .int .i64 0, .slice none 0 0, .slice none 0 0]) ?_ 0 _ rfl; (with_reducible repeat (first | refine j1e ?_ _ | refine j1k ?_ | refine j1c ?_ _)); exact BK102.out) : P := h
theorem zq19 {P : Prop} (h : P := by simp only [List.map_toArray, List.map_cons, List.map_nil]; rfl) : P := h
theorem zq20 {P : Prop} (h : P := by repeat (first | (with_reducible first | exact HB.out | apply j1f | apply j1d | apply j1h | refine j1s ?_ (IsS89.ge HI0.out) | refine j1s ?_ GE169.out) | exact HB.out)) : P := h
theorem zq21 {P : Prop} (h : P := by repeat (first | (with_reducible first | exact HB.out | apply j1f | apply j1d | apply j1h | refine j1s ?_ (IsS89.ge HI0.out) | refine j1s ?_ GE200.out) | exact HB.out)) : P := h
theorem zq22 {P : Prop} (h : P := by repeat (first | (with_reducible first | exact HK.out | apply KeepBut.set_ | apply j2k | apply j2o | apply j2j | refine j3q ?_ GW169.out _) | exact HK.out)) : P := h
theorem zq23 {P : Prop} (h : P := by repeat (first | (with_reducible first | exact HK.out | apply KeepBut.set_ | apply j2k | apply j2o | apply j2j | refine j3q ?_ GW200.out _) | exact HK.out)) : P := h
theorem zq24 {P : Prop} (h : P := by (with_reducible repeat (first | apply Kd.R_alloc | apply Kd.R_drewN | apply Kd.R_drew)); exact HO_6.out) : P := h
theorem zq25 {P : Prop} (h : P := by repeat (first | (with_reducible first | exact HB.out | apply j1f | apply j1d | apply j1h | refine j1s ?_ GE112.out) | exact HB.out)) : P := h
theorem zq26 {P : Prop} (h : P := by first | (with_reducible assumption) | assumption) : P := h
theorem zq27 {P : Prop} (h : P := by (with_reducible repeat (first | refine j1e ?_ _ | refine j1k ?_ | refine j1c ?_ _)); refine j3h ?_ NB101_102.out _; (with_reducible repeat (first | refine j1e ?_ _ | refine j1k ?_ | refine j1c ?_ _)); exact BK101.out) : P := h
theorem zq28 {P : Prop} (h : P := by first | (go_simp; done) | (go_simp; rfl)) : P := h
theorem zq29 {P : Prop} (h : P := by (with_reducible repeat (first | refine j1e ?_ _ | refine j1k ?_ | refine j1c ?_ _)); exact BK112.out) : P := h
theorem zq30 {P : Prop} (h : P := by repeat (first | (with_reducible first | exact HK.out | apply Kept.alloc | apply Kept.drewN | apply Kept.drew) | exact HK.out)) : P := h
theorem zq31 {P : Prop} (h : P := by (with_reducible repeat (first | refine j1e ?_ _ | refine j1k ?_ | refine j1c ?_ _)); exact BK102.out) : P := h
theorem zq32 {P : Prop} (h : P := by (with_reducible repeat (first | apply Kd.V_alloc | apply Kd.V_drewN | apply Kd.V_drew)); exact HO_102003.out) : P := h
theorem zq33 {P : Prop} (h : P := by (with_reducible repeat (first | apply Kd.V_alloc | apply Kd.V_drewN | apply Kd.V_drew)); exact HO_102004.out) : P := h
theorem zq34 {P : Prop} (h : P := by (with_reducible repeat (first | apply Kd.V_alloc | apply Kd.V_drewN | apply Kd.V_drew)); exact HO1_4.out) : P := h
theorem zq35 {P : Prop} (h : P := by (with_reducible repeat (first | apply Kd.R_alloc | apply Kd.R_drewN | apply Kd.R_drew)); exact HO_0.out) : P := h
theorem zq36 {P : Prop} (h : P := by (with_reducible repeat (first | refine j1e ?_ _ | refine j1k ?_ | refine j1c ?_ _)); exact BK169.out) : P := h
theorem zq37 {P : Prop} (h : P := by (with_reducible repeat (first | refine j1e ?_ _ | refine j1k ?_ | refine j1c ?_ _)); exact BK200.out) : P := h
theorem zq38 {P : Prop} (h : P := by repeat (first | (with_reducible first | exact HB.out | apply j1f | apply j1d | apply j1h | refine j1s ?_ GE101.out | refine j1s ?_ GE102.out) | exact HB.out)) : P := h
theorem zq39 {P : Prop} (h : P := by (try simp only [List.map_toArray, List.map_cons, List.map_nil]); first | done | (rw [show (l0.drop 6).length = (l0.length - 6) from List.length_drop] <;> rfl) | rfl | (simp only [List.length_drop, List.length_take]; rfl)) : P := h
theorem zq40 {P : Prop} (h : P := by rw [hg]; exact (j2p zq4)) : P := h
theorem zq41 {P : Prop} (h : P := by first | rfl | (simp; done) | (simp [*]; done)) : P := h
theorem zq42 {P : Prop} (h : P := by rw [hg]; exact (j3s (w := w) (g := g) (row := none) zq2)) : P := h
theorem zq43 {P : Prop} (h : P := by (with_reducible repeat (first | apply Kd.V_alloc | apply Kd.V_drewN | apply Kd.V_drew)); exact HO_113003.out) : P := h
theorem zq44 {P : Prop} (h : P := by (with_reducible repeat (first | apply Kd.V_alloc | apply Kd.V_drewN | apply Kd.V_drew)); exact HO_113004.out) : P := h
theorem zq45 {P : Prop} (h : P := by repeat (first | exact (Kd.V_reads' HO_102003.out).2.2 | (with_reducible refine Kd.C_alloc ?_ _) | (with_reducible refine Kd.C_drewN ?_ _) | (with_reducible refine Kd.C_drew ?_))) : P := h
theorem zq46 {P : Prop} (h : P := by (with_reducible repeat (first | apply Kd.R_alloc | apply Kd.R_drewN | apply Kd.R_drew)); exact HO172.out) : P := h
theorem zq47 {P : Prop} (h : P := by (with_reducible repeat (first | apply Kd.R_alloc | apply Kd.R_drewN | apply Kd.R_drew)); exact HO203.out) : P := h
theorem zq48 {P : Prop} (h : P := by first | rfl | go_num) : P := h
theorem zq49 {P : Prop} (h : P := by (with_reducible repeat (first | apply Kd.R_alloc | apply Kd.R_drewN | apply Kd.R_drew)); exact HO_4.out) : P := h
theorem zq50 {P : Prop} (h : P := by decide) : P := h
theorem zq51 {P : Prop} (h : P := by rw [hg]; exact (j2p zq5)) : P := h
theorem zq52 {P : Prop} (h : P := by repeat (first | exact HR106.out | (with_reducible refine Kd.C_alloc ?_ _) | (with_reducible refine Kd.C_drewN ?_ _) | (with_reducible refine Kd.C_drew ?_))) : P := h
theorem zq53 {P : Prop} (h : P := by repeat (first | exact HR0.out | (with_reducible refine Kd.C_alloc ?_ _) | (with_reducible refine Kd.C_drewN ?_ _) | (with_reducible refine Kd.C_drew ?_))) : P := h
theorem zq54 {P : Prop} (h : P := by first | go_num | (congr 1; omega)) : P := h
theorem zq55 {P : Prop} (h : P := by simp only [Nat.reducePow]; omega) : P := h
theorem zq56 {P : Prop} (h : P := by repeat (first | (with_reducible first | exact HI0.out | apply IsS89.alloc | apply IsS89.drewN | apply IsS89.drew | apply IsS89.set_0 | apply IsS89.set_1 | refine IsS89.far ?_ NB0_101.out _) | exact HI0.out)) : P := h
theorem zq57 {P : Prop} (h : P := by (with_reducible repeat (first | apply Kd.R_alloc | apply Kd.R_drewN | apply Kd.R_drew)); exact HO_48.out) : P := h
theorem zq58 {P : Prop} (h : P := by repeat (first | (with_reducible first | exact HB.out | apply j1f | apply j1d | apply j1h | refine j1s ?_ GE112.out | refine j1s ?_ GE118.out) | exact HB.out)) : P := h
theorem zq59 {P : Prop} (h : P := by rw [hg]; exact Nat.ne_of_lt (j3p (g := gb101) (o := .cells #[.int .i64 a1_0, .int .i64 a1_1, .int .i64 a1_2, .slice A1_3 l1_3.length c1_3, .slice A1_4 l1_4.length c1_4] 27 (0, 0)) zq6)) : P := h
theorem zq60 {P : Prop} (h : P := by rw [hg]; exact Nat.ne_of_gt (j3p (g := gb101) (o := .cells #[.int .i64 a1_0, .int .i64 a1_1, .int .i64 a1_2, .slice A1_3 l1_3.length c1_3, .slice A1_4 l1_4.length c1_4] 27 (0, 0)) zq6)) : P := h
theorem zq61 {P : Prop} (h : P := by repeat (first | (with_reducible first | exact HK.out | apply KeepBut.set_ | apply j2k | apply j2o | apply j2j | refine j3q ?_ GW101.out _) | exact HK.out)) : P := h
theorem zq62 {P : Prop} (h : P := by repeat (first | exact (Kd.C_below HR1.out HB.out) | (with_reducible refine Kd.C_alloc ?_ _) | (with_reducible refine Kd.C_drewN ?_ _) | (with_reducible refine Kd.C_drew ?_))) : P := h
theorem zq63 {P : Prop} (h : P := by (with_reducible repeat (first | apply Kd.R_alloc | apply Kd.R_drewN | apply Kd.R_drew)); exact HO_5.out) : P := h
theorem zq64 {P : Prop} (h : P := by (with_reducible repeat (first | apply Kd.R_alloc | apply Kd.R_drewN | apply Kd.R_drew)); exact HO0.out) : P := h
theorem zq65 {P : Prop} (h : P := by simp [Value.oneCell']) : P := h
theorem zq66 {P : Prop} (h : P := by simp only [List.length_cons]; omega) : P := h
theorem zq67 {P : Prop} (h : P := by (try simp only [List.map_toArray, List.map_cons, List.map_nil]); first | done | rfl) : P := h
theorem zq68 {P : Prop} (h : P := by (with_reducible repeat (first | refine j1e ?_ _ | refine j1k ?_ | refine j1c ?_ _)); exact BK118.out) : P := h
theorem zq69 {P : Prop} (h : P := by rw [hg]; exact Nat.ne_of_lt (j3p (g := gb101) (o := .cells #[.int .i64 x102000_1, .int .i64 x102001_1, .int .i64 x102002_1, .slice Ao52 x102003_1.length co52, .slice Ao53 x102004_1.length co53] 27 (0, 0)) zq6)) : P := h
theorem zq70 {P : Prop} (h : P := by rw [hg]; exact Nat.ne_of_gt (j3p (g := gb101) (o := .cells #[.int .i64 x102000_1, .int .i64 x102001_1, .int .i64 x102002_1, .slice Ao52 x102003_1.length co52, .slice Ao53 x102004_1.length co53] 27 (0, 0)) zq6)) : P := h
theorem zq71 {P : Prop} (h : P := by rw [hg]; exact Nat.ne_of_lt (j3p (g := gb101) (o := .cells #[.int .i64 x102000_1, .int .i64 x102001_1, .int .i64 x102002_1, .slice Ao27 x102003_1.length co27, .slice Ao32 x102004_1.length co32] 27 (0, 0)) zq6)) : P := h
theorem zq72 {P : Prop} (h : P := by rw [hg]; exact Nat.ne_of_gt (j3p (g := gb101) (o := .cells #[.int .i64 x102000_1, .int .i64 x102001_1, .int .i64 x102002_1, .slice Ao27 x102003_1.length co27, .slice Ao32 x102004_1.length co32] 27 (0, 0)) zq6)) : P := h
theorem zq73 {P : Prop} (h : P := by repeat (first | (with_reducible exact HR122_3.out) | (with_reducible refine Kd.C_alloc ?_ _) | (with_reducible refine Kd.C_drewN ?_ _) | (with_reducible refine Kd.C_drew ?_) | exact HR122_3.out)) : P := h
theorem zq74 {P : Prop} (h : P := by repeat (first | (with_reducible exact HR122_4.out) | (with_reducible refine Kd.C_alloc ?_ _) | (with_reducible refine Kd.C_drewN ?_ _) | (with_reducible refine Kd.C_drew ?_) | exact HR122_4.out)) : P := h
theorem zq75 {P : Prop} (h : P := by rw [hg]; exact Nat.ne_of_lt (j3p (g := gb112) (o := .cells #[.int .i64 t102, .int .i64 t103, .int .i64 t104, .slice Ao12 t105.length co12, .slice Ao13 t108.length co13] 27 (0, 0)) zq29)) : P := h
theorem zq76 {P : Prop} (h : P := by rw [hg]; exact Nat.ne_of_gt (j3p (g := gb112) (o := .cells #[.int .i64 t102, .int .i64 t103, .int .i64 t104, .slice Ao12 t105.length co12, .slice Ao13 t108.length co13] 27 (0, 0)) zq29)) : P := h
theorem zq77 {P : Prop} (h : P := by first | exact K5.out.below | exact j1d K5.out.below _) : P := h
theorem zq78 {P : Prop} (h : P := by repeat (first | exact j1o HB0.out HB3.out | apply j1d | apply j1h)) : P := h
theorem zq79 {P : Prop} (h : P := by repeat (first | exact (Kd.C_below HR1_3.out HB.out) | (with_reducible refine Kd.C_alloc ?_ _) | (with_reducible refine Kd.C_drewN ?_ _) | (with_reducible refine Kd.C_drew ?_))) : P := h
theorem zq80 {P : Prop} (h : P := by repeat (first | exact (Kd.V_reads' HO1_4.out).2.2 | (with_reducible refine Kd.C_alloc ?_ _) | (with_reducible refine Kd.C_drewN ?_ _) | (with_reducible refine Kd.C_drew ?_))) : P := h
theorem zq81 {P : Prop} (h : P := by rw [List.length_take]; omega) : P := h
theorem zq82 {P : Prop} (h : P := by rw [hL]; simp) : P := h
theorem zq83 {P : Prop} (h : P := by have := HB1.out.size; have := HG4.out; omega) : P := h
theorem zq84 {P : Prop} (h : P := by first | rfl | (simp; done)) : P := h
theorem zq85 {P : Prop} (h : P := by simp; omega) : P := h
theorem zq86 {P : Prop} (h : P := by repeat (first | exact HB0.out | apply j1d | apply j1h)) : P := h
theorem zq87 {P : Prop} (h : P := by rw [hg]; exact Nat.ne_of_lt (j3p (g := gb101) (o := .cells #[.string a0_0, .string a0_1, .int .i64 a0_2, .int .i64 a0_3] 31 (0, 0)) zq6)) : P := h
theorem zq88 {P : Prop} (h : P := by rw [hg]; exact Nat.ne_of_gt (j3p (g := gb101) (o := .cells #[.string a0_0, .string a0_1, .int .i64 a0_2, .int .i64 a0_3] 31 (0, 0)) zq6)) : P := h
theorem zq89 {P : Prop} (h : P := by first | exact I4.out | exact Kd.V_drewN I4.out _) : P := h
theorem zq90 {P : Prop} (h : P := by unfold Skp; omega) : P := h
theorem zm {P : Prop} (h : P := by repeat' first|(with_reducible first|apply ih0|apply ih1|apply ih2|apply ih3|apply ih4|apply ih5|apply ih6|apply j2a.mono|apply j1y.mono|apply j2e.mono|apply j1x.mono|apply j1g.mono|apply j1l.mono|apply j1j.mono|apply j1v.mono|apply j3l.mono|apply j1z.mono|apply j2b.mono|apply j3o.mono|apply j2n.mono|apply j2r.mono|apply j1r.mono|apply j1u.mono|apply j3e.mono|apply j2l.mono|apply j2m.mono|exact LeO.refl _|exact LeO.none _|refine LeO.ite ?_ ?_|refine LeO.bind ?_ (fun _=>?_))|apply ih0|apply ih1|apply ih2|apply ih3|apply ih4|apply ih5|apply ih6|apply j2a.mono|apply j1y.mono|apply j2e.mono|apply j1x.mono|apply j1g.mono|apply j1l.mono|apply j1j.mono|apply j1v.mono|apply j3l.mono|apply j1z.mono|apply j2b.mono|apply j3o.mono|apply j2n.mono|apply j2r.mono|apply j1r.mono|apply j1u.mono|apply j3e.mono|apply j2l.mono|apply j2m.mono|exact LeO.none _|refine LeO.ite ?_ ?_|refine LeO.bind ?_ (fun _=>?_)) : P := h
theorem zl0 {P : Prop} (h : P := by simp only [Act.put,List.setIfInBounds_toArray,List.set_cons_zero,List.set_cons_succ,i64_w,i32_w];rfl) : P := h
theorem zl1 {P : Prop} (h : P := by exact ⟨by rfl,by repeat (first|(with_reducible first|exact HI0.out|apply IsS89.alloc|apply IsS89.drewN|apply IsS89.drew|apply IsS89.set_0|apply IsS89.set_1)|exact HI0.out),by repeat (first|(with_reducible first|exact HB.out|apply j1f|apply j1d|apply j1h|refine j1s ?_ (IsS89.ge HI0.out))|exact HB.out),by repeat (first|(with_reducible first|exact HK.out|apply KeepBut.set_|apply j2k|apply j2o|apply j2j)|exact HK.out)⟩) : P := h
theorem zl2 {P : Prop} (h : P := by intro w';go_simp;with_reducible rfl) : P := h
theorem zl3 {P : Prop} (h : P := by exact ⟨_,_,by rfl,by exact Kd.R_nil _ _ _ _ _,by exact Kd.R_nil _ _ _ _ _,by repeat (first|(with_reducible first|exact HI0.out|apply IsS89.alloc|apply IsS89.drewN|apply IsS89.drew|apply IsS89.set_0|apply IsS89.set_1|refine IsS89.far ?_ NB0_101.out _|refine IsS89.far ?_ NB0_102.out _)|exact HI0.out),by repeat (first|(with_reducible first|exact HB.out|apply j1f|apply j1d|apply j1h|refine j1s ?_ (IsS89.ge HI0.out)|refine j1s ?_ GE101.out|refine j1s ?_ GE102.out)|exact HB.out),by repeat (first|(with_reducible first|exact HK.out|apply KeepBut.set_|apply j2k|apply j2o|apply j2j|refine j3q ?_ GW101.out _|refine j3q ?_ GW102.out _)|exact HK.out)⟩) : P := h
theorem zl4 {P : Prop} (h : P := by exact ⟨by first|rfl|(simp;done)|(simp [*];done),by repeat (first|exact Drawn0.refl _|apply Drawn0.step)⟩) : P := h
theorem zl5 {P : Prop} (h : P := by exact ⟨_,_,by rfl,by exact Kd.R_nil _ _ _ _ _,by exact Kd.R_nil _ _ _ _ _,by repeat (first|(with_reducible first|exact HI0.out|apply IsS89.alloc|apply IsS89.drewN|apply IsS89.drew|apply IsS89.set_0|apply IsS89.set_1)|exact HI0.out),by repeat (first|(with_reducible first|exact HB.out|apply j1f|apply j1d|apply j1h|refine j1s ?_ (IsS89.ge HI0.out))|exact HB.out),by repeat (first|(with_reducible first|exact HK.out|apply KeepBut.set_|apply j2k|apply j2o|apply j2j)|exact HK.out)⟩) : P := h
theorem zl6 {P : Prop} (h : P := by exact ⟨_,_,by rfl,by exact Kd.R_nil _ _ _ _ _,by exact Kd.R_nil _ _ _ _ _,by repeat (first|(with_reducible first|exact HI0.out|apply IsS89.alloc|apply IsS89.drewN|apply IsS89.drew|apply IsS89.set_0|apply IsS89.set_1|refine IsS89.far ?_ NB0_169.out _)|exact HI0.out),by repeat (first|(with_reducible first|exact HB.out|apply j1f|apply j1d|apply j1h|refine j1s ?_ (IsS89.ge HI0.out)|refine j1s ?_ GE169.out)|exact HB.out),by repeat (first|(with_reducible first|exact HK.out|apply KeepBut.set_|apply j2k|apply j2o|apply j2j|refine j3q ?_ GW169.out _)|exact HK.out)⟩) : P := h
theorem zl7 {P : Prop} (h : P := by exact ⟨_,by rfl,by exact Kd.R_nil _ _ _ _ _,by repeat (first|(with_reducible first|exact HI0.out|apply IsS89.alloc|apply IsS89.drewN|apply IsS89.drew|apply IsS89.set_0|apply IsS89.set_1|refine IsS89.far ?_ NB0_200.out _)|exact HI0.out),by repeat (first|(with_reducible first|exact HB.out|apply j1f|apply j1d|apply j1h|refine j1s ?_ (IsS89.ge HI0.out)|refine j1s ?_ GE200.out)|exact HB.out),by repeat (first|(with_reducible first|exact HK.out|apply KeepBut.set_|apply j2k|apply j2o|apply j2j|refine j3q ?_ GW200.out _)|exact HK.out)⟩) : P := h
theorem zl8 {P : Prop} (h : P := by exact ⟨by first|rfl|(simp [errW_none,errW_some]<;>rfl)|(simp [*, errW_none,errW_some]<;>rfl),by repeat (first|(with_reducible first|exact HI0.out|apply IsS89.alloc|apply IsS89.drewN|apply IsS89.drew|apply IsS89.set_0|apply IsS89.set_1)|exact HI0.out),by repeat (first|(with_reducible first|exact HB.out|apply j1f|apply j1d|apply j1h|refine j1s ?_ (IsS89.ge HI0.out))|exact HB.out),by repeat (first|(with_reducible first|exact HK.out|apply KeepBut.set_|apply j2k|apply j2o|apply j2j)|exact HK.out)⟩) : P := h
theorem zl9 {P : Prop} (h : P := by exact ⟨by rfl,by repeat (first|(with_reducible first|exact HB.out|apply j1f|apply j1d|apply j1h|refine j1s ?_ GE101.out)|exact HB.out)⟩) : P := h
theorem zl10 {P : Prop} (h : P := by exact ⟨_,_,by rfl,Kd.V_nil _ _ _ _ _,Kd.V_nil _ _ _ _ _,by repeat (first|(with_reducible first|exact HB.out|apply j1f|apply j1d|apply j1h|refine j1s ?_ GE101.out|refine j1s ?_ GE102.out)|exact HB.out)⟩) : P := h
theorem zl11 {P : Prop} (h : P := by rintro w' ⟨s0,s1,s2,s3⟩;go_simp;with_reducible rfl) : P := h
theorem zl12 {P : Prop} (h : P := by rintro w' ⟨s0,s1,s2⟩;go_simp;with_reducible rfl) : P := h
theorem zl13 {P : Prop} (h : P := by rintro w' ⟨s0,s1,s2,s3,s4,s5,s6,s7,s8⟩;go_simp;with_reducible rfl) : P := h
theorem zl14 {P : Prop} (h : P := by exact ⟨te,pe,(j2g hb (Nat.lt_of_lt_of_le (World.block_lt_of_cell? w _ h1) hB)).trans h1⟩) : P := h
theorem zl15 {P : Prop} (h : P := by rintro w' ⟨s0,s1,s2,s3,s4,s5,s6,s7,s8,s9,s10,s11,s12,s13,s14,s15,s16,s17⟩;go_simp;with_reducible rfl) : P := h
theorem zl16 {P : Prop} (h : P := by have hst:=HST.out;rw [h1,if_pos zq50] at hst;have HS:Aside0 (-1=R):=⟨Option.some.inj hst⟩;rw [h1];clear hst h1;go_wp2;go_ret;exact ⟨by rw [← HS.out];rfl,j1o HB1.out HF5.out.1.below⟩) : P := h
theorem zl17 {P : Prop} (h : P := by exact ⟨by rfl,by repeat (first|exact Drawn0.refl _|apply Drawn0.step)⟩) : P := h
theorem zl18 {P : Prop} (h : P := by rintro w' ⟨s0,s1,s2,s3,s4,s5,s6,s7,s8,s9,s10,s11,s12⟩;go_simp;with_reducible rfl) : P := h
theorem zl19 {P : Prop} (h : P := by exact ⟨by rfl,by repeat (first|(with_reducible first|exact HB.out|apply j1f|apply j1d|apply j1h|refine j1s ?_ GE101.out|refine j1s ?_ GE102.out)|exact HB.out)⟩) : P := h
theorem zl20 {P : Prop} (h : P := by exact ⟨by rfl,by repeat (first|(with_reducible first|exact HB.out|apply j1f|apply j1d|apply j1h|refine j1s ?_ GE112.out|refine j1s ?_ GE118.out)|exact HB.out)⟩) : P := h
theorem zl21 {P : Prop} (h : P := by exact Ev.congr (fun _=>if_pos (by omega)) (Ev.congr (fun _=>if_pos (by omega)) (Ev.congr (fun _=>if_pos u1) (Ev.congr (fun _=>if_pos u2) (Ev.congr (fun _=>if_pos u3) (Ev.bind u4 hr)))))) : P := h
theorem zl22 {P : Prop} (h : P := by exact Ev.congr (fun _=>if_neg (by omega)) (Ev.now _)) : P := h
theorem zl23 {P : Prop} (h : P := by rw [if_neg c5] at H;exact absurd H (by simp)) : P := h
theorem zl24 {P : Prop} (h : P := by rw [if_neg c7] at H;exact absurd H (by simp)) : P := h
theorem zl25 {P : Prop} (h : P := by exact GPost.okI HB0.out HG2.out (by omega) (by omega) HI3.out.2 HI3.out.1) : P := h
theorem zl26 {P : Prop} (h : P := by exact GPost.okI (j1o HB0.out HB3.out) HG2.out (by omega) (by omega) HI3.out.2 HI3.out.1) : P := h
theorem zl27 {P : Prop} (h : P := by have:=h.lt;simp only [j2e.l0];rw [up6 hi hs,if_pos (by omega),if_pos (by omega),if_pos (by omega),h.bt,up1 (Nat.le_of_lt h.lt) hs]) : P := h
theorem zl28 {P : Prop} (h : P := by rw [if_neg c3] at H;exact absurd H (by simp)) : P := h
theorem zl29 {P : Prop} (h : P := by cases h;exact .inr (.inl ⟨_,_,_,_,rfl,by omega⟩)) : P := h
theorem zl30 {P : Prop} (h : P := by rw [if_neg c11] at H;exact absurd H (by simp)) : P := h
theorem zl31 {P : Prop} (h : P := by rw [if_neg c6] at H;exact absurd H (by simp)) : P := h
theorem zl32 {P : Prop} (h : P := by rw [h6,Int.toNat_natCast];rw [List.length_drop] at h8;simp only;omega) : P := h
theorem zl33 {P : Prop} (h : P := by cases h;exact .inl ⟨_,rfl, .inl rfl⟩) : P := h
end Go.Proofs.YthmjfmpgmcgonaaDoor
section
namespace Go.Proofs.YthmjfmpgmcgonaaDoor.J
open Go.RowKit Go.Proofs.YthmjfmpgmcgonaaDoorW.PrintWords Go.Proofs.YthmjfmpgmcgonaaDoorW.PrintLast
theorem w64 {x : Int} (h : -9223372036854775808≤x∧x≤9223372036854775807):wrap64 x=x:=by
 unfold wrap64;omega
theorem Ev_same {α : Type} {g:Nat→Option α} {r r':α} (h:Ev g r) (e:r=r'):Ev g r':=e ▸ h
def From (s : ByteArray) (i:Nat) (l:List Int):Prop:=i≤s.size∧(bytesOf s).drop i=l
theorem From.len {s : ByteArray} {i:Nat} {l:List Int} (h:From s i l):i+l.length=s.size:=by
 have h1:=h.1;rw [← h.2,List.length_drop,bytesOf_length];omega
theorem From.start (s : ByteArray):From s 0 (bytesOf s):=⟨Nat.zero_le _,rfl⟩
theorem From.at {s : ByteArray} {i:Nat} (h:i≤s.size):From s i ((bytesOf s).drop i):=⟨h,rfl⟩
theorem From.drop {s : ByteArray} {i:Nat} {l:List Int} (h:From s i l) (n:Nat) (hn:n≤l.length):From s (i+n) (l.drop n):=by
 have:=h.len;exact ⟨by omega,by rw [← h.2,List.drop_drop]⟩
theorem From.app {s : ByteArray} {i:Nat} {a l:List Int} (h:From s i (a++l)):From s (i+a.length) l:=by
 have:=h.drop a.length (by simp)
 simpa using this
theorem From.tail {s : ByteArray} {i:Nat} {a:Int} {l:List Int} (h:From s i (a :: l)):From s (i+1) l:=by
 have:=h.drop 1 (by simp)
 simpa using this
theorem From.lt {s : ByteArray} {i:Nat} {a:Int} {l:List Int} (h:From s i (a :: l)):i<s.size:=by
 have:=h.len;simp at this;omega
theorem From.bt {s : ByteArray} {i:Nat} {a:Int} {l:List Int} (h:From s i (a :: l)):bt s (i:Int)=a:=by
 have h1:(bytesOf s)[i]? = some a:=by
  have:=congrArg (·[0]?) h.2
  simpa using this
 rw [← rd_bytesOf];unfold rd;simp [List.getD_eq_getElem?_getD,h1]
theorem From.nil {s : ByteArray} {i:Nat} (h:From s i []):i=s.size:=by
 have:=h.len
 simpa using this
theorem bytesOf_range (s : ByteArray):∀ a ∈ bytesOf s,0≤a∧a≤255:=by
 intro a ha;unfold bytesOf at ha;rw [List.mem_map] at ha;obtain ⟨b,_,rfl⟩:=ha;have:=b.toNat_lt;omega
theorem From.range {s : ByteArray} {i:Nat} {l:List Int} (h:From s i l):∀ a ∈ l,0≤a∧a≤255:=by
 intro a ha;rw [← h.2] at ha;exact bytesOf_range s a (List.mem_of_mem_drop ha)
theorem From.head {s : ByteArray} {i:Nat} {a:Int} {l:List Int} (h:From s i (a :: l)):0≤a∧a≤255:=h.range a (by simp)
theorem bytesOf_extract (s : ByteArray) (i j:Nat):bytesOf (s.extract i j)=((bytesOf s).take j).drop i:=by
 unfold bytesOf;rw [ByteArray.data_extract,Array.toList_extract,List.extract_eq_take_drop,List.map_take,List.map_drop,List.drop_take]
theorem From.extract {s : ByteArray} {i:Nat} {a l:List Int} (h:From s i (a++l)):bytesOf (s.extract i (i+a.length))=a:=by
 rw [bytesOf_extract,List.drop_take,h.2];simp
theorem j4i (s : ByteArray):strOfNums (bytesOf s)=s:=by
 apply ByteArray.ext;apply Array.toList_inj.mp;rw [strOfNums_data];unfold bytesOf;rw [List.map_map]
 conv=>rhs;rw [← List.map_id s.data.toList]
 apply List.map_congr_left;intro b _;simp [Function.comp]
theorem bytesOf_inj {s t : ByteArray} (h:bytesOf s=bytesOf t):s=t:=by
 rw [← j4i s,h,j4i]
theorem toList_inj {s t : ByteArray} (h:s.toList=t.toList):s=t:=by
 rw [ByteArray.toList_eq,ByteArray.toList_eq] at h
 exact ByteArray.ext (Array.toList_inj.mp h)
def isB (c : Int):Bool:=decide (c=32∨c=9∨c=10∨c=13)
def skB : List Int→List Int
  | []=>[]
  | c :: r=>if isB c=true then skB r else c :: r
theorem j3r : ∀ l,(skB l).length≤l.length
 | []=>Nat.le_refl _
 | c :: r=>by
  unfold skB;split
  ·have:=j3r r
   simp;omega
  ·exact Nat.le_refl _
theorem skB_head : ∀ l c r,skB l=c :: r→isB c=false
 | [],_,_,h=>by simp [skB] at h
 | a :: l,c,r,h=>by
  unfold skB at h
  split at h
  ·exact skB_head l c r h
  ·rename_i hn;obtain ⟨rfl,rfl⟩:=h
   simpa using hn
theorem skB_ex : ∀ l,∃ b,(∀ a ∈ b,isB a=true)∧l=b++skB l
 | []=>⟨[],by simp,rfl⟩
 | c :: r=>by
  unfold skB;split
  ·rename_i h;obtain ⟨b,hb,e⟩:=skB_ex r;exact ⟨c :: b,by simp [h];exact hb,by rw [List.cons_append,← e]⟩
  ·exact ⟨[],by simp,rfl⟩
theorem skB_app : ∀ (b l:List Int),(∀ a ∈ b,isB a=true)→skB (b++l)=skB l
 | [],_,_=>rfl
 | c :: r,l,h=>by
  rw [List.cons_append,skB,if_pos (h c (by simp))];exact skB_app r l (fun a ha=>h a (by simp [ha]))
theorem skB_no {c : Int} {r:List Int} (h:isB c=false):skB (c :: r)=c :: r:=by
 rw [skB,if_neg (by simp [h])]
def hexv (c : Int):Option Int:=if 48≤c∧c≤57 then some (c - 48) else if 97≤c∧c≤102 then some (c - 87) else if 65≤c∧c≤70 then some (c - 55) else none
theorem j3k {c v : Int} (h:hexv c=some v):0≤v∧v≤15:=by
 unfold hexv at h
 split at h
 ·cases h;omega
 split at h
 ·cases h;omega
 split at h
 ·cases h;omega
 ·cases h
def hex4 : List Int→Option Int
  | a :: b :: c :: d :: _=>(hexv a).bind fun x=>(hexv b).bind fun y=>(hexv c).bind fun z=>(hexv d).bind fun u=>some (((x*16+y)*16+z)*16+u)
  | _=>none
theorem hex4_len {l : List Int} {v:Int} (h:hex4 l=some v):4≤l.length:=by
 unfold hex4 at h
 split at h
 ·simp
 ·cases h
theorem hex4_range {l : List Int} {v:Int} (h:hex4 l=some v):0≤v∧v≤65535:=by
 unfold hex4 at h
 split at h
 ·rename_i a b c d _;obtain ⟨x,hx,h⟩:=Option.bind_eq_some_iff.mp h;obtain ⟨y,hy,h⟩:=Option.bind_eq_some_iff.mp h;obtain ⟨z,hz,h⟩:=Option.bind_eq_some_iff.mp h;obtain ⟨u,hu,h⟩:=Option.bind_eq_some_iff.mp h;have:=j3k hx;have:=j3k hy;have:=j3k hz;have:=j3k hu;cases h;omega
 ·cases h
def isE (c : Int):Bool:=decide (c=34∨c=92∨c=47∨c=98∨c=102∨c=110∨c=114∨c=116)
def escL : List Int→Option (List Int)
  | []=>none
  | c :: r=>if isE c=true then some r else if c=117 then (hex4 r).bind fun _=>some (r.drop 4) else none
theorem escL_len {l r : List Int} (h:escL l=some r):r.length<l.length:=by
 unfold escL at h
 split at h
 ·cases h
 ·split at h
  ·cases h;simp
  ·split at h
   ·obtain ⟨v,hv,h⟩:=Option.bind_eq_some_iff.mp h;have:=hex4_len hv;cases h;simp;omega
   ·cases h
def strL (l : List Int):Option (List Int) :=
  match l with
  | []=>none
  | c :: r=>if c=34 then some r else if c<32 then none else if c=92 then (match _h:escL r with
    | none=>none
    | some r'=>strL r') else strL r
termination_by l.length
decreasing_by
  · have:=escL_len ‹_›
    simp;omega
  · simp
theorem strL_nil : strL []=none:=by rw [strL]
theorem strL_end (r : List Int):strL (34 :: r)=some r:=by rw [strL,if_pos rfl]
theorem strL_low {c : Int} (r:List Int) (h:c<32):strL (c :: r)=none:=by
 rw [strL,if_neg (by omega),if_pos h]
theorem strL_esc (r : List Int):strL (92 :: r)=(escL r).bind strL:=by
 rw [strL,if_neg (by omega),if_neg (by omega),if_pos rfl];split
 ·rename_i h;rw [h];rfl
 ·rename_i r' h;rw [h];rfl
theorem strL_raw {c : Int} (r:List Int) (h:c≠34∧¬ c<32∧c≠92):strL (c :: r)=strL r:=by
 rw [strL,if_neg h.1,if_neg h.2.1,if_neg h.2.2]
theorem strL_len : ∀ (n:Nat) (l r:List Int),l.length≤n→strL l=some r→r.length<l.length
 | _,[],r,_,h=>by rw [strL_nil] at h;cases h
 | 0,c :: l,r,hn,h=>by simp at hn
 | n+1,c :: l,r,hn,h=>by
  simp only [List.length_cons] at hn ⊢;by_cases h1:c=34
  ·subst h1;rw [strL_end] at h
   cases h;omega
  by_cases h2:c<32
  ·rw [strL_low _ h2] at h
   cases h
  by_cases h3:c=92
  rotate_left
  ·rw [strL_raw _ ⟨h1,h2,h3⟩] at h
   have:=strL_len n l r (by omega) h;omega
  subst h3;rw [strL_esc] at h
  obtain ⟨r',h4,h5⟩:=Option.bind_eq_some_iff.mp h;have:=escL_len h4;have:=strL_len n r' r (by omega) h5;omega
def unl (b : Int):Int:=if b=98 then 8 else if b=102 then 12 else if b=110 then 10 else if b=114 then 13 else if b=116 then 9 else b
def hiS (n : Int):Bool:=decide (55296≤n∧n≤56319)
def loS (n : Int):Bool:=decide (56320≤n∧n≤57343)
def utf (c : Int):List Int :=
  if c<128 then [c]
  else if c<2048 then [192+c / 64,128+c % 64]
  else if hiS c=true∨loS c=true then [239,191,189]
  else if c<65536 then [224+c / 4096,128+c / 64 % 64,128+c % 64]
  else [240+c / 262144,128+c / 4096 % 64,128+c / 64 % 64,128+c % 64]
def unitL : List Int→Option Int
  | a :: b :: r=>if a=92∧b=117 then hex4 r else none
  | _=>none
theorem unitL_len {l : List Int} {v:Int} (h:unitL l=some v):6≤l.length:=by
 unfold unitL at h
 split at h
 ·split at h
  ·have:=hex4_len h;simp;omega
  ·cases h
 ·cases h
def unqL (l : List Int):List Int :=
  match l with
  | []=>[]
  | c :: r=>if c=92 then (match _h:unitL (c :: r) with
      | some n=>if (match unitL (r.drop 5) with|some m=>hiS n && loS m|none=>false)=true then utf (65536+(n - 55296)*1024+((unitL (r.drop 5)).getD 0 - 56320))++unqL (r.drop 11) else utf n++unqL (r.drop 5)
      | none=>(match r with
        | []=>[]
        | b :: r'=>unl b :: unqL r')) else c :: unqL r
termination_by l.length
decreasing_by all_goals (simp; try omega)

inductive Body : List Int→Prop
  | nil:Body []
  | raw {c:Int} {l:List Int}:c≠34→¬ c<32→c≠92→Body l→Body (c :: l)
  | two {b:Int} {l:List Int}:isE b=true→Body l→Body (92 :: b :: l)
  | six {a b c d v:Int} {l:List Int}:hex4 (a :: b :: c :: d :: l)=some v→Body l→Body (92 :: 117 :: a :: b :: c :: d :: l)
theorem hex4_more {a b c d:Int} (l l':List Int):hex4 (a :: b :: c :: d :: l)=hex4 (a :: b :: c :: d :: l'):=rfl
theorem isE_117 : isE 117=false:=by decide
theorem escL_let {b : Int} (l:List Int) (h:isE b=true):escL (b :: l)=some l:=by
 rw [escL,if_pos h]
theorem escL_hex {a b c d v:Int} {l:List Int} (h:hex4 (a :: b :: c :: d :: l)=some v):escL (117 :: a :: b :: c :: d :: l)=some l:=by
 rw [escL,if_neg (by simp [isE_117]),if_pos rfl,h];rfl
theorem strL_body {b : List Int} (h:Body b) (r:List Int):strL (b++34 :: r)=some r:=by
 induction h with
 | nil=>exact strL_end r
 | raw h1 h2 h3 _ ih=>rw [List.cons_append,strL_raw _ ⟨h1,h2,h3⟩,ih]
 | two h1 _ ih=>rw [List.cons_append,List.cons_append,strL_esc,escL_let _ h1];exact ih
 | six h1 _ ih =>
  simp only [List.cons_append];rw [strL_esc,escL_hex (v:=by assumption) ((hex4_more _ _).trans h1)];exact ih
theorem escL_ex {l r : List Int} (h:escL l=some r):(∃ b,isE b=true∧l=b :: r)∨∃ a b c d v,hex4 (a :: b :: c :: d :: r)=some v∧l=117 :: a :: b :: c :: d :: r:=by
 unfold escL at h
 split at h
 ·cases h
 ·rename_i c l;split at h
  ·cases h;exact .inl ⟨_,by assumption,rfl⟩
  ·split at h
   ·obtain ⟨v,hv,h⟩:=Option.bind_eq_some_iff.mp h;cases h;subst c
    match l,hv with
    | a :: b :: c :: d :: l,hv=>exact .inr ⟨a,b,c,d,v,hv,rfl⟩
   ·cases h
theorem body_strL : ∀ (n:Nat) {l r:List Int},l.length≤n→strL l=some r→∃ b,Body b∧l=b++34 :: r
 | _,[],r,_,h=>by rw [strL_nil] at h;cases h
 | 0,c :: l,r,hn,h=>by simp at hn
 | n+1,c :: l,r,hn,h=>by
  simp only [List.length_cons] at hn;by_cases h1:c=34
  ·subst h1;rw [strL_end] at h
   cases h;exact ⟨[], .nil,rfl⟩
  by_cases h2:c<32
  ·rw [strL_low _ h2] at h
   cases h
  by_cases h3:c=92
  rotate_left
  ·rw [strL_raw _ ⟨h1,h2,h3⟩] at h
   obtain ⟨t,ht,e⟩:=body_strL n (by omega) h;exact ⟨c :: t, .raw h1 h2 h3 ht,by rw [e];rfl⟩
  subst h3;rw [strL_esc] at h
  obtain ⟨r',h4,h5⟩:=Option.bind_eq_some_iff.mp h;have:=escL_len h4;obtain ⟨t,ht,e⟩:=body_strL n (by omega) h5;rcases escL_ex h4 with ⟨b,hb,rfl⟩|⟨a,b,c,d,v,hv,rfl⟩
  ·exact ⟨92 :: b :: t, .two hb ht,by rw [e];rfl⟩
  ·subst e;exact ⟨92 :: 117 :: a :: b :: c :: d :: t, .six ((hex4_more _ _).trans hv) ht,rfl⟩
theorem strL_iff {l r : List Int}:strL l=some r↔∃ b,Body b∧l=b++34 :: r :=
 ⟨fun h=>body_strL _ (Nat.le_refl _) h,fun ⟨_,hb,e⟩=>e ▸ strL_body hb r⟩
theorem unqL_nil : unqL []=[]:=by rw [unqL]
theorem unqL_raw {c : Int} (l:List Int) (h:c≠92):unqL (c :: l)=c :: unqL l:=by
 rw [unqL,if_neg h]
theorem unitL_six {a b c d v:Int} {l:List Int} (h:hex4 (a :: b :: c :: d :: l)=some v):unitL (92 :: 117 :: a :: b :: c :: d :: l)=some v:=by
 show (if (92:Int)=92∧(117:Int)=117 then hex4 (a :: b :: c :: d :: l) else none)=some v
 rw [if_pos ⟨rfl,rfl⟩,h]
theorem unitL_two {b : Int} {l:List Int} (h:b≠117):unitL (92 :: b :: l)=none:=by
 show (if (92:Int)=92∧b=117 then hex4 l else none)=none
 rw [if_neg (by omega)]
theorem isE_ne {b : Int} (h:isE b=true):b≠117:=fun e=>by rw [e,isE_117] at h;cases h
theorem unqL_two {b : Int} (l:List Int) (h:b≠117):unqL (92 :: b :: l)=unl b :: unqL l:=by
 rw [unqL,if_pos rfl];split
 ·rename_i n hn;rw [unitL_two h] at hn;cases hn
 ·rfl
def pairL (n : Int) (l:List Int):Option Int:=(unitL l).bind fun m=>if (hiS n && loS m)=true then some m else none
theorem unqL_six {a b c d v:Int} {l:List Int} (h:hex4 (a :: b :: c :: d :: l)=some v):unqL (92 :: 117 :: a :: b :: c :: d :: l) =
 match pairL v l with
 | some m=>utf (65536+(v - 55296)*1024+(m - 56320))++unqL (l.drop 6)
 | none=>utf v++unqL l:=by
 rw [unqL,if_pos rfl];split
 ·rename_i n hn;rw [unitL_six h] at hn;cases hn;simp only [List.drop_succ_cons,List.drop_zero,pairL];cases hu:unitL l with
  | none=>simp
  | some m =>
   simp only [Option.bind_some,Option.getD_some];by_cases e:(hiS v && loS m)=true
   rotate_left
   ·rw [if_neg e,if_neg e]
   rw [if_pos e,if_pos e]
 ·rename_i hn;rw [unitL_six h] at hn;cases hn
theorem body_drop6 {m : Int} {l:List Int} (hb:Body l) (h:unitL l=some m):Body (l.drop 6):=by
 cases hb with
 | nil=>simp [unitL] at h
 | raw h1 h2 h3 hb =>
  unfold unitL at h
  split at h
  ·rename_i e;injection e with e1 e2
   rw [if_neg (by omega)] at h
   cases h
  ·cases h
 | two h1 hb=>rw [unitL_two (isE_ne h1)] at h;cases h
 | six h1 hb=>exact hb
theorem utf_len (c : Int):1≤(utf c).length∧(utf c).length≤4:=by
 unfold utf
 repeat' split
 all_goals simp
end Go.Proofs.YthmjfmpgmcgonaaDoor.J
end
section
namespace Go.Proofs.YthmjfmpgmcgonaaDoor.K
open Go.RowKit Go.Proofs.YthmjfmpgmcgonaaDoorW.PrintWords Go.Proofs.YthmjfmpgmcgonaaDoorW.PrintLast Go.Proofs.YthmjfmpgmcgonaaDoorW.PrintMore
attribute [local go_sem] max2_int min2_int max_two min_two max_three min_three max_four min_four
set_option linter.unusedVariables false
set_option linter.unusedSimpArgs false
def errW : Option (TypeId × Value)→Value
  | none => .nilIface
  | some c => .iface c.1 c.2
theorem errW_none : errW none = .nilIface:=rfl
theorem errW_some (c : TypeId × Value):errW (some c) = .iface c.1 c.2:=rfl
theorem info5 : (Tryd.prog.info? 5).map (fun i=>(i.zero,i.size,i.bytes))=some (some (.int .u8 0),1,1):=by kernel_rfl
theorem info27 : (Tryd.prog.info? 27).map (fun i=>(i.zero,i.size,i.bytes))=some (some (.agg #[(.int .i64 0),(.int .i64 0),(.int .i64 0),(.slice none 0 0),(.slice none 0 0)]),5,72):=by kernel_rfl
theorem info49 : (Tryd.prog.info? 49).map (fun i=>(i.zero,i.size,i.bytes))=some (some (.agg #[(.int .i64 0),(.int .i64 0)]),2,16):=by kernel_rfl
structure S49 where
  f0:Int
  f1:Int
def z49 : S49 := ⟨(0:Int),(0:Int)⟩
def k49 : Kd S49:=Kd.iso (Kd.pair (Kd.int .i64) (Kd.int .i64)) (fun x:S49=>(x.f0,x.f1))
theorem k49_open {w : World} {x:S49} {cs:List Value} (h:k49.K w x cs):cs=[.int .i64 x.f0, .int .i64 x.f1]:=by
 obtain ⟨_,_,rfl,rfl,rfl⟩:=h;exact rfl
theorem k49_mkM (w : World) (base:Nat) (ok:Nat→Prop) (x:S49)  : k49.M w base ok x [.int .i64 x.f0, .int .i64 x.f1]:=⟨[.int .i64 x.f0],[.int .i64 x.f1],rfl,rfl,rfl⟩
def j2s (xs : List S49) (i:Int):S49:=xs.getD i.toNat z49
theorem at_T49 {w : World} {A:Option Addr} {n:Nat} {xs:List S49} (h:Kd.C k49 w A n xs) (i:Int) (h0:0≤i) (h1:i<n):∃ ad , A=some ad∧w.cell? (ad.add (i.toNat*2))=some (.int .i64 (j2s xs i).f0)∧w.cell? ⟨(ad.add (i.toNat*2)).block,(ad.add (i.toNat*2)).off+1,none⟩=some (.int .i64 (j2s xs i).f1):=by
 obtain ⟨ad,c,e,_,hK,hc0⟩:=Kd.C_get h z49 i h0 h1;have hc:∀ j u,c[j]? = some u→w.cell? (ad.add (i.toNat*2+j))=some u:=hc0;obtain rfl:=k49_open hK;exact ⟨ad,e,hc 0 _ rfl,by rw [← j3z _ _ 1 (by omega)];exact hc 1 _ rfl⟩
structure S27 where
  f0:Int
  f1:Int
  f2:Int
  f3:(List S49)
  f4:(List S27)
def z27 : S27 := ⟨(0:Int),(0:Int),(0:Int),([]:List S49),([]:List S27)⟩
def F27 (d : Kd S27):Kd S27:=Kd.iso (Kd.pair (Kd.int .i64) (Kd.pair (Kd.int .i64) (Kd.pair (Kd.int .i64) (Kd.pair (Kd.slice 49 k49) (Kd.slice 27 d))))) (fun x:S27=>(x.f0,x.f1,x.f2,x.f3,x.f4))
theorem mono27 : Kd.Mono F27:=Kd.mono_iso _ (Kd.mono_pair (Kd.mono_const _) (Kd.mono_pair (Kd.mono_const _) (Kd.mono_pair (Kd.mono_const _) (Kd.mono_pair (Kd.mono_const _) (Kd.mono_slice 27 Kd.mono_id)))))
theorem sub27 : Kd.Sub F27 [27,49]:=Kd.sub_iso _ (Kd.sub_pair (Kd.sub_const _ zq50) (Kd.sub_pair (Kd.sub_const _ zq50) (Kd.sub_pair (Kd.sub_const _ zq50) (Kd.sub_pair (Kd.sub_const _ zq50) (Kd.sub_slice 27 zq50 Kd.sub_id)))))
theorem sz27 : ∀ n,(Kd.upto F27 5 [27,49] n).sz=5:=Kd.upto_sz (fun _=>rfl)
def k27 : Kd S27:=Kd.fix F27 5 [27,49] sz27 (Kd.upto_E sub27)
theorem k27_open {w : World} {x:S27} {cs:List Value} (h:k27.K w x cs):∃ A3 c3 A4 c4,cs=[.int .i64 x.f0, .int .i64 x.f1, .int .i64 x.f2, .slice A3 x.f3.length c3, .slice A4 x.f4.length c4]∧x.f3.length≤c3∧k49.C w A3 x.f3.length x.f3∧x.f4.length≤c4∧k27.C w A4 x.f4.length x.f4:=by
 obtain ⟨n,h⟩:=h;cases n with
 | zero=>exact h.elim
 | succ n =>
  obtain ⟨_,_,rfl,rfl,⟨_,_,rfl,rfl,⟨_,_,rfl,rfl,⟨_,_,rfl,⟨A3,c3,rfl,l3,g3⟩,⟨A4,c4,rfl,l4,g4⟩⟩⟩⟩⟩:=h;exact ⟨A3,c3,A4,c4,rfl,l3,g3,l4,Kd.fix_C g4⟩
theorem k27_mkM (w : World) (base:Nat) (ok:Nat→Prop) (x:S27) {v3:Value} (g3:k49.R 49 w base ok v3 x.f3) {v4:Value} (g4:k27.R 27 w base ok v4 x.f4):k27.M w base ok x [.int .i64 x.f0, .int .i64 x.f1, .int .i64 x.f2,v3,v4]:=by
 obtain ⟨n4,q4⟩:=Kd.fix_R_back mono27 g4;have r4:=Kd.upto_R_le mono27 sz27 (show n4≤n4 by omega) q4;exact ⟨n4+1,⟨[.int .i64 x.f0],[.int .i64 x.f1, .int .i64 x.f2,v3,v4],rfl,rfl,⟨[.int .i64 x.f1],[.int .i64 x.f2,v3,v4],rfl,rfl,⟨[.int .i64 x.f2],[v3,v4],rfl,rfl,⟨[v3],[v4],rfl,⟨v3,rfl,g3⟩,⟨v4,rfl,r4⟩⟩⟩⟩⟩⟩
theorem k27_openF {W : World} {ok:Nat→Prop} {x:S27} {cs:List Value} (h:Kd.FK k27 W ok x cs):∃ A3 c3 A4 c4,cs=[.int .i64 x.f0, .int .i64 x.f1, .int .i64 x.f2, .slice A3 x.f3.length c3, .slice A4 x.f4.length c4]∧x.f3.length≤c3∧Kd.F k49 W ok A3 x.f3.length x.f3∧x.f4.length≤c4∧Kd.F k27 W ok A4 x.f4.length x.f4:=by
 obtain ⟨A3,c3,A4,c4,rfl,l3,_,l4,_⟩:=k27_open (Kd.FK_now h);exact ⟨A3,c3,A4,c4,rfl,l3,(fun W' hW=>by obtain ⟨A3_,c3_,A4_,c4_,he,l3_,g3_,l4_,g4_⟩:=k27_open (h W' hW);injection (Option.some.inj (show some (Value.slice A3 x.f3.length c3)=some (Value.slice A3_ x.f3.length c3_) from congrArg (fun l=>l[3]?) he)) with ha_ _ _;rw [ha_];exact g3_),l4,(fun W' hW=>by obtain ⟨A3_,c3_,A4_,c4_,he,l3_,g3_,l4_,g4_⟩:=k27_open (h W' hW);injection (Option.some.inj (show some (Value.slice A4 x.f4.length c4)=some (Value.slice A4_ x.f4.length c4_) from congrArg (fun l=>l[4]?) he)) with ha_ _ _;rw [ha_];exact g4_)⟩
def j2i (xs : List S27) (i:Int):S27:=xs.getD i.toNat z27
theorem at_T27 {w : World} {A:Option Addr} {n:Nat} {xs:List S27} (h:Kd.C k27 w A n xs) (i:Int) (h0:0≤i) (h1:i<n):∃ ad A3 c3 A4 c4,A=some ad∧w.cell? (ad.add (i.toNat*5))=some (.int .i64 (j2i xs i).f0)∧w.cell? ⟨(ad.add (i.toNat*5)).block,(ad.add (i.toNat*5)).off+1,none⟩=some (.int .i64 (j2i xs i).f1)∧w.cell? ⟨(ad.add (i.toNat*5)).block,(ad.add (i.toNat*5)).off+2,none⟩=some (.int .i64 (j2i xs i).f2)∧w.cell? ⟨(ad.add (i.toNat*5)).block,(ad.add (i.toNat*5)).off+3,none⟩=some (.slice A3 (j2i xs i).f3.length c3)∧w.cell? ⟨(ad.add (i.toNat*5)).block,(ad.add (i.toNat*5)).off+4,none⟩=some (.slice A4 (j2i xs i).f4.length c4)∧(j2i xs i).f3.length≤c3∧k49.C w A3 (j2i xs i).f3.length (j2i xs i).f3∧(j2i xs i).f4.length≤c4∧k27.C w A4 (j2i xs i).f4.length (j2i xs i).f4:=by
 obtain ⟨ad,c,e,_,hK,hc0⟩:=Kd.C_get h z27 i h0 h1;have hc:∀ j u,c[j]? = some u→w.cell? (ad.add (i.toNat*5+j))=some u:=hc0;obtain ⟨A3,c3,A4,c4,rfl,l3,g3,l4,g4⟩:=k27_open hK;exact ⟨ad,A3,c3,A4,c4,e,hc 0 _ rfl,by rw [← j3z _ _ 1 (by omega)];exact hc 1 _ rfl,by rw [← j3z _ _ 2 (by omega)];exact hc 2 _ rfl,by rw [← j3z _ _ 3 (by omega)];exact hc 3 _ rfl,by rw [← j3z _ _ 4 (by omega)];exact hc 4 _ rfl,l3,g3,l4,g4⟩
theorem bel_lower {B B' : Nat} {w w':World} (h:Below B w w') (hb:B'≤B):Below B' w w':=⟨h.os,h.tape,h.output,h.size,fun k hk=>h.block k (Nat.lt_of_lt_of_le hk hb)⟩
theorem j3u {P : Program} {ops:Array Oper} {rest:List Oper} {o:Oper} {a:Act} {Q:Exit→Act→World→Prop} {W:World} (hgd:o.guard=none) (hN:o.dst=none) {t:TypeId} {p x:Operand} (ho:o.op = .store t p x) {g:Nat} {e:TypeId} {cur new:Array Value}
 (haddr:a.eval p = .pointer (some ⟨g,0,none⟩)) (hx:a.eval x = .agg new) (hb:W.heap[g]? = some (.cells cur e (0,0))) (hsz:new.size=cur.size) (ht:(P.info? t).map (·.size)=some new.toList.length) (h1:∀ q ∈ new.toList,q.oneCell'=true)
 (h:∀ w1,w1.heap[g]? = some (.cells new e (0,0))→KeepBut W w1 g none→(∀ B,B≤g→Below B W w1)→wpList P ops Q rest a w1):wpList P ops Q (o :: rest) a W:=by
 have hl:new.toList.length=cur.size:=by rw [Array.length_toList];exact hsz
 refine wpList_plain hgd fun K hK=>?_
 have hrun:(Instr.storeAt t (.pointer (some ⟨g,0,none⟩)) (.agg new)).run P W = .ok () (W.setCells g 0 new.toList):=run_store_run t (.agg new) new.toList hb rfl ht (by omega) h1;unfold Oper.wp execOp;simp only [ho,haddr,hx,Sem.run_bind,Sem.run_pure,Result.andThen_ok,hrun]
 show K (a.put o.dst undef) _
 rw [hN];obtain ⟨s1,s2,s3,s4⟩:=setCells_same g new.toList 0 W;obtain ⟨cur',c1,c2,c3⟩:=setCells_row new.toList 0 W cur hb (by omega)
 have e1:cur'=new:=by
  apply Array.toList_inj.mp;rw [c3];simp [hl]
 subst e1;exact hK a _ (h _ c1 ⟨by rw [s4];exact Nat.le_refl _,fun i _ hi _=>setCells_far _ _ i hi⟩ (fun B hB=>⟨s1,s2,s3,by rw [s4];exact Nat.le_refl _,fun k hk=>setCells_far _ _ k (by omega)⟩))
theorem j2g {B : Nat} {w w':World} (h:Below B w w') {a:Addr} (ha:a.block<B):w'.cell? a=w.cell? a:=by unfold World.cell?; rw [h.block a.block ha]
def tabv (j : Nat):Int:=if j=34 then 34 else if j=92 then 92 else if j=47 then 47 else if j=98 then 8 else if j=102 then 12 else if j=110 then 10 else if j=114 then 13 else if j=116 then 9 else 0
structure Laid (w : World):Prop where
  cfg0:w.cell? ⟨4,0,none⟩=some (.bool false)
  cfg1:w.cell? ⟨4,1,none⟩=some (.bool false)
  cfg2:w.cell? ⟨4,2,none⟩=some (.int .i64 0)
  tab:∀ j:Nat,j<117→w.cell? ⟨14,j,none⟩=some (.int .u8 (tabv j))
  esc:∃ te pe,w.cell? ⟨8,0,none⟩=some (.iface te pe)
  eK:∃ te pe,w.cell? ⟨5,0,none⟩=some (.iface te pe)
  eJ:∃ te pe,w.cell? ⟨7,0,none⟩=some (.iface te pe)
  eA:∃ te pe,w.cell? ⟨9,0,none⟩=some (.iface te pe)
  eO:∃ te pe,w.cell? ⟨6,0,none⟩=some (.iface te pe)
  eS:∃ te pe,w.cell? ⟨11,0,none⟩=some (.iface te pe)
  eU:∃ te pe,w.cell? ⟨12,0,none⟩=some (.iface te pe)
  errS:∃ te pe,w.cell? ⟨13,0,none⟩=some (.iface te pe)
  errR:∃ te pe,w.cell? ⟨2,0,none⟩=some (.iface te pe)
theorem Laid.below {B : Nat} {w w':World} (h:Laid w) (hb:Below B w w') (hB:w.heap.size≤B:=by exact Nat.le_refl _):Laid w' where
 cfg0:=(j2g hb (Nat.lt_of_lt_of_le (World.block_lt_of_cell? w _ h.cfg0) hB)).trans h.cfg0
 cfg1:=(j2g hb (Nat.lt_of_lt_of_le (World.block_lt_of_cell? w _ h.cfg1) hB)).trans h.cfg1
 cfg2:=(j2g hb (Nat.lt_of_lt_of_le (World.block_lt_of_cell? w _ h.cfg2) hB)).trans h.cfg2
 tab:=fun j hj=>(j2g hb (Nat.lt_of_lt_of_le (World.block_lt_of_cell? w _ (h.tab j hj)) hB)).trans (h.tab j hj)
 esc:=by
  obtain ⟨te,pe,h1⟩:=h.esc;exact zl14
 eK:=by
  obtain ⟨te,pe,h1⟩:=h.eK;exact zl14
 eJ:=by
  obtain ⟨te,pe,h1⟩:=h.eJ;exact zl14
 eA:=by
  obtain ⟨te,pe,h1⟩:=h.eA;exact zl14
 eO:=by
  obtain ⟨te,pe,h1⟩:=h.eO;exact zl14
 eS:=by
  obtain ⟨te,pe,h1⟩:=h.eS;exact zl14
 eU:=by
  obtain ⟨te,pe,h1⟩:=h.eU;exact zl14
 errS:=by
  obtain ⟨te,pe,h1⟩:=h.errS;exact zl14
 errR:=by
  obtain ⟨te,pe,h1⟩:=h.errR;exact zl14
structure S31 where
  f0:ByteArray
  f1:ByteArray
  f2:Int
  f3:Int
def z31 : S31 := ⟨(⟨#[]⟩:ByteArray),(⟨#[]⟩:ByteArray),(0:Int),(0:Int)⟩
def k31 : Kd S31:=Kd.iso (Kd.pair Kd.string (Kd.pair Kd.string (Kd.pair (Kd.int .i64) (Kd.int .i64)))) (fun x:S31=>(x.f0,x.f1,x.f2,x.f3))
theorem k31_open {w : World} {x:S31} {cs:List Value} (h:k31.K w x cs):cs=[.string x.f0, .string x.f1, .int .i64 x.f2, .int .i64 x.f3]:=by
 obtain ⟨_,_,rfl,rfl,⟨_,_,rfl,rfl,⟨_,_,rfl,rfl,rfl⟩⟩⟩:=h;exact rfl
theorem k31_mkM (w : World) (base:Nat) (ok:Nat→Prop) (x:S31)  : k31.M w base ok x [.string x.f0, .string x.f1, .int .i64 x.f2, .int .i64 x.f3]:=⟨[.string x.f0],[.string x.f1, .int .i64 x.f2, .int .i64 x.f3],rfl,rfl,⟨[.string x.f1],[.int .i64 x.f2, .int .i64 x.f3],rfl,rfl,⟨[.int .i64 x.f2],[.int .i64 x.f3],rfl,rfl,rfl⟩⟩⟩
def j2d (xs : List S31) (i:Int):S31:=xs.getD i.toNat z31
theorem at_T31 {w : World} {A:Option Addr} {n:Nat} {xs:List S31} (h:Kd.C k31 w A n xs) (i:Int) (h0:0≤i) (h1:i<n):∃ ad , A=some ad∧w.cell? (ad.add (i.toNat*4))=some (.string (j2d xs i).f0)∧w.cell? ⟨(ad.add (i.toNat*4)).block,(ad.add (i.toNat*4)).off+1,none⟩=some (.string (j2d xs i).f1)∧w.cell? ⟨(ad.add (i.toNat*4)).block,(ad.add (i.toNat*4)).off+2,none⟩=some (.int .i64 (j2d xs i).f2)∧w.cell? ⟨(ad.add (i.toNat*4)).block,(ad.add (i.toNat*4)).off+3,none⟩=some (.int .i64 (j2d xs i).f3):=by
 obtain ⟨ad,c,e,_,hK,hc0⟩:=Kd.C_get h z31 i h0 h1;have hc:∀ j u,c[j]? = some u→w.cell? (ad.add (i.toNat*4+j))=some u:=hc0;obtain rfl:=k31_open hK;exact ⟨ad,e,hc 0 _ rfl,by rw [← j3z _ _ 1 (by omega)];exact hc 1 _ rfl,by rw [← j3z _ _ 2 (by omega)];exact hc 2 _ rfl,by rw [← j3z _ _ 3 (by omega)];exact hc 3 _ rfl⟩
def j2m.l0 : Nat → List ByteArray→Int→Int→Option (Bool)
  | 0,_,_,_=>none
  | k+1,x8,x9,x10=>if x10<x9 then (if 0≤x10 then (if x10<(x8.length:Int) then (if ((rdOf ByteArray.empty x8 x10).size:Int)>2147483647 then (some false) else (j2m.l0 k x8 x9 (wrap64 (x10+1)))) else (none)) else (none)) else (some true)
def j2m.f (k : Nat) (l0:List ByteArray):Option (Bool):=if (l0.length:Int)>2147483647 then (some false) else (j2m.l0 k l0 (l0.length:Int) 0)
theorem j2m.mono_l : ∀ k,(∀ y0 y1 y2,LeO (j2m.l0 k y0 y1 y2) (j2m.l0 (k+1) y0 y1 y2))
 | 0=>fun _ _ _ r h=>by simp [j2m.l0] at h
 | k+1=>by
  have ih0:=j2m.mono_l k
  ·intro y0 y1 y2;unfold j2m.l0
   exact zm
theorem j2m.mono : ∀ a0 k,LeO (j2m.f k a0) (j2m.f (k+1) a0):=by
 intro a0 k;have ih0:=j2m.mono_l k;unfold j2m.f
 exact zm
set_option maxHeartbeats 8000000 in
set_option maxRecDepth 100000 in
theorem j2m.calls (k : Nat) (A0:Option Addr) (c0:Nat) (l0:List ByteArray) (r:Bool) (w:World) (hr0:Kd.C Kd.string w A0 l0.length l0) (hc0:l0.length≤c0) (h:j2m.f k l0=some r) :
 Calls Tryd.prog 7 #[.slice A0 l0.length c0] w fun e w'=>e = .returned (.bool r)∧Drawn0 w w':=by
 have HR0:=mk0 hr0;have HC0:=mk0 hc0;clear hr0 hc0;have H:(if (l0.length:Int)>2147483647 then (some false) else (j2m.l0 k l0 (l0.length:Int) 0))=some r:=h;clear h;by_cases c2:(l0.length:Int)>2147483647
 ·rw [if_pos c2] at H;have c2b0:decide (2147483647<(l0.length:Int))=true:=decide_eq_true c2;have c2b1:decide (2147483647<l0.length)=true:=decide_eq_true (by omega);clear c2;obtain rfl:=Option.some.inj H;go_enter Tryd.func7,Tryd.ntmps7;go_wp2;go_ret;exact ⟨by rfl,by repeat (first|exact Drawn0.refl _|apply Drawn0.step)⟩
 rw [if_neg c2] at H;have c2b0:decide (2147483647<(l0.length:Int))=false:=decide_eq_false c2;have c2b1:decide (2147483647<l0.length)=false:=decide_eq_false (by omega);clear c2;have H':=mk0 H;clear H;go_enter Tryd.func7,Tryd.ntmps7;go_wp2;go_loopg [10] k (fun kq v10 w'=>∃ (x10_1:Int),v10 = .int .i64 x10_1∧Aside0 (j2m.l0 kq l0 (l0.length:Int) x10_1=some r)∧Aside0 (kq≤k)∧Drawn0 w w')
 case atStart=>exact ⟨(0),(by rfl),H',⟨Nat.le_refl _⟩,by repeat (first|exact Drawn0.refl _|apply Drawn0.step)⟩
 case round =>
  clear H';clear c2b0 c2b1;obtain ⟨x10_1,rfl,HA,HK1,⟨m1,rfl⟩⟩:=hrel;cases gk with
  | zero=>exact absurd HA.out (by simp [j2m.l0])
  | succ k1 =>
   have H:=HA.out;clear HA;simp only [j2m.l0] at H;by_cases c3:x10_1<(l0.length:Int)
   rotate_left
   ·rw [if_neg c3] at H;have c3b0:decide (x10_1<(l0.length:Int))=false:=decide_eq_false c3;clear c3;obtain rfl:=Option.some.inj H;go_wp2;go_ret;exact ⟨by rfl,by repeat (first|exact Drawn0.refl _|apply Drawn0.step)⟩
   rw [if_pos c3] at H;have c3b0:decide (x10_1<(l0.length:Int))=true:=decide_eq_true c3;clear c3;by_cases c4:0≤x10_1
   rotate_left
   ·rw [if_neg c4] at H;exact absurd H (by simp)
   rw [if_pos c4] at H;have c4b0:decide (0≤x10_1)=true:=decide_eq_true c4;clear c4;by_cases c5:x10_1<(l0.length:Int)
   rotate_left
   ·exact zl23
   rw [if_pos c5] at H;have c5b0:decide (x10_1<(l0.length:Int))=true:=decide_eq_true c5;clear c5;by_cases c6:((rdOf ByteArray.empty l0 x10_1).size:Int)>2147483647
   ·rw [if_pos c6] at H;have c6b0:decide (2147483647<((rdOf ByteArray.empty l0 x10_1).size:Int))=true:=decide_eq_true c6;have c6b1:decide (2147483647<(rdOf ByteArray.empty l0 x10_1).size)=true:=decide_eq_true (by omega);clear c6;obtain rfl:=Option.some.inj H;have p101:0≤(x10_1:Int):=of_decide_eq_true zq17;have q101:x10_1<(l0.length:Int):=of_decide_eq_true zq17;obtain ⟨ad101,e101,hx101_0⟩:=Kd.at_string HR0.out x10_1 p101 q101;cases e101;replace p101:=eq_true p101;replace q101:=eq_true q101;go_wp2;go_ret;exact ⟨by rfl,by repeat (first|exact Drawn0.refl _|apply Drawn0.step)⟩
   rw [if_neg c6] at H;have c6b0:decide (2147483647<((rdOf ByteArray.empty l0 x10_1).size:Int))=false:=decide_eq_false c6;have c6b1:decide (2147483647<(rdOf ByteArray.empty l0 x10_1).size)=false:=decide_eq_false (by omega);clear c6;have H':=mk0 H;clear H;have p101:0≤(x10_1:Int):=of_decide_eq_true zq17;have q101:x10_1<(l0.length:Int):=of_decide_eq_true zq17;obtain ⟨ad101,e101,hx101_0⟩:=Kd.at_string HR0.out x10_1 p101 q101;cases e101;replace p101:=eq_true p101;replace q101:=eq_true q101;go_wp2;go_roundg k1
   case measure=>have:=HK1.out;omega
   case rel=>exact ⟨(wrap64 (x10_1+1)),(by rfl),H',⟨by have:=HK1.out;omega⟩,by repeat (first|exact Drawn0.refl _|apply Drawn0.step)⟩
mutual
def j2a.j0 : Nat → Int→Bool→Option (Int × Bool)
  | 0,_,_=>none
  | k+1,x0,x4=>if x4=true then (some ((x0 - 48) % 256,true)) else (if 97≤x0 then (j2a.j1 k x0 (decide (x0≤102))) else (j2a.j1 k x0 false))
def j2a.j1 : Nat → Int→Bool→Option (Int × Bool)
  | 0,_,_=>none
  | k+1,x0,x14=>if x14=true then (some (((x0 - 97) % 256)+10,true)) else (if 65≤x0 then (if x0≤70 then (some (((x0 - 65) % 256)+10,true)) else (some (0,false))) else (some (0,false)))
end
def j2a.f (k : Nat) (a0:Int):Option (Int × Bool):=if 48≤a0 then (j2a.j0 k a0 (decide (a0≤57))) else (j2a.j0 k a0 false)
theorem j2a.mono_l : ∀ k,(∀ y0 y1,LeO (j2a.j0 k y0 y1) (j2a.j0 (k+1) y0 y1))∧(∀ y0 y1,LeO (j2a.j1 k y0 y1) (j2a.j1 (k+1) y0 y1))
 | 0=>⟨fun _ _ r h=>by simp [j2a.j0] at h,fun _ _ r h=>by simp [j2a.j1] at h⟩
 | k+1=>by
  obtain ⟨ih0,ih1⟩:=j2a.mono_l k;refine ⟨?_,?_⟩
  ·intro y0 y1;unfold j2a.j0
   exact zm
  ·intro y0 y1;unfold j2a.j1
   exact zm
theorem j2a.mono : ∀ a0 k,LeO (j2a.f k a0) (j2a.f (k+1) a0):=by
 intro a0 k;obtain ⟨ih0,ih1⟩:=j2a.mono_l k;unfold j2a.f
 exact zm
set_option maxHeartbeats 8000000 in
set_option maxRecDepth 100000 in
theorem j2a.calls (k : Nat) (a0:Int) (r1:Int) (r2:Bool) (w:World) (h:j2a.f k a0=some (r1,r2)) :
 Calls Tryd.prog 49 #[.int .u8 a0] w fun e w'=>e = .returned (.tuple #[.int .i64 r1, .bool r2])∧Drawn0 w w':=by
 have H:(if 48≤a0 then (j2a.j0 k a0 (decide (a0≤57))) else (j2a.j0 k a0 false))=some (r1,r2):=h;clear h;have HC2:=mk0 H;clear H;go_enter Tryd.func49,Tryd.ntmps49;go_upto_region 1 with (fail)
 go_cut [4] (fun v4 wc=>∃ (kq:Nat) (x4_1:Bool),v4 = .bool x4_1∧Aside0 (j2a.j0 kq a0 x4_1=some (r1,r2))∧Aside0 (kq≤k)∧Drawn0 w wc)
 case first =>
  have H:=HC2.out;clear HC2;by_cases c3:48≤a0
  rotate_left
  ·rw [if_neg c3] at H;have c3b0:decide (48≤a0)=false:=decide_eq_false c3;clear c3;(first|rw [c3b0]|(simp only [i64_w,i32_w];rw [c3b0])|skip);have H':=mk0 H;clear H;go_wp2;go_meet
   case rel=>exact ⟨_,(false),zq41,H',⟨by first|omega|exact Nat.le_refl _⟩,by repeat (first|exact Drawn0.refl _|apply Drawn0.step)⟩
  rw [if_pos c3] at H;have c3b0:decide (48≤a0)=true:=decide_eq_true c3;clear c3;(first|rw [c3b0]|(simp only [i64_w,i32_w];rw [c3b0])|skip);have H':=mk0 H;clear H;go_wp2;go_meet
  case rel=>exact ⟨_,(decide (a0≤57)),zq41,H',⟨by first|omega|exact Nat.le_refl _⟩,by repeat (first|exact Drawn0.refl _|apply Drawn0.step)⟩
 case rest =>
  clear HC2
  try clear p2
  try clear c3
  try clear c3b0
  obtain ⟨kq,x4_1,rfl,HA,HJ1,⟨mc1,rfl⟩⟩:=hcut;cases kq with
  | zero=>exact absurd HA.out (by simp [j2a.j0])
  | succ kj1 =>
   have H:=HA.out;clear HA;simp only [j2a.j0] at H;by_cases c4:x4_1=true
   ·subst c4;have H1:(some ((a0 - 48) % 256,true))=some (r1,r2):=by rw [if_pos rfl] at H;exact H
    clear H;have H:=H1;clear H1;simp only [Option.some.injEq,Prod.mk.injEq] at H;obtain ⟨rfl,rfl⟩:=H;go_wp2;go_ret2;exact zl4
   replace c4:=Bool.eq_false_iff.mpr c4;subst c4;have H1:(if 97≤a0 then (j2a.j1 kj1 a0 (decide (a0≤102))) else (j2a.j1 kj1 a0 false))=some (r1,r2):=by rw [if_neg (show ¬ (false=true) by decide)] at H;exact H
   clear H;have H:=H1;clear H1;have HC5:=mk0 H;clear H;go_upto_region 3 with (fail)
   go_cut [14] (fun v14 wc=>∃ (kq:Nat) (x14_4:Bool),v14 = .bool x14_4∧Aside0 (j2a.j1 kq a0 x14_4=some (r1,r2))∧Aside0 (kq≤kj1)∧Drawn0 w wc)
   case first =>
    have H:=HC5.out;clear HC5;by_cases c6:97≤a0
    rotate_left
    ·rw [if_neg c6] at H;have c6b0:decide (97≤a0)=false:=decide_eq_false c6;clear c6;(first|rw [c6b0]|(simp only [i64_w,i32_w];rw [c6b0])|skip);have H':=mk0 H;clear H;go_wp2;go_meet
     case rel=>exact ⟨_,(false),zq41,H',⟨by have:=HJ1.out;first|omega|exact Nat.le_refl _⟩,by repeat (first|exact Drawn0.refl _|apply Drawn0.step)⟩
    rw [if_pos c6] at H;have c6b0:decide (97≤a0)=true:=decide_eq_true c6;clear c6;(first|rw [c6b0]|(simp only [i64_w,i32_w];rw [c6b0])|skip);have H':=mk0 H;clear H;go_wp2;go_meet
    case rel=>exact ⟨_,(decide (a0≤102)),zq41,H',⟨by have:=HJ1.out;first|omega|exact Nat.le_refl _⟩,by repeat (first|exact Drawn0.refl _|apply Drawn0.step)⟩
   case rest =>
    clear HC5
    try clear c1
    try clear p2
    try clear c3
    try clear c3b0
    try clear c4
    try clear c6
    try clear c6b0
    try clear p2
    obtain ⟨kq,x14_4,rfl,HA,HJ4,⟨mc4,rfl⟩⟩:=hcut;cases kq with
    | zero=>exact absurd HA.out (by simp [j2a.j1])
    | succ kj4 =>
     have H:=HA.out;clear HA;simp only [j2a.j1] at H;by_cases c7:x14_4=true
     ·subst c7;have H1:(some (((a0 - 97) % 256)+10,true))=some (r1,r2):=by rw [if_pos rfl] at H;exact H
      clear H;have H:=H1;clear H1;simp only [Option.some.injEq,Prod.mk.injEq] at H;obtain ⟨rfl,rfl⟩:=H;go_wp2;go_ret2;exact zl4
     replace c7:=Bool.eq_false_iff.mpr c7;subst c7;have H1:(if 65≤a0 then (if a0≤70 then (some (((a0 - 65) % 256)+10,true)) else (some (0,false))) else (some (0,false)))=some (r1,r2):=by rw [if_neg (show ¬ (false=true) by decide)] at H;exact H
     clear H;have H:=H1;clear H1;by_cases c8:65≤a0
     rotate_left
     ·rw [if_neg c8] at H;have c8b0:decide (65≤a0)=false:=decide_eq_false c8;clear c8;simp only [Option.some.injEq,Prod.mk.injEq] at H;obtain ⟨rfl,rfl⟩:=H;go_wp2;go_ret2;exact ⟨by first|rfl|(simp;done)|(simp [*];done),by repeat (first|exact Drawn0.refl _|apply Drawn0.step)⟩
     rw [if_pos c8] at H;have c8b0:decide (65≤a0)=true:=decide_eq_true c8;clear c8;by_cases c9:a0≤70
     ·rw [if_pos c9] at H;have c9b0:decide (a0≤70)=true:=decide_eq_true c9;clear c9;simp only [Option.some.injEq,Prod.mk.injEq] at H;obtain ⟨rfl,rfl⟩:=H;go_wp2;go_ret2;exact ⟨by first|rfl|(simp;done)|(simp [*];done),by repeat (first|exact Drawn0.refl _|apply Drawn0.step)⟩
     rw [if_neg c9] at H;have c9b0:decide (a0≤70)=false:=decide_eq_false c9;clear c9;simp only [Option.some.injEq,Prod.mk.injEq] at H;obtain ⟨rfl,rfl⟩:=H;go_wp2;go_ret2;exact zl4
mutual
def j2e.j0 : Nat → ByteArray→Int→Bool→Option (Int × Bool)
  | 0,_,_,_=>none
  | k+1,x0,x1,x27=>if x27=true then (some (0,false)) else (j2e.l0 k x0 x1 0 (wrap64 (x1+2)))
def j2e.l0 : Nat → ByteArray→Int→Int→Int→Option (Int × Bool)
  | 0,_,_,_,_=>none
  | k+1,x0,x1,x6,x7=>if x7<(wrap64 (x1+6)) then (if 0≤x7 then (if x7<(x0.size:Int) then ((j2a.f k (bt x0 x7)).bind fun bt101=>(if bt101.2=true then (j2e.l0 k x0 x1 (wrap64 ((wrap64 (x6*16))+bt101.1)) (wrap64 (x7+1))) else (some (0,false)))) else (none)) else (none)) else (some (x6,true))
end
def j2e.f (k : Nat) (a0:ByteArray) (a1:Int):Option (Int × Bool):=if (wrap64 ((a0.size:Int) - a1))<6 then (j2e.j0 k a0 a1 true) else (if 0≤a1 then (if a1<(a0.size:Int) then (if (bt a0 a1)=92 then (if 0≤(wrap64 (a1+1)) then (if (wrap64 (a1+1))<(a0.size:Int) then (j2e.j0 k a0 a1 ((bt a0 (wrap64 (a1+1))) != 117)) else (none)) else (none)) else (j2e.j0 k a0 a1 true)) else (none)) else (none))
theorem j2e.mono_l : ∀ k,(∀ y0 y1 y2,LeO (j2e.j0 k y0 y1 y2) (j2e.j0 (k+1) y0 y1 y2))∧(∀ y0 y1 y2 y3,LeO (j2e.l0 k y0 y1 y2 y3) (j2e.l0 (k+1) y0 y1 y2 y3))
 | 0=>⟨fun _ _ _ r h=>by simp [j2e.j0] at h,fun _ _ _ _ r h=>by simp [j2e.l0] at h⟩
 | k+1=>by
  obtain ⟨ih0,ih1⟩:=j2e.mono_l k;refine ⟨?_,?_⟩
  ·intro y0 y1 y2;unfold j2e.j0
   exact zm
  ·intro y0 y1 y2 y3;unfold j2e.l0
   exact zm
theorem j2e.mono : ∀ a0 a1 k,LeO (j2e.f k a0 a1) (j2e.f (k+1) a0 a1):=by
 intro a0 a1 k;obtain ⟨ih0,ih1⟩:=j2e.mono_l k;unfold j2e.f
 exact zm
set_option maxHeartbeats 8000000 in
set_option maxRecDepth 100000 in
theorem j2e.calls (k : Nat) (a0:ByteArray) (a1:Int) (r1:Int) (r2:Bool) (w:World) (h:j2e.f k a0 a1=some (r1,r2)) :
 Calls Tryd.prog 32 #[.string a0, .int .i64 a1] w fun e w'=>e = .returned (.tuple #[.int .i64 r1, .bool r2])∧Drawn0 w w':=by
 have H:(if (wrap64 ((a0.size:Int) - a1))<6 then (j2e.j0 k a0 a1 true) else (if 0≤a1 then (if a1<(a0.size:Int) then (if (bt a0 a1)=92 then (if 0≤(wrap64 (a1+1)) then (if (wrap64 (a1+1))<(a0.size:Int) then (j2e.j0 k a0 a1 ((bt a0 (wrap64 (a1+1))) != 117)) else (none)) else (none)) else (j2e.j0 k a0 a1 true)) else (none)) else (none)))=some (r1,r2):=h;clear h;have HC3:=mk0 H;clear H;go_enter Tryd.func32,Tryd.ntmps32;go_upto_region 1 with (fail)
 go_cut [27] (fun v27 wc=>∃ (kq:Nat) (x27_2:Bool),v27 = .bool x27_2∧Aside0 (j2e.j0 kq a0 a1 x27_2=some (r1,r2))∧Aside0 (kq≤k)∧Drawn0 w wc)
 case first =>
  have H:=HC3.out;clear HC3;by_cases c4:(wrap64 ((a0.size:Int) - a1))<6
  ·rw [if_pos c4] at H;have c4b0:decide ((wrap64 ((a0.size:Int) - a1))<6)=true:=decide_eq_true c4;clear c4;(first|rw [c4b0]|(simp only [i64_w,i32_w];rw [c4b0])|skip);have H':=mk0 H;clear H;go_wp2;go_meet
   case rel=>exact ⟨_,(true),zq41,H',⟨by first|omega|exact Nat.le_refl _⟩,by repeat (first|exact Drawn0.refl _|apply Drawn0.step)⟩
  rw [if_neg c4] at H;have c4b0:decide ((wrap64 ((a0.size:Int) - a1))<6)=false:=decide_eq_false c4;clear c4;(first|rw [c4b0]|(simp only [i64_w,i32_w];rw [c4b0])|skip);by_cases c5:0≤a1
  rotate_left
  ·exact zl23
  rw [if_pos c5] at H;have c5b0:decide (0≤a1)=true:=decide_eq_true c5;clear c5;by_cases c6:a1<(a0.size:Int)
  rotate_left
  ·exact zl31
  rw [if_pos c6] at H;have c6b0:decide (a1<(a0.size:Int))=true:=decide_eq_true c6;clear c6;by_cases c8:(bt a0 a1)=92
  rotate_left
  ·rw [if_neg c8] at H;have c8b0:((bt a0 a1) == 92)=false:=beq_eq_false_iff_ne.mpr c8;have c8b1:((bt a0 a1) != 92)=true:=bne_iff_ne.mpr c8;have H':=mk0 H;clear H;have p7:0≤(a1:Int):=of_decide_eq_true zq26;have q7:a1<(a0.size:Int):=of_decide_eq_true zq26;have hx7:=bt_at a0 a1;replace p7:=eq_true p7;replace q7:=eq_true q7;go_wp2;go_meet
   case rel=>exact ⟨_,(true),zq41,H',⟨by first|omega|exact Nat.le_refl _⟩,by repeat (first|exact Drawn0.refl _|apply Drawn0.step)⟩
  rw [if_pos c8] at H;have c8b0:((bt a0 a1) == 92)=true:=beq_iff_eq.mpr c8;have c8b1:((bt a0 a1) != 92)=false:=bne_eq_false_iff_eq.mpr c8;clear c8;obtain ⟨ji9,hji9⟩:∃ j_:Int,(wrap64 (a1+1))=j_:=⟨_,rfl⟩;replace H:(if 0≤(ji9) then (if (ji9)<(a0.size:Int) then (j2e.j0 k a0 a1 ((bt a0 (ji9)) != 117)) else (none)) else (none))=some (r1,r2):=by first|(rw [hji9] at H;exact H)|(simp only [hji9] at H ⊢; exact H)
  have hji9w:(IntKind.i64.wrap (a1+1))=ji9:=(i64_w _).trans hji9;by_cases c10:0≤(ji9)
  rotate_left
  ·rw [if_neg c10] at H;exact absurd H (by simp)
  rw [if_pos c10] at H;have c10b0:decide (0≤(ji9))=true:=decide_eq_true c10;clear c10;by_cases c11:(ji9)<(a0.size:Int)
  rotate_left
  ·exact zl30
  rw [if_pos c11] at H;have c11b0:decide ((ji9)<(a0.size:Int))=true:=decide_eq_true c11;clear c11;have H':=mk0 H;clear H;have p7:0≤(a1:Int):=of_decide_eq_true zq26;have q7:a1<(a0.size:Int):=of_decide_eq_true zq26;have hx7:=bt_at a0 a1;replace p7:=eq_true p7;replace q7:=eq_true q7;have p12:0≤((ji9):Int):=of_decide_eq_true zq26;have q12:(ji9)<(a0.size:Int):=of_decide_eq_true zq26;have hx12:=bt_at a0 (ji9);replace p12:=eq_true p12;replace q12:=eq_true q12;go_wp2;(try simp only [← hji9]);go_meet
  case rel=>(try simp only [hji9]);exact ⟨_,(((bt a0 (ji9)) != 117)),(by first|with_reducible rfl|(simp only [← hji9];done)|rfl|(simp;done)|(simp only [← hji9]<;>(first|rfl|(simp;done)))|(simp only [← hji9];done)|(simp only [← hji9];rfl)|(simp [*];done)),(by first|exact H'|(simp only [← hji9] at H' ⊢; exact H')),⟨by first|omega|exact Nat.le_refl _⟩,by repeat (first|exact Drawn0.refl _|apply Drawn0.step)⟩
 case rest =>
  clear HC3
  try clear c1
  try clear p1
  try clear q1
  try clear hx1
  try clear p2
  try clear c3
  try clear c4
  try clear c4b0
  try clear c5
  try clear c5b0
  try clear c6
  try clear c6b0
  try clear p6
  try clear p7
  try clear q7
  try clear hx7
  try clear c8
  try clear c8b0
  try clear c8b1
  try clear c10
  try clear c10b0
  try clear c11
  try clear c11b0
  try clear p12
  try clear q12
  try clear hx12
  try clear p12
  try clear p7
  try clear q12
  try clear q7
  obtain ⟨kq,x27_2,rfl,HA,HJ2,⟨mc2,rfl⟩⟩:=hcut;cases kq with
  | zero=>exact absurd HA.out (by simp [j2e.j0])
  | succ kj2 =>
   have H:=HA.out;clear HA;simp only [j2e.j0] at H;by_cases c13:x27_2=true
   ·subst c13;have H1:(some (0,false))=some (r1,r2):=by rw [if_pos rfl] at H;exact H
    clear H;have H:=H1;clear H1;simp only [Option.some.injEq,Prod.mk.injEq] at H;obtain ⟨rfl,rfl⟩:=H;go_wp2;go_ret2;exact zl4
   replace c13:=Bool.eq_false_iff.mpr c13;subst c13;have H1:(j2e.l0 kj2 a0 a1 0 (wrap64 (a1+2)))=some (r1,r2):=by rw [if_neg (show ¬ (false=true) by decide)] at H;exact H
   clear H;have H:=H1;clear H1;have H':=mk0 H;clear H;go_wp2;go_loopg [6,7] kj2 (fun kq v6 v7 w'=>∃ (x6_2:Int) (x7_2:Int),v6 = .int .i64 x6_2∧v7 = .int .i64 x7_2∧Aside0 (j2e.l0 kq a0 a1 x6_2 x7_2=some (r1,r2))∧Aside0 (kq≤kj2)∧Drawn0 w w')
   case atStart=>exact ⟨(0),(wrap64 (a1+2)),zq41,zq41,H',⟨Nat.le_refl _⟩,by repeat (first|exact Drawn0.refl _|apply Drawn0.step)⟩
   case round =>
    clear H'
    try clear c1
    try clear p1
    try clear q1
    try clear hx1
    try clear c2
    try clear p2
    try clear c3
    try clear c4
    try clear c4b0
    try clear c5
    try clear c5b0
    try clear c6
    try clear c6b0
    try clear p6
    try clear p7
    try clear q7
    try clear hx7
    try clear c8
    try clear c8b0
    try clear c8b1
    try clear c10
    try clear c10b0
    try clear c11
    try clear c11b0
    try clear p12
    try clear q12
    try clear hx12
    try clear c13
    try clear p1
    try clear p12
    try clear p2
    try clear p6
    try clear p7
    try clear q1
    try clear q12
    try clear q7
    obtain ⟨x6_2,x7_2,rfl,rfl,HA,HK2,⟨m2,rfl⟩⟩:=hrel;cases gk with
    | zero=>exact absurd HA.out (by simp [j2e.l0])
    | succ k2 =>
     have H:=HA.out;clear HA;simp only [j2e.l0] at H;by_cases c14:x7_2<(wrap64 (a1+6))
     rotate_left
     ·rw [if_neg c14] at H;have c14b0:decide (x7_2<(wrap64 (a1+6)))=false:=decide_eq_false c14;clear c14;simp only [Option.some.injEq,Prod.mk.injEq] at H;obtain ⟨rfl,rfl⟩:=H;go_wp2;go_ret2;exact ⟨by first|rfl|(simp;done)|(simp [*];done),by repeat (first|exact Drawn0.refl _|apply Drawn0.step)⟩
     rw [if_pos c14] at H;have c14b0:decide (x7_2<(wrap64 (a1+6)))=true:=decide_eq_true c14;clear c14;by_cases c15:0≤x7_2
     rotate_left
     ·rw [if_neg c15] at H;exact absurd H (by simp)
     rw [if_pos c15] at H;have c15b0:decide (0≤x7_2)=true:=decide_eq_true c15;clear c15;by_cases c16:x7_2<(a0.size:Int)
     rotate_left
     ·rw [if_neg c16] at H;exact absurd H (by simp)
     rw [if_pos c16] at H;have c16b0:decide (x7_2<(a0.size:Int))=true:=decide_eq_true c16;clear c16;replace H:=Option.bind_eq_some_iff.mp H;obtain ⟨⟨t101,t102⟩,A180,H⟩:=H;replace H:(if t102=true then (j2e.l0 k2 a0 a1 (wrap64 ((wrap64 (x6_2*16))+t101)) (wrap64 (x7_2+1))) else (some (0,false)))=some (r1,r2):=H;have A18:=mk0 A180;clear A180;by_cases c19:t102=true
     rotate_left
     ·replace c19:=Bool.eq_false_iff.mpr c19;subst c19;have H1:(some (0,false))=some (r1,r2):=by rw [if_neg (show ¬ (false=true) by decide)] at H;exact H
      clear H;have H:=H1;clear H1;simp only [Option.some.injEq,Prod.mk.injEq] at H;obtain ⟨rfl,rfl⟩:=H;have p17:0≤(x7_2:Int):=of_decide_eq_true zq26;have q17:x7_2<(a0.size:Int):=of_decide_eq_true zq26;have hx17:=bt_at a0 x7_2;replace p17:=eq_true p17;replace q17:=eq_true q17;go_wp2_with (first|((with_reducible refine j1w (f:=49) rfl ?_);refine j2t (some 40) rfl rfl Tryd.func49 zq7 rfl #[.int .u8 (bt a0 x7_2)] rfl zq1 ?_;(with_reducible refine (j2a.calls k2 (bt a0 x7_2) t101 false _ A18.out).mono ?_);rintro e w' ⟨rfl,⟨nd,rfl⟩⟩;refine ⟨_,rfl,?_⟩))
      go_ret2;exact zl4
     subst c19;have H1:(j2e.l0 k2 a0 a1 (wrap64 ((wrap64 (x6_2*16))+t101)) (wrap64 (x7_2+1)))=some (r1,r2):=by rw [if_pos rfl] at H;exact H
     clear H;have H:=H1;clear H1;have H':=mk0 H;clear H;have p17:0≤(x7_2:Int):=of_decide_eq_true zq26;have q17:x7_2<(a0.size:Int):=of_decide_eq_true zq26;have hx17:=bt_at a0 x7_2;replace p17:=eq_true p17;replace q17:=eq_true q17;go_wp2_with (first|((with_reducible refine j1w (f:=49) rfl ?_);refine j2t (some 40) rfl rfl Tryd.func49 zq7 rfl #[.int .u8 (bt a0 x7_2)] rfl zq1 ?_;(with_reducible refine (j2a.calls k2 (bt a0 x7_2) t101 true _ A18.out).mono ?_);rintro e w' ⟨rfl,⟨nd,rfl⟩⟩;refine ⟨_,rfl,?_⟩))
     go_roundg k2
     case measure=>have:=HJ2.out;have:=HK2.out;omega
     case rel=>exact ⟨(wrap64 ((wrap64 (x6_2*16))+t101)),(wrap64 (x7_2+1)),zq41,zq41,H',⟨by have:=HJ2.out;have:=HK2.out;omega⟩,by repeat (first|exact Drawn0.refl _|apply Drawn0.step)⟩
def j4k.f (a0 : Int):Option (Int):=if a0=98 then (some 8) else (if a0=102 then (some 12) else (if a0=110 then (some 10) else (if a0=114 then (some 13) else (if a0=116 then (some 9) else (some a0)))))
set_option maxHeartbeats 8000000 in
set_option maxRecDepth 100000 in
theorem j4k.calls (a0 : Int) (r:Int) (w:World) (h:j4k.f a0=some r) :
 Calls Tryd.prog 33 #[.int .u8 a0] w fun e w'=>e = .returned (.int .u8 r)∧Drawn0 w w':=by
 have H:(if a0=98 then (some 8) else (if a0=102 then (some 12) else (if a0=110 then (some 10) else (if a0=114 then (some 13) else (if a0=116 then (some 9) else (some a0))))))=some r:=h;clear h;by_cases c2:a0=98
 ·rw [if_pos c2] at H;have c2b0:(a0 == 98)=true:=beq_iff_eq.mpr c2;have c2b1:(a0 != 98)=false:=bne_eq_false_iff_eq.mpr c2;clear c2;obtain rfl:=Option.some.inj H;go_enter Tryd.func33,Tryd.ntmps33;go_wp2;go_ret;exact ⟨by first|rfl|(simp;done)|(simp [*];done),by repeat (first|exact Drawn0.refl _|apply Drawn0.step)⟩
 rw [if_neg c2] at H;have c2b0:(a0 == 98)=false:=beq_eq_false_iff_ne.mpr c2;have c2b1:(a0 != 98)=true:=bne_iff_ne.mpr c2;by_cases c3:a0=102
 ·rw [if_pos c3] at H;have c3b0:(a0 == 102)=true:=beq_iff_eq.mpr c3;have c3b1:(a0 != 102)=false:=bne_eq_false_iff_eq.mpr c3;clear c3;obtain rfl:=Option.some.inj H;go_enter Tryd.func33,Tryd.ntmps33;go_wp2;go_ret;exact ⟨by first|rfl|(simp;done)|(simp [*];done),by repeat (first|exact Drawn0.refl _|apply Drawn0.step)⟩
 rw [if_neg c3] at H;have c3b0:(a0 == 102)=false:=beq_eq_false_iff_ne.mpr c3;have c3b1:(a0 != 102)=true:=bne_iff_ne.mpr c3;by_cases c4:a0=110
 ·rw [if_pos c4] at H;have c4b0:(a0 == 110)=true:=beq_iff_eq.mpr c4;have c4b1:(a0 != 110)=false:=bne_eq_false_iff_eq.mpr c4;clear c4;obtain rfl:=Option.some.inj H;go_enter Tryd.func33,Tryd.ntmps33;go_wp2;go_ret;exact ⟨by first|rfl|(simp;done)|(simp [*];done),by repeat (first|exact Drawn0.refl _|apply Drawn0.step)⟩
 rw [if_neg c4] at H;have c4b0:(a0 == 110)=false:=beq_eq_false_iff_ne.mpr c4;have c4b1:(a0 != 110)=true:=bne_iff_ne.mpr c4;by_cases c5:a0=114
 ·rw [if_pos c5] at H;have c5b0:(a0 == 114)=true:=beq_iff_eq.mpr c5;have c5b1:(a0 != 114)=false:=bne_eq_false_iff_eq.mpr c5;clear c5;obtain rfl:=Option.some.inj H;go_enter Tryd.func33,Tryd.ntmps33;go_wp2;go_ret;exact ⟨by first|rfl|(simp;done)|(simp [*];done),by repeat (first|exact Drawn0.refl _|apply Drawn0.step)⟩
 rw [if_neg c5] at H;have c5b0:(a0 == 114)=false:=beq_eq_false_iff_ne.mpr c5;have c5b1:(a0 != 114)=true:=bne_iff_ne.mpr c5;by_cases c6:a0=116
 rotate_left
 ·rw [if_neg c6] at H;have c6b0:(a0 == 116)=false:=beq_eq_false_iff_ne.mpr c6;have c6b1:(a0 != 116)=true:=bne_iff_ne.mpr c6;obtain rfl:=Option.some.inj H;go_enter Tryd.func33,Tryd.ntmps33;go_wp2;go_ret;exact ⟨by first|rfl|(simp;done)|(simp [*];done),by repeat (first|exact Drawn0.refl _|apply Drawn0.step)⟩
 rw [if_pos c6] at H;have c6b0:(a0 == 116)=true:=beq_iff_eq.mpr c6;have c6b1:(a0 != 116)=false:=bne_eq_false_iff_eq.mpr c6;clear c6;obtain rfl:=Option.some.inj H;go_enter Tryd.func33,Tryd.ntmps33;go_wp2;go_ret;exact zl4
def j3x.f (a0 : Int):Option (Bool):=if 55296≤a0 then (some (decide (a0≤56319))) else (some false)
set_option maxHeartbeats 8000000 in
set_option maxRecDepth 100000 in
theorem j3x.calls (a0 : Int) (r:Bool) (w:World) (h:j3x.f a0=some r) :
 Calls Tryd.prog 34 #[.int .i64 a0] w fun e w'=>e = .returned (.bool r)∧Drawn0 w w':=by
 have H:(if 55296≤a0 then (some (decide (a0≤56319))) else (some false))=some r:=h;clear h;by_cases c2:55296≤a0
 ·rw [if_pos c2] at H;have c2b0:decide (55296≤a0)=true:=decide_eq_true c2;clear c2;obtain rfl:=Option.some.inj H;go_enter Tryd.func34,Tryd.ntmps34;go_wp2;go_ret;exact ⟨by first|rfl|(simp;done)|(simp [*];done),by repeat (first|exact Drawn0.refl _|apply Drawn0.step)⟩
 rw [if_neg c2] at H;have c2b0:decide (55296≤a0)=false:=decide_eq_false c2;clear c2;obtain rfl:=Option.some.inj H;go_enter Tryd.func34,Tryd.ntmps34;go_wp2;go_ret;exact zl4
def j4o.f (a0 : Int):Option (Bool):=if 56320≤a0 then (some (decide (a0≤57343))) else (some false)
set_option maxHeartbeats 8000000 in
set_option maxRecDepth 100000 in
theorem j4o.calls (a0 : Int) (r:Bool) (w:World) (h:j4o.f a0=some r) :
 Calls Tryd.prog 35 #[.int .i64 a0] w fun e w'=>e = .returned (.bool r)∧Drawn0 w w':=by
 have H:(if 56320≤a0 then (some (decide (a0≤57343))) else (some false))=some r:=h;clear h;by_cases c2:56320≤a0
 ·rw [if_pos c2] at H;have c2b0:decide (56320≤a0)=true:=decide_eq_true c2;clear c2;obtain rfl:=Option.some.inj H;go_enter Tryd.func35,Tryd.ntmps35;go_wp2;go_ret;exact ⟨by first|rfl|(simp;done)|(simp [*];done),by repeat (first|exact Drawn0.refl _|apply Drawn0.step)⟩
 rw [if_neg c2] at H;have c2b0:decide (56320≤a0)=false:=decide_eq_false c2;clear c2;obtain rfl:=Option.some.inj H;go_enter Tryd.func35,Tryd.ntmps35;go_wp2;go_ret;exact zl4
def j1y.j0 : Nat → List Int→Int→Bool→Option (List Int)
  | 0,_,_,_=>none
  | k+1,x0,x1,x27=>if x27=true then ((some (([239,191,189]:List Int):List Int)).bind fun y112=>(if x0.length+y112.length<140737488355328 then (some (x0++y112)) else (none))) else (if x1<65536 then ((some (([(wrap64 (224+(wrap64 (Int.tdiv x1 4096)))) % 256,(wrap64 (128+(Int.tmod (wrap64 (Int.tdiv x1 64)) 64))) % 256,(wrap64 (128+(Int.tmod x1 64))) % 256]:List Int):List Int)).bind fun y118=>(if x0.length+y118.length<140737488355328 then (some (x0++y118)) else (none))) else ((some (([(wrap64 (240+(wrap64 (Int.tdiv x1 262144)))) % 256,(wrap64 (128+(Int.tmod (wrap64 (Int.tdiv x1 4096)) 64))) % 256,(wrap64 (128+(Int.tmod (wrap64 (Int.tdiv x1 64)) 64))) % 256,(wrap64 (128+(Int.tmod x1 64))) % 256]:List Int):List Int)).bind fun y124=>(if x0.length+y124.length<140737488355328 then (some (x0++y124)) else (none))))
def j1y.f (k : Nat) (l0:List Int) (a1:Int):Option (List Int):=if a1<128 then (if l0.length<140737488355328 then (some (l0++[(a1) % 256])) else (none)) else (if a1<2048 then ((some (([(wrap64 (192+(wrap64 (Int.tdiv a1 64)))) % 256,(wrap64 (128+(Int.tmod a1 64))) % 256]:List Int):List Int)).bind fun y104=>(if l0.length+y104.length<140737488355328 then (some (l0++y104)) else (none))) else ((j3x.f a1).bind fun t110=>(if t110=true then (j1y.j0 k l0 a1 true) else ((j4o.f a1).bind fun t111=>(j1y.j0 k l0 a1 t111)))))
theorem j1y.mono_l : ∀ k,(∀ y0 y1 y2,LeO (j1y.j0 k y0 y1 y2) (j1y.j0 (k+1) y0 y1 y2))
 | 0=>fun _ _ _ r h=>by simp [j1y.j0] at h
 | k+1=>by
  have ih0:=j1y.mono_l k
  ·intro y0 y1 y2;unfold j1y.j0
   exact zm
theorem j1y.mono : ∀ a0 a1 k,LeO (j1y.f k a0 a1) (j1y.f (k+1) a0 a1):=by
 intro a0 a1 k;have ih0:=j1y.mono_l k;unfold j1y.f
 exact zm
set_option maxHeartbeats 8000000 in
set_option maxRecDepth 100000 in
theorem j1y.calls (k : Nat) (P0_:Nat→Prop) (u9000_:Value) (l0:List Int) (a1:Int) (r:List Int) (w0 w:World) (hB:Below w0.heap.size w0 w) (ho0:Kd.R (Kd.int .u8) 5 w w0.heap.size P0_ u9000_ l0) (h:j1y.f k l0 a1=some r) :
 Calls Tryd.prog 36 #[u9000_, .int .i64 a1] w fun e w'=>∃ v0_:Value,e = .returned (v0_)∧Kd.R (Kd.int .u8) 5 w' w0.heap.size (fun k_=>(P0_ k_∨w.heap.size≤k_)) v0_ r∧Below w0.heap.size w0 w'∧Kept w w' (fun k_=>P0_ k_):=by
 have HO0:=mk0 (show Kd.R (Kd.int .u8) 5 w w0.heap.size (fun k_=>(P0_ k_∨w.heap.size≤k_)) u9000_ l0 from Kd.R_mono ho0 (fun k_ hk=>(.inl hk)));have HK:=mk0 (Kept.refl w (fun k_=>P0_ k_));have HW0:=mk0 hB.size;have HB:=mk0 hB;clear hB;have H:(if a1<128 then (if l0.length<140737488355328 then (some (l0++[(a1) % 256])) else (none)) else (if a1<2048 then ((some (([(wrap64 (192+(wrap64 (Int.tdiv a1 64)))) % 256,(wrap64 (128+(Int.tmod a1 64))) % 256]:List Int):List Int)).bind fun y104=>(if l0.length+y104.length<140737488355328 then (some (l0++y104)) else (none))) else ((j3x.f a1).bind fun t110=>(if t110=true then (j1y.j0 k l0 a1 true) else ((j4o.f a1).bind fun t111=>(j1y.j0 k l0 a1 t111))))))=some r:=h;clear h;by_cases c3:a1<128
 ·rw [if_pos c3] at H;have c3b0:decide (a1<128)=true:=decide_eq_true c3;clear c3;by_cases c4:l0.length<140737488355328
  rotate_left
  ·rw [if_neg c4] at H;exact absurd H (by simp)
  rw [if_pos c4] at H;have LMc4:=mk0 c4;clear c4;obtain ⟨y101,hy101⟩:∃ y_:List Int,y_=(l0++[(a1) % 256]):=⟨_,rfl⟩;replace H:(some y101)=some r:=by (rw [hy101];with_reducible exact H)
  have Ny101:=mk0 hy101;clear hy101;obtain rfl:=Option.some.inj H;go_enter Tryd.func36,Tryd.ntmps36;go_wp2_with (first|((with_reducible refine j3f (b := .append) (xs:=#[.tmp 8, .tmp 11]) rfl ?_);at_builtin;refine Kd.R_append (Kd.int .u8) (w0:=w0) w0.heap.size rfl (.tmp 8) (.tmp 11) 55 5 (.int .u8 0) 1 rfl Tryd.underlying55 info5 rfl zq50 (by omega) u9000_ l0 ((a1) % 256) [.int .u8 ((a1) % 256)] (fun k_=>(P0_ k_∨w.heap.size≤k_)) (fun _=>False) rfl rfl ?aP (fun _ hk=>hk.elim) ?aF ?aO ?aB ?aS ?aL ?_;(case aP=>exact rfl);(case aB=>exact zq4);(case aF=>exact (fun k_ hk=>(.inr (Nat.le_trans (by exact HK.out.1) hk))));(case aO=>exact zq64);(case aS=>exact (j2p zq4));(case aL=>have:=LMc4.out;first|omega|(simp only [List.length_cons,List.length_nil] at this ⊢; omega));intro v102 w5 ho hb hg hat;rw [← Ny101.out] at ho;have n0_:=mk0 (hb);have n1_:=mk0 (Kept.of_grown (S:=(fun k_=>P0_ k_)) hg zq30 (fun k_ e_=>(HO0.out.1 k_ e_)));have n2_:=mk0 (ho);clear HB HK HO0;have HB:=n0_;have HK:=n1_;have HO103:=n2_;clear n0_ n1_ n2_;clear ho hb hg hat))
  go_ret;exact ⟨_,by rfl,by (with_reducible repeat (first|apply Kd.R_alloc|apply Kd.R_drewN|apply Kd.R_drew));exact HO103.out,by repeat (first|(with_reducible first|exact HB.out|apply j1f|apply j1d|apply j1h)|exact HB.out),by repeat (first|(with_reducible first|exact HK.out|apply Kept.alloc|apply Kept.drewN|apply Kept.drew)|exact HK.out)⟩
 rw [if_neg c3] at H;have c3b0:decide (a1<128)=false:=decide_eq_false c3;clear c3;by_cases c6:a1<2048
 ·rw [if_pos c6] at H;have c6b0:decide (a1<2048)=true:=decide_eq_true c6;clear c6;obtain ⟨y104,hy104⟩:∃ y_:List Int,y_=(([(wrap64 (192+(wrap64 (Int.tdiv a1 64)))) % 256,(wrap64 (128+(Int.tmod a1 64))) % 256]:List Int)):=⟨_,rfl⟩;replace H:(if l0.length+y104.length<140737488355328 then (some (l0++y104)) else (none))=some r:=by (have H2_:=(Option.bind_some _ _).symm.trans H;rw [hy104];with_reducible exact H2_)
  have Ny104:=mk0 hy104;clear hy104;by_cases c7:l0.length+y104.length<140737488355328
  rotate_left
  ·exact zl24
  rw [if_pos c7] at H;have LMc7:=mk0 c7;clear c7;obtain ⟨y107,hy107⟩:∃ y_:List Int,y_=(l0++y104):=⟨_,rfl⟩;replace H:(some y107)=some r:=by (rw [hy107];with_reducible exact H)
  have Ny107:=mk0 hy107;clear hy107;obtain rfl:=Option.some.inj H;go_enter Tryd.func36,Tryd.ntmps36;go_wp2_with (first|((with_reducible refine j2x (N:=25) rfl ?_);refine Kd.R_lit (Kd.int .u8) _ 5 ?hg (N:=25) ?hd (xs:=([(wrap64 (192+(wrap64 (Int.tdiv a1 64)))) % 256,(wrap64 (128+(Int.tmod a1 64))) % 256]:List Int)) (inner:=[.int .u8 ((wrap64 (192+(wrap64 (Int.tdiv a1 64)))) % 256), .int .u8 ((wrap64 (128+(Int.tmod a1 64))) % 256)]) (ok:=fun _=>True) (okp:=fun _=>True) ?hr ?hp (fun _ hk=>hk) trivial (Below.refl _ _) (Nat.le_refl _) (by simp) ?_;(case hd=>rfl);(case hg=>rfl);(case hr=>exact zq28);(case hp=>exact (Reps.one (show Kd.M (Kd.int .u8) _ _ _ ((wrap64 (192+(wrap64 (Int.tdiv a1 64)))) % 256) [.int .u8 ((wrap64 (192+(wrap64 (Int.tdiv a1 64)))) % 256)] from rfl) (Reps.one (show Kd.M (Kd.int .u8) _ _ _ ((wrap64 (128+(Int.tmod a1 64))) % 256) [.int .u8 ((wrap64 (128+(Int.tmod a1 64))) % 256)] from rfl) (Reps.none _ _))));intro v105 w8 ho9 hb hg_ hnew_;clear hg_ hnew_;(first|rw [← Ny104.out] at ho9|(simp only [Int.reduceToNat] at ho9;rw [← Ny104.out] at ho9));have HO106:=mk0 (Kd.R_lower (Kd.R_new' (Kd.R_newM (M:=fun k_=>(P0_ k_∨w.heap.size≤k_)) ho9 (by exact HK.out.1) (fun k_ h_ => .inr h_)) (Kd.R_lt zq64)) (j2p zq4));replace HO0:=mk0 (Kd.R_elder' zq64 (Kd.R_base ho9) hb);replace HK:=mk0 (Kept.below (S:=(fun k_=>P0_ k_)) zq30 hb);replace HB:=mk0 (j1o zq4 hb);clear hb ho9;obtain ⟨Ao11,co11,eo11⟩:=Kd.R_slice HO106.out;subst eo11)|((with_reducible refine j3f (b := .append) (xs:=#[.tmp 16, .tmp 25]) rfl ?_);at_builtin;refine Kd.R_append_rows (Kd.int .u8) (w0:=w0) w0.heap.size rfl (.tmp 16) (.tmp 25) 55 5 (.int .u8 0) 1 rfl Tryd.underlying55 info5 rfl zq50 (by omega) u9000_ l0 y104 _ _ _ (fun k_=>(P0_ k_∨w.heap.size≤k_)∧some k_≠(.slice Ao11 y104.length co11:Value).ownBlock) (fun _=>False) rfl rfl ?aO ?aR (fun _ _ h=>h) (fun _ h=>h.elim) ?aF ?aB ?aS ?aL ?_;(case aR=>repeat (first|exact (Kd.R_reads' HO106.out).2.2|(with_reducible refine Kd.C_alloc ?_ _)|(with_reducible refine Kd.C_drewN ?_ _)|(with_reducible refine Kd.C_drew ?_)));(case aB=>exact zq4);(case aF=>exact (fun k_ hk=>⟨(.inr (Nat.le_trans (by exact HK.out.1) hk)),Kd.fresh' (Kd.R_lt (by (with_reducible repeat (first|apply Kd.R_alloc|apply Kd.R_drewN|apply Kd.R_drew));exact HO106.out)) k_ hk⟩));(case aO=>exact zq64);(case aS=>exact (j2p zq4));(case aL=>have:=LMc7.out;first|omega|(simp only [List.length_cons,List.length_nil] at this ⊢; omega));intro v108 w10 ho hb hg hat;rw [← Ny107.out] at ho;have n0_:=mk0 (Kd.R_after (ok:=(fun k_=>(P0_ k_∨w.heap.size≤k_))) (by (with_reducible repeat (first|apply Kd.R_alloc|apply Kd.R_drewN|apply Kd.R_drew));exact Kd.R_mono HO106.out (fun _ hk=>⟨hk.1.1,hk.2⟩)) hg hat);have n1_:=mk0 (hb);have n2_:=mk0 (Kept.of_grown (S:=(fun k_=>P0_ k_)) hg zq30 (fun k_ e_=>(HO0.out.1 k_ e_).1));have n3_:=mk0 (ho);clear HO106 HB HK HO0;have HO106:=n0_;have HB:=n1_;have HK:=n2_;have HO109:=n3_;clear n0_ n1_ n2_ n3_;clear ho hb hg hat))
  go_ret;exact ⟨_,by rfl,by (with_reducible repeat (first|apply Kd.R_alloc|apply Kd.R_drewN|apply Kd.R_drew));exact Kd.R_mono HO109.out (fun _ hk=>hk.1),by repeat (first|(with_reducible first|exact HB.out|apply j1f|apply j1d|apply j1h)|exact HB.out),by repeat (first|(with_reducible first|exact HK.out|apply Kept.alloc|apply Kept.drewN|apply Kept.drew)|exact HK.out)⟩
 rw [if_neg c6] at H;have c6b0:decide (a1<2048)=false:=decide_eq_false c6;clear c6;have HC12:=mk0 H;clear H;go_enter Tryd.func36,Tryd.ntmps36;go_upto_region 5 with (fail)
 go_cut [27] (fun v27 wc=>∃ (kq:Nat) (x27_11:Bool),v27 = .bool x27_11∧Aside0 (j1y.j0 kq l0 a1 x27_11=some r)∧Aside0 (kq≤k)∧Aside0 (Kd.R (Kd.int .u8) 5 wc w0.heap.size (fun k_=>(P0_ k_∨w.heap.size≤k_)) u9000_ l0)∧Aside0 (Kept w wc (fun k_=>P0_ k_))∧Aside0 (Below w0.heap.size w0 wc))
 case first =>
  have H:=HC12.out;clear HC12;replace H:=Option.bind_eq_some_iff.mp H;obtain ⟨t110,A130,H⟩:=H;(try dsimp only at H);have A13:=mk0 A130;clear A130;by_cases c14:t110=true
  ·subst c14;rw [if_pos rfl] at H;have H':=mk0 H;clear H;go_wp2_with (first|((with_reducible refine j1w (f:=34) rfl ?_);refine j2t (some 29) rfl rfl Tryd.func34 zq7 rfl #[.int .i64 a1] rfl zq1 ?_;(with_reducible refine (j3x.calls a1 true _ A13.out).mono ?_);rintro e w' ⟨rfl,⟨nd,rfl⟩⟩;refine ⟨_,rfl,?_⟩))
   go_meet
   case rel=>exact ⟨_,(true),(by rfl),H',⟨by omega⟩,⟨by (with_reducible repeat (first|apply Kd.R_alloc|apply Kd.R_drewN|apply Kd.R_drew));exact HO0.out⟩,⟨by repeat (first|(with_reducible first|exact HK.out|apply Kept.alloc|apply Kept.drewN|apply Kept.drew)|exact HK.out)⟩,⟨by repeat (first|(with_reducible first|exact HB.out|apply j1f|apply j1d|apply j1h)|exact HB.out)⟩⟩
  replace c14:=Bool.eq_false_iff.mpr c14;subst c14;rw [if_neg (show ¬ (false=true) by decide)] at H;replace H:=Option.bind_eq_some_iff.mp H;obtain ⟨t111,A150,H⟩:=H;(try dsimp only at H);have A15:=mk0 A150;clear A150;have H':=mk0 H;clear H;go_wp2_with (first|((with_reducible refine j1w (f:=34) rfl ?_);refine j2t (some 29) rfl rfl Tryd.func34 zq7 rfl #[.int .i64 a1] rfl zq1 ?_;(with_reducible refine (j3x.calls a1 false _ A13.out).mono ?_);rintro e w' ⟨rfl,⟨nd,rfl⟩⟩;refine ⟨_,rfl,?_⟩)|(go_at_call 35;(with_reducible refine (j4o.calls a1 t111 _ A15.out).mono ?_);rintro e w' ⟨rfl,⟨nd,rfl⟩⟩))
  go_meet
  case rel=>exact ⟨_,(t111),(by rfl),H',⟨by omega⟩,⟨by (with_reducible repeat (first|apply Kd.R_alloc|apply Kd.R_drewN|apply Kd.R_drew));exact HO0.out⟩,⟨by repeat (first|(with_reducible first|exact HK.out|apply Kept.alloc|apply Kept.drewN|apply Kept.drew)|exact HK.out)⟩,⟨by repeat (first|(with_reducible first|exact HB.out|apply j1f|apply j1d|apply j1h)|exact HB.out)⟩⟩
 case rest =>
  clear HC12 c3b0 c6b0;obtain ⟨kq,x27_11,rfl,HA,HJ11,HO_0,HK,HB⟩:=hcut;cases kq with
  | zero=>exact absurd HA.out (by simp [j1y.j0])
  | succ kj11 =>
   have H:=HA.out;clear HA;simp only [j1y.j0] at H;by_cases c16:x27_11=true
   ·subst c16;rw [if_pos rfl] at H;obtain ⟨y112,hy112⟩:∃ y_:List Int,y_=(([239,191,189]:List Int)):=⟨_,rfl⟩;replace H:(if l0.length+y112.length<140737488355328 then (some (l0++y112)) else (none))=some r:=by (have H2_:=(Option.bind_some _ _).symm.trans H;rw [hy112];with_reducible exact H2_)
    have Ny112:=mk0 hy112;clear hy112;by_cases c17:l0.length+y112.length<140737488355328
    rotate_left
    ·rw [if_neg c17] at H;exact absurd H (by simp)
    rw [if_pos c17] at H;have LMc17:=mk0 c17;clear c17;obtain ⟨y115,hy115⟩:∃ y_:List Int,y_=(l0++y112):=⟨_,rfl⟩;replace H:(some y115)=some r:=by (rw [hy115];with_reducible exact H)
    have Ny115:=mk0 hy115;clear hy115;obtain rfl:=Option.some.inj H;go_wp2_with (first|((with_reducible refine j2x (N:=35) rfl ?_);refine Kd.R_lit (Kd.int .u8) _ 5 ?hg (N:=35) ?hd (xs:=([239,191,189]:List Int)) (inner:=[.int .u8 239, .int .u8 191, .int .u8 189]) (ok:=fun _=>True) (okp:=fun _=>True) ?hr ?hp (fun _ hk=>hk) trivial (Below.refl _ _) (Nat.le_refl _) (by simp) ?_;(case hd=>rfl);(case hg=>rfl);(case hr=>exact zq28);(case hp=>exact (Reps.one (show Kd.M (Kd.int .u8) _ _ _ 239 [.int .u8 239] from rfl) (Reps.one (show Kd.M (Kd.int .u8) _ _ _ 191 [.int .u8 191] from rfl) (Reps.one (show Kd.M (Kd.int .u8) _ _ _ 189 [.int .u8 189] from rfl) (Reps.none _ _)))));intro v113 w18 ho19 hb hg_ hnew_;clear hg_ hnew_;(first|rw [← Ny112.out] at ho19|(simp only [Int.reduceToNat] at ho19;rw [← Ny112.out] at ho19));have HO114:=mk0 (Kd.R_lower (Kd.R_new' (Kd.R_newM (M:=fun k_=>(P0_ k_∨w.heap.size≤k_)) ho19 (by exact HK.out.1) (fun k_ h_ => .inr h_)) (Kd.R_lt zq35)) (j2p zq4));replace HO_0:=mk0 (Kd.R_elder' zq35 (Kd.R_base ho19) hb);replace HK:=mk0 (Kept.below (S:=(fun k_=>P0_ k_)) zq30 hb);replace HB:=mk0 (j1o zq4 hb);clear hb ho19;obtain ⟨Ao21,co21,eo21⟩:=Kd.R_slice HO114.out;subst eo21)|((with_reducible refine j3f (b := .append) (xs:=#[.tmp 34, .tmp 35]) rfl ?_);at_builtin;refine Kd.R_append_rows (Kd.int .u8) (w0:=w0) w0.heap.size rfl (.tmp 34) (.tmp 35) 55 5 (.int .u8 0) 1 rfl Tryd.underlying55 info5 rfl zq50 (by omega) u9000_ l0 y112 _ _ _ (fun k_=>(P0_ k_∨w.heap.size≤k_)∧some k_≠(.slice Ao21 y112.length co21:Value).ownBlock) (fun _=>False) rfl rfl ?aO ?aR (fun _ _ h=>h) (fun _ h=>h.elim) ?aF ?aB ?aS ?aL ?_;(case aR=>repeat (first|exact (Kd.R_reads' HO114.out).2.2|(with_reducible refine Kd.C_alloc ?_ _)|(with_reducible refine Kd.C_drewN ?_ _)|(with_reducible refine Kd.C_drew ?_)));(case aB=>exact zq4);(case aF=>exact (fun k_ hk=>⟨(.inr (Nat.le_trans (by exact HK.out.1) hk)),Kd.fresh' (Kd.R_lt (by (with_reducible repeat (first|apply Kd.R_alloc|apply Kd.R_drewN|apply Kd.R_drew));exact HO114.out)) k_ hk⟩));(case aO=>exact zq35);(case aS=>exact (j2p zq4));(case aL=>have:=LMc17.out;first|omega|(simp only [List.length_cons,List.length_nil] at this ⊢; omega));intro v116 w20 ho hb hg hat;rw [← Ny115.out] at ho;have n0_:=mk0 (Kd.R_after (ok:=(fun k_=>(P0_ k_∨w.heap.size≤k_))) (by (with_reducible repeat (first|apply Kd.R_alloc|apply Kd.R_drewN|apply Kd.R_drew));exact Kd.R_mono HO114.out (fun _ hk=>⟨hk.1.1,hk.2⟩)) hg hat);have n1_:=mk0 (hb);have n2_:=mk0 (Kept.of_grown (S:=(fun k_=>P0_ k_)) hg zq30 (fun k_ e_=>(HO_0.out.1 k_ e_).1));have n3_:=mk0 (ho);clear HO114 HB HK HO_0;have HO114:=n0_;have HB:=n1_;have HK:=n2_;have HO117:=n3_;clear n0_ n1_ n2_ n3_;clear ho hb hg hat))
    go_ret;exact ⟨_,by rfl,by (with_reducible repeat (first|apply Kd.R_alloc|apply Kd.R_drewN|apply Kd.R_drew));exact Kd.R_mono HO117.out (fun _ hk=>hk.1),by repeat (first|(with_reducible first|exact HB.out|apply j1f|apply j1d|apply j1h)|exact HB.out),by repeat (first|(with_reducible first|exact HK.out|apply Kept.alloc|apply Kept.drewN|apply Kept.drew)|exact HK.out)⟩
   replace c16:=Bool.eq_false_iff.mpr c16;subst c16;rw [if_neg (show ¬ (false=true) by decide)] at H;by_cases c22:a1<65536
   ·rw [if_pos c22] at H;have c22b0:decide (a1<65536)=true:=decide_eq_true c22;clear c22;obtain ⟨y118,hy118⟩:∃ y_:List Int,y_=(([(wrap64 (224+(wrap64 (Int.tdiv a1 4096)))) % 256,(wrap64 (128+(Int.tmod (wrap64 (Int.tdiv a1 64)) 64))) % 256,(wrap64 (128+(Int.tmod a1 64))) % 256]:List Int)):=⟨_,rfl⟩;replace H:(if l0.length+y118.length<140737488355328 then (some (l0++y118)) else (none))=some r:=by (have H2_:=(Option.bind_some _ _).symm.trans H;rw [hy118];with_reducible exact H2_)
    have Ny118:=mk0 hy118;clear hy118;by_cases c23:l0.length+y118.length<140737488355328
    rotate_left
    ·rw [if_neg c23] at H;exact absurd H (by simp)
    rw [if_pos c23] at H;have LMc23:=mk0 c23;clear c23;obtain ⟨y121,hy121⟩:∃ y_:List Int,y_=(l0++y118):=⟨_,rfl⟩;replace H:(some y121)=some r:=by (rw [hy121];with_reducible exact H)
    have Ny121:=mk0 hy121;clear hy121;obtain rfl:=Option.some.inj H;go_wp2_with (first|((with_reducible refine j2x (N:=54) rfl ?_);refine Kd.R_lit (Kd.int .u8) _ 5 ?hg (N:=54) ?hd (xs:=([(wrap64 (224+(wrap64 (Int.tdiv a1 4096)))) % 256,(wrap64 (128+(Int.tmod (wrap64 (Int.tdiv a1 64)) 64))) % 256,(wrap64 (128+(Int.tmod a1 64))) % 256]:List Int)) (inner:=[.int .u8 ((wrap64 (224+(wrap64 (Int.tdiv a1 4096)))) % 256), .int .u8 ((wrap64 (128+(Int.tmod (wrap64 (Int.tdiv a1 64)) 64))) % 256), .int .u8 ((wrap64 (128+(Int.tmod a1 64))) % 256)]) (ok:=fun _=>True) (okp:=fun _=>True) ?hr ?hp (fun _ hk=>hk) trivial (Below.refl _ _) (Nat.le_refl _) (by simp) ?_;(case hd=>rfl);(case hg=>rfl);(case hr=>exact zq28);(case hp=>exact (Reps.one (show Kd.M (Kd.int .u8) _ _ _ ((wrap64 (224+(wrap64 (Int.tdiv a1 4096)))) % 256) [.int .u8 ((wrap64 (224+(wrap64 (Int.tdiv a1 4096)))) % 256)] from rfl) (Reps.one (show Kd.M (Kd.int .u8) _ _ _ ((wrap64 (128+(Int.tmod (wrap64 (Int.tdiv a1 64)) 64))) % 256) [.int .u8 ((wrap64 (128+(Int.tmod (wrap64 (Int.tdiv a1 64)) 64))) % 256)] from rfl) (Reps.one (show Kd.M (Kd.int .u8) _ _ _ ((wrap64 (128+(Int.tmod a1 64))) % 256) [.int .u8 ((wrap64 (128+(Int.tmod a1 64))) % 256)] from rfl) (Reps.none _ _)))));intro v119 w24 ho25 hb hg_ hnew_;clear hg_ hnew_;(first|rw [← Ny118.out] at ho25|(simp only [Int.reduceToNat] at ho25;rw [← Ny118.out] at ho25));have HO120:=mk0 (Kd.R_lower (Kd.R_new' (Kd.R_newM (M:=fun k_=>(P0_ k_∨w.heap.size≤k_)) ho25 (by exact HK.out.1) (fun k_ h_ => .inr h_)) (Kd.R_lt zq35)) (j2p zq4));replace HO_0:=mk0 (Kd.R_elder' zq35 (Kd.R_base ho25) hb);replace HK:=mk0 (Kept.below (S:=(fun k_=>P0_ k_)) zq30 hb);replace HB:=mk0 (j1o zq4 hb);clear hb ho25;obtain ⟨Ao27,co27,eo27⟩:=Kd.R_slice HO120.out;subst eo27)|((with_reducible refine j3f (b := .append) (xs:=#[.tmp 40, .tmp 54]) rfl ?_);at_builtin;refine Kd.R_append_rows (Kd.int .u8) (w0:=w0) w0.heap.size rfl (.tmp 40) (.tmp 54) 55 5 (.int .u8 0) 1 rfl Tryd.underlying55 info5 rfl zq50 (by omega) u9000_ l0 y118 _ _ _ (fun k_=>(P0_ k_∨w.heap.size≤k_)∧some k_≠(.slice Ao27 y118.length co27:Value).ownBlock) (fun _=>False) rfl rfl ?aO ?aR (fun _ _ h=>h) (fun _ h=>h.elim) ?aF ?aB ?aS ?aL ?_;(case aR=>repeat (first|exact (Kd.R_reads' HO120.out).2.2|(with_reducible refine Kd.C_alloc ?_ _)|(with_reducible refine Kd.C_drewN ?_ _)|(with_reducible refine Kd.C_drew ?_)));(case aB=>exact zq4);(case aF=>exact (fun k_ hk=>⟨(.inr (Nat.le_trans (by exact HK.out.1) hk)),Kd.fresh' (Kd.R_lt (by (with_reducible repeat (first|apply Kd.R_alloc|apply Kd.R_drewN|apply Kd.R_drew));exact HO120.out)) k_ hk⟩));(case aO=>exact zq35);(case aS=>exact (j2p zq4));(case aL=>have:=LMc23.out;first|omega|(simp only [List.length_cons,List.length_nil] at this ⊢; omega));intro v122 w26 ho hb hg hat;rw [← Ny121.out] at ho;have n0_:=mk0 (Kd.R_after (ok:=(fun k_=>(P0_ k_∨w.heap.size≤k_))) (by (with_reducible repeat (first|apply Kd.R_alloc|apply Kd.R_drewN|apply Kd.R_drew));exact Kd.R_mono HO120.out (fun _ hk=>⟨hk.1.1,hk.2⟩)) hg hat);have n1_:=mk0 (hb);have n2_:=mk0 (Kept.of_grown (S:=(fun k_=>P0_ k_)) hg zq30 (fun k_ e_=>(HO_0.out.1 k_ e_).1));have n3_:=mk0 (ho);clear HO120 HB HK HO_0;have HO120:=n0_;have HB:=n1_;have HK:=n2_;have HO123:=n3_;clear n0_ n1_ n2_ n3_;clear ho hb hg hat))
    go_ret;exact ⟨_,by rfl,by (with_reducible repeat (first|apply Kd.R_alloc|apply Kd.R_drewN|apply Kd.R_drew));exact Kd.R_mono HO123.out (fun _ hk=>hk.1),by repeat (first|(with_reducible first|exact HB.out|apply j1f|apply j1d|apply j1h)|exact HB.out),by repeat (first|(with_reducible first|exact HK.out|apply Kept.alloc|apply Kept.drewN|apply Kept.drew)|exact HK.out)⟩
   rw [if_neg c22] at H;have c22b0:decide (a1<65536)=false:=decide_eq_false c22;clear c22;obtain ⟨y124,hy124⟩:∃ y_:List Int,y_=(([(wrap64 (240+(wrap64 (Int.tdiv a1 262144)))) % 256,(wrap64 (128+(Int.tmod (wrap64 (Int.tdiv a1 4096)) 64))) % 256,(wrap64 (128+(Int.tmod (wrap64 (Int.tdiv a1 64)) 64))) % 256,(wrap64 (128+(Int.tmod a1 64))) % 256]:List Int)):=⟨_,rfl⟩;replace H:(if l0.length+y124.length<140737488355328 then (some (l0++y124)) else (none))=some r:=by (have H2_:=(Option.bind_some _ _).symm.trans H;rw [hy124];with_reducible exact H2_)
   have Ny124:=mk0 hy124;clear hy124;by_cases c28:l0.length+y124.length<140737488355328
   rotate_left
   ·rw [if_neg c28] at H;exact absurd H (by simp)
   rw [if_pos c28] at H;have LMc28:=mk0 c28;clear c28;obtain ⟨y127,hy127⟩:∃ y_:List Int,y_=(l0++y124):=⟨_,rfl⟩;replace H:(some y127)=some r:=by (rw [hy127];with_reducible exact H)
   have Ny127:=mk0 hy127;clear hy127;obtain rfl:=Option.some.inj H;go_wp2_with (first|((with_reducible refine j2x (N:=75) rfl ?_);refine Kd.R_lit (Kd.int .u8) _ 5 ?hg (N:=75) ?hd (xs:=([(wrap64 (240+(wrap64 (Int.tdiv a1 262144)))) % 256,(wrap64 (128+(Int.tmod (wrap64 (Int.tdiv a1 4096)) 64))) % 256,(wrap64 (128+(Int.tmod (wrap64 (Int.tdiv a1 64)) 64))) % 256,(wrap64 (128+(Int.tmod a1 64))) % 256]:List Int)) (inner:=[.int .u8 ((wrap64 (240+(wrap64 (Int.tdiv a1 262144)))) % 256), .int .u8 ((wrap64 (128+(Int.tmod (wrap64 (Int.tdiv a1 4096)) 64))) % 256), .int .u8 ((wrap64 (128+(Int.tmod (wrap64 (Int.tdiv a1 64)) 64))) % 256), .int .u8 ((wrap64 (128+(Int.tmod a1 64))) % 256)]) (ok:=fun _=>True) (okp:=fun _=>True) ?hr ?hp (fun _ hk=>hk) trivial (Below.refl _ _) (Nat.le_refl _) (by simp) ?_;(case hd=>rfl);(case hg=>rfl);(case hr=>exact zq28);(case hp=>exact (Reps.one (show Kd.M (Kd.int .u8) _ _ _ ((wrap64 (240+(wrap64 (Int.tdiv a1 262144)))) % 256) [.int .u8 ((wrap64 (240+(wrap64 (Int.tdiv a1 262144)))) % 256)] from rfl) (Reps.one (show Kd.M (Kd.int .u8) _ _ _ ((wrap64 (128+(Int.tmod (wrap64 (Int.tdiv a1 4096)) 64))) % 256) [.int .u8 ((wrap64 (128+(Int.tmod (wrap64 (Int.tdiv a1 4096)) 64))) % 256)] from rfl) (Reps.one (show Kd.M (Kd.int .u8) _ _ _ ((wrap64 (128+(Int.tmod (wrap64 (Int.tdiv a1 64)) 64))) % 256) [.int .u8 ((wrap64 (128+(Int.tmod (wrap64 (Int.tdiv a1 64)) 64))) % 256)] from rfl) (Reps.one (show Kd.M (Kd.int .u8) _ _ _ ((wrap64 (128+(Int.tmod a1 64))) % 256) [.int .u8 ((wrap64 (128+(Int.tmod a1 64))) % 256)] from rfl) (Reps.none _ _))))));intro v125 w29 ho30 hb hg_ hnew_;clear hg_ hnew_;(first|rw [← Ny124.out] at ho30|(simp only [Int.reduceToNat] at ho30;rw [← Ny124.out] at ho30));have HO126:=mk0 (Kd.R_lower (Kd.R_new' (Kd.R_newM (M:=fun k_=>(P0_ k_∨w.heap.size≤k_)) ho30 (by exact HK.out.1) (fun k_ h_ => .inr h_)) (Kd.R_lt zq35)) (j2p zq4));replace HO_0:=mk0 (Kd.R_elder' zq35 (Kd.R_base ho30) hb);replace HK:=mk0 (Kept.below (S:=(fun k_=>P0_ k_)) zq30 hb);replace HB:=mk0 (j1o zq4 hb);clear hb ho30;obtain ⟨Ao32,co32,eo32⟩:=Kd.R_slice HO126.out;subst eo32)|((with_reducible refine j3f (b := .append) (xs:=#[.tmp 56, .tmp 75]) rfl ?_);at_builtin;refine Kd.R_append_rows (Kd.int .u8) (w0:=w0) w0.heap.size rfl (.tmp 56) (.tmp 75) 55 5 (.int .u8 0) 1 rfl Tryd.underlying55 info5 rfl zq50 (by omega) u9000_ l0 y124 _ _ _ (fun k_=>(P0_ k_∨w.heap.size≤k_)∧some k_≠(.slice Ao32 y124.length co32:Value).ownBlock) (fun _=>False) rfl rfl ?aO ?aR (fun _ _ h=>h) (fun _ h=>h.elim) ?aF ?aB ?aS ?aL ?_;(case aR=>repeat (first|exact (Kd.R_reads' HO126.out).2.2|(with_reducible refine Kd.C_alloc ?_ _)|(with_reducible refine Kd.C_drewN ?_ _)|(with_reducible refine Kd.C_drew ?_)));(case aB=>exact zq4);(case aF=>exact (fun k_ hk=>⟨(.inr (Nat.le_trans (by exact HK.out.1) hk)),Kd.fresh' (Kd.R_lt (by (with_reducible repeat (first|apply Kd.R_alloc|apply Kd.R_drewN|apply Kd.R_drew));exact HO126.out)) k_ hk⟩));(case aO=>exact zq35);(case aS=>exact (j2p zq4));(case aL=>have:=LMc28.out;first|omega|(simp only [List.length_cons,List.length_nil] at this ⊢; omega));intro v128 w31 ho hb hg hat;rw [← Ny127.out] at ho;have n0_:=mk0 (Kd.R_after (ok:=(fun k_=>(P0_ k_∨w.heap.size≤k_))) (by (with_reducible repeat (first|apply Kd.R_alloc|apply Kd.R_drewN|apply Kd.R_drew));exact Kd.R_mono HO126.out (fun _ hk=>⟨hk.1.1,hk.2⟩)) hg hat);have n1_:=mk0 (hb);have n2_:=mk0 (Kept.of_grown (S:=(fun k_=>P0_ k_)) hg zq30 (fun k_ e_=>(HO_0.out.1 k_ e_).1));have n3_:=mk0 (ho);clear HO126 HB HK HO_0;have HO126:=n0_;have HB:=n1_;have HK:=n2_;have HO129:=n3_;clear n0_ n1_ n2_ n3_;clear ho hb hg hat))
   go_ret;exact ⟨_,by rfl,by (with_reducible repeat (first|apply Kd.R_alloc|apply Kd.R_drewN|apply Kd.R_drew));exact Kd.R_mono HO129.out (fun _ hk=>hk.1),by repeat (first|(with_reducible first|exact HB.out|apply j1f|apply j1d|apply j1h)|exact HB.out),by repeat (first|(with_reducible first|exact HK.out|apply Kept.alloc|apply Kept.drewN|apply Kept.drew)|exact HK.out)⟩
def j1z.l0 : Nat → List Int→ByteArray→Int→Option (ByteArray)
  | 0,_,_,_=>none
  | k+1,x3,x4,x5=>if x5<(x4.size:Int) then (if 0≤x5 then (if (bt x4 x5)=92 then ((j2e.f k x4 x5).bind fun bt104=>(if bt104.2=true then ((j2e.f k x4 (wrap64 (x5+6))).bind fun bt110=>(if bt110.2=true then ((j3x.f bt104.1).bind fun t112=>(if t112=true then ((j4o.f bt110.1).bind fun t113=>(if t113=true then ((j1y.f k x3 (wrap64 ((wrap64 (65536+(wrap64 ((wrap64 (bt104.1 - 55296))*1024))))+(wrap64 (bt110.1 - 56320))))).bind fun t114=>(j1z.l0 k t114 x4 (wrap64 ((wrap64 (x5+6))+6)))) else ((j1y.f k x3 bt104.1).bind fun t117=>(j1z.l0 k t117 x4 (wrap64 (x5+6)))))) else ((j1y.f k x3 bt104.1).bind fun t120=>(j1z.l0 k t120 x4 (wrap64 (x5+6)))))) else ((j1y.f k x3 bt104.1).bind fun t123=>(j1z.l0 k t123 x4 (wrap64 (x5+6)))))) else (if 0≤(wrap64 (x5+1)) then (if (wrap64 (x5+1))<(x4.size:Int) then ((j4k.f (bt x4 (wrap64 (x5+1)))).bind fun t106=>(if x3.length<140737488355328 then (j1z.l0 k (x3++[t106]) x4 (wrap64 (x5+2))) else (none))) else (none)) else (none)))) else (if x3.length<140737488355328 then (j1z.l0 k (x3++[bt x4 x5]) x4 (wrap64 (x5+1))) else (none))) else (none)) else (some (strOfNums x3))
def j1z.f (k : Nat) (a0:ByteArray):Option (ByteArray):=if 1≤(wrap64 ((a0.size:Int) - 1)) then (if (wrap64 ((a0.size:Int) - 1))≤(a0.size:Int) then (j1z.l0 k ([]:List Int) (a0.extract 1 ((wrap64 ((a0.size:Int) - 1)):Int).toNat) 0) else (none)) else (none)
theorem j1z.mono_l : ∀ k,(∀ y0 y1 y2,LeO (j1z.l0 k y0 y1 y2) (j1z.l0 (k+1) y0 y1 y2))
 | 0=>fun _ _ _ r h=>by simp [j1z.l0] at h
 | k+1=>by
  have ih0:=j1z.mono_l k
  ·intro y0 y1 y2;unfold j1z.l0
   exact zm
theorem j1z.mono : ∀ a0 k,LeO (j1z.f k a0) (j1z.f (k+1) a0):=by
 intro a0 k;have ih0:=j1z.mono_l k;unfold j1z.f
 exact zm
set_option maxHeartbeats 8000000 in
set_option maxRecDepth 100000 in
theorem j1z.calls (k : Nat) (a0:ByteArray) (r:ByteArray) (w:World) (h:j1z.f k a0=some r) :
 Calls Tryd.prog 17 #[.string a0] w fun e w'=>e = .returned (.string r)∧Below w.heap.size w w':=by
 have HB:=mk0 (Below.refl w.heap.size w);have H:(if 1≤(wrap64 ((a0.size:Int) - 1)) then (if (wrap64 ((a0.size:Int) - 1))≤(a0.size:Int) then (j1z.l0 k ([]:List Int) (a0.extract 1 ((wrap64 ((a0.size:Int) - 1)):Int).toNat) 0) else (none)) else (none))=some r:=h;clear h;by_cases c2:1≤(wrap64 ((a0.size:Int) - 1))
 rotate_left
 ·rw [if_neg c2] at H;exact absurd H (by simp)
 rw [if_pos c2] at H;have c2b0:=eq_true c2;have c2b1:decide (1≤(wrap64 ((a0.size:Int) - 1)))=true:=decide_eq_true c2;clear c2;by_cases c3:(wrap64 ((a0.size:Int) - 1))≤(a0.size:Int)
 rotate_left
 ·exact zl28
 rw [if_pos c3] at H;have c3b0:=eq_true c3;have c3b1:decide ((wrap64 ((a0.size:Int) - 1))≤(a0.size:Int))=true:=decide_eq_true c3;clear c3;have H':=mk0 H;clear H;go_enter Tryd.func17,Tryd.ntmps17;go_wp2
 generalize (a0.extract 1 ((wrap64 ((a0.size:Int) - 1)):Int).toNat)=X_1 at *
 go_loopg [3,5] k (fun kq v3 v5 w'=>∃ (x3_1:List Int) (x5_1:Int),v5 = .int .i64 x5_1∧Aside0 (j1z.l0 kq x3_1 X_1 x5_1=some r)∧Aside0 (kq≤k)∧Aside0 (Kd.R (Kd.int .u8) 5 w' w.heap.size (fun _=>True) v3 x3_1)∧Aside0 (Below w.heap.size w w'))
 case atStart=>exact ⟨(([]:List Int)),(0),(by rfl),H',⟨Nat.le_refl _⟩,⟨by exact Kd.R_nil _ _ _ _ _⟩,⟨by repeat (first|(with_reducible first|exact HB.out|apply j1f|apply j1d|apply j1h)|exact HB.out)⟩⟩
 case round =>
  clear H';clear c2b0 c2b1 c3b0 c3b1;obtain ⟨x3_1,x5_1,rfl,HA,HK1,HO_3,HB⟩:=hrel;cases gk with
  | zero=>exact absurd HA.out (by simp [j1z.l0])
  | succ k1 =>
   have H:=HA.out;clear HA;simp only [j1z.l0] at H;by_cases c4:x5_1<(X_1.size:Int)
   rotate_left
   ·rw [if_neg c4] at H;have c4b0:decide (x5_1<(X_1.size:Int))=false:=decide_eq_false c4;clear c4;obtain rfl:=Option.some.inj H;have hcv38:=own_string (P:=Tryd.prog) Tryd.underlying55 Tryd.underlying5 Tryd.underlying9 (Kd.own_of_R HO_3.out);go_wp2;go_ret;exact ⟨by rfl,by repeat (first|(with_reducible first|exact HB.out|apply j1f|apply j1d|apply j1h)|exact HB.out)⟩
   rw [if_pos c4] at H;have c4b0:decide (x5_1<(X_1.size:Int))=true:=decide_eq_true c4;clear c4;by_cases c5:0≤x5_1
   rotate_left
   ·exact zl23
   rw [if_pos c5] at H;have c5b0:decide (0≤x5_1)=true:=decide_eq_true c5;clear c5;by_cases c7:(bt X_1 x5_1)=92
   rotate_left
   ·rw [if_neg c7] at H;have c7b0:((bt X_1 x5_1) == 92)=false:=beq_eq_false_iff_ne.mpr c7;have c7b1:((bt X_1 x5_1) != 92)=true:=bne_iff_ne.mpr c7;by_cases c36:x3_1.length<140737488355328
    rotate_left
    ·rw [if_neg c36] at H;exact absurd H (by simp)
    rw [if_pos c36] at H;have LMc36:=mk0 c36;clear c36;obtain ⟨y101,hy101⟩:∃ y_:List Int,y_=(x3_1++[bt X_1 x5_1]):=⟨_,rfl⟩;replace H:(j1z.l0 k1 y101 X_1 (wrap64 (x5_1+1)))=some r:=by (rw [hy101];with_reducible exact H)
    have Ny101:=mk0 hy101;clear hy101;have H':=mk0 H;clear H;have p6:0≤(x5_1:Int):=of_decide_eq_true zq17;have q6:x5_1<(X_1.size:Int):=of_decide_eq_true zq17;have hx6:=bt_at X_1 x5_1;replace p6:=eq_true p6;replace q6:=eq_true q6;have p35:0≤(x5_1:Int):=of_decide_eq_true zq17;have q35:x5_1<(X_1.size:Int):=of_decide_eq_true zq17;have hx35:=bt_at X_1 x5_1;replace p35:=eq_true p35;replace q35:=eq_true q35;go_wp2_with (first|((with_reducible refine j3f (b := .append) (xs:=#[.tmp 23, .tmp 27]) rfl ?_);at_builtin;refine Kd.R_append (Kd.int .u8) (w0:=w) w.heap.size rfl (.tmp 23) (.tmp 27) 55 5 (.int .u8 0) 1 rfl Tryd.underlying55 info5 rfl zq50 (by omega) u3 x3_1 (bt X_1 x5_1) [.int .u8 (bt X_1 x5_1)] (fun _=>True) (fun _=>False) rfl rfl ?aP (fun _ hk=>hk.elim) ?aF ?aO ?aB ?aS ?aL ?_;(case aP=>exact rfl);(case aB=>exact zq4);(case aF=>exact (fun _ _=>trivial));(case aO=>exact (by (with_reducible repeat (first|apply Kd.R_alloc|apply Kd.R_drewN|apply Kd.R_drew));exact HO_3.out));(case aS=>exact (j2p zq4));(case aL=>have:=LMc36.out;first|omega|(simp only [List.length_cons,List.length_nil] at this ⊢; omega));intro v102 w37 ho hb hg hat;rw [← Ny101.out] at ho;have n0_:=mk0 (hb);have n1_:=mk0 (ho);clear HB HO_3;have HB:=n0_;have HO103:=n1_;clear n0_ n1_;clear ho hb hg hat))
    go_roundg k1
    case measure=>have:=HK1.out;omega
    case rel=>exact ⟨(y101),(wrap64 (x5_1+1)),(by rfl),H',⟨by have:=HK1.out;omega⟩,⟨by (with_reducible repeat (first|apply Kd.R_alloc|apply Kd.R_drewN|apply Kd.R_drew));exact HO103.out⟩,⟨by repeat (first|(with_reducible first|exact HB.out|apply j1f|apply j1d|apply j1h)|exact HB.out)⟩⟩
   rw [if_pos c7] at H;have c7b0:((bt X_1 x5_1) == 92)=true:=beq_iff_eq.mpr c7;have c7b1:((bt X_1 x5_1) != 92)=false:=bne_eq_false_iff_eq.mpr c7;clear c7;replace H:=Option.bind_eq_some_iff.mp H;obtain ⟨⟨t104,t105⟩,A80,H⟩:=H;(try dsimp only at H);have A8:=mk0 A80;clear A80;by_cases c9:t105=true
   rotate_left
   ·replace c9:=Bool.eq_false_iff.mpr c9;subst c9;rw [if_neg (show ¬ (false=true) by decide)] at H;obtain ⟨ji28,hji28⟩:∃ j_:Int,(wrap64 (x5_1+1))=j_:=⟨_,rfl⟩;replace H:(if 0≤(ji28) then (if (ji28)<(X_1.size:Int) then ((j4k.f (bt X_1 (ji28))).bind fun t106=>(if x3_1.length<140737488355328 then (j1z.l0 k1 (x3_1++[t106]) X_1 (wrap64 (x5_1+2))) else (none))) else (none)) else (none))=some r:=by (rw [hji28] at H;exact H)
    (try rw [hji28] at A8);have hji28w:(IntKind.i64.wrap (x5_1+1))=ji28:=(i64_w _).trans hji28;by_cases c29:0≤(ji28)
    rotate_left
    ·rw [if_neg c29] at H;exact absurd H (by simp)
    rw [if_pos c29] at H;have c29b0:decide (0≤(ji28))=true:=decide_eq_true c29;clear c29;by_cases c30:(ji28)<(X_1.size:Int)
    rotate_left
    ·rw [if_neg c30] at H;exact absurd H (by simp)
    rw [if_pos c30] at H;have c30b0:decide ((ji28)<(X_1.size:Int))=true:=decide_eq_true c30;clear c30;replace H:=Option.bind_eq_some_iff.mp H;obtain ⟨t106,A320,H⟩:=H;(try dsimp only at H);have A32:=mk0 A320;clear A320;by_cases c33:x3_1.length<140737488355328
    rotate_left
    ·rw [if_neg c33] at H;exact absurd H (by simp)
    rw [if_pos c33] at H;have LMc33:=mk0 c33;clear c33;obtain ⟨y107,hy107⟩:∃ y_:List Int,y_=(x3_1++[t106]):=⟨_,rfl⟩;replace H:(j1z.l0 k1 y107 X_1 (wrap64 (x5_1+2)))=some r:=by (rw [hy107];with_reducible exact H)
    have Ny107:=mk0 hy107;clear hy107;have H':=mk0 H;clear H;have p6:0≤(x5_1:Int):=of_decide_eq_true zq17;have q6:x5_1<(X_1.size:Int):=of_decide_eq_true zq17;have hx6:=bt_at X_1 x5_1;replace p6:=eq_true p6;replace q6:=eq_true q6;go_wp2_with (first|((with_reducible refine j1w (f:=32) rfl ?_);refine j2t (some 34) rfl rfl Tryd.func32 zq7 rfl #[.string X_1, .int .i64 x5_1] rfl zq1 ?_;(with_reducible refine (j2e.calls k1 X_1 x5_1 t104 false _ A8.out).mono ?_);rintro e w' ⟨rfl,⟨nd,rfl⟩⟩;refine ⟨_,rfl,?_⟩;have p31:0≤((ji28):Int):=of_decide_eq_true zq17;have q31:(ji28)<(X_1.size:Int):=of_decide_eq_true zq17;have hx31:=bt_at X_1 (ji28);replace p31:=eq_true p31;replace q31:=eq_true q31)|((with_reducible refine j1w (f:=33) rfl ?_);refine j2t (some 44) rfl rfl Tryd.func33 zq7 rfl #[.int .u8 (bt X_1 (ji28))] rfl (by (try simp only [List.map_toArray,List.map_cons,List.map_nil]);first|done|(simp only [hji28];rfl)|rfl|(simp only [List.length_drop,List.length_take];rfl)) ?_;(with_reducible refine (j4k.calls (bt X_1 (ji28)) t106 _ A32.out).mono ?_);rintro e w' ⟨rfl,⟨nd,rfl⟩⟩;refine ⟨_,rfl,?_⟩)|((with_reducible refine j3f (b := .append) (xs:=#[.tmp 39, .tmp 45]) rfl ?_);at_builtin;refine Kd.R_append (Kd.int .u8) (w0:=w) w.heap.size rfl (.tmp 39) (.tmp 45) 55 5 (.int .u8 0) 1 rfl Tryd.underlying55 info5 rfl zq50 (by omega) u3 x3_1 t106 [.int .u8 t106] (fun _=>True) (fun _=>False) rfl rfl ?aP (fun _ hk=>hk.elim) ?aF ?aO ?aB ?aS ?aL ?_;(case aP=>exact rfl);(case aB=>exact zq4);(case aF=>exact (fun _ _=>trivial));(case aO=>exact (by (with_reducible repeat (first|apply Kd.R_alloc|apply Kd.R_drewN|apply Kd.R_drew));exact HO_3.out));(case aS=>exact (j2p zq4));(case aL=>have:=LMc33.out;first|omega|(simp only [List.length_cons,List.length_nil] at this ⊢; omega));intro v108 w34 ho hb hg hat;rw [← Ny107.out] at ho;have n0_:=mk0 (hb);have n1_:=mk0 (ho);clear HB HO_3;have HB:=n0_;have HO109:=n1_;clear n0_ n1_;clear ho hb hg hat))
    (try simp only [← hji28]);go_roundg k1
    case measure=>have:=HK1.out;omega
    case rel=>(try simp only [hji28]);exact ⟨(y107),(wrap64 (x5_1+2)),(by with_reducible rfl),(by exact H'),⟨by have:=HK1.out;omega⟩,⟨by (with_reducible repeat (first|apply Kd.R_alloc|apply Kd.R_drewN|apply Kd.R_drew));exact HO109.out⟩,⟨by repeat (first|(with_reducible first|exact HB.out|apply j1f|apply j1d|apply j1h)|exact HB.out)⟩⟩
   subst c9;rw [if_pos rfl] at H;replace H:=Option.bind_eq_some_iff.mp H;obtain ⟨⟨t110,t111⟩,A100,H⟩:=H;(try dsimp only at H);have A10:=mk0 A100;clear A100;by_cases c11:t111=true
   rotate_left
   ·replace c11:=Bool.eq_false_iff.mpr c11;subst c11;rw [if_neg (show ¬ (false=true) by decide)] at H;replace H:=Option.bind_eq_some_iff.mp H;obtain ⟨t123,A250,H⟩:=H;(try dsimp only at H);have A25:=mk0 A250;clear A250;have H':=mk0 H;clear H;have p6:0≤(x5_1:Int):=of_decide_eq_true zq17;have q6:x5_1<(X_1.size:Int):=of_decide_eq_true zq17;have hx6:=bt_at X_1 x5_1;replace p6:=eq_true p6;replace q6:=eq_true q6;go_wp2_with (first|((with_reducible refine j1w (f:=32) rfl ?_);refine j2t (some 34) rfl rfl Tryd.func32 zq7 rfl #[.string X_1, .int .i64 x5_1] rfl zq1 ?_;(with_reducible refine (j2e.calls k1 X_1 x5_1 t104 true _ A8.out).mono ?_);rintro e w' ⟨rfl,⟨nd,rfl⟩⟩;refine ⟨_,rfl,?_⟩)|((with_reducible refine j1w (f:=32) rfl ?_);refine j2t (some 54) rfl rfl Tryd.func32 zq7 rfl #[.string X_1, .int .i64 (wrap64 (x5_1+6))] rfl zq1 ?_;(with_reducible refine (j2e.calls k1 X_1 (wrap64 (x5_1+6)) t110 false _ A10.out).mono ?_);rintro e w' ⟨rfl,⟨nd,rfl⟩⟩;refine ⟨_,rfl,?_⟩;obtain ⟨Ao26,co26,eo26⟩:=Kd.R_slice HO_3.out;subst eo26)|((with_reducible refine j1w (f:=36) rfl ?_);refine j2t (some 77) rfl rfl Tryd.func36 zq7 rfl #[.slice Ao26 x3_1.length co26, .int .i64 t104] rfl zq1 ?_;(with_reducible refine (j1y.calls k1 (fun k_=>some k_=(.slice Ao26 x3_1.length co26:Value).ownBlock) (.slice Ao26 x3_1.length co26) x3_1 t104 t123 w _ ?side1 ?side2 A25.out).mono ?_);(case side1=>exact zq4);(case side2=>exact Kd.R_tight rfl HO_3.out);rintro e w27 ⟨v124,rfl,ho0,hb,hkp⟩;refine ⟨_,rfl,?_⟩;have n0_:=mk0 (Kd.R_mono (ok':=fun k_=>True) ho0 (fun k_ hk_=>trivial));have n1_:=mk0 (hb);clear HB HO_3;have HO125:=n0_;have HB:=n1_;clear n0_ n1_;clear hb hkp ho0))
    go_roundg k1
    case measure=>have:=HK1.out;omega
    case rel=>exact ⟨(t123),(wrap64 (x5_1+6)),(by rfl),H',⟨by have:=HK1.out;omega⟩,⟨by (with_reducible repeat (first|apply Kd.R_alloc|apply Kd.R_drewN|apply Kd.R_drew));exact HO125.out⟩,⟨by repeat (first|(with_reducible first|exact HB.out|apply j1f|apply j1d|apply j1h)|exact HB.out)⟩⟩
   subst c11;rw [if_pos rfl] at H;replace H:=Option.bind_eq_some_iff.mp H;obtain ⟨t112,A120,H⟩:=H;(try dsimp only at H);have A12:=mk0 A120;clear A120;by_cases c13:t112=true
   rotate_left
   ·replace c13:=Bool.eq_false_iff.mpr c13;subst c13;rw [if_neg (show ¬ (false=true) by decide)] at H;replace H:=Option.bind_eq_some_iff.mp H;obtain ⟨t120,A220,H⟩:=H;(try dsimp only at H);have A22:=mk0 A220;clear A220;have H':=mk0 H;clear H;have p6:0≤(x5_1:Int):=of_decide_eq_true zq17;have q6:x5_1<(X_1.size:Int):=of_decide_eq_true zq17;have hx6:=bt_at X_1 x5_1;replace p6:=eq_true p6;replace q6:=eq_true q6;go_wp2_with (first|((with_reducible refine j1w (f:=32) rfl ?_);refine j2t (some 34) rfl rfl Tryd.func32 zq7 rfl #[.string X_1, .int .i64 x5_1] rfl zq1 ?_;(with_reducible refine (j2e.calls k1 X_1 x5_1 t104 true _ A8.out).mono ?_);rintro e w' ⟨rfl,⟨nd,rfl⟩⟩;refine ⟨_,rfl,?_⟩)|((with_reducible refine j1w (f:=32) rfl ?_);refine j2t (some 54) rfl rfl Tryd.func32 zq7 rfl #[.string X_1, .int .i64 (wrap64 (x5_1+6))] rfl zq1 ?_;(with_reducible refine (j2e.calls k1 X_1 (wrap64 (x5_1+6)) t110 true _ A10.out).mono ?_);rintro e w' ⟨rfl,⟨nd,rfl⟩⟩;refine ⟨_,rfl,?_⟩)|(go_at_call 34;(with_reducible refine (j3x.calls t104 false _ A12.out).mono ?_);rintro e w' ⟨rfl,⟨nd,rfl⟩⟩;obtain ⟨Ao23,co23,eo23⟩:=Kd.R_slice HO_3.out;subst eo23)|((with_reducible refine j1w (f:=36) rfl ?_);refine j2t (some 77) rfl rfl Tryd.func36 zq7 rfl #[.slice Ao23 x3_1.length co23, .int .i64 t104] rfl zq1 ?_;(with_reducible refine (j1y.calls k1 (fun k_=>some k_=(.slice Ao23 x3_1.length co23:Value).ownBlock) (.slice Ao23 x3_1.length co23) x3_1 t104 t120 w _ ?side1 ?side2 A22.out).mono ?_);(case side1=>exact zq4);(case side2=>exact Kd.R_tight rfl HO_3.out);rintro e w24 ⟨v121,rfl,ho0,hb,hkp⟩;refine ⟨_,rfl,?_⟩;have n0_:=mk0 (Kd.R_mono (ok':=fun k_=>True) ho0 (fun k_ hk_=>trivial));have n1_:=mk0 (hb);clear HB HO_3;have HO122:=n0_;have HB:=n1_;clear n0_ n1_;clear hb hkp ho0))
    go_roundg k1
    case measure=>have:=HK1.out;omega
    case rel=>exact ⟨(t120),(wrap64 (x5_1+6)),(by rfl),H',⟨by have:=HK1.out;omega⟩,⟨by (with_reducible repeat (first|apply Kd.R_alloc|apply Kd.R_drewN|apply Kd.R_drew));exact HO122.out⟩,⟨by repeat (first|(with_reducible first|exact HB.out|apply j1f|apply j1d|apply j1h)|exact HB.out)⟩⟩
   subst c13;rw [if_pos rfl] at H;replace H:=Option.bind_eq_some_iff.mp H;obtain ⟨t113,A140,H⟩:=H;(try dsimp only at H);have A14:=mk0 A140;clear A140;by_cases c15:t113=true
   rotate_left
   ·replace c15:=Bool.eq_false_iff.mpr c15;subst c15;rw [if_neg (show ¬ (false=true) by decide)] at H;replace H:=Option.bind_eq_some_iff.mp H;obtain ⟨t117,A190,H⟩:=H;(try dsimp only at H);have A19:=mk0 A190;clear A190;have H':=mk0 H;clear H;have p6:0≤(x5_1:Int):=of_decide_eq_true zq17;have q6:x5_1<(X_1.size:Int):=of_decide_eq_true zq17;have hx6:=bt_at X_1 x5_1;replace p6:=eq_true p6;replace q6:=eq_true q6;go_wp2_with (first|((with_reducible refine j1w (f:=32) rfl ?_);refine j2t (some 34) rfl rfl Tryd.func32 zq7 rfl #[.string X_1, .int .i64 x5_1] rfl zq1 ?_;(with_reducible refine (j2e.calls k1 X_1 x5_1 t104 true _ A8.out).mono ?_);rintro e w' ⟨rfl,⟨nd,rfl⟩⟩;refine ⟨_,rfl,?_⟩)|((with_reducible refine j1w (f:=32) rfl ?_);refine j2t (some 54) rfl rfl Tryd.func32 zq7 rfl #[.string X_1, .int .i64 (wrap64 (x5_1+6))] rfl zq1 ?_;(with_reducible refine (j2e.calls k1 X_1 (wrap64 (x5_1+6)) t110 true _ A10.out).mono ?_);rintro e w' ⟨rfl,⟨nd,rfl⟩⟩;refine ⟨_,rfl,?_⟩)|(go_at_call 34;(with_reducible refine (j3x.calls t104 true _ A12.out).mono ?_);rintro e w' ⟨rfl,⟨nd,rfl⟩⟩)|(go_at_call 35;(with_reducible refine (j4o.calls t110 false _ A14.out).mono ?_);rintro e w' ⟨rfl,⟨nd,rfl⟩⟩;obtain ⟨Ao20,co20,eo20⟩:=Kd.R_slice HO_3.out;subst eo20)|((with_reducible refine j1w (f:=36) rfl ?_);refine j2t (some 77) rfl rfl Tryd.func36 zq7 rfl #[.slice Ao20 x3_1.length co20, .int .i64 t104] rfl zq1 ?_;(with_reducible refine (j1y.calls k1 (fun k_=>some k_=(.slice Ao20 x3_1.length co20:Value).ownBlock) (.slice Ao20 x3_1.length co20) x3_1 t104 t117 w _ ?side1 ?side2 A19.out).mono ?_);(case side1=>exact zq4);(case side2=>exact Kd.R_tight rfl HO_3.out);rintro e w21 ⟨v118,rfl,ho0,hb,hkp⟩;refine ⟨_,rfl,?_⟩;have n0_:=mk0 (Kd.R_mono (ok':=fun k_=>True) ho0 (fun k_ hk_=>trivial));have n1_:=mk0 (hb);clear HB HO_3;have HO119:=n0_;have HB:=n1_;clear n0_ n1_;clear hb hkp ho0))
    go_roundg k1
    case measure=>have:=HK1.out;omega
    case rel=>exact ⟨(t117),(wrap64 (x5_1+6)),(by rfl),H',⟨by have:=HK1.out;omega⟩,⟨by (with_reducible repeat (first|apply Kd.R_alloc|apply Kd.R_drewN|apply Kd.R_drew));exact HO119.out⟩,⟨by repeat (first|(with_reducible first|exact HB.out|apply j1f|apply j1d|apply j1h)|exact HB.out)⟩⟩
   subst c15;rw [if_pos rfl] at H;replace H:=Option.bind_eq_some_iff.mp H;obtain ⟨t114,A160,H⟩:=H;(try dsimp only at H);have A16:=mk0 A160;clear A160;have H':=mk0 H;clear H;have p6:0≤(x5_1:Int):=of_decide_eq_true zq17;have q6:x5_1<(X_1.size:Int):=of_decide_eq_true zq17;have hx6:=bt_at X_1 x5_1;replace p6:=eq_true p6;replace q6:=eq_true q6;go_wp2_with (first|((with_reducible refine j1w (f:=32) rfl ?_);refine j2t (some 34) rfl rfl Tryd.func32 zq7 rfl #[.string X_1, .int .i64 x5_1] rfl zq1 ?_;(with_reducible refine (j2e.calls k1 X_1 x5_1 t104 true _ A8.out).mono ?_);rintro e w' ⟨rfl,⟨nd,rfl⟩⟩;refine ⟨_,rfl,?_⟩)|((with_reducible refine j1w (f:=32) rfl ?_);refine j2t (some 54) rfl rfl Tryd.func32 zq7 rfl #[.string X_1, .int .i64 (wrap64 (x5_1+6))] rfl zq1 ?_;(with_reducible refine (j2e.calls k1 X_1 (wrap64 (x5_1+6)) t110 true _ A10.out).mono ?_);rintro e w' ⟨rfl,⟨nd,rfl⟩⟩;refine ⟨_,rfl,?_⟩)|(go_at_call 34;(with_reducible refine (j3x.calls t104 true _ A12.out).mono ?_);rintro e w' ⟨rfl,⟨nd,rfl⟩⟩)|(go_at_call 35;(with_reducible refine (j4o.calls t110 true _ A14.out).mono ?_);rintro e w' ⟨rfl,⟨nd,rfl⟩⟩;obtain ⟨Ao17,co17,eo17⟩:=Kd.R_slice HO_3.out;subst eo17)|((with_reducible refine j1w (f:=36) rfl ?_);refine j2t (some 77) rfl rfl Tryd.func36 zq7 rfl #[.slice Ao17 x3_1.length co17, .int .i64 (wrap64 ((wrap64 (65536+(wrap64 ((wrap64 (t104 - 55296))*1024))))+(wrap64 (t110 - 56320))))] rfl zq1 ?_;(with_reducible refine (j1y.calls k1 (fun k_=>some k_=(.slice Ao17 x3_1.length co17:Value).ownBlock) (.slice Ao17 x3_1.length co17) x3_1 (wrap64 ((wrap64 (65536+(wrap64 ((wrap64 (t104 - 55296))*1024))))+(wrap64 (t110 - 56320)))) t114 w _ ?side1 ?side2 A16.out).mono ?_);(case side1=>exact zq4);(case side2=>exact Kd.R_tight rfl HO_3.out);rintro e w18 ⟨v115,rfl,ho0,hb,hkp⟩;refine ⟨_,rfl,?_⟩;have n0_:=mk0 (Kd.R_mono (ok':=fun k_=>True) ho0 (fun k_ hk_=>trivial));have n1_:=mk0 (hb);clear HB HO_3;have HO116:=n0_;have HB:=n1_;clear n0_ n1_;clear hb hkp ho0))
   go_roundg k1
   case measure=>have:=HK1.out;omega
   case rel=>exact ⟨(t114),(wrap64 ((wrap64 (x5_1+6))+6)),(by rfl),H',⟨by have:=HK1.out;omega⟩,⟨by (with_reducible repeat (first|apply Kd.R_alloc|apply Kd.R_drewN|apply Kd.R_drew));exact HO116.out⟩,⟨by repeat (first|(with_reducible first|exact HB.out|apply j1f|apply j1d|apply j1h)|exact HB.out)⟩⟩
def j4b.f (a0 : Int):Option (Bool):=if a0=32 then (some true) else (if a0=9 then (some true) else (if a0=10 then (some true) else (some (a0 == 13))))
set_option maxHeartbeats 8000000 in
set_option maxRecDepth 100000 in
theorem j4b.calls (a0 : Int) (r:Bool) (w:World) (h:j4b.f a0=some r) :
 Calls Tryd.prog 63 #[.int .u8 a0] w fun e w'=>e = .returned (.bool r)∧Drawn0 w w':=by
 have H:(if a0=32 then (some true) else (if a0=9 then (some true) else (if a0=10 then (some true) else (some (a0 == 13)))))=some r:=h;clear h;by_cases c2:a0=32
 ·rw [if_pos c2] at H;have c2b0:(a0 == 32)=true:=beq_iff_eq.mpr c2;have c2b1:(a0 != 32)=false:=bne_eq_false_iff_eq.mpr c2;clear c2;obtain rfl:=Option.some.inj H;go_enter Tryd.func63,Tryd.ntmps63;go_wp2;go_ret;exact ⟨by first|rfl|(simp;done)|(simp [*];done),by repeat (first|exact Drawn0.refl _|apply Drawn0.step)⟩
 rw [if_neg c2] at H;have c2b0:(a0 == 32)=false:=beq_eq_false_iff_ne.mpr c2;have c2b1:(a0 != 32)=true:=bne_iff_ne.mpr c2;by_cases c3:a0=9
 ·rw [if_pos c3] at H;have c3b0:(a0 == 9)=true:=beq_iff_eq.mpr c3;have c3b1:(a0 != 9)=false:=bne_eq_false_iff_eq.mpr c3;clear c3;obtain rfl:=Option.some.inj H;go_enter Tryd.func63,Tryd.ntmps63;go_wp2;go_ret;exact ⟨by first|rfl|(simp;done)|(simp [*];done),by repeat (first|exact Drawn0.refl _|apply Drawn0.step)⟩
 rw [if_neg c3] at H;have c3b0:(a0 == 9)=false:=beq_eq_false_iff_ne.mpr c3;have c3b1:(a0 != 9)=true:=bne_iff_ne.mpr c3;by_cases c4:a0=10
 rotate_left
 ·rw [if_neg c4] at H;have c4b0:(a0 == 10)=false:=beq_eq_false_iff_ne.mpr c4;have c4b1:(a0 != 10)=true:=bne_iff_ne.mpr c4;obtain rfl:=Option.some.inj H;go_enter Tryd.func63,Tryd.ntmps63;go_wp2;go_ret;exact ⟨by first|rfl|(simp;done)|(simp [*];done),by repeat (first|exact Drawn0.refl _|apply Drawn0.step)⟩
 rw [if_pos c4] at H;have c4b0:(a0 == 10)=true:=beq_iff_eq.mpr c4;have c4b1:(a0 != 10)=false:=bne_eq_false_iff_eq.mpr c4;clear c4;obtain rfl:=Option.some.inj H;go_enter Tryd.func63,Tryd.ntmps63;go_wp2;go_ret;exact zl4
end Go.Proofs.YthmjfmpgmcgonaaDoor.K
end
