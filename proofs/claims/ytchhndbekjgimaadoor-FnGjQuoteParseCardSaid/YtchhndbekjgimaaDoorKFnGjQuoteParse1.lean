/- The words, walks and laws that the proof rests on, laid together (part 1). -/
import Derived.Shelf.LaysM
import Derived.Shelf.Strconv.Clone
import Derived.Shelf.Strconv.SyntaxError
import Derived.Shelf.LaysC
import Derived.Shelf.Strconv.ToError
import Derived.Shelf.Strconv.Lower
import Derived.Shelf.Strconv.ParseUint10
import Derived.Shelf.Strconv.ParseUint10Empty
import Derived.Shelf.Strconv.ParseUint10Any
import Derived.Shelf.Strconv.RangeError
import Derived.Shelf.Strconv.ToErrorRange
import Derived.Ground.MpProg
import Derived.Shelf.Pu.ParseUintPublic10
import Derived.Shelf.Bits.Mul64
import Derived.Shelf.Unicode.DecodeSlow
import Derived.Shelf.Unicode.DecodeAny
import Derived.Test.YtchhndbekjgimaaDoorProg
import Derived.Laws.Entries
import Derived.Below
import Derived.Deep.Draws
import Derived.Deep.AppendLies
import Derived.Maps.AppendAt
import Derived.OwnWalk
import Derived.Laws.BytesArg
import Derived.Laws.MakeOwn
import Derived.Laws.OwnMore
import Derived.Deep.OwnRows
import Derived.Tactics
import Derived.Lib.ConvBytes
import Derived.Laws.Slices
import Derived.WalkKit
import Derived.KernelRfl
import Derived.RowKit3
import Derived.Deep.LoopGhost
import Derived.Deep.QuietTactic
import Derived.BigQuiet
import Derived.WideLaws
import Derived.Deep.DeepCutAuto
import Derived.Deep.CutBlock
import Derived.Deep.RegionHeld3
import Derived.Laws.Rows
import Derived.Lib.AppendStr
import Derived.ArgAppend
import Derived.Laws.IdiomCopy
import Derived.OrdersHeld
import Derived.Laws.BitsLemmas
import Derived.RowKit
import Derived.Lib.BufferWrite
import Derived.Laws.CopyOwn
import Derived.Lib.Hide
import Derived.WalkLawsBesides
import Derived.Laws.StructEq
import Derived.Lib.DecodeN
namespace Go.Proofs
open Go.Shelf
def Tryd.laysC245_ren : Go.Shelf.Ren := ⟨fun|245=>25|279=>31|280=>32|281=>33|282=>34|316=>39|171=>41|205=>40|243=>56|246=>73|283=>78|284=>79|285=>80|286=>81|129=>62|317=>84|318=>66|319=>85|320=>86|337=>87|338=>88|n=>n,fun|9=>9|3=>3|75=>51|167=>65|4=>4|168=>66|210=>78|37=>30|0=>0|127=>105|145=>108|143=>106|2=>2|171=>138|53=>69|5=>5|173=>140|212=>147|51=>72|20=>20|213=>148|46=>49|232=>151|233=>152|80=>153|n=>n,fun|15=>3|16=>4|17=>13|18=>14|19=>15|n=>n⟩
theorem Tryd.laysC245 : Go.Proofs.LaysC.n245 Tryd.prog Tryd.laysC245_ren:={
  mixed:=by kernel_rfl
  f129:=Tryd.func62.trans (congrArg some (by kernel_rfl))
  f171:=Tryd.func41.trans (congrArg some (by kernel_rfl))
  f205:=Tryd.func40.trans (congrArg some (by kernel_rfl))
  f243:=Tryd.func56.trans (congrArg some (by kernel_rfl))
  f245:=Tryd.func25.trans (congrArg some (by kernel_rfl))
  f246:=Tryd.func73.trans (congrArg some (by kernel_rfl))
  f279:=Tryd.func31.trans (congrArg some (by kernel_rfl))
  f280:=Tryd.func32.trans (congrArg some (by kernel_rfl))
  f281:=Tryd.func33.trans (congrArg some (by kernel_rfl))
  f282:=Tryd.func34.trans (congrArg some (by kernel_rfl))
  f283:=Tryd.func78.trans (congrArg some (by kernel_rfl))
  f284:=Tryd.func79.trans (congrArg some (by kernel_rfl))
  f285:=Tryd.func80.trans (congrArg some (by kernel_rfl))
  f286:=Tryd.func81.trans (congrArg some (by kernel_rfl))
  f316:=Tryd.func39.trans (congrArg some (by kernel_rfl))
  f317:=Tryd.func84.trans (congrArg some (by kernel_rfl))
  f318:=Tryd.func66.trans (congrArg some (by kernel_rfl))
  f319:=Tryd.func85.trans (congrArg some (by kernel_rfl))
  f320:=Tryd.func86.trans (congrArg some (by kernel_rfl))
  f337:=Tryd.func87.trans (congrArg some (by kernel_rfl))
  f338:=Tryd.func88.trans (congrArg some (by kernel_rfl))
  t0:=Tryd.underlying0
  a0:=Tryd.isAgg0
  z0:=Tryd.sizeOf0
  v0:=Tryd.zeroValue0
  t2:=Tryd.underlying2
  a2:=Tryd.isAgg2
  z2:=Tryd.sizeOf2
  v2:=Tryd.zeroValue2
  t3:=Tryd.underlying3
  a3:=Tryd.isAgg3
  z3:=Tryd.sizeOf3
  v3:=Tryd.zeroValue3
  t4:=Tryd.underlying4
  a4:=Tryd.isAgg4
  z4:=Tryd.sizeOf4
  v4:=Tryd.zeroValue4
  t5:=Tryd.underlying5
  a5:=Tryd.isAgg5
  z5:=Tryd.sizeOf5
  v5:=Tryd.zeroValue5
  t9:=Tryd.underlying9
  a9:=Tryd.isAgg9
  z9:=Tryd.sizeOf9
  v9:=Tryd.zeroValue9
  t20:=Tryd.underlying20
  a20:=Tryd.isAgg20
  z20:=Tryd.sizeOf20
  v20:=Tryd.zeroValue20
  t37:=Tryd.underlying30
  a37:=Tryd.isAgg30
  z37:=Tryd.sizeOf30
  v37:=Tryd.zeroValue30
  t46:=Tryd.underlying49
  a46:=Tryd.isAgg49
  z46:=Tryd.sizeOf49
  v46:=Tryd.zeroValue49
  t51:=Tryd.underlying72
  a51:=Tryd.isAgg72
  z51:=Tryd.sizeOf72
  v51:=Tryd.zeroValue72
  t53:=Tryd.underlying69
  a53:=Tryd.isAgg69
  z53:=Tryd.sizeOf69
  v53:=Tryd.zeroValue69
  t75:=Tryd.underlying51
  a75:=Tryd.isAgg51
  z75:=Tryd.sizeOf51
  v75:=Tryd.zeroValue51
  t127:=Tryd.underlying105
  a127:=Tryd.isAgg105
  z127:=Tryd.sizeOf105
  v127:=Tryd.zeroValue105
  t143:=Tryd.underlying106
  a143:=Tryd.isAgg106
  z143:=Tryd.sizeOf106
  v143:=Tryd.zeroValue106
  t145:=Tryd.underlying108
  a145:=Tryd.isAgg108
  z145:=Tryd.sizeOf108
  v145:=Tryd.zeroValue108
  t167:=Tryd.underlying65
  a167:=Tryd.isAgg65
  z167:=Tryd.sizeOf65
  v167:=Tryd.zeroValue65
  t168:=Tryd.underlying66
  a168:=Tryd.isAgg66
  z168:=Tryd.sizeOf66
  v168:=Tryd.zeroValue66
  t171:=Tryd.underlying138
  a171:=Tryd.isAgg138
  z171:=Tryd.sizeOf138
  v171:=Tryd.zeroValue138
  t173:=Tryd.underlying140
  a173:=Tryd.isAgg140
  z173:=Tryd.sizeOf140
  v173:=Tryd.zeroValue140
  t210:=Tryd.underlying78
  a210:=Tryd.isAgg78
  z210:=Tryd.sizeOf78
  v210:=Tryd.zeroValue78
  t212:=Tryd.underlying147
  a212:=Tryd.isAgg147
  z212:=Tryd.sizeOf147
  v212:=Tryd.zeroValue147
  t213:=Tryd.underlying148
  a213:=Tryd.isAgg148
  z213:=Tryd.sizeOf148
  t232:=Tryd.underlying151
  a232:=Tryd.isAgg151
  z232:=Tryd.sizeOf151
  v232:=Tryd.zeroValue151
  t233:=Tryd.underlying152
  a233:=Tryd.isAgg152
  z233:=Tryd.sizeOf152
  v233:=Tryd.zeroValue152
  g15:=by kernel_rfl
  g16:=by kernel_rfl
  g17:=by kernel_rfl
  g18:=by kernel_rfl
  g19:=by kernel_rfl
  t80:=Tryd.underlying153
  a80:=Tryd.isAgg153
  z80:=Tryd.sizeOf153
  v80:=Tryd.zeroValue153
  i0:=by kernel_rfl
  i2:=by kernel_rfl
  i3:=by kernel_rfl
  i4:=by kernel_rfl
  i5:=by kernel_rfl
  i9:=by kernel_rfl
  i20:=by kernel_rfl
  i37:=by kernel_rfl
  i46:=by kernel_rfl
  i51:=by kernel_rfl
  i53:=by kernel_rfl
  i75:=by kernel_rfl
  i80:=by kernel_rfl
  i127:=by kernel_rfl
  i143:=by kernel_rfl
  i145:=by kernel_rfl
  i167:=by kernel_rfl
  i168:=by kernel_rfl
  i171:=by kernel_rfl
  i173:=by kernel_rfl
  i210:=by kernel_rfl
  i212:=by kernel_rfl
  i232:=by kernel_rfl
  i233:=by kernel_rfl
  m15:=by kernel_rfl
  m16:=by kernel_rfl
  m17:=by kernel_rfl
  m18:=by kernel_rfl
  m19:=by kernel_rfl
  c0:=by kernel_rfl
  c2:=by kernel_rfl
  c3:=by kernel_rfl
  c4:=by kernel_rfl
  c5:=by kernel_rfl
  c9:=by kernel_rfl
  c20:=by kernel_rfl
  c37:=by kernel_rfl
  c46:=by kernel_rfl
  c51:=by kernel_rfl
  c53:=by kernel_rfl
  c75:=by kernel_rfl
  c80:=by kernel_rfl
  c127:=by kernel_rfl
  c143:=by kernel_rfl
  c145:=by kernel_rfl
  c167:=by kernel_rfl
  c168:=by kernel_rfl
  c171:=by kernel_rfl
  c173:=by kernel_rfl
  c210:=by kernel_rfl
  c212:=by kernel_rfl
  c213:=by kernel_rfl
  c232:=by kernel_rfl
  c233:=by kernel_rfl }
open Go.RowKit in
theorem Tryd.strconv_toError_syntax (fn s : ByteArray) (base bits:Int) (ev:Value) (w:World) (hlim:s.size≤281474976710656) (hv:w.cell? ⟨3,0,none⟩=some ev) (hev:ev = .nilIface∨∃ te pe,ev = .iface te pe) :
    Calls Tryd.prog 25 #[.string fn, .string s, .int .i64 base, .int .i64 bits, .iface 65 (.int .i64 2)] w fun e w'=>∃ N,e = .returned (.iface 66 (.pointer (some ⟨N,0,none⟩)))∧w.heap.size≤N∧w'.heap[N]? = some (.cells #[.string fn, .string s,ev] 78 (0,0))∧Below w.heap.size w w':=Any.strconv_toError_syntax Tryd.laysC245 fn s base bits ev w hlim hv hev
def Tryd.laysPu14_ren : Go.Shelf.Ren := ⟨fun|14=>35|16=>42|17=>25|19=>57|20=>58|21=>31|22=>32|23=>33|24=>34|25=>39|27=>41|26=>40|28=>56|29=>73|30=>78|31=>79|32=>80|33=>81|35=>62|34=>84|36=>66|37=>85|38=>86|39=>87|40=>88|n=>n,fun|9=>9|3=>3|22=>69|24=>51|25=>70|4=>4|34=>65|5=>5|36=>49|37=>30|0=>0|39=>66|21=>21|44=>78|47=>105|50=>108|48=>106|2=>2|52=>138|55=>140|59=>147|60=>72|20=>20|61=>148|65=>151|66=>152|67=>153|n=>n,fun|0=>3|1=>4|2=>13|3=>14|4=>15|n=>n⟩
theorem Tryd.laysPu14 : Go.Proofs.LaysPu.n14 Tryd.prog Tryd.laysPu14_ren:={
  mixed:=by kernel_rfl
  f14:=Tryd.func35.trans (congrArg some (by kernel_rfl))
  f16:=Tryd.func42.trans (congrArg some (by kernel_rfl))
  f17:=Tryd.func25.trans (congrArg some (by kernel_rfl))
  f19:=Tryd.func57.trans (congrArg some (by kernel_rfl))
  f20:=Tryd.func58.trans (congrArg some (by kernel_rfl))
  f21:=Tryd.func31.trans (congrArg some (by kernel_rfl))
  f22:=Tryd.func32.trans (congrArg some (by kernel_rfl))
  f23:=Tryd.func33.trans (congrArg some (by kernel_rfl))
  f24:=Tryd.func34.trans (congrArg some (by kernel_rfl))
  f25:=Tryd.func39.trans (congrArg some (by kernel_rfl))
  f26:=Tryd.func40.trans (congrArg some (by kernel_rfl))
  f27:=Tryd.func41.trans (congrArg some (by kernel_rfl))
  f28:=Tryd.func56.trans (congrArg some (by kernel_rfl))
  f29:=Tryd.func73.trans (congrArg some (by kernel_rfl))
  f30:=Tryd.func78.trans (congrArg some (by kernel_rfl))
  f31:=Tryd.func79.trans (congrArg some (by kernel_rfl))
  f32:=Tryd.func80.trans (congrArg some (by kernel_rfl))
  f33:=Tryd.func81.trans (congrArg some (by kernel_rfl))
  f34:=Tryd.func84.trans (congrArg some (by kernel_rfl))
  f35:=Tryd.func62.trans (congrArg some (by kernel_rfl))
  f36:=Tryd.func66.trans (congrArg some (by kernel_rfl))
  f37:=Tryd.func85.trans (congrArg some (by kernel_rfl))
  f38:=Tryd.func86.trans (congrArg some (by kernel_rfl))
  f39:=Tryd.func87.trans (congrArg some (by kernel_rfl))
  f40:=Tryd.func88.trans (congrArg some (by kernel_rfl))
  t0:=Tryd.underlying0
  a0:=Tryd.isAgg0
  z0:=Tryd.sizeOf0
  v0:=Tryd.zeroValue0
  i0:=by kernel_rfl
  t2:=Tryd.underlying2
  a2:=Tryd.isAgg2
  z2:=Tryd.sizeOf2
  v2:=Tryd.zeroValue2
  i2:=by kernel_rfl
  t3:=Tryd.underlying3
  a3:=Tryd.isAgg3
  z3:=Tryd.sizeOf3
  v3:=Tryd.zeroValue3
  i3:=by kernel_rfl
  t4:=Tryd.underlying4
  a4:=Tryd.isAgg4
  z4:=Tryd.sizeOf4
  v4:=Tryd.zeroValue4
  i4:=by kernel_rfl
  t5:=Tryd.underlying5
  a5:=Tryd.isAgg5
  z5:=Tryd.sizeOf5
  v5:=Tryd.zeroValue5
  i5:=by kernel_rfl
  t9:=Tryd.underlying9
  a9:=Tryd.isAgg9
  z9:=Tryd.sizeOf9
  v9:=Tryd.zeroValue9
  i9:=by kernel_rfl
  t20:=Tryd.underlying20
  a20:=Tryd.isAgg20
  z20:=Tryd.sizeOf20
  v20:=Tryd.zeroValue20
  i20:=by kernel_rfl
  t21:=Tryd.underlying21
  a21:=Tryd.isAgg21
  z21:=Tryd.sizeOf21
  v21:=Tryd.zeroValue21
  i21:=by kernel_rfl
  t22:=Tryd.underlying69
  a22:=Tryd.isAgg69
  z22:=Tryd.sizeOf69
  v22:=Tryd.zeroValue69
  i22:=by kernel_rfl
  t24:=Tryd.underlying51
  a24:=Tryd.isAgg51
  z24:=Tryd.sizeOf51
  v24:=Tryd.zeroValue51
  i24:=by kernel_rfl
  t25:=Tryd.underlying70
  a25:=Tryd.isAgg70
  z25:=Tryd.sizeOf70
  v25:=Tryd.zeroValue70
  i25:=by kernel_rfl
  t34:=Tryd.underlying65
  a34:=Tryd.isAgg65
  z34:=Tryd.sizeOf65
  v34:=Tryd.zeroValue65
  i34:=by kernel_rfl
  c34:=by kernel_rfl
  t36:=Tryd.underlying49
  a36:=Tryd.isAgg49
  z36:=Tryd.sizeOf49
  v36:=Tryd.zeroValue49
  i36:=by kernel_rfl
  t37:=Tryd.underlying30
  a37:=Tryd.isAgg30
  z37:=Tryd.sizeOf30
  v37:=Tryd.zeroValue30
  i37:=by kernel_rfl
  t39:=Tryd.underlying66
  a39:=Tryd.isAgg66
  z39:=Tryd.sizeOf66
  v39:=Tryd.zeroValue66
  i39:=by kernel_rfl
  t44:=Tryd.underlying78
  a44:=Tryd.isAgg78
  z44:=Tryd.sizeOf78
  v44:=Tryd.zeroValue78
  i44:=by kernel_rfl
  t47:=Tryd.underlying105
  a47:=Tryd.isAgg105
  z47:=Tryd.sizeOf105
  v47:=Tryd.zeroValue105
  i47:=by kernel_rfl
  t48:=Tryd.underlying106
  a48:=Tryd.isAgg106
  z48:=Tryd.sizeOf106
  v48:=Tryd.zeroValue106
  i48:=by kernel_rfl
  t50:=Tryd.underlying108
  a50:=Tryd.isAgg108
  z50:=Tryd.sizeOf108
  v50:=Tryd.zeroValue108
  i50:=by kernel_rfl
  t52:=Tryd.underlying138
  a52:=Tryd.isAgg138
  z52:=Tryd.sizeOf138
  v52:=Tryd.zeroValue138
  i52:=by kernel_rfl
  t55:=Tryd.underlying140
  a55:=Tryd.isAgg140
  z55:=Tryd.sizeOf140
  v55:=Tryd.zeroValue140
  i55:=by kernel_rfl
  t59:=Tryd.underlying147
  a59:=Tryd.isAgg147
  z59:=Tryd.sizeOf147
  v59:=Tryd.zeroValue147
  i59:=by kernel_rfl
  t60:=Tryd.underlying72
  a60:=Tryd.isAgg72
  z60:=Tryd.sizeOf72
  v60:=Tryd.zeroValue72
  i60:=by kernel_rfl
  t61:=Tryd.underlying148
  a61:=Tryd.isAgg148
  z61:=Tryd.sizeOf148
  t65:=Tryd.underlying151
  a65:=Tryd.isAgg151
  z65:=Tryd.sizeOf151
  v65:=Tryd.zeroValue151
  i65:=by kernel_rfl
  t66:=Tryd.underlying152
  a66:=Tryd.isAgg152
  z66:=Tryd.sizeOf152
  v66:=Tryd.zeroValue152
  i66:=by kernel_rfl
  t67:=Tryd.underlying153
  a67:=Tryd.isAgg153
  z67:=Tryd.sizeOf153
  v67:=Tryd.zeroValue153
  i67:=by kernel_rfl
  g0:=by kernel_rfl
  m0:=by kernel_rfl
  g1:=by kernel_rfl
  m1:=by kernel_rfl
  g2:=by kernel_rfl
  m2:=by kernel_rfl
  g3:=by kernel_rfl
  m3:=by kernel_rfl
  g4:=by kernel_rfl
  m4:=by kernel_rfl }
open Go.RowKit in
theorem Tryd.strconv_ParseUint_10_at64_ok (s : ByteArray) (hmax:s.size≤9223372036854775806) (u:Nat) (h:Lib.parseUintB 64 s.data.toList = .ok u) (w:World) :
    Calls Tryd.prog 35 #[.string s, .int .i64 10, .int .i64 64] w fun e w'=>e = .returned (.tuple #[.int .u64 u, .nilIface])∧(w'=w∨w'=Lib.bytesWorld w 5 s):=Any.strconv_ParseUint_10_at64_ok Tryd.laysPu14 s hmax u h w
open Go.RowKit in
theorem Tryd.strconv_ParseUint_10_at64_syntax (s : ByteArray) (hlim:s.size≤281474976710656) (h:Lib.parseUintB 64 s.data.toList=Lib.parseUintB 64 []) (ev:Value) (w:World) (hv:w.cell? ⟨3,0,none⟩=some ev) (hev:ev = .nilIface∨∃ te pe,ev = .iface te pe) :
    Calls Tryd.prog 35 #[.string s, .int .i64 10, .int .i64 64] w fun e w'=>∃ N,e = .returned (.tuple #[.int .u64 0, .iface 66 (.pointer (some ⟨N,0,none⟩))])∧w.heap.size≤N∧w'.heap[N]? = some (.cells #[.string ⟨#[80,97,114,115,101,85,105,110,116]⟩, .string s,ev] 78 (0,0))∧Below w.heap.size w w':=Any.strconv_ParseUint_10_at64_syntax Tryd.laysPu14 s hlim h ev w hv hev
open Go.RowKit in
theorem Tryd.strconv_ParseUint_10_at64_range (s : ByteArray) (hlim:s.size≤281474976710656) (h:Lib.parseUintB 64 s.data.toList = .range) (ev:Value) (w:World) (hv:w.cell? ⟨4,0,none⟩=some ev) (hev:ev = .nilIface∨∃ te pe,ev = .iface te pe) :
    Calls Tryd.prog 35 #[.string s, .int .i64 10, .int .i64 64] w fun e w'=>∃ N,e = .returned (.tuple #[.int .u64 18446744073709551615, .iface 66 (.pointer (some ⟨N,0,none⟩))])∧w.heap.size≤N∧w'.heap[N]? = some (.cells #[.string ⟨#[80,97,114,115,101,85,105,110,116]⟩, .string s,ev] 78 (0,0))∧Below w.heap.size w w':=Any.strconv_ParseUint_10_at64_range Tryd.laysPu14 s hlim h ev w hv hev
def Tryd.lays260_ren : Go.Shelf.Ren := ⟨fun|260=>21|n=>n,fun|9=>9|21=>21|3=>3|4=>4|5=>5|119=>54|0=>0|46=>49|139=>57|138=>56|n=>n,fun|3=>1|4=>2|n=>n⟩
theorem Tryd.lays260 : Go.Proofs.Lays.n260 Tryd.prog Tryd.lays260_ren:={
  mixed:=by kernel_rfl
  f260:=Tryd.func21.trans (congrArg some (by kernel_rfl))
  t0:=Tryd.underlying0
  a0:=Tryd.isAgg0
  z0:=Tryd.sizeOf0
  v0:=Tryd.zeroValue0
  t3:=Tryd.underlying3
  a3:=Tryd.isAgg3
  z3:=Tryd.sizeOf3
  v3:=Tryd.zeroValue3
  t4:=Tryd.underlying4
  a4:=Tryd.isAgg4
  z4:=Tryd.sizeOf4
  v4:=Tryd.zeroValue4
  t5:=Tryd.underlying5
  a5:=Tryd.isAgg5
  z5:=Tryd.sizeOf5
  v5:=Tryd.zeroValue5
  t9:=Tryd.underlying9
  a9:=Tryd.isAgg9
  z9:=Tryd.sizeOf9
  v9:=Tryd.zeroValue9
  t21:=Tryd.underlying21
  a21:=Tryd.isAgg21
  z21:=Tryd.sizeOf21
  v21:=Tryd.zeroValue21
  t46:=Tryd.underlying49
  a46:=Tryd.isAgg49
  z46:=Tryd.sizeOf49
  v46:=Tryd.zeroValue49
  t119:=Tryd.underlying54
  a119:=Tryd.isAgg54
  z119:=Tryd.sizeOf54
  t138:=Tryd.underlying56
  a138:=Tryd.isAgg56
  z138:=Tryd.sizeOf56
  v138:=Tryd.zeroValue56
  t139:=Tryd.underlying57
  a139:=Tryd.isAgg57
  z139:=Tryd.sizeOf57
  v139:=Tryd.zeroValue57
  g3:=by kernel_rfl
  g4:=by kernel_rfl }
def Tryd.lays197_ren : Go.Shelf.Ren := ⟨fun|197=>16|260=>21|n=>n,fun|9=>9|21=>21|3=>3|4=>4|5=>5|105=>42|119=>54|0=>0|46=>49|139=>57|138=>56|n=>n,fun|3=>1|4=>2|n=>n⟩
theorem Tryd.lays197 : Go.Proofs.Lays.n197 Tryd.prog Tryd.lays197_ren:={
  mixed:=by kernel_rfl
  f197:=Tryd.func16.trans (congrArg some (by kernel_rfl))
  f260:=Tryd.func21.trans (congrArg some (by kernel_rfl))
  t0:=Tryd.underlying0
  a0:=Tryd.isAgg0
  z0:=Tryd.sizeOf0
  v0:=Tryd.zeroValue0
  t3:=Tryd.underlying3
  a3:=Tryd.isAgg3
  z3:=Tryd.sizeOf3
  v3:=Tryd.zeroValue3
  t4:=Tryd.underlying4
  a4:=Tryd.isAgg4
  z4:=Tryd.sizeOf4
  v4:=Tryd.zeroValue4
  t5:=Tryd.underlying5
  a5:=Tryd.isAgg5
  z5:=Tryd.sizeOf5
  v5:=Tryd.zeroValue5
  t9:=Tryd.underlying9
  a9:=Tryd.isAgg9
  z9:=Tryd.sizeOf9
  v9:=Tryd.zeroValue9
  t21:=Tryd.underlying21
  a21:=Tryd.isAgg21
  z21:=Tryd.sizeOf21
  v21:=Tryd.zeroValue21
  t46:=Tryd.underlying49
  a46:=Tryd.isAgg49
  z46:=Tryd.sizeOf49
  v46:=Tryd.zeroValue49
  t105:=Tryd.underlying42
  a105:=Tryd.isAgg42
  z105:=Tryd.sizeOf42
  v105:=Tryd.zeroValue42
  t119:=Tryd.underlying54
  a119:=Tryd.isAgg54
  z119:=Tryd.sizeOf54
  t138:=Tryd.underlying56
  a138:=Tryd.isAgg56
  z138:=Tryd.sizeOf56
  v138:=Tryd.zeroValue56
  t139:=Tryd.underlying57
  a139:=Tryd.isAgg57
  z139:=Tryd.sizeOf57
  v139:=Tryd.zeroValue57
  g3:=by kernel_rfl
  g4:=by kernel_rfl }
open Go.RowKit Go.Lib in
theorem Tryd.utf8_DecodeRuneInString (s : ByteArray) (w:World) (hT:Lib.Utf8Tabs 1 2 w) :
    Calls Tryd.prog 16 #[.string s] w fun e w'=>e = .returned (.tuple #[.int .i32 (Lib.decodeGo s).1, .int .i64 (Lib.decodeGo s).2])∧Below w.heap.size w w':=Any.utf8_DecodeRuneInString Tryd.lays197 s w hT
end Go.Proofs
section
set_option linter.unusedVariables false
set_option linter.unusedSimpArgs false
namespace Go.Proofs.YtchhndbekjgimaaDoorW.PrintWords
open Go.RowKit

structure Aside0 (p : Prop):Prop where mk :: (out:p)
structure Drawn0 (w w' : World):Prop where mk :: (out:∃ n,w'=w.drewN n)
theorem Drawn0.refl (w : World):Drawn0 w w:=⟨⟨0,rfl⟩⟩
theorem Drawn0.step {w w' : World} (h:Drawn0 w w') (n:Nat):Drawn0 w (w'.drewN n):=by
  obtain ⟨m,rfl⟩:=h;exact ⟨⟨m+n,World.drewN_drewN ..⟩⟩
theorem Drawn0.grown {w w' : World} (h:Drawn0 w w'):Grown w w':=by
  obtain ⟨n,rfl⟩:=h
  induction n with
  | zero=>exact Grown.refl _
  | succ n ih=>rw [← World.drew_drewN];exact Grown.drew ih
theorem Drawn0.below {w w' : World} (h:Drawn0 w w'):Below w.heap.size w w':=by
  obtain ⟨n,rfl⟩:=h
  induction n with
  | zero=>exact Below.refl _ _
  | succ n ih=>rw [← World.drew_drewN];exact ih.drew


def rd (xs : List Int) (i:Int):Int:=xs.getD i.toNat 0
def bt (s : ByteArray) (i:Int):Int:=if h:i.toNat<s.size then ((s[i.toNat]'h).toNat:Int) else 0
theorem bt_at (s : ByteArray) (i:Int):∀ h:i.toNat<s.size,((s[i.toNat]'h).toNat:Int)=bt s i:=fun h=>by simp [bt,h]
theorem bt_range (s : ByteArray) (i:Int):0≤bt s i∧bt s i≤255:=by
  unfold bt;split
  · rename_i h
    have:=(s[i.toNat]'h).toNat_lt;omega
  · omega
def nums (k : IntKind) (xs:List Int):List Value:=xs.map fun x => .int k x
theorem nums_append (k : IntKind) (xs ys:List Int):nums k (xs++ys)=nums k xs++nums k ys:=by simp [nums]

theorem j1i {w W : World} (h:Below w.heap.size w W) (o:Obj):Below w.heap.size w (W.alloc o):=h.alloc h.size o
theorem below_drew {B : Nat} {w W:World} (h:Below B w W):Below B w W.drew:=⟨h.os,h.tape,h.output,h.size,h.block⟩
theorem j1d {B : Nat} {w W:World} (h:Below B w W) (n:Nat):Below B w (W.drewN n):=⟨h.os,h.tape,h.output,h.size,h.block⟩
theorem below_then {B : Nat} {w w1 w2:World} (h:Below B w w1) (hB:B≤w1.heap.size) (k:Below w1.heap.size w1 w2):Below B w w2 :=
  h.trans ⟨k.os,k.tape,k.output,k.size,fun i hi=>k.block i (Nat.lt_of_lt_of_le hi hB)⟩
theorem grown_of_below {w w1 : World} (h:Below w.heap.size w w1) (row:Option Nat):w.grownBy w1 row:=⟨h.os,h.tape,h.output,h.size,fun i hi _=>h.block i hi⟩
theorem pw_cell_below {w w1 : World} (h:Below w.heap.size w w1) {a:Addr} {v:Value} (hc:w.cell? a=some v):w1.cell? a=some v:=(h.cell (World.block_lt_of_cell? w a hc)).trans hc

theorem add_plain (g j : Nat):(⟨g,0,none⟩:Addr).add j=⟨g,j,none⟩:=by unfold Addr.add;split<;>simp_all

def ReadsInt (w : World) (k:IntKind) (A:Option Addr) (n:Nat) (xs:List Int):Prop :=
  xs.length=n∧n≤9223372036854775807∧(0<n→∃ ad,A=some ad∧∀ j,j<n→w.cell? (ad.add j)=some (.int k (xs.getD j 0)))
theorem ReadsInt.below {w w1 : World} {k:IntKind} {A:Option Addr} {n:Nat} {xs:List Int} (h:ReadsInt w k A n xs) (hb:Below w.heap.size w w1):ReadsInt w1 k A n xs :=
  ⟨h.1,h.2.1,fun hn=>by
    obtain ⟨ad,e,hc⟩:=h.2.2 hn;exact ⟨ad,e,fun j hj=>pw_cell_below hb (hc j hj)⟩⟩

theorem own_nil (W : World) (base:Nat) (e:TypeId) (size:Nat):W.ownsRow base e size (.slice none 0 0) 0 []:=⟨by simp, .inl ⟨rfl,rfl⟩⟩
theorem own_base {w : World} {base:Nat} {e:TypeId} {size n:Nat} {v:Value} {xs:List Value} (h:w.ownsRow base e size v n xs) (k:Nat) (hk:v.ownBlock=some k):base≤k:=by
  rcases h.2 with ⟨rfl,_⟩|⟨g,cap,cur,rfl,hb,_⟩
  · simp [Value.ownBlock] at hk
  · have:g=k:=by simpa [Value.ownBlock] using hk
    omega
theorem own_lt {w : World} {base:Nat} {e:TypeId} {size n:Nat} {v:Value} {xs:List Value} (h:w.ownsRow base e size v n xs) (k:Nat) (hk:v.ownBlock=some k):k<w.heap.size:=by
  rcases h.2 with ⟨rfl,_⟩|⟨g,cap,cur,rfl,hb,hh,_⟩
  · simp [Value.ownBlock] at hk
  · have:g=k:=by simpa [Value.ownBlock] using hk
    subst this;exact (Array.getElem?_eq_some_iff.1 hh).1
theorem pw_own_below {w w1 : World} {base:Nat} {e:TypeId} {size n:Nat} {v:Value} {xs:List Value} (h:w.ownsRow base e size v n xs) (hb:Below w.heap.size w w1):w1.ownsRow base e size v n xs :=
  h.kept (grown_of_below hb none) (by cases v.ownBlock<;>simp)
theorem own_slice {w : World} {base n:Nat} {e:TypeId} {size:Nat} {v:Value} {xs:List Value} (h:w.ownsRow base e size v n xs):∃ A c,v = .slice A n c:=by
  rcases h.2 with ⟨rfl,rfl⟩|⟨g,cap,cur,rfl,_⟩
  · exact ⟨none,0,rfl⟩
  · exact ⟨_,cap,rfl⟩
theorem own_string {P : Program} {w:World} {base n:Nat} {e' src dst e:TypeId} {v:Value} {xs:List Int} (hs:P.underlying src=some (.slice e)) (he:P.underlying e=some (.int .u8)) (hd:P.underlying dst=some .string)
    (h:w.ownsRow base e' 1 v n (nums .u8 xs)):(convert src dst v).run P w = .ok (.string (strOfNums xs)) w:=by
  have hl:xs.length=n:=by have:=h.1;simp [nums] at this;exact this
  rcases h.2 with ⟨rfl,rfl⟩|⟨g,cap,cur,rfl,_⟩
  · obtain rfl:xs=[]:=List.eq_nil_of_length_eq_zero hl
    exact run_convert_bytes_nil w src e hs he 0 0 dst hd
  · refine run_convert_bytes_arg w src e hs he g 0 n cap xs hl (fun i hi=>?_) dst hd
    have hc:=h.cells (g:=g) rfl i (.int .u8 (xs.getD i 0)) (by simp [nums,List.getElem?_eq_getElem (show i<xs.length by omega),List.getD_eq_getElem?_getD]);have ha:(⟨g,0,none⟩:Addr).add i=⟨g,0+i,none⟩:=by unfold Addr.add;split<;>simp_all
    rwa [ha] at hc

section
variable {P : Program} {ops:Array Oper} {rest:List Oper} {o:Oper} {a:Act} {Q:Exit→Act→World→Prop}

end

section
variable {P : Program}
end
section
variable {P : Program} {ops:Array Oper} {rest:List Oper} {o:Oper} {a:Act} {Q:Exit→Act→World→Prop}
end

def bytesOf (s : ByteArray):List Int:=s.data.toList.map fun b=>(b.toNat:Int)
theorem data_length (s : ByteArray):s.data.toList.length=s.size:=by rw [Array.length_toList];rfl
theorem bytesOf_length (s : ByteArray):(bytesOf s).length=s.size:=by rw [bytesOf,List.length_map,data_length]
theorem rd_bytesOf (s : ByteArray) (i:Int):rd (bytesOf s) i=bt s i:=by
  unfold rd bt bytesOf;split
  · rename_i h
    have h':i.toNat<s.data.toList.length:=by rw [data_length];exact h
    simp [List.getD_eq_getElem?_getD,List.getElem?_eq_getElem h'];rfl
  · rename_i h
    have h':s.data.toList.length≤i.toNat:=by rw [data_length];omega
    simp [List.getD_eq_getElem?_getD,List.getElem?_eq_none h']
theorem ReadsInt.take_ {w : World} {k:IntKind} {A:Option Addr} {n:Nat} {xs:List Int} (h:ReadsInt w k A n xs) (i:Nat) (hi:i≤n):ReadsInt w k A i (xs.take i):=by
  refine ⟨by rw [List.length_take,h.1];omega,by have:=h.2.1;omega,fun hp=>?_⟩;obtain ⟨ad,e,hc⟩:=h.2.2 (by omega);refine ⟨ad,e,fun j hj=>?_⟩;rw [hc j (by omega)];simp [List.getD_eq_getElem?_getD,hj]
def LeO {α : Type} (a b:Option α):Prop:=∀ r,a=some r→b=some r
theorem LeO.refl {α : Type} (a:Option α):LeO a a:=fun _ h=>h
theorem LeO.none {α : Type} (b:Option α):LeO Option.none b:=fun _ h=>by cases h
theorem LeO.trans {α : Type} {a b c:Option α} (h:LeO a b) (k:LeO b c):LeO a c:=fun r hr=>k r (h r hr)
theorem LeO.ite {α : Type} {c:Prop} [Decidable c] {a a' b b':Option α} (h:LeO a a') (k:LeO b b'):LeO (if c then a else b) (if c then a' else b'):=by
  split
  · exact h
  · exact k
theorem LeO.bind {α β : Type} {a a':Option α} {f f':α→Option β} (h:LeO a a') (k:∀ x,LeO (f x) (f' x)):LeO (a.bind f) (a'.bind f'):=by
  intro r hr;obtain ⟨x,hx,hf⟩:=Option.bind_eq_some_iff.1 hr;exact Option.bind_eq_some_iff.2 ⟨x,h x hx,k x r hf⟩
theorem LeO.map {α β : Type} {a a':Option α} (f:α→β) (h:LeO a a'):LeO (a.map f) (a'.map f):=by
  intro r hr;obtain ⟨x,hx,hf⟩:=Option.map_eq_some_iff.1 hr;exact Option.map_eq_some_iff.2 ⟨x,h x hx,hf⟩
theorem more_rounds {α : Type} {g:Nat→Option α} (h:∀ k,LeO (g k) (g (k+1))) (k:Nat):∀ j,LeO (g k) (g (k+j))
  | 0=>LeO.refl _
  | j+1=>(more_rounds h k j).trans (h (k+j))
theorem at_rounds {α : Type} {g:Nat→Option α} (h:∀ k,LeO (g k) (g (k+1))) {k k':Nat} (hk:k≤k') {r:α} (hr:g k=some r):g k'=some r:=by
  have:=more_rounds h k (k' - k) r hr
  rwa [Nat.add_sub_cancel' hk] at this
def Reps {α : Type} (R:α→List Value→Prop) (size:Nat) (ps:List α) (cs:List Value):Prop :=
  cs.length=ps.length*size∧∀ j p,ps[j]? = some p→R p ((cs.drop (j*size)).take size)
theorem Reps.none {α : Type} (R:α→List Value→Prop) (size:Nat):Reps R size [] []:=⟨by simp,fun j p h=>by simp at h⟩
theorem Reps.snoc {α : Type} {R:α→List Value→Prop} {size:Nat} {ps:List α} {cs c:List Value} {p:α} (h:Reps R size ps cs) (hp:R p c) (hc:c.length=size):Reps R size (ps++[p]) (cs++c):=by
  refine ⟨by rw [List.length_append,h.1,hc,List.length_append,List.length_singleton,Nat.add_mul,Nat.one_mul],fun j q hq=>?_⟩;rcases Nat.lt_or_ge j ps.length with hj|hj
  · rw [List.getElem?_append_left hj] at hq
    have h1:j*size+size≤cs.length:=by rw [h.1,← Nat.succ_mul];exact Nat.mul_le_mul_right _ hj
    have h2:=h.2 j q hq;rw [List.drop_append_of_le_length (by omega),List.take_append_of_le_length (by rw [List.length_drop];omega)];exact h2
  · have hj':j=ps.length:=by
      have:=(List.getElem?_eq_some_iff.1 hq).1;rw [List.length_append,List.length_singleton] at this;omega
    subst hj';have hq':p=q:=by simpa using hq
    subst hq';rw [← h.1,List.drop_left,← hc,List.take_length];exact hp
theorem Reps.imp_ {α : Type} {R R':α→List Value→Prop} {size:Nat} {ps:List α} {cs:List Value} (h:Reps R size ps cs) (hR:∀ p c,R p c→R' p c):Reps R' size ps cs:=⟨h.1,fun j p hj=>hR _ _ (h.2 j p hj)⟩

def ReadsRow {α : Type} (R:α→List Value→Prop) (size:Nat) (w:World) (A:Option Addr) (n:Nat) (ps:List α):Prop :=
  ps.length=n∧n≤9223372036854775807∧(0<n→∃ ad,A=some ad∧∀ j p,ps[j]? = some p→∃ c,c.length=size∧R p c∧∀ i u,c[i]? = some u→w.cell? (ad.add (j*size+i))=some u)
theorem ReadsRow.imp_ {α : Type} {R R':α→List Value→Prop} {size:Nat} {w w1:World} {A:Option Addr} {n:Nat} {ps:List α} (h:ReadsRow R size w A n ps) (hb:Below w.heap.size w w1) (hR:∀ p c,R p c→R' p c):ReadsRow R' size w1 A n ps :=
  ⟨h.1,h.2.1,fun hn=>by
    obtain ⟨ad,e,hc⟩:=h.2.2 hn;refine ⟨ad,e,fun j p hj=>?_⟩;obtain ⟨c,hs,hr,hcell⟩:=hc j p hj;exact ⟨c,hs,hR _ _ hr,fun i u hu=>pw_cell_below hb (hcell i u hu)⟩⟩
theorem own_reads_row {α : Type} {R:α→List Value→Prop} {w:World} {base n size:Nat} {e:TypeId} {v:Value} {ps:List α} {cs:List Value} (h:w.ownsRow base e size v n cs) (hR:Reps R size ps cs) (hn:ps.length=n) :
    ∃ A c,v = .slice A n c∧ReadsRow R size w A n ps:=by
  rcases Nat.eq_zero_or_pos n with h0|h0
  · rcases h.2 with ⟨rfl,rfl⟩|⟨g,cap,cur,rfl,_⟩
    · exact ⟨none,0,rfl,hn,by omega,fun hp=>absurd hp (by omega)⟩
    · exact ⟨_,cap,rfl,hn,by omega,fun hp=>absurd hp (by omega)⟩
  · obtain ⟨g,cap,rfl,_,_⟩:=h.form h0
    have hm:n≤9223372036854775807:=by
      rcases h.2 with ⟨_,h1⟩|⟨g',cap',cur,he,_,_,h1,h2,_⟩
      · omega
      · simp only [maxLen] at h2
        omega
    refine ⟨_,cap,rfl,hn,hm,fun _=>⟨_,rfl,fun j p hj=>⟨(cs.drop (j*size)).take size,?_,hR.2 j p hj,fun i u hu=>?_⟩⟩⟩
    · have hjl:=(List.getElem?_eq_some_iff.1 hj).1
      have h1:j*size+size≤cs.length:=by rw [hR.1,← Nat.succ_mul];exact Nat.mul_le_mul_right _ hjl
      rw [List.length_take,List.length_drop];omega
    · refine h.cells (g:=g) rfl _ u ?_
      rw [List.getElem?_take] at hu;split at hu
      · rw [List.getElem?_drop] at hu
        exact hu
      · cases hu
section
variable {P : Program} {ops:Array Oper} {rest:List Oper} {o:Oper} {a:Act} {Q:Exit→Act→World→Prop}
theorem print_append_cells {w0 W : World} (base:Nat) (hgd:o.guard=none) (s x:Operand) (t e:TypeId) (z:Value) (size bytes:Nat)
    (ho:o.op = .call { callee := .builtin .append,args:=#[s,x],argTypes:=#[t,t] })
    (ht:P.underlying t=some (.slice e)) (hinfo:(P.info? e).map (fun i=>(i.zero,i.size,i.bytes))=some (some z,size,bytes)) (hz:z.cells.size=size) (hs0:0<size) (hb0:0<bytes)
    (v:Value) (n:Nat) (xs ys:List Value) (hs:a.eval s=v) (hx:a.eval x = .slice (some ⟨W.heap.size,0,none⟩) 1 1) (hys:ys.length=size) (h1:∀ u ∈ ys,u.oneCell'=true)
    (HO:W.ownsRow base e size v n xs) (HB:Below base w0 W) (hbase:base≤W.heap.size) (hl:(n+1)*bytes≤140737488355328)
    (h:∀ v1 w1,w1.ownsRow base e size v1 (n+1) (xs++ys)→Below base w0 w1→W.grownBy w1 v.ownBlock→(v1.ownBlock=v.ownBlock∨∃ b,v1.ownBlock=some b∧W.heap.size≤b)→wpList P ops Q rest (a.put o.dst v1) w1) :
    wpList P ops Q (o :: rest) a (W.alloc (.cells ys.toArray e)):=by
  obtain ⟨i0,hi,hzz⟩:=Option.map_eq_some_iff.1 hinfo;simp only [Prod.mk.injEq] at hzz;obtain ⟨hz0,hz1,hz2⟩:=hzz;have hlen:n+1≤140737488355328:=Nat.le_trans (Nat.le_mul_of_pos_right _ hb0) hl
  refine wpList_append_own_at (W.alloc (.cells ys.toArray e)) hgd s x t ho base e i0 z size bytes ht hi hz0 hz1 hz2 hz hs0 v n xs hs (HO.alloc _) ⟨W.heap.size,0,none⟩ 1 1 ys hx (by rw [hys];simp)
    (by simpa using World.news_of_block (cs:=ys.toArray) (t:=e) (fr:=(0,0)) (heap_alloc_new W (.cells ys.toArray e))) h1 (by simp only [maxLen];omega) hl (by simp;omega) ?_
  intro v1 w1 hown hg _ hat;refine h v1 w1 hown ((HB.alloc hbase _).grown hg (by simp;omega) (own_base HO)) (World.grownBy.trans (World.grownBy_alloc W _ _) hg) ?_;rcases hat with hat|hat
  · exact .inl hat
  · exact .inr ⟨_,hat,by simp⟩
end

theorem blk_set {w : World} {g:Nat} {t:TypeId} {cs:Array Value} (h:w.heap[g]? = some (.cells cs t (0,0))) (i:Nat) (u:Value):(w.setCell ⟨g,i,none⟩ u).heap[g]? = some (.cells (cs.setIfInBounds i u) t (0,0)):=by
  simp [World.setCell,Array.getElem?_modify,h]
theorem blk_far {w : World} {g:Nat} {t:TypeId} {cs:Array Value} (h:w.heap[g]? = some (.cells cs t (0,0))) {p:Addr} (hp:g≠p.block) (u:Value):(w.setCell p u).heap[g]? = some (.cells cs t (0,0)):=(Below.heap_setCell w p u g hp).trans h
theorem blk_lt {w : World} {g:Nat} {o:Obj} (h:w.heap[g]? = some o):g<w.heap.size:=(Array.getElem?_eq_some_iff.1 h).1
theorem j1g {w : World} {g:Nat} {t:TypeId} {cs:Array Value} (h:w.heap[g]? = some (.cells cs t (0,0))) (i:Nat):w.cell? ⟨g,i,none⟩=cs[i]? := cell_of_row w g i cs t (0,0) h
theorem j1e {w : World} {g:Nat} {t:TypeId} {cs:Array Value} (h:w.heap[g]? = some (.cells cs t (0,0))) (i:Nat):w.frozen? ⟨g,i,none⟩=false:=by simp [World.frozen?,h]
def Ev {α : Type} (g:Nat→Option α) (r:α):Prop:=∃ K,∀ k,K≤k→g k=some r
theorem Ev.of {α : Type} {g:Nat→Option α} {r:α} (hg:∀ k,LeO (g k) (g (k+1))) {k:Nat} (h:g k=some r):Ev g r:=⟨k,fun _ hk=>at_rounds hg hk h⟩
theorem Ev.now {α : Type} (r:α):Ev (fun _=>some r) r:=⟨0,fun _ _=>rfl⟩
theorem Ev.bind {α β : Type} {g:Nat→Option α} {f:Nat→α→Option β} {a:α} {r:β} (h:Ev g a) (k:Ev (fun n=>f n a) r):Ev (fun n=>(g n).bind (f n)) r:=by
  obtain ⟨K,h⟩:=h;obtain ⟨K',k⟩:=k;refine ⟨max K K',fun n hn=>?_⟩;have h1:=h n (by omega);have h2:=k n (by omega);simp only [h1,Option.bind_some];exact h2
theorem Ev.step {α : Type} {g f:Nat→Option α} {r:α} (h:∀ k,g (k+1)=f k) (k:Ev f r):Ev g r:=by
  obtain ⟨K,k⟩:=k;refine ⟨K+1,fun n hn=>?_⟩;obtain ⟨m,rfl⟩:∃ m,n=m+1:=⟨n - 1,by omega⟩;rw [h];exact k m (by omega)
theorem Ev.congr {α : Type} {g f:Nat→Option α} {r:α} (h:∀ k,g k=f k) (k:Ev f r):Ev g r:=by
  obtain ⟨K,k⟩:=k;exact ⟨K,fun n hn=>(h n).trans (k n hn)⟩
section
variable {P : Program} {ops:Array Oper} {o:Oper} {a:Act} {Q:Exit→Act→World→Prop} {K:Act→World→Prop}
end
theorem own_weaken {w : World} {base base':Nat} {e:TypeId} {size n:Nat} {v:Value} {xs:List Value} (h:w.ownsRow base e size v n xs) (hb:base'≤base):w.ownsRow base' e size v n xs:=by
  obtain ⟨h1,h2⟩:=h;refine ⟨h1,?_⟩;rcases h2 with h2|⟨g,cap,cur,rfl,hg,r⟩
  · exact .inl h2
  · exact .inr ⟨g,cap,cur,rfl,Nat.le_trans hb hg,r⟩
section
variable {α : Type} {enc:α→Value} {d:α}
def encs (enc : α→Value) (xs:List α):List Value:=xs.map enc
def rdOf (d : α) (xs:List α) (i:Int):α:=xs.getD i.toNat d
theorem encs_length (xs : List α):(encs enc xs).length=xs.length:=by simp [encs]
theorem encs_append (xs ys : List α):encs enc (xs++ys)=encs enc xs++encs enc ys:=by simp [encs]
theorem encs_get (xs : List α) (j:Nat) (h:j<xs.length):(encs enc xs)[j]? = some (enc (xs.getD j d)):=by
  simp [encs,List.getElem?_eq_getElem h,List.getD_eq_getElem?_getD]
def ReadsOf (enc : α→Value) (d:α) (w:World) (A:Option Addr) (n:Nat) (xs:List α):Prop :=
  xs.length=n∧n≤9223372036854775807∧(0<n→∃ ad,A=some ad∧∀ j,j<n→w.cell? (ad.add j)=some (enc (xs.getD j d)))
theorem ReadsOf.below {w w1 : World} {A:Option Addr} {n:Nat} {xs:List α} (h:ReadsOf enc d w A n xs) (hb:Below w.heap.size w w1):ReadsOf enc d w1 A n xs :=
  ⟨h.1,h.2.1,fun hn=>by
    obtain ⟨ad,e,hc⟩:=h.2.2 hn;exact ⟨ad,e,fun j hj=>pw_cell_below hb (hc j hj)⟩⟩
theorem ReadsOf.take_ {w : World} {A:Option Addr} {n:Nat} {xs:List α} (h:ReadsOf enc d w A n xs) (i:Nat) (hi:i≤n):ReadsOf enc d w A i (xs.take i):=by
  refine ⟨by rw [List.length_take,h.1];omega,by have:=h.2.1;omega,fun hp=>?_⟩;obtain ⟨ad,e,hc⟩:=h.2.2 (by omega);refine ⟨ad,e,fun j hj=>?_⟩;rw [hc j (by omega)];simp [List.getD_eq_getElem?_getD,hj]
theorem own_at_of {W : World} {base g n cap:Nat} {e:TypeId} {xs:List α} (h:W.ownsRow base e 1 (.slice (some ⟨g,0,none⟩) n cap) n (encs enc xs)) (i:Int) (h0:0≤i) (h1:i<n) :
    W.cell? ⟨g,i.toNat,none⟩=some (enc (rdOf d xs i))∧W.frozen? ⟨g,i.toNat,none⟩=false:=by
  have hl:xs.length=n:=by have:=h.1;simp [encs] at this;exact this
  constructor
  · have hc:=h.cells (g:=g) rfl i.toNat _ (encs_get (d:=d) xs i.toNat (by omega))
    rwa [add_plain] at hc
  · rcases h.2 with ⟨h',_⟩|⟨g',cap',cur,h',_,hh,_⟩
    · cases h'
    · have:g=g':=by injection h' with h';injection h' with h';injection h' with h'
      subst this;simp [World.frozen?,hh]
theorem own_store_of {W : World} {base g n cap:Nat} {e:TypeId} {xs:List α} (h:W.ownsRow base e 1 (.slice (some ⟨g,0,none⟩) n cap) n (encs enc xs)) (i:Int) (x:α) :
    (W.setCell ⟨g,i.toNat,none⟩ (enc x)).ownsRow base e 1 (.slice (some ⟨g,0,none⟩) n cap) n (encs enc (xs.set i.toNat x))∧W.grownBy (W.setCell ⟨g,i.toNat,none⟩ (enc x)) (some g):=by
  have hs:=h.stored i.toNat (enc x);have he:(encs enc xs).set i.toNat (enc x)=encs enc (xs.set i.toNat x):=by simp [encs,List.map_set]
  rwa [he] at hs
end
section
variable {α : Type} {P:Program} {ops:Array Oper} {rest:List Oper} {o:Oper} {a:Act} {Q:Exit→Act→World→Prop}
end

theorem j1k {w : World} {g:Nat} {o:Obj} (h:w.heap[g]? = some o) (o':Obj):(w.alloc o').heap[g]? = some o:=(Below.heap_alloc w o' g (blk_lt h)).trans h
theorem j1n {w : World} {g:Nat} {o:Obj} (h:w.heap[g]? = some o):w.drew.heap[g]? = some o:=h
theorem j1j {w : World} {g:Nat} {o:Obj} (h:w.heap[g]? = some o) (n:Nat):(w.drewN n).heap[g]? = some o:=h
theorem j2g {w w1 : World} {g:Nat} {o:Obj} (h:w.heap[g]? = some o) (hb:Below w.heap.size w w1):w1.heap[g]? = some o:=(hb.block g (blk_lt h)).trans h
theorem blk_new (w : World) (o:Obj):(w.alloc o).heap[w.heap.size]? = some o:=heap_alloc_new w o
section
variable {P : Program}
end
theorem own_le {w : World} {base n m c size:Nat} {e:TypeId} {A:Option Addr} {xs:List Value} (h:w.ownsRow base e size (.slice A m c) n xs):m≤c:=by
  rcases h.2 with ⟨he,_⟩|⟨g,cap,cur,he,_,_,hnc,_⟩
  · injection he with _ h2 h3
    omega
  · injection he with _ h2 h3
    omega
def OwnRow {α : Type} (R:α→List Value→Prop) (e:TypeId) (size:Nat) (w:World) (base:Nat) (v:Value) (ps:List α):Prop :=
  ∃ inner,w.ownsRow base e size v ps.length inner∧Reps R size ps inner
section
variable {α : Type} {R R':α→List Value→Prop} {e:TypeId} {size:Nat} {w w1:World} {base:Nat} {v:Value} {ps:List α}
theorem OwnRow.none_ (R : α→List Value→Prop) (e:TypeId) (size:Nat) (w:World) (base:Nat):OwnRow R e size w base (.slice none 0 0) []:=⟨[],own_nil _ _ _ _,Reps.none _ _⟩
theorem OwnRow.imp_ (h : OwnRow R e size w base v ps) (hR:∀ p c,R p c→R' p c):OwnRow R' e size w base v ps:=by
  obtain ⟨inner,ho,hr⟩:=h;exact ⟨inner,ho,hr.imp_ hR⟩
theorem OwnRow.below (h : OwnRow R e size w base v ps) (hb:Below w.heap.size w w1):OwnRow R e size w1 base v ps:=by
  obtain ⟨inner,ho,hr⟩:=h;exact ⟨inner,pw_own_below ho hb,hr⟩
theorem OwnRow.reads (h : OwnRow R e size w base v ps):∃ A c,v = .slice A ps.length c∧ps.length≤c∧ReadsRow R size w A ps.length ps:=by
  obtain ⟨inner,ho,hr⟩:=h;obtain ⟨A,c,rfl,hrow⟩:=own_reads_row ho hr rfl;exact ⟨A,c,rfl,own_le ho,hrow⟩
theorem OwnRow.lit (W : World) (base:Nat) {inner:List Value} (hr:Reps R size ps inner) (hb:base≤W.heap.size) (hm:ps.length≤9223372036854775807) :
    OwnRow R e size (W.alloc (.cells inner.toArray e)) base (.slice (some ⟨W.heap.size,0,none⟩) ps.length ps.length) ps:=by
  have h:=World.ownsRow_lit (base:=base) (e:=e) (size:=size) W inner.toArray ps.length hb (by simpa [maxLen] using hm) (by simpa using hr.1);exact ⟨inner,by simpa using h,hr⟩
end
section
variable {P : Program} {ops:Array Oper} {rest:List Oper} {o:Oper} {a:Act} {Q:Exit→Act→World→Prop} {α:Type} {R:α→List Value→Prop}
theorem OwnRow.append {w0 W : World} (base:Nat) (hgd:o.guard=none) (s x:Operand) (t e:TypeId) (z:Value) (size bytes:Nat)
    (ho:o.op = .call { callee := .builtin .append,args:=#[s,x],argTypes:=#[t,t] })
    (ht:P.underlying t=some (.slice e)) (hinfo:(P.info? e).map (fun i=>(i.zero,i.size,i.bytes))=some (some z,size,bytes)) (hz:z.cells.size=size) (hs0:0<size) (hb0:0<bytes)
    (v:Value) (ps:List α) (p:α) (cs:List Value) (hs:a.eval s=v) (hx:a.eval x = .slice (some ⟨W.heap.size,0,none⟩) 1 1) (hp:R p cs) (hcs:cs.length=size) (h1:∀ u ∈ cs,u.oneCell'=true)
    (HO:OwnRow R e size W base v ps) (HB:Below base w0 W) (hbase:base≤W.heap.size) (hl:(ps.length+1)*bytes≤140737488355328)
    (h:∀ v1 w1,OwnRow R e size w1 base v1 (ps++[p])→Below base w0 w1→W.grownBy w1 v.ownBlock→(v1.ownBlock=v.ownBlock∨∃ b,v1.ownBlock=some b∧W.heap.size≤b)→wpList P ops Q rest (a.put o.dst v1) w1) :
    wpList P ops Q (o :: rest) a (W.alloc (.cells cs.toArray e)):=by
  obtain ⟨inner,hown,hr⟩:=HO;refine print_append_cells base hgd s x t e z size bytes ho ht hinfo hz hs0 hb0 v ps.length inner cs hs hx hcs h1 hown HB hbase hl ?_;intro v1 w1 hown1 hb1 hg1 hat1;exact h v1 w1 ⟨inner++cs,by rw [List.length_append,List.length_singleton];exact hown1,hr.snoc hp hcs⟩ hb1 hg1 hat1
end
section
variable {P : Program} {ops:Array Oper} {o:Oper} {a:Act} {Q:Exit→Act→World→Prop} {K:Act→World→Prop} {α:Type} {R:α→List Value→Prop}
end
theorem ReadsRow.inner_ {α : Type} {R:α→List Value→Prop} {size:Nat} {w:World} {ad:Addr} {n:Nat} {ps:List α} (h:ReadsRow R size w (some ad) n ps) :
    ∃ inner,Reps R size ps inner∧∀ j u,inner[j]? = some u→w.cell? (ad.add j)=some u:=by
  have key:∀ m,m≤ps.length→∃ inner,Reps R size (ps.take m) inner∧∀ j u,inner[j]? = some u→w.cell? (ad.add j)=some u:=by
    intro m
    induction m with
    | zero=>exact fun _=>⟨[],Reps.none _ _,fun j u hu=>by simp at hu⟩
    | succ m ih =>
      intro hm;obtain ⟨inner,hr,hc⟩:=ih (by omega);obtain ⟨ad',he,hcell⟩:=h.2.2 (by have:=h.1;omega);injection he with he
      subst he;obtain ⟨c,hcl,hp,hcc⟩:=hcell m _ (List.getElem?_eq_getElem (show m<ps.length by omega));refine ⟨inner++c,?_,fun j u hu=>?_⟩
      · rw [List.take_succ_eq_append_getElem (show m<ps.length by omega)]
        exact hr.snoc hp hcl
      · have hil:inner.length=m*size:=by rw [hr.1,List.length_take,Nat.min_eq_left (by omega)]
        rcases Nat.lt_or_ge j inner.length with hj|hj
        · rw [List.getElem?_append_left hj] at hu
          exact hc j u hu
        · rw [List.getElem?_append_right hj] at hu
          have:=hcc (j - inner.length) u hu
          rwa [hil,Nat.add_sub_cancel' (by omega)] at this
  obtain ⟨inner,hr,hc⟩:=key ps.length (Nat.le_refl _);rw [List.take_length] at hr;exact ⟨inner,hr,hc⟩
section
variable {α : Type} {P:Program}
end

section
variable {P : Program} {ops:Array Oper} {rest:List Oper} {o:Oper} {a:Act} {Q:Exit→Act→World→Prop}
end
structure Kd (α : Type) where
  sz:Nat
  E:List Nat
  K:World→α→List Value→Prop
  M:World→Nat→(Nat→Prop)→α→List Value→Prop
  K_len:∀ {w x cs},K w x cs→cs.length=sz
  K_one:∀ {w x cs},K w x cs→∀ u ∈ cs,u.oneCell'=true
  K_below:∀ {w w1:World} {x cs},Below w.heap.size w w1→K w x cs→K w1 x cs
  K_of_M:∀ {w base ok x cs},M w base ok x cs→K w x cs
  M_mono:∀ {w base ok ok' x cs},(∀ k,ok k→ok' k)→M w base ok x cs→M w base ok' x cs
  M_bound:∀ {w:World} {base ok x cs},M w base ok x cs→M w base (fun k=>ok k∧base≤k∧k<w.heap.size∧∃ q,q ∈ E∧∃ cells,w.heap[k]? = some (.cells cells q (0,0))) x cs
  M_move:∀ {w w1:World} {base ok x cs},(∀ k,ok k→w1.heap[k]? = w.heap[k]?)→M w base ok x cs→M w1 base ok x cs
  M_lower:∀ {w base base' ok x cs},base'≤base→M w base ok x cs→M w base' ok x cs

theorem own_move {w w1 : World} {base:Nat} {e:TypeId} {size n:Nat} {v:Value} {xs:List Value} (h:w.ownsRow base e size v n xs) (hm:∀ k,v.ownBlock=some k→w1.heap[k]? = w.heap[k]?):w1.ownsRow base e size v n xs:=by
  obtain ⟨h1,h2⟩:=h;refine ⟨h1,?_⟩;rcases h2 with h2|⟨g,cap,cur,rfl,hg,hh,r⟩
  · exact .inl h2
  · exact .inr ⟨g,cap,cur,rfl,hg,(hm g (by simp [Value.ownBlock])).trans hh,r⟩
theorem own_typed {w : World} {base:Nat} {e:TypeId} {size n:Nat} {v:Value} {xs:List Value} (h:w.ownsRow base e size v n xs) (k:Nat) (hk:v.ownBlock=some k):∃ cells,w.heap[k]? = some (.cells cells e (0,0)):=by
  rcases h.2 with ⟨rfl,_⟩|⟨g,cap,cur,rfl,hg,hh,r⟩
  · simp [Value.ownBlock] at hk
  · have:g=k:=by simpa [Value.ownBlock] using hk
    subst this;exact ⟨cur,hh⟩

namespace Kd
def C {α : Type} (d:Kd α) (w:World) (A:Option Addr) (n:Nat) (xs:List α):Prop:=ReadsRow (d.K w) d.sz w A n xs
def R {α : Type} (d:Kd α) (e:Nat) (w:World) (base:Nat) (ok:Nat→Prop) (v:Value) (xs:List α):Prop :=
  (∀ k,v.ownBlock=some k→ok k)∧OwnRow (d.M w base (fun k=>ok k∧some k≠v.ownBlock)) e d.sz w base v xs
section
variable {α : Type} {d:Kd α} {e:Nat} {w w1:World} {base:Nat} {ok ok':Nat→Prop} {v:Value} {xs:List α}
theorem C_below {A : Option Addr} {n:Nat} (h:d.C w A n xs) (hb:Below w.heap.size w w1):d.C w1 A n xs:=ReadsRow.imp_ h hb (fun _ _ hp=>d.K_below hb hp)
theorem R_nil (d : Kd α) (e:Nat) (w:World) (base:Nat) (ok:Nat→Prop):d.R e w base ok (.slice none 0 0) []:=⟨fun k hk=>by simp [Value.ownBlock] at hk,OwnRow.none_ _ _ _ _ _⟩
theorem R_mono (h : d.R e w base ok v xs) (hok:∀ k,ok k→ok' k):d.R e w base ok' v xs:=⟨fun k hk=>hok k (h.1 k hk),h.2.imp_ (fun _ _ hp=>d.M_mono (fun k hk=>⟨hok k hk.1,hk.2⟩) hp)⟩
theorem R_bound (h : d.R e w base ok v xs):d.R e w base (fun k=>ok k∧base≤k∧k<w.heap.size∧∃ q,q ∈ e :: d.E∧∃ cells,w.heap[k]? = some (.cells cells q (0,0))) v xs:=by
  obtain ⟨h0,inner,ho,hr⟩:=h;refine ⟨fun k hk=>?_,inner,ho,hr.imp_ (fun _ _ hp=>d.M_mono (fun k hk=>?_) (d.M_bound hp))⟩
  · obtain ⟨cells,hc⟩:=own_typed ho k hk
    exact ⟨h0 k hk,own_base ho k hk,own_lt ho k hk,e,List.mem_cons_self,cells,hc⟩
  · obtain ⟨⟨h1,h2⟩,h3,h4,q,hq,hc⟩:=hk
    exact ⟨⟨h1,h3,h4,q,List.mem_cons_of_mem _ hq,hc⟩,h2⟩
theorem R_move (h : d.R e w base ok v xs) (hm:∀ k,ok k→w1.heap[k]? = w.heap[k]?):d.R e w1 base ok v xs:=by
  obtain ⟨h0,inner,ho,hr⟩:=h;exact ⟨h0,inner,own_move ho (fun k hk=>hm k (h0 k hk)),hr.imp_ (fun _ _ hp=>d.M_move (fun k hk=>hm k hk.1) hp)⟩
theorem R_lower {base' : Nat} (h:d.R e w base ok v xs) (hb:base'≤base):d.R e w base' ok v xs:=by
  obtain ⟨h0,inner,ho,hr⟩:=h;exact ⟨h0,inner,own_weaken ho hb,hr.imp_ (fun _ _ hp=>d.M_lower hb hp)⟩
theorem R_step (h : d.R e w base ok v xs) (hm:∀ k,ok k→k<w.heap.size→w1.heap[k]? = w.heap[k]?):d.R e w1 base ok v xs :=
  R_mono (R_move (R_bound h) (fun k hk=>hm k hk.1 hk.2.2.1)) (fun _ hk=>hk.1)
theorem M_step {x : α} {cs:List Value} (h:d.M w base ok x cs) (hm:∀ k,ok k→k<w.heap.size→w1.heap[k]? = w.heap[k]?):d.M w1 base ok x cs :=
  d.M_mono (fun _ hk=>hk.1) (d.M_move (fun k hk=>hm k hk.1 hk.2.2.1) (d.M_bound h))
theorem R_below (h : d.R e w base ok v xs) (hb:Below w.heap.size w w1):d.R e w1 base ok v xs:=R_step h (fun k _ hk=>hb.block k hk)
theorem M_below {x : α} {cs:List Value} (h:d.M w base ok x cs) (hb:Below w.heap.size w w1):d.M w1 base ok x cs:=M_step h (fun k _ hk=>hb.block k hk)
theorem R_reads (h : d.R e w base ok v xs):∃ A c,v = .slice A xs.length c∧xs.length≤c∧d.C w A xs.length xs:=by
  obtain ⟨A,c,he,hl,hr⟩:=OwnRow.reads h.2;exact ⟨A,c,he,hl,hr.imp_ (Below.refl _ _) (fun _ _ hp=>d.K_of_M hp)⟩
theorem R_slice (h : d.R e w base ok v xs):∃ A c,v = .slice A xs.length c:=by
  obtain ⟨A,c,he,_⟩:=R_reads h;exact ⟨A,c,he⟩
theorem R_own (h : d.R e w base ok v xs):∃ inner,w.ownsRow base e d.sz v xs.length inner:=by
  obtain ⟨_,inner,ho,_⟩:=h;exact ⟨inner,ho⟩
end

def scalar {α : Type} (enc:α→Value) (h1:∀ x,(enc x).oneCell'=true):Kd α where
  sz:=1
  E:=[]
  K:=fun _ x cs=>cs=[enc x]
  M:=fun _ _ _ x cs=>cs=[enc x]
  K_len:=fun h=>by rw [h];rfl
  K_one:=fun h u hu=>by
    rw [h] at hu
    rw [List.mem_singleton.1 hu]
    exact h1 _
  K_below:=fun _ h=>h
  K_of_M:=fun h=>h
  M_mono:=fun _ h=>h
  M_bound:=fun h=>h
  M_move:=fun _ h=>h
  M_lower:=fun _ h=>h
def int (k : IntKind):Kd Int:=scalar (Value.int k) (fun _=>rfl)
def bool : Kd Bool:=scalar Value.bool (fun _=>rfl)
def string : Kd ByteArray:=scalar Value.string (fun _=>rfl)
def slice {α : Type} (e:Nat) (d:Kd α):Kd (List α) where
  sz:=1
  E:=e :: d.E
  K:=fun w xs cs=>∃ A c,cs=[.slice A xs.length c]∧xs.length≤c∧d.C w A xs.length xs
  M:=fun w base ok xs cs=>∃ v,cs=[v]∧d.R e w base ok v xs
  K_len:=by
    rintro w x cs ⟨A,c,rfl,_⟩
    rfl
  K_one:=by
    rintro w x cs ⟨A,c,rfl,_⟩ u hu
    rw [List.mem_singleton.1 hu]
    rfl
  K_below:=by
    rintro w w1 x cs hb ⟨A,c,rfl,hl,hr⟩
    exact ⟨A,c,rfl,hl,C_below hr hb⟩
  K_of_M:=by
    rintro w base ok x cs ⟨v,rfl,h⟩
    obtain ⟨A,c,rfl,hl,hr⟩:=R_reads h
    exact ⟨A,c,rfl,hl,hr⟩
  M_mono:=by
    rintro w base ok ok' x cs hok ⟨v,rfl,h⟩
    exact ⟨v,rfl,R_mono h hok⟩
  M_bound:=by
    rintro w base ok x cs ⟨v,rfl,h⟩
    exact ⟨v,rfl,R_bound h⟩
  M_move:=by
    rintro w w1 base ok x cs hm ⟨v,rfl,h⟩
    exact ⟨v,rfl,R_move h hm⟩
  M_lower:=by
    rintro w base base' ok x cs hb ⟨v,rfl,h⟩
    exact ⟨v,rfl,R_lower h hb⟩
def pair {α β : Type} (a:Kd α) (b:Kd β):Kd (α × β) where
  sz:=a.sz+b.sz
  E:=a.E++b.E
  K:=fun w x cs=>∃ c0 c1,cs=c0++c1∧a.K w x.1 c0∧b.K w x.2 c1
  M:=fun w base ok x cs=>∃ c0 c1,cs=c0++c1∧a.M w base ok x.1 c0∧b.M w base ok x.2 c1
  K_len:=by
    rintro w x cs ⟨c0,c1,rfl,h0,h1⟩
    rw [List.length_append,a.K_len h0,b.K_len h1]
  K_one:=by
    rintro w x cs ⟨c0,c1,rfl,h0,h1⟩ u hu
    rcases List.mem_append.1 hu with hu|hu
    · exact a.K_one h0 u hu
    · exact b.K_one h1 u hu
  K_below:=by
    rintro w w1 x cs hb ⟨c0,c1,rfl,h0,h1⟩
    exact ⟨c0,c1,rfl,a.K_below hb h0,b.K_below hb h1⟩
  K_of_M:=by
    rintro w base ok x cs ⟨c0,c1,rfl,h0,h1⟩
    exact ⟨c0,c1,rfl,a.K_of_M h0,b.K_of_M h1⟩
  M_mono:=by
    rintro w base ok ok' x cs hok ⟨c0,c1,rfl,h0,h1⟩
    exact ⟨c0,c1,rfl,a.M_mono hok h0,b.M_mono hok h1⟩
  M_bound:=by
    rintro w base ok x cs ⟨c0,c1,rfl,h0,h1⟩
    refine ⟨c0,c1,rfl,a.M_mono ?_ (a.M_bound h0),b.M_mono ?_ (b.M_bound h1)⟩
    · rintro k ⟨h2,h3,h4,q,hq,hc⟩
      exact ⟨h2,h3,h4,q,List.mem_append_left _ hq,hc⟩
    · rintro k ⟨h2,h3,h4,q,hq,hc⟩
      exact ⟨h2,h3,h4,q,List.mem_append_right _ hq,hc⟩
  M_move:=by
    rintro w w1 base ok x cs hm ⟨c0,c1,rfl,h0,h1⟩
    exact ⟨c0,c1,rfl,a.M_move hm h0,b.M_move hm h1⟩
  M_lower:=by
    rintro w base base' ok x cs hb ⟨c0,c1,rfl,h0,h1⟩
    exact ⟨c0,c1,rfl,a.M_lower hb h0,b.M_lower hb h1⟩
def bot {α : Type} (sz:Nat) (E:List Nat):Kd α where
  sz:=sz
  E:=E
  K:=fun _ _ _=>False
  M:=fun _ _ _ _ _=>False
  K_len:=fun h=>h.elim
  K_one:=fun h=>h.elim
  K_below:=fun _ h=>h
  K_of_M:=fun h=>h
  M_mono:=fun _ h=>h
  M_bound:=fun h=>h
  M_move:=fun _ h=>h
  M_lower:=fun _ h=>h
def upto {α : Type} (F:Kd α→Kd α) (sz:Nat) (E:List Nat):Nat→Kd α
  | 0=>bot sz E
  | n+1=>F (upto F sz E n)
theorem R_appended {α : Type} {d:Kd α} {e base:Nat} {ok okp:Nat→Prop} {W w1:World} {v v1:Value} {xs:List α} {p:α} {inner cs:List Value} (h0:∀ k,v.ownBlock=some k→ok k) (hr:Reps (d.M W base (fun k=>ok k∧some k≠v.ownBlock)) d.sz xs inner) (hp:d.M W base okp p cs) (hokp:∀ k,okp k→ok k∧some k≠v.ownBlock) (hfresh:∀ k,W.heap.size≤k→ok k)
    (hown:w1.ownsRow base e d.sz v1 (xs.length+1) (inner++cs)) (hg:W.grownBy w1 v.ownBlock) (hat:v1.ownBlock=v.ownBlock∨∃ b,v1.ownBlock=some b∧W.heap.size≤b):d.R e w1 base ok v1 (xs++[p]):=by
  have hne:∀ k,some k≠v.ownBlock→k<W.heap.size→some k≠v1.ownBlock:=by
    intro k hk hlt;rcases hat with hat|⟨b,hb,hle⟩
    · rw [hat];exact hk
    · rw [hb]
      intro he;injection he with he
      omega
  have step:∀ {q:α} {c:List Value} {o:Nat→Prop},d.M W base o q c→(∀ k,o k→ok k∧some k≠v.ownBlock)→d.M w1 base (fun k=>ok k∧some k≠v1.ownBlock) q c:=by
    intro q c o hq ho;have h1:=d.M_move (w1:=w1) (fun k hk=>hg.block k hk.2.2.1 (ho k hk.1).2) (d.M_bound hq);exact d.M_mono (fun k hk=>⟨(ho k hk.1).1,hne k (ho k hk.1).2 hk.2.2.1⟩) h1
  refine ⟨fun k hk=>?_,inner++cs,by rw [List.length_append,List.length_singleton];exact hown,?_⟩
  · rcases hat with hat|⟨b,hb,hle⟩
    · exact h0 k (hat ▸ hk)
    · rw [hb] at hk
      injection hk with hk
      exact hfresh k (by omega)
  · exact (hr.imp_ (fun _ _ hq=>step hq (fun _ hk=>hk))).snoc (step hp hokp) (d.K_len (d.K_of_M hp))
section
variable {P : Program} {ops:Array Oper} {rest:List Oper} {o:Oper} {a:Act} {Q:Exit→Act→World→Prop} {α:Type}
theorem R_append (d : Kd α) {w0 W:World} (base:Nat) (hgd:o.guard=none) (s x:Operand) (t e:TypeId) (z:Value) (bytes:Nat)
    (ho:o.op = .call { callee := .builtin .append,args:=#[s,x],argTypes:=#[t,t] })
    (ht:P.underlying t=some (.slice e)) (hinfo:(P.info? e).map (fun i=>(i.zero,i.size,i.bytes))=some (some z,d.sz,bytes)) (hz:z.cells.size=d.sz) (hs0:0<d.sz) (hb0:0<bytes)
    (v:Value) (xs:List α) (p:α) (cs:List Value) (ok okp:Nat→Prop) (hs:a.eval s=v) (hx:a.eval x = .slice (some ⟨W.heap.size,0,none⟩) 1 1) (hp:d.M W base okp p cs) (hokp:∀ k,okp k→ok k∧some k≠v.ownBlock) (hfresh:∀ k,W.heap.size≤k→ok k)
    (HO:d.R e W base ok v xs) (HB:Below base w0 W) (hbase:base≤W.heap.size) (hl:(xs.length+1)*bytes≤140737488355328)
    (h:∀ v1 w1,d.R e w1 base ok v1 (xs++[p])→Below base w0 w1→W.grownBy w1 v.ownBlock→(v1.ownBlock=v.ownBlock∨∃ b,v1.ownBlock=some b∧W.heap.size≤b)→wpList P ops Q rest (a.put o.dst v1) w1) :
    wpList P ops Q (o :: rest) a (W.alloc (.cells cs.toArray e)):=by
  obtain ⟨h0,inner,hown,hr⟩:=HO;refine print_append_cells base hgd s x t e z d.sz bytes ho ht hinfo hz hs0 hb0 v xs.length inner cs hs hx (d.K_len (d.K_of_M hp)) (d.K_one (d.K_of_M hp)) hown HB hbase hl ?_;intro v1 w1 hown1 hb1 hg1 hat1;exact h v1 w1 (R_appended h0 hr hp hokp hfresh hown1 hg1 hat1) hb1 hg1 hat1
end
section
variable {P : Program} {ops:Array Oper} {o:Oper} {a:Act} {Q:Exit→Act→World→Prop} {Kc:Act→World→Prop} {α:Type}
end
theorem reps_scalar {α : Type} {enc:α→Value} (xs:List α):Reps (fun (x:α) (cs:List Value)=>cs=[enc x]) 1 xs (encs enc xs):=by
  refine ⟨by simp [encs],fun j p hj=>?_⟩;obtain ⟨hl,hp⟩:=List.getElem?_eq_some_iff.1 hj;have hl':j<(encs enc xs).length:=by rw [encs_length];exact hl
  rw [Nat.mul_one,List.drop_eq_getElem_cons hl'];simp [encs,hp]
theorem R_of_own {α : Type} {enc:α→Value} {h1:∀ x,(enc x).oneCell'=true} {e:Nat} {w:World} {base:Nat} {ok:Nat→Prop} {v:Value} {xs:List α} (ho:w.ownsRow base e 1 v xs.length (encs enc xs)) (hok:∀ k,v.ownBlock=some k→ok k):(scalar enc h1).R e w base ok v xs:=⟨hok,encs enc xs,ho,reps_scalar xs⟩
theorem own_of_R {α : Type} {enc:α→Value} {h1:∀ x,(enc x).oneCell'=true} {e:Nat} {w:World} {base:Nat} {ok:Nat→Prop} {v:Value} {xs:List α} (h:(scalar enc h1).R e w base ok v xs):w.ownsRow base e 1 v xs.length (encs enc xs):=by
  obtain ⟨_,inner,ho,hr⟩:=h
  have:inner=encs enc xs:=by
    apply List.ext_getElem?;intro j;rcases Nat.lt_or_ge j xs.length with hj|hj
    · have h2:=hr.2 j _ (List.getElem?_eq_getElem hj)
      have hl:j<inner.length:=by have:=hr.1;simp [scalar] at this;omega
      have h3:(inner.drop (j*1)).take 1=[enc xs[j]]:=h2;rw [Nat.mul_one,List.drop_eq_getElem_cons hl] at h3
      have h4:inner[j]=enc xs[j]:=by
        have h5:=congrArg List.head? h3;rw [List.take_succ_cons] at h5;exact Option.some.inj h5
      rw [List.getElem?_eq_getElem hl,h4];simp [encs,List.getElem?_eq_getElem hj]
    · have h3:inner.length=xs.length:=by have:=hr.1;simp [scalar] at this;omega
      rw [List.getElem?_eq_none (by omega),List.getElem?_eq_none (by rw [encs_length];omega)]
  rw [← this];exact ho
theorem reads_of_C {α : Type} {enc:α→Value} {d:α} {h1:∀ x,(enc x).oneCell'=true} {w:World} {A:Option Addr} {n:Nat} {xs:List α} (h:(scalar enc h1).C w A n xs):ReadsOf enc d w A n xs:=by
  refine ⟨h.1,h.2.1,fun hn=>?_⟩;obtain ⟨ad,e,hc⟩:=h.2.2 hn;refine ⟨ad,e,fun j hj=>?_⟩;have hl:j<xs.length:=by have:=h.1;omega
  obtain ⟨c,_,hK,hcell⟩:=hc j _ (List.getElem?_eq_getElem hl);have hK':c=[enc xs[j]]:=hK;subst hK';have:=hcell 0 _ rfl
  simpa [scalar,List.getD_eq_getElem?_getD,List.getElem?_eq_getElem hl] using this
end Kd
namespace Kd
structure Mono {α β : Type} (F:Kd α→Kd β):Prop where
  sz:∀ d d':Kd α,d.sz=d'.sz→(F d).sz=(F d').sz
  K:∀ d d':Kd α,d.sz=d'.sz→(∀ w x cs,d.K w x cs→d'.K w x cs)→∀ w x cs,(F d).K w x cs→(F d').K w x cs
  M:∀ d d':Kd α,d.sz=d'.sz→(∀ w base ok x cs,d.M w base ok x cs→d'.M w base ok x cs)→∀ w base ok x cs,(F d).M w base ok x cs→(F d').M w base ok x cs
section
variable {α : Type} {F:Kd α→Kd α} {sz:Nat} {E:List Nat} {hs:∀ n,(upto F sz E n).sz=sz} {hE:∀ n q,q ∈ (upto F sz E n).E→q ∈ E}
end
end Kd
namespace Kd
theorem R_after {α : Type} {d:Kd α} {e base:Nat} {ok:Nat→Prop} {W w1:World} {u v v1:Value} {xs:List α} (h:d.R e W base (fun k=>ok k∧some k≠v.ownBlock) u xs) (hg:W.grownBy w1 v.ownBlock) (hat:v1.ownBlock=v.ownBlock∨∃ b,v1.ownBlock=some b∧W.heap.size≤b):d.R e w1 base (fun k=>ok k∧some k≠v1.ownBlock) u xs:=by
  refine R_mono (R_move (R_bound h) (fun k hk=>hg.block k hk.2.2.1 hk.1.2)) (fun k hk=>⟨hk.1.1,?_⟩);rcases hat with hat|⟨b,hb,hle⟩
  · rw [hat];exact hk.1.2
  · rw [hb]
    intro he;injection he with he
    have:=hk.2.2.1;omega
end Kd
namespace Kd
section
variable {α β : Type} {d:Kd α} {d':Kd β} {e e':Nat} {w w1 W:World} {base b b':Nat} {ok ok' okv oku:Nat→Prop} {v u:Value} {xs:List α} {ys:List β}
theorem R_alloc (h : d.R e w base ok v xs) (o:Obj):d.R e (w.alloc o) base ok v xs:=R_below h (j1i (Below.refl _ _) o)
theorem R_drew (h : d.R e w base ok v xs):d.R e w.drew base ok v xs:=R_below h (below_drew (Below.refl _ _))
theorem R_drewN (h : d.R e w base ok v xs) (m:Nat):d.R e (w.drewN m) base ok v xs:=R_below h (j1d (Below.refl _ _) m)
theorem C_alloc {A : Option Addr} {n:Nat} (h:d.C w A n xs) (o:Obj):d.C (w.alloc o) A n xs:=C_below h (j1i (Below.refl _ _) o)
theorem C_drew {A : Option Addr} {n:Nat} (h:d.C w A n xs):d.C w.drew A n xs:=C_below h (below_drew (Below.refl _ _))
theorem C_drewN {A : Option Addr} {n:Nat} (h:d.C w A n xs) (m:Nat):d.C (w.drewN m) A n xs:=C_below h (j1d (Below.refl _ _) m)
theorem C_nil (d : Kd α) (w:World):d.C w none ([]:List α).length []:=⟨rfl,by simp,fun h=>absurd h (Nat.lt_irrefl 0)⟩
theorem R_reads' {A : Option Addr} {n c:Nat} (h:d.R e w base ok (.slice A n c) xs):n=xs.length∧n≤c∧d.C w A xs.length xs:=by
  obtain ⟨A',c',he,hl,hr⟩:=R_reads h;injection he with h1 h2 h3
  subst h1;exact ⟨h2,by omega,hr⟩
theorem R_lt (h : d.R e w base ok v xs):∀ k,v.ownBlock=some k→k<w.heap.size:=by
  obtain ⟨inner,ho⟩:=R_own h;exact own_lt ho
theorem R_base (h : d.R e w base ok v xs):∀ k,v.ownBlock=some k→base≤k:=by
  obtain ⟨inner,ho⟩:=R_own h;exact own_base ho
theorem R_form (h : d.R e w base ok v xs) (hp:0<xs.length):∃ g cap,v = .slice (some ⟨g,0,none⟩) xs.length cap∧base≤g∧g<w.heap.size∧∃ cells,w.heap[g]? = some (.cells cells e (0,0)):=by
  obtain ⟨inner,ho⟩:=R_own h;obtain ⟨g,cap,he,hb,hl⟩:=ho.form hp;obtain ⟨cells,hc⟩:=own_typed ho g (by rw [he];simp [Value.ownBlock]);exact ⟨g,cap,he,hb,hl,cells,hc⟩
end
section
variable {w W : World} {A:Option Addr} {n:Nat}
variable {α : Type} {enc:α→Value} {h1:∀ x,(enc x).oneCell'=true} {e base g cap:Nat} {ok:Nat→Prop} {xs:List α}
theorem R_cell (d : α) (h:(scalar enc h1).R e W base ok (.slice (some ⟨g,0,none⟩) xs.length cap) xs) (i:Int) (h0:0≤i) (hi:i<xs.length):W.cell? ⟨g,i.toNat,none⟩=some (enc (rdOf d xs i))∧W.frozen? ⟨g,i.toNat,none⟩=false:=own_at_of (own_of_R h) i h0 hi
theorem R_put (h : (scalar enc h1).R e W base ok (.slice (some ⟨g,0,none⟩) xs.length cap) xs) (i:Int) (x:α):(scalar enc h1).R e (W.setCell ⟨g,i.toNat,none⟩ (enc x)) base ok (.slice (some ⟨g,0,none⟩) xs.length cap) (xs.set i.toNat x)∧W.grownBy (W.setCell ⟨g,i.toNat,none⟩ (enc x)) (some g):=by
  obtain ⟨ho,hg⟩:=own_store_of (own_of_R h) i x;exact ⟨R_of_own (by rw [List.length_set];exact ho) h.1,hg⟩
end

section
variable {P : Program} {ops:Array Oper} {rest:List Oper} {o:Oper} {a:Act} {Q:Exit→Act→World→Prop}
theorem event_run {W w1 : World} {v:Value} (hgd:o.guard=none) (hrun:(execOp a.eval o).run P W = .ok (.value v) w1) (h:wpList P ops Q rest (a.put o.dst v) w1):wpList P ops Q (o :: rest) a W:=by
  refine wpList_plain hgd fun K hK=>?_
  unfold Oper.wp;rw [hrun];exact hK _ _ h
variable {α : Type}
theorem R_lit (d : Kd α) {w0 W:World} (base e:Nat) (hgd:o.guard=none) {N:Tmp} (_hd:o.dst=some N) {xs:List α} {inner:List Value} {ok okp:Nat→Prop}
    (hrun:(execOp a.eval o).run P W = .ok (.value (.slice (some ⟨W.heap.size,0,none⟩) xs.length xs.length)) (W.alloc (.cells inner.toArray e)))
    (hrep:Reps (d.M W base okp) d.sz xs inner) (hok:∀ k,okp k→ok k) (hfresh:ok W.heap.size) (HB:Below base w0 W) (hbase:base≤W.heap.size) (hm:xs.length≤9223372036854775807)
    (h:∀ v1 w1,d.R e w1 base ok v1 xs→Below base w0 w1→W.grownBy w1 none→(∃ b,v1.ownBlock=some b∧W.heap.size≤b)→wpList P ops Q rest (a.put o.dst v1) w1):wpList P ops Q (o :: rest) a W:=by
  refine event_run hgd hrun (h _ _ ⟨fun k hk=>?_,inner,?_,?_⟩ (HB.alloc hbase _) (World.grownBy_alloc W _ none) ⟨W.heap.size,by simp [Value.ownBlock],Nat.le_refl _⟩)
  · have:W.heap.size=k:=by simpa [Value.ownBlock] using hk
    subst this;exact hfresh
  · have h2:=World.ownsRow_lit (base:=base) (e:=e) (size:=d.sz) W inner.toArray xs.length hbase (by simpa [maxLen] using hm) (by simpa using hrep.1)
    simpa using h2
  · refine hrep.imp_ (fun p c hp=>d.M_mono (fun k hk=>⟨hok k hk.1,fun he=>?_⟩) (M_below (d.M_bound hp) (j1i (Below.refl _ _) _)))
    have h3:k=W.heap.size:=by simpa [Value.ownBlock] using he
    have:=hk.2.2.1;omega
theorem reps_made {α : Type} {R:α→List Value→Prop} {z:Value} {size:Nat} {z0:α} (hz:z.cells.size=size) (hs:0<size) (h0:R z0 z.cells.toList) (m:Nat):Reps R size (List.replicate m z0) (madeCells z.cells (m*size)).toList:=by
  refine ⟨by simp [size_madeCells],fun j p hj=>?_⟩;obtain ⟨hjl,hp⟩:=List.getElem?_eq_some_iff.1 hj;have hjm:j<m:=by simpa using hjl
  have hp':z0=p:=by simpa using hp
  subst hp';have hle:j*size+size≤m*size:=by rw [← Nat.succ_mul];exact Nat.mul_le_mul_right _ hjm
  have:((madeCells z.cells (m*size)).toList.drop (j*size)).take size=z.cells.toList:=by
    apply List.ext_getElem
    · simp [size_madeCells,hz]
      omega
    · intro i h1 h2
      have hi:i<size:=by rw [Array.length_toList,hz] at h2;exact h2
      have hmod:(j*size+i) % size=i:=by
        rw [Nat.mul_comm,Nat.mul_add_mod];exact Nat.mod_eq_of_lt hi
      simp [madeCells,hz,hmod];rw [getElem!_pos z.cells i (by omega)]
  rw [this];exact h0
end
end Kd
theorem own_take {w : World} {base n m c size:Nat} {e:TypeId} {A:Option Addr} {xs:List Value} (h:w.ownsRow base e size (.slice A n c) n xs) (hm:m≤n):w.ownsRow base e size (.slice A m c) m (xs.take (m*size)):=by
  obtain ⟨h1,h2⟩:=h;refine ⟨by rw [List.length_take,h1];exact Nat.min_eq_left (Nat.mul_le_mul_right _ hm),?_⟩;rcases h2 with ⟨he,h0⟩|⟨g,cap,cur,he,hb,hh,hnc,hcm,hcs,ht⟩
  · injection he with ha _ hc
    subst ha;subst hc;exact .inl ⟨by rw [show m=0 by omega],by omega⟩
  · injection he with ha _ hc
    subst ha;subst hc;refine .inr ⟨g,c,cur,rfl,hb,hh,by omega,hcm,hcs,?_⟩;rw [← ht,List.take_take,Nat.min_eq_left (Nat.mul_le_mul_right _ hm)]
section
variable {P : Program}
theorem cut_to (t e : TypeId) (kh:IntKind) {i:TypeInfo} (ht:P.underlying t=some (.slice e)) (hi:P.info? e=some i) (A:Option Addr) (n c:Nat) (j:Int) (h0:0≤j) (hm:j≤n) (hc:n≤c) :
    ∀ W:World,(Instr.slice t (.slice A n c) none (some (.int kh j)) none).run P W = .ok (.slice A j.toNat c) W:=by
  intro W;have hel:P.elem t=e:=by simp [Program.elem,ht]
  have hu:P.underlying t=some (.slice (P.elem t)):=by rw [hel];exact ht
  have ha:(A.map fun x=>x.add 0)=A:=by cases A<;>simp [Addr.add]
  rw [run_slice_h W t A n c hu kh j h0 (by omega),hel];simp [sizeOf,typeInfo,hi,sliced,Result.andThen,ha]
end
def QRow (w : World) (base:Nat) (e:TypeId) (size:Nat) (v:Value) (n:Nat) (xs:List Value):Prop :=
  xs.length=n*size ∧
  ((n=0∧∃ A,v = .slice A 0 0∧∀ a,A=some a→base≤a.block∧∃ cur,w.heap[a.block]? = some (.cells cur e (0,0))) ∨
   ∃ g off cap cur,v = .slice (some ⟨g,off*size,none⟩) n cap∧base≤g∧w.heap[g]? = some (.cells cur e (0,0))∧n≤cap∧off+cap≤maxLen∧cur.size=(off+cap)*size∧(cur.toList.drop (off*size)).take (n*size)=xs)
section
variable {w w1 : World} {base n size:Nat} {e:TypeId} {v:Value} {xs:List Value}
theorem q_of_own (h : w.ownsRow base e size v n xs):QRow w base e size v n xs:=by
  obtain ⟨h1,h2⟩:=h;refine ⟨h1,?_⟩;rcases h2 with ⟨rfl,h0⟩|⟨g,cap,cur,rfl,hb,hh,hnc,hcm,hcs,ht⟩
  · exact .inl ⟨h0,none,rfl,fun a ha=>by cases ha⟩
  · exact .inr ⟨g,0,cap,cur,by rw [Nat.zero_mul],hb,hh,hnc,by rw [Nat.zero_add];exact hcm,by rw [Nat.zero_add];exact hcs,by rw [Nat.zero_mul,List.drop_zero];exact ht⟩
theorem setCells_far {g : Nat}:∀ (vs:List Value) (o:Nat) {w:World} (k:Nat),k≠g→(w.setCells g o vs).heap[k]? = w.heap[k]?
  | [],_,_,_,_=>rfl
  | v :: r,o,w,k,hk=>by
    rw [World.setCells,setCells_far r (o+1) k hk];exact Below.heap_setCell w ⟨g,o,none⟩ v k hk
theorem setCells_same (g : Nat):∀ (vs:List Value) (o:Nat) (w:World),(w.setCells g o vs).os=w.os∧(w.setCells g o vs).tape=w.tape∧(w.setCells g o vs).output=w.output∧(w.setCells g o vs).heap.size=w.heap.size
  | [],_,_=>⟨rfl,rfl,rfl,rfl⟩
  | v :: r,o,w=>by
    obtain ⟨h1,h2,h3,h4⟩:=setCells_same g r (o+1) (w.setCell ⟨g,o,none⟩ v);rw [World.setCells];exact ⟨h1,h2,h3,by rw [h4];simp [World.setCell]⟩
theorem setCells_row {g : Nat} {e:TypeId}:∀ (vs:List Value) (o:Nat) (w:World) (cur:Array Value),w.heap[g]? = some (.cells cur e (0,0))→o+vs.length≤cur.size →
    ∃ cur',(w.setCells g o vs).heap[g]? = some (.cells cur' e (0,0))∧cur'.size=cur.size∧cur'.toList=cur.toList.take o++vs++cur.toList.drop (o+vs.length)
  | [],o,w,cur,h,_=>⟨cur,h,rfl,by simp⟩
  | v :: r,o,w,cur,h,hl=>by
    have h2:=blk_set h o v;simp only [List.length_cons] at hl;obtain ⟨cur',h3,h4,h5⟩:=setCells_row r (o+1) (w.setCell ⟨g,o,none⟩ v) _ h2 (by simp;omega);refine ⟨cur',h3,by rw [h4];simp,?_⟩;rw [h5,Array.toList_setIfInBounds];have ho:o<cur.toList.length:=by rw [Array.length_toList];omega
    rw [List.take_set,List.drop_set_of_lt (by omega)];simp only [List.length_cons];rw [show o+1+r.length=o+(r.length+1) by omega]
    congr 1
    rw [List.take_succ_eq_append_getElem ho,List.set_append_right _ _ (by rw [List.length_take];omega)];have ho':o<cur.size:=by omega
    simp [Nat.min_eq_left (Nat.le_of_lt ho')]
end
section
variable {P : Program}
end
namespace Kd
theorem reps_take {α : Type} {R:α→List Value→Prop} {size m:Nat} {ps:List α} {cs:List Value} (h:Reps R size ps cs) (hm:m≤ps.length):Reps R size (ps.take m) (cs.take (m*size)):=by
  refine ⟨by rw [List.length_take,List.length_take,h.1,Nat.min_eq_left hm,Nat.min_eq_left (Nat.mul_le_mul_right _ hm)],fun j p hj=>?_⟩;rw [List.getElem?_take] at hj;split at hj
  · rename_i hjm
    have:=h.2 j p hj;have hle:j*size+size≤m*size:=by rw [← Nat.succ_mul];exact Nat.mul_le_mul_right _ hjm
    rw [List.drop_take,List.take_take,Nat.min_eq_left (by omega)];exact this
  · cases hj
theorem R_take {α : Type} {d:Kd α} {e m n c:Nat} {w:World} {base:Nat} {ok:Nat→Prop} {A:Option Addr} {xs:List α} (h:d.R e w base ok (.slice A n c) xs) (hm:m≤xs.length):d.R e w base ok (.slice A m c) (xs.take m):=by
  obtain ⟨h0,inner,ho,hr⟩:=h
  have hn:n=xs.length:=by
    obtain ⟨A',c',he⟩:=own_slice ho;injection he
  subst hn
  have hb:∀ x y:Nat,(Value.slice A x c).ownBlock=(Value.slice A y c).ownBlock:=by
    intro x y;cases A<;>rfl
  refine ⟨fun k hk=>h0 k (by rw [hb _ m];exact hk),inner.take (m*d.sz),?_,?_⟩
  · rw [List.length_take,Nat.min_eq_left hm]
    exact own_take ho hm
  · rw [hb m xs.length]
    exact reps_take hr hm
def Q {α : Type} (d:Kd α) (e:Nat) (w:World) (base:Nat) (ok:Nat→Prop) (v:Value) (xs:List α):Prop :=
  (∀ k,v.ownBlock=some k→ok k)∧∃ inner,QRow w base e d.sz v xs.length inner∧Reps (d.M w base (fun k=>ok k∧some k≠v.ownBlock)) d.sz xs inner
section
variable {α : Type} {d:Kd α} {e:Nat} {w w1 W:World} {base:Nat} {ok ok':Nat→Prop} {v:Value} {xs:List α}
theorem Q_of_R (h : d.R e w base ok v xs):d.Q e w base ok v xs:=by
  obtain ⟨h0,inner,ho,hr⟩:=h;exact ⟨h0,inner,q_of_own ho,hr⟩
theorem Q_nil (d : Kd α) (e:Nat) (w:World) (base:Nat) (ok:Nat→Prop):d.Q e w base ok (.slice none 0 0) []:=Q_of_R (R_nil d e w base ok)
end
section
variable {P : Program} {ops:Array Oper} {rest:List Oper} {o:Oper} {a:Act} {Q':Exit→Act→World→Prop} {Kc:Act→World→Prop} {α:Type}
end
end Kd
namespace Kd
section
variable {α : Type} {d:Kd α} {e e':Nat} {w w1 W:World} {base:Nat} {ok:Nat→Prop} {u v:Value} {xs:List α}
theorem R_elder' (hu : d.R e W base ok u xs) (hbase:∀ k,v.ownBlock=some k→W.heap.size≤k) (hb:Below W.heap.size W w1):d.R e w1 base (fun k=>ok k∧some k≠v.ownBlock) u xs :=
  R_mono (R_move (R_bound hu) (fun k hk=>hb.block k hk.2.2.1)) (fun k hk=>⟨hk.1,fun he=>by have:=hbase k he.symm;have:=hk.2.2.1;omega⟩)
theorem R_new' (h : d.R e w1 W.heap.size ok v xs) (hlt:∀ k,u.ownBlock=some k→k<W.heap.size):d.R e w1 W.heap.size (fun k=>ok k∧some k≠u.ownBlock) v xs :=
  R_mono (R_bound h) (fun k hk=>⟨hk.1,fun he=>by have:=hlt k he.symm;have:=hk.2.1;omega⟩)

theorem fresh' (hlt : ∀ k,u.ownBlock=some k→k<W.heap.size):∀ k,W.heap.size≤k→some k≠u.ownBlock:=fun k hk he=>by have:=hlt k he.symm;omega
end
end Kd
namespace Kd
section
variable {α : Type} {d:Kd α} {e base g n cap:Nat} {ok okp:Nat→Prop} {W:World} {xs:List α}
end
end Kd
namespace Kd
section
variable {α : Type} {F:Kd α→Kd α} {sz:Nat} {E:List Nat} {hs:∀ n,(upto F sz E n).sz=sz} {hE:∀ n q,q ∈ (upto F sz E n).E→q ∈ E}
end
end Kd
namespace Kd
theorem reps_append {α : Type} {R:α→List Value→Prop} {size:Nat} {ps qs:List α} {cs ds:List Value} (h:Reps R size ps cs) (h':Reps R size qs ds):Reps R size (ps++qs) (cs++ds):=by
  refine ⟨by rw [List.length_append,List.length_append,h.1,h'.1,Nat.add_mul],fun j p hj=>?_⟩;rcases Nat.lt_or_ge j ps.length with hlt|hge
  · rw [List.getElem?_append_left hlt] at hj
    have hle:j*size+size≤cs.length:=by rw [h.1,← Nat.succ_mul];exact Nat.mul_le_mul_right _ hlt
    rw [List.drop_append_of_le_length (by omega),List.take_append_of_le_length (by rw [List.length_drop];omega)];exact h.2 j p hj
  · rw [List.getElem?_append_right hge] at hj
    have h2:=h'.2 (j - ps.length) p hj;have hle:ps.length*size≤j*size:=Nat.mul_le_mul_right _ hge;rw [List.drop_append,List.drop_eq_nil_of_le (by rw [h.1];exact hle),List.nil_append,h.1,← Nat.sub_mul];exact h2
section
variable {P : Program} {ops:Array Oper} {rest:List Oper} {o:Oper} {a:Act} {Q:Exit→Act→World→Prop} {α:Type}
theorem R_append_rows (d : Kd α) {Rr:α→List Value→Prop} {w0 W:World} (base:Nat) (hgd:o.guard=none) (s x:Operand) (t e:TypeId) (z:Value) (bytes:Nat)
    (ho:o.op = .call { callee := .builtin .append,args:=#[s,x],argTypes:=#[t,t] })
    (ht:P.underlying t=some (.slice e)) (hinfo:(P.info? e).map (fun i=>(i.zero,i.size,i.bytes))=some (some z,d.sz,bytes)) (hz:z.cells.size=d.sz) (hs0:0<d.sz) (hb0:0<bytes)
    (v:Value) (xs ys:List α) (A:Option Addr) (m c:Nat) (ok okp:Nat→Prop) (hs:a.eval s=v) (hx:a.eval x = .slice A m c)
    (HO:d.R e W base ok v xs) (HR:ReadsRow Rr d.sz W A m ys) (hKM:∀ x cs,Rr x cs→d.M W base okp x cs) (hokp:∀ k,okp k→ok k∧some k≠v.ownBlock) (hfresh:∀ k,W.heap.size≤k→ok k)
    (HB:Below base w0 W) (hbase:base≤W.heap.size) (hl:(xs.length+m)*bytes≤140737488355328)
    (h:∀ v1 w1,d.R e w1 base ok v1 (xs++ys)→Below base w0 w1→W.grownBy w1 v.ownBlock→(v1.ownBlock=v.ownBlock∨∃ b,v1.ownBlock=some b∧W.heap.size≤b)→wpList P ops Q rest (a.put o.dst v1) w1) :
    wpList P ops Q (o :: rest) a W:=by
  obtain ⟨i0,hi,hzz⟩:=Option.map_eq_some_iff.1 hinfo;simp only [Prod.mk.injEq] at hzz;obtain ⟨hz0,hz1,hz2⟩:=hzz;have hm:ys.length=m:=HR.1;have hlen:xs.length+m≤140737488355328:=Nat.le_trans (Nat.le_mul_of_pos_right _ hb0) hl;obtain ⟨hok,inner,hown,hr⟩:=HO
  have hrun:∃ v1 w1,(Builtin.append_ #[t,t] o.type #[v, .slice A m c]).run P W = .ok v1 w1∧d.R e w1 base ok v1 (xs++ys)∧W.grownBy w1 v.ownBlock∧(v1.ownBlock=v.ownBlock∨∃ b,v1.ownBlock=some b∧W.heap.size≤b):=by
    rcases A with _|ad
    · have h0:m=0:=by
        rcases Nat.eq_zero_or_pos m with h0|h0
        · exact h0
        · obtain ⟨ad,h,_⟩:=HR.2.2 h0
          cases h
      subst h0;obtain rfl:ys=[]:=List.eq_nil_of_length_eq_zero hm;refine ⟨v,W,?_,by rw [List.append_nil];exact ⟨hok,inner,hown,hr⟩,World.grownBy.refl W _, .inl rfl⟩;rcases hown.2 with ⟨rfl,hn⟩|⟨g,cap,cur,rfl,_,_,hnc,_⟩
      · simp [Builtin.append_,run_underlying ht,sizeOf,typeInfo,hi,Builtin.lenOf,Builtin.firstCells]
      · simp [Builtin.append_,run_underlying ht,sizeOf,typeInfo,hi,Builtin.lenOf,Builtin.firstCells,hnc,storeCells]
    · obtain ⟨news,hnr,hnc⟩:=ReadsRow.inner_ HR
      have hnM:Reps (d.M W base okp) d.sz ys news:=hnr.imp_ (fun p c hp=>hKM p c hp)
      have hone:∀ u ∈ news,u.oneCell'=true:=by
        intro u hu;obtain ⟨q,hq,rfl⟩:=List.mem_iff_getElem.1 hu
        have hql:q / d.sz<ys.length:=by
          rw [Nat.div_lt_iff_lt_mul hs0];rw [← hnM.1];exact hq
        have hc:=hnM.2 (q / d.sz) _ (List.getElem?_eq_getElem hql);refine d.K_one (d.K_of_M hc) _ ?_;rw [List.mem_iff_getElem?];refine ⟨q % d.sz,?_⟩;rw [List.getElem?_take,if_pos (Nat.mod_lt _ hs0),List.getElem?_drop,Nat.mul_comm,Nat.div_add_mod,List.getElem?_eq_getElem hq]
      obtain ⟨v1,w1,hrun,h2,hg,_,hat⟩:=run_append_own_at (P:=P) W base t o.type e i0 z d.sz bytes ht hi hz0 hz1 hz2 hz hs0 v xs.length inner hown ad m c news (by rw [hnM.1,hm]) hnc hone (by simp only [maxLen];omega) hl hbase
      have hat':v1.ownBlock=v.ownBlock∨∃ b,v1.ownBlock=some b∧W.heap.size≤b:=by
        rcases hat with hat|hat
        · exact .inl hat
        · exact .inr ⟨_,hat,Nat.le_refl _⟩
      have hne:∀ k,some k≠v.ownBlock→k<W.heap.size→some k≠v1.ownBlock:=by
        intro k hk hlt;rcases hat' with hat|⟨b,hb,hle⟩
        · rw [hat];exact hk
        · rw [hb]
          intro he;injection he with he
          omega
      have step:∀ {q:α} {c:List Value} {o:Nat→Prop},d.M W base o q c→(∀ k,o k→ok k∧some k≠v.ownBlock)→d.M w1 base (fun k=>ok k∧some k≠v1.ownBlock) q c:=by
        intro q c o hq ho;have h1:=d.M_move (w1:=w1) (fun k hk=>hg.block k hk.2.2.1 (ho k hk.1).2) (d.M_bound hq);exact d.M_mono (fun k hk=>⟨(ho k hk.1).1,hne k (ho k hk.1).2 hk.2.2.1⟩) h1
      refine ⟨v1,w1,hrun,⟨fun k hk=>?_,inner++news,by rw [List.length_append,hm];exact h2,reps_append (hr.imp_ (fun _ _ hq=>step hq (fun _ hk=>hk))) (hnM.imp_ (fun _ _ hq=>step hq hokp))⟩,hg,hat'⟩;rcases hat' with hat|⟨b,hb,hle⟩
      · exact hok k (hat ▸ hk)
      · rw [hb] at hk
        injection hk with hk
        exact hfresh k (by omega)
  obtain ⟨v1,w1,hr1,h1,hg,hat⟩:=hrun;refine wpList_plain hgd fun K hK=>?_
  unfold Oper.wp execOp;simp only [ho,resolve,invoke,builtin,Sem.run_bind,Sem.run_pure,Result.andThen_ok,List.map_toArray,List.map_cons,List.map_nil,hs,hx,hr1];exact hK _ _ (h v1 w1 h1 (HB.grown hg hbase (own_base hown)) hg hat)
end
end Kd
namespace Kd
section
variable {P : Program} {ops:Array Oper} {rest:List Oper} {o:Oper} {a:Act} {Q:Exit→Act→World→Prop} {α:Type}
end
end Kd
namespace Kd
section
variable {α : Type} {k:Kd α} {w:World} {A:Option Addr} {xs:List α} {m c:Nat}
end
end Kd
section
variable {P : Program}
end
theorem string_of_reads {P : Program} {w:World} {src dst e:TypeId} {A:Option Addr} {n c:Nat} {xs:List Int} (hs:P.underlying src=some (.slice e)) (he:P.underlying e=some (.int .u8)) (hd:P.underlying dst=some .string)
    (h:ReadsInt w .u8 A n xs):(convert src dst (.slice A n c)).run P w = .ok (.string (strOfNums xs)) w:=by
  have hn:xs.length=n:=h.1;rcases A with _|ad
  · have h0:n=0:=by
      rcases Nat.eq_zero_or_pos n with h0|h0
      · exact h0
      · obtain ⟨ad,h',_⟩:=h.2.2 h0
        cases h'
    subst h0;obtain rfl:xs=[]:=List.eq_nil_of_length_eq_zero hn;exact run_convert_bytes_nil w src e hs he 0 c dst hd
  · have hl:(loadCells ad n).run P w = .ok (xs.map (Value.int .u8)).toArray w:=by
      have:=run_loadCells_list (P:=P) w ad (xs.map (Value.int .u8)) (fun j v hj=>by
        have hjl:j<xs.length:=by
          rcases Nat.lt_or_ge j xs.length with h'|h'
          · exact h'
          · rw [List.getElem?_eq_none (by rw [List.length_map];exact h')] at hj
            cases hj
        obtain ⟨ad',he',hc⟩:=h.2.2 (by omega);injection he' with he'
        subst he';rw [hc j (by omega)];rw [List.getElem?_map,List.getElem?_eq_getElem hjl] at hj;simp at hj;subst hj;simp [List.getD_eq_getElem?_getD,List.getElem?_eq_getElem hjl])
      simpa [hn] using this
    rw [run_convert_bytes_string w src dst e _ n c hs he hd,run_bytesToString w ad n c xs hl,foldl_push_bytes];simp [strOfNums,ByteArray.empty,ByteArray.emptyWithCapacity];rfl
theorem Kd.C_string {P : Program} {w:World} {src dst e:TypeId} {A:Option Addr} {n c:Nat} {xs:List Int} (hs:P.underlying src=some (.slice e)) (he:P.underlying e=some (.int .u8)) (hd:P.underlying dst=some .string)
    (h:(Kd.int .u8).C w A n xs):(convert src dst (.slice A n c)).run P w = .ok (.string (strOfNums xs)) w :=
  string_of_reads hs he hd (Kd.reads_of_C (enc:=Value.int .u8) (d:=(0:Int)) (h1:=fun _=>rfl) h)
theorem j1m {w W : World} (h:Below w.heap.size w W):w.heap.size≤W.heap.size:=h.size
theorem j1r {w W w2:World} (h:Below w.heap.size w W) (k:Below W.heap.size W w2):Below w.heap.size w w2:=below_then h h.size k
theorem ReadsInt.nil (W : World) (k:IntKind):ReadsInt W k none ([]:List Int).length []:=⟨rfl,by simp,fun h=>absurd h (Nat.lt_irrefl 0)⟩
theorem ReadsInt.drewN {W : World} {k:IntKind} {A:Option Addr} {n:Nat} {xs:List Int} (h:ReadsInt W k A n xs) (m:Nat):ReadsInt (W.drewN m) k A n xs:=h
theorem j2e {w W : World} {g j:Nat} {v:Value} (h:Below w.heap.size w W) (hg:w.heap.size≤g):Below w.heap.size w (W.setCell ⟨g,j,none⟩ v):=h.setCell hg _
theorem ReadsOf.nil {α : Type} (enc:α→Value) (d:α) (W:World):ReadsOf enc d W none ([]:List α).length []:=⟨rfl,by simp,fun h=>absurd h (Nat.lt_irrefl 0)⟩
theorem ReadsOf.drewN {α : Type} {enc:α→Value} {d:α} {W:World} {A:Option Addr} {n:Nat} {xs:List α} (h:ReadsOf enc d W A n xs) (m:Nat):ReadsOf enc d (W.drewN m) A n xs:=h
theorem cell_far {W : World} {p a:Addr} (h:a.block≠p.block) (u:Value):(W.setCell p u).cell? a=W.cell? a:=by
  have:=Below.heap_setCell W p u a.block h;simp [World.cell?,this]
theorem j1x {w : World} {g:Nat} {t:TypeId} {cs cs':Array Value} (h:w.heap[g]? = some (.cells cs t (0,0))) (i:Nat) (u:Value) (e:cs.setIfInBounds i u=cs'):(w.setCell ⟨g,i,none⟩ u).heap[g]? = some (.cells cs' t (0,0)):=e ▸ blk_set h i u
theorem j1h {base : Nat} {w W:World} (h:Below base w W):Below base w W.drew:=h.drew
namespace Kd
section
variable {α β : Type} {d:Kd α} {d':Kd β} {e e' base base' n:Nat} {ok ok':Nat→Prop} {w W w1 W1:World} {v u:Value} {xs:List α} {ys:List β} {A:Option Addr} {c:Nat}
end
section
variable {α : Type} {enc:α→Value} {h1:∀ x,(enc x).oneCell'=true} {w W:World} {A:Option Addr} {n g:Nat} {xs:List α}
end
end Kd
namespace Kd
section
variable {α : Type} {d:Kd α} {e base g:Nat} {ok:Nat→Prop} {w w1:World} {v:Value} {xs:List α} {o:Obj}
end
end Kd
section
variable {P : Program} {ops:Array Oper} {rest:List Oper} {o:Oper} {a:Act} {Q:Exit→Act→World→Prop}
theorem box_event {W : World} (hgd:o.guard=none) {N:Tmp} (_hd:o.dst=some N) {cs:Array Value} {t:TypeId}
    (hrun:(execOp a.eval o).run P W = .ok (.value (.pointer (some ⟨W.heap.size,0,none⟩))) (W.alloc (.cells cs t (0,0))))
    (h:∀ g,g=W.heap.size→∀ w1,w1.heap[g]? = some (.cells cs t (0,0))→Below W.heap.size W w1→wpList P ops Q rest (a.put o.dst (.pointer (some ⟨g,0,none⟩))) w1):wpList P ops Q (o :: rest) a W :=
  Kd.event_run hgd hrun (h _ rfl _ (blk_new W _) (j1i (Below.refl _ _) _))
end
namespace Kd
section
variable {α : Type} {enc:α→Value} {h1:∀ x,(enc x).oneCell'=true} {e base g n cap:Nat} {ok:Nat→Prop} {W:World} {xs:List α}
end
end Kd
section
variable {P : Program} {ops:Array Oper} {rest:List Oper} {o:Oper} {a:Act} {Q:Exit→Act→World→Prop}
end
namespace Kd
section
variable {α : Type} {enc:α→Value} {h1:∀ x,(enc x).oneCell'=true} {e base g n cap:Nat} {ok:Nat→Prop} {W:World} {xs:List α}
end
end Kd
section
variable {P : Program} {ops:Array Oper} {rest:List Oper} {o:Oper} {a:Act} {Q:Exit→Act→World→Prop} {W:World}
theorem j2j {N : Tmp} (_hN:o.dst=some N) (h:wpList P ops Q (o :: rest) a W):wpList P ops Q (o :: rest) a W:=h
end
section
variable {P : Program} {ops:Array Oper} {o:Oper} {a:Act} {Q:Exit→Act→World→Prop} {Kc:Act→World→Prop}
theorem event_step {W w1 : World} {v:Value} (hw:Region.wanted o (yielded ops a.tmps)=true) (hrun:(execOp a.eval o).run P W = .ok (.value v) w1) (h:Kc (a.put o.dst v) w1):if Region.wanted o (yielded ops a.tmps)=true then Oper.wp P o a W Kc Q else Kc (a.put o.dst undef) W:=by
  rw [if_pos hw];unfold Oper.wp;rw [hrun];exact h
namespace Kd
variable {α : Type}
theorem R_lit_step (d : Kd α) {w0 W:World} (base e:Nat) (hw:Region.wanted o (yielded ops a.tmps)=true) {N:Tmp} (_hd:o.dst=some N) {xs:List α} {inner:List Value} {ok okp:Nat→Prop}
    (hrun:(execOp a.eval o).run P W = .ok (.value (.slice (some ⟨W.heap.size,0,none⟩) xs.length xs.length)) (W.alloc (.cells inner.toArray e)))
    (hrep:Reps (d.M W base okp) d.sz xs inner) (hok:∀ k,okp k→ok k) (hfresh:ok W.heap.size) (HB:Below base w0 W) (hbase:base≤W.heap.size) (hm:xs.length≤9223372036854775807)
    (h:∀ v1 w1,d.R e w1 base ok v1 xs→Below base w0 w1→W.grownBy w1 none→(∃ b,v1.ownBlock=some b∧W.heap.size≤b)→Kc (a.put o.dst v1) w1):if Region.wanted o (yielded ops a.tmps)=true then Oper.wp P o a W Kc Q else Kc (a.put o.dst undef) W:=by
  refine event_step hw hrun (h _ _ ⟨fun k hk=>?_,inner,?_,?_⟩ (HB.alloc hbase _) (World.grownBy_alloc W _ none) ⟨W.heap.size,by simp [Value.ownBlock],Nat.le_refl _⟩)
  · have:W.heap.size=k:=by simpa [Value.ownBlock] using hk
    subst this;exact hfresh
  · have h2:=World.ownsRow_lit (base:=base) (e:=e) (size:=d.sz) W inner.toArray xs.length hbase (by simpa [maxLen] using hm) (by simpa using hrep.1)
    simpa using h2
  · refine hrep.imp_ (fun p c hp=>d.M_mono (fun k hk=>⟨hok k hk.1,fun he=>?_⟩) (M_below (d.M_bound hp) (j1i (Below.refl _ _) _)))
    have h3:k=W.heap.size:=by simpa [Value.ownBlock] using he
    have:=hk.2.2.1;omega
theorem R_append_rows_step (d : Kd α) {Rr:α→List Value→Prop} {w0 W:World} (base:Nat) (hw:Region.wanted o (yielded ops a.tmps)=true) (s x:Operand) (t e:TypeId) (z:Value) (bytes:Nat)
    (ho:o.op = .call { callee := .builtin .append,args:=#[s,x],argTypes:=#[t,t] })
    (ht:P.underlying t=some (.slice e)) (hinfo:(P.info? e).map (fun i=>(i.zero,i.size,i.bytes))=some (some z,d.sz,bytes)) (hz:z.cells.size=d.sz) (hs0:0<d.sz) (hb0:0<bytes)
    (v:Value) (xs ys:List α) (A:Option Addr) (m c:Nat) (ok okp:Nat→Prop) (hs:a.eval s=v) (hx:a.eval x = .slice A m c)
    (HO:d.R e W base ok v xs) (HR:ReadsRow Rr d.sz W A m ys) (hKM:∀ x cs,Rr x cs→d.M W base okp x cs) (hokp:∀ k,okp k→ok k∧some k≠v.ownBlock) (hfresh:∀ k,W.heap.size≤k→ok k)
    (HB:Below base w0 W) (hbase:base≤W.heap.size) (hl:(xs.length+m)*bytes≤140737488355328)
    (h:∀ v1 w1,d.R e w1 base ok v1 (xs++ys)→Below base w0 w1→W.grownBy w1 v.ownBlock→(v1.ownBlock=v.ownBlock∨∃ b,v1.ownBlock=some b∧W.heap.size≤b)→Kc (a.put o.dst v1) w1) :
    if Region.wanted o (yielded ops a.tmps)=true then Oper.wp P o a W Kc Q else Kc (a.put o.dst undef) W:=by
  obtain ⟨i0,hi,hzz⟩:=Option.map_eq_some_iff.1 hinfo;simp only [Prod.mk.injEq] at hzz;obtain ⟨hz0,hz1,hz2⟩:=hzz;have hm:ys.length=m:=HR.1;have hlen:xs.length+m≤140737488355328:=Nat.le_trans (Nat.le_mul_of_pos_right _ hb0) hl;obtain ⟨hok,inner,hown,hr⟩:=HO
  have hrun:∃ v1 w1,(Builtin.append_ #[t,t] o.type #[v, .slice A m c]).run P W = .ok v1 w1∧d.R e w1 base ok v1 (xs++ys)∧W.grownBy w1 v.ownBlock∧(v1.ownBlock=v.ownBlock∨∃ b,v1.ownBlock=some b∧W.heap.size≤b):=by
    rcases A with _|ad
    · have h0:m=0:=by
        rcases Nat.eq_zero_or_pos m with h0|h0
        · exact h0
        · obtain ⟨ad,h,_⟩:=HR.2.2 h0
          cases h
      subst h0;obtain rfl:ys=[]:=List.eq_nil_of_length_eq_zero hm;refine ⟨v,W,?_,by rw [List.append_nil];exact ⟨hok,inner,hown,hr⟩,World.grownBy.refl W _, .inl rfl⟩;rcases hown.2 with ⟨rfl,hn⟩|⟨g,cap,cur,rfl,_,_,hnc,_⟩
      · simp [Builtin.append_,run_underlying ht,sizeOf,typeInfo,hi,Builtin.lenOf,Builtin.firstCells]
      · simp [Builtin.append_,run_underlying ht,sizeOf,typeInfo,hi,Builtin.lenOf,Builtin.firstCells,hnc,storeCells]
    · obtain ⟨news,hnr,hnc⟩:=ReadsRow.inner_ HR
      have hnM:Reps (d.M W base okp) d.sz ys news:=hnr.imp_ (fun p c hp=>hKM p c hp)
      have hone:∀ u ∈ news,u.oneCell'=true:=by
        intro u hu;obtain ⟨q,hq,rfl⟩:=List.mem_iff_getElem.1 hu
        have hql:q / d.sz<ys.length:=by
          rw [Nat.div_lt_iff_lt_mul hs0];rw [← hnM.1];exact hq
        have hc:=hnM.2 (q / d.sz) _ (List.getElem?_eq_getElem hql);refine d.K_one (d.K_of_M hc) _ ?_;rw [List.mem_iff_getElem?];refine ⟨q % d.sz,?_⟩;rw [List.getElem?_take,if_pos (Nat.mod_lt _ hs0),List.getElem?_drop,Nat.mul_comm,Nat.div_add_mod,List.getElem?_eq_getElem hq]
      obtain ⟨v1,w1,hrun,h2,hg,_,hat⟩:=run_append_own_at (P:=P) W base t o.type e i0 z d.sz bytes ht hi hz0 hz1 hz2 hz hs0 v xs.length inner hown ad m c news (by rw [hnM.1,hm]) hnc hone (by simp only [maxLen];omega) hl hbase
      have hat':v1.ownBlock=v.ownBlock∨∃ b,v1.ownBlock=some b∧W.heap.size≤b:=by
        rcases hat with hat|hat
        · exact .inl hat
        · exact .inr ⟨_,hat,Nat.le_refl _⟩
      have hne:∀ k,some k≠v.ownBlock→k<W.heap.size→some k≠v1.ownBlock:=by
        intro k hk hlt;rcases hat' with hat|⟨b,hb,hle⟩
        · rw [hat];exact hk
        · rw [hb]
          intro he;injection he with he
          omega
      have step:∀ {q:α} {c:List Value} {o:Nat→Prop},d.M W base o q c→(∀ k,o k→ok k∧some k≠v.ownBlock)→d.M w1 base (fun k=>ok k∧some k≠v1.ownBlock) q c:=by
        intro q c o hq ho;have h1:=d.M_move (w1:=w1) (fun k hk=>hg.block k hk.2.2.1 (ho k hk.1).2) (d.M_bound hq);exact d.M_mono (fun k hk=>⟨(ho k hk.1).1,hne k (ho k hk.1).2 hk.2.2.1⟩) h1
      refine ⟨v1,w1,hrun,⟨fun k hk=>?_,inner++news,by rw [List.length_append,hm];exact h2,reps_append (hr.imp_ (fun _ _ hq=>step hq (fun _ hk=>hk))) (hnM.imp_ (fun _ _ hq=>step hq hokp))⟩,hg,hat'⟩;rcases hat' with hat|⟨b,hb,hle⟩
      · exact hok k (hat ▸ hk)
      · rw [hb] at hk
        injection hk with hk
        exact hfresh k (by omega)
  obtain ⟨v1,w1,hr1,h1,hg,hat⟩:=hrun;rw [if_pos hw];unfold Oper.wp execOp;simp only [ho,resolve,invoke,builtin,Sem.run_bind,Sem.run_pure,Result.andThen_ok,List.map_toArray,List.map_cons,List.map_nil,hs,hx,hr1];exact h v1 w1 h1 (HB.grown hg hbase (own_base hown)) hg hat
end Kd
end
inductive Vals (P : Program) (tmps:Array Value) (w:World):List ResultVar→List Value→Prop where
  | nil:Vals P tmps w [] []
  | tmp {u:Tmp} {rs:List ResultVar} {vs:List Value} (h:Vals P tmps w rs vs):Vals P tmps w (.tmp u :: rs) (tmps.getD u undef :: vs)
  | cell {p:Tmp} {ty:TypeId} {rs:List ResultVar} {vs:List Value} (g:Nat) (t:TypeId) (cs:Array Value) (fr:Nat × Nat) (d:TypeDesc)
      (hp:tmps.getD p undef = .pointer (some ⟨g,0,none⟩)) (hg:w.heap[g]? = some (.cells cs t fr))
      (hu:P.underlying ty=some d) (hd:(match d with | .struct _ | .array _ _=>true|_=>false)=true) (hi:(P.info? ty).map (·.size)=some cs.size)
      (h:Vals P tmps w rs vs):Vals P tmps w (.cell p ty :: rs) (.agg cs :: vs)
section
variable {P : Program} {tmps:Array Value} {w:World}
end
namespace Kd
section
variable {P : Program} {α:Type}
end
section
variable {P : Program} {ops:Array Oper} {rest:List Oper} {o:Oper} {a:Act} {Q:Exit→Act→World→Prop} {Kc:Act→World→Prop} {α:Type}
end
end Kd

end Go.Proofs.YtchhndbekjgimaaDoorW.PrintWords
end
section
namespace Go.Proofs.YtchhndbekjgimaaDoorW.PrintLast

section
variable {P : Program} {ops:Array Oper} {Q:Exit→Act→World→Prop} {md:Region.Mode} {S:World→Prop} {ds:List Nat}

def Region.reachB (md : Region.Mode) (ops:Array Oper) (i:Nat):Nat→Nat→Bool
  | 0,_=>false
  | fuel+1,d=>match ops[d]? with
    | some o=>o.after.any fun e=>Region.binds md e && (e.on == i || Region.reachB md ops i fuel e.on)
    | none=>false

def Region.closedB (md : Region.Mode) (ops:Array Oper) (listed:Array Bool):Bool :=
  (List.range ops.size).all fun j => !listed.getD j false || match ops[j]? with
    | some o=>o.after.all fun e => !Region.binds md e || listed.getD e.on false
    | none=>true

def Region.lastB (md : Region.Mode) (ops:Array Oper) (listed:Array Bool) (ds:List Nat) (i:Nat):Bool :=
  ds.all fun d=>listed.getD d true || Region.reachB md ops i ops.size d

def ListedClosed (md : Region.Mode) (ops:Array Oper) (listed:Array Bool):Prop :=
  ∀ j oj,ops[j]? = some oj→listed.getD j false=true→∀ e ∈ oj.after,Region.binds md e=true→listed.getD e.on false=true

theorem Region.closedB_spec {listed : Array Bool} (h:Region.closedB md ops listed=true):ListedClosed md ops listed:=by
  intro j oj hj hl e he hb;have hlt:j<ops.size:=(Array.getElem?_eq_some_iff.1 hj).1;have h1:=List.all_eq_true.1 h j (List.mem_range.2 hlt);simp only [hl,hj,Bool.not_true,Bool.false_or] at h1;have h2:=Array.all_eq_true_iff_forall_mem.1 h1 e he
  simpa [hb] using h2

theorem ListedClosed.set {listed : Array Bool} {i:Nat} (h:ListedClosed md ops listed) (hi:i ∈ Region.ready md ops listed):ListedClosed md ops (listed.setIfInBounds i true):=by
  obtain ⟨_,oi,hoi,hall⟩:=mem_ready.1 hi;intro j oj hj hl e he hb;by_cases hij:i=j
  · subst hij
    have:oj=oi:=Option.some.inj (hj.symm.trans hoi);subst this;exact getD_set_true (hall e he hb)
  · rw [getD_set_ne false hij] at hl
    exact getD_set_true (h j oj hj hl e he hb)

theorem Region.reach_listed {listed : Array Bool} {i:Nat} (hc:ListedClosed md ops listed):∀ (fuel d:Nat),Region.reachB md ops i fuel d=true→listed.getD d false=true→listed.getD i false=true
  | 0,_,h,_=>by simp [Region.reachB] at h
  | fuel+1,d,h,hl=>by
    unfold Region.reachB at h
    cases ho:ops[d]? with
    | none=>rw [ho] at h;simp at h
    | some o =>
      rw [ho] at h
      obtain ⟨e,he,h1⟩:=Array.any_eq_true'.1 h;simp only [Bool.and_eq_true,Bool.or_eq_true,beq_iff_eq] at h1;have hle:=hc d o ho hl e he h1.1;rcases h1.2 with h2|h2
      · rw [← h2];exact hle
      · exact Region.reach_listed hc fuel e.on h2 hle

theorem Region.reach_not_ready {listed : Array Bool} {i d fuel:Nat} (hc:ListedClosed md ops listed) (hr:Region.reachB md ops i fuel d=true) (hun:listed.getD i true=false):d ∉ Region.ready md ops listed:=by
  intro hd;obtain ⟨_,o,ho,hall⟩:=mem_ready.1 hd
  have hi:listed.getD i false=true:=by
    cases fuel with
    | zero=>simp [Region.reachB] at hr
    | succ n =>
      unfold Region.reachB at hr;rw [ho] at hr;obtain ⟨e,he,h1⟩:=Array.any_eq_true'.1 hr;simp only [Bool.and_eq_true,Bool.or_eq_true,beq_iff_eq] at h1;have hle:=hall e he h1.1;rcases h1.2 with h2|h2
      · rw [← h2];exact hle
      · exact Region.reach_listed hc n e.on h2 hle
  rcases Nat.lt_or_ge i listed.size with h'|h'
  · simp [h'] at hun hi
    rw [hun] at hi;cases hi
  · simp [Array.getElem?_eq_none h'] at hun

def wpAnyLast (P : Program) (md:Region.Mode) (ops:Array Oper) (Q:Exit→Act→World→Prop) (S:World→Prop) (ds:List Nat):Nat→Array Bool→Act→World→Prop
  | 0,listed,a,w=>Region.ready md ops listed=[]∧Q .normal a w
  | fuel+1,listed,a,w =>
    (Region.ready md ops listed=[]→Q .normal a w) ∧
    ∀ i ∈ Region.ready md ops listed,wpOp P ops Q i (fun a' w'=>(i ∉ ds→S w→S w')∧wpAnyLast P md ops Q S ds fuel (listed.setIfInBounds i true) a' w') a w

theorem wpAny_of_last : ∀ (fuel:Nat) (listed:Array Bool) (a:Act) (w:World),wpAnyLast P md ops Q S ds fuel listed a w→wpAny P md ops Q fuel listed a w
  | 0,_,_,_,h=>h
  | fuel+1,_,_,_,h=>⟨h.1,fun i hi=>wpOp_mono (fun a' w' h'=>wpAny_of_last fuel _ a' w' h'.2) (h.2 i hi)⟩

theorem wpAnyLast_first {i : Nat} {oi:Oper} {v:Value} (hi:ops[i]? = some oi) (hsel:∀ (j:Nat) (o:Oper) cs b,ops[j]? = some o→o.op ≠ .select cs b)
    (hQ:∀ c a w,Q (.panic c) (a.put oi.dst v) w→Q (.panic c) a w) (n:Nat) :
    ∀ (fuel:Nat) (listed:Array Bool) (a:Act) (w:World),
      (∀ j oj,ops[j]? = some oj→j≠i→listed.getD j true=false→(∀ e ∈ oj.after,Region.binds md e=true→e.on≠i)→oi.apart ops oj=true) →
      ListedClosed md ops listed→(∀ d ∈ ds,listed.getD d true=false→Region.reachB md ops i n d=true) →
      i ∈ Region.ready md ops listed→YieldsIf P ops S oi v a→S w →
      wpAnyLast P md ops Q S ds fuel (listed.setIfInBounds i true) (a.put oi.dst v) w→wpAnyLast P md ops Q S ds (fuel+1) listed a w:=by
  intro fuel
  induction fuel with
  | zero =>
    intro listed a w _ _ _ hr hy hS H;refine ⟨fun h=>(by rw [h] at hr;cases hr),fun j hj=>?_⟩;by_cases hji:j=i
    · subst hji;exact hy.wpOp hi hS ⟨fun _ h=>h,H⟩
    · have:=ready_mono hj hji
      rw [H.1] at this;cases this
  | succ fuel ih =>
    intro listed a w hfree hc hd hr hy hS H;refine ⟨fun h=>(by rw [h] at hr;cases hr),fun j hj=>?_⟩;by_cases hji:j=i
    · subst hji;exact hy.wpOp hi hS ⟨fun _ h=>h,H⟩
    · have h1:=H.2 j (ready_mono hj hji)
      obtain ⟨hjun,oj,hoj,hall⟩:=mem_ready.1 hj;have hiun:=(mem_ready.1 hr).1
      have hnot:∀ e ∈ oj.after,Region.binds md e=true→e.on≠i:=fun e he hb heq=>by
        have h1:=hall e he hb;rw [heq] at h1;rcases Nat.lt_or_ge i listed.size with h'|h'
        · simp [h'] at hiun h1;rw [hiun] at h1;cases h1
        · simp [Array.getElem?_eq_none h'] at h1
      have hjd:j ∉ ds:=fun hm=>Region.reach_not_ready hc (hd j hm hjun) hiun hj
      have h2:=wpOp_putIf hoj (hfree j oj hoj hji hjun hnot) (fun cs b=>hsel i oi cs b hi) (fun cs b=>hsel j oj cs b hoj) hQ hy h1
      have hfree':∀ k ok,ops[k]? = some ok→k≠i→(listed.setIfInBounds j true).getD k true=false →
          (∀ e ∈ ok.after,Region.binds md e=true→e.on≠i)→oi.apart ops ok=true:=fun k ok hk hki hun hno=>by
        refine hfree k ok hk hki ?_ hno;by_cases hjk:j=k
        · subst hjk;exact hjun
        · rw [getD_set_ne true hjk] at hun;exact hun
      have hd':∀ d ∈ ds,(listed.setIfInBounds j true).getD d true=false→Region.reachB md ops i n d=true:=fun d hm hun=>by
        refine hd d hm ?_;by_cases hjk:j=d
        · subst hjk;exact hjun
        · rw [getD_set_ne true hjk] at hun;exact hun
      refine wpOp_mono (fun a' w' h3=>⟨h3.2.1,ih (listed.setIfInBounds j true) a' w' hfree' (hc.set hj) hd' (ready_mono hr (Ne.symm hji)) h3.1 (h3.2.1 hjd hS) ?_⟩) h2;rw [Array.setIfInBounds_comm _ _ hji];exact h3.2.2

theorem wpAnyLast_any {i : Nat} {oi:Oper} {v:Value} (hi:ops[i]? = some oi) (hsel:∀ (j:Nat) (o:Oper) cs b,ops[j]? = some o→o.op ≠ .select cs b)
    (hQ:∀ c a w,Q (.panic c) (a.put oi.dst v) w→Q (.panic c) a w) :
    ∀ (fuel:Nat) (listed:Array Bool) (a:Act) (w:World),
      (∀ j oj,ops[j]? = some oj→j≠i→listed.getD j true=false→(∀ e ∈ oj.after,Region.binds md e=true→e.on≠i)→oi.apart ops oj=true) →
      i ∈ Region.ready md ops listed→Yields P ops oi v a →
      wpAnyLast P md ops Q S ds fuel (listed.setIfInBounds i true) (a.put oi.dst v) w→wpAnyLast P md ops Q S ds (fuel+1) listed a w:=by
  intro fuel
  induction fuel with
  | zero =>
    intro listed a w _ hr hy H;refine ⟨fun h=>(by rw [h] at hr;cases hr),fun j hj=>?_⟩;by_cases hji:j=i
    · subst hji;exact (hy.yieldsIf (S:=fun _=>True)).wpOp hi trivial ⟨fun _ h=>h,H⟩
    · have:=ready_mono hj hji
      rw [H.1] at this;cases this
  | succ fuel ih =>
    intro listed a w hfree hr hy H;refine ⟨fun h=>(by rw [h] at hr;cases hr),fun j hj=>?_⟩;by_cases hji:j=i
    · subst hji;exact (hy.yieldsIf (S:=fun _=>True)).wpOp hi trivial ⟨fun _ h=>h,H⟩
    · have h1:=H.2 j (ready_mono hj hji)
      obtain ⟨hjun,oj,hoj,hall⟩:=mem_ready.1 hj;have hiun:=(mem_ready.1 hr).1
      have hnot:∀ e ∈ oj.after,Region.binds md e=true→e.on≠i:=fun e he hb heq=>by
        have h1:=hall e he hb;rw [heq] at h1;rcases Nat.lt_or_ge i listed.size with h'|h'
        · simp [h'] at hiun h1;rw [hiun] at h1;cases h1
        · simp [Array.getElem?_eq_none h'] at h1
      have h2:=wpOp_put hoj (hfree j oj hoj hji hjun hnot) (fun cs b=>hsel i oi cs b hi) (fun cs b=>hsel j oj cs b hoj) hQ hy h1
      have hfree':∀ k ok,ops[k]? = some ok→k≠i→(listed.setIfInBounds j true).getD k true=false →
          (∀ e ∈ ok.after,Region.binds md e=true→e.on≠i)→oi.apart ops ok=true:=fun k ok hk hki hun hno=>by
        refine hfree k ok hk hki ?_ hno;by_cases hjk:j=k
        · subst hjk;exact hjun
        · rw [getD_set_ne true hjk] at hun;exact hun
      refine wpOp_mono (fun a' w' h3=>⟨h3.2.1,ih (listed.setIfInBounds j true) a' w' hfree' (ready_mono hr (Ne.symm hji)) h3.1 ?_⟩) h2;rw [Array.setIfInBounds_comm _ _ hji];exact h3.2.2

theorem wpAnyLast_take {i : Nat} {oi:Oper} {v:Value} {fuel:Nat} {listed:Array Bool} {a:Act} {w:World} (hi:ops[i]? = some oi)
    (hs:Region.noSelect ops=true) (hf:Region.free md ops listed i=true) (hr:(Region.ready md ops listed).contains i=true)
    (hc:Region.closedB md ops listed=true) (hl:Region.lastB md ops listed ds i=true)
    (hQ:∀ c a w,Q (.panic c) (a.put oi.dst v) w→Q (.panic c) a w) (hy:YieldsIf P ops S oi v a) (hS:S w)
    (h:wpAnyLast P md ops Q S ds fuel (listed.setIfInBounds i true) (a.put oi.dst v) w):wpAnyLast P md ops Q S ds (fuel+1) listed a w :=
  wpAnyLast_first hi (Region.noSelect_spec hs) hQ ops.size fuel listed a w (Region.free_spec hi hf) (Region.closedB_spec hc)
    (fun d hm hun=>by have:=List.all_eq_true.1 hl d hm;rw [hun] at this;simpa using this) (by simpa using hr) hy hS h

theorem wpAnyLast_all {rs : List Nat} {fuel:Nat} {listed:Array Bool} {a:Act} {w:World} (hr:Region.ready md ops listed=rs) (hne:rs≠[])
    (h:∀ i ∈ rs,wpOp P ops Q i (fun a' w'=>(i ∉ ds→S w→S w')∧wpAnyLast P md ops Q S ds fuel (listed.setIfInBounds i true) a' w') a w):wpAnyLast P md ops Q S ds (fuel+1) listed a w :=
  ⟨fun h0=>absurd (hr ▸ h0) hne,hr ▸ h⟩

theorem wpAnyLast_done {listed : Array Bool} {a:Act} {w:World} (hr:Region.ready md ops listed=[]) (h:Q .normal a w) :
    ∀ fuel,wpAnyLast P md ops Q S ds fuel listed a w
  | 0=>⟨hr,h⟩
  | _+1=>⟨fun _=>h,by rw [hr];simp⟩

theorem wp_region_last {id : Nat} {a:Act} {w:World} (hm:P.follows .mixedOrders=true)
    (h:wpAnyLast P .any ops Q S ds ops.size (Array.replicate ops.size false) a { w with drawn:=w.drawn+1 }):(Code.region id ops true).wp P Q a w :=
  wp_region_any hm (wpAny_of_last _ _ _ _ h)

end

section
variable {P : Program} {ops:Array Oper} {Q:Exit→Act→World→Prop} {md:Region.Mode} {S:World→Prop} {ds:List Nat}

def AllReadyL (P : Program) (md:Region.Mode) (ops:Array Oper) (Q:Exit→Act→World→Prop) (S:World→Prop) (ds:List Nat) (fuel:Nat) (listed:Array Bool) (a:Act) (w:World) (rs:List Nat):Prop :=
  ∀ i ∈ rs,wpOp P ops Q i (fun a' w'=>(i ∉ ds→S w→S w')∧wpAnyLast P md ops Q S ds fuel (listed.setIfInBounds i true) a' w') a w
theorem AllReadyL.nil {fuel : Nat} {listed:Array Bool} {a:Act} {w:World}:AllReadyL P md ops Q S ds fuel listed a w []:=fun _ h=>by cases h
theorem AllReadyL.cons {fuel : Nat} {listed:Array Bool} {a:Act} {w:World} {i:Nat} {o:Oper} {rs:List Nat} (ho:ops[i]? = some o) (hd:i ∉ ds)
    (h:∀ K':Act→World→Prop,Shut (∀ a w,S w→(S w→wpAnyLast P md ops Q S ds fuel (listed.setIfInBounds i true) a w)→K' a w)→if Region.wanted o (yielded ops a.tmps)=true then Oper.wp P o a w K' Q else K' (a.put o.dst undef) w)
    (hs:AllReadyL P md ops Q S ds fuel listed a w rs):AllReadyL P md ops Q S ds fuel listed a w (i :: rs):=fun j hj=>by
  rcases List.mem_cons.1 hj with rfl|hj
  · exact wpOp_step ho (fun K' hK=>h K' (fun a w hS hW=>hK a w ⟨fun _ _=>hS,hW hS⟩))
  · exact hs j hj
theorem AllReadyL.cons_last {fuel : Nat} {listed:Array Bool} {a:Act} {w:World} {i:Nat} {o:Oper} {rs:List Nat} (ho:ops[i]? = some o) (hd:i ∈ ds)
    (h:∀ K':Act→World→Prop,Shut (∀ a w,wpAnyLast P md ops Q S ds fuel (listed.setIfInBounds i true) a w→K' a w)→if Region.wanted o (yielded ops a.tmps)=true then Oper.wp P o a w K' Q else K' (a.put o.dst undef) w)
    (hs:AllReadyL P md ops Q S ds fuel listed a w rs):AllReadyL P md ops Q S ds fuel listed a w (i :: rs):=fun j hj=>by
  rcases List.mem_cons.1 hj with rfl|hj
  · exact wpOp_step ho (fun K' hK=>h K' (fun a w hW=>hK a w ⟨fun hn=>absurd hd hn,hW⟩))
  · exact hs j hj
theorem wpAnyLast_ready {rs : List Nat} {fuel:Nat} {listed:Array Bool} {a:Act} {w:World} (hr:Region.ready md ops listed=rs) (hne:rs≠[])
    (h:AllReadyL P md ops Q S ds fuel listed a w rs):wpAnyLast P md ops Q S ds (fuel+1) listed a w:=wpAnyLast_all hr hne h
theorem start_ {id n : Nat} {a:Act} {w:World} (l:Array Bool) (hm:P.follows .mixedOrders=true) (hn:ops.size=n) (hl:Array.replicate n false=l) (hS:S w.drew)
    (h:S w.drew→wpAnyLast P .any ops Q S ds n l a w.drew):(Code.region id ops true).wp P Q a w:=by
  subst hn;subst hl;exact wp_region_last hm (h hS)
def takeB (md : Region.Mode) (ops:Array Oper) (ds:List Nat) (l l':Array Bool) (i:Nat):Bool :=
  Region.noSelect ops && Region.free md ops l i && (Region.ready md ops l).contains i && Region.closedB md ops l && Region.lastB md ops l ds i && (l.setIfInBounds i true == l')
theorem take_ {i : Nat} {N:Option Tmp} {oi:Oper} {v:Value} {fuel:Nat} {l:Array Bool} {a:Act} {w:World} (l':Array Bool) (hi:ops[i]? = some oi) (hN:oi.dst=N) (hc:takeB md ops ds l l' i=true)
    (hQ:∀ c a w,Q (.panic c) (a.put oi.dst v) w→Q (.panic c) a w) (hy:YieldsIf P ops S oi v a) (hS:S w) {a':Act} (ha:a.put N v=a')
    (h:wpAnyLast P md ops Q S ds fuel l' a' w):wpAnyLast P md ops Q S ds (fuel+1) l a w:=by
  subst ha;subst hN;simp only [takeB,Bool.and_eq_true,beq_iff_eq] at hc;obtain ⟨⟨⟨⟨⟨h1,h2⟩,h3⟩,h4⟩,h5⟩,h6⟩:=hc;subst h6;exact wpAnyLast_take hi h1 h2 h3 h4 h5 hQ hy hS h
def anyB (md : Region.Mode) (ops:Array Oper) (l l':Array Bool) (i:Nat):Bool :=
  Region.noSelect ops && Region.free md ops l i && (Region.ready md ops l).contains i && (l.setIfInBounds i true == l')
theorem pure_ {i : Nat} {N:Option Tmp} {oi:Oper} {v:Value} {fuel:Nat} {l:Array Bool} {a:Act} {w:World} (l':Array Bool) (hi:ops[i]? = some oi) (hN:oi.dst=N) (hc:anyB md ops l l' i=true)
    (hQ:∀ c a w,Q (.panic c) (a.put oi.dst v) w→Q (.panic c) a w) (hy:Yields P ops oi v a) {a':Act} (ha:a.put N v=a')
    (h:wpAnyLast P md ops Q S ds fuel l' a' w):wpAnyLast P md ops Q S ds (fuel+1) l a w:=by
  subst ha;subst hN;simp only [anyB,Bool.and_eq_true,beq_iff_eq] at hc;obtain ⟨⟨⟨h1,h2⟩,h3⟩,h6⟩:=hc;subst h6;exact wpAnyLast_any hi (Region.noSelect_spec h1) hQ fuel l a w (Region.free_spec hi h2) (by simpa using h3) hy h
def readyB (md : Region.Mode) (ops:Array Oper) (l l':Array Bool) (i:Nat):Bool:=(Region.ready md ops l == [i]) && (l.setIfInBounds i true == l')
theorem one_ {i : Nat} {N:Option Tmp} {oi:Oper} {fuel:Nat} {l:Array Bool} {a:Act} {w:World} (l':Array Bool) (hi:ops[i]? = some oi) (hN:oi.dst=N) (hc:readyB md ops l l' i=true) (hd:i ∉ ds)
    (h:∀ K:Act→World→Prop,Shut (∀ a' w',S w'→(S w'→wpAnyLast P md ops Q S ds fuel l' a' w')→K a' w')→if Region.wanted oi (yielded ops a.tmps)=true then Oper.wp P oi a w K Q else K (a.put N undef) w) :
    wpAnyLast P md ops Q S ds (fuel+1) l a w:=by
  subst hN;simp only [readyB,Bool.and_eq_true,beq_iff_eq] at hc;obtain ⟨h1,h2⟩:=hc;subst h2;exact wpAnyLast_ready h1 (by simp) (AllReadyL.cons hi hd (fun K hK=>h K hK) AllReadyL.nil)
theorem last_ {i : Nat} {N:Option Tmp} {oi:Oper} {fuel:Nat} {l:Array Bool} {a:Act} {w:World} (l':Array Bool) (hi:ops[i]? = some oi) (hN:oi.dst=N) (hc:readyB md ops l l' i=true) (hd:i ∈ ds)
    (h:∀ K:Act→World→Prop,Shut (∀ a' w',wpAnyLast P md ops Q S ds fuel l' a' w'→K a' w')→if Region.wanted oi (yielded ops a.tmps)=true then Oper.wp P oi a w K Q else K (a.put N undef) w) :
    wpAnyLast P md ops Q S ds (fuel+1) l a w:=by
  subst hN;simp only [readyB,Bool.and_eq_true,beq_iff_eq] at hc;obtain ⟨h1,h2⟩:=hc;subst h2;exact wpAnyLast_ready h1 (by simp) (AllReadyL.cons_last hi hd (fun K hK=>h K hK) AllReadyL.nil)
theorem done_ {l : Array Bool} {a:Act} {w:World} {n:Nat} (hr:(Region.ready md ops l == [])=true) (h:Q .normal a w):wpAnyLast P md ops Q S ds n l a w:=wpAnyLast_done (by simpa using hr) h n
theorem norm_ {fuel : Nat} {l:Array Bool} {a a':Act} {w:World} (ha:a=a') (h:wpAnyLast P md ops Q S ds fuel l a' w):wpAnyLast P md ops Q S ds fuel l a w:=by
  subst ha;exact h
theorem call_ {oi : Oper} {N:Option Tmp} {a:Act} {w:World} {K:Act→World→Prop} (f:FuncId) (args:Array Value) (hw:Region.wanted oi (yielded ops a.tmps)=true) (hN:oi.dst=N) (hrun:(execOp a.eval oi).run P w = .ok (.enter f args) w)
    (h:Calls P f args w fun e w'=>∃ v,e = .returned v∧K (a.put N v) w'):if Region.wanted oi (yielded ops a.tmps)=true then Oper.wp P oi a w K Q else K (a.put N undef) w:=by
  rw [if_pos hw];subst hN;unfold Oper.wp;rw [hrun,Oper.upon_enter];refine h.mono fun e w'' hh=>?_
  obtain ⟨v,rfl,hk⟩:=hh;exact hk
theorem enters_ {f : FuncId} {fn:Func} (hf:P.funcs[f]? = some fn) (hname:(fn.name =="runtime.NumGoroutine")=false) (hb:fn.body.isSome=true) (args:Array Value) (w:World):(callFunc f args).run P w = .ok (.enter f args) w:=by
  have h1:fn.name ≠"runtime.NumGoroutine" := by simpa using hname
  obtain ⟨c,hc⟩:=Option.isSome_iff_exists.1 hb;simp [callFunc,hf,h1,hc]
theorem goes_ {oi : Oper} {N:Option Tmp} {a:Act} {w:World} {K:Act→World→Prop} {f:FuncId} {fn:Func} {as_:Array Operand} {ts:Array TypeId} (hf:P.funcs[f]? = some fn) (hname:(fn.name =="runtime.NumGoroutine")=false) (hb:fn.body.isSome=true) (args:Array Value)
    (hw:Region.wanted oi (yielded ops a.tmps)=true) (hN:oi.dst=N) (hop:oi.op = .call { callee := .value (.func f),args:=as_,argTypes:=ts }) (hargs:as_.map a.eval=args)
    (h:Calls P f args w fun e w'=>∃ v,e = .returned v∧K (a.put N v) w'):if Region.wanted oi (yielded ops a.tmps)=true then Oper.wp P oi a w K Q else K (a.put N undef) w:=by
  refine call_ f args hw hN ?_ h;have he:=enters_ hf hname hb args w;unfold execOp;simp [hop,resolve,Deferred.ofValue,invoke,Act.eval,hargs,he]
theorem j2l {rest : List Oper} {oi:Oper} {a:Act} {w:World} (N:Option Tmp) (hd:oi.dst=N) (hg:oi.guard=none) {f:FuncId} {fn:Func} {as_:Array Operand} {ts:Array TypeId} (hf:P.funcs[f]? = some fn) (hname:(fn.name =="runtime.NumGoroutine")=false) (hb:fn.body.isSome=true) (args:Array Value)
    (hop:oi.op = .call { callee := .value (.func f),args:=as_,argTypes:=ts }) (hargs:as_.map a.eval=args)
    (h:Calls P f args w fun e w'=>∃ v,e = .returned v∧wpList P ops Q rest (a.put N v) w'):wpList P ops Q (oi :: rest) a w:=by
  refine wpList_plain hg fun K hK=>?_
  have he:=enters_ hf hname hb args w
  have hrun:(execOp a.eval oi).run P w = .ok (.enter f args) w:=by
    unfold execOp;simp [hop,resolve,Deferred.ofValue,invoke,Act.eval,hargs,he]
  unfold Oper.wp;rw [hrun,Oper.upon_enter];refine h.mono fun e w'' hh=>?_
  obtain ⟨v,rfl,hk⟩:=hh;subst hd;exact hK _ _ hk
theorem skip_ {oi : Oper} {a:Act} {w w1:World} {K:Act→World→Prop} (hw:Region.wanted oi (yielded ops a.tmps)=true) (hN:oi.dst=none) (hrun:(execOp a.eval oi).run P w = .ok .skip w1)
    (h:K a w1):if Region.wanted oi (yielded ops a.tmps)=true then Oper.wp P oi a w K Q else K (a.put none undef) w:=by
  rw [if_pos hw];unfold Oper.wp;rw [hrun]
  show K (a.put oi.dst undef) w1
  rw [hN];exact h
theorem i64_w (n : Int):IntKind.i64.wrap n=Go.RowKit.wrap64 n:=by unfold Go.RowKit.wrap64;exact IntKind.wrap_i64 n
theorem i32_w (n : Int):IntKind.i32.wrap n=Go.RowKit.wrap32 n:=by unfold Go.RowKit.wrap32;exact IntKind.wrap_i32 n
end
end Go.Proofs.YtchhndbekjgimaaDoorW.PrintLast
end
section
namespace Go.Proofs.YtchhndbekjgimaaDoorW.PrintLast
open Go.Proofs.YtchhndbekjgimaaDoorW.PrintWords (Aside0)
def needsOf (md : Region.Mode) (o:Oper):List Nat:=(o.after.toList.filter (fun e=>Region.binds md e)).map (fun e=>e.on)
def clashOf (md : Region.Mode) (ops:Array Oper) (i:Nat) (oi:Oper):List Nat:=(List.range ops.size).filter fun j => !(j == i) && match ops[j]? with
  | some oj => !(oj.after.any (fun e=>Region.binds md e && e.on == i) || oi.apart ops oj)
  | none=>false
def rtab (md : Region.Mode) (ops:Array Oper):Bool × List (List Nat × List Nat):=(Region.noSelect ops,(List.range ops.size).map fun i=>match ops[i]? with
  | some o=>(needsOf md o,clashOf md ops i o)
  | none=>([],[]))
def readyAt (T : List (List Nat × List Nat)) (l:List Bool) (i:Nat):Bool := !l.getD i true && match T[i]? with
  | some r=>r.1.all (fun j=>l.getD j false)
  | none=>false
def readyT (T : List (List Nat × List Nat)) (l:List Bool):List Nat:=(List.range T.length).filter (readyAt T l)
def freeT (T : List (List Nat × List Nat)) (l:List Bool) (i:Nat):Bool:=match T[i]? with
  | some r=>r.2.all (fun j=>l.getD j true)
  | none=>false
def closedT (T : List (List Nat × List Nat)) (l:List Bool):Bool:=(List.range T.length).all fun j => !l.getD j false || match T[j]? with
  | some r=>r.1.all (fun k=>l.getD k false)
  | none=>true
def reachT (T : List (List Nat × List Nat)) (i:Nat):Nat→Nat→Bool
  | 0,_=>false
  | fuel+1,d=>match T[d]? with
    | some r=>r.1.any fun j=>j == i || reachT T i fuel j
    | none=>false
def lastT (T : List (List Nat × List Nat)) (l:List Bool) (ds:List Nat) (i:Nat):Bool:=ds.all fun d=>l.getD d true || reachT T i T.length d
section
variable {md : Region.Mode} {ops:Array Oper} {T:Bool × List (List Nat × List Nat)} {l l' li lj lk:Array Bool} {ds:List Nat} {i j k:Nat}
theorem gd (l : Array Bool) (j:Nat) (b:Bool):l.getD j b=l.toList.getD j b:=by simp [Array.getD_eq_getD_getElem?,List.getD_eq_getElem?_getD]
theorem needs_all (o : Oper) (p:Nat→Bool):o.after.all (fun e => !Region.binds md e || p e.on)=(needsOf md o).all p:=by
  unfold needsOf;rw [← Array.all_toList]
  induction o.after.toList with
  | nil=>rfl
  | cons e r ih =>
    rw [List.all_cons,ih,List.filter_cons];cases h:Region.binds md e<;>simp
theorem needs_any (o : Oper) (p:Nat→Bool):o.after.any (fun e=>Region.binds md e && p e.on)=(needsOf md o).any p:=by
  unfold needsOf;rw [← Array.any_toList]
  induction o.after.toList with
  | nil=>rfl
  | cons e r ih =>
    rw [List.any_cons,ih,List.filter_cons];cases h:Region.binds md e<;>simp
theorem rtab_length : (rtab md ops).2.length=ops.size:=by simp [rtab]
theorem rtab_some {o : Oper} (h:ops[i]? = some o):(rtab md ops).2[i]? = some (needsOf md o,clashOf md ops i o):=by
  have hi:=(Array.getElem?_eq_some_iff.1 h).1;unfold rtab;rw [List.getElem?_map,List.getElem?_range hi,Option.map_some,h]
theorem rtab_none (h : ops[i]? = none):(rtab md ops).2[i]? = none:=by
  have hi:ops.size≤i:=Array.getElem?_eq_none_iff.1 h;exact List.getElem?_eq_none (by rw [rtab_length];exact hi)
theorem readyAt_eq : readyAt (rtab md ops).2 l.toList i=(!l.getD i true && ((ops[i]?).map (·.after.all fun e => !Region.binds md e || l.getD e.on false)).getD false):=by
  unfold readyAt;rw [gd];cases h:ops[i]? with
  | none=>rw [rtab_none h];rfl
  | some o =>
    rw [rtab_some h];simp only [Option.map_some,Option.getD_some];rw [← needs_all];simp only [gd]
theorem ready_eq : Region.ready md ops l=readyT (rtab md ops).2 l.toList:=by
  unfold Region.ready readyT;rw [rtab_length];refine List.filter_congr (fun i _=>?_);rw [readyAt_eq]
theorem free_eq : Region.free md ops l i=freeT (rtab md ops).2 l.toList i:=by
  unfold Region.free freeT;cases h:ops[i]? with
  | none=>rw [rtab_none h]
  | some oi =>
    rw [rtab_some h];simp only [clashOf];rw [List.all_filter]
    congr 1
    funext j
    rw [gd];cases hj:ops[j]? with
    | none=>cases (j == i)<;>cases (l.toList.getD j true)<;>simp
    | some oj =>
      cases (j == i)<;>cases (l.toList.getD j true)<;>cases (oj.after.any (fun e=>Region.binds md e && e.on == i) || oi.apart ops oj)<;>simp_all
theorem closed_eq : Region.closedB md ops l=closedT (rtab md ops).2 l.toList:=by
  unfold Region.closedB closedT;rw [rtab_length]
  congr 1
  funext j
  rw [gd];cases h:ops[j]? with
  | none=>rw [rtab_none h]
  | some o =>
    rw [rtab_some h];simp only;rw [← needs_all];simp only [gd]
theorem reach_eq : ∀ (fuel d:Nat),Region.reachB md ops i fuel d=reachT (rtab md ops).2 i fuel d
  | 0,_=>rfl
  | fuel+1,d=>by
    unfold Region.reachB reachT;cases h:ops[d]? with
    | none=>rw [rtab_none h]
    | some o =>
      rw [rtab_some h];simp only;rw [← needs_any]
      congr 1
      funext e
      rw [reach_eq fuel]
theorem last_eq : Region.lastB md ops l ds i=lastT (rtab md ops).2 l.toList ds i:=by
  unfold Region.lastB lastT;rw [rtab_length]
  congr 1
  funext d
  rw [gd,reach_eq]
theorem readyAt_mem (h : readyAt T.2 l.toList i=true) (hT:rtab md ops=T):(Region.ready md ops l).contains i=true:=by
  subst hT;rw [ready_eq];unfold readyT;rw [List.contains_iff_mem,List.mem_filter,List.mem_range];refine ⟨?_,h⟩;unfold readyAt at h
  rw [Bool.and_eq_true] at h
  cases hq:(rtab md ops).2[i]? with
  | none=>rw [hq] at h;simp at h
  | some r=>exact (List.getElem?_eq_some_iff.1 hq).1
theorem set_of (h : (l.toList.set i true == l'.toList)=true):(l.setIfInBounds i true == l')=true:=by
  rw [beq_iff_eq] at h ⊢
  apply Array.ext';rw [Array.toList_setIfInBounds];exact h
def anyT (T : Bool × List (List Nat × List Nat)) (l l':List Bool) (i:Nat):Bool:=T.1 && freeT T.2 l i && readyAt T.2 l i && (l.set i true == l')
theorem j1y (hT : rtab md ops=T) (h:anyT T l.toList l'.toList i=true):anyB md ops l l' i=true:=by
  simp only [anyT,Bool.and_eq_true] at h
  obtain ⟨⟨⟨h1,h2⟩,h3⟩,h4⟩:=h;have h5:=readyAt_mem h3 hT;have h6:=set_of h4;subst hT;simp only [anyB,Bool.and_eq_true];exact ⟨⟨⟨h1,by rw [free_eq];exact h2⟩,h5⟩,h6⟩
def takeT (T : Bool × List (List Nat × List Nat)) (ds:List Nat) (l l':List Bool) (i:Nat):Bool:=T.1 && freeT T.2 l i && readyAt T.2 l i && closedT T.2 l && lastT T.2 l ds i && (l.set i true == l')
theorem take_of (hT : rtab md ops=T) (h:takeT T ds l.toList l'.toList i=true):takeB md ops ds l l' i=true:=by
  simp only [takeT,Bool.and_eq_true] at h
  obtain ⟨⟨⟨⟨⟨h1,h2⟩,h3⟩,h4⟩,h5⟩,h6⟩:=h;have h7:=readyAt_mem h3 hT;have h8:=set_of h6;subst hT;simp only [takeB,Bool.and_eq_true];exact ⟨⟨⟨⟨⟨h1,by rw [free_eq];exact h2⟩,h7⟩,by rw [closed_eq];exact h4⟩,by rw [last_eq];exact h5⟩,h8⟩
theorem one_of (hT : rtab md ops=T) (h:(readyT T.2 l.toList == [i] && l.toList.set i true == l'.toList)=true):readyB md ops l l' i=true:=by
  simp only [Bool.and_eq_true] at h
  obtain ⟨h1,h2⟩:=h;subst hT;simp only [readyB,Bool.and_eq_true];exact ⟨by rw [ready_eq];exact h1,set_of h2⟩
theorem done_of (hT : rtab md ops=T) (h:(readyT T.2 l.toList == [])=true):(Region.ready md ops l == [])=true:=by
  subst hT;rw [ready_eq];exact h
def upM (B : List Nat) (d:Nat):List Nat→Nat
  | []=>0
  | n :: r=>(2 ^ n ||| (if n<d then B.getD n 0 else 0)) ||| upM B d r
def waitsOk (T : List (List Nat × List Nat)) (B:List Nat):Bool:=(List.range T.length).all fun d=>match T[d]? with
  | some r=>(B.getD d 0 ||| upM B d r.1) == upM B d r.1
  | none=>false
theorem upM_bit {B : List Nat} {d i:Nat}:∀ {ns:List Nat},(upM B d ns).testBit i=true→∃ n ∈ ns,n=i∨(n<d∧(B.getD n 0).testBit i=true)
  | [],h=>by simp [upM] at h
  | n :: r,h=>by
    unfold upM at h
    rw [Nat.testBit_or,Nat.testBit_or,Bool.or_eq_true,Bool.or_eq_true] at h
    rcases h with (h|h)|h
    · rw [Nat.testBit_two_pow] at h
      exact ⟨n,List.mem_cons_self, .inl (by simpa using h)⟩
    · by_cases hn:n<d
      · rw [if_pos hn] at h
        exact ⟨n,List.mem_cons_self, .inr ⟨hn,h⟩⟩
      · rw [if_neg hn] at h
        simp at h
    · obtain ⟨m,hm,h2⟩:=upM_bit h
      exact ⟨m,List.mem_cons_of_mem _ hm,h2⟩
theorem reach_bit {T : List (List Nat × List Nat)} {B:List Nat} (hB:waitsOk T B=true):∀ (fuel d:Nat),d<fuel→d<T.length→(B.getD d 0).testBit i=true→reachT T i fuel d=true
  | 0,d,h,_,_=>by omega
  | fuel+1,d,h,hd,hb=>by
    have h1:=List.all_eq_true.1 hB d (List.mem_range.2 hd);cases hr:T[d]? with
    | none=>rw [hr] at h1;simp at h1
    | some r =>
      rw [hr] at h1;simp only [beq_iff_eq] at h1;have h2:(upM B d r.1).testBit i=true:=by rw [← h1,Nat.testBit_or,hb,Bool.true_or]
      obtain ⟨n,hn,h3⟩:=upM_bit h2;unfold reachT;rw [hr];simp only;rw [List.any_eq_true];refine ⟨n,hn,?_⟩;rcases h3 with rfl|⟨h4,h5⟩
      · simp
      · rw [reach_bit hB fuel n (by omega) (by omega) h5,Bool.or_true]
def lastW (T : List (List Nat × List Nat)) (B:List Nat) (l:List Bool) (ds:List Nat) (i:Nat):Bool:=ds.all fun d=>l.getD d true || (decide (d<T.length) && (B.getD d 0).testBit i)
def takeW (T : Bool × List (List Nat × List Nat)) (B:List Nat) (ds:List Nat) (l l':List Bool) (i:Nat):Bool:=T.1 && freeT T.2 l i && readyAt T.2 l i && closedT T.2 l && lastW T.2 B l ds i && (l.set i true == l')
theorem take_ofW {B : List Nat} (hT:rtab md ops=T) (hB:waitsOk T.2 B=true) (h:takeW T B ds l.toList l'.toList i=true):takeB md ops ds l l' i=true:=by
  refine take_of hT ?_;simp only [takeW,takeT,Bool.and_eq_true] at h ⊢
  obtain ⟨⟨⟨⟨⟨h1,h2⟩,h3⟩,h4⟩,h5⟩,h6⟩:=h;refine ⟨⟨⟨⟨⟨h1,h2⟩,h3⟩,h4⟩,?_⟩,h6⟩;unfold lastW at h5;unfold lastT;rw [List.all_eq_true] at h5 ⊢;intro d hd;have h7:=h5 d hd;rw [Bool.or_eq_true,Bool.and_eq_true,decide_eq_true_eq] at h7;rcases h7 with h7|⟨h8,h9⟩
  · rw [h7,Bool.true_or]
  · rw [reach_bit hB _ d h8 h8 h9,Bool.or_true]
theorem with_tabW {P : Program} {Q:Exit→Act→World→Prop} {S:World→Prop} {n:Nat} {a:Act} {w:World} {B:List Nat} (hT:rtab md ops=T) (hB:waitsOk T.2 B=true) (h:Aside0 (rtab md ops=T)→Aside0 (waitsOk T.2 B=true)→wpAnyLast P md ops Q S ds n l a w):wpAnyLast P md ops Q S ds n l a w:=h ⟨hT⟩ ⟨hB⟩
end
def opsIn : Code → Nat→Option (Array Oper)
  | .region id ops _,k=>if id == k then some ops else none
  | .seq a b,k=>match opsIn a k with
    | some o=>some o
    | none=>opsIn b k
  | .cond _ a b,k=>match opsIn a k with
    | some o=>some o
    | none=>opsIn b k
  | .block _ c,k=>opsIn c k
  | .loop c,k=>opsIn c k
  | .scope c,k=>opsIn c k
  | .rangeFunc _ _ a b,k=>match opsIn a k with
    | some o=>some o
    | none=>opsIn b k
  | _,_=>none
def opsOf (f : Func) (k:Nat):Array Oper:=((f.body.bind fun c=>opsIn c k)).getD #[]
end Go.Proofs.YtchhndbekjgimaaDoorW.PrintLast
end
section
namespace Go.Proofs.YtchhndbekjgimaaDoorW.PrintWords
open Go.RowKit
namespace Kd
def tag {α : Type} (f:Nat→Nat) (d:Kd α):Kd (α × Nat) where
  sz:=d.sz
  E:=d.E
  K:=fun w x cs=>d.K w x.1 cs
  M:=fun w base ok x cs=>d.M w base (fun k=>ok k∧f k=x.2) x.1 cs
  K_len:=fun h=>d.K_len h
  K_one:=fun h=>d.K_one h
  K_below:=fun hb h=>d.K_below hb h
  K_of_M:=fun h=>d.K_of_M h
  M_mono:=fun hok h=>d.M_mono (fun k hk=>⟨hok k hk.1,hk.2⟩) h
  M_bound:=fun h=>d.M_mono (fun _ hk=>⟨⟨hk.1.1,hk.2⟩,hk.1.2⟩) (d.M_bound h)
  M_move:=fun hm h=>d.M_move (fun k hk=>hm k hk.1) h
  M_lower:=fun hb h=>d.M_lower hb h
def raw (sz : Nat):Kd (List Value) where
  sz:=sz
  E:=[]
  K:=fun _ x cs=>cs=x∧cs.length=sz∧∀ u ∈ cs,u.oneCell'=true
  M:=fun _ _ _ x cs=>cs=x∧cs.length=sz∧∀ u ∈ cs,u.oneCell'=true
  K_len:=fun h=>h.2.1
  K_one:=fun h=>h.2.2
  K_below:=fun _ h=>h
  K_of_M:=fun h=>h
  M_mono:=fun _ h=>h
  M_bound:=fun h=>h
  M_move:=fun _ h=>h
  M_lower:=fun _ h=>h
def S {α : Type} (d:Kd α) (e:Nat) (w:World) (base:Nat) (ok:Nat→Prop) (v:Value) (xs:List α):Prop:=∃ f,(tag f d).R e w base ok v xs.zipIdx
section
variable {α β : Type} {d:Kd α} {d':Kd β} {e e':Nat} {w w1 W:World} {base b:Nat} {ok ok' okv oku:Nat→Prop} {u v:Value} {xs:List α} {ys:List β}
theorem R_tight (hE : d.E=[]) (h:d.R e w base ok v xs):d.R e w base (fun k=>some k=v.ownBlock) v xs:=by
  obtain ⟨h0,inner,ho,hr⟩:=h;refine ⟨fun k hk=>hk.symm,inner,ho,hr.imp_ (fun p c hp=>d.M_mono (fun k hk=>?_) (d.M_bound hp))⟩;obtain ⟨_,_,_,q,hq,_⟩:=hk;rw [hE] at hq;cases hq
theorem S_nil (d : Kd α) (e:Nat) (w:World) (base:Nat) (ok:Nat→Prop):S d e w base ok (.slice none 0 0) []:=⟨fun _=>0,R_nil _ _ _ _ _⟩
end
section
variable {α β : Type} {d:Kd α} {d':Kd β} {e e' g:Nat} {w w1 W:World} {base b:Nat} {ok ok' okv oku:Nat→Prop} {u v:Value} {xs:List α} {ys:List β}
end
section
variable {P : Program} {ops:Array Oper} {rest:List Oper} {o:Oper} {a:Act} {Q:Exit→Act→World→Prop} {Kc:Act→World→Prop} {α:Type}
end
def gap {α : Type} (f:Nat→Nat) (d:Kd α) (i:Nat) (c:List Value):Kd (α × Nat) where
  sz:=d.sz
  E:=d.E
  K:=fun w x cs=>(x.2=i→cs=c∧cs.length=d.sz∧∀ u ∈ cs,u.oneCell'=true)∧(x.2≠i→d.K w x.1 cs)
  M:=fun w base ok x cs=>(x.2=i→cs=c∧cs.length=d.sz∧∀ u ∈ cs,u.oneCell'=true)∧(x.2≠i→d.M w base (fun k=>ok k∧f k=x.2) x.1 cs)
  K_len:=fun {w x cs} h=>by
    by_cases hx:x.2=i
    · exact (h.1 hx).2.1
    · exact d.K_len (h.2 hx)
  K_one:=fun {w x cs} h=>by
    by_cases hx:x.2=i
    · exact (h.1 hx).2.2
    · exact d.K_one (h.2 hx)
  K_below:=fun hb h=>⟨h.1,fun hx=>d.K_below hb (h.2 hx)⟩
  K_of_M:=fun h=>⟨h.1,fun hx=>d.K_of_M (h.2 hx)⟩
  M_mono:=fun hok h=>⟨h.1,fun hx=>d.M_mono (fun k hk=>⟨hok k hk.1,hk.2⟩) (h.2 hx)⟩
  M_bound:=fun h=>⟨h.1,fun hx=>d.M_mono (fun _ hk=>⟨⟨hk.1.1,hk.2⟩,hk.1.2⟩) (d.M_bound (h.2 hx))⟩
  M_move:=fun hm h=>⟨h.1,fun hx=>d.M_move (fun k hk=>hm k hk.1) (h.2 hx)⟩
  M_lower:=fun hb h=>⟨h.1,fun hx=>d.M_lower hb (h.2 hx)⟩
def H {α : Type} (d:Kd α) (e:Nat) (w:World) (base:Nat) (ok:Nat→Prop) (v:Value) (xs:List α) (i:Int) (oki:Nat→Prop) (c:List Value):Prop :=
  (∀ k,oki k→ok k)∧∃ f,(gap f d i.toNat c).R e w base (fun k=>ok k∧¬ oki k) v xs.zipIdx
section
variable {α β : Type} {d:Kd α} {e e' g n cap:Nat} {w w1 W:World} {base:Nat} {ok ok' oki okp:Nat→Prop} {u v:Value} {xs:List α} {i:Int} {c:List Value}
end
section
variable {P : Program} {ops:Array Oper} {rest:List Oper} {o:Oper} {a:Act} {Q:Exit→Act→World→Prop} {α:Type}
end
end Kd
end Go.Proofs.YtchhndbekjgimaaDoorW.PrintWords
end
section
namespace Go.Proofs.YtchhndbekjgimaaDoorW.PrintWords
open Go.RowKit
namespace Kd
theorem reps_one {α : Type} {R:α→List Value→Prop} {size:Nat} {ps:List α} {cs:List Value} (h:Reps R size ps cs) (hs0:0<size) (hR:∀ p c,R p c→∀ u ∈ c,u.oneCell'=true):∀ u ∈ cs,u.oneCell'=true:=by
  intro u hu;obtain ⟨q,hq,rfl⟩:=List.mem_iff_getElem.1 hu
  have hql:q / size<ps.length:=by
    rw [Nat.div_lt_iff_lt_mul hs0,← h.1];exact hq
  refine hR _ _ (h.2 (q / size) _ (List.getElem?_eq_getElem hql)) _ ?_;rw [List.mem_iff_getElem?];refine ⟨q % size,?_⟩;rw [List.getElem?_take,if_pos (Nat.mod_lt _ hs0),List.getElem?_drop,Nat.mul_comm,Nat.div_add_mod,List.getElem?_eq_getElem hq]
section
variable {α : Type} {n:Nat} {d:Kd α} {hs:0<d.sz} {w:World} {base:Nat} {ok:Nat→Prop} {xs:List α} {cs:List Value}
end
section
variable {α : Type} {n:Nat} {enc:α→Value} {h1:∀ x,(enc x).oneCell'=true} {hs:0<(scalar enc h1).sz} {w:World} {base:Nat} {ok:Nat→Prop} {xs:List α} {cs:List Value}
end
end Kd
end Go.Proofs.YtchhndbekjgimaaDoorW.PrintWords
end
section
namespace Go.Proofs.YtchhndbekjgimaaDoorW.PrintWords
open Go.RowKit
section
variable {P : Program}
theorem run_append_zeros (w : World) (base:Nat) (t ti ty e:TypeId) (i:TypeInfo) (z:Value) (size bytes:Nat) (ht:P.underlying t=some (.slice e)) {k:IntKind} (hti:P.underlying ti=some (.int k)) (hi:P.info? e=some i) (hz:i.zero=some z)
    (hsize:i.size=size) (hby:i.bytes=bytes) (hzs:z.cells.size=size) (hsz:0<size) (hb0:0<bytes)
    (v:Value) (n:Nat) (xs:List Value) (hown:w.ownsRow base e size v n xs) (kx:IntKind) (m:Nat) (h1:∀ u ∈ (Builtin.zeroCells z.cells m).toList,u.oneCell'=true)
    (hbytes:(n+m)*bytes≤140737488355328) (hbase:base≤w.heap.size) :
    ∃ v' w',(Builtin.append_ #[t,ti] ty #[v, .int kx m]).run P w = .ok v' w'∧w'.ownsRow base e size v' (n+m) (xs++(Builtin.zeroCells z.cells m).toList)∧w.grownBy w' v.ownBlock ∧
      (v'.ownBlock=v.ownBlock∨v'.ownBlock=some w.heap.size):=by
  subst hsize;subst hby
  have hle:n+m≤140737488355328:=Nat.le_trans (Nat.le_mul_of_pos_right _ hb0) hbytes;have h63:n+m≤maxLen:=by simp only [maxLen];omega
  have hw:IntKind.i64.wrap (m:Int)=m:=by rw [IntKind.wrap_i64];omega
  have hw0:IntKind.i64.wrap 0=0:=by rw [IntKind.wrap_i64];rfl
  have hneg:¬ ((m:Int)<0):=by omega
  have hmb:m*i.bytes≤140737488355328:=Nat.le_trans (Nat.mul_le_mul_right _ (Nat.le_add_left m n)) hbytes
  have hbig:¬ (281474976710656<(m:Int)*(i.bytes:Int)):=by
    rw [← Int.natCast_mul];omega
  have hsn:i.size≠0:=by omega
  obtain ⟨news,hnews⟩:∃ news,news=(Builtin.zeroCells z.cells m).toList:=⟨_,rfl⟩;rw [← hnews] at h1 ⊢;have hl:news.length=m*i.size:=by rw [hnews,Array.length_toList,size_zeroCells,hzs]
  have hna:Builtin.zeroCells z.cells m=news.toArray:=by rw [hnews]
  have hlen:(xs++news).length=(n+m)*i.size:=by rw [List.length_append,hown.1,hl,Nat.add_mul]
  have hnil:m=0→news=[]:=fun h=>List.eq_nil_of_length_eq_zero (by rw [hl,h,Nat.zero_mul])
  have grown:∀ (old:Nat),old<n+m→∀ (row:Option Nat),
      (w.drew.alloc (.cells (xs.toArray++news.toArray++Builtin.zeroCells z.cells (grownCap w (n+m) old e - (n+m))) e)).ownsRow base e i.size
        (.slice (some ⟨w.heap.size,0,none⟩) (n+m) (grownCap w (n+m) old e)) (n+m) (xs++news) ∧
      w.grownBy (w.drew.alloc (.cells (xs.toArray++news.toArray++Builtin.zeroCells z.cells (grownCap w (n+m) old e - (n+m))) e)) row:=by
    intro old ho row;have hge:=grownCap_ge w (n+m) old e;have hcm:grownCap w (n+m) old e≤maxLen:=grownCap_le_maxLen w (n+m) old e h63;refine ⟨⟨hlen, .inr ⟨w.heap.size,_,_,rfl,hbase,heap_alloc_new w.drew _,hge,hcm,?_,?_⟩⟩,⟨rfl,rfl,rfl,by simp,fun k hk _=>heap_alloc_old w.drew _ hk⟩⟩
    · simp only [Array.size_append,List.size_toArray,size_zeroCells,hzs,hown.1,hl,← Nat.add_mul]
      congr 1
      omega
    · simp only [Array.toList_append,List.append_assoc]
      rw [← List.append_assoc,← hlen];exact List.take_left
  have runs:∀ (A:Option Addr) (cap:Nat),cap<n+m→(Builtin.firstCells i.size n (.slice A n cap)).run P w.drew = .ok xs.toArray w.drew→(Builtin.append_ #[t,ti] ty #[.slice A n cap, .int kx m]).run P w =
      .ok (.slice (some ⟨w.heap.size,0,none⟩) (n+m) (grownCap w (n+m) cap e)) (w.drew.alloc (.cells (xs.toArray++news.toArray++Builtin.zeroCells z.cells (grownCap w (n+m) cap e - (n+m))) e)):=by
    intro A cap hcap hfo;have hn:¬ (n+m≤cap):=by omega
    have h63':¬ (9223372036854775807<((n:Int)+(m:Int))):=by omega
    have hfit:=growslice_fits hcap hbytes;have h48':¬ (281474976710656<Builtin.nextslicecap (n+m) cap*i.bytes):=by omega
    by_cases hm:m=0
    · have hnl:=hnil hm
      subst hm;rw [hnl];simp only [Nat.add_zero] at hn h63' h48' ⊢;have h63'':¬ (9223372036854775807<(n:Int)):=by omega
      simp [Builtin.append_,run_underlying ht,run_underlying hti,sizeOf,typeInfo,zeroValue,hi,hz,asInt,asIntOf,hw0,hn,h63'',h48',Question.forced,hfo,newRow,grownCap]
    · have hmz:¬ (m*i.size=0):=Nat.mul_ne_zero hm hsn
      simp [Builtin.append_,run_underlying ht,run_underlying hti,sizeOf,typeInfo,zeroValue,hi,hz,asInt,asIntOf,hw,hneg,hbig,hn,h63',h48',Question.forced,hfo,newRow,grownCap,hmz,hna]
      congr 2
      apply Array.ext';simp [List.append_assoc]
  rcases hown.2 with ⟨rfl,rfl⟩|⟨g,cap,cur,rfl,hbg,hg,hnc,hcm,hcs,htake⟩
  · have hx:xs=[]:=List.eq_nil_of_length_eq_zero (by simpa using hown.1)
    subst hx;by_cases hm:m=0
    · have hnl:=hnil hm
      subst hm;rw [hnl];refine ⟨.slice none 0 0,w,?_,World.ownsRow_nil w base e i.size,⟨rfl,rfl,rfl,Nat.le_refl _,fun _ _ _=>rfl⟩,Or.inl rfl⟩;simp [Builtin.append_,run_underlying ht,run_underlying hti,sizeOf,typeInfo,hi,asInt,asIntOf,hw0]
    · have hgr:=grown 0 (by omega) (Value.ownBlock (.slice none 0 0))
      exact ⟨_,_,runs none 0 (by omega) (by simp [Builtin.firstCells]),hgr.1,hgr.2,Or.inr rfl⟩
  · by_cases hroom:n+m≤cap
    · have hfit:n*i.size+news.length≤cur.size:=by rw [hl,hcs,← Nat.add_mul];exact Nat.mul_le_mul_right _ hroom
      obtain ⟨cur',h3,h4,h5⟩:=setCells_row news (n*i.size) w cur hg hfit;obtain ⟨s1,s2,s3,s4⟩:=setCells_same g news (n*i.size) w;have hst:=run_storeCells_cells (P:=P) g (n*i.size) news 0 w (fun j hj=>by rw [cell_of_row w g _ cur e (0,0) hg];simp;omega) (fun j _=>j1e hg _) h1;simp only [Nat.add_zero] at hst;refine ⟨.slice (some ⟨g,0,none⟩) (n+m) cap,w.setCells g (n*i.size) news,?_,⟨hlen, .inr ⟨g,cap,cur',rfl,hbg,h3,hroom,hcm,by rw [h4,hcs],?_⟩⟩,⟨s1,s2,s3,by rw [s4];exact Nat.le_refl _,fun k _ hk=>setCells_far news _ k (fun e=>hk (by simp [Value.ownBlock,e]))⟩,Or.inl rfl⟩
      · by_cases hm:m=0
        · have hnl:=hnil hm
          subst hm;rw [hnl] at hst ⊢;simp [Builtin.append_,run_underlying ht,run_underlying hti,sizeOf,typeInfo,hi,asInt,asIntOf,hw0,hnc,add_plain,hst]
        · have hmz:¬ (m*i.size=0):=Nat.mul_ne_zero hm hsn
          simp [Builtin.append_,run_underlying ht,run_underlying hti,sizeOf,typeInfo,zeroValue,hi,hz,asInt,asIntOf,hw,hneg,hbig,hroom,hmz,hna,add_plain,hst]
      · rw [h5]
        have h6:cur.toList.take (n*i.size)=xs:=htake;rw [h6,← hlen];exact List.take_left
    · have holds:∀ j u,xs[j]? = some u→w.cell? ((⟨g,0,none⟩:Addr).add j)=some u:=hown.cells (g:=g) rfl
      have hgr:=grown cap (by omega) (Value.ownBlock (.slice (some ⟨g,0,none⟩) n cap));exact ⟨_,_,runs (some ⟨g,0,none⟩) cap (by omega) (run_firstCells_some (P:=P) w.drew i.size n _ n cap xs hown.1 (by simpa using holds)),hgr.1,hgr.2,Or.inr rfl⟩
end
namespace Kd
theorem reps_zeros {α : Type} {R:α→List Value→Prop} {z:Value} {size:Nat} {z0:α} (hz:z.cells.size=size) (hs:0<size) (h0:R z0 z.cells.toList) (m:Nat):Reps R size (List.replicate m z0) (Builtin.zeroCells z.cells m).toList:=by
  have h:=reps_made hz hs h0 m;rw [show Builtin.zeroCells z.cells m=madeCells z.cells (m*size) by unfold Builtin.zeroCells madeCells;rw [hz]];exact h
section
variable {P : Program} {ops:Array Oper} {rest:List Oper} {o:Oper} {a:Act} {Q:Exit→Act→World→Prop} {Kc:Act→World→Prop} {α:Type}
theorem R_zeros_run (d : Kd α) {W:World} (base:Nat) (t ti ty e:TypeId) (z:Value) (bytes:Nat) (ht:P.underlying t=some (.slice e)) {k:IntKind} (hti:P.underlying ti=some (.int k)) (hinfo:(P.info? e).map (fun i=>(i.zero,i.size,i.bytes))=some (some z,d.sz,bytes)) (hz:z.cells.size=d.sz) (hs0:0<d.sz) (hb0:0<bytes)
    (v:Value) (xs:List α) (z0:α) {ok:Nat→Prop} (hzero:d.M W base (fun _=>False) z0 z.cells.toList) (hfresh:∀ k,W.heap.size≤k→ok k) (HO:d.R e W base ok v xs) (kx:IntKind) (n:Int) (h0:0≤n) (hl:(xs.length+n.toNat)*bytes≤140737488355328) (hbase:base≤W.heap.size) :
    ∃ v1 w1,(Builtin.append_ #[t,ti] ty #[v, .int kx n]).run P W = .ok v1 w1∧d.R e w1 base ok v1 (xs++List.replicate n.toNat z0)∧W.grownBy w1 v.ownBlock∧(v1.ownBlock=v.ownBlock∨∃ b,v1.ownBlock=some b∧W.heap.size≤b):=by
  obtain ⟨m,rfl⟩:=Int.eq_ofNat_of_zero_le h0;simp only [Int.toNat_natCast] at hl ⊢;obtain ⟨i0,hi,hzz⟩:=Option.map_eq_some_iff.1 hinfo;simp only [Prod.mk.injEq] at hzz;obtain ⟨hz0,hz1,hz2⟩:=hzz;obtain ⟨hok,inner,hown,hr⟩:=HO;have hnM:Reps (d.M W base (fun _=>False)) d.sz (List.replicate m z0) (Builtin.zeroCells z.cells m).toList:=reps_zeros hz hs0 hzero m;obtain ⟨v1,w1,hrun,h2,hg,hat⟩:=run_append_zeros (P:=P) W base t ti ty e i0 z d.sz bytes ht hti hi hz0 hz1 hz2 hz hs0 hb0 v xs.length inner hown kx m (reps_one hnM hs0 (fun _ _ hp=>d.K_one (d.K_of_M hp))) hl hbase
  have hat':v1.ownBlock=v.ownBlock∨∃ b,v1.ownBlock=some b∧W.heap.size≤b:=by
    rcases hat with hat|hat
    · exact .inl hat
    · exact .inr ⟨_,hat,Nat.le_refl _⟩
  have hne:∀ k,some k≠v.ownBlock→k<W.heap.size→some k≠v1.ownBlock:=by
    intro k hk hlt;rcases hat' with hat|⟨b,hb,hle⟩
    · rw [hat];exact hk
    · rw [hb]
      intro he;injection he with he
      omega
  have step:∀ {q:α} {c:List Value} {o:Nat→Prop},d.M W base o q c→(∀ k,o k→ok k∧some k≠v.ownBlock)→d.M w1 base (fun k=>ok k∧some k≠v1.ownBlock) q c:=by
    intro q c o hq ho;have h1:=d.M_move (w1:=w1) (fun k hk=>hg.block k hk.2.2.1 (ho k hk.1).2) (d.M_bound hq);exact d.M_mono (fun k hk=>⟨(ho k hk.1).1,hne k (ho k hk.1).2 hk.2.2.1⟩) h1
  refine ⟨v1,w1,hrun,⟨fun k hk=>?_,inner++(Builtin.zeroCells z.cells m).toList,by rw [List.length_append,List.length_replicate];exact h2,reps_append (hr.imp_ (fun _ _ hq=>step hq (fun _ hk=>hk))) (hnM.imp_ (fun _ _ hq=>step hq (fun _ hk=>hk.elim)))⟩,hg,hat'⟩;rcases hat' with hat|⟨b,hb,hle⟩
  · exact hok k (hat ▸ hk)
  · rw [hb] at hk
    injection hk with hk
    exact hfresh k (by omega)
theorem R_append_zeros (d : Kd α) {w0 W:World} (base:Nat) (hgd:o.guard=none) (s x:Operand) (t ti e:TypeId) (z:Value) (bytes:Nat)
    (ho:o.op = .call { callee := .builtin .append,args:=#[s,x],argTypes:=#[t,ti] })
    (ht:P.underlying t=some (.slice e)) {k:IntKind} (hti:P.underlying ti=some (.int k)) (hinfo:(P.info? e).map (fun i=>(i.zero,i.size,i.bytes))=some (some z,d.sz,bytes)) (hz:z.cells.size=d.sz) (hs0:0<d.sz) (hb0:0<bytes)
    (v:Value) (xs:List α) (z0:α) {kx:IntKind} (n:Int) (ok:Nat→Prop) (hs:a.eval s=v) (hx:a.eval x = .int kx n) (hzero:d.M W base (fun _=>False) z0 z.cells.toList) (hfresh:∀ k,W.heap.size≤k→ok k)
    (HO:d.R e W base ok v xs) (h0:0≤n) (HB:Below base w0 W) (hbase:base≤W.heap.size) (hl:(xs.length+n.toNat)*bytes≤140737488355328)
    (h:∀ v1 w1,d.R e w1 base ok v1 (xs++List.replicate n.toNat z0)→Below base w0 w1→W.grownBy w1 v.ownBlock→(v1.ownBlock=v.ownBlock∨∃ b,v1.ownBlock=some b∧W.heap.size≤b)→wpList P ops Q rest (a.put o.dst v1) w1) :
    wpList P ops Q (o :: rest) a W:=by
  obtain ⟨v1,w1,hr1,h1,hg,hat⟩:=R_zeros_run (P:=P) d base t ti o.type e z bytes ht hti hinfo hz hs0 hb0 v xs z0 hzero hfresh HO kx n h0 hl hbase;refine wpList_plain hgd fun K hK=>?_
  unfold Oper.wp execOp;simp only [ho,resolve,invoke,builtin,Sem.run_bind,Sem.run_pure,Result.andThen_ok,List.map_toArray,List.map_cons,List.map_nil,hs,hx,hr1];exact hK _ _ (h v1 w1 h1 (HB.grown hg hbase (R_base HO)) hg hat)
end
section
variable {α : Type} {d:Kd α} {e:Nat} {w:World} {base:Nat} {ok:Nat→Prop} {v:Value} {xs:List α}
end
section
variable {P : Program} {ops:Array Oper} {rest:List Oper} {o:Oper} {a:Act} {Q:Exit→Act→World→Prop} {Kc:Act→World→Prop} {α:Type}
end
end Kd
end Go.Proofs.YtchhndbekjgimaaDoorW.PrintWords
end
section
namespace Go.Proofs.YtchhndbekjgimaaDoorW.PrintWords
open Go.RowKit
namespace Kd
structure Heap {α : Type} (d:Kd α):Prop where
  K:∀ {w w1:World} {x:α} {cs:List Value},(∀ k,k<w.heap.size→w1.heap[k]? = w.heap[k]?)→d.K w x cs→d.K w1 x cs
theorem cell_heap {w w1 : World} (hb:∀ k,k<w.heap.size→w1.heap[k]? = w.heap[k]?) {a:Addr} {v:Value} (h:w.cell? a=some v):w1.cell? a=some v:=by
  have:=hb a.block (World.block_lt_of_cell? w a h)
  simpa [World.cell?,this] using h
theorem Heap.C {α : Type} {d:Kd α} (hd:Heap d) {w w1:World} {A:Option Addr} {n:Nat} {xs:List α} (hb:∀ k,k<w.heap.size→w1.heap[k]? = w.heap[k]?) (h:d.C w A n xs):d.C w1 A n xs :=
  ⟨h.1,h.2.1,fun hn=>by
    obtain ⟨ad,e,hc⟩:=h.2.2 hn;refine ⟨ad,e,fun j p hj=>?_⟩;obtain ⟨c,hs,hr,hcell⟩:=hc j p hj;exact ⟨c,hs,hd.K hb hr,fun i u hu=>cell_heap hb (hcell i u hu)⟩⟩
section
variable {α : Type} {d:Kd α} {e base g n c:Nat} {ok:Nat→Prop} {w w0 W:World} {A:Option Addr} {xs:List α}
end
end Kd
end Go.Proofs.YtchhndbekjgimaaDoorW.PrintWords
end
section
namespace Go.Proofs.YtchhndbekjgimaaDoorW.PrintWords
open Go.RowKit
def Kept (w W : World) (S:Nat→Prop):Prop:=w.heap.size≤W.heap.size∧∀ i,i<w.heap.size→¬ S i→W.heap[i]? = w.heap[i]?
section
variable {w W W2 : World} {S S2 S':Nat→Prop}
theorem Kept.refl (w : World) (S:Nat→Prop):Kept w w S:=⟨Nat.le_refl _,fun _ _ _=>rfl⟩
theorem Kept.of_below (h : Below w.heap.size w W) (S:Nat→Prop):Kept w W S:=⟨h.size,fun i hi _=>h.block i hi⟩
theorem Kept.mono (h : Kept w W S) (hs:∀ k,S k→S' k):Kept w W S':=⟨h.1,fun i hi hn=>h.2 i hi (fun hk=>hn (hs i hk))⟩
theorem Kept.then_ (h : Kept w W S) (k:Kept W W2 S2) (hs:∀ k,S2 k→S k∨w.heap.size≤k):Kept w W2 S :=
  ⟨Nat.le_trans h.1 k.1,fun i hi hn=>(k.2 i (Nat.lt_of_lt_of_le hi h.1) (fun h2=>(hs i h2).elim hn (fun h3=>by omega))).trans (h.2 i hi hn)⟩
theorem Kept.of_grown {row : Option Nat} (hg:W.grownBy W2 row) (h:Kept w W S) (hr:∀ k,row=some k→S k∨w.heap.size≤k):Kept w W2 S :=
  h.then_ (S2:=fun k=>row=some k) ⟨hg.size,fun i hi hn=>hg.block i hi (fun he=>hn he.symm)⟩ hr
theorem Kept.below (h : Kept w W S) (hb:Below W.heap.size W W2):Kept w W2 S:=h.then_ (Kept.of_below hb (fun _=>False)) (fun _ hk=>hk.elim)
theorem Kept.alloc (h : Kept w W S) (o:Obj):Kept w (W.alloc o) S:=h.below (j1i (Below.refl _ _) o)
theorem Kept.drew (h : Kept w W S):Kept w W.drew S:=h
theorem Kept.drewN (h : Kept w W S) (m:Nat):Kept w (W.drewN m) S:=h
theorem Kept.setCell (h : Kept w W S) {p:Addr} (hp:S p.block∨w.heap.size≤p.block) (u:Value):Kept w (W.setCell p u) S :=
  h.then_ (S2:=fun k=>k=p.block) ⟨by simp [World.setCell],fun i _ hn=>Below.heap_setCell W p u i hn⟩ (fun k hk=>by rw [hk];exact hp)
end
namespace Kd
section
variable {α : Type} {d:Kd α} {e base n c:Nat} {ok oki S S2:Nat→Prop} {w w0 W W1 W2:World} {v:Value} {A:Option Addr} {xs:List α} {i:Int} {cs:List Value}
theorem R_kept (h : d.R e W base ok v xs) (hk:Kept W W2 S) (hne:∀ k,ok k→¬ S k):d.R e W2 base ok v xs:=R_step h (fun k ho hlt=>hk.2 k hlt (hne k ho))
end
end Kd
end Go.Proofs.YtchhndbekjgimaaDoorW.PrintWords
end
section
namespace Go.Proofs.YtchhndbekjgimaaDoorW.PrintWords
open Go.RowKit
def Foot (P : World→Prop) (W:World) (ok:Nat→Prop):Prop:=∀ W':World,(∀ k,ok k→k<W.heap.size→W'.heap[k]? = W.heap[k]?)→P W'
theorem heap_lt {W W1 : World} {k:Nat} (h:W1.heap[k]? = W.heap[k]?) (hlt:k<W.heap.size):k<W1.heap.size:=by
  rw [Array.getElem?_eq_getElem hlt] at h
  exact (Array.getElem?_eq_some_iff.1 h).1
namespace Foot
variable {P Q : World→Prop} {W W1:World} {ok ok':Nat→Prop}
theorem now (h : Foot P W ok):P W:=h W (fun _ _ _=>rfl)
theorem mono (h : Foot P W ok) (hok:∀ k,ok k→ok' k):Foot P W ok':=fun W' hW=>h W' (fun k hk hlt=>hW k (hok k hk) hlt)
theorem bound (h : Foot P W ok):Foot P W (fun k=>ok k∧k<W.heap.size):=fun W' hW=>h W' (fun k hk hlt=>hW k ⟨hk,hlt⟩ hlt)
theorem step (h : Foot P W ok) (hm:∀ k,ok k→k<W.heap.size→W1.heap[k]? = W.heap[k]?):Foot P W1 ok:=fun W' hW=>h W' (fun k hk hlt=>(hW k hk (heap_lt (hm k hk hlt) hlt)).trans (hm k hk hlt))
theorem old (h : Foot P W ok) (hb:Below W.heap.size W W1):Foot P W1 (fun k=>ok k∧k<W.heap.size):=(h.bound).step (fun k _ hlt=>hb.block k hlt)
end Foot
namespace Kd
def F {α : Type} (d:Kd α) (W:World) (ok:Nat→Prop) (A:Option Addr) (n:Nat) (xs:List α):Prop:=Foot (fun W=>d.C W A n xs) W ok
def FK {α : Type} (d:Kd α) (W:World) (ok:Nat→Prop) (x:α) (c:List Value):Prop:=Foot (fun W=>d.K W x c) W ok
section
variable {α β : Type} {d:Kd α} {e base n n' cc g N:Nat} {ok ok' okp S:Nat→Prop} {w w0 w1 W W1:World} {A A':Option Addr} {u v v1:Value} {xs:List α} {xs':List β} {d':Kd β} {x:α} {c:List Value}
theorem F_nil (d : Kd α) (W:World) (ok:Nat→Prop):F d W ok none ([]:List α).length []:=fun W' _=>C_nil d W'
theorem FK_of_M (h : d.M W base ok x c):FK d W ok x c:=fun _ hW=>d.K_of_M (M_step h hW)
end
end Kd
end Go.Proofs.YtchhndbekjgimaaDoorW.PrintWords
end
section
namespace Go.Proofs.YtchhndbekjgimaaDoorW.PrintWords
open Go.RowKit
namespace Kd
def chunks (sz : Nat) (n:Nat) (inner:List Value):List (List Value):=(List.range n).map fun j=>(inner.drop (j*sz)).take sz
theorem j2m (sz n : Nat) (inner:List Value):(chunks sz n inner).length=n:=by simp [chunks]
theorem chunks_at {sz n : Nat} {inner:List Value} {j:Nat} (hj:j<n):(chunks sz n inner)[j]? = some ((inner.drop (j*sz)).take sz):=by simp [chunks,hj]
theorem chunks_get {sz n : Nat} {inner:List Value} {j:Nat} {c:List Value} (h:(chunks sz n inner)[j]? = some c):c=(inner.drop (j*sz)).take sz:=by
  have hj:j<n:=by have:=(List.getElem?_eq_some_iff.1 h).1;rwa [j2m] at this
  rw [chunks_at hj] at h
  injection h with h
  exact h.symm
theorem reps_raw {α : Type} {Rr:α→List Value→Prop} {sz:Nat} {xs:List α} {inner:List Value} (h:Reps Rr sz xs inner) (hR:∀ x c,Rr x c→c.length=sz∧∀ u ∈ c,u.oneCell'=true):Reps (fun x cs=>cs=x∧cs.length=sz∧∀ u ∈ cs,u.oneCell'=true) sz (chunks sz xs.length inner) inner:=by
  refine ⟨by rw [j2m];exact h.1,fun j p hj=>?_⟩;have hjl:j<xs.length:=by have:=(List.getElem?_eq_some_iff.1 hj).1;rwa [j2m] at this
  have hp:=chunks_get hj;exact ⟨hp.symm,hR _ _ (h.2 j _ (List.getElem?_eq_getElem hjl))⟩
section
variable {α : Type} {d:Kd α} {e base n cc g:Nat} {ok ok' okp S:Nat→Prop} {w w1 W W1:World} {A:Option Addr} {u v v1:Value} {xs:List α} {x:α} {c:List Value}
def N {α : Type} (d:Kd α) (e:Nat) (w:World) (base:Nat) (ok:Nat→Prop) (v:Value) (xs:List α):Prop :=
  (∀ k,v.ownBlock=some k→ok k)∧∃ rows:List (List Value),rows.length=xs.length∧(raw d.sz).R e w base (fun k=>some k=v.ownBlock) v rows∧∀ (j:Nat) (x:α) (c:List Value),xs[j]? = some x→rows[j]? = some c→FK d w (fun k=>ok k∧some k≠v.ownBlock) x c
theorem R_N (h : d.R e w base ok v xs):N d e w base ok v xs:=by
  obtain ⟨h0,inner,ho,hr⟩:=h;refine ⟨h0,chunks d.sz xs.length inner,j2m _ _ _,⟨fun k hk=>hk.symm,inner,by rw [j2m];exact ho,reps_raw hr (fun x c hp=>⟨d.K_len (d.K_of_M hp),d.K_one (d.K_of_M hp)⟩)⟩,fun j x c hx hc=>?_⟩;rw [chunks_get hc];exact FK_of_M (hr.2 j x hx)
theorem N_nil (d : Kd α) (e:Nat) (w:World) (base:Nat) (ok:Nat→Prop):N d e w base ok (.slice none 0 0) []:=R_N (R_nil _ _ _ _ _)
end
end Kd
end Go.Proofs.YtchhndbekjgimaaDoorW.PrintWords
end
section
namespace Go.Proofs.YtchhndbekjgimaaDoorW.PrintWords
theorem Reps.one {α : Type} {R:α→List Value→Prop} {ps:List α} {cs:List Value} {p:α} {v:Value} (hp:R p [v]) (h:Reps R 1 ps cs):Reps R 1 (p :: ps) (v :: cs):=by
  refine ⟨by simp [h.1],fun j q hq=>?_⟩;cases j with
  | zero =>
    simp only [List.getElem?_cons_zero,Option.some.injEq] at hq;subst hq
    simpa using hp
  | succ j =>
    simp only [List.getElem?_cons_succ] at hq;have h1:=h.2 j q hq
    simpa [Nat.mul_one] using h1
theorem Reps.front {α : Type} {R:α→List Value→Prop} {size:Nat} {ps:List α} {cs c all:List Value} {p:α} (hp:R p c) (hc:c.length=size) (h:Reps R size ps cs) (ha:c++cs=all):Reps R size (p :: ps) all:=by
  subst ha;refine ⟨by rw [List.length_append,hc,h.1,List.length_cons,Nat.succ_mul,Nat.add_comm],fun j q hq=>?_⟩;cases j with
  | zero =>
    simp only [List.getElem?_cons_zero,Option.some.injEq] at hq;subst hq;rw [Nat.zero_mul,List.drop_zero,List.take_append_of_le_length (by omega),List.take_of_length_le (by omega)];exact hp
  | succ j =>
    simp only [List.getElem?_cons_succ] at hq;have h1:=h.2 j q hq;rw [Nat.succ_mul,List.drop_append,List.drop_of_length_le (by rw [hc];exact Nat.le_add_left _ _),List.nil_append,hc,Nat.add_sub_cancel];exact h1
theorem Reps.c2 {α : Type} {R:α→List Value→Prop} {ps:List α} {cs:List Value} {p:α} {va vb:Value} (hp:R p [va,vb]) (h:Reps R 2 ps cs):Reps R 2 (p :: ps) (va :: vb :: cs):=Reps.front hp rfl h rfl
theorem Reps.c3 {α : Type} {R:α→List Value→Prop} {ps:List α} {cs:List Value} {p:α} {va vb vc:Value} (hp:R p [va,vb,vc]) (h:Reps R 3 ps cs):Reps R 3 (p :: ps) (va :: vb :: vc :: cs):=Reps.front hp rfl h rfl
theorem Reps.c4 {α : Type} {R:α→List Value→Prop} {ps:List α} {cs:List Value} {p:α} {va vb vc vd:Value} (hp:R p [va,vb,vc,vd]) (h:Reps R 4 ps cs):Reps R 4 (p :: ps) (va :: vb :: vc :: vd :: cs):=Reps.front hp rfl h rfl
theorem Reps.c5 {α : Type} {R:α→List Value→Prop} {ps:List α} {cs:List Value} {p:α} {va vb vc vd ve:Value} (hp:R p [va,vb,vc,vd,ve]) (h:Reps R 5 ps cs):Reps R 5 (p :: ps) (va :: vb :: vc :: vd :: ve :: cs):=Reps.front hp rfl h rfl
theorem Reps.c6 {α : Type} {R:α→List Value→Prop} {ps:List α} {cs:List Value} {p:α} {va vb vc vd ve vf:Value} (hp:R p [va,vb,vc,vd,ve,vf]) (h:Reps R 6 ps cs):Reps R 6 (p :: ps) (va :: vb :: vc :: vd :: ve :: vf :: cs):=Reps.front hp rfl h rfl
theorem Reps.c7 {α : Type} {R:α→List Value→Prop} {ps:List α} {cs:List Value} {p:α} {va vb vc vd ve vf vg:Value} (hp:R p [va,vb,vc,vd,ve,vf,vg]) (h:Reps R 7 ps cs):Reps R 7 (p :: ps) (va :: vb :: vc :: vd :: ve :: vf :: vg :: cs):=Reps.front hp rfl h rfl
theorem Reps.c8 {α : Type} {R:α→List Value→Prop} {ps:List α} {cs:List Value} {p:α} {va vb vc vd ve vf vg vh:Value} (hp:R p [va,vb,vc,vd,ve,vf,vg,vh]) (h:Reps R 8 ps cs):Reps R 8 (p :: ps) (va :: vb :: vc :: vd :: ve :: vf :: vg :: vh :: cs):=Reps.front hp rfl h rfl
theorem Reps.c9 {α : Type} {R:α→List Value→Prop} {ps:List α} {cs:List Value} {p:α} {va vb vc vd ve vf vg vh vi:Value} (hp:R p [va,vb,vc,vd,ve,vf,vg,vh,vi]) (h:Reps R 9 ps cs):Reps R 9 (p :: ps) (va :: vb :: vc :: vd :: ve :: vf :: vg :: vh :: vi :: cs):=Reps.front hp rfl h rfl
theorem Reps.c10 {α : Type} {R:α→List Value→Prop} {ps:List α} {cs:List Value} {p:α} {va vb vc vd ve vf vg vh vi vj:Value} (hp:R p [va,vb,vc,vd,ve,vf,vg,vh,vi,vj]) (h:Reps R 10 ps cs):Reps R 10 (p :: ps) (va :: vb :: vc :: vd :: ve :: vf :: vg :: vh :: vi :: vj :: cs):=Reps.front hp rfl h rfl
end Go.Proofs.YtchhndbekjgimaaDoorW.PrintWords
end
section
namespace Go.Proofs.YtchhndbekjgimaaDoorW.PrintWords
open Go.RowKit
section
variable {P : Program} {ops:Array Oper} {rest:List Oper} {o:Oper} {a:Act} {Q:Exit→Act→World→Prop} {W:World}
theorem gate_guard (hw : Region.wanted o (yielded ops a.tmps)=true) (h:wpList P ops Q ({ o with guard:=none } :: rest) a W):wpList P ops Q (o :: rest) a W:=by
  have h1:Region.wanted { o with guard:=none } (yielded ops a.tmps)=true:=rfl;unfold wpList at h ⊢
  rw [if_pos h1] at h
  rw [if_pos hw];exact h
end
end Go.Proofs.YtchhndbekjgimaaDoorW.PrintWords
end
section
namespace Go.Proofs.YtchhndbekjgimaaDoorW.PrintMore
open Go.RowKit Go.Proofs.YtchhndbekjgimaaDoorW.PrintWords
namespace Kd
open Go.Proofs.YtchhndbekjgimaaDoorW.PrintWords.Kd
end Kd

namespace Kd
open Go.Proofs.YtchhndbekjgimaaDoorW.PrintWords.Kd
section
variable {α : Type} {d:Kd α} {e base g N:Nat} {ok:Nat→Prop} {W w1:World} {u v:Value} {xs:List α}
end
end Kd
theorem max2_int (k k' : IntKind) (x y:Int):Builtin.max2 (.int k x) (.int k' y)=pure (.int k (if x<y then y else x)):=by simp only [Builtin.max2,gt_iff_lt]
theorem min2_int (k k' : IntKind) (x y:Int):Builtin.min2 (.int k x) (.int k' y)=pure (.int k (if y<x then y else x)):=by simp only [Builtin.min2]
theorem max_two (ats : Array TypeId) (ty:TypeId) (a b:Value):Builtin.max_ ats ty #[a,b]=(Builtin.max2 a b >>= fun s=>pure s):=by simp only [Builtin.max_,List.foldlM_cons,List.foldlM_nil]
theorem min_two (ats : Array TypeId) (ty:TypeId) (a b:Value):Builtin.min_ ats ty #[a,b]=(Builtin.min2 a b >>= fun s=>pure s):=by simp only [Builtin.min_,List.foldlM_cons,List.foldlM_nil]
theorem max_three (ats : Array TypeId) (ty:TypeId) (a b c:Value):Builtin.max_ ats ty #[a,b,c]=(Builtin.max2 a b >>= fun s=>Builtin.max2 s c >>= fun s=>pure s):=by simp only [Builtin.max_,List.foldlM_cons,List.foldlM_nil]
theorem min_three (ats : Array TypeId) (ty:TypeId) (a b c:Value):Builtin.min_ ats ty #[a,b,c]=(Builtin.min2 a b >>= fun s=>Builtin.min2 s c >>= fun s=>pure s):=by simp only [Builtin.min_,List.foldlM_cons,List.foldlM_nil]
theorem max_four (ats : Array TypeId) (ty:TypeId) (a b c d:Value):Builtin.max_ ats ty #[a,b,c,d]=(Builtin.max2 a b >>= fun s=>Builtin.max2 s c >>= fun s=>Builtin.max2 s d >>= fun s=>pure s):=by simp only [Builtin.max_,List.foldlM_cons,List.foldlM_nil]
theorem min_four (ats : Array TypeId) (ty:TypeId) (a b c d:Value):Builtin.min_ ats ty #[a,b,c,d]=(Builtin.min2 a b >>= fun s=>Builtin.min2 s c >>= fun s=>Builtin.min2 s d >>= fun s=>pure s):=by simp only [Builtin.min_,List.foldlM_cons,List.foldlM_nil]
end Go.Proofs.YtchhndbekjgimaaDoorW.PrintMore
namespace Go.Proofs.YtchhndbekjgimaaDoorW.PrintWords
open Go.RowKit
section
variable {P : Program} {ops:Array Oper} {rest:List Oper} {o:Oper} {a:Act} {Q:Exit→Act→World→Prop} {W:World}
theorem j1z {f : FuncId} {as_:Array Operand} {ts:Array TypeId} (_ho:o.op = .call { callee := .value (.func f),args:=as_,argTypes:=ts }) (h:wpList P ops Q (o :: rest) a W):wpList P ops Q (o :: rest) a W:=h
theorem j1p {b : Builtin} {xs:Array Operand} {ts:Array TypeId} (_ho:o.op = .call { callee := .builtin b,args:=xs,argTypes:=ts }) (h:wpList P ops Q (o :: rest) a W):wpList P ops Q (o :: rest) a W:=h
end
namespace Kd
section
variable {α : Type} {d:Kd α} {e base:Nat} {ok:Nat→Prop} {W w1:World} {v:Value} {xs:List α}
end
section
variable {α : Type} {d:Kd α} {e base g n cap:Nat} {ok oki okp:Nat→Prop} {W:World} {xs:List α} {i:Int} {c:List Value}
end
section
variable {α : Type} {d:Kd α} {e base b b' g N:Nat} {ok ok1:Nat→Prop} {W W2 w1:World} {u v:Value} {xs ys:List α} {S:Nat→Prop}
theorem R_keptB (h : d.R e W base ok v xs) (hk:Kept W W2 S) (hne:∀ k,ok k→¬ S k):d.R e W2 base (fun k=>ok k∧(¬ S k∧k<W.heap.size)) v xs :=
  R_kept (R_mono (R_bound h) (fun k hk=>⟨hk.1,hne k hk.1,hk.2.2.1⟩)) hk (fun _ hk=>hk.2.1)
end
end Kd
end Go.Proofs.YtchhndbekjgimaaDoorW.PrintWords
namespace Go.Proofs.YtchhndbekjgimaaDoorW.PrintWords
open Go.RowKit
namespace Kd
def V {α : Type} (d:Kd α) (_e:Nat) (W:World) (_base:Nat) (ok:Nat→Prop) (v:Value) (xs:List α):Prop:=∃ A c,v = .slice A xs.length c∧xs.length≤c∧F d W ok A xs.length xs
section
variable {α β : Type} {d:Kd α} {e base base' n m c g N' lo hi:Nat} {ok ok' S:Nat→Prop} {w W w1:World} {A:Option Addr} {ad:Addr} {u v v1:Value} {xs:List α}
theorem V_nil (d : Kd α) (e:Nat) (W:World) (base:Nat) (ok:Nat→Prop):V d e W base ok (.slice none 0 0) []:=⟨none,0,rfl,Nat.le_refl _,F_nil d W ok⟩
theorem R_newM {M : Nat→Prop} (h:d.R e w1 W.heap.size ok v xs) (hle:w.heap.size≤W.heap.size) (hM:∀ k,w.heap.size≤k→M k):d.R e w1 W.heap.size (fun k=>M k∧ok k) v xs:=R_mono (R_bound h) (fun k hk=>⟨hM k (Nat.le_trans hle hk.2.1),hk.1⟩)
end
end Kd
end Go.Proofs.YtchhndbekjgimaaDoorW.PrintWords
end
namespace Go.Proofs.YtchhndbekjgimaaDoor
open Go.Proofs.YtchhndbekjgimaaDoorW.PrintWords
theorem mk0 {p : Prop} (h : p) : Aside0 p := ⟨h⟩
theorem zq0 {P : Prop} (h : P := by repeat (first | (with_reducible first | exact HB.out | apply j1i | apply j1d | apply j1h) | exact HB.out)) : P := h
theorem zq1 {P : Prop} (h : P := by first | (with_reducible assumption) | assumption) : P := h
theorem zq2 {P : Prop} (h : P := by repeat (first | (with_reducible first | exact HK.out | apply Kept.alloc | apply Kept.drewN | apply Kept.drew) | exact HK.out)) : P := h
theorem zq3 {P : Prop} (h : P := by (try simp only [List.map_toArray, List.map_cons, List.map_nil]); first | done | rfl | (simp only [List.length_drop, List.length_take]; rfl)) : P := h
theorem zq4 {P : Prop} (h : P := by first | exact HK.out.1 | exact (show Kept w _ (fun k_ => P0_ k_) from zq2).1) : P := h
theorem zq5 {P : Prop} (h : P := by (with_reducible repeat (first | apply Kd.R_alloc | apply Kd.R_drewN | apply Kd.R_drew)); exact HO_0.out) : P := h
theorem zq6 {P : Prop} (h : P := by first | rfl | (simp; done) | (simp [*]; done)) : P := h
theorem zq7 {P : Prop} (h : P := by first | with_reducible rfl | (simp only [← hji3, ← hji6]; done) | rfl | (simp; done) | (simp [*]; done)) : P := h
theorem zq8 {P : Prop} (h : P := by repeat (first | (with_reducible first | exact HB.out | apply j1i | apply j1d | apply j1h | refine j2e ?_ GE101.out) | exact HB.out)) : P := h
theorem zq9 {P : Prop} (h : P := by repeat (first | (with_reducible first | exact HB.out | apply j1i | apply j1d | apply j1h | refine j2e ?_ GE101.out | refine j2e ?_ GE102.out) | exact HB.out)) : P := h
theorem zq10 {P : Prop} (h : P := by (with_reducible repeat (first | refine j1j ?_ _ | refine j1n ?_ | refine j1k ?_ _)); exact BK101.out) : P := h
theorem zq11 {P : Prop} (h : P := by first | exact HG.out | exact Laid.below HG.out zq0) : P := h
theorem zq12 {P : Prop} (h : P := by kernel_rfl) : P := h
theorem zq13 {P : Prop} (h : P := by have := HF.out.2.2.2.1; simp only [List.length_cons, List.length_nil]; omega) : P := h
theorem zq14 {P : Prop} (h : P := by (with_reducible repeat (first | refine j1j ?_ _ | refine j1n ?_ | refine j1k ?_ _)); refine j1x (cs := #[.int .i64 3, .string t103, .string x103002_1, .float .f64 x103003_1, .int .i64 0, .slice none 0 0]) ?_ 2 _ rfl; (with_reducible repeat (first | refine j1j ?_ _ | refine j1n ?_ | refine j1k ?_ _)); refine j1x (cs := #[.int .i64 3, .string x103001_1, .string x103002_1, .float .f64 x103003_1, .int .i64 0, .slice none 0 0]) ?_ 1 _ rfl; (with_reducible repeat (first | refine j1j ?_ _ | refine j1n ?_ | refine j1k ?_ _)); exact BK102.out) : P := h
theorem zq15 {P : Prop} (h : P := by have := LMc18.out; first | omega | (simp only [List.length_cons, List.length_nil] at this ⊢; omega)) : P := h
theorem zq16 {P : Prop} (h : P := by (with_reducible repeat (first | apply Kd.R_alloc | apply Kd.R_drewN | apply Kd.R_drew)); exact HO115.out) : P := h
theorem zq17 {P : Prop} (h : P := by first | with_reducible rfl | (simp only [← hji22]; done) | rfl | (simp; done) | (simp [*]; done)) : P := h
theorem zq18 {P : Prop} (h : P := by first | (go_simp; done) | (go_simp; rfl)) : P := h
theorem zq19 {P : Prop} (h : P := by (with_reducible repeat (first | refine j1j ?_ _ | refine j1n ?_ | refine j1k ?_ _)); refine blk_far ?_ NB101_102.out _; (with_reducible repeat (first | refine j1j ?_ _ | refine j1n ?_ | refine j1k ?_ _)); refine blk_far ?_ NB101_102.out _; (with_reducible repeat (first | refine j1j ?_ _ | refine j1n ?_ | refine j1k ?_ _)); exact BK101.out) : P := h
theorem zq20 {P : Prop} (h : P := by (with_reducible repeat (first | refine j1j ?_ _ | refine j1n ?_ | refine j1k ?_ _)); refine j1x (cs := #[.int .i64 x103000_1, .string x103001_1, .string x103002_1, .float .f64 x103003_1, .int .i64 0, .slice none 0 0]) ?_ 0 _ rfl; (with_reducible repeat (first | refine j1j ?_ _ | refine j1n ?_ | refine j1k ?_ _)); exact BK102.out) : P := h
theorem zq21 {P : Prop} (h : P := by rw [hg]; exact (j1m zq0)) : P := h
theorem zq22 {P : Prop} (h : P := by (with_reducible repeat (first | apply Kd.R_alloc | apply Kd.R_drewN | apply Kd.R_drew)); exact HO0.out) : P := h
theorem zq23 {P : Prop} (h : P := by (with_reducible repeat (first | refine j1j ?_ _ | refine j1n ?_ | refine j1k ?_ _)); refine blk_far ?_ NB101_102.out _; (with_reducible repeat (first | refine j1j ?_ _ | refine j1n ?_ | refine j1k ?_ _)); exact BK101.out) : P := h
theorem zq24 {P : Prop} (h : P := by decide) : P := h
theorem zq25 {P : Prop} (h : P := by first | rfl | (congr 1; omega)) : P := h
theorem zq26 {P : Prop} (h : P := by rw [w64 (by omega)]; omega) : P := h
theorem zm {P : Prop} (h : P := by repeat' first|(with_reducible first|apply ih0|apply ih1|apply ih2|apply ih3|apply j1b.mono|apply j1a.mono|apply j1c.mono|apply j1u.mono|apply j2a.mono|apply j2c.mono|apply j1l.mono|apply j1v.mono|exact LeO.refl _|exact LeO.none _|refine LeO.ite ?_ ?_|refine LeO.bind ?_ (fun _=>?_))|apply ih0|apply ih1|apply ih2|apply ih3|apply j1b.mono|apply j1a.mono|apply j1c.mono|apply j1u.mono|apply j2a.mono|apply j2c.mono|apply j1l.mono|apply j1v.mono|exact LeO.none _|refine LeO.ite ?_ ?_|refine LeO.bind ?_ (fun _=>?_)) : P := h
theorem zl0 {P : Prop} (h : P := by simp only [Act.put,List.setIfInBounds_toArray,List.set_cons_zero,List.set_cons_succ,i64_w,i32_w];rfl) : P := h
theorem zl1 {P : Prop} (h : P := by intro w';go_simp;with_reducible rfl) : P := h
theorem zl2 {P : Prop} (h : P := by exact ⟨by first|rfl|(simp [j1t,j1s]<;>rfl)|(simp [*, j1t,j1s]<;>rfl),by repeat (first|(with_reducible first|exact HB.out|apply j1i|apply j1d|apply j1h)|exact HB.out)⟩) : P := h
theorem zl3 {P : Prop} (h : P := by exact ⟨by first|rfl|(simp;done)|(simp [*];done),by repeat (first|exact Drawn0.refl _|apply Drawn0.step)⟩) : P := h
theorem zl4 {P : Prop} (h : P := by exact ⟨_,by first|rfl|(simp [j1t,j1s]<;>rfl)|(simp [*, j1t,j1s]<;>rfl),by first|exact Kd.R_nil _ _ _ _ _|exact Kd.N_nil _ _ _ _ _|exact Kd.V_nil _ _ _ _ _|exact Kd.Q_nil _ _ _ _ _|exact Kd.S_nil _ _ _ _ _,by repeat (first|(with_reducible first|exact HB.out|apply j1i|apply j1d|apply j1h|refine j2e ?_ GE101.out|refine j2e ?_ GE102.out)|exact HB.out)⟩) : P := h
theorem zl5 {P : Prop} (h : P := by exact ⟨by first|rfl|(simp [j1t,j1s]<;>rfl)|(simp [*, j1t,j1s]<;>rfl),by repeat (first|(with_reducible first|exact HB.out|apply j1i|apply j1d|apply j1h|refine j2e ?_ GE101.out)|exact HB.out)⟩) : P := h
theorem zl6 {P : Prop} (h : P := by exact ⟨by first|rfl|(simp [j1t,j1s]<;>rfl)|(simp [*, j1t,j1s]<;>rfl),by repeat (first|(with_reducible first|exact HB.out|apply j1i|apply j1d|apply j1h|refine j2e ?_ GE108.out)|exact HB.out)⟩) : P := h
theorem zl7 {P : Prop} (h : P := by rintro w' ⟨s0,s1,s2,s3,s4,s5⟩;go_simp;with_reducible rfl) : P := h
theorem zl8 {P : Prop} (h : P := by rintro w' ⟨s0,s1,s2,s3⟩;go_simp;with_reducible rfl) : P := h
end Go.Proofs.YtchhndbekjgimaaDoor
section
namespace Go.Proofs.YtchhndbekjgimaaDoor.H
open Go.RowKit Go.Proofs.YtchhndbekjgimaaDoorW.PrintWords Go.Proofs.YtchhndbekjgimaaDoorW.PrintLast Go.Proofs.YtchhndbekjgimaaDoorW.PrintMore
attribute [local go_sem] max2_int min2_int max_two min_two max_three min_three max_four min_four
set_option linter.unusedVariables false
set_option linter.unusedSimpArgs false
def errW : Option (TypeId × Value)→Value
  | none => .nilIface
  | some c => .iface c.1 c.2
theorem j1t : errW none = .nilIface:=rfl
theorem j1s (c : TypeId × Value):errW (some c) = .iface c.1 c.2:=rfl
theorem info5 : (Tryd.prog.info? 5).map (fun i=>(i.zero,i.size,i.bytes))=some (some (.int .u8 0),1,1):=by kernel_rfl
def Zk (z : Option (TypeId × Value)) (r:Option Int):Prop:=z.isSome=r.isSome
theorem Zk.none_ {z : Option (TypeId × Value)} (h:Zk z none):z=none:=by cases z<;>simp_all [Zk]
theorem errW_mk (T n : Nat) (_:T<1000):∃ z:Option (TypeId × Value),Zk z (some 0)∧Value.iface T (.pointer (some ⟨n,0,none⟩))=errW z:=⟨some (T, .pointer (some ⟨n,0,none⟩)),rfl,rfl⟩
theorem bytesWorld_below (w : World) (e:TypeId) (s:ByteArray):Below w.heap.size w (Lib.bytesWorld w e s) :=
 ⟨rfl,rfl,rfl,by rw [Lib.bytesWorld_size];omega,fun i hi=>Lib.bytesWorld_at_old w e s i hi⟩
theorem bel_cell {B : Nat} {w w':World} (h:Below B w w') {a:Addr} (ha:a.block<B):w'.cell? a=w.cell? a:=by unfold World.cell?; rw [h.block a.block ha]
theorem append_str_at {P : Program} (W:World) (base:Nat) (t u ty e:TypeId) (i:TypeInfo) (ht:P.underlying t=some (.slice e)) (hu:P.underlying u=some .string) (hi:P.info? e=some i) (hz:i.zero=some (.int .u8 0)) (hsize:i.size=1) (hby:i.bytes=1)
 (v:Value) (n:Nat) (xs:List Value) (hown:W.ownsRow base e 1 v n xs) (s:ByteArray) (hbytes:n+s.size≤140737488355328) (v1:Value) (w1:World)
 (hr:(Builtin.append_ #[t,u] ty #[v, .string s]).run P W = .ok v1 w1):v1.ownBlock=v.ownBlock∨∃ b,v1.ownBlock=some b∧W.heap.size≤b:=by
 have hxl:xs.length=n:=by simpa using hown.1
 rcases hown.2 with ⟨rfl,rfl⟩|⟨g,cap,cur,rfl,hbg,hg,hnc,hcm,hcs,htake⟩
 ·by_cases hm:s.size=0
  rotate_left
  ·rw [run_append_nil_string (P:=P) W t u ty e i (.int .u8 0) ht hu hi hz s (by omega) (by omega) (by rw [hby];omega)] at hr;injection hr with e1 e2
   subst e1;exact .inr ⟨W.heap.size,rfl,Nat.le_refl _⟩
  have hf:=Lib.run_firstCells_string (P:=P) W 1 s;rw [hm] at hf
  have h2:(Builtin.append_ #[t,u] ty #[.slice none 0 0, .string s]).run P W = .ok (.slice none 0 0) W:=by
   simp [Builtin.append_,run_underlying ht,run_underlying hu,sizeOf,typeInfo,hi,hsize,Builtin.lenOf,hm,hf]
  rw [h2] at hr;injection hr with e1 e2
  subst e1;exact .inl rfl
 ·by_cases hroom:n+s.size≤cap
  ·have hcs':cur.size=cap:=by simpa using hcs
   rw [Lib.run_append_room_string (P:=P) W t u ty e i ht hu hi hsize g n cap cur hg s hroom (by omega)] at hr;injection hr with e1 e2
   subst e1;exact .inl rfl
  have holds:∀ j u,xs[j]? = some u→W.cell? ((⟨g,0,none⟩:Addr).add j)=some u:=hown.cells (g:=g) rfl;rw [Lib.run_append_grow_string (P:=P) W t u ty e i (.int .u8 0) ht hu hi hz ⟨g,0,none⟩ n cap xs (by rw [hsize];simpa using hxl) holds s (by omega) (by omega) (by rw [hby];exact growslice_fits (by omega) (by omega))] at hr;injection hr with e1 e2
  subst e1;exact .inr ⟨W.heap.size,rfl,Nat.le_refl _⟩
theorem R_append_str {P : Program} {ops:Array Oper} {rest:List Oper} {o:Oper} {a:Act} {Q:Exit→Act→World→Prop} {w0 W:World} (base:Nat) (hgd:o.guard=none) (s x:Operand) (t u e:TypeId)
 (ho:o.op = .call { callee := .builtin .append,args:=#[s,x],argTypes:=#[t,u] })
 (ht:P.underlying t=some (.slice e)) (hu:P.underlying u=some .string) (hinfo:(P.info? e).map (fun i=>(i.zero,i.size,i.bytes))=some (some (.int .u8 0),1,1))
 (v:Value) (xs:List Int) (y:ByteArray) (ok:Nat→Prop) (hs:a.eval s=v) (hx:a.eval x = .string y) (hfresh:∀ k,W.heap.size≤k→ok k)
 (HO:(Kd.int .u8).R e W base ok v xs) (HB:Below base w0 W) (hbase:base≤W.heap.size) (hl:xs.length+y.size≤140737488355328)
 (h:∀ v1 w1,(Kd.int .u8).R e w1 base ok v1 (xs++bytesOf y)→Below base w0 w1→W.grownBy w1 v.ownBlock→(v1.ownBlock=v.ownBlock∨∃ b,v1.ownBlock=some b∧W.heap.size≤b)→wpList P ops Q rest (a.put o.dst v1) w1) :
 wpList P ops Q (o :: rest) a W:=by
 have hown:W.ownsRow base e 1 v xs.length (nums .u8 xs):=Kd.own_of_R HO;obtain ⟨i0,hi,hzz⟩:=Option.map_eq_some_iff.1 hinfo;simp only [Prod.mk.injEq] at hzz;obtain ⟨hz0,hz1,hz2⟩:=hzz;refine wpList_plain hgd fun K hK=>?_
 obtain ⟨v',w',hr,h2,h3,_⟩:=Lib.run_append_own_string (P:=P) W base t u o.type e i0 ht hu hi hz0 hz1 hz2 v xs.length (nums .u8 xs) hown y (by simp only [maxLen];omega) hl hbase;have hat:=append_str_at (P:=P) W base t u o.type e i0 ht hu hi hz0 hz1 hz2 v xs.length (nums .u8 xs) hown y hl v' w' hr;have hl2:(xs++bytesOf y).length=xs.length+y.size:=by rw [List.length_append,bytesOf_length]
 have hc:nums .u8 (xs++bytesOf y)=nums .u8 xs++Lib.strCells y:=by
  rw [nums_append]
  congr 1
  simp [nums,bytesOf,Lib.strCells]
 have hR:(Kd.int .u8).R e w' base ok v' (xs++bytesOf y):=by
  refine Kd.R_of_own (by rw [hl2,show encs (Value.int .u8) (xs++bytesOf y)=nums .u8 (xs++bytesOf y) from rfl,hc];exact h2) fun k hk=>?_
  rcases hat with h4|⟨b,h4,h5⟩
  ·exact HO.1 k (h4.symm.trans hk)
  ·rw [h4] at hk;injection hk with hk
   subst hk;exact hfresh _ h5
 unfold Oper.wp execOp;simp only [ho,resolve,invoke,builtin,Sem.run_bind,Sem.run_pure,Result.andThen_ok,List.map_toArray,List.map_cons,List.map_nil,hs,hx,hr];exact hK _ _ (h v' w' hR (HB.grown h3 hbase (own_base hown)) h3 hat)
theorem own_len (A : Option Addr) (n m c:Nat):(Value.slice A n c).ownBlock=(Value.slice A m c).ownBlock:=by cases A<;>rfl
structure Laid (w : World):Prop where
  u8:Lib.Utf8Tabs 1 2 w
  hex:∀ j:Nat,j<16→w.cell? ⟨0,j,none⟩=some (.int .u8 (bt (⟨#[48,49,50,51,52,53,54,55,56,57,97,98,99,100,101,102]⟩:ByteArray) (j:Int)))
  errS:∃ te pe,w.cell? ⟨3,0,none⟩=some (.iface te pe)
  errR:∃ te pe,w.cell? ⟨4,0,none⟩=some (.iface te pe)
theorem Laid.below {B : Nat} {w w':World} (h:Laid w) (hb:Below B w w') (hB:w.heap.size≤B:=by exact Nat.le_refl _):Laid w' where
 u8:=⟨fun c hc=>by
  have h1:=h.u8.1 c hc;exact (bel_cell hb (Nat.lt_of_lt_of_le (World.block_lt_of_cell? w _ h1) hB)).trans h1,fun i hi=>by
  obtain ⟨h1,h2⟩:=h.u8.2 i hi;exact ⟨(bel_cell hb (Nat.lt_of_lt_of_le (World.block_lt_of_cell? w _ h1) hB)).trans h1,(bel_cell hb (Nat.lt_of_lt_of_le (World.block_lt_of_cell? w _ h2) hB)).trans h2⟩⟩
 hex:=fun j hj=>(bel_cell hb (Nat.lt_of_lt_of_le (World.block_lt_of_cell? w _ (h.hex j hj)) hB)).trans (h.hex j hj)
 errS:=by
  obtain ⟨te,pe,h1⟩:=h.errS;exact ⟨te,pe,(bel_cell hb (Nat.lt_of_lt_of_le (World.block_lt_of_cell? w _ h1) hB)).trans h1⟩
 errR:=by
  obtain ⟨te,pe,h1⟩:=h.errR;exact ⟨te,pe,(bel_cell hb (Nat.lt_of_lt_of_le (World.block_lt_of_cell? w _ h1) hB)).trans h1⟩
theorem Laid.hexchars {w : World} (h:Laid w) (j:Int) (h0:0≤j) (h1:j<16):w.cell? ⟨0,j.toNat,none⟩=some (.int .u8 (bt (⟨#[48,49,50,51,52,53,54,55,56,57,97,98,99,100,101,102]⟩:ByteArray) j)):=by
 have:=h.hex j.toNat (by omega)
 rwa [show ((j.toNat:Nat):Int)=j by omega] at this
theorem Laid.utf8 {w : World} (h:Laid w):Lib.Utf8Tabs 1 2 w:=h.u8
def spec_high.f (a0 : Int):Option (Bool):=if 55296≤a0 then (some (decide (a0≤56319))) else (some false)
set_option maxHeartbeats 8000000 in
set_option maxRecDepth 100000 in
theorem spec_high.calls (a0 : Int) (r:Bool) (w:World) (h:spec_high.f a0=some r) :
 Calls Tryd.prog 12 #[.int .i64 a0] w fun e w'=>e = .returned (.bool r)∧Drawn0 w w':=by
 have H:(if 55296≤a0 then (some (decide (a0≤56319))) else (some false))=some r:=h;clear h;by_cases c2:55296≤a0
 ·rw [if_pos c2] at H;have c2b0:decide (55296≤a0)=true:=decide_eq_true c2;clear c2;obtain rfl:=Option.some.inj H;go_enter Tryd.func12,Tryd.ntmps12;go_wp2;go_ret;exact ⟨by first|rfl|(simp;done)|(simp [*];done),by repeat (first|exact Drawn0.refl _|apply Drawn0.step)⟩
 rw [if_neg c2] at H;have c2b0:decide (55296≤a0)=false:=decide_eq_false c2;clear c2;obtain rfl:=Option.some.inj H;go_enter Tryd.func12,Tryd.ntmps12;go_wp2;go_ret;exact zl3
def spec_low.f (a0 : Int):Option (Bool):=if 56320≤a0 then (some (decide (a0≤57343))) else (some false)
set_option maxHeartbeats 8000000 in
set_option maxRecDepth 100000 in
theorem spec_low.calls (a0 : Int) (r:Bool) (w:World) (h:spec_low.f a0=some r) :
 Calls Tryd.prog 13 #[.int .i64 a0] w fun e w'=>e = .returned (.bool r)∧Drawn0 w w':=by
 have H:(if 56320≤a0 then (some (decide (a0≤57343))) else (some false))=some r:=h;clear h;by_cases c2:56320≤a0
 ·rw [if_pos c2] at H;have c2b0:decide (56320≤a0)=true:=decide_eq_true c2;clear c2;obtain rfl:=Option.some.inj H;go_enter Tryd.func13,Tryd.ntmps13;go_wp2;go_ret;exact ⟨by first|rfl|(simp;done)|(simp [*];done),by repeat (first|exact Drawn0.refl _|apply Drawn0.step)⟩
 rw [if_neg c2] at H;have c2b0:decide (56320≤a0)=false:=decide_eq_false c2;clear c2;obtain rfl:=Option.some.inj H;go_enter Tryd.func13,Tryd.ntmps13;go_wp2;go_ret;exact zl3
mutual
def j1b.j2 : Nat → ByteArray→Int→Int→Int→Int→Option (Int × Int × Bool)
  | 0,_,_,_,_,_=>none
  | k+1,x0,x1,x7,x8,x9=>if (wrap64 ((x0.size:Int) - x1))≤x8 then (some (65533,1,false)) else (j1b.l0 k x0 x1 x7 x8 x9 1)
def j1b.l0 : Nat → ByteArray→Int→Int→Int→Int→Int→Option (Int × Int × Bool)
  | 0,_,_,_,_,_,_=>none
  | k+1,x0,x1,x7,x8,x9,x10=>if x10≤x8 then (if 0≤(wrap64 (x1+x10)) then (if (wrap64 (x1+x10))<(x0.size:Int) then (if (wrap64 (bt x0 (wrap64 (x1+x10))))<128 then (some (65533,1,false)) else (if (wrap64 (bt x0 (wrap64 (x1+x10))))>191 then (some (65533,1,false)) else (j1b.l0 k x0 x1 (wrap64 ((wrap64 ((wrap64 (x7*64))+(wrap64 (bt x0 (wrap64 (x1+x10)))))) - 128)) x8 x9 (wrap64 (x10+1))))) else (none)) else (none)) else (if x7<x9 then (some (65533,1,false)) else (if x7>1114111 then (some (65533,1,false)) else ((spec_high.f x7).bind fun t101=>(if t101=true then (some (65533,1,false)) else ((spec_low.f x7).bind fun t102=>(if t102=true then (some (65533,1,false)) else (some (x7,wrap64 (x8+1),true))))))))
def j1b.j0 : Nat → ByteArray→Int→Int→Bool→Option (Int × Int × Bool)
  | 0,_,_,_,_=>none
  | k+1,x0,x1,x7,x20=>if x20=true then (j1b.j2 k x0 x1 (wrap64 (x7 - 192)) 1 128) else (if 224≤x7 then (j1b.j1 k x0 x1 x7 (decide (x7≤239))) else (j1b.j1 k x0 x1 x7 false))
def j1b.j1 : Nat → ByteArray→Int→Int→Bool→Option (Int × Int × Bool)
  | 0,_,_,_,_=>none
  | k+1,x0,x1,x7,x29=>if x29=true then (j1b.j2 k x0 x1 (wrap64 (x7 - 224)) 2 2048) else (if 240≤x7 then (if x7≤244 then (j1b.j2 k x0 x1 (wrap64 (x7 - 240)) 3 65536) else (some (65533,1,false))) else (some (65533,1,false)))
end
def j1b.f (k : Nat) (a0:ByteArray) (a1:Int):Option (Int × Int × Bool):=if 0≤a1 then (if a1<(a0.size:Int) then (if (wrap64 (bt a0 a1))<128 then (some (wrap64 (bt a0 a1),1,true)) else (if 194≤(wrap64 (bt a0 a1)) then (j1b.j0 k a0 a1 (wrap64 (bt a0 a1)) (decide ((wrap64 (bt a0 a1))≤223))) else (j1b.j0 k a0 a1 (wrap64 (bt a0 a1)) false))) else (none)) else (none)
theorem j1b.mono_l : ∀ k,(∀ y0 y1 y2 y3 y4,LeO (j1b.j2 k y0 y1 y2 y3 y4) (j1b.j2 (k+1) y0 y1 y2 y3 y4))∧(∀ y0 y1 y2 y3 y4 y5,LeO (j1b.l0 k y0 y1 y2 y3 y4 y5) (j1b.l0 (k+1) y0 y1 y2 y3 y4 y5))∧(∀ y0 y1 y2 y3,LeO (j1b.j0 k y0 y1 y2 y3) (j1b.j0 (k+1) y0 y1 y2 y3))∧(∀ y0 y1 y2 y3,LeO (j1b.j1 k y0 y1 y2 y3) (j1b.j1 (k+1) y0 y1 y2 y3))
 | 0=>⟨fun _ _ _ _ _ r h=>by simp [j1b.j2] at h,fun _ _ _ _ _ _ r h=>by simp [j1b.l0] at h,fun _ _ _ _ r h=>by simp [j1b.j0] at h,fun _ _ _ _ r h=>by simp [j1b.j1] at h⟩
 | k+1=>by
  obtain ⟨ih0,ih1,ih2,ih3⟩:=j1b.mono_l k;refine ⟨?_,?_,?_,?_⟩
  ·intro y0 y1 y2 y3 y4;unfold j1b.j2
   exact zm
  ·intro y0 y1 y2 y3 y4 y5;unfold j1b.l0
   exact zm
  ·intro y0 y1 y2 y3;unfold j1b.j0
   exact zm
  ·intro y0 y1 y2 y3;unfold j1b.j1
   exact zm
theorem j1b.mono : ∀ a0 a1 k,LeO (j1b.f k a0 a1) (j1b.f (k+1) a0 a1):=by
 intro a0 a1 k;obtain ⟨ih0,ih1,ih2,ih3⟩:=j1b.mono_l k;unfold j1b.f
 exact zm
set_option maxHeartbeats 8000000 in
set_option maxRecDepth 100000 in
theorem j1b.calls (k : Nat) (a0:ByteArray) (a1:Int) (r1:Int) (r2:Int) (r3:Bool) (w:World) (h:j1b.f k a0 a1=some (r1,r2,r3)) :
 Calls Tryd.prog 8 #[.string a0, .int .i64 a1] w fun e w'=>e = .returned (.tuple #[.int .i64 r1, .int .i64 r2, .bool r3])∧Drawn0 w w':=by
 have H:(if 0≤a1 then (if a1<(a0.size:Int) then (if (wrap64 (bt a0 a1))<128 then (some (wrap64 (bt a0 a1),1,true)) else (if 194≤(wrap64 (bt a0 a1)) then (j1b.j0 k a0 a1 (wrap64 (bt a0 a1)) (decide ((wrap64 (bt a0 a1))≤223))) else (j1b.j0 k a0 a1 (wrap64 (bt a0 a1)) false))) else (none)) else (none))=some (r1,r2,r3):=h;clear h;by_cases c3:0≤a1
 rotate_left
 ·rw [if_neg c3] at H;exact absurd H (by simp)
 rw [if_pos c3] at H;have c3b0:decide (0≤a1)=true:=decide_eq_true c3;clear c3;by_cases c4:a1<(a0.size:Int)
 rotate_left
 ·rw [if_neg c4] at H;exact absurd H (by simp)
 rw [if_pos c4] at H;have c4b0:decide (a1<(a0.size:Int))=true:=decide_eq_true c4;clear c4;have HC6:=mk0 H;clear H;have p5:0≤(a1:Int):=of_decide_eq_true zq1;have q5:a1<(a0.size:Int):=of_decide_eq_true zq1;have hx5:=bt_at a0 a1;replace p5:=eq_true p5;replace q5:=eq_true q5;go_enter Tryd.func8,Tryd.ntmps8;go_upto_block 0 with (fail)
 go_cut [7,8,9] (fun v7 v8 v9 wc=>∃ (kq:Nat) (x7_5:Int) (x8_5:Int) (x9_5:Int),v7 = .int .i64 x7_5∧v8 = .int .i64 x8_5∧v9 = .int .i64 x9_5∧Aside0 (j1b.j2 kq a0 a1 x7_5 x8_5 x9_5=some (r1,r2,r3))∧Aside0 (kq≤k)∧Drawn0 w wc)
 case first =>
  have H:=HC6.out;clear HC6;by_cases c7:(wrap64 (bt a0 a1))<128
  ·rw [if_pos c7] at H;have c7b0:decide ((wrap64 (bt a0 a1))<128)=true:=decide_eq_true c7;clear c7;(first|rw [c7b0]|(simp only [i64_w,i32_w];rw [c7b0])|skip);simp only [Option.some.injEq,Prod.mk.injEq] at H;obtain ⟨rfl,rfl,rfl⟩:=H;go_wp2;go_ret3;exact ⟨by first|rfl|(simp;done)|(simp [*];done),by repeat (first|exact Drawn0.refl _|apply Drawn0.step)⟩
  rw [if_neg c7] at H;have c7b0:decide ((wrap64 (bt a0 a1))<128)=false:=decide_eq_false c7;clear c7;(first|rw [c7b0]|(simp only [i64_w,i32_w];rw [c7b0])|skip);have HC8:=mk0 H;clear H;go_upto_region 6 with (fail)
  go_cut [20] (fun v20 wc=>∃ (kq:Nat) (x20_7:Bool),v20 = .bool x20_7∧Aside0 (j1b.j0 kq a0 a1 (wrap64 (bt a0 a1)) x20_7=some (r1,r2,r3))∧Aside0 (kq≤k)∧Drawn0 w wc)
  case first =>
   have H:=HC8.out;clear HC8;by_cases c9:194≤(wrap64 (bt a0 a1))
   rotate_left
   ·rw [if_neg c9] at H;have c9b0:decide (194≤(wrap64 (bt a0 a1)))=false:=decide_eq_false c9;clear c9;(first|rw [c9b0]|(simp only [i64_w,i32_w];rw [c9b0])|skip);have H':=mk0 H;clear H;go_wp2;go_meet
    case rel=>exact ⟨_,(false),zq6,H',⟨by first|omega|exact Nat.le_refl _⟩,by repeat (first|exact Drawn0.refl _|apply Drawn0.step)⟩
   rw [if_pos c9] at H;have c9b0:decide (194≤(wrap64 (bt a0 a1)))=true:=decide_eq_true c9;clear c9;(first|rw [c9b0]|(simp only [i64_w,i32_w];rw [c9b0])|skip);have H':=mk0 H;clear H;go_wp2;go_meet
   case rel=>exact ⟨_,(decide ((wrap64 (bt a0 a1))≤223)),zq6,H',⟨by first|omega|exact Nat.le_refl _⟩,by repeat (first|exact Drawn0.refl _|apply Drawn0.step)⟩
  case rest =>
   clear HC8
   try clear p2
   try clear c3
   try clear c3b0
   try clear c4
   try clear c4b0
   try clear p5
   try clear q5
   try clear hx5
   try clear p6
   try clear c7
   try clear c7b0
   try clear c8
   try clear c9
   try clear c9b0
   try clear p5
   try clear q5
   obtain ⟨kq,x20_7,rfl,HA,HJ7,⟨mc7,rfl⟩⟩:=hcut;cases kq with
   | zero=>exact absurd HA.out (by simp [j1b.j0])
   | succ kj7 =>
    have H:=HA.out;clear HA;simp only [j1b.j0] at H;by_cases c10:x20_7=true
    ·subst c10;have H1:(j1b.j2 kj7 a0 a1 (wrap64 ((wrap64 (bt a0 a1)) - 192)) 1 128)=some (r1,r2,r3):=by rw [if_pos rfl] at H;exact H
     clear H;have H:=H1;clear H1;have H':=mk0 H;clear H;go_wp2;go_meet
     case rel=>exact ⟨_,(wrap64 ((wrap64 (bt a0 a1)) - 192)),(1),(128),zq6,zq6,zq6,H',⟨by have:=HJ7.out;first|omega|exact Nat.le_refl _⟩,by repeat (first|exact Drawn0.refl _|apply Drawn0.step)⟩
    replace c10:=Bool.eq_false_iff.mpr c10;subst c10;have H1:(if 224≤(wrap64 (bt a0 a1)) then (j1b.j1 kj7 a0 a1 (wrap64 (bt a0 a1)) (decide ((wrap64 (bt a0 a1))≤239))) else (j1b.j1 kj7 a0 a1 (wrap64 (bt a0 a1)) false))=some (r1,r2,r3):=by rw [if_neg (show ¬ (false=true) by decide)] at H;exact H
    clear H;have H:=H1;clear H1;have HC11:=mk0 H;clear H;go_upto_region 8 with (fail)
    go_cut [29] (fun v29 wc=>∃ (kq:Nat) (x29_10:Bool),v29 = .bool x29_10∧Aside0 (j1b.j1 kq a0 a1 (wrap64 (bt a0 a1)) x29_10=some (r1,r2,r3))∧Aside0 (kq≤kj7)∧Drawn0 w wc)
    case first =>
     have H:=HC11.out;clear HC11;by_cases c12:224≤(wrap64 (bt a0 a1))
     rotate_left
     ·rw [if_neg c12] at H;have c12b0:decide (224≤(wrap64 (bt a0 a1)))=false:=decide_eq_false c12;clear c12;(first|rw [c12b0]|(simp only [i64_w,i32_w];rw [c12b0])|skip);have H':=mk0 H;clear H;go_wp2;go_meet
      case rel=>exact ⟨_,(false),zq6,H',⟨by have:=HJ7.out;first|omega|exact Nat.le_refl _⟩,by repeat (first|exact Drawn0.refl _|apply Drawn0.step)⟩
     rw [if_pos c12] at H;have c12b0:decide (224≤(wrap64 (bt a0 a1)))=true:=decide_eq_true c12;clear c12;(first|rw [c12b0]|(simp only [i64_w,i32_w];rw [c12b0])|skip);have H':=mk0 H;clear H;go_wp2;go_meet
     case rel=>exact ⟨_,(decide ((wrap64 (bt a0 a1))≤239)),zq6,H',⟨by have:=HJ7.out;first|omega|exact Nat.le_refl _⟩,by repeat (first|exact Drawn0.refl _|apply Drawn0.step)⟩
    case rest =>
     clear HC11
     try clear c1
     try clear p2
     try clear c3
     try clear c3b0
     try clear c4
     try clear c4b0
     try clear p5
     try clear q5
     try clear hx5
     try clear p6
     try clear c7
     try clear c7b0
     try clear c8
     try clear c9
     try clear c9b0
     try clear c10
     try clear c12
     try clear c12b0
     try clear p2
     try clear p5
     try clear p6
     try clear q5
     obtain ⟨kq,x29_10,rfl,HA,HJ10,⟨mc10,rfl⟩⟩:=hcut;cases kq with
     | zero=>exact absurd HA.out (by simp [j1b.j1])
     | succ kj10 =>
      have H:=HA.out;clear HA;simp only [j1b.j1] at H;by_cases c13:x29_10=true
      ·subst c13;have H1:(j1b.j2 kj10 a0 a1 (wrap64 ((wrap64 (bt a0 a1)) - 224)) 2 2048)=some (r1,r2,r3):=by rw [if_pos rfl] at H;exact H
       clear H;have H:=H1;clear H1;have H':=mk0 H;clear H;go_wp2;go_meet
       case rel=>exact ⟨_,(wrap64 ((wrap64 (bt a0 a1)) - 224)),(2),(2048),zq6,zq6,zq6,H',⟨by have:=HJ7.out;have:=HJ10.out;first|omega|exact Nat.le_refl _⟩,by repeat (first|exact Drawn0.refl _|apply Drawn0.step)⟩
      replace c13:=Bool.eq_false_iff.mpr c13;subst c13;have H1:(if 240≤(wrap64 (bt a0 a1)) then (if (wrap64 (bt a0 a1))≤244 then (j1b.j2 kj10 a0 a1 (wrap64 ((wrap64 (bt a0 a1)) - 240)) 3 65536) else (some (65533,1,false))) else (some (65533,1,false)))=some (r1,r2,r3):=by rw [if_neg (show ¬ (false=true) by decide)] at H;exact H
      clear H;have H:=H1;clear H1;by_cases c14:240≤(wrap64 (bt a0 a1))
      rotate_left
      ·rw [if_neg c14] at H;have c14b0:decide (240≤(wrap64 (bt a0 a1)))=false:=decide_eq_false c14;clear c14;simp only [Option.some.injEq,Prod.mk.injEq] at H;obtain ⟨rfl,rfl,rfl⟩:=H;go_wp2;go_ret3;exact ⟨by first|rfl|(simp;done)|(simp [*];done),by repeat (first|exact Drawn0.refl _|apply Drawn0.step)⟩
      rw [if_pos c14] at H;have c14b0:decide (240≤(wrap64 (bt a0 a1)))=true:=decide_eq_true c14;clear c14;by_cases c15:(wrap64 (bt a0 a1))≤244
      rotate_left
      ·rw [if_neg c15] at H;have c15b0:decide ((wrap64 (bt a0 a1))≤244)=false:=decide_eq_false c15;clear c15;simp only [Option.some.injEq,Prod.mk.injEq] at H;obtain ⟨rfl,rfl,rfl⟩:=H;go_wp2;go_ret3;exact ⟨by first|rfl|(simp;done)|(simp [*];done),by repeat (first|exact Drawn0.refl _|apply Drawn0.step)⟩
      rw [if_pos c15] at H;have c15b0:decide ((wrap64 (bt a0 a1))≤244)=true:=decide_eq_true c15;clear c15;have H':=mk0 H;clear H;go_wp2;go_meet
      case rel=>exact ⟨_,(wrap64 ((wrap64 (bt a0 a1)) - 240)),(3),(65536),zq6,zq6,zq6,H',⟨by have:=HJ7.out;have:=HJ10.out;first|omega|exact Nat.le_refl _⟩,by repeat (first|exact Drawn0.refl _|apply Drawn0.step)⟩
 case rest =>
  clear HC6
  try clear c1
  try clear p2
  try clear c3
  try clear c3b0
  try clear c4
  try clear c4b0
  try clear p5
  try clear q5
  try clear hx5
  try clear p6
  try clear c7
  try clear c7b0
  try clear c8
  try clear c9
  try clear c9b0
  try clear c10
  try clear c12
  try clear c12b0
  try clear c13
  try clear c14
  try clear c14b0
  try clear c15
  try clear c15b0
  try clear p2
  try clear p5
  try clear p6
  try clear q5
  obtain ⟨kq,x7_5,x8_5,x9_5,rfl,rfl,rfl,HA,HJ5,⟨mc5,rfl⟩⟩:=hcut;cases kq with
  | zero=>exact absurd HA.out (by simp [j1b.j2])
  | succ kj5 =>
   have H:=HA.out;clear HA;simp only [j1b.j2] at H;by_cases c16:(wrap64 ((a0.size:Int) - a1))≤x8_5
   ·rw [if_pos c16] at H;have c16b0:decide ((wrap64 ((a0.size:Int) - a1))≤x8_5)=true:=decide_eq_true c16;clear c16;simp only [Option.some.injEq,Prod.mk.injEq] at H;obtain ⟨rfl,rfl,rfl⟩:=H;go_wp2;go_ret3;exact ⟨by first|rfl|(simp;done)|(simp [*];done),by repeat (first|exact Drawn0.refl _|apply Drawn0.step)⟩
   rw [if_neg c16] at H;have c16b0:decide ((wrap64 ((a0.size:Int) - a1))≤x8_5)=false:=decide_eq_false c16;clear c16;have H':=mk0 H;clear H;go_wp2;go_loopg [7,10] kj5 (fun kq v7 v10 w'=>∃ (x7_2:Int) (x10_2:Int),v7 = .int .i64 x7_2∧v10 = .int .i64 x10_2∧Aside0 (j1b.l0 kq a0 a1 x7_2 x8_5 x9_5 x10_2=some (r1,r2,r3))∧Aside0 (kq≤kj5)∧Drawn0 w w')
   case atStart=>exact ⟨(x7_5),(1),zq6,zq6,H',⟨Nat.le_refl _⟩,by repeat (first|exact Drawn0.refl _|apply Drawn0.step)⟩
   case round =>
    clear H'
    try clear c1
    try clear p2
    try clear c3
    try clear c3b0
    try clear c4
    try clear c4b0
    try clear c5
    try clear p5
    try clear q5
    try clear hx5
    try clear p6
    try clear c7
    try clear c7b0
    try clear c8
    try clear c9
    try clear c9b0
    try clear c10
    try clear c12
    try clear c12b0
    try clear c13
    try clear c14
    try clear c14b0
    try clear c15
    try clear c15b0
    try clear c16
    try clear c16b0
    try clear p2
    try clear p5
    try clear p6
    try clear q5
    obtain ⟨x7_2,x10_2,rfl,rfl,HA,HK2,⟨m2,rfl⟩⟩:=hrel;cases gk with
    | zero=>exact absurd HA.out (by simp [j1b.l0])
    | succ k2 =>
     have H:=HA.out;clear HA;simp only [j1b.l0] at H;by_cases c17:x10_2≤x8_5
     rotate_left
     ·rw [if_neg c17] at H;have c17b0:decide (x10_2≤x8_5)=false:=decide_eq_false c17;clear c17;by_cases c24:x7_2<x9_5
      ·rw [if_pos c24] at H;have c24b0:decide (x7_2<x9_5)=true:=decide_eq_true c24;clear c24;simp only [Option.some.injEq,Prod.mk.injEq] at H;obtain ⟨rfl,rfl,rfl⟩:=H;go_wp2;go_ret3;exact ⟨by first|rfl|(simp;done)|(simp [*];done),by repeat (first|exact Drawn0.refl _|apply Drawn0.step)⟩
      rw [if_neg c24] at H;have c24b0:decide (x7_2<x9_5)=false:=decide_eq_false c24;clear c24;by_cases c25:x7_2>1114111
      ·rw [if_pos c25] at H;have c25b0:decide (1114111<x7_2)=true:=decide_eq_true c25;clear c25;simp only [Option.some.injEq,Prod.mk.injEq] at H;obtain ⟨rfl,rfl,rfl⟩:=H;go_wp2;go_ret3;exact ⟨by first|rfl|(simp;done)|(simp [*];done),by repeat (first|exact Drawn0.refl _|apply Drawn0.step)⟩
      rw [if_neg c25] at H;have c25b0:decide (1114111<x7_2)=false:=decide_eq_false c25;clear c25;replace H:=Option.bind_eq_some_iff.mp H;obtain ⟨t101,A260,H⟩:=H;replace H:(if t101=true then (some (65533,1,false)) else ((spec_low.f x7_2).bind fun t102=>(if t102=true then (some (65533,1,false)) else (some (x7_2,wrap64 (x8_5+1),true)))))=some (r1,r2,r3):=H;have A26:=mk0 A260;clear A260;by_cases c27:t101=true
      ·subst c27;have H1:(some (65533,1,false))=some (r1,r2,r3):=by rw [if_pos rfl] at H;exact H
       clear H;have H:=H1;clear H1;simp only [Option.some.injEq,Prod.mk.injEq] at H;obtain ⟨rfl,rfl,rfl⟩:=H;go_wp2_with (first|(go_at_call 12;(with_reducible refine (spec_high.calls x7_2 true _ A26.out).mono ?_);rintro e w' ⟨rfl,⟨nd,rfl⟩⟩))
       go_ret3;exact zl3
      replace c27:=Bool.eq_false_iff.mpr c27;subst c27;have H1:((spec_low.f x7_2).bind fun t102=>(if t102=true then (some (65533,1,false)) else (some (x7_2,wrap64 (x8_5+1),true))))=some (r1,r2,r3):=by rw [if_neg (show ¬ (false=true) by decide)] at H;exact H
      clear H;have H:=H1;clear H1;replace H:=Option.bind_eq_some_iff.mp H;obtain ⟨t102,A280,H⟩:=H;replace H:(if t102=true then (some (65533,1,false)) else (some (x7_2,wrap64 (x8_5+1),true)))=some (r1,r2,r3):=H;have A28:=mk0 A280;clear A280;by_cases c29:t102=true
      ·subst c29;have H1:(some (65533,1,false))=some (r1,r2,r3):=by rw [if_pos rfl] at H;exact H
       clear H;have H:=H1;clear H1;simp only [Option.some.injEq,Prod.mk.injEq] at H;obtain ⟨rfl,rfl,rfl⟩:=H;go_wp2_with (first|(go_at_call 12;(with_reducible refine (spec_high.calls x7_2 false _ A26.out).mono ?_);rintro e w' ⟨rfl,⟨nd,rfl⟩⟩)|(go_at_call 13;(with_reducible refine (spec_low.calls x7_2 true _ A28.out).mono ?_);rintro e w' ⟨rfl,⟨nd,rfl⟩⟩))
       go_ret3;exact zl3
      replace c29:=Bool.eq_false_iff.mpr c29;subst c29;have H1:(some (x7_2,wrap64 (x8_5+1),true))=some (r1,r2,r3):=by rw [if_neg (show ¬ (false=true) by decide)] at H;exact H
      clear H;have H:=H1;clear H1;simp only [Option.some.injEq,Prod.mk.injEq] at H;obtain ⟨rfl,rfl,rfl⟩:=H;go_wp2_with (first|(go_at_call 12;(with_reducible refine (spec_high.calls x7_2 false _ A26.out).mono ?_);rintro e w' ⟨rfl,⟨nd,rfl⟩⟩)|(go_at_call 13;(with_reducible refine (spec_low.calls x7_2 false _ A28.out).mono ?_);rintro e w' ⟨rfl,⟨nd,rfl⟩⟩))
      go_ret3;exact zl3
     rw [if_pos c17] at H;have c17b0:decide (x10_2≤x8_5)=true:=decide_eq_true c17;clear c17;obtain ⟨ji18,hji18⟩:∃ j_:Int,(wrap64 (a1+x10_2))=j_:=⟨_,rfl⟩;replace H:(if 0≤(ji18) then (if (ji18)<(a0.size:Int) then (if (wrap64 (bt a0 (ji18)))<128 then (some (65533,1,false)) else (if (wrap64 (bt a0 (ji18)))>191 then (some (65533,1,false)) else (j1b.l0 k2 a0 a1 (wrap64 ((wrap64 ((wrap64 (x7_2*64))+(wrap64 (bt a0 (ji18))))) - 128)) x8_5 x9_5 (wrap64 (x10_2+1))))) else (none)) else (none))=some (r1,r2,r3):=by first|(rw [hji18] at H;exact H)|(simp only [hji18] at H ⊢; exact H)
     have hji18w:(IntKind.i64.wrap (a1+x10_2))=ji18:=(i64_w _).trans hji18;by_cases c19:0≤(ji18)
     rotate_left
     ·rw [if_neg c19] at H;exact absurd H (by simp)
     rw [if_pos c19] at H;have c19b0:decide (0≤(ji18))=true:=decide_eq_true c19;clear c19;by_cases c20:(ji18)<(a0.size:Int)
     rotate_left
     ·rw [if_neg c20] at H;exact absurd H (by simp)
     rw [if_pos c20] at H;have c20b0:decide ((ji18)<(a0.size:Int))=true:=decide_eq_true c20;clear c20;by_cases c22:(wrap64 (bt a0 (ji18)))<128
     ·rw [if_pos c22] at H;have c22b0:decide ((wrap64 (bt a0 (ji18)))<128)=true:=decide_eq_true c22;clear c22;simp only [Option.some.injEq,Prod.mk.injEq] at H;obtain ⟨rfl,rfl,rfl⟩:=H;have p21:0≤((ji18):Int):=of_decide_eq_true zq1;have q21:(ji18)<(a0.size:Int):=of_decide_eq_true zq1;have hx21:=bt_at a0 (ji18);replace p21:=eq_true p21;replace q21:=eq_true q21;go_wp2;go_ret3;exact ⟨by first|rfl|(simp;done)|(simp only [← hji18]<;>(first|rfl|(simp;done)))|(simp only [← hji18];done)|(simp only [← hji18];rfl)|(simp [*];done),by repeat (first|exact Drawn0.refl _|apply Drawn0.step)⟩
     rw [if_neg c22] at H;have c22b0:decide ((wrap64 (bt a0 (ji18)))<128)=false:=decide_eq_false c22;clear c22;by_cases c23:(wrap64 (bt a0 (ji18)))>191
     ·rw [if_pos c23] at H;have c23b0:decide (191<(wrap64 (bt a0 (ji18))))=true:=decide_eq_true c23;clear c23;simp only [Option.some.injEq,Prod.mk.injEq] at H;obtain ⟨rfl,rfl,rfl⟩:=H;have p21:0≤((ji18):Int):=of_decide_eq_true zq1;have q21:(ji18)<(a0.size:Int):=of_decide_eq_true zq1;have hx21:=bt_at a0 (ji18);replace p21:=eq_true p21;replace q21:=eq_true q21;go_wp2;go_ret3;exact ⟨by first|rfl|(simp;done)|(simp only [← hji18]<;>(first|rfl|(simp;done)))|(simp only [← hji18];done)|(simp only [← hji18];rfl)|(simp [*];done),by repeat (first|exact Drawn0.refl _|apply Drawn0.step)⟩
     rw [if_neg c23] at H;have c23b0:decide (191<(wrap64 (bt a0 (ji18))))=false:=decide_eq_false c23;clear c23;have H':=mk0 H;clear H;have p21:0≤((ji18):Int):=of_decide_eq_true zq1;have q21:(ji18)<(a0.size:Int):=of_decide_eq_true zq1;have hx21:=bt_at a0 (ji18);replace p21:=eq_true p21;replace q21:=eq_true q21;go_wp2;(try simp only [← hji18]);go_roundg k2
     case measure=>have:=HJ5.out;have:=HK2.out;omega
     case rel=>(try simp only [hji18]);exact ⟨(wrap64 ((wrap64 ((wrap64 (x7_2*64))+(wrap64 (bt a0 (ji18))))) - 128)),(wrap64 (x10_2+1)),(by first|with_reducible rfl|(simp only [← hji18];done)|rfl|(simp;done)|(simp only [← hji18]<;>(first|rfl|(simp;done)))|(simp only [← hji18];done)|(simp only [← hji18];rfl)|(simp [*];done)),(by first|with_reducible rfl|(simp only [← hji18];done)|rfl|(simp;done)|(simp [*];done)),(by first|exact H'|(simp only [← hji18] at H' ⊢; exact H')),⟨by have:=HJ5.out;have:=HK2.out;omega⟩,by repeat (first|exact Drawn0.refl _|apply Drawn0.step)⟩
def j1v.l0 : Nat → ByteArray→Int→Option (Bool)
  | 0,_,_=>none
  | k+1,x0,x3=>if x3<(x0.size:Int) then ((j1b.f k x0 x3).bind fun bt101=>(if bt101.2.2=true then (j1v.l0 k x0 (wrap64 (x3+bt101.2.1))) else (some false))) else (some true)
def j1v.f (k : Nat) (a0:ByteArray):Option (Bool):=j1v.l0 k a0 0
theorem j1v.mono_l : ∀ k,(∀ y0 y1,LeO (j1v.l0 k y0 y1) (j1v.l0 (k+1) y0 y1))
 | 0=>fun _ _ r h=>by simp [j1v.l0] at h
 | k+1=>by
  have ih0:=j1v.mono_l k
  ·intro y0 y1;unfold j1v.l0
   exact zm
theorem j1v.mono : ∀ a0 k,LeO (j1v.f k a0) (j1v.f (k+1) a0):=by
 intro a0 k;have ih0:=j1v.mono_l k;unfold j1v.f
 exact zm
set_option maxHeartbeats 8000000 in
set_option maxRecDepth 100000 in
theorem j1v.calls (k : Nat) (a0:ByteArray) (r:Bool) (w:World) (h:j1v.f k a0=some r) :
 Calls Tryd.prog 4 #[.string a0] w fun e w'=>e = .returned (.bool r)∧Drawn0 w w':=by
 have H:(j1v.l0 k a0 0)=some r:=h;clear h;have H':=mk0 H;clear H;go_enter Tryd.func4,Tryd.ntmps4;go_wp2;go_loopg [3] k (fun kq v3 w'=>∃ (x3_1:Int),v3 = .int .i64 x3_1∧Aside0 (j1v.l0 kq a0 x3_1=some r)∧Aside0 (kq≤k)∧Drawn0 w w')
 case atStart=>exact ⟨(0),zq6,H',⟨Nat.le_refl _⟩,by repeat (first|exact Drawn0.refl _|apply Drawn0.step)⟩
 case round =>
  clear H';obtain ⟨x3_1,rfl,HA,HK1,⟨m1,rfl⟩⟩:=hrel;cases gk with
  | zero=>exact absurd HA.out (by simp [j1v.l0])
  | succ k1 =>
   have H:=HA.out;clear HA;simp only [j1v.l0] at H;by_cases c2:x3_1<(a0.size:Int)
   rotate_left
   ·rw [if_neg c2] at H;have c2b0:decide (x3_1<(a0.size:Int))=false:=decide_eq_false c2;clear c2;obtain rfl:=Option.some.inj H;go_wp2;go_ret;exact ⟨by first|rfl|(simp;done)|(simp [*];done),by repeat (first|exact Drawn0.refl _|apply Drawn0.step)⟩
   rw [if_pos c2] at H;have c2b0:decide (x3_1<(a0.size:Int))=true:=decide_eq_true c2;clear c2;replace H:=Option.bind_eq_some_iff.mp H;obtain ⟨⟨t101,t102,t103⟩,A30,H⟩:=H;replace H:(if t103=true then (j1v.l0 k1 a0 (wrap64 (x3_1+t102))) else (some false))=some r:=H;have A3:=mk0 A30;clear A30;by_cases c4:t103=true
   rotate_left
   ·replace c4:=Bool.eq_false_iff.mpr c4;subst c4;have H1:(some false)=some r:=by rw [if_neg (show ¬ (false=true) by decide)] at H;exact H
    clear H;have H:=H1;clear H1;obtain rfl:=Option.some.inj H;go_wp2_with (first|((with_reducible refine j1z (f:=8) rfl ?_);refine j2l (some 14) rfl rfl Tryd.func8 zq12 rfl #[.string a0, .int .i64 x3_1] rfl zq3 ?_;(with_reducible refine (j1b.calls k1 a0 x3_1 t101 t102 false _ A3.out).mono ?_);rintro e w' ⟨rfl,⟨nd,rfl⟩⟩;refine ⟨_,rfl,?_⟩))
    go_ret;exact zl3
   subst c4;have H1:(j1v.l0 k1 a0 (wrap64 (x3_1+t102)))=some r:=by rw [if_pos rfl] at H;exact H
   clear H;have H:=H1;clear H1;have H':=mk0 H;clear H;go_wp2_with (first|((with_reducible refine j1z (f:=8) rfl ?_);refine j2l (some 14) rfl rfl Tryd.func8 zq12 rfl #[.string a0, .int .i64 x3_1] rfl zq3 ?_;(with_reducible refine (j1b.calls k1 a0 x3_1 t101 t102 true _ A3.out).mono ?_);rintro e w' ⟨rfl,⟨nd,rfl⟩⟩;refine ⟨_,rfl,?_⟩))
   go_roundg k1
   case measure=>have:=HK1.out;omega
   case rel=>exact ⟨(wrap64 (x3_1+t102)),zq6,H',⟨by have:=HK1.out;omega⟩,by repeat (first|exact Drawn0.refl _|apply Drawn0.step)⟩
def j1o.f (l0 : List Int) (a1:Int):Option (List Int):=if 0≤(Go.bits .and .u16 (a1 / 4096) 15) then (if (Go.bits .and .u16 (a1 / 4096) 15)<16 then (if 0≤(Go.bits .and .u16 (a1 / 256) 15) then (if (Go.bits .and .u16 (a1 / 256) 15)<16 then (if 0≤(Go.bits .and .u16 (a1 / 16) 15) then (if (Go.bits .and .u16 (a1 / 16) 15)<16 then (if 0≤(Go.bits .and .u16 a1 15) then (if (Go.bits .and .u16 a1 15)<16 then ((some (([bt (⟨#[48,49,50,51,52,53,54,55,56,57,97,98,99,100,101,102]⟩:ByteArray) (Go.bits .and .u16 (a1 / 4096) 15),bt (⟨#[48,49,50,51,52,53,54,55,56,57,97,98,99,100,101,102]⟩:ByteArray) (Go.bits .and .u16 (a1 / 256) 15),bt (⟨#[48,49,50,51,52,53,54,55,56,57,97,98,99,100,101,102]⟩:ByteArray) (Go.bits .and .u16 (a1 / 16) 15),bt (⟨#[48,49,50,51,52,53,54,55,56,57,97,98,99,100,101,102]⟩:ByteArray) (Go.bits .and .u16 a1 15)]:List Int):List Int)).bind fun y101=>(if l0.length+y101.length<140737488355328 then (some (l0++y101)) else (none))) else (none)) else (none)) else (none)) else (none)) else (none)) else (none)) else (none)) else (none)
def j1o.T1 : Bool × List (List Nat × List Nat):=(true,[([],[]),([],[]),([1],[1]),([2],[2]),([3],[3]),([4],[4]),([],[]),([6],[6]),([7],[7]),([8],[8]),([9],[9]),([],[]),([11],[11]),([12],[12]),([13],[13]),([14],[14]),([],[]),([16],[16]),([17],[17]),([18],[18]),([19],[19]),([5,10,15,20],[5,10,15,20]),([0,21],[0,21]),([22,22,0,1,2,3,4,5,6,7,8,9,10,11,12,13,14,15,16,17,18,19,20,21,22],[22])])
def j1o.B1 : List Nat:=[0,0,2,6,14,30,0,64,192,448,960,0,2048,6144,14336,30720,0,65536,196608,458752,983040,2097150,4194303,8388607]
theorem j1o.tab1 : rtab .any (opsOf Tryd.f14 1)=j1o.T1:=by kernel_rfl
theorem j1o.bits1 : waitsOk j1o.T1.2 j1o.B1=true:=by kernel_rfl
set_option maxHeartbeats 8000000 in
set_option maxRecDepth 100000 in
theorem j1o.calls (P0_ : Nat→Prop) (u9000_:Value) (l0:List Int) (a1:Int) (r:List Int) (w0 w:World) (hB:Below w0.heap.size w0 w) (ho0:Kd.R (Kd.int .u8) 5 w w0.heap.size P0_ u9000_ l0) (hG:Laid w0) (h:j1o.f l0 a1=some r) :
 Calls Tryd.prog 14 #[u9000_, .int .u16 a1] w fun e w'=>∃ v0_:Value,e = .returned (v0_)∧Kd.R (Kd.int .u8) 5 w' w0.heap.size (fun k_=>(P0_ k_∨w.heap.size≤k_)) v0_ r∧Below w0.heap.size w0 w'∧Kept w w' (fun k_=>P0_ k_):=by
 have HG:=mk0 hG;clear hG;have HO0:=mk0 (show Kd.R (Kd.int .u8) 5 w w0.heap.size (fun k_=>(P0_ k_∨w.heap.size≤k_)) u9000_ l0 from Kd.R_mono ho0 (fun k_ hk=>(.inl hk)));have HK:=mk0 (Kept.refl w (fun k_=>P0_ k_));have HW0:=mk0 hB.size;have HB:=mk0 hB;clear hB;have H:(if 0≤(Go.bits .and .u16 (a1 / 4096) 15) then (if (Go.bits .and .u16 (a1 / 4096) 15)<16 then (if 0≤(Go.bits .and .u16 (a1 / 256) 15) then (if (Go.bits .and .u16 (a1 / 256) 15)<16 then (if 0≤(Go.bits .and .u16 (a1 / 16) 15) then (if (Go.bits .and .u16 (a1 / 16) 15)<16 then (if 0≤(Go.bits .and .u16 a1 15) then (if (Go.bits .and .u16 a1 15)<16 then ((some (([bt (⟨#[48,49,50,51,52,53,54,55,56,57,97,98,99,100,101,102]⟩:ByteArray) (Go.bits .and .u16 (a1 / 4096) 15),bt (⟨#[48,49,50,51,52,53,54,55,56,57,97,98,99,100,101,102]⟩:ByteArray) (Go.bits .and .u16 (a1 / 256) 15),bt (⟨#[48,49,50,51,52,53,54,55,56,57,97,98,99,100,101,102]⟩:ByteArray) (Go.bits .and .u16 (a1 / 16) 15),bt (⟨#[48,49,50,51,52,53,54,55,56,57,97,98,99,100,101,102]⟩:ByteArray) (Go.bits .and .u16 a1 15)]:List Int):List Int)).bind fun y101=>(if l0.length+y101.length<140737488355328 then (some (l0++y101)) else (none))) else (none)) else (none)) else (none)) else (none)) else (none)) else (none)) else (none)) else (none))=some r:=h;clear h;obtain ⟨ji3,hji3⟩:∃ j_:Int,(Go.bits .and .u16 (a1 / 4096) 15)=j_:=⟨_,rfl⟩;replace H:(if 0≤(ji3) then (if (ji3)<16 then (if 0≤(Go.bits .and .u16 (a1 / 256) 15) then (if (Go.bits .and .u16 (a1 / 256) 15)<16 then (if 0≤(Go.bits .and .u16 (a1 / 16) 15) then (if (Go.bits .and .u16 (a1 / 16) 15)<16 then (if 0≤(Go.bits .and .u16 a1 15) then (if (Go.bits .and .u16 a1 15)<16 then ((some (([bt (⟨#[48,49,50,51,52,53,54,55,56,57,97,98,99,100,101,102]⟩:ByteArray) (ji3),bt (⟨#[48,49,50,51,52,53,54,55,56,57,97,98,99,100,101,102]⟩:ByteArray) (Go.bits .and .u16 (a1 / 256) 15),bt (⟨#[48,49,50,51,52,53,54,55,56,57,97,98,99,100,101,102]⟩:ByteArray) (Go.bits .and .u16 (a1 / 16) 15),bt (⟨#[48,49,50,51,52,53,54,55,56,57,97,98,99,100,101,102]⟩:ByteArray) (Go.bits .and .u16 a1 15)]:List Int):List Int)).bind fun y101=>(if l0.length+y101.length<140737488355328 then (some (l0++y101)) else (none))) else (none)) else (none)) else (none)) else (none)) else (none)) else (none)) else (none)) else (none))=some r:=by first|(rw [hji3] at H;exact H)|(simp only [hji3] at H ⊢; exact H)
 by_cases c4:0≤(ji3)
 rotate_left
 ·rw [if_neg c4] at H;exact absurd H (by simp)
 rw [if_pos c4] at H;have c4b0:decide (0≤(ji3))=true:=decide_eq_true c4;clear c4;by_cases c5:(ji3)<16
 rotate_left
 ·rw [if_neg c5] at H;exact absurd H (by simp)
 rw [if_pos c5] at H;have c5b0:decide ((ji3)<16)=true:=decide_eq_true c5;clear c5;obtain ⟨ji7,hji7⟩:∃ j_:Int,(Go.bits .and .u16 (a1 / 256) 15)=j_:=⟨_,rfl⟩;replace H:(if 0≤(ji7) then (if (ji7)<16 then (if 0≤(Go.bits .and .u16 (a1 / 16) 15) then (if (Go.bits .and .u16 (a1 / 16) 15)<16 then (if 0≤(Go.bits .and .u16 a1 15) then (if (Go.bits .and .u16 a1 15)<16 then ((some (([bt (⟨#[48,49,50,51,52,53,54,55,56,57,97,98,99,100,101,102]⟩:ByteArray) (ji3),bt (⟨#[48,49,50,51,52,53,54,55,56,57,97,98,99,100,101,102]⟩:ByteArray) (ji7),bt (⟨#[48,49,50,51,52,53,54,55,56,57,97,98,99,100,101,102]⟩:ByteArray) (Go.bits .and .u16 (a1 / 16) 15),bt (⟨#[48,49,50,51,52,53,54,55,56,57,97,98,99,100,101,102]⟩:ByteArray) (Go.bits .and .u16 a1 15)]:List Int):List Int)).bind fun y101=>(if l0.length+y101.length<140737488355328 then (some (l0++y101)) else (none))) else (none)) else (none)) else (none)) else (none)) else (none)) else (none))=some r:=by first|(rw [hji7] at H;exact H)|(simp only [hji7] at H ⊢; exact H)
 by_cases c8:0≤(ji7)
 rotate_left
 ·rw [if_neg c8] at H;exact absurd H (by simp)
 rw [if_pos c8] at H;have c8b0:decide (0≤(ji7))=true:=decide_eq_true c8;clear c8;by_cases c9:(ji7)<16
 rotate_left
 ·rw [if_neg c9] at H;exact absurd H (by simp)
 rw [if_pos c9] at H;have c9b0:decide ((ji7)<16)=true:=decide_eq_true c9;clear c9;obtain ⟨ji11,hji11⟩:∃ j_:Int,(Go.bits .and .u16 (a1 / 16) 15)=j_:=⟨_,rfl⟩;replace H:(if 0≤(ji11) then (if (ji11)<16 then (if 0≤(Go.bits .and .u16 a1 15) then (if (Go.bits .and .u16 a1 15)<16 then ((some (([bt (⟨#[48,49,50,51,52,53,54,55,56,57,97,98,99,100,101,102]⟩:ByteArray) (ji3),bt (⟨#[48,49,50,51,52,53,54,55,56,57,97,98,99,100,101,102]⟩:ByteArray) (ji7),bt (⟨#[48,49,50,51,52,53,54,55,56,57,97,98,99,100,101,102]⟩:ByteArray) (ji11),bt (⟨#[48,49,50,51,52,53,54,55,56,57,97,98,99,100,101,102]⟩:ByteArray) (Go.bits .and .u16 a1 15)]:List Int):List Int)).bind fun y101=>(if l0.length+y101.length<140737488355328 then (some (l0++y101)) else (none))) else (none)) else (none)) else (none)) else (none))=some r:=by first|(rw [hji11] at H;exact H)|(simp only [hji11] at H ⊢; exact H)
 by_cases c12:0≤(ji11)
 rotate_left
 ·rw [if_neg c12] at H;exact absurd H (by simp)
 rw [if_pos c12] at H;have c12b0:decide (0≤(ji11))=true:=decide_eq_true c12;clear c12;by_cases c13:(ji11)<16
 rotate_left
 ·rw [if_neg c13] at H;exact absurd H (by simp)
 rw [if_pos c13] at H;have c13b0:decide ((ji11)<16)=true:=decide_eq_true c13;clear c13;by_cases c15:0≤(Go.bits .and .u16 a1 15)
 rotate_left
 ·rw [if_neg c15] at H;exact absurd H (by simp)
 rw [if_pos c15] at H;have c15b0:decide (0≤(Go.bits .and .u16 a1 15))=true:=decide_eq_true c15;clear c15;by_cases c16:(Go.bits .and .u16 a1 15)<16
 rotate_left
 ·rw [if_neg c16] at H;exact absurd H (by simp)
 rw [if_pos c16] at H;have c16b0:decide ((Go.bits .and .u16 a1 15)<16)=true:=decide_eq_true c16;clear c16;obtain ⟨y101,hy101⟩:∃ y_:List Int,y_=(([bt (⟨#[48,49,50,51,52,53,54,55,56,57,97,98,99,100,101,102]⟩:ByteArray) (ji3),bt (⟨#[48,49,50,51,52,53,54,55,56,57,97,98,99,100,101,102]⟩:ByteArray) (ji7),bt (⟨#[48,49,50,51,52,53,54,55,56,57,97,98,99,100,101,102]⟩:ByteArray) (ji11),bt (⟨#[48,49,50,51,52,53,54,55,56,57,97,98,99,100,101,102]⟩:ByteArray) (Go.bits .and .u16 a1 15)]:List Int)):=⟨_,rfl⟩;replace H:(if l0.length+y101.length<140737488355328 then (some (l0++y101)) else (none))=some r:=by first|(rw [hy101];with_reducible exact H)|(have H2_:=(Option.bind_some _ _).symm.trans H;rw [hy101];with_reducible exact H2_)|(have H2_:=(Option.bind_some _ _).symm.trans H;with_reducible exact H2_)|with_reducible exact H|(rw [hy101];exact H)|exact H
 have Ny101:=mk0 hy101;clear hy101;by_cases c18:l0.length+y101.length<140737488355328
 rotate_left
 ·rw [if_neg c18] at H;exact absurd H (by simp)
 rw [if_pos c18] at H;have LMc18:=mk0 c18;clear c18;obtain ⟨y104,hy104⟩:∃ y_:List Int,y_=(l0++y101):=⟨_,rfl⟩;replace H:(some y104)=some r:=by first|(rw [hy104];with_reducible exact H)|(have H2_:=(Option.bind_some _ _).symm.trans H;rw [hy104];with_reducible exact H2_)|(have H2_:=(Option.bind_some _ _).symm.trans H;with_reducible exact H2_)|with_reducible exact H|(rw [hy104];exact H)|exact H
 have Ny104:=mk0 hy104;clear hy104;obtain rfl:=Option.some.inj H;go_enter Tryd.func14,Tryd.ntmps14
 try go_wp2
 have n0_:=mk0 (Kd.R_drew HO0.out);have n1_:=mk0 (Kept.drew HK.out);have n2_:=mk0 (j1h HB.out);clear HO0;clear HK;clear HB;have HO0:=n0_;have HK:=n1_;have HB:=n2_;clear n0_ n1_ n2_;have p6:0≤((ji3):Int):=of_decide_eq_true zq1;have q6:(ji3)<(16:Int):=of_decide_eq_true zq1;have hx6:=bt_at (⟨#[48,49,50,51,52,53,54,55,56,57,97,98,99,100,101,102]⟩:ByteArray) (ji3);replace p6:=eq_true p6;replace q6:=eq_true q6;have p10:0≤((ji7):Int):=of_decide_eq_true zq1;have q10:(ji7)<(16:Int):=of_decide_eq_true zq1;have hx10:=bt_at (⟨#[48,49,50,51,52,53,54,55,56,57,97,98,99,100,101,102]⟩:ByteArray) (ji7);replace p10:=eq_true p10;replace q10:=eq_true q10;have p14:0≤((ji11):Int):=of_decide_eq_true zq1;have q14:(ji11)<(16:Int):=of_decide_eq_true zq1;have hx14:=bt_at (⟨#[48,49,50,51,52,53,54,55,56,57,97,98,99,100,101,102]⟩:ByteArray) (ji11);replace p14:=eq_true p14;replace q14:=eq_true q14;have p17:0≤((Go.bits .and .u16 a1 15):Int):=of_decide_eq_true zq1;have q17:(Go.bits .and .u16 a1 15)<(16:Int):=of_decide_eq_true zq1;have hx17:=bt_at (⟨#[48,49,50,51,52,53,54,55,56,57,97,98,99,100,101,102]⟩:ByteArray) (Go.bits .and .u16 a1 15);replace p17:=eq_true p17;replace q17:=eq_true q17;refine start_ (n:=24) (S:=fun w'=>w'.cell? ⟨0,((ji3)).toNat,none⟩=some (.int .u8 (bt (⟨#[48,49,50,51,52,53,54,55,56,57,97,98,99,100,101,102]⟩:ByteArray) (ji3)))∧w'.cell? ⟨0,((ji7)).toNat,none⟩=some (.int .u8 (bt (⟨#[48,49,50,51,52,53,54,55,56,57,97,98,99,100,101,102]⟩:ByteArray) (ji7)))∧w'.cell? ⟨0,((ji11)).toNat,none⟩=some (.int .u8 (bt (⟨#[48,49,50,51,52,53,54,55,56,57,97,98,99,100,101,102]⟩:ByteArray) (ji11)))∧w'.cell? ⟨0,((Go.bits .and .u16 a1 15)).toNat,none⟩=some (.int .u8 (bt (⟨#[48,49,50,51,52,53,54,55,56,57,97,98,99,100,101,102]⟩:ByteArray) (Go.bits .and .u16 a1 15)))) (ds:=[22]) #[false,false,false,false,false,false,false,false,false,false,false,false,false,false,false,false,false,false,false,false,false,false,false,false] zq12 rfl rfl ⟨(by exact Laid.hexchars zq11 _ (of_eq_true p6) (of_eq_true q6)),(by exact Laid.hexchars zq11 _ (of_eq_true p10) (of_eq_true q10)),(by exact Laid.hexchars zq11 _ (of_eq_true p14) (of_eq_true q14)),(by exact Laid.hexchars zq11 _ (of_eq_true p17) (of_eq_true q17))⟩ (fun hHeld=>?_);refine with_tabW j1o.tab1 j1o.bits1 (fun HT_ HW_=>?_)
 generalize w.drew=w19 at HO0 HK HB hHeld ⊢
 refine pure_ (i:=0) (N:=some 5) (v:=?_) (a':=?_) #[true,false,false,false,false,false,false,false,false,false,false,false,false,false,false,false,false,false,false,false,false,false,false,false] rfl rfl (j1y HT_.out zq12) (fun _ _ _ h=>h) (Or.inl ⟨by rfl,?_⟩) ?_ ?_;rotate_left
 ·exact zl1
 rotate_left
 ·exact zl0
 refine pure_ (i:=1) (N:=some 6) (v:=?_) (a':=?_) #[true,true,false,false,false,false,false,false,false,false,false,false,false,false,false,false,false,false,false,false,false,false,false,false] rfl rfl (j1y HT_.out zq12) (fun _ _ _ h=>h) (Or.inl ⟨by rfl,?_⟩) ?_ ?_;rotate_left
 ·exact zl1
 rotate_left
 ·exact zl0
 refine pure_ (i:=2) (N:=some 7) (v:=?_) (a':=?_) #[true,true,true,false,false,false,false,false,false,false,false,false,false,false,false,false,false,false,false,false,false,false,false,false] rfl rfl (j1y HT_.out zq12) (fun _ _ _ h=>h) (Or.inl ⟨by rfl,?_⟩) ?_ ?_;rotate_left
 ·exact zl1
 rotate_left
 ·exact zl0
 refine pure_ (i:=3) (N:=some 8) (v:=?_) (a':=?_) #[true,true,true,true,false,false,false,false,false,false,false,false,false,false,false,false,false,false,false,false,false,false,false,false] rfl rfl (j1y HT_.out zq12) (fun _ _ _ h=>h) (Or.inl ⟨by rfl,?_⟩) ?_ ?_;rotate_left
 ·exact zl1
 rotate_left
 ·exact zl0
 refine pure_ (i:=4) (N:=some 9) (v:=?_) (a':=?_) #[true,true,true,true,true,false,false,false,false,false,false,false,false,false,false,false,false,false,false,false,false,false,false,false] rfl rfl (j1y HT_.out zq12) (fun _ _ _ h=>h) (Or.inl ⟨by rfl,?_⟩) ?_ ?_;rotate_left
 ·exact zl1
 rotate_left
 ·exact zl0
 refine pure_ (i:=6) (N:=some 11) (v:=?_) (a':=?_) #[true,true,true,true,true,false,true,false,false,false,false,false,false,false,false,false,false,false,false,false,false,false,false,false] rfl rfl (j1y HT_.out zq12) (fun _ _ _ h=>h) (Or.inl ⟨by rfl,?_⟩) ?_ ?_;rotate_left
 ·exact zl1
 rotate_left
 ·exact zl0
 refine pure_ (i:=7) (N:=some 12) (v:=?_) (a':=?_) #[true,true,true,true,true,false,true,true,false,false,false,false,false,false,false,false,false,false,false,false,false,false,false,false] rfl rfl (j1y HT_.out zq12) (fun _ _ _ h=>h) (Or.inl ⟨by rfl,?_⟩) ?_ ?_;rotate_left
 ·exact zl1
 rotate_left
 ·exact zl0
 refine pure_ (i:=8) (N:=some 13) (v:=?_) (a':=?_) #[true,true,true,true,true,false,true,true,true,false,false,false,false,false,false,false,false,false,false,false,false,false,false,false] rfl rfl (j1y HT_.out zq12) (fun _ _ _ h=>h) (Or.inl ⟨by rfl,?_⟩) ?_ ?_;rotate_left
 ·exact zl1
 rotate_left
 ·exact zl0
 refine pure_ (i:=9) (N:=some 14) (v:=?_) (a':=?_) #[true,true,true,true,true,false,true,true,true,true,false,false,false,false,false,false,false,false,false,false,false,false,false,false] rfl rfl (j1y HT_.out zq12) (fun _ _ _ h=>h) (Or.inl ⟨by rfl,?_⟩) ?_ ?_;rotate_left
 ·exact zl1
 rotate_left
 ·exact zl0
 refine pure_ (i:=11) (N:=some 16) (v:=?_) (a':=?_) #[true,true,true,true,true,false,true,true,true,true,false,true,false,false,false,false,false,false,false,false,false,false,false,false] rfl rfl (j1y HT_.out zq12) (fun _ _ _ h=>h) (Or.inl ⟨by rfl,?_⟩) ?_ ?_;rotate_left
 ·exact zl1
 rotate_left
 ·exact zl0
 refine pure_ (i:=12) (N:=some 17) (v:=?_) (a':=?_) #[true,true,true,true,true,false,true,true,true,true,false,true,true,false,false,false,false,false,false,false,false,false,false,false] rfl rfl (j1y HT_.out zq12) (fun _ _ _ h=>h) (Or.inl ⟨by rfl,?_⟩) ?_ ?_;rotate_left
 ·exact zl1
 rotate_left
 ·exact zl0
 refine pure_ (i:=13) (N:=some 18) (v:=?_) (a':=?_) #[true,true,true,true,true,false,true,true,true,true,false,true,true,true,false,false,false,false,false,false,false,false,false,false] rfl rfl (j1y HT_.out zq12) (fun _ _ _ h=>h) (Or.inl ⟨by rfl,?_⟩) ?_ ?_;rotate_left
 ·exact zl1
 rotate_left
 ·exact zl0
 refine pure_ (i:=14) (N:=some 19) (v:=?_) (a':=?_) #[true,true,true,true,true,false,true,true,true,true,false,true,true,true,true,false,false,false,false,false,false,false,false,false] rfl rfl (j1y HT_.out zq12) (fun _ _ _ h=>h) (Or.inl ⟨by rfl,?_⟩) ?_ ?_;rotate_left
 ·exact zl1
 rotate_left
 ·exact zl0
 refine pure_ (i:=16) (N:=some 21) (v:=?_) (a':=?_) #[true,true,true,true,true,false,true,true,true,true,false,true,true,true,true,false,true,false,false,false,false,false,false,false] rfl rfl (j1y HT_.out zq12) (fun _ _ _ h=>h) (Or.inl ⟨by rfl,?_⟩) ?_ ?_;rotate_left
 ·exact zl1
 rotate_left
 ·exact zl0
 refine pure_ (i:=17) (N:=some 22) (v:=?_) (a':=?_) #[true,true,true,true,true,false,true,true,true,true,false,true,true,true,true,false,true,true,false,false,false,false,false,false] rfl rfl (j1y HT_.out zq12) (fun _ _ _ h=>h) (Or.inl ⟨by rfl,?_⟩) ?_ ?_;rotate_left
 ·exact zl1
 rotate_left
 ·exact zl0
 refine pure_ (i:=18) (N:=some 23) (v:=?_) (a':=?_) #[true,true,true,true,true,false,true,true,true,true,false,true,true,true,true,false,true,true,true,false,false,false,false,false] rfl rfl (j1y HT_.out zq12) (fun _ _ _ h=>h) (Or.inl ⟨by rfl,?_⟩) ?_ ?_;rotate_left
 ·exact zl1
 rotate_left
 ·exact zl0
 refine pure_ (i:=19) (N:=some 24) (v:=?_) (a':=?_) #[true,true,true,true,true,false,true,true,true,true,false,true,true,true,true,false,true,true,true,true,false,false,false,false] rfl rfl (j1y HT_.out zq12) (fun _ _ _ h=>h) (Or.inl ⟨by rfl,?_⟩) ?_ ?_;rotate_left
 ·exact zl1
 rotate_left
 ·exact zl0
 refine take_ (i:=5) (N:=some 10) (v:=?_) (a':=?_) #[true,true,true,true,true,true,true,true,true,true,false,true,true,true,true,false,true,true,true,true,false,false,false,false] rfl rfl (take_ofW HT_.out HW_.out zq12) (fun _ _ _ h=>h) (Or.inl ⟨by rfl,?_⟩) hHeld ?_ ?_;rotate_left
 ·exact zl8
 rotate_left
 ·exact zl0
 refine take_ (i:=10) (N:=some 15) (v:=?_) (a':=?_) #[true,true,true,true,true,true,true,true,true,true,true,true,true,true,true,false,true,true,true,true,false,false,false,false] rfl rfl (take_ofW HT_.out HW_.out zq12) (fun _ _ _ h=>h) (Or.inl ⟨by rfl,?_⟩) hHeld ?_ ?_;rotate_left
 ·exact zl8
 rotate_left
 ·exact zl0
 refine take_ (i:=15) (N:=some 20) (v:=?_) (a':=?_) #[true,true,true,true,true,true,true,true,true,true,true,true,true,true,true,true,true,true,true,true,false,false,false,false] rfl rfl (take_ofW HT_.out HW_.out zq12) (fun _ _ _ h=>h) (Or.inl ⟨by rfl,?_⟩) hHeld ?_ ?_;rotate_left
 ·exact zl8
 rotate_left
 ·exact zl0
 refine take_ (i:=20) (N:=some 25) (v:=?_) (a':=?_) #[true,true,true,true,true,true,true,true,true,true,true,true,true,true,true,true,true,true,true,true,true,false,false,false] rfl rfl (take_ofW HT_.out HW_.out zq12) (fun _ _ _ h=>h) (Or.inl ⟨by rfl,?_⟩) hHeld ?_ ?_;rotate_left
 ·exact zl8
 rotate_left
 ·exact zl0
 refine one_ (i:=21) (N:=some 26) #[true,true,true,true,true,true,true,true,true,true,true,true,true,true,true,true,true,true,true,true,true,true,false,false] rfl rfl (one_of HT_.out zq12) zq24 (fun K hK=>?_);refine Kd.R_lit_step (Kd.int .u8) _ 5 ?hg (N:=26) ?hd (xs:=([bt (⟨#[48,49,50,51,52,53,54,55,56,57,97,98,99,100,101,102]⟩:ByteArray) (ji3),bt (⟨#[48,49,50,51,52,53,54,55,56,57,97,98,99,100,101,102]⟩:ByteArray) (ji7),bt (⟨#[48,49,50,51,52,53,54,55,56,57,97,98,99,100,101,102]⟩:ByteArray) (ji11),bt (⟨#[48,49,50,51,52,53,54,55,56,57,97,98,99,100,101,102]⟩:ByteArray) (Go.bits .and .u16 a1 15)]:List Int)) (inner:=[.int .u8 (bt (⟨#[48,49,50,51,52,53,54,55,56,57,97,98,99,100,101,102]⟩:ByteArray) (ji3)), .int .u8 (bt (⟨#[48,49,50,51,52,53,54,55,56,57,97,98,99,100,101,102]⟩:ByteArray) (ji7)), .int .u8 (bt (⟨#[48,49,50,51,52,53,54,55,56,57,97,98,99,100,101,102]⟩:ByteArray) (ji11)), .int .u8 (bt (⟨#[48,49,50,51,52,53,54,55,56,57,97,98,99,100,101,102]⟩:ByteArray) (Go.bits .and .u16 a1 15))]) (ok:=fun _=>True) (okp:=fun _=>True) ?hr ?hp (fun _ hk=>hk) trivial (Below.refl _ _) (Nat.le_refl _) (by simp) ?_;(case hd=>rfl);(case hg=>rfl);(case hr=>exact zq18);(case hp=>exact (Reps.one (show Kd.M (Kd.int .u8) _ _ _ (bt (⟨#[48,49,50,51,52,53,54,55,56,57,97,98,99,100,101,102]⟩:ByteArray) (ji3)) [.int .u8 (bt (⟨#[48,49,50,51,52,53,54,55,56,57,97,98,99,100,101,102]⟩:ByteArray) (ji3))] from rfl) (Reps.one (show Kd.M (Kd.int .u8) _ _ _ (bt (⟨#[48,49,50,51,52,53,54,55,56,57,97,98,99,100,101,102]⟩:ByteArray) (ji7)) [.int .u8 (bt (⟨#[48,49,50,51,52,53,54,55,56,57,97,98,99,100,101,102]⟩:ByteArray) (ji7))] from rfl) (Reps.one (show Kd.M (Kd.int .u8) _ _ _ (bt (⟨#[48,49,50,51,52,53,54,55,56,57,97,98,99,100,101,102]⟩:ByteArray) (ji11)) [.int .u8 (bt (⟨#[48,49,50,51,52,53,54,55,56,57,97,98,99,100,101,102]⟩:ByteArray) (ji11))] from rfl) (Reps.one (show Kd.M (Kd.int .u8) _ _ _ (bt (⟨#[48,49,50,51,52,53,54,55,56,57,97,98,99,100,101,102]⟩:ByteArray) (Go.bits .and .u16 a1 15)) [.int .u8 (bt (⟨#[48,49,50,51,52,53,54,55,56,57,97,98,99,100,101,102]⟩:ByteArray) (Go.bits .and .u16 a1 15))] from rfl) (Reps.none _ _))))));intro v102 w20 ho21 hb hg_ hnew_;have HS0_:=(hb.cell (World.block_lt_of_cell? _ _ (hHeld.1))).trans (hHeld.1);have HS1_:=(hb.cell (World.block_lt_of_cell? _ _ (hHeld.2.1))).trans (hHeld.2.1);have HS2_:=(hb.cell (World.block_lt_of_cell? _ _ (hHeld.2.2.1))).trans (hHeld.2.2.1);have HS3_:=(hb.cell (World.block_lt_of_cell? _ _ (hHeld.2.2.2))).trans (hHeld.2.2.2);clear hg_ hnew_;(first|rw [← Ny101.out] at ho21|(simp only [Int.reduceToNat] at ho21;rw [← Ny101.out] at ho21));have n0_:=mk0 (Kd.R_elder' zq22 (Kd.R_base ho21) hb);have n1_:=mk0 (Kd.R_lower (Kd.R_new' (Kd.R_newM (M:=fun k_=>(P0_ k_∨w.heap.size≤k_)) ho21 zq4 (fun k_ h_ => .inr h_)) (Kd.R_lt zq22)) (j1m zq0));have n2_:=mk0 (Kept.below (S:=(fun k_=>P0_ k_)) zq2 hb);have n3_:=mk0 (j1r zq0 hb);clear HO0;clear HK;clear HB;have HO0:=n0_;have HO103:=n1_;have HK:=n2_;have HB:=n3_;clear n0_ n1_ n2_ n3_;clear hb ho21;obtain ⟨Ao23,co23,eo23⟩:=Kd.R_slice HO103.out;(first|subst eo23|(injection eo23 with f1_ f2_ f3_;have f4_:=f1_.symm;have f5_:=f3_.symm;clear f1_ f2_ f3_;subst f4_;subst f5_));refine hK.out _ _ ⟨HS0_,HS1_,HS2_,HS3_⟩ (fun hHeld=>?_);clear hK K;refine norm_ (a':=?_) ?_ ?_;rotate_left
 ·show Act.put _ (some 26) _=_
  exact zl0
 refine last_ (i:=22) (N:=some 27) #[true,true,true,true,true,true,true,true,true,true,true,true,true,true,true,true,true,true,true,true,true,true,true,false] rfl rfl (one_of HT_.out zq12) zq24 (fun K hK=>?_);refine Kd.R_append_rows_step (Kd.int .u8) (w0:=w0) w0.heap.size (by rfl) (.tmp 5) (.tmp 26) 30 5 (.int .u8 0) 1 rfl Tryd.underlying30 info5 rfl zq24 (by omega) u9000_ l0 y101 _ _ _ (fun k_=>(P0_ k_∨w.heap.size≤k_)∧some k_≠(.slice Ao23 y101.length co23:Value).ownBlock) (fun _=>False) rfl rfl ?aO ?aR (fun _ _ h=>h) (fun _ h=>h.elim) ?aF ?aB ?aS ?aL ?_;(case aR=>repeat (first|exact (Kd.R_reads' HO103.out).2.2|(with_reducible refine Kd.C_alloc ?_ _)|(with_reducible refine Kd.C_drewN ?_ _)|(with_reducible refine Kd.C_drew ?_)));(case aB=>exact zq0);(case aF=>exact (fun k_ hk=>⟨(.inr (Nat.le_trans zq4 hk)),Kd.fresh' (Kd.R_lt (by (with_reducible repeat (first|apply Kd.R_alloc|apply Kd.R_drewN|apply Kd.R_drew));exact HO103.out)) k_ hk⟩));(case aO=>exact zq22);(case aS=>exact (j1m zq0));(case aL=>exact zq15);intro v105 w22 ho hb hg hat;rw [← Ny104.out] at ho;have n0_:=mk0 (Kd.R_after (ok:=(fun k_=>(P0_ k_∨w.heap.size≤k_))) (by (with_reducible repeat (first|apply Kd.R_alloc|apply Kd.R_drewN|apply Kd.R_drew));exact Kd.R_mono HO103.out (fun _ hk=>⟨hk.1.1,hk.2⟩)) hg hat);have n1_:=mk0 (hb);have n2_:=mk0 (Kept.of_grown (S:=(fun k_=>P0_ k_)) hg zq2 (fun k_ e_=>(HO0.out.1 k_ e_).1));have n3_:=mk0 (ho);clear HO103;clear HB;clear HK;clear HO0;have HO103:=n0_;have HB:=n1_;have HK:=n2_;have HO106:=n3_;clear n0_ n1_ n2_ n3_;clear ho hb hg hat;refine hK.out _ _ ?_;clear hK K;refine norm_ (a':=?_) ?_ ?_;rotate_left
 ·show Act.put _ (some 27) _=_
  exact zl0
 refine pure_ (i:=23) (N:=some 4) (v:=?_) (a':=?_) #[true,true,true,true,true,true,true,true,true,true,true,true,true,true,true,true,true,true,true,true,true,true,true,true] rfl rfl (j1y HT_.out zq12) (fun _ _ _ h=>h) (Or.inl ⟨by rfl,?_⟩) ?_ ?_;rotate_left
 ·exact zl1
 rotate_left
 ·exact zl0
 refine done_ (done_of HT_.out zq12) ?_
 try go_wp2
 go_ret;exact ⟨_,by first|rfl|(simp [j1t,j1s]<;>rfl)|(simp only [← hji3,← hji7,← hji11];first|rfl|(simp [j1t,j1s]<;>rfl))|(simp [*, j1t,j1s]<;>rfl),by (with_reducible repeat (first|apply Kd.R_alloc|apply Kd.R_drewN|apply Kd.R_drew));exact Kd.R_mono HO106.out (fun _ hk=>hk.1),by repeat (first|(with_reducible first|exact HB.out|apply j1i|apply j1d|apply j1h)|exact HB.out),by repeat (first|(with_reducible first|exact HK.out|apply Kept.alloc|apply Kept.drewN|apply Kept.drew)|exact HK.out)⟩
def j2f.f  : Option (Bool) := some true
set_option maxHeartbeats 8000000 in
set_option maxRecDepth 100000 in
theorem j2f.calls  (r : Bool) (w : World) (h : j2f.f  = some r) :
 Calls Tryd.prog 15 #[] w fun e w'=>e = .returned (.bool r)∧Drawn0 w w':=by
 have H:(some true)=some r:=h;clear h;obtain rfl:=Option.some.inj H;go_enter Tryd.func15,Tryd.ntmps15;go_wp2;go_ret;exact zl3
def utf8_DecodeRuneInString.f (a0 : ByteArray):Option (Int × Int):=some (((Lib.decodeGo a0).1:Int),((Lib.decodeGo a0).2:Int))
theorem utf8_DecodeRuneInString.calls (a0 : ByteArray) (r1 r2:Int) (w:World) (hG:Laid w) (h:utf8_DecodeRuneInString.f a0=some (r1,r2)) :
 Calls Tryd.prog 16 #[.string a0] w fun e w'=>e = .returned (.tuple #[.int .i32 r1, .int .i64 r2])∧Below w.heap.size w w':=by
 simp only [utf8_DecodeRuneInString.f,Option.some.injEq,Prod.mk.injEq] at h
 obtain ⟨rfl,rfl⟩:=h;exact Tryd.utf8_DecodeRuneInString a0 w hG.utf8
end Go.Proofs.YtchhndbekjgimaaDoor.H
end
