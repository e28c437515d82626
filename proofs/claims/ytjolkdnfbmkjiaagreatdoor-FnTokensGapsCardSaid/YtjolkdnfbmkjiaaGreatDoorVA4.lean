import Derived.Shelf.Lays7
import Derived.Shelf.Spec.DecodeRune
import Derived.Test.YtjolkdnfbmkjiaaGreatDoorProg
import Derived.Shelf.Bytes.WriteAny
import Derived.Shelf.Bytes.String
import Derived.Shelf.Strings.OnBuilder
import Derived.Shelf.Wr.WriteRune
import Derived.Test.YtjolkdnfbmkjiaaGreatDoorVA2
import Derived.Lib.SlBytesRow
import Derived.Lib.ConvBytes
import Derived.Test.YtjolkdnfbmkjiaaGreatDoorVA3
set_option maxRecDepth 100000
set_option maxHeartbeats 8000000
set_option linter.unusedVariables false
set_option linter.unusedSimpArgs false
namespace Go.Proofs
open Go.Shelf
def Tryz.lays32_ren:Go.Shelf.Ren:=⟨fun|32=>66|49=>79|n=>n,fun|30=>23|21=>21|3=>3|0=>0|5=>5|4=>4|33=>81|66=>123|25=>92|69=>126|68=>125|n=>n,fun|2=>0|3=>1|n=>n⟩
theorem Tryz.lays32:Go.Proofs.Lays7.n32 Tryz.prog Tryz.lays32_ren:={
 mixed:=by kernel_rfl
 f32:=Tryz.func66.trans (congrArg some (by kernel_rfl))
 f49:=Tryz.func79.trans (congrArg some (by kernel_rfl))
 t0:=Tryz.underlying0
 a0:=Tryz.isAgg0
 z0:=Tryz.sizeOf0
 v0:=Tryz.zeroValue0
 i0:=by kernel_rfl
 t3:=Tryz.underlying3
 a3:=Tryz.isAgg3
 z3:=Tryz.sizeOf3
 v3:=Tryz.zeroValue3
 i3:=by kernel_rfl
 t4:=Tryz.underlying4
 a4:=Tryz.isAgg4
 z4:=Tryz.sizeOf4
 v4:=Tryz.zeroValue4
 i4:=by kernel_rfl
 t5:=Tryz.underlying5
 a5:=Tryz.isAgg5
 z5:=Tryz.sizeOf5
 v5:=Tryz.zeroValue5
 i5:=by kernel_rfl
 t21:=Tryz.underlying21
 a21:=Tryz.isAgg21
 z21:=Tryz.sizeOf21
 v21:=Tryz.zeroValue21
 i21:=by kernel_rfl
 t25:=Tryz.underlying92
 a25:=Tryz.isAgg92
 z25:=Tryz.sizeOf92
 v25:=Tryz.zeroValue92
 i25:=by kernel_rfl
 t30:=Tryz.underlying23
 a30:=Tryz.isAgg23
 z30:=Tryz.sizeOf23
 v30:=Tryz.zeroValue23
 i30:=by kernel_rfl
 t33:=Tryz.underlying81
 a33:=Tryz.isAgg81
 z33:=Tryz.sizeOf81
 v33:=Tryz.zeroValue81
 i33:=by kernel_rfl
 t66:=Tryz.underlying123
 a66:=Tryz.isAgg123
 z66:=Tryz.sizeOf123
 t68:=Tryz.underlying125
 a68:=Tryz.isAgg125
 z68:=Tryz.sizeOf125
 v68:=Tryz.zeroValue125
 i68:=by kernel_rfl
 t69:=Tryz.underlying126
 a69:=Tryz.isAgg126
 z69:=Tryz.sizeOf126
 v69:=Tryz.zeroValue126
 i69:=by kernel_rfl
 g2:=by kernel_rfl
 g3:=by kernel_rfl }
open Go.RowKit in
theorem Tryz.utf8_DecodeRune (s:ByteArray) (b off cap:Nat) (w:World) (hT:Lib.Utf8Tabs 0 1 w)
  (hp:∀j,j<s.size→w.cell? ⟨b,off+j,none⟩=some (.int .u8 (s.get! j).toNat)) :
  Calls Tryz.prog 66 #[.slice (some ⟨b,off,none⟩) s.size cap] w fun e w'=>e = .returned (.tuple #[.int .i32 (Lib.decodeGo s).1,.int .i64 (Lib.decodeGo s).2])∧Below w.heap.size w w':=
 Any7.utf8_DecodeRune Tryz.lays32 s b off cap w hT hp
def Tryz.laysM180_ren:Go.Shelf.Ren:=⟨fun|180=>69|251=>81|252=>82|181=>93|184=>94|290=>95|324=>109|n=>n,fun|130=>111|37=>23|3=>3|75=>53|0=>0|93=>101|91=>99|131=>112|4=>4|20=>20|5=>5|80=>103|9=>9|n=>n,fun|14=>2|n=>n⟩
theorem Tryz.laysM180:Go.Proofs.LaysM.n180 Tryz.prog Tryz.laysM180_ren:={
 mixed:=by kernel_rfl
 f180:=Tryz.func69.trans (congrArg some (by kernel_rfl))
 f181:=Tryz.func93.trans (congrArg some (by kernel_rfl))
 f184:=Tryz.func94.trans (congrArg some (by kernel_rfl))
 f251:=Tryz.func81.trans (congrArg some (by kernel_rfl))
 f252:=Tryz.func82.trans (congrArg some (by kernel_rfl))
 f290:=Tryz.func95.trans (congrArg some (by kernel_rfl))
 f324:=Tryz.func109.trans (congrArg some (by kernel_rfl))
 t0:=Tryz.underlying0
 a0:=Tryz.isAgg0
 z0:=Tryz.sizeOf0
 v0:=Tryz.zeroValue0
 t3:=Tryz.underlying3
 a3:=Tryz.isAgg3
 z3:=Tryz.sizeOf3
 v3:=Tryz.zeroValue3
 t4:=Tryz.underlying4
 a4:=Tryz.isAgg4
 z4:=Tryz.sizeOf4
 v4:=Tryz.zeroValue4
 t20:=Tryz.underlying20
 a20:=Tryz.isAgg20
 z20:=Tryz.sizeOf20
 v20:=Tryz.zeroValue20
 t37:=Tryz.underlying23
 a37:=Tryz.isAgg23
 z37:=Tryz.sizeOf23
 v37:=Tryz.zeroValue23
 t75:=Tryz.underlying53
 a75:=Tryz.isAgg53
 z75:=Tryz.sizeOf53
 v75:=Tryz.zeroValue53
 t91:=Tryz.underlying99
 a91:=Tryz.isAgg99
 z91:=Tryz.sizeOf99
 v91:=Tryz.zeroValue99
 t93:=Tryz.underlying101
 a93:=Tryz.isAgg101
 z93:=Tryz.sizeOf101
 v93:=Tryz.zeroValue101
 t130:=Tryz.underlying111
 a130:=Tryz.isAgg111
 z130:=Tryz.sizeOf111
 v130:=Tryz.zeroValue111
 t131:=Tryz.underlying112
 a131:=Tryz.isAgg112
 z131:=Tryz.sizeOf112
 v131:=Tryz.zeroValue112
 g14:=by kernel_rfl
 t5:=Tryz.underlying5
 a5:=Tryz.isAgg5
 z5:=Tryz.sizeOf5
 v5:=Tryz.zeroValue5
 t9:=Tryz.underlying9
 a9:=Tryz.isAgg9
 z9:=Tryz.sizeOf9
 v9:=Tryz.zeroValue9
 t80:=Tryz.underlying103
 a80:=Tryz.isAgg103
 z80:=Tryz.sizeOf103
 v80:=Tryz.zeroValue103
 i0:=by kernel_rfl
 i3:=by kernel_rfl
 i4:=by kernel_rfl
 i5:=by kernel_rfl
 i9:=by kernel_rfl
 i20:=by kernel_rfl
 i37:=by kernel_rfl
 i75:=by kernel_rfl
 i80:=by kernel_rfl
 i91:=by kernel_rfl
 i93:=by kernel_rfl
 i130:=by kernel_rfl
 i131:=by kernel_rfl
 m14:=by kernel_rfl }
open Go.RowKit in
theorem Tryz.Buffer_Write (B b:Nat) (bs cs:List Value) (a:Addr) (n c:Nat) (w:World) (h:Lib.IsBuffer 101 5 B b bs w) (hBw:B≤w.heap.size) (h1:∀v∈bs,v.oneCell'=true)
  (hn:cs.length=n) (hab:a.block≠b) (hsrc:∀j v,cs[j]?=some v→w.cell? (a.add j)=some v) (h1c:∀v∈cs,v.oneCell'=true) (hlim:bs.length+n≤140737488355328) :
  Calls Tryz.prog 69 #[.pointer (some ⟨b,0,none⟩),.slice (some a) n c] w fun e w'=>e = .returned (.tuple #[.int .i64 n,.nilIface])∧Lib.IsBuffer 101 5 B b (bs++cs) w'∧Below B w w'∧Lib.OthersKept 5 (some b) w w':=Any.Buffer_Write_any Tryz.laysM180 B b bs cs a n c w h hBw h1 hn hab hsrc h1c hlim
def Tryz.laysM182_ren:Go.Shelf.Ren:=⟨fun|182=>71|n=>n,fun|130=>111|9=>9|4=>4|0=>0|93=>101|37=>23|3=>3|91=>99|5=>5|n=>n,fun|n=>n⟩
theorem Tryz.laysM182:Go.Proofs.LaysM.n182 Tryz.prog Tryz.laysM182_ren:={
 mixed:=by kernel_rfl
 f182:=Tryz.func71.trans (congrArg some (by kernel_rfl))
 t0:=Tryz.underlying0
 a0:=Tryz.isAgg0
 z0:=Tryz.sizeOf0
 v0:=Tryz.zeroValue0
 t3:=Tryz.underlying3
 a3:=Tryz.isAgg3
 z3:=Tryz.sizeOf3
 v3:=Tryz.zeroValue3
 t4:=Tryz.underlying4
 a4:=Tryz.isAgg4
 z4:=Tryz.sizeOf4
 v4:=Tryz.zeroValue4
 t9:=Tryz.underlying9
 a9:=Tryz.isAgg9
 z9:=Tryz.sizeOf9
 v9:=Tryz.zeroValue9
 t37:=Tryz.underlying23
 a37:=Tryz.isAgg23
 z37:=Tryz.sizeOf23
 v37:=Tryz.zeroValue23
 t93:=Tryz.underlying101
 a93:=Tryz.isAgg101
 z93:=Tryz.sizeOf101
 v93:=Tryz.zeroValue101
 t130:=Tryz.underlying111
 a130:=Tryz.isAgg111
 z130:=Tryz.sizeOf111
 v130:=Tryz.zeroValue111
 t5:=Tryz.underlying5
 a5:=Tryz.isAgg5
 z5:=Tryz.sizeOf5
 v5:=Tryz.zeroValue5
 t91:=Tryz.underlying99
 a91:=Tryz.isAgg99
 z91:=Tryz.sizeOf99
 v91:=Tryz.zeroValue99
 i0:=by kernel_rfl
 i3:=by kernel_rfl
 i4:=by kernel_rfl
 i5:=by kernel_rfl
 i9:=by kernel_rfl
 i37:=by kernel_rfl
 i91:=by kernel_rfl
 i93:=by kernel_rfl
 i130:=by kernel_rfl }
open Go.RowKit in
theorem Tryz.Buffer_String (B b:Nat) (l:List UInt8) (w:World) (h:Lib.IsBuffer 101 5 B b (Lib.byteCells l) w) :
  Calls Tryz.prog 71 #[.pointer (some ⟨b,0,none⟩)] w fun e w'=>e = .returned (.string ⟨l.toArray⟩)∧∃n,w'=w.drewN n:=Any.Buffer_String Tryz.laysM182 B b l w h
def Tryz.lays156_ren:Go.Shelf.Ren:=⟨fun|156=>86|165=>96|166=>97|169=>98|240=>110|241=>111|276=>115|277=>116|n=>n,fun|31=>25|9=>9|3=>3|4=>4|0=>0|20=>20|72=>145|76=>96|70=>143|37=>23|75=>53|127=>188|164=>194|5=>5|80=>103|n=>n,fun|n=>n⟩
theorem Tryz.lays156:Go.Proofs.Lays.n156 Tryz.prog Tryz.lays156_ren:={
 mixed:=by kernel_rfl
 f156:=Tryz.func86.trans (congrArg some (by kernel_rfl))
 f165:=Tryz.func96.trans (congrArg some (by kernel_rfl))
 f166:=Tryz.func97.trans (congrArg some (by kernel_rfl))
 f169:=Tryz.func98.trans (congrArg some (by kernel_rfl))
 f240:=Tryz.func110.trans (congrArg some (by kernel_rfl))
 f241:=Tryz.func111.trans (congrArg some (by kernel_rfl))
 f276:=Tryz.func115.trans (congrArg some (by kernel_rfl))
 f277:=Tryz.func116.trans (congrArg some (by kernel_rfl))
 t0:=Tryz.underlying0
 a0:=Tryz.isAgg0
 z0:=Tryz.sizeOf0
 v0:=Tryz.zeroValue0
 t3:=Tryz.underlying3
 a3:=Tryz.isAgg3
 z3:=Tryz.sizeOf3
 v3:=Tryz.zeroValue3
 t4:=Tryz.underlying4
 a4:=Tryz.isAgg4
 z4:=Tryz.sizeOf4
 v4:=Tryz.zeroValue4
 t9:=Tryz.underlying9
 a9:=Tryz.isAgg9
 z9:=Tryz.sizeOf9
 v9:=Tryz.zeroValue9
 t20:=Tryz.underlying20
 a20:=Tryz.isAgg20
 z20:=Tryz.sizeOf20
 v20:=Tryz.zeroValue20
 t31:=Tryz.underlying25
 a31:=Tryz.isAgg25
 z31:=Tryz.sizeOf25
 v31:=Tryz.zeroValue25
 t37:=Tryz.underlying23
 a37:=Tryz.isAgg23
 z37:=Tryz.sizeOf23
 v37:=Tryz.zeroValue23
 t70:=Tryz.underlying143
 a70:=Tryz.isAgg143
 z70:=Tryz.sizeOf143
 v70:=Tryz.zeroValue143
 t72:=Tryz.underlying145
 a72:=Tryz.isAgg145
 z72:=Tryz.sizeOf145
 v72:=Tryz.zeroValue145
 t75:=Tryz.underlying53
 a75:=Tryz.isAgg53
 z75:=Tryz.sizeOf53
 v75:=Tryz.zeroValue53
 t76:=Tryz.underlying96
 a76:=Tryz.isAgg96
 z76:=Tryz.sizeOf96
 v76:=Tryz.zeroValue96
 t127:=Tryz.underlying188
 a127:=Tryz.isAgg188
 z127:=Tryz.sizeOf188
 v127:=Tryz.zeroValue188
 t164:=Tryz.underlying194
 a164:=Tryz.isAgg194
 z164:=Tryz.sizeOf194
 v164:=Tryz.zeroValue194 }
theorem Tryz.Builder_Extra_156:Builder.Extra Tryz.prog Tryz.lays156_ren:={
 sizeBuilder:=by kernel_rfl
 liesBuilder:=by kernel_rfl
 t5:=Tryz.underlying5
 a5:=Tryz.isAgg5
 z5:=Tryz.sizeOf5
 v5:=Tryz.zeroValue5
 infoByte:=by kernel_rfl
 cellsByte:=by kernel_rfl
 sizeByte:=by kernel_rfl
 neB5:=by decide }
open Go.RowKit in
theorem Tryz.strings_Join (bk o c:Nat) (xs:List ByteArray) (sep:ByteArray) (w:World) (hcells:∀(j:Nat) x,xs[j]?=some x→w.cell? ⟨bk,o+j,none⟩=some (.string x)) (hbk:bk<w.heap.size) (hN:xs.length≤140737488355328) (hcap:xs.length≤c) (hlen:(Lib.join (xs.map (·.data.toList)) sep.data.toList).length≤140737488355328) :
  Calls Tryz.prog 86 #[.slice (some ⟨bk,o,none⟩) xs.length c,.string sep] w fun e w'=>e = .returned (.string ⟨(Lib.join (xs.map (·.data.toList)) sep.data.toList).toArray⟩)∧Below w.heap.size w w':=Any.strings_Join Tryz.lays156 Tryz.Builder_Extra_156 bk o c xs sep w hcells hbk hN hcap hlen
def Tryz.laysWr5_ren:Go.Shelf.Ren:=⟨fun|5=>72|7=>87|8=>81|9=>82|10=>88|11=>93|12=>94|13=>95|14=>99|15=>109|n=>n,fun|34=>111|21=>21|3=>3|28=>53|35=>116|4=>4|5=>5|0=>0|26=>101|24=>99|37=>112|22=>23|43=>92|20=>20|31=>103|9=>9|n=>n,fun|0=>2|n=>n⟩
theorem Tryz.laysWr5:Go.Proofs.LaysWr.n5 Tryz.prog Tryz.laysWr5_ren:={
 mixed:=by kernel_rfl
 f5:=Tryz.func72.trans (congrArg some (by kernel_rfl))
 f7:=Tryz.func87.trans (congrArg some (by kernel_rfl))
 f8:=Tryz.func81.trans (congrArg some (by kernel_rfl))
 f9:=Tryz.func82.trans (congrArg some (by kernel_rfl))
 f10:=Tryz.func88.trans (congrArg some (by kernel_rfl))
 f11:=Tryz.func93.trans (congrArg some (by kernel_rfl))
 f12:=Tryz.func94.trans (congrArg some (by kernel_rfl))
 f13:=Tryz.func95.trans (congrArg some (by kernel_rfl))
 f14:=Tryz.func99.trans (congrArg some (by kernel_rfl))
 f15:=Tryz.func109.trans (congrArg some (by kernel_rfl))
 t0:=Tryz.underlying0
 a0:=Tryz.isAgg0
 z0:=Tryz.sizeOf0
 v0:=Tryz.zeroValue0
 i0:=by kernel_rfl
 t3:=Tryz.underlying3
 a3:=Tryz.isAgg3
 z3:=Tryz.sizeOf3
 v3:=Tryz.zeroValue3
 i3:=by kernel_rfl
 t4:=Tryz.underlying4
 a4:=Tryz.isAgg4
 z4:=Tryz.sizeOf4
 v4:=Tryz.zeroValue4
 i4:=by kernel_rfl
 t5:=Tryz.underlying5
 a5:=Tryz.isAgg5
 z5:=Tryz.sizeOf5
 v5:=Tryz.zeroValue5
 i5:=by kernel_rfl
 t9:=Tryz.underlying9
 a9:=Tryz.isAgg9
 z9:=Tryz.sizeOf9
 v9:=Tryz.zeroValue9
 i9:=by kernel_rfl
 t20:=Tryz.underlying20
 a20:=Tryz.isAgg20
 z20:=Tryz.sizeOf20
 v20:=Tryz.zeroValue20
 i20:=by kernel_rfl
 t21:=Tryz.underlying21
 a21:=Tryz.isAgg21
 z21:=Tryz.sizeOf21
 v21:=Tryz.zeroValue21
 i21:=by kernel_rfl
 t22:=Tryz.underlying23
 a22:=Tryz.isAgg23
 z22:=Tryz.sizeOf23
 v22:=Tryz.zeroValue23
 i22:=by kernel_rfl
 t24:=Tryz.underlying99
 a24:=Tryz.isAgg99
 z24:=Tryz.sizeOf99
 v24:=Tryz.zeroValue99
 i24:=by kernel_rfl
 t26:=Tryz.underlying101
 a26:=Tryz.isAgg101
 z26:=Tryz.sizeOf101
 v26:=Tryz.zeroValue101
 i26:=by kernel_rfl
 t28:=Tryz.underlying53
 a28:=Tryz.isAgg53
 z28:=Tryz.sizeOf53
 v28:=Tryz.zeroValue53
 i28:=by kernel_rfl
 t31:=Tryz.underlying103
 a31:=Tryz.isAgg103
 z31:=Tryz.sizeOf103
 v31:=Tryz.zeroValue103
 i31:=by kernel_rfl
 t34:=Tryz.underlying111
 a34:=Tryz.isAgg111
 z34:=Tryz.sizeOf111
 v34:=Tryz.zeroValue111
 i34:=by kernel_rfl
 t35:=Tryz.underlying116
 a35:=Tryz.isAgg116
 z35:=Tryz.sizeOf116
 v35:=Tryz.zeroValue116
 i35:=by kernel_rfl
 t37:=Tryz.underlying112
 a37:=Tryz.isAgg112
 z37:=Tryz.sizeOf112
 v37:=Tryz.zeroValue112
 i37:=by kernel_rfl
 t43:=Tryz.underlying92
 a43:=Tryz.isAgg92
 z43:=Tryz.sizeOf92
 v43:=Tryz.zeroValue92
 i43:=by kernel_rfl
 g0:=by kernel_rfl
 m0:=by kernel_rfl }
open Go.RowKit in
theorem Tryz.Buffer_WriteRune (B b:Nat) (bs:List Value) (r:Int) (hr0 : -2147483648≤r) (hr1:r≤2147483647) (w:World) (h:Lib.IsBuffer 101 5 B b bs w) (hBw:B≤w.heap.size) (h1:∀v∈bs,v.oneCell'=true) (hlim:bs.length+4≤140737488355328) :
  Calls Tryz.prog 72 #[.pointer (some ⟨b,0,none⟩),.int .i32 r] w fun e w'=>e = .returned (.tuple #[.int .i64 (Lib.runeCells r).length,.nilIface])∧Lib.IsBuffer 101 5 B b (bs++Lib.runeCells r) w'∧Below B w w'∧Lib.OthersKept 5 (some b) w w':=Any.Buffer_WriteRune_k Tryz.laysWr5 B b bs r hr0 hr1 w h hBw h1 hlim
end Go.Proofs
namespace Go.Proofs.YtjolkdnfbmkjiaaGreatDoor.Lx
open Go.RowKit Go.Proofs.YtjolkdnfbmkjiaaGreatDoorW.PrintWords Keep Go.Proofs.YtjolkdnfbmkjiaaGreatDoor.Mod Rel Sim Step Four Env
theorem bt_byte (s:ByteArray) (p:Nat):0≤bt s p∧bt s p≤255:=bt_range s p
theorem decode_tail (bb p n cap:Nat) (s:ByteArray) (w:World) (hT:Tabs w) (hb:BodyAt w bb s) (hp:p<s.size) (hn:n=s.size-p) :
  Calls Tryz.prog 66 #[.slice (some ⟨bb,p,none⟩) n cap] w fun e w'=>e = .returned (.tuple #[.int .i32 (Lib.decodeGo (s.extract p s.size)).1,.int .i64 (Lib.decodeGo (s.extract p s.size)).2])∧Below w.heap.size w w':=by
 have hsz:(s.extract p s.size).size=n:=by rw[ByteArray.size_extract];omega
 rw[←hsz];refine Tryz.utf8_DecodeRune (s.extract p s.size) bb p cap w hT (fun j hj=>?_);have hj':p+j<s.size:=by omega
 rw[hb (p+j) hj'];congr 2;rw[bt_nat s (p+j) hj'];have h2:=ByteArray.getElem_extract (b:=s) (start:=p) (stop:=s.size) (i:=j) hj;rw[get_eq _ _ hj,h2]
theorem rune_asc (sb bb p cap:Nat) (s:ByteArray) (w:World) (hT:Tx sb bb cap s w) (ha:p<s.size→bt s p<128) (hp:p≤281474976710656) :
  Calls Tryz.prog 51 #[.slice (some ⟨bb,0,none⟩) s.size cap,.int .i64 p] w fun e w'=>
   e = .returned (.tuple #[.int .i32 (runeOf s p).1,.int .i64 (runeOf s p).2])∧w=w':=by
 have hcap:=hT.cap
 by_cases h1:s.size≤p
 ·have e:runeOf s p=(-1,65533):=by unfold runeOf;rw[if_pos h1]
  rw[e];have h1i:(s.size:Int)≤(p:Int):=by omega
  clear hT;go_enter Tryz.func51,Tryz.ntmps51;go_wp2
  go_ret2
  exact⟨rfl,rfl⟩
 ·have hcell:=hT.body p (by omega)
  have h2:=ha (by omega)
  clear hT;have hb0:=bt_range s p;have h1i:(p:Int)<(s.size:Int):=by omega
  have e:runeOf s p=(bt s p,1):=by unfold runeOf;rw[if_neg h1,if_pos h2]
  rw[e];generalize bt s p=c at *;go_enter Tryz.func51,Tryz.ntmps51;go_wp2
  go_ret2
  exact⟨rfl,rfl⟩
theorem rune_any (sb bb p cap:Nat) (s:ByteArray) (w:World) (hT:Tx sb bb cap s w) (hp:p≤281474976710656) :
  Calls Tryz.prog 51 #[.slice (some ⟨bb,0,none⟩) s.size cap,.int .i64 p] w fun e w'=>
   e = .returned (.tuple #[.int .i32 (runeOf s p).1,.int .i64 (runeOf s p).2])∧Below w.heap.size w w':=by
 by_cases h0:p<s.size→bt s p<128
 ·exact(rune_asc sb bb p cap s w hT h0 hp).mono fun e w' ⟨h1,h2⟩=>⟨h1,by rw[←h2];exact Below.refl _ _⟩
 ·have hps:p<s.size:=by
   rcases Nat.lt_or_ge p s.size with h|h
   ·exact h
   ·exact absurd (fun h2=>by omega) h0
  have h2:¬bt s p<128:=fun h=>h0 (fun _=>h);have hcap:=hT.cap;have hcell:=hT.body p hps;have hb0:=bt_range s p;have h1i:(p:Int)<(s.size:Int):=by omega
  have e:runeOf s p=(((Lib.decodeGo (s.extract p s.size)).1:Int),((Lib.decodeGo (s.extract p s.size)).2:Int)):=by unfold runeOf;rw[if_neg (by omega),if_neg h2]
  rw[e];have HD:=aK (fun n cap hn=>decode_tail bb p n cap s w hT.tabs hT.body hps hn);clear hT h0;generalize Lib.decodeGo (s.extract p s.size)=d at *;generalize bt s p=c at *;have hcp:¬cap=p:=by omega
  go_enter Tryz.func51,Tryz.ntmps51
  go_wp2_with (go_at_call 66;refine(HD.out _ _ (by omega)).mono ?_;rintro e w' ⟨rfl,hbel⟩)
  go_ret2
  exact⟨rfl,hbel⟩
theorem rune_on {sb bb cap:Nat} {s:ByteArray} {w0 w:World} (hT:Tx sb bb cap s w0) (hB:Below w0.heap.size w0 w) (p:Nat) (hp:p≤281474976710656) :
  Calls Tryz.prog 51 #[.slice (some ⟨bb,0,none⟩) s.size cap,.int .i64 p] w fun e w'=>
   e = .returned (.tuple #[.int .i32 (runeOf s p).1,.int .i64 (runeOf s p).2])∧Below w0.heap.size w0 w':=
 (rune_any sb bb p cap s w (hT.below hB) hp).mono fun e w' ⟨h1,h2⟩=>⟨h1,hB.trans (h2.mono hB.size)⟩
theorem makeToken_any (k a b:Int) (v:ByteArray) (w:World) :
  Calls Tryz.prog 50 #[.int .i64 k,.int .i64 a,.int .i64 b,.string v] w fun e w'=>e = .returned (.agg #[.int .i64 k,.int .i64 a,.int .i64 b,.string v])∧Below w.heap.size w w':=by
 go_enter Tryz.func50,Tryz.ntmps50;go_wp2;refine bodyPost_ret (v:=.agg #[.int .i64 k,.int .i64 a,.int .i64 b,.string v]) (by simp[results,Tryz.results50,go_sem]) rfl ⟨rfl,?_⟩
 exact below_alloc (Below.refl _ _) _
theorem makeToken_on {w0 w:World} (hB:Below w0.heap.size w0 w) (k a b:Int) (v:ByteArray) :
  Calls Tryz.prog 50 #[.int .i64 k,.int .i64 a,.int .i64 b,.string v] w fun e w'=>e = .returned (.agg #[.int .i64 k,.int .i64 a,.int .i64 b,.string v])∧Below w0.heap.size w0 w':=
 (makeToken_any k a b v w).mono fun e w' ⟨h1,h2⟩=>⟨h1,hB.trans (h2.mono hB.size)⟩
theorem isWs_iff {c:Int} (h:isWs c=true):c=9∨c=32∨c=10∨c=13∨c=44:=by
 unfold isWs at h;simp only[Bool.or_eq_true,beq_iff_eq]at h;omega
theorem isWs_no {c:Int} (h:isWs c=false):(c==9)=false∧(c==32)=false∧(c==10)=false∧(c==13)=false∧(c==44)=false:=by
 unfold isWs at h;simp only[Bool.or_eq_false_iff]at h;exact⟨h.1.1.1.1,h.1.1.1.2,h.1.1.2,h.1.2,h.2⟩
def Stop (s:ByteArray) (q:Nat):Prop:=s.size≤q∨(q<s.size∧isWs (bt s q)=false∧bt s q≠35∧(128≤bt s q→(runeOf s q).1≠65279))
theorem com_asc {s:ByteArray} {p q:Nat} (h:Com s p q):∀i,p≤i→i≤q→i<s.size→bt s i<128:=fun i h1 h2 h3=>by
 rcases Nat.lt_or_ge i q with h4|h4
 ·have h5:=h.2.2.1 i h1 h4
  unfold comB at h5;simp only[Bool.or_eq_true,Bool.and_eq_true,decide_eq_true_eq,beq_iff_eq]at h5;omega
 ·obtain rfl:i=q:=by omega
  rcases h.2.2.2 with h5|h5|h5<;>omega
theorem com_in {s:ByteArray} {p q:Nat} (h:Com s p q) {i:Nat} (h1:p≤i) (h2:i<q):(bt s i=9∨(32≤bt s i∧bt s i<128)):=by
 have h5:=h.2.2.1 i h1 h2;unfold comB at h5;simp only[Bool.or_eq_true,Bool.and_eq_true,decide_eq_true_eq,beq_iff_eq]at h5;exact h5
theorem four_kept1 {w w1:World} {t:TypeId} {x0 x1 x2 x3:Value} (hb:Below (w.alloc (.cells #[x0,x1,x2,x3] t)).heap.size (w.alloc (.cells #[x0,x1,x2,x3] t)) w1) :
  w1.cell? ⟨w.heap.size,0,none⟩=some x0∧w1.cell? ⟨w.heap.size,1,none⟩=some x1∧w1.cell? ⟨w.heap.size,2,none⟩=some x2∧w1.cell? ⟨w.heap.size,3,none⟩=some x3:=by
 have h:=Blk.below (Blk.new w t #[x0,x1,x2,x3]) hb (by simp)
 exact⟨(h.cell 0).trans rfl,(h.cell 1).trans rfl,(h.cell 2).trans rfl,(h.cell 3).trans rfl⟩
theorem frozen_kept1 {w w1:World} {t:TypeId} {x0 x1 x2 x3:Value} (hb:Below (w.alloc (.cells #[x0,x1,x2,x3] t)).heap.size (w.alloc (.cells #[x0,x1,x2,x3] t)) w1) (j:Nat) :
  w1.frozen? ⟨w.heap.size,j,none⟩=false:=
 (Blk.below (Blk.new w t #[x0,x1,x2,x3]) hb (by simp)).frozen j
theorem below_four {w w1:World} {x0 x1 x2 x3:Value} (h:Below w.heap.size w w1):Below w.heap.size w ((((w1.setCell ⟨w.heap.size,0,none⟩ x0).setCell ⟨w.heap.size,1,none⟩ x1).setCell ⟨w.heap.size,2,none⟩ x2).setCell ⟨w.heap.size,3,none⟩ x3):=
 (((h.setCell (p:=⟨w.heap.size,0,none⟩) (Nat.le_refl _) _).setCell (p:=⟨w.heap.size,1,none⟩) (Nat.le_refl _) _).setCell (p:=⟨w.heap.size,2,none⟩) (Nat.le_refl _) _).setCell (p:=⟨w.heap.size,3,none⟩) (Nat.le_refl _) _
theorem body_bytes {w:World} {bb:Nat} {s:ByteArray} (h:BodyAt w bb s):Lib.Bytes w bb 0 s:=fun i hi=>by
 rw[Nat.zero_add,h i hi,←bt_nat s i hi]
theorem conv_part {w:World} {bb:Nat} {s:ByteArray} (h:BodyAt w bb s) (p q cap:Nat) (hpq:p≤q) (hq:q≤s.size) :
  (convert 23 9 (.slice (some ⟨bb,p,none⟩) (q-p) (cap-p))).run Tryz.prog w = .ok (.string (s.extract p q)) w:=by
 have h2:=Lib.run_convert_window (P:=Tryz.prog) w 23 5 9 Tryz.underlying23 Tryz.underlying5 Tryz.underlying9 bb 0 s (body_bytes h) p (q-p) (cap-p) (by omega)
 rw[Nat.zero_add,show p+(q-p)=q by omega]at h2
 exact h2
theorem isNam_cases {c:Int} (h:isNam c=true):c=95∨(48≤c∧c≤57)∨(65≤c∧c≤90)∨(97≤c∧c≤122):=by
 unfold isNam isLet isDig at h;simp only[Bool.or_eq_true,Bool.and_eq_true,decide_eq_true_eq,beq_iff_eq]at h;omega
theorem isNam_no {c:Int} (h:isNam c=false):(c==95)=false∧¬(48≤c∧c≤57)∧¬(65≤c∧c≤90)∧¬(97≤c∧c≤122):=by
 unfold isNam isLet isDig at h;simp only[Bool.or_eq_false_iff,Bool.and_eq_false_iff,decide_eq_false_iff_not]at h;refine⟨h.1.1.1,by omega,by omega,by omega⟩
theorem readName_any (sb bb p cap:Nat) (s:ByteArray) (w:World) (hT:Tx sb bb cap s w) (hp:p<s.size) :
  Calls Tryz.prog 53 #[.pointer (some ⟨sb,0,none⟩),.int .i64 p,.int .i64 p] w fun e w'=>
   e = .returned (.agg #[.int .i64 15,.int .i64 p,.int .i64 (scan isNam s s.size (p+1):Nat),.string (s.extract p (scan isNam s s.size (p+1)))])∧Below w.heap.size w w':=by
 obtain⟨q0,q1,q2,q3⟩:=scan_all isNam rfl s (p+1) hp;generalize scan isNam s s.size (p+1)=q at *;have h0:=hT.s0;have hs:=hT.size;have hcap:=hT.cap;have hsb:sb<w.heap.size:=World.block_lt_of_cell? w _ h0;have Q2:=aK q2;have Q3:=aK q3;have HT:=aK (hT.below (below_alloc (Below.refl _ _) (.cells #[.int .i64 0,.int .i64 0,.int .i64 0,.string ⟨#[]⟩] 51)));have HR:=aK (fun k (hk:k<q) (hk1:p<k)=>rune_asc sb bb k cap s _ HT.out (fun h=>by have:=isNam_cases (Q2.out k hk1 hk);omega))
 have HRX:=aK (rune_any sb bb q cap s _ HT.out);clear q2 q3 hT;go_enter Tryz.func53,Tryz.ntmps53
 go_wp2_with fail
 go_loopw [9,10] (fun i j wr=>∃k:Nat,p<k∧k≤q∧i = .int .i64 k∧j = .int .i64 k∧wr=w.alloc (.cells #[.int .i64 0,.int .i64 0,.int .i64 0,.string ⟨#[]⟩] 51)) (fun i _ _=>q-(intOf i).toNat)
 case atStart=>exact⟨p+1,by omega,by omega,by go_num,by go_num,rfl⟩
 case round=>
  obtain⟨k,hk1,hk2,rfl,rfl,rfl⟩:=hrel
  by_cases hlt:k<q
  ·have hcs:=isNam_cases (Q2.out k hk1 hlt)
   have hR:=HR.out k hlt hk1 (by omega)
   have e:runeOf s k=(bt s k,1):=rune_small (by omega) (by omega)
   rw[e]at hR;have HRk:=aK hR;clear hR e;have hkn:((k:Int) != (s.size:Int))=true:=by rw[bne_iff_ne];omega
   have hkn2:(k != s.size)=true:=by rw[bne_iff_ne];omega
   generalize bt s k=c at *;rcases hcs with rfl|⟨c1,c2⟩|⟨c1,c2⟩|⟨c1,c2⟩
   all_goals
    try have f95:(c==95)=false:=beq_eq_false_iff_ne.2 (by omega)
    go_wp2_with fail
    refine HRk.out.mono ?_;rintro e w' ⟨rfl,rfl⟩
    go_wp2_with fail
    go_roundw
    case rel=>exact⟨k+1,by omega,by omega,by go_num,by go_num,by first|rfl|trivial⟩
    case measure=>simp[intOf];omega
  ·obtain rfl:k=q:=by omega
   have HRk:=aK (HRX.out (by omega))
   have HCV:=aK (fun wx (hB:BW w wx)=>conv_part (HT.out.body.below hB) p k cap (by omega) q1)
   by_cases hend:k=s.size
   ·have hkn:((k:Int) != (s.size:Int))=false:=by rw[bne_eq_false_iff_eq];omega
    have hkn2:(k != s.size)=false:=by rw[bne_eq_false_iff_eq];omega
    have e:runeOf s k=(-1,65533):=rune_end (by omega)
    have HRk:=aK (e▸HRk.out);clear hend e
    go_wp2_with fail
    refine HRk.out.mono ?_;rintro e w' ⟨rfl,hb1⟩;have hcv:=HCV.out _ hb1;have HB1:=aK hb1;clear hb1
    go_wp2_with fail
    refine(makeToken_on HB1.out _ _ _ _).mono ?_;rintro e w2 ⟨rfl,hb2⟩;obtain⟨r0,r1,r2,r3⟩:=four_kept1 hb2;have hz0:=frozen_kept1 hb2 0;have hz1:=frozen_kept1 hb2 1;have hz2:=frozen_kept1 hb2 2;have hz3:=frozen_kept1 hb2 3;have HB2:=aK (below_one hb2);clear hb2
    go_wp2_with fail
    refine bodyPost_ret (v:=.agg #[.int .i64 15,.int .i64 p,.int .i64 k,.string (s.extract p k)]) (by simp[results,Tryz.results53,go_sem,r0,r1,r2,r3]) rfl ⟨rfl,?_⟩
    exact below_four HB2.out
   ·have hkn:((k:Int) != (s.size:Int))=true:=by rw[bne_iff_ne];omega
    have hkn2:(k != s.size)=true:=by rw[bne_iff_ne];omega
    have hway:(runeOf s k).1<48∨(57<(runeOf s k).1∧(runeOf s k).1<65)∨(90<(runeOf s k).1∧(runeOf s k).1<97∧(runeOf s k).1≠95)∨122<(runeOf s k).1:=by
     by_cases hb:bt s k<128
     ·obtain⟨n1,n2,n3,n4⟩:=isNam_no Q3.out
      have n1:=beq_eq_false_iff_ne.1 n1;rw[rune_small (by omega) hb]
      simp only;omega
     ·have:=rune_big (s:=s) (p:=k) (by omega) hb
      omega
    generalize (runeOf s k).1=c at *;generalize (runeOf s k).2=n at *;clear hend;have f95:(c==95)=false:=beq_eq_false_iff_ne.2 (by omega)
    rcases hway with g|⟨g1,g2⟩|⟨g1,g2,_⟩|g
    all_goals
     go_wp2_with fail
     refine HRk.out.mono ?_;rintro e w' ⟨rfl,hb1⟩;have hcv:=HCV.out _ hb1;have HB1:=aK hb1;clear hb1
     go_wp2_with fail
     refine(makeToken_on HB1.out _ _ _ _).mono ?_;rintro e w2 ⟨rfl,hb2⟩;obtain⟨r0,r1,r2,r3⟩:=four_kept1 hb2;have hz0:=frozen_kept1 hb2 0;have hz1:=frozen_kept1 hb2 1;have hz2:=frozen_kept1 hb2 2;have hz3:=frozen_kept1 hb2 3;have HB2:=aK (below_one hb2);clear hb2
     go_wp2_with fail
     refine bodyPost_ret (v:=.agg #[.int .i64 15,.int .i64 p,.int .i64 k,.string (s.extract p k)]) (by simp[results,Tryz.results53,go_sem,r0,r1,r2,r3]) rfl ⟨rfl,?_⟩
     exact below_four HB2.out
end Go.Proofs.YtjolkdnfbmkjiaaGreatDoor.Lx
namespace Go.Proofs.YtjolkdnfbmkjiaaGreatDoor.Lx
open Go.RowKit Go.Proofs.YtjolkdnfbmkjiaaGreatDoorW.PrintWords Keep Go.Proofs.YtjolkdnfbmkjiaaGreatDoor.Mod Rel Sim Step Env
theorem lex_zero (E:At) (w:World) (p:Nat) (hS:Src E w) (hp:E.ask p) (hQ:Blk w E.qb 3 #[.int .i64 p]) (hF:Far E) :
  Calls Tryz.prog 30 #[.int .i64 0,.pointer (some ⟨E.qb,0,none⟩),.pointer (some ⟨E.xb,0,none⟩)] w fun e w'=>
   Keeps E.qb E.qb w w'∧((∃t,E.lx p=some t∧e = .returned (.tuple #[tokV t,.nilIface])∧Blk w' E.qb 3 #[.int .i64 t.stop])∨(E.lx p=none∧∃g,e = .returned (.tuple #[zeroT,errV g]))):=by
 have hq0:w.cell? ⟨E.qb,0,none⟩=some (.int .i64 p):=(hQ.cell 0).trans rfl;have hqf:=hQ.frozen 0;have hql:=hQ.lt;have hx0:=hS.x0;have hxl:E.xb<w.heap.size:=World.block_lt_of_cell? w _ hx0;obtain⟨W,hW⟩:∃W,W=w.alloc (.cells #[.int .i64 0,.int .i64 0,.int .i64 0,.string ⟨#[]⟩] 51):=⟨_,rfl⟩;have hBW:Below w.heap.size w W:=by rw[hW];exact below_alloc (Below.refl _ _) _
 have hRT:=hS.ok.read W p (hS.tx.below hBW) hp;rw[hW]at hRT;have HRT:=aK hRT;have HQ:=aK hQ;have HF:=aK hF;clear hRT hW hBW hS hQ;go_enter Tryz.func30,Tryz.ntmps30
 go_wp2_with fail
 refine HRT.out.mono ?_;rintro e w2 ⟨hb2,h⟩;rcases h with⟨t,ht,rfl⟩|⟨hn,g,rfl⟩
 ·obtain⟨r0,r1,r2,r3⟩:=four_kept1 hb2
  have hz0:=frozen_kept1 hb2 0;have hz1:=frozen_kept1 hb2 1;have hz2:=frozen_kept1 hb2 2;have hz3:=frozen_kept1 hb2 3;have hlt:w.heap.size<w2.heap.size:=by have h:=hb2.size;simp only[World.size_alloc]at h;omega
  have HB2:=aK (below_one hb2);have hqc:=pw_cell_below HB2.out hq0;have hqz:w2.frozen? ⟨E.qb,0,none⟩=false:=(HB2.out.frozen (p:=⟨E.qb,0,none⟩) hql).trans hqf;have H2:=aK ht;have HQ2:=aK (HQ.out.below HB2.out hql);have hq2:E.qb<w2.heap.size:=by omega
  have hqn1:¬w2.heap.size=E.qb:=by omega
  have hqn2:¬E.qb=w2.heap.size:=by omega
  have hqn3:¬w.heap.size=E.qb:=by omega
  have hqn4:E.qb≠w.heap.size:=by omega
  clear hb2 ht
  go_wp2_with fail
  refine bodyPost_ret (v:=.tuple #[tokV t,.nilIface]) (by simp[results,Tryz.results30,go_sem,r0,r1,r2,r3,tokV,hlt,hqn1,hqn2,hqn3,hqn4]) rfl ⟨?_,.inl ⟨t,H2.out,rfl,?_⟩⟩
  ·exact(((((Keeps.of_below E.qb E.qb HB2.out).setP 0 _).setNew (x:=⟨w.heap.size,0,none⟩) (Nat.le_refl _) _).setNew (x:=⟨w.heap.size,1,none⟩) (Nat.le_refl _) _).setNew (x:=⟨w.heap.size,2,none⟩) (Nat.le_refl _) _).setNew (x:=⟨w.heap.size,3,none⟩) (Nat.le_refl _) _ |>.alloc _
  ·exact(((((HQ2.out.set_ 0 (.int .i64 t.stop)).far (p:=⟨w.heap.size,0,none⟩) hqn4 _).far (p:=⟨w.heap.size,1,none⟩) hqn4 _).far (p:=⟨w.heap.size,2,none⟩) hqn4 _).far (p:=⟨w.heap.size,3,none⟩) hqn4 _).alloc _
 ·obtain⟨r0,r1,r2,r3⟩:=four_kept1 hb2
  have hz0:=frozen_kept1 hb2 0;have hz1:=frozen_kept1 hb2 1;have hz2:=frozen_kept1 hb2 2;have hz3:=frozen_kept1 hb2 3;have hlt:w.heap.size<w2.heap.size:=by have h:=hb2.size;simp only[World.size_alloc]at h;omega
  have HB2:=aK (below_one hb2);have H2:=aK hn;have HQ2:=aK (HQ.out.below HB2.out hql);have hqn4:E.qb≠w.heap.size:=by omega
  clear hb2 hn
  go_wp2_with fail
  refine bodyPost_ret (v:=.tuple #[zeroT,errV g]) (by simp[results,Tryz.results30,go_sem,r0,r1,r2,r3,zeroT,errV,hlt]) rfl ⟨?_,.inr ⟨H2.out,g,rfl⟩⟩
  ·exact(((Keeps.of_below E.qb E.qb HB2.out).setNew (x:=⟨w.heap.size,0,none⟩) (Nat.le_refl _) _).setNew (x:=⟨w.heap.size,1,none⟩) (Nat.le_refl _) _).setNew (x:=⟨w.heap.size,2,none⟩) (Nat.le_refl _) _ |>.setNew (x:=⟨w.heap.size,3,none⟩) (Nat.le_refl _) _ |>.alloc _
end Go.Proofs.YtjolkdnfbmkjiaaGreatDoor.Lx
