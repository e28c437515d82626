import Derived.Test.YtjolkdnfbmkjiaaGreatDoorProg
import Derived.Below
import Derived.Deep.Draws
import Derived.Deep.AppendLies
import Derived.Maps.AppendAt
import Derived.OwnWalk
import Derived.Laws.BytesArg
import Derived.Laws.MakeOwn
import Derived.Laws.OwnMore
import Derived.Deep.OwnRows
import Derived.Tactics
import Derived.Lib.ConvBytes
import Derived.Laws.Slices
import Derived.WalkKit
import Derived.KernelRfl
import Derived.RowKit3
import Derived.Deep.LoopGhost
import Derived.Deep.QuietTactic
import Derived.BigQuiet
import Derived.WideLaws
import Derived.Deep.DeepCutAuto
import Derived.Deep.CutBlock
import Derived.Deep.RegionHeld3
import Derived.Laws.Rows
import Derived.Lib.AppendStr
import Derived.ArgAppend
import Derived.Laws.IdiomCopy
import Derived.OrdersHeld
import Derived.Laws.BitsLemmas
import Derived.RowKit
import Derived.Test.YtjolkdnfbmkjiaaGreatDoorVW1
import Derived.Test.YtjolkdnfbmkjiaaGreatDoorVW2
set_option maxRecDepth 100000
set_option maxHeartbeats 8000000
set_option linter.unusedVariables false
set_option linter.unusedSimpArgs false
namespace Go.Proofs.YtjolkdnfbmkjiaaGreatDoor.PFnTokensGaps
open Go.RowKit Go.Proofs.YtjolkdnfbmkjiaaGreatDoorW.PrintWords Go.Proofs.YtjolkdnfbmkjiaaGreatDoorW.PrintLast Go.Proofs.YtjolkdnfbmkjiaaGreatDoorW.PrintMore
attribute [local go_sem] max2_int min2_int max_two min_two max_three min_three max_four min_four
def errW:Option Int→Value
 | none=>.nilIface
 | some c=>.iface 0 (.int .i64 c)
theorem errW_none:errW none = .nilIface:=rfl
theorem errW_some (c:Int):errW (some c) = .iface 0 (.int .i64 c):=rfl
theorem info3:(Tryz.prog.info? 3).map (fun i=>(i.zero,i.size,i.bytes))=some (some (.int .i64 0),1,8):=by kernel_rfl
theorem info9:(Tryz.prog.info? 9).map (fun i=>(i.zero,i.size,i.bytes))=some (some (.string ⟨#[]⟩),1,16):=by kernel_rfl
structure S35 where
 f0:Int
 f1:ByteArray
 f2:ByteArray
 f3:ByteArray
 f4:Int
 f5:Int
def z35:S35:=⟨(0:Int),(⟨#[]⟩:ByteArray),(⟨#[]⟩:ByteArray),(⟨#[]⟩:ByteArray),(0:Int),(0:Int)⟩
def k35:Kd S35:=Kd.iso (Kd.pair (Kd.int .i64) (Kd.pair Kd.string (Kd.pair Kd.string (Kd.pair Kd.string (Kd.pair (Kd.int .i64) (Kd.int .i64)))))) (fun x:S35=>(x.f0,x.f1,x.f2,x.f3,x.f4,x.f5))
theorem k35_open {w:World} {x:S35} {cs:List Value} (h:k35.K w x cs):cs=[.int .i64 x.f0,.string x.f1,.string x.f2,.string x.f3,.int .i64 x.f4,.int .i64 x.f5]:=by
 obtain⟨_,_,rfl,rfl,⟨_,_,rfl,rfl,⟨_,_,rfl,rfl,⟨_,_,rfl,rfl,⟨_,_,rfl,rfl,rfl⟩⟩⟩⟩⟩:=h;exact rfl
theorem k35_mk (w:World) (x:S35)  : k35.K w x [.int .i64 x.f0,.string x.f1,.string x.f2,.string x.f3,.int .i64 x.f4,.int .i64 x.f5]:=⟨[.int .i64 x.f0],[.string x.f1,.string x.f2,.string x.f3,.int .i64 x.f4,.int .i64 x.f5],rfl,rfl,⟨[.string x.f1],[.string x.f2,.string x.f3,.int .i64 x.f4,.int .i64 x.f5],rfl,rfl,⟨[.string x.f2],[.string x.f3,.int .i64 x.f4,.int .i64 x.f5],rfl,rfl,⟨[.string x.f3],[.int .i64 x.f4,.int .i64 x.f5],rfl,rfl,⟨[.int .i64 x.f4],[.int .i64 x.f5],rfl,rfl,rfl⟩⟩⟩⟩⟩
def rd_T35 (xs:List S35) (i:Int):S35:=xs.getD i.toNat z35
theorem at_T35 {w:World} {A:Option Addr} {n:Nat} {xs:List S35} (h:Kd.C k35 w A n xs) (i:Int) (h0:0≤i) (h1:i<n):∃ad ,A=some ad∧w.cell? (ad.add (i.toNat*6))=some (.int .i64 (rd_T35 xs i).f0)∧w.cell? ⟨(ad.add (i.toNat*6)).block,(ad.add (i.toNat*6)).off+1,none⟩=some (.string (rd_T35 xs i).f1)∧w.cell? ⟨(ad.add (i.toNat*6)).block,(ad.add (i.toNat*6)).off+2,none⟩=some (.string (rd_T35 xs i).f2)∧w.cell? ⟨(ad.add (i.toNat*6)).block,(ad.add (i.toNat*6)).off+3,none⟩=some (.string (rd_T35 xs i).f3)∧w.cell? ⟨(ad.add (i.toNat*6)).block,(ad.add (i.toNat*6)).off+4,none⟩=some (.int .i64 (rd_T35 xs i).f4)∧w.cell? ⟨(ad.add (i.toNat*6)).block,(ad.add (i.toNat*6)).off+5,none⟩=some (.int .i64 (rd_T35 xs i).f5):=by
 obtain⟨ad,c,e,_,hK,hc0⟩:=Kd.C_get h z35 i h0 h1;have hc:∀j u,c[j]?=some u→w.cell? (ad.add (i.toNat*6+j))=some u:=hc0;obtain rfl:=k35_open hK;exact⟨ad,e,hc 0 _ rfl,by rw[←add_field _ _ 1 (by omega)];exact hc 1 _ rfl,by rw[←add_field _ _ 2 (by omega)];exact hc 2 _ rfl,by rw[←add_field _ _ 3 (by omega)];exact hc 3 _ rfl,by rw[←add_field _ _ 4 (by omega)];exact hc 4 _ rfl,by rw[←add_field _ _ 5 (by omega)];exact hc 5 _ rfl⟩
structure S56 where
 f0:Int
 f1:ByteArray
 f2:Int
 f3:Int
def z56:S56:=⟨(0:Int),(⟨#[]⟩:ByteArray),(0:Int),(0:Int)⟩
def k56:Kd S56:=Kd.iso (Kd.pair (Kd.int .i64) (Kd.pair Kd.string (Kd.pair (Kd.int .i64) (Kd.int .i64)))) (fun x:S56=>(x.f0,x.f1,x.f2,x.f3))
theorem k56_open {w:World} {x:S56} {cs:List Value} (h:k56.K w x cs):cs=[.int .i64 x.f0,.string x.f1,.int .i64 x.f2,.int .i64 x.f3]:=by
 obtain⟨_,_,rfl,rfl,⟨_,_,rfl,rfl,⟨_,_,rfl,rfl,rfl⟩⟩⟩:=h;exact rfl
def rd_T56 (xs:List S56) (i:Int):S56:=xs.getD i.toNat z56
theorem at_T56 {w:World} {A:Option Addr} {n:Nat} {xs:List S56} (h:Kd.C k56 w A n xs) (i:Int) (h0:0≤i) (h1:i<n):∃ad ,A=some ad∧w.cell? (ad.add (i.toNat*4))=some (.int .i64 (rd_T56 xs i).f0)∧w.cell? ⟨(ad.add (i.toNat*4)).block,(ad.add (i.toNat*4)).off+1,none⟩=some (.string (rd_T56 xs i).f1)∧w.cell? ⟨(ad.add (i.toNat*4)).block,(ad.add (i.toNat*4)).off+2,none⟩=some (.int .i64 (rd_T56 xs i).f2)∧w.cell? ⟨(ad.add (i.toNat*4)).block,(ad.add (i.toNat*4)).off+3,none⟩=some (.int .i64 (rd_T56 xs i).f3):=by
 obtain⟨ad,c,e,_,hK,hc0⟩:=Kd.C_get h z56 i h0 h1;have hc:∀j u,c[j]?=some u→w.cell? (ad.add (i.toNat*4+j))=some u:=hc0;obtain rfl:=k56_open hK;exact⟨ad,e,hc 0 _ rfl,by rw[←add_field _ _ 1 (by omega)];exact hc 1 _ rfl,by rw[←add_field _ _ 2 (by omega)];exact hc 2 _ rfl,by rw[←add_field _ _ 3 (by omega)];exact hc 3 _ rfl⟩
end Go.Proofs.YtjolkdnfbmkjiaaGreatDoor.PFnTokensGaps
