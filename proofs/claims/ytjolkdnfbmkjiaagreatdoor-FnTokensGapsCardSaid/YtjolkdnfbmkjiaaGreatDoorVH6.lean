import Derived.Test.YtjolkdnfbmkjiaaGreatDoorVH4
import Derived.Test.YtjolkdnfbmkjiaaGreatDoorVH5
set_option maxRecDepth 100000
set_option maxHeartbeats 8000000
set_option linter.unusedVariables false
set_option linter.unusedSimpArgs false
namespace Go.Proofs.YtjolkdnfbmkjiaaGreatDoor.Wr
open Go.RowKit Mem Go.Proofs.YtjolkdnfbmkjiaaGreatDoorW.PrintWords Go.Proofs.YtjolkdnfbmkjiaaGreatDoorW.PrintLast PFnTokensGaps Tr
open Go.Proofs.YtjolkdnfbmkjiaaGreatDoor.Rel (Piece Chain TokAt BadAt)
theorem pick_kv {V:ByteArray→ByteArray→Prop} {new:List ByteArray} (h:AllP V new):∃kv:ByteArray→Int×ByteArray,∀x∈new,Piece V x (kv x).1 (kv x).2:=by
 have hex:∀x:ByteArray,∃y:Int×ByteArray,x∈new→Piece V x y.1 y.2:=by
  intro x
  by_cases hx:x∈new
  ·obtain⟨k,v,h1⟩:=h x hx
   exact⟨(k,v),fun _=>h1⟩
  ·exact⟨(0,x),fun h=>absurd h hx⟩
 exact Classical.skolem.1 hex
theorem laid_same {kv:ByteArray→Int×ByteArray} {new:List ByteArray} {t u:List Mod.Tok} (h1:t.map (fun x=>(x.kind,x.value))=new.map kv) (h2:u.map (fun x=>(x.kind,x.value))=new.map kv):t.map (fun x=>(x.kind,x.value))=u.map (fun x=>(x.kind,x.value))∧t.length=new.length:=by
 refine⟨h1.trans h2.symm,?_⟩;have:=congrArg List.length h1
 simpa using this
theorem law_any {w:World} {d:List S35} {A:Option Addr} {cd:Nat} {by_:List Int} {B:Option Addr} {cb:Nat} (hC:Kd.C k35 w A d.length d) (hcd:d.length≤cd) (hB:Kd.C (Kd.int .u8) w B by_.length by_) (hcb:by_.length≤cb) (hby:∀b∈by_,0≤b∧b≤255) (ht:Env.Tabs w) :
  Calls Tryz.prog 3 #[.slice A d.length cd,.slice B by_.length cb] w fun e w'=>e = .returned (.bool true)∧Below w.heap.size w w':=by
 have HF:=aK (fits_call hC hcd);have HC:=aK hC;have HB:=aK hB;have HT:=aK ht;have HBY:=aK hby;clear hC hB ht hby;go_enter Tryz.func3,Tryz.ntmps3
 go_wp2_with fail
 refine HF.out.mono ?_;rintro e w1 ⟨r1,rfl,hb1,g1⟩;have HB1:=aK hb1;have HG:=aK g1;clear hb1 g1 HF;cases r1 with
 | false=>
  go_wp2_with fail
  refine bodyPost_ret (results_tmp rfl _ _ _) rfl ?_;exact⟨rfl,HB1.out⟩
 | true=>
  obtain⟨hbig,hsz⟩:=HG.out (by first|rfl|trivial)
  by_cases h1:2147483647<by_.length
  ·go_wp2_with fail
   refine bodyPost_ret (results_tmp rfl _ _ _) rfl ?_;exact⟨rfl,HB1.out⟩
  have HDO:=aK (doc_any (V:=Lex.blkV) (Kd.C_below HC.out HB1.out) hcd hbig hsz fc_any);clear hsz
  go_wp2_with fail
  refine HDO.out.mono ?_;rintro e w2 ⟨r2,rfl,hb2,hr2⟩;have HB2:=aK (HB1.out.trans (hb2.mono HB1.out.size));have HR2:=aK hr2;clear hb2 hr2 HDO;cases r2 with
  | false=>
   go_wp2_with fail
   refine bodyPost_ret (results_tmp rfl _ _ _) rfl ?_;exact⟨rfl,HB2.out⟩
  | true=>
   by_cases h2:100<by_.length
   ·go_wp2_with fail
    refine bodyPost_ret (results_tmp rfl _ _ _) rfl ?_;exact⟨rfl,HB2.out⟩
   have hR:RightD Lex.blkV d:=HR2.out (by first|rfl|trivial)
   obtain⟨new,cost,hA,hN,hcst⟩:=right_writes hR;obtain⟨kv,hP⟩:=pick_kv hA;have hpos:=hR.pos;have hdl:=hR.len;have HN:=aK hN;have HP:=aK hP;have HTX:=aK (texts_row (W:=w2) ⟨Kd.C_below HC.out HB2.out,hcd,hdl⟩ hN (by omega))
   clear hR hA hN hP HR2
   go_wp2_with fail
   refine HTX.out.mono ?_;rintro e w3 ⟨Bp,cp,rfl,hcp,hCp,hb3,hwt⟩;have HB3:=aK (HB2.out.trans (hb3.mono HB2.out.size));have HCP:=aK hCp;clear hb3 hCp HTX;have HWR:=aK (written_any (V:=Lex.blkV) (kv:=kv) (W:=w3) ⟨Kd.C_below HC.out HB3.out,hcd,hdl⟩ HN.out (by omega) hpos HP.out (by omega))
   go_wp2_with fail
   refine HWR.out.mono ?_;rintro e w4 ⟨s1,rfl,hb4,hl1⟩;have HB4:=aK (HB3.out.trans (hb4.mono HB3.out.size));have HCP4:=aK (Kd.C_below HCP.out hb4);obtain⟨t1,hch1,hm1⟩:=hl1.chain (T:=BadAt s1);have hs1:=hl1.size;rw[List.take_length]at hs1;have HTK:=aK (To.tokens_any s1 w4 t1 hch1 (by omega) (Utf8Tabs_below HT.out HB4.out))
   have HM1:=aK hm1;clear hb4 hl1 hch1 hm1 HWR
   go_wp2_with fail
   refine HTK.out.mono ?_;rintro e w5 ⟨A1,c1,rfl,hc1,hC1,hb5⟩;have HB5:=aK (HB4.out.trans (hb5.mono HB4.out.size));have HCP5:=aK (Kd.C_below HCP4.out hb5);have HC1:=aK hC1;clear hb5 hC1 HTK;have HGA:=aK (gaps_call (V:=Lex.blkV) (kv:=kv) HCP5.out hcp (Kd.C_below HB.out HB5.out) hcb HP.out (by omega) HBY.out (by omega))
   go_wp2_with fail
   refine HGA.out.mono ?_;rintro e w6 ⟨s2,rfl,hb6,hl2⟩;have HL2:=aK hl2;clear hl2;have HB6:=aK (HB5.out.trans (hb6.mono HB5.out.size));obtain⟨t2,hch2,hm2⟩:=HL2.out.chain (T:=BadAt s2);have hs2:=HL2.out.size;rw[List.take_length]at hs2;have HTK:=aK (To.tokens_any s2 w6 t2 hch2 (by omega) (Utf8Tabs_below HT.out HB6.out))
   have HC1':=aK (Kd.C_below HC1.out hb6);have HM2:=aK hm2;clear hb6 hch2 hm2 HGA
   go_wp2_with fail
   refine HTK.out.mono ?_;rintro e w7 ⟨A2,c2,rfl,hc2,hC2,hb7⟩;have HB7:=aK (HB6.out.trans (hb7.mono HB6.out.size));obtain⟨hsm,hle⟩:=laid_same HM1.out HM2.out;have hsame:=same_call hsm (Kd.C_below HC1'.out hb7) hc1 hC2 hc2 (by have:=wt_len new;omega)
   rw[hle]at hsame;have HSA:=aK hsame;have hleb:((t1.length:Int)==(new.length:Int))=true:=beq_iff_eq.2 (by omega)
   clear hb7 hC2 hsame HTK hsm
   go_wp2_with fail
   refine HSA.out.mono ?_;rintro e w8 ⟨rfl,⟨nd,rfl⟩⟩
   go_wp2_with fail
   refine bodyPost_ret (results_tmp rfl _ _ _) rfl ?_;exact⟨rfl,pw_below_drewN HB7.out _⟩
end Go.Proofs.YtjolkdnfbmkjiaaGreatDoor.Wr
