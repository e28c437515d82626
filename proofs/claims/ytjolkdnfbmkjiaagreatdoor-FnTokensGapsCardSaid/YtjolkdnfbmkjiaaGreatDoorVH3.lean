import Derived.Test.YtjolkdnfbmkjiaaGreatDoorVG2
import Derived.Test.YtjolkdnfbmkjiaaGreatDoorVG3
import Derived.Test.YtjolkdnfbmkjiaaGreatDoorVG4
import Derived.Test.YtjolkdnfbmkjiaaGreatDoorVF3
set_option maxRecDepth 100000
set_option maxHeartbeats 8000000
set_option linter.unusedVariables false
set_option linter.unusedSimpArgs false
namespace Go.Proofs.YtjolkdnfbmkjiaaGreatDoor.Wr
open Go.RowKit Mem Go.Proofs.YtjolkdnfbmkjiaaGreatDoorW.PrintWords PFnTokensGaps Tr
theorem formed_out {V:ByteArray→ByteArray→Prop} {k:Int} {n1 n2 n3:ByteArray} {n4 n5:Int} (hk:k<1∨39<k) (W:World) :
  Calls Tryz.prog 19 #[.agg #[.int .i64 k,.string n1,.string n2,.string n3,.int .i64 n4,.int .i64 n5]] W fun e w'=>FPost V W ⟨k,n1,n2,n3,n4,n5⟩ e w':=by
 have HBW:=aK ((Below.refl W.heap.size W).alloc (Nat.le_refl _) (.cells #[.int .i64 k,.string n1,.string n2,.string n3,.int .i64 n4,.int .i64 n5] 35));have hne:∀c:Int,1≤c→c≤39→(k==c)=false:=fun c h1 h2=>beq_eq_false_iff_ne.2 (by omega)
 have e1:=hne 1 (by decide) (by decide)
 have e2:=hne 2 (by decide) (by decide)
 have e3:=hne 3 (by decide) (by decide)
 have e5:=hne 5 (by decide) (by decide)
 have e6:=hne 6 (by decide) (by decide)
 have e7:=hne 7 (by decide) (by decide)
 have e8:=hne 8 (by decide) (by decide)
 have e12:=hne 12 (by decide) (by decide)
 have e13:=hne 13 (by decide) (by decide)
 have e14:=hne 14 (by decide) (by decide)
 have e15:=hne 15 (by decide) (by decide)
 have e16:=hne 16 (by decide) (by decide)
 have e17:=hne 17 (by decide) (by decide)
 have e18:=hne 18 (by decide) (by decide)
 have e21:=hne 21 (by decide) (by decide)
 have e22:=hne 22 (by decide) (by decide)
 have e23:=hne 23 (by decide) (by decide)
 have e24:=hne 24 (by decide) (by decide)
 have e25:=hne 25 (by decide) (by decide)
 have e35:=hne 35 (by decide) (by decide)
 have e39:=hne 39 (by decide) (by decide)
 clear hne;cases hn2:n2.toList.isEmpty with
 | false=>
  go_enter Tryz.func19,Tryz.ntmps19
  go_wp2_with fail
  all_goals
   refine bodyPost_ret (results_tmp rfl _ _ _) rfl ?_;exact⟨false,rfl,HBW.out,fun h=>by cases h⟩
 | true=>
  rcases hk with hk|hk
  ·go_enter Tryz.func19,Tryz.ntmps19
   go_wp2_with fail
   all_goals
    refine bodyPost_ret (results_tmp rfl _ _ _) rfl ?_;exact⟨false,rfl,HBW.out,fun h=>by cases h⟩
  ·have hk1:1≤k:=by omega
   go_enter Tryz.func19,Tryz.ntmps19
   go_wp2_with fail
   all_goals
    refine bodyPost_ret (results_tmp rfl _ _ _) rfl ?_;exact⟨false,rfl,HBW.out,fun h=>by cases h⟩
structure FC (V:ByteArray→ByteArray→Prop) (x:ByteArray):Prop where
 nm:NameC V x
 int:NumC V x 16
 flo:NumC V x 17
 str:StC V 36 47 x
 blk:StC V 37 46 x
theorem formed_any {V:ByteArray→ByteArray→Prop} (k:Int) {n1 n2 n3:ByteArray} {n4 n5:Int} (h1:FC V n1) (h2:FC V n2) (h3:FC V n3) (W:World) :
  Calls Tryz.prog 19 #[.agg #[.int .i64 k,.string n1,.string n2,.string n3,.int .i64 n4,.int .i64 n5]] W fun e w'=>FPost V W ⟨k,n1,n2,n3,n4,n5⟩ e w':=by
 by_cases hr:1≤k∧k≤39
 rotate_left
 ·exact formed_out (by omega) W
 have hall:k=1∨k=2∨k=3∨k=4∨k=5∨k=6∨k=7∨k=8∨k=9∨k=10∨k=11∨k=12∨k=13∨k=14∨k=15∨k=16∨k=17∨k=18∨k=19∨k=20∨k=21∨k=22∨k=23∨k=24∨k=25∨k=26∨k=27∨k=28∨k=29∨k=30∨k=31∨k=32∨k=33∨k=34∨k=35∨k=36∨k=37∨k=38∨k=39:=by omega
 have d4:n4=0∨n4=1∨(n4≠0∧n4≠1):=by omega
 rcases hall with rfl|rfl|rfl|rfl|rfl|rfl|rfl|rfl|rfl|rfl|rfl|rfl|rfl|rfl|rfl|rfl|rfl|rfl|rfl|rfl|rfl|rfl|rfl|rfl|rfl|rfl|rfl|rfl|rfl|rfl|rfl|rfl|rfl|rfl|rfl|rfl|rfl|rfl|rfl
 ·exact formed1 _ _ _ _ _ trivial W
 ·cases hn1:n1.toList.isEmpty with
  | true=>
   rcases d4 with h|h|⟨h,h'⟩
   ·exact formed2ae h hn1 W
   ·exact formed2ce h hn1 W
   ·exact formed2ee h h' hn1 W
  | false=>
   rcases d4 with h|h|⟨h,h'⟩
   ·exact formed2an h1.nm h hn1 W
   ·exact formed2cn h1.nm h hn1 W
   ·exact formed2en h1.nm h h' hn1 W
 ·cases hn2:n2.toList.isEmpty with
  | true=>exact formed3a h1.nm h2.nm h3.nm hn2 W
  | false=>exact formed3b h1.nm h2.nm h3.nm hn2 W
 ·exact formed4 _ _ _ _ _ h1.nm W
 ·exact formed5 _ _ _ _ _ trivial W
 ·cases hn2:n2.toList.isEmpty with
  | true=>exact formed6a h1.nm h2.nm h3.nm hn2 W
  | false=>exact formed6b h1.nm h2.nm h3.nm hn2 W
 ·exact formed7 _ _ _ _ _ h1.nm W
 ·cases hn2:n2.toList.isEmpty with
  | true=>
   cases hn3:n3.toList.isEmpty with
   | true=>exact formed8a h1.nm h2.nm h3.nm hn2 hn3 W
   | false=>exact formed8c h1.nm h2.nm h3.nm hn2 hn3 W
  | false=>exact formed8b h1.nm h2.nm h3.nm hn2 W
 ·exact formed9 _ _ _ _ _ h1.nm W
 ·exact formed10 _ _ _ _ _ h1.nm W
 ·exact formed11 _ _ _ _ _ h1.nm W
 ·rcases d4 with h|h|⟨h,h'⟩
  ·exact formed12a h3.int h W
  ·exact formed12c (by omega) W
  ·exact formed12c h W
 ·rcases d4 with h|h|⟨h,h'⟩
  ·exact formed13a h3.flo h W
  ·exact formed13c (by omega) W
  ·exact formed13c h W
 ·rcases d4 with h|h|⟨h,h'⟩
  ·exact formed14a h3.str h W
  ·exact formed14b h3.blk h W
  ·exact formed14c h h' W
 ·rcases d4 with h|h|⟨h,h'⟩
  ·exact formed15a h W
  ·exact formed15b h W
  ·exact formed15c h h' W
 ·exact formed16 _ _ _ _ _ h1.nm W
 ·exact formed17 _ _ _ _ _ trivial W
 ·exact formed18 _ _ _ _ _ trivial W
 ·exact formed19 _ _ _ _ _ h1.nm W
 ·exact formed20 _ _ _ _ _ h1.nm W
 ·exact formed21 _ _ _ _ _ trivial W
 ·exact formed22 _ _ _ _ _ trivial W
 ·rcases d4 with h|h|⟨h,h'⟩
  ·exact formed23a h3.str h W
  ·exact formed23b h3.blk h W
  ·exact formed23c h h' W
 ·exact formed24 _ _ _ _ _ trivial W
 ·cases hn2:n2.toList.isEmpty with
  | true=>exact formed25a h1.nm h2.nm h3.nm hn2 W
  | false=>exact formed25b h1.nm h2.nm h3.nm hn2 W
 ·exact formed26 _ _ _ _ _ h1.nm W
 ·exact formed27 _ _ _ _ _ h1.nm W
 ·exact formed28 _ _ _ _ _ h1.nm W
 ·exact formed29 _ _ _ _ _ h1.nm W
 ·exact formed30 _ _ _ _ _ h1.nm W
 ·exact formed31 _ _ _ _ _ h1.nm W
 ·exact formed32 _ _ _ _ _ h1.nm W
 ·exact formed33 _ _ _ _ _ h1.nm W
 ·exact formed34 _ _ _ _ _ h1.nm W
 ·exact formed35 _ _ _ _ _ h1.nm W
 ·exact formed36 _ _ _ _ _ h1.nm W
 ·exact formed37 _ _ _ _ _ h1.nm W
 ·exact formed38 _ _ _ _ _ h1.nm W
 ·exact formed39 _ _ _ _ _ trivial W
theorem ad0 (ad:Addr) (n:Nat):ad.add (Int.toNat 0*n)=ad:=by cases ad;simp[Addr.add]
def bs (d:List S35) (i:Nat):Nat:=(rd_T35 d (i:Int)).f3.size+(rd_T35 d (i:Int)).f1.size+(rd_T35 d (i:Int)).f2.size
def BS (d:List S35):Nat→Nat
 | 0=>0
 | i+1=>BS d i+bs d i
theorem PS_BS (d:List S35):∀i,PS d i=300*i+8*BS d i
 | 0=>rfl
 | i+1=>by
  have:=PS_BS d i;show PS d i+pw d i=300*(i+1)+8*(BS d i+bs d i);unfold pw bs;omega
structure RightD (V:ByteArray→ByteArray→Prop) (d:List S35):Prop where
 pos:0<d.length
 len:d.length≤400
 nod:Nod d 0 d.length
 fm:∀q:Nat,q<d.length→Fm V (rd_T35 d q)
 sh:∀q m,Nod d q m→∃l,Tops d (q+1) (q+m) l∧Shp d (rd_T35 d (q:Int)).f0 l
 bs:BS d d.length≤4000
structure RfI (V:ByteArray→ByteArray→Prop) (d:List S35) (W wr:World) (i b:Nat):Prop where
 le:i≤d.length
 bel:Below W.heap.size W wr
 sum:b=BS d i
 small:b≤4000
 fm:∀q:Nat,q<i→Fm V (rd_T35 d q)
 sh:∀q m,q<i→Nod d q m→∃l,Tops d (q+1) (q+m) l∧Shp d (rd_T35 d (q:Int)).f0 l
section
variable {V:ByteArray→ByteArray→Prop} {d:List S35} {W wr w1 w2:World} {i b m:Nat}
theorem RfI.more (h:RfI V d W wr i b) (hi:i<d.length) (hb:Below wr.heap.size wr w1) (hs:b+bs d i≤4000) (hf:Fm V (rd_T35 d i)) (hN:Nod d i m) {l:List Int} (hT:Tops d (i+1) (i+m) l) (hS:Shp d (rd_T35 d (i:Int)).f0 l):RfI V d W w1 (i+1) (b+bs d i):=by
 refine⟨hi,h.bel.trans (hb.mono h.bel.size),by rw[h.sum];rfl,hs,fun q hq=>?_,fun q m' hq hN'=>?_⟩
 ·rcases Nat.lt_succ_iff_lt_or_eq.1 hq with h1|rfl
  ·exact h.fm q h1
  ·exact hf
 ·rcases Nat.lt_succ_iff_lt_or_eq.1 hq with h1|rfl
  ·exact h.sh q m' h1 hN'
  ·have e:(m':Int)=m:=hN'.size.symm.trans hN.size
   obtain rfl:m'=m:=by omega
   exact⟨l,hT,hS⟩
theorem RfI.done (h:RfI V d W wr d.length b) (hp:0<d.length) (hl:d.length≤400) (hN:Nod d 0 d.length):RightD V d:=
 ⟨hp,hl,hN,h.fm,fun q m hq=>h.sh q m hq.lt hq,by rw[←h.sum];exact h.small⟩
end
theorem right_any {V:ByteArray→ByteArray→Prop} {W:World} {d:List S35} {A:Option Addr} {cd:Nat} (hC:Kd.C k35 W A d.length d) (hcd:d.length≤cd) (hbig:d.length≤2147483647) (hsz:∀q:Nat,(rd_T35 d (q:Int)).f1.size≤2147483647∧(rd_T35 d (q:Int)).f2.size≤2147483647∧(rd_T35 d (q:Int)).f3.size≤2147483647) (hF:∀x:ByteArray,x.size≤4000→FC V x) :
  Calls Tryz.prog 12 #[.slice A d.length cd] W fun e w'=>SPost W (fun r=>r=true→RightD V d) e w':=by
 by_cases h0:d.length=0
 ·have h0b:((d.length:Int)==0)=true:=by rw[h0];rfl
  go_enter Tryz.func12,Tryz.ntmps12
  go_wp2_with fail
  refine bodyPost_ret (results_tmp rfl _ _ _) rfl ?_;exact⟨false,rfl,Below.refl _ _,fun h=>by cases h⟩
 have h0b:((d.length:Int)==0)=false:=beq_eq_false_iff_ne.2 (by omega)
 by_cases h4:400<d.length
 ·go_enter Tryz.func12,Tryz.ntmps12
  go_wp2_with fail
  refine bodyPost_ret (results_tmp rfl _ _ _) rfl ?_;exact⟨false,rfl,Below.refl _ _,fun h=>by cases h⟩
 have hl:d.length≤400:=by omega
 obtain⟨ad,e2,z0,z1,z2,z3,z4,z5⟩:=at_T35 hC (0:Int) (by omega) (by omega)
 rw[e2]at hC ⊢;clear e2;simp only[ad0]at z5;have hA:=World.block_lt_of_cell? W _ z5;clear z0 z1 z2 z3 z4
 by_cases hs:(rd_T35 d (0:Int)).f5=(d.length:Int)
 rotate_left
 ·have hsb:((rd_T35 d (0:Int)).f5==(d.length:Int))=false:=beq_eq_false_iff_ne.2 hs
  have hsb2:((rd_T35 d (0:Int)).f5 != (d.length:Int))=true:=bne_iff_ne.2 hs;clear hC hF hsz;go_enter Tryz.func12,Tryz.ntmps12
  go_wp2_with fail
  refine bodyPost_ret (results_tmp rfl _ _ _) rfl ?_;exact⟨false,rfl,Below.refl _ _,fun h=>by cases h⟩
 rw[hs]at z5;obtain⟨r,hr,ht⟩:=sized_any d hl d.length 0 d.length 0 (by omega) (by omega) (by omega) (by decide) (by decide)
 have HSZ:=aK (fun w (h:Kd.C k35 w (some ad) d.length d)=>spec_sized.calls (4*d.length+4) (some ad) cd d 0 d.length 0 r w h hcd (hr _ (Nat.le_refl _)));have HC:=aK hC;have HF:=aK hF;have HS:=aK hsz;cases r with
 | false=>
  clear hC hF hsz hr ht;go_enter Tryz.func12,Tryz.ntmps12
  go_wp2_with (go_at_call 18;refine(HSZ.out _ HC.out).mono ?_;rintro e w1 ⟨rfl,nd,rfl⟩)
  refine bodyPost_ret (results_tmp rfl _ _ _) rfl ?_;exact⟨false,rfl,pw_below_drewN (Below.refl _ _) _,fun h=>by cases h⟩
 | true=>
  have HN:Aside0 (Nod d 0 d.length):=⟨by
   obtain⟨n,e1,e2,e3,e4⟩:=ht rfl;have e5:(n:Int)=d.length:=e1.symm.trans hs;obtain rfl:n=d.length:=by omega
   exact⟨by omega,e1,e2,e3,e4⟩⟩
  clear hC hF hsz hr ht;go_enter Tryz.func12,Tryz.ntmps12
  go_wp2_with (go_at_call 18;refine(HSZ.out _ HC.out).mono ?_;rintro e w1 ⟨rfl,nd,rfl⟩)
  clear z5
  go_loopg [3,4] (d.length+1) (fun k v2 v3 wr=>∃i b:Nat,v2 = .int .i64 b∧v3 = .int .i64 i∧k=d.length+1-i∧Aside0 (RfI V d W wr i b))
  case atStart=>exact⟨0,0,rfl,rfl,rfl,⟨Nat.zero_le _,pw_below_drewN (Below.refl _ _) _,rfl,Nat.zero_le _,fun q h=>by omega,fun q m h=>by omega⟩⟩
  case round=>
   obtain⟨i,b,rfl,rfl,hk,H⟩:=hrel
   by_cases hi:i<d.length
   ·obtain⟨ad,e2,y0,y1,y2,y3,y4,y5⟩:=at_T35 (Kd.C_below HC.out H.out.bel) (i:Int) (by omega) (by omega)
    cases e2;simp only[Int.toNat_natCast]at y0 y1 y2 y3 y4 y5;obtain⟨z1,z2,z3⟩:=HS.out i;have hbs:bs d i=(rd_T35 d (i:Int)).f3.size+(rd_T35 d (i:Int)).f1.size+(rd_T35 d (i:Int)).f2.size:=rfl;have HNI:Aside0 (∃m,Nod d i m):=⟨by
     rcases Nat.eq_zero_or_pos i with rfl|h
     ·exact⟨_,HN.out⟩
     ·exact HN.out.kids.nod HN.out.le i (by omega) (by omega)⟩
    generalize hn:rd_T35 d (i:Int)=n at *;obtain⟨k,n1,n2,n3,n4,n5⟩:=n;simp only at y0 y1 y2 y3 y4 y5 z1 z2 z3 hbs;have hb4:=H.out.small;have hin:(0:Int)≤(i:Int):=by omega
    have hid:(i:Int)<(d.length:Int):=by omega
    by_cases hsm:n3.size+n1.size+n2.size≤4000
    ·by_cases hsum:b+(n3.size+n1.size+n2.size)≤4000
     ·have HFO:=aK (fun w=>formed_any k (n4:=n4) (n5:=n5) (HF.out n1 (by omega)) (HF.out n2 (by omega)) (HF.out n3 (by omega)) w)
      have hmin:¬(4000:Int)<(b:Int)+min ((n3.size:Int)+n1.size+n2.size) 4001:=by omega
      go_wp2_with fail
      repeat (go_quiet (fail);try go_wp2_with fail)
      refine(HFO.out _).mono ?_;rintro e w2 ⟨r,rfl,hb2,hf⟩;have HB2:Aside0 (Below wr.heap.size wr w2):=⟨(pw_below_drewN (Below.refl _ _) nq).trans hb2⟩;have HFM:=aK hf;clear hb2 hf y0 y1 y2 y3 y4 y5;cases r with
      | false=>
       go_wp2_with fail
       refine bodyPost_ret (results_tmp rfl _ _ _) rfl ?_;exact⟨false,rfl,H.out.bel.trans (HB2.out.mono H.out.bel.size),fun h=>by cases h⟩
      | true=>
       have HFT:Aside0 (Fm V ⟨k,n1,n2,n3,n4,n5⟩):=⟨HFM.out (by first|rfl|trivial)⟩
       obtain⟨m,hN⟩:=HNI.out;obtain⟨l,hTl,hK⟩:=kids_any hl hN;have HSH:=aK (shaped_any (W:=w2) (Kd.C_below (Kd.C_below HC.out H.out.bel) HB2.out) hcd hl hN hTl (hK 402 (Nat.le_refl _)) hn HFT.out.rg (fun h=>(HFT.out.op h).elim (fun h=>.inl h.1) .inr));have HNT:=aK (And.intro hN hTl);have HE:=aK hn;clear hN hTl hK HFM hn HNI
       go_wp2_with fail
       refine HSH.out.mono ?_;rintro e w3 ⟨r,rfl,hb3,hs3⟩;have HB3:Aside0 (Below wr.heap.size wr w3):=⟨HB2.out.trans (hb3.mono HB2.out.size)⟩;have HS3:=aK hs3;clear hb3 hs3;cases r with
       | false=>
        go_wp2_with fail
        refine bodyPost_ret (results_tmp rfl _ _ _) rfl ?_;exact⟨false,rfl,H.out.bel.trans (HB3.out.mono H.out.bel.size),fun h=>by cases h⟩
       | true=>
        go_wp2_with fail
        go_roundg (d.length+1-(i+1))
        case measure=>omega
        case rel=>exact⟨i+1,b+bs d i,congrArg (Value.int .i64) (by omega),by go_num,rfl,⟨H.out.more hi HB3.out (by omega) (by rw[HE.out];exact HFT.out) HNT.out.1 HNT.out.2 (by rw[HE.out];exact HS3.out (by first|rfl|trivial))⟩⟩
     ·have hbig:(4000:Int)<(b:Int)+min ((n3.size:Int)+n1.size+n2.size) 4001:=by omega
      go_wp2_with fail
      repeat (go_quiet (fail);try go_wp2_with fail)
      refine bodyPost_ret (results_tmp rfl _ _ _) rfl ?_;exact⟨false,rfl,pw_below_drewN H.out.bel _,fun h=>by cases h⟩
    ·have hbig:(4000:Int)<(b:Int)+min ((n3.size:Int)+n1.size+n2.size) 4001:=by omega
     go_wp2_with fail
     repeat (go_quiet (fail);try go_wp2_with fail)
     refine bodyPost_ret (results_tmp rfl _ _ _) rfl ?_;exact⟨false,rfl,pw_below_drewN H.out.bel _,fun h=>by cases h⟩
   ·obtain rfl:i=d.length:=by have:=H.out.le;omega
    go_wp2_with fail
    refine bodyPost_ret (results_tmp rfl _ _ _) rfl ?_;exact⟨true,rfl,H.out.bel,fun _=>H.out.done (by omega) hl HN.out⟩
theorem doc_any {V:ByteArray→ByteArray→Prop} {W:World} {d:List S35} {A:Option Addr} {cd:Nat} (hC:Kd.C k35 W A d.length d) (hcd:d.length≤cd) (hbig:d.length≤2147483647) (hsz:∀q:Nat,(rd_T35 d (q:Int)).f1.size≤2147483647∧(rd_T35 d (q:Int)).f2.size≤2147483647∧(rd_T35 d (q:Int)).f3.size≤2147483647) (hF:∀x:ByteArray,x.size≤4000→FC V x) :
  Calls Tryz.prog 5 #[.slice A d.length cd] W fun e w'=>SPost W (fun r=>r=true→RightD V d) e w':=by
 have HR:=aK (right_any hC hcd hbig hsz hF);have HC:=aK hC;clear hC hF hsz;go_enter Tryz.func5,Tryz.ntmps5
 go_wp2_with fail
 refine HR.out.mono ?_;rintro e w1 ⟨r,rfl,hb,hr⟩;have HB:=aK hb;have HD:=aK hr;clear hb hr;cases r with
 | false=>
  go_wp2_with fail
  refine bodyPost_ret (results_tmp rfl _ _ _) rfl ?_;exact⟨false,rfl,HB.out,fun h=>by cases h⟩
 | true=>
  have HT:Aside0 (RightD V d):=⟨HD.out (by first|rfl|trivial)⟩
  have hp:=HT.out.pos;obtain⟨ad,e2,z0,z1,z2,z3,z4,z5⟩:=at_T35 (Kd.C_below HC.out HB.out) (0:Int) (by omega) (by omega)
  subst e2;simp only[ad0]at z0;have hA:=World.block_lt_of_cell? w1 _ z0;clear z1 z2 z3 z4 z5;generalize (rd_T35 d (0:Int)).f0=k at z0
  go_wp2_with fail
  all_goals
   refine bodyPost_ret (results_tmp rfl _ _ _) rfl ?_;exact⟨_,rfl,HB.out,fun _=>HT.out⟩
end Go.Proofs.YtjolkdnfbmkjiaaGreatDoor.Wr
