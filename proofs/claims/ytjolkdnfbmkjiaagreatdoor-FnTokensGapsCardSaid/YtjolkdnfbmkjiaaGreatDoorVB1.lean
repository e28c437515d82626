import Derived.Test.YtjolkdnfbmkjiaaGreatDoorVA4
import Derived.Test.YtjolkdnfbmkjiaaGreatDoorVA3
import Derived.Deep.CutRange
import Derived.Deep.CutBlock
import Derived.Deep.DeepCutAuto
set_option maxRecDepth 100000
set_option maxHeartbeats 8000000
set_option linter.unusedVariables false
set_option linter.unusedSimpArgs false
namespace Go.Proofs.YtjolkdnfbmkjiaaGreatDoor.Lx
open Go.RowKit Go.Proofs.YtjolkdnfbmkjiaaGreatDoorW.PrintWords Keep Go.Proofs.YtjolkdnfbmkjiaaGreatDoor.Mod Rel Sim Step Four Env Err
theorem isDig_iff {c:Int}:isDig c=true↔(48≤c∧c≤57):=by
 unfold isDig;simp only[Bool.and_eq_true,decide_eq_true_eq]
theorem rune_fst {s:ByteArray} {p:Nat} (c:Int) (h0:0<c) (h1:c<128):(runeOf s p).1=c↔bt s p=c:=by
 rcases Nat.lt_or_ge p s.size with h|h
 ·by_cases hb:bt s p<128
  ·rw[rune_small h hb]
  ·have:=rune_big h hb
   constructor
   ·intro e;omega
   ·intro e;omega
 ·rw[rune_end h,bt_out s p h]
  constructor
  ·intro e;exact absurd e (by show ¬(-1:Int)=c;omega)
  ·intro e;omega
theorem rune_dig {s:ByteArray} {p:Nat}:isDig (runeOf s p).1=isDig (bt s p):=by
 have h:isDig (runeOf s p).1=true↔isDig (bt s p)=true:=by
  rw[isDig_iff,isDig_iff];rcases Nat.lt_or_ge p s.size with h|h
  ·by_cases hb:bt s p<128
   ·rw[rune_small h hb]
   ·have:=rune_big h hb
    omega
  ·rw[rune_end h,bt_out s p h]
   constructor<;>intro e<;>first|omega|(simp only at e;omega)
 exact Bool.eq_iff_iff.2 h
theorem rune_lt {s:ByteArray} {p:Nat} (c:Int) (h0:0<c) (h1:c<128) (h:bt s p=c):runeOf s p=(c,1):=by
 have hp:p<s.size:=in_of (by omega)
 rw[rune_small hp (by omega),h]
theorem err_on {sb bb cap:Nat} {s:ByteArray} {w0 w:World} (hT:Tx sb bb cap s w0) (hB:Below w0.heap.size w0 w) (msg:ByteArray) (pos:Int) :
  Calls Tryz.prog 52 #[.pointer (some ⟨sb,0,none⟩),.int .i64 pos,.string msg] w fun e w'=>∃g:Nat,e = .returned (.pointer (some ⟨g,0,none⟩))∧Below w0.heap.size w0 w':=
 (syntaxError_any sb bb cap pos s msg w (hT.below hB).body (hT.below hB).s0 (by have:=hT.size;omega) hT.cap).mono fun e w' ⟨g,h1,h2⟩=>⟨g,h1,hB.trans (h2.mono hB.size)⟩
theorem dig_yes (sb bb p q cap:Nat) (s:ByteArray) (w:World) (hT:Tx sb bb cap s w) (hq:mDig s p=some q) :
  Calls Tryz.prog 68 #[.pointer (some ⟨sb,0,none⟩),.int .i64 p,.int .i32 (runeOf s p).1,.int .i64 (runeOf s p).2] w fun e w'=>
   e = .returned (.tuple #[.int .i64 q,.nilIface])∧Below w.heap.size w w':=by
 have hpq:=dig_prog hq;have h0:=hT.s0;have hs:=hT.size;have hcap:=hT.cap;unfold mDig at hq
 by_cases hd:isDig (bt s p)=true
 ·rw[if_pos hd]at hq
  obtain⟨q0,q1,q2,q3⟩:=scan_all isDig rfl s p (by omega)
  rw[Option.some.inj hq]at q0 q1 q2 q3;have hd2:=isDig_iff.1 hd;have Q2:=aK q2;have Q3:=aK q3;have HR:=aK (fun wx (hB:Below w.heap.size w wx) k hk=>rune_on hT hB k hk);clear q2 q3 hT hq hd;have hrp:=rune_small (s:=s) (p:=p) (by omega) (by omega)
  rw[hrp];have HD:=aK hd2;obtain⟨c,hc⟩:∃c,bt s p=c:=⟨_,rfl⟩;have HC:=aK hc;rw[hc]at hd2;simp only[hc];clear hc hrp;go_enter Tryz.func68,Tryz.ntmps68
  go_wp2_with fail
  go_loopw [3,11,12] (fun n i x wr=>∃k:Nat,p≤k∧k≤q∧n = .int .i64 (runeOf s k).2∧i = .int .i64 k∧x = .int .i32 (runeOf s k).1∧Aside0 (Below w.heap.size w wr)) (fun _ i _ _=>q-(intOf i).toNat)
  case atStart=>
   refine⟨p,by omega,by omega,?_,rfl,?_,⟨Below.refl _ _⟩⟩
   ·rw[rune_small (by omega) (by have:=HC.out;omega)]
   ·rw[rune_small (by omega) (by have:=HC.out;omega),HC.out]
  case round=>
   obtain⟨k,hk1,hk2,rfl,rfl,rfl,HB⟩:=hrel
   by_cases hlt:k<q
   ·have hdk:=isDig_iff.1 (Q2.out k hk1 hlt)
    have hrk:=rune_small (s:=s) (p:=k) (by omega) (by omega)
    rw[hrk];have HRk:=aK (HR.out _ HB.out (k+1) (by omega))
    clear hrk;generalize bt s k=x at *;simp only
    go_wp2_with fail
    refine HRk.out.mono ?_;rintro e w' ⟨rfl,hb1⟩;have HB1:=aK hb1;clear hb1
    go_wp2_with fail
    go_roundw
    case rel=>exact⟨k+1,by omega,by omega,by go_num,by go_num,by go_num,HB1⟩
    case measure=>simp[intOf];omega
   ·obtain rfl:k=q:=by omega
    have hn:isDig (runeOf s k).1=false:=rune_dig.trans Q3.out;generalize (runeOf s k).1=x at *;generalize (runeOf s k).2=y at *;have hn2:¬(48≤x∧x≤57):=fun h=>by rw[isDig_iff.2 h]at hn;cases hn
    have hway:x<48∨57<x:=by omega
    clear hn hn2;rcases hway with g|g
    all_goals
     go_wp2_with fail
     go_ret2
     exact⟨rfl,HB.out⟩
 ·rw[if_neg hd]at hq;cases hq
theorem dig_no (sb bb p cap:Nat) (s:ByteArray) (w:World) (hT:Tx sb bb cap s w) (hq:mDig s p=none) :
  Calls Tryz.prog 68 #[.pointer (some ⟨sb,0,none⟩),.int .i64 p,.int .i32 (runeOf s p).1,.int .i64 (runeOf s p).2] w fun e w'=>
   (∃(x:Int) (g:Nat),e = .returned (.tuple #[.int .i64 x,errV g]))∧Below w.heap.size w w':=by
 have h0:=hT.s0;have hd:isDig (runeOf s p).1=false:=by
  rw[rune_dig];unfold mDig at hq
  by_cases hd:isDig (bt s p)=true
  ·rw[if_pos hd]at hq;cases hq
  ·exact Bool.eq_false_iff.2 hd
 have HE:=aK (fun msg pos=>err_on hT (Below.refl _ _) msg pos);generalize (runeOf s p).1=x at *;generalize (runeOf s p).2=y at *;have hn2:¬(48≤x∧x≤57):=fun h=>by rw[isDig_iff.2 h]at hd;cases hd
 have hway:x<48∨57<x:=by omega
 clear hd hn2 hT hq;rcases hway with g|g
 all_goals
  go_enter Tryz.func68,Tryz.ntmps68
  go_wp2_with fail
  refine(HE.out _ _).mono ?_;rintro e w' ⟨g2,rfl,hb2⟩
  go_wp2_with fail
  go_ret2
  exact⟨⟨_,g2,rfl⟩,hb2⟩
theorem dig_yes_on {sb bb p q cap:Nat} {s:ByteArray} {w0 w:World} (hT:Tx sb bb cap s w0) (hB:Below w0.heap.size w0 w) (hq:mDig s p=some q) :
  Calls Tryz.prog 68 #[.pointer (some ⟨sb,0,none⟩),.int .i64 p,.int .i32 (runeOf s p).1,.int .i64 (runeOf s p).2] w fun e w'=>
   e = .returned (.tuple #[.int .i64 q,.nilIface])∧Below w0.heap.size w0 w':=
 (dig_yes sb bb p q cap s w (hT.below hB) hq).mono fun e w' ⟨h1,h2⟩=>⟨h1,hB.trans (h2.mono hB.size)⟩
theorem dig_no_on {sb bb p cap:Nat} {s:ByteArray} {w0 w:World} (hT:Tx sb bb cap s w0) (hB:Below w0.heap.size w0 w) (hq:mDig s p=none) :
  Calls Tryz.prog 68 #[.pointer (some ⟨sb,0,none⟩),.int .i64 p,.int .i32 (runeOf s p).1,.int .i64 (runeOf s p).2] w fun e w'=>
   (∃(x:Int) (g:Nat),e = .returned (.tuple #[.int .i64 x,errV g]))∧Below w0.heap.size w0 w':=
 (dig_no sb bb p cap s w (hT.below hB) hq).mono fun e w' ⟨h1,h2⟩=>⟨h1,hB.trans (h2.mono hB.size)⟩
theorem num_any (sb bb q cap:Nat) (s:ByteArray) (w:World) (hT:Tx sb bb cap s w) (hq:q<s.size) (hq8:bt s q<128) :
  Calls Tryz.prog 54 #[.pointer (some ⟨sb,0,none⟩),.int .i64 q,.int .i32 (bt s q),.int .i64 1] w fun e w'=>TokRes (mNum s q) w e w':=by
 have h0:=hT.s0;have hs:=hT.size;have hcap:=hT.cap;have hsb:sb<w.heap.size:=World.block_lt_of_cell? w _ h0;have hTW:=hT.below (below_alloc (Below.refl _ _) (.cells #[.int .i64 0,.int .i64 0,.int .i64 0,.string ⟨#[]⟩] 51));have HR:=aK (fun wx (hB:BW w wx) k hk=>rune_on hTW hB k hk);have HY:=aK (fun wx (hB:BW w wx) p r hx=>dig_yes_on (p:=p) (q:=r) hTW hB hx);have HN:=aK (fun wx (hB:BW w wx) p hx=>dig_no_on (p:=p) hTW hB hx);have HE:=aK (fun wx (hB:BW w wx) msg pos=>err_on hTW hB msg pos);have HB:=aK (Below.refl (w.alloc (.cells #[.int .i64 0,.int .i64 0,.int .i64 0,.string ⟨#[]⟩] 51)).heap.size (w.alloc (.cells #[.int .i64 0,.int .i64 0,.int .i64 0,.string ⟨#[]⟩] 51)));have HBB:=aK hTW;have hM:mNum s q=(mInt s (if bt s q=45 then q+1 else q)).bind fun p1=>(mFrac s p1).bind fun x=>(mExp s x.2).map fun y=>⟨if x.1||y.1 then 17 else 16,q,y.2,s.extract q y.2⟩:=rfl
 have HM:=aK hM;have HQ:=aK (rune_small hq hq8);clear hT hTW hM hq8;obtain⟨p0,hp0⟩:∃p0,p0=(if bt s q=45 then q+1 else q):=⟨_,rfl⟩
 have HP0:=aK hp0;clear hp0;go_enter Tryz.func54,Tryz.ntmps54
 go_upto_if 29 with fail
 go_cut [3,10,12] (fun n x i wx=>Aside0 (BW w wx)∧n = .int .i64 (runeOf s p0).2∧x = .int .i32 (runeOf s p0).1∧i = .int .i64 p0)
 case first=>
  by_cases h45:bt s q=45
  ·have e0:p0=q+1:=by rw[HP0.out,if_pos h45]
   have h45b:(bt s q==45)=true:=by rw[h45];rfl
   have hr:=aK (fun wx hB=>HR.out wx hB (q+1) (by omega))
   clear h45;have E0:=aK e0;clear e0
   go_wp2_with fail
   refine(hr.out _ HB.out).mono ?_;rintro e w' ⟨rfl,hb1⟩;clear HB;have HB:=aK hb1;clear hb1
   go_wp2_with fail
   go_meet
   case rel=>rw[E0.out];exact⟨HB,rfl,rfl,by go_num⟩
  ·have e0:p0=q:=by rw[HP0.out,if_neg h45]
   have hrq:runeOf s q=(bt s q,1):=HQ.out;have E0:=aK e0;have R0:=aK hrq;clear e0 hrq;have h45b:(bt s q==45)=false:=beq_eq_false_iff_ne.2 h45
   go_wp2_with fail
   go_meet
   case rel=>rw[E0.out,R0.out];exact⟨HB,rfl,rfl,rfl⟩
 case rest=>
  clear HB;obtain⟨HB,rfl,rfl,rfl⟩:=hcut
  go_upto_if 40 with fail
  go_cut [3,10,12] (fun n x i wx=>Aside0 (BW w wx)∧∃p1,mInt s p0=some p1∧n = .int .i64 (runeOf s p1).2∧x = .int .i32 (runeOf s p1).1∧i = .int .i64 p1)
  case first=>
   by_cases h48:bt s p0=48
   ·have hp0s:p0<s.size:=by
     rcases Nat.lt_or_ge p0 s.size with h|h
     ·exact h
     ·rw[bt_out s p0 h]at h48;cases h48
    have hrp:=rune_small hp0s (by omega)
    have hr1:(runeOf s p0).1=48:=by rw[hrp];exact h48
    have hr2:(runeOf s p0).2=1:=by rw[hrp]
    rw[hr1,hr2];clear hr1 hr2;have hr:=aK (fun wx hB=>HR.out wx hB (p0+1) (by omega))
    by_cases hd:isDig (bt s (p0+1:Nat))=true
    ·have H0:=aK (show mNum s q=none by rw[HM.out,←HP0.out];unfold mInt;rw[if_pos h48,if_pos hd];rfl)
     have hd2:=isDig_iff.1 (rune_dig.trans hd);clear hd hrp h48;generalize (runeOf s (p0+1)).1=x1 at *;generalize (runeOf s (p0+1)).2=n1 at *
     go_wp2_with fail
     refine(hr.out _ HB.out).mono ?_;rintro e w' ⟨rfl,hb1⟩;clear HB;have HB:=aK hb1;clear hb1
     go_wp2_with fail
     refine(HE.out _ HB.out _ _).mono ?_;rintro e w2 ⟨g2,rfl,hb2⟩;obtain⟨r0,r1,r2,r3⟩:=four_kept1 hb2;have hz0:=frozen_kept1 hb2 0;have hz1:=frozen_kept1 hb2 1;have hz2:=frozen_kept1 hb2 2;have hz3:=frozen_kept1 hb2 3;have HB2:=aK (below_one hb2);clear hb2
     go_wp2_with fail
     refine bodyPost_ret (v:=.tuple #[.agg #[.int .i64 0,.int .i64 0,.int .i64 0,.string ⟨#[]⟩],errV g2]) (by simp[results,Tryz.results54,go_sem,r0,r1,r2,r3,errV]) rfl ⟨below_four HB2.out,.inr ⟨H0.out,g2,rfl⟩⟩
    ·have H1:=aK (show mInt s p0=some (p0+1) by unfold mInt;rw[if_pos h48,if_neg hd])
     have hd2:¬(48≤(runeOf s (p0+1)).1∧(runeOf s (p0+1)).1≤57):=fun h=>hd (rune_dig.symm.trans (isDig_iff.2 h));have HX:Aside0 (∃x n:Int,(runeOf s (p0+1)).1=x∧(runeOf s (p0+1)).2=n):=⟨_,_,rfl,rfl⟩;obtain⟨x1,n1,hx1,hn1⟩:=HX.out;have HX1:=aK hx1;have HN1:=aK hn1;rw[hx1,hn1]at hr;rw[hx1]at hd2;clear hd hrp h48 hx1 hn1 HX;have hway:x1<48∨57<x1:=by omega
     clear hd2;rcases hway with g|g
     all_goals
      go_wp2_with fail
      refine(hr.out _ HB.out).mono ?_;rintro e w' ⟨rfl,hb1⟩;clear HB;have HB:=aK hb1;clear hb1
      go_wp2_with fail
      go_meet
      case rel=>exact⟨HB,p0+1,H1.out,by rw[HN1.out],by rw[HX1.out],by go_num⟩
   ·have h48r:(runeOf s p0).1≠48:=fun h=>h48 ((rune_fst 48 (by decide) (by decide)).1 h)
    have h48b:((runeOf s p0).1==48)=false:=beq_eq_false_iff_ne.2 h48r;cases hx:mDig s p0 with
    | none=>
     have H0:=aK (show mNum s q=none by rw[HM.out,←HP0.out];unfold mInt;rw[if_neg h48,hx];rfl)
     have hy:=aK (fun wx hB=>HN.out wx hB p0 hx);clear hx h48 h48r;generalize (runeOf s p0).1=x1 at *;generalize (runeOf s p0).2=n1 at *
     go_wp2_with fail
     refine(hy.out _ HB.out).mono ?_;rintro e w2 ⟨⟨x9,g2,rfl⟩,hb2⟩;obtain⟨r0,r1,r2,r3⟩:=four_kept1 hb2;have hz0:=frozen_kept1 hb2 0;have hz1:=frozen_kept1 hb2 1;have hz2:=frozen_kept1 hb2 2;have hz3:=frozen_kept1 hb2 3;have HB2:=aK (below_one hb2);clear hb2
     go_wp2_with fail
     refine bodyPost_ret (v:=.tuple #[.agg #[.int .i64 0,.int .i64 0,.int .i64 0,.string ⟨#[]⟩],errV g2]) (by simp[results,Tryz.results54,go_sem,r0,r1,r2,r3,errV]) rfl ⟨below_four HB2.out,.inr ⟨H0.out,g2,rfl⟩⟩
    | some p1=>
     have H1:=aK (show mInt s p0=some p1 by unfold mInt;rw[if_neg h48,hx])
     have hy:=aK (fun wx hB=>HY.out wx hB p0 p1 hx);have hr:=aK (fun wx hB=>HR.out wx hB p1 (by have:=dig_prog hx;omega))
     clear hx h48 h48r;generalize (runeOf s p0).1=x1 at *;generalize (runeOf s p0).2=n1 at *
     go_wp2_with fail
     refine(hy.out _ HB.out).mono ?_;rintro e w' ⟨rfl,hb1⟩;clear HB;have HB:=aK hb1;clear hb1
     go_wp2_with fail
     refine(hr.out _ HB.out).mono ?_;rintro e w' ⟨rfl,hb1⟩;clear HB;have HB:=aK hb1;clear hb1
     go_wp2_with fail
     go_meet
     case rel=>exact⟨HB,p1,H1.out,rfl,rfl,rfl⟩
  case rest=>
   clear HB;obtain⟨HB,p1,h1,rfl,rfl,rfl⟩:=hcut;have HI:=aK h1;clear h1
   go_upto_if 82 with fail
   go_cut [3,10,12,13] (fun n x i b wx=>Aside0 (BW w wx)∧∃y,mFrac s p1=some y∧n = .int .i64 (runeOf s y.2).2∧x = .int .i32 (runeOf s y.2).1∧i = .int .i64 y.2∧b = .bool y.1)
   case first=>
    by_cases h46:bt s p1=46
    ·have hp1s:p1<s.size:=by
      rcases Nat.lt_or_ge p1 s.size with h|h
      ·exact h
      ·rw[bt_out s p1 h]at h46;cases h46
     have hrp:=rune_small hp1s (by omega)
     have hr1:(runeOf s p1).1=46:=by rw[hrp];exact h46
     have hr2:(runeOf s p1).2=1:=by rw[hrp]
     rw[hr1,hr2];clear hr1 hr2 hrp;have hr:=aK (fun wx hB=>HR.out wx hB (p1+1) (by omega))
     cases hx:mDig s (p1+1)with
     | none=>
      have H0:=aK (show mNum s q=none by rw[HM.out,←HP0.out,HI.out];simp only[Option.bind_some];unfold mFrac;rw[if_pos h46,hx];rfl)
      have hy:=aK (fun wx hB=>HN.out wx hB (p1+1) hx);clear hx h46
      go_wp2_with fail
      refine(hr.out _ HB.out).mono ?_;rintro e w' ⟨rfl,hb1⟩;clear HB;have HB:=aK hb1;clear hb1;generalize (runeOf s (p1+1)).1=x1 at *;generalize (runeOf s (p1+1)).2=n1 at *
      go_wp2_with fail
      refine(hy.out _ HB.out).mono ?_;rintro e w2 ⟨⟨x9,g2,rfl⟩,hb2⟩;obtain⟨r0,r1,r2,r3⟩:=four_kept1 hb2;have hz0:=frozen_kept1 hb2 0;have hz1:=frozen_kept1 hb2 1;have hz2:=frozen_kept1 hb2 2;have hz3:=frozen_kept1 hb2 3;have HB2:=aK (below_one hb2);clear hb2
      go_wp2_with fail
      refine bodyPost_ret (v:=.tuple #[.agg #[.int .i64 0,.int .i64 0,.int .i64 0,.string ⟨#[]⟩],errV g2]) (by simp[results,Tryz.results54,go_sem,r0,r1,r2,r3,errV]) rfl ⟨below_four HB2.out,.inr ⟨H0.out,g2,rfl⟩⟩
     | some p2=>
      have H1:=aK (show mFrac s p1=some (true,p2) by unfold mFrac;rw[if_pos h46,hx];rfl)
      have hy:=aK (fun wx hB=>HY.out wx hB (p1+1) p2 hx);have hr3:=aK (fun wx hB=>HR.out wx hB p2 (by have:=dig_prog hx;omega))
      clear hx h46
      go_wp2_with fail
      refine(hr.out _ HB.out).mono ?_;rintro e w' ⟨rfl,hb1⟩;clear HB;have HB:=aK hb1;clear hb1;generalize (runeOf s (p1+1)).1=x1 at *;generalize (runeOf s (p1+1)).2=n1 at *
      go_wp2_with fail
      refine(hy.out _ HB.out).mono ?_;rintro e w' ⟨rfl,hb1⟩;clear HB;have HB:=aK hb1;clear hb1
      go_wp2_with fail
      refine(hr3.out _ HB.out).mono ?_;rintro e w' ⟨rfl,hb1⟩;clear HB;have HB:=aK hb1;clear hb1
      go_wp2_with fail
      go_meet
      case rel=>exact⟨HB,(true,p2),H1.out,rfl,rfl,rfl,rfl⟩
    ·have h46r:(runeOf s p1).1≠46:=fun h=>h46 ((rune_fst 46 (by decide) (by decide)).1 h)
     have h46b:((runeOf s p1).1==46)=false:=beq_eq_false_iff_ne.2 h46r;have H1:=aK (show mFrac s p1=some (false,p1) by unfold mFrac;rw[if_neg h46])
     clear h46 h46r
     go_wp2_with fail
     go_meet
     case rel=>exact⟨HB,(false,p1),H1.out,rfl,rfl,rfl,rfl⟩
   case rest=>
    clear HB;obtain⟨HB,⟨fl,p2⟩,h2,rfl,rfl,rfl,rfl⟩:=hcut;have HF:=aK h2;have hp2:p2≤s.size:=(frac_prog h2 (int_prog HI.out).2).2;clear h2;simp only
    go_upto_region 28 with fail
    go_cut [116] (fun b wx=>Aside0 (BW w wx)∧b = .bool ((runeOf s p2).1==69||(runeOf s p2).1==101))
    case first=>
     cases h69:((runeOf s p2).1==69)with
     | true=>
      go_wp2_with fail
      go_meet
      case rel=>exact⟨HB,by rw[h69,Bool.true_or]⟩
     | false=>
      go_wp2_with fail
      go_meet
      case rel=>exact⟨HB,by rw[h69,Bool.false_or]⟩
    clear HB;obtain⟨HB,rfl⟩:=hcut
    go_upto_if 116 with fail
    go_cut [12,13] (fun i b wx=>Aside0 (BW w wx)∧∃y,mExp s p2=some y∧i = .int .i64 y.2∧b = .bool (fl||y.1))
    case first=>
     by_cases h69:bt s p2=69∨bt s p2=101
     ·have hp2s:p2<s.size:=by
       rcases Nat.lt_or_ge p2 s.size with h|h
       ·exact h
       ·rw[bt_out s p2 h]at h69;omega
      have hrp:=rune_small hp2s (by omega)
      have hr1:(runeOf s p2).1=bt s p2:=by rw[hrp]
      have hr2:(runeOf s p2).2=1:=by rw[hrp]
      rw[hr1,hr2];clear hr1 hr2 hrp;have hr:=aK (fun wx hB=>HR.out wx hB (p2+1) (by omega))
      obtain⟨k,hk⟩:∃k,k=(if bt s (p2+1:Nat)=43∨bt s (p2+1:Nat)=45 then p2+2 else p2+1):=⟨_,rfl⟩
      have HK:=aK hk;have hms:mExp s p2=(mDig s k).map fun q=>(true,q):=by unfold mExp;rw[if_pos h69,hk]
      have HMS:=aK hms;have h43:(bt s (p2+1:Nat)=43∨bt s (p2+1:Nat)=45)∨¬(bt s (p2+1:Nat)=43∨bt s (p2+1:Nat)=45):=Decidable.em _;clear hk hms;have h69t:(bt s p2==69||bt s p2==101)=true:=by
       rcases h69 with h|h
       ·rw[h];rfl
       ·rw[h];rfl
      clear h69;generalize bt s p2=c2 at *;rw[h69t];rcases h43 with h43|h43
      ·have hkk:k=p2+2:=by rw[HK.out,if_pos h43]
       have hp3s:p2+1<s.size:=by
        rcases Nat.lt_or_ge (p2+1) s.size with h|h
        ·exact h
        ·rw[bt_out s _ h]at h43;omega
       have hrp:=rune_small hp3s (by omega)
       rw[hrp]at hr;subst hkk;have hr3:=aK (fun wx hB=>HR.out wx hB (p2+2) (by omega))
       have h43b:((bt s (p2+1:Nat)==43)=true)∨((bt s (p2+1:Nat)==43)=false∧(bt s (p2+1:Nat)==45)=true):=by
        rcases h43 with h|h
        ·exact .inl (by rw[h];rfl)
        ·exact .inr ⟨by rw[h];rfl,by rw[h];rfl⟩
       clear h43 hrp;generalize bt s (p2+1:Nat)=c3 at *;cases hx:mDig s (p2+2)with
       | none=>
        have H0:=aK (show mNum s q=none by rw[HM.out,←HP0.out,HI.out];simp only[Option.bind_some];rw[HF.out];simp only[Option.bind_some];rw[HMS.out,hx];rfl)
        have hy:=aK (fun wx hB=>HN.out wx hB (p2+2) hx);clear hx;rcases h43b with h43b|⟨h43b,h43c⟩
        all_goals
         go_wp2_with fail
         refine(hr.out _ HB.out).mono ?_;rintro e w' ⟨rfl,hb1⟩;clear HB;have HB:=aK hb1;clear hb1
         go_wp2_with fail
         refine(hr3.out _ HB.out).mono ?_;rintro e w' ⟨rfl,hb1⟩;clear HB;have HB:=aK hb1;clear hb1;generalize (runeOf s (p2+2)).1=x1 at *;generalize (runeOf s (p2+2)).2=n1 at *
         go_wp2_with fail
         refine(hy.out _ HB.out).mono ?_;rintro e w2 ⟨⟨x9,g2,rfl⟩,hb2⟩;obtain⟨r0,r1,r2,r3⟩:=four_kept1 hb2;have hz0:=frozen_kept1 hb2 0;have hz1:=frozen_kept1 hb2 1;have hz2:=frozen_kept1 hb2 2;have hz3:=frozen_kept1 hb2 3;have HB2:=aK (below_one hb2);clear hb2
         go_wp2_with fail
         refine bodyPost_ret (v:=.tuple #[.agg #[.int .i64 0,.int .i64 0,.int .i64 0,.string ⟨#[]⟩],errV g2]) (by simp[results,Tryz.results54,go_sem,r0,r1,r2,r3,errV]) rfl ⟨below_four HB2.out,.inr ⟨H0.out,g2,rfl⟩⟩
       | some p4=>
        have H1:=aK (show mExp s p2=some (true,p4) by rw[HMS.out,hx];rfl)
        have hy:=aK (fun wx hB=>HY.out wx hB (p2+2) p4 hx);clear hx;rcases h43b with h43b|⟨h43b,h43c⟩
        all_goals
         go_wp2_with fail
         refine(hr.out _ HB.out).mono ?_;rintro e w' ⟨rfl,hb1⟩;clear HB;have HB:=aK hb1;clear hb1
         go_wp2_with fail
         refine(hr3.out _ HB.out).mono ?_;rintro e w' ⟨rfl,hb1⟩;clear HB;have HB:=aK hb1;clear hb1;generalize (runeOf s (p2+2)).1=x1 at *;generalize (runeOf s (p2+2)).2=n1 at *
         go_wp2_with fail
         refine(hy.out _ HB.out).mono ?_;rintro e w' ⟨rfl,hb1⟩;clear HB;have HB:=aK hb1;clear hb1
         go_wp2_with fail
         go_meet
         case rel=>exact⟨HB,(true,p4),H1.out,rfl,by simp⟩
      ·have hkk:k=p2+1:=by rw[HK.out,if_neg h43]
       subst hkk;have h43b:((runeOf s (p2+1)).1==43)=false:=beq_eq_false_iff_ne.2 fun h=>h43 (.inl ((rune_fst 43 (by decide) (by decide)).1 h))
       have h45b:((runeOf s (p2+1)).1==45)=false:=beq_eq_false_iff_ne.2 fun h=>h43 (.inr ((rune_fst 45 (by decide) (by decide)).1 h))
       clear h43;cases hx:mDig s (p2+1)with
       | none=>
        have H0:=aK (show mNum s q=none by rw[HM.out,←HP0.out,HI.out];simp only[Option.bind_some];rw[HF.out];simp only[Option.bind_some];rw[HMS.out,hx];rfl)
        have hy:=aK (fun wx hB=>HN.out wx hB (p2+1) hx);clear hx
        all_goals
         go_wp2_with fail
         refine(hr.out _ HB.out).mono ?_;rintro e w' ⟨rfl,hb1⟩;clear HB;have HB:=aK hb1;clear hb1;generalize (runeOf s (p2+1)).1=x1 at *;generalize (runeOf s (p2+1)).2=n1 at *
         go_wp2_with fail
         refine(hy.out _ HB.out).mono ?_;rintro e w2 ⟨⟨x9,g2,rfl⟩,hb2⟩;obtain⟨r0,r1,r2,r3⟩:=four_kept1 hb2;have hz0:=frozen_kept1 hb2 0;have hz1:=frozen_kept1 hb2 1;have hz2:=frozen_kept1 hb2 2;have hz3:=frozen_kept1 hb2 3;have HB2:=aK (below_one hb2);clear hb2
         go_wp2_with fail
         refine bodyPost_ret (v:=.tuple #[.agg #[.int .i64 0,.int .i64 0,.int .i64 0,.string ⟨#[]⟩],errV g2]) (by simp[results,Tryz.results54,go_sem,r0,r1,r2,r3,errV]) rfl ⟨below_four HB2.out,.inr ⟨H0.out,g2,rfl⟩⟩
       | some p4=>
        have H1:=aK (show mExp s p2=some (true,p4) by rw[HMS.out,hx];rfl)
        have hy:=aK (fun wx hB=>HY.out wx hB (p2+1) p4 hx);clear hx
        all_goals
         go_wp2_with fail
         refine(hr.out _ HB.out).mono ?_;rintro e w' ⟨rfl,hb1⟩;clear HB;have HB:=aK hb1;clear hb1;generalize (runeOf s (p2+1)).1=x1 at *;generalize (runeOf s (p2+1)).2=n1 at *
         go_wp2_with fail
         refine(hy.out _ HB.out).mono ?_;rintro e w' ⟨rfl,hb1⟩;clear HB;have HB:=aK hb1;clear hb1
         go_wp2_with fail
         go_meet
         case rel=>exact⟨HB,(true,p4),H1.out,rfl,by simp⟩
     ·have h69b:((runeOf s p2).1==69)=false:=beq_eq_false_iff_ne.2 fun h=>h69 (.inl ((rune_fst 69 (by decide) (by decide)).1 h))
      have h101b:((runeOf s p2).1==101)=false:=beq_eq_false_iff_ne.2 fun h=>h69 (.inr ((rune_fst 101 (by decide) (by decide)).1 h))
      have H1:=aK (show mExp s p2=some (false,p2) by unfold mExp;rw[if_neg h69])
      clear h69;rw[h69b,h101b,Bool.false_or];clear h69b h101b
      go_wp2_with fail
      go_meet
      case rel=>exact⟨HB,(false,p2),H1.out,rfl,by simp⟩
    case rest=>
     clear HB;obtain⟨HB,⟨ex,p3⟩,h3,rfl,rfl⟩:=hcut;have hp3:=exp_prog h3 hp2;have hqp:q≤p3:=by
      have h1:=int_prog HI.out;have h2:=frac_prog HF.out h1.2;have h3:q≤p0:=by rw[HP0.out];split<;>omega
      simp only at h2 hp3;omega
     have H0:=aK (show mNum s q=some ⟨if fl||ex then 17 else 16,q,p3,s.extract q p3⟩ by rw[HM.out,←HP0.out,HI.out];simp only[Option.bind_some];rw[HF.out];simp only[Option.bind_some];rw[h3];rfl)
     simp only at hp3;have hp3l:=hp3.2;have hcv:=conv_part (HBB.out.body.below HB.out) q p3 cap hqp hp3l;clear h3 hp3;simp only;generalize (fl||ex)=bb3 at *
     cases bb3
     all_goals
      go_wp2_with fail
      refine(makeToken_on HB.out _ _ _ _).mono ?_;rintro e w2 ⟨rfl,hb2⟩;obtain⟨r0,r1,r2,r3⟩:=four_kept1 hb2;have hz0:=frozen_kept1 hb2 0;have hz1:=frozen_kept1 hb2 1;have hz2:=frozen_kept1 hb2 2;have hz3:=frozen_kept1 hb2 3;have HB2:=aK (below_one hb2);clear hb2
      go_wp2_with fail
      refine bodyPost_ret (v:=.tuple #[.agg #[.int .i64 _,.int .i64 q,.int .i64 p3,.string (s.extract q p3)],.nilIface]) (by simp[results,Tryz.results54,go_sem,r0,r1,r2,r3]) rfl ⟨below_four HB2.out,.inl ⟨_,H0.out,rfl⟩⟩
end Go.Proofs.YtjolkdnfbmkjiaaGreatDoor.Lx
