import Derived.Test.YtjolkdnfbmkjiaaGreatDoorVB6
import Derived.Test.YtjolkdnfbmkjiaaGreatDoorVB3
import Derived.Test.YtjolkdnfbmkjiaaGreatDoorVB2
import Derived.Test.YtjolkdnfbmkjiaaGreatDoorVB4
set_option maxRecDepth 100000
set_option maxHeartbeats 8000000
set_option linter.unusedVariables false
set_option linter.unusedSimpArgs false
namespace Go.Proofs.YtjolkdnfbmkjiaaGreatDoor.Lx
open Go.RowKit Go.Proofs.YtjolkdnfbmkjiaaGreatDoorW.PrintWords Keep Go.Proofs.YtjolkdnfbmkjiaaGreatDoor.Mod Rel Sim Four Step Env Err
theorem below_fourAt {w w1:World} {b:Nat} {x0 x1 x2 x3:Value} (hb:w.heap.size≤b) (h:Below w.heap.size w w1):Below w.heap.size w ((((w1.setCell ⟨b,0,none⟩ x0).setCell ⟨b,1,none⟩ x1).setCell ⟨b,2,none⟩ x2).setCell ⟨b,3,none⟩ x3):=
 (((h.setCell (p:=⟨b,0,none⟩) hb _).setCell (p:=⟨b,1,none⟩) hb _).setCell (p:=⟨b,2,none⟩) hb _).setCell (p:=⟨b,3,none⟩) hb _
theorem tok_str (sb bb p q cap z:Nat) (x s:ByteArray) (w:World) (hT:Tx sb bb cap s w) (hp:p≤s.size) (hq:Skip s p q) (h34:bt s q=34) (h3:¬three s q) (hb:Bits s (q+1) z x) (hE:bt s z=34∨BitBad s z) :
  Calls Tryz.prog 31 #[.pointer (some ⟨sb,0,none⟩),.int .i64 p] w fun e w'=>StrRes s q z x w e w':=by
 have h0:=hT.s0;have hs:=hT.size;have hcap:=hT.cap;have hsb:sb<w.heap.size:=World.block_lt_of_cell? w _ h0;have hqe:q<s.size:=in_of (by omega)
 have hst:Stop s q:=.inr ⟨hqe,by rw[h34];decide,by omega,by omega⟩
 have hTW:=hT.below (below_alloc (Below.refl _ _) (.cells #[.int .i64 0,.int .i64 0,.int .i64 0,.string ⟨#[]⟩] 51));have HR:=aK (fun wx (hB:BW w wx) k hk=>rune_on hTW hB k hk);have HS:=aK (ws_any sb bb p q cap s _ hTW hp hq hst);have HC:=aK (fun wx (hTx:Tx sb bb cap s wx)=>str_any sb bb q cap z x s wx hTx hqe hb hE);have HTW:=aK hTW;have hqs:q≤s.size:=hq.size hp;have hqi:(q:Int)<(s.size:Int):=by omega
 have hr:=aK (fun wx hB=>HR.out wx hB q (by omega))
 have hr1:=aK (fun wx (hTx:Tx sb bb cap s wx)=>(show Calls Tryz.prog 51 #[.slice (some ⟨bb,0,none⟩) s.size cap,.int .i64 ((q:Int)+1)] wx _ from rune_any sb bb (q+1) cap s wx hTx (by omega)))
 have hr2:=aK (fun wx (hTx:Tx sb bb cap s wx)=>(show Calls Tryz.prog 51 #[.slice (some ⟨bb,0,none⟩) s.size cap,.int .i64 ((q:Int)+2)] wx _ from rune_any sb bb (q+2) cap s wx hTx (by omega)))
 rw[rune_lt 34 (by decide) (by decide) h34]at hr
 have hno:¬((runeOf s (q+1)).1=34∧(runeOf s (q+2)).1=34):=fun h=>h3 ⟨h34,(rune_fst 34 (by decide) (by decide)).1 h.1,(rune_fst 34 (by decide) (by decide)).1 h.2⟩
 clear hT hTW hq hst h3 h34 hb hE HR;generalize (runeOf s (q+1)).1=c1 at *;generalize (runeOf s (q+2)).1=c2 at *;generalize (runeOf s (q+1)).2=n1 at *;generalize (runeOf s (q+2)).2=n2 at *
 by_cases e1:c1=34
 ·have f1:(c1==34)=true:=beq_iff_eq.2 e1
  have f2:(c2==34)=false:=beq_eq_false_iff_ne.2 fun h=>hno ⟨e1,h⟩;clear e1 hno;go_enter Tryz.func31,Tryz.ntmps31
  go_wp2_with fail
  refine HS.out.mono ?_;rintro e w' ⟨rfl,hb1⟩;have HB:=aK hb1;clear hb1
  go_wp2_with fail
  refine(hr.out _ (by first|exact HB.out|exact below_alloc HB.out _)).mono ?_
  rintro e w' ⟨rfl,hb1⟩;clear HB;have HB:=aK hb1;clear hb1
  go_wp2_with fail
  have HB0:=aK (below_alloc HB.out (.cells #[.int .i64 0,.int .i64 0,.int .i64 0,.string ⟨#[]⟩] 51));have hlt:w.heap.size<w'.heap.size:=by have h:=HB.out.size;simp only[World.size_alloc]at h;omega
  have hne:w.heap.size≠w'.heap.size:=by omega
  have HT1:=aK (HTW.out.below HB0.out);refine(hr1.out _ HT1.out).mono ?_;rintro e w1 ⟨rfl,hb1⟩;have HB1:=aK hb1;clear hb1
  go_wp2_with fail
  refine(hr2.out _ (HT1.out.below HB1.out)).mono ?_;rintro e w2 ⟨rfl,hb1⟩;have hb12:=aK (HB1.out.trans (hb1.mono HB1.out.size));clear hb1 HB1
  go_wp2_with fail
  refine(HC.out _ (HT1.out.below hb12.out)).mono ?_;rintro e w3 ⟨hb0,h⟩;have hb13:=hb12.out.trans (hb0.mono hb12.out.size);have hb2:=HB0.out.trans (hb13.mono HB0.out.size);clear hb0 hb12;rcases h with⟨hz,rfl⟩|⟨hbad,g,rfl⟩
  ·have H2:=aK hz
   clear hz;obtain⟨r0,r1,r2,r3⟩:=four_kept1 hb2;obtain⟨k0,k1,k2,k3⟩:=four_kept1 hb13;have hz0:=frozen_kept1 hb2 0;have hz1:=frozen_kept1 hb2 1;have hz2:=frozen_kept1 hb2 2;have hz3:=frozen_kept1 hb2 3;have hy0:=frozen_kept1 hb13 0;have hy1:=frozen_kept1 hb13 1;have hy2:=frozen_kept1 hb13 2;have hy3:=frozen_kept1 hb13 3;have HB2:=aK (below_one hb2);clear hb2 hb13
   go_wp2_with fail
   refine bodyPost_ret (v:=.tuple #[tokV ⟨18,q,z+1,x⟩,.nilIface]) (by simp[results,Tryz.results31,go_sem,r0,r1,r2,r3,k0,k1,k2,k3,tokV,hlt,hne]) rfl ⟨?_,.inl ⟨H2.out,rfl⟩⟩
   exact below_four (below_fourAt (Nat.le_of_lt hlt) HB2.out)
  ·have H2:=aK hbad
   clear hbad;obtain⟨r0,r1,r2,r3⟩:=four_kept1 hb2;obtain⟨k0,k1,k2,k3⟩:=four_kept1 hb13;have hz0:=frozen_kept1 hb2 0;have hz1:=frozen_kept1 hb2 1;have hz2:=frozen_kept1 hb2 2;have hz3:=frozen_kept1 hb2 3;have hy0:=frozen_kept1 hb13 0;have hy1:=frozen_kept1 hb13 1;have hy2:=frozen_kept1 hb13 2;have hy3:=frozen_kept1 hb13 3;have HB2:=aK (below_one hb2);clear hb2 hb13
   go_wp2_with fail
   refine bodyPost_ret (v:=.tuple #[zeroT,errV g]) (by simp[results,Tryz.results31,go_sem,r0,r1,r2,r3,k0,k1,k2,k3,zeroT,errV,hlt,hne]) rfl ⟨?_,.inr ⟨H2.out,g,rfl⟩⟩
   exact below_four (below_fourAt (Nat.le_of_lt hlt) HB2.out)
 ·have f1:(c1==34)=false:=beq_eq_false_iff_ne.2 e1
  clear e1 hno;go_enter Tryz.func31,Tryz.ntmps31
  go_wp2_with fail
  refine HS.out.mono ?_;rintro e w' ⟨rfl,hb1⟩;have HB:=aK hb1;clear hb1
  go_wp2_with fail
  refine(hr.out _ (by first|exact HB.out|exact below_alloc HB.out _)).mono ?_
  rintro e w' ⟨rfl,hb1⟩;clear HB;have HB:=aK hb1;clear hb1
  go_wp2_with fail
  have HB0:=aK (below_alloc HB.out (.cells #[.int .i64 0,.int .i64 0,.int .i64 0,.string ⟨#[]⟩] 51));have hlt:w.heap.size<w'.heap.size:=by have h:=HB.out.size;simp only[World.size_alloc]at h;omega
  have hne:w.heap.size≠w'.heap.size:=by omega
  have HT1:=aK (HTW.out.below HB0.out);refine(hr1.out _ HT1.out).mono ?_;rintro e w1 ⟨rfl,hb1⟩;have HB1:=aK hb1;clear hb1
  go_wp2_with fail
  refine(hr2.out _ (HT1.out.below HB1.out)).mono ?_;rintro e w2 ⟨rfl,hb1⟩;have hb12:=aK (HB1.out.trans (hb1.mono HB1.out.size));clear hb1 HB1
  go_wp2_with fail
  refine(HC.out _ (HT1.out.below hb12.out)).mono ?_;rintro e w3 ⟨hb0,h⟩;have hb13:=hb12.out.trans (hb0.mono hb12.out.size);have hb2:=HB0.out.trans (hb13.mono HB0.out.size);clear hb0 hb12;rcases h with⟨hz,rfl⟩|⟨hbad,g,rfl⟩
  ·have H2:=aK hz
   clear hz;obtain⟨r0,r1,r2,r3⟩:=four_kept1 hb2;obtain⟨k0,k1,k2,k3⟩:=four_kept1 hb13;have hz0:=frozen_kept1 hb2 0;have hz1:=frozen_kept1 hb2 1;have hz2:=frozen_kept1 hb2 2;have hz3:=frozen_kept1 hb2 3;have hy0:=frozen_kept1 hb13 0;have hy1:=frozen_kept1 hb13 1;have hy2:=frozen_kept1 hb13 2;have hy3:=frozen_kept1 hb13 3;have HB2:=aK (below_one hb2);clear hb2 hb13
   go_wp2_with fail
   refine bodyPost_ret (v:=.tuple #[tokV ⟨18,q,z+1,x⟩,.nilIface]) (by simp[results,Tryz.results31,go_sem,r0,r1,r2,r3,k0,k1,k2,k3,tokV,hlt,hne]) rfl ⟨?_,.inl ⟨H2.out,rfl⟩⟩
   exact below_four (below_fourAt (Nat.le_of_lt hlt) HB2.out)
  ·have H2:=aK hbad
   clear hbad;obtain⟨r0,r1,r2,r3⟩:=four_kept1 hb2;obtain⟨k0,k1,k2,k3⟩:=four_kept1 hb13;have hz0:=frozen_kept1 hb2 0;have hz1:=frozen_kept1 hb2 1;have hz2:=frozen_kept1 hb2 2;have hz3:=frozen_kept1 hb2 3;have hy0:=frozen_kept1 hb13 0;have hy1:=frozen_kept1 hb13 1;have hy2:=frozen_kept1 hb13 2;have hy3:=frozen_kept1 hb13 3;have HB2:=aK (below_one hb2);clear hb2 hb13
   go_wp2_with fail
   refine bodyPost_ret (v:=.tuple #[zeroT,errV g]) (by simp[results,Tryz.results31,go_sem,r0,r1,r2,r3,k0,k1,k2,k3,zeroT,errV,hlt,hne]) rfl ⟨?_,.inr ⟨H2.out,g,rfl⟩⟩
   exact below_four (below_fourAt (Nat.le_of_lt hlt) HB2.out)
theorem tok_blk (sb bb p q cap z:Nat) (s:ByteArray) (w:World) (hT:Tx sb bb cap s w) (hs2:s.size≤200000) (hp:p≤s.size) (hq:Skip s p q) (h3:three s q) (hP:Raw s (q+3) z) (hE:RawBad s z∨(three s z∧∃v,Lex.blkV (s.extract (q+3) z) v)) (h34:bt s q=34) :
  Calls Tryz.prog 31 #[.pointer (some ⟨sb,0,none⟩),.int .i64 p] w fun e w'=>BlkRes s q z w e w':=by
 have h0:=hT.s0;have hs:=hT.size;have hcap:=hT.cap;have hsb:sb<w.heap.size:=World.block_lt_of_cell? w _ h0;have hqe:q<s.size:=in_of (by omega)
 have hst:Stop s q:=.inr ⟨hqe,by rw[h34];decide,by omega,by omega⟩
 have hTW:=hT.below (below_alloc (Below.refl _ _) (.cells #[.int .i64 0,.int .i64 0,.int .i64 0,.string ⟨#[]⟩] 51));have HR:=aK (fun wx (hB:BW w wx) k hk=>rune_on hTW hB k hk);have HS:=aK (ws_any sb bb p q cap s _ hTW hp hq hst);have HC:=aK (fun wx (hTx:Tx sb bb cap s wx)=>blk_any sb bb q cap z s wx hTx hs2 (three_in h3) hP hE);have HTW:=aK hTW;have hqs:q≤s.size:=hq.size hp;have hqi:(q:Int)<(s.size:Int):=by omega
 have hr:=aK (fun wx hB=>HR.out wx hB q (by omega))
 have hr1:=aK (fun wx (hTx:Tx sb bb cap s wx)=>(show Calls Tryz.prog 51 #[.slice (some ⟨bb,0,none⟩) s.size cap,.int .i64 ((q:Int)+1)] wx _ from rune_any sb bb (q+1) cap s wx hTx (by omega)))
 have hr2:=aK (fun wx (hTx:Tx sb bb cap s wx)=>(show Calls Tryz.prog 51 #[.slice (some ⟨bb,0,none⟩) s.size cap,.int .i64 ((q:Int)+2)] wx _ from rune_any sb bb (q+2) cap s wx hTx (by omega)))
 rw[rune_lt 34 (by decide) (by decide) h34]at hr
 rw[rune_lt 34 (by decide) (by decide) h3.2.1]at hr1
 rw[rune_lt 34 (by decide) (by decide) h3.2.2]at hr2
 clear hT hTW hq hst h3 h34 hP hE HR;go_enter Tryz.func31,Tryz.ntmps31
 go_wp2_with fail
 refine HS.out.mono ?_;rintro e w' ⟨rfl,hb1⟩;have HB:=aK hb1;clear hb1
 go_wp2_with fail
 refine(hr.out _ (by first|exact HB.out|exact below_alloc HB.out _)).mono ?_
 rintro e w' ⟨rfl,hb1⟩;clear HB;have HB:=aK hb1;clear hb1
 go_wp2_with fail
 have HB0:=aK (below_alloc HB.out (.cells #[.int .i64 0,.int .i64 0,.int .i64 0,.string ⟨#[]⟩] 51));have hlt:w.heap.size<w'.heap.size:=by have h:=HB.out.size;simp only[World.size_alloc]at h;omega
 have hne:w.heap.size≠w'.heap.size:=by omega
 have HT1:=aK (HTW.out.below HB0.out);refine(hr1.out _ HT1.out).mono ?_;rintro e w1 ⟨rfl,hb1⟩;have HB1:=aK hb1;clear hb1
 go_wp2_with fail
 refine(hr2.out _ (HT1.out.below HB1.out)).mono ?_;rintro e w2 ⟨rfl,hb1⟩;have hb12:=aK (HB1.out.trans (hb1.mono HB1.out.size));clear hb1 HB1
 go_wp2_with fail
 refine(HC.out _ (HT1.out.below hb12.out)).mono ?_;rintro e w3 ⟨hb0,h⟩;have hb13:=hb12.out.trans (hb0.mono hb12.out.size);have hb2:=HB0.out.trans (hb13.mono HB0.out.size);clear hb0 hb12;rcases h with⟨v,hz,hv,rfl⟩|⟨hbad,g,rfl⟩
 ·have H2:=aK (⟨hz,hv⟩:_∧_)
  clear hz hv;obtain⟨r0,r1,r2,r3⟩:=four_kept1 hb2;obtain⟨k0,k1,k2,k3⟩:=four_kept1 hb13;have hz0:=frozen_kept1 hb2 0;have hz1:=frozen_kept1 hb2 1;have hz2:=frozen_kept1 hb2 2;have hz3:=frozen_kept1 hb2 3;have hy0:=frozen_kept1 hb13 0;have hy1:=frozen_kept1 hb13 1;have hy2:=frozen_kept1 hb13 2;have hy3:=frozen_kept1 hb13 3;have HB2:=aK (below_one hb2);clear hb2 hb13
  go_wp2_with fail
  refine bodyPost_ret (v:=.tuple #[tokV ⟨19,q,z+3,v⟩,.nilIface]) (by simp[results,Tryz.results31,go_sem,r0,r1,r2,r3,k0,k1,k2,k3,tokV,hlt,hne]) rfl ⟨?_,.inl ⟨v,H2.out.1,H2.out.2,rfl⟩⟩
  exact below_four (below_fourAt (Nat.le_of_lt hlt) HB2.out)
 ·have H2:=aK hbad
  clear hbad;obtain⟨r0,r1,r2,r3⟩:=four_kept1 hb2;obtain⟨k0,k1,k2,k3⟩:=four_kept1 hb13;have hz0:=frozen_kept1 hb2 0;have hz1:=frozen_kept1 hb2 1;have hz2:=frozen_kept1 hb2 2;have hz3:=frozen_kept1 hb2 3;have hy0:=frozen_kept1 hb13 0;have hy1:=frozen_kept1 hb13 1;have hy2:=frozen_kept1 hb13 2;have hy3:=frozen_kept1 hb13 3;have HB2:=aK (below_one hb2);clear hb2 hb13
  go_wp2_with fail
  refine bodyPost_ret (v:=.tuple #[zeroT,errV g]) (by simp[results,Tryz.results31,go_sem,r0,r1,r2,r3,k0,k1,k2,k3,zeroT,errV,hlt,hne]) rfl ⟨?_,.inr ⟨H2.out,g,rfl⟩⟩
  exact below_four (below_fourAt (Nat.le_of_lt hlt) HB2.out)
theorem stop_asc {s:ByteArray} {q:Nat} (h:q<s.size) (h1:bt s q<128) (h2:isWs (bt s q)=false) (h3:bt s q≠35):Stop s q:=.inr ⟨h,h2,h3,fun h4=>by omega⟩
theorem ws_no {c:Int} (h1:c≠9) (h2:c≠32) (h3:c≠10) (h4:c≠13) (h5:c≠44):isWs c=false:=by
 unfold isWs;rw[beq_eq_false_iff_ne.2 h1,beq_eq_false_iff_ne.2 h2,beq_eq_false_iff_ne.2 h3,beq_eq_false_iff_ne.2 h4,beq_eq_false_iff_ne.2 h5];rfl
theorem let_iff {c:Int}:isLet c=true↔(c=95∨(65≤c∧c≤90)∨(97≤c∧c≤122)):=by
 unfold isLet;simp only[Bool.or_eq_true,Bool.and_eq_true,decide_eq_true_eq,beq_iff_eq];omega
theorem sign_zero_of {c:Int} (h:∀k:Int,k=33∨k=36∨k=38∨k=40∨k=41∨k=58∨k=61∨k=64∨k=91∨k=93∨k=123∨k=124∨k=125→c≠k):signK c=0:=by
 rcases Decidable.em (signK c=0)with h1|h1
 ·exact h1
 ·exact absurd rfl (h c (sign_cases h1))
section
variable {sb bb cap p q:Nat} {s:ByteArray} {w:World}
theorem read_tok {t:Tok} (hT:Tx sb bb cap s w) (hs2:s.size≤200000) (hp:p≤s.size) (hq:Skip s p q) (ht:TokAt Lex.blkV s q t) :
  Calls Tryz.prog 31 #[.pointer (some ⟨sb,0,none⟩),.int .i64 p] w fun e w'=>TokRes (some t) w e w':=by
 cases ht with
 | sign h1 h2=>
  have hcs:=sign_cases h2;have h:=tok_sign sb bb p q cap s w hT hp hq (stop_asc h1 (by omega) (ws_no (by omega) (by omega) (by omega) (by omega) (by omega)) (by omega)) h1 h2
  rwa[show mTokAt s q=some ⟨signK (bt s q),q,q+1,⟨#[]⟩⟩ by unfold mTokAt;rw[if_neg (by omega),if_pos h2]]at h
 | dots h1 h2 h3=>
  have hqs:q<s.size:=in_of (by omega)
  have h:=tok_dot sb bb p q cap s w hT hp hq (stop_asc hqs (by omega) (ws_no (by omega) (by omega) (by omega) (by omega) (by omega)) (by omega)) hqs h1
  rwa[show mTokAt s q=some ⟨6,q,q+3,⟨#[]⟩⟩ by unfold mTokAt;rw[h1,if_neg (by omega),if_neg (by decide),if_pos rfl,if_pos ⟨h2,h3⟩]]at h
 | name h1=>
  have hcs:=let_iff.1 h1;have hqs:q<s.size:=in_of (by omega)
  have hst:=stop_asc hqs (by omega) (ws_no (c:=bt s q) (by omega) (by omega) (by omega) (by omega) (by omega)) (by omega)
  have hk:signK (bt s q)=0:=sign_zero_of fun k hk=>by omega
  have e:mTokAt s q=some ⟨15,q,scan isNam s s.size (q+1),s.extract q (scan isNam s s.size (q+1))⟩:=by unfold mTokAt;rw[if_neg (by omega),if_neg (by omega),if_neg (by omega),if_pos h1]
  rw[←e];rcases hcs with h|⟨h,h'⟩|⟨h,h'⟩
  ·exact tok_line sb bb p q cap s w hT hp hq hst hqs h
  ·exact tok_upper sb bb p q cap s w hT hp hq hst hqs h h'
  ·exact tok_lower sb bb p q cap s w hT hp hq hst hqs h h'
 | num h1 h2=>
  exact h2▸read_num hT hp hq h1
 | @str a x h1 h2 h3 h4=>
  refine(tok_str sb bb p q cap a x s w hT hp hq h1 h2 h3 (.inl h4)).mono fun e w' h=>?_;obtain⟨hb,h⟩:=h;rcases h with⟨_,h⟩|⟨h,_⟩
  ·exact⟨hb,.inl ⟨_,rfl,h⟩⟩
  ·exact(bad_quote h h4).elim
 | @blk a v h1 h2 h3 h4=>
  refine(tok_blk sb bb p q cap a s w hT hs2 hp hq h1 h2 (.inr ⟨h3,v,h4⟩) h1.1).mono fun e w' h=>?_;obtain⟨hb,h⟩:=h;rcases h with⟨v',_,hv,h⟩|⟨h,_⟩
  ·have hvv:v'=v:=by
    obtain⟨l1,a1,b1,rfl⟩:=hv;obtain⟨l2,a2,b2,rfl⟩:=h4;have e1:=(a1.2 (2*(s.extract (q+3) a).size+3) (by omega)).1
    have e2:=(a2.2 (2*(s.extract (q+3) a).size+3) (by omega)).1
    rw[e1]at e2;rw[Option.some.inj e2]
   rw[hvv]at h;exact⟨hb,.inl ⟨_,rfl,h⟩⟩
  ·have:=h3.1
   rcases h with h|⟨_,h,_⟩
   ·rw[bt_out s a h]at this;cases this
   ·omega
theorem read_bad (hT:Tx sb bb cap s w) (hs2:s.size≤200000) (hp:p≤s.size) (hq:Skip s p q) (hb:BadAt s q) :
  Calls Tryz.prog 31 #[.pointer (some ⟨sb,0,none⟩),.int .i64 p] w fun e w'=>TokRes none w e w':=by
 cases hb with
 | chr h1 hw h35 h34 h45 hk hl hd hdt hbm=>
  have hby:=bt_byte s q
  by_cases hbig:bt s q<128
  ·have hst:=stop_asc h1 hbig hw h35
   have hl2:¬(bt s q=95∨(65≤bt s q∧bt s q≤90)∨(97≤bt s q∧bt s q≤122)):=fun h=>by rw[let_iff.2 h]at hl;cases hl
   have hd2:¬(48≤bt s q∧bt s q≤57):=fun h=>by rw[isDig_iff.2 h]at hd;cases hd
   have e:mTokAt s q=none:=by
    unfold mTokAt;rw[if_neg (by omega),if_neg (by omega)]
    by_cases h46:bt s q=46
    ·rw[if_pos h46,if_neg (fun h=>hdt ⟨h46,h.1,h.2⟩)]
    ·rw[if_neg h46,if_neg (by rw[hl];decide),if_neg (by rintro(h|h);exact h45 h;rw[h]at hd;cases hd)]
   rw[←e]
   by_cases h46:bt s q=46
   ·exact tok_dot sb bb p q cap s w hT hp hq hst h1 h46
   ·by_cases hlow:bt s q<32
    ·exact tok_ctl sb bb p q cap s w hT hp hq hst h1 hw hlow
    ·have hws:bt s q≠32∧bt s q≠44:=by
      obtain⟨_,n2,_,_,n5⟩:=isWs_no hw;exact⟨beq_eq_false_iff_ne.1 n2,beq_eq_false_iff_ne.1 n5⟩
     refine tok_bad sb bb p q cap s w hT hp hq hst h1 ?_;unfold signK at hk;omega
  ·have hst:Stop s q:=.inr ⟨h1,hw,h35,hbm⟩
   exact tok_big sb bb p q cap s w hT hp hq hst h1 hbig
 | num h1 h2=>exact h2▸read_num hT hp hq h1
 | @str a x h1 h2 h3 h4=>
  refine(tok_str sb bb p q cap a x s w hT hp hq h1 h2 h3 (.inr h4)).mono fun e w' h=>?_;obtain⟨hb,h⟩:=h;rcases h with⟨h,_⟩|⟨_,h⟩
  ·exact(bad_quote h4 h).elim
  ·exact⟨hb,.inr ⟨rfl,h⟩⟩
 | @blk a h1 h2 h3=>
  refine(tok_blk sb bb p q cap a s w hT hs2 hp hq h1 h2 (.inl h3) h1.1).mono fun e w' h=>?_;obtain⟨hb,h⟩:=h;rcases h with⟨v',h,_⟩|⟨_,h⟩
  ·have:=h.1
   rcases h3 with h3|⟨_,h3,_⟩
   ·rw[bt_out s a h3]at this;cases this
   ·omega
  ·exact⟨hb,.inr ⟨rfl,h⟩⟩
theorem read_end (hT:Tx sb bb cap s w) (hp:p≤s.size) (hq:Skip s p s.size) :
  Calls Tryz.prog 31 #[.pointer (some ⟨sb,0,none⟩),.int .i64 p] w fun e w'=>TokRes (some ⟨1,s.size,s.size,⟨#[]⟩⟩) w e w':=by
 have h:=tok_end sb bb p s.size cap s w hT hp hq (.inl (Nat.le_refl _)) (Nat.le_refl _);rwa[show mTokAt s s.size=some ⟨1,s.size,s.size,⟨#[]⟩⟩ by unfold mTokAt;rw[if_pos (Nat.le_refl _)]]at h
end
theorem sign_no1 (c:Int):signK c≠1:=by
 intro h;unfold signK at h;omega
theorem tok_no1 {V:ByteArray→ByteArray→Prop} {s:ByteArray} {p:Nat} {t:Tok} (h:TokAt V s p t):t.kind≠1:=by
 cases h with
 | sign h1 h2=>exact sign_no1 _
 | dots h1 h2 h3=>show(6:Int)≠1;decide
 | name h1=>show(15:Int)≠1;decide
 | num h1 h2=>
  unfold mNum at h2;obtain⟨p1,e1,h2⟩:=Option.bind_eq_some_iff.1 h2;obtain⟨x,e2,h2⟩:=Option.bind_eq_some_iff.1 h2;obtain⟨y,e3,rfl⟩:=Option.map_eq_some_iff.1 h2;show(if _ then(17:Int)else 16)≠1
  split<;>decide
 | str h1 h2 h3 h4=>show(18:Int)≠1;decide
 | blk h1 h2 h3 h4=>show(19:Int)≠1;decide
theorem chain_mem {s:ByteArray} {T:Nat→Tok→Prop} {B:Nat→Prop} {whole:Bool} {p:Nat} {l:List Tok} (h:Chain s T B whole p l):∀t∈l,∃q,T q t:=by
 induction h with
 | done _ _=>intro t ht;cases ht
 | more h1 h2 h3 ih=>
  intro t ht;rcases List.mem_cons.1 ht with rfl|ht
  ·exact⟨_,h2⟩
  ·exact ih t ht
theorem plL {s:ByteArray}:∀(p:Nat) (t:Tok),TokAt Lex.blkV s p t→t.start=p∧p<t.stop∧t.stop≤s.size:=fun _ _ h=>TokAt.place h
abbrev ChainL (s:ByteArray) (l:List Tok) (whole:Bool):Prop:=Chain s (TokAt Lex.blkV s) (BadAt s) whole 0 l
abbrev ReachL (s:ByteArray) (l:List Tok) (whole:Bool) (p:Nat) (r:List Tok):Prop:=Rel.Reach s (TokAt Lex.blkV s) (BadAt s) whole l p r
def askL (s:ByteArray) (l:List Tok) (whole:Bool) (p:Nat):Prop:=(∃r,ReachL s l whole p r)∨(whole=true∧p=s.size)
theorem lxL_end {s:ByteArray} {l:List Tok} {whole:Bool} (hc:ChainL s l whole) (hw:whole=true):lxL s l whole s.size=some ⟨1,s.size,s.size,⟨#[]⟩⟩:=by
 unfold lxL;have e:l.find? (fun t=>decide (s.size≤t.start))=none:=by
  rw[List.find?_eq_none];intro t ht;have:=hc.start plL t ht;simp;omega
 rw[e];exact if_pos hw
theorem okl (E:At) (l:List Tok) (whole:Bool) (hc:ChainL E.s l whole) (hs:E.s.size≤200000) (hl:E.lx=lxL E.s l whole) (ha:E.ask=askL E.s l whole):OKLex E:=by
 refine⟨fun p t hp h=>?_,fun p h=>?_,fun p t h1 h2=>?_,fun W p hT h=>?_⟩
 ·rw[hl]at h
  unfold lxL at h;cases hf:l.find? (fun t=>decide (p≤t.start))with
  | some u=>
   rw[hf]at h;obtain rfl:=Option.some.inj h;have hm:=List.mem_of_find?_eq_some hf;have hd:=List.find?_some hf;have hp2:p≤u.start:=of_decide_eq_true hd;have:=hc.start plL u hm;obtain⟨q,hq⟩:=chain_mem hc u hm;exact .inr ⟨tok_no1 hq,by omega,this.2.2⟩
  | none=>
   rw[hf]at h
   by_cases hw:whole=true
   ·have h':some (⟨1,E.s.size,E.s.size,⟨#[]⟩⟩:Tok)=some t:=(if_pos hw).symm.trans h
    rw[←Option.some.inj h'];exact .inl ⟨rfl,rfl⟩
   ·have h':(none:Option Tok)=some t:=(if_neg hw).symm.trans h
    cases h'
 ·rw[ha]at h
  rcases h with⟨r,h⟩|⟨_,rfl⟩
  ·exact(h.chain plL).2.1
  ·exact Nat.le_refl _
 ·rw[ha]at h1 ⊢
  rw[hl]at h2;rcases h1 with⟨r,h1⟩|⟨hw,rfl⟩
  ·rw[lxL_reach plL h1]at h2
   cases r with
   | nil=>
    by_cases hw:whole=true
    ·have h':some (⟨1,E.s.size,E.s.size,⟨#[]⟩⟩:Tok)=some t:=(if_pos hw).symm.trans h2
     rw[←Option.some.inj h'];exact .inr ⟨hw,rfl⟩
    ·have h':(none:Option Tok)=some t:=(if_neg hw).symm.trans h2
     cases h'
   | cons u r=>
    obtain rfl:=Option.some.inj h2;exact .inl ⟨r,.next h1⟩
  ·rw[lxL_end hc hw]at h2
   rw[←Option.some.inj h2];exact .inr ⟨hw,rfl⟩
 ·rw[ha]at h
  rw[hl];rcases h with⟨r,h⟩|⟨hw,rfl⟩
  ·obtain⟨hr,hp,_⟩:=h.chain plL
   rw[lxL_reach plL h];cases hr with
   | done h1 h2=>
    rcases h2 with⟨hw,rfl⟩|⟨hw,hb⟩
    ·have e:headL E.s whole []=some ⟨1,E.s.size,E.s.size,⟨#[]⟩⟩:=if_pos hw
     rw[e];exact read_end hT hp h1
    ·have e:headL E.s whole []=none:=if_neg (by rw[hw];decide)
     rw[e];exact read_bad hT hs hp h1 hb
   | more h1 h2 h3=>exact read_tok hT hs hp h1 h2
  ·rw[lxL_end hc hw]
   exact read_end hT (Nat.le_refl _) (.refl _)
end Go.Proofs.YtjolkdnfbmkjiaaGreatDoor.Lx
