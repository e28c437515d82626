import Derived.Test.YtjolkdnfbmkjiaaGreatDoorVB1
import Derived.Test.YtjolkdnfbmkjiaaGreatDoorVB2
set_option maxRecDepth 100000
set_option maxHeartbeats 8000000
set_option linter.unusedVariables false
set_option linter.unusedSimpArgs false
namespace Go.Proofs.YtjolkdnfbmkjiaaGreatDoor.Lx
open Go.RowKit Go.Proofs.YtjolkdnfbmkjiaaGreatDoorW.PrintWords Keep Go.Proofs.YtjolkdnfbmkjiaaGreatDoor.Mod Rel Sim Four Step Env Err
theorem tok_num (sb bb p q cap:Nat) (s:ByteArray) (w:World) (hT:Tx sb bb cap s w) (hp:p≤s.size) (hq:Skip s p q) (hst:Stop s q) (hqe:q<s.size) (hd:bt s q=45∨isDig (bt s q)=true) :
  Calls Tryz.prog 31 #[.pointer (some ⟨sb,0,none⟩),.int .i64 p] w fun e w'=>TokRes (mTokAt s q) w e w':=by
 have h0:=hT.s0;have hs:=hT.size;have hcap:=hT.cap;have hsb:sb<w.heap.size:=World.block_lt_of_cell? w _ h0;have hTW:=hT.below (below_alloc (Below.refl _ _) (.cells #[.int .i64 0,.int .i64 0,.int .i64 0,.string ⟨#[]⟩] 51));have HR:=aK (fun wx (hB:BW w wx) k hk=>rune_on hTW hB k hk);have HS:=aK (ws_any sb bb p q cap s _ hTW hp hq hst);have HE:=aK (fun wx (hB:BW w wx) msg pos=>err_on hTW hB msg pos);have HN:=aK (fun wx (hB:BW w wx) hq2=>name_on (p:=q) hTW hB hq2);have HM:=aK (fun wx (hB:BW w wx) hq2 hq8=>num_on (q:=q) hTW hB hq2 hq8);have HTW:=aK hTW;have hqs:q≤s.size:=hq.size hp;clear hT hTW hq hst;have H:=aK (show mTokAt s q=mNum s q by
  have hk:¬signK (bt s q)≠0:=by
   rcases hd with h|h
   ·rw[h];decide
   ·have:=isDig_iff.1 h
    unfold signK;omega
  have h46:bt s q≠46:=by
   rcases hd with h|h
   ·omega
   ·have:=isDig_iff.1 h;omega
  have hl:¬isLet (bt s q)=true:=by
   unfold isLet;simp only[Bool.or_eq_true,Bool.and_eq_true,decide_eq_true_eq,beq_iff_eq];rcases hd with h|h
   ·omega
   ·have:=isDig_iff.1 h;omega
  unfold mTokAt;rw[if_neg (by omega),if_neg hk,if_neg h46,if_neg hl,if_pos hd])
 have hqi:(q:Int)<(s.size:Int):=by omega
 have hcs:bt s q=45∨(48≤bt s q∧bt s q≤57):=hd.imp id isDig_iff.1;have hr:=aK (fun wx hB=>HR.out wx hB q (by omega))
 rw[rune_small hqe (by omega)]at hr
 clear hd;have HMN:=aK (fun wx hB=>HM.out wx hB hqe (by omega))
 clear HM;obtain⟨c,hc⟩:∃c,bt s q=c:=⟨_,rfl⟩;rw[hc]at hr hcs HMN;clear hc;rcases hcs with rfl|⟨c1,c2⟩
 all_goals
  go_enter Tryz.func31,Tryz.ntmps31
  go_wp2_with fail
  refine HS.out.mono ?_;rintro e w' ⟨rfl,hb1⟩;have HB:=aK hb1;clear hb1
  go_wp2_with fail
  refine(hr.out _ HB.out).mono ?_;rintro e w' ⟨rfl,hb1⟩;clear HB;have HB:=aK hb1;clear hb1
  go_wp2_with fail
  all_goals
   refine(HMN.out _ HB.out).mono ?_;rintro e w2 ⟨hb2,h⟩;rcases h with⟨t,ht,rfl⟩|⟨hn,g,rfl⟩
   ·obtain⟨r0,r1,r2,r3⟩:=four_kept1 hb2
    have hz0:=frozen_kept1 hb2 0;have hz1:=frozen_kept1 hb2 1;have hz2:=frozen_kept1 hb2 2;have hz3:=frozen_kept1 hb2 3;have hlt:w.heap.size<w2.heap.size:=by have h:=hb2.size;simp only[World.size_alloc]at h;omega
    have HB2:=aK (below_one hb2);have H2:=aK ht;clear hb2 ht
    go_wp2_with fail
    refine bodyPost_ret (v:=.tuple #[tokV t,.nilIface]) (by simp[results,Tryz.results31,go_sem,r0,r1,r2,r3,tokV,hlt]) rfl ⟨?_,.inl ⟨t,H.out.trans H2.out,rfl⟩⟩
    exact below_alloc (below_four HB2.out) _
   ·obtain⟨r0,r1,r2,r3⟩:=four_kept1 hb2
    have hz0:=frozen_kept1 hb2 0;have hz1:=frozen_kept1 hb2 1;have hz2:=frozen_kept1 hb2 2;have hz3:=frozen_kept1 hb2 3;have hlt:w.heap.size<w2.heap.size:=by have h:=hb2.size;simp only[World.size_alloc]at h;omega
    have HB2:=aK (below_one hb2);have H2:=aK hn;clear hb2 hn
    go_wp2_with fail
    refine bodyPost_ret (v:=.tuple #[zeroT,errV g]) (by simp[results,Tryz.results31,go_sem,r0,r1,r2,r3,zeroT,errV,hlt]) rfl ⟨?_,.inr ⟨H.out.trans H2.out,g,rfl⟩⟩
    exact below_alloc (below_four HB2.out) _
theorem tok_dot (sb bb p q cap:Nat) (s:ByteArray) (w:World) (hT:Tx sb bb cap s w) (hp:p≤s.size) (hq:Skip s p q) (hst:Stop s q) (hqe:q<s.size) (h46:bt s q=46) :
  Calls Tryz.prog 31 #[.pointer (some ⟨sb,0,none⟩),.int .i64 p] w fun e w'=>TokRes (mTokAt s q) w e w':=by
 have h0:=hT.s0;have hs:=hT.size;have hcap:=hT.cap;have hsb:sb<w.heap.size:=World.block_lt_of_cell? w _ h0;have hTW:=hT.below (below_alloc (Below.refl _ _) (.cells #[.int .i64 0,.int .i64 0,.int .i64 0,.string ⟨#[]⟩] 51));have HR:=aK (fun wx (hB:BW w wx) k hk=>rune_on hTW hB k hk);have HS:=aK (ws_any sb bb p q cap s _ hTW hp hq hst);have HE:=aK (fun wx (hB:BW w wx) msg pos=>err_on hTW hB msg pos);have HN:=aK (fun wx (hB:BW w wx) hq2=>name_on (p:=q) hTW hB hq2);have HM:=aK (fun wx (hB:BW w wx) hq2 hq8=>num_on (q:=q) hTW hB hq2 hq8);have HTW:=aK hTW;have hqs:q≤s.size:=hq.size hp;clear hT hTW hq hst;have hqi:(q:Int)<(s.size:Int):=by omega
 have hr:=aK (fun wx hB=>HR.out wx hB q (by omega))
 have hr1:=aK (fun wx hB=>HR.out wx hB (q+1) (by omega))
 have hr2:=aK (fun wx hB=>HR.out wx hB (q+2) (by omega))
 rw[rune_small hqe (by omega),h46]at hr
 have hM:mTokAt s q=if bt s (q+1:Nat)=46∧bt s (q+2:Nat)=46 then some ⟨6,q,q+3,⟨#[]⟩⟩else none:=by unfold mTokAt;rw[h46,if_neg (by omega),if_neg (by decide),if_pos rfl]
 by_cases h1:bt s (q+1:Nat)=46
 ·have e1:(runeOf s (q+1)).1=46:=(rune_fst 46 (by decide) (by decide)).2 h1
  by_cases h2:bt s (q+2:Nat)=46
  ·have H:=aK (hM.trans (if_pos ⟨h1,h2⟩))
   have e2:(runeOf s (q+2)).1=46:=(rune_fst 46 (by decide) (by decide)).2 h2
   rw[e1]at hr1;rw[e2]at hr2;clear h1 h2 e1 e2 hM h46;generalize (runeOf s (q+1)).2=n1 at *;generalize (runeOf s (q+2)).2=n2 at *;go_enter Tryz.func31,Tryz.ntmps31
   go_wp2_with fail
   refine HS.out.mono ?_;rintro e w' ⟨rfl,hb1⟩;have HB:=aK hb1;clear hb1
   go_wp2_with fail
   refine(hr.out _ HB.out).mono ?_;rintro e w' ⟨rfl,hb1⟩;clear HB;have HB:=aK hb1;clear hb1
   go_wp2_with fail
   refine(hr1.out _ HB.out).mono ?_;rintro e w' ⟨rfl,hb1⟩;clear HB;have HB:=aK hb1;clear hb1
   go_wp2_with fail
   refine(hr2.out _ HB.out).mono ?_;rintro e w' ⟨rfl,hb1⟩;clear HB;have HB:=aK hb1;clear hb1
   go_wp2_with fail
   refine(makeToken_on HB.out _ _ _ _).mono ?_;rintro e w2 ⟨rfl,hb2⟩;obtain⟨r0,r1,r2,r3⟩:=four_kept1 hb2;have hz0:=frozen_kept1 hb2 0;have hz1:=frozen_kept1 hb2 1;have hz2:=frozen_kept1 hb2 2;have hz3:=frozen_kept1 hb2 3;have HB2:=aK (below_one hb2);clear hb2
   go_wp2_with fail
   refine bodyPost_ret (v:=.tuple #[.agg #[.int .i64 6,.int .i64 q,.int .i64 (q+3),.string ⟨#[]⟩],.nilIface]) (by simp[results,Tryz.results31,go_sem,r0,r1,r2,r3]) rfl ⟨below_four HB2.out,.inl ⟨_,H.out,by first|rfl|(simp[tokV];done)⟩⟩
  ·have H:=aK (hM.trans (if_neg (fun h=>h2 h.2)))
   have e2:((runeOf s (q+2)).1==46)=false:=beq_eq_false_iff_ne.2 fun h=>h2 ((rune_fst 46 (by decide) (by decide)).1 h)
   rw[e1]at hr1;clear h1 h2 e1 hM h46;generalize (runeOf s (q+1)).2=n1 at *;generalize (runeOf s (q+2)).2=n2 at *;generalize (runeOf s (q+2)).1=x2 at *;go_enter Tryz.func31,Tryz.ntmps31
   go_wp2_with fail
   refine HS.out.mono ?_;rintro e w' ⟨rfl,hb1⟩;have HB:=aK hb1;clear hb1
   go_wp2_with fail
   refine(hr.out _ HB.out).mono ?_;rintro e w' ⟨rfl,hb1⟩;clear HB;have HB:=aK hb1;clear hb1
   go_wp2_with fail
   refine(hr1.out _ HB.out).mono ?_;rintro e w' ⟨rfl,hb1⟩;clear HB;have HB:=aK hb1;clear hb1
   go_wp2_with fail
   refine(hr2.out _ HB.out).mono ?_;rintro e w' ⟨rfl,hb1⟩;clear HB;have HB:=aK hb1;clear hb1
   go_wp2_with fail
   refine(HE.out _ HB.out _ _).mono ?_;rintro e w2 ⟨g2,rfl,hb2⟩;obtain⟨r0,r1,r2,r3⟩:=four_kept1 hb2;have hz0:=frozen_kept1 hb2 0;have hz1:=frozen_kept1 hb2 1;have hz2:=frozen_kept1 hb2 2;have hz3:=frozen_kept1 hb2 3;have HB2:=aK (below_one hb2);clear hb2
   go_wp2_with fail
   refine bodyPost_ret (v:=.tuple #[.agg #[.int .i64 0,.int .i64 0,.int .i64 0,.string ⟨#[]⟩],errV g2]) (by simp[results,Tryz.results31,go_sem,r0,r1,r2,r3,errV]) rfl ⟨below_four HB2.out,.inr ⟨H.out,g2,rfl⟩⟩
 ·have H:=aK (hM.trans (if_neg (fun h=>h1 h.1)))
  have e1:((runeOf s (q+1)).1==46)=false:=beq_eq_false_iff_ne.2 fun h=>h1 ((rune_fst 46 (by decide) (by decide)).1 h)
  clear h1 hM h46;generalize (runeOf s (q+1)).2=n1 at *;generalize (runeOf s (q+2)).2=n2 at *;generalize (runeOf s (q+1)).1=x1 at *;generalize (runeOf s (q+2)).1=x2 at *;go_enter Tryz.func31,Tryz.ntmps31
  go_wp2_with fail
  refine HS.out.mono ?_;rintro e w' ⟨rfl,hb1⟩;have HB:=aK hb1;clear hb1
  go_wp2_with fail
  refine(hr.out _ HB.out).mono ?_;rintro e w' ⟨rfl,hb1⟩;clear HB;have HB:=aK hb1;clear hb1
  go_wp2_with fail
  refine(hr1.out _ HB.out).mono ?_;rintro e w' ⟨rfl,hb1⟩;clear HB;have HB:=aK hb1;clear hb1
  go_wp2_with fail
  refine(hr2.out _ HB.out).mono ?_;rintro e w' ⟨rfl,hb1⟩;clear HB;have HB:=aK hb1;clear hb1
  go_wp2_with fail
  refine(HE.out _ HB.out _ _).mono ?_;rintro e w2 ⟨g2,rfl,hb2⟩;obtain⟨r0,r1,r2,r3⟩:=four_kept1 hb2;have hz0:=frozen_kept1 hb2 0;have hz1:=frozen_kept1 hb2 1;have hz2:=frozen_kept1 hb2 2;have hz3:=frozen_kept1 hb2 3;have HB2:=aK (below_one hb2);clear hb2
  go_wp2_with fail
  refine bodyPost_ret (v:=.tuple #[.agg #[.int .i64 0,.int .i64 0,.int .i64 0,.string ⟨#[]⟩],errV g2]) (by simp[results,Tryz.results31,go_sem,r0,r1,r2,r3,errV]) rfl ⟨below_four HB2.out,.inr ⟨H.out,g2,rfl⟩⟩
theorem tok_ctl (sb bb p q cap:Nat) (s:ByteArray) (w:World) (hT:Tx sb bb cap s w) (hp:p≤s.size) (hq:Skip s p q) (hst:Stop s q) (hqe:q<s.size) (hw:isWs (bt s q)=false) (hc:bt s q<32) :
  Calls Tryz.prog 31 #[.pointer (some ⟨sb,0,none⟩),.int .i64 p] w fun e w'=>TokRes (mTokAt s q) w e w':=by
 have h0:=hT.s0;have hs:=hT.size;have hcap:=hT.cap;have hsb:sb<w.heap.size:=World.block_lt_of_cell? w _ h0;have hTW:=hT.below (below_alloc (Below.refl _ _) (.cells #[.int .i64 0,.int .i64 0,.int .i64 0,.string ⟨#[]⟩] 51));have HR:=aK (fun wx (hB:BW w wx) k hk=>rune_on hTW hB k hk);have HS:=aK (ws_any sb bb p q cap s _ hTW hp hq hst);have HE:=aK (fun wx (hB:BW w wx) msg pos=>err_on hTW hB msg pos);have HN:=aK (fun wx (hB:BW w wx) hq2=>name_on (p:=q) hTW hB hq2);have HM:=aK (fun wx (hB:BW w wx) hq2 hq8=>num_on (q:=q) hTW hB hq2 hq8);have HTW:=aK hTW;have hqs:q≤s.size:=hq.size hp;clear hT hTW hq hst;have H:=aK (show mTokAt s q=none by
  have hk:¬signK (bt s q)≠0:=by unfold signK;omega
  have hl:¬isLet (bt s q)=true:=by
   unfold isLet;simp only[Bool.or_eq_true,Bool.and_eq_true,decide_eq_true_eq,beq_iff_eq];omega
  have hd:¬(bt s q=45∨isDig (bt s q)=true):=by
   rintro(h|h)
   ·omega
   ·have:=isDig_iff.1 h;omega
  unfold mTokAt;rw[if_neg (by omega),if_neg hk,if_neg (by omega),if_neg hl,if_neg hd])
 have hqi:(q:Int)<(s.size:Int):=by omega
 have hr:=aK (fun wx hB=>HR.out wx hB q (by omega))
 rw[rune_small hqe (by omega)]at hr
 obtain⟨n1,n2,n3,n4,n5⟩:=isWs_no hw;have m1:(bt s q != 9)=true:=by simp only[bne,n1];rfl
 have m3:(bt s q != 10)=true:=by simp only[bne,n3];rfl
 have m4:(bt s q != 13)=true:=by simp only[bne,n4];rfl
 clear hw;generalize bt s q=c at *;go_enter Tryz.func31,Tryz.ntmps31
 go_wp2_with fail
 refine HS.out.mono ?_;rintro e w' ⟨rfl,hb1⟩;have HB:=aK hb1;clear hb1
 go_wp2_with fail
 refine(hr.out _ HB.out).mono ?_;rintro e w' ⟨rfl,hb1⟩;clear HB;have HB:=aK hb1;clear hb1
 go_wp2_with fail
 refine(HE.out _ HB.out _ _).mono ?_;rintro e w2 ⟨g2,rfl,hb2⟩;obtain⟨r0,r1,r2,r3⟩:=four_kept1 hb2;have hz0:=frozen_kept1 hb2 0;have hz1:=frozen_kept1 hb2 1;have hz2:=frozen_kept1 hb2 2;have hz3:=frozen_kept1 hb2 3;have HB2:=aK (below_one hb2);clear hb2
 go_wp2_with fail
 refine bodyPost_ret (v:=.tuple #[.agg #[.int .i64 0,.int .i64 0,.int .i64 0,.string ⟨#[]⟩],errV g2]) (by simp[results,Tryz.results31,go_sem,r0,r1,r2,r3,errV]) rfl ⟨below_four HB2.out,.inr ⟨H.out,g2,rfl⟩⟩
theorem tok_bad (sb bb p q cap:Nat) (s:ByteArray) (w:World) (hT:Tx sb bb cap s w) (hp:p≤s.size) (hq:Skip s p q) (hst:Stop s q) (hqe:q<s.size) (hc:bt s q=37∨bt s q=39∨bt s q=42∨bt s q=43∨bt s q=47∨bt s q=59∨bt s q=60∨bt s q=62∨bt s q=63∨bt s q=92∨bt s q=94∨bt s q=96∨bt s q=126∨bt s q=127) :
  Calls Tryz.prog 31 #[.pointer (some ⟨sb,0,none⟩),.int .i64 p] w fun e w'=>TokRes (mTokAt s q) w e w':=by
 have h0:=hT.s0;have hs:=hT.size;have hcap:=hT.cap;have hsb:sb<w.heap.size:=World.block_lt_of_cell? w _ h0;have hTW:=hT.below (below_alloc (Below.refl _ _) (.cells #[.int .i64 0,.int .i64 0,.int .i64 0,.string ⟨#[]⟩] 51));have HR:=aK (fun wx (hB:BW w wx) k hk=>rune_on hTW hB k hk);have HS:=aK (ws_any sb bb p q cap s _ hTW hp hq hst);have HE:=aK (fun wx (hB:BW w wx) msg pos=>err_on hTW hB msg pos);have HN:=aK (fun wx (hB:BW w wx) hq2=>name_on (p:=q) hTW hB hq2);have HM:=aK (fun wx (hB:BW w wx) hq2 hq8=>num_on (q:=q) hTW hB hq2 hq8);have HTW:=aK hTW;have hqs:q≤s.size:=hq.size hp;clear hT hTW hq hst;have H:=aK (show mTokAt s q=none by
  have hk:¬signK (bt s q)≠0:=by unfold signK;omega
  have hl:¬isLet (bt s q)=true:=by
   unfold isLet;simp only[Bool.or_eq_true,Bool.and_eq_true,decide_eq_true_eq,beq_iff_eq];omega
  have hd:¬(bt s q=45∨isDig (bt s q)=true):=by
   rintro(h|h)
   ·omega
   ·have:=isDig_iff.1 h;omega
  unfold mTokAt;rw[if_neg (by omega),if_neg hk,if_neg (by omega),if_neg hl,if_neg hd])
 have hqi:(q:Int)<(s.size:Int):=by omega
 have hr:=aK (fun wx hB=>HR.out wx hB q (by omega))
 rw[rune_small hqe (by omega)]at hr
 generalize bt s q=c at *;rcases hc with rfl|rfl|rfl|rfl|rfl|rfl|rfl|rfl|rfl|rfl|rfl|rfl|rfl|rfl
 all_goals
  go_enter Tryz.func31,Tryz.ntmps31
  go_wp2_with fail
  refine HS.out.mono ?_;rintro e w' ⟨rfl,hb1⟩;have HB:=aK hb1;clear hb1
  go_wp2_with fail
  refine(hr.out _ HB.out).mono ?_;rintro e w' ⟨rfl,hb1⟩;clear HB;have HB:=aK hb1;clear hb1
  go_wp2_with fail
  refine(HE.out _ HB.out _ _).mono ?_;rintro e w2 ⟨g2,rfl,hb2⟩;obtain⟨r0,r1,r2,r3⟩:=four_kept1 hb2;have hz0:=frozen_kept1 hb2 0;have hz1:=frozen_kept1 hb2 1;have hz2:=frozen_kept1 hb2 2;have hz3:=frozen_kept1 hb2 3;have HB2:=aK (below_one hb2);clear hb2
  go_wp2_with fail
  refine bodyPost_ret (v:=.tuple #[.agg #[.int .i64 0,.int .i64 0,.int .i64 0,.string ⟨#[]⟩],errV g2]) (by simp[results,Tryz.results31,go_sem,r0,r1,r2,r3,errV]) rfl ⟨below_four HB2.out,.inr ⟨H.out,g2,rfl⟩⟩
end Go.Proofs.YtjolkdnfbmkjiaaGreatDoor.Lx
