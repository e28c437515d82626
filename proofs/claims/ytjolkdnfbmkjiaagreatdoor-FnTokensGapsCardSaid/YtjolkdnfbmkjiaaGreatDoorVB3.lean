import Derived.Test.YtjolkdnfbmkjiaaGreatDoorVB1
import Derived.Test.YtjolkdnfbmkjiaaGreatDoorVB2
import Derived.Test.YtjolkdnfbmkjiaaGreatDoorVB4
set_option maxRecDepth 100000
set_option maxHeartbeats 8000000
set_option linter.unusedVariables false
set_option linter.unusedSimpArgs false
namespace Go.Proofs.YtjolkdnfbmkjiaaGreatDoor.Lx
open Go.RowKit Go.Proofs.YtjolkdnfbmkjiaaGreatDoorW.PrintWords Keep Go.Proofs.YtjolkdnfbmkjiaaGreatDoor.Mod Rel Sim Four Step Env Err
theorem tok_end (sb bb p q cap:Nat) (s:ByteArray) (w:World) (hT:Tx sb bb cap s w) (hp:p≤s.size) (hq:Skip s p q) (hst:Stop s q) (hqe:s.size≤q) :
  Calls Tryz.prog 31 #[.pointer (some ⟨sb,0,none⟩),.int .i64 p] w fun e w'=>TokRes (mTokAt s q) w e w':=by
 have h0:=hT.s0;have hs:=hT.size;have hcap:=hT.cap;have hsb:sb<w.heap.size:=World.block_lt_of_cell? w _ h0;have hTW:=hT.below (below_alloc (Below.refl _ _) (.cells #[.int .i64 0,.int .i64 0,.int .i64 0,.string ⟨#[]⟩] 51));have HR:=aK (fun wx (hB:BW w wx) k hk=>rune_on hTW hB k hk);have HS:=aK (ws_any sb bb p q cap s _ hTW hp hq hst);have HE:=aK (fun wx (hB:BW w wx) msg pos=>err_on hTW hB msg pos);have HN:=aK (fun wx (hB:BW w wx) hq2=>name_on (p:=q) hTW hB hq2);have HM:=aK (fun wx (hB:BW w wx) hq2 hq8=>num_on (q:=q) hTW hB hq2 hq8);have HTW:=aK hTW;have hqs:q≤s.size:=hq.size hp;clear hT hTW hq hst;have H:=aK (show mTokAt s q=some ⟨1,q,q,⟨#[]⟩⟩ by unfold mTokAt;rw[if_pos hqe])
 have hqi:(s.size:Int)≤(q:Int):=by omega
 go_enter Tryz.func31,Tryz.ntmps31
 go_wp2_with fail
 refine HS.out.mono ?_;rintro e w' ⟨rfl,hb1⟩;have HB:=aK hb1;clear hb1
 go_wp2_with fail
 refine(makeToken_on HB.out _ _ _ _).mono ?_;rintro e w2 ⟨rfl,hb2⟩;obtain⟨r0,r1,r2,r3⟩:=four_kept1 hb2;have hz0:=frozen_kept1 hb2 0;have hz1:=frozen_kept1 hb2 1;have hz2:=frozen_kept1 hb2 2;have hz3:=frozen_kept1 hb2 3;have HB2:=aK (below_one hb2);clear hb2
 go_wp2_with fail
 refine bodyPost_ret (v:=.tuple #[.agg #[.int .i64 1,.int .i64 q,.int .i64 q,.string ⟨#[]⟩],.nilIface]) (by simp[results,Tryz.results31,go_sem,r0,r1,r2,r3]) rfl ⟨below_four HB2.out,.inl ⟨_,H.out,by first|rfl|(simp[tokV];done)⟩⟩
theorem sign_cases {c:Int} (h:signK c≠0):c=33∨c=36∨c=38∨c=40∨c=41∨c=58∨c=61∨c=64∨c=91∨c=93∨c=123∨c=124∨c=125:=by
 unfold signK at h;omega
theorem tok_sign (sb bb p q cap:Nat) (s:ByteArray) (w:World) (hT:Tx sb bb cap s w) (hp:p≤s.size) (hq:Skip s p q) (hst:Stop s q) (hqe:q<s.size) (hk:signK (bt s q)≠0) :
  Calls Tryz.prog 31 #[.pointer (some ⟨sb,0,none⟩),.int .i64 p] w fun e w'=>TokRes (mTokAt s q) w e w':=by
 have h0:=hT.s0;have hs:=hT.size;have hcap:=hT.cap;have hsb:sb<w.heap.size:=World.block_lt_of_cell? w _ h0;have hTW:=hT.below (below_alloc (Below.refl _ _) (.cells #[.int .i64 0,.int .i64 0,.int .i64 0,.string ⟨#[]⟩] 51));have HR:=aK (fun wx (hB:BW w wx) k hk=>rune_on hTW hB k hk);have HS:=aK (ws_any sb bb p q cap s _ hTW hp hq hst);have HE:=aK (fun wx (hB:BW w wx) msg pos=>err_on hTW hB msg pos);have HN:=aK (fun wx (hB:BW w wx) hq2=>name_on (p:=q) hTW hB hq2);have HM:=aK (fun wx (hB:BW w wx) hq2 hq8=>num_on (q:=q) hTW hB hq2 hq8);have HTW:=aK hTW;have hqs:q≤s.size:=hq.size hp;clear hT hTW hq hst;have H:=aK (show mTokAt s q=some ⟨signK (bt s q),q,q+1,⟨#[]⟩⟩ by unfold mTokAt;rw[if_neg (by omega),if_pos hk])
 have hqi:(q:Int)<(s.size:Int):=by omega
 have hcs:=sign_cases hk;have hr:=aK (fun wx hB=>HR.out wx hB q (by omega))
 rw[rune_small hqe (by omega)]at hr
 clear hk;generalize bt s q=c at *;rcases hcs with rfl|rfl|rfl|rfl|rfl|rfl|rfl|rfl|rfl|rfl|rfl|rfl|rfl
 ·go_enter Tryz.func31,Tryz.ntmps31
  go_wp2_with fail
  refine HS.out.mono ?_;rintro e w' ⟨rfl,hb1⟩;have HB:=aK hb1;clear hb1
  go_wp2_with fail
  refine(hr.out _ HB.out).mono ?_;rintro e w' ⟨rfl,hb1⟩;clear HB;have HB:=aK hb1;clear hb1
  go_wp2_with fail
  refine(makeToken_on HB.out _ _ _ _).mono ?_;rintro e w2 ⟨rfl,hb2⟩;obtain⟨r0,r1,r2,r3⟩:=four_kept1 hb2;have hz0:=frozen_kept1 hb2 0;have hz1:=frozen_kept1 hb2 1;have hz2:=frozen_kept1 hb2 2;have hz3:=frozen_kept1 hb2 3;have HB2:=aK (below_one hb2);clear hb2
  go_wp2_with fail
  refine bodyPost_ret (v:=.tuple #[.agg #[.int .i64 2,.int .i64 q,.int .i64 (q+1),.string ⟨#[]⟩],.nilIface]) (by simp[results,Tryz.results31,go_sem,r0,r1,r2,r3]) rfl ⟨below_four HB2.out,.inl ⟨_,H.out,by first|rfl|(simp[tokV];done)⟩⟩
 ·go_enter Tryz.func31,Tryz.ntmps31
  go_wp2_with fail
  refine HS.out.mono ?_;rintro e w' ⟨rfl,hb1⟩;have HB:=aK hb1;clear hb1
  go_wp2_with fail
  refine(hr.out _ HB.out).mono ?_;rintro e w' ⟨rfl,hb1⟩;clear HB;have HB:=aK hb1;clear hb1
  go_wp2_with fail
  refine(makeToken_on HB.out _ _ _ _).mono ?_;rintro e w2 ⟨rfl,hb2⟩;obtain⟨r0,r1,r2,r3⟩:=four_kept1 hb2;have hz0:=frozen_kept1 hb2 0;have hz1:=frozen_kept1 hb2 1;have hz2:=frozen_kept1 hb2 2;have hz3:=frozen_kept1 hb2 3;have HB2:=aK (below_one hb2);clear hb2
  go_wp2_with fail
  refine bodyPost_ret (v:=.tuple #[.agg #[.int .i64 3,.int .i64 q,.int .i64 (q+1),.string ⟨#[]⟩],.nilIface]) (by simp[results,Tryz.results31,go_sem,r0,r1,r2,r3]) rfl ⟨below_four HB2.out,.inl ⟨_,H.out,by first|rfl|(simp[tokV];done)⟩⟩
 ·go_enter Tryz.func31,Tryz.ntmps31
  go_wp2_with fail
  refine HS.out.mono ?_;rintro e w' ⟨rfl,hb1⟩;have HB:=aK hb1;clear hb1
  go_wp2_with fail
  refine(hr.out _ HB.out).mono ?_;rintro e w' ⟨rfl,hb1⟩;clear HB;have HB:=aK hb1;clear hb1
  go_wp2_with fail
  refine(makeToken_on HB.out _ _ _ _).mono ?_;rintro e w2 ⟨rfl,hb2⟩;obtain⟨r0,r1,r2,r3⟩:=four_kept1 hb2;have hz0:=frozen_kept1 hb2 0;have hz1:=frozen_kept1 hb2 1;have hz2:=frozen_kept1 hb2 2;have hz3:=frozen_kept1 hb2 3;have HB2:=aK (below_one hb2);clear hb2
  go_wp2_with fail
  refine bodyPost_ret (v:=.tuple #[.agg #[.int .i64 20,.int .i64 q,.int .i64 (q+1),.string ⟨#[]⟩],.nilIface]) (by simp[results,Tryz.results31,go_sem,r0,r1,r2,r3]) rfl ⟨below_four HB2.out,.inl ⟨_,H.out,by first|rfl|(simp[tokV];done)⟩⟩
 ·go_enter Tryz.func31,Tryz.ntmps31
  go_wp2_with fail
  refine HS.out.mono ?_;rintro e w' ⟨rfl,hb1⟩;have HB:=aK hb1;clear hb1
  go_wp2_with fail
  refine(hr.out _ HB.out).mono ?_;rintro e w' ⟨rfl,hb1⟩;clear HB;have HB:=aK hb1;clear hb1
  go_wp2_with fail
  refine(makeToken_on HB.out _ _ _ _).mono ?_;rintro e w2 ⟨rfl,hb2⟩;obtain⟨r0,r1,r2,r3⟩:=four_kept1 hb2;have hz0:=frozen_kept1 hb2 0;have hz1:=frozen_kept1 hb2 1;have hz2:=frozen_kept1 hb2 2;have hz3:=frozen_kept1 hb2 3;have HB2:=aK (below_one hb2);clear hb2
  go_wp2_with fail
  refine bodyPost_ret (v:=.tuple #[.agg #[.int .i64 4,.int .i64 q,.int .i64 (q+1),.string ⟨#[]⟩],.nilIface]) (by simp[results,Tryz.results31,go_sem,r0,r1,r2,r3]) rfl ⟨below_four HB2.out,.inl ⟨_,H.out,by first|rfl|(simp[tokV];done)⟩⟩
 ·go_enter Tryz.func31,Tryz.ntmps31
  go_wp2_with fail
  refine HS.out.mono ?_;rintro e w' ⟨rfl,hb1⟩;have HB:=aK hb1;clear hb1
  go_wp2_with fail
  refine(hr.out _ HB.out).mono ?_;rintro e w' ⟨rfl,hb1⟩;clear HB;have HB:=aK hb1;clear hb1
  go_wp2_with fail
  refine(makeToken_on HB.out _ _ _ _).mono ?_;rintro e w2 ⟨rfl,hb2⟩;obtain⟨r0,r1,r2,r3⟩:=four_kept1 hb2;have hz0:=frozen_kept1 hb2 0;have hz1:=frozen_kept1 hb2 1;have hz2:=frozen_kept1 hb2 2;have hz3:=frozen_kept1 hb2 3;have HB2:=aK (below_one hb2);clear hb2
  go_wp2_with fail
  refine bodyPost_ret (v:=.tuple #[.agg #[.int .i64 5,.int .i64 q,.int .i64 (q+1),.string ⟨#[]⟩],.nilIface]) (by simp[results,Tryz.results31,go_sem,r0,r1,r2,r3]) rfl ⟨below_four HB2.out,.inl ⟨_,H.out,by first|rfl|(simp[tokV];done)⟩⟩
 ·go_enter Tryz.func31,Tryz.ntmps31
  go_wp2_with fail
  refine HS.out.mono ?_;rintro e w' ⟨rfl,hb1⟩;have HB:=aK hb1;clear hb1
  go_wp2_with fail
  refine(hr.out _ HB.out).mono ?_;rintro e w' ⟨rfl,hb1⟩;clear HB;have HB:=aK hb1;clear hb1
  go_wp2_with fail
  refine(makeToken_on HB.out _ _ _ _).mono ?_;rintro e w2 ⟨rfl,hb2⟩;obtain⟨r0,r1,r2,r3⟩:=four_kept1 hb2;have hz0:=frozen_kept1 hb2 0;have hz1:=frozen_kept1 hb2 1;have hz2:=frozen_kept1 hb2 2;have hz3:=frozen_kept1 hb2 3;have HB2:=aK (below_one hb2);clear hb2
  go_wp2_with fail
  refine bodyPost_ret (v:=.tuple #[.agg #[.int .i64 7,.int .i64 q,.int .i64 (q+1),.string ⟨#[]⟩],.nilIface]) (by simp[results,Tryz.results31,go_sem,r0,r1,r2,r3]) rfl ⟨below_four HB2.out,.inl ⟨_,H.out,by first|rfl|(simp[tokV];done)⟩⟩
 ·go_enter Tryz.func31,Tryz.ntmps31
  go_wp2_with fail
  refine HS.out.mono ?_;rintro e w' ⟨rfl,hb1⟩;have HB:=aK hb1;clear hb1
  go_wp2_with fail
  refine(hr.out _ HB.out).mono ?_;rintro e w' ⟨rfl,hb1⟩;clear HB;have HB:=aK hb1;clear hb1
  go_wp2_with fail
  refine(makeToken_on HB.out _ _ _ _).mono ?_;rintro e w2 ⟨rfl,hb2⟩;obtain⟨r0,r1,r2,r3⟩:=four_kept1 hb2;have hz0:=frozen_kept1 hb2 0;have hz1:=frozen_kept1 hb2 1;have hz2:=frozen_kept1 hb2 2;have hz3:=frozen_kept1 hb2 3;have HB2:=aK (below_one hb2);clear hb2
  go_wp2_with fail
  refine bodyPost_ret (v:=.tuple #[.agg #[.int .i64 8,.int .i64 q,.int .i64 (q+1),.string ⟨#[]⟩],.nilIface]) (by simp[results,Tryz.results31,go_sem,r0,r1,r2,r3]) rfl ⟨below_four HB2.out,.inl ⟨_,H.out,by first|rfl|(simp[tokV];done)⟩⟩
 ·go_enter Tryz.func31,Tryz.ntmps31
  go_wp2_with fail
  refine HS.out.mono ?_;rintro e w' ⟨rfl,hb1⟩;have HB:=aK hb1;clear hb1
  go_wp2_with fail
  refine(hr.out _ HB.out).mono ?_;rintro e w' ⟨rfl,hb1⟩;clear HB;have HB:=aK hb1;clear hb1
  go_wp2_with fail
  refine(makeToken_on HB.out _ _ _ _).mono ?_;rintro e w2 ⟨rfl,hb2⟩;obtain⟨r0,r1,r2,r3⟩:=four_kept1 hb2;have hz0:=frozen_kept1 hb2 0;have hz1:=frozen_kept1 hb2 1;have hz2:=frozen_kept1 hb2 2;have hz3:=frozen_kept1 hb2 3;have HB2:=aK (below_one hb2);clear hb2
  go_wp2_with fail
  refine bodyPost_ret (v:=.tuple #[.agg #[.int .i64 9,.int .i64 q,.int .i64 (q+1),.string ⟨#[]⟩],.nilIface]) (by simp[results,Tryz.results31,go_sem,r0,r1,r2,r3]) rfl ⟨below_four HB2.out,.inl ⟨_,H.out,by first|rfl|(simp[tokV];done)⟩⟩
 ·go_enter Tryz.func31,Tryz.ntmps31
  go_wp2_with fail
  refine HS.out.mono ?_;rintro e w' ⟨rfl,hb1⟩;have HB:=aK hb1;clear hb1
  go_wp2_with fail
  refine(hr.out _ HB.out).mono ?_;rintro e w' ⟨rfl,hb1⟩;clear HB;have HB:=aK hb1;clear hb1
  go_wp2_with fail
  refine(makeToken_on HB.out _ _ _ _).mono ?_;rintro e w2 ⟨rfl,hb2⟩;obtain⟨r0,r1,r2,r3⟩:=four_kept1 hb2;have hz0:=frozen_kept1 hb2 0;have hz1:=frozen_kept1 hb2 1;have hz2:=frozen_kept1 hb2 2;have hz3:=frozen_kept1 hb2 3;have HB2:=aK (below_one hb2);clear hb2
  go_wp2_with fail
  refine bodyPost_ret (v:=.tuple #[.agg #[.int .i64 10,.int .i64 q,.int .i64 (q+1),.string ⟨#[]⟩],.nilIface]) (by simp[results,Tryz.results31,go_sem,r0,r1,r2,r3]) rfl ⟨below_four HB2.out,.inl ⟨_,H.out,by first|rfl|(simp[tokV];done)⟩⟩
 ·go_enter Tryz.func31,Tryz.ntmps31
  go_wp2_with fail
  refine HS.out.mono ?_;rintro e w' ⟨rfl,hb1⟩;have HB:=aK hb1;clear hb1
  go_wp2_with fail
  refine(hr.out _ HB.out).mono ?_;rintro e w' ⟨rfl,hb1⟩;clear HB;have HB:=aK hb1;clear hb1
  go_wp2_with fail
  refine(makeToken_on HB.out _ _ _ _).mono ?_;rintro e w2 ⟨rfl,hb2⟩;obtain⟨r0,r1,r2,r3⟩:=four_kept1 hb2;have hz0:=frozen_kept1 hb2 0;have hz1:=frozen_kept1 hb2 1;have hz2:=frozen_kept1 hb2 2;have hz3:=frozen_kept1 hb2 3;have HB2:=aK (below_one hb2);clear hb2
  go_wp2_with fail
  refine bodyPost_ret (v:=.tuple #[.agg #[.int .i64 11,.int .i64 q,.int .i64 (q+1),.string ⟨#[]⟩],.nilIface]) (by simp[results,Tryz.results31,go_sem,r0,r1,r2,r3]) rfl ⟨below_four HB2.out,.inl ⟨_,H.out,by first|rfl|(simp[tokV];done)⟩⟩
 ·go_enter Tryz.func31,Tryz.ntmps31
  go_wp2_with fail
  refine HS.out.mono ?_;rintro e w' ⟨rfl,hb1⟩;have HB:=aK hb1;clear hb1
  go_wp2_with fail
  refine(hr.out _ HB.out).mono ?_;rintro e w' ⟨rfl,hb1⟩;clear HB;have HB:=aK hb1;clear hb1
  go_wp2_with fail
  refine(makeToken_on HB.out _ _ _ _).mono ?_;rintro e w2 ⟨rfl,hb2⟩;obtain⟨r0,r1,r2,r3⟩:=four_kept1 hb2;have hz0:=frozen_kept1 hb2 0;have hz1:=frozen_kept1 hb2 1;have hz2:=frozen_kept1 hb2 2;have hz3:=frozen_kept1 hb2 3;have HB2:=aK (below_one hb2);clear hb2
  go_wp2_with fail
  refine bodyPost_ret (v:=.tuple #[.agg #[.int .i64 12,.int .i64 q,.int .i64 (q+1),.string ⟨#[]⟩],.nilIface]) (by simp[results,Tryz.results31,go_sem,r0,r1,r2,r3]) rfl ⟨below_four HB2.out,.inl ⟨_,H.out,by first|rfl|(simp[tokV];done)⟩⟩
 ·go_enter Tryz.func31,Tryz.ntmps31
  go_wp2_with fail
  refine HS.out.mono ?_;rintro e w' ⟨rfl,hb1⟩;have HB:=aK hb1;clear hb1
  go_wp2_with fail
  refine(hr.out _ HB.out).mono ?_;rintro e w' ⟨rfl,hb1⟩;clear HB;have HB:=aK hb1;clear hb1
  go_wp2_with fail
  refine(makeToken_on HB.out _ _ _ _).mono ?_;rintro e w2 ⟨rfl,hb2⟩;obtain⟨r0,r1,r2,r3⟩:=four_kept1 hb2;have hz0:=frozen_kept1 hb2 0;have hz1:=frozen_kept1 hb2 1;have hz2:=frozen_kept1 hb2 2;have hz3:=frozen_kept1 hb2 3;have HB2:=aK (below_one hb2);clear hb2
  go_wp2_with fail
  refine bodyPost_ret (v:=.tuple #[.agg #[.int .i64 13,.int .i64 q,.int .i64 (q+1),.string ⟨#[]⟩],.nilIface]) (by simp[results,Tryz.results31,go_sem,r0,r1,r2,r3]) rfl ⟨below_four HB2.out,.inl ⟨_,H.out,by first|rfl|(simp[tokV];done)⟩⟩
 ·go_enter Tryz.func31,Tryz.ntmps31
  go_wp2_with fail
  refine HS.out.mono ?_;rintro e w' ⟨rfl,hb1⟩;have HB:=aK hb1;clear hb1
  go_wp2_with fail
  refine(hr.out _ HB.out).mono ?_;rintro e w' ⟨rfl,hb1⟩;clear HB;have HB:=aK hb1;clear hb1
  go_wp2_with fail
  refine(makeToken_on HB.out _ _ _ _).mono ?_;rintro e w2 ⟨rfl,hb2⟩;obtain⟨r0,r1,r2,r3⟩:=four_kept1 hb2;have hz0:=frozen_kept1 hb2 0;have hz1:=frozen_kept1 hb2 1;have hz2:=frozen_kept1 hb2 2;have hz3:=frozen_kept1 hb2 3;have HB2:=aK (below_one hb2);clear hb2
  go_wp2_with fail
  refine bodyPost_ret (v:=.tuple #[.agg #[.int .i64 14,.int .i64 q,.int .i64 (q+1),.string ⟨#[]⟩],.nilIface]) (by simp[results,Tryz.results31,go_sem,r0,r1,r2,r3]) rfl ⟨below_four HB2.out,.inl ⟨_,H.out,by first|rfl|(simp[tokV];done)⟩⟩
theorem bad_quote {s:ByteArray} {z:Nat} (h:BitBad s z) (h34:bt s z=34):False:=by
 rcases h with h|⟨_,h,_⟩|⟨_,h,_⟩
 ·rw[bt_out s z h]at h34;cases h34
 ·omega
 ·omega
theorem read_num {sb bb cap p q:Nat} {s:ByteArray} {w:World} (hT:Tx sb bb cap s w) (hp:p≤s.size) (hq:Skip s p q) (hd:bt s q=45∨isDig (bt s q)=true) :
  Calls Tryz.prog 31 #[.pointer (some ⟨sb,0,none⟩),.int .i64 p] w fun e w'=>TokRes (mNum s q) w e w':=by
 have hcs:bt s q=45∨(48≤bt s q∧bt s q≤57):=hd.imp id isDig_iff.1;have hqs:q<s.size:=in_of (by omega)
 have hk:¬signK (bt s q)≠0:=by
  unfold signK;omega
 have hl:¬isLet (bt s q)=true:=by
  unfold isLet;simp only[Bool.or_eq_true,Bool.and_eq_true,decide_eq_true_eq,beq_iff_eq];omega
 have e:mTokAt s q=mNum s q:=by
  unfold mTokAt;rw[if_neg (by omega),if_neg hk,if_neg (by omega),if_neg hl,if_pos hd]
 rw[←e];refine tok_num sb bb p q cap s w hT hp hq (.inr ⟨hqs,?_,by omega,fun h=>by omega⟩) hqs hd
 unfold isWs;simp only[Bool.or_eq_false_iff,beq_eq_false_iff_ne];omega
theorem tok_big (sb bb p q cap:Nat) (s:ByteArray) (w:World) (hT:Tx sb bb cap s w) (hp:p≤s.size) (hq:Skip s p q) (hst:Stop s q) (hqe:q<s.size) (hbig:¬bt s q<128) :
  Calls Tryz.prog 31 #[.pointer (some ⟨sb,0,none⟩),.int .i64 p] w fun e w'=>TokRes none w e w':=by
 have h0:=hT.s0;have hs:=hT.size;have hcap:=hT.cap;have hsb:sb<w.heap.size:=World.block_lt_of_cell? w _ h0;have hTW:=hT.below (below_alloc (Below.refl _ _) (.cells #[.int .i64 0,.int .i64 0,.int .i64 0,.string ⟨#[]⟩] 51));have HR:=aK (fun wx (hB:BW w wx) k hk=>rune_on hTW hB k hk);have HS:=aK (ws_any sb bb p q cap s _ hTW hp hq hst);have HE:=aK (fun wx (hB:BW w wx) msg pos=>err_on hTW hB msg pos);have hqs:q≤s.size:=hq.size hp;have hqi:(q:Int)<(s.size:Int):=by omega
 have hr:=aK (fun wx hB=>HR.out wx hB q (by omega))
 have hc:=(rune_big hqe hbig).1;clear hT hTW hq hst hbig;generalize (runeOf s q).1=c at *;generalize (runeOf s q).2=n at *;go_enter Tryz.func31,Tryz.ntmps31
 go_wp2_with fail
 refine HS.out.mono ?_;rintro e w' ⟨rfl,hb1⟩;have HB:=aK hb1;clear hb1
 go_wp2_with fail
 refine(hr.out _ (by first|exact HB.out|exact below_alloc HB.out _)).mono ?_
 rintro e w' ⟨rfl,hb1⟩;clear HB;have HB:=aK hb1;clear hb1
 go_wp2_with fail
 refine(HE.out _ HB.out _ _).mono ?_;rintro e w2 ⟨g2,rfl,hb2⟩;obtain⟨r0,r1,r2,r3⟩:=four_kept1 hb2;have hz0:=frozen_kept1 hb2 0;have hz1:=frozen_kept1 hb2 1;have hz2:=frozen_kept1 hb2 2;have hz3:=frozen_kept1 hb2 3;have HB2:=aK (below_one hb2);clear hb2
 go_wp2_with fail
 refine bodyPost_ret (v:=.tuple #[zeroT,errV g2]) (by simp[results,Tryz.results31,go_sem,r0,r1,r2,r3,zeroT,errV]) rfl ⟨below_four HB2.out,.inr ⟨rfl,g2,rfl⟩⟩
end Go.Proofs.YtjolkdnfbmkjiaaGreatDoor.Lx
