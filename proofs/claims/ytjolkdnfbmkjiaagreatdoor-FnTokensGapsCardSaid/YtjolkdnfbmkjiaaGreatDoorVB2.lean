import Derived.Test.YtjolkdnfbmkjiaaGreatDoorVB1
set_option maxRecDepth 100000
set_option maxHeartbeats 8000000
set_option linter.unusedVariables false
set_option linter.unusedSimpArgs false
namespace Go.Proofs.YtjolkdnfbmkjiaaGreatDoor.Lx
open Go.RowKit Go.Proofs.YtjolkdnfbmkjiaaGreatDoorW.PrintWords Keep Go.Proofs.YtjolkdnfbmkjiaaGreatDoor.Mod Rel Sim Step Four Env Err
theorem skip_cases {s:ByteArray} {k q:Nat} (h:Skip s k q):k=q∨(k<s.size∧isWs (bt s k)=true∧Skip s (k+1) q)∨(k<s.size∧bt s k=35∧∃m,Com s (k+1) m∧Skip s m q):=by
 cases h with
 | refl=>exact .inl rfl
 | ws h1 h2 h3=>exact .inr (.inl ⟨h1,h2,h3⟩)
 | com h1 h2 h3 h4=>exact .inr (.inr ⟨h1,h2,_,h3,h4⟩)
theorem ws_any (sb bb p q cap:Nat) (s:ByteArray) (w:World) (hT:Tx sb bb cap s w) (hp:p≤s.size) (hq:Skip s p q) (hst:Stop s q) :
  Calls Tryz.prog 49 #[.slice (some ⟨bb,0,none⟩) s.size cap,.int .i64 p] w fun e w'=>
   e = .returned (.tuple #[.int .i64 q,.int .i64 q])∧Below w.heap.size w w':=by
 have hs:=hT.size;have hcap:=hT.cap;have hqs:=hq.size hp;have hpq:=hq.le;have HQ:=aK hq;have HR:=aK (fun k=>rune_asc sb bb k cap s w hT);have HRX:=aK (rune_any sb bb q cap s w hT);have HST:=aK hst;clear hq hT hst;go_enter Tryz.func49,Tryz.ntmps49
 go_wp2_with fail
 go_loopw [4,5] (fun i j wr=>∃k:Nat,p≤k∧k≤q∧i = .int .i64 k∧j = .int .i64 k∧wr=w∧Aside0 (Skip s k q)) (fun i _ _=>q-(intOf i).toNat)
 case atStart=>exact⟨p,Nat.le_refl _,hpq,rfl,rfl,rfl,HQ⟩
 case round=>
  obtain⟨k,hk1,hk2,rfl,rfl,rfl,HK⟩:=hrel;rcases skip_cases HK.out with rfl|⟨hlt,hc,hnx⟩|⟨hlt,hc,m,hcom,hnx⟩
  ·clear HK HQ HR
   rcases Nat.lt_or_ge k s.size with hlt|hge
   ·have hlti:(k:Int)<(s.size:Int):=by omega
    have hcs:((runeOf s k).1==65279)=false∧((runeOf s k).1==9)=false∧((runeOf s k).1==32)=false∧((runeOf s k).1==10)=false∧((runeOf s k).1==13)=false∧((runeOf s k).1==44)=false∧((runeOf s k).1==35)=false:=by
     rcases HST.out with h|⟨_,h1,h2,h3⟩
     ·omega
     ·obtain⟨n1,n2,n3,n4,n5⟩:=isWs_no h1
      by_cases hb:bt s k<128
      ·rw[rune_small hlt hb]
       exact⟨beq_eq_false_iff_ne.2 (by simp only;omega),n1,n2,n3,n4,n5,beq_eq_false_iff_ne.2 h2⟩
      ·have:=rune_big hlt hb
       have h4:=h3 (by omega)
       exact⟨beq_eq_false_iff_ne.2 h4,beq_eq_false_iff_ne.2 (by omega),beq_eq_false_iff_ne.2 (by omega),beq_eq_false_iff_ne.2 (by omega),beq_eq_false_iff_ne.2 (by omega),beq_eq_false_iff_ne.2 (by omega),beq_eq_false_iff_ne.2 (by omega)⟩
    clear HST;generalize (runeOf s k).1=c at *;generalize (runeOf s k).2=n at *;obtain⟨n7,n1,n2,n3,n4,n5,n6⟩:=hcs
    go_wp2_with fail
    refine(HRX.out (by omega)).mono ?_
    rintro e w' ⟨rfl,hb1⟩
    go_wp2_with fail
    go_ret2
    exact⟨rfl,hb1⟩
   ·have hlti:(s.size:Int)≤(k:Int):=by omega
    go_wp2_with fail
    go_ret2
    exact⟨rfl,Below.refl _ _⟩
  ·have hlti:(k:Int)<(s.size:Int):=by omega
   have hkq:k+1≤q:=hnx.le;have hcs:=isWs_iff hc;have hR:=HR.out k (fun _=>by omega) (by omega)
   rw[rune_small hlt (by omega)]at hR
   have HRk:=aK hR;have HN:=aK hnx;clear hR hc hnx HK HST HRX HQ;generalize bt s k=c at *;rcases hcs with rfl|rfl|rfl|rfl|rfl
   all_goals
    go_wp2_with fail
    refine HRk.out.mono ?_;rintro e w' ⟨rfl,rfl⟩
    go_wp2_with fail
    go_roundw
    case rel=>exact⟨k+1,by omega,by omega,by go_num,by go_num,by first|rfl|trivial,HN⟩
    case measure=>simp[intOf];omega
  ·have hlti:(k:Int)<(s.size:Int):=by omega
   have hmq:m≤q:=hnx.le;have hkm:=hcom.1;have hms:=hcom.2.1;have hR:=HR.out k (fun _=>by omega) (by omega)
   rw[rune_small hlt (by omega),hc]at hR
   have HRk:=aK hR;have HN:=aK hnx;have HC:=aK hcom;clear hR hc hnx hcom HK HST HRX HQ
   go_wp2_with fail
   refine HRk.out.mono ?_;rintro e w' ⟨rfl,rfl⟩
   go_wp2_with fail
   go_loopw [4,5] (fun i j wx=>∃a:Nat,k+1≤a∧a≤m∧i = .int .i64 a∧j = .int .i64 a∧wx=wr) (fun i _ _=>m-(intOf i).toNat)
   case atStart=>exact⟨k+1,by omega,by omega,by go_num,by go_num,rfl⟩
   case round=>
    obtain⟨a,ha1,ha2,rfl,rfl,rfl⟩:=hrel;have hRa:=HR.out a (fun h=>com_asc HC.out a ha1 ha2 h) (by omega)
    by_cases hlt2:a<m
    ·have hci:=com_in HC.out ha1 hlt2
     have halti:(a:Int)<(s.size:Int):=by omega
     rw[rune_small (by omega) (by omega)]at hRa
     have HRa:=aK hRa;clear hRa HR HC;generalize bt s a=c at *;have e0:(c != 0)=true:=bne_iff_ne.2 (by omega)
     have e10:(c != 10)=true:=bne_iff_ne.2 (by omega)
     have e13:(c != 13)=true:=bne_iff_ne.2 (by omega)
     rcases hci with rfl|⟨c1,c2⟩
     all_goals
      go_wp2_with fail
      refine HRa.out.mono ?_;rintro e w' ⟨rfl,rfl⟩
      go_wp2_with fail
      go_roundw
      case rel=>exact⟨a+1,by omega,by omega,by go_num,by go_num,by first|rfl|trivial⟩
      case measure=>simp[intOf];omega
    ·obtain rfl:a=m:=by omega
     have HRa:=aK hRa;have hend:=HC.out.2.2.2;clear hRa HR HC;rcases hend with hend|hend|hend
     ·have halti:(s.size:Int)≤(a:Int):=by omega
      clear hend ha2 hlt2;generalize (runeOf s a).1=c at *;generalize (runeOf s a).2=n at *
      go_wp2_with fail
      refine HRa.out.mono ?_;rintro e w' ⟨rfl,rfl⟩
      go_wp2_with fail
      exact⟨⟨a,by omega,by omega,rfl,rfl,by first|rfl|trivial,HN⟩,by simp[intOf];omega⟩
     ·have has:a<s.size:=in_of (by omega)
      have halti:(a:Int)<(s.size:Int):=by omega
      have HRb:=aK ((rune_small has (by omega))▸HRa.out)
      rw[hend]at HRb;clear HRa hend ha2 hlt2
      go_wp2_with fail
      refine HRb.out.mono ?_;rintro e w' ⟨rfl,rfl⟩
      go_wp2_with fail
      exact⟨⟨a,by omega,by omega,rfl,rfl,by first|rfl|trivial,HN⟩,by simp[intOf];omega⟩
     ·have has:a<s.size:=in_of (by omega)
      have halti:(a:Int)<(s.size:Int):=by omega
      have HRb:=aK ((rune_small has (by omega))▸HRa.out)
      rw[hend]at HRb;clear HRa hend ha2 hlt2
      go_wp2_with fail
      refine HRb.out.mono ?_;rintro e w' ⟨rfl,rfl⟩
      go_wp2_with fail
      exact⟨⟨a,by omega,by omega,rfl,rfl,by first|rfl|trivial,HN⟩,by simp[intOf];omega⟩
theorem name_on {sb bb p cap:Nat} {s:ByteArray} {w0 w:World} (hT:Tx sb bb cap s w0) (hB:Below w0.heap.size w0 w) (hp:p<s.size) :
  Calls Tryz.prog 53 #[.pointer (some ⟨sb,0,none⟩),.int .i64 p,.int .i64 p] w fun e w'=>
   e = .returned (.agg #[.int .i64 15,.int .i64 p,.int .i64 (scan isNam s s.size (p+1):Nat),.string (s.extract p (scan isNam s s.size (p+1)))])∧Below w0.heap.size w0 w':=
 (readName_any sb bb p cap s w (hT.below hB) hp).mono fun e w' ⟨h1,h2⟩=>⟨h1,hB.trans (h2.mono hB.size)⟩
def TokRes0 (w0:World) (r:Option Tok) (e:Ending) (w':World):Prop:=Below w0.heap.size w0 w'∧((∃t,r=some t∧e = .returned (.tuple #[tokV t,.nilIface]))∨(r=none∧∃g,e = .returned (.tuple #[zeroT,errV g])))
theorem TokRes.on {w0 w:World} {r:Option Tok} {e:Ending} {w':World} (h:TokRes r w e w') (hB:Below w0.heap.size w0 w):TokRes0 w0 r e w':=⟨hB.trans (h.1.mono hB.size),h.2⟩
theorem num_on {sb bb q cap:Nat} {s:ByteArray} {w0 w:World} (hT:Tx sb bb cap s w0) (hB:Below w0.heap.size w0 w) (hq:q<s.size) (hq8:bt s q<128) :
  Calls Tryz.prog 54 #[.pointer (some ⟨sb,0,none⟩),.int .i64 q,.int .i32 (bt s q),.int .i64 1] w fun e w'=>TokRes0 w0 (mNum s q) e w':=
 (num_any sb bb q cap s w (hT.below hB) hq hq8).mono fun e w' h=>TokRes.on h hB
theorem tok_upper (sb bb p q cap:Nat) (s:ByteArray) (w:World) (hT:Tx sb bb cap s w) (hp:p≤s.size) (hq:Skip s p q) (hst:Stop s q) (hqe:q<s.size) (h1:65≤bt s q) (h2:bt s q≤90) :
  Calls Tryz.prog 31 #[.pointer (some ⟨sb,0,none⟩),.int .i64 p] w fun e w'=>TokRes (mTokAt s q) w e w':=by
 have h0:=hT.s0;have hs:=hT.size;have hcap:=hT.cap;have hsb:sb<w.heap.size:=World.block_lt_of_cell? w _ h0;have hTW:=hT.below (below_alloc (Below.refl _ _) (.cells #[.int .i64 0,.int .i64 0,.int .i64 0,.string ⟨#[]⟩] 51));have HR:=aK (fun wx (hB:BW w wx) k hk=>rune_on hTW hB k hk);have HS:=aK (ws_any sb bb p q cap s _ hTW hp hq hst);have HE:=aK (fun wx (hB:BW w wx) msg pos=>err_on hTW hB msg pos);have HN:=aK (fun wx (hB:BW w wx) hq2=>name_on (p:=q) hTW hB hq2);have HM:=aK (fun wx (hB:BW w wx) hq2 hq8=>num_on (q:=q) hTW hB hq2 hq8);have HTW:=aK hTW;have hqs:q≤s.size:=hq.size hp;clear hT hTW hq hst;have hk:signK (bt s q)=0:=by
  have h3:signK (bt s q)=0∨signK (bt s q)≠0:=by omega
  rcases h3 with h|h
  ·exact h
  ·unfold signK at h;omega
 have hl:isLet (bt s q)=true:=by
  unfold isLet;simp only[Bool.or_eq_true,Bool.and_eq_true,decide_eq_true_eq,beq_iff_eq];omega
 have H:=aK (show mTokAt s q=some ⟨15,q,scan isNam s s.size (q+1),s.extract q (scan isNam s s.size (q+1))⟩ by unfold mTokAt;rw[if_neg (by omega),if_neg (by omega),if_neg (by omega),if_pos hl])
 have hqi:(q:Int)<(s.size:Int):=by omega
 have hr:=aK (fun wx hB=>HR.out wx hB q (by omega))
 rw[rune_small hqe (by omega)]at hr
 clear hk hl;generalize bt s q=c at *;go_enter Tryz.func31,Tryz.ntmps31
 go_wp2_with fail
 refine HS.out.mono ?_;rintro e w' ⟨rfl,hb1⟩;have HB:=aK hb1;clear hb1
 go_wp2_with fail
 refine(hr.out _ HB.out).mono ?_;rintro e w' ⟨rfl,hb1⟩;clear HB;have HB:=aK hb1;clear hb1
 go_wp2_with fail
 all_goals
  refine(HN.out _ HB.out hqe).mono ?_;rintro e w2 ⟨rfl,hb2⟩;obtain⟨r0,r1,r2,r3⟩:=four_kept1 hb2;have hz0:=frozen_kept1 hb2 0;have hz1:=frozen_kept1 hb2 1;have hz2:=frozen_kept1 hb2 2;have hz3:=frozen_kept1 hb2 3;have HB2:=aK (below_one hb2);clear hb2
  go_wp2_with fail
  refine bodyPost_ret (v:=.tuple #[.agg #[.int .i64 15,.int .i64 q,.int .i64 (scan isNam s s.size (q+1):Nat),.string (s.extract q (scan isNam s s.size (q+1)))],.nilIface]) (by simp[results,Tryz.results31,go_sem,r0,r1,r2,r3]) rfl ⟨below_four HB2.out,.inl ⟨_,H.out,by first|rfl|(simp[tokV];done)⟩⟩
theorem tok_lower (sb bb p q cap:Nat) (s:ByteArray) (w:World) (hT:Tx sb bb cap s w) (hp:p≤s.size) (hq:Skip s p q) (hst:Stop s q) (hqe:q<s.size) (h1:97≤bt s q) (h2:bt s q≤122) :
  Calls Tryz.prog 31 #[.pointer (some ⟨sb,0,none⟩),.int .i64 p] w fun e w'=>TokRes (mTokAt s q) w e w':=by
 have h0:=hT.s0;have hs:=hT.size;have hcap:=hT.cap;have hsb:sb<w.heap.size:=World.block_lt_of_cell? w _ h0;have hTW:=hT.below (below_alloc (Below.refl _ _) (.cells #[.int .i64 0,.int .i64 0,.int .i64 0,.string ⟨#[]⟩] 51));have HR:=aK (fun wx (hB:BW w wx) k hk=>rune_on hTW hB k hk);have HS:=aK (ws_any sb bb p q cap s _ hTW hp hq hst);have HE:=aK (fun wx (hB:BW w wx) msg pos=>err_on hTW hB msg pos);have HN:=aK (fun wx (hB:BW w wx) hq2=>name_on (p:=q) hTW hB hq2);have HM:=aK (fun wx (hB:BW w wx) hq2 hq8=>num_on (q:=q) hTW hB hq2 hq8);have HTW:=aK hTW;have hqs:q≤s.size:=hq.size hp;clear hT hTW hq hst;have hk:signK (bt s q)=0:=by
  have h3:signK (bt s q)=0∨signK (bt s q)≠0:=by omega
  rcases h3 with h|h
  ·exact h
  ·unfold signK at h;omega
 have hl:isLet (bt s q)=true:=by
  unfold isLet;simp only[Bool.or_eq_true,Bool.and_eq_true,decide_eq_true_eq,beq_iff_eq];omega
 have H:=aK (show mTokAt s q=some ⟨15,q,scan isNam s s.size (q+1),s.extract q (scan isNam s s.size (q+1))⟩ by unfold mTokAt;rw[if_neg (by omega),if_neg (by omega),if_neg (by omega),if_pos hl])
 have hqi:(q:Int)<(s.size:Int):=by omega
 have hr:=aK (fun wx hB=>HR.out wx hB q (by omega))
 rw[rune_small hqe (by omega)]at hr
 clear hk hl;generalize bt s q=c at *;go_enter Tryz.func31,Tryz.ntmps31
 go_wp2_with fail
 refine HS.out.mono ?_;rintro e w' ⟨rfl,hb1⟩;have HB:=aK hb1;clear hb1
 go_wp2_with fail
 refine(hr.out _ HB.out).mono ?_;rintro e w' ⟨rfl,hb1⟩;clear HB;have HB:=aK hb1;clear hb1
 go_wp2_with fail
 all_goals
  refine(HN.out _ HB.out hqe).mono ?_;rintro e w2 ⟨rfl,hb2⟩;obtain⟨r0,r1,r2,r3⟩:=four_kept1 hb2;have hz0:=frozen_kept1 hb2 0;have hz1:=frozen_kept1 hb2 1;have hz2:=frozen_kept1 hb2 2;have hz3:=frozen_kept1 hb2 3;have HB2:=aK (below_one hb2);clear hb2
  go_wp2_with fail
  refine bodyPost_ret (v:=.tuple #[.agg #[.int .i64 15,.int .i64 q,.int .i64 (scan isNam s s.size (q+1):Nat),.string (s.extract q (scan isNam s s.size (q+1)))],.nilIface]) (by simp[results,Tryz.results31,go_sem,r0,r1,r2,r3]) rfl ⟨below_four HB2.out,.inl ⟨_,H.out,by first|rfl|(simp[tokV];done)⟩⟩
theorem tok_line (sb bb p q cap:Nat) (s:ByteArray) (w:World) (hT:Tx sb bb cap s w) (hp:p≤s.size) (hq:Skip s p q) (hst:Stop s q) (hqe:q<s.size) (h1:bt s q=95) :
  Calls Tryz.prog 31 #[.pointer (some ⟨sb,0,none⟩),.int .i64 p] w fun e w'=>TokRes (mTokAt s q) w e w':=by
 have h0:=hT.s0;have hs:=hT.size;have hcap:=hT.cap;have hsb:sb<w.heap.size:=World.block_lt_of_cell? w _ h0;have hTW:=hT.below (below_alloc (Below.refl _ _) (.cells #[.int .i64 0,.int .i64 0,.int .i64 0,.string ⟨#[]⟩] 51));have HR:=aK (fun wx (hB:BW w wx) k hk=>rune_on hTW hB k hk);have HS:=aK (ws_any sb bb p q cap s _ hTW hp hq hst);have HE:=aK (fun wx (hB:BW w wx) msg pos=>err_on hTW hB msg pos);have HN:=aK (fun wx (hB:BW w wx) hq2=>name_on (p:=q) hTW hB hq2);have HM:=aK (fun wx (hB:BW w wx) hq2 hq8=>num_on (q:=q) hTW hB hq2 hq8);have HTW:=aK hTW;have hqs:q≤s.size:=hq.size hp;clear hT hTW hq hst;have H:=aK (show mTokAt s q=some ⟨15,q,scan isNam s s.size (q+1),s.extract q (scan isNam s s.size (q+1))⟩ by unfold mTokAt;rw[h1,if_neg (by omega),if_neg (by decide),if_neg (by decide),if_pos (by decide)])
 have hqi:(q:Int)<(s.size:Int):=by omega
 have hr:=aK (fun wx hB=>HR.out wx hB q (by omega))
 rw[rune_small hqe (by omega),h1]at hr
 clear h1;go_enter Tryz.func31,Tryz.ntmps31
 go_wp2_with fail
 refine HS.out.mono ?_;rintro e w' ⟨rfl,hb1⟩;have HB:=aK hb1;clear hb1
 go_wp2_with fail
 refine(hr.out _ HB.out).mono ?_;rintro e w' ⟨rfl,hb1⟩;clear HB;have HB:=aK hb1;clear hb1
 go_wp2_with fail
 refine(HN.out _ HB.out hqe).mono ?_;rintro e w2 ⟨rfl,hb2⟩;obtain⟨r0,r1,r2,r3⟩:=four_kept1 hb2;have hz0:=frozen_kept1 hb2 0;have hz1:=frozen_kept1 hb2 1;have hz2:=frozen_kept1 hb2 2;have hz3:=frozen_kept1 hb2 3;have HB2:=aK (below_one hb2);clear hb2
 go_wp2_with fail
 refine bodyPost_ret (v:=.tuple #[.agg #[.int .i64 15,.int .i64 q,.int .i64 (scan isNam s s.size (q+1):Nat),.string (s.extract q (scan isNam s s.size (q+1)))],.nilIface]) (by simp[results,Tryz.results31,go_sem,r0,r1,r2,r3]) rfl ⟨below_four HB2.out,.inl ⟨_,H.out,by first|rfl|(simp[tokV];done)⟩⟩
end Go.Proofs.YtjolkdnfbmkjiaaGreatDoor.Lx
