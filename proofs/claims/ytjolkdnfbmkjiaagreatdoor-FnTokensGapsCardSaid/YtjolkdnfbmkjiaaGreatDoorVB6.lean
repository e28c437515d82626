import Derived.Test.YtjolkdnfbmkjiaaGreatDoorVB5
import Derived.Test.YtjolkdnfbmkjiaaGreatDoorVC3
import Derived.Test.YtjolkdnfbmkjiaaGreatDoorVC1
set_option maxRecDepth 100000
set_option maxHeartbeats 8000000
set_option linter.unusedVariables false
set_option linter.unusedSimpArgs false
namespace Go.Proofs.YtjolkdnfbmkjiaaGreatDoor.Lx
open Go.RowKit Go.Proofs.YtjolkdnfbmkjiaaGreatDoorW.PrintWords Keep Go.Proofs.YtjolkdnfbmkjiaaGreatDoor.Mod Rel Sim Step Four Env Err
def BlkRes (s:ByteArray) (p0 a:Nat) (w:World) (e:Ending) (w':World):Prop:=
 Below w.heap.size w w'∧((∃v,three s a∧Lex.blkV (s.extract (p0+3) a) v∧e = .returned (.tuple #[tokV ⟨19,p0,a+3,v⟩,.nilIface]))∨(RawBad s a∧∃g,e = .returned (.tuple #[zeroT,errV g])))
theorem raw_cases {s:ByteArray} {a b:Nat} (h:Raw s a b):a=b∨∃(c:Int) (n:Nat),a<s.size∧¬three s a∧¬escq s a∧runeOf s a=(c,(n:Int))∧1≤n∧n≤4∧a+n≤s.size∧(c=9∨c=10∨c=13∨32≤c)∧Raw s (a+n) b:=by
 cases h with
 | nil=>exact .inl rfl
 | cons c n h1 h2 h3 h4 h5 h6 h7 h8 h9=>exact .inr ⟨c,n,h1,h2,h3,h4,h5,h6,h7,h8,h9⟩
theorem rune_is {s:ByteArray} {p:Nat} (c:Int) (h0:0<c) (h1:c<128) (h:(runeOf s p).1=c):bt s p=c:=(rune_fst c h0 h1).1 h
theorem blk_any (sb bb p0 cap a:Nat) (s:ByteArray) (w:World) (hT:Tx sb bb cap s w) (hs2:s.size≤200000) (h3:p0+3≤s.size) (hP:Raw s (p0+3) a) (hE:RawBad s a∨(three s a∧∃v,Lex.blkV (s.extract (p0+3) a) v)) :
  Calls Tryz.prog 55 #[.pointer (some ⟨sb,0,none⟩),.int .i64 p0] w fun e w'=>BlkRes s p0 a w e w':=by
 have h0:=hT.s0;have hcap:=hT.cap;have hsb:sb<w.heap.size:=World.block_lt_of_cell? w _ h0;have hbl:bb<w.heap.size:=World.block_lt_of_cell? w _ (hT.body 0 (by omega))
 have HT:=aK hT;have HE:=aK hE;have HP:=aK hP;clear hT hE hP;go_enter Tryz.func55,Tryz.ntmps55
 go_wp2_with fail
 have HK:=aK (fun W' (hb:Below (w.heap.size+1) ((w.alloc (.cells #[.int .i64 0,.int .i64 0,.int .i64 0,.string ⟨#[]⟩] 51)).alloc (.cells #[.slice none 0 0,.int .i64 0,.int .i8 0] 101)) W')=>And.intro (four_two hb) (fun j=>frozen_two hb j));have HI0:=aK (Lib.fresh_isBuffer 101 5 (w.alloc (.cells #[.int .i64 0,.int .i64 0,.int .i64 0,.string ⟨#[]⟩] 51)));have HB0:=aK (show Below w.heap.size w ((w.alloc (.cells #[.int .i64 0,.int .i64 0,.int .i64 0,.string ⟨#[]⟩] 51)).alloc (.cells #[.slice none 0 0,.int .i64 0,.int .i8 0] 101))from below_alloc (below_alloc (Below.refl _ _) _) _)
 have hsz0:((w.alloc (.cells #[.int .i64 0,.int .i64 0,.int .i64 0,.string ⟨#[]⟩] 51)).alloc (.cells #[.slice none 0 0,.int .i64 0,.int .i8 0] 101)).heap.size=w.heap.size+2:=by simp
 rw[World.size_alloc]at HI0;generalize (w.alloc (.cells #[.int .i64 0,.int .i64 0,.int .i64 0,.string ⟨#[]⟩] 51)).alloc (.cells #[.slice none 0 0,.int .i64 0,.int .i8 0] 101)=W0 at *;clear h0
 go_loopw [7,8,9] (fun v7 v8 v9 wr=>∃(p rp:Nat),v7 = .int .i64 p∧v8 = .int .i64 rp∧v9 = .int .i64 (p0+3:Nat)∧p0+3≤p∧p≤s.size∧rp≤p∧Aside0 (Raw s p a)∧Aside0 (Below W0.heap.size W0 wr)) (fun v7 _ _ _=>s.size-(intOf v7).toNat)
 case atStart=>exact⟨p0+3,p0+3,by go_num,by go_num,by go_num,by omega,h3,by omega,HP,⟨Below.refl _ _⟩⟩
 case round=>
  obtain⟨p,rp,rfl,rfl,rfl,hp3,hps,hrp,HPa,HB⟩:=hrel;have hwr:=HB.out.size;have HTr:=aK (fun wx (hB:Below W0.heap.size W0 wx)=>HT.out.below (HB0.out.trans (hB.mono (by omega))))
  have HR:=aK (fun wx (hB:Below W0.heap.size W0 wx) (i:Int) (q:Nat) (hi:i=q) (hq:q≤1000000)=>(show Calls Tryz.prog 51 #[.slice (some ⟨bb,0,none⟩) s.size cap,.int .i64 i] wx fun e w'=>e = .returned (.tuple #[.int .i32 (runeOf s q).1,.int .i64 (runeOf s q).2])∧Below wx.heap.size wx w' by rw[hi];exact rune_any sb bb q cap s wx (HTr.out wx hB) (by omega)))
  have HX:=aK (fun wx (hB:Below W0.heap.size W0 wx) msg pos=>err_two HT.out HB0.out hsz0 (hB.mono (by omega)) msg pos)
  rcases raw_cases HPa.out with rfl|⟨c,n,hlt,hnq,hne,hr,hn1,hn4,hle,hok,hnext⟩
  ·rcases HE.out with hbad|⟨hq,v,hbv⟩
   ·have HBad:=aK hbad
    rcases hbad with hend|⟨hlt,hlow,h9,h10,h13⟩
    ·have hendi:(s.size:Int)≤(p:Int):=by omega
     go_wp2_with fail
     refine(HX.out _ HB.out _ _).mono ?_;rintro e w2 ⟨g,rfl,hbw⟩;obtain⟨r0,r1,r2,r3⟩:=(HK.out _ hbw).1;have hz0:=(HK.out _ hbw).2 0;have hz1:=(HK.out _ hbw).2 1;have hz2:=(HK.out _ hbw).2 2;have hz3:=(HK.out _ hbw).2 3;have HBF:=aK (HB0.out.trans (hbw.mono (by omega)))
     clear hbw HK
     go_wp2_with fail
     refine bodyPost_ret (v:=.tuple #[zeroT,errV g]) (by simp[results,Tryz.results55,go_sem,r0,r1,r2,r3,zeroT,errV]) rfl ⟨?_,.inr ⟨HBad.out,g,rfl⟩⟩
     exact below_four HBF.out
    ·have hlti:(p:Int)<(s.size:Int):=by omega
     have HR0:=aK (HR.out _ HB.out p p rfl (by omega))
     rw[rune_small hlt (by omega)]at HR0
     have q2:(bt s p==34)=false:=beq_eq_false_iff_ne.2 (by omega)
     have q6:(bt s p != 9)=true:=bne_iff_ne.2 h9;have q7:(bt s p != 10)=true:=bne_iff_ne.2 h10;have q8:(bt s p != 13)=true:=bne_iff_ne.2 h13;clear h9 h10 h13;generalize bt s p=c at *
     go_wp2_with fail
     refine HR0.out.mono ?_;rintro e wa ⟨rfl,hba⟩;have HBa:=aK (HB.out.trans (hba.mono hwr));clear hba
     go_wp2_with fail
     refine(HX.out _ HBa.out _ _).mono ?_;rintro e w2 ⟨g,rfl,hbw⟩;obtain⟨r0,r1,r2,r3⟩:=(HK.out _ hbw).1;have hz0:=(HK.out _ hbw).2 0;have hz1:=(HK.out _ hbw).2 1;have hz2:=(HK.out _ hbw).2 2;have hz3:=(HK.out _ hbw).2 3;have HBF:=aK (HB0.out.trans (hbw.mono (by omega)))
     clear hbw HK
     go_wp2_with fail
     refine bodyPost_ret (v:=.tuple #[zeroT,errV g]) (by simp[results,Tryz.results55,go_sem,r0,r1,r2,r3,zeroT,errV]) rfl ⟨?_,.inr ⟨HBad.out,g,rfl⟩⟩
     exact below_four HBF.out
   ·obtain⟨a0,a1,a2⟩:=id hq
    have hle:p+3≤s.size:=three_in hq;have hlti:(p:Int)<(s.size:Int):=by omega
    have HG:=aK (show three s p∧Lex.blkV (s.extract (p0+3) p) v from⟨hq,hbv⟩)
    obtain⟨l,hIs,hpl,rfl⟩:=hbv;have HR0:=aK (fun wx hB=>HR.out wx hB p p rfl (by omega))
    have HR1:=aK (fun wx hB=>HR.out wx hB ((p:Int)+1) (p+1) (by omega) (by omega))
    have HR2:=aK (fun wx hB=>HR.out wx hB ((p:Int)+2) (p+2) (by omega) (by omega))
    rw[rune_lt 34 (by decide) (by decide) a0]at HR0
    rw[rune_lt 34 (by decide) (by decide) a1]at HR1
    rw[rune_lt 34 (by decide) (by decide) a2]at HR2
    clear a0 a1 a2 hq
    go_wp2_with fail
    refine(HR0.out _ HB.out).mono ?_;rintro e wa ⟨rfl,ha⟩;have Ha:=aK (HB.out.trans (ha.mono (by have:=HB.out.size;omega)))
    clear ha
    go_wp2_with fail
    refine(HR1.out _ Ha.out).mono ?_;rintro e wb ⟨rfl,hb⟩;have Hb:=aK (Ha.out.trans (hb.mono (by have:=Ha.out.size;omega)))
    clear hb
    go_wp2_with fail
    refine(HR2.out _ Hb.out).mono ?_;rintro e wc ⟨rfl,hc⟩;have Hc:=aK (Hb.out.trans (hc.mono (by have:=Hb.out.size;omega)))
    clear hc;have g1:((p0+3:Nat):Int)≤(p:Int):=by omega
    have g2:(p:Int)≤(cap:Int):=by omega
    have g3:¬cap=p0+3:=by omega
    have hwc:w.heap.size+2≤wc.heap.size:=by have:=Hc.out.size;omega
    go_wp2_with fail
    have hI2:Lib.IsBuffer 101 5 (w.heap.size+1) (w.heap.size+1) [] wc:=HI0.out.old Hc.out;refine(Tryz.Buffer_Write (w.heap.size+1) (w.heap.size+1) [] (Lib.byteCells (s.extract (p0+3) p).data.toList) ⟨bb,p0+3,none⟩ (p-(p0+3)) (cap-(p0+3)) wc hI2 (by omega) (by simp) (by rw[Lib.byteCells_length];exact ext_len (by omega)) (by show bb≠_;omega) (body_cells (HTr.out wc Hc.out).body (by omega)) (Lib.byteCells_one _) (by simp;omega)).mono ?_
    rintro e wd ⟨rfl,hI3,hbd,-⟩;rw[List.nil_append]at hI3
    go_wp2_with fail
    refine(Tryz.Buffer_String (w.heap.size+1) (w.heap.size+1) _ wd hI3).mono ?_;rintro e we ⟨rfl,nd,rfl⟩;rw[show(⟨(s.extract (p0+3) p).data.toList.toArray⟩:ByteArray)=s.extract (p0+3) p from ByteArray.ext Array.toArray_toList]
    go_wp2_with fail
    refine(Block.blockStr_any (s.extract (p0+3) p) l (2*(s.extract (p0+3) p).size+3) _ (by rw[ByteArray.size_extract];omega) hIs.1 (hIs.2 _ (by omega)).2.2).mono ?_
    rintro e wf ⟨rfl,hbf⟩;rw[LinesP.value_eq hIs.1.1 hpl];have hwd:=hbd.size
    go_wp2_with fail
    refine(makeToken_any _ _ _ _ _).mono ?_;rintro e wg ⟨rfl,hbg⟩;have b1:Below (w.heap.size+1) W0 wc:=Hc.out.mono (by omega)
    have b2:=b1.trans hbd;have b4:=b2.trans (pw_below_drewN (Below.refl (w.heap.size+1) wd) nd);have s4:=b4.size;have b5:=b4.trans (hbf.mono (by omega))
    have s5:=b5.size;have hbw:=b5.trans (hbg.mono (by omega))
    obtain⟨r0,r1,r2,r3⟩:=(HK.out _ hbw).1;have hz0:=(HK.out _ hbw).2 0;have hz1:=(HK.out _ hbw).2 1;have hz2:=(HK.out _ hbw).2 2;have hz3:=(HK.out _ hbw).2 3;have HBF:=aK (HB0.out.trans (hbw.mono (by omega)))
    clear hbw HK b1 b2 b4 b5
    go_wp2_with fail
    refine bodyPost_ret (v:=.tuple #[tokV ⟨19,p0,p+3,LinesP.valueL l⟩,.nilIface]) (by simp[results,Tryz.results55,go_sem,r0,r1,r2,r3,tokV]) rfl ⟨?_,.inl ⟨_,HG.out.1,HG.out.2,rfl⟩⟩
    exact below_four HBF.out
  ·have hlti:(p:Int)<(s.size:Int):=by omega
   have HN:=aK hnext;have HR0:=aK (fun wx hB=>HR.out wx hB p p rfl (by omega))
   rw[hr]at HR0;have HR1:=aK (fun wx hB=>HR.out wx hB ((p:Int)+1) (p+1) (by omega) (by omega))
   have HR2:=aK (fun wx hB=>HR.out wx hB ((p:Int)+2) (p+2) (by omega) (by omega))
   have HR3:=aK (fun wx hB=>HR.out wx hB ((p:Int)+3) (p+3) (by omega) (by omega))
   have hnoq:c=34→(runeOf s (p+1)).1=34→(runeOf s (p+2)).1=34→False:=fun h h1 h2=>hnq ⟨rune_is 34 (by decide) (by decide) (by rw[hr];exact h),rune_is 34 (by decide) (by decide) h1,rune_is 34 (by decide) (by decide) h2⟩
   have hnoe:c=92→(runeOf s (p+1)).1=34→(runeOf s (p+2)).1=34→(runeOf s (p+3)).1=34→False:=fun h h1 h2 h3=>hne ⟨rune_is 92 (by decide) (by decide) (by rw[hr];exact h),rune_is 34 (by decide) (by decide) h1,rune_is 34 (by decide) (by decide) h2,rune_is 34 (by decide) (by decide) h3⟩
   clear hr hnq hne hnext HPa;generalize (runeOf s (p+1)).1=c1 at *;generalize (runeOf s (p+2)).1=c2 at *;generalize (runeOf s (p+3)).1=c3 at *;generalize (runeOf s (p+1)).2=n1 at *;generalize (runeOf s (p+2)).2=n2 at *;generalize (runeOf s (p+3)).2=n3 at *;have hcs:c=9∨c=10∨c=13∨c=34∨c=92∨(32≤c∧c≠34∧c≠92):=by omega
   clear hok;rcases hcs with rfl|rfl|rfl|rfl|rfl|⟨k1,k2,k3⟩
   ·clear hnoq hnoe
    go_wp2_with fail
    refine(HR0.out _ HB.out).mono ?_;rintro e wa ⟨rfl,ha⟩;have Ha:=aK (HB.out.trans (ha.mono (by have:=HB.out.size;omega)))
    clear ha
    go_wp2_with fail
    exact⟨⟨p+n,rp+1,by go_num,by go_num,rfl,by omega,hle,by omega,HN,Ha⟩,by simp[intOf];omega⟩
   ·clear hnoq hnoe
    go_wp2_with fail
    refine(HR0.out _ HB.out).mono ?_;rintro e wa ⟨rfl,ha⟩;have Ha:=aK (HB.out.trans (ha.mono (by have:=HB.out.size;omega)))
    clear ha
    go_wp2_with fail
    exact⟨⟨p+n,rp+1,by go_num,by go_num,rfl,by omega,hle,by omega,HN,Ha⟩,by simp[intOf];omega⟩
   ·clear hnoq hnoe
    go_wp2_with fail
    refine(HR0.out _ HB.out).mono ?_;rintro e wa ⟨rfl,ha⟩;have Ha:=aK (HB.out.trans (ha.mono (by have:=HB.out.size;omega)))
    clear ha
    go_wp2_with fail
    exact⟨⟨p+n,rp+1,by go_num,by go_num,rfl,by omega,hle,by omega,HN,Ha⟩,by simp[intOf];omega⟩
   ·have hno:=hnoq rfl
    clear hnoq hnoe
    go_wp2_with fail
    refine(HR0.out _ HB.out).mono ?_;rintro e wa ⟨rfl,ha⟩;have Ha:=aK (HB.out.trans (ha.mono (by have:=HB.out.size;omega)))
    clear ha
    go_wp2_with fail
    refine(HR1.out _ Ha.out).mono ?_;rintro e wb ⟨rfl,hb⟩;have Hb:=aK (Ha.out.trans (hb.mono (by have:=Ha.out.size;omega)))
    clear hb
    go_wp2_with fail
    refine(HR2.out _ Hb.out).mono ?_;rintro e wc ⟨rfl,hc⟩;have Hc:=aK (Hb.out.trans (hc.mono (by have:=Hb.out.size;omega)))
    clear hc
    by_cases e1:c1=34
    ·subst e1
     have f2:(c2==34)=false:=beq_eq_false_iff_ne.2 (fun h=>hno rfl h);clear hno
     go_wp2_with fail
     exact⟨⟨p+n,rp+1,by go_num,by go_num,rfl,by omega,hle,by omega,HN,Hc⟩,by simp[intOf];omega⟩
    ·have f1:(c1==34)=false:=beq_eq_false_iff_ne.2 e1
     clear hno
     go_wp2_with fail
     exact⟨⟨p+n,rp+1,by go_num,by go_num,rfl,by omega,hle,by omega,HN,Hc⟩,by simp[intOf];omega⟩
   ·have hno:=hnoe rfl
    clear hnoq hnoe
    go_wp2_with fail
    refine(HR0.out _ HB.out).mono ?_;rintro e wa ⟨rfl,ha⟩;have Ha:=aK (HB.out.trans (ha.mono (by have:=HB.out.size;omega)))
    clear ha
    go_wp2_with fail
    refine(HR1.out _ Ha.out).mono ?_;rintro e wb ⟨rfl,hb⟩;have Hb:=aK (Ha.out.trans (hb.mono (by have:=Ha.out.size;omega)))
    clear hb
    go_wp2_with fail
    refine(HR2.out _ Hb.out).mono ?_;rintro e wc ⟨rfl,hc⟩;have Hc:=aK (Hb.out.trans (hc.mono (by have:=Hb.out.size;omega)))
    clear hc
    go_wp2_with fail
    refine(HR3.out _ Hc.out).mono ?_;rintro e wd ⟨rfl,hd⟩;have Hd:=aK (Hc.out.trans (hd.mono (by have:=Hc.out.size;omega)))
    clear hd
    by_cases e1:c1=34
    ·subst e1
     by_cases e2:c2=34
     ·subst e2
      have f3:(c3==34)=false:=beq_eq_false_iff_ne.2 (fun h=>hno rfl rfl h);clear hno
      go_wp2_with fail
      exact⟨⟨p+n,rp+1,by go_num,by go_num,rfl,by omega,hle,by omega,HN,Hd⟩,by simp[intOf];omega⟩
     ·have f2:(c2==34)=false:=beq_eq_false_iff_ne.2 e2
      clear hno
      go_wp2_with fail
      exact⟨⟨p+n,rp+1,by go_num,by go_num,rfl,by omega,hle,by omega,HN,Hd⟩,by simp[intOf];omega⟩
    ·have f1:(c1==34)=false:=beq_eq_false_iff_ne.2 e1
     clear hno
     go_wp2_with fail
     exact⟨⟨p+n,rp+1,by go_num,by go_num,rfl,by omega,hle,by omega,HN,Hd⟩,by simp[intOf];omega⟩
   ·clear hnoq hnoe
    have f1:(c==34)=false:=beq_eq_false_iff_ne.2 k2;have f2:(c==92)=false:=beq_eq_false_iff_ne.2 k3
    go_wp2_with fail
    refine(HR0.out _ HB.out).mono ?_;rintro e wa ⟨rfl,ha⟩;have Ha:=aK (HB.out.trans (ha.mono (by have:=HB.out.size;omega)))
    clear ha
    go_wp2_with fail
    exact⟨⟨p+n,rp+1,by go_num,by go_num,rfl,by omega,hle,by omega,HN,Ha⟩,by simp[intOf];omega⟩
end Go.Proofs.YtjolkdnfbmkjiaaGreatDoor.Lx
