import Derived.Test.YtjolkdnfbmkjiaaGreatDoorVB2
import Derived.Test.YtjolkdnfbmkjiaaGreatDoorVA3
import Derived.Test.YtjolkdnfbmkjiaaGreatDoorVA4
import Derived.Lib.BufferOld
set_option maxRecDepth 100000
set_option maxHeartbeats 8000000
set_option linter.unusedVariables false
set_option linter.unusedSimpArgs false
namespace Go.Proofs.YtjolkdnfbmkjiaaGreatDoor.Lx
open Go.RowKit Go.Proofs.YtjolkdnfbmkjiaaGreatDoorW.PrintWords Keep Go.Proofs.YtjolkdnfbmkjiaaGreatDoor.Mod Rel Sim Step Four Env Err Uni
theorem four_two {w w1:World} {t t':TypeId} {x0 x1 x2 x3:Value} {cs:Array Value} (hb:Below (w.heap.size+1) ((w.alloc (.cells #[x0,x1,x2,x3] t)).alloc (.cells cs t')) w1) :
  w1.cell? ⟨w.heap.size,0,none⟩=some x0∧w1.cell? ⟨w.heap.size,1,none⟩=some x1∧w1.cell? ⟨w.heap.size,2,none⟩=some x2∧w1.cell? ⟨w.heap.size,3,none⟩=some x3:=by
 have h:=Blk.below (Blk.alloc (Blk.new w t #[x0,x1,x2,x3]) (.cells cs t')) hb (by omega)
 exact⟨(h.cell 0).trans rfl,(h.cell 1).trans rfl,(h.cell 2).trans rfl,(h.cell 3).trans rfl⟩
theorem frozen_two {w w1:World} {t t':TypeId} {x0 x1 x2 x3:Value} {cs:Array Value} (hb:Below (w.heap.size+1) ((w.alloc (.cells #[x0,x1,x2,x3] t)).alloc (.cells cs t')) w1) (j:Nat) :
  w1.frozen? ⟨w.heap.size,j,none⟩=false:=
 (Blk.below (Blk.alloc (Blk.new w t #[x0,x1,x2,x3]) (.cells cs t')) hb (by omega)).frozen j
theorem ext_len {s:ByteArray} {c p:Nat} (h:p≤s.size):(s.extract c p).data.toList.length=p-c:=by
 rw[←Lib.size_eq,ByteArray.size_extract];omega
theorem bt_ext (s:ByteArray) (a b j:Nat) (hj:j<(s.extract a b).size):bt (s.extract a b) j=bt s (a+j:Nat):=by
 have h:=hj;rw[ByteArray.size_extract]at h;have:=ByteArray.getElem_extract (b:=s) (start:=a) (stop:=b) (i:=j) hj;rw[bt_nat _ _ hj,bt_nat s (a+j) (by omega),this]
theorem body_cells {w:World} {bb:Nat} {s:ByteArray} {c p:Nat} (h:BodyAt w bb s) (hp:p≤s.size):∀j v,(Lib.byteCells (s.extract c p).data.toList)[j]?=some v→w.cell? ((⟨bb,c,none⟩:Addr).add j)=some v:=by
 intro j v hj;have hjl:j<(s.extract c p).data.toList.length:=by
  have h5:=(List.getElem?_eq_some_iff.1 hj).1;rwa[Lib.byteCells_length]at h5
 have hjs:j<(s.extract c p).size:=by rw[Lib.size_eq];exact hjl
 have hj3:c+j<s.size:=by rw[ByteArray.size_extract]at hjs;omega
 have e5:(Lib.byteCells (s.extract c p).data.toList)[j]?=some (Value.int .u8 (bt (s.extract c p) j)):=by
  rw[bt_nat _ _ hjs];simp only[Lib.byteCells,List.getElem?_map,List.getElem?_eq_getElem hjl,Option.map_some];rfl
 rw[e5]at hj;cases hj;rw[Lib.addr_add,bt_ext _ _ _ _ hjs];exact h (c+j) hj3
theorem bits_cases {s:ByteArray} {a z:Nat} {y:ByteArray} (h:Bits s a z y):(a=z∧y=⟨#[]⟩)∨∃b x1 y1,Bit s a b x1∧Bits s b z y1∧y=x1++y1:=by
 cases h with
 | nil=>exact .inl ⟨rfl,rfl⟩
 | cons h1 h2=>exact .inr ⟨_,_,_,h1,h2,rfl⟩
theorem bit_cases {s:ByteArray} {a b:Nat} {x:ByteArray} (h:Bit s a b x) :
  (∃(c:Int) (n:Nat),a<s.size∧runeOf s a=(c,(n:Int))∧1≤n∧n≤4∧a+n≤s.size∧c≠34∧c≠92∧(c=9∨32≤c)∧b=a+n∧x=s.extract a (a+n))∨
  (a+1<s.size∧bt s a=92∧0≤escV (bt s (a+1:Nat))∧b=a+2∧x=enc (escV (bt s (a+1:Nat))))∨
  (a+5<s.size∧bt s a=92∧bt s (a+1:Nat)=117∧hexOk s a∧1≤uniV s a∧¬(55296≤uniV s a∧uniV s a≤57343)∧b=a+6∧x=enc (uniV s a)):=by
 cases h with
 | chr c n h1 h2 h3 h4 h5 h6 h7 h8=>exact .inl ⟨c,n,h1,h2,h3,h4,h5,h6,h7,h8,rfl,rfl⟩
 | esc h1 h2 h3=>exact .inr (.inl ⟨h1,h2,h3,rfl,rfl⟩)
 | uni h1 h2 h3 h4 h5 h6=>exact .inr (.inr ⟨h1,h2,h3,h4,h5,h6,rfl,rfl⟩)
theorem esc_cases {c:Int} (h:0≤escV c):(c=34∧escV c=34)∨(c=47∧escV c=47)∨(c=92∧escV c=92)∨(c=98∧escV c=8)∨(c=102∧escV c=12)∨(c=110∧escV c=10)∨(c=114∧escV c=13)∨(c=116∧escV c=9):=by
 by_cases h0:c=34
 ·subst h0;exact .inl ⟨rfl,by decide⟩
 by_cases h1:c=47
 ·subst h1;exact .inr (.inl ⟨rfl,by decide⟩)
 by_cases h2:c=92
 ·subst h2;exact .inr (.inr (.inl ⟨rfl,by decide⟩))
 by_cases h3:c=98
 ·subst h3;exact .inr (.inr (.inr (.inl ⟨rfl,by decide⟩)))
 by_cases h4:c=102
 ·subst h4;exact .inr (.inr (.inr (.inr (.inl ⟨rfl,by decide⟩))))
 by_cases h5:c=110
 ·subst h5;exact .inr (.inr (.inr (.inr (.inr (.inl ⟨rfl,by decide⟩)))))
 by_cases h6:c=114
 ·subst h6;exact .inr (.inr (.inr (.inr (.inr (.inr (.inl ⟨rfl,by decide⟩))))))
 by_cases h7:c=116
 ·subst h7;exact .inr (.inr (.inr (.inr (.inr (.inr (.inr (⟨rfl,by decide⟩)))))))
 have e:escV c = -1:=by simp[escV,h0,h1,h2,h3,h4,h5,h6,h7]
 rw[e]at h;exact absurd h (by decide)
theorem ext_join {s X y:ByteArray} {c a b:Nat} (hc:c≤a) (hb:a≤b):X++s.extract c a++(s.extract a b++y)=X++s.extract c b++y:=by
 rw[←ByteArray.append_assoc,ByteArray.append_assoc (a:=X)];congr 2;apply ByteArray.ext;simp only[ByteArray.data_append,ByteArray.data_extract];rw[Array.extract_append_extract];congr 1<;>omega
theorem ext_none (s:ByteArray) (a:Nat):s.extract a a=⟨#[]⟩:=by apply ByteArray.ext;simp
theorem app_none (X:ByteArray):X++(⟨#[]⟩:ByteArray)=X:=by apply ByteArray.ext;simp
theorem none_app (X:ByteArray):(⟨#[]⟩:ByteArray)++X=X:=by apply ByteArray.ext;simp
theorem cells_app (X Y:ByteArray):Lib.byteCells X.data.toList++Lib.byteCells Y.data.toList=Lib.byteCells (X++Y).data.toList:=by
 simp[Lib.byteCells]
theorem cells_enc (X:ByteArray) (r:Int):Lib.byteCells X.data.toList++Lib.runeCells r=Lib.byteCells (X++enc r).data.toList:=by
 rw[←Lib.byteCells_encodeRune];simp[Lib.byteCells,enc]
theorem enc_size (r:Int):(enc r).size≤4:=by
 have h:=Lib.runeCells_le r;rw[Lib.runeCells_length]at h;have e:(enc r).size=(Lib.encodeRune r).length:=by unfold enc;rw[Lib.size_eq]
 omega
theorem err_two {sb bb cap:Nat} {s:ByteArray} {w W0 wx:World} (hT:Tx sb bb cap s w) (hB0:Below w.heap.size w W0) (hsz:W0.heap.size=w.heap.size+2) (hB:Below (w.heap.size+1) W0 wx) (msg:ByteArray) (pos:Int) :
  Calls Tryz.prog 52 #[.pointer (some ⟨sb,0,none⟩),.int .i64 pos,.string msg] wx fun e w'=>∃g:Nat,e = .returned (.pointer (some ⟨g,0,none⟩))∧Below (w.heap.size+1) W0 w':=by
 have hTx:=hT.below (hB0.trans (hB.mono (by omega)))
 have h1:=hB.size;exact(syntaxError_any sb bb cap pos s msg wx hTx.body hTx.s0 (by have:=hT.size;omega) hT.cap).mono fun e w' ⟨g,h2,h3⟩=>⟨g,h2,hB.trans (h3.mono (by omega))⟩
def StrRes (s:ByteArray) (p z:Nat) (x:ByteArray) (w:World) (e:Ending) (w':World):Prop:=
 Below w.heap.size w w'∧((bt s z=34∧e = .returned (.tuple #[tokV ⟨18,p,z+1,x⟩,.nilIface]))∨(BitBad s z∧∃g,e = .returned (.tuple #[zeroT,errV g])))
theorem str_any (sb bb p cap z:Nat) (x s:ByteArray) (w:World) (hT:Tx sb bb cap s w) (hp:p<s.size) (hb:Bits s (p+1) z x) (hE:bt s z=34∨BitBad s z) :
  Calls Tryz.prog 56 #[.pointer (some ⟨sb,0,none⟩),.int .i64 p] w fun e w'=>StrRes s p z x w e w':=by
 have h0:=hT.s0;have hs:=hT.size;have hcap:=hT.cap;have hsb:sb<w.heap.size:=World.block_lt_of_cell? w _ h0;have hbl:bb<w.heap.size:=World.block_lt_of_cell? w _ (hT.body p hp);have HT:=aK hT;have HBI:=aK hb;have HE:=aK hE;clear hT hb hE;go_enter Tryz.func56,Tryz.ntmps56
 go_wp2_with fail
 have HK:=aK (fun W' (hb:Below (w.heap.size+1) ((w.alloc (.cells #[.int .i64 0,.int .i64 0,.int .i64 0,.string ⟨#[]⟩] 51)).alloc (.cells #[.slice none 0 0,.int .i64 0,.int .i8 0] 101)) W')=>And.intro (four_two hb) (fun j=>frozen_two hb j));have HI0:=aK (Lib.fresh_isBuffer 101 5 (w.alloc (.cells #[.int .i64 0,.int .i64 0,.int .i64 0,.string ⟨#[]⟩] 51)));have HB0:=aK (show Below w.heap.size w ((w.alloc (.cells #[.int .i64 0,.int .i64 0,.int .i64 0,.string ⟨#[]⟩] 51)).alloc (.cells #[.slice none 0 0,.int .i64 0,.int .i8 0] 101))from below_alloc (below_alloc (Below.refl _ _) _) _)
 have hsz0:((w.alloc (.cells #[.int .i64 0,.int .i64 0,.int .i64 0,.string ⟨#[]⟩] 51)).alloc (.cells #[.slice none 0 0,.int .i64 0,.int .i8 0] 101)).heap.size=w.heap.size+2:=by simp
 rw[World.size_alloc]at HI0;generalize (w.alloc (.cells #[.int .i64 0,.int .i64 0,.int .i64 0,.string ⟨#[]⟩] 51)).alloc (.cells #[.slice none 0 0,.int .i64 0,.int .i8 0] 101)=W0 at *;clear h0
 go_loopw [7,8,9,10,11] (fun v7 v8 v9 v10 v11 wr=>∃(a rp c0:Nat) (xx yy:Int) (X:ByteArray),v7 = .int .i64 a∧v8 = .int .i64 rp∧v9 = .int .i64 c0∧v10 = .int .i32 xx∧v11 = .int .i64 yy∧p+1≤c0∧c0≤a∧a≤s.size∧rp≤a∧X.size≤4*c0∧Aside0 (∃y,Bits s a z y∧x=X++s.extract c0 a++y)∧Aside0 (Lib.IsBuffer 101 5 (w.heap.size+1) (w.heap.size+1) (Lib.byteCells X.data.toList) wr)∧Aside0 (Below (w.heap.size+1) W0 wr)) (fun v7 _ _ _ _ _=>s.size-(intOf v7).toNat)
 case atStart=>exact⟨p+1,p+1,p+1,0,0,⟨#[]⟩,by go_num,by go_num,by go_num,rfl,rfl,by omega,by omega,by omega,by omega,Nat.zero_le _,⟨⟨x,HBI.out,by rw[ext_none,app_none,none_app]⟩⟩,⟨HI0.out⟩,⟨Below.refl _ _⟩⟩
 case round=>
  clear HI0 HBI;obtain⟨a,rp,c0,xx,yy,X,rfl,rfl,rfl,rfl,rfl,hc1,hc2,ha,hrp,hX,HBi,HI,HB⟩:=hrel;have hwr:w.heap.size+2≤wr.heap.size:=by have:=HB.out.size;omega
  have HTr:=aK (HT.out.below (HB0.out.trans (HB.out.mono (by omega))))
  have HX:=aK (fun wx (hB:Below (w.heap.size+1) W0 wx) msg pos=>err_two HT.out HB0.out hsz0 hB msg pos);have HRa:=aK (rune_any sb bb a cap s wr HTr.out (by omega))
  rcases HBi.out.choose_spec with⟨hbi,hval⟩
  generalize HBi.out.choose=y at hbi hval;rcases bits_cases hbi with⟨rfl,rfl⟩|⟨b,x1,y1,h1,h2,rfl⟩
  ·clear hbi HBi
   rw[app_none]at hval;rcases HE.out with hq|hbad
   ·have has:a<s.size:=in_of (by omega)
    have hasi:(a:Int)<(s.size:Int):=by omega
    have HQ:=aK hq;rw[rune_lt 34 (by decide) (by decide) hq]at HRa
    subst hval;clear hq HE;have g1:(c0:Int)≤(a:Int):=by omega
    have g2:(a:Int)≤(cap:Int):=by omega
    have g3:¬cap=c0:=by omega
    go_wp2_with fail
    refine HRa.out.mono ?_;rintro e wa ⟨rfl,hba⟩;have HBa:=aK (HB.out.trans (hba.mono (by omega)))
    have hwa:=hba.size
    go_wp2_with fail
    refine(Tryz.Buffer_Write (w.heap.size+1) (w.heap.size+1) (Lib.byteCells X.data.toList) (Lib.byteCells (s.extract c0 a).data.toList) ⟨bb,c0,none⟩ (a-c0) (cap-c0) _ (HI.out.old hba) (by omega) (Lib.byteCells_one _) (by rw[Lib.byteCells_length];exact ext_len (by omega)) (by show bb≠_;omega) (body_cells (HTr.out.below hba).body (by omega)) (Lib.byteCells_one _) (by rw[Lib.byteCells_length,←Lib.size_eq];omega)).mono ?_
    rintro e wb ⟨rfl,hI3,hbb,-⟩;rw[cells_app]at hI3;have HI3:=aK hI3;have HBb:=aK (HBa.out.trans hbb);have hwb:=hbb.size;clear hI3 hbb
    go_wp2_with fail
    refine(Tryz.Buffer_String (w.heap.size+1) (w.heap.size+1) _ wb HI3.out).mono ?_;rintro e we ⟨rfl,nd,rfl⟩;rw[show(⟨(X++s.extract c0 a).data.toList.toArray⟩:ByteArray)=X++s.extract c0 a from ByteArray.ext Array.toArray_toList]
    go_wp2_with fail
    refine(makeToken_any _ _ _ _ _).mono ?_;rintro e wg ⟨rfl,hbg⟩;have hbw:Below (w.heap.size+1) W0 wg:=(HBb.out.trans (pw_below_drewN (Below.refl (w.heap.size+1) wb) nd)).trans (hbg.mono (by simp;omega))
    obtain⟨r0,r1,r2,r3⟩:=(HK.out _ hbw).1;have hz0:=(HK.out _ hbw).2 0;have hz1:=(HK.out _ hbw).2 1;have hz2:=(HK.out _ hbw).2 2;have hz3:=(HK.out _ hbw).2 3;have HBF:=aK (HB0.out.trans (hbw.mono (by omega)))
    clear hbw HK
    go_wp2_with fail
    refine bodyPost_ret (v:=.tuple #[tokV ⟨18,p,a+1,X++s.extract c0 a⟩,.nilIface]) (by simp[results,Tryz.results56,go_sem,r0,r1,r2,r3,tokV]) rfl ⟨?_,.inl ⟨HQ.out,rfl⟩⟩
    exact below_four HBF.out
   ·have HBad:=aK hbad
    clear hval HE;rcases hbad with hge|⟨has,hlow,h9⟩|⟨has,h92,hesc,huni⟩
    ·have hasi:(s.size:Int)≤(a:Int):=by omega
     rw[rune_end hge]at HRa
     go_wp2_with fail
     refine HRa.out.mono ?_;rintro e wa ⟨rfl,hba⟩;have HBa:=aK (HB.out.trans (hba.mono (by omega)))
     have hwa:=hba.size
     go_wp2_with fail
     refine(HX.out _ HBa.out _ _).mono ?_;rintro e wz ⟨g,rfl,hbw⟩;obtain⟨r0,r1,r2,r3⟩:=(HK.out _ hbw).1;have hz0:=(HK.out _ hbw).2 0;have hz1:=(HK.out _ hbw).2 1;have hz2:=(HK.out _ hbw).2 2;have hz3:=(HK.out _ hbw).2 3;have HBF:=aK (HB0.out.trans (hbw.mono (by omega)))
     clear hbw HK
     go_wp2_with fail
     refine bodyPost_ret (v:=.tuple #[zeroT,errV g]) (by simp[results,Tryz.results56,go_sem,r0,r1,r2,r3,zeroT,errV]) rfl ⟨?_,.inr ⟨HBad.out,g,rfl⟩⟩
     exact below_four HBF.out
    ·have hasi:(a:Int)<(s.size:Int):=by omega
     rw[rune_small has (by omega)]at HRa
     clear HBad;have HBad:=aK (show BitBad s a from .inr (.inl ⟨has,hlow,h9⟩))
     generalize bt s a=c at *;have k9:(c != 9)=true:=bne_iff_ne.2 h9;have k34:(c != 34)=true:=bne_iff_ne.2 (by omega)
     by_cases h10:c=10
     ·subst h10
      go_wp2_with fail
      refine HRa.out.mono ?_;rintro e wa ⟨rfl,hba⟩;have HBa:=aK (HB.out.trans (hba.mono (by omega)))
      have hwa:=hba.size
      go_wp2_with fail
      refine(HX.out _ HBa.out _ _).mono ?_;rintro e wz ⟨g,rfl,hbw⟩;obtain⟨r0,r1,r2,r3⟩:=(HK.out _ hbw).1;have hz0:=(HK.out _ hbw).2 0;have hz1:=(HK.out _ hbw).2 1;have hz2:=(HK.out _ hbw).2 2;have hz3:=(HK.out _ hbw).2 3;have HBF:=aK (HB0.out.trans (hbw.mono (by omega)))
      clear hbw HK
      go_wp2_with fail
      refine bodyPost_ret (v:=.tuple #[zeroT,errV g]) (by simp[results,Tryz.results56,go_sem,r0,r1,r2,r3,zeroT,errV]) rfl ⟨?_,.inr ⟨HBad.out,g,rfl⟩⟩
      exact below_four HBF.out
     ·by_cases h13:c=13
      ·subst h13
       go_wp2_with fail
       refine HRa.out.mono ?_;rintro e wa ⟨rfl,hba⟩;have HBa:=aK (HB.out.trans (hba.mono (by omega)))
       have hwa:=hba.size
       go_wp2_with fail
       refine(HX.out _ HBa.out _ _).mono ?_;rintro e wz ⟨g,rfl,hbw⟩;obtain⟨r0,r1,r2,r3⟩:=(HK.out _ hbw).1;have hz0:=(HK.out _ hbw).2 0;have hz1:=(HK.out _ hbw).2 1;have hz2:=(HK.out _ hbw).2 2;have hz3:=(HK.out _ hbw).2 3;have HBF:=aK (HB0.out.trans (hbw.mono (by omega)))
       clear hbw HK
       go_wp2_with fail
       refine bodyPost_ret (v:=.tuple #[zeroT,errV g]) (by simp[results,Tryz.results56,go_sem,r0,r1,r2,r3,zeroT,errV]) rfl ⟨?_,.inr ⟨HBad.out,g,rfl⟩⟩
       exact below_four HBF.out
      ·have k10:(c != 10)=true:=bne_iff_ne.2 h10
       have k13:(c != 13)=true:=bne_iff_ne.2 h13
       go_wp2_with fail
       refine HRa.out.mono ?_;rintro e wa ⟨rfl,hba⟩;have HBa:=aK (HB.out.trans (hba.mono (by omega)))
       have hwa:=hba.size
       go_wp2_with fail
       refine(HX.out _ HBa.out _ _).mono ?_;rintro e wz ⟨g,rfl,hbw⟩;obtain⟨r0,r1,r2,r3⟩:=(HK.out _ hbw).1;have hz0:=(HK.out _ hbw).2 0;have hz1:=(HK.out _ hbw).2 1;have hz2:=(HK.out _ hbw).2 2;have hz3:=(HK.out _ hbw).2 3;have HBF:=aK (HB0.out.trans (hbw.mono (by omega)))
       clear hbw HK
       go_wp2_with fail
       refine bodyPost_ret (v:=.tuple #[zeroT,errV g]) (by simp[results,Tryz.results56,go_sem,r0,r1,r2,r3,zeroT,errV]) rfl ⟨?_,.inr ⟨HBad.out,g,rfl⟩⟩
       exact below_four HBF.out
    ·have hasi:(a:Int)<(s.size:Int):=by omega
     rw[rune_lt 92 (by decide) (by decide) h92]at HRa
     have hne:∀k:Int,0<k→k<128→0≤escV k→(runeOf s (a+1)).1≠k:=fun k h1 h2 h3 h4=>by
      rw[(rune_fst k h1 h2).1 h4]at hesc;omega
     have k1:=hne 34 (by decide) (by decide) (by decide)
     have k2:=hne 47 (by decide) (by decide) (by decide)
     have k3:=hne 92 (by decide) (by decide) (by decide)
     have k4:=hne 98 (by decide) (by decide) (by decide)
     have k5:=hne 102 (by decide) (by decide) (by decide)
     have k6:=hne 110 (by decide) (by decide) (by decide)
     have k7:=hne 114 (by decide) (by decide) (by decide)
     have k8:=hne 116 (by decide) (by decide) (by decide)
     have l1:=beq_eq_false_iff_ne.2 k1;have l2:=beq_eq_false_iff_ne.2 k2;have l3:=beq_eq_false_iff_ne.2 k3;have l4:=beq_eq_false_iff_ne.2 k4;have l5:=beq_eq_false_iff_ne.2 k5;have l6:=beq_eq_false_iff_ne.2 k6;have l7:=beq_eq_false_iff_ne.2 k7;have l8:=beq_eq_false_iff_ne.2 k8;have HRb:=aK (fun wx (hB:Below (w.heap.size+1) W0 wx)=>rune_any sb bb (a+1) cap s wx (HT.out.below (HB0.out.trans (hB.mono (by omega)))) (by omega))
     clear hne k1 k2 k3 k4 k5 k6 k7 k8 hesc h92;have g1:(c0:Int)≤(a:Int):=by omega
     have g2:(a:Int)≤(cap:Int):=by omega
     have g3:¬cap=c0:=by omega
     by_cases hu:bt s (a+1:Nat)=117
     ·have hnh:=huni hu
      rw[rune_lt 117 (by decide) (by decide) hu]at HRb
      clear l1 l2 l3 l4 l5 l6 l7 l8 huni;have hus:a+1<s.size:=in_of (by omega)
      by_cases hlen:s.size≤a+1+4
      ·have hleni:(s.size:Int)≤(a:Int)+1+4:=by omega
       go_wp2_with fail
       refine HRa.out.mono ?_;rintro e wa ⟨rfl,hba⟩;have HBa:=aK (HB.out.trans (hba.mono (by omega)))
       have hwa:=hba.size
       go_wp2_with fail
       refine(Tryz.Buffer_Write (w.heap.size+1) (w.heap.size+1) (Lib.byteCells X.data.toList) (Lib.byteCells (s.extract c0 a).data.toList) ⟨bb,c0,none⟩ (a-c0) (cap-c0) _ (HI.out.old hba) (by omega) (Lib.byteCells_one _) (by rw[Lib.byteCells_length];exact ext_len (by omega)) (by show bb≠_;omega) (body_cells (HTr.out.below hba).body (by omega)) (Lib.byteCells_one _) (by rw[Lib.byteCells_length,←Lib.size_eq];omega)).mono ?_
       rintro e wb ⟨rfl,hI3,hbb,-⟩;rw[cells_app]at hI3;have HI3:=aK hI3;have HBb:=aK (HBa.out.trans hbb);have hwb:=hbb.size;clear hI3 hbb
       go_wp2_with fail
       refine(HRb.out _ HBb.out).mono ?_;rintro e wc ⟨rfl,hbc⟩;have HBc:=aK (HBb.out.trans (hbc.mono (by omega)))
       go_wp2_with fail
       refine(HX.out _ HBc.out _ _).mono ?_;rintro e wz ⟨g,rfl,hbw⟩;obtain⟨r0,r1,r2,r3⟩:=(HK.out _ hbw).1;have hz0:=(HK.out _ hbw).2 0;have hz1:=(HK.out _ hbw).2 1;have hz2:=(HK.out _ hbw).2 2;have hz3:=(HK.out _ hbw).2 3;have HBF:=aK (HB0.out.trans (hbw.mono (by omega)))
       clear hbw HK
       go_wp2_with fail
       refine bodyPost_ret (v:=.tuple #[zeroT,errV g]) (by simp[results,Tryz.results56,go_sem,r0,r1,r2,r3,zeroT,errV]) rfl ⟨?_,.inr ⟨HBad.out,g,rfl⟩⟩
       exact below_four HBF.out
      ·have hleni:¬(s.size:Int)≤(a:Int)+1+4:=by omega
       have hneg:ored (hx (bt s (a+2:Nat))) (hx (bt s (a+3:Nat))) (hx (bt s (a+4:Nat))) (hx (bt s (a+5:Nat)))<0:=by
        have h:=ored_hex s a;rw[if_neg hnh]at h;exact h
       have HU:=aK (fun wx=>uniCharCode_any (bt s (a+2:Nat)) (bt s (a+3:Nat)) (bt s (a+4:Nat)) (bt s (a+5:Nat)) wx (bt_byte _ _) (bt_byte _ _) (bt_byte _ _) (bt_byte _ _));generalize ored (hx (bt s (a+2:Nat))) (hx (bt s (a+3:Nat))) (hx (bt s (a+4:Nat))) (hx (bt s (a+5:Nat)))=r at *;have HC4:=aK (fun wx (hB:Below (w.heap.size+1) W0 wx)=>And.intro ((HT.out.below (HB0.out.trans (hB.mono (by omega)))).body (a+2) (by omega)) (And.intro ((HT.out.below (HB0.out.trans (hB.mono (by omega)))).body (a+3) (by omega)) (And.intro ((HT.out.below (HB0.out.trans (hB.mono (by omega)))).body (a+4) (by omega)) ((HT.out.below (HB0.out.trans (hB.mono (by omega)))).body (a+5) (by omega)))))
       have b2:=bt_byte s (a+2);have b3:=bt_byte s (a+3);have b4:=bt_byte s (a+4);have b5:=bt_byte s (a+5);generalize bt s (a+2:Nat)=d2 at *;generalize bt s (a+3:Nat)=d3 at *;generalize bt s (a+4:Nat)=d4 at *;generalize bt s (a+5:Nat)=d5 at *
       go_wp2_with fail
       refine HRa.out.mono ?_;rintro e wa ⟨rfl,hba⟩;have HBa:=aK (HB.out.trans (hba.mono (by omega)))
       have hwa:=hba.size
       go_wp2_with fail
       refine(Tryz.Buffer_Write (w.heap.size+1) (w.heap.size+1) (Lib.byteCells X.data.toList) (Lib.byteCells (s.extract c0 a).data.toList) ⟨bb,c0,none⟩ (a-c0) (cap-c0) _ (HI.out.old hba) (by omega) (Lib.byteCells_one _) (by rw[Lib.byteCells_length];exact ext_len (by omega)) (by show bb≠_;omega) (body_cells (HTr.out.below hba).body (by omega)) (Lib.byteCells_one _) (by rw[Lib.byteCells_length,←Lib.size_eq];omega)).mono ?_
       rintro e wb ⟨rfl,hI3,hbb,-⟩;rw[cells_app]at hI3;have HI3:=aK hI3;have HBb:=aK (HBa.out.trans hbb);have hwb:=hbb.size;clear hI3 hbb
       go_wp2_with fail
       refine(HRb.out _ HBb.out).mono ?_;rintro e wc ⟨rfl,hbc⟩;have HBc:=aK (HBb.out.trans (hbc.mono (by omega)))
       obtain⟨q2,q3,q4,q5⟩:=HC4.out _ HBc.out
       go_wp2_with fail
       go_quiet ((go_at_call 73;refine(HU.out _).mono ?_;rintro e wd ⟨rfl,rfl⟩;exact⟨rfl,_,rfl⟩))
       go_wp2_with fail
       refine(HX.out _ (pw_below_drewN HBc.out _) _ _).mono ?_;rintro e wz ⟨g,rfl,hbw⟩;obtain⟨r0,r1,r2,r3⟩:=(HK.out _ hbw).1;have hz0:=(HK.out _ hbw).2 0;have hz1:=(HK.out _ hbw).2 1;have hz2:=(HK.out _ hbw).2 2;have hz3:=(HK.out _ hbw).2 3;have HBF:=aK (HB0.out.trans (hbw.mono (by omega)))
       clear hbw HK
       go_wp2_with fail
       refine bodyPost_ret (v:=.tuple #[zeroT,errV g]) (by simp[results,Tryz.results56,go_sem,r0,r1,r2,r3,zeroT,errV]) rfl ⟨?_,.inr ⟨HBad.out,g,rfl⟩⟩
       exact below_four HBF.out
     ·have l9:((runeOf s (a+1)).1==117)=false:=beq_eq_false_iff_ne.2 fun h=>hu ((rune_fst 117 (by decide) (by decide)).1 h)
      generalize (runeOf s (a+1)).1=c1 at *;generalize (runeOf s (a+1)).2=n1 at *
      go_wp2_with fail
      refine HRa.out.mono ?_;rintro e wa ⟨rfl,hba⟩;have HBa:=aK (HB.out.trans (hba.mono (by omega)))
      have hwa:=hba.size
      go_wp2_with fail
      refine(Tryz.Buffer_Write (w.heap.size+1) (w.heap.size+1) (Lib.byteCells X.data.toList) (Lib.byteCells (s.extract c0 a).data.toList) ⟨bb,c0,none⟩ (a-c0) (cap-c0) _ (HI.out.old hba) (by omega) (Lib.byteCells_one _) (by rw[Lib.byteCells_length];exact ext_len (by omega)) (by show bb≠_;omega) (body_cells (HTr.out.below hba).body (by omega)) (Lib.byteCells_one _) (by rw[Lib.byteCells_length,←Lib.size_eq];omega)).mono ?_
      rintro e wb ⟨rfl,hI3,hbb,-⟩;rw[cells_app]at hI3;have HI3:=aK hI3;have HBb:=aK (HBa.out.trans hbb);have hwb:=hbb.size;clear hI3 hbb
      go_wp2_with fail
      refine(HRb.out _ HBb.out).mono ?_;rintro e wc ⟨rfl,hbc⟩;have HBc:=aK (HBb.out.trans (hbc.mono (by omega)))
      go_wp2_with fail
      refine(HX.out _ HBc.out _ _).mono ?_;rintro e wz ⟨g,rfl,hbw⟩;obtain⟨r0,r1,r2,r3⟩:=(HK.out _ hbw).1;have hz0:=(HK.out _ hbw).2 0;have hz1:=(HK.out _ hbw).2 1;have hz2:=(HK.out _ hbw).2 2;have hz3:=(HK.out _ hbw).2 3;have HBF:=aK (HB0.out.trans (hbw.mono (by omega)))
      clear hbw HK
      go_wp2_with fail
      refine bodyPost_ret (v:=.tuple #[zeroT,errV g]) (by simp[results,Tryz.results56,go_sem,r0,r1,r2,r3,zeroT,errV]) rfl ⟨?_,.inr ⟨HBad.out,g,rfl⟩⟩
      exact below_four HBF.out
  ·have HBI1:=aK h2
   clear hbi h2 HBi HE;rcases bit_cases h1 with⟨c,n,has,hr,hn1,hn4,hle,k34,k92,hok,rfl,rfl⟩|⟨has1,h92,hesc,rfl,rfl⟩|⟨has5,h92,h117,hhex,huv,hsur,rfl,rfl⟩
   ·have hasi:(a:Int)<(s.size:Int):=by omega
    rw[hr]at HRa;have f34:(c==34)=false:=beq_eq_false_iff_ne.2 k34;have f92:(c==92)=false:=beq_eq_false_iff_ne.2 k92;have f34b:(c != 34)=true:=bne_iff_ne.2 k34;have f10:(c != 10)=true:=bne_iff_ne.2 (by omega)
    have f13:(c != 13)=true:=bne_iff_ne.2 (by omega)
    have hval2:=hval.trans (ext_join (X:=X) (y:=y1) hc2 (show a≤a+n by omega))
    clear hr h1 hval;rcases hok with rfl|hok
    all_goals
     go_wp2_with fail
     refine HRa.out.mono ?_;rintro e wa ⟨rfl,hba⟩;have HBa:=aK (HB.out.trans (hba.mono (by omega)))
     have hwa:=hba.size
     go_wp2_with fail
     exact⟨⟨a+n,rp+1,c0,_,_,X,by go_num,by go_num,rfl,rfl,rfl,by omega,by omega,by omega,by omega,by omega,⟨⟨y1,HBI1.out,hval2⟩⟩,⟨HI.out.old hba⟩,HBa⟩,by simp[intOf];omega⟩
   ·have hasi:(a:Int)<(s.size:Int):=by omega
    rw[rune_lt 92 (by decide) (by decide) h92]at HRa
    have g1:(c0:Int)≤(a:Int):=by omega
    have g2:(a:Int)≤(cap:Int):=by omega
    have g3:¬cap=c0:=by omega
    have HRb:=aK (fun wx (hB:Below (w.heap.size+1) W0 wx)=>rune_any sb bb (a+1) cap s wx (HT.out.below (HB0.out.trans (hB.mono (by omega)))) (by omega))
    rcases esc_cases hesc with⟨h1c,h2c⟩|⟨h1c,h2c⟩|⟨h1c,h2c⟩|⟨h1c,h2c⟩|⟨h1c,h2c⟩|⟨h1c,h2c⟩|⟨h1c,h2c⟩|⟨h1c,h2c⟩
    ·rw[rune_lt 34 (by decide) (by decide) h1c]at HRb
     rw[h2c]at hval;clear h1 h92 hesc h1c h2c
     go_wp2_with fail
     refine HRa.out.mono ?_;rintro e wa ⟨rfl,hba⟩;have HBa:=aK (HB.out.trans (hba.mono (by omega)))
     have hwa:=hba.size
     go_wp2_with fail
     refine(Tryz.Buffer_Write (w.heap.size+1) (w.heap.size+1) (Lib.byteCells X.data.toList) (Lib.byteCells (s.extract c0 a).data.toList) ⟨bb,c0,none⟩ (a-c0) (cap-c0) _ (HI.out.old hba) (by omega) (Lib.byteCells_one _) (by rw[Lib.byteCells_length];exact ext_len (by omega)) (by show bb≠_;omega) (body_cells (HTr.out.below hba).body (by omega)) (Lib.byteCells_one _) (by rw[Lib.byteCells_length,←Lib.size_eq];omega)).mono ?_
     rintro e wb ⟨rfl,hI3,hbb,-⟩;rw[cells_app]at hI3;have HI3:=aK hI3;have HBb:=aK (HBa.out.trans hbb);have hwb:=hbb.size;clear hI3 hbb
     go_wp2_with fail
     refine(HRb.out _ HBb.out).mono ?_;rintro e wc ⟨rfl,hbc⟩;have HBc:=aK (HBb.out.trans (hbc.mono (by omega)))
     have hwc:=hbc.size
     go_wp2_with fail
     refine(Tryz.Buffer_WriteRune (w.heap.size+1) (w.heap.size+1) _ _ (by omega) (by omega) _ (HI3.out.old hbc) (by omega) (Lib.byteCells_one _) (by rw[Lib.byteCells_length,←Lib.size_eq,ByteArray.size_append,ByteArray.size_extract];omega)).mono ?_
     rintro e wd ⟨rfl,hI4,hbd,-⟩;rw[cells_enc]at hI4;have HI4:=aK hI4;have HBd:=aK (HBc.out.trans hbd);clear hI4 hbd
     go_wp2_with fail
     exact⟨⟨a+2,rp+2,a+2,34,1,_,by go_num,by go_num,by go_num,rfl,rfl,by omega,by omega,by omega,by omega,by rw[ByteArray.size_append,ByteArray.size_append,ByteArray.size_extract];have:=enc_size 34;omega,⟨⟨y1,HBI1.out,by rw[ext_none,app_none,hval];simp only[ByteArray.append_assoc]⟩⟩,HI4,HBd⟩,by simp[intOf];omega⟩
    ·rw[rune_lt 47 (by decide) (by decide) h1c]at HRb
     rw[h2c]at hval;clear h1 h92 hesc h1c h2c
     go_wp2_with fail
     refine HRa.out.mono ?_;rintro e wa ⟨rfl,hba⟩;have HBa:=aK (HB.out.trans (hba.mono (by omega)))
     have hwa:=hba.size
     go_wp2_with fail
     refine(Tryz.Buffer_Write (w.heap.size+1) (w.heap.size+1) (Lib.byteCells X.data.toList) (Lib.byteCells (s.extract c0 a).data.toList) ⟨bb,c0,none⟩ (a-c0) (cap-c0) _ (HI.out.old hba) (by omega) (Lib.byteCells_one _) (by rw[Lib.byteCells_length];exact ext_len (by omega)) (by show bb≠_;omega) (body_cells (HTr.out.below hba).body (by omega)) (Lib.byteCells_one _) (by rw[Lib.byteCells_length,←Lib.size_eq];omega)).mono ?_
     rintro e wb ⟨rfl,hI3,hbb,-⟩;rw[cells_app]at hI3;have HI3:=aK hI3;have HBb:=aK (HBa.out.trans hbb);have hwb:=hbb.size;clear hI3 hbb
     go_wp2_with fail
     refine(HRb.out _ HBb.out).mono ?_;rintro e wc ⟨rfl,hbc⟩;have HBc:=aK (HBb.out.trans (hbc.mono (by omega)))
     have hwc:=hbc.size
     go_wp2_with fail
     refine(Tryz.Buffer_WriteRune (w.heap.size+1) (w.heap.size+1) _ _ (by omega) (by omega) _ (HI3.out.old hbc) (by omega) (Lib.byteCells_one _) (by rw[Lib.byteCells_length,←Lib.size_eq,ByteArray.size_append,ByteArray.size_extract];omega)).mono ?_
     rintro e wd ⟨rfl,hI4,hbd,-⟩;rw[cells_enc]at hI4;have HI4:=aK hI4;have HBd:=aK (HBc.out.trans hbd);clear hI4 hbd
     go_wp2_with fail
     exact⟨⟨a+2,rp+2,a+2,47,1,_,by go_num,by go_num,by go_num,rfl,rfl,by omega,by omega,by omega,by omega,by rw[ByteArray.size_append,ByteArray.size_append,ByteArray.size_extract];have:=enc_size 47;omega,⟨⟨y1,HBI1.out,by rw[ext_none,app_none,hval];simp only[ByteArray.append_assoc]⟩⟩,HI4,HBd⟩,by simp[intOf];omega⟩
    ·rw[rune_lt 92 (by decide) (by decide) h1c]at HRb
     rw[h2c]at hval;clear h1 h92 hesc h1c h2c
     go_wp2_with fail
     refine HRa.out.mono ?_;rintro e wa ⟨rfl,hba⟩;have HBa:=aK (HB.out.trans (hba.mono (by omega)))
     have hwa:=hba.size
     go_wp2_with fail
     refine(Tryz.Buffer_Write (w.heap.size+1) (w.heap.size+1) (Lib.byteCells X.data.toList) (Lib.byteCells (s.extract c0 a).data.toList) ⟨bb,c0,none⟩ (a-c0) (cap-c0) _ (HI.out.old hba) (by omega) (Lib.byteCells_one _) (by rw[Lib.byteCells_length];exact ext_len (by omega)) (by show bb≠_;omega) (body_cells (HTr.out.below hba).body (by omega)) (Lib.byteCells_one _) (by rw[Lib.byteCells_length,←Lib.size_eq];omega)).mono ?_
     rintro e wb ⟨rfl,hI3,hbb,-⟩;rw[cells_app]at hI3;have HI3:=aK hI3;have HBb:=aK (HBa.out.trans hbb);have hwb:=hbb.size;clear hI3 hbb
     go_wp2_with fail
     refine(HRb.out _ HBb.out).mono ?_;rintro e wc ⟨rfl,hbc⟩;have HBc:=aK (HBb.out.trans (hbc.mono (by omega)))
     have hwc:=hbc.size
     go_wp2_with fail
     refine(Tryz.Buffer_WriteRune (w.heap.size+1) (w.heap.size+1) _ _ (by omega) (by omega) _ (HI3.out.old hbc) (by omega) (Lib.byteCells_one _) (by rw[Lib.byteCells_length,←Lib.size_eq,ByteArray.size_append,ByteArray.size_extract];omega)).mono ?_
     rintro e wd ⟨rfl,hI4,hbd,-⟩;rw[cells_enc]at hI4;have HI4:=aK hI4;have HBd:=aK (HBc.out.trans hbd);clear hI4 hbd
     go_wp2_with fail
     exact⟨⟨a+2,rp+2,a+2,92,1,_,by go_num,by go_num,by go_num,rfl,rfl,by omega,by omega,by omega,by omega,by rw[ByteArray.size_append,ByteArray.size_append,ByteArray.size_extract];have:=enc_size 92;omega,⟨⟨y1,HBI1.out,by rw[ext_none,app_none,hval];simp only[ByteArray.append_assoc]⟩⟩,HI4,HBd⟩,by simp[intOf];omega⟩
    ·rw[rune_lt 98 (by decide) (by decide) h1c]at HRb
     rw[h2c]at hval;clear h1 h92 hesc h1c h2c
     go_wp2_with fail
     refine HRa.out.mono ?_;rintro e wa ⟨rfl,hba⟩;have HBa:=aK (HB.out.trans (hba.mono (by omega)))
     have hwa:=hba.size
     go_wp2_with fail
     refine(Tryz.Buffer_Write (w.heap.size+1) (w.heap.size+1) (Lib.byteCells X.data.toList) (Lib.byteCells (s.extract c0 a).data.toList) ⟨bb,c0,none⟩ (a-c0) (cap-c0) _ (HI.out.old hba) (by omega) (Lib.byteCells_one _) (by rw[Lib.byteCells_length];exact ext_len (by omega)) (by show bb≠_;omega) (body_cells (HTr.out.below hba).body (by omega)) (Lib.byteCells_one _) (by rw[Lib.byteCells_length,←Lib.size_eq];omega)).mono ?_
     rintro e wb ⟨rfl,hI3,hbb,-⟩;rw[cells_app]at hI3;have HI3:=aK hI3;have HBb:=aK (HBa.out.trans hbb);have hwb:=hbb.size;clear hI3 hbb
     go_wp2_with fail
     refine(HRb.out _ HBb.out).mono ?_;rintro e wc ⟨rfl,hbc⟩;have HBc:=aK (HBb.out.trans (hbc.mono (by omega)))
     have hwc:=hbc.size
     go_wp2_with fail
     refine(Tryz.Buffer_WriteRune (w.heap.size+1) (w.heap.size+1) _ _ (by omega) (by omega) _ (HI3.out.old hbc) (by omega) (Lib.byteCells_one _) (by rw[Lib.byteCells_length,←Lib.size_eq,ByteArray.size_append,ByteArray.size_extract];omega)).mono ?_
     rintro e wd ⟨rfl,hI4,hbd,-⟩;rw[cells_enc]at hI4;have HI4:=aK hI4;have HBd:=aK (HBc.out.trans hbd);clear hI4 hbd
     go_wp2_with fail
     exact⟨⟨a+2,rp+2,a+2,98,1,_,by go_num,by go_num,by go_num,rfl,rfl,by omega,by omega,by omega,by omega,by rw[ByteArray.size_append,ByteArray.size_append,ByteArray.size_extract];have:=enc_size 8;omega,⟨⟨y1,HBI1.out,by rw[ext_none,app_none,hval];simp only[ByteArray.append_assoc]⟩⟩,HI4,HBd⟩,by simp[intOf];omega⟩
    ·rw[rune_lt 102 (by decide) (by decide) h1c]at HRb
     rw[h2c]at hval;clear h1 h92 hesc h1c h2c
     go_wp2_with fail
     refine HRa.out.mono ?_;rintro e wa ⟨rfl,hba⟩;have HBa:=aK (HB.out.trans (hba.mono (by omega)))
     have hwa:=hba.size
     go_wp2_with fail
     refine(Tryz.Buffer_Write (w.heap.size+1) (w.heap.size+1) (Lib.byteCells X.data.toList) (Lib.byteCells (s.extract c0 a).data.toList) ⟨bb,c0,none⟩ (a-c0) (cap-c0) _ (HI.out.old hba) (by omega) (Lib.byteCells_one _) (by rw[Lib.byteCells_length];exact ext_len (by omega)) (by show bb≠_;omega) (body_cells (HTr.out.below hba).body (by omega)) (Lib.byteCells_one _) (by rw[Lib.byteCells_length,←Lib.size_eq];omega)).mono ?_
     rintro e wb ⟨rfl,hI3,hbb,-⟩;rw[cells_app]at hI3;have HI3:=aK hI3;have HBb:=aK (HBa.out.trans hbb);have hwb:=hbb.size;clear hI3 hbb
     go_wp2_with fail
     refine(HRb.out _ HBb.out).mono ?_;rintro e wc ⟨rfl,hbc⟩;have HBc:=aK (HBb.out.trans (hbc.mono (by omega)))
     have hwc:=hbc.size
     go_wp2_with fail
     refine(Tryz.Buffer_WriteRune (w.heap.size+1) (w.heap.size+1) _ _ (by omega) (by omega) _ (HI3.out.old hbc) (by omega) (Lib.byteCells_one _) (by rw[Lib.byteCells_length,←Lib.size_eq,ByteArray.size_append,ByteArray.size_extract];omega)).mono ?_
     rintro e wd ⟨rfl,hI4,hbd,-⟩;rw[cells_enc]at hI4;have HI4:=aK hI4;have HBd:=aK (HBc.out.trans hbd);clear hI4 hbd
     go_wp2_with fail
     exact⟨⟨a+2,rp+2,a+2,102,1,_,by go_num,by go_num,by go_num,rfl,rfl,by omega,by omega,by omega,by omega,by rw[ByteArray.size_append,ByteArray.size_append,ByteArray.size_extract];have:=enc_size 12;omega,⟨⟨y1,HBI1.out,by rw[ext_none,app_none,hval];simp only[ByteArray.append_assoc]⟩⟩,HI4,HBd⟩,by simp[intOf];omega⟩
    ·rw[rune_lt 110 (by decide) (by decide) h1c]at HRb
     rw[h2c]at hval;clear h1 h92 hesc h1c h2c
     go_wp2_with fail
     refine HRa.out.mono ?_;rintro e wa ⟨rfl,hba⟩;have HBa:=aK (HB.out.trans (hba.mono (by omega)))
     have hwa:=hba.size
     go_wp2_with fail
     refine(Tryz.Buffer_Write (w.heap.size+1) (w.heap.size+1) (Lib.byteCells X.data.toList) (Lib.byteCells (s.extract c0 a).data.toList) ⟨bb,c0,none⟩ (a-c0) (cap-c0) _ (HI.out.old hba) (by omega) (Lib.byteCells_one _) (by rw[Lib.byteCells_length];exact ext_len (by omega)) (by show bb≠_;omega) (body_cells (HTr.out.below hba).body (by omega)) (Lib.byteCells_one _) (by rw[Lib.byteCells_length,←Lib.size_eq];omega)).mono ?_
     rintro e wb ⟨rfl,hI3,hbb,-⟩;rw[cells_app]at hI3;have HI3:=aK hI3;have HBb:=aK (HBa.out.trans hbb);have hwb:=hbb.size;clear hI3 hbb
     go_wp2_with fail
     refine(HRb.out _ HBb.out).mono ?_;rintro e wc ⟨rfl,hbc⟩;have HBc:=aK (HBb.out.trans (hbc.mono (by omega)))
     have hwc:=hbc.size
     go_wp2_with fail
     refine(Tryz.Buffer_WriteRune (w.heap.size+1) (w.heap.size+1) _ _ (by omega) (by omega) _ (HI3.out.old hbc) (by omega) (Lib.byteCells_one _) (by rw[Lib.byteCells_length,←Lib.size_eq,ByteArray.size_append,ByteArray.size_extract];omega)).mono ?_
     rintro e wd ⟨rfl,hI4,hbd,-⟩;rw[cells_enc]at hI4;have HI4:=aK hI4;have HBd:=aK (HBc.out.trans hbd);clear hI4 hbd
     go_wp2_with fail
     exact⟨⟨a+2,rp+2,a+2,110,1,_,by go_num,by go_num,by go_num,rfl,rfl,by omega,by omega,by omega,by omega,by rw[ByteArray.size_append,ByteArray.size_append,ByteArray.size_extract];have:=enc_size 10;omega,⟨⟨y1,HBI1.out,by rw[ext_none,app_none,hval];simp only[ByteArray.append_assoc]⟩⟩,HI4,HBd⟩,by simp[intOf];omega⟩
    ·rw[rune_lt 114 (by decide) (by decide) h1c]at HRb
     rw[h2c]at hval;clear h1 h92 hesc h1c h2c
     go_wp2_with fail
     refine HRa.out.mono ?_;rintro e wa ⟨rfl,hba⟩;have HBa:=aK (HB.out.trans (hba.mono (by omega)))
     have hwa:=hba.size
     go_wp2_with fail
     refine(Tryz.Buffer_Write (w.heap.size+1) (w.heap.size+1) (Lib.byteCells X.data.toList) (Lib.byteCells (s.extract c0 a).data.toList) ⟨bb,c0,none⟩ (a-c0) (cap-c0) _ (HI.out.old hba) (by omega) (Lib.byteCells_one _) (by rw[Lib.byteCells_length];exact ext_len (by omega)) (by show bb≠_;omega) (body_cells (HTr.out.below hba).body (by omega)) (Lib.byteCells_one _) (by rw[Lib.byteCells_length,←Lib.size_eq];omega)).mono ?_
     rintro e wb ⟨rfl,hI3,hbb,-⟩;rw[cells_app]at hI3;have HI3:=aK hI3;have HBb:=aK (HBa.out.trans hbb);have hwb:=hbb.size;clear hI3 hbb
     go_wp2_with fail
     refine(HRb.out _ HBb.out).mono ?_;rintro e wc ⟨rfl,hbc⟩;have HBc:=aK (HBb.out.trans (hbc.mono (by omega)))
     have hwc:=hbc.size
     go_wp2_with fail
     refine(Tryz.Buffer_WriteRune (w.heap.size+1) (w.heap.size+1) _ _ (by omega) (by omega) _ (HI3.out.old hbc) (by omega) (Lib.byteCells_one _) (by rw[Lib.byteCells_length,←Lib.size_eq,ByteArray.size_append,ByteArray.size_extract];omega)).mono ?_
     rintro e wd ⟨rfl,hI4,hbd,-⟩;rw[cells_enc]at hI4;have HI4:=aK hI4;have HBd:=aK (HBc.out.trans hbd);clear hI4 hbd
     go_wp2_with fail
     exact⟨⟨a+2,rp+2,a+2,114,1,_,by go_num,by go_num,by go_num,rfl,rfl,by omega,by omega,by omega,by omega,by rw[ByteArray.size_append,ByteArray.size_append,ByteArray.size_extract];have:=enc_size 13;omega,⟨⟨y1,HBI1.out,by rw[ext_none,app_none,hval];simp only[ByteArray.append_assoc]⟩⟩,HI4,HBd⟩,by simp[intOf];omega⟩
    ·rw[rune_lt 116 (by decide) (by decide) h1c]at HRb
     rw[h2c]at hval;clear h1 h92 hesc h1c h2c
     go_wp2_with fail
     refine HRa.out.mono ?_;rintro e wa ⟨rfl,hba⟩;have HBa:=aK (HB.out.trans (hba.mono (by omega)))
     have hwa:=hba.size
     go_wp2_with fail
     refine(Tryz.Buffer_Write (w.heap.size+1) (w.heap.size+1) (Lib.byteCells X.data.toList) (Lib.byteCells (s.extract c0 a).data.toList) ⟨bb,c0,none⟩ (a-c0) (cap-c0) _ (HI.out.old hba) (by omega) (Lib.byteCells_one _) (by rw[Lib.byteCells_length];exact ext_len (by omega)) (by show bb≠_;omega) (body_cells (HTr.out.below hba).body (by omega)) (Lib.byteCells_one _) (by rw[Lib.byteCells_length,←Lib.size_eq];omega)).mono ?_
     rintro e wb ⟨rfl,hI3,hbb,-⟩;rw[cells_app]at hI3;have HI3:=aK hI3;have HBb:=aK (HBa.out.trans hbb);have hwb:=hbb.size;clear hI3 hbb
     go_wp2_with fail
     refine(HRb.out _ HBb.out).mono ?_;rintro e wc ⟨rfl,hbc⟩;have HBc:=aK (HBb.out.trans (hbc.mono (by omega)))
     have hwc:=hbc.size
     go_wp2_with fail
     refine(Tryz.Buffer_WriteRune (w.heap.size+1) (w.heap.size+1) _ _ (by omega) (by omega) _ (HI3.out.old hbc) (by omega) (Lib.byteCells_one _) (by rw[Lib.byteCells_length,←Lib.size_eq,ByteArray.size_append,ByteArray.size_extract];omega)).mono ?_
     rintro e wd ⟨rfl,hI4,hbd,-⟩;rw[cells_enc]at hI4;have HI4:=aK hI4;have HBd:=aK (HBc.out.trans hbd);clear hI4 hbd
     go_wp2_with fail
     exact⟨⟨a+2,rp+2,a+2,116,1,_,by go_num,by go_num,by go_num,rfl,rfl,by omega,by omega,by omega,by omega,by rw[ByteArray.size_append,ByteArray.size_append,ByteArray.size_extract];have:=enc_size 9;omega,⟨⟨y1,HBI1.out,by rw[ext_none,app_none,hval];simp only[ByteArray.append_assoc]⟩⟩,HI4,HBd⟩,by simp[intOf];omega⟩
   ·have hasi:(a:Int)<(s.size:Int):=by omega
    rw[rune_lt 92 (by decide) (by decide) h92]at HRa
    have g1:(c0:Int)≤(a:Int):=by omega
    have g2:(a:Int)≤(cap:Int):=by omega
    have g3:¬cap=c0:=by omega
    have HRb:=aK (fun wx (hB:Below (w.heap.size+1) W0 wx)=>rune_any sb bb (a+1) cap s wx (HT.out.below (HB0.out.trans (hB.mono (by omega)))) (by omega))
    rw[rune_lt 117 (by decide) (by decide) h117]at HRb
    have hleni:¬(s.size:Int)≤(a:Int)+1+4:=by omega
    have hor:ored (hx (bt s (a+2:Nat))) (hx (bt s (a+3:Nat))) (hx (bt s (a+4:Nat))) (hx (bt s (a+5:Nat)))=uniV s a:=by
     have h:=ored_hex s a;rw[if_pos hhex]at h;exact h
    have huv2:uniV s a≤65535:=by
     have:=hx_range (bt s (a+2:Nat));have:=hx_range (bt s (a+3:Nat));have:=hx_range (bt s (a+4:Nat));have:=hx_range (bt s (a+5:Nat));unfold uniV;rw[←hx_hexV,←hx_hexV,←hx_hexV,←hx_hexV];omega
    have HU:=aK (fun wx=>uniCharCode_any (bt s (a+2:Nat)) (bt s (a+3:Nat)) (bt s (a+4:Nat)) (bt s (a+5:Nat)) wx (bt_byte _ _) (bt_byte _ _) (bt_byte _ _) (bt_byte _ _));rw[hor]at HU;clear hor h1 h92 h117 hhex hsur;generalize uniV s a=r at *;have HC4:=aK (fun wx (hB:Below (w.heap.size+1) W0 wx)=>And.intro ((HT.out.below (HB0.out.trans (hB.mono (by omega)))).body (a+2) (by omega)) (And.intro ((HT.out.below (HB0.out.trans (hB.mono (by omega)))).body (a+3) (by omega)) (And.intro ((HT.out.below (HB0.out.trans (hB.mono (by omega)))).body (a+4) (by omega)) ((HT.out.below (HB0.out.trans (hB.mono (by omega)))).body (a+5) (by omega)))))
    have b2:=bt_byte s (a+2);have b3:=bt_byte s (a+3);have b4:=bt_byte s (a+4);have b5:=bt_byte s (a+5);generalize bt s (a+2:Nat)=d2 at *;generalize bt s (a+3:Nat)=d3 at *;generalize bt s (a+4:Nat)=d4 at *;generalize bt s (a+5:Nat)=d5 at *
    go_wp2_with fail
    refine HRa.out.mono ?_;rintro e wa ⟨rfl,hba⟩;have HBa:=aK (HB.out.trans (hba.mono (by omega)))
    have hwa:=hba.size
    go_wp2_with fail
    refine(Tryz.Buffer_Write (w.heap.size+1) (w.heap.size+1) (Lib.byteCells X.data.toList) (Lib.byteCells (s.extract c0 a).data.toList) ⟨bb,c0,none⟩ (a-c0) (cap-c0) _ (HI.out.old hba) (by omega) (Lib.byteCells_one _) (by rw[Lib.byteCells_length];exact ext_len (by omega)) (by show bb≠_;omega) (body_cells (HTr.out.below hba).body (by omega)) (Lib.byteCells_one _) (by rw[Lib.byteCells_length,←Lib.size_eq];omega)).mono ?_
    rintro e wb ⟨rfl,hI3,hbb,-⟩;rw[cells_app]at hI3;have HI3:=aK hI3;have HBb:=aK (HBa.out.trans hbb);have hwb:=hbb.size;clear hI3 hbb
    go_wp2_with fail
    refine(HRb.out _ HBb.out).mono ?_;rintro e wc ⟨rfl,hbc⟩;have HBc:=aK (HBb.out.trans (hbc.mono (by omega)))
    have hwc:=hbc.size;obtain⟨q2,q3,q4,q5⟩:=HC4.out _ HBc.out
    go_wp2_with fail
    go_quiet ((go_at_call 73;refine(HU.out _).mono ?_;rintro e wd ⟨rfl,rfl⟩;exact⟨rfl,_,rfl⟩))
    go_wp2_with fail
    refine(Tryz.Buffer_WriteRune (w.heap.size+1) (w.heap.size+1) _ _ (by omega) (by omega) _ ((HI3.out.old hbc).drewN _) (show w.heap.size+1≤wc.heap.size by omega) (Lib.byteCells_one _) (by rw[Lib.byteCells_length,←Lib.size_eq,ByteArray.size_append,ByteArray.size_extract];omega)).mono ?_
    rintro e wd ⟨rfl,hI4,hbd,-⟩;rw[cells_enc]at hI4;have HI4:=aK hI4;have HBd:=aK ((pw_below_drewN HBc.out _).trans hbd);clear hI4 hbd
    go_wp2_with fail
    exact⟨⟨a+6,rp+6,a+6,117,1,_,by go_num,by go_num,by go_num,rfl,rfl,by omega,by omega,by omega,by omega,by rw[ByteArray.size_append,ByteArray.size_append,ByteArray.size_extract];have:=enc_size r;omega,⟨⟨y1,HBI1.out,by rw[ext_none,app_none,hval];simp only[ByteArray.append_assoc]⟩⟩,HI4,HBd⟩,by simp[intOf];omega⟩
end Go.Proofs.YtjolkdnfbmkjiaaGreatDoor.Lx
