import Derived.Test.YtjolkdnfbmkjiaaGreatDoorVC3
set_option maxRecDepth 100000
set_option maxHeartbeats 8000000
set_option linter.unusedVariables false
set_option linter.unusedSimpArgs false
namespace Go.Proofs.YtjolkdnfbmkjiaaGreatDoor.Lex
open Go.RowKit Mem Rel NameP LinesP Go.Proofs.YtjolkdnfbmkjiaaGreatDoorW.PrintWords Go.Proofs.YtjolkdnfbmkjiaaGreatDoorW.PrintLast
theorem bits_snoc {s:ByteArray} {a b c:Nat} {x y:ByteArray} (h:Bits s a b x) (h2:Bit s b c y):Bits s a c (x++y):=by
 induction h with
 | nil a=>
  have e:(⟨#[]⟩:ByteArray)++y=y++(⟨#[]⟩:ByteArray):=by apply ByteArray.ext;simp
  rw[e];exact .cons h2 (.nil _)
 | cons g1 g2 ih=>rw[ByteArray.append_assoc];exact .cons g1 (ih h2)
theorem bad_low2 {s:ByteArray} {a:Nat} {c n:Int} (ha:a<s.size) (hr:runeOf s a=(c,n)) (h:¬srcOk c):a<s.size∧(bt s a<32∧bt s a≠9):=by
 rcases bad_low ha hr h with h1|⟨_,h2,h3,_,_⟩
 ·omega
 ·exact⟨ha,h2,h3⟩
theorem chr_ok {s:ByteArray} {a:Nat} {c n:Int} (ha:a<s.size) (hr:runeOf s a=(c,n)) (h1:bt s a≠34) (h2:bt s a≠92) (h3:bt s a≠10) (h4:bt s a≠13) (h:srcOk c):c≠34∧c≠92∧(c=9∨32≤c):=by
 unfold srcOk at h
 by_cases hb:bt s a<128
 ·rw[rune_small ha hb]at hr
  have:=(Prod.mk.inj hr).1;omega
 ·have h5:=(rune_big ha hb).1
  rw[hr]at h5;simp only at h5;omega
theorem text_any (b base p0:Nat) (s:ByteArray) (v:Value) (uns0:Bool) (l:List Mod.Tok) (w:World) (hL:LexAt w b s p0 v false uns0) (hR:RowAt w base v (l.map cv)) (hbase:base≤w.heap.size) (hB:base≤b) (hs:s.size≤200000) (hp0:p0<s.size) (hll:l.length≤p0) (hq0:bt s p0=34) (hq3:¬three s p0) :
  Calls Tryz.prog 106 #[.pointer (some ⟨b,0,none⟩)] w fun e w'=>e = .returned (.tuple #[])∧TokEnd w base b s p0 uns0 l w':=by
 have HQ0:=aK (show bt s p0=34∧¬three s p0 from⟨hq0,hq3⟩)
 clear hq0 hq3;have c0:=hL.c0;have c1:=hL.c1;go_enter Tryz.func106,Tryz.ntmps106
 go_wp2_with fail
 go_loopw [2,3] (fun r a wr=>∃(out:ByteArray) (p:Nat) (uns:Bool),r = .string out∧a = .int .i64 p∧p0+1≤p∧p≤s.size∧out.size≤4*p∧LexAt wr b s p0 v false uns∧Aside0 (RowAt wr base v (l.map cv))∧Aside0 (Below base w wr)∧Aside0 (uns=false→uns0=false∧Bits s (p0+1) p out)) (fun _ a _=>s.size-(intOf a).toNat)
 case atStart=>exact⟨_,p0+1,uns0,rfl,by go_num,by omega,by omega,by show(0:Nat)≤_;omega,hL,⟨hR⟩,⟨Below.refl _ _⟩,⟨fun h=>⟨h,.nil _⟩⟩⟩
 case round=>
  clear hL hR;obtain⟨out,p,uns,rfl,rfl,hp3,hps,hraw,hL,HR,HB,HP⟩:=hrel;clear c0 c1;have hne:v.ownBlock≠some b:=own_blk_ne HR.out hL (by decide)
  have c0:=hL.c0;have c1:=hL.c1;have c3:=hL.c3;have c4:=hL.c4;have hf4:=Blk.frozen hL 4;have hbt:∀h:p<s.size,((s[p]'h).toNat:Int)=bt s p:=fun h=>by simp[bt,h]
  by_cases hlt:p<s.size
  ·have hlti:(p:Int)<(s.size:Int):=by omega
   by_cases h34:bt s p=34
   ·have HE:Aside0 (∀w3 v',LexAt w3 b s (p+1:Nat) v' false uns→w3.ownsRow base 56 4 v' ((l.map cv).length+1) (toks (l.map cv++[⟨18,out,p0,(p+1:Nat)⟩]))→Below base wr w3→TokEnd w base b s p0 uns0 l w3):=⟨fun w3 v' h1 h2 h3=>end_add ⟨18,p0,p+1,out⟩ h1 h2 (HB.out.trans h3) (by show p0<p+1;omega) (by show p+1≤_;omega) hll (fun hu=>⟨(HP.out hu).1,.str HQ0.out.1 HQ0.out.2 (HP.out hu).2 h34⟩)⟩
    have h34b:(bt s p==34)=true:=by rw[h34];rfl
    have HAD:=aK (fun W (h1:LexAt W b s p0 v false uns) (h2:RowAt W base v (l.map cv)) (h3:base≤W.heap.size)=>add_any b base 18 ((p:Int)+1) out s p0 v false uns (l.map cv) W h1 h2 h3 hB (by rw[List.length_map];omega))
    clear h34 HP
    go_wp2_with fail
    refine(HAD.out wr hL HR.out (by have:=HB.out.size;omega)).mono ?_
    rintro e w3 ⟨rfl,v',h1,h2,h3⟩;have HEE:=aK (HE.out w3 v' (by rw[show((p+1:Nat):Int)=(p:Int)+1 by omega];exact h1) (by rw[show((p+1:Nat):Int)=(p:Int)+1 by omega];exact h2) h3)
    clear h1 h2 h3
    go_wp2_with fail
    first|go_end0|refine bodyPost_ret (v:=.tuple #[]) (by simp[results,Tryz.results106,go_sem]) rfl ?_
    exact⟨rfl,HEE.out⟩
   ·have h34b:(bt s p==34)=false:=beq_eq_false_iff_ne.2 h34
    by_cases hnl:bt s p=10∨bt s p=13
    ·have HF:=aK (fail_any b s p0 v false uns wr hL)
     have HE:Aside0 (TokEnd w base b s p0 uns0 l (wr.setCell ⟨b,3,none⟩ (.bool true))):=⟨end_bad (LexAt.set3 hL true) (RowAt.setb hne HR.out) (below_setb HB.out hB) (by omega) hll (fun hu=>⟨(HP.out hu).1,.str HQ0.out.1 HQ0.out.2 (HP.out hu).2 (.inr (.inl ⟨hlt,by omega,by omega⟩))⟩)⟩
     have hnb:(bt s p==10)=true∨((bt s p==10)=false∧(bt s p==13)=true):=by
      rcases hnl with h|h
      ·exact .inl (by rw[h];rfl)
      ·exact .inr ⟨by rw[h];rfl,by rw[h];rfl⟩
     clear hnl h34 HP;rcases hnb with hnb|⟨hnb,hnc⟩
     all_goals
      go_wp2_with fail
      refine HF.out.mono ?_;rintro e w' ⟨rfl,rfl⟩
      go_wp2_with fail
      first|go_end0|refine bodyPost_ret (v:=.tuple #[]) (by simp[results,Tryz.results106,go_sem]) rfl ?_
      exact⟨rfl,HE.out⟩
    ·have hn10:(bt s p==10)=false:=beq_eq_false_iff_ne.2 fun h=>hnl (.inl h)
     have hn13:(bt s p==13)=false:=beq_eq_false_iff_ne.2 fun h=>hnl (.inr h)
     by_cases h92:bt s p=92
     ·have h92b:(bt s p==92)=true:=by rw[h92];rfl
      have HX:=aK (escape_any b base p0 p s v uns l wr hL HR.out (by have:=HB.out.size;omega) hB hs hlt h92)
      clear h34 hnl h92
      go_wp2_with fail
      refine HX.out.mono ?_;rintro e w2 ⟨u2,hL2,hR2,hB2,(⟨rfl,hbad⟩|⟨m,x,rfl,hm1,hms,hx4,hok⟩)⟩
      ·have HF:=aK (fail_any b s p0 v false u2 w2 hL2)
       have HE:Aside0 (TokEnd w base b s p0 uns0 l (w2.setCell ⟨b,3,none⟩ (.bool true))):=⟨end_bad (LexAt.set3 hL2 true) (RowAt.setb hne hR2) (below_setb (HB.out.trans hB2) hB) (by omega) hll (fun hu=>⟨(HP.out (hbad hu).1).1,.str HQ0.out.1 HQ0.out.2 (HP.out (hbad hu).1).2 (hbad hu).2⟩)⟩
       clear hbad hL2 hR2 hB2
       go_wp2_with fail
       refine HF.out.mono ?_;rintro e w' ⟨rfl,rfl⟩
       go_wp2_with fail
       first|go_end0|refine bodyPost_ret (v:=.tuple #[]) (by simp[results,Tryz.results106,go_sem]) rfl ?_
       exact⟨rfl,HE.out⟩
      ·have HR2:=aK hR2
       have HB2:=aK (HB.out.trans hB2);have HOK:Aside0 (u2=false→uns0=false∧Bits s (p0+1) (p+m) (out++x)):=⟨fun hu=>⟨(HP.out (hok hu).1).1,bits_snoc (HP.out (hok hu).1).2 (hok hu).2⟩⟩;have hm0:((m:Int)==0)=false:=beq_eq_false_iff_ne.2 (by omega)
       clear hok hR2 hB2 HP
       go_wp2_with fail
       exact⟨⟨_,p+m,u2,rfl,by go_num,by omega,by omega,by rw[ByteArray.size_append];omega,hL2,HR2,HB2,HOK⟩,by simp[intOf];omega⟩
     ·have h92b:(bt s p==92)=false:=beq_eq_false_iff_ne.2 h92
      obtain⟨c,n,hpt,hpn⟩:=point_same s hs p hlt;have HPt:=aK hpt;have HNN:=aK (show bt s p≠34∧bt s p≠92∧bt s p≠10∧bt s p≠13 from⟨h34,h92,fun h=>hnl (.inl h),fun h=>hnl (.inr h)⟩)
      clear hpt h34 hnl h92
      go_wp2_with fail
      refine(PFnTokensGaps.spec_Point.calls 12 s p c n _ HPt.out).mono ?_;rintro e w1 ⟨rfl,⟨nd,rfl⟩⟩
      go_wp2_with fail
      refine(source_calls c _).mono ?_;rintro e w1 ⟨rfl,⟨nd2,rfl⟩⟩;rcases hpn with hn0|⟨hr,hn1,hn4,hnle⟩
      ·subst hn0
       cases uns
       all_goals
        go_wp2_with fail
        have hL1:LexAt ((wr.drewN (nd+nd2)).setCell ⟨b,4,none⟩ (.bool true)) b s p0 v false true:=Blk.set_ (LexAt.drewN hL _) 4 _;refine(fail_any b s p0 v false true _ hL1).mono ?_;rintro e w2 ⟨rfl,rfl⟩;have HE:Aside0 (TokEnd w base b s p0 uns0 l (((wr.drewN (nd+nd2)).setCell ⟨b,4,none⟩ (.bool true)).setCell ⟨b,3,none⟩ (.bool true))):=⟨end_bad (Blk.set_ hL1 3 _) (RowAt.setb hne (RowAt.setb (i:=4) (u:=.bool true) hne (HR.out.drewN (nd+nd2)))) (below_setb (below_setb (pw_below_drewN HB.out (nd+nd2)) hB) hB) (by omega) hll (fun h=>by cases h)⟩
        go_wp2_with fail
        first|go_end0|refine bodyPost_ret (v:=.tuple #[]) (by simp[results,Tryz.results106,go_sem]) rfl ?_
        exact⟨rfl,HE.out⟩
      ·obtain⟨m,rfl⟩:∃m:Nat,n=m:=⟨n.toNat,by omega⟩
       have hm0:((m:Int)==0)=false:=beq_eq_false_iff_ne.2 (by omega)
       have HRU:=aK hr;clear hr;cases hsr:srcB c with
       | false=>
        have HNO:=aK (show ¬srcOk c from fun h=>by rw[←srcB_ok,hsr]at h;cases h)
        cases uns with
        | false=>
         have HPP:=aK (HP.out rfl)
         go_wp2_with fail
         have hL1:LexAt ((wr.drewN (nd+nd2)).setCell ⟨b,4,none⟩ (.bool false)) b s p0 v false false:=Blk.set_ (LexAt.drewN hL _) 4 _;refine(fail_any b s p0 v false false _ hL1).mono ?_;rintro e w2 ⟨rfl,rfl⟩;have HE:Aside0 (TokEnd w base b s p0 uns0 l (((wr.drewN (nd+nd2)).setCell ⟨b,4,none⟩ (.bool false)).setCell ⟨b,3,none⟩ (.bool true))):=⟨end_bad (Blk.set_ hL1 3 _) (RowAt.setb hne (RowAt.setb (i:=4) (u:=.bool false) hne (HR.out.drewN (nd+nd2)))) (below_setb (below_setb (pw_below_drewN HB.out (nd+nd2)) hB) hB) (by omega) hll (fun _=>⟨HPP.out.1,.str HQ0.out.1 HQ0.out.2 HPP.out.2 (.inr (.inl (bad_low2 hlt HRU.out HNO.out)))⟩)⟩
         go_wp2_with fail
         first|go_end0|refine bodyPost_ret (v:=.tuple #[]) (by simp[results,Tryz.results106,go_sem]) rfl ?_
         exact⟨rfl,HE.out⟩
        | true=>
         go_wp2_with fail
         have hL1:LexAt ((wr.drewN (nd+nd2)).setCell ⟨b,4,none⟩ (.bool true)) b s p0 v false true:=Blk.set_ (LexAt.drewN hL _) 4 _;refine(fail_any b s p0 v false true _ hL1).mono ?_;rintro e w2 ⟨rfl,rfl⟩;have HE:Aside0 (TokEnd w base b s p0 uns0 l (((wr.drewN (nd+nd2)).setCell ⟨b,4,none⟩ (.bool true)).setCell ⟨b,3,none⟩ (.bool true))):=⟨end_bad (Blk.set_ hL1 3 _) (RowAt.setb hne (RowAt.setb (i:=4) (u:=.bool true) hne (HR.out.drewN (nd+nd2)))) (below_setb (below_setb (pw_below_drewN HB.out (nd+nd2)) hB) hB) (by omega) hll (fun h=>by cases h)⟩
         go_wp2_with fail
         first|go_end0|refine bodyPost_ret (v:=.tuple #[]) (by simp[results,Tryz.results106,go_sem]) rfl ?_
         exact⟨rfl,HE.out⟩
       | true=>
        have HOK:=aK (chr_ok hlt HRU.out HNN.out.1 HNN.out.2.1 HNN.out.2.2.1 HNN.out.2.2.2 (srcB_ok.1 hsr));cases uns with
        | false=>
         have HPP:=aK (HP.out rfl)
         go_wp2_with fail
         have hL1:LexAt ((wr.drewN (nd+nd2)).setCell ⟨b,4,none⟩ (.bool (!decide (c≤65535)))) b s p0 v false (!decide (c≤65535)):=Blk.set_ (LexAt.drewN hL _) 4 _;have HR1:=aK (RowAt.setb (i:=4) (u:=.bool (!decide (c≤65535))) hne (HR.out.drewN (nd+nd2)));have hB1:Below base w ((wr.drewN (nd+nd2)).setCell ⟨b,4,none⟩ (.bool (!decide (c≤65535)))):=below_setb (pw_below_drewN HB.out (nd+nd2)) hB;exact⟨⟨_,p+m,(!decide (c≤65535)),rfl,by go_num,by omega,by omega,by rw[ByteArray.size_append,ByteArray.size_extract];omega,hL1,HR1,⟨hB1⟩,⟨fun _=>⟨HPP.out.1,bits_snoc HPP.out.2 (.chr c m hlt HRU.out (by omega) (by omega) (by omega) HOK.out.1 HOK.out.2.1 HOK.out.2.2)⟩⟩⟩,by simp[intOf];omega⟩
        | true=>
         go_wp2_with fail
         have hL1:LexAt ((wr.drewN (nd+nd2)).setCell ⟨b,4,none⟩ (.bool true)) b s p0 v false true:=Blk.set_ (LexAt.drewN hL _) 4 _;have HR1:=aK (RowAt.setb (i:=4) (u:=.bool true) hne (HR.out.drewN (nd+nd2)));have hB1:Below base w ((wr.drewN (nd+nd2)).setCell ⟨b,4,none⟩ (.bool true)):=below_setb (pw_below_drewN HB.out (nd+nd2)) hB;exact⟨⟨_,p+m,true,rfl,by go_num,by omega,by omega,by rw[ByteArray.size_append,ByteArray.size_extract];omega,hL1,HR1,⟨hB1⟩,⟨fun hu=>by cases hu⟩⟩,by simp[intOf];omega⟩
  ·have hlti:(s.size:Int)≤(p:Int):=by omega
   have HF:=aK (fail_any b s p0 v false uns wr hL);have HE:Aside0 (TokEnd w base b s p0 uns0 l (wr.setCell ⟨b,3,none⟩ (.bool true))):=⟨end_bad (LexAt.set3 hL true) (RowAt.setb hne HR.out) (below_setb HB.out hB) (by omega) hll (fun hu=>⟨(HP.out hu).1,.str HQ0.out.1 HQ0.out.2 (HP.out hu).2 (.inl (by omega))⟩)⟩
   go_wp2_with fail
   refine HF.out.mono ?_;rintro e w' ⟨rfl,rfl⟩
   go_wp2_with fail
   first|go_end0|refine bodyPost_ret (v:=.tuple #[]) (by simp[results,Tryz.results106,go_sem]) rfl ?_
   exact⟨rfl,HE.out⟩
end Go.Proofs.YtjolkdnfbmkjiaaGreatDoor.Lex
namespace Go.Proofs.YtjolkdnfbmkjiaaGreatDoor.Lex
open Go.RowKit Mem Rel NameP Go.Proofs.YtjolkdnfbmkjiaaGreatDoorW.PrintWords Go.Proofs.YtjolkdnfbmkjiaaGreatDoorW.PrintLast
theorem num_val {s:ByteArray} {p:Nat} {t:Mod.Tok} (h:Mod.mNum s p=some t):t.start=p∧t.value=s.extract p t.stop∧(t.kind=16∨t.kind=17):=by
 unfold Mod.mNum at h;obtain⟨p1,e1,h⟩:=Option.bind_eq_some_iff.1 h;obtain⟨x,e2,h⟩:=Option.bind_eq_some_iff.1 h;obtain⟨y,e3,rfl⟩:=Option.map_eq_some_iff.1 h;refine⟨rfl,rfl,?_⟩;simp only;split
 ·exact .inr rfl
 ·exact .inl rfl
theorem number_any (b base p:Nat) (s:ByteArray) (v:Value) (uns:Bool) (l:List Mod.Tok) (w:World) (hL:LexAt w b s p v false uns) (hR:RowAt w base v (l.map cv)) (hbase:base≤w.heap.size) (hB:base≤b) (hs:s.size≤200000) (hp:p<s.size) (hll:l.length≤p) (hd:bt s p=45∨Mod.isDig (bt s p)=true) :
  Calls Tryz.prog 104 #[.pointer (some ⟨b,0,none⟩)] w fun e w'=>e = .returned (.tuple #[])∧TokEnd w base b s p uns l w':=by
 have c0:=hL.c0;have c1:=hL.c1;have c3:=hL.c3;have c4:=hL.c4;have hf1:=Blk.frozen hL 1;have hf3:=Blk.frozen hL 3;have hf4:=Blk.frozen hL 4;have hne:v.ownBlock≠some b:=own_blk_ne hR hL (by decide)
 have hp1:(p:Int)<(s.size:Int):=by omega
 have hbt:=bt_nat s p;have HR:=aK hR;clear hR;have HD:=aK hd;clear hd;have HNU:=aK (fun W (h0:W.cell? ⟨b,0,none⟩=some (.string s))=>numeral_any b s p W (by omega) hp h0)
 have hsn:=num_same s p;rw[hsn]at HNU;cases hm:Mod.mNum s p with
 | none=>
  rw[hm]at HNU;have HE:Aside0 (∀W x,LexAt W b s x v true uns→x=(p:Int)→RowAt W base v (l.map cv)→Below base w W→TokEnd w base b s p uns l W):=⟨fun W x h1 hx h2 h3=>by subst hx;exact end_bad h1 h2 h3 (by omega) hll (fun hu=>⟨hu,.num HD.out hm⟩)⟩
  simp only[Option.map_none,ansN]at HNU;clear hm hsn;go_enter Tryz.func104,Tryz.ntmps104
  go_wp2_with fail
  refine(HNU.out _ (by exact c0)).mono ?_
  rintro e w' ⟨rfl,rfl⟩
  go_wp2_with (go_at_call 107;refine(fail_any b s p v false uns _ hL).mono ?_;rintro e w' ⟨rfl,rfl⟩)
  first|go_end0|refine bodyPost_ret (v:=.tuple #[]) (by simp[results,Tryz.results90,go_sem]) rfl ?_
  exact⟨rfl,HE.out _ _ vL (by first|rfl|omega) vS (by repeat (first|exact Below.refl _ _|apply pw_below_drewN|apply below_drew_|refine below_setb ?_ hB))⟩
 | some t=>
  obtain⟨hst,hva,hki⟩:=num_val hm;obtain⟨_,hps,hts⟩:=num_place HD.out hm;rw[hm]at HNU;simp only[Option.map_some,ansN]at HNU;have HM:=aK hm;have hk0:(t.kind==0)=false:=beq_eq_false_iff_ne.2 (by omega)
  obtain⟨c,hc⟩:∃c,bt s (t.stop:Nat)=c:=⟨_,rfl⟩;have HNX:=aK (fun W (h0:W.cell? ⟨b,0,none⟩=some (.string s))=>next_any b s t.stop W (by omega) h0)
  rw[hc]at HNX;have HEB:Aside0 (∀W x,LexAt W b s x v true true→x=(p:Int)→RowAt W base v (l.map cv)→Below base w W→TokEnd w base b s p uns l W):=⟨fun W x h1 hx h2 h3=>by subst hx;exact end_bad h1 h2 h3 (by omega) hll (fun hu=>by cases hu)⟩
  have HEG:Aside0 (∀W v',LexAt W b s t.stop v' false uns→W.ownsRow base 56 4 v' ((l.map cv).length+1) (toks (l.map cv++[⟨t.kind,s.extract p t.stop,p,t.stop⟩]))→Below base w W→TokEnd w base b s p uns l W):=⟨fun W v' h1 h2 h3=>end_add t h1 (by rw[hst,hva];exact h2) h3 hps hts hll (fun hu=>⟨hu,.num HD.out HM.out⟩)⟩
  clear hm hsn hc hst hva hki;generalize t.kind=k at *;generalize t.stop=q at *;have i0:(0:Int)≤(p:Int):=by omega
  have i1:(p:Int)≤(q:Int):=by omega
  have i2:(q:Int)≤(s.size:Int):=by omega
  by_cases h46:c=46
  ·have hb:(c==46)=true:=by rw[h46];rfl
   clear h46;go_enter Tryz.func104,Tryz.ntmps104
   go_wp2_with fail
   refine(HNU.out _ (by exact c0)).mono ?_
   rintro e w' ⟨rfl,rfl⟩
   go_wp2_with (first|(go_at_call 103;refine(HNX.out _ (by exact c0)).mono ?_;rintro e w' ⟨rfl,rfl⟩)|(go_at_call 107;refine(fail_any b s p v false true _ vL).mono ?_;rintro e w' ⟨rfl,rfl⟩))
   first|go_end0|refine bodyPost_ret (v:=.tuple #[]) (by simp[results,Tryz.results90,go_sem]) rfl ?_
   exact⟨rfl,HEB.out _ _ vL (by first|rfl|omega) vS (by repeat (first|exact Below.refl _ _|apply pw_below_drewN|apply below_drew_|refine below_setb ?_ hB))⟩
  ·have hb:(c==46)=false:=beq_eq_false_iff_ne.2 h46
   clear h46;cases hbg:isBeginB c with
   | true=>
    have HBG:=aK hbg;clear hbg;go_enter Tryz.func104,Tryz.ntmps104
    go_wp2_with fail
    refine(HNU.out _ (by exact c0)).mono ?_
    rintro e w' ⟨rfl,rfl⟩
    go_wp2_with (first|(go_at_call 103;refine(HNX.out _ (by exact c0)).mono ?_;rintro e w' ⟨rfl,rfl⟩)|(go_at_call 32;refine(isBegin_yes c _ HBG.out).mono ?_;rintro e w' ⟨rfl,rfl⟩)|(go_at_call 107;refine(fail_any b s p v false true _ vL).mono ?_;rintro e w' ⟨rfl,rfl⟩))
    first|go_end0|refine bodyPost_ret (v:=.tuple #[]) (by simp[results,Tryz.results90,go_sem]) rfl ?_
    exact⟨rfl,HEB.out _ _ vL (by first|rfl|omega) vS (by repeat (first|exact Below.refl _ _|apply pw_below_drewN|apply below_drew_|refine below_setb ?_ hB))⟩
   | false=>
    have HBG:=aK hbg;clear hbg;go_enter Tryz.func104,Tryz.ntmps104
    go_wp2_with fail
    refine(HNU.out _ (by exact c0)).mono ?_
    rintro e w' ⟨rfl,rfl⟩
    go_wp2_with (first|(go_at_call 103;refine(HNX.out _ (by exact c0)).mono ?_;rintro e w' ⟨rfl,rfl⟩)|(go_at_call 32;refine(isBegin_no c _ HBG.out).mono ?_;rintro e w' ⟨rfl,rfl⟩))
    go_region_with ((go_at_call 101;refine(add_any b base k q (s.extract p q) s p v false uns (l.map cv) _ (by exact hL) (by exact HR.out) (by exact hbase) hB (by rw[List.length_map];omega)).mono ?_;rintro e w' ⟨rfl,v',hL',hown',hbel'⟩))
    all_goals
     have HEE:=aK (HEG.out _ v' hL' hown' ⟨hbel'.os,hbel'.tape,hbel'.output,hbel'.size,hbel'.block⟩);clear hL' hown' hbel'
     go_wp2_with fail
     first|go_end0|refine bodyPost_ret (v:=.tuple #[]) (by simp[results,Tryz.results90,go_sem]) rfl ?_
     exact⟨rfl,HEE.out⟩
end Go.Proofs.YtjolkdnfbmkjiaaGreatDoor.Lex
