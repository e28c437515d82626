import Derived.Test.YtjolkdnfbmkjiaaGreatDoorVC1
import Derived.Test.YtjolkdnfbmkjiaaGreatDoorVC2
import Derived.Test.YtjolkdnfbmkjiaaGreatDoorVA1
import Derived.Test.YtjolkdnfbmkjiaaGreatDoorVA3
import Derived.Laws.Cover4
import Derived.Lib.RuneBytes
set_option maxRecDepth 100000
set_option maxHeartbeats 8000000
set_option linter.unusedVariables false
set_option linter.unusedSimpArgs false
namespace Go.Proofs.YtjolkdnfbmkjiaaGreatDoor.Lex
open Go.RowKit Mem Rel NameP LinesP Go.Proofs.YtjolkdnfbmkjiaaGreatDoorW.PrintWords Go.Proofs.YtjolkdnfbmkjiaaGreatDoorW.PrintLast
def cv (t:Mod.Tok):Tok:=⟨t.kind,t.value,t.start,t.stop⟩
def IsLines (s:ByteArray) (l:List ByteArray):Prop:=LinesOf s l∧∀k,2*s.size+2<k→PFnTokensGaps.spec_Lines.f k s=some l∧PFnTokensGaps.spec_Lines.f k s=some l∧PzzLines.lexer_zzLines.f k s=some l
def blkV (raw v:ByteArray):Prop:=∃l,IsLines raw l∧plainL l=true∧v=valueL l
def TokEnd (w:World) (base b:Nat) (s:ByteArray) (p:Nat) (uns:Bool) (l:List Mod.Tok) (w':World):Prop:=
 ∃(a:Nat) (v':Value) (bad' uns':Bool) (l':List Mod.Tok),LexAt w' b s a v' bad' uns'∧RowAt w' base v' (l'.map cv)∧Below base w w'∧a≤s.size∧l'.length≤a∧(bad'=false→p<a)∧
  (uns'=false→uns=false∧((bad'=false∧l'=l∧Skip s p a)∨(bad'=false∧∃t,TokAt blkV s p t∧l'=l++[t]∧a=t.stop)∨(bad'=true∧l'=l∧BadAt s p)))
theorem row_snoc {w:World} {base:Nat} {v:Value} {l:List Mod.Tok} {t:Mod.Tok} (h:w.ownsRow base 56 4 v ((l.map cv).length+1) (toks (l.map cv++[⟨t.kind,t.value,t.start,t.stop⟩]))):RowAt w base v ((l++[t]).map cv):=by
 unfold RowAt;rw[List.map_append,List.length_append];exact h
theorem end_add {w w':World} {base b p:Nat} {s:ByteArray} {uns uns':Bool} {l:List Mod.Tok} {v':Value} (t:Mod.Tok) (hL:LexAt w' b s t.stop v' false uns') (hR:w'.ownsRow base 56 4 v' ((l.map cv).length+1) (toks (l.map cv++[⟨t.kind,t.value,t.start,t.stop⟩]))) (hB:Below base w w')
  (hp:p<t.stop) (hs:t.stop≤s.size) (hl:l.length≤p) (h:uns'=false→uns=false∧TokAt blkV s p t):TokEnd w base b s p uns l w':=
 ⟨t.stop,v',false,uns',l++[t],hL,row_snoc hR,hB,hs,by rw[List.length_append];show l.length+1≤_;omega,fun _=>hp,fun hu=>⟨(h hu).1,.inr (.inl ⟨rfl,t,(h hu).2,rfl,rfl⟩)⟩⟩
theorem end_bad {w w':World} {base b p:Nat} {s:ByteArray} {uns uns':Bool} {l:List Mod.Tok} {v:Value} (hL:LexAt w' b s p v true uns') (hR:RowAt w' base v (l.map cv)) (hB:Below base w w') (hp:p≤s.size) (hl:l.length≤p) (h:uns'=false→uns=false∧BadAt s p):TokEnd w base b s p uns l w':=
 ⟨p,v,true,uns',l,hL,hR,hB,hp,hl,fun h=>(by cases h),fun hu=>⟨(h hu).1,.inr (.inr ⟨rfl,rfl,(h hu).2⟩)⟩⟩
def esc:ByteArray:=⟨#[92,34,34,34]⟩
theorem bt_in (s:ByteArray) (a b j:Nat) (hj:j<(s.extract a b).size):bt (s.extract a b) j=bt s (a+j:Nat):=by
 have h:=hj;rw[ByteArray.size_extract]at h;have:=ByteArray.getElem_extract (b:=s) (start:=a) (stop:=b) (i:=j) hj;rw[←bt_nat _ _ hj,←bt_nat s (a+j) (by omega),this]
theorem starts_le {s t:ByteArray} {p:Nat} (h:startsB s p t=true):p+t.size≤s.size:=by
 unfold startsB at h;rw[Bool.and_eq_true]at h;exact of_decide_eq_true h.1
theorem starts_of {s t:ByteArray} {p:Nat} (h:p+t.size≤s.size) (hb:∀j:Nat,j<t.size→bt s (p+j:Nat)=bt t j):startsB s p t=true:=by
 have hsz:(s.extract p (p+t.size)).size=t.size:=by rw[ByteArray.size_extract];omega
 have e:s.extract p (p+t.size)=t:=by
  apply ByteArray.ext_getElem hsz;intro i h1 h2;have h3:=hb i h2;rw[←bt_in s p (p+t.size) i h1,←bt_nat _ _ h1,←bt_nat _ _ h2]at h3;exact UInt8.toNat_inj.1 (by omega)
 unfold startsB;rw[decide_eq_true h,e];simp
theorem starts_bt {s t:ByteArray} {p:Nat} (h:startsB s p t=true) (j:Nat) (hj:j<t.size):bt s (p+j:Nat)=bt t j:=by
 unfold startsB at h;rw[Bool.and_eq_true]at h;have e:s.extract p (p+t.size)=t:=toList_inj (by simpa using h.2)
 rw[←bt_in s p (p+t.size) j (by rw[e];exact hj),e]
theorem three_starts {s:ByteArray} {p:Nat}:three s p↔startsB s p quotes=true:=by
 constructor
 ·rintro⟨a0,a1,a2⟩
  have h3:p+2<s.size:=in_of (by rw[a2];decide)
  refine starts_of (by show p+3≤_;omega) fun j hj=>?_
  have hj:j<3:=hj;have hc:j=0∨j=1∨j=2:=by omega
  rcases hc with rfl|rfl|rfl
  ·rw[Nat.add_zero,a0];decide +kernel
  ·rw[a1];decide +kernel
  ·rw[a2];decide +kernel
 ·intro h
  exact⟨(starts_bt h 0 (by decide)).trans (by decide +kernel),(starts_bt h 1 (by decide)).trans (by decide +kernel),(starts_bt h 2 (by decide)).trans (by decide +kernel)⟩
theorem esc_starts {s:ByteArray} {p:Nat}:escq s p↔startsB s p esc=true:=by
 constructor
 ·rintro⟨a0,a1,a2,a3⟩
  have h3:p+1+2<s.size:=in_of (by rw[a3];decide)
  refine starts_of (by show p+4≤_;omega) fun j hj=>?_
  have hj:j<4:=hj;have hc:j=0∨j=1∨j=2∨j=3:=by omega
  rcases hc with rfl|rfl|rfl|rfl
  ·rw[Nat.add_zero,a0];decide +kernel
  ·rw[a1];decide +kernel
  ·rw[show p+2=p+1+1 by omega,a2];decide +kernel
  ·rw[show p+3=p+1+2 by omega,a3];decide +kernel
 ·intro h
  exact⟨(starts_bt h 0 (by decide)).trans (by decide +kernel),(starts_bt h 1 (by decide)).trans (by decide +kernel),by rw[show p+1+1=p+2 by omega];exact(starts_bt h 2 (by decide)).trans (by decide +kernel),by rw[show p+1+2=p+3 by omega];exact(starts_bt h 3 (by decide)).trans (by decide +kernel)⟩
theorem raw_snoc {s:ByteArray} {a b:Nat} (h:Raw s a b) (c:Int) (n:Nat) (h1:b<s.size) (h2:¬three s b) (h3:¬escq s b) (hr:runeOf s b=(c,(n:Int))) (hn:1≤n) (hn4:n≤4) (hle:b+n≤s.size) (hc:c=9∨c=10∨c=13∨32≤c):Raw s a (b+n):=by
 induction h with
 | nil a=>exact .cons c n h1 h2 h3 hr hn hn4 hle hc (.nil _)
 | cons c' n' g1 g2 g3 g4 g5 g6 g7 g8 _ ih=>exact .cons c' n' g1 g2 g3 g4 g5 g6 g7 g8 (ih h1 h2 h3 hr hle)
theorem extract_more {s:ByteArray} {o p m:Nat} (hp:o≤p):s.extract o p++s.extract p ((p:Int)+(m:Int)).toNat=s.extract o (p+m):=by
 rw[show((p:Int)+(m:Int)).toNat=p+m by omega]
 apply ByteArray.ext;simp only[ByteArray.data_append,ByteArray.data_extract];rw[Array.extract_append_extract];congr 1<;>omega
theorem bad_low {s:ByteArray} {a:Nat} {c n:Int} (ha:a<s.size) (hr:runeOf s a=(c,n)) (h:¬srcOk c):RawBad s a:=by
 unfold srcOk at h
 by_cases hb:bt s a<128
 ·rw[rune_small ha hb]at hr
  have:=(Prod.mk.inj hr).1;exact .inr ⟨ha,by omega,by omega,by omega,by omega⟩
 ·have h2:=(rune_big ha hb).1
  rw[hr]at h2;simp only at h2;omega
theorem value_calls (s:ByteArray) (hs:s.size≤200000):∃l,IsLines s l∧(∀w,Calls Tryz.prog 61 #[.string s] w fun e w'=>e = .returned (.bool (plainL l))∧Below w.heap.size w w')∧
  ∀w,Calls Tryz.prog 60 #[.string s] w fun e w'=>e = .returned (.string (valueL l))∧Below w.heap.size w w':=by
 obtain⟨l,hl,hk,hc⟩:=plain_calls s (by omega)
 exact⟨l,⟨hl,hk⟩,hc,fun w=>PFnTokensGaps.spec_BlockValue.calls _ s _ w (value_some (by omega) hl (fun k h=>(hk k h).2.1))⟩
theorem RowAt.below {w w':World} {base:Nat} {v:Value} {l:List Tok} (h:RowAt w base v l) (hb:Below w.heap.size w w'):RowAt w' base v l:=h.kept (grown_of_below hb none) (by cases h2:v.ownBlock with|none=>exact .inl rfl|some k=>exact .inr (by simp))
theorem block_any (b base p0:Nat) (s:ByteArray) (v:Value) (uns0:Bool) (l:List Mod.Tok) (w:World) (hL:LexAt w b s p0 v false uns0) (hR:RowAt w base v (l.map cv)) (hbase:base≤w.heap.size) (hB:base≤b) (hs:s.size≤200000) (h3:p0+3≤s.size) (hll:l.length≤p0) (hq0:three s p0) :
  Calls Tryz.prog 105 #[.pointer (some ⟨b,0,none⟩)] w fun e w'=>e = .returned (.tuple #[])∧TokEnd w base b s p0 uns0 l w':=by
 have HQ0:=aK hq0;clear hq0;have c0:=hL.c0;have c1:=hL.c1;have lb:b<w.heap.size:=Blk.lt hL;go_enter Tryz.func105,Tryz.ntmps105
 go_wp2_with fail
 go_loopw [2,3] (fun r a wr=>∃(raw:ByteArray) (p:Nat) (uns:Bool),r = .string raw∧a = .int .i64 p∧p0+3≤p∧p≤s.size∧raw.size≤p∧LexAt wr b s p0 v false uns∧Aside0 (RowAt wr base v (l.map cv))∧Aside0 (Below base w wr)∧Aside0 (uns=false→uns0=false∧Raw s (p0+3) p∧raw=s.extract (p0+3) p)) (fun _ a _=>s.size-(intOf a).toNat)
 case atStart=>exact⟨_,p0+3,uns0,rfl,by go_num,by omega,h3,by show(0:Nat)≤_;omega,hL,⟨hR⟩,⟨Below.refl _ _⟩,⟨fun h=>⟨h,.nil _,by apply ByteArray.ext;simp⟩⟩⟩
 case round=>
  clear hL hR;obtain⟨raw,p,uns,rfl,rfl,hp3,hps,hraw,hL,HR,HB,HP⟩:=hrel;clear c0 c1;have hne:v.ownBlock≠some b:=own_blk_ne HR.out hL (by decide)
  have c0:=hL.c0;have c1:=hL.c1;have c3:=hL.c3;have c4:=hL.c4;have hf4:=Blk.frozen hL 4
  by_cases hlt:p<s.size
  ·have hlti:(p:Int)<(s.size:Int):=by omega
   have HS:=aK (fun W=>starts_any s quotes p W (by omega) (by decide) hps)
   go_wp2_with fail
   refine(HS.out _).mono ?_;rintro e w' ⟨rfl,rfl⟩
   by_cases hq:startsB s p quotes=true
   ·rw[hq]
    have HQ:=aK hq;obtain⟨ls,hIs,HPl,HVa⟩:=value_calls raw (by omega)
    have HPl:=aK HPl;have HVa:=aK HVa;have HIs:=aK hIs;have hp3s:p+3≤s.size:=starts_le hq;clear hIs hq;cases uns with
    | true=>
     go_wp2_with fail
     refine(HVa.out _).mono ?_;rintro e w2 ⟨rfl,hb2⟩;have hL2:LexAt w2 b s p0 v false true:=Blk.below (Blk.set_ hL 4 (.bool true)) hb2 (by simpa using Blk.lt hL)
     have HR2:=aK ((RowAt.setb (i:=4) (u:=.bool true) hne HR.out).below hb2);have HB2:=aK (((HB.out).setCell hB (p:=⟨b,4,none⟩) (.bool true)).trans (hb2.mono (by have:=HB.out.size;simp;omega)))
     clear hb2 HB
     go_wp2_with fail
     refine(add_any b base 19 _ _ s p0 v false true (l.map cv) w2 hL2 HR2.out (by have:=HB2.out.size;omega) hB (by rw[List.length_map];omega)).mono ?_
     rintro e w3 ⟨rfl,v',h1,h2,h3⟩;have HE:Aside0 (TokEnd w base b s p0 uns0 l w3):=⟨end_add ⟨19,p0,p+3,valueL ls⟩ (by simpa using h1) (by simpa using h2) (HB2.out.trans h3) (by show p0<p+3;omega) hp3s hll (fun h=>by cases h)⟩
     clear h1 h2 h3
     go_wp2_with fail
     exact bodyPost_ret (v:=.tuple #[]) (by simp[results,Tryz.results105,go_sem]) rfl ⟨rfl,HE.out⟩
    | false=>
     go_wp2_with fail
     refine(HPl.out _).mono ?_;rintro e w1 ⟨rfl,hb1⟩;have hL1:LexAt w1 b s p0 v false false:=Blk.below hL hb1 (Blk.lt hL);have HR1:=aK (HR.out.below hb1);have HB1:=aK ((HB.out).trans (hb1.mono (by have:=HB.out.size;omega)))
     have hg0:=hL1.c4;have hg1:=Blk.frozen hL1 4;have hg2:=hL1.c0;have hg3:=hL1.c1;clear hb1 HB;cases hpl:plainL ls with
     | true=>
      go_wp2_with fail
      refine(HVa.out _).mono ?_;rintro e w2 ⟨rfl,hb2⟩;have hL2:LexAt w2 b s p0 v false false:=Blk.below (Blk.set_ hL1 4 (.bool false)) hb2 (by simpa using Blk.lt hL1)
      have HR2:=aK ((RowAt.setb (i:=4) (u:=.bool false) hne HR1.out).below hb2);have HB2:=aK (((HB1.out).setCell hB (p:=⟨b,4,none⟩) (.bool false)).trans (hb2.mono (by have:=HB1.out.size;simp;omega)))
      have HPL:=aK hpl;clear hb2 HB1
      go_wp2_with fail
      refine(add_any b base 19 _ _ s p0 v false false (l.map cv) w2 hL2 HR2.out (by have:=HB2.out.size;omega) hB (by rw[List.length_map];omega)).mono ?_
      rintro e w3 ⟨rfl,v',h1,h2,h3⟩;have HPP:=aK (HP.out (by first|rfl|trivial))
      have HE:Aside0 (TokEnd w base b s p0 uns0 l w3):=⟨end_add ⟨19,p0,p+3,valueL ls⟩ (by simpa using h1) (by simpa using h2) (HB2.out.trans h3) (by show p0<p+3;omega) hp3s hll (fun _=>⟨HPP.out.1,.blk HQ0.out HPP.out.2.1 (three_starts.2 HQ.out) (by rw[←HPP.out.2.2];exact⟨ls,HIs.out,HPL.out,rfl⟩)⟩)⟩
      clear h1 h2 h3
      go_wp2_with fail
      exact bodyPost_ret (v:=.tuple #[]) (by simp[results,Tryz.results105,go_sem]) rfl ⟨rfl,HE.out⟩
     | false=>
      go_wp2_with fail
      refine(HVa.out _).mono ?_;rintro e w2 ⟨rfl,hb2⟩;have hL2:LexAt w2 b s p0 v false true:=Blk.below (Blk.set_ hL1 4 (.bool true)) hb2 (by simpa using Blk.lt hL1)
      have HR2:=aK ((RowAt.setb (i:=4) (u:=.bool true) hne HR1.out).below hb2);have HB2:=aK (((HB1.out).setCell hB (p:=⟨b,4,none⟩) (.bool true)).trans (hb2.mono (by have:=HB1.out.size;simp;omega)))
      clear hb2 HB1
      go_wp2_with fail
      refine(add_any b base 19 _ _ s p0 v false true (l.map cv) w2 hL2 HR2.out (by have:=HB2.out.size;omega) hB (by rw[List.length_map];omega)).mono ?_
      rintro e w3 ⟨rfl,v',h1,h2,h3⟩;have HE:Aside0 (TokEnd w base b s p0 uns0 l w3):=⟨end_add ⟨19,p0,p+3,valueL ls⟩ (by simpa using h1) (by simpa using h2) (HB2.out.trans h3) (by show p0<p+3;omega) hp3s hll (fun h=>by cases h)⟩
      clear h1 h2 h3
      go_wp2_with fail
      exact bodyPost_ret (v:=.tuple #[]) (by simp[results,Tryz.results105,go_sem]) rfl ⟨rfl,HE.out⟩
   ·have hq':startsB s p quotes=false:=by simpa using hq
    rw[hq'];have HS2:=aK (fun W=>starts_any s esc p W (by omega) (by decide) hps)
    go_wp2_with fail
    refine(HS2.out _).mono ?_;rintro e w' ⟨rfl,rfl⟩
    by_cases he:startsB s p esc=true
    ·rw[he]
     have hle:=starts_le he;have hl4:esc.size=4:=rfl;have hL1:LexAt (wr.setCell ⟨b,4,none⟩ (.bool true)) b s p0 v false true:=Blk.set_ hL 4 _;have HR1:=aK (RowAt.setb (i:=4) (u:=.bool true) hne HR.out);have hB1:Below base w (wr.setCell ⟨b,4,none⟩ (.bool true)):=HB.out.setCell hB (p:=⟨b,4,none⟩) (.bool true)
     go_wp2_with fail
     exact⟨⟨_,p+4,true,rfl,by go_num,by omega,by omega,by rw[ByteArray.size_append];show raw.size+3≤_;omega,hL1,HR1,⟨hB1⟩,⟨fun hu=>by cases hu⟩⟩,by simp[intOf];omega⟩
    ·have he':startsB s p esc=false:=by simpa using he
     rw[he'];have HNQ:=aK (show ¬three s p∧¬escq s p from⟨fun h=>hq (three_starts.1 h),fun h=>he (esc_starts.1 h)⟩)
     obtain⟨c,n,hpt,hpn⟩:=point_same s hs p hlt;have HPt:=aK hpt;clear hpt
     go_wp2_with fail
     refine(PFnTokensGaps.spec_Point.calls 12 s p c n _ HPt.out).mono ?_;rintro e w1 ⟨rfl,⟨nd,rfl⟩⟩
     go_wp2_with fail
     refine(source_calls c _).mono ?_;rintro e w1 ⟨rfl,⟨nd2,rfl⟩⟩;rcases hpn with hn0|⟨hr,hn1,hn4,hnle⟩
     ·subst hn0
      cases uns
      all_goals
       go_wp2_with fail
       have hL1:LexAt ((wr.drewN (nd+nd2)).setCell ⟨b,4,none⟩ (.bool true)) b s p0 v false true:=Blk.set_ (LexAt.drewN hL _) 4 _;refine(fail_any b s p0 v false true _ hL1).mono ?_;rintro e w2 ⟨rfl,rfl⟩
       go_wp2_with fail
       have HE:TokEnd w base b s p0 uns0 l _:=end_bad (Blk.set_ hL1 3 _) (RowAt.setb hne (RowAt.setb (i:=4) (u:=.bool true) hne (HR.out.drewN (nd+nd2)))) (((pw_below_drewN HB.out (nd+nd2)).setCell hB (p:=⟨b,4,none⟩) (.bool true)).setCell hB (p:=⟨b,3,none⟩) (.bool true)) (by omega) hll (fun h=>by cases h)
       exact bodyPost_ret (v:=.tuple #[]) (by simp[results,Tryz.results105,go_sem]) rfl ⟨rfl,HE⟩
     ·obtain⟨m,rfl⟩:∃m:Nat,n=m:=⟨n.toNat,by omega⟩
      have hm0:((m:Int)==0)=false:=beq_eq_false_iff_ne.2 (by omega)
      have HRU:=aK hr;clear hr;cases hsr:srcB c with
      | false=>
       have hno:¬srcOk c:=fun h=>by rw[←srcB_ok,hsr]at h;cases h
       have HNO:=aK hno;clear hno;cases uns with
       | false=>
        have HPP:=aK (HP.out rfl)
        go_wp2_with fail
        have hL1:LexAt ((wr.drewN (nd+nd2)).setCell ⟨b,4,none⟩ (.bool false)) b s p0 v false false:=Blk.set_ (LexAt.drewN hL _) 4 _;refine(fail_any b s p0 v false false _ hL1).mono ?_;rintro e w2 ⟨rfl,rfl⟩
        go_wp2_with fail
        have HE:TokEnd w base b s p0 uns0 l _:=end_bad (Blk.set_ hL1 3 _) (RowAt.setb hne (RowAt.setb (i:=4) (u:=.bool false) hne (HR.out.drewN (nd+nd2)))) (((pw_below_drewN HB.out (nd+nd2)).setCell hB (p:=⟨b,4,none⟩) (.bool false)).setCell hB (p:=⟨b,3,none⟩) (.bool true)) (by omega) hll (fun _=>⟨HPP.out.1,.blk HQ0.out HPP.out.2.1 (bad_low hlt HRU.out HNO.out)⟩)
        exact bodyPost_ret (v:=.tuple #[]) (by simp[results,Tryz.results105,go_sem]) rfl ⟨rfl,HE⟩
       | true=>
        go_wp2_with fail
        have hL1:LexAt ((wr.drewN (nd+nd2)).setCell ⟨b,4,none⟩ (.bool true)) b s p0 v false true:=Blk.set_ (LexAt.drewN hL _) 4 _;refine(fail_any b s p0 v false true _ hL1).mono ?_;rintro e w2 ⟨rfl,rfl⟩
        go_wp2_with fail
        have HE:TokEnd w base b s p0 uns0 l _:=end_bad (Blk.set_ hL1 3 _) (RowAt.setb hne (RowAt.setb (i:=4) (u:=.bool true) hne (HR.out.drewN (nd+nd2)))) (((pw_below_drewN HB.out (nd+nd2)).setCell hB (p:=⟨b,4,none⟩) (.bool true)).setCell hB (p:=⟨b,3,none⟩) (.bool true)) (by omega) hll (fun h=>by cases h)
        exact bodyPost_ret (v:=.tuple #[]) (by simp[results,Tryz.results105,go_sem]) rfl ⟨rfl,HE⟩
      | true=>
       have HOK:=aK (srcB_ok.1 hsr);cases uns with
       | false=>
        have HPP:=aK (HP.out rfl)
        go_wp2_with fail
        have hL1:LexAt ((wr.drewN (nd+nd2)).setCell ⟨b,4,none⟩ (.bool (!decide (c≤65535)))) b s p0 v false (!decide (c≤65535)):=Blk.set_ (LexAt.drewN hL _) 4 _;have HR1:=aK (RowAt.setb (i:=4) (u:=.bool (!decide (c≤65535))) hne (HR.out.drewN (nd+nd2)));have hB1:Below base w ((wr.drewN (nd+nd2)).setCell ⟨b,4,none⟩ (.bool (!decide (c≤65535)))):=(pw_below_drewN HB.out (nd+nd2)).setCell hB (p:=⟨b,4,none⟩) (.bool (!decide (c≤65535)));exact⟨⟨_,p+m,(!decide (c≤65535)),rfl,by go_num,by omega,by omega,by rw[ByteArray.size_append,ByteArray.size_extract];omega,hL1,HR1,⟨hB1⟩,⟨fun _=>⟨HPP.out.1,raw_snoc HPP.out.2.1 c m hlt HNQ.out.1 HNQ.out.2 HRU.out (by omega) (by omega) (by omega) HOK.out,by rw[HPP.out.2.2];exact extract_more hp3⟩⟩⟩,by simp[intOf];omega⟩
       | true=>
        go_wp2_with fail
        have hL1:LexAt ((wr.drewN (nd+nd2)).setCell ⟨b,4,none⟩ (.bool true)) b s p0 v false true:=Blk.set_ (LexAt.drewN hL _) 4 _;have HR1:=aK (RowAt.setb (i:=4) (u:=.bool true) hne (HR.out.drewN (nd+nd2)));have hB1:Below base w ((wr.drewN (nd+nd2)).setCell ⟨b,4,none⟩ (.bool true)):=(pw_below_drewN HB.out (nd+nd2)).setCell hB (p:=⟨b,4,none⟩) (.bool true);exact⟨⟨_,p+m,true,rfl,by go_num,by omega,by omega,by rw[ByteArray.size_append,ByteArray.size_extract];omega,hL1,HR1,⟨hB1⟩,⟨fun hu=>by cases hu⟩⟩,by simp[intOf];omega⟩
  ·have hlti:(s.size:Int)≤(p:Int):=by omega
   have HF:=aK (fail_any b s p0 v false uns wr hL)
   go_wp2_with fail
   refine HF.out.mono ?_;rintro e w' ⟨rfl,rfl⟩
   go_wp2_with fail
   go_end0
   exact⟨rfl,end_bad (Blk.set_ hL 3 _) (RowAt.setb hne HR.out) ((HB.out).setCell hB _) (by omega) hll (fun hu=>⟨(HP.out hu).1,.blk HQ0.out (HP.out hu).2.1 (.inl (by omega))⟩)⟩
end Go.Proofs.YtjolkdnfbmkjiaaGreatDoor.Lex
namespace Go.Proofs.YtjolkdnfbmkjiaaGreatDoor.Lex
open Go.RowKit Mem Rel NameP Uni Go.Proofs.YtjolkdnfbmkjiaaGreatDoorW.PrintWords Go.Proofs.YtjolkdnfbmkjiaaGreatDoorW.PrintLast
theorem enc_utf8 (m:Nat) (h:m≤65535) (hs:m<55296∨57343<m):Utf8.encode m=enc m:=by
 have hv:Utf8.valid (m:Int)=true:=by
  unfold Utf8.valid;simp only[Bool.or_eq_true,Bool.and_eq_true,decide_eq_true_eq];omega
 have hd:∀k:Int,∀n:Nat,k=n→k.toNat.toUInt8=UInt8.ofNat n:=fun k n e=>by rw[e];rfl
 unfold Utf8.encode enc Lib.encodeRune;simp only[hv,if_true,Int.toNat_natCast]
 by_cases h1:m<128
 ·rw[if_pos (by omega),Lib.encodeRuneZ_one (by omega) (by omega)]
  simp only[List.map_cons,List.map_nil];rw[hd _ m rfl]
 ·by_cases h2:m<2048
  ·rw[if_neg (by omega),if_pos (by omega),Lib.encodeRuneZ_two (by omega) (by omega)]
   simp only[List.map_cons,List.map_nil];rw[hd _ (192+m/64) (by omega),hd _ (128+m%64) (by omega)]
  ·rw[if_neg (by omega),if_neg (by omega),if_pos (by omega),Lib.encodeRuneZ_three (by omega)]
   simp only[List.map_cons,List.map_nil];rw[hd _ (224+m/4096) (by omega),hd _ (128+m/64%64) (by omega),hd _ (128+m%64) (by omega)]
theorem encoded_any (m:Nat) (w:World) (hm:m≤65535) (hs:m<55296∨57343<m) :
  Calls Tryz.prog 119 #[.int .i64 m] w fun e w'=>e = .returned (.string (enc m))∧Below w.heap.size w w':=by
 have hw:wrap32 (m:Int)=m:=by unfold wrap32;omega
 have hcv:(convert 198 9 (.slice (some ⟨w.heap.size,0,none⟩) 1 1)).run Tryz.prog (w.alloc (.cells #[.int .i32 m] 21)) = .ok (.string (enc m)) (w.alloc (.cells #[.int .i32 m] 21)):=by
  have hc:∀j:Nat,j<[(m:Int)].length→(w.alloc (.cells #[.int .i32 m] 21)).cell? ((⟨w.heap.size,0,none⟩:Addr).add j)=some (.int .i32 ([(m:Int)].getD j 0)):=fun j hj=>by
   have hj0:j=0:=by
    have h1:j<1:=hj;omega
   subst hj0;rw[add_plain];have h2:=Blk.cell (Blk.new w 21 #[.int .i32 m]) 0;rw[h2];rfl
  have h:=run_convert_runes (P:=Tryz.prog) (w.alloc (.cells #[.int .i32 m] 21)) 198 9 21 ⟨w.heap.size,0,none⟩ 1 1 [(m:Int)] (Nat.le_refl _) Tryz.underlying198 Tryz.underlying21 Tryz.underlying9 hc;have e:runesBytes ([(m:Int)].take 1)=enc m:=by
   show ByteArray.empty++Utf8.encode m=enc m;rw[enc_utf8 m hm hs];apply ByteArray.ext;simp
  rw[h,e]
 go_enter Tryz.func119,Tryz.ntmps119
 go_wp2_with fail
 go_ret
 exact⟨rfl,below_alloc (Below.refl _ _) _⟩
theorem encoded_int (n:Int) (w:World) (h0:0≤n) (hm:n≤65535) (hs:n<55296∨57344≤n) :
  Calls Tryz.prog 119 #[.int .i64 n] w fun e w'=>e = .returned (.string (enc n))∧Below w.heap.size w w':=by
 obtain⟨m,rfl⟩:∃m:Nat,n=m:=⟨n.toNat,by omega⟩
 exact encoded_any m w (by omega) (by omega)
def fromB:ByteArray:=⟨#[34,92,47,98,102,110,114,116]⟩
def accH (s:ByteArray) (a:Nat):Nat→Int
 | 0=>0
 | k+1=>16*accH s a k+hexV (bt s (a+2+k:Nat))
def goodH (s:ByteArray) (a k:Nat):Prop:=∀j:Nat,j<k→0≤hexV (bt s (a+2+j:Nat))
theorem accH_range {s:ByteArray} {a:Nat}:∀k,k≤4→goodH s a k→0≤accH s a k∧accH s a k<16 ^ k
 | 0,_,_=>by simp[accH]
 | k+1,hk,hg=>by
  have ih:=accH_range k (by omega) (fun j hj=>hg j (by omega))
  have h1:=hg k (by omega)
  have h2:=hx_range (bt s (a+2+k:Nat));rw[hx_hexV]at h2;have e:(16:Int) ^ (k+1)=16 ^ k*16:=Int.pow_succ ..;unfold accH;rw[e];omega
theorem accH_uni (s:ByteArray) (a:Nat):accH s a 4=uniV s a:=by
 unfold uniV;simp only[accH,Nat.add_zero];rw[show a+2+1=a+3 by omega,show a+2+2=a+4 by omega,show a+2+3=a+5 by omega]
 omega
theorem goodH_ok {s:ByteArray} {a:Nat} (h:goodH s a 4):hexOk s a:=
 ⟨h 0 (by omega),h 1 (by omega),h 2 (by omega),h 3 (by omega)⟩
theorem hex_in {s:ByteArray} {i:Nat} (h:0≤hexV (bt s i)):i<s.size:=in_of (by intro e;rw[e]at h;exact absurd h (by decide))
def EscEnd (w:World) (base b:Nat) (s:ByteArray) (p0 a:Nat) (v:Value) (uns:Bool) (l:List Mod.Tok) (e:Ending) (w':World):Prop:=
 ∃uns',LexAt w' b s p0 v false uns'∧RowAt w' base v (l.map cv)∧Below base w w'∧
  ((e = .returned (.tuple #[.string ⟨#[]⟩,.int .i64 0])∧(uns'=false→uns=false∧BitBad s a))∨
   ∃(m:Nat) (x:ByteArray),e = .returned (.tuple #[.string x,.int .i64 m])∧1≤m∧a+m≤s.size∧x.size≤4∧(uns'=false→uns=false∧Bit s a (a+m) x))
theorem enc_le (r:Int):(enc r).size≤4:=by
 have h:=Lib.runeCells_le r;rw[Lib.runeCells_length]at h;have e:(enc r).size=(Lib.encodeRune r).length:=by unfold enc;rw[Lib.size_eq]
 omega
theorem esc_none {c:Int} (h:∀j:Nat,j<8→bt fromB j≠c):escV c<0:=by
 have h0:=h 0 (by omega)
 have h1:=h 1 (by omega)
 have h2:=h 2 (by omega)
 have h3:=h 3 (by omega)
 have h4:=h 4 (by omega)
 have h5:=h 5 (by omega)
 have h6:=h 6 (by omega)
 have h7:=h 7 (by omega)
 rw[show bt fromB (0:Nat)=34 by decide +kernel]at h0
 rw[show bt fromB (1:Nat)=92 by decide +kernel]at h1
 rw[show bt fromB (2:Nat)=47 by decide +kernel]at h2
 rw[show bt fromB (3:Nat)=98 by decide +kernel]at h3
 rw[show bt fromB (4:Nat)=102 by decide +kernel]at h4
 rw[show bt fromB (5:Nat)=110 by decide +kernel]at h5
 rw[show bt fromB (6:Nat)=114 by decide +kernel]at h6
 rw[show bt fromB (7:Nat)=116 by decide +kernel]at h7
 have e:escV c = -1:=by simp[escV,Ne.symm h0,Ne.symm h1,Ne.symm h2,Ne.symm h3,Ne.symm h4,Ne.symm h5,Ne.symm h6,Ne.symm h7]
 rw[e];decide
theorem hexa_any (c:Int) (w:World) (h0:0≤c) (h1:c≤255) :
  Calls Tryz.prog 118 #[.int .u8 c] w fun e w'=>e = .returned (.int .i64 (hexV c))∧w=w':=hexa c w h0 h1
theorem escape_any (b base p0 a:Nat) (s:ByteArray) (v:Value) (uns:Bool) (l:List Mod.Tok) (w:World) (hL:LexAt w b s p0 v false uns) (hR:RowAt w base v (l.map cv)) (hbase:base≤w.heap.size) (hB:base≤b) (hs:s.size≤200000) (ha:a<s.size) (h92:bt s a=92) :
  Calls Tryz.prog 114 #[.pointer (some ⟨b,0,none⟩),.int .i64 a] w fun e w'=>EscEnd w base b s p0 a v uns l e w':=by
 have H92:=aK h92;have HR:=aK hR;have hne:v.ownBlock≠some b:=own_blk_ne hR hL (by decide)
 clear h92 hR;have c0:=hL.c0;have c4:=hL.c4;have hf4:=Blk.frozen hL 4;have hcr:=bt_range s (a+1:Nat);obtain⟨c,hc⟩:∃c,bt s (a+1:Nat)=c:=⟨_,rfl⟩;have HC:=aK hc;have HNX:=aK (fun W (h0:W.cell? ⟨b,0,none⟩=some (.string s))=>next_at b s ((a:Int)+1) (a+1) (by omega) W (by omega) h0)
 rw[hc]at HNX hcr;clear hc;go_enter Tryz.func114,Tryz.ntmps114
 go_wp2_with (go_at_call 103;refine(HNX.out _ (by exact c0)).mono ?_;rintro e w' ⟨rfl,rfl⟩)
 go_loop [9] (fun t=>∃k:Nat,k≤8∧t = .int .i64 k∧∀j:Nat,j<k→bt fromB j≠c) (fun t=>8-(intOf t).toNat)
 case atStart=>exact⟨0,by omega,rfl,fun j hj=>by omega⟩
 case round=>
  obtain⟨k,hk8,rfl,hkn⟩:=hrel;have HKN:=aK hkn;have hkc:k=0∨k=1∨k=2∨k=3∨k=4∨k=5∨k=6∨k=7∨k=8:=by omega
  clear hkn hk8;rcases hkc with rfl|rfl|rfl|rfl|rfl|rfl|rfl|rfl|rfl
  ·have hix:∀h:0<(⟨#[34,92,47,98,102,110,114,116]⟩:ByteArray).size,((((⟨#[34,92,47,98,102,110,114,116]⟩:ByteArray)[0]'h).toNat:Nat):Int)=34:=fun h=>rfl
   by_cases hcc:c=34
   ·have has:a+1<s.size:=in_of (by rw[HC.out,hcc];decide)
    have HE:Aside0 (EscEnd w base b s p0 a v uns l (.returned (.tuple #[.string (enc 34),.int .i64 2])) w):=⟨uns,hL,HR.out,Below.refl _ _,.inr ⟨2,enc 34,rfl,by omega,by omega,enc_le _,fun hu=>⟨hu,by have h:=Bit.esc has H92.out (by rw[HC.out,hcc];decide);rw[HC.out,hcc]at h;exact h⟩⟩⟩
    have hcb:((34:Int)==c)=true:=by rw[hcc];rfl
    have hex:(⟨#[34,92,47,8,12,10,13,9]⟩:ByteArray).extract 0 1=enc 34:=by decide +kernel
    clear hcc
    go_wp2_with fail
    refine bodyPost_ret (v:=.tuple #[.string (enc 34),.int .i64 2]) (by simp[results,Tryz.results114,go_sem,hex]) rfl HE.out
   ·have hcb:((34:Int)==c)=false:=beq_eq_false_iff_ne.2 (fun h=>hcc h.symm)
    have HKM:=aK (show ∀j:Nat,j<1→bt fromB j≠c from fun j hj=>by
     rcases Nat.lt_or_ge j 0 with h|h
     ·exact HKN.out j h
     ·obtain rfl:j=0:=by omega
      rw[show bt fromB (0:Nat)=34 by decide +kernel]
      exact fun h=>hcc h.symm)
    clear hcc
    go_wp2_with fail
    exact⟨⟨1,by omega,rfl,HKM.out⟩,by simp[intOf]⟩
  ·have hix:∀h:1<(⟨#[34,92,47,98,102,110,114,116]⟩:ByteArray).size,((((⟨#[34,92,47,98,102,110,114,116]⟩:ByteArray)[1]'h).toNat:Nat):Int)=92:=fun h=>rfl
   by_cases hcc:c=92
   ·have has:a+1<s.size:=in_of (by rw[HC.out,hcc];decide)
    have HE:Aside0 (EscEnd w base b s p0 a v uns l (.returned (.tuple #[.string (enc 92),.int .i64 2])) w):=⟨uns,hL,HR.out,Below.refl _ _,.inr ⟨2,enc 92,rfl,by omega,by omega,enc_le _,fun hu=>⟨hu,by have h:=Bit.esc has H92.out (by rw[HC.out,hcc];decide);rw[HC.out,hcc]at h;exact h⟩⟩⟩
    have hcb:((92:Int)==c)=true:=by rw[hcc];rfl
    have hex:(⟨#[34,92,47,8,12,10,13,9]⟩:ByteArray).extract 1 2=enc 92:=by decide +kernel
    clear hcc
    go_wp2_with fail
    refine bodyPost_ret (v:=.tuple #[.string (enc 92),.int .i64 2]) (by simp[results,Tryz.results114,go_sem,hex]) rfl HE.out
   ·have hcb:((92:Int)==c)=false:=beq_eq_false_iff_ne.2 (fun h=>hcc h.symm)
    have HKM:=aK (show ∀j:Nat,j<2→bt fromB j≠c from fun j hj=>by
     rcases Nat.lt_or_ge j 1 with h|h
     ·exact HKN.out j h
     ·obtain rfl:j=1:=by omega
      rw[show bt fromB (1:Nat)=92 by decide +kernel]
      exact fun h=>hcc h.symm)
    clear hcc
    go_wp2_with fail
    exact⟨⟨2,by omega,rfl,HKM.out⟩,by simp[intOf]⟩
  ·have hix:∀h:2<(⟨#[34,92,47,98,102,110,114,116]⟩:ByteArray).size,((((⟨#[34,92,47,98,102,110,114,116]⟩:ByteArray)[2]'h).toNat:Nat):Int)=47:=fun h=>rfl
   by_cases hcc:c=47
   ·have has:a+1<s.size:=in_of (by rw[HC.out,hcc];decide)
    have HE:Aside0 (EscEnd w base b s p0 a v uns l (.returned (.tuple #[.string (enc 47),.int .i64 2])) w):=⟨uns,hL,HR.out,Below.refl _ _,.inr ⟨2,enc 47,rfl,by omega,by omega,enc_le _,fun hu=>⟨hu,by have h:=Bit.esc has H92.out (by rw[HC.out,hcc];decide);rw[HC.out,hcc]at h;exact h⟩⟩⟩
    have hcb:((47:Int)==c)=true:=by rw[hcc];rfl
    have hex:(⟨#[34,92,47,8,12,10,13,9]⟩:ByteArray).extract 2 3=enc 47:=by decide +kernel
    clear hcc
    go_wp2_with fail
    refine bodyPost_ret (v:=.tuple #[.string (enc 47),.int .i64 2]) (by simp[results,Tryz.results114,go_sem,hex]) rfl HE.out
   ·have hcb:((47:Int)==c)=false:=beq_eq_false_iff_ne.2 (fun h=>hcc h.symm)
    have HKM:=aK (show ∀j:Nat,j<3→bt fromB j≠c from fun j hj=>by
     rcases Nat.lt_or_ge j 2 with h|h
     ·exact HKN.out j h
     ·obtain rfl:j=2:=by omega
      rw[show bt fromB (2:Nat)=47 by decide +kernel]
      exact fun h=>hcc h.symm)
    clear hcc
    go_wp2_with fail
    exact⟨⟨3,by omega,rfl,HKM.out⟩,by simp[intOf]⟩
  ·have hix:∀h:3<(⟨#[34,92,47,98,102,110,114,116]⟩:ByteArray).size,((((⟨#[34,92,47,98,102,110,114,116]⟩:ByteArray)[3]'h).toNat:Nat):Int)=98:=fun h=>rfl
   by_cases hcc:c=98
   ·have has:a+1<s.size:=in_of (by rw[HC.out,hcc];decide)
    have HE:Aside0 (EscEnd w base b s p0 a v uns l (.returned (.tuple #[.string (enc 8),.int .i64 2])) w):=⟨uns,hL,HR.out,Below.refl _ _,.inr ⟨2,enc 8,rfl,by omega,by omega,enc_le _,fun hu=>⟨hu,by have h:=Bit.esc has H92.out (by rw[HC.out,hcc];decide);rw[HC.out,hcc]at h;exact h⟩⟩⟩
    have hcb:((98:Int)==c)=true:=by rw[hcc];rfl
    have hex:(⟨#[34,92,47,8,12,10,13,9]⟩:ByteArray).extract 3 4=enc 8:=by decide +kernel
    clear hcc
    go_wp2_with fail
    refine bodyPost_ret (v:=.tuple #[.string (enc 8),.int .i64 2]) (by simp[results,Tryz.results114,go_sem,hex]) rfl HE.out
   ·have hcb:((98:Int)==c)=false:=beq_eq_false_iff_ne.2 (fun h=>hcc h.symm)
    have HKM:=aK (show ∀j:Nat,j<4→bt fromB j≠c from fun j hj=>by
     rcases Nat.lt_or_ge j 3 with h|h
     ·exact HKN.out j h
     ·obtain rfl:j=3:=by omega
      rw[show bt fromB (3:Nat)=98 by decide +kernel]
      exact fun h=>hcc h.symm)
    clear hcc
    go_wp2_with fail
    exact⟨⟨4,by omega,rfl,HKM.out⟩,by simp[intOf]⟩
  ·have hix:∀h:4<(⟨#[34,92,47,98,102,110,114,116]⟩:ByteArray).size,((((⟨#[34,92,47,98,102,110,114,116]⟩:ByteArray)[4]'h).toNat:Nat):Int)=102:=fun h=>rfl
   by_cases hcc:c=102
   ·have has:a+1<s.size:=in_of (by rw[HC.out,hcc];decide)
    have HE:Aside0 (EscEnd w base b s p0 a v uns l (.returned (.tuple #[.string (enc 12),.int .i64 2])) w):=⟨uns,hL,HR.out,Below.refl _ _,.inr ⟨2,enc 12,rfl,by omega,by omega,enc_le _,fun hu=>⟨hu,by have h:=Bit.esc has H92.out (by rw[HC.out,hcc];decide);rw[HC.out,hcc]at h;exact h⟩⟩⟩
    have hcb:((102:Int)==c)=true:=by rw[hcc];rfl
    have hex:(⟨#[34,92,47,8,12,10,13,9]⟩:ByteArray).extract 4 5=enc 12:=by decide +kernel
    clear hcc
    go_wp2_with fail
    refine bodyPost_ret (v:=.tuple #[.string (enc 12),.int .i64 2]) (by simp[results,Tryz.results114,go_sem,hex]) rfl HE.out
   ·have hcb:((102:Int)==c)=false:=beq_eq_false_iff_ne.2 (fun h=>hcc h.symm)
    have HKM:=aK (show ∀j:Nat,j<5→bt fromB j≠c from fun j hj=>by
     rcases Nat.lt_or_ge j 4 with h|h
     ·exact HKN.out j h
     ·obtain rfl:j=4:=by omega
      rw[show bt fromB (4:Nat)=102 by decide +kernel]
      exact fun h=>hcc h.symm)
    clear hcc
    go_wp2_with fail
    exact⟨⟨5,by omega,rfl,HKM.out⟩,by simp[intOf]⟩
  ·have hix:∀h:5<(⟨#[34,92,47,98,102,110,114,116]⟩:ByteArray).size,((((⟨#[34,92,47,98,102,110,114,116]⟩:ByteArray)[5]'h).toNat:Nat):Int)=110:=fun h=>rfl
   by_cases hcc:c=110
   ·have has:a+1<s.size:=in_of (by rw[HC.out,hcc];decide)
    have HE:Aside0 (EscEnd w base b s p0 a v uns l (.returned (.tuple #[.string (enc 10),.int .i64 2])) w):=⟨uns,hL,HR.out,Below.refl _ _,.inr ⟨2,enc 10,rfl,by omega,by omega,enc_le _,fun hu=>⟨hu,by have h:=Bit.esc has H92.out (by rw[HC.out,hcc];decide);rw[HC.out,hcc]at h;exact h⟩⟩⟩
    have hcb:((110:Int)==c)=true:=by rw[hcc];rfl
    have hex:(⟨#[34,92,47,8,12,10,13,9]⟩:ByteArray).extract 5 6=enc 10:=by decide +kernel
    clear hcc
    go_wp2_with fail
    refine bodyPost_ret (v:=.tuple #[.string (enc 10),.int .i64 2]) (by simp[results,Tryz.results114,go_sem,hex]) rfl HE.out
   ·have hcb:((110:Int)==c)=false:=beq_eq_false_iff_ne.2 (fun h=>hcc h.symm)
    have HKM:=aK (show ∀j:Nat,j<6→bt fromB j≠c from fun j hj=>by
     rcases Nat.lt_or_ge j 5 with h|h
     ·exact HKN.out j h
     ·obtain rfl:j=5:=by omega
      rw[show bt fromB (5:Nat)=110 by decide +kernel]
      exact fun h=>hcc h.symm)
    clear hcc
    go_wp2_with fail
    exact⟨⟨6,by omega,rfl,HKM.out⟩,by simp[intOf]⟩
  ·have hix:∀h:6<(⟨#[34,92,47,98,102,110,114,116]⟩:ByteArray).size,((((⟨#[34,92,47,98,102,110,114,116]⟩:ByteArray)[6]'h).toNat:Nat):Int)=114:=fun h=>rfl
   by_cases hcc:c=114
   ·have has:a+1<s.size:=in_of (by rw[HC.out,hcc];decide)
    have HE:Aside0 (EscEnd w base b s p0 a v uns l (.returned (.tuple #[.string (enc 13),.int .i64 2])) w):=⟨uns,hL,HR.out,Below.refl _ _,.inr ⟨2,enc 13,rfl,by omega,by omega,enc_le _,fun hu=>⟨hu,by have h:=Bit.esc has H92.out (by rw[HC.out,hcc];decide);rw[HC.out,hcc]at h;exact h⟩⟩⟩
    have hcb:((114:Int)==c)=true:=by rw[hcc];rfl
    have hex:(⟨#[34,92,47,8,12,10,13,9]⟩:ByteArray).extract 6 7=enc 13:=by decide +kernel
    clear hcc
    go_wp2_with fail
    refine bodyPost_ret (v:=.tuple #[.string (enc 13),.int .i64 2]) (by simp[results,Tryz.results114,go_sem,hex]) rfl HE.out
   ·have hcb:((114:Int)==c)=false:=beq_eq_false_iff_ne.2 (fun h=>hcc h.symm)
    have HKM:=aK (show ∀j:Nat,j<7→bt fromB j≠c from fun j hj=>by
     rcases Nat.lt_or_ge j 6 with h|h
     ·exact HKN.out j h
     ·obtain rfl:j=6:=by omega
      rw[show bt fromB (6:Nat)=114 by decide +kernel]
      exact fun h=>hcc h.symm)
    clear hcc
    go_wp2_with fail
    exact⟨⟨7,by omega,rfl,HKM.out⟩,by simp[intOf]⟩
  ·have hix:∀h:7<(⟨#[34,92,47,98,102,110,114,116]⟩:ByteArray).size,((((⟨#[34,92,47,98,102,110,114,116]⟩:ByteArray)[7]'h).toNat:Nat):Int)=116:=fun h=>rfl
   by_cases hcc:c=116
   ·have has:a+1<s.size:=in_of (by rw[HC.out,hcc];decide)
    have HE:Aside0 (EscEnd w base b s p0 a v uns l (.returned (.tuple #[.string (enc 9),.int .i64 2])) w):=⟨uns,hL,HR.out,Below.refl _ _,.inr ⟨2,enc 9,rfl,by omega,by omega,enc_le _,fun hu=>⟨hu,by have h:=Bit.esc has H92.out (by rw[HC.out,hcc];decide);rw[HC.out,hcc]at h;exact h⟩⟩⟩
    have hcb:((116:Int)==c)=true:=by rw[hcc];rfl
    have hex:(⟨#[34,92,47,8,12,10,13,9]⟩:ByteArray).extract 7 8=enc 9:=by decide +kernel
    clear hcc
    go_wp2_with fail
    refine bodyPost_ret (v:=.tuple #[.string (enc 9),.int .i64 2]) (by simp[results,Tryz.results114,go_sem,hex]) rfl HE.out
   ·have hcb:((116:Int)==c)=false:=beq_eq_false_iff_ne.2 (fun h=>hcc h.symm)
    have HKM:=aK (show ∀j:Nat,j<8→bt fromB j≠c from fun j hj=>by
     rcases Nat.lt_or_ge j 7 with h|h
     ·exact HKN.out j h
     ·obtain rfl:j=7:=by omega
      rw[show bt fromB (7:Nat)=116 by decide +kernel]
      exact fun h=>hcc h.symm)
    clear hcc
    go_wp2_with fail
    exact⟨⟨8,by omega,rfl,HKM.out⟩,by simp[intOf]⟩
  ·have HEV:=aK (show escV (bt s (a+1:Nat))<0 by rw[HC.out];exact esc_none HKN.out)
   by_cases hcc:c=117
   ·have hcb:(c != 117)=false:=by rw[hcc];rfl
    have HU:=aK (HC.out.trans hcc);have HN2:=aK (fun W (i:Int) (q:Nat) (hi:i=q) (h0:W.cell? ⟨b,0,none⟩=some (.string s))=>next_at b s i q hi W (by omega) h0)
    clear hcc HKN HNX
    go_wp2_with fail
    go_loop [10,11] (fun t1 t2=>∃k:Nat,k≤4∧t1 = .int .i64 (accH s a k)∧t2 = .int .i64 (a+2+k:Nat)∧goodH s a k) (fun _ t2=>a+6-(intOf t2).toNat)
    case atStart=>exact⟨0,by omega,rfl,by go_num,fun j hj=>absurd hj (by omega)⟩
    case round=>
     obtain⟨k,hk,rfl,rfl,hg⟩:=hrel;have hr:=accH_range k hk hg;have HG:=aK hg;clear hg;have hb4:accH s a k<1000000:=by
      have:(16:Int) ^ k≤65536:=by
       match k,hk with
       | 0,_=>decide
       | 1,_=>decide
       | 2,_=>decide
       | 3,_=>decide
       | 4,_=>decide
      omega
     have hr0:=hr.1;clear hr
     by_cases hlt:k<4
     ·have hxr:=hx_range (bt s (a+2+k:Nat))
      rw[hx_hexV]at hxr;have hby:=bt_range s (a+2+k:Nat);have hlt2:((a+2+k:Nat):Int)<(a:Int)+6:=by omega
      by_cases hneg:hexV (bt s (a+2+k:Nat))<0
      ·have HNG:=aK hneg
       have HBD:=aK (show BitBad s a from .inr (.inr ⟨ha,H92.out,HEV.out,fun _ hk=>by
        have hk1:k=0∨k=1∨k=2∨k=3:=by omega
        obtain⟨g0,g1,g2,g3⟩:=hk;have h:=HNG.out;rcases hk1 with rfl|rfl|rfl|rfl
        ·rw[show a+2+0=a+2 by omega]at h;omega
        ·rw[show a+2+1=a+3 by omega]at h;omega
        ·rw[show a+2+2=a+4 by omega]at h;omega
        ·rw[show a+2+3=a+5 by omega]at h;omega⟩))
       have HXA:=aK (fun W=>hexa_any (bt s (a+2+k:Nat)) W hby.1 hby.2);clear HNG;generalize hexV (bt s (a+2+k:Nat))=d at *;cases uns with
       | true=>
        have HE:Aside0 (EscEnd w base b s p0 a v true l (.returned (.tuple #[.string ⟨#[]⟩,.int .i64 0])) (w.setCell ⟨b,4,none⟩ (.bool true))):=⟨true,LexAt.set4 hL true,RowAt.setb hne HR.out,below_setb (Below.refl _ _) hB,.inl ⟨rfl,fun h=>by cases h⟩⟩
        go_wp2_with (first|(go_at_call 103;refine(HN2.out _ _ (a+2+k) (by omega) (by exact c0)).mono ?_;rintro e w' ⟨rfl,rfl⟩)|(go_at_call 118;refine(HXA.out _).mono ?_;rintro e w' ⟨rfl,rfl⟩))
        refine bodyPost_ret (v:=.tuple #[.string ⟨#[]⟩,.int .i64 0]) (by simp[results,Tryz.results114,go_sem]) rfl HE.out
       | false=>
        have HE:Aside0 (∀q:Bool,EscEnd w base b s p0 a v false l (.returned (.tuple #[.string ⟨#[]⟩,.int .i64 0])) (w.setCell ⟨b,4,none⟩ (.bool q))):=⟨fun q=>⟨q,LexAt.set4 hL q,RowAt.setb hne HR.out,below_setb (Below.refl _ _) hB,.inl ⟨rfl,fun _=>⟨rfl,HBD.out⟩⟩⟩⟩
        go_wp2_with (first|(go_at_call 103;refine(HN2.out _ _ (a+2+k) (by omega) (by exact c0)).mono ?_;rintro e w' ⟨rfl,rfl⟩)|(go_at_call 118;refine(HXA.out _).mono ?_;rintro e w' ⟨rfl,rfl⟩))
        refine bodyPost_ret (v:=.tuple #[.string ⟨#[]⟩,.int .i64 0]) (by simp[results,Tryz.results114,go_sem]) rfl (HE.out _)
      ·have HXA:=aK (fun W=>hexa_any (bt s (a+2+k:Nat)) W hby.1 hby.2)
       have HGK:=aK (show goodH s a (k+1)from fun j hj=>by
        rcases Nat.lt_or_ge j k with h|h
        ·exact HG.out j h
        ·obtain rfl:j=k:=by omega
         omega)
       have HAC:=aK (show 16*accH s a k+hexV (bt s (a+2+k:Nat))=accH s a (k+1)from rfl)
       have hd0:¬hexV (bt s (a+2+k:Nat))<0:=hneg;clear hneg HG;generalize hexV (bt s (a+2+k:Nat))=d at *;generalize accH s a k=n0 at *
       go_wp2_with (first|(go_at_call 103;refine(HN2.out _ _ (a+2+k) (by omega) (by exact c0)).mono ?_;rintro e w' ⟨rfl,rfl⟩)|(go_at_call 118;refine(HXA.out _).mono ?_;rintro e w' ⟨rfl,rfl⟩))
       go_round
       case rel=>exact⟨k+1,by omega,by rw[←HAC.out],by go_num,HGK.out⟩
       case measure=>simp[intOf];omega
     ·obtain rfl:k=4:=by omega
      have hge2:¬((a+2+4:Nat):Int)<(a:Int)+6:=by omega
      have HOK:=aK (goodH_ok HG.out);have h5:a+5<s.size:=hex_in (HG.out 3 (by omega))
      rw[accH_uni]at hr0 hb4 ⊢;have huv2:uniV s a≤65535:=by
       have:=hx_range (bt s (a+2:Nat));have:=hx_range (bt s (a+3:Nat));have:=hx_range (bt s (a+4:Nat));have:=hx_range (bt s (a+5:Nat));unfold uniV;rw[←hx_hexV,←hx_hexV,←hx_hexV,←hx_hexV];omega
      by_cases hsur:55296≤uniV s a∧uniV s a<57344
      ·obtain⟨g1,g2⟩:=hsur
       have HE:Aside0 (EscEnd w base b s p0 a v uns l (.returned (.tuple #[.string ⟨#[]⟩,.int .i64 0])) (w.setCell ⟨b,4,none⟩ (.bool true))):=⟨true,LexAt.set4 hL true,RowAt.setb hne HR.out,below_setb (Below.refl _ _) hB,.inl ⟨rfl,fun h=>by cases h⟩⟩
       clear HOK HG HEV;generalize uniV s a=n at *
       go_wp2_with fail
       refine bodyPost_ret (v:=.tuple #[.string ⟨#[]⟩,.int .i64 0]) (by simp[results,Tryz.results114,go_sem]) rfl HE.out
      ·have hsur2:uniV s a<55296∨57344≤uniV s a:=by omega
       have HEN:=aK (fun W=>encoded_int (uniV s a) W hr0 huv2 hsur2);have HSU:=aK (show ¬(55296≤uniV s a∧uniV s a≤57343) by omega)
       have HM:=aK (show ∀x:Int,x=uniV s a→x≠0→0≤x→1≤uniV s a from fun x h1 h2 h3=>by omega)
       have HBU:Aside0 (uniV s a≠0→Bit s a (a+6) (enc (uniV s a))):=⟨fun h=>Bit.uni h5 H92.out HU.out HOK.out (by omega) HSU.out⟩
       clear hsur huv2 HSU HM HOK HG HEV;generalize uniV s a=m at *;have HEE:Aside0 (∀(u:Bool) (W:World),(u=false→uns=false∧m≠0)→LexAt W b s p0 v false u→RowAt W base v (l.map cv)→Below base w W→EscEnd w base b s p0 a v uns l (.returned (.tuple #[.string (enc m),.int .i64 6])) W):=⟨fun u W h h1 h2 h3=>⟨u,h1,h2,h3,.inr ⟨6,enc m,rfl,by omega,by omega,enc_le _,fun hu=>⟨(h hu).1,HBU.out (h hu).2⟩⟩⟩⟩
       cases uns with
       | true=>
        rcases hsur2 with hsur2|hsur2
        all_goals
         have hw4:Aside0 (LexAt (w.setCell ⟨b,4,none⟩ (.bool true)) b s p0 v false true∧RowAt (w.setCell ⟨b,4,none⟩ (.bool true)) base v (l.map cv)∧Below base w (w.setCell ⟨b,4,none⟩ (.bool true))):=⟨LexAt.set4 hL true,RowAt.setb hne HR.out,below_setb (Below.refl _ _) hB⟩
         go_wp2_with (go_at_call 119;refine(HEN.out _).mono ?_;rintro e w' ⟨rfl,hbe⟩)
         have hbs:=hbe.size;refine bodyPost_ret (v:=.tuple #[.string (enc m),.int .i64 6]) (by simp[results,Tryz.results114,go_sem]) rfl (HEE.out true _ (fun h=>by cases h) (Blk.below hw4.out.1 hbe (Blk.lt hw4.out.1)) (hw4.out.2.1.below hbe) (hw4.out.2.2.trans (hbe.mono (by have:=hw4.out.2.2.size;omega))))
       | false=>
        by_cases hm0:m=0
        ·have hz:(m==0)=true:=by rw[hm0];rfl
         have HM0:=aK hm0;have hw4:Aside0 (LexAt (w.setCell ⟨b,4,none⟩ (.bool true)) b s p0 v false true∧RowAt (w.setCell ⟨b,4,none⟩ (.bool true)) base v (l.map cv)∧Below base w (w.setCell ⟨b,4,none⟩ (.bool true))):=⟨LexAt.set4 hL true,RowAt.setb hne HR.out,below_setb (Below.refl _ _) hB⟩;clear hm0;rcases hsur2 with hsur2|hsur2
         all_goals
          go_wp2_with (go_at_call 119;refine(HEN.out _).mono ?_;rintro e w' ⟨rfl,hbe⟩)
          refine bodyPost_ret (v:=.tuple #[.string (enc m),.int .i64 6]) (by simp[results,Tryz.results114,go_sem]) rfl (HEE.out true _ (fun h=>by cases h) (Blk.below hw4.out.1 hbe (Blk.lt hw4.out.1)) (hw4.out.2.1.below hbe) (hw4.out.2.2.trans (hbe.mono (by have:=hw4.out.2.2.size;omega))))
        ·have hz:(m==0)=false:=beq_eq_false_iff_ne.2 hm0
         have HM0:=aK hm0;have hw4:Aside0 (LexAt (w.setCell ⟨b,4,none⟩ (.bool false)) b s p0 v false false∧RowAt (w.setCell ⟨b,4,none⟩ (.bool false)) base v (l.map cv)∧Below base w (w.setCell ⟨b,4,none⟩ (.bool false))):=⟨LexAt.set4 hL false,RowAt.setb hne HR.out,below_setb (Below.refl _ _) hB⟩;clear hm0;rcases hsur2 with hsur2|hsur2
         all_goals
          go_wp2_with (go_at_call 119;refine(HEN.out _).mono ?_;rintro e w' ⟨rfl,hbe⟩)
          refine bodyPost_ret (v:=.tuple #[.string (enc m),.int .i64 6]) (by simp[results,Tryz.results114,go_sem]) rfl (HEE.out false _ (fun _=>⟨by first|rfl|trivial,HM0.out⟩) (Blk.below hw4.out.1 hbe (Blk.lt hw4.out.1)) (hw4.out.2.1.below hbe) (hw4.out.2.2.trans (hbe.mono (by have:=hw4.out.2.2.size;omega))))
   ·have hcb:(c != 117)=true:=bne_iff_ne.2 hcc
    have HE:Aside0 (EscEnd w base b s p0 a v uns l (.returned (.tuple #[.string ⟨#[]⟩,.int .i64 0])) w):=⟨uns,hL,HR.out,Below.refl _ _,.inl ⟨rfl,fun hu=>⟨hu,.inr (.inr ⟨ha,H92.out,HEV.out,fun h=>absurd (HC.out.symm.trans h) hcc⟩)⟩⟩⟩;clear hcc
    go_wp2_with fail
    refine bodyPost_ret (v:=.tuple #[.string ⟨#[]⟩,.int .i64 0]) (by simp[results,Tryz.results114,go_sem]) rfl HE.out
end Go.Proofs.YtjolkdnfbmkjiaaGreatDoor.Lex
