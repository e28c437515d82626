import Derived.Test.YtjolkdnfbmkjiaaGreatDoorVC4
import Derived.Test.YtjolkdnfbmkjiaaGreatDoorVA1
set_option maxRecDepth 100000
set_option maxHeartbeats 8000000
set_option linter.unusedVariables false
set_option linter.unusedSimpArgs false
namespace Go.Proofs.YtjolkdnfbmkjiaaGreatDoor.Lex
open Go.RowKit Mem Rel NameP Go.Proofs.YtjolkdnfbmkjiaaGreatDoorW.PrintWords Go.Proofs.YtjolkdnfbmkjiaaGreatDoorW.PrintLast
theorem TokEnd.drawn {w w':World} {n base b p:Nat} {s:ByteArray} {uns:Bool} {l:List Mod.Tok} (h:TokEnd (w.drewN n) base b s p uns l w'):TokEnd w base b s p uns l w':=by
 obtain⟨a,v',bad',uns',l',h1,h2,h3,h4⟩:=h;exact⟨a,v',bad',uns',l',h1,h2,⟨h3.os,h3.tape,h3.output,h3.size,h3.block⟩,h4⟩
theorem isWs_of {c:Int} (h:Mod.isWs c=true):c=32∨c=9∨c=10∨c=13∨c=44:=by
 unfold Mod.isWs at h;simp only[Bool.or_eq_true,beq_iff_eq]at h;omega
theorem no_start {s t:ByteArray} {p:Nat} (hp:p<s.size) (ht:0<t.size) (hne:bt s p≠bt t 0):startsB s p t=false:=extract_one s t p hp ht hne
theorem token_ws (b base p:Nat) (s:ByteArray) (v:Value) (uns:Bool) (l:List Mod.Tok) (w:World) (hL:LexAt w b s p v false uns) (hR:RowAt w base v (l.map cv)) (hbase:base≤w.heap.size) (hB:base≤b) (hs:s.size≤200000) (hp:p<s.size) (hll:l.length≤p) (hc:Mod.isWs (bt s p)=true) :
  Calls Tryz.prog 90 #[.pointer (some ⟨b,0,none⟩)] w fun e w'=>e = .returned (.tuple #[])∧TokEnd w base b s p uns l w':=by
 have c0:=hL.c0;have c1:=hL.c1;have c3:=hL.c3;have c4:=hL.c4;have hf1:=Blk.frozen hL 1;have hf3:=Blk.frozen hL 3;have hf4:=Blk.frozen hL 4;have hne:v.ownBlock≠some b:=own_blk_ne hR hL (by decide)
 have hp1:(p:Int)<(s.size:Int):=by omega
 have hbt:=bt_nat s p;have HR:=aK hR;clear hR;have HC:=aK hc;have hcs:=isWs_of hc;clear hc;have HE:Aside0 (∀W x,LexAt W b s x v false uns→x=(p:Int)+1→RowAt W base v (l.map cv)→Below base w W→TokEnd w base b s p uns l W):=⟨fun W x h1 hx h2 h3=>⟨p+1,v,false,uns,l,by rw[show((p+1:Nat):Int)=x by omega];exact h1,h2,h3,by omega,by omega,fun _=>by omega,fun hu=>⟨hu,.inl ⟨rfl,rfl,.ws hp HC.out (.refl _)⟩⟩⟩⟩
 generalize bt s p=c at *;rcases hcs with rfl|rfl|rfl|rfl|rfl
 all_goals
  go_enter Tryz.func90,Tryz.ntmps90
  go_wp2_with fail
  go_quiet (fail)
  go_wp2_with fail
  repeat (go_quiet (fail);try go_wp2_with fail)
  first|go_end0|refine bodyPost_ret (v:=.tuple #[]) (by simp[results,Tryz.results90,go_sem]) rfl ?_
  exact⟨rfl,HE.out _ _ vL (by first|rfl|omega) vS (by repeat (first|exact Below.refl _ _|apply pw_below_drewN|apply below_drew_|refine below_setb ?_ hB))⟩
theorem token_bom (b base p:Nat) (s:ByteArray) (v:Value) (uns:Bool) (l:List Mod.Tok) (w:World) (hL:LexAt w b s p v false uns) (hR:RowAt w base v (l.map cv)) (hbase:base≤w.heap.size) (hB:base≤b) (hs:s.size≤200000) (hp:p<s.size) (hll:l.length≤p) (hst:startsB s p bom=true) :
  Calls Tryz.prog 90 #[.pointer (some ⟨b,0,none⟩)] w fun e w'=>e = .returned (.tuple #[])∧TokEnd w base b s p uns l w':=by
 have c0:=hL.c0;have c1:=hL.c1;have c3:=hL.c3;have c4:=hL.c4;have hf1:=Blk.frozen hL 1;have hf3:=Blk.frozen hL 3;have hf4:=Blk.frozen hL 4;have hne:v.ownBlock≠some b:=own_blk_ne hR hL (by decide)
 have hp1:(p:Int)<(s.size:Int):=by omega
 have hbt:=bt_nat s p;have HR:=aK hR;clear hR;have hle:p+3≤s.size:=starts_le hst;have h239:bt s p=239:=by have h:=starts_bt hst 0 (by decide);rw[Nat.add_zero]at h;rw[h];exact bt_bom
 have HST1:=aK hst;have HE:Aside0 (∀W x,LexAt W b s x v false true→x=(p:Int)+3→RowAt W base v (l.map cv)→Below base w W→TokEnd w base b s p uns l W):=⟨fun W x h1 hx h2 h3=>⟨p+3,v,false,true,l,by rw[show((p+3:Nat):Int)=x by omega];exact h1,h2,h3,by omega,by omega,fun _=>by omega,fun hu=>(by cases hu)⟩⟩
 rw[h239]at hbt;clear hst h239;go_enter Tryz.func90,Tryz.ntmps90
 go_wp2_with fail
 go_quiet (fail)
 go_wp2_with fail
 go_quiet ((go_at_call 59;exact quietA (starts_yes s bom p _ (by omega) (by decide) (by omega) HST1.out)))
 go_wp2_with fail
 repeat (go_quiet (fail);try go_wp2_with fail)
 first|go_end0|refine bodyPost_ret (v:=.tuple #[]) (by simp[results,Tryz.results90,go_sem]) rfl ?_
 exact⟨rfl,HE.out _ _ vL (by first|rfl|omega) vS (by repeat (first|exact Below.refl _ _|apply pw_below_drewN|apply below_drew_|refine below_setb ?_ hB))⟩
theorem token_com (b base p:Nat) (s:ByteArray) (v:Value) (uns:Bool) (l:List Mod.Tok) (w:World) (hL:LexAt w b s p v false uns) (hR:RowAt w base v (l.map cv)) (hbase:base≤w.heap.size) (hB:base≤b) (hs:s.size≤200000) (hp:p<s.size) (hll:l.length≤p) (h35:bt s p=35) :
  Calls Tryz.prog 90 #[.pointer (some ⟨b,0,none⟩)] w fun e w'=>e = .returned (.tuple #[])∧TokEnd w base b s p uns l w':=by
 have c0:=hL.c0;have c1:=hL.c1;have c3:=hL.c3;have c4:=hL.c4;have hf1:=Blk.frozen hL 1;have hf3:=Blk.frozen hL 3;have hf4:=Blk.frozen hL 4;have hne:v.ownBlock≠some b:=own_blk_ne hR hL (by decide)
 have hp1:(p:Int)<(s.size:Int):=by omega
 have hbt:=bt_nat s p;have HR:=aK hR;clear hR;have HST1:=aK (no_start (t:=bom) hp (by decide) (by rw[bt_bom];omega))
 have HCO:=aK (fun W h1 h2 h3=>comment_any b base s p v uns (l.map cv) W h1 h2 h3 hB hs hp h35);have HE:Aside0 (∀n W,ComEnd (w.drewN n) base b s p v uns (l.map cv) W→TokEnd w base b s p uns l W):=⟨fun n W h=>by
  obtain⟨a,bad',uns',h1,h2,h3,h4,h5,h6,h7⟩:=h;exact⟨a,v,bad',uns',l,h1,h2,⟨h3.os,h3.tape,h3.output,h3.size,h3.block⟩,h5,by omega,h6,fun hu=>⟨(h7 hu).1,.inl ⟨(h7 hu).2.1,rfl,.com hp h35 (h7 hu).2.2 (.refl _)⟩⟩⟩⟩
 rw[h35]at hbt;clear h35;go_enter Tryz.func90,Tryz.ntmps90
 go_wp2_with fail
 go_quiet (fail)
 go_wp2_with fail
 go_quiet ((go_at_call 59;exact quietA (starts_no s bom p _ (by omega) (by decide) (by omega) HST1.out)))
 go_wp2_with fail
 go_wp2_with (go_at_call 100;refine(HCO.out _ (by exact hL) (by exact HR.out) (by exact hbase)).mono ?_;rintro e w' ⟨rfl,hce⟩)
 have HEE:=aK (HE.out _ _ hce);clear hce
 go_wp2_with fail
 first|go_end0|refine bodyPost_ret (v:=.tuple #[]) (by simp[results,Tryz.results90,go_sem]) rfl ?_
 exact⟨rfl,HEE.out⟩
theorem token_str (b base p:Nat) (s:ByteArray) (v:Value) (uns:Bool) (l:List Mod.Tok) (w:World) (hL:LexAt w b s p v false uns) (hR:RowAt w base v (l.map cv)) (hbase:base≤w.heap.size) (hB:base≤b) (hs:s.size≤200000) (hp:p<s.size) (hll:l.length≤p) (h34:bt s p=34) (h3:¬three s p) :
  Calls Tryz.prog 90 #[.pointer (some ⟨b,0,none⟩)] w fun e w'=>e = .returned (.tuple #[])∧TokEnd w base b s p uns l w':=by
 have c0:=hL.c0;have c1:=hL.c1;have c3:=hL.c3;have c4:=hL.c4;have hf1:=Blk.frozen hL 1;have hf3:=Blk.frozen hL 3;have hf4:=Blk.frozen hL 4;have hne:v.ownBlock≠some b:=own_blk_ne hR hL (by decide)
 have hp1:(p:Int)<(s.size:Int):=by omega
 have hbt:=bt_nat s p;have HR:=aK hR;clear hR;have HST3:=aK (show startsB s p quotes=false from Bool.eq_false_iff.2 fun h=>h3 (three_starts.2 h))
 have HNB:=aK (fun W h1 h2 h4=>text_any b base p s v uns l W h1 h2 h4 hB hs hp hll h34 h3);have HST1:=aK (no_start (t:=bom) hp (by decide) (by rw[bt_bom];omega))
 have HST2:=aK (no_start (t:=dots) hp (by decide) (by rw[bt_dots];omega))
 rw[h34]at hbt;clear h34 h3;go_enter Tryz.func90,Tryz.ntmps90
 go_wp2_with fail
 go_quiet (fail)
 go_wp2_with fail
 go_quiet ((go_at_call 59;exact quietA (starts_no s bom p _ (by omega) (by decide) (by omega) HST1.out)))
 go_wp2_with fail
 go_quiet ((go_at_call 59;exact quietA (starts_no s dots p _ (by omega) (by decide) (by omega) HST2.out)))
 go_wp2_with fail
 go_wp2_with (first|(go_at_call 102;refine(sign_zero 34 _ (by decide)).mono ?_;rintro e w' ⟨rfl,rfl⟩)|(go_at_call 32;refine(isBegin_no 34 _ (by decide)).mono ?_;rintro e w' ⟨rfl,rfl⟩)|(go_at_call 33;refine(isDigit_no 34 _ (by decide)).mono ?_;rintro e w' ⟨rfl,rfl⟩))
 go_quiet ((go_at_call 59;exact quietA (starts_no s quotes p _ (by omega) (by decide) (by omega) HST3.out)))
 go_wp2_with (go_at_call 106;refine(HNB.out _ (by exact hL) (by exact HR.out) (by exact hbase)).mono ?_;rintro e w' ⟨rfl,hce⟩)
 have HEE:=aK hce.drawn;clear hce
 go_wp2_with fail
 first|go_end0|refine bodyPost_ret (v:=.tuple #[]) (by simp[results,Tryz.results90,go_sem]) rfl ?_
 exact⟨rfl,HEE.out⟩
theorem token_bad (b base p:Nat) (s:ByteArray) (v:Value) (uns:Bool) (l:List Mod.Tok) (w:World) (hL:LexAt w b s p v false uns) (hR:RowAt w base v (l.map cv)) (hbase:base≤w.heap.size) (hB:base≤b) (hs:s.size≤200000) (hp:p<s.size) (hll:l.length≤p) (hw:Mod.isWs (bt s p)=false) (h35:bt s p≠35) (h34:bt s p≠34) (h45:bt s p≠45) (hk:Mod.signK (bt s p)=0) (hl:Mod.isLet (bt s p)=false) (hd:Mod.isDig (bt s p)=false) (hbm:startsB s p bom=false) (hdt:startsB s p dots=false) :
  Calls Tryz.prog 90 #[.pointer (some ⟨b,0,none⟩)] w fun e w'=>e = .returned (.tuple #[])∧TokEnd w base b s p uns l w':=by
 have c0:=hL.c0;have c1:=hL.c1;have c3:=hL.c3;have c4:=hL.c4;have hf1:=Blk.frozen hL 1;have hf3:=Blk.frozen hL 3;have hf4:=Blk.frozen hL 4;have hne:v.ownBlock≠some b:=own_blk_ne hR hL (by decide)
 have hp1:(p:Int)<(s.size:Int):=by omega
 have hbt:=bt_nat s p;have HR:=aK hR;clear hR;have HBD:=aK (show BadAt s p from .chr hp hw h35 h34 h45 hk hl hd (fun h=>by
  obtain⟨g0,g1,g2⟩:=h;have h3:p+2<s.size:=in_of (by rw[g2];decide)
  have h4:=starts_of (s:=s) (t:=dots) (p:=p) (by show p+3≤_;omega) (fun j hj=>by
   have hj:j<3:=hj;have hc:j=0∨j=1∨j=2:=by omega
   rcases hc with rfl|rfl|rfl
   ·rw[Nat.add_zero,g0];decide +kernel
   ·rw[g1];decide +kernel
   ·rw[g2];decide +kernel)
  rw[hdt]at h4;cases h4) (fun h128 hr=>by
  obtain⟨g0,g1,g2⟩:=rune_bom hp (by omega) hr
  have h3:p+2<s.size:=in_of (by rw[g2];decide)
  have h4:=starts_of (s:=s) (t:=bom) (p:=p) (by show p+3≤_;omega) (fun j hj=>by
   have hj:j<3:=hj;have hc:j=0∨j=1∨j=2:=by omega
   rcases hc with rfl|rfl|rfl
   ·rw[Nat.add_zero,g0];decide +kernel
   ·rw[g1];decide +kernel
   ·rw[g2];decide +kernel)
  rw[hbm]at h4;cases h4))
 have HST1:=aK hbm;have HST2:=aK hdt;have HST3:=aK (no_start (t:=quotes) hp (by decide) (by rw[bt_quotes];exact h34))
 have HSG:=aK ((signOf_K _).trans hk);have HBG:=aK ((isBeginB_let _).trans hl);have HDG:=aK ((isDigitB_dig _).trans hd);have hws:bt s p≠9∧bt s p≠32∧bt s p≠10∧bt s p≠13∧bt s p≠44:=by
  unfold Mod.isWs at hw;simp only[Bool.or_eq_false_iff,beq_eq_false_iff_ne]at hw;omega
 have HE:Aside0 (∀W x,LexAt W b s x v true uns→x=(p:Int)→RowAt W base v (l.map cv)→Below base w W→TokEnd w base b s p uns l W):=⟨fun W x h1 hx h2 h4=>by subst hx;exact end_bad h1 h2 h4 (by omega) hll (fun hu=>⟨hu,HBD.out⟩)⟩
 clear hw hk hl hd hbm hdt;generalize bt s p=c at *;have d0:(c==32)=false:=beq_eq_false_iff_ne.2 (by omega)
 have d1:(c==9)=false:=beq_eq_false_iff_ne.2 (by omega)
 have d2:(c==10)=false:=beq_eq_false_iff_ne.2 (by omega)
 have d3:(c==13)=false:=beq_eq_false_iff_ne.2 (by omega)
 have d4:(c==44)=false:=beq_eq_false_iff_ne.2 (by omega)
 have d5:(c==35)=false:=beq_eq_false_iff_ne.2 (by omega)
 have d45:(c==45)=false:=beq_eq_false_iff_ne.2 h45;have d34:(c==34)=false:=beq_eq_false_iff_ne.2 h34;clear hws h35 h34 h45;go_enter Tryz.func90,Tryz.ntmps90
 go_wp2_with fail
 go_quiet (fail)
 go_wp2_with fail
 go_quiet ((go_at_call 59;exact quietA (starts_no s bom p _ (by omega) (by decide) (by omega) HST1.out)))
 go_wp2_with fail
 go_quiet ((go_at_call 59;exact quietA (starts_no s dots p _ (by omega) (by decide) (by omega) HST2.out)))
 go_wp2_with fail
 go_wp2_with (first|(go_at_call 102;refine(sign_zero c _ HSG.out).mono ?_;rintro e w' ⟨rfl,rfl⟩)|(go_at_call 32;refine(isBegin_no c _ HBG.out).mono ?_;rintro e w' ⟨rfl,rfl⟩)|(go_at_call 33;refine(isDigit_no c _ HDG.out).mono ?_;rintro e w' ⟨rfl,rfl⟩))
 go_quiet ((go_at_call 59;exact quietA (starts_no s quotes p _ (by omega) (by decide) (by omega) HST3.out)))
 go_wp2_with (go_at_call 107;refine(fail_any b s p v false uns _ (by exact hL)).mono ?_;rintro e w' ⟨rfl,rfl⟩)
 first|go_end0|refine bodyPost_ret (v:=.tuple #[]) (by simp[results,Tryz.results90,go_sem]) rfl ?_
 exact⟨rfl,HE.out _ _ vL (by first|rfl|omega) vS (by repeat (first|exact Below.refl _ _|apply pw_below_drewN|apply below_drew_|refine below_setb ?_ hB))⟩
theorem token_num (b base p:Nat) (s:ByteArray) (v:Value) (uns:Bool) (l:List Mod.Tok) (w:World) (hL:LexAt w b s p v false uns) (hR:RowAt w base v (l.map cv)) (hbase:base≤w.heap.size) (hB:base≤b) (hs:s.size≤200000) (hp:p<s.size) (hll:l.length≤p) (hd:bt s p=45∨Mod.isDig (bt s p)=true) :
  Calls Tryz.prog 90 #[.pointer (some ⟨b,0,none⟩)] w fun e w'=>e = .returned (.tuple #[])∧TokEnd w base b s p uns l w':=by
 have c0:=hL.c0;have c1:=hL.c1;have c3:=hL.c3;have c4:=hL.c4;have hf1:=Blk.frozen hL 1;have hf3:=Blk.frozen hL 3;have hf4:=Blk.frozen hL 4;have hne:v.ownBlock≠some b:=own_blk_ne hR hL (by decide)
 have hp1:(p:Int)<(s.size:Int):=by omega
 have hbt:=bt_nat s p;have HR:=aK hR;clear hR;have HNB:=aK (fun W h1 h2 h3=>number_any b base p s v uns l W h1 h2 h3 hB hs hp hll hd);have hcs:bt s p=45∨(48≤bt s p∧bt s p≤57∧Mod.isDig (bt s p)=true):=by
  rcases hd with h|h
  ·exact .inl h
  ·have h2:=h
   unfold Mod.isDig at h2;simp only[Bool.and_eq_true,decide_eq_true_eq]at h2;exact .inr ⟨h2.1,h2.2,h⟩
 have HST1:=aK (no_start (t:=bom) hp (by decide) (by rw[bt_bom];omega))
 have HST2:=aK (no_start (t:=dots) hp (by decide) (by rw[bt_dots];omega))
 have HSG:=aK (show signOf (bt s p)=0 by
  rw[signOf_K];unfold Mod.signK;omega)
 have HBG:=aK (show isBeginB (bt s p)=false by
  rw[isBeginB_let];unfold Mod.isLet;simp only[Bool.or_eq_false_iff,Bool.and_eq_false_iff,decide_eq_false_iff_not,beq_eq_false_iff_ne];omega)
 have HDG:Aside0 (Mod.isDig (bt s p)=true→isDigitB (bt s p)=true):=⟨fun h=>(isDigitB_dig _).trans h⟩;clear hd;generalize bt s p=c at *;have d0:(c==32)=false:=beq_eq_false_iff_ne.2 (by omega)
 have d1:(c==9)=false:=beq_eq_false_iff_ne.2 (by omega)
 have d2:(c==10)=false:=beq_eq_false_iff_ne.2 (by omega)
 have d3:(c==13)=false:=beq_eq_false_iff_ne.2 (by omega)
 have d4:(c==44)=false:=beq_eq_false_iff_ne.2 (by omega)
 have d5:(c==35)=false:=beq_eq_false_iff_ne.2 (by omega)
 rcases hcs with rfl|⟨g1,g2,g3⟩
 ·go_enter Tryz.func90,Tryz.ntmps90
  go_wp2_with fail
  go_quiet (fail)
  go_wp2_with fail
  go_quiet ((go_at_call 59;exact quietA (starts_no s bom p _ (by omega) (by decide) (by omega) HST1.out)))
  go_wp2_with fail
  go_quiet ((go_at_call 59;exact quietA (starts_no s dots p _ (by omega) (by decide) (by omega) HST2.out)))
  go_wp2_with fail
  go_wp2_with (first|(go_at_call 102;refine(sign_zero 45 _ HSG.out).mono ?_;rintro e w' ⟨rfl,rfl⟩)|(go_at_call 32;refine(isBegin_no 45 _ HBG.out).mono ?_;rintro e w' ⟨rfl,rfl⟩)|(go_at_call 104;refine(HNB.out _ (by exact hL) (by exact HR.out) (by exact hbase)).mono ?_;rintro e w' ⟨rfl,hce⟩))
  have HEE:=aK hce.drawn;clear hce
  go_wp2_with fail
  first|go_end0|refine bodyPost_ret (v:=.tuple #[]) (by simp[results,Tryz.results90,go_sem]) rfl ?_
  exact⟨rfl,HEE.out⟩
 ·have HDG:=aK (HDG.out g3)
  have d45:(c==45)=false:=beq_eq_false_iff_ne.2 (by omega)
  clear g3;go_enter Tryz.func90,Tryz.ntmps90
  go_wp2_with fail
  go_quiet (fail)
  go_wp2_with fail
  go_quiet ((go_at_call 59;exact quietA (starts_no s bom p _ (by omega) (by decide) (by omega) HST1.out)))
  go_wp2_with fail
  go_quiet ((go_at_call 59;exact quietA (starts_no s dots p _ (by omega) (by decide) (by omega) HST2.out)))
  go_wp2_with fail
  go_wp2_with (first|(go_at_call 102;refine(sign_zero c _ HSG.out).mono ?_;rintro e w' ⟨rfl,rfl⟩)|(go_at_call 32;refine(isBegin_no c _ HBG.out).mono ?_;rintro e w' ⟨rfl,rfl⟩)|(go_at_call 33;refine(isDigit_yes c _ HDG.out).mono ?_;rintro e w' ⟨rfl,rfl⟩)|(go_at_call 104;refine(HNB.out _ (by exact hL) (by exact HR.out) (by exact hbase)).mono ?_;rintro e w' ⟨rfl,hce⟩))
  have HEE:=aK hce.drawn;clear hce
  go_wp2_with fail
  first|go_end0|refine bodyPost_ret (v:=.tuple #[]) (by simp[results,Tryz.results90,go_sem]) rfl ?_
  exact⟨rfl,HEE.out⟩
theorem token_blk (b base p:Nat) (s:ByteArray) (v:Value) (uns:Bool) (l:List Mod.Tok) (w:World) (hL:LexAt w b s p v false uns) (hR:RowAt w base v (l.map cv)) (hbase:base≤w.heap.size) (hB:base≤b) (hs:s.size≤200000) (hp:p<s.size) (hll:l.length≤p) (h3:three s p) :
  Calls Tryz.prog 90 #[.pointer (some ⟨b,0,none⟩)] w fun e w'=>e = .returned (.tuple #[])∧TokEnd w base b s p uns l w':=by
 have c0:=hL.c0;have c1:=hL.c1;have c3:=hL.c3;have c4:=hL.c4;have hf1:=Blk.frozen hL 1;have hf3:=Blk.frozen hL 3;have hf4:=Blk.frozen hL 4;have hne:v.ownBlock≠some b:=own_blk_ne hR hL (by decide)
 have hp1:(p:Int)<(s.size:Int):=by omega
 have hbt:=bt_nat s p;have HR:=aK hR;clear hR;have hst:=three_starts.1 h3;have hle:p+3≤s.size:=starts_le hst;have HNB:=aK (fun W h1 h2 h4=>block_any b base p s v uns l W h1 h2 h4 hB hs hle hll h3);have h34:bt s p=34:=h3.1;have HST3:=aK hst;have HST1:=aK (no_start (t:=bom) hp (by decide) (by rw[bt_bom];omega))
 have HST2:=aK (no_start (t:=dots) hp (by decide) (by rw[bt_dots];omega))
 rw[h34]at hbt;clear hst h34 h3;go_enter Tryz.func90,Tryz.ntmps90
 go_wp2_with fail
 go_quiet (fail)
 go_wp2_with fail
 go_quiet ((go_at_call 59;exact quietA (starts_no s bom p _ (by omega) (by decide) (by omega) HST1.out)))
 go_wp2_with fail
 go_quiet ((go_at_call 59;exact quietA (starts_no s dots p _ (by omega) (by decide) (by omega) HST2.out)))
 go_wp2_with fail
 go_wp2_with (first|(go_at_call 102;refine(sign_zero 34 _ (by decide)).mono ?_;rintro e w' ⟨rfl,rfl⟩)|(go_at_call 32;refine(isBegin_no 34 _ (by decide)).mono ?_;rintro e w' ⟨rfl,rfl⟩)|(go_at_call 33;refine(isDigit_no 34 _ (by decide)).mono ?_;rintro e w' ⟨rfl,rfl⟩))
 go_quiet ((go_at_call 59;exact quietA (starts_yes s quotes p _ (by omega) (by decide) (by omega) HST3.out)))
 go_wp2_with (go_at_call 105;refine(HNB.out _ (by exact hL) (by exact HR.out) (by exact hbase)).mono ?_;rintro e w' ⟨rfl,hce⟩)
 have HEE:=aK hce.drawn;clear hce
 go_wp2_with fail
 first|go_end0|refine bodyPost_ret (v:=.tuple #[]) (by simp[results,Tryz.results90,go_sem]) rfl ?_
 exact⟨rfl,HEE.out⟩
theorem token_dots (b base p:Nat) (s:ByteArray) (v:Value) (uns:Bool) (l:List Mod.Tok) (w:World) (hL:LexAt w b s p v false uns) (hR:RowAt w base v (l.map cv)) (hbase:base≤w.heap.size) (hB:base≤b) (hs:s.size≤200000) (hp:p<s.size) (hll:l.length≤p) (hst:startsB s p dots=true) :
  Calls Tryz.prog 90 #[.pointer (some ⟨b,0,none⟩)] w fun e w'=>e = .returned (.tuple #[])∧TokEnd w base b s p uns l w':=by
 have c0:=hL.c0;have c1:=hL.c1;have c3:=hL.c3;have c4:=hL.c4;have hf1:=Blk.frozen hL 1;have hf3:=Blk.frozen hL 3;have hf4:=Blk.frozen hL 4;have hne:v.ownBlock≠some b:=own_blk_ne hR hL (by decide)
 have hp1:(p:Int)<(s.size:Int):=by omega
 have hbt:=bt_nat s p;have HR:=aK hR;clear hR;have hle:p+3≤s.size:=starts_le hst;have h46:bt s p=46:=by have h:=starts_bt hst 0 (by decide);rw[Nat.add_zero]at h;rw[h];exact bt_dots
 have HDO:=aK (show bt s (p+1:Nat)=46∧bt s (p+2:Nat)=46 from⟨(starts_bt hst 1 (by decide)).trans (by decide +kernel),(starts_bt hst 2 (by decide)).trans (by decide +kernel)⟩)
 have HST1:=aK (no_start (t:=bom) hp (by decide) (by rw[bt_bom];omega))
 have HST2:=aK hst;have HEG:Aside0 (∀W v',LexAt W b s (p+3:Nat) v' false uns→W.ownsRow base 56 4 v' ((l.map cv).length+1) (toks (l.map cv++[⟨6,⟨#[]⟩,p,(p+3:Nat)⟩]))→Below base w W→TokEnd w base b s p uns l W):=⟨fun W v' h1 h2 h3=>end_add ⟨6,p,p+3,⟨#[]⟩⟩ h1 h2 h3 (by show p<p+3;omega) (by show p+3≤_;omega) hll (fun hu=>⟨hu,.dots h46 HDO.out.1 HDO.out.2⟩)⟩
 rw[h46]at hbt;clear hst h46;have hcast:((p+3:Nat):Int)=(p:Int)+3:=by omega
 rw[hcast]at HEG;go_enter Tryz.func90,Tryz.ntmps90
 go_wp2_with fail
 go_quiet (fail)
 go_wp2_with fail
 go_quiet ((go_at_call 59;exact quietA (starts_no s bom p _ (by omega) (by decide) (by omega) HST1.out)))
 go_wp2_with fail
 go_quiet ((go_at_call 59;exact quietA (starts_yes s dots p _ (by omega) (by decide) (by omega) HST2.out)))
 go_wp2_with fail
 first|go_region_with ((go_at_call 101;refine(add_any b base 6 ((p:Int)+3) ⟨#[]⟩ s p v false uns (l.map cv) _ (by exact hL) (by exact HR.out) (by exact hbase) hB (by rw[List.length_map];omega)).mono ?_;rintro e w' ⟨rfl,v',hL',hown',hbel'⟩))|((refine(add_any b base 6 ((p:Int)+3) ⟨#[]⟩ s p v false uns (l.map cv) _ (by exact hL) (by exact HR.out) (by exact hbase) hB (by rw[List.length_map];omega)).mono ?_;rintro e w' ⟨rfl,v',hL',hown',hbel'⟩))
 all_goals
  have HEE:=aK (HEG.out _ v' hL' hown' ⟨hbel'.os,hbel'.tape,hbel'.output,hbel'.size,hbel'.block⟩);clear hL' hown' hbel'
  go_wp2_with fail
  first|go_end0|refine bodyPost_ret (v:=.tuple #[]) (by simp[results,Tryz.results90,go_sem]) rfl ?_
  exact⟨rfl,HEE.out⟩
theorem token_nam (b base p:Nat) (s:ByteArray) (v:Value) (uns:Bool) (l:List Mod.Tok) (w:World) (hL:LexAt w b s p v false uns) (hR:RowAt w base v (l.map cv)) (hbase:base≤w.heap.size) (hB:base≤b) (hs:s.size≤200000) (hp:p<s.size) (hll:l.length≤p) (hc:Mod.isLet (bt s p)=true) :
  Calls Tryz.prog 90 #[.pointer (some ⟨b,0,none⟩)] w fun e w'=>e = .returned (.tuple #[])∧TokEnd w base b s p uns l w':=by
 obtain⟨q0,q1,q2,q3⟩:=Step.scan_all Mod.isNam rfl s (p+1) (by omega)
 have h:=token_name b base s p (Mod.scan Mod.isNam s s.size (p+1)) v uns (l.map cv) w hL hR hbase hB (by rw[List.length_map];omega) (by omega) q0 q1 (by rw[isBeginB_let];exact hc) (fun i h1 h2=>by
  rw[inNameB_nam];rcases Nat.lt_or_ge p i with h3|h3
  ·exact q2 i h3 h2
  ·obtain rfl:i=p:=by omega
   unfold Mod.isNam;rw[hc];rfl) (by rw[inNameB_nam];exact q3)
 refine h.mono fun e w' hh=>?_;obtain⟨h1,v',h2,h3,h4⟩:=hh;exact⟨h1,end_add ⟨15,p,Mod.scan Mod.isNam s s.size (p+1),s.extract p (Mod.scan Mod.isNam s s.size (p+1))⟩ h2 (by simpa using h3) h4 q0 q1 hll (fun hu=>⟨hu,.name hc⟩)⟩
theorem sign_vals {c:Int} (h:Mod.signK c≠0):c=33∨c=36∨c=38∨c=40∨c=41∨c=58∨c=61∨c=64∨c=91∨c=93∨c=123∨c=124∨c=125:=by
 unfold Mod.signK at h;omega
theorem sign_is (c k:Int) (hk:signOf c=k) (w:World):Calls Tryz.prog 102 #[.int .u8 c] w fun e w'=>e = .returned (.int .i64 k)∧w=w':=by
 rw[←hk];exact sign_any c w
theorem token_sign (b base p:Nat) (s:ByteArray) (v:Value) (uns:Bool) (l:List Mod.Tok) (w:World) (hL:LexAt w b s p v false uns) (hR:RowAt w base v (l.map cv)) (hbase:base≤w.heap.size) (hB:base≤b) (hs:s.size≤200000) (hp:p<s.size) (hll:l.length≤p) (hk:Mod.signK (bt s p)≠0) :
  Calls Tryz.prog 90 #[.pointer (some ⟨b,0,none⟩)] w fun e w'=>e = .returned (.tuple #[])∧TokEnd w base b s p uns l w':=by
 have c0:=hL.c0;have c1:=hL.c1;have c3:=hL.c3;have c4:=hL.c4;have hf1:=Blk.frozen hL 1;have hf3:=Blk.frozen hL 3;have hf4:=Blk.frozen hL 4;have hne:v.ownBlock≠some b:=own_blk_ne hR hL (by decide)
 have hp1:(p:Int)<(s.size:Int):=by omega
 have hbt:=bt_nat s p;have HR:=aK hR;clear hR;have hcs:=sign_vals hk;have HST1:=aK (no_start (t:=bom) hp (by decide) (by rw[bt_bom];omega))
 have HST2:=aK (no_start (t:=dots) hp (by decide) (by rw[bt_dots];omega))
 have HEG:Aside0 (∀W v',LexAt W b s (p+1:Nat) v' false uns→W.ownsRow base 56 4 v' ((l.map cv).length+1) (toks (l.map cv++[⟨Mod.signK (bt s p),⟨#[]⟩,p,(p+1:Nat)⟩]))→Below base w W→TokEnd w base b s p uns l W):=⟨fun W v' h1 h2 h3=>end_add ⟨Mod.signK (bt s p),p,p+1,⟨#[]⟩⟩ h1 h2 h3 (by show p<p+1;omega) (by show p+1≤_;omega) hll (fun hu=>⟨hu,.sign hp hk⟩)⟩
 clear hk;have hcast:((p+1:Nat):Int)=(p:Int)+1:=by omega
 rw[hcast]at HEG;generalize bt s p=c at *;have hkk:0<Mod.signK c:=by
  rcases hcs with h|h|h|h|h|h|h|h|h|h|h|h|h<;>rw[h]<;>decide
 have HSG:=aK (signOf_K c);generalize Mod.signK c=k at *;have d0:(c==32)=false:=beq_eq_false_iff_ne.2 (by omega)
 have d1:(c==9)=false:=beq_eq_false_iff_ne.2 (by omega)
 have d2:(c==10)=false:=beq_eq_false_iff_ne.2 (by omega)
 have d3:(c==13)=false:=beq_eq_false_iff_ne.2 (by omega)
 have d4:(c==44)=false:=beq_eq_false_iff_ne.2 (by omega)
 have d5:(c==35)=false:=beq_eq_false_iff_ne.2 (by omega)
 clear hcs;go_enter Tryz.func90,Tryz.ntmps90
 go_wp2_with fail
 go_quiet (fail)
 go_wp2_with fail
 go_quiet ((go_at_call 59;exact quietA (starts_no s bom p _ (by omega) (by decide) (by omega) HST1.out)))
 go_wp2_with fail
 go_quiet ((go_at_call 59;exact quietA (starts_no s dots p _ (by omega) (by decide) (by omega) HST2.out)))
 go_wp2_with fail
 refine(sign_is c k HSG.out _).mono ?_;rintro e w' ⟨rfl,rfl⟩
 go_wp2_with fail
 have hw:IntKind.i64.wrap ((p:Int)+1)=(p:Int)+1:=by rw[IntKind.wrap_i64];omega
 have HW:=aK hw;clear hw
 go_region_with (first|(go_at_call 102;refine(sign_is c k HSG.out _).mono ?_;rintro e w' ⟨rfl,rfl⟩)|(go_at_call 101;refine(add_any b base k _ ⟨#[]⟩ s p v false uns (l.map cv) _ (by exact hL) (by exact HR.out) (by exact hbase) hB (by rw[List.length_map];omega)).mono ?_;rintro e w' ⟨rfl,v',hL',hown',hbel'⟩))
 all_goals
  have HEE:=aK (HEG.out _ v' (by have h:=hL';first|(rw[HW.out]at h;exact h)|exact h) (by have h:=hown';first|(rw[HW.out]at h;exact h)|exact h) ⟨hbel'.os,hbel'.tape,hbel'.output,hbel'.size,hbel'.block⟩)
  clear hL' hown' hbel'
  go_wp2_with fail
  first|go_end0|refine bodyPost_ret (v:=.tuple #[]) (by simp[results,Tryz.results90,go_sem]) rfl ?_
  exact⟨rfl,HEE.out⟩
theorem token_any (b base p:Nat) (s:ByteArray) (v:Value) (uns:Bool) (l:List Mod.Tok) (w:World) (hL:LexAt w b s p v false uns) (hR:RowAt w base v (l.map cv)) (hbase:base≤w.heap.size) (hB:base≤b) (hs:s.size≤200000) (hp:p<s.size) (hll:l.length≤p) :
  Calls Tryz.prog 90 #[.pointer (some ⟨b,0,none⟩)] w fun e w'=>e = .returned (.tuple #[])∧TokEnd w base b s p uns l w':=by
 cases hw:Mod.isWs (bt s p)with
 | true=>exact token_ws b base p s v uns l w hL hR hbase hB hs hp hll hw
 | false=>
  cases hb:startsB s p bom with
  | true=>exact token_bom b base p s v uns l w hL hR hbase hB hs hp hll hb
  | false=>
   by_cases h35:bt s p=35
   ·exact token_com b base p s v uns l w hL hR hbase hB hs hp hll h35
   ·cases hdt:startsB s p dots with
    | true=>exact token_dots b base p s v uns l w hL hR hbase hB hs hp hll hdt
    | false=>
     by_cases hk:Mod.signK (bt s p)=0
     ·cases hl:Mod.isLet (bt s p)with
      | true=>exact token_nam b base p s v uns l w hL hR hbase hB hs hp hll hl
      | false=>
       by_cases hd:bt s p=45∨Mod.isDig (bt s p)=true
       ·exact token_num b base p s v uns l w hL hR hbase hB hs hp hll hd
       ·by_cases h34:bt s p=34
        ·by_cases h3:three s p
         ·exact token_blk b base p s v uns l w hL hR hbase hB hs hp hll h3
         ·exact token_str b base p s v uns l w hL hR hbase hB hs hp hll h34 h3
        ·exact token_bad b base p s v uns l w hL hR hbase hB hs hp hll hw h35 h34 (fun h=>hd (.inl h)) hk hl (by cases hx:Mod.isDig (bt s p) with|true=>exact absurd (.inr hx) hd|false=>rfl) hb hdt
     ·exact token_sign b base p s v uns l w hL hR hbase hB hs hp hll hk
inductive Pre (s:ByteArray):List Mod.Tok→Nat→Prop
 | nil:Pre s [] 0
 | skip {l:List Mod.Tok} {p q:Nat}:Pre s l p→Skip s p q→Pre s l q
 | tok {l:List Mod.Tok} {p:Nat} {t:Mod.Tok}:Pre s l p→TokAt blkV s p t→Pre s (l++[t]) t.stop
theorem chain_skip {s:ByteArray} {T:Nat→Mod.Tok→Prop} {B:Nat→Prop} {whole:Bool} {p q:Nat} {r:List Mod.Tok} (h:Skip s p q) (hc:Chain s T B whole q r):Chain s T B whole p r:=by
 cases hc with
 | done h1 h2=>exact .done (h.trans h1) h2
 | more h1 h2 h3=>exact .more (h.trans h1) h2 h3
theorem pre_chain {s:ByteArray} {B:Nat→Prop} {whole:Bool} {l:List Mod.Tok} {p:Nat} (h:Pre s l p):∀r,Chain s (TokAt blkV s) B whole p r→Chain s (TokAt blkV s) B whole 0 (l++r):=by
 induction h with
 | nil=>exact fun r h=>h
 | skip _ h2 ih=>exact fun r h=>ih r (chain_skip h2 h)
 | tok _ h2 ih=>exact fun r h=>by rw[List.append_assoc];exact ih _ (.more (.refl _) h2 h)
def LexdAt (w:World) (b:Nat) (s:ByteArray) (k:Nat) (wr:World) (a:Nat) (v:Value) (bad uns:Bool) (l:List Mod.Tok):Prop:=
 k=(if bad=true then 0 else s.size+1-a)∧LexAt wr b s a v bad uns∧RowAt wr b v (l.map cv)∧Below b w wr∧a≤s.size∧l.length≤a∧(uns=false→(bad=false∧Pre s l a)∨(bad=true∧∃q,Pre s l q∧BadAt s q))
theorem row_slice {w:World} {base:Nat} {v:Value} {l:List Tok} (h:RowAt w base v l):∃A c,v = .slice A l.length c∧l.length≤c:=by
 rcases h.2 with⟨rfl,h0⟩|⟨g,cap,cur,rfl,h1⟩
 ·exact⟨none,0,by rw[h0],by omega⟩
 ·exact⟨_,cap,rfl,h1.2.2.1⟩
theorem lexed_any (s:ByteArray) (w:World) (hs:s.size≤200000) :
  Calls Tryz.prog 74 #[.string s] w fun e w'=>∃(l:List Mod.Tok) (A:Option Addr) (c:Nat) (whole uns:Bool),
   e = .returned (.tuple #[.slice A l.length c,.bool whole,.bool (!uns)])∧l.length≤c∧Below w.heap.size w w'∧RowAt w' w.heap.size (.slice A l.length c) (l.map cv)∧l.length≤200000∧
   (uns=false→Chain s (TokAt blkV s) (BadAt s) whole 0 l):=by
 have hLB:LexAt (w.alloc (.cells #[.string s,.int .i64 0,.slice none 0 0,.bool false,.bool false] 122)) w.heap.size s 0 (.slice none 0 0) false false:=Blk.new _ _ _;have HT:=aK (fun W (a:Nat) (v:Value) (uns:Bool) (l:List Mod.Tok) (h1:LexAt W w.heap.size s a v false uns) (h2:RowAt W w.heap.size v (l.map cv)) (h3:w.heap.size≤W.heap.size) (h4:a<s.size) (h5:l.length≤a)=>token_any w.heap.size w.heap.size a s v uns l W h1 h2 h3 (Nat.le_refl _) hs h4 h5);go_enter Tryz.func74,Tryz.ntmps74
 go_wp2_with fail
 go_loopg [] (s.size+1) (fun k wr=>∃(a:Nat) (v:Value) (bad uns:Bool) (l:List Mod.Tok),Aside0 (LexdAt w w.heap.size s k wr a v bad uns l))
 case atStart=>exact⟨0,.slice none 0 0,false,false,[],⟨rfl,hLB,own_nil _ _ _ _,below_alloc (Below.refl _ _) _,Nat.zero_le _,Nat.le_refl _,fun _=>.inl ⟨rfl,.nil⟩⟩⟩
 case round=>
  clear hLB;obtain⟨a,v,bad,uns,l,H⟩:=hrel;have hL:=H.out.2.1;have c0:=hL.c0;have c1:=hL.c1;have c2:=hL.c2;have c3:=hL.c3;have c4:=hL.c4;have has:=H.out.2.2.2.2.1;cases bad with
  | true=>
   obtain⟨A,c,rfl,hAc⟩:=row_slice H.out.2.2.1;have HF:Aside0 (∀n,∃(l':List Mod.Tok) (A':Option Addr) (c':Nat) (whole uns':Bool),Ending.returned (.tuple #[.slice A (l.map cv).length c,.bool false,.bool (!uns)]) = .returned (.tuple #[.slice A' l'.length c',.bool whole,.bool (!uns')])∧l'.length≤c'∧Below w.heap.size w (wr.drewN n)∧RowAt (wr.drewN n) w.heap.size (.slice A' l'.length c') (l'.map cv)∧l'.length≤200000∧(uns'=false→Chain s (TokAt blkV s) (BadAt s) whole 0 l')):=⟨fun n=>by
    obtain⟨_,_,h2,h3,h4,h5,h6⟩:=H.out;rw[List.length_map]at hAc h2 ⊢;refine⟨l,A,c,false,uns,rfl,hAc,pw_below_drewN h3 n,h2.drewN n,by omega,fun hu=>?_⟩
    rcases h6 hu with⟨h,_⟩|⟨_,q,hp,hb⟩
    ·cases h
    ·have:=pre_chain hp (B:=BadAt s) (whole:=false) [] (.done (.refl _) (.inr ⟨rfl,hb⟩))
     rwa[List.append_nil]at this⟩
   go_wp2_with fail
   repeat (go_quiet (fail);try go_wp2_with fail)
   refine bodyPost_ret (v:=.tuple #[.slice A (l.map cv).length c,.bool false,.bool (!uns)]) (by simp[results,Tryz.results74,go_sem]) rfl (HF.out _)
  | false=>
   by_cases hlt:a<s.size
   ·have hlti:(a:Int)<(s.size:Int):=by omega
    have HTT:=aK (HT.out wr a v uns l hL H.out.2.2.1 H.out.2.2.2.1.size hlt H.out.2.2.2.2.2.1)
    go_wp2_with fail
    repeat (go_quiet (fail);try go_wp2_with fail)
    refine HTT.out.mono ?_;rintro e w2 ⟨rfl,hte⟩;have HNX:Aside0 (∃(a':Nat) (v':Value) (bad' uns':Bool) (l':List Mod.Tok),LexdAt w w.heap.size s (if bad'=true then 0 else s.size+1-a') w2 a' v' bad' uns' l'∧(if bad'=true then 0 else s.size+1-a')<s.size+1-a):=⟨by
     obtain⟨a',v',bad',uns',l',h1,h2,h3,h4,h5,h6,h7⟩:=hte;refine⟨a',v',bad',uns',l',⟨rfl,h1,h2,H.out.2.2.2.1.trans ⟨h3.os,h3.tape,h3.output,h3.size,h3.block⟩,h4,h5,fun hu=>?_⟩,?_⟩
     ·obtain⟨hu0,h8⟩:=h7 hu
      have hpre:Pre s l a:=by
       rcases H.out.2.2.2.2.2.2 hu0 with⟨_,h⟩|⟨h,_⟩
       ·exact h
       ·cases h
      rcases h8 with⟨hb,rfl,hsk⟩|⟨hb,t,ht,rfl,rfl⟩|⟨hb,rfl,hbad⟩
      ·exact .inl ⟨hb,.skip hpre hsk⟩
      ·exact .inl ⟨hb,.tok hpre ht⟩
      ·exact .inr ⟨hb,a,hpre,hbad⟩
     ·cases bad' with
      | true=>rw[if_pos rfl];omega
      | false=>rw[if_neg (by decide)];have:=h6 rfl;omega⟩
    clear hte HTT;obtain⟨a',v',bad',uns',l',HX⟩:=HNX.out;have hk0:=H.out.1;rw[if_neg (by decide)]at hk0
    have hkk:=HX.2;have HX1:=aK HX.1;clear HX HNX
    go_wp2_with fail
    go_roundg (if bad'=true then 0 else s.size+1-a')
    case measure=>rw[hk0];exact hkk
    case rel=>exact⟨a',v',bad',uns',l',HX1⟩
   ·have hlti:(s.size:Int)≤(a:Int):=by omega
    obtain⟨A,c,rfl,hAc⟩:=row_slice H.out.2.2.1;have HF:Aside0 (∀n,∃(l':List Mod.Tok) (A':Option Addr) (c':Nat) (whole uns':Bool),Ending.returned (.tuple #[.slice A (l.map cv).length c,.bool true,.bool (!uns)]) = .returned (.tuple #[.slice A' l'.length c',.bool whole,.bool (!uns')])∧l'.length≤c'∧Below w.heap.size w (wr.drewN n)∧RowAt (wr.drewN n) w.heap.size (.slice A' l'.length c') (l'.map cv)∧l'.length≤200000∧(uns'=false→Chain s (TokAt blkV s) (BadAt s) whole 0 l')):=⟨fun n=>by
     obtain⟨_,_,h2,h3,h4,h5,h6⟩:=H.out;rw[List.length_map]at hAc h2 ⊢;refine⟨l,A,c,true,uns,rfl,hAc,pw_below_drewN h3 n,h2.drewN n,by omega,fun hu=>?_⟩
     rcases h6 hu with⟨_,hp⟩|⟨h,_⟩
     ·obtain rfl:a=s.size:=by omega
      have:=pre_chain hp (B:=BadAt s) (whole:=true) [] (.done (.refl _) (.inl ⟨rfl,rfl⟩));rwa[List.append_nil]at this
     ·cases h⟩
    go_wp2_with fail
    repeat (go_quiet (fail);try go_wp2_with fail)
    refine bodyPost_ret (v:=.tuple #[.slice A (l.map cv).length c,.bool true,.bool (!uns)]) (by simp[results,Tryz.results74,go_sem]) rfl (HF.out _)
end Go.Proofs.YtjolkdnfbmkjiaaGreatDoor.Lex
