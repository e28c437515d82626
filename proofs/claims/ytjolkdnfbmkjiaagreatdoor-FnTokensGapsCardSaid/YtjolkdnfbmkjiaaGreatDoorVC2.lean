import Derived.Test.YtjolkdnfbmkjiaaGreatDoorVC0
import Derived.Test.YtjolkdnfbmkjiaaGreatDoorVA1
import Derived.Test.YtjolkdnfbmkjiaaGreatDoorVC1
import Derived.Deep.LoopGhost
set_option maxRecDepth 100000
set_option maxHeartbeats 8000000
set_option linter.unusedVariables false
set_option linter.unusedSimpArgs false
namespace Go.Proofs.YtjolkdnfbmkjiaaGreatDoor.Lex
open Go.RowKit Mem Rel Go.Proofs.YtjolkdnfbmkjiaaGreatDoorW.PrintWords
theorem isDigitB_dig (c:Int):isDigitB c=Mod.isDig c:=by
 have h:isDigitB c=true↔Mod.isDig c=true:=by
  unfold isDigitB Mod.isDig;simp only[Bool.and_eq_true,decide_eq_true_eq]
 exact Bool.eq_iff_iff.2 h
theorem isBeginB_let (c:Int):isBeginB c=Mod.isLet c:=by
 have h:isBeginB c=true↔Mod.isLet c=true:=by
  unfold isBeginB Mod.isLet;simp only[Bool.or_eq_true,Bool.and_eq_true,decide_eq_true_eq,beq_iff_eq];omega
 exact Bool.eq_iff_iff.2 h
theorem inNameB_nam (c:Int):inNameB c=Mod.isNam c:=by
 unfold inNameB Mod.isNam;rw[isBeginB_let,isDigitB_dig]
theorem signOf_K (c:Int):signOf c=Mod.signK c:=by
 unfold signOf Mod.signK;omega
theorem digits_any (b:Nat) (s:ByteArray) (p:Nat) (w:World) (hs:s.size≤140737488351232) (hp:p≤s.size) (h0:w.cell? ⟨b,0,none⟩=some (.string s)) :
  Calls Tryz.prog 117 #[.pointer (some ⟨b,0,none⟩),.int .i64 p] w fun e w'=>e = .returned (.int .i64 (digs s p:Nat))∧w=w':=by
 obtain⟨q0,q1,q2,q3⟩:=Step.scan_all Mod.isDig rfl s p hp;unfold digs;generalize Mod.scan Mod.isDig s s.size p=q at *;have Q2:=aK q2;have Q3:=aK q3;clear q2 q3;go_enter Tryz.func117,Tryz.ntmps117
 go_wp2_with fail
 go_loop [1] (fun t=>∃k:Nat,p≤k∧k≤q∧t = .int .i64 k) (fun t=>q-(intOf t).toNat)
 case atStart=>exact⟨p,Nat.le_refl _,by omega,rfl⟩
 case round=>
  obtain⟨k,hk1,hk2,rfl⟩:=hrel
  by_cases hlt:k<q
  ·have HDG:=aK ((isDigitB_dig _).trans (Q2.out k hk1 hlt))
   go_wp2_with (first|(go_at_call 103;refine(next_any b s k _ hs (by exact h0)).mono ?_;rintro e w' ⟨rfl,rfl⟩)|(go_at_call 33;refine(isDigit_yes _ _ HDG.out).mono ?_;rintro e w' ⟨rfl,rfl⟩))
   go_round
   case rel=>exact⟨k+1,by omega,by omega,by go_num⟩
   case measure=>simp[intOf];omega
  ·obtain rfl:k=q:=by omega
   have HDG:=aK ((isDigitB_dig _).trans Q3.out)
   go_wp2_with (first|(go_at_call 103;refine(next_any b s k _ hs (by exact h0)).mono ?_;rintro e w' ⟨rfl,rfl⟩)|(go_at_call 33;refine(isDigit_no _ _ HDG.out).mono ?_;rintro e w' ⟨rfl,rfl⟩))
   go_ret
   exact⟨rfl,rfl⟩
theorem next_at (b:Nat) (s:ByteArray) (i:Int) (p:Nat) (hi:i=p) (w:World) (hs:s.size≤140737488351232) (h0:w.cell? ⟨b,0,none⟩=some (.string s)) :
  Calls Tryz.prog 103 #[.pointer (some ⟨b,0,none⟩),.int .i64 i] w fun e w'=>e = .returned (.int .u8 (bt s (p:Nat)))∧w=w':=by
 rw[hi];exact next_any b s p w hs h0
theorem digits_at (b:Nat) (s:ByteArray) (i:Int) (p t:Nat) (hi:i=p) (w:World) (hs:s.size≤140737488351232) (hp:p≤s.size) (h0:w.cell? ⟨b,0,none⟩=some (.string s)) (ht:digs s p=t) :
  Calls Tryz.prog 117 #[.pointer (some ⟨b,0,none⟩),.int .i64 i] w fun e w'=>e = .returned (.int .i64 t)∧w=w':=by
 rw[hi,←ht];exact digits_any b s p w hs hp h0
def ansN:Option (Int×Nat)→Value
 | none=>.tuple #[.int .i64 0,.int .i64 0]
 | some (k,t)=>.tuple #[.int .i64 k,.int .i64 t]
theorem ansN_none {r:Option (Int×Nat)} (h:r=none):Ending.returned (.tuple #[.int .i64 0,.int .i64 0]) = .returned (ansN r):=by rw[h];rfl
theorem ansN_some {r:Option (Int×Nat)} {k:Int} {t:Nat} (h:r=some (k,t)):Ending.returned (.tuple #[.int .i64 k,.int .i64 t]) = .returned (ansN r):=by rw[h];rfl
theorem digs_le {s:ByteArray} {p:Nat} (hp:p≤s.size):p≤digs s p∧digs s p≤s.size:=by
 obtain⟨q0,q1,_,_⟩:=Step.scan_all Mod.isDig rfl s p hp;exact⟨q0,q1⟩
theorem numeral_any (b:Nat) (s:ByteArray) (q:Nat) (w:World) (hs:s.size≤200000) (hq:q<s.size) (h0:w.cell? ⟨b,0,none⟩=some (.string s)) :
  Calls Tryz.prog 113 #[.pointer (some ⟨b,0,none⟩),.int .i64 q] w fun e w'=>e = .returned (ansN (sNum s q))∧w=w':=by
 have hs':s.size≤140737488351232:=by omega
 have HS0:=hs;clear hs;have hs:=hs';clear hs';obtain⟨a,ha⟩:∃a,a=(if bt s q=45 then q+1 else q):=⟨_,rfl⟩
 have HA:=aK ha;have has:a≤s.size:=by rw[ha];split<;>omega
 have hN:sNum s q=if digs s a=a∨(bt s a=48∧a+1<digs s a)then none else sFrac s (digs s a):=by rw[ha];rfl
 have HN:=aK hN;clear ha hN;go_enter Tryz.func113,Tryz.ntmps113
 go_upto_if 11 with(go_at_call 103;refine(next_any b s q _ hs (by exact h0)).mono ?_;rintro e w' ⟨rfl,rfl⟩)
 go_cut [1] (fun v1 wc=>v1 = .int .i64 a∧wc=w)
 case first=>
  by_cases h45:bt s q=45
  ·have hb:(bt s q==45)=true:=by rw[h45];rfl
   have hae:a=q+1:=by rw[HA.out,if_pos h45]
   have HAE:=aK hae;clear hae h45
   go_wp2_with fail
   go_meet
   case rel=>exact⟨by rw[HAE.out];go_num,rfl⟩
  ·have hb:(bt s q==45)=false:=beq_eq_false_iff_ne.2 h45
   have hae:a=q:=by rw[HA.out,if_neg h45]
   have HAE:=aK hae;clear hae h45
   go_wp2_with fail
   go_meet
   case rel=>exact⟨by rw[HAE.out],rfl⟩
 case rest=>
  obtain⟨rfl,rfl⟩:=hcut;have hd:=digs_le has;have HD:=aK (fun W (h0:W.cell? ⟨b,0,none⟩=some (.string s))=>digits_any b s a W hs has h0);obtain⟨t,ht⟩:∃t,digs s a=t:=⟨_,rfl⟩;rw[ht]at HD HN hd;clear ht
  by_cases h1:t=a
  ·have hb:((t:Int)==(a:Int))=true:=beq_iff_eq.2 (by omega)
   have HZ:=aK (show sNum s q=none by rw[HN.out,if_pos (.inl h1)])
   clear HN h1
   go_wp2_with (go_at_call 117;refine(HD.out _ (by exact h0)).mono ?_;rintro e w' ⟨rfl,rfl⟩)
   go_ret2
   exact⟨ansN_none HZ.out,rfl⟩
  ·have hb:((t:Int)==(a:Int))=false:=beq_eq_false_iff_ne.2 (by omega)
   have hat:(a:Int)<(s.size:Int):=by omega
   have hbt:∀h:a<s.size,((s[a]'h).toNat:Int)=bt s a:=fun h=>by simp[bt,h]
   by_cases h2:bt s a=48∧a+1<t
   ·have HZ:=aK (show sNum s q=none by rw[HN.out,if_pos (.inr h2)])
    obtain⟨h48,hlt⟩:=h2;have hlti:(a:Int)+1<(t:Int):=by omega
    have h48b:(bt s a==48)=true:=by rw[h48];rfl
    clear HN h1 h48
    go_wp2_with (go_at_call 117;refine(HD.out _ (by exact h0)).mono ?_;rintro e w' ⟨rfl,rfl⟩)
    go_ret2
    exact⟨ansN_none HZ.out,rfl⟩
   ·have HZ:=aK (show sNum s q=sFrac s t by rw[HN.out,if_neg (by rintro(h|h);exact h1 h;exact h2 h)])
    have h3:(bt s a==48)=false∨((bt s a==48)=true∧(t:Int)≤(a:Int)+1):=by
     by_cases h:bt s a=48
     ·exact .inr ⟨by rw[h];rfl,by have:¬a+1<t:=fun h'=>h2 ⟨h,h'⟩;omega⟩
     ·exact .inl (beq_eq_false_iff_ne.2 h)
    clear HN h1 h2
    go_upto_region 4 with(go_at_call 117;refine(HD.out _ (by exact h0)).mono ?_;rintro e w' ⟨rfl,rfl⟩)
    go_cut [34] (fun v34 wx=>v34 = .bool false∧wx=wc)
    case first=>
     rcases h3 with h3|⟨h3,h4⟩
     all_goals
      go_wp2_with fail
      go_meet
      case rel=>exact⟨by first|rfl|(congr 1;exact decide_eq_false (by omega)),rfl⟩
    case rest=>
     obtain⟨rfl,rfl⟩:=hcut;clear h3 hbt HD hat hb
     go_upto_if 38 with(go_at_call 103;refine(next_any b s t _ hs (by exact h0)).mono ?_;rintro e w' ⟨rfl,rfl⟩)
     go_cut [1,4,5] (fun v1 v4 v5 wx=>∃(a2 k:Int) (p:Nat),v1 = .int .i64 a2∧v4 = .int .i64 k∧v5 = .int .i64 p∧p≤s.size∧Aside0 (sFrac s t=sExp s k p)∧wx=wc)
     case first=>
      by_cases h46:bt s t=46
      ·have hb:(bt s t==46)=true:=by rw[h46];rfl
       have hts:t<s.size:=in_of (by omega)
       obtain⟨p,hp⟩:∃p,digs s (t+1)=p:=⟨_,rfl⟩;have hpl:=digs_le (s:=s) (p:=t+1) (by omega)
       rw[hp]at hpl;have HP:=aK hp
       by_cases h5:p=t+1
       ·have hb2:((p:Int)==(t:Int)+1)=true:=beq_iff_eq.2 (by omega)
        have HF:=aK (show sFrac s t=none by unfold sFrac;rw[if_pos h46,hp,if_pos h5])
        clear h46 hp h5
        go_wp2_with (go_at_call 117;refine(digits_at b s ((t:Int)+1) (t+1) p (by omega) _ hs (by omega) (by exact h0) HP.out).mono ?_;rintro e w' ⟨rfl,rfl⟩)
        go_ret2
        exact⟨ansN_none (HZ.out.trans HF.out),rfl⟩
       ·have hb2:((p:Int)==(t:Int)+1)=false:=beq_eq_false_iff_ne.2 (by omega)
        have HF:=aK (show sFrac s t=sExp s 17 p by unfold sFrac;rw[if_pos h46,hp,if_neg h5])
        clear h46 hp h5
        go_wp2_with (go_at_call 117;refine(digits_at b s ((t:Int)+1) (t+1) p (by omega) _ hs (by omega) (by exact h0) HP.out).mono ?_;rintro e w' ⟨rfl,rfl⟩)
        go_meet
        case rel=>exact⟨_,17,p,rfl,rfl,rfl,by omega,HF,rfl⟩
      ·have hb:(bt s t==46)=false:=beq_eq_false_iff_ne.2 h46
       have HF:=aK (show sFrac s t=sExp s 16 t by unfold sFrac;rw[if_neg h46])
       clear h46
       go_wp2_with fail
       go_meet
       case rel=>exact⟨_,16,t,rfl,rfl,rfl,by omega,HF,rfl⟩
     case rest=>
      obtain⟨a2,k,p,rfl,rfl,rfl,hps,HF,rfl⟩:=hcut
      by_cases he:bt s p=101∨bt s p=69
      ·have hpl:p<s.size:=in_of (by omega)
       obtain⟨c,hc⟩:∃c,c=(if bt s (p+1:Nat)=43∨bt s (p+1:Nat)=45 then p+2 else p+1):=⟨_,rfl⟩
       have HC:=aK hc;have hE:sExp s k p=if digs s c=c then none else some (17,digs s c):=by unfold sExp;rw[if_pos he,←hc]
       have hcs:c≤s.size:=by
        rw[hc];split
        ·rename_i h
         have:p+1<s.size:=in_of (by omega)
         omega
        ·omega
       have HE:=aK hE;have he2:((bt s p==101)=true)∨((bt s p==101)=false∧(bt s p==69)=true):=by
        rcases he with h|h
        ·exact .inl (by rw[h];rfl)
        ·exact .inr ⟨by rw[h];rfl,by rw[h];rfl⟩
       clear hc hE he;have HNX:=aK (fun W (h0:W.cell? ⟨b,0,none⟩=some (.string s))=>next_any b s p W hs h0);generalize bt s p=x at *
       go_upto_region 13 with(go_at_call 103;refine(HNX.out _ (by exact h0)).mono ?_;rintro e w' ⟨rfl,rfl⟩)
       go_cut [56] (fun v56 wx=>v56 = .bool true∧wx=wc)
       case first=>
        rcases he2 with he2|⟨he2,he3⟩
        all_goals
         go_wp2_with fail
         go_meet
         case rel=>exact⟨by first|rfl|rw[he3]|rw[he2],rfl⟩
       case rest=>
        obtain⟨rfl,rfl⟩:=hcut;clear he2 HNX;have HSG:=aK (show(bt s (p+1:Nat)==43||bt s (p+1:Nat)==45)=decide (bt s (p+1:Nat)=43∨bt s (p+1:Nat)=45) by
         by_cases h1:bt s (p+1:Nat)=43
         ·rw[h1];rfl
         ·by_cases h2:bt s (p+1:Nat)=45
          ·rw[h2];rfl
          ·rw[beq_eq_false_iff_ne.2 h1,beq_eq_false_iff_ne.2 h2,decide_eq_false (by omega)];rfl)
        have HNX:=aK (fun W (h0:W.cell? ⟨b,0,none⟩=some (.string s))=>next_at b s ((p:Int)+1) (p+1) (by omega) W hs h0)
        have hsg:decide (bt s (p+1:Nat)=43∨bt s (p+1:Nat)=45)=true∧c=p+2∨decide (bt s (p+1:Nat)=43∨bt s (p+1:Nat)=45)=false∧c=p+1:=by
         rw[HC.out]
         by_cases h:bt s (p+1:Nat)=43∨bt s (p+1:Nat)=45
         ·rw[if_pos h];exact .inl ⟨decide_eq_true h,rfl⟩
         ·rw[if_neg h];exact .inr ⟨decide_eq_false h,rfl⟩
        generalize decide (bt s (p+1:Nat)=43∨bt s (p+1:Nat)=45)=sg at *;generalize bt s (p+1:Nat)=y at *
        go_upto_region 17 with(go_at_call 103;refine(HNX.out _ (by exact h0)).mono ?_;rintro e w' ⟨rfl,rfl⟩)
        go_cut [67] (fun v67 wx=>v67 = .bool sg∧wx=wc)
        case first=>
         cases h43:(y==43)with
         | true=>
          go_wp2_with fail
          go_meet
          case rel=>exact⟨by rw[←HSG.out,h43];rfl,rfl⟩
         | false=>
          go_wp2_with fail
          go_meet
          case rel=>exact⟨by rw[←HSG.out,h43,Bool.false_or],rfl⟩
        case rest=>
         obtain⟨rfl,rfl⟩:=hcut;clear HNX HSG;obtain⟨t2,ht2⟩:∃t2,digs s c=t2:=⟨_,rfl⟩;have HT2:=aK ht2;rw[ht2]at HE
         by_cases h5:t2=c
         ·have HG:=aK (show sNum s q=none by rw[HZ.out,HF.out,HE.out,if_pos h5])
          rcases hsg with⟨rfl,hcc⟩|⟨rfl,hcc⟩
          all_goals
           subst hcc;have hb2:((t2:Int)==((p:Int)+1+1))=true∨((t2:Int)==((p:Int)+1))=true:=by
            first|exact .inl (beq_iff_eq.2 (by omega))|exact .inr (beq_iff_eq.2 (by omega))
           go_wp2_with (go_at_call 117;refine(digits_at b s _ _ t2 (by omega) _ hs (by omega) (by exact h0) HT2.out).mono ?_;rintro e w' ⟨rfl,rfl⟩)
           go_ret2
           exact⟨ansN_none HG.out,rfl⟩
         ·have HG:=aK (show sNum s q=some (17,t2) by rw[HZ.out,HF.out,HE.out,if_neg h5])
          rcases hsg with⟨rfl,hcc⟩|⟨rfl,hcc⟩
          all_goals
           subst hcc;have hb2:((t2:Int)==((p:Int)+1+1))=false∨((t2:Int)==((p:Int)+1))=false:=by
            first|exact .inl (beq_eq_false_iff_ne.2 (by omega))|exact .inr (beq_eq_false_iff_ne.2 (by omega))
           go_wp2_with (go_at_call 117;refine(digits_at b s _ _ t2 (by omega) _ hs (by omega) (by exact h0) HT2.out).mono ?_;rintro e w' ⟨rfl,rfl⟩)
           go_ret2
           exact⟨ansN_some HG.out,rfl⟩
      ·have hb1:(bt s p==101)=false:=beq_eq_false_iff_ne.2 fun h=>he (.inl h)
       have hb2:(bt s p==69)=false:=beq_eq_false_iff_ne.2 fun h=>he (.inr h);have HG:=aK (show sNum s q=some (k,p) by rw[HZ.out,HF.out];unfold sExp;rw[if_neg he])
       clear he
       go_wp2_with (go_at_call 103;refine(next_any b s p _ hs (by exact h0)).mono ?_;rintro e w' ⟨rfl,rfl⟩)
       go_ret2
       exact⟨ansN_some HG.out,rfl⟩
open NameP Go.Proofs.YtjolkdnfbmkjiaaGreatDoorW.PrintLast
theorem fail_any (b:Nat) (s:ByteArray) (p:Int) (v:Value) (bad uns:Bool) (w:World) (hL:LexAt w b s p v bad uns) :
  Calls Tryz.prog 107 #[.pointer (some ⟨b,0,none⟩)] w fun e w'=>e = .returned (.tuple #[])∧w'=w.setCell ⟨b,3,none⟩ (.bool true):=by
 have c3:=hL.c3;have hf:=Blk.frozen hL 3;go_enter Tryz.func107,Tryz.ntmps107;go_wp2
 go_end0
 exact⟨rfl,rfl⟩
def srcOk (c:Int):Prop:=c=9∨c=10∨c=13∨32≤c
def srcB (c:Int):Bool:=decide (c=9∨c=10∨c=13∨32≤c)
theorem srcB_ok {c:Int}:srcB c=true↔srcOk c:=by unfold srcB srcOk;exact decide_eq_true_iff
theorem source_calls (c:Int) (w:World):Calls Tryz.prog 112 #[.int .i64 c] w fun e w'=>e = .returned (.tuple #[.bool (srcB c),.bool (decide (c≤65535))])∧Drawn0 w w':=by
 refine(PFnTokensGaps.spec_source.calls c (srcB c) (decide (c≤65535)) w ?_).mono fun e w' h=>h;unfold PFnTokensGaps.spec_source.f srcB
 by_cases h1:c=9
 ·rw[if_pos h1,decide_eq_true (p:=c=9∨c=10∨c=13∨32≤c) (by omega)]
 ·rw[if_neg h1]
  by_cases h2:c=10
  ·rw[if_pos h2,decide_eq_true (p:=c=9∨c=10∨c=13∨32≤c) (by omega)]
  ·rw[if_neg h2]
   by_cases h3:c=13
   ·rw[if_pos h3,decide_eq_true (p:=c=9∨c=10∨c=13∨32≤c) (by omega)]
   ·rw[if_neg h3]
    by_cases h4:32≤c
    ·rw[decide_eq_true (show c≥32 from h4),decide_eq_true (p:=c=9∨c=10∨c=13∨32≤c) (by omega)]
    ·rw[decide_eq_false (show ¬c≥32 from h4),decide_eq_false (p:=c=9∨c=10∨c=13∨32≤c) (by omega)]
def RowAt (w:World) (base:Nat) (v:Value) (l:List Tok):Prop:=w.ownsRow base 56 4 v l.length (toks l)
theorem RowAt.drewN {w:World} {base:Nat} {v:Value} {l:List Tok} (h:RowAt w base v l) (n:Nat):RowAt (w.drewN n) base v l:=h
theorem LexAt.set1 {w:World} {b:Nat} {s:ByteArray} {at_:Int} {v:Value} {bad uns:Bool} (h:LexAt w b s at_ v bad uns) (x:Int):LexAt (w.setCell ⟨b,1,none⟩ (.int .i64 x)) b s x v bad uns:=Blk.set_ h 1 _
theorem LexAt.set3 {w:World} {b:Nat} {s:ByteArray} {at_:Int} {v:Value} {bad uns:Bool} (h:LexAt w b s at_ v bad uns) (x:Bool):LexAt (w.setCell ⟨b,3,none⟩ (.bool x)) b s at_ v x uns:=Blk.set_ h 3 _
theorem LexAt.set4 {w:World} {b:Nat} {s:ByteArray} {at_:Int} {v:Value} {bad uns:Bool} (h:LexAt w b s at_ v bad uns) (x:Bool):LexAt (w.setCell ⟨b,4,none⟩ (.bool x)) b s at_ v bad x:=Blk.set_ h 4 _
theorem RowAt.setb {w:World} {base b i:Nat} {v u:Value} {l:List Tok} (hne:v.ownBlock≠some b) (h:RowAt w base v l):RowAt (w.setCell ⟨b,i,none⟩ u) base v l:=ownsRow_setCell_other h (a:=⟨b,i,none⟩) hne _
theorem below_setb {B b i:Nat} {w0 w:World} {u:Value} (h:Below B w0 w) (hb:B≤b):Below B w0 (w.setCell ⟨b,i,none⟩ u):=h.setCell hb _
def ComEnd (w:World) (base b:Nat) (s:ByteArray) (p:Nat) (v:Value) (uns:Bool) (l:List Tok) (w':World):Prop:=
 ∃(a:Nat) (bad' uns':Bool),LexAt w' b s a v bad' uns'∧RowAt w' base v l∧Below base w w'∧p≤a∧a≤s.size∧(bad'=false→p<a)∧(uns'=false→uns=false∧bad'=false∧Com s (p+1) a)
theorem com_byte {s:ByteArray} {a:Nat} {c n:Int} (ha:a<s.size) (hr:runeOf s a=(c,n)) (h10:bt s a≠10) (h13:bt s a≠13) (hs:srcB c=true) (hc:c<128):n=1∧comB (bt s a)=true:=by
 by_cases hb:bt s a<128
 ·rw[rune_small ha hb]at hr
  obtain⟨h1,h2⟩:=Prod.mk.inj hr;have h3:=srcB_ok.1 hs;unfold srcOk at h3;refine⟨h2.symm,?_⟩;unfold comB;simp only[Bool.or_eq_true,Bool.and_eq_true,decide_eq_true_eq,beq_iff_eq];omega
 ·have h:=(rune_big ha hb).1
  rw[hr]at h;simp only at h;omega
theorem comment_any (b base:Nat) (s:ByteArray) (p:Nat) (v:Value) (uns:Bool) (l:List Tok) (w:World) (hL:LexAt w b s p v false uns) (hR:RowAt w base v l) (hbase:base≤w.heap.size) (hB:base≤b) (hs:s.size≤200000) (hp:p<s.size) (h35:bt s p=35) :
  Calls Tryz.prog 100 #[.pointer (some ⟨b,0,none⟩)] w fun e w'=>e = .returned (.tuple #[])∧ComEnd w base b s p v uns l w':=by
 have H35:=aK h35;clear h35;go_enter Tryz.func100,Tryz.ntmps100
 go_wp2_with fail
 go_loopg [] (s.size-p) (fun k wr=>∃(a:Nat) (u:Bool) (x:Int),k=s.size-a∧p≤a∧a≤s.size∧LexAt wr b s x v false u∧x=a∧Aside0 (RowAt wr base v l)∧Aside0 (Below base w wr)∧Aside0 (u=false→uns=false∧∀i:Nat,p+1≤i→i<a→comB (bt s i)=true))
 case atStart=>exact⟨p,uns,p,rfl,Nat.le_refl _,by omega,hL,rfl,⟨hR⟩,⟨Below.refl _ _⟩,⟨fun h=>⟨h,fun i h1 h2=>by omega⟩⟩⟩
 case round=>
  clear hL hR;obtain⟨a,u,x,rfl,hpa,has,hL,rfl,HR,HB,HP⟩:=hrel;have hne:v.ownBlock≠some b:=own_blk_ne HR.out hL (by decide)
  have c0:=hL.c0;have c1:=hL.c1;have c3:=hL.c3;have c4:=hL.c4;have hf1:=Blk.frozen hL 1;have hf3:=Blk.frozen hL 3;have hf4:=Blk.frozen hL 4;have hbt:∀h:a<s.size,((s[a]'h).toNat:Int)=bt s a:=fun h=>by simp[bt,h]
  by_cases hlt:a<s.size
  ·have hlti:(a:Int)<(s.size:Int):=by omega
   by_cases hnl:bt s a=10∨bt s a=13
   ·have hpa2:p<a:=by
     rcases Nat.lt_or_ge p a with h|h
     ·exact h
     ·obtain rfl:a=p:=by omega
      have:=H35.out;omega
    have HF:Aside0 (u=false→uns=false∧True∧Com s (p+1) a):=⟨fun hu=>⟨(HP.out hu).1,trivial,by omega,has,(HP.out hu).2,.inr hnl⟩⟩
    have hb2:(bt s a != 10)=false∨((bt s a != 10)=true∧(bt s a != 13)=false):=by
     rcases hnl with h|h
     ·exact .inl (by rw[h];rfl)
     ·exact .inr ⟨by rw[h];rfl,by rw[h];rfl⟩
    clear hnl;rcases hb2 with hb2|⟨hb2,hb3⟩
    all_goals
     go_wp2_with fail
     go_quiet (fail)
     go_wp2_with fail
     go_end0
     exact⟨rfl,a,false,u,hL,HR.out,pw_below_drewN HB.out _,hpa,has,fun _=>hpa2,fun hu=>⟨(HF.out hu).1,rfl,(HF.out hu).2.2⟩⟩
   ·have hb2:(bt s a != 10)=true:=bne_iff_ne.2 fun h=>hnl (.inl h)
    have hb3:(bt s a != 13)=true:=bne_iff_ne.2 fun h=>hnl (.inr h);have HNL:=aK (show bt s a≠10∧bt s a≠13 from⟨fun h=>hnl (.inl h),fun h=>hnl (.inr h)⟩)
    obtain⟨c,n,hpt,hpn⟩:=point_same s hs a hlt;have HPt:=aK hpt;clear hpt hnl;rcases hpn with hn0|⟨hr,hn1,hn4,hnle⟩
    ·subst hn0
     go_wp2_with fail
     go_quiet (fail)
     go_wp2_with fail
     repeat (go_quiet (first|(go_at_call 58;(with_reducible refine(PFnTokensGaps.spec_Point.calls 12 s a c 0 _ HPt.out).mono ?_);rintro e w' ⟨rfl,⟨nd,rfl⟩⟩;(try first|exact⟨rfl,_,World.drewN_drewN _ _ _⟩|exact⟨rfl,_,Eq.trans (World.drewN_drewN _ _ _) (congrArg (World.drewN _) (Nat.add_assoc _ _ _))⟩))|(go_at_call 112;(with_reducible refine(source_calls c _).mono ?_);rintro e w' ⟨rfl,⟨nd,rfl⟩⟩;(try first|exact⟨rfl,_,World.drewN_drewN _ _ _⟩|exact⟨rfl,_,Eq.trans (World.drewN_drewN _ _ _) (congrArg (World.drewN _) (Nat.add_assoc _ _ _))⟩)));try go_wp2_with (first|(go_at_call 58;(with_reducible refine(PFnTokensGaps.spec_Point.calls 12 s a c 0 _ HPt.out).mono ?_);rintro e w' ⟨rfl,⟨nd,rfl⟩⟩;(try first|exact⟨rfl,_,World.drewN_drewN _ _ _⟩|exact⟨rfl,_,Eq.trans (World.drewN_drewN _ _ _) (congrArg (World.drewN _) (Nat.add_assoc _ _ _))⟩))|(go_at_call 112;(with_reducible refine(source_calls c _).mono ?_);rintro e w' ⟨rfl,⟨nd,rfl⟩⟩;(try first|exact⟨rfl,_,World.drewN_drewN _ _ _⟩|exact⟨rfl,_,Eq.trans (World.drewN_drewN _ _ _) (congrArg (World.drewN _) (Nat.add_assoc _ _ _))⟩))))
     first|go_end0|refine bodyPost_ret (results_none rfl _ _ _) rfl ?_
     exact⟨rfl,a,true,true,vL,vS,by repeat (first|exact HB.out|apply pw_below_drewN|apply below_drew_|refine below_setb ?_ hB),hpa,has,fun h=>(by cases h),fun h=>(by cases h)⟩
    ·obtain⟨m,rfl⟩:∃m:Nat,n=m:=⟨n.toNat,by omega⟩
     have hm0:((m:Int)==0)=false:=beq_eq_false_iff_ne.2 (by omega)
     have HRU:=aK hr;clear hr;have ham:a+m≤s.size:=by omega
     cases u with
     | true=>
      go_wp2_with fail
      go_quiet (fail)
      go_wp2_with fail
      repeat (go_quiet (first|(go_at_call 58;(with_reducible refine(PFnTokensGaps.spec_Point.calls 12 s a c m _ HPt.out).mono ?_);rintro e w' ⟨rfl,⟨nd,rfl⟩⟩;(try first|exact⟨rfl,_,World.drewN_drewN _ _ _⟩|exact⟨rfl,_,Eq.trans (World.drewN_drewN _ _ _) (congrArg (World.drewN _) (Nat.add_assoc _ _ _))⟩))|(go_at_call 112;(with_reducible refine(source_calls c _).mono ?_);rintro e w' ⟨rfl,⟨nd,rfl⟩⟩;(try first|exact⟨rfl,_,World.drewN_drewN _ _ _⟩|exact⟨rfl,_,Eq.trans (World.drewN_drewN _ _ _) (congrArg (World.drewN _) (Nat.add_assoc _ _ _))⟩)));try go_wp2_with (first|(go_at_call 58;(with_reducible refine(PFnTokensGaps.spec_Point.calls 12 s a c m _ HPt.out).mono ?_);rintro e w' ⟨rfl,⟨nd,rfl⟩⟩;(try first|exact⟨rfl,_,World.drewN_drewN _ _ _⟩|exact⟨rfl,_,Eq.trans (World.drewN_drewN _ _ _) (congrArg (World.drewN _) (Nat.add_assoc _ _ _))⟩))|(go_at_call 112;(with_reducible refine(source_calls c _).mono ?_);rintro e w' ⟨rfl,⟨nd,rfl⟩⟩;(try first|exact⟨rfl,_,World.drewN_drewN _ _ _⟩|exact⟨rfl,_,Eq.trans (World.drewN_drewN _ _ _) (congrArg (World.drewN _) (Nat.add_assoc _ _ _))⟩))))
      go_roundg (s.size-(a+m))
      case measure=>omega
      case rel=>exact⟨a+m,true,_,rfl,by omega,by omega,vL,by omega,⟨vS⟩,⟨by repeat (first|exact HB.out|apply pw_below_drewN|apply below_drew_|refine below_setb ?_ hB)⟩,⟨fun h=>(by cases h)⟩⟩
     | false=>
      cases hsu:decide (c≤65535)with
      | false=>
       go_wp2_with fail
       go_quiet (fail)
       go_wp2_with fail
       repeat (go_quiet (first|(go_at_call 58;(with_reducible refine(PFnTokensGaps.spec_Point.calls 12 s a c m _ HPt.out).mono ?_);rintro e w' ⟨rfl,⟨nd,rfl⟩⟩;(try first|exact⟨rfl,_,World.drewN_drewN _ _ _⟩|exact⟨rfl,_,Eq.trans (World.drewN_drewN _ _ _) (congrArg (World.drewN _) (Nat.add_assoc _ _ _))⟩))|(go_at_call 112;(with_reducible refine(source_calls c _).mono ?_);rintro e w' ⟨rfl,⟨nd,rfl⟩⟩;(try first|exact⟨rfl,_,World.drewN_drewN _ _ _⟩|exact⟨rfl,_,Eq.trans (World.drewN_drewN _ _ _) (congrArg (World.drewN _) (Nat.add_assoc _ _ _))⟩)));try go_wp2_with (first|(go_at_call 58;(with_reducible refine(PFnTokensGaps.spec_Point.calls 12 s a c m _ HPt.out).mono ?_);rintro e w' ⟨rfl,⟨nd,rfl⟩⟩;(try first|exact⟨rfl,_,World.drewN_drewN _ _ _⟩|exact⟨rfl,_,Eq.trans (World.drewN_drewN _ _ _) (congrArg (World.drewN _) (Nat.add_assoc _ _ _))⟩))|(go_at_call 112;(with_reducible refine(source_calls c _).mono ?_);rintro e w' ⟨rfl,⟨nd,rfl⟩⟩;(try first|exact⟨rfl,_,World.drewN_drewN _ _ _⟩|exact⟨rfl,_,Eq.trans (World.drewN_drewN _ _ _) (congrArg (World.drewN _) (Nat.add_assoc _ _ _))⟩))))
       go_roundg (s.size-(a+m))
       case measure=>omega
       case rel=>exact⟨a+m,true,_,rfl,by omega,by omega,vL,by omega,⟨vS⟩,⟨by repeat (first|exact HB.out|apply pw_below_drewN|apply below_drew_|refine below_setb ?_ hB)⟩,⟨fun h=>(by cases h)⟩⟩
      | true=>
       cases hsr:srcB c with
       | false=>
        go_wp2_with fail
        go_quiet (fail)
        go_wp2_with fail
        repeat (go_quiet (first|(go_at_call 58;(with_reducible refine(PFnTokensGaps.spec_Point.calls 12 s a c m _ HPt.out).mono ?_);rintro e w' ⟨rfl,⟨nd,rfl⟩⟩;(try first|exact⟨rfl,_,World.drewN_drewN _ _ _⟩|exact⟨rfl,_,Eq.trans (World.drewN_drewN _ _ _) (congrArg (World.drewN _) (Nat.add_assoc _ _ _))⟩))|(go_at_call 112;(with_reducible refine(source_calls c _).mono ?_);rintro e w' ⟨rfl,⟨nd,rfl⟩⟩;(try first|exact⟨rfl,_,World.drewN_drewN _ _ _⟩|exact⟨rfl,_,Eq.trans (World.drewN_drewN _ _ _) (congrArg (World.drewN _) (Nat.add_assoc _ _ _))⟩)));try go_wp2_with (first|(go_at_call 58;(with_reducible refine(PFnTokensGaps.spec_Point.calls 12 s a c m _ HPt.out).mono ?_);rintro e w' ⟨rfl,⟨nd,rfl⟩⟩;(try first|exact⟨rfl,_,World.drewN_drewN _ _ _⟩|exact⟨rfl,_,Eq.trans (World.drewN_drewN _ _ _) (congrArg (World.drewN _) (Nat.add_assoc _ _ _))⟩))|(go_at_call 112;(with_reducible refine(source_calls c _).mono ?_);rintro e w' ⟨rfl,⟨nd,rfl⟩⟩;(try first|exact⟨rfl,_,World.drewN_drewN _ _ _⟩|exact⟨rfl,_,Eq.trans (World.drewN_drewN _ _ _) (congrArg (World.drewN _) (Nat.add_assoc _ _ _))⟩))))
        go_roundg (s.size-(a+m))
        case measure=>omega
        case rel=>exact⟨a+m,true,_,rfl,by omega,by omega,vL,by omega,⟨vS⟩,⟨by repeat (first|exact HB.out|apply pw_below_drewN|apply below_drew_|refine below_setb ?_ hB)⟩,⟨fun h=>(by cases h)⟩⟩
       | true=>
        have HSR:=aK hsr
        by_cases hbig:128≤c
        ·have hbg:decide (c≥128)=true:=decide_eq_true hbig
         go_wp2_with fail
         go_quiet (fail)
         go_wp2_with fail
         repeat (go_quiet (first|(go_at_call 58;(with_reducible refine(PFnTokensGaps.spec_Point.calls 12 s a c m _ HPt.out).mono ?_);rintro e w' ⟨rfl,⟨nd,rfl⟩⟩;(try first|exact⟨rfl,_,World.drewN_drewN _ _ _⟩|exact⟨rfl,_,Eq.trans (World.drewN_drewN _ _ _) (congrArg (World.drewN _) (Nat.add_assoc _ _ _))⟩))|(go_at_call 112;(with_reducible refine(source_calls c _).mono ?_);rintro e w' ⟨rfl,⟨nd,rfl⟩⟩;(try first|exact⟨rfl,_,World.drewN_drewN _ _ _⟩|exact⟨rfl,_,Eq.trans (World.drewN_drewN _ _ _) (congrArg (World.drewN _) (Nat.add_assoc _ _ _))⟩)));try go_wp2_with (first|(go_at_call 58;(with_reducible refine(PFnTokensGaps.spec_Point.calls 12 s a c m _ HPt.out).mono ?_);rintro e w' ⟨rfl,⟨nd,rfl⟩⟩;(try first|exact⟨rfl,_,World.drewN_drewN _ _ _⟩|exact⟨rfl,_,Eq.trans (World.drewN_drewN _ _ _) (congrArg (World.drewN _) (Nat.add_assoc _ _ _))⟩))|(go_at_call 112;(with_reducible refine(source_calls c _).mono ?_);rintro e w' ⟨rfl,⟨nd,rfl⟩⟩;(try first|exact⟨rfl,_,World.drewN_drewN _ _ _⟩|exact⟨rfl,_,Eq.trans (World.drewN_drewN _ _ _) (congrArg (World.drewN _) (Nat.add_assoc _ _ _))⟩))))
         go_roundg (s.size-(a+m))
         case measure=>omega
         case rel=>exact⟨a+m,true,_,rfl,by omega,by omega,vL,by omega,⟨vS⟩,⟨by repeat (first|exact HB.out|apply pw_below_drewN|apply below_drew_|refine below_setb ?_ hB)⟩,⟨fun h=>(by cases h)⟩⟩
        ·have hbg:decide (c≥128)=false:=decide_eq_false hbig
         have HPQ:=aK (HP.out rfl);have HCB:=aK (com_byte hlt HRU.out HNL.out.1 HNL.out.2 HSR.out (by omega))
         go_wp2_with fail
         go_quiet (fail)
         go_wp2_with fail
         repeat (go_quiet (first|(go_at_call 58;(with_reducible refine(PFnTokensGaps.spec_Point.calls 12 s a c m _ HPt.out).mono ?_);rintro e w' ⟨rfl,⟨nd,rfl⟩⟩;(try first|exact⟨rfl,_,World.drewN_drewN _ _ _⟩|exact⟨rfl,_,Eq.trans (World.drewN_drewN _ _ _) (congrArg (World.drewN _) (Nat.add_assoc _ _ _))⟩))|(go_at_call 112;(with_reducible refine(source_calls c _).mono ?_);rintro e w' ⟨rfl,⟨nd,rfl⟩⟩;(try first|exact⟨rfl,_,World.drewN_drewN _ _ _⟩|exact⟨rfl,_,Eq.trans (World.drewN_drewN _ _ _) (congrArg (World.drewN _) (Nat.add_assoc _ _ _))⟩)));try go_wp2_with (first|(go_at_call 58;(with_reducible refine(PFnTokensGaps.spec_Point.calls 12 s a c m _ HPt.out).mono ?_);rintro e w' ⟨rfl,⟨nd,rfl⟩⟩;(try first|exact⟨rfl,_,World.drewN_drewN _ _ _⟩|exact⟨rfl,_,Eq.trans (World.drewN_drewN _ _ _) (congrArg (World.drewN _) (Nat.add_assoc _ _ _))⟩))|(go_at_call 112;(with_reducible refine(source_calls c _).mono ?_);rintro e w' ⟨rfl,⟨nd,rfl⟩⟩;(try first|exact⟨rfl,_,World.drewN_drewN _ _ _⟩|exact⟨rfl,_,Eq.trans (World.drewN_drewN _ _ _) (congrArg (World.drewN _) (Nat.add_assoc _ _ _))⟩))))
         go_roundg (s.size-(a+m))
         case measure=>omega
         case rel=>exact⟨a+m,false,_,rfl,by omega,by omega,vL,by omega,⟨vS⟩,⟨by repeat (first|exact HB.out|apply pw_below_drewN|apply below_drew_|refine below_setb ?_ hB)⟩,⟨fun _=>⟨HPQ.out.1,fun i h1 h2=>by
           have e1:=HCB.out.1;rcases Nat.lt_or_ge i a with h3|h3
           ·exact HPQ.out.2 i h1 h3
           ·obtain rfl:i=a:=by omega
            exact HCB.out.2⟩⟩⟩
  ·have hlti:(s.size:Int)≤(a:Int):=by omega
   go_wp2_with fail
   go_quiet (fail)
   go_wp2_with fail
   go_end0
   exact⟨rfl,a,false,u,hL,HR.out,pw_below_drewN HB.out _,hpa,has,fun _=>by omega,fun hu=>⟨(HP.out hu).1,rfl,by omega,has,(HP.out hu).2,.inl (by omega)⟩⟩
end Go.Proofs.YtjolkdnfbmkjiaaGreatDoor.Lex
