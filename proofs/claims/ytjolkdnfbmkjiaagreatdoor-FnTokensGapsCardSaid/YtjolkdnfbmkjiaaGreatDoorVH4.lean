import Derived.Test.YtjolkdnfbmkjiaaGreatDoorVE6
import Derived.Test.YtjolkdnfbmkjiaaGreatDoorVG1
import Derived.Test.YtjolkdnfbmkjiaaGreatDoorVPA
import Derived.Test.YtjolkdnfbmkjiaaGreatDoorVH3
import Derived.Test.YtjolkdnfbmkjiaaGreatDoorVH2
import Derived.Test.YtjolkdnfbmkjiaaGreatDoorVH1
set_option maxRecDepth 100000
set_option maxHeartbeats 8000000
set_option linter.unusedVariables false
set_option linter.unusedSimpArgs false
namespace Go.Proofs.YtjolkdnfbmkjiaaGreatDoor.Wr
open Go.RowKit Go.Proofs.YtjolkdnfbmkjiaaGreatDoorW.PrintWords PFnTokensGaps
open Go.Proofs.YtjolkdnfbmkjiaaGreatDoor.Rel (Piece Pz lay LayOk GapOk gapT gapT_ok gap_none gap_ws ws_all free clingB)
theorem cling_eq (x:ByteArray) (h:0<x.size):spec_clinging.f x=some (clingB (bt x 0)):=by
 unfold spec_clinging.f clingB;rw[if_pos (by omega),begin_let,digit_dig]
 simp only[Option.bind_some];cases h1:Mod.isLet (bt x 0)with
 | true=>simp
 | false=>
  rw[if_neg (by decide)]
  cases h2:Mod.isDig (bt x 0)with
  | true=>simp
  | false=>
   rw[if_neg (by decide)]
   by_cases h3:bt x 0=45
   ·rw[if_pos h3,h3];simp
   ·rw[if_neg h3,beq_eq_false_iff_ne.2 h3];simp
theorem toList_nil {g:ByteArray} (h:g.toList=([]:List UInt8)):g.size=0:=by
 rw[ByteArray.toList_eq]at h;have:g.data=#[]:=by simpa using h
 show g.data.size=0;rw[this];rfl
theorem nil_toList {g:ByteArray} (h:g.size=0):g=⟨#[]⟩:=ByteArray.ext (Array.eq_empty_of_size_eq_zero h)
section
variable {parts:List ByteArray} {by_:List Int} {i:Nat}
theorem rdo_at (hi:i<parts.length):rdOf ByteArray.empty parts (i:Int)=parts[i]:=by
 unfold rdOf;rw[Int.toNat_natCast,List.getD_eq_getElem?_getD,List.getElem?_eq_getElem hi];rfl
theorem j1_ex {i:Nat} (hsz:∀x∈parts,0<x.size) (hi:i<parts.length) (hl:parts.length≤200000) (out g:ByteArray) :
  ∃b:Bool,(∀k,spec_Gaps.j1 (k+1) parts by_ out i g=spec_Gaps.j2 k parts by_ out i g b)∧(b=true→g.size=0)∧(b=false→g.size=0→∀m,(hm:m+1=i)→free (parts[m]'(by omega)) parts[i]):=by
 by_cases hg:g.toList=([]:List UInt8)
 rotate_left
 ·refine⟨false,fun k=>?_,(fun h=>by cases h),fun _ h=>?_⟩
  ·simp only[spec_Gaps.j1]
   rw[if_neg hg]
  ·exfalso
   rw[nil_toList h]at hg;exact hg (by simp)
 rcases i with _|m
 ·refine⟨false,fun k=>?_,(fun h=>by cases h),fun _ _ m hm=>by omega⟩
  simp only[spec_Gaps.j1];rw[if_pos hg,if_neg (by omega)]
 ·have hw:wrap64 (((m+1:Nat):Int)-1)=(m:Int):=by unfold wrap64;omega
  have hm:m<parts.length:=by omega
  have hy:=hsz _ (List.getElem_mem hm);have hx:=hsz _ (List.getElem_mem hi);have ry:=rdo_at hm;have rx:=rdo_at hi;refine⟨(clingB (bt parts[m] 0)&&clingB (bt parts[m+1] 0))||(bt parts[m] 0==34&&bt parts[m+1] 0==34),fun k=>?_,fun _=>toList_nil hg,fun h _ m' hm'=>?_⟩
  ·simp only[spec_Gaps.j1]
   rw[if_pos hg,if_pos (by omega),hw,if_pos (by omega),if_pos (by omega),ry,rx,cling_eq _ hy,cling_eq _ hx]
   simp only[Option.bind_some];cases h1:clingB (bt parts[m] 0)with
   | true=>
    rw[if_pos rfl,if_pos (by omega),if_pos (by omega)]
    cases h2:clingB (bt parts[m+1] 0)with
    | true=>rw[if_pos rfl];rfl
    | false=>
     rw[if_neg (by decide),if_pos (by omega)]
     by_cases h3:bt parts[m] 0=34
     ·rw[if_pos h3,if_pos (by omega),h3];rfl
     ·rw[if_neg h3,beq_eq_false_iff_ne.2 h3];rfl
   | false=>
    rw[if_neg (by decide),if_pos (by omega)]
    by_cases h3:bt parts[m] 0=34
    ·rw[if_pos h3,if_pos (by omega),if_pos (by omega),if_pos (by omega),h3];rfl
    ·rw[if_neg h3,beq_eq_false_iff_ne.2 h3];rfl
  ·obtain rfl:m'=m:=by omega
   rw[Bool.or_eq_false_iff]at h;refine⟨fun q=>?_,fun q=>?_⟩
   ·rw[q.1,q.2]at h
    exact absurd h.1 (by decide)
   ·rw[q.1,q.2]at h
    exact absurd h.2 (by decide)
theorem j2_ex (hi:i<parts.length) (hl:parts.length≤200000) (hx:parts[i].size≤300000) (out g:ByteArray) (ho:out.size≤300000) (hgs:g.size≤5) (b:Bool) (h0:i=0→by_.length=0→out.size=0) :
  ∃g',(g'=⟨#[32]⟩∨(g'=g∧b=false)∨(g'=⟨#[]⟩∧i=0))∧∀k,spec_Gaps.j2 (k+1) parts by_ out i g b=spec_Gaps.l0 k parts by_ (out++g'++parts[i]) ((i+1:Nat):Int):=by
 have hw:wrap64 ((i:Int)+1)=((i+1:Nat):Int):=by unfold wrap64;omega
 have rx:=rdo_at hi;have h1:(⟨#[32]⟩:ByteArray).size=1:=rfl;have e0:out++(⟨#[]⟩:ByteArray)=out:=by apply ByteArray.ext;simp
 by_cases hi0:0<i∨0<by_.length
 ·cases b with
  | true=>
   refine⟨⟨#[32]⟩,.inl rfl,fun k=>?_⟩;simp only[spec_Gaps.j2];rw[if_pos trivial,hw,rx];have t:(if out.size+1≤9223372036854775807 then if (0:Int)≤(i:Int)then if (i:Int)<(parts.length:Int)then if (out++(⟨#[32]⟩:ByteArray)).size+parts[i].size≤9223372036854775807 then spec_Gaps.l0 k parts by_ (out++⟨#[32]⟩++parts[i]) ((i+1:Nat):Int)else none else none else none else none)=spec_Gaps.l0 k parts by_ (out++⟨#[32]⟩++parts[i]) ((i+1:Nat):Int):=by
    rw[if_pos (by omega),if_pos (by omega),if_pos (by omega),if_pos (by rw[ByteArray.size_append,h1];omega)]
   by_cases hp:(i:Int)>0
   ·rw[if_pos hp];exact t
   ·rw[if_neg hp,if_pos (by omega)];exact t
  | false=>
   refine⟨g,.inr (.inl ⟨rfl,rfl⟩),fun k=>?_⟩;simp only[spec_Gaps.j2];rw[if_neg (by decide),hw,rx]
   have t:(if out.size+g.size≤9223372036854775807 then if (0:Int)≤(i:Int)then if (i:Int)<(parts.length:Int)then if (out++g).size+parts[i].size≤9223372036854775807 then spec_Gaps.l0 k parts by_ (out++g++parts[i]) ((i+1:Nat):Int)else none else none else none else none)=spec_Gaps.l0 k parts by_ (out++g++parts[i]) ((i+1:Nat):Int):=by
    rw[if_pos (by omega),if_pos (by omega),if_pos (by omega),if_pos (by rw[ByteArray.size_append];omega)]
   by_cases hp:(i:Int)>0
   ·rw[if_pos hp];exact t
   ·rw[if_neg hp,if_pos (by omega)];exact t
 ·refine⟨⟨#[]⟩,.inr (.inr ⟨rfl,by omega⟩),fun k=>?_⟩
  rw[e0];simp only[spec_Gaps.j2];rw[hw,rx];cases b with
  | true=>rw[if_pos rfl,if_neg (by omega),if_neg (by omega),if_pos (by omega),if_pos (by omega),if_pos (by omega)]
  | false=>rw[if_neg (by decide),if_neg (by omega),if_neg (by omega),if_pos (by omega),if_pos (by omega),if_pos (by omega)]
theorem blank_ok:GapOk (⟨#[32]⟩:ByteArray):=(gapT_ok 1 (by decide)).1
theorem gaps_step (hsz:∀x∈parts,0<x.size) (hby:∀b∈by_,0≤b∧b≤255) (hbl:by_.length≤200000) (hi:i<parts.length) (hl:parts.length≤200000) (hx:parts[i].size≤300000) (out:ByteArray) (ho:out.size≤300000) (h0:i=0→out.size=0) :
  ∃g',GapOk g'∧g'.size≤5∧(g'.size=0→∀m,(hm:m+1=i)→free (parts[m]'(by omega)) parts[i])∧∀k,spec_Gaps.l0 (k+3) parts by_ out i=spec_Gaps.l0 k parts by_ (out++g'++parts[i]) ((i+1:Nat):Int):=by
 have hmid:∃g,GapOk g∧g.size≤5∧∀k,spec_Gaps.l0 (k+1) parts by_ out i=spec_Gaps.j1 k parts by_ out i g:=by
  by_cases hb:by_.length=0
  ·refine⟨⟨#[32]⟩,blank_ok,by decide,fun k=>?_⟩
   simp only[spec_Gaps.l0];rw[if_pos (by omega),if_neg (by omega)]
  ·have hq0:0≤Int.tmod (i:Int) (by_.length:Int):=Int.tmod_nonneg _ (by omega)
   have hq1:Int.tmod (i:Int) (by_.length:Int)<(by_.length:Int):=Int.tmod_lt_of_pos _ (by omega)
   generalize hq:Int.tmod (i:Int) (by_.length:Int)=q at hq0 hq1;have hr:0≤rd by_ q∧rd by_ q≤255:=by
    have hlt:q.toNat<by_.length:=by omega
    have e:rd by_ q=by_[q.toNat]:=by
     unfold rd;rw[List.getD_eq_getElem?_getD,List.getElem?_eq_getElem hlt];rfl
    rw[e];exact hby _ (List.getElem_mem hlt)
   have hwr:wrap64 (rd by_ q)=rd by_ q:=by unfold wrap64;omega
   have ht0:0≤Int.tmod (rd by_ q) 11:=Int.tmod_nonneg _ hr.1;have ht1:Int.tmod (rd by_ q) 11<11:=Int.tmod_lt_of_pos _ (by decide)
   obtain⟨g1,g2⟩:=gapT_ok (Int.tmod (rd by_ q) 11).toNat (by omega)
   refine⟨gapT (Int.tmod (rd by_ q) 11).toNat,g1,g2,fun k=>?_⟩;simp only[spec_Gaps.l0];rw[if_pos (by omega),if_pos (by omega)]
   simp only[Option.bind_some];rw[if_neg (by omega),hq,if_pos hq0,if_pos hq1,hwr,if_pos ht0,if_pos (by exact ht1)]
   rfl
 obtain⟨g,a1,a2,a3⟩:=hmid;obtain⟨b,b1,b2,b3⟩:=j1_ex (by_:=by_) hsz hi hl out g;obtain⟨g',c1,c2⟩:=j2_ex (by_:=by_) hi hl hx out g ho a2 b (fun h _=>h0 h);refine⟨g',?_,?_,fun hz m hm=>?_,fun k=>?_⟩
 ·rcases c1 with rfl|⟨rfl,_⟩|⟨rfl,_⟩
  ·exact blank_ok
  ·exact a1
  ·exact gap_none
 ·rcases c1 with rfl|⟨rfl,_⟩|⟨rfl,_⟩
  ·decide
  ·exact a2
  ·decide
 ·rcases c1 with rfl|⟨rfl,hb⟩|⟨rfl,h⟩
  ·exact absurd hz (by decide)
  ·exact b3 hb hz m hm
  ·omega
 ·rw[a3,b1,c2]
end
theorem wt_mem {x:ByteArray}:∀{l:List ByteArray},x∈l→x.size+6≤wt l
 | [],h=>by cases h
 | y::l,h=>by
  have e:wt (y::l)=y.size+6+wt l:=rfl;rcases List.mem_cons.1 h with rfl|h
  ·omega
  ·have:=wt_mem h;omega
theorem wt_take (l:List ByteArray) (n:Nat):wt (l.take n)≤wt l:=by
 have e:=wt_app (l.take n) (l.drop n);rw[List.take_append_drop]at e;omega
theorem gaps_l0 {V:ByteArray→ByteArray→Prop} {kv:ByteArray→Int×ByteArray} {parts:List ByteArray} {by_:List Int} (hP:∀x∈parts,Piece V x (kv x).1 (kv x).2) (hwt:wt parts≤200000) (hby:∀b∈by_,0≤b∧b≤255) (hbl:by_.length≤200000) :
  ∀(j i:Nat) (out:ByteArray),parts.length-i≤j→i≤parts.length→LayInv V kv parts i out→∃r,(∀K,3*j+1≤K→spec_Gaps.l0 K parts by_ out i=some r)∧LayInv V kv parts parts.length r:=by
 have hlen:=wt_len parts;intro j
 induction j with
 | zero=>
  intro i out h1 h2 h3;obtain rfl:i=parts.length:=by omega
  refine⟨out,fun K hK=>?_,h3⟩;obtain⟨K,rfl⟩:∃j,K=j+1:=⟨K-1,by omega⟩
  simp only[spec_Gaps.l0];rw[if_neg (by omega)]
 | succ j ih=>
  intro i out h1 h2 h3
  by_cases hi:i=parts.length
  ·subst hi
   refine⟨out,fun K hK=>?_,h3⟩;obtain⟨K,rfl⟩:∃j,K=j+1:=⟨K-1,by omega⟩
   simp only[spec_Gaps.l0];rw[if_neg (by omega)]
  ·have hlt:i<parts.length:=by omega
   have hm:=wt_mem (List.getElem_mem hlt);have ht:=wt_take parts i;have hs:=h3.size;obtain⟨g,c1,c2,c3,c4⟩:=gaps_step (by_:=by_) (fun x hx=>(hP x hx).size) hby hbl hlt (by omega) (by omega) out (by omega) (fun h=>by
    subst h;have:wt (parts.take 0)=0:=rfl;omega)
   obtain⟨r,d1,d2⟩:=ih (i+1) (out++g++parts[i]) (by omega) (by omega) (h3.more hlt (hP _ (List.getElem_mem hlt)) c1 c2 c3)
   refine⟨r,fun K hK=>?_,d2⟩;obtain⟨K,rfl⟩:∃j,K=j+3:=⟨K-3,by omega⟩
   rw[c4];exact d1 K (by omega)
theorem gaps_any {V:ByteArray→ByteArray→Prop} {kv:ByteArray→Int×ByteArray} {parts:List ByteArray} {by_:List Int} (hP:∀x∈parts,Piece V x (kv x).1 (kv x).2) (hwt:wt parts≤200000) (hby:∀b∈by_,0≤b∧b≤255) (hbl:by_.length≤200000) :
  ∃(K:Nat) (r:ByteArray),spec_Gaps.f K parts by_=some r∧LayInv V kv parts parts.length r:=by
 obtain⟨r,h1,h2⟩:=gaps_l0 hP hwt hby hbl parts.length 0 ⟨#[]⟩ (by omega) (by omega) (LayInv.begin_ V kv parts)
 exact⟨_,r,h1 _ (Nat.le_refl _),h2⟩
theorem gaps_call {V:ByteArray→ByteArray→Prop} {kv:ByteArray→Int×ByteArray} {w:World} {parts:List ByteArray} {by_:List Int} {A B:Option Addr} {ca cb:Nat} (hA:Kd.C Kd.string w A parts.length parts) (hca:parts.length≤ca) (hB:Kd.C (Kd.int .u8) w B by_.length by_) (hcb:by_.length≤cb) (hP:∀x∈parts,Piece V x (kv x).1 (kv x).2) (hwt:wt parts≤200000) (hby:∀b∈by_,0≤b∧b≤255) (hbl:by_.length≤200000) :
  Calls Tryz.prog 9 #[.slice A parts.length ca,.slice B by_.length cb] w fun e w'=>∃r,e = .returned (.string r)∧Below w.heap.size w w'∧LayInv V kv parts parts.length r:=by
 obtain⟨K,s,f,hl⟩:=gaps_any (by_:=by_) hP hwt hby hbl;refine(spec_Gaps.calls K A ca parts B cb by_ s w hA hca hB hcb f).mono ?_;rintro e w' ⟨he,hb⟩;exact⟨s,he,hb,hl⟩
end Go.Proofs.YtjolkdnfbmkjiaaGreatDoor.Wr
namespace Go.Proofs.YtjolkdnfbmkjiaaGreatDoor.Wr
open Go.RowKit Mem Go.Proofs.YtjolkdnfbmkjiaaGreatDoorW.PrintWords PFnTokensGaps Tr
theorem fc_any (x:ByteArray) (hx:x.size≤4000):FC Lex.blkV x:=by
 obtain⟨r1,a1,b1⟩:=Qt.text_any x (by omega)
 obtain⟨r2,a2,b2⟩:=Qt.block_any x (by omega)
 exact⟨nameC _ x (by omega),num_any x (by omega) 16 (.inl rfl),num_any x (by omega) 17 (.inr rfl),⟨r1,fun h=>Qt.str_any x (by omega) (a1 h),b1⟩,⟨r2,fun h=>Qt.blk_any x (by omega) (a2 h).1 (a2 h).2,b2⟩⟩
theorem right_writes {V:ByteArray→ByteArray→Prop} {d:List S35} (h:RightD V d):∃(new:List ByteArray) (cost:Nat),AllP V new∧NodeSpec d 0 new cost∧cost≤152000:=by
 obtain⟨new,h1,h2⟩:=node_all V d h.len h.fm (fun q m hN hk=>by
  obtain⟨l,hT,hS⟩:=h.sh q m hN;have hne:∀x,x∈l→2≤m:=by
   intro x hx;obtain⟨p,m',e1,e2,e3,e4⟩:=hT.mem x hx;have:=e4.pos;omega
  simp only[List.mem_cons,List.not_mem_nil,or_false]at hk;rcases hk with hk|hk|hk
  ·obtain⟨x,hx⟩:=List.exists_mem_of_ne_nil l (hS.1 (.inl hk))
   exact⟨hne x hx,fun h=>by omega⟩
  ·obtain⟨x,hx⟩:=List.exists_mem_of_ne_nil l (hS.1 (.inr hk))
   exact⟨hne x hx,fun h=>by omega⟩
  ·obtain⟨x,hx,hk2⟩:=hS.2 hk
   have h2:=hne x (by rw[hx];exact List.mem_singleton.2 rfl)
   refine⟨h2,fun _=>?_⟩;have:=tops_head hT (by omega)
   rw[hx,List.mem_singleton]at this;rw[this];exact hk2) d.length 0 h.nod
 refine⟨new,_,h1,h2,?_⟩;have e2:cst d (((0:Nat):Int))=PS d (0+d.length)-PS d 0-7:=by
  unfold cst;rw[Int.toNat_natCast,h.nod.size,Int.toNat_natCast]
 have e3:=PS_BS d d.length;have e4:=h.bs;have e5:=h.len;rw[Nat.zero_add]at e2;show cst d (((0:Nat):Int))≤152000;rw[e2];omega
end Go.Proofs.YtjolkdnfbmkjiaaGreatDoor.Wr
namespace Go.Proofs.YtjolkdnfbmkjiaaGreatDoor.Wr
open Go.RowKit Mem Go.Proofs.YtjolkdnfbmkjiaaGreatDoorW.PrintWords Go.Proofs.YtjolkdnfbmkjiaaGreatDoorW.PrintLast PFnTokensGaps
open Go.Proofs.YtjolkdnfbmkjiaaGreatDoor.Rel (Piece GapOk gap_none free)
theorem row_str {w:World} {base e:Nat} {v:Value} {xs:List ByteArray} (h:w.ownsRow base e 1 v xs.length (xs.map Value.string)):∃A c,v = .slice A xs.length c∧xs.length≤c∧Kd.C Kd.string w A xs.length xs:=by
 have e2:xs.map Value.string=xs.flatMap (fun x=>[Value.string x]):=by
  induction xs with
  | nil=>rfl
  | cons x xs ih=>rw[List.map_cons,List.flatMap_cons,List.singleton_append];congr 1;exact List.map_eq_flatMap
 rw[e2]at h;have hR:Kd.R Kd.string e w base (fun _=>True) v xs:=own_R (d:=Kd.string) (fun x=>[Value.string x]) (fun _=>rfl) (fun _ x=>rfl) h;obtain⟨A,c,h1,h2,h3⟩:=Kd.R_reads hR;exact⟨A,c,h1,h2,h3⟩
theorem texts_row {W:World} {A:Option Addr} {cd:Nat} {d:List S35} {new:List ByteArray} {cost:Nat} (hD:DE W A cd d) (hN:NodeSpec d 0 new cost) (hc:cost≤900000) :
  Calls Tryz.prog 6 #[.slice A d.length cd,.int .i64 0] W fun e w'=>∃B c,e = .returned (.slice B new.length c)∧new.length≤c∧Kd.C Kd.string w' B new.length new∧Below W.heap.size W w'∧wt new≤cost:=by
 refine(texts_any hD hN hc).mono ?_;rintro e w' ⟨v,rfl,hr,hw,hb⟩;obtain⟨B,c,rfl,h1,h2⟩:=row_str hr;exact⟨B,c,rfl,h1,h2,hb,hw⟩
section
variable {V:ByteArray→ByteArray→Prop} {kv:ByteArray→Int×ByteArray} {new:List ByteArray} {out:ByteArray} {i:Nat}
theorem laid_first (h:LayInv V kv new 0 out) (hP:∀x∈new,Piece V x (kv x).1 (kv x).2) (hi:0<new.length):LayInv V kv new 1 (out++new[0]):=by
 have:=h.more hi (hP _ (List.getElem_mem hi)) (g:=⟨#[]⟩) gap_none (by decide) (fun _ m hm=>by omega)
 have e:out++(⟨#[]⟩:ByteArray)=out:=by apply ByteArray.ext;simp
 rwa[e]at this
theorem laid_next (h:LayInv V kv new i out) (hP:∀x∈new,Piece V x (kv x).1 (kv x).2) (hi:i<new.length):LayInv V kv new (i+1) (out++⟨#[32]⟩++new[i]):=
 h.more hi (hP _ (List.getElem_mem hi)) blank_ok (by decide) (fun h0=>absurd h0 (by decide))
end
theorem add_z (ad:Addr):ad.add 0=ad:=by cases ad;simp[Addr.add]
theorem written_any {V:ByteArray→ByteArray→Prop} {kv:ByteArray→Int×ByteArray} {W:World} {A:Option Addr} {cd:Nat} {d:List S35} {new:List ByteArray} {cost:Nat} (hD:DE W A cd d) (hN:NodeSpec d 0 new cost) (hc:cost≤900000) (hd:0<d.length) (hP:∀x∈new,Piece V x (kv x).1 (kv x).2) (hw:wt new≤200000) :
  Calls Tryz.prog 8 #[.slice A d.length cd] W fun e w'=>∃r,e = .returned (.string r)∧Below W.heap.size W w'∧LayInv V kv new new.length r:=by
 have HT:=aK (texts_row hD hN hc);have HP:=aK hP;have hlen:=wt_len new;have h0b:((d.length:Int)==0)=false:=beq_eq_false_iff_ne.2 (by omega)
 clear hD hN hP;go_enter Tryz.func8,Tryz.ntmps8
 go_wp2_with fail
 refine HT.out.mono ?_;rintro e w1 ⟨B,c,rfl,hc2,hC,hb,_⟩;have HB:=aK hb;have HC:=aK hC;clear hb hC
 go_wp2_with fail
 go_loopg [3,5] (new.length+1) (fun k v3 v5 w'=>∃(out:ByteArray) (i:Nat),v3 = .string out∧v5 = .int .i64 i∧k=new.length+1-i∧i≤new.length∧out.size≤200000∧Aside0 (LayInv V kv new i out)∧Drawn0 w1 w')
 case atStart=>exact⟨⟨#[]⟩,0,rfl,rfl,rfl,Nat.zero_le _,Nat.zero_le _,⟨LayInv.begin_ V kv new⟩,Drawn0.refl _⟩
 case round=>
  obtain⟨out,i,rfl,rfl,hk,hin,ho,H,⟨m1,rfl⟩⟩:=hrel
  by_cases hi:i<new.length
  ·obtain⟨ad,e2,y0⟩:=Kd.at_string HC.out (i:Int) (by omega) (by omega)
   subst e2;rw[rdo_at hi,Int.toNat_natCast]at y0;have hx:=wt_mem (List.getElem_mem hi);have hA:=World.block_lt_of_cell? w1 _ y0;have hii:(i:Int)<(new.length:Int):=by omega
   rcases Nat.eq_zero_or_pos i with rfl|hp
   ·have HL:=aK (laid_first H.out HP.out hi)
    generalize hxx:new[0]=x at *;rw[add_z]at y0 hA
    go_wp2_with fail
    repeat (go_quiet (fail);try go_wp2_with fail)
    go_roundg (new.length+1-(0+1))
    case measure=>omega
    case rel=>exact⟨_,0+1,rfl,by go_num,rfl,hi,by have:=HL.out.size;have:=wt_take new 1;omega,HL,vD⟩
   ·have HL:=aK (laid_next H.out HP.out hi)
    generalize hxx:new[i]=x at *
    go_wp2_with fail
    repeat (go_quiet (fail);try go_wp2_with fail)
    go_roundg (new.length+1-(i+1))
    case measure=>omega
    case rel=>exact⟨_,i+1,rfl,by go_num,rfl,hi,by have:=HL.out.size;have:=wt_take new (i+1);omega,HL,vD⟩
  ·obtain rfl:i=new.length:=by omega
   go_wp2_with fail
   repeat (go_quiet (fail);try go_wp2_with fail)
   refine bodyPost_ret (results_tmp rfl _ _ _) rfl ?_;exact⟨out,rfl,pw_below_drewN HB.out _,H.out⟩
end Go.Proofs.YtjolkdnfbmkjiaaGreatDoor.Wr
