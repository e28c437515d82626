import Derived.Test.YtjolkdnfbmkjiaaGreatDoorVC5
import Derived.Test.YtjolkdnfbmkjiaaGreatDoorVP0
import Derived.Test.YtjolkdnfbmkjiaaGreatDoorVG4
set_option maxRecDepth 100000
set_option maxHeartbeats 8000000
set_option linter.unusedVariables false
set_option linter.unusedSimpArgs false
namespace Go.Proofs.YtjolkdnfbmkjiaaGreatDoor.Wr
open Go.RowKit Mem Go.Proofs.YtjolkdnfbmkjiaaGreatDoorW.PrintWords Go.Proofs.YtjolkdnfbmkjiaaGreatDoorW.PrintLast PFnTokensGaps
theorem reps_flat {α:Type} {R:α→List Value→Prop} {size:Nat} (c:α→List Value) (hl:∀x,(c x).length=size) (hR:∀x,R x (c x)):∀xs:List α,Reps R size xs (xs.flatMap c)
 | []=>Reps.none _ _
 | x::xs=>by
  obtain⟨h1,h2⟩:=reps_flat c hl hR xs;rw[List.flatMap_cons];refine⟨by rw[List.length_append,hl,h1,List.length_cons,Nat.succ_mul];omega,fun j p hj=>?_⟩
  rcases j with _|j
  ·obtain rfl:x=p:=by simpa using hj
   rw[Nat.zero_mul,List.drop_zero,List.take_left' (hl x)];exact hR x
  ·have hj':xs[j]?=some p:=by simpa using hj
   rw[show(j+1)*size=size+j*size by rw[Nat.succ_mul];omega,←List.drop_drop,List.drop_left' (hl x)]
   exact h2 j p hj'
theorem own_R {α:Type} {d:Kd α} {e base:Nat} {w:World} {v:Value} {xs:List α} (c:α→List Value) (hl:∀x,(c x).length=d.sz) (hM:∀ok x,d.M w base ok x (c x)) (h:w.ownsRow base e d.sz v xs.length (xs.flatMap c)):d.R e w base (fun _=>True) v xs:=
 ⟨fun _ _=>trivial,_,h,reps_flat c hl (hM _) xs⟩
def c56 (x:S56):List Value:=[.int .i64 x.f0,.string x.f1,.int .i64 x.f2,.int .i64 x.f3]
def sT (t:Mod.Tok):S56:=⟨t.kind,t.value,t.start,t.stop⟩
theorem own_56 {e base:Nat} {w:World} {v:Value} {xs:List S56} (h:w.ownsRow base e 4 v xs.length (xs.flatMap c56)):Kd.R k56 e w base (fun _=>True) v xs:=
 own_R c56 (fun _=>rfl) (fun _ x=>⟨[_],_,rfl,rfl,[_],_,rfl,rfl,[_],_,rfl,rfl,rfl⟩) h
theorem toks_56 (l:List Mod.Tok):Mem.toks (l.map Lex.cv)=(l.map sT).flatMap c56:=by
 unfold Mem.toks;rw[List.flatMap_map,List.flatMap_map];rfl
theorem row_56 {w:World} {base:Nat} {A:Option Addr} {c:Nat} {l:List Mod.Tok} (h:Lex.RowAt w base (.slice A l.length c) (l.map Lex.cv)):Kd.C k56 w A (l.map sT).length (l.map sT):=by
 have h':w.ownsRow base 56 4 (.slice A l.length c) (l.map sT).length ((l.map sT).flatMap c56):=by
  rw[←toks_56,List.length_map];have h2:=h;unfold Lex.RowAt at h2;rw[List.length_map]at h2;exact h2
 have h4:(Value.slice A l.length c) = .slice A (l.map sT).length c:=by rw[List.length_map]
 have h5:=own_56 h';rw[h4]at h5;exact(Kd.R_reads' h5).2.2
open Go.Proofs.YtjolkdnfbmkjiaaGreatDoor.Rel (Piece Chain TokAt BadAt num_place num_same in_of)
theorem add0 (ad:Addr) (n:Nat):ad.add (Int.toNat 0*n)=ad:=by cases ad;simp[Addr.add]
def LexP (s:ByteArray) (w:World) (e:Ending) (w':World):Prop:=
 Below w.heap.size w w'∧((∃u:Bool,e = .returned (.tuple #[.slice none 0 0,.bool false,.bool u]))∨∃(l:List Mod.Tok) (A:Option Addr) (c:Nat) (u:Bool),e = .returned (.tuple #[.slice A l.length c,.bool true,.bool u])∧l.length≤c∧Kd.C k56 w' A (l.map sT).length (l.map sT)∧(u=true→Chain s (TokAt Lex.blkV s) (BadAt s) true 0 l))
theorem lex_any (s:ByteArray) (w:World) (hs:s.size≤200000):Calls Tryz.prog 57 #[.string s] w (LexP s w):=by
 have HLX:=aK (Lex.lexed_any s w hs);go_enter Tryz.func57,Tryz.ntmps57
 go_wp2_with fail
 refine HLX.out.mono ?_;rintro e w1 ⟨l,A,c,whole,uns,rfl,hc,hb,hrow,hl,hch⟩;have HB:=aK hb;have HR:=aK (row_56 hrow);have HCH:=aK hch;have HC:=aK hc;clear hb hrow hch hc hl;cases whole with
 | false=>
  go_wp2_with fail
  refine bodyPost_ret (v:=.tuple #[.slice none 0 0,.bool false,.bool (!uns)]) (by simp[results,Tryz.results57,go_sem]) rfl ⟨HB.out,.inl ⟨_,rfl⟩⟩
 | true=>
  go_wp2_with fail
  refine bodyPost_ret (v:=.tuple #[.slice A l.length c,.bool true,.bool (!uns)]) (by simp[results,Tryz.results57,go_sem]) rfl ⟨HB.out,.inr ⟨l,A,c,_,rfl,HC.out,HR.out,fun h=>HCH.out (by simpa using h)⟩⟩
theorem num_piece {V:ByteArray→ByteArray→Prop} {s:ByteArray} {t:Mod.Tok} {T:Nat→Prop} (h:Chain s (TokAt Lex.blkV s) T true 0 [t]) (hk:t.kind=16∨t.kind=17) (hv:t.value=s):IsP V s:=by
 cases h with
 | @more _ p _ _ h1 h2 h3=>
  have hp:=h2.place;cases h2 with
  | sign a b=>exfalso;simp only[Mod.signK]at hk;omega
  | dots a b c=>simp at hk
  | name a=>simp at hk
  | str a b c d=>simp at hk
  | blk a b c d=>simp at hk
  | num a b=>
   have hval:t.value=s.extract t.start t.stop:=by
    unfold Mod.mNum at b;obtain⟨p1,q1,b⟩:=Option.bind_eq_some_iff.1 b;obtain⟨y,q2,b⟩:=Option.bind_eq_some_iff.1 b;obtain⟨z,q3,rfl⟩:=Option.map_eq_some_iff.1 b;rfl
   have hsz:s.size=t.stop-t.start:=by
    have:=congrArg ByteArray.size hval;rw[hv,ByteArray.size_extract]at this;omega
   have h0:t.start=0∧t.stop=s.size:=by omega
   obtain rfl:p=0:=by omega
   have hn:Rel.sNum s 0=some (t.kind,s.size):=by
    rw[num_same,b];show some (t.kind,t.stop)=_;rw[h0.2]
   exact⟨t.kind,s,.num a hn⟩
theorem num_any {V:ByteArray→ByteArray→Prop} (s:ByteArray) (hs:s.size≤200000) (k:Int) (hk:k=16∨k=17):NumC V s k:=by
 intro w;have HL:=aK (lex_any s w hs);go_enter Tryz.func35,Tryz.ntmps35
 go_wp2_with fail
 refine HL.out.mono ?_;rintro e w1 ⟨hb,⟨u,rfl⟩|⟨l,A,c,u,rfl,hc,hC,hch⟩⟩
 ·have HB:=aK hb
  clear hb
  go_wp2_with fail
  refine bodyPost_ret (results_tmp rfl _ _ _) rfl ?_;exact⟨false,rfl,HB.out,fun h=>by cases h⟩
 ·have HB:=aK hb
  clear hb;cases u with
  | false=>
   go_wp2_with fail
   refine bodyPost_ret (results_tmp rfl _ _ _) rfl ?_;exact⟨false,rfl,HB.out,fun h=>by cases h⟩
  | true=>
   by_cases h1:l.length=1
   ·obtain⟨t,rfl⟩:=List.length_eq_one_iff.1 h1
    obtain⟨ad,e2,y0,y1,y2,y3⟩:=at_T56 hC (0:Int) (by omega) (by simp)
    subst e2;have HCH:=aK (hch rfl);clear hch hC;rw[show rd_T56 ([t].map sT) (0:Int)=sT t from rfl]at y0 y1 y2 y3
    simp only[sT,add0]at y0 y1;have hA:=World.block_lt_of_cell? w1 _ y0;clear y2 y3
    by_cases hkk:t.kind=k
    ·have hkb:(t.kind==k)=true:=beq_iff_eq.2 hkk
     have HK:=aK hkk
     by_cases hv:t.value.toList=s.toList
     ·have hvb:(t.value.toList==s.toList)=true:=beq_iff_eq.2 hv
      have HV:=aK (Lex.toList_inj hv);clear hkk hv
      go_wp2_with fail
      refine bodyPost_ret (results_tmp rfl _ _ _) rfl ?_;exact⟨true,rfl,HB.out,fun _=>num_piece HCH.out (by rw[HK.out];exact hk) HV.out⟩
     ·have hvb:(t.value.toList==s.toList)=false:=beq_eq_false_iff_ne.2 hv
      go_wp2_with fail
      refine bodyPost_ret (results_tmp rfl _ _ _) rfl ?_;exact⟨false,rfl,HB.out,fun h=>by cases h⟩
    ·have hkb:(t.kind==k)=false:=beq_eq_false_iff_ne.2 hkk
     go_wp2_with fail
     refine bodyPost_ret (results_tmp rfl _ _ _) rfl ?_;exact⟨false,rfl,HB.out,fun h=>by cases h⟩
   ·have h1b:((l.length:Int)==1)=false:=beq_eq_false_iff_ne.2 (by omega)
    clear hch hC
    go_wp2_with fail
    refine bodyPost_ret (results_tmp rfl _ _ _) rfl ?_;exact⟨false,rfl,HB.out,fun h=>by cases h⟩
end Go.Proofs.YtjolkdnfbmkjiaaGreatDoor.Wr
