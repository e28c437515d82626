import Derived.Test.YtjolkdnfbmkjiaaGreatDoorVPA
import Derived.Test.YtjolkdnfbmkjiaaGreatDoorVC0
import Derived.Test.YtjolkdnfbmkjiaaGreatDoorVA1
import Derived.WalkSpells
import Derived.StillTactics
import Derived.OwnWalk
import Derived.Deep.RegionLaw
import Derived.OneCell
import Derived.Laws.Pointers
import Derived.Maps.Own
import Derived.Defers
import Derived.Test.YtjolkdnfbmkjiaaGreatDoorVP8
set_option maxRecDepth 100000
set_option maxHeartbeats 8000000
set_option linter.unusedVariables false
set_option linter.unusedSimpArgs false
namespace Go.Proofs.YtjolkdnfbmkjiaaGreatDoor.Wr
open Go.RowKit Mem Go.Proofs.YtjolkdnfbmkjiaaGreatDoorW.PrintWords PFnTokensGaps
abbrev MR:Value→Option (DataW Unit×List MemPlace):=fun _=>some (.lit (.bool true),[])
def wt (l:List ByteArray):Nat:=(l.map fun x=>x.size+6).sum
theorem wt_app (l m:List ByteArray):wt (l++m)=wt l+wt m:=by unfold wt;rw[List.map_append,List.sum_append]
theorem wt_len (l:List ByteArray):6*l.length≤wt l:=by
 induction l with
 | nil=>exact Nat.zero_le _
 | cons x l ih=>have e:wt (x::l)=x.size+6+wt l:=rfl;rw[e,List.length_cons];omega
structure WSt (base:Nat) (w:World) (b bm:Nat) (dv ov:Value) (l:List ByteArray) (c:Nat):Prop where
 blk:Blk w b 40 #[dv,ov,.map (some bm)]
 own:w.ownsRow base 9 1 ov l.length (l.map Value.string)
 map:∃n D,n≤c∧w.ownsMap Tryz.prog 3 MR bm n D
 hb:base≤b
 hm:base≤bm
 len:wt l≤c
structure WK (b bm:Nat) (w:World) (ov:Value) (w':World) (ov':Value):Prop where
 os:w'.os=w.os
 tape:w'.tape=w.tape
 output:w'.output=w.output
 size:w.heap.size≤w'.heap.size
 block:∀g,g<w.heap.size→g≠b→g≠bm→some g≠ov.ownBlock→w'.heap[g]?=w.heap[g]?
 own:∀g,ov'.ownBlock=some g→ov.ownBlock=some g∨w.heap.size≤g
section
variable {base b bm g c:Nat} {dv ov ov' ov1:Value} {l:List ByteArray} {w w' w1:World} {t:TypeId} {cs:Array Value}
theorem WK.refl (w:World) (ov:Value):WK b bm w ov w ov:=⟨rfl,rfl,rfl,Nat.le_refl _,fun _ _ _ _ _=>rfl,fun _ h=>.inl h⟩
theorem WK.trans (h:WK b bm w ov w1 ov1) (k:WK b bm w1 ov1 w' ov'):WK b bm w ov w' ov':=
 ⟨k.os.trans h.os,k.tape.trans h.tape,k.output.trans h.output,Nat.le_trans h.size k.size,
  fun g h1 h2 h3 h4=>(k.block g (Nat.lt_of_lt_of_le h1 h.size) h2 h3 (fun e=>by
   rcases h.own g e.symm with q|q
   ·exact h4 q.symm
   ·omega)).trans (h.block g h1 h2 h3 h4),
  fun g e=>by
   rcases k.own g e with q|q
   ·exact h.own g q
   ·have:=h.size;exact .inr (by omega)⟩
theorem WK.of_below (h:Below w.heap.size w w'):WK b bm w ov w' ov:=⟨h.os,h.tape,h.output,h.size,fun g h1 _ _ _=>h.block g h1,fun _ e=>.inl e⟩
theorem WK.then (h:WK b bm w ov w1 ov1) (k:Below w1.heap.size w1 w'):WK b bm w ov w' ov1:=h.trans (.of_below k)
theorem Blk.ne_map {n:Nat} {D:DataW Unit} (h:Blk w g t cs) (hm:w.ownsMap Tryz.prog 3 MR bm n D):g≠bm:=by
 rintro rfl;obtain⟨es,clock,hb,_⟩:=hm;unfold Blk at h;rw[h]at hb;cases hb
theorem WSt.ne (h:WSt base w b bm dv ov l c):b≠bm:=by
 obtain⟨n,D,_,hm⟩:=h.map;exact Blk.ne_map h.blk hm
theorem WSt.own_ne (h:WSt base w b bm dv ov l c):ov.ownBlock≠some b:=own_blk_ne h.own h.blk (by decide)
theorem WSt.own_nem (h:WSt base w b bm dv ov l c):ov.ownBlock≠some bm:=by
 intro e;obtain⟨n,D,_,es,clock,hb,_⟩:=h.map;rcases h.own.2 with⟨rfl,_⟩|⟨g',cap,cur,rfl,_,hh,_⟩
 ·cases e
 ·have:g'=bm:=by simpa[Value.ownBlock]using e
  subst this;rw[hh]at hb;cases hb
theorem Blk.stay (h:Blk w g t cs) (hS:WSt base w b bm dv ov l c) (k:WK b bm w ov w' ov') (h1:t≠40) (h2:t≠9):Blk w' g t cs:=by
 obtain⟨n,D,_,hm⟩:=hS.map;refine(k.block g h.lt ?_ (Blk.ne_map h hm) ?_).trans h
 ·exact Blk.ne_ h hS.blk h1
 ·exact fun e=>own_blk_ne hS.own h (Ne.symm h2) e.symm
theorem Blk.stay9 (h:Blk w g 9 cs) (hS:WSt base w b bm dv ov l c) (k:WK b bm w ov w' ov') (h2:some g≠ov.ownBlock):Blk w' g 9 cs∧some g≠ov'.ownBlock:=by
 obtain⟨n,D,_,hm⟩:=hS.map;refine⟨(k.block g h.lt ?_ (Blk.ne_map h hm) h2).trans h,fun e=>?_⟩
 ·exact Blk.ne_ h hS.blk (by decide)
 ·rcases k.own g e.symm with q|q
  ·exact h2 q.symm
  ·have:=h.lt;omega
theorem WSt.base_le (h:WSt base w b bm dv ov l c):base≤w.heap.size:=Nat.le_of_lt (Nat.lt_of_le_of_lt h.hb h.blk.lt)
theorem WK.below (k:WK b bm w ov w' ov') (h:WSt base w b bm dv ov l c):Below base w w':=by
 have h1:=h.base_le;refine⟨k.os,k.tape,k.output,k.size,fun g hg=>k.block g (by omega) (fun e=>?_) (fun e=>?_) (fun e=>?_)⟩
 ·have:=h.hb;omega
 ·have:=h.hm;omega
 ·have:=own_base h.own g e.symm;omega
theorem ownsMap_below {n:Nat} {D:DataW Unit} (h:w.ownsMap Tryz.prog 3 MR bm n D) (k:Below w.heap.size w w'):w'.ownsMap Tryz.prog 3 MR bm n D:=by
 obtain⟨es,clock,hb,r⟩:=h;exact⟨es,clock,(k.block bm (Keep.shape_lt hb)).trans hb,r⟩
theorem ownsRow_below {e:TypeId} {size n:Nat} {v:Value} {xs:List Value} (h:w.ownsRow base e size v n xs) (k:Below w.heap.size w w'):w'.ownsRow base e size v n xs:=by
 refine⟨h.1,?_⟩;rcases h.2 with q|⟨g,cap,cur,r1,r2,r3,r4⟩
 ·exact .inl q
 ·exact .inr ⟨g,cap,cur,r1,r2,(k.block g (Keep.shape_lt r3)).trans r3,r4⟩
theorem WSt.below (h:WSt base w b bm dv ov l c) (k:Below w.heap.size w w'):WSt base w' b bm dv ov l c:=by
 obtain⟨n,D,hn,hm⟩:=h.map;exact⟨h.blk.below k h.blk.lt,ownsRow_below h.own k,⟨n,D,hn,ownsMap_below hm k⟩,h.hb,h.hm,h.len⟩
theorem WSt.more (h:WSt base w b bm dv ov l c) {c':Nat} (hc:c≤c'):WSt base w b bm dv ov l c':=by
 obtain⟨n,D,hn,hm⟩:=h.map;exact⟨h.blk,h.own,⟨n,D,by omega,hm⟩,h.hb,h.hm,Nat.le_trans h.len hc⟩
theorem WSt.c0 (h:WSt base w b bm dv ov l c):w.cell? ⟨b,0,none⟩=some dv:=(Blk.cell h.blk 0).trans rfl
theorem WSt.c1 (h:WSt base w b bm dv ov l c):w.cell? ⟨b,1,none⟩=some ov:=(Blk.cell h.blk 1).trans rfl
theorem WSt.c2 (h:WSt base w b bm dv ov l c):w.cell? ⟨b,2,none⟩=some (.map (some bm)):=(Blk.cell h.blk 2).trans rfl
end
theorem put_end {base b bm c gg cap:Nat} {dv ov:Value} {l news:List ByteArray} {w w1:World} (hS:WSt base w b bm dv ov l c)
  (hown1:w1.ownsRow base 9 1 (.slice (some ⟨gg,0,none⟩) (l.length+news.length) cap) (l.length+news.length) (l.map Value.string++news.map Value.string))
  (hgrow:w.grownBy w1 ov.ownBlock) (hat:ov.ownBlock=some gg∨gg=w.heap.size) :
  ∃ov',WSt base (w1.setCell ⟨b,1,none⟩ (.slice (some ⟨gg,0,none⟩) (l.length+news.length) cap)) b bm dv ov' (l++news) (c+wt news)∧WK b bm w ov (w1.setCell ⟨b,1,none⟩ (.slice (some ⟨gg,0,none⟩) (l.length+news.length) cap)) ov':=by
 have hb1:Blk w1 b 40 #[dv,ov,.map (some bm)]:=Blk.grown hS.blk hgrow (Ne.symm hS.own_ne);have hne:gg≠b:=fun e=>own_blk_ne hown1 hb1 (by decide) (by rw[e];rfl)
 obtain⟨n,D,hn,hm⟩:=hS.map;have hm1:w1.ownsMap Tryz.prog 3 MR bm n D:=by
  obtain⟨es,clock,hb,r⟩:=hm;exact⟨es,clock,(hgrow.block bm (Keep.shape_lt hb) (Ne.symm hS.own_nem)).trans hb,r⟩
 have hbm:=hS.ne;refine⟨.slice (some ⟨gg,0,none⟩) (l.length+news.length) cap,⟨Blk.set_ hb1 1 _,?_,⟨n,D,by omega,?_⟩,hS.hb,hS.hm,?_⟩,hgrow.os,hgrow.tape,hgrow.output,by rw[World.setCell];simpa using hgrow.size,fun g h1 h2 h3 h4=>?_,fun g e=>?_⟩
 ·rw[List.length_append,List.map_append]
  exact ownsRow_setCell_other hown1 (a:=⟨b,1,none⟩) (by
   intro e;have:gg=b:=by simpa[Value.ownBlock]using e
   exact hne this) _
 ·obtain⟨es,clock,hb,r⟩:=hm1
  exact⟨es,clock,(Below.heap_setCell w1 ⟨b,1,none⟩ _ bm (Ne.symm hbm)).trans hb,r⟩
 ·have:=hS.len;rw[wt_app];omega
 ·exact(Below.heap_setCell w1 ⟨b,1,none⟩ _ g h2).trans (hgrow.block g h1 h4)
 ·have e':gg=g:=by simpa[Value.ownBlock]using e
  subst e';rcases hat with q|q
  ·exact .inl q
  ·exact .inr (Nat.le_of_eq q.symm)
theorem put_any (base b bm c g cap:Nat) (dv ov:Value) (l news:List ByteArray) (w:World) (hS:WSt base w b bm dv ov l c) (hc:c≤1000000) (hsrc:Blk w g 9 (news.map Value.string).toArray) (hn:0<news.length) (hw:wt news≤1000000) :
  Calls Tryz.prog 23 #[.pointer (some ⟨b,0,none⟩),.slice (some ⟨g,0,none⟩) news.length cap] w fun e w'=>e = .returned (.tuple #[])∧∃ov',WSt base w' b bm dv ov' (l++news) (c+wt news)∧WK b bm w ov w' ov':=by
 obtain⟨i0,hi0,hz0,hz1,hz2⟩:=info_parts info9;have c1:=hS.c1;have lb:b<w.heap.size:=Blk.lt hS.blk;have hl:=wt_len l;have hl2:=wt_len news;have hlen:=hS.len;go_enter Tryz.func23,Tryz.ntmps23
 go_wp2_with (at_builtin;refine wpList_append_lies w (by rfl) _ _ _ (by rfl) base 9 i0 _ 1 16 Tryz.underlying25 hi0 hz0 hz1 hz2 rfl (by omega) ov l.length (l.map Value.string) (by rfl) hS.own ⟨g,0,none⟩ news.length cap (news.map Value.string) (by rfl) (by simp) (by simpa using World.news_of_block (w:=w) (B:=g) (cs:=(news.map Value.string).toArray) (t:=9) (fr:=(0,0)) hsrc) (by simp[Value.oneCell']) hn (by simp[maxLen];omega) (by omega) (hS.base_le) (w.heap.size) rfl ?_;intro gg cap1 w1 hown1 hgrow hat hlt;have hb1:Blk w1 b 40 #[dv,ov,.map (some bm)]:=Blk.grown hS.blk hgrow (Ne.symm hS.own_ne);have hf1:=Blk.frozen hb1 1;have hd1:w1.cell? ⟨b,1,none⟩=some ov:=(Blk.cell hb1 1).trans rfl;have HO:=aK (put_end hS hown1 hgrow hat);clear hown1 hgrow hat)
 go_end0
 exact⟨rfl,HO.out⟩
structure DE (w0:World) (A:Option Addr) (cd:Nat) (d:List S35):Prop where
 C:Kd.C k35 w0 A d.length d
 le:d.length≤cd
 len:d.length≤400
def NodeSpec (d:List S35) (q:Int) (new:List ByteArray) (cost:Nat):Prop:=
 ∀w0 A cd,DE w0 A cd d→∀(w:World) (b bm:Nat) (ov:Value) (l:List ByteArray) (c:Nat),WSt w0.heap.size w b bm (.slice A d.length cd) ov l c→Below w0.heap.size w0 w→c+cost≤900000→
  Calls Tryz.prog 13 #[.pointer (some ⟨b,0,none⟩),.int .i64 q] w fun e w'=>e = .returned (.tuple #[])∧∃ov',WSt w0.heap.size w' b bm (.slice A d.length cd) ov' (l++new) (c+cost)∧WK b bm w ov w' ov'
section
variable (d:List S35) (g:Int→List ByteArray) (cs:Int→Nat) (beg bet:ByteArray)
def kitem (n:Nat) (x:Int):List ByteArray:=(if n=0 then(if beg.toList.isEmpty then[] else[beg])else(if bet.toList.isEmpty then[] else[bet]))++g x
def kout:Nat→List Int→List ByteArray
 | _,[]=>[]
 | n,x::ps=>kitem g beg bet n x++kout (n+1) ps
theorem kout_snoc:∀(ps:List Int) (n:Nat) (x:Int),kout g beg bet n (ps++[x])=kout g beg bet n ps++kitem g beg bet (n+ps.length) x
 | [],n,x=>by simp[kout]
 | y::ps,n,x=>by
  rw[List.cons_append];show kitem g beg bet n y++kout g beg bet (n+1) (ps++[x])=kitem g beg bet n y++kout g beg bet (n+1) ps++kitem g beg bet (n+(ps.length+1)) x;rw[kout_snoc ps (n+1) x,List.append_assoc,show n+1+ps.length=n+(ps.length+1) by omega]
def kd (x:Int):Int:=(rd_T35 d x).f0
def hits (ks:List Int) (x:Int):List Int:=(ks.filter fun k=>kd d x=k).map fun _=>x
def mt (ks l:List Int):List Int:=l.flatMap (hits d ks)
def csum (ps:List Int):Nat:=(ps.map fun x=>cs x+7).sum
theorem csum_app (a b:List Int):csum cs (a++b)=csum cs a+csum cs b:=by unfold csum;rw[List.map_append,List.sum_append]
theorem hits_len (ks:List Int) (x:Int):(hits d ks x).length≤ks.length:=by unfold hits;rw[List.length_map];exact List.length_filter_le _ _
theorem mt_len (ks:List Int):∀l:List Int,(mt d ks l).length≤l.length*ks.length
 | []=>by simp[mt]
 | x::l=>by
  have h1:=hits_len d ks x;have h2:=mt_len ks l;have e:mt d ks (x::l)=hits d ks x++mt d ks l:=rfl;rw[e,List.length_append,List.length_cons,Nat.add_mul];omega
theorem take_snoc {α:Type} (z:α) (l:List α) (i:Nat) (h:i<l.length):l.take (i+1)=l.take i++[l.getD i z]:=by
 rw[List.take_add_one,List.getElem?_eq_getElem h,List.getD_eq_getElem?_getD,List.getElem?_eq_getElem h];rfl
theorem rd_D (l:List Int) (i:Nat):rd l (i:Int)=l.getD i 0:=by unfold rd;rw[Int.toNat_natCast]
theorem hits_app (a b:List Int) (x:Int):hits d (a++b) x=hits d a x++hits d b x:=by unfold hits;rw[List.filter_append,List.map_append]
theorem hits_hit (ks:List Int) (x:Int) (k:Nat) (hk:k<ks.length) (h:kd d x=ks.getD k 0):hits d (ks.take (k+1)) x=hits d (ks.take k) x++[x]:=by
 unfold hits;rw[take_snoc 0 ks k hk];generalize ks.getD k 0=y at h ⊢;rw[List.filter_append,List.map_append];simp[h]
theorem hits_miss (ks:List Int) (x:Int) (k:Nat) (hk:k<ks.length) (h:¬kd d x=ks.getD k 0):hits d (ks.take (k+1)) x=hits d (ks.take k) x:=by
 unfold hits;rw[take_snoc 0 ks k hk];generalize ks.getD k 0=y at h ⊢;rw[List.filter_append,List.map_append];simp[h]
theorem mt_app (ks a b:List Int):mt d ks (a++b)=mt d ks a++mt d ks b:=by unfold mt;rw[List.flatMap_append]
theorem mt_next (ks l:List Int) (i:Nat) (hi:i<l.length):mt d ks (l.take (i+1))=mt d ks (l.take i)++hits d ks (l.getD i 0):=by
 unfold mt;rw[take_snoc 0 l i hi,List.flatMap_append];simp
end
theorem R_stay {base b bm c:Nat} {dv ov ov' v:Value} {l:List ByteArray} {w w':World} {base':Nat} {ok:Nat→Prop} {xs:List Int} (h:Kd.R (Kd.int .i64) 3 w base' ok v xs) (hS:WSt base w b bm dv ov l c) (k:WK b bm w ov w' ov'):Kd.R (Kd.int .i64) 3 w' base' ok v xs:=by
 refine Kd.R_mono (Kd.R_move (Kd.R_bound h) (fun j hj=>?_)) (fun _ hk=>hk.1);obtain⟨_,_,hlt,q,hq,cells,hc⟩:=hj;have hq3:q=3:=by
  rcases List.mem_cons.1 hq with e|e
  ·exact e
  ·cases e
 subst hq3;have:=Blk.stay (g:=j) (t:=3) (cs:=cells) hc hS k (by decide) (by decide)
 exact this.trans hc.symm
theorem fun_ne {base b bm c:Nat} {dv ov:Value} {l:List ByteArray} {w:World} (hS:WSt base w b bm dv ov l c):some w.heap.size≠ov.ownBlock:=fun e=>by
 have:=own_lt hS.own _ e.symm;omega
theorem putN {base b bm c:Nat} {dv ov:Value} {l:List ByteArray} {w:World} (hS:WSt base w b bm dv ov l c) (hc:c≤1000000) (news:List ByteArray) (hn:0<news.length) (hw:wt news≤1000000) :
  Calls Tryz.prog 23 #[.pointer (some ⟨b,0,none⟩),.slice (some ⟨w.heap.size,0,none⟩) news.length news.length] (w.alloc (.cells (news.map Value.string).toArray 9)) fun e w'=>e = .returned (.tuple #[])∧∃ov',WSt base w' b bm dv ov' (l++news) (c+wt news)∧WK b bm w ov w' ov':=by
 have hb:Below w.heap.size w (w.alloc (.cells (news.map Value.string).toArray 9)):=(Below.refl _ _).alloc (Nat.le_refl _) _;refine(put_any base b bm c w.heap.size news.length dv ov l news _ (hS.below hb) hc (Blk.new w 9 _) hn hw).mono ?_;rintro e w' ⟨he,ov',h1,h2⟩;exact⟨he,ov',h1,(WK.of_below hb).trans h2⟩
structure KSt (w0 w:World) (b bm:Nat) (dv ov:Value) (l0:List ByteArray) (c:Nat) (v:Value) (l:List Int) (gk:Nat) (ks:List Int) (base':Nat) (wr:World) (ovr:Value) (acc:List ByteArray) (cc:Nat):Prop where
 st:WSt w0.heap.size wr b bm dv ovr (l0++acc) cc
 bel:Below w0.heap.size w0 wr
 wk:WK b bm w ov wr ovr
 row:Kd.R (Kd.int .i64) 3 wr base' (fun _=>True) v l
 kinds:Blk wr gk 3 (ks.map (Value.int .i64)).toArray
section
variable {w0 w wr w':World} {b bm c gk base' cc cc':Nat} {dv ov v ovr ov':Value} {l0 acc x:List ByteArray} {l ks:List Int}
theorem KSt.next (h:KSt w0 w b bm dv ov l0 c v l gk ks base' wr ovr acc cc) (h1:WSt w0.heap.size w' b bm dv ov' (l0++acc++x) cc') (h2:WK b bm wr ovr w' ov'):KSt w0 w b bm dv ov l0 c v l gk ks base' w' ov' (acc++x) cc':=
 ⟨by rw[←List.append_assoc];exact h1,h.bel.trans (h2.below h.st),h.wk.trans h2,R_stay h.row h.st h2,Blk.stay h.kinds h.st h2 (by decide) (by decide)⟩
theorem KSt.below (h:KSt w0 w b bm dv ov l0 c v l gk ks base' wr ovr acc cc) (k:Below wr.heap.size wr w'):KSt w0 w b bm dv ov l0 c v l gk ks base' w' ovr acc cc:=
 ⟨h.st.below k,h.bel.trans (k.mono h.bel.size),h.wk.then k,Kd.R_below h.row k,h.kinds.below k h.kinds.lt⟩
theorem KSt.more (h:KSt w0 w b bm dv ov l0 c v l gk ks base' wr ovr acc cc) (hc:cc≤cc'):KSt w0 w b bm dv ov l0 c v l gk ks base' wr ovr acc cc':=⟨h.st.more hc,h.bel,h.wk,h.row,h.kinds⟩
theorem KSt.drew (h:KSt w0 w b bm dv ov l0 c v l gk ks base' wr ovr acc cc):KSt w0 w b bm dv ov l0 c v l gk ks base' wr.drew ovr acc cc:=h.below (below_drew (Below.refl _ _))
theorem KSt.put (h:KSt w0 w b bm dv ov l0 c v l gk ks base' wr ovr acc cc) (hc:cc≤1000000) (news:List ByteArray) (hn:0<news.length) (hw:wt news≤1000000) :
  Calls Tryz.prog 23 #[.pointer (some ⟨b,0,none⟩),.slice (some ⟨wr.heap.size,0,none⟩) news.length news.length] (wr.alloc (.cells (news.map Value.string).toArray 9)) fun e w'=>e = .returned (.tuple #[])∧∃ov',KSt w0 w b bm dv ov l0 c v l gk ks base' w' ov' (acc++news) (cc+wt news):=by
 refine(putN h.st hc news hn hw).mono ?_;rintro e w' ⟨he,ov',h1,h2⟩;exact⟨he,ov',h.next h1 h2⟩
theorem KSt.node {d:List S35} {A:Option Addr} {cd:Nat} {q:Int} {new:List ByteArray} {cost:Nat} (h:KSt w0 w b bm (.slice A d.length cd) ov l0 c v l gk ks base' wr ovr acc cc) (hN:NodeSpec d q new cost) (hD:DE w0 A cd d) (hc:cc+cost≤900000) :
  Calls Tryz.prog 13 #[.pointer (some ⟨b,0,none⟩),.int .i64 q] wr fun e w'=>e = .returned (.tuple #[])∧∃ov',KSt w0 w b bm (.slice A d.length cd) ov l0 c v l gk ks base' w' ov' (acc++new) (cc+cost):=by
 refine(hN w0 A cd hD wr b bm ovr _ cc h.st h.bel hc).mono ?_;rintro e w' ⟨he,ov',h1,h2⟩;exact⟨he,ov',h.next h1 h2⟩
end
theorem wt_one (x:ByteArray):wt [x]=x.size+6:=by simp[wt]
theorem kids_call (d:List S35) (at_:Int) (l:List Int) (beg en bet:ByteArray) (ks:List Int) (g:Int→List ByteArray) (cs:Int→Nat) (K:Nat)
  (hK:spec_Kids.f K d at_=some l) (hb:beg.size≤12) (he:en.size≤1) (ht:bet.size≤1) (hl:l.length≤400) (hks:ks.length≤100)
  (hd:∀x∈l,0≤x∧x<d.length) (hN:∀x∈l,kd d x∈ks→NodeSpec d x (g x) (cs x))
  (w0:World) (A:Option Addr) (cd:Nat) (hD:DE w0 A cd d) (w:World) (b bm:Nat) (ov:Value) (l0:List ByteArray) (c:Nat)
  (hS:WSt w0.heap.size w b bm (.slice A d.length cd) ov l0 c) (hB:Below w0.heap.size w0 w) (hc:c+csum cs (mt d ks l)+40≤900000)
  (gk ck:Nat) (hk:Blk w gk 3 (ks.map (Value.int .i64)).toArray) :
  Calls Tryz.prog 24 #[.pointer (some ⟨b,0,none⟩),.int .i64 at_,.string beg,.string en,.string bet,.slice (some ⟨gk,0,none⟩) ks.length ck] w fun e w'=>e = .returned (.tuple #[])∧∃ov',WSt w0.heap.size w' b bm (.slice A d.length cd) ov' (l0++(kout g beg bet 0 (mt d ks l)++(if mt d ks l=[] then[]else if en.toList.isEmpty then[] else[en]))) (c+csum cs (mt d ks l)+40)∧WK b bm w ov w' ov':=by
 have c0:=hS.c0;have HC:=aK (Kd.C_below hD.C hB);have HS:=aK hS;have HKK:=aK hK;have HKB:=aK hk;have HBB:=aK hB;have HN:=aK hN;have HDD:=aK hd;have HDE:=aK hD;clear hS hK hk hB hN hd hD;obtain⟨tl,htl⟩:∃tl,(if mt d ks l=[] then[]else if en.toList.isEmpty then[] else[en])=tl:=⟨_,rfl⟩
 rw[htl];have HTL:=aK htl;clear htl;go_enter Tryz.func24,Tryz.ntmps24
 go_wp2_with (go_at_call 22;refine(spec_Kids.calls K A cd d at_ l _ HC.out HDE.out.le HKK.out).mono ?_;rintro e w1 ⟨v,rfl,hR,hb1⟩;have HR:=aK hR;have HW1:=aK hb1;clear hR hb1)
 obtain⟨Al,cl,rfl⟩:=Kd.R_slice HR.out
 go_loopw [13,14] (fun v13 v14 wr=>∃(i:Nat) (ovr:Value),v13 = .int .i64 ((mt d ks (l.take i)).length:Int)∧v14 = .int .i64 (i:Int)∧i≤l.length∧Aside0 (KSt w0 w b bm (.slice A d.length cd) ov l0 c (.slice Al l.length cl) l gk ks w.heap.size wr ovr (kout g beg bet 0 (mt d ks (l.take i))) (c+min (20*(mt d ks (l.take i)).length) 20+csum cs (mt d ks (l.take i))))) (fun _ v14 _=>l.length-(intOf v14).toNat)
 case atStart=>
  exact⟨0,ov,rfl,rfl,Nat.zero_le _,⟨⟨by rw[show kout g beg bet 0 (mt d ks (l.take 0))=[]from rfl,List.append_nil];exact(HS.out.below HW1.out).more (by omega),HBB.out.trans (HW1.out.mono HBB.out.size),.of_below HW1.out,HR.out,HKB.out.below HW1.out HKB.out.lt⟩⟩⟩
 case round=>
  clear c0 HC HS HKB HR HW1 w1 HBB;obtain⟨i,ovr,rfl,rfl,hi,HT⟩:=hrel
  by_cases hil:i=l.length
  ·subst hil
   have hlt:decide ((l.length:Int)<(l.length:Int))=false:=decide_eq_false (by omega)
   rw[List.take_length]at HT ⊢
   by_cases h0:mt d ks l=[]
   ·have HE:=aK h0
    have hz:(0<(mt d ks l).length)=False:=eq_false (by rw[h0];decide)
    have htl0:tl=[]:=by have:=HTL.out;rw[if_pos h0]at this;exact this.symm
    clear h0
    go_wp2_with fail
    go_end0
    refine⟨rfl,ovr,?_,HT.out.wk⟩;rw[htl0,List.append_nil];exact HT.out.st.more (by omega)
   ·have hz:(0<(mt d ks l).length)=True:=eq_true (List.length_pos_iff.2 h0)
    have hz2:decide (0<((mt d ks l).length:Int))=true:=decide_eq_true (by have:=List.length_pos_iff.2 h0;omega)
    cases hen:en.toList.isEmpty with
    | true=>
     have htl0:tl=[]:=by have:=HTL.out;rw[if_neg h0,hen]at this;exact this.symm
     have HE:=aK h0;clear h0
     go_wp2_with fail
     go_end0
     refine⟨rfl,ovr,?_,HT.out.wk⟩;rw[htl0,List.append_nil];exact HT.out.st.more (by omega)
    | false=>
     have htl0:tl=[en]:=by have:=HTL.out;rw[if_neg h0,hen]at this;exact this.symm
     have HE:=aK h0;have HPU:=aK (putN HT.out.st (by omega) [en] (by simp) (by rw[wt_one];omega))
     clear h0
     go_wp2_with (go_at_call 23;refine HPU.out.mono ?_;rintro e w3 ⟨rfl,HPR⟩;have HPR:=aK HPR)
     go_end0
     obtain⟨ov3,h1,h2⟩:=HPR.out;have h3:=HT.out.next h1 h2;refine⟨rfl,ov3,?_,h3.wk⟩;rw[htl0];exact h3.st.more (by rw[wt_one];omega)
  ·have hlt:decide ((i:Int)<(l.length:Int))=true:=decide_eq_true (by omega)
   have hil2:i<l.length:=by omega
   obtain⟨x,hx⟩:∃x,l.getD i 0=x:=⟨_,rfl⟩;have hxm:x∈l:=by rw[←hx,List.getD_eq_getElem?_getD,List.getElem?_eq_getElem hil2];exact List.getElem_mem _
   have hcs:csum cs (mt d ks (l.take i))+csum cs (hits d ks x)+csum cs (mt d ks (l.drop (i+1)))=csum cs (mt d ks l):=by
    conv=>rhs;rw[←List.take_append_drop (i+1) l]
    rw[mt_app,mt_next d ks l i hil2,hx,csum_app,csum_app]
   have HCS:=aK hcs;clear hcs
   go_wp2_with fail
   go_loopw [13,15] (fun v13 v15 wr=>∃(k:Nat) (ovr:Value),v13 = .int .i64 ((mt d ks (l.take i)++hits d (ks.take k) x).length:Int)∧v15 = .int .i64 (k:Int)∧k≤ks.length∧Aside0 (KSt w0 w b bm (.slice A d.length cd) ov l0 c (.slice Al l.length cl) l gk ks w.heap.size wr ovr (kout g beg bet 0 (mt d ks (l.take i)++hits d (ks.take k) x)) (c+min (20*(mt d ks (l.take i)++hits d (ks.take k) x).length) 20+csum cs (mt d ks (l.take i)++hits d (ks.take k) x)))) (fun _ v15 _=>ks.length-(intOf v15).toNat)
   case atStart=>
    refine⟨0,ovr,?_,rfl,Nat.zero_le _,?_⟩
    ·simp[hits]
    ·simpa[hits]using HT
   case round=>
    clear HT ovr;obtain⟨k,ovr,rfl,rfl,hk,HT⟩:=hrel
    by_cases hkl:k=ks.length
    ·subst hkl
     have hlt2:decide ((ks.length:Int)<(ks.length:Int))=false:=decide_eq_false (by omega)
     rw[List.take_length,←hx,←mt_next d ks l i hil2]at HT ⊢
     go_wp2_with fail
     refine⟨⟨i+1,ovr,rfl,by simp,hil2,HT⟩,?_⟩
     simp[intOf];omega
    ·have hlt2:decide ((k:Int)<(ks.length:Int))=true:=decide_eq_true (by omega)
     have hkl2:k<ks.length:=by omega
     obtain⟨y,hy⟩:∃y,ks.getD k 0=y:=⟨_,rfl⟩;have hcell0:=HT.out.st.c0;obtain⟨ad1,e1,hx1⟩:=Kd.at_int (Kd.R_reads' HT.out.row).2.2 i (by omega) (by omega)
     cases e1;rw[rd_D,hx,Int.toNat_natCast]at hx1;obtain⟨hx0,hxd⟩:=HDD.out x hxm;obtain⟨ad2,e2,hx2,_⟩:=at_T35 (Kd.C_below HDE.out.C HT.out.bel) x hx0 hxd;cases e2;have hx3:wr.cell? ⟨gk,k,none⟩=some (.int .i64 y):=by
      rw[HT.out.kinds.cell k,←hy];simp[List.getD_eq_getElem?_getD,List.getElem?_eq_getElem hkl2]
     have hpl:(mt d ks (l.take i)++hits d (ks.take k) x).length≤50000:=by
      have h1:=mt_len d ks (l.take i);have h2:=hits_len d (ks.take k) x;rw[List.length_take]at h1 h2;have h3:min i l.length*ks.length≤400*100:=Nat.mul_le_mul (by omega) hks
      rw[List.length_append];omega
     have hle:csum cs (mt d ks (l.take i)++hits d (ks.take k) x)+csum cs (hits d [y] x)≤csum cs (mt d ks l):=by
      have h1:=HCS.out;have h2:csum cs (hits d ks x)=csum cs (hits d (ks.take k) x)+csum cs (hits d [y] x)+csum cs (hits d (ks.drop (k+1)) x):=by
       conv=>lhs;rw[←List.take_append_drop (k+1) ks]
       rw[take_snoc 0 ks k hkl2,hy,hits_app,hits_app,csum_app,csum_app]
      rw[csum_app];omega
     by_cases hhit:kd d x=y
     ·have hit2:mt d ks (l.take i)++hits d (ks.take (k+1)) x=mt d ks (l.take i)++hits d (ks.take k) x++[x]:=by rw[hits_hit d ks x k hkl2 (hhit.trans hy.symm),List.append_assoc]
      have hmem:kd d x∈ks:=by rw[hhit,←hy,List.getD_eq_getElem?_getD,List.getElem?_eq_getElem hkl2];exact List.getElem_mem _
      have HNX:=aK (HN.out x hxm hmem);have hone:hits d [y] x=[x]:=by simp[hits,hhit]
      rw[hone,show csum cs [x]=cs x+7 from by simp[csum]]at hle
      have hyv:(rd_T35 d x).f0=y:=hhit;rw[hyv]at hx2;have HH2:=aK hit2;clear hit2 hone hmem hhit hyv;generalize mt d ks (l.take i)++hits d (ks.take k) x=ps at HT hpl hle HH2 ⊢
      by_cases hp0:ps=[]
      ·subst hp0
       cases hemp:beg.toList.isEmpty with
       | true=>
        have H3:=aK HT.out.drew;have HSEP:=aK (show kout g beg bet 0 ([]:List Int)++g x=kout g beg bet 0 ([]++[x])from by simp[kout,kitem,hemp])
        go_wp2_with fail
        go_region
        go_wp2_with (go_at_call 13;refine(H3.out.node HNX.out HDE.out (by omega)).mono ?_;rintro e w4 ⟨rfl,ov4,h4⟩;have H4:=aK h4;clear h4)
        refine⟨⟨k+1,ov4,?_,by simp,hkl2,⟨?_⟩⟩,by simp[intOf];omega⟩
        ·rw[HH2.out];simp
        ·rw[HH2.out]
         have h:=H4.out;rw[HSEP.out]at h;refine KSt.more h ?_;rw[csum_app,show csum cs [x]=cs x+7 from by simp[csum],List.length_append,List.length_singleton]
         omega
       | false=>
        have HSEP:=aK (show kout g beg bet 0 ([]:List Int)++[beg]++g x=kout g beg bet 0 ([]++[x])from by simp[kout,kitem,hemp])
        go_wp2_with fail
        go_region
        go_wp2_with (first|(go_at_call 23;refine(HT.out.drew.put (by omega) [beg] (by simp) (by rw[wt_one];omega)).mono ?_;rintro e w3 ⟨rfl,ov3,h3⟩;obtain⟨ad',e',hx1'⟩:=Kd.at_int (Kd.R_reads' h3.row).2.2 i (by omega) (by omega);cases e';rw[rd_D,hx,Int.toNat_natCast]at hx1';have H3:=aK h3;clear h3)|(go_at_call 13;refine(H3.out.node HNX.out HDE.out (by rw[wt_one];omega)).mono ?_;rintro e w4 ⟨rfl,ov4,h4⟩;have H4:=aK h4;clear h4))
        refine⟨⟨k+1,ov4,?_,by simp,hkl2,⟨?_⟩⟩,by simp[intOf];omega⟩
        ·rw[HH2.out];simp
        ·rw[HH2.out]
         have h:=H4.out;rw[HSEP.out]at h;refine KSt.more h ?_;rw[csum_app,show csum cs [x]=cs x+7 from by simp[csum],List.length_append,List.length_singleton]
         rw[wt_one,show csum cs ([]:List Int)=0 from rfl,List.length_nil]
         omega
      ·have HP0:=aK hp0
       have hq:=List.length_pos_iff.2 hp0;have hq1:(ps.length==0)=false:=beq_eq_false_iff_ne.2 (by omega)
       have hq2:((ps.length:Int)==0)=false:=beq_eq_false_iff_ne.2 (by omega)
       have hq3:decide (0<(ps.length:Int))=true:=decide_eq_true (by omega)
       have hq4:(0<ps.length)=True:=eq_true hq;clear hp0;cases hemp:bet.toList.isEmpty with
       | true=>
        have H3:=aK HT.out.drew;have HSEP:=aK (show kout g beg bet 0 ps++g x=kout g beg bet 0 (ps++[x])from by rw[kout_snoc];simp[kitem,hemp,HP0.out])
        go_wp2_with fail
        go_region
        go_wp2_with (go_at_call 13;refine(H3.out.node HNX.out HDE.out (by omega)).mono ?_;rintro e w4 ⟨rfl,ov4,h4⟩;have H4:=aK h4;clear h4)
        refine⟨⟨k+1,ov4,?_,by simp,hkl2,⟨?_⟩⟩,by simp[intOf];omega⟩
        ·rw[HH2.out];simp
        ·rw[HH2.out]
         have h:=H4.out;rw[HSEP.out]at h;refine KSt.more h ?_;rw[csum_app,show csum cs [x]=cs x+7 from by simp[csum],List.length_append,List.length_singleton]
         omega
       | false=>
        have HSEP:=aK (show kout g beg bet 0 ps++[bet]++g x=kout g beg bet 0 (ps++[x])from by rw[kout_snoc];simp[kitem,hemp,HP0.out])
        go_wp2_with fail
        go_region
        go_wp2_with (first|(go_at_call 23;refine(HT.out.drew.put (by omega) [bet] (by simp) (by rw[wt_one];omega)).mono ?_;rintro e w3 ⟨rfl,ov3,h3⟩;obtain⟨ad',e',hx1'⟩:=Kd.at_int (Kd.R_reads' h3.row).2.2 i (by omega) (by omega);cases e';rw[rd_D,hx,Int.toNat_natCast]at hx1';have H3:=aK h3;clear h3)|(go_at_call 13;refine(H3.out.node HNX.out HDE.out (by rw[wt_one];omega)).mono ?_;rintro e w4 ⟨rfl,ov4,h4⟩;have H4:=aK h4;clear h4))
        refine⟨⟨k+1,ov4,?_,by simp,hkl2,⟨?_⟩⟩,by simp[intOf];omega⟩
        ·rw[HH2.out];simp
        ·rw[HH2.out]
         have h:=H4.out;rw[HSEP.out]at h;refine KSt.more h ?_;rw[csum_app,show csum cs [x]=cs x+7 from by simp[csum],List.length_append,List.length_singleton]
         rw[wt_one];omega
     ·have hit2:=hits_miss d ks x k hkl2 (fun e=>hhit (e.trans hy))
      have hyv:((rd_T35 d x).f0 != y)=true:=bne_iff_ne.2 hhit;have HH2:=aK hit2;clear hit2
      go_wp2_with fail
      go_region
      go_wp2_with fail
      refine⟨⟨k+1,ovr,?_,by simp,hkl2,⟨?_⟩⟩,by simp[intOf];omega⟩
      ·rw[HH2.out]
      ·rw[HH2.out];exact HT.out.drew
def isT (k:Int):Bool:=decide (20≤k)&&decide (k≤22)
def isV (k:Int):Bool:=decide (11≤k)&&decide (k≤18)
theorem isT_eq (a:Int) (b c e:ByteArray) (f h:Int):spec_isType.f a b c e f h=some (isT a):=by
 unfold spec_isType.f isT
 by_cases h1:a≥20
 ·rw[if_pos h1,decide_eq_true (show 20≤a from h1),Bool.true_and]
 ·rw[if_neg h1,decide_eq_false (show ¬20≤a from h1),Bool.false_and]
theorem isV_eq (a:Int) (b c e:ByteArray) (f h:Int):spec_isValue.f a b c e f h=some (isV a):=by
 unfold spec_isValue.f isV
 by_cases h1:a≥11
 ·rw[if_pos h1,decide_eq_true (show 11≤a from h1),Bool.true_and]
 ·rw[if_neg h1,decide_eq_false (show ¬11≤a from h1),Bool.false_and]
def fnd (d:List S35) (P:Int→Bool) (l:List Int):Option Int:=l.find? fun x=>P (kd d x)
def fout (g:Int→List ByteArray) (sign:ByteArray):Option Int→List ByteArray
 | none=>[]
 | some x=>(if sign.toList.isEmpty then[] else[sign])++g x
def fcost (cs:Int→Nat):Option Int→Nat
 | none=>0
 | some x=>cs x+7
theorem drop_getD {l:List Int} {i:Nat} (h:i<l.length):l.drop i=l.getD i 0::l.drop (i+1):=by
 rw[List.drop_eq_getElem_cons h,List.getD_eq_getElem?_getD,List.getElem?_eq_getElem h];rfl
theorem fnd_hit {d:List S35} {P:Int→Bool} {l:List Int} {i:Nat} (h:i<l.length) (hp:P (kd d (l.getD i 0))=true):fnd d P (l.drop i)=some (l.getD i 0):=by
 rw[drop_getD h];unfold fnd;exact List.find?_cons_of_pos hp
theorem fnd_miss {d:List S35} {P:Int→Bool} {l:List Int} {i:Nat} (h:i<l.length) (hp:P (kd d (l.getD i 0))=false):fnd d P (l.drop i)=fnd d P (l.drop (i+1)):=by
 rw[drop_getD h];unfold fnd;exact List.find?_cons_of_neg (by rw[hp];decide)
theorem fnd_end {d:List S35} {P:Int→Bool} {l:List Int}:fnd d P (l.drop l.length)=none:=by rw[List.drop_length];rfl
theorem isType_call (d:List S35) (at_:Int) (l:List Int) (sign:ByteArray) (g:Int→List ByteArray) (cs:Int→Nat) (K:Nat)
  (hK:spec_Kids.f K d at_=some l) (hb:sign.size≤1) (hl:l.length≤400)
  (hd:∀x∈l,0≤x∧x<d.length) (hN:∀x∈l,isT (kd d x)=true→NodeSpec d x (g x) (cs x))
  (w0:World) (A:Option Addr) (cd:Nat) (hD:DE w0 A cd d) (w:World) (b bm:Nat) (ov:Value) (l0:List ByteArray) (c:Nat)
  (hS:WSt w0.heap.size w b bm (.slice A d.length cd) ov l0 c) (hB:Below w0.heap.size w0 w) (hc:c+fcost cs (fnd d isT l)≤900000) :
  Calls Tryz.prog 26 #[.pointer (some ⟨b,0,none⟩),.int .i64 at_,.string sign,.func (.func 27) #[] #[]] w fun e w'=>e = .returned (.tuple #[])∧∃ov',WSt w0.heap.size w' b bm (.slice A d.length cd) ov' (l0++fout g sign (fnd d isT l)) (c+fcost cs (fnd d isT l))∧WK b bm w ov w' ov':=by
 have c0:=hS.c0;have HC:=aK (Kd.C_below hD.C hB);have HS:=aK hS;have HKK:=aK hK;have HBB:=aK hB;have HN:=aK hN;have HDD:=aK hd;have HDE:=aK hD;clear hS hK hB hN hd hD;obtain⟨fr,hfr⟩:∃fr,fnd d isT l=fr:=⟨_,rfl⟩;rw[hfr]at hc ⊢;have HFR:=aK (show fnd d isT (l.drop 0)=fr from hfr)
 clear hfr;obtain⟨out,hout⟩:∃out,fout g sign fr=out:=⟨_,rfl⟩;obtain⟨co,hco⟩:∃co,fcost cs fr=co:=⟨_,rfl⟩;rw[hco]at hc;rw[hout,hco];have HOUT:=aK (And.intro hout hco);clear hout hco;go_enter Tryz.func26,Tryz.ntmps26
 go_wp2_with (go_at_call 22;refine(spec_Kids.calls K A cd d at_ l _ HC.out HDE.out.le HKK.out).mono ?_;rintro e w1 ⟨v,rfl,hR,hb1⟩;have HR:=aK hR;have HW1:=aK hb1;clear hR hb1)
 obtain⟨Al,cl,rfl⟩:=Kd.R_slice HR.out;have HS1:=aK (HS.out.below HW1.out);have HB1:=aK (HBB.out.trans (HW1.out.mono HBB.out.size));clear HS HC HBB c0
 go_loopw [9] (fun v9 wr=>∃(i:Nat),v9 = .int .i64 (i:Int)∧i≤l.length∧Aside0 (fnd d isT (l.drop i)=fr)∧Aside0 (Below w1.heap.size w1 wr)) (fun v9 _=>l.length-(intOf v9).toNat)
 case atStart=>exact⟨0,rfl,Nat.zero_le _,HFR,⟨Below.refl _ _⟩⟩
 case round=>
  clear HFR;obtain⟨i,rfl,hi,HF,HT⟩:=hrel;have HWK:=aK ((WK.of_below (b:=b) (bm:=bm) (ov:=ov) HW1.out).then HT.out);have HSr:=aK (HS1.out.below HT.out)
  by_cases hil:i=l.length
  ·subst hil
   have hlt:decide ((l.length:Int)<(l.length:Int))=false:=decide_eq_false (by omega)
   have hfr:fr=none:=HF.out.symm.trans fnd_end;subst hfr;obtain⟨ho1,ho2⟩:=HOUT.out;subst ho1;subst ho2
   go_wp2_with fail
   go_end0
   refine⟨rfl,ov,?_,HWK.out⟩;rw[show fout g sign none=[]from rfl,List.append_nil]
   exact HSr.out.more (by omega)
  ·have hlt:decide ((i:Int)<(l.length:Int))=true:=decide_eq_true (by omega)
   have hil2:i<l.length:=by omega
   obtain⟨x,hx⟩:∃x,l.getD i 0=x:=⟨_,rfl⟩;have hxm:x∈l:=by rw[←hx,List.getD_eq_getElem?_getD,List.getElem?_eq_getElem hil2];exact List.getElem_mem _
   have hcell0:=HSr.out.c0;have HRr:=aK (Kd.R_below HR.out HT.out);obtain⟨ad1,e1,hx1⟩:=Kd.at_int (Kd.R_reads' HRr.out).2.2 i (by omega) (by omega)
   cases e1;rw[rd_D,hx,Int.toNat_natCast]at hx1;obtain⟨hx0,hxd⟩:=HDD.out x hxm;have HBr:=aK (HB1.out.trans (HT.out.mono HB1.out.size));obtain⟨ad2,e2,hx2,hx3,hx4,hx5,hx6,hx7⟩:=at_T35 (Kd.C_below HDE.out.C HBr.out) x hx0 hxd;cases e2;have hkx:kd d x=(rd_T35 d x).f0:=rfl;have HNX:=aK (HN.out x hxm);generalize rd_T35 d x=n at hx2 hx3 hx4 hx5 hx6 hx7 hkx;have HPX:=aK (isT_eq n.f0 n.f1 n.f2 n.f3 n.f4 n.f5);cases hP:isT n.f0 with
   | false=>
    rw[hP]at HPX;have HF2:=aK ((fnd_miss (P:=isT) (d:=d) hil2 (by rw[hx,hkx];exact hP)).symm.trans HF.out)
    clear hkx hP
    go_wp2_with fail
    go_region_with (go_at_call 27;refine(spec_isType.calls _ _ _ _ _ _ _ _ HPX.out).mono ?_;rintro e w5 ⟨rfl,hb5⟩;have HB5:=aK hb5;clear hb5)
    all_goals
     go_wp2_with fail
     refine⟨⟨i+1,by simp,hil2,HF2,⟨?_⟩⟩,by simp[intOf];omega⟩
     exact HT.out.trans ((below_drew (Below.refl _ wr)).trans HB5.out |>.mono HT.out.size)
   | true=>
    rw[hP]at HPX;have hfr:fr=some x:=HF.out.symm.trans ((fnd_hit (P:=isT) (d:=d) hil2 (by rw[hx,hkx];exact hP)).trans (by rw[hx]))
    subst hfr;obtain⟨ho1,ho2⟩:=HOUT.out;have ho2':cs x+7=co:=ho2;replace HNX:=aK (HNX.out (by rw[hkx];exact hP))
    clear hkx hP HF ho2 HOUT
    go_wp2_with fail
    go_region_with (go_at_call 27;refine(spec_isType.calls _ _ _ _ _ _ _ _ HPX.out).mono ?_;rintro e w5 ⟨rfl,hb5⟩;have HB5:=aK hb5;clear hb5)
    all_goals
     have hb5:Below wr.heap.size wr w5:=(below_drew (Below.refl _ wr)).trans HB5.out;have HS5:=aK (HSr.out.below hb5);have HK5:=aK (HWK.out.then hb5);have HR5:=aK (Kd.R_below HRr.out hb5);have HB6:=aK (HBr.out.trans (hb5.mono HBr.out.size));have hy1:w5.cell? (ad1.add i)=some (.int .i64 x):=(hb5.cell (World.block_lt_of_cell? wr _ hx1)).trans hx1;clear hb5;cases hemp:sign.toList.isEmpty with
     | true=>
      have ho1':g x=out:=by rw[←ho1];simp[fout,hemp]
      clear ho1;subst ho1'
      go_wp2_with (go_at_call 13;refine(HNX.out w0 _ cd HDE.out _ b bm ov l0 c HS5.out HB6.out (by omega)).mono ?_;rintro e w6 ⟨rfl,h6⟩;have H6:=aK h6;clear h6)
      first|go_end0|refine bodyPost_ret (results_none rfl _ _ _) rfl ?_
      obtain⟨ov6,h1,h2⟩:=H6.out;exact⟨rfl,ov6,h1.more (by omega),HK5.out.trans h2⟩
     | false=>
      have ho1':[sign]++g x=out:=by rw[←ho1];simp[fout,hemp]
      clear ho1;subst ho1'
      go_wp2_with (first|(go_at_call 23;refine(putN HS5.out (by omega) [sign] (by simp) (by rw[wt_one];omega)).mono ?_;rintro e w6 ⟨rfl,ov6,h6,k6⟩;have H6:=aK h6;have K6:=aK k6;have HB7:=aK (HB6.out.trans (k6.below HS5.out));obtain⟨ad',e',hx1'⟩:=Kd.at_int (Kd.R_reads' (R_stay HR5.out HS5.out k6)).2.2 i (by omega) (by omega);cases e';rw[rd_D,hx,Int.toNat_natCast]at hx1';clear h6 k6)|(go_at_call 13;refine(HNX.out w0 _ cd HDE.out _ b bm _ _ _ H6.out HB7.out (by rw[wt_one];omega)).mono ?_;rintro e w7 ⟨rfl,h7⟩;have H7:=aK h7;clear h7))
      first|go_end0|refine bodyPost_ret (results_none rfl _ _ _) rfl ?_
      obtain⟨ov7,h1,h2⟩:=H7.out;refine⟨rfl,ov7,?_,(HK5.out.trans K6.out).trans h2⟩;rw[←List.append_assoc];exact h1.more (by rw[wt_one];omega)
theorem isValue_call (d:List S35) (at_:Int) (l:List Int) (sign:ByteArray) (g:Int→List ByteArray) (cs:Int→Nat) (K:Nat)
  (hK:spec_Kids.f K d at_=some l) (hb:sign.size≤1) (hl:l.length≤400)
  (hd:∀x∈l,0≤x∧x<d.length) (hN:∀x∈l,isV (kd d x)=true→NodeSpec d x (g x) (cs x))
  (w0:World) (A:Option Addr) (cd:Nat) (hD:DE w0 A cd d) (w:World) (b bm:Nat) (ov:Value) (l0:List ByteArray) (c:Nat)
  (hS:WSt w0.heap.size w b bm (.slice A d.length cd) ov l0 c) (hB:Below w0.heap.size w0 w) (hc:c+fcost cs (fnd d isV l)≤900000) :
  Calls Tryz.prog 26 #[.pointer (some ⟨b,0,none⟩),.int .i64 at_,.string sign,.func (.func 28) #[] #[]] w fun e w'=>e = .returned (.tuple #[])∧∃ov',WSt w0.heap.size w' b bm (.slice A d.length cd) ov' (l0++fout g sign (fnd d isV l)) (c+fcost cs (fnd d isV l))∧WK b bm w ov w' ov':=by
 have c0:=hS.c0;have HC:=aK (Kd.C_below hD.C hB);have HS:=aK hS;have HKK:=aK hK;have HBB:=aK hB;have HN:=aK hN;have HDD:=aK hd;have HDE:=aK hD;clear hS hK hB hN hd hD;obtain⟨fr,hfr⟩:∃fr,fnd d isV l=fr:=⟨_,rfl⟩;rw[hfr]at hc ⊢;have HFR:=aK (show fnd d isV (l.drop 0)=fr from hfr)
 clear hfr;obtain⟨out,hout⟩:∃out,fout g sign fr=out:=⟨_,rfl⟩;obtain⟨co,hco⟩:∃co,fcost cs fr=co:=⟨_,rfl⟩;rw[hco]at hc;rw[hout,hco];have HOUT:=aK (And.intro hout hco);clear hout hco;go_enter Tryz.func26,Tryz.ntmps26
 go_wp2_with (go_at_call 22;refine(spec_Kids.calls K A cd d at_ l _ HC.out HDE.out.le HKK.out).mono ?_;rintro e w1 ⟨v,rfl,hR,hb1⟩;have HR:=aK hR;have HW1:=aK hb1;clear hR hb1)
 obtain⟨Al,cl,rfl⟩:=Kd.R_slice HR.out;have HS1:=aK (HS.out.below HW1.out);have HB1:=aK (HBB.out.trans (HW1.out.mono HBB.out.size));clear HS HC HBB c0
 go_loopw [9] (fun v9 wr=>∃(i:Nat),v9 = .int .i64 (i:Int)∧i≤l.length∧Aside0 (fnd d isV (l.drop i)=fr)∧Aside0 (Below w1.heap.size w1 wr)) (fun v9 _=>l.length-(intOf v9).toNat)
 case atStart=>exact⟨0,rfl,Nat.zero_le _,HFR,⟨Below.refl _ _⟩⟩
 case round=>
  clear HFR;obtain⟨i,rfl,hi,HF,HT⟩:=hrel;have HWK:=aK ((WK.of_below (b:=b) (bm:=bm) (ov:=ov) HW1.out).then HT.out);have HSr:=aK (HS1.out.below HT.out)
  by_cases hil:i=l.length
  ·subst hil
   have hlt:decide ((l.length:Int)<(l.length:Int))=false:=decide_eq_false (by omega)
   have hfr:fr=none:=HF.out.symm.trans fnd_end;subst hfr;obtain⟨ho1,ho2⟩:=HOUT.out;subst ho1;subst ho2
   go_wp2_with fail
   go_end0
   refine⟨rfl,ov,?_,HWK.out⟩;rw[show fout g sign none=[]from rfl,List.append_nil]
   exact HSr.out.more (by omega)
  ·have hlt:decide ((i:Int)<(l.length:Int))=true:=decide_eq_true (by omega)
   have hil2:i<l.length:=by omega
   obtain⟨x,hx⟩:∃x,l.getD i 0=x:=⟨_,rfl⟩;have hxm:x∈l:=by rw[←hx,List.getD_eq_getElem?_getD,List.getElem?_eq_getElem hil2];exact List.getElem_mem _
   have hcell0:=HSr.out.c0;have HRr:=aK (Kd.R_below HR.out HT.out);obtain⟨ad1,e1,hx1⟩:=Kd.at_int (Kd.R_reads' HRr.out).2.2 i (by omega) (by omega)
   cases e1;rw[rd_D,hx,Int.toNat_natCast]at hx1;obtain⟨hx0,hxd⟩:=HDD.out x hxm;have HBr:=aK (HB1.out.trans (HT.out.mono HB1.out.size));obtain⟨ad2,e2,hx2,hx3,hx4,hx5,hx6,hx7⟩:=at_T35 (Kd.C_below HDE.out.C HBr.out) x hx0 hxd;cases e2;have hkx:kd d x=(rd_T35 d x).f0:=rfl;have HNX:=aK (HN.out x hxm);generalize rd_T35 d x=n at hx2 hx3 hx4 hx5 hx6 hx7 hkx;have HPX:=aK (isV_eq n.f0 n.f1 n.f2 n.f3 n.f4 n.f5);cases hP:isV n.f0 with
   | false=>
    rw[hP]at HPX;have HF2:=aK ((fnd_miss (P:=isV) (d:=d) hil2 (by rw[hx,hkx];exact hP)).symm.trans HF.out)
    clear hkx hP
    go_wp2_with fail
    go_region_with (go_at_call 28;refine(spec_isValue.calls _ _ _ _ _ _ _ _ HPX.out).mono ?_;rintro e w5 ⟨rfl,hb5⟩;have HB5:=aK hb5;clear hb5)
    all_goals
     go_wp2_with fail
     refine⟨⟨i+1,by simp,hil2,HF2,⟨?_⟩⟩,by simp[intOf];omega⟩
     exact HT.out.trans ((below_drew (Below.refl _ wr)).trans HB5.out |>.mono HT.out.size)
   | true=>
    rw[hP]at HPX;have hfr:fr=some x:=HF.out.symm.trans ((fnd_hit (P:=isV) (d:=d) hil2 (by rw[hx,hkx];exact hP)).trans (by rw[hx]))
    subst hfr;obtain⟨ho1,ho2⟩:=HOUT.out;have ho2':cs x+7=co:=ho2;replace HNX:=aK (HNX.out (by rw[hkx];exact hP))
    clear hkx hP HF ho2 HOUT
    go_wp2_with fail
    go_region_with (go_at_call 28;refine(spec_isValue.calls _ _ _ _ _ _ _ _ HPX.out).mono ?_;rintro e w5 ⟨rfl,hb5⟩;have HB5:=aK hb5;clear hb5)
    all_goals
     have hb5:Below wr.heap.size wr w5:=(below_drew (Below.refl _ wr)).trans HB5.out;have HS5:=aK (HSr.out.below hb5);have HK5:=aK (HWK.out.then hb5);have HR5:=aK (Kd.R_below HRr.out hb5);have HB6:=aK (HBr.out.trans (hb5.mono HBr.out.size));have hy1:w5.cell? (ad1.add i)=some (.int .i64 x):=(hb5.cell (World.block_lt_of_cell? wr _ hx1)).trans hx1;clear hb5;cases hemp:sign.toList.isEmpty with
     | true=>
      have ho1':g x=out:=by rw[←ho1];simp[fout,hemp]
      clear ho1;subst ho1'
      go_wp2_with (go_at_call 13;refine(HNX.out w0 _ cd HDE.out _ b bm ov l0 c HS5.out HB6.out (by omega)).mono ?_;rintro e w6 ⟨rfl,h6⟩;have H6:=aK h6;clear h6)
      first|go_end0|refine bodyPost_ret (results_none rfl _ _ _) rfl ?_
      obtain⟨ov6,h1,h2⟩:=H6.out;exact⟨rfl,ov6,h1.more (by omega),HK5.out.trans h2⟩
     | false=>
      have ho1':[sign]++g x=out:=by rw[←ho1];simp[fout,hemp]
      clear ho1;subst ho1'
      go_wp2_with (first|(go_at_call 23;refine(putN HS5.out (by omega) [sign] (by simp) (by rw[wt_one];omega)).mono ?_;rintro e w6 ⟨rfl,ov6,h6,k6⟩;have H6:=aK h6;have K6:=aK k6;have HB7:=aK (HB6.out.trans (k6.below HS5.out));obtain⟨ad',e',hx1'⟩:=Kd.at_int (Kd.R_reads' (R_stay HR5.out HS5.out k6)).2.2 i (by omega) (by omega);cases e';rw[rd_D,hx,Int.toNat_natCast]at hx1';clear h6 k6)|(go_at_call 13;refine(HNX.out w0 _ cd HDE.out _ b bm _ _ _ H6.out HB7.out (by rw[wt_one];omega)).mono ?_;rintro e w7 ⟨rfl,h7⟩;have H7:=aK h7;clear h7))
      first|go_end0|refine bodyPost_ret (results_none rfl _ _ _) rfl ?_
      obtain⟨ov7,h1,h2⟩:=H7.out;refine⟨rfl,ov7,?_,(HK5.out.trans K6.out).trans h2⟩;rw[←List.append_assoc];exact h1.more (by rw[wt_one];omega)
end Go.Proofs.YtjolkdnfbmkjiaaGreatDoor.Wr
