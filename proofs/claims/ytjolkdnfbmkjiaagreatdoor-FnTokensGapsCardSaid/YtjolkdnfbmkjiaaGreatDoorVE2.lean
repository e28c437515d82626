import Derived.Test.YtjolkdnfbmkjiaaGreatDoorVE1
set_option maxRecDepth 100000
set_option maxHeartbeats 8000000
set_option linter.unusedVariables false
set_option linter.unusedSimpArgs false
namespace Go.Proofs.YtjolkdnfbmkjiaaGreatDoor.Wr
open Go.RowKit Mem Go.Proofs.YtjolkdnfbmkjiaaGreatDoorW.PrintWords PFnTokensGaps
structure Cx (d:List S35) (at_:Int) (l:List Int) (g:Int→List ByteArray) (cs:Int→Nat):Prop where
 K:∃K,spec_Kids.f K d at_=some l
 len:l.length≤400
 rng:∀x∈l,0≤x∧x<d.length
 spec:∀x∈l,NodeSpec d x (g x) (cs x)
structure NSt (w0:World) (A:Option Addr) (cd:Nat) (d:List S35) (b bm:Nat) (w:World) (ov:Value) (l0:List ByteArray) (bl:List (Nat×TypeId×Array Value)) (wr:World) (ovr:Value) (acc:List ByteArray) (cc:Nat):Prop where
 st:WSt w0.heap.size wr b bm (.slice A d.length cd) ovr (l0++acc) cc
 bel:Below w0.heap.size w0 wr
 wk:WK b bm w ov wr ovr
 kept:∀x∈bl,x.2.1≠40∧x.2.1≠9∧Blk wr x.1 x.2.1 x.2.2
section
variable {w0 w wr w':World} {A:Option Addr} {cd b bm cc cc':Nat} {d:List S35} {ov ovr ov':Value} {l0 acc x:List ByteArray} {bl:List (Nat×TypeId×Array Value)} {at_:Int} {l:List Int} {g:Int→List ByteArray} {cs:Int→Nat}
theorem NSt.next (h:NSt w0 A cd d b bm w ov l0 bl wr ovr acc cc) (h1:WSt w0.heap.size w' b bm (.slice A d.length cd) ov' (l0++acc++x) cc') (h2:WK b bm wr ovr w' ov'):NSt w0 A cd d b bm w ov l0 bl w' ov' (acc++x) cc':=
 ⟨by rw[←List.append_assoc];exact h1,h.bel.trans (h2.below h.st),h.wk.trans h2,fun y hy=>⟨(h.kept y hy).1,(h.kept y hy).2.1,Blk.stay (h.kept y hy).2.2 h.st h2 (h.kept y hy).1 (h.kept y hy).2.1⟩⟩
theorem NSt.below (h:NSt w0 A cd d b bm w ov l0 bl wr ovr acc cc) (k:Below wr.heap.size wr w'):NSt w0 A cd d b bm w ov l0 bl w' ovr acc cc:=
 ⟨h.st.below k,h.bel.trans (k.mono h.bel.size),h.wk.then k,fun y hy=>⟨(h.kept y hy).1,(h.kept y hy).2.1,(h.kept y hy).2.2.below k (h.kept y hy).2.2.lt⟩⟩
theorem NSt.drew (h:NSt w0 A cd d b bm w ov l0 bl wr ovr acc cc):NSt w0 A cd d b bm w ov l0 bl wr.drew ovr acc cc:=h.below (below_drew (Below.refl _ _))
theorem NSt.add (h:NSt w0 A cd d b bm w ov l0 bl wr ovr acc cc) {y:Nat×TypeId×Array Value} (h1:y.2.1≠40) (h2:y.2.1≠9) (h3:Blk wr y.1 y.2.1 y.2.2):NSt w0 A cd d b bm w ov l0 (y::bl) wr ovr acc cc:=
 ⟨h.st,h.bel,h.wk,fun z hz=>by
  rcases List.mem_cons.1 hz with rfl|hz
  ·exact⟨h1,h2,h3⟩
  ·exact h.kept z hz⟩
theorem NSt.put {H:Nat} (h:NSt w0 A cd d b bm w ov l0 bl wr ovr acc cc) (hH:wr.heap.size=H) (hc:cc≤1000000) (news:List ByteArray) (hn:0<news.length) (hw:wt news≤1000000) :
  Calls Tryz.prog 23 #[.pointer (some ⟨b,0,none⟩),.slice (some ⟨H,0,none⟩) news.length news.length] (wr.alloc (.cells (news.map Value.string).toArray 9)) fun e w'=>e = .returned (.tuple #[])∧∃ov',NSt w0 A cd d b bm w ov l0 bl w' ov' (acc++news) (cc+wt news):=by
 subst hH;refine(putN h.st hc news hn hw).mono ?_;rintro e w' ⟨he,ov',h1,h2⟩;exact⟨he,ov',h.next h1 h2⟩
theorem NSt.node {q:Int} {new:List ByteArray} {cost:Nat} (h:NSt w0 A cd d b bm w ov l0 bl wr ovr acc cc) (hN:NodeSpec d q new cost) (hD:DE w0 A cd d) (hc:cc+cost≤900000) :
  Calls Tryz.prog 13 #[.pointer (some ⟨b,0,none⟩),.int .i64 q] wr fun e w'=>e = .returned (.tuple #[])∧∃ov',NSt w0 A cd d b bm w ov l0 bl w' ov' (acc++new) (cc+cost):=by
 refine(hN w0 A cd hD wr b bm ovr _ cc h.st h.bel hc).mono ?_;rintro e w' ⟨he,ov',h1,h2⟩;exact⟨he,ov',h.next h1 h2⟩
def kres (d:List S35) (g:Int→List ByteArray) (beg en bet:ByteArray) (ks l:List Int):List ByteArray:=kout g beg bet 0 (mt d ks l)++(if mt d ks l=[] then[]else if en.toList.isEmpty then[] else[en])
theorem NSt.kids {H:Nat} (h:NSt w0 A cd d b bm w ov l0 bl wr ovr acc cc) (hH:wr.heap.size=H) (hX:Cx d at_ l g cs) (hD:DE w0 A cd d) (beg en bet:ByteArray) (ks:List Int) (hb:beg.size≤12) (he:en.size≤1) (ht:bet.size≤1) (hks:ks.length≤100) (hc:cc+csum cs (mt d ks l)+40≤900000) :
  Calls Tryz.prog 24 #[.pointer (some ⟨b,0,none⟩),.int .i64 at_,.string beg,.string en,.string bet,.slice (some ⟨H,0,none⟩) ks.length ks.length] (wr.alloc (.cells (ks.map (Value.int .i64)).toArray 3)) fun e w'=>e = .returned (.tuple #[])∧∃ov',NSt w0 A cd d b bm w ov l0 bl w' ov' (acc++kres d g beg en bet ks l) (cc+(csum cs (mt d ks l)+40)):=by
 subst hH;obtain⟨K,hK⟩:=hX.K;have hb1:Below wr.heap.size wr (wr.alloc (.cells (ks.map (Value.int .i64)).toArray 3)):=(Below.refl _ _).alloc (Nat.le_refl _) _;refine(kids_call d at_ l beg en bet ks g cs K hK hb he ht hX.len hks hX.rng (fun x hx _=>hX.spec x hx) w0 A cd hD _ b bm ovr _ cc (h.st.below hb1) (h.bel.trans (hb1.mono h.bel.size)) hc wr.heap.size ks.length (Blk.new wr 3 _)).mono ?_;rintro e w' ⟨he,ov',h1,h2⟩;rw[Nat.add_assoc]at h1;exact⟨he,ov',h.next h1 ((WK.of_below hb1).trans h2)⟩
theorem NSt.firstT (h:NSt w0 A cd d b bm w ov l0 bl wr ovr acc cc) (hX:Cx d at_ l g cs) (hD:DE w0 A cd d) (sign:ByteArray) (hb:sign.size≤1) (hc:cc+fcost cs (fnd d isT l)≤900000) :
  Calls Tryz.prog 26 #[.pointer (some ⟨b,0,none⟩),.int .i64 at_,.string sign,.func (.func 27) #[] #[]] wr fun e w'=>e = .returned (.tuple #[])∧∃ov',NSt w0 A cd d b bm w ov l0 bl w' ov' (acc++fout g sign (fnd d isT l)) (cc+fcost cs (fnd d isT l)):=by
 obtain⟨K,hK⟩:=hX.K;refine(isType_call d at_ l sign g cs K hK hb hX.len hX.rng (fun x hx _=>hX.spec x hx) w0 A cd hD _ b bm ovr _ cc h.st h.bel hc).mono ?_;rintro e w' ⟨he,ov',h1,h2⟩;exact⟨he,ov',h.next h1 h2⟩
theorem NSt.firstV (h:NSt w0 A cd d b bm w ov l0 bl wr ovr acc cc) (hX:Cx d at_ l g cs) (hD:DE w0 A cd d) (sign:ByteArray) (hb:sign.size≤1) (hc:cc+fcost cs (fnd d isV l)≤900000) :
  Calls Tryz.prog 26 #[.pointer (some ⟨b,0,none⟩),.int .i64 at_,.string sign,.func (.func 28) #[] #[]] wr fun e w'=>e = .returned (.tuple #[])∧∃ov',NSt w0 A cd d b bm w ov l0 bl w' ov' (acc++fout g sign (fnd d isV l)) (cc+fcost cs (fnd d isV l)):=by
 obtain⟨K,hK⟩:=hX.K;refine(isValue_call d at_ l sign g cs K hK hb hX.len hX.rng (fun x hx _=>hX.spec x hx) w0 A cd hD _ b bm ovr _ cc h.st h.bel hc).mono ?_;rintro e w' ⟨he,ov',h1,h2⟩;exact⟨he,ov',h.next h1 h2⟩
abbrev E:ByteArray:=⟨#[]⟩
theorem NSt.dirs (h:NSt w0 A cd d b bm w ov l0 bl wr ovr acc cc) (hX:Cx d at_ l g cs) (hD:DE w0 A cd d) (hc:cc+csum cs (mt d [10] l)+40≤900000) :
  Calls Tryz.prog 25 #[.pointer (some ⟨b,0,none⟩),.int .i64 at_] wr fun e w'=>e = .returned (.tuple #[])∧∃ov',NSt w0 A cd d b bm w ov l0 bl w' ov' (acc++kres d g E E E [10] l) (cc+(csum cs (mt d [10] l)+40)):=by
 have HQ:=aK (h.kids rfl hX hD E E E [10] (by decide) (by decide) (by decide) (by decide) hc)
 clear h hX hD;go_enter Tryz.func25,Tryz.ntmps25
 go_wp2_with (go_at_call 24;refine HQ.out.mono ?_;rintro e w2 ⟨rfl,HP⟩;have HP:=aK HP)
 go_end0
 exact⟨rfl,HP.out⟩
theorem NSt.about (h:NSt w0 A cd d b bm w ov l0 bl wr ovr acc cc) (hX:Cx d at_ l g cs) (hD:DE w0 A cd d) (hc:cc+csum cs (mt d [23] l)+40≤900000) :
  Calls Tryz.prog 65 #[.pointer (some ⟨b,0,none⟩),.int .i64 at_] wr fun e w'=>e = .returned (.tuple #[])∧∃ov',NSt w0 A cd d b bm w ov l0 bl w' ov' (acc++kres d g E E E [23] l) (cc+(csum cs (mt d [23] l)+40)):=by
 have HQ:=aK (h.kids rfl hX hD E E E [23] (by decide) (by decide) (by decide) (by decide) hc)
 clear h hX hD;go_enter Tryz.func65,Tryz.ntmps65
 go_wp2_with (go_at_call 24;refine HQ.out.mono ?_;rintro e w2 ⟨rfl,HP⟩;have HP:=aK HP)
 go_end0
 exact⟨rfl,HP.out⟩
theorem NSt.six {g0:Nat} {a0 a1 a2 a3 a4 a5:Value} (h:NSt w0 A cd d b bm w ov l0 ((g0,35,#[a0,a1,a2,a3,a4,a5])::bl) wr ovr acc cc) :
  wr.cell? ⟨g0,0,none⟩=some a0∧wr.cell? ⟨g0,1,none⟩=some a1∧wr.cell? ⟨g0,2,none⟩=some a2∧wr.cell? ⟨g0,3,none⟩=some a3∧wr.cell? ⟨g0,4,none⟩=some a4∧wr.cell? ⟨g0,5,none⟩=some a5:=by
 have hb:=(h.kept _ (List.mem_cons_self ..)).2.2;exact⟨(hb.cell 0).trans rfl,(hb.cell 1).trans rfl,(hb.cell 2).trans rfl,(hb.cell 3).trans rfl,(hb.cell 4).trans rfl,(hb.cell 5).trans rfl⟩
theorem NSt.new (h:NSt w0 A cd d b bm w ov l0 bl wr ovr acc cc) (t:TypeId) (vs:Array Value) (h1:t≠40) (h2:t≠9):NSt w0 A cd d b bm w ov l0 ((wr.heap.size,t,vs)::bl) (wr.alloc (.cells vs t)) ovr acc cc:=
 (h.below ((Below.refl _ _).alloc (Nat.le_refl _) _)).add h1 h2 (Blk.new wr t vs)
theorem NSt.tl {y:Nat×TypeId×Array Value} (h:NSt w0 A cd d b bm w ov l0 (y::bl) wr ovr acc cc):NSt w0 A cd d b bm w ov l0 bl wr ovr acc cc:=⟨h.st,h.bel,h.wk,fun z hz=>h.kept z (List.mem_cons_of_mem _ hz)⟩
theorem NSt.of (hS:WSt w0.heap.size w b bm (.slice A d.length cd) ov l0 cc) (hB:Below w0.heap.size w0 w):NSt w0 A cd d b bm w ov l0 [] w ov [] cc:=
 ⟨by rw[List.append_nil];exact hS,hB,.refl w ov,fun _ h=>by cases h⟩
end
inductive WOp where
 | put (x:List ByteArray)
 | kids (beg en bet:ByteArray) (ks:List Int)
 | fT (sign:ByteArray)
 | fV (sign:ByteArray)
 | node (q:Int)
 | all
section
variable (d:List S35) (g:Int→List ByteArray) (cs:Int→Nat) (l:List Int)
def WOp.new:WOp→List ByteArray
 | .put x=>x
 | .kids beg en bet ks=>kres d g beg en bet ks l
 | .fT s=>fout g s (fnd d isT l)
 | .fV s=>fout g s (fnd d isV l)
 | .node q=>g q
 | .all=>l.flatMap g
def WOp.cost:WOp→Nat
 | .put x=>wt x
 | .kids _ _ _ ks=>csum cs (mt d ks l)+40
 | .fT _=>fcost cs (fnd d isT l)
 | .fV _=>fcost cs (fnd d isV l)
 | .node q=>cs q
 | .all=>(l.map cs).sum
def outs (acc:List ByteArray) (ops:List WOp):List ByteArray:=ops.foldl (fun a o=>a++o.new d g l) acc
def costs (cc:Nat) (ops:List WOp):Nat:=ops.foldl (fun c o=>c+o.cost d cs l) cc
end
def Writes (d:List S35) (at_:Int) (l:List Int) (g:Int→List ByteArray) (cs:Int→Nat) (f:Nat) (n:S35) (ops:List WOp):Prop:=
 ∀(w0 w wr:World) (A:Option Addr) (cd b bm cc:Nat) (ov ovr:Value) (l0 acc:List ByteArray) (bl:List (Nat×TypeId×Array Value)),
  NSt w0 A cd d b bm w ov l0 bl wr ovr acc cc→Cx d at_ l g cs→DE w0 A cd d→0≤at_→at_<d.length→rd_T35 d at_=n→costs d cs l cc ops≤900000→
  Calls Tryz.prog f #[.pointer (some ⟨b,0,none⟩),.int .i64 at_] wr fun e w'=>e = .returned (.tuple #[])∧∃ov',NSt w0 A cd d b bm w ov l0 bl w' ov' (outs d g l acc ops) (costs d cs l cc ops)
theorem def24 (d:List S35) (at_:Int) (l:List Int) (g:Int→List ByteArray) (cs:Int→Nat) (n1 n2 n3:ByteArray) (n4 n5:Int) :
  Writes d at_ l g cs 48 ⟨24,n1,n2,n3,n4,n5⟩ [.kids E E E [23],.put [(⟨#[115,99,104,101,109,97]⟩:ByteArray)],.kids E E E [10],.kids (⟨#[123]⟩:ByteArray) (⟨#[125]⟩:ByteArray) E [25]]:=by
 intro w0 w wr A cd b bm cc ov ovr l0 acc bl h hX hD ha hb hn hc;have HDE:=aK hD;obtain⟨ad,e2,hx0,hx1,hx2,hx3,hx4,hx5⟩:=at_T35 (Kd.C_below hD.C h.bel) at_ ha hb;cases e2;rw[hn]at hx0 hx1 hx2 hx3 hx4 hx5;dsimp only at hx0 hx1 hx2 hx3 hx4 hx5;simp only[costs,List.foldl,WOp.cost]at hc;have hcell:=h.st.c0;have HS:=aK (h.new 35 #[.int .i64 24,.string n1,.string n2,.string n3,.int .i64 n4,.int .i64 n5] (by decide) (by decide))
 have HX:=aK hX;clear h hX hD hn;go_enter Tryz.func48,Tryz.ntmps48
 go_wp2_with fail
 refine(HS.out.about HX.out HDE.out (by omega)).mono ?_
 rintro e W ⟨rfl,ovn,HSn⟩;replace HS:=aK HSn;clear HSn;obtain⟨k0,k1,k2,k3,k4,k5⟩:=HS.out.six
 go_wp2_with fail
 refine(HS.out.put (by first|rfl|simp) (by omega) [(⟨#[115,99,104,101,109,97]⟩:ByteArray)] (by simp) (by omega)).mono ?_
 rintro e W ⟨rfl,ovn,HSn⟩;replace HS:=aK HSn;clear HSn;obtain⟨k0,k1,k2,k3,k4,k5⟩:=HS.out.six
 go_wp2_with fail
 refine(HS.out.dirs HX.out HDE.out (by omega)).mono ?_
 rintro e W ⟨rfl,ovn,HSn⟩;replace HS:=aK HSn;clear HSn;obtain⟨k0,k1,k2,k3,k4,k5⟩:=HS.out.six
 go_wp2_with fail
 refine(HS.out.kids (by first|rfl|simp) HX.out HDE.out (⟨#[123]⟩:ByteArray) (⟨#[125]⟩:ByteArray) E [25] (by decide) (by decide) (by decide) (by decide) (by omega)).mono ?_
 rintro e W ⟨rfl,ovn,HSn⟩;replace HS:=aK HSn;clear HSn;obtain⟨k0,k1,k2,k3,k4,k5⟩:=HS.out.six
 go_wp2_with fail
 go_end0
 exact⟨rfl,_,HS.out.tl⟩
theorem def25 (d:List S35) (at_:Int) (l:List Int) (g:Int→List ByteArray) (cs:Int→Nat) (n1 n2 n3:ByteArray) (n4 n5:Int) :
  Writes d at_ l g cs 48 ⟨25,n1,n2,n3,n4,n5⟩ [.kids E E E [23],.put [n3,(⟨#[58]⟩:ByteArray),n1]]:=by
 intro w0 w wr A cd b bm cc ov ovr l0 acc bl h hX hD ha hb hn hc;have HDE:=aK hD;obtain⟨ad,e2,hx0,hx1,hx2,hx3,hx4,hx5⟩:=at_T35 (Kd.C_below hD.C h.bel) at_ ha hb;cases e2;rw[hn]at hx0 hx1 hx2 hx3 hx4 hx5;dsimp only at hx0 hx1 hx2 hx3 hx4 hx5;simp only[costs,List.foldl,WOp.cost]at hc;have hcell:=h.st.c0;have HS:=aK (h.new 35 #[.int .i64 25,.string n1,.string n2,.string n3,.int .i64 n4,.int .i64 n5] (by decide) (by decide))
 have HX:=aK hX;clear h hX hD hn;go_enter Tryz.func48,Tryz.ntmps48
 go_wp2_with fail
 refine(HS.out.about HX.out HDE.out (by omega)).mono ?_
 rintro e W ⟨rfl,ovn,HSn⟩;replace HS:=aK HSn;clear HSn;obtain⟨k0,k1,k2,k3,k4,k5⟩:=HS.out.six
 go_wp2_with fail
 refine(HS.out.put (by first|rfl|simp) (by omega) [n3,(⟨#[58]⟩:ByteArray),n1] (by simp) (by omega)).mono ?_
 rintro e W ⟨rfl,ovn,HSn⟩;replace HS:=aK HSn;clear HSn;obtain⟨k0,k1,k2,k3,k4,k5⟩:=HS.out.six
 go_wp2_with fail
 go_end0
 exact⟨rfl,_,HS.out.tl⟩
theorem def26 (d:List S35) (at_:Int) (l:List Int) (g:Int→List ByteArray) (cs:Int→Nat) (n1 n2 n3:ByteArray) (n4 n5:Int) :
  Writes d at_ l g cs 48 ⟨26,n1,n2,n3,n4,n5⟩ [.kids E E E [23],.put [(⟨#[115,99,97,108,97,114]⟩:ByteArray),n1],.kids E E E [10]]:=by
 intro w0 w wr A cd b bm cc ov ovr l0 acc bl h hX hD ha hb hn hc;have HDE:=aK hD;obtain⟨ad,e2,hx0,hx1,hx2,hx3,hx4,hx5⟩:=at_T35 (Kd.C_below hD.C h.bel) at_ ha hb;cases e2;rw[hn]at hx0 hx1 hx2 hx3 hx4 hx5;dsimp only at hx0 hx1 hx2 hx3 hx4 hx5;simp only[costs,List.foldl,WOp.cost]at hc;have hcell:=h.st.c0;have HS:=aK (h.new 35 #[.int .i64 26,.string n1,.string n2,.string n3,.int .i64 n4,.int .i64 n5] (by decide) (by decide))
 have HX:=aK hX;clear h hX hD hn;go_enter Tryz.func48,Tryz.ntmps48
 go_wp2_with fail
 refine(HS.out.about HX.out HDE.out (by omega)).mono ?_
 rintro e W ⟨rfl,ovn,HSn⟩;replace HS:=aK HSn;clear HSn;obtain⟨k0,k1,k2,k3,k4,k5⟩:=HS.out.six
 go_wp2_with fail
 refine(HS.out.put (by first|rfl|simp) (by omega) [(⟨#[115,99,97,108,97,114]⟩:ByteArray),n1] (by simp) (by omega)).mono ?_
 rintro e W ⟨rfl,ovn,HSn⟩;replace HS:=aK HSn;clear HSn;obtain⟨k0,k1,k2,k3,k4,k5⟩:=HS.out.six
 go_wp2_with fail
 refine(HS.out.dirs HX.out HDE.out (by omega)).mono ?_
 rintro e W ⟨rfl,ovn,HSn⟩;replace HS:=aK HSn;clear HSn;obtain⟨k0,k1,k2,k3,k4,k5⟩:=HS.out.six
 go_wp2_with fail
 go_end0
 exact⟨rfl,_,HS.out.tl⟩
theorem def27 (d:List S35) (at_:Int) (l:List Int) (g:Int→List ByteArray) (cs:Int→Nat) (n1 n2 n3:ByteArray) (n4 n5:Int) :
  Writes d at_ l g cs 48 ⟨27,n1,n2,n3,n4,n5⟩ [.kids E E E [23],.put [(⟨#[116,121,112,101]⟩:ByteArray),n1],.kids (⟨#[105,109,112,108,101,109,101,110,116,115]⟩:ByteArray) E (⟨#[38]⟩:ByteArray) [28],.kids E E E [10],.kids (⟨#[123]⟩:ByteArray) (⟨#[125]⟩:ByteArray) E [29]]:=by
 intro w0 w wr A cd b bm cc ov ovr l0 acc bl h hX hD ha hb hn hc;have HDE:=aK hD;obtain⟨ad,e2,hx0,hx1,hx2,hx3,hx4,hx5⟩:=at_T35 (Kd.C_below hD.C h.bel) at_ ha hb;cases e2;rw[hn]at hx0 hx1 hx2 hx3 hx4 hx5;dsimp only at hx0 hx1 hx2 hx3 hx4 hx5;simp only[costs,List.foldl,WOp.cost]at hc;have hcell:=h.st.c0;have HS:=aK (h.new 35 #[.int .i64 27,.string n1,.string n2,.string n3,.int .i64 n4,.int .i64 n5] (by decide) (by decide))
 have HX:=aK hX;clear h hX hD hn;go_enter Tryz.func48,Tryz.ntmps48
 go_wp2_with fail
 refine(HS.out.about HX.out HDE.out (by omega)).mono ?_
 rintro e W ⟨rfl,ovn,HSn⟩;replace HS:=aK HSn;clear HSn;obtain⟨k0,k1,k2,k3,k4,k5⟩:=HS.out.six
 go_wp2_with fail
 refine(HS.out.put (by first|rfl|simp) (by omega) [(⟨#[116,121,112,101]⟩:ByteArray),n1] (by simp) (by omega)).mono ?_
 rintro e W ⟨rfl,ovn,HSn⟩;replace HS:=aK HSn;clear HSn;obtain⟨k0,k1,k2,k3,k4,k5⟩:=HS.out.six
 go_wp2_with fail
 refine(HS.out.kids (by first|rfl|simp) HX.out HDE.out (⟨#[105,109,112,108,101,109,101,110,116,115]⟩:ByteArray) E (⟨#[38]⟩:ByteArray) [28] (by decide) (by decide) (by decide) (by decide) (by omega)).mono ?_
 rintro e W ⟨rfl,ovn,HSn⟩;replace HS:=aK HSn;clear HSn;obtain⟨k0,k1,k2,k3,k4,k5⟩:=HS.out.six
 go_wp2_with fail
 refine(HS.out.dirs HX.out HDE.out (by omega)).mono ?_
 rintro e W ⟨rfl,ovn,HSn⟩;replace HS:=aK HSn;clear HSn;obtain⟨k0,k1,k2,k3,k4,k5⟩:=HS.out.six
 go_wp2_with fail
 refine(HS.out.kids (by first|rfl|simp) HX.out HDE.out (⟨#[123]⟩:ByteArray) (⟨#[125]⟩:ByteArray) E [29] (by decide) (by decide) (by decide) (by decide) (by omega)).mono ?_
 rintro e W ⟨rfl,ovn,HSn⟩;replace HS:=aK HSn;clear HSn;obtain⟨k0,k1,k2,k3,k4,k5⟩:=HS.out.six
 go_wp2_with fail
 go_end0
 exact⟨rfl,_,HS.out.tl⟩
theorem def29 (d:List S35) (at_:Int) (l:List Int) (g:Int→List ByteArray) (cs:Int→Nat) (n1 n2 n3:ByteArray) (n4 n5:Int) :
  Writes d at_ l g cs 48 ⟨29,n1,n2,n3,n4,n5⟩ [.kids E E E [23],.put [n1],.kids (⟨#[40]⟩:ByteArray) (⟨#[41]⟩:ByteArray) E [30],.fT (⟨#[58]⟩:ByteArray),.kids E E E [10]]:=by
 intro w0 w wr A cd b bm cc ov ovr l0 acc bl h hX hD ha hb hn hc;have HDE:=aK hD;obtain⟨ad,e2,hx0,hx1,hx2,hx3,hx4,hx5⟩:=at_T35 (Kd.C_below hD.C h.bel) at_ ha hb;cases e2;rw[hn]at hx0 hx1 hx2 hx3 hx4 hx5;dsimp only at hx0 hx1 hx2 hx3 hx4 hx5;simp only[costs,List.foldl,WOp.cost]at hc;have hcell:=h.st.c0;have HS:=aK (h.new 35 #[.int .i64 29,.string n1,.string n2,.string n3,.int .i64 n4,.int .i64 n5] (by decide) (by decide))
 have HX:=aK hX;clear h hX hD hn;go_enter Tryz.func48,Tryz.ntmps48
 go_wp2_with fail
 refine(HS.out.about HX.out HDE.out (by omega)).mono ?_
 rintro e W ⟨rfl,ovn,HSn⟩;replace HS:=aK HSn;clear HSn;obtain⟨k0,k1,k2,k3,k4,k5⟩:=HS.out.six
 go_wp2_with fail
 refine(HS.out.put (by first|rfl|simp) (by omega) [n1] (by simp) (by omega)).mono ?_
 rintro e W ⟨rfl,ovn,HSn⟩;replace HS:=aK HSn;clear HSn;obtain⟨k0,k1,k2,k3,k4,k5⟩:=HS.out.six
 go_wp2_with fail
 refine(HS.out.kids (by first|rfl|simp) HX.out HDE.out (⟨#[40]⟩:ByteArray) (⟨#[41]⟩:ByteArray) E [30] (by decide) (by decide) (by decide) (by decide) (by omega)).mono ?_
 rintro e W ⟨rfl,ovn,HSn⟩;replace HS:=aK HSn;clear HSn;obtain⟨k0,k1,k2,k3,k4,k5⟩:=HS.out.six
 go_wp2_with fail
 refine(HS.out.firstT HX.out HDE.out (⟨#[58]⟩:ByteArray) (by decide) (by omega)).mono ?_
 rintro e W ⟨rfl,ovn,HSn⟩;replace HS:=aK HSn;clear HSn;obtain⟨k0,k1,k2,k3,k4,k5⟩:=HS.out.six
 go_wp2_with fail
 refine(HS.out.dirs HX.out HDE.out (by omega)).mono ?_
 rintro e W ⟨rfl,ovn,HSn⟩;replace HS:=aK HSn;clear HSn;obtain⟨k0,k1,k2,k3,k4,k5⟩:=HS.out.six
 go_wp2_with fail
 go_end0
 exact⟨rfl,_,HS.out.tl⟩
theorem def30 (d:List S35) (at_:Int) (l:List Int) (g:Int→List ByteArray) (cs:Int→Nat) (n1 n2 n3:ByteArray) (n4 n5:Int) :
  Writes d at_ l g cs 48 ⟨30,n1,n2,n3,n4,n5⟩ [.kids E E E [23],.put [n1],.fT (⟨#[58]⟩:ByteArray),.fV (⟨#[61]⟩:ByteArray),.kids E E E [10]]:=by
 intro w0 w wr A cd b bm cc ov ovr l0 acc bl h hX hD ha hb hn hc;have HDE:=aK hD;obtain⟨ad,e2,hx0,hx1,hx2,hx3,hx4,hx5⟩:=at_T35 (Kd.C_below hD.C h.bel) at_ ha hb;cases e2;rw[hn]at hx0 hx1 hx2 hx3 hx4 hx5;dsimp only at hx0 hx1 hx2 hx3 hx4 hx5;simp only[costs,List.foldl,WOp.cost]at hc;have hcell:=h.st.c0;have HS:=aK (h.new 35 #[.int .i64 30,.string n1,.string n2,.string n3,.int .i64 n4,.int .i64 n5] (by decide) (by decide))
 have HX:=aK hX;clear h hX hD hn;go_enter Tryz.func48,Tryz.ntmps48
 go_wp2_with fail
 refine(HS.out.about HX.out HDE.out (by omega)).mono ?_
 rintro e W ⟨rfl,ovn,HSn⟩;replace HS:=aK HSn;clear HSn;obtain⟨k0,k1,k2,k3,k4,k5⟩:=HS.out.six
 go_wp2_with fail
 refine(HS.out.put (by first|rfl|simp) (by omega) [n1] (by simp) (by omega)).mono ?_
 rintro e W ⟨rfl,ovn,HSn⟩;replace HS:=aK HSn;clear HSn;obtain⟨k0,k1,k2,k3,k4,k5⟩:=HS.out.six
 go_wp2_with fail
 refine(HS.out.firstT HX.out HDE.out (⟨#[58]⟩:ByteArray) (by decide) (by omega)).mono ?_
 rintro e W ⟨rfl,ovn,HSn⟩;replace HS:=aK HSn;clear HSn;obtain⟨k0,k1,k2,k3,k4,k5⟩:=HS.out.six
 go_wp2_with fail
 refine(HS.out.firstV HX.out HDE.out (⟨#[61]⟩:ByteArray) (by decide) (by omega)).mono ?_
 rintro e W ⟨rfl,ovn,HSn⟩;replace HS:=aK HSn;clear HSn;obtain⟨k0,k1,k2,k3,k4,k5⟩:=HS.out.six
 go_wp2_with fail
 refine(HS.out.dirs HX.out HDE.out (by omega)).mono ?_
 rintro e W ⟨rfl,ovn,HSn⟩;replace HS:=aK HSn;clear HSn;obtain⟨k0,k1,k2,k3,k4,k5⟩:=HS.out.six
 go_wp2_with fail
 go_end0
 exact⟨rfl,_,HS.out.tl⟩
theorem def31 (d:List S35) (at_:Int) (l:List Int) (g:Int→List ByteArray) (cs:Int→Nat) (n1 n2 n3:ByteArray) (n4 n5:Int) :
  Writes d at_ l g cs 48 ⟨31,n1,n2,n3,n4,n5⟩ [.kids E E E [23],.put [(⟨#[105,110,116,101,114,102,97,99,101]⟩:ByteArray),n1],.kids E E E [10],.kids (⟨#[123]⟩:ByteArray) (⟨#[125]⟩:ByteArray) E [29]]:=by
 intro w0 w wr A cd b bm cc ov ovr l0 acc bl h hX hD ha hb hn hc;have HDE:=aK hD;obtain⟨ad,e2,hx0,hx1,hx2,hx3,hx4,hx5⟩:=at_T35 (Kd.C_below hD.C h.bel) at_ ha hb;cases e2;rw[hn]at hx0 hx1 hx2 hx3 hx4 hx5;dsimp only at hx0 hx1 hx2 hx3 hx4 hx5;simp only[costs,List.foldl,WOp.cost]at hc;have hcell:=h.st.c0;have HS:=aK (h.new 35 #[.int .i64 31,.string n1,.string n2,.string n3,.int .i64 n4,.int .i64 n5] (by decide) (by decide))
 have HX:=aK hX;clear h hX hD hn;go_enter Tryz.func48,Tryz.ntmps48
 go_wp2_with fail
 refine(HS.out.about HX.out HDE.out (by omega)).mono ?_
 rintro e W ⟨rfl,ovn,HSn⟩;replace HS:=aK HSn;clear HSn;obtain⟨k0,k1,k2,k3,k4,k5⟩:=HS.out.six
 go_wp2_with fail
 refine(HS.out.put (by first|rfl|simp) (by omega) [(⟨#[105,110,116,101,114,102,97,99,101]⟩:ByteArray),n1] (by simp) (by omega)).mono ?_
 rintro e W ⟨rfl,ovn,HSn⟩;replace HS:=aK HSn;clear HSn;obtain⟨k0,k1,k2,k3,k4,k5⟩:=HS.out.six
 go_wp2_with fail
 refine(HS.out.dirs HX.out HDE.out (by omega)).mono ?_
 rintro e W ⟨rfl,ovn,HSn⟩;replace HS:=aK HSn;clear HSn;obtain⟨k0,k1,k2,k3,k4,k5⟩:=HS.out.six
 go_wp2_with fail
 refine(HS.out.kids (by first|rfl|simp) HX.out HDE.out (⟨#[123]⟩:ByteArray) (⟨#[125]⟩:ByteArray) E [29] (by decide) (by decide) (by decide) (by decide) (by omega)).mono ?_
 rintro e W ⟨rfl,ovn,HSn⟩;replace HS:=aK HSn;clear HSn;obtain⟨k0,k1,k2,k3,k4,k5⟩:=HS.out.six
 go_wp2_with fail
 go_end0
 exact⟨rfl,_,HS.out.tl⟩
theorem def32 (d:List S35) (at_:Int) (l:List Int) (g:Int→List ByteArray) (cs:Int→Nat) (n1 n2 n3:ByteArray) (n4 n5:Int) :
  Writes d at_ l g cs 48 ⟨32,n1,n2,n3,n4,n5⟩ [.kids E E E [23],.put [(⟨#[117,110,105,111,110]⟩:ByteArray),n1],.kids E E E [10],.kids (⟨#[61]⟩:ByteArray) E (⟨#[124]⟩:ByteArray) [33]]:=by
 intro w0 w wr A cd b bm cc ov ovr l0 acc bl h hX hD ha hb hn hc;have HDE:=aK hD;obtain⟨ad,e2,hx0,hx1,hx2,hx3,hx4,hx5⟩:=at_T35 (Kd.C_below hD.C h.bel) at_ ha hb;cases e2;rw[hn]at hx0 hx1 hx2 hx3 hx4 hx5;dsimp only at hx0 hx1 hx2 hx3 hx4 hx5;simp only[costs,List.foldl,WOp.cost]at hc;have hcell:=h.st.c0;have HS:=aK (h.new 35 #[.int .i64 32,.string n1,.string n2,.string n3,.int .i64 n4,.int .i64 n5] (by decide) (by decide))
 have HX:=aK hX;clear h hX hD hn;go_enter Tryz.func48,Tryz.ntmps48
 go_wp2_with fail
 refine(HS.out.about HX.out HDE.out (by omega)).mono ?_
 rintro e W ⟨rfl,ovn,HSn⟩;replace HS:=aK HSn;clear HSn;obtain⟨k0,k1,k2,k3,k4,k5⟩:=HS.out.six
 go_wp2_with fail
 refine(HS.out.put (by first|rfl|simp) (by omega) [(⟨#[117,110,105,111,110]⟩:ByteArray),n1] (by simp) (by omega)).mono ?_
 rintro e W ⟨rfl,ovn,HSn⟩;replace HS:=aK HSn;clear HSn;obtain⟨k0,k1,k2,k3,k4,k5⟩:=HS.out.six
 go_wp2_with fail
 refine(HS.out.dirs HX.out HDE.out (by omega)).mono ?_
 rintro e W ⟨rfl,ovn,HSn⟩;replace HS:=aK HSn;clear HSn;obtain⟨k0,k1,k2,k3,k4,k5⟩:=HS.out.six
 go_wp2_with fail
 refine(HS.out.kids (by first|rfl|simp) HX.out HDE.out (⟨#[61]⟩:ByteArray) E (⟨#[124]⟩:ByteArray) [33] (by decide) (by decide) (by decide) (by decide) (by omega)).mono ?_
 rintro e W ⟨rfl,ovn,HSn⟩;replace HS:=aK HSn;clear HSn;obtain⟨k0,k1,k2,k3,k4,k5⟩:=HS.out.six
 go_wp2_with fail
 go_end0
 exact⟨rfl,_,HS.out.tl⟩
theorem def34 (d:List S35) (at_:Int) (l:List Int) (g:Int→List ByteArray) (cs:Int→Nat) (n1 n2 n3:ByteArray) (n4 n5:Int) :
  Writes d at_ l g cs 48 ⟨34,n1,n2,n3,n4,n5⟩ [.kids E E E [23],.put [(⟨#[101,110,117,109]⟩:ByteArray),n1],.kids E E E [10],.kids (⟨#[123]⟩:ByteArray) (⟨#[125]⟩:ByteArray) E [35]]:=by
 intro w0 w wr A cd b bm cc ov ovr l0 acc bl h hX hD ha hb hn hc;have HDE:=aK hD;obtain⟨ad,e2,hx0,hx1,hx2,hx3,hx4,hx5⟩:=at_T35 (Kd.C_below hD.C h.bel) at_ ha hb;cases e2;rw[hn]at hx0 hx1 hx2 hx3 hx4 hx5;dsimp only at hx0 hx1 hx2 hx3 hx4 hx5;simp only[costs,List.foldl,WOp.cost]at hc;have hcell:=h.st.c0;have HS:=aK (h.new 35 #[.int .i64 34,.string n1,.string n2,.string n3,.int .i64 n4,.int .i64 n5] (by decide) (by decide))
 have HX:=aK hX;clear h hX hD hn;go_enter Tryz.func48,Tryz.ntmps48
 go_wp2_with fail
 refine(HS.out.about HX.out HDE.out (by omega)).mono ?_
 rintro e W ⟨rfl,ovn,HSn⟩;replace HS:=aK HSn;clear HSn;obtain⟨k0,k1,k2,k3,k4,k5⟩:=HS.out.six
 go_wp2_with fail
 refine(HS.out.put (by first|rfl|simp) (by omega) [(⟨#[101,110,117,109]⟩:ByteArray),n1] (by simp) (by omega)).mono ?_
 rintro e W ⟨rfl,ovn,HSn⟩;replace HS:=aK HSn;clear HSn;obtain⟨k0,k1,k2,k3,k4,k5⟩:=HS.out.six
 go_wp2_with fail
 refine(HS.out.dirs HX.out HDE.out (by omega)).mono ?_
 rintro e W ⟨rfl,ovn,HSn⟩;replace HS:=aK HSn;clear HSn;obtain⟨k0,k1,k2,k3,k4,k5⟩:=HS.out.six
 go_wp2_with fail
 refine(HS.out.kids (by first|rfl|simp) HX.out HDE.out (⟨#[123]⟩:ByteArray) (⟨#[125]⟩:ByteArray) E [35] (by decide) (by decide) (by decide) (by decide) (by omega)).mono ?_
 rintro e W ⟨rfl,ovn,HSn⟩;replace HS:=aK HSn;clear HSn;obtain⟨k0,k1,k2,k3,k4,k5⟩:=HS.out.six
 go_wp2_with fail
 go_end0
 exact⟨rfl,_,HS.out.tl⟩
theorem def35 (d:List S35) (at_:Int) (l:List Int) (g:Int→List ByteArray) (cs:Int→Nat) (n1 n2 n3:ByteArray) (n4 n5:Int) :
  Writes d at_ l g cs 48 ⟨35,n1,n2,n3,n4,n5⟩ [.kids E E E [23],.put [n1],.kids E E E [10]]:=by
 intro w0 w wr A cd b bm cc ov ovr l0 acc bl h hX hD ha hb hn hc;have HDE:=aK hD;obtain⟨ad,e2,hx0,hx1,hx2,hx3,hx4,hx5⟩:=at_T35 (Kd.C_below hD.C h.bel) at_ ha hb;cases e2;rw[hn]at hx0 hx1 hx2 hx3 hx4 hx5;dsimp only at hx0 hx1 hx2 hx3 hx4 hx5;simp only[costs,List.foldl,WOp.cost]at hc;have hcell:=h.st.c0;have HS:=aK (h.new 35 #[.int .i64 35,.string n1,.string n2,.string n3,.int .i64 n4,.int .i64 n5] (by decide) (by decide))
 have HX:=aK hX;clear h hX hD hn;go_enter Tryz.func48,Tryz.ntmps48
 go_wp2_with fail
 refine(HS.out.about HX.out HDE.out (by omega)).mono ?_
 rintro e W ⟨rfl,ovn,HSn⟩;replace HS:=aK HSn;clear HSn;obtain⟨k0,k1,k2,k3,k4,k5⟩:=HS.out.six
 go_wp2_with fail
 refine(HS.out.put (by first|rfl|simp) (by omega) [n1] (by simp) (by omega)).mono ?_
 rintro e W ⟨rfl,ovn,HSn⟩;replace HS:=aK HSn;clear HSn;obtain⟨k0,k1,k2,k3,k4,k5⟩:=HS.out.six
 go_wp2_with fail
 refine(HS.out.dirs HX.out HDE.out (by omega)).mono ?_
 rintro e W ⟨rfl,ovn,HSn⟩;replace HS:=aK HSn;clear HSn;obtain⟨k0,k1,k2,k3,k4,k5⟩:=HS.out.six
 go_wp2_with fail
 go_end0
 exact⟨rfl,_,HS.out.tl⟩
theorem def36 (d:List S35) (at_:Int) (l:List Int) (g:Int→List ByteArray) (cs:Int→Nat) (n1 n2 n3:ByteArray) (n4 n5:Int) :
  Writes d at_ l g cs 48 ⟨36,n1,n2,n3,n4,n5⟩ [.kids E E E [23],.put [(⟨#[105,110,112,117,116]⟩:ByteArray),n1],.kids E E E [10],.kids (⟨#[123]⟩:ByteArray) (⟨#[125]⟩:ByteArray) E [30]]:=by
 intro w0 w wr A cd b bm cc ov ovr l0 acc bl h hX hD ha hb hn hc;have HDE:=aK hD;obtain⟨ad,e2,hx0,hx1,hx2,hx3,hx4,hx5⟩:=at_T35 (Kd.C_below hD.C h.bel) at_ ha hb;cases e2;rw[hn]at hx0 hx1 hx2 hx3 hx4 hx5;dsimp only at hx0 hx1 hx2 hx3 hx4 hx5;simp only[costs,List.foldl,WOp.cost]at hc;have hcell:=h.st.c0;have HS:=aK (h.new 35 #[.int .i64 36,.string n1,.string n2,.string n3,.int .i64 n4,.int .i64 n5] (by decide) (by decide))
 have HX:=aK hX;clear h hX hD hn;go_enter Tryz.func48,Tryz.ntmps48
 go_wp2_with fail
 refine(HS.out.about HX.out HDE.out (by omega)).mono ?_
 rintro e W ⟨rfl,ovn,HSn⟩;replace HS:=aK HSn;clear HSn;obtain⟨k0,k1,k2,k3,k4,k5⟩:=HS.out.six
 go_wp2_with fail
 refine(HS.out.put (by first|rfl|simp) (by omega) [(⟨#[105,110,112,117,116]⟩:ByteArray),n1] (by simp) (by omega)).mono ?_
 rintro e W ⟨rfl,ovn,HSn⟩;replace HS:=aK HSn;clear HSn;obtain⟨k0,k1,k2,k3,k4,k5⟩:=HS.out.six
 go_wp2_with fail
 refine(HS.out.dirs HX.out HDE.out (by omega)).mono ?_
 rintro e W ⟨rfl,ovn,HSn⟩;replace HS:=aK HSn;clear HSn;obtain⟨k0,k1,k2,k3,k4,k5⟩:=HS.out.six
 go_wp2_with fail
 refine(HS.out.kids (by first|rfl|simp) HX.out HDE.out (⟨#[123]⟩:ByteArray) (⟨#[125]⟩:ByteArray) E [30] (by decide) (by decide) (by decide) (by decide) (by omega)).mono ?_
 rintro e W ⟨rfl,ovn,HSn⟩;replace HS:=aK HSn;clear HSn;obtain⟨k0,k1,k2,k3,k4,k5⟩:=HS.out.six
 go_wp2_with fail
 go_end0
 exact⟨rfl,_,HS.out.tl⟩
theorem def37 (d:List S35) (at_:Int) (l:List Int) (g:Int→List ByteArray) (cs:Int→Nat) (n1 n2 n3:ByteArray) (n4 n5:Int) :
  Writes d at_ l g cs 48 ⟨37,n1,n2,n3,n4,n5⟩ [.kids E E E [23],.put [(⟨#[100,105,114,101,99,116,105,118,101]⟩:ByteArray),(⟨#[64]⟩:ByteArray),n1],.kids (⟨#[40]⟩:ByteArray) (⟨#[41]⟩:ByteArray) E [30],.kids (⟨#[111,110]⟩:ByteArray) E (⟨#[124]⟩:ByteArray) [38]]:=by
 intro w0 w wr A cd b bm cc ov ovr l0 acc bl h hX hD ha hb hn hc;have HDE:=aK hD;obtain⟨ad,e2,hx0,hx1,hx2,hx3,hx4,hx5⟩:=at_T35 (Kd.C_below hD.C h.bel) at_ ha hb;cases e2;rw[hn]at hx0 hx1 hx2 hx3 hx4 hx5;dsimp only at hx0 hx1 hx2 hx3 hx4 hx5;simp only[costs,List.foldl,WOp.cost]at hc;have hcell:=h.st.c0;have HS:=aK (h.new 35 #[.int .i64 37,.string n1,.string n2,.string n3,.int .i64 n4,.int .i64 n5] (by decide) (by decide))
 have HX:=aK hX;clear h hX hD hn;go_enter Tryz.func48,Tryz.ntmps48
 go_wp2_with fail
 refine(HS.out.about HX.out HDE.out (by omega)).mono ?_
 rintro e W ⟨rfl,ovn,HSn⟩;replace HS:=aK HSn;clear HSn;obtain⟨k0,k1,k2,k3,k4,k5⟩:=HS.out.six
 go_wp2_with fail
 refine(HS.out.put (by first|rfl|simp) (by omega) [(⟨#[100,105,114,101,99,116,105,118,101]⟩:ByteArray),(⟨#[64]⟩:ByteArray),n1] (by simp) (by omega)).mono ?_
 rintro e W ⟨rfl,ovn,HSn⟩;replace HS:=aK HSn;clear HSn;obtain⟨k0,k1,k2,k3,k4,k5⟩:=HS.out.six
 go_wp2_with fail
 refine(HS.out.kids (by first|rfl|simp) HX.out HDE.out (⟨#[40]⟩:ByteArray) (⟨#[41]⟩:ByteArray) E [30] (by decide) (by decide) (by decide) (by decide) (by omega)).mono ?_
 rintro e W ⟨rfl,ovn,HSn⟩;replace HS:=aK HSn;clear HSn;obtain⟨k0,k1,k2,k3,k4,k5⟩:=HS.out.six
 go_wp2_with fail
 refine(HS.out.kids (by first|rfl|simp) HX.out HDE.out (⟨#[111,110]⟩:ByteArray) E (⟨#[124]⟩:ByteArray) [38] (by decide) (by decide) (by decide) (by decide) (by omega)).mono ?_
 rintro e W ⟨rfl,ovn,HSn⟩;replace HS:=aK HSn;clear HSn;obtain⟨k0,k1,k2,k3,k4,k5⟩:=HS.out.six
 go_wp2_with fail
 go_end0
 exact⟨rfl,_,HS.out.tl⟩
end Go.Proofs.YtjolkdnfbmkjiaaGreatDoor.Wr
