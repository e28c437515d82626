import Derived.Test.YtjolkdnfbmkjiaaGreatDoorVE4
import Derived.Test.YtjolkdnfbmkjiaaGreatDoorVE5
import Derived.Test.YtjolkdnfbmkjiaaGreatDoorVQ1
set_option maxRecDepth 100000
set_option maxHeartbeats 8000000
set_option linter.unusedVariables false
set_option linter.unusedSimpArgs false
namespace Go.Proofs.YtjolkdnfbmkjiaaGreatDoor.Wr
open Go.RowKit Mem Go.Proofs.YtjolkdnfbmkjiaaGreatDoorW.PrintWords PFnTokensGaps Tr
open Go.Proofs.YtjolkdnfbmkjiaaGreatDoor.Rel (Piece)
def IsP (V:ByteArray→ByteArray→Prop) (x:ByteArray):Prop:=∃k v,Piece V x k v
section
variable {V:ByteArray→ByteArray→Prop}
theorem isP_sign {x:ByteArray} (h:x.size=1) (h2:Mod.signK (bt x 0)≠0):IsP V x:=⟨_,_,.sign h h2⟩
theorem isP_name {x:ByteArray} (h1:0<x.size) (h2:Mod.isLet (bt x 0)=true) (h3:∀i:Nat,i<x.size→Mod.isNam (bt x i)=true):IsP V x:=⟨_,_,.name h1 h2 h3⟩
theorem isP_dots:IsP V (⟨#[46,46,46]⟩:ByteArray):=⟨_,_,.dots rfl rfl rfl rfl⟩
structure Fm (V:ByteArray→ByteArray→Prop) (n:S35):Prop where
 rg:1≤n.f0∧n.f0≤39
 nm:n.f0∉([1,2,5,8,12,13,14,15,17,18,21,22,23,24,39]:List Int)→IsP V n.f1
 op:n.f0=2→(n.f4=0∧IsP V n.f3∧(n.f1.toList.isEmpty=true∨IsP V n.f1))∨n.f4=1
 fr:n.f0=3→IsP V n.f3
 fd:n.f0=6→n.f2.toList.isEmpty=true∨IsP V n.f2
 il:n.f0=8→n.f3.toList.isEmpty=true∨IsP V n.f3
 nu:n.f0=12∨n.f0=13→IsP V n.f3
 st:n.f0=14∨n.f0=23→(n.f4=0∧∃q,IsP V q∧q.size≤6*n.f3.size+20∧∀W:World,Calls Tryz.prog 47 #[.string n.f3] W fun e w1=>e = .returned (.string q)∧Below W.heap.size W w1)∨
  (n.f4=1∧∃q,IsP V q∧q.size≤6*n.f3.size+20∧∀W:World,Calls Tryz.prog 46 #[.string n.f3] W fun e w1=>e = .returned (.string q)∧Below W.heap.size W w1)
 bo:n.f0=15→n.f4=0∨n.f4=1
 ot:n.f0=25→IsP V n.f3
end
section
variable (d:List S35) (g:Int→List ByteArray) (cs:Int→Nat)
theorem mt_cons (ks l:List Int) (x:Int):mt d ks (x::l)=hits d ks x++mt d ks l:=rfl
theorem csum_both (a b:List Int):∀l:List Int,csum cs (mt d (a++b) l)=csum cs (mt d a l)+csum cs (mt d b l)
 | []=>rfl
 | x::l=>by
  rw[mt_cons,mt_cons,mt_cons,hits_app,csum_app,csum_app,csum_app,csum_app,csum_both a b l];omega
theorem hits_nodup (ks:List Int) (hk:ks.Nodup) (x:Int):hits d ks x=[]∨hits d ks x=[x]:=by
 induction ks with
 | nil=>exact .inl rfl
 | cons k ks ih=>
  obtain⟨h1,h2⟩:=List.nodup_cons.1 hk
  by_cases h:kd d x=k
  ·right
   have e:hits d ks x=[]:=by
    unfold hits;rw[List.filter_eq_nil_iff.2 (fun j hj=>by
     intro e;have e2:kd d x=j:=by simpa using e
     exact h1 (by rw[←h,e2];exact hj))]
    rfl
   have e3:hits d (k::ks) x=x::hits d ks x:=by unfold hits;rw[List.filter_cons_of_pos (by simpa using h)];rfl
   rw[e3,e]
  ·have e3:hits d (k::ks) x=hits d ks x:=by unfold hits;rw[List.filter_cons_of_neg (by simpa using h)]
   rw[e3];exact ih h2
theorem csum_nodup (ks:List Int) (hk:ks.Nodup):∀l:List Int,csum cs (mt d ks l)≤csum cs l
 | []=>Nat.le_refl _
 | x::l=>by
  have h1:=csum_nodup ks hk l;have e:csum cs (x::l)=cs x+7+csum cs l:=by simp[csum]
  rw[mt_cons,csum_app,e];rcases hits_nodup d ks hk x with h|h
  ·rw[h];have:csum cs ([]:List Int)=0:=rfl;omega
  ·rw[h];have:csum cs [x]=cs x+7:=by simp[csum]
   omega
theorem csum_mem {x:Int}:∀{l:List Int},x∈l→cs x+7≤csum cs l
 | [],h=>by cases h
 | y::l,h=>by
  have e:csum cs (y::l)=cs y+7+csum cs l:=by simp[csum]
  rw[e];rcases List.mem_cons.1 h with rfl|h
  ·omega
  ·have:=csum_mem h;omega
theorem hits_mem {ks:List Int} {x:Int} (h:kd d x∈ks):x∈hits d ks x:=by
 unfold hits;exact List.mem_map.2 ⟨kd d x,List.mem_filter.2 ⟨h,by simp⟩,rfl⟩
theorem mt_mem {ks l:List Int} {x:Int} (hx:x∈l) (h:kd d x∈ks):x∈mt d ks l:=List.mem_flatMap.2 ⟨x,hx,hits_mem d h⟩
theorem mt_sub {ks l:List Int} {x:Int} (h:x∈mt d ks l):x∈l:=by
 obtain⟨y,hy,h2⟩:=List.mem_flatMap.1 h;unfold hits at h2;obtain⟨_,_,rfl⟩:=List.mem_map.1 h2;exact hy
theorem fcost_le (P:Int→Bool) (ks l:List Int) (hP:∀k,P k=true→k∈ks):fcost cs (fnd d P l)≤csum cs (mt d ks l):=by
 cases h:fnd d P l with
 | none=>exact Nat.zero_le _
 | some x=>
  have h1:=List.mem_of_find?_eq_some h;have h2:=List.find?_some h;exact csum_mem cs (mt_mem d h1 (hP _ h2))
theorem isT_mem (k:Int) (h:isT k=true):k∈([20,21,22]:List Int):=by
 unfold isT at h;simp only[Bool.and_eq_true,decide_eq_true_eq]at h;simp only[List.mem_cons,List.not_mem_nil,or_false];omega
theorem isV_mem (k:Int) (h:isV k=true):k∈([11,12,13,14,15,16,17,18]:List Int):=by
 unfold isV at h;simp only[Bool.and_eq_true,decide_eq_true_eq]at h;simp only[List.mem_cons,List.not_mem_nil,or_false];omega
def WOp.ks:WOp→List Int
 | .kids _ _ _ ks=>ks
 | .fT _=>[20,21,22]
 | .fV _=>[11,12,13,14,15,16,17,18]
 | .node q=>[kd d q]
 | _=>[]
def WOp.own:WOp→Nat
 | .put x=>wt x
 | .kids _ _ _ _=>40
 | _=>0
theorem costs_split (l:List Int):∀(ops:List WOp) (cc:Nat),(∀o∈ops,o ≠ .all∧∀q,o = .node q→q∈l)→costs d cs l cc ops≤cc+(ops.map WOp.own).sum+csum cs (mt d (ops.flatMap (WOp.ks d)) l)
 | [],cc,_=>by simp[costs]
 | o::ops,cc,h=>by
  have ih:=costs_split l ops (cc+o.cost d cs l) (fun o' ho'=>h o' (List.mem_cons_of_mem _ ho'));obtain⟨h1,h2⟩:=h o (List.mem_cons_self ..);have e:costs d cs l cc (o::ops)=costs d cs l (cc+o.cost d cs l) ops:=rfl;rw[e,List.flatMap_cons,csum_both,List.map_cons,List.sum_cons];have key:o.cost d cs l≤o.own+csum cs (mt d (o.ks d) l):=by
   cases o with
   | put x=>exact Nat.le_add_right _ _
   | kids a b c ks=>show csum cs (mt d ks l)+40≤40+csum cs (mt d ks l);omega
   | fT s=>have:=fcost_le d cs isT [20,21,22] l isT_mem;show fcost cs (fnd d isT l)≤0+csum cs (mt d [20,21,22] l);omega
   | fV s=>have:=fcost_le d cs isV [11,12,13,14,15,16,17,18] l isV_mem;show fcost cs (fnd d isV l)≤0+csum cs (mt d [11,12,13,14,15,16,17,18] l);omega
   | node q=>
    have:=csum_mem cs (mt_mem d (h2 q rfl) (List.mem_singleton.2 rfl:kd d q∈[kd d q]));show cs q≤0+csum cs (mt d [kd d q] l);omega
   | all=>exact absurd rfl h1
  omega
theorem costs_le_tot (l:List Int) (ops:List WOp) (cc:Nat) (h:∀o∈ops,o ≠ .all∧∀q,o = .node q→q∈l) (hk:(ops.flatMap (WOp.ks d)).Nodup):costs d cs l cc ops≤cc+(ops.map WOp.own).sum+csum cs l:=by
 have h1:=costs_split d cs l ops cc h;have h2:=csum_nodup d cs (ops.flatMap (WOp.ks d)) hk l;omega
end
section
variable {V:ByteArray→ByteArray→Prop} {d:List S35} {g:Int→List ByteArray} {l:List Int}
def AllP (V:ByteArray→ByteArray→Prop) (x:List ByteArray):Prop:=∀y∈x,IsP V y
theorem AllP.app {a b:List ByteArray} (h:AllP V a) (k:AllP V b):AllP V (a++b):=fun y hy=>(List.mem_append.1 hy).elim (h y) (k y)
theorem AllP.nil:AllP V []:=fun _ h=>by cases h
theorem AllP.one {x:ByteArray} (h:IsP V x):AllP V [x]:=fun y hy=>by rw[List.mem_singleton.1 hy];exact h
theorem AllP.cons {x:ByteArray} {a:List ByteArray} (h:IsP V x) (k:AllP V a):AllP V (x::a):=(AllP.one h).app k
theorem opt_p {x:ByteArray} (h:x.toList.isEmpty=true∨IsP V x):AllP V (if x.toList.isEmpty then[] else[x]):=by
 split
 ·exact .nil
 ·rename_i h1
  rcases h with h|h
  ·exact absurd h h1
  ·exact .one h
theorem kout_p {beg bet:ByteArray} (hb:beg.toList.isEmpty=true∨IsP V beg) (ht:bet.toList.isEmpty=true∨IsP V bet):∀(ps:List Int) (n:Nat),(∀x∈ps,AllP V (g x))→AllP V (kout g beg bet n ps)
 | [],_,_=>.nil
 | x::ps,n,h=>by
  refine AllP.app ?_ (kout_p hb ht ps (n+1) (fun y hy=>h y (List.mem_cons_of_mem _ hy)));refine AllP.app ?_ (h x (List.mem_cons_self ..));split
  ·exact opt_p hb
  ·exact opt_p ht
theorem kres_p {beg en bet:ByteArray} {ks:List Int} (hb:beg.toList.isEmpty=true∨IsP V beg) (he:en.toList.isEmpty=true∨IsP V en) (ht:bet.toList.isEmpty=true∨IsP V bet) (hg:∀x∈l,AllP V (g x)):AllP V (kres d g beg en bet ks l):=by
 refine AllP.app (kout_p hb ht _ 0 (fun x hx=>hg x (mt_sub d hx))) ?_;split
 ·exact .nil
 ·exact opt_p he
theorem fout_p {s:ByteArray} {P:Int→Bool} (hs:s.toList.isEmpty=true∨IsP V s) (hg:∀x∈l,AllP V (g x)):AllP V (fout g s (fnd d P l)):=by
 cases h:fnd d P l with
 | none=>exact .nil
 | some x=>exact AllP.app (opt_p hs) (hg x (List.mem_of_find?_eq_some h))
def WOp.ok (V:ByteArray→ByteArray→Prop) (l:List Int):WOp→Prop
 | .put x=>AllP V x
 | .kids a b c _=>(a.toList.isEmpty=true∨IsP V a)∧(b.toList.isEmpty=true∨IsP V b)∧(c.toList.isEmpty=true∨IsP V c)
 | .fT s=>s.toList.isEmpty=true∨IsP V s
 | .fV s=>s.toList.isEmpty=true∨IsP V s
 | .node q=>q∈l
 | .all=>True
theorem ok_new {o:WOp} (h:o.ok V l) (hg:∀x∈l,AllP V (g x)):AllP V (o.new d g l):=by
 cases o with
 | put x=>exact h
 | kids a b c ks=>exact kres_p h.1 h.2.1 h.2.2 hg
 | fT s=>exact fout_p h hg
 | fV s=>exact fout_p h hg
 | node q=>exact hg q h
 | all=>
  intro y hy;obtain⟨x,hx,h2⟩:=List.mem_flatMap.1 hy;exact hg x hx y h2
theorem outs_p (hg:∀x∈l,AllP V (g x)):∀(ops:List WOp) (acc:List ByteArray),AllP V acc→(∀o∈ops,o.ok V l)→AllP V (outs d g l acc ops)
 | [],_,h,_=>h
 | o::ops,acc,h,k=>outs_p hg ops (acc++o.new d g l) (h.app (ok_new (k o (List.mem_cons_self ..)) hg)) (fun o' ho'=>k o' (List.mem_cons_of_mem _ ho'))
end
end Go.Proofs.YtjolkdnfbmkjiaaGreatDoor.Wr
namespace Go.Proofs.YtjolkdnfbmkjiaaGreatDoor.Wr
open Go.RowKit Mem Go.Proofs.YtjolkdnfbmkjiaaGreatDoorW.PrintWords PFnTokensGaps Tr
open Go.Proofs.YtjolkdnfbmkjiaaGreatDoor.Rel (Piece)
theorem szl (a:Array UInt8):(⟨a⟩:ByteArray).size=a.size:=rfl
theorem isE:E.toList.isEmpty=true:=by simp[E]
section
variable {V:ByteArray→ByteArray→Prop}
theorem p_40:IsP V (⟨#[40]⟩:ByteArray):=isP_sign (by decide) (by decide)
theorem p_41:IsP V (⟨#[41]⟩:ByteArray):=isP_sign (by decide) (by decide)
theorem p_111_110:IsP V (⟨#[111,110]⟩:ByteArray):=isP_name (by decide) (by decide) (by decide)
theorem p_102_114_97_103_109_101_110_116:IsP V (⟨#[102,114,97,103,109,101,110,116]⟩:ByteArray):=isP_name (by decide) (by decide) (by decide)
theorem p_58:IsP V (⟨#[58]⟩:ByteArray):=isP_sign (by decide) (by decide)
theorem p_36:IsP V (⟨#[36]⟩:ByteArray):=isP_sign (by decide) (by decide)
theorem p_61:IsP V (⟨#[61]⟩:ByteArray):=isP_sign (by decide) (by decide)
theorem p_123:IsP V (⟨#[123]⟩:ByteArray):=isP_sign (by decide) (by decide)
theorem p_125:IsP V (⟨#[125]⟩:ByteArray):=isP_sign (by decide) (by decide)
theorem p_46_46_46:IsP V (⟨#[46,46,46]⟩:ByteArray):=isP_dots
theorem p_64:IsP V (⟨#[64]⟩:ByteArray):=isP_sign (by decide) (by decide)
theorem p_102_97_108_115_101:IsP V (⟨#[102,97,108,115,101]⟩:ByteArray):=isP_name (by decide) (by decide) (by decide)
theorem p_116_114_117_101:IsP V (⟨#[116,114,117,101]⟩:ByteArray):=isP_name (by decide) (by decide) (by decide)
theorem p_91:IsP V (⟨#[91]⟩:ByteArray):=isP_sign (by decide) (by decide)
theorem p_93:IsP V (⟨#[93]⟩:ByteArray):=isP_sign (by decide) (by decide)
theorem p_33:IsP V (⟨#[33]⟩:ByteArray):=isP_sign (by decide) (by decide)
theorem p_115_99_104_101_109_97:IsP V (⟨#[115,99,104,101,109,97]⟩:ByteArray):=isP_name (by decide) (by decide) (by decide)
theorem p_115_99_97_108_97_114:IsP V (⟨#[115,99,97,108,97,114]⟩:ByteArray):=isP_name (by decide) (by decide) (by decide)
theorem p_116_121_112_101:IsP V (⟨#[116,121,112,101]⟩:ByteArray):=isP_name (by decide) (by decide) (by decide)
theorem p_105_109_112_108_101_109_101_110_116_115:IsP V (⟨#[105,109,112,108,101,109,101,110,116,115]⟩:ByteArray):=isP_name (by decide) (by decide) (by decide)
theorem p_38:IsP V (⟨#[38]⟩:ByteArray):=isP_sign (by decide) (by decide)
theorem p_105_110_116_101_114_102_97_99_101:IsP V (⟨#[105,110,116,101,114,102,97,99,101]⟩:ByteArray):=isP_name (by decide) (by decide) (by decide)
theorem p_117_110_105_111_110:IsP V (⟨#[117,110,105,111,110]⟩:ByteArray):=isP_name (by decide) (by decide) (by decide)
theorem p_124:IsP V (⟨#[124]⟩:ByteArray):=isP_sign (by decide) (by decide)
theorem p_101_110_117_109:IsP V (⟨#[101,110,117,109]⟩:ByteArray):=isP_name (by decide) (by decide) (by decide)
theorem p_105_110_112_117_116:IsP V (⟨#[105,110,112,117,116]⟩:ByteArray):=isP_name (by decide) (by decide) (by decide)
theorem p_100_105_114_101_99_116_105_118_101:IsP V (⟨#[100,105,114,101,99,116,105,118,101]⟩:ByteArray):=isP_name (by decide) (by decide) (by decide)
theorem p_101_120_116_101_110_100:IsP V (⟨#[101,120,116,101,110,100]⟩:ByteArray):=isP_name (by decide) (by decide) (by decide)
end
def pw (d:List S35) (i:Nat):Nat:=300+8*((rd_T35 d (i:Int)).f1.size+(rd_T35 d (i:Int)).f2.size+(rd_T35 d (i:Int)).f3.size)
def PS (d:List S35):Nat→Nat
 | 0=>0
 | i+1=>PS d i+pw d i
theorem pw_le (d:List S35) (i:Nat):300≤pw d i:=by
 unfold pw;generalize 8*((rd_T35 d (i:Int)).f1.size+(rd_T35 d (i:Int)).f2.size+(rd_T35 d (i:Int)).f3.size)=z;omega
theorem PS_mono (d:List S35) (a:Nat) (n:Nat):PS d a+300*n≤PS d (a+n):=by
 induction n with
 | zero=>rw[Nat.mul_zero,Nat.add_zero,Nat.add_zero];exact Nat.le_refl _
 | succ n ih=>
  have h:=pw_le d (a+n);rw[←Nat.add_assoc a n 1,PS];have h2:=Nat.add_le_add ih h;rw[Nat.mul_succ,←Nat.add_assoc];exact h2
def cst (d:List S35) (x:Int):Nat:=PS d (x.toNat+(fs d x.toNat).toNat)-PS d x.toNat-7
theorem tops_sum {d:List S35} {p e:Nat} {l:List Int} (h:Tops d p e l):csum (cst d) l+PS d p=PS d e:=by
 induction h with
 | nil p=>show 0+PS d p=PS d p;omega
 | @cons p m e l h1 h2 h3 ih=>
  have e1:csum (cst d) ((p:Int)::l)=cst d p+7+csum (cst d) l:=by simp[csum]
  have e2:cst d (p:Int)=PS d (p+m)-PS d p-7:=by
   unfold cst;rw[Int.toNat_natCast,h1.size,Int.toNat_natCast]
  have h4:=PS_mono d p m;have:=h1.pos;rw[e1,e2];omega
theorem tops_head {d:List S35} {p e:Nat} {l:List Int} (h:Tops d (p+1) e l) (he:p+1<e):(p:Int)+1∈l:=by
 generalize hq:p+1=q at h;cases h with
 | nil=>omega
 | cons a b c=>exact List.mem_cons.2 (.inl (by omega))
def oks (V:ByteArray→ByteArray→Prop) (l:List Int):List WOp→Prop
 | []=>True
 | o::r=>(o.ok V l∧o ≠ .all)∧oks V l r
theorem oks.mem {V:ByteArray→ByteArray→Prop} {l:List Int}:∀{ops:List WOp},oks V l ops→∀o∈ops,o.ok V l∧o ≠ .all
 | [],_,_,h=>by cases h
 | x::r,hk,o,h=>by
  rcases List.mem_cons.1 h with rfl|h
  ·exact hk.1
  ·exact oks.mem hk.2 o h
theorem spec_of {d:List S35} {p:Nat} {l:List Int} {g:Int→List ByteArray} {cs:Int→Nat} {n:S35} {ops:List WOp} (hW:NWrites d p l g cs n ops) (hX:Cx d p l g cs) (hp:p<d.length) (hn:rd_T35 d p=n) {cost:Nat} (hc:∀cc,costs d cs l cc ops+1≤cc+cost):NodeSpec d p (outs d g l [] ops) cost:=by
 intro w0 A cd hD w b bm ov l0 c hS hB hcc;have hc':=hc c;refine(hW w0 w w A cd b bm c ov ov l0 [] [] (NSt.of hS hB) hX hD (by omega) (by omega) hn (by omega)).mono ?_
 rintro e w' ⟨he,ov',h⟩;exact⟨he,ov',h.st.more (by omega),h.wk⟩
section
variable {V:ByteArray→ByteArray→Prop} {d:List S35} {p m:Nat} {l:List Int} {g:Int→List ByteArray} {k:Int} {n1 n2 n3:ByteArray} {n4 n5:Int} {ops:List WOp}
theorem fin (hW:NWrites d p l g (cst d) ⟨k,n1,n2,n3,n4,n5⟩ ops) (hp:p<d.length∧rd_T35 d p=⟨k,n1,n2,n3,n4,n5⟩∧fs d p=(m:Int)) (hX:Cx d p l g (cst d)) (hsum:csum (cst d) l+PS d (p+1)=PS d (p+m)) (hg:∀x∈l,AllP V (g x)) (hok:oks V l ops) (hk:(ops.flatMap (WOp.ks d)).Nodup)
  (hown:(ops.map WOp.own).sum≤290+8*(n1.size+n2.size+n3.size)):∃new,AllP V new∧NodeSpec d p new (cst d p):=by
 refine⟨_,outs_p hg ops [] .nil (fun o ho=>(hok.mem o ho).1),spec_of hW hX hp.1 hp.2.1 (fun cc=>?_)⟩;have h1:=costs_le_tot d (cst d) l ops cc (fun o ho=>⟨(hok.mem o ho).2,fun q hq=>by have:=(hok.mem o ho).1;rw[hq]at this;exact this⟩) hk
 have e2:cst d (p:Int)=PS d (p+m)-PS d p-7:=by
  unfold cst;rw[Int.toNat_natCast,hp.2.2,Int.toNat_natCast]
 have e3:PS d (p+1)=PS d p+(300+8*(n1.size+n2.size+n3.size)):=by show PS d p+pw d p=_;unfold pw;rw[hp.2.1]
 omega
theorem sum_csum (cs:Int→Nat):∀l:List Int,(l.map cs).sum≤csum cs l
 | []=>Nat.le_refl _
 | x::l=>by
  have:=sum_csum cs l;have e:csum cs (x::l)=cs x+7+csum cs l:=by simp[csum]
  rw[e,List.map_cons,List.sum_cons];omega
theorem fin_all (hW:NWrites d p l g (cst d) ⟨k,n1,n2,n3,n4,n5⟩ ops) (hp:p<d.length∧rd_T35 d p=⟨k,n1,n2,n3,n4,n5⟩∧fs d p=(m:Int)) (hX:Cx d p l g (cst d)) (hsum:csum (cst d) l+PS d (p+1)=PS d (p+m)) (hg:∀x∈l,AllP V (g x)) (a z:List ByteArray) (hops:ops=(if a=[] then[] else[.put a])++[.all]++(if z=[] then[] else[.put z])) (ha:AllP V a) (hz:AllP V z)
  (hown:wt a+wt z≤290+8*(n1.size+n2.size+n3.size)):∃new,AllP V new∧NodeSpec d p new (cst d p):=by
 have hok:∀o∈ops,o.ok V l:=by
  intro o ho;rw[hops]at ho;simp only[List.mem_append,List.mem_singleton]at ho;rcases ho with(ho|rfl)|ho
  ·split at ho
   ·cases ho
   ·rw[List.mem_singleton.1 ho];exact ha
  ·trivial
  ·split at ho
   ·cases ho
   ·rw[List.mem_singleton.1 ho];exact hz
 refine⟨_,outs_p hg ops [] .nil hok,spec_of hW hX hp.1 hp.2.1 (fun cc=>?_)⟩;have h1:=sum_csum (cst d) l;have e2:cst d (p:Int)=PS d (p+m)-PS d p-7:=by
  unfold cst;rw[Int.toNat_natCast,hp.2.2,Int.toNat_natCast]
 have e3:PS d (p+1)=PS d p+(300+8*(n1.size+n2.size+n3.size)):=by show PS d p+pw d p=_;unfold pw;rw[hp.2.1]
 have e4:costs d (cst d) l cc ops≤cc+wt a+(l.map (cst d)).sum+wt z:=by
  rw[hops]
  by_cases h1:a=[]<;>by_cases h2:z=[]<;>simp[h1,h2,costs,WOp.cost]<;>omega
 omega
end
theorem own_auto {p:Prop} (h:p:=by first|decide|(simp[WOp.own,wt,szl,E];done)|(simp[WOp.own,wt,szl,E];omega)):p:=h
theorem node_all (V:ByteArray→ByteArray→Prop) (d:List S35) (hd:d.length≤400) (hFm:∀q:Nat,q<d.length→Fm V (rd_T35 d q)) (hsh:∀q m,Nod d q m→(rd_T35 d (q:Int)).f0∈([21,22,39]:List Int)→2≤m∧((rd_T35 d (q:Int)).f0=39→kd d ((q:Int)+1)=27)) :
  ∀(m p:Nat),Nod d p m→∃new,AllP V new∧NodeSpec d p new (cst d p):=by
 intro m
 induction m using Nat.strongRecOn with
 | _ m ih=>
 intro p hN;obtain⟨l,hl,hK⟩:=kids_any hd hN;have hll:=hl.len;have hle:=hN.le;have hpos:=hN.pos;have hex:∀x:Int,∃new,x∈l→AllP V new∧NodeSpec d x new (cst d x):=by
  intro x
  by_cases hx:x∈l
  ·obtain⟨q,m',e1,e2,e3,e4⟩:=hl.mem x hx
   subst e1;obtain⟨new,h⟩:=ih m' (by omega) q e4
   exact⟨new,fun _=>h⟩
  ·exact⟨[],fun h=>absurd h hx⟩
 obtain⟨g,hgs⟩:=Classical.skolem.1 hex;have hg:∀x∈l,AllP V (g x):=fun x hx=>(hgs x hx).1;have hX:Cx d p l g (cst d):=⟨⟨402,hK 402 (Nat.le_refl _)⟩,by omega,fun x hx=>by
  obtain⟨q,m',e1,e2,e3,e4⟩:=hl.mem x hx;have:=e4.lt;omega,fun x hx=>(hgs x hx).2⟩
 have hsum:=tops_sum hl;have hF:=hFm p hN.lt;have hsp:=hsh p m hN;have hnext:(rd_T35 d (p:Int)).f0∈([21,22,39]:List Int)→(p:Int)+1∈l∧NodeSpec d ((p:Int)+1) (g ((p:Int)+1)) (cst d ((p:Int)+1))∧((rd_T35 d (p:Int)).f0=39→kd d ((p:Int)+1)=27):=by
  intro h;obtain⟨h1,h2⟩:=hsp h;have hm:(p:Int)+1∈l:=tops_head hl (by omega)
  exact⟨hm,(hgs _ hm).2,h2⟩
 clear hsp ih hK;have hp0:p<d.length∧rd_T35 d p=rd_T35 d p∧fs d p=(m:Int):=⟨hN.lt,rfl,hN.size⟩;clear hgs hFm hsh hll hle hpos hl hN hex;generalize hnn:rd_T35 d (p:Int)=n at hF hnext hp0;obtain⟨k,n1,n2,n3,n4,n5⟩:=n;have hp:p<d.length∧rd_T35 d p=⟨k,n1,n2,n3,n4,n5⟩∧fs d p=(m:Int):=⟨hp0.1,hnn,hp0.2.2⟩;clear hp0 hnn;obtain⟨r1,r2⟩:=hF.rg;dsimp only at r1 r2 hnext;have hall:k=1∨k=2∨k=3∨k=4∨k=5∨k=6∨k=7∨k=8∨k=9∨k=10∨k=11∨k=12∨k=13∨k=14∨k=15∨k=16∨k=17∨k=18∨k=19∨k=20∨k=21∨k=22∨k=23∨k=24∨k=25∨k=26∨k=27∨k=28∨k=29∨k=30∨k=31∨k=32∨k=33∨k=34∨k=35∨k=36∨k=37∨k=38∨k=39:=by omega
 rcases hall with rfl|rfl|rfl|rfl|rfl|rfl|rfl|rfl|rfl|rfl|rfl|rfl|rfl|rfl|rfl|rfl|rfl|rfl|rfl|rfl|rfl|rfl|rfl|rfl|rfl|rfl|rfl|rfl|rfl|rfl|rfl|rfl|rfl|rfl|rfl|rfl|rfl|rfl|rfl
 ·
  exact fin_all (hW:=node1 d p l g (cst d) n1 n2 n3 n4 n5) hp hX hsum hg [] [] rfl AllP.nil AllP.nil own_auto
 ·
  rcases hF.op rfl with⟨h4,h3,h⟩|h4
  ·cases hn1:n1.toList.isEmpty with
   | true=>
    exact fin (hW:=node2a d p l g (cst d) n1 n2 n3 n4 n5 h4 hn1) hp hX hsum hg (⟨⟨(AllP.cons h3 AllP.nil),by nofun⟩,⟨⟨.inr p_40,.inr p_41,.inl isE⟩,by nofun⟩,⟨⟨.inl isE,.inl isE,.inl isE⟩,by nofun⟩,⟨⟨.inl isE,.inl isE,.inl isE⟩,by nofun⟩,trivial⟩) (by first|(simp only[List.flatMap_cons,List.flatMap_nil,WOp.ks];decide)|simp[WOp.ks]) own_auto
   | false=>
    have h1:IsP V n1:=h.resolve_left (by rw[show n1.toList.isEmpty=false from hn1];decide)
    exact fin (hW:=node2b d p l g (cst d) n1 n2 n3 n4 n5 h4 hn1) hp hX hsum hg (⟨⟨(AllP.cons h3 AllP.nil),by nofun⟩,⟨(AllP.cons h1 AllP.nil),by nofun⟩,⟨⟨.inr p_40,.inr p_41,.inl isE⟩,by nofun⟩,⟨⟨.inl isE,.inl isE,.inl isE⟩,by nofun⟩,⟨⟨.inl isE,.inl isE,.inl isE⟩,by nofun⟩,trivial⟩) (by first|(simp only[List.flatMap_cons,List.flatMap_nil,WOp.ks];decide)|simp[WOp.ks]) own_auto
  ·exact fin (hW:=node2c d p l g (cst d) n1 n2 n3 n4 n5 h4) hp hX hsum hg (⟨⟨⟨.inr p_40,.inr p_41,.inl isE⟩,by nofun⟩,⟨⟨.inl isE,.inl isE,.inl isE⟩,by nofun⟩,⟨⟨.inl isE,.inl isE,.inl isE⟩,by nofun⟩,trivial⟩) (by first|(simp only[List.flatMap_cons,List.flatMap_nil,WOp.ks];decide)|simp[WOp.ks]) own_auto
 ·
  have h1:IsP V n1:=hF.nm (by dsimp only;decide)
  have h3:IsP V n3:=hF.fr rfl;exact fin (hW:=node3 d p l g (cst d) n1 n2 n3 n4 n5) hp hX hsum hg (⟨⟨(AllP.cons p_102_114_97_103_109_101_110_116 (AllP.cons h1 (AllP.cons p_111_110 (AllP.cons h3 AllP.nil)))),by nofun⟩,⟨⟨.inl isE,.inl isE,.inl isE⟩,by nofun⟩,⟨⟨.inl isE,.inl isE,.inl isE⟩,by nofun⟩,trivial⟩) (by first|(simp only[List.flatMap_cons,List.flatMap_nil,WOp.ks];decide)|simp[WOp.ks]) own_auto
 ·
  have h1:IsP V n1:=hF.nm (by dsimp only;decide)
  exact fin (hW:=node4 d p l g (cst d) n1 n2 n3 n4 n5) hp hX hsum hg (⟨⟨(AllP.cons p_36 (AllP.cons h1 (AllP.cons p_58 AllP.nil))),by nofun⟩,⟨.inl isE,by nofun⟩,⟨.inr p_61,by nofun⟩,trivial⟩) (by first|(simp only[List.flatMap_cons,List.flatMap_nil,WOp.ks];decide)|simp[WOp.ks]) own_auto
 ·
  exact fin (hW:=node5 d p l g (cst d) n1 n2 n3 n4 n5) hp hX hsum hg (⟨⟨⟨.inr p_123,.inr p_125,.inl isE⟩,by nofun⟩,trivial⟩) (by first|(simp only[List.flatMap_cons,List.flatMap_nil,WOp.ks];decide)|simp[WOp.ks]) own_auto
 ·
  have h1:IsP V n1:=hF.nm (by dsimp only;decide)
  cases hn2:n2.toList.isEmpty with
  | true=>
   exact fin (hW:=node6a d p l g (cst d) n1 n2 n3 n4 n5 hn2) hp hX hsum hg (⟨⟨(AllP.cons h1 AllP.nil),by nofun⟩,⟨⟨.inr p_40,.inr p_41,.inl isE⟩,by nofun⟩,⟨⟨.inl isE,.inl isE,.inl isE⟩,by nofun⟩,⟨⟨.inl isE,.inl isE,.inl isE⟩,by nofun⟩,trivial⟩) (by first|(simp only[List.flatMap_cons,List.flatMap_nil,WOp.ks];decide)|simp[WOp.ks]) own_auto
  | false=>
   have h2:IsP V n2:=(hF.fd rfl).resolve_left (by rw[show n2.toList.isEmpty=false from hn2];decide)
   exact fin (hW:=node6b d p l g (cst d) n1 n2 n3 n4 n5 hn2) hp hX hsum hg (⟨⟨(AllP.cons h2 (AllP.cons p_58 AllP.nil)),by nofun⟩,⟨(AllP.cons h1 AllP.nil),by nofun⟩,⟨⟨.inr p_40,.inr p_41,.inl isE⟩,by nofun⟩,⟨⟨.inl isE,.inl isE,.inl isE⟩,by nofun⟩,⟨⟨.inl isE,.inl isE,.inl isE⟩,by nofun⟩,trivial⟩) (by first|(simp only[List.flatMap_cons,List.flatMap_nil,WOp.ks];decide)|simp[WOp.ks]) own_auto
 ·
  have h1:IsP V n1:=hF.nm (by dsimp only;decide)
  exact fin (hW:=node7 d p l g (cst d) n1 n2 n3 n4 n5) hp hX hsum hg (⟨⟨(AllP.cons p_46_46_46 (AllP.cons h1 AllP.nil)),by nofun⟩,⟨⟨.inl isE,.inl isE,.inl isE⟩,by nofun⟩,trivial⟩) (by first|(simp only[List.flatMap_cons,List.flatMap_nil,WOp.ks];decide)|simp[WOp.ks]) own_auto
 ·
  cases hn3:n3.toList.isEmpty with
  | true=>
   exact fin (hW:=node8a d p l g (cst d) n1 n2 n3 n4 n5 hn3) hp hX hsum hg (⟨⟨(AllP.cons p_46_46_46 AllP.nil),by nofun⟩,⟨⟨.inl isE,.inl isE,.inl isE⟩,by nofun⟩,⟨⟨.inl isE,.inl isE,.inl isE⟩,by nofun⟩,trivial⟩) (by first|(simp only[List.flatMap_cons,List.flatMap_nil,WOp.ks];decide)|simp[WOp.ks]) own_auto
  | false=>
   have h3:IsP V n3:=(hF.il rfl).resolve_left (by rw[show n3.toList.isEmpty=false from hn3];decide)
   exact fin (hW:=node8b d p l g (cst d) n1 n2 n3 n4 n5 hn3) hp hX hsum hg (⟨⟨(AllP.cons p_46_46_46 AllP.nil),by nofun⟩,⟨(AllP.cons p_111_110 (AllP.cons h3 AllP.nil)),by nofun⟩,⟨⟨.inl isE,.inl isE,.inl isE⟩,by nofun⟩,⟨⟨.inl isE,.inl isE,.inl isE⟩,by nofun⟩,trivial⟩) (by first|(simp only[List.flatMap_cons,List.flatMap_nil,WOp.ks];decide)|simp[WOp.ks]) own_auto
 ·
  have h1:IsP V n1:=hF.nm (by dsimp only;decide)
  exact fin (hW:=node9 d p l g (cst d) n1 n2 n3 n4 n5) hp hX hsum hg (⟨⟨(AllP.cons h1 (AllP.cons p_58 AllP.nil)),by nofun⟩,⟨.inl isE,by nofun⟩,trivial⟩) (by first|(simp only[List.flatMap_cons,List.flatMap_nil,WOp.ks];decide)|simp[WOp.ks]) own_auto
 ·
  have h1:IsP V n1:=hF.nm (by dsimp only;decide)
  exact fin (hW:=node10 d p l g (cst d) n1 n2 n3 n4 n5) hp hX hsum hg (⟨⟨(AllP.cons p_64 (AllP.cons h1 AllP.nil)),by nofun⟩,⟨⟨.inr p_40,.inr p_41,.inl isE⟩,by nofun⟩,trivial⟩) (by first|(simp only[List.flatMap_cons,List.flatMap_nil,WOp.ks];decide)|simp[WOp.ks]) own_auto
 ·
  have h1:IsP V n1:=hF.nm (by dsimp only;decide)
  exact fin (hW:=(node_rest d p l g (cst d) 11 n1 n2 n3 n4 n5 _ (rest11 d p l g (cst d) n1 n2 n3 n4 n5) rfl rfl rfl rfl rfl rfl rfl rfl rfl rfl rfl)) hp hX hsum hg (⟨⟨(AllP.cons p_36 (AllP.cons h1 AllP.nil)),by nofun⟩,trivial⟩) (by first|(simp only[List.flatMap_cons,List.flatMap_nil,WOp.ks];decide)|simp[WOp.ks]) own_auto
 ·
  have h3:IsP V n3:=hF.nu (by dsimp only;decide)
  exact fin (hW:=(node_rest d p l g (cst d) 12 n1 n2 n3 n4 n5 _ (rest12 d p l g (cst d) n1 n2 n3 n4 n5) rfl rfl rfl rfl rfl rfl rfl rfl rfl rfl rfl)) hp hX hsum hg (⟨⟨(AllP.cons h3 AllP.nil),by nofun⟩,trivial⟩) (by first|(simp only[List.flatMap_cons,List.flatMap_nil,WOp.ks];decide)|simp[WOp.ks]) own_auto
 ·
  have h3:IsP V n3:=hF.nu (by dsimp only;decide)
  exact fin (hW:=(node_rest d p l g (cst d) 13 n1 n2 n3 n4 n5 _ (rest13 d p l g (cst d) n1 n2 n3 n4 n5) rfl rfl rfl rfl rfl rfl rfl rfl rfl rfl rfl)) hp hX hsum hg (⟨⟨(AllP.cons h3 AllP.nil),by nofun⟩,trivial⟩) (by first|(simp only[List.flatMap_cons,List.flatMap_nil,WOp.ks];decide)|simp[WOp.ks]) own_auto
 ·
  rcases hF.st (by dsimp only;decide) with⟨h4,q,hq,hqs,hc⟩|⟨h4,q,hq,hqs,hc⟩
  ·replace hqs:q.size≤6*n3.size+20:=hqs
   exact fin (hW:=(node_rest d p l g (cst d) 14 n1 n2 n3 n4 n5 _ (rest14q d p l g (cst d) n1 n2 n3 n4 n5 q hc h4) rfl rfl rfl rfl rfl rfl rfl rfl rfl rfl rfl)) hp hX hsum hg (⟨⟨(AllP.cons hq AllP.nil),by nofun⟩,trivial⟩) (by first|(simp only[List.flatMap_cons,List.flatMap_nil,WOp.ks];decide)|simp[WOp.ks]) own_auto
  ·replace hqs:q.size≤6*n3.size+20:=hqs
   exact fin (hW:=(node_rest d p l g (cst d) 14 n1 n2 n3 n4 n5 _ (rest14b d p l g (cst d) n1 n2 n3 n4 n5 q hc h4) rfl rfl rfl rfl rfl rfl rfl rfl rfl rfl rfl)) hp hX hsum hg (⟨⟨(AllP.cons hq AllP.nil),by nofun⟩,trivial⟩) (by first|(simp only[List.flatMap_cons,List.flatMap_nil,WOp.ks];decide)|simp[WOp.ks]) own_auto
 ·
  rcases hF.bo rfl with h4|h4
  ·exact fin (hW:=(node_rest d p l g (cst d) 15 n1 n2 n3 n4 n5 _ (rest15f d p l g (cst d) n1 n2 n3 n4 n5 h4) rfl rfl rfl rfl rfl rfl rfl rfl rfl rfl rfl)) hp hX hsum hg (⟨⟨(AllP.cons p_102_97_108_115_101 AllP.nil),by nofun⟩,trivial⟩) (by first|(simp only[List.flatMap_cons,List.flatMap_nil,WOp.ks];decide)|simp[WOp.ks]) own_auto
  ·exact fin (hW:=(node_rest d p l g (cst d) 15 n1 n2 n3 n4 n5 _ (rest15t d p l g (cst d) n1 n2 n3 n4 n5 h4) rfl rfl rfl rfl rfl rfl rfl rfl rfl rfl rfl)) hp hX hsum hg (⟨⟨(AllP.cons p_116_114_117_101 AllP.nil),by nofun⟩,trivial⟩) (by first|(simp only[List.flatMap_cons,List.flatMap_nil,WOp.ks];decide)|simp[WOp.ks]) own_auto
 ·
  have h1:IsP V n1:=hF.nm (by dsimp only;decide)
  exact fin (hW:=(node_rest d p l g (cst d) 16 n1 n2 n3 n4 n5 _ (rest16 d p l g (cst d) n1 n2 n3 n4 n5) rfl rfl rfl rfl rfl rfl rfl rfl rfl rfl rfl)) hp hX hsum hg (⟨⟨(AllP.cons h1 AllP.nil),by nofun⟩,trivial⟩) (by first|(simp only[List.flatMap_cons,List.flatMap_nil,WOp.ks];decide)|simp[WOp.ks]) own_auto
 ·
  exact fin_all (hW:=(node_rest d p l g (cst d) 17 n1 n2 n3 n4 n5 _ (rest17 d p l g (cst d) n1 n2 n3 n4 n5) rfl rfl rfl rfl rfl rfl rfl rfl rfl rfl rfl)) hp hX hsum hg _ _ rfl (AllP.one p_91) (AllP.one p_93) own_auto
 ·
  exact fin_all (hW:=(node_rest d p l g (cst d) 18 n1 n2 n3 n4 n5 _ (rest18 d p l g (cst d) n1 n2 n3 n4 n5) rfl rfl rfl rfl rfl rfl rfl rfl rfl rfl rfl)) hp hX hsum hg _ _ rfl (AllP.one p_123) (AllP.one p_125) own_auto
 ·
  have h1:IsP V n1:=hF.nm (by dsimp only;decide)
  exact fin (hW:=node19 d p l g (cst d) n1 n2 n3 n4 n5) hp hX hsum hg (⟨⟨(AllP.cons h1 (AllP.cons p_58 AllP.nil)),by nofun⟩,⟨.inl isE,by nofun⟩,trivial⟩) (by first|(simp only[List.flatMap_cons,List.flatMap_nil,WOp.ks];decide)|simp[WOp.ks]) own_auto
 ·
  have h1:IsP V n1:=hF.nm (by dsimp only;decide)
  exact fin (hW:=(node_rest d p l g (cst d) 20 n1 n2 n3 n4 n5 _ (rest20 d p l g (cst d) n1 n2 n3 n4 n5) rfl rfl rfl rfl rfl rfl rfl rfl rfl rfl rfl)) hp hX hsum hg (⟨⟨(AllP.cons h1 AllP.nil),by nofun⟩,trivial⟩) (by first|(simp only[List.flatMap_cons,List.flatMap_nil,WOp.ks];decide)|simp[WOp.ks]) own_auto
 ·
  obtain⟨hhead,hNX,_⟩:=hnext (by decide)
  exact fin (hW:=(node_rest d p l g (cst d) 21 n1 n2 n3 n4 n5 _ (rest21 d p l g (cst d) n1 n2 n3 n4 n5 hNX) rfl rfl rfl rfl rfl rfl rfl rfl rfl rfl rfl)) hp hX hsum hg (⟨⟨(AllP.cons p_91 AllP.nil),by nofun⟩,⟨hhead,by nofun⟩,⟨(AllP.cons p_93 AllP.nil),by nofun⟩,trivial⟩) (by first|(simp only[List.flatMap_cons,List.flatMap_nil,WOp.ks];decide)|simp[WOp.ks]) own_auto
 ·
  obtain⟨hhead,hNX,_⟩:=hnext (by decide)
  exact fin (hW:=(node_rest d p l g (cst d) 22 n1 n2 n3 n4 n5 _ (rest22 d p l g (cst d) n1 n2 n3 n4 n5 hNX) rfl rfl rfl rfl rfl rfl rfl rfl rfl rfl rfl)) hp hX hsum hg (⟨⟨hhead,by nofun⟩,⟨(AllP.cons p_33 AllP.nil),by nofun⟩,trivial⟩) (by first|(simp only[List.flatMap_cons,List.flatMap_nil,WOp.ks];decide)|simp[WOp.ks]) own_auto
 ·
  rcases hF.st (by dsimp only;decide) with⟨h4,q,hq,hqs,hc⟩|⟨h4,q,hq,hqs,hc⟩
  ·replace hqs:q.size≤6*n3.size+20:=hqs
   exact fin (hW:=(node_rest d p l g (cst d) 23 n1 n2 n3 n4 n5 _ (rest23q d p l g (cst d) n1 n2 n3 n4 n5 q hc h4) rfl rfl rfl rfl rfl rfl rfl rfl rfl rfl rfl)) hp hX hsum hg (⟨⟨(AllP.cons hq AllP.nil),by nofun⟩,trivial⟩) (by first|(simp only[List.flatMap_cons,List.flatMap_nil,WOp.ks];decide)|simp[WOp.ks]) own_auto
  ·replace hqs:q.size≤6*n3.size+20:=hqs
   exact fin (hW:=(node_rest d p l g (cst d) 23 n1 n2 n3 n4 n5 _ (rest23b d p l g (cst d) n1 n2 n3 n4 n5 q hc h4) rfl rfl rfl rfl rfl rfl rfl rfl rfl rfl rfl)) hp hX hsum hg (⟨⟨(AllP.cons hq AllP.nil),by nofun⟩,trivial⟩) (by first|(simp only[List.flatMap_cons,List.flatMap_nil,WOp.ks];decide)|simp[WOp.ks]) own_auto
 ·
  exact fin (hW:=(node_rest d p l g (cst d) 24 n1 n2 n3 n4 n5 _ (rest_def d p l g (cst d) 24 n1 n2 n3 n4 n5 _ (def24 d p l g (cst d) n1 n2 n3 n4 n5) rfl rfl rfl rfl rfl rfl rfl rfl rfl rfl rfl rfl rfl rfl rfl) rfl rfl rfl rfl rfl rfl rfl rfl rfl rfl rfl)) hp hX hsum hg (⟨⟨⟨.inl isE,.inl isE,.inl isE⟩,by nofun⟩,⟨(AllP.cons p_115_99_104_101_109_97 AllP.nil),by nofun⟩,⟨⟨.inl isE,.inl isE,.inl isE⟩,by nofun⟩,⟨⟨.inr p_123,.inr p_125,.inl isE⟩,by nofun⟩,trivial⟩) (by first|(simp only[List.flatMap_cons,List.flatMap_nil,WOp.ks];decide)|simp[WOp.ks]) own_auto
 ·
  have h1:IsP V n1:=hF.nm (by dsimp only;decide)
  have h3:IsP V n3:=hF.ot rfl;exact fin (hW:=(node_rest d p l g (cst d) 25 n1 n2 n3 n4 n5 _ (rest_def d p l g (cst d) 25 n1 n2 n3 n4 n5 _ (def25 d p l g (cst d) n1 n2 n3 n4 n5) rfl rfl rfl rfl rfl rfl rfl rfl rfl rfl rfl rfl rfl rfl rfl) rfl rfl rfl rfl rfl rfl rfl rfl rfl rfl rfl)) hp hX hsum hg (⟨⟨⟨.inl isE,.inl isE,.inl isE⟩,by nofun⟩,⟨(AllP.cons h3 (AllP.cons p_58 (AllP.cons h1 AllP.nil))),by nofun⟩,trivial⟩) (by first|(simp only[List.flatMap_cons,List.flatMap_nil,WOp.ks];decide)|simp[WOp.ks]) own_auto
 ·
  have h1:IsP V n1:=hF.nm (by dsimp only;decide)
  exact fin (hW:=(node_rest d p l g (cst d) 26 n1 n2 n3 n4 n5 _ (rest_def d p l g (cst d) 26 n1 n2 n3 n4 n5 _ (def26 d p l g (cst d) n1 n2 n3 n4 n5) rfl rfl rfl rfl rfl rfl rfl rfl rfl rfl rfl rfl rfl rfl rfl) rfl rfl rfl rfl rfl rfl rfl rfl rfl rfl rfl)) hp hX hsum hg (⟨⟨⟨.inl isE,.inl isE,.inl isE⟩,by nofun⟩,⟨(AllP.cons p_115_99_97_108_97_114 (AllP.cons h1 AllP.nil)),by nofun⟩,⟨⟨.inl isE,.inl isE,.inl isE⟩,by nofun⟩,trivial⟩) (by first|(simp only[List.flatMap_cons,List.flatMap_nil,WOp.ks];decide)|simp[WOp.ks]) own_auto
 ·
  have h1:IsP V n1:=hF.nm (by dsimp only;decide)
  exact fin (hW:=(node_rest d p l g (cst d) 27 n1 n2 n3 n4 n5 _ (rest_def d p l g (cst d) 27 n1 n2 n3 n4 n5 _ (def27 d p l g (cst d) n1 n2 n3 n4 n5) rfl rfl rfl rfl rfl rfl rfl rfl rfl rfl rfl rfl rfl rfl rfl) rfl rfl rfl rfl rfl rfl rfl rfl rfl rfl rfl)) hp hX hsum hg (⟨⟨⟨.inl isE,.inl isE,.inl isE⟩,by nofun⟩,⟨(AllP.cons p_116_121_112_101 (AllP.cons h1 AllP.nil)),by nofun⟩,⟨⟨.inr p_105_109_112_108_101_109_101_110_116_115,.inl isE,.inr p_38⟩,by nofun⟩,⟨⟨.inl isE,.inl isE,.inl isE⟩,by nofun⟩,⟨⟨.inr p_123,.inr p_125,.inl isE⟩,by nofun⟩,trivial⟩) (by first|(simp only[List.flatMap_cons,List.flatMap_nil,WOp.ks];decide)|simp[WOp.ks]) own_auto
 ·
  have h1:IsP V n1:=hF.nm (by dsimp only;decide)
  exact fin (hW:=(node_rest d p l g (cst d) 28 n1 n2 n3 n4 n5 _ (rest28 d p l g (cst d) n1 n2 n3 n4 n5) rfl rfl rfl rfl rfl rfl rfl rfl rfl rfl rfl)) hp hX hsum hg (⟨⟨(AllP.cons h1 AllP.nil),by nofun⟩,trivial⟩) (by first|(simp only[List.flatMap_cons,List.flatMap_nil,WOp.ks];decide)|simp[WOp.ks]) own_auto
 ·
  have h1:IsP V n1:=hF.nm (by dsimp only;decide)
  exact fin (hW:=(node_rest d p l g (cst d) 29 n1 n2 n3 n4 n5 _ (rest_def d p l g (cst d) 29 n1 n2 n3 n4 n5 _ (def29 d p l g (cst d) n1 n2 n3 n4 n5) rfl rfl rfl rfl rfl rfl rfl rfl rfl rfl rfl rfl rfl rfl rfl) rfl rfl rfl rfl rfl rfl rfl rfl rfl rfl rfl)) hp hX hsum hg (⟨⟨⟨.inl isE,.inl isE,.inl isE⟩,by nofun⟩,⟨(AllP.cons h1 AllP.nil),by nofun⟩,⟨⟨.inr p_40,.inr p_41,.inl isE⟩,by nofun⟩,⟨.inr p_58,by nofun⟩,⟨⟨.inl isE,.inl isE,.inl isE⟩,by nofun⟩,trivial⟩) (by first|(simp only[List.flatMap_cons,List.flatMap_nil,WOp.ks];decide)|simp[WOp.ks]) own_auto
 ·
  have h1:IsP V n1:=hF.nm (by dsimp only;decide)
  exact fin (hW:=(node_rest d p l g (cst d) 30 n1 n2 n3 n4 n5 _ (rest_def d p l g (cst d) 30 n1 n2 n3 n4 n5 _ (def30 d p l g (cst d) n1 n2 n3 n4 n5) rfl rfl rfl rfl rfl rfl rfl rfl rfl rfl rfl rfl rfl rfl rfl) rfl rfl rfl rfl rfl rfl rfl rfl rfl rfl rfl)) hp hX hsum hg (⟨⟨⟨.inl isE,.inl isE,.inl isE⟩,by nofun⟩,⟨(AllP.cons h1 AllP.nil),by nofun⟩,⟨.inr p_58,by nofun⟩,⟨.inr p_61,by nofun⟩,⟨⟨.inl isE,.inl isE,.inl isE⟩,by nofun⟩,trivial⟩) (by first|(simp only[List.flatMap_cons,List.flatMap_nil,WOp.ks];decide)|simp[WOp.ks]) own_auto
 ·
  have h1:IsP V n1:=hF.nm (by dsimp only;decide)
  exact fin (hW:=(node_rest d p l g (cst d) 31 n1 n2 n3 n4 n5 _ (rest_def d p l g (cst d) 31 n1 n2 n3 n4 n5 _ (def31 d p l g (cst d) n1 n2 n3 n4 n5) rfl rfl rfl rfl rfl rfl rfl rfl rfl rfl rfl rfl rfl rfl rfl) rfl rfl rfl rfl rfl rfl rfl rfl rfl rfl rfl)) hp hX hsum hg (⟨⟨⟨.inl isE,.inl isE,.inl isE⟩,by nofun⟩,⟨(AllP.cons p_105_110_116_101_114_102_97_99_101 (AllP.cons h1 AllP.nil)),by nofun⟩,⟨⟨.inl isE,.inl isE,.inl isE⟩,by nofun⟩,⟨⟨.inr p_123,.inr p_125,.inl isE⟩,by nofun⟩,trivial⟩) (by first|(simp only[List.flatMap_cons,List.flatMap_nil,WOp.ks];decide)|simp[WOp.ks]) own_auto
 ·
  have h1:IsP V n1:=hF.nm (by dsimp only;decide)
  exact fin (hW:=(node_rest d p l g (cst d) 32 n1 n2 n3 n4 n5 _ (rest_def d p l g (cst d) 32 n1 n2 n3 n4 n5 _ (def32 d p l g (cst d) n1 n2 n3 n4 n5) rfl rfl rfl rfl rfl rfl rfl rfl rfl rfl rfl rfl rfl rfl rfl) rfl rfl rfl rfl rfl rfl rfl rfl rfl rfl rfl)) hp hX hsum hg (⟨⟨⟨.inl isE,.inl isE,.inl isE⟩,by nofun⟩,⟨(AllP.cons p_117_110_105_111_110 (AllP.cons h1 AllP.nil)),by nofun⟩,⟨⟨.inl isE,.inl isE,.inl isE⟩,by nofun⟩,⟨⟨.inr p_61,.inl isE,.inr p_124⟩,by nofun⟩,trivial⟩) (by first|(simp only[List.flatMap_cons,List.flatMap_nil,WOp.ks];decide)|simp[WOp.ks]) own_auto
 ·
  have h1:IsP V n1:=hF.nm (by dsimp only;decide)
  exact fin (hW:=(node_rest d p l g (cst d) 33 n1 n2 n3 n4 n5 _ (rest33 d p l g (cst d) n1 n2 n3 n4 n5) rfl rfl rfl rfl rfl rfl rfl rfl rfl rfl rfl)) hp hX hsum hg (⟨⟨(AllP.cons h1 AllP.nil),by nofun⟩,trivial⟩) (by first|(simp only[List.flatMap_cons,List.flatMap_nil,WOp.ks];decide)|simp[WOp.ks]) own_auto
 ·
  have h1:IsP V n1:=hF.nm (by dsimp only;decide)
  exact fin (hW:=(node_rest d p l g (cst d) 34 n1 n2 n3 n4 n5 _ (rest_def d p l g (cst d) 34 n1 n2 n3 n4 n5 _ (def34 d p l g (cst d) n1 n2 n3 n4 n5) rfl rfl rfl rfl rfl rfl rfl rfl rfl rfl rfl rfl rfl rfl rfl) rfl rfl rfl rfl rfl rfl rfl rfl rfl rfl rfl)) hp hX hsum hg (⟨⟨⟨.inl isE,.inl isE,.inl isE⟩,by nofun⟩,⟨(AllP.cons p_101_110_117_109 (AllP.cons h1 AllP.nil)),by nofun⟩,⟨⟨.inl isE,.inl isE,.inl isE⟩,by nofun⟩,⟨⟨.inr p_123,.inr p_125,.inl isE⟩,by nofun⟩,trivial⟩) (by first|(simp only[List.flatMap_cons,List.flatMap_nil,WOp.ks];decide)|simp[WOp.ks]) own_auto
 ·
  have h1:IsP V n1:=hF.nm (by dsimp only;decide)
  exact fin (hW:=(node_rest d p l g (cst d) 35 n1 n2 n3 n4 n5 _ (rest_def d p l g (cst d) 35 n1 n2 n3 n4 n5 _ (def35 d p l g (cst d) n1 n2 n3 n4 n5) rfl rfl rfl rfl rfl rfl rfl rfl rfl rfl rfl rfl rfl rfl rfl) rfl rfl rfl rfl rfl rfl rfl rfl rfl rfl rfl)) hp hX hsum hg (⟨⟨⟨.inl isE,.inl isE,.inl isE⟩,by nofun⟩,⟨(AllP.cons h1 AllP.nil),by nofun⟩,⟨⟨.inl isE,.inl isE,.inl isE⟩,by nofun⟩,trivial⟩) (by first|(simp only[List.flatMap_cons,List.flatMap_nil,WOp.ks];decide)|simp[WOp.ks]) own_auto
 ·
  have h1:IsP V n1:=hF.nm (by dsimp only;decide)
  exact fin (hW:=(node_rest d p l g (cst d) 36 n1 n2 n3 n4 n5 _ (rest_def d p l g (cst d) 36 n1 n2 n3 n4 n5 _ (def36 d p l g (cst d) n1 n2 n3 n4 n5) rfl rfl rfl rfl rfl rfl rfl rfl rfl rfl rfl rfl rfl rfl rfl) rfl rfl rfl rfl rfl rfl rfl rfl rfl rfl rfl)) hp hX hsum hg (⟨⟨⟨.inl isE,.inl isE,.inl isE⟩,by nofun⟩,⟨(AllP.cons p_105_110_112_117_116 (AllP.cons h1 AllP.nil)),by nofun⟩,⟨⟨.inl isE,.inl isE,.inl isE⟩,by nofun⟩,⟨⟨.inr p_123,.inr p_125,.inl isE⟩,by nofun⟩,trivial⟩) (by first|(simp only[List.flatMap_cons,List.flatMap_nil,WOp.ks];decide)|simp[WOp.ks]) own_auto
 ·
  have h1:IsP V n1:=hF.nm (by dsimp only;decide)
  exact fin (hW:=(node_rest d p l g (cst d) 37 n1 n2 n3 n4 n5 _ (rest_def d p l g (cst d) 37 n1 n2 n3 n4 n5 _ (def37 d p l g (cst d) n1 n2 n3 n4 n5) rfl rfl rfl rfl rfl rfl rfl rfl rfl rfl rfl rfl rfl rfl rfl) rfl rfl rfl rfl rfl rfl rfl rfl rfl rfl rfl)) hp hX hsum hg (⟨⟨⟨.inl isE,.inl isE,.inl isE⟩,by nofun⟩,⟨(AllP.cons p_100_105_114_101_99_116_105_118_101 (AllP.cons p_64 (AllP.cons h1 AllP.nil))),by nofun⟩,⟨⟨.inr p_40,.inr p_41,.inl isE⟩,by nofun⟩,⟨⟨.inr p_111_110,.inl isE,.inr p_124⟩,by nofun⟩,trivial⟩) (by first|(simp only[List.flatMap_cons,List.flatMap_nil,WOp.ks];decide)|simp[WOp.ks]) own_auto
 ·
  have h1:IsP V n1:=hF.nm (by dsimp only;decide)
  exact fin (hW:=(node_rest d p l g (cst d) 38 n1 n2 n3 n4 n5 _ (rest38 d p l g (cst d) n1 n2 n3 n4 n5) rfl rfl rfl rfl rfl rfl rfl rfl rfl rfl rfl)) hp hX hsum hg (⟨⟨(AllP.cons h1 AllP.nil),by nofun⟩,trivial⟩) (by first|(simp only[List.flatMap_cons,List.flatMap_nil,WOp.ks];decide)|simp[WOp.ks]) own_auto
 ·
  obtain⟨hhead,hNX,h27⟩:=hnext (by decide)
  exact fin (hW:=(node_rest d p l g (cst d) 39 n1 n2 n3 n4 n5 _ (rest_def d p l g (cst d) 39 n1 n2 n3 n4 n5 _ (def39 d p l g (cst d) n1 n2 n3 n4 n5 hNX) rfl rfl rfl rfl rfl rfl rfl rfl rfl rfl rfl rfl rfl rfl rfl) rfl rfl rfl rfl rfl rfl rfl rfl rfl rfl rfl)) hp hX hsum hg (⟨⟨⟨.inl isE,.inl isE,.inl isE⟩,by nofun⟩,⟨(AllP.cons p_101_120_116_101_110_100 AllP.nil),by nofun⟩,⟨hhead,by nofun⟩,trivial⟩) (by have h27:=h27 rfl;simp only[List.flatMap_cons,List.flatMap_nil,WOp.ks,h27];decide) own_auto
end Go.Proofs.YtjolkdnfbmkjiaaGreatDoor.Wr
namespace Go.Proofs.YtjolkdnfbmkjiaaGreatDoor.Wr
open Go.RowKit Mem Go.Proofs.YtjolkdnfbmkjiaaGreatDoorW.PrintWords PFnTokensGaps
theorem texts_any {W:World} {A:Option Addr} {cd:Nat} {d:List S35} {new:List ByteArray} {cost:Nat} (hD:DE W A cd d) (hN:NodeSpec d 0 new cost) (hc:cost≤900000) :
  Calls Tryz.prog 6 #[.slice A d.length cd,.int .i64 0] W fun e w'=>∃v,e = .returned v∧w'.ownsRow W.heap.size 9 1 v new.length (new.map Value.string)∧wt new≤cost∧Below W.heap.size W w':=by
 have hmm:∀w:World,(Instr.makeMap 38 none).run Tryz.prog w = .ok (.map (some w.heap.size)) (w.alloc (.map #[] 0)):=fun w=>run_makeMap 38 w;have b1:Below W.heap.size W (W.alloc (.map #[] 0)):=(Below.refl _ _).alloc (Nat.le_refl _) _;have b2:Below (W.alloc (.map #[] 0)).heap.size (W.alloc (.map #[] 0)) ((W.alloc (.map #[] 0)).alloc (.cells #[.slice A d.length cd,.slice none 0 0,.map (some W.heap.size)] 40)):=(Below.refl _ _).alloc (Nat.le_refl _) _;have hsz:(W.alloc (.map #[] 0)).heap.size=W.heap.size+1:=by simp
 have hS:WSt W.heap.size ((W.alloc (.map #[] 0)).alloc (.cells #[.slice A d.length cd,.slice none 0 0,.map (some W.heap.size)] 40)) (W.heap.size+1) W.heap.size (.slice A d.length cd) (.slice none 0 0) [] 0:=by
  refine⟨?_,World.ownsRow_nil _ _ _ _,⟨0,.map [],Nat.le_refl _,ownsMap_below (World.ownsMap_made W Tryz.prog 3 MR) b2⟩,Nat.le_succ _,Nat.le_refl _,Nat.le_refl _⟩;have:=Blk.new (W.alloc (.map #[] 0)) 40 #[.slice A d.length cd,.slice none 0 0,.map (some W.heap.size)];rw[hsz]at this;exact this
 have hB:=b1.trans (b2.mono b1.size);have HN:=aK (hN W A cd hD _ _ _ _ _ _ hS hB (by omega))
 have HS:=aK hS;have HB:=aK hB;clear hD hN b1 b2 hS hB hsz;go_enter Tryz.func6,Tryz.ntmps6
 go_wp2_with (go_at_call 13;refine HN.out.mono ?_;rintro e w1 ⟨rfl,ov,h1,h2⟩;have H1:=aK h1;have H2:=aK (HB.out.trans (h2.below HS.out));have kc1:=h1.c1;clear h1 h2)
 refine bodyPost_ret (results_tmp rfl _ _ _) rfl ?_;have q:=H1.out;rw[List.nil_append]at q;refine⟨_,rfl,q.own,?_,H2.out⟩;have:=q.len;omega
end Go.Proofs.YtjolkdnfbmkjiaaGreatDoor.Wr
namespace Go.Proofs.YtjolkdnfbmkjiaaGreatDoor.Wr
open Go.Proofs.YtjolkdnfbmkjiaaGreatDoor.Rel (Piece Pz lay LayOk GapOk gapT free clingB Chain TokAt BadAt lay_snoc lay_chain LayOk.snoc in_self Skip)
structure LayInv (V:ByteArray→ByteArray→Prop) (kv:ByteArray→Int×ByteArray) (parts:List ByteArray) (n:Nat) (out:ByteArray):Prop where
 ok:∃zs:List Pz,LayOk V none zs∧out=lay zs∧zs.map (fun z=>(z.k,z.v))=(parts.take n).map kv∧zs.map (fun z=>z.x)=parts.take n
 size:out.size≤wt (parts.take n)
section
variable {V:ByteArray→ByteArray→Prop} {kv:ByteArray→Int×ByteArray} {parts:List ByteArray} {n:Nat} {out:ByteArray}
theorem LayInv.begin_ (V:ByteArray→ByteArray→Prop) (kv:ByteArray→Int×ByteArray) (parts:List ByteArray):LayInv V kv parts 0 ⟨#[]⟩:=⟨⟨[],trivial,rfl,rfl,rfl⟩,Nat.zero_le _⟩
theorem take_last {α:Type} {l:List α} (h:n<l.length):l.take (n+1)=l.take n++[l[n]]:=by rw[List.take_succ_eq_append_getElem h]
theorem LayInv.more (h:LayInv V kv parts n out) (hn:n<parts.length) (hP:Piece V parts[n] (kv parts[n]).1 (kv parts[n]).2) {g:ByteArray} (hg:GapOk g) (hgs:g.size≤5) (hf:g.size=0→∀m,(hm:m+1=n)→free (parts[m]'(by omega)) parts[n]):LayInv V kv parts (n+1) (out++g++parts[n]):=by
 obtain⟨⟨zs,h1,h2,h3,h4⟩,h5⟩:=h;have et:=take_last hn;refine⟨⟨zs++[⟨g,parts[n],(kv parts[n]).1,(kv parts[n]).2⟩],LayOk.snoc zs none _ h1 hg hP (fun h0 y hy=>?_),by rw[lay_snoc,h2],by rw[List.map_append,h3,et,List.map_append];rfl,by rw[List.map_append,h4,et];rfl⟩,?_⟩
 ·have e:(zs.getLast?.map fun z=>z.x)=some y:=by simpa using hy
  rw[←List.getLast?_map,h4]at e;rcases Nat.eq_zero_or_pos n with h0'|h0'
  ·subst h0';simp at e
  ·obtain⟨m,rfl⟩:∃m,n=m+1:=⟨n-1,by omega⟩
   rw[take_last (show m<parts.length by omega),List.getLast?_append]at e
   simp only[List.getLast?_singleton,Option.some_or,Option.some.injEq]at e;rw[←e];exact hf h0 m rfl
 ·rw[et,wt_app,ByteArray.size_append,ByteArray.size_append]
  have e:wt [parts[n]]=parts[n].size+6:=by simp[wt]
  omega
theorem LayInv.chain {T:Nat→Prop} (h:LayInv V kv parts parts.length out):∃t:List Mod.Tok,Chain out (TokAt V out) T true 0 t∧t.map (fun x=>(x.kind,x.value))=parts.map kv:=by
 obtain⟨⟨zs,h1,h2,h3,h4⟩,h5⟩:=h;rw[List.take_length]at h3;obtain⟨t,h6,h7⟩:=lay_chain (V:=V) (B:=out) (T:=T) zs none 0 h1 (by rw[←h2];exact in_self out) (by rw[←h2,Nat.zero_add])
 exact⟨t,h6,h7.trans h3⟩
end
end Go.Proofs.YtjolkdnfbmkjiaaGreatDoor.Wr
