import Derived.Test.YtjolkdnfbmkjiaaGreatDoorVF1
import Derived.BigQuiet
import Derived.Test.YtjolkdnfbmkjiaaGreatDoorVQ1
set_option maxRecDepth 100000
set_option maxHeartbeats 8000000
set_option linter.unusedVariables false
set_option linter.unusedSimpArgs false
namespace Go.Proofs.YtjolkdnfbmkjiaaGreatDoor.Wr
open Go.RowKit Mem Go.Proofs.YtjolkdnfbmkjiaaGreatDoorW.PrintWords PFnTokensGaps
def rowLen (g:Nat) (w:World):Nat:=match w.cell? ⟨g,1,none⟩with
 | some (.slice _ n _)=>n
 | _=>0
theorem RT.len {w1 w W:World} {g:Nat} {d:List S35} {l:List Int} {s:Int} (h:RT w1 w W g d l s):rowLen g W=l.length:=by
 obtain⟨A0,c0,A1,c1,h1,h2,h3,h4,h5⟩:=h.rs;have k1:W.cell? ⟨g,1,none⟩=some (.slice A1 l.length c1):=(h2.cell 1).trans rfl;unfold rowLen;rw[k1]
theorem RT.drewN {w1 w W:World} {g:Nat} {d:List S35} {l:List Int} {s:Int} (h:RT w1 w W g d l s) (n:Nat):RT w1 w (W.drewN n) g d l s:=h.below (pw_below_drewN (Below.refl _ _) n)
theorem drop_head {l:List Int} {i:Nat} {x:Int} {L:List Int} (h:l.drop i=x::L):i<l.length∧l.drop (i+1)=L∧x∈l:=by
 have hi:i<l.length:=by
  rcases Nat.lt_or_ge i l.length with h1|h1
  ·exact h1
  ·rw[List.drop_eq_nil_of_le h1]at h;cases h
 refine⟨hi,?_,?_⟩
 ·rw[List.drop_eq_getElem_cons hi]at h;exact(List.cons.inj h).2
 ·have:x∈l.drop i:=by rw[h];exact List.mem_cons_self ..
  exact List.mem_of_mem_drop this
theorem all_any {w1 w W:World} {g:Nat} {d:List S35} {l:List Int} {s:Int} (h:RT w1 w W g d l s) (hd:∀x∈l,0≤x∧x<d.length) (hl:l.length≤400) (ks:List Int) (gk ck:Nat) (hk:Blk W gk 3 (ks.map (Value.int .i64)).toArray) (hgk:gk≠g) (hks:ks.length≤100) :
  Calls Tryz.prog 38 #[.pointer (some ⟨g,0,none⟩),.slice (some ⟨gk,0,none⟩) ks.length ck] W fun e w'=>e = .returned (.pointer (some ⟨g,0,none⟩))∧∃i s',i≤l.length∧RT w1 w w' g d (l.drop i) s':=by
 have HJ:=aK h;have HK:=aK hk;have hS:=h.start;obtain⟨A0,c0,A1,c1,h1,h2,h3,h4,h5⟩:=h.rs;have k2:W.cell? ⟨g,2,none⟩=some (.int .i64 s):=(h2.cell 2).trans rfl;have f2:=Blk.frozen h2 2;have H0:=aK (hS.setSome 0);have HDD:=aK hd;clear h hk hS h1 h2 h3 h4 h5 hd;go_enter Tryz.func38,Tryz.ntmps38
 go_wp2_with fail
 clear k2 f2
 go_loopw [5,6] (fun v5 v6 wr=>∃(i:Nat) (s':Int),i≤l.length∧Aside0 (RT w1 W wr g d (l.drop i) s')) (fun _ _ wr=>rowLen g wr)
 case atStart=>exact⟨0,0,Nat.zero_le _,H0⟩
 case round=>
  clear H0;obtain⟨i,s',hi,HT⟩:=hrel;obtain⟨A0,c0,A1,c1,h1,h2,h3,h4,h5⟩:=HT.out.rs;have k1:wr.cell? ⟨g,1,none⟩=some (.slice A1 (l.drop i).length c1):=(h2.cell 1).trans rfl;cases hL:l.drop i with
  | nil=>
   rw[hL]at k1;clear h1 h2 h3 h4 h5
   go_wp2_with fail
   refine bodyPost_ret (results_tmp rfl _ _ _) rfl ?_;exact⟨rfl,i,s',hi,HJ.out.join HT.out⟩
  | cons x L=>
   obtain⟨hi2,hL2,hxm⟩:=drop_head hL;rw[hL]at k1 HT;clear h1 h2 h3 h4 h5;have HLL:=aK (And.intro hL hL2);clear hL hL2
   go_wp2_with fail
   clear k1
   go_loopw [5,6] (fun v5 v6 wr=>∃(bb:Bool) (k:Nat) (s':Int),v5 = .bool bb∧v6 = .int .i64 (k:Int)∧k≤ks.length∧Aside0 (RT w1 W wr g d (x::L) s')) (fun _ v6 _=>ks.length-(intOf v6).toNat)
   case atStart=>exact⟨false,0,s',rfl,rfl,Nat.zero_le _,HT⟩
   case round=>
    have HTo:=HT;clear HT;obtain⟨bb,k,s',rfl,rfl,hk,HT⟩:=hrel
    by_cases hkl:k=ks.length
    ·subst hkl
     have hlt2:decide ((ks.length:Int)<(ks.length:Int))=false:=decide_eq_false (by omega)
     cases bb with
     | false=>
      go_wp2_with fail
      refine bodyPost_ret (results_tmp rfl _ _ _) rfl ?_;refine⟨rfl,i,s',by omega,HJ.out.join ?_⟩
      rw[HLL.out.1];exact HT.out
     | true=>
      obtain⟨A0,c0,A1,c1,h1,h2,h3,h4,h5⟩:=HT.out.rs;have k1:wr.cell? ⟨g,1,none⟩=some (.slice A1 (L.length+1) c1):=(h2.cell 1).trans rfl;have k2:wr.cell? ⟨g,2,none⟩=some (.int .i64 s'):=(h2.cell 2).trans rfl;have f1:=Blk.frozen h2 1;have f2:=Blk.frozen h2 2;obtain⟨ad1,e1,hx1⟩:=Kd.at_int h5 0 (by omega) (by simp)
      cases e1;have hcc:L.length+1≤c1:=by simpa using h1
      have HTL:=aK (RT.tail (w:=W) h1 h2 h3 h4 h5 HT.out.bel HT.out.keep HT.out.size);have hmes:=HTo.out.len;rw[List.length_cons]at hmes;have hz1:(0:Int)<(L.length:Int)+1:=by omega
      clear h1 h2 h3 h4 h5 hx1
      by_cases hc1:c1=1
      ·subst hc1
       have HL0:=aK (show L.length=0 by omega)
       go_wp2_with fail
       have HR:RT w1 W (wr.setCell ⟨g,1,none⟩ (Value.slice (some ad1) 0 0)) g d L s':=by
        have q:=HTL.out;rw[HL0.out]at q
        simpa using q
       have HR2:=HR.setSome (wrap64 (s'+1));refine⟨⟨i+1,_,hi2,⟨by rw[HLL.out.2];exact HR2⟩⟩,?_⟩
       have:=HR2.len;omega
      ·have hc2:(1:Int)<(c1:Int):=by omega
       go_wp2_with fail
       have HR:RT w1 W (wr.setCell ⟨g,1,none⟩ (Value.slice (some ⟨ad1.block,ad1.off+1,none⟩) L.length (c1-1))) g d L s':=by
        have q:=HTL.out;rw[if_neg hc1]at q;have e:ad1.add 1=⟨ad1.block,ad1.off+1,none⟩:=by unfold Addr.add;split<;>simp_all
        simpa[e]using q
       have HR2:=HR.setSome (wrap64 (s'+1));refine⟨⟨i+1,_,hi2,⟨by rw[HLL.out.2];exact HR2⟩⟩,?_⟩
       have:=HR2.len;omega
    ·have hlt2:decide ((k:Int)<(ks.length:Int))=true:=decide_eq_true (by omega)
     have hkl2:k<ks.length:=by omega
     cases bb with
     | true=>
      go_wp2_with fail
      go_quiet (fail)
      go_wp2_with fail
      refine⟨⟨true,k+1,s',rfl,by simp,hkl2,⟨HT.out.drewN _⟩⟩,by simp[intOf];omega⟩
     | false=>
      obtain⟨A0,c0,A1,c1,h1,h2,h3,h4,h5⟩:=HT.out.rs;have k1:wr.cell? ⟨g,1,none⟩=some (.slice A1 (L.length+1) c1):=(h2.cell 1).trans rfl;have k0:wr.cell? ⟨g,0,none⟩=some (.slice A0 d.length c0):=(h2.cell 0).trans rfl;obtain⟨hx0,hxd⟩:=HDD.out x hxm;obtain⟨ad1,e1,hx1⟩:=Kd.at_int h5 0 (by omega) (by simp)
      cases e1;have hx1':wr.cell? (ad1.add 0)=some (.int .i64 x):=by
       have:=(HT.out.bel.cell (World.block_lt_of_cell? w1 _ hx1)).trans hx1
       simpa[rd]using this
      have hx1z:wr.cell? ad1=some (.int .i64 x):=by
       have e:ad1.add 0=ad1:=by unfold Addr.add;split<;>simp_all
       rw[e]at hx1';exact hx1'
      obtain⟨ad2,e2,y0,_⟩:=at_T35 (Kd.C_below h4 HT.out.bel) x hx0 hxd;cases e2;obtain⟨y,hy⟩:∃y,ks.getD k 0=y:=⟨_,rfl⟩;have hx3:wr.cell? ⟨gk,k,none⟩=some (.int .i64 y):=by
       rw[(HT.out.blk HK.out hgk).cell k,←hy];simp[List.getD_eq_getElem?_getD,List.getElem?_eq_getElem hkl2]
      have hz1:(0:Int)<(L.length:Int)+1:=by omega
      generalize rd_T35 d x=n at y0;clear h1 h2 h3 h4 h5 hx1 hx1'
      go_wp2_with fail
      go_quiet (fail)
      go_wp2_with fail
      refine⟨⟨_,k+1,s',rfl,by simp,hkl2,⟨HT.out.drewN _⟩⟩,by simp[intOf];omega⟩
open Tr
structure RU (w1 w W:World) (g:Nat) (d:List S35) (l:List Int) (s:Int):Prop where
 t:RT w1 w W g d l s
 rng:∀x∈l,0≤x∧x<d.length
 len:l.length≤400
section
variable {w1 w W W':World} {g:Nat} {d:List S35} {l:List Int} {s:Int}
theorem RU.below (h:RU w1 w W g d l s) (k:Below W.heap.size W W'):RU w1 w W' g d l s:=⟨h.t.below k,h.rng,h.len⟩
theorem ints_of {vs:List Value} (hv:∀v∈vs,∃y,v = .int .i64 y):∃ks:List Int,ks.map (Value.int .i64)=vs:=by
 induction vs with
 | nil=>exact⟨[],rfl⟩
 | cons v vs ih=>
  obtain⟨y,rfl⟩:=hv v (List.mem_cons_self ..);obtain⟨ks,rfl⟩:=ih (fun u hu=>hv u (List.mem_cons_of_mem _ hu));exact⟨y::ks,rfl⟩
theorem RU.all {H n:Nat} {vs:List Value} (h:RU w1 w W g d l s) (hH:W.heap.size=H) (hv:∀v∈vs,∃y,v = .int .i64 y) (hn:vs.length=n) (hn2:n≤100) :
  Calls Tryz.prog 38 #[.pointer (some ⟨g,0,none⟩),.slice (some ⟨H,0,none⟩) n n] (W.alloc (.cells vs.toArray 3)) fun e w'=>e = .returned (.pointer (some ⟨g,0,none⟩))∧∃l' s',RU w1 w w' g d l' s':=by
 subst hH;obtain⟨ks,rfl⟩:=ints_of hv;rw[List.length_map]at hn;subst hn;have hb:Below W.heap.size W (W.alloc (.cells (ks.map (Value.int .i64)).toArray 3)):=(Below.refl _ _).alloc (Nat.le_refl _) _;have hg:g<W.heap.size:=by obtain⟨A0,c0,A1,c1,h1,h2,_⟩:=h.t.rs;exact h2.lt
 refine(all_any (h.t.below hb) h.rng h.len ks W.heap.size ks.length (Blk.new W 3 _) (by omega) hn2).mono ?_
 rintro e w' ⟨he,i,s',hi,ht⟩;exact⟨he,l.drop i,s',ht,fun x hx=>h.rng x (List.mem_of_mem_drop hx),by rw[List.length_drop];have:=h.len;omega⟩
theorem RU.end_ (h:RU w1 w W g d l s):Calls Tryz.prog 39 #[.pointer (some ⟨g,0,none⟩)] W fun e w'=>e = .returned (.bool (decide (l.length=0)))∧RU w1 w w' g d l s:=by
 refine(end_any h.t).mono ?_;rintro e w' ⟨he,ht⟩;exact⟨he,ht,h.rng,h.len⟩
theorem RU.most (h:RU w1 w W g d l s):Calls Tryz.prog 43 #[.pointer (some ⟨g,0,none⟩)] W fun e w'=>e = .returned (.bool (decide (s≤1)))∧RU w1 w w' g d l s:=by
 refine(most_any h.t).mono ?_;rintro e w' ⟨he,ht⟩;exact⟨he,ht,h.rng,h.len⟩
def OnePost (w1 w:World) (g:Nat) (d:List S35) (l:List Int) (s:Int) (P:Int→Bool) (e:Ending) (w':World):Prop:=
 ∃r l',e = .returned (.bool r)∧RU w1 w w' g d l' s∧(r=true→∃x,l=x::l'∧P (kd d x)=true)
theorem one_of {P:Int→Bool} {e:Ending} {w':World} (h:RU w1 w W g d l s) (k:∃r l',e = .returned (.bool r)∧RT w1 w w' g d l' s∧(r=false→l'=l)∧(r=true→∃x,l=x::l'∧P (kd d x)=true)):OnePost w1 w g d l s P e w':=by
 obtain⟨r,l',he,ht,k1,k2⟩:=k;refine⟨r,l',he,⟨ht,?_,?_⟩,k2⟩
 ·cases r with
  | false=>rw[k1 rfl];exact h.rng
  | true=>obtain⟨x,e,_⟩:=k2 rfl;exact fun y hy=>h.rng y (by rw[e];exact List.mem_cons_of_mem _ hy)
 ·cases r with
  | false=>rw[k1 rfl];exact h.len
  | true=>obtain⟨x,e,_⟩:=k2 rfl;have:=h.len;rw[e,List.length_cons]at this;omega
theorem RU.oneT (h:RU w1 w W g d l s):Calls Tryz.prog 40 #[.pointer (some ⟨g,0,none⟩),.func (.func 27) #[] #[]] W fun e w'=>OnePost w1 w g d l s isT e w':=(one_isType h.t h.rng h.len).mono fun _ _ k=>one_of h k
theorem RU.oneV (h:RU w1 w W g d l s):Calls Tryz.prog 40 #[.pointer (some ⟨g,0,none⟩),.func (.func 28) #[] #[]] W fun e w'=>OnePost w1 w g d l s isV e w':=(one_isValue h.t h.rng h.len).mono fun _ _ k=>one_of h k
theorem RU.oneS (h:RU w1 w W g d l s):Calls Tryz.prog 40 #[.pointer (some ⟨g,0,none⟩),.func (.func 41) #[] #[]] W fun e w'=>OnePost w1 w g d l s isS e w':=(one_isSel h.t h.rng h.len).mono fun _ _ k=>one_of h k
theorem RU.oneN (h:RU w1 w W g d l s):Calls Tryz.prog 40 #[.pointer (some ⟨g,0,none⟩),.func (.func 44) #[] #[]] W fun e w'=>OnePost w1 w g d l s isN e w':=(one_isNul h.t h.rng h.len).mono fun _ _ k=>one_of h k
theorem RU.oneO (h:RU w1 w W g d l s):Calls Tryz.prog 40 #[.pointer (some ⟨g,0,none⟩),.func (.func 62) #[] #[]] W fun e w'=>OnePost w1 w g d l s isO e w':=(one_isObj h.t h.rng h.len).mono fun _ _ k=>one_of h k
end
section
variable {w1 w W:World} {g:Nat} {d:List S35} {l:List Int} {s:Int} {A:Option Addr} {cd p m:Nat}
theorem fixedAt_any (h:RU w1 w W g d l s) (hC:Kd.C k35 w1 A d.length d) (hc:d.length≤cd) (hd:d.length≤400) (hN:Nod d p m) :
  Calls Tryz.prog 42 #[.slice A d.length cd,.int .i64 p] W fun e w'=>∃r:Bool,e = .returned (.bool r)∧RU w1 w w' g d l s:=by
 obtain⟨r,hr⟩:=fixed_any hd hN;refine(spec_fixedAt.calls 402 A cd d p r W (Kd.C_below hC h.t.bel) hc (hr 402 (Nat.le_refl _))).mono ?_;rintro e w' ⟨he,hw⟩;exact⟨r,he,h.below hw.below⟩
theorem fixedHere_any (h:RU w1 w W g d l s) (hC:Kd.C k35 w1 A d.length d) (hc:d.length≤cd) (hd:d.length≤400) (hN:Nod d p m) :
  Calls Tryz.prog 64 #[.slice A d.length cd,.int .i64 p] W fun e w'=>∃r:Bool,e = .returned (.bool r)∧RU w1 w w' g d l s:=by
 obtain⟨r,hr⟩:=here_any hd hN;refine(spec_fixedHere.calls 1000 A cd d p r W (Kd.C_below hC h.t.bel) hc (hr 1000 (Nat.le_refl _))).mono ?_;rintro e w' ⟨he,hw⟩;exact⟨r,he,h.below hw⟩
theorem kidOf_any (h:RU w1 w W g d l s) (hC:Kd.C k35 w1 A d.length d) (hc:d.length≤cd) (hd:d.length≤400) (hN:Nod d p m) (k:Int) :
  Calls Tryz.prog 63 #[.slice A d.length cd,.int .i64 p,.int .i64 k] W fun e w'=>∃r:Int,e = .returned (.int .i64 r)∧RU w1 w w' g d l s:=by
 obtain⟨r,hr⟩:=kidof_any hd hN k;refine(spec_KidOf.calls 402 A cd d p k r W (Kd.C_below hC h.t.bel) hc (hr 402 (Nat.le_refl _))).mono ?_;rintro e w' ⟨he,hw⟩;exact⟨r,he,h.below hw⟩
end
theorem RU.c2 {w1 w W:World} {g:Nat} {d:List S35} {l:List Int} {s:Int} (h:RU w1 w W g d l s):W.cell? ⟨g,2,none⟩=some (.int .i64 s):=by
 obtain⟨A0,c0,A1,c1,h1,h2,_⟩:=h.t.rs;exact(h2.cell 2).trans rfl
theorem RU.allA {w1 w W:World} {g H n:Nat} {d:List S35} {l:List Int} {s:Int} {cs:Array Value} (h:RU w1 w W g d l s) (hH:W.heap.size=H) (hv:∀v∈cs.toList,∃y,v = .int .i64 y) (hn:cs.size=n) (hn2:n≤100) :
  Calls Tryz.prog 38 #[.pointer (some ⟨g,0,none⟩),.slice (some ⟨H,0,none⟩) n n] (W.alloc (.cells cs 3)) fun e w'=>e = .returned (.pointer (some ⟨g,0,none⟩))∧∃l' s',RU w1 w w' g d l' s':=h.all (vs:=cs.toList) hH hv (by simpa using hn) hn2
def PP (f:Nat):Int→Bool:=if f=27 then isT else if f=28 then isV else if f=41 then isS else if f=44 then isN else isO
theorem RU.one {w1 w W:World} {g f:Nat} {d:List S35} {l:List Int} {s:Int} (h:RU w1 w W g d l s) (hf:f=27∨f=28∨f=41∨f=44∨f=62) :
  Calls Tryz.prog 40 #[.pointer (some ⟨g,0,none⟩),.func (.func f) #[] #[]] W fun e w'=>OnePost w1 w g d l s (PP f) e w':=by
 rcases hf with rfl|rfl|rfl|rfl|rfl
 ·exact h.oneT
 ·exact h.oneV
 ·exact h.oneS
 ·exact h.oneN
 ·exact h.oneO
def BPost (w1 w:World) (g:Nat) (d:List S35) (e:Ending) (w':World):Prop:=∃(r:Bool) (l':List Int) (s':Int),e = .returned (.bool r)∧RU w1 w w' g d l' s'
def TY (k:Int):Prop:=∀(w1 w W:World) (g:Nat) (d:List S35) (l:List Int) (s:Int) (A:Option Addr) (cd p m:Nat),RU w1 w W g d l s→Kd.C k35 w1 A d.length d→d.length≤cd→d.length≤400→Nod d p m→
  Calls Tryz.prog 45 #[.pointer (some ⟨g,0,none⟩),.int .i64 k,.slice A d.length cd,.int .i64 p] W fun e w'=>BPost w1 w g d e w'
set_option maxRecDepth 100000
set_option maxHeartbeats 8000000
theorem vT {p:Prop} (h:p:=by
 intro w1 w W g d l s A cd p m h hC hcd hdl hN;have HS:=aK h;have HC:=aK hC;have HNO:=aK hN;have hq2:=h.c2;clear h hC hN;go_enter Tryz.func45,Tryz.ntmps45
 go_wp2_with (first|(go_at_call 38;refine(HS.out.allA (by first|rfl|simp) (by simp) (by rfl) (by decide)).mono ?_;rintro e Wn ⟨rfl,ln,sn,hn⟩;replace HS:=aK hn;clear hn;have hq2:=HS.out.c2)|(go_at_call 39;refine HS.out.end_.mono ?_;rintro e Wn ⟨rfl,hn⟩;replace HS:=aK hn;clear hn;have hq2:=HS.out.c2)|(go_at_call 43;refine HS.out.most.mono ?_;rintro e Wn ⟨rfl,hn⟩;replace HS:=aK hn;clear hn;have hq2:=HS.out.c2)|(go_at_call 40;refine(HS.out.one (by decide)).mono ?_;rintro e Wn ⟨rn,ln,rfl,hn,hon⟩;clear hon;replace HS:=aK hn;clear hn;have hq2:=HS.out.c2)|(go_at_call 42;refine(fixedAt_any HS.out HC.out hcd hdl HNO.out).mono ?_;rintro e Wn ⟨rn,rfl,hn⟩;replace HS:=aK hn;clear hn;have hq2:=HS.out.c2)|(go_at_call 64;refine(fixedHere_any HS.out HC.out hcd hdl HNO.out).mono ?_;rintro e Wn ⟨rn,rfl,hn⟩;replace HS:=aK hn;clear hn;have hq2:=HS.out.c2))
 all_goals
  refine bodyPost_ret (results_tmp rfl _ _ _) rfl ?_;exact⟨_,_,_,rfl,HS.out⟩):p:=h
theorem type24:TY 24:=vT
theorem type26:TY 26:=vT
theorem type27:TY 27:=vT
theorem type29:TY 29:=vT
theorem type30:TY 30:=vT
theorem type31:TY 31:=vT
theorem type32:TY 32:=vT
theorem type34:TY 34:=vT
theorem type35:TY 35:=vT
theorem type36:TY 36:=vT
theorem type37:TY 37:=vT
set_option maxRecDepth 100000
set_option maxHeartbeats 8000000
section
variable {w1 w W:World} {g:Nat} {d:List S35} {l:List Int} {s:Int} {A:Option Addr} {cd p m:Nat}
theorem type_other (k:Int) (q24:(k==24)=false) (q39:(k==39)=false) (q26:(k==26)=false) (q35:(k==35)=false) (q27:(k==27)=false) (q31:(k==31)=false) (q32:(k==32)=false) (q34:(k==34)=false) (q36:(k==36)=false) (q29:(k==29)=false) (q30:(k==30)=false) (q37:(k==37)=false):TY k:=vT
theorem type39 (h:RU w1 w W g d l s) (hC:Kd.C k35 w1 A d.length d) (hcd:d.length≤cd) (hdl:d.length≤400) (hN:Nod d p m) (hl:Tops d (p+1) (p+m) l) :
  Calls Tryz.prog 45 #[.pointer (some ⟨g,0,none⟩),.int .i64 39,.slice A d.length cd,.int .i64 p] W fun e w'=>∃(r:Bool) (l':List Int) (s':Int),e = .returned (.bool r)∧RU w1 w w' g d l' s'∧(r=true→∃x,l=[x]∧kd d x=27):=by
 have HS:=aK h;have HC:=aK hC;have HNO:=aK hN;have HL:=aK hl;have hple:p+m≤d.length:=hN.le;clear h hC hN hl;go_enter Tryz.func45,Tryz.ntmps45
 go_wp2_with fail
 refine(HS.out.one (by decide)).mono ?_
 rintro e Wn ⟨rn,ln,rfl,hn,hon⟩;replace HS:=aK hn;clear hn;cases rn with
 | false=>
  go_wp2_with fail
  refine bodyPost_ret (results_tmp rfl _ _ _) rfl ?_;exact⟨false,_,_,rfl,HS.out,fun h=>by cases h⟩
 | true=>
  obtain⟨x,hx,hk⟩:=hon rfl;subst hx
  go_wp2_with fail
  refine HS.out.end_.mono ?_;rintro e Wn ⟨rfl,hn⟩;replace HS:=aK hn;clear hn
  by_cases hln:ln=[]
  ·subst hln
   have hNx:∃m',Nod d (p+1) m'∧x=((p+1:Nat):Int):=by
    have h:=HL.out;generalize p+1=q at h ⊢;cases h with
    | cons a b c=>exact⟨_,a,rfl⟩
   obtain⟨m',hN2,hxe⟩:=hNx;have hlt:=hN2.lt;have HKX:=aK (kidOf_any (W:=_) HS.out HC.out hcd hdl hN2 23);have hcast:((p+1:Nat):Int)=(p:Int)+1:=by omega
   rw[hcast]at HKX;have hz:decide (([]:List Int).length=0)=true:=rfl
   go_wp2_with (go_at_call 63;refine HKX.out.mono ?_;rintro e Wn ⟨rk,rfl,hn⟩;replace HS:=aK hn;clear hn)
   refine bodyPost_ret (results_tmp rfl _ _ _) rfl ?_;refine⟨_,_,_,rfl,HS.out,fun _=>⟨x,rfl,?_⟩⟩;have:PP 62 (kd d x)=(kd d x==27):=rfl;rw[this]at hk;exact beq_iff_eq.1 hk
  ·have hz:decide (ln.length=0)=false:=decide_eq_false (fun h=>hln (List.length_eq_zero_iff.1 h))
   rw[hz]
   go_wp2_with fail
   refine bodyPost_ret (results_tmp rfl _ _ _) rfl ?_;exact⟨false,_,_,rfl,HS.out,fun h=>by cases h⟩
end
end Go.Proofs.YtjolkdnfbmkjiaaGreatDoor.Wr
