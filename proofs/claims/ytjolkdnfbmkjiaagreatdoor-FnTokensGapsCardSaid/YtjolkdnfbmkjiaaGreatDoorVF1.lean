import Derived.Test.YtjolkdnfbmkjiaaGreatDoorVE1
import Derived.StillTailTactics
set_option maxRecDepth 100000
set_option maxHeartbeats 8000000
set_option linter.unusedVariables false
set_option linter.unusedSimpArgs false
namespace Go.Proofs.YtjolkdnfbmkjiaaGreatDoor.Wr
open Go.RowKit Mem Go.Proofs.YtjolkdnfbmkjiaaGreatDoorW.PrintWords PFnTokensGaps
def RS (w1 W:World) (g:Nat) (d:List S35) (l:List Int) (s:Int):Prop:=
 ∃A0 c0 A1 c1,l.length≤c1∧Blk W g 72 #[.slice A0 d.length c0,.slice A1 l.length c1,.int .i64 s]∧w1.heap.size≤g∧Kd.C k35 w1 A0 d.length d∧Kd.C (Kd.int .i64) w1 A1 l.length l
structure RT (w1 w W:World) (g:Nat) (d:List S35) (l:List Int) (s:Int):Prop where
 rs:RS w1 W g d l s
 bel:Below w1.heap.size w1 W
 keep:∀i,i<w.heap.size→i≠g→W.heap[i]?=w.heap[i]?
 size:w.heap.size≤W.heap.size
section
variable {w1 w W W':World} {g:Nat} {d:List S35} {l:List Int} {s:Int}
theorem RT.below (h:RT w1 w W g d l s) (k:Below W.heap.size W W'):RT w1 w W' g d l s:=by
 obtain⟨A0,c0,A1,c1,h1,h2,h3,h4,h5⟩:=h.rs;exact⟨⟨A0,c0,A1,c1,h1,h2.below k h2.lt,h3,h4,h5⟩,h.bel.trans (k.mono h.bel.size),fun i hi hg=>(k.block i (Nat.lt_of_lt_of_le hi h.size)).trans (h.keep i hi hg),Nat.le_trans h.size k.size⟩
theorem RT.drew (h:RT w1 w W g d l s):RT w1 w W.drew g d l s:=h.below (below_drew (Below.refl _ _))
theorem RT.start {s:Int} (h:RT w1 w W g d l s):RT w1 W W g d l s:=⟨h.rs,h.bel,fun _ _ _=>rfl,Nat.le_refl _⟩
theorem RT.join {w':World} {l':List Int} {s':Int} (h:RT w1 w W g d l s) (k:RT w1 W w' g d l' s'):RT w1 w w' g d l' s':=
 ⟨k.rs,k.bel,fun i hi hg=>(k.keep i (Nat.lt_of_lt_of_le hi h.size) hg).trans (h.keep i hi hg),Nat.le_trans h.size k.size⟩
theorem RT.blk {t:TypeId} {cs:Array Value} {x:Nat} (h:RT w1 w W g d l s) (hb:Blk w x t cs) (hx:x≠g):Blk W x t cs:=(h.keep x hb.lt hx).trans hb
theorem RT.setSome (h:RT w1 w W g d l s) (z:Int):RT w1 w (W.setCell ⟨g,2,none⟩ (.int .i64 z)) g d l z:=by
 obtain⟨A0,c0,A1,c1,h1,h2,h3,h4,h5⟩:=h.rs;exact⟨⟨A0,c0,A1,c1,h1,Blk.set_ h2 2 _,h3,h4,h5⟩,h.bel.setCell (p:=⟨g,2,none⟩) h3 _,fun i hi hg=>(Below.heap_setCell W ⟨g,2,none⟩ _ i hg).trans (h.keep i hi hg),by rw[World.setCell];simpa using h.size⟩
end
theorem RT.tail {w1 w W:World} {g:Nat} {d:List S35} {A0 A1:Option Addr} {c0 c1:Nat} {x:Int} {l:List Int} {s:Int} (h1:(x::l).length≤c1) (h2:Blk W g 72 #[.slice A0 d.length c0,.slice A1 (x::l).length c1,.int .i64 s]) (h3:w1.heap.size≤g) (h4:Kd.C k35 w1 A0 d.length d) (h5:Kd.C (Kd.int .i64) w1 A1 (x::l).length (x::l)) (hbel:Below w1.heap.size w1 W)
  (hkeep:∀i,i<w.heap.size→i≠g→W.heap[i]?=w.heap[i]?) (hsize:w.heap.size≤W.heap.size) :
  RT w1 w (W.setCell ⟨g,1,none⟩ (.slice (if c1=1 then A1 else A1.map (·.add 1)) l.length (c1-1))) g d l s:=by
 refine⟨⟨A0,c0,(if c1=1 then A1 else A1.map (·.add 1)),c1-1,?_,Blk.set_ h2 1 _,h3,h4,?_⟩,hbel.setCell (p:=⟨g,1,none⟩) h3 _,fun i hi hg=>(Below.heap_setCell W ⟨g,1,none⟩ _ i hg).trans (hkeep i hi hg),by rw[World.setCell];simpa using hsize⟩
 ·rw[List.length_cons]at h1;omega
 ·have h:=Kd.C_drop (m:=1) h5 (by simp) h1
  simpa[Kd.int,Kd.scalar]using h
theorem end_any {w1 w W:World} {g:Nat} {d:List S35} {l:List Int} {s:Int} (h:RT w1 w W g d l s) :
  Calls Tryz.prog 39 #[.pointer (some ⟨g,0,none⟩)] W fun e w'=>e = .returned (.bool (decide (l.length=0)))∧RT w1 w w' g d l s:=by
 obtain⟨A0,c0,A1,c1,h1,h2,h3,h4,h5⟩:=h.rs;have k1:W.cell? ⟨g,1,none⟩=some (.slice A1 l.length c1):=(h2.cell 1).trans rfl;have HT:=aK h;clear h h2 h4 h5;have e1:decide ((l.length:Int)=0)=decide (l.length=0):=decide_eq_decide.2 (by omega)
 have e2:((l.length:Int)==0)=decide (l.length=0):=by rw[←e1];rfl
 generalize decide (l.length=0)=z at e1 e2 ⊢;go_enter Tryz.func39,Tryz.ntmps39;go_wp2
 go_ret
 exact⟨by first|rfl|simp[*],by first|exact HT.out|exact HT.out.drew⟩
theorem most_any {w1 w W:World} {g:Nat} {d:List S35} {l:List Int} {s:Int} (h:RT w1 w W g d l s) :
  Calls Tryz.prog 43 #[.pointer (some ⟨g,0,none⟩)] W fun e w'=>e = .returned (.bool (decide (s≤1)))∧RT w1 w w' g d l s:=by
 obtain⟨A0,c0,A1,c1,h1,h2,h3,h4,h5⟩:=h.rs;have k1:W.cell? ⟨g,2,none⟩=some (.int .i64 s):=(h2.cell 2).trans rfl;have HT:=aK h;clear h h2 h4 h5;go_enter Tryz.func43,Tryz.ntmps43;go_wp2
 go_ret
 exact⟨by first|rfl|simp[*],by first|exact HT.out|exact HT.out.drew⟩
def isS (k:Int):Bool:=k==5
def isO (k:Int):Bool:=k==27
def isN (k:Int):Bool:=isT k&&k != 22
theorem isS_eq (a:Int) (b c e:ByteArray) (f h:Int):spec_isSelections.f a b c e f h=some (isS a):=rfl
theorem isO_eq (a:Int) (b c e:ByteArray) (f h:Int):spec_isObject.f a b c e f h=some (isO a):=rfl
theorem isN_eq (a:Int) (b c e:ByteArray) (f h:Int):spec_isNullable.f a b c e f h=some (isN a):=by
 unfold spec_isNullable.f isN;rw[isT_eq];cases isT a<;>rfl
theorem one_isType {w1 w W:World} {g:Nat} {d:List S35} {l:List Int} {s:Int} (h:RT w1 w W g d l s) (hd:∀x∈l,0≤x∧x<d.length) (hl:l.length≤400) :
  Calls Tryz.prog 40 #[.pointer (some ⟨g,0,none⟩),.func (.func 27) #[] #[]] W fun e w'=>∃r l',e = .returned (.bool r)∧RT w1 w w' g d l' s∧(r=false→l'=l)∧(r=true→∃x,l=x::l'∧isT (kd d x)=true):=by
 obtain⟨A0,c0,A1,c1,h1,h2,h3,h4,h5⟩:=h.rs;have k1:W.cell? ⟨g,1,none⟩=some (.slice A1 l.length c1):=(h2.cell 1).trans rfl;have k0:W.cell? ⟨g,0,none⟩=some (.slice A0 d.length c0):=(h2.cell 0).trans rfl;have HT:=aK h;cases l with
 | nil=>
  clear h h2 h4 h5;go_enter Tryz.func40,Tryz.ntmps40
  go_wp2_with fail
  go_region
  all_goals
   go_wp2_with fail
   refine bodyPost_ret (results_tmp rfl _ _ _) rfl ?_;exact⟨false,[],rfl,HT.out.drew,fun _=>rfl,fun h=>by cases h⟩
 | cons x l=>
  obtain⟨hx0,hxd⟩:=hd x (List.mem_cons_self ..);obtain⟨ad1,e1,hx1⟩:=Kd.at_int h5 0 (by omega) (by simp)
  cases e1;have hx1':W.cell? (ad1.add 0)=some (.int .i64 x):=by
   have:=(h.bel.cell (World.block_lt_of_cell? w1 _ hx1)).trans hx1
   simpa[rd]using this
  have hx1z:W.cell? ad1=some (.int .i64 x):=by
   have e:ad1.add 0=ad1:=by unfold Addr.add;split<;>simp_all
   rw[e]at hx1';exact hx1'
  have hz0:((l.length:Int)+1==0)=false:=beq_eq_false_iff_ne.2 (by omega)
  obtain⟨ad2,e2,y0,y1,y2,y3,y4,y5⟩:=at_T35 (Kd.C_below h4 h.bel) x hx0 hxd;cases e2;have hkx:kd d x=(rd_T35 d x).f0:=rfl;generalize rd_T35 d x=n at y0 y1 y2 y3 y4 y5 hkx;have HB:=aK h2;have H15:=aK (And.intro h1 (And.intro h3 (And.intro h4 h5)));have hll:l.length+1≤400:=hl;have HPX:=aK (isT_eq n.f0 n.f1 n.f2 n.f3 n.f4 n.f5);clear h h2 h3 h4 h5 hd hx1;cases hP:isT n.f0 with
  | false=>
   rw[hP]at HPX;clear hP hkx;go_enter Tryz.func40,Tryz.ntmps40
   go_wp2_with fail
   go_still_tail 20,(by kernel_rfl)
   change wpList _ _ _ _ _ W.drew
   go_wp2_with (go_at_call 27;refine(spec_isType.calls _ _ _ _ _ _ _ _ HPX.out).mono ?_;rintro e w5 ⟨rfl,hb5⟩;have HB5:=aK hb5;clear hb5)
   all_goals
    refine bodyPost_ret (results_tmp rfl _ _ _) rfl ?_;exact⟨false,x::l,rfl,HT.out.drew.below HB5.out,fun _=>rfl,fun h=>by cases h⟩
  | true=>
   rw[hP]at HPX;have HKX:=aK (show isT (kd d x)=true from by rw[hkx];exact hP)
   have hcc:l.length+1≤c1:=by have:=H15.out.1;simpa using this
   clear hP hkx
   by_cases hc1:c1=1
   ·subst hc1
    have HL0:=aK (show l.length=0 by omega)
    go_enter Tryz.func40,Tryz.ntmps40
    go_wp2_with fail
    go_still_tail 20,(by kernel_rfl)
    change wpList _ _ _ _ _ W.drew
    go_wp2_with (go_at_call 27;refine(spec_isType.calls _ _ _ _ _ _ _ _ HPX.out).mono ?_;rintro e w5 ⟨rfl,hb5⟩;have hb6:Below W.heap.size W w5:=(below_drew (Below.refl _ W)).trans hb5;have HT5:=aK (HT.out.below hb6);have HB6:=HB.out.below hb6 HB.out.lt;have kc1:w5.cell? ⟨g,1,none⟩=some (.slice (some ad1) (l.length+1) 1):=(HB6.cell 1).trans rfl;have kf1:=Blk.frozen HB6 1;have HTL:=aK (RT.tail (w:=w) H15.out.1 HB6 H15.out.2.1 H15.out.2.2.1 H15.out.2.2.2 HT5.out.bel HT5.out.keep HT5.out.size);clear hb5 hb6 HB6)
    all_goals
     refine bodyPost_ret (results_tmp rfl _ _ _) rfl ?_;exact⟨true,_,rfl,(by have q:=HTL.out;rw[HL0.out]at q;simpa using q),(fun h=>by cases h),fun _=>⟨x,rfl,HKX.out⟩⟩
   ·have hc2:(1:Int)<(c1:Int):=by omega
    go_enter Tryz.func40,Tryz.ntmps40
    go_wp2_with fail
    go_still_tail 20,(by kernel_rfl)
    change wpList _ _ _ _ _ W.drew
    go_wp2_with (go_at_call 27;refine(spec_isType.calls _ _ _ _ _ _ _ _ HPX.out).mono ?_;rintro e w5 ⟨rfl,hb5⟩;have hb6:Below W.heap.size W w5:=(below_drew (Below.refl _ W)).trans hb5;have HT5:=aK (HT.out.below hb6);have HB6:=HB.out.below hb6 HB.out.lt;have kc1:w5.cell? ⟨g,1,none⟩=some (.slice (some ad1) (l.length+1) c1):=(HB6.cell 1).trans rfl;have kf1:=Blk.frozen HB6 1;have HTL:=aK (RT.tail (w:=w) H15.out.1 HB6 H15.out.2.1 H15.out.2.2.1 H15.out.2.2.2 HT5.out.bel HT5.out.keep HT5.out.size);clear hb5 hb6 HB6)
    all_goals
     refine bodyPost_ret (results_tmp rfl _ _ _) rfl ?_;exact⟨true,_,rfl,(by have q:=HTL.out;rw[if_neg hc1]at q;have e:ad1.add 1=⟨ad1.block,ad1.off+1,none⟩:=(by unfold Addr.add;split<;>simp_all);simpa[e]using q),(fun h=>by cases h),fun _=>⟨x,rfl,HKX.out⟩⟩
theorem one_isValue {w1 w W:World} {g:Nat} {d:List S35} {l:List Int} {s:Int} (h:RT w1 w W g d l s) (hd:∀x∈l,0≤x∧x<d.length) (hl:l.length≤400) :
  Calls Tryz.prog 40 #[.pointer (some ⟨g,0,none⟩),.func (.func 28) #[] #[]] W fun e w'=>∃r l',e = .returned (.bool r)∧RT w1 w w' g d l' s∧(r=false→l'=l)∧(r=true→∃x,l=x::l'∧isV (kd d x)=true):=by
 obtain⟨A0,c0,A1,c1,h1,h2,h3,h4,h5⟩:=h.rs;have k1:W.cell? ⟨g,1,none⟩=some (.slice A1 l.length c1):=(h2.cell 1).trans rfl;have k0:W.cell? ⟨g,0,none⟩=some (.slice A0 d.length c0):=(h2.cell 0).trans rfl;have HT:=aK h;cases l with
 | nil=>
  clear h h2 h4 h5;go_enter Tryz.func40,Tryz.ntmps40
  go_wp2_with fail
  go_region
  all_goals
   go_wp2_with fail
   refine bodyPost_ret (results_tmp rfl _ _ _) rfl ?_;exact⟨false,[],rfl,HT.out.drew,fun _=>rfl,fun h=>by cases h⟩
 | cons x l=>
  obtain⟨hx0,hxd⟩:=hd x (List.mem_cons_self ..);obtain⟨ad1,e1,hx1⟩:=Kd.at_int h5 0 (by omega) (by simp)
  cases e1;have hx1':W.cell? (ad1.add 0)=some (.int .i64 x):=by
   have:=(h.bel.cell (World.block_lt_of_cell? w1 _ hx1)).trans hx1
   simpa[rd]using this
  have hx1z:W.cell? ad1=some (.int .i64 x):=by
   have e:ad1.add 0=ad1:=by unfold Addr.add;split<;>simp_all
   rw[e]at hx1';exact hx1'
  have hz0:((l.length:Int)+1==0)=false:=beq_eq_false_iff_ne.2 (by omega)
  obtain⟨ad2,e2,y0,y1,y2,y3,y4,y5⟩:=at_T35 (Kd.C_below h4 h.bel) x hx0 hxd;cases e2;have hkx:kd d x=(rd_T35 d x).f0:=rfl;generalize rd_T35 d x=n at y0 y1 y2 y3 y4 y5 hkx;have HB:=aK h2;have H15:=aK (And.intro h1 (And.intro h3 (And.intro h4 h5)));have hll:l.length+1≤400:=hl;have HPX:=aK (isV_eq n.f0 n.f1 n.f2 n.f3 n.f4 n.f5);clear h h2 h3 h4 h5 hd hx1;cases hP:isV n.f0 with
  | false=>
   rw[hP]at HPX;clear hP hkx;go_enter Tryz.func40,Tryz.ntmps40
   go_wp2_with fail
   go_still_tail 20,(by kernel_rfl)
   change wpList _ _ _ _ _ W.drew
   go_wp2_with (go_at_call 28;refine(spec_isValue.calls _ _ _ _ _ _ _ _ HPX.out).mono ?_;rintro e w5 ⟨rfl,hb5⟩;have HB5:=aK hb5;clear hb5)
   all_goals
    refine bodyPost_ret (results_tmp rfl _ _ _) rfl ?_;exact⟨false,x::l,rfl,HT.out.drew.below HB5.out,fun _=>rfl,fun h=>by cases h⟩
  | true=>
   rw[hP]at HPX;have HKX:=aK (show isV (kd d x)=true from by rw[hkx];exact hP)
   have hcc:l.length+1≤c1:=by have:=H15.out.1;simpa using this
   clear hP hkx
   by_cases hc1:c1=1
   ·subst hc1
    have HL0:=aK (show l.length=0 by omega)
    go_enter Tryz.func40,Tryz.ntmps40
    go_wp2_with fail
    go_still_tail 20,(by kernel_rfl)
    change wpList _ _ _ _ _ W.drew
    go_wp2_with (go_at_call 28;refine(spec_isValue.calls _ _ _ _ _ _ _ _ HPX.out).mono ?_;rintro e w5 ⟨rfl,hb5⟩;have hb6:Below W.heap.size W w5:=(below_drew (Below.refl _ W)).trans hb5;have HT5:=aK (HT.out.below hb6);have HB6:=HB.out.below hb6 HB.out.lt;have kc1:w5.cell? ⟨g,1,none⟩=some (.slice (some ad1) (l.length+1) 1):=(HB6.cell 1).trans rfl;have kf1:=Blk.frozen HB6 1;have HTL:=aK (RT.tail (w:=w) H15.out.1 HB6 H15.out.2.1 H15.out.2.2.1 H15.out.2.2.2 HT5.out.bel HT5.out.keep HT5.out.size);clear hb5 hb6 HB6)
    all_goals
     refine bodyPost_ret (results_tmp rfl _ _ _) rfl ?_;exact⟨true,_,rfl,(by have q:=HTL.out;rw[HL0.out]at q;simpa using q),(fun h=>by cases h),fun _=>⟨x,rfl,HKX.out⟩⟩
   ·have hc2:(1:Int)<(c1:Int):=by omega
    go_enter Tryz.func40,Tryz.ntmps40
    go_wp2_with fail
    go_still_tail 20,(by kernel_rfl)
    change wpList _ _ _ _ _ W.drew
    go_wp2_with (go_at_call 28;refine(spec_isValue.calls _ _ _ _ _ _ _ _ HPX.out).mono ?_;rintro e w5 ⟨rfl,hb5⟩;have hb6:Below W.heap.size W w5:=(below_drew (Below.refl _ W)).trans hb5;have HT5:=aK (HT.out.below hb6);have HB6:=HB.out.below hb6 HB.out.lt;have kc1:w5.cell? ⟨g,1,none⟩=some (.slice (some ad1) (l.length+1) c1):=(HB6.cell 1).trans rfl;have kf1:=Blk.frozen HB6 1;have HTL:=aK (RT.tail (w:=w) H15.out.1 HB6 H15.out.2.1 H15.out.2.2.1 H15.out.2.2.2 HT5.out.bel HT5.out.keep HT5.out.size);clear hb5 hb6 HB6)
    all_goals
     refine bodyPost_ret (results_tmp rfl _ _ _) rfl ?_;exact⟨true,_,rfl,(by have q:=HTL.out;rw[if_neg hc1]at q;have e:ad1.add 1=⟨ad1.block,ad1.off+1,none⟩:=(by unfold Addr.add;split<;>simp_all);simpa[e]using q),(fun h=>by cases h),fun _=>⟨x,rfl,HKX.out⟩⟩
theorem one_isSel {w1 w W:World} {g:Nat} {d:List S35} {l:List Int} {s:Int} (h:RT w1 w W g d l s) (hd:∀x∈l,0≤x∧x<d.length) (hl:l.length≤400) :
  Calls Tryz.prog 40 #[.pointer (some ⟨g,0,none⟩),.func (.func 41) #[] #[]] W fun e w'=>∃r l',e = .returned (.bool r)∧RT w1 w w' g d l' s∧(r=false→l'=l)∧(r=true→∃x,l=x::l'∧isS (kd d x)=true):=by
 obtain⟨A0,c0,A1,c1,h1,h2,h3,h4,h5⟩:=h.rs;have k1:W.cell? ⟨g,1,none⟩=some (.slice A1 l.length c1):=(h2.cell 1).trans rfl;have k0:W.cell? ⟨g,0,none⟩=some (.slice A0 d.length c0):=(h2.cell 0).trans rfl;have HT:=aK h;cases l with
 | nil=>
  clear h h2 h4 h5;go_enter Tryz.func40,Tryz.ntmps40
  go_wp2_with fail
  go_region
  all_goals
   go_wp2_with fail
   refine bodyPost_ret (results_tmp rfl _ _ _) rfl ?_;exact⟨false,[],rfl,HT.out.drew,fun _=>rfl,fun h=>by cases h⟩
 | cons x l=>
  obtain⟨hx0,hxd⟩:=hd x (List.mem_cons_self ..);obtain⟨ad1,e1,hx1⟩:=Kd.at_int h5 0 (by omega) (by simp)
  cases e1;have hx1':W.cell? (ad1.add 0)=some (.int .i64 x):=by
   have:=(h.bel.cell (World.block_lt_of_cell? w1 _ hx1)).trans hx1
   simpa[rd]using this
  have hx1z:W.cell? ad1=some (.int .i64 x):=by
   have e:ad1.add 0=ad1:=by unfold Addr.add;split<;>simp_all
   rw[e]at hx1';exact hx1'
  have hz0:((l.length:Int)+1==0)=false:=beq_eq_false_iff_ne.2 (by omega)
  obtain⟨ad2,e2,y0,y1,y2,y3,y4,y5⟩:=at_T35 (Kd.C_below h4 h.bel) x hx0 hxd;cases e2;have hkx:kd d x=(rd_T35 d x).f0:=rfl;generalize rd_T35 d x=n at y0 y1 y2 y3 y4 y5 hkx;have HB:=aK h2;have H15:=aK (And.intro h1 (And.intro h3 (And.intro h4 h5)));have hll:l.length+1≤400:=hl;have HPX:=aK (isS_eq n.f0 n.f1 n.f2 n.f3 n.f4 n.f5);clear h h2 h3 h4 h5 hd hx1;cases hP:isS n.f0 with
  | false=>
   rw[hP]at HPX;clear hP hkx;go_enter Tryz.func40,Tryz.ntmps40
   go_wp2_with fail
   go_still_tail 20,(by kernel_rfl)
   change wpList _ _ _ _ _ W.drew
   go_wp2_with (go_at_call 41;refine(spec_isSelections.calls _ _ _ _ _ _ _ _ HPX.out).mono ?_;rintro e w5 ⟨rfl,hb5⟩;have HB5:=aK hb5;clear hb5)
   all_goals
    refine bodyPost_ret (results_tmp rfl _ _ _) rfl ?_;exact⟨false,x::l,rfl,HT.out.drew.below HB5.out,fun _=>rfl,fun h=>by cases h⟩
  | true=>
   rw[hP]at HPX;have HKX:=aK (show isS (kd d x)=true from by rw[hkx];exact hP)
   have hcc:l.length+1≤c1:=by have:=H15.out.1;simpa using this
   clear hP hkx
   by_cases hc1:c1=1
   ·subst hc1
    have HL0:=aK (show l.length=0 by omega)
    go_enter Tryz.func40,Tryz.ntmps40
    go_wp2_with fail
    go_still_tail 20,(by kernel_rfl)
    change wpList _ _ _ _ _ W.drew
    go_wp2_with (go_at_call 41;refine(spec_isSelections.calls _ _ _ _ _ _ _ _ HPX.out).mono ?_;rintro e w5 ⟨rfl,hb5⟩;have hb6:Below W.heap.size W w5:=(below_drew (Below.refl _ W)).trans hb5;have HT5:=aK (HT.out.below hb6);have HB6:=HB.out.below hb6 HB.out.lt;have kc1:w5.cell? ⟨g,1,none⟩=some (.slice (some ad1) (l.length+1) 1):=(HB6.cell 1).trans rfl;have kf1:=Blk.frozen HB6 1;have HTL:=aK (RT.tail (w:=w) H15.out.1 HB6 H15.out.2.1 H15.out.2.2.1 H15.out.2.2.2 HT5.out.bel HT5.out.keep HT5.out.size);clear hb5 hb6 HB6)
    all_goals
     refine bodyPost_ret (results_tmp rfl _ _ _) rfl ?_;exact⟨true,_,rfl,(by have q:=HTL.out;rw[HL0.out]at q;simpa using q),(fun h=>by cases h),fun _=>⟨x,rfl,HKX.out⟩⟩
   ·have hc2:(1:Int)<(c1:Int):=by omega
    go_enter Tryz.func40,Tryz.ntmps40
    go_wp2_with fail
    go_still_tail 20,(by kernel_rfl)
    change wpList _ _ _ _ _ W.drew
    go_wp2_with (go_at_call 41;refine(spec_isSelections.calls _ _ _ _ _ _ _ _ HPX.out).mono ?_;rintro e w5 ⟨rfl,hb5⟩;have hb6:Below W.heap.size W w5:=(below_drew (Below.refl _ W)).trans hb5;have HT5:=aK (HT.out.below hb6);have HB6:=HB.out.below hb6 HB.out.lt;have kc1:w5.cell? ⟨g,1,none⟩=some (.slice (some ad1) (l.length+1) c1):=(HB6.cell 1).trans rfl;have kf1:=Blk.frozen HB6 1;have HTL:=aK (RT.tail (w:=w) H15.out.1 HB6 H15.out.2.1 H15.out.2.2.1 H15.out.2.2.2 HT5.out.bel HT5.out.keep HT5.out.size);clear hb5 hb6 HB6)
    all_goals
     refine bodyPost_ret (results_tmp rfl _ _ _) rfl ?_;exact⟨true,_,rfl,(by have q:=HTL.out;rw[if_neg hc1]at q;have e:ad1.add 1=⟨ad1.block,ad1.off+1,none⟩:=(by unfold Addr.add;split<;>simp_all);simpa[e]using q),(fun h=>by cases h),fun _=>⟨x,rfl,HKX.out⟩⟩
theorem one_isNul {w1 w W:World} {g:Nat} {d:List S35} {l:List Int} {s:Int} (h:RT w1 w W g d l s) (hd:∀x∈l,0≤x∧x<d.length) (hl:l.length≤400) :
  Calls Tryz.prog 40 #[.pointer (some ⟨g,0,none⟩),.func (.func 44) #[] #[]] W fun e w'=>∃r l',e = .returned (.bool r)∧RT w1 w w' g d l' s∧(r=false→l'=l)∧(r=true→∃x,l=x::l'∧isN (kd d x)=true):=by
 obtain⟨A0,c0,A1,c1,h1,h2,h3,h4,h5⟩:=h.rs;have k1:W.cell? ⟨g,1,none⟩=some (.slice A1 l.length c1):=(h2.cell 1).trans rfl;have k0:W.cell? ⟨g,0,none⟩=some (.slice A0 d.length c0):=(h2.cell 0).trans rfl;have HT:=aK h;cases l with
 | nil=>
  clear h h2 h4 h5;go_enter Tryz.func40,Tryz.ntmps40
  go_wp2_with fail
  go_region
  all_goals
   go_wp2_with fail
   refine bodyPost_ret (results_tmp rfl _ _ _) rfl ?_;exact⟨false,[],rfl,HT.out.drew,fun _=>rfl,fun h=>by cases h⟩
 | cons x l=>
  obtain⟨hx0,hxd⟩:=hd x (List.mem_cons_self ..);obtain⟨ad1,e1,hx1⟩:=Kd.at_int h5 0 (by omega) (by simp)
  cases e1;have hx1':W.cell? (ad1.add 0)=some (.int .i64 x):=by
   have:=(h.bel.cell (World.block_lt_of_cell? w1 _ hx1)).trans hx1
   simpa[rd]using this
  have hx1z:W.cell? ad1=some (.int .i64 x):=by
   have e:ad1.add 0=ad1:=by unfold Addr.add;split<;>simp_all
   rw[e]at hx1';exact hx1'
  have hz0:((l.length:Int)+1==0)=false:=beq_eq_false_iff_ne.2 (by omega)
  obtain⟨ad2,e2,y0,y1,y2,y3,y4,y5⟩:=at_T35 (Kd.C_below h4 h.bel) x hx0 hxd;cases e2;have hkx:kd d x=(rd_T35 d x).f0:=rfl;generalize rd_T35 d x=n at y0 y1 y2 y3 y4 y5 hkx;have HB:=aK h2;have H15:=aK (And.intro h1 (And.intro h3 (And.intro h4 h5)));have hll:l.length+1≤400:=hl;have HPX:=aK (isN_eq n.f0 n.f1 n.f2 n.f3 n.f4 n.f5);clear h h2 h3 h4 h5 hd hx1;cases hP:isN n.f0 with
  | false=>
   rw[hP]at HPX;clear hP hkx;go_enter Tryz.func40,Tryz.ntmps40
   go_wp2_with fail
   go_still_tail 20,(by kernel_rfl)
   change wpList _ _ _ _ _ W.drew
   go_wp2_with (go_at_call 44;refine(spec_isNullable.calls _ _ _ _ _ _ _ _ HPX.out).mono ?_;rintro e w5 ⟨rfl,hb5⟩;have HB5:=aK hb5;clear hb5)
   all_goals
    refine bodyPost_ret (results_tmp rfl _ _ _) rfl ?_;exact⟨false,x::l,rfl,HT.out.drew.below HB5.out,fun _=>rfl,fun h=>by cases h⟩
  | true=>
   rw[hP]at HPX;have HKX:=aK (show isN (kd d x)=true from by rw[hkx];exact hP)
   have hcc:l.length+1≤c1:=by have:=H15.out.1;simpa using this
   clear hP hkx
   by_cases hc1:c1=1
   ·subst hc1
    have HL0:=aK (show l.length=0 by omega)
    go_enter Tryz.func40,Tryz.ntmps40
    go_wp2_with fail
    go_still_tail 20,(by kernel_rfl)
    change wpList _ _ _ _ _ W.drew
    go_wp2_with (go_at_call 44;refine(spec_isNullable.calls _ _ _ _ _ _ _ _ HPX.out).mono ?_;rintro e w5 ⟨rfl,hb5⟩;have hb6:Below W.heap.size W w5:=(below_drew (Below.refl _ W)).trans hb5;have HT5:=aK (HT.out.below hb6);have HB6:=HB.out.below hb6 HB.out.lt;have kc1:w5.cell? ⟨g,1,none⟩=some (.slice (some ad1) (l.length+1) 1):=(HB6.cell 1).trans rfl;have kf1:=Blk.frozen HB6 1;have HTL:=aK (RT.tail (w:=w) H15.out.1 HB6 H15.out.2.1 H15.out.2.2.1 H15.out.2.2.2 HT5.out.bel HT5.out.keep HT5.out.size);clear hb5 hb6 HB6)
    all_goals
     refine bodyPost_ret (results_tmp rfl _ _ _) rfl ?_;exact⟨true,_,rfl,(by have q:=HTL.out;rw[HL0.out]at q;simpa using q),(fun h=>by cases h),fun _=>⟨x,rfl,HKX.out⟩⟩
   ·have hc2:(1:Int)<(c1:Int):=by omega
    go_enter Tryz.func40,Tryz.ntmps40
    go_wp2_with fail
    go_still_tail 20,(by kernel_rfl)
    change wpList _ _ _ _ _ W.drew
    go_wp2_with (go_at_call 44;refine(spec_isNullable.calls _ _ _ _ _ _ _ _ HPX.out).mono ?_;rintro e w5 ⟨rfl,hb5⟩;have hb6:Below W.heap.size W w5:=(below_drew (Below.refl _ W)).trans hb5;have HT5:=aK (HT.out.below hb6);have HB6:=HB.out.below hb6 HB.out.lt;have kc1:w5.cell? ⟨g,1,none⟩=some (.slice (some ad1) (l.length+1) c1):=(HB6.cell 1).trans rfl;have kf1:=Blk.frozen HB6 1;have HTL:=aK (RT.tail (w:=w) H15.out.1 HB6 H15.out.2.1 H15.out.2.2.1 H15.out.2.2.2 HT5.out.bel HT5.out.keep HT5.out.size);clear hb5 hb6 HB6)
    all_goals
     refine bodyPost_ret (results_tmp rfl _ _ _) rfl ?_;exact⟨true,_,rfl,(by have q:=HTL.out;rw[if_neg hc1]at q;have e:ad1.add 1=⟨ad1.block,ad1.off+1,none⟩:=(by unfold Addr.add;split<;>simp_all);simpa[e]using q),(fun h=>by cases h),fun _=>⟨x,rfl,HKX.out⟩⟩
theorem one_isObj {w1 w W:World} {g:Nat} {d:List S35} {l:List Int} {s:Int} (h:RT w1 w W g d l s) (hd:∀x∈l,0≤x∧x<d.length) (hl:l.length≤400) :
  Calls Tryz.prog 40 #[.pointer (some ⟨g,0,none⟩),.func (.func 62) #[] #[]] W fun e w'=>∃r l',e = .returned (.bool r)∧RT w1 w w' g d l' s∧(r=false→l'=l)∧(r=true→∃x,l=x::l'∧isO (kd d x)=true):=by
 obtain⟨A0,c0,A1,c1,h1,h2,h3,h4,h5⟩:=h.rs;have k1:W.cell? ⟨g,1,none⟩=some (.slice A1 l.length c1):=(h2.cell 1).trans rfl;have k0:W.cell? ⟨g,0,none⟩=some (.slice A0 d.length c0):=(h2.cell 0).trans rfl;have HT:=aK h;cases l with
 | nil=>
  clear h h2 h4 h5;go_enter Tryz.func40,Tryz.ntmps40
  go_wp2_with fail
  go_region
  all_goals
   go_wp2_with fail
   refine bodyPost_ret (results_tmp rfl _ _ _) rfl ?_;exact⟨false,[],rfl,HT.out.drew,fun _=>rfl,fun h=>by cases h⟩
 | cons x l=>
  obtain⟨hx0,hxd⟩:=hd x (List.mem_cons_self ..);obtain⟨ad1,e1,hx1⟩:=Kd.at_int h5 0 (by omega) (by simp)
  cases e1;have hx1':W.cell? (ad1.add 0)=some (.int .i64 x):=by
   have:=(h.bel.cell (World.block_lt_of_cell? w1 _ hx1)).trans hx1
   simpa[rd]using this
  have hx1z:W.cell? ad1=some (.int .i64 x):=by
   have e:ad1.add 0=ad1:=by unfold Addr.add;split<;>simp_all
   rw[e]at hx1';exact hx1'
  have hz0:((l.length:Int)+1==0)=false:=beq_eq_false_iff_ne.2 (by omega)
  obtain⟨ad2,e2,y0,y1,y2,y3,y4,y5⟩:=at_T35 (Kd.C_below h4 h.bel) x hx0 hxd;cases e2;have hkx:kd d x=(rd_T35 d x).f0:=rfl;generalize rd_T35 d x=n at y0 y1 y2 y3 y4 y5 hkx;have HB:=aK h2;have H15:=aK (And.intro h1 (And.intro h3 (And.intro h4 h5)));have hll:l.length+1≤400:=hl;have HPX:=aK (isO_eq n.f0 n.f1 n.f2 n.f3 n.f4 n.f5);clear h h2 h3 h4 h5 hd hx1;cases hP:isO n.f0 with
  | false=>
   rw[hP]at HPX;clear hP hkx;go_enter Tryz.func40,Tryz.ntmps40
   go_wp2_with fail
   go_still_tail 20,(by kernel_rfl)
   change wpList _ _ _ _ _ W.drew
   go_wp2_with (go_at_call 62;refine(spec_isObject.calls _ _ _ _ _ _ _ _ HPX.out).mono ?_;rintro e w5 ⟨rfl,hb5⟩;have HB5:=aK hb5;clear hb5)
   all_goals
    refine bodyPost_ret (results_tmp rfl _ _ _) rfl ?_;exact⟨false,x::l,rfl,HT.out.drew.below HB5.out,fun _=>rfl,fun h=>by cases h⟩
  | true=>
   rw[hP]at HPX;have HKX:=aK (show isO (kd d x)=true from by rw[hkx];exact hP)
   have hcc:l.length+1≤c1:=by have:=H15.out.1;simpa using this
   clear hP hkx
   by_cases hc1:c1=1
   ·subst hc1
    have HL0:=aK (show l.length=0 by omega)
    go_enter Tryz.func40,Tryz.ntmps40
    go_wp2_with fail
    go_still_tail 20,(by kernel_rfl)
    change wpList _ _ _ _ _ W.drew
    go_wp2_with (go_at_call 62;refine(spec_isObject.calls _ _ _ _ _ _ _ _ HPX.out).mono ?_;rintro e w5 ⟨rfl,hb5⟩;have hb6:Below W.heap.size W w5:=(below_drew (Below.refl _ W)).trans hb5;have HT5:=aK (HT.out.below hb6);have HB6:=HB.out.below hb6 HB.out.lt;have kc1:w5.cell? ⟨g,1,none⟩=some (.slice (some ad1) (l.length+1) 1):=(HB6.cell 1).trans rfl;have kf1:=Blk.frozen HB6 1;have HTL:=aK (RT.tail (w:=w) H15.out.1 HB6 H15.out.2.1 H15.out.2.2.1 H15.out.2.2.2 HT5.out.bel HT5.out.keep HT5.out.size);clear hb5 hb6 HB6)
    all_goals
     refine bodyPost_ret (results_tmp rfl _ _ _) rfl ?_;exact⟨true,_,rfl,(by have q:=HTL.out;rw[HL0.out]at q;simpa using q),(fun h=>by cases h),fun _=>⟨x,rfl,HKX.out⟩⟩
   ·have hc2:(1:Int)<(c1:Int):=by omega
    go_enter Tryz.func40,Tryz.ntmps40
    go_wp2_with fail
    go_still_tail 20,(by kernel_rfl)
    change wpList _ _ _ _ _ W.drew
    go_wp2_with (go_at_call 62;refine(spec_isObject.calls _ _ _ _ _ _ _ _ HPX.out).mono ?_;rintro e w5 ⟨rfl,hb5⟩;have hb6:Below W.heap.size W w5:=(below_drew (Below.refl _ W)).trans hb5;have HT5:=aK (HT.out.below hb6);have HB6:=HB.out.below hb6 HB.out.lt;have kc1:w5.cell? ⟨g,1,none⟩=some (.slice (some ad1) (l.length+1) c1):=(HB6.cell 1).trans rfl;have kf1:=Blk.frozen HB6 1;have HTL:=aK (RT.tail (w:=w) H15.out.1 HB6 H15.out.2.1 H15.out.2.2.1 H15.out.2.2.2 HT5.out.bel HT5.out.keep HT5.out.size);clear hb5 hb6 HB6)
    all_goals
     refine bodyPost_ret (results_tmp rfl _ _ _) rfl ?_;exact⟨true,_,rfl,(by have q:=HTL.out;rw[if_neg hc1]at q;have e:ad1.add 1=⟨ad1.block,ad1.off+1,none⟩:=(by unfold Addr.add;split<;>simp_all);simpa[e]using q),(fun h=>by cases h),fun _=>⟨x,rfl,HKX.out⟩⟩
end Go.Proofs.YtjolkdnfbmkjiaaGreatDoor.Wr
