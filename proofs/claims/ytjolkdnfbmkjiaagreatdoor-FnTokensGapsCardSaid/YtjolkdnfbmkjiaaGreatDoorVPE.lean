import Derived.Test.YtjolkdnfbmkjiaaGreatDoorProg
import Derived.Below
import Derived.Deep.Draws
import Derived.Deep.AppendLies
import Derived.Maps.AppendAt
import Derived.OwnWalk
import Derived.Laws.BytesArg
import Derived.Laws.MakeOwn
import Derived.Laws.OwnMore
import Derived.Deep.OwnRows
import Derived.Tactics
import Derived.Lib.ConvBytes
import Derived.Laws.Slices
import Derived.WalkKit
import Derived.KernelRfl
import Derived.RowKit3
import Derived.Deep.LoopGhost
import Derived.Deep.QuietTactic
import Derived.BigQuiet
import Derived.WideLaws
import Derived.Deep.DeepCutAuto
import Derived.Deep.CutBlock
import Derived.Deep.RegionHeld3
import Derived.Laws.Rows
import Derived.Lib.AppendStr
import Derived.ArgAppend
import Derived.Laws.IdiomCopy
import Derived.OrdersHeld
import Derived.Laws.BitsLemmas
import Derived.RowKit
import Derived.Test.YtjolkdnfbmkjiaaGreatDoorVW1
import Derived.Test.YtjolkdnfbmkjiaaGreatDoorVW2
set_option maxRecDepth 100000
set_option maxHeartbeats 8000000
set_option linter.unusedVariables false
set_option linter.unusedSimpArgs false
namespace Go.Proofs.YtjolkdnfbmkjiaaGreatDoor.PzzLineEnds
open Go.RowKit Go.Proofs.YtjolkdnfbmkjiaaGreatDoorW.PrintWords Go.Proofs.YtjolkdnfbmkjiaaGreatDoorW.PrintLast Go.Proofs.YtjolkdnfbmkjiaaGreatDoorW.PrintMore
attribute [local go_sem] max2_int min2_int max_two min_two max_three min_three max_four min_four
def errW:Option Int→Value
 | none=>.nilIface
 | some c=>.iface 0 (.int .i64 c)
theorem errW_none:errW none = .nilIface:=rfl
theorem errW_some (c:Int):errW (some c) = .iface 0 (.int .i64 c):=rfl
theorem info62:(Tryz.prog.info? 62).map (fun i=>(i.zero,i.size,i.bytes))=some (some (.slice none 0 0),1,24):=by kernel_rfl
end Go.Proofs.YtjolkdnfbmkjiaaGreatDoor.PzzLineEnds
namespace Go.Proofs.YtjolkdnfbmkjiaaGreatDoor.PzzLineEnds
open Go.RowKit Go.Proofs.YtjolkdnfbmkjiaaGreatDoorW.PrintWords Go.Proofs.YtjolkdnfbmkjiaaGreatDoorW.PrintLast Go.Proofs.YtjolkdnfbmkjiaaGreatDoorW.PrintMore
attribute [local go_sem] max2_int min2_int max_two min_two max_three min_three max_four min_four
mutual
def location_zzLineEnds.l0:Nat→List Int→List (List Int)→Int→Option ((List (List Int)))
 | 0,_,_,_=>none
 | k+1,x0,x3,x4=>if x4<(x0.length:Int)then(if 0≤x4 then(if (rd x0 x4)=13 then(if (wrap64 (x4+1))<(x0.length:Int)then(if 0≤(wrap64 (x4+1))then(location_zzLineEnds.j1 k x0 x3 x4 ((rd x0 (wrap64 (x4+1)))==10))else(none))else(location_zzLineEnds.j1 k x0 x3 x4 false))else(location_zzLineEnds.j1 k x0 x3 x4 false))else(none))else(some x3)
def location_zzLineEnds.j1:Nat→List Int→List (List Int)→Int→Bool→Option ((List (List Int)))
 | 0,_,_,_,_=>none
 | k+1,x0,x3,x4,x11=>if x11=true then(if x3.length<5864062014805 then(location_zzLineEnds.l0 k x0 (x3++[(([x4,wrap64 (x4+2)]:List Int))]) (wrap64 ((wrap64 (x4+1))+1)))else(none))else(if 0≤x4 then(if x4<(x0.length:Int)then(if (rd x0 x4)=13 then(if x3.length<5864062014805 then(location_zzLineEnds.l0 k x0 (x3++[(([x4,wrap64 (x4+1)]:List Int))]) (wrap64 (x4+1)))else(none))else(if (rd x0 x4)=10 then(if x3.length<5864062014805 then(location_zzLineEnds.l0 k x0 (x3++[(([x4,wrap64 (x4+1)]:List Int))]) (wrap64 (x4+1)))else(none))else(location_zzLineEnds.l0 k x0 x3 (wrap64 (x4+1)))))else(none))else(none))
end
def location_zzLineEnds.f (k:Nat) (l0:List Int):Option ((List (List Int))):=location_zzLineEnds.l0 k l0 ([]:List (List Int)) 0
theorem location_zzLineEnds.calls (k:Nat) (A0:Option Addr) (c0:Nat) (l0:List Int) (r:List (List Int)) (w:World) (hr0:Kd.C (Kd.int .u8) w A0 l0.length l0) (hc0:l0.length≤c0) (h:location_zzLineEnds.f k l0=some r) :
  Calls Tryz.prog 108 #[.slice A0 l0.length c0] w fun e w'=>∃v0_:Value,e = .returned (v0_)∧Kd.S (Kd.slice 3 (Kd.int .i64)) 62 w' w.heap.size (fun _=>True) v0_ r∧Below w.heap.size w w':=by
 have HR0:=aK hr0;have HC0:=aK hc0;clear hr0 hc0;have HB:=aK (Below.refl w.heap.size w);have H:(location_zzLineEnds.l0 k l0 ([]:List (List Int)) 0)=some r:=h;clear h;have H':=aK H;clear H;go_enter Tryz.func108,Tryz.ntmps108;go_wp2
 go_loopg [3,4] k (fun kq v3 v4 w'=>∃(x3_1:List (List Int)) (x4_1:Int),v4 = .int .i64 x4_1∧Aside0 (location_zzLineEnds.l0 kq l0 x3_1 x4_1=some r)∧Aside0 (kq≤k)∧Aside0 (Kd.S (Kd.slice 3 (Kd.int .i64)) 62 w' w.heap.size (fun _=>True) v3 x3_1)∧Aside0 (Below w.heap.size w w'))
 case atStart=>exact⟨(([]:List (List Int))),(0),vR,H',⟨Nat.le_refl _⟩,⟨by first|exact Kd.S_nil _ _ _ _ _|exact Kd.N_nil _ _ _ _ _|exact Kd.V_nil _ _ _ _ _|exact Kd.Q_nil _ _ _ _ _|exact Kd.R_nil _ _ _ _ _⟩,⟨vB⟩⟩
 case round=>
  clear H'
  try clear c1
  obtain⟨x3_1,x4_1,rfl,HA,HK1,HO_3,HB⟩:=hrel;cases gk with
  | zero=>exact absurd HA.out (by simp[location_zzLineEnds.l0])
  | succ k1=>
   have H:=HA.out;clear HA;simp only[location_zzLineEnds.l0]at H
   by_cases c2:x4_1<(l0.length:Int)
   ·rw[if_pos c2]at H
    have c2b0:decide (x4_1<(l0.length:Int))=true:=decide_eq_true c2;clear c2;have HC3:=aK H;clear H
    go_upto_region 5 with(fail)
    go_cut [11] (fun v11 wc=>∃(kq:Nat) (x11_2:Bool),v11 = .bool x11_2∧Aside0 (location_zzLineEnds.j1 kq l0 x3_1 x4_1 x11_2=some r)∧Aside0 (kq≤k1)∧Aside0 (Kd.S (Kd.slice 3 (Kd.int .i64)) 62 wc w.heap.size (fun _=>True) u3 x3_1)∧Aside0 (Below w.heap.size w wc))
    case first=>
     have H:=HC3.out;clear HC3
     by_cases c4:0≤x4_1
     ·rw[if_pos c4]at H
      have c4b0:decide (0≤x4_1)=true:=decide_eq_true c4;clear c4
      (first|rw[c4b0]|(simp only[i64_w,i32_w];rw[c4b0])|skip)
      by_cases c5:(rd l0 x4_1)=13
      ·rw[if_pos c5]at H
       have c5b0:((rd l0 x4_1)==13)=true:=beq_iff_eq.mpr c5;have c5b1:((rd l0 x4_1) != 13)=false:=bne_eq_false_iff_eq.mpr c5;clear c5
       by_cases c6:(wrap64 (x4_1+1))<(l0.length:Int)
       ·rw[if_pos c6]at H
        have c6b0:decide ((wrap64 (x4_1+1))<(l0.length:Int))=true:=decide_eq_true c6;clear c6;obtain⟨ji7,hji7⟩:∃j_:Int,(wrap64 (x4_1+1))=j_:=⟨_,rfl⟩;replace H:(if 0≤(ji7)then(location_zzLineEnds.j1 k1 l0 x3_1 x4_1 ((rd l0 (ji7))==10))else(none))=some r:=by first|(rw[hji7]at H;exact H)|(simp only[hji7]at H ⊢;exact H)
        (try rw[hji7]at c6b0)
        have hji7w:(IntKind.i64.wrap (x4_1+1))=ji7:=(i64_w _).trans hji7
        by_cases c8:0≤(ji7)
        ·rw[if_pos c8]at H
         have c8b0:decide (0≤(ji7))=true:=decide_eq_true c8;clear c8;have H':=aK H;clear H;have p101:0≤(x4_1:Int):=of_decide_eq_true vA;have q101:x4_1<(l0.length:Int):=of_decide_eq_true vA;obtain⟨ad101,e101,hx101_0⟩:=Kd.at_int HR0.out x4_1 p101 q101;cases e101;replace hx101_0:=(HB.out.cell (World.block_lt_of_cell? w _ hx101_0)).trans hx101_0;replace p101:=eq_true p101;replace q101:=eq_true q101;have p102:0≤((ji7):Int):=of_decide_eq_true vA;have q102:(ji7)<(l0.length:Int):=of_decide_eq_true vA;obtain⟨ad102,e102,hx102_0⟩:=Kd.at_int HR0.out (ji7) p102 q102;obtain rfl:ad101=ad102:=(by injection e102)
         replace hx102_0:=(HB.out.cell (World.block_lt_of_cell? w _ hx102_0)).trans hx102_0;replace p102:=eq_true p102;replace q102:=eq_true q102;go_wp2
         go_meet
         case rel=>exact⟨_,(((rd l0 (ji7))==10)),(by first|rfl|(simp;done)|(simp only[←hji7]<;>(first|rfl|simp))|(simp[*];done)),H',⟨by have:=HK1.out;first|omega|exact Nat.le_refl _⟩,⟨by(with_reducible repeat (first|apply Kd.S_alloc|apply Kd.S_drewN|apply Kd.S_drew));exact HO_3.out⟩,⟨vB⟩⟩
        ·rw[if_neg c8]at H
         exact absurd H (by simp)
       ·rw[if_neg c6]at H
        have c6b0:decide ((wrap64 (x4_1+1))<(l0.length:Int))=false:=decide_eq_false c6;clear c6;have H':=aK H;clear H;have p101:0≤(x4_1:Int):=of_decide_eq_true vA;have q101:x4_1<(l0.length:Int):=of_decide_eq_true vA;obtain⟨ad101,e101,hx101_0⟩:=Kd.at_int HR0.out x4_1 p101 q101;cases e101;replace hx101_0:=(HB.out.cell (World.block_lt_of_cell? w _ hx101_0)).trans hx101_0;replace p101:=eq_true p101;replace q101:=eq_true q101;go_wp2
        go_meet
        case rel=>exact⟨_,(false),vR,H',⟨by have:=HK1.out;first|omega|exact Nat.le_refl _⟩,⟨by(with_reducible repeat (first|apply Kd.S_alloc|apply Kd.S_drewN|apply Kd.S_drew));exact HO_3.out⟩,⟨vB⟩⟩
      ·rw[if_neg c5]at H
       have c5b0:((rd l0 x4_1)==13)=false:=beq_eq_false_iff_ne.mpr c5;have c5b1:((rd l0 x4_1) != 13)=true:=bne_iff_ne.mpr c5;have H':=aK H;clear H;have p101:0≤(x4_1:Int):=of_decide_eq_true vA;have q101:x4_1<(l0.length:Int):=of_decide_eq_true vA;obtain⟨ad101,e101,hx101_0⟩:=Kd.at_int HR0.out x4_1 p101 q101;cases e101;replace hx101_0:=(HB.out.cell (World.block_lt_of_cell? w _ hx101_0)).trans hx101_0;replace p101:=eq_true p101;replace q101:=eq_true q101;go_wp2
       go_meet
       case rel=>exact⟨_,(false),vR,H',⟨by have:=HK1.out;first|omega|exact Nat.le_refl _⟩,⟨by(with_reducible repeat (first|apply Kd.S_alloc|apply Kd.S_drewN|apply Kd.S_drew));exact HO_3.out⟩,⟨vB⟩⟩
     ·rw[if_neg c4]at H
      exact absurd H (by simp)
    case rest=>
     clear HC3
     (try clear c1);(try clear p1);(try clear q1);(try clear hx1);(try clear c2);(try clear c2b0);(try clear p2);(try clear c4);(try clear c4b0);(try clear c5);(try clear c5b0);(try clear c5b1);(try clear c6);(try clear c6b0);(try clear p6);(try clear c8);(try clear c8b0);(try clear hx101_0);(try clear hx102_0);(try clear p101);(try clear p102);(try clear q101);(try clear q102)
     obtain⟨kq,x11_2,rfl,HA,HJ2,HO_3,HB⟩:=hcut;cases kq with
     | zero=>exact absurd HA.out (by simp[location_zzLineEnds.j1])
     | succ kj2=>
      have H:=HA.out;clear HA;simp only[location_zzLineEnds.j1]at H
      by_cases c9:x11_2=true
      ·subst c9
       have H1:(if x3_1.length<5864062014805 then(location_zzLineEnds.l0 kj2 l0 (x3_1++[(([x4_1,wrap64 (x4_1+2)]:List Int))]) (wrap64 ((wrap64 (x4_1+1))+1)))else(none))=some r:=by rw[if_pos rfl]at H;exact H
       clear H;have H:=H1;clear H1;obtain⟨y103,hy103⟩:∃y_:List Int,y_=(([x4_1,wrap64 (x4_1+2)]:List Int)):=⟨_,rfl⟩;replace H:(if x3_1.length<5864062014805 then(location_zzLineEnds.l0 kj2 l0 (x3_1++[y103]) (wrap64 ((wrap64 (x4_1+1))+1)))else(none))=some r:=by first|(rw[hy103];with_reducible exact H)|(have H2_:=(Option.bind_some _ _).symm.trans H;rw[hy103];with_reducible exact H2_)|(have H2_:=(Option.bind_some _ _).symm.trans H;with_reducible exact H2_)|with_reducible exact H|(rw[hy103];exact H)|exact H
       have Ny103:=aK hy103;clear hy103
       by_cases c10:x3_1.length<5864062014805
       ·rw[if_pos c10]at H
        have LMc10:=aK c10;clear c10;obtain⟨y106,hy106⟩:∃y_:List (List Int),y_=(x3_1++[y103]):=⟨_,rfl⟩;replace H:(location_zzLineEnds.l0 kj2 l0 y106 (wrap64 ((wrap64 (x4_1+1))+1)))=some r:=by first|(rw[hy106];with_reducible exact H)|(have H2_:=(Option.bind_some _ _).symm.trans H;rw[hy106];with_reducible exact H2_)|(have H2_:=(Option.bind_some _ _).symm.trans H;with_reducible exact H2_)|with_reducible exact H|(rw[hy106];exact H)|exact H
        have Ny106:=aK hy106;clear hy106;have H':=aK H;clear H
        go_wp2_with (first|((with_reducible refine gate_dst (N:=36) rfl ?_);(try (refine gate_guard (by rfl) ?_;dsimp only));refine Kd.R_lit (Kd.int .i64) _ 3 ?hg (N:=36) ?hd (xs:=([x4_1,wrap64 (x4_1+2)]:List Int)) (inner:=[.int .i64 x4_1,.int .i64 (wrap64 (x4_1+2))]) (ok:=fun _=>True) (okp:=fun _=>True) ?hr ?hp (fun _ hk=>hk) trivial (Below.refl _ _) (Nat.le_refl _) (by simp) ?_;(case hd=>rfl);(case hg=>rfl);(case hr=>first|(go_simp;done)|(go_simp;rfl));(case hp=>exact(Reps.one (show Kd.M (Kd.int .i64) _ _ _ x4_1 [.int .i64 x4_1]from rfl) (Reps.one (show Kd.M (Kd.int .i64) _ _ _ (wrap64 (x4_1+2)) [.int .i64 (wrap64 (x4_1+2))]from rfl) (Reps.none _ _))));intro v104 w11 ho12 hb hg_ hnew_;clear hg_ hnew_;(first|rw[←Ny103.out]at ho12|(simp only[Int.reduceToNat]at ho12;rw[←Ny103.out]at ho12));have n0_:=aK (Kd.S_elder' (by(with_reducible repeat (first|apply Kd.S_alloc|apply Kd.S_drewN|apply Kd.S_drew));exact HO_3.out) (Kd.R_base ho12) hb);have n1_:=aK (Kd.R_lower ho12 (below_size vB));have n2_:=aK (below_step vB hb);clear HO_3;clear HB;have HO_3:=n0_;have HO105:=n1_;have HB:=n2_;clear n0_ n1_ n2_;clear hb ho12;obtain⟨Ao14,co14,eo14⟩:=Kd.R_slice HO105.out;subst eo14)|((with_reducible refine gate_builtin (b:=.append) (xs:=#[.tmp 32,.tmp 37]) rfl ?_);(try (refine gate_guard (by rfl) ?_;dsimp only));at_builtin;refine Kd.S_append (Kd.slice 3 (Kd.int .i64)) (w0:=w) w.heap.size rfl (.tmp 32) (.tmp 37) 186 62 (.slice none 0 0) 24 rfl Tryz.underlying186 info62 rfl (by decide) (by omega) u3 x3_1 y103 [.slice Ao14 y103.length co14] (fun _=>True) (fun k_=>some k_=(.slice Ao14 y103.length co14:Value).ownBlock) rfl rfl ?aP (fun k_ hk_=>((Kd.R_mono (ok':=fun k_=>((fun _=>True)) k_∧some k_≠(u3:Value).ownBlock) (Kd.R_apart' (HO105.out) (Kd.S_typed HO_3.out) (by decide)) (fun k_ hk=>⟨trivial,hk.2⟩))).1 k_ hk_.symm) ?aF ?aO ?aB ?aS ?aL ?_;(case aP=>exact Kd.M_row (Kd.R_mono (Kd.R_tight rfl (Kd.R_mono (ok':=fun k_=>((fun _=>True)) k_∧some k_≠(u3:Value).ownBlock) (Kd.R_apart' (HO105.out) (Kd.S_typed HO_3.out) (by decide)) (fun k_ hk=>⟨trivial,hk.2⟩))) (fun _ h_=>h_)));(case aB=>exact vB);(case aF=>exact(fun _ _=>trivial));(case aO=>exact(by(with_reducible repeat (first|apply Kd.S_alloc|apply Kd.S_drewN|apply Kd.S_drew));exact Kd.S_mono HO_3.out (fun k_ hk=>⟨trivial,fun e_=>hk.2 e_⟩)));(case aS=>exact(below_size vB));(case aL=>have:=LMc10.out;omega);intro v107 w13 ho hb hg hat;rw[←Ny106.out]at ho;have n0_:=aK (hb);have n1_:=aK (ho);clear HB;clear HO_3;clear HO105;have HB:=n0_;have HO108:=n1_;clear n0_ n1_;clear ho hb hg hat))
        go_roundg kj2
        case measure=>have:=HK1.out;have:=HJ2.out;omega
        case rel=>exact⟨(y106),(wrap64 ((wrap64 (x4_1+1))+1)),vR,H',⟨by have:=HK1.out;have:=HJ2.out;omega⟩,⟨by(with_reducible repeat (first|apply Kd.S_alloc|apply Kd.S_drewN|apply Kd.S_drew));exact HO108.out⟩,⟨vB⟩⟩
       ·rw[if_neg c10]at H
        exact absurd H (by simp)
      ·replace c9:=Bool.eq_false_iff.mpr c9
       subst c9;have H1:(if 0≤x4_1 then(if x4_1<(l0.length:Int)then(if (rd l0 x4_1)=13 then(if x3_1.length<5864062014805 then(location_zzLineEnds.l0 kj2 l0 (x3_1++[(([x4_1,wrap64 (x4_1+1)]:List Int))]) (wrap64 (x4_1+1)))else(none))else(if (rd l0 x4_1)=10 then(if x3_1.length<5864062014805 then(location_zzLineEnds.l0 kj2 l0 (x3_1++[(([x4_1,wrap64 (x4_1+1)]:List Int))]) (wrap64 (x4_1+1)))else(none))else(location_zzLineEnds.l0 kj2 l0 x3_1 (wrap64 (x4_1+1)))))else(none))else(none))=some r:=by rw[if_neg (show ¬(false=true) by decide)]at H;exact H
       clear H;have H:=H1;clear H1
       by_cases c15:0≤x4_1
       ·rw[if_pos c15]at H
        have c15b0:decide (0≤x4_1)=true:=decide_eq_true c15;clear c15
        by_cases c16:x4_1<(l0.length:Int)
        ·rw[if_pos c16]at H
         have c16b0:decide (x4_1<(l0.length:Int))=true:=decide_eq_true c16;clear c16
         by_cases c17:(rd l0 x4_1)=13
         ·rw[if_pos c17]at H
          have c17b0:((rd l0 x4_1)==13)=true:=beq_iff_eq.mpr c17;have c17b1:((rd l0 x4_1) != 13)=false:=bne_eq_false_iff_eq.mpr c17;clear c17;obtain⟨y110,hy110⟩:∃y_:List Int,y_=(([x4_1,wrap64 (x4_1+1)]:List Int)):=⟨_,rfl⟩;replace H:(if x3_1.length<5864062014805 then(location_zzLineEnds.l0 kj2 l0 (x3_1++[y110]) (wrap64 (x4_1+1)))else(none))=some r:=by first|(rw[hy110];with_reducible exact H)|(have H2_:=(Option.bind_some _ _).symm.trans H;rw[hy110];with_reducible exact H2_)|(have H2_:=(Option.bind_some _ _).symm.trans H;with_reducible exact H2_)|with_reducible exact H|(rw[hy110];exact H)|exact H
          have Ny110:=aK hy110;clear hy110
          by_cases c18:x3_1.length<5864062014805
          ·rw[if_pos c18]at H
           have LMc18:=aK c18;clear c18;obtain⟨y113,hy113⟩:∃y_:List (List Int),y_=(x3_1++[y110]):=⟨_,rfl⟩;replace H:(location_zzLineEnds.l0 kj2 l0 y113 (wrap64 (x4_1+1)))=some r:=by first|(rw[hy113];with_reducible exact H)|(have H2_:=(Option.bind_some _ _).symm.trans H;rw[hy113];with_reducible exact H2_)|(have H2_:=(Option.bind_some _ _).symm.trans H;with_reducible exact H2_)|with_reducible exact H|(rw[hy113];exact H)|exact H
           have Ny113:=aK hy113;clear hy113;have H':=aK H;clear H;have p109:0≤(x4_1:Int):=of_decide_eq_true vA;have q109:x4_1<(l0.length:Int):=of_decide_eq_true vA;obtain⟨ad109,e109,hx109_0⟩:=Kd.at_int HR0.out x4_1 p109 q109;cases e109;replace hx109_0:=(HB.out.cell (World.block_lt_of_cell? w _ hx109_0)).trans hx109_0;replace p109:=eq_true p109;replace q109:=eq_true q109
           go_wp2_with (first|((with_reducible refine gate_dst (N:=58) rfl ?_);(try (refine gate_guard (by rfl) ?_;dsimp only));refine Kd.R_lit (Kd.int .i64) _ 3 ?hg (N:=58) ?hd (xs:=([x4_1,wrap64 (x4_1+1)]:List Int)) (inner:=[.int .i64 x4_1,.int .i64 (wrap64 (x4_1+1))]) (ok:=fun _=>True) (okp:=fun _=>True) ?hr ?hp (fun _ hk=>hk) trivial (Below.refl _ _) (Nat.le_refl _) (by simp) ?_;(case hd=>rfl);(case hg=>rfl);(case hr=>first|(go_simp;done)|(go_simp;rfl));(case hp=>exact(Reps.one (show Kd.M (Kd.int .i64) _ _ _ x4_1 [.int .i64 x4_1]from rfl) (Reps.one (show Kd.M (Kd.int .i64) _ _ _ (wrap64 (x4_1+1)) [.int .i64 (wrap64 (x4_1+1))]from rfl) (Reps.none _ _))));intro v111 w19 ho20 hb hg_ hnew_;clear hg_ hnew_;(first|rw[←Ny110.out]at ho20|(simp only[Int.reduceToNat]at ho20;rw[←Ny110.out]at ho20));have n0_:=aK (Kd.S_elder' (by(with_reducible repeat (first|apply Kd.S_alloc|apply Kd.S_drewN|apply Kd.S_drew));exact HO_3.out) (Kd.R_base ho20) hb);have n1_:=aK (Kd.R_lower ho20 (below_size vB));have n2_:=aK (below_step vB hb);clear HO_3;clear HB;have HO_3:=n0_;have HO112:=n1_;have HB:=n2_;clear n0_ n1_ n2_;clear hb ho20;obtain⟨Ao22,co22,eo22⟩:=Kd.R_slice HO112.out;subst eo22)|((with_reducible refine gate_builtin (b:=.append) (xs:=#[.tmp 54,.tmp 59]) rfl ?_);(try (refine gate_guard (by rfl) ?_;dsimp only));at_builtin;refine Kd.S_append (Kd.slice 3 (Kd.int .i64)) (w0:=w) w.heap.size rfl (.tmp 54) (.tmp 59) 186 62 (.slice none 0 0) 24 rfl Tryz.underlying186 info62 rfl (by decide) (by omega) u3 x3_1 y110 [.slice Ao22 y110.length co22] (fun _=>True) (fun k_=>some k_=(.slice Ao22 y110.length co22:Value).ownBlock) rfl rfl ?aP (fun k_ hk_=>((Kd.R_mono (ok':=fun k_=>((fun _=>True)) k_∧some k_≠(u3:Value).ownBlock) (Kd.R_apart' (HO112.out) (Kd.S_typed HO_3.out) (by decide)) (fun k_ hk=>⟨trivial,hk.2⟩))).1 k_ hk_.symm) ?aF ?aO ?aB ?aS ?aL ?_;(case aP=>exact Kd.M_row (Kd.R_mono (Kd.R_tight rfl (Kd.R_mono (ok':=fun k_=>((fun _=>True)) k_∧some k_≠(u3:Value).ownBlock) (Kd.R_apart' (HO112.out) (Kd.S_typed HO_3.out) (by decide)) (fun k_ hk=>⟨trivial,hk.2⟩))) (fun _ h_=>h_)));(case aB=>exact vB);(case aF=>exact(fun _ _=>trivial));(case aO=>exact(by(with_reducible repeat (first|apply Kd.S_alloc|apply Kd.S_drewN|apply Kd.S_drew));exact Kd.S_mono HO_3.out (fun k_ hk=>⟨trivial,fun e_=>hk.2 e_⟩)));(case aS=>exact(below_size vB));(case aL=>have:=LMc18.out;omega);intro v114 w21 ho hb hg hat;rw[←Ny113.out]at ho;have n0_:=aK (hb);have n1_:=aK (ho);clear HB;clear HO_3;clear HO112;have HB:=n0_;have HO115:=n1_;clear n0_ n1_;clear ho hb hg hat))
           go_roundg kj2
           case measure=>have:=HK1.out;have:=HJ2.out;omega
           case rel=>exact⟨(y113),(wrap64 (x4_1+1)),vR,H',⟨by have:=HK1.out;have:=HJ2.out;omega⟩,⟨by(with_reducible repeat (first|apply Kd.S_alloc|apply Kd.S_drewN|apply Kd.S_drew));exact HO115.out⟩,⟨vB⟩⟩
          ·rw[if_neg c18]at H
           exact absurd H (by simp)
         ·rw[if_neg c17]at H
          have c17b0:((rd l0 x4_1)==13)=false:=beq_eq_false_iff_ne.mpr c17;have c17b1:((rd l0 x4_1) != 13)=true:=bne_iff_ne.mpr c17
          by_cases c23:(rd l0 x4_1)=10
          ·rw[if_pos c23]at H
           have c23b0:((rd l0 x4_1)==10)=true:=beq_iff_eq.mpr c23;have c23b1:((rd l0 x4_1) != 10)=false:=bne_eq_false_iff_eq.mpr c23;clear c23;obtain⟨y117,hy117⟩:∃y_:List Int,y_=(([x4_1,wrap64 (x4_1+1)]:List Int)):=⟨_,rfl⟩;replace H:(if x3_1.length<5864062014805 then(location_zzLineEnds.l0 kj2 l0 (x3_1++[y117]) (wrap64 (x4_1+1)))else(none))=some r:=by first|(rw[hy117];with_reducible exact H)|(have H2_:=(Option.bind_some _ _).symm.trans H;rw[hy117];with_reducible exact H2_)|(have H2_:=(Option.bind_some _ _).symm.trans H;with_reducible exact H2_)|with_reducible exact H|(rw[hy117];exact H)|exact H
           have Ny117:=aK hy117;clear hy117
           by_cases c24:x3_1.length<5864062014805
           ·rw[if_pos c24]at H
            have LMc24:=aK c24;clear c24;obtain⟨y120,hy120⟩:∃y_:List (List Int),y_=(x3_1++[y117]):=⟨_,rfl⟩;replace H:(location_zzLineEnds.l0 kj2 l0 y120 (wrap64 (x4_1+1)))=some r:=by first|(rw[hy120];with_reducible exact H)|(have H2_:=(Option.bind_some _ _).symm.trans H;rw[hy120];with_reducible exact H2_)|(have H2_:=(Option.bind_some _ _).symm.trans H;with_reducible exact H2_)|with_reducible exact H|(rw[hy120];exact H)|exact H
            have Ny120:=aK hy120;clear hy120;have H':=aK H;clear H;have p109:0≤(x4_1:Int):=of_decide_eq_true vA;have q109:x4_1<(l0.length:Int):=of_decide_eq_true vA;obtain⟨ad109,e109,hx109_0⟩:=Kd.at_int HR0.out x4_1 p109 q109;cases e109;replace hx109_0:=(HB.out.cell (World.block_lt_of_cell? w _ hx109_0)).trans hx109_0;replace p109:=eq_true p109;replace q109:=eq_true q109;have p116:0≤(x4_1:Int):=of_decide_eq_true vA;have q116:x4_1<(l0.length:Int):=of_decide_eq_true vA;obtain⟨ad116,e116,hx116_0⟩:=Kd.at_int HR0.out x4_1 p116 q116;obtain rfl:ad109=ad116:=(by injection e116)
            replace hx116_0:=(HB.out.cell (World.block_lt_of_cell? w _ hx116_0)).trans hx116_0;replace p116:=eq_true p116;replace q116:=eq_true q116
            go_wp2_with (first|((with_reducible refine gate_dst (N:=58) rfl ?_);(try (refine gate_guard (by rfl) ?_;dsimp only));refine Kd.R_lit (Kd.int .i64) _ 3 ?hg (N:=58) ?hd (xs:=([x4_1,wrap64 (x4_1+1)]:List Int)) (inner:=[.int .i64 x4_1,.int .i64 (wrap64 (x4_1+1))]) (ok:=fun _=>True) (okp:=fun _=>True) ?hr ?hp (fun _ hk=>hk) trivial (Below.refl _ _) (Nat.le_refl _) (by simp) ?_;(case hd=>rfl);(case hg=>rfl);(case hr=>first|(go_simp;done)|(go_simp;rfl));(case hp=>exact(Reps.one (show Kd.M (Kd.int .i64) _ _ _ x4_1 [.int .i64 x4_1]from rfl) (Reps.one (show Kd.M (Kd.int .i64) _ _ _ (wrap64 (x4_1+1)) [.int .i64 (wrap64 (x4_1+1))]from rfl) (Reps.none _ _))));intro v118 w25 ho26 hb hg_ hnew_;clear hg_ hnew_;(first|rw[←Ny117.out]at ho26|(simp only[Int.reduceToNat]at ho26;rw[←Ny117.out]at ho26));have n0_:=aK (Kd.S_elder' (by(with_reducible repeat (first|apply Kd.S_alloc|apply Kd.S_drewN|apply Kd.S_drew));exact HO_3.out) (Kd.R_base ho26) hb);have n1_:=aK (Kd.R_lower ho26 (below_size vB));have n2_:=aK (below_step vB hb);clear HO_3;clear HB;have HO_3:=n0_;have HO119:=n1_;have HB:=n2_;clear n0_ n1_ n2_;clear hb ho26;obtain⟨Ao28,co28,eo28⟩:=Kd.R_slice HO119.out;subst eo28)|((with_reducible refine gate_builtin (b:=.append) (xs:=#[.tmp 54,.tmp 59]) rfl ?_);(try (refine gate_guard (by rfl) ?_;dsimp only));at_builtin;refine Kd.S_append (Kd.slice 3 (Kd.int .i64)) (w0:=w) w.heap.size rfl (.tmp 54) (.tmp 59) 186 62 (.slice none 0 0) 24 rfl Tryz.underlying186 info62 rfl (by decide) (by omega) u3 x3_1 y117 [.slice Ao28 y117.length co28] (fun _=>True) (fun k_=>some k_=(.slice Ao28 y117.length co28:Value).ownBlock) rfl rfl ?aP (fun k_ hk_=>((Kd.R_mono (ok':=fun k_=>((fun _=>True)) k_∧some k_≠(u3:Value).ownBlock) (Kd.R_apart' (HO119.out) (Kd.S_typed HO_3.out) (by decide)) (fun k_ hk=>⟨trivial,hk.2⟩))).1 k_ hk_.symm) ?aF ?aO ?aB ?aS ?aL ?_;(case aP=>exact Kd.M_row (Kd.R_mono (Kd.R_tight rfl (Kd.R_mono (ok':=fun k_=>((fun _=>True)) k_∧some k_≠(u3:Value).ownBlock) (Kd.R_apart' (HO119.out) (Kd.S_typed HO_3.out) (by decide)) (fun k_ hk=>⟨trivial,hk.2⟩))) (fun _ h_=>h_)));(case aB=>exact vB);(case aF=>exact(fun _ _=>trivial));(case aO=>exact(by(with_reducible repeat (first|apply Kd.S_alloc|apply Kd.S_drewN|apply Kd.S_drew));exact Kd.S_mono HO_3.out (fun k_ hk=>⟨trivial,fun e_=>hk.2 e_⟩)));(case aS=>exact(below_size vB));(case aL=>have:=LMc24.out;omega);intro v121 w27 ho hb hg hat;rw[←Ny120.out]at ho;have n0_:=aK (hb);have n1_:=aK (ho);clear HB;clear HO_3;clear HO119;have HB:=n0_;have HO122:=n1_;clear n0_ n1_;clear ho hb hg hat))
            go_roundg kj2
            case measure=>have:=HK1.out;have:=HJ2.out;omega
            case rel=>exact⟨(y120),(wrap64 (x4_1+1)),vR,H',⟨by have:=HK1.out;have:=HJ2.out;omega⟩,⟨by(with_reducible repeat (first|apply Kd.S_alloc|apply Kd.S_drewN|apply Kd.S_drew));exact HO122.out⟩,⟨vB⟩⟩
           ·rw[if_neg c24]at H
            exact absurd H (by simp)
          ·rw[if_neg c23]at H
           have c23b0:((rd l0 x4_1)==10)=false:=beq_eq_false_iff_ne.mpr c23;have c23b1:((rd l0 x4_1) != 10)=true:=bne_iff_ne.mpr c23;have H':=aK H;clear H;have p109:0≤(x4_1:Int):=of_decide_eq_true vA;have q109:x4_1<(l0.length:Int):=of_decide_eq_true vA;obtain⟨ad109,e109,hx109_0⟩:=Kd.at_int HR0.out x4_1 p109 q109;cases e109;replace hx109_0:=(HB.out.cell (World.block_lt_of_cell? w _ hx109_0)).trans hx109_0;replace p109:=eq_true p109;replace q109:=eq_true q109;have p116:0≤(x4_1:Int):=of_decide_eq_true vA;have q116:x4_1<(l0.length:Int):=of_decide_eq_true vA;obtain⟨ad116,e116,hx116_0⟩:=Kd.at_int HR0.out x4_1 p116 q116;obtain rfl:ad109=ad116:=(by injection e116)
           replace hx116_0:=(HB.out.cell (World.block_lt_of_cell? w _ hx116_0)).trans hx116_0;replace p116:=eq_true p116;replace q116:=eq_true q116;go_wp2
           go_roundg kj2
           case measure=>have:=HK1.out;have:=HJ2.out;omega
           case rel=>exact⟨(x3_1),(wrap64 (x4_1+1)),vR,H',⟨by have:=HK1.out;have:=HJ2.out;omega⟩,⟨by(with_reducible repeat (first|apply Kd.S_alloc|apply Kd.S_drewN|apply Kd.S_drew));exact HO_3.out⟩,⟨vB⟩⟩
        ·rw[if_neg c16]at H
         exact absurd H (by simp)
       ·rw[if_neg c15]at H
        exact absurd H (by simp)
   ·rw[if_neg c2]at H
    have c2b0:decide (x4_1<(l0.length:Int))=false:=decide_eq_false c2;clear c2;obtain rfl:=Option.some.inj H;go_wp2
    go_ret
    exact⟨_,vE,by(with_reducible repeat (first|apply Kd.S_alloc|apply Kd.S_drewN|apply Kd.S_drew));exact HO_3.out,vB⟩
end Go.Proofs.YtjolkdnfbmkjiaaGreatDoor.PzzLineEnds
