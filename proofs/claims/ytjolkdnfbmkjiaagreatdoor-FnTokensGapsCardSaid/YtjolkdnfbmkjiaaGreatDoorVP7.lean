import Derived.Test.YtjolkdnfbmkjiaaGreatDoorVP0
import Derived.Test.YtjolkdnfbmkjiaaGreatDoorVP2
import Derived.Test.YtjolkdnfbmkjiaaGreatDoorVP5
set_option maxRecDepth 100000
set_option maxHeartbeats 8000000
set_option linter.unusedVariables false
set_option linter.unusedSimpArgs false
namespace Go.Proofs.YtjolkdnfbmkjiaaGreatDoor.PFnTokensGaps
open Go.RowKit Go.Proofs.YtjolkdnfbmkjiaaGreatDoorW.PrintWords Go.Proofs.YtjolkdnfbmkjiaaGreatDoorW.PrintLast Go.Proofs.YtjolkdnfbmkjiaaGreatDoorW.PrintMore
attribute [local go_sem] max2_int min2_int max_two min_two max_three min_three max_four min_four
mutual
def spec_plainBlock.j0:Nat→List ByteArray→Int→Bool→Option (Bool)
 | 0,_,_,_=>none
 | k+1,x3,x4,x22=>if x22=true then(some false)else(spec_plainBlock.l0 k x3 x4 1)
def spec_plainBlock.l0:Nat→List ByteArray→Int→Int→Option (Bool)
 | 0,_,_,_=>none
 | k+1,x3,x4,x5=>if x5<(x3.length:Int)then(if 0≤x5 then((spec_leading.f k (rdOf ByteArray.empty x3 x5)).bind fun t218=>(if t218=((rdOf ByteArray.empty x3 x5).size:Int)then(if ((rdOf ByteArray.empty x3 x5).size:Int)>0 then(if ((rdOf ByteArray.empty x3 x5).size:Int)<x4 then(some false)else(spec_plainBlock.l0 k x3 x4 (wrap64 (x5+1))))else(spec_plainBlock.l0 k x3 x4 (wrap64 (x5+1))))else(spec_plainBlock.l0 k x3 x4 (wrap64 (x5+1)))))else(none))else(some true)
end
def spec_plainBlock.f (k:Nat) (a0:ByteArray):Option (Bool):=(spec_Lines.f k a0).bind fun t210=>((spec_common.f k t210).bind fun t213=>(if t213>0 then(if 0<(t210.length:Int)then((spec_leading.f k (rdOf ByteArray.empty t210 0)).bind fun t215=>(spec_plainBlock.j0 k t210 t213 (decide (t215<((rdOf ByteArray.empty t210 0).size:Int)))))else(none))else(spec_plainBlock.j0 k t210 t213 false)))
theorem spec_plainBlock.mono_l:∀k,(∀y0 y1 y2,LeO (spec_plainBlock.j0 k y0 y1 y2) (spec_plainBlock.j0 (k+1) y0 y1 y2))∧(∀y0 y1 y2,LeO (spec_plainBlock.l0 k y0 y1 y2) (spec_plainBlock.l0 (k+1) y0 y1 y2))
 | 0=>⟨fun _ _ _ r h=>by simp[spec_plainBlock.j0]at h,fun _ _ _ r h=>by simp[spec_plainBlock.l0]at h⟩
 | k+1=>by
  obtain⟨ih0,ih1⟩:=spec_plainBlock.mono_l k;refine⟨?_,?_⟩
  ·intro y0 y1 y2
   unfold spec_plainBlock.j0
   repeat' first
   | (with_reducible exact ih0 _ _ _)
   | (with_reducible exact ih1 _ _ _)
   | (with_reducible exact spec_Lines.mono _ _)
   | (with_reducible exact spec_common.mono _ _)
   | (with_reducible exact spec_leading.mono _ _)
   | (with_reducible exact LeO.refl _)
   | (with_reducible exact LeO.none _)
   | (with_reducible refine LeO.ite ?_ ?_)
   | (with_reducible refine LeO.bind ?_ (fun _=>?_))
   | exact ih0 _ _ _
   | exact ih1 _ _ _
   | exact spec_Lines.mono _ _
   | exact spec_common.mono _ _
   | exact spec_leading.mono _ _
   | exact LeO.none _
   | refine LeO.ite ?_ ?_
   | refine LeO.bind ?_ (fun _=>?_)
  ·intro y0 y1 y2
   unfold spec_plainBlock.l0
   repeat' first
   | (with_reducible exact ih0 _ _ _)
   | (with_reducible exact ih1 _ _ _)
   | (with_reducible exact spec_Lines.mono _ _)
   | (with_reducible exact spec_common.mono _ _)
   | (with_reducible exact spec_leading.mono _ _)
   | (with_reducible exact LeO.refl _)
   | (with_reducible exact LeO.none _)
   | (with_reducible refine LeO.ite ?_ ?_)
   | (with_reducible refine LeO.bind ?_ (fun _=>?_))
   | exact ih0 _ _ _
   | exact ih1 _ _ _
   | exact spec_Lines.mono _ _
   | exact spec_common.mono _ _
   | exact spec_leading.mono _ _
   | exact LeO.none _
   | refine LeO.ite ?_ ?_
   | refine LeO.bind ?_ (fun _=>?_)
theorem spec_plainBlock.mono:∀a0 k,LeO (spec_plainBlock.f k a0) (spec_plainBlock.f (k+1) a0):=by
 intro a0 k;obtain⟨ih0,ih1⟩:=spec_plainBlock.mono_l k;unfold spec_plainBlock.f
 repeat' first
   | (with_reducible exact ih0 _ _ _)
   | (with_reducible exact ih1 _ _ _)
   | (with_reducible exact spec_Lines.mono _ _)
   | (with_reducible exact spec_common.mono _ _)
   | (with_reducible exact spec_leading.mono _ _)
   | (with_reducible exact LeO.refl _)
   | (with_reducible exact LeO.none _)
   | (with_reducible refine LeO.ite ?_ ?_)
   | (with_reducible refine LeO.bind ?_ (fun _=>?_))
   | exact ih0 _ _ _
   | exact ih1 _ _ _
   | exact spec_Lines.mono _ _
   | exact spec_common.mono _ _
   | exact spec_leading.mono _ _
   | exact LeO.none _
   | refine LeO.ite ?_ ?_
   | refine LeO.bind ?_ (fun _=>?_)
theorem spec_plainBlock.calls (k:Nat) (a0:ByteArray) (r:Bool) (w:World) (h:spec_plainBlock.f k a0=some r) :
  Calls Tryz.prog 61 #[.string a0] w fun e w'=>e = .returned (.bool r)∧Below w.heap.size w w':=by
 have HB:=aK (Below.refl w.heap.size w);have H:((spec_Lines.f k a0).bind fun t210=>((spec_common.f k t210).bind fun t213=>(if t213>0 then(if 0<(t210.length:Int)then((spec_leading.f k (rdOf ByteArray.empty t210 0)).bind fun t215=>(spec_plainBlock.j0 k t210 t213 (decide (t215<((rdOf ByteArray.empty t210 0).size:Int)))))else(none))else(spec_plainBlock.j0 k t210 t213 false))))=some r:=h
 clear h;replace H:=Option.bind_eq_some_iff.mp H;obtain⟨t210,A20,H⟩:=H;replace H:((spec_common.f k t210).bind fun t213=>(if t213>0 then(if 0<(t210.length:Int)then((spec_leading.f k (rdOf ByteArray.empty t210 0)).bind fun t215=>(spec_plainBlock.j0 k t210 t213 (decide (t215<((rdOf ByteArray.empty t210 0).size:Int)))))else(none))else(spec_plainBlock.j0 k t210 t213 false)))=some r:=H
 have A2:=aK A20;clear A20;replace H:=Option.bind_eq_some_iff.mp H;obtain⟨t213,A30,H⟩:=H;replace H:(if t213>0 then(if 0<(t210.length:Int)then((spec_leading.f k (rdOf ByteArray.empty t210 0)).bind fun t215=>(spec_plainBlock.j0 k t210 t213 (decide (t215<((rdOf ByteArray.empty t210 0).size:Int)))))else(none))else(spec_plainBlock.j0 k t210 t213 false))=some r:=H
 have A3:=aK A30;clear A30;have HC4:=aK H;clear H;go_enter Tryz.func61,Tryz.ntmps61
 go_upto_region 3 with(first|(go_at_call 75;(with_reducible refine(spec_Lines.calls k a0 t210 _ A2.out).mono ?_);rintro e w5 ⟨v211,rfl,ho0,hb⟩;have n0_:=aK (Kd.R_lower ho0 (below_size vB));have n1_:=aK (below_step vB hb);clear HB;have HO212:=n0_;have HB:=n1_;clear n0_ n1_;(try clear hb);(try clear hb2);(try clear hk);(try clear hi);(try clear ho0);obtain⟨Ao6,co6,eo6⟩:=Kd.R_slice HO212.out;subst eo6)|(go_at_call 76;(with_reducible refine(spec_common.calls k _ _ t210 t213 _ ?side1 ?side2 A3.out).mono ?_);(case side1=>repeat (first|exact(Kd.R_reads' HO212.out).2.2|(with_reducible refine Kd.C_alloc ?_ _)|(with_reducible refine Kd.C_drewN ?_ _)|(with_reducible refine Kd.C_drew ?_)));(case side2=>exact(Kd.R_reads' HO212.out).2.1);rintro e w7 ⟨rfl,hb⟩;have n0_:=aK (Kd.R_below (by(with_reducible repeat (first|apply Kd.R_alloc|apply Kd.R_drewN|apply Kd.R_drew));exact HO212.out) hb);have n1_:=aK (below_step vB hb);clear HO212;clear HB;have HO212:=n0_;have HB:=n1_;clear n0_ n1_;(try clear hb);(try clear hb2);(try clear hk);(try clear hi)))
 repeat (go_quiet (first|(go_at_call 75;(with_reducible refine(spec_Lines.calls k a0 t210 _ A2.out).mono ?_);rintro e w5 ⟨v211,rfl,ho0,hb⟩;have n0_:=aK (Kd.R_lower ho0 (below_size vB));have n1_:=aK (below_step vB hb);clear HB;have HO212:=n0_;have HB:=n1_;clear n0_ n1_;(try clear hb);(try clear hb2);(try clear hk);(try clear hi);(try clear ho0);obtain⟨Ao6,co6,eo6⟩:=Kd.R_slice HO212.out;subst eo6)|(go_at_call 76;(with_reducible refine(spec_common.calls k _ _ t210 t213 _ ?side1 ?side2 A3.out).mono ?_);(case side1=>repeat (first|exact(Kd.R_reads' HO212.out).2.2|(with_reducible refine Kd.C_alloc ?_ _)|(with_reducible refine Kd.C_drewN ?_ _)|(with_reducible refine Kd.C_drew ?_)));(case side2=>exact(Kd.R_reads' HO212.out).2.1);rintro e w7 ⟨rfl,hb⟩;have n0_:=aK (Kd.R_below (by(with_reducible repeat (first|apply Kd.R_alloc|apply Kd.R_drewN|apply Kd.R_drew));exact HO212.out) hb);have n1_:=aK (below_step vB hb);clear HO212;clear HB;have HO212:=n0_;have HB:=n1_;clear n0_ n1_;(try clear hb);(try clear hb2);(try clear hk);(try clear hi)));go_upto_region 3 with(first|(go_at_call 75;(with_reducible refine(spec_Lines.calls k a0 t210 _ A2.out).mono ?_);rintro e w5 ⟨v211,rfl,ho0,hb⟩;have n0_:=aK (Kd.R_lower ho0 (below_size vB));have n1_:=aK (below_step vB hb);clear HB;have HO212:=n0_;have HB:=n1_;clear n0_ n1_;(try clear hb);(try clear hb2);(try clear hk);(try clear hi);(try clear ho0);obtain⟨Ao6,co6,eo6⟩:=Kd.R_slice HO212.out;subst eo6)|(go_at_call 76;(with_reducible refine(spec_common.calls k _ _ t210 t213 _ ?side1 ?side2 A3.out).mono ?_);(case side1=>repeat (first|exact(Kd.R_reads' HO212.out).2.2|(with_reducible refine Kd.C_alloc ?_ _)|(with_reducible refine Kd.C_drewN ?_ _)|(with_reducible refine Kd.C_drew ?_)));(case side2=>exact(Kd.R_reads' HO212.out).2.1);rintro e w7 ⟨rfl,hb⟩;have n0_:=aK (Kd.R_below (by(with_reducible repeat (first|apply Kd.R_alloc|apply Kd.R_drewN|apply Kd.R_drew));exact HO212.out) hb);have n1_:=aK (below_step vB hb);clear HO212;clear HB;have HO212:=n0_;have HB:=n1_;clear n0_ n1_;(try clear hb);(try clear hb2);(try clear hk);(try clear hi))))
 (try simp only[Act.put,List.setIfInBounds_toArray,List.set_cons_zero,List.set_cons_succ])
 go_cut [22] (fun v22 wc=>∃(kq:Nat) (x22_3:Bool),v22 = .bool x22_3∧Aside0 (spec_plainBlock.j0 kq t210 t213 x22_3=some r)∧Aside0 (kq≤k)∧Aside0 (Kd.R Kd.string 9 wc w.heap.size (fun _=>True) (.slice Ao6 t210.length co6) t210)∧Aside0 (Below w.heap.size w wc))
 case first=>
  have H:=HC4.out;clear HC4
  by_cases c8:t213>0
  ·rw[if_pos c8]at H
   have c8b0:decide (0<t213)=true:=decide_eq_true c8;clear c8
   (first|rw[c8b0]|(simp only[i64_w,i32_w];rw[c8b0])|skip)
   by_cases c9:0<(t210.length:Int)
   ·rw[if_pos c9]at H
    have c9b0:decide (0<(t210.length:Int))=true:=decide_eq_true c9;have c9b1:decide (0<t210.length)=true:=decide_eq_true (by omega)
    clear c9;replace H:=Option.bind_eq_some_iff.mp H;obtain⟨t215,A100,H⟩:=H;replace H:(spec_plainBlock.j0 k t210 t213 (decide (t215<((rdOf ByteArray.empty t210 0).size:Int))))=some r:=H;have A10:=aK A100;clear A100;have H':=aK H;clear H;have p214:0≤(0:Int):=(by omega)
    have q214:0<(t210.length:Int):=of_decide_eq_true vA;obtain⟨ad214,e214,hx214_0⟩:=Kd.at_string (Kd.R_reads' HO212.out).2.2 0 p214 q214;cases e214;have qi214:(0<t210.length)=True:=eq_true (by omega)
    (try rw[show((0:Int)).toNat=0 from rfl]at hx214_0)
    (try rw[Addr.add_zero']at hx214_0)
    replace p214:=eq_true p214;replace q214:=eq_true q214
    go_wp2_with (first|(go_at_call 77;(with_reducible refine(spec_leading.calls k (rdOf ByteArray.empty t210 0) t215 _ A10.out).mono ?_);rintro e w' ⟨rfl,⟨nd,rfl⟩⟩;(try first|exact⟨rfl,_,World.drewN_drewN _ _ _⟩|exact⟨rfl,_,Eq.trans (World.drewN_drewN _ _ _) (congrArg (World.drewN _) (Nat.add_assoc _ _ _))⟩);have p216:0≤(0:Int):=(by omega);have q216:0<(t210.length:Int):=of_decide_eq_true vA;obtain⟨ad216,e216,hx216_0⟩:=Kd.at_string (Kd.R_reads' HO212.out).2.2 0 p216 q216;obtain rfl:ad214=ad216:=(by injection e216);have qi216:(0<t210.length)=True:=eq_true (by omega);(try rw[show((0:Int)).toNat=0 from rfl]at hx216_0);(try rw[Addr.add_zero']at hx216_0);replace p216:=eq_true p216;replace q216:=eq_true q216))
    repeat (go_quiet (first|(go_at_call 77;(with_reducible refine(spec_leading.calls k (rdOf ByteArray.empty t210 0) t215 _ A10.out).mono ?_);rintro e w' ⟨rfl,⟨nd,rfl⟩⟩;(try first|exact⟨rfl,_,World.drewN_drewN _ _ _⟩|exact⟨rfl,_,Eq.trans (World.drewN_drewN _ _ _) (congrArg (World.drewN _) (Nat.add_assoc _ _ _))⟩);have p216:0≤(0:Int):=(by omega);have q216:0<(t210.length:Int):=of_decide_eq_true vA;obtain⟨ad216,e216,hx216_0⟩:=Kd.at_string (Kd.R_reads' HO212.out).2.2 0 p216 q216;obtain rfl:ad214=ad216:=(by injection e216);have qi216:(0<t210.length)=True:=eq_true (by omega);(try rw[show((0:Int)).toNat=0 from rfl]at hx216_0);(try rw[Addr.add_zero']at hx216_0);replace p216:=eq_true p216;replace q216:=eq_true q216));try go_wp2_with (first|(go_at_call 77;(with_reducible refine(spec_leading.calls k (rdOf ByteArray.empty t210 0) t215 _ A10.out).mono ?_);rintro e w' ⟨rfl,⟨nd,rfl⟩⟩;(try first|exact⟨rfl,_,World.drewN_drewN _ _ _⟩|exact⟨rfl,_,Eq.trans (World.drewN_drewN _ _ _) (congrArg (World.drewN _) (Nat.add_assoc _ _ _))⟩);have p216:0≤(0:Int):=(by omega);have q216:0<(t210.length:Int):=of_decide_eq_true vA;obtain⟨ad216,e216,hx216_0⟩:=Kd.at_string (Kd.R_reads' HO212.out).2.2 0 p216 q216;obtain rfl:ad214=ad216:=(by injection e216);have qi216:(0<t210.length)=True:=eq_true (by omega);(try rw[show((0:Int)).toNat=0 from rfl]at hx216_0);(try rw[Addr.add_zero']at hx216_0);replace p216:=eq_true p216;replace q216:=eq_true q216)))
    go_meet
    case rel=>exact⟨_,(decide (t215<((rdOf ByteArray.empty t210 0).size:Int))),vR,H',⟨by first|omega|exact Nat.le_refl _⟩,⟨by(with_reducible repeat (first|apply Kd.R_alloc|apply Kd.R_drewN|apply Kd.R_drew));exact HO212.out⟩,⟨vB⟩⟩
   ·rw[if_neg c9]at H
    exact absurd H (by simp)
  ·rw[if_neg c8]at H
   have c8b0:decide (0<t213)=false:=decide_eq_false c8;clear c8
   (first|rw[c8b0]|(simp only[i64_w,i32_w];rw[c8b0])|skip)
   have H':=aK H;clear H;go_wp2
   repeat (go_quiet (fail);try go_wp2)
   go_meet
   case rel=>exact⟨_,(false),vR,H',⟨by first|omega|exact Nat.le_refl _⟩,⟨by(with_reducible repeat (first|apply Kd.R_alloc|apply Kd.R_drewN|apply Kd.R_drew));exact HO212.out⟩,⟨vB⟩⟩
 case rest=>
  clear HC4
  (try clear p2);(try clear q2);(try clear hx2);(try clear qi2);(try clear c6);(try clear c8);(try clear c8b0);(try clear c9);(try clear c9b0);(try clear c9b1);(try clear hx214_0);(try clear hx216_0);(try clear p214);(try clear p216);(try clear q214);(try clear q216)
  obtain⟨kq,x22_3,rfl,HA,HJ3,HO_3,HB⟩:=hcut;cases kq with
  | zero=>exact absurd HA.out (by simp[spec_plainBlock.j0])
  | succ kj3=>
   have H:=HA.out;clear HA;simp only[spec_plainBlock.j0]at H
   by_cases c11:x22_3=true
   ·subst c11
    have H1:(some false)=some r:=by rw[if_pos rfl]at H;exact H
    clear H;have H:=H1;clear H1;obtain rfl:=Option.some.inj H;go_wp2
    repeat (go_quiet (fail);try go_wp2)
    go_ret
    exact⟨vE,vB⟩
   ·replace c11:=Bool.eq_false_iff.mpr c11
    subst c11;have H1:(spec_plainBlock.l0 kj3 t210 t213 1)=some r:=by rw[if_neg (show ¬(false=true) by decide)]at H;exact H
    clear H;have H:=H1;clear H1;have H':=aK H;clear H;go_wp2
    repeat (go_quiet (fail);try go_wp2)
    go_loopg [5] kj3 (fun kq v5 w'=>∃(x5_2:Int),v5 = .int .i64 x5_2∧Aside0 (spec_plainBlock.l0 kq t210 t213 x5_2=some r)∧Aside0 (kq≤kj3)∧Aside0 (Kd.R Kd.string 9 w' w.heap.size (fun _=>True) (.slice Ao6 t210.length co6) t210)∧Aside0 (Below w.heap.size w w'))
    case atStart=>exact⟨(1),vR,H',⟨Nat.le_refl _⟩,⟨by(with_reducible repeat (first|apply Kd.R_alloc|apply Kd.R_drewN|apply Kd.R_drew));exact HO_3.out⟩,⟨vB⟩⟩
    case round=>
     clear H'
     (try clear c1);(try clear p2);(try clear q2);(try clear hx2);(try clear qi2);(try clear c6);(try clear c8);(try clear c8b0);(try clear c9);(try clear c9b0);(try clear c9b1);(try clear c11);(try clear hx214_0);(try clear hx216_0);(try clear p2);(try clear p214);(try clear p216);(try clear q2);(try clear q214);(try clear q216)
     obtain⟨x5_2,rfl,HA,HK2,HO_3,HB⟩:=hrel;cases gk with
     | zero=>exact absurd HA.out (by simp[spec_plainBlock.l0])
     | succ k2=>
      have H:=HA.out;clear HA;simp only[spec_plainBlock.l0]at H
      by_cases c12:x5_2<(t210.length:Int)
      ·rw[if_pos c12]at H
       have c12b0:decide (x5_2<(t210.length:Int))=true:=decide_eq_true c12;clear c12
       by_cases c13:0≤x5_2
       ·rw[if_pos c13]at H
        have c13b0:decide (0≤x5_2)=true:=decide_eq_true c13;clear c13;replace H:=Option.bind_eq_some_iff.mp H;obtain⟨t218,A140,H⟩:=H;replace H:(if t218=((rdOf ByteArray.empty t210 x5_2).size:Int)then(if ((rdOf ByteArray.empty t210 x5_2).size:Int)>0 then(if ((rdOf ByteArray.empty t210 x5_2).size:Int)<t213 then(some false)else(spec_plainBlock.l0 k2 t210 t213 (wrap64 (x5_2+1))))else(spec_plainBlock.l0 k2 t210 t213 (wrap64 (x5_2+1))))else(spec_plainBlock.l0 k2 t210 t213 (wrap64 (x5_2+1))))=some r:=H
        have A14:=aK A140;clear A140
        by_cases c15:t218=((rdOf ByteArray.empty t210 x5_2).size:Int)
        ·rw[if_pos c15]at H
         have c15b0:(t218==((rdOf ByteArray.empty t210 x5_2).size:Int))=true:=beq_iff_eq.mpr c15;have c15b1:(t218 != ((rdOf ByteArray.empty t210 x5_2).size:Int))=false:=bne_eq_false_iff_eq.mpr c15;clear c15
         by_cases c16:((rdOf ByteArray.empty t210 x5_2).size:Int)>0
         ·rw[if_pos c16]at H
          have c16b0:decide (0<((rdOf ByteArray.empty t210 x5_2).size:Int))=true:=decide_eq_true c16;have c16b1:decide (0<(rdOf ByteArray.empty t210 x5_2).size)=true:=decide_eq_true (by omega)
          clear c16
          by_cases c17:((rdOf ByteArray.empty t210 x5_2).size:Int)<t213
          ·rw[if_pos c17]at H
           have c17b0:decide (((rdOf ByteArray.empty t210 x5_2).size:Int)<t213)=true:=decide_eq_true c17;clear c17;obtain rfl:=Option.some.inj H;have p217:0≤(x5_2:Int):=of_decide_eq_true vA;have q217:x5_2<(t210.length:Int):=of_decide_eq_true vA;obtain⟨ad217,e217,hx217_0⟩:=Kd.at_string (Kd.R_reads' HO_3.out).2.2 x5_2 p217 q217;cases e217;replace p217:=eq_true p217;replace q217:=eq_true q217
           go_wp2_with (first|(go_at_call 77;(with_reducible refine(spec_leading.calls k2 (rdOf ByteArray.empty t210 x5_2) t218 _ A14.out).mono ?_);rintro e w' ⟨rfl,⟨nd,rfl⟩⟩;(try first|exact⟨rfl,_,World.drewN_drewN _ _ _⟩|exact⟨rfl,_,Eq.trans (World.drewN_drewN _ _ _) (congrArg (World.drewN _) (Nat.add_assoc _ _ _))⟩);have p219:0≤(x5_2:Int):=of_decide_eq_true vA;have q219:x5_2<(t210.length:Int):=of_decide_eq_true vA;obtain⟨ad219,e219,hx219_0⟩:=Kd.at_string (Kd.R_reads' HO_3.out).2.2 x5_2 p219 q219;obtain rfl:ad217=ad219:=(by injection e219);replace p219:=eq_true p219;replace q219:=eq_true q219;have p220:0≤(x5_2:Int):=of_decide_eq_true vA;have q220:x5_2<(t210.length:Int):=of_decide_eq_true vA;obtain⟨ad220,e220,hx220_0⟩:=Kd.at_string (Kd.R_reads' HO_3.out).2.2 x5_2 p220 q220;obtain rfl:ad217=ad220:=(by injection e220);replace p220:=eq_true p220;replace q220:=eq_true q220;have p221:0≤(x5_2:Int):=of_decide_eq_true vA;have q221:x5_2<(t210.length:Int):=of_decide_eq_true vA;obtain⟨ad221,e221,hx221_0⟩:=Kd.at_string (Kd.R_reads' HO_3.out).2.2 x5_2 p221 q221;obtain rfl:ad217=ad221:=(by injection e221);replace p221:=eq_true p221;replace q221:=eq_true q221))
           repeat (go_quiet (first|(go_at_call 77;(with_reducible refine(spec_leading.calls k2 (rdOf ByteArray.empty t210 x5_2) t218 _ A14.out).mono ?_);rintro e w' ⟨rfl,⟨nd,rfl⟩⟩;(try first|exact⟨rfl,_,World.drewN_drewN _ _ _⟩|exact⟨rfl,_,Eq.trans (World.drewN_drewN _ _ _) (congrArg (World.drewN _) (Nat.add_assoc _ _ _))⟩);have p219:0≤(x5_2:Int):=of_decide_eq_true vA;have q219:x5_2<(t210.length:Int):=of_decide_eq_true vA;obtain⟨ad219,e219,hx219_0⟩:=Kd.at_string (Kd.R_reads' HO_3.out).2.2 x5_2 p219 q219;obtain rfl:ad217=ad219:=(by injection e219);replace p219:=eq_true p219;replace q219:=eq_true q219;have p220:0≤(x5_2:Int):=of_decide_eq_true vA;have q220:x5_2<(t210.length:Int):=of_decide_eq_true vA;obtain⟨ad220,e220,hx220_0⟩:=Kd.at_string (Kd.R_reads' HO_3.out).2.2 x5_2 p220 q220;obtain rfl:ad217=ad220:=(by injection e220);replace p220:=eq_true p220;replace q220:=eq_true q220;have p221:0≤(x5_2:Int):=of_decide_eq_true vA;have q221:x5_2<(t210.length:Int):=of_decide_eq_true vA;obtain⟨ad221,e221,hx221_0⟩:=Kd.at_string (Kd.R_reads' HO_3.out).2.2 x5_2 p221 q221;obtain rfl:ad217=ad221:=(by injection e221);replace p221:=eq_true p221;replace q221:=eq_true q221));try go_wp2_with (first|(go_at_call 77;(with_reducible refine(spec_leading.calls k2 (rdOf ByteArray.empty t210 x5_2) t218 _ A14.out).mono ?_);rintro e w' ⟨rfl,⟨nd,rfl⟩⟩;(try first|exact⟨rfl,_,World.drewN_drewN _ _ _⟩|exact⟨rfl,_,Eq.trans (World.drewN_drewN _ _ _) (congrArg (World.drewN _) (Nat.add_assoc _ _ _))⟩);have p219:0≤(x5_2:Int):=of_decide_eq_true vA;have q219:x5_2<(t210.length:Int):=of_decide_eq_true vA;obtain⟨ad219,e219,hx219_0⟩:=Kd.at_string (Kd.R_reads' HO_3.out).2.2 x5_2 p219 q219;obtain rfl:ad217=ad219:=(by injection e219);replace p219:=eq_true p219;replace q219:=eq_true q219;have p220:0≤(x5_2:Int):=of_decide_eq_true vA;have q220:x5_2<(t210.length:Int):=of_decide_eq_true vA;obtain⟨ad220,e220,hx220_0⟩:=Kd.at_string (Kd.R_reads' HO_3.out).2.2 x5_2 p220 q220;obtain rfl:ad217=ad220:=(by injection e220);replace p220:=eq_true p220;replace q220:=eq_true q220;have p221:0≤(x5_2:Int):=of_decide_eq_true vA;have q221:x5_2<(t210.length:Int):=of_decide_eq_true vA;obtain⟨ad221,e221,hx221_0⟩:=Kd.at_string (Kd.R_reads' HO_3.out).2.2 x5_2 p221 q221;obtain rfl:ad217=ad221:=(by injection e221);replace p221:=eq_true p221;replace q221:=eq_true q221)))
           go_ret
           exact⟨vE,vB⟩
          ·rw[if_neg c17]at H
           have c17b0:decide (((rdOf ByteArray.empty t210 x5_2).size:Int)<t213)=false:=decide_eq_false c17;clear c17;have H':=aK H;clear H;have p217:0≤(x5_2:Int):=of_decide_eq_true vA;have q217:x5_2<(t210.length:Int):=of_decide_eq_true vA;obtain⟨ad217,e217,hx217_0⟩:=Kd.at_string (Kd.R_reads' HO_3.out).2.2 x5_2 p217 q217;cases e217;replace p217:=eq_true p217;replace q217:=eq_true q217
           go_wp2_with (first|(go_at_call 77;(with_reducible refine(spec_leading.calls k2 (rdOf ByteArray.empty t210 x5_2) t218 _ A14.out).mono ?_);rintro e w' ⟨rfl,⟨nd,rfl⟩⟩;(try first|exact⟨rfl,_,World.drewN_drewN _ _ _⟩|exact⟨rfl,_,Eq.trans (World.drewN_drewN _ _ _) (congrArg (World.drewN _) (Nat.add_assoc _ _ _))⟩);have p219:0≤(x5_2:Int):=of_decide_eq_true vA;have q219:x5_2<(t210.length:Int):=of_decide_eq_true vA;obtain⟨ad219,e219,hx219_0⟩:=Kd.at_string (Kd.R_reads' HO_3.out).2.2 x5_2 p219 q219;obtain rfl:ad217=ad219:=(by injection e219);replace p219:=eq_true p219;replace q219:=eq_true q219;have p220:0≤(x5_2:Int):=of_decide_eq_true vA;have q220:x5_2<(t210.length:Int):=of_decide_eq_true vA;obtain⟨ad220,e220,hx220_0⟩:=Kd.at_string (Kd.R_reads' HO_3.out).2.2 x5_2 p220 q220;obtain rfl:ad217=ad220:=(by injection e220);replace p220:=eq_true p220;replace q220:=eq_true q220;have p221:0≤(x5_2:Int):=of_decide_eq_true vA;have q221:x5_2<(t210.length:Int):=of_decide_eq_true vA;obtain⟨ad221,e221,hx221_0⟩:=Kd.at_string (Kd.R_reads' HO_3.out).2.2 x5_2 p221 q221;obtain rfl:ad217=ad221:=(by injection e221);replace p221:=eq_true p221;replace q221:=eq_true q221))
           repeat (go_quiet (first|(go_at_call 77;(with_reducible refine(spec_leading.calls k2 (rdOf ByteArray.empty t210 x5_2) t218 _ A14.out).mono ?_);rintro e w' ⟨rfl,⟨nd,rfl⟩⟩;(try first|exact⟨rfl,_,World.drewN_drewN _ _ _⟩|exact⟨rfl,_,Eq.trans (World.drewN_drewN _ _ _) (congrArg (World.drewN _) (Nat.add_assoc _ _ _))⟩);have p219:0≤(x5_2:Int):=of_decide_eq_true vA;have q219:x5_2<(t210.length:Int):=of_decide_eq_true vA;obtain⟨ad219,e219,hx219_0⟩:=Kd.at_string (Kd.R_reads' HO_3.out).2.2 x5_2 p219 q219;obtain rfl:ad217=ad219:=(by injection e219);replace p219:=eq_true p219;replace q219:=eq_true q219;have p220:0≤(x5_2:Int):=of_decide_eq_true vA;have q220:x5_2<(t210.length:Int):=of_decide_eq_true vA;obtain⟨ad220,e220,hx220_0⟩:=Kd.at_string (Kd.R_reads' HO_3.out).2.2 x5_2 p220 q220;obtain rfl:ad217=ad220:=(by injection e220);replace p220:=eq_true p220;replace q220:=eq_true q220;have p221:0≤(x5_2:Int):=of_decide_eq_true vA;have q221:x5_2<(t210.length:Int):=of_decide_eq_true vA;obtain⟨ad221,e221,hx221_0⟩:=Kd.at_string (Kd.R_reads' HO_3.out).2.2 x5_2 p221 q221;obtain rfl:ad217=ad221:=(by injection e221);replace p221:=eq_true p221;replace q221:=eq_true q221));try go_wp2_with (first|(go_at_call 77;(with_reducible refine(spec_leading.calls k2 (rdOf ByteArray.empty t210 x5_2) t218 _ A14.out).mono ?_);rintro e w' ⟨rfl,⟨nd,rfl⟩⟩;(try first|exact⟨rfl,_,World.drewN_drewN _ _ _⟩|exact⟨rfl,_,Eq.trans (World.drewN_drewN _ _ _) (congrArg (World.drewN _) (Nat.add_assoc _ _ _))⟩);have p219:0≤(x5_2:Int):=of_decide_eq_true vA;have q219:x5_2<(t210.length:Int):=of_decide_eq_true vA;obtain⟨ad219,e219,hx219_0⟩:=Kd.at_string (Kd.R_reads' HO_3.out).2.2 x5_2 p219 q219;obtain rfl:ad217=ad219:=(by injection e219);replace p219:=eq_true p219;replace q219:=eq_true q219;have p220:0≤(x5_2:Int):=of_decide_eq_true vA;have q220:x5_2<(t210.length:Int):=of_decide_eq_true vA;obtain⟨ad220,e220,hx220_0⟩:=Kd.at_string (Kd.R_reads' HO_3.out).2.2 x5_2 p220 q220;obtain rfl:ad217=ad220:=(by injection e220);replace p220:=eq_true p220;replace q220:=eq_true q220;have p221:0≤(x5_2:Int):=of_decide_eq_true vA;have q221:x5_2<(t210.length:Int):=of_decide_eq_true vA;obtain⟨ad221,e221,hx221_0⟩:=Kd.at_string (Kd.R_reads' HO_3.out).2.2 x5_2 p221 q221;obtain rfl:ad217=ad221:=(by injection e221);replace p221:=eq_true p221;replace q221:=eq_true q221)))
           go_roundg k2
           case measure=>have:=HJ3.out;have:=HK2.out;omega
           case rel=>exact⟨(wrap64 (x5_2+1)),vR,H',⟨by have:=HJ3.out;have:=HK2.out;omega⟩,⟨by(with_reducible repeat (first|apply Kd.R_alloc|apply Kd.R_drewN|apply Kd.R_drew));exact HO_3.out⟩,⟨vB⟩⟩
         ·rw[if_neg c16]at H
          have c16b0:decide (0<((rdOf ByteArray.empty t210 x5_2).size:Int))=false:=decide_eq_false c16;have c16b1:decide (0<(rdOf ByteArray.empty t210 x5_2).size)=false:=decide_eq_false (by omega)
          clear c16;have H':=aK H;clear H;have p217:0≤(x5_2:Int):=of_decide_eq_true vA;have q217:x5_2<(t210.length:Int):=of_decide_eq_true vA;obtain⟨ad217,e217,hx217_0⟩:=Kd.at_string (Kd.R_reads' HO_3.out).2.2 x5_2 p217 q217;cases e217;replace p217:=eq_true p217;replace q217:=eq_true q217
          go_wp2_with (first|(go_at_call 77;(with_reducible refine(spec_leading.calls k2 (rdOf ByteArray.empty t210 x5_2) t218 _ A14.out).mono ?_);rintro e w' ⟨rfl,⟨nd,rfl⟩⟩;(try first|exact⟨rfl,_,World.drewN_drewN _ _ _⟩|exact⟨rfl,_,Eq.trans (World.drewN_drewN _ _ _) (congrArg (World.drewN _) (Nat.add_assoc _ _ _))⟩);have p219:0≤(x5_2:Int):=of_decide_eq_true vA;have q219:x5_2<(t210.length:Int):=of_decide_eq_true vA;obtain⟨ad219,e219,hx219_0⟩:=Kd.at_string (Kd.R_reads' HO_3.out).2.2 x5_2 p219 q219;obtain rfl:ad217=ad219:=(by injection e219);replace p219:=eq_true p219;replace q219:=eq_true q219;have p220:0≤(x5_2:Int):=of_decide_eq_true vA;have q220:x5_2<(t210.length:Int):=of_decide_eq_true vA;obtain⟨ad220,e220,hx220_0⟩:=Kd.at_string (Kd.R_reads' HO_3.out).2.2 x5_2 p220 q220;obtain rfl:ad217=ad220:=(by injection e220);replace p220:=eq_true p220;replace q220:=eq_true q220))
          repeat (go_quiet (first|(go_at_call 77;(with_reducible refine(spec_leading.calls k2 (rdOf ByteArray.empty t210 x5_2) t218 _ A14.out).mono ?_);rintro e w' ⟨rfl,⟨nd,rfl⟩⟩;(try first|exact⟨rfl,_,World.drewN_drewN _ _ _⟩|exact⟨rfl,_,Eq.trans (World.drewN_drewN _ _ _) (congrArg (World.drewN _) (Nat.add_assoc _ _ _))⟩);have p219:0≤(x5_2:Int):=of_decide_eq_true vA;have q219:x5_2<(t210.length:Int):=of_decide_eq_true vA;obtain⟨ad219,e219,hx219_0⟩:=Kd.at_string (Kd.R_reads' HO_3.out).2.2 x5_2 p219 q219;obtain rfl:ad217=ad219:=(by injection e219);replace p219:=eq_true p219;replace q219:=eq_true q219;have p220:0≤(x5_2:Int):=of_decide_eq_true vA;have q220:x5_2<(t210.length:Int):=of_decide_eq_true vA;obtain⟨ad220,e220,hx220_0⟩:=Kd.at_string (Kd.R_reads' HO_3.out).2.2 x5_2 p220 q220;obtain rfl:ad217=ad220:=(by injection e220);replace p220:=eq_true p220;replace q220:=eq_true q220));try go_wp2_with (first|(go_at_call 77;(with_reducible refine(spec_leading.calls k2 (rdOf ByteArray.empty t210 x5_2) t218 _ A14.out).mono ?_);rintro e w' ⟨rfl,⟨nd,rfl⟩⟩;(try first|exact⟨rfl,_,World.drewN_drewN _ _ _⟩|exact⟨rfl,_,Eq.trans (World.drewN_drewN _ _ _) (congrArg (World.drewN _) (Nat.add_assoc _ _ _))⟩);have p219:0≤(x5_2:Int):=of_decide_eq_true vA;have q219:x5_2<(t210.length:Int):=of_decide_eq_true vA;obtain⟨ad219,e219,hx219_0⟩:=Kd.at_string (Kd.R_reads' HO_3.out).2.2 x5_2 p219 q219;obtain rfl:ad217=ad219:=(by injection e219);replace p219:=eq_true p219;replace q219:=eq_true q219;have p220:0≤(x5_2:Int):=of_decide_eq_true vA;have q220:x5_2<(t210.length:Int):=of_decide_eq_true vA;obtain⟨ad220,e220,hx220_0⟩:=Kd.at_string (Kd.R_reads' HO_3.out).2.2 x5_2 p220 q220;obtain rfl:ad217=ad220:=(by injection e220);replace p220:=eq_true p220;replace q220:=eq_true q220)))
          go_roundg k2
          case measure=>have:=HJ3.out;have:=HK2.out;omega
          case rel=>exact⟨(wrap64 (x5_2+1)),vR,H',⟨by have:=HJ3.out;have:=HK2.out;omega⟩,⟨by(with_reducible repeat (first|apply Kd.R_alloc|apply Kd.R_drewN|apply Kd.R_drew));exact HO_3.out⟩,⟨vB⟩⟩
        ·rw[if_neg c15]at H
         have c15b0:(t218==((rdOf ByteArray.empty t210 x5_2).size:Int))=false:=beq_eq_false_iff_ne.mpr c15;have c15b1:(t218 != ((rdOf ByteArray.empty t210 x5_2).size:Int))=true:=bne_iff_ne.mpr c15;have H':=aK H;clear H;have p217:0≤(x5_2:Int):=of_decide_eq_true vA;have q217:x5_2<(t210.length:Int):=of_decide_eq_true vA;obtain⟨ad217,e217,hx217_0⟩:=Kd.at_string (Kd.R_reads' HO_3.out).2.2 x5_2 p217 q217;cases e217;replace p217:=eq_true p217;replace q217:=eq_true q217
         go_wp2_with (first|(go_at_call 77;(with_reducible refine(spec_leading.calls k2 (rdOf ByteArray.empty t210 x5_2) t218 _ A14.out).mono ?_);rintro e w' ⟨rfl,⟨nd,rfl⟩⟩;(try first|exact⟨rfl,_,World.drewN_drewN _ _ _⟩|exact⟨rfl,_,Eq.trans (World.drewN_drewN _ _ _) (congrArg (World.drewN _) (Nat.add_assoc _ _ _))⟩);have p219:0≤(x5_2:Int):=of_decide_eq_true vA;have q219:x5_2<(t210.length:Int):=of_decide_eq_true vA;obtain⟨ad219,e219,hx219_0⟩:=Kd.at_string (Kd.R_reads' HO_3.out).2.2 x5_2 p219 q219;obtain rfl:ad217=ad219:=(by injection e219);replace p219:=eq_true p219;replace q219:=eq_true q219))
         repeat (go_quiet (first|(go_at_call 77;(with_reducible refine(spec_leading.calls k2 (rdOf ByteArray.empty t210 x5_2) t218 _ A14.out).mono ?_);rintro e w' ⟨rfl,⟨nd,rfl⟩⟩;(try first|exact⟨rfl,_,World.drewN_drewN _ _ _⟩|exact⟨rfl,_,Eq.trans (World.drewN_drewN _ _ _) (congrArg (World.drewN _) (Nat.add_assoc _ _ _))⟩);have p219:0≤(x5_2:Int):=of_decide_eq_true vA;have q219:x5_2<(t210.length:Int):=of_decide_eq_true vA;obtain⟨ad219,e219,hx219_0⟩:=Kd.at_string (Kd.R_reads' HO_3.out).2.2 x5_2 p219 q219;obtain rfl:ad217=ad219:=(by injection e219);replace p219:=eq_true p219;replace q219:=eq_true q219));try go_wp2_with (first|(go_at_call 77;(with_reducible refine(spec_leading.calls k2 (rdOf ByteArray.empty t210 x5_2) t218 _ A14.out).mono ?_);rintro e w' ⟨rfl,⟨nd,rfl⟩⟩;(try first|exact⟨rfl,_,World.drewN_drewN _ _ _⟩|exact⟨rfl,_,Eq.trans (World.drewN_drewN _ _ _) (congrArg (World.drewN _) (Nat.add_assoc _ _ _))⟩);have p219:0≤(x5_2:Int):=of_decide_eq_true vA;have q219:x5_2<(t210.length:Int):=of_decide_eq_true vA;obtain⟨ad219,e219,hx219_0⟩:=Kd.at_string (Kd.R_reads' HO_3.out).2.2 x5_2 p219 q219;obtain rfl:ad217=ad219:=(by injection e219);replace p219:=eq_true p219;replace q219:=eq_true q219)))
         go_roundg k2
         case measure=>have:=HJ3.out;have:=HK2.out;omega
         case rel=>exact⟨(wrap64 (x5_2+1)),vR,H',⟨by have:=HJ3.out;have:=HK2.out;omega⟩,⟨by(with_reducible repeat (first|apply Kd.R_alloc|apply Kd.R_drewN|apply Kd.R_drew));exact HO_3.out⟩,⟨vB⟩⟩
       ·rw[if_neg c13]at H
        exact absurd H (by simp)
      ·rw[if_neg c12]at H
       have c12b0:decide (x5_2<(t210.length:Int))=false:=decide_eq_false c12;clear c12;obtain rfl:=Option.some.inj H;go_wp2
       repeat (go_quiet (fail);try go_wp2)
       go_ret
       exact⟨vE,vB⟩
mutual
def spec_hexadecimal.j0:Nat→Int→Bool→Option (Int)
 | 0,_,_=>none
 | k+1,x0,x3=>if x3=true then(some ((x0-48)%256))else(if x0≥97 then(spec_hexadecimal.j1 k x0 (decide (x0≤102)))else(spec_hexadecimal.j1 k x0 false))
def spec_hexadecimal.j1:Nat→Int→Bool→Option (Int)
 | 0,_,_=>none
 | k+1,x0,x13=>if x13=true then(some (((x0-97)%256)+10))else(if x0≥65 then(if x0≤70 then(some (((x0-65)%256)+10))else(some (-1)))else(some (-1)))
end
def spec_textable.l0:Nat→ByteArray→Int→Option (Bool)
 | 0,_,_=>none
 | k+1,x0,x3=>if x3<(x0.size:Int)then((spec_Point.f k x0 x3).bind fun bt247=>(if bt247.2=0 then(some false)else(if bt247.1=0 then(some false)else(if bt247.1>65535 then(some false)else(spec_textable.l0 k x0 (wrap64 (x3+bt247.2)))))))else(some true)
def spec_textable.f (k:Nat) (a0:ByteArray):Option (Bool):=spec_textable.l0 k a0 0
theorem spec_textable.calls (k:Nat) (a0:ByteArray) (r:Bool) (w:World) (h:spec_textable.f k a0=some r) :
  Calls Tryz.prog 36 #[.string a0] w fun e w'=>e = .returned (.bool r)∧Drawn0 w w':=by
 have H:(spec_textable.l0 k a0 0)=some r:=h;clear h;have H':=aK H;clear H;go_enter Tryz.func36,Tryz.ntmps36;go_wp2
 go_loopg [3] k (fun kq v3 w'=>∃(x3_1:Int),v3 = .int .i64 x3_1∧Aside0 (spec_textable.l0 kq a0 x3_1=some r)∧Aside0 (kq≤k)∧Drawn0 w w')
 case atStart=>exact⟨(0),vR,H',⟨Nat.le_refl _⟩,vD⟩
 case round=>
  clear H';obtain⟨x3_1,rfl,HA,HK1,⟨m1,rfl⟩⟩:=hrel;cases gk with
  | zero=>exact absurd HA.out (by simp[spec_textable.l0])
  | succ k1=>
   have H:=HA.out;clear HA;simp only[spec_textable.l0]at H
   by_cases c2:x3_1<(a0.size:Int)
   ·rw[if_pos c2]at H
    have c2b0:decide (x3_1<(a0.size:Int))=true:=decide_eq_true c2;clear c2;replace H:=Option.bind_eq_some_iff.mp H;obtain⟨⟨t247,t248⟩,A30,H⟩:=H;replace H:(if t248=0 then(some false)else(if t247=0 then(some false)else(if t247>65535 then(some false)else(spec_textable.l0 k1 a0 (wrap64 (x3_1+t248))))))=some r:=H
    have A3:=aK A30;clear A30
    by_cases c4:t248=0
    ·rw[if_pos c4]at H
     have c4b0:(t248==0)=true:=beq_iff_eq.mpr c4;have c4b1:(t248 != 0)=false:=bne_eq_false_iff_eq.mpr c4;clear c4;obtain rfl:=Option.some.inj H
     go_wp2_with (first|((with_reducible refine gate_callee (f:=58) rfl ?_);refine goesL_ (some 13) rfl rfl Tryz.func58 (by kernel_rfl) rfl #[.string a0,.int .i64 x3_1] rfl (by(try simp only[List.map_toArray,List.map_cons,List.map_nil]);first|done|rfl|(simp only[List.length_drop,List.length_take];rfl)) ?_;(with_reducible refine(spec_Point.calls k1 a0 x3_1 t247 t248 _ A3.out).mono ?_);rintro e w' ⟨rfl,⟨nd,rfl⟩⟩;refine⟨_,rfl,?_⟩))
     go_ret
     exact⟨vR,vD⟩
    ·rw[if_neg c4]at H
     have c4b0:(t248==0)=false:=beq_eq_false_iff_ne.mpr c4;have c4b1:(t248 != 0)=true:=bne_iff_ne.mpr c4
     by_cases c5:t247=0
     ·rw[if_pos c5]at H
      have c5b0:(t247==0)=true:=beq_iff_eq.mpr c5;have c5b1:(t247 != 0)=false:=bne_eq_false_iff_eq.mpr c5;clear c5;obtain rfl:=Option.some.inj H
      go_wp2_with (first|((with_reducible refine gate_callee (f:=58) rfl ?_);refine goesL_ (some 13) rfl rfl Tryz.func58 (by kernel_rfl) rfl #[.string a0,.int .i64 x3_1] rfl (by(try simp only[List.map_toArray,List.map_cons,List.map_nil]);first|done|rfl|(simp only[List.length_drop,List.length_take];rfl)) ?_;(with_reducible refine(spec_Point.calls k1 a0 x3_1 t247 t248 _ A3.out).mono ?_);rintro e w' ⟨rfl,⟨nd,rfl⟩⟩;refine⟨_,rfl,?_⟩))
      go_ret
      exact⟨vR,vD⟩
     ·rw[if_neg c5]at H
      have c5b0:(t247==0)=false:=beq_eq_false_iff_ne.mpr c5;have c5b1:(t247 != 0)=true:=bne_iff_ne.mpr c5
      by_cases c6:t247>65535
      ·rw[if_pos c6]at H
       have c6b0:decide (65535<t247)=true:=decide_eq_true c6;clear c6;obtain rfl:=Option.some.inj H
       go_wp2_with (first|((with_reducible refine gate_callee (f:=58) rfl ?_);refine goesL_ (some 13) rfl rfl Tryz.func58 (by kernel_rfl) rfl #[.string a0,.int .i64 x3_1] rfl (by(try simp only[List.map_toArray,List.map_cons,List.map_nil]);first|done|rfl|(simp only[List.length_drop,List.length_take];rfl)) ?_;(with_reducible refine(spec_Point.calls k1 a0 x3_1 t247 t248 _ A3.out).mono ?_);rintro e w' ⟨rfl,⟨nd,rfl⟩⟩;refine⟨_,rfl,?_⟩))
       go_ret
       exact⟨vR,vD⟩
      ·rw[if_neg c6]at H
       have c6b0:decide (65535<t247)=false:=decide_eq_false c6;clear c6;have H':=aK H;clear H
       go_wp2_with (first|((with_reducible refine gate_callee (f:=58) rfl ?_);refine goesL_ (some 13) rfl rfl Tryz.func58 (by kernel_rfl) rfl #[.string a0,.int .i64 x3_1] rfl (by(try simp only[List.map_toArray,List.map_cons,List.map_nil]);first|done|rfl|(simp only[List.length_drop,List.length_take];rfl)) ?_;(with_reducible refine(spec_Point.calls k1 a0 x3_1 t247 t248 _ A3.out).mono ?_);rintro e w' ⟨rfl,⟨nd,rfl⟩⟩;refine⟨_,rfl,?_⟩))
       go_roundg k1
       case measure=>have:=HK1.out;omega
       case rel=>exact⟨(wrap64 (x3_1+t248)),vR,H',⟨by have:=HK1.out;omega⟩,vD⟩
   ·rw[if_neg c2]at H
    have c2b0:decide (x3_1<(a0.size:Int))=false:=decide_eq_false c2;clear c2;obtain rfl:=Option.some.inj H;go_wp2
    go_ret
    exact⟨vR,vD⟩
end Go.Proofs.YtjolkdnfbmkjiaaGreatDoor.PFnTokensGaps
