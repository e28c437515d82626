import Derived.Test.YtjolkdnfbmkjiaaGreatDoorVP0
import Derived.Test.YtjolkdnfbmkjiaaGreatDoorVP1
import Derived.Test.YtjolkdnfbmkjiaaGreatDoorVP8
set_option maxRecDepth 100000
set_option maxHeartbeats 8000000
set_option linter.unusedVariables false
set_option linter.unusedSimpArgs false
namespace Go.Proofs.YtjolkdnfbmkjiaaGreatDoor.PFnTokensGaps
open Go.RowKit Go.Proofs.YtjolkdnfbmkjiaaGreatDoorW.PrintWords Go.Proofs.YtjolkdnfbmkjiaaGreatDoorW.PrintLast Go.Proofs.YtjolkdnfbmkjiaaGreatDoorW.PrintMore
attribute [local go_sem] max2_int min2_int max_two min_two max_three min_three max_four min_four
def spec_KidsOf.l0:Nat→List (S35)→Int→List Int→List Int→Int→Option (List Int)
 | 0,_,_,_,_,_=>none
 | k+1,x0,x2,x7,x8,x9=>if x9<(x8.length:Int)then(if 0≤x9 then(if 0≤(rd x8 x9)then(if (rd x8 x9)<(x0.length:Int)then(if ((rd_T35 x0 (rd x8 x9)).f0)=x2 then(if x7.length<17592186044416 then(spec_KidsOf.l0 k x0 x2 (x7++[rd x8 x9]) x8 (wrap64 (x9+1)))else(none))else(spec_KidsOf.l0 k x0 x2 x7 x8 (wrap64 (x9+1))))else(none))else(none))else(none))else(some x7)
def spec_KidsOf.f (k:Nat) (l0:List (S35)) (a1:Int) (a2:Int):Option (List Int):=(spec_Kids.f k l0 a1).bind fun t278=>(spec_KidsOf.l0 k l0 a2 ([]:List Int) t278 0)
theorem spec_KidsOf.calls (k:Nat) (A0:Option Addr) (c0:Nat) (l0:List (S35)) (a1:Int) (a2:Int) (r:List Int) (w:World) (hr0:Kd.C k35 w A0 l0.length l0) (hc0:l0.length≤c0) (h:spec_KidsOf.f k l0 a1 a2=some r) :
  Calls Tryz.prog 78 #[.slice A0 l0.length c0,.int .i64 a1,.int .i64 a2] w fun e w'=>∃v0_:Value,e = .returned (v0_)∧Kd.R (Kd.int .i64) 3 w' w.heap.size (fun _=>True) v0_ r∧Below w.heap.size w w':=by
 have HR0:=aK hr0;have HC0:=aK hc0;clear hr0 hc0;have HB:=aK (Below.refl w.heap.size w);have H:((spec_Kids.f k l0 a1).bind fun t278=>(spec_KidsOf.l0 k l0 a2 ([]:List Int) t278 0))=some r:=h;clear h;replace H:=Option.bind_eq_some_iff.mp H;obtain⟨t278,A40,H⟩:=H;replace H:(spec_KidsOf.l0 k l0 a2 ([]:List Int) t278 0)=some r:=H;have A4:=aK A40;clear A40;have H':=aK H;clear H;go_enter Tryz.func78,Tryz.ntmps78
 go_wp2_with (first|((with_reducible refine gate_callee (f:=22) rfl ?_);refine goesL_ (some 12) rfl rfl Tryz.func22 (by kernel_rfl) rfl #[.slice A0 l0.length c0,.int .i64 a1] rfl (by(try simp only[List.map_toArray,List.map_cons,List.map_nil]);first|done|rfl|(simp only[List.length_drop,List.length_take];rfl)) ?_;(with_reducible refine(spec_Kids.calls k _ _ l0 a1 t278 _ ?side1 ?side2 A4.out).mono ?_);(case side1=>repeat (first|exact HR0.out|(with_reducible refine Kd.C_alloc ?_ _)|(with_reducible refine Kd.C_drewN ?_ _)|(with_reducible refine Kd.C_drew ?_)));(case side2=>exact HC0.out);rintro e w5 ⟨v279,rfl,ho0,hb⟩;refine⟨_,rfl,?_⟩;have n0_:=aK (Kd.R_lower ho0 (below_size vB));have n1_:=aK (below_step vB hb);clear HB;have HO280:=n0_;have HB:=n1_;clear n0_ n1_;(try clear hb);(try clear hb2);(try clear hk);(try clear hi);(try clear ho0)))
 go_loopg [7,9] k (fun kq v7 v9 w'=>∃(x7_1:List Int) (x9_1:Int),v9 = .int .i64 x9_1∧Aside0 (spec_KidsOf.l0 kq l0 a2 x7_1 t278 x9_1=some r)∧Aside0 (kq≤k)∧Aside0 (Kd.R (Kd.int .i64) 3 w' w.heap.size (fun k_=>some k_≠(v279:Value).ownBlock) v7 x7_1)∧Aside0 (Kd.R (Kd.int .i64) 3 w' w.heap.size (fun k_=>some k_≠(v7:Value).ownBlock) v279 t278)∧Aside0 (Below w.heap.size w w'))
 case atStart=>exact⟨(([]:List Int)),(0),vR,H',⟨Nat.le_refl _⟩,⟨by first|exact Kd.R_nil _ _ _ _ _|exact Kd.N_nil _ _ _ _ _|exact Kd.V_nil _ _ _ _ _|exact Kd.Q_nil _ _ _ _ _|exact Kd.S_nil _ _ _ _ _⟩,⟨by(with_reducible repeat (first|apply Kd.R_alloc|apply Kd.R_drewN|apply Kd.R_drew));exact Kd.R_mono HO280.out (fun _ hk=>(by simp[Value.ownBlock]))⟩,⟨vB⟩⟩
 case round=>
  clear H'
  (try clear c2);(try clear p2)
  obtain⟨x7_1,x9_1,rfl,HA,HK1,HO_7,HO_8,HB⟩:=hrel;cases gk with
  | zero=>exact absurd HA.out (by simp[spec_KidsOf.l0])
  | succ k1=>
   have H:=HA.out;clear HA;simp only[spec_KidsOf.l0]at H
   by_cases c6:x9_1<(t278.length:Int)
   ·rw[if_pos c6]at H
    have c6b0:decide (x9_1<(t278.length:Int))=true:=decide_eq_true c6;clear c6
    by_cases c7:0≤x9_1
    ·rw[if_pos c7]at H
     have c7b0:decide (0≤x9_1)=true:=decide_eq_true c7;clear c7
     by_cases c8:0≤(rd t278 x9_1)
     ·rw[if_pos c8]at H
      have c8b0:decide (0≤(rd t278 x9_1))=true:=decide_eq_true c8;clear c8
      by_cases c9:(rd t278 x9_1)<(l0.length:Int)
      ·rw[if_pos c9]at H
       have c9b0:decide ((rd t278 x9_1)<(l0.length:Int))=true:=decide_eq_true c9;clear c9
       by_cases c10:((rd_T35 l0 (rd t278 x9_1)).f0)=a2
       ·rw[if_pos c10]at H
        have c10b0:(((rd_T35 l0 (rd t278 x9_1)).f0)==a2)=true:=beq_iff_eq.mpr c10;have c10b1:(((rd_T35 l0 (rd t278 x9_1)).f0) != a2)=false:=bne_eq_false_iff_eq.mpr c10;clear c10
        by_cases c11:x7_1.length<17592186044416
        ·rw[if_pos c11]at H
         have LMc11:=aK c11;clear c11;obtain⟨y284,hy284⟩:∃y_:List Int,y_=(x7_1++[rd t278 x9_1]):=⟨_,rfl⟩;replace H:(spec_KidsOf.l0 k1 l0 a2 y284 t278 (wrap64 (x9_1+1)))=some r:=by first|(rw[hy284];with_reducible exact H)|(have H2_:=(Option.bind_some _ _).symm.trans H;rw[hy284];with_reducible exact H2_)|(have H2_:=(Option.bind_some _ _).symm.trans H;with_reducible exact H2_)|with_reducible exact H|(rw[hy284];exact H)|exact H
         have Ny284:=aK hy284;clear hy284;have H':=aK H;clear H;obtain⟨Ao12,co12,eo12⟩:=Kd.R_slice HO_8.out;subst eo12;have p281:0≤(x9_1:Int):=of_decide_eq_true vA;have q281:x9_1<(t278.length:Int):=of_decide_eq_true vA;obtain⟨ad281,e281,hx281_0⟩:=Kd.at_int (Kd.R_reads' HO_8.out).2.2 x9_1 p281 q281;cases e281;replace p281:=eq_true p281;replace q281:=eq_true q281;have p282:0≤((rd t278 x9_1):Int):=of_decide_eq_true vA;have q282:(rd t278 x9_1)<(l0.length:Int):=of_decide_eq_true vA;obtain⟨ad282,e282,hx282_0,hx282_1,hx282_2,hx282_3,hx282_4,hx282_5⟩:=at_T35 HR0.out (rd t278 x9_1) p282 q282;cases e282;replace hx282_0:=(HB.out.cell (World.block_lt_of_cell? w _ hx282_0)).trans hx282_0;replace hx282_1:=(HB.out.cell (World.block_lt_of_cell? w _ hx282_1)).trans hx282_1;replace hx282_2:=(HB.out.cell (World.block_lt_of_cell? w _ hx282_2)).trans hx282_2
         replace hx282_3:=(HB.out.cell (World.block_lt_of_cell? w _ hx282_3)).trans hx282_3;replace hx282_4:=(HB.out.cell (World.block_lt_of_cell? w _ hx282_4)).trans hx282_4;replace hx282_5:=(HB.out.cell (World.block_lt_of_cell? w _ hx282_5)).trans hx282_5;replace p282:=eq_true p282;replace q282:=eq_true q282;have p283:0≤(x9_1:Int):=of_decide_eq_true vA;have q283:x9_1<(t278.length:Int):=of_decide_eq_true vA;obtain⟨ad283,e283,hx283_0⟩:=Kd.at_int (Kd.R_reads' HO_8.out).2.2 x9_1 p283 q283;obtain rfl:ad281=ad283:=(by injection e283)
         replace p283:=eq_true p283;replace q283:=eq_true q283
         go_wp2_with (first|((with_reducible refine gate_builtin (b:=.append) (xs:=#[.tmp 29,.tmp 34]) rfl ?_);at_builtin;refine Kd.R_append (Kd.int .i64) (w0:=w) w.heap.size rfl (.tmp 29) (.tmp 34) 62 3 (.int .i64 0) 8 rfl Tryz.underlying62 info3 rfl (by decide) (by omega) u7 x7_1 (rd t278 x9_1) [.int .i64 (rd t278 x9_1)] (fun k_=>some k_≠(.slice (some ad281) t278.length co12:Value).ownBlock) (fun _=>False) rfl rfl ?aP (fun _ hk=>hk.elim) ?aF ?aO ?aB ?aS ?aL ?_;(case aP=>exact rfl);(case aB=>exact vB);(case aF=>exact(fun k_ hk=>Kd.fresh' (Kd.R_lt (by(with_reducible repeat (first|apply Kd.R_alloc|apply Kd.R_drewN|apply Kd.R_drew));exact HO_8.out)) k_ hk));(case aO=>exact(by(with_reducible repeat (first|apply Kd.R_alloc|apply Kd.R_drewN|apply Kd.R_drew));exact HO_7.out));(case aS=>exact(below_size vB));(case aL=>have:=LMc11.out;omega);intro v285 w13 ho hb hg hat;rw[←Ny284.out]at ho;have n0_:=aK (Kd.R_after (ok:=(fun _=>True)) (by(with_reducible repeat (first|apply Kd.R_alloc|apply Kd.R_drewN|apply Kd.R_drew));exact Kd.R_mono HO_8.out (fun _ hk=>⟨trivial,hk⟩)) hg hat);have n1_:=aK (hb);have n2_:=aK (ho);clear HO_8;clear HB;clear HO_7;have HO_8:=n0_;have HB:=n1_;have HO286:=n2_;clear n0_ n1_ n2_;clear ho hb hg hat))
         go_roundg k1
         case measure=>have:=HK1.out;omega
         case rel=>exact⟨(y284),(wrap64 (x9_1+1)),vR,H',⟨by have:=HK1.out;omega⟩,⟨by(with_reducible repeat (first|apply Kd.R_alloc|apply Kd.R_drewN|apply Kd.R_drew));exact HO286.out⟩,⟨by(with_reducible repeat (first|apply Kd.R_alloc|apply Kd.R_drewN|apply Kd.R_drew));exact Kd.R_mono HO_8.out (fun _ hk=>hk.2)⟩,⟨vB⟩⟩
        ·rw[if_neg c11]at H
         exact absurd H (by simp)
       ·rw[if_neg c10]at H
        have c10b0:(((rd_T35 l0 (rd t278 x9_1)).f0)==a2)=false:=beq_eq_false_iff_ne.mpr c10;have c10b1:(((rd_T35 l0 (rd t278 x9_1)).f0) != a2)=true:=bne_iff_ne.mpr c10;have H':=aK H;clear H;obtain⟨Ao14,co14,eo14⟩:=Kd.R_slice HO_8.out;subst eo14;have p281:0≤(x9_1:Int):=of_decide_eq_true vA;have q281:x9_1<(t278.length:Int):=of_decide_eq_true vA;obtain⟨ad281,e281,hx281_0⟩:=Kd.at_int (Kd.R_reads' HO_8.out).2.2 x9_1 p281 q281;cases e281;replace p281:=eq_true p281;replace q281:=eq_true q281;have p282:0≤((rd t278 x9_1):Int):=of_decide_eq_true vA;have q282:(rd t278 x9_1)<(l0.length:Int):=of_decide_eq_true vA;obtain⟨ad282,e282,hx282_0,hx282_1,hx282_2,hx282_3,hx282_4,hx282_5⟩:=at_T35 HR0.out (rd t278 x9_1) p282 q282;cases e282;replace hx282_0:=(HB.out.cell (World.block_lt_of_cell? w _ hx282_0)).trans hx282_0;replace hx282_1:=(HB.out.cell (World.block_lt_of_cell? w _ hx282_1)).trans hx282_1
        replace hx282_2:=(HB.out.cell (World.block_lt_of_cell? w _ hx282_2)).trans hx282_2;replace hx282_3:=(HB.out.cell (World.block_lt_of_cell? w _ hx282_3)).trans hx282_3;replace hx282_4:=(HB.out.cell (World.block_lt_of_cell? w _ hx282_4)).trans hx282_4;replace hx282_5:=(HB.out.cell (World.block_lt_of_cell? w _ hx282_5)).trans hx282_5;replace p282:=eq_true p282;replace q282:=eq_true q282;go_wp2
        go_roundg k1
        case measure=>have:=HK1.out;omega
        case rel=>exact⟨(x7_1),(wrap64 (x9_1+1)),vR,H',⟨by have:=HK1.out;omega⟩,⟨by(with_reducible repeat (first|apply Kd.R_alloc|apply Kd.R_drewN|apply Kd.R_drew));exact HO_7.out⟩,⟨by(with_reducible repeat (first|apply Kd.R_alloc|apply Kd.R_drewN|apply Kd.R_drew));exact HO_8.out⟩,⟨vB⟩⟩
      ·rw[if_neg c9]at H
       exact absurd H (by simp)
     ·rw[if_neg c8]at H
      exact absurd H (by simp)
    ·rw[if_neg c7]at H
     exact absurd H (by simp)
   ·rw[if_neg c6]at H
    have c6b0:decide (x9_1<(t278.length:Int))=false:=decide_eq_false c6;clear c6;obtain rfl:=Option.some.inj H;obtain⟨Ao15,co15,eo15⟩:=Kd.R_slice HO_8.out;subst eo15;go_wp2
    go_ret
    exact⟨_,vE,by(with_reducible repeat (first|apply Kd.R_alloc|apply Kd.R_drewN|apply Kd.R_drew));exact Kd.R_mono HO_7.out (fun _ hk=>trivial),vB⟩
def spec_KidOf.f (k:Nat) (l0:List (S35)) (a1:Int) (a2:Int):Option (Int):=(spec_KidsOf.f k l0 a1 a2).bind fun t287=>(if (t287.length:Int)=0 then(some (-1))else(if 0<(t287.length:Int)then(some (rd t287 0))else(none)))
theorem spec_KidOf.calls (k:Nat) (A0:Option Addr) (c0:Nat) (l0:List (S35)) (a1:Int) (a2:Int) (r:Int) (w:World) (hr0:Kd.C k35 w A0 l0.length l0) (hc0:l0.length≤c0) (h:spec_KidOf.f k l0 a1 a2=some r) :
  Calls Tryz.prog 63 #[.slice A0 l0.length c0,.int .i64 a1,.int .i64 a2] w fun e w'=>e = .returned (.int .i64 r)∧Below w.heap.size w w':=by
 have HR0:=aK hr0;have HC0:=aK hc0;clear hr0 hc0;have HB:=aK (Below.refl w.heap.size w);have H:((spec_KidsOf.f k l0 a1 a2).bind fun t287=>(if (t287.length:Int)=0 then(some (-1))else(if 0<(t287.length:Int)then(some (rd t287 0))else(none))))=some r:=h
 clear h;replace H:=Option.bind_eq_some_iff.mp H;obtain⟨t287,A40,H⟩:=H;replace H:(if (t287.length:Int)=0 then(some (-1))else(if 0<(t287.length:Int)then(some (rd t287 0))else(none)))=some r:=H
 have A4:=aK A40;clear A40
 by_cases c5:(t287.length:Int)=0
 ·rw[if_pos c5]at H
  have c5b0:((t287.length:Int)==0)=true:=beq_iff_eq.mpr c5;have c5b1:((t287.length:Int) != 0)=false:=bne_eq_false_iff_eq.mpr c5;clear c5;obtain rfl:=Option.some.inj H;go_enter Tryz.func63,Tryz.ntmps63
  go_wp2_with (first|((with_reducible refine gate_callee (f:=78) rfl ?_);refine goesL_ (some 11) rfl rfl Tryz.func78 (by kernel_rfl) rfl #[.slice A0 l0.length c0,.int .i64 a1,.int .i64 a2] rfl (by(try simp only[List.map_toArray,List.map_cons,List.map_nil]);first|done|rfl|(simp only[List.length_drop,List.length_take];rfl)) ?_;(with_reducible refine(spec_KidsOf.calls k _ _ l0 a1 a2 t287 _ ?side1 ?side2 A4.out).mono ?_);(case side1=>repeat (first|exact HR0.out|(with_reducible refine Kd.C_alloc ?_ _)|(with_reducible refine Kd.C_drewN ?_ _)|(with_reducible refine Kd.C_drew ?_)));(case side2=>exact HC0.out);rintro e w6 ⟨v288,rfl,ho0,hb⟩;refine⟨_,rfl,?_⟩;have n0_:=aK (Kd.R_lower ho0 (below_size vB));have n1_:=aK (below_step vB hb);clear HB;have HO289:=n0_;have HB:=n1_;clear n0_ n1_;(try clear hb);(try clear hb2);(try clear hk);(try clear hi);(try clear ho0);obtain⟨Ao7,co7,eo7⟩:=Kd.R_slice HO289.out;subst eo7))
  go_ret
  exact⟨vE,vB⟩
 ·rw[if_neg c5]at H
  have c5b0:((t287.length:Int)==0)=false:=beq_eq_false_iff_ne.mpr c5;have c5b1:((t287.length:Int) != 0)=true:=bne_iff_ne.mpr c5;have c5b2:¬(t287=[]):=fun h_=>c5 (by rw[h_];rfl)
  by_cases c8:0<(t287.length:Int)
  ·rw[if_pos c8]at H
   have c8b0:decide (0<(t287.length:Int))=true:=decide_eq_true c8;have c8b1:decide (0<t287.length)=true:=decide_eq_true (by omega)
   clear c8;obtain rfl:=Option.some.inj H;go_enter Tryz.func63,Tryz.ntmps63
   go_wp2_with (first|((with_reducible refine gate_callee (f:=78) rfl ?_);refine goesL_ (some 11) rfl rfl Tryz.func78 (by kernel_rfl) rfl #[.slice A0 l0.length c0,.int .i64 a1,.int .i64 a2] rfl (by(try simp only[List.map_toArray,List.map_cons,List.map_nil]);first|done|rfl|(simp only[List.length_drop,List.length_take];rfl)) ?_;(with_reducible refine(spec_KidsOf.calls k _ _ l0 a1 a2 t287 _ ?side1 ?side2 A4.out).mono ?_);(case side1=>repeat (first|exact HR0.out|(with_reducible refine Kd.C_alloc ?_ _)|(with_reducible refine Kd.C_drewN ?_ _)|(with_reducible refine Kd.C_drew ?_)));(case side2=>exact HC0.out);rintro e w9 ⟨v288,rfl,ho0,hb⟩;refine⟨_,rfl,?_⟩;have n0_:=aK (Kd.R_lower ho0 (below_size vB));have n1_:=aK (below_step vB hb);clear HB;have HO289:=n0_;have HB:=n1_;clear n0_ n1_;(try clear hb);(try clear hb2);(try clear hk);(try clear hi);(try clear ho0);obtain⟨Ao10,co10,eo10⟩:=Kd.R_slice HO289.out;subst eo10;have p290:0≤(0:Int):=(by omega);have q290:0<(t287.length:Int):=of_decide_eq_true vA;obtain⟨ad290,e290,hx290_0⟩:=Kd.at_int (Kd.R_reads' HO289.out).2.2 0 p290 q290;cases e290;have qi290:(0<t287.length)=True:=eq_true (by omega);(try rw[show((0:Int)).toNat=0 from rfl]at hx290_0);(try rw[Addr.add_zero']at hx290_0);replace p290:=eq_true p290;replace q290:=eq_true q290))
   go_ret
   exact⟨vE,vB⟩
  ·rw[if_neg c8]at H
   exact absurd H (by simp)
def spec_fixedHere.l0:Nat→List (S35)→List Int→Int→Option (Bool)
 | 0,_,_,_=>none
 | k+1,x0,x5,x6=>if x6<(x5.length:Int)then(if 0≤x6 then((spec_fixedAt.f k x0 (rd x5 x6)).bind fun t295=>(if t295=true then(spec_fixedHere.l0 k x0 x5 (wrap64 (x6+1)))else(some false)))else(none))else(some true)
def spec_fixedHere.f (k:Nat) (l0:List (S35)) (a1:Int):Option (Bool):=(spec_KidsOf.f k l0 a1 10).bind fun t291=>(spec_fixedHere.l0 k l0 t291 0)
theorem spec_fixedHere.calls (k:Nat) (A0:Option Addr) (c0:Nat) (l0:List (S35)) (a1:Int) (r:Bool) (w:World) (hr0:Kd.C k35 w A0 l0.length l0) (hc0:l0.length≤c0) (h:spec_fixedHere.f k l0 a1=some r) :
  Calls Tryz.prog 64 #[.slice A0 l0.length c0,.int .i64 a1] w fun e w'=>e = .returned (.bool r)∧Below w.heap.size w w':=by
 have HR0:=aK hr0;have HC0:=aK hc0;clear hr0 hc0;have HB:=aK (Below.refl w.heap.size w);have H:((spec_KidsOf.f k l0 a1 10).bind fun t291=>(spec_fixedHere.l0 k l0 t291 0))=some r:=h;clear h;replace H:=Option.bind_eq_some_iff.mp H;obtain⟨t291,A30,H⟩:=H;replace H:(spec_fixedHere.l0 k l0 t291 0)=some r:=H;have A3:=aK A30;clear A30;have H':=aK H;clear H;go_enter Tryz.func64,Tryz.ntmps64
 go_wp2_with (first|((with_reducible refine gate_callee (f:=78) rfl ?_);refine goesL_ (some 9) rfl rfl Tryz.func78 (by kernel_rfl) rfl #[.slice A0 l0.length c0,.int .i64 a1,.int .i64 10] rfl (by(try simp only[List.map_toArray,List.map_cons,List.map_nil]);first|done|rfl|(simp only[List.length_drop,List.length_take];rfl)) ?_;(with_reducible refine(spec_KidsOf.calls k _ _ l0 a1 10 t291 _ ?side1 ?side2 A3.out).mono ?_);(case side1=>repeat (first|exact HR0.out|(with_reducible refine Kd.C_alloc ?_ _)|(with_reducible refine Kd.C_drewN ?_ _)|(with_reducible refine Kd.C_drew ?_)));(case side2=>exact HC0.out);rintro e w4 ⟨v292,rfl,ho0,hb⟩;refine⟨_,rfl,?_⟩;have n0_:=aK (Kd.R_lower ho0 (below_size vB));have n1_:=aK (below_step vB hb);clear HB;have HO293:=n0_;have HB:=n1_;clear n0_ n1_;(try clear hb);(try clear hb2);(try clear hk);(try clear hi);(try clear ho0)))
 go_loopg [6] k (fun kq v6 w'=>∃(x6_1:Int),v6 = .int .i64 x6_1∧Aside0 (spec_fixedHere.l0 kq l0 t291 x6_1=some r)∧Aside0 (kq≤k)∧Aside0 (Kd.R (Kd.int .i64) 3 w' w.heap.size (fun _=>True) v292 t291)∧Aside0 (Below w.heap.size w w'))
 case atStart=>exact⟨(0),vR,H',⟨Nat.le_refl _⟩,⟨by(with_reducible repeat (first|apply Kd.R_alloc|apply Kd.R_drewN|apply Kd.R_drew));exact HO293.out⟩,⟨vB⟩⟩
 case round=>
  clear H'
  try clear p2
  obtain⟨x6_1,rfl,HA,HK1,HO_5,HB⟩:=hrel;cases gk with
  | zero=>exact absurd HA.out (by simp[spec_fixedHere.l0])
  | succ k1=>
   have H:=HA.out;clear HA;simp only[spec_fixedHere.l0]at H
   by_cases c5:x6_1<(t291.length:Int)
   ·rw[if_pos c5]at H
    have c5b0:decide (x6_1<(t291.length:Int))=true:=decide_eq_true c5;clear c5
    by_cases c6:0≤x6_1
    ·rw[if_pos c6]at H
     have c6b0:decide (0≤x6_1)=true:=decide_eq_true c6;clear c6;replace H:=Option.bind_eq_some_iff.mp H;obtain⟨t295,A70,H⟩:=H;replace H:(if t295=true then(spec_fixedHere.l0 k1 l0 t291 (wrap64 (x6_1+1)))else(some false))=some r:=H
     have A7:=aK A70;clear A70
     by_cases c8:t295=true
     ·subst c8
      have H1:(spec_fixedHere.l0 k1 l0 t291 (wrap64 (x6_1+1)))=some r:=by rw[if_pos rfl]at H;exact H
      clear H;have H:=H1;clear H1;have H':=aK H;clear H;obtain⟨Ao9,co9,eo9⟩:=Kd.R_slice HO_5.out;subst eo9;have p294:0≤(x6_1:Int):=of_decide_eq_true vA;have q294:x6_1<(t291.length:Int):=of_decide_eq_true vA;obtain⟨ad294,e294,hx294_0⟩:=Kd.at_int (Kd.R_reads' HO_5.out).2.2 x6_1 p294 q294;cases e294;replace p294:=eq_true p294;replace q294:=eq_true q294
      go_wp2_with (first|((with_reducible refine gate_callee (f:=42) rfl ?_);refine goesL_ (some 21) rfl rfl Tryz.func42 (by kernel_rfl) rfl #[.slice A0 l0.length c0,.int .i64 (rd t291 x6_1)] rfl (by(try simp only[List.map_toArray,List.map_cons,List.map_nil]);first|done|rfl|(simp only[List.length_drop,List.length_take];rfl)) ?_;(with_reducible refine(spec_fixedAt.calls k1 _ _ l0 (rd t291 x6_1) true _ ?side1 ?side2 A7.out).mono ?_);(case side1=>repeat (first|exact(Kd.C_below HR0.out HB.out)|(with_reducible refine Kd.C_alloc ?_ _)|(with_reducible refine Kd.C_drewN ?_ _)|(with_reducible refine Kd.C_drew ?_)));(case side2=>exact HC0.out);rintro e w' ⟨rfl,⟨nd,rfl⟩⟩;refine⟨_,rfl,?_⟩))
      go_roundg k1
      case measure=>have:=HK1.out;omega
      case rel=>exact⟨(wrap64 (x6_1+1)),vR,H',⟨by have:=HK1.out;omega⟩,⟨by(with_reducible repeat (first|apply Kd.R_alloc|apply Kd.R_drewN|apply Kd.R_drew));exact HO_5.out⟩,⟨vB⟩⟩
     ·replace c8:=Bool.eq_false_iff.mpr c8
      subst c8;have H1:(some false)=some r:=by rw[if_neg (show ¬(false=true) by decide)]at H;exact H
      clear H;have H:=H1;clear H1;obtain rfl:=Option.some.inj H;obtain⟨Ao10,co10,eo10⟩:=Kd.R_slice HO_5.out;subst eo10;have p294:0≤(x6_1:Int):=of_decide_eq_true vA;have q294:x6_1<(t291.length:Int):=of_decide_eq_true vA;obtain⟨ad294,e294,hx294_0⟩:=Kd.at_int (Kd.R_reads' HO_5.out).2.2 x6_1 p294 q294;cases e294;replace p294:=eq_true p294;replace q294:=eq_true q294
      go_wp2_with (first|((with_reducible refine gate_callee (f:=42) rfl ?_);refine goesL_ (some 21) rfl rfl Tryz.func42 (by kernel_rfl) rfl #[.slice A0 l0.length c0,.int .i64 (rd t291 x6_1)] rfl (by(try simp only[List.map_toArray,List.map_cons,List.map_nil]);first|done|rfl|(simp only[List.length_drop,List.length_take];rfl)) ?_;(with_reducible refine(spec_fixedAt.calls k1 _ _ l0 (rd t291 x6_1) false _ ?side1 ?side2 A7.out).mono ?_);(case side1=>repeat (first|exact(Kd.C_below HR0.out HB.out)|(with_reducible refine Kd.C_alloc ?_ _)|(with_reducible refine Kd.C_drewN ?_ _)|(with_reducible refine Kd.C_drew ?_)));(case side2=>exact HC0.out);rintro e w' ⟨rfl,⟨nd,rfl⟩⟩;refine⟨_,rfl,?_⟩))
      go_ret
      exact⟨vE,vB⟩
    ·rw[if_neg c6]at H
     exact absurd H (by simp)
   ·rw[if_neg c5]at H
    have c5b0:decide (x6_1<(t291.length:Int))=false:=decide_eq_false c5;clear c5;obtain rfl:=Option.some.inj H;obtain⟨Ao11,co11,eo11⟩:=Kd.R_slice HO_5.out;subst eo11;go_wp2
    go_ret
    exact⟨vE,vB⟩
def spec_Block.l0:Nat→ByteArray→ByteArray→Int→Option (ByteArray)
 | 0,_,_,_=>none
 | k+1,x0,x3,x4=>if x4<(x0.size:Int)then((spec_starts.f x0 x4 (⟨#[34,34,34]⟩:ByteArray)).bind fun t314=>(if t314=true then(if x3.size+4≤9223372036854775807 then(spec_Block.l0 k x0 (x3++(⟨#[92,34,34,34]⟩:ByteArray)) (wrap64 (x4+3)))else(none))else(if 0≤x4 then(if x4≤(wrap64 (x4+1))then(if (wrap64 (x4+1))≤(x0.size:Int)then(if x3.size+(x0.extract (x4:Int).toNat ((wrap64 (x4+1)):Int).toNat).size≤9223372036854775807 then(spec_Block.l0 k x0 (x3++(x0.extract (x4:Int).toNat ((wrap64 (x4+1)):Int).toNat)) (wrap64 (x4+1)))else(none))else(none))else(none))else(none))))else(if x3.size+4≤9223372036854775807 then(some (x3++(⟨#[10,34,34,34]⟩:ByteArray)))else(none))
def spec_Block.f (k:Nat) (a0:ByteArray):Option (ByteArray):=spec_Block.l0 k a0 (⟨#[34,34,34,10]⟩:ByteArray) 0
theorem spec_Block.calls (k:Nat) (a0:ByteArray) (r:ByteArray) (w:World) (h:spec_Block.f k a0=some r) :
  Calls Tryz.prog 46 #[.string a0] w fun e w'=>e = .returned (.string r)∧Drawn0 w w':=by
 have H:(spec_Block.l0 k a0 (⟨#[34,34,34,10]⟩:ByteArray) 0)=some r:=h;clear h;have H':=aK H;clear H;go_enter Tryz.func46,Tryz.ntmps46;go_wp2
 go_loopg [3,4] k (fun kq v3 v4 w'=>∃(x3_1:ByteArray) (x4_1:Int),v3 = .string x3_1∧v4 = .int .i64 x4_1∧Aside0 (spec_Block.l0 kq a0 x3_1 x4_1=some r)∧Aside0 (kq≤k)∧Drawn0 w w')
 case atStart=>exact⟨((⟨#[34,34,34,10]⟩:ByteArray)),(0),vR,vR,H',⟨Nat.le_refl _⟩,vD⟩
 case round=>
  clear H';obtain⟨x3_1,x4_1,rfl,rfl,HA,HK1,⟨m1,rfl⟩⟩:=hrel;cases gk with
  | zero=>exact absurd HA.out (by simp[spec_Block.l0])
  | succ k1=>
   have H:=HA.out;clear HA;simp only[spec_Block.l0]at H
   by_cases c2:x4_1<(a0.size:Int)
   ·rw[if_pos c2]at H
    have c2b0:decide (x4_1<(a0.size:Int))=true:=decide_eq_true c2;clear c2;replace H:=Option.bind_eq_some_iff.mp H;obtain⟨t314,A30,H⟩:=H;replace H:(if t314=true then(if x3_1.size+4≤9223372036854775807 then(spec_Block.l0 k1 a0 (x3_1++(⟨#[92,34,34,34]⟩:ByteArray)) (wrap64 (x4_1+3)))else(none))else(if 0≤x4_1 then(if x4_1≤(wrap64 (x4_1+1))then(if (wrap64 (x4_1+1))≤(a0.size:Int)then(if x3_1.size+(a0.extract (x4_1:Int).toNat ((wrap64 (x4_1+1)):Int).toNat).size≤9223372036854775807 then(spec_Block.l0 k1 a0 (x3_1++(a0.extract (x4_1:Int).toNat ((wrap64 (x4_1+1)):Int).toNat)) (wrap64 (x4_1+1)))else(none))else(none))else(none))else(none)))=some r:=H
    have A3:=aK A30;clear A30
    by_cases c4:t314=true
    ·subst c4
     have H1:(if x3_1.size+4≤9223372036854775807 then(spec_Block.l0 k1 a0 (x3_1++(⟨#[92,34,34,34]⟩:ByteArray)) (wrap64 (x4_1+3)))else(none))=some r:=by rw[if_pos rfl]at H;exact H
     clear H;have H:=H1;clear H1
     by_cases c5:x3_1.size+4≤9223372036854775807
     ·rw[if_pos c5]at H
      have c5b0:=eq_true c5;have c5b1:decide (x3_1.size+4≤9223372036854775807)=true:=decide_eq_true c5
      try have c5b2:(9223372036854775807<x3_1.size+4)=False:=eq_false (Nat.not_lt.2 c5)
      have H':=aK H;clear H
      go_wp2_with (first|((with_reducible refine gate_callee (f:=59) rfl ?_);refine goesL_ (some 11) rfl rfl Tryz.func59 (by kernel_rfl) rfl #[.string a0,.int .i64 x4_1,.string (⟨#[34,34,34]⟩:ByteArray)] rfl (by(try simp only[List.map_toArray,List.map_cons,List.map_nil]);first|done|rfl|(simp only[List.length_drop,List.length_take];rfl)) ?_;(with_reducible refine(spec_starts.calls a0 x4_1 (⟨#[34,34,34]⟩:ByteArray) true _ A3.out).mono ?_);rintro e w' ⟨rfl,⟨nd,rfl⟩⟩;refine⟨_,rfl,?_⟩))
      go_roundg k1
      case measure=>have:=HK1.out;omega
      case rel=>exact⟨(x3_1++(⟨#[92,34,34,34]⟩:ByteArray)),(wrap64 (x4_1+3)),vR,vR,H',⟨by have:=HK1.out;omega⟩,vD⟩
     ·rw[if_neg c5]at H
      exact absurd H (by simp)
    ·replace c4:=Bool.eq_false_iff.mpr c4
     subst c4;have H1:(if 0≤x4_1 then(if x4_1≤(wrap64 (x4_1+1))then(if (wrap64 (x4_1+1))≤(a0.size:Int)then(if x3_1.size+(a0.extract (x4_1:Int).toNat ((wrap64 (x4_1+1)):Int).toNat).size≤9223372036854775807 then(spec_Block.l0 k1 a0 (x3_1++(a0.extract (x4_1:Int).toNat ((wrap64 (x4_1+1)):Int).toNat)) (wrap64 (x4_1+1)))else(none))else(none))else(none))else(none))=some r:=by rw[if_neg (show ¬(false=true) by decide)]at H;exact H
     clear H;have H:=H1;clear H1
     by_cases c6:0≤x4_1
     ·rw[if_pos c6]at H
      have c6b0:=eq_true c6;have c6b1:decide (0≤x4_1)=true:=decide_eq_true c6;clear c6
      by_cases c7:x4_1≤(wrap64 (x4_1+1))
      ·rw[if_pos c7]at H
       have c7b0:=eq_true c7;have c7b1:decide (x4_1≤(wrap64 (x4_1+1)))=true:=decide_eq_true c7
       by_cases c8:(wrap64 (x4_1+1))≤(a0.size:Int)
       ·rw[if_pos c8]at H
        have c8b0:=eq_true c8;have c8b1:decide ((wrap64 (x4_1+1))≤(a0.size:Int))=true:=decide_eq_true c8
        by_cases c9:x3_1.size+(a0.extract (x4_1:Int).toNat ((wrap64 (x4_1+1)):Int).toNat).size≤9223372036854775807
        ·rw[if_pos c9]at H
         have c9b0:=eq_true c9;have c9b1:decide (x3_1.size+(a0.extract (x4_1:Int).toNat ((wrap64 (x4_1+1)):Int).toNat).size≤9223372036854775807)=true:=decide_eq_true c9
         try have c9b2:(9223372036854775807<x3_1.size+(a0.extract (x4_1:Int).toNat ((wrap64 (x4_1+1)):Int).toNat).size)=False:=eq_false (Nat.not_lt.2 c9)
         have H':=aK H;clear H
         go_wp2_with (first|((with_reducible refine gate_callee (f:=59) rfl ?_);refine goesL_ (some 11) rfl rfl Tryz.func59 (by kernel_rfl) rfl #[.string a0,.int .i64 x4_1,.string (⟨#[34,34,34]⟩:ByteArray)] rfl (by(try simp only[List.map_toArray,List.map_cons,List.map_nil]);first|done|rfl|(simp only[List.length_drop,List.length_take];rfl)) ?_;(with_reducible refine(spec_starts.calls a0 x4_1 (⟨#[34,34,34]⟩:ByteArray) false _ A3.out).mono ?_);rintro e w' ⟨rfl,⟨nd,rfl⟩⟩;refine⟨_,rfl,?_⟩))
         go_roundg k1
         case measure=>have:=HK1.out;omega
         case rel=>exact⟨(x3_1++(a0.extract (x4_1:Int).toNat ((wrap64 (x4_1+1)):Int).toNat)),(wrap64 (x4_1+1)),vR,vR,H',⟨by have:=HK1.out;omega⟩,vD⟩
        ·rw[if_neg c9]at H
         exact absurd H (by simp)
       ·rw[if_neg c8]at H
        exact absurd H (by simp)
      ·rw[if_neg c7]at H
       exact absurd H (by simp)
     ·rw[if_neg c6]at H
      exact absurd H (by simp)
   ·rw[if_neg c2]at H
    have c2b0:decide (x4_1<(a0.size:Int))=false:=decide_eq_false c2;clear c2
    by_cases c10:x3_1.size+4≤9223372036854775807
    ·rw[if_pos c10]at H
     have c10b0:=eq_true c10;have c10b1:decide (x3_1.size+4≤9223372036854775807)=true:=decide_eq_true c10
     try have c10b2:(9223372036854775807<x3_1.size+4)=False:=eq_false (Nat.not_lt.2 c10)
     obtain rfl:=Option.some.inj H;go_wp2
     go_ret
     exact⟨vR,vD⟩
    ·rw[if_neg c10]at H
     exact absurd H (by simp)
end Go.Proofs.YtjolkdnfbmkjiaaGreatDoor.PFnTokensGaps
