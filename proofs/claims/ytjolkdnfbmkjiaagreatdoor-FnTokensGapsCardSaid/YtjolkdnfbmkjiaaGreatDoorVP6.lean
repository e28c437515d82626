import Derived.Test.YtjolkdnfbmkjiaaGreatDoorVP0
import Derived.Test.YtjolkdnfbmkjiaaGreatDoorVP5
set_option maxRecDepth 100000
set_option maxHeartbeats 8000000
set_option linter.unusedVariables false
set_option linter.unusedSimpArgs false
namespace Go.Proofs.YtjolkdnfbmkjiaaGreatDoor.PFnTokensGaps
open Go.RowKit Go.Proofs.YtjolkdnfbmkjiaaGreatDoorW.PrintWords Go.Proofs.YtjolkdnfbmkjiaaGreatDoorW.PrintLast Go.Proofs.YtjolkdnfbmkjiaaGreatDoorW.PrintMore
attribute [local go_sem] max2_int min2_int max_two min_two max_three min_three max_four min_four
mutual
def spec_BlockValue.l0:Nat→List ByteArray→Int→Int→Option (ByteArray)
 | 0,_,_,_=>none
 | k+1,x3,x4,x5=>if x5<(x3.length:Int)then(if 0≤x5 then(if 0≤(mn x4 ((rdOf ByteArray.empty x3 x5).size:Int))then(if (mn x4 ((rdOf ByteArray.empty x3 x5).size:Int))≤((rdOf ByteArray.empty x3 x5).size:Int)then(spec_BlockValue.l0 k (x3.set (x5:Int).toNat ((rdOf ByteArray.empty x3 x5).extract ((mn x4 ((rdOf ByteArray.empty x3 x5).size:Int)):Int).toNat (rdOf ByteArray.empty x3 x5).size)) x4 (wrap64 (x5+1)))else(none))else(none))else(none))else(spec_BlockValue.l1 k x3)
def spec_BlockValue.j2:Nat→List ByteArray→Option (ByteArray)
 | 0,_=>none
 | k+1,x3=>spec_BlockValue.l2 k x3
def spec_BlockValue.j4:Nat→List ByteArray→Option (ByteArray)
 | 0,_=>none
 | k+1,x3=>spec_BlockValue.l3 k x3 (⟨#[]⟩:ByteArray) 0
def spec_BlockValue.l3:Nat→List ByteArray→ByteArray→Int→Option (ByteArray)
 | 0,_,_,_=>none
 | k+1,x3,x6,x7=>if x7<(x3.length:Int)then(if x7>0 then(if x6.size+1≤9223372036854775807 then(if 0≤x7 then(if (x6++(⟨#[10]⟩:ByteArray)).size+(rdOf ByteArray.empty x3 x7).size≤9223372036854775807 then(spec_BlockValue.l3 k x3 ((x6++(⟨#[10]⟩:ByteArray))++(rdOf ByteArray.empty x3 x7)) (wrap64 (x7+1)))else(none))else(none))else(none))else(if 0≤x7 then(if x6.size+(rdOf ByteArray.empty x3 x7).size≤9223372036854775807 then(spec_BlockValue.l3 k x3 (x6++(rdOf ByteArray.empty x3 x7)) (wrap64 (x7+1)))else(none))else(none)))else(some x6)
def spec_BlockValue.l2:Nat→List ByteArray→Option (ByteArray)
 | 0,_=>none
 | k+1,x3=>if (x3.length:Int)>0 then(if 0≤(wrap64 ((x3.length:Int)-1))then(if (wrap64 ((x3.length:Int)-1))<(x3.length:Int)then((spec_leading.f k (rdOf ByteArray.empty x3 (wrap64 ((x3.length:Int)-1)))).bind fun t203=>(if t203=((rdOf ByteArray.empty x3 (wrap64 ((x3.length:Int)-1))).size:Int)then(if (wrap64 ((x3.length:Int)-1))≤(x3.length:Int)then(spec_BlockValue.l2 k (x3.take ((wrap64 ((x3.length:Int)-1)):Int).toNat))else(none))else(spec_BlockValue.j4 k x3)))else(none))else(none))else(spec_BlockValue.j4 k x3)
def spec_BlockValue.l1:Nat→List ByteArray→Option (ByteArray)
 | 0,_=>none
 | k+1,x3=>if (x3.length:Int)>0 then(if 0<(x3.length:Int)then((spec_leading.f k (rdOf ByteArray.empty x3 0)).bind fun t197=>(if t197=((rdOf ByteArray.empty x3 0).size:Int)then(if 1≤(x3.length:Int)then(spec_BlockValue.l1 k (x3.drop (1:Int).toNat))else(none))else(spec_BlockValue.j2 k x3)))else(none))else(spec_BlockValue.j2 k x3)
end
def spec_BlockValue.f (k:Nat) (a0:ByteArray):Option (ByteArray):=(spec_Lines.f k a0).bind fun t189=>((spec_common.f k t189).bind fun t192=>(spec_BlockValue.l0 k t189 t192 1))
theorem spec_BlockValue.mono_l:∀k,(∀y0 y1 y2,LeO (spec_BlockValue.l0 k y0 y1 y2) (spec_BlockValue.l0 (k+1) y0 y1 y2))∧(∀y0,LeO (spec_BlockValue.j2 k y0) (spec_BlockValue.j2 (k+1) y0))∧(∀y0,LeO (spec_BlockValue.j4 k y0) (spec_BlockValue.j4 (k+1) y0))∧(∀y0 y1 y2,LeO (spec_BlockValue.l3 k y0 y1 y2) (spec_BlockValue.l3 (k+1) y0 y1 y2))∧(∀y0,LeO (spec_BlockValue.l2 k y0) (spec_BlockValue.l2 (k+1) y0))∧(∀y0,LeO (spec_BlockValue.l1 k y0) (spec_BlockValue.l1 (k+1) y0))
 | 0=>⟨fun _ _ _ r h=>by simp[spec_BlockValue.l0]at h,fun _ r h=>by simp[spec_BlockValue.j2]at h,fun _ r h=>by simp[spec_BlockValue.j4]at h,fun _ _ _ r h=>by simp[spec_BlockValue.l3]at h,fun _ r h=>by simp[spec_BlockValue.l2]at h,fun _ r h=>by simp[spec_BlockValue.l1]at h⟩
 | k+1=>by
  obtain⟨ih0,ih1,ih2,ih3,ih4,ih5⟩:=spec_BlockValue.mono_l k;refine⟨?_,?_,?_,?_,?_,?_⟩
  ·intro y0 y1 y2
   unfold spec_BlockValue.l0
   repeat' first
   | (with_reducible exact ih0 _ _ _)
   | (with_reducible exact ih1 _)
   | (with_reducible exact ih2 _)
   | (with_reducible exact ih3 _ _ _)
   | (with_reducible exact ih4 _)
   | (with_reducible exact ih5 _)
   | (with_reducible exact spec_Lines.mono _ _)
   | (with_reducible exact spec_common.mono _ _)
   | (with_reducible exact spec_leading.mono _ _)
   | (with_reducible exact LeO.refl _)
   | (with_reducible exact LeO.none _)
   | (with_reducible refine LeO.ite ?_ ?_)
   | (with_reducible refine LeO.bind ?_ (fun _=>?_))
   | exact ih0 _ _ _
   | exact ih1 _
   | exact ih2 _
   | exact ih3 _ _ _
   | exact ih4 _
   | exact ih5 _
   | exact spec_Lines.mono _ _
   | exact spec_common.mono _ _
   | exact spec_leading.mono _ _
   | exact LeO.none _
   | refine LeO.ite ?_ ?_
   | refine LeO.bind ?_ (fun _=>?_)
  ·intro y0
   unfold spec_BlockValue.j2
   repeat' first
   | (with_reducible exact ih0 _ _ _)
   | (with_reducible exact ih1 _)
   | (with_reducible exact ih2 _)
   | (with_reducible exact ih3 _ _ _)
   | (with_reducible exact ih4 _)
   | (with_reducible exact ih5 _)
   | (with_reducible exact spec_Lines.mono _ _)
   | (with_reducible exact spec_common.mono _ _)
   | (with_reducible exact spec_leading.mono _ _)
   | (with_reducible exact LeO.refl _)
   | (with_reducible exact LeO.none _)
   | (with_reducible refine LeO.ite ?_ ?_)
   | (with_reducible refine LeO.bind ?_ (fun _=>?_))
   | exact ih0 _ _ _
   | exact ih1 _
   | exact ih2 _
   | exact ih3 _ _ _
   | exact ih4 _
   | exact ih5 _
   | exact spec_Lines.mono _ _
   | exact spec_common.mono _ _
   | exact spec_leading.mono _ _
   | exact LeO.none _
   | refine LeO.ite ?_ ?_
   | refine LeO.bind ?_ (fun _=>?_)
  ·intro y0
   unfold spec_BlockValue.j4
   repeat' first
   | (with_reducible exact ih0 _ _ _)
   | (with_reducible exact ih1 _)
   | (with_reducible exact ih2 _)
   | (with_reducible exact ih3 _ _ _)
   | (with_reducible exact ih4 _)
   | (with_reducible exact ih5 _)
   | (with_reducible exact spec_Lines.mono _ _)
   | (with_reducible exact spec_common.mono _ _)
   | (with_reducible exact spec_leading.mono _ _)
   | (with_reducible exact LeO.refl _)
   | (with_reducible exact LeO.none _)
   | (with_reducible refine LeO.ite ?_ ?_)
   | (with_reducible refine LeO.bind ?_ (fun _=>?_))
   | exact ih0 _ _ _
   | exact ih1 _
   | exact ih2 _
   | exact ih3 _ _ _
   | exact ih4 _
   | exact ih5 _
   | exact spec_Lines.mono _ _
   | exact spec_common.mono _ _
   | exact spec_leading.mono _ _
   | exact LeO.none _
   | refine LeO.ite ?_ ?_
   | refine LeO.bind ?_ (fun _=>?_)
  ·intro y0 y1 y2
   unfold spec_BlockValue.l3
   repeat' first
   | (with_reducible exact ih0 _ _ _)
   | (with_reducible exact ih1 _)
   | (with_reducible exact ih2 _)
   | (with_reducible exact ih3 _ _ _)
   | (with_reducible exact ih4 _)
   | (with_reducible exact ih5 _)
   | (with_reducible exact spec_Lines.mono _ _)
   | (with_reducible exact spec_common.mono _ _)
   | (with_reducible exact spec_leading.mono _ _)
   | (with_reducible exact LeO.refl _)
   | (with_reducible exact LeO.none _)
   | (with_reducible refine LeO.ite ?_ ?_)
   | (with_reducible refine LeO.bind ?_ (fun _=>?_))
   | exact ih0 _ _ _
   | exact ih1 _
   | exact ih2 _
   | exact ih3 _ _ _
   | exact ih4 _
   | exact ih5 _
   | exact spec_Lines.mono _ _
   | exact spec_common.mono _ _
   | exact spec_leading.mono _ _
   | exact LeO.none _
   | refine LeO.ite ?_ ?_
   | refine LeO.bind ?_ (fun _=>?_)
  ·intro y0
   unfold spec_BlockValue.l2
   repeat' first
   | (with_reducible exact ih0 _ _ _)
   | (with_reducible exact ih1 _)
   | (with_reducible exact ih2 _)
   | (with_reducible exact ih3 _ _ _)
   | (with_reducible exact ih4 _)
   | (with_reducible exact ih5 _)
   | (with_reducible exact spec_Lines.mono _ _)
   | (with_reducible exact spec_common.mono _ _)
   | (with_reducible exact spec_leading.mono _ _)
   | (with_reducible exact LeO.refl _)
   | (with_reducible exact LeO.none _)
   | (with_reducible refine LeO.ite ?_ ?_)
   | (with_reducible refine LeO.bind ?_ (fun _=>?_))
   | exact ih0 _ _ _
   | exact ih1 _
   | exact ih2 _
   | exact ih3 _ _ _
   | exact ih4 _
   | exact ih5 _
   | exact spec_Lines.mono _ _
   | exact spec_common.mono _ _
   | exact spec_leading.mono _ _
   | exact LeO.none _
   | refine LeO.ite ?_ ?_
   | refine LeO.bind ?_ (fun _=>?_)
  ·intro y0
   unfold spec_BlockValue.l1
   repeat' first
   | (with_reducible exact ih0 _ _ _)
   | (with_reducible exact ih1 _)
   | (with_reducible exact ih2 _)
   | (with_reducible exact ih3 _ _ _)
   | (with_reducible exact ih4 _)
   | (with_reducible exact ih5 _)
   | (with_reducible exact spec_Lines.mono _ _)
   | (with_reducible exact spec_common.mono _ _)
   | (with_reducible exact spec_leading.mono _ _)
   | (with_reducible exact LeO.refl _)
   | (with_reducible exact LeO.none _)
   | (with_reducible refine LeO.ite ?_ ?_)
   | (with_reducible refine LeO.bind ?_ (fun _=>?_))
   | exact ih0 _ _ _
   | exact ih1 _
   | exact ih2 _
   | exact ih3 _ _ _
   | exact ih4 _
   | exact ih5 _
   | exact spec_Lines.mono _ _
   | exact spec_common.mono _ _
   | exact spec_leading.mono _ _
   | exact LeO.none _
   | refine LeO.ite ?_ ?_
   | refine LeO.bind ?_ (fun _=>?_)
theorem spec_BlockValue.mono:∀a0 k,LeO (spec_BlockValue.f k a0) (spec_BlockValue.f (k+1) a0):=by
 intro a0 k;obtain⟨ih0,ih1,ih2,ih3,ih4,ih5⟩:=spec_BlockValue.mono_l k;unfold spec_BlockValue.f
 repeat' first
   | (with_reducible exact ih0 _ _ _)
   | (with_reducible exact ih1 _)
   | (with_reducible exact ih2 _)
   | (with_reducible exact ih3 _ _ _)
   | (with_reducible exact ih4 _)
   | (with_reducible exact ih5 _)
   | (with_reducible exact spec_Lines.mono _ _)
   | (with_reducible exact spec_common.mono _ _)
   | (with_reducible exact spec_leading.mono _ _)
   | (with_reducible exact LeO.refl _)
   | (with_reducible exact LeO.none _)
   | (with_reducible refine LeO.ite ?_ ?_)
   | (with_reducible refine LeO.bind ?_ (fun _=>?_))
   | exact ih0 _ _ _
   | exact ih1 _
   | exact ih2 _
   | exact ih3 _ _ _
   | exact ih4 _
   | exact ih5 _
   | exact spec_Lines.mono _ _
   | exact spec_common.mono _ _
   | exact spec_leading.mono _ _
   | exact LeO.none _
   | refine LeO.ite ?_ ?_
   | refine LeO.bind ?_ (fun _=>?_)
def spec_BlockValue.T6:Bool×List (List Nat×List Nat):=(true,[([],[]),([],[]),([],[]),([],[]),([2,3],[2,3]),([4],[4]),([],[]),([],[]),([],[]),([7,8],[7,8]),([9],[9]),([10],[10]),([6,11],[6,11]),([5,12],[5,12]),([0,1,0,1,2,3,4,5,6,7,8,9,10,11,12,13],[0,1]),([14,13,0,1,2,3,4,5,6,7,8,9,10,11,12,13],[13,14])])
def spec_BlockValue.B6:List Nat:=[0,0,0,0,12,28,0,0,0,384,896,1920,4032,8188,16383,32767]
theorem spec_BlockValue.tab6:rtab .any (opsOf Tryz.f60 6)=spec_BlockValue.T6:=by kernel_rfl
theorem spec_BlockValue.bits6:waitsOk spec_BlockValue.T6.2 spec_BlockValue.B6=true:=by kernel_rfl
theorem spec_BlockValue.calls (k:Nat) (a0:ByteArray) (r:ByteArray) (w:World) (h:spec_BlockValue.f k a0=some r) :
  Calls Tryz.prog 60 #[.string a0] w fun e w'=>e = .returned (.string r)∧Below w.heap.size w w':=by
 have HB:=aK (Below.refl w.heap.size w);have H:((spec_Lines.f k a0).bind fun t189=>((spec_common.f k t189).bind fun t192=>(spec_BlockValue.l0 k t189 t192 1)))=some r:=h;clear h;replace H:=Option.bind_eq_some_iff.mp H;obtain⟨t189,A20,H⟩:=H;replace H:((spec_common.f k t189).bind fun t192=>(spec_BlockValue.l0 k t189 t192 1))=some r:=H;have A2:=aK A20;clear A20;replace H:=Option.bind_eq_some_iff.mp H;obtain⟨t192,A30,H⟩:=H;replace H:(spec_BlockValue.l0 k t189 t192 1)=some r:=H;have A3:=aK A30;clear A30;have H':=aK H;clear H;go_enter Tryz.func60,Tryz.ntmps60
 go_wp2_with (first|((with_reducible refine gate_callee (f:=75) rfl ?_);refine goesL_ (some 9) rfl rfl Tryz.func75 (by kernel_rfl) rfl #[.string a0] rfl (by(try simp only[List.map_toArray,List.map_cons,List.map_nil]);first|done|rfl|(simp only[List.length_drop,List.length_take];rfl)) ?_;(with_reducible refine(spec_Lines.calls k a0 t189 _ A2.out).mono ?_);rintro e w4 ⟨v190,rfl,ho0,hb⟩;refine⟨_,rfl,?_⟩;have n0_:=aK (Kd.R_lower ho0 (below_size vB));have n1_:=aK (below_step vB hb);clear HB;have HO191:=n0_;have HB:=n1_;clear n0_ n1_;(try clear hb);(try clear hb2);(try clear hk);(try clear hi);(try clear ho0);obtain⟨Ao5,co5,eo5⟩:=Kd.R_slice HO191.out;subst eo5)|((with_reducible refine gate_callee (f:=76) rfl ?_);refine goesL_ (some 11) rfl rfl Tryz.func76 (by kernel_rfl) rfl #[.slice Ao5 t189.length co5] rfl (by(try simp only[List.map_toArray,List.map_cons,List.map_nil]);first|done|rfl|(simp only[List.length_drop,List.length_take];rfl)) ?_;(with_reducible refine(spec_common.calls k _ _ t189 t192 _ ?side1 ?side2 A3.out).mono ?_);(case side1=>repeat (first|exact(Kd.R_reads' HO191.out).2.2|(with_reducible refine Kd.C_alloc ?_ _)|(with_reducible refine Kd.C_drewN ?_ _)|(with_reducible refine Kd.C_drew ?_)));(case side2=>exact(Kd.R_reads' HO191.out).2.1);rintro e w6 ⟨rfl,hb⟩;refine⟨_,rfl,?_⟩;have n0_:=aK (Kd.R_below (by(with_reducible repeat (first|apply Kd.R_alloc|apply Kd.R_drewN|apply Kd.R_drew));exact HO191.out) hb);have n1_:=aK (below_step vB hb);clear HO191;clear HB;have HO191:=n0_;have HB:=n1_;clear n0_ n1_;(try clear hb);(try clear hb2);(try clear hk);(try clear hi)))
 go_loopg [5] k (fun kq v5 w'=>∃(x3_1:List ByteArray) (x5_1:Int),v5 = .int .i64 x5_1∧Aside0 (spec_BlockValue.l0 kq x3_1 t192 x5_1=some r)∧Aside0 (kq≤k)∧Aside0 (Kd.Q Kd.string 9 w' w.heap.size (fun _=>True) (.slice Ao5 t189.length co5) x3_1)∧Aside0 (Below w.heap.size w w'))
 case atStart=>exact⟨(t189),(1),vR,H',⟨Nat.le_refl _⟩,⟨Kd.Q_of_R (by(with_reducible repeat (first|apply Kd.R_alloc|apply Kd.R_drewN|apply Kd.R_drew));exact HO191.out)⟩,⟨vB⟩⟩
 case round=>
  clear H'
  (try clear p2);(try clear c6)
  obtain⟨x3_1,x5_1,rfl,HA,HK1,HO_3,HB⟩:=hrel;have hl3_1:=(Kd.Q_reads' HO_3.out).1;rw[hl3_1]at HO_3
  (try simp only[hl3_1])
  cases gk with
  | zero=>exact absurd HA.out (by simp[spec_BlockValue.l0])
  | succ k1=>
   have H:=HA.out;clear HA;simp only[spec_BlockValue.l0]at H
   by_cases c7:x5_1<(x3_1.length:Int)
   ·rw[if_pos c7]at H
    have c7b0:decide (x5_1<(x3_1.length:Int))=true:=decide_eq_true c7;clear c7
    by_cases c8:0≤x5_1
    ·rw[if_pos c8]at H
     have c8b0:decide (0≤x5_1)=true:=decide_eq_true c8;clear c8;obtain⟨ji9,hji9⟩:∃j_:Int,(mn t192 ((rdOf ByteArray.empty x3_1 x5_1).size:Int))=j_:=⟨_,rfl⟩;replace H:(if 0≤(ji9)then(if (ji9)≤((rdOf ByteArray.empty x3_1 x5_1).size:Int)then(spec_BlockValue.l0 k1 (x3_1.set (x5_1:Int).toNat ((rdOf ByteArray.empty x3_1 x5_1).extract ((ji9):Int).toNat (rdOf ByteArray.empty x3_1 x5_1).size)) t192 (wrap64 (x5_1+1)))else(none))else(none))=some r:=by first|(rw[hji9]at H;exact H)|(simp only[hji9]at H ⊢;exact H)
     have hji9_:(if ((rdOf ByteArray.empty x3_1 x5_1).size:Int)<t192 then((rdOf ByteArray.empty x3_1 x5_1).size:Int)else t192)=ji9:=hji9
     by_cases c10:0≤(ji9)
     ·rw[if_pos c10]at H
      have c10b0:=eq_true c10;have c10b1:decide (0≤(ji9))=true:=decide_eq_true c10;clear c10
      by_cases c11:(ji9)≤((rdOf ByteArray.empty x3_1 x5_1).size:Int)
      ·rw[if_pos c11]at H
       have c11b0:=eq_true c11;have c11b1:decide ((ji9)≤((rdOf ByteArray.empty x3_1 x5_1).size:Int))=true:=decide_eq_true c11;clear c11;obtain⟨y195,hy195⟩:∃y_:List ByteArray,y_=(x3_1.set (x5_1:Int).toNat ((rdOf ByteArray.empty x3_1 x5_1).extract ((ji9):Int).toNat (rdOf ByteArray.empty x3_1 x5_1).size)):=⟨_,rfl⟩;replace H:(spec_BlockValue.l0 k1 y195 t192 (wrap64 (x5_1+1)))=some r:=by first|(rw[hy195];with_reducible exact H)|(have H2_:=(Option.bind_some _ _).symm.trans H;rw[hy195];with_reducible exact H2_)|(have H2_:=(Option.bind_some _ _).symm.trans H;with_reducible exact H2_)|with_reducible exact H|(rw[hy195];exact H)|exact H
       have Ny195:=aK hy195;clear hy195;have H':=aK H;clear H
       try go_wp2
       have n0_:=aK (Kd.Q_drew HO_3.out);have n1_:=aK (below_drew1 HB.out);clear HO_3 HB;have HO_3:=n0_;have HB:=n1_;clear n0_ n1_;have p193:0≤(x5_1:Int):=of_decide_eq_true vA;have q193:x5_1<(x3_1.length:Int):=of_decide_eq_true vA;obtain⟨ad193,e193,hx193_0⟩:=Kd.at_string (Kd.Q_reads' HO_3.out).2.2 x5_1 p193 q193;cases e193;replace p193:=eq_true p193;replace q193:=eq_true q193;have p194:0≤(x5_1:Int):=of_decide_eq_true vA;have q194:x5_1<(x3_1.length:Int):=of_decide_eq_true vA;obtain⟨ad194,e194,hx194_0⟩:=Kd.at_string (Kd.Q_reads' HO_3.out).2.2 x5_1 p194 q194;obtain rfl:ad193=ad194:=(by injection e194)
       replace p194:=eq_true p194;replace q194:=eq_true q194;have p12:0≤(x5_1:Int):=of_decide_eq_true vA;have q12:(x5_1:Int)<((x3_1.length:Int):Int):=of_decide_eq_true vA;obtain⟨go12,oo12,co12,eo12,gb12,gl12,cl12,HG12⟩:=Kd.Q_form HO_3.out (by omega)
       (first|cases eo12|(injection eo12 with ea_ en_ ec_;(first|subst ea_|(injection ea_ with ea_;subst ea_));subst ec_;clear en_))
       have GB12:=aK gb12;have GG12:=aK HG12;clear gb12 gl12 HG12
       (first|simp only[add_at]at hx193_0|skip)
       (first|simp only[add_at]at hx194_0|skip)
       obtain⟨hx12_0,hf12_0⟩:=Kd.Q_cell (⟨#[]⟩:ByteArray) HO_3.out (x5_1:Int) p12 q12;replace p12:=eq_true p12;replace q12:=eq_true q12;have HP14:=(Kd.Q_putg HO_3.out (x5_1:Int) (of_decide_eq_true vA) (by have h_:(x5_1:Int)<((x3_1.length:Int):Int):=of_decide_eq_true vA;first|exact h_|(have e_:=(Kd.Q_reads' HO_3.out).1;omega)|simpa using h_) ((rdOf ByteArray.empty x3_1 x5_1).extract ((ji9):Int).toNat (rdOf ByteArray.empty x3_1 x5_1).size)).1
       rw[←Ny195.out]at HP14;have HQ14:=aK HP14;clear HP14;refine start_ (n:=16) (S:=fun w'=>w'.cell? ⟨go12,oo12+(x5_1).toNat,none⟩=some (.string (rdOf ByteArray.empty x3_1 x5_1))∧w'.cell? ⟨go12,oo12+(x5_1).toNat,none⟩=some (.string (rdOf ByteArray.empty x3_1 x5_1))) (ds:=[15]) #[false,false,false,false,false,false,false,false,false,false,false,false,false,false,false,false] (by kernel_rfl) rfl rfl ⟨hx193_0,hx194_0⟩ (fun hHeld=>?_);refine with_tabW spec_BlockValue.tab6 spec_BlockValue.bits6 (fun HT_ HW_=>?_)
       generalize wr.drew=w13 at HO_3 HB GG12 HQ14 hf12_0 hx12_0 hx193_0 hx194_0 hHeld ⊢;refine pure_ (i:=0) (N:=some 18) (v:=?_) (a':=?_) #[true,false,false,false,false,false,false,false,false,false,false,false,false,false,false,false] rfl rfl (any_of HT_.out (by kernel_rfl)) (fun _ _ _ h=>h) (Or.inl ⟨by rfl,?_⟩) ?_ ?_
       rotate_left;intro w';go_simp;with_reducible rfl;rotate_left;simp only[Act.put,List.setIfInBounds_toArray,List.set_cons_zero,List.set_cons_succ,i64_w,i32_w];rfl
       refine pure_ (i:=1) (N:=some 19) (v:=?_) (a':=?_) #[true,true,false,false,false,false,false,false,false,false,false,false,false,false,false,false] rfl rfl (any_of HT_.out (by kernel_rfl)) (fun _ _ _ h=>h) (Or.inl ⟨by rfl,?_⟩) ?_ ?_
       rotate_left;intro w';go_simp;with_reducible rfl;rotate_left;simp only[Act.put,List.setIfInBounds_toArray,List.set_cons_zero,List.set_cons_succ,i64_w,i32_w];rfl
       refine pure_ (i:=2) (N:=some 20) (v:=?_) (a':=?_) #[true,true,true,false,false,false,false,false,false,false,false,false,false,false,false,false] rfl rfl (any_of HT_.out (by kernel_rfl)) (fun _ _ _ h=>h) (Or.inl ⟨by rfl,?_⟩) ?_ ?_
       rotate_left;intro w';go_simp;with_reducible rfl;rotate_left;simp only[Act.put,List.setIfInBounds_toArray,List.set_cons_zero,List.set_cons_succ,i64_w,i32_w];rfl
       refine pure_ (i:=3) (N:=some 21) (v:=?_) (a':=?_) #[true,true,true,true,false,false,false,false,false,false,false,false,false,false,false,false] rfl rfl (any_of HT_.out (by kernel_rfl)) (fun _ _ _ h=>h) (Or.inl ⟨by rfl,?_⟩) ?_ ?_
       rotate_left;intro w';go_simp;with_reducible rfl;rotate_left;simp only[Act.put,List.setIfInBounds_toArray,List.set_cons_zero,List.set_cons_succ,i64_w,i32_w];rfl
       refine pure_ (i:=4) (N:=some 22) (v:=?_) (a':=?_) #[true,true,true,true,true,false,false,false,false,false,false,false,false,false,false,false] rfl rfl (any_of HT_.out (by kernel_rfl)) (fun _ _ _ h=>h) (Or.inl ⟨by rfl,?_⟩) ?_ ?_
       rotate_left;intro w';go_simp;with_reducible rfl;rotate_left;simp only[Act.put,List.setIfInBounds_toArray,List.set_cons_zero,List.set_cons_succ,i64_w,i32_w];rfl
       refine pure_ (i:=6) (N:=some 24) (v:=?_) (a':=?_) #[true,true,true,true,true,false,true,false,false,false,false,false,false,false,false,false] rfl rfl (any_of HT_.out (by kernel_rfl)) (fun _ _ _ h=>h) (Or.inl ⟨by rfl,?_⟩) ?_ ?_
       rotate_left;intro w';go_simp;with_reducible rfl;rotate_left;simp only[Act.put,List.setIfInBounds_toArray,List.set_cons_zero,List.set_cons_succ,i64_w,i32_w];rfl
       refine pure_ (i:=7) (N:=some 25) (v:=?_) (a':=?_) #[true,true,true,true,true,false,true,true,false,false,false,false,false,false,false,false] rfl rfl (any_of HT_.out (by kernel_rfl)) (fun _ _ _ h=>h) (Or.inl ⟨by rfl,?_⟩) ?_ ?_
       rotate_left;intro w';go_simp;with_reducible rfl;rotate_left;simp only[Act.put,List.setIfInBounds_toArray,List.set_cons_zero,List.set_cons_succ,i64_w,i32_w];rfl
       refine pure_ (i:=8) (N:=some 26) (v:=?_) (a':=?_) #[true,true,true,true,true,false,true,true,true,false,false,false,false,false,false,false] rfl rfl (any_of HT_.out (by kernel_rfl)) (fun _ _ _ h=>h) (Or.inl ⟨by rfl,?_⟩) ?_ ?_
       rotate_left;intro w';go_simp;with_reducible rfl;rotate_left;simp only[Act.put,List.setIfInBounds_toArray,List.set_cons_zero,List.set_cons_succ,i64_w,i32_w];rfl
       refine pure_ (i:=9) (N:=some 27) (v:=?_) (a':=?_) #[true,true,true,true,true,false,true,true,true,true,false,false,false,false,false,false] rfl rfl (any_of HT_.out (by kernel_rfl)) (fun _ _ _ h=>h) (Or.inl ⟨by rfl,?_⟩) ?_ ?_
       rotate_left;intro w';go_simp;with_reducible rfl;rotate_left;simp only[Act.put,List.setIfInBounds_toArray,List.set_cons_zero,List.set_cons_succ,i64_w,i32_w];rfl
       refine take_ (i:=5) (N:=some 23) (v:=?_) (a':=?_) #[true,true,true,true,true,true,true,true,true,true,false,false,false,false,false,false] rfl rfl (take_ofW HT_.out HW_.out (by kernel_rfl)) (fun _ _ _ h=>h) (Or.inl ⟨by rfl,?_⟩) hHeld ?_ ?_
       rotate_left
       ·rintro w' ⟨s0,s1⟩
        go_simp
        with_reducible rfl
       rotate_left
       ·simp only[Act.put,List.setIfInBounds_toArray,List.set_cons_zero,List.set_cons_succ,i64_w,i32_w]
        rfl
       refine take_ (i:=10) (N:=some 28) (v:=?_) (a':=?_) #[true,true,true,true,true,true,true,true,true,true,true,false,false,false,false,false] rfl rfl (take_ofW HT_.out HW_.out (by kernel_rfl)) (fun _ _ _ h=>h) (Or.inl ⟨by rfl,?_⟩) hHeld ?_ ?_
       rotate_left
       ·rintro w' ⟨s0,s1⟩
        go_simp
        with_reducible rfl
       rotate_left
       ·simp only[Act.put,List.setIfInBounds_toArray,List.set_cons_zero,List.set_cons_succ,i64_w,i32_w]
        rfl
       refine pure_ (i:=11) (N:=some 29) (v:=?_) (a':=?_) #[true,true,true,true,true,true,true,true,true,true,true,true,false,false,false,false] rfl rfl (any_of HT_.out (by kernel_rfl)) (fun _ _ _ h=>h) (Or.inl ⟨by rfl,?_⟩) ?_ ?_
       rotate_left;intro w';go_simp;with_reducible rfl;rotate_left;simp only[Act.put,List.setIfInBounds_toArray,List.set_cons_zero,List.set_cons_succ,i64_w,i32_w];rfl
       refine pure_ (i:=12) (N:=some 30) (v:=?_) (a':=?_) #[true,true,true,true,true,true,true,true,true,true,true,true,true,false,false,false] rfl rfl (any_of HT_.out (by kernel_rfl)) (fun _ _ _ h=>h) (Or.inl ⟨by rfl,?_⟩) ?_ ?_
       rotate_left;intro w';go_simp;with_reducible rfl;rotate_left;simp only[Act.put,List.setIfInBounds_toArray,List.set_cons_zero,List.set_cons_succ,i64_w,i32_w];rfl
       refine pure_ (i:=13) (N:=some 31) (v:=?_) (a':=?_) #[true,true,true,true,true,true,true,true,true,true,true,true,true,true,false,false] rfl rfl (any_of HT_.out (by kernel_rfl)) (fun _ _ _ h=>h) (Or.inl ⟨by rfl,?_⟩) ?_ ?_
       rotate_left;intro w';go_simp;with_reducible rfl;rotate_left;simp only[Act.put,List.setIfInBounds_toArray,List.set_cons_zero,List.set_cons_succ,i64_w,i32_w];rfl
       refine pure_ (i:=14) (N:=some 32) (v:=?_) (a':=?_) #[true,true,true,true,true,true,true,true,true,true,true,true,true,true,true,false] rfl rfl (any_of HT_.out (by kernel_rfl)) (fun _ _ _ h=>h) (Or.inl ⟨by rfl,?_⟩) ?_ ?_
       rotate_left;intro w';go_simp;with_reducible rfl;rotate_left;simp only[Act.put,List.setIfInBounds_toArray,List.set_cons_zero,List.set_cons_succ,i64_w,i32_w];rfl
       refine last_ (i:=15) (N:=none) #[true,true,true,true,true,true,true,true,true,true,true,true,true,true,true,true] rfl rfl (one_of HT_.out (by kernel_rfl)) (by decide) (fun K hK=>?_)
       refine skip_ (w1:=?_) (by rfl) rfl ?_ ?_
       rotate_left
       ·go_simp
        rfl
       refine hK.out _ _ ?_;clear hK K;refine done_ (done_of HT_.out (by kernel_rfl)) ?_
       try go_wp2
       (try simp only[←hl3_1])
       go_roundg k1
       case measure=>have:=HK1.out;omega
       case rel=>exact⟨(y195),(wrap64 (x5_1+1)),vR,H',⟨by have:=HK1.out;omega⟩,⟨by(try simp only[hl3_1]);(with_reducible repeat (first|apply Kd.Q_alloc|apply Kd.Q_drewN|apply Kd.Q_drew));exact HQ14.out⟩,⟨by repeat (first|(with_reducible first|exact HB.out|apply below_alloc|apply pw_below_drewN|apply below_drew1|refine below_set ?_ GB12.out)|exact HB.out)⟩⟩
      ·rw[if_neg c11]at H
       exact absurd H (by simp)
     ·rw[if_neg c10]at H
      exact absurd H (by simp)
    ·rw[if_neg c8]at H
     exact absurd H (by simp)
   ·rw[if_neg c7]at H
    have c7b0:decide (x5_1<(x3_1.length:Int))=false:=decide_eq_false c7;clear c7;have HC15:=aK H;clear H
    go_upto_block 2 with(fail)
    go_cut [3] (fun v3 wc=>∃(kq:Nat) (x3_14:List ByteArray),Aside0 (spec_BlockValue.j2 kq x3_14=some r)∧Aside0 (kq≤k1)∧Aside0 (Kd.Q Kd.string 9 wc w.heap.size (fun _=>True) v3 x3_14)∧Aside0 (Below w.heap.size w wc))
    case first=>
     have H:=HC15.out;clear HC15;have H':=aK H;clear H;go_wp2
     go_loopg [3] k1 (fun kq v3 w'=>∃(x3_2:List ByteArray),Aside0 (spec_BlockValue.l1 kq x3_2=some r)∧Aside0 (kq≤k1)∧Aside0 (Kd.Q Kd.string 9 w' w.heap.size (fun _=>True) v3 x3_2)∧Aside0 (Below w.heap.size w w'))
     case atStart=>exact⟨(x3_1),H',⟨Nat.le_refl _⟩,⟨by(try simp only[hl3_1]);(with_reducible repeat (first|apply Kd.Q_alloc|apply Kd.Q_drewN|apply Kd.Q_drew));exact HO_3.out⟩,⟨vB⟩⟩
     case round=>
      clear H'
      (try clear c1);(try clear p1);(try clear q1);(try clear hx1);(try clear hf1);(try clear p2);(try clear c6);(try clear p6);(try clear c7);(try clear c7b0);(try clear c8);(try clear c8b0);(try clear c10);(try clear c10b0);(try clear c10b1);(try clear c11);(try clear c11b0);(try clear c11b1);(try clear p12);(try clear q12);(try clear hx12);(try clear hf12);(try clear hx12_0);(try clear hx193_0);(try clear hx194_0);(try clear p12);(try clear p193);(try clear p194);(try clear p2);(try clear q12);(try clear q193);(try clear q194)
      obtain⟨x3_2,HA,HK2,HO_3,HB⟩:=hrel;cases gk with
      | zero=>exact absurd HA.out (by simp[spec_BlockValue.l1])
      | succ k2=>
       have H:=HA.out;clear HA;simp only[spec_BlockValue.l1]at H
       by_cases c16:(x3_2.length:Int)>0
       ·rw[if_pos c16]at H
        have c16b0:decide (0<(x3_2.length:Int))=true:=decide_eq_true c16;have c16b1:decide (0<x3_2.length)=true:=decide_eq_true (by omega)
        clear c16
        (first|rw[c16b0]|(simp only[i64_w,i32_w];rw[c16b0])|skip)
        by_cases c17:0<(x3_2.length:Int)
        ·rw[if_pos c17]at H
         have c17b0:decide (0<(x3_2.length:Int))=true:=decide_eq_true c17;have c17b1:decide (0<x3_2.length)=true:=decide_eq_true (by omega)
         clear c17;replace H:=Option.bind_eq_some_iff.mp H;obtain⟨t197,A180,H⟩:=H;replace H:(if t197=((rdOf ByteArray.empty x3_2 0).size:Int)then(if 1≤(x3_2.length:Int)then(spec_BlockValue.l1 k2 (x3_2.drop (1:Int).toNat))else(none))else(spec_BlockValue.j2 k2 x3_2))=some r:=H
         have A18:=aK A180;clear A180
         by_cases c19:t197=((rdOf ByteArray.empty x3_2 0).size:Int)
         ·rw[if_pos c19]at H
          have c19b0:(t197==((rdOf ByteArray.empty x3_2 0).size:Int))=true:=beq_iff_eq.mpr c19;have c19b1:(t197 != ((rdOf ByteArray.empty x3_2 0).size:Int))=false:=bne_eq_false_iff_eq.mpr c19;clear c19
          by_cases c20:1≤(x3_2.length:Int)
          ·rw[if_pos c20]at H
           have c20b0:=eq_true c20;have c20b1:decide (1≤(x3_2.length:Int))=true:=decide_eq_true c20;clear c20;obtain⟨y199,hy199⟩:∃y_:List ByteArray,y_=(x3_2.drop (1:Int).toNat):=⟨_,rfl⟩;replace H:(spec_BlockValue.l1 k2 y199)=some r:=by first|(rw[hy199];with_reducible exact H)|(have H2_:=(Option.bind_some _ _).symm.trans H;rw[hy199];with_reducible exact H2_)|(have H2_:=(Option.bind_some _ _).symm.trans H;with_reducible exact H2_)|with_reducible exact H|(rw[hy199];exact H)|exact H
           have Ny199:=aK hy199;clear hy199;have H':=aK H;clear H
           try go_wp2
           obtain⟨Ao22,co22,eo22,_⟩:=Kd.Q_slice HO_3.out
           (first|subst eo22|(injection eo22 with f1_ f2_ f3_;have f4_:=f1_.symm;have f5_:=f3_.symm;clear f1_ f2_ f3_;subst f4_;subst f5_))
           have p196:0≤(0:Int):=(by omega)
           have q196:0<(x3_2.length:Int):=of_decide_eq_true vA;obtain⟨ad196,e196,hx196_0⟩:=Kd.at_string (Kd.Q_reads' HO_3.out).2.2 0 p196 q196;cases e196;have qi196:(0<x3_2.length)=True:=eq_true (by omega)
           (try rw[show((0:Int)).toNat=0 from rfl]at hx196_0)
           (try rw[Addr.add_zero']at hx196_0)
           replace p196:=eq_true p196;replace q196:=eq_true q196;have p198:0≤(0:Int):=(by omega)
           have q198:0<(x3_2.length:Int):=of_decide_eq_true vA;obtain⟨ad198,e198,hx198_0⟩:=Kd.at_string (Kd.Q_reads' HO_3.out).2.2 0 p198 q198;obtain rfl:ad196=ad198:=(by injection e198)
           have qi198:(0<x3_2.length)=True:=eq_true (by omega)
           (try rw[show((0:Int)).toNat=0 from rfl]at hx198_0)
           (try rw[Addr.add_zero']at hx198_0)
           replace p198:=eq_true p198;replace q198:=eq_true q198;replace hx196_0:wr.cell? _=_:=hx196_0;replace hx198_0:wr.cell? _=_:=hx198_0
           go_quiet (first|(go_at_call 77;(with_reducible refine(spec_leading.calls k2 (rdOf ByteArray.empty x3_2 0) t197 _ A18.out).mono ?_);rintro e w' ⟨rfl,⟨nd,rfl⟩⟩;(try first|exact⟨rfl,_,World.drewN_drewN _ _ _⟩|exact⟨rfl,_,Eq.trans (World.drewN_drewN _ _ _) (congrArg (World.drewN _) (Nat.add_assoc _ _ _))⟩)))
           have q23:(1:Int)≤((x3_2.length:Int):Int):=of_decide_eq_true vA;obtain⟨i023,hi023,_,hsz23,_⟩:=info_parts info9;have hcut23:=cut_from (P:=Tryz.prog) 25 9 .i64 Tryz.underlying25 hi023 1 hsz23 (some ad196) x3_2.length co22 1 (by omega) q23
           have hr23:=Kd.Q_drop (k:=(1:Int).toNat) HO_3.out (by omega)
           obtain⟨A23,hA23⟩:∃A1,A1=(if co22=(1:Int).toNat then(some ad196)else((some ad196):Option Addr).map (·.add ((1:Int).toNat*1))):=⟨_,rfl⟩
           obtain⟨c23,hc23⟩:∃c1,c1=co22-(1:Int).toNat:=⟨_,rfl⟩;have hy23:y199.length=x3_2.length-(1:Int).toNat:=(by rw[Ny199.out,List.length_drop])
           rw[←Ny199.out]at hr23;rw[←hy23,←hA23,←hc23]at hcut23;replace hr23:Kd.Q Kd.string 9 wr w.heap.size (fun _=>True) (.slice A23 y199.length c23) y199:=(by rw[hA23,hc23,hy23];exact hr23)
           have HE23:Aside0 ((Value.slice A23 y199.length c23).ownBlock=(.slice (some ad196) x3_2.length co22:Value).ownBlock):=⟨by rw[hA23];split<;>(cases((some ad196):Option Addr)<;>rfl)⟩
           clear hy23 hi023 hsz23 HO_3 hA23 hc23;have HO201:=aK hr23;clear hr23;replace q23:=eq_true q23
           try go_wp2
           go_roundg k2
           case measure=>have:=HK1.out;have:=HK2.out;omega
           case rel=>exact⟨(y199),H',⟨by have:=HK1.out;have:=HK2.out;omega⟩,⟨by(try simp only[hl3_1]);(with_reducible repeat (first|apply Kd.Q_alloc|apply Kd.Q_drewN|apply Kd.Q_drew));exact HO201.out⟩,⟨vB⟩⟩
          ·rw[if_neg c20]at H
           exact absurd H (by simp)
         ·rw[if_neg c19]at H
          have c19b0:(t197==((rdOf ByteArray.empty x3_2 0).size:Int))=false:=beq_eq_false_iff_ne.mpr c19;have c19b1:(t197 != ((rdOf ByteArray.empty x3_2 0).size:Int))=true:=bne_iff_ne.mpr c19;have H':=aK H;clear H
          try go_wp2
          obtain⟨Ao25,co25,eo25,_⟩:=Kd.Q_slice HO_3.out
          (first|subst eo25|(injection eo25 with f1_ f2_ f3_;have f4_:=f1_.symm;have f5_:=f3_.symm;clear f1_ f2_ f3_;subst f4_;subst f5_))
          have p196:0≤(0:Int):=(by omega)
          have q196:0<(x3_2.length:Int):=of_decide_eq_true vA;obtain⟨ad196,e196,hx196_0⟩:=Kd.at_string (Kd.Q_reads' HO_3.out).2.2 0 p196 q196;cases e196;have qi196:(0<x3_2.length)=True:=eq_true (by omega)
          (try rw[show((0:Int)).toNat=0 from rfl]at hx196_0)
          (try rw[Addr.add_zero']at hx196_0)
          replace p196:=eq_true p196;replace q196:=eq_true q196;have p198:0≤(0:Int):=(by omega)
          have q198:0<(x3_2.length:Int):=of_decide_eq_true vA;obtain⟨ad198,e198,hx198_0⟩:=Kd.at_string (Kd.Q_reads' HO_3.out).2.2 0 p198 q198;obtain rfl:ad196=ad198:=(by injection e198)
          have qi198:(0<x3_2.length)=True:=eq_true (by omega)
          (try rw[show((0:Int)).toNat=0 from rfl]at hx198_0)
          (try rw[Addr.add_zero']at hx198_0)
          replace p198:=eq_true p198;replace q198:=eq_true q198;replace hx196_0:wr.cell? _=_:=hx196_0;replace hx198_0:wr.cell? _=_:=hx198_0
          go_quiet (first|(go_at_call 77;(with_reducible refine(spec_leading.calls k2 (rdOf ByteArray.empty x3_2 0) t197 _ A18.out).mono ?_);rintro e w' ⟨rfl,⟨nd,rfl⟩⟩;(try first|exact⟨rfl,_,World.drewN_drewN _ _ _⟩|exact⟨rfl,_,Eq.trans (World.drewN_drewN _ _ _) (congrArg (World.drewN _) (Nat.add_assoc _ _ _))⟩)))
          try go_wp2
          go_meet
          case rel=>exact⟨_,(x3_2),H',⟨by have:=HK1.out;have:=HK2.out;first|omega|exact Nat.le_refl _⟩,⟨by(try simp only[hl3_1]);(with_reducible repeat (first|apply Kd.Q_alloc|apply Kd.Q_drewN|apply Kd.Q_drew));exact HO_3.out⟩,⟨vB⟩⟩
        ·rw[if_neg c17]at H
         exact absurd H (by simp)
       ·rw[if_neg c16]at H
        have c16b0:decide (0<(x3_2.length:Int))=false:=decide_eq_false c16;have c16b1:decide (0<x3_2.length)=false:=decide_eq_false (by omega)
        clear c16
        (first|rw[c16b0]|(simp only[i64_w,i32_w];rw[c16b0])|skip)
        have H':=aK H;clear H
        try go_wp2
        obtain⟨Ao27,co27,eo27,_⟩:=Kd.Q_slice HO_3.out
        (first|subst eo27|(injection eo27 with f1_ f2_ f3_;have f4_:=f1_.symm;have f5_:=f3_.symm;clear f1_ f2_ f3_;subst f4_;subst f5_))
        go_quiet (fail)
        try go_wp2
        go_meet
        case rel=>exact⟨_,(x3_2),H',⟨by have:=HK1.out;have:=HK2.out;first|omega|exact Nat.le_refl _⟩,⟨by(try simp only[hl3_1]);(with_reducible repeat (first|apply Kd.Q_alloc|apply Kd.Q_drewN|apply Kd.Q_drew));exact HO_3.out⟩,⟨vB⟩⟩
    case rest=>
     clear HC15
     (try clear c1);(try clear p1);(try clear q1);(try clear hx1);(try clear qi1);(try clear hf1);(try clear c2);(try clear p2);(try clear q2);(try clear c6);(try clear p6);(try clear c7);(try clear c7b0);(try clear c8);(try clear c8b0);(try clear c10);(try clear c10b0);(try clear c10b1);(try clear c11);(try clear c11b0);(try clear c11b1);(try clear p12);(try clear q12);(try clear hx12);(try clear hf12);(try clear c16);(try clear c16b0);(try clear c16b1);(try clear c17);(try clear c17b0);(try clear c17b1);(try clear c19);(try clear c19b0);(try clear c19b1);(try clear p19);(try clear q19);(try clear hx19);(try clear qi19);(try clear c20);(try clear c20b0);(try clear c20b1);(try clear c23);(try clear q23);(try clear hx12_0);(try clear hx193_0);(try clear hx194_0);(try clear hx196_0);(try clear hx198_0);(try clear p1);(try clear p12);(try clear p193);(try clear p194);(try clear p196);(try clear p198);(try clear p2);(try clear p6);(try clear q1);(try clear q12);(try clear q193);(try clear q194);(try clear q196);(try clear q198);(try clear q23)
     obtain⟨kq,x3_14,HA,HJ14,HO_3,HB⟩:=hcut;cases kq with
     | zero=>exact absurd HA.out (by simp[spec_BlockValue.j2])
     | succ kj14=>
      have H:=HA.out;clear HA;simp only[spec_BlockValue.j2]at H;have HC28:=aK H;clear H
      go_upto_block 4 with(fail)
      go_cut [3] (fun v3 wc=>∃(kq:Nat) (x3_27:List ByteArray),Aside0 (spec_BlockValue.j4 kq x3_27=some r)∧Aside0 (kq≤kj14)∧Aside0 (Kd.Q Kd.string 9 wc w.heap.size (fun _=>True) v3 x3_27)∧Aside0 (Below w.heap.size w wc))
      case first=>
       have H:=HC28.out;clear HC28;have H':=aK H;clear H;go_wp2
       go_loopg [3] kj14 (fun kq v3 w'=>∃(x3_3:List ByteArray),Aside0 (spec_BlockValue.l2 kq x3_3=some r)∧Aside0 (kq≤kj14)∧Aside0 (Kd.Q Kd.string 9 w' w.heap.size (fun _=>True) v3 x3_3)∧Aside0 (Below w.heap.size w w'))
       case atStart=>exact⟨(x3_14),H',⟨Nat.le_refl _⟩,⟨by(try simp only[hl3_1]);(with_reducible repeat (first|apply Kd.Q_alloc|apply Kd.Q_drewN|apply Kd.Q_drew));exact HO_3.out⟩,⟨vB⟩⟩
       case round=>
        clear H'
        (try clear c1);(try clear p1);(try clear q1);(try clear hx1);(try clear qi1);(try clear hf1);(try clear c2);(try clear p2);(try clear q2);(try clear c6);(try clear p6);(try clear c7);(try clear c7b0);(try clear c8);(try clear c8b0);(try clear c10);(try clear c10b0);(try clear c10b1);(try clear c11);(try clear c11b0);(try clear c11b1);(try clear p12);(try clear q12);(try clear hx12);(try clear hf12);(try clear c16);(try clear c16b0);(try clear c16b1);(try clear c17);(try clear c17b0);(try clear c17b1);(try clear c19);(try clear c19b0);(try clear c19b1);(try clear p19);(try clear q19);(try clear hx19);(try clear qi19);(try clear c20);(try clear c20b0);(try clear c20b1);(try clear c23);(try clear q23);(try clear hx12_0);(try clear hx193_0);(try clear hx194_0);(try clear hx196_0);(try clear hx198_0);(try clear p1);(try clear p12);(try clear p19);(try clear p193);(try clear p194);(try clear p196);(try clear p198);(try clear p2);(try clear p6);(try clear q1);(try clear q12);(try clear q19);(try clear q193);(try clear q194);(try clear q196);(try clear q198);(try clear q2);(try clear q23)
        obtain⟨x3_3,HA,HK3,HO_3,HB⟩:=hrel;cases gk with
        | zero=>exact absurd HA.out (by simp[spec_BlockValue.l2])
        | succ k3=>
         have H:=HA.out;clear HA;simp only[spec_BlockValue.l2]at H
         by_cases c29:(x3_3.length:Int)>0
         ·rw[if_pos c29]at H
          have c29b0:decide (0<(x3_3.length:Int))=true:=decide_eq_true c29;have c29b1:decide (0<x3_3.length)=true:=decide_eq_true (by omega)
          clear c29
          (first|rw[c29b0]|(simp only[i64_w,i32_w];rw[c29b0])|skip)
          obtain⟨ji30,hji30⟩:∃j_:Int,(wrap64 ((x3_3.length:Int)-1))=j_:=⟨_,rfl⟩;replace H:(if 0≤(ji30)then(if (ji30)<(x3_3.length:Int)then((spec_leading.f k3 (rdOf ByteArray.empty x3_3 (ji30))).bind fun t203=>(if t203=((rdOf ByteArray.empty x3_3 (ji30)).size:Int)then(if (ji30)≤(x3_3.length:Int)then(spec_BlockValue.l2 k3 (x3_3.take ((ji30):Int).toNat))else(none))else(spec_BlockValue.j4 k3 x3_3)))else(none))else(none))=some r:=by first|(rw[hji30]at H;exact H)|(simp only[hji30]at H ⊢;exact H)
          have hji30w:(IntKind.i64.wrap ((x3_3.length:Int)-1))=ji30:=(i64_w _).trans hji30
          by_cases c31:0≤(ji30)
          ·rw[if_pos c31]at H
           have c31b0:decide (0≤(ji30))=true:=decide_eq_true c31;clear c31
           by_cases c32:(ji30)<(x3_3.length:Int)
           ·rw[if_pos c32]at H
            have c32b0:decide ((ji30)<(x3_3.length:Int))=true:=decide_eq_true c32;clear c32;replace H:=Option.bind_eq_some_iff.mp H;obtain⟨t203,A330,H⟩:=H;replace H:(if t203=((rdOf ByteArray.empty x3_3 (ji30)).size:Int)then(if (ji30)≤(x3_3.length:Int)then(spec_BlockValue.l2 k3 (x3_3.take ((ji30):Int).toNat))else(none))else(spec_BlockValue.j4 k3 x3_3))=some r:=H
            have A33:=aK A330;clear A330
            by_cases c34:t203=((rdOf ByteArray.empty x3_3 (ji30)).size:Int)
            ·rw[if_pos c34]at H
             have c34b0:(t203==((rdOf ByteArray.empty x3_3 (ji30)).size:Int))=true:=beq_iff_eq.mpr c34;have c34b1:(t203 != ((rdOf ByteArray.empty x3_3 (ji30)).size:Int))=false:=bne_eq_false_iff_eq.mpr c34;clear c34
             by_cases c35:(ji30)≤(x3_3.length:Int)
             ·rw[if_pos c35]at H
              have c35b0:=eq_true c35;have c35b1:decide ((ji30)≤(x3_3.length:Int))=true:=decide_eq_true c35;clear c35;obtain⟨y205,hy205⟩:∃y_:List ByteArray,y_=(x3_3.take ((ji30):Int).toNat):=⟨_,rfl⟩;replace H:(spec_BlockValue.l2 k3 y205)=some r:=by first|(rw[hy205];with_reducible exact H)|(have H2_:=(Option.bind_some _ _).symm.trans H;rw[hy205];with_reducible exact H2_)|(have H2_:=(Option.bind_some _ _).symm.trans H;with_reducible exact H2_)|with_reducible exact H|(rw[hy205];exact H)|exact H
              have Ny205:=aK hy205;clear hy205;have H':=aK H;clear H
              try go_wp2
              obtain⟨Ao37,co37,eo37,_⟩:=Kd.Q_slice HO_3.out
              (first|subst eo37|(injection eo37 with f1_ f2_ f3_;have f4_:=f1_.symm;have f5_:=f3_.symm;clear f1_ f2_ f3_;subst f4_;subst f5_))
              have p202:0≤((ji30):Int):=of_decide_eq_true vA;have q202:(ji30)<(x3_3.length:Int):=of_decide_eq_true vA;obtain⟨ad202,e202,hx202_0⟩:=Kd.at_string (Kd.Q_reads' HO_3.out).2.2 (ji30) p202 q202;cases e202;replace p202:=eq_true p202;replace q202:=eq_true q202;have p204:0≤((ji30):Int):=of_decide_eq_true vA;have q204:(ji30)<(x3_3.length:Int):=of_decide_eq_true vA;obtain⟨ad204,e204,hx204_0⟩:=Kd.at_string (Kd.Q_reads' HO_3.out).2.2 (ji30) p204 q204;obtain rfl:ad202=ad204:=(by injection e204)
              replace p204:=eq_true p204;replace q204:=eq_true q204;replace hx202_0:wr.cell? _=_:=hx202_0;replace hx204_0:wr.cell? _=_:=hx204_0
              go_quiet (first|(go_at_call 77;(with_reducible refine(spec_leading.calls k3 (rdOf ByteArray.empty x3_3 (ji30)) t203 _ A33.out).mono ?_);rintro e w' ⟨rfl,⟨nd,rfl⟩⟩;(try first|exact⟨rfl,_,World.drewN_drewN _ _ _⟩|exact⟨rfl,_,Eq.trans (World.drewN_drewN _ _ _) (congrArg (World.drewN _) (Nat.add_assoc _ _ _))⟩)))
              have q38:((ji30):Int)≤((x3_3.length:Int):Int):=of_decide_eq_true vA;obtain⟨i038,hi038,_,hsz38,_⟩:=info_parts info9;have hcut38:=cut_to (P:=Tryz.prog) 25 9 .i64 Tryz.underlying25 hi038 (some ad202) x3_3.length co37 (ji30) (of_decide_eq_true vA) q38 (Kd.Q_reads' HO_3.out).2.1;have hr38:=Kd.Q_take (m:=((ji30):Int).toNat) HO_3.out (by omega)
              have hy38:y205.length=((ji30):Int).toNat:=(by rw[Ny205.out,List.length_take];omega)
              rw[←Ny205.out]at hr38;rw[←hy38]at hr38 hcut38;clear hy38 hi038 hsz38 HO_3;have HO207:=aK hr38;clear hr38;replace q38:=eq_true q38
              try go_wp2
              go_roundg k3
              case measure=>have:=HK1.out;have:=HJ14.out;have:=HK3.out;omega
              case rel=>exact⟨(y205),H',⟨by have:=HK1.out;have:=HJ14.out;have:=HK3.out;omega⟩,⟨by(try simp only[hl3_1]);(with_reducible repeat (first|apply Kd.Q_alloc|apply Kd.Q_drewN|apply Kd.Q_drew));exact HO207.out⟩,⟨vB⟩⟩
             ·rw[if_neg c35]at H
              exact absurd H (by simp)
            ·rw[if_neg c34]at H
             have c34b0:(t203==((rdOf ByteArray.empty x3_3 (ji30)).size:Int))=false:=beq_eq_false_iff_ne.mpr c34;have c34b1:(t203 != ((rdOf ByteArray.empty x3_3 (ji30)).size:Int))=true:=bne_iff_ne.mpr c34;have H':=aK H;clear H
             try go_wp2
             obtain⟨Ao40,co40,eo40,_⟩:=Kd.Q_slice HO_3.out
             (first|subst eo40|(injection eo40 with f1_ f2_ f3_;have f4_:=f1_.symm;have f5_:=f3_.symm;clear f1_ f2_ f3_;subst f4_;subst f5_))
             have p202:0≤((ji30):Int):=of_decide_eq_true vA;have q202:(ji30)<(x3_3.length:Int):=of_decide_eq_true vA;obtain⟨ad202,e202,hx202_0⟩:=Kd.at_string (Kd.Q_reads' HO_3.out).2.2 (ji30) p202 q202;cases e202;replace p202:=eq_true p202;replace q202:=eq_true q202;have p204:0≤((ji30):Int):=of_decide_eq_true vA;have q204:(ji30)<(x3_3.length:Int):=of_decide_eq_true vA;obtain⟨ad204,e204,hx204_0⟩:=Kd.at_string (Kd.Q_reads' HO_3.out).2.2 (ji30) p204 q204;obtain rfl:ad202=ad204:=(by injection e204)
             replace p204:=eq_true p204;replace q204:=eq_true q204;replace hx202_0:wr.cell? _=_:=hx202_0;replace hx204_0:wr.cell? _=_:=hx204_0
             go_quiet (first|(go_at_call 77;(with_reducible refine(spec_leading.calls k3 (rdOf ByteArray.empty x3_3 (ji30)) t203 _ A33.out).mono ?_);rintro e w' ⟨rfl,⟨nd,rfl⟩⟩;(try first|exact⟨rfl,_,World.drewN_drewN _ _ _⟩|exact⟨rfl,_,Eq.trans (World.drewN_drewN _ _ _) (congrArg (World.drewN _) (Nat.add_assoc _ _ _))⟩)))
             try go_wp2
             go_meet
             case rel=>exact⟨_,(x3_3),H',⟨by have:=HK1.out;have:=HJ14.out;have:=HK3.out;first|omega|exact Nat.le_refl _⟩,⟨by(try simp only[hl3_1]);(with_reducible repeat (first|apply Kd.Q_alloc|apply Kd.Q_drewN|apply Kd.Q_drew));exact HO_3.out⟩,⟨vB⟩⟩
           ·rw[if_neg c32]at H
            exact absurd H (by simp)
          ·rw[if_neg c31]at H
           exact absurd H (by simp)
         ·rw[if_neg c29]at H
          have c29b0:decide (0<(x3_3.length:Int))=false:=decide_eq_false c29;have c29b1:decide (0<x3_3.length)=false:=decide_eq_false (by omega)
          clear c29
          (first|rw[c29b0]|(simp only[i64_w,i32_w];rw[c29b0])|skip)
          have H':=aK H;clear H
          try go_wp2
          obtain⟨Ao42,co42,eo42,_⟩:=Kd.Q_slice HO_3.out
          (first|subst eo42|(injection eo42 with f1_ f2_ f3_;have f4_:=f1_.symm;have f5_:=f3_.symm;clear f1_ f2_ f3_;subst f4_;subst f5_))
          go_quiet (fail)
          try go_wp2
          go_meet
          case rel=>exact⟨_,(x3_3),H',⟨by have:=HK1.out;have:=HJ14.out;have:=HK3.out;first|omega|exact Nat.le_refl _⟩,⟨by(try simp only[hl3_1]);(with_reducible repeat (first|apply Kd.Q_alloc|apply Kd.Q_drewN|apply Kd.Q_drew));exact HO_3.out⟩,⟨vB⟩⟩
      case rest=>
       clear HC28
       (try clear p1);(try clear q1);(try clear hx1);(try clear c2);(try clear p2);(try clear q2);(try clear hx2);(try clear c3);(try clear q3);(try clear p6);(try clear c7);(try clear p12);(try clear q12);(try clear hx12);(try clear p19);(try clear q19);(try clear hx19);(try clear p20);(try clear q20);(try clear hx20);(try clear q23);(try clear c29);(try clear c29b0);(try clear c29b1);(try clear c31);(try clear c31b0);(try clear c32);(try clear c32b0);(try clear c34);(try clear c34b0);(try clear c34b1);(try clear c35);(try clear c35b0);(try clear c35b1);(try clear q38);(try clear hx12_0);(try clear hx193_0);(try clear hx194_0);(try clear hx196_0);(try clear hx198_0);(try clear hx202_0);(try clear hx204_0);(try clear p1);(try clear p12);(try clear p19);(try clear p193);(try clear p194);(try clear p196);(try clear p198);(try clear p2);(try clear p202);(try clear p204);(try clear p6);(try clear q1);(try clear q12);(try clear q19);(try clear q193);(try clear q194);(try clear q196);(try clear q198);(try clear q2);(try clear q202);(try clear q204);(try clear q23);(try clear q38)
       obtain⟨kq,x3_27,HA,HJ27,HO_3,HB⟩:=hcut;cases kq with
       | zero=>exact absurd HA.out (by simp[spec_BlockValue.j4])
       | succ kj27=>
        have H:=HA.out;clear HA;simp only[spec_BlockValue.j4]at H;have H':=aK H;clear H;go_wp2
        go_loopg [6,7] kj27 (fun kq v6 v7 w'=>∃(x6_4:ByteArray) (x7_4:Int),v6 = .string x6_4∧v7 = .int .i64 x7_4∧Aside0 (spec_BlockValue.l3 kq x3_27 x6_4 x7_4=some r)∧Aside0 (kq≤kj27)∧Aside0 (Kd.Q Kd.string 9 w' w.heap.size (fun _=>True) u3 x3_27)∧Aside0 (Below w.heap.size w w'))
        case atStart=>exact⟨((⟨#[]⟩:ByteArray)),(0),vR,vR,H',⟨Nat.le_refl _⟩,⟨by(try simp only[hl3_1]);(with_reducible repeat (first|apply Kd.Q_alloc|apply Kd.Q_drewN|apply Kd.Q_drew));exact HO_3.out⟩,⟨vB⟩⟩
        case round=>
         clear H'
         (try clear p1);(try clear q1);(try clear hx1);(try clear c2);(try clear p2);(try clear q2);(try clear hx2);(try clear c3);(try clear q3);(try clear p6);(try clear c7);(try clear p12);(try clear q12);(try clear hx12);(try clear p19);(try clear q19);(try clear hx19);(try clear p20);(try clear q20);(try clear hx20);(try clear q23);(try clear c29);(try clear c29b0);(try clear c29b1);(try clear c31);(try clear c31b0);(try clear c32);(try clear c32b0);(try clear c34);(try clear c34b0);(try clear c34b1);(try clear c35);(try clear c35b0);(try clear c35b1);(try clear q38);(try clear hx12_0);(try clear hx193_0);(try clear hx194_0);(try clear hx196_0);(try clear hx198_0);(try clear hx202_0);(try clear hx204_0);(try clear p1);(try clear p12);(try clear p19);(try clear p193);(try clear p194);(try clear p196);(try clear p198);(try clear p2);(try clear p20);(try clear p202);(try clear p204);(try clear p6);(try clear q1);(try clear q12);(try clear q19);(try clear q193);(try clear q194);(try clear q196);(try clear q198);(try clear q2);(try clear q20);(try clear q202);(try clear q204);(try clear q23);(try clear q3);(try clear q38)
         obtain⟨x6_4,x7_4,rfl,rfl,HA,HK4,HO_3,HB⟩:=hrel;cases gk with
         | zero=>exact absurd HA.out (by simp[spec_BlockValue.l3])
         | succ k4=>
          have H:=HA.out;clear HA;simp only[spec_BlockValue.l3]at H
          by_cases c43:x7_4<(x3_27.length:Int)
          ·rw[if_pos c43]at H
           have c43b0:decide (x7_4<(x3_27.length:Int))=true:=decide_eq_true c43;clear c43
           by_cases c44:x7_4>0
           ·rw[if_pos c44]at H
            have c44b0:decide (0<x7_4)=true:=decide_eq_true c44;clear c44
            by_cases c45:x6_4.size+1≤9223372036854775807
            ·rw[if_pos c45]at H
             have c45b0:=eq_true c45;have c45b1:decide (x6_4.size+1≤9223372036854775807)=true:=decide_eq_true c45
             try have c45b2:(9223372036854775807<x6_4.size+1)=False:=eq_false (Nat.not_lt.2 c45)
             by_cases c46:0≤x7_4
             ·rw[if_pos c46]at H
              have c46b0:decide (0≤x7_4)=true:=decide_eq_true c46;clear c46
              by_cases c47:(x6_4++(⟨#[10]⟩:ByteArray)).size+(rdOf ByteArray.empty x3_27 x7_4).size≤9223372036854775807
              ·rw[if_pos c47]at H
               have c47b0:=eq_true c47;have c47b1:decide ((x6_4++(⟨#[10]⟩:ByteArray)).size+(rdOf ByteArray.empty x3_27 x7_4).size≤9223372036854775807)=true:=decide_eq_true c47
               try have c47b2:(9223372036854775807<(x6_4++(⟨#[10]⟩:ByteArray)).size+(rdOf ByteArray.empty x3_27 x7_4).size)=False:=eq_false (Nat.not_lt.2 c47)
               have H':=aK H;clear H;obtain⟨Ao48,co48,eo48,_⟩:=Kd.Q_slice HO_3.out;subst eo48;have p208:0≤(x7_4:Int):=of_decide_eq_true vA;have q208:x7_4<(x3_27.length:Int):=of_decide_eq_true vA;obtain⟨ad208,e208,hx208_0⟩:=Kd.at_string (Kd.Q_reads' HO_3.out).2.2 x7_4 p208 q208;cases e208;replace p208:=eq_true p208;replace q208:=eq_true q208;go_wp2
               go_roundg k4
               case measure=>have:=HK1.out;have:=HJ14.out;have:=HJ27.out;have:=HK4.out;omega
               case rel=>exact⟨((x6_4++(⟨#[10]⟩:ByteArray))++(rdOf ByteArray.empty x3_27 x7_4)),(wrap64 (x7_4+1)),vR,vR,H',⟨by have:=HK1.out;have:=HJ14.out;have:=HJ27.out;have:=HK4.out;omega⟩,⟨by(try simp only[hl3_1]);(with_reducible repeat (first|apply Kd.Q_alloc|apply Kd.Q_drewN|apply Kd.Q_drew));exact HO_3.out⟩,⟨vB⟩⟩
              ·rw[if_neg c47]at H
               exact absurd H (by simp)
             ·rw[if_neg c46]at H
              exact absurd H (by simp)
            ·rw[if_neg c45]at H
             exact absurd H (by simp)
           ·rw[if_neg c44]at H
            have c44b0:decide (0<x7_4)=false:=decide_eq_false c44;clear c44
            by_cases c49:0≤x7_4
            ·rw[if_pos c49]at H
             have c49b0:decide (0≤x7_4)=true:=decide_eq_true c49;clear c49
             by_cases c50:x6_4.size+(rdOf ByteArray.empty x3_27 x7_4).size≤9223372036854775807
             ·rw[if_pos c50]at H
              have c50b0:=eq_true c50;have c50b1:decide (x6_4.size+(rdOf ByteArray.empty x3_27 x7_4).size≤9223372036854775807)=true:=decide_eq_true c50
              try have c50b2:(9223372036854775807<x6_4.size+(rdOf ByteArray.empty x3_27 x7_4).size)=False:=eq_false (Nat.not_lt.2 c50)
              have H':=aK H;clear H;obtain⟨Ao51,co51,eo51,_⟩:=Kd.Q_slice HO_3.out;subst eo51;have p209:0≤(x7_4:Int):=of_decide_eq_true vA;have q209:x7_4<(x3_27.length:Int):=of_decide_eq_true vA;obtain⟨ad209,e209,hx209_0⟩:=Kd.at_string (Kd.Q_reads' HO_3.out).2.2 x7_4 p209 q209;cases e209;replace p209:=eq_true p209;replace q209:=eq_true q209;go_wp2
              go_roundg k4
              case measure=>have:=HK1.out;have:=HJ14.out;have:=HJ27.out;have:=HK4.out;omega
              case rel=>exact⟨(x6_4++(rdOf ByteArray.empty x3_27 x7_4)),(wrap64 (x7_4+1)),vR,vR,H',⟨by have:=HK1.out;have:=HJ14.out;have:=HJ27.out;have:=HK4.out;omega⟩,⟨by(try simp only[hl3_1]);(with_reducible repeat (first|apply Kd.Q_alloc|apply Kd.Q_drewN|apply Kd.Q_drew));exact HO_3.out⟩,⟨vB⟩⟩
             ·rw[if_neg c50]at H
              exact absurd H (by simp)
            ·rw[if_neg c49]at H
             exact absurd H (by simp)
          ·rw[if_neg c43]at H
           have c43b0:decide (x7_4<(x3_27.length:Int))=false:=decide_eq_false c43;clear c43;obtain rfl:=Option.some.inj H;obtain⟨Ao52,co52,eo52,_⟩:=Kd.Q_slice HO_3.out;subst eo52;go_wp2
           go_ret
           exact⟨vE,vB⟩
end Go.Proofs.YtjolkdnfbmkjiaaGreatDoor.PFnTokensGaps
