import Derived.Test.YtjolkdnfbmkjiaaGreatDoorVP0
set_option maxRecDepth 100000
set_option maxHeartbeats 8000000
set_option linter.unusedVariables false
set_option linter.unusedSimpArgs false
namespace Go.Proofs.YtjolkdnfbmkjiaaGreatDoor.PFnTokensGaps
open Go.RowKit Go.Proofs.YtjolkdnfbmkjiaaGreatDoorW.PrintWords Go.Proofs.YtjolkdnfbmkjiaaGreatDoorW.PrintLast Go.Proofs.YtjolkdnfbmkjiaaGreatDoorW.PrintMore
attribute [local go_sem] max2_int min2_int max_two min_two max_three min_three max_four min_four
mutual
def spec_Point.j2:Nat→ByteArray→Int→Int→Int→Int→Option (Int×Int)
 | 0,_,_,_,_,_=>none
 | k+1,x0,x1,x4,x5,x7=>if x5=0 then(spec_Point.j3 k x0 x1 x4 x5 x7 true)else(spec_Point.j3 k x0 x1 x4 x5 x7 (decide ((wrap64 (x1+x5))>(x0.size:Int))))
def spec_Point.j3:Nat→ByteArray→Int→Int→Int→Int→Bool→Option (Int×Int)
 | 0,_,_,_,_,_,_=>none
 | k+1,x0,x1,x4,x5,x7,x53=>if x53=true then(some (0,0))else(spec_Point.l0 k x0 x1 x4 x5 x7 (wrap64 (x1+1)))
def spec_Point.l0:Nat→ByteArray→Int→Int→Int→Int→Int→Option (Int×Int)
 | 0,_,_,_,_,_,_=>none
 | k+1,x0,x1,x4,x5,x7,x8=>if x8<(wrap64 (x1+x5))then(if 0≤x8 then(if x8<(x0.size:Int)then(if (bt x0 x8)<128 then(some (0,0))else(if (bt x0 x8)>191 then(some (0,0))else(spec_Point.l0 k x0 x1 (wrap64 ((wrap64 ((wrap64 (x4*64))+(wrap64 (bt x0 x8))))-128)) x5 x7 (wrap64 (x8+1)))))else(none))else(none))else(if x4<x7 then(some (0,0))else(if x4>1114111 then(some (0,0))else(if x4≥55296 then(if x4<57344 then(some (0,0))else(some (x4,x5)))else(some (x4,x5)))))
def spec_Point.j0:Nat→ByteArray→Int→Int→Int→Int→Int→Bool→Option (Int×Int)
 | 0,_,_,_,_,_,_,_=>none
 | k+1,x0,x1,x4,x5,x6,x7,x17=>if x17=true then(spec_Point.j2 k x0 x1 (wrap64 (x6-192)) 2 128)else(if x6≥224 then(spec_Point.j1 k x0 x1 x4 x5 x6 x7 (decide (x6<240)))else(spec_Point.j1 k x0 x1 x4 x5 x6 x7 false))
def spec_Point.j1:Nat→ByteArray→Int→Int→Int→Int→Int→Bool→Option (Int×Int)
 | 0,_,_,_,_,_,_,_=>none
 | k+1,x0,x1,x4,x5,x6,x7,x26=>if x26=true then(spec_Point.j2 k x0 x1 (wrap64 (x6-224)) 3 2048)else(if x6≥240 then(if x6<245 then(spec_Point.j2 k x0 x1 (wrap64 (x6-240)) 4 65536)else(spec_Point.j2 k x0 x1 x4 x5 x7))else(spec_Point.j2 k x0 x1 x4 x5 x7))
end
def spec_Point.f (k:Nat) (a0:ByteArray) (a1:Int):Option (Int×Int):=if 0≤a1 then(if a1<(a0.size:Int)then(if (wrap64 (bt a0 a1))<128 then(some (wrap64 (bt a0 a1),1))else(if (wrap64 (bt a0 a1))≥194 then(spec_Point.j0 k a0 a1 0 0 (wrap64 (bt a0 a1)) 0 (decide ((wrap64 (bt a0 a1))<224)))else(spec_Point.j0 k a0 a1 0 0 (wrap64 (bt a0 a1)) 0 false)))else(none))else(none)
theorem spec_Point.mono_l:∀k,(∀y0 y1 y2 y3 y4,LeO (spec_Point.j2 k y0 y1 y2 y3 y4) (spec_Point.j2 (k+1) y0 y1 y2 y3 y4))∧(∀y0 y1 y2 y3 y4 y5,LeO (spec_Point.j3 k y0 y1 y2 y3 y4 y5) (spec_Point.j3 (k+1) y0 y1 y2 y3 y4 y5))∧(∀y0 y1 y2 y3 y4 y5,LeO (spec_Point.l0 k y0 y1 y2 y3 y4 y5) (spec_Point.l0 (k+1) y0 y1 y2 y3 y4 y5))∧(∀y0 y1 y2 y3 y4 y5 y6,LeO (spec_Point.j0 k y0 y1 y2 y3 y4 y5 y6) (spec_Point.j0 (k+1) y0 y1 y2 y3 y4 y5 y6))∧(∀y0 y1 y2 y3 y4 y5 y6,LeO (spec_Point.j1 k y0 y1 y2 y3 y4 y5 y6) (spec_Point.j1 (k+1) y0 y1 y2 y3 y4 y5 y6))
 | 0=>⟨fun _ _ _ _ _ r h=>by simp[spec_Point.j2]at h,fun _ _ _ _ _ _ r h=>by simp[spec_Point.j3]at h,fun _ _ _ _ _ _ r h=>by simp[spec_Point.l0]at h,fun _ _ _ _ _ _ _ r h=>by simp[spec_Point.j0]at h,fun _ _ _ _ _ _ _ r h=>by simp[spec_Point.j1]at h⟩
 | k+1=>by
  obtain⟨ih0,ih1,ih2,ih3,ih4⟩:=spec_Point.mono_l k;refine⟨?_,?_,?_,?_,?_⟩
  ·intro y0 y1 y2 y3 y4
   unfold spec_Point.j2
   repeat' first
   | (with_reducible exact ih0 _ _ _ _ _)
   | (with_reducible exact ih1 _ _ _ _ _ _)
   | (with_reducible exact ih2 _ _ _ _ _ _)
   | (with_reducible exact ih3 _ _ _ _ _ _ _)
   | (with_reducible exact ih4 _ _ _ _ _ _ _)
   | (with_reducible exact LeO.refl _)
   | (with_reducible exact LeO.none _)
   | (with_reducible refine LeO.ite ?_ ?_)
   | (with_reducible refine LeO.bind ?_ (fun _=>?_))
   | exact ih0 _ _ _ _ _
   | exact ih1 _ _ _ _ _ _
   | exact ih2 _ _ _ _ _ _
   | exact ih3 _ _ _ _ _ _ _
   | exact ih4 _ _ _ _ _ _ _
   | exact LeO.none _
   | refine LeO.ite ?_ ?_
   | refine LeO.bind ?_ (fun _=>?_)
  ·intro y0 y1 y2 y3 y4 y5
   unfold spec_Point.j3
   repeat' first
   | (with_reducible exact ih0 _ _ _ _ _)
   | (with_reducible exact ih1 _ _ _ _ _ _)
   | (with_reducible exact ih2 _ _ _ _ _ _)
   | (with_reducible exact ih3 _ _ _ _ _ _ _)
   | (with_reducible exact ih4 _ _ _ _ _ _ _)
   | (with_reducible exact LeO.refl _)
   | (with_reducible exact LeO.none _)
   | (with_reducible refine LeO.ite ?_ ?_)
   | (with_reducible refine LeO.bind ?_ (fun _=>?_))
   | exact ih0 _ _ _ _ _
   | exact ih1 _ _ _ _ _ _
   | exact ih2 _ _ _ _ _ _
   | exact ih3 _ _ _ _ _ _ _
   | exact ih4 _ _ _ _ _ _ _
   | exact LeO.none _
   | refine LeO.ite ?_ ?_
   | refine LeO.bind ?_ (fun _=>?_)
  ·intro y0 y1 y2 y3 y4 y5
   unfold spec_Point.l0
   repeat' first
   | (with_reducible exact ih0 _ _ _ _ _)
   | (with_reducible exact ih1 _ _ _ _ _ _)
   | (with_reducible exact ih2 _ _ _ _ _ _)
   | (with_reducible exact ih3 _ _ _ _ _ _ _)
   | (with_reducible exact ih4 _ _ _ _ _ _ _)
   | (with_reducible exact LeO.refl _)
   | (with_reducible exact LeO.none _)
   | (with_reducible refine LeO.ite ?_ ?_)
   | (with_reducible refine LeO.bind ?_ (fun _=>?_))
   | exact ih0 _ _ _ _ _
   | exact ih1 _ _ _ _ _ _
   | exact ih2 _ _ _ _ _ _
   | exact ih3 _ _ _ _ _ _ _
   | exact ih4 _ _ _ _ _ _ _
   | exact LeO.none _
   | refine LeO.ite ?_ ?_
   | refine LeO.bind ?_ (fun _=>?_)
  ·intro y0 y1 y2 y3 y4 y5 y6
   unfold spec_Point.j0
   repeat' first
   | (with_reducible exact ih0 _ _ _ _ _)
   | (with_reducible exact ih1 _ _ _ _ _ _)
   | (with_reducible exact ih2 _ _ _ _ _ _)
   | (with_reducible exact ih3 _ _ _ _ _ _ _)
   | (with_reducible exact ih4 _ _ _ _ _ _ _)
   | (with_reducible exact LeO.refl _)
   | (with_reducible exact LeO.none _)
   | (with_reducible refine LeO.ite ?_ ?_)
   | (with_reducible refine LeO.bind ?_ (fun _=>?_))
   | exact ih0 _ _ _ _ _
   | exact ih1 _ _ _ _ _ _
   | exact ih2 _ _ _ _ _ _
   | exact ih3 _ _ _ _ _ _ _
   | exact ih4 _ _ _ _ _ _ _
   | exact LeO.none _
   | refine LeO.ite ?_ ?_
   | refine LeO.bind ?_ (fun _=>?_)
  ·intro y0 y1 y2 y3 y4 y5 y6
   unfold spec_Point.j1
   repeat' first
   | (with_reducible exact ih0 _ _ _ _ _)
   | (with_reducible exact ih1 _ _ _ _ _ _)
   | (with_reducible exact ih2 _ _ _ _ _ _)
   | (with_reducible exact ih3 _ _ _ _ _ _ _)
   | (with_reducible exact ih4 _ _ _ _ _ _ _)
   | (with_reducible exact LeO.refl _)
   | (with_reducible exact LeO.none _)
   | (with_reducible refine LeO.ite ?_ ?_)
   | (with_reducible refine LeO.bind ?_ (fun _=>?_))
   | exact ih0 _ _ _ _ _
   | exact ih1 _ _ _ _ _ _
   | exact ih2 _ _ _ _ _ _
   | exact ih3 _ _ _ _ _ _ _
   | exact ih4 _ _ _ _ _ _ _
   | exact LeO.none _
   | refine LeO.ite ?_ ?_
   | refine LeO.bind ?_ (fun _=>?_)
theorem spec_Point.mono:∀a0 a1 k,LeO (spec_Point.f k a0 a1) (spec_Point.f (k+1) a0 a1):=by
 intro a0 a1 k;obtain⟨ih0,ih1,ih2,ih3,ih4⟩:=spec_Point.mono_l k;unfold spec_Point.f
 repeat' first
   | (with_reducible exact ih0 _ _ _ _ _)
   | (with_reducible exact ih1 _ _ _ _ _ _)
   | (with_reducible exact ih2 _ _ _ _ _ _)
   | (with_reducible exact ih3 _ _ _ _ _ _ _)
   | (with_reducible exact ih4 _ _ _ _ _ _ _)
   | (with_reducible exact LeO.refl _)
   | (with_reducible exact LeO.none _)
   | (with_reducible refine LeO.ite ?_ ?_)
   | (with_reducible refine LeO.bind ?_ (fun _=>?_))
   | exact ih0 _ _ _ _ _
   | exact ih1 _ _ _ _ _ _
   | exact ih2 _ _ _ _ _ _
   | exact ih3 _ _ _ _ _ _ _
   | exact ih4 _ _ _ _ _ _ _
   | exact LeO.none _
   | refine LeO.ite ?_ ?_
   | refine LeO.bind ?_ (fun _=>?_)
theorem spec_Point.calls (k:Nat) (a0:ByteArray) (a1:Int) (r1:Int) (r2:Int) (w:World) (h:spec_Point.f k a0 a1=some (r1,r2)) :
  Calls Tryz.prog 58 #[.string a0,.int .i64 a1] w fun e w'=>e = .returned (.tuple #[.int .i64 r1,.int .i64 r2])∧Drawn0 w w':=by
 have H:(if 0≤a1 then(if a1<(a0.size:Int)then(if (wrap64 (bt a0 a1))<128 then(some (wrap64 (bt a0 a1),1))else(if (wrap64 (bt a0 a1))≥194 then(spec_Point.j0 k a0 a1 0 0 (wrap64 (bt a0 a1)) 0 (decide ((wrap64 (bt a0 a1))<224)))else(spec_Point.j0 k a0 a1 0 0 (wrap64 (bt a0 a1)) 0 false)))else(none))else(none))=some (r1,r2):=h
 clear h
 by_cases c3:0≤a1
 ·rw[if_pos c3]at H
  have c3b0:=decide_eq_true c3;clear c3
  by_cases c4:a1<(a0.size:Int)
  ·rw[if_pos c4]at H
   have c4b0:=decide_eq_true c4;clear c4;have HC6:=aK H;clear H;have p5:0≤(a1:Int):=of_decide_eq_true vA;have q5:a1<(a0.size:Int):=of_decide_eq_true vA;have hx5:=bt_at a0 a1;replace p5:=eq_true p5;replace q5:=eq_true q5;go_enter Tryz.func58,Tryz.ntmps58
   go_upto_block 0 with(fail)
   go_cut [4,5,7] (fun v4 v5 v7 wc=>∃(kq:Nat) (x4_5:Int) (x5_5:Int) (x7_5:Int),v4 = .int .i64 x4_5∧v5 = .int .i64 x5_5∧v7 = .int .i64 x7_5∧Aside0 (spec_Point.j2 kq a0 a1 x4_5 x5_5 x7_5=some (r1,r2))∧Aside0 (kq≤k)∧Drawn0 w wc)
   case first=>
    have H:=HC6.out;clear HC6
    by_cases c7:(wrap64 (bt a0 a1))<128
    ·rw[if_pos c7]at H
     have c7b0:=decide_eq_true c7;clear c7
     (first|rw[c7b0]|(simp only[i64_w,i32_w];rw[c7b0])|skip)
     simp only[Option.some.injEq,Prod.mk.injEq]at H;obtain⟨rfl,rfl⟩:=H;go_wp2
     go_ret2
     exact⟨vR,vD⟩
    ·rw[if_neg c7]at H
     have c7b0:=decide_eq_false c7;clear c7
     (first|rw[c7b0]|(simp only[i64_w,i32_w];rw[c7b0])|skip)
     have HC8:=aK H;clear H
     go_upto_region 5 with(fail)
     go_cut [17] (fun v17 wc=>∃(kq:Nat) (x17_7:Bool),v17 = .bool x17_7∧Aside0 (spec_Point.j0 kq a0 a1 0 0 (wrap64 (bt a0 a1)) 0 x17_7=some (r1,r2))∧Aside0 (kq≤k)∧Drawn0 w wc)
     case first=>
      have H:=HC8.out;clear HC8
      by_cases c9:(wrap64 (bt a0 a1))≥194
      ·rw[if_pos c9]at H
       have c9b0:decide (194≤(wrap64 (bt a0 a1)))=true:=decide_eq_true c9;clear c9
       (first|rw[c9b0]|(simp only[i64_w,i32_w];rw[c9b0])|skip)
       have H':=aK H;clear H;go_wp2
       go_meet
       case rel=>exact⟨_,(decide ((wrap64 (bt a0 a1))<224)),vR,H',⟨by first|omega|exact Nat.le_refl _⟩,vD⟩
      ·rw[if_neg c9]at H
       have c9b0:decide (194≤(wrap64 (bt a0 a1)))=false:=decide_eq_false c9;clear c9
       (first|rw[c9b0]|(simp only[i64_w,i32_w];rw[c9b0])|skip)
       have H':=aK H;clear H;go_wp2
       go_meet
       case rel=>exact⟨_,(false),vR,H',⟨by first|omega|exact Nat.le_refl _⟩,vD⟩
     case rest=>
      clear HC8;obtain⟨kq,x17_7,rfl,HA,HJ7,⟨mc7,rfl⟩⟩:=hcut;cases kq with
      | zero=>exact absurd HA.out (by simp[spec_Point.j0])
      | succ kj7=>
       have H:=HA.out;clear HA;simp only[spec_Point.j0]at H
       by_cases c10:x17_7=true
       ·subst c10
        rw[if_pos rfl]at H;have H':=aK H;clear H;go_wp2
        go_meet
        case rel=>exact⟨_,(wrap64 ((wrap64 (bt a0 a1))-192)),(2),(128),vR,vR,vR,H',⟨by have:=HJ7.out;first|omega|exact Nat.le_refl _⟩,vD⟩
       ·replace c10:=Bool.eq_false_iff.mpr c10
        subst c10;rw[if_neg (show ¬(false=true) by decide)]at H
        have HC11:=aK H;clear H
        go_upto_region 7 with(fail)
        go_cut [26] (fun v26 wc=>∃(kq:Nat) (x26_10:Bool),v26 = .bool x26_10∧Aside0 (spec_Point.j1 kq a0 a1 0 0 (wrap64 (bt a0 a1)) 0 x26_10=some (r1,r2))∧Aside0 (kq≤kj7)∧Drawn0 w wc)
        case first=>
         have H:=HC11.out;clear HC11
         by_cases c12:(wrap64 (bt a0 a1))≥224
         ·rw[if_pos c12]at H
          have c12b0:decide (224≤(wrap64 (bt a0 a1)))=true:=decide_eq_true c12;clear c12
          (first|rw[c12b0]|(simp only[i64_w,i32_w];rw[c12b0])|skip)
          have H':=aK H;clear H;go_wp2
          go_meet
          case rel=>exact⟨_,(decide ((wrap64 (bt a0 a1))<240)),vR,H',⟨by have:=HJ7.out;first|omega|exact Nat.le_refl _⟩,vD⟩
         ·rw[if_neg c12]at H
          have c12b0:decide (224≤(wrap64 (bt a0 a1)))=false:=decide_eq_false c12;clear c12
          (first|rw[c12b0]|(simp only[i64_w,i32_w];rw[c12b0])|skip)
          have H':=aK H;clear H;go_wp2
          go_meet
          case rel=>exact⟨_,(false),vR,H',⟨by have:=HJ7.out;first|omega|exact Nat.le_refl _⟩,vD⟩
        case rest=>
         clear HC11;obtain⟨kq,x26_10,rfl,HA,HJ10,⟨mc10,rfl⟩⟩:=hcut;cases kq with
         | zero=>exact absurd HA.out (by simp[spec_Point.j1])
         | succ kj10=>
          have H:=HA.out;clear HA;simp only[spec_Point.j1]at H
          by_cases c13:x26_10=true
          ·subst c13
           rw[if_pos rfl]at H;have H':=aK H;clear H;go_wp2
           go_meet
           case rel=>exact⟨_,(wrap64 ((wrap64 (bt a0 a1))-224)),(3),(2048),vR,vR,vR,H',⟨by have:=HJ7.out;have:=HJ10.out;first|omega|exact Nat.le_refl _⟩,vD⟩
          ·replace c13:=Bool.eq_false_iff.mpr c13
           subst c13;rw[if_neg (show ¬(false=true) by decide)]at H
           by_cases c14:(wrap64 (bt a0 a1))≥240
           ·rw[if_pos c14]at H
            have c14b0:decide (240≤(wrap64 (bt a0 a1)))=true:=decide_eq_true c14;clear c14
            by_cases c15:(wrap64 (bt a0 a1))<245
            ·rw[if_pos c15]at H
             have c15b0:=decide_eq_true c15;clear c15;have H':=aK H;clear H;go_wp2
             go_meet
             case rel=>exact⟨_,(wrap64 ((wrap64 (bt a0 a1))-240)),(4),(65536),vR,vR,vR,H',⟨by have:=HJ7.out;have:=HJ10.out;first|omega|exact Nat.le_refl _⟩,vD⟩
            ·rw[if_neg c15]at H
             have c15b0:=decide_eq_false c15;clear c15;have H':=aK H;clear H;go_wp2
             go_meet
             case rel=>exact⟨_,(0),(0),(0),vR,vR,vR,H',⟨by have:=HJ7.out;have:=HJ10.out;first|omega|exact Nat.le_refl _⟩,vD⟩
           ·rw[if_neg c14]at H
            have c14b0:decide (240≤(wrap64 (bt a0 a1)))=false:=decide_eq_false c14;clear c14;have H':=aK H;clear H;go_wp2
            go_meet
            case rel=>exact⟨_,(0),(0),(0),vR,vR,vR,H',⟨by have:=HJ7.out;have:=HJ10.out;first|omega|exact Nat.le_refl _⟩,vD⟩
   case rest=>
    clear HC6;obtain⟨kq,x4_5,x5_5,x7_5,rfl,rfl,rfl,HA,HJ5,⟨mc5,rfl⟩⟩:=hcut;cases kq with
    | zero=>exact absurd HA.out (by simp[spec_Point.j2])
    | succ kj5=>
     have H:=HA.out;clear HA;simp only[spec_Point.j2]at H;have HC16:=aK H;clear H
     go_upto_region 11 with(fail)
     go_cut [53] (fun v53 wc=>∃(kq:Nat) (x53_15:Bool),v53 = .bool x53_15∧Aside0 (spec_Point.j3 kq a0 a1 x4_5 x5_5 x7_5 x53_15=some (r1,r2))∧Aside0 (kq≤kj5)∧Drawn0 w wc)
     case first=>
      have H:=HC16.out;clear HC16
      by_cases c17:x5_5=0
      ·rw[if_pos c17]at H
       have c17b0:(x5_5==0)=true:=beq_iff_eq.mpr c17;have c17b1:(x5_5 != 0)=false:=bne_eq_false_iff_eq.mpr c17;clear c17
       (first|rw[c17b0]|(simp only[i64_w,i32_w];rw[c17b0])|skip)
       have H':=aK H;clear H;go_wp2
       go_meet
       case rel=>exact⟨_,(true),vR,H',⟨by have:=HJ5.out;first|omega|exact Nat.le_refl _⟩,vD⟩
      ·rw[if_neg c17]at H
       have c17b0:(x5_5==0)=false:=beq_eq_false_iff_ne.mpr c17;have c17b1:(x5_5 != 0)=true:=bne_iff_ne.mpr c17
       (first|rw[c17b0]|(simp only[i64_w,i32_w];rw[c17b0])|skip)
       have H':=aK H;clear H;go_wp2
       go_meet
       case rel=>exact⟨_,(decide ((wrap64 (a1+x5_5))>(a0.size:Int))),vR,H',⟨by have:=HJ5.out;first|omega|exact Nat.le_refl _⟩,vD⟩
     case rest=>
      clear HC16;obtain⟨kq,x53_15,rfl,HA,HJ15,⟨mc15,rfl⟩⟩:=hcut;cases kq with
      | zero=>exact absurd HA.out (by simp[spec_Point.j3])
      | succ kj15=>
       have H:=HA.out;clear HA;simp only[spec_Point.j3]at H
       by_cases c18:x53_15=true
       ·subst c18
        rw[if_pos rfl]at H;simp only[Option.some.injEq,Prod.mk.injEq]at H;obtain⟨rfl,rfl⟩:=H;go_wp2
        go_ret2
        exact⟨vR,vD⟩
       ·replace c18:=Bool.eq_false_iff.mpr c18
        subst c18;rw[if_neg (show ¬(false=true) by decide)]at H
        have H':=aK H;clear H;go_wp2
        go_loopg [4,5,8] kj15 (fun kq v4 v5 v8 w'=>∃(x4_3:Int) (x5_3:Int) (x8_3:Int),v4 = .int .i64 x4_3∧v5 = .int .i64 x5_3∧v8 = .int .i64 x8_3∧Aside0 (spec_Point.l0 kq a0 a1 x4_3 x5_3 x7_5 x8_3=some (r1,r2))∧Aside0 (kq≤kj15)∧Drawn0 w w')
        case atStart=>exact⟨(x4_5),(x5_5),(wrap64 (a1+1)),vR,vR,vR,H',⟨Nat.le_refl _⟩,vD⟩
        case round=>
         clear H';obtain⟨x4_3,x5_3,x8_3,rfl,rfl,rfl,HA,HK3,⟨m3,rfl⟩⟩:=hrel;cases gk with
         | zero=>exact absurd HA.out (by simp[spec_Point.l0])
         | succ k3=>
          have H:=HA.out;clear HA;simp only[spec_Point.l0]at H
          by_cases c19:x8_3<(wrap64 (a1+x5_3))
          ·rw[if_pos c19]at H
           have c19b0:=decide_eq_true c19;clear c19
           by_cases c20:0≤x8_3
           ·rw[if_pos c20]at H
            have c20b0:=decide_eq_true c20;clear c20
            by_cases c21:x8_3<(a0.size:Int)
            ·rw[if_pos c21]at H
             have c21b0:=decide_eq_true c21;clear c21
             by_cases c23:(bt a0 x8_3)<128
             ·rw[if_pos c23]at H
              have c23b0:=decide_eq_true c23;clear c23;simp only[Option.some.injEq,Prod.mk.injEq]at H;obtain⟨rfl,rfl⟩:=H;have p22:0≤(x8_3:Int):=of_decide_eq_true vA;have q22:x8_3<(a0.size:Int):=of_decide_eq_true vA;have hx22:=bt_at a0 x8_3;replace p22:=eq_true p22;replace q22:=eq_true q22;go_wp2
              go_ret2
              exact⟨vR,vD⟩
             ·rw[if_neg c23]at H
              have c23b0:=decide_eq_false c23;clear c23
              by_cases c25:(bt a0 x8_3)>191
              ·rw[if_pos c25]at H
               have c25b0:decide (191<(bt a0 x8_3))=true:=decide_eq_true c25;clear c25;simp only[Option.some.injEq,Prod.mk.injEq]at H;obtain⟨rfl,rfl⟩:=H;have p22:0≤(x8_3:Int):=of_decide_eq_true vA;have q22:x8_3<(a0.size:Int):=of_decide_eq_true vA;have hx22:=bt_at a0 x8_3;replace p22:=eq_true p22;replace q22:=eq_true q22;have p24:0≤(x8_3:Int):=of_decide_eq_true vA;have q24:x8_3<(a0.size:Int):=of_decide_eq_true vA;have hx24:=bt_at a0 x8_3;replace p24:=eq_true p24;replace q24:=eq_true q24;go_wp2
               go_ret2
               exact⟨vR,vD⟩
              ·rw[if_neg c25]at H
               have c25b0:decide (191<(bt a0 x8_3))=false:=decide_eq_false c25;clear c25;have H':=aK H;clear H;have p22:0≤(x8_3:Int):=of_decide_eq_true vA;have q22:x8_3<(a0.size:Int):=of_decide_eq_true vA;have hx22:=bt_at a0 x8_3;replace p22:=eq_true p22;replace q22:=eq_true q22;have p24:0≤(x8_3:Int):=of_decide_eq_true vA;have q24:x8_3<(a0.size:Int):=of_decide_eq_true vA;have hx24:=bt_at a0 x8_3;replace p24:=eq_true p24;replace q24:=eq_true q24;have p26:0≤(x8_3:Int):=of_decide_eq_true vA;have q26:x8_3<(a0.size:Int):=of_decide_eq_true vA;have hx26:=bt_at a0 x8_3;replace p26:=eq_true p26;replace q26:=eq_true q26;go_wp2
               go_roundg k3
               case measure=>have:=HJ5.out;have:=HJ15.out;have:=HK3.out;omega
               case rel=>exact⟨(wrap64 ((wrap64 ((wrap64 (x4_3*64))+(wrap64 (bt a0 x8_3))))-128)),(x5_3),(wrap64 (x8_3+1)),vR,vR,vR,H',⟨by have:=HJ5.out;have:=HJ15.out;have:=HK3.out;omega⟩,vD⟩
            ·rw[if_neg c21]at H
             exact absurd H (by simp)
           ·rw[if_neg c20]at H
            exact absurd H (by simp)
          ·rw[if_neg c19]at H
           have c19b0:=decide_eq_false c19;clear c19
           by_cases c27:x4_3<x7_5
           ·rw[if_pos c27]at H
            have c27b0:=decide_eq_true c27;clear c27;simp only[Option.some.injEq,Prod.mk.injEq]at H;obtain⟨rfl,rfl⟩:=H;go_wp2
            go_ret2
            exact⟨vR,vD⟩
           ·rw[if_neg c27]at H
            have c27b0:=decide_eq_false c27;clear c27
            by_cases c28:x4_3>1114111
            ·rw[if_pos c28]at H
             have c28b0:decide (1114111<x4_3)=true:=decide_eq_true c28;clear c28;simp only[Option.some.injEq,Prod.mk.injEq]at H;obtain⟨rfl,rfl⟩:=H;go_wp2
             go_ret2
             exact⟨vR,vD⟩
            ·rw[if_neg c28]at H
             have c28b0:decide (1114111<x4_3)=false:=decide_eq_false c28;clear c28
             by_cases c29:x4_3≥55296
             ·rw[if_pos c29]at H
              have c29b0:decide (55296≤x4_3)=true:=decide_eq_true c29;clear c29
              by_cases c30:x4_3<57344
              ·rw[if_pos c30]at H
               have c30b0:=decide_eq_true c30;clear c30;simp only[Option.some.injEq,Prod.mk.injEq]at H;obtain⟨rfl,rfl⟩:=H;go_wp2
               go_ret2
               exact⟨vR,vD⟩
              ·rw[if_neg c30]at H
               have c30b0:=decide_eq_false c30;clear c30;simp only[Option.some.injEq,Prod.mk.injEq]at H;obtain⟨rfl,rfl⟩:=H;go_wp2
               go_ret2
               exact⟨vR,vD⟩
             ·rw[if_neg c29]at H
              have c29b0:decide (55296≤x4_3)=false:=decide_eq_false c29;clear c29;simp only[Option.some.injEq,Prod.mk.injEq]at H;obtain⟨rfl,rfl⟩:=H;go_wp2
              go_ret2
              exact⟨vR,vD⟩
  ·rw[if_neg c4]at H
   exact absurd H (by simp)
 ·rw[if_neg c3]at H
  exact absurd H (by simp)
def spec_source.f (a0:Int):Option (Bool×Bool):=if a0=9 then(some (true,decide (a0≤65535)))else(if a0=10 then(some (true,decide (a0≤65535)))else(if a0=13 then(some (true,decide (a0≤65535)))else(some (decide (a0≥32),decide (a0≤65535)))))
theorem spec_source.calls (a0:Int) (r1:Bool) (r2:Bool) (w:World) (h:spec_source.f a0=some (r1,r2)) :
  Calls Tryz.prog 112 #[.int .i64 a0] w fun e w'=>e = .returned (.tuple #[.bool r1,.bool r2])∧Drawn0 w w':=by
 have H:(if a0=9 then(some (true,decide (a0≤65535)))else(if a0=10 then(some (true,decide (a0≤65535)))else(if a0=13 then(some (true,decide (a0≤65535)))else(some (decide (a0≥32),decide (a0≤65535))))))=some (r1,r2):=h
 clear h
 by_cases c2:a0=9
 ·rw[if_pos c2]at H
  have c2b0:(a0==9)=true:=beq_iff_eq.mpr c2;have c2b1:(a0 != 9)=false:=bne_eq_false_iff_eq.mpr c2;clear c2;simp only[Option.some.injEq,Prod.mk.injEq]at H;obtain⟨rfl,rfl⟩:=H;go_enter Tryz.func112,Tryz.ntmps112;go_wp2
  go_ret2
  exact⟨vR,vD⟩
 ·rw[if_neg c2]at H
  have c2b0:(a0==9)=false:=beq_eq_false_iff_ne.mpr c2;have c2b1:(a0 != 9)=true:=bne_iff_ne.mpr c2
  by_cases c3:a0=10
  ·rw[if_pos c3]at H
   have c3b0:(a0==10)=true:=beq_iff_eq.mpr c3;have c3b1:(a0 != 10)=false:=bne_eq_false_iff_eq.mpr c3;clear c3;simp only[Option.some.injEq,Prod.mk.injEq]at H;obtain⟨rfl,rfl⟩:=H;go_enter Tryz.func112,Tryz.ntmps112;go_wp2
   go_ret2
   exact⟨vR,vD⟩
  ·rw[if_neg c3]at H
   have c3b0:(a0==10)=false:=beq_eq_false_iff_ne.mpr c3;have c3b1:(a0 != 10)=true:=bne_iff_ne.mpr c3
   by_cases c4:a0=13
   ·rw[if_pos c4]at H
    have c4b0:(a0==13)=true:=beq_iff_eq.mpr c4;have c4b1:(a0 != 13)=false:=bne_eq_false_iff_eq.mpr c4;clear c4;simp only[Option.some.injEq,Prod.mk.injEq]at H;obtain⟨rfl,rfl⟩:=H;go_enter Tryz.func112,Tryz.ntmps112;go_wp2
    go_ret2
    exact⟨vR,vD⟩
   ·rw[if_neg c4]at H
    have c4b0:(a0==13)=false:=beq_eq_false_iff_ne.mpr c4;have c4b1:(a0 != 13)=true:=bne_iff_ne.mpr c4;simp only[Option.some.injEq,Prod.mk.injEq]at H;obtain⟨rfl,rfl⟩:=H;go_enter Tryz.func112,Tryz.ntmps112;go_wp2
    go_ret2
    exact⟨vR,vD⟩
end Go.Proofs.YtjolkdnfbmkjiaaGreatDoor.PFnTokensGaps
