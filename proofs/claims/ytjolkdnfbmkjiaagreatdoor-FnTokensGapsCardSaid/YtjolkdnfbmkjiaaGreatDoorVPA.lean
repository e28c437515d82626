import Derived.Test.YtjolkdnfbmkjiaaGreatDoorVP0
import Derived.Test.YtjolkdnfbmkjiaaGreatDoorVP1
import Derived.Test.YtjolkdnfbmkjiaaGreatDoorVP2
set_option maxRecDepth 100000
set_option maxHeartbeats 8000000
set_option linter.unusedVariables false
set_option linter.unusedSimpArgs false
namespace Go.Proofs.YtjolkdnfbmkjiaaGreatDoor.PFnTokensGaps
open Go.RowKit Go.Proofs.YtjolkdnfbmkjiaaGreatDoorW.PrintWords Go.Proofs.YtjolkdnfbmkjiaaGreatDoorW.PrintLast Go.Proofs.YtjolkdnfbmkjiaaGreatDoorW.PrintMore
attribute [local go_sem] max2_int min2_int max_two min_two max_three min_three max_four min_four
def spec_clinging.f (a0:ByteArray):Option (Bool):=if 0<(a0.size:Int)then((spec_isBegin.f (bt a0 0)).bind fun t319=>(if t319=true then(some true)else((spec_isDigit.f (bt a0 0)).bind fun t320=>(if t320=true then(some true)else(if (bt a0 0)=45 then(some true)else(some ((bt a0 0)==46)))))))else(none)
theorem spec_clinging.calls (a0:ByteArray) (r:Bool) (w:World) (h:spec_clinging.f a0=some r) :
  Calls Tryz.prog 17 #[.string a0] w fun e w'=>e = .returned (.bool r)∧Drawn0 w w':=by
 have H:(if 0<(a0.size:Int)then((spec_isBegin.f (bt a0 0)).bind fun t319=>(if t319=true then(some true)else((spec_isDigit.f (bt a0 0)).bind fun t320=>(if t320=true then(some true)else(if (bt a0 0)=45 then(some true)else(some ((bt a0 0)==46)))))))else(none))=some r:=h
 clear h
 by_cases c2:0<(a0.size:Int)
 ·rw[if_pos c2]at H
  have c2b0:decide (0<(a0.size:Int))=true:=decide_eq_true c2;have c2b1:decide (0<a0.size)=true:=decide_eq_true (by omega)
  clear c2;replace H:=Option.bind_eq_some_iff.mp H;obtain⟨t319,A40,H⟩:=H;replace H:(if t319=true then(some true)else((spec_isDigit.f (bt a0 0)).bind fun t320=>(if t320=true then(some true)else(if (bt a0 0)=45 then(some true)else(some ((bt a0 0)==46))))))=some r:=H
  have A4:=aK A40;clear A40
  by_cases c5:t319=true
  ·subst c5
   have H1:(some true)=some r:=by rw[if_pos rfl]at H;exact H
   clear H;have H:=H1;clear H1;obtain rfl:=Option.some.inj H;have p3:0≤(0:Int):=(by omega)
   have q3:0<a0.size:=(by have:(0:Int)<(a0.size:Int):=of_decide_eq_true vA;omega)
   have hx3:∀h:0<a0.size,((a0[0]'h).toNat:Int)=bt a0 0:=bt_at a0 0;clear p3;have qi3:(0<(a0.size:Int))=True:=eq_true (of_decide_eq_true vA);replace q3:=eq_true q3;go_enter Tryz.func17,Tryz.ntmps17
   go_wp2_with (first|((with_reducible refine gate_callee (f:=32) rfl ?_);refine goesL_ (some 5) rfl rfl Tryz.func32 (by kernel_rfl) rfl #[.int .u8 (bt a0 0)] rfl (by(try simp only[List.map_toArray,List.map_cons,List.map_nil]);first|done|rfl|(simp only[List.length_drop,List.length_take];rfl)) ?_;(with_reducible refine(spec_isBegin.calls (bt a0 0) true _ A4.out).mono ?_);rintro e w' ⟨rfl,⟨nd,rfl⟩⟩;refine⟨_,rfl,?_⟩))
   go_ret
   exact⟨vR,vD⟩
  ·replace c5:=Bool.eq_false_iff.mpr c5
   subst c5;have H1:((spec_isDigit.f (bt a0 0)).bind fun t320=>(if t320=true then(some true)else(if (bt a0 0)=45 then(some true)else(some ((bt a0 0)==46)))))=some r:=by rw[if_neg (show ¬(false=true) by decide)]at H;exact H
   clear H;have H:=H1;clear H1;replace H:=Option.bind_eq_some_iff.mp H;obtain⟨t320,A70,H⟩:=H;replace H:(if t320=true then(some true)else(if (bt a0 0)=45 then(some true)else(some ((bt a0 0)==46))))=some r:=H
   have A7:=aK A70;clear A70
   by_cases c8:t320=true
   ·subst c8
    have H1:(some true)=some r:=by rw[if_pos rfl]at H;exact H
    clear H;have H:=H1;clear H1;obtain rfl:=Option.some.inj H;have p3:0≤(0:Int):=(by omega)
    have q3:0<a0.size:=(by have:(0:Int)<(a0.size:Int):=of_decide_eq_true vA;omega)
    have hx3:∀h:0<a0.size,((a0[0]'h).toNat:Int)=bt a0 0:=bt_at a0 0;clear p3;have qi3:(0<(a0.size:Int))=True:=eq_true (of_decide_eq_true vA);replace q3:=eq_true q3;go_enter Tryz.func17,Tryz.ntmps17
    go_wp2_with (first|((with_reducible refine gate_callee (f:=32) rfl ?_);refine goesL_ (some 5) rfl rfl Tryz.func32 (by kernel_rfl) rfl #[.int .u8 (bt a0 0)] rfl (by(try simp only[List.map_toArray,List.map_cons,List.map_nil]);first|done|rfl|(simp only[List.length_drop,List.length_take];rfl)) ?_;(with_reducible refine(spec_isBegin.calls (bt a0 0) false _ A4.out).mono ?_);rintro e w' ⟨rfl,⟨nd,rfl⟩⟩;refine⟨_,rfl,?_⟩;have p6:0≤(0:Int):=(by omega);have q6:0<a0.size:=(by have:(0:Int)<(a0.size:Int):=of_decide_eq_true vA;omega);have hx6:∀h:0<a0.size,((a0[0]'h).toNat:Int)=bt a0 0:=bt_at a0 0;clear p6;have qi6:(0<(a0.size:Int))=True:=eq_true (of_decide_eq_true vA);replace q6:=eq_true q6)|(go_at_call 33;(with_reducible refine(spec_isDigit.calls (bt a0 0) true _ A7.out).mono ?_);rintro e w' ⟨rfl,⟨nd,rfl⟩⟩))
    go_ret
    exact⟨vR,vD⟩
   ·replace c8:=Bool.eq_false_iff.mpr c8
    subst c8;have H1:(if (bt a0 0)=45 then(some true)else(some ((bt a0 0)==46)))=some r:=by rw[if_neg (show ¬(false=true) by decide)]at H;exact H
    clear H;have H:=H1;clear H1
    by_cases c10:(bt a0 0)=45
    ·rw[if_pos c10]at H
     have c10b0:((bt a0 0)==45)=true:=beq_iff_eq.mpr c10;have c10b1:((bt a0 0) != 45)=false:=bne_eq_false_iff_eq.mpr c10;clear c10;obtain rfl:=Option.some.inj H;have p3:0≤(0:Int):=(by omega)
     have q3:0<a0.size:=(by have:(0:Int)<(a0.size:Int):=of_decide_eq_true vA;omega)
     have hx3:∀h:0<a0.size,((a0[0]'h).toNat:Int)=bt a0 0:=bt_at a0 0;clear p3;have qi3:(0<(a0.size:Int))=True:=eq_true (of_decide_eq_true vA);replace q3:=eq_true q3;go_enter Tryz.func17,Tryz.ntmps17
     go_wp2_with (first|((with_reducible refine gate_callee (f:=32) rfl ?_);refine goesL_ (some 5) rfl rfl Tryz.func32 (by kernel_rfl) rfl #[.int .u8 (bt a0 0)] rfl (by(try simp only[List.map_toArray,List.map_cons,List.map_nil]);first|done|rfl|(simp only[List.length_drop,List.length_take];rfl)) ?_;(with_reducible refine(spec_isBegin.calls (bt a0 0) false _ A4.out).mono ?_);rintro e w' ⟨rfl,⟨nd,rfl⟩⟩;refine⟨_,rfl,?_⟩;have p6:0≤(0:Int):=(by omega);have q6:0<a0.size:=(by have:(0:Int)<(a0.size:Int):=of_decide_eq_true vA;omega);have hx6:∀h:0<a0.size,((a0[0]'h).toNat:Int)=bt a0 0:=bt_at a0 0;clear p6;have qi6:(0<(a0.size:Int))=True:=eq_true (of_decide_eq_true vA);replace q6:=eq_true q6)|(go_at_call 33;(with_reducible refine(spec_isDigit.calls (bt a0 0) false _ A7.out).mono ?_);rintro e w' ⟨rfl,⟨nd,rfl⟩⟩;have p9:0≤(0:Int):=(by omega);have q9:0<a0.size:=(by have:(0:Int)<(a0.size:Int):=of_decide_eq_true vA;omega);have hx9:∀h:0<a0.size,((a0[0]'h).toNat:Int)=bt a0 0:=bt_at a0 0;clear p9;have qi9:(0<(a0.size:Int))=True:=eq_true (of_decide_eq_true vA);replace q9:=eq_true q9))
     go_ret
     exact⟨vR,vD⟩
    ·rw[if_neg c10]at H
     have c10b0:((bt a0 0)==45)=false:=beq_eq_false_iff_ne.mpr c10;have c10b1:((bt a0 0) != 45)=true:=bne_iff_ne.mpr c10;obtain rfl:=Option.some.inj H;have p3:0≤(0:Int):=(by omega)
     have q3:0<a0.size:=(by have:(0:Int)<(a0.size:Int):=of_decide_eq_true vA;omega)
     have hx3:∀h:0<a0.size,((a0[0]'h).toNat:Int)=bt a0 0:=bt_at a0 0;clear p3;have qi3:(0<(a0.size:Int))=True:=eq_true (of_decide_eq_true vA);replace q3:=eq_true q3;go_enter Tryz.func17,Tryz.ntmps17
     go_wp2_with (first|((with_reducible refine gate_callee (f:=32) rfl ?_);refine goesL_ (some 5) rfl rfl Tryz.func32 (by kernel_rfl) rfl #[.int .u8 (bt a0 0)] rfl (by(try simp only[List.map_toArray,List.map_cons,List.map_nil]);first|done|rfl|(simp only[List.length_drop,List.length_take];rfl)) ?_;(with_reducible refine(spec_isBegin.calls (bt a0 0) false _ A4.out).mono ?_);rintro e w' ⟨rfl,⟨nd,rfl⟩⟩;refine⟨_,rfl,?_⟩;have p6:0≤(0:Int):=(by omega);have q6:0<a0.size:=(by have:(0:Int)<(a0.size:Int):=of_decide_eq_true vA;omega);have hx6:∀h:0<a0.size,((a0[0]'h).toNat:Int)=bt a0 0:=bt_at a0 0;clear p6;have qi6:(0<(a0.size:Int))=True:=eq_true (of_decide_eq_true vA);replace q6:=eq_true q6)|(go_at_call 33;(with_reducible refine(spec_isDigit.calls (bt a0 0) false _ A7.out).mono ?_);rintro e w' ⟨rfl,⟨nd,rfl⟩⟩;have p9:0≤(0:Int):=(by omega);have q9:0<a0.size:=(by have:(0:Int)<(a0.size:Int):=of_decide_eq_true vA;omega);have hx9:∀h:0<a0.size,((a0[0]'h).toNat:Int)=bt a0 0:=bt_at a0 0;clear p9;have qi9:(0<(a0.size:Int))=True:=eq_true (of_decide_eq_true vA);replace q9:=eq_true q9;have p11:0≤(0:Int):=(by omega);have q11:0<a0.size:=(by have:(0:Int)<(a0.size:Int):=of_decide_eq_true vA;omega);have hx11:∀h:0<a0.size,((a0[0]'h).toNat:Int)=bt a0 0:=bt_at a0 0;clear p11;have qi11:(0<(a0.size:Int))=True:=eq_true (of_decide_eq_true vA);replace q11:=eq_true q11))
     go_ret
     exact⟨vR,vD⟩
 ·rw[if_neg c2]at H
  exact absurd H (by simp)
end Go.Proofs.YtjolkdnfbmkjiaaGreatDoor.PFnTokensGaps
namespace Go.Proofs.YtjolkdnfbmkjiaaGreatDoor.PFnTokensGaps
open Go.RowKit Go.Proofs.YtjolkdnfbmkjiaaGreatDoorW.PrintWords Go.Proofs.YtjolkdnfbmkjiaaGreatDoorW.PrintLast Go.Proofs.YtjolkdnfbmkjiaaGreatDoorW.PrintMore
attribute [local go_sem] max2_int min2_int max_two min_two max_three min_three max_four min_four
mutual
def spec_Gaps.l0:Nat→List ByteArray→List Int→ByteArray→Int→Option (ByteArray)
 | 0,_,_,_,_=>none
 | k+1,x0,x1,x5,x6=>if x6<(x0.length:Int)then(if (x1.length:Int)>0 then((some (([(⟨#[]⟩:ByteArray),(⟨#[32]⟩:ByteArray),(⟨#[10]⟩:ByteArray),(⟨#[44]⟩:ByteArray),(⟨#[32,44,32]⟩:ByteArray),(⟨#[9]⟩:ByteArray),(⟨#[13,10]⟩:ByteArray),(⟨#[13]⟩:ByteArray),(⟨#[35,32,97,10]⟩:ByteArray),(⟨#[35,13]⟩:ByteArray),(⟨#[44,44,10,32,32]⟩:ByteArray)]:List ByteArray):List ByteArray)).bind fun y321=>(if (x1.length:Int)=0 then(none)else(if 0≤(Int.tmod x6 (x1.length:Int))then(if (Int.tmod x6 (x1.length:Int))<(x1.length:Int)then(if 0≤(Int.tmod (wrap64 (rd x1 (Int.tmod x6 (x1.length:Int)))) 11)then(if (Int.tmod (wrap64 (rd x1 (Int.tmod x6 (x1.length:Int)))) 11)<(y321.length:Int)then(spec_Gaps.j1 k x0 x1 x5 x6 (rdOf ByteArray.empty y321 (Int.tmod (wrap64 (rd x1 (Int.tmod x6 (x1.length:Int)))) 11)))else(none))else(none))else(none))else(none))))else(spec_Gaps.j1 k x0 x1 x5 x6 (⟨#[32]⟩:ByteArray)))else(some x5)
def spec_Gaps.j1:Nat→List ByteArray→List Int→ByteArray→Int→ByteArray→Option (ByteArray)
 | 0,_,_,_,_,_=>none
 | k+1,x0,x1,x5,x6,x7=>if x7.toList=([]:List UInt8)then(if x6>0 then(if 0≤(wrap64 (x6-1))then(if (wrap64 (x6-1))<(x0.length:Int)then((spec_clinging.f (rdOf ByteArray.empty x0 (wrap64 (x6-1)))).bind fun t327=>(if t327=true then(if 0≤x6 then(if x6<(x0.length:Int)then((spec_clinging.f (rdOf ByteArray.empty x0 x6)).bind fun t329=>(if t329=true then(spec_Gaps.j2 k x0 x1 x5 x6 x7 true)else(if 0<((rdOf ByteArray.empty x0 (wrap64 (x6-1))).size:Int)then(if (bt (rdOf ByteArray.empty x0 (wrap64 (x6-1))) 0)=34 then(if 0<((rdOf ByteArray.empty x0 x6).size:Int)then(spec_Gaps.j2 k x0 x1 x5 x6 x7 ((bt (rdOf ByteArray.empty x0 x6) 0)==34))else(none))else(spec_Gaps.j2 k x0 x1 x5 x6 x7 false))else(none))))else(none))else(none))else(if 0<((rdOf ByteArray.empty x0 (wrap64 (x6-1))).size:Int)then(if (bt (rdOf ByteArray.empty x0 (wrap64 (x6-1))) 0)=34 then(if 0≤x6 then(if x6<(x0.length:Int)then(if 0<((rdOf ByteArray.empty x0 x6).size:Int)then(spec_Gaps.j2 k x0 x1 x5 x6 x7 ((bt (rdOf ByteArray.empty x0 x6) 0)==34))else(none))else(none))else(none))else(spec_Gaps.j2 k x0 x1 x5 x6 x7 false))else(none))))else(none))else(none))else(spec_Gaps.j2 k x0 x1 x5 x6 x7 false))else(spec_Gaps.j2 k x0 x1 x5 x6 x7 false)
def spec_Gaps.j2:Nat→List ByteArray→List Int→ByteArray→Int→ByteArray→Bool→Option (ByteArray)
 | 0,_,_,_,_,_,_=>none
 | k+1,x0,x1,x5,x6,x7,x66=>if x66=true then(if x6>0 then(if x5.size+1≤9223372036854775807 then(if 0≤x6 then(if x6<(x0.length:Int)then(if (x5++(⟨#[32]⟩:ByteArray)).size+(rdOf ByteArray.empty x0 x6).size≤9223372036854775807 then(spec_Gaps.l0 k x0 x1 ((x5++(⟨#[32]⟩:ByteArray))++(rdOf ByteArray.empty x0 x6)) (wrap64 (x6+1)))else(none))else(none))else(none))else(none))else(if (x1.length:Int)>0 then(if x5.size+1≤9223372036854775807 then(if 0≤x6 then(if x6<(x0.length:Int)then(if (x5++(⟨#[32]⟩:ByteArray)).size+(rdOf ByteArray.empty x0 x6).size≤9223372036854775807 then(spec_Gaps.l0 k x0 x1 ((x5++(⟨#[32]⟩:ByteArray))++(rdOf ByteArray.empty x0 x6)) (wrap64 (x6+1)))else(none))else(none))else(none))else(none))else(if 0≤x6 then(if x6<(x0.length:Int)then(if x5.size+(rdOf ByteArray.empty x0 x6).size≤9223372036854775807 then(spec_Gaps.l0 k x0 x1 (x5++(rdOf ByteArray.empty x0 x6)) (wrap64 (x6+1)))else(none))else(none))else(none))))else(if x6>0 then(if x5.size+x7.size≤9223372036854775807 then(if 0≤x6 then(if x6<(x0.length:Int)then(if (x5++x7).size+(rdOf ByteArray.empty x0 x6).size≤9223372036854775807 then(spec_Gaps.l0 k x0 x1 ((x5++x7)++(rdOf ByteArray.empty x0 x6)) (wrap64 (x6+1)))else(none))else(none))else(none))else(none))else(if (x1.length:Int)>0 then(if x5.size+x7.size≤9223372036854775807 then(if 0≤x6 then(if x6<(x0.length:Int)then(if (x5++x7).size+(rdOf ByteArray.empty x0 x6).size≤9223372036854775807 then(spec_Gaps.l0 k x0 x1 ((x5++x7)++(rdOf ByteArray.empty x0 x6)) (wrap64 (x6+1)))else(none))else(none))else(none))else(none))else(if 0≤x6 then(if x6<(x0.length:Int)then(if x5.size+(rdOf ByteArray.empty x0 x6).size≤9223372036854775807 then(spec_Gaps.l0 k x0 x1 (x5++(rdOf ByteArray.empty x0 x6)) (wrap64 (x6+1)))else(none))else(none))else(none))))
end
def spec_Gaps.f (k:Nat) (l0:List ByteArray) (l1:List Int):Option (ByteArray):=spec_Gaps.l0 k l0 l1 (⟨#[]⟩:ByteArray) 0
theorem spec_Gaps.calls (k:Nat) (A0:Option Addr) (c0:Nat) (l0:List ByteArray) (A1:Option Addr) (c1:Nat) (l1:List Int) (r:ByteArray) (w:World) (hr0:Kd.C Kd.string w A0 l0.length l0) (hc0:l0.length≤c0) (hr1:Kd.C (Kd.int .u8) w A1 l1.length l1) (hc1:l1.length≤c1) (h:spec_Gaps.f k l0 l1=some r) :
  Calls Tryz.prog 9 #[.slice A0 l0.length c0,.slice A1 l1.length c1] w fun e w'=>e = .returned (.string r)∧Below w.heap.size w w':=by
 have HR0:=aK hr0;have HC0:=aK hc0;clear hr0 hc0;have HR1:=aK hr1;have HC1:=aK hc1;clear hr1 hc1;have HB:=aK (Below.refl w.heap.size w);have H:(spec_Gaps.l0 k l0 l1 (⟨#[]⟩:ByteArray) 0)=some r:=h;clear h;have H':=aK H;clear H;go_enter Tryz.func9,Tryz.ntmps9;go_wp2
 go_loopg [5,6] k (fun kq v5 v6 w'=>∃(x5_1:ByteArray) (x6_1:Int),v5 = .string x5_1∧v6 = .int .i64 x6_1∧Aside0 (spec_Gaps.l0 kq l0 l1 x5_1 x6_1=some r)∧Aside0 (kq≤k)∧Aside0 (Below w.heap.size w w'))
 case atStart=>exact⟨((⟨#[]⟩:ByteArray)),(0),vR,vR,H',⟨Nat.le_refl _⟩,⟨vB⟩⟩
 case round=>
  clear H';obtain⟨x5_1,x6_1,rfl,rfl,HA,HK1,HB⟩:=hrel;cases gk with
  | zero=>exact absurd HA.out (by simp[spec_Gaps.l0])
  | succ k1=>
   have H:=HA.out;clear HA;simp only[spec_Gaps.l0]at H
   by_cases c3:x6_1<(l0.length:Int)
   ·rw[if_pos c3]at H
    have c3b0:=decide_eq_true c3;clear c3;have HC4:=aK H;clear H
    go_upto_if 16 with(fail)
    go_cut [7] (fun v7 wc=>∃(kq:Nat) (x7_3:ByteArray),v7 = .string x7_3∧Aside0 (spec_Gaps.j1 kq l0 l1 x5_1 x6_1 x7_3=some r)∧Aside0 (kq≤k1)∧Aside0 (Below w.heap.size w wc))
    case first=>
     have H:=HC4.out;clear HC4
     by_cases c5:(l1.length:Int)>0
     ·rw[if_pos c5]at H
      have c5b0:decide (0<(l1.length:Int))=true:=decide_eq_true c5;have c5b1:decide (0<l1.length)=true:=decide_eq_true (by omega)
      clear c5
      (first|rw[c5b0]|(simp only[i64_w,i32_w];rw[c5b0])|skip)
      obtain⟨y321,hy321⟩:∃y_:List ByteArray,y_=(([(⟨#[]⟩:ByteArray),(⟨#[32]⟩:ByteArray),(⟨#[10]⟩:ByteArray),(⟨#[44]⟩:ByteArray),(⟨#[32,44,32]⟩:ByteArray),(⟨#[9]⟩:ByteArray),(⟨#[13,10]⟩:ByteArray),(⟨#[13]⟩:ByteArray),(⟨#[35,32,97,10]⟩:ByteArray),(⟨#[35,13]⟩:ByteArray),(⟨#[44,44,10,32,32]⟩:ByteArray)]:List ByteArray)):=⟨_,rfl⟩
      replace H:(if (l1.length:Int)=0 then(none)else(if 0≤(Int.tmod x6_1 (l1.length:Int))then(if (Int.tmod x6_1 (l1.length:Int))<(l1.length:Int)then(if 0≤(Int.tmod (wrap64 (rd l1 (Int.tmod x6_1 (l1.length:Int)))) 11)then(if (Int.tmod (wrap64 (rd l1 (Int.tmod x6_1 (l1.length:Int)))) 11)<(y321.length:Int)then(spec_Gaps.j1 k1 l0 l1 x5_1 x6_1 (rdOf ByteArray.empty y321 (Int.tmod (wrap64 (rd l1 (Int.tmod x6_1 (l1.length:Int)))) 11)))else(none))else(none))else(none))else(none)))=some r:=by first|(rw[hy321];with_reducible exact H)|(have H2_:=(Option.bind_some _ _).symm.trans H;rw[hy321];with_reducible exact H2_)|(have H2_:=(Option.bind_some _ _).symm.trans H;with_reducible exact H2_)|with_reducible exact H|(rw[hy321];exact H)|exact H
      have Ny321:=aK hy321;clear hy321
      by_cases c6:(l1.length:Int)=0
      ·rw[if_pos c6]at H
       exact absurd H (by simp)
      ·rw[if_neg c6]at H
       have c6b0:((l1.length:Int)==0)=false:=beq_eq_false_iff_ne.mpr c6;have c6b1:((l1.length:Int) != 0)=true:=bne_iff_ne.mpr c6;have c6b2:¬(l1=[]):=fun h_=>c6 (by rw[h_];rfl)
       obtain⟨ji7,hji7⟩:∃j_:Int,(Int.tmod x6_1 (l1.length:Int))=j_:=⟨_,rfl⟩;replace H:(if 0≤(ji7)then(if (ji7)<(l1.length:Int)then(if 0≤(Int.tmod (wrap64 (rd l1 (ji7))) 11)then(if (Int.tmod (wrap64 (rd l1 (ji7))) 11)<(y321.length:Int)then(spec_Gaps.j1 k1 l0 l1 x5_1 x6_1 (rdOf ByteArray.empty y321 (Int.tmod (wrap64 (rd l1 (ji7))) 11)))else(none))else(none))else(none))else(none))=some r:=by first|(rw[hji7]at H;exact H)|(simp only[hji7]at H ⊢;exact H)
       by_cases c8:0≤(ji7)
       ·rw[if_pos c8]at H
        have c8b0:=decide_eq_true c8;clear c8
        by_cases c9:(ji7)<(l1.length:Int)
        ·rw[if_pos c9]at H
         have c9b0:=decide_eq_true c9;clear c9;obtain⟨ji10,hji10⟩:∃j_:Int,(Int.tmod (wrap64 (rd l1 (ji7))) 11)=j_:=⟨_,rfl⟩;replace H:(if 0≤(ji10)then(if (ji10)<(y321.length:Int)then(spec_Gaps.j1 k1 l0 l1 x5_1 x6_1 (rdOf ByteArray.empty y321 (ji10)))else(none))else(none))=some r:=by first|(rw[hji10]at H;exact H)|(simp only[hji10]at H ⊢;exact H)
         by_cases c11:0≤(ji10)
         ·rw[if_pos c11]at H
          have c11b0:=decide_eq_true c11;clear c11
          by_cases c12:(ji10)<(y321.length:Int)
          ·rw[if_pos c12]at H
           have c12b0:=decide_eq_true c12;clear c12;have H':=aK H;clear H
           go_wp2_with (first|((with_reducible refine gate_dst (N:=17) rfl ?_);(try (refine gate_guard (by rfl) ?_;dsimp only));refine Kd.R_lit Kd.string _ 9 ?hg (N:=17) ?hd (xs:=([(⟨#[]⟩:ByteArray),(⟨#[32]⟩:ByteArray),(⟨#[10]⟩:ByteArray),(⟨#[44]⟩:ByteArray),(⟨#[32,44,32]⟩:ByteArray),(⟨#[9]⟩:ByteArray),(⟨#[13,10]⟩:ByteArray),(⟨#[13]⟩:ByteArray),(⟨#[35,32,97,10]⟩:ByteArray),(⟨#[35,13]⟩:ByteArray),(⟨#[44,44,10,32,32]⟩:ByteArray)]:List ByteArray)) (inner:=[.string (⟨#[]⟩:ByteArray),.string (⟨#[32]⟩:ByteArray),.string (⟨#[10]⟩:ByteArray),.string (⟨#[44]⟩:ByteArray),.string (⟨#[32,44,32]⟩:ByteArray),.string (⟨#[9]⟩:ByteArray),.string (⟨#[13,10]⟩:ByteArray),.string (⟨#[13]⟩:ByteArray),.string (⟨#[35,32,97,10]⟩:ByteArray),.string (⟨#[35,13]⟩:ByteArray),.string (⟨#[44,44,10,32,32]⟩:ByteArray)]) (ok:=fun _=>True) (okp:=fun _=>True) ?hr ?hp (fun _ hk=>hk) trivial (Below.refl _ _) (Nat.le_refl _) (by simp) ?_;(case hd=>rfl);(case hg=>rfl);(case hr=>first|(go_simp;done)|(go_simp;rfl));(case hp=>exact(Reps.one (show Kd.M Kd.string _ _ _ (⟨#[]⟩:ByteArray) [.string (⟨#[]⟩:ByteArray)]from rfl) (Reps.one (show Kd.M Kd.string _ _ _ (⟨#[32]⟩:ByteArray) [.string (⟨#[32]⟩:ByteArray)]from rfl) (Reps.one (show Kd.M Kd.string _ _ _ (⟨#[10]⟩:ByteArray) [.string (⟨#[10]⟩:ByteArray)]from rfl) (Reps.one (show Kd.M Kd.string _ _ _ (⟨#[44]⟩:ByteArray) [.string (⟨#[44]⟩:ByteArray)]from rfl) (Reps.one (show Kd.M Kd.string _ _ _ (⟨#[32,44,32]⟩:ByteArray) [.string (⟨#[32,44,32]⟩:ByteArray)]from rfl) (Reps.one (show Kd.M Kd.string _ _ _ (⟨#[9]⟩:ByteArray) [.string (⟨#[9]⟩:ByteArray)]from rfl) (Reps.one (show Kd.M Kd.string _ _ _ (⟨#[13,10]⟩:ByteArray) [.string (⟨#[13,10]⟩:ByteArray)]from rfl) (Reps.one (show Kd.M Kd.string _ _ _ (⟨#[13]⟩:ByteArray) [.string (⟨#[13]⟩:ByteArray)]from rfl) (Reps.one (show Kd.M Kd.string _ _ _ (⟨#[35,32,97,10]⟩:ByteArray) [.string (⟨#[35,32,97,10]⟩:ByteArray)]from rfl) (Reps.one (show Kd.M Kd.string _ _ _ (⟨#[35,13]⟩:ByteArray) [.string (⟨#[35,13]⟩:ByteArray)]from rfl) (Reps.one (show Kd.M Kd.string _ _ _ (⟨#[44,44,10,32,32]⟩:ByteArray) [.string (⟨#[44,44,10,32,32]⟩:ByteArray)]from rfl) (Reps.none _ _)))))))))))));intro v322 w13 ho14 hb hg_ hnew_;clear hg_ hnew_;(first|rw[←Ny321.out]at ho14|(simp only[Int.reduceToNat]at ho14;rw[←Ny321.out]at ho14));have n0_:=aK (Kd.R_lower ho14 (below_size vB));have n1_:=aK (below_step vB hb);clear HB;have HO323:=n0_;have HB:=n1_;clear n0_ n1_;clear hb ho14;have p324:0≤((ji7):Int):=of_decide_eq_true vA;have q324:(ji7)<(l1.length:Int):=of_decide_eq_true vA;obtain⟨ad324,e324,hx324_0⟩:=Kd.at_int HR1.out (ji7) p324 q324;cases e324;replace hx324_0:=(HB.out.cell (World.block_lt_of_cell? w _ hx324_0)).trans hx324_0;replace p324:=eq_true p324;replace q324:=eq_true q324;obtain⟨Ao15,co15,eo15⟩:=Kd.R_slice HO323.out;subst eo15;have p325:0≤((ji10):Int):=of_decide_eq_true vA;have q325:(ji10)<(y321.length:Int):=of_decide_eq_true vA;obtain⟨ad325,e325,hx325_0⟩:=Kd.at_string (Kd.R_reads' HO323.out).2.2 (ji10) p325 q325;cases e325;replace p325:=eq_true p325;replace q325:=eq_true q325))
           go_meet
           case rel=>exact⟨_,(rdOf ByteArray.empty y321 (ji10)),(by first|rfl|(simp;done)|(simp only[←hji10]<;>(first|rfl|simp))|(simp[*];done)),H',⟨by have:=HK1.out;first|omega|exact Nat.le_refl _⟩,⟨vB⟩⟩
          ·rw[if_neg c12]at H
           exact absurd H (by simp)
         ·rw[if_neg c11]at H
          exact absurd H (by simp)
        ·rw[if_neg c9]at H
         exact absurd H (by simp)
       ·rw[if_neg c8]at H
        exact absurd H (by simp)
     ·rw[if_neg c5]at H
      have c5b0:decide (0<(l1.length:Int))=false:=decide_eq_false c5;have c5b1:decide (0<l1.length)=false:=decide_eq_false (by omega)
      obtain rfl:l1=[]:=List.length_eq_zero_iff.mp (by omega)
      simp only[List.length_nil]at c5b0 c5b1 ⊢;clear c5
      (first|rw[c5b0]|(simp only[i64_w,i32_w];rw[c5b0])|skip)
      have H':=aK H;clear H;go_wp2
      go_meet
      case rel=>exact⟨_,((⟨#[32]⟩:ByteArray)),vR,H',⟨by have:=HK1.out;first|omega|exact Nat.le_refl _⟩,⟨vB⟩⟩
    case rest=>
     clear HC4;obtain⟨kq,x7_3,rfl,HA,HJ3,HB⟩:=hcut;cases kq with
     | zero=>exact absurd HA.out (by simp[spec_Gaps.j1])
     | succ kj3=>
      have H:=HA.out;clear HA;simp only[spec_Gaps.j1]at H;have HC16:=aK H;clear H
      go_upto_region 8 with(fail)
      go_cut [66] (fun v66 wc=>∃(kq:Nat) (x66_15:Bool),v66 = .bool x66_15∧Aside0 (spec_Gaps.j2 kq l0 l1 x5_1 x6_1 x7_3 x66_15=some r)∧Aside0 (kq≤kj3)∧Aside0 (Below w.heap.size w wc))
      case first=>
       have H:=HC16.out;clear HC16
       by_cases c17:x7_3.toList=([]:List UInt8)
       ·rw[if_pos c17]at H
        have c17b0:(x7_3.toList==([]:List UInt8))=true:=beq_iff_eq.mpr c17;have c17b1:(x7_3.toList != ([]:List UInt8))=false:=bne_eq_false_iff_eq.mpr c17;clear c17
        (first|rw[c17b0]|(simp only[i64_w,i32_w];rw[c17b0])|skip)
        by_cases c18:x6_1>0
        ·rw[if_pos c18]at H
         have c18b0:decide (0<x6_1)=true:=decide_eq_true c18;clear c18;obtain⟨ji19,hji19⟩:∃j_:Int,(wrap64 (x6_1-1))=j_:=⟨_,rfl⟩
         replace H:(if 0≤(ji19)then(if (ji19)<(l0.length:Int)then((spec_clinging.f (rdOf ByteArray.empty l0 (ji19))).bind fun t327=>(if t327=true then(if 0≤x6_1 then(if x6_1<(l0.length:Int)then((spec_clinging.f (rdOf ByteArray.empty l0 x6_1)).bind fun t329=>(if t329=true then(spec_Gaps.j2 kj3 l0 l1 x5_1 x6_1 x7_3 true)else(if 0<((rdOf ByteArray.empty l0 (ji19)).size:Int)then(if (bt (rdOf ByteArray.empty l0 (ji19)) 0)=34 then(if 0<((rdOf ByteArray.empty l0 x6_1).size:Int)then(spec_Gaps.j2 kj3 l0 l1 x5_1 x6_1 x7_3 ((bt (rdOf ByteArray.empty l0 x6_1) 0)==34))else(none))else(spec_Gaps.j2 kj3 l0 l1 x5_1 x6_1 x7_3 false))else(none))))else(none))else(none))else(if 0<((rdOf ByteArray.empty l0 (ji19)).size:Int)then(if (bt (rdOf ByteArray.empty l0 (ji19)) 0)=34 then(if 0≤x6_1 then(if x6_1<(l0.length:Int)then(if 0<((rdOf ByteArray.empty l0 x6_1).size:Int)then(spec_Gaps.j2 kj3 l0 l1 x5_1 x6_1 x7_3 ((bt (rdOf ByteArray.empty l0 x6_1) 0)==34))else(none))else(none))else(none))else(spec_Gaps.j2 kj3 l0 l1 x5_1 x6_1 x7_3 false))else(none))))else(none))else(none))=some r:=by first|(rw[hji19]at H;exact H)|(simp only[hji19]at H ⊢;exact H)
         have hji19w:(IntKind.i64.wrap (x6_1-1))=ji19:=(i64_w _).trans hji19
         by_cases c20:0≤(ji19)
         ·rw[if_pos c20]at H
          have c20b0:=decide_eq_true c20;clear c20
          by_cases c21:(ji19)<(l0.length:Int)
          ·rw[if_pos c21]at H
           have c21b0:=decide_eq_true c21;clear c21;replace H:=Option.bind_eq_some_iff.mp H;obtain⟨t327,A220,H⟩:=H
           (try dsimp only at H)
           have A22:=aK A220;clear A220
           by_cases c23:t327=true
           ·subst c23
            rw[if_pos rfl]at H
            by_cases c24:0≤x6_1
            ·rw[if_pos c24]at H
             have c24b0:=decide_eq_true c24;clear c24
             by_cases c25:x6_1<(l0.length:Int)
             ·rw[if_pos c25]at H
              have c25b0:=decide_eq_true c25;clear c25;replace H:=Option.bind_eq_some_iff.mp H;obtain⟨t329,A260,H⟩:=H
              (try dsimp only at H)
              have A26:=aK A260;clear A260
              by_cases c27:t329=true
              ·subst c27
               rw[if_pos rfl]at H;have H':=aK H;clear H;have p326:0≤((ji19):Int):=of_decide_eq_true vA;have q326:(ji19)<(l0.length:Int):=of_decide_eq_true vA;obtain⟨ad326,e326,hx326_0⟩:=Kd.at_string HR0.out (ji19) p326 q326;cases e326;replace hx326_0:=(HB.out.cell (World.block_lt_of_cell? w _ hx326_0)).trans hx326_0;replace p326:=eq_true p326;replace q326:=eq_true q326
               go_wp2_with (first|(go_at_call 17;(with_reducible refine(spec_clinging.calls (rdOf ByteArray.empty l0 (ji19)) true _ A22.out).mono ?_);rintro e w' ⟨rfl,⟨nd,rfl⟩⟩;have p328:0≤(x6_1:Int):=of_decide_eq_true vA;have q328:x6_1<(l0.length:Int):=of_decide_eq_true vA;obtain⟨ad328,e328,hx328_0⟩:=Kd.at_string HR0.out x6_1 p328 q328;obtain rfl:ad326=ad328:=(by injection e328);replace hx328_0:=(HB.out.cell (World.block_lt_of_cell? w _ hx328_0)).trans hx328_0;replace p328:=eq_true p328;replace q328:=eq_true q328)|(go_at_call 17;(with_reducible refine(spec_clinging.calls (rdOf ByteArray.empty l0 x6_1) true _ A26.out).mono ?_);rintro e w' ⟨rfl,⟨nd,rfl⟩⟩))
               go_meet
               case rel=>exact⟨_,(true),vR,H',⟨by have:=HK1.out;have:=HJ3.out;first|omega|exact Nat.le_refl _⟩,⟨vB⟩⟩
              ·replace c27:=Bool.eq_false_iff.mpr c27
               subst c27;rw[if_neg (show ¬(false=true) by decide)]at H
               by_cases c28:0<((rdOf ByteArray.empty l0 (ji19)).size:Int)
               ·rw[if_pos c28]at H
                have c28b0:=decide_eq_true c28;have c28b1:decide (0<(rdOf ByteArray.empty l0 (ji19)).size)=true:=decide_eq_true (by omega)
                clear c28
                by_cases c30:(bt (rdOf ByteArray.empty l0 (ji19)) 0)=34
                ·rw[if_pos c30]at H
                 have c30b0:((bt (rdOf ByteArray.empty l0 (ji19)) 0)==34)=true:=beq_iff_eq.mpr c30;have c30b1:((bt (rdOf ByteArray.empty l0 (ji19)) 0) != 34)=false:=bne_eq_false_iff_eq.mpr c30;clear c30
                 by_cases c31:0<((rdOf ByteArray.empty l0 x6_1).size:Int)
                 ·rw[if_pos c31]at H
                  have c31b0:=decide_eq_true c31;have c31b1:decide (0<(rdOf ByteArray.empty l0 x6_1).size)=true:=decide_eq_true (by omega)
                  clear c31;have H':=aK H;clear H;have p326:0≤((ji19):Int):=of_decide_eq_true vA;have q326:(ji19)<(l0.length:Int):=of_decide_eq_true vA;obtain⟨ad326,e326,hx326_0⟩:=Kd.at_string HR0.out (ji19) p326 q326;cases e326;replace hx326_0:=(HB.out.cell (World.block_lt_of_cell? w _ hx326_0)).trans hx326_0;replace p326:=eq_true p326;replace q326:=eq_true q326
                  go_wp2_with (first|(go_at_call 17;(with_reducible refine(spec_clinging.calls (rdOf ByteArray.empty l0 (ji19)) true _ A22.out).mono ?_);rintro e w' ⟨rfl,⟨nd,rfl⟩⟩;have p328:0≤(x6_1:Int):=of_decide_eq_true vA;have q328:x6_1<(l0.length:Int):=of_decide_eq_true vA;obtain⟨ad328,e328,hx328_0⟩:=Kd.at_string HR0.out x6_1 p328 q328;obtain rfl:ad326=ad328:=(by injection e328);replace hx328_0:=(HB.out.cell (World.block_lt_of_cell? w _ hx328_0)).trans hx328_0;replace p328:=eq_true p328;replace q328:=eq_true q328)|(go_at_call 17;(with_reducible refine(spec_clinging.calls (rdOf ByteArray.empty l0 x6_1) false _ A26.out).mono ?_);rintro e w' ⟨rfl,⟨nd,rfl⟩⟩;have p330:0≤((ji19):Int):=of_decide_eq_true vA;have q330:(ji19)<(l0.length:Int):=of_decide_eq_true vA;obtain⟨ad330,e330,hx330_0⟩:=Kd.at_string HR0.out (ji19) p330 q330;obtain rfl:ad326=ad330:=(by injection e330);replace hx330_0:=(HB.out.cell (World.block_lt_of_cell? w _ hx330_0)).trans hx330_0;replace p330:=eq_true p330;replace q330:=eq_true q330;have p29:0≤(0:Int):=(by omega);have q29:0<(rdOf ByteArray.empty l0 (ji19)).size:=(by have:(0:Int)<((rdOf ByteArray.empty l0 (ji19)).size:Int):=of_decide_eq_true vA;omega);have hx29:∀h:0<(rdOf ByteArray.empty l0 (ji19)).size,(((rdOf ByteArray.empty l0 (ji19))[0]'h).toNat:Int)=bt (rdOf ByteArray.empty l0 (ji19)) 0:=bt_at (rdOf ByteArray.empty l0 (ji19)) 0;clear p29;have qi29:(0<((rdOf ByteArray.empty l0 (ji19)).size:Int))=True:=eq_true (of_decide_eq_true vA);replace q29:=eq_true q29;have p331:0≤(x6_1:Int):=of_decide_eq_true vA;have q331:x6_1<(l0.length:Int):=of_decide_eq_true vA;obtain⟨ad331,e331,hx331_0⟩:=Kd.at_string HR0.out x6_1 p331 q331;obtain rfl:ad326=ad331:=(by injection e331);replace hx331_0:=(HB.out.cell (World.block_lt_of_cell? w _ hx331_0)).trans hx331_0;replace p331:=eq_true p331;replace q331:=eq_true q331;have p32:0≤(0:Int):=(by omega);have q32:0<(rdOf ByteArray.empty l0 x6_1).size:=(by have:(0:Int)<((rdOf ByteArray.empty l0 x6_1).size:Int):=of_decide_eq_true vA;omega);have hx32:∀h:0<(rdOf ByteArray.empty l0 x6_1).size,(((rdOf ByteArray.empty l0 x6_1)[0]'h).toNat:Int)=bt (rdOf ByteArray.empty l0 x6_1) 0:=bt_at (rdOf ByteArray.empty l0 x6_1) 0;clear p32;have qi32:(0<((rdOf ByteArray.empty l0 x6_1).size:Int))=True:=eq_true (of_decide_eq_true vA);replace q32:=eq_true q32))
                  go_meet
                  case rel=>exact⟨_,(((bt (rdOf ByteArray.empty l0 x6_1) 0)==34)),vR,H',⟨by have:=HK1.out;have:=HJ3.out;first|omega|exact Nat.le_refl _⟩,⟨vB⟩⟩
                 ·rw[if_neg c31]at H
                  exact absurd H (by simp)
                ·rw[if_neg c30]at H
                 have c30b0:((bt (rdOf ByteArray.empty l0 (ji19)) 0)==34)=false:=beq_eq_false_iff_ne.mpr c30;have c30b1:((bt (rdOf ByteArray.empty l0 (ji19)) 0) != 34)=true:=bne_iff_ne.mpr c30;have H':=aK H;clear H;have p326:0≤((ji19):Int):=of_decide_eq_true vA;have q326:(ji19)<(l0.length:Int):=of_decide_eq_true vA;obtain⟨ad326,e326,hx326_0⟩:=Kd.at_string HR0.out (ji19) p326 q326;cases e326;replace hx326_0:=(HB.out.cell (World.block_lt_of_cell? w _ hx326_0)).trans hx326_0;replace p326:=eq_true p326;replace q326:=eq_true q326
                 go_wp2_with (first|(go_at_call 17;(with_reducible refine(spec_clinging.calls (rdOf ByteArray.empty l0 (ji19)) true _ A22.out).mono ?_);rintro e w' ⟨rfl,⟨nd,rfl⟩⟩;have p328:0≤(x6_1:Int):=of_decide_eq_true vA;have q328:x6_1<(l0.length:Int):=of_decide_eq_true vA;obtain⟨ad328,e328,hx328_0⟩:=Kd.at_string HR0.out x6_1 p328 q328;obtain rfl:ad326=ad328:=(by injection e328);replace hx328_0:=(HB.out.cell (World.block_lt_of_cell? w _ hx328_0)).trans hx328_0;replace p328:=eq_true p328;replace q328:=eq_true q328)|(go_at_call 17;(with_reducible refine(spec_clinging.calls (rdOf ByteArray.empty l0 x6_1) false _ A26.out).mono ?_);rintro e w' ⟨rfl,⟨nd,rfl⟩⟩;have p330:0≤((ji19):Int):=of_decide_eq_true vA;have q330:(ji19)<(l0.length:Int):=of_decide_eq_true vA;obtain⟨ad330,e330,hx330_0⟩:=Kd.at_string HR0.out (ji19) p330 q330;obtain rfl:ad326=ad330:=(by injection e330);replace hx330_0:=(HB.out.cell (World.block_lt_of_cell? w _ hx330_0)).trans hx330_0;replace p330:=eq_true p330;replace q330:=eq_true q330;have p29:0≤(0:Int):=(by omega);have q29:0<(rdOf ByteArray.empty l0 (ji19)).size:=(by have:(0:Int)<((rdOf ByteArray.empty l0 (ji19)).size:Int):=of_decide_eq_true vA;omega);have hx29:∀h:0<(rdOf ByteArray.empty l0 (ji19)).size,(((rdOf ByteArray.empty l0 (ji19))[0]'h).toNat:Int)=bt (rdOf ByteArray.empty l0 (ji19)) 0:=bt_at (rdOf ByteArray.empty l0 (ji19)) 0;clear p29;have qi29:(0<((rdOf ByteArray.empty l0 (ji19)).size:Int))=True:=eq_true (of_decide_eq_true vA);replace q29:=eq_true q29))
                 go_meet
                 case rel=>exact⟨_,(false),vR,H',⟨by have:=HK1.out;have:=HJ3.out;first|omega|exact Nat.le_refl _⟩,⟨vB⟩⟩
               ·rw[if_neg c28]at H
                exact absurd H (by simp)
             ·rw[if_neg c25]at H
              exact absurd H (by simp)
            ·rw[if_neg c24]at H
             exact absurd H (by simp)
           ·replace c23:=Bool.eq_false_iff.mpr c23
            subst c23;rw[if_neg (show ¬(false=true) by decide)]at H
            by_cases c33:0<((rdOf ByteArray.empty l0 (ji19)).size:Int)
            ·rw[if_pos c33]at H
             have c33b0:=decide_eq_true c33;have c33b1:decide (0<(rdOf ByteArray.empty l0 (ji19)).size)=true:=decide_eq_true (by omega)
             clear c33
             by_cases c35:(bt (rdOf ByteArray.empty l0 (ji19)) 0)=34
             ·rw[if_pos c35]at H
              have c35b0:((bt (rdOf ByteArray.empty l0 (ji19)) 0)==34)=true:=beq_iff_eq.mpr c35;have c35b1:((bt (rdOf ByteArray.empty l0 (ji19)) 0) != 34)=false:=bne_eq_false_iff_eq.mpr c35;clear c35
              by_cases c36:0≤x6_1
              ·rw[if_pos c36]at H
               have c36b0:=decide_eq_true c36;clear c36
               by_cases c37:x6_1<(l0.length:Int)
               ·rw[if_pos c37]at H
                have c37b0:=decide_eq_true c37;clear c37
                by_cases c38:0<((rdOf ByteArray.empty l0 x6_1).size:Int)
                ·rw[if_pos c38]at H
                 have c38b0:=decide_eq_true c38;have c38b1:decide (0<(rdOf ByteArray.empty l0 x6_1).size)=true:=decide_eq_true (by omega)
                 clear c38;have H':=aK H;clear H;have p326:0≤((ji19):Int):=of_decide_eq_true vA;have q326:(ji19)<(l0.length:Int):=of_decide_eq_true vA;obtain⟨ad326,e326,hx326_0⟩:=Kd.at_string HR0.out (ji19) p326 q326;cases e326;replace hx326_0:=(HB.out.cell (World.block_lt_of_cell? w _ hx326_0)).trans hx326_0;replace p326:=eq_true p326;replace q326:=eq_true q326
                 go_wp2_with (first|(go_at_call 17;(with_reducible refine(spec_clinging.calls (rdOf ByteArray.empty l0 (ji19)) false _ A22.out).mono ?_);rintro e w' ⟨rfl,⟨nd,rfl⟩⟩;have p332:0≤((ji19):Int):=of_decide_eq_true vA;have q332:(ji19)<(l0.length:Int):=of_decide_eq_true vA;obtain⟨ad332,e332,hx332_0⟩:=Kd.at_string HR0.out (ji19) p332 q332;obtain rfl:ad326=ad332:=(by injection e332);replace hx332_0:=(HB.out.cell (World.block_lt_of_cell? w _ hx332_0)).trans hx332_0;replace p332:=eq_true p332;replace q332:=eq_true q332;have p34:0≤(0:Int):=(by omega);have q34:0<(rdOf ByteArray.empty l0 (ji19)).size:=(by have:(0:Int)<((rdOf ByteArray.empty l0 (ji19)).size:Int):=of_decide_eq_true vA;omega);have hx34:∀h:0<(rdOf ByteArray.empty l0 (ji19)).size,(((rdOf ByteArray.empty l0 (ji19))[0]'h).toNat:Int)=bt (rdOf ByteArray.empty l0 (ji19)) 0:=bt_at (rdOf ByteArray.empty l0 (ji19)) 0;clear p34;have qi34:(0<((rdOf ByteArray.empty l0 (ji19)).size:Int))=True:=eq_true (of_decide_eq_true vA);replace q34:=eq_true q34;have p333:0≤(x6_1:Int):=of_decide_eq_true vA;have q333:x6_1<(l0.length:Int):=of_decide_eq_true vA;obtain⟨ad333,e333,hx333_0⟩:=Kd.at_string HR0.out x6_1 p333 q333;obtain rfl:ad326=ad333:=(by injection e333);replace hx333_0:=(HB.out.cell (World.block_lt_of_cell? w _ hx333_0)).trans hx333_0;replace p333:=eq_true p333;replace q333:=eq_true q333;have p39:0≤(0:Int):=(by omega);have q39:0<(rdOf ByteArray.empty l0 x6_1).size:=(by have:(0:Int)<((rdOf ByteArray.empty l0 x6_1).size:Int):=of_decide_eq_true vA;omega);have hx39:∀h:0<(rdOf ByteArray.empty l0 x6_1).size,(((rdOf ByteArray.empty l0 x6_1)[0]'h).toNat:Int)=bt (rdOf ByteArray.empty l0 x6_1) 0:=bt_at (rdOf ByteArray.empty l0 x6_1) 0;clear p39;have qi39:(0<((rdOf ByteArray.empty l0 x6_1).size:Int))=True:=eq_true (of_decide_eq_true vA);replace q39:=eq_true q39))
                 go_meet
                 case rel=>exact⟨_,(((bt (rdOf ByteArray.empty l0 x6_1) 0)==34)),vR,H',⟨by have:=HK1.out;have:=HJ3.out;first|omega|exact Nat.le_refl _⟩,⟨vB⟩⟩
                ·rw[if_neg c38]at H
                 exact absurd H (by simp)
               ·rw[if_neg c37]at H
                exact absurd H (by simp)
              ·rw[if_neg c36]at H
               exact absurd H (by simp)
             ·rw[if_neg c35]at H
              have c35b0:((bt (rdOf ByteArray.empty l0 (ji19)) 0)==34)=false:=beq_eq_false_iff_ne.mpr c35;have c35b1:((bt (rdOf ByteArray.empty l0 (ji19)) 0) != 34)=true:=bne_iff_ne.mpr c35;have H':=aK H;clear H;have p326:0≤((ji19):Int):=of_decide_eq_true vA;have q326:(ji19)<(l0.length:Int):=of_decide_eq_true vA;obtain⟨ad326,e326,hx326_0⟩:=Kd.at_string HR0.out (ji19) p326 q326;cases e326;replace hx326_0:=(HB.out.cell (World.block_lt_of_cell? w _ hx326_0)).trans hx326_0;replace p326:=eq_true p326;replace q326:=eq_true q326
              go_wp2_with (first|(go_at_call 17;(with_reducible refine(spec_clinging.calls (rdOf ByteArray.empty l0 (ji19)) false _ A22.out).mono ?_);rintro e w' ⟨rfl,⟨nd,rfl⟩⟩;have p332:0≤((ji19):Int):=of_decide_eq_true vA;have q332:(ji19)<(l0.length:Int):=of_decide_eq_true vA;obtain⟨ad332,e332,hx332_0⟩:=Kd.at_string HR0.out (ji19) p332 q332;obtain rfl:ad326=ad332:=(by injection e332);replace hx332_0:=(HB.out.cell (World.block_lt_of_cell? w _ hx332_0)).trans hx332_0;replace p332:=eq_true p332;replace q332:=eq_true q332;have p34:0≤(0:Int):=(by omega);have q34:0<(rdOf ByteArray.empty l0 (ji19)).size:=(by have:(0:Int)<((rdOf ByteArray.empty l0 (ji19)).size:Int):=of_decide_eq_true vA;omega);have hx34:∀h:0<(rdOf ByteArray.empty l0 (ji19)).size,(((rdOf ByteArray.empty l0 (ji19))[0]'h).toNat:Int)=bt (rdOf ByteArray.empty l0 (ji19)) 0:=bt_at (rdOf ByteArray.empty l0 (ji19)) 0;clear p34;have qi34:(0<((rdOf ByteArray.empty l0 (ji19)).size:Int))=True:=eq_true (of_decide_eq_true vA);replace q34:=eq_true q34))
              go_meet
              case rel=>exact⟨_,(false),vR,H',⟨by have:=HK1.out;have:=HJ3.out;first|omega|exact Nat.le_refl _⟩,⟨vB⟩⟩
            ·rw[if_neg c33]at H
             exact absurd H (by simp)
          ·rw[if_neg c21]at H
           exact absurd H (by simp)
         ·rw[if_neg c20]at H
          exact absurd H (by simp)
        ·rw[if_neg c18]at H
         have c18b0:decide (0<x6_1)=false:=decide_eq_false c18;clear c18;have H':=aK H;clear H;go_wp2
         go_meet
         case rel=>exact⟨_,(false),vR,H',⟨by have:=HK1.out;have:=HJ3.out;first|omega|exact Nat.le_refl _⟩,⟨vB⟩⟩
       ·rw[if_neg c17]at H
        have c17b0:(x7_3.toList==([]:List UInt8))=false:=beq_eq_false_iff_ne.mpr c17;have c17b1:(x7_3.toList != ([]:List UInt8))=true:=bne_iff_ne.mpr c17
        (first|rw[c17b0]|(simp only[i64_w,i32_w];rw[c17b0])|skip)
        have H':=aK H;clear H;go_wp2
        go_meet
        case rel=>exact⟨_,(false),vR,H',⟨by have:=HK1.out;have:=HJ3.out;first|omega|exact Nat.le_refl _⟩,⟨vB⟩⟩
      case rest=>
       clear HC16;obtain⟨kq,x66_15,rfl,HA,HJ15,HB⟩:=hcut;cases kq with
       | zero=>exact absurd HA.out (by simp[spec_Gaps.j2])
       | succ kj15=>
        have H:=HA.out;clear HA;simp only[spec_Gaps.j2]at H
        by_cases c40:x66_15=true
        ·subst c40
         rw[if_pos rfl]at H
         by_cases c41:x6_1>0
         ·rw[if_pos c41]at H
          have c41b0:decide (0<x6_1)=true:=decide_eq_true c41;clear c41
          by_cases c42:x5_1.size+1≤9223372036854775807
          ·rw[if_pos c42]at H
           have c42b0:=eq_true c42;have c42b1:=decide_eq_true c42
           try have c42b2:=eq_false (Nat.not_lt.2 c42)
           by_cases c43:0≤x6_1
           ·rw[if_pos c43]at H
            have c43b0:=decide_eq_true c43;clear c43
            by_cases c44:x6_1<(l0.length:Int)
            ·rw[if_pos c44]at H
             have c44b0:=decide_eq_true c44;clear c44
             by_cases c45:(x5_1++(⟨#[32]⟩:ByteArray)).size+(rdOf ByteArray.empty l0 x6_1).size≤9223372036854775807
             ·rw[if_pos c45]at H
              have c45b0:=eq_true c45;have c45b1:=decide_eq_true c45
              try have c45b2:=eq_false (Nat.not_lt.2 c45)
              have H':=aK H;clear H;have p334:0≤(x6_1:Int):=of_decide_eq_true vA;have q334:x6_1<(l0.length:Int):=of_decide_eq_true vA;obtain⟨ad334,e334,hx334_0⟩:=Kd.at_string HR0.out x6_1 p334 q334;cases e334;replace hx334_0:=(HB.out.cell (World.block_lt_of_cell? w _ hx334_0)).trans hx334_0;replace p334:=eq_true p334;replace q334:=eq_true q334;go_wp2
              go_roundg kj15
              case measure=>have:=HK1.out;have:=HJ3.out;have:=HJ15.out;omega
              case rel=>exact⟨((x5_1++(⟨#[32]⟩:ByteArray))++(rdOf ByteArray.empty l0 x6_1)),(wrap64 (x6_1+1)),vR,vR,H',⟨by have:=HK1.out;have:=HJ3.out;have:=HJ15.out;omega⟩,⟨vB⟩⟩
             ·rw[if_neg c45]at H
              exact absurd H (by simp)
            ·rw[if_neg c44]at H
             exact absurd H (by simp)
           ·rw[if_neg c43]at H
            exact absurd H (by simp)
          ·rw[if_neg c42]at H
           exact absurd H (by simp)
         ·rw[if_neg c41]at H
          have c41b0:decide (0<x6_1)=false:=decide_eq_false c41;clear c41
          by_cases c46:(l1.length:Int)>0
          ·rw[if_pos c46]at H
           have c46b0:decide (0<(l1.length:Int))=true:=decide_eq_true c46;have c46b1:decide (0<l1.length)=true:=decide_eq_true (by omega)
           clear c46
           by_cases c47:x5_1.size+1≤9223372036854775807
           ·rw[if_pos c47]at H
            have c47b0:=eq_true c47;have c47b1:=decide_eq_true c47
            try have c47b2:=eq_false (Nat.not_lt.2 c47)
            by_cases c48:0≤x6_1
            ·rw[if_pos c48]at H
             have c48b0:=decide_eq_true c48;clear c48
             by_cases c49:x6_1<(l0.length:Int)
             ·rw[if_pos c49]at H
              have c49b0:=decide_eq_true c49;clear c49
              by_cases c50:(x5_1++(⟨#[32]⟩:ByteArray)).size+(rdOf ByteArray.empty l0 x6_1).size≤9223372036854775807
              ·rw[if_pos c50]at H
               have c50b0:=eq_true c50;have c50b1:=decide_eq_true c50
               try have c50b2:=eq_false (Nat.not_lt.2 c50)
               have H':=aK H;clear H;have p335:0≤(x6_1:Int):=of_decide_eq_true vA;have q335:x6_1<(l0.length:Int):=of_decide_eq_true vA;obtain⟨ad335,e335,hx335_0⟩:=Kd.at_string HR0.out x6_1 p335 q335;cases e335;replace hx335_0:=(HB.out.cell (World.block_lt_of_cell? w _ hx335_0)).trans hx335_0;replace p335:=eq_true p335;replace q335:=eq_true q335;go_wp2
               go_roundg kj15
               case measure=>have:=HK1.out;have:=HJ3.out;have:=HJ15.out;omega
               case rel=>exact⟨((x5_1++(⟨#[32]⟩:ByteArray))++(rdOf ByteArray.empty l0 x6_1)),(wrap64 (x6_1+1)),vR,vR,H',⟨by have:=HK1.out;have:=HJ3.out;have:=HJ15.out;omega⟩,⟨vB⟩⟩
              ·rw[if_neg c50]at H
               exact absurd H (by simp)
             ·rw[if_neg c49]at H
              exact absurd H (by simp)
            ·rw[if_neg c48]at H
             exact absurd H (by simp)
           ·rw[if_neg c47]at H
            exact absurd H (by simp)
          ·rw[if_neg c46]at H
           have c46b0:decide (0<(l1.length:Int))=false:=decide_eq_false c46;have c46b1:decide (0<l1.length)=false:=decide_eq_false (by omega)
           clear c46
           by_cases c51:0≤x6_1
           ·rw[if_pos c51]at H
            have c51b0:=decide_eq_true c51;clear c51
            by_cases c52:x6_1<(l0.length:Int)
            ·rw[if_pos c52]at H
             have c52b0:=decide_eq_true c52;clear c52
             by_cases c53:x5_1.size+(rdOf ByteArray.empty l0 x6_1).size≤9223372036854775807
             ·rw[if_pos c53]at H
              have c53b0:=eq_true c53;have c53b1:=decide_eq_true c53
              try have c53b2:=eq_false (Nat.not_lt.2 c53)
              have H':=aK H;clear H;have p336:0≤(x6_1:Int):=of_decide_eq_true vA;have q336:x6_1<(l0.length:Int):=of_decide_eq_true vA;obtain⟨ad336,e336,hx336_0⟩:=Kd.at_string HR0.out x6_1 p336 q336;cases e336;replace hx336_0:=(HB.out.cell (World.block_lt_of_cell? w _ hx336_0)).trans hx336_0;replace p336:=eq_true p336;replace q336:=eq_true q336;go_wp2
              go_roundg kj15
              case measure=>have:=HK1.out;have:=HJ3.out;have:=HJ15.out;omega
              case rel=>exact⟨(x5_1++(rdOf ByteArray.empty l0 x6_1)),(wrap64 (x6_1+1)),vR,vR,H',⟨by have:=HK1.out;have:=HJ3.out;have:=HJ15.out;omega⟩,⟨vB⟩⟩
             ·rw[if_neg c53]at H
              exact absurd H (by simp)
            ·rw[if_neg c52]at H
             exact absurd H (by simp)
           ·rw[if_neg c51]at H
            exact absurd H (by simp)
        ·replace c40:=Bool.eq_false_iff.mpr c40
         subst c40;rw[if_neg (show ¬(false=true) by decide)]at H
         by_cases c54:x6_1>0
         ·rw[if_pos c54]at H
          have c54b0:decide (0<x6_1)=true:=decide_eq_true c54;clear c54
          by_cases c55:x5_1.size+x7_3.size≤9223372036854775807
          ·rw[if_pos c55]at H
           have c55b0:=eq_true c55;have c55b1:=decide_eq_true c55
           try have c55b2:=eq_false (Nat.not_lt.2 c55)
           by_cases c56:0≤x6_1
           ·rw[if_pos c56]at H
            have c56b0:=decide_eq_true c56;clear c56
            by_cases c57:x6_1<(l0.length:Int)
            ·rw[if_pos c57]at H
             have c57b0:=decide_eq_true c57;clear c57
             by_cases c58:(x5_1++x7_3).size+(rdOf ByteArray.empty l0 x6_1).size≤9223372036854775807
             ·rw[if_pos c58]at H
              have c58b0:=eq_true c58;have c58b1:=decide_eq_true c58
              try have c58b2:=eq_false (Nat.not_lt.2 c58)
              have H':=aK H;clear H;have p337:0≤(x6_1:Int):=of_decide_eq_true vA;have q337:x6_1<(l0.length:Int):=of_decide_eq_true vA;obtain⟨ad337,e337,hx337_0⟩:=Kd.at_string HR0.out x6_1 p337 q337;cases e337;replace hx337_0:=(HB.out.cell (World.block_lt_of_cell? w _ hx337_0)).trans hx337_0;replace p337:=eq_true p337;replace q337:=eq_true q337;go_wp2
              go_roundg kj15
              case measure=>have:=HK1.out;have:=HJ3.out;have:=HJ15.out;omega
              case rel=>exact⟨((x5_1++x7_3)++(rdOf ByteArray.empty l0 x6_1)),(wrap64 (x6_1+1)),vR,vR,H',⟨by have:=HK1.out;have:=HJ3.out;have:=HJ15.out;omega⟩,⟨vB⟩⟩
             ·rw[if_neg c58]at H
              exact absurd H (by simp)
            ·rw[if_neg c57]at H
             exact absurd H (by simp)
           ·rw[if_neg c56]at H
            exact absurd H (by simp)
          ·rw[if_neg c55]at H
           exact absurd H (by simp)
         ·rw[if_neg c54]at H
          have c54b0:decide (0<x6_1)=false:=decide_eq_false c54;clear c54
          by_cases c59:(l1.length:Int)>0
          ·rw[if_pos c59]at H
           have c59b0:decide (0<(l1.length:Int))=true:=decide_eq_true c59;have c59b1:decide (0<l1.length)=true:=decide_eq_true (by omega)
           clear c59
           by_cases c60:x5_1.size+x7_3.size≤9223372036854775807
           ·rw[if_pos c60]at H
            have c60b0:=eq_true c60;have c60b1:=decide_eq_true c60
            try have c60b2:=eq_false (Nat.not_lt.2 c60)
            by_cases c61:0≤x6_1
            ·rw[if_pos c61]at H
             have c61b0:=decide_eq_true c61;clear c61
             by_cases c62:x6_1<(l0.length:Int)
             ·rw[if_pos c62]at H
              have c62b0:=decide_eq_true c62;clear c62
              by_cases c63:(x5_1++x7_3).size+(rdOf ByteArray.empty l0 x6_1).size≤9223372036854775807
              ·rw[if_pos c63]at H
               have c63b0:=eq_true c63;have c63b1:=decide_eq_true c63
               try have c63b2:=eq_false (Nat.not_lt.2 c63)
               have H':=aK H;clear H;have p338:0≤(x6_1:Int):=of_decide_eq_true vA;have q338:x6_1<(l0.length:Int):=of_decide_eq_true vA;obtain⟨ad338,e338,hx338_0⟩:=Kd.at_string HR0.out x6_1 p338 q338;cases e338;replace hx338_0:=(HB.out.cell (World.block_lt_of_cell? w _ hx338_0)).trans hx338_0;replace p338:=eq_true p338;replace q338:=eq_true q338;go_wp2
               go_roundg kj15
               case measure=>have:=HK1.out;have:=HJ3.out;have:=HJ15.out;omega
               case rel=>exact⟨((x5_1++x7_3)++(rdOf ByteArray.empty l0 x6_1)),(wrap64 (x6_1+1)),vR,vR,H',⟨by have:=HK1.out;have:=HJ3.out;have:=HJ15.out;omega⟩,⟨vB⟩⟩
              ·rw[if_neg c63]at H
               exact absurd H (by simp)
             ·rw[if_neg c62]at H
              exact absurd H (by simp)
            ·rw[if_neg c61]at H
             exact absurd H (by simp)
           ·rw[if_neg c60]at H
            exact absurd H (by simp)
          ·rw[if_neg c59]at H
           have c59b0:decide (0<(l1.length:Int))=false:=decide_eq_false c59;have c59b1:decide (0<l1.length)=false:=decide_eq_false (by omega)
           clear c59
           by_cases c64:0≤x6_1
           ·rw[if_pos c64]at H
            have c64b0:=decide_eq_true c64;clear c64
            by_cases c65:x6_1<(l0.length:Int)
            ·rw[if_pos c65]at H
             have c65b0:=decide_eq_true c65;clear c65
             by_cases c66:x5_1.size+(rdOf ByteArray.empty l0 x6_1).size≤9223372036854775807
             ·rw[if_pos c66]at H
              have c66b0:=eq_true c66;have c66b1:=decide_eq_true c66
              try have c66b2:=eq_false (Nat.not_lt.2 c66)
              have H':=aK H;clear H;have p339:0≤(x6_1:Int):=of_decide_eq_true vA;have q339:x6_1<(l0.length:Int):=of_decide_eq_true vA;obtain⟨ad339,e339,hx339_0⟩:=Kd.at_string HR0.out x6_1 p339 q339;cases e339;replace hx339_0:=(HB.out.cell (World.block_lt_of_cell? w _ hx339_0)).trans hx339_0;replace p339:=eq_true p339;replace q339:=eq_true q339;go_wp2
              go_roundg kj15
              case measure=>have:=HK1.out;have:=HJ3.out;have:=HJ15.out;omega
              case rel=>exact⟨(x5_1++(rdOf ByteArray.empty l0 x6_1)),(wrap64 (x6_1+1)),vR,vR,H',⟨by have:=HK1.out;have:=HJ3.out;have:=HJ15.out;omega⟩,⟨vB⟩⟩
             ·rw[if_neg c66]at H
              exact absurd H (by simp)
            ·rw[if_neg c65]at H
             exact absurd H (by simp)
           ·rw[if_neg c64]at H
            exact absurd H (by simp)
   ·rw[if_neg c3]at H
    have c3b0:=decide_eq_false c3;clear c3;obtain rfl:=Option.some.inj H;go_wp2
    go_ret
    exact⟨vE,vB⟩
end Go.Proofs.YtjolkdnfbmkjiaaGreatDoor.PFnTokensGaps
