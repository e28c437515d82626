import Derived.Test.YtjolkdnfbmkjiaaGreatDoorVP0
import Derived.Test.YtjolkdnfbmkjiaaGreatDoorVP1
import Derived.Test.YtjolkdnfbmkjiaaGreatDoorVP2
import Derived.Test.YtjolkdnfbmkjiaaGreatDoorVP6
import Derived.Test.YtjolkdnfbmkjiaaGreatDoorVP7
set_option maxRecDepth 100000
set_option maxHeartbeats 8000000
set_option linter.unusedVariables false
set_option linter.unusedSimpArgs false
namespace Go.Proofs.YtjolkdnfbmkjiaaGreatDoor.PFnTokensGaps
open Go.RowKit Go.Proofs.YtjolkdnfbmkjiaaGreatDoorW.PrintWords Go.Proofs.YtjolkdnfbmkjiaaGreatDoorW.PrintLast Go.Proofs.YtjolkdnfbmkjiaaGreatDoorW.PrintMore
attribute [local go_sem] max2_int min2_int max_two min_two max_three min_three max_four min_four
def spec_blockable.l0:Nat→ByteArray→Int→Option (Bool)
 | 0,_,_=>none
 | k+1,x0,x3=>if x3<(x0.size:Int)then((spec_Point.f k x0 x3).bind fun bt251=>(if bt251.2=0 then(some false)else(if bt251.1=9 then(if bt251.1=127 then(some false)else(if bt251.1=65279 then(some false)else(if bt251.1>65535 then(some false)else((spec_starts.f x0 x3 (⟨#[34,34,34]⟩:ByteArray)).bind fun t253=>(if t253=true then(some false)else(spec_blockable.l0 k x0 (wrap64 (x3+bt251.2))))))))else(if bt251.1=10 then(if bt251.1=127 then(some false)else(if bt251.1=65279 then(some false)else(if bt251.1>65535 then(some false)else((spec_starts.f x0 x3 (⟨#[34,34,34]⟩:ByteArray)).bind fun t254=>(if t254=true then(some false)else(spec_blockable.l0 k x0 (wrap64 (x3+bt251.2))))))))else(if bt251.1<32 then(some false)else(if bt251.1=127 then(some false)else(if bt251.1=65279 then(some false)else(if bt251.1>65535 then(some false)else((spec_starts.f x0 x3 (⟨#[34,34,34]⟩:ByteArray)).bind fun t255=>(if t255=true then(some false)else(spec_blockable.l0 k x0 (wrap64 (x3+bt251.2)))))))))))))else(if 1+x0.size≤9223372036854775807 then(if ((⟨#[10]⟩:ByteArray)++x0).size+1≤9223372036854775807 then((spec_BlockValue.f k (((⟨#[10]⟩:ByteArray)++x0)++(⟨#[10]⟩:ByteArray))).bind fun t249=>(if t249.toList=x0.toList then((spec_plainBlock.f k (((⟨#[10]⟩:ByteArray)++x0)++(⟨#[10]⟩:ByteArray))).bind fun t250=>(some t250))else(some false)))else(none))else(none))
def spec_blockable.f (k:Nat) (a0:ByteArray):Option (Bool):=spec_blockable.l0 k a0 0
theorem spec_blockable.calls (k:Nat) (a0:ByteArray) (r:Bool) (w:World) (h:spec_blockable.f k a0=some r) :
  Calls Tryz.prog 37 #[.string a0] w fun e w'=>e = .returned (.bool r)∧Below w.heap.size w w':=by
 have HB:=aK (Below.refl w.heap.size w);have H:(spec_blockable.l0 k a0 0)=some r:=h;clear h;have H':=aK H;clear H;go_enter Tryz.func37,Tryz.ntmps37;go_wp2
 go_loopg [3] k (fun kq v3 w'=>∃(x3_1:Int),v3 = .int .i64 x3_1∧Aside0 (spec_blockable.l0 kq a0 x3_1=some r)∧Aside0 (kq≤k)∧Aside0 (Below w.heap.size w w'))
 case atStart=>exact⟨(0),vR,H',⟨Nat.le_refl _⟩,⟨vB⟩⟩
 case round=>
  clear H';obtain⟨x3_1,rfl,HA,HK1,HB⟩:=hrel;cases gk with
  | zero=>exact absurd HA.out (by simp[spec_blockable.l0])
  | succ k1=>
   have H:=HA.out;clear HA;simp only[spec_blockable.l0]at H
   by_cases c2:x3_1<(a0.size:Int)
   ·rw[if_pos c2]at H
    have c2b0:decide (x3_1<(a0.size:Int))=true:=decide_eq_true c2;clear c2;replace H:=Option.bind_eq_some_iff.mp H;obtain⟨⟨t251,t252⟩,A30,H⟩:=H
    replace H:(if t252=0 then(some false)else(if t251=9 then(if t251=127 then(some false)else(if t251=65279 then(some false)else(if t251>65535 then(some false)else((spec_starts.f a0 x3_1 (⟨#[34,34,34]⟩:ByteArray)).bind fun t253=>(if t253=true then(some false)else(spec_blockable.l0 k1 a0 (wrap64 (x3_1+t252))))))))else(if t251=10 then(if t251=127 then(some false)else(if t251=65279 then(some false)else(if t251>65535 then(some false)else((spec_starts.f a0 x3_1 (⟨#[34,34,34]⟩:ByteArray)).bind fun t254=>(if t254=true then(some false)else(spec_blockable.l0 k1 a0 (wrap64 (x3_1+t252))))))))else(if t251<32 then(some false)else(if t251=127 then(some false)else(if t251=65279 then(some false)else(if t251>65535 then(some false)else((spec_starts.f a0 x3_1 (⟨#[34,34,34]⟩:ByteArray)).bind fun t255=>(if t255=true then(some false)else(spec_blockable.l0 k1 a0 (wrap64 (x3_1+t252))))))))))))=some r:=H
    have A3:=aK A30;clear A30
    by_cases c4:t252=0
    ·rw[if_pos c4]at H
     have c4b0:(t252==0)=true:=beq_iff_eq.mpr c4;have c4b1:(t252 != 0)=false:=bne_eq_false_iff_eq.mpr c4;clear c4;obtain rfl:=Option.some.inj H
     go_wp2_with (first|((with_reducible refine gate_callee (f:=58) rfl ?_);refine goesL_ (some 13) rfl rfl Tryz.func58 (by kernel_rfl) rfl #[.string a0,.int .i64 x3_1] rfl (by(try simp only[List.map_toArray,List.map_cons,List.map_nil]);first|done|rfl|(simp only[List.length_drop,List.length_take];rfl)) ?_;(with_reducible refine(spec_Point.calls k1 a0 x3_1 t251 t252 _ A3.out).mono ?_);rintro e w' ⟨rfl,⟨nd,rfl⟩⟩;refine⟨_,rfl,?_⟩))
     go_ret
     exact⟨vE,vB⟩
    ·rw[if_neg c4]at H
     have c4b0:(t252==0)=false:=beq_eq_false_iff_ne.mpr c4;have c4b1:(t252 != 0)=true:=bne_iff_ne.mpr c4
     by_cases c5:t251=9
     ·rw[if_pos c5]at H
      have c5b0:(t251==9)=true:=beq_iff_eq.mpr c5;have c5b1:(t251 != 9)=false:=bne_eq_false_iff_eq.mpr c5;clear c5
      by_cases c6:t251=127
      ·rw[if_pos c6]at H
       have c6b0:(t251==127)=true:=beq_iff_eq.mpr c6;have c6b1:(t251 != 127)=false:=bne_eq_false_iff_eq.mpr c6;clear c6;obtain rfl:=Option.some.inj H
       go_wp2_with (first|((with_reducible refine gate_callee (f:=58) rfl ?_);refine goesL_ (some 13) rfl rfl Tryz.func58 (by kernel_rfl) rfl #[.string a0,.int .i64 x3_1] rfl (by(try simp only[List.map_toArray,List.map_cons,List.map_nil]);first|done|rfl|(simp only[List.length_drop,List.length_take];rfl)) ?_;(with_reducible refine(spec_Point.calls k1 a0 x3_1 t251 t252 _ A3.out).mono ?_);rintro e w' ⟨rfl,⟨nd,rfl⟩⟩;refine⟨_,rfl,?_⟩))
       go_ret
       exact⟨vE,vB⟩
      ·rw[if_neg c6]at H
       have c6b0:(t251==127)=false:=beq_eq_false_iff_ne.mpr c6;have c6b1:(t251 != 127)=true:=bne_iff_ne.mpr c6
       by_cases c7:t251=65279
       ·rw[if_pos c7]at H
        have c7b0:(t251==65279)=true:=beq_iff_eq.mpr c7;have c7b1:(t251 != 65279)=false:=bne_eq_false_iff_eq.mpr c7;clear c7;obtain rfl:=Option.some.inj H
        go_wp2_with (first|((with_reducible refine gate_callee (f:=58) rfl ?_);refine goesL_ (some 13) rfl rfl Tryz.func58 (by kernel_rfl) rfl #[.string a0,.int .i64 x3_1] rfl (by(try simp only[List.map_toArray,List.map_cons,List.map_nil]);first|done|rfl|(simp only[List.length_drop,List.length_take];rfl)) ?_;(with_reducible refine(spec_Point.calls k1 a0 x3_1 t251 t252 _ A3.out).mono ?_);rintro e w' ⟨rfl,⟨nd,rfl⟩⟩;refine⟨_,rfl,?_⟩))
        go_ret
        exact⟨vE,vB⟩
       ·rw[if_neg c7]at H
        have c7b0:(t251==65279)=false:=beq_eq_false_iff_ne.mpr c7;have c7b1:(t251 != 65279)=true:=bne_iff_ne.mpr c7
        by_cases c8:t251>65535
        ·rw[if_pos c8]at H
         have c8b0:decide (65535<t251)=true:=decide_eq_true c8;clear c8;obtain rfl:=Option.some.inj H
         go_wp2_with (first|((with_reducible refine gate_callee (f:=58) rfl ?_);refine goesL_ (some 13) rfl rfl Tryz.func58 (by kernel_rfl) rfl #[.string a0,.int .i64 x3_1] rfl (by(try simp only[List.map_toArray,List.map_cons,List.map_nil]);first|done|rfl|(simp only[List.length_drop,List.length_take];rfl)) ?_;(with_reducible refine(spec_Point.calls k1 a0 x3_1 t251 t252 _ A3.out).mono ?_);rintro e w' ⟨rfl,⟨nd,rfl⟩⟩;refine⟨_,rfl,?_⟩))
         go_ret
         exact⟨vE,vB⟩
        ·rw[if_neg c8]at H
         have c8b0:decide (65535<t251)=false:=decide_eq_false c8;clear c8;replace H:=Option.bind_eq_some_iff.mp H;obtain⟨t253,A90,H⟩:=H;replace H:(if t253=true then(some false)else(spec_blockable.l0 k1 a0 (wrap64 (x3_1+t252))))=some r:=H
         have A9:=aK A90;clear A90
         by_cases c10:t253=true
         ·subst c10
          have H1:(some false)=some r:=by rw[if_pos rfl]at H;exact H
          clear H;have H:=H1;clear H1;obtain rfl:=Option.some.inj H
          go_wp2_with (first|((with_reducible refine gate_callee (f:=58) rfl ?_);refine goesL_ (some 13) rfl rfl Tryz.func58 (by kernel_rfl) rfl #[.string a0,.int .i64 x3_1] rfl (by(try simp only[List.map_toArray,List.map_cons,List.map_nil]);first|done|rfl|(simp only[List.length_drop,List.length_take];rfl)) ?_;(with_reducible refine(spec_Point.calls k1 a0 x3_1 t251 t252 _ A3.out).mono ?_);rintro e w' ⟨rfl,⟨nd,rfl⟩⟩;refine⟨_,rfl,?_⟩)|(go_at_call 59;(with_reducible refine(spec_starts.calls a0 x3_1 (⟨#[34,34,34]⟩:ByteArray) true _ A9.out).mono ?_);rintro e w' ⟨rfl,⟨nd,rfl⟩⟩))
          go_ret
          exact⟨vE,vB⟩
         ·replace c10:=Bool.eq_false_iff.mpr c10
          subst c10;have H1:(spec_blockable.l0 k1 a0 (wrap64 (x3_1+t252)))=some r:=by rw[if_neg (show ¬(false=true) by decide)]at H;exact H
          clear H;have H:=H1;clear H1;have H':=aK H;clear H
          go_wp2_with (first|((with_reducible refine gate_callee (f:=58) rfl ?_);refine goesL_ (some 13) rfl rfl Tryz.func58 (by kernel_rfl) rfl #[.string a0,.int .i64 x3_1] rfl (by(try simp only[List.map_toArray,List.map_cons,List.map_nil]);first|done|rfl|(simp only[List.length_drop,List.length_take];rfl)) ?_;(with_reducible refine(spec_Point.calls k1 a0 x3_1 t251 t252 _ A3.out).mono ?_);rintro e w' ⟨rfl,⟨nd,rfl⟩⟩;refine⟨_,rfl,?_⟩)|(go_at_call 59;(with_reducible refine(spec_starts.calls a0 x3_1 (⟨#[34,34,34]⟩:ByteArray) false _ A9.out).mono ?_);rintro e w' ⟨rfl,⟨nd,rfl⟩⟩))
          go_roundg k1
          case measure=>have:=HK1.out;omega
          case rel=>exact⟨(wrap64 (x3_1+t252)),vR,H',⟨by have:=HK1.out;omega⟩,⟨vB⟩⟩
     ·rw[if_neg c5]at H
      have c5b0:(t251==9)=false:=beq_eq_false_iff_ne.mpr c5;have c5b1:(t251 != 9)=true:=bne_iff_ne.mpr c5
      by_cases c11:t251=10
      ·rw[if_pos c11]at H
       have c11b0:(t251==10)=true:=beq_iff_eq.mpr c11;have c11b1:(t251 != 10)=false:=bne_eq_false_iff_eq.mpr c11;clear c11
       by_cases c12:t251=127
       ·rw[if_pos c12]at H
        have c12b0:(t251==127)=true:=beq_iff_eq.mpr c12;have c12b1:(t251 != 127)=false:=bne_eq_false_iff_eq.mpr c12;clear c12;obtain rfl:=Option.some.inj H
        go_wp2_with (first|((with_reducible refine gate_callee (f:=58) rfl ?_);refine goesL_ (some 13) rfl rfl Tryz.func58 (by kernel_rfl) rfl #[.string a0,.int .i64 x3_1] rfl (by(try simp only[List.map_toArray,List.map_cons,List.map_nil]);first|done|rfl|(simp only[List.length_drop,List.length_take];rfl)) ?_;(with_reducible refine(spec_Point.calls k1 a0 x3_1 t251 t252 _ A3.out).mono ?_);rintro e w' ⟨rfl,⟨nd,rfl⟩⟩;refine⟨_,rfl,?_⟩))
        go_ret
        exact⟨vE,vB⟩
       ·rw[if_neg c12]at H
        have c12b0:(t251==127)=false:=beq_eq_false_iff_ne.mpr c12;have c12b1:(t251 != 127)=true:=bne_iff_ne.mpr c12
        by_cases c13:t251=65279
        ·rw[if_pos c13]at H
         have c13b0:(t251==65279)=true:=beq_iff_eq.mpr c13;have c13b1:(t251 != 65279)=false:=bne_eq_false_iff_eq.mpr c13;clear c13;obtain rfl:=Option.some.inj H
         go_wp2_with (first|((with_reducible refine gate_callee (f:=58) rfl ?_);refine goesL_ (some 13) rfl rfl Tryz.func58 (by kernel_rfl) rfl #[.string a0,.int .i64 x3_1] rfl (by(try simp only[List.map_toArray,List.map_cons,List.map_nil]);first|done|rfl|(simp only[List.length_drop,List.length_take];rfl)) ?_;(with_reducible refine(spec_Point.calls k1 a0 x3_1 t251 t252 _ A3.out).mono ?_);rintro e w' ⟨rfl,⟨nd,rfl⟩⟩;refine⟨_,rfl,?_⟩))
         go_ret
         exact⟨vE,vB⟩
        ·rw[if_neg c13]at H
         have c13b0:(t251==65279)=false:=beq_eq_false_iff_ne.mpr c13;have c13b1:(t251 != 65279)=true:=bne_iff_ne.mpr c13
         by_cases c14:t251>65535
         ·rw[if_pos c14]at H
          have c14b0:decide (65535<t251)=true:=decide_eq_true c14;clear c14;obtain rfl:=Option.some.inj H
          go_wp2_with (first|((with_reducible refine gate_callee (f:=58) rfl ?_);refine goesL_ (some 13) rfl rfl Tryz.func58 (by kernel_rfl) rfl #[.string a0,.int .i64 x3_1] rfl (by(try simp only[List.map_toArray,List.map_cons,List.map_nil]);first|done|rfl|(simp only[List.length_drop,List.length_take];rfl)) ?_;(with_reducible refine(spec_Point.calls k1 a0 x3_1 t251 t252 _ A3.out).mono ?_);rintro e w' ⟨rfl,⟨nd,rfl⟩⟩;refine⟨_,rfl,?_⟩))
          go_ret
          exact⟨vE,vB⟩
         ·rw[if_neg c14]at H
          have c14b0:decide (65535<t251)=false:=decide_eq_false c14;clear c14;replace H:=Option.bind_eq_some_iff.mp H;obtain⟨t254,A150,H⟩:=H;replace H:(if t254=true then(some false)else(spec_blockable.l0 k1 a0 (wrap64 (x3_1+t252))))=some r:=H
          have A15:=aK A150;clear A150
          by_cases c16:t254=true
          ·subst c16
           have H1:(some false)=some r:=by rw[if_pos rfl]at H;exact H
           clear H;have H:=H1;clear H1;obtain rfl:=Option.some.inj H
           go_wp2_with (first|((with_reducible refine gate_callee (f:=58) rfl ?_);refine goesL_ (some 13) rfl rfl Tryz.func58 (by kernel_rfl) rfl #[.string a0,.int .i64 x3_1] rfl (by(try simp only[List.map_toArray,List.map_cons,List.map_nil]);first|done|rfl|(simp only[List.length_drop,List.length_take];rfl)) ?_;(with_reducible refine(spec_Point.calls k1 a0 x3_1 t251 t252 _ A3.out).mono ?_);rintro e w' ⟨rfl,⟨nd,rfl⟩⟩;refine⟨_,rfl,?_⟩)|(go_at_call 59;(with_reducible refine(spec_starts.calls a0 x3_1 (⟨#[34,34,34]⟩:ByteArray) true _ A15.out).mono ?_);rintro e w' ⟨rfl,⟨nd,rfl⟩⟩))
           go_ret
           exact⟨vE,vB⟩
          ·replace c16:=Bool.eq_false_iff.mpr c16
           subst c16;have H1:(spec_blockable.l0 k1 a0 (wrap64 (x3_1+t252)))=some r:=by rw[if_neg (show ¬(false=true) by decide)]at H;exact H
           clear H;have H:=H1;clear H1;have H':=aK H;clear H
           go_wp2_with (first|((with_reducible refine gate_callee (f:=58) rfl ?_);refine goesL_ (some 13) rfl rfl Tryz.func58 (by kernel_rfl) rfl #[.string a0,.int .i64 x3_1] rfl (by(try simp only[List.map_toArray,List.map_cons,List.map_nil]);first|done|rfl|(simp only[List.length_drop,List.length_take];rfl)) ?_;(with_reducible refine(spec_Point.calls k1 a0 x3_1 t251 t252 _ A3.out).mono ?_);rintro e w' ⟨rfl,⟨nd,rfl⟩⟩;refine⟨_,rfl,?_⟩)|(go_at_call 59;(with_reducible refine(spec_starts.calls a0 x3_1 (⟨#[34,34,34]⟩:ByteArray) false _ A15.out).mono ?_);rintro e w' ⟨rfl,⟨nd,rfl⟩⟩))
           go_roundg k1
           case measure=>have:=HK1.out;omega
           case rel=>exact⟨(wrap64 (x3_1+t252)),vR,H',⟨by have:=HK1.out;omega⟩,⟨vB⟩⟩
      ·rw[if_neg c11]at H
       have c11b0:(t251==10)=false:=beq_eq_false_iff_ne.mpr c11;have c11b1:(t251 != 10)=true:=bne_iff_ne.mpr c11
       by_cases c17:t251<32
       ·rw[if_pos c17]at H
        have c17b0:decide (t251<32)=true:=decide_eq_true c17;clear c17;obtain rfl:=Option.some.inj H
        go_wp2_with (first|((with_reducible refine gate_callee (f:=58) rfl ?_);refine goesL_ (some 13) rfl rfl Tryz.func58 (by kernel_rfl) rfl #[.string a0,.int .i64 x3_1] rfl (by(try simp only[List.map_toArray,List.map_cons,List.map_nil]);first|done|rfl|(simp only[List.length_drop,List.length_take];rfl)) ?_;(with_reducible refine(spec_Point.calls k1 a0 x3_1 t251 t252 _ A3.out).mono ?_);rintro e w' ⟨rfl,⟨nd,rfl⟩⟩;refine⟨_,rfl,?_⟩))
        go_ret
        exact⟨vE,vB⟩
       ·rw[if_neg c17]at H
        have c17b0:decide (t251<32)=false:=decide_eq_false c17;clear c17
        by_cases c18:t251=127
        ·rw[if_pos c18]at H
         have c18b0:(t251==127)=true:=beq_iff_eq.mpr c18;have c18b1:(t251 != 127)=false:=bne_eq_false_iff_eq.mpr c18;clear c18;obtain rfl:=Option.some.inj H
         go_wp2_with (first|((with_reducible refine gate_callee (f:=58) rfl ?_);refine goesL_ (some 13) rfl rfl Tryz.func58 (by kernel_rfl) rfl #[.string a0,.int .i64 x3_1] rfl (by(try simp only[List.map_toArray,List.map_cons,List.map_nil]);first|done|rfl|(simp only[List.length_drop,List.length_take];rfl)) ?_;(with_reducible refine(spec_Point.calls k1 a0 x3_1 t251 t252 _ A3.out).mono ?_);rintro e w' ⟨rfl,⟨nd,rfl⟩⟩;refine⟨_,rfl,?_⟩))
         go_ret
         exact⟨vE,vB⟩
        ·rw[if_neg c18]at H
         have c18b0:(t251==127)=false:=beq_eq_false_iff_ne.mpr c18;have c18b1:(t251 != 127)=true:=bne_iff_ne.mpr c18
         by_cases c19:t251=65279
         ·rw[if_pos c19]at H
          have c19b0:(t251==65279)=true:=beq_iff_eq.mpr c19;have c19b1:(t251 != 65279)=false:=bne_eq_false_iff_eq.mpr c19;clear c19;obtain rfl:=Option.some.inj H
          go_wp2_with (first|((with_reducible refine gate_callee (f:=58) rfl ?_);refine goesL_ (some 13) rfl rfl Tryz.func58 (by kernel_rfl) rfl #[.string a0,.int .i64 x3_1] rfl (by(try simp only[List.map_toArray,List.map_cons,List.map_nil]);first|done|rfl|(simp only[List.length_drop,List.length_take];rfl)) ?_;(with_reducible refine(spec_Point.calls k1 a0 x3_1 t251 t252 _ A3.out).mono ?_);rintro e w' ⟨rfl,⟨nd,rfl⟩⟩;refine⟨_,rfl,?_⟩))
          go_ret
          exact⟨vE,vB⟩
         ·rw[if_neg c19]at H
          have c19b0:(t251==65279)=false:=beq_eq_false_iff_ne.mpr c19;have c19b1:(t251 != 65279)=true:=bne_iff_ne.mpr c19
          by_cases c20:t251>65535
          ·rw[if_pos c20]at H
           have c20b0:decide (65535<t251)=true:=decide_eq_true c20;clear c20;obtain rfl:=Option.some.inj H
           go_wp2_with (first|((with_reducible refine gate_callee (f:=58) rfl ?_);refine goesL_ (some 13) rfl rfl Tryz.func58 (by kernel_rfl) rfl #[.string a0,.int .i64 x3_1] rfl (by(try simp only[List.map_toArray,List.map_cons,List.map_nil]);first|done|rfl|(simp only[List.length_drop,List.length_take];rfl)) ?_;(with_reducible refine(spec_Point.calls k1 a0 x3_1 t251 t252 _ A3.out).mono ?_);rintro e w' ⟨rfl,⟨nd,rfl⟩⟩;refine⟨_,rfl,?_⟩))
           go_ret
           exact⟨vE,vB⟩
          ·rw[if_neg c20]at H
           have c20b0:decide (65535<t251)=false:=decide_eq_false c20;clear c20;replace H:=Option.bind_eq_some_iff.mp H;obtain⟨t255,A210,H⟩:=H;replace H:(if t255=true then(some false)else(spec_blockable.l0 k1 a0 (wrap64 (x3_1+t252))))=some r:=H
           have A21:=aK A210;clear A210
           by_cases c22:t255=true
           ·subst c22
            have H1:(some false)=some r:=by rw[if_pos rfl]at H;exact H
            clear H;have H:=H1;clear H1;obtain rfl:=Option.some.inj H
            go_wp2_with (first|((with_reducible refine gate_callee (f:=58) rfl ?_);refine goesL_ (some 13) rfl rfl Tryz.func58 (by kernel_rfl) rfl #[.string a0,.int .i64 x3_1] rfl (by(try simp only[List.map_toArray,List.map_cons,List.map_nil]);first|done|rfl|(simp only[List.length_drop,List.length_take];rfl)) ?_;(with_reducible refine(spec_Point.calls k1 a0 x3_1 t251 t252 _ A3.out).mono ?_);rintro e w' ⟨rfl,⟨nd,rfl⟩⟩;refine⟨_,rfl,?_⟩)|(go_at_call 59;(with_reducible refine(spec_starts.calls a0 x3_1 (⟨#[34,34,34]⟩:ByteArray) true _ A21.out).mono ?_);rintro e w' ⟨rfl,⟨nd,rfl⟩⟩))
            go_ret
            exact⟨vE,vB⟩
           ·replace c22:=Bool.eq_false_iff.mpr c22
            subst c22;have H1:(spec_blockable.l0 k1 a0 (wrap64 (x3_1+t252)))=some r:=by rw[if_neg (show ¬(false=true) by decide)]at H;exact H
            clear H;have H:=H1;clear H1;have H':=aK H;clear H
            go_wp2_with (first|((with_reducible refine gate_callee (f:=58) rfl ?_);refine goesL_ (some 13) rfl rfl Tryz.func58 (by kernel_rfl) rfl #[.string a0,.int .i64 x3_1] rfl (by(try simp only[List.map_toArray,List.map_cons,List.map_nil]);first|done|rfl|(simp only[List.length_drop,List.length_take];rfl)) ?_;(with_reducible refine(spec_Point.calls k1 a0 x3_1 t251 t252 _ A3.out).mono ?_);rintro e w' ⟨rfl,⟨nd,rfl⟩⟩;refine⟨_,rfl,?_⟩)|(go_at_call 59;(with_reducible refine(spec_starts.calls a0 x3_1 (⟨#[34,34,34]⟩:ByteArray) false _ A21.out).mono ?_);rintro e w' ⟨rfl,⟨nd,rfl⟩⟩))
            go_roundg k1
            case measure=>have:=HK1.out;omega
            case rel=>exact⟨(wrap64 (x3_1+t252)),vR,H',⟨by have:=HK1.out;omega⟩,⟨vB⟩⟩
   ·rw[if_neg c2]at H
    have c2b0:decide (x3_1<(a0.size:Int))=false:=decide_eq_false c2;clear c2
    by_cases c23:1+a0.size≤9223372036854775807
    ·rw[if_pos c23]at H
     have c23b0:=eq_true c23;have c23b1:decide (1+a0.size≤9223372036854775807)=true:=decide_eq_true c23
     try have c23b2:(9223372036854775807<1+a0.size)=False:=eq_false (Nat.not_lt.2 c23)
     by_cases c24:((⟨#[10]⟩:ByteArray)++a0).size+1≤9223372036854775807
     ·rw[if_pos c24]at H
      have c24b0:=eq_true c24;have c24b1:decide (((⟨#[10]⟩:ByteArray)++a0).size+1≤9223372036854775807)=true:=decide_eq_true c24
      try have c24b2:(9223372036854775807<((⟨#[10]⟩:ByteArray)++a0).size+1)=False:=eq_false (Nat.not_lt.2 c24)
      have c24b3:(9223372036854775807<1+a0.size+1)=False:=eq_false (Nat.not_lt.2 (by have q:=c24;rw[ByteArray.size_append]at q;exact q))
      replace H:=Option.bind_eq_some_iff.mp H;obtain⟨t249,A250,H⟩:=H;replace H:(if t249.toList=a0.toList then((spec_plainBlock.f k1 (((⟨#[10]⟩:ByteArray)++a0)++(⟨#[10]⟩:ByteArray))).bind fun t250=>(some t250))else(some false))=some r:=H
      have A25:=aK A250;clear A250
      by_cases c26:t249.toList=a0.toList
      ·rw[if_pos c26]at H
       have c26b0:(t249.toList==a0.toList)=true:=beq_iff_eq.mpr c26;have c26b1:(t249.toList != a0.toList)=false:=bne_eq_false_iff_eq.mpr c26;clear c26;replace H:=Option.bind_eq_some_iff.mp H;obtain⟨t250,A270,H⟩:=H;replace H:(some t250)=some r:=H;have A27:=aK A270;clear A270;obtain rfl:=Option.some.inj H
       go_wp2_with (first|((with_reducible refine gate_callee (f:=60) rfl ?_);refine goesL_ (some 53) rfl rfl Tryz.func60 (by kernel_rfl) rfl #[.string (((⟨#[10]⟩:ByteArray)++a0)++(⟨#[10]⟩:ByteArray))] rfl (by(try simp only[List.map_toArray,List.map_cons,List.map_nil]);first|done|rfl|(simp only[List.length_drop,List.length_take];rfl)) ?_;(with_reducible refine(spec_BlockValue.calls k1 (((⟨#[10]⟩:ByteArray)++a0)++(⟨#[10]⟩:ByteArray)) t249 _ A25.out).mono ?_);rintro e w28 ⟨rfl,hb⟩;refine⟨_,rfl,?_⟩;have n0_:=aK (below_step vB hb);clear HB;have HB:=n0_;clear n0_;(try clear hb);(try clear hb2);(try clear hk);(try clear hi))|(go_at_call 61;(with_reducible refine(spec_plainBlock.calls k1 (((⟨#[10]⟩:ByteArray)++a0)++(⟨#[10]⟩:ByteArray)) t250 _ A27.out).mono ?_);rintro e w29 ⟨rfl,hb⟩;have n0_:=aK (below_step vB hb);clear HB;have HB:=n0_;clear n0_;(try clear hb);(try clear hb2);(try clear hk);(try clear hi)))
       go_ret
       exact⟨vE,vB⟩
      ·rw[if_neg c26]at H
       have c26b0:(t249.toList==a0.toList)=false:=beq_eq_false_iff_ne.mpr c26;have c26b1:(t249.toList != a0.toList)=true:=bne_iff_ne.mpr c26;obtain rfl:=Option.some.inj H
       go_wp2_with (first|((with_reducible refine gate_callee (f:=60) rfl ?_);refine goesL_ (some 53) rfl rfl Tryz.func60 (by kernel_rfl) rfl #[.string (((⟨#[10]⟩:ByteArray)++a0)++(⟨#[10]⟩:ByteArray))] rfl (by(try simp only[List.map_toArray,List.map_cons,List.map_nil]);first|done|rfl|(simp only[List.length_drop,List.length_take];rfl)) ?_;(with_reducible refine(spec_BlockValue.calls k1 (((⟨#[10]⟩:ByteArray)++a0)++(⟨#[10]⟩:ByteArray)) t249 _ A25.out).mono ?_);rintro e w30 ⟨rfl,hb⟩;refine⟨_,rfl,?_⟩;have n0_:=aK (below_step vB hb);clear HB;have HB:=n0_;clear n0_;(try clear hb);(try clear hb2);(try clear hk);(try clear hi)))
       go_ret
       exact⟨vE,vB⟩
     ·rw[if_neg c24]at H
      exact absurd H (by simp)
    ·rw[if_neg c23]at H
     exact absurd H (by simp)
def spec_Kids.l0:Nat→List (S35)→Int→List Int→Int→Option (List Int)
 | 0,_,_,_,_=>none
 | k+1,x0,x1,x5,x6=>if 0≤x1 then(if x1<(x0.length:Int)then(if x6<(wrap64 (x1+((rd_T35 x0 x1).f5)))then(if x5.length<17592186044416 then(if 0≤x6 then(if x6<(x0.length:Int)then(spec_Kids.l0 k x0 x1 (x5++[x6]) (wrap64 (x6+((rd_T35 x0 x6).f5))))else(none))else(none))else(none))else(some x5))else(none))else(none)
def spec_Kids.f (k:Nat) (l0:List (S35)) (a1:Int):Option (List Int):=spec_Kids.l0 k l0 a1 ([]:List Int) (wrap64 (a1+1))
theorem spec_Kids.calls (k:Nat) (A0:Option Addr) (c0:Nat) (l0:List (S35)) (a1:Int) (r:List Int) (w:World) (hr0:Kd.C k35 w A0 l0.length l0) (hc0:l0.length≤c0) (h:spec_Kids.f k l0 a1=some r) :
  Calls Tryz.prog 22 #[.slice A0 l0.length c0,.int .i64 a1] w fun e w'=>∃v0_:Value,e = .returned (v0_)∧Kd.R (Kd.int .i64) 3 w' w.heap.size (fun _=>True) v0_ r∧Below w.heap.size w w':=by
 have HR0:=aK hr0;have HC0:=aK hc0;clear hr0 hc0;have HB:=aK (Below.refl w.heap.size w);have H:(spec_Kids.l0 k l0 a1 ([]:List Int) (wrap64 (a1+1)))=some r:=h;clear h;have H':=aK H;clear H;go_enter Tryz.func22,Tryz.ntmps22;go_wp2
 go_loopg [5,6] k (fun kq v5 v6 w'=>∃(x5_1:List Int) (x6_1:Int),v6 = .int .i64 x6_1∧Aside0 (spec_Kids.l0 kq l0 a1 x5_1 x6_1=some r)∧Aside0 (kq≤k)∧Aside0 (Kd.R (Kd.int .i64) 3 w' w.heap.size (fun _=>True) v5 x5_1)∧Aside0 (Below w.heap.size w w'))
 case atStart=>exact⟨(([]:List Int)),(wrap64 (a1+1)),vR,H',⟨Nat.le_refl _⟩,⟨by first|exact Kd.R_nil _ _ _ _ _|exact Kd.N_nil _ _ _ _ _|exact Kd.V_nil _ _ _ _ _|exact Kd.Q_nil _ _ _ _ _|exact Kd.S_nil _ _ _ _ _⟩,⟨vB⟩⟩
 case round=>
  clear H'
  (try clear c2);(try clear p2)
  obtain⟨x5_1,x6_1,rfl,HA,HK1,HO_5,HB⟩:=hrel;cases gk with
  | zero=>exact absurd HA.out (by simp[spec_Kids.l0])
  | succ k1=>
   have H:=HA.out;clear HA;simp only[spec_Kids.l0]at H
   by_cases c3:0≤a1
   ·rw[if_pos c3]at H
    have c3b0:decide (0≤a1)=true:=decide_eq_true c3;clear c3
    by_cases c4:a1<(l0.length:Int)
    ·rw[if_pos c4]at H
     have c4b0:decide (a1<(l0.length:Int))=true:=decide_eq_true c4;clear c4
     by_cases c5:x6_1<(wrap64 (a1+((rd_T35 l0 a1).f5)))
     ·rw[if_pos c5]at H
      have c5b0:decide (x6_1<(wrap64 (a1+((rd_T35 l0 a1).f5))))=true:=decide_eq_true c5;clear c5
      by_cases c6:x5_1.length<17592186044416
      ·rw[if_pos c6]at H
       have LMc6:=aK c6;clear c6;obtain⟨y266,hy266⟩:∃y_:List Int,y_=(x5_1++[x6_1]):=⟨_,rfl⟩;replace H:(if 0≤x6_1 then(if x6_1<(l0.length:Int)then(spec_Kids.l0 k1 l0 a1 y266 (wrap64 (x6_1+((rd_T35 l0 x6_1).f5))))else(none))else(none))=some r:=by first|(rw[hy266];with_reducible exact H)|(have H2_:=(Option.bind_some _ _).symm.trans H;rw[hy266];with_reducible exact H2_)|(have H2_:=(Option.bind_some _ _).symm.trans H;with_reducible exact H2_)|with_reducible exact H|(rw[hy266];exact H)|exact H
       have Ny266:=aK hy266;clear hy266
       by_cases c7:0≤x6_1
       ·rw[if_pos c7]at H
        have c7b0:decide (0≤x6_1)=true:=decide_eq_true c7;clear c7
        by_cases c8:x6_1<(l0.length:Int)
        ·rw[if_pos c8]at H
         have c8b0:decide (x6_1<(l0.length:Int))=true:=decide_eq_true c8;clear c8;have H':=aK H;clear H;have p265:0≤(a1:Int):=of_decide_eq_true vA;have q265:a1<(l0.length:Int):=of_decide_eq_true vA;obtain⟨ad265,e265,hx265_0,hx265_1,hx265_2,hx265_3,hx265_4,hx265_5⟩:=at_T35 HR0.out a1 p265 q265;cases e265;replace hx265_0:=(HB.out.cell (World.block_lt_of_cell? w _ hx265_0)).trans hx265_0;replace hx265_1:=(HB.out.cell (World.block_lt_of_cell? w _ hx265_1)).trans hx265_1;replace hx265_2:=(HB.out.cell (World.block_lt_of_cell? w _ hx265_2)).trans hx265_2;replace hx265_3:=(HB.out.cell (World.block_lt_of_cell? w _ hx265_3)).trans hx265_3;replace hx265_4:=(HB.out.cell (World.block_lt_of_cell? w _ hx265_4)).trans hx265_4;replace hx265_5:=(HB.out.cell (World.block_lt_of_cell? w _ hx265_5)).trans hx265_5;replace p265:=eq_true p265;replace q265:=eq_true q265
         go_wp2_with (first|((with_reducible refine gate_builtin (b:=.append) (xs:=#[.tmp 25,.tmp 27]) rfl ?_);at_builtin;refine Kd.R_append (Kd.int .i64) (w0:=w) w.heap.size rfl (.tmp 25) (.tmp 27) 62 3 (.int .i64 0) 8 rfl Tryz.underlying62 info3 rfl (by decide) (by omega) u5 x5_1 x6_1 [.int .i64 x6_1] (fun _=>True) (fun _=>False) rfl rfl ?aP (fun _ hk=>hk.elim) ?aF ?aO ?aB ?aS ?aL ?_;(case aP=>exact rfl);(case aB=>exact vB);(case aF=>exact(fun _ _=>trivial));(case aO=>exact(by(with_reducible repeat (first|apply Kd.R_alloc|apply Kd.R_drewN|apply Kd.R_drew));exact HO_5.out));(case aS=>exact(below_size vB));(case aL=>have:=LMc6.out;omega);intro v267 w9 ho hb hg hat;rw[←Ny266.out]at ho;have n0_:=aK (hb);have n1_:=aK (ho);clear HB;clear HO_5;have HB:=n0_;have HO268:=n1_;clear n0_ n1_;clear ho hb hg hat;have p269:0≤(x6_1:Int):=of_decide_eq_true vA;have q269:x6_1<(l0.length:Int):=of_decide_eq_true vA;obtain⟨ad269,e269,hx269_0,hx269_1,hx269_2,hx269_3,hx269_4,hx269_5⟩:=at_T35 HR0.out x6_1 p269 q269;obtain rfl:ad265=ad269:=(by injection e269);replace hx269_0:=(HB.out.cell (World.block_lt_of_cell? w _ hx269_0)).trans hx269_0;replace hx269_1:=(HB.out.cell (World.block_lt_of_cell? w _ hx269_1)).trans hx269_1;replace hx269_2:=(HB.out.cell (World.block_lt_of_cell? w _ hx269_2)).trans hx269_2;replace hx269_3:=(HB.out.cell (World.block_lt_of_cell? w _ hx269_3)).trans hx269_3;replace hx269_4:=(HB.out.cell (World.block_lt_of_cell? w _ hx269_4)).trans hx269_4;replace hx269_5:=(HB.out.cell (World.block_lt_of_cell? w _ hx269_5)).trans hx269_5;replace p269:=eq_true p269;replace q269:=eq_true q269))
         go_roundg k1
         case measure=>have:=HK1.out;omega
         case rel=>exact⟨(y266),(wrap64 (x6_1+((rd_T35 l0 x6_1).f5))),vR,H',⟨by have:=HK1.out;omega⟩,⟨by(with_reducible repeat (first|apply Kd.R_alloc|apply Kd.R_drewN|apply Kd.R_drew));exact HO268.out⟩,⟨vB⟩⟩
        ·rw[if_neg c8]at H
         exact absurd H (by simp)
       ·rw[if_neg c7]at H
        exact absurd H (by simp)
      ·rw[if_neg c6]at H
       exact absurd H (by simp)
     ·rw[if_neg c5]at H
      have c5b0:decide (x6_1<(wrap64 (a1+((rd_T35 l0 a1).f5))))=false:=decide_eq_false c5;clear c5;obtain rfl:=Option.some.inj H;have p265:0≤(a1:Int):=of_decide_eq_true vA;have q265:a1<(l0.length:Int):=of_decide_eq_true vA;obtain⟨ad265,e265,hx265_0,hx265_1,hx265_2,hx265_3,hx265_4,hx265_5⟩:=at_T35 HR0.out a1 p265 q265;cases e265;replace hx265_0:=(HB.out.cell (World.block_lt_of_cell? w _ hx265_0)).trans hx265_0;replace hx265_1:=(HB.out.cell (World.block_lt_of_cell? w _ hx265_1)).trans hx265_1;replace hx265_2:=(HB.out.cell (World.block_lt_of_cell? w _ hx265_2)).trans hx265_2;replace hx265_3:=(HB.out.cell (World.block_lt_of_cell? w _ hx265_3)).trans hx265_3;replace hx265_4:=(HB.out.cell (World.block_lt_of_cell? w _ hx265_4)).trans hx265_4;replace hx265_5:=(HB.out.cell (World.block_lt_of_cell? w _ hx265_5)).trans hx265_5;replace p265:=eq_true p265;replace q265:=eq_true q265;go_wp2
      go_ret
      exact⟨_,vE,by(with_reducible repeat (first|apply Kd.R_alloc|apply Kd.R_drewN|apply Kd.R_drew));exact HO_5.out,vB⟩
    ·rw[if_neg c4]at H
     exact absurd H (by simp)
   ·rw[if_neg c3]at H
    exact absurd H (by simp)
def spec_isType.f (a0_0:Int) (a0_1:ByteArray) (a0_2:ByteArray) (a0_3:ByteArray) (a0_4:Int) (a0_5:Int):Option (Bool):=if a0_0≥20 then(some (decide (a0_0≤22)))else(some false)
theorem spec_isType.calls (a0_0:Int) (a0_1:ByteArray) (a0_2:ByteArray) (a0_3:ByteArray) (a0_4:Int) (a0_5:Int) (r:Bool) (w:World) (h:spec_isType.f a0_0 a0_1 a0_2 a0_3 a0_4 a0_5=some r) :
  Calls Tryz.prog 27 #[.agg #[.int .i64 a0_0,.string a0_1,.string a0_2,.string a0_3,.int .i64 a0_4,.int .i64 a0_5]] w fun e w'=>e = .returned (.bool r)∧Below w.heap.size w w':=by
 have hu35:=Tryz.underlying35;have HB:=aK (Below.refl w.heap.size w);have H:(if a0_0≥20 then(some (decide (a0_0≤22)))else(some false))=some r:=h
 clear h
 by_cases c2:a0_0≥20
 ·rw[if_pos c2]at H
  have c2b0:decide (20≤a0_0)=true:=decide_eq_true c2;clear c2;obtain rfl:=Option.some.inj H;go_enter Tryz.func27,Tryz.ntmps27
  go_wp2_with (first|((with_reducible refine gate_dst (N:=1) rfl ?_);refine box_event ?hg (N:=1) ?hd (cs:=#[.int .i64 a0_0,.string a0_1,.string a0_2,.string a0_3,.int .i64 a0_4,.int .i64 a0_5]) (t:=35) ?hr ?_;(case hd=>rfl);(case hg=>rfl);(case hr=>first|(go_simp;done)|(go_simp;rfl));intro gb270 hg w3 hbox hb;have n0_:=aK (below_step vB hb);have n1_:=aK (hbox);have n2_:=aK ((by rw[hg];exact(below_size vB):w.heap.size≤gb270));have n3_:=aK ((by rw[hg];exact(below_size vB):w.heap.size≤gb270));clear HB;have HB:=n0_;have BK270:=n1_;have GW270:=n2_;have GE270:=n3_;clear n0_ n1_ n2_ n3_;clear hb hbox hg;have hcz4_0:w3.cell? ⟨gb270,0,none⟩=some (.int .i64 a0_0):=(blk_cell BK270.out 0).trans rfl;have hcz4_1:w3.cell? ⟨gb270,1,none⟩=some (.string a0_1):=(blk_cell BK270.out 1).trans rfl;have hcz4_2:w3.cell? ⟨gb270,2,none⟩=some (.string a0_2):=(blk_cell BK270.out 2).trans rfl;have hcz4_3:w3.cell? ⟨gb270,3,none⟩=some (.string a0_3):=(blk_cell BK270.out 3).trans rfl;have hcz4_4:w3.cell? ⟨gb270,4,none⟩=some (.int .i64 a0_4):=(blk_cell BK270.out 4).trans rfl;have hcz4_5:w3.cell? ⟨gb270,5,none⟩=some (.int .i64 a0_5):=(blk_cell BK270.out 5).trans rfl;have hfz4_0:=blk_frozen BK270.out 0;have hfz4_1:=blk_frozen BK270.out 1;have hfz4_2:=blk_frozen BK270.out 2;have hfz4_3:=blk_frozen BK270.out 3;have hfz4_4:=blk_frozen BK270.out 4;have hfz4_5:=blk_frozen BK270.out 5))
  go_ret
  exact⟨vE,by repeat (first|(with_reducible first|exact HB.out|apply below_alloc|apply pw_below_drewN|apply below_drew1|refine below_set ?_ GE270.out)|exact HB.out)⟩
 ·rw[if_neg c2]at H
  have c2b0:decide (20≤a0_0)=false:=decide_eq_false c2;clear c2;obtain rfl:=Option.some.inj H;go_enter Tryz.func27,Tryz.ntmps27
  go_wp2_with (first|((with_reducible refine gate_dst (N:=1) rfl ?_);refine box_event ?hg (N:=1) ?hd (cs:=#[.int .i64 a0_0,.string a0_1,.string a0_2,.string a0_3,.int .i64 a0_4,.int .i64 a0_5]) (t:=35) ?hr ?_;(case hd=>rfl);(case hg=>rfl);(case hr=>first|(go_simp;done)|(go_simp;rfl));intro gb270 hg w5 hbox hb;have n0_:=aK (below_step vB hb);have n1_:=aK (hbox);have n2_:=aK ((by rw[hg];exact(below_size vB):w.heap.size≤gb270));have n3_:=aK ((by rw[hg];exact(below_size vB):w.heap.size≤gb270));clear HB;have HB:=n0_;have BK270:=n1_;have GW270:=n2_;have GE270:=n3_;clear n0_ n1_ n2_ n3_;clear hb hbox hg;have hcz6_0:w5.cell? ⟨gb270,0,none⟩=some (.int .i64 a0_0):=(blk_cell BK270.out 0).trans rfl;have hcz6_1:w5.cell? ⟨gb270,1,none⟩=some (.string a0_1):=(blk_cell BK270.out 1).trans rfl;have hcz6_2:w5.cell? ⟨gb270,2,none⟩=some (.string a0_2):=(blk_cell BK270.out 2).trans rfl;have hcz6_3:w5.cell? ⟨gb270,3,none⟩=some (.string a0_3):=(blk_cell BK270.out 3).trans rfl;have hcz6_4:w5.cell? ⟨gb270,4,none⟩=some (.int .i64 a0_4):=(blk_cell BK270.out 4).trans rfl;have hcz6_5:w5.cell? ⟨gb270,5,none⟩=some (.int .i64 a0_5):=(blk_cell BK270.out 5).trans rfl;have hfz6_0:=blk_frozen BK270.out 0;have hfz6_1:=blk_frozen BK270.out 1;have hfz6_2:=blk_frozen BK270.out 2;have hfz6_3:=blk_frozen BK270.out 3;have hfz6_4:=blk_frozen BK270.out 4;have hfz6_5:=blk_frozen BK270.out 5))
  go_ret
  exact⟨vE,by repeat (first|(with_reducible first|exact HB.out|apply below_alloc|apply pw_below_drewN|apply below_drew1|refine below_set ?_ GE270.out)|exact HB.out)⟩
def spec_isValue.f (a0_0:Int) (a0_1:ByteArray) (a0_2:ByteArray) (a0_3:ByteArray) (a0_4:Int) (a0_5:Int):Option (Bool):=if a0_0≥11 then(some (decide (a0_0≤18)))else(some false)
theorem spec_isValue.calls (a0_0:Int) (a0_1:ByteArray) (a0_2:ByteArray) (a0_3:ByteArray) (a0_4:Int) (a0_5:Int) (r:Bool) (w:World) (h:spec_isValue.f a0_0 a0_1 a0_2 a0_3 a0_4 a0_5=some r) :
  Calls Tryz.prog 28 #[.agg #[.int .i64 a0_0,.string a0_1,.string a0_2,.string a0_3,.int .i64 a0_4,.int .i64 a0_5]] w fun e w'=>e = .returned (.bool r)∧Below w.heap.size w w':=by
 have hu35:=Tryz.underlying35;have HB:=aK (Below.refl w.heap.size w);have H:(if a0_0≥11 then(some (decide (a0_0≤18)))else(some false))=some r:=h
 clear h
 by_cases c2:a0_0≥11
 ·rw[if_pos c2]at H
  have c2b0:decide (11≤a0_0)=true:=decide_eq_true c2;clear c2;obtain rfl:=Option.some.inj H;go_enter Tryz.func28,Tryz.ntmps28
  go_wp2_with (first|((with_reducible refine gate_dst (N:=1) rfl ?_);refine box_event ?hg (N:=1) ?hd (cs:=#[.int .i64 a0_0,.string a0_1,.string a0_2,.string a0_3,.int .i64 a0_4,.int .i64 a0_5]) (t:=35) ?hr ?_;(case hd=>rfl);(case hg=>rfl);(case hr=>first|(go_simp;done)|(go_simp;rfl));intro gb271 hg w3 hbox hb;have n0_:=aK (below_step vB hb);have n1_:=aK (hbox);have n2_:=aK ((by rw[hg];exact(below_size vB):w.heap.size≤gb271));have n3_:=aK ((by rw[hg];exact(below_size vB):w.heap.size≤gb271));clear HB;have HB:=n0_;have BK271:=n1_;have GW271:=n2_;have GE271:=n3_;clear n0_ n1_ n2_ n3_;clear hb hbox hg;have hcz4_0:w3.cell? ⟨gb271,0,none⟩=some (.int .i64 a0_0):=(blk_cell BK271.out 0).trans rfl;have hcz4_1:w3.cell? ⟨gb271,1,none⟩=some (.string a0_1):=(blk_cell BK271.out 1).trans rfl;have hcz4_2:w3.cell? ⟨gb271,2,none⟩=some (.string a0_2):=(blk_cell BK271.out 2).trans rfl;have hcz4_3:w3.cell? ⟨gb271,3,none⟩=some (.string a0_3):=(blk_cell BK271.out 3).trans rfl;have hcz4_4:w3.cell? ⟨gb271,4,none⟩=some (.int .i64 a0_4):=(blk_cell BK271.out 4).trans rfl;have hcz4_5:w3.cell? ⟨gb271,5,none⟩=some (.int .i64 a0_5):=(blk_cell BK271.out 5).trans rfl;have hfz4_0:=blk_frozen BK271.out 0;have hfz4_1:=blk_frozen BK271.out 1;have hfz4_2:=blk_frozen BK271.out 2;have hfz4_3:=blk_frozen BK271.out 3;have hfz4_4:=blk_frozen BK271.out 4;have hfz4_5:=blk_frozen BK271.out 5))
  go_ret
  exact⟨vE,by repeat (first|(with_reducible first|exact HB.out|apply below_alloc|apply pw_below_drewN|apply below_drew1|refine below_set ?_ GE271.out)|exact HB.out)⟩
 ·rw[if_neg c2]at H
  have c2b0:decide (11≤a0_0)=false:=decide_eq_false c2;clear c2;obtain rfl:=Option.some.inj H;go_enter Tryz.func28,Tryz.ntmps28
  go_wp2_with (first|((with_reducible refine gate_dst (N:=1) rfl ?_);refine box_event ?hg (N:=1) ?hd (cs:=#[.int .i64 a0_0,.string a0_1,.string a0_2,.string a0_3,.int .i64 a0_4,.int .i64 a0_5]) (t:=35) ?hr ?_;(case hd=>rfl);(case hg=>rfl);(case hr=>first|(go_simp;done)|(go_simp;rfl));intro gb271 hg w5 hbox hb;have n0_:=aK (below_step vB hb);have n1_:=aK (hbox);have n2_:=aK ((by rw[hg];exact(below_size vB):w.heap.size≤gb271));have n3_:=aK ((by rw[hg];exact(below_size vB):w.heap.size≤gb271));clear HB;have HB:=n0_;have BK271:=n1_;have GW271:=n2_;have GE271:=n3_;clear n0_ n1_ n2_ n3_;clear hb hbox hg;have hcz6_0:w5.cell? ⟨gb271,0,none⟩=some (.int .i64 a0_0):=(blk_cell BK271.out 0).trans rfl;have hcz6_1:w5.cell? ⟨gb271,1,none⟩=some (.string a0_1):=(blk_cell BK271.out 1).trans rfl;have hcz6_2:w5.cell? ⟨gb271,2,none⟩=some (.string a0_2):=(blk_cell BK271.out 2).trans rfl;have hcz6_3:w5.cell? ⟨gb271,3,none⟩=some (.string a0_3):=(blk_cell BK271.out 3).trans rfl;have hcz6_4:w5.cell? ⟨gb271,4,none⟩=some (.int .i64 a0_4):=(blk_cell BK271.out 4).trans rfl;have hcz6_5:w5.cell? ⟨gb271,5,none⟩=some (.int .i64 a0_5):=(blk_cell BK271.out 5).trans rfl;have hfz6_0:=blk_frozen BK271.out 0;have hfz6_1:=blk_frozen BK271.out 1;have hfz6_2:=blk_frozen BK271.out 2;have hfz6_3:=blk_frozen BK271.out 3;have hfz6_4:=blk_frozen BK271.out 4;have hfz6_5:=blk_frozen BK271.out 5))
  go_ret
  exact⟨vE,by repeat (first|(with_reducible first|exact HB.out|apply below_alloc|apply pw_below_drewN|apply below_drew1|refine below_set ?_ GE271.out)|exact HB.out)⟩
def IsS72 (w0 W:World) (g:Nat) (f0:List (S35)) (f1:List Int) (f2:Int):Prop:=∃A0 c0,∃A1 c1,W.heap[g]?=some (.cells #[.slice A0 f0.length c0,.slice A1 f1.length c1,.int .i64 f2] 72 (0,0))∧w0.heap.size≤g∧Kd.C k35 w0 A0 f0.length f0∧Kd.C (Kd.int .i64) w0 A1 f1.length f1
theorem IsS72.drewN {w0 W:World} {g:Nat} {f0:List (S35)} {f1:List Int} {f2:Int} (h:IsS72 w0 W g f0 f1 f2) (m:Nat):IsS72 w0 (W.drewN m) g f0 f1 f2:=h
theorem IsS72.at_ {w0 W:World} {g:Nat} {f0:List (S35)} {f1:List Int} {f2:Int} {w':World} {m:Nat} (hq:W.drewN m=w') (h:IsS72 w0 W g f0 f1 f2):IsS72 w0 w' g f0 f1 f2:=by subst hq;exact IsS72.drewN h m
def spec_isSelections.f (a0_0:Int) (a0_1:ByteArray) (a0_2:ByteArray) (a0_3:ByteArray) (a0_4:Int) (a0_5:Int):Option (Bool):=some (a0_0==5)
theorem spec_isSelections.calls (a0_0:Int) (a0_1:ByteArray) (a0_2:ByteArray) (a0_3:ByteArray) (a0_4:Int) (a0_5:Int) (r:Bool) (w:World) (h:spec_isSelections.f a0_0 a0_1 a0_2 a0_3 a0_4 a0_5=some r) :
  Calls Tryz.prog 41 #[.agg #[.int .i64 a0_0,.string a0_1,.string a0_2,.string a0_3,.int .i64 a0_4,.int .i64 a0_5]] w fun e w'=>e = .returned (.bool r)∧Below w.heap.size w w':=by
 have hu35:=Tryz.underlying35;have HB:=aK (Below.refl w.heap.size w);have H:(some (a0_0==5))=some r:=h;clear h;obtain rfl:=Option.some.inj H;go_enter Tryz.func41,Tryz.ntmps41
 go_wp2_with (first|((with_reducible refine gate_dst (N:=1) rfl ?_);refine box_event ?hg (N:=1) ?hd (cs:=#[.int .i64 a0_0,.string a0_1,.string a0_2,.string a0_3,.int .i64 a0_4,.int .i64 a0_5]) (t:=35) ?hr ?_;(case hd=>rfl);(case hg=>rfl);(case hr=>first|(go_simp;done)|(go_simp;rfl));intro gb272 hg w2 hbox hb;have n0_:=aK (below_step vB hb);have n1_:=aK (hbox);have n2_:=aK ((by rw[hg];exact(below_size vB):w.heap.size≤gb272));have n3_:=aK ((by rw[hg];exact(below_size vB):w.heap.size≤gb272));clear HB;have HB:=n0_;have BK272:=n1_;have GW272:=n2_;have GE272:=n3_;clear n0_ n1_ n2_ n3_;clear hb hbox hg;have hcz3_0:w2.cell? ⟨gb272,0,none⟩=some (.int .i64 a0_0):=(blk_cell BK272.out 0).trans rfl;have hcz3_1:w2.cell? ⟨gb272,1,none⟩=some (.string a0_1):=(blk_cell BK272.out 1).trans rfl;have hcz3_2:w2.cell? ⟨gb272,2,none⟩=some (.string a0_2):=(blk_cell BK272.out 2).trans rfl;have hcz3_3:w2.cell? ⟨gb272,3,none⟩=some (.string a0_3):=(blk_cell BK272.out 3).trans rfl;have hcz3_4:w2.cell? ⟨gb272,4,none⟩=some (.int .i64 a0_4):=(blk_cell BK272.out 4).trans rfl;have hcz3_5:w2.cell? ⟨gb272,5,none⟩=some (.int .i64 a0_5):=(blk_cell BK272.out 5).trans rfl;have hfz3_0:=blk_frozen BK272.out 0;have hfz3_1:=blk_frozen BK272.out 1;have hfz3_2:=blk_frozen BK272.out 2;have hfz3_3:=blk_frozen BK272.out 3;have hfz3_4:=blk_frozen BK272.out 4;have hfz3_5:=blk_frozen BK272.out 5))
 go_ret
 exact⟨vE,by repeat (first|(with_reducible first|exact HB.out|apply below_alloc|apply pw_below_drewN|apply below_drew1|refine below_set ?_ GE272.out)|exact HB.out)⟩
def spec_fixedAt.l0:Nat→List (S35)→Int→Int→Option (Bool)
 | 0,_,_,_=>none
 | k+1,x0,x1,x5=>if 0≤x1 then(if x1<(x0.length:Int)then(if x5<(wrap64 (x1+((rd_T35 x0 x1).f5)))then(if 0≤x5 then(if x5<(x0.length:Int)then(if ((rd_T35 x0 x5).f0)=11 then(some false)else(spec_fixedAt.l0 k x0 x1 (wrap64 (x5+1))))else(none))else(none))else(some true))else(none))else(none)
def spec_fixedAt.f (k:Nat) (l0:List (S35)) (a1:Int):Option (Bool):=spec_fixedAt.l0 k l0 a1 a1
theorem spec_fixedAt.calls (k:Nat) (A0:Option Addr) (c0:Nat) (l0:List (S35)) (a1:Int) (r:Bool) (w:World) (hr0:Kd.C k35 w A0 l0.length l0) (hc0:l0.length≤c0) (h:spec_fixedAt.f k l0 a1=some r) :
  Calls Tryz.prog 42 #[.slice A0 l0.length c0,.int .i64 a1] w fun e w'=>e = .returned (.bool r)∧Drawn0 w w':=by
 have HR0:=aK hr0;have HC0:=aK hc0;clear hr0 hc0;have H:(spec_fixedAt.l0 k l0 a1 a1)=some r:=h;clear h;have H':=aK H;clear H;go_enter Tryz.func42,Tryz.ntmps42;go_wp2
 go_loopg [5] k (fun kq v5 w'=>∃(x5_1:Int),v5 = .int .i64 x5_1∧Aside0 (spec_fixedAt.l0 kq l0 a1 x5_1=some r)∧Aside0 (kq≤k)∧Drawn0 w w')
 case atStart=>exact⟨(a1),vR,H',⟨Nat.le_refl _⟩,vD⟩
 case round=>
  clear H'
  try clear p2
  obtain⟨x5_1,rfl,HA,HK1,⟨m1,rfl⟩⟩:=hrel;cases gk with
  | zero=>exact absurd HA.out (by simp[spec_fixedAt.l0])
  | succ k1=>
   have H:=HA.out;clear HA;simp only[spec_fixedAt.l0]at H
   by_cases c3:0≤a1
   ·rw[if_pos c3]at H
    have c3b0:decide (0≤a1)=true:=decide_eq_true c3;clear c3
    by_cases c4:a1<(l0.length:Int)
    ·rw[if_pos c4]at H
     have c4b0:decide (a1<(l0.length:Int))=true:=decide_eq_true c4;clear c4
     by_cases c5:x5_1<(wrap64 (a1+((rd_T35 l0 a1).f5)))
     ·rw[if_pos c5]at H
      have c5b0:decide (x5_1<(wrap64 (a1+((rd_T35 l0 a1).f5))))=true:=decide_eq_true c5;clear c5
      by_cases c6:0≤x5_1
      ·rw[if_pos c6]at H
       have c6b0:decide (0≤x5_1)=true:=decide_eq_true c6;clear c6
       by_cases c7:x5_1<(l0.length:Int)
       ·rw[if_pos c7]at H
        have c7b0:decide (x5_1<(l0.length:Int))=true:=decide_eq_true c7;clear c7
        by_cases c8:((rd_T35 l0 x5_1).f0)=11
        ·rw[if_pos c8]at H
         have c8b0:(((rd_T35 l0 x5_1).f0)==11)=true:=beq_iff_eq.mpr c8;have c8b1:(((rd_T35 l0 x5_1).f0) != 11)=false:=bne_eq_false_iff_eq.mpr c8;clear c8;obtain rfl:=Option.some.inj H;have p273:0≤(a1:Int):=of_decide_eq_true vA;have q273:a1<(l0.length:Int):=of_decide_eq_true vA;obtain⟨ad273,e273,hx273_0,hx273_1,hx273_2,hx273_3,hx273_4,hx273_5⟩:=at_T35 HR0.out a1 p273 q273;cases e273;replace p273:=eq_true p273;replace q273:=eq_true q273;have p274:0≤(x5_1:Int):=of_decide_eq_true vA;have q274:x5_1<(l0.length:Int):=of_decide_eq_true vA;obtain⟨ad274,e274,hx274_0,hx274_1,hx274_2,hx274_3,hx274_4,hx274_5⟩:=at_T35 HR0.out x5_1 p274 q274;obtain rfl:ad273=ad274:=(by injection e274)
         replace p274:=eq_true p274;replace q274:=eq_true q274;go_wp2
         go_ret
         exact⟨vR,vD⟩
        ·rw[if_neg c8]at H
         have c8b0:(((rd_T35 l0 x5_1).f0)==11)=false:=beq_eq_false_iff_ne.mpr c8;have c8b1:(((rd_T35 l0 x5_1).f0) != 11)=true:=bne_iff_ne.mpr c8;have H':=aK H;clear H;have p273:0≤(a1:Int):=of_decide_eq_true vA;have q273:a1<(l0.length:Int):=of_decide_eq_true vA;obtain⟨ad273,e273,hx273_0,hx273_1,hx273_2,hx273_3,hx273_4,hx273_5⟩:=at_T35 HR0.out a1 p273 q273;cases e273;replace p273:=eq_true p273;replace q273:=eq_true q273;have p274:0≤(x5_1:Int):=of_decide_eq_true vA;have q274:x5_1<(l0.length:Int):=of_decide_eq_true vA;obtain⟨ad274,e274,hx274_0,hx274_1,hx274_2,hx274_3,hx274_4,hx274_5⟩:=at_T35 HR0.out x5_1 p274 q274;obtain rfl:ad273=ad274:=(by injection e274)
         replace p274:=eq_true p274;replace q274:=eq_true q274;go_wp2
         go_roundg k1
         case measure=>have:=HK1.out;omega
         case rel=>exact⟨(wrap64 (x5_1+1)),vR,H',⟨by have:=HK1.out;omega⟩,vD⟩
       ·rw[if_neg c7]at H
        exact absurd H (by simp)
      ·rw[if_neg c6]at H
       exact absurd H (by simp)
     ·rw[if_neg c5]at H
      have c5b0:decide (x5_1<(wrap64 (a1+((rd_T35 l0 a1).f5))))=false:=decide_eq_false c5;clear c5;obtain rfl:=Option.some.inj H;have p273:0≤(a1:Int):=of_decide_eq_true vA;have q273:a1<(l0.length:Int):=of_decide_eq_true vA;obtain⟨ad273,e273,hx273_0,hx273_1,hx273_2,hx273_3,hx273_4,hx273_5⟩:=at_T35 HR0.out a1 p273 q273;cases e273;replace p273:=eq_true p273;replace q273:=eq_true q273;go_wp2
      go_ret
      exact⟨vR,vD⟩
    ·rw[if_neg c4]at H
     exact absurd H (by simp)
   ·rw[if_neg c3]at H
    exact absurd H (by simp)
def spec_isNullable.f (a0_0:Int) (a0_1:ByteArray) (a0_2:ByteArray) (a0_3:ByteArray) (a0_4:Int) (a0_5:Int):Option (Bool):=(spec_isType.f a0_0 a0_1 a0_2 a0_3 a0_4 a0_5).bind fun t276=>(if t276=true then(some (a0_0 != 22))else(some false))
theorem spec_isNullable.calls (a0_0:Int) (a0_1:ByteArray) (a0_2:ByteArray) (a0_3:ByteArray) (a0_4:Int) (a0_5:Int) (r:Bool) (w:World) (h:spec_isNullable.f a0_0 a0_1 a0_2 a0_3 a0_4 a0_5=some r) :
  Calls Tryz.prog 44 #[.agg #[.int .i64 a0_0,.string a0_1,.string a0_2,.string a0_3,.int .i64 a0_4,.int .i64 a0_5]] w fun e w'=>e = .returned (.bool r)∧Below w.heap.size w w':=by
 have hu35:=Tryz.underlying35;have HB:=aK (Below.refl w.heap.size w);have H:((spec_isType.f a0_0 a0_1 a0_2 a0_3 a0_4 a0_5).bind fun t276=>(if t276=true then(some (a0_0 != 22))else(some false)))=some r:=h
 clear h;replace H:=Option.bind_eq_some_iff.mp H;obtain⟨t276,A20,H⟩:=H;replace H:(if t276=true then(some (a0_0 != 22))else(some false))=some r:=H
 have A2:=aK A20;clear A20
 by_cases c3:t276=true
 ·subst c3
  have H1:(some (a0_0 != 22))=some r:=by rw[if_pos rfl]at H;exact H
  clear H;have H:=H1;clear H1;obtain rfl:=Option.some.inj H;go_enter Tryz.func44,Tryz.ntmps44
  go_wp2_with (first|((with_reducible refine gate_dst (N:=1) rfl ?_);refine box_event ?hg (N:=1) ?hd (cs:=#[.int .i64 a0_0,.string a0_1,.string a0_2,.string a0_3,.int .i64 a0_4,.int .i64 a0_5]) (t:=35) ?hr ?_;(case hd=>rfl);(case hg=>rfl);(case hr=>first|(go_simp;done)|(go_simp;rfl));intro gb275 hg w4 hbox hb;have n0_:=aK (below_step vB hb);have n1_:=aK (hbox);have n2_:=aK ((by rw[hg];exact(below_size vB):w.heap.size≤gb275));have n3_:=aK ((by rw[hg];exact(below_size vB):w.heap.size≤gb275));clear HB;have HB:=n0_;have BK275:=n1_;have GW275:=n2_;have GE275:=n3_;clear n0_ n1_ n2_ n3_;clear hb hbox hg;have hcz5_0:w4.cell? ⟨gb275,0,none⟩=some (.int .i64 a0_0):=(blk_cell BK275.out 0).trans rfl;have hcz5_1:w4.cell? ⟨gb275,1,none⟩=some (.string a0_1):=(blk_cell BK275.out 1).trans rfl;have hcz5_2:w4.cell? ⟨gb275,2,none⟩=some (.string a0_2):=(blk_cell BK275.out 2).trans rfl;have hcz5_3:w4.cell? ⟨gb275,3,none⟩=some (.string a0_3):=(blk_cell BK275.out 3).trans rfl;have hcz5_4:w4.cell? ⟨gb275,4,none⟩=some (.int .i64 a0_4):=(blk_cell BK275.out 4).trans rfl;have hcz5_5:w4.cell? ⟨gb275,5,none⟩=some (.int .i64 a0_5):=(blk_cell BK275.out 5).trans rfl;have hfz5_0:=blk_frozen BK275.out 0;have hfz5_1:=blk_frozen BK275.out 1;have hfz5_2:=blk_frozen BK275.out 2;have hfz5_3:=blk_frozen BK275.out 3;have hfz5_4:=blk_frozen BK275.out 4;have hfz5_5:=blk_frozen BK275.out 5)|((with_reducible refine gate_callee (f:=27) rfl ?_);refine goesL_ (some 4) rfl rfl Tryz.func27 (by kernel_rfl) rfl #[.agg #[.int .i64 a0_0,.string a0_1,.string a0_2,.string a0_3,.int .i64 a0_4,.int .i64 a0_5]] rfl (by(try simp only[List.map_toArray,List.map_cons,List.map_nil]);first|done|rfl|(simp only[List.length_drop,List.length_take];rfl)) ?_;(with_reducible refine(spec_isType.calls a0_0 a0_1 a0_2 a0_3 a0_4 a0_5 true _ A2.out).mono ?_);rintro e w6 ⟨rfl,hb⟩;refine⟨_,rfl,?_⟩;have n0_:=aK (blk_below (g:=gb275) (o:=.cells #[.int .i64 a0_0,.string a0_1,.string a0_2,.string a0_3,.int .i64 a0_4,.int .i64 a0_5] 35 (0,0)) (by(with_reducible repeat (first|refine blk_drewN ?_ _|refine blk_drew ?_|refine blk_alloc ?_ _));exact BK275.out) hb);have n1_:=aK (below_step (by repeat (first|(with_reducible first|exact HB.out|apply below_alloc|apply pw_below_drewN|apply below_drew1|refine below_set ?_ GE275.out)|exact HB.out)) hb);clear BK275;clear HB;have BK275:=n0_;have HB:=n1_;clear n0_ n1_;(try clear hb);(try clear hb2);(try clear hk);(try clear hi);have hcz7_0:w6.cell? ⟨gb275,0,none⟩=some (.int .i64 a0_0):=(blk_cell BK275.out 0).trans rfl;have hcz7_1:w6.cell? ⟨gb275,1,none⟩=some (.string a0_1):=(blk_cell BK275.out 1).trans rfl;have hcz7_2:w6.cell? ⟨gb275,2,none⟩=some (.string a0_2):=(blk_cell BK275.out 2).trans rfl;have hcz7_3:w6.cell? ⟨gb275,3,none⟩=some (.string a0_3):=(blk_cell BK275.out 3).trans rfl;have hcz7_4:w6.cell? ⟨gb275,4,none⟩=some (.int .i64 a0_4):=(blk_cell BK275.out 4).trans rfl;have hcz7_5:w6.cell? ⟨gb275,5,none⟩=some (.int .i64 a0_5):=(blk_cell BK275.out 5).trans rfl;have hfz7_0:=blk_frozen BK275.out 0;have hfz7_1:=blk_frozen BK275.out 1;have hfz7_2:=blk_frozen BK275.out 2;have hfz7_3:=blk_frozen BK275.out 3;have hfz7_4:=blk_frozen BK275.out 4;have hfz7_5:=blk_frozen BK275.out 5))
  go_ret
  exact⟨vE,by repeat (first|(with_reducible first|exact HB.out|apply below_alloc|apply pw_below_drewN|apply below_drew1|refine below_set ?_ GE275.out)|exact HB.out)⟩
 ·replace c3:=Bool.eq_false_iff.mpr c3
  subst c3;have H1:(some false)=some r:=by rw[if_neg (show ¬(false=true) by decide)]at H;exact H
  clear H;have H:=H1;clear H1;obtain rfl:=Option.some.inj H;go_enter Tryz.func44,Tryz.ntmps44
  go_wp2_with (first|((with_reducible refine gate_dst (N:=1) rfl ?_);refine box_event ?hg (N:=1) ?hd (cs:=#[.int .i64 a0_0,.string a0_1,.string a0_2,.string a0_3,.int .i64 a0_4,.int .i64 a0_5]) (t:=35) ?hr ?_;(case hd=>rfl);(case hg=>rfl);(case hr=>first|(go_simp;done)|(go_simp;rfl));intro gb275 hg w8 hbox hb;have n0_:=aK (below_step vB hb);have n1_:=aK (hbox);have n2_:=aK ((by rw[hg];exact(below_size vB):w.heap.size≤gb275));have n3_:=aK ((by rw[hg];exact(below_size vB):w.heap.size≤gb275));clear HB;have HB:=n0_;have BK275:=n1_;have GW275:=n2_;have GE275:=n3_;clear n0_ n1_ n2_ n3_;clear hb hbox hg;have hcz9_0:w8.cell? ⟨gb275,0,none⟩=some (.int .i64 a0_0):=(blk_cell BK275.out 0).trans rfl;have hcz9_1:w8.cell? ⟨gb275,1,none⟩=some (.string a0_1):=(blk_cell BK275.out 1).trans rfl;have hcz9_2:w8.cell? ⟨gb275,2,none⟩=some (.string a0_2):=(blk_cell BK275.out 2).trans rfl;have hcz9_3:w8.cell? ⟨gb275,3,none⟩=some (.string a0_3):=(blk_cell BK275.out 3).trans rfl;have hcz9_4:w8.cell? ⟨gb275,4,none⟩=some (.int .i64 a0_4):=(blk_cell BK275.out 4).trans rfl;have hcz9_5:w8.cell? ⟨gb275,5,none⟩=some (.int .i64 a0_5):=(blk_cell BK275.out 5).trans rfl;have hfz9_0:=blk_frozen BK275.out 0;have hfz9_1:=blk_frozen BK275.out 1;have hfz9_2:=blk_frozen BK275.out 2;have hfz9_3:=blk_frozen BK275.out 3;have hfz9_4:=blk_frozen BK275.out 4;have hfz9_5:=blk_frozen BK275.out 5)|((with_reducible refine gate_callee (f:=27) rfl ?_);refine goesL_ (some 4) rfl rfl Tryz.func27 (by kernel_rfl) rfl #[.agg #[.int .i64 a0_0,.string a0_1,.string a0_2,.string a0_3,.int .i64 a0_4,.int .i64 a0_5]] rfl (by(try simp only[List.map_toArray,List.map_cons,List.map_nil]);first|done|rfl|(simp only[List.length_drop,List.length_take];rfl)) ?_;(with_reducible refine(spec_isType.calls a0_0 a0_1 a0_2 a0_3 a0_4 a0_5 false _ A2.out).mono ?_);rintro e w10 ⟨rfl,hb⟩;refine⟨_,rfl,?_⟩;have n0_:=aK (blk_below (g:=gb275) (o:=.cells #[.int .i64 a0_0,.string a0_1,.string a0_2,.string a0_3,.int .i64 a0_4,.int .i64 a0_5] 35 (0,0)) (by(with_reducible repeat (first|refine blk_drewN ?_ _|refine blk_drew ?_|refine blk_alloc ?_ _));exact BK275.out) hb);have n1_:=aK (below_step (by repeat (first|(with_reducible first|exact HB.out|apply below_alloc|apply pw_below_drewN|apply below_drew1|refine below_set ?_ GE275.out)|exact HB.out)) hb);clear BK275;clear HB;have BK275:=n0_;have HB:=n1_;clear n0_ n1_;(try clear hb);(try clear hb2);(try clear hk);(try clear hi)))
  go_ret
  exact⟨vE,by repeat (first|(with_reducible first|exact HB.out|apply below_alloc|apply pw_below_drewN|apply below_drew1|refine below_set ?_ GE275.out)|exact HB.out)⟩
def spec_isObject.f (a0_0:Int) (a0_1:ByteArray) (a0_2:ByteArray) (a0_3:ByteArray) (a0_4:Int) (a0_5:Int):Option (Bool):=some (a0_0==27)
theorem spec_isObject.calls (a0_0:Int) (a0_1:ByteArray) (a0_2:ByteArray) (a0_3:ByteArray) (a0_4:Int) (a0_5:Int) (r:Bool) (w:World) (h:spec_isObject.f a0_0 a0_1 a0_2 a0_3 a0_4 a0_5=some r) :
  Calls Tryz.prog 62 #[.agg #[.int .i64 a0_0,.string a0_1,.string a0_2,.string a0_3,.int .i64 a0_4,.int .i64 a0_5]] w fun e w'=>e = .returned (.bool r)∧Below w.heap.size w w':=by
 have hu35:=Tryz.underlying35;have HB:=aK (Below.refl w.heap.size w);have H:(some (a0_0==27))=some r:=h;clear h;obtain rfl:=Option.some.inj H;go_enter Tryz.func62,Tryz.ntmps62
 go_wp2_with (first|((with_reducible refine gate_dst (N:=1) rfl ?_);refine box_event ?hg (N:=1) ?hd (cs:=#[.int .i64 a0_0,.string a0_1,.string a0_2,.string a0_3,.int .i64 a0_4,.int .i64 a0_5]) (t:=35) ?hr ?_;(case hd=>rfl);(case hg=>rfl);(case hr=>first|(go_simp;done)|(go_simp;rfl));intro gb277 hg w2 hbox hb;have n0_:=aK (below_step vB hb);have n1_:=aK (hbox);have n2_:=aK ((by rw[hg];exact(below_size vB):w.heap.size≤gb277));have n3_:=aK ((by rw[hg];exact(below_size vB):w.heap.size≤gb277));clear HB;have HB:=n0_;have BK277:=n1_;have GW277:=n2_;have GE277:=n3_;clear n0_ n1_ n2_ n3_;clear hb hbox hg;have hcz3_0:w2.cell? ⟨gb277,0,none⟩=some (.int .i64 a0_0):=(blk_cell BK277.out 0).trans rfl;have hcz3_1:w2.cell? ⟨gb277,1,none⟩=some (.string a0_1):=(blk_cell BK277.out 1).trans rfl;have hcz3_2:w2.cell? ⟨gb277,2,none⟩=some (.string a0_2):=(blk_cell BK277.out 2).trans rfl;have hcz3_3:w2.cell? ⟨gb277,3,none⟩=some (.string a0_3):=(blk_cell BK277.out 3).trans rfl;have hcz3_4:w2.cell? ⟨gb277,4,none⟩=some (.int .i64 a0_4):=(blk_cell BK277.out 4).trans rfl;have hcz3_5:w2.cell? ⟨gb277,5,none⟩=some (.int .i64 a0_5):=(blk_cell BK277.out 5).trans rfl;have hfz3_0:=blk_frozen BK277.out 0;have hfz3_1:=blk_frozen BK277.out 1;have hfz3_2:=blk_frozen BK277.out 2;have hfz3_3:=blk_frozen BK277.out 3;have hfz3_4:=blk_frozen BK277.out 4;have hfz3_5:=blk_frozen BK277.out 5))
 go_ret
 exact⟨vE,by repeat (first|(with_reducible first|exact HB.out|apply below_alloc|apply pw_below_drewN|apply below_drew1|refine below_set ?_ GE277.out)|exact HB.out)⟩
end Go.Proofs.YtjolkdnfbmkjiaaGreatDoor.PFnTokensGaps
