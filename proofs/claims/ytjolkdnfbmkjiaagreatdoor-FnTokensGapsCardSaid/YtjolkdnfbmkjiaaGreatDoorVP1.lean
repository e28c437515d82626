import Derived.Test.YtjolkdnfbmkjiaaGreatDoorVP0
set_option maxRecDepth 100000
set_option maxHeartbeats 8000000
set_option linter.unusedVariables false
set_option linter.unusedSimpArgs false
namespace Go.Proofs.YtjolkdnfbmkjiaaGreatDoor.PFnTokensGaps
open Go.RowKit Go.Proofs.YtjolkdnfbmkjiaaGreatDoorW.PrintWords Go.Proofs.YtjolkdnfbmkjiaaGreatDoorW.PrintLast Go.Proofs.YtjolkdnfbmkjiaaGreatDoorW.PrintMore
attribute [local go_sem] max2_int min2_int max_two min_two max_three min_three max_four min_four
def laws_zzFits3.f (a0_0:Int) (a0_1:ByteArray) (a0_2:ByteArray) (a0_3:ByteArray) (a0_4:Int) (a0_5:Int):Option (Bool):=if (a0_1.size:Int)>2147483647 then(some false)else(if (a0_2.size:Int)>2147483647 then(some false)else(if (a0_3.size:Int)>2147483647 then(some false)else(some true)))
theorem laws_zzFits3.calls (a0_0:Int) (a0_1:ByteArray) (a0_2:ByteArray) (a0_3:ByteArray) (a0_4:Int) (a0_5:Int) (r:Bool) (w:World) (h:laws_zzFits3.f a0_0 a0_1 a0_2 a0_3 a0_4 a0_5=some r) :
  Calls Tryz.prog 11 #[.agg #[.int .i64 a0_0,.string a0_1,.string a0_2,.string a0_3,.int .i64 a0_4,.int .i64 a0_5]] w fun e w'=>e = .returned (.bool r)∧Below w.heap.size w w':=by
 have hu35:=Tryz.underlying35;have HB:=aK (Below.refl w.heap.size w);have H:(if (a0_1.size:Int)>2147483647 then(some false)else(if (a0_2.size:Int)>2147483647 then(some false)else(if (a0_3.size:Int)>2147483647 then(some false)else(some true))))=some r:=h
 clear h
 by_cases c2:(a0_1.size:Int)>2147483647
 ·rw[if_pos c2]at H
  have c2b0:decide (2147483647<(a0_1.size:Int))=true:=decide_eq_true c2;have c2b1:decide (2147483647<a0_1.size)=true:=decide_eq_true (by omega)
  clear c2;obtain rfl:=Option.some.inj H;go_enter Tryz.func11,Tryz.ntmps11
  go_wp2_with (first|((with_reducible refine gate_dst (N:=1) rfl ?_);refine box_event ?hg (N:=1) ?hd (cs:=#[.int .i64 a0_0,.string a0_1,.string a0_2,.string a0_3,.int .i64 a0_4,.int .i64 a0_5]) (t:=35) ?hr ?_;(case hd=>rfl);(case hg=>rfl);(case hr=>first|(go_simp;done)|(go_simp;rfl));intro gb101 hg w3 hbox hb;have n0_:=aK (below_step vB hb);have n1_:=aK (hbox);have n2_:=aK ((by rw[hg];exact(below_size vB):w.heap.size≤gb101));have n3_:=aK ((by rw[hg];exact(below_size vB):w.heap.size≤gb101));clear HB;have HB:=n0_;have BK101:=n1_;have GW101:=n2_;have GE101:=n3_;clear n0_ n1_ n2_ n3_;clear hb hbox hg;have hcz4_0:w3.cell? ⟨gb101,0,none⟩=some (.int .i64 a0_0):=(blk_cell BK101.out 0).trans rfl;have hcz4_1:w3.cell? ⟨gb101,1,none⟩=some (.string a0_1):=(blk_cell BK101.out 1).trans rfl;have hcz4_2:w3.cell? ⟨gb101,2,none⟩=some (.string a0_2):=(blk_cell BK101.out 2).trans rfl;have hcz4_3:w3.cell? ⟨gb101,3,none⟩=some (.string a0_3):=(blk_cell BK101.out 3).trans rfl;have hcz4_4:w3.cell? ⟨gb101,4,none⟩=some (.int .i64 a0_4):=(blk_cell BK101.out 4).trans rfl;have hcz4_5:w3.cell? ⟨gb101,5,none⟩=some (.int .i64 a0_5):=(blk_cell BK101.out 5).trans rfl;have hfz4_0:=blk_frozen BK101.out 0;have hfz4_1:=blk_frozen BK101.out 1;have hfz4_2:=blk_frozen BK101.out 2;have hfz4_3:=blk_frozen BK101.out 3;have hfz4_4:=blk_frozen BK101.out 4;have hfz4_5:=blk_frozen BK101.out 5))
  go_ret
  exact⟨vE,by repeat (first|(with_reducible first|exact HB.out|apply below_alloc|apply pw_below_drewN|apply below_drew1|refine below_set ?_ GE101.out)|exact HB.out)⟩
 ·rw[if_neg c2]at H
  have c2b0:decide (2147483647<(a0_1.size:Int))=false:=decide_eq_false c2;have c2b1:decide (2147483647<a0_1.size)=false:=decide_eq_false (by omega)
  clear c2
  by_cases c5:(a0_2.size:Int)>2147483647
  ·rw[if_pos c5]at H
   have c5b0:decide (2147483647<(a0_2.size:Int))=true:=decide_eq_true c5;have c5b1:decide (2147483647<a0_2.size)=true:=decide_eq_true (by omega)
   clear c5;obtain rfl:=Option.some.inj H;go_enter Tryz.func11,Tryz.ntmps11
   go_wp2_with (first|((with_reducible refine gate_dst (N:=1) rfl ?_);refine box_event ?hg (N:=1) ?hd (cs:=#[.int .i64 a0_0,.string a0_1,.string a0_2,.string a0_3,.int .i64 a0_4,.int .i64 a0_5]) (t:=35) ?hr ?_;(case hd=>rfl);(case hg=>rfl);(case hr=>first|(go_simp;done)|(go_simp;rfl));intro gb101 hg w6 hbox hb;have n0_:=aK (below_step vB hb);have n1_:=aK (hbox);have n2_:=aK ((by rw[hg];exact(below_size vB):w.heap.size≤gb101));have n3_:=aK ((by rw[hg];exact(below_size vB):w.heap.size≤gb101));clear HB;have HB:=n0_;have BK101:=n1_;have GW101:=n2_;have GE101:=n3_;clear n0_ n1_ n2_ n3_;clear hb hbox hg;have hcz7_0:w6.cell? ⟨gb101,0,none⟩=some (.int .i64 a0_0):=(blk_cell BK101.out 0).trans rfl;have hcz7_1:w6.cell? ⟨gb101,1,none⟩=some (.string a0_1):=(blk_cell BK101.out 1).trans rfl;have hcz7_2:w6.cell? ⟨gb101,2,none⟩=some (.string a0_2):=(blk_cell BK101.out 2).trans rfl;have hcz7_3:w6.cell? ⟨gb101,3,none⟩=some (.string a0_3):=(blk_cell BK101.out 3).trans rfl;have hcz7_4:w6.cell? ⟨gb101,4,none⟩=some (.int .i64 a0_4):=(blk_cell BK101.out 4).trans rfl;have hcz7_5:w6.cell? ⟨gb101,5,none⟩=some (.int .i64 a0_5):=(blk_cell BK101.out 5).trans rfl;have hfz7_0:=blk_frozen BK101.out 0;have hfz7_1:=blk_frozen BK101.out 1;have hfz7_2:=blk_frozen BK101.out 2;have hfz7_3:=blk_frozen BK101.out 3;have hfz7_4:=blk_frozen BK101.out 4;have hfz7_5:=blk_frozen BK101.out 5))
   go_ret
   exact⟨vE,by repeat (first|(with_reducible first|exact HB.out|apply below_alloc|apply pw_below_drewN|apply below_drew1|refine below_set ?_ GE101.out)|exact HB.out)⟩
  ·rw[if_neg c5]at H
   have c5b0:decide (2147483647<(a0_2.size:Int))=false:=decide_eq_false c5;have c5b1:decide (2147483647<a0_2.size)=false:=decide_eq_false (by omega)
   clear c5
   by_cases c8:(a0_3.size:Int)>2147483647
   ·rw[if_pos c8]at H
    have c8b0:decide (2147483647<(a0_3.size:Int))=true:=decide_eq_true c8;have c8b1:decide (2147483647<a0_3.size)=true:=decide_eq_true (by omega)
    clear c8;obtain rfl:=Option.some.inj H;go_enter Tryz.func11,Tryz.ntmps11
    go_wp2_with (first|((with_reducible refine gate_dst (N:=1) rfl ?_);refine box_event ?hg (N:=1) ?hd (cs:=#[.int .i64 a0_0,.string a0_1,.string a0_2,.string a0_3,.int .i64 a0_4,.int .i64 a0_5]) (t:=35) ?hr ?_;(case hd=>rfl);(case hg=>rfl);(case hr=>first|(go_simp;done)|(go_simp;rfl));intro gb101 hg w9 hbox hb;have n0_:=aK (below_step vB hb);have n1_:=aK (hbox);have n2_:=aK ((by rw[hg];exact(below_size vB):w.heap.size≤gb101));have n3_:=aK ((by rw[hg];exact(below_size vB):w.heap.size≤gb101));clear HB;have HB:=n0_;have BK101:=n1_;have GW101:=n2_;have GE101:=n3_;clear n0_ n1_ n2_ n3_;clear hb hbox hg;have hcz10_0:w9.cell? ⟨gb101,0,none⟩=some (.int .i64 a0_0):=(blk_cell BK101.out 0).trans rfl;have hcz10_1:w9.cell? ⟨gb101,1,none⟩=some (.string a0_1):=(blk_cell BK101.out 1).trans rfl;have hcz10_2:w9.cell? ⟨gb101,2,none⟩=some (.string a0_2):=(blk_cell BK101.out 2).trans rfl;have hcz10_3:w9.cell? ⟨gb101,3,none⟩=some (.string a0_3):=(blk_cell BK101.out 3).trans rfl;have hcz10_4:w9.cell? ⟨gb101,4,none⟩=some (.int .i64 a0_4):=(blk_cell BK101.out 4).trans rfl;have hcz10_5:w9.cell? ⟨gb101,5,none⟩=some (.int .i64 a0_5):=(blk_cell BK101.out 5).trans rfl;have hfz10_0:=blk_frozen BK101.out 0;have hfz10_1:=blk_frozen BK101.out 1;have hfz10_2:=blk_frozen BK101.out 2;have hfz10_3:=blk_frozen BK101.out 3;have hfz10_4:=blk_frozen BK101.out 4;have hfz10_5:=blk_frozen BK101.out 5))
    go_ret
    exact⟨vE,by repeat (first|(with_reducible first|exact HB.out|apply below_alloc|apply pw_below_drewN|apply below_drew1|refine below_set ?_ GE101.out)|exact HB.out)⟩
   ·rw[if_neg c8]at H
    have c8b0:decide (2147483647<(a0_3.size:Int))=false:=decide_eq_false c8;have c8b1:decide (2147483647<a0_3.size)=false:=decide_eq_false (by omega)
    clear c8;obtain rfl:=Option.some.inj H;go_enter Tryz.func11,Tryz.ntmps11
    go_wp2_with (first|((with_reducible refine gate_dst (N:=1) rfl ?_);refine box_event ?hg (N:=1) ?hd (cs:=#[.int .i64 a0_0,.string a0_1,.string a0_2,.string a0_3,.int .i64 a0_4,.int .i64 a0_5]) (t:=35) ?hr ?_;(case hd=>rfl);(case hg=>rfl);(case hr=>first|(go_simp;done)|(go_simp;rfl));intro gb101 hg w11 hbox hb;have n0_:=aK (below_step vB hb);have n1_:=aK (hbox);have n2_:=aK ((by rw[hg];exact(below_size vB):w.heap.size≤gb101));have n3_:=aK ((by rw[hg];exact(below_size vB):w.heap.size≤gb101));clear HB;have HB:=n0_;have BK101:=n1_;have GW101:=n2_;have GE101:=n3_;clear n0_ n1_ n2_ n3_;clear hb hbox hg;have hcz12_0:w11.cell? ⟨gb101,0,none⟩=some (.int .i64 a0_0):=(blk_cell BK101.out 0).trans rfl;have hcz12_1:w11.cell? ⟨gb101,1,none⟩=some (.string a0_1):=(blk_cell BK101.out 1).trans rfl;have hcz12_2:w11.cell? ⟨gb101,2,none⟩=some (.string a0_2):=(blk_cell BK101.out 2).trans rfl;have hcz12_3:w11.cell? ⟨gb101,3,none⟩=some (.string a0_3):=(blk_cell BK101.out 3).trans rfl;have hcz12_4:w11.cell? ⟨gb101,4,none⟩=some (.int .i64 a0_4):=(blk_cell BK101.out 4).trans rfl;have hcz12_5:w11.cell? ⟨gb101,5,none⟩=some (.int .i64 a0_5):=(blk_cell BK101.out 5).trans rfl;have hfz12_0:=blk_frozen BK101.out 0;have hfz12_1:=blk_frozen BK101.out 1;have hfz12_2:=blk_frozen BK101.out 2;have hfz12_3:=blk_frozen BK101.out 3;have hfz12_4:=blk_frozen BK101.out 4;have hfz12_5:=blk_frozen BK101.out 5))
    go_ret
    exact⟨vE,by repeat (first|(with_reducible first|exact HB.out|apply below_alloc|apply pw_below_drewN|apply below_drew1|refine below_set ?_ GE101.out)|exact HB.out)⟩
def laws_zzFits2.l0:Nat→List (S35)→Int→Int→Option (Bool)
 | 0,_,_,_=>none
 | k+1,x8,x9,x10=>if x10<x9 then(if 0≤x10 then(if x10<(x8.length:Int)then((laws_zzFits3.f ((rd_T35 x8 x10).f0) ((rd_T35 x8 x10).f1) ((rd_T35 x8 x10).f2) ((rd_T35 x8 x10).f3) ((rd_T35 x8 x10).f4) ((rd_T35 x8 x10).f5)).bind fun t104=>(if t104=true then(laws_zzFits2.l0 k x8 x9 (wrap64 (x10+1)))else(some false)))else(none))else(none))else(some true)
def laws_zzFits2.f (k:Nat) (l0:List (S35)):Option (Bool):=if (l0.length:Int)>2147483647 then(some false)else(laws_zzFits2.l0 k l0 (l0.length:Int) 0)
theorem laws_zzFits2.calls (k:Nat) (A0:Option Addr) (c0:Nat) (l0:List (S35)) (r:Bool) (w:World) (hr0:Kd.C k35 w A0 l0.length l0) (hc0:l0.length≤c0) (h:laws_zzFits2.f k l0=some r) :
  Calls Tryz.prog 4 #[.slice A0 l0.length c0] w fun e w'=>e = .returned (.bool r)∧Below w.heap.size w w':=by
 have hu35:=Tryz.underlying35;have HR0:=aK hr0;have HC0:=aK hc0;clear hr0 hc0;have HB:=aK (Below.refl w.heap.size w);have H:(if (l0.length:Int)>2147483647 then(some false)else(laws_zzFits2.l0 k l0 (l0.length:Int) 0))=some r:=h
 clear h
 by_cases c2:(l0.length:Int)>2147483647
 ·rw[if_pos c2]at H
  have c2b0:decide (2147483647<(l0.length:Int))=true:=decide_eq_true c2;have c2b1:decide (2147483647<l0.length)=true:=decide_eq_true (by omega)
  clear c2;obtain rfl:=Option.some.inj H;go_enter Tryz.func4,Tryz.ntmps4;go_wp2
  go_ret
  exact⟨vE,vB⟩
 ·rw[if_neg c2]at H
  have c2b0:decide (2147483647<(l0.length:Int))=false:=decide_eq_false c2;have c2b1:decide (2147483647<l0.length)=false:=decide_eq_false (by omega)
  clear c2;have H':=aK H;clear H;go_enter Tryz.func4,Tryz.ntmps4;go_wp2
  go_loopg [10] k (fun kq v10 w'=>∃(x10_1:Int),v10 = .int .i64 x10_1∧Aside0 (laws_zzFits2.l0 kq l0 (l0.length:Int) x10_1=some r)∧Aside0 (kq≤k)∧Aside0 (Below w.heap.size w w'))
  case atStart=>exact⟨(0),vR,H',⟨Nat.le_refl _⟩,⟨vB⟩⟩
  case round=>
   clear H';obtain⟨x10_1,rfl,HA,HK1,HB⟩:=hrel;cases gk with
   | zero=>exact absurd HA.out (by simp[laws_zzFits2.l0])
   | succ k1=>
    have H:=HA.out;clear HA;simp only[laws_zzFits2.l0]at H
    by_cases c3:x10_1<(l0.length:Int)
    ·rw[if_pos c3]at H
     have c3b0:=decide_eq_true c3;clear c3
     by_cases c4:0≤x10_1
     ·rw[if_pos c4]at H
      have c4b0:=decide_eq_true c4;clear c4
      by_cases c5:x10_1<(l0.length:Int)
      ·rw[if_pos c5]at H
       have c5b0:=decide_eq_true c5;clear c5;replace H:=Option.bind_eq_some_iff.mp H;obtain⟨t104,A60,H⟩:=H
       (try dsimp only at H)
       have A6:=aK A60;clear A60
       by_cases c7:t104=true
       ·subst c7
        rw[if_pos rfl]at H;have H':=aK H;clear H;have p102:0≤(x10_1:Int):=of_decide_eq_true vA;have q102:x10_1<(l0.length:Int):=of_decide_eq_true vA;obtain⟨ad102,e102,hx102_0,hx102_1,hx102_2,hx102_3,hx102_4,hx102_5⟩:=at_T35 HR0.out x10_1 p102 q102;cases e102;replace hx102_0:=(HB.out.cell (World.block_lt_of_cell? w _ hx102_0)).trans hx102_0;replace hx102_1:=(HB.out.cell (World.block_lt_of_cell? w _ hx102_1)).trans hx102_1;replace hx102_2:=(HB.out.cell (World.block_lt_of_cell? w _ hx102_2)).trans hx102_2;replace hx102_3:=(HB.out.cell (World.block_lt_of_cell? w _ hx102_3)).trans hx102_3;replace hx102_4:=(HB.out.cell (World.block_lt_of_cell? w _ hx102_4)).trans hx102_4;replace hx102_5:=(HB.out.cell (World.block_lt_of_cell? w _ hx102_5)).trans hx102_5;replace p102:=eq_true p102;replace q102:=eq_true q102
        go_wp2_with (first|((with_reducible refine gate_dst (N:=4) rfl ?_);refine box_event ?hg (N:=4) ?hd (cs:=#[.int .i64 0,.string (⟨#[]⟩:ByteArray),.string (⟨#[]⟩:ByteArray),.string (⟨#[]⟩:ByteArray),.int .i64 0,.int .i64 0]) (t:=35) ?hr ?_;(case hd=>rfl);(case hg=>rfl);(case hr=>first|(go_simp;done)|(go_simp;rfl));intro gb103 hg w8 hbox hb;have n0_:=aK (below_step vB hb);have n1_:=aK (hbox);have n2_:=aK ((by rw[hg];exact(below_size vB):w.heap.size≤gb103));have n3_:=aK ((by rw[hg];exact(below_size vB):w.heap.size≤gb103));clear HB;have HB:=n0_;have BK103:=n1_;have GW103:=n2_;have GE103:=n3_;clear n0_ n1_ n2_ n3_;clear hb hbox hg;have hcz9_0:w8.cell? ⟨gb103,0,none⟩=some (.int .i64 0):=(blk_cell BK103.out 0).trans rfl;have hcz9_1:w8.cell? ⟨gb103,1,none⟩=some (.string (⟨#[]⟩:ByteArray)):=(blk_cell BK103.out 1).trans rfl;have hcz9_2:w8.cell? ⟨gb103,2,none⟩=some (.string (⟨#[]⟩:ByteArray)):=(blk_cell BK103.out 2).trans rfl;have hcz9_3:w8.cell? ⟨gb103,3,none⟩=some (.string (⟨#[]⟩:ByteArray)):=(blk_cell BK103.out 3).trans rfl;have hcz9_4:w8.cell? ⟨gb103,4,none⟩=some (.int .i64 0):=(blk_cell BK103.out 4).trans rfl;have hcz9_5:w8.cell? ⟨gb103,5,none⟩=some (.int .i64 0):=(blk_cell BK103.out 5).trans rfl;have hfz9_0:=blk_frozen BK103.out 0;have hfz9_1:=blk_frozen BK103.out 1;have hfz9_2:=blk_frozen BK103.out 2;have hfz9_3:=blk_frozen BK103.out 3;have hfz9_4:=blk_frozen BK103.out 4;have hfz9_5:=blk_frozen BK103.out 5)|((with_reducible refine gate_callee (f:=11) rfl ?_);refine goesL_ (some 15) rfl rfl Tryz.func11 (by kernel_rfl) rfl #[.agg #[.int .i64 ((rd_T35 l0 x10_1).f0),.string ((rd_T35 l0 x10_1).f1),.string ((rd_T35 l0 x10_1).f2),.string ((rd_T35 l0 x10_1).f3),.int .i64 ((rd_T35 l0 x10_1).f4),.int .i64 ((rd_T35 l0 x10_1).f5)]] rfl (by(try simp only[List.map_toArray,List.map_cons,List.map_nil]);first|done|rfl|(simp only[List.length_drop,List.length_take];rfl)) ?_;(with_reducible refine(laws_zzFits3.calls ((rd_T35 l0 x10_1).f0) ((rd_T35 l0 x10_1).f1) ((rd_T35 l0 x10_1).f2) ((rd_T35 l0 x10_1).f3) ((rd_T35 l0 x10_1).f4) ((rd_T35 l0 x10_1).f5) true _ A6.out).mono ?_);rintro e w10 ⟨rfl,hb⟩;refine⟨_,rfl,?_⟩;have n0_:=aK (blk_below (g:=gb103) (o:=.cells #[.int .i64 ((rd_T35 l0 x10_1).f0),.string ((rd_T35 l0 x10_1).f1),.string ((rd_T35 l0 x10_1).f2),.string ((rd_T35 l0 x10_1).f3),.int .i64 ((rd_T35 l0 x10_1).f4),.int .i64 ((rd_T35 l0 x10_1).f5)] 35 (0,0)) (by(with_reducible repeat (first|refine blk_drewN ?_ _|refine blk_drew ?_|refine blk_alloc ?_ _));refine blk_put (cs:=#[.int .i64 ((rd_T35 l0 x10_1).f0),.string ((rd_T35 l0 x10_1).f1),.string ((rd_T35 l0 x10_1).f2),.string ((rd_T35 l0 x10_1).f3),.int .i64 ((rd_T35 l0 x10_1).f4),.int .i64 0]) ?_ 5 _ rfl;(with_reducible repeat (first|refine blk_drewN ?_ _|refine blk_drew ?_|refine blk_alloc ?_ _));refine blk_put (cs:=#[.int .i64 ((rd_T35 l0 x10_1).f0),.string ((rd_T35 l0 x10_1).f1),.string ((rd_T35 l0 x10_1).f2),.string ((rd_T35 l0 x10_1).f3),.int .i64 0,.int .i64 0]) ?_ 4 _ rfl;(with_reducible repeat (first|refine blk_drewN ?_ _|refine blk_drew ?_|refine blk_alloc ?_ _));refine blk_put (cs:=#[.int .i64 ((rd_T35 l0 x10_1).f0),.string ((rd_T35 l0 x10_1).f1),.string ((rd_T35 l0 x10_1).f2),.string (⟨#[]⟩:ByteArray),.int .i64 0,.int .i64 0]) ?_ 3 _ rfl;(with_reducible repeat (first|refine blk_drewN ?_ _|refine blk_drew ?_|refine blk_alloc ?_ _));refine blk_put (cs:=#[.int .i64 ((rd_T35 l0 x10_1).f0),.string ((rd_T35 l0 x10_1).f1),.string (⟨#[]⟩:ByteArray),.string (⟨#[]⟩:ByteArray),.int .i64 0,.int .i64 0]) ?_ 2 _ rfl;(with_reducible repeat (first|refine blk_drewN ?_ _|refine blk_drew ?_|refine blk_alloc ?_ _));refine blk_put (cs:=#[.int .i64 ((rd_T35 l0 x10_1).f0),.string (⟨#[]⟩:ByteArray),.string (⟨#[]⟩:ByteArray),.string (⟨#[]⟩:ByteArray),.int .i64 0,.int .i64 0]) ?_ 1 _ rfl;(with_reducible repeat (first|refine blk_drewN ?_ _|refine blk_drew ?_|refine blk_alloc ?_ _));refine blk_put (cs:=#[.int .i64 0,.string (⟨#[]⟩:ByteArray),.string (⟨#[]⟩:ByteArray),.string (⟨#[]⟩:ByteArray),.int .i64 0,.int .i64 0]) ?_ 0 _ rfl;(with_reducible repeat (first|refine blk_drewN ?_ _|refine blk_drew ?_|refine blk_alloc ?_ _));exact BK103.out) hb);have n1_:=aK (below_step (by repeat (first|(with_reducible first|exact HB.out|apply below_alloc|apply pw_below_drewN|apply below_drew1|refine below_set ?_ GE103.out)|exact HB.out)) hb);clear BK103;clear HB;have BK103:=n0_;have HB:=n1_;clear n0_ n1_;(try clear hb);(try clear hb2);(try clear hk);(try clear hi)))
        go_roundg k1
        case measure=>have:=HK1.out;omega
        case rel=>exact⟨(wrap64 (x10_1+1)),vR,H',⟨by have:=HK1.out;omega⟩,⟨by repeat (first|(with_reducible first|exact HB.out|apply below_alloc|apply pw_below_drewN|apply below_drew1|refine below_set ?_ GE103.out)|exact HB.out)⟩⟩
       ·replace c7:=Bool.eq_false_iff.mpr c7
        subst c7;rw[if_neg (show ¬(false=true) by decide)]at H
        obtain rfl:=Option.some.inj H;have p102:0≤(x10_1:Int):=of_decide_eq_true vA;have q102:x10_1<(l0.length:Int):=of_decide_eq_true vA;obtain⟨ad102,e102,hx102_0,hx102_1,hx102_2,hx102_3,hx102_4,hx102_5⟩:=at_T35 HR0.out x10_1 p102 q102;cases e102;replace hx102_0:=(HB.out.cell (World.block_lt_of_cell? w _ hx102_0)).trans hx102_0;replace hx102_1:=(HB.out.cell (World.block_lt_of_cell? w _ hx102_1)).trans hx102_1;replace hx102_2:=(HB.out.cell (World.block_lt_of_cell? w _ hx102_2)).trans hx102_2;replace hx102_3:=(HB.out.cell (World.block_lt_of_cell? w _ hx102_3)).trans hx102_3;replace hx102_4:=(HB.out.cell (World.block_lt_of_cell? w _ hx102_4)).trans hx102_4;replace hx102_5:=(HB.out.cell (World.block_lt_of_cell? w _ hx102_5)).trans hx102_5;replace p102:=eq_true p102;replace q102:=eq_true q102
        go_wp2_with (first|((with_reducible refine gate_dst (N:=4) rfl ?_);refine box_event ?hg (N:=4) ?hd (cs:=#[.int .i64 0,.string (⟨#[]⟩:ByteArray),.string (⟨#[]⟩:ByteArray),.string (⟨#[]⟩:ByteArray),.int .i64 0,.int .i64 0]) (t:=35) ?hr ?_;(case hd=>rfl);(case hg=>rfl);(case hr=>first|(go_simp;done)|(go_simp;rfl));intro gb103 hg w11 hbox hb;have n0_:=aK (below_step vB hb);have n1_:=aK (hbox);have n2_:=aK ((by rw[hg];exact(below_size vB):w.heap.size≤gb103));have n3_:=aK ((by rw[hg];exact(below_size vB):w.heap.size≤gb103));clear HB;have HB:=n0_;have BK103:=n1_;have GW103:=n2_;have GE103:=n3_;clear n0_ n1_ n2_ n3_;clear hb hbox hg;have hcz12_0:w11.cell? ⟨gb103,0,none⟩=some (.int .i64 0):=(blk_cell BK103.out 0).trans rfl;have hcz12_1:w11.cell? ⟨gb103,1,none⟩=some (.string (⟨#[]⟩:ByteArray)):=(blk_cell BK103.out 1).trans rfl;have hcz12_2:w11.cell? ⟨gb103,2,none⟩=some (.string (⟨#[]⟩:ByteArray)):=(blk_cell BK103.out 2).trans rfl;have hcz12_3:w11.cell? ⟨gb103,3,none⟩=some (.string (⟨#[]⟩:ByteArray)):=(blk_cell BK103.out 3).trans rfl;have hcz12_4:w11.cell? ⟨gb103,4,none⟩=some (.int .i64 0):=(blk_cell BK103.out 4).trans rfl;have hcz12_5:w11.cell? ⟨gb103,5,none⟩=some (.int .i64 0):=(blk_cell BK103.out 5).trans rfl;have hfz12_0:=blk_frozen BK103.out 0;have hfz12_1:=blk_frozen BK103.out 1;have hfz12_2:=blk_frozen BK103.out 2;have hfz12_3:=blk_frozen BK103.out 3;have hfz12_4:=blk_frozen BK103.out 4;have hfz12_5:=blk_frozen BK103.out 5)|((with_reducible refine gate_callee (f:=11) rfl ?_);refine goesL_ (some 15) rfl rfl Tryz.func11 (by kernel_rfl) rfl #[.agg #[.int .i64 ((rd_T35 l0 x10_1).f0),.string ((rd_T35 l0 x10_1).f1),.string ((rd_T35 l0 x10_1).f2),.string ((rd_T35 l0 x10_1).f3),.int .i64 ((rd_T35 l0 x10_1).f4),.int .i64 ((rd_T35 l0 x10_1).f5)]] rfl (by(try simp only[List.map_toArray,List.map_cons,List.map_nil]);first|done|rfl|(simp only[List.length_drop,List.length_take];rfl)) ?_;(with_reducible refine(laws_zzFits3.calls ((rd_T35 l0 x10_1).f0) ((rd_T35 l0 x10_1).f1) ((rd_T35 l0 x10_1).f2) ((rd_T35 l0 x10_1).f3) ((rd_T35 l0 x10_1).f4) ((rd_T35 l0 x10_1).f5) false _ A6.out).mono ?_);rintro e w13 ⟨rfl,hb⟩;refine⟨_,rfl,?_⟩;have n0_:=aK (blk_below (g:=gb103) (o:=.cells #[.int .i64 ((rd_T35 l0 x10_1).f0),.string ((rd_T35 l0 x10_1).f1),.string ((rd_T35 l0 x10_1).f2),.string ((rd_T35 l0 x10_1).f3),.int .i64 ((rd_T35 l0 x10_1).f4),.int .i64 ((rd_T35 l0 x10_1).f5)] 35 (0,0)) (by(with_reducible repeat (first|refine blk_drewN ?_ _|refine blk_drew ?_|refine blk_alloc ?_ _));refine blk_put (cs:=#[.int .i64 ((rd_T35 l0 x10_1).f0),.string ((rd_T35 l0 x10_1).f1),.string ((rd_T35 l0 x10_1).f2),.string ((rd_T35 l0 x10_1).f3),.int .i64 ((rd_T35 l0 x10_1).f4),.int .i64 0]) ?_ 5 _ rfl;(with_reducible repeat (first|refine blk_drewN ?_ _|refine blk_drew ?_|refine blk_alloc ?_ _));refine blk_put (cs:=#[.int .i64 ((rd_T35 l0 x10_1).f0),.string ((rd_T35 l0 x10_1).f1),.string ((rd_T35 l0 x10_1).f2),.string ((rd_T35 l0 x10_1).f3),.int .i64 0,.int .i64 0]) ?_ 4 _ rfl;(with_reducible repeat (first|refine blk_drewN ?_ _|refine blk_drew ?_|refine blk_alloc ?_ _));refine blk_put (cs:=#[.int .i64 ((rd_T35 l0 x10_1).f0),.string ((rd_T35 l0 x10_1).f1),.string ((rd_T35 l0 x10_1).f2),.string (⟨#[]⟩:ByteArray),.int .i64 0,.int .i64 0]) ?_ 3 _ rfl;(with_reducible repeat (first|refine blk_drewN ?_ _|refine blk_drew ?_|refine blk_alloc ?_ _));refine blk_put (cs:=#[.int .i64 ((rd_T35 l0 x10_1).f0),.string ((rd_T35 l0 x10_1).f1),.string (⟨#[]⟩:ByteArray),.string (⟨#[]⟩:ByteArray),.int .i64 0,.int .i64 0]) ?_ 2 _ rfl;(with_reducible repeat (first|refine blk_drewN ?_ _|refine blk_drew ?_|refine blk_alloc ?_ _));refine blk_put (cs:=#[.int .i64 ((rd_T35 l0 x10_1).f0),.string (⟨#[]⟩:ByteArray),.string (⟨#[]⟩:ByteArray),.string (⟨#[]⟩:ByteArray),.int .i64 0,.int .i64 0]) ?_ 1 _ rfl;(with_reducible repeat (first|refine blk_drewN ?_ _|refine blk_drew ?_|refine blk_alloc ?_ _));refine blk_put (cs:=#[.int .i64 0,.string (⟨#[]⟩:ByteArray),.string (⟨#[]⟩:ByteArray),.string (⟨#[]⟩:ByteArray),.int .i64 0,.int .i64 0]) ?_ 0 _ rfl;(with_reducible repeat (first|refine blk_drewN ?_ _|refine blk_drew ?_|refine blk_alloc ?_ _));exact BK103.out) hb);have n1_:=aK (below_step (by repeat (first|(with_reducible first|exact HB.out|apply below_alloc|apply pw_below_drewN|apply below_drew1|refine below_set ?_ GE103.out)|exact HB.out)) hb);clear BK103;clear HB;have BK103:=n0_;have HB:=n1_;clear n0_ n1_;(try clear hb);(try clear hb2);(try clear hk);(try clear hi)))
        go_ret
        exact⟨vE,by repeat (first|(with_reducible first|exact HB.out|apply below_alloc|apply pw_below_drewN|apply below_drew1|refine below_set ?_ GE103.out)|exact HB.out)⟩
      ·rw[if_neg c5]at H
       exact absurd H (by simp)
     ·rw[if_neg c4]at H
      exact absurd H (by simp)
    ·rw[if_neg c3]at H
     have c3b0:=decide_eq_false c3;clear c3;obtain rfl:=Option.some.inj H;go_wp2
     go_ret
     exact⟨vE,vB⟩
mutual
def spec_sized.j0:Nat→List (S35)→Int→Int→Int→Bool→Option (Bool)
 | 0,_,_,_,_,_=>none
 | k+1,x0,x1,x3,x9,x28=>if x28=true then(some false)else(spec_sized.l0 k x0 x1 x3 x9 (wrap64 (x1+1)))
def spec_sized.l0:Nat→List (S35)→Int→Int→Int→Int→Option (Bool)
 | 0,_,_,_,_,_=>none
 | k+1,x0,x1,x3,x9,x10=>if x10<(wrap64 (x1+x9))then((spec_sized.f k x0 x10 (wrap64 (x1+x9)) (wrap64 (x3+1))).bind fun t106=>(if t106=true then(if 0≤x10 then(if x10<(x0.length:Int)then(spec_sized.l0 k x0 x1 x3 x9 (wrap64 (x10+((rd_T35 x0 x10).f5))))else(none))else(none))else(some false)))else(some true)
def spec_sized.f:Nat→List (S35)→Int→Int→Int→Option (Bool)
 | 0,_,_,_,_=>none
 | k+1,l0,a1,a2,a3=>if 0≤a1 then(if a1<(l0.length:Int)then(if ((rd_T35 l0 a1).f5)<1 then(spec_sized.j0 k l0 a1 a3 ((rd_T35 l0 a1).f5) true)else(if ((rd_T35 l0 a1).f5)>(wrap64 (a2-a1))then(spec_sized.j0 k l0 a1 a3 ((rd_T35 l0 a1).f5) true)else(spec_sized.j0 k l0 a1 a3 ((rd_T35 l0 a1).f5) (decide (a3>40)))))else(none))else(none)
end
theorem spec_sized.calls (k:Nat):∀(A0:Option Addr) (c0:Nat) (l0:List (S35)) (a1:Int) (a2:Int) (a3:Int) (r:Bool) (w:World) (hr0:Kd.C k35 w A0 l0.length l0) (hc0:l0.length≤c0) (h:spec_sized.f k l0 a1 a2 a3=some r),
  Calls Tryz.prog 18 #[.slice A0 l0.length c0,.int .i64 a1,.int .i64 a2,.int .i64 a3] w fun e w'=>e = .returned (.bool r)∧Drawn0 w w':=by
 induction k using Nat.strongRecOn with
 | _ k ih=>
 intro A0 c0 l0 a1 a2 a3 r w hr0 hc0 h;cases k with
 | zero=>exact absurd h (by simp[spec_sized.f])
 | succ k=>
 simp only[spec_sized.f]at h;have HR0:=aK hr0;have HC0:=aK hc0;clear hr0 hc0;have H:(if 0≤a1 then(if a1<(l0.length:Int)then(if ((rd_T35 l0 a1).f5)<1 then(spec_sized.j0 k l0 a1 a3 ((rd_T35 l0 a1).f5) true)else(if ((rd_T35 l0 a1).f5)>(wrap64 (a2-a1))then(spec_sized.j0 k l0 a1 a3 ((rd_T35 l0 a1).f5) true)else(spec_sized.j0 k l0 a1 a3 ((rd_T35 l0 a1).f5) (decide (a3>40)))))else(none))else(none))=some r:=h
 clear h
 by_cases c5:0≤a1
 ·rw[if_pos c5]at H
  have c5b0:=decide_eq_true c5;clear c5
  by_cases c6:a1<(l0.length:Int)
  ·rw[if_pos c6]at H
   have c6b0:=decide_eq_true c6;clear c6;have HC7:=aK H;clear H;have p105:0≤(a1:Int):=of_decide_eq_true vA;have q105:a1<(l0.length:Int):=of_decide_eq_true vA;obtain⟨ad105,e105,hx105_0,hx105_1,hx105_2,hx105_3,hx105_4,hx105_5⟩:=at_T35 HR0.out a1 p105 q105;cases e105;replace p105:=eq_true p105;replace q105:=eq_true q105;go_enter Tryz.func18,Tryz.ntmps18
   go_upto_region 2 with(fail)
   go_cut [28] (fun v28 wc=>∃(kq:Nat) (x28_6:Bool),v28 = .bool x28_6∧Aside0 (spec_sized.j0 kq l0 a1 a3 ((rd_T35 l0 a1).f5) x28_6=some r)∧Aside0 (kq≤k)∧Drawn0 w wc)
   case first=>
    have H:=HC7.out;clear HC7
    by_cases c8:((rd_T35 l0 a1).f5)<1
    ·rw[if_pos c8]at H
     have c8b0:=decide_eq_true c8;clear c8
     (first|rw[c8b0]|(simp only[i64_w,i32_w];rw[c8b0])|skip)
     have H':=aK H;clear H;go_wp2
     go_meet
     case rel=>exact⟨_,(true),vR,H',⟨by first|omega|exact Nat.le_refl _⟩,vD⟩
    ·rw[if_neg c8]at H
     have c8b0:=decide_eq_false c8;clear c8
     (first|rw[c8b0]|(simp only[i64_w,i32_w];rw[c8b0])|skip)
     by_cases c9:((rd_T35 l0 a1).f5)>(wrap64 (a2-a1))
     ·rw[if_pos c9]at H
      have c9b0:decide ((wrap64 (a2-a1))<((rd_T35 l0 a1).f5))=true:=decide_eq_true c9;clear c9;have H':=aK H;clear H;go_wp2
      go_meet
      case rel=>exact⟨_,(true),vR,H',⟨by first|omega|exact Nat.le_refl _⟩,vD⟩
     ·rw[if_neg c9]at H
      have c9b0:decide ((wrap64 (a2-a1))<((rd_T35 l0 a1).f5))=false:=decide_eq_false c9;clear c9;have H':=aK H;clear H;go_wp2
      go_meet
      case rel=>exact⟨_,(decide (a3>40)),vR,H',⟨by first|omega|exact Nat.le_refl _⟩,vD⟩
   case rest=>
    clear HC7;obtain⟨kq,x28_6,rfl,HA,HJ6,⟨mc6,rfl⟩⟩:=hcut;cases kq with
    | zero=>exact absurd HA.out (by simp[spec_sized.j0])
    | succ kj6=>
     have H:=HA.out;clear HA;simp only[spec_sized.j0]at H
     by_cases c10:x28_6=true
     ·subst c10
      rw[if_pos rfl]at H;obtain rfl:=Option.some.inj H;go_wp2
      go_ret
      exact⟨vR,vD⟩
     ·replace c10:=Bool.eq_false_iff.mpr c10
      subst c10;rw[if_neg (show ¬(false=true) by decide)]at H
      have H':=aK H;clear H;go_wp2
      go_loopg [10] kj6 (fun kq v10 w'=>∃(x10_2:Int),v10 = .int .i64 x10_2∧Aside0 (spec_sized.l0 kq l0 a1 a3 ((rd_T35 l0 a1).f5) x10_2=some r)∧Aside0 (kq≤kj6)∧Drawn0 w w')
      case atStart=>exact⟨(wrap64 (a1+1)),vR,H',⟨Nat.le_refl _⟩,vD⟩
      case round=>
       clear H';obtain⟨x10_2,rfl,HA,HK2,⟨m2,rfl⟩⟩:=hrel;cases gk with
       | zero=>exact absurd HA.out (by simp[spec_sized.l0])
       | succ k2=>
        have H:=HA.out;clear HA;simp only[spec_sized.l0]at H
        by_cases c11:x10_2<(wrap64 (a1+((rd_T35 l0 a1).f5)))
        ·rw[if_pos c11]at H
         have c11b0:=decide_eq_true c11;clear c11;replace H:=Option.bind_eq_some_iff.mp H;obtain⟨t106,A120,H⟩:=H
         (try dsimp only at H)
         have A12:=aK A120;clear A120
         by_cases c13:t106=true
         ·subst c13
          rw[if_pos rfl]at H
          by_cases c14:0≤x10_2
          ·rw[if_pos c14]at H
           have c14b0:=decide_eq_true c14;clear c14
           by_cases c15:x10_2<(l0.length:Int)
           ·rw[if_pos c15]at H
            have c15b0:=decide_eq_true c15;clear c15;have H':=aK H;clear H
            go_wp2_with (first|((with_reducible refine gate_callee (f:=18) rfl ?_);refine goesL_ (some 43) rfl rfl Tryz.func18 (by kernel_rfl) rfl #[.slice (some ad105) l0.length c0,.int .i64 x10_2,.int .i64 (wrap64 (a1+((rd_T35 l0 a1).f5))),.int .i64 (wrap64 (a3+1))] rfl (by(try simp only[List.map_toArray,List.map_cons,List.map_nil]);first|done|rfl|(simp only[List.length_drop,List.length_take];rfl)) ?_;(with_reducible refine(ih k2 (by have:=HJ6.out;have:=HK2.out;omega) _ _ l0 x10_2 (wrap64 (a1+((rd_T35 l0 a1).f5))) (wrap64 (a3+1)) true _ ?side1 ?side2 A12.out).mono ?_);(case side1=>repeat (first|exact HR0.out|(with_reducible refine Kd.C_alloc ?_ _)|(with_reducible refine Kd.C_drewN ?_ _)|(with_reducible refine Kd.C_drew ?_)));(case side2=>exact HC0.out);rintro e w' ⟨rfl,⟨nd,rfl⟩⟩;refine⟨_,rfl,?_⟩;have p107:0≤(x10_2:Int):=of_decide_eq_true vA;have q107:x10_2<(l0.length:Int):=of_decide_eq_true vA;obtain⟨ad107,e107,hx107_0,hx107_1,hx107_2,hx107_3,hx107_4,hx107_5⟩:=at_T35 HR0.out x10_2 p107 q107;obtain rfl:ad105=ad107:=(by injection e107);replace p107:=eq_true p107;replace q107:=eq_true q107))
            go_roundg k2
            case measure=>have:=HJ6.out;have:=HK2.out;omega
            case rel=>exact⟨(wrap64 (x10_2+((rd_T35 l0 x10_2).f5))),vR,H',⟨by have:=HJ6.out;have:=HK2.out;omega⟩,vD⟩
           ·rw[if_neg c15]at H
            exact absurd H (by simp)
          ·rw[if_neg c14]at H
           exact absurd H (by simp)
         ·replace c13:=Bool.eq_false_iff.mpr c13
          subst c13;rw[if_neg (show ¬(false=true) by decide)]at H
          obtain rfl:=Option.some.inj H
          go_wp2_with (first|((with_reducible refine gate_callee (f:=18) rfl ?_);refine goesL_ (some 43) rfl rfl Tryz.func18 (by kernel_rfl) rfl #[.slice (some ad105) l0.length c0,.int .i64 x10_2,.int .i64 (wrap64 (a1+((rd_T35 l0 a1).f5))),.int .i64 (wrap64 (a3+1))] rfl (by(try simp only[List.map_toArray,List.map_cons,List.map_nil]);first|done|rfl|(simp only[List.length_drop,List.length_take];rfl)) ?_;(with_reducible refine(ih k2 (by have:=HJ6.out;have:=HK2.out;omega) _ _ l0 x10_2 (wrap64 (a1+((rd_T35 l0 a1).f5))) (wrap64 (a3+1)) false _ ?side1 ?side2 A12.out).mono ?_);(case side1=>repeat (first|exact HR0.out|(with_reducible refine Kd.C_alloc ?_ _)|(with_reducible refine Kd.C_drewN ?_ _)|(with_reducible refine Kd.C_drew ?_)));(case side2=>exact HC0.out);rintro e w' ⟨rfl,⟨nd,rfl⟩⟩;refine⟨_,rfl,?_⟩))
          go_ret
          exact⟨vR,vD⟩
        ·rw[if_neg c11]at H
         have c11b0:=decide_eq_false c11;clear c11;obtain rfl:=Option.some.inj H;go_wp2
         go_ret
         exact⟨vR,vD⟩
  ·rw[if_neg c6]at H
   exact absurd H (by simp)
 ·rw[if_neg c5]at H
  exact absurd H (by simp)
def spec_isBegin.f (a0:Int):Option (Bool):=if a0≥97 then(if a0≤122 then(some true)else(if a0≥65 then(if a0≤90 then(some true)else(some (a0==95)))else(some (a0==95))))else(if a0≥65 then(if a0≤90 then(some true)else(some (a0==95)))else(some (a0==95)))
theorem spec_isBegin.calls (a0:Int) (r:Bool) (w:World) (h:spec_isBegin.f a0=some r) :
  Calls Tryz.prog 32 #[.int .u8 a0] w fun e w'=>e = .returned (.bool r)∧Drawn0 w w':=by
 have H:(if a0≥97 then(if a0≤122 then(some true)else(if a0≥65 then(if a0≤90 then(some true)else(some (a0==95)))else(some (a0==95))))else(if a0≥65 then(if a0≤90 then(some true)else(some (a0==95)))else(some (a0==95))))=some r:=h
 clear h
 by_cases c2:a0≥97
 ·rw[if_pos c2]at H
  have c2b0:decide (97≤a0)=true:=decide_eq_true c2;clear c2
  by_cases c3:a0≤122
  ·rw[if_pos c3]at H
   have c3b0:=decide_eq_true c3;clear c3;obtain rfl:=Option.some.inj H;go_enter Tryz.func32,Tryz.ntmps32;go_wp2
   go_ret
   exact⟨vR,vD⟩
  ·rw[if_neg c3]at H
   have c3b0:=decide_eq_false c3;clear c3
   by_cases c4:a0≥65
   ·rw[if_pos c4]at H
    have c4b0:decide (65≤a0)=true:=decide_eq_true c4;clear c4
    by_cases c5:a0≤90
    ·rw[if_pos c5]at H
     have c5b0:=decide_eq_true c5;clear c5;obtain rfl:=Option.some.inj H;go_enter Tryz.func32,Tryz.ntmps32;go_wp2
     go_ret
     exact⟨vR,vD⟩
    ·rw[if_neg c5]at H
     have c5b0:=decide_eq_false c5;clear c5;obtain rfl:=Option.some.inj H;go_enter Tryz.func32,Tryz.ntmps32;go_wp2
     go_ret
     exact⟨vR,vD⟩
   ·rw[if_neg c4]at H
    have c4b0:decide (65≤a0)=false:=decide_eq_false c4;clear c4;obtain rfl:=Option.some.inj H;go_enter Tryz.func32,Tryz.ntmps32;go_wp2
    go_ret
    exact⟨vR,vD⟩
 ·rw[if_neg c2]at H
  have c2b0:decide (97≤a0)=false:=decide_eq_false c2;clear c2
  by_cases c6:a0≥65
  ·rw[if_pos c6]at H
   have c6b0:decide (65≤a0)=true:=decide_eq_true c6;clear c6
   by_cases c7:a0≤90
   ·rw[if_pos c7]at H
    have c7b0:=decide_eq_true c7;clear c7;obtain rfl:=Option.some.inj H;go_enter Tryz.func32,Tryz.ntmps32;go_wp2
    go_ret
    exact⟨vR,vD⟩
   ·rw[if_neg c7]at H
    have c7b0:=decide_eq_false c7;clear c7;obtain rfl:=Option.some.inj H;go_enter Tryz.func32,Tryz.ntmps32;go_wp2
    go_ret
    exact⟨vR,vD⟩
  ·rw[if_neg c6]at H
   have c6b0:decide (65≤a0)=false:=decide_eq_false c6;clear c6;obtain rfl:=Option.some.inj H;go_enter Tryz.func32,Tryz.ntmps32;go_wp2
   go_ret
   exact⟨vR,vD⟩
def spec_isDigit.f (a0:Int):Option (Bool):=if a0≥48 then(some (decide (a0≤57)))else(some false)
theorem spec_isDigit.calls (a0:Int) (r:Bool) (w:World) (h:spec_isDigit.f a0=some r) :
  Calls Tryz.prog 33 #[.int .u8 a0] w fun e w'=>e = .returned (.bool r)∧Drawn0 w w':=by
 have H:(if a0≥48 then(some (decide (a0≤57)))else(some false))=some r:=h
 clear h
 by_cases c2:a0≥48
 ·rw[if_pos c2]at H
  have c2b0:decide (48≤a0)=true:=decide_eq_true c2;clear c2;obtain rfl:=Option.some.inj H;go_enter Tryz.func33,Tryz.ntmps33;go_wp2
  go_ret
  exact⟨vR,vD⟩
 ·rw[if_neg c2]at H
  have c2b0:decide (48≤a0)=false:=decide_eq_false c2;clear c2;obtain rfl:=Option.some.inj H;go_enter Tryz.func33,Tryz.ntmps33;go_wp2
  go_ret
  exact⟨vR,vD⟩
def spec_IsName.l0:Nat→ByteArray→Int→Option (Bool)
 | 0,_,_=>none
 | k+1,x0,x3=>if x3<(x0.size:Int)then(if 0≤x3 then((spec_isBegin.f (bt x0 x3)).bind fun t108=>(if t108=true then(spec_IsName.l0 k x0 (wrap64 (x3+1)))else(if x3=0 then(some false)else((spec_isDigit.f (bt x0 x3)).bind fun t109=>(if t109=true then(spec_IsName.l0 k x0 (wrap64 (x3+1)))else(some false))))))else(none))else(some (x0.toList != ([]:List UInt8)))
def spec_IsName.f (k:Nat) (a0:ByteArray):Option (Bool):=spec_IsName.l0 k a0 0
theorem spec_IsName.calls (k:Nat) (a0:ByteArray) (r:Bool) (w:World) (h:spec_IsName.f k a0=some r) :
  Calls Tryz.prog 34 #[.string a0] w fun e w'=>e = .returned (.bool r)∧Drawn0 w w':=by
 have H:(spec_IsName.l0 k a0 0)=some r:=h;clear h;have H':=aK H;clear H;go_enter Tryz.func34,Tryz.ntmps34;go_wp2
 go_loopg [3] k (fun kq v3 w'=>∃(x3_1:Int),v3 = .int .i64 x3_1∧Aside0 (spec_IsName.l0 kq a0 x3_1=some r)∧Aside0 (kq≤k)∧Drawn0 w w')
 case atStart=>exact⟨(0),vR,H',⟨Nat.le_refl _⟩,vD⟩
 case round=>
  clear H';obtain⟨x3_1,rfl,HA,HK1,⟨m1,rfl⟩⟩:=hrel;cases gk with
  | zero=>exact absurd HA.out (by simp[spec_IsName.l0])
  | succ k1=>
   have H:=HA.out;clear HA;simp only[spec_IsName.l0]at H
   by_cases c2:x3_1<(a0.size:Int)
   ·rw[if_pos c2]at H
    have c2b0:=decide_eq_true c2;clear c2
    by_cases c3:0≤x3_1
    ·rw[if_pos c3]at H
     have c3b0:=decide_eq_true c3;clear c3;replace H:=Option.bind_eq_some_iff.mp H;obtain⟨t108,A50,H⟩:=H
     (try dsimp only at H)
     have A5:=aK A50;clear A50
     by_cases c6:t108=true
     ·subst c6
      rw[if_pos rfl]at H;have H':=aK H;clear H;have p4:0≤(x3_1:Int):=of_decide_eq_true vA;have q4:x3_1<(a0.size:Int):=of_decide_eq_true vA;have hx4:=bt_at a0 x3_1;replace p4:=eq_true p4;replace q4:=eq_true q4
      go_wp2_with (first|((with_reducible refine gate_callee (f:=32) rfl ?_);refine goesL_ (some 13) rfl rfl Tryz.func32 (by kernel_rfl) rfl #[.int .u8 (bt a0 x3_1)] rfl (by(try simp only[List.map_toArray,List.map_cons,List.map_nil]);first|done|rfl|(simp only[List.length_drop,List.length_take];rfl)) ?_;(with_reducible refine(spec_isBegin.calls (bt a0 x3_1) true _ A5.out).mono ?_);rintro e w' ⟨rfl,⟨nd,rfl⟩⟩;refine⟨_,rfl,?_⟩))
      go_roundg k1
      case measure=>have:=HK1.out;omega
      case rel=>exact⟨(wrap64 (x3_1+1)),vR,H',⟨by have:=HK1.out;omega⟩,vD⟩
     ·replace c6:=Bool.eq_false_iff.mpr c6
      subst c6;rw[if_neg (show ¬(false=true) by decide)]at H
      by_cases c7:x3_1=0
      ·rw[if_pos c7]at H
       have c7b0:(x3_1==0)=true:=beq_iff_eq.mpr c7;have c7b1:(x3_1 != 0)=false:=bne_eq_false_iff_eq.mpr c7;clear c7;obtain rfl:=Option.some.inj H;have p4:0≤(x3_1:Int):=of_decide_eq_true vA;have q4:x3_1<(a0.size:Int):=of_decide_eq_true vA;have hx4:=bt_at a0 x3_1;replace p4:=eq_true p4;replace q4:=eq_true q4
       go_wp2_with (first|((with_reducible refine gate_callee (f:=32) rfl ?_);refine goesL_ (some 13) rfl rfl Tryz.func32 (by kernel_rfl) rfl #[.int .u8 (bt a0 x3_1)] rfl (by(try simp only[List.map_toArray,List.map_cons,List.map_nil]);first|done|rfl|(simp only[List.length_drop,List.length_take];rfl)) ?_;(with_reducible refine(spec_isBegin.calls (bt a0 x3_1) false _ A5.out).mono ?_);rintro e w' ⟨rfl,⟨nd,rfl⟩⟩;refine⟨_,rfl,?_⟩))
       go_ret
       exact⟨vR,vD⟩
      ·rw[if_neg c7]at H
       have c7b0:(x3_1==0)=false:=beq_eq_false_iff_ne.mpr c7;have c7b1:(x3_1 != 0)=true:=bne_iff_ne.mpr c7;replace H:=Option.bind_eq_some_iff.mp H;obtain⟨t109,A90,H⟩:=H
       (try dsimp only at H)
       have A9:=aK A90;clear A90
       by_cases c10:t109=true
       ·subst c10
        rw[if_pos rfl]at H;have H':=aK H;clear H;have p4:0≤(x3_1:Int):=of_decide_eq_true vA;have q4:x3_1<(a0.size:Int):=of_decide_eq_true vA;have hx4:=bt_at a0 x3_1;replace p4:=eq_true p4;replace q4:=eq_true q4
        go_wp2_with (first|((with_reducible refine gate_callee (f:=32) rfl ?_);refine goesL_ (some 13) rfl rfl Tryz.func32 (by kernel_rfl) rfl #[.int .u8 (bt a0 x3_1)] rfl (by(try simp only[List.map_toArray,List.map_cons,List.map_nil]);first|done|rfl|(simp only[List.length_drop,List.length_take];rfl)) ?_;(with_reducible refine(spec_isBegin.calls (bt a0 x3_1) false _ A5.out).mono ?_);rintro e w' ⟨rfl,⟨nd,rfl⟩⟩;refine⟨_,rfl,?_⟩;have p8:0≤(x3_1:Int):=of_decide_eq_true vA;have q8:x3_1<(a0.size:Int):=of_decide_eq_true vA;have hx8:=bt_at a0 x3_1;replace p8:=eq_true p8;replace q8:=eq_true q8)|(go_at_call 33;(with_reducible refine(spec_isDigit.calls (bt a0 x3_1) true _ A9.out).mono ?_);rintro e w' ⟨rfl,⟨nd,rfl⟩⟩))
        go_roundg k1
        case measure=>have:=HK1.out;omega
        case rel=>exact⟨(wrap64 (x3_1+1)),vR,H',⟨by have:=HK1.out;omega⟩,vD⟩
       ·replace c10:=Bool.eq_false_iff.mpr c10
        subst c10;rw[if_neg (show ¬(false=true) by decide)]at H
        obtain rfl:=Option.some.inj H;have p4:0≤(x3_1:Int):=of_decide_eq_true vA;have q4:x3_1<(a0.size:Int):=of_decide_eq_true vA;have hx4:=bt_at a0 x3_1;replace p4:=eq_true p4;replace q4:=eq_true q4
        go_wp2_with (first|((with_reducible refine gate_callee (f:=32) rfl ?_);refine goesL_ (some 13) rfl rfl Tryz.func32 (by kernel_rfl) rfl #[.int .u8 (bt a0 x3_1)] rfl (by(try simp only[List.map_toArray,List.map_cons,List.map_nil]);first|done|rfl|(simp only[List.length_drop,List.length_take];rfl)) ?_;(with_reducible refine(spec_isBegin.calls (bt a0 x3_1) false _ A5.out).mono ?_);rintro e w' ⟨rfl,⟨nd,rfl⟩⟩;refine⟨_,rfl,?_⟩;have p8:0≤(x3_1:Int):=of_decide_eq_true vA;have q8:x3_1<(a0.size:Int):=of_decide_eq_true vA;have hx8:=bt_at a0 x3_1;replace p8:=eq_true p8;replace q8:=eq_true q8)|(go_at_call 33;(with_reducible refine(spec_isDigit.calls (bt a0 x3_1) false _ A9.out).mono ?_);rintro e w' ⟨rfl,⟨nd,rfl⟩⟩))
        go_ret
        exact⟨vR,vD⟩
    ·rw[if_neg c3]at H
     exact absurd H (by simp)
   ·rw[if_neg c2]at H
    have c2b0:=decide_eq_false c2;clear c2;obtain rfl:=Option.some.inj H;go_wp2
    go_ret
    exact⟨by first|rfl|(simp;done)|(simp[*];done)|(simp[*];generalize a0.toList=l;cases l<;>rfl),vD⟩
def spec_starts.f (a0:ByteArray) (a1:Int) (a2:ByteArray):Option (Bool):=if (wrap64 (a1+(a2.size:Int)))≤(a0.size:Int)then(if 0≤a1 then(if a1≤(wrap64 (a1+(a2.size:Int)))then(some ((a0.extract (a1:Int).toNat ((wrap64 (a1+(a2.size:Int))):Int).toNat).toList==a2.toList))else(none))else(none))else(some false)
theorem spec_starts.calls (a0:ByteArray) (a1:Int) (a2:ByteArray) (r:Bool) (w:World) (h:spec_starts.f a0 a1 a2=some r) :
  Calls Tryz.prog 59 #[.string a0,.int .i64 a1,.string a2] w fun e w'=>e = .returned (.bool r)∧Drawn0 w w':=by
 have H:(if (wrap64 (a1+(a2.size:Int)))≤(a0.size:Int)then(if 0≤a1 then(if a1≤(wrap64 (a1+(a2.size:Int)))then(some ((a0.extract (a1:Int).toNat ((wrap64 (a1+(a2.size:Int))):Int).toNat).toList==a2.toList))else(none))else(none))else(some false))=some r:=h
 clear h
 by_cases c4:(wrap64 (a1+(a2.size:Int)))≤(a0.size:Int)
 ·rw[if_pos c4]at H
  have c4b0:=decide_eq_true c4;clear c4
  by_cases c5:0≤a1
  ·rw[if_pos c5]at H
   have c5b0:=eq_true c5;have c5b1:=decide_eq_true c5;clear c5
   by_cases c6:a1≤(wrap64 (a1+(a2.size:Int)))
   ·rw[if_pos c6]at H
    have c6b0:=eq_true c6;have c6b1:=decide_eq_true c6;have c7b0:=eq_true (of_decide_eq_true vA:(wrap64 (a1+(a2.size:Int)))≤(a0.size:Int));obtain rfl:=Option.some.inj H;go_enter Tryz.func59,Tryz.ntmps59;go_wp2
    go_ret
    exact⟨vR,vD⟩
   ·rw[if_neg c6]at H
    exact absurd H (by simp)
  ·rw[if_neg c5]at H
   exact absurd H (by simp)
 ·rw[if_neg c4]at H
  have c4b0:=decide_eq_false c4;clear c4;obtain rfl:=Option.some.inj H;go_enter Tryz.func59,Tryz.ntmps59;go_wp2
  go_ret
  exact⟨vR,vD⟩
end Go.Proofs.YtjolkdnfbmkjiaaGreatDoor.PFnTokensGaps
