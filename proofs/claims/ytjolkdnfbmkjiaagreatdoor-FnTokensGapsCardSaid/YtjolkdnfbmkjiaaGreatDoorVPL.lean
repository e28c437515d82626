import Derived.Test.YtjolkdnfbmkjiaaGreatDoorProg
import Derived.Below
import Derived.Deep.Draws
import Derived.Deep.AppendLies
import Derived.Maps.AppendAt
import Derived.OwnWalk
import Derived.Laws.BytesArg
import Derived.Laws.MakeOwn
import Derived.Laws.OwnMore
import Derived.Deep.OwnRows
import Derived.Tactics
import Derived.Lib.ConvBytes
import Derived.Laws.Slices
import Derived.WalkKit
import Derived.KernelRfl
import Derived.RowKit3
import Derived.Deep.LoopGhost
import Derived.Deep.QuietTactic
import Derived.BigQuiet
import Derived.WideLaws
import Derived.Deep.DeepCutAuto
import Derived.Deep.CutBlock
import Derived.Deep.RegionHeld3
import Derived.Laws.Rows
import Derived.Lib.AppendStr
import Derived.ArgAppend
import Derived.Laws.IdiomCopy
import Derived.OrdersHeld
import Derived.Laws.BitsLemmas
import Derived.RowKit
import Derived.Test.YtjolkdnfbmkjiaaGreatDoorVW1
import Derived.Test.YtjolkdnfbmkjiaaGreatDoorVW2
set_option maxRecDepth 100000
set_option maxHeartbeats 8000000
set_option linter.unusedVariables false
set_option linter.unusedSimpArgs false
namespace Go.Proofs.YtjolkdnfbmkjiaaGreatDoor.PzzLines
open Go.RowKit Go.Proofs.YtjolkdnfbmkjiaaGreatDoorW.PrintWords Go.Proofs.YtjolkdnfbmkjiaaGreatDoorW.PrintLast Go.Proofs.YtjolkdnfbmkjiaaGreatDoorW.PrintMore
attribute [local go_sem] max2_int min2_int max_two min_two max_three min_three max_four min_four
def errW:Option Int→Value
 | none=>.nilIface
 | some c=>.iface 0 (.int .i64 c)
theorem errW_none:errW none = .nilIface:=rfl
theorem errW_some (c:Int):errW (some c) = .iface 0 (.int .i64 c):=rfl
theorem info9:(Tryz.prog.info? 9).map (fun i=>(i.zero,i.size,i.bytes))=some (some (.string ⟨#[]⟩),1,16):=by kernel_rfl
end Go.Proofs.YtjolkdnfbmkjiaaGreatDoor.PzzLines
namespace Go.Proofs.YtjolkdnfbmkjiaaGreatDoor.PzzLines
open Go.RowKit Go.Proofs.YtjolkdnfbmkjiaaGreatDoorW.PrintWords Go.Proofs.YtjolkdnfbmkjiaaGreatDoorW.PrintLast Go.Proofs.YtjolkdnfbmkjiaaGreatDoorW.PrintMore
attribute [local go_sem] max2_int min2_int max_two min_two max_three min_three max_four min_four
mutual
def lexer_zzLines.l0:Nat→ByteArray→List ByteArray→Int→Int→Option (List ByteArray)
 | 0,_,_,_,_=>none
 | k+1,x0,x3,x4,x5=>if x5<(x0.size:Int)then(if 0≤x5 then(if (bt x0 x5)=13 then(lexer_zzLines.j1 k x0 x3 x4 x5 false)else(lexer_zzLines.j1 k x0 x3 x4 x5 ((bt x0 x5) != 10)))else(none))else(if 0≤x4 then(if x4≤(x0.size:Int)then(if x3.length<8796093022208 then(some (x3++[x0.extract (x4:Int).toNat x0.size]))else(none))else(none))else(none))
def lexer_zzLines.j1:Nat→ByteArray→List ByteArray→Int→Int→Bool→Option (List ByteArray)
 | 0,_,_,_,_,_=>none
 | k+1,x0,x3,x4,x5,x21=>if x21=true then(lexer_zzLines.l0 k x0 x3 x4 (wrap64 (x5+1)))else(if 0≤x4 then(if x4≤x5 then(if x5≤(x0.size:Int)then(if x3.length<8796093022208 then((some (x3++[x0.extract (x4:Int).toNat (x5:Int).toNat]:List ByteArray)).bind fun y104=>(if 0≤x5 then(if x5<(x0.size:Int)then(if (bt x0 x5)=13 then(if (wrap64 (x5+1))<(x0.size:Int)then(if 0≤(wrap64 (x5+1))then(if (bt x0 (wrap64 (x5+1)))=10 then(lexer_zzLines.l0 k x0 y104 (wrap64 ((wrap64 (x5+1))+1)) (wrap64 ((wrap64 (x5+1))+1)))else(lexer_zzLines.l0 k x0 y104 (wrap64 (x5+1)) (wrap64 (x5+1))))else(none))else(lexer_zzLines.l0 k x0 y104 (wrap64 (x5+1)) (wrap64 (x5+1))))else(lexer_zzLines.l0 k x0 y104 (wrap64 (x5+1)) (wrap64 (x5+1))))else(none))else(none)))else(none))else(none))else(none))else(none))
end
def lexer_zzLines.f (k:Nat) (a0:ByteArray):Option (List ByteArray):=lexer_zzLines.l0 k a0 ([]:List ByteArray) 0 0
theorem lexer_zzLines.calls (k:Nat) (a0:ByteArray) (r:List ByteArray) (w:World) (h:lexer_zzLines.f k a0=some r) :
  Calls Tryz.prog 83 #[.string a0] w fun e w'=>∃v0_:Value,e = .returned (v0_)∧Kd.R Kd.string 9 w' w.heap.size (fun _=>True) v0_ r∧Below w.heap.size w w':=by
 have HB:=aK (Below.refl w.heap.size w);have H:(lexer_zzLines.l0 k a0 ([]:List ByteArray) 0 0)=some r:=h;clear h;have H':=aK H;clear H;go_enter Tryz.func83,Tryz.ntmps83;go_wp2
 go_loopg [3,4,5] k (fun kq v3 v4 v5 w'=>∃(x3_1:List ByteArray) (x4_1:Int) (x5_1:Int),v4 = .int .i64 x4_1∧v5 = .int .i64 x5_1∧Aside0 (lexer_zzLines.l0 kq a0 x3_1 x4_1 x5_1=some r)∧Aside0 (kq≤k)∧Aside0 (Kd.R Kd.string 9 w' w.heap.size (fun _=>True) v3 x3_1)∧Aside0 (Below w.heap.size w w'))
 case atStart=>exact⟨(([]:List ByteArray)),(0),(0),vR,vR,H',⟨Nat.le_refl _⟩,⟨by first|exact Kd.R_nil _ _ _ _ _|exact Kd.N_nil _ _ _ _ _|exact Kd.V_nil _ _ _ _ _|exact Kd.Q_nil _ _ _ _ _|exact Kd.S_nil _ _ _ _ _⟩,⟨vB⟩⟩
 case round=>
  clear H';obtain⟨x3_1,x4_1,x5_1,rfl,rfl,HA,HK1,HO_3,HB⟩:=hrel;cases gk with
  | zero=>exact absurd HA.out (by simp[lexer_zzLines.l0])
  | succ k1=>
   have H:=HA.out;clear HA;simp only[lexer_zzLines.l0]at H
   by_cases c2:x5_1<(a0.size:Int)
   ·rw[if_pos c2]at H
    have c2b0:decide (x5_1<(a0.size:Int))=true:=decide_eq_true c2;clear c2;have HC3:=aK H;clear H
    go_upto_region 6 with(fail)
    go_cut [21] (fun v21 wc=>∃(kq:Nat) (x21_2:Bool),v21 = .bool x21_2∧Aside0 (lexer_zzLines.j1 kq a0 x3_1 x4_1 x5_1 x21_2=some r)∧Aside0 (kq≤k1)∧Aside0 (Kd.R Kd.string 9 wc w.heap.size (fun _=>True) u3 x3_1)∧Aside0 (Below w.heap.size w wc))
    case first=>
     have H:=HC3.out;clear HC3
     by_cases c4:0≤x5_1
     ·rw[if_pos c4]at H
      have c4b0:decide (0≤x5_1)=true:=decide_eq_true c4;clear c4
      (first|rw[c4b0]|(simp only[i64_w,i32_w];rw[c4b0])|skip)
      by_cases c6:(bt a0 x5_1)=13
      ·rw[if_pos c6]at H
       have c6b0:((bt a0 x5_1)==13)=true:=beq_iff_eq.mpr c6;have c6b1:((bt a0 x5_1) != 13)=false:=bne_eq_false_iff_eq.mpr c6;clear c6;have H':=aK H;clear H;have p5:0≤(x5_1:Int):=of_decide_eq_true vA;have q5:x5_1<(a0.size:Int):=of_decide_eq_true vA;have hx5:=bt_at a0 x5_1;replace p5:=eq_true p5;replace q5:=eq_true q5;go_wp2
       go_meet
       case rel=>exact⟨_,(false),vR,H',⟨by have:=HK1.out;first|omega|exact Nat.le_refl _⟩,⟨by(with_reducible repeat (first|apply Kd.R_alloc|apply Kd.R_drewN|apply Kd.R_drew));exact HO_3.out⟩,⟨vB⟩⟩
      ·rw[if_neg c6]at H
       have c6b0:((bt a0 x5_1)==13)=false:=beq_eq_false_iff_ne.mpr c6;have c6b1:((bt a0 x5_1) != 13)=true:=bne_iff_ne.mpr c6;have H':=aK H;clear H;have p5:0≤(x5_1:Int):=of_decide_eq_true vA;have q5:x5_1<(a0.size:Int):=of_decide_eq_true vA;have hx5:=bt_at a0 x5_1;replace p5:=eq_true p5;replace q5:=eq_true q5;have p7:0≤(x5_1:Int):=of_decide_eq_true vA;have q7:x5_1<(a0.size:Int):=of_decide_eq_true vA;have hx7:=bt_at a0 x5_1;replace p7:=eq_true p7;replace q7:=eq_true q7;go_wp2
       go_meet
       case rel=>exact⟨_,(((bt a0 x5_1) != 10)),vR,H',⟨by have:=HK1.out;first|omega|exact Nat.le_refl _⟩,⟨by(with_reducible repeat (first|apply Kd.R_alloc|apply Kd.R_drewN|apply Kd.R_drew));exact HO_3.out⟩,⟨vB⟩⟩
     ·rw[if_neg c4]at H
      exact absurd H (by simp)
    case rest=>
     clear HC3
     (try clear c2);(try clear c2b0);(try clear p2);(try clear c4);(try clear c4b0);(try clear p5);(try clear q5);(try clear hx5);(try clear c6);(try clear c6b0);(try clear c6b1);(try clear p7);(try clear q7);(try clear hx7);(try clear p5);(try clear p7);(try clear q5);(try clear q7)
     obtain⟨kq,x21_2,rfl,HA,HJ2,HO_3,HB⟩:=hcut;cases kq with
     | zero=>exact absurd HA.out (by simp[lexer_zzLines.j1])
     | succ kj2=>
      have H:=HA.out;clear HA;simp only[lexer_zzLines.j1]at H
      by_cases c8:x21_2=true
      ·subst c8
       have H1:(lexer_zzLines.l0 kj2 a0 x3_1 x4_1 (wrap64 (x5_1+1)))=some r:=by rw[if_pos rfl]at H;exact H
       clear H;have H:=H1;clear H1;have H':=aK H;clear H;go_wp2
       go_roundg kj2
       case measure=>have:=HK1.out;have:=HJ2.out;omega
       case rel=>exact⟨(x3_1),(x4_1),(wrap64 (x5_1+1)),vR,vR,H',⟨by have:=HK1.out;have:=HJ2.out;omega⟩,⟨by(with_reducible repeat (first|apply Kd.R_alloc|apply Kd.R_drewN|apply Kd.R_drew));exact HO_3.out⟩,⟨vB⟩⟩
      ·replace c8:=Bool.eq_false_iff.mpr c8
       subst c8;have H1:(if 0≤x4_1 then(if x4_1≤x5_1 then(if x5_1≤(a0.size:Int)then(if x3_1.length<8796093022208 then((some (x3_1++[a0.extract (x4_1:Int).toNat (x5_1:Int).toNat]:List ByteArray)).bind fun y104=>(if 0≤x5_1 then(if x5_1<(a0.size:Int)then(if (bt a0 x5_1)=13 then(if (wrap64 (x5_1+1))<(a0.size:Int)then(if 0≤(wrap64 (x5_1+1))then(if (bt a0 (wrap64 (x5_1+1)))=10 then(lexer_zzLines.l0 kj2 a0 y104 (wrap64 ((wrap64 (x5_1+1))+1)) (wrap64 ((wrap64 (x5_1+1))+1)))else(lexer_zzLines.l0 kj2 a0 y104 (wrap64 (x5_1+1)) (wrap64 (x5_1+1))))else(none))else(lexer_zzLines.l0 kj2 a0 y104 (wrap64 (x5_1+1)) (wrap64 (x5_1+1))))else(lexer_zzLines.l0 kj2 a0 y104 (wrap64 (x5_1+1)) (wrap64 (x5_1+1))))else(none))else(none)))else(none))else(none))else(none))else(none))=some r:=by rw[if_neg (show ¬(false=true) by decide)]at H;exact H
       clear H;have H:=H1;clear H1
       by_cases c9:0≤x4_1
       ·rw[if_pos c9]at H
        have c9b0:=eq_true c9;have c9b1:decide (0≤x4_1)=true:=decide_eq_true c9;clear c9
        by_cases c10:x4_1≤x5_1
        ·rw[if_pos c10]at H
         have c10b0:=eq_true c10;have c10b1:decide (x4_1≤x5_1)=true:=decide_eq_true c10;clear c10
         by_cases c11:x5_1≤(a0.size:Int)
         ·rw[if_pos c11]at H
          have c11b0:=eq_true c11;have c11b1:decide (x5_1≤(a0.size:Int))=true:=decide_eq_true c11;clear c11
          by_cases c12:x3_1.length<8796093022208
          ·rw[if_pos c12]at H
           have LMc12:=aK c12;clear c12;obtain⟨y104,hy104⟩:∃y_:List ByteArray,y_=(x3_1++[a0.extract (x4_1:Int).toNat (x5_1:Int).toNat]):=⟨_,rfl⟩
           replace H:(if 0≤x5_1 then(if x5_1<(a0.size:Int)then(if (bt a0 x5_1)=13 then(if (wrap64 (x5_1+1))<(a0.size:Int)then(if 0≤(wrap64 (x5_1+1))then(if (bt a0 (wrap64 (x5_1+1)))=10 then(lexer_zzLines.l0 kj2 a0 y104 (wrap64 ((wrap64 (x5_1+1))+1)) (wrap64 ((wrap64 (x5_1+1))+1)))else(lexer_zzLines.l0 kj2 a0 y104 (wrap64 (x5_1+1)) (wrap64 (x5_1+1))))else(none))else(lexer_zzLines.l0 kj2 a0 y104 (wrap64 (x5_1+1)) (wrap64 (x5_1+1))))else(lexer_zzLines.l0 kj2 a0 y104 (wrap64 (x5_1+1)) (wrap64 (x5_1+1))))else(none))else(none))=some r:=by first|(rw[hy104];with_reducible exact H)|(have H2_:=(Option.bind_some _ _).symm.trans H;rw[hy104];with_reducible exact H2_)|(have H2_:=(Option.bind_some _ _).symm.trans H;with_reducible exact H2_)|with_reducible exact H|(rw[hy104];exact H)|exact H
           have Ny104:=aK hy104;clear hy104
           by_cases c13:0≤x5_1
           ·rw[if_pos c13]at H
            have c13b0:decide (0≤x5_1)=true:=decide_eq_true c13;clear c13
            by_cases c14:x5_1<(a0.size:Int)
            ·rw[if_pos c14]at H
             have c14b0:decide (x5_1<(a0.size:Int))=true:=decide_eq_true c14;clear c14
             by_cases c16:(bt a0 x5_1)=13
             ·rw[if_pos c16]at H
              have c16b0:((bt a0 x5_1)==13)=true:=beq_iff_eq.mpr c16;have c16b1:((bt a0 x5_1) != 13)=false:=bne_eq_false_iff_eq.mpr c16;clear c16
              by_cases c17:(wrap64 (x5_1+1))<(a0.size:Int)
              ·rw[if_pos c17]at H
               have c17b0:decide ((wrap64 (x5_1+1))<(a0.size:Int))=true:=decide_eq_true c17;clear c17;obtain⟨ji18,hji18⟩:∃j_:Int,(wrap64 (x5_1+1))=j_:=⟨_,rfl⟩;replace H:(if 0≤(ji18)then(if (bt a0 (ji18))=10 then(lexer_zzLines.l0 kj2 a0 y104 (wrap64 ((ji18)+1)) (wrap64 ((ji18)+1)))else(lexer_zzLines.l0 kj2 a0 y104 ji18 ji18))else(none))=some r:=by first|(rw[hji18]at H;exact H)|(simp only[hji18]at H ⊢;exact H)
               (try rw[hji18]at c17b0)
               have hji18w:(IntKind.i64.wrap (x5_1+1))=ji18:=(i64_w _).trans hji18
               by_cases c19:0≤(ji18)
               ·rw[if_pos c19]at H
                have c19b0:decide (0≤(ji18))=true:=decide_eq_true c19;clear c19
                by_cases c21:(bt a0 (ji18))=10
                ·rw[if_pos c21]at H
                 have c21b0:((bt a0 (ji18))==10)=true:=beq_iff_eq.mpr c21;have c21b1:((bt a0 (ji18)) != 10)=false:=bne_eq_false_iff_eq.mpr c21;clear c21;have H':=aK H;clear H
                 go_wp2_with (first|((with_reducible refine gate_builtin (b:=.append) (xs:=#[.tmp 22,.tmp 27]) rfl ?_);(try (refine gate_guard (by rfl) ?_;dsimp only));at_builtin;refine Kd.R_append Kd.string (w0:=w) w.heap.size rfl (.tmp 22) (.tmp 27) 25 9 (.string ⟨#[]⟩) 16 rfl Tryz.underlying25 info9 rfl (by decide) (by omega) u3 x3_1 (a0.extract (x4_1:Int).toNat (x5_1:Int).toNat) [.string (a0.extract (x4_1:Int).toNat (x5_1:Int).toNat)] (fun _=>True) (fun _=>False) rfl rfl ?aP (fun _ hk=>hk.elim) ?aF ?aO ?aB ?aS ?aL ?_;(case aP=>exact rfl);(case aB=>exact vB);(case aF=>exact(fun _ _=>trivial));(case aO=>exact(by(with_reducible repeat (first|apply Kd.R_alloc|apply Kd.R_drewN|apply Kd.R_drew));exact HO_3.out));(case aS=>exact(below_size vB));(case aL=>have:=LMc12.out;omega);intro v105 w22 ho hb hg hat;rw[←Ny104.out]at ho;have n0_:=aK (hb);have n1_:=aK (ho);clear HB;clear HO_3;have HB:=n0_;have HO106:=n1_;clear n0_ n1_;clear ho hb hg hat;have p15:0≤(x5_1:Int):=of_decide_eq_true vA;have q15:x5_1<(a0.size:Int):=of_decide_eq_true vA;have hx15:=bt_at a0 x5_1;replace p15:=eq_true p15;replace q15:=eq_true q15;have p20:0≤((ji18):Int):=of_decide_eq_true vA;have q20:(ji18)<(a0.size:Int):=of_decide_eq_true vA;have hx20:=bt_at a0 (ji18);replace p20:=eq_true p20;replace q20:=eq_true q20))
                 go_roundg kj2
                 case measure=>have:=HK1.out;have:=HJ2.out;omega
                 case rel=>exact⟨(y104),(wrap64 ((ji18)+1)),(wrap64 ((ji18)+1)),(by first|rfl|(simp;done)|(simp only[←hji18]<;>(first|rfl|simp))|(simp[*];done)),(by first|rfl|(simp;done)|(simp only[←hji18]<;>(first|rfl|simp))|(simp[*];done)),H',⟨by have:=HK1.out;have:=HJ2.out;omega⟩,⟨by(with_reducible repeat (first|apply Kd.R_alloc|apply Kd.R_drewN|apply Kd.R_drew));exact HO106.out⟩,⟨vB⟩⟩
                ·rw[if_neg c21]at H
                 have c21b0:((bt a0 (ji18))==10)=false:=beq_eq_false_iff_ne.mpr c21;have c21b1:((bt a0 (ji18)) != 10)=true:=bne_iff_ne.mpr c21;have H':=aK H;clear H
                 go_wp2_with (first|((with_reducible refine gate_builtin (b:=.append) (xs:=#[.tmp 22,.tmp 27]) rfl ?_);(try (refine gate_guard (by rfl) ?_;dsimp only));at_builtin;refine Kd.R_append Kd.string (w0:=w) w.heap.size rfl (.tmp 22) (.tmp 27) 25 9 (.string ⟨#[]⟩) 16 rfl Tryz.underlying25 info9 rfl (by decide) (by omega) u3 x3_1 (a0.extract (x4_1:Int).toNat (x5_1:Int).toNat) [.string (a0.extract (x4_1:Int).toNat (x5_1:Int).toNat)] (fun _=>True) (fun _=>False) rfl rfl ?aP (fun _ hk=>hk.elim) ?aF ?aO ?aB ?aS ?aL ?_;(case aP=>exact rfl);(case aB=>exact vB);(case aF=>exact(fun _ _=>trivial));(case aO=>exact(by(with_reducible repeat (first|apply Kd.R_alloc|apply Kd.R_drewN|apply Kd.R_drew));exact HO_3.out));(case aS=>exact(below_size vB));(case aL=>have:=LMc12.out;omega);intro v105 w23 ho hb hg hat;rw[←Ny104.out]at ho;have n0_:=aK (hb);have n1_:=aK (ho);clear HB;clear HO_3;have HB:=n0_;have HO106:=n1_;clear n0_ n1_;clear ho hb hg hat;have p15:0≤(x5_1:Int):=of_decide_eq_true vA;have q15:x5_1<(a0.size:Int):=of_decide_eq_true vA;have hx15:=bt_at a0 x5_1;replace p15:=eq_true p15;replace q15:=eq_true q15;have p20:0≤((ji18):Int):=of_decide_eq_true vA;have q20:(ji18)<(a0.size:Int):=of_decide_eq_true vA;have hx20:=bt_at a0 (ji18);replace p20:=eq_true p20;replace q20:=eq_true q20))
                 go_roundg kj2
                 case measure=>have:=HK1.out;have:=HJ2.out;omega
                 case rel=>exact⟨(y104),(ji18),(ji18),(by first|rfl|(simp;done)|(simp only[←hji18]<;>(first|rfl|simp))|(simp[*];done)),(by first|rfl|(simp;done)|(simp only[←hji18]<;>(first|rfl|simp))|(simp[*];done)),H',⟨by have:=HK1.out;have:=HJ2.out;omega⟩,⟨by(with_reducible repeat (first|apply Kd.R_alloc|apply Kd.R_drewN|apply Kd.R_drew));exact HO106.out⟩,⟨vB⟩⟩
               ·rw[if_neg c19]at H
                exact absurd H (by simp)
              ·rw[if_neg c17]at H
               have c17b0:decide ((wrap64 (x5_1+1))<(a0.size:Int))=false:=decide_eq_false c17;clear c17;have H':=aK H;clear H
               go_wp2_with (first|((with_reducible refine gate_builtin (b:=.append) (xs:=#[.tmp 22,.tmp 27]) rfl ?_);(try (refine gate_guard (by rfl) ?_;dsimp only));at_builtin;refine Kd.R_append Kd.string (w0:=w) w.heap.size rfl (.tmp 22) (.tmp 27) 25 9 (.string ⟨#[]⟩) 16 rfl Tryz.underlying25 info9 rfl (by decide) (by omega) u3 x3_1 (a0.extract (x4_1:Int).toNat (x5_1:Int).toNat) [.string (a0.extract (x4_1:Int).toNat (x5_1:Int).toNat)] (fun _=>True) (fun _=>False) rfl rfl ?aP (fun _ hk=>hk.elim) ?aF ?aO ?aB ?aS ?aL ?_;(case aP=>exact rfl);(case aB=>exact vB);(case aF=>exact(fun _ _=>trivial));(case aO=>exact(by(with_reducible repeat (first|apply Kd.R_alloc|apply Kd.R_drewN|apply Kd.R_drew));exact HO_3.out));(case aS=>exact(below_size vB));(case aL=>have:=LMc12.out;omega);intro v105 w24 ho hb hg hat;rw[←Ny104.out]at ho;have n0_:=aK (hb);have n1_:=aK (ho);clear HB;clear HO_3;have HB:=n0_;have HO106:=n1_;clear n0_ n1_;clear ho hb hg hat;have p15:0≤(x5_1:Int):=of_decide_eq_true vA;have q15:x5_1<(a0.size:Int):=of_decide_eq_true vA;have hx15:=bt_at a0 x5_1;replace p15:=eq_true p15;replace q15:=eq_true q15))
               go_roundg kj2
               case measure=>have:=HK1.out;have:=HJ2.out;omega
               case rel=>exact⟨(y104),(wrap64 (x5_1+1)),(wrap64 (x5_1+1)),vR,vR,H',⟨by have:=HK1.out;have:=HJ2.out;omega⟩,⟨by(with_reducible repeat (first|apply Kd.R_alloc|apply Kd.R_drewN|apply Kd.R_drew));exact HO106.out⟩,⟨vB⟩⟩
             ·rw[if_neg c16]at H
              have c16b0:((bt a0 x5_1)==13)=false:=beq_eq_false_iff_ne.mpr c16;have c16b1:((bt a0 x5_1) != 13)=true:=bne_iff_ne.mpr c16;have H':=aK H;clear H
              go_wp2_with (first|((with_reducible refine gate_builtin (b:=.append) (xs:=#[.tmp 22,.tmp 27]) rfl ?_);(try (refine gate_guard (by rfl) ?_;dsimp only));at_builtin;refine Kd.R_append Kd.string (w0:=w) w.heap.size rfl (.tmp 22) (.tmp 27) 25 9 (.string ⟨#[]⟩) 16 rfl Tryz.underlying25 info9 rfl (by decide) (by omega) u3 x3_1 (a0.extract (x4_1:Int).toNat (x5_1:Int).toNat) [.string (a0.extract (x4_1:Int).toNat (x5_1:Int).toNat)] (fun _=>True) (fun _=>False) rfl rfl ?aP (fun _ hk=>hk.elim) ?aF ?aO ?aB ?aS ?aL ?_;(case aP=>exact rfl);(case aB=>exact vB);(case aF=>exact(fun _ _=>trivial));(case aO=>exact(by(with_reducible repeat (first|apply Kd.R_alloc|apply Kd.R_drewN|apply Kd.R_drew));exact HO_3.out));(case aS=>exact(below_size vB));(case aL=>have:=LMc12.out;omega);intro v105 w25 ho hb hg hat;rw[←Ny104.out]at ho;have n0_:=aK (hb);have n1_:=aK (ho);clear HB;clear HO_3;have HB:=n0_;have HO106:=n1_;clear n0_ n1_;clear ho hb hg hat;have p15:0≤(x5_1:Int):=of_decide_eq_true vA;have q15:x5_1<(a0.size:Int):=of_decide_eq_true vA;have hx15:=bt_at a0 x5_1;replace p15:=eq_true p15;replace q15:=eq_true q15))
              go_roundg kj2
              case measure=>have:=HK1.out;have:=HJ2.out;omega
              case rel=>exact⟨(y104),(wrap64 (x5_1+1)),(wrap64 (x5_1+1)),vR,vR,H',⟨by have:=HK1.out;have:=HJ2.out;omega⟩,⟨by(with_reducible repeat (first|apply Kd.R_alloc|apply Kd.R_drewN|apply Kd.R_drew));exact HO106.out⟩,⟨vB⟩⟩
            ·rw[if_neg c14]at H
             exact absurd H (by simp)
           ·rw[if_neg c13]at H
            exact absurd H (by simp)
          ·rw[if_neg c12]at H
           exact absurd H (by simp)
         ·rw[if_neg c11]at H
          exact absurd H (by simp)
        ·rw[if_neg c10]at H
         exact absurd H (by simp)
       ·rw[if_neg c9]at H
        exact absurd H (by simp)
   ·rw[if_neg c2]at H
    have c2b0:decide (x5_1<(a0.size:Int))=false:=decide_eq_false c2;clear c2
    by_cases c26:0≤x4_1
    ·rw[if_pos c26]at H
     have c26b0:=eq_true c26;have c26b1:decide (0≤x4_1)=true:=decide_eq_true c26;clear c26
     by_cases c27:x4_1≤(a0.size:Int)
     ·rw[if_pos c27]at H
      have c27b0:=eq_true c27;have c27b1:decide (x4_1≤(a0.size:Int))=true:=decide_eq_true c27;clear c27
      by_cases c28:x3_1.length<8796093022208
      ·rw[if_pos c28]at H
       have LMc28:=aK c28;clear c28;obtain⟨y101,hy101⟩:∃y_:List ByteArray,y_=(x3_1++[a0.extract (x4_1:Int).toNat a0.size]):=⟨_,rfl⟩;replace H:(some y101)=some r:=by first|(rw[hy101];with_reducible exact H)|(have H2_:=(Option.bind_some _ _).symm.trans H;rw[hy101];with_reducible exact H2_)|(have H2_:=(Option.bind_some _ _).symm.trans H;with_reducible exact H2_)|with_reducible exact H|(rw[hy101];exact H)|exact H
       have Ny101:=aK hy101;clear hy101;obtain rfl:=Option.some.inj H
       go_wp2_with (first|((with_reducible refine gate_builtin (b:=.append) (xs:=#[.tmp 51,.tmp 55]) rfl ?_);(try (refine gate_guard (by rfl) ?_;dsimp only));at_builtin;refine Kd.R_append Kd.string (w0:=w) w.heap.size rfl (.tmp 51) (.tmp 55) 25 9 (.string ⟨#[]⟩) 16 rfl Tryz.underlying25 info9 rfl (by decide) (by omega) u3 x3_1 (a0.extract (x4_1:Int).toNat a0.size) [.string (a0.extract (x4_1:Int).toNat a0.size)] (fun _=>True) (fun _=>False) rfl rfl ?aP (fun _ hk=>hk.elim) ?aF ?aO ?aB ?aS ?aL ?_;(case aP=>exact rfl);(case aB=>exact vB);(case aF=>exact(fun _ _=>trivial));(case aO=>exact(by(with_reducible repeat (first|apply Kd.R_alloc|apply Kd.R_drewN|apply Kd.R_drew));exact HO_3.out));(case aS=>exact(below_size vB));(case aL=>have:=LMc28.out;omega);intro v102 w29 ho hb hg hat;rw[←Ny101.out]at ho;have n0_:=aK (hb);have n1_:=aK (ho);clear HB;clear HO_3;have HB:=n0_;have HO103:=n1_;clear n0_ n1_;clear ho hb hg hat))
       go_ret
       exact⟨_,vE,by(with_reducible repeat (first|apply Kd.R_alloc|apply Kd.R_drewN|apply Kd.R_drew));exact HO103.out,vB⟩
      ·rw[if_neg c28]at H
       exact absurd H (by simp)
     ·rw[if_neg c27]at H
      exact absurd H (by simp)
    ·rw[if_neg c26]at H
     exact absurd H (by simp)
end Go.Proofs.YtjolkdnfbmkjiaaGreatDoor.PzzLines
