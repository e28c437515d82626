import Derived.Test.YtjolkdnfbmkjiaaGreatDoorVP0
set_option maxRecDepth 100000
set_option maxHeartbeats 8000000
set_option linter.unusedVariables false
set_option linter.unusedSimpArgs false
namespace Go.Proofs.YtjolkdnfbmkjiaaGreatDoor.PFnTokensGaps
open Go.RowKit Go.Proofs.YtjolkdnfbmkjiaaGreatDoorW.PrintWords Go.Proofs.YtjolkdnfbmkjiaaGreatDoorW.PrintLast Go.Proofs.YtjolkdnfbmkjiaaGreatDoorW.PrintMore
attribute [local go_sem] max2_int min2_int max_two min_two max_three min_three max_four min_four
mutual
def spec_Lines.l0:Nat→ByteArray→List ByteArray→Int→Int→Option (List ByteArray)
 | 0,_,_,_,_=>none
 | k+1,x0,x3,x4,x5=>if x5<(x0.size:Int)then(if 0≤x5 then(if (bt x0 x5)=10 then(spec_Lines.j1 k x0 x3 x4 x5 false)else(spec_Lines.j1 k x0 x3 x4 x5 ((bt x0 x5) != 13)))else(none))else(if 0≤x4 then(if x4≤(x0.size:Int)then(if x3.length<8796093022208 then(some (x3++[x0.extract (x4:Int).toNat x0.size]))else(none))else(none))else(none))
def spec_Lines.j1:Nat→ByteArray→List ByteArray→Int→Int→Bool→Option (List ByteArray)
 | 0,_,_,_,_,_=>none
 | k+1,x0,x3,x4,x5,x21=>if x21=true then(spec_Lines.l0 k x0 x3 x4 (wrap64 (x5+1)))else(if 0≤x4 then(if x4≤x5 then(if x5≤(x0.size:Int)then(if x3.length<8796093022208 then((some (x3++[x0.extract (x4:Int).toNat (x5:Int).toNat]:List ByteArray)).bind fun y183=>(if 0≤x5 then(if x5<(x0.size:Int)then(if (bt x0 x5)=13 then(if (wrap64 (x5+1))<(x0.size:Int)then(if 0≤(wrap64 (x5+1))then(if (bt x0 (wrap64 (x5+1)))=10 then(spec_Lines.l0 k x0 y183 (wrap64 ((wrap64 (x5+1))+1)) (wrap64 ((wrap64 (x5+1))+1)))else(spec_Lines.l0 k x0 y183 (wrap64 (x5+1)) (wrap64 (x5+1))))else(none))else(spec_Lines.l0 k x0 y183 (wrap64 (x5+1)) (wrap64 (x5+1))))else(spec_Lines.l0 k x0 y183 (wrap64 (x5+1)) (wrap64 (x5+1))))else(none))else(none)))else(none))else(none))else(none))else(none))
end
def spec_Lines.f (k:Nat) (a0:ByteArray):Option (List ByteArray):=spec_Lines.l0 k a0 ([]:List ByteArray) 0 0
theorem spec_Lines.mono_l:∀k,(∀y0 y1 y2 y3,LeO (spec_Lines.l0 k y0 y1 y2 y3) (spec_Lines.l0 (k+1) y0 y1 y2 y3))∧(∀y0 y1 y2 y3 y4,LeO (spec_Lines.j1 k y0 y1 y2 y3 y4) (spec_Lines.j1 (k+1) y0 y1 y2 y3 y4))
 | 0=>⟨fun _ _ _ _ r h=>by simp[spec_Lines.l0]at h,fun _ _ _ _ _ r h=>by simp[spec_Lines.j1]at h⟩
 | k+1=>by
  obtain⟨ih0,ih1⟩:=spec_Lines.mono_l k;refine⟨?_,?_⟩
  ·intro y0 y1 y2 y3
   unfold spec_Lines.l0
   repeat' first
   | (with_reducible exact ih0 _ _ _ _)
   | (with_reducible exact ih1 _ _ _ _ _)
   | (with_reducible exact LeO.refl _)
   | (with_reducible exact LeO.none _)
   | (with_reducible refine LeO.ite ?_ ?_)
   | (with_reducible refine LeO.bind ?_ (fun _=>?_))
   | exact ih0 _ _ _ _
   | exact ih1 _ _ _ _ _
   | exact LeO.none _
   | refine LeO.ite ?_ ?_
   | refine LeO.bind ?_ (fun _=>?_)
  ·intro y0 y1 y2 y3 y4
   unfold spec_Lines.j1
   repeat' first
   | (with_reducible exact ih0 _ _ _ _)
   | (with_reducible exact ih1 _ _ _ _ _)
   | (with_reducible exact LeO.refl _)
   | (with_reducible exact LeO.none _)
   | (with_reducible refine LeO.ite ?_ ?_)
   | (with_reducible refine LeO.bind ?_ (fun _=>?_))
   | exact ih0 _ _ _ _
   | exact ih1 _ _ _ _ _
   | exact LeO.none _
   | refine LeO.ite ?_ ?_
   | refine LeO.bind ?_ (fun _=>?_)
theorem spec_Lines.mono:∀a0 k,LeO (spec_Lines.f k a0) (spec_Lines.f (k+1) a0):=by
 intro a0 k;obtain⟨ih0,ih1⟩:=spec_Lines.mono_l k;unfold spec_Lines.f
 repeat' first
   | (with_reducible exact ih0 _ _ _ _)
   | (with_reducible exact ih1 _ _ _ _ _)
   | (with_reducible exact LeO.refl _)
   | (with_reducible exact LeO.none _)
   | (with_reducible refine LeO.ite ?_ ?_)
   | (with_reducible refine LeO.bind ?_ (fun _=>?_))
   | exact ih0 _ _ _ _
   | exact ih1 _ _ _ _ _
   | exact LeO.none _
   | refine LeO.ite ?_ ?_
   | refine LeO.bind ?_ (fun _=>?_)
theorem spec_Lines.calls (k:Nat) (a0:ByteArray) (r:List ByteArray) (w:World) (h:spec_Lines.f k a0=some r) :
  Calls Tryz.prog 75 #[.string a0] w fun e w'=>∃v0_:Value,e = .returned (v0_)∧Kd.R Kd.string 9 w' w.heap.size (fun _=>True) v0_ r∧Below w.heap.size w w':=by
 have HB:=aK (Below.refl w.heap.size w);have H:(spec_Lines.l0 k a0 ([]:List ByteArray) 0 0)=some r:=h;clear h;have H':=aK H;clear H;go_enter Tryz.func75,Tryz.ntmps75;go_wp2
 go_loopg [3,4,5] k (fun kq v3 v4 v5 w'=>∃(x3_1:List ByteArray) (x4_1:Int) (x5_1:Int),v4 = .int .i64 x4_1∧v5 = .int .i64 x5_1∧Aside0 (spec_Lines.l0 kq a0 x3_1 x4_1 x5_1=some r)∧Aside0 (kq≤k)∧Aside0 (Kd.R Kd.string 9 w' w.heap.size (fun _=>True) v3 x3_1)∧Aside0 (Below w.heap.size w w'))
 case atStart=>exact⟨(([]:List ByteArray)),(0),(0),vR,vR,H',⟨Nat.le_refl _⟩,⟨by first|exact Kd.R_nil _ _ _ _ _|exact Kd.N_nil _ _ _ _ _|exact Kd.V_nil _ _ _ _ _|exact Kd.Q_nil _ _ _ _ _|exact Kd.S_nil _ _ _ _ _⟩,⟨vB⟩⟩
 case round=>
  clear H';obtain⟨x3_1,x4_1,x5_1,rfl,rfl,HA,HK1,HO_3,HB⟩:=hrel;cases gk with
  | zero=>exact absurd HA.out (by simp[spec_Lines.l0])
  | succ k1=>
   have H:=HA.out;clear HA;simp only[spec_Lines.l0]at H
   by_cases c2:x5_1<(a0.size:Int)
   ·rw[if_pos c2]at H
    have c2b0:decide (x5_1<(a0.size:Int))=true:=decide_eq_true c2;clear c2;have HC3:=aK H;clear H
    go_upto_region 6 with(fail)
    go_cut [21] (fun v21 wc=>∃(kq:Nat) (x21_2:Bool),v21 = .bool x21_2∧Aside0 (spec_Lines.j1 kq a0 x3_1 x4_1 x5_1 x21_2=some r)∧Aside0 (kq≤k1)∧Aside0 (Kd.R Kd.string 9 wc w.heap.size (fun _=>True) u3 x3_1)∧Aside0 (Below w.heap.size w wc))
    case first=>
     have H:=HC3.out;clear HC3
     by_cases c4:0≤x5_1
     ·rw[if_pos c4]at H
      have c4b0:decide (0≤x5_1)=true:=decide_eq_true c4;clear c4
      (first|rw[c4b0]|(simp only[i64_w,i32_w];rw[c4b0])|skip)
      by_cases c6:(bt a0 x5_1)=10
      ·rw[if_pos c6]at H
       have c6b0:((bt a0 x5_1)==10)=true:=beq_iff_eq.mpr c6;have c6b1:((bt a0 x5_1) != 10)=false:=bne_eq_false_iff_eq.mpr c6;clear c6;have H':=aK H;clear H;have p5:0≤(x5_1:Int):=of_decide_eq_true vA;have q5:x5_1<(a0.size:Int):=of_decide_eq_true vA;have hx5:=bt_at a0 x5_1;replace p5:=eq_true p5;replace q5:=eq_true q5;go_wp2
       go_meet
       case rel=>exact⟨_,(false),vR,H',⟨by have:=HK1.out;first|omega|exact Nat.le_refl _⟩,⟨by(with_reducible repeat (first|apply Kd.R_alloc|apply Kd.R_drewN|apply Kd.R_drew));exact HO_3.out⟩,⟨vB⟩⟩
      ·rw[if_neg c6]at H
       have c6b0:((bt a0 x5_1)==10)=false:=beq_eq_false_iff_ne.mpr c6;have c6b1:((bt a0 x5_1) != 10)=true:=bne_iff_ne.mpr c6;have H':=aK H;clear H;have p5:0≤(x5_1:Int):=of_decide_eq_true vA;have q5:x5_1<(a0.size:Int):=of_decide_eq_true vA;have hx5:=bt_at a0 x5_1;replace p5:=eq_true p5;replace q5:=eq_true q5;have p7:0≤(x5_1:Int):=of_decide_eq_true vA;have q7:x5_1<(a0.size:Int):=of_decide_eq_true vA;have hx7:=bt_at a0 x5_1;replace p7:=eq_true p7;replace q7:=eq_true q7;go_wp2
       go_meet
       case rel=>exact⟨_,(((bt a0 x5_1) != 13)),vR,H',⟨by have:=HK1.out;first|omega|exact Nat.le_refl _⟩,⟨by(with_reducible repeat (first|apply Kd.R_alloc|apply Kd.R_drewN|apply Kd.R_drew));exact HO_3.out⟩,⟨vB⟩⟩
     ·rw[if_neg c4]at H
      exact absurd H (by simp)
    case rest=>
     clear HC3
     (try clear c2);(try clear c2b0);(try clear p2);(try clear c4);(try clear c4b0);(try clear p5);(try clear q5);(try clear hx5);(try clear c6);(try clear c6b0);(try clear c6b1);(try clear c7);(try clear p7);(try clear q7);(try clear hx7);(try clear p5);(try clear p7);(try clear q5);(try clear q7)
     obtain⟨kq,x21_2,rfl,HA,HJ2,HO_3,HB⟩:=hcut;cases kq with
     | zero=>exact absurd HA.out (by simp[spec_Lines.j1])
     | succ kj2=>
      have H:=HA.out;clear HA;simp only[spec_Lines.j1]at H
      by_cases c8:x21_2=true
      ·subst c8
       have H1:(spec_Lines.l0 kj2 a0 x3_1 x4_1 (wrap64 (x5_1+1)))=some r:=by rw[if_pos rfl]at H;exact H
       clear H;have H:=H1;clear H1;have H':=aK H;clear H;go_wp2
       go_roundg kj2
       case measure=>have:=HK1.out;have:=HJ2.out;omega
       case rel=>exact⟨(x3_1),(x4_1),(wrap64 (x5_1+1)),vR,vR,H',⟨by have:=HK1.out;have:=HJ2.out;omega⟩,⟨by(with_reducible repeat (first|apply Kd.R_alloc|apply Kd.R_drewN|apply Kd.R_drew));exact HO_3.out⟩,⟨vB⟩⟩
      ·replace c8:=Bool.eq_false_iff.mpr c8
       subst c8;have H1:(if 0≤x4_1 then(if x4_1≤x5_1 then(if x5_1≤(a0.size:Int)then(if x3_1.length<8796093022208 then((some (x3_1++[a0.extract (x4_1:Int).toNat (x5_1:Int).toNat]:List ByteArray)).bind fun y183=>(if 0≤x5_1 then(if x5_1<(a0.size:Int)then(if (bt a0 x5_1)=13 then(if (wrap64 (x5_1+1))<(a0.size:Int)then(if 0≤(wrap64 (x5_1+1))then(if (bt a0 (wrap64 (x5_1+1)))=10 then(spec_Lines.l0 kj2 a0 y183 (wrap64 ((wrap64 (x5_1+1))+1)) (wrap64 ((wrap64 (x5_1+1))+1)))else(spec_Lines.l0 kj2 a0 y183 (wrap64 (x5_1+1)) (wrap64 (x5_1+1))))else(none))else(spec_Lines.l0 kj2 a0 y183 (wrap64 (x5_1+1)) (wrap64 (x5_1+1))))else(spec_Lines.l0 kj2 a0 y183 (wrap64 (x5_1+1)) (wrap64 (x5_1+1))))else(none))else(none)))else(none))else(none))else(none))else(none))=some r:=by rw[if_neg (show ¬(false=true) by decide)]at H;exact H
       clear H;have H:=H1;clear H1
       by_cases c9:0≤x4_1
       ·rw[if_pos c9]at H
        have c9b0:=eq_true c9;have c9b1:decide (0≤x4_1)=true:=decide_eq_true c9;clear c9
        by_cases c10:x4_1≤x5_1
        ·rw[if_pos c10]at H
         have c10b0:=eq_true c10;have c10b1:decide (x4_1≤x5_1)=true:=decide_eq_true c10;clear c10
         by_cases c11:x5_1≤(a0.size:Int)
         ·rw[if_pos c11]at H
          have c11b0:=eq_true c11;have c11b1:decide (x5_1≤(a0.size:Int))=true:=decide_eq_true c11;clear c11
          by_cases c12:x3_1.length<8796093022208
          ·rw[if_pos c12]at H
           have LMc12:=aK c12;clear c12;obtain⟨y183,hy183⟩:∃y_:List ByteArray,y_=(x3_1++[a0.extract (x4_1:Int).toNat (x5_1:Int).toNat]):=⟨_,rfl⟩
           replace H:(if 0≤x5_1 then(if x5_1<(a0.size:Int)then(if (bt a0 x5_1)=13 then(if (wrap64 (x5_1+1))<(a0.size:Int)then(if 0≤(wrap64 (x5_1+1))then(if (bt a0 (wrap64 (x5_1+1)))=10 then(spec_Lines.l0 kj2 a0 y183 (wrap64 ((wrap64 (x5_1+1))+1)) (wrap64 ((wrap64 (x5_1+1))+1)))else(spec_Lines.l0 kj2 a0 y183 (wrap64 (x5_1+1)) (wrap64 (x5_1+1))))else(none))else(spec_Lines.l0 kj2 a0 y183 (wrap64 (x5_1+1)) (wrap64 (x5_1+1))))else(spec_Lines.l0 kj2 a0 y183 (wrap64 (x5_1+1)) (wrap64 (x5_1+1))))else(none))else(none))=some r:=by first|(rw[hy183];with_reducible exact H)|(have H2_:=(Option.bind_some _ _).symm.trans H;rw[hy183];with_reducible exact H2_)|(have H2_:=(Option.bind_some _ _).symm.trans H;with_reducible exact H2_)|with_reducible exact H|(rw[hy183];exact H)|exact H
           have Ny183:=aK hy183;clear hy183
           by_cases c13:0≤x5_1
           ·rw[if_pos c13]at H
            have c13b0:decide (0≤x5_1)=true:=decide_eq_true c13;clear c13
            by_cases c14:x5_1<(a0.size:Int)
            ·rw[if_pos c14]at H
             have c14b0:decide (x5_1<(a0.size:Int))=true:=decide_eq_true c14;clear c14
             by_cases c16:(bt a0 x5_1)=13
             ·rw[if_pos c16]at H
              have c16b0:((bt a0 x5_1)==13)=true:=beq_iff_eq.mpr c16;have c16b1:((bt a0 x5_1) != 13)=false:=bne_eq_false_iff_eq.mpr c16;clear c16
              by_cases c17:(wrap64 (x5_1+1))<(a0.size:Int)
              ·rw[if_pos c17]at H
               have c17b0:decide ((wrap64 (x5_1+1))<(a0.size:Int))=true:=decide_eq_true c17;clear c17;obtain⟨ji18,hji18⟩:∃j_:Int,(wrap64 (x5_1+1))=j_:=⟨_,rfl⟩;replace H:(if 0≤(ji18)then(if (bt a0 (ji18))=10 then(spec_Lines.l0 kj2 a0 y183 (wrap64 ((ji18)+1)) (wrap64 ((ji18)+1)))else(spec_Lines.l0 kj2 a0 y183 ji18 ji18))else(none))=some r:=by first|(rw[hji18]at H;exact H)|(simp only[hji18]at H ⊢;exact H)
               (try rw[hji18]at c17b0)
               have hji18w:(IntKind.i64.wrap (x5_1+1))=ji18:=(i64_w _).trans hji18
               by_cases c19:0≤(ji18)
               ·rw[if_pos c19]at H
                have c19b0:decide (0≤(ji18))=true:=decide_eq_true c19;clear c19
                by_cases c21:(bt a0 (ji18))=10
                ·rw[if_pos c21]at H
                 have c21b0:((bt a0 (ji18))==10)=true:=beq_iff_eq.mpr c21;have c21b1:((bt a0 (ji18)) != 10)=false:=bne_eq_false_iff_eq.mpr c21;clear c21;have H':=aK H;clear H
                 go_wp2_with (first|((with_reducible refine gate_builtin (b:=.append) (xs:=#[.tmp 22,.tmp 27]) rfl ?_);(try (refine gate_guard (by rfl) ?_;dsimp only));at_builtin;refine Kd.R_append Kd.string (w0:=w) w.heap.size rfl (.tmp 22) (.tmp 27) 25 9 (.string ⟨#[]⟩) 16 rfl Tryz.underlying25 info9 rfl (by decide) (by omega) u3 x3_1 (a0.extract (x4_1:Int).toNat (x5_1:Int).toNat) [.string (a0.extract (x4_1:Int).toNat (x5_1:Int).toNat)] (fun _=>True) (fun _=>False) rfl rfl ?aP (fun _ hk=>hk.elim) ?aF ?aO ?aB ?aS ?aL ?_;(case aP=>exact rfl);(case aB=>exact vB);(case aF=>exact(fun _ _=>trivial));(case aO=>exact(by(with_reducible repeat (first|apply Kd.R_alloc|apply Kd.R_drewN|apply Kd.R_drew));exact HO_3.out));(case aS=>exact(below_size vB));(case aL=>have:=LMc12.out;omega);intro v184 w22 ho hb hg hat;rw[←Ny183.out]at ho;have n0_:=aK (hb);have n1_:=aK (ho);clear HB;clear HO_3;have HB:=n0_;have HO185:=n1_;clear n0_ n1_;clear ho hb hg hat;have p15:0≤(x5_1:Int):=of_decide_eq_true vA;have q15:x5_1<(a0.size:Int):=of_decide_eq_true vA;have hx15:=bt_at a0 x5_1;replace p15:=eq_true p15;replace q15:=eq_true q15;have p20:0≤((ji18):Int):=of_decide_eq_true vA;have q20:(ji18)<(a0.size:Int):=of_decide_eq_true vA;have hx20:=bt_at a0 (ji18);replace p20:=eq_true p20;replace q20:=eq_true q20))
                 go_roundg kj2
                 case measure=>have:=HK1.out;have:=HJ2.out;omega
                 case rel=>exact⟨(y183),(wrap64 ((ji18)+1)),(wrap64 ((ji18)+1)),(by first|rfl|(simp;done)|(simp only[←hji18]<;>(first|rfl|simp))|(simp[*];done)),(by first|rfl|(simp;done)|(simp only[←hji18]<;>(first|rfl|simp))|(simp[*];done)),H',⟨by have:=HK1.out;have:=HJ2.out;omega⟩,⟨by(with_reducible repeat (first|apply Kd.R_alloc|apply Kd.R_drewN|apply Kd.R_drew));exact HO185.out⟩,⟨vB⟩⟩
                ·rw[if_neg c21]at H
                 have c21b0:((bt a0 (ji18))==10)=false:=beq_eq_false_iff_ne.mpr c21;have c21b1:((bt a0 (ji18)) != 10)=true:=bne_iff_ne.mpr c21;have H':=aK H;clear H
                 go_wp2_with (first|((with_reducible refine gate_builtin (b:=.append) (xs:=#[.tmp 22,.tmp 27]) rfl ?_);(try (refine gate_guard (by rfl) ?_;dsimp only));at_builtin;refine Kd.R_append Kd.string (w0:=w) w.heap.size rfl (.tmp 22) (.tmp 27) 25 9 (.string ⟨#[]⟩) 16 rfl Tryz.underlying25 info9 rfl (by decide) (by omega) u3 x3_1 (a0.extract (x4_1:Int).toNat (x5_1:Int).toNat) [.string (a0.extract (x4_1:Int).toNat (x5_1:Int).toNat)] (fun _=>True) (fun _=>False) rfl rfl ?aP (fun _ hk=>hk.elim) ?aF ?aO ?aB ?aS ?aL ?_;(case aP=>exact rfl);(case aB=>exact vB);(case aF=>exact(fun _ _=>trivial));(case aO=>exact(by(with_reducible repeat (first|apply Kd.R_alloc|apply Kd.R_drewN|apply Kd.R_drew));exact HO_3.out));(case aS=>exact(below_size vB));(case aL=>have:=LMc12.out;omega);intro v184 w23 ho hb hg hat;rw[←Ny183.out]at ho;have n0_:=aK (hb);have n1_:=aK (ho);clear HB;clear HO_3;have HB:=n0_;have HO185:=n1_;clear n0_ n1_;clear ho hb hg hat;have p15:0≤(x5_1:Int):=of_decide_eq_true vA;have q15:x5_1<(a0.size:Int):=of_decide_eq_true vA;have hx15:=bt_at a0 x5_1;replace p15:=eq_true p15;replace q15:=eq_true q15;have p20:0≤((ji18):Int):=of_decide_eq_true vA;have q20:(ji18)<(a0.size:Int):=of_decide_eq_true vA;have hx20:=bt_at a0 (ji18);replace p20:=eq_true p20;replace q20:=eq_true q20))
                 go_roundg kj2
                 case measure=>have:=HK1.out;have:=HJ2.out;omega
                 case rel=>exact⟨(y183),(ji18),(ji18),(by first|rfl|(simp;done)|(simp only[←hji18]<;>(first|rfl|simp))|(simp[*];done)),(by first|rfl|(simp;done)|(simp only[←hji18]<;>(first|rfl|simp))|(simp[*];done)),H',⟨by have:=HK1.out;have:=HJ2.out;omega⟩,⟨by(with_reducible repeat (first|apply Kd.R_alloc|apply Kd.R_drewN|apply Kd.R_drew));exact HO185.out⟩,⟨vB⟩⟩
               ·rw[if_neg c19]at H
                exact absurd H (by simp)
              ·rw[if_neg c17]at H
               have c17b0:decide ((wrap64 (x5_1+1))<(a0.size:Int))=false:=decide_eq_false c17;clear c17;have H':=aK H;clear H
               go_wp2_with (first|((with_reducible refine gate_builtin (b:=.append) (xs:=#[.tmp 22,.tmp 27]) rfl ?_);(try (refine gate_guard (by rfl) ?_;dsimp only));at_builtin;refine Kd.R_append Kd.string (w0:=w) w.heap.size rfl (.tmp 22) (.tmp 27) 25 9 (.string ⟨#[]⟩) 16 rfl Tryz.underlying25 info9 rfl (by decide) (by omega) u3 x3_1 (a0.extract (x4_1:Int).toNat (x5_1:Int).toNat) [.string (a0.extract (x4_1:Int).toNat (x5_1:Int).toNat)] (fun _=>True) (fun _=>False) rfl rfl ?aP (fun _ hk=>hk.elim) ?aF ?aO ?aB ?aS ?aL ?_;(case aP=>exact rfl);(case aB=>exact vB);(case aF=>exact(fun _ _=>trivial));(case aO=>exact(by(with_reducible repeat (first|apply Kd.R_alloc|apply Kd.R_drewN|apply Kd.R_drew));exact HO_3.out));(case aS=>exact(below_size vB));(case aL=>have:=LMc12.out;omega);intro v184 w24 ho hb hg hat;rw[←Ny183.out]at ho;have n0_:=aK (hb);have n1_:=aK (ho);clear HB;clear HO_3;have HB:=n0_;have HO185:=n1_;clear n0_ n1_;clear ho hb hg hat;have p15:0≤(x5_1:Int):=of_decide_eq_true vA;have q15:x5_1<(a0.size:Int):=of_decide_eq_true vA;have hx15:=bt_at a0 x5_1;replace p15:=eq_true p15;replace q15:=eq_true q15))
               go_roundg kj2
               case measure=>have:=HK1.out;have:=HJ2.out;omega
               case rel=>exact⟨(y183),(wrap64 (x5_1+1)),(wrap64 (x5_1+1)),vR,vR,H',⟨by have:=HK1.out;have:=HJ2.out;omega⟩,⟨by(with_reducible repeat (first|apply Kd.R_alloc|apply Kd.R_drewN|apply Kd.R_drew));exact HO185.out⟩,⟨vB⟩⟩
             ·rw[if_neg c16]at H
              have c16b0:((bt a0 x5_1)==13)=false:=beq_eq_false_iff_ne.mpr c16;have c16b1:((bt a0 x5_1) != 13)=true:=bne_iff_ne.mpr c16;have H':=aK H;clear H
              go_wp2_with (first|((with_reducible refine gate_builtin (b:=.append) (xs:=#[.tmp 22,.tmp 27]) rfl ?_);(try (refine gate_guard (by rfl) ?_;dsimp only));at_builtin;refine Kd.R_append Kd.string (w0:=w) w.heap.size rfl (.tmp 22) (.tmp 27) 25 9 (.string ⟨#[]⟩) 16 rfl Tryz.underlying25 info9 rfl (by decide) (by omega) u3 x3_1 (a0.extract (x4_1:Int).toNat (x5_1:Int).toNat) [.string (a0.extract (x4_1:Int).toNat (x5_1:Int).toNat)] (fun _=>True) (fun _=>False) rfl rfl ?aP (fun _ hk=>hk.elim) ?aF ?aO ?aB ?aS ?aL ?_;(case aP=>exact rfl);(case aB=>exact vB);(case aF=>exact(fun _ _=>trivial));(case aO=>exact(by(with_reducible repeat (first|apply Kd.R_alloc|apply Kd.R_drewN|apply Kd.R_drew));exact HO_3.out));(case aS=>exact(below_size vB));(case aL=>have:=LMc12.out;omega);intro v184 w25 ho hb hg hat;rw[←Ny183.out]at ho;have n0_:=aK (hb);have n1_:=aK (ho);clear HB;clear HO_3;have HB:=n0_;have HO185:=n1_;clear n0_ n1_;clear ho hb hg hat;have p15:0≤(x5_1:Int):=of_decide_eq_true vA;have q15:x5_1<(a0.size:Int):=of_decide_eq_true vA;have hx15:=bt_at a0 x5_1;replace p15:=eq_true p15;replace q15:=eq_true q15))
              go_roundg kj2
              case measure=>have:=HK1.out;have:=HJ2.out;omega
              case rel=>exact⟨(y183),(wrap64 (x5_1+1)),(wrap64 (x5_1+1)),vR,vR,H',⟨by have:=HK1.out;have:=HJ2.out;omega⟩,⟨by(with_reducible repeat (first|apply Kd.R_alloc|apply Kd.R_drewN|apply Kd.R_drew));exact HO185.out⟩,⟨vB⟩⟩
            ·rw[if_neg c14]at H
             exact absurd H (by simp)
           ·rw[if_neg c13]at H
            exact absurd H (by simp)
          ·rw[if_neg c12]at H
           exact absurd H (by simp)
         ·rw[if_neg c11]at H
          exact absurd H (by simp)
        ·rw[if_neg c10]at H
         exact absurd H (by simp)
       ·rw[if_neg c9]at H
        exact absurd H (by simp)
   ·rw[if_neg c2]at H
    have c2b0:decide (x5_1<(a0.size:Int))=false:=decide_eq_false c2;clear c2
    by_cases c26:0≤x4_1
    ·rw[if_pos c26]at H
     have c26b0:=eq_true c26;have c26b1:decide (0≤x4_1)=true:=decide_eq_true c26;clear c26
     by_cases c27:x4_1≤(a0.size:Int)
     ·rw[if_pos c27]at H
      have c27b0:=eq_true c27;have c27b1:decide (x4_1≤(a0.size:Int))=true:=decide_eq_true c27;clear c27
      by_cases c28:x3_1.length<8796093022208
      ·rw[if_pos c28]at H
       have LMc28:=aK c28;clear c28;obtain⟨y180,hy180⟩:∃y_:List ByteArray,y_=(x3_1++[a0.extract (x4_1:Int).toNat a0.size]):=⟨_,rfl⟩;replace H:(some y180)=some r:=by first|(rw[hy180];with_reducible exact H)|(have H2_:=(Option.bind_some _ _).symm.trans H;rw[hy180];with_reducible exact H2_)|(have H2_:=(Option.bind_some _ _).symm.trans H;with_reducible exact H2_)|with_reducible exact H|(rw[hy180];exact H)|exact H
       have Ny180:=aK hy180;clear hy180;obtain rfl:=Option.some.inj H
       go_wp2_with (first|((with_reducible refine gate_builtin (b:=.append) (xs:=#[.tmp 51,.tmp 55]) rfl ?_);(try (refine gate_guard (by rfl) ?_;dsimp only));at_builtin;refine Kd.R_append Kd.string (w0:=w) w.heap.size rfl (.tmp 51) (.tmp 55) 25 9 (.string ⟨#[]⟩) 16 rfl Tryz.underlying25 info9 rfl (by decide) (by omega) u3 x3_1 (a0.extract (x4_1:Int).toNat a0.size) [.string (a0.extract (x4_1:Int).toNat a0.size)] (fun _=>True) (fun _=>False) rfl rfl ?aP (fun _ hk=>hk.elim) ?aF ?aO ?aB ?aS ?aL ?_;(case aP=>exact rfl);(case aB=>exact vB);(case aF=>exact(fun _ _=>trivial));(case aO=>exact(by(with_reducible repeat (first|apply Kd.R_alloc|apply Kd.R_drewN|apply Kd.R_drew));exact HO_3.out));(case aS=>exact(below_size vB));(case aL=>have:=LMc28.out;omega);intro v181 w29 ho hb hg hat;rw[←Ny180.out]at ho;have n0_:=aK (hb);have n1_:=aK (ho);clear HB;clear HO_3;have HB:=n0_;have HO182:=n1_;clear n0_ n1_;clear ho hb hg hat))
       go_ret
       exact⟨_,vE,by(with_reducible repeat (first|apply Kd.R_alloc|apply Kd.R_drewN|apply Kd.R_drew));exact HO182.out,vB⟩
      ·rw[if_neg c28]at H
       exact absurd H (by simp)
     ·rw[if_neg c27]at H
      exact absurd H (by simp)
    ·rw[if_neg c26]at H
     exact absurd H (by simp)
def spec_leading.l0:Nat→ByteArray→Int→Option (Int)
 | 0,_,_=>none
 | k+1,x0,x3=>if x3<(x0.size:Int)then(if 0≤x3 then(if (bt x0 x3)=32 then(spec_leading.l0 k x0 (wrap64 (x3+1)))else(if (bt x0 x3)=9 then(spec_leading.l0 k x0 (wrap64 (x3+1)))else(some x3)))else(none))else(some x3)
def spec_leading.f (k:Nat) (a0:ByteArray):Option (Int):=spec_leading.l0 k a0 0
theorem spec_leading.mono_l:∀k,(∀y0 y1,LeO (spec_leading.l0 k y0 y1) (spec_leading.l0 (k+1) y0 y1))
 | 0=>fun _ _ r h=>by simp[spec_leading.l0]at h
 | k+1=>by
  have ih0:=spec_leading.mono_l k
  ·intro y0 y1
   unfold spec_leading.l0
   repeat' first
   | (with_reducible exact ih0 _ _)
   | (with_reducible exact LeO.refl _)
   | (with_reducible exact LeO.none _)
   | (with_reducible refine LeO.ite ?_ ?_)
   | (with_reducible refine LeO.bind ?_ (fun _=>?_))
   | exact ih0 _ _
   | exact LeO.none _
   | refine LeO.ite ?_ ?_
   | refine LeO.bind ?_ (fun _=>?_)
theorem spec_leading.mono:∀a0 k,LeO (spec_leading.f k a0) (spec_leading.f (k+1) a0):=by
 intro a0 k;have ih0:=spec_leading.mono_l k;unfold spec_leading.f
 repeat' first
   | (with_reducible exact ih0 _ _)
   | (with_reducible exact LeO.refl _)
   | (with_reducible exact LeO.none _)
   | (with_reducible refine LeO.ite ?_ ?_)
   | (with_reducible refine LeO.bind ?_ (fun _=>?_))
   | exact ih0 _ _
   | exact LeO.none _
   | refine LeO.ite ?_ ?_
   | refine LeO.bind ?_ (fun _=>?_)
theorem spec_leading.calls (k:Nat) (a0:ByteArray) (r:Int) (w:World) (h:spec_leading.f k a0=some r) :
  Calls Tryz.prog 77 #[.string a0] w fun e w'=>e = .returned (.int .i64 r)∧Drawn0 w w':=by
 have H:(spec_leading.l0 k a0 0)=some r:=h;clear h;have H':=aK H;clear H;go_enter Tryz.func77,Tryz.ntmps77;go_wp2
 go_loopg [3] k (fun kq v3 w'=>∃(x3_1:Int),v3 = .int .i64 x3_1∧Aside0 (spec_leading.l0 kq a0 x3_1=some r)∧Aside0 (kq≤k)∧Drawn0 w w')
 case atStart=>exact⟨(0),vR,H',⟨Nat.le_refl _⟩,vD⟩
 case round=>
  clear H';obtain⟨x3_1,rfl,HA,HK1,⟨m1,rfl⟩⟩:=hrel;cases gk with
  | zero=>exact absurd HA.out (by simp[spec_leading.l0])
  | succ k1=>
   have H:=HA.out;clear HA;simp only[spec_leading.l0]at H
   by_cases c2:x3_1<(a0.size:Int)
   ·rw[if_pos c2]at H
    have c2b0:decide (x3_1<(a0.size:Int))=true:=decide_eq_true c2;clear c2
    by_cases c3:0≤x3_1
    ·rw[if_pos c3]at H
     have c3b0:decide (0≤x3_1)=true:=decide_eq_true c3;clear c3
     by_cases c5:(bt a0 x3_1)=32
     ·rw[if_pos c5]at H
      have c5b0:((bt a0 x3_1)==32)=true:=beq_iff_eq.mpr c5;have c5b1:((bt a0 x3_1) != 32)=false:=bne_eq_false_iff_eq.mpr c5;clear c5;have H':=aK H;clear H;have p4:0≤(x3_1:Int):=of_decide_eq_true vA;have q4:x3_1<(a0.size:Int):=of_decide_eq_true vA;have hx4:=bt_at a0 x3_1;replace p4:=eq_true p4;replace q4:=eq_true q4;go_wp2
      go_roundg k1
      case measure=>have:=HK1.out;omega
      case rel=>exact⟨(wrap64 (x3_1+1)),vR,H',⟨by have:=HK1.out;omega⟩,vD⟩
     ·rw[if_neg c5]at H
      have c5b0:((bt a0 x3_1)==32)=false:=beq_eq_false_iff_ne.mpr c5;have c5b1:((bt a0 x3_1) != 32)=true:=bne_iff_ne.mpr c5
      by_cases c7:(bt a0 x3_1)=9
      ·rw[if_pos c7]at H
       have c7b0:((bt a0 x3_1)==9)=true:=beq_iff_eq.mpr c7;have c7b1:((bt a0 x3_1) != 9)=false:=bne_eq_false_iff_eq.mpr c7;clear c7;have H':=aK H;clear H;have p4:0≤(x3_1:Int):=of_decide_eq_true vA;have q4:x3_1<(a0.size:Int):=of_decide_eq_true vA;have hx4:=bt_at a0 x3_1;replace p4:=eq_true p4;replace q4:=eq_true q4;have p6:0≤(x3_1:Int):=of_decide_eq_true vA;have q6:x3_1<(a0.size:Int):=of_decide_eq_true vA;have hx6:=bt_at a0 x3_1;replace p6:=eq_true p6;replace q6:=eq_true q6;go_wp2
       go_roundg k1
       case measure=>have:=HK1.out;omega
       case rel=>exact⟨(wrap64 (x3_1+1)),vR,H',⟨by have:=HK1.out;omega⟩,vD⟩
      ·rw[if_neg c7]at H
       have c7b0:((bt a0 x3_1)==9)=false:=beq_eq_false_iff_ne.mpr c7;have c7b1:((bt a0 x3_1) != 9)=true:=bne_iff_ne.mpr c7;obtain rfl:=Option.some.inj H;have p4:0≤(x3_1:Int):=of_decide_eq_true vA;have q4:x3_1<(a0.size:Int):=of_decide_eq_true vA;have hx4:=bt_at a0 x3_1;replace p4:=eq_true p4;replace q4:=eq_true q4;have p6:0≤(x3_1:Int):=of_decide_eq_true vA;have q6:x3_1<(a0.size:Int):=of_decide_eq_true vA;have hx6:=bt_at a0 x3_1;replace p6:=eq_true p6;replace q6:=eq_true q6;go_wp2
       go_ret
       exact⟨vR,vD⟩
    ·rw[if_neg c3]at H
     exact absurd H (by simp)
   ·rw[if_neg c2]at H
    have c2b0:decide (x3_1<(a0.size:Int))=false:=decide_eq_false c2;clear c2;obtain rfl:=Option.some.inj H;go_wp2
    go_ret
    exact⟨vR,vD⟩
def spec_common.l0:Nat→List ByteArray→Int→Int→Option (Int)
 | 0,_,_,_=>none
 | k+1,x0,x3,x4=>if x4<(x0.length:Int)then(if 0≤x4 then((spec_leading.f k (rdOf ByteArray.empty x0 x4)).bind fun t187=>(if t187<((rdOf ByteArray.empty x0 x4).size:Int)then(if x3<0 then(spec_common.l0 k x0 t187 (wrap64 (x4+1)))else(if t187<x3 then(spec_common.l0 k x0 t187 (wrap64 (x4+1)))else(spec_common.l0 k x0 x3 (wrap64 (x4+1)))))else(spec_common.l0 k x0 x3 (wrap64 (x4+1)))))else(none))else(some (mx x3 0))
def spec_common.f (k:Nat) (l0:List ByteArray):Option (Int):=spec_common.l0 k l0 (-1) 1
theorem spec_common.mono_l:∀k,(∀y0 y1 y2,LeO (spec_common.l0 k y0 y1 y2) (spec_common.l0 (k+1) y0 y1 y2))
 | 0=>fun _ _ _ r h=>by simp[spec_common.l0]at h
 | k+1=>by
  have ih0:=spec_common.mono_l k
  ·intro y0 y1 y2
   unfold spec_common.l0
   repeat' first
   | (with_reducible exact ih0 _ _ _)
   | (with_reducible exact spec_leading.mono _ _)
   | (with_reducible exact LeO.refl _)
   | (with_reducible exact LeO.none _)
   | (with_reducible refine LeO.ite ?_ ?_)
   | (with_reducible refine LeO.bind ?_ (fun _=>?_))
   | exact ih0 _ _ _
   | exact spec_leading.mono _ _
   | exact LeO.none _
   | refine LeO.ite ?_ ?_
   | refine LeO.bind ?_ (fun _=>?_)
theorem spec_common.mono:∀a0 k,LeO (spec_common.f k a0) (spec_common.f (k+1) a0):=by
 intro a0 k;have ih0:=spec_common.mono_l k;unfold spec_common.f
 repeat' first
   | (with_reducible exact ih0 _ _ _)
   | (with_reducible exact spec_leading.mono _ _)
   | (with_reducible exact LeO.refl _)
   | (with_reducible exact LeO.none _)
   | (with_reducible refine LeO.ite ?_ ?_)
   | (with_reducible refine LeO.bind ?_ (fun _=>?_))
   | exact ih0 _ _ _
   | exact spec_leading.mono _ _
   | exact LeO.none _
   | refine LeO.ite ?_ ?_
   | refine LeO.bind ?_ (fun _=>?_)
theorem spec_common.calls (k:Nat) (A0:Option Addr) (c0:Nat) (l0:List ByteArray) (r:Int) (w:World) (hr0:Kd.C Kd.string w A0 l0.length l0) (hc0:l0.length≤c0) (h:spec_common.f k l0=some r) :
  Calls Tryz.prog 76 #[.slice A0 l0.length c0] w fun e w'=>e = .returned (.int .i64 r)∧Below w.heap.size w w':=by
 have HR0:=aK hr0;have HC0:=aK hc0;clear hr0 hc0;have HB:=aK (Below.refl w.heap.size w);have H:(spec_common.l0 k l0 (-1) 1)=some r:=h;clear h;have H':=aK H;clear H;go_enter Tryz.func76,Tryz.ntmps76;go_wp2
 go_loopg [3,4] k (fun kq v3 v4 w'=>∃(x3_1:Int) (x4_1:Int),v3 = .int .i64 x3_1∧v4 = .int .i64 x4_1∧Aside0 (spec_common.l0 kq l0 x3_1 x4_1=some r)∧Aside0 (kq≤k)∧Aside0 (Below w.heap.size w w'))
 case atStart=>exact⟨((-1)),(1),vR,vR,H',⟨Nat.le_refl _⟩,⟨vB⟩⟩
 case round=>
  clear H';obtain⟨x3_1,x4_1,rfl,rfl,HA,HK1,HB⟩:=hrel;cases gk with
  | zero=>exact absurd HA.out (by simp[spec_common.l0])
  | succ k1=>
   have H:=HA.out;clear HA;simp only[spec_common.l0]at H
   by_cases c2:x4_1<(l0.length:Int)
   ·rw[if_pos c2]at H
    have c2b0:decide (x4_1<(l0.length:Int))=true:=decide_eq_true c2;clear c2
    by_cases c3:0≤x4_1
    ·rw[if_pos c3]at H
     have c3b0:decide (0≤x4_1)=true:=decide_eq_true c3;clear c3;replace H:=Option.bind_eq_some_iff.mp H;obtain⟨t187,A40,H⟩:=H;replace H:(if t187<((rdOf ByteArray.empty l0 x4_1).size:Int)then(if x3_1<0 then(spec_common.l0 k1 l0 t187 (wrap64 (x4_1+1)))else(if t187<x3_1 then(spec_common.l0 k1 l0 t187 (wrap64 (x4_1+1)))else(spec_common.l0 k1 l0 x3_1 (wrap64 (x4_1+1)))))else(spec_common.l0 k1 l0 x3_1 (wrap64 (x4_1+1))))=some r:=H
     have A4:=aK A40;clear A40
     by_cases c5:t187<((rdOf ByteArray.empty l0 x4_1).size:Int)
     ·rw[if_pos c5]at H
      have c5b0:decide (t187<((rdOf ByteArray.empty l0 x4_1).size:Int))=true:=decide_eq_true c5;clear c5
      by_cases c6:x3_1<0
      ·rw[if_pos c6]at H
       have c6b0:decide (x3_1<0)=true:=decide_eq_true c6;clear c6;have H':=aK H;clear H;have p186:0≤(x4_1:Int):=of_decide_eq_true vA;have q186:x4_1<(l0.length:Int):=of_decide_eq_true vA;obtain⟨ad186,e186,hx186_0⟩:=Kd.at_string HR0.out x4_1 p186 q186;cases e186;replace hx186_0:=(HB.out.cell (World.block_lt_of_cell? w _ hx186_0)).trans hx186_0;replace p186:=eq_true p186;replace q186:=eq_true q186
       go_wp2_with (first|((with_reducible refine gate_callee (f:=77) rfl ?_);refine goesL_ (some 16) rfl rfl Tryz.func77 (by kernel_rfl) rfl #[.string (rdOf ByteArray.empty l0 x4_1)] rfl (by(try simp only[List.map_toArray,List.map_cons,List.map_nil]);first|done|rfl|(simp only[List.length_drop,List.length_take];rfl)) ?_;(with_reducible refine(spec_leading.calls k1 (rdOf ByteArray.empty l0 x4_1) t187 _ A4.out).mono ?_);rintro e w' ⟨rfl,⟨nd,rfl⟩⟩;refine⟨_,rfl,?_⟩;have p188:0≤(x4_1:Int):=of_decide_eq_true vA;have q188:x4_1<(l0.length:Int):=of_decide_eq_true vA;obtain⟨ad188,e188,hx188_0⟩:=Kd.at_string HR0.out x4_1 p188 q188;obtain rfl:ad186=ad188:=(by injection e188);replace hx188_0:=(HB.out.cell (World.block_lt_of_cell? w _ hx188_0)).trans hx188_0;replace p188:=eq_true p188;replace q188:=eq_true q188))
       go_roundg k1
       case measure=>have:=HK1.out;omega
       case rel=>exact⟨(t187),(wrap64 (x4_1+1)),vR,vR,H',⟨by have:=HK1.out;omega⟩,⟨vB⟩⟩
      ·rw[if_neg c6]at H
       have c6b0:decide (x3_1<0)=false:=decide_eq_false c6;clear c6
       by_cases c7:t187<x3_1
       ·rw[if_pos c7]at H
        have c7b0:decide (t187<x3_1)=true:=decide_eq_true c7;clear c7;have H':=aK H;clear H;have p186:0≤(x4_1:Int):=of_decide_eq_true vA;have q186:x4_1<(l0.length:Int):=of_decide_eq_true vA;obtain⟨ad186,e186,hx186_0⟩:=Kd.at_string HR0.out x4_1 p186 q186;cases e186;replace hx186_0:=(HB.out.cell (World.block_lt_of_cell? w _ hx186_0)).trans hx186_0;replace p186:=eq_true p186;replace q186:=eq_true q186
        go_wp2_with (first|((with_reducible refine gate_callee (f:=77) rfl ?_);refine goesL_ (some 16) rfl rfl Tryz.func77 (by kernel_rfl) rfl #[.string (rdOf ByteArray.empty l0 x4_1)] rfl (by(try simp only[List.map_toArray,List.map_cons,List.map_nil]);first|done|rfl|(simp only[List.length_drop,List.length_take];rfl)) ?_;(with_reducible refine(spec_leading.calls k1 (rdOf ByteArray.empty l0 x4_1) t187 _ A4.out).mono ?_);rintro e w' ⟨rfl,⟨nd,rfl⟩⟩;refine⟨_,rfl,?_⟩;have p188:0≤(x4_1:Int):=of_decide_eq_true vA;have q188:x4_1<(l0.length:Int):=of_decide_eq_true vA;obtain⟨ad188,e188,hx188_0⟩:=Kd.at_string HR0.out x4_1 p188 q188;obtain rfl:ad186=ad188:=(by injection e188);replace hx188_0:=(HB.out.cell (World.block_lt_of_cell? w _ hx188_0)).trans hx188_0;replace p188:=eq_true p188;replace q188:=eq_true q188))
        go_roundg k1
        case measure=>have:=HK1.out;omega
        case rel=>exact⟨(t187),(wrap64 (x4_1+1)),vR,vR,H',⟨by have:=HK1.out;omega⟩,⟨vB⟩⟩
       ·rw[if_neg c7]at H
        have c7b0:decide (t187<x3_1)=false:=decide_eq_false c7;clear c7;have H':=aK H;clear H;have p186:0≤(x4_1:Int):=of_decide_eq_true vA;have q186:x4_1<(l0.length:Int):=of_decide_eq_true vA;obtain⟨ad186,e186,hx186_0⟩:=Kd.at_string HR0.out x4_1 p186 q186;cases e186;replace hx186_0:=(HB.out.cell (World.block_lt_of_cell? w _ hx186_0)).trans hx186_0;replace p186:=eq_true p186;replace q186:=eq_true q186
        go_wp2_with (first|((with_reducible refine gate_callee (f:=77) rfl ?_);refine goesL_ (some 16) rfl rfl Tryz.func77 (by kernel_rfl) rfl #[.string (rdOf ByteArray.empty l0 x4_1)] rfl (by(try simp only[List.map_toArray,List.map_cons,List.map_nil]);first|done|rfl|(simp only[List.length_drop,List.length_take];rfl)) ?_;(with_reducible refine(spec_leading.calls k1 (rdOf ByteArray.empty l0 x4_1) t187 _ A4.out).mono ?_);rintro e w' ⟨rfl,⟨nd,rfl⟩⟩;refine⟨_,rfl,?_⟩;have p188:0≤(x4_1:Int):=of_decide_eq_true vA;have q188:x4_1<(l0.length:Int):=of_decide_eq_true vA;obtain⟨ad188,e188,hx188_0⟩:=Kd.at_string HR0.out x4_1 p188 q188;obtain rfl:ad186=ad188:=(by injection e188);replace hx188_0:=(HB.out.cell (World.block_lt_of_cell? w _ hx188_0)).trans hx188_0;replace p188:=eq_true p188;replace q188:=eq_true q188))
        go_roundg k1
        case measure=>have:=HK1.out;omega
        case rel=>exact⟨(x3_1),(wrap64 (x4_1+1)),vR,vR,H',⟨by have:=HK1.out;omega⟩,⟨vB⟩⟩
     ·rw[if_neg c5]at H
      have c5b0:decide (t187<((rdOf ByteArray.empty l0 x4_1).size:Int))=false:=decide_eq_false c5;clear c5;have H':=aK H;clear H;have p186:0≤(x4_1:Int):=of_decide_eq_true vA;have q186:x4_1<(l0.length:Int):=of_decide_eq_true vA;obtain⟨ad186,e186,hx186_0⟩:=Kd.at_string HR0.out x4_1 p186 q186;cases e186;replace hx186_0:=(HB.out.cell (World.block_lt_of_cell? w _ hx186_0)).trans hx186_0;replace p186:=eq_true p186;replace q186:=eq_true q186
      go_wp2_with (first|((with_reducible refine gate_callee (f:=77) rfl ?_);refine goesL_ (some 16) rfl rfl Tryz.func77 (by kernel_rfl) rfl #[.string (rdOf ByteArray.empty l0 x4_1)] rfl (by(try simp only[List.map_toArray,List.map_cons,List.map_nil]);first|done|rfl|(simp only[List.length_drop,List.length_take];rfl)) ?_;(with_reducible refine(spec_leading.calls k1 (rdOf ByteArray.empty l0 x4_1) t187 _ A4.out).mono ?_);rintro e w' ⟨rfl,⟨nd,rfl⟩⟩;refine⟨_,rfl,?_⟩;have p188:0≤(x4_1:Int):=of_decide_eq_true vA;have q188:x4_1<(l0.length:Int):=of_decide_eq_true vA;obtain⟨ad188,e188,hx188_0⟩:=Kd.at_string HR0.out x4_1 p188 q188;obtain rfl:ad186=ad188:=(by injection e188);replace hx188_0:=(HB.out.cell (World.block_lt_of_cell? w _ hx188_0)).trans hx188_0;replace p188:=eq_true p188;replace q188:=eq_true q188))
      go_roundg k1
      case measure=>have:=HK1.out;omega
      case rel=>exact⟨(x3_1),(wrap64 (x4_1+1)),vR,vR,H',⟨by have:=HK1.out;omega⟩,⟨vB⟩⟩
    ·rw[if_neg c3]at H
     exact absurd H (by simp)
   ·rw[if_neg c2]at H
    have c2b0:decide (x4_1<(l0.length:Int))=false:=decide_eq_false c2;clear c2;obtain⟨ji8,hji8⟩:∃j_:Int,(mx x3_1 0)=j_:=⟨_,rfl⟩;replace H:(some ji8)=some r:=by first|(rw[hji8]at H;exact H)|(simp only[hji8]at H ⊢;exact H)
    have hji8_:(if x3_1<0 then 0 else x3_1)=ji8:=hji8
    obtain rfl:=Option.some.inj H;go_wp2
    go_ret
    exact⟨by first|rfl|(simp[errW_none,errW_some]<;>rfl)|(simp only[←hji8];first|rfl|(simp[errW_none,errW_some]<;>rfl))|(simp[*,errW_none,errW_some]<;>rfl),vB⟩
end Go.Proofs.YtjolkdnfbmkjiaaGreatDoor.PFnTokensGaps
