import Derived.Test.YtjolkdnfbmkjiaaGreatDoorVG2
import Derived.Test.YtjolkdnfbmkjiaaGreatDoorVE6
set_option maxRecDepth 100000
set_option maxHeartbeats 8000000
set_option linter.unusedVariables false
set_option linter.unusedSimpArgs false
namespace Go.Proofs.YtjolkdnfbmkjiaaGreatDoor.Wr
open Go.RowKit Mem Go.Proofs.YtjolkdnfbmkjiaaGreatDoorW.PrintWords PFnTokensGaps
theorem fm_25 {V:ByteArray→ByteArray→Prop} {n1 n2 n3:ByteArray} {n4 n5:Int} (h1:IsP V n1) (h3:IsP V n3):Fm V ⟨25,n1,n2,n3,n4,n5⟩:=by
 refine⟨(by constructor<;>dsimp only<;>omega),fun _=>h1,?_,?_,?_,?_,?_,?_,?_,fun _=>h3⟩
 all_goals (intro h9;exfalso;dsimp only at h9;omega)
theorem of_list {x:ByteArray} {l:List UInt8} (h:x.toList=l):x=⟨l.toArray⟩:=by
 apply ByteArray.ext;rw[←h,ByteArray.toList_eq]
theorem p_op (V:ByteArray→ByteArray→Prop) {x:ByteArray} (h:x=(⟨#[113,117,101,114,121]⟩:ByteArray)∨x=(⟨#[109,117,116,97,116,105,111,110]⟩:ByteArray)∨x=(⟨#[115,117,98,115,99,114,105,112,116,105,111,110]⟩:ByteArray)):IsP V x:=by
 rcases h with rfl|rfl|rfl
 ·exact isP_name (by decide) (by decide) (by decide)
 ·exact isP_name (by decide) (by decide) (by decide)
 ·exact isP_name (by decide) (by decide) (by decide)
theorem formed25a {V:ByteArray→ByteArray→Prop} {n1 n2 n3:ByteArray} {n4 n5:Int} (h1:NameC V n1) (h2:NameC V n2) (h3:NameC V n3) (hn2:n2.toList.isEmpty=true) (W:World) :
  Calls Tryz.prog 19 #[.agg #[.int .i64 25,.string n1,.string n2,.string n3,.int .i64 n4,.int .i64 n5]] W fun e w'=>FPost V W ⟨25,n1,n2,n3,n4,n5⟩ e w':=by
 obtain⟨r1,p1,q1⟩:=h1;obtain⟨r2,p2,q2⟩:=h2;obtain⟨r3,p3,q3⟩:=h3;have P1:=aK p1;have P2:=aK p2;have P3:=aK p3;have Q1:=aK q1;have Q2:=aK q2;have Q3:=aK q3;have HBK:=aK (Blk.new W 35 #[.int .i64 25,.string n1,.string n2,.string n3,.int .i64 n4,.int .i64 n5]);have HBW:=aK ((Below.refl W.heap.size W).alloc (Nat.le_refl _) (.cells #[.int .i64 25,.string n1,.string n2,.string n3,.int .i64 n4,.int .i64 n5] 35));clear p1 q1 p2 q2 p3 q3;cases r1 with
 | false=>
  go_enter Tryz.func19,Tryz.ntmps19
  go_wp2_with fail
  all_goals first|(go_at_call 34;refine(Q1.out _).mono ?_;rintro e w1 ⟨rfl,hb⟩;obtain⟨HBK,HBW,k0,k1,k2,k3,k4,k5⟩:=stp HBK HBW hb;clear hb;go_wp2_with fail;all_goals (refine bodyPost_ret (results_tmp rfl _ _ _) rfl ?_;refine⟨_,rfl,HBW.out,?_⟩;first|(intro h;cases h;done)|exact fun _=>fm_25 (P1.out (by first|rfl|trivial)) (p_op V (by first|exact .inl (of_list ‹_›)|exact .inr (.inl (of_list ‹_›))|exact .inr (.inr (of_list ‹_›))))))|(refine bodyPost_ret (results_tmp rfl _ _ _) rfl ?_;refine⟨_,rfl,HBW.out,?_⟩;first|(intro h;cases h;done)|exact fun _=>fm_25 (P1.out (by first|rfl|trivial)) (p_op V (by first|exact .inl (of_list ‹_›)|exact .inr (.inl (of_list ‹_›))|exact .inr (.inr (of_list ‹_›)))))
 | true=>
  go_enter Tryz.func19,Tryz.ntmps19
  go_wp2_with fail
  all_goals first|(go_at_call 34;refine(Q1.out _).mono ?_;rintro e w1 ⟨rfl,hb⟩;obtain⟨HBK,HBW,k0,k1,k2,k3,k4,k5⟩:=stp HBK HBW hb;clear hb;go_wp2_with fail;all_goals (refine bodyPost_ret (results_tmp rfl _ _ _) rfl ?_;refine⟨_,rfl,HBW.out,?_⟩;first|(intro h;cases h;done)|exact fun _=>fm_25 (P1.out (by first|rfl|trivial)) (p_op V (by first|exact .inl (of_list ‹_›)|exact .inr (.inl (of_list ‹_›))|exact .inr (.inr (of_list ‹_›))))))|(refine bodyPost_ret (results_tmp rfl _ _ _) rfl ?_;refine⟨_,rfl,HBW.out,?_⟩;first|(intro h;cases h;done)|exact fun _=>fm_25 (P1.out (by first|rfl|trivial)) (p_op V (by first|exact .inl (of_list ‹_›)|exact .inr (.inl (of_list ‹_›))|exact .inr (.inr (of_list ‹_›)))))
theorem formed25b {V:ByteArray→ByteArray→Prop} {n1 n2 n3:ByteArray} {n4 n5:Int} (h1:NameC V n1) (h2:NameC V n2) (h3:NameC V n3) (hn2:n2.toList.isEmpty=false) (W:World) :
  Calls Tryz.prog 19 #[.agg #[.int .i64 25,.string n1,.string n2,.string n3,.int .i64 n4,.int .i64 n5]] W fun e w'=>FPost V W ⟨25,n1,n2,n3,n4,n5⟩ e w':=by
 obtain⟨r1,p1,q1⟩:=h1;obtain⟨r2,p2,q2⟩:=h2;obtain⟨r3,p3,q3⟩:=h3;have P1:=aK p1;have P2:=aK p2;have P3:=aK p3;have Q1:=aK q1;have Q2:=aK q2;have Q3:=aK q3;have HBK:=aK (Blk.new W 35 #[.int .i64 25,.string n1,.string n2,.string n3,.int .i64 n4,.int .i64 n5]);have HBW:=aK ((Below.refl W.heap.size W).alloc (Nat.le_refl _) (.cells #[.int .i64 25,.string n1,.string n2,.string n3,.int .i64 n4,.int .i64 n5] 35));clear p1 q1 p2 q2 p3 q3;go_enter Tryz.func19,Tryz.ntmps19
 go_wp2_with fail
 all_goals (refine bodyPost_ret (results_tmp rfl _ _ _) rfl ?_;refine⟨_,rfl,HBW.out,?_⟩;first|(intro h;cases h;done)|exact fun _=>fm_25 (by assumption) (by assumption))
theorem fm_2 {V:ByteArray→ByteArray→Prop} {n1 n2 n3:ByteArray} {n4 n5:Int} (h:(n4=0∧IsP V n3∧(n1.toList.isEmpty=true∨IsP V n1))∨n4=1):Fm V ⟨2,n1,n2,n3,n4,n5⟩:=by
 refine⟨(by constructor<;>dsimp only<;>omega),fun h=>?_,fun _=>h,?_,?_,?_,?_,?_,?_,?_⟩
 ·exfalso;apply h;simp
 all_goals (intro h9;exfalso;dsimp only at h9;omega)
theorem formed2ae {V:ByteArray→ByteArray→Prop} {n1 n2 n3:ByteArray} {n4 n5:Int} (h4:n4=0) (hn1:n1.toList.isEmpty=true) (W:World) :
  Calls Tryz.prog 19 #[.agg #[.int .i64 2,.string n1,.string n2,.string n3,.int .i64 n4,.int .i64 n5]] W fun e w'=>FPost V W ⟨2,n1,n2,n3,n4,n5⟩ e w':=by
 subst h4;have HBW:=aK ((Below.refl W.heap.size W).alloc (Nat.le_refl _) (.cells #[.int .i64 2,.string n1,.string n2,.string n3,.int .i64 0,.int .i64 n5] 35));cases hn2:n2.toList.isEmpty with
 | false=>
  go_enter Tryz.func19,Tryz.ntmps19
  go_wp2_with fail
  refine bodyPost_ret (results_tmp rfl _ _ _) rfl ?_;exact⟨false,rfl,HBW.out,fun h=>by cases h⟩
 | true=>
  go_enter Tryz.func19,Tryz.ntmps19
  go_wp2_with fail
  all_goals
   refine bodyPost_ret (results_tmp rfl _ _ _) rfl ?_;refine⟨_,rfl,HBW.out,?_⟩
   first
   | (intro h;cases h;done)
   | exact fun _=>fm_2 (.inl ⟨rfl,(p_op V (by first|exact .inl (of_list ‹_›)|exact .inr (.inl (of_list ‹_›))|exact .inr (.inr (of_list ‹_›)))),.inl (by assumption)⟩)
theorem formed2an {V:ByteArray→ByteArray→Prop} {n1 n2 n3:ByteArray} {n4 n5:Int} (h1:NameC V n1) (h4:n4=0) (hn1:n1.toList.isEmpty=false) (W:World) :
  Calls Tryz.prog 19 #[.agg #[.int .i64 2,.string n1,.string n2,.string n3,.int .i64 n4,.int .i64 n5]] W fun e w'=>FPost V W ⟨2,n1,n2,n3,n4,n5⟩ e w':=by
 subst h4;obtain⟨r1,p1,q1⟩:=h1;have P1:=aK p1;have Q1:=aK q1;have HBK:=aK (Blk.new W 35 #[.int .i64 2,.string n1,.string n2,.string n3,.int .i64 0,.int .i64 n5]);have HBW:=aK ((Below.refl W.heap.size W).alloc (Nat.le_refl _) (.cells #[.int .i64 2,.string n1,.string n2,.string n3,.int .i64 0,.int .i64 n5] 35));clear p1 q1;cases hn2:n2.toList.isEmpty with
 | false=>
  go_enter Tryz.func19,Tryz.ntmps19
  go_wp2_with fail
  refine bodyPost_ret (results_tmp rfl _ _ _) rfl ?_;exact⟨false,rfl,HBW.out,fun h=>by cases h⟩
 | true=>
  cases hr1:r1 with
  | false=>
   rw[hr1]at Q1;go_enter Tryz.func19,Tryz.ntmps19
   go_wp2_with (first|(go_at_call 34;refine(Q1.out _).mono ?_;rintro e w1 ⟨rfl,hb⟩;obtain⟨HBK,HBW,k0,k1,k2,k3,k4,k5⟩:=stp HBK HBW hb;clear hb))
   all_goals
    refine bodyPost_ret (results_tmp rfl _ _ _) rfl ?_;refine⟨_,rfl,HBW.out,?_⟩
    first
    | (intro h;cases h;done)
    | exact fun _=>(by exact absurd ‹_› (by simp))
  | true=>
   rw[hr1]at Q1 P1;go_enter Tryz.func19,Tryz.ntmps19
   go_wp2_with (first|(go_at_call 34;refine(Q1.out _).mono ?_;rintro e w1 ⟨rfl,hb⟩;obtain⟨HBK,HBW,k0,k1,k2,k3,k4,k5⟩:=stp HBK HBW hb;clear hb))
   all_goals
    refine bodyPost_ret (results_tmp rfl _ _ _) rfl ?_;refine⟨_,rfl,HBW.out,?_⟩
    first
    | (intro h;cases h;done)
    | exact fun _=>fm_2 (.inl ⟨rfl,(p_op V (by first|exact .inl (of_list ‹_›)|exact .inr (.inl (of_list ‹_›))|exact .inr (.inr (of_list ‹_›)))),.inr (P1.out (by first|rfl|trivial))⟩)
theorem formed2ce {V:ByteArray→ByteArray→Prop} {n1 n2 n3:ByteArray} {n4 n5:Int} (h4:n4=1) (hn1:n1.toList.isEmpty=true) (W:World) :
  Calls Tryz.prog 19 #[.agg #[.int .i64 2,.string n1,.string n2,.string n3,.int .i64 n4,.int .i64 n5]] W fun e w'=>FPost V W ⟨2,n1,n2,n3,n4,n5⟩ e w':=by
 subst h4;have HBW:=aK ((Below.refl W.heap.size W).alloc (Nat.le_refl _) (.cells #[.int .i64 2,.string n1,.string n2,.string n3,.int .i64 1,.int .i64 n5] 35));cases hn2:n2.toList.isEmpty with
 | false=>
  go_enter Tryz.func19,Tryz.ntmps19
  go_wp2_with fail
  refine bodyPost_ret (results_tmp rfl _ _ _) rfl ?_;exact⟨false,rfl,HBW.out,fun h=>by cases h⟩
 | true=>
  go_enter Tryz.func19,Tryz.ntmps19
  go_wp2_with fail
  all_goals
   refine bodyPost_ret (results_tmp rfl _ _ _) rfl ?_;refine⟨_,rfl,HBW.out,?_⟩
   first
   | (intro h;cases h;done)
   | exact fun _=>fm_2 (.inr rfl)
theorem formed2cn {V:ByteArray→ByteArray→Prop} {n1 n2 n3:ByteArray} {n4 n5:Int} (h1:NameC V n1) (h4:n4=1) (hn1:n1.toList.isEmpty=false) (W:World) :
  Calls Tryz.prog 19 #[.agg #[.int .i64 2,.string n1,.string n2,.string n3,.int .i64 n4,.int .i64 n5]] W fun e w'=>FPost V W ⟨2,n1,n2,n3,n4,n5⟩ e w':=by
 subst h4;obtain⟨r1,p1,q1⟩:=h1;have P1:=aK p1;have Q1:=aK q1;have HBK:=aK (Blk.new W 35 #[.int .i64 2,.string n1,.string n2,.string n3,.int .i64 1,.int .i64 n5]);have HBW:=aK ((Below.refl W.heap.size W).alloc (Nat.le_refl _) (.cells #[.int .i64 2,.string n1,.string n2,.string n3,.int .i64 1,.int .i64 n5] 35));clear p1 q1;cases hn2:n2.toList.isEmpty with
 | false=>
  go_enter Tryz.func19,Tryz.ntmps19
  go_wp2_with fail
  refine bodyPost_ret (results_tmp rfl _ _ _) rfl ?_;exact⟨false,rfl,HBW.out,fun h=>by cases h⟩
 | true=>
  cases hr1:r1 with
  | false=>
   rw[hr1]at Q1;go_enter Tryz.func19,Tryz.ntmps19
   go_wp2_with (first|(go_at_call 34;refine(Q1.out _).mono ?_;rintro e w1 ⟨rfl,hb⟩;obtain⟨HBK,HBW,k0,k1,k2,k3,k4,k5⟩:=stp HBK HBW hb;clear hb))
   all_goals
    refine bodyPost_ret (results_tmp rfl _ _ _) rfl ?_;refine⟨_,rfl,HBW.out,?_⟩
    first
    | (intro h;cases h;done)
    | exact fun _=>(by exact absurd ‹_› (by simp))
  | true=>
   rw[hr1]at Q1 P1;go_enter Tryz.func19,Tryz.ntmps19
   go_wp2_with (first|(go_at_call 34;refine(Q1.out _).mono ?_;rintro e w1 ⟨rfl,hb⟩;obtain⟨HBK,HBW,k0,k1,k2,k3,k4,k5⟩:=stp HBK HBW hb;clear hb))
   all_goals
    refine bodyPost_ret (results_tmp rfl _ _ _) rfl ?_;refine⟨_,rfl,HBW.out,?_⟩
    first
    | (intro h;cases h;done)
    | exact fun _=>fm_2 (.inr rfl)
theorem formed2ee {V:ByteArray→ByteArray→Prop} {n1 n2 n3:ByteArray} {n4 n5:Int} (h4:n4≠0) (h5:n4≠1) (hn1:n1.toList.isEmpty=true) (W:World) :
  Calls Tryz.prog 19 #[.agg #[.int .i64 2,.string n1,.string n2,.string n3,.int .i64 n4,.int .i64 n5]] W fun e w'=>FPost V W ⟨2,n1,n2,n3,n4,n5⟩ e w':=by
 have e0:(n4==0)=false:=beq_eq_false_iff_ne.2 h4;have e1:(n4==1)=false:=beq_eq_false_iff_ne.2 h5;have e2:decide (n4=0)=false:=decide_eq_false h4;have e3:decide (n4=1)=false:=decide_eq_false h5;have HBW:=aK ((Below.refl W.heap.size W).alloc (Nat.le_refl _) (.cells #[.int .i64 2,.string n1,.string n2,.string n3,.int .i64 n4,.int .i64 n5] 35));cases hn2:n2.toList.isEmpty with
 | false=>
  go_enter Tryz.func19,Tryz.ntmps19
  go_wp2_with fail
  refine bodyPost_ret (results_tmp rfl _ _ _) rfl ?_;exact⟨false,rfl,HBW.out,fun h=>by cases h⟩
 | true=>
  go_enter Tryz.func19,Tryz.ntmps19
  go_wp2_with fail
  all_goals
   refine bodyPost_ret (results_tmp rfl _ _ _) rfl ?_;refine⟨_,rfl,HBW.out,?_⟩
   first
   | (intro h;cases h;done)
   | exact fun _=>(by exact absurd ‹_› (by simp))
theorem formed2en {V:ByteArray→ByteArray→Prop} {n1 n2 n3:ByteArray} {n4 n5:Int} (h1:NameC V n1) (h4:n4≠0) (h5:n4≠1) (hn1:n1.toList.isEmpty=false) (W:World) :
  Calls Tryz.prog 19 #[.agg #[.int .i64 2,.string n1,.string n2,.string n3,.int .i64 n4,.int .i64 n5]] W fun e w'=>FPost V W ⟨2,n1,n2,n3,n4,n5⟩ e w':=by
 have e0:(n4==0)=false:=beq_eq_false_iff_ne.2 h4;have e1:(n4==1)=false:=beq_eq_false_iff_ne.2 h5;have e2:decide (n4=0)=false:=decide_eq_false h4;have e3:decide (n4=1)=false:=decide_eq_false h5;obtain⟨r1,p1,q1⟩:=h1;have P1:=aK p1;have Q1:=aK q1;have HBK:=aK (Blk.new W 35 #[.int .i64 2,.string n1,.string n2,.string n3,.int .i64 n4,.int .i64 n5]);have HBW:=aK ((Below.refl W.heap.size W).alloc (Nat.le_refl _) (.cells #[.int .i64 2,.string n1,.string n2,.string n3,.int .i64 n4,.int .i64 n5] 35));clear p1 q1;cases hn2:n2.toList.isEmpty with
 | false=>
  go_enter Tryz.func19,Tryz.ntmps19
  go_wp2_with fail
  refine bodyPost_ret (results_tmp rfl _ _ _) rfl ?_;exact⟨false,rfl,HBW.out,fun h=>by cases h⟩
 | true=>
  cases hr1:r1 with
  | false=>
   rw[hr1]at Q1;go_enter Tryz.func19,Tryz.ntmps19
   go_wp2_with (first|(go_at_call 34;refine(Q1.out _).mono ?_;rintro e w1 ⟨rfl,hb⟩;obtain⟨HBK,HBW,k0,k1,k2,k3,k4,k5⟩:=stp HBK HBW hb;clear hb))
   all_goals
    refine bodyPost_ret (results_tmp rfl _ _ _) rfl ?_;refine⟨_,rfl,HBW.out,?_⟩
    first
    | (intro h;cases h;done)
    | exact fun _=>(by exact absurd ‹_› (by simp))
  | true=>
   rw[hr1]at Q1 P1;go_enter Tryz.func19,Tryz.ntmps19
   go_wp2_with (first|(go_at_call 34;refine(Q1.out _).mono ?_;rintro e w1 ⟨rfl,hb⟩;obtain⟨HBK,HBW,k0,k1,k2,k3,k4,k5⟩:=stp HBK HBW hb;clear hb))
   all_goals
    refine bodyPost_ret (results_tmp rfl _ _ _) rfl ?_;refine⟨_,rfl,HBW.out,?_⟩
    first
    | (intro h;cases h;done)
    | exact fun _=>(by exact absurd ‹_› (by simp))
end Go.Proofs.YtjolkdnfbmkjiaaGreatDoor.Wr
