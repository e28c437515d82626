import Derived.Test.YtjolkdnfbmkjiaaGreatDoorVG2
set_option maxRecDepth 100000
set_option maxHeartbeats 8000000
set_option linter.unusedVariables false
set_option linter.unusedSimpArgs false
namespace Go.Proofs.YtjolkdnfbmkjiaaGreatDoor.Wr
open Go.RowKit Mem Go.Proofs.YtjolkdnfbmkjiaaGreatDoorW.PrintWords PFnTokensGaps
theorem fm_num {V:ByteArray→ByteArray→Prop} {k:Int} {n1 n2 n3:ByteArray} {n4 n5:Int} (hk:k=12∨k=13) (h:IsP V n3):Fm V ⟨k,n1,n2,n3,n4,n5⟩:=by
 refine⟨(by constructor<;>dsimp only<;>omega),fun h=>?_,?_,?_,?_,?_,fun _=>h,?_,?_,?_⟩
 ·exfalso;apply h;rcases hk with rfl|rfl<;>simp
 all_goals (intro h9;exfalso;dsimp only at h9;omega)
def NumC (V:ByteArray→ByteArray→Prop) (x:ByteArray) (k:Int):Prop:=∀w:World,Calls Tryz.prog 35 #[.string x,.int .i64 k] w fun e w'=>∃r:Bool,e = .returned (.bool r)∧Below w.heap.size w w'∧(r=true→IsP V x)
theorem formed12a {V:ByteArray→ByteArray→Prop} {n1 n2 n3:ByteArray} {n4 n5:Int} (h3:NumC V n3 16) (h4:n4=0) (W:World) :
  Calls Tryz.prog 19 #[.agg #[.int .i64 12,.string n1,.string n2,.string n3,.int .i64 n4,.int .i64 n5]] W fun e w'=>FPost V W ⟨12,n1,n2,n3,n4,n5⟩ e w':=by
 subst h4;have Q1:=aK h3;have HBK:=aK (Blk.new W 35 #[.int .i64 12,.string n1,.string n2,.string n3,.int .i64 0,.int .i64 n5]);have HBW:=aK ((Below.refl W.heap.size W).alloc (Nat.le_refl _) (.cells #[.int .i64 12,.string n1,.string n2,.string n3,.int .i64 0,.int .i64 n5] 35));clear h3;cases hn2:n2.toList.isEmpty with
 | false=>
  go_enter Tryz.func19,Tryz.ntmps19
  go_wp2_with fail
  refine bodyPost_ret (results_tmp rfl _ _ _) rfl ?_;exact⟨false,rfl,HBW.out,fun h=>by cases h⟩
 | true=>
  go_enter Tryz.func19,Tryz.ntmps19
  go_wp2_with fail
  all_goals
   first
   | (go_at_call 35;refine(Q1.out _).mono ?_;rintro e w1 ⟨r,rfl,hb,hp⟩;have P1:=aK hp;clear hp;obtain⟨HBK,HBW,k0,k1,k2,k3,k4,k5⟩:=stp HBK HBW hb;clear hb;cases r<;>(go_wp2_with fail;all_goals (refine bodyPost_ret (results_tmp rfl _ _ _) rfl ?_;refine⟨_,rfl,HBW.out,?_⟩;first|(intro h;cases h;done)|exact fun _=>fm_num (by decide) (P1.out (by first|rfl|trivial)))))
   | (refine bodyPost_ret (results_tmp rfl _ _ _) rfl ?_;exact⟨false,rfl,HBW.out,fun h=>by cases h⟩)
theorem formed12c {V:ByteArray→ByteArray→Prop} {n1 n2 n3:ByteArray} {n4 n5:Int} (h4:n4≠0) (W:World) :
  Calls Tryz.prog 19 #[.agg #[.int .i64 12,.string n1,.string n2,.string n3,.int .i64 n4,.int .i64 n5]] W fun e w'=>FPost V W ⟨12,n1,n2,n3,n4,n5⟩ e w':=by
 have e0:(n4==0)=false:=beq_eq_false_iff_ne.2 h4;have e2:decide (n4=0)=false:=decide_eq_false h4;have HBW:=aK ((Below.refl W.heap.size W).alloc (Nat.le_refl _) (.cells #[.int .i64 12,.string n1,.string n2,.string n3,.int .i64 n4,.int .i64 n5] 35));cases hn2:n2.toList.isEmpty with
 | false=>
  go_enter Tryz.func19,Tryz.ntmps19
  go_wp2_with fail
  refine bodyPost_ret (results_tmp rfl _ _ _) rfl ?_;exact⟨false,rfl,HBW.out,fun h=>by cases h⟩
 | true=>
  go_enter Tryz.func19,Tryz.ntmps19
  go_wp2_with fail
  all_goals
   refine bodyPost_ret (results_tmp rfl _ _ _) rfl ?_;exact⟨false,rfl,HBW.out,fun h=>by cases h⟩
theorem formed13a {V:ByteArray→ByteArray→Prop} {n1 n2 n3:ByteArray} {n4 n5:Int} (h3:NumC V n3 17) (h4:n4=0) (W:World) :
  Calls Tryz.prog 19 #[.agg #[.int .i64 13,.string n1,.string n2,.string n3,.int .i64 n4,.int .i64 n5]] W fun e w'=>FPost V W ⟨13,n1,n2,n3,n4,n5⟩ e w':=by
 subst h4;have Q1:=aK h3;have HBK:=aK (Blk.new W 35 #[.int .i64 13,.string n1,.string n2,.string n3,.int .i64 0,.int .i64 n5]);have HBW:=aK ((Below.refl W.heap.size W).alloc (Nat.le_refl _) (.cells #[.int .i64 13,.string n1,.string n2,.string n3,.int .i64 0,.int .i64 n5] 35));clear h3;cases hn2:n2.toList.isEmpty with
 | false=>
  go_enter Tryz.func19,Tryz.ntmps19
  go_wp2_with fail
  refine bodyPost_ret (results_tmp rfl _ _ _) rfl ?_;exact⟨false,rfl,HBW.out,fun h=>by cases h⟩
 | true=>
  go_enter Tryz.func19,Tryz.ntmps19
  go_wp2_with fail
  all_goals
   first
   | (go_at_call 35;refine(Q1.out _).mono ?_;rintro e w1 ⟨r,rfl,hb,hp⟩;have P1:=aK hp;clear hp;obtain⟨HBK,HBW,k0,k1,k2,k3,k4,k5⟩:=stp HBK HBW hb;clear hb;cases r<;>(go_wp2_with fail;all_goals (refine bodyPost_ret (results_tmp rfl _ _ _) rfl ?_;refine⟨_,rfl,HBW.out,?_⟩;first|(intro h;cases h;done)|exact fun _=>fm_num (by decide) (P1.out (by first|rfl|trivial)))))
   | (refine bodyPost_ret (results_tmp rfl _ _ _) rfl ?_;exact⟨false,rfl,HBW.out,fun h=>by cases h⟩)
theorem formed13c {V:ByteArray→ByteArray→Prop} {n1 n2 n3:ByteArray} {n4 n5:Int} (h4:n4≠0) (W:World) :
  Calls Tryz.prog 19 #[.agg #[.int .i64 13,.string n1,.string n2,.string n3,.int .i64 n4,.int .i64 n5]] W fun e w'=>FPost V W ⟨13,n1,n2,n3,n4,n5⟩ e w':=by
 have e0:(n4==0)=false:=beq_eq_false_iff_ne.2 h4;have e2:decide (n4=0)=false:=decide_eq_false h4;have HBW:=aK ((Below.refl W.heap.size W).alloc (Nat.le_refl _) (.cells #[.int .i64 13,.string n1,.string n2,.string n3,.int .i64 n4,.int .i64 n5] 35));cases hn2:n2.toList.isEmpty with
 | false=>
  go_enter Tryz.func19,Tryz.ntmps19
  go_wp2_with fail
  refine bodyPost_ret (results_tmp rfl _ _ _) rfl ?_;exact⟨false,rfl,HBW.out,fun h=>by cases h⟩
 | true=>
  go_enter Tryz.func19,Tryz.ntmps19
  go_wp2_with fail
  all_goals
   refine bodyPost_ret (results_tmp rfl _ _ _) rfl ?_;exact⟨false,rfl,HBW.out,fun h=>by cases h⟩
def StP (V:ByteArray→ByteArray→Prop) (f:Nat) (x:ByteArray):Prop:=∃q,IsP V q∧q.size≤6*x.size+20∧∀W:World,Calls Tryz.prog f #[.string x] W fun e w1=>e = .returned (.string q)∧Below W.heap.size W w1
theorem fm_str {V:ByteArray→ByteArray→Prop} {k:Int} {n1 n2 n3:ByteArray} {n4 n5:Int} (hk:k=14∨k=23) (h:(n4=0∧StP V 47 n3)∨(n4=1∧StP V 46 n3)):Fm V ⟨k,n1,n2,n3,n4,n5⟩:=by
 refine⟨(by constructor<;>dsimp only<;>omega),fun h=>?_,?_,?_,?_,?_,?_,fun _=>h,?_,?_⟩
 ·exfalso;apply h;rcases hk with rfl|rfl<;>simp
 all_goals (intro h9;exfalso;dsimp only at h9;omega)
def StC (V:ByteArray→ByteArray→Prop) (g f:Nat) (x:ByteArray):Prop:=∃r:Bool,(r=true→StP V f x)∧∀w:World,Calls Tryz.prog g #[.string x] w fun e w'=>e = .returned (.bool r)∧Below w.heap.size w w'
theorem formed14a {V:ByteArray→ByteArray→Prop} {n1 n2 n3:ByteArray} {n4 n5:Int} (h3:StC V 36 47 n3) (h4:n4=0) (W:World) :
  Calls Tryz.prog 19 #[.agg #[.int .i64 14,.string n1,.string n2,.string n3,.int .i64 n4,.int .i64 n5]] W fun e w'=>FPost V W ⟨14,n1,n2,n3,n4,n5⟩ e w':=by
 subst h4;obtain⟨r1,p1,q1⟩:=h3;have P1:=aK p1;have Q1:=aK q1;have HBK:=aK (Blk.new W 35 #[.int .i64 14,.string n1,.string n2,.string n3,.int .i64 0,.int .i64 n5]);have HBW:=aK ((Below.refl W.heap.size W).alloc (Nat.le_refl _) (.cells #[.int .i64 14,.string n1,.string n2,.string n3,.int .i64 0,.int .i64 n5] 35));clear p1 q1;cases hn2:n2.toList.isEmpty with
 | false=>
  go_enter Tryz.func19,Tryz.ntmps19
  go_wp2_with fail
  refine bodyPost_ret (results_tmp rfl _ _ _) rfl ?_;exact⟨false,rfl,HBW.out,fun h=>by cases h⟩
 | true=>
  cases hr1:r1 with
  | false=>
   rw[hr1]at Q1;go_enter Tryz.func19,Tryz.ntmps19
   go_wp2_with (first|(go_at_call 36;refine(Q1.out _).mono ?_;rintro e w1 ⟨rfl,hb⟩;obtain⟨HBK,HBW,k0,k1,k2,k3,k4,k5⟩:=stp HBK HBW hb;clear hb))
   all_goals
    refine bodyPost_ret (results_tmp rfl _ _ _) rfl ?_;refine⟨_,rfl,HBW.out,?_⟩
    first
    | (intro h;cases h;done)
    | exact fun _=>(by exact absurd ‹_› (by simp))
  | true=>
   rw[hr1]at Q1 P1;go_enter Tryz.func19,Tryz.ntmps19
   go_wp2_with (first|(go_at_call 36;refine(Q1.out _).mono ?_;rintro e w1 ⟨rfl,hb⟩;obtain⟨HBK,HBW,k0,k1,k2,k3,k4,k5⟩:=stp HBK HBW hb;clear hb))
   all_goals
    refine bodyPost_ret (results_tmp rfl _ _ _) rfl ?_;refine⟨_,rfl,HBW.out,?_⟩
    first
    | (intro h;cases h;done)
    | exact fun _=>fm_str (by decide) (.inl ⟨rfl,P1.out (by first|rfl|trivial)⟩)
theorem formed14b {V:ByteArray→ByteArray→Prop} {n1 n2 n3:ByteArray} {n4 n5:Int} (h3:StC V 37 46 n3) (h4:n4=1) (W:World) :
  Calls Tryz.prog 19 #[.agg #[.int .i64 14,.string n1,.string n2,.string n3,.int .i64 n4,.int .i64 n5]] W fun e w'=>FPost V W ⟨14,n1,n2,n3,n4,n5⟩ e w':=by
 subst h4;obtain⟨r1,p1,q1⟩:=h3;have P1:=aK p1;have Q1:=aK q1;have HBK:=aK (Blk.new W 35 #[.int .i64 14,.string n1,.string n2,.string n3,.int .i64 1,.int .i64 n5]);have HBW:=aK ((Below.refl W.heap.size W).alloc (Nat.le_refl _) (.cells #[.int .i64 14,.string n1,.string n2,.string n3,.int .i64 1,.int .i64 n5] 35));clear p1 q1;cases hn2:n2.toList.isEmpty with
 | false=>
  go_enter Tryz.func19,Tryz.ntmps19
  go_wp2_with fail
  refine bodyPost_ret (results_tmp rfl _ _ _) rfl ?_;exact⟨false,rfl,HBW.out,fun h=>by cases h⟩
 | true=>
  cases hr1:r1 with
  | false=>
   rw[hr1]at Q1;go_enter Tryz.func19,Tryz.ntmps19
   go_wp2_with (first|(go_at_call 37;refine(Q1.out _).mono ?_;rintro e w1 ⟨rfl,hb⟩;obtain⟨HBK,HBW,k0,k1,k2,k3,k4,k5⟩:=stp HBK HBW hb;clear hb))
   all_goals
    refine bodyPost_ret (results_tmp rfl _ _ _) rfl ?_;refine⟨_,rfl,HBW.out,?_⟩
    first
    | (intro h;cases h;done)
    | exact fun _=>(by exact absurd ‹_› (by simp))
  | true=>
   rw[hr1]at Q1 P1;go_enter Tryz.func19,Tryz.ntmps19
   go_wp2_with (first|(go_at_call 37;refine(Q1.out _).mono ?_;rintro e w1 ⟨rfl,hb⟩;obtain⟨HBK,HBW,k0,k1,k2,k3,k4,k5⟩:=stp HBK HBW hb;clear hb))
   all_goals
    refine bodyPost_ret (results_tmp rfl _ _ _) rfl ?_;refine⟨_,rfl,HBW.out,?_⟩
    first
    | (intro h;cases h;done)
    | exact fun _=>fm_str (by decide) (.inr ⟨rfl,P1.out (by first|rfl|trivial)⟩)
theorem formed14c {V:ByteArray→ByteArray→Prop} {n1 n2 n3:ByteArray} {n4 n5:Int} (h4:n4≠0) (h5:n4≠1) (W:World) :
  Calls Tryz.prog 19 #[.agg #[.int .i64 14,.string n1,.string n2,.string n3,.int .i64 n4,.int .i64 n5]] W fun e w'=>FPost V W ⟨14,n1,n2,n3,n4,n5⟩ e w':=by
 have e0:(n4==0)=false:=beq_eq_false_iff_ne.2 h4;have e1:(n4==1)=false:=beq_eq_false_iff_ne.2 h5;have e2:decide (n4=0)=false:=decide_eq_false h4;have e3:decide (n4=1)=false:=decide_eq_false h5;have HBW:=aK ((Below.refl W.heap.size W).alloc (Nat.le_refl _) (.cells #[.int .i64 14,.string n1,.string n2,.string n3,.int .i64 n4,.int .i64 n5] 35));cases hn2:n2.toList.isEmpty with
 | false=>
  go_enter Tryz.func19,Tryz.ntmps19
  go_wp2_with fail
  refine bodyPost_ret (results_tmp rfl _ _ _) rfl ?_;exact⟨false,rfl,HBW.out,fun h=>by cases h⟩
 | true=>
  go_enter Tryz.func19,Tryz.ntmps19
  go_wp2_with fail
  all_goals
   refine bodyPost_ret (results_tmp rfl _ _ _) rfl ?_;exact⟨false,rfl,HBW.out,fun h=>by cases h⟩
theorem formed23a {V:ByteArray→ByteArray→Prop} {n1 n2 n3:ByteArray} {n4 n5:Int} (h3:StC V 36 47 n3) (h4:n4=0) (W:World) :
  Calls Tryz.prog 19 #[.agg #[.int .i64 23,.string n1,.string n2,.string n3,.int .i64 n4,.int .i64 n5]] W fun e w'=>FPost V W ⟨23,n1,n2,n3,n4,n5⟩ e w':=by
 subst h4;obtain⟨r1,p1,q1⟩:=h3;have P1:=aK p1;have Q1:=aK q1;have HBK:=aK (Blk.new W 35 #[.int .i64 23,.string n1,.string n2,.string n3,.int .i64 0,.int .i64 n5]);have HBW:=aK ((Below.refl W.heap.size W).alloc (Nat.le_refl _) (.cells #[.int .i64 23,.string n1,.string n2,.string n3,.int .i64 0,.int .i64 n5] 35));clear p1 q1;cases hn2:n2.toList.isEmpty with
 | false=>
  go_enter Tryz.func19,Tryz.ntmps19
  go_wp2_with fail
  refine bodyPost_ret (results_tmp rfl _ _ _) rfl ?_;exact⟨false,rfl,HBW.out,fun h=>by cases h⟩
 | true=>
  cases hr1:r1 with
  | false=>
   rw[hr1]at Q1;go_enter Tryz.func19,Tryz.ntmps19
   go_wp2_with (first|(go_at_call 36;refine(Q1.out _).mono ?_;rintro e w1 ⟨rfl,hb⟩;obtain⟨HBK,HBW,k0,k1,k2,k3,k4,k5⟩:=stp HBK HBW hb;clear hb))
   all_goals
    refine bodyPost_ret (results_tmp rfl _ _ _) rfl ?_;refine⟨_,rfl,HBW.out,?_⟩
    first
    | (intro h;cases h;done)
    | exact fun _=>(by exact absurd ‹_› (by simp))
  | true=>
   rw[hr1]at Q1 P1;go_enter Tryz.func19,Tryz.ntmps19
   go_wp2_with (first|(go_at_call 36;refine(Q1.out _).mono ?_;rintro e w1 ⟨rfl,hb⟩;obtain⟨HBK,HBW,k0,k1,k2,k3,k4,k5⟩:=stp HBK HBW hb;clear hb))
   all_goals
    refine bodyPost_ret (results_tmp rfl _ _ _) rfl ?_;refine⟨_,rfl,HBW.out,?_⟩
    first
    | (intro h;cases h;done)
    | exact fun _=>fm_str (by decide) (.inl ⟨rfl,P1.out (by first|rfl|trivial)⟩)
theorem formed23b {V:ByteArray→ByteArray→Prop} {n1 n2 n3:ByteArray} {n4 n5:Int} (h3:StC V 37 46 n3) (h4:n4=1) (W:World) :
  Calls Tryz.prog 19 #[.agg #[.int .i64 23,.string n1,.string n2,.string n3,.int .i64 n4,.int .i64 n5]] W fun e w'=>FPost V W ⟨23,n1,n2,n3,n4,n5⟩ e w':=by
 subst h4;obtain⟨r1,p1,q1⟩:=h3;have P1:=aK p1;have Q1:=aK q1;have HBK:=aK (Blk.new W 35 #[.int .i64 23,.string n1,.string n2,.string n3,.int .i64 1,.int .i64 n5]);have HBW:=aK ((Below.refl W.heap.size W).alloc (Nat.le_refl _) (.cells #[.int .i64 23,.string n1,.string n2,.string n3,.int .i64 1,.int .i64 n5] 35));clear p1 q1;cases hn2:n2.toList.isEmpty with
 | false=>
  go_enter Tryz.func19,Tryz.ntmps19
  go_wp2_with fail
  refine bodyPost_ret (results_tmp rfl _ _ _) rfl ?_;exact⟨false,rfl,HBW.out,fun h=>by cases h⟩
 | true=>
  cases hr1:r1 with
  | false=>
   rw[hr1]at Q1;go_enter Tryz.func19,Tryz.ntmps19
   go_wp2_with (first|(go_at_call 37;refine(Q1.out _).mono ?_;rintro e w1 ⟨rfl,hb⟩;obtain⟨HBK,HBW,k0,k1,k2,k3,k4,k5⟩:=stp HBK HBW hb;clear hb))
   all_goals
    refine bodyPost_ret (results_tmp rfl _ _ _) rfl ?_;refine⟨_,rfl,HBW.out,?_⟩
    first
    | (intro h;cases h;done)
    | exact fun _=>(by exact absurd ‹_› (by simp))
  | true=>
   rw[hr1]at Q1 P1;go_enter Tryz.func19,Tryz.ntmps19
   go_wp2_with (first|(go_at_call 37;refine(Q1.out _).mono ?_;rintro e w1 ⟨rfl,hb⟩;obtain⟨HBK,HBW,k0,k1,k2,k3,k4,k5⟩:=stp HBK HBW hb;clear hb))
   all_goals
    refine bodyPost_ret (results_tmp rfl _ _ _) rfl ?_;refine⟨_,rfl,HBW.out,?_⟩
    first
    | (intro h;cases h;done)
    | exact fun _=>fm_str (by decide) (.inr ⟨rfl,P1.out (by first|rfl|trivial)⟩)
theorem formed23c {V:ByteArray→ByteArray→Prop} {n1 n2 n3:ByteArray} {n4 n5:Int} (h4:n4≠0) (h5:n4≠1) (W:World) :
  Calls Tryz.prog 19 #[.agg #[.int .i64 23,.string n1,.string n2,.string n3,.int .i64 n4,.int .i64 n5]] W fun e w'=>FPost V W ⟨23,n1,n2,n3,n4,n5⟩ e w':=by
 have e0:(n4==0)=false:=beq_eq_false_iff_ne.2 h4;have e1:(n4==1)=false:=beq_eq_false_iff_ne.2 h5;have e2:decide (n4=0)=false:=decide_eq_false h4;have e3:decide (n4=1)=false:=decide_eq_false h5;have HBW:=aK ((Below.refl W.heap.size W).alloc (Nat.le_refl _) (.cells #[.int .i64 23,.string n1,.string n2,.string n3,.int .i64 n4,.int .i64 n5] 35));cases hn2:n2.toList.isEmpty with
 | false=>
  go_enter Tryz.func19,Tryz.ntmps19
  go_wp2_with fail
  refine bodyPost_ret (results_tmp rfl _ _ _) rfl ?_;exact⟨false,rfl,HBW.out,fun h=>by cases h⟩
 | true=>
  go_enter Tryz.func19,Tryz.ntmps19
  go_wp2_with fail
  all_goals
   refine bodyPost_ret (results_tmp rfl _ _ _) rfl ?_;exact⟨false,rfl,HBW.out,fun h=>by cases h⟩
end Go.Proofs.YtjolkdnfbmkjiaaGreatDoor.Wr
