import Derived.Test.YtjolkdnfbmkjiaaGreatDoorVG1
set_option maxRecDepth 100000
set_option maxHeartbeats 8000000
set_option linter.unusedVariables false
set_option linter.unusedSimpArgs false
namespace Go.Proofs.YtjolkdnfbmkjiaaGreatDoor.Wr
open Go.RowKit Mem Go.Proofs.YtjolkdnfbmkjiaaGreatDoorW.PrintWords PFnTokensGaps
theorem fm_none {V:ByteArray→ByteArray→Prop} {k:Int} {n1 n2 n3:ByteArray} {n4 n5:Int} (hk:k∈([1,5,17,18,21,22,24,39]:List Int)):Fm V ⟨k,n1,n2,n3,n4,n5⟩:=by
 simp only[List.mem_cons,List.not_mem_nil,or_false]at hk;refine⟨?_,fun h=>?_,?_,?_,?_,?_,?_,?_,?_,?_⟩
 ·show 1≤k∧k≤39;omega
 ·exfalso;apply h;simp only[List.mem_cons,List.not_mem_nil,or_false];omega
 all_goals (intro h9;exfalso;dsimp only at h9;omega)
set_option maxRecDepth 100000
set_option maxHeartbeats 8000000
theorem vO {p:Prop} (h:p:=by
 intro n1 n2 n3 n4 n5 h1 W;refine form_open fun HBK HBW=>?_;clear HBK;cases hn2:n2.toList.isEmpty
 all_goals
  go_enter Tryz.func19,Tryz.ntmps19
  go_wp2_with fail
 all_goals
  refine bodyPost_ret (results_tmp rfl _ _ _) rfl ?_;exact⟨_,rfl,HBW.out,fun _=>fm_none (by decide)⟩):p:=h
theorem formed1 {V:ByteArray→ByteArray→Prop}:FO V 1 fun _ _ _ _=>True:=vO
theorem formed5 {V:ByteArray→ByteArray→Prop}:FO V 5 fun _ _ _ _=>True:=vO
theorem formed17 {V:ByteArray→ByteArray→Prop}:FO V 17 fun _ _ _ _=>True:=vO
theorem formed18 {V:ByteArray→ByteArray→Prop}:FO V 18 fun _ _ _ _=>True:=vO
theorem formed21 {V:ByteArray→ByteArray→Prop}:FO V 21 fun _ _ _ _=>True:=vO
theorem formed22 {V:ByteArray→ByteArray→Prop}:FO V 22 fun _ _ _ _=>True:=vO
theorem formed24 {V:ByteArray→ByteArray→Prop}:FO V 24 fun _ _ _ _=>True:=vO
theorem formed39 {V:ByteArray→ByteArray→Prop}:FO V 39 fun _ _ _ _=>True:=vO
theorem fm_3 {V:ByteArray→ByteArray→Prop} {n1 n2 n3:ByteArray} {n4 n5:Int} (h1:IsP V n1) (h3:IsP V n3):Fm V ⟨3,n1,n2,n3,n4,n5⟩:=by
 refine⟨(by constructor<;>dsimp only<;>omega),fun _=>h1,?_,fun _=>h3,?_,?_,?_,?_,?_,?_⟩
 all_goals (intro h9;exfalso;dsimp only at h9;omega)
theorem fm_6 {V:ByteArray→ByteArray→Prop} {n1 n2 n3:ByteArray} {n4 n5:Int} (h1:IsP V n1) (h2:n2.toList.isEmpty=true∨IsP V n2):Fm V ⟨6,n1,n2,n3,n4,n5⟩:=by
 refine⟨(by constructor<;>dsimp only<;>omega),fun _=>h1,?_,?_,fun _=>h2,?_,?_,?_,?_,?_⟩
 all_goals (intro h9;exfalso;dsimp only at h9;omega)
theorem fm_8 {V:ByteArray→ByteArray→Prop} {n1 n2 n3:ByteArray} {n4 n5:Int} (h3:n3.toList.isEmpty=true∨IsP V n3):Fm V ⟨8,n1,n2,n3,n4,n5⟩:=by
 refine⟨(by constructor<;>dsimp only<;>omega),fun h=>?_,?_,?_,?_,fun _=>h3,?_,?_,?_,?_⟩
 ·exfalso;apply h;simp
 all_goals (intro h9;exfalso;dsimp only at h9;omega)
theorem formed3a {V:ByteArray→ByteArray→Prop} {n1 n2 n3:ByteArray} {n4 n5:Int} (h1:NameC V n1) (h2:NameC V n2) (h3:NameC V n3) (hn2:n2.toList.isEmpty=true) (W:World) :
  Calls Tryz.prog 19 #[.agg #[.int .i64 3,.string n1,.string n2,.string n3,.int .i64 n4,.int .i64 n5]] W fun e w'=>FPost V W ⟨3,n1,n2,n3,n4,n5⟩ e w':=by
 obtain⟨r1,p1,q1⟩:=h1;obtain⟨r2,p2,q2⟩:=h2;obtain⟨r3,p3,q3⟩:=h3;have P1:=aK p1;have P2:=aK p2;have P3:=aK p3;have Q1:=aK q1;have Q2:=aK q2;have Q3:=aK q3;have HBK:=aK (Blk.new W 35 #[.int .i64 3,.string n1,.string n2,.string n3,.int .i64 n4,.int .i64 n5]);have HBW:=aK ((Below.refl W.heap.size W).alloc (Nat.le_refl _) (.cells #[.int .i64 3,.string n1,.string n2,.string n3,.int .i64 n4,.int .i64 n5] 35));clear p1 q1 p2 q2 p3 q3;cases r1 with
 | false=>
  cases r3 with
  | false=>
   go_enter Tryz.func19,Tryz.ntmps19
   go_wp2_with fail
   all_goals first|(go_at_call 34;refine(Q1.out _).mono ?_;rintro e w1 ⟨rfl,hb⟩;obtain⟨HBK,HBW,k0,k1,k2,k3,k4,k5⟩:=stp HBK HBW hb;clear hb;go_wp2_with fail;all_goals first|(go_at_call 34;refine(Q3.out _).mono ?_;rintro e w1 ⟨rfl,hb⟩;obtain⟨HBK,HBW,k0,k1,k2,k3,k4,k5⟩:=stp HBK HBW hb;clear hb;go_wp2_with fail;all_goals (refine bodyPost_ret (results_tmp rfl _ _ _) rfl ?_;refine⟨_,rfl,HBW.out,?_⟩;first|(intro h;cases h;done)|exact fun _=>fm_3 (P1.out (by first|rfl|trivial)) (P3.out (by first|rfl|trivial))))|(refine bodyPost_ret (results_tmp rfl _ _ _) rfl ?_;refine⟨_,rfl,HBW.out,?_⟩;first|(intro h;cases h;done)|exact fun _=>fm_3 (P1.out (by first|rfl|trivial)) (P3.out (by first|rfl|trivial))))|(refine bodyPost_ret (results_tmp rfl _ _ _) rfl ?_;refine⟨_,rfl,HBW.out,?_⟩;first|(intro h;cases h;done)|exact fun _=>fm_3 (P1.out (by first|rfl|trivial)) (P3.out (by first|rfl|trivial)))
  | true=>
   go_enter Tryz.func19,Tryz.ntmps19
   go_wp2_with fail
   all_goals first|(go_at_call 34;refine(Q1.out _).mono ?_;rintro e w1 ⟨rfl,hb⟩;obtain⟨HBK,HBW,k0,k1,k2,k3,k4,k5⟩:=stp HBK HBW hb;clear hb;go_wp2_with fail;all_goals first|(go_at_call 34;refine(Q3.out _).mono ?_;rintro e w1 ⟨rfl,hb⟩;obtain⟨HBK,HBW,k0,k1,k2,k3,k4,k5⟩:=stp HBK HBW hb;clear hb;go_wp2_with fail;all_goals (refine bodyPost_ret (results_tmp rfl _ _ _) rfl ?_;refine⟨_,rfl,HBW.out,?_⟩;first|(intro h;cases h;done)|exact fun _=>fm_3 (P1.out (by first|rfl|trivial)) (P3.out (by first|rfl|trivial))))|(refine bodyPost_ret (results_tmp rfl _ _ _) rfl ?_;refine⟨_,rfl,HBW.out,?_⟩;first|(intro h;cases h;done)|exact fun _=>fm_3 (P1.out (by first|rfl|trivial)) (P3.out (by first|rfl|trivial))))|(refine bodyPost_ret (results_tmp rfl _ _ _) rfl ?_;refine⟨_,rfl,HBW.out,?_⟩;first|(intro h;cases h;done)|exact fun _=>fm_3 (P1.out (by first|rfl|trivial)) (P3.out (by first|rfl|trivial)))
 | true=>
  cases r3 with
  | false=>
   go_enter Tryz.func19,Tryz.ntmps19
   go_wp2_with fail
   all_goals first|(go_at_call 34;refine(Q1.out _).mono ?_;rintro e w1 ⟨rfl,hb⟩;obtain⟨HBK,HBW,k0,k1,k2,k3,k4,k5⟩:=stp HBK HBW hb;clear hb;go_wp2_with fail;all_goals first|(go_at_call 34;refine(Q3.out _).mono ?_;rintro e w1 ⟨rfl,hb⟩;obtain⟨HBK,HBW,k0,k1,k2,k3,k4,k5⟩:=stp HBK HBW hb;clear hb;go_wp2_with fail;all_goals (refine bodyPost_ret (results_tmp rfl _ _ _) rfl ?_;refine⟨_,rfl,HBW.out,?_⟩;first|(intro h;cases h;done)|exact fun _=>fm_3 (P1.out (by first|rfl|trivial)) (P3.out (by first|rfl|trivial))))|(refine bodyPost_ret (results_tmp rfl _ _ _) rfl ?_;refine⟨_,rfl,HBW.out,?_⟩;first|(intro h;cases h;done)|exact fun _=>fm_3 (P1.out (by first|rfl|trivial)) (P3.out (by first|rfl|trivial))))|(refine bodyPost_ret (results_tmp rfl _ _ _) rfl ?_;refine⟨_,rfl,HBW.out,?_⟩;first|(intro h;cases h;done)|exact fun _=>fm_3 (P1.out (by first|rfl|trivial)) (P3.out (by first|rfl|trivial)))
  | true=>
   go_enter Tryz.func19,Tryz.ntmps19
   go_wp2_with fail
   all_goals first|(go_at_call 34;refine(Q1.out _).mono ?_;rintro e w1 ⟨rfl,hb⟩;obtain⟨HBK,HBW,k0,k1,k2,k3,k4,k5⟩:=stp HBK HBW hb;clear hb;go_wp2_with fail;all_goals first|(go_at_call 34;refine(Q3.out _).mono ?_;rintro e w1 ⟨rfl,hb⟩;obtain⟨HBK,HBW,k0,k1,k2,k3,k4,k5⟩:=stp HBK HBW hb;clear hb;go_wp2_with fail;all_goals (refine bodyPost_ret (results_tmp rfl _ _ _) rfl ?_;refine⟨_,rfl,HBW.out,?_⟩;first|(intro h;cases h;done)|exact fun _=>fm_3 (P1.out (by first|rfl|trivial)) (P3.out (by first|rfl|trivial))))|(refine bodyPost_ret (results_tmp rfl _ _ _) rfl ?_;refine⟨_,rfl,HBW.out,?_⟩;first|(intro h;cases h;done)|exact fun _=>fm_3 (P1.out (by first|rfl|trivial)) (P3.out (by first|rfl|trivial))))|(refine bodyPost_ret (results_tmp rfl _ _ _) rfl ?_;refine⟨_,rfl,HBW.out,?_⟩;first|(intro h;cases h;done)|exact fun _=>fm_3 (P1.out (by first|rfl|trivial)) (P3.out (by first|rfl|trivial)))
theorem formed3b {V:ByteArray→ByteArray→Prop} {n1 n2 n3:ByteArray} {n4 n5:Int} (h1:NameC V n1) (h2:NameC V n2) (h3:NameC V n3) (hn2:n2.toList.isEmpty=false) (W:World) :
  Calls Tryz.prog 19 #[.agg #[.int .i64 3,.string n1,.string n2,.string n3,.int .i64 n4,.int .i64 n5]] W fun e w'=>FPost V W ⟨3,n1,n2,n3,n4,n5⟩ e w':=by
 obtain⟨r1,p1,q1⟩:=h1;obtain⟨r2,p2,q2⟩:=h2;obtain⟨r3,p3,q3⟩:=h3;have P1:=aK p1;have P2:=aK p2;have P3:=aK p3;have Q1:=aK q1;have Q2:=aK q2;have Q3:=aK q3;have HBK:=aK (Blk.new W 35 #[.int .i64 3,.string n1,.string n2,.string n3,.int .i64 n4,.int .i64 n5]);have HBW:=aK ((Below.refl W.heap.size W).alloc (Nat.le_refl _) (.cells #[.int .i64 3,.string n1,.string n2,.string n3,.int .i64 n4,.int .i64 n5] 35));clear p1 q1 p2 q2 p3 q3;go_enter Tryz.func19,Tryz.ntmps19
 go_wp2_with fail
 all_goals (refine bodyPost_ret (results_tmp rfl _ _ _) rfl ?_;refine⟨_,rfl,HBW.out,?_⟩;first|(intro h;cases h;done)|exact fun _=>fm_3 (by assumption) (by assumption))
theorem formed8a {V:ByteArray→ByteArray→Prop} {n1 n2 n3:ByteArray} {n4 n5:Int} (h1:NameC V n1) (h2:NameC V n2) (h3:NameC V n3) (hn2:n2.toList.isEmpty=true) (hn3:n3.toList.isEmpty=true) (W:World) :
  Calls Tryz.prog 19 #[.agg #[.int .i64 8,.string n1,.string n2,.string n3,.int .i64 n4,.int .i64 n5]] W fun e w'=>FPost V W ⟨8,n1,n2,n3,n4,n5⟩ e w':=by
 obtain⟨r1,p1,q1⟩:=h1;obtain⟨r2,p2,q2⟩:=h2;obtain⟨r3,p3,q3⟩:=h3;have P1:=aK p1;have P2:=aK p2;have P3:=aK p3;have Q1:=aK q1;have Q2:=aK q2;have Q3:=aK q3;have HBK:=aK (Blk.new W 35 #[.int .i64 8,.string n1,.string n2,.string n3,.int .i64 n4,.int .i64 n5]);have HBW:=aK ((Below.refl W.heap.size W).alloc (Nat.le_refl _) (.cells #[.int .i64 8,.string n1,.string n2,.string n3,.int .i64 n4,.int .i64 n5] 35));clear p1 q1 p2 q2 p3 q3;go_enter Tryz.func19,Tryz.ntmps19
 go_wp2_with fail
 all_goals (refine bodyPost_ret (results_tmp rfl _ _ _) rfl ?_;refine⟨_,rfl,HBW.out,?_⟩;first|(intro h;cases h;done)|exact fun _=>fm_8 (.inl hn3))
theorem formed8c {V:ByteArray→ByteArray→Prop} {n1 n2 n3:ByteArray} {n4 n5:Int} (h1:NameC V n1) (h2:NameC V n2) (h3:NameC V n3) (hn2:n2.toList.isEmpty=true) (hn3:n3.toList.isEmpty=false) (W:World) :
  Calls Tryz.prog 19 #[.agg #[.int .i64 8,.string n1,.string n2,.string n3,.int .i64 n4,.int .i64 n5]] W fun e w'=>FPost V W ⟨8,n1,n2,n3,n4,n5⟩ e w':=by
 obtain⟨r1,p1,q1⟩:=h1;obtain⟨r2,p2,q2⟩:=h2;obtain⟨r3,p3,q3⟩:=h3;have P1:=aK p1;have P2:=aK p2;have P3:=aK p3;have Q1:=aK q1;have Q2:=aK q2;have Q3:=aK q3;have HBK:=aK (Blk.new W 35 #[.int .i64 8,.string n1,.string n2,.string n3,.int .i64 n4,.int .i64 n5]);have HBW:=aK ((Below.refl W.heap.size W).alloc (Nat.le_refl _) (.cells #[.int .i64 8,.string n1,.string n2,.string n3,.int .i64 n4,.int .i64 n5] 35));clear p1 q1 p2 q2 p3 q3;cases r3 with
 | false=>
  go_enter Tryz.func19,Tryz.ntmps19
  go_wp2_with fail
  all_goals first|(go_at_call 34;refine(Q3.out _).mono ?_;rintro e w1 ⟨rfl,hb⟩;obtain⟨HBK,HBW,k0,k1,k2,k3,k4,k5⟩:=stp HBK HBW hb;clear hb;go_wp2_with fail;all_goals (refine bodyPost_ret (results_tmp rfl _ _ _) rfl ?_;refine⟨_,rfl,HBW.out,?_⟩;first|(intro h;cases h;done)|exact fun _=>fm_8 (.inr (P3.out (by first|rfl|trivial)))))|(refine bodyPost_ret (results_tmp rfl _ _ _) rfl ?_;refine⟨_,rfl,HBW.out,?_⟩;first|(intro h;cases h;done)|exact fun _=>fm_8 (.inr (P3.out (by first|rfl|trivial))))
 | true=>
  go_enter Tryz.func19,Tryz.ntmps19
  go_wp2_with fail
  all_goals first|(go_at_call 34;refine(Q3.out _).mono ?_;rintro e w1 ⟨rfl,hb⟩;obtain⟨HBK,HBW,k0,k1,k2,k3,k4,k5⟩:=stp HBK HBW hb;clear hb;go_wp2_with fail;all_goals (refine bodyPost_ret (results_tmp rfl _ _ _) rfl ?_;refine⟨_,rfl,HBW.out,?_⟩;first|(intro h;cases h;done)|exact fun _=>fm_8 (.inr (P3.out (by first|rfl|trivial)))))|(refine bodyPost_ret (results_tmp rfl _ _ _) rfl ?_;refine⟨_,rfl,HBW.out,?_⟩;first|(intro h;cases h;done)|exact fun _=>fm_8 (.inr (P3.out (by first|rfl|trivial))))
theorem formed8b {V:ByteArray→ByteArray→Prop} {n1 n2 n3:ByteArray} {n4 n5:Int} (h1:NameC V n1) (h2:NameC V n2) (h3:NameC V n3) (hn2:n2.toList.isEmpty=false) (W:World) :
  Calls Tryz.prog 19 #[.agg #[.int .i64 8,.string n1,.string n2,.string n3,.int .i64 n4,.int .i64 n5]] W fun e w'=>FPost V W ⟨8,n1,n2,n3,n4,n5⟩ e w':=by
 obtain⟨r1,p1,q1⟩:=h1;obtain⟨r2,p2,q2⟩:=h2;obtain⟨r3,p3,q3⟩:=h3;have P1:=aK p1;have P2:=aK p2;have P3:=aK p3;have Q1:=aK q1;have Q2:=aK q2;have Q3:=aK q3;have HBK:=aK (Blk.new W 35 #[.int .i64 8,.string n1,.string n2,.string n3,.int .i64 n4,.int .i64 n5]);have HBW:=aK ((Below.refl W.heap.size W).alloc (Nat.le_refl _) (.cells #[.int .i64 8,.string n1,.string n2,.string n3,.int .i64 n4,.int .i64 n5] 35));clear p1 q1 p2 q2 p3 q3;go_enter Tryz.func19,Tryz.ntmps19
 go_wp2_with fail
 all_goals (refine bodyPost_ret (results_tmp rfl _ _ _) rfl ?_;refine⟨_,rfl,HBW.out,?_⟩;first|(intro h;cases h;done)|exact fun _=>fm_8 (by assumption))
theorem formed6a {V:ByteArray→ByteArray→Prop} {n1 n2 n3:ByteArray} {n4 n5:Int} (h1:NameC V n1) (h2:NameC V n2) (h3:NameC V n3) (hn2:n2.toList.isEmpty=true) (W:World) :
  Calls Tryz.prog 19 #[.agg #[.int .i64 6,.string n1,.string n2,.string n3,.int .i64 n4,.int .i64 n5]] W fun e w'=>FPost V W ⟨6,n1,n2,n3,n4,n5⟩ e w':=by
 obtain⟨r1,p1,q1⟩:=h1;obtain⟨r2,p2,q2⟩:=h2;obtain⟨r3,p3,q3⟩:=h3;have P1:=aK p1;have P2:=aK p2;have P3:=aK p3;have Q1:=aK q1;have Q2:=aK q2;have Q3:=aK q3;have HBK:=aK (Blk.new W 35 #[.int .i64 6,.string n1,.string n2,.string n3,.int .i64 n4,.int .i64 n5]);have HBW:=aK ((Below.refl W.heap.size W).alloc (Nat.le_refl _) (.cells #[.int .i64 6,.string n1,.string n2,.string n3,.int .i64 n4,.int .i64 n5] 35));clear p1 q1 p2 q2 p3 q3;cases r1 with
 | false=>
  go_enter Tryz.func19,Tryz.ntmps19
  go_wp2_with fail
  all_goals first|(go_at_call 34;refine(Q1.out _).mono ?_;rintro e w1 ⟨rfl,hb⟩;obtain⟨HBK,HBW,k0,k1,k2,k3,k4,k5⟩:=stp HBK HBW hb;clear hb;go_wp2_with fail;all_goals (refine bodyPost_ret (results_tmp rfl _ _ _) rfl ?_;refine⟨_,rfl,HBW.out,?_⟩;first|(intro h;cases h;done)|exact fun _=>fm_6 (P1.out (by first|rfl|trivial)) (.inl hn2)))|(refine bodyPost_ret (results_tmp rfl _ _ _) rfl ?_;refine⟨_,rfl,HBW.out,?_⟩;first|(intro h;cases h;done)|exact fun _=>fm_6 (P1.out (by first|rfl|trivial)) (.inl hn2))
 | true=>
  go_enter Tryz.func19,Tryz.ntmps19
  go_wp2_with fail
  all_goals first|(go_at_call 34;refine(Q1.out _).mono ?_;rintro e w1 ⟨rfl,hb⟩;obtain⟨HBK,HBW,k0,k1,k2,k3,k4,k5⟩:=stp HBK HBW hb;clear hb;go_wp2_with fail;all_goals (refine bodyPost_ret (results_tmp rfl _ _ _) rfl ?_;refine⟨_,rfl,HBW.out,?_⟩;first|(intro h;cases h;done)|exact fun _=>fm_6 (P1.out (by first|rfl|trivial)) (.inl hn2)))|(refine bodyPost_ret (results_tmp rfl _ _ _) rfl ?_;refine⟨_,rfl,HBW.out,?_⟩;first|(intro h;cases h;done)|exact fun _=>fm_6 (P1.out (by first|rfl|trivial)) (.inl hn2))
theorem formed6b {V:ByteArray→ByteArray→Prop} {n1 n2 n3:ByteArray} {n4 n5:Int} (h1:NameC V n1) (h2:NameC V n2) (h3:NameC V n3) (hn2:n2.toList.isEmpty=false) (W:World) :
  Calls Tryz.prog 19 #[.agg #[.int .i64 6,.string n1,.string n2,.string n3,.int .i64 n4,.int .i64 n5]] W fun e w'=>FPost V W ⟨6,n1,n2,n3,n4,n5⟩ e w':=by
 obtain⟨r1,p1,q1⟩:=h1;obtain⟨r2,p2,q2⟩:=h2;obtain⟨r3,p3,q3⟩:=h3;have P1:=aK p1;have P2:=aK p2;have P3:=aK p3;have Q1:=aK q1;have Q2:=aK q2;have Q3:=aK q3;have HBK:=aK (Blk.new W 35 #[.int .i64 6,.string n1,.string n2,.string n3,.int .i64 n4,.int .i64 n5]);have HBW:=aK ((Below.refl W.heap.size W).alloc (Nat.le_refl _) (.cells #[.int .i64 6,.string n1,.string n2,.string n3,.int .i64 n4,.int .i64 n5] 35));clear p1 q1 p2 q2 p3 q3;cases r1 with
 | false=>
  cases r2 with
  | false=>
   go_enter Tryz.func19,Tryz.ntmps19
   go_wp2_with fail
   all_goals first|(go_at_call 34;refine(Q2.out _).mono ?_;rintro e w1 ⟨rfl,hb⟩;obtain⟨HBK,HBW,k0,k1,k2,k3,k4,k5⟩:=stp HBK HBW hb;clear hb;go_wp2_with fail;all_goals first|(go_at_call 34;refine(Q1.out _).mono ?_;rintro e w1 ⟨rfl,hb⟩;obtain⟨HBK,HBW,k0,k1,k2,k3,k4,k5⟩:=stp HBK HBW hb;clear hb;go_wp2_with fail;all_goals (refine bodyPost_ret (results_tmp rfl _ _ _) rfl ?_;refine⟨_,rfl,HBW.out,?_⟩;first|(intro h;cases h;done)|exact fun _=>fm_6 (P1.out (by first|rfl|trivial)) (.inr (P2.out (by first|rfl|trivial)))))|(refine bodyPost_ret (results_tmp rfl _ _ _) rfl ?_;refine⟨_,rfl,HBW.out,?_⟩;first|(intro h;cases h;done)|exact fun _=>fm_6 (P1.out (by first|rfl|trivial)) (.inr (P2.out (by first|rfl|trivial)))))|(refine bodyPost_ret (results_tmp rfl _ _ _) rfl ?_;refine⟨_,rfl,HBW.out,?_⟩;first|(intro h;cases h;done)|exact fun _=>fm_6 (P1.out (by first|rfl|trivial)) (.inr (P2.out (by first|rfl|trivial))))
  | true=>
   go_enter Tryz.func19,Tryz.ntmps19
   go_wp2_with fail
   all_goals first|(go_at_call 34;refine(Q2.out _).mono ?_;rintro e w1 ⟨rfl,hb⟩;obtain⟨HBK,HBW,k0,k1,k2,k3,k4,k5⟩:=stp HBK HBW hb;clear hb;go_wp2_with fail;all_goals first|(go_at_call 34;refine(Q1.out _).mono ?_;rintro e w1 ⟨rfl,hb⟩;obtain⟨HBK,HBW,k0,k1,k2,k3,k4,k5⟩:=stp HBK HBW hb;clear hb;go_wp2_with fail;all_goals (refine bodyPost_ret (results_tmp rfl _ _ _) rfl ?_;refine⟨_,rfl,HBW.out,?_⟩;first|(intro h;cases h;done)|exact fun _=>fm_6 (P1.out (by first|rfl|trivial)) (.inr (P2.out (by first|rfl|trivial)))))|(refine bodyPost_ret (results_tmp rfl _ _ _) rfl ?_;refine⟨_,rfl,HBW.out,?_⟩;first|(intro h;cases h;done)|exact fun _=>fm_6 (P1.out (by first|rfl|trivial)) (.inr (P2.out (by first|rfl|trivial)))))|(refine bodyPost_ret (results_tmp rfl _ _ _) rfl ?_;refine⟨_,rfl,HBW.out,?_⟩;first|(intro h;cases h;done)|exact fun _=>fm_6 (P1.out (by first|rfl|trivial)) (.inr (P2.out (by first|rfl|trivial))))
 | true=>
  cases r2 with
  | false=>
   go_enter Tryz.func19,Tryz.ntmps19
   go_wp2_with fail
   all_goals first|(go_at_call 34;refine(Q2.out _).mono ?_;rintro e w1 ⟨rfl,hb⟩;obtain⟨HBK,HBW,k0,k1,k2,k3,k4,k5⟩:=stp HBK HBW hb;clear hb;go_wp2_with fail;all_goals first|(go_at_call 34;refine(Q1.out _).mono ?_;rintro e w1 ⟨rfl,hb⟩;obtain⟨HBK,HBW,k0,k1,k2,k3,k4,k5⟩:=stp HBK HBW hb;clear hb;go_wp2_with fail;all_goals (refine bodyPost_ret (results_tmp rfl _ _ _) rfl ?_;refine⟨_,rfl,HBW.out,?_⟩;first|(intro h;cases h;done)|exact fun _=>fm_6 (P1.out (by first|rfl|trivial)) (.inr (P2.out (by first|rfl|trivial)))))|(refine bodyPost_ret (results_tmp rfl _ _ _) rfl ?_;refine⟨_,rfl,HBW.out,?_⟩;first|(intro h;cases h;done)|exact fun _=>fm_6 (P1.out (by first|rfl|trivial)) (.inr (P2.out (by first|rfl|trivial)))))|(refine bodyPost_ret (results_tmp rfl _ _ _) rfl ?_;refine⟨_,rfl,HBW.out,?_⟩;first|(intro h;cases h;done)|exact fun _=>fm_6 (P1.out (by first|rfl|trivial)) (.inr (P2.out (by first|rfl|trivial))))
  | true=>
   go_enter Tryz.func19,Tryz.ntmps19
   go_wp2_with fail
   all_goals first|(go_at_call 34;refine(Q2.out _).mono ?_;rintro e w1 ⟨rfl,hb⟩;obtain⟨HBK,HBW,k0,k1,k2,k3,k4,k5⟩:=stp HBK HBW hb;clear hb;go_wp2_with fail;all_goals first|(go_at_call 34;refine(Q1.out _).mono ?_;rintro e w1 ⟨rfl,hb⟩;obtain⟨HBK,HBW,k0,k1,k2,k3,k4,k5⟩:=stp HBK HBW hb;clear hb;go_wp2_with fail;all_goals (refine bodyPost_ret (results_tmp rfl _ _ _) rfl ?_;refine⟨_,rfl,HBW.out,?_⟩;first|(intro h;cases h;done)|exact fun _=>fm_6 (P1.out (by first|rfl|trivial)) (.inr (P2.out (by first|rfl|trivial)))))|(refine bodyPost_ret (results_tmp rfl _ _ _) rfl ?_;refine⟨_,rfl,HBW.out,?_⟩;first|(intro h;cases h;done)|exact fun _=>fm_6 (P1.out (by first|rfl|trivial)) (.inr (P2.out (by first|rfl|trivial)))))|(refine bodyPost_ret (results_tmp rfl _ _ _) rfl ?_;refine⟨_,rfl,HBW.out,?_⟩;first|(intro h;cases h;done)|exact fun _=>fm_6 (P1.out (by first|rfl|trivial)) (.inr (P2.out (by first|rfl|trivial))))
theorem fm_15 {V:ByteArray→ByteArray→Prop} {n1 n2 n3:ByteArray} {n4 n5:Int} (h:n4=0∨n4=1):Fm V ⟨15,n1,n2,n3,n4,n5⟩:=by
 refine⟨(by constructor<;>dsimp only<;>omega),fun h=>?_,?_,?_,?_,?_,?_,?_,fun _=>h,?_⟩
 ·exfalso;apply h;simp
 all_goals (intro h9;exfalso;dsimp only at h9;omega)
theorem formed15a {V:ByteArray→ByteArray→Prop} {n1 n2 n3:ByteArray} {n4 n5:Int} (h4:n4=0) (W:World) :
  Calls Tryz.prog 19 #[.agg #[.int .i64 15,.string n1,.string n2,.string n3,.int .i64 n4,.int .i64 n5]] W fun e w'=>FPost V W ⟨15,n1,n2,n3,n4,n5⟩ e w':=by
 subst h4;have HBW:=aK ((Below.refl W.heap.size W).alloc (Nat.le_refl _) (.cells #[.int .i64 15,.string n1,.string n2,.string n3,.int .i64 0,.int .i64 n5] 35));cases hn2:n2.toList.isEmpty with
 | false=>
  go_enter Tryz.func19,Tryz.ntmps19
  go_wp2_with fail
  refine bodyPost_ret (results_tmp rfl _ _ _) rfl ?_;exact⟨false,rfl,HBW.out,fun h=>by cases h⟩
 | true=>
  go_enter Tryz.func19,Tryz.ntmps19
  go_wp2_with fail
  all_goals
   refine bodyPost_ret (results_tmp rfl _ _ _) rfl ?_;exact⟨_,rfl,HBW.out,fun _=>fm_15 (.inl rfl)⟩
theorem formed15b {V:ByteArray→ByteArray→Prop} {n1 n2 n3:ByteArray} {n4 n5:Int} (h4:n4=1) (W:World) :
  Calls Tryz.prog 19 #[.agg #[.int .i64 15,.string n1,.string n2,.string n3,.int .i64 n4,.int .i64 n5]] W fun e w'=>FPost V W ⟨15,n1,n2,n3,n4,n5⟩ e w':=by
 subst h4;have HBW:=aK ((Below.refl W.heap.size W).alloc (Nat.le_refl _) (.cells #[.int .i64 15,.string n1,.string n2,.string n3,.int .i64 1,.int .i64 n5] 35));cases hn2:n2.toList.isEmpty with
 | false=>
  go_enter Tryz.func19,Tryz.ntmps19
  go_wp2_with fail
  refine bodyPost_ret (results_tmp rfl _ _ _) rfl ?_;exact⟨false,rfl,HBW.out,fun h=>by cases h⟩
 | true=>
  go_enter Tryz.func19,Tryz.ntmps19
  go_wp2_with fail
  all_goals
   refine bodyPost_ret (results_tmp rfl _ _ _) rfl ?_;exact⟨_,rfl,HBW.out,fun _=>fm_15 (.inr rfl)⟩
theorem formed15c {V:ByteArray→ByteArray→Prop} {n1 n2 n3:ByteArray} {n4 n5:Int} (h4:n4≠0) (h5:n4≠1) (W:World) :
  Calls Tryz.prog 19 #[.agg #[.int .i64 15,.string n1,.string n2,.string n3,.int .i64 n4,.int .i64 n5]] W fun e w'=>FPost V W ⟨15,n1,n2,n3,n4,n5⟩ e w':=by
 have e0:(n4==0)=false:=beq_eq_false_iff_ne.2 h4;have e1:(n4==1)=false:=beq_eq_false_iff_ne.2 h5;have e2:decide (n4=0)=false:=decide_eq_false h4;have e3:decide (n4=1)=false:=decide_eq_false h5;have HBW:=aK ((Below.refl W.heap.size W).alloc (Nat.le_refl _) (.cells #[.int .i64 15,.string n1,.string n2,.string n3,.int .i64 n4,.int .i64 n5] 35));cases hn2:n2.toList.isEmpty with
 | false=>
  go_enter Tryz.func19,Tryz.ntmps19
  go_wp2_with fail
  refine bodyPost_ret (results_tmp rfl _ _ _) rfl ?_;exact⟨false,rfl,HBW.out,fun h=>by cases h⟩
 | true=>
  go_enter Tryz.func19,Tryz.ntmps19
  go_wp2_with fail
  all_goals
   refine bodyPost_ret (results_tmp rfl _ _ _) rfl ?_;exact⟨false,rfl,HBW.out,fun h=>by cases h⟩
end Go.Proofs.YtjolkdnfbmkjiaaGreatDoor.Wr
