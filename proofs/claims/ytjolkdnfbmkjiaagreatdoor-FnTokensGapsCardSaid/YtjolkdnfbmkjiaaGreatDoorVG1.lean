import Derived.Test.YtjolkdnfbmkjiaaGreatDoorVP1
import Derived.Test.YtjolkdnfbmkjiaaGreatDoorVE6
import Derived.Test.YtjolkdnfbmkjiaaGreatDoorVP9
set_option maxRecDepth 100000
set_option maxHeartbeats 8000000
set_option linter.unusedVariables false
set_option linter.unusedSimpArgs false
namespace Go.Proofs.YtjolkdnfbmkjiaaGreatDoor.Wr
open Go.RowKit Mem Go.Proofs.YtjolkdnfbmkjiaaGreatDoorW.PrintWords PFnTokensGaps
theorem begin_let (c:Int):spec_isBegin.f c=some (Mod.isLet c):=by
 have e:Mod.isLet c=decide (97≤c∧c≤122∨65≤c∧c≤90∨c=95):=by
  rw[Bool.eq_iff_iff,decide_eq_true_eq];unfold Mod.isLet;simp only[Bool.or_eq_true,Bool.and_eq_true,decide_eq_true_eq,beq_iff_eq];omega
 rw[e];unfold spec_isBegin.f
 repeat' split
 all_goals
  first
  | exact congrArg some (decide_eq_true (by omega)).symm
  | exact congrArg some (Bool.eq_iff_iff.2 (by rw[beq_iff_eq,decide_eq_true_eq];omega))
theorem digit_dig (c:Int):spec_isDigit.f c=some (Mod.isDig c):=by
 unfold spec_isDigit.f Mod.isDig
 by_cases h:c≥48
 ·rw[if_pos h,decide_eq_true (show 48≤c from h),Bool.true_and]
 ·rw[if_neg h,decide_eq_false (show ¬48≤c from h),Bool.false_and]
theorem wsmall {x:Int} (h:0≤x) (h2:x<9223372036854775808):wrap64 x=x:=by unfold wrap64;omega
theorem name_l0 (x:ByteArray) (hx:x.size≤2147483647):∀(j i:Nat),x.size-i≤j→i≤x.size→∃r,(∀K,j+1≤K→spec_IsName.l0 K x i=some r)∧(r=true→x.toList≠[]∧∀a:Nat,i≤a→a<x.size→(Mod.isLet (bt x a)=true∨(a≠0∧Mod.isDig (bt x a)=true))):=by
 intro j
 induction j with
 | zero=>
  intro i h1 h2;refine⟨x.toList != ([]:List UInt8),fun K hK=>?_,fun h=>⟨bne_iff_ne.1 h,fun a h3 h4=>by omega⟩⟩
  obtain⟨K,rfl⟩:∃j,K=j+1:=⟨K-1,by omega⟩
  unfold spec_IsName.l0;rw[if_neg (by omega)]
 | succ j ih=>
  intro i h1 h2
  by_cases hi:i=x.size
  ·refine⟨x.toList != ([]:List UInt8),fun K hK=>?_,fun h=>⟨bne_iff_ne.1 h,fun a h3 h4=>by omega⟩⟩
   obtain⟨K,rfl⟩:∃j,K=j+1:=⟨K-1,by omega⟩
   unfold spec_IsName.l0;rw[if_neg (by omega)]
  ·obtain⟨r,hr,ht⟩:=ih (i+1) (by omega) (by omega)
   have hw:wrap64 ((i:Int)+1)=((i+1:Nat):Int):=by rw[wsmall (by omega) (by omega)];omega
   cases hb:Mod.isLet (bt x i)with
   | true=>
    refine⟨r,fun K hK=>?_,fun h=>⟨(ht h).1,fun a h3 h4=>?_⟩⟩
    ·obtain⟨K,rfl⟩:∃j,K=j+1:=⟨K-1,by omega⟩
     unfold spec_IsName.l0;rw[if_pos (by omega),if_pos (by omega),begin_let,hb]
     simp only[Option.bind_some,if_true];rw[hw];exact hr K (by omega)
    ·rcases Nat.eq_or_lt_of_le h3 with rfl|h5
     ·exact .inl hb
     ·exact(ht h).2 a h5 h4
   | false=>
    by_cases h0:i=0
    ·subst h0
     refine⟨false,fun K hK=>?_,fun h=>by cases h⟩
     obtain⟨K,rfl⟩:∃j,K=j+1:=⟨K-1,by omega⟩
     unfold spec_IsName.l0;rw[if_pos (by omega),if_pos (by omega),begin_let,hb]
     simp
    ·cases hd:Mod.isDig (bt x i)with
     | true=>
      refine⟨r,fun K hK=>?_,fun h=>⟨(ht h).1,fun a h3 h4=>?_⟩⟩
      ·obtain⟨K,rfl⟩:∃j,K=j+1:=⟨K-1,by omega⟩
       unfold spec_IsName.l0;rw[if_pos (by omega),if_pos (by omega),begin_let,hb]
       simp only[Option.bind_some];rw[if_neg (by decide),if_neg (by omega),digit_dig,hd]
       simp only[Option.bind_some,if_true];rw[hw];exact hr K (by omega)
      ·rcases Nat.eq_or_lt_of_le h3 with rfl|h5
       ·exact .inr ⟨h0,hd⟩
       ·exact(ht h).2 a h5 h4
     | false=>
      refine⟨false,fun K hK=>?_,fun h=>by cases h⟩
      obtain⟨K,rfl⟩:∃j,K=j+1:=⟨K-1,by omega⟩
      unfold spec_IsName.l0;rw[if_pos (by omega),if_pos (by omega),begin_let,hb]
      simp only[Option.bind_some];rw[if_neg (by decide),if_neg (by omega),digit_dig,hd]
      simp only[Option.bind_some];rw[if_neg (by decide)]
theorem name_any (V:ByteArray→ByteArray→Prop) (x:ByteArray) (hx:x.size≤2147483647):∃r,(∀K,x.size+1≤K→spec_IsName.f K x=some r)∧(r=true→IsP V x):=by
 obtain⟨r,h1,h2⟩:=name_l0 x hx x.size 0 (by omega) (by omega)
 refine⟨r,fun K hK=>h1 K hK,fun h=>?_⟩;obtain⟨h3,h4⟩:=h2 h;have h5:0<x.size:=by
  rcases Nat.eq_zero_or_pos x.size with e|e
  ·exfalso
   apply h3;have:x=⟨#[]⟩:=by
    apply ByteArray.ext;exact Array.eq_empty_of_size_eq_zero e
   rw[this];simp
  ·exact e
 refine isP_name h5 ?_ (fun i hi=>?_)
 ·rcases h4 0 (Nat.le_refl _) h5 with h|⟨h,_⟩
  ·exact h
  ·exact absurd rfl h
 ·unfold Mod.isNam
  rcases h4 i (Nat.zero_le _) hi with h|⟨_,h⟩
  ·rw[h];rfl
  ·rw[h];simp
def FPost (V:ByteArray→ByteArray→Prop) (W:World) (n:S35) (e:Ending) (w':World):Prop:=∃r:Bool,e = .returned (.bool r)∧Below W.heap.size W w'∧(r=true→Fm V n)
def NameC (V:ByteArray→ByteArray→Prop) (x:ByteArray):Prop:=∃r:Bool,(r=true→IsP V x)∧∀w:World,Calls Tryz.prog 34 #[.string x] w fun e w'=>e = .returned (.bool r)∧Below w.heap.size w w'
theorem nameC (V:ByteArray→ByteArray→Prop) (x:ByteArray) (hx:x.size≤2147483647):NameC V x:=by
 obtain⟨r,h1,h2⟩:=name_any V x hx;refine⟨r,h2,fun w=>(spec_IsName.calls (x.size+1) x r w (h1 _ (Nat.le_refl _))).mono ?_⟩;rintro e w' ⟨he,hw⟩;exact⟨he,hw.below⟩
theorem stp {W0 w w1:World} {g:Nat} {x0 x1 x2 x3 x4 x5:Value} (hk:Aside0 (Blk w g 35 #[x0,x1,x2,x3,x4,x5])) (hw:Aside0 (Below W0.heap.size W0 w)) (hb:Below w.heap.size w w1):Aside0 (Blk w1 g 35 #[x0,x1,x2,x3,x4,x5])∧Aside0 (Below W0.heap.size W0 w1)∧w1.cell? ⟨g,0,none⟩=some x0∧w1.cell? ⟨g,1,none⟩=some x1∧w1.cell? ⟨g,2,none⟩=some x2∧w1.cell? ⟨g,3,none⟩=some x3∧w1.cell? ⟨g,4,none⟩=some x4∧w1.cell? ⟨g,5,none⟩=some x5:=by
 have h:=hk.out.below hb hk.out.lt;exact⟨⟨h⟩,⟨hw.out.trans (hb.mono hw.out.size)⟩,(h.cell 0).trans rfl,(h.cell 1).trans rfl,(h.cell 2).trans rfl,(h.cell 3).trans rfl,(h.cell 4).trans rfl,(h.cell 5).trans rfl⟩
theorem form_open {W:World} {k n4 n5:Int} {n1 n2 n3:ByteArray} {Q:Ending→World→Prop} (h:Aside0 (Blk (W.alloc (.cells #[.int .i64 k,.string n1,.string n2,.string n3,.int .i64 n4,.int .i64 n5] 35)) W.heap.size 35 #[.int .i64 k,.string n1,.string n2,.string n3,.int .i64 n4,.int .i64 n5])→Aside0 (Below W.heap.size W (W.alloc (.cells #[.int .i64 k,.string n1,.string n2,.string n3,.int .i64 n4,.int .i64 n5] 35)))→Calls Tryz.prog 19 #[.agg #[.int .i64 k,.string n1,.string n2,.string n3,.int .i64 n4,.int .i64 n5]] W Q):Calls Tryz.prog 19 #[.agg #[.int .i64 k,.string n1,.string n2,.string n3,.int .i64 n4,.int .i64 n5]] W Q:=
 h ⟨Blk.new W 35 #[.int .i64 k,.string n1,.string n2,.string n3,.int .i64 n4,.int .i64 n5]⟩ ⟨(Below.refl W.heap.size W).alloc (Nat.le_refl _) _⟩
def FO (V:ByteArray→ByteArray→Prop) (k:Int) (P:ByteArray→ByteArray→ByteArray→Int→Prop):Prop:=∀(n1 n2 n3:ByteArray) (n4 n5:Int),P n1 n2 n3 n4→∀W:World,Calls Tryz.prog 19 #[.agg #[.int .i64 k,.string n1,.string n2,.string n3,.int .i64 n4,.int .i64 n5]] W fun e w'=>FPost V W ⟨k,n1,n2,n3,n4,n5⟩ e w'
theorem fm_name {V:ByteArray→ByteArray→Prop} {k:Int} {n1 n2 n3:ByteArray} {n4 n5:Int} (hk:k∈([4,7,9,10,11,16,19,20,26,27,28,29,30,31,32,33,34,35,36,37,38]:List Int)) (h:IsP V n1):Fm V ⟨k,n1,n2,n3,n4,n5⟩:=by
 simp only[List.mem_cons,List.not_mem_nil,or_false]at hk;refine⟨?_,fun _=>h,?_,?_,?_,?_,?_,?_,?_,?_⟩
 ·show 1≤k∧k≤39;omega
 all_goals (intro h9;exfalso;dsimp only at h9;omega)
set_option maxRecDepth 100000
set_option maxHeartbeats 8000000
theorem vN {p:Prop} (h:p:=by
 intro n1 n2 n3 n4 n5 h1 W;obtain⟨r1,p1,q1⟩:=h1;have P1:=aK p1;have Q1:=aK q1;clear p1 q1;refine form_open fun HBK HBW=>?_;cases hn2:n2.toList.isEmpty with
 | false=>
  go_enter Tryz.func19,Tryz.ntmps19
  go_wp2_with fail
  refine bodyPost_ret (results_tmp rfl _ _ _) rfl ?_;exact⟨false,rfl,HBW.out,fun h=>by cases h⟩
 | true=>
  cases hr1:r1
  all_goals
   rw[hr1]at Q1 P1;go_enter Tryz.func19,Tryz.ntmps19
   go_wp2_with (first|(go_at_call 34;refine(Q1.out _).mono ?_;rintro e w1 ⟨rfl,hb⟩;obtain⟨HBK,HBW,k0,k1,k2,k3,k4,k5⟩:=stp HBK HBW hb;clear hb))
  all_goals
   refine bodyPost_ret (results_tmp rfl _ _ _) rfl ?_;refine⟨_,rfl,HBW.out,?_⟩
   first
   | (intro h;cases h;done)
   | exact fun _=>fm_name (by decide) (P1.out (by first|rfl|trivial))
   | exact fun _=>(by exact absurd ‹_› (by simp))):p:=h
theorem formed4 {V:ByteArray→ByteArray→Prop}:FO V 4 fun n1 _ _ _=>NameC V n1:=vN
theorem formed7 {V:ByteArray→ByteArray→Prop}:FO V 7 fun n1 _ _ _=>NameC V n1:=vN
theorem formed9 {V:ByteArray→ByteArray→Prop}:FO V 9 fun n1 _ _ _=>NameC V n1:=vN
theorem formed10 {V:ByteArray→ByteArray→Prop}:FO V 10 fun n1 _ _ _=>NameC V n1:=vN
theorem formed11 {V:ByteArray→ByteArray→Prop}:FO V 11 fun n1 _ _ _=>NameC V n1:=vN
theorem formed16 {V:ByteArray→ByteArray→Prop}:FO V 16 fun n1 _ _ _=>NameC V n1:=vN
theorem formed19 {V:ByteArray→ByteArray→Prop}:FO V 19 fun n1 _ _ _=>NameC V n1:=vN
theorem formed20 {V:ByteArray→ByteArray→Prop}:FO V 20 fun n1 _ _ _=>NameC V n1:=vN
theorem formed26 {V:ByteArray→ByteArray→Prop}:FO V 26 fun n1 _ _ _=>NameC V n1:=vN
theorem formed27 {V:ByteArray→ByteArray→Prop}:FO V 27 fun n1 _ _ _=>NameC V n1:=vN
theorem formed28 {V:ByteArray→ByteArray→Prop}:FO V 28 fun n1 _ _ _=>NameC V n1:=vN
theorem formed29 {V:ByteArray→ByteArray→Prop}:FO V 29 fun n1 _ _ _=>NameC V n1:=vN
theorem formed30 {V:ByteArray→ByteArray→Prop}:FO V 30 fun n1 _ _ _=>NameC V n1:=vN
theorem formed31 {V:ByteArray→ByteArray→Prop}:FO V 31 fun n1 _ _ _=>NameC V n1:=vN
theorem formed32 {V:ByteArray→ByteArray→Prop}:FO V 32 fun n1 _ _ _=>NameC V n1:=vN
theorem formed33 {V:ByteArray→ByteArray→Prop}:FO V 33 fun n1 _ _ _=>NameC V n1:=vN
theorem formed34 {V:ByteArray→ByteArray→Prop}:FO V 34 fun n1 _ _ _=>NameC V n1:=vN
theorem formed35 {V:ByteArray→ByteArray→Prop}:FO V 35 fun n1 _ _ _=>NameC V n1:=vN
theorem formed36 {V:ByteArray→ByteArray→Prop}:FO V 36 fun n1 _ _ _=>NameC V n1:=vN
theorem formed37 {V:ByteArray→ByteArray→Prop}:FO V 37 fun n1 _ _ _=>NameC V n1:=vN
theorem formed38 {V:ByteArray→ByteArray→Prop}:FO V 38 fun n1 _ _ _=>NameC V n1:=vN
end Go.Proofs.YtjolkdnfbmkjiaaGreatDoor.Wr
