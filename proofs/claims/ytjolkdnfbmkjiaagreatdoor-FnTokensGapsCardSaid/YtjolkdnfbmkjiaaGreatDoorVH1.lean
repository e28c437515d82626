import Derived.Test.YtjolkdnfbmkjiaaGreatDoorVC1
import Derived.Test.YtjolkdnfbmkjiaaGreatDoorVQ1
import Derived.Test.YtjolkdnfbmkjiaaGreatDoorVC3
import Derived.Test.YtjolkdnfbmkjiaaGreatDoorVP8
import Derived.Test.YtjolkdnfbmkjiaaGreatDoorVP9
import Derived.Laws.BitsLemmas
set_option maxRecDepth 100000
set_option maxHeartbeats 8000000
set_option linter.unusedVariables false
set_option linter.unusedSimpArgs false
namespace Go.Proofs.YtjolkdnfbmkjiaaGreatDoor.Qt
open Go.RowKit Go.Proofs.YtjolkdnfbmkjiaaGreatDoorW.PrintWords PFnTokensGaps NameP Rel LinesP
def G2 (o:Option (Int×Int)):Prop:=∀c n,o=some (c,n)→n=0∨2≤n
theorem g2_none:G2 none:=fun _ _ h=>by cases h
theorem g2_zero:G2 (some (0,0)):=fun _ _ h=>by cases h;exact .inl rfl
theorem g2_ret {c n:Int} (h:2≤n):G2 (some (c,n)):=fun _ _ e=>by cases e;exact .inr h
theorem g2_l0 (s:ByteArray) (p x5 x7:Int) (h:2≤x5):∀(k:Nat) (x4 x8:Int),G2 (spec_Point.l0 k s p x4 x5 x7 x8):=by
 intro k
 induction k with
 | zero=>intro x4 x8;exact g2_none
 | succ k ih=>
  intro x4 x8;simp only[spec_Point.l0]
  repeat' first
   | exact ih _ _
   | exact g2_zero
   | exact g2_none
   | exact g2_ret h
   | refine ite_of (fun _=>?_) (fun _=>?_)
theorem g2_j3 (s:ByteArray) (p x4 x5 x7:Int) (h:2≤x5) (k:Nat) (b:Bool):G2 (spec_Point.j3 k s p x4 x5 x7 b):=by
 cases k with
 | zero=>exact g2_none
 | succ k=>
  simp only[spec_Point.j3];exact ite_of (fun _=>g2_zero) (fun _=>g2_l0 s p x5 x7 h k _ _)
theorem g2_j2 (s:ByteArray) (p x4 x5 x7:Int) (h:x5=0∨2≤x5) (k:Nat):G2 (spec_Point.j2 k s p x4 x5 x7):=by
 cases k with
 | zero=>exact g2_none
 | succ k=>
  simp only[spec_Point.j2];refine ite_of (fun h0=>?_) (fun h0=>g2_j3 s p x4 x5 x7 (by omega) k _)
  cases k with
  | zero=>exact g2_none
  | succ k=>
   simp only[spec_Point.j3];rw[if_pos trivial];exact g2_zero
theorem g2_j1 (s:ByteArray) (p x4 x6 x7:Int) (k:Nat) (b:Bool):G2 (spec_Point.j1 k s p x4 0 x6 x7 b):=by
 cases k with
 | zero=>exact g2_none
 | succ k=>
  simp only[spec_Point.j1];refine ite_of (fun _=>g2_j2 _ _ _ _ _ (.inr (by decide)) _) (fun _=>ite_of (fun _=>ite_of (fun _=>g2_j2 _ _ _ _ _ (.inr (by decide)) _) (fun _=>g2_j2 _ _ _ _ _ (.inl rfl) _)) (fun _=>g2_j2 _ _ _ _ _ (.inl rfl) _))
theorem g2_j0 (s:ByteArray) (p x4 x6 x7:Int) (k:Nat) (b:Bool):G2 (spec_Point.j0 k s p x4 0 x6 x7 b):=by
 cases k with
 | zero=>exact g2_none
 | succ k=>
  simp only[spec_Point.j0];exact ite_of (fun _=>g2_j2 _ _ _ _ _ (.inr (by decide)) _) (fun _=>ite_of (fun _=>g2_j1 _ _ _ _ _ _ _) (fun _=>g2_j1 _ _ _ _ _ _ _))
theorem g2_f (s:ByteArray) (p:Int) (h:¬bt s p<128) (k:Nat):G2 (spec_Point.f k s p):=by
 have hr:=bt_range s p;have hw:wrap64 (bt s p)=bt s p:=by unfold wrap64;omega
 unfold spec_Point.f;rw[hw];refine ite_of (fun _=>ite_of (fun _=>?_) (fun _=>g2_none)) (fun _=>g2_none);rw[if_neg h];exact ite_of (fun _=>g2_j0 _ _ _ _ _ _ _) (fun _=>g2_j0 _ _ _ _ _ _ _)
theorem point_le {s:ByteArray} {p:Int} {r:Int×Int} {k K:Nat} (h:k≤K) (e:spec_Point.f k s p=some r):spec_Point.f K s p=some r:=by
 induction h with
 | refl=>exact e
 | step _ ih=>exact spec_Point.mono _ _ _ _ ih
def PtC (s:ByteArray) (a:Nat) (c:Int) (n:Nat):Prop:=∀K,12≤K→spec_Point.f K s a=some (c,(n:Int))
theorem point_all (s:ByteArray) (hs:s.size≤200000) (p:Nat) (hp:p<s.size):∃(c:Int) (n:Nat),PtC s p c n∧(n=0∨(runeOf s p=(c,(n:Int))∧1≤n∧n≤4∧p+n≤s.size∧(c<128∨2≤n))):=by
 obtain⟨c,n,e,h⟩:=point_same s hs p hp;have e0:=e;rcases h with rfl|⟨h1,h2,h3,h4⟩
 ·exact⟨c,0,fun K hK=>point_le hK e,.inl rfl⟩
 ·obtain⟨m,rfl⟩:∃m:Nat,n=(m:Int):=⟨n.toNat,by omega⟩
  refine⟨c,m,fun K hK=>point_le hK e,.inr ⟨h1,by omega,by omega,by omega,?_⟩⟩
  by_cases hb:bt s p<128
  ·rw[rune_small hp hb]at h1
   have:=(Prod.mk.inj h1).1;exact .inl (by omega)
  ·rcases g2_f s p hb 12 c m e with h|h
   ·omega
   ·exact .inr (by omega)
def Qt (s:ByteArray) (a:Nat) (c:Int) (n:Nat):Prop:=PtC s a c n∧1≤c∧c≤65535
theorem rune_pos {s:ByteArray} {p:Nat} {c n:Int} (hp:p<s.size) (h:runeOf s p=(c,n)):0≤c:=by
 by_cases hb:bt s p<128
 ·rw[rune_small hp hb]at h
  have:=(Prod.mk.inj h).1;have:=bt_range s p;omega
 ·have:=(rune_big hp hb).1
  rw[h]at this;simp only at this;omega
theorem text_l0 (s:ByteArray) (hs:s.size≤200000):∀(j i:Nat),s.size-i≤j→i≤s.size→∃r,(∀K,j+13≤K→spec_textable.l0 K s i=some r)∧(r=true→Pts (Qt s) s i):=by
 intro j
 induction j with
 | zero=>
  intro i h1 h2;refine⟨true,fun K hK=>?_,fun _=>?_⟩
  ·obtain⟨K,rfl⟩:∃j,K=j+1:=⟨K-1,by omega⟩
   unfold spec_textable.l0;rw[if_neg (by omega)]
  ·obtain rfl:i=s.size:=by omega
   exact .done
 | succ j ih=>
  intro i h1 h2
  by_cases hi:i=s.size
  ·subst hi
   refine⟨true,fun K hK=>?_,fun _=>.done⟩;obtain⟨K,rfl⟩:∃j,K=j+1:=⟨K-1,by omega⟩
   unfold spec_textable.l0;rw[if_neg (by omega)]
  ·have hlt:i<s.size:=by omega
   obtain⟨c,n,hP,hn⟩:=point_all s hs i hlt;have bad:(n=0∨c=0∨c>65535)→∃r,(∀K,j+1+13≤K→spec_textable.l0 K s i=some r)∧(r=true→Pts (Qt s) s i):=by
    intro h;refine⟨false,fun K hK=>?_,fun h=>by cases h⟩
    obtain⟨K,rfl⟩:∃j,K=j+1:=⟨K-1,by omega⟩
    unfold spec_textable.l0;rw[if_pos (by omega),hP K (by omega)]
    simp only[Option.bind_some]
    by_cases a1:(n:Int)=0
    ·rw[if_pos a1]
    rw[if_neg a1]
    by_cases a2:c=0
    ·rw[if_pos a2]
    rw[if_neg a2,if_pos (by omega)]
   by_cases hb:n=0∨c=0∨c>65535
   ·exact bad hb
   rcases hn with hn|⟨hr,a1,a2,a3,a4⟩
   ·exact bad (.inl hn)
   have hc:=rune_pos hlt hr;obtain⟨r,hK,ht⟩:=ih (i+n) (by omega) (by omega)
   refine⟨r,fun K hK'=>?_,fun h=>.more c n hlt hr a4 a1 a2 a3 ⟨hP,by omega,by omega⟩ (ht h)⟩
   obtain⟨K,rfl⟩:∃j,K=j+1:=⟨K-1,by omega⟩
   unfold spec_textable.l0;rw[if_pos (by omega),hP K (by omega)]
   simp only[Option.bind_some];have hw:wrap64 ((i:Int)+(n:Int))=((i+n:Nat):Int):=by unfold wrap64;omega
   rw[if_neg (by omega),if_neg (by omega),if_neg (by omega),hw]
   exact hK K (by omega)
theorem text_any (s:ByteArray) (hs:s.size≤200000):∃r:Bool,(r=true→Pts (Qt s) s 0)∧∀w:World,Calls Tryz.prog 36 #[.string s] w fun e w'=>e = .returned (.bool r)∧Below w.heap.size w w':=by
 obtain⟨r,h1,h2⟩:=text_l0 s hs s.size 0 (by omega) (by omega)
 refine⟨r,h2,fun w=>(spec_textable.calls (s.size+13) s r w (h1 _ (Nat.le_refl _))).mono ?_⟩;rintro e w' ⟨he,hw⟩;exact⟨he,hw.below⟩
theorem starts_q (s:ByteArray) (hs:s.size≤200000) (a:Nat) (ha:a<s.size):∃b:Bool,spec_starts.f s a (⟨#[34,34,34]⟩:ByteArray)=some b∧(b=true↔three s a):=by
 have hw:wrap64 ((a:Int)+(((⟨#[34,34,34]⟩:ByteArray).size:Nat):Int))=((a+3:Nat):Int):=by
  rw[show(⟨#[34,34,34]⟩:ByteArray).size=3 from rfl];unfold wrap64;omega
 have hst:∀b,(b=true↔three s a)↔b=Lex.startsB s a Lex.quotes:=by
  intro b;rw[Lex.three_starts];constructor
  ·intro h;exact Bool.eq_iff_iff.2 h
  ·rintro rfl;exact Iff.rfl
 refine⟨Lex.startsB s a Lex.quotes,?_,(hst _).2 rfl⟩;unfold spec_starts.f Lex.startsB;rw[hw]
 by_cases h:a+3≤s.size
 ·rw[if_pos (by omega),if_pos (by omega),if_pos (by omega),Int.toNat_natCast,Int.toNat_natCast,decide_eq_true (show a+Lex.quotes.size≤s.size from h),Bool.true_and]
  rfl
 ·rw[if_neg (by omega),decide_eq_false (show ¬a+Lex.quotes.size≤s.size from h),Bool.false_and]
def Qb (s:ByteArray) (a:Nat) (c:Int) (n:Nat):Prop:=(c=9∨c=10∨32≤c)∧¬three s a
abbrev lined (s:ByteArray):ByteArray:=(⟨#[10]⟩:ByteArray)++s++⟨#[10]⟩
theorem value_le {s:ByteArray} {r:ByteArray} {k K:Nat} (h:k≤K) (e:spec_BlockValue.f k s=some r):spec_BlockValue.f K s=some r:=by
 induction h with
 | refl=>exact e
 | step _ ih=>exact spec_BlockValue.mono _ _ _ ih
theorem plain_le {s:ByteArray} {r:Bool} {k K:Nat} (h:k≤K) (e:spec_plainBlock.f k s=some r):spec_plainBlock.f K s=some r:=by
 induction h with
 | refl=>exact e
 | step _ ih=>exact spec_plainBlock.mono _ _ _ ih
theorem end_any (s:ByteArray) (hs:s.size≤100000):∃(v:ByteArray) (b:Bool),(∀K,8*s.size+50≤K→spec_BlockValue.f K (lined s)=some v∧spec_plainBlock.f K (lined s)=some b)∧(b=true→Lex.blkV (lined s) v):=by
 have hsz:(lined s).size=s.size+2:=by
  unfold lined;rw[ByteArray.size_append,ByteArray.size_append,show(⟨#[10]⟩:ByteArray).size=1 from rfl]
  omega
 obtain⟨l,hl,hk⟩:=lines_some (lined s) (by omega)
 refine⟨valueL l,plainL l,fun K hK=>⟨?_,?_⟩,fun h=>⟨l,⟨hl,hk⟩,h,rfl⟩⟩
 ·exact value_le (by omega) (value_some (by omega) hl (fun k h=>(hk k h).1))
 ·exact plain_le (by omega) (plain_some (by omega) hl (fun k h=>(hk k h).1))
theorem block_l0 (s:ByteArray) (hs:s.size≤100000):∀(j i:Nat),s.size-i≤j→i≤s.size→∃r,(∀K,j+8*s.size+60≤K→spec_blockable.l0 K s i=some r)∧(r=true→Pts (Qb s) s i∧Lex.blkV (lined s) s):=by
 obtain⟨v,b,he,hv⟩:=end_any s hs;have fin:∀K,8*s.size+60≤K→spec_blockable.l0 K s s.size=some (if v.toList=s.toList then b else false):=by
  intro K hK;obtain⟨K,rfl⟩:∃j,K=j+1:=⟨K-1,by omega⟩
  have h1:(⟨#[10]⟩:ByteArray).size=1:=rfl;unfold spec_blockable.l0;rw[if_neg (by omega),if_pos (by omega),if_pos (by rw[ByteArray.size_append,h1];omega),(he K (by omega)).1]
  simp only[Option.bind_some];rw[(he K (by omega)).2]
  simp only[Option.bind_some];split<;>rfl
 have fin2:(if v.toList=s.toList then b else false)=true→Lex.blkV (lined s) s:=by
  intro h;split at h
  ·rename_i e
   have e2:v=s:=Lex.toList_inj e;rw[e2]at hv;exact hv h
  ·cases h
 intro j
 induction j with
 | zero=>
  intro i h1 h2;obtain rfl:i=s.size:=by omega
  exact⟨_,fun K hK=>fin K (by omega),fun h=>⟨.done,fin2 h⟩⟩
 | succ j ih=>
  intro i h1 h2
  by_cases hi:i=s.size
  ·subst hi
   exact⟨_,fun K hK=>fin K (by omega),fun h=>⟨.done,fin2 h⟩⟩
  ·have hlt:i<s.size:=by omega
   obtain⟨c,n,hP,hn⟩:=point_all s (by omega) i hlt
   obtain⟨q,hq,hq3⟩:=starts_q s (by omega) i hlt
   have bad:(n=0∨(c≠9∧c≠10∧c<32)∨c=127∨c=65279∨c>65535∨q=true)→∃r,(∀K,j+1+8*s.size+60≤K→spec_blockable.l0 K s i=some r)∧(r=true→Pts (Qb s) s i∧Lex.blkV (lined s) s):=by
    intro h;refine⟨false,fun K hK=>?_,fun h=>by cases h⟩
    obtain⟨K,rfl⟩:∃j,K=j+1:=⟨K-1,by omega⟩
    unfold spec_blockable.l0;rw[if_pos (by omega),hP K (by omega),hq]
    simp only[Option.bind_some]
    by_cases a1:(n:Int)=0
    ·rw[if_pos a1]
    rw[if_neg a1];have tail:(if c=127 then some false else if c=65279 then some false else if c>65535 then some false else if q=true then some false else spec_blockable.l0 K s (wrap64 ((i:Int)+(n:Int))))=some false∨¬(c=127∨c=65279∨c>65535∨q=true):=by
     by_cases b1:c=127
     ·rw[if_pos b1];exact .inl rfl
     rw[if_neg b1]
     by_cases b2:c=65279
     ·rw[if_pos b2];exact .inl rfl
     rw[if_neg b2]
     by_cases b3:c>65535
     ·rw[if_pos b3];exact .inl rfl
     rw[if_neg b3]
     by_cases b4:q=true
     ·rw[if_pos b4];exact .inl rfl
     ·right;rintro(h|h|h|h)
      ·exact b1 h
      ·exact b2 h
      ·exact b3 h
      ·exact b4 h
    by_cases a2:c=9
    ·rw[if_pos a2]
     rcases tail with t|t
     ·exact t
     ·exfalso
      rcases h with h|h|h|h|h|h
      ·omega
      ·exact h.1 a2
      ·exact t (.inl h)
      ·exact t (.inr (.inl h))
      ·exact t (.inr (.inr (.inl h)))
      ·exact t (.inr (.inr (.inr h)))
    rw[if_neg a2]
    by_cases a3:c=10
    ·rw[if_pos a3]
     rcases tail with t|t
     ·exact t
     ·exfalso
      rcases h with h|h|h|h|h|h
      ·omega
      ·exact h.2.1 a3
      ·exact t (.inl h)
      ·exact t (.inr (.inl h))
      ·exact t (.inr (.inr (.inl h)))
      ·exact t (.inr (.inr (.inr h)))
    rw[if_neg a3]
    by_cases a4:c<32
    ·rw[if_pos a4]
    rw[if_neg a4];rcases tail with t|t
    ·exact t
    ·exfalso
     rcases h with h|h|h|h|h|h
     ·omega
     ·omega
     ·exact t (.inl h)
     ·exact t (.inr (.inl h))
     ·exact t (.inr (.inr (.inl h)))
     ·exact t (.inr (.inr (.inr h)))
   by_cases hb:(n=0∨(c≠9∧c≠10∧c<32)∨c=127∨c=65279∨c>65535∨q=true)
   ·exact bad hb
   rcases hn with hn|⟨hr,a1,a2,a3,a4⟩
   ·exact bad (.inl hn)
   have hq0:¬q=true:=fun h=>hb (.inr (.inr (.inr (.inr (.inr h)))));have hc1:¬c=127:=fun h=>hb (.inr (.inr (.inl h)));have hc2:¬c=65279:=fun h=>hb (.inr (.inr (.inr (.inl h))));have hc3:¬c>65535:=fun h=>hb (.inr (.inr (.inr (.inr (.inl h)))));have hc4:c=9∨c=10∨32≤c:=by
    have:¬(c≠9∧c≠10∧c<32):=fun h=>hb (.inr (.inl h));omega
   obtain⟨r,hK,ht⟩:=ih (i+n) (by omega) (by omega)
   refine⟨r,fun K hK'=>?_,fun h=>⟨.more c n hlt hr a4 a1 a2 a3 ⟨hc4,fun h3=>hq0 (hq3.2 h3)⟩ (ht h).1,(ht h).2⟩⟩;obtain⟨K,rfl⟩:∃j,K=j+1:=⟨K-1,by omega⟩
   have hw:wrap64 ((i:Int)+(n:Int))=((i+n:Nat):Int):=by unfold wrap64;omega
   unfold spec_blockable.l0;rw[if_pos (by omega),hP K (by omega),hq]
   simp only[Option.bind_some];rw[if_neg (by omega),if_neg hc1,if_neg hc2,if_neg hc3,if_neg hq0,hw,hK K (by omega)]
   by_cases b1:c=9
   ·rw[if_pos b1]
   rw[if_neg b1]
   by_cases b2:c=10
   ·rw[if_pos b2]
   rw[if_neg b2,if_neg (by omega)]
theorem block_any (s:ByteArray) (hs:s.size≤100000):∃r:Bool,(r=true→Pts (Qb s) s 0∧Lex.blkV (lined s) s)∧∀w:World,Calls Tryz.prog 37 #[.string s] w fun e w'=>e = .returned (.bool r)∧Below w.heap.size w w':=by
 obtain⟨r,h1,h2⟩:=block_l0 s hs s.size 0 (by omega) (by omega)
 exact⟨r,h2,fun w=>spec_blockable.calls (s.size+8*s.size+60) s r w (h1 _ (Nat.le_refl _))⟩
theorem three_no {s:ByteArray}:∀{i:Nat},Pts (Qb s) s i→∀a,i≤a→¬three s a:=by
 intro i h
 induction h with
 | done=>intro a ha h;have:=three_in h;omega
 | @more i c n h1 h2 h3 h4 h5 h6 h7 h8 ih=>
  intro a ha;rcases Nat.lt_or_ge a (i+n)with hl|hl
  ·rcases Nat.eq_or_lt_of_le ha with rfl|hg
   ·exact h7.2
   ·rintro⟨g,_,_⟩
    by_cases hb:bt s i<128
    ·rw[rune_small h1 hb]at h2
     have:=(Prod.mk.inj h2).2;omega
    ·obtain⟨b,hbb,e⟩:=rune_bytes s i h1 hb
     have hb0:=hbb 0 (by omega)
     rw[Nat.add_zero]at hb0;rw[e]at h2;have e2:=(Prod.mk.inj h2).2;obtain⟨m,rfl⟩:∃m,a=i+m:=⟨a-i,by omega⟩
     have hm:=hbb m (by omega)
     rw[g]at hm;have key:∀(N b0 b1 b2 b3:Nat),128≤b0→(2≤(Lib.decodeN N b0 b1 b2 b3).2→128≤b1)∧(3≤(Lib.decodeN N b0 b1 b2 b3).2→128≤b2)∧(4≤(Lib.decodeN N b0 b1 b2 b3).2→128≤b3):=by
      intro N b0 b1 b2 b3 h0;unfold Lib.decodeN
      repeat' split
      all_goals (refine⟨?_,?_,?_⟩<;>simp only<;>omega)
     obtain⟨k1,k2,k3⟩:=key (s.size-i) (b 0) (b 1) (b 2) (b 3) (by omega)
     have hm2:m=1∨m=2∨m=3:=by omega
     rcases hm2 with rfl|rfl|rfl
     ·have:=k1 (by omega);omega
     ·have:=k2 (by omega);omega
     ·have:=k3 (by omega);omega
  ·exact ih a hl
theorem blk_l0 (s:ByteArray) (hs:s.size≤100000) (hq:∀a,¬three s a):∀(j i:Nat),s.size-i≤j→i≤s.size→∀K,j+2≤K→spec_Block.l0 K s ((⟨#[34,34,34,10]⟩:ByteArray)++s.extract 0 i) i=some ((⟨#[34,34,34,10]⟩:ByteArray)++s++⟨#[10,34,34,34]⟩):=by
 have h4:(⟨#[34,34,34,10]⟩:ByteArray).size=4:=rfl;have fin:∀K,2≤K→spec_Block.l0 K s ((⟨#[34,34,34,10]⟩:ByteArray)++s.extract 0 s.size) s.size=some ((⟨#[34,34,34,10]⟩:ByteArray)++s++⟨#[10,34,34,34]⟩):=by
  intro K hK;obtain⟨K,rfl⟩:∃j,K=j+1:=⟨K-1,by omega⟩
  unfold spec_Block.l0;rw[if_neg (by omega),ByteArray.extract_zero_size,if_pos (by rw[ByteArray.size_append,h4];omega)]
 intro j
 induction j with
 | zero=>
  intro i h1 h2 K hK;obtain rfl:i=s.size:=by omega
  exact fin K hK
 | succ j ih=>
  intro i h1 h2 K hK
  by_cases hi:i=s.size
  ·subst hi;exact fin K (by omega)
  ·have hlt:i<s.size:=by omega
   obtain⟨K,rfl⟩:∃j,K=j+1:=⟨K-1,by omega⟩
   obtain⟨q,e1,e2⟩:=starts_q s (by omega) i hlt
   have hw:wrap64 ((i:Int)+1)=((i+1:Nat):Int):=by unfold wrap64;omega
   have hqf:¬q=true:=fun h=>hq i (e2.1 h);have hx:(s.extract 0 i).size=i:=by rw[ByteArray.size_extract];omega
   have hx1:(s.extract i (i+1)).size=1:=by rw[ByteArray.size_extract];omega
   unfold spec_Block.l0;rw[if_pos (by omega),e1]
   simp only[Option.bind_some];rw[if_neg hqf,hw,if_pos (by omega),if_pos (by omega),if_pos (by omega),Int.toNat_natCast,Int.toNat_natCast,if_pos (by rw[ByteArray.size_append,h4,hx,hx1];omega)]
   have e:(⟨#[34,34,34,10]⟩:ByteArray)++s.extract 0 i++s.extract i (i+1)=(⟨#[34,34,34,10]⟩:ByteArray)++s.extract 0 (i+1):=by
    rw[ba_assoc];congr 1;have:=Lex.extract_more (s:=s) (o:=0) (p:=i) (m:=1) (Nat.zero_le _);rwa[show((i:Int)+((1:Nat):Int)).toNat=i+1 by omega]at this
   rw[e];exact ih (i+1) (by omega) (by omega) K (by omega)
theorem blk_calls (s:ByteArray) (hs:s.size≤100000) (h:Pts (Qb s) s 0) (W:World):Calls Tryz.prog 46 #[.string s] W fun e w1=>e = .returned (.string ((⟨#[34,34,34,10]⟩:ByteArray)++s++⟨#[10,34,34,34]⟩))∧Below W.heap.size W w1:=by
 have hf:spec_Block.f (s.size+2) s=some ((⟨#[34,34,34,10]⟩:ByteArray)++s++⟨#[10,34,34,34]⟩):=by
  have:=blk_l0 s hs (fun a=>three_no h a (Nat.zero_le _)) s.size 0 (by omega) (by omega) (s.size+2) (by omega)
  rw[show s.extract 0 0=(⟨#[]⟩:ByteArray) by apply ByteArray.ext;simp,show(⟨#[34,34,34,10]⟩:ByteArray)++(⟨#[]⟩:ByteArray)=⟨#[34,34,34,10]⟩ by apply ByteArray.ext;simp]at this
  exact this
 refine(spec_Block.calls _ s _ W hf).mono ?_;rintro e w' ⟨he,hw⟩;exact⟨he,hw.below⟩
open Go.Proofs.YtjolkdnfbmkjiaaGreatDoor.Mod Sim Step Four
abbrev dg:ByteArray:=⟨#[48,49,50,51,52,53,54,55,56,57,97,98,99,100,101,102]⟩
def hd (d:Int):ByteArray:=dg.extract d.toNat (d+1).toNat
theorem hd_ok (d:Int) (h0:0≤d) (h1:d<16):(hd d).size=1∧hexV (bt (hd d) 0)=d:=by
 obtain rfl|rfl|rfl|rfl|rfl|rfl|rfl|rfl|rfl|rfl|rfl|rfl|rfl|rfl|rfl|rfl:d=0∨d=1∨d=2∨d=3∨d=4∨d=5∨d=6∨d=7∨d=8∨d=9∨d=10∨d=11∨d=12∨d=13∨d=14∨d=15:=by omega
 all_goals (constructor<;>decide)
def hexT (c:Int):ByteArray:=((((⟨#[92,117]⟩:ByteArray)++hd (c/4096))++hd (c/256%16))++hd (c/16%16))++hd (c%16)
theorem hexT_size (c:Int) (h0:0≤c) (h1:c≤65535):(hexT c).size=6:=by
 unfold hexT;rw[ByteArray.size_append,ByteArray.size_append,ByteArray.size_append,ByteArray.size_append,(hd_ok (c/4096) (by omega) (by omega)).1,(hd_ok (c/256%16) (by omega) (by omega)).1,(hd_ok (c/16%16) (by omega) (by omega)).1,(hd_ok (c%16) (by omega) (by omega)).1]
 rfl
theorem qb_hex (c:Int) (h0:1≤c) (h1:c≤65535) (h2:¬(55296≤c∧c≤57343)):QB (hexT c):=by
 have hsz:=hexT_size c (by omega) h1
 obtain⟨s1,v1⟩:=hd_ok (c/4096) (by omega) (by omega)
 obtain⟨s2,v2⟩:=hd_ok (c/256%16) (by omega) (by omega)
 obtain⟨s3,v3⟩:=hd_ok (c/16%16) (by omega) (by omega)
 obtain⟨s4,v4⟩:=hd_ok (c%16) (by omega) (by omega)
 generalize hA:hd (c/4096)=A at *;generalize hB:hd (c/256%16)=B at *;generalize hC:hd (c/16%16)=C at *;generalize hD:hd (c%16)=D at *;have e:hexT c=((((⟨#[92,117]⟩:ByteArray)++A)++B)++C)++D:=by unfold hexT;rw[hA,hB,hC,hD]
 rw[e]at hsz ⊢;have u2:(⟨#[92,117]⟩:ByteArray).size=2:=rfl;have z1:((⟨#[92,117]⟩:ByteArray)++A).size=3:=by rw[ByteArray.size_append,s1,u2]
 have z2:(((⟨#[92,117]⟩:ByteArray)++A)++B).size=4:=by rw[ByteArray.size_append,z1,s2]
 have z3:((((⟨#[92,117]⟩:ByteArray)++A)++B)++C).size=5:=by rw[ByteArray.size_append,z2,s3]
 have i0:In (((((⟨#[92,117]⟩:ByteArray)++A)++B)++C)++D) ⟨#[92,117]⟩ 0:=in_trans (in_left _ D) (in_trans (in_left _ C) (in_trans (in_left _ B) (in_left _ A)));have iA:In (((((⟨#[92,117]⟩:ByteArray)++A)++B)++C)++D) A 2:=by
  have:=in_trans (in_left ((((⟨#[92,117]⟩:ByteArray)++A)++B)++C) D) (in_trans (in_left (((⟨#[92,117]⟩:ByteArray)++A)++B) C) (in_trans (in_left ((⟨#[92,117]⟩:ByteArray)++A) B) (in_right (⟨#[92,117]⟩:ByteArray) A)))
  simpa[u2]using this
 have iB:In (((((⟨#[92,117]⟩:ByteArray)++A)++B)++C)++D) B 3:=by
  have:=in_trans (in_left ((((⟨#[92,117]⟩:ByteArray)++A)++B)++C) D) (in_trans (in_left (((⟨#[92,117]⟩:ByteArray)++A)++B) C) (in_right ((⟨#[92,117]⟩:ByteArray)++A) B));rw[z1,Nat.zero_add,Nat.zero_add]at this;exact this
 have iC:In (((((⟨#[92,117]⟩:ByteArray)++A)++B)++C)++D) C 4:=by
  have:=in_trans (in_left ((((⟨#[92,117]⟩:ByteArray)++A)++B)++C) D) (in_right (((⟨#[92,117]⟩:ByteArray)++A)++B) C);rw[z2,Nat.zero_add]at this;exact this
 have iD:In (((((⟨#[92,117]⟩:ByteArray)++A)++B)++C)++D) D 5:=by
  have:=in_right ((((⟨#[92,117]⟩:ByteArray)++A)++B)++C) D;rw[z3]at this;exact this
 generalize ((((⟨#[92,117]⟩:ByteArray)++A)++B)++C)++D=X at *;have b0:bt X (0:Nat)=92:=by have:=i0.eq 0 (by decide);exact this
 have b1:bt X (1:Nat)=117:=by have:=i0.eq 1 (by decide);exact this
 have g1:hexV (bt X (0+2:Nat))=c/4096:=by have:=iA.eq 0 (by omega);rw[show(2+0:Nat)=0+2 from rfl]at this;rw[this];exact v1
 have g2:hexV (bt X (0+3:Nat))=c/256%16:=by have:=iB.eq 0 (by omega);rw[show(3+0:Nat)=0+3 from rfl]at this;rw[this];exact v2
 have g3:hexV (bt X (0+4:Nat))=c/16%16:=by have:=iC.eq 0 (by omega);rw[show(4+0:Nat)=0+4 from rfl]at this;rw[this];exact v3
 have g4:hexV (bt X (0+5:Nat))=c%16:=by have:=iD.eq 0 (by omega);rw[show(5+0:Nat)=0+5 from rfl]at this;rw[this];exact v4
 have hu:uniV X 0=c:=by unfold uniV;rw[g1,g2,g3,g4];omega
 refine qb_uni hsz b0 b1 ⟨?_,?_,?_,?_⟩ (by rw[hu];exact h0) (by rw[hu];exact h2)
 ·rw[g1];omega
 ·rw[g2];omega
 ·rw[g3];omega
 ·rw[g4];omega
inductive QRow (s:ByteArray):Nat→ByteArray→ByteArray→Prop
 | done (out:ByteArray):QRow s s.size out (out++⟨#[34]⟩)
 | esc {a:Nat} {out q:ByteArray} (c:Int):a<s.size→PtC s a c 1→(c=34∨c=92)→QRow s (a+1) (out++((⟨#[92]⟩:ByteArray)++s.extract a (a+1))) q→QRow s a out q
 | hex {a:Nat} {out q:ByteArray} (c:Int) (n:Nat):a<s.size→PtC s a c n→1≤n→n≤4→a+n≤s.size→c≠34→c≠92→(c<32∨c=127∨c=65279)→1≤c→QRow s (a+n) (out++hexT c) q→QRow s a out q
 | chr {a:Nat} {out q:ByteArray} (c:Int) (n:Nat):a<s.size→PtC s a c n→1≤n→n≤4→a+n≤s.size→c≠34→c≠92→32≤c→c≠127→c≠65279→QRow s (a+n) (out++s.extract a (a+n)) q→QRow s a out q
theorem qrow_of {V:ByteArray→ByteArray→Prop} {s:ByteArray} {a:Nat} (h:Pts (Qt s) s a):∀out,QI out→out.size≤1+6*a→∃q,QRow s a out q∧(∃k v,Piece V q k v)∧q.size≤6*s.size+2:=by
 induction h with
 | done=>
  intro out hq hs;refine⟨_,.done out,hq.fin,?_⟩;rw[ByteArray.size_append,show(⟨#[34]⟩:ByteArray).size=1 from rfl]
  omega
 | @more a c n h1 h2 h3 h4 h5 h6 h7 h8 ih=>
  intro out hq hs;obtain⟨hP,hc1,hc2⟩:=h7
  by_cases hsm:c=34∨c=92
  ·have hb:bt s a<128:=by
    rcases Int.lt_or_le (bt s a) 128 with h|h
    ·exact h
    ·have:=(rune_big h1 (Int.not_lt.2 h)).1
     rw[h2]at this;simp only at this;omega
   rw[rune_small h1 hb]at h2;have hn:n=1:=by have:=(Prod.mk.inj h2).2;omega
   have hbc:bt s a=c:=(Prod.mk.inj h2).1;subst hn;have hsz:(s.extract a (a+1)).size=1:=by rw[ByteArray.size_extract];omega
   have hp:((⟨#[92]⟩:ByteArray)++s.extract a (a+1)).size=2:=by rw[ByteArray.size_append,hsz];rfl
   have hb1:bt ((⟨#[92]⟩:ByteArray)++s.extract a (a+1)) 1=c:=by
    have e1:=bt_app_r (⟨#[92]⟩:ByteArray) (s.extract a (a+1)) 0 (by omega)
    have e2:bt (s.extract a (a+1)) (0:Nat)=bt s a:=by
     rw[bt_nat _ _ (by omega),bt_nat _ _ h1]
     simp only[ByteArray.getElem_extract];rfl
    exact(e1.trans e2).trans hbc
   have hqb:QB ((⟨#[92]⟩:ByteArray)++s.extract a (a+1)):=qb_esc hp (bt_app_l (⟨#[92]⟩:ByteArray) (s.extract a (a+1)) 0 (by decide)) (by rw[hb1];exact hsm)
   obtain⟨q,k1,k2⟩:=ih _ (hq.add hqb) (by rw[ByteArray.size_append,hp];omega)
   exact⟨q,.esc c h1 hP hsm k1,k2⟩
  ·by_cases hhx:c<32∨c=127∨c=65279
   ·obtain⟨q,k1,k2⟩:=ih _ (hq.add (qb_hex c hc1 hc2 (by omega))) (by rw[ByteArray.size_append,hexT_size c (by omega) hc2];omega)
    exact⟨q,.hex c n h1 hP h4 h5 h6 (fun h=>hsm (.inl h)) (fun h=>hsm (.inr h)) hhx hc1 k1,k2⟩
   ·have hsz:(s.extract a (a+n)).size=n:=by rw[ByteArray.size_extract];omega
    obtain⟨q,k1,k2⟩:=ih _ (hq.add (qb_chr h1 h2 h3 h4 h5 h6 (fun h=>hsm (.inl h)) (fun h=>hsm (.inr h)) (by omega))) (by rw[ByteArray.size_append,hsz];omega)
    exact⟨q,.chr c n h1 hP h4 h5 h6 (fun h=>hsm (.inl h)) (fun h=>hsm (.inr h)) (by omega) (fun h=>hhx (.inr (.inl h))) (fun h=>hhx (.inr (.inr h))) k1,k2⟩
theorem and15 (x:Int) (h0:0≤x) (h1:x<2 ^ 32):Go.bits .and .i64 x 15=x%16:=Go.bits_mask .i64 32 (by decide) (fun n h0 h1=>by rw[Go.IntKind.wrap_i64];omega) 4 (by decide) x h0 h1
theorem quote_calls (s:ByteArray) (hs:s.size≤100000) (q:ByteArray) (hQ:QRow s 0 ⟨#[34]⟩ q) (W:World):Calls Tryz.prog 47 #[.string s] W fun e w1=>e = .returned (.string q)∧Drawn0 W w1:=by
 have HQ:=aK hQ;clear hQ;go_enter Tryz.func47,Tryz.ntmps47
 go_wp2_with fail
 repeat (go_quiet (fail);try go_wp2_with fail)
 go_loopg [3,4] (s.size+1) (fun k v3 v4 w'=>∃(out:ByteArray) (a:Nat),v3 = .string out∧v4 = .int .i64 a∧k=s.size+1-a∧out.size≤1+6*a∧a≤s.size∧Aside0 (QRow s a out q)∧Drawn0 W w')
 case atStart=>exact⟨_,0,rfl,rfl,rfl,Nat.le_refl _,Nat.zero_le _,HQ,vD⟩
 case round=>
  clear HQ;obtain⟨out,a,rfl,rfl,hk,ho,ha,H,⟨m1,rfl⟩⟩:=hrel;have HQ:=H.out;clear H;cases HQ with
  | done=>
   go_wp2_with fail
   repeat (go_quiet (fail);try go_wp2_with fail)
   go_ret
   exact⟨rfl,vD⟩
  | esc c h1 hP hc hq=>
   have HP:=aK (hP 12 (Nat.le_refl _));have HN:=aK hq;clear hP hq;have hx:(s.extract a (a+1)).size=1:=by rw[ByteArray.size_extract];omega
   rcases hc with rfl|rfl
   all_goals
    go_wp2_with (first|(go_at_call 58;(with_reducible refine(spec_Point.calls 12 s _ _ _ _ HP.out).mono ?_);rintro e w' ⟨rfl,⟨nd,rfl⟩⟩;(try first|exact⟨rfl,_,World.drewN_drewN _ _ _⟩|exact⟨rfl,_,Eq.trans (World.drewN_drewN _ _ _) (congrArg (World.drewN _) (Nat.add_assoc _ _ _))⟩)))
    repeat (go_quiet (first|(go_at_call 58;(with_reducible refine(spec_Point.calls 12 s _ _ _ _ HP.out).mono ?_);rintro e w' ⟨rfl,⟨nd,rfl⟩⟩;(try first|exact⟨rfl,_,World.drewN_drewN _ _ _⟩|exact⟨rfl,_,Eq.trans (World.drewN_drewN _ _ _) (congrArg (World.drewN _) (Nat.add_assoc _ _ _))⟩)));try go_wp2_with (first|(go_at_call 58;(with_reducible refine(spec_Point.calls 12 s _ _ _ _ HP.out).mono ?_);rintro e w' ⟨rfl,⟨nd,rfl⟩⟩;(try first|exact⟨rfl,_,World.drewN_drewN _ _ _⟩|exact⟨rfl,_,Eq.trans (World.drewN_drewN _ _ _) (congrArg (World.drewN _) (Nat.add_assoc _ _ _))⟩))))
    go_roundg (s.size+1-(a+1))
    case measure=>omega
    case rel=>exact⟨_,a+1,rfl,by go_num,rfl,by rw[ByteArray.size_append,ByteArray.size_append,hx,show(⟨#[92]⟩:ByteArray).size=1 from rfl];omega,h1,HN,vD⟩
  | hex c n h1 hP a1 a2 a3 c1 c2 hh hc hq=>
   have HP:=aK (hP 12 (Nat.le_refl _));have HN:=aK hq;clear hP hq;have f0:((n:Int)==0)=false:=beq_eq_false_iff_ne.2 (by omega)
   have f1:(c==34)=false:=beq_eq_false_iff_ne.2 c1;have f2:(c==92)=false:=beq_eq_false_iff_ne.2 c2;have e1:=and15 (c/256) (by omega) (by omega)
   have e2:=and15 (c/16) (by omega) (by omega)
   have e3:=and15 c (by omega) (by omega)
   have hx:=hexT_size c (by omega) (by omega)
   unfold hexT at HN hx;unfold hd at HN hx;obtain⟨d1,g1⟩:∃d,c/4096=d:=⟨_,rfl⟩;obtain⟨d2,g2⟩:∃d,c/256%16=d:=⟨_,rfl⟩;obtain⟨d3,g3⟩:∃d,c/16%16=d:=⟨_,rfl⟩;obtain⟨d4,g4⟩:∃d,c%16=d:=⟨_,rfl⟩;rw[g2]at e1;rw[g3]at e2;rw[g4]at e3;rw[g1,g2,g3,g4]at HN hx;have b1:0≤d1∧d1<16:=by omega
   have b2:0≤d2∧d2<16:=by omega
   have b3:0≤d3∧d3<16:=by omega
   have b4:0≤d4∧d4<16:=by omega
   clear g2 g3 g4;have hh':decide (c<32)=true∨(decide (c<32)=false∧(c==127)=true)∨(decide (c<32)=false∧(c==127)=false∧(c==65279)=true):=by
    by_cases q1:c<32
    ·exact .inl (decide_eq_true q1)
    ·by_cases q2:c=127
     ·exact .inr (.inl ⟨decide_eq_false q1,beq_iff_eq.2 q2⟩)
     ·exact .inr (.inr ⟨decide_eq_false q1,beq_eq_false_iff_ne.2 q2,beq_iff_eq.2 (by omega)⟩)
   rcases hh' with q1|⟨q1,q2⟩|⟨q1,q2,q3⟩
   all_goals
    go_wp2_with (first|(go_at_call 58;(with_reducible refine(spec_Point.calls 12 s _ _ _ _ HP.out).mono ?_);rintro e w' ⟨rfl,⟨nd,rfl⟩⟩;(try first|exact⟨rfl,_,World.drewN_drewN _ _ _⟩|exact⟨rfl,_,Eq.trans (World.drewN_drewN _ _ _) (congrArg (World.drewN _) (Nat.add_assoc _ _ _))⟩)))
    repeat (go_quiet (first|(go_at_call 58;(with_reducible refine(spec_Point.calls 12 s _ _ _ _ HP.out).mono ?_);rintro e w' ⟨rfl,⟨nd,rfl⟩⟩;(try first|exact⟨rfl,_,World.drewN_drewN _ _ _⟩|exact⟨rfl,_,Eq.trans (World.drewN_drewN _ _ _) (congrArg (World.drewN _) (Nat.add_assoc _ _ _))⟩)));try go_wp2_with (first|(go_at_call 58;(with_reducible refine(spec_Point.calls 12 s _ _ _ _ HP.out).mono ?_);rintro e w' ⟨rfl,⟨nd,rfl⟩⟩;(try first|exact⟨rfl,_,World.drewN_drewN _ _ _⟩|exact⟨rfl,_,Eq.trans (World.drewN_drewN _ _ _) (congrArg (World.drewN _) (Nat.add_assoc _ _ _))⟩))))
    go_roundg (s.size+1-(a+n))
    case measure=>omega
    case rel=>exact⟨_,a+n,rfl,by go_num,rfl,Nat.le_trans (Nat.le_of_eq (ByteArray.size_append.trans (congrArg (out.size + ·) hx))) (by omega),a3,HN,vD⟩
  | chr c n h1 hP a1 a2 a3 c1 c2 c3 c4 c5 hq=>
   have HP:=aK (hP 12 (Nat.le_refl _));have HN:=aK hq;clear hP hq;have hx:(s.extract a (a+n)).size=n:=by rw[ByteArray.size_extract];omega
   have f0:((n:Int)==0)=false:=beq_eq_false_iff_ne.2 (by omega)
   have f1:(c==34)=false:=beq_eq_false_iff_ne.2 c1;have f2:(c==92)=false:=beq_eq_false_iff_ne.2 c2;have f3:decide (c<32)=false:=decide_eq_false (by omega)
   have f4:(c==127)=false:=beq_eq_false_iff_ne.2 c4;have f5:(c==65279)=false:=beq_eq_false_iff_ne.2 c5
   go_wp2_with (first|(go_at_call 58;(with_reducible refine(spec_Point.calls 12 s _ _ _ _ HP.out).mono ?_);rintro e w' ⟨rfl,⟨nd,rfl⟩⟩;(try first|exact⟨rfl,_,World.drewN_drewN _ _ _⟩|exact⟨rfl,_,Eq.trans (World.drewN_drewN _ _ _) (congrArg (World.drewN _) (Nat.add_assoc _ _ _))⟩)))
   repeat (go_quiet (first|(go_at_call 58;(with_reducible refine(spec_Point.calls 12 s _ _ _ _ HP.out).mono ?_);rintro e w' ⟨rfl,⟨nd,rfl⟩⟩;(try first|exact⟨rfl,_,World.drewN_drewN _ _ _⟩|exact⟨rfl,_,Eq.trans (World.drewN_drewN _ _ _) (congrArg (World.drewN _) (Nat.add_assoc _ _ _))⟩)));try go_wp2_with (first|(go_at_call 58;(with_reducible refine(spec_Point.calls 12 s _ _ _ _ HP.out).mono ?_);rintro e w' ⟨rfl,⟨nd,rfl⟩⟩;(try first|exact⟨rfl,_,World.drewN_drewN _ _ _⟩|exact⟨rfl,_,Eq.trans (World.drewN_drewN _ _ _) (congrArg (World.drewN _) (Nat.add_assoc _ _ _))⟩))))
   go_roundg (s.size+1-(a+n))
   case measure=>omega
   case rel=>exact⟨_,a+n,rfl,by go_num,rfl,by rw[ByteArray.size_append,hx];omega,a3,HN,vD⟩
theorem str_any {V:ByteArray→ByteArray→Prop} (s:ByteArray) (hs:s.size≤100000) (h:Pts (Qt s) s 0):∃q,(∃k v,Piece V q k v)∧q.size≤6*s.size+20∧∀W:World,Calls Tryz.prog 47 #[.string s] W fun e w1=>e = .returned (.string q)∧Below W.heap.size W w1:=by
 obtain⟨q,h1,h2,h3⟩:=qrow_of (V:=V) h ⟨#[34]⟩ QI.begin_ (by decide)
 refine⟨q,h2,by omega,fun W=>(quote_calls s hs q h1 W).mono ?_⟩
 rintro e w' ⟨he,hw⟩;exact⟨he,hw.below⟩
theorem blk_any (s:ByteArray) (hs:s.size≤100000) (h:Pts (Qb s) s 0) (hV:Lex.blkV (lined s) s):∃q,(∃k v,Piece Lex.blkV q k v)∧q.size≤6*s.size+20∧∀W:World,Calls Tryz.prog 46 #[.string s] W fun e w1=>e = .returned (.string q)∧Below W.heap.size W w1:=by
 refine⟨_,⟨19,s,blk_piece (fun a c n h=>h) h hV⟩,?_,fun W=>blk_calls s hs h W⟩;rw[ByteArray.size_append,ByteArray.size_append,show(⟨#[34,34,34,10]⟩:ByteArray).size=4 from rfl,show(⟨#[10,34,34,34]⟩:ByteArray).size=4 from rfl]
 omega
end Go.Proofs.YtjolkdnfbmkjiaaGreatDoor.Qt
