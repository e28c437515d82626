import Derived.Test.YtjolkdnfbmkjiaaGreatDoorVA1
import Derived.Test.YtjolkdnfbmkjiaaGreatDoorVP9
set_option maxRecDepth 100000
set_option maxHeartbeats 8000000
set_option linter.unusedVariables false
set_option linter.unusedSimpArgs false
namespace Go.Proofs.YtjolkdnfbmkjiaaGreatDoor.Rel
open Go.Proofs.YtjolkdnfbmkjiaaGreatDoor.Mod Sim Step Four Go.Proofs.YtjolkdnfbmkjiaaGreatDoorW.PrintWords
def clingB (c:Int):Bool:=isLet c||isDig c||c==45||c==46
theorem cling_not {c:Int} (h:clingB c=false):isNam c=false∧isDig c=false∧isLet c=false∧c≠45∧c≠46∧c≠69∧c≠101∧c≠48:=by
 unfold clingB at h;simp only[Bool.or_eq_false_iff,beq_eq_false_iff_ne]at h;obtain⟨⟨⟨h1,h2⟩,h3⟩,h4⟩:=h;refine⟨by unfold isNam;rw[h1,h2];rfl,h2,h1,h3,h4,?_,?_,?_⟩
 ·rintro rfl;exact absurd h1 (by decide)
 ·rintro rfl;exact absurd h1 (by decide)
 ·rintro rfl;exact absurd h2 (by decide)
structure Sep (x:ByteArray) (c:Int):Prop where
 cling:clingB (bt x 0)=true→clingB c=false
 quote:bt x 0=34→c≠34
 plus:c≠43
theorem in_trans {A B C:ByteArray} {d e:Nat} (h:In A B d) (k:In B C e):In A C (d+e):=
 ⟨by have:=h.fit;have:=k.fit;omega,fun j hj=>by have h1:=k.fit;rw[Nat.add_assoc,h.eq (e+j) (by omega),k.eq j hj]⟩
theorem in_self (A:ByteArray):In A A 0:=⟨by omega,fun j _=>by rw[Nat.zero_add]⟩
theorem bt_app_l (x y:ByteArray) (j:Nat) (h:j<x.size):bt (x++y) j=bt x j:=by
 rw[bt_nat _ _ (by rw[ByteArray.size_append];omega),bt_nat _ _ h,ByteArray.getElem_append_left h]
theorem bt_app_r (x y:ByteArray) (j:Nat) (h:j<y.size):bt (x++y) (x.size+j:Nat)=bt y j:=by
 rw[bt_nat _ _ (by rw[ByteArray.size_append];omega),bt_nat _ _ h,ByteArray.getElem_append_right (by omega)]
 congr 2;simp
theorem in_left (x y:ByteArray):In (x++y) x 0:=⟨by rw[ByteArray.size_append];omega,fun j hj=>by rw[Nat.zero_add];exact bt_app_l x y j hj⟩
theorem in_right (x y:ByteArray):In (x++y) y x.size:=⟨by rw[ByteArray.size_append];omega,fun j hj=>bt_app_r x y j hj⟩
theorem in_extr {B c:ByteArray} {d:Nat} (h:In B c d):B.extract d (d+c.size)=c:=by
 have e:=extract_sh h 0 c.size (Nat.le_refl _);rw[Nat.add_zero]at e;rw[e];exact ByteArray.extract_zero_size
section
variable {B c:ByteArray} {d:Nat}
theorem digs_in (h:In B c d) (hn:isDig (bt B (d+c.size:Nat))=false) (p:Nat) (hp:p≤c.size):digs B (d+p)=d+digs c p∧digs c p≤c.size:=by
 have hf:=h.fit;obtain⟨a,b,x,y⟩:=scan_all isDig rfl c p hp;refine⟨?_,b⟩;refine scan_eq isDig B B.size (d+p) (d+digs c p) (by unfold digs;omega) (by unfold digs;omega) (fun i hi hq=>?_) ?_
 ·obtain⟨j,rfl⟩:∃j,i=d+j:=⟨i-d,by omega⟩
  have hj:j<digs c p:=by omega
  rw[h.eq j (by unfold digs at hj;omega)]
  exact x j (by omega) hj
 ·rcases Nat.lt_or_ge (digs c p) c.size with h1|h1
  ·rw[h.eq _ h1];exact y
  ·have e:digs c p=c.size:=by unfold digs at h1 ⊢;omega
   rw[e];exact hn
def tst (t:Int):Prop:=t=45∨t=48∨t=46∨t=69∨t=101∨t=43
theorem tst_in (h:In B c d) (hn:clingB (bt B (d+c.size:Nat))=false) (h43:bt B (d+c.size:Nat)≠43) (p:Nat) (hp:p≤c.size) (t:Int) (ht:tst t):(bt B (d+p:Nat)=t)=(bt c p=t):=by
 rcases Nat.lt_or_ge p c.size with h1|h1
 ·rw[h.eq p h1]
 ·obtain rfl:p=c.size:=by omega
  obtain⟨a1,a2,a3,a4,a5,a6,a7,a8⟩:=cling_not hn;rw[bt_out c _ (Nat.le_refl _)];unfold tst at ht;apply propext;constructor
  ·intro e;rw[e]at a4 a5 a6 a7 a8 h43;omega
  ·intro e;omega
theorem at_in {t:Int} {p:Nat} (h:bt c p=t) (ht:tst t):p<c.size:=in_of (by unfold tst at ht;omega)
theorem exp_in (h:In B c d) (hn:clingB (bt B (d+c.size:Nat))=false) (h43:bt B (d+c.size:Nat)≠43) (k:Int) (p:Nat) (hp:p≤c.size):sExp B k (d+p)=(sExp c k p).map fun x=>(x.1,d+x.2):=by
 have hd:=(cling_not hn).2.1;have T:=tst_in h hn h43;unfold sExp;have e1:(bt B (d+p:Nat)=101∨bt B (d+p:Nat)=69)=(bt c p=101∨bt c p=69):=by rw[T p hp 101 (by unfold tst;omega),T p hp 69 (by unfold tst;omega)]
 by_cases h1:bt c p=101∨bt c p=69
 ·have hlt:p<c.size:=by rcases h1 with h1|h1<;>exact at_in h1 (by unfold tst;omega)
  rw[if_pos (e1.mpr h1),if_pos h1];have e2:(bt B (d+p+1:Nat)=43∨bt B (d+p+1:Nat)=45)=(bt c (p+1:Nat)=43∨bt c (p+1:Nat)=45):=by
   rw[Nat.add_assoc,T (p+1) hlt 43 (by unfold tst;omega),T (p+1) hlt 45 (by unfold tst;omega)]
  by_cases h2:bt c (p+1:Nat)=43∨bt c (p+1:Nat)=45
  ·have hlt2:p+1<c.size:=by rcases h2 with h2|h2<;>exact at_in h2 (by unfold tst;omega)
   rw[if_pos (e2.mpr h2),if_pos h2];obtain⟨e3,e4⟩:=digs_in h hd (p+2) (by omega)
   rw[Nat.add_assoc,e3]
   by_cases h3:digs c (p+2)=p+2
   ·rw[if_pos (by omega),if_pos h3];rfl
   ·rw[if_neg (by omega),if_neg h3];rfl
  ·rw[if_neg (fun x=>h2 (e2.mp x)),if_neg h2]
   obtain⟨e3,e4⟩:=digs_in h hd (p+1) (by omega)
   rw[Nat.add_assoc,e3]
   by_cases h3:digs c (p+1)=p+1
   ·rw[if_pos (by omega),if_pos h3];rfl
   ·rw[if_neg (by omega),if_neg h3];rfl
 ·rw[if_neg (fun x=>h1 (e1.mp x)),if_neg h1];rfl
theorem frac_in (h:In B c d) (hn:clingB (bt B (d+c.size:Nat))=false) (h43:bt B (d+c.size:Nat)≠43) (p:Nat) (hp:p≤c.size):sFrac B (d+p)=(sFrac c p).map fun x=>(x.1,d+x.2):=by
 have hd:=(cling_not hn).2.1;have e1:=tst_in h hn h43 p hp 46 (by unfold tst;omega)
 unfold sFrac
 by_cases h1:bt c p=46
 ·have hlt:p<c.size:=at_in h1 (by unfold tst;omega)
  rw[if_pos (e1.mpr h1),if_pos h1];obtain⟨e3,e4⟩:=digs_in h hd (p+1) (by omega)
  rw[Nat.add_assoc,e3]
  by_cases h3:digs c (p+1)=p+1
  ·rw[if_pos (by omega),if_pos h3];rfl
  ·rw[if_neg (by omega),if_neg h3]
   exact exp_in h hn h43 17 _ e4
 ·rw[if_neg (fun x=>h1 (e1.mp x)),if_neg h1]
  exact exp_in h hn h43 16 p hp
theorem num_in (h:In B c d) (hn:clingB (bt B (d+c.size:Nat))=false) (h43:bt B (d+c.size:Nat)≠43) (h0:0<c.size):sNum B d=(sNum c 0).map fun x=>(x.1,d+x.2):=by
 have hd:=(cling_not hn).2.1;have T:=tst_in h hn h43;have e1:(bt B (d:Nat)=45)=(bt c (0:Nat)=45):=T 0 (Nat.zero_le _) 45 (by unfold tst;omega)
 have key:∀a,a≤c.size→(if digs B (d+a)=d+a∨(bt B (d+a:Nat)=48∧d+a+1<digs B (d+a))then none else sFrac B (digs B (d+a)))=(if digs c a=a∨(bt c (a:Nat)=48∧a+1<digs c a)then none else sFrac c (digs c a)).map fun x=>(x.1,d+x.2):=by
  intro a ha;obtain⟨e3,e4⟩:=digs_in h hd a ha;have e5:=T a ha 48 (by unfold tst;omega)
  rw[e3]
  by_cases h3:digs c a=a∨(bt c (a:Nat)=48∧a+1<digs c a)
  ·rw[if_pos h3,if_pos]
   ·rfl
   ·rcases h3 with h3|⟨h3,h4⟩
    ·left;omega
    ·right;exact⟨e5.mpr h3,by omega⟩
  ·rw[if_neg h3,if_neg]
   ·exact frac_in h hn h43 _ e4
   ·rintro(h4|⟨h4,h5⟩)
    ·exact h3 (.inl (by omega))
    ·exact h3 (.inr ⟨e5.mp h4,by omega⟩)
 unfold sNum
 by_cases h1:bt c (0:Nat)=45
 ·rw[if_pos (e1.mpr h1),if_pos h1]
  exact key 1 h0
 ·rw[if_neg (fun x=>h1 (e1.mp x)),if_neg h1]
  exact key 0 (Nat.zero_le _)
end
theorem decode_cut {n m b0 b1 b2 b3 x1 x2 x3:Nat} {r:Nat×Nat} (h:Lib.decodeN n b0 b1 b2 b3=r) (h2:2≤r.2) (hm:r.2≤m) (e1:x1=b1) (e2:3≤r.2→x2=b2) (e3:4≤r.2→x3=b3):Lib.decodeN m b0 x1 x2 x3=r:=by
 subst e1;unfold Lib.decodeN at h ⊢
 by_cases a0:b0<128
 ·rw[if_pos a0]at h;subst h;exact absurd h2 (show ¬2≤1 by decide)
 rw[if_neg a0]at h ⊢
 by_cases a1:b0/32=6∧(1<n∧x1/64=2)
 ·rw[if_pos a1]at h
  by_cases g:b0%32*64+x1%64≥128
  ·rw[if_pos g]at h
   subst h;rw[if_pos ⟨a1.1,hm,a1.2.2⟩,if_pos g]
  ·rw[if_neg g]at h;subst h;exact absurd h2 (show ¬2≤1 by decide)
 rw[if_neg a1]at h
 by_cases a2:b0/16=14∧(1<n∧x1/64=2)∧(2<n∧b2/64=2)
 ·rw[if_pos a2]at h
  obtain⟨k1,⟨k2,k3⟩,k4,k5⟩:=a2;split at h
  ·rename_i g
   subst h;obtain rfl:=e2 (show 3≤3 by decide)
   rw[if_neg (fun q=>by have:=q.1;omega),if_pos ⟨k1,⟨Nat.lt_of_lt_of_le (show 1<3 by decide) hm,k3⟩,hm,k5⟩,if_pos g]
  ·subst h;exact absurd h2 (show ¬2≤1 by decide)
 rw[if_neg a2]at h;split at h
 ·rename_i g
  obtain⟨k1,⟨k2,k3⟩,⟨k4,k5⟩,k6,k7⟩:=g;split at h
  ·rename_i g
   subst h;obtain rfl:=e2 (show 3≤4 by decide)
   obtain rfl:=e3 (show 4≤4 by decide)
   rw[if_neg (fun q=>by have:=q.1;omega),if_neg (fun q=>by have:=q.1;omega),if_pos ⟨k1,⟨Nat.lt_of_lt_of_le (show 1<4 by decide) hm,k3⟩,⟨Nat.lt_of_lt_of_le (show 2<4 by decide) hm,k5⟩,hm,k7⟩,if_pos g]
  ·subst h;exact absurd h2 (show ¬2≤1 by decide)
 ·subst h;exact absurd h2 (show ¬2≤1 by decide)
theorem rune_in {B c:ByteArray} {d p n:Nat} {r:Int} (h:In B c d) (hp:p<c.size) (hr:runeOf c p=(r,(n:Int))) (hv:r<128∨2≤n) (hn:p+n≤c.size):runeOf B (d+p)=(r,(n:Int)):=by
 have hf:=h.fit;have e0:=h.eq p hp
 by_cases hs:bt c p<128
 ·rw[rune_small hp hs]at hr
  rw[rune_small (by omega) (by rw[e0];exact hs),e0]
  exact hr
 ·obtain⟨b,hb,e⟩:=rune_bytes c p hp hs
  obtain⟨x,hx,e'⟩:=rune_bytes B (d+p) (by omega) (by rw[e0];exact hs)
  rw[e]at hr;have q1:=(Prod.mk.inj hr).1;have q2:=(Prod.mk.inj hr).2;have hb0:=hb 0 (by omega)
  rw[Nat.add_zero]at hb0;obtain⟨a1,a2,a3,a4⟩:=decodeN_big (n:=c.size-p) (b0:=b 0) (b1:=b 1) (b2:=b 2) (b3:=b 3) (by omega)
  have hxb:∀j,p+j<c.size→x j=b j:=by
   intro j hj;have g1:=hx j (by omega)
   have g2:=hb j hj;have g3:=h.eq (p+j) hj;rw[←Nat.add_assoc]at g3;omega
  have k:=decode_cut (m:=B.size-(d+p)) (x1:=x 1) (x2:=x 2) (x3:=x 3) (r:=Lib.decodeN (c.size-p) (b 0) (b 1) (b 2) (b 3)) rfl (by omega) (by omega) (hxb 1 (by omega)) (fun h3=>hxb 2 (by omega)) (fun h4=>hxb 3 (by omega))
  rw[e',hxb 0 (by omega),k]
  exact hr
inductive VBits (s:ByteArray):Nat→Nat→ByteArray→Prop
 | nil (a:Nat):VBits s a a ⟨#[]⟩
 | chr {a b:Nat} {y:ByteArray} (c:Int) (n:Nat):a<s.size→runeOf s a=(c,(n:Int))→(c<128∨2≤n)→1≤n→n≤4→a+n≤s.size→c≠34→c≠92→(c=9∨32≤c)→VBits s (a+n) b y→VBits s a b (s.extract a (a+n)++y)
 | esc {a b:Nat} {y:ByteArray}:a+1<s.size→bt s a=92→0≤escV (bt s (a+1:Nat))→VBits s (a+2) b y→VBits s a b (enc (escV (bt s (a+1:Nat)))++y)
 | uni {a b:Nat} {y:ByteArray}:a+5<s.size→bt s a=92→bt s (a+1:Nat)=117→hexOk s a→1≤uniV s a→¬(55296≤uniV s a∧uniV s a≤57343)→VBits s (a+6) b y→VBits s a b (enc (uniV s a)++y)
theorem VBits.bits {s:ByteArray} {a b:Nat} {x:ByteArray} (h:VBits s a b x):Bits s a b x:=by
 induction h with
 | nil a=>exact .nil a
 | chr c n h1 h2 h3 h4 h5 h6 h7 h8 h9 _ ih=>exact .cons (.chr c n h1 h2 h4 h5 h6 h7 h8 h9) ih
 | esc h1 h2 h3 _ ih=>exact .cons (.esc h1 h2 h3) ih
 | uni h1 h2 h3 h4 h5 h6 _ ih=>exact .cons (.uni h1 h2 h3 h4 h5 h6) ih
theorem VBits.inn {c B:ByteArray} {d a b:Nat} {x:ByteArray} (h:VBits c a b x) (k:In B c d):VBits B (d+a) (d+b) x:=by
 have hf:=k.fit
 induction h with
 | nil a=>exact .nil _
 | @chr a b y r n h1 h2 h3 h4 h5 h6 h7 h8 h9 _ ih=>
  rw[←extract_sh k a (a+n) h6,←Nat.add_assoc];rw[←Nat.add_assoc]at ih;exact .chr r n (by omega) (rune_in k h1 h2 h3 h6) h3 h4 h5 (by omega) h7 h8 h9 ih
 | @esc a b y h1 h2 h3 _ ih=>
  have e1:=k.eq (a+1) h1;rw[←Nat.add_assoc]at e1 ih;rw[←e1];exact .esc (by omega) ((k.eq a (by omega)).trans h2) (by rw[e1];exact h3) ih
 | @uni a b y h1 h2 h3 h4 h5 h6 _ ih=>
  have e:∀j,j≤5→bt B (d+a+j:Nat)=bt c (a+j:Nat):=fun j hj=>by rw[Nat.add_assoc];exact k.eq (a+j) (by omega)
  have eu:uniV B (d+a)=uniV c a:=by unfold uniV;rw[e 2 (by omega),e 3 (by omega),e 4 (by omega),e 5 (by omega)]
  have eh:hexOk B (d+a)=hexOk c a:=by unfold hexOk;rw[e 2 (by omega),e 3 (by omega),e 4 (by omega),e 5 (by omega)]
  rw[←Nat.add_assoc]at ih;rw[←eu];exact .uni (by omega) ((k.eq a (by omega)).trans h2) ((e 1 (by omega)).trans h3) (by rw[eh];exact h4) (by rw[eu];exact h5) (by rw[eu];exact h6) ih
inductive VRaw (s:ByteArray):Nat→Nat→Prop
 | nil (a:Nat):VRaw s a a
 | cons {a b:Nat} (c:Int) (n:Nat):a+3≤s.size→¬three s a→bt s a≠92∨(a+4≤s.size∧¬escq s a)→runeOf s a=(c,(n:Int))→(c<128∨2≤n)→1≤n→n≤4→a+n≤s.size→(c=9∨c=10∨c=13∨32≤c)→VRaw s (a+n) b→VRaw s a b
theorem three_inn {B c:ByteArray} {d a:Nat} (k:In B c d) (h:a+3≤c.size):three B (d+a)=three c a:=by
 have e:∀j,j≤2→bt B (d+a+j:Nat)=bt c (a+j:Nat):=fun j hj=>by rw[Nat.add_assoc];exact k.eq (a+j) (by omega)
 unfold three;rw[e 1 (by omega),e 2 (by omega),k.eq a (by omega)]
theorem VRaw.raw {c B:ByteArray} {d a b:Nat} (h:VRaw c a b) (k:In B c d):Raw B (d+a) (d+b):=by
 have hf:=k.fit
 induction h with
 | nil a=>exact .nil _
 | @cons a b r n h1 h2 h3 h4 h5 h6 h7 h8 h9 _ ih=>
  rw[←Nat.add_assoc]at ih;refine .cons r n (by omega) (by rw[three_inn k h1];exact h2) ?_ (rune_in k (by omega) h4 h5 h8) h6 h7 (by omega) h9 ih
  rintro⟨g1,g2⟩;rw[k.eq a (by omega)]at g1
  rcases h3 with h3|⟨h3,h10⟩
  ·exact h3 g1
  ·rw[Nat.add_assoc,three_inn k (by omega)]at g2
   exact h10 ⟨g1,g2⟩
inductive Piece (V:ByteArray→ByteArray→Prop) (x:ByteArray):Int→ByteArray→Prop
 | sign:x.size=1→signK (bt x 0)≠0→Piece V x (signK (bt x 0)) ⟨#[]⟩
 | dots:x.size=3→bt x 0=46→bt x 1=46→bt x 2=46→Piece V x 6 ⟨#[]⟩
 | name:0<x.size→isLet (bt x 0)=true→(∀i:Nat,i<x.size→isNam (bt x i)=true)→Piece V x 15 x
 | num {k:Int}:(bt x 0=45∨isDig (bt x 0)=true)→sNum x 0=some (k,x.size)→Piece V x k x
 | str {a:Nat} {v:ByteArray}:bt x 0=34→(x.size=2∨bt x 1≠34)→VBits x 1 a v→a+1=x.size→bt x a=34→Piece V x 18 v
 | blk {a:Nat} {v:ByteArray}:three x 0→VRaw x 3 a→three x a→a+3=x.size→V (x.extract 3 a) v→Piece V x 19 v
theorem Piece.size {V:ByteArray→ByteArray→Prop} {x:ByteArray} {k:Int} {v:ByteArray} (h:Piece V x k v):0<x.size:=by
 cases h with
 | sign h _=>omega
 | dots h _ _ _=>omega
 | name h _ _=>exact h
 | num h _=>exact in_of (s:=x) (a:=0) (by rcases h with h|h<;>intro e<;>rw[show((0:Nat):Int)=0 from rfl]at e<;>rw[e]at h<;>cases h)
 | str h _ _ h2 _=>omega
 | blk h _ _ h2 _=>omega
theorem Piece.tok {V:ByteArray→ByteArray→Prop} {B x:ByteArray} {d:Nat} {k:Int} {v:ByteArray} (h:Piece V x k v) (hi:In B x d) (hs:Sep x (bt B (d+x.size:Nat))):TokAt V B d ⟨k,d,d+x.size,v⟩:=by
 have hx:=h.size;have hf:=hi.fit;have e0:bt B (d:Nat)=bt x 0:=hi.eq 0 hx;cases h with
 | sign h1 h2=>
  rw[←e0]at h2 ⊢;rw[h1];exact .sign (by omega) h2
 | dots h1 h2 h3 h4=>
  rw[h1];have e1:=hi.eq 1 (by omega)
  have e2:=hi.eq 2 (by omega)
  exact .dots (e0.trans h2) (e1.trans h3) (e2.trans h4)
 | name h1 h2 h3=>
  have hc:clingB (bt x 0)=true:=by unfold clingB;rw[h2];rfl
  have hn:=(cling_not (hs.cling hc)).1;have e:scan isNam B B.size (d+1)=d+x.size:=scan_eq isNam B B.size (d+1) (d+x.size) (by omega) (by omega) (fun i hi1 hi2=>by
   obtain⟨j,rfl⟩:∃j,i=d+j:=⟨i-d,by omega⟩
   rw[hi.eq j (by omega)]
   exact h3 j (by omega)) hn
  have g:TokAt V B d ⟨15,d,scan isNam B B.size (d+1),B.extract d (scan isNam B B.size (d+1))⟩:=.name (by rw[e0];exact h2)
  rw[e,in_extr hi]at g;exact g
 | num h1 h2=>
  have hc:clingB (bt x 0)=true:=by
   unfold clingB;rcases h1 with h1|h1
   ·rw[h1];rfl
   ·rw[h1];simp
  have hn:=num_in hi (hs.cling hc) hs.plus hx;rw[h2,num_same]at hn;obtain⟨t,ht,e⟩:=Option.map_eq_some_iff.1 hn;obtain⟨e1,e2⟩:=Prod.mk.inj e;have g:=num_place (by rw[e0];exact h1) ht
  have hval:t.value=B.extract t.start t.stop:=by
   unfold mNum at ht;obtain⟨p1,q1,ht⟩:=Option.bind_eq_some_iff.1 ht;obtain⟨y,q2,ht⟩:=Option.bind_eq_some_iff.1 ht;obtain⟨z,q3,rfl⟩:=Option.map_eq_some_iff.1 ht;rfl
  rw[g.1,e2,in_extr hi]at hval;have:t=⟨k,d,d+x.size,x⟩:=by
   cases t;simp only at e1 e2 hval g;obtain rfl:=e1;obtain rfl:=e2;obtain rfl:=hval;obtain rfl:=g.1;rfl
  rw[←this];exact .num (by rw[e0];exact h1) ht
 | @str a v h1 h2 h3 h4 h5=>
  have g:=(h3.inn hi).bits;have e:d+x.size=d+a+1:=by omega
  rw[e];refine .str (e0.trans h1) ?_ g ((hi.eq a (by omega)).trans h5)
  rintro⟨q1,q2,q3⟩;rcases h2 with h2|h2
  ·have:=hs.quote h1
   rw[h2]at this;exact this q3
  ·have hle:=h3.bits.le
   rcases Nat.lt_or_ge 1 x.size with h6|h6
   ·exact h2 ((hi.eq 1 h6).symm.trans q2)
   ·omega
 | @blk a v h1 h2 h3 h4 h5=>
  have e:d+x.size=d+a+3:=by omega
  have t0:=three_inn hi (a:=0) (by omega)
  have t1:=three_inn hi (a:=a) (by omega)
  rw[Nat.add_zero]at t0;rw[e];refine .blk (by rw[t0];exact h1) (h2.raw hi) (by rw[t1];exact h3) ?_
  rw[extract_sh hi 3 a (by omega)]
  exact h5
structure GapOk (g:ByteArray):Prop where
 skip:∀B d,In B g d→Skip B d (d+g.size)
 first:0<g.size→clingB (bt g 0)=false∧bt g 0≠34∧bt g 0≠43
theorem ws_skip {B:ByteArray}:∀(n d:Nat),d+n≤B.size→(∀j:Nat,j<n→isWs (bt B (d+j:Nat))=true)→Skip B d (d+n):=by
 intro n
 induction n with
 | zero=>intro d _ _;exact .refl d
 | succ n ih=>
  intro d h1 h2;have e:=ih (d+1) (by omega) (fun j hj=>by rw[Nat.add_assoc,Nat.add_comm 1 j];exact h2 (j+1) (by omega))
  rw[show d+1+n=d+(n+1) by omega]at e
  exact .ws (by omega) (h2 0 (by omega)) e
theorem gap_ws {g:ByteArray} (h:∀j:Nat,j<g.size→isWs (bt g j)=true):GapOk g:=by
 refine⟨fun B d k=>ws_skip g.size d k.fit (fun j hj=>by rw[k.eq j hj];exact h j hj),fun h0=>?_⟩
 have e:=h 0 h0;unfold isWs at e;simp only[Bool.or_eq_true,beq_iff_eq]at e;rw[show((0:Nat):Int)=0 from rfl]at e
 rcases e with(((e|e)|e)|e)|e<;>rw[e]<;>decide
theorem gap_none:GapOk ⟨#[]⟩:=gap_ws (fun j hj=>by cases hj)
theorem gap_com {g:ByteArray} {n:Nat} (h0:bt g 0=35) (hn:g.size=n+2) (hc:∀j:Nat,1≤j→j<n+1→comB (bt g j)=true) (he:bt g (n+1:Nat)=10∨bt g (n+1:Nat)=13):GapOk g:=by
 refine⟨fun B d k=>?_,fun _=>by rw[h0];decide⟩
 have hf:=k.fit;have e0:bt B (d:Nat)=35:=(k.eq 0 (by omega)).trans h0
 have e1:=k.eq (n+1) (by omega)
 have hend:bt B (d+(n+1):Nat)=10∨bt B (d+(n+1):Nat)=13:=by rw[e1];exact he
 refine .com (m:=d+(n+1)) (by omega) e0 ⟨by omega,by omega,fun i h1 h2=>?_,.inr hend⟩ ?_
 ·obtain⟨j,rfl⟩:∃j,i=d+j:=⟨i-d,by omega⟩
  rw[k.eq j (by omega)]
  exact hc j (by omega) (by omega)
 ·have e2:d+g.size=d+(n+1)+1:=by omega
  rw[e2];refine .ws (by omega) ?_ (.refl _)
  rcases hend with h|h<;>rw[h]<;>rfl
def gapT (i:Nat):ByteArray:=([⟨#[]⟩,⟨#[32]⟩,⟨#[10]⟩,⟨#[44]⟩,⟨#[32,44,32]⟩,⟨#[9]⟩,⟨#[13,10]⟩,⟨#[13]⟩,⟨#[35,32,97,10]⟩,⟨#[35,13]⟩,⟨#[44,44,10,32,32]⟩]:List ByteArray).getD i ⟨#[]⟩
theorem ws_all {l:List UInt8} (h:∀c∈l,isWs (c.toNat:Int)=true):∀j:Nat,j<(⟨l.toArray⟩:ByteArray).size→isWs (bt ⟨l.toArray⟩ j)=true:=by
 intro j hj;rw[bt_nat _ _ hj];exact h _ (by
  have:(⟨l.toArray⟩:ByteArray)[j]'hj=l[j]'(by simpa[ByteArray.size]using hj):=rfl
  rw[this];exact List.getElem_mem _)
theorem gapT_ok (i:Nat) (h:i<11):GapOk (gapT i)∧(gapT i).size≤5:=by
 obtain rfl|rfl|rfl|rfl|rfl|rfl|rfl|rfl|rfl|rfl|rfl:i=0∨i=1∨i=2∨i=3∨i=4∨i=5∨i=6∨i=7∨i=8∨i=9∨i=10:=by omega
 ·exact⟨gap_none,by decide⟩
 ·exact⟨gap_ws (ws_all (l:=[32]) (by decide)),by decide⟩
 ·exact⟨gap_ws (ws_all (l:=[10]) (by decide)),by decide⟩
 ·exact⟨gap_ws (ws_all (l:=[44]) (by decide)),by decide⟩
 ·exact⟨gap_ws (ws_all (l:=[32,44,32]) (by decide)),by decide⟩
 ·exact⟨gap_ws (ws_all (l:=[9]) (by decide)),by decide⟩
 ·exact⟨gap_ws (ws_all (l:=[13,10]) (by decide)),by decide⟩
 ·exact⟨gap_ws (ws_all (l:=[13]) (by decide)),by decide⟩
 ·refine⟨gap_com (n:=2) rfl rfl (fun j h1 h2=>?_) (.inl rfl),by decide⟩
  obtain rfl|rfl:j=1∨j=2:=by omega
  ·rfl
  ·rfl
 ·exact⟨gap_com (n:=0) rfl rfl (fun j h1 h2=>by omega) (.inr rfl),by decide⟩
 ·exact⟨gap_ws (ws_all (l:=[44,44,10,32,32]) (by decide)),by decide⟩
structure Pz where
 g:ByteArray
 x:ByteArray
 k:Int
 v:ByteArray
def lay:List Pz→ByteArray
 | []=>⟨#[]⟩
 | z::r=>z.g++(z.x++lay r)
theorem lay_snoc (l:List Pz) (z:Pz):lay (l++[z])=lay l++z.g++z.x:=by
 induction l with
 | nil=>
  show z.g++(z.x++⟨#[]⟩)=⟨#[]⟩++z.g++z.x;apply ByteArray.ext;simp
 | cons y l ih=>
  show y.g++(y.x++lay (l++[z]))=(y.g++(y.x++lay l))++z.g++z.x;rw[ih];apply ByteArray.ext;simp
def free (y x:ByteArray):Prop:=¬(clingB (bt y 0)=true∧clingB (bt x 0)=true)∧¬(bt y 0=34∧bt x 0=34)
def LayOk (V:ByteArray→ByteArray→Prop):Option ByteArray→List Pz→Prop
 | _,[]=>True
 | p,z::r=>GapOk z.g∧Piece V z.x z.k z.v∧(z.g.size=0→∀y,p=some y→free y z.x)∧LayOk V (some z.x) r
theorem Piece.first {V:ByteArray→ByteArray→Prop} {x:ByteArray} {k:Int} {v:ByteArray} (h:Piece V x k v):bt x 0≠43:=by
 intro e;cases h with
 | sign _ h=>rw[e]at h;exact absurd rfl h
 | dots _ h _ _=>omega
 | name _ h _=>rw[e]at h;cases h
 | num h _=>rw[e]at h;rcases h with h|h<;>cases h
 | str h _ _ _ _=>omega
 | blk h _ _ _ _=>
  have h1:=h.1;rw[show((0:Nat):Int)=0 from rfl]at h1
  omega
theorem lay_first {V:ByteArray→ByteArray→Prop} {x:ByteArray} {r:List Pz} (h:LayOk V (some x) r) (hc:r≠[]):0<(lay r).size∧Sep x (bt (lay r) (0:Nat)):=by
 cases r with
 | nil=>exact absurd rfl hc
 | cons z r=>
  obtain⟨h1,h2,h3,h4⟩:=h;have hz:=h2.size;have hsz:(lay (z::r)).size=z.g.size+(z.x.size+(lay r).size):=by show(z.g++(z.x++lay r)).size=_;rw[ByteArray.size_append,ByteArray.size_append]
  refine⟨by omega,?_⟩
  by_cases h0:z.g.size=0
  ·have e:bt (lay (z::r)) (0:Nat)=bt z.x (0:Nat):=by
    have a:=bt_app_r z.g (z.x++lay r) 0 (by rw[ByteArray.size_append];omega)
    rw[bt_app_l z.x (lay r) 0 hz,h0]at a;exact a
   rw[e];obtain⟨f1,f2⟩:=h3 h0 x rfl;refine⟨fun q=>?_,fun q1 q2=>f2 ⟨q1,q2⟩,h2.first⟩;cases q3:clingB (bt z.x (0:Nat))with
   | false=>rfl
   | true=>exact absurd ⟨q,q3⟩ f1
  ·have e:bt (lay (z::r)) (0:Nat)=bt z.g (0:Nat):=bt_app_l z.g (z.x++lay r) 0 (by omega)
   obtain⟨g1,g2,g3⟩:=h1.first (by omega)
   rw[e];exact⟨fun _=>g1,fun _=>g2,g3⟩
theorem lay_chain {V:ByteArray→ByteArray→Prop} {B:ByteArray} {T:Nat→Prop}:∀(l:List Pz) (p:Option ByteArray) (d:Nat),LayOk V p l→In B (lay l) d→d+(lay l).size=B.size→
  ∃t:List Tok,Chain B (TokAt V B) T true d t∧t.map (fun x=>(x.kind,x.value))=l.map fun z=>(z.k,z.v):=by
 intro l
 induction l with
 | nil=>
  intro p d _ _ hd;exact⟨[],.done (.refl d) (.inl ⟨rfl,hd⟩),rfl⟩
 | cons z r ih=>
  intro p d h hi hd;obtain⟨h1,h2,h3,h4⟩:=h;have hsz:(lay (z::r)).size=z.g.size+(z.x.size+(lay r).size):=by show(z.g++(z.x++lay r)).size=_;rw[ByteArray.size_append,ByteArray.size_append]
  have ig:In B z.g d:=by have:=in_trans hi (in_left z.g (z.x++lay r));rwa[Nat.add_zero]at this
  have iy:In B (z.x++lay r) (d+z.g.size):=in_trans hi (in_right z.g (z.x++lay r));have ix:In B z.x (d+z.g.size):=by have:=in_trans iy (in_left z.x (lay r));rwa[Nat.add_zero]at this
  have ir:In B (lay r) (d+z.g.size+z.x.size):=in_trans iy (in_right z.x (lay r));obtain⟨t,ht,hm⟩:=ih (some z.x) (d+z.g.size+z.x.size) h4 ir (by omega)
  have hsep:Sep z.x (bt B (d+z.g.size+z.x.size:Nat)):=by
   by_cases hr:r=[]
   ·subst hr
    rw[bt_out B _ (by have:(lay []).size=0:=rfl;omega)]
    exact⟨fun _=>rfl,fun _=>by decide,by decide⟩
   ·obtain⟨q1,q2⟩:=lay_first h4 hr
    have e:=ir.eq 0 q1;rw[Nat.add_zero]at e;rw[e];exact q2
  exact⟨⟨z.k,d+z.g.size,d+z.g.size+z.x.size,z.v⟩::t,.more (h1.skip B d ig) (h2.tok ix hsep) ht,by rw[List.map_cons,List.map_cons,hm]⟩
theorem LayOk.snoc {V:ByteArray→ByteArray→Prop}:∀(l:List Pz) (p:Option ByteArray) (z:Pz),LayOk V p l→GapOk z.g→Piece V z.x z.k z.v→(z.g.size=0→∀y,(l.getLast?.map (·.x)).or p=some y→free y z.x)→LayOk V p (l++[z]):=by
 intro l
 induction l with
 | nil=>intro p z _ h1 h2 h3;exact⟨h1,h2,h3,trivial⟩
 | cons a l ih=>
  intro p z h h1 h2 h3;obtain⟨k1,k2,k3,k4⟩:=h;refine⟨k1,k2,k3,ih (some a.x) z k4 h1 h2 (fun h0 y hy=>h3 h0 y ?_)⟩;cases l with
  | nil=>simpa using hy
  | cons b l=>
   rw[List.getLast?_cons_cons];cases e:(b::l).getLast? with
   | none=>simp at e
   | some c=>rw[e]at hy;exact hy
theorem ba_assoc (a b c:ByteArray):a++b++c=a++(b++c):=by apply ByteArray.ext;simp
theorem ba_nil (a:ByteArray):(⟨#[]⟩:ByteArray)++a=a:=by apply ByteArray.ext;simp
theorem VBits.trans {s:ByteArray} {a b c:Nat} {y z:ByteArray} (h:VBits s a b y) (k:VBits s b c z):VBits s a c (y++z):=by
 induction h with
 | nil a=>rw[ba_nil];exact k
 | chr c n h1 h2 h3 h4 h5 h6 h7 h8 h9 _ ih=>rw[ba_assoc];exact .chr c n h1 h2 h3 h4 h5 h6 h7 h8 h9 (ih k)
 | esc h1 h2 h3 _ ih=>rw[ba_assoc];exact .esc h1 h2 h3 (ih k)
 | uni h1 h2 h3 h4 h5 h6 _ ih=>rw[ba_assoc];exact .uni h1 h2 h3 h4 h5 h6 (ih k)
theorem rune_same {s B:ByteArray} {p q n:Nat} {r:Int} (hr:runeOf s p=(r,(n:Int))) (hp:p<s.size) (hv:r<128∨2≤n) (hn1:1≤n) (hn:p+n≤s.size) (hq:q+n≤B.size) (he:∀j:Nat,j<n→bt B (q+j:Nat)=bt s (p+j:Nat)):runeOf B q=(r,(n:Int)):=by
 have e0:=he 0 (by omega)
 rw[Nat.add_zero,Nat.add_zero]at e0
 by_cases hs:bt s p<128
 ·rw[rune_small hp hs]at hr
  rw[rune_small (by omega) (by rw[e0];exact hs),e0]
  exact hr
 ·obtain⟨b,hb,e⟩:=rune_bytes s p hp hs
  obtain⟨x,hx,e'⟩:=rune_bytes B q (by omega) (by rw[e0];exact hs)
  rw[e]at hr;have q1:=(Prod.mk.inj hr).1;have q2:=(Prod.mk.inj hr).2;have hb0:=hb 0 (by omega)
  rw[Nat.add_zero]at hb0;obtain⟨a1,a2,a3,a4⟩:=decodeN_big (n:=s.size-p) (b0:=b 0) (b1:=b 1) (b2:=b 2) (b3:=b 3) (by omega)
  have hxb:∀j,j<n→x j=b j:=by
   intro j hj;have g1:=hx j (by omega)
   have g2:=hb j (by omega)
   have g3:=he j hj;omega
  have k:=decode_cut (m:=B.size-q) (x1:=x 1) (x2:=x 2) (x3:=x 3) (r:=Lib.decodeN (s.size-p) (b 0) (b 1) (b 2) (b 3)) rfl (by omega) (by omega) (hxb 1 (by omega)) (fun h3=>hxb 2 (by omega)) (fun h4=>hxb 3 (by omega))
  rw[e',hxb 0 (by omega),k]
  exact hr
structure QI (out:ByteArray):Prop where
 pos:1≤out.size
 q0:bt out 0=34
 q1:out.size=1∨bt out 1≠34
 bits:∃y,VBits out 1 out.size y
theorem QI.begin_:QI ⟨#[34]⟩:=⟨by decide,by decide,.inl rfl,⟨_,.nil 1⟩⟩
def QB (p:ByteArray):Prop:=0<p.size∧bt p 0≠34∧∃z,VBits p 0 p.size z
theorem QI.add {out p:ByteArray} (h:QI out) (k:QB p):QI (out++p):=by
 obtain⟨k1,k2,z,hz⟩:=k;obtain⟨y,hy⟩:=h.bits;have hp:=h.pos;have a1:=hy.inn (in_left out p);have a2:=hz.inn (in_right out p);rw[Nat.zero_add,Nat.zero_add]at a1;rw[Nat.add_zero]at a2;have hs:(out++p).size=out.size+p.size:=ByteArray.size_append;refine⟨by omega,?_,.inr ?_,⟨_,by rw[hs];exact a1.trans a2⟩⟩
 ·have:=bt_app_l out p 0 (by omega)
  exact this.trans h.q0
 ·rcases h.q1 with h1|h1
  ·have:=bt_app_r out p 0 k1
   rw[h1]at this;rw[show((1:Nat)+0:Nat)=1 from rfl]at this
   intro e;exact k2 (this.symm.trans e)
  ·rcases Nat.lt_or_ge 1 out.size with h2|h2
   ·have:=bt_app_l out p 1 h2
    intro e;exact h1 (this.symm.trans e)
   ·have h3:out.size=1:=by omega
    have:=bt_app_r out p 0 k1;rw[h3]at this;rw[show((1:Nat)+0:Nat)=1 from rfl]at this
    intro e;exact k2 (this.symm.trans e)
theorem QI.fin {V:ByteArray→ByteArray→Prop} {out:ByteArray} (h:QI out):∃k v,Piece V (out++⟨#[34]⟩) k v:=by
 obtain⟨y,hy⟩:=h.bits;have hp:=h.pos;have a1:=hy.inn (in_left out ⟨#[34]⟩);rw[Nat.zero_add,Nat.zero_add]at a1;have hs:(out++(⟨#[34]⟩:ByteArray)).size=out.size+1:=ByteArray.size_append;refine⟨18,y,.str (a:=out.size) ?_ ?_ a1 hs.symm ?_⟩
 ·exact(bt_app_l out ⟨#[34]⟩ 0 (by omega)).trans h.q0
 ·rcases h.q1 with h1|h1
  ·exact .inl (by omega)
  ·rcases Nat.lt_or_ge 1 out.size with h2|h2
   ·right
    have:=bt_app_l out ⟨#[34]⟩ 1 h2;intro e;exact h1 (this.symm.trans e)
   ·exact .inl (by omega)
 ·exact bt_app_r out ⟨#[34]⟩ 0 (by decide)
theorem qb_esc {p:ByteArray} (h1:p.size=2) (h2:bt p 0=92) (h3:bt p 1=34∨bt p 1=92):QB p:=by
 have g:VBits p 0 2 _:=.esc (by omega) h2 (by
  show 0≤escV (bt p 1);rcases h3 with h|h<;>rw[h]<;>decide) (.nil 2)
 refine⟨by omega,by omega,?_⟩
 rw[h1];exact⟨_,g⟩
theorem qb_uni {p:ByteArray} (h1:p.size=6) (h2:bt p 0=92) (h3:bt p 1=117) (h4:hexOk p 0) (h5:1≤uniV p 0) (h6:¬(55296≤uniV p 0∧uniV p 0≤57343)):QB p:=by
 have g:VBits p 0 6 _:=.uni (by omega) h2 h3 h4 h5 h6 (.nil 6)
 refine⟨by omega,by omega,?_⟩
 rw[h1];exact⟨_,g⟩
theorem qb_chr {s:ByteArray} {a n:Nat} {c:Int} (h1:a<s.size) (h2:runeOf s a=(c,(n:Int))) (h3:c<128∨2≤n) (h4:1≤n) (h5:n≤4) (h6:a+n≤s.size) (h7:c≠34) (h8:c≠92) (h9:c=9∨32≤c):QB (s.extract a (a+n)):=by
 have hsz:(s.extract a (a+n)).size=n:=by rw[ByteArray.size_extract];omega
 have he:∀j:Nat,j<n→bt (s.extract a (a+n)) (0+j:Nat)=bt s (a+j:Nat):=by
  intro j hj;have hj':j<(s.extract a (a+n)).size:=by omega
  rw[Nat.zero_add,bt_nat _ _ hj',bt_nat _ _ (by omega)]
  rw[ByteArray.getElem_extract]
 have hr:=rune_same (B:=s.extract a (a+n)) (q:=0) h2 h1 h3 h4 h6 (by omega) he
 have e0:=he 0 (by omega)
 refine⟨by omega,?_,?_⟩
 ·intro e
  have h0:bt s (a:Nat)=34:=by
   rw[Nat.add_zero,Nat.add_zero]at e0;exact e0.symm.trans e
  rw[rune_small h1 (by rw[h0];decide)]at h2
  exact h7 ((Prod.mk.inj h2).1.symm.trans h0)
 ·have g:VBits (s.extract a (a+n)) 0 (0+n) _:=.chr c n (by omega) hr h3 h4 h5 (by omega) h7 h8 h9 (.nil _)
  rw[Nat.zero_add]at g;rw[hsz];exact⟨_,g⟩
inductive Pts (Q:Nat→Int→Nat→Prop) (s:ByteArray):Nat→Prop
 | done:Pts Q s s.size
 | more {a:Nat} (c:Int) (n:Nat):a<s.size→runeOf s a=(c,(n:Int))→(c<128∨2≤n)→1≤n→n≤4→a+n≤s.size→Q a c n→Pts Q s (a+n)→Pts Q s a
theorem Pts.le {Q:Nat→Int→Nat→Prop} {s:ByteArray} {a:Nat} (h:Pts Q s a):a≤s.size:=by
 cases h with
 | done=>exact Nat.le_refl _
 | more c n h1=>omega
section
variable {Q:Nat→Int→Nat→Prop} {s x:ByteArray}
theorem three_lift (hx:In x s 4) (hn:bt x (4+s.size:Nat)=10) {b:Nat} (hb:b≤s.size) (h:b<s.size→¬three s b):¬three x (4+b):=by
 rintro⟨h1,h2,h3⟩;rcases Nat.lt_or_ge b s.size with l1|l1
 ·rcases Nat.lt_or_ge (b+1) s.size with l2|l2
  ·rcases Nat.lt_or_ge (b+2) s.size with l3|l3
   ·refine h l1 ⟨(hx.eq b l1).symm.trans h1,(hx.eq (b+1) l2).symm.trans h2,(hx.eq (b+2) l3).symm.trans h3⟩
   ·have e:4+b+2=4+s.size:=by omega
    rw[e,hn]at h3;exact absurd h3 (by decide)
  ·have e:4+b+1=4+s.size:=by omega
   rw[e,hn]at h2;exact absurd h2 (by decide)
 ·have e:4+b=4+s.size:=by omega
  rw[e,hn]at h1;exact absurd h1 (by decide)
theorem Pts.three (hQ:∀a c n,Q a c n→(c=9∨c=10∨32≤c)∧¬three s a) {b:Nat} (h:Pts Q s b):b<s.size→¬three s b:=by
 cases h with
 | done=>intro h;omega
 | more c n _ _ _ _ _ _ h _=>intro _;exact(hQ _ _ _ h).2
theorem raw_of (hQ:∀a c n,Q a c n→(c=9∨c=10∨32≤c)∧¬three s a) (hx:In x s 4) (hsz:x.size=s.size+8) (hn:bt x (4+s.size:Nat)=10) {a:Nat} (h:Pts Q s a):VRaw x (4+a) (4+s.size+1):=by
 induction h with
 | done=>
  refine .cons 10 1 (by omega) (three_lift hx hn (Nat.le_refl _) (fun h=>by omega)) (.inl (by rw[hn];decide)) ?_ (.inl (by decide)) (by omega) (by omega) (by omega) (by omega) (.nil _)
  rw[rune_small (by omega) (by rw[hn];decide),hn]
  rfl
 | @more a c n h1 h2 h3 h4 h5 h6 h7 h8 ih=>
  have h9:=hQ _ _ _ h7;rw[←Nat.add_assoc]at ih;refine .cons c n (by omega) (three_lift hx hn (by omega) (fun _=>h9.2)) (.inr ⟨by omega,?_⟩) (rune_same h2 h1 h3 h4 h6 (by omega) (fun j hj=>by rw[Nat.add_assoc];exact hx.eq (a+j) (by omega))) h3 h4 h5 (by omega) (by omega) ih
  rintro⟨g1,g2⟩;rw[hx.eq a h1]at g1;rw[rune_small h1 (by rw[g1];decide)]at h2
  have hn1:n=1:=by have:=(Prod.mk.inj h2).2;omega
  subst hn1;rw[Nat.add_assoc]at g2;exact three_lift hx hn h8.le (h8.three hQ) g2
theorem blk_piece {V:ByteArray→ByteArray→Prop} (hQ:∀a c n,Q a c n→(c=9∨c=10∨32≤c)∧¬three s a) (h:Pts Q s 0) (hV:V ((⟨#[10]⟩:ByteArray)++s++⟨#[10]⟩) s):Piece V ((⟨#[34,34,34,10]⟩:ByteArray)++s++⟨#[10,34,34,34]⟩) 19 s:=by
 generalize hxd:(⟨#[34,34,34,10]⟩:ByteArray)++s++⟨#[10,34,34,34]⟩=x;have hsz:x.size=s.size+8:=by rw[←hxd,ByteArray.size_append,ByteArray.size_append,show(⟨#[34,34,34,10]⟩:ByteArray).size=4 from rfl,show(⟨#[10,34,34,34]⟩:ByteArray).size=4 from rfl];omega
 have hx0:x=(⟨#[34,34,34,10]⟩:ByteArray)++(s++⟨#[10,34,34,34]⟩):=by rw[←hxd,ba_assoc]
 have i0:In x ⟨#[34,34,34,10]⟩ 0:=by rw[hx0];exact in_left _ _
 have i1:In x (s++⟨#[10,34,34,34]⟩) 4:=by rw[hx0];exact in_right _ _
 have i2:In x s 4:=by have:=in_trans i1 (in_left s ⟨#[10,34,34,34]⟩);rwa[Nat.add_zero]at this
 have i3:In x ⟨#[10,34,34,34]⟩ (4+s.size):=in_trans i1 (in_right s ⟨#[10,34,34,34]⟩);have b0:∀j:Nat,j<4→bt x (j:Nat)=bt (⟨#[34,34,34,10]⟩:ByteArray) j:=fun j hj=>by have:=i0.eq j hj;rwa[Nat.zero_add]at this
 have b3:∀j:Nat,j<4→bt x (4+s.size+j:Nat)=bt (⟨#[10,34,34,34]⟩:ByteArray) j:=fun j hj=>i3.eq j hj;have hn:bt x (4+s.size:Nat)=10:=b3 0 (by decide)
 have c3:bt x (3:Nat)=10:=b0 3 (by decide)
 have hraw:VRaw x 3 (4+s.size+1):=by
  refine .cons 10 1 (by omega) ?_ (.inl (by rw[c3];decide)) ?_ (.inl (by decide)) (by omega) (by omega) (by omega) (by omega) (raw_of hQ i2 hsz hn h)
  ·rintro⟨g,_,_⟩
   rw[c3]at g;exact absurd g (by decide)
  ·rw[rune_small (by omega) (by rw[c3];decide),c3];rfl
 refine .blk (a:=4+s.size+1) ⟨b0 0 (by decide),b0 1 (by decide),b0 2 (by decide)⟩ hraw ⟨b3 1 (by decide),b3 2 (by decide),b3 3 (by decide)⟩ (by omega) ?_
 have e:x.extract 3 (4+s.size+1)=(⟨#[10]⟩:ByteArray)++s++⟨#[10]⟩:=by
  have ha:x=(⟨#[34,34,34]⟩:ByteArray)++(((⟨#[10]⟩:ByteArray)++s++⟨#[10]⟩)++⟨#[34,34,34]⟩):=by
   rw[hx0];apply ByteArray.ext;simp
  have hi:In x ((⟨#[10]⟩:ByteArray)++s++⟨#[10]⟩) 3:=by
   have q1:In x (((⟨#[10]⟩:ByteArray)++s++⟨#[10]⟩)++⟨#[34,34,34]⟩) 3:=by rw[ha];exact in_right _ _
   have:=in_trans q1 (in_left ((⟨#[10]⟩:ByteArray)++s++⟨#[10]⟩) ⟨#[34,34,34]⟩);rwa[Nat.add_zero]at this
  have:=in_extr hi;rwa[show 3+((⟨#[10]⟩:ByteArray)++s++⟨#[10]⟩).size=4+s.size+1 by rw[ByteArray.size_append,ByteArray.size_append,show(⟨#[10]⟩:ByteArray).size=1 from rfl];omega]at this
 rw[e];exact hV
end
end Go.Proofs.YtjolkdnfbmkjiaaGreatDoor.Rel
namespace Go.Proofs.YtjolkdnfbmkjiaaGreatDoor.Tr
open Go.RowKit Go.Proofs.YtjolkdnfbmkjiaaGreatDoorW.PrintWords PFnTokensGaps
abbrev fs (d:List S35) (p:Nat):Int:=(rd_T35 d (p:Int)).f5
theorem w64 {x:Int} (h : -9223372036854775808≤x) (h2:x<9223372036854775808):wrap64 x=x:=by unfold wrap64;omega
inductive Forest (d:List S35):Nat→Nat→Prop
 | nil (p:Nat):Forest d p p
 | cons {p m e:Nat}:p<d.length→fs d p=(m:Int)→1≤m→p+m≤e→Forest d (p+1) (p+m)→Forest d (p+m) e→Forest d p e
structure Nod (d:List S35) (p m:Nat):Prop where
 lt:p<d.length
 size:fs d p=(m:Int)
 pos:1≤m
 le:p+m≤d.length
 kids:Forest d (p+1) (p+m)
theorem sized_any (d:List S35) (hd:d.length≤400):∀(m p e:Nat) (dp:Int),p<e→e≤d.length→e-p≤m→0≤dp→dp≤41→
  ∃r,(∀K,4*m+4≤K→spec_sized.f K d p e dp=some r)∧(r=true→∃n:Nat,fs d p=(n:Int)∧1≤n∧p+n≤e∧Forest d (p+1) (p+n)):=by
 intro m
 induction m using Nat.strongRecOn with
 | _ m ih=>
  intro p e dp h1 h2 h3 h4 h5;have bad:(∀K,4*m+4≤K→spec_sized.f K d p e dp=some false)→∃r,(∀K,4*m+4≤K→spec_sized.f K d p e dp=some r)∧(r=true→∃n:Nat,fs d p=(n:Int)∧1≤n∧p+n≤e∧Forest d (p+1) (p+n)):=fun h=>⟨false,h,fun h=>by cases h⟩
  by_cases c1:fs d p<1
  ·refine bad (fun K hK=>?_)
   obtain⟨K,rfl⟩:∃j,K=j+2:=⟨K-2,by omega⟩
   unfold spec_sized.f;rw[if_pos (by omega),if_pos (by omega),if_pos c1]
   unfold spec_sized.j0;rw[if_pos rfl]
  by_cases c2:fs d p>(e:Int)-p
  ·refine bad (fun K hK=>?_)
   obtain⟨K,rfl⟩:∃j,K=j+2:=⟨K-2,by omega⟩
   unfold spec_sized.f;rw[if_pos (by omega),if_pos (by omega),if_neg c1,w64 (by omega) (by omega),if_pos c2]
   unfold spec_sized.j0;rw[if_pos rfl]
  obtain⟨n,hn⟩:∃n:Nat,fs d p=(n:Int):=⟨(fs d p).toNat,by omega⟩
  by_cases c3:dp>40
  ·refine bad (fun K hK=>?_)
   obtain⟨K,rfl⟩:∃j,K=j+2:=⟨K-2,by omega⟩
   unfold spec_sized.f;rw[if_pos (by omega),if_pos (by omega),if_neg c1,w64 (by omega) (by omega),if_neg c2,decide_eq_true c3]
   unfold spec_sized.j0;rw[if_pos rfl]
  have loop:∀(j q:Nat),p+n-q≤j→p+1≤q→q≤p+n→∃r,(∀K,4*j+5≤K→spec_sized.l0 K d p dp (n:Int) q=some r)∧(r=true→Forest d q (p+n)):=by
   intro j
   induction j with
   | zero=>
    intro q q1 q2 q3;obtain rfl:q=p+n:=by omega
    refine⟨true,fun K hK=>?_,fun _=>.nil _⟩;obtain⟨K,rfl⟩:∃j,K=j+1:=⟨K-1,by omega⟩
    unfold spec_sized.l0;rw[w64 (by omega) (by omega),if_neg (by omega)]
   | succ j ihj=>
    intro q q1 q2 q3
    by_cases hq:q=p+n
    ·subst hq
     refine⟨true,fun K hK=>?_,fun _=>.nil _⟩;obtain⟨K,rfl⟩:∃j,K=j+1:=⟨K-1,by omega⟩
     unfold spec_sized.l0;rw[w64 (by omega) (by omega),if_neg (by omega)]
    ·obtain⟨r,hr,ht⟩:=ih (p+n-q) (by omega) q (p+n) (dp+1) (by omega) (by omega) (by omega) (by omega) (by omega)
     cases r with
     | false=>
      refine⟨false,fun K hK=>?_,fun h=>by cases h⟩
      obtain⟨K,rfl⟩:∃j,K=j+1:=⟨K-1,by omega⟩
      unfold spec_sized.l0;rw[w64 (x:=(p:Int)+n) (by omega) (by omega),if_pos (by omega),w64 (x:=dp+1) (by omega) (by omega),show(p:Int)+n=((p+n:Nat):Int) by omega,hr K (by omega)]
      simp only[Option.bind_some];rw[if_neg (by decide)]
     | true=>
      obtain⟨m',e1,e2,e3,e4⟩:=ht rfl;obtain⟨r,hr',ht'⟩:=ihj (q+m') (by omega) (by omega) (by omega)
      refine⟨r,fun K hK=>?_,fun h=>.cons (by omega) e1 e2 e3 e4 (ht' h)⟩
      obtain⟨K,rfl⟩:∃j,K=j+1:=⟨K-1,by omega⟩
      unfold spec_sized.l0;rw[w64 (x:=(p:Int)+n) (by omega) (by omega),if_pos (by omega),w64 (x:=dp+1) (by omega) (by omega),show(p:Int)+n=((p+n:Nat):Int) by omega,hr K (by omega)]
      simp only[Option.bind_some];have e5:(rd_T35 d (q:Int)).f5=(m':Int):=e1;rw[if_pos trivial,if_pos (by omega),if_pos (by omega),e5,w64 (by omega) (by omega),show(q:Int)+m'=((q+m':Nat):Int) by omega]
      exact hr' K (by omega)
  obtain⟨r,hr,ht⟩:=loop (m-1) (p+1) (by omega) (by omega) (by omega)
  refine⟨r,fun K hK=>?_,fun h=>⟨n,hn,by omega,by omega,ht h⟩⟩
  obtain⟨K,rfl⟩:∃j,K=j+2:=⟨K-2,by omega⟩
  have hn':(rd_T35 d (p:Int)).f5=(n:Int):=hn;unfold spec_sized.f;rw[if_pos (by omega),if_pos (by omega),if_neg c1,w64 (by omega) (by omega),if_neg c2,decide_eq_false c3,hn']
  unfold spec_sized.j0;rw[if_neg (by decide),w64 (by omega) (by omega)]
  exact hr K (by omega)
inductive Tops (d:List S35):Nat→Nat→List Int→Prop
 | nil (p:Nat):Tops d p p []
 | cons {p m e:Nat} {l:List Int}:Nod d p m→p+m≤e→Tops d (p+m) e l→Tops d p e ((p:Int)::l)
theorem Forest.tops {d:List S35} {p e:Nat} (h:Forest d p e) (he:e≤d.length):∃l,Tops d p e l:=by
 induction h with
 | nil p=>exact⟨[],.nil p⟩
 | cons h1 h2 h3 h4 h5 _ _ ih=>
  obtain⟨l,hl⟩:=ih he;exact⟨_,.cons ⟨h1,h2,h3,by omega,h5⟩ h4 hl⟩
theorem Tops.len {d:List S35} {p e:Nat} {l:List Int} (h:Tops d p e l):p≤e∧l.length≤e-p:=by
 induction h with
 | nil p=>exact⟨Nat.le_refl _,Nat.zero_le _⟩
 | cons h1 h2 _ ih=>have:=h1.pos;simp only[List.length_cons];omega
theorem Tops.mem {d:List S35} {p e:Nat} {l:List Int} (h:Tops d p e l):∀x∈l,∃q m:Nat,x=(q:Int)∧p≤q∧q+m≤e∧Nod d q m:=by
 induction h with
 | nil p=>intro x hx;cases hx
 | @cons p m e l h1 h2 _ ih=>
  intro x hx;rcases List.mem_cons.1 hx with rfl|hx
  ·exact⟨p,m,rfl,Nat.le_refl _,h2,h1⟩
  ·obtain⟨q,m',e1,e2,e3,e4⟩:=ih x hx
   exact⟨q,m',e1,by omega,e3,e4⟩
theorem kids_l0 {d:List S35} (hd:d.length≤400) {p n:Nat} (hp:p<d.length) (hn:fs d p=(n:Int)) (hl:p+n≤d.length):∀{q e:Nat} {l:List Int},Tops d q e l→e=p+n→∀(acc:List Int),acc.length≤q→∀K,l.length+1≤K→spec_Kids.l0 K d p acc q=some (acc++l):=by
 intro q e l h;have hn':(rd_T35 d (p:Int)).f5=(n:Int):=hn
 induction h with
 | nil q=>
  intro he acc ha K hK;obtain⟨K,rfl⟩:∃j,K=j+1:=⟨K-1,by omega⟩
  unfold spec_Kids.l0;rw[if_pos (by omega),if_pos (by omega),hn',w64 (by omega) (by omega),if_neg (by omega),List.append_nil]
 | @cons q m e l h1 h2 h3 ih=>
  intro he acc ha K hK;simp only[List.length_cons]at hK;obtain⟨K,rfl⟩:∃j,K=j+1:=⟨K-1,by omega⟩
  have h4:=h1.lt;have h5:(rd_T35 d (q:Int)).f5=(m:Int):=h1.size;have h6:=h1.pos;unfold spec_Kids.l0;rw[if_pos (by omega),if_pos (by omega),hn',w64 (by omega) (by omega),if_pos (by omega),if_pos (by omega),if_pos (by omega),if_pos (by omega),h5,w64 (by omega) (by omega),show(q:Int)+m=((q+m:Nat):Int) by omega,ih he (acc++[(q:Int)]) (by rw[List.length_append,List.length_singleton];omega) K (by omega),List.append_assoc]
  rfl
theorem kids_any {d:List S35} (hd:d.length≤400) {p n:Nat} (h:Nod d p n):∃l,Tops d (p+1) (p+n) l∧∀K,402≤K→spec_Kids.f K d p=some l:=by
 obtain⟨l,hl⟩:=h.kids.tops h.le;have h1:=h.lt;have h2:=h.le;have h3:=h.pos;refine⟨l,hl,fun K hK=>?_⟩;unfold spec_Kids.f;rw[w64 (by omega) (by omega),show(p:Int)+1=((p+1:Nat):Int) by omega]
 exact kids_l0 hd h1 h.size h2 hl rfl [] (Nat.zero_le _) K (by have:=hl.len;omega)
theorem fixed_l0 {d:List S35} (hd:d.length≤400) {p n:Nat} (hp:p<d.length) (hn:fs d p=(n:Int)) (hl:p+n≤d.length):∀(j q:Nat),p+n-q≤j→q≤p+n→∃r,∀K,j+1≤K→spec_fixedAt.l0 K d p q=some r:=by
 have hn':(rd_T35 d (p:Int)).f5=(n:Int):=hn;intro j
 induction j with
 | zero=>
  intro q h1 h2;refine⟨true,fun K hK=>?_⟩;obtain⟨K,rfl⟩:∃j,K=j+1:=⟨K-1,by omega⟩
  unfold spec_fixedAt.l0;rw[if_pos (by omega),if_pos (by omega),hn',w64 (by omega) (by omega),if_neg (by omega)]
 | succ j ih=>
  intro q h1 h2
  by_cases hq:q=p+n
  ·refine⟨true,fun K hK=>?_⟩
   obtain⟨K,rfl⟩:∃j,K=j+1:=⟨K-1,by omega⟩
   unfold spec_fixedAt.l0;rw[if_pos (by omega),if_pos (by omega),hn',w64 (by omega) (by omega),if_neg (by omega)]
  ·by_cases hk:(rd_T35 d (q:Int)).f0=11
   ·refine⟨false,fun K hK=>?_⟩
    obtain⟨K,rfl⟩:∃j,K=j+1:=⟨K-1,by omega⟩
    unfold spec_fixedAt.l0;rw[if_pos (by omega),if_pos (by omega),hn',w64 (by omega) (by omega),if_pos (by omega),if_pos (by omega),if_pos (by omega),if_pos hk]
   ·obtain⟨r,hr⟩:=ih (q+1) (by omega) (by omega)
    refine⟨r,fun K hK=>?_⟩;obtain⟨K,rfl⟩:∃j,K=j+1:=⟨K-1,by omega⟩
    unfold spec_fixedAt.l0;rw[if_pos (by omega),if_pos (by omega),hn',w64 (by omega) (by omega),if_pos (by omega),if_pos (by omega),if_pos (by omega),if_neg hk,w64 (by omega) (by omega),show(q:Int)+1=((q+1:Nat):Int) by omega]
    exact hr K (by omega)
theorem fixed_any {d:List S35} (hd:d.length≤400) {p n:Nat} (h:Nod d p n):∃r,∀K,402≤K→spec_fixedAt.f K d p=some r:=by
 have h1:=h.le;obtain⟨r,hr⟩:=fixed_l0 hd h.lt h.size h.le n p (by omega) (by omega)
 exact⟨r,fun K hK=>hr K (by omega)⟩
theorem rd_at {l:List Int} {i:Nat} (hi:i<l.length):rd l (i:Int)=l[i]:=by
 unfold rd;rw[Int.toNat_natCast,List.getD_eq_getElem?_getD,List.getElem?_eq_getElem hi];rfl
theorem kidsof_l0 {d:List S35} (hd:d.length≤400) (k:Int) {l:List Int} (hl:∀x∈l,∃q:Nat,x=(q:Int)∧q<d.length) (hn:l.length≤400):∀(j i:Nat),l.length-i≤j→i≤l.length→∀acc:List Int,acc.length≤i→(∀x∈acc,x∈l)→∃r,(∀x∈r,x∈l)∧r.length≤l.length∧∀K,j+1≤K→spec_KidsOf.l0 K d k acc l i=some r:=by
 intro j
 induction j with
 | zero=>
  intro i h1 h2 acc ha hb;refine⟨acc,hb,by omega,fun K hK=>?_⟩
  obtain⟨K,rfl⟩:∃j,K=j+1:=⟨K-1,by omega⟩
  unfold spec_KidsOf.l0;rw[if_neg (by omega)]
 | succ j ih=>
  intro i h1 h2 acc ha hb
  by_cases hi:i=l.length
  ·refine⟨acc,hb,by omega,fun K hK=>?_⟩
   obtain⟨K,rfl⟩:∃j,K=j+1:=⟨K-1,by omega⟩
   unfold spec_KidsOf.l0;rw[if_neg (by omega)]
  ·have hlt:i<l.length:=by omega
   obtain⟨q,e1,e2⟩:=hl _ (List.getElem_mem hlt);have e3:=rd_at hlt
   by_cases hk:(rd_T35 d (q:Int)).f0=k
   ·obtain⟨r,r1,r2,r3⟩:=ih (i+1) (by omega) (by omega) (acc++[(q:Int)]) (by rw[List.length_append,List.length_singleton];omega) (fun x hx=>by
     rcases List.mem_append.1 hx with hx|hx
     ·exact hb x hx
     ·rw[List.mem_singleton.1 hx,←e1];exact List.getElem_mem hlt)
    refine⟨r,r1,r2,fun K hK=>?_⟩;obtain⟨K,rfl⟩:∃j,K=j+1:=⟨K-1,by omega⟩
    unfold spec_KidsOf.l0;rw[if_pos (by omega),if_pos (by omega),e3,e1,if_pos (by omega),if_pos (by omega),if_pos hk,if_pos (by omega),w64 (by omega) (by omega),show(i:Int)+1=((i+1:Nat):Int) by omega]
    exact r3 K (by omega)
   ·obtain⟨r,r1,r2,r3⟩:=ih (i+1) (by omega) (by omega) acc (by omega) hb
    refine⟨r,r1,r2,fun K hK=>?_⟩;obtain⟨K,rfl⟩:∃j,K=j+1:=⟨K-1,by omega⟩
    unfold spec_KidsOf.l0;rw[if_pos (by omega),if_pos (by omega),e3,e1,if_pos (by omega),if_pos (by omega),if_neg hk,w64 (by omega) (by omega),show(i:Int)+1=((i+1:Nat):Int) by omega]
    exact r3 K (by omega)
theorem kidsof_any {d:List S35} (hd:d.length≤400) {p n:Nat} (h:Nod d p n) (k:Int):∃l,(∀x∈l,∃q m:Nat,x=(q:Int)∧Nod d q m)∧l.length≤400∧∀K,402≤K→spec_KidsOf.f K d p k=some l:=by
 obtain⟨l,hl,hK⟩:=kids_any hd h;have h1:=hl.len;have h2:=h.le;obtain⟨r,r1,r2,r3⟩:=kidsof_l0 hd k (l:=l) (fun x hx=>by obtain⟨q,m,e1,_,_,e4⟩:=hl.mem x hx;exact⟨q,e1,e4.lt⟩) (by omega) l.length 0 (by omega) (by omega) [] (Nat.zero_le _) (fun x hx=>by cases hx)
 refine⟨r,fun x hx=>?_,by omega,fun K hk=>?_⟩
 ·obtain⟨q,m,e1,_,_,e4⟩:=hl.mem x (r1 x hx)
  exact⟨q,m,e1,e4⟩
 ·unfold spec_KidsOf.f
  rw[hK K hk];exact r3 K (by omega)
theorem kidof_any {d:List S35} (hd:d.length≤400) {p n:Nat} (h:Nod d p n) (k:Int):∃r,∀K,402≤K→spec_KidOf.f K d p k=some r:=by
 obtain⟨l,_,_,hl⟩:=kidsof_any hd h k
 by_cases h0:(l.length:Int)=0
 ·refine⟨-1,fun K hK=>?_⟩
  unfold spec_KidOf.f;rw[hl K hK];simp only[Option.bind_some];rw[if_pos h0]
 ·refine⟨rd l 0,fun K hK=>?_⟩
  unfold spec_KidOf.f;rw[hl K hK];simp only[Option.bind_some];rw[if_neg h0,if_pos (by omega)]
theorem here_l0 {d:List S35} (hd:d.length≤400) {l:List Int} (hl:∀x∈l,∃q m:Nat,x=(q:Int)∧Nod d q m) (hn:l.length≤400):∀(j i:Nat),l.length-i≤j→i≤l.length→∃r,∀K,403+j≤K→spec_fixedHere.l0 K d l i=some r:=by
 intro j
 induction j with
 | zero=>
  intro i h1 h2;refine⟨true,fun K hK=>?_⟩;obtain⟨K,rfl⟩:∃j,K=j+1:=⟨K-1,by omega⟩
  unfold spec_fixedHere.l0;rw[if_neg (by omega)]
 | succ j ih=>
  intro i h1 h2
  by_cases hi:i=l.length
  ·refine⟨true,fun K hK=>?_⟩
   obtain⟨K,rfl⟩:∃j,K=j+1:=⟨K-1,by omega⟩
   unfold spec_fixedHere.l0;rw[if_neg (by omega)]
  ·have hlt:i<l.length:=by omega
   obtain⟨q,m,e1,e2⟩:=hl _ (List.getElem_mem hlt);have e3:=rd_at hlt;obtain⟨b,hb⟩:=fixed_any hd e2;cases b with
   | false=>
    refine⟨false,fun K hK=>?_⟩;obtain⟨K,rfl⟩:∃j,K=j+1:=⟨K-1,by omega⟩
    unfold spec_fixedHere.l0;rw[if_pos (by omega),if_pos (by omega),e3,e1,hb K (by omega)]
    rfl
   | true=>
    obtain⟨r,hr⟩:=ih (i+1) (by omega) (by omega)
    refine⟨r,fun K hK=>?_⟩;obtain⟨K,rfl⟩:∃j,K=j+1:=⟨K-1,by omega⟩
    unfold spec_fixedHere.l0;rw[if_pos (by omega),if_pos (by omega),e3,e1,hb K (by omega)]
    simp only[Option.bind_some,if_true];rw[w64 (by omega) (by omega),show(i:Int)+1=((i+1:Nat):Int) by omega]
    exact hr K (by omega)
theorem here_any {d:List S35} (hd:d.length≤400) {p n:Nat} (h:Nod d p n):∃r,∀K,1000≤K→spec_fixedHere.f K d p=some r:=by
 obtain⟨l,l1,l2,l3⟩:=kidsof_any hd h 10;obtain⟨r,hr⟩:=here_l0 hd l1 l2 l.length 0 (by omega) (by omega)
 refine⟨r,fun K hK=>?_⟩;unfold spec_fixedHere.f;rw[l3 K (by omega)]
 exact hr K (by omega)
theorem Forest.nod {d:List S35} {p e:Nat} (h:Forest d p e) (he:e≤d.length):∀q,p≤q→q<e→∃m,Nod d q m:=by
 induction h with
 | nil p=>intro q h1 h2;omega
 | @cons p m e h1 h2 h3 h4 h5 h6 ih1 ih2=>
  intro q q1 q2
  by_cases hq:q=p
  ·exact⟨m,hq▸⟨h1,h2,h3,by omega,h5⟩⟩
  ·by_cases hq2:q<p+m
   ·exact ih1 (by omega) q (by omega) hq2
   ·exact ih2 he q (by omega) q2
end Go.Proofs.YtjolkdnfbmkjiaaGreatDoor.Tr
