import Derived.Below
import Derived.WalkKit
import Derived.Test.YtjolkdnfbmkjiaaGreatDoorVW1
import Derived.Lib.Strings
import Derived.Lib.RuneBytes
import Derived.Shelf.Unicode.DecodeSlow
import Derived.Lib.DecodeN
set_option maxRecDepth 100000
set_option maxHeartbeats 8000000
set_option linter.unusedVariables false
set_option linter.unusedSimpArgs false
namespace Go.Proofs.YtjolkdnfbmkjiaaGreatDoor.Keep
open Go.RowKit Go.Proofs.YtjolkdnfbmkjiaaGreatDoorW.PrintWords
def Shape (w w':World):Prop:=∀(k:Nat) (cs:Array Value) (T:TypeId) (fr:Nat×Nat),w.heap[k]?=some (Obj.cells cs T fr)→∃cs',w'.heap[k]?=some (Obj.cells cs' T fr)∧cs'.size=cs.size
theorem shape_lt {w:World} {b:Nat} {o:Obj} (h:w.heap[b]?=some o):b<w.heap.size:=by
 rcases Nat.lt_or_ge b w.heap.size with h1|h1
 ·exact h1
 ·rw[Array.getElem?_eq_none h1]at h;cases h
theorem Shape.refl (w:World):Shape w w:=fun k cs T fr h=>⟨cs,h,rfl⟩
theorem Shape.trans {a w w':World} (h:Shape a w) (k:Shape w w'):Shape a w':=fun i cs T fr hi=>by
 obtain⟨c1,h1,e1⟩:=h i cs T fr hi;obtain⟨c2,h2,e2⟩:=k i c1 T fr h1;exact⟨c2,h2,e2.trans e1⟩
theorem Shape.of_below {w w':World} (h:Below w.heap.size w w'):Shape w w':=fun i cs T fr hi=>⟨cs,(h.block i (shape_lt hi)).trans hi,rfl⟩
theorem shape_set (w:World) (b j:Nat) (u:Value):Shape w (w.setCell ⟨b,j,none⟩ u):=fun k cs T fr h=>by
 by_cases hk:k=b
 ·subst hk
  exact⟨cs.setIfInBounds j u,by simp[World.setCell,Array.getElem?_modify,h],by simp⟩
 ·exact⟨cs,(Below.heap_setCell w ⟨b,j,none⟩ u k hk).trans h,rfl⟩
structure Keeps (p q:Nat) (w w':World):Prop where
 os:w'.os=w.os
 tape:w'.tape=w.tape
 output:w'.output=w.output
 size:w.heap.size≤w'.heap.size
 block:∀k,k<w.heap.size→k≠p→k≠q→w'.heap[k]?=w.heap[k]?
 shape:Shape w w'
section
variable {p q:Nat} {a w w':World}
theorem Keeps.refl (p q:Nat) (w:World):Keeps p q w w:=⟨rfl,rfl,rfl,Nat.le_refl _,fun _ _ _ _=>rfl,.refl w⟩
theorem Keeps.trans (h:Keeps p q a w) (k:Keeps p q w w'):Keeps p q a w':=
 ⟨k.os.trans h.os,k.tape.trans h.tape,k.output.trans h.output,Nat.le_trans h.size k.size,fun i hi h1 h2=>(k.block i (Nat.lt_of_lt_of_le hi h.size) h1 h2).trans (h.block i hi h1 h2),h.shape.trans k.shape⟩
theorem Keeps.of_below (p q:Nat) (h:Below w.heap.size w w'):Keeps p q w w':=⟨h.os,h.tape,h.output,h.size,fun k hk _ _=>h.block k hk,.of_below h⟩
theorem Keeps.then (h:Keeps p q a w) (k:Below w.heap.size w w'):Keeps p q a w':=h.trans (.of_below p q k)
theorem Keeps.alloc (h:Keeps p q a w) (o:Obj):Keeps p q a (w.alloc o):=h.then ((Below.refl _ _).alloc (Nat.le_refl _) o)
theorem Keeps.setP (h:Keeps p q a w) (j:Nat) (u:Value):Keeps p q a (w.setCell ⟨p,j,none⟩ u):=
 h.trans ⟨rfl,rfl,rfl,by simp[World.setCell],fun k hk h1 h2=>Below.heap_setCell _ _ _ _ h1,shape_set _ _ _ _⟩
theorem Keeps.setNew (h:Keeps p q a w) {x:Addr} (hx:a.heap.size≤x.block) (u:Value):Keeps p q a (w.setCell x u):=
 ⟨h.os,h.tape,h.output,by simp[World.setCell];exact h.size,fun k hk h1 h2=>(Below.heap_setCell _ _ _ _ (by omega)).trans (h.block k hk h1 h2),fun k cs T fr hk=>by
  obtain⟨c1,h1,e1⟩:=h.shape k cs T fr hk;have:=shape_lt hk;exact⟨c1,(Below.heap_setCell _ _ _ _ (by omega)).trans h1,e1⟩⟩
theorem Keeps.cell (h:Keeps p q w w') {b o:Nat} {v:Value} (hc:w.cell? ⟨b,o,none⟩=some v) (h1:b≠p) (h2:b≠q):w'.cell? ⟨b,o,none⟩=some v:=by
 rw[←hc];exact World.cell?_of_block (w:=w) (h.block b (World.block_lt_of_cell? w _ hc) h1 h2)
theorem Keeps.below (h:Keeps p q w w') {B:Nat} (hB:B≤w.heap.size) (h1:B≤p) (h2:B≤q):Below B w w':=
 ⟨h.os,h.tape,h.output,h.size,fun k hk=>h.block k (by omega) (by omega) (by omega)⟩
end
end Go.Proofs.YtjolkdnfbmkjiaaGreatDoor.Keep
namespace Go.Proofs.YtjolkdnfbmkjiaaGreatDoor.Mod
open Go.Proofs.YtjolkdnfbmkjiaaGreatDoorW.PrintWords
structure Tok where
 kind:Int
 start:Nat
 stop:Nat
 value:ByteArray
def scan (P:Int→Bool) (s:ByteArray):Nat→Nat→Nat
 | 0,p=>p
 | n+1,p=>if P (bt s p)then scan P s n (p+1)else p
def isWs (c:Int):Bool:=c==9||c==32||c==10||c==13||c==44
def isDig (c:Int):Bool:=decide (48≤c)&&decide (c≤57)
def isLet (c:Int):Bool:=c==95||(decide (65≤c)&&decide (c≤90))||(decide (97≤c)&&decide (c≤122))
def isNam (c:Int):Bool:=isLet c||isDig c
def signK (c:Int):Int:=
 if c=33 then 2 else if c=36 then 3 else if c=38 then 20 else if c=40 then 4 else if c=41 then 5 else if c=58 then 7 else if c=61 then 8 else if c=64 then 9 else if c=91 then 10 else if c=93 then 11 else if c=123 then 12 else if c=124 then 13 else if c=125 then 14 else 0
def mDig (s:ByteArray) (p:Nat):Option Nat:=if isDig (bt s p)then some (scan isDig s s.size p)else none
def mInt (s:ByteArray) (p:Nat):Option Nat:=
 if bt s p=48 then(if isDig (bt s (p+1:Nat))then none else some (p+1))else mDig s p
def mFrac (s:ByteArray) (p:Nat):Option (Bool×Nat):=
 if bt s p=46 then(mDig s (p+1)).map fun q=>(true,q)else some (false,p)
def mExp (s:ByteArray) (p:Nat):Option (Bool×Nat):=
 if bt s p=69∨bt s p=101 then(mDig s (if bt s (p+1:Nat)=43∨bt s (p+1:Nat)=45 then p+2 else p+1)).map fun q=>(true,q)else some (false,p)
def mNum (s:ByteArray) (q:Nat):Option Tok:=
 (mInt s (if bt s q=45 then q+1 else q)).bind fun p1=>(mFrac s p1).bind fun x=>(mExp s x.2).map fun y=>⟨if x.1||y.1 then 17 else 16,q,y.2,s.extract q y.2⟩
def mTokAt (s:ByteArray) (q:Nat):Option Tok:=
 if s.size≤q then some ⟨1,q,q,⟨#[]⟩⟩
 else if signK (bt s q)≠0 then some ⟨signK (bt s q),q,q+1,⟨#[]⟩⟩
 else if bt s q=46 then(if bt s (q+1:Nat)=46∧bt s (q+2:Nat)=46 then some ⟨6,q,q+3,⟨#[]⟩⟩else none)
 else if isLet (bt s q)then some ⟨15,q,scan isNam s s.size (q+1),s.extract q (scan isNam s s.size (q+1))⟩
 else if bt s q=45∨isDig (bt s q)then mNum s q
 else none
def lxOf (s:ByteArray) (p:Nat):Option Tok:=mTokAt s (scan isWs s s.size p)
abbrev Lx:=Nat→Option Tok
section
variable (lx:Lx)
def mTok (k:Int) (t:Tok):Option Tok:=if t.kind=k then lx t.stop else none
def mName (t:Tok):Option Tok:=mTok lx 15 t
def mVar (t:Tok):Option Tok:=(mTok lx 3 t).bind (mName lx)
def mMany (f:Tok→Option Tok) (close:Int):Nat→Tok→Option (Nat×Tok)
 | 0,_=>none
 | n+1,t=>if t.kind=close then(lx t.stop).map fun t'=>(0,t')else(f t).bind fun t1=>(mMany f close n t1).map fun x=>(x.1+1,x.2)
def mRev (f:Tok→Option Tok) (opn close:Int) (must:Bool) (n:Nat) (t:Tok):Option Tok:=
 (mTok lx opn t).bind fun t1=>(mMany lx f close n t1).bind fun x=>if must=true∧x.1=0 then none else some x.2
def nullT:ByteArray:=⟨#[110,117,108,108]⟩
def onT:ByteArray:=⟨#[111,110]⟩
def mPair (f:Tok→Option Tok) (t:Tok):Option Tok:=(mName lx t).bind fun t1=>(mTok lx 7 t1).bind f
def mVal:Nat→Tok→Option Tok
 | 0,_=>none
 | n+1,t=>
  if t.kind=10 then mRev lx (mVal n) 10 11 false n t
  else if t.kind=12 then mRev lx (mPair lx (mVal n)) 12 14 false n t
  else if 16≤t.kind∧t.kind≤19 then lx t.stop
  else if t.kind=15 then(if t.value.toList=nullT.toList then none else lx t.stop)
  else if t.kind=3 then mVar lx t
  else none
def mArg (n:Nat) (t:Tok):Option Tok:=mPair lx (mVal lx n) t
def mArgs (n:Nat) (t:Tok):Option Tok:=if t.kind=4 then mRev lx (mArg lx n) 4 5 true n t else some t
def mDir (n:Nat) (t:Tok):Option Tok:=(mTok lx 9 t).bind fun t1=>(mName lx t1).bind (mArgs lx n)
def mDirs (n:Nat):Nat→Tok→Option Tok
 | 0,_=>none
 | k+1,t=>if t.kind=9 then(mDir lx n t).bind (mDirs n k)else some t
def mField (st:Tok→Option Tok) (n:Nat) (t:Tok):Option Tok:=
 (mName lx t).bind fun t1=>(if t1.kind=7 then(lx t1.stop).bind (mName lx)else some t1).bind fun t2=>(mArgs lx n t2).bind fun t3=>(mDirs lx n n t3).bind fun t4=>if t4.kind=12 then st t4 else some t4
def mFrag (st:Tok→Option Tok) (n:Nat) (t:Tok):Option Tok:=
 (mTok lx 6 t).bind fun t1=>
  if t1.kind=15∧t1.value.toList≠onT.toList then(mName lx t1).bind (mDirs lx n n)
  else(if t1.value.toList=onT.toList then(lx t1.stop).bind (mName lx)else some t1).bind fun t2=>(mDirs lx n n t2).bind st
def mSel (st:Tok→Option Tok) (n:Nat) (t:Tok):Option Tok:=if t.kind=6 then mFrag lx st n t else mField lx st n t
def mSet:Nat→Tok→Option Tok
 | 0,_=>none
 | n+1,t=>mRev lx (mSel lx (mSet n) n) 12 14 true n t
end
end Go.Proofs.YtjolkdnfbmkjiaaGreatDoor.Mod
namespace Go.Proofs.YtjolkdnfbmkjiaaGreatDoor.Sim
open Go.Proofs.YtjolkdnfbmkjiaaGreatDoor.Mod Go.Proofs.YtjolkdnfbmkjiaaGreatDoorW.PrintWords
theorem scan_eq (P:Int→Bool) (s:ByteArray):∀(n p q:Nat),p≤q→q-p≤n→(∀i,p≤i→i<q→P (bt s i)=true)→P (bt s q)=false→scan P s n p=q
 | 0,p,q,h0,h1,_,_=>by
  have:p=q:=by omega
  rw[this];rfl
 | n+1,p,q,h0,h1,h2,h3=>by
  unfold scan
  by_cases hpq:p=q
  ·subst hpq
   rw[h3];rfl
  ·rw[h2 p (Nat.le_refl _) (by omega),if_pos rfl]
   exact scan_eq P s n (p+1) q (by omega) (by omega) (fun i hi hq=>h2 i (by omega) hq) h3
theorem scan_end (P:Int→Bool) (s:ByteArray):∀(d p e:Nat),e-p=d→p≤e→P (bt s e)=false→∃q,p≤q∧q≤e∧(∀i,p≤i→i<q→P (bt s i)=true)∧P (bt s q)=false
 | 0,p,e,h,h1,h2=>⟨e,h1,Nat.le_refl _,fun i h3 h4=>by omega,h2⟩
 | d+1,p,e,h,h1,h2=>by
  cases hp:P (bt s p)with
  | false=>exact⟨p,Nat.le_refl _,h1,fun i h3 h4=>by omega,hp⟩
  | true=>
   obtain⟨q,a,b,c,e'⟩:=scan_end P s d (p+1) e (by omega) (by omega) h2
   refine⟨q,by omega,b,fun i hi hq=>?_,e'⟩
   rcases Nat.lt_or_ge p i with h|h
   ·exact c i h hq
   ·obtain rfl:i=p:=by omega
    exact hp
theorem scan_spec (P:Int→Bool) (s:ByteArray) (n p e:Nat) (h:p≤e) (hn:e-p≤n) (he:P (bt s e)=false) :
  p≤scan P s n p∧scan P s n p≤e∧(∀i,p≤i→i<scan P s n p→P (bt s i)=true)∧P (bt s (scan P s n p:Nat))=false:=by
 obtain⟨q,a,b,c,d⟩:=scan_end P s _ p e rfl h he;rw[scan_eq P s n p q a (by omega) c d]
 exact⟨a,b,c,d⟩
structure In (B c:ByteArray) (d:Nat):Prop where
 fit:d+c.size≤B.size
 eq:∀j:Nat,j<c.size→bt B (d+j:Nat)=bt c j
structure Piece (c:ByteArray) (m:Nat):Prop where
 size:c.size=m+2
 lf:bt c m=10
 close:bt c (m+1:Nat)=125
 plain:∀j:Nat,j<m→bt c j<128∧bt c j≠34∧bt c j≠35∧bt c j≠123∧bt c j≠125
def sh (d:Nat) (t:Tok):Tok:=⟨t.kind,d+t.start,d+t.stop,t.value⟩
theorem bt_nat (s:ByteArray) (i:Nat) (h:i<s.size):bt s i=((s[i]'h).toNat:Int):=by simp[bt,h]
theorem extract_sh {B c:ByteArray} {d:Nat} (h:In B c d) (q r:Nat) (hr:r≤c.size):B.extract (d+q) (d+r)=c.extract q r:=by
 have hf:=h.fit;have hsz:(B.extract (d+q) (d+r)).size=(c.extract q r).size:=by rw[ByteArray.size_extract,ByteArray.size_extract];omega
 apply ByteArray.ext_getElem hsz;intro i h1 h2;have h3:i<min r c.size-q:=by rw[ByteArray.size_extract]at h2;exact h2
 rw[ByteArray.getElem_extract,ByteArray.getElem_extract];have h4:=h.eq (q+i) (by omega)
 rw[bt_nat B _ (by omega),bt_nat c _ (by omega)]at h4
 apply UInt8.toNat_inj.1;have h5:(B[d+(q+i)]'(by omega)).toNat=(c[q+i]'(by omega)).toNat:=by omega
 rw[←h5];congr 2;omega
end Go.Proofs.YtjolkdnfbmkjiaaGreatDoor.Sim
namespace Go.Proofs.YtjolkdnfbmkjiaaGreatDoor.Four
open Go.Proofs.YtjolkdnfbmkjiaaGreatDoor.Mod Sim Go.Proofs.YtjolkdnfbmkjiaaGreatDoorW.PrintWords
theorem bt_out (s:ByteArray) (i:Nat) (h:s.size≤i):bt s i=0:=by unfold bt;rw[dif_neg (by simp;omega)]
def acc (c:ByteArray) (n:Nat):Option (Nat×Tok):=(lxOf c 0).bind (mMany (lxOf c) (mSel (lxOf c) (mSet (lxOf c) n) n) 14 n)
section
variable (a:ByteArray)
def tailT:ByteArray:=⟨#[10,125]⟩
def pieceT:ByteArray:=a++tailT
end
def body (pre a post:ByteArray):ByteArray:=pre++(pieceT a)++post
end Go.Proofs.YtjolkdnfbmkjiaaGreatDoor.Four
namespace Go.Proofs.YtjolkdnfbmkjiaaGreatDoor.Step
open Go.Proofs.YtjolkdnfbmkjiaaGreatDoor.Mod Sim Four Go.Proofs.YtjolkdnfbmkjiaaGreatDoorW.PrintWords
theorem scan_all (P:Int→Bool) (hP:P 0=false) (s:ByteArray) (p:Nat) (h:p≤s.size) :
  p≤scan P s s.size p∧scan P s s.size p≤s.size∧(∀i,p≤i→i<scan P s s.size p→P (bt s i)=true)∧P (bt s (scan P s s.size p:Nat))=false:=
 scan_spec P s s.size p s.size h (by omega) (by rw[bt_out s _ (Nat.le_refl _)];exact hP)
theorem dig_prog {s:ByteArray} {p q:Nat} (h:mDig s p=some q):p<q∧q≤s.size:=by
 unfold mDig at h
 by_cases hd:isDig (bt s p)=true
 ·rw[if_pos hd]at h
  obtain rfl:=Option.some.inj h;have hp:p<s.size:=by
   rcases Nat.lt_or_ge p s.size with h1|h1
   ·exact h1
   ·rw[bt_out s p h1]at hd;cases hd
  obtain⟨a,b,_,y⟩:=scan_all isDig rfl s p (by omega)
  refine⟨?_,b⟩;rcases Nat.lt_or_ge p (scan isDig s s.size p)with h1|h1
  ·exact h1
  ·have:scan isDig s s.size p=p:=by omega
   rw[this,hd]at y;cases y
 ·rw[if_neg hd]at h;cases h
theorem int_prog {s:ByteArray} {p q:Nat} (h:mInt s p=some q):p<q∧q≤s.size:=by
 unfold mInt at h
 by_cases h0:bt s p=48
 ·rw[if_pos h0]at h
  have hp:p<s.size:=by
   rcases Nat.lt_or_ge p s.size with h1|h1
   ·exact h1
   ·rw[bt_out s p h1]at h0;cases h0
  split at h
  ·cases h
  ·obtain rfl:=Option.some.inj h;omega
 ·rw[if_neg h0]at h;exact dig_prog h
theorem frac_prog {s:ByteArray} {p:Nat} {q:Bool×Nat} (h:mFrac s p=some q) (hp:p≤s.size):p≤q.2∧q.2≤s.size:=by
 unfold mFrac at h;split at h
 ·cases hx:mDig s (p+1)with
  | none=>rw[hx]at h;cases h
  | some x=>
   rw[hx]at h;obtain rfl:=Option.some.inj h;have:=dig_prog hx;simp only;omega
 ·obtain rfl:=Option.some.inj h
  exact⟨Nat.le_refl _,hp⟩
theorem exp_prog {s:ByteArray} {p:Nat} {q:Bool×Nat} (h:mExp s p=some q) (hp:p≤s.size):p≤q.2∧q.2≤s.size:=by
 unfold mExp at h;split at h
 ·generalize hk:(if bt s (p+1:Nat)=43∨bt s (p+1:Nat)=45 then p+2 else p+1)=k at h
  have hk1:p<k:=by rw[←hk];split<;>omega
  cases hx:mDig s k with
  | none=>rw[hx]at h;cases h
  | some x=>
   rw[hx]at h;obtain rfl:=Option.some.inj h;have:=dig_prog hx;simp only;omega
 ·obtain rfl:=Option.some.inj h
  exact⟨Nat.le_refl _,hp⟩
end Go.Proofs.YtjolkdnfbmkjiaaGreatDoor.Step
namespace Go.Proofs.YtjolkdnfbmkjiaaGreatDoor.Fuel
open Go.Proofs.YtjolkdnfbmkjiaaGreatDoorW.PrintWords Go.Proofs.YtjolkdnfbmkjiaaGreatDoor.Mod Sim Four Step
end Go.Proofs.YtjolkdnfbmkjiaaGreatDoor.Fuel
namespace Go.Proofs.YtjolkdnfbmkjiaaGreatDoor.Tree
open Go.Proofs.YtjolkdnfbmkjiaaGreatDoorW.PrintWords Go.Proofs.YtjolkdnfbmkjiaaGreatDoor.Mod Sim Four Step
structure Nd where
 kind:Int
 name:ByteArray
 alias:ByteArray
 text:ByteArray
 flag:Int
 size:Nat
abbrev NL:=List Nd
def nd (k:Int) (name alias text:ByteArray) (flag:Int) (kids:List NL):NL:=⟨k,name,alias,text,flag,kids.flatten.length+1⟩::kids.flatten
def fl (x:List NL):Nat:=x.flatten.length
abbrev P2 {α:Type} (o:Option (α×Tok)):Option Tok:=o.map Prod.snd
end Go.Proofs.YtjolkdnfbmkjiaaGreatDoor.Tree
namespace Go.Proofs.YtjolkdnfbmkjiaaGreatDoor.Rel
open Go.Proofs.YtjolkdnfbmkjiaaGreatDoor.Mod Go.Proofs.YtjolkdnfbmkjiaaGreatDoorW.PrintWords
def runeOf (s:ByteArray) (p:Nat):Int×Int:=
 if s.size≤p then(-1,65533)else if bt s p<128 then(bt s p,1)else(((Lib.decodeGo (s.extract p s.size)).1:Int),((Lib.decodeGo (s.extract p s.size)).2:Int))
def comB (c:Int):Bool:=c==9||(decide (32≤c)&&decide (c<128))
def Com (s:ByteArray) (p q:Nat):Prop:=p≤q∧q≤s.size∧(∀i:Nat,p≤i→i<q→comB (bt s i)=true)∧(q=s.size∨bt s q=10∨bt s q=13)
inductive Skip (s:ByteArray):Nat→Nat→Prop
 | refl (p:Nat):Skip s p p
 | ws {p q:Nat}:p<s.size→isWs (bt s p)=true→Skip s (p+1) q→Skip s p q
 | com {p m q:Nat}:p<s.size→bt s p=35→Com s (p+1) m→Skip s m q→Skip s p q
theorem Skip.le {s:ByteArray} {p q:Nat} (h:Skip s p q):p≤q:=by
 induction h with
 | refl p=>omega
 | ws _ _ _ ih=>omega
 | com _ _ h _ ih=>have:=h.1;omega
theorem Skip.size {s:ByteArray} {p q:Nat} (h:Skip s p q) (hp:p≤s.size):q≤s.size:=by
 induction h with
 | refl p=>exact hp
 | ws h _ _ ih=>exact ih (by omega)
 | com _ _ h _ ih=>exact ih h.2.1
theorem Skip.trans {s:ByteArray} {p q r:Nat} (h:Skip s p q) (h2:Skip s q r):Skip s p r:=by
 induction h with
 | refl p=>exact h2
 | ws a b _ ih=>exact .ws a b (ih h2)
 | com a b c _ ih=>exact .com a b c (ih h2)
def hexV (c:Int):Int:=if 48≤c∧c≤57 then c-48 else if 97≤c∧c≤102 then c-87 else if 65≤c∧c≤70 then c-55 else -1
def escV (c:Int):Int:=if c=34 then 34 else if c=92 then 92 else if c=47 then 47 else if c=98 then 8 else if c=102 then 12 else if c=110 then 10 else if c=114 then 13 else if c=116 then 9 else -1
def uniV (s:ByteArray) (a:Nat):Int:=4096*hexV (bt s (a+2:Nat))+256*hexV (bt s (a+3:Nat))+16*hexV (bt s (a+4:Nat))+hexV (bt s (a+5:Nat))
def hexOk (s:ByteArray) (a:Nat):Prop:=0≤hexV (bt s (a+2:Nat))∧0≤hexV (bt s (a+3:Nat))∧0≤hexV (bt s (a+4:Nat))∧0≤hexV (bt s (a+5:Nat))
def enc (n:Int):ByteArray:=⟨(Lib.encodeRune n).toArray⟩
inductive Bit (s:ByteArray) (a:Nat):Nat→ByteArray→Prop
 | chr (c:Int) (n:Nat):a<s.size→runeOf s a=(c,(n:Int))→1≤n→n≤4→a+n≤s.size→c≠34→c≠92→(c=9∨32≤c)→Bit s a (a+n) (s.extract a (a+n))
 | esc:a+1<s.size→bt s a=92→0≤escV (bt s (a+1:Nat))→Bit s a (a+2) (enc (escV (bt s (a+1:Nat))))
 | uni:a+5<s.size→bt s a=92→bt s (a+1:Nat)=117→hexOk s a→1≤uniV s a→¬(55296≤uniV s a∧uniV s a≤57343)→Bit s a (a+6) (enc (uniV s a))
inductive Bits (s:ByteArray):Nat→Nat→ByteArray→Prop
 | nil (a:Nat):Bits s a a ⟨#[]⟩
 | cons {a b c:Nat} {x y:ByteArray}:Bit s a b x→Bits s b c y→Bits s a c (x++y)
theorem Bit.lt {s:ByteArray} {a b:Nat} {x:ByteArray} (h:Bit s a b x):a<b∧b≤s.size:=by
 cases h with
 | chr c n _ _ h1 _ h2=>omega
 | esc h=>omega
 | uni h=>omega
theorem Bits.le {s:ByteArray} {a b:Nat} {x:ByteArray} (h:Bits s a b x):a≤b:=by
 induction h with
 | nil a=>omega
 | cons h _ ih=>have:=h.lt;omega
def BitBad (s:ByteArray) (a:Nat):Prop:=
 s.size≤a∨
 (a<s.size∧(bt s a<32∧bt s a≠9))∨
 (a<s.size∧bt s a=92∧escV (bt s (a+1:Nat))<0∧(bt s (a+1:Nat)=117→¬hexOk s a))
inductive Chain (s:ByteArray) (T:Nat→Tok→Prop) (B:Nat→Prop) (whole:Bool):Nat→List Tok→Prop
 | done {p q:Nat}:Skip s p q→(whole=true∧q=s.size)∨(whole=false∧B q)→Chain s T B whole p []
 | more {p q:Nat} {t:Tok} {l:List Tok}:Skip s p q→T q t→Chain s T B whole t.stop l→Chain s T B whole p (t::l)
def lxL (s:ByteArray) (l:List Tok) (whole:Bool) (p:Nat):Option Tok:=
 match l.find? (fun t=>decide (p≤t.start))with
 | some t=>some t
 | none=>if whole=true then some ⟨1,s.size,s.size,⟨#[]⟩⟩else none
def headL (s:ByteArray) (whole:Bool):List Tok→Option Tok
 | []=>if whole=true then some ⟨1,s.size,s.size,⟨#[]⟩⟩else none
 | t::_=>some t
section
variable {s:ByteArray} {T:Nat→Tok→Prop} {B:Nat→Prop} {whole:Bool}
theorem Chain.start (hT:∀p t,T p t→t.start=p∧p<t.stop∧t.stop≤s.size) {p:Nat} {l:List Tok} (h:Chain s T B whole p l):∀t∈l,p≤t.start∧t.start<t.stop∧t.stop≤s.size:=by
 induction h with
 | done _ _=>intro t ht;cases ht
 | more h1 h2 h3 ih=>
  intro t ht;have h4:=hT _ _ h2;have h5:=h1.le;rcases List.mem_cons.1 ht with rfl|ht
  ·exact⟨by omega,by omega,h4.2.2⟩
  ·have:=ih t ht;omega
inductive Reach (s:ByteArray) (T:Nat→Tok→Prop) (B:Nat→Prop) (whole:Bool) (l:List Tok):Nat→List Tok→Prop
 | first:Chain s T B whole 0 l→Reach s T B whole l 0 l
 | next {p:Nat} {t:Tok} {r:List Tok}:Reach s T B whole l p (t::r)→Reach s T B whole l t.stop r
theorem Reach.chain (hT:∀p t,T p t→t.start=p∧p<t.stop∧t.stop≤s.size) {l r:List Tok} {p:Nat} (h:Reach s T B whole l p r):Chain s T B whole p r∧p≤s.size∧∃d,l=d++r∧∀t∈d,t.start<p:=by
 induction h with
 | first h=>exact⟨h,Nat.zero_le _,[],rfl,fun t h=>by cases h⟩
 | @next p t r h1 ih=>
  obtain⟨hc,hp,d,hd,hlt⟩:=ih;cases hc with
  | more h2 h3 h4=>
   have h5:=hT _ _ h3;have h6:=h2.le;refine⟨h4,h5.2.2,d++[t],by rw[hd];simp,fun u hu=>?_⟩
   rcases List.mem_append.1 hu with hu|hu
   ·have:=hlt u hu;omega
   ·rw[List.mem_singleton.1 hu];omega
theorem lxL_reach (hT:∀p t,T p t→t.start=p∧p<t.stop∧t.stop≤s.size) {l r:List Tok} {p:Nat} (h:Reach s T B whole l p r):lxL s l whole p=headL s whole r:=by
 obtain⟨hc,hp,d,rfl,hlt⟩:=h.chain hT;unfold lxL;rw[List.find?_append];have e:d.find? (fun t=>decide (p≤t.start))=none:=by
  rw[List.find?_eq_none];intro t ht;have:=hlt t ht;simp;omega
 rw[e,Option.none_or];cases r with
 | nil=>rfl
 | cons t r=>
  have:=hc.start hT t (List.mem_cons_self ..);rw[List.find?_cons_of_pos (by simp;omega)]
  rfl
end
open Tree
end Go.Proofs.YtjolkdnfbmkjiaaGreatDoor.Rel
namespace Go.Proofs.YtjolkdnfbmkjiaaGreatDoor.Rel
open Go.Proofs.YtjolkdnfbmkjiaaGreatDoor.Mod Step Four Go.Proofs.YtjolkdnfbmkjiaaGreatDoorW.PrintWords
def three (s:ByteArray) (a:Nat):Prop:=bt s a=34∧bt s (a+1:Nat)=34∧bt s (a+2:Nat)=34
def escq (s:ByteArray) (a:Nat):Prop:=bt s a=92∧three s (a+1)
inductive Raw (s:ByteArray):Nat→Nat→Prop
 | nil (a:Nat):Raw s a a
 | cons {a b:Nat} (c:Int) (n:Nat):a<s.size→¬three s a→¬escq s a→runeOf s a=(c,(n:Int))→1≤n→n≤4→a+n≤s.size→(c=9∨c=10∨c=13∨32≤c)→Raw s (a+n) b→Raw s a b
theorem Raw.le {s:ByteArray} {a b:Nat} (h:Raw s a b):a≤b:=by
 induction h with
 | nil a=>omega
 | cons c n _ _ _ _ h1 _ _ _ _ ih=>omega
theorem in_of {s:ByteArray} {a:Nat} (h:bt s a≠0):a<s.size:=by
 rcases Nat.lt_or_ge a s.size with h1|h1
 ·exact h1
 ·exact absurd (bt_out s a h1) h
theorem three_in {s:ByteArray} {a:Nat} (h:three s a):a+3≤s.size:=by
 have:=in_of (s:=s) (a:=a+2) (by rw[h.2.2];decide)
 omega
def RawBad (s:ByteArray) (a:Nat):Prop:=s.size≤a∨(a<s.size∧bt s a<32∧bt s a≠9∧bt s a≠10∧bt s a≠13)
theorem num_place {s:ByteArray} {p:Nat} {t:Tok} (h1:bt s p=45∨isDig (bt s p)=true) (h:mNum s p=some t):t.start=p∧p<t.stop∧t.stop≤s.size:=by
 have hp:p<s.size:=in_of (by rcases h1 with h1|h1<;>intro h2<;>rw[h2]at h1<;>cases h1)
 unfold mNum at h;obtain⟨p1,e1,h⟩:=Option.bind_eq_some_iff.1 h;obtain⟨x,e2,h⟩:=Option.bind_eq_some_iff.1 h;obtain⟨y,e3,rfl⟩:=Option.map_eq_some_iff.1 h;obtain⟨a1,b1⟩:=int_prog e1;obtain⟨a2,b2⟩:=frac_prog e2 (by omega)
 obtain⟨a3,b3⟩:=exp_prog e3 b2;have a0:p≤(if bt s p=45 then p+1 else p):=by split<;>omega
 exact⟨rfl,by show p<y.2;omega,b3⟩
inductive TokAt (V:ByteArray→ByteArray→Prop) (s:ByteArray) (p:Nat):Tok→Prop
 | sign:p<s.size→signK (bt s p)≠0→TokAt V s p ⟨signK (bt s p),p,p+1,⟨#[]⟩⟩
 | dots:bt s p=46→bt s (p+1:Nat)=46→bt s (p+2:Nat)=46→TokAt V s p ⟨6,p,p+3,⟨#[]⟩⟩
 | name:isLet (bt s p)=true→TokAt V s p ⟨15,p,scan isNam s s.size (p+1),s.extract p (scan isNam s s.size (p+1))⟩
 | num {t:Tok}:(bt s p=45∨isDig (bt s p)=true)→mNum s p=some t→TokAt V s p t
 | str {a:Nat} {x:ByteArray}:bt s p=34→¬three s p→Bits s (p+1) a x→bt s a=34→TokAt V s p ⟨18,p,a+1,x⟩
 | blk {a:Nat} {v:ByteArray}:three s p→Raw s (p+3) a→three s a→V (s.extract (p+3) a) v→TokAt V s p ⟨19,p,a+3,v⟩
inductive BadAt (s:ByteArray) (p:Nat):Prop
 | chr:p<s.size→isWs (bt s p)=false→bt s p≠35→bt s p≠34→bt s p≠45→signK (bt s p)=0→isLet (bt s p)=false→isDig (bt s p)=false→¬(bt s p=46∧bt s (p+1:Nat)=46∧bt s (p+2:Nat)=46)→(128≤bt s p→(runeOf s p).1≠65279)→BadAt s p
 | num:(bt s p=45∨isDig (bt s p)=true)→mNum s p=none→BadAt s p
 | str {a:Nat} {x:ByteArray}:bt s p=34→¬three s p→Bits s (p+1) a x→BitBad s a→BadAt s p
 | blk {a:Nat}:three s p→Raw s (p+3) a→RawBad s a→BadAt s p
theorem TokAt.place {V:ByteArray→ByteArray→Prop} {s:ByteArray} {p:Nat} {t:Tok} (h:TokAt V s p t):t.start=p∧p<t.stop∧t.stop≤s.size:=by
 cases h with
 | sign h1 h2=>exact⟨rfl,Nat.lt_succ_self _,h1⟩
 | dots h1 h2 h3=>
  have:=in_of (s:=s) (a:=p+2) (by rw[h3];decide)
  exact⟨rfl,by show p<p+3;omega,by show p+3≤_;omega⟩
 | name h1=>
  have hp:=in_of (s:=s) (a:=p) (by intro h;rw[h]at h1;cases h1)
  obtain⟨a,b,_,_⟩:=scan_all isNam rfl s (p+1) (by omega)
  exact⟨rfl,by show p<scan _ _ _ _;omega,b⟩
 | num h1 h2=>
  exact num_place h1 h2
 | str h1 h2 h3 h4=>
  have h5:=h3.le;have h6:=in_of (s:=s) (by rw[h4];decide)
  exact⟨rfl,by show p<_+1;omega,h6⟩
 | blk h1 h2 h3 h4=>
  have h5:=h2.le;have h6:=three_in h3;exact⟨rfl,by show p<_+3;omega,h6⟩
def digs (s:ByteArray) (p:Nat):Nat:=scan isDig s s.size p
theorem bt_dig_in {s:ByteArray} {p:Nat} (h:isDig (bt s p)=true):p<s.size:=in_of (by intro h2;rw[h2]at h;cases h)
theorem scan_no {P:Int→Bool} {s:ByteArray} {p:Nat} (h:P (bt s p)=false):∀n,scan P s n p=p:=by
 intro n;cases n with
 | zero=>rfl
 | succ n=>unfold scan;rw[if_neg (by rw[h];decide)]
theorem digs_no {s:ByteArray} {p:Nat} (h:isDig (bt s p)=false):digs s p=p:=scan_no h _
theorem digs_yes {s:ByteArray} {p:Nat} (h:isDig (bt s p)=true):p<digs s p:=by
 have hp:=bt_dig_in h;obtain⟨a,b,_,y⟩:=scan_all isDig rfl s p (by omega)
 rcases Nat.lt_or_ge p (digs s p)with h1|h1
 ·exact h1
 ·exfalso
  have e:scan isDig s s.size p=p:=by unfold digs at h1;omega
  rw[e,h]at y;cases y
theorem digs_one {s:ByteArray} {p:Nat} (h:isDig (bt s p)=true) (h2:isDig (bt s (p+1:Nat))=false):digs s p=p+1:=by
 have hp:=bt_dig_in h;obtain⟨n,hn⟩:∃n,s.size=n+1:=⟨s.size-1,by omega⟩
 unfold digs;rw[hn];unfold scan;rw[if_pos h];exact scan_no h2 n
theorem digs_more {s:ByteArray} {p:Nat} (h:isDig (bt s p)=true) (h2:isDig (bt s (p+1:Nat))=true):p+1<digs s p:=by
 have hp:=bt_dig_in h;have hp2:=bt_dig_in h2;obtain⟨a,b,c,y⟩:=scan_all isDig rfl s p (by omega)
 have h3:=digs_yes h;rcases Nat.lt_or_ge (p+1) (digs s p)with h1|h1
 ·exact h1
 ·exfalso
  have e:scan isDig s s.size p=p+1:=by unfold digs at h1 h3;omega
  rw[e,h2]at y;cases y
theorem mDig_digs (s:ByteArray) (p:Nat):mDig s p=if digs s p=p then none else some (digs s p):=by
 unfold mDig
 by_cases h:isDig (bt s p)=true
 ·rw[if_pos h,if_neg (by have:=digs_yes h;omega)]
  rfl
 ·rw[if_neg h,if_pos (digs_no (by simpa using h))]
theorem mInt_digs (s:ByteArray) (p:Nat):mInt s p=if digs s p=p∨(bt s p=48∧p+1<digs s p)then none else some (digs s p):=by
 unfold mInt
 by_cases h:bt s p=48
 ·have hd:isDig (bt s p)=true:=by rw[h];rfl
  have h0:=digs_yes hd;rw[if_pos h];cases h2:isDig (bt s (p+1:Nat))with
  | true=>rw[if_pos rfl,if_pos (.inr ⟨h,digs_more hd h2⟩)]
  | false=>
   have h3:=digs_one hd h2;rw[if_neg (by decide),if_neg (by omega),h3]
 ·rw[if_neg h,mDig_digs]
  by_cases h2:digs s p=p
  ·rw[if_pos h2,if_pos (.inl h2)]
  ·rw[if_neg h2,if_neg (by omega)]
def sExp (s:ByteArray) (k:Int) (p:Nat):Option (Int×Nat):=
 if bt s p=101∨bt s p=69 then
  (if digs s (if bt s (p+1:Nat)=43∨bt s (p+1:Nat)=45 then p+2 else p+1)=(if bt s (p+1:Nat)=43∨bt s (p+1:Nat)=45 then p+2 else p+1)then none
  else some (17,digs s (if bt s (p+1:Nat)=43∨bt s (p+1:Nat)=45 then p+2 else p+1)))
 else some (k,p)
def sFrac (s:ByteArray) (p:Nat):Option (Int×Nat):=
 if bt s p=46 then(if digs s (p+1)=p+1 then none else sExp s 17 (digs s (p+1)))else sExp s 16 p
def sNum (s:ByteArray) (q:Nat):Option (Int×Nat):=
 if digs s (if bt s q=45 then q+1 else q)=(if bt s q=45 then q+1 else q)∨(bt s (if bt s q=45 then q+1 else q:Nat)=48∧(if bt s q=45 then q+1 else q)+1<digs s (if bt s q=45 then q+1 else q))then none
 else sFrac s (digs s (if bt s q=45 then q+1 else q))
theorem num_same (s:ByteArray) (q:Nat):sNum s q=(mNum s q).map fun t=>(t.kind,t.stop):=by
 unfold sNum mNum;generalize (if bt s q=45 then q+1 else q)=a
 rw[mInt_digs]
 by_cases h1:digs s a=a∨(bt s a=48∧a+1<digs s a)
 ·rw[if_pos h1,if_pos h1];rfl
 ·rw[if_neg h1,if_neg h1]
  simp only[Option.bind_some];have he:∀(b:Bool) (k:Int) (p:Nat),(if b then 17 else 16)=k→sExp s k p=((mExp s p).map fun y=>(⟨if b||y.1 then 17 else 16,q,y.2,s.extract q y.2⟩:Tok)).map fun t=>(t.kind,t.stop):=by
   intro b k p hk;unfold sExp mExp
   by_cases h2:bt s p=69∨bt s p=101
   ·rw[if_pos (Or.comm.1 h2),if_pos h2,mDig_digs]
    generalize (if bt s (p+1:Nat)=43∨bt s (p+1:Nat)=45 then p+2 else p+1)=c
    by_cases h3:digs s c=c
    ·rw[if_pos h3,if_pos h3];rfl
    ·rw[if_neg h3,if_neg h3]
     simp only[Option.map_some,Bool.or_true,if_true]
   ·rw[if_neg (fun h=>h2 (Or.comm.1 h)),if_neg h2]
    simp only[Option.map_some,Bool.or_false];rw[←hk]
  unfold sFrac mFrac
  by_cases h4:bt s (digs s a:Nat)=46
  ·rw[if_pos h4,if_pos h4,mDig_digs]
   by_cases h5:digs s (digs s a+1)=digs s a+1
   ·rw[if_pos h5,if_pos h5];rfl
   ·rw[if_neg h5,if_neg h5]
    simp only[Option.map_some,Option.bind_some];exact he true 17 _ rfl
  ·rw[if_neg h4,if_neg h4]
   simp only[Option.bind_some];exact he false 16 _ rfl
open Sim
theorem get_eq (s:ByteArray) (j:Nat) (h:j<s.size):s.get! j=s[j]:=by
 show(s.data[j]!)=_;rw[getElem!_pos _ _ (by simpa using h)]
 rfl
theorem rune_bytes (s:ByteArray) (p:Nat) (hp:p<s.size) (h:¬bt s p<128):∃b:Nat→Nat,(∀j,p+j<s.size→(b j:Int)=bt s ((p+j:Nat):Int))∧
  runeOf s p=(((Lib.decodeN (s.size-p) (b 0) (b 1) (b 2) (b 3)).1:Int),((Lib.decodeN (s.size-p) (b 0) (b 1) (b 2) (b 3)).2:Int)):=by
 have hsz:(s.extract p s.size).size=s.size-p:=by rw[ByteArray.size_extract];omega
 refine⟨fun j=>((s.extract p s.size).get! j).toNat,fun j hj=>?_,?_⟩
 ·have hj':j<(s.extract p s.size).size:=by omega
  have a2:=ByteArray.getElem_extract (b:=s) (start:=p) (stop:=s.size) (i:=j) hj';show(((s.extract p s.size).get! j).toNat:Int)=_;rw[get_eq _ _ hj',a2,bt_nat s (p+j) hj]
 ·unfold runeOf
  rw[if_neg (by omega),if_neg h]
  unfold Lib.decodeGo;rw[if_neg (by omega),Lib.decode_at,hsz]
  simp only[Nat.sub_zero,Nat.zero_add]
theorem decodeN_big {n b0 b1 b2 b3:Nat} (h:128≤b0):128≤(Lib.decodeN n b0 b1 b2 b3).1∧1≤(Lib.decodeN n b0 b1 b2 b3).2∧(Lib.decodeN n b0 b1 b2 b3).2≤4∧(1≤n→(Lib.decodeN n b0 b1 b2 b3).2≤n):=by
 unfold Lib.decodeN
 repeat' split
 all_goals first|(exfalso;omega)|(refine⟨?_,?_,?_,?_⟩<;>simp only<;>omega)
theorem decodeN_bom {n b0 b1 b2 b3:Nat} (h1:b1<256) (h2:b2<256) (h:(Lib.decodeN n b0 b1 b2 b3).1=65279):(b0=65279∨(2<n∧b0=239∧b1=187∧b2=191)):=by
 unfold Lib.decodeN at h
 repeat' split at h
 all_goals first|(exfalso;simp only at h;omega)|(simp only at h;omega)
theorem rune_small {s:ByteArray} {p:Nat} (hp:p<s.size) (h:bt s p<128):runeOf s p=(bt s p,1):=by
 unfold runeOf;rw[if_neg (by omega),if_pos h]
theorem rune_end {s:ByteArray} {p:Nat} (hp:s.size≤p):runeOf s p=(-1,65533):=by
 unfold runeOf;rw[if_pos hp]
theorem rune_big {s:ByteArray} {p:Nat} (hp:p<s.size) (h:¬bt s p<128):128≤(runeOf s p).1∧1≤(runeOf s p).2∧(runeOf s p).2≤4∧p+(runeOf s p).2≤s.size:=by
 obtain⟨b,hb,e⟩:=rune_bytes s p hp h;have h0:=hb 0 (by omega)
 rw[Nat.add_zero]at h0;obtain⟨a1,a2,a3,a4⟩:=decodeN_big (n:=s.size-p) (b0:=b 0) (b1:=b 1) (b2:=b 2) (b3:=b 3) (by omega)
 have a5:=a4 (by omega)
 rw[e];simp only;omega
theorem rune_bom {s:ByteArray} {p:Nat} (hp:p<s.size) (h:¬bt s p<128) (hr:(runeOf s p).1=65279):bt s p=239∧bt s (p+1:Nat)=187∧bt s (p+2:Nat)=191:=by
 have hsz:(s.extract p s.size).size=s.size-p:=by rw[ByteArray.size_extract];omega
 have e:runeOf s p=(((Lib.decodeGo (s.extract p s.size)).1:Int),((Lib.decodeGo (s.extract p s.size)).2:Int)):=by
  unfold runeOf;rw[if_neg (by omega),if_neg h]
 rw[e]at hr;unfold Lib.decodeGo at hr;rw[if_neg (by omega),Lib.decode_at,hsz]at hr
 simp only[Nat.sub_zero,Nat.zero_add]at hr;have hg:∀j,p+j<s.size→((((s.extract p s.size).get! j).toNat:Nat):Int)=bt s ((p+j:Nat):Int):=by
  intro j hj;have hj':j<(s.extract p s.size).size:=by omega
  have a2:=ByteArray.getElem_extract (b:=s) (start:=p) (stop:=s.size) (i:=j) hj';rw[get_eq _ _ hj',a2,bt_nat s (p+j) hj]
 have h0:=hg 0 (by omega)
 rw[Nat.add_zero]at h0;have hr':(Lib.decodeN (s.size-p) ((s.extract p s.size).get! 0).toNat ((s.extract p s.size).get! 1).toNat ((s.extract p s.size).get! 2).toNat ((s.extract p s.size).get! 3).toNat).1=65279:=Int.ofNat.inj hr;have l0:=((s.extract p s.size).get! 0).toNat_lt;have l1:=((s.extract p s.size).get! 1).toNat_lt;have l2:=((s.extract p s.size).get! 2).toNat_lt;rcases decodeN_bom (by omega) (by omega) hr' with h5|⟨hn,h5,h6,h7⟩
 ·omega
 ·have g1:=hg 1 (by omega)
  have g2:=hg 2 (by omega)
  omega
end Go.Proofs.YtjolkdnfbmkjiaaGreatDoor.Rel
namespace Go.Proofs.YtjolkdnfbmkjiaaGreatDoor.WtL
open Go.Proofs.YtjolkdnfbmkjiaaGreatDoorW.PrintWords Go.Proofs.YtjolkdnfbmkjiaaGreatDoor.Mod Sim Four Step Tree
def LxOk (lx:Nat→Option Tok) (s:ByteArray):Prop:=∀(p:Nat) (t:Tok),p≤s.size→lx p=some t→(t.kind=1∧t.stop=s.size)∨(t.kind≠1∧p<t.stop∧t.stop≤s.size)
end Go.Proofs.YtjolkdnfbmkjiaaGreatDoor.WtL
