import Derived.Test.YtjolkdnfbmkjiaaGreatDoorVP7
import Derived.Test.YtjolkdnfbmkjiaaGreatDoorVPL
import Derived.Test.YtjolkdnfbmkjiaaGreatDoorVP6
import Derived.Test.YtjolkdnfbmkjiaaGreatDoorVP2
import Derived.Test.YtjolkdnfbmkjiaaGreatDoorVA1
import Derived.Test.YtjolkdnfbmkjiaaGreatDoorVC0
import Derived.Laws.RangeAny
import Derived.Test.YtjolkdnfbmkjiaaGreatDoorVA4
set_option maxRecDepth 100000
set_option maxHeartbeats 8000000
set_option linter.unusedVariables false
set_option linter.unusedSimpArgs false
namespace Go.Proofs.YtjolkdnfbmkjiaaGreatDoor.LinesP
open Go.RowKit Go.Proofs.YtjolkdnfbmkjiaaGreatDoorW.PrintWords Go.Proofs.YtjolkdnfbmkjiaaGreatDoorW.PrintLast Go.Proofs.YtjolkdnfbmkjiaaGreatDoorW.PrintMore
theorem lines_plain:∀k,PFnTokensGaps.spec_Lines.l0 k=PFnTokensGaps.spec_Lines.l0 k∧PFnTokensGaps.spec_Lines.j1 k=PFnTokensGaps.spec_Lines.j1 k:=by
 intro k
 induction k with
 | zero=>constructor<;>(funext;rfl)
 | succ k ih=>
  obtain⟨h1,h2⟩:=ih;constructor
  ·funext a b c d
   simp only[PFnTokensGaps.spec_Lines.l0,PFnTokensGaps.spec_Lines.l0,h2]
  ·funext a b c d e
   simp only[PFnTokensGaps.spec_Lines.j1,PFnTokensGaps.spec_Lines.j1,h1]
theorem lines_zz:∀k,PzzLines.lexer_zzLines.l0 k=PFnTokensGaps.spec_Lines.l0 k∧PzzLines.lexer_zzLines.j1 k=PFnTokensGaps.spec_Lines.j1 k:=by
 intro k
 induction k with
 | zero=>constructor<;>(funext;rfl)
 | succ k ih=>
  obtain⟨h1,h2⟩:=ih;constructor
  ·funext a b c d
   simp only[PzzLines.lexer_zzLines.l0,PFnTokensGaps.spec_Lines.l0,h2]
   by_cases e1:bt a d=13
   ·have e2:¬bt a d=10:=by omega
    have e3:(bt a d != 13)=false:=by simp[e1]
    rw[if_pos e1,if_neg e2,e3]
   ·by_cases e2:bt a d=10
    ·have e3:(bt a d != 10)=false:=by simp[e2]
     rw[if_neg e1,if_pos e2,e3]
    ·have e3:(bt a d != 10)=true:=by simp[e2]
     have e4:(bt a d != 13)=true:=by simp[e1]
     rw[if_neg e1,if_neg e2,e3,e4]
  ·funext a b c d e
   simp only[PzzLines.lexer_zzLines.j1,PFnTokensGaps.spec_Lines.j1,h1]
def LinesOf (s:ByteArray) (l:List ByteArray):Prop:=0<l.length∧l.length≤s.size+1∧∀x∈l,x.size≤s.size
theorem extract_le (s:ByteArray) (a b:Nat):(s.extract a b).size≤s.size:=by rw[ByteArray.size_extract];omega
theorem lines_total (s:ByteArray) (hs:s.size≤1000000000):∀(d k:Nat) (acc:List ByteArray) (f i:Int),0≤f→f≤i→i≤(s.size:Int)→(s.size:Int)-i≤d→2*d+2<k→(acc.length:Int)≤f→(∀x∈acc,x.size≤s.size)→
  ∃r,PFnTokensGaps.spec_Lines.l0 k s acc f i=some r∧LinesOf s r:=by
 intro d
 induction d using Nat.strongRecOn with
 | _ d ih=>
  intro k acc f i hf hfi hi hd hk ha hacc;obtain⟨k,rfl⟩:∃m,k=m+1:=⟨k-1,by omega⟩
  simp only[PFnTokensGaps.spec_Lines.l0]
  by_cases hlt:i<(s.size:Int)
  ·rw[if_pos hlt,if_pos (by omega)]
   obtain⟨k,rfl⟩:∃m,k=m+1:=⟨k-1,by omega⟩
   have w1:wrap64 (i+1)=i+1:=by unfold wrap64;omega
   have w2:wrap64 (i+1+1)=i+1+1:=by unfold wrap64;omega
   have hj1:∃r,PFnTokensGaps.spec_Lines.j1 (k+1) s acc f i true=some r∧LinesOf s r:=by
    simp only[PFnTokensGaps.spec_Lines.j1];rw[if_pos trivial,w1];exact ih (d-1) (by omega) k acc f (i+1) hf (by omega) (by omega) (by omega) (by omega) ha hacc
   have hacc2:∀x∈acc++[s.extract f.toNat i.toNat],x.size≤s.size:=by
    intro x hx;rcases List.mem_append.1 hx with h|h
    ·exact hacc x h
    ·rw[List.mem_singleton.1 h];exact extract_le _ _ _
   have hj0:∃r,PFnTokensGaps.spec_Lines.j1 (k+1) s acc f i false=some r∧LinesOf s r:=by
    simp only[PFnTokensGaps.spec_Lines.j1];rw[if_neg (by decide),if_pos hf,if_pos hfi,if_pos hi,if_pos (by omega)]
    simp only[Option.bind_some];rw[if_pos (by omega),if_pos hlt,w1,w2]
    have st:∃r,PFnTokensGaps.spec_Lines.l0 k s (acc++[s.extract f.toNat i.toNat]) (i+1) (i+1)=some r∧LinesOf s r:=
     ih (d-1) (by omega) k _ (i+1) (i+1) (by omega) (by omega) (by omega) (by omega) (by omega) (by rw[List.length_append];simp;omega) hacc2
    by_cases e1:bt s i=13
    ·rw[if_pos e1]
     by_cases e2:i+1<(s.size:Int)
     ·rw[if_pos e2,if_pos (by omega)]
      by_cases e3:bt s (i+1)=10
      ·rw[if_pos e3]
       exact ih (d-2) (by omega) k _ (i+1+1) (i+1+1) (by omega) (by omega) (by omega) (by omega) (by omega) (by rw[List.length_append];simp;omega) hacc2
      ·rw[if_neg e3];exact st
     ·rw[if_neg e2];exact st
    ·rw[if_neg e1];exact st
   by_cases e1:bt s i=10
   ·rw[if_pos e1];exact hj0
   ·rw[if_neg e1]
    cases(bt s i != 13)with
    | true=>exact hj1
    | false=>exact hj0
  ·rw[if_neg hlt,if_pos hf,if_pos (by omega),if_pos (by omega)]
   refine⟨_,rfl,by simp,by rw[List.length_append];simp;omega,?_⟩
   intro x hx;rcases List.mem_append.1 hx with h|h
   ·exact hacc x h
   ·rw[List.mem_singleton.1 h];exact extract_le _ _ _
theorem lines_some (s:ByteArray) (hs:s.size≤1000000000):∃l,LinesOf s l∧∀k,2*s.size+2<k→PFnTokensGaps.spec_Lines.f k s=some l∧PFnTokensGaps.spec_Lines.f k s=some l∧PzzLines.lexer_zzLines.f k s=some l:=by
 obtain⟨l,h,hl⟩:=lines_total s hs s.size (2*s.size+3) [] 0 0 (by omega) (by omega) (by omega) (by omega) (by omega) (by simp) (by simp)
 have hm:∀k,2*s.size+2<k→PFnTokensGaps.spec_Lines.f k s=some l:=by
  intro k hk;obtain⟨j,rfl⟩:∃j,k=(2*s.size+3)+j:=⟨k-(2*s.size+3),by omega⟩
  clear hk
  induction j with
  | zero=>exact h
  | succ j ih=>exact PFnTokensGaps.spec_Lines.mono _ _ _ ih
 refine⟨l,hl,fun k hk=>⟨hm k hk,?_,?_⟩⟩
 ·have:=hm k hk
  unfold PFnTokensGaps.spec_Lines.f at this;unfold PFnTokensGaps.spec_Lines.f;rw[(lines_plain k).1];exact this
 ·have:=hm k hk
  unfold PFnTokensGaps.spec_Lines.f at this;unfold PzzLines.lexer_zzLines.f;rw[(lines_zz k).1];exact this
theorem leading_plain:∀k,PFnTokensGaps.spec_leading.l0 k=PFnTokensGaps.spec_leading.l0 k:=by
 intro k
 induction k with
 | zero=>funext a b;rfl
 | succ k ih=>funext a b;simp only[PFnTokensGaps.spec_leading.l0,PFnTokensGaps.spec_leading.l0,ih]
theorem common_plain:∀k,PFnTokensGaps.spec_common.l0 k=PFnTokensGaps.spec_common.l0 k:=by
 intro k
 induction k with
 | zero=>funext a b c;rfl
 | succ k ih=>funext a b c;simp only[PFnTokensGaps.spec_common.l0,PFnTokensGaps.spec_common.l0,ih,PFnTokensGaps.spec_leading.f,PFnTokensGaps.spec_leading.f,leading_plain]
def leadGo (s:ByteArray):Nat→Nat→Nat
 | 0,i=>i
 | d+1,i=>if bt s i=32∨bt s i=9 then leadGo s d (i+1)else i
def lead (s:ByteArray):Nat:=leadGo s s.size 0
theorem leadGo_ge (s:ByteArray):∀d i,i≤leadGo s d i∧leadGo s d i≤i+d:=by
 intro d
 induction d with
 | zero=>intro i;simp[leadGo]
 | succ d ih=>
  intro i;simp only[leadGo];split
  ·have:=ih (i+1);omega
  ·omega
theorem lead_le (s:ByteArray):lead s≤s.size:=by have:=(leadGo_ge s s.size 0).2;unfold lead;omega
theorem leading_go (s:ByteArray) (hs:s.size≤1000000000):∀(d i k:Nat),i+d=s.size→d<k→PFnTokensGaps.spec_leading.l0 k s i=some (leadGo s d i:Int):=by
 intro d
 induction d with
 | zero=>
  intro i k hi hk;obtain⟨k,rfl⟩:∃m,k=m+1:=⟨k-1,by omega⟩
  simp only[PFnTokensGaps.spec_leading.l0,leadGo];rw[if_neg (by omega)]
 | succ d ih=>
  intro i k hi hk;obtain⟨k,rfl⟩:∃m,k=m+1:=⟨k-1,by omega⟩
  have w1:wrap64 ((i:Int)+1)=((i+1:Nat):Int):=by unfold wrap64;omega
  simp only[PFnTokensGaps.spec_leading.l0,leadGo];rw[if_pos (by omega),if_pos (by omega),w1,ih (i+1) k (by omega) (by omega)]
  by_cases e1:bt s i=32
  ·rw[if_pos e1,if_pos (.inl e1)]
  ·rw[if_neg e1]
   by_cases e2:bt s i=9
   ·rw[if_pos e2,if_pos (.inr e2)]
   ·rw[if_neg e2,if_neg (by omega)]
theorem leading_some (s:ByteArray) (hs:s.size≤1000000000) (k:Nat) (hk:s.size<k):PFnTokensGaps.spec_leading.f k s=some (lead s:Int):=by
 have:=leading_go s hs s.size 0 k (by omega) hk
 exact this
theorem leading_some' (s:ByteArray) (hs:s.size≤1000000000) (k:Nat) (hk:s.size<k):PFnTokensGaps.spec_leading.f k s=some (lead s:Int):=by
 have:=leading_some s hs k hk;unfold PFnTokensGaps.spec_leading.f;rw[leading_plain];exact this
def commonGo (l:List ByteArray):Nat→Int→Nat→Int
 | 0,o,_=>o
 | d+1,o,i=>
  let x:=rdOf ByteArray.empty l i
  if lead x<x.size∧(o<0∨(lead x:Int)<o)then commonGo l d (lead x) (i+1)else commonGo l d o (i+1)
def commonN (l:List ByteArray):Int:=commonGo l (l.length-1) (-1) 1
theorem rdOf_le {l:List ByteArray} {n:Nat} (hl:∀x∈l,x.size≤n) (i:Int):(rdOf ByteArray.empty l i).size≤n:=by
 unfold rdOf;rw[List.getD_eq_getElem?_getD];cases h:l[i.toNat]? with
 | none=>simp
 | some x=>exact hl x (List.mem_of_getElem? h)
theorem common_go (n:Nat) (hn:n≤1000000000) (l:List ByteArray) (hl:∀x∈l,x.size≤n) (hlen:l.length≤1000000001):∀(d i k:Nat) (o:Int),i+d=l.length→d+n+1<k→PFnTokensGaps.spec_common.l0 k l o i=some (mx (commonGo l d o i) 0):=by
 intro d
 induction d with
 | zero=>
  intro i k o hi hk;obtain⟨k,rfl⟩:∃m,k=m+1:=⟨k-1,by omega⟩
  simp only[PFnTokensGaps.spec_common.l0,commonGo];rw[if_neg (by omega)]
 | succ d ih=>
  intro i k o hi hk;obtain⟨k,rfl⟩:∃m,k=m+1:=⟨k-1,by omega⟩
  have w1:wrap64 ((i:Int)+1)=((i+1:Nat):Int):=by unfold wrap64;omega
  have hx:=rdOf_le hl (i:Int);simp only[PFnTokensGaps.spec_common.l0,commonGo];rw[if_pos (by omega),if_pos (by omega),leading_some _ (by omega) k (by omega)]
  simp only[Option.bind_some,w1,ih (i+1) k _ (by omega) (by omega)]
  by_cases e1:lead (rdOf ByteArray.empty l i)<(rdOf ByteArray.empty l i).size
  ·rw[if_pos (by omega)]
   by_cases e2:o<0
   ·rw[if_pos e2,if_pos ⟨e1,.inl e2⟩]
   ·rw[if_neg e2]
    by_cases e3:(lead (rdOf ByteArray.empty l i):Int)<o
    ·rw[if_pos e3,if_pos ⟨e1,.inr e3⟩]
    ·rw[if_neg e3,if_neg (by omega)]
  ·rw[if_neg (by omega),if_neg (fun h=>e1 h.1)]
theorem common_some {s:ByteArray} (hs:s.size≤1000000000) {l:List ByteArray} (hl:LinesOf s l) (k:Nat) (hk:2*s.size+4<k):PFnTokensGaps.spec_common.f k l=some (mx (commonN l) 0):=by
 have h1:=hl.1;have h2:=hl.2.1;exact common_go s.size hs l hl.2.2 (by omega) (l.length-1) 1 k (-1) (by omega) (by omega)
theorem common_some' {s:ByteArray} (hs:s.size≤1000000000) {l:List ByteArray} (hl:LinesOf s l) (k:Nat) (hk:2*s.size+4<k):PFnTokensGaps.spec_common.f k l=some (mx (commonN l) 0):=by
 have:=common_some hs hl k hk;unfold PFnTokensGaps.spec_common.f;rw[common_plain];exact this
def plainGo (l:List ByteArray) (n:Int):Nat→Nat→Bool
 | 0,_=>true
 | d+1,i=>
  let x:=rdOf ByteArray.empty l i
  if lead x=x.size∧0<x.size∧(x.size:Int)<n then false else plainGo l n d (i+1)
def plainL (l:List ByteArray):Bool:=
 if 0<mx (commonN l) 0∧lead (rdOf ByteArray.empty l 0)<(rdOf ByteArray.empty l 0).size then false else plainGo l (mx (commonN l) 0) (l.length-1) 1
theorem plain_go (n:Nat) (hn:n≤1000000000) (l:List ByteArray) (hl:∀x∈l,x.size≤n) (hlen:l.length≤1000000001) (c:Int):∀(d i k:Nat),i+d=l.length→d+n+1<k→PFnTokensGaps.spec_plainBlock.l0 k l c i=some (plainGo l c d i):=by
 intro d
 induction d with
 | zero=>
  intro i k hi hk;obtain⟨k,rfl⟩:∃m,k=m+1:=⟨k-1,by omega⟩
  simp only[PFnTokensGaps.spec_plainBlock.l0,plainGo];rw[if_neg (by omega)]
 | succ d ih=>
  intro i k hi hk;obtain⟨k,rfl⟩:∃m,k=m+1:=⟨k-1,by omega⟩
  have w1:wrap64 ((i:Int)+1)=((i+1:Nat):Int):=by unfold wrap64;omega
  have hx:=rdOf_le hl (i:Int);simp only[PFnTokensGaps.spec_plainBlock.l0,plainGo];rw[if_pos (by omega),if_pos (by omega),leading_some _ (by omega) k (by omega)]
  simp only[Option.bind_some,w1,ih (i+1) k (by omega) (by omega)]
  by_cases e1:lead (rdOf ByteArray.empty l i)=(rdOf ByteArray.empty l i).size
  ·rw[if_pos (by omega)]
   by_cases e2:0<(rdOf ByteArray.empty l i).size
   ·rw[if_pos (by omega)]
    by_cases e3:((rdOf ByteArray.empty l i).size:Int)<c
    ·rw[if_pos e3,if_pos ⟨e1,e2,e3⟩]
    ·rw[if_neg e3,if_neg (fun h=>e3 h.2.2)]
   ·rw[if_neg (by omega),if_neg (fun h=>e2 h.2.1)]
  ·rw[if_neg (by omega),if_neg (fun h=>e1 h.1)]
theorem plain_some {s:ByteArray} (hs:s.size≤1000000000) {l:List ByteArray} (hl:LinesOf s l) (hk:∀k,2*s.size+2<k→PFnTokensGaps.spec_Lines.f k s=some l):PFnTokensGaps.spec_plainBlock.f (2*s.size+9) s=some (plainL l):=by
 have h1:=hl.1;have h2:=hl.2.1;unfold PFnTokensGaps.spec_plainBlock.f;rw[hk _ (by omega)]
 simp only[Option.bind_some];rw[common_some hs hl _ (by omega)]
 simp only[Option.bind_some];have hj:∀b,PFnTokensGaps.spec_plainBlock.j0 (2*s.size+9) l (mx (commonN l) 0) b=some (if b=true then false else plainGo l (mx (commonN l) 0) (l.length-1) 1):=by
  intro b;simp only[PFnTokensGaps.spec_plainBlock.j0];have:=plain_go s.size hs l hl.2.2 (by omega) (mx (commonN l) 0) (l.length-1) 1 (2*s.size+8) (by omega) (by omega)
  cases b with
  | true=>rfl
  | false=>exact this
 have hx:=rdOf_le hl.2.2 0;unfold plainL
 by_cases e1:mx (commonN l) 0>0
 ·rw[if_pos e1,if_pos (by omega),leading_some _ (by omega) _ (by omega)]
  simp only[Option.bind_some];rw[hj]
  by_cases e2:lead (rdOf ByteArray.empty l 0)<(rdOf ByteArray.empty l 0).size
  ·rw[if_pos (by simp;omega),if_pos ⟨e1,e2⟩]
  ·rw[if_neg (by simp;omega),if_neg (fun h=>e2 h.2)]
 ·rw[if_neg e1,hj,if_neg (by decide),if_neg (fun h=>e1 h.1)]
theorem plain_calls (s:ByteArray) (hs:s.size≤1000000000):∃l,LinesOf s l∧(∀k,2*s.size+2<k→PFnTokensGaps.spec_Lines.f k s=some l∧PFnTokensGaps.spec_Lines.f k s=some l∧PzzLines.lexer_zzLines.f k s=some l)∧
  ∀w,Calls Tryz.prog 61 #[.string s] w fun e w'=>e = .returned (.bool (plainL l))∧Below w.heap.size w w':=by
 obtain⟨l,hl,hk⟩:=lines_some s hs;exact⟨l,hl,hk,fun w=>PFnTokensGaps.spec_plainBlock.calls _ s _ w (plain_some hs hl (fun k h=>(hk k h).1))⟩
def cutLine (c:Int) (x:ByteArray):ByteArray:=x.extract (mn c (x.size:Int)).toNat x.size
def stripGo (c:Int):Nat→Nat→List ByteArray→List ByteArray
 | 0,_,l=>l
 | d+1,i,l=>stripGo c d (i+1) (l.set i (cutLine c (rdOf ByteArray.empty l i)))
def dropHead:List ByteArray→List ByteArray
 | []=>[]
 | x::xs=>if lead x=x.size then dropHead xs else x::xs
def dropTail:Nat→List ByteArray→List ByteArray
 | 0,l=>l
 | d+1,l=>if 0<l.length∧lead (rdOf ByteArray.empty l (l.length-1:Nat))=(rdOf ByteArray.empty l (l.length-1:Nat)).size then dropTail d (l.take (l.length-1))else l
def joinGo (l:List ByteArray):Nat→Nat→ByteArray→ByteArray
 | 0,_,o=>o
 | d+1,i,o=>joinGo l d (i+1) ((if 0<i then o++(⟨#[10]⟩:ByteArray)else o)++rdOf ByteArray.empty l i)
def joinL (l:List ByteArray):ByteArray:=joinGo l l.length 0 ⟨#[]⟩
def valueL (l:List ByteArray):ByteArray:=
 let m:=dropHead (stripGo (mx (commonN l) 0) (l.length-1) 1 l)
 joinL (dropTail m.length m)
variable {n:Nat}
theorem join_go (hn:n≤1000000) (l:List ByteArray) (hl:∀x∈l,x.size≤n) (hlen:l.length≤1000001):∀(d i k:Nat) (o:ByteArray),i+d=l.length→d<k→o.size≤i*(n+1)→PFnTokensGaps.spec_BlockValue.l3 k l o i=some (joinGo l d i o):=by
 intro d
 induction d with
 | zero=>
  intro i k o hi hk ho;obtain⟨k,rfl⟩:∃m,k=m+1:=⟨k-1,by omega⟩
  simp only[PFnTokensGaps.spec_BlockValue.l3,joinGo];rw[if_neg (by omega)]
 | succ d ih=>
  intro i k o hi hk ho;obtain⟨k,rfl⟩:∃m,k=m+1:=⟨k-1,by omega⟩
  have w1:wrap64 ((i:Int)+1)=((i+1:Nat):Int):=by unfold wrap64;omega
  have hx:=rdOf_le hl (i:Int);have hb:i*(n+1)≤1000001*1000001:=Nat.mul_le_mul (by omega) (by omega)
  have hs:(i+1)*(n+1)=i*(n+1)+(n+1):=Nat.succ_mul _ _;simp only[PFnTokensGaps.spec_BlockValue.l3,joinGo];rw[if_pos (by omega)]
  by_cases e:0<i
  ·rw[if_pos (by omega),if_pos e,if_pos (by omega),if_pos (by omega),if_pos (by rw[ByteArray.size_append];show o.size+1+_≤_;omega),w1]
   exact ih (i+1) k _ (by omega) (by omega) (by rw[ByteArray.size_append,ByteArray.size_append];show o.size+1+_≤_;omega)
  ·rw[if_neg (by omega),if_neg e,if_pos (by omega),if_pos (by omega),w1]
   exact ih (i+1) k _ (by omega) (by omega) (by rw[ByteArray.size_append];omega)
theorem tail_go (hn:n≤1000000):∀(d k:Nat) (l:List ByteArray),(∀x∈l,x.size≤n)→l.length≤1000001→l.length=d→2*d+n+3<k→PFnTokensGaps.spec_BlockValue.l2 k l=some (joinL (dropTail d l)):=by
 intro d
 induction d with
 | zero=>
  intro k l hl hlen hd hk;obtain⟨k,rfl⟩:∃m,k=m+2:=⟨k-2,by omega⟩
  simp only[PFnTokensGaps.spec_BlockValue.l2,PFnTokensGaps.spec_BlockValue.j4,dropTail];rw[if_neg (by omega)]
  exact join_go hn l hl hlen l.length 0 k _ (by omega) (by omega) (show(0:Nat)≤_ from Nat.zero_le _)
 | succ d ih=>
  intro k l hl hlen hd hk;obtain⟨k,rfl⟩:∃m,k=m+2:=⟨k-2,by omega⟩
  have w1:wrap64 ((l.length:Int)-1)=((l.length-1:Nat):Int):=by unfold wrap64;omega
  have hx:=rdOf_le hl ((l.length-1:Nat):Int);simp only[PFnTokensGaps.spec_BlockValue.l2,PFnTokensGaps.spec_BlockValue.j4,dropTail];rw[if_pos (by omega),w1,if_pos (by omega),if_pos (by omega),leading_some' _ (by omega) _ (by omega)]
  simp only[Option.bind_some]
  by_cases e:lead (rdOf ByteArray.empty l (l.length-1:Nat))=(rdOf ByteArray.empty l (l.length-1:Nat)).size
  ·have e':0<l.length∧lead (rdOf ByteArray.empty l (l.length-1:Nat))=(rdOf ByteArray.empty l (l.length-1:Nat)).size:=⟨by omega,e⟩
   rw[if_pos (by omega),if_pos e',if_pos (by omega)]
   rw[Int.toNat_natCast];refine ih (k+1) _ (fun x hx=>hl x (List.mem_of_mem_take hx)) (by rw[List.length_take];omega) (by rw[List.length_take];omega) (by omega)
  ·rw[if_neg (by omega),if_neg (fun h=>e h.2)]
   exact join_go hn l hl hlen l.length 0 k _ (by omega) (by omega) (show(0:Nat)≤_ from Nat.zero_le _)
theorem head_go (hn:n≤1000000):∀(l:List ByteArray) (k:Nat),(∀x∈l,x.size≤n)→l.length≤1000001→4*l.length+n+6<k→PFnTokensGaps.spec_BlockValue.l1 k l=some (joinL (dropTail (dropHead l).length (dropHead l))):=by
 intro l
 induction l with
 | nil=>
  intro k hl hlen hk;obtain⟨k,rfl⟩:∃m,k=m+2:=⟨k-2,by omega⟩
  simp only[PFnTokensGaps.spec_BlockValue.l1,PFnTokensGaps.spec_BlockValue.j2,dropHead];rw[if_neg (by simp)]
  exact tail_go hn 0 k [] hl hlen rfl (by simp at hk;omega)
 | cons x xs ih=>
  intro k hl hlen hk;obtain⟨k,rfl⟩:∃m,k=m+2:=⟨k-2,by omega⟩
  have hx:x.size≤n:=hl x (by simp)
  have hr:rdOf ByteArray.empty (x::xs) 0=x:=rfl;simp only[List.length_cons]at hlen hk;simp only[PFnTokensGaps.spec_BlockValue.l1,PFnTokensGaps.spec_BlockValue.j2,dropHead,hr];rw[if_pos (by simp only[List.length_cons];omega),if_pos (by simp only[List.length_cons];omega),leading_some' _ (by omega) _ (by omega)]
  simp only[Option.bind_some]
  by_cases e:lead x=x.size
  ·rw[if_pos (by omega),if_pos (by simp only[List.length_cons];omega),if_pos e]
   exact ih (k+1) (fun y hy=>hl y (by simp[hy])) (by omega) (by omega)
  ·rw[if_neg (by omega),if_neg e]
   exact tail_go hn _ k _ hl (by simp;omega) rfl (by simp;omega)
theorem strip_mem {l:List ByteArray} (hl:∀x∈l,x.size≤n) (i:Nat) (c:Int):∀x∈l.set i (cutLine c (rdOf ByteArray.empty l i)),x.size≤n:=by
 intro x hx;rcases List.mem_or_eq_of_mem_set hx with h|rfl
 ·exact hl x h
 ·exact Nat.le_trans (extract_le _ _ _) (rdOf_le hl _)
theorem strip_go (hn:n≤1000000) (c:Int) (hc:0≤c):∀(d i k:Nat) (l:List ByteArray),(∀x∈l,x.size≤n)→l.length≤1000001→i+d=l.length→d+4*l.length+n+7<k→
  PFnTokensGaps.spec_BlockValue.l0 k l c i=some (joinL (dropTail (dropHead (stripGo c d i l)).length (dropHead (stripGo c d i l)))):=by
 intro d
 induction d with
 | zero=>
  intro i k l hl hlen hi hk;obtain⟨k,rfl⟩:∃m,k=m+1:=⟨k-1,by omega⟩
  simp only[PFnTokensGaps.spec_BlockValue.l0,stripGo];rw[if_neg (by omega)]
  exact head_go hn l k hl hlen (by omega)
 | succ d ih=>
  intro i k l hl hlen hi hk;obtain⟨k,rfl⟩:∃m,k=m+1:=⟨k-1,by omega⟩
  have w1:wrap64 ((i:Int)+1)=((i+1:Nat):Int):=by unfold wrap64;omega
  simp only[PFnTokensGaps.spec_BlockValue.l0,stripGo];rw[if_pos (by omega),if_pos (by omega),if_pos (by unfold mn;split<;>omega),if_pos (by unfold mn;split<;>omega),w1]
  exact ih (i+1) k _ (strip_mem hl i c) (by rw[List.length_set];omega) (by rw[List.length_set];omega) (by rw[List.length_set];omega)
theorem value_some {s:ByteArray} (hs:s.size≤1000000) {l:List ByteArray} (hl:LinesOf s l) (hk:∀k,2*s.size+2<k→PFnTokensGaps.spec_Lines.f k s=some l):PFnTokensGaps.spec_BlockValue.f (8*s.size+30) s=some (valueL l):=by
 have h1:=hl.1;have h2:=hl.2.1;unfold PFnTokensGaps.spec_BlockValue.f;rw[hk _ (by omega)]
 simp only[Option.bind_some];rw[common_some' (by omega) hl _ (by omega)]
 simp only[Option.bind_some];exact strip_go hs _ (by unfold mx;split<;>omega) (l.length-1) 1 _ l hl.2.2 (by omega) (by omega) (by omega)
end Go.Proofs.YtjolkdnfbmkjiaaGreatDoor.LinesP
namespace Go.Proofs.YtjolkdnfbmkjiaaGreatDoor.NameP
open Go.RowKit PFnTokensGaps Go.Proofs.YtjolkdnfbmkjiaaGreatDoorW.PrintWords Go.Proofs.YtjolkdnfbmkjiaaGreatDoorW.PrintLast
theorem ite_of {α:Type} {c:Prop} [Decidable c] {a b:Option α} {P:Option α→Prop} (h1:c→P a) (h2:¬c→P b):P (if c then a else b):=by
 by_cases h:c
 ·rw[if_pos h];exact h1 h
 ·rw[if_neg h];exact h2 h
open Go.Proofs.YtjolkdnfbmkjiaaGreatDoor.Rel Go.Proofs.YtjolkdnfbmkjiaaGreatDoor.Lex
theorem dec2 (n b0 b1 b2 b3:Nat) (h0:194≤b0) (h:b0<224) (hn:2≤n) (h1:128≤b1) (h1':b1≤191):Lib.decodeN n b0 b1 b2 b3=((b0-192)*64+b1-128,2):=by
 unfold Lib.decodeN;rw[if_neg (by omega),if_pos ⟨by omega,by omega,by omega⟩,if_pos (by omega)]
 exact Prod.ext (by dsimp only;omega) rfl
theorem dec3 (n b0 b1 b2 b3:Nat) (h0:224≤b0) (h:b0<240) (hn:3≤n) (h1:128≤b1) (h1':b1≤191) (h2:128≤b2) (h2':b2≤191) (hc:2048≤((b0-224)*64+b1-128)*64+b2-128)
  (hs:((b0-224)*64+b1-128)*64+b2-128<55296∨57344≤((b0-224)*64+b1-128)*64+b2-128):Lib.decodeN n b0 b1 b2 b3=(((b0-224)*64+b1-128)*64+b2-128,3):=by
 unfold Lib.decodeN;rw[if_neg (by omega),if_neg (by omega),if_pos ⟨by omega,⟨by omega,by omega⟩,by omega,by omega⟩,if_pos (by omega)]
 exact Prod.ext (by dsimp only;omega) rfl
theorem dec4 (n b0 b1 b2 b3:Nat) (h0:240≤b0) (h:b0<245) (hn:4≤n) (h1:128≤b1) (h1':b1≤191) (h2:128≤b2) (h2':b2≤191) (h3:128≤b3) (h3':b3≤191)
  (hc:65536≤(((b0-240)*64+b1-128)*64+b2-128)*64+b3-128) (hs:(((b0-240)*64+b1-128)*64+b2-128)*64+b3-128≤1114111):Lib.decodeN n b0 b1 b2 b3=((((b0-240)*64+b1-128)*64+b2-128)*64+b3-128,4):=by
 unfold Lib.decodeN;rw[if_neg (by omega),if_neg (by omega),if_neg (by omega),if_pos ⟨by omega,⟨by omega,by omega⟩,⟨by omega,by omega⟩,by omega,by omega⟩,if_pos (by omega)]
 exact Prod.ext (by dsimp only;omega) rfl
def Same (s:ByteArray) (p:Nat) (o:Option (Int×Int)):Prop:=∃c n:Int,o=some (c,n)∧(n=0∨(runeOf s p=(c,n)∧1≤n∧n≤4∧p+n≤s.size))
theorem same_zero (s:ByteArray) (p:Nat):Same s p (some (0,0)):=⟨0,0,rfl,.inl rfl⟩
theorem l0_more (s:ByteArray) (hs:s.size≤200000) (p:Nat) (n x7:Int) (hn:0≤n) (hn4:n≤4) (he:p+n≤s.size) (k:Nat) (x4 x8:Int) (h8:p<x8) (hlt:x8<p+n) (h4:0≤x4) (h4':x4≤100000000)
  (h:128≤bt s x8→bt s x8≤191→Same s p (spec_Point.l0 k s p (x4*64+bt s x8-128) n x7 (x8+1))):Same s p (spec_Point.l0 (k+1) s p x4 n x7 x8):=by
 have hw:wrap64 (p+n)=p+n:=by unfold wrap64;omega
 have hw2:wrap64 (x8+1)=x8+1:=by unfold wrap64;omega
 simp only[spec_Point.l0];rw[hw,if_pos hlt,if_pos (by omega),if_pos (by omega)]
 refine ite_of (fun _=>same_zero s p) fun h1=>ite_of (fun _=>same_zero s p) fun h2=>?_;have e:wrap64 ((wrap64 ((wrap64 (x4*64))+(wrap64 (bt s x8))))-128)=x4*64+bt s x8-128:=by unfold wrap64;omega
 rw[e,hw2];exact h (by omega) (by omega)
theorem l0_done (s:ByteArray) (hs:s.size≤200000) (p:Nat) (n x7:Int) (hn:1≤n) (hn4:n≤4) (he:p+n≤s.size) (k:Nat) (x4:Int)
  (h:x7≤x4→x4≤1114111→(x4<55296∨57344≤x4)→runeOf s p=(x4,n)):Same s p (spec_Point.l0 (k+1) s p x4 n x7 (p+n)):=by
 have hw:wrap64 (p+n)=p+n:=by unfold wrap64;omega
 simp only[spec_Point.l0];rw[hw,if_neg (by omega)]
 refine ite_of (fun _=>same_zero s p) fun h1=>ite_of (fun _=>same_zero s p) fun h2=>ite_of (fun h3=>ite_of (fun _=>same_zero s p) fun h4=>?_) fun h3=>?_
 ·exact⟨_,_,rfl,.inr ⟨h (by omega) (by omega) (by omega),hn,hn4,he⟩⟩
 ·exact⟨_,_,rfl,.inr ⟨h (by omega) (by omega) (by omega),hn,hn4,he⟩⟩
theorem j2_same (s:ByteArray) (hs:s.size≤200000) (p:Nat) (n x4 x7:Int) (hp:p<s.size) (k:Nat) (hn:0≤n) (hn4:n≤4) (h:1≤n→p+n≤s.size→Same s p (spec_Point.l0 k s p x4 n x7 (p+1))):Same s p (spec_Point.j2 (k+2) s p x4 n x7):=by
 simp only[spec_Point.j2,spec_Point.j3];refine ite_of (fun _=>?_) fun h0=>?_
 ·rw[if_pos trivial];exact same_zero s p
 ·have hw:wrap64 (p+n)=p+n:=by unfold wrap64;omega
  have hw1:wrap64 (p+1:Int)=p+1:=by unfold wrap64;omega
  rw[hw];refine ite_of (fun _=>same_zero s p) fun hh=>?_;have h':¬p+n>s.size:=by simpa using hh
  rw[hw1];exact h (by omega) (by omega)
theorem point_same (s:ByteArray) (hs:s.size≤200000) (p:Nat) (hp:p<s.size):Same s p (spec_Point.f 12 s p):=by
 have hr:=bt_range s p;have hw:wrap64 (bt s p)=bt s p:=by unfold wrap64;omega
 unfold spec_Point.f;rw[if_pos (by omega),if_pos (by omega),hw]
 refine ite_of (fun h=>⟨_,_,rfl,.inr ⟨rune_small hp h,by omega,by omega,by omega⟩⟩) fun h128=>?_
 obtain⟨b,hb,hrune⟩:=rune_bytes s p hp h128;have hb0:=hb 0 (by omega)
 simp only[Nat.add_zero]at hb0;have none_:∀k,Same s p (spec_Point.j2 (k+2) s p 0 0 0):=fun k=>j2_same s hs p 0 0 0 hp k (by omega) (by omega) (fun h=>by omega)
 have h4:240≤bt s p→bt s p<245→∀k,Same s p (spec_Point.j2 (k+6) s p (wrap64 (bt s p-240)) 4 65536):=by
  intro h0 h1 k;have w1:wrap64 (bt s p-240)=bt s p-240:=by unfold wrap64;omega
  rw[w1];refine j2_same s hs p 4 _ _ hp (k+4) (by omega) (by omega) fun _ he=>?_
  refine l0_more s hs p 4 _ (by omega) (by omega) he _ _ _ (by omega) (by omega) (by omega) (by omega) fun a1 a2=>?_
  have e1:=hb 1 (by omega)
  have e2:=hb 2 (by omega)
  have e3:=hb 3 (by omega)
  push_cast at e1 e2 e3;refine l0_more s hs p 4 _ (by omega) (by omega) he _ _ _ (by omega) (by omega) (by omega) (by omega) fun a3 a4=>?_
  refine l0_more s hs p 4 _ (by omega) (by omega) he _ _ _ (by omega) (by omega) (by omega) (by omega) fun a5 a6=>?_
  have x3:(p:Int)+1+1+1+1=p+4:=by omega
  rw[x3];refine l0_done s hs p 4 _ (by omega) (by omega) he _ _ fun c1 c2 c3=>?_
  rw[hrune,dec4 _ _ _ _ _ (by omega) (by omega) (by omega) (by omega) (by omega) (by omega) (by omega) (by omega) (by omega) (by omega) (by omega)]
  exact Prod.ext (by show(((((b 0-240)*64+b 1-128)*64+b 2-128)*64+b 3-128:Nat):Int)=_;omega) rfl
 have h3:224≤bt s p→bt s p<240→∀k,Same s p (spec_Point.j2 (k+5) s p (wrap64 (bt s p-224)) 3 2048):=by
  intro h0 h1 k;have w1:wrap64 (bt s p-224)=bt s p-224:=by unfold wrap64;omega
  rw[w1];refine j2_same s hs p 3 _ _ hp (k+3) (by omega) (by omega) fun _ he=>?_
  refine l0_more s hs p 3 _ (by omega) (by omega) he _ _ _ (by omega) (by omega) (by omega) (by omega) fun a1 a2=>?_
  have e1:=hb 1 (by omega)
  have e2:=hb 2 (by omega)
  push_cast at e1 e2;have x2:(p:Int)+1+1+1=p+3:=by omega
  refine l0_more s hs p 3 _ (by omega) (by omega) he _ _ _ (by omega) (by omega) (by omega) (by omega) fun a3 a4=>?_
  rw[x2];refine l0_done s hs p 3 _ (by omega) (by omega) he _ _ fun c1 c2 c3=>?_
  rw[hrune,dec3 _ _ _ _ _ (by omega) (by omega) (by omega) (by omega) (by omega) (by omega) (by omega) (by omega) (by omega)]
  exact Prod.ext (by show((((b 0-224)*64+b 1-128)*64+b 2-128:Nat):Int)=_;omega) rfl
 have h2:194≤bt s p→bt s p<224→∀k,Same s p (spec_Point.j2 (k+4) s p (wrap64 (bt s p-192)) 2 128):=by
  intro h0 h1 k;have w1:wrap64 (bt s p-192)=bt s p-192:=by unfold wrap64;omega
  rw[w1];refine j2_same s hs p 2 _ _ hp (k+2) (by omega) (by omega) fun _ he=>?_
  refine l0_more s hs p 2 _ (by omega) (by omega) he _ _ _ (by omega) (by omega) (by omega) (by omega) fun a1 a2=>?_
  have e1:=hb 1 (by omega)
  push_cast at e1;have x1:(p:Int)+1+1=p+2:=by omega
  rw[x1];refine l0_done s hs p 2 _ (by omega) (by omega) he _ _ fun c1 c2 c3=>?_
  rw[hrune,dec2 _ _ _ _ _ (by omega) (by omega) (by omega) (by omega) (by omega)]
  exact Prod.ext (by show(((b 0-192)*64+b 1-128:Nat):Int)=_;omega) rfl
 have k1:∀q:Bool,(q=true→224≤bt s p∧bt s p<240)→Same s p (spec_Point.j1 11 s p 0 0 (bt s p) 0 q):=by
  intro q hq;simp only[spec_Point.j1];exact ite_of (fun e=>h3 (hq e).1 (hq e).2 5) fun _=>ite_of (fun a=>ite_of (fun c=>h4 (by omega) c 4) fun _=>none_ 8) fun _=>none_ 8
 have k0:∀q:Bool,(q=true→194≤bt s p∧bt s p<224)→Same s p (spec_Point.j0 12 s p 0 0 (bt s p) 0 q):=by
  intro q hq;simp only[spec_Point.j0];exact ite_of (fun e=>h2 (hq e).1 (hq e).2 7) fun _=>ite_of (fun a=>k1 _ (fun e=>⟨by omega,of_decide_eq_true e⟩)) fun _=>k1 _ (fun e=>by cases e)
 exact ite_of (fun a=>k0 _ (fun e=>⟨by omega,of_decide_eq_true e⟩)) fun _=>k0 _ (fun e=>by cases e)
end Go.Proofs.YtjolkdnfbmkjiaaGreatDoor.NameP
namespace Go.Proofs.YtjolkdnfbmkjiaaGreatDoor.LinesP
open Go.RowKit Go.Proofs.YtjolkdnfbmkjiaaGreatDoorW.PrintWords Go.Proofs.YtjolkdnfbmkjiaaGreatDoorW.PrintLast Go.Proofs.YtjolkdnfbmkjiaaGreatDoorW.PrintMore
def icommonGo (l:List ByteArray):Nat→Int→Nat→Int
 | 0,o,_=>o
 | d+1,o,i=>
  let x:=rdOf ByteArray.empty l i
  if lead x<x.size∧(o = -1∨(lead x:Int)<o)then(if lead x=0 then 0 else icommonGo l d (lead x) (i+1))else icommonGo l d o (i+1)
theorem common_zero (l:List ByteArray):∀d i,commonGo l d 0 i=0:=by
 intro d
 induction d with
 | zero=>intro i;rfl
 | succ d ih=>
  intro i;simp only[commonGo];rw[if_neg (by omega)]
  exact ih _
theorem icommon_eq (l:List ByteArray):∀d o i,(o = -1∨0≤o)→icommonGo l d o i=commonGo l d o i:=by
 intro d
 induction d with
 | zero=>intros;rfl
 | succ d ih=>
  intro o i ho;simp only[icommonGo,commonGo]
  by_cases e:lead (rdOf ByteArray.empty l i)<(rdOf ByteArray.empty l i).size∧(o = -1∨(lead (rdOf ByteArray.empty l i):Int)<o)
  ·have e':lead (rdOf ByteArray.empty l i)<(rdOf ByteArray.empty l i).size∧(o<0∨(lead (rdOf ByteArray.empty l i):Int)<o):=⟨e.1,by omega⟩
   rw[if_pos e,if_pos e']
   by_cases z:lead (rdOf ByteArray.empty l i)=0
   ·rw[if_pos z,z];exact(common_zero _ _ _).symm
   ·rw[if_neg z];exact ih _ _ (by omega)
  ·rw[if_neg e,if_neg (fun h=>e ⟨h.1,by omega⟩)];exact ih _ _ ho
theorem rdOf_some {l:List ByteArray} {i:Nat} {x:ByteArray} (h:l[i]?=some x):rdOf ByteArray.empty l i=x:=by
 unfold rdOf;rw[List.getD_eq_getElem?_getD,Int.toNat_natCast,h];rfl
def icutLine (c:Int) (x:ByteArray):ByteArray:=if (x.size:Int)<c then x else x.extract c.toNat x.size
def istripGo (c:Int):Nat→Nat→List ByteArray→List ByteArray
 | 0,_,l=>l
 | d+1,i,l=>istripGo c d (i+1) (l.set i (icutLine c (rdOf ByteArray.empty l i)))
theorem strip_get (c:Int):∀d i l j,i+d≤l.length→(stripGo c d i l)[j]?=if i≤j∧j<i+d then(l[j]?).map (cutLine c)else l[j]?:=by
 intro d
 induction d with
 | zero=>intro i l j _;simp only[stripGo];rw[if_neg (by omega)]
 | succ d ih=>
  intro i l j h;simp only[stripGo];rw[ih (i+1) _ j (by rw[List.length_set];omega),List.getElem?_set]
  by_cases e:i=j
  ·subst e
   rw[if_neg (by omega),if_pos rfl,if_pos (by omega),if_pos (by omega),List.getElem?_eq_getElem (by omega),rdOf_some (List.getElem?_eq_getElem (by omega))]
   rfl
  ·rw[if_neg e]
   by_cases e2:i+1≤j∧j<i+1+d
   ·rw[if_pos e2,if_pos (by omega)]
   ·rw[if_neg e2,if_neg (by omega)]
theorem istrip_get (c:Int):∀d i l j,i+d≤l.length→(istripGo c d i l)[j]?=if i≤j∧j<i+d then(l[j]?).map (icutLine c)else l[j]?:=by
 intro d
 induction d with
 | zero=>intro i l j _;simp only[istripGo];rw[if_neg (by omega)]
 | succ d ih=>
  intro i l j h;simp only[istripGo];rw[ih (i+1) _ j (by rw[List.length_set];omega),List.getElem?_set]
  by_cases e:i=j
  ·subst e
   rw[if_neg (by omega),if_pos rfl,if_pos (by omega),if_pos (by omega),List.getElem?_eq_getElem (by omega),rdOf_some (List.getElem?_eq_getElem (by omega))]
   rfl
  ·rw[if_neg e]
   by_cases e2:i+1≤j∧j<i+1+d
   ·rw[if_pos e2,if_pos (by omega)]
   ·rw[if_neg e2,if_neg (by omega)]
theorem leadGo_all (s:ByteArray):∀d i,leadGo s d i=i+d↔∀j:Nat,i≤j→j<i+d→(bt s j=32∨bt s j=9):=by
 intro d
 induction d with
 | zero=>intro i;simp only[leadGo];exact⟨fun _ j h1 h2=>by omega,fun _=>rfl⟩
 | succ d ih=>
  intro i;simp only[leadGo]
  by_cases e:bt s i=32∨bt s i=9
  ·rw[if_pos e,show i+(d+1)=(i+1)+d by omega,ih (i+1)]
   constructor
   ·intro h j h1 h2
    rcases Nat.lt_or_ge i j with h3|h3
    ·exact h j h3 h2
    ·obtain rfl:j=i:=by omega
     exact e
   ·intro h j h1 h2
    exact h j (by omega) h2
  ·rw[if_neg e]
   constructor
   ·intro h;omega
   ·intro h;exact absurd (h i (Nat.le_refl _) (by omega)) e
theorem lead_all (s:ByteArray):lead s=s.size↔∀j:Nat,j<s.size→(bt s j=32∨bt s j=9):=by
 have:=leadGo_all s s.size 0;simp only[Nat.zero_add,Nat.zero_le,forall_const]at this;exact this
theorem bt_natQ (s:ByteArray) (p:Nat) (h:p<s.size):bt s p=((s[p]'h).toNat:Int):=by simp[bt,h]
theorem bt_extract (s:ByteArray) (a b j:Nat) (hj:j<(s.extract a b).size):bt (s.extract a b) j=bt s (a+j:Nat):=by
 have h:=hj;rw[ByteArray.size_extract]at h;have:=ByteArray.getElem_extract (b:=s) (start:=a) (stop:=b) (i:=j) hj;rw[bt_natQ _ _ hj,bt_natQ s (a+j) (by omega),this]
theorem blank_cut (x:ByteArray) (a:Nat) (h:lead x=x.size):lead (x.extract a x.size)=(x.extract a x.size).size:=by
 rw[lead_all]at h ⊢;intro j hj;rw[bt_extract _ _ _ _ hj];rw[ByteArray.size_extract]at hj;exact h _ (by omega)
theorem common_le (l:List ByteArray):∀d o i,(0≤o→commonGo l d o i≤o)∧∀j:Nat,i≤j→j<i+d→lead (rdOf ByteArray.empty l j)<(rdOf ByteArray.empty l j).size→commonGo l d o i≤lead (rdOf ByteArray.empty l j):=by
 intro d
 induction d with
 | zero=>intro o i;exact⟨fun _=>Int.le_refl _,fun j h1 h2=>by omega⟩
 | succ d ih=>
  intro o i;simp only[commonGo]
  by_cases e:lead (rdOf ByteArray.empty l i)<(rdOf ByteArray.empty l i).size∧(o<0∨(lead (rdOf ByteArray.empty l i):Int)<o)
  ·rw[if_pos e]
   obtain⟨h1,h2⟩:=ih (lead (rdOf ByteArray.empty l i)) (i+1);have h1:=h1 (by omega)
   refine⟨fun ho=>by omega,fun j j1 j2 hj=>?_⟩
   rcases Nat.lt_or_ge i j with h3|h3
   ·exact h2 j h3 (by omega) hj
   ·obtain rfl:j=i:=by omega
    exact h1
  ·rw[if_neg e]
   obtain⟨h1,h2⟩:=ih o (i+1);refine⟨h1,fun j j1 j2 hj=>?_⟩;rcases Nat.lt_or_ge i j with h3|h3
   ·exact h2 j h3 (by omega) hj
   ·obtain rfl:j=i:=by omega
    have h4:¬(o<0∨(lead (rdOf ByteArray.empty l j):Int)<o):=fun h=>e ⟨hj,h⟩;have:=h1 (by omega)
    omega
theorem plain_all (l:List ByteArray) (n:Int):∀d i,plainGo l n d i=true→∀j:Nat,i≤j→j<i+d→¬(lead (rdOf ByteArray.empty l j)=(rdOf ByteArray.empty l j).size∧0<(rdOf ByteArray.empty l j).size∧((rdOf ByteArray.empty l j).size:Int)<n):=by
 intro d
 induction d with
 | zero=>intro i _ j h1 h2;omega
 | succ d ih=>
  intro i h j h1 h2;simp only[plainGo]at h
  by_cases e:lead (rdOf ByteArray.empty l i)=(rdOf ByteArray.empty l i).size∧0<(rdOf ByteArray.empty l i).size∧((rdOf ByteArray.empty l i).size:Int)<n
  ·rw[if_pos e]at h;cases h
  ·rw[if_neg e]at h
   rcases Nat.lt_or_ge i j with h3|h3
   ·exact ih (i+1) h j h3 (by omega)
   ·obtain rfl:j=i:=by omega
    exact e
def stripI (l:List ByteArray):List ByteArray:=if 0<commonN l then istripGo (commonN l) l.length 0 l else l
def valueI (l:List ByteArray):ByteArray:=
 let m:=dropHead (stripI l)
 joinL (dropTail m.length m)
theorem cut_zero (x:ByteArray):cutLine 0 x=x:=by
 unfold cutLine mn;rw[if_neg (by omega)]
 apply ByteArray.ext;simp
theorem strip_zero (l:List ByteArray) (h:0<l.length):stripGo 0 (l.length-1) 1 l=l:=by
 apply List.ext_getElem?;intro j;rw[strip_get 0 _ _ _ _ (by omega)]
 split
 ·rw[show(cutLine 0)=id from funext cut_zero,Option.map_id];rfl
 ·rfl
theorem drop_eq {l:List ByteArray} (h:0<l.length) (hp:plainL l=true):dropHead (stripI l)=dropHead (stripGo (mx (commonN l) 0) (l.length-1) 1 l):=by
 unfold stripI
 by_cases hc:0<commonN l
 ·have hm:mx (commonN l) 0=commonN l:=by unfold mx;split<;>omega
  unfold plainL at hp;rw[hm]at hp ⊢;rw[if_pos hc];have hb:lead (rdOf ByteArray.empty l 0)=(rdOf ByteArray.empty l 0).size:=by
   by_cases e:lead (rdOf ByteArray.empty l 0)<(rdOf ByteArray.empty l 0).size
   ·rw[if_pos ⟨hc,e⟩]at hp;cases hp
   ·have:=lead_le (rdOf ByteArray.empty l 0);omega
  rw[if_neg (fun hh=>by omega)]at hp
  have hpl:=plain_all l _ _ _ hp;have hcl:=(common_le l (l.length-1) (-1) 1).2;change ∀j:Nat,_→_→_→commonN l≤_ at hcl;have hlen1:(istripGo (commonN l) l.length 0 l).tail=(stripGo (commonN l) (l.length-1) 1 l).tail:=by
   apply List.ext_getElem?;intro j;rw[List.getElem?_tail,List.getElem?_tail,istrip_get _ _ _ _ _ (by omega),strip_get _ _ _ _ _ (by omega)]
   by_cases hj:j+1<l.length
   ·rw[if_pos (by omega),if_pos (by omega),List.getElem?_eq_getElem hj]
    simp only[Option.map_some];have hr:rdOf ByteArray.empty l (j+1:Nat)=l[j+1]:=rdOf_some (List.getElem?_eq_getElem hj);have k1:=hpl (j+1) (by omega) (by omega)
    have k2:=hcl (j+1) (by omega) (by omega)
    rw[hr]at k1 k2;generalize l[j+1]=x at *;have k3:=lead_le x;congr 1;unfold icutLine cutLine mn
    by_cases e:(x.size:Int)<commonN l
    ·have e2:x.size=0:=by
      rcases Nat.lt_or_ge (lead x) x.size with h1|h1
      ·have:=k2 h1;omega
      ·rcases Nat.eq_zero_or_pos x.size with h2|h2
       ·exact h2
       ·exact absurd ⟨by omega,h2,e⟩ k1
     have e3:x=ByteArray.empty:=ByteArray.ext (Array.eq_empty_of_size_eq_zero e2);rw[if_pos e,if_pos e,e3];apply ByteArray.ext;simp
    ·rw[if_neg e,if_neg e]
   ·rw[if_neg (by omega),if_neg (by omega)]
  obtain⟨x0,xs,rfl⟩:∃x xs,l=x::xs:=by
   cases l with
   | nil=>simp at h
   | cons x xs=>exact⟨x,xs,rfl⟩
  have hb:lead x0=x0.size:=hb;have g1:=istrip_get (commonN (x0::xs)) (x0::xs).length 0 (x0::xs) 0 (by omega)
  have g2:=strip_get (commonN (x0::xs)) ((x0::xs).length-1) 1 (x0::xs) 0 (by simp only[List.length_cons];omega)
  rw[if_pos (by simp)]at g1
  rw[if_neg (by omega)]at g2
  simp only[List.getElem?_cons_zero,Option.map_some]at g1 g2;generalize istripGo (commonN (x0::xs)) (x0::xs).length 0 (x0::xs)=A at *;generalize stripGo (commonN (x0::xs)) ((x0::xs).length-1) 1 (x0::xs)=B at *;cases A with
  | nil=>simp at g1
  | cons a A=>
   cases B with
   | nil=>simp at g2
   | cons b B=>
    simp only[List.getElem?_cons_zero,Option.some.injEq]at g1 g2;simp only[List.tail_cons]at hlen1;subst g1 g2 hlen1;simp only[dropHead];rw[if_pos hb,if_pos];unfold icutLine;split
    ·exact hb
    ·exact blank_cut _ _ hb
 ·have hm:mx (commonN l) 0=0:=by unfold mx;split<;>omega
  rw[if_neg hc,hm,strip_zero l h]
theorem value_eq {l:List ByteArray} (h:0<l.length) (hp:plainL l=true):valueI l=valueL l:=by
 unfold valueI valueL;rw[drop_eq h hp]
end Go.Proofs.YtjolkdnfbmkjiaaGreatDoor.LinesP
namespace Go.Proofs.YtjolkdnfbmkjiaaGreatDoor.SRowP
open Go.RowKit Mem LinesP Go.Proofs.YtjolkdnfbmkjiaaGreatDoorW.PrintWords Go.Proofs.YtjolkdnfbmkjiaaGreatDoorW.PrintLast Go.Proofs.YtjolkdnfbmkjiaaGreatDoorW.PrintMore
def SRow (w:World) (g o:Nat) (xs:List ByteArray):Prop:=
 ∃cur:Array Value,Blk w g 9 cur∧o+xs.length≤cur.size∧∀(j:Nat) x,xs[j]?=some x→cur[o+j]?=some (.string x)
section
variable {w w':World} {g o:Nat} {xs:List ByteArray}
theorem SRow.lt (h:SRow w g o xs):g<w.heap.size:=by obtain⟨cur,hb,_⟩:=h;exact Blk.lt hb
theorem SRow.frozen (h:SRow w g o xs) (j:Nat):w.frozen? ⟨g,j,none⟩=false:=by obtain⟨cur,hb,_⟩:=h;exact Blk.frozen hb j
theorem SRow.cell (h:SRow w g o xs) {j:Nat} {x:ByteArray} (hx:xs[j]?=some x):w.cell? ⟨g,o+j,none⟩=some (.string x):=by
 obtain⟨cur,hb,_,hc⟩:=h;rw[Blk.cell hb];exact hc j x hx
theorem SRow.below {B:Nat} (h:SRow w g o xs) (hb:Below B w w') (hg:g<B):SRow w' g o xs:=by
 obtain⟨cur,hk,r⟩:=h;exact⟨cur,Blk.below hk hb hg,r⟩
theorem SRow.below' (h:SRow w g o xs) (hb:Below w.heap.size w w'):SRow w' g o xs:=h.below hb h.lt
theorem SRow.drew (h:SRow w g o xs):SRow w.drew g o xs:=h
theorem SRow.set_ (h:SRow w g o xs) (i:Nat) (y:ByteArray):SRow (w.setCell ⟨g,o+i,none⟩ (.string y)) g o (xs.set i y):=by
 obtain⟨cur,hb,hl,hc⟩:=h;refine⟨_,Blk.set_ hb (o+i) _,by rw[List.length_set,Array.size_setIfInBounds];exact hl,?_⟩
 intro j x hx;rw[Array.getElem?_setIfInBounds];rw[List.getElem?_set]at hx
 by_cases e:i=j
 ·subst e
  rw[if_pos rfl]at hx ⊢
  by_cases h2:i<xs.length
  ·rw[if_pos h2]at hx
   rw[if_pos (by omega)]
   rw[Option.some.inj hx]
  ·rw[if_neg h2]at hx;cases hx
 ·rw[if_neg e]at hx
  rw[if_neg (by omega)]
  exact hc j x hx
theorem SRow.drop1 {x:ByteArray} (h:SRow w g o (x::xs)):SRow w g (o+1) xs:=by
 obtain⟨cur,hb,hl,hc⟩:=h;simp only[List.length_cons]at hl;refine⟨cur,hb,by omega,fun j y hy=>?_⟩
 rw[show o+1+j=o+(j+1) by omega]
 exact hc (j+1) y (by simpa using hy)
theorem SRow.take (h:SRow w g o xs) (n:Nat):SRow w g o (xs.take n):=by
 obtain⟨cur,hb,hl,hc⟩:=h;refine⟨cur,hb,by rw[List.length_take];omega,fun j y hy=>?_⟩
 rw[List.getElem?_take]at hy;split at hy
 ·exact hc j y hy
 ·cases hy
theorem SRow.nil_ {o':Nat} (h:SRow w g o xs) (ho:o'≤o):SRow w g o' []:=by
 obtain⟨cur,hb,hl,hc⟩:=h;exact⟨cur,hb,by simp;omega,fun j y hy=>by simp at hy⟩
end
theorem srow_of_R {w:World} {base:Nat} {ok:Nat→Prop} {v:Value} {xs:List ByteArray} (h:Kd.R Kd.string 9 w base ok v xs) (hn:0<xs.length) :
  ∃g cap,v = .slice (some ⟨g,0,none⟩) xs.length cap∧base≤g∧xs.length≤cap∧SRow w g 0 xs:=by
 obtain⟨inner,ho⟩:=Kd.R_own h;obtain⟨A,c,he,hle,hC⟩:=Kd.R_reads h;obtain⟨hil,h2⟩:=ho;rcases h2 with⟨_,h0⟩|⟨g,cap,cur,rfl,hg,hh,hcap,hr⟩
 ·omega
 ·injection he with e1 e2 e3
  subst e1 e3;refine⟨g,cap,rfl,hg,hle,cur,hh,?_,?_⟩
  ·have h1:Kd.string.sz=1:=rfl
   have h2:=hr.2.1;rw[h1]at h2;omega
  ·intro j x hx
   have hj:j<xs.length:=(List.getElem?_eq_some_iff.1 hx).1;obtain⟨ad,ha,hcell⟩:=Kd.at_string hC j (by omega) (by omega)
   injection ha with ha
   subst ha;rw[Int.toNat_natCast,add_plain,Blk.cell (t:=9) (cs:=cur) hh,rdOf_some hx]at hcell;rw[Nat.zero_add];exact hcell
end Go.Proofs.YtjolkdnfbmkjiaaGreatDoor.SRowP
namespace Go.Proofs.YtjolkdnfbmkjiaaGreatDoor.LinesP
open Go.RowKit Lex Go.Proofs.YtjolkdnfbmkjiaaGreatDoorW.PrintWords Go.Proofs.YtjolkdnfbmkjiaaGreatDoorW.PrintLast Go.Proofs.YtjolkdnfbmkjiaaGreatDoorW.PrintMore
theorem lead_end (s:ByteArray) (p:Nat) (hp:¬p<s.size) (h:leadGo s (s.size-p) p=lead s):lead s=p:=by
 rw[show s.size-p=0 by omega]at h
 exact h.symm
theorem lead_stop (s:ByteArray) (p:Nat) (hp:p<s.size) (h:leadGo s (s.size-p) p=lead s) (h1:bt s p≠32) (h2:bt s p≠9):lead s=p:=by
 obtain⟨d,hd⟩:∃d,s.size-p=d+1:=⟨s.size-p-1,by omega⟩
 rw[hd]at h;simp only[leadGo]at h;rw[if_neg (by omega)]at h
 exact h.symm
theorem lead_next (s:ByteArray) (p:Nat) (hp:p<s.size) (h:leadGo s (s.size-p) p=lead s) (h1:bt s p=32∨bt s p=9):leadGo s (s.size-(p+1)) (p+1)=lead s:=by
 obtain⟨d,hd⟩:∃d,s.size-p=d+1:=⟨s.size-p-1,by omega⟩
 rw[hd]at h;simp only[leadGo]at h;rw[if_pos h1]at h;rw[show s.size-(p+1)=d by omega]
 exact h
theorem iter_below (w:World) (s:ByteArray) (p:Nat):Below w.heap.size w (w.iter s p):=below_alloc (Below.refl _ _) _
theorem leadWs_any (s:ByteArray) (w:World) (hs:s.size≤140737488351232) :
  Calls Tryz.prog 84 #[.string s] w fun e w'=>e = .returned (.int .i64 (lead s))∧Below w.heap.size w w':=by
 go_enter Tryz.func84,Tryz.ntmps84;go_wp2
 go_loopw [2] (fun n w'=>∃p:Nat,p≤s.size∧w'=w.iter s p∧n = .int .i64 p∧leadGo s (s.size-p) p=lead s) (fun _ w'=>s.size-w'.iterPos w.heap.size)
 case atStart=>exact⟨0,by omega,rfl,rfl,rfl⟩
 case round=>
  obtain⟨p,hps,rfl,rfl,hL⟩:=hrel
  by_cases hp:p<s.size
  ·have hbn:=bt_nat s p hp
   by_cases ha:(s[p]'hp).toNat<128
   ·have hnx:∀ty,(Instr.next (.pointer (some ⟨w.heap.size,0,none⟩)) true ty).run Tryz.prog (w.iter s p) = .ok (.tuple #[.bool true,.int .i64 p,.int .i32 (bt s p)]) (w.iter s (p+1)):=fun ty=>by
     rw[←hbn];exact run_next_ascii w s p ty hp ha
    have hst:=lead_stop s p hp hL;have hnxt:=lead_next s p hp hL;clear hbn ha;generalize bt s p=c at *
    by_cases h1:c=32
    ·subst h1
     have hq:=hnxt (.inl rfl);go_wp2
     go_roundw
     case rel=>exact⟨p+1,by omega,rfl,by go_num,hq⟩
     case measure=>simp;omega
    ·by_cases h2:c=9
     ·subst h2
      have hq:=hnxt (.inr rfl);go_wp2
      go_roundw
      case rel=>exact⟨p+1,by omega,rfl,by go_num,hq⟩
      case measure=>simp;omega
     ·have hq:=hst h1 h2
      have f1:(c==32)=false:=beq_eq_false_iff_ne.2 h1;have f2:(c==9)=false:=beq_eq_false_iff_ne.2 h2;go_wp2
      go_ret
      exact⟨by rw[hq];rfl,iter_below _ _ _⟩
   ·have hnx:∀ty,(Instr.next (.pointer (some ⟨w.heap.size,0,none⟩)) true ty).run Tryz.prog (w.iter s p)=_:=fun ty=>run_next_any w s p ty hp
    have hd:=(decode_high s p hp (by omega)).1
    have hq:=lead_stop s p hp hL (by omega) (by omega)
    generalize Utf8.decode s p=d at *;have f1:((d.1:Int)==32)=false:=beq_eq_false_iff_ne.2 (by omega)
    have f2:((d.1:Int)==9)=false:=beq_eq_false_iff_ne.2 (by omega)
    go_wp2
    go_ret
    exact⟨by rw[hq];rfl,iter_below _ _ _⟩
  ·have hnx:∀ty,(Instr.next (.pointer (some ⟨w.heap.size,0,none⟩)) true ty).run Tryz.prog (w.iter s p)=_:=fun ty=>run_next_end w s p ty hp
   have hq:=lead_end s p hp hL;go_wp2
   go_ret
   exact⟨by rw[hq];rfl,iter_below _ _ _⟩
theorem blank_any (s:ByteArray) (w:World) (hs:s.size≤140737488351232) :
  Calls Tryz.prog 85 #[.string s] w fun e w'=>e = .returned (.bool (decide (lead s=s.size)))∧Below w.heap.size w w':=by
 have HC:=aK (fun W=>leadWs_any s W hs);have hle:=lead_le s;go_enter Tryz.func85,Tryz.ntmps85
 by_cases h:lead s=s.size
 ·go_wp2_with (go_at_call 84;refine(HC.out _).mono ?_;rintro e w' ⟨rfl,hb⟩)
  rw[h];go_wp2
  go_ret
  exact⟨by simp,hb⟩
 ·have f1:((lead s:Int)==(s.size:Int))=false:=beq_eq_false_iff_ne.2 (by omega)
  go_wp2_with (go_at_call 84;refine(HC.out _).mono ?_;rintro e w' ⟨rfl,hb⟩)
  go_ret
  exact⟨by simp[h],hb⟩
end Go.Proofs.YtjolkdnfbmkjiaaGreatDoor.LinesP
namespace Go.Proofs.YtjolkdnfbmkjiaaGreatDoor.Block
open Go.RowKit Mem LinesP SRowP Go.Proofs.YtjolkdnfbmkjiaaGreatDoorW.PrintWords Go.Proofs.YtjolkdnfbmkjiaaGreatDoorW.PrintLast Go.Proofs.YtjolkdnfbmkjiaaGreatDoorW.PrintMore
theorem row_cell {w:World} {g i:Nat} {l:List ByteArray} (h:SRow w g 0 l) (hi:i<l.length):w.cell? ⟨g,i,none⟩=some (.string (rdOf ByteArray.empty l i)):=by
 have h1:=List.getElem?_eq_getElem hi;have h2:=h.cell h1;rw[Nat.zero_add]at h2;rw[h2,rdOf_some h1]
theorem icommon_step {l:List ByteArray} {i:Nat} {o:Int} (hi:i<l.length) (ho:o = -1∨(0≤o∧o≤200000)) (hx:(rdOf ByteArray.empty l i).size≤200000) (h:icommonGo l (l.length-i) o i=commonN l) :
  (lead (rdOf ByteArray.empty l i)<(rdOf ByteArray.empty l i).size→(o = -1∨(lead (rdOf ByteArray.empty l i):Int)<o)→lead (rdOf ByteArray.empty l i)=0→commonN l=0)∧
  (lead (rdOf ByteArray.empty l i)<(rdOf ByteArray.empty l i).size→(o = -1∨(lead (rdOf ByteArray.empty l i):Int)<o)→lead (rdOf ByteArray.empty l i)≠0→icommonGo l (l.length-(i+1)) (lead (rdOf ByteArray.empty l i)) (i+1)=commonN l)∧
  (¬(lead (rdOf ByteArray.empty l i)<(rdOf ByteArray.empty l i).size∧(o = -1∨(lead (rdOf ByteArray.empty l i):Int)<o))→icommonGo l (l.length-(i+1)) o (i+1)=commonN l):=by
 obtain⟨d,hd⟩:∃d,l.length-i=d+1:=⟨l.length-i-1,by omega⟩
 rw[hd]at h;rw[show l.length-(i+1)=d by omega]
 simp only[icommonGo]at h;refine⟨fun a b c=>?_,fun a b c=>?_,fun a=>?_⟩
 ·rw[if_pos ⟨a,b⟩,if_pos c]at h;exact h.symm
 ·rw[if_pos ⟨a,b⟩,if_neg c]at h;exact h
 ·rw[if_neg a]at h;exact h
def lenOf:Value→Nat
 | .slice _ n _=>n
 | _=>0
theorem row_cell' {w:World} {g o i:Nat} {l:List ByteArray} (h:SRow w g o l) (hi:i<l.length):w.cell? ⟨g,o+i,none⟩=some (.string (rdOf ByteArray.empty l i)):=by
 have h1:=List.getElem?_eq_getElem hi;rw[h.cell h1,rdOf_some h1]
theorem tail_step {ys r:List ByteArray} (h0:¬ys.length=0) (h:dropTail ys.length ys=r) :
  (lead (rdOf ByteArray.empty ys (ys.length-1:Nat))=(rdOf ByteArray.empty ys (ys.length-1:Nat)).size→dropTail (ys.take (ys.length-1)).length (ys.take (ys.length-1))=r)∧
  (¬lead (rdOf ByteArray.empty ys (ys.length-1:Nat))=(rdOf ByteArray.empty ys (ys.length-1:Nat)).size→ys=r):=by
 obtain⟨d,hd⟩:∃d,ys.length=d+1:=⟨ys.length-1,by omega⟩
 rw[hd]at h;simp only[dropTail]at h;refine⟨fun a=>?_,fun a=>?_⟩
 ·rw[if_pos ⟨by omega,a⟩]at h
  rw[List.length_take,show min (ys.length-1) ys.length=d by omega]
  exact h
 ·rw[if_neg (fun hh=>a hh.2)]at h
  exact h
theorem dropHead_len:∀(l:List ByteArray),(dropHead l).length≤l.length
 | []=>Nat.le_refl _
 | x::xs=>by
  simp only[dropHead];split
  ·have:=dropHead_len xs;simp;omega
  ·exact Nat.le_refl _
theorem dropHead_mem {n:Nat}:∀(l:List ByteArray),(∀x∈l,x.size≤n)→∀x∈dropHead l,x.size≤n
 | [],h=>h
 | x::xs,h=>by
  simp only[dropHead];split
  ·exact dropHead_mem xs (fun y hy=>h y (by simp[hy]))
  ·exact h
theorem wrap_small {n:Int} (h:0≤n∧n≤1000000):IntKind.i64.wrap n=n:=by
 rw[i64_w];unfold wrap64;omega
theorem infoStr:(Tryz.prog.info? 9).map (fun i=>(i.zero,i.size,i.bytes))=some (some (.string ⟨#[]⟩),1,16):=by kernel_rfl
theorem bytes_ext {a b:ByteArray} (h:a.data.toList=b.data.toList):a=b:=ByteArray.ext (Array.toList_inj.1 h)
theorem joinTail_cons (x:List UInt8) (r:List (List UInt8)):Lib.joinTail [10] (x::r)=([10]++x)++Lib.joinTail [10] r:=by simp[Lib.joinTail]
theorem join_more (l:List ByteArray):∀(d i:Nat) (o:ByteArray),0<i→i+d=l.length→(joinGo l d i o).data.toList=o.data.toList++Lib.joinTail [10] ((l.drop i).map (·.data.toList)):=by
 intro d
 induction d with
 | zero=>
  intro i o hi h;rw[List.drop_of_length_le (by omega)]
  simp[joinGo,Lib.joinTail]
 | succ d ih=>
  intro i o hi h;simp only[joinGo];have hd:=List.drop_eq_getElem_cons (show i<l.length by omega)
  rw[if_pos hi,ih (i+1) _ (by omega) (by omega),hd,rdOf_some (List.getElem?_eq_getElem (by omega)),List.map_cons,joinTail_cons]
  generalize (l.drop (i+1)).map (·.data.toList)=R
  simp
theorem join_eq (l:List ByteArray):joinL l=⟨(Lib.join (l.map (·.data.toList)) (⟨#[10]⟩:ByteArray).data.toList).toArray⟩:=by
 apply bytes_ext;unfold joinL;cases l with
 | nil=>rfl
 | cons x xs=>
  rw[List.length_cons];simp only[joinGo];rw[if_neg (by omega),join_more (x::xs) xs.length 1 _ (by omega) (by simp;omega),show rdOf ByteArray.empty (x::xs) ((0:Nat):Int)=x from rfl]
  simp[Lib.join_cons]
theorem joinTail_len {n:Nat}:∀(l:List ByteArray),(∀x∈l,x.size≤n)→(Lib.joinTail [10] (l.map (·.data.toList))).length≤l.length*(n+1)
 | [],_=>by simp[Lib.joinTail]
 | x::xs,h=>by
  have h1:=joinTail_len xs (fun y hy=>h y (by simp[hy]))
  have h2:x.data.toList.length≤n:=h x (by simp)
  have h3:Lib.joinTail [10] ((x::xs).map (·.data.toList))=([10]++x.data.toList)++Lib.joinTail [10] (xs.map (·.data.toList)):=by simp[Lib.joinTail]
  have h4:(x::xs).length*(n+1)=xs.length*(n+1)+(n+1):=by rw[List.length_cons,Nat.succ_mul]
  rw[h3,h4,List.length_append,List.length_append];simp only[List.length_cons,List.length_nil];omega
theorem join_len {l:List ByteArray} (hl:∀x∈l,x.size≤200000) (hn:l.length≤200001):(Lib.join (l.map (·.data.toList)) (⟨#[10]⟩:ByteArray).data.toList).length≤140737488355328:=by
 cases l with
 | nil=>simp[Lib.join_nil]
 | cons x xs=>
  have h1:=joinTail_len xs (fun y hy=>hl y (by simp[hy]))
  have h2:x.data.toList.length≤200000:=hl x (by simp)
  have h3:Lib.join ((x::xs).map (·.data.toList)) (⟨#[10]⟩:ByteArray).data.toList=x.data.toList++Lib.joinTail [10] (xs.map (·.data.toList)):=by rw[List.map_cons,Lib.join_cons]
  rw[h3,List.length_append];have h4:xs.length*(200000+1)≤200001*200001:=Nat.mul_le_mul (by simp at hn;omega) (by omega)
  omega
theorem dropTail_sub:∀(d:Nat) (l:List ByteArray),(dropTail d l).length≤l.length∧∀x∈dropTail d l,x∈l:=by
 intro d
 induction d with
 | zero=>intro l;exact⟨Nat.le_refl _,fun _ h=>h⟩
 | succ d ih=>
  intro l;simp only[dropTail];split
  ·obtain⟨h1,h2⟩:=ih (l.take (l.length-1))
   rw[List.length_take]at h1;exact⟨by omega,fun x hx=>List.mem_of_mem_take (h2 x hx)⟩
  ·exact⟨Nat.le_refl _,fun _ h=>h⟩
theorem istrip_step {c:Int} {l ys:List ByteArray} {i:Nat} {r:List ByteArray} (hi:i<l.length) (hyl:ys.length=l.length) (h:istripGo c (l.length-i) i ys=r) :
  ((rdOf ByteArray.empty ys i).size<c→istripGo c (l.length-(i+1)) (i+1) ys=r)∧(¬(rdOf ByteArray.empty ys i).size<c→istripGo c (l.length-(i+1)) (i+1) (ys.set i ((rdOf ByteArray.empty ys i).extract c.toNat (rdOf ByteArray.empty ys i).size))=r):=by
 obtain⟨d,hd⟩:∃d,l.length-i=d+1:=⟨l.length-i-1,by omega⟩
 rw[hd]at h;rw[show l.length-(i+1)=d by omega]
 simp only[istripGo]at h;unfold icutLine at h;refine⟨fun a=>?_,fun a=>?_⟩
 ·rw[if_pos a,rdOf_some (List.getElem?_eq_getElem (by omega)),List.set_getElem_self]at h;exact h
 ·rw[if_neg a]at h;exact h
theorem istripGo_mem {c:Int} {n:Nat}:∀(d i:Nat) (l:List ByteArray),(∀x∈l,x.size≤n)→∀x∈istripGo c d i l,x.size≤n:=by
 intro d
 induction d with
 | zero=>intro i l hl;exact hl
 | succ d ih=>
  intro i l hl;refine ih (i+1) _ (fun x hx=>?_);rcases List.mem_or_eq_of_mem_set hx with h|rfl
  ·exact hl x h
  ·unfold icutLine
   split
   ·exact rdOf_le hl _
   ·exact Nat.le_trans (extract_le _ _ _) (rdOf_le hl _)
theorem stripI_mem {n:Nat} {l:List ByteArray} (hl:∀x∈l,x.size≤n):∀x∈stripI l,x.size≤n:=by
 unfold stripI;split
 ·exact istripGo_mem _ _ _ hl
 ·exact hl
theorem istripGo_len {c:Int}:∀(d i:Nat) (l:List ByteArray),(istripGo c d i l).length=l.length:=by
 intro d
 induction d with
 | zero=>intro i l;rfl
 | succ d ih=>intro i l;simp only[istripGo];rw[ih,List.length_set]
theorem stripI_len (l:List ByteArray):(stripI l).length=l.length:=by
 unfold stripI;split
 ·exact istripGo_len _ _ _
 ·rfl
theorem blockStr_any (s:ByteArray) (l:List ByteArray) (k:Nat) (w:World) (hs:s.size≤200000) (hl:LinesOf s l) (hk:PzzLines.lexer_zzLines.f k s=some l) :
  Calls Tryz.prog 70 #[.string s] w fun e w'=>e = .returned (.string (valueI l))∧Below w.heap.size w w':=by
 have hl0:=hl.1;have hl1:=hl.2.1;have HL:=aK hl.2.2;clear hl;go_enter Tryz.func70,Tryz.ntmps70
 go_wp2_with fail
 refine(PzzLines.lexer_zzLines.calls k s l _ hk).mono ?_;rintro e w1 ⟨v0,rfl,hR,hb⟩;obtain⟨g,cap,rfl,hg,hcap,hS⟩:=srow_of_R hR hl0;have HB:=aK hb;have HS:=aK hS;clear hb hS hR
 go_upto_block 0 with(fail)
 go_cut [4] (fun v4 wc=>v4 = .int .i64 (commonN l)∧Aside0 (SRow wc g 0 l)∧Aside0 (Below w.heap.size w wc))
 case first=>
  go_wp2_with fail
  go_loopw [4,5] (fun v4 v5 wr=>∃(o:Int) (i:Nat),v4 = .int .i64 o∧v5 = .int .i64 i∧1≤i∧i≤l.length∧(o = -1∨(0≤o∧o≤200000))∧Aside0 (icommonGo l (l.length-i) o i=commonN l)∧Aside0 (SRow wr g 0 l)∧Aside0 (Below w.heap.size w wr)) (fun _ v5 _=>l.length-(intOf v5).toNat)
  case atStart=>exact⟨-1,1,rfl,rfl,by omega,hl0,.inl rfl,⟨icommon_eq _ _ _ _ (.inl rfl)⟩,HS,HB⟩
  case round=>
   obtain⟨o,i,rfl,rfl,hi1,hil,ho,HC,HS,HB⟩:=hrel
   by_cases hlt:i<l.length
   ·have hlti:(i:Int)<(l.length:Int):=by omega
    have hx:wr.cell? ⟨g,i,none⟩=some (.string (rdOf ByteArray.empty l i)):=row_cell HS.out hlt;have hxs:(rdOf ByteArray.empty l i).size≤200000:=Nat.le_trans (rdOf_le HL.out i) hs;have hst:=icommon_step hlt (o:=o) ho hxs HC.out;have HW:=aK (fun W=>leadWs_any (rdOf ByteArray.empty l i) W (by omega))
    generalize rdOf ByteArray.empty l i=x at *;clear HC
    go_wp2_with fail
    refine(HW.out _).mono ?_;rintro e w2 ⟨rfl,hb2⟩
    by_cases hxl:lead x<x.size
    ·have hxli:(lead x:Int)<(x.size:Int):=by omega
     by_cases ho1:o = -1
     ·have hoe:(o == -1)=true:=beq_iff_eq.2 ho1
      by_cases hz:lead x=0
      ·have hze:((lead x:Int)==0)=true:=beq_iff_eq.2 (by omega)
       go_wp2_with fail
       go_meet
       case rel=>exact⟨by rw[hst.1 hxl (by omega) hz],⟨HS.out.below' hb2⟩,⟨HB.out.trans (hb2.mono HB.out.size)⟩⟩
      ·have hze:((lead x:Int)==0)=false:=beq_eq_false_iff_ne.2 (by omega)
       go_wp2_with fail
       go_roundw
       case rel=>exact⟨_,i+1,rfl,by go_num,by omega,by omega,by omega,⟨hst.2.1 hxl (by omega) hz⟩,⟨HS.out.below' hb2⟩,⟨HB.out.trans (hb2.mono HB.out.size)⟩⟩
       case measure=>simp[intOf];omega
     ·have hoe:(o == -1)=false:=beq_eq_false_iff_ne.2 ho1
      by_cases hlo:(lead x:Int)<o
      ·by_cases hz:lead x=0
       ·have hze:((lead x:Int)==0)=true:=beq_iff_eq.2 (by omega)
        go_wp2_with fail
        go_meet
        case rel=>exact⟨by rw[hst.1 hxl (by omega) hz],⟨HS.out.below' hb2⟩,⟨HB.out.trans (hb2.mono HB.out.size)⟩⟩
       ·have hze:((lead x:Int)==0)=false:=beq_eq_false_iff_ne.2 (by omega)
        go_wp2_with fail
        go_roundw
        case rel=>exact⟨_,i+1,rfl,by go_num,by omega,by omega,by omega,⟨hst.2.1 hxl (by omega) hz⟩,⟨HS.out.below' hb2⟩,⟨HB.out.trans (hb2.mono HB.out.size)⟩⟩
        case measure=>simp[intOf];omega
      ·have hlo':o≤(lead x:Int):=by omega
       go_wp2_with fail
       go_roundw
       case rel=>exact⟨_,i+1,rfl,by go_num,by omega,by omega,ho,⟨hst.2.2 (by omega)⟩,⟨HS.out.below' hb2⟩,⟨HB.out.trans (hb2.mono HB.out.size)⟩⟩
       case measure=>simp[intOf];omega
    ·have hxli:(x.size:Int)≤(lead x:Int):=by omega
     go_wp2_with fail
     go_roundw
     case rel=>exact⟨_,i+1,rfl,by go_num,by omega,by omega,ho,⟨hst.2.2 (by omega)⟩,⟨HS.out.below' hb2⟩,⟨HB.out.trans (hb2.mono HB.out.size)⟩⟩
     case measure=>simp[intOf];omega
   ·have hlti:(l.length:Int)≤(i:Int):=by omega
    have hii:l.length-i=0:=by omega
    go_wp2_with fail
    go_meet
    case rel=>
     have h:=HC.out;rw[hii]at h;exact⟨by rw[←h];rfl,HS,HB⟩
 case rest=>
  clear HS HB;obtain⟨rfl,HS,HB⟩:=hcut
  go_upto_if 42 with(fail)
  have HM:=aK (stripI_mem HL.out);have hsl:=stripI_len l
  go_cut [] (fun wc=>Aside0 (SRow wc g 0 (stripI l))∧Aside0 (Below w.heap.size w wc))
  case first=>
   by_cases hc:0<commonN l
   ·have HI:=aK (show stripI l=istripGo (commonN l) l.length 0 l by unfold stripI;rw[if_pos hc])
    generalize commonN l=c at *
    go_wp2_with fail
    go_loopw [45] (fun v45 wr=>∃(i:Nat) (ys:List ByteArray),v45 = .int .i64 i∧i≤l.length∧ys.length=l.length∧Aside0 (istripGo c (l.length-i) i ys=stripI l)∧Aside0 (SRow wr g 0 ys)∧Aside0 (Below w.heap.size w wr)) (fun v45 _=>l.length-(intOf v45).toNat)
    case atStart=>exact⟨0,l,rfl,by omega,rfl,⟨HI.out.symm⟩,HS,HB⟩
    case round=>
     clear HS HB HI;obtain⟨i,ys,rfl,hil,hyl,HI,HS,HB⟩:=hrel
     by_cases hlt:i<l.length
     ·have hlti:(i:Int)<(l.length:Int):=by omega
      have hx:wr.cell? ⟨g,i,none⟩=some (.string (rdOf ByteArray.empty ys i)):=row_cell HS.out (by omega)
      have hst:=istrip_step hlt hyl HI.out;have hfz:=HS.out.frozen i;have HSet:=aK (fun y=>HS.out.set_ i y);generalize rdOf ByteArray.empty ys i=x at *
      by_cases hcx:(x.size:Int)<c
      ·go_wp2_with fail
       exact⟨⟨i+1,ys,by go_num,by omega,hyl,⟨hst.1 hcx⟩,HS,HB⟩,by simp[intOf];omega⟩
      ·have hcx':c≤(x.size:Int):=by omega
       have hc0:0≤c:=by omega
       have hS2:=HSet.out (x.extract c.toNat x.size);rw[Nat.zero_add]at hS2
       go_wp2_with fail
       exact⟨⟨i+1,_,by go_num,by omega,by rw[List.length_set];exact hyl,⟨hst.2 (by omega)⟩,⟨hS2⟩,⟨HB.out.setCell hg _⟩⟩,by simp[intOf];omega⟩
     ·have hlti:(l.length:Int)≤(i:Int):=by omega
      have h:=HI.out;rw[show l.length-i=0 by omega]at h
      have HE:=aK (show ys=stripI l from h)
      clear h
      go_wp2_with fail
      go_meet
      case rel=>exact⟨by rw[←HE.out];exact HS,HB⟩
   ·have HI:=aK (show stripI l=l by unfold stripI;rw[if_neg hc])
    have hc':commonN l≤0:=by omega
    go_wp2_with fail
    go_meet
    case rel=>exact⟨by rw[HI.out];exact HS,HB⟩
  case rest=>
   clear HS HB;obtain⟨HS,HB⟩:=hcut
   go_upto_block 4 with(fail)
   have HV:=aK (show valueI l=joinL (dropTail (dropHead (stripI l)).length (dropHead (stripI l)))from rfl)
   have hml0:(stripI l).length≤200001:=by omega
   rw[←hsl]at hcap ⊢;clear hsl;generalize stripI l=m0 at *
   go_cut [3] (fun v3 wc=>∃(o c:Nat),v3 = .slice (some ⟨g,o,none⟩) (dropHead m0).length c∧(dropHead m0).length≤c∧Aside0 (SRow wc g o (dropHead m0))∧Aside0 (Below w.heap.size w wc))
   case first=>
    go_wp2_with fail
    go_loopw [3] (fun v3 wr=>∃(o c:Nat) (ys:List ByteArray),v3 = .slice (some ⟨g,o,none⟩) ys.length c∧ys.length≤c∧Aside0 (dropHead ys=dropHead m0)∧Aside0 (∀x∈ys,x.size≤200000)∧Aside0 (SRow wr g o ys)∧Aside0 (Below w.heap.size w wr)) (fun v3 _=>lenOf v3)
    case atStart=>exact⟨0,cap,m0,rfl,hcap,⟨rfl⟩,⟨fun x hx=>Nat.le_trans (HM.out x hx) hs⟩,HS,HB⟩
    case round=>
     clear HS HB HM hcap;obtain⟨o,c,ys,rfl,hlc,HD,HY,HS,HB⟩:=hrel;cases ys with
     | nil=>
      have HE:=aK (show dropHead m0=[]from HD.out.symm)
      go_wp2_with fail
      go_meet
      case rel=>exact⟨o,c,by rw[HE.out],by rw[HE.out];exact hlc,by rw[HE.out];exact HS,HB⟩
     | cons x ys=>
      have hx:wr.cell? ⟨g,o,none⟩=some (.string x):=HS.out.cell (j:=0) rfl;have HW:=aK (fun W=>blank_any x W (by have:=HY.out x (by simp);omega))
      by_cases hb:lead x=x.size
      ·have hd:decide (lead x=x.size)=true:=decide_eq_true hb
       rw[hd]at HW
       go_wp2_with fail
       refine(HW.out _).mono ?_;rintro e w2 ⟨rfl,hb2⟩
       go_wp2_with fail
       refine⟨⟨if c=1 then o else o+1,c-1,ys,by split<;>rfl,by simp only[List.length_cons]at hlc;omega,⟨by rw[←HD.out];simp only[dropHead];rw[if_pos hb]⟩,⟨fun y hy=>HY.out y (by simp[hy])⟩,⟨?_⟩,⟨HB.out.trans (hb2.mono HB.out.size)⟩⟩,by simp[lenOf]⟩
       split
       ·obtain rfl:ys=[]:=List.length_eq_zero_iff.1 (by simp only[List.length_cons]at hlc;omega)
        exact(HS.out.below' hb2).drop1.nil_ (by omega)
       ·exact(HS.out.below' hb2).drop1
      ·have hd:decide (lead x=x.size)=false:=decide_eq_false hb
       rw[hd]at HW
       go_wp2_with fail
       refine(HW.out _).mono ?_;rintro e w2 ⟨rfl,hb2⟩;have HE:=aK (show dropHead m0=x::ys by rw[←HD.out];simp only[dropHead];rw[if_neg hb])
       go_wp2_with fail
       go_meet
       case rel=>exact⟨o,c,by rw[HE.out];rfl,by rw[HE.out];exact hlc,⟨by rw[HE.out];exact HS.out.below' hb2⟩,⟨HB.out.trans (hb2.mono HB.out.size)⟩⟩
   case rest=>
    clear HS HB;obtain⟨o,c,rfl,hlc,HS,HB⟩:=hcut;have hml:(dropHead m0).length≤200001:=Nat.le_trans (dropHead_len m0) (by omega)
    have HM:=aK (dropHead_mem m0 (fun x hx=>Nat.le_trans (HM.out x hx) hs))
    go_upto_block 6 with(fail)
    generalize dropHead m0=m at *
    go_cut [3] (fun v3 wc=>∃(c:Nat),v3 = .slice (some ⟨g,o,none⟩) (dropTail m.length m).length c∧(dropTail m.length m).length≤c∧Aside0 (SRow wc g o (dropTail m.length m))∧Aside0 (Below w.heap.size w wc))
    case first=>
     go_wp2_with fail
     go_loopw [3] (fun v3 wr=>∃(c:Nat) (ys:List ByteArray),v3 = .slice (some ⟨g,o,none⟩) ys.length c∧ys.length≤c∧ys.length≤200001∧Aside0 (dropTail ys.length ys=dropTail m.length m)∧Aside0 (∀x∈ys,x.size≤200000)∧Aside0 (SRow wr g o ys)∧Aside0 (Below w.heap.size w wr)) (fun v3 _=>lenOf v3)
     case atStart=>exact⟨c,m,rfl,hlc,hml,⟨rfl⟩,HM,HS,HB⟩
     case round=>
      clear HS HB HM hlc c;obtain⟨c,ys,rfl,hlc,hyl,HD,HY,HS,HB⟩:=hrel
      by_cases h0:ys.length=0
      ·obtain rfl:ys=[]:=List.length_eq_zero_iff.1 h0
       have HE:=aK (show dropTail m.length m=[]from HD.out.symm)
       go_wp2_with fail
       go_meet
       case rel=>exact⟨c,by rw[HE.out],by rw[HE.out];exact hlc,by rw[HE.out];exact HS,HB⟩
      ·have h0i:(0:Int)<(ys.length:Int):=by omega
       have hx:wr.cell? ⟨g,o+(ys.length-1),none⟩=some (.string (rdOf ByteArray.empty ys (ys.length-1:Nat))):=row_cell' HS.out (by omega)
       have hxs:(rdOf ByteArray.empty ys (ys.length-1:Nat)).size≤200000:=rdOf_le HY.out _;have hdt:=tail_step h0 HD.out;generalize rdOf ByteArray.empty ys (ys.length-1:Nat)=x at *;have HW:=aK (fun W=>blank_any x W (by omega))
       by_cases hb:lead x=x.size
       ·have hd:decide (lead x=x.size)=true:=decide_eq_true hb
        rw[hd]at HW;have HD2:=aK (hdt.1 hb);clear hdt hb hd
        go_wp2_with fail
        refine(HW.out _).mono ?_;rintro e w2 ⟨rfl,hb2⟩
        go_wp2_with fail
        obtain⟨i0,hi0,_⟩:=info_parts infoStr;have g1:(1:Int)≤(ys.length:Int):=by omega
        have g2:(ys.length:Int)-1≤(c:Int):=by omega
        have g3:IntKind.i64.wrap (ys.length:Int)=(ys.length:Int):=wrap_small (by omega)
        have g4:(0:Int)≤(ys.length:Int):=by omega
        have g5:ys.length-1≤c:=by omega
        have hmin:min (ys.length-1) ys.length=ys.length-1:=by omega
        have HR:=aK (show(∃(c_1:Nat) (zs:List ByteArray),Value.slice (some ⟨g,o,none⟩) (ys.length-1) c = .slice (some ⟨g,o,none⟩) zs.length c_1∧zs.length≤c_1∧zs.length≤200001∧Aside0 (dropTail zs.length zs=dropTail m.length m)∧Aside0 (∀x∈zs,x.size≤200000)∧Aside0 (SRow w2.drew g o zs)∧Aside0 (Below w.heap.size w w2.drew))from
         ⟨c,ys.take (ys.length-1),by rw[List.length_take,hmin],by rw[List.length_take];omega,by rw[List.length_take];omega,HD2,⟨fun y hy=>HY.out y (List.mem_of_mem_take hy)⟩,⟨(HS.out.below' hb2).drew.take _⟩,⟨below_drew (HB.out.trans (hb2.mono HB.out.size))⟩⟩)
        by_cases hcn:c=ys.length
        ·go_region
         go_wp2_with fail
         exact⟨by have h:=HR.out;rw[hcn]at h;exact h,by simp[lenOf];omega⟩
        ·go_region
         go_wp2_with fail
         exact⟨HR.out,by simp[lenOf];omega⟩
       ·have hd:decide (lead x=x.size)=false:=decide_eq_false hb
        rw[hd]at HW;have HD2:=aK (hdt.2 hb);clear hdt hb hd
        go_wp2_with fail
        refine(HW.out _).mono ?_;rintro e w2 ⟨rfl,hb2⟩
        go_wp2_with fail
        go_meet
        case rel=>exact⟨c,by rw[←HD2.out],by rw[←HD2.out];exact hlc,⟨by rw[←HD2.out];exact HS.out.below' hb2⟩,⟨HB.out.trans (hb2.mono HB.out.size)⟩⟩
    case rest=>
     clear HS HB;obtain⟨c,rfl,hlc,HS,HB⟩:=hcut;have hsub:=dropTail_sub m.length m;have hlen:=aK (join_len (l:=dropTail m.length m) (fun x hx=>HM.out x (hsub.2 x hx)) (by have:=hsub.1;omega))
     have hrl:(dropTail m.length m).length≤200001:=by have:=hsub.1;omega
     clear hsub;generalize dropTail m.length m=r at *
     go_wp2_with fail
     refine(Tryz.strings_Join g o c r ⟨#[10]⟩ _ (fun j x hx=>HS.out.cell hx) HS.out.lt (by omega) hlc hlen.out).mono ?_
     rintro e w2 ⟨rfl,hb2⟩
     go_wp2_with fail
     go_ret
     exact⟨by rw[HV.out,join_eq];rfl,HB.out.trans (hb2.mono HB.out.size)⟩
end Go.Proofs.YtjolkdnfbmkjiaaGreatDoor.Block
