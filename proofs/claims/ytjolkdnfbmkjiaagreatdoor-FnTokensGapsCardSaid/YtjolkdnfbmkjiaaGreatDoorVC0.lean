import Derived.Below
import Derived.Laws.OwnMore
import Derived.Deep.AppendLies
import Derived.Deep.Draws
import Derived.Laws.Rows
import Derived.WalkKit
import Derived.Lib.Strings
import Derived.KernelRfl
import Derived.Deep.QuietTactic
import Derived.BigQuiet
import Derived.Deep.RegionHeld3
import Derived.Deep.DeepCutAuto
import Derived.Deep.CutBlock
import Derived.Test.YtjolkdnfbmkjiaaGreatDoorProg
import Derived.WalkSpells
import Derived.StillTactics
import Derived.OwnWalk
import Derived.Deep.RegionLaw
import Derived.OneCell
import Derived.Laws.Pointers
import Derived.Test.YtjolkdnfbmkjiaaGreatDoorVW1
import Derived.Outline
import Derived.Deep.RegionWith
import Derived.BigRegion
set_option maxRecDepth 100000
set_option maxHeartbeats 8000000
set_option linter.unusedVariables false
set_option linter.unusedSimpArgs false
namespace Go.Proofs.YtjolkdnfbmkjiaaGreatDoor.Mem
open Go.RowKit
def Blk (w:World) (g:Nat) (t:TypeId) (cs:Array Value):Prop:=w.heap[g]?=some (.cells cs t (0,0))
section
variable {w w':World} {g:Nat} {t:TypeId} {cs:Array Value}
theorem Blk.lt (h:Blk w g t cs):g<w.heap.size:=by
 rcases Nat.lt_or_ge g w.heap.size with hlt|hge
 ·exact hlt
 ·unfold Blk at h;rw[Array.getElem?_eq_none hge]at h;cases h
theorem Blk.cell (h:Blk w g t cs) (i:Nat):w.cell? ⟨g,i,none⟩=cs[i]?:=cell_of_row w g i cs t (0,0) h
theorem Blk.frozen (h:Blk w g t cs) (i:Nat):w.frozen? ⟨g,i,none⟩=false:=by
 unfold Blk at h;simp[World.frozen?,h]
theorem Blk.new (w:World) (t:TypeId) (cs:Array Value):Blk (w.alloc (.cells cs t)) w.heap.size t cs:=heap_alloc_new w _
theorem Blk.drew (h:Blk w g t cs):Blk w.drew g t cs:=h
theorem Blk.alloc (h:Blk w g t cs) (o:Obj):Blk (w.alloc o) g t cs:=(Below.heap_alloc w o g h.lt).trans h
theorem Blk.set_ (h:Blk w g t cs) (i:Nat) (u:Value):Blk (w.setCell ⟨g,i,none⟩ u) g t (cs.setIfInBounds i u):=by
 unfold Blk at h ⊢;simp[World.setCell,Array.getElem?_modify,h]
theorem Blk.below {B:Nat} (h:Blk w g t cs) (hb:Below B w w') (hg:g<B):Blk w' g t cs:=(hb.block g hg).trans h
theorem Blk.grown {row:Option Nat} (h:Blk w g t cs) (hb:w.grownBy w' row) (hg:some g≠row):Blk w' g t cs:=(hb.block g h.lt hg).trans h
theorem Blk.ne_ {g':Nat} {t':TypeId} {cs':Array Value} (h:Blk w g t cs) (h':Blk w g' t' cs') (hne:t≠t'):g≠g':=by
 rintro rfl;unfold Blk at h h';rw[h]at h';injection h' with h'
 injection h' with _ ht
 exact hne ht
theorem own_blk_ne {base:Nat} {e:TypeId} {size n:Nat} {v:Value} {xs:List Value} (h:w.ownsRow base e size v n xs) (hg:Blk w g t cs) (hne:e≠t):v.ownBlock≠some g:=by
 rcases h.2 with⟨rfl,_⟩|⟨g',cap,cur,rfl,_,hh,_⟩
 ·simp[Value.ownBlock]
 ·intro he
  have:g'=g:=by simpa[Value.ownBlock]using he
  subst this;exact Blk.ne_ (t:=e) hh hg hne rfl
end
def LexAt (w:World) (b:Nat) (s:ByteArray) (at_:Int) (v:Value) (bad uns:Bool):Prop:=
 Blk w b 122 #[.string s,.int .i64 at_,v,.bool bad,.bool uns]
section
variable {w w':World} {b:Nat} {s:ByteArray} {at_:Int} {v:Value} {bad uns:Bool}
theorem LexAt.c0 (h:LexAt w b s at_ v bad uns):w.cell? ⟨b,0,none⟩=some (.string s):=(Blk.cell h 0).trans rfl
theorem LexAt.c1 (h:LexAt w b s at_ v bad uns):w.cell? ⟨b,1,none⟩=some (.int .i64 at_):=(Blk.cell h 1).trans rfl
theorem LexAt.c2 (h:LexAt w b s at_ v bad uns):w.cell? ⟨b,2,none⟩=some v:=(Blk.cell h 2).trans rfl
theorem LexAt.c3 (h:LexAt w b s at_ v bad uns):w.cell? ⟨b,3,none⟩=some (.bool bad):=(Blk.cell h 3).trans rfl
theorem LexAt.c4 (h:LexAt w b s at_ v bad uns):w.cell? ⟨b,4,none⟩=some (.bool uns):=(Blk.cell h 4).trans rfl
theorem LexAt.drewN (h:LexAt w b s at_ v bad uns) (n:Nat):LexAt (w.drewN n) b s at_ v bad uns:=h
end
structure Tok where
 kind:Int
 value:ByteArray
 start:Int
 stop:Int
def Tok.cells (t:Tok):List Value:=[.int .i64 t.kind,.string t.value,.int .i64 t.start,.int .i64 t.stop]
def toks (l:List Tok):List Value:=l.flatMap Tok.cells
theorem toks_snoc (l:List Tok) (t:Tok):toks (l++[t])=toks l++t.cells:=by simp[toks]
end Go.Proofs.YtjolkdnfbmkjiaaGreatDoor.Mem
namespace Go.Proofs.YtjolkdnfbmkjiaaGreatDoor.Lex
open Go.RowKit Mem Go.Proofs.YtjolkdnfbmkjiaaGreatDoorW.PrintWords
theorem infoTok:(Tryz.prog.info? 56).map (fun i=>(i.zero,i.size,i.bytes))=some (some (.agg #[.int .i64 0,.string ⟨#[]⟩,.int .i64 0,.int .i64 0]),4,40):=by kernel_rfl
theorem add_end {b base gg cap:Nat} {k to_ p:Int} {val s:ByteArray} {v:Value} {bad uns:Bool} {l:List Tok} {w w1:World} {X:Obj}
  (_hL:LexAt w b s p v bad uns) (hbase:base≤w.heap.size) (hB:base≤b) (hown:w.ownsRow base 56 4 v l.length (toks l)) (hL1:LexAt w1 b s p v bad uns)
  (hown1:w1.ownsRow base 56 4 (.slice (some ⟨gg,0,none⟩) (l.length+1) cap) (l.length+1) (toks l++[.int .i64 k,.string val,.int .i64 p,.int .i64 to_]))
  (hgrow:(w.alloc X).drew.grownBy w1 v.ownBlock) (hne:gg≠b) :
  ∃v',LexAt ((w1.setCell ⟨b,2,none⟩ (.slice (some ⟨gg,0,none⟩) (l.length+1) cap)).setCell ⟨b,1,none⟩ (.int .i64 to_)) b s to_ v' bad uns∧
   ((w1.setCell ⟨b,2,none⟩ (.slice (some ⟨gg,0,none⟩) (l.length+1) cap)).setCell ⟨b,1,none⟩ (.int .i64 to_)).ownsRow base 56 4 v' (l.length+1) (toks (l++[⟨k,val,p,to_⟩]))∧
   Below base w ((w1.setCell ⟨b,2,none⟩ (.slice (some ⟨gg,0,none⟩) (l.length+1) cap)).setCell ⟨b,1,none⟩ (.int .i64 to_)):=by
 refine⟨_,Blk.set_ (Blk.set_ hL1 2 _) 1 _,?_,?_⟩
 ·rw[toks_snoc]
  have h2:(Value.slice (some ⟨gg,0,none⟩) (l.length+1) cap).ownBlock≠some b:=by
   intro e;have:gg=b:=by simpa[Value.ownBlock]using e
   exact hne this
  exact ownsRow_setCell_other (ownsRow_setCell_other hown1 (a:=⟨b,2,none⟩) h2 _) (a:=⟨b,1,none⟩) h2 _
 ·have b1:Below base w (w.alloc X).drew:=below_drew ((Below.refl _ _).alloc hbase X)
  exact((b1.grown hgrow (by simp;omega) (own_base hown)).setCell (p:=⟨b,2,none⟩) hB _).setCell (p:=⟨b,1,none⟩) hB _
theorem add_any (b base:Nat) (k:Int) (to_:Int) (val s:ByteArray) (p:Int) (v:Value) (bad uns:Bool) (l:List Tok) (w:World)
  (hL:LexAt w b s p v bad uns) (hown:w.ownsRow base 56 4 v l.length (toks l)) (hbase:base≤w.heap.size) (hB:base≤b) (hn:l.length≤2147483648) :
  Calls Tryz.prog 101 #[.pointer (some ⟨b,0,none⟩),.int .i64 k,.int .i64 to_,.string val] w fun e w'=>e = .returned (.tuple #[])∧
   ∃v',LexAt w' b s to_ v' bad uns∧w'.ownsRow base 56 4 v' (l.length+1) (toks (l++[⟨k,val,p,to_⟩]))∧Below base w w':=by
 obtain⟨i0,hi0,hz0,hz1,hz2⟩:=info_parts infoTok;have c1:=hL.c1;have c2:=hL.c2;have hne:v.ownBlock≠some b:=own_blk_ne hown hL (by decide)
 have lb:b<w.heap.size:=Blk.lt hL;go_enter Tryz.func101,Tryz.ntmps101
 go_wp2_with fail
 go_region_law ((refine step_append_lies _ (by rfl) _ _ _ (by rfl) base 56 i0 _ 4 40 Tryz.underlying27 hi0 hz0 hz1 hz2 rfl (by omega) v l.length (toks l) (by rfl) ((hown.alloc _).drew) ⟨w.heap.size,0,none⟩ 1 1 [.int .i64 k,.string val,.int .i64 p,.int .i64 to_] (by rfl) (by rfl) (World.news_of_block (cs:=#[.int .i64 k,.string val,.int .i64 p,.int .i64 to_]) (t:=56) (fr:=(0,0)) (heap_alloc_new w _)) (by simp[Value.oneCell']) (by omega) (by simp[maxLen];omega) (by omega) (by simp;omega) (w.heap.size+1) (by simp) ?_;intro gg cap w1 hown1 hgrow hat hlt;have hL1:LexAt w1 b s p v bad uns:=Blk.grown (Blk.drew (Blk.alloc hL _)) hgrow (Ne.symm hne);have hf1:=Blk.frozen hL1 2;have hf2:=Blk.frozen hL1 1;have hd1:=hL1.c1;have hd2:=hL1.c2))
 all_goals
  have hne2:gg≠b:=fun e=>own_blk_ne hown1 hL1 (by decide) (by rw[e];rfl)
  have hout:=add_end (to_:=to_) hL hbase hB hown hL1 hown1 hgrow hne2;have HO:=aK hout;clear hout hown1 hgrow hat hL1 hne2;go_wp2
  go_end0
  exact⟨rfl,HO.out⟩
theorem next_any (b:Nat) (s:ByteArray) (p:Nat) (w:World) (_hs:s.size≤140737488351232) (h0:w.cell? ⟨b,0,none⟩=some (.string s)) :
  Calls Tryz.prog 103 #[.pointer (some ⟨b,0,none⟩),.int .i64 p] w fun e w'=>e = .returned (.int .u8 (bt s p))∧w=w':=by
 by_cases h:p<s.size
 ·have e:bt s p=(s[p].toNat:Int):=by unfold bt;rw[dif_pos (by simpa using h)];simp
  rw[e];clear e;have hp:(p:Int)<(s.size:Int):=by omega
  go_enter Tryz.func103,Tryz.ntmps103;go_wp2
  go_ret
  exact⟨rfl,rfl⟩
 ·have e:bt s p=0:=by unfold bt;rw[dif_neg (by omega)]
  rw[e];have hp:(s.size:Int)≤(p:Int):=by omega
  go_enter Tryz.func103,Tryz.ntmps103;go_wp2
  go_ret
  exact⟨rfl,rfl⟩
theorem ret_bool {a b:Bool} (h:a=b):Ending.returned (.bool a) = .returned (.bool b):=by rw[h]
theorem ret_int {k:IntKind} {a b:Int} (h:a=b):Ending.returned (.int k a) = .returned (.int k b):=by rw[h]
theorem quietA {P:Program} {f:FuncId} {args:Array Value} {w:World} {a n:Nat} {v:Value}
  (h:Calls P f args (w.drewN (a+n)) fun e w'=>e = .returned v∧w.drewN (a+n)=w'):Calls P f args (w.drewN (a+n)) fun e w''=>e = .returned v∧∃m,w''=w.drewN (a+m):=
 h.mono fun _ _ ⟨he,hm⟩=>⟨he,n,hm.symm⟩
def startsB (s:ByteArray) (p:Nat) (t:ByteArray):Bool:=decide (p+t.size≤s.size)&&((s.extract p (p+t.size)).toList==t.toList)
theorem starts_any (s t:ByteArray) (p:Nat) (w:World) (hs:s.size≤140737488351232) (ht:t.size≤140737488351232) (hp:p≤s.size) :
  Calls Tryz.prog 59 #[.string s,.int .i64 p,.string t] w fun e w'=>e = .returned (.bool (startsB s p t))∧w=w':=by
 by_cases h:p+t.size≤s.size
 ·have E:=aK (show startsB s p t=((s.extract p (p+t.size)).toList==t.toList) by unfold startsB;rw[decide_eq_true h];rfl)
  go_enter Tryz.func59,Tryz.ntmps59;go_wp2
  go_ret
  exact⟨ret_bool (by rw[E.out]),rfl⟩
 ·have E:=aK (show startsB s p t=false by unfold startsB;rw[decide_eq_false h];rfl)
  go_enter Tryz.func59,Tryz.ntmps59;go_wp2
  go_ret
  exact⟨ret_bool (by rw[E.out]),rfl⟩
theorem toList_inj {s t:ByteArray} (h:s.toList=t.toList):s=t:=by
 rw[Lib.toList_data,Lib.toList_data]at h;exact ByteArray.ext (Array.toList_inj.1 h)
theorem extract_one (s t:ByteArray) (p:Nat) (hp:p<s.size) (ht:0<t.size) (hne:bt s p≠bt t 0):startsB s p t=false:=by
 unfold startsB
 by_cases h:p+t.size≤s.size
 ·rw[decide_eq_true h,Bool.true_and,beq_eq_false_iff_ne]
  intro e;apply hne;have e2:s.extract p (p+t.size)=t:=toList_inj e;unfold bt;rw[dif_pos (by simpa using hp),dif_pos (by simpa using ht)]
  have h0:0<(s.extract p (p+t.size)).size:=by rw[e2];exact ht
  have e3:=ByteArray.getElem_extract (i:=0) (b:=s) (start:=p) (stop:=p+t.size) h0;simp only[e2,Nat.add_zero]at e3;simp[e3]
 ·rw[decide_eq_false h];rfl
abbrev bom:ByteArray:=⟨#[239,187,191]⟩
abbrev dots:ByteArray:=⟨#[46,46,46]⟩
abbrev quotes:ByteArray:=⟨#[34,34,34]⟩
theorem bt_bom:bt bom 0=239:=by decide +kernel
theorem bt_dots:bt dots 0=46:=by decide +kernel
theorem bt_quotes:bt quotes 0=34:=by decide +kernel
theorem bt_nat (s:ByteArray) (p:Nat):∀h:p<s.size,((s[p]'h).toNat:Int)=bt s p:=fun h=>by simp[bt,h]
theorem starts_no (s t:ByteArray) (p:Nat) (w:World) (hs:s.size≤140737488351232) (ht:t.size≤140737488351232) (hp:p≤s.size) (h:startsB s p t=false) :
  Calls Tryz.prog 59 #[.string s,.int .i64 p,.string t] w fun e w'=>e = .returned (.bool false)∧w=w':=
 (starts_any s t p w hs ht hp).mono fun _ _ ⟨h1,h2⟩=>⟨by rw[h1,h],h2⟩
theorem starts_yes (s t:ByteArray) (p:Nat) (w:World) (hs:s.size≤140737488351232) (ht:t.size≤140737488351232) (hp:p≤s.size) (h:startsB s p t=true) :
  Calls Tryz.prog 59 #[.string s,.int .i64 p,.string t] w fun e w'=>e = .returned (.bool true)∧w=w':=
 (starts_any s t p w hs ht hp).mono fun _ _ ⟨h1,h2⟩=>⟨by rw[h1,h],h2⟩
def isBeginB (c:Int):Bool:=decide ((97≤c∧c≤122)∨(65≤c∧c≤90)∨c=95)
def isDigitB (c:Int):Bool:=decide (48≤c∧c≤57)
theorem isBegin_any (c:Int) (w:World) :
  Calls Tryz.prog 32 #[.int .u8 c] w fun e w'=>e = .returned (.bool (isBeginB c))∧w=w':=by
 have hc:c<65∨(65≤c∧c≤90)∨(90<c∧c<95)∨c=95∨c=96∨(97≤c∧c≤122)∨122<c:=by omega
 rcases hc with a1|⟨a1,a2⟩|⟨a1,a2⟩|a1|a1|⟨a1,a2⟩|a1
 ·have E:=aK (show isBeginB c=false by unfold isBeginB;exact decide_eq_false (by omega))
  go_enter Tryz.func32,Tryz.ntmps32;go_wp2
  go_ret
  exact⟨ret_bool (by first|(rw[E.out];done)|(rw[E.out];simp;omega)),rfl⟩
 ·have E:=aK (show isBeginB c=true by unfold isBeginB;exact decide_eq_true (by omega))
  go_enter Tryz.func32,Tryz.ntmps32;go_wp2
  go_ret
  exact⟨ret_bool (by first|(rw[E.out];done)|(rw[E.out];simp;omega)),rfl⟩
 ·have E:=aK (show isBeginB c=false by unfold isBeginB;exact decide_eq_false (by omega))
  go_enter Tryz.func32,Tryz.ntmps32;go_wp2
  go_ret
  exact⟨ret_bool (by first|(rw[E.out];done)|(rw[E.out];simp;omega)),rfl⟩
 ·subst a1
  have E:=aK (show isBeginB 95=true by decide)
  go_enter Tryz.func32,Tryz.ntmps32;go_wp2
  go_ret
  exact⟨ret_bool (by first|(rw[E.out];done)|(rw[E.out];simp;omega)),rfl⟩
 ·subst a1
  have E:=aK (show isBeginB 96=false by decide)
  go_enter Tryz.func32,Tryz.ntmps32;go_wp2
  go_ret
  exact⟨ret_bool (by first|(rw[E.out];done)|(rw[E.out];simp;omega)),rfl⟩
 ·have E:=aK (show isBeginB c=true by unfold isBeginB;exact decide_eq_true (by omega))
  go_enter Tryz.func32,Tryz.ntmps32;go_wp2
  go_ret
  exact⟨ret_bool (by first|(rw[E.out];done)|(rw[E.out];simp;omega)),rfl⟩
 ·have E:=aK (show isBeginB c=false by unfold isBeginB;exact decide_eq_false (by omega))
  go_enter Tryz.func32,Tryz.ntmps32;go_wp2
  go_ret
  exact⟨ret_bool (by first|(rw[E.out];done)|(rw[E.out];simp;omega)),rfl⟩
theorem isDigit_any (c:Int) (w:World) :
  Calls Tryz.prog 33 #[.int .u8 c] w fun e w'=>e = .returned (.bool (isDigitB c))∧w=w':=by
 have hc:c<48∨(48≤c∧c≤57)∨57<c:=by omega
 rcases hc with a1|⟨a1,a2⟩|a1
 ·have E:=aK (show isDigitB c=false by unfold isDigitB;exact decide_eq_false (by omega))
  go_enter Tryz.func33,Tryz.ntmps33;go_wp2
  go_ret
  exact⟨ret_bool (by first|(rw[E.out];done)|(rw[E.out];simp;omega)),rfl⟩
 ·have E:=aK (show isDigitB c=true by unfold isDigitB;exact decide_eq_true (by omega))
  go_enter Tryz.func33,Tryz.ntmps33;go_wp2
  go_ret
  exact⟨ret_bool (by first|(rw[E.out];done)|(rw[E.out];simp;omega)),rfl⟩
 ·have E:=aK (show isDigitB c=false by unfold isDigitB;exact decide_eq_false (by omega))
  go_enter Tryz.func33,Tryz.ntmps33;go_wp2
  go_ret
  exact⟨ret_bool (by first|(rw[E.out];done)|(rw[E.out];simp;omega)),rfl⟩
def signOf (c:Int):Int:=if c=33 then 2 else if c=36 then 3 else if c=40 then 4 else if c=41 then 5 else if c=58 then 7 else if c=61 then 8 else if c=64 then 9 else if c=91 then 10 else if c=93 then 11 else if c=123 then 12 else if c=124 then 13 else if c=125 then 14 else if c=38 then 20 else 0
theorem signOf_begin (c:Int) (h:isBeginB c=true):signOf c=0:=by
 have h':=of_decide_eq_true h;unfold signOf;rw[if_neg (by omega),if_neg (by omega),if_neg (by omega),if_neg (by omega),if_neg (by omega),if_neg (by omega),if_neg (by omega),if_neg (by omega),if_neg (by omega),if_neg (by omega),if_neg (by omega),if_neg (by omega),if_neg (by omega)]
theorem sign_any (c:Int) (w:World) :
  Calls Tryz.prog 102 #[.int .u8 c] w fun e w'=>e = .returned (.int .i64 (signOf c))∧w=w':=by
 by_cases h33:c=33
 ·subst h33
  go_enter Tryz.func102,Tryz.ntmps102;go_wp2
  go_ret
  exact⟨rfl,rfl⟩
 by_cases h36:c=36
 ·subst h36
  go_enter Tryz.func102,Tryz.ntmps102;go_wp2
  go_ret
  exact⟨rfl,rfl⟩
 by_cases h40:c=40
 ·subst h40
  go_enter Tryz.func102,Tryz.ntmps102;go_wp2
  go_ret
  exact⟨rfl,rfl⟩
 by_cases h41:c=41
 ·subst h41
  go_enter Tryz.func102,Tryz.ntmps102;go_wp2
  go_ret
  exact⟨rfl,rfl⟩
 by_cases h58:c=58
 ·subst h58
  go_enter Tryz.func102,Tryz.ntmps102;go_wp2
  go_ret
  exact⟨rfl,rfl⟩
 by_cases h61:c=61
 ·subst h61
  go_enter Tryz.func102,Tryz.ntmps102;go_wp2
  go_ret
  exact⟨rfl,rfl⟩
 by_cases h64:c=64
 ·subst h64
  go_enter Tryz.func102,Tryz.ntmps102;go_wp2
  go_ret
  exact⟨rfl,rfl⟩
 by_cases h91:c=91
 ·subst h91
  go_enter Tryz.func102,Tryz.ntmps102;go_wp2
  go_ret
  exact⟨rfl,rfl⟩
 by_cases h93:c=93
 ·subst h93
  go_enter Tryz.func102,Tryz.ntmps102;go_wp2
  go_ret
  exact⟨rfl,rfl⟩
 by_cases h123:c=123
 ·subst h123
  go_enter Tryz.func102,Tryz.ntmps102;go_wp2
  go_ret
  exact⟨rfl,rfl⟩
 by_cases h124:c=124
 ·subst h124
  go_enter Tryz.func102,Tryz.ntmps102;go_wp2
  go_ret
  exact⟨rfl,rfl⟩
 by_cases h125:c=125
 ·subst h125
  go_enter Tryz.func102,Tryz.ntmps102;go_wp2
  go_ret
  exact⟨rfl,rfl⟩
 by_cases h38:c=38
 ·subst h38
  go_enter Tryz.func102,Tryz.ntmps102;go_wp2
  go_ret
  exact⟨rfl,rfl⟩
 have E:=aK (show signOf c=0 by unfold signOf;rw[if_neg h33,if_neg h36,if_neg h40,if_neg h41,if_neg h58,if_neg h61,if_neg h64,if_neg h91,if_neg h93,if_neg h123,if_neg h124,if_neg h125,if_neg h38])
 go_enter Tryz.func102,Tryz.ntmps102;go_wp2
 go_ret
 exact⟨ret_int (by rw[E.out]),rfl⟩
def inNameB (c:Int):Bool:=isBeginB c||isDigitB c
theorem sign_zero (c:Int) (w:World) (h:signOf c=0) :
  Calls Tryz.prog 102 #[.int .u8 c] w fun e w'=>e = .returned (.int .i64 0)∧w=w':=
 (sign_any c w).mono fun _ _ ⟨h1,h2⟩=>⟨by rw[h1,h],h2⟩
theorem isBegin_yes (c:Int) (w:World) (h:isBeginB c=true) :
  Calls Tryz.prog 32 #[.int .u8 c] w fun e w'=>e = .returned (.bool true)∧w=w':=
 (isBegin_any c w).mono fun _ _ ⟨h1,h2⟩=>⟨by rw[h1,h],h2⟩
theorem isBegin_no (c:Int) (w:World) (h:isBeginB c=false) :
  Calls Tryz.prog 32 #[.int .u8 c] w fun e w'=>e = .returned (.bool false)∧w=w':=
 (isBegin_any c w).mono fun _ _ ⟨h1,h2⟩=>⟨by rw[h1,h],h2⟩
theorem isDigit_yes (c:Int) (w:World) (h:isDigitB c=true) :
  Calls Tryz.prog 33 #[.int .u8 c] w fun e w'=>e = .returned (.bool true)∧w=w':=
 (isDigit_any c w).mono fun _ _ ⟨h1,h2⟩=>⟨by rw[h1,h],h2⟩
theorem isDigit_no (c:Int) (w:World) (h:isDigitB c=false) :
  Calls Tryz.prog 33 #[.int .u8 c] w fun e w'=>e = .returned (.bool false)∧w=w':=
 (isDigit_any c w).mono fun _ _ ⟨h1,h2⟩=>⟨by rw[h1,h],h2⟩
theorem token_name (b base:Nat) (s:ByteArray) (p q:Nat) (v:Value) (uns:Bool) (l:List Tok) (w:World)
  (hL:LexAt w b s p v false uns) (hown:w.ownsRow base 56 4 v l.length (toks l)) (hbase:base≤w.heap.size) (hB:base≤b) (hn:l.length≤2147483648)
  (hs:s.size≤140737488351232) (hpq:p<q) (hq:q≤s.size) (hb0:isBeginB (bt s p)=true) (hin:∀i:Nat,p≤i→i<q→inNameB (bt s i)=true) (hout:inNameB (bt s q)=false) :
  Calls Tryz.prog 90 #[.pointer (some ⟨b,0,none⟩)] w fun e w'=>e = .returned (.tuple #[])∧
   ∃v',LexAt w' b s q v' false uns∧w'.ownsRow base 56 4 v' (l.length+1) (toks (l++[⟨15,s.extract p q,p,q⟩]))∧Below base w w':=by
 have c0:=hL.c0;have c1:=hL.c1;have hp1:(p:Int)<(s.size:Int):=by omega
 have hbt:=bt_nat s p;have hb1:=of_decide_eq_true hb0;have hst1:=extract_one s bom p (by omega) (by decide) (by rw[bt_bom];omega)
 have hst2:=extract_one s dots p (by omega) (by decide) (by rw[bt_dots];omega)
 have hsg:=signOf_begin _ hb0;have hIN:=aK hin;have hOUT:=aK hout;have HST1:=aK hst1;have HST2:=aK hst2;have HSG:=aK hsg;have HB0:=aK hb0;clear hin hout hst1 hst2 hsg hb0;have k1:65≤bt s p:=by omega
 have k2:bt s p≤122:=by omega
 have k3:bt s p≠123:=by omega
 generalize hc:bt s p=c at *;have HC:=aK hc;clear hc hb1;have d1:(c==32)=false:=beq_eq_false_iff_ne.2 (by omega)
 have d2:(c==9)=false:=beq_eq_false_iff_ne.2 (by omega)
 have d3:(c==10)=false:=beq_eq_false_iff_ne.2 (by omega)
 have d4:(c==13)=false:=beq_eq_false_iff_ne.2 (by omega)
 have d5:(c==44)=false:=beq_eq_false_iff_ne.2 (by omega)
 have d6:(c==35)=false:=beq_eq_false_iff_ne.2 (by omega)
 go_enter Tryz.func90,Tryz.ntmps90
 go_wp2_with fail
 go_quiet (fail)
 go_wp2_with fail
 go_quiet ((go_at_call 59;exact quietA (starts_no s bom p _ hs (by decide) (by omega) HST1.out)))
 go_wp2_with fail
 go_quiet ((go_at_call 59;exact quietA (starts_no s dots p _ hs (by decide) (by omega) HST2.out)))
 go_wp2_with (first|(go_at_call 102;refine(sign_zero c _ HSG.out).mono ?_;rintro e w' ⟨rfl,rfl⟩)|(go_at_call 32;refine(isBegin_yes c _ HB0.out).mono ?_;rintro e w' ⟨rfl,rfl⟩))
 go_loop [3] (fun t=>∃k:Nat,p≤k∧k≤q∧t = .int .i64 k) (fun t=>q-(intOf t).toNat)
 case atStart=>exact⟨p,Nat.le_refl _,by omega,rfl⟩
 case round=>
  obtain⟨k,hk1,hk2,rfl⟩:=hrel
  by_cases hlt:k<q
  ·have hkk:=hIN.out k hk1 hlt
   unfold inNameB at hkk
   by_cases hbg:isBeginB (bt s k)=true
   ·have HBG:=aK hbg
    clear hkk hbg
    go_wp2_with (first|(go_at_call 103;refine(next_any b s k _ hs (by exact c0)).mono ?_;rintro e w' ⟨rfl,rfl⟩)|(go_at_call 32;refine(isBegin_yes _ _ HBG.out).mono ?_;rintro e w' ⟨rfl,rfl⟩))
    go_round
    case rel=>exact⟨k+1,by omega,by omega,by go_num⟩
    case measure=>simp[intOf];omega
   ·have hbg':isBeginB (bt s k)=false:=by simpa using hbg
    rw[hbg',Bool.false_or]at hkk;have HBG:=aK hbg';have HDG:=aK hkk;clear hkk hbg hbg'
    go_wp2_with (first|(go_at_call 103;refine(next_any b s k _ hs (by exact c0)).mono ?_;rintro e w' ⟨rfl,rfl⟩)|(go_at_call 32;refine(isBegin_no _ _ HBG.out).mono ?_;rintro e w' ⟨rfl,rfl⟩)|(go_at_call 33;refine(isDigit_yes _ _ HDG.out).mono ?_;rintro e w' ⟨rfl,rfl⟩))
    go_round
    case rel=>exact⟨k+1,by omega,by omega,by go_num⟩
    case measure=>simp[intOf];omega
  ·obtain rfl:k=q:=by omega
   have hoo:=hOUT.out;unfold inNameB at hoo;rw[Bool.or_eq_false_iff]at hoo;have HBG:=aK hoo.1;have HDG:=aK hoo.2;clear hoo
   go_wp2_with (first|(go_at_call 103;refine(next_any b s k _ hs (by exact c0)).mono ?_;rintro e w' ⟨rfl,rfl⟩)|(go_at_call 32;refine(isBegin_no _ _ HBG.out).mono ?_;rintro e w' ⟨rfl,rfl⟩)|(go_at_call 33;refine(isDigit_no _ _ HDG.out).mono ?_;rintro e w' ⟨rfl,rfl⟩))
   have i0:(0:Int)≤(p:Int):=by omega
   have i1:(p:Int)≤(k:Int):=by omega
   have i2:(k:Int)≤(s.size:Int):=by omega
   go_region_with ((go_at_call 101;refine(add_any b base 15 k (s.extract p k) s p v false uns l _ (by exact hL) (by exact hown) (by exact hbase) hB hn).mono ?_;rintro e w' ⟨rfl,v',hL',hown',hbel'⟩))
   all_goals
    go_wp2
    go_end0
    exact⟨rfl,v',hL',hown',⟨hbel'.os,hbel'.tape,hbel'.output,hbel'.size,hbel'.block⟩⟩
end Go.Proofs.YtjolkdnfbmkjiaaGreatDoor.Lex
