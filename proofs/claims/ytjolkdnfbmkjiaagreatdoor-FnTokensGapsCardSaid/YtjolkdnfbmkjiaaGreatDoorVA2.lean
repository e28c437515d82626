import Derived.Test.YtjolkdnfbmkjiaaGreatDoorVA1
import Derived.Shelf.Unicode.DecodeSlow
import Derived.Test.YtjolkdnfbmkjiaaGreatDoorProg
import Derived.Laws.OwnMore
import Derived.Deep.AppendLies
import Derived.Deep.Draws
import Derived.Laws.Rows
import Derived.Lib.Strings
import Derived.KernelRfl
import Derived.Deep.QuietTactic
import Derived.BigQuiet
import Derived.Deep.RegionHeld3
import Derived.Deep.DeepCutAuto
import Derived.Deep.CutBlock
set_option maxRecDepth 100000
set_option maxHeartbeats 8000000
set_option linter.unusedVariables false
set_option linter.unusedSimpArgs false
namespace Go.Proofs.YtjolkdnfbmkjiaaGreatDoor.Env
open Go.RowKit Go.Proofs.YtjolkdnfbmkjiaaGreatDoorW.PrintWords Keep Go.Proofs.YtjolkdnfbmkjiaaGreatDoor.Mod Rel WtL
abbrev BW (w wx:World):Prop:=Below (w.alloc (.cells #[.int .i64 0,.int .i64 0,.int .i64 0,.string ⟨#[]⟩] 51)).heap.size (w.alloc (.cells #[.int .i64 0,.int .i64 0,.int .i64 0,.string ⟨#[]⟩] 51)) wx
def Blk (w:World) (g:Nat) (t:TypeId) (cs:Array Value):Prop:=w.heap[g]?=some (.cells cs t (0,0))
section
variable {w w':World} {g:Nat} {t:TypeId} {cs:Array Value}
theorem Blk.lt (h:Blk w g t cs):g<w.heap.size:=by
 rcases Nat.lt_or_ge g w.heap.size with hlt|hge
 ·exact hlt
 ·unfold Blk at h;rw[Array.getElem?_eq_none hge]at h;cases h
theorem Blk.cell (h:Blk w g t cs) (i:Nat):w.cell? ⟨g,i,none⟩=cs[i]?:=cell_of_row w g i cs t (0,0) h
theorem Blk.frozen (h:Blk w g t cs) (i:Nat):w.frozen? ⟨g,i,none⟩=false:=by
 unfold Blk at h;simp[World.frozen?,h]
theorem Blk.new (w:World) (t:TypeId) (cs:Array Value):Blk (w.alloc (.cells cs t)) w.heap.size t cs:=heap_alloc_new w _
theorem Blk.alloc (h:Blk w g t cs) (o:Obj):Blk (w.alloc o) g t cs:=(Below.heap_alloc w o g h.lt).trans h
theorem Blk.set_ (h:Blk w g t cs) (i:Nat) (u:Value):Blk (w.setCell ⟨g,i,none⟩ u) g t (cs.setIfInBounds i u):=by
 unfold Blk at h ⊢;simp[World.setCell,Array.getElem?_modify,h]
theorem Blk.far (h:Blk w g t cs) {p:Addr} (hp:g≠p.block) (u:Value):Blk (w.setCell p u) g t cs:=(Below.heap_setCell w p u g hp).trans h
theorem Blk.below {B:Nat} (h:Blk w g t cs) (hb:Below B w w') (hg:g<B):Blk w' g t cs:=(hb.block g hg).trans h
theorem Blk.keep {p q:Nat} (h:Blk w g t cs) (hk:Keeps p q w w') (h1:g≠p) (h2:g≠q):Blk w' g t cs:=(hk.block g h.lt h1 h2).trans h
end
def BodyAt (w:World) (bb:Nat) (s:ByteArray):Prop:=∀j:Nat,j<s.size→w.cell? ⟨bb,j,none⟩=some (.int .u8 (bt s j))
theorem BodyAt.below {w w':World} {bb:Nat} {s:ByteArray} (h:BodyAt w bb s) (hb:Below w.heap.size w w'):BodyAt w' bb s:=fun j hj=>pw_cell_below hb (h j hj)
theorem BodyAt.keep {w w':World} {bb p q:Nat} {s:ByteArray} (h:BodyAt w bb s) (hk:Keeps p q w w') (h1:bb≠p) (h2:bb≠q):BodyAt w' bb s:=fun j hj=>hk.cell (h j hj) h1 h2
theorem below_one {w w1:World} {o:Obj} (hb:Below (w.alloc o).heap.size (w.alloc o) w1):Below w.heap.size w w1:=
 ((Below.refl w.heap.size w).alloc (Nat.le_refl _) o).trans (hb.mono (by simp))
abbrev Tabs (w:World):Prop:=Lib.Utf8Tabs 0 1 w
theorem tabs_keep {w w':World} {p q:Nat} (h:Tabs w) (hk:Keeps p q w w') (h1:0≠p) (h2:0≠q) (h3:1≠p) (h4:1≠q):Tabs w':=
 ⟨fun c hc=>hk.cell (h.1 c hc) h1 h2,fun i hi=>⟨hk.cell (h.2 i hi).1 h3 h4,hk.cell (h.2 i hi).2 h3 h4⟩⟩
structure Tx (sb bb cap:Nat) (s:ByteArray) (w:World):Prop where
 body:BodyAt w bb s
 tabs:Tabs w
 s0:w.cell? ⟨sb,0,none⟩=some (.slice (some ⟨bb,0,none⟩) s.size cap)
 cap:s.size≤cap
 size:s.size≤1000000000
theorem Tx.below {sb bb cap:Nat} {s:ByteArray} {w w':World} (h:Tx sb bb cap s w) (hb:Below w.heap.size w w'):Tx sb bb cap s w':=
 ⟨h.body.below hb,Utf8Tabs_below h.tabs hb,pw_cell_below hb h.s0,h.cap,h.size⟩
abbrev errV (g:Nat):Value:=.iface 83 (.pointer (some ⟨g,0,none⟩))
abbrev tokV (t:Tok):Value:=.agg #[.int .i64 t.kind,.int .i64 t.start,.int .i64 t.stop,.string t.value]
abbrev zeroT:Value:=.agg #[.int .i64 0,.int .i64 0,.int .i64 0,.string ⟨#[]⟩]
def TokRes (r:Option Tok) (w:World) (e:Ending) (w':World):Prop:=Below w.heap.size w w'∧((∃t,r=some t∧e = .returned (.tuple #[tokV t,.nilIface]))∨(r=none∧∃g,e = .returned (.tuple #[zeroT,errV g])))
structure At where
 pb:Nat
 qb:Nat
 xb:Nat
 sb:Nat
 bb:Nat
 cap:Nat
 s:ByteArray
 lx:Nat→Option Tok
 ask:Nat→Prop
structure OKLex (E:At):Prop where
 prog:LxOk E.lx E.s
 le:∀p,E.ask p→p≤E.s.size
 next:∀p t,E.ask p→E.lx p=some t→E.ask t.stop
 read:∀W p,Tx E.sb E.bb E.cap E.s W→E.ask p→Calls Tryz.prog 31 #[.pointer (some ⟨E.sb,0,none⟩),.int .i64 p] W fun e w'=>TokRes (E.lx p) W e w'
structure Src (E:At) (w:World):Prop where
 x0:w.cell? ⟨E.xb,0,none⟩=some (.pointer (some ⟨E.sb,0,none⟩))
 tx:Tx E.sb E.bb E.cap E.s w
 ok:OKLex E
theorem Src.below {E:At} {w w':World} (h:Src E w) (hb:Below w.heap.size w w'):Src E w':=
 ⟨pw_cell_below hb h.x0,h.tx.below hb,h.ok⟩
theorem Src.s0 {E:At} {w:World} (h:Src E w):w.cell? ⟨E.sb,0,none⟩=some (.slice (some ⟨E.bb,0,none⟩) E.s.size E.cap):=h.tx.s0
theorem Src.body {E:At} {w:World} (h:Src E w):BodyAt w E.bb E.s:=h.tx.body
theorem Src.size {E:At} {w:World} (h:Src E w):E.s.size≤1000000000:=h.tx.size
theorem Src.cap {E:At} {w:World} (h:Src E w):E.s.size≤E.cap:=h.tx.cap
structure Far (E:At):Prop where
 xp:E.xb≠E.pb
 xq:E.xb≠E.qb
 sp:E.sb≠E.pb
 sq:E.sb≠E.qb
 bp:E.bb≠E.pb
 bq:E.bb≠E.qb
 pq:E.pb≠E.qb
 fp:0≠E.pb
 fq:0≠E.qb
 ap:1≠E.pb
 aq:1≠E.qb
end Go.Proofs.YtjolkdnfbmkjiaaGreatDoor.Env
