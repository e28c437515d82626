import Derived.Below
import Derived.Laws.OwnMore
import Derived.Deep.AppendLies
import Derived.Deep.Draws
import Derived.Laws.Rows
import Derived.WalkKit
import Derived.Lib.Strings
import Derived.KernelRfl
import Derived.Deep.QuietTactic
import Derived.BigQuiet
import Derived.Deep.RegionHeld3
import Derived.Deep.DeepCutAuto
import Derived.Deep.CutBlock
namespace Go.Proofs.YtklgaldpcaogbaaGreatDoor.Mem
open Go.RowKit

def Blk (w : World) (g : Nat) (t : TypeId) (cs : Array Value) : Prop := w.heap[g]? = some (.cells cs t (0, 0))

section
variable {w w' : World} {g : Nat} {t : TypeId} {cs : Array Value}
theorem Blk.lt (h : Blk w g t cs) : g < w.heap.size := by
  rcases Nat.lt_or_ge g w.heap.size with hlt | hge
  · exact hlt
  · unfold Blk at h; rw [Array.getElem?_eq_none hge] at h; cases h
theorem Blk.cell (h : Blk w g t cs) (i : Nat) : w.cell? ⟨g, i, none⟩ = cs[i]? := cell_of_row w g i cs t (0, 0) h
theorem Blk.frozen (h : Blk w g t cs) (i : Nat) : w.frozen? ⟨g, i, none⟩ = false := by
  unfold Blk at h
  simp [World.frozen?, h]
theorem Blk.new (w : World) (t : TypeId) (cs : Array Value) : Blk (w.alloc (.cells cs t)) w.heap.size t cs := heap_alloc_new w _
theorem Blk.drew (h : Blk w g t cs) : Blk w.drew g t cs := h
theorem Blk.drewN (h : Blk w g t cs) (n : Nat) : Blk (w.drewN n) g t cs := h
theorem Blk.alloc (h : Blk w g t cs) (o : Obj) : Blk (w.alloc o) g t cs := (Below.heap_alloc w o g h.lt).trans h
theorem Blk.set_ (h : Blk w g t cs) (i : Nat) (u : Value) : Blk (w.setCell ⟨g, i, none⟩ u) g t (cs.setIfInBounds i u) := by
  unfold Blk at h ⊢
  simp [World.setCell, Array.getElem?_modify, h]
theorem Blk.far (h : Blk w g t cs) {p : Addr} (hp : g ≠ p.block) (u : Value) : Blk (w.setCell p u) g t cs := (Below.heap_setCell w p u g hp).trans h
theorem Blk.below {B : Nat} (h : Blk w g t cs) (hb : Below B w w') (hg : g < B) : Blk w' g t cs := (hb.block g hg).trans h
theorem Blk.grown {row : Option Nat} (h : Blk w g t cs) (hb : w.grownBy w' row) (hg : some g ≠ row) : Blk w' g t cs := (hb.block g h.lt hg).trans h
theorem Blk.ne_ {g' : Nat} {t' : TypeId} {cs' : Array Value} (h : Blk w g t cs) (h' : Blk w g' t' cs') (hne : t ≠ t') : g ≠ g' := by
  rintro rfl
  unfold Blk at h h'
  rw [h] at h'
  injection h' with h'
  injection h' with _ ht
  exact hne ht
theorem own_blk_ne {base : Nat} {e : TypeId} {size n : Nat} {v : Value} {xs : List Value} (h : w.ownsRow base e size v n xs) (hg : Blk w g t cs) (hne : e ≠ t) : v.ownBlock ≠ some g := by
  rcases h.2 with ⟨rfl, _⟩ | ⟨g', cap, cur, rfl, _, hh, _⟩
  · simp [Value.ownBlock]
  · intro he
    have : g' = g := by simpa [Value.ownBlock] using he
    subst this
    exact Blk.ne_ (t := e) hh hg hne rfl
end

/-- The lexer of the reference at block b: its text, where it is, its tokens' slice, whether it is refused, or not sure. -/
def LexAt (w : World) (b : Nat) (s : ByteArray) (at_ : Int) (v : Value) (bad uns : Bool) : Prop :=
  Blk w b 46 #[.string s, .int .i64 at_, v, .bool bad, .bool uns]

section
variable {w w' : World} {b : Nat} {s : ByteArray} {at_ : Int} {v : Value} {bad uns : Bool}
theorem LexAt.c0 (h : LexAt w b s at_ v bad uns) : w.cell? ⟨b, 0, none⟩ = some (.string s) := (Blk.cell h 0).trans rfl
theorem LexAt.c1 (h : LexAt w b s at_ v bad uns) : w.cell? ⟨b, 1, none⟩ = some (.int .i64 at_) := (Blk.cell h 1).trans rfl
theorem LexAt.c2 (h : LexAt w b s at_ v bad uns) : w.cell? ⟨b, 2, none⟩ = some v := (Blk.cell h 2).trans rfl
theorem LexAt.c3 (h : LexAt w b s at_ v bad uns) : w.cell? ⟨b, 3, none⟩ = some (.bool bad) := (Blk.cell h 3).trans rfl
theorem LexAt.c4 (h : LexAt w b s at_ v bad uns) : w.cell? ⟨b, 4, none⟩ = some (.bool uns) := (Blk.cell h 4).trans rfl
theorem LexAt.drewN (h : LexAt w b s at_ v bad uns) (n : Nat) : LexAt (w.drewN n) b s at_ v bad uns := h
end

/-- A list of tokens, each of four cells. -/
structure Tok where
  kind : Int
  value : ByteArray
  start : Int
  stop : Int
def Tok.cells (t : Tok) : List Value := [.int .i64 t.kind, .string t.value, .int .i64 t.start, .int .i64 t.stop]
def toks (l : List Tok) : List Value := l.flatMap Tok.cells
theorem toks_length (l : List Tok) : (toks l).length = l.length * 4 := by
  induction l with
  | nil => rfl
  | cons t l ih => simp only [toks, List.flatMap_cons, List.length_append] at ih ⊢; rw [ih]; simp [Tok.cells]; omega
theorem toks_snoc (l : List Tok) (t : Tok) : toks (l ++ [t]) = toks l ++ t.cells := by simp [toks]
end Go.Proofs.YtklgaldpcaogbaaGreatDoor.Mem
