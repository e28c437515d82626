import Derived.Below
import Derived.WalkKit
import Derived.Test.YtjoagdldbmlenaaGreatDoorVW1
import Derived.Lib.Strings
import Derived.Lib.RuneBytes
import Derived.Shelf.Unicode.DecodeSlow
import Derived.Lib.DecodeN
set_option maxRecDepth 100000
set_option maxHeartbeats 8000000
set_option linter.unusedVariables false
set_option linter.unusedSimpArgs false
namespace Go.Proofs.YtjoagdldbmlenaaGreatDoor.Keep
open Go.RowKit Go.Proofs.YtjoagdldbmlenaaGreatDoorW.PrintWords
def Shape (w w' : World) : Prop := ∀ (k : Nat) (cs : Array Value) (T : TypeId) (fr : Nat × Nat), w.heap[k]? = some (Obj.cells cs T fr) → ∃ cs', w'.heap[k]? = some (Obj.cells cs' T fr) ∧ cs'.size = cs.size
theorem shape_lt {w : World} {b : Nat} {o : Obj} (h : w.heap[b]? = some o) : b < w.heap.size := by
 rcases Nat.lt_or_ge b w.heap.size with h1 | h1
 ·exact h1
 ·rw [Array.getElem?_eq_none h1] at h; cases h
theorem Shape.refl (w : World) : Shape w w := fun k cs T fr h => ⟨cs, h, rfl⟩
theorem Shape.trans {a w w' : World} (h : Shape a w) (k : Shape w w') : Shape a w' := fun i cs T fr hi => by
 obtain ⟨c1, h1, e1⟩ := h i cs T fr hi
 obtain ⟨c2, h2, e2⟩ := k i c1 T fr h1
 exact ⟨c2, h2, e2.trans e1⟩
theorem Shape.of_below {w w' : World} (h : Below w.heap.size w w') : Shape w w' := fun i cs T fr hi => ⟨cs, (h.block i (shape_lt hi)).trans hi, rfl⟩
theorem shape_set (w : World) (b j : Nat) (u : Value) : Shape w (w.setCell ⟨b, j, none⟩ u) := fun k cs T fr h => by
 by_cases hk : k = b
 ·subst hk
  exact ⟨cs.setIfInBounds j u, by simp [World.setCell, Array.getElem?_modify, h], by simp⟩
 ·exact ⟨cs, (Below.heap_setCell w ⟨b, j, none⟩ u k hk).trans h, rfl⟩
structure Keeps (p q : Nat) (w w' : World) : Prop where
 os : w'.os = w.os
 tape : w'.tape = w.tape
 output : w'.output = w.output
 size : w.heap.size ≤ w'.heap.size
 block : ∀ k, k < w.heap.size → k ≠ p → k ≠ q → w'.heap[k]? = w.heap[k]?
 shape : Shape w w'
section
variable {p q : Nat} {a w w' : World}
theorem Keeps.refl (p q : Nat) (w : World) : Keeps p q w w := ⟨rfl, rfl, rfl, Nat.le_refl _, fun _ _ _ _ => rfl, .refl w⟩
theorem Keeps.trans (h : Keeps p q a w) (k : Keeps p q w w') : Keeps p q a w' :=
 ⟨k.os.trans h.os, k.tape.trans h.tape, k.output.trans h.output, Nat.le_trans h.size k.size, fun i hi h1 h2 => (k.block i (Nat.lt_of_lt_of_le hi h.size) h1 h2).trans (h.block i hi h1 h2), h.shape.trans k.shape⟩
theorem Keeps.of_below (p q : Nat) (h : Below w.heap.size w w') : Keeps p q w w' := ⟨h.os, h.tape, h.output, h.size, fun k hk _ _ => h.block k hk, .of_below h⟩
theorem Keeps.then (h : Keeps p q a w) (k : Below w.heap.size w w') : Keeps p q a w' := h.trans (.of_below p q k)
theorem Keeps.alloc (h : Keeps p q a w) (o : Obj) : Keeps p q a (w.alloc o) := h.then ((Below.refl _ _).alloc (Nat.le_refl _) o)
theorem Keeps.drew (h : Keeps p q a w) : Keeps p q a w.drew := ⟨h.os, h.tape, h.output, h.size, h.block, h.shape⟩
theorem Keeps.setP (h : Keeps p q a w) (j : Nat) (u : Value) : Keeps p q a (w.setCell ⟨p, j, none⟩ u) :=
 h.trans ⟨rfl, rfl, rfl, by simp [World.setCell], fun k hk h1 h2 => Below.heap_setCell _ _ _ _ h1, shape_set _ _ _ _⟩
theorem Keeps.setNew (h : Keeps p q a w) {x : Addr} (hx : a.heap.size ≤ x.block) (u : Value) : Keeps p q a (w.setCell x u) :=
 ⟨h.os, h.tape, h.output, by simp [World.setCell]; exact h.size, fun k hk h1 h2 => (Below.heap_setCell _ _ _ _ (by omega)).trans (h.block k hk h1 h2), fun k cs T fr hk => by
  obtain ⟨c1, h1, e1⟩ := h.shape k cs T fr hk
  have := shape_lt hk
  exact ⟨c1, (Below.heap_setCell _ _ _ _ (by omega)).trans h1, e1⟩⟩
theorem Keeps.cell (h : Keeps p q w w') {b o : Nat} {v : Value} (hc : w.cell? ⟨b, o, none⟩ = some v) (h1 : b ≠ p) (h2 : b ≠ q) : w'.cell? ⟨b, o, none⟩ = some v := by
 rw [← hc]
 exact World.cell?_of_block (w := w) (h.block b (World.block_lt_of_cell? w _ hc) h1 h2)
theorem Keeps.below (h : Keeps p q w w') {B : Nat} (hB : B ≤ w.heap.size) (h1 : B ≤ p) (h2 : B ≤ q) : Below B w w' :=
 ⟨h.os, h.tape, h.output, h.size, fun k hk => h.block k (by omega) (by omega) (by omega)⟩
end
end Go.Proofs.YtjoagdldbmlenaaGreatDoor.Keep
namespace Go.Proofs.YtjoagdldbmlenaaGreatDoor.Mod
open Go.Proofs.YtjoagdldbmlenaaGreatDoorW.PrintWords
structure Tok where
 kind : Int
 start : Nat
 stop : Nat
 value : ByteArray
def scan (P : Int → Bool) (s : ByteArray) : Nat → Nat → Nat
 | 0, p => p
 | n + 1, p => if P (bt s p) then scan P s n (p + 1) else p
def isWs (c : Int) : Bool := c == 9 || c == 32 || c == 10 || c == 13 || c == 44
def isDig (c : Int) : Bool := decide (48 ≤ c) && decide (c ≤ 57)
def isLet (c : Int) : Bool := c == 95 || (decide (65 ≤ c) && decide (c ≤ 90)) || (decide (97 ≤ c) && decide (c ≤ 122))
def isNam (c : Int) : Bool := isLet c || isDig c
def signK (c : Int) : Int :=
 if c = 33 then 2 else if c = 36 then 3 else if c = 38 then 20 else if c = 40 then 4 else if c = 41 then 5 else if c = 58 then 7 else if c = 61 then 8 else if c = 64 then 9 else if c = 91 then 10 else if c = 93 then 11 else if c = 123 then 12 else if c = 124 then 13 else if c = 125 then 14 else 0
def mDig (s : ByteArray) (p : Nat) : Option Nat := if isDig (bt s p) then some (scan isDig s s.size p) else none
def mInt (s : ByteArray) (p : Nat) : Option Nat :=
 if bt s p = 48 then (if isDig (bt s (p + 1 : Nat)) then none else some (p + 1)) else mDig s p
def mFrac (s : ByteArray) (p : Nat) : Option (Bool × Nat) :=
 if bt s p = 46 then (mDig s (p + 1)).map fun q => (true, q) else some (false, p)
def mExp (s : ByteArray) (p : Nat) : Option (Bool × Nat) :=
 if bt s p = 69 ∨ bt s p = 101 then (mDig s (if bt s (p + 1 : Nat) = 43 ∨ bt s (p + 1 : Nat) = 45 then p + 2 else p + 1)).map fun q => (true, q) else some (false, p)
def mNum (s : ByteArray) (q : Nat) : Option Tok :=
 (mInt s (if bt s q = 45 then q + 1 else q)).bind fun p1 => (mFrac s p1).bind fun x => (mExp s x.2).map fun y => ⟨if x.1 || y.1 then 17 else 16, q, y.2, s.extract q y.2⟩
def mTokAt (s : ByteArray) (q : Nat) : Option Tok :=
 if s.size ≤ q then some ⟨1, q, q, ⟨#[]⟩⟩
 else if signK (bt s q) ≠ 0 then some ⟨signK (bt s q), q, q + 1, ⟨#[]⟩⟩
 else if bt s q = 46 then (if bt s (q + 1 : Nat) = 46 ∧ bt s (q + 2 : Nat) = 46 then some ⟨6, q, q + 3, ⟨#[]⟩⟩ else none)
 else if isLet (bt s q) then some ⟨15, q, scan isNam s s.size (q + 1), s.extract q (scan isNam s s.size (q + 1))⟩
 else if bt s q = 45 ∨ isDig (bt s q) then mNum s q
 else none
abbrev Lx := Nat → Option Tok
section
variable (lx : Lx)
def mTok (k : Int) (t : Tok) : Option Tok := if t.kind = k then lx t.stop else none
def mName (t : Tok) : Option Tok := mTok lx 15 t
def mVar (t : Tok) : Option Tok := (mTok lx 3 t).bind (mName lx)
def nullT : ByteArray := ⟨#[110, 117, 108, 108]⟩
def onT : ByteArray := ⟨#[111, 110]⟩
end
end Go.Proofs.YtjoagdldbmlenaaGreatDoor.Mod
namespace Go.Proofs.YtjoagdldbmlenaaGreatDoor.Sim
open Go.Proofs.YtjoagdldbmlenaaGreatDoor.Mod Go.Proofs.YtjoagdldbmlenaaGreatDoorW.PrintWords
theorem scan_eq (P : Int → Bool) (s : ByteArray) : ∀ (n p q : Nat), p ≤ q → q - p ≤ n → (∀ i, p ≤ i → i < q → P (bt s i) = true) → P (bt s q) = false → scan P s n p = q
 | 0, p, q, h0, h1, _, _ => by
  have : p = q := by omega
  rw [this]; rfl
 | n + 1, p, q, h0, h1, h2, h3 => by
  unfold scan
  by_cases hpq : p = q
  ·subst hpq
   rw [h3]; rfl
  ·rw [h2 p (Nat.le_refl _) (by omega), if_pos rfl]
   exact scan_eq P s n (p + 1) q (by omega) (by omega) (fun i hi hq => h2 i (by omega) hq) h3
theorem scan_end (P : Int → Bool) (s : ByteArray) : ∀ (d p e : Nat), e - p = d → p ≤ e → P (bt s e) = false → ∃ q, p ≤ q ∧ q ≤ e ∧ (∀ i, p ≤ i → i < q → P (bt s i) = true) ∧ P (bt s q) = false
 | 0, p, e, h, h1, h2 => ⟨e, h1, Nat.le_refl _, fun i h3 h4 => by omega, h2⟩
 | d + 1, p, e, h, h1, h2 => by
  cases hp : P (bt s p) with
  | false => exact ⟨p, Nat.le_refl _, h1, fun i h3 h4 => by omega, hp⟩
  | true =>
   obtain ⟨q, a, b, c, e'⟩ := scan_end P s d (p + 1) e (by omega) (by omega) h2
   refine ⟨q, by omega, b, fun i hi hq => ?_, e'⟩
   rcases Nat.lt_or_ge p i with h | h
   ·exact c i h hq
   ·obtain rfl : i = p := by omega
    exact hp
theorem scan_spec (P : Int → Bool) (s : ByteArray) (n p e : Nat) (h : p ≤ e) (hn : e - p ≤ n) (he : P (bt s e) = false) :
  p ≤ scan P s n p ∧ scan P s n p ≤ e ∧ (∀ i, p ≤ i → i < scan P s n p → P (bt s i) = true) ∧ P (bt s (scan P s n p : Nat)) = false := by
 obtain ⟨q, a, b, c, d⟩ := scan_end P s _ p e rfl h he
 rw [scan_eq P s n p q a (by omega) c d]
 exact ⟨a, b, c, d⟩
def sh (d : Nat) (t : Tok) : Tok := ⟨t.kind, d + t.start, d + t.stop, t.value⟩
theorem bt_nat (s : ByteArray) (i : Nat) (h : i < s.size) : bt s i = ((s[i]'h).toNat : Int) := by simp [bt, h]
def Reg0 (m : Nat) (t : Tok) : Prop := (t.kind = 14 ∧ t.stop = m + 2) ∨ (t.stop ≤ m ∧ t.kind ≠ 1 ∧ t.kind ≠ 12 ∧ t.kind ≠ 14)
section
variable {B c : ByteArray} {d m : Nat}
def Reg (m : Nat) (t : Tok) : Prop := Reg0 m t ∧ (t.value.toList = onT.toList → t.kind = 15)
def SimF (m d : Nat) (f g : Tok → Option Tok) : Prop := ∀ t, Reg m t → g (sh d t) = (f t).map (sh d) ∧ ∀ t', f t = some t' → Reg m t'
theorem SimF.some : SimF m d some some := fun t ht => ⟨rfl, fun t' e => by obtain rfl := Option.some.inj e; exact ht⟩
end
end Go.Proofs.YtjoagdldbmlenaaGreatDoor.Sim
namespace Go.Proofs.YtjoagdldbmlenaaGreatDoor.Four
open Go.Proofs.YtjoagdldbmlenaaGreatDoor.Mod Sim Go.Proofs.YtjoagdldbmlenaaGreatDoorW.PrintWords
theorem bt_out (s : ByteArray) (i : Nat) (h : s.size ≤ i) : bt s i = 0 := by unfold bt; rw [dif_neg (by simp; omega)]
section
variable (a : ByteArray)
def tailT : ByteArray := ⟨#[10, 125]⟩
def pieceT : ByteArray := a ++ tailT
end
def body (pre a post : ByteArray) : ByteArray := pre ++ (pieceT a) ++ post
end Go.Proofs.YtjoagdldbmlenaaGreatDoor.Four
namespace Go.Proofs.YtjoagdldbmlenaaGreatDoor.Step
open Go.Proofs.YtjoagdldbmlenaaGreatDoor.Mod Sim Four Go.Proofs.YtjoagdldbmlenaaGreatDoorW.PrintWords
theorem scan_all (P : Int → Bool) (hP : P 0 = false) (s : ByteArray) (p : Nat) (h : p ≤ s.size) :
  p ≤ scan P s s.size p ∧ scan P s s.size p ≤ s.size ∧ (∀ i, p ≤ i → i < scan P s s.size p → P (bt s i) = true) ∧ P (bt s (scan P s s.size p : Nat)) = false :=
 scan_spec P s s.size p s.size h (by omega) (by rw [bt_out s _ (Nat.le_refl _)]; exact hP)
theorem dig_prog {s : ByteArray} {p q : Nat} (h : mDig s p = some q) : p < q ∧ q ≤ s.size := by
 unfold mDig at h
 by_cases hd : isDig (bt s p) = true
 ·rw [if_pos hd] at h
  obtain rfl := Option.some.inj h
  have hp : p < s.size := by
   rcases Nat.lt_or_ge p s.size with h1 | h1
   ·exact h1
   ·rw [bt_out s p h1] at hd; cases hd
  obtain ⟨a, b, _, y⟩ := scan_all isDig rfl s p (by omega)
  refine ⟨?_, b⟩
  rcases Nat.lt_or_ge p (scan isDig s s.size p) with h1 | h1
  ·exact h1
  ·have : scan isDig s s.size p = p := by omega
   rw [this, hd] at y; cases y
 ·rw [if_neg hd] at h; cases h
theorem int_prog {s : ByteArray} {p q : Nat} (h : mInt s p = some q) : p < q ∧ q ≤ s.size := by
 unfold mInt at h
 by_cases h0 : bt s p = 48
 ·rw [if_pos h0] at h
  have hp : p < s.size := by
   rcases Nat.lt_or_ge p s.size with h1 | h1
   ·exact h1
   ·rw [bt_out s p h1] at h0; cases h0
  split at h
  ·cases h
  ·obtain rfl := Option.some.inj h; omega
 ·rw [if_neg h0] at h; exact dig_prog h
theorem frac_prog {s : ByteArray} {p : Nat} {q : Bool × Nat} (h : mFrac s p = some q) (hp : p ≤ s.size) : p ≤ q.2 ∧ q.2 ≤ s.size := by
 unfold mFrac at h
 split at h
 ·cases hx : mDig s (p + 1) with
  | none => rw [hx] at h; cases h
  | some x =>
   rw [hx] at h
   obtain rfl := Option.some.inj h
   have := dig_prog hx
   simp only; omega
 ·obtain rfl := Option.some.inj h
  exact ⟨Nat.le_refl _, hp⟩
theorem exp_prog {s : ByteArray} {p : Nat} {q : Bool × Nat} (h : mExp s p = some q) (hp : p ≤ s.size) : p ≤ q.2 ∧ q.2 ≤ s.size := by
 unfold mExp at h
 split at h
 ·generalize hk : (if bt s (p + 1 : Nat) = 43 ∨ bt s (p + 1 : Nat) = 45 then p + 2 else p + 1) = k at h
  have hk1 : p < k := by rw [← hk]; split <;> omega
  cases hx : mDig s k with
  | none => rw [hx] at h; cases h
  | some x =>
   rw [hx] at h
   obtain rfl := Option.some.inj h
   have := dig_prog hx
   simp only; omega
 ·obtain rfl := Option.some.inj h
  exact ⟨Nat.le_refl _, hp⟩
end Go.Proofs.YtjoagdldbmlenaaGreatDoor.Step
namespace Go.Proofs.YtjoagdldbmlenaaGreatDoor.Fuel
open Go.Proofs.YtjoagdldbmlenaaGreatDoorW.PrintWords Go.Proofs.YtjoagdldbmlenaaGreatDoor.Mod Sim Four Step
def mu (s : ByteArray) (t : Tok) : Nat := if t.kind = 1 then 0 else s.size - t.stop + 1
def Prg (s : ByteArray) (b : Nat) (F : Tok → Option Tok) : Prop := ∀ t t', t.stop ≤ s.size → F t = some t' → t'.stop ≤ s.size ∧ mu s t' + b ≤ mu s t
section
variable {s : ByteArray}
theorem Prg.some : Prg s 0 Option.some := fun t t' h1 h2 => by obtain rfl := Option.some.inj h2; exact ⟨h1, Nat.le_refl _⟩
end
end Go.Proofs.YtjoagdldbmlenaaGreatDoor.Fuel
namespace Go.Proofs.YtjoagdldbmlenaaGreatDoor.Tree
open Go.Proofs.YtjoagdldbmlenaaGreatDoorW.PrintWords Go.Proofs.YtjoagdldbmlenaaGreatDoor.Mod Sim Four Step Fuel
structure Nd where
 kind : Int
 name : ByteArray
 alias : ByteArray
 text : ByteArray
 flag : Int
 size : Nat
abbrev NL := List Nd
def emp : ByteArray := ⟨#[]⟩
def nd (k : Int) (name alias text : ByteArray) (flag : Int) (kids : List NL) : NL := ⟨k, name, alias, text, flag, kids.flatten.length + 1⟩ :: kids.flatten
theorem nd_len (k : Int) (name alias text : ByteArray) (flag : Int) (kids : List NL) : (nd k name alias text flag kids).length = kids.flatten.length + 1 := rfl
def trueT : ByteArray := ⟨#[116, 114, 117, 101]⟩
def falseT : ByteArray := ⟨#[102, 97, 108, 115, 101]⟩
section
variable (lx : Lx)
def nName (t : Tok) : Option (ByteArray × Tok) := (mName lx t).map fun t' => (t.value, t')
def nVar (t : Tok) : Option (NL × Tok) := (mTok lx 3 t).bind fun t1 => (nName lx t1).map fun x => (nd 11 x.1 emp emp 0 [], x.2)
def nMany (f : Tok → Option (NL × Tok)) (close : Int) : Nat → Tok → Option (List NL × Tok)
 | 0, _ => none
 | n + 1, t => if t.kind = close then (lx t.stop).map fun t' => ([], t') else (f t).bind fun x => (nMany f close n x.2).map fun y => (x.1 :: y.1, y.2)
def nRev (f : Tok → Option (NL × Tok)) (opn close : Int) (must : Bool) (n : Nat) (t : Tok) : Option (List NL × Tok) :=
 (mTok lx opn t).bind fun t1 => (nMany lx f close n t1).bind fun x => if must = true ∧ x.1.length = 0 then none else some x
def nPair (k : Int) (f : Tok → Option (NL × Tok)) (t : Tok) : Option (NL × Tok) := (nName lx t).bind fun x => (mTok lx 7 x.2).bind fun t2 => (f t2).map fun y => (nd k x.1 emp emp 0 [y.1], y.2)
def word (v : ByteArray) : NL := if v.toList = trueT.toList then nd 15 emp emp emp 1 [] else if v.toList = falseT.toList then nd 15 emp emp emp 0 [] else nd 16 v emp emp 0 []
def nVal (cst : Bool) : Nat → Tok → Option (NL × Tok)
 | 0, _ => none
 | n + 1, t =>
  if t.kind = 10 then (nRev lx (nVal cst n) 10 11 false n t).map fun x => (nd 17 emp emp emp 0 x.1, x.2)
  else if t.kind = 12 then (nRev lx (nPair lx 19 (nVal cst n)) 12 14 false n t).map fun x => (nd 18 emp emp emp 0 x.1, x.2)
  else if 16 ≤ t.kind ∧ t.kind ≤ 19 then (lx t.stop).map fun t' => (nd (if t.kind = 16 then 12 else if t.kind = 17 then 13 else 14) emp emp t.value 0 [], t')
  else if t.kind = 15 then (if t.value.toList = nullT.toList then none else (lx t.stop).map fun t' => (word t.value, t'))
  else if t.kind = 3 ∧ cst = false then nVar lx t
  else none
def nArg (n : Nat) (t : Tok) : Option (NL × Tok) := nPair lx 9 (nVal lx false n) t
def nArgs (n : Nat) (t : Tok) : Option (List NL × Tok) := if t.kind = 4 then nRev lx (nArg lx n) 4 5 true n t else some ([], t)
def nDir (n : Nat) (t : Tok) : Option (NL × Tok) := (mTok lx 9 t).bind fun t1 => (nName lx t1).bind fun x => (nArgs lx n x.2).map fun y => (nd 10 x.1 emp emp 0 y.1, y.2)
def nDirs (n : Nat) : Nat → Tok → Option (List NL × Tok)
 | 0, _ => none
 | k + 1, t => if t.kind = 9 then (nDir lx n t).bind fun x => (nDirs n k x.2).map fun y => (x.1 :: y.1, y.2) else some ([], t)
end
def Wt {α : Type} (s : ByteArray) (b : Nat) (wt : α → Nat) (f : Tok → Option (α × Tok)) : Prop := ∀ t x, t.stop ≤ s.size → f t = some x → x.2.stop ≤ s.size ∧ mu s x.2 + b ≤ mu s t ∧ wt x.1 + mu s x.2 ≤ mu s t
def fl (x : List NL) : Nat := x.flatten.length
section
variable {s : ByteArray}
theorem wt_word (v : ByteArray) : (word v).length = 1 := by
 unfold word
 split
 ·rfl
 ·split <;> rfl
end
abbrev P2 {α : Type} (o : Option (α × Tok)) : Option Tok := o.map Prod.snd
section
variable {lx : Lx}
theorem p_map {α β : Type} {o : Option (α × Tok)} {p : Option Tok} (h : P2 o = p) {f : α → β} : P2 (o.map fun x => (f x.1, x.2)) = p := by
 cases o with
 | none => exact h
 | some x => exact h
theorem p_of {β : Type} {p : Option Tok} {f : Tok → β} : P2 (p.map fun t => (f t, t)) = p := by cases p <;> rfl
theorem p_tok {β : Type} {p : Option Tok} {f : Tok → Option (β × Tok)} {F : Tok → Option Tok} (hf : ∀ x, P2 (f x) = F x) : P2 (p.bind f) = p.bind F := by
 cases p with
 | none => rfl
 | some x => exact hf x
theorem p_name (t : Tok) : P2 (nName lx t) = mName lx t := p_of (f := fun _ => t.value)
theorem p_var (t : Tok) : P2 (nVar lx t) = mVar lx t := p_tok fun x => p_map (p_name x) (f := fun n => nd 11 n emp emp 0 [])
end
end Go.Proofs.YtjoagdldbmlenaaGreatDoor.Tree
namespace Go.Proofs.YtjoagdldbmlenaaGreatDoor.Rel
open Go.Proofs.YtjoagdldbmlenaaGreatDoor.Mod Go.Proofs.YtjoagdldbmlenaaGreatDoorW.PrintWords
def runeOf (s : ByteArray) (p : Nat) : Int × Int :=
 if s.size ≤ p then (-1, 65533) else if bt s p < 128 then (bt s p, 1) else (((Lib.decodeGo (s.extract p s.size)).1 : Int), ((Lib.decodeGo (s.extract p s.size)).2 : Int))
def comB (c : Int) : Bool := c == 9 || (decide (32 ≤ c) && decide (c < 128))
def Com (s : ByteArray) (p q : Nat) : Prop := p ≤ q ∧ q ≤ s.size ∧ (∀ i : Nat, p ≤ i → i < q → comB (bt s i) = true) ∧ (q = s.size ∨ bt s q = 10 ∨ bt s q = 13)
inductive Skip (s : ByteArray) : Nat → Nat → Prop
 | refl (p : Nat) : Skip s p p
 | ws {p q : Nat} : p < s.size → isWs (bt s p) = true → Skip s (p + 1) q → Skip s p q
 | com {p m q : Nat} : p < s.size → bt s p = 35 → Com s (p + 1) m → Skip s m q → Skip s p q
theorem Skip.le {s : ByteArray} {p q : Nat} (h : Skip s p q) : p ≤ q := by
 induction h with
 | refl p => omega
 | ws _ _ _ ih => omega
 | com _ _ h _ ih => have := h.1; omega
theorem Skip.size {s : ByteArray} {p q : Nat} (h : Skip s p q) (hp : p ≤ s.size) : q ≤ s.size := by
 induction h with
 | refl p => exact hp
 | ws h _ _ ih => exact ih (by omega)
 | com _ _ h _ ih => exact ih h.2.1
theorem Skip.trans {s : ByteArray} {p q r : Nat} (h : Skip s p q) (h2 : Skip s q r) : Skip s p r := by
 induction h with
 | refl p => exact h2
 | ws a b _ ih => exact .ws a b (ih h2)
 | com a b c _ ih => exact .com a b c (ih h2)
def hexV (c : Int) : Int := if 48 ≤ c ∧ c ≤ 57 then c - 48 else if 97 ≤ c ∧ c ≤ 102 then c - 87 else if 65 ≤ c ∧ c ≤ 70 then c - 55 else -1
def escV (c : Int) : Int := if c = 34 then 34 else if c = 92 then 92 else if c = 47 then 47 else if c = 98 then 8 else if c = 102 then 12 else if c = 110 then 10 else if c = 114 then 13 else if c = 116 then 9 else -1
def uniV (s : ByteArray) (a : Nat) : Int := 4096 * hexV (bt s (a + 2 : Nat)) + 256 * hexV (bt s (a + 3 : Nat)) + 16 * hexV (bt s (a + 4 : Nat)) + hexV (bt s (a + 5 : Nat))
def hexOk (s : ByteArray) (a : Nat) : Prop := 0 ≤ hexV (bt s (a + 2 : Nat)) ∧ 0 ≤ hexV (bt s (a + 3 : Nat)) ∧ 0 ≤ hexV (bt s (a + 4 : Nat)) ∧ 0 ≤ hexV (bt s (a + 5 : Nat))
def enc (n : Int) : ByteArray := ⟨(Lib.encodeRune n).toArray⟩
inductive Bit (s : ByteArray) (a : Nat) : Nat → ByteArray → Prop
 | chr (c : Int) (n : Nat) : a < s.size → runeOf s a = (c, (n : Int)) → 1 ≤ n → n ≤ 4 → a + n ≤ s.size → c ≠ 34 → c ≠ 92 → (c = 9 ∨ 32 ≤ c) → Bit s a (a + n) (s.extract a (a + n))
 | esc : a + 1 < s.size → bt s a = 92 → 0 ≤ escV (bt s (a + 1 : Nat)) → Bit s a (a + 2) (enc (escV (bt s (a + 1 : Nat))))
 | uni : a + 5 < s.size → bt s a = 92 → bt s (a + 1 : Nat) = 117 → hexOk s a → 1 ≤ uniV s a → ¬ (55296 ≤ uniV s a ∧ uniV s a ≤ 57343) → Bit s a (a + 6) (enc (uniV s a))
inductive Bits (s : ByteArray) : Nat → Nat → ByteArray → Prop
 | nil (a : Nat) : Bits s a a ⟨#[]⟩
 | cons {a b c : Nat} {x y : ByteArray} : Bit s a b x → Bits s b c y → Bits s a c (x ++ y)
theorem Bit.lt {s : ByteArray} {a b : Nat} {x : ByteArray} (h : Bit s a b x) : a < b ∧ b ≤ s.size := by
 cases h with
 | chr c n _ _ h1 _ h2 => omega
 | esc h => omega
 | uni h => omega
theorem Bits.le {s : ByteArray} {a b : Nat} {x : ByteArray} (h : Bits s a b x) : a ≤ b := by
 induction h with
 | nil a => omega
 | cons h _ ih => have := h.lt; omega
def BitBad (s : ByteArray) (a : Nat) : Prop :=
 s.size ≤ a ∨
 (a < s.size ∧ (bt s a < 32 ∧ bt s a ≠ 9)) ∨
 (a < s.size ∧ bt s a = 92 ∧ escV (bt s (a + 1 : Nat)) < 0 ∧ (bt s (a + 1 : Nat) = 117 → ¬ hexOk s a))
inductive Chain (s : ByteArray) (T : Nat → Tok → Prop) (B : Nat → Prop) (whole : Bool) : Nat → List Tok → Prop
 | done {p q : Nat} : Skip s p q → (whole = true ∧ q = s.size) ∨ (whole = false ∧ B q) → Chain s T B whole p []
 | more {p q : Nat} {t : Tok} {l : List Tok} : Skip s p q → T q t → Chain s T B whole t.stop l → Chain s T B whole p (t :: l)
def lxL (s : ByteArray) (l : List Tok) (whole : Bool) (p : Nat) : Option Tok :=
 match l.find? (fun t => decide (p ≤ t.start)) with
 | some t => some t
 | none => if whole = true then some ⟨1, s.size, s.size, ⟨#[]⟩⟩ else none
def headL (s : ByteArray) (whole : Bool) : List Tok → Option Tok
 | [] => if whole = true then some ⟨1, s.size, s.size, ⟨#[]⟩⟩ else none
 | t :: _ => some t
section
variable {s : ByteArray} {T : Nat → Tok → Prop} {B : Nat → Prop} {whole : Bool}
theorem Chain.start (hT : ∀ p t, T p t → t.start = p ∧ p < t.stop ∧ t.stop ≤ s.size) {p : Nat} {l : List Tok} (h : Chain s T B whole p l) : ∀ t ∈ l, p ≤ t.start ∧ t.start < t.stop ∧ t.stop ≤ s.size := by
 induction h with
 | done _ _ => intro t ht; cases ht
 | more h1 h2 h3 ih =>
  intro t ht
  have h4 := hT _ _ h2
  have h5 := h1.le
  rcases List.mem_cons.1 ht with rfl | ht
  ·exact ⟨by omega, by omega, h4.2.2⟩
  ·have := ih t ht; omega
inductive Reach (s : ByteArray) (T : Nat → Tok → Prop) (B : Nat → Prop) (whole : Bool) (l : List Tok) : Nat → List Tok → Prop
 | first : Chain s T B whole 0 l → Reach s T B whole l 0 l
 | next {p : Nat} {t : Tok} {r : List Tok} : Reach s T B whole l p (t :: r) → Reach s T B whole l t.stop r
theorem Reach.chain (hT : ∀ p t, T p t → t.start = p ∧ p < t.stop ∧ t.stop ≤ s.size) {l r : List Tok} {p : Nat} (h : Reach s T B whole l p r) : Chain s T B whole p r ∧ p ≤ s.size ∧ ∃ d, l = d ++ r ∧ ∀ t ∈ d, t.start < p := by
 induction h with
 | first h => exact ⟨h, Nat.zero_le _, [], rfl, fun t h => by cases h⟩
 | @next p t r h1 ih =>
  obtain ⟨hc, hp, d, hd, hlt⟩ := ih
  cases hc with
  | more h2 h3 h4 =>
   have h5 := hT _ _ h3
   have h6 := h2.le
   refine ⟨h4, h5.2.2, d ++ [t], by rw [hd]; simp, fun u hu => ?_⟩
   rcases List.mem_append.1 hu with hu | hu
   ·have := hlt u hu; omega
   ·rw [List.mem_singleton.1 hu]; omega
theorem lxL_reach (hT : ∀ p t, T p t → t.start = p ∧ p < t.stop ∧ t.stop ≤ s.size) {l r : List Tok} {p : Nat} (h : Reach s T B whole l p r) : lxL s l whole p = headL s whole r := by
 obtain ⟨hc, hp, d, rfl, hlt⟩ := h.chain hT
 unfold lxL
 rw [List.find?_append]
 have e : d.find? (fun t => decide (p ≤ t.start)) = none := by
  rw [List.find?_eq_none]
  intro t ht
  have := hlt t ht
  simp
  omega
 rw [e, Option.none_or]
 cases r with
 | nil => rfl
 | cons t r =>
  have := hc.start hT t (List.mem_cons_self ..)
  rw [List.find?_cons_of_pos (by simp; omega)]
  rfl
end
open Tree
def sTok (k : Int) : List Tok → Option (List Tok)
 | [] => none
 | t :: r => if t.kind = k then some r else none
def sName : List Tok → Option (ByteArray × List Tok)
 | [] => none
 | t :: r => if t.kind = 15 then some (t.value, r) else none
def sMany (f : List Tok → Option (NL × List Tok)) (close : Int) : Nat → List Tok → Option (List NL × List Tok)
 | 0, _ => none
 | n + 1, l => match sTok close l with
  | some r => some ([], r)
  | none => (f l).bind fun x => (sMany f close n x.2).map fun y => (x.1 :: y.1, y.2)
def sPair (k : Int) (f : List Tok → Option (NL × List Tok)) (l : List Tok) : Option (NL × List Tok) := (sName l).bind fun x => (sTok 7 x.2).bind fun r => (f r).map fun y => (nd k x.1 emp emp 0 [y.1], y.2)
def sVal (cst : Bool) : Nat → List Tok → Option (NL × List Tok)
 | 0, _ => none
 | _ + 1, [] => none
 | n + 1, t :: r =>
  if t.kind = 10 then (sMany (sVal cst n) 11 n r).map fun x => (nd 17 emp emp emp 0 x.1, x.2)
  else if t.kind = 12 then (sMany (sPair 19 (sVal cst n)) 14 n r).map fun x => (nd 18 emp emp emp 0 x.1, x.2)
  else if 16 ≤ t.kind ∧ t.kind ≤ 19 then some (nd (if t.kind = 16 then 12 else if t.kind = 17 then 13 else 14) emp emp t.value 0 [], r)
  else if t.kind = 15 then (if t.value.toList = nullT.toList then none else some (word t.value, r))
  else if t.kind = 3 ∧ cst = false then (sName r).map fun x => (nd 11 x.1 emp emp 0 [], x.2)
  else none
section
variable {s : ByteArray} {T : Nat → Tok → Prop} {B : Nat → Prop} {whole : Bool} {l : List Tok}
def Agree (s : ByteArray) (T : Nat → Tok → Prop) (B : Nat → Prop) (whole : Bool) (l : List Tok) {α : Type} (F : Tok → Option (α × Tok)) (f : List Tok → Option (α × List Tok)) : Prop :=
 ∀ p r, Reach s T B whole l p r → ((headL s whole r).bind F = (f r).bind fun x => (headL s whole x.2).map fun t => (x.1, t)) ∧ ∀ x, f r = some x → ∃ q, Reach s T B whole l q x.2
theorem head_nil {t : Tok} (h : headL s whole [] = some t) : t.kind = 1 := by
 unfold headL at h
 by_cases hw : whole = true
 ·rw [if_pos hw] at h; rw [← Option.some.inj h]
 ·rw [if_neg hw] at h; cases h
theorem lx_head (h : ∀ p t, T p t → t.start = p ∧ p < t.stop ∧ t.stop ≤ s.size) {p : Nat} {t : Tok} {r : List Tok} (hR : Reach s T B whole l p (t :: r)) : lxL s l whole t.stop = headL s whole r := lxL_reach h (.next hR)
theorem agree_name (h : ∀ p t, T p t → t.start = p ∧ p < t.stop ∧ t.stop ≤ s.size) : Agree s T B whole l (nName (lxL s l whole)) sName := by
 intro p r hR
 cases r with
 | nil =>
  refine ⟨?_, fun x hx => by cases hx⟩
  show _ = none
  rw [Option.bind_eq_none_iff]
  intro t ht
  have := head_nil ht
  unfold nName mName mTok
  rw [if_neg (by omega)]
  rfl
 | cons t r =>
  show nName (lxL s l whole) t = _ ∧ _
  unfold nName mName mTok sName
  by_cases hk : t.kind = 15
  ·simp only [if_pos hk]
   rw [lx_head h hR]
   exact ⟨rfl, fun x hx => by rw [← Option.some.inj hx]; exact ⟨_, .next hR⟩⟩
  ·simp only [if_neg hk]
   exact ⟨rfl, fun x hx => by cases hx⟩
theorem agree_many (h : ∀ p t, T p t → t.start = p ∧ p < t.stop ∧ t.stop ≤ s.size) {F : Tok → Option (NL × Tok)} {f : List Tok → Option (NL × List Tok)} (hF : Agree s T B whole l F f) (close : Int) (hc : close ≠ 1) : ∀ n, Agree s T B whole l (nMany (lxL s l whole) F close n) (sMany f close n) := by
 intro n
 induction n with
 | zero => exact fun p r hR => ⟨by cases headL s whole r <;> rfl, fun x hx => by cases hx⟩
 | succ n ih =>
  intro p r hR
  have step : sTok close r = none → (∀ t, headL s whole r = some t → t.kind ≠ close) → ((headL s whole r).bind (nMany (lxL s l whole) F close (n + 1)) = (sMany f close (n + 1) r).bind fun x => (headL s whole x.2).map fun t => (x.1, t)) ∧ ∀ x, sMany f close (n + 1) r = some x → ∃ q, Reach s T B whole l q x.2 := by
   intro h1 h2
   obtain ⟨a, b⟩ := hF p r hR
   have e1 : (headL s whole r).bind (nMany (lxL s l whole) F close (n + 1)) = ((headL s whole r).bind F).bind fun x => (nMany (lxL s l whole) F close n x.2).map fun y => (x.1 :: y.1, y.2) := by
    cases hh : headL s whole r with
    | none => rfl
    | some t =>
     show nMany _ _ _ (n + 1) t = _
     conv => lhs; unfold nMany
     rw [if_neg (h2 t hh)]
     rfl
   have e2 : sMany f close (n + 1) r = (f r).bind fun x => (sMany f close n x.2).map fun y => (x.1 :: y.1, y.2) := by
    conv => lhs; unfold sMany
    rw [h1]
   rw [e1, a, e2]
   cases hf : f r with
   | none => exact ⟨rfl, fun x hx => by cases hx⟩
   | some x =>
    obtain ⟨q, hq⟩ := b x hf
    obtain ⟨a2, b2⟩ := ih q x.2 hq
    refine ⟨?_, fun y hy => ?_⟩
    ·have e3 : ((headL s whole x.2).map fun t => (x.1, t)).bind (fun x => (nMany (lxL s l whole) F close n x.2).map fun y => (x.1 :: y.1, y.2)) = ((headL s whole x.2).bind (nMany (lxL s l whole) F close n)).map fun y => (x.1 :: y.1, y.2) := by
      cases headL s whole x.2 <;> rfl
     show ((headL s whole x.2).map fun t => (x.1, t)).bind _ = ((sMany f close n x.2).map fun y => (x.1 :: y.1, y.2)).bind _
     rw [e3, a2]
     cases sMany f close n x.2 with
     | none => rfl
     | some y => simp only [Option.bind_some, Option.map_some]; cases headL s whole y.2 <;> rfl
    ·simp only [Option.bind_some] at hy
     obtain ⟨z, hz, rfl⟩ := Option.map_eq_some_iff.1 hy
     exact b2 z hz
  cases r with
  | nil => exact step rfl (fun t ht => by rw [head_nil ht]; omega)
  | cons t r =>
   by_cases hk : t.kind = close
   ·show nMany _ _ _ (n + 1) t = _ ∧ _
    unfold nMany sMany sTok
    simp only [if_pos hk]
    rw [lx_head h hR]
    exact ⟨rfl, fun x hx => by rw [← Option.some.inj hx]; exact ⟨_, .next hR⟩⟩
   ·exact step (by show (if t.kind = close then some r else none) = none; rw [if_neg hk]) (fun u hu => by rw [← Option.some.inj hu]; exact hk)
theorem agree_pair (h : ∀ p t, T p t → t.start = p ∧ p < t.stop ∧ t.stop ≤ s.size) {F : Tok → Option (NL × Tok)} {f : List Tok → Option (NL × List Tok)} (hF : Agree s T B whole l F f) (k : Int) : Agree s T B whole l (nPair (lxL s l whole) k F) (sPair k f) := by
 intro p r hR
 obtain ⟨a, b⟩ := agree_name h p r hR
 have e1 : (headL s whole r).bind (nPair (lxL s l whole) k F) = ((headL s whole r).bind (nName (lxL s l whole))).bind fun x => (mTok (lxL s l whole) 7 x.2).bind fun t2 => (F t2).map fun y => (nd k x.1 emp emp 0 [y.1], y.2) := by
  cases headL s whole r <;> rfl
 rw [e1, a]
 unfold sPair
 cases hn : sName r with
 | none => exact ⟨rfl, fun x hx => by cases hx⟩
 | some x =>
  obtain ⟨q, hq⟩ := b x hn
  obtain ⟨nm, r2⟩ := x
  simp only [Option.bind_some]
  cases r2 with
  | nil =>
   refine ⟨?_, fun x hx => by cases hx⟩
   show _ = none
   cases hh : headL s whole ([] : List Tok) with
   | none => rfl
   | some t =>
    have hk := head_nil hh
    simp only [Option.map_some, Option.bind_some]
    unfold mTok
    rw [if_neg (by omega)]
    rfl
  | cons t r2 =>
   show (mTok (lxL s l whole) 7 t).bind _ = _ ∧ _
   unfold mTok sTok
   by_cases hk : t.kind = 7
   ·simp only [if_pos hk, Option.bind_some]
    rw [lx_head h hq]
    obtain ⟨a2, b2⟩ := hF _ r2 (.next hq)
    have e2 : ((headL s whole r2).bind fun t2 => (F t2).map fun y => (nd k nm emp emp 0 [y.1], y.2)) = ((headL s whole r2).bind F).map fun y => (nd k nm emp emp 0 [y.1], y.2) := by
     cases headL s whole r2 <;> rfl
    rw [e2, a2]
    refine ⟨?_, fun y hy => ?_⟩
    ·cases f r2 with
     | none => rfl
     | some y => simp only [Option.bind_some, Option.map_some]; cases headL s whole y.2 <;> rfl
    ·obtain ⟨z, hz, rfl⟩ := Option.map_eq_some_iff.1 hy
     exact b2 z hz
   ·simp only [if_neg hk]
    exact ⟨rfl, fun x hx => by cases hx⟩
theorem agree_one (h : ∀ p t, T p t → t.start = p ∧ p < t.stop ∧ t.stop ≤ s.size) {p : Nat} {t : Tok} {r : List Tok} (hR : Reach s T B whole l p (t :: r)) (y : NL) :
  (((lxL s l whole t.stop).map fun t' => (y, t')) = (some (y, r)).bind fun x => (headL s whole x.2).map fun t => (x.1, t)) ∧ ∀ x, some (y, r) = some x → ∃ q, Reach s T B whole l q x.2 := by
 rw [lx_head h hR]
 exact ⟨rfl, fun x hx => by rw [← Option.some.inj hx]; exact ⟨_, .next hR⟩⟩
theorem agree_open (h : ∀ p t, T p t → t.start = p ∧ p < t.stop ∧ t.stop ≤ s.size) {F : Tok → Option (NL × Tok)} {f : List Tok → Option (NL × List Tok)} (hF : Agree s T B whole l F f) (opn close : Int) (hc : close ≠ 1) (n : Nat) (g : List NL → NL)
  {p : Nat} {t : Tok} {r : List Tok} (hR : Reach s T B whole l p (t :: r)) (hk : t.kind = opn) :
  (((nRev (lxL s l whole) F opn close false n t).map fun x => (g x.1, x.2)) = ((sMany f close n r).map fun x => (g x.1, x.2)).bind fun x => (headL s whole x.2).map fun t => (x.1, t)) ∧ ∀ x, ((sMany f close n r).map fun x => (g x.1, x.2)) = some x → ∃ q, Reach s T B whole l q x.2 := by
 obtain ⟨a, b⟩ := agree_many h hF close hc n _ r (.next hR)
 have e1 : nRev (lxL s l whole) F opn close false n t = (headL s whole r).bind (nMany (lxL s l whole) F close n) := by
  unfold nRev mTok
  rw [if_pos hk, lx_head h hR]
  cases headL s whole r with
  | none => rfl
  | some u =>
   simp only [Option.bind_some]
   cases nMany (lxL s l whole) F close n u <;> rfl
 rw [e1, a]
 refine ⟨?_, fun x hx => ?_⟩
 ·cases sMany f close n r with
  | none => rfl
  | some x => simp only [Option.bind_some, Option.map_some]; cases headL s whole x.2 <;> rfl
 ·obtain ⟨z, hz, rfl⟩ := Option.map_eq_some_iff.1 hx
  exact b z hz
theorem agree_val (h : ∀ p t, T p t → t.start = p ∧ p < t.stop ∧ t.stop ≤ s.size) (cst : Bool) : ∀ n, Agree s T B whole l (nVal (lxL s l whole) cst n) (sVal cst n) := by
 intro n
 induction n with
 | zero => exact fun p r hR => ⟨by cases headL s whole r <;> rfl, fun x hx => by cases hx⟩
 | succ n ih =>
  intro p r hR
  cases r with
  | nil =>
   refine ⟨?_, fun x hx => by cases hx⟩
   show _ = none
   rw [Option.bind_eq_none_iff]
   intro t ht
   have hk := head_nil ht
   unfold nVal
   rw [if_neg (by omega), if_neg (by omega), if_neg (by omega), if_neg (by omega), if_neg (by omega)]
  | cons t r =>
   show nVal _ _ (n + 1) t = _ ∧ _
   unfold nVal sVal
   by_cases h10 : t.kind = 10
   ·simp only [if_pos h10]
    exact agree_open h ih 10 11 (by omega) n (fun x => nd 17 emp emp emp 0 x) hR h10
   ·simp only [if_neg h10]
    by_cases h12 : t.kind = 12
    ·simp only [if_pos h12]
     exact agree_open h (agree_pair h ih 19) 12 14 (by omega) n (fun x => nd 18 emp emp emp 0 x) hR h12
    ·simp only [if_neg h12]
     by_cases h16 : 16 ≤ t.kind ∧ t.kind ≤ 19
     ·simp only [if_pos h16]
      exact agree_one h hR _
     ·simp only [if_neg h16]
      by_cases h15 : t.kind = 15
      ·simp only [if_pos h15]
       by_cases hn : t.value.toList = nullT.toList
       ·simp only [if_pos hn]
        exact ⟨rfl, fun x hx => by cases hx⟩
       ·simp only [if_neg hn]
        exact agree_one h hR _
      ·simp only [if_neg h15]
       by_cases h3 : t.kind = 3 ∧ cst = false
       ·simp only [if_pos h3]
        obtain ⟨a, b⟩ := agree_name h _ r (.next hR)
        have e1 : nVar (lxL s l whole) t = ((headL s whole r).bind (nName (lxL s l whole))).map fun x => (nd 11 x.1 emp emp 0 [], x.2) := by
         unfold nVar mTok
         rw [if_pos h3.1, lx_head h hR]
         cases headL s whole r <;> rfl
        rw [e1, a]
        refine ⟨?_, fun x hx => ?_⟩
        ·cases sName r with
         | none => rfl
         | some x => simp only [Option.bind_some, Option.map_some]; cases headL s whole x.2 <;> rfl
        ·obtain ⟨z, hz, rfl⟩ := Option.map_eq_some_iff.1 hx
         exact b z hz
       ·simp only [if_neg h3]
        exact ⟨rfl, fun x hx => by cases hx⟩
end
end Go.Proofs.YtjoagdldbmlenaaGreatDoor.Rel
namespace Go.Proofs.YtjoagdldbmlenaaGreatDoor.Rel
open Go.Proofs.YtjoagdldbmlenaaGreatDoor.Mod Step Four Go.Proofs.YtjoagdldbmlenaaGreatDoorW.PrintWords
def three (s : ByteArray) (a : Nat) : Prop := bt s a = 34 ∧ bt s (a + 1 : Nat) = 34 ∧ bt s (a + 2 : Nat) = 34
def escq (s : ByteArray) (a : Nat) : Prop := bt s a = 92 ∧ three s (a + 1)
inductive Raw (s : ByteArray) : Nat → Nat → Prop
 | nil (a : Nat) : Raw s a a
 | cons {a b : Nat} (c : Int) (n : Nat) : a < s.size → ¬ three s a → ¬ escq s a → runeOf s a = (c, (n : Int)) → 1 ≤ n → n ≤ 4 → a + n ≤ s.size → (c = 9 ∨ c = 10 ∨ c = 13 ∨ 32 ≤ c) → Raw s (a + n) b → Raw s a b
theorem Raw.le {s : ByteArray} {a b : Nat} (h : Raw s a b) : a ≤ b := by
 induction h with
 | nil a => omega
 | cons c n _ _ _ _ h1 _ _ _ _ ih => omega
theorem in_of {s : ByteArray} {a : Nat} (h : bt s a ≠ 0) : a < s.size := by
 rcases Nat.lt_or_ge a s.size with h1 | h1
 ·exact h1
 ·exact absurd (bt_out s a h1) h
theorem three_in {s : ByteArray} {a : Nat} (h : three s a) : a + 3 ≤ s.size := by
 have := in_of (s := s) (a := a + 2) (by rw [h.2.2]; decide)
 omega
def RawBad (s : ByteArray) (a : Nat) : Prop := s.size ≤ a ∨ (a < s.size ∧ bt s a < 32 ∧ bt s a ≠ 9 ∧ bt s a ≠ 10 ∧ bt s a ≠ 13)
theorem num_place {s : ByteArray} {p : Nat} {t : Tok} (h1 : bt s p = 45 ∨ isDig (bt s p) = true) (h : mNum s p = some t) : t.start = p ∧ p < t.stop ∧ t.stop ≤ s.size := by
 have hp : p < s.size := in_of (by rcases h1 with h1 | h1 <;> intro h2 <;> rw [h2] at h1 <;> cases h1)
 unfold mNum at h
 obtain ⟨p1, e1, h⟩ := Option.bind_eq_some_iff.1 h
 obtain ⟨x, e2, h⟩ := Option.bind_eq_some_iff.1 h
 obtain ⟨y, e3, rfl⟩ := Option.map_eq_some_iff.1 h
 obtain ⟨a1, b1⟩ := int_prog e1
 obtain ⟨a2, b2⟩ := frac_prog e2 (by omega)
 obtain ⟨a3, b3⟩ := exp_prog e3 b2
 have a0 : p ≤ (if bt s p = 45 then p + 1 else p) := by split <;> omega
 exact ⟨rfl, by show p < y.2; omega, b3⟩
inductive TokAt (V : ByteArray → ByteArray → Prop) (s : ByteArray) (p : Nat) : Tok → Prop
 | sign : p < s.size → signK (bt s p) ≠ 0 → TokAt V s p ⟨signK (bt s p), p, p + 1, ⟨#[]⟩⟩
 | dots : bt s p = 46 → bt s (p + 1 : Nat) = 46 → bt s (p + 2 : Nat) = 46 → TokAt V s p ⟨6, p, p + 3, ⟨#[]⟩⟩
 | name : isLet (bt s p) = true → TokAt V s p ⟨15, p, scan isNam s s.size (p + 1), s.extract p (scan isNam s s.size (p + 1))⟩
 | num {t : Tok} : (bt s p = 45 ∨ isDig (bt s p) = true) → mNum s p = some t → TokAt V s p t
 | str {a : Nat} {x : ByteArray} : bt s p = 34 → ¬ three s p → Bits s (p + 1) a x → bt s a = 34 → TokAt V s p ⟨18, p, a + 1, x⟩
 | blk {a : Nat} {v : ByteArray} : three s p → Raw s (p + 3) a → three s a → V (s.extract (p + 3) a) v → TokAt V s p ⟨19, p, a + 3, v⟩
inductive BadAt (s : ByteArray) (p : Nat) : Prop
 | chr : p < s.size → isWs (bt s p) = false → bt s p ≠ 35 → bt s p ≠ 34 → bt s p ≠ 45 → signK (bt s p) = 0 → isLet (bt s p) = false → isDig (bt s p) = false → ¬ (bt s p = 46 ∧ bt s (p + 1 : Nat) = 46 ∧ bt s (p + 2 : Nat) = 46) → (128 ≤ bt s p → (runeOf s p).1 ≠ 65279) → BadAt s p
 | num : (bt s p = 45 ∨ isDig (bt s p) = true) → mNum s p = none → BadAt s p
 | str {a : Nat} {x : ByteArray} : bt s p = 34 → ¬ three s p → Bits s (p + 1) a x → BitBad s a → BadAt s p
 | blk {a : Nat} : three s p → Raw s (p + 3) a → RawBad s a → BadAt s p
theorem TokAt.place {V : ByteArray → ByteArray → Prop} {s : ByteArray} {p : Nat} {t : Tok} (h : TokAt V s p t) : t.start = p ∧ p < t.stop ∧ t.stop ≤ s.size := by
 cases h with
 | sign h1 h2 => exact ⟨rfl, Nat.lt_succ_self _, h1⟩
 | dots h1 h2 h3 =>
  have := in_of (s := s) (a := p + 2) (by rw [h3]; decide)
  exact ⟨rfl, by show p < p + 3; omega, by show p + 3 ≤ _; omega⟩
 | name h1 =>
  have hp := in_of (s := s) (a := p) (by intro h; rw [h] at h1; cases h1)
  obtain ⟨a, b, _, _⟩ := scan_all isNam rfl s (p + 1) (by omega)
  exact ⟨rfl, by show p < scan _ _ _ _; omega, b⟩
 | num h1 h2 =>
  exact num_place h1 h2
 | str h1 h2 h3 h4 =>
  have h5 := h3.le
  have h6 := in_of (s := s) (by rw [h4]; decide)
  exact ⟨rfl, by show p < _ + 1; omega, h6⟩
 | blk h1 h2 h3 h4 =>
  have h5 := h2.le
  have h6 := three_in h3
  exact ⟨rfl, by show p < _ + 3; omega, h6⟩
def digs (s : ByteArray) (p : Nat) : Nat := scan isDig s s.size p
theorem bt_dig_in {s : ByteArray} {p : Nat} (h : isDig (bt s p) = true) : p < s.size := in_of (by intro h2; rw [h2] at h; cases h)
theorem scan_no {P : Int → Bool} {s : ByteArray} {p : Nat} (h : P (bt s p) = false) : ∀ n, scan P s n p = p := by
 intro n
 cases n with
 | zero => rfl
 | succ n => unfold scan; rw [if_neg (by rw [h]; decide)]
theorem digs_no {s : ByteArray} {p : Nat} (h : isDig (bt s p) = false) : digs s p = p := scan_no h _
theorem digs_yes {s : ByteArray} {p : Nat} (h : isDig (bt s p) = true) : p < digs s p := by
 have hp := bt_dig_in h
 obtain ⟨a, b, _, y⟩ := scan_all isDig rfl s p (by omega)
 rcases Nat.lt_or_ge p (digs s p) with h1 | h1
 ·exact h1
 ·exfalso
  have e : scan isDig s s.size p = p := by unfold digs at h1; omega
  rw [e, h] at y
  cases y
theorem digs_one {s : ByteArray} {p : Nat} (h : isDig (bt s p) = true) (h2 : isDig (bt s (p + 1 : Nat)) = false) : digs s p = p + 1 := by
 have hp := bt_dig_in h
 obtain ⟨n, hn⟩ : ∃ n, s.size = n + 1 := ⟨s.size - 1, by omega⟩
 unfold digs
 rw [hn]
 unfold scan
 rw [if_pos h]
 exact scan_no h2 n
theorem digs_more {s : ByteArray} {p : Nat} (h : isDig (bt s p) = true) (h2 : isDig (bt s (p + 1 : Nat)) = true) : p + 1 < digs s p := by
 have hp := bt_dig_in h
 have hp2 := bt_dig_in h2
 obtain ⟨a, b, c, y⟩ := scan_all isDig rfl s p (by omega)
 have h3 := digs_yes h
 rcases Nat.lt_or_ge (p + 1) (digs s p) with h1 | h1
 ·exact h1
 ·exfalso
  have e : scan isDig s s.size p = p + 1 := by unfold digs at h1 h3; omega
  rw [e, h2] at y
  cases y
theorem mDig_digs (s : ByteArray) (p : Nat) : mDig s p = if digs s p = p then none else some (digs s p) := by
 unfold mDig
 by_cases h : isDig (bt s p) = true
 ·rw [if_pos h, if_neg (by have := digs_yes h; omega)]
  rfl
 ·rw [if_neg h, if_pos (digs_no (by simpa using h))]
theorem mInt_digs (s : ByteArray) (p : Nat) : mInt s p = if digs s p = p ∨ (bt s p = 48 ∧ p + 1 < digs s p) then none else some (digs s p) := by
 unfold mInt
 by_cases h : bt s p = 48
 ·have hd : isDig (bt s p) = true := by rw [h]; rfl
  have h0 := digs_yes hd
  rw [if_pos h]
  cases h2 : isDig (bt s (p + 1 : Nat)) with
  | true => rw [if_pos rfl, if_pos (.inr ⟨h, digs_more hd h2⟩)]
  | false =>
   have h3 := digs_one hd h2
   rw [if_neg (by decide), if_neg (by omega), h3]
 ·rw [if_neg h, mDig_digs]
  by_cases h2 : digs s p = p
  ·rw [if_pos h2, if_pos (.inl h2)]
  ·rw [if_neg h2, if_neg (by omega)]
def sExp (s : ByteArray) (k : Int) (p : Nat) : Option (Int × Nat) :=
 if bt s p = 101 ∨ bt s p = 69 then
  (if digs s (if bt s (p + 1 : Nat) = 43 ∨ bt s (p + 1 : Nat) = 45 then p + 2 else p + 1) = (if bt s (p + 1 : Nat) = 43 ∨ bt s (p + 1 : Nat) = 45 then p + 2 else p + 1) then none
  else some (17, digs s (if bt s (p + 1 : Nat) = 43 ∨ bt s (p + 1 : Nat) = 45 then p + 2 else p + 1)))
 else some (k, p)
def sFrac (s : ByteArray) (p : Nat) : Option (Int × Nat) :=
 if bt s p = 46 then (if digs s (p + 1) = p + 1 then none else sExp s 17 (digs s (p + 1))) else sExp s 16 p
def sNum (s : ByteArray) (q : Nat) : Option (Int × Nat) :=
 if digs s (if bt s q = 45 then q + 1 else q) = (if bt s q = 45 then q + 1 else q) ∨ (bt s (if bt s q = 45 then q + 1 else q : Nat) = 48 ∧ (if bt s q = 45 then q + 1 else q) + 1 < digs s (if bt s q = 45 then q + 1 else q)) then none
 else sFrac s (digs s (if bt s q = 45 then q + 1 else q))
theorem num_same (s : ByteArray) (q : Nat) : sNum s q = (mNum s q).map fun t => (t.kind, t.stop) := by
 unfold sNum mNum
 generalize (if bt s q = 45 then q + 1 else q) = a
 rw [mInt_digs]
 by_cases h1 : digs s a = a ∨ (bt s a = 48 ∧ a + 1 < digs s a)
 ·rw [if_pos h1, if_pos h1]; rfl
 ·rw [if_neg h1, if_neg h1]
  simp only [Option.bind_some]
  have he : ∀ (b : Bool) (k : Int) (p : Nat), (if b then 17 else 16) = k → sExp s k p = ((mExp s p).map fun y => (⟨if b || y.1 then 17 else 16, q, y.2, s.extract q y.2⟩ : Tok)).map fun t => (t.kind, t.stop) := by
   intro b k p hk
   unfold sExp mExp
   by_cases h2 : bt s p = 69 ∨ bt s p = 101
   ·rw [if_pos (Or.comm.1 h2), if_pos h2, mDig_digs]
    generalize (if bt s (p + 1 : Nat) = 43 ∨ bt s (p + 1 : Nat) = 45 then p + 2 else p + 1) = c
    by_cases h3 : digs s c = c
    ·rw [if_pos h3, if_pos h3]; rfl
    ·rw [if_neg h3, if_neg h3]
     simp only [Option.map_some, Bool.or_true, if_true]
   ·rw [if_neg (fun h => h2 (Or.comm.1 h)), if_neg h2]
    simp only [Option.map_some, Bool.or_false]
    rw [← hk]
  unfold sFrac mFrac
  by_cases h4 : bt s (digs s a : Nat) = 46
  ·rw [if_pos h4, if_pos h4, mDig_digs]
   by_cases h5 : digs s (digs s a + 1) = digs s a + 1
   ·rw [if_pos h5, if_pos h5]; rfl
   ·rw [if_neg h5, if_neg h5]
    simp only [Option.map_some, Option.bind_some]
    exact he true 17 _ rfl
  ·rw [if_neg h4, if_neg h4]
   simp only [Option.bind_some]
   exact he false 16 _ rfl
open Sim
theorem get_eq (s : ByteArray) (j : Nat) (h : j < s.size) : s.get! j = s[j] := by
 show (s.data[j]!) = _
 rw [getElem!_pos _ _ (by simpa using h)]
 rfl
theorem rune_bytes (s : ByteArray) (p : Nat) (hp : p < s.size) (h : ¬ bt s p < 128) : ∃ b : Nat → Nat, (∀ j, p + j < s.size → (b j : Int) = bt s ((p + j : Nat) : Int)) ∧
  runeOf s p = (((Lib.decodeN (s.size - p) (b 0) (b 1) (b 2) (b 3)).1 : Int), ((Lib.decodeN (s.size - p) (b 0) (b 1) (b 2) (b 3)).2 : Int)) := by
 have hsz : (s.extract p s.size).size = s.size - p := by rw [ByteArray.size_extract]; omega
 refine ⟨fun j => ((s.extract p s.size).get! j).toNat, fun j hj => ?_, ?_⟩
 ·have hj' : j < (s.extract p s.size).size := by omega
  have a2 := ByteArray.getElem_extract (b := s) (start := p) (stop := s.size) (i := j) hj'
  show (((s.extract p s.size).get! j).toNat : Int) = _
  rw [get_eq _ _ hj', a2, bt_nat s (p + j) hj]
 ·unfold runeOf
  rw [if_neg (by omega), if_neg h]
  unfold Lib.decodeGo
  rw [if_neg (by omega), Lib.decode_at, hsz]
  simp only [Nat.sub_zero, Nat.zero_add]
theorem decodeN_big {n b0 b1 b2 b3 : Nat} (h : 128 ≤ b0) : 128 ≤ (Lib.decodeN n b0 b1 b2 b3).1 ∧ 1 ≤ (Lib.decodeN n b0 b1 b2 b3).2 ∧ (Lib.decodeN n b0 b1 b2 b3).2 ≤ 4 ∧ (1 ≤ n → (Lib.decodeN n b0 b1 b2 b3).2 ≤ n) := by
 unfold Lib.decodeN
 repeat' split
 all_goals first | (exfalso; omega) | (refine ⟨?_, ?_, ?_, ?_⟩ <;> simp only <;> omega)
theorem decodeN_bom {n b0 b1 b2 b3 : Nat} (h1 : b1 < 256) (h2 : b2 < 256) (h : (Lib.decodeN n b0 b1 b2 b3).1 = 65279) : (b0 = 65279 ∨ (2 < n ∧ b0 = 239 ∧ b1 = 187 ∧ b2 = 191)) := by
 unfold Lib.decodeN at h
 repeat' split at h
 all_goals first | (exfalso; simp only at h; omega) | (simp only at h; omega)
theorem rune_small {s : ByteArray} {p : Nat} (hp : p < s.size) (h : bt s p < 128) : runeOf s p = (bt s p, 1) := by
 unfold runeOf
 rw [if_neg (by omega), if_pos h]
theorem rune_end {s : ByteArray} {p : Nat} (hp : s.size ≤ p) : runeOf s p = (-1, 65533) := by
 unfold runeOf
 rw [if_pos hp]
theorem rune_big {s : ByteArray} {p : Nat} (hp : p < s.size) (h : ¬ bt s p < 128) : 128 ≤ (runeOf s p).1 ∧ 1 ≤ (runeOf s p).2 ∧ (runeOf s p).2 ≤ 4 ∧ p + (runeOf s p).2 ≤ s.size := by
 obtain ⟨b, hb, e⟩ := rune_bytes s p hp h
 have h0 := hb 0 (by omega)
 rw [Nat.add_zero] at h0
 obtain ⟨a1, a2, a3, a4⟩ := decodeN_big (n := s.size - p) (b0 := b 0) (b1 := b 1) (b2 := b 2) (b3 := b 3) (by omega)
 have a5 := a4 (by omega)
 rw [e]
 simp only
 omega
theorem rune_bom {s : ByteArray} {p : Nat} (hp : p < s.size) (h : ¬ bt s p < 128) (hr : (runeOf s p).1 = 65279) : bt s p = 239 ∧ bt s (p + 1 : Nat) = 187 ∧ bt s (p + 2 : Nat) = 191 := by
 have hsz : (s.extract p s.size).size = s.size - p := by rw [ByteArray.size_extract]; omega
 have e : runeOf s p = (((Lib.decodeGo (s.extract p s.size)).1 : Int), ((Lib.decodeGo (s.extract p s.size)).2 : Int)) := by
  unfold runeOf
  rw [if_neg (by omega), if_neg h]
 rw [e] at hr
 unfold Lib.decodeGo at hr
 rw [if_neg (by omega), Lib.decode_at, hsz] at hr
 simp only [Nat.sub_zero, Nat.zero_add] at hr
 have hg : ∀ j, p + j < s.size → ((((s.extract p s.size).get! j).toNat : Nat) : Int) = bt s ((p + j : Nat) : Int) := by
  intro j hj
  have hj' : j < (s.extract p s.size).size := by omega
  have a2 := ByteArray.getElem_extract (b := s) (start := p) (stop := s.size) (i := j) hj'
  rw [get_eq _ _ hj', a2, bt_nat s (p + j) hj]
 have h0 := hg 0 (by omega)
 rw [Nat.add_zero] at h0
 have hr' : (Lib.decodeN (s.size - p) ((s.extract p s.size).get! 0).toNat ((s.extract p s.size).get! 1).toNat ((s.extract p s.size).get! 2).toNat ((s.extract p s.size).get! 3).toNat).1 = 65279 := Int.ofNat.inj hr
 have l0 := ((s.extract p s.size).get! 0).toNat_lt
 have l1 := ((s.extract p s.size).get! 1).toNat_lt
 have l2 := ((s.extract p s.size).get! 2).toNat_lt
 rcases decodeN_bom (by omega) (by omega) hr' with h5 | ⟨hn, h5, h6, h7⟩
 ·omega
 ·have g1 := hg 1 (by omega)
  have g2 := hg 2 (by omega)
  omega
end Go.Proofs.YtjoagdldbmlenaaGreatDoor.Rel
namespace Go.Proofs.YtjoagdldbmlenaaGreatDoor.WtL
open Go.Proofs.YtjoagdldbmlenaaGreatDoorW.PrintWords Go.Proofs.YtjoagdldbmlenaaGreatDoor.Mod Sim Four Step Fuel Tree
def LxOk (lx : Nat → Option Tok) (s : ByteArray) : Prop := ∀ (p : Nat) (t : Tok), p ≤ s.size → lx p = some t → (t.kind = 1 ∧ t.stop = s.size) ∨ (t.kind ≠ 1 ∧ p < t.stop ∧ t.stop ≤ s.size)
section
variable {s : ByteArray} {lx : Lx}
theorem prg_lx (hx : LxOk lx s) {t t' : Tok} (hle : t.stop ≤ s.size) (hk : t.kind ≠ 1) (h : lx t.stop = some t') : t'.stop ≤ s.size ∧ mu s t' + 1 ≤ mu s t := by
 unfold mu
 rcases hx _ _ hle h with ⟨h1, h2⟩ | ⟨h1, h2, h3⟩
 ·rw [if_pos h1, if_neg hk]; omega
 ·rw [if_neg h1, if_neg hk]; omega
theorem prg_tok (hx : LxOk lx s) {k : Int} (hk : k ≠ 1) : Prg s 1 (mTok lx k) := fun t t' h1 h2 => by
 unfold mTok at h2
 by_cases h : t.kind = k
 ·rw [if_pos h] at h2; exact prg_lx hx h1 (by rw [h]; exact hk) h2
 ·rw [if_neg h] at h2; cases h2
theorem prg_name (hx : LxOk lx s) : Prg s 1 (mName lx) := prg_tok hx (by decide)
theorem wt_name (hx : LxOk lx s) : Wt s 1 (fun _ => 0) (nName lx) := fun t x h1 h => by
 obtain ⟨u, hu, rfl⟩ := Option.map_eq_some_iff.1 h
 have := prg_name hx t u h1 hu
 exact ⟨this.1, this.2, by have := this.2; simp only; omega⟩
theorem wt_var (hx : LxOk lx s) : Wt s 2 List.length (nVar lx) := fun t x h1 h => by
 obtain ⟨u, hu, h⟩ := Option.bind_eq_some_iff.1 h
 obtain ⟨y, hy, rfl⟩ := Option.map_eq_some_iff.1 h
 have a := prg_tok hx (by decide) t u h1 hu
 have b := wt_name hx u y a.1 hy
 exact ⟨b.1, by have := a.2; have := b.2.1; simp only; omega, by have := a.2; have := b.2.1; simp only [nd_len]; simp; omega⟩
theorem wt_many (hx : LxOk lx s) {f : Tok → Option (NL × Tok)} (hf : Wt s 1 List.length f) {c : Int} (hc : c ≠ 1) : ∀ n, Wt s 1 (fun x => fl x + 1) (nMany lx f c n)
 | 0 => fun t x _ h => by cases h
 | n + 1 => fun t x h1 h => by
  unfold nMany at h
  by_cases hk : t.kind = c
  ·rw [if_pos hk] at h
   obtain ⟨u, hu, rfl⟩ := Option.map_eq_some_iff.1 h
   have a := prg_lx hx h1 (by rw [hk]; exact hc) hu
   exact ⟨a.1, a.2, by have := a.2; simp [fl]; omega⟩
  ·rw [if_neg hk] at h
   obtain ⟨u, hu, h⟩ := Option.bind_eq_some_iff.1 h
   obtain ⟨y, hy, rfl⟩ := Option.map_eq_some_iff.1 h
   have a := hf t u h1 hu
   have b := wt_many hx hf hc n u.2 y a.1 hy
   exact ⟨b.1, by have := a.2.1; have := b.2.1; simp only; omega, by have := a.2.2; have := b.2.2; simp only [fl, List.flatten_cons, List.length_append] at *; omega⟩
theorem wt_rev (hx : LxOk lx s) {f : Tok → Option (NL × Tok)} (hf : Wt s 1 List.length f) {o c : Int} (ho : o ≠ 1) (hc : c ≠ 1) (must : Bool) (n : Nat) : Wt s 2 (fun x => fl x + 2) (nRev lx f o c must n) := fun t x h1 h => by
 obtain ⟨u, hu, h⟩ := Option.bind_eq_some_iff.1 h
 obtain ⟨y, hy, h⟩ := Option.bind_eq_some_iff.1 h
 have a := prg_tok hx ho t u h1 hu
 have b := wt_many hx hf hc n u y a.1 hy
 split at h
 ·cases h
 ·obtain rfl := Option.some.inj h
  exact ⟨b.1, by have := a.2; have := b.2.1; omega, by have := a.2; have := b.2.2; simp only at *; omega⟩
theorem wt_pair (hx : LxOk lx s) {k : Int} {f : Tok → Option (NL × Tok)} (hf : Wt s 1 List.length f) : Wt s 3 List.length (nPair lx k f) := fun t x h1 h => by
 obtain ⟨u, hu, h⟩ := Option.bind_eq_some_iff.1 h
 obtain ⟨v, hv, h⟩ := Option.bind_eq_some_iff.1 h
 obtain ⟨y, hy, rfl⟩ := Option.map_eq_some_iff.1 h
 have a := wt_name hx t u h1 hu
 have b := prg_tok hx (by decide) u.2 v a.1 hv
 have c := hf v y b.1 hy
 exact ⟨c.1, by have := a.2.1; have := b.2; have := c.2.1; simp only; omega, by have := a.2.1; have := b.2; have := c.2.2; simp only [nd_len]; simp; omega⟩
theorem wt_le {α : Type} {b c : Nat} {wt wu : α → Nat} {f : Tok → Option (α × Tok)} (h : Wt s b wt f) (hc : c ≤ b) (hw : ∀ x, wu x ≤ wt x) : Wt s c wu f := fun t x h1 h2 => by
 have a := h t x h1 h2
 exact ⟨a.1, by have := a.2.1; omega, by have := a.2.2; have := hw x.1; omega⟩
theorem wt_word (v : ByteArray) : (word v).length = 1 := by
 unfold word
 split
 ·rfl
 ·split <;> rfl
theorem wt_val (hx : LxOk lx s) (cst : Bool) : ∀ n, Wt s 1 List.length (nVal lx cst n)
 | 0 => fun t x _ h => by cases h
 | n + 1 => fun t x h1 h => by
  unfold nVal at h
  by_cases h10 : t.kind = 10
  ·rw [if_pos h10] at h
   obtain ⟨y, hy, rfl⟩ := Option.map_eq_some_iff.1 h
   have a := wt_rev hx (wt_val hx cst n) (by decide) (by decide) _ _ t y h1 hy
   exact ⟨a.1, by have := a.2.1; simp only; omega, by have := a.2.2; simp only [nd_len, fl] at *; omega⟩
  ·rw [if_neg h10] at h
   by_cases h12 : t.kind = 12
   ·rw [if_pos h12] at h
    obtain ⟨y, hy, rfl⟩ := Option.map_eq_some_iff.1 h
    have a := wt_rev hx (wt_le (wt_pair hx (k := 19) (wt_val hx cst n)) (by decide) (fun _ => Nat.le_refl _)) (by decide) (by decide) _ _ t y h1 hy
    exact ⟨a.1, by have := a.2.1; simp only; omega, by have := a.2.2; simp only [nd_len, fl] at *; omega⟩
   ·rw [if_neg h12] at h
    by_cases h16 : 16 ≤ t.kind ∧ t.kind ≤ 19
    ·rw [if_pos h16] at h
     obtain ⟨y, hy, rfl⟩ := Option.map_eq_some_iff.1 h
     have a := prg_lx hx h1 (by omega) hy
     exact ⟨a.1, a.2, by have := a.2; simp only [nd_len]; simp; omega⟩
    ·rw [if_neg h16] at h
     by_cases h15 : t.kind = 15
     ·rw [if_pos h15] at h
      split at h
      ·cases h
      ·obtain ⟨y, hy, rfl⟩ := Option.map_eq_some_iff.1 h
       have a := prg_lx hx h1 (by omega) hy
       exact ⟨a.1, a.2, by have := a.2; simp only [wt_word]; omega⟩
     ·rw [if_neg h15] at h
      split at h
      ·exact wt_le (wt_var hx) (by decide) (fun _ => Nat.le_refl _) t x h1 h
      ·cases h
theorem wt_arg (hx : LxOk lx s) (n : Nat) : Wt s 3 List.length (nArg lx n) := wt_pair hx (wt_val hx false n)
theorem wt_args (hx : LxOk lx s) (n : Nat) : Wt s 0 fl (nArgs lx n) := fun t x h1 h => by
 unfold nArgs at h
 split at h
 ·exact wt_le (wt_rev hx (wt_le (wt_arg hx n) (by decide) (fun _ => Nat.le_refl _)) (by decide) (by decide) true n) (by decide) (fun _ => by omega) t x h1 h
 ·obtain rfl := Option.some.inj h
  exact ⟨h1, Nat.le_refl _, by simp [fl]⟩
theorem wt_dir (hx : LxOk lx s) (n : Nat) : Wt s 2 List.length (nDir lx n) := fun t x h1 h => by
 obtain ⟨u, hu, h⟩ := Option.bind_eq_some_iff.1 h
 obtain ⟨v, hv, h⟩ := Option.bind_eq_some_iff.1 h
 obtain ⟨y, hy, rfl⟩ := Option.map_eq_some_iff.1 h
 have a := prg_tok hx (by decide) t u h1 hu
 have b := wt_name hx u v a.1 hv
 have c := wt_args hx n v.2 y b.1 hy
 exact ⟨c.1, by have := a.2; have := b.2.1; have := c.2.1; simp only; omega, by have := a.2; have := b.2.1; have := c.2.2; simp only [nd_len, fl] at *; omega⟩
theorem wt_dirs (hx : LxOk lx s) (n : Nat) : ∀ k, Wt s 0 fl (nDirs lx n k)
 | 0 => fun t x _ h => by cases h
 | k + 1 => fun t x h1 h => by
  unfold nDirs at h
  split at h
  ·obtain ⟨u, hu, h⟩ := Option.bind_eq_some_iff.1 h
   obtain ⟨y, hy, rfl⟩ := Option.map_eq_some_iff.1 h
   have a := wt_dir hx n t u h1 hu
   have b := wt_dirs hx n k u.2 y a.1 hy
   exact ⟨b.1, by have := a.2.1; have := b.2.1; simp only; omega, by have := a.2.2; have := b.2.2; simp only [fl, List.flatten_cons, List.length_append] at *; omega⟩
  ·obtain rfl := Option.some.inj h
   exact ⟨h1, Nat.le_refl _, by simp [fl]⟩
end
end Go.Proofs.YtjoagdldbmlenaaGreatDoor.WtL
