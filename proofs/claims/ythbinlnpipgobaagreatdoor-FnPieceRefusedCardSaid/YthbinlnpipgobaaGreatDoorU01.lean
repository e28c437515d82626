import Derived.Below
import Derived.WalkKit
import Derived.Test.YthbinlnpipgobaaGreatDoorWWords
import Derived.Lib.Strings
import Derived.Test.YthbinlnpipgobaaGreatDoorProg
import Derived.Laws.OwnMore
import Derived.Deep.AppendLies
import Derived.Deep.Draws
import Derived.Laws.Rows
import Derived.KernelRfl
import Derived.Deep.QuietTactic
import Derived.BigQuiet
import Derived.Deep.RegionHeld3
import Derived.Deep.DeepCutAuto
import Derived.Deep.CutBlock
namespace Go.Proofs.YthbinlnpipgobaaGreatDoor.Keep
set_option linter.unusedVariables false
set_option linter.unusedSimpArgs false
open Go.RowKit Go.Proofs.YthbinlnpipgobaaGreatDoorW.PrintWords

/-- All blocks but two are as they were. -/
structure Keeps (p q : Nat) (w w' : World) : Prop where
  os : w'.os = w.os
  tape : w'.tape = w.tape
  output : w'.output = w.output
  size : w.heap.size ≤ w'.heap.size
  block : ∀ k, k < w.heap.size → k ≠ p → k ≠ q → w'.heap[k]? = w.heap[k]?
section
variable {p q : Nat} {a w w' : World}
theorem Keeps.refl (p q : Nat) (w : World) : Keeps p q w w := ⟨rfl, rfl, rfl, Nat.le_refl _, fun _ _ _ _ => rfl⟩
theorem Keeps.trans (h : Keeps p q a w) (k : Keeps p q w w') : Keeps p q a w' :=
  ⟨k.os.trans h.os, k.tape.trans h.tape, k.output.trans h.output, Nat.le_trans h.size k.size, fun i hi h1 h2 => (k.block i (Nat.lt_of_lt_of_le hi h.size) h1 h2).trans (h.block i hi h1 h2)⟩
theorem Keeps.of_below (p q : Nat) (h : Below w.heap.size w w') : Keeps p q w w' := ⟨h.os, h.tape, h.output, h.size, fun k hk _ _ => h.block k hk⟩
theorem Keeps.then (h : Keeps p q a w) (k : Below w.heap.size w w') : Keeps p q a w' := h.trans (.of_below p q k)
theorem Keeps.alloc (h : Keeps p q a w) (o : Obj) : Keeps p q a (w.alloc o) := h.then ((Below.refl _ _).alloc (Nat.le_refl _) o)
theorem Keeps.drew (h : Keeps p q a w) : Keeps p q a w.drew := ⟨h.os, h.tape, h.output, h.size, h.block⟩
theorem Keeps.drewN (h : Keeps p q a w) (n : Nat) : Keeps p q a (w.drewN n) := h.then (pw_below_drewN (Below.refl _ _) n)
theorem Keeps.setP (h : Keeps p q a w) (j : Nat) (u : Value) : Keeps p q a (w.setCell ⟨p, j, none⟩ u) :=
  h.trans ⟨rfl, rfl, rfl, by simp [World.setCell], fun k hk h1 h2 => Below.heap_setCell _ _ _ _ h1⟩
theorem Keeps.setQ (h : Keeps p q a w) (j : Nat) (u : Value) : Keeps p q a (w.setCell ⟨q, j, none⟩ u) :=
  h.trans ⟨rfl, rfl, rfl, by simp [World.setCell], fun k hk h1 h2 => Below.heap_setCell _ _ _ _ h2⟩
/-- A store into a new block. -/
theorem Keeps.setNew (h : Keeps p q a w) {x : Addr} (hx : a.heap.size ≤ x.block) (u : Value) : Keeps p q a (w.setCell x u) :=
  ⟨h.os, h.tape, h.output, by simp [World.setCell]; exact h.size, fun k hk h1 h2 => (Below.heap_setCell _ _ _ _ (by omega)).trans (h.block k hk h1 h2)⟩
theorem Keeps.cell (h : Keeps p q w w') {b o : Nat} {v : Value} (hc : w.cell? ⟨b, o, none⟩ = some v) (h1 : b ≠ p) (h2 : b ≠ q) : w'.cell? ⟨b, o, none⟩ = some v := by
  rw [← hc]
  exact World.cell?_of_block (w := w) (h.block b (World.block_lt_of_cell? w _ hc) h1 h2)
theorem Keeps.below (h : Keeps p q w w') {B : Nat} (hB : B ≤ w.heap.size) (h1 : B ≤ p) (h2 : B ≤ q) : Below B w w' :=
  ⟨h.os, h.tape, h.output, h.size, fun k hk => h.block k (by omega) (by omega) (by omega)⟩
end
end Go.Proofs.YthbinlnpipgobaaGreatDoor.Keep
namespace Go.Proofs.YthbinlnpipgobaaGreatDoor.Mod
set_option linter.unusedVariables false
set_option linter.unusedSimpArgs false
open Go.Proofs.YthbinlnpipgobaaGreatDoorW.PrintWords

/-- A token: its kind, where it begins and ends, its text. -/
structure Tok where
  kind : Int
  start : Nat
  stop : Nat
  value : ByteArray

/-- The first place from p on whose byte is not of the class (n steps at most). -/
def scan (P : Int → Bool) (s : ByteArray) : Nat → Nat → Nat
  | 0, p => p
  | n + 1, p => if P (bt s p) then scan P s n (p + 1) else p
def isWs (c : Int) : Bool := c == 9 || c == 32 || c == 10 || c == 13 || c == 44
def isDig (c : Int) : Bool := decide (48 ≤ c) && decide (c ≤ 57)
def isLet (c : Int) : Bool := c == 95 || (decide (65 ≤ c) && decide (c ≤ 90)) || (decide (97 ≤ c) && decide (c ≤ 122))
def isNam (c : Int) : Bool := isLet c || isDig c
/-- The kind of a sign of one byte; 0: it is none. -/
def signK (c : Int) : Int :=
  if c = 33 then 2 else if c = 36 then 3 else if c = 38 then 20 else if c = 40 then 4 else if c = 41 then 5 else if c = 58 then 7 else if c = 61 then 8 else if c = 64 then 9 else if c = 91 then 10 else if c = 93 then 11 else if c = 123 then 12 else if c = 124 then 13 else if c = 125 then 14 else 0

/-- Digits from p on: where they end. -/
def mDig (s : ByteArray) (p : Nat) : Option Nat := if isDig (bt s p) then some (scan isDig s s.size p) else none
def mInt (s : ByteArray) (p : Nat) : Option Nat :=
  if bt s p = 48 then (if isDig (bt s (p + 1 : Nat)) then none else some (p + 1)) else mDig s p
def mFrac (s : ByteArray) (p : Nat) : Option (Bool × Nat) :=
  if bt s p = 46 then (mDig s (p + 1)).map fun q => (true, q) else some (false, p)
def mExp (s : ByteArray) (p : Nat) : Option (Bool × Nat) :=
  if bt s p = 69 ∨ bt s p = 101 then (mDig s (if bt s (p + 1 : Nat) = 43 ∨ bt s (p + 1 : Nat) = 45 then p + 2 else p + 1)).map fun q => (true, q) else some (false, p)
def mNum (s : ByteArray) (q : Nat) : Option Tok :=
  (mInt s (if bt s q = 45 then q + 1 else q)).bind fun p1 => (mFrac s p1).bind fun x => (mExp s x.2).map fun y => ⟨if x.1 || y.1 then 17 else 16, q, y.2, s.extract q y.2⟩
def mTokAt (s : ByteArray) (q : Nat) : Option Tok :=
  if s.size ≤ q then some ⟨1, q, q, ⟨#[]⟩⟩
  else if signK (bt s q) ≠ 0 then some ⟨signK (bt s q), q, q + 1, ⟨#[]⟩⟩
  else if bt s q = 46 then (if bt s (q + 1 : Nat) = 46 ∧ bt s (q + 2 : Nat) = 46 then some ⟨6, q, q + 3, ⟨#[]⟩⟩ else none)
  else if isLet (bt s q) then some ⟨15, q, scan isNam s s.size (q + 1), s.extract q (scan isNam s s.size (q + 1))⟩
  else if bt s q = 45 ∨ isDig (bt s q) then mNum s q
  else none
/-- The token from a place on; none: it is refused. (Texts of ASCII without quotation marks and comments.) -/
def lxOf (s : ByteArray) (p : Nat) : Option Tok := mTokAt s (scan isWs s s.size p)

abbrev Lx := Nat → Option Tok
section
variable (lx : Lx)
def mTok (k : Int) (t : Tok) : Option Tok := if t.kind = k then lx t.stop else none
def mName (t : Tok) : Option Tok := mTok lx 15 t
def mVar (t : Tok) : Option Tok := (mTok lx 3 t).bind (mName lx)
def mMany (f : Tok → Option Tok) (close : Int) : Nat → Tok → Option (Nat × Tok)
  | 0, _ => none
  | n + 1, t => if t.kind = close then (lx t.stop).map fun t' => (0, t') else (f t).bind fun t1 => (mMany f close n t1).map fun x => (x.1 + 1, x.2)
def mRev (f : Tok → Option Tok) (opn close : Int) (must : Bool) (n : Nat) (t : Tok) : Option Tok :=
  (mTok lx opn t).bind fun t1 => (mMany lx f close n t1).bind fun x => if must = true ∧ x.1 = 0 then none else some x.2
def nullT : ByteArray := ⟨#[110, 117, 108, 108]⟩
def onT : ByteArray := ⟨#[111, 110]⟩
def mPair (f : Tok → Option Tok) (t : Tok) : Option Tok := (mName lx t).bind fun t1 => (mTok lx 7 t1).bind f
def mVal : Nat → Tok → Option Tok
  | 0, _ => none
  | n + 1, t =>
    if t.kind = 10 then mRev lx (mVal n) 10 11 false n t
    else if t.kind = 12 then mRev lx (mPair lx (mVal n)) 12 14 false n t
    else if 16 ≤ t.kind ∧ t.kind ≤ 19 then lx t.stop
    else if t.kind = 15 then (if t.value.toList = nullT.toList then none else lx t.stop)
    else if t.kind = 3 then mVar lx t
    else none
def mArg (n : Nat) (t : Tok) : Option Tok := mPair lx (mVal lx n) t
def mArgs (n : Nat) (t : Tok) : Option Tok := if t.kind = 4 then mRev lx (mArg lx n) 4 5 true n t else some t
def mDir (n : Nat) (t : Tok) : Option Tok := (mTok lx 9 t).bind fun t1 => (mName lx t1).bind (mArgs lx n)
def mDirs (n : Nat) : Nat → Tok → Option Tok
  | 0, _ => none
  | k + 1, t => if t.kind = 9 then (mDir lx n t).bind (mDirs n k) else some t
def mField (st : Tok → Option Tok) (n : Nat) (t : Tok) : Option Tok :=
  (mName lx t).bind fun t1 => (if t1.kind = 7 then (lx t1.stop).bind (mName lx) else some t1).bind fun t2 => (mArgs lx n t2).bind fun t3 => (mDirs lx n n t3).bind fun t4 => if t4.kind = 12 then st t4 else some t4
def mFrag (st : Tok → Option Tok) (n : Nat) (t : Tok) : Option Tok :=
  (mTok lx 6 t).bind fun t1 =>
    if t1.kind = 15 ∧ t1.value.toList ≠ onT.toList then (mName lx t1).bind (mDirs lx n n)
    else (if t1.value.toList = onT.toList then (lx t1.stop).bind (mName lx) else some t1).bind fun t2 => (mDirs lx n n t2).bind st
def mSel (st : Tok → Option Tok) (n : Nat) (t : Tok) : Option Tok := if t.kind = 6 then mFrag lx st n t else mField lx st n t
def mSet : Nat → Tok → Option Tok
  | 0, _ => none
  | n + 1, t => mRev lx (mSel lx (mSet n) n) 12 14 true n t
end
end Go.Proofs.YthbinlnpipgobaaGreatDoor.Mod
namespace Go.Proofs.YthbinlnpipgobaaGreatDoor.Sim
set_option linter.unusedVariables false
set_option linter.unusedSimpArgs false
open Go.Proofs.YthbinlnpipgobaaGreatDoor.Mod
open Go.Proofs.YthbinlnpipgobaaGreatDoorW.PrintWords

theorem scan_eq (P : Int → Bool) (s : ByteArray) : ∀ (n p q : Nat), p ≤ q → q - p ≤ n → (∀ i, p ≤ i → i < q → P (bt s i) = true) → P (bt s q) = false → scan P s n p = q
  | 0, p, q, h0, h1, _, _ => by
    have : p = q := by omega
    rw [this]; rfl
  | n + 1, p, q, h0, h1, h2, h3 => by
    unfold scan
    by_cases hpq : p = q
    · subst hpq
      rw [h3]; rfl
    · rw [h2 p (Nat.le_refl _) (by omega), if_pos rfl]
      exact scan_eq P s n (p + 1) q (by omega) (by omega) (fun i hi hq => h2 i (by omega) hq) h3
theorem scan_end (P : Int → Bool) (s : ByteArray) : ∀ (d p e : Nat), e - p = d → p ≤ e → P (bt s e) = false → ∃ q, p ≤ q ∧ q ≤ e ∧ (∀ i, p ≤ i → i < q → P (bt s i) = true) ∧ P (bt s q) = false
  | 0, p, e, h, h1, h2 => ⟨e, h1, Nat.le_refl _, fun i h3 h4 => by omega, h2⟩
  | d + 1, p, e, h, h1, h2 => by
    cases hp : P (bt s p) with
    | false => exact ⟨p, Nat.le_refl _, h1, fun i h3 h4 => by omega, hp⟩
    | true =>
      obtain ⟨q, a, b, c, e'⟩ := scan_end P s d (p + 1) e (by omega) (by omega) h2
      refine ⟨q, by omega, b, fun i hi hq => ?_, e'⟩
      rcases Nat.lt_or_ge p i with h | h
      · exact c i h hq
      · obtain rfl : i = p := by omega
        exact hp
theorem scan_spec (P : Int → Bool) (s : ByteArray) (n p e : Nat) (h : p ≤ e) (hn : e - p ≤ n) (he : P (bt s e) = false) :
    p ≤ scan P s n p ∧ scan P s n p ≤ e ∧ (∀ i, p ≤ i → i < scan P s n p → P (bt s i) = true) ∧ P (bt s (scan P s n p : Nat)) = false := by
  obtain ⟨q, a, b, c, d⟩ := scan_end P s _ p e rfl h he
  rw [scan_eq P s n p q a (by omega) c d]
  exact ⟨a, b, c, d⟩

/-- A text stands in a body at a place. -/
structure In (B c : ByteArray) (d : Nat) : Prop where
  fit : d + c.size ≤ B.size
  eq : ∀ j : Nat, j < c.size → bt B (d + j : Nat) = bt c j
/-- A piece of m bytes, a line feed and a closing brace; of ASCII, without braces, quotation marks, comments. -/
structure Piece (c : ByteArray) (m : Nat) : Prop where
  size : c.size = m + 2
  lf : bt c m = 10
  close : bt c (m + 1 : Nat) = 125
  plain : ∀ j : Nat, j < m → bt c j < 128 ∧ bt c j ≠ 34 ∧ bt c j ≠ 35 ∧ bt c j ≠ 123 ∧ bt c j ≠ 125

def sh (d : Nat) (t : Tok) : Tok := ⟨t.kind, d + t.start, d + t.stop, t.value⟩

theorem scan_sh {P : Int → Bool} {B c : ByteArray} {d : Nat} (h : In B c d) (p e : Nat) (hp : p ≤ e) (he : e < c.size) (hP : P (bt c e) = false) :
    scan P B B.size (d + p) = d + scan P c c.size p ∧ p ≤ scan P c c.size p ∧ scan P c c.size p ≤ e ∧ P (bt c (scan P c c.size p : Nat)) = false := by
  obtain ⟨a, b, x, y⟩ := scan_spec P c c.size p e hp (by omega) hP
  have hf := h.fit
  refine ⟨?_, a, b, y⟩
  generalize scan P c c.size p = q at *
  refine scan_eq P B B.size (d + p) (d + q) (by omega) (by omega) (fun i hi hq => ?_) ?_
  · obtain ⟨j, rfl⟩ : ∃ j, i = d + j := ⟨i - d, by omega⟩
    rw [h.eq j (by omega)]
    exact x j (by omega) (by omega)
  · rw [h.eq q (by omega)]; exact y

theorem bt_nat (s : ByteArray) (i : Nat) (h : i < s.size) : bt s i = ((s[i]'h).toNat : Int) := by simp [bt, h]
theorem extract_sh {B c : ByteArray} {d : Nat} (h : In B c d) (q r : Nat) (hr : r ≤ c.size) : B.extract (d + q) (d + r) = c.extract q r := by
  have hf := h.fit
  have hsz : (B.extract (d + q) (d + r)).size = (c.extract q r).size := by rw [ByteArray.size_extract, ByteArray.size_extract]; omega
  apply ByteArray.ext_getElem hsz
  intro i h1 h2
  have h3 : i < min r c.size - q := by rw [ByteArray.size_extract] at h2; exact h2
  rw [ByteArray.getElem_extract, ByteArray.getElem_extract]
  have h4 := h.eq (q + i) (by omega)
  rw [bt_nat B _ (by omega), bt_nat c _ (by omega)] at h4
  apply UInt8.toNat_inj.1
  have h5 : (B[d + (q + i)]'(by omega)).toNat = (c[q + i]'(by omega)).toNat := by omega
  rw [← h5]
  congr 2
  omega

/-- What a token of a piece may be: the closing brace, or something ahead of the line feed. -/
def Reg0 (m : Nat) (t : Tok) : Prop := (t.kind = 14 ∧ t.stop = m + 2) ∨ (t.stop ≤ m ∧ t.kind ≠ 1 ∧ t.kind ≠ 12 ∧ t.kind ≠ 14)

section
variable {B c : ByteArray} {d m : Nat}
theorem dig_sh (h : In B c d) (hc : Piece c m) (p : Nat) (hp : p ≤ m) : mDig B (d + p) = (mDig c p).map (d + ·) ∧ ∀ q, mDig c p = some q → p < q ∧ q ≤ m := by
  have hs := hc.size
  unfold mDig
  rw [h.eq p (by omega)]
  obtain ⟨a, b, x, y⟩ := scan_sh (P := isDig) h p m hp (by omega) (by rw [hc.lf]; rfl)
  by_cases hd : isDig (bt c p) = true
  · rw [if_pos hd, if_pos hd, a]
    refine ⟨rfl, fun q hq => ?_⟩
    obtain rfl := Option.some.inj hq
    refine ⟨?_, x⟩
    rcases Nat.lt_or_ge p (scan isDig c c.size p) with h1 | h1
    · exact h1
    · have : scan isDig c c.size p = p := by omega
      rw [this, hd] at y
      cases y
  · rw [if_neg hd, if_neg hd]
    exact ⟨rfl, fun q hq => by cases hq⟩
theorem int_sh (h : In B c d) (hc : Piece c m) (p : Nat) (hp : p ≤ m) : mInt B (d + p) = (mInt c p).map (d + ·) ∧ ∀ q, mInt c p = some q → p < q ∧ q ≤ m := by
  have hs := hc.size
  unfold mInt
  rw [h.eq p (by omega)]
  by_cases h0 : bt c p = 48
  · have hpm : p < m := by
      rcases Nat.lt_or_ge p m with h1 | h1
      · exact h1
      · have : p = m := by omega
        rw [this, hc.lf] at h0
        omega
    rw [if_pos h0, if_pos h0, show d + p + 1 = d + (p + 1) by omega, h.eq (p + 1) (by omega)]
    by_cases hd : isDig (bt c (p + 1 : Nat)) = true
    · rw [if_pos hd, if_pos hd]
      exact ⟨rfl, fun q hq => by cases hq⟩
    · rw [if_neg hd, if_neg hd]
      refine ⟨rfl, fun q hq => ?_⟩
      obtain rfl := Option.some.inj hq
      omega
  · rw [if_neg h0, if_neg h0]
    exact dig_sh h hc p hp
theorem frac_sh (h : In B c d) (hc : Piece c m) (p : Nat) (hp : p ≤ m) : mFrac B (d + p) = (mFrac c p).map (fun x => (x.1, d + x.2)) ∧ ∀ q, mFrac c p = some q → p ≤ q.2 ∧ q.2 ≤ m := by
  have hs := hc.size
  unfold mFrac
  rw [h.eq p (by omega)]
  by_cases h0 : bt c p = 46
  · have hpm : p < m := by
      rcases Nat.lt_or_ge p m with h1 | h1
      · exact h1
      · have : p = m := by omega
        rw [this, hc.lf] at h0
        omega
    rw [if_pos h0, if_pos h0, show d + p + 1 = d + (p + 1) by omega]
    obtain ⟨a, b⟩ := dig_sh h hc (p + 1) (by omega)
    rw [a]
    cases hx : mDig c (p + 1) with
    | none => exact ⟨rfl, fun q hq => by cases hq⟩
    | some x =>
      refine ⟨rfl, fun q hq => ?_⟩
      obtain rfl := Option.some.inj hq
      have := b x hx
      simp only
      omega
  · rw [if_neg h0, if_neg h0]
    refine ⟨rfl, fun q hq => ?_⟩
    obtain rfl := Option.some.inj hq
    exact ⟨Nat.le_refl _, hp⟩
theorem exp_sh (h : In B c d) (hc : Piece c m) (p : Nat) (hp : p ≤ m) : mExp B (d + p) = (mExp c p).map (fun x => (x.1, d + x.2)) ∧ ∀ q, mExp c p = some q → p ≤ q.2 ∧ q.2 ≤ m := by
  have hs := hc.size
  unfold mExp
  rw [h.eq p (by omega)]
  by_cases h0 : bt c p = 69 ∨ bt c p = 101
  · have hpm : p < m := by
      rcases Nat.lt_or_ge p m with h1 | h1
      · exact h1
      · have : p = m := by omega
        rw [this, hc.lf] at h0
        omega
    rw [if_pos h0, if_pos h0, show d + p + 1 = d + (p + 1) by omega, show d + p + 2 = d + (p + 2) by omega, h.eq (p + 1) (by omega)]
    by_cases h1 : bt c (p + 1 : Nat) = 43 ∨ bt c (p + 1 : Nat) = 45
    · have hpm2 : p + 1 < m := by
        rcases Nat.lt_or_ge (p + 1) m with h2 | h2
        · exact h2
        · have : p + 1 = m := by omega
          rw [this, hc.lf] at h1
          omega
      rw [if_pos h1, if_pos h1]
      obtain ⟨a, b⟩ := dig_sh h hc (p + 2) (by omega)
      rw [a]
      cases hx : mDig c (p + 2) with
      | none => exact ⟨rfl, fun q hq => by cases hq⟩
      | some x =>
        refine ⟨rfl, fun q hq => ?_⟩
        obtain rfl := Option.some.inj hq
        have := b x hx
        simp only
        omega
    · rw [if_neg h1, if_neg h1]
      obtain ⟨a, b⟩ := dig_sh h hc (p + 1) (by omega)
      rw [a]
      cases hx : mDig c (p + 1) with
      | none => exact ⟨rfl, fun q hq => by cases hq⟩
      | some x =>
        refine ⟨rfl, fun q hq => ?_⟩
        obtain rfl := Option.some.inj hq
        have := b x hx
        simp only
        omega
  · rw [if_neg h0, if_neg h0]
    refine ⟨rfl, fun q hq => ?_⟩
    obtain rfl := Option.some.inj hq
    exact ⟨Nat.le_refl _, hp⟩
theorem num_sh (h : In B c d) (hc : Piece c m) (q : Nat) (hq : q < m) : mNum B (d + q) = (mNum c q).map (sh d) ∧ ∀ t, mNum c q = some t → Reg0 m t := by
  have hs := hc.size
  unfold mNum
  rw [h.eq q (by omega)]
  have e1 : (if bt c q = 45 then d + q + 1 else d + q) = d + (if bt c q = 45 then q + 1 else q) := by split <;> omega
  rw [e1]
  have hp : (if bt c q = 45 then q + 1 else q) ≤ m := by split <;> omega
  generalize (if bt c q = 45 then q + 1 else q) = p at *
  obtain ⟨a1, b1⟩ := int_sh h hc p hp
  rw [a1]
  cases hx : mInt c p with
  | none => exact ⟨rfl, fun t ht => by cases ht⟩
  | some x =>
    obtain ⟨_, hxm⟩ := b1 x hx
    simp only [Option.map_some, Option.bind_some]
    obtain ⟨a2, b2⟩ := frac_sh h hc x hxm
    rw [a2]
    cases hy : mFrac c x with
    | none => exact ⟨rfl, fun t ht => by cases ht⟩
    | some y =>
      obtain ⟨_, hym⟩ := b2 y hy
      simp only [Option.map_some, Option.bind_some]
      obtain ⟨a3, b3⟩ := exp_sh h hc y.2 hym
      rw [a3]
      cases hz : mExp c y.2 with
      | none => exact ⟨rfl, fun t ht => by cases ht⟩
      | some z =>
        obtain ⟨_, hzm⟩ := b3 z hz
        simp only [Option.map_some]
        rw [extract_sh h q z.2 (by omega)]
        refine ⟨rfl, fun t ht => ?_⟩
        obtain rfl := Option.some.inj ht
        refine .inr ⟨hzm, ?_, ?_, ?_⟩
        all_goals
          simp only
          split <;> omega
theorem sign_lt {x : Int} (h : signK x ≠ 0) : (signK x = 14 ↔ x = 125) ∧ (signK x = 12 ↔ x = 123) ∧ signK x ≠ 1 := by
  by_cases h0 : x = 33
  · subst h0; decide
  by_cases h1 : x = 36
  · subst h1; decide
  by_cases h2 : x = 38
  · subst h2; decide
  by_cases h3 : x = 40
  · subst h3; decide
  by_cases h4 : x = 41
  · subst h4; decide
  by_cases h5 : x = 58
  · subst h5; decide
  by_cases h6 : x = 61
  · subst h6; decide
  by_cases h7 : x = 64
  · subst h7; decide
  by_cases h8 : x = 91
  · subst h8; decide
  by_cases h9 : x = 93
  · subst h9; decide
  by_cases h10 : x = 123
  · subst h10; decide
  by_cases h11 : x = 124
  · subst h11; decide
  by_cases h12 : x = 125
  · subst h12; decide
  exact absurd (by simp [signK, h0, h1, h2, h3, h4, h5, h6, h7, h8, h9, h10, h11, h12]) h
theorem tok_sh (h : In B c d) (hc : Piece c m) (q : Nat) (hq : q < m ∨ q = m + 1) : mTokAt B (d + q) = (mTokAt c q).map (sh d) ∧ ∀ t, mTokAt c q = some t → Reg0 m t := by
  have hs := hc.size
  have hf := h.fit
  unfold mTokAt
  rw [h.eq q (by omega), if_neg (show ¬ B.size ≤ d + q by omega), if_neg (show ¬ c.size ≤ q by omega)]
  by_cases h0 : signK (bt c q) ≠ 0
  · rw [if_pos h0, if_pos h0]
    refine ⟨rfl, fun t ht => ?_⟩
    obtain rfl := Option.some.inj ht
    obtain ⟨s1, s2, s3⟩ := sign_lt h0
    rcases hq with hq | rfl
    · obtain ⟨_, _, _, n1, n2⟩ := hc.plain q hq
      refine .inr ⟨by simp only; omega, s3, fun e => n1 (s2.1 e), fun e => n2 (s1.1 e)⟩
    · exact .inl ⟨s1.2 hc.close, rfl⟩
  · rw [if_neg h0, if_neg h0]
    have hqm : q < m := by
      rcases hq with hq | rfl
      · exact hq
      · rw [hc.close] at h0
        exact absurd (by decide) h0
    by_cases h1 : bt c q = 46
    · rw [if_pos h1, if_pos h1, show d + q + 1 = d + (q + 1) by omega, show d + q + 2 = d + (q + 2) by omega, h.eq (q + 1) (by omega), h.eq (q + 2) (by omega)]
      by_cases h2 : bt c (q + 1 : Nat) = 46 ∧ bt c (q + 2 : Nat) = 46
      · rw [if_pos h2, if_pos h2]
        refine ⟨rfl, fun t ht => ?_⟩
        obtain rfl := Option.some.inj ht
        have : q + 2 < m := by
          rcases Nat.lt_or_ge (q + 2) m with h3 | h3
          · exact h3
          · exfalso
            have : q + 2 = m ∨ q + 1 = m := by omega
            rcases this with e | e
            · have := h2.2; rw [e, hc.lf] at this; omega
            · have := h2.1; rw [e, hc.lf] at this; omega
        exact .inr ⟨by simp only; omega, by simp, by simp, by simp⟩
      · rw [if_neg h2, if_neg h2]
        exact ⟨rfl, fun t ht => by cases ht⟩
    · rw [if_neg h1, if_neg h1]
      by_cases h2 : isLet (bt c q) = true
      · rw [if_pos h2, if_pos h2]
        obtain ⟨a, b, x, y⟩ := scan_sh (P := isNam) h (q + 1) m (by omega) (by omega) (by rw [hc.lf]; rfl)
        rw [show d + q + 1 = d + (q + 1) by omega, a, extract_sh h q _ (by omega)]
        refine ⟨rfl, fun t ht => ?_⟩
        obtain rfl := Option.some.inj ht
        exact .inr ⟨x, by simp, by simp, by simp⟩
      · rw [if_neg h2, if_neg h2]
        by_cases h3 : bt c q = 45 ∨ isDig (bt c q) = true
        · rw [if_pos h3, if_pos h3]
          exact num_sh h hc q hqm
        · rw [if_neg h3, if_neg h3]
          exact ⟨rfl, fun t ht => by cases ht⟩
theorem bytes_inj {s t : ByteArray} (h : s.toList = t.toList) : s = t := by
  rw [Go.Lib.toList_data, Go.Lib.toList_data] at h
  exact ByteArray.ext (Array.toList_inj.1 h)
/-- A word that is a name: the tokens of a piece that say so are names. -/
theorem on_name {c : ByteArray} {p : Nat} {t : Tok} (h : lxOf c p = some t) (ht : t.value.toList = onT.toList) : t.kind = 15 := by
  unfold lxOf mTokAt at h
  generalize scan isWs c c.size p = q at h
  have hne : onT.toList ≠ (⟨#[]⟩ : ByteArray).toList := by decide +kernel
  split at h
  · obtain rfl := Option.some.inj h
    exact absurd ht.symm hne
  · split at h
    · obtain rfl := Option.some.inj h
      exact absurd ht.symm hne
    · split at h
      · split at h
        · obtain rfl := Option.some.inj h
          exact absurd ht.symm hne
        · cases h
      · split at h
        · obtain rfl := Option.some.inj h
          rfl
        · split at h
          · rename_i h1 h2 h3 h4
            exfalso
            unfold mNum at h
            generalize (if bt c q = 45 then q + 1 else q) = p1 at h
            cases hi : mInt c p1 with
            | none => rw [hi] at h; cases h
            | some x =>
              rw [hi] at h
              simp only [Option.bind_some] at h
              cases hy : mFrac c x with
              | none => rw [hy] at h; cases h
              | some y =>
                rw [hy] at h
                simp only [Option.bind_some] at h
                cases hz : mExp c y.2 with
                | none => rw [hz] at h; cases h
                | some z =>
                  rw [hz] at h
                  obtain rfl := Option.some.inj h
                  simp only at ht
                  have hq : q < c.size := by omega
                  have e : c.extract q z.2 = onT := bytes_inj ht
                  have hsz : 0 < (c.extract q z.2).size := by rw [e]; decide
                  have hb : (c.extract q z.2)[0]'hsz = 111 := by simp only [e]; rfl
                  rw [ByteArray.getElem_extract] at hb
                  have hv := bt_nat c q hq
                  have hb2 : (c[q]'hq) = 111 := by
                    rw [← hb]; rfl
                  rw [hb2] at hv
                  have hv : bt c q = 111 := hv
                  rcases h4 with h4 | h4
                  · omega
                  · unfold isDig at h4
                    rw [hv] at h4
                    simp at h4
          · cases h
/-- The same, and a token that says 'on' is a name. -/
def Reg (m : Nat) (t : Tok) : Prop := Reg0 m t ∧ (t.value.toList = onT.toList → t.kind = 15)
/-- The tokens of a piece are those of the body in which it stands. -/
theorem lx_sh (h : In B c d) (hc : Piece c m) (p : Nat) (hp : p ≤ m) : lxOf B (d + p) = (lxOf c p).map (sh d) ∧ ∀ t, lxOf c p = some t → Reg m t := by
  have hs := hc.size
  unfold lxOf
  obtain ⟨a, b, x, y⟩ := scan_sh (P := isWs) h p (m + 1) (by omega) (by omega) (by rw [hc.close]; rfl)
  rw [a]
  have hne : scan isWs c c.size p ≠ m := fun e => by
    rw [e, hc.lf] at y
    cases y
  obtain ⟨r1, r2⟩ := tok_sh h hc (scan isWs c c.size p) (by omega)
  exact ⟨r1, fun t ht => ⟨r2 t ht, on_name (p := p) ht⟩⟩

/-- Two steps go along with each other. -/
def SimF (m d : Nat) (f g : Tok → Option Tok) : Prop := ∀ t, Reg m t → g (sh d t) = (f t).map (sh d) ∧ ∀ t', f t = some t' → Reg m t'
theorem SimF.bind {f g f' g' : Tok → Option Tok} (h1 : SimF m d f g) (h2 : SimF m d f' g') : SimF m d (fun t => (f t).bind f') (fun t => (g t).bind g') := fun t ht => by
  obtain ⟨a, b⟩ := h1 t ht
  simp only [a]
  cases hf : f t with
  | none => exact ⟨rfl, fun t' e => by cases e⟩
  | some x => exact h2 x (b x hf)
theorem SimF.some : SimF m d some some := fun t ht => ⟨rfl, fun t' e => by obtain rfl := Option.some.inj e; exact ht⟩
theorem SimF.none : SimF m d (fun _ => none) (fun _ => none) := fun t ht => ⟨rfl, fun t' e => by cases e⟩
theorem SimF.adv (h : In B c d) (hc : Piece c m) (k : Int) (hk : k ≠ 14) : SimF m d (mTok (lxOf c) k) (mTok (lxOf B) k) := fun t ht => by
  unfold mTok
  show (if t.kind = k then _ else _) = _ ∧ _
  by_cases e : t.kind = k
  · rw [if_pos e, if_pos e]
    have : t.stop ≤ m := by
      rcases ht.1 with ⟨e1, _⟩ | ⟨e1, _⟩
      · exact absurd (e1.symm.trans e).symm hk
      · exact e1
    exact lx_sh h hc t.stop this
  · rw [if_neg e, if_neg e]
    exact ⟨rfl, fun t' e => by cases e⟩
theorem SimF.ite {f g f' g' : Tok → Option Tok} (p : Int → List UInt8 → Prop) [∀ k v, Decidable (p k v)] (h1 : SimF m d f g) (h2 : SimF m d f' g') : SimF m d (fun t => if p t.kind t.value.toList then f t else f' t) (fun t => if p t.kind t.value.toList then g t else g' t) := fun t ht => by
  show (if p t.kind t.value.toList then g (sh d t) else g' (sh d t)) = (if p t.kind t.value.toList then f t else f' t).map (sh d) ∧ _
  by_cases e : p t.kind t.value.toList
  · rw [if_pos e, if_pos e]; simp only [if_pos e]; exact h1 t ht
  · rw [if_neg e, if_neg e]; simp only [if_neg e]; exact h2 t ht
theorem SimF.congr {f g f' g' : Tok → Option Tok} (h : SimF m d f g) (e1 : ∀ t, f' t = f t) (e2 : ∀ t, g' t = g t) : SimF m d f' g' := fun t ht => by rw [e1, e2]; exact h t ht
theorem sim_many (h : In B c d) (hc : Piece c m) {f g : Tok → Option Tok} (hf : SimF m d f g) (k : Int) (hk : k ≠ 14) : ∀ (n : Nat) (t : Tok), Reg m t →
    mMany (lxOf B) g k n (sh d t) = (mMany (lxOf c) f k n t).map (fun x => (x.1, sh d x.2)) ∧ ∀ x, mMany (lxOf c) f k n t = some x → Reg m x.2
  | 0, t, ht => ⟨rfl, fun x e => by cases e⟩
  | n + 1, t, ht => by
    unfold mMany
    show (if t.kind = k then (lxOf B (d + t.stop)).map _ else _) = _ ∧ _
    by_cases e : t.kind = k
    · rw [if_pos e, if_pos e]
      have : t.stop ≤ m := by
        rcases ht.1 with ⟨e1, _⟩ | ⟨e1, _⟩
        · exact absurd (e1.symm.trans e).symm hk
        · exact e1
      obtain ⟨a, b⟩ := lx_sh h hc t.stop this
      rw [a]
      cases hx : lxOf c t.stop with
      | none => exact ⟨rfl, fun x e => by cases e⟩
      | some x => exact ⟨rfl, fun y e => by obtain rfl := Option.some.inj e; exact b x hx⟩
    · rw [if_neg e, if_neg e]
      obtain ⟨a, b⟩ := hf t ht
      rw [a]
      cases hx : f t with
      | none => exact ⟨rfl, fun x e => by cases e⟩
      | some x =>
        simp only [Option.map_some, Option.bind_some]
        obtain ⟨a2, b2⟩ := sim_many h hc hf k hk n x (b x hx)
        rw [a2]
        cases hy : mMany (lxOf c) f k n x with
        | none => exact ⟨rfl, fun x e => by cases e⟩
        | some y => exact ⟨rfl, fun z e => by obtain rfl := Option.some.inj e; exact b2 y hy⟩
theorem sim_rev (h : In B c d) (hc : Piece c m) {f g : Tok → Option Tok} (hf : SimF m d f g) (o k : Int) (ho : o ≠ 14) (hk : k ≠ 14) (must : Bool) (n : Nat) : SimF m d (mRev (lxOf c) f o k must n) (mRev (lxOf B) g o k must n) :=
  (SimF.adv h hc o ho).bind fun t ht => by
    obtain ⟨a, b⟩ := sim_many h hc hf k hk n t ht
    rw [a]
    cases hx : mMany (lxOf c) f k n t with
    | none => exact ⟨rfl, fun x e => by cases e⟩
    | some x =>
      simp only [Option.map_some, Option.bind_some]
      by_cases e : must = true ∧ x.1 = 0
      · rw [if_pos e, if_pos e]; exact ⟨rfl, fun x e => by cases e⟩
      · rw [if_neg e, if_neg e]
        exact ⟨rfl, fun y e => by obtain rfl := Option.some.inj e; exact b x hx⟩
theorem sim_name (h : In B c d) (hc : Piece c m) : SimF m d (mName (lxOf c)) (mName (lxOf B)) := SimF.adv h hc 15 (by decide)
theorem sim_any (h : In B c d) (hc : Piece c m) (p : Int → List UInt8 → Prop) [∀ k v, Decidable (p k v)] (hp : ∀ k v, p k v → k ≠ 14) : ∀ t, Reg m t → p t.kind t.value.toList → (lxOf B ((sh d t).stop) = (lxOf c t.stop).map (sh d) ∧ ∀ t', lxOf c t.stop = some t' → Reg m t') := fun t ht hpt => by
  have : t.stop ≤ m := by
    rcases ht.1 with ⟨e1, _⟩ | ⟨e1, _⟩
    · exact absurd e1 (hp _ _ hpt)
    · exact e1
  exact lx_sh h hc t.stop this
theorem reg_12 {t : Tok} (h : Reg m t) : t.kind ≠ 12 := by
  rcases h.1 with ⟨e, _⟩ | ⟨_, _, e, _⟩
  · omega
  · exact e
theorem sim_val (h : In B c d) (hc : Piece c m) : ∀ n, SimF m d (mVal (lxOf c) n) (mVal (lxOf B) n)
  | 0 => SimF.none
  | n + 1 => fun t ht => by
    unfold mVal
    show (if t.kind = 10 then _ else if t.kind = 12 then _ else if 16 ≤ t.kind ∧ t.kind ≤ 19 then _ else if t.kind = 15 then (if t.value.toList = nullT.toList then _ else _) else if t.kind = 3 then _ else _) = _ ∧ _
    by_cases e1 : t.kind = 10
    · rw [if_pos e1, if_pos e1]
      exact sim_rev h hc (sim_val h hc n) 10 11 (by decide) (by decide) false n t ht
    · rw [if_neg e1, if_neg e1, if_neg (reg_12 ht), if_neg (reg_12 ht)]
      by_cases e2 : 16 ≤ t.kind ∧ t.kind ≤ 19
      · rw [if_pos e2, if_pos e2]
        exact sim_any h hc (fun k _ => 16 ≤ k ∧ k ≤ 19) (fun k v hk => by omega) t ht e2
      · rw [if_neg e2, if_neg e2]
        by_cases e3 : t.kind = 15
        · rw [if_pos e3, if_pos e3]
          by_cases e4 : t.value.toList = nullT.toList
          · rw [if_pos e4, if_pos e4]; exact ⟨rfl, fun x e => by cases e⟩
          · rw [if_neg e4, if_neg e4]
            exact sim_any h hc (fun k _ => k = 15) (fun k v hk => by omega) t ht e3
        · rw [if_neg e3, if_neg e3]
          by_cases e4 : t.kind = 3
          · rw [if_pos e4, if_pos e4]
            exact ((SimF.adv h hc 3 (by decide)).bind (sim_name h hc)) t ht
          · rw [if_neg e4, if_neg e4]; exact ⟨rfl, fun x e => by cases e⟩
theorem sim_arg (h : In B c d) (hc : Piece c m) (n : Nat) : SimF m d (mArg (lxOf c) n) (mArg (lxOf B) n) := (sim_name h hc).bind ((SimF.adv h hc 7 (by decide)).bind (sim_val h hc n))
theorem sim_args (h : In B c d) (hc : Piece c m) (n : Nat) : SimF m d (mArgs (lxOf c) n) (mArgs (lxOf B) n) :=
  SimF.ite (fun k _ => k = 4) (sim_rev h hc (sim_arg h hc n) 4 5 (by decide) (by decide) true n) SimF.some
theorem sim_dir (h : In B c d) (hc : Piece c m) (n : Nat) : SimF m d (mDir (lxOf c) n) (mDir (lxOf B) n) := (SimF.adv h hc 9 (by decide)).bind ((sim_name h hc).bind (sim_args h hc n))
theorem sim_dirs (h : In B c d) (hc : Piece c m) (n : Nat) : ∀ k, SimF m d (mDirs (lxOf c) n k) (mDirs (lxOf B) n k)
  | 0 => SimF.none
  | k + 1 => SimF.ite (fun k _ => k = 9) ((sim_dir h hc n).bind (sim_dirs h hc n k)) SimF.some
theorem set_none (lx : Lx) (n : Nat) (t : Tok) (h : t.kind ≠ 12) : mSet lx n t = none := by
  cases n with
  | zero => rfl
  | succ n =>
    unfold mSet mRev mTok
    rw [if_neg h]; rfl
theorem sim_st (n n' : Nat) : SimF m d (mSet (lxOf c) n) (mSet (lxOf B) n') := fun t ht => by
  rw [set_none _ _ t (reg_12 ht), set_none _ _ (sh d t) (show (sh d t).kind ≠ 12 from reg_12 (t := t) ht)]
  exact ⟨rfl, fun x e => by cases e⟩
theorem sim_skip (h : In B c d) (hc : Piece c m) (k : Int) (hk : k ≠ 14) : SimF m d (fun t => if t.kind = k then (lxOf c t.stop).bind (mName (lxOf c)) else some t) (fun t => if t.kind = k then (lxOf B t.stop).bind (mName (lxOf B)) else some t) :=
  ((SimF.ite (fun x _ => x = k) ((SimF.adv h hc k hk).bind (sim_name h hc)) SimF.some)).congr (fun t => by
    unfold mTok
    by_cases e : t.kind = k
    · simp [e]
    · simp [e]) (fun t => by
    unfold mTok
    by_cases e : t.kind = k
    · simp [e]
    · simp [e])
theorem sim_field (h : In B c d) (hc : Piece c m) {f g : Tok → Option Tok} (hf : SimF m d f g) (n : Nat) : SimF m d (mField (lxOf c) f n) (mField (lxOf B) g n) :=
  (sim_name h hc).bind ((sim_skip h hc 7 (by decide)).bind ((sim_args h hc n).bind ((sim_dirs h hc n n).bind (SimF.ite (fun k _ => k = 12) hf SimF.some))))
theorem sim_on (h : In B c d) (hc : Piece c m) : SimF m d (fun t => if t.value.toList = onT.toList then (lxOf c t.stop).bind (mName (lxOf c)) else some t) (fun t => if t.value.toList = onT.toList then (lxOf B t.stop).bind (mName (lxOf B)) else some t) := fun t ht => by
  show (if t.value.toList = onT.toList then _ else _) = _ ∧ _
  by_cases e : t.value.toList = onT.toList
  · have hk := ht.2 e
    have h1 := ((SimF.adv h hc 15 (by decide)).bind (sim_name h hc)) t ht
    have e1 : mTok (lxOf c) 15 t = lxOf c t.stop := by unfold mTok; rw [if_pos hk]
    have e2 : mTok (lxOf B) 15 (sh d t) = lxOf B (sh d t).stop := by unfold mTok; rw [if_pos (show (sh d t).kind = 15 from hk)]
    simp only [e1, e2] at h1
    rw [if_pos e]
    simp only [if_pos e]
    exact h1
  · rw [if_neg e]
    simp only [if_neg e]
    exact SimF.some t ht
theorem sim_frag (h : In B c d) (hc : Piece c m) {f g : Tok → Option Tok} (hf : SimF m d f g) (n : Nat) : SimF m d (mFrag (lxOf c) f n) (mFrag (lxOf B) g n) :=
  (SimF.adv h hc 6 (by decide)).bind (SimF.ite (fun k v => k = 15 ∧ v ≠ onT.toList) ((sim_name h hc).bind (sim_dirs h hc n n)) ((sim_on h hc).bind ((sim_dirs h hc n n).bind hf)))
theorem sim_sel (h : In B c d) (hc : Piece c m) {f g : Tok → Option Tok} (hf : SimF m d f g) (n : Nat) : SimF m d (mSel (lxOf c) f n) (mSel (lxOf B) g n) :=
  SimF.ite (fun k _ => k = 6) (sim_frag h hc hf n) (sim_field h hc hf n)
/-- The row of selections up to the closing brace. -/
theorem sim_sels (h : In B c d) (hc : Piece c m) {f g : Tok → Option Tok} (hf : SimF m d f g) : ∀ (n : Nat) (t : Tok), Reg m t →
    (mMany (lxOf c) f 14 n t = none → mMany (lxOf B) g 14 n (sh d t) = none) ∧ (∀ x, mMany (lxOf c) f 14 n t = some x → mMany (lxOf B) g 14 n (sh d t) = (lxOf B (d + (m + 2))).map fun t' => (x.1, t'))
  | 0, t, ht => ⟨fun _ => rfl, fun x e => by cases e⟩
  | n + 1, t, ht => by
    unfold mMany
    have hk : (sh d t).kind = t.kind := rfl
    by_cases e : t.kind = 14
    · rw [if_pos e, if_pos (hk.trans e)]
      have hst : t.stop = m + 2 := by
        rcases ht.1 with ⟨_, e1⟩ | ⟨_, _, _, e1⟩
        · exact e1
        · exact absurd e e1
      have hlc : lxOf c t.stop = some ⟨1, m + 2, m + 2, ⟨#[]⟩⟩ := by
        have hs := hc.size
        unfold lxOf
        rw [hst]
        have : scan isWs c c.size (m + 2) = m + 2 := scan_eq isWs c c.size (m + 2) (m + 2) (Nat.le_refl _) (by omega) (fun i h1 h2 => by omega) (by
          have : bt c (m + 2 : Nat) = 0 := by unfold bt; rw [dif_neg (by simp; omega)]
          rw [this]; rfl)
        rw [this]
        unfold mTokAt
        rw [if_pos (by omega)]
      rw [hlc]
      refine ⟨(fun h => by cases h), fun x hx => ?_⟩
      obtain rfl := Option.some.inj hx
      show (lxOf B (d + t.stop)).map _ = _
      rw [hst]
    · rw [if_neg e, if_neg (fun h => e (hk.symm.trans h))]
      obtain ⟨a, b⟩ := hf t ht
      rw [a]
      cases hx : f t with
      | none => exact ⟨fun _ => rfl, fun x e => by cases e⟩
      | some x =>
        simp only [Option.map_some, Option.bind_some]
        obtain ⟨a2, b2⟩ := sim_sels h hc hf n x (b x hx)
        refine ⟨fun h => ?_, fun y hy => ?_⟩
        · cases hm : mMany (lxOf c) f 14 n x with
          | none => rw [a2 hm]; rfl
          | some z => rw [hm] at h; cases h
        · cases hm : mMany (lxOf c) f 14 n x with
          | none => rw [hm] at hy; cases hy
          | some z =>
            rw [hm] at hy
            obtain rfl := Option.some.inj hy
            rw [b2 z hm]
            cases lxOf B (d + (m + 2)) <;> rfl
end
end Go.Proofs.YthbinlnpipgobaaGreatDoor.Sim
namespace Go.Proofs.YthbinlnpipgobaaGreatDoor.Four
set_option linter.unusedVariables false
set_option linter.unusedSimpArgs false
open Go.Proofs.YthbinlnpipgobaaGreatDoor.Mod Go.Proofs.YthbinlnpipgobaaGreatDoor.Sim
open Go.Proofs.YthbinlnpipgobaaGreatDoorW.PrintWords

theorem bt_out (s : ByteArray) (i : Nat) (h : s.size ≤ i) : bt s i = 0 := by unfold bt; rw [dif_neg (by simp; omega)]
theorem bt_app (x y : ByteArray) (j : Nat) : bt (x ++ y) j = if j < x.size then bt x j else bt y (j - x.size : Nat) := by
  have hs : (x ++ y).size = x.size + y.size := ByteArray.size_append
  by_cases h : j < x.size
  · rw [if_pos h, bt_nat _ j (by omega), bt_nat _ j h, ByteArray.getElem_append_left h]
  · rw [if_neg h]
    by_cases h2 : j < (x ++ y).size
    · rw [bt_nat _ j h2, bt_nat _ _ (by omega), ByteArray.getElem_append_right (by omega)]
    · rw [bt_out _ j (by omega), bt_out _ _ (by omega)]

theorem lx_sign {B : ByteArray} {p : Nat} {k : Int} (h : p < B.size) (hk : signK (bt B p) = k) (h0 : k ≠ 0) (hw : isWs (bt B p) = false) : lxOf B p = some ⟨k, p, p + 1, ⟨#[]⟩⟩ := by
  unfold lxOf
  rw [scan_eq isWs B B.size p p (Nat.le_refl _) (by omega) (fun i h1 h2 => by omega) hw]
  unfold mTokAt
  rw [if_neg (by omega), hk, if_pos h0]
theorem lx_end {B : ByteArray} {p : Nat} (h : B.size ≤ p) : lxOf B p = some ⟨1, p, p, ⟨#[]⟩⟩ := by
  unfold lxOf
  rw [scan_eq isWs B B.size p p (Nat.le_refl _) (by omega) (fun i h1 h2 => by omega) (by rw [bt_out B p h]; rfl)]
  unfold mTokAt
  rw [if_pos h]
theorem lx_name {B : ByteArray} {p q r : Nat} (hpq : p ≤ q) (hqr : q < r) (hr : r ≤ B.size) (hw : ∀ i, p ≤ i → i < q → isWs (bt B i) = true) (hl : isLet (bt B q) = true) (hn : ∀ i, q < i → i < r → isNam (bt B i) = true) (he : isNam (bt B r) = false) :
    lxOf B p = some ⟨15, q, r, B.extract q r⟩ := by
  have hq : isWs (bt B q) = false ∧ signK (bt B q) = 0 ∧ bt B q ≠ 46 := by
    unfold isLet at hl
    generalize bt B q = x at hl
    have hx : x = 95 ∨ (65 ≤ x ∧ x ≤ 90) ∨ (97 ≤ x ∧ x ≤ 122) := by
      simp only [Bool.or_eq_true, Bool.and_eq_true, decide_eq_true_eq, beq_iff_eq] at hl
      omega
    refine ⟨?_, ?_, by omega⟩
    · unfold isWs
      simp only [Bool.or_eq_false_iff, beq_eq_false_iff_ne]
      omega
    · unfold signK
      rw [if_neg (by omega), if_neg (by omega), if_neg (by omega), if_neg (by omega), if_neg (by omega), if_neg (by omega), if_neg (by omega), if_neg (by omega), if_neg (by omega), if_neg (by omega), if_neg (by omega), if_neg (by omega), if_neg (by omega)]
  unfold lxOf
  rw [scan_eq isWs B B.size p q hpq (by omega) hw hq.1]
  unfold mTokAt
  rw [if_neg (by omega), hq.2.1, if_neg (by omega), if_neg hq.2.2, if_pos hl, scan_eq isNam B B.size (q + 1) r (by omega) (by omega) (fun i h1 h2 => hn i (by omega) h2) he]

/-- What a piece says: how many selections it has; none: it is refused. -/
def acc (c : ByteArray) (n : Nat) : Option (Nat × Tok) := (lxOf c 0).bind (mMany (lxOf c) (mSel (lxOf c) (mSet (lxOf c) n) n) 14 n)
def okP (c : ByteArray) (n : Nat) : Bool := (acc c n).any fun x => x.1 != 0

/-- A set of selections that a piece is. -/
theorem set_piece {B c : ByteArray} {d m : Nat} (h : In B c d) (hc : Piece c m) (n s0 : Nat) (v : ByteArray) (e : Tok) (he : lxOf B (d + (m + 2)) = some e) :
    (okP c n = true → mSet (lxOf B) (n + 1) ⟨12, s0, d, v⟩ = some e) ∧ (okP c n = false → mSet (lxOf B) (n + 1) ⟨12, s0, d, v⟩ = none) := by
  have hm : mSet (lxOf B) (n + 1) ⟨12, s0, d, v⟩ = (lxOf B d).bind fun t1 => (mMany (lxOf B) (mSel (lxOf B) (mSet (lxOf B) n) n) 14 n t1).bind fun x => if x.1 = 0 then none else some x.2 := by
    unfold mSet mRev mTok
    simp
  obtain ⟨a, b⟩ := lx_sh h hc 0 (Nat.zero_le _)
  rw [show d + 0 = d by rfl] at a
  rw [hm, a]
  unfold okP acc
  cases ht : lxOf c 0 with
  | none => exact ⟨(fun h => by cases h), fun _ => rfl⟩
  | some t =>
    simp only [Option.map_some, Option.bind_some]
    obtain ⟨s1, s2⟩ := sim_sels h hc (sim_sel h hc (sim_st (B := B) (c := c) (d := d) n n) n) n t (b t ht)
    obtain ⟨y, hy⟩ : ∃ y, mMany (lxOf c) (mSel (lxOf c) (mSet (lxOf c) n) n) 14 n t = y := ⟨_, rfl⟩
    rw [hy]
    cases y with
    | none => rw [s1 hy]; exact ⟨(fun h => by cases h), fun _ => rfl⟩
    | some x =>
      rw [s2 x hy, he]
      simp only [Option.map_some, Option.bind_some, Option.any_some]
      by_cases h0 : x.1 = 0
      · rw [if_pos h0, h0]; exact ⟨(fun h => by cases h), fun _ => rfl⟩
      · rw [if_neg h0]
        exact ⟨fun _ => rfl, fun h => absurd (by simpa using h) h0⟩

section
variable (a : ByteArray)
def tailT : ByteArray := ⟨#[10, 125]⟩
def pieceT : ByteArray := a ++ tailT
theorem piece_in (pre post : ByteArray) : In (pre ++ (pieceT a) ++ post) (pieceT a) pre.size := by
  refine ⟨by rw [ByteArray.size_append, ByteArray.size_append]; omega, fun j hj => ?_⟩
  rw [bt_app, if_pos (by rw [ByteArray.size_append]; omega), bt_app, if_neg (by omega)]
  congr 2
  omega
theorem piece_of (hp : ∀ j : Nat, j < a.size → bt a j < 128 ∧ bt a j ≠ 34 ∧ bt a j ≠ 35 ∧ bt a j ≠ 123 ∧ bt a j ≠ 125) : Piece (pieceT a) a.size := by
  refine ⟨by unfold pieceT; rw [ByteArray.size_append]; rfl, ?_, ?_, fun j hj => ?_⟩
  · unfold pieceT
    rw [bt_app, if_neg (by omega), Nat.sub_self]; decide +kernel
  · unfold pieceT
    rw [bt_app, if_neg (by omega), show a.size + 1 - a.size = 1 by omega]; decide +kernel
  · unfold pieceT
    rw [bt_app, if_pos hj]
    exact hp j hj
end

/-- A body: a beginning, a piece, an end. -/
def body (pre a post : ByteArray) : ByteArray := pre ++ (pieceT a) ++ post
section
variable {pre a post : ByteArray}
theorem body_size : (body pre a post).size = pre.size + (a.size + 2) + post.size := by
  unfold body pieceT
  rw [ByteArray.size_append, ByteArray.size_append, ByteArray.size_append]; rfl
theorem bt_pre (j : Nat) (h : j < pre.size) : bt (body pre a post) j = bt pre j := by
  unfold body
  rw [bt_app, if_pos (by rw [ByteArray.size_append]; omega), bt_app, if_pos h]
theorem bt_post (j i : Nat) (h : i = pre.size + (a.size + 2) + j) : bt (body pre a post) i = bt post j := by
  have hs : (pre ++ pieceT a).size = pre.size + (a.size + 2) := by unfold pieceT; rw [ByteArray.size_append, ByteArray.size_append]; rfl
  unfold body
  rw [bt_app, if_neg (by omega), hs]
  congr 2
  omega
theorem extract_pre (q r : Nat) (h : r ≤ pre.size) : (body pre a post).extract q r = pre.extract q r := by
  have hsz : ((body pre a post).extract q r).size = (pre.extract q r).size := by rw [ByteArray.size_extract, ByteArray.size_extract, body_size]; omega
  apply ByteArray.ext_getElem hsz
  intro i h1 h2
  have h3 : i < min r pre.size - q := by rw [ByteArray.size_extract] at h2; exact h2
  rw [ByteArray.getElem_extract, ByteArray.getElem_extract]
  have h4 := bt_pre (a := a) (post := post) (q + i) (by omega : q + i < pre.size)
  rw [bt_nat _ _ (by rw [body_size]; omega), bt_nat pre _ (by omega)] at h4
  apply UInt8.toNat_inj.1
  omega
/-- A name in the beginning. -/
theorem name_pre {p q r : Nat} (hr : r < pre.size) (hpq : p ≤ q) (hqr : q < r) (hw : ∀ i, i < pre.size → p ≤ i → i < q → isWs (bt pre i) = true) (hl : isLet (bt pre q) = true) (hn : ∀ i, i < pre.size → q < i → i < r → isNam (bt pre i) = true) (he : isNam (bt pre r) = false) :
    lxOf (body pre a post) p = some ⟨15, q, r, pre.extract q r⟩ := by
  rw [← extract_pre (a := a) (post := post) q r (by omega)]
  refine lx_name hpq hqr (by rw [body_size]; omega) (fun i h1 h2 => ?_) ?_ (fun i h1 h2 => ?_) ?_
  · rw [bt_pre i (by omega)]; exact hw i (by omega) h1 h2
  · rw [bt_pre q (by omega)]; exact hl
  · rw [bt_pre i (by omega)]; exact hn i (by omega) h1 h2
  · rw [bt_pre r hr]; exact he
theorem sign_pre {p : Nat} {k : Int} (h : p < pre.size) (hk : signK (bt pre p) = k) (h0 : k ≠ 0) (hw : isWs (bt pre p) = false) : lxOf (body pre a post) p = some ⟨k, p, p + 1, ⟨#[]⟩⟩ := by
  refine lx_sign (by rw [body_size]; omega) ?_ h0 ?_
  · rw [bt_pre p h]; exact hk
  · rw [bt_pre p h]; exact hw
theorem sign_post {j p : Nat} {k : Int} (hp : p = pre.size + (a.size + 2) + j) (h : j < post.size) (hk : signK (bt post j) = k) (h0 : k ≠ 0) (hw : isWs (bt post j) = false) : lxOf (body pre a post) p = some ⟨k, p, p + 1, ⟨#[]⟩⟩ := by
  refine lx_sign (by rw [body_size]; omega) ?_ h0 ?_
  · rw [bt_post j p hp]; exact hk
  · rw [bt_post j p hp]; exact hw
end

theorem one_ws {n p : Nat} {P : Nat → Prop} (h : P p) : ∀ i, i < n → p ≤ i → i < p + 1 → P i := fun i _ h1 h2 => by
  have : i = p := by omega
  rw [this]; exact h
theorem one_nm {n p : Nat} {P : Nat → Prop} (h : P (p + 1)) : ∀ i, i < n → p < i → i < p + 2 → P i := fun i _ h1 h2 => by
  have : i = p + 1 := by omega
  rw [this]; exact h
def pre1 : ByteArray := ⟨#[123]⟩
def pre2 : ByteArray := ⟨#[123, 120, 123]⟩
def pre3 : ByteArray := ⟨#[102, 114, 97, 103, 109, 101, 110, 116, 32, 70, 32, 111, 110, 32, 84, 123]⟩
def pre4 : ByteArray := ⟨#[123, 46, 46, 46, 32, 111, 110, 32, 84, 123]⟩
def post0 : ByteArray := ⟨#[]⟩
def post2 : ByteArray := ⟨#[125]⟩
def post4 : ByteArray := ⟨#[32, 121, 125]⟩
def eofAt (p : Nat) : Tok := ⟨1, p, p, ⟨#[]⟩⟩
def brace (p : Nat) : Tok := ⟨12, p, p + 1, ⟨#[]⟩⟩

theorem set1 (a : ByteArray) (hp : ∀ j : Nat, j < a.size → bt a j < 128 ∧ bt a j ≠ 34 ∧ bt a j ≠ 35 ∧ bt a j ≠ 123 ∧ bt a j ≠ 125) (n : Nat) : (okP (pieceT a) n = true → mSet (lxOf (body pre1 a post0)) (n + 1) (brace 0) = some (eofAt (a.size + 3))) ∧ (okP (pieceT a) n = false → mSet (lxOf (body pre1 a post0)) (n + 1) (brace 0) = none) :=
  set_piece (piece_in a pre1 post0) (piece_of a hp) n 0 ⟨#[]⟩ (eofAt (a.size + 3)) (by
    have := lx_end (B := body pre1 a post0) (p := a.size + 3) (by rw [body_size]; show 1 + (a.size + 2) + 0 ≤ _; omega)
    rw [show pre1.size + (a.size + 2) = a.size + 3 by show 1 + (a.size + 2) = _; omega]
    exact this)
theorem set3 (a : ByteArray) (hp : ∀ j : Nat, j < a.size → bt a j < 128 ∧ bt a j ≠ 34 ∧ bt a j ≠ 35 ∧ bt a j ≠ 123 ∧ bt a j ≠ 125) (n : Nat) : (okP (pieceT a) n = true → mSet (lxOf (body pre3 a post0)) (n + 1) (brace 15) = some (eofAt (a.size + 18))) ∧ (okP (pieceT a) n = false → mSet (lxOf (body pre3 a post0)) (n + 1) (brace 15) = none) :=
  set_piece (piece_in a pre3 post0) (piece_of a hp) n 15 ⟨#[]⟩ (eofAt (a.size + 18)) (by
    have := lx_end (B := body pre3 a post0) (p := a.size + 18) (by rw [body_size]; show 16 + (a.size + 2) + 0 ≤ _; omega)
    rw [show pre3.size + (a.size + 2) = a.size + 18 by show 16 + (a.size + 2) = _; omega]
    exact this)
theorem one_field (lx : Lx) (st : Tok → Option Tok) (k : Nat) (t u : Tok) (h15 : t.kind = 15) (hu : lx t.stop = some u) (hk : u.kind = 12 ∨ u.kind = 14) : mSel lx st (k + 1) t = if u.kind = 12 then st u else some u := by
  unfold mSel mField mName mTok mArgs
  rw [if_neg (by omega), if_pos h15, hu]
  simp only [Option.bind_some]
  rw [if_neg (by omega)]
  simp only [Option.bind_some]
  rw [if_neg (by omega)]
  simp only [Option.bind_some]
  unfold mDirs
  rw [if_neg (by omega)]
  simp only [Option.bind_some]
theorem set2 (a : ByteArray) (hp : ∀ j : Nat, j < a.size → bt a j < 128 ∧ bt a j ≠ 34 ∧ bt a j ≠ 35 ∧ bt a j ≠ 123 ∧ bt a j ≠ 125) (n : Nat) : (okP (pieceT a) (n + 1) = true → mSet (lxOf (body pre2 a post2)) (n + 3) (brace 0) = some (eofAt (a.size + 6))) ∧ (okP (pieceT a) (n + 1) = false → mSet (lxOf (body pre2 a post2)) (n + 3) (brace 0) = none) := by
  have l1 : lxOf (body pre2 a post2) 1 = some ⟨15, 1, 2, pre2.extract 1 2⟩ := name_pre (by decide) (by decide) (by decide) (fun i h1 h2 h3 => by omega) (by decide +kernel) (fun i h1 h2 h3 => by omega) (by decide +kernel)
  have l2 : lxOf (body pre2 a post2) 2 = some (brace 2) := sign_pre (by decide) (by decide +kernel) (by decide) (by decide +kernel)
  have l3 : lxOf (body pre2 a post2) (3 + (a.size + 2)) = some ⟨14, 3 + (a.size + 2), 3 + (a.size + 2) + 1, ⟨#[]⟩⟩ := sign_post (j := 0) (by rfl) (by decide) (by decide +kernel) (by decide) (by decide +kernel)
  have l4 : lxOf (body pre2 a post2) (3 + (a.size + 2) + 1) = some (eofAt (a.size + 6)) := by
    rw [show 3 + (a.size + 2) + 1 = a.size + 6 by omega]
    exact lx_end (by rw [body_size]; show 3 + (a.size + 2) + 1 ≤ _; omega)
  obtain ⟨s1, s2⟩ : (okP (pieceT a) (n + 1) = true → mSet (lxOf (body pre2 a post2)) (n + 2) (brace 2) = some ⟨14, 3 + (a.size + 2), 3 + (a.size + 2) + 1, ⟨#[]⟩⟩) ∧ (okP (pieceT a) (n + 1) = false → mSet (lxOf (body pre2 a post2)) (n + 2) (brace 2) = none) := set_piece (piece_in a pre2 post2) (piece_of a hp) (n + 1) 2 ⟨#[]⟩ _ l3
  have hf := one_field (lxOf (body pre2 a post2)) (mSet (lxOf (body pre2 a post2)) (n + 2)) (n + 1) ⟨15, 1, 2, pre2.extract 1 2⟩ (brace 2) rfl l2 (.inl rfl)
  rw [if_pos (show (brace 2).kind = 12 from rfl)] at hf
  have hm : mSet (lxOf (body pre2 a post2)) (n + 3) (brace 0) = (mMany (lxOf (body pre2 a post2)) (mSel (lxOf (body pre2 a post2)) (mSet (lxOf (body pre2 a post2)) (n + 2)) (n + 2)) 14 (n + 2) ⟨15, 1, 2, pre2.extract 1 2⟩).bind fun x => if x.1 = 0 then none else some x.2 := by
    show mRev _ _ _ _ _ _ _ = _
    unfold mRev mTok
    rw [if_pos (show (brace 0).kind = 12 from rfl), show (brace 0).stop = 1 from rfl, l1]
    simp
  rw [hm]
  show (okP _ _ = true → (mMany _ _ 14 ((n + 1) + 1) _).bind _ = _) ∧ (okP _ _ = false → (mMany _ _ 14 ((n + 1) + 1) _).bind _ = _)
  unfold mMany
  rw [if_neg (by decide), hf]
  constructor
  · intro h
    rw [s1 h]
    simp only [Option.bind_some]
    unfold mMany
    rw [if_pos (by rfl), l4]
    rfl
  · intro h
    rw [s2 h]
    rfl
theorem set4 (a : ByteArray) (hp : ∀ j : Nat, j < a.size → bt a j < 128 ∧ bt a j ≠ 34 ∧ bt a j ≠ 35 ∧ bt a j ≠ 123 ∧ bt a j ≠ 125) (n : Nat) : (okP (pieceT a) (n + 2) = true → mSet (lxOf (body pre4 a post4)) (n + 4) (brace 0) = some (eofAt (a.size + 15))) ∧ (okP (pieceT a) (n + 2) = false → mSet (lxOf (body pre4 a post4)) (n + 4) (brace 0) = none) := by
  have l1 : lxOf (body pre4 a post4) 1 = some ⟨6, 1, 4, ⟨#[]⟩⟩ := by
    unfold lxOf
    rw [scan_eq isWs _ _ 1 1 (Nat.le_refl _) (by omega) (fun i h1 h2 => by omega) (by rw [bt_pre 1 (by decide)]; decide +kernel)]
    unfold mTokAt
    rw [if_neg (by rw [body_size]; show ¬ 10 + (a.size + 2) + 3 ≤ 1; omega), bt_pre 1 (by decide), bt_pre (1 + 1) (by decide), bt_pre (1 + 2) (by decide), if_neg (by decide +kernel), if_pos (by decide +kernel), if_pos (by decide +kernel)]
  have l2 : lxOf (body pre4 a post4) 4 = some ⟨15, 5, 7, pre4.extract 5 7⟩ := name_pre (by decide) (by decide) (by decide) (one_ws (p := 4) (P := fun i => isWs (bt pre4 i) = true) (by decide +kernel)) (by decide +kernel) (one_nm (p := 5) (P := fun i => isNam (bt pre4 i) = true) (by decide +kernel)) (by decide +kernel)
  have l3 : lxOf (body pre4 a post4) 7 = some ⟨15, 8, 9, pre4.extract 8 9⟩ := name_pre (by decide) (by decide) (by decide) (one_ws (p := 7) (P := fun i => isWs (bt pre4 i) = true) (by decide +kernel)) (by decide +kernel) (fun i h1 h2 h3 => by omega) (by decide +kernel)
  have l4 : lxOf (body pre4 a post4) 9 = some (brace 9) := sign_pre (by decide) (by decide +kernel) (by decide) (by decide +kernel)
  have l5 : lxOf (body pre4 a post4) (10 + (a.size + 2)) = some ⟨15, 10 + (a.size + 2) + 1, 10 + (a.size + 2) + 2, (body pre4 a post4).extract (10 + (a.size + 2) + 1) (10 + (a.size + 2) + 2)⟩ := by
    refine lx_name (by omega) (by omega) (by rw [body_size]; show _ ≤ 10 + (a.size + 2) + 3; omega) (fun i h1 h2 => ?_) ?_ (fun i h1 h2 => by omega) ?_
    · obtain rfl : i = 10 + (a.size + 2) := by omega
      rw [bt_post (pre := pre4) (a := a) (post := post4) 0 (10 + (a.size + 2)) rfl]; decide +kernel
    · rw [bt_post (pre := pre4) (a := a) (post := post4) 1 (10 + (a.size + 2) + 1) rfl]; decide +kernel
    · rw [bt_post (pre := pre4) (a := a) (post := post4) 2 (10 + (a.size + 2) + 2) rfl]; decide +kernel
  have l6 : lxOf (body pre4 a post4) (10 + (a.size + 2) + 2) = some ⟨14, 10 + (a.size + 2) + 2, 10 + (a.size + 2) + 2 + 1, ⟨#[]⟩⟩ := sign_post (j := 2) (by rfl) (by decide) (by decide +kernel) (by decide) (by decide +kernel)
  have l7 : lxOf (body pre4 a post4) (10 + (a.size + 2) + 2 + 1) = some (eofAt (a.size + 15)) := by
    rw [show 10 + (a.size + 2) + 2 + 1 = a.size + 15 by omega]
    exact lx_end (by rw [body_size]; show 10 + (a.size + 2) + 3 ≤ _; omega)
  obtain ⟨s1, s2⟩ : (okP (pieceT a) (n + 2) = true → mSet (lxOf (body pre4 a post4)) (n + 3) (brace 9) = some _) ∧ (okP (pieceT a) (n + 2) = false → mSet (lxOf (body pre4 a post4)) (n + 3) (brace 9) = none) := set_piece (piece_in a pre4 post4) (piece_of a hp) (n + 2) 9 ⟨#[]⟩ _ l5
  generalize hB : lxOf (body pre4 a post4) = lx at *
  have hf := one_field lx (mSet lx (n + 3)) (n + 2) ⟨15, 10 + (a.size + 2) + 1, 10 + (a.size + 2) + 2, (body pre4 a post4).extract (10 + (a.size + 2) + 1) (10 + (a.size + 2) + 2)⟩ _ rfl l6 (.inr rfl)
  rw [if_neg (by simp)] at hf
  have hm : mSet lx (n + 4) (brace 0) = (mMany lx (mSel lx (mSet lx (n + 3)) (n + 3)) 14 (n + 3) ⟨6, 1, 4, ⟨#[]⟩⟩).bind fun x => if x.1 = 0 then none else some x.2 := by
    show mRev _ _ _ _ _ _ _ = _
    unfold mRev mTok
    rw [if_pos (show (brace 0).kind = 12 from rfl), show (brace 0).stop = 1 from rfl, l1]
    simp
  have hg : mSel lx (mSet lx (n + 3)) (n + 3) ⟨6, 1, 4, ⟨#[]⟩⟩ = mSet lx (n + 3) (brace 9) := by
    unfold mSel mFrag mTok
    rw [if_pos (by rfl), if_pos (by rfl), l2]
    simp only [Option.bind_some]
    have hv : (pre4.extract 5 7).toList = onT.toList := by decide +kernel
    rw [if_neg (by simp [hv]), if_pos hv, l3]
    simp only [Option.bind_some]
    unfold mName mTok
    rw [if_pos (by rfl), l4]
    simp only [Option.bind_some]
    unfold mDirs
    rw [if_neg (by decide)]
    rfl
  rw [hm]
  show (okP _ _ = true → (mMany _ _ 14 ((n + 2) + 1) _).bind _ = _) ∧ (okP _ _ = false → (mMany _ _ 14 ((n + 2) + 1) _).bind _ = _)
  unfold mMany
  rw [if_neg (by decide), hg]
  constructor
  · intro h
    rw [s1 h]
    simp only [Option.bind_some]
    show ((mMany _ _ 14 ((n + 1) + 1) _).map _).bind _ = _
    unfold mMany
    rw [if_neg (by simp), hf]
    simp only [Option.bind_some]
    show ((((mMany _ _ 14 (n + 1) _).map _).map _).bind _) = _
    unfold mMany
    rw [if_pos (by rfl), l7]
    rfl
  · intro h
    rw [s2 h]
    rfl
end Go.Proofs.YthbinlnpipgobaaGreatDoor.Four
namespace Go.Proofs.YthbinlnpipgobaaGreatDoor.Step
set_option linter.unusedVariables false
set_option linter.unusedSimpArgs false
open Go.Proofs.YthbinlnpipgobaaGreatDoor.Mod Go.Proofs.YthbinlnpipgobaaGreatDoor.Sim Go.Proofs.YthbinlnpipgobaaGreatDoor.Four
open Go.Proofs.YthbinlnpipgobaaGreatDoorW.PrintWords

theorem scan_all (P : Int → Bool) (hP : P 0 = false) (s : ByteArray) (p : Nat) (h : p ≤ s.size) :
    p ≤ scan P s s.size p ∧ scan P s s.size p ≤ s.size ∧ (∀ i, p ≤ i → i < scan P s s.size p → P (bt s i) = true) ∧ P (bt s (scan P s s.size p : Nat)) = false :=
  scan_spec P s s.size p s.size h (by omega) (by rw [bt_out s _ (Nat.le_refl _)]; exact hP)
theorem dig_prog {s : ByteArray} {p q : Nat} (h : mDig s p = some q) : p < q ∧ q ≤ s.size := by
  unfold mDig at h
  by_cases hd : isDig (bt s p) = true
  · rw [if_pos hd] at h
    obtain rfl := Option.some.inj h
    have hp : p < s.size := by
      rcases Nat.lt_or_ge p s.size with h1 | h1
      · exact h1
      · rw [bt_out s p h1] at hd; cases hd
    obtain ⟨a, b, _, y⟩ := scan_all isDig rfl s p (by omega)
    refine ⟨?_, b⟩
    rcases Nat.lt_or_ge p (scan isDig s s.size p) with h1 | h1
    · exact h1
    · have : scan isDig s s.size p = p := by omega
      rw [this, hd] at y; cases y
  · rw [if_neg hd] at h; cases h
theorem int_prog {s : ByteArray} {p q : Nat} (h : mInt s p = some q) : p < q ∧ q ≤ s.size := by
  unfold mInt at h
  by_cases h0 : bt s p = 48
  · rw [if_pos h0] at h
    have hp : p < s.size := by
      rcases Nat.lt_or_ge p s.size with h1 | h1
      · exact h1
      · rw [bt_out s p h1] at h0; cases h0
    split at h
    · cases h
    · obtain rfl := Option.some.inj h; omega
  · rw [if_neg h0] at h; exact dig_prog h
theorem frac_prog {s : ByteArray} {p : Nat} {q : Bool × Nat} (h : mFrac s p = some q) (hp : p ≤ s.size) : p ≤ q.2 ∧ q.2 ≤ s.size := by
  unfold mFrac at h
  split at h
  · cases hx : mDig s (p + 1) with
    | none => rw [hx] at h; cases h
    | some x =>
      rw [hx] at h
      obtain rfl := Option.some.inj h
      have := dig_prog hx
      simp only; omega
  · obtain rfl := Option.some.inj h
    exact ⟨Nat.le_refl _, hp⟩
theorem exp_prog {s : ByteArray} {p : Nat} {q : Bool × Nat} (h : mExp s p = some q) (hp : p ≤ s.size) : p ≤ q.2 ∧ q.2 ≤ s.size := by
  unfold mExp at h
  split at h
  · generalize hk : (if bt s (p + 1 : Nat) = 43 ∨ bt s (p + 1 : Nat) = 45 then p + 2 else p + 1) = k at h
    have hk1 : p < k := by rw [← hk]; split <;> omega
    cases hx : mDig s k with
    | none => rw [hx] at h; cases h
    | some x =>
      rw [hx] at h
      obtain rfl := Option.some.inj h
      have := dig_prog hx
      simp only; omega
  · obtain rfl := Option.some.inj h
    exact ⟨Nat.le_refl _, hp⟩
/-- A token that is not the end goes on. -/
theorem lx_prog {s : ByteArray} {p : Nat} {t : Tok} (hp : p ≤ s.size) (h : lxOf s p = some t) : (t.kind = 1 ∧ t.stop = s.size) ∨ (t.kind ≠ 1 ∧ p < t.stop ∧ t.stop ≤ s.size) := by
  unfold lxOf at h
  obtain ⟨a, b, _, y⟩ := scan_all isWs rfl s p hp
  generalize scan isWs s s.size p = q at *
  unfold mTokAt at h
  split at h
  · obtain rfl := Option.some.inj h
    exact .inl ⟨rfl, by simp only; omega⟩
  · split at h
    · rename_i h1 h2
      obtain rfl := Option.some.inj h
      obtain ⟨_, _, s3⟩ := sign_lt h2
      exact .inr ⟨s3, by simp only; omega⟩
    · split at h
      · split at h
        · rename_i h1 h2 h3 h4
          obtain rfl := Option.some.inj h
          have : q + 2 < s.size := by
            rcases Nat.lt_or_ge (q + 2) s.size with h5 | h5
            · exact h5
            · have := h4.2; rw [bt_out s _ h5] at this; cases this
          exact .inr ⟨by simp, by simp only; omega⟩
        · cases h
      · split at h
        · obtain rfl := Option.some.inj h
          obtain ⟨a2, b2, _, _⟩ := scan_all isNam rfl s (q + 1) (by omega)
          exact .inr ⟨by simp, by simp only; omega⟩
        · split at h
          · unfold mNum at h
            have hp1 : q ≤ (if bt s q = 45 then q + 1 else q) := by split <;> omega
            generalize (if bt s q = 45 then q + 1 else q) = p1 at h hp1
            cases hi : mInt s p1 with
            | none => rw [hi] at h; cases h
            | some x =>
              rw [hi] at h
              simp only [Option.bind_some] at h
              cases hy : mFrac s x with
              | none => rw [hy] at h; cases h
              | some y =>
                rw [hy] at h
                simp only [Option.bind_some] at h
                cases hz : mExp s y.2 with
                | none => rw [hz] at h; cases h
                | some z =>
                  rw [hz] at h
                  obtain rfl := Option.some.inj h
                  have i1 := int_prog hi
                  have i2 := frac_prog hy i1.2
                  have i3 := exp_prog hz i2.2
                  refine .inr ⟨?_, by simp only; omega, by simp only; omega⟩
                  simp only
                  split <;> omega
          · cases h
end Go.Proofs.YthbinlnpipgobaaGreatDoor.Step
namespace Go.Proofs.YthbinlnpipgobaaGreatDoor.Env
set_option linter.unusedVariables false
set_option linter.unusedSimpArgs false
open Go.RowKit Go.Proofs.YthbinlnpipgobaaGreatDoorW.PrintWords Go.Proofs.YthbinlnpipgobaaGreatDoor.Keep Go.Proofs.YthbinlnpipgobaaGreatDoor.Mod

def Blk (w : World) (g : Nat) (t : TypeId) (cs : Array Value) : Prop := w.heap[g]? = some (.cells cs t (0, 0))
section
variable {w w' : World} {g : Nat} {t : TypeId} {cs : Array Value}
theorem Blk.lt (h : Blk w g t cs) : g < w.heap.size := by
  rcases Nat.lt_or_ge g w.heap.size with hlt | hge
  · exact hlt
  · unfold Blk at h; rw [Array.getElem?_eq_none hge] at h; cases h
theorem Blk.cell (h : Blk w g t cs) (i : Nat) : w.cell? ⟨g, i, none⟩ = cs[i]? := cell_of_row w g i cs t (0, 0) h
theorem Blk.frozen (h : Blk w g t cs) (i : Nat) : w.frozen? ⟨g, i, none⟩ = false := by
  unfold Blk at h
  simp [World.frozen?, h]
theorem Blk.new (w : World) (t : TypeId) (cs : Array Value) : Blk (w.alloc (.cells cs t)) w.heap.size t cs := heap_alloc_new w _
theorem Blk.drew (h : Blk w g t cs) : Blk w.drew g t cs := h
theorem Blk.drewN (h : Blk w g t cs) (n : Nat) : Blk (w.drewN n) g t cs := h
theorem Blk.alloc (h : Blk w g t cs) (o : Obj) : Blk (w.alloc o) g t cs := (Below.heap_alloc w o g h.lt).trans h
theorem Blk.set_ (h : Blk w g t cs) (i : Nat) (u : Value) : Blk (w.setCell ⟨g, i, none⟩ u) g t (cs.setIfInBounds i u) := by
  unfold Blk at h ⊢
  simp [World.setCell, Array.getElem?_modify, h]
theorem Blk.far (h : Blk w g t cs) {p : Addr} (hp : g ≠ p.block) (u : Value) : Blk (w.setCell p u) g t cs := (Below.heap_setCell w p u g hp).trans h
theorem Blk.below {B : Nat} (h : Blk w g t cs) (hb : Below B w w') (hg : g < B) : Blk w' g t cs := (hb.block g hg).trans h
theorem Blk.grown {row : Option Nat} (h : Blk w g t cs) (hb : w.grownBy w' row) (hg : some g ≠ row) : Blk w' g t cs := (hb.block g h.lt hg).trans h
theorem Blk.keep {p q : Nat} (h : Blk w g t cs) (hk : Keeps p q w w') (h1 : g ≠ p) (h2 : g ≠ q) : Blk w' g t cs := (hk.block g h.lt h1 h2).trans h
end

/-- The bytes of a text, in a row of their own. -/
def BodyAt (w : World) (bb : Nat) (s : ByteArray) : Prop := ∀ j : Nat, j < s.size → w.cell? ⟨bb, j, none⟩ = some (.int .u8 (bt s j))
theorem BodyAt.below {w w' : World} {bb : Nat} {s : ByteArray} (h : BodyAt w bb s) (hb : Below w.heap.size w w') : BodyAt w' bb s := fun j hj => pw_cell_below hb (h j hj)
theorem BodyAt.keep {w w' : World} {bb p q : Nat} {s : ByteArray} (h : BodyAt w bb s) (hk : Keeps p q w w') (h1 : bb ≠ p) (h2 : bb ≠ q) : BodyAt w' bb s := fun j hj => hk.cell (h j hj) h1 h2
theorem below_one {w w1 : World} {o : Obj} (hb : Below (w.alloc o).heap.size (w.alloc o) w1) : Below w.heap.size w w1 :=
  ((Below.refl w.heap.size w).alloc (Nat.le_refl _) o).trans (hb.mono (by simp))
/-- ASCII without quotation marks and comments. -/
def Plain (s : ByteArray) : Prop := ∀ j : Nat, j < s.size → bt s j < 128 ∧ bt s j ≠ 34 ∧ bt s j ≠ 35
/-- The rune at a place, and its bytes. -/
def runeP (s : ByteArray) (p : Nat) : Int × Int := if s.size ≤ p then (-1, 65533) else (bt s p, 1)

/-- Where the things of a parser lie: the parser, the lexer's place, the box of the source, the source, its bytes; and the text. -/
structure At where
  pb : Nat
  qb : Nat
  xb : Nat
  sb : Nat
  bb : Nat
  cap : Nat
  s : ByteArray
/-- The source stands. -/
structure Src (E : At) (w : World) : Prop where
  x0 : w.cell? ⟨E.xb, 0, none⟩ = some (.pointer (some ⟨E.sb, 0, none⟩))
  s0 : w.cell? ⟨E.sb, 0, none⟩ = some (.slice (some ⟨E.bb, 0, none⟩) E.s.size E.cap)
  body : BodyAt w E.bb E.s
  plain : Plain E.s
  size : E.s.size ≤ 100000
  cap : E.s.size ≤ E.cap
theorem Src.below {E : At} {w w' : World} (h : Src E w) (hb : Below w.heap.size w w') : Src E w' :=
  ⟨pw_cell_below hb h.x0, pw_cell_below hb h.s0, h.body.below hb, h.plain, h.size, h.cap⟩
/-- The parser and the lexer's place come behind the source. -/
structure Far (E : At) : Prop where
  xp : E.xb ≠ E.pb
  xq : E.xb ≠ E.qb
  sp : E.sb ≠ E.pb
  sq : E.sb ≠ E.qb
  bp : E.bb ≠ E.pb
  bq : E.bb ≠ E.qb
  pq : E.pb ≠ E.qb
theorem Src.keep {E : At} {w w' : World} (h : Src E w) (hF : Far E) (hk : Keeps E.pb E.qb w w') : Src E w' :=
  ⟨hk.cell h.x0 hF.xp hF.xq, hk.cell h.s0 hF.sp hF.sq, h.body.keep hk hF.bp hF.bq, h.plain, h.size, h.cap⟩
end Go.Proofs.YthbinlnpipgobaaGreatDoor.Env
