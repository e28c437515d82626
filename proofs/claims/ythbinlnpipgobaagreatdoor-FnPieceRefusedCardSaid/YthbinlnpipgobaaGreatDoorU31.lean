import Derived.Test.YthbinlnpipgobaaGreatDoorU01
namespace Go.Proofs.YthbinlnpipgobaaGreatDoor.Fuel
set_option linter.unusedVariables false
set_option linter.unusedSimpArgs false
open Go.Proofs.YthbinlnpipgobaaGreatDoorW.PrintWords Go.Proofs.YthbinlnpipgobaaGreatDoor.Mod Go.Proofs.YthbinlnpipgobaaGreatDoor.Sim Go.Proofs.YthbinlnpipgobaaGreatDoor.Four Go.Proofs.YthbinlnpipgobaaGreatDoor.Step

/-- How much of a text is left behind a token. -/
def mu (s : ByteArray) (t : Tok) : Nat := if t.kind = 1 then 0 else s.size - t.stop + 1
theorem sign_cases (c : Int) : (signK c = 12 → c = 123) ∧ (signK c = 4 → c = 40) ∧ (signK c = 9 → c = 64) ∧ signK c ≠ 18 ∧ signK c ≠ 19 ∧ signK c ≠ 15 ∧ signK c ≠ 16 ∧ signK c ≠ 17 := by
  by_cases h0 : c = 33
  · subst h0; decide
  by_cases h1 : c = 36
  · subst h1; decide
  by_cases h2 : c = 38
  · subst h2; decide
  by_cases h3 : c = 40
  · subst h3; decide
  by_cases h4 : c = 41
  · subst h4; decide
  by_cases h5 : c = 58
  · subst h5; decide
  by_cases h6 : c = 61
  · subst h6; decide
  by_cases h7 : c = 64
  · subst h7; decide
  by_cases h8 : c = 91
  · subst h8; decide
  by_cases h9 : c = 93
  · subst h9; decide
  by_cases h10 : c = 123
  · subst h10; decide
  by_cases h11 : c = 124
  · subst h11; decide
  by_cases h12 : c = 125
  · subst h12; decide
  have h : signK c = 0 := by simp [signK, h0, h1, h2, h3, h4, h5, h6, h7, h8, h9, h10, h11, h12]
  rw [h]
  exact ⟨by simp, by simp, by simp, by decide, by decide, by decide, by decide, by decide⟩
/-- The kinds of token of a plain text, and the signs' bytes. -/
theorem tok_kind {s : ByteArray} {p : Nat} {t : Tok} (h : lxOf s p = some t) : t.kind ≠ 18 ∧ t.kind ≠ 19 ∧
    (t.kind = 12 → ∃ q, q < s.size ∧ t.stop = q + 1 ∧ bt s q = 123) ∧ (t.kind = 4 → ∃ q, q < s.size ∧ t.stop = q + 1 ∧ bt s q = 40) ∧ (t.kind = 9 → ∃ q, q < s.size ∧ t.stop = q + 1 ∧ bt s q = 64) := by
  unfold lxOf mTokAt at h
  generalize scan isWs s s.size p = q at *
  split at h
  · obtain rfl := Option.some.inj h
    exact ⟨by simp, by simp, by simp, by simp, by simp⟩
  · rename_i hq
    split at h
    · obtain rfl := Option.some.inj h
      obtain ⟨a, b, c, d, e, _⟩ := sign_cases (bt s q)
      exact ⟨d, e, fun h => ⟨q, by omega, rfl, a h⟩, fun h => ⟨q, by omega, rfl, b h⟩, fun h => ⟨q, by omega, rfl, c h⟩⟩
    · split at h
      · split at h
        · obtain rfl := Option.some.inj h
          exact ⟨by simp, by simp, by simp, by simp, by simp⟩
        · cases h
      · split at h
        · obtain rfl := Option.some.inj h
          exact ⟨by simp, by simp, by simp, by simp, by simp⟩
        · split at h
          · unfold mNum at h
            generalize (if bt s q = 45 then q + 1 else q) = p1 at h
            cases hi : mInt s p1 with
            | none => rw [hi] at h; cases h
            | some x =>
              rw [hi] at h
              simp only [Option.bind_some] at h
              cases hy : mFrac s x with
              | none => rw [hy] at h; cases h
              | some y =>
                rw [hy] at h
                simp only [Option.bind_some] at h
                cases hz : mExp s y.2 with
                | none => rw [hz] at h; cases h
                | some z =>
                  rw [hz] at h
                  obtain rfl := Option.some.inj h
                  simp only
                  split <;> exact ⟨by simp, by simp, by simp, by simp, by simp⟩
          · cases h
/-- What a reader leaves behind it: b less, at least. -/
def Prg (s : ByteArray) (b : Nat) (F : Tok → Option Tok) : Prop := ∀ t t', t.stop ≤ s.size → F t = some t' → t'.stop ≤ s.size ∧ mu s t' + b ≤ mu s t
section
variable {s : ByteArray}
theorem prg_lx {t t' : Tok} (hle : t.stop ≤ s.size) (hk : t.kind ≠ 1) (h : lxOf s t.stop = some t') : t'.stop ≤ s.size ∧ mu s t' + 1 ≤ mu s t := by
  unfold mu
  rcases lx_prog hle h with ⟨h1, h2⟩ | ⟨h1, h2, h3⟩
  · rw [if_pos h1, if_neg hk]; omega
  · rw [if_neg h1, if_neg hk]; omega
theorem Prg.le {b c : Nat} {F : Tok → Option Tok} (h : Prg s b F) (hc : c ≤ b) : Prg s c F := fun t t' h1 h2 => ⟨(h t t' h1 h2).1, by have := (h t t' h1 h2).2; omega⟩
theorem Prg.bind {a b c : Nat} {F G : Tok → Option Tok} (hF : Prg s a F) (hG : Prg s b G) (hc : c ≤ a + b) : Prg s c (fun t => (F t).bind G) := fun t t' h1 h2 => by
  cases hf : F t with
  | none => simp only [hf] at h2; cases h2
  | some u =>
    simp only [hf] at h2
    have x := hF t u h1 hf
    have y := hG u t' x.1 h2
    exact ⟨y.1, by omega⟩
theorem Prg.ite {b : Nat} {P : Tok → Prop} [∀ t, Decidable (P t)] {F G : Tok → Option Tok} (hF : Prg s b F) (hG : Prg s b G) : Prg s b (fun t => if P t then F t else G t) := fun t t' h1 h2 => by
  by_cases h : P t
  · simp only [if_pos h] at h2; exact hF t t' h1 h2
  · simp only [if_neg h] at h2; exact hG t t' h1 h2
theorem Prg.some : Prg s 0 Option.some := fun t t' h1 h2 => by obtain rfl := Option.some.inj h2; exact ⟨h1, Nat.le_refl _⟩
theorem prg_tok {k : Int} (hk : k ≠ 1) : Prg s 1 (mTok (lxOf s) k) := fun t t' h1 h2 => by
  unfold mTok at h2
  by_cases h : t.kind = k
  · rw [if_pos h] at h2; exact prg_lx h1 (by rw [h]; exact hk) h2
  · rw [if_neg h] at h2; cases h2
theorem prg_name : Prg s 1 (mName (lxOf s)) := prg_tok (by decide)
theorem prg_var : Prg s 1 (mVar (lxOf s)) := (prg_tok (k := 3) (by decide)).bind prg_name (by decide)
theorem prg_many {f : Tok → Option Tok} (hf : Prg s 1 f) {c : Int} (hc : c ≠ 1) : ∀ (n : Nat) (t : Tok) (x : Nat × Tok), t.stop ≤ s.size → mMany (lxOf s) f c n t = .some x → x.2.stop ≤ s.size ∧ mu s x.2 + 1 ≤ mu s t
  | 0, t, x, _, h => by cases h
  | n + 1, t, x, h1, h => by
    unfold mMany at h
    by_cases hk : t.kind = c
    · rw [if_pos hk] at h
      cases hl : lxOf s t.stop with
      | none => rw [hl] at h; cases h
      | some u =>
        rw [hl] at h
        obtain rfl := Option.some.inj h
        exact prg_lx h1 (by rw [hk]; exact hc) hl
    · rw [if_neg hk] at h
      cases hl : f t with
      | none => rw [hl] at h; cases h
      | some u =>
        rw [hl] at h
        simp only [Option.bind_some] at h
        have hu := hf t u h1 hl
        cases hm : mMany (lxOf s) f c n u with
        | none => rw [hm] at h; cases h
        | some y =>
          rw [hm] at h
          obtain rfl := Option.some.inj h
          have := prg_many hf hc n u y hu.1 hm
          exact ⟨this.1, by have := this.2; have := hu.2; simp only; omega⟩
theorem prg_rev {f : Tok → Option Tok} (hf : Prg s 1 f) {o c : Int} (ho : o ≠ 1) (hc : c ≠ 1) (must : Bool) (n : Nat) : Prg s 1 (mRev (lxOf s) f o c must n) := fun t t' h1 h => by
  unfold mRev at h
  cases ht : mTok (lxOf s) o t with
  | none => rw [ht] at h; cases h
  | some u =>
    rw [ht] at h
    simp only [Option.bind_some] at h
    have hu := prg_tok ho t u h1 ht
    cases hm : mMany (lxOf s) f c n u with
    | none => rw [hm] at h; cases h
    | some y =>
      rw [hm] at h
      simp only [Option.bind_some] at h
      have hy := prg_many hf hc n u y hu.1 hm
      split at h
      · cases h
      · obtain rfl := Option.some.inj h
        exact ⟨hy.1, by have := hy.2; have := hu.2; omega⟩
theorem prg_pair {f : Tok → Option Tok} (hf : Prg s 1 f) : Prg s 3 (mPair (lxOf s) f) := prg_name.bind (b := 2) ((prg_tok (k := 7) (by decide)).bind hf (by decide)) (by decide)
theorem prg_val : ∀ n, Prg s 1 (mVal (lxOf s) n)
  | 0 => fun t t' h1 h => by cases h
  | n + 1 => fun t t' h1 h => by
    unfold mVal at h
    by_cases h10 : t.kind = 10
    · rw [if_pos h10] at h; exact prg_rev (prg_val n) (by decide) (by decide) _ _ t t' h1 h
    · rw [if_neg h10] at h
      by_cases h12 : t.kind = 12
      · rw [if_pos h12] at h; exact prg_rev ((prg_pair (prg_val n)).le (by decide)) (by decide) (by decide) _ _ t t' h1 h
      · rw [if_neg h12] at h
        by_cases h16 : 16 ≤ t.kind ∧ t.kind ≤ 19
        · rw [if_pos h16] at h; exact prg_lx h1 (by omega) h
        · rw [if_neg h16] at h
          by_cases h15 : t.kind = 15
          · rw [if_pos h15] at h
            split at h
            · cases h
            · exact prg_lx h1 (by omega) h
          · rw [if_neg h15] at h
            by_cases h3 : t.kind = 3
            · rw [if_pos h3] at h; exact prg_var t t' h1 h
            · rw [if_neg h3] at h; cases h
theorem prg_arg (n : Nat) : Prg s 1 (mArg (lxOf s) n) := (prg_pair (prg_val n)).le (by decide)
theorem prg_args (n : Nat) : Prg s 0 (mArgs (lxOf s) n) := Prg.ite ((prg_rev (prg_arg n) (by decide) (by decide) true n).le (by decide)) Prg.some
theorem prg_dir (n : Nat) : Prg s 1 (mDir (lxOf s) n) := (prg_tok (k := 9) (by decide)).bind (b := 0) (prg_name.bind (prg_args n) (Nat.zero_le _)) (by decide)
theorem prg_dirs (n : Nat) : ∀ k, Prg s 0 (mDirs (lxOf s) n k)
  | 0 => fun t t' h1 h => by cases h
  | k + 1 => fun t t' h1 h => by
    unfold mDirs at h
    by_cases h9 : t.kind = 9
    · rw [if_pos h9] at h; exact ((prg_dir n).bind (prg_dirs n k) (Nat.zero_le _)) t t' h1 h
    · rw [if_neg h9] at h; exact Prg.some t t' h1 h
theorem prg_colon : Prg s 0 (fun t => if t.kind = 7 then (lxOf s t.stop).bind (mName (lxOf s)) else .some t) := fun t t' h1 h => by
  by_cases h7 : t.kind = 7
  · simp only [if_pos h7] at h
    have := ((prg_tok (k := 7) (by decide)).bind prg_name (c := 0) (by decide)) t t' h1 (by show (mTok (lxOf s) 7 t).bind _ = _; unfold mTok; rw [if_pos h7]; exact h)
    exact this
  · simp only [if_neg h7] at h
    exact Prg.some t t' h1 h
theorem prg_field {st : Tok → Option Tok} (hs : Prg s 0 st) (n : Nat) : Prg s 1 (mField (lxOf s) st n) :=
  prg_name.bind (b := 0) (prg_colon.bind (b := 0) ((prg_args n).bind (b := 0) ((prg_dirs n n).bind (b := 0) (Prg.ite hs Prg.some) (by decide)) (by decide)) (by decide)) (by decide)
theorem prg_frag {st : Tok → Option Tok} (hs : Prg s 0 st) (n : Nat) : Prg s 1 (mFrag (lxOf s) st n) := fun t t' h1 h => by
  unfold mFrag at h
  cases ht : mTok (lxOf s) 6 t with
  | none => rw [ht] at h; cases h
  | some u =>
    rw [ht] at h
    simp only [Option.bind_some] at h
    have hu := prg_tok (by decide) t u h1 ht
    have hl : lxOf s t.stop = Option.some u := by
      unfold mTok at ht
      by_cases hk : t.kind = 6
      · rw [if_pos hk] at ht; exact ht
      · rw [if_neg hk] at ht; cases ht
    have hrest : t'.stop ≤ s.size ∧ mu s t' + 0 ≤ mu s u := by
      by_cases hc : u.kind = 15 ∧ u.value.toList ≠ onT.toList
      · rw [if_pos hc] at h
        exact (prg_name.bind (prg_dirs n n) (c := 0) (by decide)) u t' hu.1 h
      · rw [if_neg hc] at h
        have hds : Prg s 0 (fun t2 => (mDirs (lxOf s) n n t2).bind st) := (prg_dirs n n).bind hs (by decide)
        by_cases ho : u.value.toList = onT.toList
        · rw [if_pos ho] at h
          have hk := on_name hl ho
          have hb : Prg s 0 (fun t2 => (mName (lxOf s) t2).bind fun t2 => (mDirs (lxOf s) n n t2).bind st) := prg_name.bind hds (by decide)
          cases hx : lxOf s u.stop with
          | none => rw [hx] at h; cases h
          | some v =>
            rw [hx] at h
            simp only [Option.bind_some] at h
            have hv := prg_lx hu.1 (by omega) hx
            have := hb v t' hv.1 h
            exact ⟨this.1, by have := this.2; have := hv.2; omega⟩
        · rw [if_neg ho] at h
          exact hds u t' hu.1 h
    exact ⟨hrest.1, by have := hrest.2; have := hu.2; omega⟩
theorem prg_sel {st : Tok → Option Tok} (hs : Prg s 0 st) (n : Nat) : Prg s 1 (mSel (lxOf s) st n) := Prg.ite (prg_frag hs n) (prg_field hs n)
theorem prg_set : ∀ n, Prg s 1 (mSet (lxOf s) n)
  | 0 => fun t t' h1 h => by cases h
  | n + 1 => prg_rev (prg_sel ((prg_set n).le (by decide)) n) (by decide) (by decide) true n

end
end Go.Proofs.YthbinlnpipgobaaGreatDoor.Fuel
namespace Go.Proofs.YthbinlnpipgobaaGreatDoor.Tree
set_option linter.unusedVariables false
set_option linter.unusedSimpArgs false
open Go.Proofs.YthbinlnpipgobaaGreatDoorW.PrintWords Go.Proofs.YthbinlnpipgobaaGreatDoor.Mod Go.Proofs.YthbinlnpipgobaaGreatDoor.Sim Go.Proofs.YthbinlnpipgobaaGreatDoor.Four Go.Proofs.YthbinlnpipgobaaGreatDoor.Step Go.Proofs.YthbinlnpipgobaaGreatDoor.Fuel

/-- A node, as data; a document's nodes stand one behind the other, the kids behind their node. -/
structure Nd where
  kind : Int
  name : ByteArray
  alias : ByteArray
  text : ByteArray
  flag : Int
  size : Nat
abbrev NL := List Nd
def emp : ByteArray := ⟨#[]⟩
def nd (k : Int) (name alias text : ByteArray) (flag : Int) (kids : List NL) : NL := ⟨k, name, alias, text, flag, kids.flatten.length + 1⟩ :: kids.flatten
theorem nd_len (k : Int) (name alias text : ByteArray) (flag : Int) (kids : List NL) : (nd k name alias text flag kids).length = kids.flatten.length + 1 := rfl
def trueT : ByteArray := ⟨#[116, 114, 117, 101]⟩
def falseT : ByteArray := ⟨#[102, 97, 108, 115, 101]⟩
section
variable (lx : Lx)
def nName (t : Tok) : Option (ByteArray × Tok) := (mName lx t).map fun t' => (t.value, t')
def nVar (t : Tok) : Option (NL × Tok) := (mTok lx 3 t).bind fun t1 => (nName lx t1).map fun x => (nd 11 x.1 emp emp 0 [], x.2)
def nMany (f : Tok → Option (NL × Tok)) (close : Int) : Nat → Tok → Option (List NL × Tok)
  | 0, _ => none
  | n + 1, t => if t.kind = close then (lx t.stop).map fun t' => ([], t') else (f t).bind fun x => (nMany f close n x.2).map fun y => (x.1 :: y.1, y.2)
def nRev (f : Tok → Option (NL × Tok)) (opn close : Int) (must : Bool) (n : Nat) (t : Tok) : Option (List NL × Tok) :=
  (mTok lx opn t).bind fun t1 => (nMany lx f close n t1).bind fun x => if must = true ∧ x.1.length = 0 then none else some x
/-- A name, a colon and a value: a node of the kind k. -/
def nPair (k : Int) (f : Tok → Option (NL × Tok)) (t : Tok) : Option (NL × Tok) := (nName lx t).bind fun x => (mTok lx 7 x.2).bind fun t2 => (f t2).map fun y => (nd k x.1 emp emp 0 [y.1], y.2)
/-- A word as a value. -/
def word (v : ByteArray) : NL := if v.toList = trueT.toList then nd 15 emp emp emp 1 [] else if v.toList = falseT.toList then nd 15 emp emp emp 0 [] else nd 16 v emp emp 0 []
def nVal (cst : Bool) : Nat → Tok → Option (NL × Tok)
  | 0, _ => none
  | n + 1, t =>
    if t.kind = 10 then (nRev lx (nVal cst n) 10 11 false n t).map fun x => (nd 17 emp emp emp 0 x.1, x.2)
    else if t.kind = 12 then (nRev lx (nPair lx 19 (nVal cst n)) 12 14 false n t).map fun x => (nd 18 emp emp emp 0 x.1, x.2)
    else if 16 ≤ t.kind ∧ t.kind ≤ 19 then (lx t.stop).map fun t' => (nd (if t.kind = 16 then 12 else if t.kind = 17 then 13 else 14) emp emp t.value 0 [], t')
    else if t.kind = 15 then (if t.value.toList = nullT.toList then none else (lx t.stop).map fun t' => (word t.value, t'))
    else if t.kind = 3 ∧ cst = false then nVar lx t
    else none
def nArg (n : Nat) (t : Tok) : Option (NL × Tok) := nPair lx 9 (nVal lx false n) t
def nArgs (n : Nat) (t : Tok) : Option (List NL × Tok) := if t.kind = 4 then nRev lx (nArg lx n) 4 5 true n t else some ([], t)
def nDir (n : Nat) (t : Tok) : Option (NL × Tok) := (mTok lx 9 t).bind fun t1 => (nName lx t1).bind fun x => (nArgs lx n x.2).map fun y => (nd 10 x.1 emp emp 0 y.1, y.2)
def nDirs (n : Nat) : Nat → Tok → Option (List NL × Tok)
  | 0, _ => none
  | k + 1, t => if t.kind = 9 then (nDir lx n t).bind fun x => (nDirs n k x.2).map fun y => (x.1 :: y.1, y.2) else some ([], t)
/-- What stands behind a field's name: arguments, directives, selections. -/
def nF2 (st : Tok → Option (NL × Tok)) (n : Nat) (nm al : ByteArray) (t2 : Tok) : Option (NL × Tok) :=
  (nArgs lx n t2).bind fun a => (nDirs lx n n a.2).bind fun d => (if d.2.kind = 12 then (st d.2).map fun s => ([s.1], s.2) else some ([], d.2)).map fun s => (nd 6 nm al emp 0 (a.1 ++ d.1 ++ s.1), s.2)
def nField (st : Tok → Option (NL × Tok)) (n : Nat) (t : Tok) : Option (NL × Tok) :=
  (nName lx t).bind fun x => if x.2.kind = 7 then (lx x.2.stop).bind fun t2 => (nName lx t2).bind fun y => nF2 lx st n y.1 x.1 y.2 else nF2 lx st n x.1 emp x.2
/-- What stands behind an inline fragment's type. -/
def nG2 (st : Tok → Option (NL × Tok)) (n : Nat) (tc : ByteArray) (t2 : Tok) : Option (NL × Tok) :=
  (nDirs lx n n t2).bind fun d => (st d.2).map fun s => (nd 8 emp emp tc 0 (d.1 ++ [s.1]), s.2)
def nFrag (st : Tok → Option (NL × Tok)) (n : Nat) (t : Tok) : Option (NL × Tok) :=
  (mTok lx 6 t).bind fun t1 =>
    if t1.kind = 15 ∧ t1.value.toList ≠ onT.toList then (nName lx t1).bind fun x => (nDirs lx n n x.2).map fun d => (nd 7 x.1 emp emp 0 d.1, d.2)
    else if t1.value.toList = onT.toList then (lx t1.stop).bind fun t2 => (nName lx t2).bind fun x => nG2 lx st n x.1 x.2 else nG2 lx st n emp t1
def nSel (st : Tok → Option (NL × Tok)) (n : Nat) (t : Tok) : Option (NL × Tok) := if t.kind = 6 then nFrag lx st n t else nField lx st n t
def nSet : Nat → Tok → Option (NL × Tok)
  | 0, _ => none
  | n + 1, t => (nRev lx (nSel lx (nSet n) n) 12 14 true n t).map fun x => (nd 5 emp emp emp 0 x.1, x.2)
end

/-- What a reader uses up: b at least, and no less than it makes. -/
def Wt {α : Type} (s : ByteArray) (b : Nat) (wt : α → Nat) (f : Tok → Option (α × Tok)) : Prop := ∀ t x, t.stop ≤ s.size → f t = some x → x.2.stop ≤ s.size ∧ mu s x.2 + b ≤ mu s t ∧ wt x.1 + mu s x.2 ≤ mu s t
def fl (x : List NL) : Nat := x.flatten.length
section
variable {s : ByteArray}
theorem wt_name : Wt s 1 (fun _ => 0) (nName (lxOf s)) := fun t x h1 h => by
  obtain ⟨u, hu, rfl⟩ := Option.map_eq_some_iff.1 h
  have := prg_name t u h1 hu
  exact ⟨this.1, this.2, by have := this.2; simp only; omega⟩
theorem wt_var : Wt s 2 List.length (nVar (lxOf s)) := fun t x h1 h => by
  obtain ⟨u, hu, h⟩ := Option.bind_eq_some_iff.1 h
  obtain ⟨y, hy, rfl⟩ := Option.map_eq_some_iff.1 h
  have a := prg_tok (by decide) t u h1 hu
  have b := wt_name u y a.1 hy
  exact ⟨b.1, by have := a.2; have := b.2.1; simp only; omega, by have := a.2; have := b.2.1; simp only [nd_len]; simp; omega⟩
theorem wt_many {f : Tok → Option (NL × Tok)} (hf : Wt s 1 List.length f) {c : Int} (hc : c ≠ 1) : ∀ n, Wt s 1 (fun x => fl x + 1) (nMany (lxOf s) f c n)
  | 0 => fun t x _ h => by cases h
  | n + 1 => fun t x h1 h => by
    unfold nMany at h
    by_cases hk : t.kind = c
    · rw [if_pos hk] at h
      obtain ⟨u, hu, rfl⟩ := Option.map_eq_some_iff.1 h
      have a := prg_lx h1 (by rw [hk]; exact hc) hu
      exact ⟨a.1, a.2, by have := a.2; simp [fl]; omega⟩
    · rw [if_neg hk] at h
      obtain ⟨u, hu, h⟩ := Option.bind_eq_some_iff.1 h
      obtain ⟨y, hy, rfl⟩ := Option.map_eq_some_iff.1 h
      have a := hf t u h1 hu
      have b := wt_many hf hc n u.2 y a.1 hy
      exact ⟨b.1, by have := a.2.1; have := b.2.1; simp only; omega, by have := a.2.2; have := b.2.2; simp only [fl, List.flatten_cons, List.length_append] at *; omega⟩
theorem wt_rev {f : Tok → Option (NL × Tok)} (hf : Wt s 1 List.length f) {o c : Int} (ho : o ≠ 1) (hc : c ≠ 1) (must : Bool) (n : Nat) : Wt s 2 (fun x => fl x + 2) (nRev (lxOf s) f o c must n) := fun t x h1 h => by
  obtain ⟨u, hu, h⟩ := Option.bind_eq_some_iff.1 h
  obtain ⟨y, hy, h⟩ := Option.bind_eq_some_iff.1 h
  have a := prg_tok ho t u h1 hu
  have b := wt_many hf hc n u y a.1 hy
  split at h
  · cases h
  · obtain rfl := Option.some.inj h
    exact ⟨b.1, by have := a.2; have := b.2.1; omega, by have := a.2; have := b.2.2; simp only at *; omega⟩
theorem wt_pair {k : Int} {f : Tok → Option (NL × Tok)} (hf : Wt s 1 List.length f) : Wt s 3 List.length (nPair (lxOf s) k f) := fun t x h1 h => by
  obtain ⟨u, hu, h⟩ := Option.bind_eq_some_iff.1 h
  obtain ⟨v, hv, h⟩ := Option.bind_eq_some_iff.1 h
  obtain ⟨y, hy, rfl⟩ := Option.map_eq_some_iff.1 h
  have a := wt_name t u h1 hu
  have b := prg_tok (by decide) u.2 v a.1 hv
  have c := hf v y b.1 hy
  exact ⟨c.1, by have := a.2.1; have := b.2; have := c.2.1; simp only; omega, by have := a.2.1; have := b.2; have := c.2.2; simp only [nd_len]; simp; omega⟩
theorem wt_le {α : Type} {b c : Nat} {wt wu : α → Nat} {f : Tok → Option (α × Tok)} (h : Wt s b wt f) (hc : c ≤ b) (hw : ∀ x, wu x ≤ wt x) : Wt s c wu f := fun t x h1 h2 => by
  have a := h t x h1 h2
  exact ⟨a.1, by have := a.2.1; omega, by have := a.2.2; have := hw x.1; omega⟩
theorem wt_word (v : ByteArray) : (word v).length = 1 := by
  unfold word
  split
  · rfl
  · split <;> rfl
theorem wt_val (cst : Bool) : ∀ n, Wt s 1 List.length (nVal (lxOf s) cst n)
  | 0 => fun t x _ h => by cases h
  | n + 1 => fun t x h1 h => by
    unfold nVal at h
    by_cases h10 : t.kind = 10
    · rw [if_pos h10] at h
      obtain ⟨y, hy, rfl⟩ := Option.map_eq_some_iff.1 h
      have a := wt_rev (wt_val cst n) (by decide) (by decide) _ _ t y h1 hy
      exact ⟨a.1, by have := a.2.1; simp only; omega, by have := a.2.2; simp only [nd_len, fl] at *; omega⟩
    · rw [if_neg h10] at h
      by_cases h12 : t.kind = 12
      · rw [if_pos h12] at h
        obtain ⟨y, hy, rfl⟩ := Option.map_eq_some_iff.1 h
        have a := wt_rev (wt_le (wt_pair (k := 19) (wt_val cst n)) (by decide) (fun _ => Nat.le_refl _)) (by decide) (by decide) _ _ t y h1 hy
        exact ⟨a.1, by have := a.2.1; simp only; omega, by have := a.2.2; simp only [nd_len, fl] at *; omega⟩
      · rw [if_neg h12] at h
        by_cases h16 : 16 ≤ t.kind ∧ t.kind ≤ 19
        · rw [if_pos h16] at h
          obtain ⟨y, hy, rfl⟩ := Option.map_eq_some_iff.1 h
          have a := prg_lx h1 (by omega) hy
          exact ⟨a.1, a.2, by have := a.2; simp only [nd_len]; simp; omega⟩
        · rw [if_neg h16] at h
          by_cases h15 : t.kind = 15
          · rw [if_pos h15] at h
            split at h
            · cases h
            · obtain ⟨y, hy, rfl⟩ := Option.map_eq_some_iff.1 h
              have a := prg_lx h1 (by omega) hy
              exact ⟨a.1, a.2, by have := a.2; simp only [wt_word]; omega⟩
          · rw [if_neg h15] at h
            split at h
            · exact wt_le wt_var (by decide) (fun _ => Nat.le_refl _) t x h1 h
            · cases h
theorem wt_arg (n : Nat) : Wt s 3 List.length (nArg (lxOf s) n) := wt_pair (wt_val false n)
theorem wt_args (n : Nat) : Wt s 0 fl (nArgs (lxOf s) n) := fun t x h1 h => by
  unfold nArgs at h
  split at h
  · exact wt_le (wt_rev (wt_le (wt_arg n) (by decide) (fun _ => Nat.le_refl _)) (by decide) (by decide) true n) (by decide) (fun _ => by omega) t x h1 h
  · obtain rfl := Option.some.inj h
    exact ⟨h1, Nat.le_refl _, by simp [fl]⟩
theorem wt_dir (n : Nat) : Wt s 2 List.length (nDir (lxOf s) n) := fun t x h1 h => by
  obtain ⟨u, hu, h⟩ := Option.bind_eq_some_iff.1 h
  obtain ⟨v, hv, h⟩ := Option.bind_eq_some_iff.1 h
  obtain ⟨y, hy, rfl⟩ := Option.map_eq_some_iff.1 h
  have a := prg_tok (by decide) t u h1 hu
  have b := wt_name u v a.1 hv
  have c := wt_args n v.2 y b.1 hy
  exact ⟨c.1, by have := a.2; have := b.2.1; have := c.2.1; simp only; omega, by have := a.2; have := b.2.1; have := c.2.2; simp only [nd_len, fl] at *; omega⟩
theorem wt_dirs (n : Nat) : ∀ k, Wt s 0 fl (nDirs (lxOf s) n k)
  | 0 => fun t x _ h => by cases h
  | k + 1 => fun t x h1 h => by
    unfold nDirs at h
    split at h
    · obtain ⟨u, hu, h⟩ := Option.bind_eq_some_iff.1 h
      obtain ⟨y, hy, rfl⟩ := Option.map_eq_some_iff.1 h
      have a := wt_dir n t u h1 hu
      have b := wt_dirs n k u.2 y a.1 hy
      exact ⟨b.1, by have := a.2.1; have := b.2.1; simp only; omega, by have := a.2.2; have := b.2.2; simp only [fl, List.flatten_cons, List.length_append] at *; omega⟩
    · obtain rfl := Option.some.inj h
      exact ⟨h1, Nat.le_refl _, by simp [fl]⟩
theorem fl_app (a b : List NL) : fl (a ++ b) = fl a + fl b := by simp [fl]
theorem fl_one (a : NL) : fl [a] = a.length := by simp [fl]
theorem fl_nil : fl [] = 0 := rfl
theorem nd_fl (k : Int) (name alias text : ByteArray) (flag : Int) (kids : List NL) : (nd k name alias text flag kids).length = fl kids + 1 := rfl
theorem wt_f2 {st : Tok → Option (NL × Tok)} (hs : Wt s 0 List.length st) (n : Nat) (nm al : ByteArray) : ∀ t x, t.stop ≤ s.size → nF2 (lxOf s) st n nm al t = some x → x.2.stop ≤ s.size ∧ mu s x.2 ≤ mu s t ∧ x.1.length + mu s x.2 ≤ mu s t + 1 := fun t x h1 h => by
  obtain ⟨u, hu, h⟩ := Option.bind_eq_some_iff.1 h
  obtain ⟨v, hv, h⟩ := Option.bind_eq_some_iff.1 h
  obtain ⟨y, hy, rfl⟩ := Option.map_eq_some_iff.1 h
  have a := wt_args n t u h1 hu
  have b := wt_dirs n n u.2 v a.1 hv
  have c : y.2.stop ≤ s.size ∧ mu s y.2 ≤ mu s v.2 ∧ fl y.1 + mu s y.2 ≤ mu s v.2 := by
    split at hy
    · obtain ⟨z, hz, rfl⟩ := Option.map_eq_some_iff.1 hy
      have d := hs v.2 z b.1 hz
      exact ⟨d.1, by have := d.2.1; simp only; omega, by have := d.2.2; simp only [fl_one]; omega⟩
    · obtain rfl := Option.some.inj hy
      exact ⟨b.1, Nat.le_refl _, by simp [fl]⟩
  exact ⟨c.1, by have := a.2.1; have := b.2.1; have := c.2.1; simp only; omega, by have := a.2.2; have := b.2.2; have := c.2.2; simp only [nd_fl, fl_app] at *; omega⟩
theorem wt_field {st : Tok → Option (NL × Tok)} (hs : Wt s 0 List.length st) (n : Nat) : Wt s 1 List.length (nField (lxOf s) st n) := fun t x h1 h => by
  obtain ⟨u, hu, h⟩ := Option.bind_eq_some_iff.1 h
  have a := wt_name t u h1 hu
  split at h
  · rename_i h7
    obtain ⟨v, hv, h⟩ := Option.bind_eq_some_iff.1 h
    obtain ⟨y, hy, h⟩ := Option.bind_eq_some_iff.1 h
    have b := prg_lx a.1 (by omega) hv
    have c := wt_name v y b.1 hy
    have d := wt_f2 hs n _ _ y.2 x c.1 h
    exact ⟨d.1, by have := a.2.1; have := b.2; have := c.2.1; have := d.2.1; omega, by have := a.2.1; have := b.2; have := c.2.1; have := d.2.2; omega⟩
  · have d := wt_f2 hs n _ _ u.2 x a.1 h
    exact ⟨d.1, by have := a.2.1; have := d.2.1; omega, by have := a.2.1; have := d.2.2; omega⟩
theorem wt_g2 {st : Tok → Option (NL × Tok)} (hs : Wt s 0 List.length st) (n : Nat) (tc : ByteArray) : ∀ t x, t.stop ≤ s.size → nG2 (lxOf s) st n tc t = some x → x.2.stop ≤ s.size ∧ mu s x.2 ≤ mu s t ∧ x.1.length + mu s x.2 ≤ mu s t + 1 := fun t x h1 h => by
  obtain ⟨v, hv, h⟩ := Option.bind_eq_some_iff.1 h
  obtain ⟨y, hy, rfl⟩ := Option.map_eq_some_iff.1 h
  have b := wt_dirs n n t v h1 hv
  have d := hs v.2 y b.1 hy
  exact ⟨d.1, by have := b.2.1; have := d.2.1; simp only; omega, by have := b.2.2; have := d.2.2; simp only [nd_fl, fl_app, fl_one] at *; omega⟩
theorem wt_frag {st : Tok → Option (NL × Tok)} (hs : Wt s 0 List.length st) (n : Nat) : Wt s 1 List.length (nFrag (lxOf s) st n) := fun t x h1 h => by
  obtain ⟨u, hu, h⟩ := Option.bind_eq_some_iff.1 h
  have a := prg_tok (by decide) t u h1 hu
  split at h
  · obtain ⟨v, hv, h⟩ := Option.bind_eq_some_iff.1 h
    obtain ⟨y, hy, rfl⟩ := Option.map_eq_some_iff.1 h
    have b := wt_name u v a.1 hv
    have c := wt_dirs n n v.2 y b.1 hy
    exact ⟨c.1, by have := a.2; have := b.2.1; have := c.2.1; simp only; omega, by have := a.2; have := b.2.1; have := c.2.2; simp only [nd_fl] at *; omega⟩
  · split at h
    · rename_i hon
      obtain ⟨v, hv, h⟩ := Option.bind_eq_some_iff.1 h
      obtain ⟨y, hy, h⟩ := Option.bind_eq_some_iff.1 h
      have hk : u.kind = 15 := by
        unfold mTok at hu
        split at hu
        · exact on_name hu hon
        · cases hu
      have b := prg_lx a.1 (by omega) hv
      have c := wt_name v y b.1 hy
      have d := wt_g2 hs n _ y.2 x c.1 h
      exact ⟨d.1, by have := a.2; have := b.2; have := c.2.1; have := d.2.1; omega, by have := a.2; have := b.2; have := c.2.1; have := d.2.2; omega⟩
    · have d := wt_g2 hs n _ u x a.1 h
      exact ⟨d.1, by have := a.2; have := d.2.1; omega, by have := a.2; have := d.2.2; omega⟩
theorem wt_sel {st : Tok → Option (NL × Tok)} (hs : Wt s 0 List.length st) (n : Nat) : Wt s 1 List.length (nSel (lxOf s) st n) := fun t x h1 h => by
  unfold nSel at h
  split at h
  · exact wt_frag hs n t x h1 h
  · exact wt_field hs n t x h1 h
theorem wt_set : ∀ n, Wt s 1 List.length (nSet (lxOf s) n)
  | 0 => fun t x _ h => by cases h
  | n + 1 => fun t x h1 h => by
    obtain ⟨y, hy, rfl⟩ := Option.map_eq_some_iff.1 h
    have a := wt_rev (wt_sel (wt_le (wt_set n) (by decide) (fun _ => Nat.le_refl _)) n) (by decide) (by decide) _ _ t y h1 hy
    exact ⟨a.1, by have := a.2.1; simp only; omega, by have := a.2.2; simp only [nd_fl] at *; omega⟩
end

/-- The readers of tokens are those of nodes, without the nodes. -/
abbrev P2 {α : Type} (o : Option (α × Tok)) : Option Tok := o.map Prod.snd
section
variable {lx : Lx}
theorem p_bind {α β : Type} {o : Option (α × Tok)} {p : Option Tok} (h : P2 o = p) {f : α × Tok → Option (β × Tok)} {F : Tok → Option Tok} (hf : ∀ x, P2 (f x) = F x.2) : P2 (o.bind f) = p.bind F := by
  cases o with
  | none => rw [← h]; rfl
  | some x => rw [← h]; exact hf x
theorem p_map {α β : Type} {o : Option (α × Tok)} {p : Option Tok} (h : P2 o = p) {f : α → β} : P2 (o.map fun x => (f x.1, x.2)) = p := by
  cases o with
  | none => exact h
  | some x => exact h
theorem p_of {β : Type} {p : Option Tok} {f : Tok → β} : P2 (p.map fun t => (f t, t)) = p := by cases p <;> rfl
theorem p_tok {β : Type} {p : Option Tok} {f : Tok → Option (β × Tok)} {F : Tok → Option Tok} (hf : ∀ x, P2 (f x) = F x) : P2 (p.bind f) = p.bind F := by
  cases p with
  | none => rfl
  | some x => exact hf x
theorem p_ite {α : Type} {c : Prop} [Decidable c] {a b : Option (α × Tok)} {p q : Option Tok} (h1 : P2 a = p) (h2 : P2 b = q) : P2 (if c then a else b) = if c then p else q := by
  by_cases h : c
  · rw [if_pos h, if_pos h]; exact h1
  · rw [if_neg h, if_neg h]; exact h2
theorem p_name (t : Tok) : P2 (nName lx t) = mName lx t := p_of (f := fun _ => t.value)
theorem p_var (t : Tok) : P2 (nVar lx t) = mVar lx t := p_tok fun x => p_map (p_name x) (f := fun n => nd 11 n emp emp 0 [])
theorem p_many {f : Tok → Option (NL × Tok)} {F : Tok → Option Tok} (h : ∀ t, P2 (f t) = F t) (c : Int) : ∀ n t, (nMany lx f c n t).map (fun x => (x.1.length, x.2)) = mMany lx F c n t
  | 0, t => rfl
  | n + 1, t => by
    unfold nMany mMany
    by_cases hk : t.kind = c
    · rw [if_pos hk, if_pos hk]
      cases lx t.stop <;> rfl
    · rw [if_neg hk, if_neg hk, ← h t]
      cases f t with
      | none => rfl
      | some x =>
        simp only [P2, Option.map_some, Option.bind_some]
        rw [← p_many h c n x.2]
        cases nMany lx f c n x.2 <;> rfl
theorem p_rev {f : Tok → Option (NL × Tok)} {F : Tok → Option Tok} (h : ∀ t, P2 (f t) = F t) (o c : Int) (must : Bool) (n : Nat) (t : Tok) : P2 (nRev lx f o c must n t) = mRev lx F o c must n t := p_tok fun t1 => by
  rw [← p_many h c n t1]
  cases nMany lx f c n t1 with
  | none => rfl
  | some x =>
    simp only [Option.map_some, Option.bind_some]
    by_cases hm : must = true ∧ x.1.length = 0
    · rw [if_pos hm, if_pos hm]; rfl
    · rw [if_neg hm, if_neg hm]; rfl
theorem p_pair (k : Int) {f : Tok → Option (NL × Tok)} {F : Tok → Option Tok} (h : ∀ t, P2 (f t) = F t) (t : Tok) : P2 (nPair lx k f t) = mPair lx F t :=
  p_bind (p_name t) fun x => p_tok fun t2 => p_map (h t2) (f := fun y => nd k x.1 emp emp 0 [y])
theorem p_val : ∀ n t, P2 (nVal lx false n t) = mVal lx n t
  | 0, t => rfl
  | n + 1, t => by
    unfold nVal mVal
    refine p_ite (p_map (p_rev (p_val n) 10 11 false n t) (f := fun x => nd 17 emp emp emp 0 x)) (p_ite (p_map (p_rev (p_pair 19 (p_val n)) 12 14 false n t) (f := fun x => nd 18 emp emp emp 0 x)) (p_ite (p_of (f := fun _ => nd _ emp emp t.value 0 [])) (p_ite (p_ite rfl (p_of (f := fun _ => word t.value))) ?_)))
    by_cases h3 : t.kind = 3
    · rw [if_pos ⟨h3, rfl⟩, if_pos h3]; exact p_var t
    · rw [if_neg (fun h => h3 h.1), if_neg h3]; rfl
theorem p_arg (n : Nat) (t : Tok) : P2 (nArg lx n t) = mArg lx n t := p_pair 9 (p_val n) t
theorem p_args (n : Nat) (t : Tok) : P2 (nArgs lx n t) = mArgs lx n t := p_ite (p_rev (p_arg n) 4 5 true n t) rfl
theorem p_dir (n : Nat) (t : Tok) : P2 (nDir lx n t) = mDir lx n t := p_tok fun t1 => p_bind (p_name t1) fun x => p_map (p_args n x.2) (f := fun y => nd 10 x.1 emp emp 0 y)
theorem p_dirs (n : Nat) : ∀ k t, P2 (nDirs lx n k t) = mDirs lx n k t
  | 0, t => rfl
  | k + 1, t => p_ite (p_bind (p_dir n t) fun x => p_map (p_dirs n k x.2) (f := fun y => x.1 :: y)) rfl
theorem p_f2 {st : Tok → Option (NL × Tok)} {ST : Tok → Option Tok} (h : ∀ t, P2 (st t) = ST t) (n : Nat) (nm al : ByteArray) (t : Tok) : P2 (nF2 lx st n nm al t) = (mArgs lx n t).bind fun t3 => (mDirs lx n n t3).bind fun t4 => if t4.kind = 12 then ST t4 else some t4 :=
  p_bind (p_args n t) fun a => p_bind (p_dirs n n a.2) fun d => p_map (p_ite (p_map (h d.2) (f := fun s => [s])) rfl) (f := fun s => nd 6 nm al emp 0 (a.1 ++ d.1 ++ s))
theorem p_field {st : Tok → Option (NL × Tok)} {ST : Tok → Option Tok} (h : ∀ t, P2 (st t) = ST t) (n : Nat) (t : Tok) : P2 (nField lx st n t) = mField lx ST n t :=
  p_bind (p_name t) fun x => by
    by_cases h7 : x.2.kind = 7
    · rw [if_pos h7, if_pos h7, Option.bind_assoc]
      exact p_tok fun t2 => p_bind (p_name t2) fun y => p_f2 h n _ _ y.2
    · rw [if_neg h7, if_neg h7]
      exact p_f2 h n _ _ x.2
theorem p_g2 {st : Tok → Option (NL × Tok)} {ST : Tok → Option Tok} (h : ∀ t, P2 (st t) = ST t) (n : Nat) (tc : ByteArray) (t : Tok) : P2 (nG2 lx st n tc t) = (mDirs lx n n t).bind ST :=
  p_bind (p_dirs n n t) fun d => p_map (h d.2) (f := fun s => nd 8 emp emp tc 0 (d.1 ++ [s]))
theorem p_frag {st : Tok → Option (NL × Tok)} {ST : Tok → Option Tok} (h : ∀ t, P2 (st t) = ST t) (n : Nat) (t : Tok) : P2 (nFrag lx st n t) = mFrag lx ST n t :=
  p_tok fun t1 => p_ite (p_bind (p_name t1) fun x => p_map (p_dirs n n x.2) (f := fun d => nd 7 x.1 emp emp 0 d)) (by
    by_cases ho : t1.value.toList = onT.toList
    · rw [if_pos ho, if_pos ho, Option.bind_assoc]
      exact p_tok fun t2 => p_bind (p_name t2) fun x => p_g2 h n _ x.2
    · rw [if_neg ho, if_neg ho]
      exact p_g2 h n _ t1)
theorem p_sel {st : Tok → Option (NL × Tok)} {ST : Tok → Option Tok} (h : ∀ t, P2 (st t) = ST t) (n : Nat) (t : Tok) : P2 (nSel lx st n t) = mSel lx ST n t := p_ite (p_frag h n t) (p_field h n t)
theorem p_set : ∀ n t, P2 (nSet lx n t) = mSet lx n t
  | 0, t => rfl
  | n + 1, t => p_map (p_rev (p_sel (p_set n) n) 12 14 true n t) (f := fun x => nd 5 emp emp emp 0 x)
end
end Go.Proofs.YthbinlnpipgobaaGreatDoor.Tree
namespace Go.Proofs.YthbinlnpipgobaaGreatDoor.Ast
set_option linter.unusedVariables false
set_option linter.unusedSimpArgs false
open Go.RowKit Go.Proofs.YthbinlnpipgobaaGreatDoorW.PrintWords Go.Proofs.YthbinlnpipgobaaGreatDoor.Keep Go.Proofs.YthbinlnpipgobaaGreatDoor.Env Go.Proofs.YthbinlnpipgobaaGreatDoor.Tree

/-- A cell of a block from L on that is no row of interface values. -/
def Cl (L : Nat) (w : World) (g i : Nat) (x : Value) : Prop := L ≤ g ∧ w.cell? ⟨g, i, none⟩ = some x ∧ ∃ cs T fr, w.heap[g]? = some (.cells cs T fr) ∧ T ≠ 20
/-- Such blocks are still there. -/
def Up (L : Nat) (w w' : World) : Prop := ∀ b cs T fr, L ≤ b → T ≠ 20 → w.heap[b]? = some (.cells cs T fr) → w'.heap[b]? = some (.cells cs T fr)
theorem Cl.up {L : Nat} {w w' : World} {g i : Nat} {x : Value} (h : Cl L w g i x) (hu : Up L w w') : Cl L w' g i x := by
  obtain ⟨h1, h2, cs, T, fr, h3, h4⟩ := h
  have h5 := hu g cs T fr h1 h4 h3
  refine ⟨h1, ?_, cs, T, fr, h5, h4⟩
  rw [← h2]
  exact World.cell?_of_block (w := w) (h5.trans h3.symm)
theorem Cl.of_blk {L : Nat} {w : World} {g i : Nat} {T : TypeId} {cs : Array Value} {x : Value} (h : Blk w g T cs) (hL : L ≤ g) (hi : cs[i]? = some x) (hT : T ≠ 20) : Cl L w g i x :=
  ⟨hL, (h.cell i).trans hi, cs, T, (0, 0), h, hT⟩
theorem Up.of_keeps {L p q : Nat} {w w' : World} (h : Keeps p q w w') (hp : p < L) (hq : q < L) : Up L w w' := fun b cs T fr hb _ hx => by
  have hlt : b < w.heap.size := by
    rcases Nat.lt_or_ge b w.heap.size with h1 | h1
    · exact h1
    · rw [Array.getElem?_eq_none h1] at hx; cases hx
  rw [h.block b hlt (by omega) (by omega)]; exact hx
theorem Up.of_below {L : Nat} {w w' : World} (h : Below w.heap.size w w') : Up L w w' := fun b cs T fr hb _ hx => by
  have hlt : b < w.heap.size := by
    rcases Nat.lt_or_ge b w.heap.size with h1 | h1
    · exact h1
    · rw [Array.getElem?_eq_none h1] at hx; cases hx
  rw [h.block b hlt]; exact hx
/-- Behind an append to a row of interface values. -/
theorem Up.of_grown {L : Nat} {w w' : World} {r : Option Nat} (h : w.grownBy w' r) (hr : ∀ g, r = some g → ∃ cs fr, w.heap[g]? = some (.cells cs 20 fr)) : Up L w w' := fun b cs T fr hb hT hx => by
  have hlt : b < w.heap.size := by
    rcases Nat.lt_or_ge b w.heap.size with h1 | h1
    · exact h1
    · rw [Array.getElem?_eq_none h1] at hx; cases hx
  rw [h.block b hlt (fun e => by
    obtain ⟨cs', fr', h2⟩ := hr b e.symm
    rw [hx] at h2
    injection h2 with h2
    injection h2 with _ h3
    exact hT h3)]
  exact hx
theorem Up.trans {L : Nat} {a b c : World} (h : Up L a b) (k : Up L b c) : Up L a c := fun b cs T fr hb hT hx => k b cs T fr hb hT (h b cs T fr hb hT hx)
/-- The same, of a block that is no row of directives either. -/
def Cl2 (L : Nat) (w : World) (g i : Nat) (x : Value) : Prop := L ≤ g ∧ w.cell? ⟨g, i, none⟩ = some x ∧ ∃ cs T fr, w.heap[g]? = some (.cells cs T fr) ∧ T ≠ 20 ∧ T ≠ 134
def Up2 (L : Nat) (w w' : World) : Prop := ∀ b cs T fr, L ≤ b → T ≠ 20 → T ≠ 134 → w.heap[b]? = some (.cells cs T fr) → w'.heap[b]? = some (.cells cs T fr)
theorem Up.two {L : Nat} {w w' : World} (h : Up L w w') : Up2 L w w' := fun b cs T fr hb h1 _ hx => h b cs T fr hb h1 hx
theorem Cl2.up {L : Nat} {w w' : World} {g i : Nat} {x : Value} (h : Cl2 L w g i x) (hu : Up2 L w w') : Cl2 L w' g i x := by
  obtain ⟨h1, h2, cs, T, fr, h3, h4, h6⟩ := h
  have h5 := hu g cs T fr h1 h4 h6 h3
  refine ⟨h1, ?_, cs, T, fr, h5, h4, h6⟩
  rw [← h2]
  exact World.cell?_of_block (w := w) (h5.trans h3.symm)
theorem Cl2.of_blk {L : Nat} {w : World} {g i : Nat} {T : TypeId} {cs : Array Value} {x : Value} (h : Blk w g T cs) (hL : L ≤ g) (hi : cs[i]? = some x) (hT : T ≠ 20 ∧ T ≠ 134) : Cl2 L w g i x :=
  ⟨hL, (h.cell i).trans hi, cs, T, (0, 0), h, hT.1, hT.2⟩
theorem Up2.trans {L : Nat} {a b c : World} (h : Up2 L a b) (k : Up2 L b c) : Up2 L a c := fun b cs T fr hb hT h2 hx => k b cs T fr hb hT h2 (h b cs T fr hb hT h2 hx)
/-- Behind an append to a row of directives. -/
theorem Up2.of_grown {L : Nat} {w w' : World} {r : Option Nat} (h : w.grownBy w' r) (hr : ∀ g, r = some g → ∃ cs fr, w.heap[g]? = some (.cells cs 134 fr)) : Up2 L w w' := fun b cs T fr hb _ hT hx => by
  have hlt : b < w.heap.size := by
    rcases Nat.lt_or_ge b w.heap.size with h1 | h1
    · exact h1
    · rw [Array.getElem?_eq_none h1] at hx; cases hx
  rw [h.block b hlt (fun e => by
    obtain ⟨cs', fr', h2⟩ := hr b e.symm
    rw [hx] at h2
    injection h2 with h2
    injection h2 with _ h3
    exact hT h3)]
  exact hx
def ptr (g : Nat) : Value := .pointer (some ⟨g, 0, none⟩)
/-- A location; a name; a row of something. (What stands there is told: a text, a row of nodes.) -/
def GLoc (L : Nat) (w : World) (v : Value) : Prop := ∃ g, ∃ a b : Int, v = ptr g ∧ Cl2 L w g 0 (.int .i64 a) ∧ Cl2 L w g 1 (.int .i64 b)
def GName (L : Nat) (s : ByteArray) (w : World) (v : Value) : Prop := ∃ g, v = ptr g ∧ Cl2 L w g 2 (.string s)
def GRow (L : Nat) (P : NL → World → Value → Prop) (xs : List NL) (w : World) (v : Value) : Prop := ∃ A c, v = .slice A xs.length c ∧ (xs = [] ∨ ∃ b o, A = some ⟨b, o, none⟩ ∧ ∀ i y, xs[i]? = some y → ∃ x, Cl2 L w b (o + i) x ∧ P y w x)
/-- A value: a variable, a number, a text, a word, a boolean, a list of values, fields of an object. -/
def GVal (L : Nat) : Nat → NL → World → Value → Prop
  | 0, _, _, _ => False
  | n + 1, x, w, v => ∃ g lv, Cl2 L w g 1 lv ∧ GLoc L w lv ∧
      ((v = .iface 123 (ptr g) ∧ ∃ nv s, Cl2 L w g 2 nv ∧ GName L s w nv ∧ x = nd 11 s emp emp 0 []) ∨
       (v = .iface 211 (ptr g) ∧ ∃ s, Cl2 L w g 2 (.string s) ∧ x = nd 12 emp emp s 0 []) ∨
       (v = .iface 213 (ptr g) ∧ ∃ s, Cl2 L w g 2 (.string s) ∧ x = nd 13 emp emp s 0 []) ∨
       (v = .iface 154 (ptr g) ∧ ∃ s, Cl2 L w g 2 (.string s) ∧ x = nd 14 emp emp s 0 []) ∨
       (v = .iface 216 (ptr g) ∧ ∃ b : Bool, Cl2 L w g 2 (.bool b) ∧ x = nd 15 emp emp emp (if b then 1 else 0) []) ∨
       (v = .iface 219 (ptr g) ∧ ∃ s, Cl2 L w g 2 (.string s) ∧ x = nd 16 s emp emp 0 []) ∨
       (v = .iface 221 (ptr g) ∧ ∃ sv xs, Cl2 L w g 2 sv ∧ GRow L (GVal L n) xs w sv ∧ x = nd 17 emp emp emp 0 xs) ∨
       (v = .iface 225 (ptr g) ∧ ∃ sv xs, Cl2 L w g 2 sv ∧ GRow L (fun y w' u => ∃ f lf nv s z u', u = ptr f ∧ Cl2 L w' f 2 lf ∧ GLoc L w' lf ∧ Cl2 L w' f 1 nv ∧ GName L s w' nv ∧ Cl2 L w' f 3 u' ∧ GVal L n z w' u' ∧ y = nd 19 s emp emp 0 [z]) xs w sv ∧ x = nd 18 emp emp emp 0 xs))
/-- A field of an object. -/
def GFld (L n : Nat) (y : NL) (w : World) (u : Value) : Prop := ∃ f lf nv s z u', u = ptr f ∧ Cl2 L w f 2 lf ∧ GLoc L w lf ∧ Cl2 L w f 1 nv ∧ GName L s w nv ∧ Cl2 L w f 3 u' ∧ GVal L n z w u' ∧ y = nd 19 s emp emp 0 [z]
def GArg (L n : Nat) (y : NL) (w : World) (v : Value) : Prop := ∃ g lv nv s z x, v = ptr g ∧ Cl2 L w g 1 lv ∧ GLoc L w lv ∧ Cl2 L w g 2 nv ∧ GName L s w nv ∧ Cl2 L w g 3 x ∧ GVal L n z w x ∧ y = nd 9 s emp emp 0 [z]
def GDir (L n : Nat) (y : NL) (w : World) (v : Value) : Prop := ∃ g lv nv s xs x, v = ptr g ∧ Cl2 L w g 1 lv ∧ GLoc L w lv ∧ Cl2 L w g 2 nv ∧ GName L s w nv ∧ Cl2 L w g 3 x ∧ GRow L (GArg L n) xs w x ∧ y = nd 10 s emp emp 0 xs
def GNamed (L : Nat) (s : ByteArray) (w : World) (v : Value) : Prop := ∃ g nv, v = ptr g ∧ Cl2 L w g 2 nv ∧ GName L s w nv
/-- A name that may be missing. -/
def GOptT (P : ByteArray → World → Value → Prop) (s : ByteArray) (w : World) (v : Value) : Prop := (v = .pointer none ∧ s = emp) ∨ P s w v
/-- Selections that may be missing. -/
def GOptS (S : NL → World → Value → Prop) (xs : List NL) (w : World) (v : Value) : Prop := (v = .pointer none ∧ xs = []) ∨ ∃ x, xs = [x] ∧ S x w v
/-- A row of directives, of selections. -/
def GRowD (L : Nat) (P : NL → World → Value → Prop) (xs : List NL) (w : World) (v : Value) : Prop := ∃ A c, v = .slice A xs.length c ∧ (xs = [] ∨ ∃ b o, A = some ⟨b, o, none⟩ ∧ ∀ i y, xs[i]? = some y → ∃ x, Cl L w b (o + i) x ∧ P y w x)
/-- A selection: a field, a spread, an inline fragment. -/
def GSel (L n : Nat) (S : NL → World → Value → Prop) (y : NL) (w : World) (v : Value) : Prop := ∃ g lv, Cl L w g 1 lv ∧ GLoc L w lv ∧
  ((v = .iface 235 (ptr g) ∧ ∃ al nm ar d st sa sn az ds ss, Cl L w g 2 al ∧ GOptT (GName L) sa w al ∧ Cl L w g 3 nm ∧ GName L sn w nm ∧ Cl L w g 4 ar ∧ GRow L (GArg L n) az w ar ∧ Cl L w g 5 d ∧ GRowD L (GDir L n) ds w d ∧ Cl L w g 6 st ∧ GOptS S ss w st ∧ y = nd 6 sn sa emp 0 (az ++ ds ++ ss)) ∨
   (v = .iface 238 (ptr g) ∧ ∃ nm d sn ds, Cl L w g 2 nm ∧ GName L sn w nm ∧ Cl L w g 3 d ∧ GRowD L (GDir L n) ds w d ∧ y = nd 7 sn emp emp 0 ds) ∨
   (v = .iface 241 (ptr g) ∧ ∃ tc d st sc ds z, Cl L w g 2 tc ∧ GOptT (GNamed L) sc w tc ∧ Cl L w g 3 d ∧ GRowD L (GDir L n) ds w d ∧ Cl L w g 4 st ∧ S z w st ∧ y = nd 8 emp emp sc 0 (ds ++ [z])))
def GSet (L n : Nat) : Nat → NL → World → Value → Prop
  | 0, _, _, _ => False
  | k + 1, y, w, v => ∃ g lv sv xs, v = ptr g ∧ Cl L w g 1 lv ∧ GLoc L w lv ∧ Cl L w g 2 sv ∧ GRowD L (GSel L n (GSet L n k)) xs w sv ∧ y = nd 5 emp emp emp 0 xs

/-- It stays where the world grows. -/
def Stable (L : Nat) (P : World → Value → Prop) : Prop := ∀ w w' v, Up L w w' → P w v → P w' v
def Stable2 (L : Nat) (P : World → Value → Prop) : Prop := ∀ w w' v, Up2 L w w' → P w v → P w' v
theorem Stable2.one {L : Nat} {P : World → Value → Prop} (h : Stable2 L P) : Stable L P := fun w w' v hu hp => h w w' v hu.two hp
section
variable {L n : Nat}
theorem s2_loc : Stable2 L (GLoc L) := fun w w' v hu ⟨g, a, b, h1, h3, h4⟩ => ⟨g, a, b, h1, h3.up hu, h4.up hu⟩
theorem s2_name {s : ByteArray} : Stable2 L (GName L s) := fun w w' v hu ⟨g, h1, h3⟩ => ⟨g, h1, h3.up hu⟩
theorem s2_row {P : NL → World → Value → Prop} (hP : ∀ y, Stable2 L (P y)) {xs : List NL} : Stable2 L (GRow L P xs) := fun w w' v hu ⟨A, c, h1, h2⟩ => ⟨A, c, h1, by
  rcases h2 with h2 | ⟨b, o, h3, h5⟩
  · exact .inl h2
  · exact .inr ⟨b, o, h3, fun i y hi => by
      obtain ⟨x, hx, hp⟩ := h5 i y hi
      exact ⟨x, hx.up hu, hP y _ _ _ hu hp⟩⟩⟩
theorem st_optT {P : ByteArray → World → Value → Prop} (hP : ∀ s, Stable L (P s)) {s : ByteArray} : Stable L (GOptT P s) := fun w w' v hu h => h.elim .inl fun h => .inr (hP s _ _ _ hu h)
theorem st_optS {P : NL → World → Value → Prop} (hP : ∀ s, Stable L (P s)) {xs : List NL} : Stable L (GOptS P xs) := fun w w' v hu h => h.elim .inl fun ⟨x, e, h⟩ => .inr ⟨x, e, hP x _ _ _ hu h⟩
theorem s2_val : ∀ n y, Stable2 L (GVal L n y)
  | 0, _ => fun w w' v hu h => h
  | n + 1, y => fun w w' v hu ⟨g, lv, h2, h3, h4⟩ => ⟨g, lv, h2.up hu, s2_loc _ _ _ hu h3, by
      rcases h4 with ⟨e, nv, s, a, b, e2⟩ | ⟨e, s, a, e2⟩ | ⟨e, s, a, e2⟩ | ⟨e, s, a, e2⟩ | ⟨e, b, a, e2⟩ | ⟨e, s, a, e2⟩ | ⟨e, sv, xs, a, b, e2⟩ | ⟨e, sv, xs, a, b, e2⟩
      · exact .inl ⟨e, nv, s, a.up hu, s2_name _ _ _ hu b, e2⟩
      · exact .inr (.inl ⟨e, s, a.up hu, e2⟩)
      · exact .inr (.inr (.inl ⟨e, s, a.up hu, e2⟩))
      · exact .inr (.inr (.inr (.inl ⟨e, s, a.up hu, e2⟩)))
      · exact .inr (.inr (.inr (.inr (.inl ⟨e, b, a.up hu, e2⟩))))
      · exact .inr (.inr (.inr (.inr (.inr (.inl ⟨e, s, a.up hu, e2⟩)))))
      · exact .inr (.inr (.inr (.inr (.inr (.inr (.inl ⟨e, sv, xs, a.up hu, s2_row (s2_val n) _ _ _ hu b, e2⟩))))))
      · exact .inr (.inr (.inr (.inr (.inr (.inr (.inr ⟨e, sv, xs, a.up hu, s2_row (fun y w w' v hu ⟨f, lf, nv, s, z, u', k1, k2, k3, k4, k5, k6, k7, k8⟩ => ⟨f, lf, nv, s, z, u', k1, k2.up hu, s2_loc _ _ _ hu k3, k4.up hu, s2_name _ _ _ hu k5, k6.up hu, s2_val n z _ _ _ hu k7, k8⟩) _ _ _ hu b, e2⟩))))))⟩
theorem s2_fld {y : NL} : Stable2 L (GFld L n y) := fun w w' v hu ⟨f, lf, nv, s, z, u', k1, k2, k3, k4, k5, k6, k7, k8⟩ => ⟨f, lf, nv, s, z, u', k1, k2.up hu, s2_loc _ _ _ hu k3, k4.up hu, s2_name _ _ _ hu k5, k6.up hu, s2_val n z _ _ _ hu k7, k8⟩
theorem s2_arg {y : NL} : Stable2 L (GArg L n y) := fun w w' v hu ⟨g, lv, nv, s, z, x, h1, h3, h4, h5, h6, h7, h8, h9⟩ =>
  ⟨g, lv, nv, s, z, x, h1, h3.up hu, s2_loc _ _ _ hu h4, h5.up hu, s2_name _ _ _ hu h6, h7.up hu, s2_val n z _ _ _ hu h8, h9⟩
theorem s2_dir {y : NL} : Stable2 L (GDir L n y) := fun w w' v hu ⟨g, lv, nv, s, xs, x, h1, h3, h4, h5, h6, h7, h8, h9⟩ =>
  ⟨g, lv, nv, s, xs, x, h1, h3.up hu, s2_loc _ _ _ hu h4, h5.up hu, s2_name _ _ _ hu h6, h7.up hu, s2_row (fun _ => s2_arg) _ _ _ hu h8, h9⟩
theorem s2_named {s : ByteArray} : Stable2 L (GNamed L s) := fun w w' v hu ⟨g, nv, h1, h3, h4⟩ => ⟨g, nv, h1, h3.up hu, s2_name _ _ _ hu h4⟩
theorem st_loc : Stable L (GLoc L) := s2_loc.one
theorem st_name {s : ByteArray} : Stable L (GName L s) := s2_name.one
theorem st_val (n : Nat) (y : NL) : Stable L (GVal L n y) := (s2_val n y).one
theorem st_arg {y : NL} : Stable L (GArg L n y) := s2_arg.one
theorem st_dir {y : NL} : Stable L (GDir L n y) := s2_dir.one
theorem st_named {s : ByteArray} : Stable L (GNamed L s) := s2_named.one
theorem st_row {P : NL → World → Value → Prop} (hP : ∀ y, Stable2 L (P y)) {xs : List NL} : Stable L (GRow L P xs) := (s2_row hP).one
theorem st_rowS {P : NL → World → Value → Prop} (hP : ∀ y, Stable L (P y)) {xs : List NL} : Stable L (GRowD L P xs) := fun w w' v hu ⟨A, c, h1, h2⟩ => ⟨A, c, h1, by
  rcases h2 with h2 | ⟨b, o, h3, h5⟩
  · exact .inl h2
  · exact .inr ⟨b, o, h3, fun i y hi => by
      obtain ⟨x, hx, hp⟩ := h5 i y hi
      exact ⟨x, hx.up hu, hP y _ _ _ hu hp⟩⟩⟩
theorem st_sel {S : NL → World → Value → Prop} (hS : ∀ y, Stable L (S y)) (y : NL) : Stable L (GSel L n S y) := fun w w' v hu ⟨g, lv, h2, h3, h4⟩ => ⟨g, lv, h2.up hu, st_loc _ _ _ hu h3, by
  rcases h4 with ⟨e, al, nm, ar, d, st, sa, sn, az, ds, ss, a1, a2, a3, a4, a5, a6, a7, a8, a9, a10, e2⟩ | ⟨e, nm, d, sn, ds, a1, a2, a3, a4, e2⟩ | ⟨e, tc, d, st, sc, ds, z, a1, a2, a3, a4, a5, a6, e2⟩
  · exact .inl ⟨e, al, nm, ar, d, st, sa, sn, az, ds, ss, a1.up hu, st_optT (fun _ => st_name) _ _ _ hu a2, a3.up hu, st_name _ _ _ hu a4, a5.up hu, st_row (fun _ => s2_arg) _ _ _ hu a6, a7.up hu, st_rowS (fun _ => st_dir) _ _ _ hu a8, a9.up hu, st_optS hS _ _ _ hu a10, e2⟩
  · exact .inr (.inl ⟨e, nm, d, sn, ds, a1.up hu, st_name _ _ _ hu a2, a3.up hu, st_rowS (fun _ => st_dir) _ _ _ hu a4, e2⟩)
  · exact .inr (.inr ⟨e, tc, d, st, sc, ds, z, a1.up hu, st_optT (fun _ => st_named) _ _ _ hu a2, a3.up hu, st_rowS (fun _ => st_dir) _ _ _ hu a4, a5.up hu, hS z _ _ _ hu a6, e2⟩)⟩
theorem st_set : ∀ k y, Stable L (GSet L n k y)
  | 0, _ => fun w w' v hu h => h
  | k + 1, y => fun w w' v hu ⟨g, lv, sv, xs, h1, h3, h4, h5, h6, e⟩ => ⟨g, lv, sv, xs, h1, h3.up hu, st_loc _ _ _ hu h4, h5.up hu, st_rowS (st_sel (st_set k)) _ _ _ hu h6, e⟩
end
end Go.Proofs.YthbinlnpipgobaaGreatDoor.Ast
