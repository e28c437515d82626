import Derived.Test.YtklgaldpcaogbaaGreatDoorLines
namespace Go.Proofs.YtklgaldpcaogbaaGreatDoor.LinesP
open Go.RowKit Go.Proofs.YtklgaldpcaogbaaGreatDoorW.PrintWords Go.Proofs.YtklgaldpcaogbaaGreatDoorW.PrintLast Go.Proofs.YtklgaldpcaogbaaGreatDoorW.PrintMore

theorem leading_plain : ∀ k, PBlockValue.spec_leading.l0 k = PplainBlock.spec_leading.l0 k := by
  intro k
  induction k with
  | zero => funext a b; rfl
  | succ k ih => funext a b; simp only [PBlockValue.spec_leading.l0, PplainBlock.spec_leading.l0, ih]

theorem common_plain : ∀ k, PBlockValue.spec_common.l0 k = PplainBlock.spec_common.l0 k := by
  intro k
  induction k with
  | zero => funext a b c; rfl
  | succ k ih => funext a b c; simp only [PBlockValue.spec_common.l0, PplainBlock.spec_common.l0, ih, PBlockValue.spec_leading.f, PplainBlock.spec_leading.f, leading_plain]

/-- How many blanks and tabs a line begins with. -/
def leadGo (s : ByteArray) : Nat → Nat → Nat
  | 0, i => i
  | d + 1, i => if bt s i = 32 ∨ bt s i = 9 then leadGo s d (i + 1) else i
def lead (s : ByteArray) : Nat := leadGo s s.size 0

theorem leadGo_ge (s : ByteArray) : ∀ d i, i ≤ leadGo s d i ∧ leadGo s d i ≤ i + d := by
  intro d
  induction d with
  | zero => intro i; simp [leadGo]
  | succ d ih =>
    intro i
    simp only [leadGo]
    split
    · have := ih (i + 1); omega
    · omega
theorem lead_le (s : ByteArray) : lead s ≤ s.size := by have := (leadGo_ge s s.size 0).2; unfold lead; omega

theorem leading_go (s : ByteArray) (hs : s.size ≤ 1000000000) : ∀ (d i k : Nat), i + d = s.size → d < k → PplainBlock.spec_leading.l0 k s i = some (leadGo s d i : Int) := by
  intro d
  induction d with
  | zero =>
    intro i k hi hk
    obtain ⟨k, rfl⟩ : ∃ m, k = m + 1 := ⟨k - 1, by omega⟩
    simp only [PplainBlock.spec_leading.l0, leadGo]
    rw [if_neg (by omega)]
  | succ d ih =>
    intro i k hi hk
    obtain ⟨k, rfl⟩ : ∃ m, k = m + 1 := ⟨k - 1, by omega⟩
    have w1 : wrap64 ((i : Int) + 1) = ((i + 1 : Nat) : Int) := by unfold wrap64; omega
    simp only [PplainBlock.spec_leading.l0, leadGo]
    rw [if_pos (by omega), if_pos (by omega), w1, ih (i + 1) k (by omega) (by omega)]
    by_cases e1 : bt s i = 32
    · rw [if_pos e1, if_pos (.inl e1)]
    · rw [if_neg e1]
      by_cases e2 : bt s i = 9
      · rw [if_pos e2, if_pos (.inr e2)]
      · rw [if_neg e2, if_neg (by omega)]

theorem leading_some (s : ByteArray) (hs : s.size ≤ 1000000000) (k : Nat) (hk : s.size < k) : PplainBlock.spec_leading.f k s = some (lead s : Int) := by
  have := leading_go s hs s.size 0 k (by omega) hk
  exact this
theorem leading_some' (s : ByteArray) (hs : s.size ≤ 1000000000) (k : Nat) (hk : s.size < k) : PBlockValue.spec_leading.f k s = some (lead s : Int) := by
  have := leading_some s hs k hk
  unfold PBlockValue.spec_leading.f
  rw [leading_plain]; exact this

/-- The white space that all lines but the first have in front, -1 if there is none with something else. -/
def commonGo (l : List ByteArray) : Nat → Int → Nat → Int
  | 0, o, _ => o
  | d + 1, o, i =>
    let x := rdOf ByteArray.empty l i
    if lead x < x.size ∧ (o < 0 ∨ (lead x : Int) < o) then commonGo l d (lead x) (i + 1) else commonGo l d o (i + 1)
def commonN (l : List ByteArray) : Int := commonGo l (l.length - 1) (-1) 1

theorem rdOf_le {l : List ByteArray} {n : Nat} (hl : ∀ x ∈ l, x.size ≤ n) (i : Int) : (rdOf ByteArray.empty l i).size ≤ n := by
  unfold rdOf
  rw [List.getD_eq_getElem?_getD]
  cases h : l[i.toNat]? with
  | none => simp
  | some x => exact hl x (List.mem_of_getElem? h)

theorem common_go (n : Nat) (hn : n ≤ 1000000000) (l : List ByteArray) (hl : ∀ x ∈ l, x.size ≤ n) (hlen : l.length ≤ 1000000001) : ∀ (d i k : Nat) (o : Int), i + d = l.length → d + n + 1 < k → PplainBlock.spec_common.l0 k l o i = some (mx (commonGo l d o i) 0) := by
  intro d
  induction d with
  | zero =>
    intro i k o hi hk
    obtain ⟨k, rfl⟩ : ∃ m, k = m + 1 := ⟨k - 1, by omega⟩
    simp only [PplainBlock.spec_common.l0, commonGo]
    rw [if_neg (by omega)]
  | succ d ih =>
    intro i k o hi hk
    obtain ⟨k, rfl⟩ : ∃ m, k = m + 1 := ⟨k - 1, by omega⟩
    have w1 : wrap64 ((i : Int) + 1) = ((i + 1 : Nat) : Int) := by unfold wrap64; omega
    have hx := rdOf_le hl (i : Int)
    simp only [PplainBlock.spec_common.l0, commonGo]
    rw [if_pos (by omega), if_pos (by omega), leading_some _ (by omega) k (by omega)]
    simp only [Option.bind_some, w1, ih (i + 1) k _ (by omega) (by omega)]
    by_cases e1 : lead (rdOf ByteArray.empty l i) < (rdOf ByteArray.empty l i).size
    · rw [if_pos (by omega)]
      by_cases e2 : o < 0
      · rw [if_pos e2, if_pos ⟨e1, .inl e2⟩]
      · rw [if_neg e2]
        by_cases e3 : (lead (rdOf ByteArray.empty l i) : Int) < o
        · rw [if_pos e3, if_pos ⟨e1, .inr e3⟩]
        · rw [if_neg e3, if_neg (by omega)]
    · rw [if_neg (by omega), if_neg (fun h => e1 h.1)]

theorem common_some {s : ByteArray} (hs : s.size ≤ 1000000000) {l : List ByteArray} (hl : LinesOf s l) (k : Nat) (hk : 2 * s.size + 4 < k) : PplainBlock.spec_common.f k l = some (mx (commonN l) 0) := by
  have h1 := hl.1
  have h2 := hl.2.1
  exact common_go s.size hs l hl.2.2 (by omega) (l.length - 1) 1 k (-1) (by omega) (by omega)
theorem common_some' {s : ByteArray} (hs : s.size ≤ 1000000000) {l : List ByteArray} (hl : LinesOf s l) (k : Nat) (hk : 2 * s.size + 4 < k) : PBlockValue.spec_common.f k l = some (mx (commonN l) 0) := by
  have := common_some hs hl k hk
  unfold PBlockValue.spec_common.f
  rw [common_plain]; exact this

/-- No line within has white space alone, and less of it than n. -/
def plainGo (l : List ByteArray) (n : Int) : Nat → Nat → Bool
  | 0, _ => true
  | d + 1, i =>
    let x := rdOf ByteArray.empty l i
    if lead x = x.size ∧ 0 < x.size ∧ (x.size : Int) < n then false else plainGo l n d (i + 1)
def plainL (l : List ByteArray) : Bool :=
  if 0 < mx (commonN l) 0 ∧ lead (rdOf ByteArray.empty l 0) < (rdOf ByteArray.empty l 0).size then false else plainGo l (mx (commonN l) 0) (l.length - 1) 1

theorem plain_go (n : Nat) (hn : n ≤ 1000000000) (l : List ByteArray) (hl : ∀ x ∈ l, x.size ≤ n) (hlen : l.length ≤ 1000000001) (c : Int) : ∀ (d i k : Nat), i + d = l.length → d + n + 1 < k → PplainBlock.spec_plainBlock.l0 k l c i = some (plainGo l c d i) := by
  intro d
  induction d with
  | zero =>
    intro i k hi hk
    obtain ⟨k, rfl⟩ : ∃ m, k = m + 1 := ⟨k - 1, by omega⟩
    simp only [PplainBlock.spec_plainBlock.l0, plainGo]
    rw [if_neg (by omega)]
  | succ d ih =>
    intro i k hi hk
    obtain ⟨k, rfl⟩ : ∃ m, k = m + 1 := ⟨k - 1, by omega⟩
    have w1 : wrap64 ((i : Int) + 1) = ((i + 1 : Nat) : Int) := by unfold wrap64; omega
    have hx := rdOf_le hl (i : Int)
    simp only [PplainBlock.spec_plainBlock.l0, plainGo]
    rw [if_pos (by omega), if_pos (by omega), leading_some _ (by omega) k (by omega)]
    simp only [Option.bind_some, w1, ih (i + 1) k (by omega) (by omega)]
    by_cases e1 : lead (rdOf ByteArray.empty l i) = (rdOf ByteArray.empty l i).size
    · rw [if_pos (by omega)]
      by_cases e2 : 0 < (rdOf ByteArray.empty l i).size
      · rw [if_pos (by omega)]
        by_cases e3 : ((rdOf ByteArray.empty l i).size : Int) < c
        · rw [if_pos e3, if_pos ⟨e1, e2, e3⟩]
        · rw [if_neg e3, if_neg (fun h => e3 h.2.2)]
      · rw [if_neg (by omega), if_neg (fun h => e2 h.2.1)]
    · rw [if_neg (by omega), if_neg (fun h => e1 h.1)]

theorem plain_some {s : ByteArray} (hs : s.size ≤ 1000000000) {l : List ByteArray} (hl : LinesOf s l) (hk : ∀ k, 2 * s.size + 2 < k → PplainBlock.spec_Lines.f k s = some l) : PplainBlock.spec_plainBlock.f (2 * s.size + 9) s = some (plainL l) := by
  have h1 := hl.1
  have h2 := hl.2.1
  unfold PplainBlock.spec_plainBlock.f
  rw [hk _ (by omega)]
  simp only [Option.bind_some]
  rw [common_some hs hl _ (by omega)]
  simp only [Option.bind_some]
  have hj : ∀ b, PplainBlock.spec_plainBlock.j0 (2 * s.size + 9) l (mx (commonN l) 0) b = some (if b = true then false else plainGo l (mx (commonN l) 0) (l.length - 1) 1) := by
    intro b
    simp only [PplainBlock.spec_plainBlock.j0]
    have := plain_go s.size hs l hl.2.2 (by omega) (mx (commonN l) 0) (l.length - 1) 1 (2 * s.size + 8) (by omega) (by omega)
    cases b with
    | true => rfl
    | false => exact this
  have hx := rdOf_le hl.2.2 0
  unfold plainL
  by_cases e1 : mx (commonN l) 0 > 0
  · rw [if_pos e1, if_pos (by omega), leading_some _ (by omega) _ (by omega)]
    simp only [Option.bind_some]
    rw [hj]
    by_cases e2 : lead (rdOf ByteArray.empty l 0) < (rdOf ByteArray.empty l 0).size
    · rw [if_pos (by simp; omega), if_pos ⟨e1, e2⟩]
    · rw [if_neg (by simp; omega), if_neg (fun h => e2 h.2)]
  · rw [if_neg e1, hj, if_neg (by decide), if_neg (fun h => e1 h.1)]

/-- plainBlock answers, for every text of the law. -/
theorem plain_calls (s : ByteArray) (hs : s.size ≤ 1000000000) : ∃ l, LinesOf s l ∧ (∀ k, 2 * s.size + 2 < k → PplainBlock.spec_Lines.f k s = some l ∧ PBlockValue.spec_Lines.f k s = some l ∧ PFnReadBlock.lexer_zzLines.f k s = some l) ∧
    ∀ w, Calls Tryz.prog 16 #[.string s] w fun e w' => e = .returned (.bool (plainL l)) ∧ Below w.heap.size w w' := by
  obtain ⟨l, hl, hk⟩ := lines_some s hs
  exact ⟨l, hl, hk, fun w => PplainBlock.spec_plainBlock.calls _ s _ w (plain_some hs hl (fun k h => (hk k h).1))⟩
end Go.Proofs.YtklgaldpcaogbaaGreatDoor.LinesP
