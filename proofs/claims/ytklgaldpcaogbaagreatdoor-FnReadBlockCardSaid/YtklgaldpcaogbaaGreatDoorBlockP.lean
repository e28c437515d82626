import Derived.Test.YtklgaldpcaogbaaGreatDoorLead
import Derived.Test.YtklgaldpcaogbaaGreatDoorBlockV
namespace Go.Proofs.YtklgaldpcaogbaaGreatDoor.LinesP
open Go.RowKit Go.Proofs.YtklgaldpcaogbaaGreatDoorW.PrintWords Go.Proofs.YtklgaldpcaogbaaGreatDoorW.PrintLast Go.Proofs.YtklgaldpcaogbaaGreatDoorW.PrintMore

/-- A line without so much white space. -/
def cutLine (c : Int) (x : ByteArray) : ByteArray := x.extract (mn c (x.size : Int)).toNat x.size
/-- All lines from a place on without so much white space. -/
def stripGo (c : Int) : Nat → Nat → List ByteArray → List ByteArray
  | 0, _, l => l
  | d + 1, i, l => stripGo c d (i + 1) (l.set i (cutLine c (rdOf ByteArray.empty l i)))
/-- Without the blank lines at the head. -/
def dropHead : List ByteArray → List ByteArray
  | [] => []
  | x :: xs => if lead x = x.size then dropHead xs else x :: xs
/-- Without the blank lines at the end. -/
def dropTail : Nat → List ByteArray → List ByteArray
  | 0, l => l
  | d + 1, l => if 0 < l.length ∧ lead (rdOf ByteArray.empty l (l.length - 1 : Nat)) = (rdOf ByteArray.empty l (l.length - 1 : Nat)).size then dropTail d (l.take (l.length - 1)) else l
def joinGo (l : List ByteArray) : Nat → Nat → ByteArray → ByteArray
  | 0, _, o => o
  | d + 1, i, o => joinGo l d (i + 1) ((if 0 < i then o ++ (⟨#[10]⟩ : ByteArray) else o) ++ rdOf ByteArray.empty l i)
def joinL (l : List ByteArray) : ByteArray := joinGo l l.length 0 ⟨#[]⟩
/-- The value of a block string whose lines are l. -/
def valueL (l : List ByteArray) : ByteArray :=
  let m := dropHead (stripGo (mx (commonN l) 0) (l.length - 1) 1 l)
  joinL (dropTail m.length m)

variable {n : Nat}
theorem join_go (hn : n ≤ 1000000) (l : List ByteArray) (hl : ∀ x ∈ l, x.size ≤ n) (hlen : l.length ≤ 1000001) : ∀ (d i k : Nat) (o : ByteArray), i + d = l.length → d < k → o.size ≤ i * (n + 1) → PBlockValue.spec_BlockValue.l3 k l o i = some (joinGo l d i o) := by
  intro d
  induction d with
  | zero =>
    intro i k o hi hk ho
    obtain ⟨k, rfl⟩ : ∃ m, k = m + 1 := ⟨k - 1, by omega⟩
    simp only [PBlockValue.spec_BlockValue.l3, joinGo]
    rw [if_neg (by omega)]
  | succ d ih =>
    intro i k o hi hk ho
    obtain ⟨k, rfl⟩ : ∃ m, k = m + 1 := ⟨k - 1, by omega⟩
    have w1 : wrap64 ((i : Int) + 1) = ((i + 1 : Nat) : Int) := by unfold wrap64; omega
    have hx := rdOf_le hl (i : Int)
    have hb : i * (n + 1) ≤ 1000001 * 1000001 := Nat.mul_le_mul (by omega) (by omega)
    have hs : (i + 1) * (n + 1) = i * (n + 1) + (n + 1) := Nat.succ_mul _ _
    simp only [PBlockValue.spec_BlockValue.l3, joinGo]
    rw [if_pos (by omega)]
    by_cases e : 0 < i
    · rw [if_pos (by omega), if_pos e, if_pos (by omega), if_pos (by omega), if_pos (by rw [ByteArray.size_append]; show o.size + 1 + _ ≤ _; omega), w1]
      exact ih (i + 1) k _ (by omega) (by omega) (by rw [ByteArray.size_append, ByteArray.size_append]; show o.size + 1 + _ ≤ _; omega)
    · rw [if_neg (by omega), if_neg e, if_pos (by omega), if_pos (by omega), w1]
      exact ih (i + 1) k _ (by omega) (by omega) (by rw [ByteArray.size_append]; omega)

theorem tail_go (hn : n ≤ 1000000) : ∀ (d k : Nat) (l : List ByteArray), (∀ x ∈ l, x.size ≤ n) → l.length ≤ 1000001 → l.length = d → 2 * d + n + 3 < k → PBlockValue.spec_BlockValue.l2 k l = some (joinL (dropTail d l)) := by
  intro d
  induction d with
  | zero =>
    intro k l hl hlen hd hk
    obtain ⟨k, rfl⟩ : ∃ m, k = m + 2 := ⟨k - 2, by omega⟩
    simp only [PBlockValue.spec_BlockValue.l2, PBlockValue.spec_BlockValue.j4, dropTail]
    rw [if_neg (by omega)]
    exact join_go hn l hl hlen l.length 0 k _ (by omega) (by omega) (show (0 : Nat) ≤ _ from Nat.zero_le _)
  | succ d ih =>
    intro k l hl hlen hd hk
    obtain ⟨k, rfl⟩ : ∃ m, k = m + 2 := ⟨k - 2, by omega⟩
    have w1 : wrap64 ((l.length : Int) - 1) = ((l.length - 1 : Nat) : Int) := by unfold wrap64; omega
    have hx := rdOf_le hl ((l.length - 1 : Nat) : Int)
    simp only [PBlockValue.spec_BlockValue.l2, PBlockValue.spec_BlockValue.j4, dropTail]
    rw [if_pos (by omega), w1, if_pos (by omega), if_pos (by omega), leading_some' _ (by omega) _ (by omega)]
    simp only [Option.bind_some]
    by_cases e : lead (rdOf ByteArray.empty l (l.length - 1 : Nat)) = (rdOf ByteArray.empty l (l.length - 1 : Nat)).size
    · have e' : 0 < l.length ∧ lead (rdOf ByteArray.empty l (l.length - 1 : Nat)) = (rdOf ByteArray.empty l (l.length - 1 : Nat)).size := ⟨by omega, e⟩
      rw [if_pos (by omega), if_pos e', if_pos (by omega)]
      rw [Int.toNat_natCast]
      refine ih (k + 1) _ (fun x hx => hl x (List.mem_of_mem_take hx)) (by rw [List.length_take]; omega) (by rw [List.length_take]; omega) (by omega)
    · rw [if_neg (by omega), if_neg (fun h => e h.2)]
      exact join_go hn l hl hlen l.length 0 k _ (by omega) (by omega) (show (0 : Nat) ≤ _ from Nat.zero_le _)

theorem head_go (hn : n ≤ 1000000) : ∀ (l : List ByteArray) (k : Nat), (∀ x ∈ l, x.size ≤ n) → l.length ≤ 1000001 → 4 * l.length + n + 6 < k → PBlockValue.spec_BlockValue.l1 k l = some (joinL (dropTail (dropHead l).length (dropHead l))) := by
  intro l
  induction l with
  | nil =>
    intro k hl hlen hk
    obtain ⟨k, rfl⟩ : ∃ m, k = m + 2 := ⟨k - 2, by omega⟩
    simp only [PBlockValue.spec_BlockValue.l1, PBlockValue.spec_BlockValue.j2, dropHead]
    rw [if_neg (by simp)]
    exact tail_go hn 0 k [] hl hlen rfl (by simp at hk; omega)
  | cons x xs ih =>
    intro k hl hlen hk
    obtain ⟨k, rfl⟩ : ∃ m, k = m + 2 := ⟨k - 2, by omega⟩
    have hx : x.size ≤ n := hl x (by simp)
    have hr : rdOf ByteArray.empty (x :: xs) 0 = x := rfl
    simp only [List.length_cons] at hlen hk
    simp only [PBlockValue.spec_BlockValue.l1, PBlockValue.spec_BlockValue.j2, dropHead, hr]
    rw [if_pos (by simp only [List.length_cons]; omega), if_pos (by simp only [List.length_cons]; omega), leading_some' _ (by omega) _ (by omega)]
    simp only [Option.bind_some]
    by_cases e : lead x = x.size
    · rw [if_pos (by omega), if_pos (by simp only [List.length_cons]; omega), if_pos e]
      exact ih (k + 1) (fun y hy => hl y (by simp [hy])) (by omega) (by omega)
    · rw [if_neg (by omega), if_neg e]
      exact tail_go hn _ k _ hl (by simp; omega) rfl (by simp; omega)

theorem strip_mem {l : List ByteArray} (hl : ∀ x ∈ l, x.size ≤ n) (i : Nat) (c : Int) : ∀ x ∈ l.set i (cutLine c (rdOf ByteArray.empty l i)), x.size ≤ n := by
  intro x hx
  rcases List.mem_or_eq_of_mem_set hx with h | rfl
  · exact hl x h
  · exact Nat.le_trans (extract_le _ _ _) (rdOf_le hl _)

theorem strip_go (hn : n ≤ 1000000) (c : Int) (hc : 0 ≤ c) : ∀ (d i k : Nat) (l : List ByteArray), (∀ x ∈ l, x.size ≤ n) → l.length ≤ 1000001 → i + d = l.length → d + 4 * l.length + n + 7 < k →
    PBlockValue.spec_BlockValue.l0 k l c i = some (joinL (dropTail (dropHead (stripGo c d i l)).length (dropHead (stripGo c d i l)))) := by
  intro d
  induction d with
  | zero =>
    intro i k l hl hlen hi hk
    obtain ⟨k, rfl⟩ : ∃ m, k = m + 1 := ⟨k - 1, by omega⟩
    simp only [PBlockValue.spec_BlockValue.l0, stripGo]
    rw [if_neg (by omega)]
    exact head_go hn l k hl hlen (by omega)
  | succ d ih =>
    intro i k l hl hlen hi hk
    obtain ⟨k, rfl⟩ : ∃ m, k = m + 1 := ⟨k - 1, by omega⟩
    have w1 : wrap64 ((i : Int) + 1) = ((i + 1 : Nat) : Int) := by unfold wrap64; omega
    simp only [PBlockValue.spec_BlockValue.l0, stripGo]
    rw [if_pos (by omega), if_pos (by omega), if_pos (by unfold mn; split <;> omega), if_pos (by unfold mn; split <;> omega), w1]
    exact ih (i + 1) k _ (strip_mem hl i c) (by rw [List.length_set]; omega) (by rw [List.length_set]; omega) (by rw [List.length_set]; omega)

theorem value_some {s : ByteArray} (hs : s.size ≤ 1000000) {l : List ByteArray} (hl : LinesOf s l) (hk : ∀ k, 2 * s.size + 2 < k → PBlockValue.spec_Lines.f k s = some l) : PBlockValue.spec_BlockValue.f (8 * s.size + 30) s = some (valueL l) := by
  have h1 := hl.1
  have h2 := hl.2.1
  unfold PBlockValue.spec_BlockValue.f
  rw [hk _ (by omega)]
  simp only [Option.bind_some]
  rw [common_some' (by omega) hl _ (by omega)]
  simp only [Option.bind_some]
  exact strip_go hs _ (by unfold mx; split <;> omega) (l.length - 1) 1 _ l hl.2.2 (by omega) (by omega) (by omega)
end Go.Proofs.YtklgaldpcaogbaaGreatDoor.LinesP
