import Derived.Test.YtklgaldpcaogbaaGreatDoorPplainBlockx2
import Derived.Test.YtklgaldpcaogbaaGreatDoorPBlockValuex1
import Derived.Test.YtklgaldpcaogbaaGreatDoorPFnReadBlockx3
namespace Go.Proofs.YtklgaldpcaogbaaGreatDoor.LinesP
open Go.RowKit Go.Proofs.YtklgaldpcaogbaaGreatDoorW.PrintWords Go.Proofs.YtklgaldpcaogbaaGreatDoorW.PrintLast Go.Proofs.YtklgaldpcaogbaaGreatDoorW.PrintMore

/-- The three prints of the lines are one function. -/
theorem lines_plain : ∀ k, PBlockValue.spec_Lines.l0 k = PplainBlock.spec_Lines.l0 k ∧ PBlockValue.spec_Lines.j1 k = PplainBlock.spec_Lines.j1 k := by
  intro k
  induction k with
  | zero => constructor <;> (funext; rfl)
  | succ k ih =>
    obtain ⟨h1, h2⟩ := ih
    constructor
    · funext a b c d
      simp only [PBlockValue.spec_Lines.l0, PplainBlock.spec_Lines.l0, h2]
    · funext a b c d e
      simp only [PBlockValue.spec_Lines.j1, PplainBlock.spec_Lines.j1, h1]

theorem lines_zz : ∀ k, PFnReadBlock.lexer_zzLines.l0 k = PplainBlock.spec_Lines.l0 k ∧ PFnReadBlock.lexer_zzLines.j1 k = PplainBlock.spec_Lines.j1 k := by
  intro k
  induction k with
  | zero => constructor <;> (funext; rfl)
  | succ k ih =>
    obtain ⟨h1, h2⟩ := ih
    constructor
    · funext a b c d
      simp only [PFnReadBlock.lexer_zzLines.l0, PplainBlock.spec_Lines.l0, h2]
      by_cases e1 : bt a d = 13
      · have e2 : ¬ bt a d = 10 := by omega
        have e3 : (bt a d != 13) = false := by simp [e1]
        rw [if_pos e1, if_neg e2, e3]
      · by_cases e2 : bt a d = 10
        · have e3 : (bt a d != 10) = false := by simp [e2]
          rw [if_neg e1, if_pos e2, e3]
        · have e3 : (bt a d != 10) = true := by simp [e2]
          have e4 : (bt a d != 13) = true := by simp [e1]
          rw [if_neg e1, if_neg e2, e3, e4]
    · funext a b c d e
      simp only [PFnReadBlock.lexer_zzLines.j1, PplainBlock.spec_Lines.j1, h1]

/-- What the lines of a text are: at least one, each no longer than the text. -/
def LinesOf (s : ByteArray) (l : List ByteArray) : Prop := 0 < l.length ∧ l.length ≤ s.size + 1 ∧ ∀ x ∈ l, x.size ≤ s.size

theorem extract_le (s : ByteArray) (a b : Nat) : (s.extract a b).size ≤ s.size := by rw [ByteArray.size_extract]; omega

theorem lines_total (s : ByteArray) (hs : s.size ≤ 1000000000) : ∀ (d k : Nat) (acc : List ByteArray) (f i : Int), 0 ≤ f → f ≤ i → i ≤ (s.size : Int) → (s.size : Int) - i ≤ d → 2 * d + 2 < k → (acc.length : Int) ≤ f → (∀ x ∈ acc, x.size ≤ s.size) →
    ∃ r, PplainBlock.spec_Lines.l0 k s acc f i = some r ∧ LinesOf s r := by
  intro d
  induction d using Nat.strongRecOn with
  | _ d ih =>
    intro k acc f i hf hfi hi hd hk ha hacc
    obtain ⟨k, rfl⟩ : ∃ m, k = m + 1 := ⟨k - 1, by omega⟩
    simp only [PplainBlock.spec_Lines.l0]
    by_cases hlt : i < (s.size : Int)
    · rw [if_pos hlt, if_pos (by omega)]
      obtain ⟨k, rfl⟩ : ∃ m, k = m + 1 := ⟨k - 1, by omega⟩
      have w1 : wrap64 (i + 1) = i + 1 := by unfold wrap64; omega
      have w2 : wrap64 (i + 1 + 1) = i + 1 + 1 := by unfold wrap64; omega
      have hj1 : ∃ r, PplainBlock.spec_Lines.j1 (k + 1) s acc f i true = some r ∧ LinesOf s r := by
        simp only [PplainBlock.spec_Lines.j1]
        rw [if_pos trivial, w1]
        exact ih (d - 1) (by omega) k acc f (i + 1) hf (by omega) (by omega) (by omega) (by omega) ha hacc
      have hacc2 : ∀ x ∈ acc ++ [s.extract f.toNat i.toNat], x.size ≤ s.size := by
        intro x hx
        rcases List.mem_append.1 hx with h | h
        · exact hacc x h
        · rw [List.mem_singleton.1 h]; exact extract_le _ _ _
      have hj0 : ∃ r, PplainBlock.spec_Lines.j1 (k + 1) s acc f i false = some r ∧ LinesOf s r := by
        simp only [PplainBlock.spec_Lines.j1]
        rw [if_neg (by decide), if_pos hf, if_pos hfi, if_pos hi, if_pos (by omega)]
        simp only [Option.bind_some]
        rw [if_pos (by omega), if_pos hlt, w1, w2]
        have st : ∃ r, PplainBlock.spec_Lines.l0 k s (acc ++ [s.extract f.toNat i.toNat]) (i + 1) (i + 1) = some r ∧ LinesOf s r :=
          ih (d - 1) (by omega) k _ (i + 1) (i + 1) (by omega) (by omega) (by omega) (by omega) (by omega) (by rw [List.length_append]; simp; omega) hacc2
        by_cases e1 : bt s i = 13
        · rw [if_pos e1]
          by_cases e2 : i + 1 < (s.size : Int)
          · rw [if_pos e2, if_pos (by omega)]
            by_cases e3 : bt s (i + 1) = 10
            · rw [if_pos e3]
              exact ih (d - 2) (by omega) k _ (i + 1 + 1) (i + 1 + 1) (by omega) (by omega) (by omega) (by omega) (by omega) (by rw [List.length_append]; simp; omega) hacc2
            · rw [if_neg e3]; exact st
          · rw [if_neg e2]; exact st
        · rw [if_neg e1]; exact st
      by_cases e1 : bt s i = 10
      · rw [if_pos e1]; exact hj0
      · rw [if_neg e1]
        cases (bt s i != 13) with
        | true => exact hj1
        | false => exact hj0
    · rw [if_neg hlt, if_pos hf, if_pos (by omega), if_pos (by omega)]
      refine ⟨_, rfl, by simp, by rw [List.length_append]; simp; omega, ?_⟩
      intro x hx
      rcases List.mem_append.1 hx with h | h
      · exact hacc x h
      · rw [List.mem_singleton.1 h]; exact extract_le _ _ _

/-- The lines of a text, with fuel enough for all. -/
theorem lines_some (s : ByteArray) (hs : s.size ≤ 1000000000) : ∃ l, LinesOf s l ∧ ∀ k, 2 * s.size + 2 < k → PplainBlock.spec_Lines.f k s = some l ∧ PBlockValue.spec_Lines.f k s = some l ∧ PFnReadBlock.lexer_zzLines.f k s = some l := by
  obtain ⟨l, h, hl⟩ := lines_total s hs s.size (2 * s.size + 3) [] 0 0 (by omega) (by omega) (by omega) (by omega) (by omega) (by simp) (by simp)
  have hm : ∀ k, 2 * s.size + 2 < k → PplainBlock.spec_Lines.f k s = some l := by
    intro k hk
    obtain ⟨j, rfl⟩ : ∃ j, k = (2 * s.size + 3) + j := ⟨k - (2 * s.size + 3), by omega⟩
    clear hk
    induction j with
    | zero => exact h
    | succ j ih => exact PplainBlock.spec_Lines.mono _ _ _ ih
  refine ⟨l, hl, fun k hk => ⟨hm k hk, ?_, ?_⟩⟩
  · have := hm k hk
    unfold PplainBlock.spec_Lines.f at this
    unfold PBlockValue.spec_Lines.f
    rw [(lines_plain k).1]; exact this
  · have := hm k hk
    unfold PplainBlock.spec_Lines.f at this
    unfold PFnReadBlock.lexer_zzLines.f
    rw [(lines_zz k).1]; exact this
end Go.Proofs.YtklgaldpcaogbaaGreatDoor.LinesP
