import Derived.Test.YtklgaldpcaogbaaGreatDoorPFnReadBlockx2
import Derived.Test.YtklgaldpcaogbaaGreatDoorPFnReadBlockx3
namespace Go.Proofs.YtklgaldpcaogbaaGreatDoor.ErrP
open Go.RowKit Go.Proofs.YtklgaldpcaogbaaGreatDoor.PFnReadBlock Go.Proofs.YtklgaldpcaogbaaGreatDoorW.PrintWords Go.Proofs.YtklgaldpcaogbaaGreatDoorW.PrintLast

/-- A line end: where it begins and ends, within n bytes. -/
def Pair (n : Int) (x : List Int) : Prop := ∃ a b : Int, x = [a, b] ∧ 0 ≤ a ∧ a ≤ b ∧ b ≤ n

theorem l0_pairs (l : List Int) (hl : l.length ≤ 140737488351232) : ∀ (d k : Nat) (acc : List (List Int)) (i : Int), 0 ≤ i → (l.length : Int) - i ≤ d → 2 * d + 2 < k → (acc.length : Int) ≤ 1000000 + i → i ≤ l.length + 1 → l.length ≤ 1000000000 → (∀ x ∈ acc, Pair l.length x) →
    ∃ r, location_zzLineEnds.l0 k l acc i = some r ∧ (∀ x ∈ r, Pair l.length x) ∧ (r.length : Int) ≤ 1000002 + l.length := by
  intro d
  induction d using Nat.strongRecOn with
  | _ d ih =>
    intro k acc i h0 hd hk ha hi hb hacc
    obtain ⟨k, rfl⟩ : ∃ m, k = m + 1 := ⟨k - 1, by omega⟩
    simp only [location_zzLineEnds.l0]
    by_cases hlt : i < (l.length : Int)
    · rw [if_pos hlt, if_pos h0]
      obtain ⟨k, rfl⟩ : ∃ m, k = m + 1 := ⟨k - 1, by omega⟩
      have w1 : wrap64 (i + 1) = i + 1 := by unfold wrap64; omega
      have w2 : wrap64 (i + 2) = i + 2 := by unfold wrap64; omega
      have w3 : wrap64 (i + 1 + 1) = i + 1 + 1 := by unfold wrap64; omega
      have hp1 : ∀ x ∈ acc ++ [[i, i + 1]], Pair l.length x := by
        intro x hx
        rcases List.mem_append.1 hx with h | h
        · exact hacc x h
        · rw [List.mem_singleton.1 h]; exact ⟨i, i + 1, rfl, by omega, by omega, by omega⟩
      have step1 : ∀ acc', (acc'.length : Int) ≤ 1000000 + (i + 1) → (∀ x ∈ acc', Pair l.length x) → ∃ r, location_zzLineEnds.l0 k l acc' (i + 1) = some r ∧ (∀ x ∈ r, Pair l.length x) ∧ (r.length : Int) ≤ 1000002 + l.length :=
        fun acc' h1 h2 => ih (d - 1) (by omega) k acc' (i + 1) (by omega) (by omega) (by omega) h1 (by omega) hb h2
      have hj0 : ∃ r, location_zzLineEnds.j1 (k + 1) l acc i false = some r ∧ (∀ x ∈ r, Pair l.length x) ∧ (r.length : Int) ≤ 1000002 + l.length := by
        simp only [location_zzLineEnds.j1]
        rw [if_neg (by decide), if_pos h0, if_pos hlt, w1]
        have hlen : ((acc ++ [[i, i + 1]]).length : Int) ≤ 1000000 + (i + 1) := by rw [List.length_append]; simp; omega
        by_cases e1 : rd l i = 13
        · rw [if_pos e1, if_pos (by omega)]; exact step1 _ hlen hp1
        · rw [if_neg e1]
          by_cases e2 : rd l i = 10
          · rw [if_pos e2, if_pos (by omega)]; exact step1 _ hlen hp1
          · rw [if_neg e2]; exact step1 _ (by omega) hacc
      have hj1 : i + 1 < l.length → ∃ r, location_zzLineEnds.j1 (k + 1) l acc i true = some r ∧ (∀ x ∈ r, Pair l.length x) ∧ (r.length : Int) ≤ 1000002 + l.length := by
        intro hlt2
        simp only [location_zzLineEnds.j1]
        rw [if_pos trivial, if_pos (by omega), w1, w2, w3]
        refine ih (d - 2) (by omega) k _ (i + 1 + 1) (by omega) (by omega) (by omega) (by rw [List.length_append]; simp; omega) (by omega) hb ?_
        intro x hx
        rcases List.mem_append.1 hx with h | h
        · exact hacc x h
        · rw [List.mem_singleton.1 h]; exact ⟨i, i + 2, rfl, by omega, by omega, by omega⟩
      by_cases e1 : rd l i = 13
      · rw [if_pos e1, w1]
        by_cases e2 : i + 1 < (l.length : Int)
        · rw [if_pos e2, if_pos (by omega)]
          cases (rd l (i + 1) == 10) with
          | true => exact hj1 e2
          | false => exact hj0
        · rw [if_neg e2]; exact hj0
      · rw [if_neg e1]; exact hj0
    · rw [if_neg hlt]
      exact ⟨acc, rfl, hacc, by omega⟩

theorem line_ends (l : List Int) (hl : l.length ≤ 1000000000) : ∃ k r, location_zzLineEnds.f k l = some r ∧ (∀ x ∈ r, Pair l.length x) ∧ (r.length : Int) ≤ 1000002 + l.length := by
  obtain ⟨r, h⟩ := l0_pairs l (by omega) l.length (2 * l.length + 3) [] 0 (by omega) (by omega) (by omega) (by simp) (by omega) hl (by simp)
  exact ⟨_, r, h⟩
end Go.Proofs.YtklgaldpcaogbaaGreatDoor.ErrP
