import Derived.Test.YtaekkifjkgpimaaGreatDoorRead
import Derived.PlainAid
import Derived.Lib.ItoaMem
namespace Go.Proofs.YtaekkifjkgpimaaGreatDoor.Digit
set_option linter.unusedVariables false
set_option linter.unusedSimpArgs false
open Go.RowKit Go.Proofs.YtaekkifjkgpimaaGreatDoorW.PrintWords Go.Proofs.YtaekkifjkgpimaaGreatDoor.Base Go.Proofs.YtaekkifjkgpimaaGreatDoor.Read
theorem text_size (l : List UInt8) : (⟨l.toArray⟩ : ByteArray).size = l.length := by simp [ByteArray.size]
theorem text_bt (l : List UInt8) (k : Nat) (h : k < l.length) : bt ⟨l.toArray⟩ k = ((l[k]'h).toNat : Int) := by
  unfold bt
  rw [dif_pos (by rw [text_size]; exact h)]
  rfl
theorem dg_nat (u j : Nat) : (Lib.dg u j).toNat = 48 + u / 10 ^ j % 10 := by
  unfold Lib.dg
  rw [UInt8.toNat_ofNat']
  omega
theorem dec_at (u k : Nat) (h : k < (Lib.decDigits u).length) : (((Lib.decDigits u)[k]'h).toNat : Int) = 48 + ((u / 10 ^ (Lib.nDigits u - 1 - k) % 10 : Nat) : Int) := by
  have h1 : (Lib.decDigits u)[k]? = some (Lib.dg u (Lib.nDigits u - 1 - k)) := by
    have hk : k < Lib.nDigits u := by rw [Lib.decDigits_length] at h; exact h
    rw [Lib.decDigits_eq, List.getElem?_map, List.getElem?_range hk]
    rfl
  have h2 : (Lib.decDigits u)[k]'h = Lib.dg u (Lib.nDigits u - 1 - k) := (List.getElem?_eq_some_iff.1 h1).2
  rw [h2, dg_nat]
  push_cast
  rfl
theorem nd_facts (u : Nat) (h0 : 0 < u) (h1 : u < 10000000000) : 1 ≤ Lib.nDigits u ∧ Lib.nDigits u ≤ 10 ∧ 10 ^ (Lib.nDigits u - 1) ≤ u := by
  obtain ⟨k, hk1, hk2⟩ : ∃ k, 10 ^ k ≤ u ∧ u < 10 ^ (k + 1) := by
    rcases Nat.lt_or_ge u 10 with h | h
    · exact ⟨0, by omega, by omega⟩
    rcases Nat.lt_or_ge u 100 with h | h
    · exact ⟨1, by omega, by omega⟩
    rcases Nat.lt_or_ge u 1000 with h | h
    · exact ⟨2, by omega, by omega⟩
    rcases Nat.lt_or_ge u 10000 with h | h
    · exact ⟨3, by omega, by omega⟩
    rcases Nat.lt_or_ge u 100000 with h | h
    · exact ⟨4, by omega, by omega⟩
    rcases Nat.lt_or_ge u 1000000 with h | h
    · exact ⟨5, by omega, by omega⟩
    rcases Nat.lt_or_ge u 10000000 with h | h
    · exact ⟨6, by omega, by omega⟩
    rcases Nat.lt_or_ge u 100000000 with h | h
    · exact ⟨7, by omega, by omega⟩
    rcases Nat.lt_or_ge u 1000000000 with h | h
    · exact ⟨8, by omega, by omega⟩
    exact ⟨9, by omega, by omega⟩
  have hn := Lib.nDigits_unique k u hk1 hk2
  rw [hn]
  refine ⟨by omega, ?_, by simpa using hk1⟩
  rcases Nat.lt_or_ge k 10 with h | h
  · omega
  · exfalso
    have : (10 : Nat) ^ 10 ≤ 10 ^ k := Nat.pow_le_pow_right (by decide) h
    omega

/-- The text of a whole number above 0 is a row of digits. -/
theorem digs_pos (u : Nat) (h0 : 0 < u) (h1 : u < 10000000000) : Digs ⟨(Lib.itoa (u : Int)).toArray⟩ 0 (Lib.nDigits u) u := by
  obtain ⟨a, b, c⟩ := nd_facts u h0 h1
  rw [Lib.itoa_nonneg]
  refine ⟨?_, a, b, fun i hi => ?_, Lib.lt_pow_nDigits u, c⟩
  · rw [text_size, Lib.decDigits_length, Nat.zero_add]
  · have hl : 0 + i < (Lib.decDigits u).length := by rw [Lib.decDigits_length]; omega
    rw [text_bt _ _ hl, dec_at u _ hl, Nat.zero_add]
/-- That of one below 0 is a row of digits behind a sign. -/
theorem digs_neg (u : Nat) (h0 : 0 < u) (h1 : u < 10000000000) : Digs ⟨(Lib.itoa (-(u : Int))).toArray⟩ 1 (Lib.nDigits u) u ∧ bt ⟨(Lib.itoa (-(u : Int))).toArray⟩ (0 : Nat) = 45 := by
  obtain ⟨a, b, c⟩ := nd_facts u h0 h1
  rw [Lib.itoa_neg u h0]
  refine ⟨⟨?_, a, b, fun i hi => ?_, Lib.lt_pow_nDigits u, c⟩, ?_⟩
  · rw [text_size, List.length_cons, Lib.decDigits_length, Nat.add_comm]
  · have hl : i < (Lib.decDigits u).length := by rw [Lib.decDigits_length]; omega
    have hl1 : 1 + i < (45 :: Lib.decDigits u).length := by rw [List.length_cons]; omega
    rw [text_bt _ _ hl1]
    rw [← dec_at u _ hl]
    congr 2
    rw [List.getElem_cons, dif_neg (by omega)]
    congr 1
    omega
  · rw [text_bt _ _ (by simp)]
    rfl
theorem text_zero : (⟨(Lib.itoa 0).toArray⟩ : ByteArray).size = 1 ∧ ∀ h : 0 < (⟨(Lib.itoa 0).toArray⟩ : ByteArray).size, (((⟨(Lib.itoa 0).toArray⟩ : ByteArray)[0]'h).toNat : Int) = 48 := by
  have h1 : Lib.itoa 0 = [48] := by
    rw [show (0 : Int) = ((0 : Nat) : Int) by rfl, Lib.itoa_nonneg, Lib.decDigits]
    rfl
  rw [h1]
  exact ⟨by rfl, fun _ => rfl⟩
end Go.Proofs.YtaekkifjkgpimaaGreatDoor.Digit
