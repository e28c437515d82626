import Derived.Test.YtofafhboagfihaaWWords
import Derived.Laws.BitsLemmas
namespace Go.Proofs.Ytofafhboagfihaa.Uni
open Go.RowKit

theorem wrap_nat (n : Nat) (h : n < 2 ^ 64) : IntKind.i64.wrap (n : Int) = if 2 * n < 2 ^ 64 then (n : Int) else (n : Int) - (2 ^ 64 : Nat) := by
  rw [IntKind.wrap_i64]
  split <;> omega
theorem bits_or_toInt (x y : Int) : Go.bits .or .i64 x y = (BitVec.ofInt 64 x ||| BitVec.ofInt 64 y).toInt := by
  have h := (BitVec.ofInt 64 x ||| BitVec.ofInt 64 y).isLt
  rw [BitVec.toInt_eq_toNat_cond, ← wrap_nat _ h]
  rfl
theorem all_ones : (BitVec.allOnes 64).toInt = -1 := by decide

theorem or_neg (x y : Int) (hx : -4096 ≤ x) (hx' : x < 0) : -4096 ≤ Go.bits .or .i64 x y ∧ Go.bits .or .i64 x y < 0 := by
  rw [bits_or_toInt]
  have e1 : (BitVec.ofInt 64 x).toInt = x := by
    rw [BitVec.toInt_ofInt]
    simp only [Int.bmod_def]; omega
  have e2 : (BitVec.ofInt 64 x).sshiftRight 12 = BitVec.allOnes 64 := by
    apply BitVec.eq_of_toInt_eq
    rw [BitVec.toInt_sshiftRight, e1, Int.shiftRight_eq_div_pow, all_ones]
    simp; omega
  have e3 : (BitVec.ofInt 64 x ||| BitVec.ofInt 64 y).sshiftRight 12 = BitVec.allOnes 64 := by
    rw [BitVec.sshiftRight_or_distrib, e2, BitVec.allOnes_or]
  have e4 := congrArg BitVec.toInt e3
  rw [BitVec.toInt_sshiftRight, Int.shiftRight_eq_div_pow, all_ones] at e4
  generalize (BitVec.ofInt 64 x ||| BitVec.ofInt 64 y).toInt = r at *
  omega

theorem or_comm (x y : Int) : Go.bits .or .i64 x y = Go.bits .or .i64 y x := by rw [bits_or_toInt, bits_or_toInt, BitVec.or_comm]

theorem wraps64 (n : Int) (h₀ : 0 ≤ n) (h₁ : n < 2 ^ 20) : IntKind.i64.wrap n = n := by rw [IntKind.wrap_i64]; omega

/-- The value of a hexadecimal digit; -1 of none. -/
def hx (c : Int) : Int := if 48 ≤ c ∧ c ≤ 57 then c - 48 else if 97 ≤ c ∧ c ≤ 102 then c - 87 else if 65 ≤ c ∧ c ≤ 70 then c - 55 else -1
theorem hx_range (c : Int) : -1 ≤ hx c ∧ hx c ≤ 15 := by
  unfold hx
  split
  · omega
  · split
    · omega
    · split <;> omega

/-- The number of four digits; -1 if one is none. -/
def four (a b c d : Int) : Int := if hx a < 0 ∨ hx b < 0 ∨ hx c < 0 ∨ hx d < 0 then -1 else 4096 * hx a + 256 * hx b + 16 * hx c + hx d

def ored (a b c d : Int) : Int := wrap32 (Go.bits .or .i64 (Go.bits .or .i64 (Go.bits .or .i64 (wrap64 (a * 4096)) (wrap64 (b * 256))) (wrap64 (c * 16))) d)

theorem ored_is (a b c d : Int) (ha : -1 ≤ a ∧ a ≤ 15) (hb : -1 ≤ b ∧ b ≤ 15) (hc : -1 ≤ c ∧ c ≤ 15) (hd : -1 ≤ d ∧ d ≤ 15) :
    if a < 0 ∨ b < 0 ∨ c < 0 ∨ d < 0 then ored a b c d < 0 ∧ -4096 ≤ ored a b c d else ored a b c d = 4096 * a + 256 * b + 16 * c + d := by
  have e1 : wrap64 (a * 4096) = a * 4096 := by unfold wrap64; omega
  have e2 : wrap64 (b * 256) = b * 256 := by unfold wrap64; omega
  have e3 : wrap64 (c * 16) = c * 16 := by unfold wrap64; omega
  unfold ored
  rw [e1, e2, e3]
  have big : ∀ n : Int, -4096 ≤ n → n < 65536 → wrap32 n = n := by intro n _ _; unfold wrap32; omega
  split
  · rename_i h
    suffices H : -4096 ≤ (Go.bits .or .i64 (Go.bits .or .i64 (Go.bits .or .i64 (a * 4096) (b * 256)) (c * 16)) d) ∧ (Go.bits .or .i64 (Go.bits .or .i64 (Go.bits .or .i64 (a * 4096) (b * 256)) (c * 16)) d) < 0 by
      rw [big _ H.1 (by omega)]; exact ⟨H.2, H.1⟩
    by_cases h4 : d < 0
    · rw [or_comm]; exact or_neg _ _ (by omega) h4
    · refine or_neg _ _ ?_ ?_ <;> ·
        have H3 : -4096 ≤ Go.bits .or .i64 (Go.bits .or .i64 (a * 4096) (b * 256)) (c * 16) ∧ Go.bits .or .i64 (Go.bits .or .i64 (a * 4096) (b * 256)) (c * 16) < 0 := by
          by_cases h3 : c < 0
          · rw [or_comm]; exact or_neg _ _ (by omega) (by omega)
          · have H2 : -4096 ≤ Go.bits .or .i64 (a * 4096) (b * 256) ∧ Go.bits .or .i64 (a * 4096) (b * 256) < 0 := by
              by_cases h2 : b < 0
              · rw [or_comm]; exact or_neg _ _ (by omega) (by omega)
              · exact or_neg _ _ (by omega) (by omega)
            exact or_neg _ _ H2.1 H2.2
        first | exact H3.1 | exact H3.2
  · rename_i h
    have f1 : Go.bits .or .i64 (a * 4096) (b * 256) = a * 4096 + b * 256 := bits_join .i64 20 (by decide) wraps64 12 _ _ (by omega) (by omega) (by omega) (by omega) (by omega) (by omega)
    have f2 : Go.bits .or .i64 (a * 4096 + b * 256) (c * 16) = a * 4096 + b * 256 + c * 16 := bits_join .i64 20 (by decide) wraps64 8 _ _ (by omega) (by omega) (by omega) (by omega) (by omega) (by omega)
    have f3 : Go.bits .or .i64 (a * 4096 + b * 256 + c * 16) d = a * 4096 + b * 256 + c * 16 + d := bits_join .i64 20 (by decide) wraps64 4 _ _ (by omega) (by omega) (by omega) (by omega) (by omega) (by omega)
    rw [f1, f2, f3, big _ (by omega) (by omega)]
    omega
end Go.Proofs.Ytofafhboagfihaa.Uni
