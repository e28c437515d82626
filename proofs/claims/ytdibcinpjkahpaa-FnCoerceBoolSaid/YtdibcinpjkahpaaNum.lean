import Derived.Test.YtdibcinpjkahpaaRight
namespace Go.Proofs.Ytdibcinpjkahpaa.Num
set_option linter.unusedVariables false
set_option linter.unusedSimpArgs false
open Go.RowKit Go.Proofs.Ytdibcinpjkahpaa.Flo Go.Proofs.Ytdibcinpjkahpaa.Right

theorem conv_eq (b : Nat) (W : World) : (convert 25 3 (.float .f64 b)).run Try.prog W = (Conv.floatToInt .f64 b .i64).run Try.prog W := by kernel_rfl

theorem abs_mod (b : Nat) : absB b = b % 9223372036854775808 := by
  unfold absB bits
  simp only
  have h1 : (BitVec.ofInt IntKind.u64.bits (b : Int) &&& ~~~ BitVec.ofInt IntKind.u64.bits 9223372036854775808).toNat = b % 9223372036854775808 := by
    show (BitVec.ofInt 64 (b : Int) &&& ~~~ BitVec.ofInt 64 9223372036854775808).toNat = b % 9223372036854775808
    rw [show ~~~ BitVec.ofInt 64 9223372036854775808 = (9223372036854775807#64) by decide, BitVec.toNat_and]
    rw [show (9223372036854775807#64).toNat = 2 ^ 63 - 1 by decide, Nat.and_two_pow_sub_one_eq_mod]
    rw [BitVec.toNat_ofInt]
    omega
  rw [h1]
  have h2 : IntKind.u64.wrap ((b % 9223372036854775808 : Nat) : Int) = ((b % 9223372036854775808 : Nat) : Int) := by
    unfold IntKind.wrap
    simp [IntKind.bits, IntKind.signed]
    omega
  rw [h2]
  rfl

theorem sw : Ieee.double.signWeight = 9223372036854775808 := by decide
theorem read_abs (b : Nat) (s : Bool) (m : Nat) (p : Int) (h : Ieee.double.read b = .number s m p) : Ieee.double.read (absB b) = .number false m p := by
  rw [abs_mod]
  unfold Ieee.Format.read at h ⊢
  rw [sw] at h ⊢
  have h1 : b % 9223372036854775808 / 9223372036854775808 = 0 := Nat.div_eq_of_lt (Nat.mod_lt _ (by decide))
  rw [Nat.mod_mod, h1]
  simp only at h ⊢
  split at h
  · rename_i h2
    rw [if_pos h2]
    injection h with h3 h4 h5
    rw [h4, h5]; rfl
  · rename_i h2
    rw [if_neg h2]
    split at h
    · rename_i h6
      rw [if_pos h6]
      injection h with h3 h4 h5
      rw [h4, h5]; rfl
    · split at h <;> cases h
theorem read_abs_inf (b : Nat) (s : Bool) (h : Ieee.double.read b = .infinity s) : Ieee.double.read (absB b) = .infinity false := by
  rw [abs_mod]
  unfold Ieee.Format.read at h ⊢
  rw [sw] at h ⊢
  have h1 : b % 9223372036854775808 / 9223372036854775808 = 0 := Nat.div_eq_of_lt (Nat.mod_lt _ (by decide))
  rw [Nat.mod_mod, h1]
  simp only at h ⊢
  split at h
  · cases h
  · rename_i h2
    rw [if_neg h2]
    split at h
    · cases h
    · rename_i h6
      rw [if_neg h6]
      split at h
      · rename_i h7
        rw [if_pos h7]; rfl
      · cases h
theorem read_big : Ieee.double.read 4845873199050653696 = .number false 4503599627370496 1 := by decide +kernel
theorem read_zero : Ieee.double.read 0 = .number false 0 (-1074) := by decide +kernel
theorem read_word0 (s : Bool) : ∃ s' p, Ieee.double.read (Ieee.double.word s 0) = .number s' 0 p := by
  cases s
  · exact ⟨false, -1074, by decide +kernel⟩
  · exact ⟨true, -1074, by decide +kernel⟩

theorem signed_zero (s : Bool) (m k : Nat) : Ieee.signed s m k = 0 ↔ m = 0 := by
  unfold Ieee.signed
  rw [Nat.shiftLeft_eq]
  have hp : 0 < 2 ^ k := Nat.two_pow_pos k
  have hm : m * 2 ^ k = 0 ↔ m = 0 := by
    constructor
    · intro h
      rcases Nat.mul_eq_zero.1 h with h3 | h3
      · exact h3
      · omega
    · rintro rfl; simp
  rw [← hm]
  generalize m * 2 ^ k = x
  cases s
  · simp only [Bool.false_eq_true, if_false]; omega
  · simp only [if_true]; omega
theorem lt_of_cmp {a b : Int} (h : compare a b = .lt) : a < b := by
  simp only [compare, compareOfLessAndEq] at h
  split at h
  · assumption
  · split at h <;> cases h
theorem cut_zero (s : Bool) (n d : Nat) : Ieee.Toward.cut .zero s n d = n / 1 <<< min d (n.log2 + 2) := by
  simp [Ieee.Toward.cut]
/-- A number below 2^53 is less than that when it is cut. -/
theorem cut_small (s : Bool) (m : Nat) (p : Int) (h : compare (Ieee.signed false m (p - min p 1).toNat) (Ieee.signed false 4503599627370496 (1 - min p 1).toNat) = .lt) :
    Ieee.Toward.cut .zero s (m <<< p.toNat) (-p).toNat < 9007199254740992 := by
  have h : Ieee.signed false m (p - min p 1).toNat < Ieee.signed false 4503599627370496 (1 - min p 1).toNat := by
    exact lt_of_cmp h
  unfold Ieee.signed at h
  simp only [Bool.false_eq_true, if_false] at h
  rw [Nat.shiftLeft_eq, Nat.shiftLeft_eq] at h
  have h : m * 2 ^ (p - min p 1).toNat < 4503599627370496 * 2 ^ (1 - min p 1).toNat := by exact_mod_cast h
  rw [cut_zero, Nat.shiftLeft_eq, Nat.shiftLeft_eq, Nat.one_mul]
  by_cases hp : 1 ≤ p
  · rw [show min p 1 = 1 by omega, show (1 - 1 : Int).toNat = 0 by decide, Nat.pow_zero, Nat.mul_one] at h
    rw [show (-p).toNat = 0 by omega, Nat.zero_min, Nat.pow_zero, Nat.div_one]
    obtain ⟨k, hk⟩ : ∃ k, p.toNat = k + 1 := ⟨p.toNat - 1, by omega⟩
    rw [show (p - 1).toNat = k by omega] at h
    rw [hk, Nat.pow_succ, ← Nat.mul_assoc]
    omega
  · rw [show min p 1 = p by omega, show (p - p).toNat = 0 by omega, Nat.pow_zero, Nat.mul_one] at h
    rw [show p.toNat = 0 by omega, Nat.pow_zero, Nat.mul_one]
    obtain ⟨d, hd⟩ : ∃ d, (-p).toNat = d := ⟨_, rfl⟩
    rw [show (1 - p).toNat = d + 1 by omega, Nat.pow_succ] at h
    rw [hd]
    by_cases hdl : d ≤ m.log2 + 2
    · rw [Nat.min_eq_left hdl, Nat.div_lt_iff_lt_mul (Nat.two_pow_pos d)]
      omega
    · rw [Nat.min_eq_right (by omega)]
      have h3 : m < 2 ^ (m.log2 + 2) := Nat.lt_of_lt_of_le Nat.lt_log2_self (Nat.pow_le_pow_right (by decide) (by omega))
      rw [Nat.div_eq_of_lt h3]
      decide
theorem order_num {s t : Bool} {m n : Nat} {i j : Int} : (Ieee.Datum.number s m i).order (.number t n j) = some (compare (Ieee.signed s m (i - min i j).toNat) (Ieee.signed t n (j - min i j).toNat)) := rfl

theorem int_of (b : Nat) (h : IntOk b) : ∃ n : Int, (∀ W, (convert 25 3 (.float .f64 b)).run Try.prog W = .ok (.int .i64 n) W) ∧ (n = 0 ↔ ord b 0 = some .eq) := by
  obtain ⟨hs, h1, h2⟩ := h
  have h1 : (Ieee.double.read b).order (Ieee.double.read (truncD b)) = some .eq := h1
  have h2 : (Ieee.double.read (absB b)).order (Ieee.double.read 4845873199050653696) = some .lt := h2
  rw [read_big] at h2
  cases hd : Ieee.double.read b with
  | nan s t =>
    rw [hd] at h1
    simp [Ieee.Datum.order] at h1
  | infinity s =>
    rw [read_abs_inf b s hd] at h2
    simp [Ieee.Datum.order] at h2
  | number s m p =>
    rw [read_abs b s m p hd, order_num] at h2
    have hq := cut_small s m p (Option.some.inj h2)
    have hT : truncD b = Ieee.double.write (.number s (Ieee.Toward.cut .zero s (m <<< p.toNat) (-p).toNat) 0) := by
      unfold truncD
      rw [show FloatKind.f64.decode b = .number s m p from hd]
      rfl
    generalize hQ : Ieee.Toward.cut .zero s (m <<< p.toNat) (-p).toNat = q at *
    have hI : (FloatKind.f64.decode b).toInt .zero = some (Ieee.signed s q 0) := by
      rw [show FloatKind.f64.decode b = .number s m p from hd]
      simp only [Ieee.Datum.toInt, Ieee.Datum.integral, hQ]
    have hsg : Ieee.signed s q 0 = if s then -(q : Int) else (q : Int) := by
      unfold Ieee.signed
      simp
    refine ⟨Ieee.signed s q 0, fun W => ?_, ?_⟩
    · rw [conv_eq]
      unfold Conv.floatToInt
      rw [hI]
      simp only
      have hr : IntKind.i64.min ≤ Ieee.signed s q 0 ∧ Ieee.signed s q 0 ≤ IntKind.i64.max := by
        rw [hsg, show IntKind.i64.min = -9223372036854775808 by decide, show IntKind.i64.max = 9223372036854775807 by decide]
        split <;> omega
      rw [if_pos hr]
      rfl
    · rw [signed_zero]
      have h0 : ord b 0 = some (compare (Ieee.signed s m (p - min p (-1074)).toNat) (Ieee.signed false 0 (-1074 - min p (-1074)).toNat)) := by
        show (Ieee.double.read b).order (Ieee.double.read 0) = _
        rw [hd, read_zero, order_num]
      rw [h0, (signed_zero false 0 _).2 rfl]
      rw [show (some (compare (Ieee.signed s m (p - min p (-1074)).toNat) 0) = some Ordering.eq) ↔ Ieee.signed s m (p - min p (-1074)).toNat = 0 by simp, signed_zero]
      constructor
      · rintro rfl
        have hw : Ieee.double.write (.number s 0 0) = Ieee.double.word s 0 := by simp [Ieee.Format.write, Ieee.Format.nearest]
        rw [hT, hw, hd] at h1
        obtain ⟨s', p', hr⟩ := read_word0 s
        rw [hr, order_num, (signed_zero s' 0 _).2 rfl] at h1
        have h3 : Ieee.signed s m (p - min p p').toNat = 0 := by simpa using h1
        exact (signed_zero _ _ _).1 h3
      · rintro rfl
        rw [← hQ, cut_zero]
        simp
end Go.Proofs.Ytdibcinpjkahpaa.Num
