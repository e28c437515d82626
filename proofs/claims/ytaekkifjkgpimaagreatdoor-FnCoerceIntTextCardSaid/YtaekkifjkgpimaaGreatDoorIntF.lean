import GoSem.Core.Float
namespace Go.Proofs.YtaekkifjkgpimaaGreatDoor.IntF
set_option linter.unusedVariables false
set_option linter.unusedSimpArgs false

theorem dbl : FloatKind.f64.format = Ieee.double := rfl
theorem binade_eq : Ieee.double.binade = 4503599627370496 := by decide
theorem sw_eq : Ieee.double.signWeight = 9223372036854775808 := by decide
theorem inf_eq : Ieee.double.infRung = 9218868437227405312 := by decide +kernel
theorem least_eq : Ieee.double.leastPlace = -1074 := by decide +kernel


set_option maxRecDepth 20000 in
theorem read_near (s : Bool) (m : Nat) (h0 : 0 < m) (h1 : m < 4503599627370496) :
    Ieee.double.read (Ieee.double.nearest s m 0) = .number s (m * 2 ^ (52 - m.log2)) ((m.log2 : Int) - 52) := by
  have hL : m.log2 < 52 := (Nat.log2_lt (by omega)).2 h1
  have hlo : 2 ^ m.log2 ≤ m := Nat.log2_self_le (by omega)
  have hhi : m < 2 ^ (m.log2 + 1) := Nat.lt_log2_self
  generalize hLL : m.log2 = L at *
  have hk1 : 4503599627370496 ≤ m * 2 ^ (52 - L) := by
    have : 2 ^ L * 2 ^ (52 - L) ≤ m * 2 ^ (52 - L) := Nat.mul_le_mul_right _ hlo
    rw [← Nat.pow_add, show L + (52 - L) = 52 by omega] at this
    exact this
  have hk2 : m * 2 ^ (52 - L) < 9007199254740992 := by
    have : m * 2 ^ (52 - L) < 2 ^ (L + 1) * 2 ^ (52 - L) := Nat.mul_lt_mul_of_pos_right hhi (Nat.two_pow_pos _)
    rw [← Nat.pow_add, show L + 1 + (52 - L) = 53 by omega] at this
    exact this
  have hlast : max ((0 : Int) + (L : Nat) - 52) (-1074) = (L : Int) - 52 := by omega
  have hcut : Ieee.Toward.even.cut s (m * 2 ^ (52 - L)) 0 = m * 2 ^ (52 - L) := by
    simp [Ieee.Toward.cut]
    omega
  generalize hK : m * 2 ^ (52 - L) = K at *
  have hr : Ieee.double.nearest s m 0 = Ieee.double.word s ((L + 1022) * 4503599627370496 + K) := by
    unfold Ieee.Format.nearest
    rw [if_neg (by omega)]
    simp only [least_eq, binade_eq, inf_eq, hLL, show Ieee.double.fractionBits = 52 from rfl]
    rw [show max ((0 : Int) + (L : Int) - (52 : Nat)) (-1074) = (L : Int) - 52 by omega]
    rw [show ((0 : Int) - ((L : Int) - 52)).toNat = 52 - L by omega, show ((L : Int) - 52 - 0).toNat = 0 by omega, Nat.shiftLeft_eq, hK, hcut]
    rw [show ((L : Int) - 52 - -1074).toNat = L + 1022 by omega]
    rw [Nat.min_eq_left (by omega)]
  rw [hr]
  generalize hR : (L + 1022) * 4503599627370496 + K = R
  have hRlt : R < 9223372036854775808 := by omega
  have hdiv : R / 4503599627370496 = L + 1023 := by omega
  have hmod : R % 4503599627370496 = K - 4503599627370496 := by omega
  unfold Ieee.Format.read Ieee.Format.word
  rw [sw_eq, binade_eq, inf_eq, least_eq]
  cases s
  · simp only [Bool.false_eq_true, if_false]
    rw [Nat.mod_eq_of_lt hRlt, Nat.div_eq_of_lt hRlt, if_neg (by omega), if_pos (by omega), hdiv, hmod]
    rw [show 4503599627370496 + (K - 4503599627370496) = K by omega]
    refine congrArg (Ieee.Datum.number false K) ?_
    omega
  · simp only [if_true]
    rw [show (9223372036854775808 + R) % 9223372036854775808 = R by omega, show (9223372036854775808 + R) / 9223372036854775808 = 1 by omega, if_neg (by omega), if_pos (by omega), hdiv, hmod]
    rw [show 4503599627370496 + (K - 4503599627370496) = K by omega]
    refine congrArg (Ieee.Datum.number true K) ?_
    omega

theorem xor_top (R : Nat) (h : R < 9223372036854775808) : R ^^^ 9223372036854775808 = 9223372036854775808 + R := by
  rw [show (9223372036854775808 : Nat) = 2 ^ 63 by decide] at *
  apply Nat.eq_of_testBit_eq
  intro i
  rw [Nat.testBit_xor]
  rcases Nat.lt_trichotomy i 63 with hi | rfl | hi
  · rw [Nat.testBit_two_pow_add_gt hi, Nat.testBit_two_pow_of_ne (by omega)]; simp
  · rw [Nat.testBit_two_pow_add_eq, Nat.testBit_two_pow_self, Nat.testBit_lt_two_pow h]; rfl
  · rw [Nat.testBit_two_pow_of_ne (by omega), Nat.testBit_lt_two_pow (Nat.lt_of_lt_of_le h (Nat.pow_le_pow_right (by decide) (by omega))), Nat.testBit_lt_two_pow]
    · rfl
    · have : (2 : Nat) ^ 64 ≤ 2 ^ i := Nat.pow_le_pow_right (by decide) (by omega)
      have h2 : (2 : Nat) ^ 64 = 2 ^ 63 + 2 ^ 63 := by decide
      omega

theorem cut_sign (n d : Nat) : Ieee.Toward.even.cut true n d = Ieee.Toward.even.cut false n d := by
  simp [Ieee.Toward.cut]
theorem near_both (m : Nat) (h0 : 0 < m) : ∃ R, R < 9223372036854775808 ∧ ∀ s, Ieee.double.nearest s m 0 = Ieee.double.word s R := by
  have h : ∃ R, ∀ s, Ieee.double.nearest s m 0 = Ieee.double.word s (min R Ieee.double.infRung) := by
    refine ⟨?_, fun s => ?_⟩
    rotate_left
    · unfold Ieee.Format.nearest
      rw [if_neg (by omega)]
      have hc : ∀ n d, Ieee.Toward.even.cut s n d = Ieee.Toward.even.cut false n d := by
        cases s
        · intro n d; rfl
        · exact cut_sign
      simp only [hc]
      rfl
  obtain ⟨R, h⟩ := h
  exact ⟨_, by rw [inf_eq]; omega, h⟩
theorem neg_near (m : Nat) (h0 : 0 < m) : Ieee.double.nearest false m 0 ^^^ 9223372036854775808 = Ieee.double.nearest true m 0 := by
  obtain ⟨R, hR, h⟩ := near_both m h0
  rw [h, h]
  unfold Ieee.Format.word
  rw [if_neg (by decide), if_pos rfl, sw_eq]
  exact xor_top R hR

/-- The number as it is read: a whole number of some place that is not above 0. -/
theorem read_nearest (n : Int) (h1 : n.natAbs < 4503599627370496) :
    ∃ (s : Bool) (m d : Nat), Ieee.double.read (FloatKind.f64.nearest n) = .number s m (-(d : Int)) ∧ (if s then -(m : Int) else (m : Int)) = n * 2 ^ d ∧ m = n.natAbs * 2 ^ d := by
  have hN : FloatKind.f64.nearest n = Ieee.double.nearest (decide (n < 0)) n.natAbs 0 := rfl
  rw [hN]
  by_cases hz : n = 0
  · subst hz
    obtain ⟨d, hd⟩ : ∃ d : Nat, d = 1074 := ⟨_, rfl⟩
    refine ⟨false, 0, d, by rw [hd]; decide +kernel, (Int.zero_mul _).symm, (Nat.zero_mul _).symm⟩
  · rw [read_near _ _ (by omega) h1]
    have hL : n.natAbs.log2 < 52 := (Nat.log2_lt (by omega)).2 h1
    refine ⟨decide (n < 0), n.natAbs * 2 ^ (52 - n.natAbs.log2), 52 - n.natAbs.log2, ?_, ?_, rfl⟩
    · refine congrArg (Ieee.Datum.number _ _) ?_
      omega
    · by_cases hn : n < 0
      · rw [if_pos (decide_eq_true hn)]
        push_cast
        rw [← Int.neg_mul]
        congr 1
        omega
      · rw [if_neg (by simp [hn])]
        push_cast
        congr 1
        omega

theorem signed_eq (s : Bool) (m d : Nat) (n : Int) (k : Nat) (h : (if s then -(m : Int) else m) = n * 2 ^ d) : Ieee.signed s m k = n * 2 ^ (d + k) := by
  unfold Ieee.signed
  rw [Nat.shiftLeft_eq, Int.pow_add, ← Int.mul_assoc, ← h]
  cases s
  · simp
  · simp [Int.neg_mul]

theorem compare_scale (a b : Int) (k : Nat) : compare (a * 2 ^ k) (b * 2 ^ k) = compare a b := by
  have hp : (0 : Int) < 2 ^ k := Int.pow_pos (by decide)
  have h1 : a * 2 ^ k < b * 2 ^ k ↔ a < b := ⟨fun h => Int.lt_of_mul_lt_mul_right h (by omega), fun h => Int.mul_lt_mul_of_pos_right h hp⟩
  have h2 : a * 2 ^ k = b * 2 ^ k ↔ a = b := ⟨fun h => Int.eq_of_mul_eq_mul_right (by omega) h, fun h => by rw [h]⟩
  simp only [compare, compareOfLessAndEq, h1, h2]

theorem order_near (a b : Int) (ha : a.natAbs < 4503599627370496) (hb : b.natAbs < 4503599627370496) :
    (FloatKind.f64.decode (FloatKind.f64.nearest a)).order (FloatKind.f64.decode (FloatKind.f64.nearest b)) = some (compare a b) := by
  obtain ⟨s, m, d, h1, h2, -⟩ := read_nearest a ha
  obtain ⟨t, n, e, h3, h4, -⟩ := read_nearest b hb
  show (Ieee.double.read _).order (Ieee.double.read _) = _
  rw [h1, h3]
  show some (compare (Ieee.signed s m _) (Ieee.signed t n _)) = _
  rw [signed_eq s m d a _ h2, signed_eq t n e b _ h4]
  rw [show d + (-(d : Int) - min (-(d : Int)) (-(e : Int))).toNat = e + (-(e : Int) - min (-(d : Int)) (-(e : Int))).toNat by omega, compare_scale]

theorem toInt_near (a : Int) (ha : a.natAbs < 4503599627370496) : (FloatKind.f64.decode (FloatKind.f64.nearest a)).toInt .zero = some a := by
  obtain ⟨s, m, d, h1, h2, h3⟩ := read_nearest a ha
  show (Ieee.double.read _).toInt .zero = _
  rw [h1]
  show some (Ieee.signed s (Ieee.Toward.cut .zero s (m <<< (-(d : Int)).toNat) (- -(d : Int)).toNat) 0) = _
  rw [show (-(d : Int)).toNat = 0 by omega, show (- -(d : Int)).toNat = d by omega, Nat.shiftLeft_eq, Nat.pow_zero, Nat.mul_one]
  have hc : Ieee.Toward.cut .zero s m d = a.natAbs := by
    unfold Ieee.Toward.cut
    simp only [Bool.toNat_false, Nat.add_zero, Nat.shiftLeft_eq, Nat.one_mul]
    by_cases hz : a = 0
    · subst hz
      have : m = 0 := by rw [h3]; simp
      subst this
      simp
    · have hm : 2 ^ d ≤ m := by
        rw [h3]; exact Nat.le_mul_of_pos_left _ (by omega)
      have hm0 : m ≠ 0 := by have := Nat.two_pow_pos d; omega
      have hd : d ≤ m.log2 := (Nat.le_log2 hm0).2 hm
      rw [Nat.min_eq_left (by omega), h3, Nat.mul_div_cancel _ (Nat.two_pow_pos d)]
  rw [hc]
  unfold Ieee.signed
  rw [Nat.shiftLeft_eq, Nat.pow_zero, Nat.mul_one]
  have hp : (0 : Int) < 2 ^ d := Int.pow_pos (by decide)
  have h5 : (if s then -(m : Int) else m) = a * 2 ^ d := h2
  have hmn : 0 ≤ (m : Int) := by omega
  cases s
  · simp only [Bool.false_eq_true, if_false] at h5 ⊢
    have : 0 ≤ a := by
      by_cases hn : a < 0
      · have := Int.mul_neg_of_neg_of_pos hn hp
        omega
      · omega
    congr 1; omega
  · simp only [if_true] at h5 ⊢
    have : a ≤ 0 := by
      by_cases hn : 0 < a
      · have := Int.mul_pos hn hp
        omega
      · omega
    congr 1; omega
end Go.Proofs.YtaekkifjkgpimaaGreatDoor.IntF
