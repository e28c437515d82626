import Derived.Test.YtaekkifjkgpimaaGreatDoorBase
import Derived.WalkMore
import Derived.Scope
namespace Go.Proofs.YtaekkifjkgpimaaGreatDoor.Read
set_option linter.unusedVariables false
set_option linter.unusedSimpArgs false
open Go.RowKit Go.Proofs.YtaekkifjkgpimaaGreatDoorW.PrintWords Go.Proofs.YtaekkifjkgpimaaGreatDoor.Base

/-- A row of digits from a place to the end of the text: the decimal numeral of m. -/
structure Digs (t : ByteArray) (s0 n m : Nat) : Prop where
  size : t.size = s0 + n
  pos : 1 ≤ n
  le : n ≤ 10
  at_ : ∀ i, i < n → bt t (s0 + i : Nat) = 48 + ((m / 10 ^ (n - 1 - i) % 10 : Nat) : Int)
  lt : m < 10 ^ n
  first : 10 ^ (n - 1) ≤ m

theorem Digs.step {t : ByteArray} {s0 n m i : Nat} (h : Digs t s0 n m) (hi : i < n) : m / 10 ^ (n - i) * 10 + m / 10 ^ (n - 1 - i) % 10 = m / 10 ^ (n - (i + 1)) := by
  rw [show n - i = (n - 1 - i) + 1 by omega, show n - (i + 1) = n - 1 - i by omega, Nat.pow_succ, ← Nat.div_div_eq_div_mul]
  omega

theorem Digs.small {t : ByteArray} {s0 n m i : Nat} (h : Digs t s0 n m) (hi : i < n) : m / 10 ^ (n - i) < 10 ^ i := by
  have h1 := h.lt
  rw [Nat.div_lt_iff_lt_mul (Nat.pow_pos (by decide)), ← Nat.pow_add, show i + (n - i) = n by omega]
  exact h1
theorem Digs.pos_m {t : ByteArray} {s0 n m : Nat} (h : Digs t s0 n m) : 0 < m := Nat.lt_of_lt_of_le (Nat.pow_pos (by decide)) h.first
theorem Digs.lead {t : ByteArray} {s0 n m : Nat} (h : Digs t s0 n m) : m / 10 ^ (n - 1 - 0) % 10 ≠ 0 := by
  have h1 := h.lt
  have h2 := h.first
  have h3 := h.pos
  obtain ⟨k, rfl⟩ : ∃ k, n = k + 1 := ⟨n - 1, by omega⟩
  rw [show k + 1 - 1 - 0 = k by omega]
  rw [show k + 1 - 1 = k by omega] at h2
  have h4 : 1 ≤ m / 10 ^ k := (Nat.le_div_iff_mul_le (Nat.pow_pos (by decide))).2 (by omega)
  have h5 : m / 10 ^ k < 10 := (Nat.div_lt_iff_lt_mul (Nat.pow_pos (by decide))).2 (by rw [Nat.pow_succ] at h1; omega)
  omega
theorem Digs.head {t : ByteArray} {s0 n m : Nat} (h : Digs t s0 n m) : ∃ d : Nat, bt t (s0 : Nat) = 48 + (d : Int) ∧ 1 ≤ d ∧ d ≤ 9 := by
  refine ⟨_, h.at_ 0 h.pos, ?_, by omega⟩
  have h1 := h.lt
  have h2 := h.first
  have h3 := h.pos
  obtain ⟨k, rfl⟩ : ∃ k, n = k + 1 := ⟨n - 1, by omega⟩
  rw [show k + 1 - 1 - 0 = k by omega]
  rw [show k + 1 - 1 = k by omega] at h2
  have h4 : 1 ≤ m / 10 ^ k := (Nat.le_div_iff_mul_le (Nat.pow_pos (by decide))).2 (by omega)
  have h5 : m / 10 ^ k < 10 := (Nat.div_lt_iff_lt_mul (Nat.pow_pos (by decide))).2 (by rw [Nat.pow_succ] at h1; omega)
  omega

set_option maxRecDepth 100000 in
set_option maxHeartbeats 2000000 in
theorem read_plus (t : ByteArray) (n m : Nat) (h : Digs t 0 n m) (w : World) :
    Calls Tryz.prog 53 #[.string t] w fun e w' => e = .returned (.tuple #[.int .u64 m, .int .i64 0, .bool false, .bool false, .bool false, .int .i64 t.size, .bool true]) ∧ w' = w := by
  have hsz := h.size
  have hn := h.pos
  have hle := h.le
  have hbt : ∀ h : 0 < t.size, ((t[0]'h).toNat : Int) = bt t (0 : Nat) := fun h => bt_nat t 0 h
  have hsi : (0 : Int) < (t.size : Int) := by omega
  obtain ⟨d0, hd0, hd1, hd9⟩ := h.head
  have HD := Aside0.mk h
  clear h
  have f43 : (bt t (0 : Nat) == 43) = false := beq_eq_false_iff_ne.2 (by omega)
  have f45 : (bt t (0 : Nat) == 45) = false := beq_eq_false_iff_ne.2 (by omega)
  have f48 : (bt t (0 : Nat) == 48) = false := beq_eq_false_iff_ne.2 (by omega)
  clear hd0
  generalize bt t (0 : Nat) = c0 at *
  go_enter Tryz.func53, Tryz.ntmps53
  go_wp2
  go_step3
  go_wp2_with fail
  all_goals
    go_step3
    go_wp2_with fail
    go_loopw [2, 5, 7, 9, 13, 14, 15, 16, 17] (fun v2 v5 v7 v9 v13 v14 v15 v16 v17 wr => ∃ i : Nat, v2 = .int .u64 (m / 10 ^ (n - i) : Nat) ∧ v5 = .bool false ∧ v7 = .int .i64 i ∧ v9 = .bool false ∧ v13 = .bool false ∧ v14 = .bool (decide (0 < i)) ∧ v15 = .int .i64 i ∧ v16 = .int .i64 i ∧ v17 = .int .i64 0 ∧ i ≤ n ∧ wr = w) (fun _ _ v7 _ _ _ _ _ _ _ => n - (intOf v7).toNat)
    case atStart =>
      refine ⟨0, ?_, rfl, rfl, rfl, rfl, rfl, rfl, rfl, rfl, by omega, rfl⟩
      rw [Nat.sub_zero, Nat.div_eq_of_lt HD.out.lt]; rfl
    case round =>
      obtain ⟨i, rfl, rfl, rfl, rfl, rfl, rfl, rfl, rfl, rfl, hi, rfl⟩ := hrel
      clear hbt f43 f45 f48 hsi hd1 hd9
      by_cases hlt : i < n
      · have hlti : (i : Int) < (t.size : Int) := by omega
        have hbi : ∀ h : i < t.size, ((t[i]'h).toNat : Int) = bt t i := fun h => bt_nat t i h
        have hd := HD.out.at_ i hlt
        have hstep := HD.out.step hlt
        have hzero : i = 0 → m / 10 ^ (n - 1 - i) % 10 ≠ 0 := by
          rintro rfl
          exact HD.out.lead
        have hml : m / 10 ^ (n - i) < 10 ^ i := HD.out.small hlt
        have hpw : (10 : Nat) ^ i ≤ 10 ^ 10 := Nat.pow_le_pow_right (by decide) (by omega)
        have hd9 : m / 10 ^ (n - 1 - i) % 10 ≤ 9 := by omega
        rw [Nat.zero_add] at hd
        have HS := Aside0.mk hstep
        clear hstep
        have g46 : (bt t i == 46) = false := beq_eq_false_iff_ne.2 (by omega)
        have g95 : (bt t i == 95) = false := beq_eq_false_iff_ne.2 (by omega)
        have g48 : (48 : Int) ≤ bt t i := by omega
        have g57 : bt t i ≤ 57 := by omega
        generalize m / 10 ^ (n - 1 - i) % 10 = d at *
        generalize m / 10 ^ (n - i) = q at *
        generalize bt t i = c at *
        by_cases hz : i = 0
        · subst hz
          have hdz := hzero rfl
          have g48' : (c == 48) = false := beq_eq_false_iff_ne.2 (by omega)
          go_wp2_with fail
          exact ⟨⟨0 + 1, by rw [← HS.out]; refine congrArg (Value.int IntKind.u64) ?_; push_cast; omega, rfl, by go_num, rfl, rfl, by simp, by go_num, by go_num, rfl, by omega, trivial⟩, by simp [intOf]; omega⟩
        · have hz' : ((i : Int) == 0) = false := beq_eq_false_iff_ne.2 (by omega)
          go_wp2_with fail
          all_goals exact ⟨⟨i + 1, by rw [← HS.out]; refine congrArg (Value.int IntKind.u64) ?_; push_cast; omega, rfl, by go_num, rfl, rfl, by simp, by go_num, by go_num, rfl, by omega, trivial⟩, by simp [intOf]; omega⟩
      · have hlti : (t.size : Int) ≤ (i : Int) := by omega
        obtain rfl : i = n := by omega
        rw [show i - i = 0 by omega, Nat.pow_zero, Nat.div_one]
        have hm0 : ((m : Int) == 0) = false := beq_eq_false_iff_ne.2 (by have := HD.out.pos_m; omega)
        have hm0' : m ≠ 0 := by have := HD.out.pos_m; omega
        have hi0 : decide (0 < i) = true := decide_eq_true (by omega)
        rw [hi0]
        go_wp2_with fail
        all_goals
          rw [Exit.noGoto_ret]
          refine bodyPost_ret (v := .tuple #[.int .u64 m, .int .i64 0, .bool false, .bool false, .bool false, .int .i64 t.size, .bool true]) (by simp [results, Tryz.results53, go_sem, hsz]) rfl ⟨rfl, rfl⟩
end Go.Proofs.YtaekkifjkgpimaaGreatDoor.Read
