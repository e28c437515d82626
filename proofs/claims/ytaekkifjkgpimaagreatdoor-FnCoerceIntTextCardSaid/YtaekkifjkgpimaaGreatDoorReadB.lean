import Derived.Test.YtaekkifjkgpimaaGreatDoorRead
import Derived.WalkMore
import Derived.Scope
namespace Go.Proofs.YtaekkifjkgpimaaGreatDoor.Read
set_option linter.unusedVariables false
set_option linter.unusedSimpArgs false
open Go.RowKit Go.Proofs.YtaekkifjkgpimaaGreatDoorW.PrintWords Go.Proofs.YtaekkifjkgpimaaGreatDoor.Base

set_option maxRecDepth 100000 in
set_option maxHeartbeats 2000000 in
theorem read_minus (t : ByteArray) (n m : Nat) (h : Digs t 1 n m) (h45 : bt t (0 : Nat) = 45) (w : World) :
    Calls Tryz.prog 53 #[.string t] w fun e w' => e = .returned (.tuple #[.int .u64 m, .int .i64 0, .bool true, .bool false, .bool false, .int .i64 t.size, .bool true]) ∧ w' = w := by
  have hsz := h.size
  have hn := h.pos
  have hle := h.le
  have hbt0 : ∀ h : 0 < t.size, ((t[0]'h).toNat : Int) = 45 := fun h => (bt_nat t 0 h).trans h45
  have hbt : ∀ h : 1 < t.size, ((t[1]'h).toNat : Int) = bt t (1 : Nat) := fun h => bt_nat t 1 h
  have hsi1 : (1 : Int) < (t.size : Int) := by omega
  clear h45
  have hsi : (0 : Int) < (t.size : Int) := by omega
  obtain ⟨d0, hd0, hd1, hd9⟩ := h.head
  have HD := Aside0.mk h
  clear h
  have f48 : (bt t (1 : Nat) == 48) = false := beq_eq_false_iff_ne.2 (by omega)
  clear hd0
  generalize bt t (1 : Nat) = c0 at *
  go_enter Tryz.func53, Tryz.ntmps53
  go_wp2
  go_step3
  go_wp2_with fail
  all_goals
    go_step3
    go_wp2_with fail
    go_loopw [2, 5, 7, 9, 13, 14, 15, 16, 17] (fun v2 v5 v7 v9 v13 v14 v15 v16 v17 wr => ∃ i : Nat, v2 = .int .u64 (m / 10 ^ (n - i) : Nat) ∧ v5 = .bool false ∧ v7 = .int .i64 ((i : Int) + 1) ∧ v9 = .bool false ∧ v13 = .bool false ∧ v14 = .bool (decide (0 < i)) ∧ v15 = .int .i64 i ∧ v16 = .int .i64 i ∧ v17 = .int .i64 0 ∧ i ≤ n ∧ wr = w) (fun _ _ v7 _ _ _ _ _ _ _ => n + 1 - (intOf v7).toNat)
    case atStart =>
      refine ⟨0, ?_, rfl, rfl, rfl, rfl, rfl, rfl, rfl, rfl, by omega, rfl⟩
      rw [Nat.sub_zero, Nat.div_eq_of_lt HD.out.lt]; rfl
    case round =>
      obtain ⟨i, rfl, rfl, rfl, rfl, rfl, rfl, rfl, rfl, rfl, hi, rfl⟩ := hrel
      clear hbt hbt0 f48 hsi hsi1 hd1 hd9
      by_cases hlt : i < n
      · have hlti : (i : Int) + 1 < (t.size : Int) := by omega
        have hbi : ∀ h : i + 1 < t.size, ((t[i + 1]'h).toNat : Int) = bt t (i + 1 : Nat) := fun h => bt_nat t (i + 1) h
        have hd := HD.out.at_ i hlt
        have hstep := HD.out.step hlt
        have hzero : i = 0 → m / 10 ^ (n - 1 - i) % 10 ≠ 0 := by
          rintro rfl
          exact HD.out.lead
        have hml : m / 10 ^ (n - i) < 10 ^ i := HD.out.small hlt
        have hpw : (10 : Nat) ^ i ≤ 10 ^ 10 := Nat.pow_le_pow_right (by decide) (by omega)
        have hd9 : m / 10 ^ (n - 1 - i) % 10 ≤ 9 := by omega
        rw [Nat.add_comm] at hd
        have HS := Aside0.mk hstep
        clear hstep
        have g46 : (bt t (i + 1 : Nat) == 46) = false := beq_eq_false_iff_ne.2 (by omega)
        have g95 : (bt t (i + 1 : Nat) == 95) = false := beq_eq_false_iff_ne.2 (by omega)
        have g48 : (48 : Int) ≤ bt t (i + 1 : Nat) := by omega
        have g57 : bt t (i + 1 : Nat) ≤ 57 := by omega
        generalize m / 10 ^ (n - 1 - i) % 10 = d at *
        generalize m / 10 ^ (n - i) = q at *
        generalize bt t (i + 1 : Nat) = c at *
        by_cases hz : i = 0
        · subst hz
          have hdz := hzero rfl
          have g48' : (c == 48) = false := beq_eq_false_iff_ne.2 (by omega)
          go_wp2_with fail
          exact ⟨⟨0 + 1, by rw [← HS.out]; refine congrArg (Value.int IntKind.u64) ?_; push_cast; omega, rfl, by go_num, rfl, rfl, by simp, by go_num, by go_num, rfl, by omega, trivial⟩, by simp [intOf]; omega⟩
        · have hz' : ((i : Int) == 0) = false := beq_eq_false_iff_ne.2 (by omega)
          go_wp2_with fail
          all_goals exact ⟨⟨i + 1, by rw [← HS.out]; refine congrArg (Value.int IntKind.u64) ?_; push_cast; omega, rfl, by go_num, rfl, rfl, by simp, by go_num, by go_num, rfl, by omega, trivial⟩, by simp [intOf]; omega⟩
      · have hlti : (t.size : Int) ≤ (i : Int) + 1 := by omega
        obtain rfl : i = n := by omega
        rw [show i - i = 0 by omega, Nat.pow_zero, Nat.div_one]
        have hm0 : ((m : Int) == 0) = false := beq_eq_false_iff_ne.2 (by have := HD.out.pos_m; omega)
        have hm0' : m ≠ 0 := by have := HD.out.pos_m; omega
        have hi0 : decide (0 < i) = true := decide_eq_true (by omega)
        rw [hi0]
        go_wp2_with fail
        all_goals
          try rw [Exit.noGoto_ret]
          refine bodyPost_ret (v := .tuple #[.int .u64 m, .int .i64 0, .bool true, .bool false, .bool false, .int .i64 t.size, .bool true]) (by simp [results, Tryz.results53, go_sem, hsz]; try omega) rfl ⟨rfl, rfl⟩
end Go.Proofs.YtaekkifjkgpimaaGreatDoor.Read
