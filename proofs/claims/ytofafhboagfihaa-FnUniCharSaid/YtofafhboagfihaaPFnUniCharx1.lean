-- PRINTED BY print.sh 35421559b90ae4d0a3588c463048766b98c2df88dd9212a6774a882060cdf62d: not written by this session
import Derived.Test.YtofafhboagfihaaPFnUniCharx0
namespace Go.Proofs.Ytofafhboagfihaa.PFnUniChar
open Go.RowKit Go.Proofs.YtofafhboagfihaaW.PrintWords Go.Proofs.YtofafhboagfihaaW.PrintLast Go.Proofs.YtofafhboagfihaaW.PrintMore
attribute [local go_sem] max2_int min2_int max_two min_two max_three min_three max_four min_four   -- for this text's walks alone
set_option linter.unusedVariables false
set_option linter.unusedSimpArgs false

/-! ### spec_hexadecimal: function 17 -/
mutual
def spec_hexadecimal.j0 : Nat → Int → Bool → Option (Int)
  | 0, _, _ => none
  | k + 1, x0, x3 => if x3 = true then (some ((x0 - 48) % 256)) else (if x0 ≥ 97 then (spec_hexadecimal.j1 k x0 (decide (x0 ≤ 102))) else (spec_hexadecimal.j1 k x0 false))
def spec_hexadecimal.j1 : Nat → Int → Bool → Option (Int)
  | 0, _, _ => none
  | k + 1, x0, x13 => if x13 = true then (some (((x0 - 97) % 256) + 10)) else (if x0 ≥ 65 then (if x0 ≤ 70 then (some (((x0 - 65) % 256) + 10)) else (some (-1))) else (some (-1)))
end
def spec_hexadecimal.f (k : Nat) (a0 : Int) : Option (Int) := if a0 ≥ 48 then (spec_hexadecimal.j0 k a0 (decide (a0 ≤ 57))) else (spec_hexadecimal.j0 k a0 false)
theorem spec_hexadecimal.mono_l : ∀ k, (∀ y0 y1, LeO (spec_hexadecimal.j0 k y0 y1) (spec_hexadecimal.j0 (k + 1) y0 y1)) ∧ (∀ y0 y1, LeO (spec_hexadecimal.j1 k y0 y1) (spec_hexadecimal.j1 (k + 1) y0 y1))
  | 0 => ⟨fun _ _ r h => by simp [spec_hexadecimal.j0] at h, fun _ _ r h => by simp [spec_hexadecimal.j1] at h⟩
  | k + 1 => by
    obtain ⟨ih0, ih1⟩ := spec_hexadecimal.mono_l k
    refine ⟨?_, ?_⟩
    · intro y0 y1
      unfold spec_hexadecimal.j0
      repeat' first
      | (with_reducible exact ih0 _ _)
      | (with_reducible exact ih1 _ _)
      | (with_reducible exact LeO.refl _)
      | (with_reducible exact LeO.none _)
      | (with_reducible refine LeO.ite ?_ ?_)
      | (with_reducible refine LeO.bind ?_ (fun _ => ?_))
      | exact ih0 _ _
      | exact ih1 _ _
      | exact LeO.none _
      | refine LeO.ite ?_ ?_
      | refine LeO.bind ?_ (fun _ => ?_)
    · intro y0 y1
      unfold spec_hexadecimal.j1
      repeat' first
      | (with_reducible exact ih0 _ _)
      | (with_reducible exact ih1 _ _)
      | (with_reducible exact LeO.refl _)
      | (with_reducible exact LeO.none _)
      | (with_reducible refine LeO.ite ?_ ?_)
      | (with_reducible refine LeO.bind ?_ (fun _ => ?_))
      | exact ih0 _ _
      | exact ih1 _ _
      | exact LeO.none _
      | refine LeO.ite ?_ ?_
      | refine LeO.bind ?_ (fun _ => ?_)
theorem spec_hexadecimal.mono : ∀ a0 k, LeO (spec_hexadecimal.f k a0) (spec_hexadecimal.f (k + 1) a0) := by
  intro a0 k
  obtain ⟨ih0, ih1⟩ := spec_hexadecimal.mono_l k
  unfold spec_hexadecimal.f
  repeat' first
      | (with_reducible exact ih0 _ _)
      | (with_reducible exact ih1 _ _)
      | (with_reducible exact LeO.refl _)
      | (with_reducible exact LeO.none _)
      | (with_reducible refine LeO.ite ?_ ?_)
      | (with_reducible refine LeO.bind ?_ (fun _ => ?_))
      | exact ih0 _ _
      | exact ih1 _ _
      | exact LeO.none _
      | refine LeO.ite ?_ ?_
      | refine LeO.bind ?_ (fun _ => ?_)
set_option maxHeartbeats 8000000 in
set_option maxRecDepth 100000 in
theorem spec_hexadecimal.calls (k : Nat) (a0 : Int) (r : Int) (w : World) (h : spec_hexadecimal.f k a0 = some r) :
    Calls Try.prog 17 #[.int .u8 a0] w fun e w' => e = .returned (.int .i64 r) ∧ Drawn0 w w' := by
  have H : (if a0 ≥ 48 then (spec_hexadecimal.j0 k a0 (decide (a0 ≤ 57))) else (spec_hexadecimal.j0 k a0 false)) = some r := h
  clear h
  have HC2 := Aside0.mk H
  clear H
  go_enter Try.func17, Try.ntmps17
  go_upto_region 1 with (fail)
  go_cut [3] (fun v3 wc => ∃ (kq : Nat) (x3_1 : Bool), v3 = .bool x3_1 ∧ Aside0 (spec_hexadecimal.j0 kq a0 x3_1 = some r) ∧ Aside0 (kq ≤ k) ∧ Drawn0 w wc)
  case first =>
    have H := HC2.out
    clear HC2
    by_cases c3 : a0 ≥ 48
    · rw [if_pos c3] at H
      have c3b0 : decide (48 ≤ a0) = true := decide_eq_true c3
      clear c3
      (first | rw [c3b0] | (simp only [i64_w, i32_w]; rw [c3b0]) | skip)
      have H' := Aside0.mk H
      clear H
      go_wp2
      go_meet
      case rel => exact ⟨_, (decide (a0 ≤ 57)), (by first | rfl | (simp; done) | (simp [*]; done)), H', ⟨by first | omega | exact Nat.le_refl _⟩, by repeat (first | exact Drawn0.refl _ | apply Drawn0.step)⟩
    · rw [if_neg c3] at H
      have c3b0 : decide (48 ≤ a0) = false := decide_eq_false c3
      clear c3
      (first | rw [c3b0] | (simp only [i64_w, i32_w]; rw [c3b0]) | skip)
      have H' := Aside0.mk H
      clear H
      go_wp2
      go_meet
      case rel => exact ⟨_, (false), (by first | rfl | (simp; done) | (simp [*]; done)), H', ⟨by first | omega | exact Nat.le_refl _⟩, by repeat (first | exact Drawn0.refl _ | apply Drawn0.step)⟩
  case rest =>
    clear HC2
    try clear c1
    try clear p2
    try clear c3
    try clear c3b0
    obtain ⟨kq, x3_1, rfl, HA, HJ1, ⟨mc1, rfl⟩⟩ := hcut
    cases kq with
    | zero => exact absurd HA.out (by simp [spec_hexadecimal.j0])
    | succ kj1 =>
      have H := HA.out
      clear HA
      simp only [spec_hexadecimal.j0] at H
      by_cases c4 : x3_1 = true
      · subst c4
        have H1 : (some ((a0 - 48) % 256)) = some r := by rw [if_pos rfl] at H; exact H
        clear H
        have H := H1
        clear H1
        obtain rfl := Option.some.inj H
        go_wp2
        go_ret
        exact ⟨by first | rfl | (simp; done) | (simp [*]; done), by repeat (first | exact Drawn0.refl _ | apply Drawn0.step)⟩
      · replace c4 := Bool.eq_false_iff.mpr c4
        subst c4
        have H1 : (if a0 ≥ 97 then (spec_hexadecimal.j1 kj1 a0 (decide (a0 ≤ 102))) else (spec_hexadecimal.j1 kj1 a0 false)) = some r := by rw [if_neg (show ¬ (false = true) by decide)] at H; exact H
        clear H
        have H := H1
        clear H1
        have HC5 := Aside0.mk H
        clear H
        go_upto_region 3 with (fail)
        go_cut [13] (fun v13 wc => ∃ (kq : Nat) (x13_4 : Bool), v13 = .bool x13_4 ∧ Aside0 (spec_hexadecimal.j1 kq a0 x13_4 = some r) ∧ Aside0 (kq ≤ kj1) ∧ Drawn0 w wc)
        case first =>
          have H := HC5.out
          clear HC5
          by_cases c6 : a0 ≥ 97
          · rw [if_pos c6] at H
            have c6b0 : decide (97 ≤ a0) = true := decide_eq_true c6
            clear c6
            (first | rw [c6b0] | (simp only [i64_w, i32_w]; rw [c6b0]) | skip)
            have H' := Aside0.mk H
            clear H
            go_wp2
            go_meet
            case rel => exact ⟨_, (decide (a0 ≤ 102)), (by first | rfl | (simp; done) | (simp [*]; done)), H', ⟨by have := HJ1.out; first | omega | exact Nat.le_refl _⟩, by repeat (first | exact Drawn0.refl _ | apply Drawn0.step)⟩
          · rw [if_neg c6] at H
            have c6b0 : decide (97 ≤ a0) = false := decide_eq_false c6
            clear c6
            (first | rw [c6b0] | (simp only [i64_w, i32_w]; rw [c6b0]) | skip)
            have H' := Aside0.mk H
            clear H
            go_wp2
            go_meet
            case rel => exact ⟨_, (false), (by first | rfl | (simp; done) | (simp [*]; done)), H', ⟨by have := HJ1.out; first | omega | exact Nat.le_refl _⟩, by repeat (first | exact Drawn0.refl _ | apply Drawn0.step)⟩
        case rest =>
          clear HC5
          try clear c1
          try clear p2
          try clear c3
          try clear c3b0
          try clear c4
          try clear c6
          try clear c6b0
          try clear p2
          obtain ⟨kq, x13_4, rfl, HA, HJ4, ⟨mc4, rfl⟩⟩ := hcut
          cases kq with
          | zero => exact absurd HA.out (by simp [spec_hexadecimal.j1])
          | succ kj4 =>
            have H := HA.out
            clear HA
            simp only [spec_hexadecimal.j1] at H
            by_cases c7 : x13_4 = true
            · subst c7
              have H1 : (some (((a0 - 97) % 256) + 10)) = some r := by rw [if_pos rfl] at H; exact H
              clear H
              have H := H1
              clear H1
              obtain rfl := Option.some.inj H
              go_wp2
              go_ret
              exact ⟨by first | rfl | (simp; done) | (simp [*]; done), by repeat (first | exact Drawn0.refl _ | apply Drawn0.step)⟩
            · replace c7 := Bool.eq_false_iff.mpr c7
              subst c7
              have H1 : (if a0 ≥ 65 then (if a0 ≤ 70 then (some (((a0 - 65) % 256) + 10)) else (some (-1))) else (some (-1))) = some r := by rw [if_neg (show ¬ (false = true) by decide)] at H; exact H
              clear H
              have H := H1
              clear H1
              by_cases c8 : a0 ≥ 65
              · rw [if_pos c8] at H
                have c8b0 : decide (65 ≤ a0) = true := decide_eq_true c8
                clear c8
                by_cases c9 : a0 ≤ 70
                · rw [if_pos c9] at H
                  have c9b0 : decide (a0 ≤ 70) = true := decide_eq_true c9
                  clear c9
                  obtain rfl := Option.some.inj H
                  go_wp2
                  go_ret
                  exact ⟨by first | rfl | (simp; done) | (simp [*]; done), by repeat (first | exact Drawn0.refl _ | apply Drawn0.step)⟩
                · rw [if_neg c9] at H
                  have c9b0 : decide (a0 ≤ 70) = false := decide_eq_false c9
                  clear c9
                  obtain rfl := Option.some.inj H
                  go_wp2
                  go_ret
                  exact ⟨by first | rfl | (simp; done) | (simp [*]; done), by repeat (first | exact Drawn0.refl _ | apply Drawn0.step)⟩
              · rw [if_neg c8] at H
                have c8b0 : decide (65 ≤ a0) = false := decide_eq_false c8
                clear c8
                obtain rfl := Option.some.inj H
                go_wp2
                go_ret
                exact ⟨by first | rfl | (simp; done) | (simp [*]; done), by repeat (first | exact Drawn0.refl _ | apply Drawn0.step)⟩

-- NOT PRINTED: function 8 (spec_UniChar)

/-! ### lexer_char2hex: function 39 -/
mutual
def lexer_char2hex.j0 : Nat → Int → Bool → Option (Int)
  | 0, _, _ => none
  | k + 1, x0, x8 => if x8 = true then (some (wrap64 ((wrap64 (x0)) - 48))) else (if x0 ≥ 65 then (lexer_char2hex.j1 k x0 (decide (x0 ≤ 70))) else (lexer_char2hex.j1 k x0 false))
def lexer_char2hex.j1 : Nat → Int → Bool → Option (Int)
  | 0, _, _ => none
  | k + 1, x0, x17 => if x17 = true then (some (wrap64 ((wrap64 (x0)) - 55))) else (if x0 ≥ 97 then (if x0 ≤ 102 then (some (wrap64 ((wrap64 (x0)) - 87))) else (some (-1))) else (some (-1)))
end
def lexer_char2hex.f (k : Nat) (a0 : Int) : Option (Int) := if a0 ≥ 48 then (lexer_char2hex.j0 k a0 (decide (a0 ≤ 57))) else (lexer_char2hex.j0 k a0 false)
theorem lexer_char2hex.mono_l : ∀ k, (∀ y0 y1, LeO (lexer_char2hex.j0 k y0 y1) (lexer_char2hex.j0 (k + 1) y0 y1)) ∧ (∀ y0 y1, LeO (lexer_char2hex.j1 k y0 y1) (lexer_char2hex.j1 (k + 1) y0 y1))
  | 0 => ⟨fun _ _ r h => by simp [lexer_char2hex.j0] at h, fun _ _ r h => by simp [lexer_char2hex.j1] at h⟩
  | k + 1 => by
    obtain ⟨ih0, ih1⟩ := lexer_char2hex.mono_l k
    refine ⟨?_, ?_⟩
    · intro y0 y1
      unfold lexer_char2hex.j0
      repeat' first
      | (with_reducible exact ih0 _ _)
      | (with_reducible exact ih1 _ _)
      | (with_reducible exact LeO.refl _)
      | (with_reducible exact LeO.none _)
      | (with_reducible refine LeO.ite ?_ ?_)
      | (with_reducible refine LeO.bind ?_ (fun _ => ?_))
      | exact ih0 _ _
      | exact ih1 _ _
      | exact LeO.none _
      | refine LeO.ite ?_ ?_
      | refine LeO.bind ?_ (fun _ => ?_)
    · intro y0 y1
      unfold lexer_char2hex.j1
      repeat' first
      | (with_reducible exact ih0 _ _)
      | (with_reducible exact ih1 _ _)
      | (with_reducible exact LeO.refl _)
      | (with_reducible exact LeO.none _)
      | (with_reducible refine LeO.ite ?_ ?_)
      | (with_reducible refine LeO.bind ?_ (fun _ => ?_))
      | exact ih0 _ _
      | exact ih1 _ _
      | exact LeO.none _
      | refine LeO.ite ?_ ?_
      | refine LeO.bind ?_ (fun _ => ?_)
theorem lexer_char2hex.mono : ∀ a0 k, LeO (lexer_char2hex.f k a0) (lexer_char2hex.f (k + 1) a0) := by
  intro a0 k
  obtain ⟨ih0, ih1⟩ := lexer_char2hex.mono_l k
  unfold lexer_char2hex.f
  repeat' first
      | (with_reducible exact ih0 _ _)
      | (with_reducible exact ih1 _ _)
      | (with_reducible exact LeO.refl _)
      | (with_reducible exact LeO.none _)
      | (with_reducible refine LeO.ite ?_ ?_)
      | (with_reducible refine LeO.bind ?_ (fun _ => ?_))
      | exact ih0 _ _
      | exact ih1 _ _
      | exact LeO.none _
      | refine LeO.ite ?_ ?_
      | refine LeO.bind ?_ (fun _ => ?_)
set_option maxHeartbeats 8000000 in
set_option maxRecDepth 100000 in
theorem lexer_char2hex.calls (k : Nat) (a0 : Int) (r : Int) (w : World) (h : lexer_char2hex.f k a0 = some r) :
    Calls Try.prog 39 #[.int .i32 a0] w fun e w' => e = .returned (.int .i64 r) ∧ Drawn0 w w' := by
  have H : (if a0 ≥ 48 then (lexer_char2hex.j0 k a0 (decide (a0 ≤ 57))) else (lexer_char2hex.j0 k a0 false)) = some r := h
  clear h
  have HC2 := Aside0.mk H
  clear H
  go_enter Try.func39, Try.ntmps39
  go_upto_region 1 with (fail)
  go_cut [8] (fun v8 wc => ∃ (kq : Nat) (x8_1 : Bool), v8 = .bool x8_1 ∧ Aside0 (lexer_char2hex.j0 kq a0 x8_1 = some r) ∧ Aside0 (kq ≤ k) ∧ Drawn0 w wc)
  case first =>
    have H := HC2.out
    clear HC2
    by_cases c3 : a0 ≥ 48
    · rw [if_pos c3] at H
      have c3b0 : decide (48 ≤ a0) = true := decide_eq_true c3
      clear c3
      (first | rw [c3b0] | (simp only [i64_w, i32_w]; rw [c3b0]) | skip)
      have H' := Aside0.mk H
      clear H
      go_wp2
      go_meet
      case rel => exact ⟨_, (decide (a0 ≤ 57)), (by first | rfl | (simp; done) | (simp [*]; done)), H', ⟨by first | omega | exact Nat.le_refl _⟩, by repeat (first | exact Drawn0.refl _ | apply Drawn0.step)⟩
    · rw [if_neg c3] at H
      have c3b0 : decide (48 ≤ a0) = false := decide_eq_false c3
      clear c3
      (first | rw [c3b0] | (simp only [i64_w, i32_w]; rw [c3b0]) | skip)
      have H' := Aside0.mk H
      clear H
      go_wp2
      go_meet
      case rel => exact ⟨_, (false), (by first | rfl | (simp; done) | (simp [*]; done)), H', ⟨by first | omega | exact Nat.le_refl _⟩, by repeat (first | exact Drawn0.refl _ | apply Drawn0.step)⟩
  case rest =>
    clear HC2
    try clear p2
    try clear c3
    try clear c3b0
    obtain ⟨kq, x8_1, rfl, HA, HJ1, ⟨mc1, rfl⟩⟩ := hcut
    cases kq with
    | zero => exact absurd HA.out (by simp [lexer_char2hex.j0])
    | succ kj1 =>
      have H := HA.out
      clear HA
      simp only [lexer_char2hex.j0] at H
      by_cases c4 : x8_1 = true
      · subst c4
        have H1 : (some (wrap64 ((wrap64 (a0)) - 48))) = some r := by rw [if_pos rfl] at H; exact H
        clear H
        have H := H1
        clear H1
        obtain rfl := Option.some.inj H
        go_wp2
        go_ret
        exact ⟨by first | rfl | (simp; done) | (simp [*]; done), by repeat (first | exact Drawn0.refl _ | apply Drawn0.step)⟩
      · replace c4 := Bool.eq_false_iff.mpr c4
        subst c4
        have H1 : (if a0 ≥ 65 then (lexer_char2hex.j1 kj1 a0 (decide (a0 ≤ 70))) else (lexer_char2hex.j1 kj1 a0 false)) = some r := by rw [if_neg (show ¬ (false = true) by decide)] at H; exact H
        clear H
        have H := H1
        clear H1
        have HC5 := Aside0.mk H
        clear H
        go_upto_region 3 with (fail)
        go_cut [17] (fun v17 wc => ∃ (kq : Nat) (x17_4 : Bool), v17 = .bool x17_4 ∧ Aside0 (lexer_char2hex.j1 kq a0 x17_4 = some r) ∧ Aside0 (kq ≤ kj1) ∧ Drawn0 w wc)
        case first =>
          have H := HC5.out
          clear HC5
          by_cases c6 : a0 ≥ 65
          · rw [if_pos c6] at H
            have c6b0 : decide (65 ≤ a0) = true := decide_eq_true c6
            clear c6
            (first | rw [c6b0] | (simp only [i64_w, i32_w]; rw [c6b0]) | skip)
            have H' := Aside0.mk H
            clear H
            go_wp2
            go_meet
            case rel => exact ⟨_, (decide (a0 ≤ 70)), (by first | rfl | (simp; done) | (simp [*]; done)), H', ⟨by have := HJ1.out; first | omega | exact Nat.le_refl _⟩, by repeat (first | exact Drawn0.refl _ | apply Drawn0.step)⟩
          · rw [if_neg c6] at H
            have c6b0 : decide (65 ≤ a0) = false := decide_eq_false c6
            clear c6
            (first | rw [c6b0] | (simp only [i64_w, i32_w]; rw [c6b0]) | skip)
            have H' := Aside0.mk H
            clear H
            go_wp2
            go_meet
            case rel => exact ⟨_, (false), (by first | rfl | (simp; done) | (simp [*]; done)), H', ⟨by have := HJ1.out; first | omega | exact Nat.le_refl _⟩, by repeat (first | exact Drawn0.refl _ | apply Drawn0.step)⟩
        case rest =>
          clear HC5
          try clear c1
          try clear p2
          try clear c3
          try clear c3b0
          try clear c4
          try clear c6
          try clear c6b0
          try clear p6
          try clear p2
          obtain ⟨kq, x17_4, rfl, HA, HJ4, ⟨mc4, rfl⟩⟩ := hcut
          cases kq with
          | zero => exact absurd HA.out (by simp [lexer_char2hex.j1])
          | succ kj4 =>
            have H := HA.out
            clear HA
            simp only [lexer_char2hex.j1] at H
            by_cases c7 : x17_4 = true
            · subst c7
              have H1 : (some (wrap64 ((wrap64 (a0)) - 55))) = some r := by rw [if_pos rfl] at H; exact H
              clear H
              have H := H1
              clear H1
              obtain rfl := Option.some.inj H
              go_wp2
              go_ret
              exact ⟨by first | rfl | (simp; done) | (simp [*]; done), by repeat (first | exact Drawn0.refl _ | apply Drawn0.step)⟩
            · replace c7 := Bool.eq_false_iff.mpr c7
              subst c7
              have H1 : (if a0 ≥ 97 then (if a0 ≤ 102 then (some (wrap64 ((wrap64 (a0)) - 87))) else (some (-1))) else (some (-1))) = some r := by rw [if_neg (show ¬ (false = true) by decide)] at H; exact H
              clear H
              have H := H1
              clear H1
              by_cases c8 : a0 ≥ 97
              · rw [if_pos c8] at H
                have c8b0 : decide (97 ≤ a0) = true := decide_eq_true c8
                clear c8
                by_cases c9 : a0 ≤ 102
                · rw [if_pos c9] at H
                  have c9b0 : decide (a0 ≤ 102) = true := decide_eq_true c9
                  clear c9
                  obtain rfl := Option.some.inj H
                  go_wp2
                  go_ret
                  exact ⟨by first | rfl | (simp; done) | (simp [*]; done), by repeat (first | exact Drawn0.refl _ | apply Drawn0.step)⟩
                · rw [if_neg c9] at H
                  have c9b0 : decide (a0 ≤ 102) = false := decide_eq_false c9
                  clear c9
                  obtain rfl := Option.some.inj H
                  go_wp2
                  go_ret
                  exact ⟨by first | rfl | (simp; done) | (simp [*]; done), by repeat (first | exact Drawn0.refl _ | apply Drawn0.step)⟩
              · rw [if_neg c8] at H
                have c8b0 : decide (97 ≤ a0) = false := decide_eq_false c8
                clear c8
                obtain rfl := Option.some.inj H
                go_wp2
                go_ret
                exact ⟨by first | rfl | (simp; done) | (simp [*]; done), by repeat (first | exact Drawn0.refl _ | apply Drawn0.step)⟩

/-! ### lexer_uniCharCode: function 26 -/
def lexer_uniCharCode.f (k : Nat) (a0 : Int) (a1 : Int) (a2 : Int) (a3 : Int) : Option (Int) := (lexer_char2hex.f k a0).bind fun t101 => ((lexer_char2hex.f k a1).bind fun t102 => ((lexer_char2hex.f k a2).bind fun t103 => ((lexer_char2hex.f k a3).bind fun t104 => (some (wrap32 (Go.bits .or .i64 (Go.bits .or .i64 (Go.bits .or .i64 (wrap64 (t101 * 4096)) (wrap64 (t102 * 256))) (wrap64 (t103 * 16))) t104))))))
theorem lexer_uniCharCode.mono : ∀ a0 a1 a2 a3 k, LeO (lexer_uniCharCode.f k a0 a1 a2 a3) (lexer_uniCharCode.f (k + 1) a0 a1 a2 a3) := by
  intro a0 a1 a2 a3 k
  unfold lexer_uniCharCode.f
  repeat' first
      | (with_reducible exact lexer_char2hex.mono _ _)
      | (with_reducible exact LeO.refl _)
      | (with_reducible exact LeO.none _)
      | (with_reducible refine LeO.ite ?_ ?_)
      | (with_reducible refine LeO.bind ?_ (fun _ => ?_))
      | exact lexer_char2hex.mono _ _
      | exact LeO.none _
      | refine LeO.ite ?_ ?_
      | refine LeO.bind ?_ (fun _ => ?_)
set_option maxHeartbeats 8000000 in
set_option maxRecDepth 100000 in
theorem lexer_uniCharCode.calls (k : Nat) (a0 : Int) (a1 : Int) (a2 : Int) (a3 : Int) (r : Int) (w : World) (h : lexer_uniCharCode.f k a0 a1 a2 a3 = some r) :
    Calls Try.prog 26 #[.int .i32 a0, .int .i32 a1, .int .i32 a2, .int .i32 a3] w fun e w' => e = .returned (.int .i32 r) ∧ Drawn0 w w' := by
  have H : ((lexer_char2hex.f k a0).bind fun t101 => ((lexer_char2hex.f k a1).bind fun t102 => ((lexer_char2hex.f k a2).bind fun t103 => ((lexer_char2hex.f k a3).bind fun t104 => (some (wrap32 (Go.bits .or .i64 (Go.bits .or .i64 (Go.bits .or .i64 (wrap64 (t101 * 4096)) (wrap64 (t102 * 256))) (wrap64 (t103 * 16))) t104))))))) = some r := h
  clear h
  replace H := Option.bind_eq_some_iff.mp H
  obtain ⟨t101, A50, H⟩ := H
  replace H : ((lexer_char2hex.f k a1).bind fun t102 => ((lexer_char2hex.f k a2).bind fun t103 => ((lexer_char2hex.f k a3).bind fun t104 => (some (wrap32 (Go.bits .or .i64 (Go.bits .or .i64 (Go.bits .or .i64 (wrap64 (t101 * 4096)) (wrap64 (t102 * 256))) (wrap64 (t103 * 16))) t104)))))) = some r := H
  have A5 := Aside0.mk A50
  clear A50
  replace H := Option.bind_eq_some_iff.mp H
  obtain ⟨t102, A60, H⟩ := H
  replace H : ((lexer_char2hex.f k a2).bind fun t103 => ((lexer_char2hex.f k a3).bind fun t104 => (some (wrap32 (Go.bits .or .i64 (Go.bits .or .i64 (Go.bits .or .i64 (wrap64 (t101 * 4096)) (wrap64 (t102 * 256))) (wrap64 (t103 * 16))) t104))))) = some r := H
  have A6 := Aside0.mk A60
  clear A60
  replace H := Option.bind_eq_some_iff.mp H
  obtain ⟨t103, A70, H⟩ := H
  replace H : ((lexer_char2hex.f k a3).bind fun t104 => (some (wrap32 (Go.bits .or .i64 (Go.bits .or .i64 (Go.bits .or .i64 (wrap64 (t101 * 4096)) (wrap64 (t102 * 256))) (wrap64 (t103 * 16))) t104)))) = some r := H
  have A7 := Aside0.mk A70
  clear A70
  replace H := Option.bind_eq_some_iff.mp H
  obtain ⟨t104, A80, H⟩ := H
  replace H : (some (wrap32 (Go.bits .or .i64 (Go.bits .or .i64 (Go.bits .or .i64 (wrap64 (t101 * 4096)) (wrap64 (t102 * 256))) (wrap64 (t103 * 16))) t104))) = some r := H
  have A8 := Aside0.mk A80
  clear A80
  obtain rfl := Option.some.inj H
  go_enter Try.func26, Try.ntmps26
  go_wp2_with (first | ((with_reducible refine gate_callee (f := 39) rfl ?_); refine goesL_ (some 10) rfl rfl Try.func39 (by kernel_rfl) rfl #[.int .i32 a0] rfl (by (try simp only [List.map_toArray, List.map_cons, List.map_nil]); first | done | rfl | (simp only [List.length_drop, List.length_take]; rfl)) ?_; (with_reducible refine (lexer_char2hex.calls k a0 t101 _ A5.out).mono ?_); rintro e w' ⟨rfl, ⟨nd, rfl⟩⟩; refine ⟨_, rfl, ?_⟩) | ((with_reducible refine gate_callee (f := 39) rfl ?_); refine goesL_ (some 13) rfl rfl Try.func39 (by kernel_rfl) rfl #[.int .i32 a1] rfl (by (try simp only [List.map_toArray, List.map_cons, List.map_nil]); first | done | rfl | (simp only [List.length_drop, List.length_take]; rfl)) ?_; (with_reducible refine (lexer_char2hex.calls k a1 t102 _ A6.out).mono ?_); rintro e w' ⟨rfl, ⟨nd, rfl⟩⟩; refine ⟨_, rfl, ?_⟩) | ((with_reducible refine gate_callee (f := 39) rfl ?_); refine goesL_ (some 17) rfl rfl Try.func39 (by kernel_rfl) rfl #[.int .i32 a2] rfl (by (try simp only [List.map_toArray, List.map_cons, List.map_nil]); first | done | rfl | (simp only [List.length_drop, List.length_take]; rfl)) ?_; (with_reducible refine (lexer_char2hex.calls k a2 t103 _ A7.out).mono ?_); rintro e w' ⟨rfl, ⟨nd, rfl⟩⟩; refine ⟨_, rfl, ?_⟩) | ((with_reducible refine gate_callee (f := 39) rfl ?_); refine goesL_ (some 21) rfl rfl Try.func39 (by kernel_rfl) rfl #[.int .i32 a3] rfl (by (try simp only [List.map_toArray, List.map_cons, List.map_nil]); first | done | rfl | (simp only [List.length_drop, List.length_take]; rfl)) ?_; (with_reducible refine (lexer_char2hex.calls k a3 t104 _ A8.out).mono ?_); rintro e w' ⟨rfl, ⟨nd, rfl⟩⟩; refine ⟨_, rfl, ?_⟩))
  go_ret
  exact ⟨by first | rfl | (simp; done) | (simp [*]; done), by repeat (first | exact Drawn0.refl _ | apply Drawn0.step)⟩

/-! ### lexer_UniChar: function 18 -/
def lexer_UniChar.f (k : Nat) (a0 : Int) (a1 : Int) (a2 : Int) (a3 : Int) : Option (Int) := (lexer_uniCharCode.f k a0 a1 a2 a3).bind fun t105 => (some t105)
theorem lexer_UniChar.mono : ∀ a0 a1 a2 a3 k, LeO (lexer_UniChar.f k a0 a1 a2 a3) (lexer_UniChar.f (k + 1) a0 a1 a2 a3) := by
  intro a0 a1 a2 a3 k
  unfold lexer_UniChar.f
  repeat' first
      | (with_reducible exact lexer_uniCharCode.mono _ _ _ _ _)
      | (with_reducible exact LeO.refl _)
      | (with_reducible exact LeO.none _)
      | (with_reducible refine LeO.ite ?_ ?_)
      | (with_reducible refine LeO.bind ?_ (fun _ => ?_))
      | exact lexer_uniCharCode.mono _ _ _ _ _
      | exact LeO.none _
      | refine LeO.ite ?_ ?_
      | refine LeO.bind ?_ (fun _ => ?_)
set_option maxHeartbeats 8000000 in
set_option maxRecDepth 100000 in
theorem lexer_UniChar.calls (k : Nat) (a0 : Int) (a1 : Int) (a2 : Int) (a3 : Int) (r : Int) (w : World) (h : lexer_UniChar.f k a0 a1 a2 a3 = some r) :
    Calls Try.prog 18 #[.int .i32 a0, .int .i32 a1, .int .i32 a2, .int .i32 a3] w fun e w' => e = .returned (.int .i32 r) ∧ Drawn0 w w' := by
  have H : ((lexer_uniCharCode.f k a0 a1 a2 a3).bind fun t105 => (some t105)) = some r := h
  clear h
  replace H := Option.bind_eq_some_iff.mp H
  obtain ⟨t105, A50, H⟩ := H
  replace H : (some t105) = some r := H
  have A5 := Aside0.mk A50
  clear A50
  obtain rfl := Option.some.inj H
  go_enter Try.func18, Try.ntmps18
  go_wp2_with (first | ((with_reducible refine gate_callee (f := 26) rfl ?_); refine goesL_ (some 13) rfl rfl Try.func26 (by kernel_rfl) rfl #[.int .i32 a0, .int .i32 a1, .int .i32 a2, .int .i32 a3] rfl (by (try simp only [List.map_toArray, List.map_cons, List.map_nil]); first | done | rfl | (simp only [List.length_drop, List.length_take]; rfl)) ?_; (with_reducible refine (lexer_uniCharCode.calls k a0 a1 a2 a3 t105 _ A5.out).mono ?_); rintro e w' ⟨rfl, ⟨nd, rfl⟩⟩; refine ⟨_, rfl, ?_⟩))
  go_ret
  exact ⟨by first | rfl | (simp; done) | (simp [*]; done), by repeat (first | exact Drawn0.refl _ | apply Drawn0.step)⟩

/-! ### impl_UniChar: function 9 -/
def impl_UniChar.f (k : Nat) (a0 : Int) (a1 : Int) (a2 : Int) (a3 : Int) : Option (Int) := (lexer_UniChar.f k (wrap32 (a0)) (wrap32 (a1)) (wrap32 (a2)) (wrap32 (a3))).bind fun t106 => (some (wrap64 (t106)))
theorem impl_UniChar.mono : ∀ a0 a1 a2 a3 k, LeO (impl_UniChar.f k a0 a1 a2 a3) (impl_UniChar.f (k + 1) a0 a1 a2 a3) := by
  intro a0 a1 a2 a3 k
  unfold impl_UniChar.f
  repeat' first
      | (with_reducible exact lexer_UniChar.mono _ _ _ _ _)
      | (with_reducible exact LeO.refl _)
      | (with_reducible exact LeO.none _)
      | (with_reducible refine LeO.ite ?_ ?_)
      | (with_reducible refine LeO.bind ?_ (fun _ => ?_))
      | exact lexer_UniChar.mono _ _ _ _ _
      | exact LeO.none _
      | refine LeO.ite ?_ ?_
      | refine LeO.bind ?_ (fun _ => ?_)
set_option maxHeartbeats 8000000 in
set_option maxRecDepth 100000 in
theorem impl_UniChar.calls (k : Nat) (a0 : Int) (a1 : Int) (a2 : Int) (a3 : Int) (r : Int) (w : World) (h : impl_UniChar.f k a0 a1 a2 a3 = some r) :
    Calls Try.prog 9 #[.int .u8 a0, .int .u8 a1, .int .u8 a2, .int .u8 a3] w fun e w' => e = .returned (.int .i64 r) ∧ Drawn0 w w' := by
  have H : ((lexer_UniChar.f k (wrap32 (a0)) (wrap32 (a1)) (wrap32 (a2)) (wrap32 (a3))).bind fun t106 => (some (wrap64 (t106)))) = some r := h
  clear h
  replace H := Option.bind_eq_some_iff.mp H
  obtain ⟨t106, A50, H⟩ := H
  replace H : (some (wrap64 (t106))) = some r := H
  have A5 := Aside0.mk A50
  clear A50
  obtain rfl := Option.some.inj H
  go_enter Try.func9, Try.ntmps9
  go_wp2_with (first | ((with_reducible refine gate_callee (f := 18) rfl ?_); refine goesL_ (some 17) rfl rfl Try.func18 (by kernel_rfl) rfl #[.int .i32 (wrap32 (a0)), .int .i32 (wrap32 (a1)), .int .i32 (wrap32 (a2)), .int .i32 (wrap32 (a3))] rfl (by (try simp only [List.map_toArray, List.map_cons, List.map_nil]); first | done | rfl | (simp only [List.length_drop, List.length_take]; rfl)) ?_; (with_reducible refine (lexer_UniChar.calls k (wrap32 (a0)) (wrap32 (a1)) (wrap32 (a2)) (wrap32 (a3)) t106 _ A5.out).mono ?_); rintro e w' ⟨rfl, ⟨nd, rfl⟩⟩; refine ⟨_, rfl, ?_⟩))
  go_ret
  exact ⟨by first | rfl | (simp; done) | (simp [*]; done), by repeat (first | exact Drawn0.refl _ | apply Drawn0.step)⟩

-- NOT PRINTED: function 4 (laws_FnUniChar)

end Go.Proofs.Ytofafhboagfihaa.PFnUniChar
