-- PRINTED BY print.sh 35421559b90ae4d0a3588c463048766b98c2df88dd9212a6774a882060cdf62d: not written by this session
import Derived.Test.YthbinlnpipgobaaGreatDoorPFnPieceRefusedx0
namespace Go.Proofs.YthbinlnpipgobaaGreatDoor.PFnPieceRefused
open Go.RowKit Go.Proofs.YthbinlnpipgobaaGreatDoorW.PrintWords Go.Proofs.YthbinlnpipgobaaGreatDoorW.PrintLast Go.Proofs.YthbinlnpipgobaaGreatDoorW.PrintMore
attribute [local go_sem] max2_int min2_int max_two min_two max_three min_three max_four min_four   -- for this text's walks alone
set_option linter.unusedVariables false
set_option linter.unusedSimpArgs false

/-! ### laws_ascii9: function 6 -/
def laws_ascii9.l0 : Nat → ByteArray → Int → Option (Bool)
  | 0, _, _ => none
  | k + 1, x0, x3 => if x3 < (x0.size : Int) then (if 0 ≤ x3 then (if (bt x0 x3) ≥ 128 then (some false) else (laws_ascii9.l0 k x0 (wrap64 (x3 + 1)))) else (none)) else (some true)
def laws_ascii9.f (k : Nat) (a0 : ByteArray) : Option (Bool) := laws_ascii9.l0 k a0 0
theorem laws_ascii9.mono_l : ∀ k, (∀ y0 y1, LeO (laws_ascii9.l0 k y0 y1) (laws_ascii9.l0 (k + 1) y0 y1))
  | 0 => fun _ _ r h => by simp [laws_ascii9.l0] at h
  | k + 1 => by
    have ih0 := laws_ascii9.mono_l k
    · intro y0 y1
      unfold laws_ascii9.l0
      repeat' first
      | (with_reducible exact ih0 _ _)
      | (with_reducible exact LeO.refl _)
      | (with_reducible exact LeO.none _)
      | (with_reducible refine LeO.ite ?_ ?_)
      | (with_reducible refine LeO.bind ?_ (fun _ => ?_))
      | exact ih0 _ _
      | exact LeO.none _
      | refine LeO.ite ?_ ?_
      | refine LeO.bind ?_ (fun _ => ?_)
theorem laws_ascii9.mono : ∀ a0 k, LeO (laws_ascii9.f k a0) (laws_ascii9.f (k + 1) a0) := by
  intro a0 k
  have ih0 := laws_ascii9.mono_l k
  unfold laws_ascii9.f
  repeat' first
      | (with_reducible exact ih0 _ _)
      | (with_reducible exact LeO.refl _)
      | (with_reducible exact LeO.none _)
      | (with_reducible refine LeO.ite ?_ ?_)
      | (with_reducible refine LeO.bind ?_ (fun _ => ?_))
      | exact ih0 _ _
      | exact LeO.none _
      | refine LeO.ite ?_ ?_
      | refine LeO.bind ?_ (fun _ => ?_)
set_option maxHeartbeats 8000000 in
set_option maxRecDepth 100000 in
theorem laws_ascii9.calls (k : Nat) (a0 : ByteArray) (r : Bool) (w : World) (h : laws_ascii9.f k a0 = some r) :
    Calls Tryz.prog 6 #[.string a0] w fun e w' => e = .returned (.bool r) ∧ Drawn0 w w' := by
  have H : (laws_ascii9.l0 k a0 0) = some r := h
  clear h
  have H' := Aside0.mk H
  clear H
  go_enter Tryz.func6, Tryz.ntmps6
  go_wp2
  go_loopg [3] k (fun kq v3 w' => ∃ (x3_1 : Int), v3 = .int .i64 x3_1 ∧ Aside0 (laws_ascii9.l0 kq a0 x3_1 = some r) ∧ Aside0 (kq ≤ k) ∧ Drawn0 w w')
  case atStart => exact ⟨(0), (by first | rfl | (simp; done) | (simp [*]; done)), H', ⟨Nat.le_refl _⟩, by repeat (first | exact Drawn0.refl _ | apply Drawn0.step)⟩
  case round =>
    clear H'
    obtain ⟨x3_1, rfl, HA, HK1, ⟨m1, rfl⟩⟩ := hrel
    cases gk with
    | zero => exact absurd HA.out (by simp [laws_ascii9.l0])
    | succ k1 =>
      have H := HA.out
      clear HA
      simp only [laws_ascii9.l0] at H
      by_cases c2 : x3_1 < (a0.size : Int)
      · rw [if_pos c2] at H
        have c2b0 : decide (x3_1 < (a0.size : Int)) = true := decide_eq_true c2
        clear c2
        by_cases c3 : 0 ≤ x3_1
        · rw [if_pos c3] at H
          have c3b0 : decide (0 ≤ x3_1) = true := decide_eq_true c3
          clear c3
          by_cases c5 : (bt a0 x3_1) ≥ 128
          · rw [if_pos c5] at H
            have c5b0 : decide (128 ≤ (bt a0 x3_1)) = true := decide_eq_true c5
            clear c5
            obtain rfl := Option.some.inj H
            have p4 : 0 ≤ (x3_1 : Int) := of_decide_eq_true (by first | (with_reducible assumption) | assumption)
            have q4 : x3_1 < (a0.size : Int) := of_decide_eq_true (by first | (with_reducible assumption) | assumption)
            have hx4 := bt_at a0 x3_1
            replace p4 := eq_true p4
            replace q4 := eq_true q4
            go_wp2
            go_ret
            exact ⟨by first | rfl | (simp; done) | (simp [*]; done), by repeat (first | exact Drawn0.refl _ | apply Drawn0.step)⟩
          · rw [if_neg c5] at H
            have c5b0 : decide (128 ≤ (bt a0 x3_1)) = false := decide_eq_false c5
            clear c5
            have H' := Aside0.mk H
            clear H
            have p4 : 0 ≤ (x3_1 : Int) := of_decide_eq_true (by first | (with_reducible assumption) | assumption)
            have q4 : x3_1 < (a0.size : Int) := of_decide_eq_true (by first | (with_reducible assumption) | assumption)
            have hx4 := bt_at a0 x3_1
            replace p4 := eq_true p4
            replace q4 := eq_true q4
            go_wp2
            go_roundg k1
            case measure => have := HK1.out; omega
            case rel => exact ⟨(wrap64 (x3_1 + 1)), (by first | rfl | (simp; done) | (simp [*]; done)), H', ⟨by have := HK1.out; omega⟩, by repeat (first | exact Drawn0.refl _ | apply Drawn0.step)⟩
        · rw [if_neg c3] at H
          exact absurd H (by simp)
      · rw [if_neg c2] at H
        have c2b0 : decide (x3_1 < (a0.size : Int)) = false := decide_eq_false c2
        clear c2
        obtain rfl := Option.some.inj H
        go_wp2
        go_ret
        exact ⟨by first | rfl | (simp; done) | (simp [*]; done), by repeat (first | exact Drawn0.refl _ | apply Drawn0.step)⟩

/-! ### laws_piece9OK: function 4 -/
def laws_piece9OK.f (k : Nat) (a0 : ByteArray) : Option (Bool) := if (a0.size : Int) ≤ 600 then ((laws_ascii9.f k a0).bind fun t101 => (some t101)) else (some false)
theorem laws_piece9OK.mono : ∀ a0 k, LeO (laws_piece9OK.f k a0) (laws_piece9OK.f (k + 1) a0) := by
  intro a0 k
  unfold laws_piece9OK.f
  repeat' first
      | (with_reducible exact laws_ascii9.mono _ _)
      | (with_reducible exact LeO.refl _)
      | (with_reducible exact LeO.none _)
      | (with_reducible refine LeO.ite ?_ ?_)
      | (with_reducible refine LeO.bind ?_ (fun _ => ?_))
      | exact laws_ascii9.mono _ _
      | exact LeO.none _
      | refine LeO.ite ?_ ?_
      | refine LeO.bind ?_ (fun _ => ?_)
set_option maxHeartbeats 8000000 in
set_option maxRecDepth 100000 in
theorem laws_piece9OK.calls (k : Nat) (a0 : ByteArray) (r : Bool) (w : World) (h : laws_piece9OK.f k a0 = some r) :
    Calls Tryz.prog 4 #[.string a0] w fun e w' => e = .returned (.bool r) ∧ Drawn0 w w' := by
  have H : (if (a0.size : Int) ≤ 600 then ((laws_ascii9.f k a0).bind fun t101 => (some t101)) else (some false)) = some r := h
  clear h
  by_cases c2 : (a0.size : Int) ≤ 600
  · rw [if_pos c2] at H
    have c2b0 : decide ((a0.size : Int) ≤ 600) = true := decide_eq_true c2
    have c2b1 : decide (a0.size ≤ 600) = true := decide_eq_true (by omega)
    clear c2
    replace H := Option.bind_eq_some_iff.mp H
    obtain ⟨t101, A30, H⟩ := H
    replace H : (some t101) = some r := H
    have A3 := Aside0.mk A30
    clear A30
    obtain rfl := Option.some.inj H
    go_enter Tryz.func4, Tryz.ntmps4
    go_wp2_with (first | (go_at_call 6; (with_reducible refine (laws_ascii9.calls k a0 t101 _ A3.out).mono ?_); rintro e w' ⟨rfl, ⟨nd, rfl⟩⟩))
    go_ret
    exact ⟨by first | rfl | (simp; done) | (simp [*]; done), by repeat (first | exact Drawn0.refl _ | apply Drawn0.step)⟩
  · rw [if_neg c2] at H
    have c2b0 : decide ((a0.size : Int) ≤ 600) = false := decide_eq_false c2
    have c2b1 : decide (a0.size ≤ 600) = false := decide_eq_false (by omega)
    clear c2
    obtain rfl := Option.some.inj H
    go_enter Tryz.func4, Tryz.ntmps4
    go_wp2
    go_ret
    exact ⟨by first | rfl | (simp; done) | (simp [*]; done), by repeat (first | exact Drawn0.refl _ | apply Drawn0.step)⟩

-- NOT PRINTED: function 11 (source_NewSource)

-- NOT PRINTED: function 17 (lexer_Lex)

-- NOT PRINTED: function 12 (parser_makeParser)

-- NOT PRINTED: function 34 (parser_advance)

-- NOT PRINTED: function 18 (parser_skip)

-- NOT PRINTED: function 46 (ast_NewLocation)

-- NOT PRINTED: function 23 (parser_loc)

-- NOT PRINTED: function 35 (parser_peek)

-- NOT PRINTED: function 173 (ast_ZzIsNil)

/-! ### location_zzLineEnds: function 188 -/
mutual
def location_zzLineEnds.l0 : Nat → List Int → List (List Int) → Int → Option ((List (List Int)))
  | 0, _, _, _ => none
  | k + 1, x0, x3, x4 => if x4 < (x0.length : Int) then (if 0 ≤ x4 then (if (rd x0 x4) = 13 then (if (wrap64 (x4 + 1)) < (x0.length : Int) then (if 0 ≤ (wrap64 (x4 + 1)) then (location_zzLineEnds.j1 k x0 x3 x4 ((rd x0 (wrap64 (x4 + 1))) == 10)) else (none)) else (location_zzLineEnds.j1 k x0 x3 x4 false)) else (location_zzLineEnds.j1 k x0 x3 x4 false)) else (none)) else (some x3)
def location_zzLineEnds.j1 : Nat → List Int → List (List Int) → Int → Bool → Option ((List (List Int)))
  | 0, _, _, _, _ => none
  | k + 1, x0, x3, x4, x11 => if x11 = true then (if x3.length < 5864062014805 then (location_zzLineEnds.l0 k x0 (x3 ++ [(([x4, wrap64 (x4 + 2)] : List Int))]) (wrap64 ((wrap64 (x4 + 1)) + 1))) else (none)) else (if 0 ≤ x4 then (if x4 < (x0.length : Int) then (if (rd x0 x4) = 13 then (if x3.length < 5864062014805 then (location_zzLineEnds.l0 k x0 (x3 ++ [(([x4, wrap64 (x4 + 1)] : List Int))]) (wrap64 (x4 + 1))) else (none)) else (if (rd x0 x4) = 10 then (if x3.length < 5864062014805 then (location_zzLineEnds.l0 k x0 (x3 ++ [(([x4, wrap64 (x4 + 1)] : List Int))]) (wrap64 (x4 + 1))) else (none)) else (location_zzLineEnds.l0 k x0 x3 (wrap64 (x4 + 1))))) else (none)) else (none))
end
def location_zzLineEnds.f (k : Nat) (l0 : List Int) : Option ((List (List Int))) := location_zzLineEnds.l0 k l0 ([] : List (List Int)) 0
theorem location_zzLineEnds.mono_l : ∀ k, (∀ y0 y1 y2, LeO (location_zzLineEnds.l0 k y0 y1 y2) (location_zzLineEnds.l0 (k + 1) y0 y1 y2)) ∧ (∀ y0 y1 y2 y3, LeO (location_zzLineEnds.j1 k y0 y1 y2 y3) (location_zzLineEnds.j1 (k + 1) y0 y1 y2 y3))
  | 0 => ⟨fun _ _ _ r h => by simp [location_zzLineEnds.l0] at h, fun _ _ _ _ r h => by simp [location_zzLineEnds.j1] at h⟩
  | k + 1 => by
    obtain ⟨ih0, ih1⟩ := location_zzLineEnds.mono_l k
    refine ⟨?_, ?_⟩
    · intro y0 y1 y2
      unfold location_zzLineEnds.l0
      repeat' first
      | (with_reducible exact ih0 _ _ _)
      | (with_reducible exact ih1 _ _ _ _)
      | (with_reducible exact LeO.refl _)
      | (with_reducible exact LeO.none _)
      | (with_reducible refine LeO.ite ?_ ?_)
      | (with_reducible refine LeO.bind ?_ (fun _ => ?_))
      | exact ih0 _ _ _
      | exact ih1 _ _ _ _
      | exact LeO.none _
      | refine LeO.ite ?_ ?_
      | refine LeO.bind ?_ (fun _ => ?_)
    · intro y0 y1 y2 y3
      unfold location_zzLineEnds.j1
      repeat' first
      | (with_reducible exact ih0 _ _ _)
      | (with_reducible exact ih1 _ _ _ _)
      | (with_reducible exact LeO.refl _)
      | (with_reducible exact LeO.none _)
      | (with_reducible refine LeO.ite ?_ ?_)
      | (with_reducible refine LeO.bind ?_ (fun _ => ?_))
      | exact ih0 _ _ _
      | exact ih1 _ _ _ _
      | exact LeO.none _
      | refine LeO.ite ?_ ?_
      | refine LeO.bind ?_ (fun _ => ?_)
theorem location_zzLineEnds.mono : ∀ a0 k, LeO (location_zzLineEnds.f k a0) (location_zzLineEnds.f (k + 1) a0) := by
  intro a0 k
  obtain ⟨ih0, ih1⟩ := location_zzLineEnds.mono_l k
  unfold location_zzLineEnds.f
  repeat' first
      | (with_reducible exact ih0 _ _ _)
      | (with_reducible exact ih1 _ _ _ _)
      | (with_reducible exact LeO.refl _)
      | (with_reducible exact LeO.none _)
      | (with_reducible refine LeO.ite ?_ ?_)
      | (with_reducible refine LeO.bind ?_ (fun _ => ?_))
      | exact ih0 _ _ _
      | exact ih1 _ _ _ _
      | exact LeO.none _
      | refine LeO.ite ?_ ?_
      | refine LeO.bind ?_ (fun _ => ?_)
set_option maxHeartbeats 8000000 in
set_option maxRecDepth 100000 in
theorem location_zzLineEnds.calls (k : Nat) (A0 : Option Addr) (c0 : Nat) (l0 : List Int) (r : List (List Int)) (w : World) (hr0 : Kd.C (Kd.int .u8) w A0 l0.length l0) (hc0 : l0.length ≤ c0) (h : location_zzLineEnds.f k l0 = some r) :
    Calls Tryz.prog 188 #[.slice A0 l0.length c0] w fun e w' => ∃ v0_ : Value, e = .returned (v0_) ∧ Kd.S (Kd.slice 3 (Kd.int .i64)) 205 w' w.heap.size (fun _ => True) v0_ r ∧ Below w.heap.size w w' := by
  have HR0 := Aside0.mk hr0
  have HC0 := Aside0.mk hc0
  clear hr0 hc0
  have HB := Aside0.mk (Below.refl w.heap.size w)
  have H : (location_zzLineEnds.l0 k l0 ([] : List (List Int)) 0) = some r := h
  clear h
  have H' := Aside0.mk H
  clear H
  go_enter Tryz.func188, Tryz.ntmps188
  go_wp2
  go_loopg [3, 4] k (fun kq v3 v4 w' => ∃ (x3_1 : List (List Int)) (x4_1 : Int), v4 = .int .i64 x4_1 ∧ Aside0 (location_zzLineEnds.l0 kq l0 x3_1 x4_1 = some r) ∧ Aside0 (kq ≤ k) ∧ Aside0 (Kd.S (Kd.slice 3 (Kd.int .i64)) 205 w' w.heap.size (fun _ => True) v3 x3_1) ∧ Aside0 (Below w.heap.size w w'))
  case atStart => exact ⟨(([] : List (List Int))), (0), (by first | rfl | (simp; done) | (simp [*]; done)), H', ⟨Nat.le_refl _⟩, ⟨by first | exact Kd.S_nil _ _ _ _ _ | exact Kd.N_nil _ _ _ _ _ | exact Kd.V_nil _ _ _ _ _ | exact Kd.Q_nil _ _ _ _ _ | exact Kd.R_nil _ _ _ _ _⟩, ⟨by repeat (first | (with_reducible first | exact HB.out | apply below_alloc | apply pw_below_drewN | apply below_drew1) | exact HB.out)⟩⟩
  case round =>
    clear H'
    try clear c1
    obtain ⟨x3_1, x4_1, rfl, HA, HK1, HO_3, HB⟩ := hrel
    cases gk with
    | zero => exact absurd HA.out (by simp [location_zzLineEnds.l0])
    | succ k1 =>
      have H := HA.out
      clear HA
      simp only [location_zzLineEnds.l0] at H
      by_cases c2 : x4_1 < (l0.length : Int)
      · rw [if_pos c2] at H
        have c2b0 : decide (x4_1 < (l0.length : Int)) = true := decide_eq_true c2
        clear c2
        have HC3 := Aside0.mk H
        clear H
        go_upto_region 5 with (fail)
        go_cut [11] (fun v11 wc => ∃ (kq : Nat) (x11_2 : Bool), v11 = .bool x11_2 ∧ Aside0 (location_zzLineEnds.j1 kq l0 x3_1 x4_1 x11_2 = some r) ∧ Aside0 (kq ≤ k1) ∧ Aside0 (Kd.S (Kd.slice 3 (Kd.int .i64)) 205 wc w.heap.size (fun _ => True) u3 x3_1) ∧ Aside0 (Below w.heap.size w wc))
        case first =>
          have H := HC3.out
          clear HC3
          by_cases c4 : 0 ≤ x4_1
          · rw [if_pos c4] at H
            have c4b0 : decide (0 ≤ x4_1) = true := decide_eq_true c4
            clear c4
            (first | rw [c4b0] | (simp only [i64_w, i32_w]; rw [c4b0]) | skip)
            by_cases c5 : (rd l0 x4_1) = 13
            · rw [if_pos c5] at H
              have c5b0 : ((rd l0 x4_1) == 13) = true := beq_iff_eq.mpr c5
              have c5b1 : ((rd l0 x4_1) != 13) = false := bne_eq_false_iff_eq.mpr c5
              clear c5
              by_cases c6 : (wrap64 (x4_1 + 1)) < (l0.length : Int)
              · rw [if_pos c6] at H
                have c6b0 : decide ((wrap64 (x4_1 + 1)) < (l0.length : Int)) = true := decide_eq_true c6
                clear c6
                obtain ⟨ji7, hji7⟩ : ∃ j_ : Int, (wrap64 (x4_1 + 1)) = j_ := ⟨_, rfl⟩
                replace H : (if 0 ≤ (ji7) then (location_zzLineEnds.j1 k1 l0 x3_1 x4_1 ((rd l0 (ji7)) == 10)) else (none)) = some r := by first | (rw [hji7] at H; exact H) | (simp only [hji7] at H ⊢; exact H)
                (try rw [hji7] at c6b0)
                have hji7w : (IntKind.i64.wrap (x4_1 + 1)) = ji7 := (i64_w _).trans hji7
                by_cases c8 : 0 ≤ (ji7)
                · rw [if_pos c8] at H
                  have c8b0 : decide (0 ≤ (ji7)) = true := decide_eq_true c8
                  clear c8
                  have H' := Aside0.mk H
                  clear H
                  have p102 : 0 ≤ (x4_1 : Int) := of_decide_eq_true (by first | (with_reducible assumption) | assumption)
                  have q102 : x4_1 < (l0.length : Int) := of_decide_eq_true (by first | (with_reducible assumption) | assumption)
                  obtain ⟨ad102, e102, hx102_0⟩ := Kd.at_int HR0.out x4_1 p102 q102
                  cases e102
                  replace hx102_0 := (HB.out.cell (World.block_lt_of_cell? w _ hx102_0)).trans hx102_0
                  replace p102 := eq_true p102
                  replace q102 := eq_true q102
                  have p103 : 0 ≤ ((ji7) : Int) := of_decide_eq_true (by first | (with_reducible assumption) | assumption)
                  have q103 : (ji7) < (l0.length : Int) := of_decide_eq_true (by first | (with_reducible assumption) | assumption)
                  obtain ⟨ad103, e103, hx103_0⟩ := Kd.at_int HR0.out (ji7) p103 q103
                  obtain rfl : ad102 = ad103 := (by injection e103)
                  replace hx103_0 := (HB.out.cell (World.block_lt_of_cell? w _ hx103_0)).trans hx103_0
                  replace p103 := eq_true p103
                  replace q103 := eq_true q103
                  go_wp2
                  go_meet
                  case rel => exact ⟨_, (((rd l0 (ji7)) == 10)), (by first | rfl | (simp; done) | (simp only [← hji7] <;> (first | rfl | simp)) | (simp [*]; done)), H', ⟨by have := HK1.out; first | omega | exact Nat.le_refl _⟩, ⟨by (with_reducible repeat (first | apply Kd.S_alloc | apply Kd.S_drewN | apply Kd.S_drew)); exact HO_3.out⟩, ⟨by repeat (first | (with_reducible first | exact HB.out | apply below_alloc | apply pw_below_drewN | apply below_drew1) | exact HB.out)⟩⟩
                · rw [if_neg c8] at H
                  exact absurd H (by simp)
              · rw [if_neg c6] at H
                have c6b0 : decide ((wrap64 (x4_1 + 1)) < (l0.length : Int)) = false := decide_eq_false c6
                clear c6
                have H' := Aside0.mk H
                clear H
                have p102 : 0 ≤ (x4_1 : Int) := of_decide_eq_true (by first | (with_reducible assumption) | assumption)
                have q102 : x4_1 < (l0.length : Int) := of_decide_eq_true (by first | (with_reducible assumption) | assumption)
                obtain ⟨ad102, e102, hx102_0⟩ := Kd.at_int HR0.out x4_1 p102 q102
                cases e102
                replace hx102_0 := (HB.out.cell (World.block_lt_of_cell? w _ hx102_0)).trans hx102_0
                replace p102 := eq_true p102
                replace q102 := eq_true q102
                go_wp2
                go_meet
                case rel => exact ⟨_, (false), (by first | rfl | (simp; done) | (simp [*]; done)), H', ⟨by have := HK1.out; first | omega | exact Nat.le_refl _⟩, ⟨by (with_reducible repeat (first | apply Kd.S_alloc | apply Kd.S_drewN | apply Kd.S_drew)); exact HO_3.out⟩, ⟨by repeat (first | (with_reducible first | exact HB.out | apply below_alloc | apply pw_below_drewN | apply below_drew1) | exact HB.out)⟩⟩
            · rw [if_neg c5] at H
              have c5b0 : ((rd l0 x4_1) == 13) = false := beq_eq_false_iff_ne.mpr c5
              have c5b1 : ((rd l0 x4_1) != 13) = true := bne_iff_ne.mpr c5
              have H' := Aside0.mk H
              clear H
              have p102 : 0 ≤ (x4_1 : Int) := of_decide_eq_true (by first | (with_reducible assumption) | assumption)
              have q102 : x4_1 < (l0.length : Int) := of_decide_eq_true (by first | (with_reducible assumption) | assumption)
              obtain ⟨ad102, e102, hx102_0⟩ := Kd.at_int HR0.out x4_1 p102 q102
              cases e102
              replace hx102_0 := (HB.out.cell (World.block_lt_of_cell? w _ hx102_0)).trans hx102_0
              replace p102 := eq_true p102
              replace q102 := eq_true q102
              go_wp2
              go_meet
              case rel => exact ⟨_, (false), (by first | rfl | (simp; done) | (simp [*]; done)), H', ⟨by have := HK1.out; first | omega | exact Nat.le_refl _⟩, ⟨by (with_reducible repeat (first | apply Kd.S_alloc | apply Kd.S_drewN | apply Kd.S_drew)); exact HO_3.out⟩, ⟨by repeat (first | (with_reducible first | exact HB.out | apply below_alloc | apply pw_below_drewN | apply below_drew1) | exact HB.out)⟩⟩
          · rw [if_neg c4] at H
            exact absurd H (by simp)
        case rest =>
          clear HC3
          try clear c1
          try clear p1
          try clear q1
          try clear hx1
          try clear c2
          try clear c2b0
          try clear p2
          try clear c4
          try clear c4b0
          try clear c5
          try clear c5b0
          try clear c5b1
          try clear c6
          try clear c6b0
          try clear p6
          try clear c8
          try clear c8b0
          try clear hx102_0
          try clear hx103_0
          try clear p102
          try clear p103
          try clear q102
          try clear q103
          obtain ⟨kq, x11_2, rfl, HA, HJ2, HO_3, HB⟩ := hcut
          cases kq with
          | zero => exact absurd HA.out (by simp [location_zzLineEnds.j1])
          | succ kj2 =>
            have H := HA.out
            clear HA
            simp only [location_zzLineEnds.j1] at H
            by_cases c9 : x11_2 = true
            · subst c9
              have H1 : (if x3_1.length < 5864062014805 then (location_zzLineEnds.l0 kj2 l0 (x3_1 ++ [(([x4_1, wrap64 (x4_1 + 2)] : List Int))]) (wrap64 ((wrap64 (x4_1 + 1)) + 1))) else (none)) = some r := by rw [if_pos rfl] at H; exact H
              clear H
              have H := H1
              clear H1
              obtain ⟨y104, hy104⟩ : ∃ y_ : List Int, y_ = (([x4_1, wrap64 (x4_1 + 2)] : List Int)) := ⟨_, rfl⟩
              replace H : (if x3_1.length < 5864062014805 then (location_zzLineEnds.l0 kj2 l0 (x3_1 ++ [y104]) (wrap64 ((wrap64 (x4_1 + 1)) + 1))) else (none)) = some r := by first | (rw [hy104]; with_reducible exact H) | (have H2_ := (Option.bind_some _ _).symm.trans H; rw [hy104]; with_reducible exact H2_) | (have H2_ := (Option.bind_some _ _).symm.trans H; with_reducible exact H2_) | with_reducible exact H | (rw [hy104]; exact H) | exact H
              have Ny104 := Aside0.mk hy104
              clear hy104
              by_cases c10 : x3_1.length < 5864062014805
              · rw [if_pos c10] at H
                have LMc10 := Aside0.mk c10
                clear c10
                obtain ⟨y107, hy107⟩ : ∃ y_ : List (List Int), y_ = (x3_1 ++ [y104]) := ⟨_, rfl⟩
                replace H : (location_zzLineEnds.l0 kj2 l0 y107 (wrap64 ((wrap64 (x4_1 + 1)) + 1))) = some r := by first | (rw [hy107]; with_reducible exact H) | (have H2_ := (Option.bind_some _ _).symm.trans H; rw [hy107]; with_reducible exact H2_) | (have H2_ := (Option.bind_some _ _).symm.trans H; with_reducible exact H2_) | with_reducible exact H | (rw [hy107]; exact H) | exact H
                have Ny107 := Aside0.mk hy107
                clear hy107
                have H' := Aside0.mk H
                clear H
                go_wp2_with (first | ((with_reducible refine gate_dst (N := 36) rfl ?_); (try (refine gate_guard (by rfl) ?_; dsimp only)); refine Kd.R_lit (Kd.int .i64) _ 3 ?hg (N := 36) ?hd (xs := ([x4_1, wrap64 (x4_1 + 2)] : List Int)) (inner := [.int .i64 x4_1, .int .i64 (wrap64 (x4_1 + 2))]) (ok := fun _ => True) (okp := fun _ => True) ?hr ?hp (fun _ hk => hk) trivial (Below.refl _ _) (Nat.le_refl _) (by simp) ?_; (case hd => rfl); (case hg => rfl); (case hr => first | (go_simp; done) | (go_simp; rfl)); (case hp => exact (Reps.one (show Kd.M (Kd.int .i64) _ _ _ x4_1 [.int .i64 x4_1] from rfl) (Reps.one (show Kd.M (Kd.int .i64) _ _ _ (wrap64 (x4_1 + 2)) [.int .i64 (wrap64 (x4_1 + 2))] from rfl) (Reps.none _ _)))); intro v105 w11 ho12 hb hg_ hnew_; clear hg_ hnew_; (first | rw [← Ny104.out] at ho12 | (simp only [Int.reduceToNat] at ho12; rw [← Ny104.out] at ho12)); have n0_ := Aside0.mk (Kd.S_elder' (by (with_reducible repeat (first | apply Kd.S_alloc | apply Kd.S_drewN | apply Kd.S_drew)); exact HO_3.out) (Kd.R_base ho12) hb); have n1_ := Aside0.mk (Kd.R_lower ho12 (below_size (by repeat (first | (with_reducible first | exact HB.out | apply below_alloc | apply pw_below_drewN | apply below_drew1) | exact HB.out)))); have n2_ := Aside0.mk (below_step (by repeat (first | (with_reducible first | exact HB.out | apply below_alloc | apply pw_below_drewN | apply below_drew1) | exact HB.out)) hb); clear HO_3; clear HB; have HO_3 := n0_; have HO106 := n1_; have HB := n2_; clear n0_ n1_ n2_; clear hb ho12; obtain ⟨Ao14, co14, eo14⟩ := Kd.R_slice HO106.out; subst eo14) | ((with_reducible refine gate_builtin (b := .append) (xs := #[.tmp 32, .tmp 37]) rfl ?_); (try (refine gate_guard (by rfl) ?_; dsimp only)); at_builtin; refine Kd.S_append (Kd.slice 3 (Kd.int .i64)) (w0 := w) w.heap.size rfl (.tmp 32) (.tmp 37) 360 205 (.slice none 0 0) 24 rfl Tryz.underlying360 info205 rfl (by decide) (by omega) u3 x3_1 y104 [.slice Ao14 y104.length co14] (fun _ => True) (fun k_ => some k_ = (.slice Ao14 y104.length co14 : Value).ownBlock) rfl rfl ?aP (fun k_ hk_ => ((Kd.R_mono (ok' := fun k_ => ((fun _ => True)) k_ ∧ some k_ ≠ (u3 : Value).ownBlock) (Kd.R_apart' (HO106.out) (Kd.S_typed HO_3.out) (by decide)) (fun k_ hk => ⟨trivial, hk.2⟩))).1 k_ hk_.symm) ?aF ?aO ?aB ?aS ?aL ?_; (case aP => exact Kd.M_row (Kd.R_mono (Kd.R_tight rfl (Kd.R_mono (ok' := fun k_ => ((fun _ => True)) k_ ∧ some k_ ≠ (u3 : Value).ownBlock) (Kd.R_apart' (HO106.out) (Kd.S_typed HO_3.out) (by decide)) (fun k_ hk => ⟨trivial, hk.2⟩))) (fun _ h_ => h_))); (case aB => exact (by repeat (first | (with_reducible first | exact HB.out | apply below_alloc | apply pw_below_drewN | apply below_drew1) | exact HB.out))); (case aF => exact (fun _ _ => trivial)); (case aO => exact (by (with_reducible repeat (first | apply Kd.S_alloc | apply Kd.S_drewN | apply Kd.S_drew)); exact Kd.S_mono HO_3.out (fun k_ hk => ⟨trivial, fun e_ => hk.2 e_⟩))); (case aS => exact (below_size (by repeat (first | (with_reducible first | exact HB.out | apply below_alloc | apply pw_below_drewN | apply below_drew1) | exact HB.out)))); (case aL => have := LMc10.out; omega); intro v108 w13 ho hb hg hat; rw [← Ny107.out] at ho; have n0_ := Aside0.mk (hb); have n1_ := Aside0.mk (ho); clear HB; clear HO_3; clear HO106; have HB := n0_; have HO109 := n1_; clear n0_ n1_; clear ho hb hg hat))
                go_roundg kj2
                case measure => have := HK1.out; have := HJ2.out; omega
                case rel => exact ⟨(y107), (wrap64 ((wrap64 (x4_1 + 1)) + 1)), (by first | rfl | (simp; done) | (simp [*]; done)), H', ⟨by have := HK1.out; have := HJ2.out; omega⟩, ⟨by (with_reducible repeat (first | apply Kd.S_alloc | apply Kd.S_drewN | apply Kd.S_drew)); exact HO109.out⟩, ⟨by repeat (first | (with_reducible first | exact HB.out | apply below_alloc | apply pw_below_drewN | apply below_drew1) | exact HB.out)⟩⟩
              · rw [if_neg c10] at H
                exact absurd H (by simp)
            · replace c9 := Bool.eq_false_iff.mpr c9
              subst c9
              have H1 : (if 0 ≤ x4_1 then (if x4_1 < (l0.length : Int) then (if (rd l0 x4_1) = 13 then (if x3_1.length < 5864062014805 then (location_zzLineEnds.l0 kj2 l0 (x3_1 ++ [(([x4_1, wrap64 (x4_1 + 1)] : List Int))]) (wrap64 (x4_1 + 1))) else (none)) else (if (rd l0 x4_1) = 10 then (if x3_1.length < 5864062014805 then (location_zzLineEnds.l0 kj2 l0 (x3_1 ++ [(([x4_1, wrap64 (x4_1 + 1)] : List Int))]) (wrap64 (x4_1 + 1))) else (none)) else (location_zzLineEnds.l0 kj2 l0 x3_1 (wrap64 (x4_1 + 1))))) else (none)) else (none)) = some r := by rw [if_neg (show ¬ (false = true) by decide)] at H; exact H
              clear H
              have H := H1
              clear H1
              by_cases c15 : 0 ≤ x4_1
              · rw [if_pos c15] at H
                have c15b0 : decide (0 ≤ x4_1) = true := decide_eq_true c15
                clear c15
                by_cases c16 : x4_1 < (l0.length : Int)
                · rw [if_pos c16] at H
                  have c16b0 : decide (x4_1 < (l0.length : Int)) = true := decide_eq_true c16
                  clear c16
                  by_cases c17 : (rd l0 x4_1) = 13
                  · rw [if_pos c17] at H
                    have c17b0 : ((rd l0 x4_1) == 13) = true := beq_iff_eq.mpr c17
                    have c17b1 : ((rd l0 x4_1) != 13) = false := bne_eq_false_iff_eq.mpr c17
                    clear c17
                    obtain ⟨y111, hy111⟩ : ∃ y_ : List Int, y_ = (([x4_1, wrap64 (x4_1 + 1)] : List Int)) := ⟨_, rfl⟩
                    replace H : (if x3_1.length < 5864062014805 then (location_zzLineEnds.l0 kj2 l0 (x3_1 ++ [y111]) (wrap64 (x4_1 + 1))) else (none)) = some r := by first | (rw [hy111]; with_reducible exact H) | (have H2_ := (Option.bind_some _ _).symm.trans H; rw [hy111]; with_reducible exact H2_) | (have H2_ := (Option.bind_some _ _).symm.trans H; with_reducible exact H2_) | with_reducible exact H | (rw [hy111]; exact H) | exact H
                    have Ny111 := Aside0.mk hy111
                    clear hy111
                    by_cases c18 : x3_1.length < 5864062014805
                    · rw [if_pos c18] at H
                      have LMc18 := Aside0.mk c18
                      clear c18
                      obtain ⟨y114, hy114⟩ : ∃ y_ : List (List Int), y_ = (x3_1 ++ [y111]) := ⟨_, rfl⟩
                      replace H : (location_zzLineEnds.l0 kj2 l0 y114 (wrap64 (x4_1 + 1))) = some r := by first | (rw [hy114]; with_reducible exact H) | (have H2_ := (Option.bind_some _ _).symm.trans H; rw [hy114]; with_reducible exact H2_) | (have H2_ := (Option.bind_some _ _).symm.trans H; with_reducible exact H2_) | with_reducible exact H | (rw [hy114]; exact H) | exact H
                      have Ny114 := Aside0.mk hy114
                      clear hy114
                      have H' := Aside0.mk H
                      clear H
                      have p110 : 0 ≤ (x4_1 : Int) := of_decide_eq_true (by first | (with_reducible assumption) | assumption)
                      have q110 : x4_1 < (l0.length : Int) := of_decide_eq_true (by first | (with_reducible assumption) | assumption)
                      obtain ⟨ad110, e110, hx110_0⟩ := Kd.at_int HR0.out x4_1 p110 q110
                      cases e110
                      replace hx110_0 := (HB.out.cell (World.block_lt_of_cell? w _ hx110_0)).trans hx110_0
                      replace p110 := eq_true p110
                      replace q110 := eq_true q110
                      go_wp2_with (first | ((with_reducible refine gate_dst (N := 58) rfl ?_); (try (refine gate_guard (by rfl) ?_; dsimp only)); refine Kd.R_lit (Kd.int .i64) _ 3 ?hg (N := 58) ?hd (xs := ([x4_1, wrap64 (x4_1 + 1)] : List Int)) (inner := [.int .i64 x4_1, .int .i64 (wrap64 (x4_1 + 1))]) (ok := fun _ => True) (okp := fun _ => True) ?hr ?hp (fun _ hk => hk) trivial (Below.refl _ _) (Nat.le_refl _) (by simp) ?_; (case hd => rfl); (case hg => rfl); (case hr => first | (go_simp; done) | (go_simp; rfl)); (case hp => exact (Reps.one (show Kd.M (Kd.int .i64) _ _ _ x4_1 [.int .i64 x4_1] from rfl) (Reps.one (show Kd.M (Kd.int .i64) _ _ _ (wrap64 (x4_1 + 1)) [.int .i64 (wrap64 (x4_1 + 1))] from rfl) (Reps.none _ _)))); intro v112 w19 ho20 hb hg_ hnew_; clear hg_ hnew_; (first | rw [← Ny111.out] at ho20 | (simp only [Int.reduceToNat] at ho20; rw [← Ny111.out] at ho20)); have n0_ := Aside0.mk (Kd.S_elder' (by (with_reducible repeat (first | apply Kd.S_alloc | apply Kd.S_drewN | apply Kd.S_drew)); exact HO_3.out) (Kd.R_base ho20) hb); have n1_ := Aside0.mk (Kd.R_lower ho20 (below_size (by repeat (first | (with_reducible first | exact HB.out | apply below_alloc | apply pw_below_drewN | apply below_drew1) | exact HB.out)))); have n2_ := Aside0.mk (below_step (by repeat (first | (with_reducible first | exact HB.out | apply below_alloc | apply pw_below_drewN | apply below_drew1) | exact HB.out)) hb); clear HO_3; clear HB; have HO_3 := n0_; have HO113 := n1_; have HB := n2_; clear n0_ n1_ n2_; clear hb ho20; obtain ⟨Ao22, co22, eo22⟩ := Kd.R_slice HO113.out; subst eo22) | ((with_reducible refine gate_builtin (b := .append) (xs := #[.tmp 54, .tmp 59]) rfl ?_); (try (refine gate_guard (by rfl) ?_; dsimp only)); at_builtin; refine Kd.S_append (Kd.slice 3 (Kd.int .i64)) (w0 := w) w.heap.size rfl (.tmp 54) (.tmp 59) 360 205 (.slice none 0 0) 24 rfl Tryz.underlying360 info205 rfl (by decide) (by omega) u3 x3_1 y111 [.slice Ao22 y111.length co22] (fun _ => True) (fun k_ => some k_ = (.slice Ao22 y111.length co22 : Value).ownBlock) rfl rfl ?aP (fun k_ hk_ => ((Kd.R_mono (ok' := fun k_ => ((fun _ => True)) k_ ∧ some k_ ≠ (u3 : Value).ownBlock) (Kd.R_apart' (HO113.out) (Kd.S_typed HO_3.out) (by decide)) (fun k_ hk => ⟨trivial, hk.2⟩))).1 k_ hk_.symm) ?aF ?aO ?aB ?aS ?aL ?_; (case aP => exact Kd.M_row (Kd.R_mono (Kd.R_tight rfl (Kd.R_mono (ok' := fun k_ => ((fun _ => True)) k_ ∧ some k_ ≠ (u3 : Value).ownBlock) (Kd.R_apart' (HO113.out) (Kd.S_typed HO_3.out) (by decide)) (fun k_ hk => ⟨trivial, hk.2⟩))) (fun _ h_ => h_))); (case aB => exact (by repeat (first | (with_reducible first | exact HB.out | apply below_alloc | apply pw_below_drewN | apply below_drew1) | exact HB.out))); (case aF => exact (fun _ _ => trivial)); (case aO => exact (by (with_reducible repeat (first | apply Kd.S_alloc | apply Kd.S_drewN | apply Kd.S_drew)); exact Kd.S_mono HO_3.out (fun k_ hk => ⟨trivial, fun e_ => hk.2 e_⟩))); (case aS => exact (below_size (by repeat (first | (with_reducible first | exact HB.out | apply below_alloc | apply pw_below_drewN | apply below_drew1) | exact HB.out)))); (case aL => have := LMc18.out; omega); intro v115 w21 ho hb hg hat; rw [← Ny114.out] at ho; have n0_ := Aside0.mk (hb); have n1_ := Aside0.mk (ho); clear HB; clear HO_3; clear HO113; have HB := n0_; have HO116 := n1_; clear n0_ n1_; clear ho hb hg hat))
                      go_roundg kj2
                      case measure => have := HK1.out; have := HJ2.out; omega
                      case rel => exact ⟨(y114), (wrap64 (x4_1 + 1)), (by first | rfl | (simp; done) | (simp [*]; done)), H', ⟨by have := HK1.out; have := HJ2.out; omega⟩, ⟨by (with_reducible repeat (first | apply Kd.S_alloc | apply Kd.S_drewN | apply Kd.S_drew)); exact HO116.out⟩, ⟨by repeat (first | (with_reducible first | exact HB.out | apply below_alloc | apply pw_below_drewN | apply below_drew1) | exact HB.out)⟩⟩
                    · rw [if_neg c18] at H
                      exact absurd H (by simp)
                  · rw [if_neg c17] at H
                    have c17b0 : ((rd l0 x4_1) == 13) = false := beq_eq_false_iff_ne.mpr c17
                    have c17b1 : ((rd l0 x4_1) != 13) = true := bne_iff_ne.mpr c17
                    by_cases c23 : (rd l0 x4_1) = 10
                    · rw [if_pos c23] at H
                      have c23b0 : ((rd l0 x4_1) == 10) = true := beq_iff_eq.mpr c23
                      have c23b1 : ((rd l0 x4_1) != 10) = false := bne_eq_false_iff_eq.mpr c23
                      clear c23
                      obtain ⟨y118, hy118⟩ : ∃ y_ : List Int, y_ = (([x4_1, wrap64 (x4_1 + 1)] : List Int)) := ⟨_, rfl⟩
                      replace H : (if x3_1.length < 5864062014805 then (location_zzLineEnds.l0 kj2 l0 (x3_1 ++ [y118]) (wrap64 (x4_1 + 1))) else (none)) = some r := by first | (rw [hy118]; with_reducible exact H) | (have H2_ := (Option.bind_some _ _).symm.trans H; rw [hy118]; with_reducible exact H2_) | (have H2_ := (Option.bind_some _ _).symm.trans H; with_reducible exact H2_) | with_reducible exact H | (rw [hy118]; exact H) | exact H
                      have Ny118 := Aside0.mk hy118
                      clear hy118
                      by_cases c24 : x3_1.length < 5864062014805
                      · rw [if_pos c24] at H
                        have LMc24 := Aside0.mk c24
                        clear c24
                        obtain ⟨y121, hy121⟩ : ∃ y_ : List (List Int), y_ = (x3_1 ++ [y118]) := ⟨_, rfl⟩
                        replace H : (location_zzLineEnds.l0 kj2 l0 y121 (wrap64 (x4_1 + 1))) = some r := by first | (rw [hy121]; with_reducible exact H) | (have H2_ := (Option.bind_some _ _).symm.trans H; rw [hy121]; with_reducible exact H2_) | (have H2_ := (Option.bind_some _ _).symm.trans H; with_reducible exact H2_) | with_reducible exact H | (rw [hy121]; exact H) | exact H
                        have Ny121 := Aside0.mk hy121
                        clear hy121
                        have H' := Aside0.mk H
                        clear H
                        have p110 : 0 ≤ (x4_1 : Int) := of_decide_eq_true (by first | (with_reducible assumption) | assumption)
                        have q110 : x4_1 < (l0.length : Int) := of_decide_eq_true (by first | (with_reducible assumption) | assumption)
                        obtain ⟨ad110, e110, hx110_0⟩ := Kd.at_int HR0.out x4_1 p110 q110
                        cases e110
                        replace hx110_0 := (HB.out.cell (World.block_lt_of_cell? w _ hx110_0)).trans hx110_0
                        replace p110 := eq_true p110
                        replace q110 := eq_true q110
                        have p117 : 0 ≤ (x4_1 : Int) := of_decide_eq_true (by first | (with_reducible assumption) | assumption)
                        have q117 : x4_1 < (l0.length : Int) := of_decide_eq_true (by first | (with_reducible assumption) | assumption)
                        obtain ⟨ad117, e117, hx117_0⟩ := Kd.at_int HR0.out x4_1 p117 q117
                        obtain rfl : ad110 = ad117 := (by injection e117)
                        replace hx117_0 := (HB.out.cell (World.block_lt_of_cell? w _ hx117_0)).trans hx117_0
                        replace p117 := eq_true p117
                        replace q117 := eq_true q117
                        go_wp2_with (first | ((with_reducible refine gate_dst (N := 58) rfl ?_); (try (refine gate_guard (by rfl) ?_; dsimp only)); refine Kd.R_lit (Kd.int .i64) _ 3 ?hg (N := 58) ?hd (xs := ([x4_1, wrap64 (x4_1 + 1)] : List Int)) (inner := [.int .i64 x4_1, .int .i64 (wrap64 (x4_1 + 1))]) (ok := fun _ => True) (okp := fun _ => True) ?hr ?hp (fun _ hk => hk) trivial (Below.refl _ _) (Nat.le_refl _) (by simp) ?_; (case hd => rfl); (case hg => rfl); (case hr => first | (go_simp; done) | (go_simp; rfl)); (case hp => exact (Reps.one (show Kd.M (Kd.int .i64) _ _ _ x4_1 [.int .i64 x4_1] from rfl) (Reps.one (show Kd.M (Kd.int .i64) _ _ _ (wrap64 (x4_1 + 1)) [.int .i64 (wrap64 (x4_1 + 1))] from rfl) (Reps.none _ _)))); intro v119 w25 ho26 hb hg_ hnew_; clear hg_ hnew_; (first | rw [← Ny118.out] at ho26 | (simp only [Int.reduceToNat] at ho26; rw [← Ny118.out] at ho26)); have n0_ := Aside0.mk (Kd.S_elder' (by (with_reducible repeat (first | apply Kd.S_alloc | apply Kd.S_drewN | apply Kd.S_drew)); exact HO_3.out) (Kd.R_base ho26) hb); have n1_ := Aside0.mk (Kd.R_lower ho26 (below_size (by repeat (first | (with_reducible first | exact HB.out | apply below_alloc | apply pw_below_drewN | apply below_drew1) | exact HB.out)))); have n2_ := Aside0.mk (below_step (by repeat (first | (with_reducible first | exact HB.out | apply below_alloc | apply pw_below_drewN | apply below_drew1) | exact HB.out)) hb); clear HO_3; clear HB; have HO_3 := n0_; have HO120 := n1_; have HB := n2_; clear n0_ n1_ n2_; clear hb ho26; obtain ⟨Ao28, co28, eo28⟩ := Kd.R_slice HO120.out; subst eo28) | ((with_reducible refine gate_builtin (b := .append) (xs := #[.tmp 54, .tmp 59]) rfl ?_); (try (refine gate_guard (by rfl) ?_; dsimp only)); at_builtin; refine Kd.S_append (Kd.slice 3 (Kd.int .i64)) (w0 := w) w.heap.size rfl (.tmp 54) (.tmp 59) 360 205 (.slice none 0 0) 24 rfl Tryz.underlying360 info205 rfl (by decide) (by omega) u3 x3_1 y118 [.slice Ao28 y118.length co28] (fun _ => True) (fun k_ => some k_ = (.slice Ao28 y118.length co28 : Value).ownBlock) rfl rfl ?aP (fun k_ hk_ => ((Kd.R_mono (ok' := fun k_ => ((fun _ => True)) k_ ∧ some k_ ≠ (u3 : Value).ownBlock) (Kd.R_apart' (HO120.out) (Kd.S_typed HO_3.out) (by decide)) (fun k_ hk => ⟨trivial, hk.2⟩))).1 k_ hk_.symm) ?aF ?aO ?aB ?aS ?aL ?_; (case aP => exact Kd.M_row (Kd.R_mono (Kd.R_tight rfl (Kd.R_mono (ok' := fun k_ => ((fun _ => True)) k_ ∧ some k_ ≠ (u3 : Value).ownBlock) (Kd.R_apart' (HO120.out) (Kd.S_typed HO_3.out) (by decide)) (fun k_ hk => ⟨trivial, hk.2⟩))) (fun _ h_ => h_))); (case aB => exact (by repeat (first | (with_reducible first | exact HB.out | apply below_alloc | apply pw_below_drewN | apply below_drew1) | exact HB.out))); (case aF => exact (fun _ _ => trivial)); (case aO => exact (by (with_reducible repeat (first | apply Kd.S_alloc | apply Kd.S_drewN | apply Kd.S_drew)); exact Kd.S_mono HO_3.out (fun k_ hk => ⟨trivial, fun e_ => hk.2 e_⟩))); (case aS => exact (below_size (by repeat (first | (with_reducible first | exact HB.out | apply below_alloc | apply pw_below_drewN | apply below_drew1) | exact HB.out)))); (case aL => have := LMc24.out; omega); intro v122 w27 ho hb hg hat; rw [← Ny121.out] at ho; have n0_ := Aside0.mk (hb); have n1_ := Aside0.mk (ho); clear HB; clear HO_3; clear HO120; have HB := n0_; have HO123 := n1_; clear n0_ n1_; clear ho hb hg hat))
                        go_roundg kj2
                        case measure => have := HK1.out; have := HJ2.out; omega
                        case rel => exact ⟨(y121), (wrap64 (x4_1 + 1)), (by first | rfl | (simp; done) | (simp [*]; done)), H', ⟨by have := HK1.out; have := HJ2.out; omega⟩, ⟨by (with_reducible repeat (first | apply Kd.S_alloc | apply Kd.S_drewN | apply Kd.S_drew)); exact HO123.out⟩, ⟨by repeat (first | (with_reducible first | exact HB.out | apply below_alloc | apply pw_below_drewN | apply below_drew1) | exact HB.out)⟩⟩
                      · rw [if_neg c24] at H
                        exact absurd H (by simp)
                    · rw [if_neg c23] at H
                      have c23b0 : ((rd l0 x4_1) == 10) = false := beq_eq_false_iff_ne.mpr c23
                      have c23b1 : ((rd l0 x4_1) != 10) = true := bne_iff_ne.mpr c23
                      have H' := Aside0.mk H
                      clear H
                      have p110 : 0 ≤ (x4_1 : Int) := of_decide_eq_true (by first | (with_reducible assumption) | assumption)
                      have q110 : x4_1 < (l0.length : Int) := of_decide_eq_true (by first | (with_reducible assumption) | assumption)
                      obtain ⟨ad110, e110, hx110_0⟩ := Kd.at_int HR0.out x4_1 p110 q110
                      cases e110
                      replace hx110_0 := (HB.out.cell (World.block_lt_of_cell? w _ hx110_0)).trans hx110_0
                      replace p110 := eq_true p110
                      replace q110 := eq_true q110
                      have p117 : 0 ≤ (x4_1 : Int) := of_decide_eq_true (by first | (with_reducible assumption) | assumption)
                      have q117 : x4_1 < (l0.length : Int) := of_decide_eq_true (by first | (with_reducible assumption) | assumption)
                      obtain ⟨ad117, e117, hx117_0⟩ := Kd.at_int HR0.out x4_1 p117 q117
                      obtain rfl : ad110 = ad117 := (by injection e117)
                      replace hx117_0 := (HB.out.cell (World.block_lt_of_cell? w _ hx117_0)).trans hx117_0
                      replace p117 := eq_true p117
                      replace q117 := eq_true q117
                      go_wp2
                      go_roundg kj2
                      case measure => have := HK1.out; have := HJ2.out; omega
                      case rel => exact ⟨(x3_1), (wrap64 (x4_1 + 1)), (by first | rfl | (simp; done) | (simp [*]; done)), H', ⟨by have := HK1.out; have := HJ2.out; omega⟩, ⟨by (with_reducible repeat (first | apply Kd.S_alloc | apply Kd.S_drewN | apply Kd.S_drew)); exact HO_3.out⟩, ⟨by repeat (first | (with_reducible first | exact HB.out | apply below_alloc | apply pw_below_drewN | apply below_drew1) | exact HB.out)⟩⟩
                · rw [if_neg c16] at H
                  exact absurd H (by simp)
              · rw [if_neg c15] at H
                exact absurd H (by simp)
      · rw [if_neg c2] at H
        have c2b0 : decide (x4_1 < (l0.length : Int)) = false := decide_eq_false c2
        clear c2
        obtain rfl := Option.some.inj H
        go_wp2
        go_ret
        exact ⟨_, by first | rfl | (simp [errW_none, errW_some] <;> rfl) | (simp [*, errW_none, errW_some] <;> rfl), by (with_reducible repeat (first | apply Kd.S_alloc | apply Kd.S_drewN | apply Kd.S_drew)); exact HO_3.out, by repeat (first | (with_reducible first | exact HB.out | apply below_alloc | apply pw_below_drewN | apply below_drew1) | exact HB.out)⟩

-- NOT PRINTED: function 174 (location_GetLocation)

-- NOT PRINTED: function 142 (gqlerrors_newError)

-- NOT PRINTED: function 91 (gqlerrors_NewError)

-- NOT PRINTED: function 45 (gqlerrors_NewSyntaxError)

-- NOT PRINTED: function 77 (parser_expect)

-- NOT PRINTED: function 111 (parser_unexpectedEmpty)

-- NOT PRINTED: function 74 (parser_reverse)

-- NOT PRINTED: function 78 (ast_NewName)

-- NOT PRINTED: function 39 (parser_parseName)

-- NOT PRINTED: function 21 (parser_unexpected)

-- NOT PRINTED: function 156 (ast_NewVariable)

-- NOT PRINTED: function 114 (parser_parseVariable)

-- NOT PRINTED: function 171 (parser_parseConstValue)

-- NOT PRINTED: function 183 (ast_NewListValue)

-- NOT PRINTED: function 159 (parser_parseList)

-- NOT PRINTED: function 192 (ast_NewObjectField)

-- NOT PRINTED: function 184 (parser_parseObjectField)

-- NOT PRINTED: function 185 (ast_NewObjectValue)

-- NOT PRINTED: function 160 (parser_parseObject)

-- NOT PRINTED: function 161 (ast_NewIntValue)

-- NOT PRINTED: function 162 (ast_NewFloatValue)

-- NOT PRINTED: function 186 (ast_NewStringValue)

-- NOT PRINTED: function 163 (parser_parseStringLiteral)

-- NOT PRINTED: function 164 (ast_NewBooleanValue)

-- NOT PRINTED: function 165 (ast_NewEnumValue)

-- NOT PRINTED: function 116 (parser_parseValueLiteral)

-- NOT PRINTED: function 187 (ast_NewArgument)

-- NOT PRINTED: function 166 (parser_parseArgument)

-- NOT PRINTED: function 118 (parser_parseArguments)

-- NOT PRINTED: function 119 (ast_NewDirective)

-- NOT PRINTED: function 80 (parser_parseDirective)

-- NOT PRINTED: function 41 (parser_parseDirectives)

-- NOT PRINTED: function 121 (parser_parseFragmentName)

-- NOT PRINTED: function 167 (ast_NewNamed)

-- NOT PRINTED: function 122 (parser_parseNamed)

-- NOT PRINTED: function 153 (ast_NewFragmentSpread)

-- NOT PRINTED: function 154 (ast_NewInlineFragment)

-- NOT PRINTED: function 112 (parser_parseFragment)

-- NOT PRINTED: function 155 (ast_NewField)

-- NOT PRINTED: function 113 (parser_parseField)

-- NOT PRINTED: function 75 (parser_parseSelection)

-- NOT PRINTED: function 76 (ast_NewSelectionSet)

-- NOT PRINTED: function 36 (parser_parseSelectionSet)

-- NOT PRINTED: function 37 (ast_NewOperationDefinition)

-- NOT PRINTED: function 38 (parser_parseOperationType)

-- NOT PRINTED: function 157 (ast_NewList)

-- NOT PRINTED: function 158 (ast_NewNonNull)

-- NOT PRINTED: function 115 (parser_parseType)

-- NOT PRINTED: function 117 (ast_NewVariableDefinition)

-- NOT PRINTED: function 79 (parser_parseVariableDefinition)

-- NOT PRINTED: function 40 (parser_parseVariableDefinitions)

-- NOT PRINTED: function 19 (parser_parseOperationDefinition)

-- NOT PRINTED: function 42 (parser_peekDescription)

-- NOT PRINTED: function 43 (parser_lookahead)

-- NOT PRINTED: function 120 (parser_expectKeyWord)

-- NOT PRINTED: function 123 (ast_NewFragmentDefinition)

-- NOT PRINTED: function 81 (parser_parseFragmentDefinition)

-- NOT PRINTED: function 168 (ast_NewOperationTypeDefinition)

-- NOT PRINTED: function 124 (parser_parseOperationTypeDefinition)

-- NOT PRINTED: function 125 (ast_NewSchemaDefinition)

-- NOT PRINTED: function 82 (parser_parseSchemaDefinition)

-- NOT PRINTED: function 126 (parser_parseDescription)

-- NOT PRINTED: function 127 (ast_NewScalarDefinition)

-- NOT PRINTED: function 83 (parser_parseScalarTypeDefinition)

-- NOT PRINTED: function 128 (parser_parseImplementsInterfaces)

-- NOT PRINTED: function 172 (ast_NewInputValueDefinition)

-- NOT PRINTED: function 136 (parser_parseInputValueDef)

-- NOT PRINTED: function 139 (parser_parseArgumentDefs)

-- NOT PRINTED: function 169 (ast_NewFieldDefinition)

-- NOT PRINTED: function 129 (parser_parseFieldDefinition)

-- NOT PRINTED: function 130 (ast_NewObjectDefinition)

-- NOT PRINTED: function 84 (parser_parseObjectTypeDefinition)

-- NOT PRINTED: function 131 (ast_NewInterfaceDefinition)

-- NOT PRINTED: function 85 (parser_parseInterfaceTypeDefinition)

-- NOT PRINTED: function 132 (parser_parseUnionMembers)

-- NOT PRINTED: function 133 (ast_NewUnionDefinition)

-- NOT PRINTED: function 86 (parser_parseUnionTypeDefinition)

-- NOT PRINTED: function 170 (ast_NewEnumValueDefinition)

-- NOT PRINTED: function 134 (parser_parseEnumValueDefinition)

-- NOT PRINTED: function 135 (ast_NewEnumDefinition)

-- NOT PRINTED: function 87 (parser_parseEnumTypeDefinition)

-- NOT PRINTED: function 137 (ast_NewInputObjectDefinition)

-- NOT PRINTED: function 88 (parser_parseInputObjectTypeDefinition)

-- NOT PRINTED: function 138 (ast_NewTypeExtensionDefinition)

-- NOT PRINTED: function 89 (parser_parseTypeExtensionDefinition)

-- NOT PRINTED: function 140 (parser_parseDirectiveLocations)

-- NOT PRINTED: function 141 (ast_NewDirectiveDefinition)

-- NOT PRINTED: function 90 (parser_parseDirectiveDefinition)

-- NOT PRINTED: function 44 (parser_zzDefinition)

-- NOT PRINTED: function 20 (parser_parseTypeSystemDefinition)

-- NOT PRINTED: function 22 (ast_NewDocument)

-- NOT PRINTED: function 13 (parser_parseDocument)

-- NOT PRINTED: function 9 (parser_Parse)

-- NOT PRINTED: function 7 (impl_parsed)

-- NOT PRINTED: function 14 (impl_taker_put)

-- NOT PRINTED: function 10 (impl_taken)

-- NOT PRINTED: function 8 (impl_data)

-- NOT PRINTED: function 5 (impl_Parse)

-- NOT PRINTED: function 3 (laws_FnPieceRefused)

end Go.Proofs.YthbinlnpipgobaaGreatDoor.PFnPieceRefused
