-- PRINTED BY print.sh 35421559b90ae4d0a3588c463048766b98c2df88dd9212a6774a882060cdf62d: not written by this session
import Derived.Test.YtofafhboagfihaaPFnWrapx0
namespace Go.Proofs.Ytofafhboagfihaa.PFnWrap
open Go.RowKit Go.Proofs.YtofafhboagfihaaW.PrintWords Go.Proofs.YtofafhboagfihaaW.PrintLast Go.Proofs.YtofafhboagfihaaW.PrintMore
attribute [local go_sem] max2_int min2_int max_two min_two max_three min_three max_four min_four   -- for this text's walks alone
set_option linter.unusedVariables false
set_option linter.unusedSimpArgs false

/-! ### laws_pieces9: function 6 -/
def laws_pieces9.l0 : Nat → List ByteArray → Int → Int → Option (Bool)
  | 0, _, _, _ => none
  | k + 1, x0, x3, x4 => if x4 < (x0.length : Int) then (if 0 ≤ x4 then (laws_pieces9.l0 k x0 (wrap64 (x3 + ((rdOf ByteArray.empty x0 x4).size : Int))) (wrap64 (x4 + 1))) else (none)) else (if (x0.length : Int) ≤ 50 then (some (decide (x3 ≤ 2000))) else (some false))
def laws_pieces9.f (k : Nat) (l0 : List ByteArray) : Option (Bool) := laws_pieces9.l0 k l0 0 0
theorem laws_pieces9.mono_l : ∀ k, (∀ y0 y1 y2, LeO (laws_pieces9.l0 k y0 y1 y2) (laws_pieces9.l0 (k + 1) y0 y1 y2))
  | 0 => fun _ _ _ r h => by simp [laws_pieces9.l0] at h
  | k + 1 => by
    have ih0 := laws_pieces9.mono_l k
    · intro y0 y1 y2
      unfold laws_pieces9.l0
      repeat' first
      | (with_reducible exact ih0 _ _ _)
      | (with_reducible exact LeO.refl _)
      | (with_reducible exact LeO.none _)
      | (with_reducible refine LeO.ite ?_ ?_)
      | (with_reducible refine LeO.bind ?_ (fun _ => ?_))
      | exact ih0 _ _ _
      | exact LeO.none _
      | refine LeO.ite ?_ ?_
      | refine LeO.bind ?_ (fun _ => ?_)
theorem laws_pieces9.mono : ∀ a0 k, LeO (laws_pieces9.f k a0) (laws_pieces9.f (k + 1) a0) := by
  intro a0 k
  have ih0 := laws_pieces9.mono_l k
  unfold laws_pieces9.f
  repeat' first
      | (with_reducible exact ih0 _ _ _)
      | (with_reducible exact LeO.refl _)
      | (with_reducible exact LeO.none _)
      | (with_reducible refine LeO.ite ?_ ?_)
      | (with_reducible refine LeO.bind ?_ (fun _ => ?_))
      | exact ih0 _ _ _
      | exact LeO.none _
      | refine LeO.ite ?_ ?_
      | refine LeO.bind ?_ (fun _ => ?_)
set_option maxHeartbeats 8000000 in
set_option maxRecDepth 100000 in
theorem laws_pieces9.calls (k : Nat) (A0 : Option Addr) (c0 : Nat) (l0 : List ByteArray) (r : Bool) (w : World) (hr0 : Kd.C Kd.string w A0 l0.length l0) (hc0 : l0.length ≤ c0) (h : laws_pieces9.f k l0 = some r) :
    Calls Try.prog 6 #[.slice A0 l0.length c0] w fun e w' => e = .returned (.bool r) ∧ Drawn0 w w' := by
  have HR0 := Aside0.mk hr0
  have HC0 := Aside0.mk hc0
  clear hr0 hc0
  have H : (laws_pieces9.l0 k l0 0 0) = some r := h
  clear h
  have H' := Aside0.mk H
  clear H
  go_enter Try.func6, Try.ntmps6
  go_wp2
  go_loopg [3, 4] k (fun kq v3 v4 w' => ∃ (x3_1 : Int) (x4_1 : Int), v3 = .int .i64 x3_1 ∧ v4 = .int .i64 x4_1 ∧ Aside0 (laws_pieces9.l0 kq l0 x3_1 x4_1 = some r) ∧ Aside0 (kq ≤ k) ∧ Drawn0 w w')
  case atStart => exact ⟨(0), (0), (by first | rfl | (simp; done) | (simp [*]; done)), (by first | rfl | (simp; done) | (simp [*]; done)), H', ⟨Nat.le_refl _⟩, by repeat (first | exact Drawn0.refl _ | apply Drawn0.step)⟩
  case round =>
    clear H'
    obtain ⟨x3_1, x4_1, rfl, rfl, HA, HK1, ⟨m1, rfl⟩⟩ := hrel
    cases gk with
    | zero => exact absurd HA.out (by simp [laws_pieces9.l0])
    | succ k1 =>
      have H := HA.out
      clear HA
      simp only [laws_pieces9.l0] at H
      by_cases c2 : x4_1 < (l0.length : Int)
      · rw [if_pos c2] at H
        have c2b0 : decide (x4_1 < (l0.length : Int)) = true := decide_eq_true c2
        clear c2
        by_cases c3 : 0 ≤ x4_1
        · rw [if_pos c3] at H
          have c3b0 : decide (0 ≤ x4_1) = true := decide_eq_true c3
          clear c3
          have H' := Aside0.mk H
          clear H
          have p101 : 0 ≤ (x4_1 : Int) := of_decide_eq_true (by first | (with_reducible assumption) | assumption)
          have q101 : x4_1 < (l0.length : Int) := of_decide_eq_true (by first | (with_reducible assumption) | assumption)
          obtain ⟨ad101, e101, hx101_0⟩ := Kd.at_string HR0.out x4_1 p101 q101
          cases e101
          replace p101 := eq_true p101
          replace q101 := eq_true q101
          go_wp2
          go_roundg k1
          case measure => have := HK1.out; omega
          case rel => exact ⟨(wrap64 (x3_1 + ((rdOf ByteArray.empty l0 x4_1).size : Int))), (wrap64 (x4_1 + 1)), (by first | rfl | (simp; done) | (simp [*]; done)), (by first | rfl | (simp; done) | (simp [*]; done)), H', ⟨by have := HK1.out; omega⟩, by repeat (first | exact Drawn0.refl _ | apply Drawn0.step)⟩
        · rw [if_neg c3] at H
          exact absurd H (by simp)
      · rw [if_neg c2] at H
        have c2b0 : decide (x4_1 < (l0.length : Int)) = false := decide_eq_false c2
        clear c2
        by_cases c4 : (l0.length : Int) ≤ 50
        · rw [if_pos c4] at H
          have c4b0 : decide ((l0.length : Int) ≤ 50) = true := decide_eq_true c4
          have c4b1 : decide (l0.length ≤ 50) = true := decide_eq_true (by omega)
          clear c4
          obtain rfl := Option.some.inj H
          go_wp2
          go_ret
          exact ⟨by first | rfl | (simp; done) | (simp [*]; done), by repeat (first | exact Drawn0.refl _ | apply Drawn0.step)⟩
        · rw [if_neg c4] at H
          have c4b0 : decide ((l0.length : Int) ≤ 50) = false := decide_eq_false c4
          have c4b1 : decide (l0.length ≤ 50) = false := decide_eq_false (by omega)
          clear c4
          obtain rfl := Option.some.inj H
          go_wp2
          go_ret
          exact ⟨by first | rfl | (simp; done) | (simp [*]; done), by repeat (first | exact Drawn0.refl _ | apply Drawn0.step)⟩

/-! ### printer_wrap: function 25 -/
def printer_wrap.f (a0 : ByteArray) (a1 : ByteArray) (a2 : ByteArray) : Option (ByteArray) := if a1.toList = ([] : List UInt8) then (some a1) else (if a0.size + a1.size ≤ 9223372036854775807 then (if (a0 ++ a1).size + a2.size ≤ 9223372036854775807 then (some ((a0 ++ a1) ++ a2)) else (none)) else (none))
set_option maxHeartbeats 8000000 in
set_option maxRecDepth 100000 in
theorem printer_wrap.calls (a0 : ByteArray) (a1 : ByteArray) (a2 : ByteArray) (r : ByteArray) (w : World) (h : printer_wrap.f a0 a1 a2 = some r) :
    Calls Try.prog 25 #[.string a0, .string a1, .string a2] w fun e w' => e = .returned (.string r) ∧ Drawn0 w w' := by
  have H : (if a1.toList = ([] : List UInt8) then (some a1) else (if a0.size + a1.size ≤ 9223372036854775807 then (if (a0 ++ a1).size + a2.size ≤ 9223372036854775807 then (some ((a0 ++ a1) ++ a2)) else (none)) else (none))) = some r := h
  clear h
  by_cases c4 : a1.toList = ([] : List UInt8)
  · rw [if_pos c4] at H
    have c4b0 : (a1.toList == ([] : List UInt8)) = true := beq_iff_eq.mpr c4
    have c4b1 : (a1.toList != ([] : List UInt8)) = false := bne_eq_false_iff_eq.mpr c4
    clear c4
    obtain rfl := Option.some.inj H
    go_enter Try.func25, Try.ntmps25
    go_wp2
    go_ret
    exact ⟨by first | rfl | (simp; done) | (simp [*]; done), by repeat (first | exact Drawn0.refl _ | apply Drawn0.step)⟩
  · rw [if_neg c4] at H
    have c4b0 : (a1.toList == ([] : List UInt8)) = false := beq_eq_false_iff_ne.mpr c4
    have c4b1 : (a1.toList != ([] : List UInt8)) = true := bne_iff_ne.mpr c4
    by_cases c5 : a0.size + a1.size ≤ 9223372036854775807
    · rw [if_pos c5] at H
      have c5b0 := eq_true c5
      have c5b1 : decide (a0.size + a1.size ≤ 9223372036854775807) = true := decide_eq_true c5
      try have c5b2 : (9223372036854775807 < a0.size + a1.size) = False := eq_false (Nat.not_lt.2 c5)
      by_cases c6 : (a0 ++ a1).size + a2.size ≤ 9223372036854775807
      · rw [if_pos c6] at H
        have c6b0 := eq_true c6
        have c6b1 : decide ((a0 ++ a1).size + a2.size ≤ 9223372036854775807) = true := decide_eq_true c6
        try have c6b2 : (9223372036854775807 < (a0 ++ a1).size + a2.size) = False := eq_false (Nat.not_lt.2 c6)
        obtain rfl := Option.some.inj H
        go_enter Try.func25, Try.ntmps25
        go_wp2
        go_ret
        exact ⟨by first | rfl | (simp; done) | (simp [*]; done), by repeat (first | exact Drawn0.refl _ | apply Drawn0.step)⟩
      · rw [if_neg c6] at H
        exact absurd H (by simp)
    · rw [if_neg c5] at H
      exact absurd H (by simp)

/-! ### printer_Wrap: function 16 -/
def printer_Wrap.f (a0 : ByteArray) (a1 : ByteArray) (a2 : ByteArray) : Option (ByteArray) := (printer_wrap.f a0 a1 a2).bind fun t102 => (some t102)
set_option maxHeartbeats 8000000 in
set_option maxRecDepth 100000 in
theorem printer_Wrap.calls (a0 : ByteArray) (a1 : ByteArray) (a2 : ByteArray) (r : ByteArray) (w : World) (h : printer_Wrap.f a0 a1 a2 = some r) :
    Calls Try.prog 16 #[.string a0, .string a1, .string a2] w fun e w' => e = .returned (.string r) ∧ Drawn0 w w' := by
  have H : ((printer_wrap.f a0 a1 a2).bind fun t102 => (some t102)) = some r := h
  clear h
  replace H := Option.bind_eq_some_iff.mp H
  obtain ⟨t102, A40, H⟩ := H
  replace H : (some t102) = some r := H
  have A4 := Aside0.mk A40
  clear A40
  obtain rfl := Option.some.inj H
  go_enter Try.func16, Try.ntmps16
  go_wp2_with (first | ((with_reducible refine gate_callee (f := 25) rfl ?_); refine goesL_ (some 10) rfl rfl Try.func25 (by kernel_rfl) rfl #[.string a0, .string a1, .string a2] rfl (by (try simp only [List.map_toArray, List.map_cons, List.map_nil]); first | done | rfl | (simp only [List.length_drop, List.length_take]; rfl)) ?_; (with_reducible refine (printer_wrap.calls a0 a1 a2 t102 _ A4.out).mono ?_); rintro e w' ⟨rfl, ⟨nd, rfl⟩⟩; refine ⟨_, rfl, ?_⟩))
  go_ret
  exact ⟨by first | rfl | (simp; done) | (simp [*]; done), by repeat (first | exact Drawn0.refl _ | apply Drawn0.step)⟩

/-! ### impl_Wrap: function 7 -/
def impl_Wrap.f (a0 : ByteArray) (a1 : ByteArray) (a2 : ByteArray) : Option (ByteArray) := (printer_Wrap.f a0 a1 a2).bind fun t103 => (some t103)
set_option maxHeartbeats 8000000 in
set_option maxRecDepth 100000 in
theorem impl_Wrap.calls (a0 : ByteArray) (a1 : ByteArray) (a2 : ByteArray) (r : ByteArray) (w : World) (h : impl_Wrap.f a0 a1 a2 = some r) :
    Calls Try.prog 7 #[.string a0, .string a1, .string a2] w fun e w' => e = .returned (.string r) ∧ Drawn0 w w' := by
  have H : ((printer_Wrap.f a0 a1 a2).bind fun t103 => (some t103)) = some r := h
  clear h
  replace H := Option.bind_eq_some_iff.mp H
  obtain ⟨t103, A40, H⟩ := H
  replace H : (some t103) = some r := H
  have A4 := Aside0.mk A40
  clear A40
  obtain rfl := Option.some.inj H
  go_enter Try.func7, Try.ntmps7
  go_wp2_with (first | ((with_reducible refine gate_callee (f := 16) rfl ?_); refine goesL_ (some 10) rfl rfl Try.func16 (by kernel_rfl) rfl #[.string a0, .string a1, .string a2] rfl (by (try simp only [List.map_toArray, List.map_cons, List.map_nil]); first | done | rfl | (simp only [List.length_drop, List.length_take]; rfl)) ?_; (with_reducible refine (printer_Wrap.calls a0 a1 a2 t103 _ A4.out).mono ?_); rintro e w' ⟨rfl, ⟨nd, rfl⟩⟩; refine ⟨_, rfl, ?_⟩))
  go_ret
  exact ⟨by first | rfl | (simp; done) | (simp [*]; done), by repeat (first | exact Drawn0.refl _ | apply Drawn0.step)⟩

/-! ### laws_FnWrap: function 3 -/
def laws_FnWrap.j0 : Nat → ByteArray → ByteArray → ByteArray → Bool → Option (Bool)
  | 0, _, _, _, _ => none
  | k + 1, x0, x1, x2, x20 => if x20 = true then (some true) else ((laws_pieces9.f k (([x0, x1, x2] : List ByteArray))).bind fun t107 => (if t107 = true then (if x1.toList = ([] : List UInt8) then ((impl_Wrap.f x0 x1 x2).bind fun t108 => (if t108.toList = ([] : List UInt8) then ((impl_Wrap.f (⟨#[40]⟩ : ByteArray) (⟨#[97]⟩ : ByteArray) (⟨#[41]⟩ : ByteArray)).bind fun t109 => (some (t109.toList == ([40, 97, 41] : List UInt8)))) else (some false))) else (if x0.size + x1.size ≤ 9223372036854775807 then (if (x0 ++ x1).size + x2.size ≤ 9223372036854775807 then ((impl_Wrap.f x0 x1 x2).bind fun t110 => (if t110.toList = ((x0 ++ x1) ++ x2).toList then ((impl_Wrap.f (⟨#[40]⟩ : ByteArray) (⟨#[97]⟩ : ByteArray) (⟨#[41]⟩ : ByteArray)).bind fun t111 => (some (t111.toList == ([40, 97, 41] : List UInt8)))) else (some false))) else (none)) else (none))) else (some true)))
def laws_FnWrap.f (k : Nat) (a0 : ByteArray) (a1 : ByteArray) (a2 : ByteArray) : Option (Bool) := if (a0.size : Int) > 2147483647 then (laws_FnWrap.j0 k a0 a1 a2 true) else (if (a1.size : Int) > 2147483647 then (laws_FnWrap.j0 k a0 a1 a2 true) else (laws_FnWrap.j0 k a0 a1 a2 (decide ((a2.size : Int) > 2147483647))))
theorem laws_FnWrap.mono_l : ∀ k, (∀ y0 y1 y2 y3, LeO (laws_FnWrap.j0 k y0 y1 y2 y3) (laws_FnWrap.j0 (k + 1) y0 y1 y2 y3))
  | 0 => fun _ _ _ _ r h => by simp [laws_FnWrap.j0] at h
  | k + 1 => by
    have ih0 := laws_FnWrap.mono_l k
    · intro y0 y1 y2 y3
      unfold laws_FnWrap.j0
      repeat' first
      | (with_reducible exact ih0 _ _ _ _)
      | (with_reducible exact laws_pieces9.mono _ _)
      | (with_reducible exact LeO.refl _)
      | (with_reducible exact LeO.none _)
      | (with_reducible refine LeO.ite ?_ ?_)
      | (with_reducible refine LeO.bind ?_ (fun _ => ?_))
      | exact ih0 _ _ _ _
      | exact laws_pieces9.mono _ _
      | exact LeO.none _
      | refine LeO.ite ?_ ?_
      | refine LeO.bind ?_ (fun _ => ?_)
theorem laws_FnWrap.mono : ∀ a0 a1 a2 k, LeO (laws_FnWrap.f k a0 a1 a2) (laws_FnWrap.f (k + 1) a0 a1 a2) := by
  intro a0 a1 a2 k
  have ih0 := laws_FnWrap.mono_l k
  unfold laws_FnWrap.f
  repeat' first
      | (with_reducible exact ih0 _ _ _ _)
      | (with_reducible exact laws_pieces9.mono _ _)
      | (with_reducible exact LeO.refl _)
      | (with_reducible exact LeO.none _)
      | (with_reducible refine LeO.ite ?_ ?_)
      | (with_reducible refine LeO.bind ?_ (fun _ => ?_))
      | exact ih0 _ _ _ _
      | exact laws_pieces9.mono _ _
      | exact LeO.none _
      | refine LeO.ite ?_ ?_
      | refine LeO.bind ?_ (fun _ => ?_)
set_option maxHeartbeats 8000000 in
set_option maxRecDepth 100000 in
theorem laws_FnWrap.calls (k : Nat) (a0 : ByteArray) (a1 : ByteArray) (a2 : ByteArray) (r : Bool) (w : World) (h : laws_FnWrap.f k a0 a1 a2 = some r) :
    Calls Try.prog 3 #[.string a0, .string a1, .string a2] w fun e w' => e = .returned (.bool r) ∧ Below w.heap.size w w' := by
  have HB := Aside0.mk (Below.refl w.heap.size w)
  have H : (if (a0.size : Int) > 2147483647 then (laws_FnWrap.j0 k a0 a1 a2 true) else (if (a1.size : Int) > 2147483647 then (laws_FnWrap.j0 k a0 a1 a2 true) else (laws_FnWrap.j0 k a0 a1 a2 (decide ((a2.size : Int) > 2147483647))))) = some r := h
  clear h
  have HC4 := Aside0.mk H
  clear H
  go_enter Try.func3, Try.ntmps3
  go_upto_region 1 with (fail)
  go_cut [20] (fun v20 wc => ∃ (kq : Nat) (x20_3 : Bool), v20 = .bool x20_3 ∧ Aside0 (laws_FnWrap.j0 kq a0 a1 a2 x20_3 = some r) ∧ Aside0 (kq ≤ k) ∧ Aside0 (Below w.heap.size w wc))
  case first =>
    have H := HC4.out
    clear HC4
    by_cases c5 : (a0.size : Int) > 2147483647
    · rw [if_pos c5] at H
      have c5b0 : decide (2147483647 < (a0.size : Int)) = true := decide_eq_true c5
      have c5b1 : decide (2147483647 < a0.size) = true := decide_eq_true (by omega)
      clear c5
      (first | rw [c5b0] | (simp only [i64_w, i32_w]; rw [c5b0]) | skip)
      have H' := Aside0.mk H
      clear H
      go_wp2
      go_meet
      case rel => exact ⟨_, (true), (by first | rfl | (simp; done) | (simp [*]; done)), H', ⟨by first | omega | exact Nat.le_refl _⟩, ⟨by repeat (first | (with_reducible first | exact HB.out | apply below_alloc | apply pw_below_drewN | apply below_drew1) | exact HB.out)⟩⟩
    · rw [if_neg c5] at H
      have c5b0 : decide (2147483647 < (a0.size : Int)) = false := decide_eq_false c5
      have c5b1 : decide (2147483647 < a0.size) = false := decide_eq_false (by omega)
      clear c5
      (first | rw [c5b0] | (simp only [i64_w, i32_w]; rw [c5b0]) | skip)
      by_cases c6 : (a1.size : Int) > 2147483647
      · rw [if_pos c6] at H
        have c6b0 : decide (2147483647 < (a1.size : Int)) = true := decide_eq_true c6
        have c6b1 : decide (2147483647 < a1.size) = true := decide_eq_true (by omega)
        clear c6
        have H' := Aside0.mk H
        clear H
        go_wp2
        go_meet
        case rel => exact ⟨_, (true), (by first | rfl | (simp; done) | (simp [*]; done)), H', ⟨by first | omega | exact Nat.le_refl _⟩, ⟨by repeat (first | (with_reducible first | exact HB.out | apply below_alloc | apply pw_below_drewN | apply below_drew1) | exact HB.out)⟩⟩
      · rw [if_neg c6] at H
        have c6b0 : decide (2147483647 < (a1.size : Int)) = false := decide_eq_false c6
        have c6b1 : decide (2147483647 < a1.size) = false := decide_eq_false (by omega)
        clear c6
        have H' := Aside0.mk H
        clear H
        go_wp2
        go_meet
        case rel => exact ⟨_, (decide ((a2.size : Int) > 2147483647)), (by first | rfl | (simp; done) | (simp [*]; done)), H', ⟨by first | omega | exact Nat.le_refl _⟩, ⟨by repeat (first | (with_reducible first | exact HB.out | apply below_alloc | apply pw_below_drewN | apply below_drew1) | exact HB.out)⟩⟩
  case rest =>
    clear HC4
    try clear p2
    try clear c3
    try clear c5
    try clear c5b0
    try clear c5b1
    try clear c6
    try clear c6b0
    try clear c6b1
    obtain ⟨kq, x20_3, rfl, HA, HJ3, HB⟩ := hcut
    cases kq with
    | zero => exact absurd HA.out (by simp [laws_FnWrap.j0])
    | succ kj3 =>
      have H := HA.out
      clear HA
      simp only [laws_FnWrap.j0] at H
      by_cases c7 : x20_3 = true
      · subst c7
        have H1 : (some true) = some r := by rw [if_pos rfl] at H; exact H
        clear H
        have H := H1
        clear H1
        obtain rfl := Option.some.inj H
        go_wp2
        go_ret
        exact ⟨by first | rfl | (simp [errW_none, errW_some] <;> rfl) | (simp [*, errW_none, errW_some] <;> rfl), by repeat (first | (with_reducible first | exact HB.out | apply below_alloc | apply pw_below_drewN | apply below_drew1) | exact HB.out)⟩
      · replace c7 := Bool.eq_false_iff.mpr c7
        subst c7
        have H1 : ((laws_pieces9.f kj3 (([a0, a1, a2] : List ByteArray))).bind fun t107 => (if t107 = true then (if a1.toList = ([] : List UInt8) then ((impl_Wrap.f a0 a1 a2).bind fun t108 => (if t108.toList = ([] : List UInt8) then ((impl_Wrap.f (⟨#[40]⟩ : ByteArray) (⟨#[97]⟩ : ByteArray) (⟨#[41]⟩ : ByteArray)).bind fun t109 => (some (t109.toList == ([40, 97, 41] : List UInt8)))) else (some false))) else (if a0.size + a1.size ≤ 9223372036854775807 then (if (a0 ++ a1).size + a2.size ≤ 9223372036854775807 then ((impl_Wrap.f a0 a1 a2).bind fun t110 => (if t110.toList = ((a0 ++ a1) ++ a2).toList then ((impl_Wrap.f (⟨#[40]⟩ : ByteArray) (⟨#[97]⟩ : ByteArray) (⟨#[41]⟩ : ByteArray)).bind fun t111 => (some (t111.toList == ([40, 97, 41] : List UInt8)))) else (some false))) else (none)) else (none))) else (some true))) = some r := by rw [if_neg (show ¬ (false = true) by decide)] at H; exact H
        clear H
        have H := H1
        clear H1
        obtain ⟨y104, hy104⟩ : ∃ y_ : List ByteArray, y_ = (([a0, a1, a2] : List ByteArray)) := ⟨_, rfl⟩
        replace H : ((laws_pieces9.f kj3 y104).bind fun t107 => (if t107 = true then (if a1.toList = ([] : List UInt8) then ((impl_Wrap.f a0 a1 a2).bind fun t108 => (if t108.toList = ([] : List UInt8) then ((impl_Wrap.f (⟨#[40]⟩ : ByteArray) (⟨#[97]⟩ : ByteArray) (⟨#[41]⟩ : ByteArray)).bind fun t109 => (some (t109.toList == ([40, 97, 41] : List UInt8)))) else (some false))) else (if a0.size + a1.size ≤ 9223372036854775807 then (if (a0 ++ a1).size + a2.size ≤ 9223372036854775807 then ((impl_Wrap.f a0 a1 a2).bind fun t110 => (if t110.toList = ((a0 ++ a1) ++ a2).toList then ((impl_Wrap.f (⟨#[40]⟩ : ByteArray) (⟨#[97]⟩ : ByteArray) (⟨#[41]⟩ : ByteArray)).bind fun t111 => (some (t111.toList == ([40, 97, 41] : List UInt8)))) else (some false))) else (none)) else (none))) else (some true))) = some r := by first | (rw [hy104]; with_reducible exact H) | (have H2_ := (Option.bind_some _ _).symm.trans H; rw [hy104]; with_reducible exact H2_) | (have H2_ := (Option.bind_some _ _).symm.trans H; with_reducible exact H2_) | with_reducible exact H | (rw [hy104]; exact H) | exact H
        have Ny104 := Aside0.mk hy104
        clear hy104
        replace H := Option.bind_eq_some_iff.mp H
        obtain ⟨t107, A80, H⟩ := H
        replace H : (if t107 = true then (if a1.toList = ([] : List UInt8) then ((impl_Wrap.f a0 a1 a2).bind fun t108 => (if t108.toList = ([] : List UInt8) then ((impl_Wrap.f (⟨#[40]⟩ : ByteArray) (⟨#[97]⟩ : ByteArray) (⟨#[41]⟩ : ByteArray)).bind fun t109 => (some (t109.toList == ([40, 97, 41] : List UInt8)))) else (some false))) else (if a0.size + a1.size ≤ 9223372036854775807 then (if (a0 ++ a1).size + a2.size ≤ 9223372036854775807 then ((impl_Wrap.f a0 a1 a2).bind fun t110 => (if t110.toList = ((a0 ++ a1) ++ a2).toList then ((impl_Wrap.f (⟨#[40]⟩ : ByteArray) (⟨#[97]⟩ : ByteArray) (⟨#[41]⟩ : ByteArray)).bind fun t111 => (some (t111.toList == ([40, 97, 41] : List UInt8)))) else (some false))) else (none)) else (none))) else (some true)) = some r := H
        have A8 := Aside0.mk A80
        clear A80
        by_cases c9 : t107 = true
        · subst c9
          have H1 : (if a1.toList = ([] : List UInt8) then ((impl_Wrap.f a0 a1 a2).bind fun t108 => (if t108.toList = ([] : List UInt8) then ((impl_Wrap.f (⟨#[40]⟩ : ByteArray) (⟨#[97]⟩ : ByteArray) (⟨#[41]⟩ : ByteArray)).bind fun t109 => (some (t109.toList == ([40, 97, 41] : List UInt8)))) else (some false))) else (if a0.size + a1.size ≤ 9223372036854775807 then (if (a0 ++ a1).size + a2.size ≤ 9223372036854775807 then ((impl_Wrap.f a0 a1 a2).bind fun t110 => (if t110.toList = ((a0 ++ a1) ++ a2).toList then ((impl_Wrap.f (⟨#[40]⟩ : ByteArray) (⟨#[97]⟩ : ByteArray) (⟨#[41]⟩ : ByteArray)).bind fun t111 => (some (t111.toList == ([40, 97, 41] : List UInt8)))) else (some false))) else (none)) else (none))) = some r := by rw [if_pos rfl] at H; exact H
          clear H
          have H := H1
          clear H1
          by_cases c10 : a1.toList = ([] : List UInt8)
          · rw [if_pos c10] at H
            have c10b0 : (a1.toList == ([] : List UInt8)) = true := beq_iff_eq.mpr c10
            have c10b1 : (a1.toList != ([] : List UInt8)) = false := bne_eq_false_iff_eq.mpr c10
            clear c10
            replace H := Option.bind_eq_some_iff.mp H
            obtain ⟨t108, A110, H⟩ := H
            replace H : (if t108.toList = ([] : List UInt8) then ((impl_Wrap.f (⟨#[40]⟩ : ByteArray) (⟨#[97]⟩ : ByteArray) (⟨#[41]⟩ : ByteArray)).bind fun t109 => (some (t109.toList == ([40, 97, 41] : List UInt8)))) else (some false)) = some r := H
            have A11 := Aside0.mk A110
            clear A110
            by_cases c12 : t108.toList = ([] : List UInt8)
            · rw [if_pos c12] at H
              have c12b0 : (t108.toList == ([] : List UInt8)) = true := beq_iff_eq.mpr c12
              have c12b1 : (t108.toList != ([] : List UInt8)) = false := bne_eq_false_iff_eq.mpr c12
              clear c12
              replace H := Option.bind_eq_some_iff.mp H
              obtain ⟨t109, A130, H⟩ := H
              replace H : (some (t109.toList == ([40, 97, 41] : List UInt8))) = some r := H
              have A13 := Aside0.mk A130
              clear A130
              obtain rfl := Option.some.inj H
              go_wp2_with (first | ((with_reducible refine gate_dst (N := 24) rfl ?_); (try (refine gate_guard (by rfl) ?_; dsimp only)); refine Kd.R_lit Kd.string _ 9 ?hg (N := 24) ?hd (xs := ([a0, a1, a2] : List ByteArray)) (inner := [.string a0, .string a1, .string a2]) (ok := fun _ => True) (okp := fun _ => True) ?hr ?hp (fun _ hk => hk) trivial (Below.refl _ _) (Nat.le_refl _) (by simp) ?_; (case hd => rfl); (case hg => rfl); (case hr => first | (go_simp; done) | (go_simp; rfl)); (case hp => exact (Reps.one (show Kd.M Kd.string _ _ _ a0 [.string a0] from rfl) (Reps.one (show Kd.M Kd.string _ _ _ a1 [.string a1] from rfl) (Reps.one (show Kd.M Kd.string _ _ _ a2 [.string a2] from rfl) (Reps.none _ _))))); intro v105 w14 ho15 hb hg_ hnew_; clear hg_ hnew_; (first | rw [← Ny104.out] at ho15 | (simp only [Int.reduceToNat] at ho15; rw [← Ny104.out] at ho15)); have n0_ := Aside0.mk (Kd.R_lower ho15 (below_size (by repeat (first | (with_reducible first | exact HB.out | apply below_alloc | apply pw_below_drewN | apply below_drew1) | exact HB.out)))); have n1_ := Aside0.mk (below_step (by repeat (first | (with_reducible first | exact HB.out | apply below_alloc | apply pw_below_drewN | apply below_drew1) | exact HB.out)) hb); clear HB; have HO106 := n0_; have HB := n1_; clear n0_ n1_; clear hb ho15; obtain ⟨Ao16, co16, eo16⟩ := Kd.R_slice HO106.out; subst eo16) | ((with_reducible refine gate_callee (f := 6) rfl ?_); refine goesL_ (some 25) rfl rfl Try.func6 (by kernel_rfl) rfl #[.slice Ao16 y104.length co16] rfl (by (try simp only [List.map_toArray, List.map_cons, List.map_nil]); first | done | rfl | (simp only [List.length_drop, List.length_take]; rfl)) ?_; (with_reducible refine (laws_pieces9.calls kj3 _ _ y104 true _ ?side1 ?side2 A8.out).mono ?_); (case side1 => repeat (first | exact (Kd.R_reads' HO106.out).2.2 | (with_reducible refine Kd.C_alloc ?_ _) | (with_reducible refine Kd.C_drewN ?_ _) | (with_reducible refine Kd.C_drew ?_))); (case side2 => exact (Kd.R_reads' HO106.out).2.1); rintro e w' ⟨rfl, ⟨nd, rfl⟩⟩; refine ⟨_, rfl, ?_⟩) | ((with_reducible refine gate_callee (f := 7) rfl ?_); refine goesL_ (some 37) rfl rfl Try.func7 (by kernel_rfl) rfl #[.string a0, .string a1, .string a2] rfl (by (try simp only [List.map_toArray, List.map_cons, List.map_nil]); first | done | rfl | (simp only [List.length_drop, List.length_take]; rfl)) ?_; (with_reducible refine (impl_Wrap.calls a0 a1 a2 t108 _ A11.out).mono ?_); rintro e w' ⟨rfl, ⟨nd, rfl⟩⟩; refine ⟨_, rfl, ?_⟩) | (go_at_call 7; (with_reducible refine (impl_Wrap.calls (⟨#[40]⟩ : ByteArray) (⟨#[97]⟩ : ByteArray) (⟨#[41]⟩ : ByteArray) t109 _ A13.out).mono ?_); rintro e w' ⟨rfl, ⟨nd, rfl⟩⟩))
              go_ret
              exact ⟨by first | rfl | (simp [errW_none, errW_some] <;> rfl) | (simp [*, errW_none, errW_some] <;> rfl), by repeat (first | (with_reducible first | exact HB.out | apply below_alloc | apply pw_below_drewN | apply below_drew1) | exact HB.out)⟩
            · rw [if_neg c12] at H
              have c12b0 : (t108.toList == ([] : List UInt8)) = false := beq_eq_false_iff_ne.mpr c12
              have c12b1 : (t108.toList != ([] : List UInt8)) = true := bne_iff_ne.mpr c12
              obtain rfl := Option.some.inj H
              go_wp2_with (first | ((with_reducible refine gate_dst (N := 24) rfl ?_); (try (refine gate_guard (by rfl) ?_; dsimp only)); refine Kd.R_lit Kd.string _ 9 ?hg (N := 24) ?hd (xs := ([a0, a1, a2] : List ByteArray)) (inner := [.string a0, .string a1, .string a2]) (ok := fun _ => True) (okp := fun _ => True) ?hr ?hp (fun _ hk => hk) trivial (Below.refl _ _) (Nat.le_refl _) (by simp) ?_; (case hd => rfl); (case hg => rfl); (case hr => first | (go_simp; done) | (go_simp; rfl)); (case hp => exact (Reps.one (show Kd.M Kd.string _ _ _ a0 [.string a0] from rfl) (Reps.one (show Kd.M Kd.string _ _ _ a1 [.string a1] from rfl) (Reps.one (show Kd.M Kd.string _ _ _ a2 [.string a2] from rfl) (Reps.none _ _))))); intro v105 w17 ho18 hb hg_ hnew_; clear hg_ hnew_; (first | rw [← Ny104.out] at ho18 | (simp only [Int.reduceToNat] at ho18; rw [← Ny104.out] at ho18)); have n0_ := Aside0.mk (Kd.R_lower ho18 (below_size (by repeat (first | (with_reducible first | exact HB.out | apply below_alloc | apply pw_below_drewN | apply below_drew1) | exact HB.out)))); have n1_ := Aside0.mk (below_step (by repeat (first | (with_reducible first | exact HB.out | apply below_alloc | apply pw_below_drewN | apply below_drew1) | exact HB.out)) hb); clear HB; have HO106 := n0_; have HB := n1_; clear n0_ n1_; clear hb ho18; obtain ⟨Ao19, co19, eo19⟩ := Kd.R_slice HO106.out; subst eo19) | ((with_reducible refine gate_callee (f := 6) rfl ?_); refine goesL_ (some 25) rfl rfl Try.func6 (by kernel_rfl) rfl #[.slice Ao19 y104.length co19] rfl (by (try simp only [List.map_toArray, List.map_cons, List.map_nil]); first | done | rfl | (simp only [List.length_drop, List.length_take]; rfl)) ?_; (with_reducible refine (laws_pieces9.calls kj3 _ _ y104 true _ ?side1 ?side2 A8.out).mono ?_); (case side1 => repeat (first | exact (Kd.R_reads' HO106.out).2.2 | (with_reducible refine Kd.C_alloc ?_ _) | (with_reducible refine Kd.C_drewN ?_ _) | (with_reducible refine Kd.C_drew ?_))); (case side2 => exact (Kd.R_reads' HO106.out).2.1); rintro e w' ⟨rfl, ⟨nd, rfl⟩⟩; refine ⟨_, rfl, ?_⟩) | ((with_reducible refine gate_callee (f := 7) rfl ?_); refine goesL_ (some 37) rfl rfl Try.func7 (by kernel_rfl) rfl #[.string a0, .string a1, .string a2] rfl (by (try simp only [List.map_toArray, List.map_cons, List.map_nil]); first | done | rfl | (simp only [List.length_drop, List.length_take]; rfl)) ?_; (with_reducible refine (impl_Wrap.calls a0 a1 a2 t108 _ A11.out).mono ?_); rintro e w' ⟨rfl, ⟨nd, rfl⟩⟩; refine ⟨_, rfl, ?_⟩))
              go_ret
              exact ⟨by first | rfl | (simp [errW_none, errW_some] <;> rfl) | (simp [*, errW_none, errW_some] <;> rfl), by repeat (first | (with_reducible first | exact HB.out | apply below_alloc | apply pw_below_drewN | apply below_drew1) | exact HB.out)⟩
          · rw [if_neg c10] at H
            have c10b0 : (a1.toList == ([] : List UInt8)) = false := beq_eq_false_iff_ne.mpr c10
            have c10b1 : (a1.toList != ([] : List UInt8)) = true := bne_iff_ne.mpr c10
            by_cases c20 : a0.size + a1.size ≤ 9223372036854775807
            · rw [if_pos c20] at H
              have c20b0 := eq_true c20
              have c20b1 : decide (a0.size + a1.size ≤ 9223372036854775807) = true := decide_eq_true c20
              try have c20b2 : (9223372036854775807 < a0.size + a1.size) = False := eq_false (Nat.not_lt.2 c20)
              by_cases c21 : (a0 ++ a1).size + a2.size ≤ 9223372036854775807
              · rw [if_pos c21] at H
                have c21b0 := eq_true c21
                have c21b1 : decide ((a0 ++ a1).size + a2.size ≤ 9223372036854775807) = true := decide_eq_true c21
                try have c21b2 : (9223372036854775807 < (a0 ++ a1).size + a2.size) = False := eq_false (Nat.not_lt.2 c21)
                replace H := Option.bind_eq_some_iff.mp H
                obtain ⟨t110, A220, H⟩ := H
                replace H : (if t110.toList = ((a0 ++ a1) ++ a2).toList then ((impl_Wrap.f (⟨#[40]⟩ : ByteArray) (⟨#[97]⟩ : ByteArray) (⟨#[41]⟩ : ByteArray)).bind fun t111 => (some (t111.toList == ([40, 97, 41] : List UInt8)))) else (some false)) = some r := H
                have A22 := Aside0.mk A220
                clear A220
                by_cases c23 : t110.toList = ((a0 ++ a1) ++ a2).toList
                · rw [if_pos c23] at H
                  have c23b0 : (t110.toList == ((a0 ++ a1) ++ a2).toList) = true := beq_iff_eq.mpr c23
                  have c23b1 : (t110.toList != ((a0 ++ a1) ++ a2).toList) = false := bne_eq_false_iff_eq.mpr c23
                  clear c23
                  replace H := Option.bind_eq_some_iff.mp H
                  obtain ⟨t111, A240, H⟩ := H
                  replace H : (some (t111.toList == ([40, 97, 41] : List UInt8))) = some r := H
                  have A24 := Aside0.mk A240
                  clear A240
                  obtain rfl := Option.some.inj H
                  go_wp2_with (first | ((with_reducible refine gate_dst (N := 24) rfl ?_); (try (refine gate_guard (by rfl) ?_; dsimp only)); refine Kd.R_lit Kd.string _ 9 ?hg (N := 24) ?hd (xs := ([a0, a1, a2] : List ByteArray)) (inner := [.string a0, .string a1, .string a2]) (ok := fun _ => True) (okp := fun _ => True) ?hr ?hp (fun _ hk => hk) trivial (Below.refl _ _) (Nat.le_refl _) (by simp) ?_; (case hd => rfl); (case hg => rfl); (case hr => first | (go_simp; done) | (go_simp; rfl)); (case hp => exact (Reps.one (show Kd.M Kd.string _ _ _ a0 [.string a0] from rfl) (Reps.one (show Kd.M Kd.string _ _ _ a1 [.string a1] from rfl) (Reps.one (show Kd.M Kd.string _ _ _ a2 [.string a2] from rfl) (Reps.none _ _))))); intro v105 w25 ho26 hb hg_ hnew_; clear hg_ hnew_; (first | rw [← Ny104.out] at ho26 | (simp only [Int.reduceToNat] at ho26; rw [← Ny104.out] at ho26)); have n0_ := Aside0.mk (Kd.R_lower ho26 (below_size (by repeat (first | (with_reducible first | exact HB.out | apply below_alloc | apply pw_below_drewN | apply below_drew1) | exact HB.out)))); have n1_ := Aside0.mk (below_step (by repeat (first | (with_reducible first | exact HB.out | apply below_alloc | apply pw_below_drewN | apply below_drew1) | exact HB.out)) hb); clear HB; have HO106 := n0_; have HB := n1_; clear n0_ n1_; clear hb ho26; obtain ⟨Ao27, co27, eo27⟩ := Kd.R_slice HO106.out; subst eo27) | ((with_reducible refine gate_callee (f := 6) rfl ?_); refine goesL_ (some 25) rfl rfl Try.func6 (by kernel_rfl) rfl #[.slice Ao27 y104.length co27] rfl (by (try simp only [List.map_toArray, List.map_cons, List.map_nil]); first | done | rfl | (simp only [List.length_drop, List.length_take]; rfl)) ?_; (with_reducible refine (laws_pieces9.calls kj3 _ _ y104 true _ ?side1 ?side2 A8.out).mono ?_); (case side1 => repeat (first | exact (Kd.R_reads' HO106.out).2.2 | (with_reducible refine Kd.C_alloc ?_ _) | (with_reducible refine Kd.C_drewN ?_ _) | (with_reducible refine Kd.C_drew ?_))); (case side2 => exact (Kd.R_reads' HO106.out).2.1); rintro e w' ⟨rfl, ⟨nd, rfl⟩⟩; refine ⟨_, rfl, ?_⟩) | ((with_reducible refine gate_callee (f := 7) rfl ?_); refine goesL_ (some 37) rfl rfl Try.func7 (by kernel_rfl) rfl #[.string a0, .string a1, .string a2] rfl (by (try simp only [List.map_toArray, List.map_cons, List.map_nil]); first | done | rfl | (simp only [List.length_drop, List.length_take]; rfl)) ?_; (with_reducible refine (impl_Wrap.calls a0 a1 a2 t110 _ A22.out).mono ?_); rintro e w' ⟨rfl, ⟨nd, rfl⟩⟩; refine ⟨_, rfl, ?_⟩) | (go_at_call 7; (with_reducible refine (impl_Wrap.calls (⟨#[40]⟩ : ByteArray) (⟨#[97]⟩ : ByteArray) (⟨#[41]⟩ : ByteArray) t111 _ A24.out).mono ?_); rintro e w' ⟨rfl, ⟨nd, rfl⟩⟩))
                  go_ret
                  exact ⟨by first | rfl | (simp [errW_none, errW_some] <;> rfl) | (simp [*, errW_none, errW_some] <;> rfl), by repeat (first | (with_reducible first | exact HB.out | apply below_alloc | apply pw_below_drewN | apply below_drew1) | exact HB.out)⟩
                · rw [if_neg c23] at H
                  have c23b0 : (t110.toList == ((a0 ++ a1) ++ a2).toList) = false := beq_eq_false_iff_ne.mpr c23
                  have c23b1 : (t110.toList != ((a0 ++ a1) ++ a2).toList) = true := bne_iff_ne.mpr c23
                  obtain rfl := Option.some.inj H
                  go_wp2_with (first | ((with_reducible refine gate_dst (N := 24) rfl ?_); (try (refine gate_guard (by rfl) ?_; dsimp only)); refine Kd.R_lit Kd.string _ 9 ?hg (N := 24) ?hd (xs := ([a0, a1, a2] : List ByteArray)) (inner := [.string a0, .string a1, .string a2]) (ok := fun _ => True) (okp := fun _ => True) ?hr ?hp (fun _ hk => hk) trivial (Below.refl _ _) (Nat.le_refl _) (by simp) ?_; (case hd => rfl); (case hg => rfl); (case hr => first | (go_simp; done) | (go_simp; rfl)); (case hp => exact (Reps.one (show Kd.M Kd.string _ _ _ a0 [.string a0] from rfl) (Reps.one (show Kd.M Kd.string _ _ _ a1 [.string a1] from rfl) (Reps.one (show Kd.M Kd.string _ _ _ a2 [.string a2] from rfl) (Reps.none _ _))))); intro v105 w28 ho29 hb hg_ hnew_; clear hg_ hnew_; (first | rw [← Ny104.out] at ho29 | (simp only [Int.reduceToNat] at ho29; rw [← Ny104.out] at ho29)); have n0_ := Aside0.mk (Kd.R_lower ho29 (below_size (by repeat (first | (with_reducible first | exact HB.out | apply below_alloc | apply pw_below_drewN | apply below_drew1) | exact HB.out)))); have n1_ := Aside0.mk (below_step (by repeat (first | (with_reducible first | exact HB.out | apply below_alloc | apply pw_below_drewN | apply below_drew1) | exact HB.out)) hb); clear HB; have HO106 := n0_; have HB := n1_; clear n0_ n1_; clear hb ho29; obtain ⟨Ao30, co30, eo30⟩ := Kd.R_slice HO106.out; subst eo30) | ((with_reducible refine gate_callee (f := 6) rfl ?_); refine goesL_ (some 25) rfl rfl Try.func6 (by kernel_rfl) rfl #[.slice Ao30 y104.length co30] rfl (by (try simp only [List.map_toArray, List.map_cons, List.map_nil]); first | done | rfl | (simp only [List.length_drop, List.length_take]; rfl)) ?_; (with_reducible refine (laws_pieces9.calls kj3 _ _ y104 true _ ?side1 ?side2 A8.out).mono ?_); (case side1 => repeat (first | exact (Kd.R_reads' HO106.out).2.2 | (with_reducible refine Kd.C_alloc ?_ _) | (with_reducible refine Kd.C_drewN ?_ _) | (with_reducible refine Kd.C_drew ?_))); (case side2 => exact (Kd.R_reads' HO106.out).2.1); rintro e w' ⟨rfl, ⟨nd, rfl⟩⟩; refine ⟨_, rfl, ?_⟩) | ((with_reducible refine gate_callee (f := 7) rfl ?_); refine goesL_ (some 37) rfl rfl Try.func7 (by kernel_rfl) rfl #[.string a0, .string a1, .string a2] rfl (by (try simp only [List.map_toArray, List.map_cons, List.map_nil]); first | done | rfl | (simp only [List.length_drop, List.length_take]; rfl)) ?_; (with_reducible refine (impl_Wrap.calls a0 a1 a2 t110 _ A22.out).mono ?_); rintro e w' ⟨rfl, ⟨nd, rfl⟩⟩; refine ⟨_, rfl, ?_⟩))
                  go_ret
                  exact ⟨by first | rfl | (simp [errW_none, errW_some] <;> rfl) | (simp [*, errW_none, errW_some] <;> rfl), by repeat (first | (with_reducible first | exact HB.out | apply below_alloc | apply pw_below_drewN | apply below_drew1) | exact HB.out)⟩
              · rw [if_neg c21] at H
                exact absurd H (by simp)
            · rw [if_neg c20] at H
              exact absurd H (by simp)
        · replace c9 := Bool.eq_false_iff.mpr c9
          subst c9
          have H1 : (some true) = some r := by rw [if_neg (show ¬ (false = true) by decide)] at H; exact H
          clear H
          have H := H1
          clear H1
          obtain rfl := Option.some.inj H
          go_wp2_with (first | ((with_reducible refine gate_dst (N := 24) rfl ?_); (try (refine gate_guard (by rfl) ?_; dsimp only)); refine Kd.R_lit Kd.string _ 9 ?hg (N := 24) ?hd (xs := ([a0, a1, a2] : List ByteArray)) (inner := [.string a0, .string a1, .string a2]) (ok := fun _ => True) (okp := fun _ => True) ?hr ?hp (fun _ hk => hk) trivial (Below.refl _ _) (Nat.le_refl _) (by simp) ?_; (case hd => rfl); (case hg => rfl); (case hr => first | (go_simp; done) | (go_simp; rfl)); (case hp => exact (Reps.one (show Kd.M Kd.string _ _ _ a0 [.string a0] from rfl) (Reps.one (show Kd.M Kd.string _ _ _ a1 [.string a1] from rfl) (Reps.one (show Kd.M Kd.string _ _ _ a2 [.string a2] from rfl) (Reps.none _ _))))); intro v105 w31 ho32 hb hg_ hnew_; clear hg_ hnew_; (first | rw [← Ny104.out] at ho32 | (simp only [Int.reduceToNat] at ho32; rw [← Ny104.out] at ho32)); have n0_ := Aside0.mk (Kd.R_lower ho32 (below_size (by repeat (first | (with_reducible first | exact HB.out | apply below_alloc | apply pw_below_drewN | apply below_drew1) | exact HB.out)))); have n1_ := Aside0.mk (below_step (by repeat (first | (with_reducible first | exact HB.out | apply below_alloc | apply pw_below_drewN | apply below_drew1) | exact HB.out)) hb); clear HB; have HO106 := n0_; have HB := n1_; clear n0_ n1_; clear hb ho32; obtain ⟨Ao33, co33, eo33⟩ := Kd.R_slice HO106.out; subst eo33) | ((with_reducible refine gate_callee (f := 6) rfl ?_); refine goesL_ (some 25) rfl rfl Try.func6 (by kernel_rfl) rfl #[.slice Ao33 y104.length co33] rfl (by (try simp only [List.map_toArray, List.map_cons, List.map_nil]); first | done | rfl | (simp only [List.length_drop, List.length_take]; rfl)) ?_; (with_reducible refine (laws_pieces9.calls kj3 _ _ y104 false _ ?side1 ?side2 A8.out).mono ?_); (case side1 => repeat (first | exact (Kd.R_reads' HO106.out).2.2 | (with_reducible refine Kd.C_alloc ?_ _) | (with_reducible refine Kd.C_drewN ?_ _) | (with_reducible refine Kd.C_drew ?_))); (case side2 => exact (Kd.R_reads' HO106.out).2.1); rintro e w' ⟨rfl, ⟨nd, rfl⟩⟩; refine ⟨_, rfl, ?_⟩))
          go_ret
          exact ⟨by first | rfl | (simp [errW_none, errW_some] <;> rfl) | (simp [*, errW_none, errW_some] <;> rfl), by repeat (first | (with_reducible first | exact HB.out | apply below_alloc | apply pw_below_drewN | apply below_drew1) | exact HB.out)⟩

/-- THE ONE PURE STATEMENT of laws_FnWrap: yours. -/
def laws_FnWrap.Pure : Prop := ∀ (a0 : ByteArray) (a1 : ByteArray) (a2 : ByteArray), a0.size ≤ 140737488351232 → a1.size ≤ 140737488351232 → a2.size ≤ 140737488351232 → ∃ k, laws_FnWrap.f k a0 a1 a2 = some true
theorem laws_FnWrap.walk (P : laws_FnWrap.Pure) (a0 : ByteArray) (a1 : ByteArray) (a2 : ByteArray) (w : World) (w0 : a0.size ≤ 140737488351232) (w1 : a1.size ≤ 140737488351232) (w2 : a2.size ≤ 140737488351232) :
    Calls Try.prog 3 #[.string a0, .string a1, .string a2] w fun e w' => e = .returned (.bool true) ∧ Below w.heap.size w w' := by
  obtain ⟨k, h⟩ := P a0 a1 a2 w0 w1 w2
  refine (laws_FnWrap.calls k a0 a1 a2 true w h).mono ?_
  rintro e w' ⟨rfl, hd⟩
  exact ⟨rfl, hd⟩

end Go.Proofs.Ytofafhboagfihaa.PFnWrap
