import Derived.Test.YtaekkifjkgpimaaGreatDoorSame
import Derived.Test.YtaekkifjkgpimaaGreatDoorAtof
namespace Go.Proofs.YtaekkifjkgpimaaGreatDoor.Int
set_option linter.unusedVariables false
set_option linter.unusedSimpArgs false
open Go.RowKit Go.Proofs.YtaekkifjkgpimaaGreatDoorW.PrintWords Go.Proofs.YtaekkifjkgpimaaGreatDoor.Base Go.Proofs.YtaekkifjkgpimaaGreatDoor.Val Go.Proofs.YtaekkifjkgpimaaGreatDoor.Cast Go.Proofs.YtaekkifjkgpimaaGreatDoor.Atof
attribute [local go_sem] run_store_float as_string no_string_0 no_string_1 no_string_2 no_string_3 no_string_4 no_string_5 no_string_6 no_string_7 no_string_8 no_string_9 no_string_10 no_string_11 no_string_12 no_string_13 no_string_14 no_string_15 no_string_16 no_string_17 no_string_18 no_string_19 no_string_20 no_string_21 no_string_22 no_string_23 no_string_24 no_string_25 no_string_26 no_string_27 no_string_28 as_float64 no_float64_0 no_float64_1 no_float64_2 no_float64_3 no_float64_4 no_float64_5 no_float64_6 no_float64_7 no_float64_8 no_float64_9 no_float64_10 no_float64_11 no_float64_12 no_float64_13 no_float64_14 no_float64_15 no_float64_16 no_float64_17 no_float64_18 no_float64_19 no_float64_20 no_float64_21 no_float64_22 no_float64_23 as_int no_int_0

theorem conv_eq (b : Nat) (W : World) : (convert 27 3 (.float .f64 b)).run Tryz.prog W = (Conv.floatToInt .f64 b .i64).run Tryz.prog W := by kernel_rfl
theorem conv_eq64 (b : Nat) (W : World) : (convert 27 2 (.float .f64 b)).run Tryz.prog W = (Conv.floatToInt .f64 b .i64).run Tryz.prog W := by kernel_rfl
theorem toInt_i64 (n : Int) (h : n.natAbs < 4503599627370496) (W : World) : (Conv.floatToInt .f64 (FloatKind.f64.nearest n) .i64).run Tryz.prog W = .ok (.int .i64 n) W := by
  unfold Conv.floatToInt
  rw [IntF.toInt_near n h]
  simp only
  have hr : IntKind.i64.min ≤ n ∧ n ≤ IntKind.i64.max := by
    rw [show IntKind.i64.min = -9223372036854775808 by decide, show IntKind.i64.max = 9223372036854775807 by decide]
    omega
  rw [if_pos hr]
  rfl
theorem conv_near (n : Int) (h : n.natAbs < 4503599627370496) (W : World) : (convert 27 3 (.float .f64 (FloatKind.f64.nearest n))).run Tryz.prog W = .ok (.int .i64 n) W := (conv_eq _ W).trans (toInt_i64 n h W)
theorem conv_near64 (n : Int) (h : n.natAbs < 4503599627370496) (W : World) : (convert 27 2 (.float .f64 (FloatKind.f64.nearest n))).run Tryz.prog W = .ok (.int .i64 n) W := (conv_eq64 _ W).trans (toInt_i64 n h W)

theorem cmp_lt (a b : Int) (h : b ≤ a) : (compare a b == Ordering.lt) = false := by
  simp only [compare, compareOfLessAndEq]
  rw [if_neg (by omega)]
  split <;> rfl
theorem cmp_gt (a b : Int) (h : a ≤ b) : (compare a b == Ordering.gt) = false := by
  simp only [compare, compareOfLessAndEq]
  split
  · rfl
  · rw [if_pos (by omega)]; rfl
theorem lo_bits : FloatKind.f64.nearest (-2147483648) = 13970166044103278592 := by decide +kernel
theorem hi_bits : FloatKind.f64.nearest 2147483647 = 4746794007244308480 := by decide +kernel
theorem not_lt (n : Int) (h0 : -2147483648 ≤ n) (h1 : n ≤ 2147483647) : (FloatKind.f64.format.order (FloatKind.f64.nearest n) 13970166044103278592 == some Ordering.lt) = false := by
  have h2 := IntF.order_near n (-2147483648) (by omega) (by decide)
  rw [lo_bits] at h2
  have h3 : FloatKind.f64.format.order (FloatKind.f64.nearest n) 13970166044103278592 = some (compare n (-2147483648)) := h2
  rw [h3]
  exact cmp_lt _ _ h0
theorem not_gt (n : Int) (h0 : -2147483648 ≤ n) (h1 : n ≤ 2147483647) : (FloatKind.f64.format.order (FloatKind.f64.nearest n) 4746794007244308480 == some Ordering.gt) = false := by
  have h2 := IntF.order_near n 2147483647 (by omega) (by decide)
  rw [hi_bits] at h2
  have h3 : FloatKind.f64.format.order (FloatKind.f64.nearest n) 4746794007244308480 = some (compare n 2147483647) := h2
  rw [h3]
  exact cmp_gt _ _ h1

set_option maxRecDepth 100000 in
set_option maxHeartbeats 8000000 in
theorem coerce_float (n : Int) (h0 : -2147483648 ≤ n) (h1 : n ≤ 2147483647) (w : World) :
    Calls Tryz.prog 15 #[.iface 27 (.float .f64 (FloatKind.f64.nearest n))] w fun e w' => e = .returned (.iface 3 (.int .i64 n)) ∧ Below w.heap.size w w' := by
  have hc := conv_near n (by omega)
  have hl := not_lt n h0 h1
  have hg := not_gt n h0 h1
  generalize FloatKind.f64.nearest n = b at *
  go_enter Tryz.func15, Tryz.ntmps15
  go_wp2_with fail
  go_ret
  exact ⟨rfl, by first | exact Below.refl _ _ | exact below_alloc (Below.refl _ _) _⟩

/-- strconv.ParseFloat reads the text as this number. -/
def Parses (t : ByteArray) (n : Int) : Prop := ∀ W, Vars W → Calls Tryz.prog 21 #[.string t, .int .i64 0] W fun e w' => e = .returned (.tuple #[.float .f64 (FloatKind.f64.nearest n), .nilIface]) ∧ Below W.heap.size W w'
set_option maxRecDepth 100000 in
set_option maxHeartbeats 8000000 in
theorem coerce_text (t : ByteArray) (n : Int) (h0 : -2147483648 ≤ n) (h1 : n ≤ 2147483647) (hP : Parses t n) (w : World) (hV : Vars w) :
    Calls Tryz.prog 15 #[.iface 9 (.string t)] w fun e w' => e = .returned (.iface 3 (.int .i64 n)) ∧ Below w.heap.size w w' := by
  have HP := Aside0.mk hP
  clear hP
  go_enter Tryz.func15, Tryz.ntmps15
  go_wp2_with fail
  refine (HP.out _ hV).mono ?_
  rintro e w1 ⟨rfl, hb1⟩
  go_wp2_with fail
  refine (coerce_float n h0 h1 _).mono ?_
  rintro e w2 ⟨rfl, hb2⟩
  go_wp2_with fail
  go_ret
  exact ⟨rfl, hb1.trans (hb2.mono hb1.size)⟩
set_option maxRecDepth 100000 in
set_option maxHeartbeats 2000000 in
theorem gcoerce_text (t : ByteArray) (n : Int) (h0 : -2147483648 ≤ n) (h1 : n ≤ 2147483647) (hP : Parses t n) (w : World) (hV : Vars w) :
    Calls Tryz.prog 10 #[.iface 9 (.string t)] w fun e w' => e = .returned (.iface 3 (.int .i64 n)) ∧ Below w.heap.size w w' := by
  have HC := Aside0.mk (coerce_text t n h0 h1 hP w hV)
  clear hP
  go_enter Tryz.func10, Tryz.ntmps10
  go_wp2_with fail
  refine HC.out.mono ?_
  rintro e w1 ⟨rfl, hb⟩
  go_wp2_with fail
  go_ret
  exact ⟨rfl, hb⟩

theorem infoV : (Tryz.prog.info? 34).map (fun i => (i.zero, i.size, i.bytes)) = some (some (.agg #[.int .i64 0, .float .f64 0, .string ⟨#[]⟩, .int .i64 0]), 4, 40) := by kernel_rfl

set_option maxRecDepth 100000 in
set_option maxHeartbeats 4000000 in
theorem put_any (n : Int) (w : World) :
    Calls Tryz.prog 20 #[.slice none 0 0, .iface 3 (.int .i64 n), .string ⟨#[]⟩, .nilFunc] w fun e w' => OneV (intV n) w e w' := by
  go_enter Tryz.func20, Tryz.ntmps20
  go_wp2_with fail
  go_ret
  exact ⟨w.heap.size + 1, _, rfl, ⟨by simp [go_sem, intV, Array.getElem?_append], by simp [go_sem, intV, Array.getElem?_append] <;> rfl, by simp [go_sem, intV, Array.getElem?_append], by simp [go_sem, intV, Array.getElem?_append]⟩, below_drew (below_alloc (below_alloc (Below.refl _ _) _) _)⟩
set_option maxRecDepth 100000 in
set_option maxHeartbeats 2000000 in
theorem putv_any (n : Int) (w : World) :
    Calls Tryz.prog 14 #[.slice none 0 0, .iface 3 (.int .i64 n), .nilFunc] w fun e w' => OneV (intV n) w e w' := by
  have HC := Aside0.mk (put_any n w)
  go_enter Tryz.func14, Tryz.ntmps14
  go_wp2_with fail
  refine HC.out.mono ?_
  rintro e w1 ⟨g, cap, rfl, hN, hb⟩
  go_wp2_with fail
  go_ret
  exact ⟨g, cap, rfl, hN, hb⟩

set_option maxRecDepth 100000 in
set_option maxHeartbeats 4000000 in
theorem coerced_any (bk o c : Nat) (t : ByteArray) (n : Int) (h0 : -2147483648 ≤ n) (h1 : n ≤ 2147483647) (hP : Parses t n) (w : World) (hV : Vars w) (hN : VNode w bk o (textV t)) :
    Calls Tryz.prog 9 #[.slice (some ⟨bk, o, none⟩) 1 c, .func (.func 10) #[] #[]] w fun e w' => OneVT (intV n) w e w' := by
  have HW := Aside0.mk (whole_text bk o c t w hN)
  have HG := Aside0.mk (fun W (hVW : Vars W) => gcoerce_text t n h0 h1 hP W hVW)
  have HVV := Aside0.mk hV
  clear hP hN hV
  go_enter Tryz.func9, Tryz.ntmps9
  go_wp2_with fail
  refine HW.out.mono ?_
  rintro e w1 ⟨rfl, hb1⟩
  go_wp2_with fail
  refine (HG.out _ (HVV.out.below hb1)).mono ?_
  rintro e w2 ⟨rfl, hb2⟩
  have hb := hb1.trans (hb2.mono hb1.size)
  go_wp2_with fail
  refine (putv_any n _).mono ?_
  rintro e w3 ⟨g, cap, rfl, hN, hb3⟩
  go_wp2_with fail
  go_ret2
  exact ⟨g, cap, rfl, hN, hb.trans (hb3.mono hb.size)⟩
set_option maxRecDepth 100000 in
set_option maxHeartbeats 2000000 in
theorem coerceInt_any (bk o c : Nat) (t : ByteArray) (n : Int) (h0 : -2147483648 ≤ n) (h1 : n ≤ 2147483647) (hP : Parses t n) (w : World) (hV : Vars w) (hN : VNode w bk o (textV t)) :
    Calls Tryz.prog 4 #[.slice (some ⟨bk, o, none⟩) 1 c] w fun e w' => OneVT (intV n) w e w' := by
  have HC := Aside0.mk (coerced_any bk o c t n h0 h1 hP w hV hN)
  clear hP hN hV
  go_enter Tryz.func4, Tryz.ntmps4
  go_wp2_with fail
  refine HC.out.mono ?_
  rintro e w1 ⟨g, cap, rfl, hN, hb⟩
  go_wp2_with fail
  go_ret2
  exact ⟨g, cap, rfl, hN, hb⟩
end Go.Proofs.YtaekkifjkgpimaaGreatDoor.Int
