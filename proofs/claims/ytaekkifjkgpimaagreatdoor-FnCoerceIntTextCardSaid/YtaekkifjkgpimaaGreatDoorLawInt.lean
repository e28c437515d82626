import Derived.Test.YtaekkifjkgpimaaGreatDoorInt
import Derived.Test.YtaekkifjkgpimaaGreatDoorAtofB
import Derived.Test.YtaekkifjkgpimaaGreatDoorDigit
import Derived.Test.YtaekkifjkgpimaaGreatDoorNShelf3
import Derived.Lib.AppendIntMem
namespace Go.Proofs.YtaekkifjkgpimaaGreatDoor.LawInt
set_option linter.unusedVariables false
set_option linter.unusedSimpArgs false
open Go.RowKit Go.Proofs.YtaekkifjkgpimaaGreatDoorW.PrintWords Go.Proofs.YtaekkifjkgpimaaGreatDoor.Base Go.Proofs.YtaekkifjkgpimaaGreatDoor.Val Go.Proofs.YtaekkifjkgpimaaGreatDoor.Same Go.Proofs.YtaekkifjkgpimaaGreatDoor.Read Go.Proofs.YtaekkifjkgpimaaGreatDoor.Spec Go.Proofs.YtaekkifjkgpimaaGreatDoor.Atof Go.Proofs.YtaekkifjkgpimaaGreatDoor.Digit Go.Proofs.YtaekkifjkgpimaaGreatDoor.Int
attribute [local go_sem] run_store_float

/-- The text of a whole number, and that it is read again. -/
def itoaT (n : Int) : ByteArray := ⟨(Lib.itoa n).toArray⟩

theorem atofs_pos (u : Nat) (h0 : 0 < u) (h1 : u < 4294967296) : Atofs (itoaT u) (FloatKind.f64.nearest u) := by
  intro W hW
  have hD := digs_pos u h0 (by omega)
  obtain ⟨d, hd, hd1, hd9⟩ := hD.head
  have hs : 0 < (itoaT u).size := by have := hD.size; have := hD.pos; unfold itoaT; omega
  have hx : signedF u false = FloatKind.f64.nearest (u : Int) := by
    unfold signedF
    rw [if_neg (by decide)]
    exact floatOf u
  rw [← hx]
  refine (atof_any (itoaT u) u false h0 (by omega) (fun W => special_plus (itoaT u) (48 + d) hs (fun h => ?_) ⟨by omega, by omega⟩ W) (fun W => read_plus (itoaT u) _ u hD W) W hW)
  rw [← hd]
  exact bt_nat (itoaT u) 0 h
theorem atofs_neg (u : Nat) (h0 : 0 < u) (h1 : u < 4294967296) : Atofs (itoaT (-(u : Int))) (FloatKind.f64.nearest (-(u : Int))) := by
  intro W hW
  obtain ⟨hD, h45⟩ := digs_neg u h0 (by omega)
  obtain ⟨d, hd, hd1, hd9⟩ := hD.head
  have hsz : (itoaT (-(u : Int))).size = 1 + Lib.nDigits u := hD.size
  have hp := hD.pos
  have hle := hD.le
  have hx : signedF u true = FloatKind.f64.nearest (-(u : Int)) := by
    unfold signedF
    rw [if_pos rfl]
    exact neg_nearest u h0 (by omega)
  rw [← hx]
  refine (atof_any (itoaT (-(u : Int))) u true h0 (by omega) (fun W => special_minus (itoaT (-(u : Int))) (48 + d) (by omega) (by omega) (fun h => ?_) (fun h => ?_) ⟨by omega, by omega⟩ W) (fun W => read_minus (itoaT (-(u : Int))) _ u hD h45 W) W hW)
  · rw [← h45]
    exact bt_nat (itoaT (-(u : Int))) 0 h
  · rw [← hd]
    exact bt_nat (itoaT (-(u : Int))) 1 h
theorem atofs_zero : Atofs (itoaT 0) (FloatKind.f64.nearest 0) := by
  intro W hW
  obtain ⟨h1, h2⟩ := text_zero
  have hz : (itoaT 0).size = 1 := h1
  rw [show FloatKind.f64.nearest 0 = 0 by decide +kernel, hz]
  exact atof_zero (itoaT 0) hz (fun W => special_plus (itoaT 0) 48 (by omega) h2 ⟨by omega, by omega⟩ W) (fun W => read_zero (itoaT 0) hz h2 W) W hW
theorem parses (n : Int) (h0 : -2147483648 ≤ n) (h1 : n ≤ 2147483647) : Parses (itoaT n) n := by
  have hA : Atofs (itoaT n) (FloatKind.f64.nearest n) := by
    rcases Int.lt_trichotomy n 0 with h | rfl | h
    · have := atofs_neg n.natAbs (by omega) (by omega)
      rw [show -((n.natAbs : Nat) : Int) = n by omega] at this
      exact this
    · exact atofs_zero
    · have := atofs_pos n.natAbs (by omega) (by omega)
      rw [show ((n.natAbs : Nat) : Int) = n by omega] at this
      exact this
  intro W hW
  refine (parse_any (itoaT n) _ hA W hW).mono ?_
  rintro e w' ⟨rfl, rfl⟩
  exact ⟨rfl, Below.refl _ _⟩

set_option maxRecDepth 100000 in
set_option maxHeartbeats 2000000 in
theorem digits_any (n : Int) (h0 : -2147483648 ≤ n) (h1 : n ≤ 2147483647) (w : World) (htab : Lib.TabIs Tryz.prog w "internal/strconv.uint64pow10" .u64 Lib.pow10Tab) :
    Calls Tryz.prog 6 #[.float .f64 (FloatKind.f64.nearest n)] w fun e w' => e = .returned (.string (itoaT n)) ∧ Below w.heap.size w w' := by
  have hc := conv_near64 n (by omega)
  have HF := Aside0.mk (Tryz.strconv_FormatInt_10 n (by omega) (by omega) w htab)
  generalize FloatKind.f64.nearest n = b at *
  clear htab
  go_enter Tryz.func6, Tryz.ntmps6
  go_wp2_with fail
  refine HF.out.mono ?_
  rintro e w' ⟨rfl, k, os, rfl⟩
  go_wp2_with fail
  go_ret
  exact ⟨rfl, Lib.below_grow _ _ (Nat.le_refl _) _ _⟩

theorem float_of (n : Int) (W : World) : (convert 21 27 (.int .i32 n)).run Tryz.prog W = .ok (.float .f64 (FloatKind.f64.nearest n)) W := by kernel_rfl
attribute [local go_sem] float_of
set_option maxRecDepth 100000 in
set_option maxHeartbeats 4000000 in
theorem law (n : Int) (h0 : -2147483648 ≤ n) (h1 : n ≤ 2147483647) (w : World) (hV : Vars w) (htab : Lib.TabIs Tryz.prog w "internal/strconv.uint64pow10" .u64 Lib.pow10Tab) :
    Calls Tryz.prog 3 #[.int .i32 n] w fun e w' => e = .returned (.bool true) ∧ Below w.heap.size w w' := by
  have HD := Aside0.mk (digits_any n h0 h1 w htab)
  have HV := Aside0.mk hV
  have hP := parses n h0 h1
  clear htab hV
  go_enter Tryz.func3, Tryz.ntmps3
  go_wp2_with fail
  refine HD.out.mono ?_
  rintro e w1 ⟨rfl, hb1⟩
  generalize itoaT n = t at *
  go_wp2_with fail
  refine (text_any t _).mono ?_
  rintro e w2 ⟨g, cap, rfl, hN, hb2⟩
  have hb12 := hb1.trans (hb2.mono hb1.size)
  go_wp2_with fail
  refine (coerceInt_any g 0 cap t n h0 h1 hP _ (HV.out.below hb12) hN).mono ?_
  rintro e w3 ⟨g3, cap3, rfl, hN3, hb3⟩
  have hb123 := hb12.trans (hb3.mono hb12.size)
  go_wp2_with fail
  refine (number_any 4 _ _).mono ?_
  rintro e w4 ⟨g4, cap4, rfl, hN4, hb4⟩
  have hb1234 := hb123.trans (hb4.mono hb123.size)
  have hN3' := node_below hN3 hb4
  go_wp2_with fail
  refine (same_any g3 cap3 g4 cap4 n (by omega) _ hN3' hN4).mono ?_
  rintro e w5 ⟨rfl, hb5⟩
  go_wp2_with fail
  go_ret
  exact ⟨rfl, hb1234.trans (hb5.mono hb1234.size)⟩
end Go.Proofs.YtaekkifjkgpimaaGreatDoor.LawInt
