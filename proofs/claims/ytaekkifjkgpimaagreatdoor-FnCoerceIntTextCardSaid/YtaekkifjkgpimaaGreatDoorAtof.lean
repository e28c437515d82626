import Derived.Test.YtaekkifjkgpimaaGreatDoorReadB
import Derived.Test.YtaekkifjkgpimaaGreatDoorReadZ
import Derived.Test.YtaekkifjkgpimaaGreatDoorSpec
import Derived.Test.YtaekkifjkgpimaaGreatDoorIntF
import Derived.Laws.FloatArith
namespace Go.Proofs.YtaekkifjkgpimaaGreatDoor.Atof
set_option linter.unusedVariables false
set_option linter.unusedSimpArgs false
open Go.RowKit Go.Proofs.YtaekkifjkgpimaaGreatDoorW.PrintWords Go.Proofs.YtaekkifjkgpimaaGreatDoor.Base Go.Proofs.YtaekkifjkgpimaaGreatDoor.Read Go.Proofs.YtaekkifjkgpimaaGreatDoor.Spec
attribute [local go_sem] run_store_float

/-- What is read of the package's variables. -/
structure Vars (w : World) : Prop where
  opt : w.cell? ⟨6, 0, none⟩ = some (.bool true)
  bits : w.cell? ⟨7, 0, none⟩ = some (.int .u64 52)
theorem Vars.below {w w' : World} (h : Vars w) (hb : Below w.heap.size w w') : Vars w' := ⟨pw_cell_below hb h.opt, pw_cell_below hb h.bits⟩

theorem run_neg (k : FloatKind) (b : Nat) (w : World) : (Op.unary .neg (.float k b)).run Tryz.prog w = .ok (.float k (Op.negFloat k b)) w := rfl
theorem floatOf (n : Int) : floatOfInt .f64 n = FloatKind.f64.nearest n := rfl
theorem neg_nearest (m : Nat) (h0 : 0 < m) (h1 : m < 4503599627370496) : Op.negFloat .f64 (floatOfInt .f64 (m : Int)) = FloatKind.f64.nearest (-(m : Int)) := by
  unfold Op.negFloat
  rw [show (2 : Nat) ^ (FloatKind.f64.format.exponentBits + FloatKind.f64.format.fractionBits) = 9223372036854775808 by decide]
  have e1 : floatOfInt .f64 (m : Int) = Ieee.double.nearest false m 0 := by
    show Ieee.double.nearest (decide ((m : Int) < 0)) (m : Int).natAbs 0 = _
    rw [decide_eq_false (by omega), Int.natAbs_natCast]
  have e2 : FloatKind.f64.nearest (-(m : Int)) = Ieee.double.nearest true m 0 := by
    show Ieee.double.nearest (decide (-(m : Int) < 0)) (-(m : Int)).natAbs 0 = _
    rw [decide_eq_true (by omega), Int.natAbs_neg, Int.natAbs_natCast]
  rw [e1, e2]
  exact IntF.neg_near m h0

attribute [local go_sem] run_neg
set_option maxRecDepth 100000 in
set_option maxHeartbeats 2000000 in
theorem exact_any (m : Nat) (neg : Bool) (w : World) (hV : Vars w) (hm : m < 4503599627370496) :
    Calls Tryz.prog 63 #[.int .u64 m, .int .i64 0, .bool neg] w fun e w' => e = .returned (.tuple #[.float .f64 (if neg then Op.negFloat .f64 (floatOfInt .f64 (m : Int)) else floatOfInt .f64 (m : Int)), .bool true]) ∧ w = w' := by
  have h0 := hV.bits
  have hq : ((m : Int) / 4503599627370496 != 0) = false := by
    rw [Int.ediv_eq_zero_of_lt (by omega) (by omega)]; rfl
  cases neg
  all_goals
    go_enter Tryz.func63, Tryz.ntmps63
    go_wp2_with fail
    first
    | refine bodyPost_ret (v := .tuple #[.float .f64 _, .bool true]) (by simp [results, Tryz.results63, go_sem]) rfl ⟨rfl, rfl⟩
    | trace_state
end Go.Proofs.YtaekkifjkgpimaaGreatDoor.Atof
