import Derived.Test.YtaekkifjkgpimaaGreatDoorAtof
namespace Go.Proofs.YtaekkifjkgpimaaGreatDoor.Atof
set_option linter.unusedVariables false
set_option linter.unusedSimpArgs false
open Go.RowKit Go.Proofs.YtaekkifjkgpimaaGreatDoorW.PrintWords Go.Proofs.YtaekkifjkgpimaaGreatDoor.Base Go.Proofs.YtaekkifjkgpimaaGreatDoor.Read Go.Proofs.YtaekkifjkgpimaaGreatDoor.Spec
theorem run_from (n : Int) (w : World) : (callFunc 62 #[.int .u64 n]).run Tryz.prog w = .ok (.value (.float .f64 n.toNat)) w :=
  (run_callFunc_extern (e := Extern.MathFloatBits.float64frombits) Tryz.func62 (by kernel_rfl) (by kernel_rfl) (by kernel_rfl) (by kernel_rfl) _ w).trans rfl
attribute [local go_sem] run_store_float run_from

set_option maxRecDepth 100000 in
theorem bool2_any (b : Bool) (w : World) :
    Calls Tryz.prog 61 #[.bool b] w fun e w' => e = .returned (.int .u64 (if b then 1 else 0)) ∧ w = w' := by
  cases b
  all_goals
    go_enter Tryz.func61, Tryz.ntmps61
    go_wp2_with fail
    go_ret
    exact ⟨rfl, rfl⟩

/-- The float of a whole number and its sign. -/
def signedF (m : Nat) (neg : Bool) : Nat := if neg then Op.negFloat .f64 (floatOfInt .f64 (m : Int)) else floatOfInt .f64 (m : Int)
theorem exact_s (m : Nat) (neg : Bool) (w : World) (hV : Vars w) (hm : m < 4503599627370496) :
    Calls Tryz.prog 63 #[.int .u64 m, .int .i64 0, .bool neg] w fun e w' => e = .returned (.tuple #[.float .f64 (signedF m neg), .bool true]) ∧ w = w' := exact_any m neg w hV hm
theorem bool2_s (b : Bool) (w : World) :
    Calls Tryz.prog 61 #[.bool b] w fun e w' => (∃ k, e = .returned (.int .u64 k)) ∧ w = w' := (bool2_any b w).mono fun e w' h => ⟨⟨_, h.1⟩, h.2⟩
set_option maxRecDepth 100000 in
set_option maxHeartbeats 4000000 in
theorem atof_any (t : ByteArray) (m : Nat) (neg : Bool) (hm0 : 0 < m) (hm : m < 4503599627370496)
    (hS : ∀ W, Calls Tryz.prog 52 #[.string t] W fun e w' => e = .returned (.tuple #[.float .f64 0, .int .i64 0, .bool false]) ∧ W = w')
    (hR : ∀ W, Calls Tryz.prog 53 #[.string t] W fun e w' => e = .returned (.tuple #[.int .u64 m, .int .i64 0, .bool neg, .bool false, .bool false, .int .i64 t.size, .bool true]) ∧ w' = W)
    (w : World) (hV : Vars w) :
    Calls Tryz.prog 46 #[.string t] w fun e w' => e = .returned (.tuple #[.float .f64 (signedF m neg), .int .i64 t.size, .nilIface]) ∧ w = w' := by
  have HS := Aside0.mk hS
  have HR := Aside0.mk hR
  have h1 := hV.opt
  have hm1 : ((m : Int) == 0) = false := beq_eq_false_iff_ne.2 (by omega)
  have HE := Aside0.mk (fun W hVW => exact_s m neg W hVW hm)
  generalize signedF m neg = x at *
  clear hS hR
  go_enter Tryz.func46, Tryz.ntmps46
  go_wp2_with fail
  refine (HS.out _).mono ?_
  rintro e w' ⟨rfl, rfl⟩
  go_wp2_with fail
  refine (HR.out _).mono ?_
  rintro e w' ⟨rfl, rfl⟩
  go_wp2_with fail
  refine (bool2_s neg _).mono ?_
  rintro e w' ⟨⟨k, rfl⟩, rfl⟩
  go_wp2_with fail
  refine (HE.out _ hV).mono ?_
  rintro e w' ⟨rfl, rfl⟩
  go_wp2_with fail
  refine bodyPost_ret (v := .tuple #[.float .f64 x, .int .i64 t.size, .nilIface]) (by simp [results, Tryz.results46, go_sem]) rfl ⟨rfl, rfl⟩

set_option maxRecDepth 100000 in
set_option maxHeartbeats 4000000 in
theorem atof_zero (t : ByteArray) (ht : t.size = 1)
    (hS : ∀ W, Calls Tryz.prog 52 #[.string t] W fun e w' => e = .returned (.tuple #[.float .f64 0, .int .i64 0, .bool false]) ∧ W = w')
    (hR : ∀ W, Calls Tryz.prog 53 #[.string t] W fun e w' => e = .returned (.tuple #[.int .u64 0, .int .i64 0, .bool false, .bool false, .bool false, .int .i64 1, .bool true]) ∧ w' = W)
    (w : World) (hV : Vars w) :
    Calls Tryz.prog 46 #[.string t] w fun e w' => e = .returned (.tuple #[.float .f64 0, .int .i64 1, .nilIface]) ∧ w = w' := by
  have HS := Aside0.mk hS
  have HR := Aside0.mk hR
  have h1 := hV.opt
  clear hS hR
  go_enter Tryz.func46, Tryz.ntmps46
  go_wp2_with fail
  refine (HS.out _).mono ?_
  rintro e w' ⟨rfl, rfl⟩
  go_wp2_with fail
  refine (HR.out _).mono ?_
  rintro e w' ⟨rfl, rfl⟩
  go_wp2_with fail
  refine (bool2_any false _).mono ?_
  rintro e w' ⟨rfl, rfl⟩
  rw [if_neg (by decide)]
  go_wp2_with fail
  refine bodyPost_ret (v := .tuple #[.float .f64 0, .int .i64 1, .nilIface]) (by simp [results, Tryz.results46, go_sem, show bits BinOp.or IntKind.u64 0 0 = 0 by kernel_rfl]) rfl ⟨rfl, rfl⟩

/-- atof64 reads the text, all of it, as this number. -/
def Atofs (t : ByteArray) (x : Nat) : Prop := ∀ W, Vars W → Calls Tryz.prog 46 #[.string t] W fun e w' => e = .returned (.tuple #[.float .f64 x, .int .i64 t.size, .nilIface]) ∧ W = w'
set_option maxRecDepth 100000 in
theorem prefix_any (t : ByteArray) (x : Nat) (hA : Atofs t x) (w : World) (hV : Vars w) :
    Calls Tryz.prog 37 #[.string t, .int .i64 0] w fun e w' => e = .returned (.tuple #[.float .f64 x, .int .i64 t.size, .nilIface]) ∧ w = w' := by
  have HA := Aside0.mk (hA w hV)
  clear hA
  go_enter Tryz.func37, Tryz.ntmps37
  go_wp2_with fail
  refine HA.out.mono ?_
  rintro e w' ⟨rfl, rfl⟩
  go_wp2_with fail
  refine bodyPost_ret (v := .tuple #[.float .f64 x, .int .i64 t.size, .nilIface]) (by simp [results, Tryz.results37, go_sem]) rfl ⟨rfl, rfl⟩
set_option maxRecDepth 100000 in
theorem iparse_any (t : ByteArray) (x : Nat) (hA : Atofs t x) (w : World) (hV : Vars w) :
    Calls Tryz.prog 29 #[.string t, .int .i64 0] w fun e w' => e = .returned (.tuple #[.float .f64 x, .nilIface]) ∧ w = w' := by
  have HA := Aside0.mk (prefix_any t x hA w hV)
  clear hA
  go_enter Tryz.func29, Tryz.ntmps29
  go_wp2_with fail
  refine HA.out.mono ?_
  rintro e w' ⟨rfl, rfl⟩
  go_wp2_with fail
  go_ret2
  exact ⟨rfl, rfl⟩
set_option maxRecDepth 100000 in
theorem parse_any (t : ByteArray) (x : Nat) (hA : Atofs t x) (w : World) (hV : Vars w) :
    Calls Tryz.prog 21 #[.string t, .int .i64 0] w fun e w' => e = .returned (.tuple #[.float .f64 x, .nilIface]) ∧ w = w' := by
  have HA := Aside0.mk (iparse_any t x hA w hV)
  clear hA
  go_enter Tryz.func21, Tryz.ntmps21
  go_wp2_with fail
  refine HA.out.mono ?_
  rintro e w' ⟨rfl, rfl⟩
  go_wp2_with fail
  go_ret2
  exact ⟨rfl, rfl⟩
end Go.Proofs.YtaekkifjkgpimaaGreatDoor.Atof
