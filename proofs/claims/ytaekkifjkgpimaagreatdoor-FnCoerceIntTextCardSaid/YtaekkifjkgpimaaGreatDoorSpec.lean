import Derived.Test.YtaekkifjkgpimaaGreatDoorBase
import Derived.WalkMore
import Derived.Scope
namespace Go.Proofs.YtaekkifjkgpimaaGreatDoor.Spec
set_option linter.unusedVariables false
set_option linter.unusedSimpArgs false
open Go.RowKit Go.Proofs.YtaekkifjkgpimaaGreatDoorW.PrintWords Go.Proofs.YtaekkifjkgpimaaGreatDoor.Base
attribute [local go_sem] run_store_float

abbrev infWord : ByteArray := ⟨#[105, 110, 102, 105, 110, 105, 116, 121]⟩
set_option maxRecDepth 100000 in
set_option maxHeartbeats 2000000 in
theorem prefix_no (t u : ByteArray) (hus : u.size = 8) (hu : ∀ h : 0 < u.size, ((u[0]'h).toNat : Int) = 105) (c : Int) (h0 : 0 < t.size) (hl : t.size ≤ 20) (hb : ∀ h : 0 < t.size, ((t[0]'h).toNat : Int) = c) (hc : c ≤ 57) (w : World) :
    Calls Tryz.prog 76 #[.string t, .string u] w fun e w' => e = .returned (.int .i64 0) ∧ w = w' := by
  have h0i : (0 : Int) < (t.size : Int) := by omega
  have hu0 : (u.size : Int) = 8 := by omega
  have hc2 : ¬ (65 : Int) ≤ c := by omega
  have hc3 : (c == 105) = false := beq_eq_false_iff_ne.2 (by omega)
  have hc4 : (c != 105) = true := by simp only [bne, hc3]; rfl
  go_enter Tryz.func76, Tryz.ntmps76
  go_wp2_with fail
  all_goals
    go_loopw [6] (fun v6 wr => v6 = .int .i64 0 ∧ wr = w) (fun _ _ => 0)
    case atStart => exact ⟨rfl, rfl⟩
    case round =>
      obtain ⟨rfl, rfl⟩ := hrel
      go_wp2_with fail
      go_ret
      exact ⟨rfl, rfl⟩

set_option maxRecDepth 100000 in
set_option maxHeartbeats 2000000 in
theorem special_plus (t : ByteArray) (c : Int) (h0 : 0 < t.size) (hb : ∀ h : 0 < t.size, ((t[0]'h).toNat : Int) = c) (hc : 48 ≤ c ∧ c ≤ 57) (w : World) :
    Calls Tryz.prog 52 #[.string t] w fun e w' => e = .returned (.tuple #[.float .f64 0, .int .i64 0, .bool false]) ∧ w = w' := by
  have h0i : (0 : Int) < (t.size : Int) := by omega
  have f43 : (c == 43) = false := beq_eq_false_iff_ne.2 (by omega)
  have f45 : (c == 45) = false := beq_eq_false_iff_ne.2 (by omega)
  have f105 : (c == 105) = false := beq_eq_false_iff_ne.2 (by omega)
  have f73 : (c == 73) = false := beq_eq_false_iff_ne.2 (by omega)
  have f110 : (c == 110) = false := beq_eq_false_iff_ne.2 (by omega)
  have f78 : (c == 78) = false := beq_eq_false_iff_ne.2 (by omega)
  go_enter Tryz.func52, Tryz.ntmps52
  go_wp2_with fail
  refine bodyPost_ret (v := .tuple #[.float .f64 0, .int .i64 0, .bool false]) (by simp [results, Tryz.results52, go_sem]) rfl ⟨rfl, rfl⟩

set_option maxRecDepth 100000 in
set_option maxHeartbeats 2000000 in
theorem special_minus (t : ByteArray) (c : Int) (h1 : 1 < t.size) (hl : t.size ≤ 20) (hb0 : ∀ h : 0 < t.size, ((t[0]'h).toNat : Int) = 45) (hb : ∀ h : 1 < t.size, ((t[1]'h).toNat : Int) = c) (hc : 48 ≤ c ∧ c ≤ 57) (w : World) :
    Calls Tryz.prog 52 #[.string t] w fun e w' => e = .returned (.tuple #[.float .f64 0, .int .i64 0, .bool false]) ∧ w = w' := by
  have h0i : (1 : Int) < (t.size : Int) := by omega
  have hes : (t.extract 1 t.size).size = t.size - 1 := by simp
  have hP := fun W => prefix_no (t.extract 1 t.size) infWord (by decide +kernel) (by decide +kernel) c (by omega) (by omega) (fun h => by rw [ByteArray.getElem_extract]; exact hb _) hc.2 W
  go_enter Tryz.func52, Tryz.ntmps52
  go_wp2_with fail
  refine (hP _).mono ?_
  rintro e w' ⟨rfl, rfl⟩
  go_wp2_with fail
  refine bodyPost_ret (v := .tuple #[.float .f64 0, .int .i64 0, .bool false]) (by simp [results, Tryz.results52, go_sem]) rfl ⟨rfl, rfl⟩
end Go.Proofs.YtaekkifjkgpimaaGreatDoor.Spec
