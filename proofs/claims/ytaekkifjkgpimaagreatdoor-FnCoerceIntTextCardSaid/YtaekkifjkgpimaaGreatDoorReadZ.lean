import Derived.Test.YtaekkifjkgpimaaGreatDoorBase
import Derived.WalkMore
import Derived.Scope
namespace Go.Proofs.YtaekkifjkgpimaaGreatDoor.Read
set_option linter.unusedVariables false
set_option linter.unusedSimpArgs false
open Go.RowKit Go.Proofs.YtaekkifjkgpimaaGreatDoorW.PrintWords Go.Proofs.YtaekkifjkgpimaaGreatDoor.Base


set_option maxRecDepth 100000 in
set_option maxHeartbeats 2000000 in
theorem read_zero (t : ByteArray) (hsz : t.size = 1) (h48 : ∀ h : 0 < t.size, ((t[0]'h).toNat : Int) = 48) (w : World) :
    Calls Tryz.prog 53 #[.string t] w fun e w' => e = .returned (.tuple #[.int .u64 0, .int .i64 0, .bool false, .bool false, .bool false, .int .i64 1, .bool true]) ∧ w' = w := by
  have hs2 : (t.size : Int) = 1 := by omega
  go_enter Tryz.func53, Tryz.ntmps53
  go_wp2
  go_step3
  go_wp2_with fail
  go_step3
  go_wp2_with fail
  go_loopw [2, 5, 7, 9, 13, 14, 15, 16, 17] (fun v2 v5 v7 v9 v13 v14 v15 v16 v17 wr => (v2 = .int .u64 0 ∧ v5 = .bool false ∧ v7 = .int .i64 0 ∧ v9 = .bool false ∧ v13 = .bool false ∧ v14 = .bool false ∧ v15 = .int .i64 0 ∧ v16 = .int .i64 0 ∧ v17 = .int .i64 0 ∧ wr = w) ∨ (v2 = .int .u64 0 ∧ v5 = .bool false ∧ v7 = .int .i64 1 ∧ v9 = .bool false ∧ v13 = .bool false ∧ v14 = .bool true ∧ v15 = .int .i64 0 ∧ v16 = .int .i64 0 ∧ v17 = .int .i64 (-1) ∧ wr = w)) (fun _ _ v7 _ _ _ _ _ _ _ => 1 - (intOf v7).toNat)
  case atStart =>
    exact .inl ⟨rfl, rfl, rfl, rfl, rfl, rfl, rfl, rfl, rfl, rfl⟩
  case round =>
    rcases hrel with ⟨rfl, rfl, rfl, rfl, rfl, rfl, rfl, rfl, rfl, rfl⟩ | ⟨rfl, rfl, rfl, rfl, rfl, rfl, rfl, rfl, rfl, rfl⟩
    · go_wp2_with fail
      first
      | exact ⟨.inr ⟨rfl, rfl, rfl, rfl, rfl, rfl, rfl, rfl, rfl, trivial⟩, by simp [intOf]⟩
      | exact ⟨.inr ⟨rfl, rfl, rfl, rfl, rfl, rfl, rfl, rfl, rfl, rfl⟩, by simp [intOf]⟩
      | trace_state
    · go_wp2_with fail
      rw [Exit.noGoto_ret]
      refine bodyPost_ret (v := .tuple #[.int .u64 0, .int .i64 0, .bool false, .bool false, .bool false, .int .i64 1, .bool true]) (by simp [results, Tryz.results53, go_sem]) rfl ⟨rfl, rfl⟩
end Go.Proofs.YtaekkifjkgpimaaGreatDoor.Read
