import Derived.Test.YtdibcinpjkahpaaVal
import Derived.Test.YtdibcinpjkahpaaU8
namespace Go.Proofs.Ytdibcinpjkahpaa.Impl
set_option linter.unusedVariables false
set_option linter.unusedSimpArgs false
open Go.RowKit Go.Proofs.YtdibcinpjkahpaaW.PrintWords Go.Proofs.YtdibcinpjkahpaaW.PrintLast Go.Proofs.Ytdibcinpjkahpaa.Flo Go.Proofs.Ytdibcinpjkahpaa.Val
attribute [local go_sem] run_store_float

/-- The value that impl makes of a node of one cell; n is the number that an Int is. -/
def goVal (v : V) (n : Int) : Value :=
  if v.kind = 4 then .iface 3 (.int .i64 n) else if v.kind = 5 then .iface 25 (.float .f64 v.num) else if v.kind = 6 then .iface 9 (.string v.text) else .iface 4 (.bool (v.kind == 2))

set_option maxRecDepth 100000 in
set_option maxHeartbeats 4000000 in
theorem goOf_any (bk o c : Nat) (v : V) (n : Int) (w : World) (hk : 2 ≤ v.kind ∧ v.kind ≤ 6) (hs : v.size = 1)
    (h0 : w.cell? ⟨bk, o, none⟩ = some (.int .i64 v.kind)) (h1 : w.cell? ⟨bk, o + 1, none⟩ = some (.float .f64 v.num)) (h2 : w.cell? ⟨bk, o + 2, none⟩ = some (.string v.text)) (h3 : w.cell? ⟨bk, o + 3, none⟩ = some (.int .i64 v.size))
    (hcv : v.kind = 4 → ∀ W, (convert 25 3 (.float .f64 v.num)).run Try.prog W = .ok (.int .i64 n) W) :
    Calls Try.prog 34 #[.slice (some ⟨bk, o, none⟩) 1 c, .int .i64 0] w fun e w' => e = .returned (.tuple #[goVal v n, .bool true]) ∧ Below w.heap.size w w' := by
  obtain ⟨kind, num, text, size⟩ := v
  simp only at hk hs h0 h1 h2 h3 hcv
  subst hs
  have hbl : bk < w.heap.size := World.block_lt_of_cell? w _ h0
  have hkk : kind = 2 ∨ kind = 3 ∨ kind = 4 ∨ kind = 5 ∨ kind = 6 := by omega
  rcases hkk with rfl | rfl | rfl | rfl | rfl
  all_goals
    try have hcv1 := hcv rfl
    clear hcv
    go_enter Try.func34, Try.ntmps34
    go_wp2_with fail
    go_region
    go_wp2_with fail
    go_region
    go_wp2_with fail
    go_ret2
    exact ⟨by simp [goVal], by first | exact below_alloc (Below.refl _ _) _ | exact below_drew (below_alloc (below_drew (Below.refl _ _)) _) | exact pw_below_drewN (below_alloc (pw_below_drewN (Below.refl _ _) _) _) _⟩
end Go.Proofs.Ytdibcinpjkahpaa.Impl
