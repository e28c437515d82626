import Derived.Test.YtaekkifjkgpimaaGreatDoorVal
import Derived.Deep.AppendLies
import Derived.Laws.OwnMore
import Derived.OwnWalk
import Derived.Test.YtaekkifjkgpimaaGreatDoorIntF
namespace Go.Proofs.YtaekkifjkgpimaaGreatDoor.Same
set_option linter.unusedVariables false
set_option linter.unusedSimpArgs false
open Go.RowKit Go.Proofs.YtaekkifjkgpimaaGreatDoorW.PrintWords Go.Proofs.YtaekkifjkgpimaaGreatDoor.Base Go.Proofs.YtaekkifjkgpimaaGreatDoor.Val
attribute [local go_sem] run_store_float

set_option maxRecDepth 100000 in
set_option maxHeartbeats 2000000 in
theorem parts_any (g c : Nat) (w : World) : Calls Tryz.prog 17 #[.slice (some ⟨g, 0, none⟩) 1 c] w fun e w' => e = .returned (.slice none 0 0) ∧ Below w.heap.size w w' := by
  go_enter Tryz.func17, Tryz.ntmps17
  go_wp2_with fail
  go_loopw [3, 4] (fun v3 v4 wr => v3 = .slice none 0 0 ∧ v4 = .int .i64 1 ∧ wr = w) (fun _ _ _ => 0)
  case atStart => exact ⟨rfl, rfl, rfl⟩
  case round =>
    obtain ⟨rfl, rfl, rfl⟩ := hrel
    go_wp2_with fail
    go_ret
    exact ⟨rfl, Below.refl _ _⟩
set_option maxRecDepth 100000 in
set_option maxHeartbeats 2000000 in
theorem made_any (v : V) (hs : v.size = 1) (w : World) : Calls Tryz.prog 18 #[.agg #[.int .i64 v.kind, .float .f64 v.num, .string v.text, .int .i64 1], .slice none 0 0] w fun e w' => OneV v w e w' := by
  go_enter Tryz.func18, Tryz.ntmps18
  go_wp2_with fail
  have hB : Below w.heap.size w ((w.alloc (.cells #[.int .i64 v.kind, .float .f64 v.num, .string v.text, .int .i64 1] 34)).alloc (.cells #[.int .i64 v.kind, .float .f64 v.num, .string v.text, .int .i64 1] 34)) := below_alloc (below_alloc (Below.refl _ _) _) _
  go_loopw [5, 6] (fun v5 v6 wr => v5 = .slice (some ⟨w.heap.size + 1, 0, none⟩) 1 1 ∧ v6 = .int .i64 0 ∧ wr = (w.alloc (.cells #[.int .i64 v.kind, .float .f64 v.num, .string v.text, .int .i64 1] 34)).alloc (.cells #[.int .i64 v.kind, .float .f64 v.num, .string v.text, .int .i64 1] 34)) (fun _ _ _ => 0)
  case atStart => exact ⟨rfl, rfl, rfl⟩
  case round =>
    obtain ⟨rfl, rfl, rfl⟩ := hrel
    go_wp2_with fail
    go_ret
    exact ⟨w.heap.size + 1, 1, rfl, ⟨by simp [go_sem], by simp [go_sem], by simp [go_sem], by simp [go_sem, hs]⟩, by first | exact hB | exact hB.setCell (by show w.heap.size ≤ w.heap.size + 1; omega) _⟩
set_option maxRecDepth 100000 in
set_option maxHeartbeats 2000000 in
theorem sorted_any (g c : Nat) (v : V) (hs : v.size = 1) (w : World) (hN : VNode w g 0 v) : Calls Tryz.prog 12 #[.slice (some ⟨g, 0, none⟩) 1 c] w fun e w' => OneV v w e w' := by
  have hgl : g < w.heap.size := World.block_lt_of_cell? w _ hN.h0
  go_enter Tryz.func12, Tryz.ntmps12
  go_wp2_with fail
  refine (parts_any g c w).mono ?_
  rintro e w1 ⟨rfl, hb⟩
  obtain ⟨h0, h1, h2, h3⟩ := hN
  have c0 := pw_cell_below hb h0
  have c1 := pw_cell_below hb h1
  have c2 := pw_cell_below hb h2
  have c3 := pw_cell_below hb h3
  go_wp2_with fail
  go_loopw [4] (fun v4 wr => v4 = .int .i64 0 ∧ wr = w1) (fun _ _ => 0)
  case atStart => exact ⟨rfl, rfl⟩
  case round =>
    obtain ⟨rfl, rfl⟩ := hrel
    go_wp2_with fail
    refine (made_any v hs _).mono ?_
    rintro e w2 ⟨g2, cap, rfl, hN2, hb2⟩
    go_wp2_with fail
    go_ret
    exact ⟨g2, cap, rfl, hN2, hb.trans (hb2.mono hb.size)⟩

theorem feq_eq (x : Nat) (W : World) : (Op.equalIn 9999 27 (.float .f64 x) (.float .f64 x)).run Tryz.prog W = .ok (FloatKind.f64.format.order x x == some .eq) W := by kernel_rfl
theorem cmp_self (n : Int) : compare n n = .eq := by
  simp only [compare, compareOfLessAndEq]
  simp
theorem near_self (n : Int) (h : n.natAbs < 4503599627370496) : (FloatKind.f64.format.order (FloatKind.f64.nearest n) (FloatKind.f64.nearest n) == some Ordering.eq) = true := by
  have h1 := IntF.order_near n n h h
  rw [cmp_self] at h1
  have h2 : FloatKind.f64.format.order (FloatKind.f64.nearest n) (FloatKind.f64.nearest n) = some .eq := h1
  rw [h2]; rfl
set_option maxRecDepth 100000 in
set_option maxHeartbeats 2000000 in
theorem same_any (g1 c1 g2 c2 : Nat) (n : Int) (hn : n.natAbs < 4503599627370496) (w : World) (hN1 : VNode w g1 0 (intV n)) (hN2 : VNode w g2 0 (intV n)) :
    Calls Tryz.prog 7 #[.slice (some ⟨g1, 0, none⟩) 1 c1, .slice (some ⟨g2, 0, none⟩) 1 c2] w fun e w' => e = .returned (.bool true) ∧ Below w.heap.size w w' := by
  go_enter Tryz.func7, Tryz.ntmps7
  go_wp2_with fail
  refine (sorted_any g1 c1 (intV n) rfl _ hN1).mono ?_
  rintro e w1 ⟨h1, k1, rfl, hM1, hb1⟩
  go_wp2_with fail
  refine (sorted_any g2 c2 (intV n) rfl _ (node_below hN2 hb1)).mono ?_
  rintro e w2 ⟨h2, k2, rfl, hM2, hb2⟩
  have hM1' := node_below hM1 hb2
  have hb := hb1.trans (hb2.mono hb1.size)
  have hfe : ∀ W, (Op.equalIn 9999 27 (.float .f64 (intV n).num) (.float .f64 (intV n).num)).run Tryz.prog W = .ok true W := fun W => by
    rw [feq_eq]
    rw [show (FloatKind.f64.format.order (intV n).num (intV n).num == some Ordering.eq) = true from near_self n hn]
  generalize intV n = v at *
  obtain ⟨a0, a1, a2, a3⟩ := hM1'
  obtain ⟨b0, b1, b2, b3⟩ := hM2
  clear hN1 hN2 hM1
  go_wp2_with fail
  go_loopw [7] (fun v7 wr => (v7 = .int .i64 0 ∧ wr = w2) ∨ (v7 = .int .i64 1 ∧ wr = w2.drew)) (fun v7 _ => 1 - (intOf v7).toNat)
  case atStart => exact .inl ⟨rfl, rfl⟩
  case round =>
    rcases hrel with ⟨rfl, rfl⟩ | ⟨rfl, rfl⟩
    · go_wp2_with fail
      go_region
      go_wp2_with fail
      exact ⟨.inr ⟨by go_num, by first | rfl | trivial⟩, by simp [intOf]⟩
    · go_wp2_with fail
      go_ret
      exact ⟨rfl, below_drew hb⟩
end Go.Proofs.YtaekkifjkgpimaaGreatDoor.Same
