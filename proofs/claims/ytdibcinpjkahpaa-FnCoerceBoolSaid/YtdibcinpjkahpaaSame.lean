import Derived.Test.YtdibcinpjkahpaaImpl3
namespace Go.Proofs.Ytdibcinpjkahpaa.Same
set_option linter.unusedVariables false
set_option linter.unusedSimpArgs false
open Go.RowKit Go.Proofs.YtdibcinpjkahpaaW.PrintWords Go.Proofs.YtdibcinpjkahpaaW.PrintLast Go.Proofs.Ytdibcinpjkahpaa.Flo Go.Proofs.Ytdibcinpjkahpaa.Val Go.Proofs.Ytdibcinpjkahpaa.Right Go.Proofs.Ytdibcinpjkahpaa.Impl
attribute [local go_sem] run_store_float

set_option maxRecDepth 100000 in
set_option maxHeartbeats 2000000 in
theorem one_any (k : Int) (w : World) : Calls Try.prog 15 #[.int .i64 k] w fun e w' => OneV ⟨k, 0, ⟨#[]⟩, 1⟩ w e w' := by
  go_enter Try.func15, Try.ntmps15
  go_wp2_with fail
  go_ret
  exact ⟨w.heap.size, _, rfl, ⟨by simp [go_sem], by simp [go_sem], by simp [go_sem], by simp [go_sem]⟩, below_alloc (Below.refl _ _) _⟩
set_option maxRecDepth 100000 in
set_option maxHeartbeats 2000000 in
theorem boolValue_any (b : Bool) (w : World) : Calls Try.prog 9 #[.bool b] w fun e w' => OneV (boolV b) w e w' := by
  cases b
  all_goals
    go_enter Try.func9, Try.ntmps9
    go_wp2_with fail
    refine (one_any _ _).mono ?_
    rintro e w1 ⟨g, cap, rfl, hN, hb⟩
    go_wp2_with fail
    go_ret
    exact ⟨g, cap, rfl, hN, hb⟩
set_option maxRecDepth 100000 in
set_option maxHeartbeats 2000000 in
theorem parts_any (g c : Nat) (w : World) : Calls Try.prog 26 #[.slice (some ⟨g, 0, none⟩) 1 c] w fun e w' => e = .returned (.slice none 0 0) ∧ Below w.heap.size w w' := by
  go_enter Try.func26, Try.ntmps26
  go_wp2_with fail
  go_loopw [3, 4] (fun v3 v4 wr => v3 = .slice none 0 0 ∧ v4 = .int .i64 1 ∧ wr = w) (fun _ _ _ => 0)
  case atStart => exact ⟨rfl, rfl, rfl⟩
  case round =>
    obtain ⟨rfl, rfl, rfl⟩ := hrel
    go_wp2_with fail
    go_ret
    exact ⟨rfl, Below.refl _ _⟩
set_option maxRecDepth 100000 in
set_option maxHeartbeats 2000000 in
theorem made_any (v : V) (hs : v.size = 1) (w : World) : Calls Try.prog 27 #[.agg #[.int .i64 v.kind, .float .f64 v.num, .string v.text, .int .i64 1], .slice none 0 0] w fun e w' => OneV v w e w' := by
  go_enter Try.func27, Try.ntmps27
  go_wp2_with fail
  have hB : Below w.heap.size w ((w.alloc (.cells #[.int .i64 v.kind, .float .f64 v.num, .string v.text, .int .i64 1] 27)).alloc (.cells #[.int .i64 v.kind, .float .f64 v.num, .string v.text, .int .i64 1] 27)) := below_alloc (below_alloc (Below.refl _ _) _) _
  go_loopw [5, 6] (fun v5 v6 wr => v5 = .slice (some ⟨w.heap.size + 1, 0, none⟩) 1 1 ∧ v6 = .int .i64 0 ∧ wr = (w.alloc (.cells #[.int .i64 v.kind, .float .f64 v.num, .string v.text, .int .i64 1] 27)).alloc (.cells #[.int .i64 v.kind, .float .f64 v.num, .string v.text, .int .i64 1] 27)) (fun _ _ _ => 0)
  case atStart => exact ⟨rfl, rfl, rfl⟩
  case round =>
    obtain ⟨rfl, rfl, rfl⟩ := hrel
    go_wp2_with fail
    go_ret
    exact ⟨w.heap.size + 1, 1, rfl, ⟨by simp [go_sem], by simp [go_sem], by simp [go_sem], by simp [go_sem, hs]⟩, by first | exact hB | exact hB.setCell (by show w.heap.size ≤ w.heap.size + 1; omega) _⟩
set_option maxRecDepth 100000 in
set_option maxHeartbeats 2000000 in
theorem sorted_any (g c : Nat) (v : V) (hs : v.size = 1) (w : World) (hN : Go.Proofs.Ytdibcinpjkahpaa.Right.Node w g 0 v) : Calls Try.prog 14 #[.slice (some ⟨g, 0, none⟩) 1 c] w fun e w' => OneV v w e w' := by
  have hgl : g < w.heap.size := World.block_lt_of_cell? w _ hN.h0
  go_enter Try.func14, Try.ntmps14
  go_wp2_with fail
  refine (parts_any g c w).mono ?_
  rintro e w1 ⟨rfl, hb⟩
  obtain ⟨h0, h1, h2, h3⟩ := hN
  have c0 := pw_cell_below hb h0
  have c1 := pw_cell_below hb h1
  have c2 := pw_cell_below hb h2
  have c3 := pw_cell_below hb h3
  go_wp2_with fail
  go_loopw [4] (fun v4 wr => v4 = .int .i64 0 ∧ wr = w1) (fun _ _ => 0)
  case atStart => exact ⟨rfl, rfl⟩
  case round =>
    obtain ⟨rfl, rfl⟩ := hrel
    go_wp2_with fail
    refine (made_any v hs _).mono ?_
    rintro e w2 ⟨g2, cap, rfl, hN2, hb2⟩
    go_wp2_with fail
    go_ret
    exact ⟨g2, cap, rfl, hN2, hb.trans (hb2.mono hb.size)⟩
theorem node_below {w w' : World} {g : Nat} {v : V} (h : Go.Proofs.Ytdibcinpjkahpaa.Right.Node w g 0 v) (hb : Below w.heap.size w w') : Go.Proofs.Ytdibcinpjkahpaa.Right.Node w' g 0 v :=
  ⟨pw_cell_below hb h.h0, pw_cell_below hb h.h1, pw_cell_below hb h.h2, pw_cell_below hb h.h3⟩
set_option maxRecDepth 100000 in
set_option maxHeartbeats 2000000 in
theorem same_any (g1 c1 g2 c2 : Nat) (b : Bool) (w : World) (hN1 : Go.Proofs.Ytdibcinpjkahpaa.Right.Node w g1 0 (boolV b)) (hN2 : Go.Proofs.Ytdibcinpjkahpaa.Right.Node w g2 0 (boolV b)) :
    Calls Try.prog 8 #[.slice (some ⟨g1, 0, none⟩) 1 c1, .slice (some ⟨g2, 0, none⟩) 1 c2] w fun e w' => e = .returned (.bool true) ∧ Below w.heap.size w w' := by
  go_enter Try.func8, Try.ntmps8
  go_wp2_with fail
  refine (sorted_any g1 c1 (boolV b) rfl _ hN1).mono ?_
  rintro e w1 ⟨h1, k1, rfl, hM1, hb1⟩
  go_wp2_with fail
  refine (sorted_any g2 c2 (boolV b) rfl _ (node_below hN2 hb1)).mono ?_
  rintro e w2 ⟨h2, k2, rfl, hM2, hb2⟩
  have hM1' := node_below hM1 hb2
  have hb := hb1.trans (hb2.mono hb1.size)
  obtain ⟨a0, a1, a2, a3⟩ := hM1'
  obtain ⟨b0, b1, b2, b3⟩ := hM2
  go_wp2_with fail
  go_loopw [7] (fun v7 wr => (v7 = .int .i64 0 ∧ wr = w2) ∨ (v7 = .int .i64 1 ∧ wr = w2.drew)) (fun v7 _ => 1 - (intOf v7).toNat)
  case atStart => exact .inl ⟨rfl, rfl⟩
  case round =>
    rcases hrel with ⟨rfl, rfl⟩ | ⟨rfl, rfl⟩
    · have hfe : ∀ W, (Op.equalIn 9999 25 (.float .f64 (boolV b).num) (.float .f64 (boolV b).num)).run Try.prog W = .ok true W := fun W => by
        show (Op.equalIn 9999 25 (.float .f64 0) (.float .f64 0)).run Try.prog W = .ok true W
        kernel_rfl
      go_wp2_with fail
      go_region
      go_wp2_with fail
      exact ⟨.inr ⟨by go_num, by first | rfl | trivial⟩, by simp [intOf]⟩
    · go_wp2_with fail
      go_ret
      exact ⟨rfl, below_drew hb⟩
end Go.Proofs.Ytdibcinpjkahpaa.Same
