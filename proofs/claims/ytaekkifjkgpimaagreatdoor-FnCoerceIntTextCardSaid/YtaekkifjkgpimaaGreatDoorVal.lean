import Derived.Test.YtaekkifjkgpimaaGreatDoorCast
namespace Go.Proofs.YtaekkifjkgpimaaGreatDoor.Val
set_option linter.unusedVariables false
set_option linter.unusedSimpArgs false
open Go.RowKit Go.Proofs.YtaekkifjkgpimaaGreatDoorW.PrintWords Go.Proofs.YtaekkifjkgpimaaGreatDoor.Base
attribute [local go_sem] run_store_float

/-- A node of a value: its kind, number (the float's bits), text, and size. -/
structure V where
  kind : Int
  num : Nat
  text : ByteArray
  size : Int
def V.agg (v : V) : Value := .agg #[.int .i64 v.kind, .float .f64 v.num, .string v.text, .int .i64 v.size]
structure VNode (w : World) (bk o : Nat) (v : V) : Prop where
  h0 : w.cell? ⟨bk, o, none⟩ = some (.int .i64 v.kind)
  h1 : w.cell? ⟨bk, o + 1, none⟩ = some (.float .f64 v.num)
  h2 : w.cell? ⟨bk, o + 2, none⟩ = some (.string v.text)
  h3 : w.cell? ⟨bk, o + 3, none⟩ = some (.int .i64 v.size)
theorem node_below {w w' : World} {g : Nat} {v : V} (h : VNode w g 0 v) (hb : Below w.heap.size w w') : VNode w' g 0 v :=
  ⟨pw_cell_below hb h.h0, pw_cell_below hb h.h1, pw_cell_below hb h.h2, pw_cell_below hb h.h3⟩
/-- A new value of one node. -/
def OneV (v : V) (w : World) (e : Ending) (w' : World) : Prop := ∃ g cap, e = .returned (.slice (some ⟨g, 0, none⟩) 1 cap) ∧ VNode w' g 0 v ∧ Below w.heap.size w w'
/-- The same, and true behind it. -/
def OneVT (v : V) (w : World) (e : Ending) (w' : World) : Prop := ∃ g cap, e = .returned (.tuple #[.slice (some ⟨g, 0, none⟩) 1 cap, .bool true]) ∧ VNode w' g 0 v ∧ Below w.heap.size w w'
/-- A text, and a whole number, as values. -/
def textV (t : ByteArray) : V := ⟨6, 0, t, 1⟩
def intV (n : Int) : V := ⟨4, FloatKind.f64.nearest n, ⟨#[]⟩, 1⟩

set_option maxRecDepth 100000 in
set_option maxHeartbeats 4000000 in
theorem text_any (t : ByteArray) (w : World) : Calls Tryz.prog 5 #[.string t] w fun e w' => OneV (textV t) w e w' := by
  go_enter Tryz.func5, Tryz.ntmps5
  go_wp2_with fail
  go_ret
  exact ⟨w.heap.size, _, rfl, ⟨by simp [go_sem, textV], by simp [go_sem, textV], by simp [go_sem, textV], by simp [go_sem, textV]⟩, below_alloc (Below.refl _ _) _⟩
set_option maxRecDepth 100000 in
set_option maxHeartbeats 4000000 in
theorem number_any (k : Int) (x : Nat) (w : World) : Calls Tryz.prog 8 #[.int .i64 k, .float .f64 x] w fun e w' => OneV ⟨k, x, ⟨#[]⟩, 1⟩ w e w' := by
  go_enter Tryz.func8, Tryz.ntmps8
  go_wp2_with fail
  go_ret
  exact ⟨w.heap.size, _, rfl, ⟨by simp [go_sem], by simp [go_sem], by simp [go_sem], by simp [go_sem]⟩, below_alloc (Below.refl _ _) _⟩

set_option maxRecDepth 100000 in
set_option maxHeartbeats 4000000 in
theorem goOf_text (bk o c : Nat) (t : ByteArray) (w : World) (hN : VNode w bk o (textV t)) :
    Calls Tryz.prog 19 #[.slice (some ⟨bk, o, none⟩) 1 c, .int .i64 0] w fun e w' => e = .returned (.tuple #[.iface 9 (.string t), .bool true]) ∧ Below w.heap.size w w' := by
  obtain ⟨h0, h1, h2, h3⟩ := hN
  unfold textV at h0 h1 h2 h3
  simp only at h0 h1 h2 h3
  have hbl : bk < w.heap.size := World.block_lt_of_cell? w _ h0
  go_enter Tryz.func19, Tryz.ntmps19
  go_wp2_with fail
  go_region
  go_wp2_with fail
  go_region
  go_wp2_with fail
  go_ret2
  exact ⟨rfl, by first | exact below_alloc (Below.refl _ _) _ | exact below_drew (below_alloc (below_drew (Below.refl _ _)) _) | exact pw_below_drewN (below_alloc (pw_below_drewN (Below.refl _ _) _) _) _⟩
set_option maxRecDepth 100000 in
set_option maxHeartbeats 4000000 in
theorem whole_text (bk o c : Nat) (t : ByteArray) (w : World) (hN : VNode w bk o (textV t)) :
    Calls Tryz.prog 13 #[.slice (some ⟨bk, o, none⟩) 1 c] w fun e w' => e = .returned (.tuple #[.iface 9 (.string t), .bool true]) ∧ Below w.heap.size w w' := by
  have HG := Aside0.mk (goOf_text bk o c t w hN)
  have h3 := hN.h3
  unfold textV at h3
  simp only at h3
  clear hN
  go_enter Tryz.func13, Tryz.ntmps13
  go_wp2_with fail
  refine HG.out.mono ?_
  rintro e w1 ⟨rfl, hb⟩
  go_wp2_with fail
  go_ret2
  exact ⟨rfl, hb⟩
end Go.Proofs.YtaekkifjkgpimaaGreatDoor.Val
