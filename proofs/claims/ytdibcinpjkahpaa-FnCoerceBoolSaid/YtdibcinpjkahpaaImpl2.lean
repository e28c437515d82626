import Derived.Test.YtdibcinpjkahpaaImpl
import Derived.Deep.AppendLies
import Derived.Laws.OwnMore
import Derived.OwnWalk
namespace Go.Proofs.Ytdibcinpjkahpaa.Impl
set_option linter.unusedVariables false
set_option linter.unusedSimpArgs false
open Go.RowKit Go.Proofs.YtdibcinpjkahpaaW.PrintWords Go.Proofs.YtdibcinpjkahpaaW.PrintLast Go.Proofs.Ytdibcinpjkahpaa.Flo Go.Proofs.Ytdibcinpjkahpaa.Val
attribute [local go_sem] run_store_float

theorem as_bool (v : Value) (w : World) : (Instr.typeAssert (.iface 4 v) 20 4 true).run Try.prog w = .ok (.tuple #[v, .bool true]) w := by kernel_rfl
theorem no_bool_0 (v : Value) (w : World) : (Instr.typeAssert (.iface 4 v) 20 46 true).run Try.prog w = .ok (.tuple #[.slice none 0 0, .bool false]) w := by kernel_rfl
theorem no_bool_1 (v : Value) (w : World) : (Instr.typeAssert (.iface 4 v) 20 47 true).run Try.prog w = .ok (.tuple #[.map none, .bool false]) w := by kernel_rfl
theorem no_bool_2 (v : Value) (w : World) : (Instr.typeAssert (.iface 4 v) 20 49 true).run Try.prog w = .ok (.tuple #[.agg #[], .bool false]) w := by kernel_rfl
theorem as_int (v : Value) (w : World) : (Instr.typeAssert (.iface 3 v) 20 3 true).run Try.prog w = .ok (.tuple #[v, .bool true]) w := by kernel_rfl
theorem no_int_0 (v : Value) (w : World) : (Instr.typeAssert (.iface 3 v) 20 4 true).run Try.prog w = .ok (.tuple #[.bool false, .bool false]) w := by kernel_rfl
theorem no_int_1 (v : Value) (w : World) : (Instr.typeAssert (.iface 3 v) 20 64 true).run Try.prog w = .ok (.tuple #[.pointer none, .bool false]) w := by kernel_rfl
theorem no_int_2 (v : Value) (w : World) : (Instr.typeAssert (.iface 3 v) 20 9 true).run Try.prog w = .ok (.tuple #[.string ⟨#[]⟩, .bool false]) w := by kernel_rfl
theorem no_int_3 (v : Value) (w : World) : (Instr.typeAssert (.iface 3 v) 20 65 true).run Try.prog w = .ok (.tuple #[.pointer none, .bool false]) w := by kernel_rfl
theorem no_int_4 (v : Value) (w : World) : (Instr.typeAssert (.iface 3 v) 20 25 true).run Try.prog w = .ok (.tuple #[.float .f64 0, .bool false]) w := by kernel_rfl
theorem no_int_5 (v : Value) (w : World) : (Instr.typeAssert (.iface 3 v) 20 66 true).run Try.prog w = .ok (.tuple #[.pointer none, .bool false]) w := by kernel_rfl
theorem no_int_6 (v : Value) (w : World) : (Instr.typeAssert (.iface 3 v) 20 67 true).run Try.prog w = .ok (.tuple #[.float .f32 0, .bool false]) w := by kernel_rfl
theorem no_int_7 (v : Value) (w : World) : (Instr.typeAssert (.iface 3 v) 20 68 true).run Try.prog w = .ok (.tuple #[.pointer none, .bool false]) w := by kernel_rfl
theorem no_int_8 (v : Value) (w : World) : (Instr.typeAssert (.iface 3 v) 20 46 true).run Try.prog w = .ok (.tuple #[.slice none 0 0, .bool false]) w := by kernel_rfl
theorem no_int_9 (v : Value) (w : World) : (Instr.typeAssert (.iface 3 v) 20 47 true).run Try.prog w = .ok (.tuple #[.map none, .bool false]) w := by kernel_rfl
theorem no_int_10 (v : Value) (w : World) : (Instr.typeAssert (.iface 3 v) 20 49 true).run Try.prog w = .ok (.tuple #[.agg #[], .bool false]) w := by kernel_rfl
theorem as_float64 (v : Value) (w : World) : (Instr.typeAssert (.iface 25 v) 20 25 true).run Try.prog w = .ok (.tuple #[v, .bool true]) w := by kernel_rfl
theorem no_float64_0 (v : Value) (w : World) : (Instr.typeAssert (.iface 25 v) 20 4 true).run Try.prog w = .ok (.tuple #[.bool false, .bool false]) w := by kernel_rfl
theorem no_float64_1 (v : Value) (w : World) : (Instr.typeAssert (.iface 25 v) 20 64 true).run Try.prog w = .ok (.tuple #[.pointer none, .bool false]) w := by kernel_rfl
theorem no_float64_2 (v : Value) (w : World) : (Instr.typeAssert (.iface 25 v) 20 9 true).run Try.prog w = .ok (.tuple #[.string ⟨#[]⟩, .bool false]) w := by kernel_rfl
theorem no_float64_3 (v : Value) (w : World) : (Instr.typeAssert (.iface 25 v) 20 65 true).run Try.prog w = .ok (.tuple #[.pointer none, .bool false]) w := by kernel_rfl
theorem no_float64_4 (v : Value) (w : World) : (Instr.typeAssert (.iface 25 v) 20 46 true).run Try.prog w = .ok (.tuple #[.slice none 0 0, .bool false]) w := by kernel_rfl
theorem no_float64_5 (v : Value) (w : World) : (Instr.typeAssert (.iface 25 v) 20 47 true).run Try.prog w = .ok (.tuple #[.map none, .bool false]) w := by kernel_rfl
theorem no_float64_6 (v : Value) (w : World) : (Instr.typeAssert (.iface 25 v) 20 49 true).run Try.prog w = .ok (.tuple #[.agg #[], .bool false]) w := by kernel_rfl
theorem as_string (v : Value) (w : World) : (Instr.typeAssert (.iface 9 v) 20 9 true).run Try.prog w = .ok (.tuple #[v, .bool true]) w := by kernel_rfl
theorem no_string_0 (v : Value) (w : World) : (Instr.typeAssert (.iface 9 v) 20 4 true).run Try.prog w = .ok (.tuple #[.bool false, .bool false]) w := by kernel_rfl
theorem no_string_1 (v : Value) (w : World) : (Instr.typeAssert (.iface 9 v) 20 64 true).run Try.prog w = .ok (.tuple #[.pointer none, .bool false]) w := by kernel_rfl
theorem no_string_2 (v : Value) (w : World) : (Instr.typeAssert (.iface 9 v) 20 46 true).run Try.prog w = .ok (.tuple #[.slice none 0 0, .bool false]) w := by kernel_rfl
theorem no_string_3 (v : Value) (w : World) : (Instr.typeAssert (.iface 9 v) 20 47 true).run Try.prog w = .ok (.tuple #[.map none, .bool false]) w := by kernel_rfl
theorem no_string_4 (v : Value) (w : World) : (Instr.typeAssert (.iface 9 v) 20 49 true).run Try.prog w = .ok (.tuple #[.agg #[], .bool false]) w := by kernel_rfl
attribute [local go_sem] as_bool no_bool_0 no_bool_1 no_bool_2 as_int no_int_0 no_int_1 no_int_2 no_int_3 no_int_4 no_int_5 no_int_6 no_int_7 no_int_8 no_int_9 no_int_10 as_float64 no_float64_0 no_float64_1 no_float64_2 no_float64_3 no_float64_4 no_float64_5 no_float64_6 as_string no_string_0 no_string_1 no_string_2 no_string_3 no_string_4

set_option maxRecDepth 100000 in
set_option maxHeartbeats 4000000 in
theorem whole_any (bk o c : Nat) (v : V) (n : Int) (w : World) (hk : 2 ≤ v.kind ∧ v.kind ≤ 6) (hs : v.size = 1)
    (h0 : w.cell? ⟨bk, o, none⟩ = some (.int .i64 v.kind)) (h1 : w.cell? ⟨bk, o + 1, none⟩ = some (.float .f64 v.num)) (h2 : w.cell? ⟨bk, o + 2, none⟩ = some (.string v.text)) (h3 : w.cell? ⟨bk, o + 3, none⟩ = some (.int .i64 v.size))
    (hcv : v.kind = 4 → ∀ W, (convert 25 3 (.float .f64 v.num)).run Try.prog W = .ok (.int .i64 n) W) :
    Calls Try.prog 23 #[.slice (some ⟨bk, o, none⟩) 1 c] w fun e w' => e = .returned (.tuple #[goVal v n, .bool true]) ∧ Below w.heap.size w w' := by
  have HG := Aside0.mk (goOf_any bk o c v n w hk hs h0 h1 h2 h3 hcv)
  rw [hs] at h3
  generalize goVal v n = x at *
  clear hcv h0 h1 h2
  go_enter Try.func23, Try.ntmps23
  go_wp2_with fail
  refine HG.out.mono ?_
  rintro e w1 ⟨rfl, hb⟩
  go_wp2_with fail
  go_ret2
  exact ⟨rfl, hb⟩

/-- What the code's coercion answers. -/
def boolOf (v : V) (n : Int) : Bool :=
  if v.kind = 4 then n != 0 else if v.kind = 5 then FloatKind.f64.format.order v.num 0 != some Ordering.eq else if v.kind = 6 then (v.text.toList != ([] : List UInt8)) && (v.text.toList != [102, 97, 108, 115, 101]) else v.kind == 2

set_option maxRecDepth 100000 in
set_option maxHeartbeats 4000000 in
theorem coerce_any (v : V) (n : Int) (w : World) (hk : 2 ≤ v.kind ∧ v.kind ≤ 6) :
    Calls Try.prog 25 #[goVal v n] w fun e w' => e = .returned (.iface 4 (.bool (boolOf v n))) ∧ Below w.heap.size w w' := by
  obtain ⟨kind, num, text, size⟩ := v
  simp only at hk
  have hkk : kind = 2 ∨ kind = 3 ∨ kind = 4 ∨ kind = 5 ∨ kind = 6 := by omega
  rcases hkk with rfl | rfl | rfl | rfl | rfl
  · rw [show goVal ⟨2, num, text, size⟩ n = .iface 4 (.bool true) by simp [goVal], show boolOf ⟨2, num, text, size⟩ n = true by simp [boolOf]]
    go_enter Try.func25, Try.ntmps25
    go_wp2_with fail
    go_ret
    exact ⟨rfl, by first | exact Below.refl _ _ | exact below_alloc (Below.refl _ _) _⟩
  · rw [show goVal ⟨3, num, text, size⟩ n = .iface 4 (.bool false) by simp [goVal], show boolOf ⟨3, num, text, size⟩ n = false by simp [boolOf]]
    go_enter Try.func25, Try.ntmps25
    go_wp2_with fail
    go_ret
    exact ⟨rfl, by first | exact Below.refl _ _ | exact below_alloc (Below.refl _ _) _⟩
  · rw [show goVal ⟨4, num, text, size⟩ n = .iface 3 (.int .i64 n) by simp [goVal], show boolOf ⟨4, num, text, size⟩ n = (n != 0) by simp [boolOf]]
    cases hn : (n == 0) with
    | true =>
      have hn2 : (n != 0) = false := by simp only [bne, hn]; rfl
      rw [hn2]
      go_enter Try.func25, Try.ntmps25
      go_wp2_with fail
      go_ret
      exact ⟨rfl, by first | exact Below.refl _ _ | exact below_alloc (Below.refl _ _) _⟩
    | false =>
      have hn2 : (n != 0) = true := by simp only [bne, hn]; rfl
      rw [hn2]
      go_enter Try.func25, Try.ntmps25
      go_wp2_with fail
      go_ret
      exact ⟨rfl, by first | exact Below.refl _ _ | exact below_alloc (Below.refl _ _) _⟩
  · rw [show goVal ⟨5, num, text, size⟩ n = .iface 25 (.float .f64 num) by simp [goVal], show boolOf ⟨5, num, text, size⟩ n = (FloatKind.f64.format.order num 0 != some Ordering.eq) by simp [boolOf]]
    cases hn : (FloatKind.f64.format.order num 0 == some Ordering.eq) with
    | true =>
      have hn2 : (FloatKind.f64.format.order num 0 != some Ordering.eq) = false := by simp only [bne, hn]; rfl
      rw [hn2]
      go_enter Try.func25, Try.ntmps25
      go_wp2_with fail
      go_ret
      exact ⟨rfl, by first | exact Below.refl _ _ | exact below_alloc (Below.refl _ _) _⟩
    | false =>
      have hn2 : (FloatKind.f64.format.order num 0 != some Ordering.eq) = true := by simp only [bne, hn]; rfl
      rw [hn2]
      go_enter Try.func25, Try.ntmps25
      go_wp2_with fail
      go_ret
      exact ⟨rfl, by first | exact Below.refl _ _ | exact below_alloc (Below.refl _ _) _⟩
  · rw [show goVal ⟨6, num, text, size⟩ n = .iface 9 (.string text) by simp [goVal], show boolOf ⟨6, num, text, size⟩ n = ((text.toList != ([] : List UInt8)) && (text.toList != [102, 97, 108, 115, 101])) by simp [boolOf]]
    cases hn : (text.toList == ([] : List UInt8)) with
    | true =>
      have hn2 : (text.toList != ([] : List UInt8)) = false := by simp only [bne, hn]; rfl
      rw [hn2, Bool.false_and]
      go_enter Try.func25, Try.ntmps25
      go_wp2_with fail
      go_ret
      exact ⟨rfl, by first | exact Below.refl _ _ | exact below_alloc (Below.refl _ _) _⟩
    | false =>
      have hn2 : (text.toList != ([] : List UInt8)) = true := by simp only [bne, hn]; rfl
      rw [hn2, Bool.true_and]
      cases hm : (text.toList == [102, 97, 108, 115, 101]) with
      | true =>
        have hm2 : (text.toList != [102, 97, 108, 115, 101]) = false := by simp only [bne, hm]; rfl
        rw [hm2]
        go_enter Try.func25, Try.ntmps25
        go_wp2_with fail
        go_ret
        exact ⟨rfl, by first | exact Below.refl _ _ | exact below_alloc (Below.refl _ _) _⟩
      | false =>
        have hm2 : (text.toList != [102, 97, 108, 115, 101]) = true := by simp only [bne, hm]; rfl
        rw [hm2]
        go_enter Try.func25, Try.ntmps25
        go_wp2_with fail
        go_ret
        exact ⟨rfl, by first | exact Below.refl _ _ | exact below_alloc (Below.refl _ _) _⟩
end Go.Proofs.Ytdibcinpjkahpaa.Impl
