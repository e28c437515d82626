import Derived.Test.YtdibcinpjkahpaaImpl2
import Derived.Test.YtdibcinpjkahpaaRight
namespace Go.Proofs.Ytdibcinpjkahpaa.Impl
set_option linter.unusedVariables false
set_option linter.unusedSimpArgs false
open Go.RowKit Go.Proofs.YtdibcinpjkahpaaW.PrintWords Go.Proofs.YtdibcinpjkahpaaW.PrintLast Go.Proofs.Ytdibcinpjkahpaa.Flo Go.Proofs.Ytdibcinpjkahpaa.Val Go.Proofs.Ytdibcinpjkahpaa.Right
attribute [local go_sem] run_store_float as_bool no_bool_0 no_bool_1 no_bool_2 no_int_8 no_int_9 no_int_10 no_float64_4 no_float64_5 no_float64_6 no_string_2 no_string_3 no_string_4

set_option maxRecDepth 100000 in
set_option maxHeartbeats 2000000 in
theorem gcoerce_any (v : V) (n : Int) (w : World) (hk : 2 ≤ v.kind ∧ v.kind ≤ 6) :
    Calls Try.prog 13 #[goVal v n] w fun e w' => e = .returned (.iface 4 (.bool (boolOf v n))) ∧ Below w.heap.size w w' := by
  have HC := Aside0.mk (coerce_any v n w hk)
  generalize goVal v n = x at *
  generalize boolOf v n = b at *
  go_enter Try.func13, Try.ntmps13
  go_wp2_with fail
  refine HC.out.mono ?_
  rintro e w1 ⟨rfl, hb⟩
  go_wp2_with fail
  go_ret
  exact ⟨rfl, hb⟩

/-- A new value of one node. -/
def OneV (v : V) (w : World) (e : Ending) (w' : World) : Prop := ∃ g cap, e = .returned (.slice (some ⟨g, 0, none⟩) 1 cap) ∧ Go.Proofs.Ytdibcinpjkahpaa.Right.Node w' g 0 v ∧ Below w.heap.size w w'
def boolV (b : Bool) : V := ⟨if b then 2 else 3, 0, ⟨#[]⟩, 1⟩

theorem infoV : (Try.prog.info? 27).map (fun i => (i.zero, i.size, i.bytes)) = some (some (.agg #[.int .i64 0, .float .f64 0, .string ⟨#[]⟩, .int .i64 0]), 4, 40) := by kernel_rfl

set_option maxRecDepth 100000 in
set_option maxHeartbeats 4000000 in
theorem put_any (b : Bool) (w : World) :
    Calls Try.prog 35 #[.slice none 0 0, .iface 4 (.bool b), .string ⟨#[]⟩, .nilFunc] w fun e w' => OneV (boolV b) w e w' := by
  go_enter Try.func35, Try.ntmps35
  cases b
  all_goals
    go_wp2_with fail
    go_ret
    exact ⟨w.heap.size + 1, _, rfl, ⟨by simp [go_sem, boolV, Array.getElem?_append], by simp [go_sem, boolV, Array.getElem?_append], by simp [go_sem, boolV, Array.getElem?_append], by simp [go_sem, boolV, Array.getElem?_append]⟩, below_drew (below_alloc (below_alloc (Below.refl _ _) _) _)⟩

set_option maxRecDepth 100000 in
set_option maxHeartbeats 2000000 in
theorem putv_any (b : Bool) (w : World) :
    Calls Try.prog 24 #[.slice none 0 0, .iface 4 (.bool b), .nilFunc] w fun e w' => OneV (boolV b) w e w' := by
  have HC := Aside0.mk (put_any b w)
  go_enter Try.func24, Try.ntmps24
  go_wp2_with fail
  refine HC.out.mono ?_
  rintro e w1 ⟨g, cap, rfl, hN, hb⟩
  go_wp2_with fail
  go_ret
  exact ⟨g, cap, rfl, hN, hb⟩

/-- The same, and true behind it. -/
def OneVT (v : V) (w : World) (e : Ending) (w' : World) : Prop := ∃ g cap, e = .returned (.tuple #[.slice (some ⟨g, 0, none⟩) 1 cap, .bool true]) ∧ Go.Proofs.Ytdibcinpjkahpaa.Right.Node w' g 0 v ∧ Below w.heap.size w w'

set_option maxRecDepth 100000 in
set_option maxHeartbeats 4000000 in
theorem coerced_any (bk o c : Nat) (v : V) (n : Int) (w : World) (hk : 2 ≤ v.kind ∧ v.kind ≤ 6) (hs : v.size = 1) (hN : Go.Proofs.Ytdibcinpjkahpaa.Right.Node w bk o v)
    (hcv : v.kind = 4 → ∀ W, (convert 25 3 (.float .f64 v.num)).run Try.prog W = .ok (.int .i64 n) W) :
    Calls Try.prog 12 #[.slice (some ⟨bk, o, none⟩) 1 c, .func (.func 13) #[] #[]] w fun e w' => OneVT (boolV (boolOf v n)) w e w' := by
  have HW := Aside0.mk (whole_any bk o c v n w hk hs hN.h0 hN.h1 hN.h2 hN.h3 hcv)
  have HG := Aside0.mk (fun W => gcoerce_any v n W hk)
  have hx : (∃ b, goVal v n = .iface 4 (.bool b)) ∨ goVal v n = .iface 3 (.int .i64 n) ∨ goVal v n = .iface 25 (.float .f64 v.num) ∨ goVal v n = .iface 9 (.string v.text) := by
    unfold goVal
    by_cases h4 : v.kind = 4
    · rw [if_pos h4]; exact .inr (.inl rfl)
    · rw [if_neg h4]
      by_cases h5 : v.kind = 5
      · rw [if_pos h5]; exact .inr (.inr (.inl rfl))
      · rw [if_neg h5]
        by_cases h6 : v.kind = 6
        · rw [if_pos h6]; exact .inr (.inr (.inr rfl))
        · rw [if_neg h6]; exact .inl ⟨_, rfl⟩
  generalize goVal v n = x at *
  generalize boolOf v n = b at *
  clear hcv hN
  rcases hx with ⟨y, rfl⟩ | rfl | rfl | rfl
  all_goals
    go_enter Try.func12, Try.ntmps12
    go_wp2_with fail
    refine HW.out.mono ?_
    rintro e w1 ⟨rfl, hb1⟩
    go_wp2_with fail
    refine (HG.out _).mono ?_
    rintro e w2 ⟨rfl, hb2⟩
    have hb := hb1.trans (hb2.mono hb1.size)
    go_wp2_with fail
    refine (putv_any b _).mono ?_
    rintro e w3 ⟨g, cap, rfl, hN, hb3⟩
    go_wp2_with fail
    go_ret2
    exact ⟨g, cap, rfl, hN, hb.trans (hb3.mono hb.size)⟩

set_option maxRecDepth 100000 in
set_option maxHeartbeats 2000000 in
theorem coerceBool_any (bk o c : Nat) (v : V) (n : Int) (w : World) (hk : 2 ≤ v.kind ∧ v.kind ≤ 6) (hs : v.size = 1) (hN : Go.Proofs.Ytdibcinpjkahpaa.Right.Node w bk o v)
    (hcv : v.kind = 4 → ∀ W, (convert 25 3 (.float .f64 v.num)).run Try.prog W = .ok (.int .i64 n) W) :
    Calls Try.prog 7 #[.slice (some ⟨bk, o, none⟩) 1 c] w fun e w' => OneVT (boolV (boolOf v n)) w e w' := by
  have HC := Aside0.mk (coerced_any bk o c v n w hk hs hN hcv)
  clear hk hs hN hcv
  go_enter Try.func7, Try.ntmps7
  go_wp2_with fail
  refine HC.out.mono ?_
  rintro e w1 ⟨g, cap, rfl, hN, hb⟩
  go_wp2_with fail
  go_ret2
  exact ⟨g, cap, rfl, hN, hb⟩
end Go.Proofs.Ytdibcinpjkahpaa.Impl
