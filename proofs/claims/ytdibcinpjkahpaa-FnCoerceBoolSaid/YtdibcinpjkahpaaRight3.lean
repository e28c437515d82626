import Derived.Test.YtdibcinpjkahpaaRight
namespace Go.Proofs.Ytdibcinpjkahpaa.Right
set_option linter.unusedVariables false
set_option linter.unusedSimpArgs false
open Go.RowKit Go.Proofs.YtdibcinpjkahpaaW.PrintWords Go.Proofs.YtdibcinpjkahpaaW.PrintLast Go.Proofs.Ytdibcinpjkahpaa.Flo Go.Proofs.Ytdibcinpjkahpaa.Val Go.Proofs.Ytdibcinpjkahpaa.U8
attribute [local go_sem] run_store_float


set_option maxRecDepth 100000 in
set_option maxHeartbeats 4000000 in
theorem right_one (bk o n c : Nat) (deep : Int) (v : V) (w : World) (hn : 0 < n) (hnl : n ≤ 1000000) (hk : v.kind = 1 ∨ v.kind = 2 ∨ v.kind = 3) (hsz : v.size = n) (hd : 0 ≤ deep ∧ deep ≤ 20) (hN : Node w bk o v) :
    Calls Try.prog 11 #[.slice (some ⟨bk, o, none⟩) n c, .bool false, .int .i64 deep] w fun e w' => RightAns v n w e w' := by
  obtain ⟨h0, h1, h2, h3⟩ := hN
  obtain ⟨kind, num, text, size⟩ := v
  simp only at hk hsz h0 h1 h2 h3
  subst hsz
  have hni : (0 : Int) < (n : Int) := by omega
  have hd0 : 0 ≤ deep := hd.1
  rcases hk with rfl | rfl | rfl
  all_goals
    go_enter Try.func11, Try.ntmps11
    cases hq : (FloatKind.f64.format.order num 0 == some Ordering.eq) with
    | false =>
      have hq2 : (FloatKind.f64.format.order num 0 != some Ordering.eq) = true := by simp only [bne, hq]; rfl
      go_wp2_with fail
      go_ret
      exact ⟨_, rfl, below_alloc (Below.refl _ _) _, fun h => by cases h⟩
    | true =>
      have hq2 : (FloatKind.f64.format.order num 0 != some Ordering.eq) = false := by simp only [bne, hq]; rfl
      cases ht : (text.toList == ([] : List UInt8)) with
      | false =>
        have ht2 : (text.toList != ([] : List UInt8)) = true := by simp [bne, ht]
        go_wp2_with fail
        go_ret
        exact ⟨_, rfl, below_alloc (Below.refl _ _) _, fun h => by cases h⟩
      | true =>
        have ht2 : (text.toList != ([] : List UInt8)) = false := by simp [bne, ht]
        by_cases hn1 : n = 1
        · subst hn1
          go_wp2_with fail
          go_ret
          exact ⟨_, rfl, below_alloc (Below.refl _ _) _, fun _ _ _ => ⟨rfl, rfl, fun h => by cases h⟩⟩
        · have hne : ((n : Int) == 1) = false := beq_eq_false_iff_ne.2 (by omega)
          go_wp2_with fail
          go_ret
          exact ⟨_, rfl, below_alloc (Below.refl _ _) _, fun h => by cases h⟩

set_option maxRecDepth 100000 in
set_option maxHeartbeats 4000000 in
theorem right_err (bk o n c : Nat) (deep : Int) (v : V) (w : World) (hn : 0 < n) (hnl : n ≤ 1000000) (hk : v.kind = 10) (hsz : v.size = n) (hd : 0 ≤ deep ∧ deep ≤ 20) (hN : Node w bk o v) :
    Calls Try.prog 11 #[.slice (some ⟨bk, o, none⟩) n c, .bool false, .int .i64 deep] w fun e w' => RightAns v n w e w' := by
  obtain ⟨h0, h1, h2, h3⟩ := hN
  obtain ⟨kind, num, text, size⟩ := v
  simp only at hk hsz h0 h1 h2 h3
  subst hsz
  have hni : (0 : Int) < (n : Int) := by omega
  have hd0 : 0 ≤ deep := hd.1
  subst hk
  go_enter Try.func11, Try.ntmps11
  cases hq : (FloatKind.f64.format.order num 0 == some Ordering.eq) with
  | false =>
    have hq2 : (FloatKind.f64.format.order num 0 != some Ordering.eq) = true := by simp only [bne, hq]; rfl
    go_wp2_with fail
    go_ret
    exact ⟨_, rfl, below_alloc (Below.refl _ _) _, fun h => by cases h⟩
  | true =>
    have hq2 : (FloatKind.f64.format.order num 0 != some Ordering.eq) = false := by simp only [bne, hq]; rfl
    cases ht : (text.toList == ([] : List UInt8)) with
    | false =>
      have ht2 : (text.toList != ([] : List UInt8)) = true := by simp [bne, ht]
      go_wp2_with fail
      go_ret
      exact ⟨_, rfl, below_alloc (Below.refl _ _) _, fun h => by cases h⟩
    | true =>
      have ht2 : (text.toList != ([] : List UInt8)) = false := by simp [bne, ht]
      go_wp2_with fail
      go_ret
      exact ⟨_, rfl, below_alloc (Below.refl _ _) _, fun h => by cases h⟩

set_option maxRecDepth 100000 in
set_option maxHeartbeats 4000000 in
theorem right_mem (bk o n c : Nat) (deep : Int) (v : V) (w : World) (hn : 0 < n) (hnl : n ≤ 1000000) (hk : v.kind = 9) (hsz : v.size = n) (hd : 0 ≤ deep ∧ deep ≤ 20) (hN : Node w bk o v) :
    Calls Try.prog 11 #[.slice (some ⟨bk, o, none⟩) n c, .bool false, .int .i64 deep] w fun e w' => RightAns v n w e w' := by
  obtain ⟨h0, h1, h2, h3⟩ := hN
  obtain ⟨kind, num, text, size⟩ := v
  simp only at hk hsz h0 h1 h2 h3
  subst hsz
  have hni : (0 : Int) < (n : Int) := by omega
  have hd0 : 0 ≤ deep := hd.1
  subst hk
  go_enter Try.func11, Try.ntmps11
  cases hq : (FloatKind.f64.format.order num 0 == some Ordering.eq) with
  | false =>
    have hq2 : (FloatKind.f64.format.order num 0 != some Ordering.eq) = true := by simp only [bne, hq]; rfl
    go_wp2_with fail
    go_ret
    exact ⟨_, rfl, below_alloc (Below.refl _ _) _, fun h => by cases h⟩
  | true =>
    have hq2 : (FloatKind.f64.format.order num 0 != some Ordering.eq) = false := by simp only [bne, hq]; rfl
    go_wp2_with fail
    go_ret
    exact ⟨_, rfl, below_alloc (Below.refl _ _) _, fun h => by cases h⟩

set_option maxRecDepth 100000 in
set_option maxHeartbeats 4000000 in
theorem right_no (bk o n c : Nat) (deep : Int) (v : V) (w : World) (hn : 0 < n) (hnl : n ≤ 1000000) (hk : v.kind < 1 ∨ 10 < v.kind) (hsz : v.size = n) (hd : 0 ≤ deep ∧ deep ≤ 20) (hN : Node w bk o v) :
    Calls Try.prog 11 #[.slice (some ⟨bk, o, none⟩) n c, .bool false, .int .i64 deep] w fun e w' => RightAns v n w e w' := by
  obtain ⟨h0, h1, h2, h3⟩ := hN
  obtain ⟨kind, num, text, size⟩ := v
  simp only at hk hsz h0 h1 h2 h3
  subst hsz
  have hni : (0 : Int) < (n : Int) := by omega
  have hd0 : 0 ≤ deep := hd.1
  have e1 : (kind == 1) = false := beq_eq_false_iff_ne.2 (by omega)
  have f1 : (kind != 1) = true := bne_iff_ne.2 (by omega)
  have e2 : (kind == 2) = false := beq_eq_false_iff_ne.2 (by omega)
  have f2 : (kind != 2) = true := bne_iff_ne.2 (by omega)
  have e3 : (kind == 3) = false := beq_eq_false_iff_ne.2 (by omega)
  have f3 : (kind != 3) = true := bne_iff_ne.2 (by omega)
  have e4 : (kind == 4) = false := beq_eq_false_iff_ne.2 (by omega)
  have f4 : (kind != 4) = true := bne_iff_ne.2 (by omega)
  have e5 : (kind == 5) = false := beq_eq_false_iff_ne.2 (by omega)
  have f5 : (kind != 5) = true := bne_iff_ne.2 (by omega)
  have e6 : (kind == 6) = false := beq_eq_false_iff_ne.2 (by omega)
  have f6 : (kind != 6) = true := bne_iff_ne.2 (by omega)
  have e7 : (kind == 7) = false := beq_eq_false_iff_ne.2 (by omega)
  have f7 : (kind != 7) = true := bne_iff_ne.2 (by omega)
  have e8 : (kind == 8) = false := beq_eq_false_iff_ne.2 (by omega)
  have f8 : (kind != 8) = true := bne_iff_ne.2 (by omega)
  have e9 : (kind == 9) = false := beq_eq_false_iff_ne.2 (by omega)
  have f9 : (kind != 9) = true := bne_iff_ne.2 (by omega)
  have e10 : (kind == 10) = false := beq_eq_false_iff_ne.2 (by omega)
  have f10 : (kind != 10) = true := bne_iff_ne.2 (by omega)
  go_enter Try.func11, Try.ntmps11
  cases hq : (FloatKind.f64.format.order num 0 == some Ordering.eq) with
  | false =>
    have hq2 : (FloatKind.f64.format.order num 0 != some Ordering.eq) = true := by simp only [bne, hq]; rfl
    go_wp2_with fail
    go_ret
    exact ⟨_, rfl, below_alloc (Below.refl _ _) _, fun h => by cases h⟩
  | true =>
    have hq2 : (FloatKind.f64.format.order num 0 != some Ordering.eq) = false := by simp only [bne, hq]; rfl
    cases ht : (text.toList == ([] : List UInt8)) with
    | false =>
      have ht2 : (text.toList != ([] : List UInt8)) = true := by simp [bne, ht]
      go_wp2_with fail
      go_ret
      exact ⟨_, rfl, below_alloc (Below.refl _ _) _, fun h => by cases h⟩
    | true =>
      have ht2 : (text.toList != ([] : List UInt8)) = false := by simp [bne, ht]
      go_wp2_with fail
      go_ret
      exact ⟨_, rfl, below_alloc (Below.refl _ _) _, fun h => by cases h⟩
end Go.Proofs.Ytdibcinpjkahpaa.Right
