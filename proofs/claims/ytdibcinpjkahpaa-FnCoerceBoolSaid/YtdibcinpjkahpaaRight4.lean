import Derived.Test.YtdibcinpjkahpaaRight
namespace Go.Proofs.Ytdibcinpjkahpaa.Right
set_option linter.unusedVariables false
set_option linter.unusedSimpArgs false
open Go.RowKit Go.Proofs.YtdibcinpjkahpaaW.PrintWords Go.Proofs.YtdibcinpjkahpaaW.PrintLast Go.Proofs.Ytdibcinpjkahpaa.Flo Go.Proofs.Ytdibcinpjkahpaa.Val Go.Proofs.Ytdibcinpjkahpaa.U8
attribute [local go_sem] run_store_float


set_option maxRecDepth 100000 in
set_option maxHeartbeats 4000000 in
theorem right_many (bk o n c : Nat) (deep : Int) (v : V) (w : World) (hn : 0 < n) (hnl : n ≤ 1000000) (hk : v.kind = 7 ∨ v.kind = 8) (hsz : v.size = n) (hd : 0 ≤ deep ∧ deep ≤ 20) (hN : Node w bk o v) 
    (hP : ∀ W, Below w.heap.size w W → Calls Try.prog 22 #[.slice (some ⟨bk, o, none⟩) n c, .bool false, .int .i64 deep] W fun e w' => SomeBool W e w') :
    Calls Try.prog 11 #[.slice (some ⟨bk, o, none⟩) n c, .bool false, .int .i64 deep] w fun e w' => RightAns v n w e w' := by
  obtain ⟨h0, h1, h2, h3⟩ := hN
  obtain ⟨kind, num, text, size⟩ := v
  simp only at hk hsz h0 h1 h2 h3
  subst hsz
  have hni : (0 : Int) < (n : Int) := by omega
  have hd0 : 0 ≤ deep := hd.1
  have HP := Aside0.mk hP
  clear hP
  rcases hk with rfl | rfl
  all_goals
    go_enter Try.func11, Try.ntmps11
    cases hq : (FloatKind.f64.format.order num 0 == some Ordering.eq) with
    | false =>
      have hq2 : (FloatKind.f64.format.order num 0 != some Ordering.eq) = true := by simp only [bne, hq]; rfl
      go_wp2_with fail
      go_ret
      exact ⟨_, rfl, below_alloc (Below.refl _ _) _, fun h => by cases h⟩
    | true =>
      have hq2 : (FloatKind.f64.format.order num 0 != some Ordering.eq) = false := by simp only [bne, hq]; rfl
      cases ht : (text.toList == ([] : List UInt8)) with
      | false =>
        have ht2 : (text.toList != ([] : List UInt8)) = true := by simp [bne, ht]
        go_wp2_with fail
        go_ret
        exact ⟨_, rfl, below_alloc (Below.refl _ _) _, fun h => by cases h⟩
      | true =>
        have ht2 : (text.toList != ([] : List UInt8)) = false := by simp [bne, ht]
        go_wp2_with fail
        refine (HP.out _ (by exact below_alloc (Below.refl _ _) _)).mono ?_
        rintro e w2 ⟨b, rfl, hb⟩
        go_wp2_with fail
        go_ret
        exact ⟨_, rfl, below_one hb, fun _ _ h => by simp at h⟩

set_option maxRecDepth 100000 in
set_option maxHeartbeats 4000000 in
theorem right_size (bk o n c : Nat) (deep : Int) (v : V) (w : World) (hn : 0 < n) (hnl : n ≤ 1000000) (hk : True) (hsz : v.size ≠ n) (hd : deep ≤ 20) (hN : Node w bk o v) :
    Calls Try.prog 11 #[.slice (some ⟨bk, o, none⟩) n c, .bool false, .int .i64 deep] w fun e w' => RightAns v n w e w' := by
  obtain ⟨h0, h1, h2, h3⟩ := hN
  obtain ⟨kind, num, text, size⟩ := v
  simp only at hk hsz h0 h1 h2 h3
  have hni : (0 : Int) < (n : Int) := by omega
  have e1 : (size == (n : Int)) = false := beq_eq_false_iff_ne.2 hsz
  have e2 : (size != (n : Int)) = true := bne_iff_ne.2 hsz
  go_enter Try.func11, Try.ntmps11
  go_wp2_with fail
  go_ret
  exact ⟨_, rfl, below_alloc (Below.refl _ _) _, fun h => by cases h⟩

set_option maxRecDepth 100000 in
set_option maxHeartbeats 4000000 in
theorem right_deep (bk o n c : Nat) (deep : Int) (v : V) (w : World) (hn : 0 < n) (hnl : n ≤ 1000000) (hk : True) (hsz : v.size = n) (hd : deep < 0) (hN : Node w bk o v) :
    Calls Try.prog 11 #[.slice (some ⟨bk, o, none⟩) n c, .bool false, .int .i64 deep] w fun e w' => RightAns v n w e w' := by
  obtain ⟨h0, h1, h2, h3⟩ := hN
  obtain ⟨kind, num, text, size⟩ := v
  simp only at hk hsz h0 h1 h2 h3
  subst hsz
  have hni : (0 : Int) < (n : Int) := by omega
  go_enter Try.func11, Try.ntmps11
  go_wp2_with fail
  go_ret
  exact ⟨_, rfl, below_alloc (Below.refl _ _) _, fun h => by cases h⟩
end Go.Proofs.Ytdibcinpjkahpaa.Right
