import Derived.Test.YtdibcinpjkahpaaRight
namespace Go.Proofs.Ytdibcinpjkahpaa.Right
set_option linter.unusedVariables false
set_option linter.unusedSimpArgs false
open Go.RowKit Go.Proofs.YtdibcinpjkahpaaW.PrintWords Go.Proofs.YtdibcinpjkahpaaW.PrintLast Go.Proofs.Ytdibcinpjkahpaa.Flo Go.Proofs.Ytdibcinpjkahpaa.Val Go.Proofs.Ytdibcinpjkahpaa.U8
attribute [local go_sem] run_store_float

set_option maxRecDepth 100000 in
set_option maxHeartbeats 4000000 in
theorem right_flo (bk o n c : Nat) (deep : Int) (v : V) (w : World) (hn : 0 < n) (hnl : n ≤ 1000000) (hk : v.kind = 5) (hsz : v.size = n) (hd : 0 ≤ deep ∧ deep ≤ 20) (hN : Node w bk o v) :
    Calls Try.prog 11 #[.slice (some ⟨bk, o, none⟩) n c, .bool false, .int .i64 deep] w fun e w' => RightAns v n w e w' := by
  obtain ⟨h0, h1, h2, h3⟩ := hN
  obtain ⟨kind, num, text, size⟩ := v
  simp only at hk hsz h0 h1 h2 h3
  subst hsz
  have hni : (0 : Int) < (n : Int) := by omega
  have hd0 : 0 ≤ deep := hd.1
  subst hk
  go_enter Try.func11, Try.ntmps11
  cases ht : (text.toList == ([] : List UInt8)) with
  | false =>
    have ht2 : (text.toList != ([] : List UInt8)) = true := by simp [bne, ht]
    go_wp2_with fail
    go_ret
    exact ⟨_, rfl, below_alloc (Below.refl _ _) _, fun h => by cases h⟩
  | true =>
    have ht2 : (text.toList != ([] : List UInt8)) = false := by simp [bne, ht]
    by_cases hn1 : n = 1
    · subst hn1
      have hB : Below w.heap.size w (w.alloc (.cells #[.int .i64 5, .float .f64 num, .string text, .int .i64 1] 27)) := below_alloc (Below.refl _ _) _
      have HA := Aside0.mk (fun W => isNaN_any num W)
      have HI := Aside0.mk (fun W => isInf_any num W)
      generalize nanB num = b1 at HA
      generalize infB num = b2 at HI
      cases b1 with
      | true =>
        go_wp2_with fail
        refine (HA.out _).mono ?_
        rintro e w' ⟨rfl, rfl⟩
        go_wp2_with fail
        go_ret
        exact ⟨_, rfl, by first | exact hB | exact pw_below_drewN hB _, fun h => by cases h⟩
      | false =>
        go_wp2_with fail
        refine (HA.out _).mono ?_
        rintro e w' ⟨rfl, rfl⟩
        go_wp2_with fail
        refine (HI.out _).mono ?_
        rintro e w' ⟨rfl, rfl⟩
        go_wp2_with fail
        go_ret
        exact ⟨_, rfl, by first | exact hB | exact pw_below_drewN hB _, fun _ _ _ => ⟨rfl, rfl, fun h => by cases h⟩⟩
    · have hne : ((n : Int) == 1) = false := beq_eq_false_iff_ne.2 (by omega)
      have hB : Below w.heap.size w (w.alloc (.cells #[.int .i64 5, .float .f64 num, .string text, .int .i64 n] 27)) := below_alloc (Below.refl _ _) _
      go_wp2_with fail
      go_ret
      exact ⟨_, rfl, by first | exact hB | exact pw_below_drewN hB _, fun h => by cases h⟩

set_option maxRecDepth 100000 in
set_option maxHeartbeats 4000000 in
theorem right_str (bk o n c : Nat) (deep : Int) (v : V) (w : World) (hn : 0 < n) (hnl : n ≤ 1000000) (hk : v.kind = 6) (hsz : v.size = n) (hd : 0 ≤ deep ∧ deep ≤ 20) (hN : Node w bk o v) :
    Calls Try.prog 11 #[.slice (some ⟨bk, o, none⟩) n c, .bool false, .int .i64 deep] w fun e w' => RightAns v n w e w' := by
  obtain ⟨h0, h1, h2, h3⟩ := hN
  obtain ⟨kind, num, text, size⟩ := v
  simp only at hk hsz h0 h1 h2 h3
  subst hsz
  have hni : (0 : Int) < (n : Int) := by omega
  have hd0 : 0 ≤ deep := hd.1
  subst hk
  go_enter Try.func11, Try.ntmps11
  cases hq : (FloatKind.f64.format.order num 0 == some Ordering.eq) with
  | false =>
    have hq2 : (FloatKind.f64.format.order num 0 != some Ordering.eq) = true := by simp only [bne, hq]; rfl
    go_wp2_with fail
    go_ret
    exact ⟨_, rfl, below_alloc (Below.refl _ _) _, fun h => by cases h⟩
  | true =>
    have hq2 : (FloatKind.f64.format.order num 0 != some Ordering.eq) = false := by simp only [bne, hq]; rfl
    by_cases hn1 : n = 1
    · subst hn1
      have hB : Below w.heap.size w (w.alloc (.cells #[.int .i64 6, .float .f64 num, .string text, .int .i64 1] 27)) := below_alloc (Below.refl _ _) _
      by_cases hl : text.size ≤ 200
      · have hli : (text.size : Int) ≤ 200 := by omega
        obtain ⟨r, hU⟩ := utf8_calls text (by omega)
        have HU := Aside0.mk hU
        clear hU
        go_wp2_with fail
        refine (HU.out _).mono ?_
        rintro e w' ⟨rfl, ⟨nd, rfl⟩⟩
        go_wp2_with fail
        go_ret
        exact ⟨_, rfl, by first | exact hB | exact pw_below_drewN hB _, fun _ _ _ => ⟨rfl, rfl, fun h => by cases h⟩⟩
      · have hli : ¬ (text.size : Int) ≤ 200 := by omega
        go_wp2_with fail
        go_ret
        exact ⟨_, rfl, by first | exact hB | exact pw_below_drewN hB _, fun h => by cases h⟩
    · have hne : ((n : Int) == 1) = false := beq_eq_false_iff_ne.2 (by omega)
      have hB : Below w.heap.size w (w.alloc (.cells #[.int .i64 6, .float .f64 num, .string text, .int .i64 n] 27)) := below_alloc (Below.refl _ _) _
      go_wp2_with fail
      go_ret
      exact ⟨_, rfl, by first | exact hB | exact pw_below_drewN hB _, fun h => by cases h⟩
end Go.Proofs.Ytdibcinpjkahpaa.Right
