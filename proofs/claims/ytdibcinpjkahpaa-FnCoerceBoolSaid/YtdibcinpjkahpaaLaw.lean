import Derived.Test.YtdibcinpjkahpaaFin
namespace Go.Proofs.Ytdibcinpjkahpaa.Law
set_option linter.unusedVariables false
set_option linter.unusedSimpArgs false
open Go.RowKit Go.Proofs.YtdibcinpjkahpaaW.PrintWords Go.Proofs.YtdibcinpjkahpaaW.PrintLast Go.Proofs.Ytdibcinpjkahpaa.Flo Go.Proofs.Ytdibcinpjkahpaa.Val Go.Proofs.Ytdibcinpjkahpaa.Right Go.Proofs.Ytdibcinpjkahpaa.Impl Go.Proofs.Ytdibcinpjkahpaa.Same Go.Proofs.Ytdibcinpjkahpaa.Num Go.Proofs.Ytdibcinpjkahpaa.Fin
attribute [local go_sem] run_store_float

theorem want_eq (v : V) (n : Int) (hk : 2 ≤ v.kind ∧ v.kind ≤ 6) (hn : v.kind = 4 → (n = 0 ↔ ord v.num 0 = some .eq)) :
    boolOf v n = if is7 v then (FloatKind.f64.format.order (num7 v) 0 != some Ordering.eq) else ((v.text.toList != ([] : List UInt8)) && (v.text.toList != [102, 97, 108, 115, 101])) := by
  obtain ⟨kind, num, text, size⟩ := v
  simp only at hk hn
  have hkk : kind = 2 ∨ kind = 3 ∨ kind = 4 ∨ kind = 5 ∨ kind = 6 := by omega
  rcases hkk with rfl | rfl | rfl | rfl | rfl
  · have : (FloatKind.f64.format.order 4607182418800017408 0 != some Ordering.eq) = true := by decide +kernel
    simp [boolOf, is7, num7, this]
  · have : (FloatKind.f64.format.order 0 0 != some Ordering.eq) = false := by decide +kernel
    simp [boolOf, is7, num7, this]
  · have hn := hn rfl
    rw [show boolOf ⟨4, num, text, size⟩ n = (n != 0) by simp [boolOf], show is7 ⟨4, num, text, size⟩ = true by simp [is7], show num7 ⟨4, num, text, size⟩ = num by simp [num7], if_pos rfl]
    by_cases h : n = 0
    · have h2 : FloatKind.f64.format.order num 0 = some .eq := hn.1 h
      rw [h2, h]
      decide
    · have h2 : ¬ FloatKind.f64.format.order num 0 = some .eq := fun e => h (hn.2 e)
      rw [show (n != 0) = true from bne_iff_ne.2 h, show (FloatKind.f64.format.order num 0 != some Ordering.eq) = true from bne_iff_ne.2 h2]
  · simp [boolOf, is7, num7]
  · simp [boolOf, is7, num7]

theorem law_nil (c : Nat) (w : World) : Calls Try.prog 3 #[.slice none 0 c] w fun e w' => e = .returned (.bool true) ∧ Below w.heap.size w w' := by
  go_enter Try.func3, Try.ntmps3
  go_wp2_with fail
  refine (fits_nil c _).mono ?_
  rintro e w1 ⟨rfl, hb1⟩
  go_wp2_with fail
  refine (top_empty none c _).mono ?_
  rintro e w2 ⟨rfl, hb2⟩
  go_wp2_with fail
  go_ret
  exact ⟨rfl, hb1.trans (hb2.mono hb1.size)⟩

set_option maxRecDepth 100000 in
set_option maxHeartbeats 8000000 in
theorem law_some (bk o c : Nat) (vs : List V) (w : World) (hV : VRow w bk o vs) (hc : vs.length ≤ c) (hl : vs.length ≤ 140737488351232) :
    Calls Try.prog 3 #[.slice (some ⟨bk, o, none⟩) vs.length c] w fun e w' => e = .returned (.bool true) ∧ Below w.heap.size w w' := by
  have HV := Aside0.mk hV
  have HF := Aside0.mk (fits4_any bk o c vs w hV hl)
  clear hV
  by_cases h0 : vs.length = 0
  · rw [h0] at HF ⊢
    go_enter Try.func3, Try.ntmps3
    go_wp2_with fail
    refine HF.out.mono ?_
    rintro e w1 ⟨b, rfl, hb1⟩
    cases b with
    | false =>
      go_wp2_with fail
      go_ret
      exact ⟨rfl, hb1⟩
    | true =>
      go_wp2_with fail
      refine (top_empty _ c _).mono ?_
      rintro e w2 ⟨rfl, hb2⟩
      go_wp2_with fail
      go_ret
      exact ⟨rfl, hb1.trans (hb2.mono hb1.size)⟩
  · obtain ⟨v, hv⟩ : ∃ v, vs[0]? = some v := ⟨_, List.getElem?_eq_getElem (by omega)⟩
    have hni : (0 : Int) < (vs.length : Int) := by omega
    by_cases hk1 : v.kind < 1
    · go_enter Try.func3, Try.ntmps3
      go_wp2_with fail
      refine HF.out.mono ?_
      rintro e w1 ⟨b, rfl, hb1⟩
      cases b with
      | false =>
        go_wp2_with fail
        go_ret
        exact ⟨rfl, hb1⟩
      | true =>
        go_wp2_with fail
        refine (top_neg bk o c vs v _ (HV.out.below hb1) hv hk1).mono ?_
        rintro e w2 ⟨rfl, hb2⟩
        go_wp2_with fail
        go_ret
        exact ⟨rfl, hb1.trans (hb2.mono hb1.size)⟩
    · go_enter Try.func3, Try.ntmps3
      go_wp2_with fail
      refine HF.out.mono ?_
      rintro e w1 ⟨b, rfl, hb1⟩
      cases b with
      | false =>
        go_wp2_with fail
        go_ret
        exact ⟨rfl, hb1⟩
      | true =>
        go_wp2_with fail
        refine (top_any bk o c vs v _ (HV.out.below hb1) hv hc).mono ?_
        rintro e w2 ⟨b, rfl, hb2, hR⟩
        have hb := hb1.trans (hb2.mono hb1.size)
        have hN := node_of (HV.out.below hb) hv
        cases b with
        | false =>
          clear hN
          go_wp2_with fail
          go_ret
          exact ⟨rfl, hb⟩
        | true =>
          have hR := hR rfl
          obtain ⟨c0, c1, c2, c3⟩ := hN
          by_cases he1 : v.kind = 1
          · rw [he1] at c0
            go_wp2_with fail
            go_ret
            exact ⟨rfl, hb⟩
          · have he1' : (v.kind == 1) = false := beq_eq_false_iff_ne.2 he1
            by_cases he7 : 7 ≤ v.kind
            · go_wp2_with fail
              go_ret
              exact ⟨rfl, hb⟩
            · have hk : 2 ≤ v.kind ∧ v.kind ≤ 6 := by omega
              have he7' : v.kind < 7 := by omega
              obtain ⟨hn1, hs1, hI⟩ := hR hk.1 hk.2
              have hn : ∃ n : Int, (v.kind = 4 → ∀ W, (convert 25 3 (.float .f64 v.num)).run Try.prog W = .ok (.int .i64 n) W) ∧ (v.kind = 4 → (n = 0 ↔ ord v.num 0 = some .eq)) := by
                by_cases h4 : v.kind = 4
                · obtain ⟨n, a, b⟩ := int_of v.num (hI h4)
                  exact ⟨n, fun _ => a, fun _ => b⟩
                · exact ⟨0, fun h => absurd h h4, fun h => absurd h h4⟩
              obtain ⟨n, hcv, hn0⟩ := hn
              have HW := Aside0.mk (want_eq v n hk hn0)
              have HN7 := Aside0.mk (number7_any bk o 1 c v w2 (by omega) c0 c1)
              have HC := Aside0.mk (coerceBool_any bk o c v n w2 hk hs1 ⟨c0, c1, c2, c3⟩ hcv)
              clear hcv hn0 hI hR
              rw [hn1]
              clear he1
              generalize hi7 : is7 v = i7 at *
              generalize num7 v = x at *
              cases i7 with
              | false =>
                cases t1 : (v.text.toList == ([] : List UInt8)) with
                | true =>
                  have t1' : (v.text.toList != ([] : List UInt8)) = false := by simp only [bne, t1]; rfl
                  have HWb := Aside0.mk (show boolOf v n = false by have h := HW.out; rw [if_neg (by decide)] at h; first | (rw [t1', Bool.false_and] at h; exact h) | (rw [t1', t2', Bool.true_and] at h; exact h))
                  clear HW
                  go_wp2_with fail
                  refine HN7.out.mono ?_
                  rintro e w2' ⟨rfl, rfl⟩
                  go_wp2_with fail
                  refine HC.out.mono ?_
                  rintro e w3 ⟨g, cap, rfl, hM, hb3⟩
                  rw [HWb.out] at hM
                  have hB3 := hb.trans (hb3.mono hb.size)
                  go_wp2_with fail
                  refine (boolValue_any false _).mono ?_
                  rintro e w4 ⟨g2, cap2, rfl, hM2, hb4⟩
                  have hM' := node_below hM hb4
                  have hB4 := hB3.trans (hb4.mono hB3.size)
                  go_wp2_with fail
                  refine (same_any g cap g2 cap2 false _ hM' hM2).mono ?_
                  rintro e w5 ⟨rfl, hb5⟩
                  go_wp2_with fail
                  go_ret
                  exact ⟨rfl, hB4.trans (hb5.mono hB4.size)⟩
                | false =>
                  have t1' : (v.text.toList != ([] : List UInt8)) = true := by simp only [bne, t1]; rfl
                  cases t2 : (v.text.toList == [102, 97, 108, 115, 101]) with
                  | true =>
                    have t2' : (v.text.toList != [102, 97, 108, 115, 101]) = false := by simp only [bne, t2]; rfl
                    have HWb := Aside0.mk (show boolOf v n = false by have h := HW.out; rw [if_neg (by decide)] at h; first | (rw [t1', Bool.false_and] at h; exact h) | (rw [t1', t2', Bool.true_and] at h; exact h))
                    clear HW
                    go_wp2_with fail
                    refine HN7.out.mono ?_
                    rintro e w2' ⟨rfl, rfl⟩
                    go_wp2_with fail
                    refine HC.out.mono ?_
                    rintro e w3 ⟨g, cap, rfl, hM, hb3⟩
                    rw [HWb.out] at hM
                    have hB3 := hb.trans (hb3.mono hb.size)
                    go_wp2_with fail
                    refine (boolValue_any false _).mono ?_
                    rintro e w4 ⟨g2, cap2, rfl, hM2, hb4⟩
                    have hM' := node_below hM hb4
                    have hB4 := hB3.trans (hb4.mono hB3.size)
                    go_wp2_with fail
                    refine (same_any g cap g2 cap2 false _ hM' hM2).mono ?_
                    rintro e w5 ⟨rfl, hb5⟩
                    go_wp2_with fail
                    go_ret
                    exact ⟨rfl, hB4.trans (hb5.mono hB4.size)⟩
                  | false =>
                    have t2' : (v.text.toList != [102, 97, 108, 115, 101]) = true := by simp only [bne, t2]; rfl
                    have HWb := Aside0.mk (show boolOf v n = true by have h := HW.out; rw [if_neg (by decide), t1', t2', Bool.true_and] at h; exact h)
                    clear HW
                    go_wp2_with fail
                    refine HN7.out.mono ?_
                    rintro e w2' ⟨rfl, rfl⟩
                    go_wp2_with fail
                    refine HC.out.mono ?_
                    rintro e w3 ⟨g, cap, rfl, hM, hb3⟩
                    rw [HWb.out] at hM
                    have hB3 := hb.trans (hb3.mono hb.size)
                    go_wp2_with fail
                    refine (boolValue_any true _).mono ?_
                    rintro e w4 ⟨g2, cap2, rfl, hM2, hb4⟩
                    have hM' := node_below hM hb4
                    have hB4 := hB3.trans (hb4.mono hB3.size)
                    go_wp2_with fail
                    refine (same_any g cap g2 cap2 true _ hM' hM2).mono ?_
                    rintro e w5 ⟨rfl, hb5⟩
                    go_wp2_with fail
                    go_ret
                    exact ⟨rfl, hB4.trans (hb5.mono hB4.size)⟩
              | true =>
                cases hq : (FloatKind.f64.format.order x 0 == some Ordering.eq) with
                | true =>
                  have hq2 : (FloatKind.f64.format.order x 0 != some Ordering.eq) = false := by simp only [bne, hq]; rfl
                  have HWb := Aside0.mk (show boolOf v n = false by have h := HW.out; rw [if_pos rfl, hq2] at h; exact h)
                  clear HW
                  cases t1 : (v.text.toList == ([] : List UInt8)) with
                  | true =>
                    have t1' : (v.text.toList != ([] : List UInt8)) = false := by simp only [bne, t1]; rfl
                    go_wp2_with fail
                    refine HN7.out.mono ?_
                    rintro e w2' ⟨rfl, rfl⟩
                    go_wp2_with fail
                    refine HC.out.mono ?_
                    rintro e w3 ⟨g, cap, rfl, hM, hb3⟩
                    rw [HWb.out] at hM
                    have hB3 := hb.trans (hb3.mono hb.size)
                    go_wp2_with fail
                    refine (boolValue_any false _).mono ?_
                    rintro e w4 ⟨g2, cap2, rfl, hM2, hb4⟩
                    have hM' := node_below hM hb4
                    have hB4 := hB3.trans (hb4.mono hB3.size)
                    go_wp2_with fail
                    refine (same_any g cap g2 cap2 false _ hM' hM2).mono ?_
                    rintro e w5 ⟨rfl, hb5⟩
                    go_wp2_with fail
                    go_ret
                    exact ⟨rfl, hB4.trans (hb5.mono hB4.size)⟩
                  | false =>
                    have t1' : (v.text.toList != ([] : List UInt8)) = true := by simp only [bne, t1]; rfl
                    cases t2 : (v.text.toList == [102, 97, 108, 115, 101]) with
                    | true =>
                      have t2' : (v.text.toList != [102, 97, 108, 115, 101]) = false := by simp only [bne, t2]; rfl
                      go_wp2_with fail
                      refine HN7.out.mono ?_
                      rintro e w2' ⟨rfl, rfl⟩
                      go_wp2_with fail
                      refine HC.out.mono ?_
                      rintro e w3 ⟨g, cap, rfl, hM, hb3⟩
                      rw [HWb.out] at hM
                      have hB3 := hb.trans (hb3.mono hb.size)
                      go_wp2_with fail
                      refine (boolValue_any false _).mono ?_
                      rintro e w4 ⟨g2, cap2, rfl, hM2, hb4⟩
                      have hM' := node_below hM hb4
                      have hB4 := hB3.trans (hb4.mono hB3.size)
                      go_wp2_with fail
                      refine (same_any g cap g2 cap2 false _ hM' hM2).mono ?_
                      rintro e w5 ⟨rfl, hb5⟩
                      go_wp2_with fail
                      go_ret
                      exact ⟨rfl, hB4.trans (hb5.mono hB4.size)⟩
                    | false =>
                      have t2' : (v.text.toList != [102, 97, 108, 115, 101]) = true := by simp only [bne, t2]; rfl
                      go_wp2_with fail
                      refine HN7.out.mono ?_
                      rintro e w2' ⟨rfl, rfl⟩
                      go_wp2_with fail
                      refine HC.out.mono ?_
                      rintro e w3 ⟨g, cap, rfl, hM, hb3⟩
                      rw [HWb.out] at hM
                      have hB3 := hb.trans (hb3.mono hb.size)
                      go_wp2_with fail
                      refine (boolValue_any false _).mono ?_
                      rintro e w4 ⟨g2, cap2, rfl, hM2, hb4⟩
                      have hM' := node_below hM hb4
                      have hB4 := hB3.trans (hb4.mono hB3.size)
                      go_wp2_with fail
                      refine (same_any g cap g2 cap2 false _ hM' hM2).mono ?_
                      rintro e w5 ⟨rfl, hb5⟩
                      go_wp2_with fail
                      go_ret
                      exact ⟨rfl, hB4.trans (hb5.mono hB4.size)⟩
                | false =>
                  have hq2 : (FloatKind.f64.format.order x 0 != some Ordering.eq) = true := by simp only [bne, hq]; rfl
                  have HWb := Aside0.mk (show boolOf v n = true by have h := HW.out; rw [if_pos rfl, hq2] at h; exact h)
                  clear HW
                  cases t1 : (v.text.toList == ([] : List UInt8)) with
                  | true =>
                    have t1' : (v.text.toList != ([] : List UInt8)) = false := by simp only [bne, t1]; rfl
                    go_wp2_with fail
                    refine HN7.out.mono ?_
                    rintro e w2' ⟨rfl, rfl⟩
                    go_wp2_with fail
                    refine HC.out.mono ?_
                    rintro e w3 ⟨g, cap, rfl, hM, hb3⟩
                    rw [HWb.out] at hM
                    have hB3 := hb.trans (hb3.mono hb.size)
                    go_wp2_with fail
                    refine (boolValue_any true _).mono ?_
                    rintro e w4 ⟨g2, cap2, rfl, hM2, hb4⟩
                    have hM' := node_below hM hb4
                    have hB4 := hB3.trans (hb4.mono hB3.size)
                    go_wp2_with fail
                    refine (same_any g cap g2 cap2 true _ hM' hM2).mono ?_
                    rintro e w5 ⟨rfl, hb5⟩
                    go_wp2_with fail
                    go_ret
                    exact ⟨rfl, hB4.trans (hb5.mono hB4.size)⟩
                  | false =>
                    have t1' : (v.text.toList != ([] : List UInt8)) = true := by simp only [bne, t1]; rfl
                    cases t2 : (v.text.toList == [102, 97, 108, 115, 101]) with
                    | true =>
                      have t2' : (v.text.toList != [102, 97, 108, 115, 101]) = false := by simp only [bne, t2]; rfl
                      go_wp2_with fail
                      refine HN7.out.mono ?_
                      rintro e w2' ⟨rfl, rfl⟩
                      go_wp2_with fail
                      refine HC.out.mono ?_
                      rintro e w3 ⟨g, cap, rfl, hM, hb3⟩
                      rw [HWb.out] at hM
                      have hB3 := hb.trans (hb3.mono hb.size)
                      go_wp2_with fail
                      refine (boolValue_any true _).mono ?_
                      rintro e w4 ⟨g2, cap2, rfl, hM2, hb4⟩
                      have hM' := node_below hM hb4
                      have hB4 := hB3.trans (hb4.mono hB3.size)
                      go_wp2_with fail
                      refine (same_any g cap g2 cap2 true _ hM' hM2).mono ?_
                      rintro e w5 ⟨rfl, hb5⟩
                      go_wp2_with fail
                      go_ret
                      exact ⟨rfl, hB4.trans (hb5.mono hB4.size)⟩
                    | false =>
                      have t2' : (v.text.toList != [102, 97, 108, 115, 101]) = true := by simp only [bne, t2]; rfl
                      go_wp2_with fail
                      refine HN7.out.mono ?_
                      rintro e w2' ⟨rfl, rfl⟩
                      go_wp2_with fail
                      refine HC.out.mono ?_
                      rintro e w3 ⟨g, cap, rfl, hM, hb3⟩
                      rw [HWb.out] at hM
                      have hB3 := hb.trans (hb3.mono hb.size)
                      go_wp2_with fail
                      refine (boolValue_any true _).mono ?_
                      rintro e w4 ⟨g2, cap2, rfl, hM2, hb4⟩
                      have hM' := node_below hM hb4
                      have hB4 := hB3.trans (hb4.mono hB3.size)
                      go_wp2_with fail
                      refine (same_any g cap g2 cap2 true _ hM' hM2).mono ?_
                      rintro e w5 ⟨rfl, hb5⟩
                      go_wp2_with fail
                      go_ret
                      exact ⟨rfl, hB4.trans (hb5.mono hB4.size)⟩
end Go.Proofs.Ytdibcinpjkahpaa.Law
