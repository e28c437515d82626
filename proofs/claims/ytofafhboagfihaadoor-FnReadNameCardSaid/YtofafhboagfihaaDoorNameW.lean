import Derived.Test.YtofafhboagfihaaDoorNameB
import Derived.Test.YtofafhboagfihaaDoorNameP
namespace Go.Proofs.YtofafhboagfihaaDoor.NameW
open Go.RowKit Go.Proofs.YtofafhboagfihaaDoor.Mem Go.Proofs.YtofafhboagfihaaDoor.Lex Go.Proofs.YtofafhboagfihaaDoor.Rune Go.Proofs.YtofafhboagfihaaDoor.PFnReadName Go.Proofs.YtofafhboagfihaaDoorW.PrintWords

theorem find_end (P : Nat → Bool) : ∀ (d m n : Nat), n - m = d → m ≤ n → P n = false → ∃ q, m ≤ q ∧ q ≤ n ∧ (∀ i, m ≤ i → i < q → P i = true) ∧ P q = false := by
  intro d
  induction d with
  | zero => intro m n hd hm hn; exact ⟨n, hm, Nat.le_refl _, fun i h1 h2 => by omega, hn⟩
  | succ d ih =>
    intro m n hd hm hn
    cases hp : P m with
    | false => exact ⟨m, Nat.le_refl _, hm, fun i h1 h2 => by omega, hp⟩
    | true =>
      obtain ⟨q, h1, h2, h3, h4⟩ := ih (m + 1) n (by omega) (by omega) hn
      refine ⟨q, by omega, h2, fun i hi hq => ?_, h4⟩
      rcases Nat.lt_or_ge m i with h | h
      · exact h3 i (by omega) hq
      · obtain rfl : i = m := by omega
        exact hp

theorem bt_end (s : ByteArray) : bt s s.size = 0 := by unfold bt; rw [dif_neg (by simp)]
theorem name_end (s : ByteArray) (h0 : 0 < s.size) (hb : isBeginB (bt s 0) = true) : ∃ q, 0 < q ∧ q ≤ s.size ∧ (∀ i : Nat, i < q → inNameB (bt s i) = true) ∧ inNameB (bt s q) = false := by
  obtain ⟨q, h1, h2, h3, h4⟩ := find_end (fun i => inNameB (bt s i)) (s.size - 1) 1 s.size rfl (by omega) (by rw [bt_end]; decide)
  refine ⟨q, h1, h2, fun i hi => ?_, h4⟩
  rcases Nat.eq_zero_or_pos i with rfl | hp
  · unfold inNameB; simp only [Int.cast_ofNat_Int]; rw [hb]; rfl
  · exact h3 i hp hi

set_option maxRecDepth 100000 in
set_option maxHeartbeats 2000000 in
theorem law (s : ByteArray) (w : World) (hT : Lib.Utf8Tabs 0 1 w) (hs : s.size ≤ 140737488351232) :
    Calls Tryd.prog 3 #[.string s] w fun e w' => e = .returned (.bool true) ∧ Below w.heap.size w w' := by
  obtain ⟨k, r, hr⟩ := NameP.short9_total s
  have HR := Aside0.mk hr
  clear hr
  have HT := Aside0.mk hT
  clear hT
  by_cases hbig : 2147483647 < s.size
  · have hb : (2147483647 : Int) < (s.size : Int) := by omega
    go_enter Tryd.func3, Tryd.ntmps3
    go_wp2
    go_ret
    exact ⟨rfl, Below.refl _ _⟩
  · have hb : ¬ (2147483647 : Int) < (s.size : Int) := by omega
    cases r with
    | false =>
      go_enter Tryd.func3, Tryd.ntmps3
      go_wp2_with (go_at_call 4; refine (laws_short9.calls k s false _ HR.out).mono ?_; rintro e w' ⟨rfl, ⟨nd, rfl⟩⟩)
      go_ret
      exact ⟨rfl, pw_below_drewN (Below.refl _ _) _⟩
    | true =>
      by_cases hname : s.size = 0 ∨ (0 < s.size ∧ isBeginB (bt s 0) = false)
      · have HN := Aside0.mk (fun W => specReadName_no s W hname)
        clear hname
        go_enter Tryd.func3, Tryd.ntmps3
        go_wp2_with (first | (go_at_call 4; refine (laws_short9.calls k s true _ HR.out).mono ?_; rintro e w' ⟨rfl, ⟨nd, rfl⟩⟩) | (go_at_call 5; refine (HN.out _).mono ?_; rintro e w1 ⟨rfl, hb1⟩))
        go_ret
        exact ⟨rfl, by
          have h : Below w.heap.size w w1 := ⟨hb1.os, hb1.tape, hb1.output, hb1.size, hb1.block⟩
          exact below_alloc h _⟩
      · obtain ⟨q, q1, q2, q3, q4⟩ := name_end s (by omega) (by
          cases h : isBeginB (bt s 0) with
          | true => rfl
          | false => exact absurd (.inr ⟨by omega, h⟩) hname)
        have hb0 : isBeginB (bt s 0) = true := by
          cases h : isBeginB (bt s 0) with
          | true => rfl
          | false => exact absurd (.inr ⟨by omega, h⟩) hname
        have HN := Aside0.mk (fun W => specReadName_yes s q W hs q1 q2 hb0 q3 q4)
        have HI := Aside0.mk (fun W (hb : Below w.heap.size w W) => implReadName q s W (utf8_below HT.out hb) hs q1 q2 hb0 (fun i _ hi => q3 i hi) (fun _ => q4))
        have HQ := Aside0.mk (show laws_told9.f 15 (s.extract 0 q) 0 q true 15 (s.extract 0 q) 0 q true = some true by
          unfold laws_told9.f
          simp)
        clear hname q1 q2 q3 q4 hb0
        generalize s.extract 0 q = x at *
        go_enter Tryd.func3, Tryd.ntmps3
        go_wp2_with (first | (go_at_call 4; refine (laws_short9.calls k s true _ HR.out).mono ?_; rintro e w' ⟨rfl, ⟨nd, rfl⟩⟩) | (go_at_call 5; refine (HN.out _).mono ?_; rintro e w1 ⟨rfl, hb1⟩; have h1 : Below w.heap.size w w1 := ⟨hb1.os, hb1.tape, hb1.output, hb1.size, hb1.block⟩) | (go_at_call 6; refine (HI.out _ (by exact below_alloc h1 _)).mono ?_; rintro e w2 ⟨rfl, hb2⟩; obtain ⟨r0, r1, r2, r3⟩ := four_kept1 hb2; have hlt : w1.heap.size < w2.heap.size := by have hlt := hb2.size; simp only [World.size_alloc] at hlt; omega) | (go_at_call 7; refine (laws_told9.calls 15 x 0 q true 15 x 0 q true true _ HQ.out).mono ?_; rintro e w3 ⟨rfl, hb3⟩))
        go_ret
        exact ⟨rfl, by
          have h2 := h1.trans ((below_one hb2).mono h1.size)
          have h3 : Below w2.heap.size w2 w3 := below_one hb3
          exact h2.trans (h3.mono h2.size)⟩
end Go.Proofs.YtofafhboagfihaaDoor.NameW
