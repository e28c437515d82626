import Derived.Test.YtdibcinpjkahpaaPFnCoerceBoolx1
namespace Go.Proofs.Ytdibcinpjkahpaa.U8
open Go.RowKit Go.Proofs.Ytdibcinpjkahpaa.PFnCoerceBool Go.Proofs.YtdibcinpjkahpaaW.PrintWords Go.Proofs.YtdibcinpjkahpaaW.PrintLast

theorem ite_of {α : Type} {c : Prop} [Decidable c] {a b : Option α} {P : Option α → Prop} (h1 : c → P a) (h2 : ¬ c → P b) : P (if c then a else b) := by
  by_cases h : c
  · rw [if_pos h]; exact h1 h
  · rw [if_neg h]; exact h2 h

/-- An answer: a point, and how many bytes it has, or none. -/
def Good (s : ByteArray) (p : Int) (o : Option (Int × Int)) : Prop := ∃ c n : Int, o = some (c, n) ∧ (n = 0 ∨ (1 ≤ n ∧ n ≤ 4 ∧ p + n ≤ s.size))
theorem good_zero (s : ByteArray) (p : Int) : Good s p (some (0, 0)) := ⟨0, 0, rfl, .inl rfl⟩

theorem l0_good (s : ByteArray) (hs : s.size ≤ 2000) (p x5 x7 : Int) (hp : 0 ≤ p) (h1 : 1 ≤ x5) (h4 : x5 ≤ 4) (he : p + x5 ≤ s.size) :
    ∀ (d k : Nat) (x4 x8 : Int), p ≤ x8 → p + x5 - x8 ≤ d → d < k → Good s p (spec_Point.l0 k s p x4 x5 x7 x8) := by
  have hw : wrap64 (p + x5) = p + x5 := by unfold wrap64; omega
  intro d
  induction d with
  | zero =>
    intro k x4 x8 h8 hd hk
    obtain ⟨k, rfl⟩ : ∃ m, k = m + 1 := ⟨k - 1, by omega⟩
    simp only [spec_Point.l0]
    rw [hw, if_neg (by omega)]
    refine ite_of (fun _ => good_zero s p) fun _ => ite_of (fun _ => good_zero s p) fun _ => ite_of (fun _ => ite_of (fun _ => good_zero s p) fun _ => ?_) fun _ => ?_
    · exact ⟨_, _, rfl, .inr ⟨h1, h4, he⟩⟩
    · exact ⟨_, _, rfl, .inr ⟨h1, h4, he⟩⟩
  | succ d ih =>
    intro k x4 x8 h8 hd hk
    obtain ⟨k, rfl⟩ : ∃ m, k = m + 1 := ⟨k - 1, by omega⟩
    simp only [spec_Point.l0]
    rw [hw]
    refine ite_of (fun hlt => ?_) fun _ => ?_
    · rw [if_pos (by omega), if_pos (by omega)]
      refine ite_of (fun _ => good_zero s p) fun _ => ite_of (fun _ => good_zero s p) fun _ => ?_
      have h8' : wrap64 (x8 + 1) = x8 + 1 := by unfold wrap64; omega
      rw [h8']
      exact ih k _ _ (by omega) (by omega) (by omega)
    · refine ite_of (fun _ => good_zero s p) fun _ => ite_of (fun _ => good_zero s p) fun _ => ite_of (fun _ => ite_of (fun _ => good_zero s p) fun _ => ?_) fun _ => ?_
      · exact ⟨_, _, rfl, .inr ⟨h1, h4, he⟩⟩
      · exact ⟨_, _, rfl, .inr ⟨h1, h4, he⟩⟩

theorem j2_good (s : ByteArray) (hs : s.size ≤ 2000) (p : Int) (hp : 0 ≤ p) (hp2 : p < s.size) (k : Nat) (hk : 10 ≤ k) (x4 x5 x7 : Int) (h5 : x5 = 0 ∨ (1 ≤ x5 ∧ x5 ≤ 4)) : Good s p (spec_Point.j2 k s p x4 x5 x7) := by
  obtain ⟨k, rfl⟩ : ∃ m, k = m + 1 := ⟨k - 1, by omega⟩
  obtain ⟨k, rfl⟩ : ∃ m, k = m + 1 := ⟨k - 1, by omega⟩
  simp only [spec_Point.j2, spec_Point.j3]
  refine ite_of (fun _ => ?_) fun h0 => ?_
  · rw [if_pos trivial]; exact good_zero s p
  · have hw : wrap64 (p + x5) = p + x5 := by unfold wrap64; omega
    have hw1 : wrap64 (p + 1) = p + 1 := by unfold wrap64; omega
    rw [hw]
    refine ite_of (fun _ => good_zero s p) fun h => ?_
    have h' : ¬ p + x5 > s.size := by simpa using h
    rw [hw1]
    exact l0_good s hs p x5 x7 hp (by omega) (by omega) (by omega) 4 k _ _ (by omega) (by omega) (by omega)

theorem point_good (s : ByteArray) (hs : s.size ≤ 2000) (p : Int) (hp : 0 ≤ p) (hp2 : p < s.size) (k : Nat) (hk : 12 ≤ k) : Good s p (spec_Point.f k s p) := by
  unfold spec_Point.f
  rw [if_pos hp, if_pos hp2]
  refine ite_of (fun _ => ⟨_, _, rfl, .inr ⟨by omega, by omega, by omega⟩⟩) fun _ => ?_
  obtain ⟨k, rfl⟩ : ∃ m, k = m + 1 := ⟨k - 1, by omega⟩
  obtain ⟨k, rfl⟩ : ∃ m, k = m + 1 := ⟨k - 1, by omega⟩
  have hj : ∀ (m : Nat), 10 ≤ m → ∀ (x4 x5 x7 : Int), (x5 = 0 ∨ (1 ≤ x5 ∧ x5 ≤ 4)) → Good s p (spec_Point.j2 m s p x4 x5 x7) := fun m hm x4 x5 x7 h => j2_good s hs p hp hp2 m hm x4 x5 x7 h
  have h1 : ∀ b, Good s p (spec_Point.j1 (k + 1) s p 0 0 (wrap64 (bt s p)) 0 b) := by
    intro b
    simp only [spec_Point.j1]
    exact ite_of (fun _ => hj k (by omega) _ _ _ (.inr (by omega))) fun _ => ite_of (fun _ => ite_of (fun _ => hj k (by omega) _ _ _ (.inr (by omega))) fun _ => hj k (by omega) _ _ _ (.inl rfl)) fun _ => hj k (by omega) _ _ _ (.inl rfl)
  have h0 : ∀ b, Good s p (spec_Point.j0 (k + 1 + 1) s p 0 0 (wrap64 (bt s p)) 0 b) := by
    intro b
    simp only [spec_Point.j0]
    exact ite_of (fun _ => hj (k + 1) (by omega) _ _ _ (.inr (by omega))) fun _ => ite_of (fun _ => h1 _) fun _ => h1 _
  exact ite_of (fun _ => h0 _) fun _ => h0 _

theorem utf8_total (s : ByteArray) (hs : s.size ≤ 2000) : ∀ (d k : Nat) (p : Int), 0 ≤ p → s.size - p ≤ d → d + 13 < k → ∃ r, spec_UTF8.l0 k s p = some r := by
  intro d
  induction d with
  | zero =>
    intro k p hp hd hk
    obtain ⟨k, rfl⟩ : ∃ m, k = m + 1 := ⟨k - 1, by omega⟩
    simp only [spec_UTF8.l0]
    rw [if_neg (by omega)]
    exact ⟨_, rfl⟩
  | succ d ih =>
    intro k p hp hd hk
    obtain ⟨k, rfl⟩ : ∃ m, k = m + 1 := ⟨k - 1, by omega⟩
    simp only [spec_UTF8.l0]
    by_cases hlt : p < (s.size : Int)
    · rw [if_pos hlt]
      obtain ⟨c, n, e, hn⟩ := point_good s hs p hp hlt k (by omega)
      rw [e, Option.bind_some]
      by_cases h0 : n = 0
      · rw [if_pos h0]; exact ⟨_, rfl⟩
      · rw [if_neg h0]
        have hw : wrap64 (p + n) = p + n := by unfold wrap64; omega
        rw [hw]
        exact ih k _ (by omega) (by omega) (by omega)
    · rw [if_neg hlt]; exact ⟨_, rfl⟩

theorem utf8_calls (s : ByteArray) (hs : s.size ≤ 2000) : ∃ r, ∀ w, Calls Try.prog 21 #[.string s] w fun e w' => e = .returned (.bool r) ∧ Drawn0 w w' := by
  obtain ⟨r, hr⟩ := utf8_total s hs s.size (s.size + 14) 0 (by omega) (by omega) (by omega)
  exact ⟨r, fun w => spec_UTF8.calls (s.size + 14) s r w hr⟩
theorem among_total (l : List ByteArray) (s : ByteArray) (hl : l.length ≤ 1000000) : ∀ (d k : Nat) (i : Int), 0 ≤ i → l.length - i ≤ d → d < k → ∃ r, spec_among.l0 k l s i = some r := by
  intro d
  induction d with
  | zero =>
    intro k i hi hd hk
    obtain ⟨k, rfl⟩ : ∃ m, k = m + 1 := ⟨k - 1, by omega⟩
    simp only [spec_among.l0]
    rw [if_neg (by omega)]
    exact ⟨_, rfl⟩
  | succ d ih =>
    intro k i hi hd hk
    obtain ⟨k, rfl⟩ : ∃ m, k = m + 1 := ⟨k - 1, by omega⟩
    simp only [spec_among.l0]
    by_cases hlt : i < (l.length : Int)
    · rw [if_pos hlt, if_pos hi]
      have hw : wrap64 (i + 1) = i + 1 := by unfold wrap64; omega
      rw [hw]
      split
      · exact ⟨_, rfl⟩
      · exact ih k _ (by omega) (by omega) (by omega)
    · rw [if_neg hlt]; exact ⟨_, rfl⟩
theorem among_calls (l : List ByteArray) (s : ByteArray) (hl : l.length ≤ 1000000) : ∃ r, ∀ (A : Option Addr) (c : Nat) (w : World), Kd.C Kd.string w A l.length l → l.length ≤ c →
    Calls Try.prog 33 #[.slice A l.length c, .string s] w fun e w' => e = .returned (.bool r) ∧ Drawn0 w w' := by
  obtain ⟨r, hr⟩ := among_total l s hl l.length (l.length + 1) 0 (by omega) (by omega) (by omega)
  exact ⟨r, fun A c w hC hc => spec_among.calls (l.length + 1) A c l s r w hC hc hr⟩
end Go.Proofs.Ytdibcinpjkahpaa.U8
