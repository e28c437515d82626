import Derived.Test.YtklgaldpcaogbaaGreatDoorPFnReadBlockx2
import Derived.Test.YtklgaldpcaogbaaGreatDoorSrc
namespace Go.Proofs.YtklgaldpcaogbaaGreatDoor.NameP
open Go.RowKit Go.Proofs.YtklgaldpcaogbaaGreatDoor.PFnReadBlock Go.Proofs.YtklgaldpcaogbaaGreatDoorW.PrintWords Go.Proofs.YtklgaldpcaogbaaGreatDoorW.PrintLast

theorem ite_of {α : Type} {c : Prop} [Decidable c] {a b : Option α} {P : Option α → Prop} (h1 : c → P a) (h2 : ¬ c → P b) : P (if c then a else b) := by
  by_cases h : c
  · rw [if_pos h]; exact h1 h
  · rw [if_neg h]; exact h2 h

/-- An answer: a point, and how many bytes it has, or none. -/
def Good (s : ByteArray) (p : Int) (o : Option (Int × Int)) : Prop := ∃ c n : Int, o = some (c, n) ∧ (n = 0 ∨ (1 ≤ n ∧ n ≤ 4 ∧ p + n ≤ s.size))
theorem good_zero (s : ByteArray) (p : Int) : Good s p (some (0, 0)) := ⟨0, 0, rfl, .inl rfl⟩

theorem l0_good (s : ByteArray) (hs : s.size ≤ 2000) (p x5 x7 : Int) (hp : 0 ≤ p) (h1 : 1 ≤ x5) (h4 : x5 ≤ 4) (he : p + x5 ≤ s.size) :
    ∀ (d k : Nat) (x4 x8 : Int), p ≤ x8 → p + x5 - x8 ≤ d → d < k → Good s p (spec_Point.l0 k s p x4 x5 x7 x8) := by
  have hw : wrap64 (p + x5) = p + x5 := by unfold wrap64; omega
  intro d
  induction d with
  | zero =>
    intro k x4 x8 h8 hd hk
    obtain ⟨k, rfl⟩ : ∃ m, k = m + 1 := ⟨k - 1, by omega⟩
    simp only [spec_Point.l0]
    rw [hw, if_neg (by omega)]
    refine ite_of (fun _ => good_zero s p) fun _ => ite_of (fun _ => good_zero s p) fun _ => ite_of (fun _ => ite_of (fun _ => good_zero s p) fun _ => ?_) fun _ => ?_
    · exact ⟨_, _, rfl, .inr ⟨h1, h4, he⟩⟩
    · exact ⟨_, _, rfl, .inr ⟨h1, h4, he⟩⟩
  | succ d ih =>
    intro k x4 x8 h8 hd hk
    obtain ⟨k, rfl⟩ : ∃ m, k = m + 1 := ⟨k - 1, by omega⟩
    simp only [spec_Point.l0]
    rw [hw]
    refine ite_of (fun hlt => ?_) fun _ => ?_
    · rw [if_pos (by omega), if_pos (by omega)]
      refine ite_of (fun _ => good_zero s p) fun _ => ite_of (fun _ => good_zero s p) fun _ => ?_
      have h8' : wrap64 (x8 + 1) = x8 + 1 := by unfold wrap64; omega
      rw [h8']
      exact ih k _ _ (by omega) (by omega) (by omega)
    · refine ite_of (fun _ => good_zero s p) fun _ => ite_of (fun _ => good_zero s p) fun _ => ite_of (fun _ => ite_of (fun _ => good_zero s p) fun _ => ?_) fun _ => ?_
      · exact ⟨_, _, rfl, .inr ⟨h1, h4, he⟩⟩
      · exact ⟨_, _, rfl, .inr ⟨h1, h4, he⟩⟩

theorem j2_good (s : ByteArray) (hs : s.size ≤ 2000) (p : Int) (hp : 0 ≤ p) (hp2 : p < s.size) (k : Nat) (hk : 10 ≤ k) (x4 x5 x7 : Int) (h5 : x5 = 0 ∨ (1 ≤ x5 ∧ x5 ≤ 4)) : Good s p (spec_Point.j2 k s p x4 x5 x7) := by
  obtain ⟨k, rfl⟩ : ∃ m, k = m + 1 := ⟨k - 1, by omega⟩
  obtain ⟨k, rfl⟩ : ∃ m, k = m + 1 := ⟨k - 1, by omega⟩
  simp only [spec_Point.j2, spec_Point.j3]
  refine ite_of (fun _ => ?_) fun h0 => ?_
  · rw [if_pos trivial]; exact good_zero s p
  · have hw : wrap64 (p + x5) = p + x5 := by unfold wrap64; omega
    have hw1 : wrap64 (p + 1) = p + 1 := by unfold wrap64; omega
    rw [hw]
    refine ite_of (fun _ => good_zero s p) fun h => ?_
    have h' : ¬ p + x5 > s.size := by simpa using h
    rw [hw1]
    exact l0_good s hs p x5 x7 hp (by omega) (by omega) (by omega) 4 k _ _ (by omega) (by omega) (by omega)

theorem point_good (s : ByteArray) (hs : s.size ≤ 2000) (p : Int) (hp : 0 ≤ p) (hp2 : p < s.size) (k : Nat) (hk : 12 ≤ k) : Good s p (spec_Point.f k s p) := by
  unfold spec_Point.f
  rw [if_pos hp, if_pos hp2]
  refine ite_of (fun _ => ⟨_, _, rfl, .inr ⟨by omega, by omega, by omega⟩⟩) fun _ => ?_
  obtain ⟨k, rfl⟩ : ∃ m, k = m + 1 := ⟨k - 1, by omega⟩
  obtain ⟨k, rfl⟩ : ∃ m, k = m + 1 := ⟨k - 1, by omega⟩
  have hj : ∀ (m : Nat), 10 ≤ m → ∀ (x4 x5 x7 : Int), (x5 = 0 ∨ (1 ≤ x5 ∧ x5 ≤ 4)) → Good s p (spec_Point.j2 m s p x4 x5 x7) := fun m hm x4 x5 x7 h => j2_good s hs p hp hp2 m hm x4 x5 x7 h
  have h1 : ∀ b, Good s p (spec_Point.j1 (k + 1) s p 0 0 (wrap64 (bt s p)) 0 b) := by
    intro b
    simp only [spec_Point.j1]
    exact ite_of (fun _ => hj k (by omega) _ _ _ (.inr (by omega))) fun _ => ite_of (fun _ => ite_of (fun _ => hj k (by omega) _ _ _ (.inr (by omega))) fun _ => hj k (by omega) _ _ _ (.inl rfl)) fun _ => hj k (by omega) _ _ _ (.inl rfl)
  have h0 : ∀ b, Good s p (spec_Point.j0 (k + 1 + 1) s p 0 0 (wrap64 (bt s p)) 0 b) := by
    intro b
    simp only [spec_Point.j0]
    exact ite_of (fun _ => hj (k + 1) (by omega) _ _ _ (.inr (by omega))) fun _ => ite_of (fun _ => h1 _) fun _ => h1 _
  exact ite_of (fun _ => h0 _) fun _ => h0 _

theorem utf8_total (s : ByteArray) (hs : s.size ≤ 2000) : ∀ (d k : Nat) (p : Int), 0 ≤ p → s.size - p ≤ d → d + 13 < k → ∃ r, spec_UTF8.l0 k s p = some r := by
  intro d
  induction d with
  | zero =>
    intro k p hp hd hk
    obtain ⟨k, rfl⟩ : ∃ m, k = m + 1 := ⟨k - 1, by omega⟩
    simp only [spec_UTF8.l0]
    rw [if_neg (by omega)]
    exact ⟨_, rfl⟩
  | succ d ih =>
    intro k p hp hd hk
    obtain ⟨k, rfl⟩ : ∃ m, k = m + 1 := ⟨k - 1, by omega⟩
    simp only [spec_UTF8.l0]
    by_cases hlt : p < (s.size : Int)
    · rw [if_pos hlt]
      obtain ⟨c, n, e, hn⟩ := point_good s hs p hp hlt k (by omega)
      rw [e, Option.bind_some]
      by_cases h0 : n = 0
      · rw [if_pos h0]; exact ⟨_, rfl⟩
      · rw [if_neg h0]
        have hw : wrap64 (p + n) = p + n := by unfold wrap64; omega
        rw [hw]
        exact ih k _ (by omega) (by omega) (by omega)
    · rw [if_neg hlt]; exact ⟨_, rfl⟩

theorem short9_total (s : ByteArray) : ∃ k r, laws_short9.f k s = some r := by
  by_cases h : (s.size : Int) ≤ 2000
  · obtain ⟨r, hr⟩ := utf8_total s (by omega) s.size (s.size + 14) 0 (by omega) (by omega) (by omega)
    refine ⟨s.size + 14, r, ?_⟩
    unfold laws_short9.f spec_UTF8.f
    rw [if_pos h, hr]
    rfl
  · exact ⟨0, false, by unfold laws_short9.f; rw [if_neg h]⟩

open Go.Proofs.YtklgaldpcaogbaaGreatDoor.Rune Go.Proofs.YtklgaldpcaogbaaGreatDoor.Lex
theorem dec2 (n b0 b1 b2 b3 : Nat) (h0 : 194 ≤ b0) (h : b0 < 224) (hn : 2 ≤ n) (h1 : 128 ≤ b1) (h1' : b1 ≤ 191) : Lib.decodeN n b0 b1 b2 b3 = ((b0 - 192) * 64 + b1 - 128, 2) := by
  unfold Lib.decodeN
  rw [if_neg (by omega), if_pos ⟨by omega, by omega, by omega⟩, if_pos (by omega)]
  exact Prod.ext (by dsimp only; omega) rfl
theorem dec3 (n b0 b1 b2 b3 : Nat) (h0 : 224 ≤ b0) (h : b0 < 240) (hn : 3 ≤ n) (h1 : 128 ≤ b1) (h1' : b1 ≤ 191) (h2 : 128 ≤ b2) (h2' : b2 ≤ 191) (hc : 2048 ≤ ((b0 - 224) * 64 + b1 - 128) * 64 + b2 - 128)
    (hs : ((b0 - 224) * 64 + b1 - 128) * 64 + b2 - 128 < 55296 ∨ 57344 ≤ ((b0 - 224) * 64 + b1 - 128) * 64 + b2 - 128) : Lib.decodeN n b0 b1 b2 b3 = (((b0 - 224) * 64 + b1 - 128) * 64 + b2 - 128, 3) := by
  unfold Lib.decodeN
  rw [if_neg (by omega), if_neg (by omega), if_pos ⟨by omega, ⟨by omega, by omega⟩, by omega, by omega⟩, if_pos (by omega)]
  exact Prod.ext (by dsimp only; omega) rfl
theorem dec4 (n b0 b1 b2 b3 : Nat) (h0 : 240 ≤ b0) (h : b0 < 245) (hn : 4 ≤ n) (h1 : 128 ≤ b1) (h1' : b1 ≤ 191) (h2 : 128 ≤ b2) (h2' : b2 ≤ 191) (h3 : 128 ≤ b3) (h3' : b3 ≤ 191)
    (hc : 65536 ≤ (((b0 - 240) * 64 + b1 - 128) * 64 + b2 - 128) * 64 + b3 - 128) (hs : (((b0 - 240) * 64 + b1 - 128) * 64 + b2 - 128) * 64 + b3 - 128 ≤ 1114111) : Lib.decodeN n b0 b1 b2 b3 = ((((b0 - 240) * 64 + b1 - 128) * 64 + b2 - 128) * 64 + b3 - 128, 4) := by
  unfold Lib.decodeN
  rw [if_neg (by omega), if_neg (by omega), if_neg (by omega), if_pos ⟨by omega, ⟨by omega, by omega⟩, ⟨by omega, by omega⟩, by omega, by omega⟩, if_pos (by omega)]
  exact Prod.ext (by dsimp only; omega) rfl

/-- The rune at a place, by its bytes. -/
theorem rune_bytes (s : ByteArray) (p : Nat) (hp : p < s.size) (h : ¬ bt s p < 128) : ∃ b : Nat → Nat, (∀ j, p + j < s.size → (b j : Int) = bt s ((p + j : Nat) : Int)) ∧
    runeOf s p = (((Lib.decodeN (s.size - p) (b 0) (b 1) (b 2) (b 3)).1 : Int), ((Lib.decodeN (s.size - p) (b 0) (b 1) (b 2) (b 3)).2 : Int)) := by
  have hsz : (s.extract p s.size).size = s.size - p := by rw [ByteArray.size_extract]; omega
  refine ⟨fun j => ((s.extract p s.size).get! j).toNat, fun j hj => ?_, ?_⟩
  · have hj' : j < (s.extract p s.size).size := by omega
    have a2 := ByteArray.getElem_extract (b := s) (start := p) (stop := s.size) (i := j) hj'
    show (((s.extract p s.size).get! j).toNat : Int) = _
    rw [get_eq _ _ hj', a2, bt_nat s (p + j) hj]
  · unfold runeOf
    rw [if_neg (by omega), if_neg h]
    unfold Lib.decodeGo
    rw [if_neg (by omega), Lib.decode_at, hsz]
    simp only [Nat.sub_zero, Nat.zero_add]

/-- The point at a place: the rune there, or none. -/
def Same (s : ByteArray) (p : Nat) (o : Option (Int × Int)) : Prop := ∃ c n : Int, o = some (c, n) ∧ (n = 0 ∨ (runeOf s p = (c, n) ∧ 1 ≤ n ∧ n ≤ 4 ∧ p + n ≤ s.size))
theorem same_zero (s : ByteArray) (p : Nat) : Same s p (some (0, 0)) := ⟨0, 0, rfl, .inl rfl⟩

theorem l0_more (s : ByteArray) (hs : s.size ≤ 2000) (p : Nat) (n x7 : Int) (hn : 0 ≤ n) (hn4 : n ≤ 4) (he : p + n ≤ s.size) (k : Nat) (x4 x8 : Int) (h8 : p < x8) (hlt : x8 < p + n) (h4 : 0 ≤ x4) (h4' : x4 ≤ 100000000)
    (h : 128 ≤ bt s x8 → bt s x8 ≤ 191 → Same s p (spec_Point.l0 k s p (x4 * 64 + bt s x8 - 128) n x7 (x8 + 1))) : Same s p (spec_Point.l0 (k + 1) s p x4 n x7 x8) := by
  have hw : wrap64 (p + n) = p + n := by unfold wrap64; omega
  have hw2 : wrap64 (x8 + 1) = x8 + 1 := by unfold wrap64; omega
  simp only [spec_Point.l0]
  rw [hw, if_pos hlt, if_pos (by omega), if_pos (by omega)]
  refine ite_of (fun _ => same_zero s p) fun h1 => ite_of (fun _ => same_zero s p) fun h2 => ?_
  have e : wrap64 ((wrap64 ((wrap64 (x4 * 64)) + (wrap64 (bt s x8)))) - 128) = x4 * 64 + bt s x8 - 128 := by unfold wrap64; omega
  rw [e, hw2]
  exact h (by omega) (by omega)

theorem l0_done (s : ByteArray) (hs : s.size ≤ 2000) (p : Nat) (n x7 : Int) (hn : 1 ≤ n) (hn4 : n ≤ 4) (he : p + n ≤ s.size) (k : Nat) (x4 : Int)
    (h : x7 ≤ x4 → x4 ≤ 1114111 → (x4 < 55296 ∨ 57344 ≤ x4) → runeOf s p = (x4, n)) : Same s p (spec_Point.l0 (k + 1) s p x4 n x7 (p + n)) := by
  have hw : wrap64 (p + n) = p + n := by unfold wrap64; omega
  simp only [spec_Point.l0]
  rw [hw, if_neg (by omega)]
  refine ite_of (fun _ => same_zero s p) fun h1 => ite_of (fun _ => same_zero s p) fun h2 => ite_of (fun h3 => ite_of (fun _ => same_zero s p) fun h4 => ?_) fun h3 => ?_
  · exact ⟨_, _, rfl, .inr ⟨h (by omega) (by omega) (by omega), hn, hn4, he⟩⟩
  · exact ⟨_, _, rfl, .inr ⟨h (by omega) (by omega) (by omega), hn, hn4, he⟩⟩

theorem j2_same (s : ByteArray) (hs : s.size ≤ 2000) (p : Nat) (n x4 x7 : Int) (hp : p < s.size) (k : Nat) (hn : 0 ≤ n) (hn4 : n ≤ 4) (h : 1 ≤ n → p + n ≤ s.size → Same s p (spec_Point.l0 k s p x4 n x7 (p + 1))) : Same s p (spec_Point.j2 (k + 2) s p x4 n x7) := by
  simp only [spec_Point.j2, spec_Point.j3]
  refine ite_of (fun _ => ?_) fun h0 => ?_
  · rw [if_pos trivial]; exact same_zero s p
  · have hw : wrap64 (p + n) = p + n := by unfold wrap64; omega
    have hw1 : wrap64 (p + 1 : Int) = p + 1 := by unfold wrap64; omega
    rw [hw]
    refine ite_of (fun _ => same_zero s p) fun hh => ?_
    have h' : ¬ p + n > s.size := by simpa using hh
    rw [hw1]
    exact h (by omega) (by omega)

theorem point_same (s : ByteArray) (hs : s.size ≤ 2000) (p : Nat) (hp : p < s.size) : Same s p (spec_Point.f 12 s p) := by
  have hr := bt_range s p
  have hw : wrap64 (bt s p) = bt s p := by unfold wrap64; omega
  unfold spec_Point.f
  rw [if_pos (by omega), if_pos (by omega), hw]
  refine ite_of (fun h => ⟨_, _, rfl, .inr ⟨runeOf_ascii s p hp h, by omega, by omega, by omega⟩⟩) fun h128 => ?_
  obtain ⟨b, hb, hrune⟩ := rune_bytes s p hp h128
  have hb0 := hb 0 (by omega)
  simp only [Nat.add_zero] at hb0
  have none_ : ∀ k, Same s p (spec_Point.j2 (k + 2) s p 0 0 0) := fun k => j2_same s hs p 0 0 0 hp k (by omega) (by omega) (fun h => by omega)
  have h4 : 240 ≤ bt s p → bt s p < 245 → ∀ k, Same s p (spec_Point.j2 (k + 6) s p (wrap64 (bt s p - 240)) 4 65536) := by
    intro h0 h1 k
    have w1 : wrap64 (bt s p - 240) = bt s p - 240 := by unfold wrap64; omega
    rw [w1]
    refine j2_same s hs p 4 _ _ hp (k + 4) (by omega) (by omega) fun _ he => ?_
    refine l0_more s hs p 4 _ (by omega) (by omega) he _ _ _ (by omega) (by omega) (by omega) (by omega) fun a1 a2 => ?_
    have e1 := hb 1 (by omega)
    have e2 := hb 2 (by omega)
    have e3 := hb 3 (by omega)
    push_cast at e1 e2 e3
    refine l0_more s hs p 4 _ (by omega) (by omega) he _ _ _ (by omega) (by omega) (by omega) (by omega) fun a3 a4 => ?_
    refine l0_more s hs p 4 _ (by omega) (by omega) he _ _ _ (by omega) (by omega) (by omega) (by omega) fun a5 a6 => ?_
    have x3 : (p : Int) + 1 + 1 + 1 + 1 = p + 4 := by omega
    rw [x3]
    refine l0_done s hs p 4 _ (by omega) (by omega) he _ _ fun c1 c2 c3 => ?_
    rw [hrune, dec4 _ _ _ _ _ (by omega) (by omega) (by omega) (by omega) (by omega) (by omega) (by omega) (by omega) (by omega) (by omega) (by omega)]
    exact Prod.ext (by show (((((b 0 - 240) * 64 + b 1 - 128) * 64 + b 2 - 128) * 64 + b 3 - 128 : Nat) : Int) = _; omega) rfl
  have h3 : 224 ≤ bt s p → bt s p < 240 → ∀ k, Same s p (spec_Point.j2 (k + 5) s p (wrap64 (bt s p - 224)) 3 2048) := by
    intro h0 h1 k
    have w1 : wrap64 (bt s p - 224) = bt s p - 224 := by unfold wrap64; omega
    rw [w1]
    refine j2_same s hs p 3 _ _ hp (k + 3) (by omega) (by omega) fun _ he => ?_
    refine l0_more s hs p 3 _ (by omega) (by omega) he _ _ _ (by omega) (by omega) (by omega) (by omega) fun a1 a2 => ?_
    have e1 := hb 1 (by omega)
    have e2 := hb 2 (by omega)
    push_cast at e1 e2
    have x2 : (p : Int) + 1 + 1 + 1 = p + 3 := by omega
    refine l0_more s hs p 3 _ (by omega) (by omega) he _ _ _ (by omega) (by omega) (by omega) (by omega) fun a3 a4 => ?_
    rw [x2]
    refine l0_done s hs p 3 _ (by omega) (by omega) he _ _ fun c1 c2 c3 => ?_
    rw [hrune, dec3 _ _ _ _ _ (by omega) (by omega) (by omega) (by omega) (by omega) (by omega) (by omega) (by omega) (by omega)]
    exact Prod.ext (by show ((((b 0 - 224) * 64 + b 1 - 128) * 64 + b 2 - 128 : Nat) : Int) = _; omega) rfl
  have h2 : 194 ≤ bt s p → bt s p < 224 → ∀ k, Same s p (spec_Point.j2 (k + 4) s p (wrap64 (bt s p - 192)) 2 128) := by
    intro h0 h1 k
    have w1 : wrap64 (bt s p - 192) = bt s p - 192 := by unfold wrap64; omega
    rw [w1]
    refine j2_same s hs p 2 _ _ hp (k + 2) (by omega) (by omega) fun _ he => ?_
    refine l0_more s hs p 2 _ (by omega) (by omega) he _ _ _ (by omega) (by omega) (by omega) (by omega) fun a1 a2 => ?_
    have e1 := hb 1 (by omega)
    push_cast at e1
    have x1 : (p : Int) + 1 + 1 = p + 2 := by omega
    rw [x1]
    refine l0_done s hs p 2 _ (by omega) (by omega) he _ _ fun c1 c2 c3 => ?_
    rw [hrune, dec2 _ _ _ _ _ (by omega) (by omega) (by omega) (by omega) (by omega)]
    exact Prod.ext (by show (((b 0 - 192) * 64 + b 1 - 128 : Nat) : Int) = _; omega) rfl
  have k1 : ∀ q : Bool, (q = true → 224 ≤ bt s p ∧ bt s p < 240) → Same s p (spec_Point.j1 11 s p 0 0 (bt s p) 0 q) := by
    intro q hq
    simp only [spec_Point.j1]
    exact ite_of (fun e => h3 (hq e).1 (hq e).2 5) fun _ => ite_of (fun a => ite_of (fun c => h4 (by omega) c 4) fun _ => none_ 8) fun _ => none_ 8
  have k0 : ∀ q : Bool, (q = true → 194 ≤ bt s p ∧ bt s p < 224) → Same s p (spec_Point.j0 12 s p 0 0 (bt s p) 0 q) := by
    intro q hq
    simp only [spec_Point.j0]
    exact ite_of (fun e => h2 (hq e).1 (hq e).2 7) fun _ => ite_of (fun a => k1 _ (fun e => ⟨by omega, of_decide_eq_true e⟩)) fun _ => k1 _ (fun e => by cases e)
  exact ite_of (fun a => k0 _ (fun e => ⟨by omega, of_decide_eq_true e⟩)) fun _ => k0 _ (fun e => by cases e)
end Go.Proofs.YtklgaldpcaogbaaGreatDoor.NameP
