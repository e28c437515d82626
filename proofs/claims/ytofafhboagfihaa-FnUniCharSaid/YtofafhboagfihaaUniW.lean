import Derived.Test.YtofafhboagfihaaPFnUniCharx1
import Derived.Test.YtofafhboagfihaaUniPlain
namespace Go.Proofs.Ytofafhboagfihaa.Uni
open Go.RowKit Go.Proofs.Ytofafhboagfihaa.PFnUniChar Go.Proofs.YtofafhboagfihaaW.PrintWords

theorem ret_int {k : IntKind} {a b : Int} (h : a = b) : Ending.returned (.int k a) = .returned (.int k b) := by rw [h]

set_option maxHeartbeats 400000 in
theorem hexa (c : Int) (w : World) (h0 : 0 ≤ c) (h1 : c ≤ 255) :
    Calls Try.prog 17 #[.int .u8 c] w fun e w' => e = .returned (.int .i64 (hx c)) ∧ w = w' := by
  have hc : c < 48 ∨ (48 ≤ c ∧ c ≤ 57) ∨ (57 < c ∧ c < 65) ∨ (65 ≤ c ∧ c ≤ 70) ∨ (70 < c ∧ c < 97) ∨ (97 ≤ c ∧ c ≤ 102) ∨ 102 < c := by omega
  rcases hc with a1 | ⟨a1, a2⟩ | ⟨a1, a2⟩ | ⟨a1, a2⟩ | ⟨a1, a2⟩ | ⟨a1, a2⟩ | a1
  · have E := Aside0.mk (show hx c = -1 by unfold hx; rw [if_neg (by omega), if_neg (by omega), if_neg (by omega)])
    go_enter Try.func17, Try.ntmps17
    go_wp2
    go_ret
    exact ⟨ret_int (by rw [E.out]), rfl⟩
  · have E := Aside0.mk (show hx c = c - 48 by unfold hx; rw [if_pos (by omega)])
    go_enter Try.func17, Try.ntmps17
    go_wp2
    go_ret
    exact ⟨ret_int (by rw [E.out]), rfl⟩
  · have E := Aside0.mk (show hx c = -1 by unfold hx; rw [if_neg (by omega), if_neg (by omega), if_neg (by omega)])
    go_enter Try.func17, Try.ntmps17
    go_wp2
    go_ret
    exact ⟨ret_int (by rw [E.out]), rfl⟩
  · have E := Aside0.mk (show hx c = c - 55 by unfold hx; rw [if_neg (by omega), if_neg (by omega), if_pos (by omega)])
    go_enter Try.func17, Try.ntmps17
    go_wp2
    go_ret
    exact ⟨ret_int (by rw [E.out]; omega), rfl⟩
  · have E := Aside0.mk (show hx c = -1 by unfold hx; rw [if_neg (by omega), if_neg (by omega), if_neg (by omega)])
    go_enter Try.func17, Try.ntmps17
    go_wp2
    go_ret
    exact ⟨ret_int (by rw [E.out]), rfl⟩
  · have E := Aside0.mk (show hx c = c - 87 by unfold hx; rw [if_neg (by omega), if_pos (by omega)])
    go_enter Try.func17, Try.ntmps17
    go_wp2
    go_ret
    exact ⟨ret_int (by rw [E.out]; omega), rfl⟩
  · have E := Aside0.mk (show hx c = -1 by unfold hx; rw [if_neg (by omega), if_neg (by omega), if_neg (by omega)])
    go_enter Try.func17, Try.ntmps17
    go_wp2
    go_ret
    exact ⟨ret_int (by rw [E.out]), rfl⟩

def sel (a b c d : Int) (k : Nat) : Int := match k with
  | 0 => a
  | 1 => b
  | 2 => c
  | _ => d
def acc (a b c d : Int) : Nat → Int
  | 0 => 0
  | k + 1 => 16 * acc a b c d k + hx (sel a b c d k)
def goodTo (a b c d : Int) (k : Nat) : Prop := ∀ j, j < k → 0 ≤ hx (sel a b c d j)

theorem acc_range {a b c d : Int} : ∀ k, k ≤ 4 → goodTo a b c d k → 0 ≤ acc a b c d k ∧ acc a b c d k < 16 ^ k
  | 0, _, _ => by simp [acc]
  | k + 1, hk, hg => by
    have ih := acc_range k (by omega) (fun j hj => hg j (by omega))
    have h1 := hg k (by omega)
    have h2 := hx_range (sel a b c d k)
    have e : (16 : Int) ^ (k + 1) = 16 ^ k * 16 := Int.pow_succ ..
    unfold acc
    rw [e]
    omega

set_option maxHeartbeats 400000 in
theorem specUni (a b c d : Int) (w : World) (ha : 0 ≤ a ∧ a ≤ 255) (hb : 0 ≤ b ∧ b ≤ 255) (hc : 0 ≤ c ∧ c ≤ 255) (hd : 0 ≤ d ∧ d ≤ 255) :
    Calls Try.prog 8 #[.agg #[.int .u8 a, .int .u8 b, .int .u8 c, .int .u8 d]] w fun e w' => e = .returned (.int .i64 (four a b c d)) ∧ Below w.heap.size w w' := by
  have hsel : ∀ k, 0 ≤ sel a b c d k ∧ sel a b c d k ≤ 255 := by
    intro k; unfold sel; split <;> assumption
  have HS := Aside0.mk hsel
  have hcell : ∀ k, k < 4 → (w.alloc (.cells #[.int .u8 a, .int .u8 b, .int .u8 c, .int .u8 d] 26)).cell? ⟨w.heap.size, k, none⟩ = some (.int .u8 (sel a b c d k)) := by
    intro k hk
    match k, hk with
    | 0, _ => simp [sel, World.cell?_alloc_at]
    | 1, _ => simp [sel, World.cell?_alloc_at]
    | 2, _ => simp [sel, World.cell?_alloc_at]
    | 3, _ => simp [sel, World.cell?_alloc_at]
  have HC := Aside0.mk hcell
  clear hsel hcell
  go_enter Try.func8, Try.ntmps8
  go_wp2
  go_loop [3, 4] (fun n i => ∃ k : Nat, k ≤ 4 ∧ i = .int .i64 k ∧ n = .int .i64 (acc a b c d k) ∧ goodTo a b c d k) (fun _ i => 4 - (intOf i).toNat)
  case atStart => exact ⟨0, by omega, rfl, rfl, fun j hj => absurd hj (by omega)⟩
  case round =>
    obtain ⟨k, hk, rfl, rfl, hg⟩ := hrel
    have hr := acc_range k hk hg
    have HG := Aside0.mk hg
    clear hg
    have hb4 : acc a b c d k < 1000000 := by
      have : (16 : Int) ^ k ≤ 65536 := by
        match k, hk with
        | 0, _ => decide
        | 1, _ => decide
        | 2, _ => decide
        | 3, _ => decide
        | 4, _ => decide
      omega
    have hr0 := hr.1
    clear hr
    by_cases hlt : k < 4
    · have hcc := HC.out k hlt
      have hs := HS.out k
      have hxr := hx_range (sel a b c d k)
      by_cases hneg : hx (sel a b c d k) < 0
      · have F := Aside0.mk (show four a b c d = -1 by
          unfold four
          rw [if_pos]
          match k, hlt, hneg with
          | 0, _, h => exact .inl h
          | 1, _, h => exact .inr (.inl h)
          | 2, _, h => exact .inr (.inr (.inl h))
          | 3, _, h => exact .inr (.inr (.inr h)))
        go_wp2_with (go_at_call 17; refine (hexa _ _ (by omega) (by omega)).mono ?_; rintro e w' ⟨rfl, rfl⟩)
        go_ret
        exact ⟨ret_int (by rw [F.out]), (Below.refl _ _).alloc (Nat.le_refl _) _⟩
      · go_wp2_with (go_at_call 17; refine (hexa _ _ (by omega) (by omega)).mono ?_; rintro e w' ⟨rfl, rfl⟩)
        go_round
        case rel => exact ⟨k + 1, by omega, by go_num, by rfl, fun j hj => by
          rcases Nat.lt_or_ge j k with h | h
          · exact HG.out j h
          · obtain rfl : j = k := by omega
            omega⟩
        case measure => simp [intOf]; omega
    · obtain rfl : k = 4 := by omega
      have F := Aside0.mk (show acc a b c d 4 = four a b c d by
        have g0 := HG.out 0 (by omega)
        have g1 := HG.out 1 (by omega)
        have g2 := HG.out 2 (by omega)
        have g3 := HG.out 3 (by omega)
        simp only [sel] at g0 g1 g2 g3
        unfold four
        rw [if_neg (by omega)]
        simp only [acc, sel]
        omega)
      go_wp2
      go_ret
      exact ⟨ret_int (by rw [F.out]), (Below.refl _ _).alloc (Nat.le_refl _) _⟩

theorem c2h_all : ∀ n : Fin 256, lexer_char2hex.f 3 (wrap32 (n.val : Int)) = some (hx (n.val : Int)) := by decide +kernel
theorem c2h (c : Int) (h0 : 0 ≤ c) (h1 : c ≤ 255) : lexer_char2hex.f 3 (wrap32 c) = some (hx c) := by
  have h := c2h_all ⟨c.toNat, by omega⟩
  simp only [Int.toNat_of_nonneg h0] at h
  exact h

theorem uni_is (a b c d : Int) (ha : 0 ≤ a ∧ a ≤ 255) (hb : 0 ≤ b ∧ b ≤ 255) (hc : 0 ≤ c ∧ c ≤ 255) (hd : 0 ≤ d ∧ d ≤ 255) :
    impl_UniChar.f 3 a b c d = some (wrap64 (ored (hx a) (hx b) (hx c) (hx d))) := by
  unfold impl_UniChar.f lexer_UniChar.f lexer_uniCharCode.f
  rw [c2h a ha.1 ha.2, c2h b hb.1 hb.2, c2h c hc.1 hc.2, c2h d hd.1 hd.2]
  rfl

/-- What the law asks of the two numbers. -/
theorem agree (a b c d : Int) : wrap64 (ored (hx a) (hx b) (hx c) (hx d)) = four a b c d ∨ (four a b c d < 0 ∧ wrap64 (ored (hx a) (hx b) (hx c) (hx d)) < 0) := by
  have h := ored_is (hx a) (hx b) (hx c) (hx d) (hx_range a) (hx_range b) (hx_range c) (hx_range d)
  have ra := hx_range a
  have rb := hx_range b
  have rc := hx_range c
  have rd := hx_range d
  unfold four
  split at h
  · rename_i hn
    rw [if_pos hn]
    refine .inr ⟨by omega, ?_⟩
    unfold wrap64; omega
  · rename_i hn
    rw [if_neg hn]
    refine .inl ?_
    rw [h]; unfold wrap64; omega

theorem four_range (a b c d : Int) : -1 ≤ four a b c d ∧ four a b c d ≤ 65535 := by
  have ra := hx_range a
  have rb := hx_range b
  have rc := hx_range c
  have rd := hx_range d
  unfold four
  split <;> omega

set_option maxHeartbeats 400000 in
theorem law (a b c d : Int) (w : World) (ha : 0 ≤ a ∧ a ≤ 255) (hb : 0 ≤ b ∧ b ≤ 255) (hc : 0 ≤ c ∧ c ≤ 255) (hd : 0 ≤ d ∧ d ≤ 255) :
    Calls Try.prog 4 #[.int .u8 a, .int .u8 b, .int .u8 c, .int .u8 d] w fun e w' => e = .returned (.bool true) ∧ Below w.heap.size w w' := by
  have hs := fun w => specUni a b c d w ha hb hc hd
  have hi := fun w => impl_UniChar.calls 3 a b c d _ w (uni_is a b c d ha hb hc hd)
  have hag := agree a b c d
  generalize four a b c d = x at *
  generalize wrap64 (ored (hx a) (hx b) (hx c) (hx d)) = y at *
  have HS := Aside0.mk hs
  have HI := Aside0.mk hi
  clear hs hi
  by_cases hxy : y = x
  · have t1 : (y == x) = true := by simpa using hxy
    clear hag hxy
    go_enter Try.func4, Try.ntmps4
    go_wp2_with (first | (go_at_call 8; refine (HS.out _).mono ?_; rintro e w' ⟨rfl, hB⟩) | (go_at_call 9; refine (HI.out _).mono ?_; rintro e w' ⟨rfl, ⟨nd, rfl⟩⟩))
    go_ret
    exact ⟨rfl, by first | exact hB | exact pw_below_drewN hB _⟩
  · obtain ⟨hx0, hy0⟩ : x < 0 ∧ y < 0 := by
      rcases hag with h | h
      · exact absurd h hxy
      · exact h
    have t1 : (y == x) = false := by simpa using hxy
    have t2 : decide (x < 0) = true := decide_eq_true hx0
    have t3 : decide (y < 0) = true := decide_eq_true hy0
    clear hag hxy
    go_enter Try.func4, Try.ntmps4
    go_wp2_with (first | (go_at_call 8; refine (HS.out _).mono ?_; rintro e w' ⟨rfl, hB⟩) | (go_at_call 9; refine (HI.out _).mono ?_; rintro e w' ⟨rfl, ⟨nd, rfl⟩⟩))
    go_ret
    exact ⟨rfl, by first | exact hB | exact pw_below_drewN hB _⟩
end Go.Proofs.Ytofafhboagfihaa.Uni
