import Derived.Test.YthbinlnpipgobaaGreatDoorU01
import Derived.Lib.SlBytesRow
import Derived.Lib.ConvBytes
import Derived.Test.YthbinlnpipgobaaGreatDoorPFnPieceRefusedx1
import Derived.Deep.CutRange
import Derived.Deep.CutBlock
namespace Go.Proofs.YthbinlnpipgobaaGreatDoor.Lx
set_option linter.unusedVariables false
set_option linter.unusedSimpArgs false
open Go.RowKit Go.Proofs.YthbinlnpipgobaaGreatDoorW.PrintWords Go.Proofs.YthbinlnpipgobaaGreatDoor.Keep Go.Proofs.YthbinlnpipgobaaGreatDoor.Mod Go.Proofs.YthbinlnpipgobaaGreatDoor.Sim Go.Proofs.YthbinlnpipgobaaGreatDoor.Four Go.Proofs.YthbinlnpipgobaaGreatDoor.Step Go.Proofs.YthbinlnpipgobaaGreatDoor.Env

theorem bt_byte (s : ByteArray) (p : Nat) : 0 ≤ bt s p ∧ bt s p ≤ 255 := bt_range s p

set_option maxHeartbeats 1000000 in
theorem rune_plain (bb p cap : Nat) (s : ByteArray) (w : World) (hb : BodyAt w bb s) (hcap : s.size ≤ cap) (hpl : Plain s) (hp : p ≤ 281474976710656) :
    Calls Tryz.prog 69 #[.slice (some ⟨bb, 0, none⟩) s.size cap, .int .i64 p] w fun e w' =>
      e = .returned (.tuple #[.int .i32 (runeP s p).1, .int .i64 (runeP s p).2]) ∧ w = w' := by
  by_cases h1 : s.size ≤ p
  · have e : runeP s p = (-1, 65533) := by unfold runeP; rw [if_pos h1]
    rw [e]
    have h1i : (s.size : Int) ≤ (p : Int) := by omega
    go_enter Tryz.func69, Tryz.ntmps69
    go_wp2
    go_ret2
    exact ⟨rfl, rfl⟩
  · have hcell := hb p (by omega)
    have h2 := (hpl p (by omega)).1
    clear hb
    have hb0 := bt_range s p
    have h1i : (p : Int) < (s.size : Int) := by omega
    have e : runeP s p = (bt s p, 1) := by unfold runeP; rw [if_neg h1]
    rw [e]
    generalize bt s p = c at *
    go_enter Tryz.func69, Tryz.ntmps69
    go_wp2
    go_ret2
    exact ⟨rfl, rfl⟩

set_option maxHeartbeats 1000000 in
theorem makeToken_any (k a b : Int) (v : ByteArray) (w : World) :
    Calls Tryz.prog 68 #[.int .i64 k, .int .i64 a, .int .i64 b, .string v] w fun e w' => e = .returned (.agg #[.int .i64 k, .int .i64 a, .int .i64 b, .string v]) ∧ Below w.heap.size w w' := by
  go_enter Tryz.func68, Tryz.ntmps68
  go_wp2
  refine bodyPost_ret (v := .agg #[.int .i64 k, .int .i64 a, .int .i64 b, .string v]) (by simp [results, Tryz.results68, go_sem]) rfl ⟨rfl, ?_⟩
  exact below_alloc (Below.refl _ _) _

theorem isWs_iff {c : Int} (h : isWs c = true) : c = 9 ∨ c = 32 ∨ c = 10 ∨ c = 13 ∨ c = 44 := by
  unfold isWs at h
  simp only [Bool.or_eq_true, beq_iff_eq] at h
  omega
theorem isWs_no {c : Int} (h : isWs c = false) : (c == 9) = false ∧ (c == 32) = false ∧ (c == 10) = false ∧ (c == 13) = false ∧ (c == 44) = false := by
  unfold isWs at h
  simp only [Bool.or_eq_false_iff] at h
  exact ⟨h.1.1.1.1, h.1.1.1.2, h.1.1.2, h.1.2, h.2⟩
set_option maxRecDepth 100000 in
set_option maxHeartbeats 4000000 in
theorem ws_any (bb p cap : Nat) (s : ByteArray) (w : World) (hb : BodyAt w bb s) (hcap : s.size ≤ cap) (hpl : Plain s) (hp : p ≤ s.size) (hs : s.size ≤ 100000) :
    Calls Tryz.prog 67 #[.slice (some ⟨bb, 0, none⟩) s.size cap, .int .i64 p] w fun e w' =>
      e = .returned (.tuple #[.int .i64 (scan isWs s s.size p : Nat), .int .i64 (scan isWs s s.size p : Nat)]) ∧ w = w' := by
  obtain ⟨q0, q1, q2, q3⟩ := scan_all isWs rfl s p hp
  generalize scan isWs s s.size p = q at *
  have Q2 := Aside0.mk q2
  have Q3 := Aside0.mk q3
  have HR := Aside0.mk (fun k => rune_plain bb k cap s w hb hcap hpl)
  have HP := Aside0.mk hpl
  clear q2 q3 hb hpl
  go_enter Tryz.func67, Tryz.ntmps67
  go_wp2_with fail
  go_loopw [4, 5] (fun i j wr => ∃ k : Nat, p ≤ k ∧ k ≤ q ∧ i = .int .i64 k ∧ j = .int .i64 k ∧ wr = w) (fun i _ _ => q - (intOf i).toNat)
  case atStart => exact ⟨p, Nat.le_refl _, q0, rfl, rfl, rfl⟩
  case round =>
    obtain ⟨k, hk1, hk2, rfl, rfl, rfl⟩ := hrel
    by_cases hlt : k < s.size
    · have hlti : (k : Int) < (s.size : Int) := by omega
      have hR := HR.out k (by omega)
      have e : runeP s k = (bt s k, 1) := by unfold runeP; rw [if_neg (by omega)]
      rw [e] at hR
      have HRk := Aside0.mk hR
      clear hR e
      have hpk := HP.out k hlt
      by_cases hkq : k < q
      · have hc := isWs_iff (Q2.out k hk1 hkq)
        generalize bt s k = c at *
        rcases hc with rfl | rfl | rfl | rfl | rfl
        all_goals
          go_wp2_with fail
          refine HRk.out.mono ?_
          rintro e w' ⟨rfl, rfl⟩
          go_wp2_with fail
          go_roundw
          case rel => exact ⟨k + 1, by omega, by omega, by go_num, by go_num, by first | rfl | trivial⟩
          case measure => simp [intOf]; omega
      · obtain rfl : k = q := by omega
        obtain ⟨n1, n2, n3, n4, n5⟩ := isWs_no Q3.out
        have n6 : (bt s k == 35) = false := beq_eq_false_iff_ne.2 hpk.2.2
        have n7 : (bt s k == 65279) = false := beq_eq_false_iff_ne.2 (by omega)
        generalize bt s k = c at *
        go_wp2_with fail
        refine HRk.out.mono ?_
        rintro e w' ⟨rfl, rfl⟩
        go_wp2_with fail
        go_ret2
        exact ⟨rfl, rfl⟩
    · have hlti : (s.size : Int) ≤ (k : Int) := by omega
      obtain rfl : k = q := by omega
      go_wp2_with fail
      go_ret2
      exact ⟨rfl, rfl⟩
end Go.Proofs.YthbinlnpipgobaaGreatDoor.Lx
namespace Go.Proofs.YthbinlnpipgobaaGreatDoor.Lx
set_option linter.unusedVariables false
set_option linter.unusedSimpArgs false
open Go.RowKit Go.Proofs.YthbinlnpipgobaaGreatDoorW.PrintWords Go.Proofs.YthbinlnpipgobaaGreatDoor.Keep Go.Proofs.YthbinlnpipgobaaGreatDoor.Mod Go.Proofs.YthbinlnpipgobaaGreatDoor.Sim Go.Proofs.YthbinlnpipgobaaGreatDoor.Four Go.Proofs.YthbinlnpipgobaaGreatDoor.Step Go.Proofs.YthbinlnpipgobaaGreatDoor.Env

theorem four_kept1 {w w1 : World} {t : TypeId} {x0 x1 x2 x3 : Value} (hb : Below (w.alloc (.cells #[x0, x1, x2, x3] t)).heap.size (w.alloc (.cells #[x0, x1, x2, x3] t)) w1) :
    w1.cell? ⟨w.heap.size, 0, none⟩ = some x0 ∧ w1.cell? ⟨w.heap.size, 1, none⟩ = some x1 ∧ w1.cell? ⟨w.heap.size, 2, none⟩ = some x2 ∧ w1.cell? ⟨w.heap.size, 3, none⟩ = some x3 := by
  have h := Blk.below (Blk.new w t #[x0, x1, x2, x3]) hb (by simp)
  exact ⟨(h.cell 0).trans rfl, (h.cell 1).trans rfl, (h.cell 2).trans rfl, (h.cell 3).trans rfl⟩
theorem frozen_kept1 {w w1 : World} {t : TypeId} {x0 x1 x2 x3 : Value} (hb : Below (w.alloc (.cells #[x0, x1, x2, x3] t)).heap.size (w.alloc (.cells #[x0, x1, x2, x3] t)) w1) (j : Nat) :
    w1.frozen? ⟨w.heap.size, j, none⟩ = false :=
  (Blk.below (Blk.new w t #[x0, x1, x2, x3]) hb (by simp)).frozen j
theorem below_four {w w1 : World} {x0 x1 x2 x3 : Value} (h : Below w.heap.size w w1) : Below w.heap.size w ((((w1.setCell ⟨w.heap.size, 0, none⟩ x0).setCell ⟨w.heap.size, 1, none⟩ x1).setCell ⟨w.heap.size, 2, none⟩ x2).setCell ⟨w.heap.size, 3, none⟩ x3) :=
  (((h.setCell (p := ⟨w.heap.size, 0, none⟩) (Nat.le_refl _) _).setCell (p := ⟨w.heap.size, 1, none⟩) (Nat.le_refl _) _).setCell (p := ⟨w.heap.size, 2, none⟩) (Nat.le_refl _) _).setCell (p := ⟨w.heap.size, 3, none⟩) (Nat.le_refl _) _
theorem four_kept2 {w w1 : World} {t : TypeId} {x0 x1 x2 x3 : Value} (hb : Below (w.heap.size + 1) (w.alloc (.cells #[x0, x1, x2, x3] t)) w1) :
    w1.cell? ⟨w.heap.size, 0, none⟩ = some x0 ∧ w1.cell? ⟨w.heap.size, 1, none⟩ = some x1 ∧ w1.cell? ⟨w.heap.size, 2, none⟩ = some x2 ∧ w1.cell? ⟨w.heap.size, 3, none⟩ = some x3 := four_kept1 (by simpa using hb)
theorem frozen_kept2 {w w1 : World} {t : TypeId} {x0 x1 x2 x3 : Value} (hb : Below (w.heap.size + 1) (w.alloc (.cells #[x0, x1, x2, x3] t)) w1) (j : Nat) :
    w1.frozen? ⟨w.heap.size, j, none⟩ = false := frozen_kept1 (by simpa using hb) j
theorem body_bytes {w : World} {bb : Nat} {s : ByteArray} (h : BodyAt w bb s) : Lib.Bytes w bb 0 s := fun i hi => by
  rw [Nat.zero_add, h i hi, ← bt_nat s i hi]
theorem conv_part {w : World} {bb : Nat} {s : ByteArray} (h : BodyAt w bb s) (p q cap : Nat) (hpq : p ≤ q) (hq : q ≤ s.size) :
    (convert 46 9 (.slice (some ⟨bb, p, none⟩) (q - p) (cap - p))).run Tryz.prog w = .ok (.string (s.extract p q)) w := by
  have h2 := Lib.run_convert_window (P := Tryz.prog) w 46 5 9 Tryz.underlying46 Tryz.underlying5 Tryz.underlying9 bb 0 s (body_bytes h) p (q - p) (cap - p) (by omega)
  rw [Nat.zero_add, show p + (q - p) = q by omega] at h2
  exact h2
theorem isNam_cases {c : Int} (h : isNam c = true) : c = 95 ∨ (48 ≤ c ∧ c ≤ 57) ∨ (65 ≤ c ∧ c ≤ 90) ∨ (97 ≤ c ∧ c ≤ 122) := by
  unfold isNam isLet isDig at h
  simp only [Bool.or_eq_true, Bool.and_eq_true, decide_eq_true_eq, beq_iff_eq] at h
  omega
theorem isNam_no {c : Int} (h : isNam c = false) : (c == 95) = false ∧ ¬ (48 ≤ c ∧ c ≤ 57) ∧ ¬ (65 ≤ c ∧ c ≤ 90) ∧ ¬ (97 ≤ c ∧ c ≤ 122) := by
  unfold isNam isLet isDig at h
  simp only [Bool.or_eq_false_iff, Bool.and_eq_false_iff, decide_eq_false_iff_not] at h
  refine ⟨h.1.1.1, by omega, by omega, by omega⟩

set_option maxRecDepth 100000 in
set_option maxHeartbeats 4000000 in
theorem readName_any (sb bb p cap : Nat) (s : ByteArray) (w : World) (hb : BodyAt w bb s) (hcap : s.size ≤ cap) (hpl : Plain s) (hp : p < s.size) (hs : s.size ≤ 100000) (h0 : w.cell? ⟨sb, 0, none⟩ = some (.slice (some ⟨bb, 0, none⟩) s.size cap)) :
    Calls Tryz.prog 70 #[.pointer (some ⟨sb, 0, none⟩), .int .i64 p, .int .i64 p] w fun e w' =>
      e = .returned (.agg #[.int .i64 15, .int .i64 p, .int .i64 (scan isNam s s.size (p + 1) : Nat), .string (s.extract p (scan isNam s s.size (p + 1)))]) ∧ Below w.heap.size w w' := by
  obtain ⟨q0, q1, q2, q3⟩ := scan_all isNam rfl s (p + 1) hp
  generalize scan isNam s s.size (p + 1) = q at *
  have hsb : sb < w.heap.size := World.block_lt_of_cell? w _ h0
  have Q2 := Aside0.mk q2
  have Q3 := Aside0.mk q3
  have HB := Aside0.mk (hb.below (below_alloc (Below.refl _ _) (.cells #[.int .i64 0, .int .i64 0, .int .i64 0, .string ⟨#[]⟩] 68)))
  have HR := Aside0.mk (fun k => rune_plain bb k cap s _ HB.out hcap hpl)
  have HP := Aside0.mk hpl
  clear q2 q3 hb hpl
  go_enter Tryz.func70, Tryz.ntmps70
  go_wp2_with fail
  go_loopw [9, 10] (fun i j wr => ∃ k : Nat, p < k ∧ k ≤ q ∧ i = .int .i64 k ∧ j = .int .i64 k ∧ wr = w.alloc (.cells #[.int .i64 0, .int .i64 0, .int .i64 0, .string ⟨#[]⟩] 68)) (fun i _ _ => q - (intOf i).toNat)
  case atStart => exact ⟨p + 1, by omega, by omega, by go_num, by go_num, rfl⟩
  case round =>
    obtain ⟨k, hk1, hk2, rfl, rfl, rfl⟩ := hrel
    have hR := HR.out k (by omega)
    by_cases hlt : k < q
    · have hcs := isNam_cases (Q2.out k hk1 hlt)
      have e : runeP s k = (bt s k, 1) := by unfold runeP; rw [if_neg (by omega)]
      rw [e] at hR
      have HRk := Aside0.mk hR
      clear hR e
      have hkn : ((k : Int) != (s.size : Int)) = true := by rw [bne_iff_ne]; omega
      have hkn2 : (k != s.size) = true := by rw [bne_iff_ne]; omega
      generalize bt s k = c at *
      rcases hcs with rfl | ⟨c1, c2⟩ | ⟨c1, c2⟩ | ⟨c1, c2⟩
      all_goals
        try have f95 : (c == 95) = false := beq_eq_false_iff_ne.2 (by omega)
        go_wp2_with fail
        refine HRk.out.mono ?_
        rintro e w' ⟨rfl, rfl⟩
        go_wp2_with fail
        go_roundw
        case rel => exact ⟨k + 1, by omega, by omega, by go_num, by go_num, by first | rfl | trivial⟩
        case measure => simp [intOf]; omega
    · obtain rfl : k = q := by omega
      have hcv := conv_part HB.out p k cap (by omega) q1
      by_cases hend : k = s.size
      · have hkn : ((k : Int) != (s.size : Int)) = false := by rw [bne_eq_false_iff_eq]; omega
        have hkn2 : (k != s.size) = false := by rw [bne_eq_false_iff_eq]; omega
        have HRk := Aside0.mk hR
        clear hR hend
        go_wp2_with fail
        refine HRk.out.mono ?_
        rintro e w' ⟨rfl, rfl⟩
        go_wp2_with fail
        refine (makeToken_any _ _ _ _ _).mono ?_
        rintro e w2 ⟨rfl, hb2⟩
        obtain ⟨r0, r1, r2, r3⟩ := four_kept1 hb2
        have hz0 := frozen_kept1 hb2 0
        have hz1 := frozen_kept1 hb2 1
        have hz2 := frozen_kept1 hb2 2
        have hz3 := frozen_kept1 hb2 3
        have HB2 := Aside0.mk (below_one hb2)
        clear hb2
        go_wp2_with fail
        refine bodyPost_ret (v := .agg #[.int .i64 15, .int .i64 p, .int .i64 k, .string (s.extract p k)]) (by simp [results, Tryz.results70, go_sem, r0, r1, r2, r3]) rfl ⟨rfl, ?_⟩
        exact below_four HB2.out
      · have hkn : ((k : Int) != (s.size : Int)) = true := by rw [bne_iff_ne]; omega
        have hkn2 : (k != s.size) = true := by rw [bne_iff_ne]; omega
        have e : runeP s k = (bt s k, 1) := by unfold runeP; rw [if_neg (by omega)]
        rw [e] at hR
        have HRk := Aside0.mk hR
        clear hR e hend
        obtain ⟨n1, n2, n3, n4⟩ := isNam_no Q3.out
        generalize bt s k = c at *
        have hway : c < 48 ∨ (57 < c ∧ c < 65) ∨ (90 < c ∧ c < 97) ∨ 122 < c := by omega
        clear n2 n3 n4
        rcases hway with g | ⟨g1, g2⟩ | ⟨g1, g2⟩ | g
        all_goals
          go_wp2_with fail
          refine HRk.out.mono ?_
          rintro e w' ⟨rfl, rfl⟩
          go_wp2_with fail
          refine (makeToken_any _ _ _ _ _).mono ?_
          rintro e w2 ⟨rfl, hb2⟩
          obtain ⟨r0, r1, r2, r3⟩ := four_kept1 hb2
          have hz0 := frozen_kept1 hb2 0
          have hz1 := frozen_kept1 hb2 1
          have hz2 := frozen_kept1 hb2 2
          have hz3 := frozen_kept1 hb2 3
          have HB2 := Aside0.mk (below_one hb2)
          clear hb2
          go_wp2_with fail
          refine bodyPost_ret (v := .agg #[.int .i64 15, .int .i64 p, .int .i64 k, .string (s.extract p k)]) (by simp [results, Tryz.results70, go_sem, r0, r1, r2, r3]) rfl ⟨rfl, ?_⟩
          exact below_four HB2.out
end Go.Proofs.YthbinlnpipgobaaGreatDoor.Lx
namespace Go.Proofs.YthbinlnpipgobaaGreatDoor.ErrP
open Go.RowKit Go.Proofs.YthbinlnpipgobaaGreatDoor.PFnPieceRefused Go.Proofs.YthbinlnpipgobaaGreatDoorW.PrintWords Go.Proofs.YthbinlnpipgobaaGreatDoorW.PrintLast

/-- A line end: where it begins and ends, within n bytes. -/
def Pair (n : Int) (x : List Int) : Prop := ∃ a b : Int, x = [a, b] ∧ 0 ≤ a ∧ a ≤ b ∧ b ≤ n

theorem l0_pairs (l : List Int) (hl : l.length ≤ 140737488351232) : ∀ (d k : Nat) (acc : List (List Int)) (i : Int), 0 ≤ i → (l.length : Int) - i ≤ d → 2 * d + 2 < k → (acc.length : Int) ≤ 1000000 + i → i ≤ l.length + 1 → l.length ≤ 1000000000 → (∀ x ∈ acc, Pair l.length x) →
    ∃ r, location_zzLineEnds.l0 k l acc i = some r ∧ (∀ x ∈ r, Pair l.length x) ∧ (r.length : Int) ≤ 1000002 + l.length := by
  intro d
  induction d using Nat.strongRecOn with
  | _ d ih =>
    intro k acc i h0 hd hk ha hi hb hacc
    obtain ⟨k, rfl⟩ : ∃ m, k = m + 1 := ⟨k - 1, by omega⟩
    simp only [location_zzLineEnds.l0]
    by_cases hlt : i < (l.length : Int)
    · rw [if_pos hlt, if_pos h0]
      obtain ⟨k, rfl⟩ : ∃ m, k = m + 1 := ⟨k - 1, by omega⟩
      have w1 : wrap64 (i + 1) = i + 1 := by unfold wrap64; omega
      have w2 : wrap64 (i + 2) = i + 2 := by unfold wrap64; omega
      have w3 : wrap64 (i + 1 + 1) = i + 1 + 1 := by unfold wrap64; omega
      have hp1 : ∀ x ∈ acc ++ [[i, i + 1]], Pair l.length x := by
        intro x hx
        rcases List.mem_append.1 hx with h | h
        · exact hacc x h
        · rw [List.mem_singleton.1 h]; exact ⟨i, i + 1, rfl, by omega, by omega, by omega⟩
      have step1 : ∀ acc', (acc'.length : Int) ≤ 1000000 + (i + 1) → (∀ x ∈ acc', Pair l.length x) → ∃ r, location_zzLineEnds.l0 k l acc' (i + 1) = some r ∧ (∀ x ∈ r, Pair l.length x) ∧ (r.length : Int) ≤ 1000002 + l.length :=
        fun acc' h1 h2 => ih (d - 1) (by omega) k acc' (i + 1) (by omega) (by omega) (by omega) h1 (by omega) hb h2
      have hj0 : ∃ r, location_zzLineEnds.j1 (k + 1) l acc i false = some r ∧ (∀ x ∈ r, Pair l.length x) ∧ (r.length : Int) ≤ 1000002 + l.length := by
        simp only [location_zzLineEnds.j1]
        rw [if_neg (by decide), if_pos h0, if_pos hlt, w1]
        have hlen : ((acc ++ [[i, i + 1]]).length : Int) ≤ 1000000 + (i + 1) := by rw [List.length_append]; simp; omega
        by_cases e1 : rd l i = 13
        · rw [if_pos e1, if_pos (by omega)]; exact step1 _ hlen hp1
        · rw [if_neg e1]
          by_cases e2 : rd l i = 10
          · rw [if_pos e2, if_pos (by omega)]; exact step1 _ hlen hp1
          · rw [if_neg e2]; exact step1 _ (by omega) hacc
      have hj1 : i + 1 < l.length → ∃ r, location_zzLineEnds.j1 (k + 1) l acc i true = some r ∧ (∀ x ∈ r, Pair l.length x) ∧ (r.length : Int) ≤ 1000002 + l.length := by
        intro hlt2
        simp only [location_zzLineEnds.j1]
        rw [if_pos trivial, if_pos (by omega), w1, w2, w3]
        refine ih (d - 2) (by omega) k _ (i + 1 + 1) (by omega) (by omega) (by omega) (by rw [List.length_append]; simp; omega) (by omega) hb ?_
        intro x hx
        rcases List.mem_append.1 hx with h | h
        · exact hacc x h
        · rw [List.mem_singleton.1 h]; exact ⟨i, i + 2, rfl, by omega, by omega, by omega⟩
      by_cases e1 : rd l i = 13
      · rw [if_pos e1, w1]
        by_cases e2 : i + 1 < (l.length : Int)
        · rw [if_pos e2, if_pos (by omega)]
          cases (rd l (i + 1) == 10) with
          | true => exact hj1 e2
          | false => exact hj0
        · rw [if_neg e2]; exact hj0
      · rw [if_neg e1]; exact hj0
    · rw [if_neg hlt]
      exact ⟨acc, rfl, hacc, by omega⟩

theorem line_ends (l : List Int) (hl : l.length ≤ 1000000000) : ∃ k r, location_zzLineEnds.f k l = some r ∧ (∀ x ∈ r, Pair l.length x) ∧ (r.length : Int) ≤ 1000002 + l.length := by
  obtain ⟨r, h⟩ := l0_pairs l (by omega) l.length (2 * l.length + 3) [] 0 (by omega) (by omega) (by omega) (by simp) (by omega) hl (by simp)
  exact ⟨_, r, h⟩
end Go.Proofs.YthbinlnpipgobaaGreatDoor.ErrP
namespace Go.Proofs.YthbinlnpipgobaaGreatDoor.Err
open Go.RowKit Go.Proofs.YthbinlnpipgobaaGreatDoor.Env Go.Proofs.YthbinlnpipgobaaGreatDoor.PFnPieceRefused Go.Proofs.YthbinlnpipgobaaGreatDoorW.PrintWords Go.Proofs.YthbinlnpipgobaaGreatDoorW.PrintLast

theorem body_kd {w : World} {bb : Nat} {s : ByteArray} (h : BodyAt w bb s) (hs : s.size ≤ 140737488351232) : Kd.C (Kd.int .u8) w (some ⟨bb, 0, none⟩) (bytesOf s).length (bytesOf s) := by
  refine ⟨rfl, by rw [bytesOf_length]; omega, fun hn => ⟨_, rfl, fun j p hp => ⟨[.int .u8 p], rfl, rfl, fun i u hu => ?_⟩⟩⟩
  have hj : j < s.size := by have := (List.getElem?_eq_some_iff.1 hp).1; rwa [bytesOf_length] at this
  have hi : i = 0 := by have := (List.getElem?_eq_some_iff.1 hu).1; simpa using this
  subst hi
  simp only [List.getElem?_cons_zero, Option.some.injEq] at hu
  subst hu
  have e : p = bt s j := by
    rw [← rd_bytesOf s j]
    unfold rd
    simp [List.getD_eq_getElem?_getD, hp]
  show w.cell? ((⟨bb, 0, none⟩ : Addr).add (j * 1 + 0)) = _
  rw [add_plain, e]
  simpa using h j hj

/-- What a call of zzLineEnds leaves: line ends in new memory. -/
def Ends (w : World) (n : Int) (A : Option Addr) (m : Nat) : Prop := ∀ k : Nat, k < m → ∃ ad g0 : Addr, ∃ c : Nat, ∃ a b : Int, A = some ad ∧ w.cell? (ad.add k) = some (.slice (some g0) 2 c) ∧ 2 ≤ c ∧ w.cell? g0 = some (.int .i64 a) ∧ w.cell? (g0.add 1) = some (.int .i64 b) ∧ 0 ≤ a ∧ a ≤ b ∧ b ≤ n

theorem ends_of {w : World} {n : Int} {A : Option Addr} {r : List (List Int)} (h : (Kd.slice 3 (Kd.int .i64)).C w A r.length r) (hp : ∀ x ∈ r, ErrP.Pair n x) : Ends w n A r.length := by
  intro k hk
  obtain ⟨ad, e, hc⟩ := h.2.2 (by omega)
  obtain ⟨c, hl, hK, hcell⟩ := hc k _ (List.getElem?_eq_getElem hk)
  obtain ⟨a, b, hx, h0, h1, h2⟩ := hp _ (List.getElem_mem hk)
  rw [hx] at hK
  obtain ⟨A', c', rfl, hcc, hC⟩ := hK
  obtain ⟨g0, e0, hg⟩ := hC.2.2 (by simp)
  subst e0
  have q0 := hcell 0 _ rfl
  obtain ⟨c0, _, hk0, hz0⟩ := hg 0 a rfl
  obtain ⟨c1, _, hk1, hz1⟩ := hg 1 b rfl
  have z0 : w.cell? g0 = some (.int .i64 a) := by
    have := hz0 0 (.int .i64 a) (by rw [hk0]; rfl)
    have e : g0.add (0 * (Kd.int IntKind.i64).sz + 0) = g0 := by simp [Addr.add]
    rwa [e] at this
  have z1 : w.cell? (g0.add 1) = some (.int .i64 b) := by
    have := hz1 0 (.int .i64 b) (by rw [hk1]; rfl)
    exact this
  exact ⟨ad, g0, c', a, b, e, by simpa [Kd.slice] using q0, by simpa using hcc, z0, z1, h0, h1, h2⟩

theorem lineEnds_any (bb cap : Nat) (s : ByteArray) (w : World) (h : BodyAt w bb s) (hs : s.size ≤ 1000000000) (hcap : s.size ≤ cap) :
    Calls Tryz.prog 188 #[.slice (some ⟨bb, 0, none⟩) s.size cap] w fun e w' =>
      ∃ A c m, e = .returned (.slice A m c) ∧ m ≤ c ∧ m ≤ 1000000000000 ∧ Ends w' s.size A m ∧ Below w.heap.size w w' := by
  obtain ⟨k, r, hr, hp, hlen⟩ := ErrP.line_ends (bytesOf s) (by rw [bytesOf_length]; exact hs)
  have hc := location_zzLineEnds.calls k (some ⟨bb, 0, none⟩) cap (bytesOf s) r w (body_kd h (by omega)) (by rw [bytesOf_length]; exact hcap) hr
  rw [bytesOf_length] at hc
  refine hc.mono ?_
  rintro e w' ⟨v0, rfl, hS, hb⟩
  obtain ⟨A, c, rfl, hcc, hC⟩ := Kd.R_reads (Kd.S_R hS)
  rw [bytesOf_length] at hp hlen
  exact ⟨A, c, r.length, rfl, hcc, by omega, ends_of hC hp, hb⟩

theorem two_kept2 {w w1 : World} {t : TypeId} {x0 x1 : Value} (hb : Below (w.heap.size + 1) (w.alloc (.cells #[x0, x1] t)) w1) :
    w1.cell? ⟨w.heap.size, 0, none⟩ = some x0 ∧ w1.cell? ⟨w.heap.size, 1, none⟩ = some x1 ∧ w1.frozen? ⟨w.heap.size, 0, none⟩ = false ∧ w1.frozen? ⟨w.heap.size, 1, none⟩ = false := by
  have h := Blk.below (Blk.new w t #[x0, x1]) hb (by omega)
  exact ⟨(h.cell 0).trans rfl, (h.cell 1).trans rfl, h.frozen 0, h.frozen 1⟩
theorem below_two2 {w w1 : World} {x0 x1 : Value} (h : Below w.heap.size w w1) : Below w.heap.size w ((w1.setCell ⟨w.heap.size, 0, none⟩ x0).setCell ⟨w.heap.size, 1, none⟩ x1) :=
  (h.setCell (p := ⟨w.heap.size, 0, none⟩) (Nat.le_refl _) _).setCell (p := ⟨w.heap.size, 1, none⟩) (Nat.le_refl _) _

/-- A location, and nothing below changed. -/
def SomeLoc (w : World) (e : Ending) (w' : World) : Prop := ∃ a b : Int, e = .returned (.agg #[.int .i64 a, .int .i64 b]) ∧ Below w.heap.size w w'

set_option maxRecDepth 100000 in
set_option maxHeartbeats 4000000 in
/-- GetLocation: some line, some column. -/
theorem getLocation_any (sb bb cap : Nat) (pos : Int) (s : ByteArray) (w : World) (h : BodyAt w bb s) (h0 : w.cell? ⟨sb, 0, none⟩ = some (.slice (some ⟨bb, 0, none⟩) s.size cap)) (hs : s.size ≤ 1000000000) (hcap : s.size ≤ cap) :
    Calls Tryz.prog 174 #[.pointer (some ⟨sb, 0, none⟩), .int .i64 pos] w fun e w' => SomeLoc w e w' := by
  have hsb : sb < w.heap.size := World.block_lt_of_cell? w _ h0
  have HL := Aside0.mk (fun W (hb : Below w.heap.size w W) => lineEnds_any bb cap s W (h.below hb) hs hcap)
  clear h
  go_enter Tryz.func174, Tryz.ntmps174
  go_wp2_with fail
  refine (HL.out _ (by exact below_alloc (below_alloc (Below.refl _ _) _) _)).mono ?_
  rintro e w2 ⟨A, c, m, rfl, hmc, hm, hE, hb⟩
  have hb1 : Below (w.heap.size + 1) _ w2 := (((Below.refl _ _).alloc (by simp) _).trans (hb.mono (by simp)))
  obtain ⟨r0, r1, z0, z1⟩ := two_kept2 hb1
  have hs0 : w2.cell? ⟨sb, 0, none⟩ = some (.slice (some ⟨bb, 0, none⟩) s.size cap) := by
    have := (below_one (by simpa using hb1)).cell (p := ⟨sb, 0, none⟩) hsb
    rw [this]; exact h0
  have HB := Aside0.mk (below_one (w := w) (by simpa using hb1))
  clear hb hb1 HL h0
  have HE := Aside0.mk hE
  clear hE
  go_wp2_with fail
  go_loopw [6, 7, 26] (fun l c i wr => ∃ (x y : Int) (k n : Nat), l = .int .i64 x ∧ c = .int .i64 y ∧ i = .int .i64 k ∧ k ≤ m ∧ wr = w2.drewN n) (fun _ _ i _ => m - (intOf i).toNat)
  case atStart => exact ⟨_, _, 0, 0, rfl, rfl, rfl, by omega, rfl⟩
  case round =>
    obtain ⟨x, y, k, n, rfl, rfl, rfl, hk, rfl⟩ := hrel
    by_cases hlt : k < m
    · obtain ⟨ad, g0, cc, a, b', rfl, e1, ecc, e2, e3, e4, e5, e6⟩ := HE.out k hlt
      have hlti : (k : Int) < (m : Int) := by omega
      have hcci : (2 : Int) ≤ (cc : Int) := by omega
      by_cases hpos : a < pos
      · have hp : decide (a < pos) = true := decide_eq_true hpos
        obtain ⟨a, rfl⟩ := Int.eq_ofNat_of_zero_le e4
        obtain ⟨b', rfl⟩ := Int.eq_ofNat_of_zero_le (by omega : 0 ≤ b')
        have hab : (a : Int) ≤ (cap : Int) := by omega
        have hbb : b' ≤ (cap : Int) := by omega
        have e3' : w2.cell? { block := g0.block, off := g0.off + 1 } = some (.int .i64 b') := e3
        go_wp2_with fail
        go_quiet (fail)
        go_wp2
        go_roundw
        case rel => exact ⟨_, _, k + 1, _, rfl, rfl, by go_num, by omega, rfl⟩
        case measure => simp [intOf]; omega
      · have hp : decide (a < pos) = false := decide_eq_false hpos
        go_wp2_with fail
        refine bodyPost_ret (v := .agg #[.int .i64 x, .int .i64 y]) (by simp [results, Tryz.results174, go_sem, r0, r1]) rfl ⟨x, y, rfl, below_two2 (pw_below_drewN HB.out _)⟩
    · go_wp2_with fail
      refine bodyPost_ret (v := .agg #[.int .i64 x, .int .i64 y]) (by simp [results, Tryz.results174, go_sem, r0, r1]) rfl ⟨x, y, rfl, below_two2 (pw_below_drewN HB.out _)⟩
end Go.Proofs.YthbinlnpipgobaaGreatDoor.Err
namespace Go.Proofs.YthbinlnpipgobaaGreatDoor.Err
open Go.RowKit Go.Proofs.YthbinlnpipgobaaGreatDoor.Env Go.Proofs.YthbinlnpipgobaaGreatDoorW.PrintWords Go.Proofs.YthbinlnpipgobaaGreatDoorW.PrintLast

/-- A pointer to a new error, and nothing below changed. -/
def SomeErr (w : World) (e : Ending) (w' : World) : Prop := ∃ g : Nat, e = .returned (.pointer (some ⟨g, 0, none⟩)) ∧ Below w.heap.size w w'

set_option maxRecDepth 100000 in
set_option maxHeartbeats 4000000 in
theorem newError_any (sb bb cap pb nb pc : Nat) (pos : Int) (s msg : ByteArray) (w : World) (h : BodyAt w bb s) (h0 : w.cell? ⟨sb, 0, none⟩ = some (.slice (some ⟨bb, 0, none⟩) s.size cap)) (hs : s.size ≤ 1000000000) (hcap : s.size ≤ cap)
    (hp : w.cell? ⟨pb, 0, none⟩ = some (.int .i64 pos)) (hm : (!msg.toList.isEmpty) = true) :
    Calls Tryz.prog 142 #[.string msg, .slice (some ⟨nb, 0, none⟩) 0 0, .string ⟨#[]⟩, .pointer (some ⟨sb, 0, none⟩), .slice (some ⟨pb, 0, none⟩) 1 pc, .slice none 0 0, .nilIface] w fun e w' => SomeErr w e w' := by
  have hsb : sb < w.heap.size := World.block_lt_of_cell? w _ h0
  have hpb : pb < w.heap.size := World.block_lt_of_cell? w _ hp
  have HL := Aside0.mk (fun W (hb : Below w.heap.size w W) => getLocation_any sb bb cap pos s W (h.below hb) ((hb.cell (p := ⟨sb, 0, none⟩) hsb).trans h0) hs hcap)
  clear h
  go_enter Tryz.func142, Tryz.ntmps142
  go_wp2_with fail
  go_loopw [19, 88] (fun l i wr => (i = .int .i64 0 ∧ l = .slice (some ⟨w.heap.size, 0, none⟩) 0 0 ∧ wr = w.alloc (.cells #[] 339)) ∨ (i = .int .i64 1 ∧ ∃ g m c, l = .slice g m c ∧ Aside0 (Below w.heap.size w wr))) (fun _ i _ => 1 - (intOf i).toNat)
  case atStart => exact .inl ⟨rfl, rfl, rfl⟩
  case round =>
    rcases hrel with ⟨rfl, rfl, rfl⟩ | ⟨rfl, g, m, c, rfl, HB⟩
    · have hp1 : (w.alloc (.cells #[] 339)).cell? ⟨pb, 0, none⟩ = some (.int .i64 pos) := (((Below.refl _ _).alloc (Nat.le_refl _) _).cell (p := ⟨pb, 0, none⟩) hpb).trans hp
      go_wp2_with fail
      refine (HL.out _ (by exact below_alloc (Below.refl _ _) _)).mono ?_
      rintro e w2 ⟨x, y, rfl, hb⟩
      have HB := Aside0.mk (below_one (w := w) (by simpa using hb))
      clear hb
      go_wp2_with fail
      exact ⟨.inr ⟨rfl, _, _, _, rfl, Aside0.mk (below_alloc (below_alloc (below_alloc HB.out _) _) _).drew⟩, by simp [intOf]⟩
    · go_wp2_with fail
      refine bodyPost_ret (v := .pointer (some ⟨wr.heap.size, 0, none⟩)) (by simp [results, Tryz.results142, go_sem]) rfl ⟨_, rfl, ?_⟩
      exact below_alloc HB.out _

set_option maxRecDepth 100000 in
set_option maxHeartbeats 4000000 in
theorem newErr_any (sb bb cap pb nb pc : Nat) (pos : Int) (s msg : ByteArray) (w : World) (h : BodyAt w bb s) (h0 : w.cell? ⟨sb, 0, none⟩ = some (.slice (some ⟨bb, 0, none⟩) s.size cap)) (hs : s.size ≤ 1000000000) (hcap : s.size ≤ cap)
    (hp : w.cell? ⟨pb, 0, none⟩ = some (.int .i64 pos)) (hm : (!msg.toList.isEmpty) = true) :
    Calls Tryz.prog 91 #[.string msg, .slice (some ⟨nb, 0, none⟩) 0 0, .string ⟨#[]⟩, .pointer (some ⟨sb, 0, none⟩), .slice (some ⟨pb, 0, none⟩) 1 pc, .nilIface] w fun e w' => SomeErr w e w' := by
  go_enter Tryz.func91, Tryz.ntmps91
  go_wp2_with fail
  refine (newError_any sb bb cap pb nb pc pos s msg w h h0 hs hcap hp hm).mono ?_
  rintro e w2 ⟨g, rfl, hb⟩
  go_wp2_with fail
  exact bodyPost_ret (v := .pointer (some ⟨g, 0, none⟩)) (by simp [results, Tryz.results91, go_sem]) rfl ⟨_, rfl, hb⟩

set_option maxRecDepth 100000 in
set_option maxHeartbeats 4000000 in
/-- NewSyntaxError: a new error, nothing below changed. -/
theorem syntaxError_any (sb bb cap : Nat) (pos : Int) (s msg : ByteArray) (w : World) (h : BodyAt w bb s) (h0 : w.cell? ⟨sb, 0, none⟩ = some (.slice (some ⟨bb, 0, none⟩) s.size cap)) (hs : s.size ≤ 1000000000) (hcap : s.size ≤ cap) :
    Calls Tryz.prog 45 #[.pointer (some ⟨sb, 0, none⟩), .int .i64 pos, .string msg] w fun e w' => SomeErr w e w' := by
  have hsb : sb < w.heap.size := World.block_lt_of_cell? w _ h0
  have HL := Aside0.mk (fun W (hb : Below w.heap.size w W) (pb nb : Nat) (hp : W.cell? ⟨pb, 0, none⟩ = some (.int .i64 pos)) (msg : ByteArray) (hm : (!msg.toList.isEmpty) = true) => newErr_any sb bb cap pb nb 1 pos s msg W (h.below hb) ((hb.cell (p := ⟨sb, 0, none⟩) hsb).trans h0) hs hcap hp hm)
  clear h
  go_enter Tryz.func45, Tryz.ntmps45
  go_wp2_with fail
  have hb0 : Below w.heap.size w ((w.alloc (Obj.cells #[] 61)).alloc (Obj.cells #[Value.int IntKind.i64 pos] 3)) := below_alloc (below_alloc (Below.refl _ _) _) _
  refine (HL.out _ (by exact hb0) (w.heap.size + 1) _ (by simp [go_sem]) _ (by decide_cbv)).mono ?_
  rintro e w2 ⟨g, rfl, hb⟩
  have hb1 := Aside0.mk (hb0.trans (hb.mono (by simp; omega)))
  clear hb
  go_wp2_with fail
  exact bodyPost_ret (v := .pointer (some ⟨g, 0, none⟩)) (by simp [results, Tryz.results45, go_sem]) rfl ⟨_, rfl, hb1.out⟩
end Go.Proofs.YthbinlnpipgobaaGreatDoor.Err
namespace Go.Proofs.YthbinlnpipgobaaGreatDoor.Lx
set_option linter.unusedVariables false
set_option linter.unusedSimpArgs false
open Go.RowKit Go.Proofs.YthbinlnpipgobaaGreatDoorW.PrintWords Go.Proofs.YthbinlnpipgobaaGreatDoor.Keep Go.Proofs.YthbinlnpipgobaaGreatDoor.Mod Go.Proofs.YthbinlnpipgobaaGreatDoor.Sim Go.Proofs.YthbinlnpipgobaaGreatDoor.Four Go.Proofs.YthbinlnpipgobaaGreatDoor.Step Go.Proofs.YthbinlnpipgobaaGreatDoor.Env Go.Proofs.YthbinlnpipgobaaGreatDoor.Err

theorem isDig_iff {c : Int} : isDig c = true ↔ (48 ≤ c ∧ c ≤ 57) := by
  unfold isDig
  simp only [Bool.and_eq_true, decide_eq_true_eq]
theorem runeP_lt {s : ByteArray} {p : Nat} (h : p < s.size) : runeP s p = (bt s p, 1) := by unfold runeP; rw [if_neg (by omega)]
theorem runeP_ge {s : ByteArray} {p : Nat} (h : s.size ≤ p) : runeP s p = (-1, 65533) := by unfold runeP; rw [if_pos h]
/-- What the reader compares: the byte, or -1 behind the end (of which the model says 0). -/
theorem runeP_fst {s : ByteArray} {p : Nat} (c : Int) (h0 : 0 < c) : (runeP s p).1 = c ↔ bt s p = c := by
  rcases Nat.lt_or_ge p s.size with h | h
  · rw [runeP_lt h]
  · rw [runeP_ge h, bt_out s p h]
    constructor
    · intro e; exact absurd e (by show ¬ (-1 : Int) = c; omega)
    · intro e; omega
theorem runeP_dig {s : ByteArray} {p : Nat} : isDig (runeP s p).1 = isDig (bt s p) := by
  rcases Nat.lt_or_ge p s.size with h | h
  · rw [runeP_lt h]
  · rw [runeP_ge h, bt_out s p h]; rfl

/-- An error, and nothing below changed. -/
abbrev errV (g : Nat) : Value := .iface 117 (.pointer (some ⟨g, 0, none⟩))

set_option maxRecDepth 100000 in
set_option maxHeartbeats 4000000 in
theorem dig_yes (sb bb p q cap : Nat) (s : ByteArray) (w : World) (hb : BodyAt w bb s) (hcap : s.size ≤ cap) (hpl : Plain s) (hs : s.size ≤ 100000) (h0 : w.cell? ⟨sb, 0, none⟩ = some (.slice (some ⟨bb, 0, none⟩) s.size cap)) (hq : mDig s p = some q) :
    Calls Tryz.prog 105 #[.pointer (some ⟨sb, 0, none⟩), .int .i64 p, .int .i32 (runeP s p).1, .int .i64 (runeP s p).2] w fun e w' =>
      e = .returned (.tuple #[.int .i64 q, .nilIface]) ∧ w = w' := by
  have hpq := dig_prog hq
  unfold mDig at hq
  by_cases hd : isDig (bt s p) = true
  · rw [if_pos hd] at hq
    obtain ⟨q0, q1, q2, q3⟩ := scan_all isDig rfl s p (by omega)
    rw [Option.some.inj hq] at q0 q1 q2 q3
    have hd2 := isDig_iff.1 hd
    have Q2 := Aside0.mk q2
    have Q3 := Aside0.mk q3
    have HR := Aside0.mk (fun k => rune_plain bb k cap s w hb hcap hpl)
    clear q2 q3 hb hpl hq hd
    have hrp := runeP_lt (s := s) (p := p) (by omega)
    rw [hrp]
    have HD := Aside0.mk hd2
    obtain ⟨c, hc⟩ : ∃ c, bt s p = c := ⟨_, rfl⟩
    have HC := Aside0.mk hc
    rw [hc] at hd2
    simp only [hc]
    clear hc hrp
    go_enter Tryz.func105, Tryz.ntmps105
    go_wp2_with fail
    go_loopw [3, 11, 12] (fun n i x wr => ∃ k : Nat, p ≤ k ∧ k ≤ q ∧ n = .int .i64 (runeP s k).2 ∧ i = .int .i64 k ∧ x = .int .i32 (runeP s k).1 ∧ wr = w) (fun _ i _ _ => q - (intOf i).toNat)
    case atStart =>
      refine ⟨p, by omega, by omega, ?_, rfl, ?_, rfl⟩
      · rw [runeP_lt (by omega)]
      · rw [runeP_lt (by omega), HC.out]
    case round =>
      obtain ⟨k, hk1, hk2, rfl, rfl, rfl, rfl⟩ := hrel
      by_cases hlt : k < q
      · have hdk := isDig_iff.1 (Q2.out k hk1 hlt)
        have hrk := runeP_lt (s := s) (p := k) (by omega)
        rw [hrk]
        have HRk := Aside0.mk (HR.out (k + 1) (by omega))
        clear hrk
        generalize bt s k = x at *
        simp only
        go_wp2_with fail
        refine HRk.out.mono ?_
        rintro e w' ⟨rfl, rfl⟩
        go_wp2_with fail
        go_roundw
        case rel => exact ⟨k + 1, by omega, by omega, by go_num, by go_num, by go_num, by first | rfl | trivial⟩
        case measure => simp [intOf]; omega
      · obtain rfl : k = q := by omega
        have hn : isDig (runeP s k).1 = false := runeP_dig.trans Q3.out
        generalize (runeP s k).1 = x at *
        generalize (runeP s k).2 = y at *
        have hn2 : ¬ (48 ≤ x ∧ x ≤ 57) := fun h => by rw [isDig_iff.2 h] at hn; cases hn
        have hway : x < 48 ∨ 57 < x := by omega
        clear hn hn2
        rcases hway with g | g
        all_goals
          go_wp2_with fail
          go_ret2
          exact ⟨rfl, rfl⟩
  · rw [if_neg hd] at hq; cases hq

set_option maxRecDepth 100000 in
set_option maxHeartbeats 4000000 in
theorem dig_no (sb bb p cap : Nat) (s : ByteArray) (w : World) (hb : BodyAt w bb s) (hcap : s.size ≤ cap) (hpl : Plain s) (hs : s.size ≤ 100000) (h0 : w.cell? ⟨sb, 0, none⟩ = some (.slice (some ⟨bb, 0, none⟩) s.size cap)) (hq : mDig s p = none) :
    Calls Tryz.prog 105 #[.pointer (some ⟨sb, 0, none⟩), .int .i64 p, .int .i32 (runeP s p).1, .int .i64 (runeP s p).2] w fun e w' =>
      (∃ (x : Int) (g : Nat), e = .returned (.tuple #[.int .i64 x, errV g])) ∧ Below w.heap.size w w' := by
  have hd : isDig (runeP s p).1 = false := by
    rw [runeP_dig]
    unfold mDig at hq
    by_cases hd : isDig (bt s p) = true
    · rw [if_pos hd] at hq; cases hq
    · exact Bool.eq_false_iff.2 hd
  have HE := Aside0.mk (fun msg pos => syntaxError_any sb bb cap pos s msg w hb h0 (by omega) hcap)
  generalize (runeP s p).1 = x at *
  generalize (runeP s p).2 = y at *
  have hn2 : ¬ (48 ≤ x ∧ x ≤ 57) := fun h => by rw [isDig_iff.2 h] at hd; cases hd
  have hway : x < 48 ∨ 57 < x := by omega
  clear hd hn2 hb hpl hq
  rcases hway with g | g
  all_goals
    go_enter Tryz.func105, Tryz.ntmps105
    go_wp2_with fail
    refine (HE.out _ _).mono ?_
    rintro e w' ⟨g2, rfl, hb2⟩
    go_wp2_with fail
    go_ret2
    exact ⟨⟨_, g2, rfl⟩, hb2⟩
end Go.Proofs.YthbinlnpipgobaaGreatDoor.Lx
