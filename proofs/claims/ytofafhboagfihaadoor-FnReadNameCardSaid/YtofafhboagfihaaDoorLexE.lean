import Derived.Test.YtofafhboagfihaaDoorLexD
namespace Go.Proofs.YtofafhboagfihaaDoor.Lex
open Go.RowKit Go.Proofs.YtofafhboagfihaaDoor.Mem Go.Proofs.YtofafhboagfihaaDoorW.PrintWords

theorem four_kept1 {w w1 : World} {t : TypeId} {x0 x1 x2 x3 : Value} (hb : Below (w.alloc (.cells #[x0, x1, x2, x3] t)).heap.size (w.alloc (.cells #[x0, x1, x2, x3] t)) w1) :
    w1.cell? ⟨w.heap.size, 0, none⟩ = some x0 ∧ w1.cell? ⟨w.heap.size, 1, none⟩ = some x1 ∧ w1.cell? ⟨w.heap.size, 2, none⟩ = some x2 ∧ w1.cell? ⟨w.heap.size, 3, none⟩ = some x3 := by
  have h := Blk.below (Blk.new w t #[x0, x1, x2, x3]) hb (by simp)
  exact ⟨(h.cell 0).trans rfl, (h.cell 1).trans rfl, (h.cell 2).trans rfl, (h.cell 3).trans rfl⟩
theorem frozen_kept1 {w w1 : World} {t : TypeId} {x0 x1 x2 x3 : Value} (hb : Below (w.alloc (.cells #[x0, x1, x2, x3] t)).heap.size (w.alloc (.cells #[x0, x1, x2, x3] t)) w1) (j : Nat) :
    w1.frozen? ⟨w.heap.size, j, none⟩ = false :=
  (Blk.below (Blk.new w t #[x0, x1, x2, x3]) hb (by simp)).frozen j
theorem below_one {w w1 : World} {o : Obj} (hb : Below (w.alloc o).heap.size (w.alloc o) w1) : Below w.heap.size w w1 :=
  ((Below.refl w.heap.size w).alloc (Nat.le_refl _) o).trans (hb.mono (by simp))
theorem below_four {w w1 : World} {x0 x1 x2 x3 : Value} (h : Below w.heap.size w w1) : Below w.heap.size w ((((w1.setCell ⟨w.heap.size, 0, none⟩ x0).setCell ⟨w.heap.size, 1, none⟩ x1).setCell ⟨w.heap.size, 2, none⟩ x2).setCell ⟨w.heap.size, 3, none⟩ x3) :=
  (((h.setCell (p := ⟨w.heap.size, 0, none⟩) (Nat.le_refl _) _).setCell (p := ⟨w.heap.size, 1, none⟩) (Nat.le_refl _) _).setCell (p := ⟨w.heap.size, 2, none⟩) (Nat.le_refl _) _).setCell (p := ⟨w.heap.size, 3, none⟩) (Nat.le_refl _) _

theorem nonempty_list {s : ByteArray} (h0 : 0 < s.size) : (s.toList == ([] : List UInt8)) = false := by
  rw [beq_eq_false_iff_ne]
  intro e
  have : s = ByteArray.empty := toList_inj (e.trans (by decide +kernel))
  rw [this] at h0
  exact absurd h0 (by decide)

set_option maxRecDepth 100000 in
set_option maxHeartbeats 1000000 in
/-- spec.ReadName where no name begins. -/
theorem specReadName_no (s : ByteArray) (w : World) (hb : s.size = 0 ∨ (0 < s.size ∧ isBeginB (bt s 0) = false)) :
    Calls Tryd.prog 5 #[.string s] w fun e w' => e = .returned (.tuple #[.agg #[.int .i64 0, .string ⟨#[]⟩, .int .i64 0, .int .i64 0], .bool false, .bool true]) ∧ Below w.heap.size w w' := by
  rcases hb with h0 | ⟨h0, hb⟩
  · obtain rfl : s = ByteArray.empty := ByteArray.ext (Array.eq_empty_of_size_eq_zero h0)
    have he : ((ByteArray.empty).toList == ([] : List UInt8)) = true := by decide +kernel
    have hne : ((ByteArray.empty).toList != ([] : List UInt8)) = false := by simp [bne]
    go_enter Tryd.func5, Tryd.ntmps5
    go_wp2_with (go_at_call 9; refine (only_no _ _ _).mono ?_)
    rintro e w1 ⟨rfl, hb⟩
    obtain ⟨r0, r1, r2, r3⟩ := four_kept1 hb
    have hz0 := frozen_kept1 hb 0
    have hz1 := frozen_kept1 hb 1
    have hz2 := frozen_kept1 hb 2
    have hz3 := frozen_kept1 hb 3
    have HB := Aside0.mk (below_one hb)
    clear hb
    go_wp2
    refine bodyPost_ret (v := .tuple #[.agg #[.int .i64 0, .string ⟨#[]⟩, .int .i64 0, .int .i64 0], .bool false, .bool true]) (by simp [results, Tryd.results5, go_sem, r0, r1, r2, r3]) rfl ⟨rfl, ?_⟩
    exact below_four HB.out
  · have hne := nonempty_list h0
    have hne2 : (s.toList != ([] : List UInt8)) = true := by simp [bne, hne]
    have hbt : ∀ h : 0 < s.size, ((s[0]'h).toNat : Int) = bt s 0 := fun h => bt_nat s 0 h
    generalize bt s 0 = c at *
    have h0i : (0 : Int) < (s.size : Int) := by omega
    have HBG := Aside0.mk hb
    clear hb
    go_enter Tryd.func5, Tryd.ntmps5
    go_wp2_with (first | (go_at_call 10; refine (isBegin_no _ _ HBG.out).mono ?_; rintro e w' ⟨rfl, rfl⟩) | (go_at_call 9; refine (only_no _ _ _).mono ?_))
    rintro e w1 ⟨rfl, hb⟩
    obtain ⟨r0, r1, r2, r3⟩ := four_kept1 hb
    have hz0 := frozen_kept1 hb 0
    have hz1 := frozen_kept1 hb 1
    have hz2 := frozen_kept1 hb 2
    have hz3 := frozen_kept1 hb 3
    have HB := Aside0.mk (below_one hb)
    clear hb
    go_wp2
    refine bodyPost_ret (v := .tuple #[.agg #[.int .i64 0, .string ⟨#[]⟩, .int .i64 0, .int .i64 0], .bool false, .bool true]) (by simp [results, Tryd.results5, go_sem, r0, r1, r2, r3]) rfl ⟨rfl, ?_⟩
    exact below_four HB.out

set_option maxRecDepth 100000 in
set_option maxHeartbeats 1000000 in
theorem specReadName_yes (s : ByteArray) (q : Nat) (w : World) (hs : s.size ≤ 140737488351232) (hpq : 0 < q) (hq : q ≤ s.size) (hb0 : isBeginB (bt s 0) = true) (hin : ∀ i : Nat, i < q → inNameB (bt s i) = true) (hout : inNameB (bt s q) = false) :
    Calls Tryd.prog 5 #[.string s] w fun e w' => e = .returned (.tuple #[.agg #[.int .i64 15, .string (s.extract 0 q), .int .i64 0, .int .i64 q], .bool true, .bool true]) ∧ Below w.heap.size w w' := by
  have HO := Aside0.mk (fun W => only_name s q W hs hpq hq hb0 hin hout)
  have h0 : 0 < s.size := by omega
  have hne := nonempty_list h0
  have hne2 : (s.toList != ([] : List UInt8)) = true := by simp [bne, hne]
  have hbt : ∀ h : 0 < s.size, ((s[0]'h).toNat : Int) = bt s 0 := fun h => bt_nat s 0 h
  clear hin hout
  generalize bt s 0 = c at *
  have h0i : (0 : Int) < (s.size : Int) := by omega
  have HBG := Aside0.mk hb0
  clear hb0
  go_enter Tryd.func5, Tryd.ntmps5
  go_wp2_with (first | (go_at_call 10; refine (isBegin_yes _ _ HBG.out).mono ?_; rintro e w' ⟨rfl, rfl⟩) | (go_at_call 9; refine (HO.out _).mono ?_))
  rintro e w1 ⟨rfl, hb⟩
  obtain ⟨r0, r1, r2, r3⟩ := four_kept1 hb
  have hz0 := frozen_kept1 hb 0
  have hz1 := frozen_kept1 hb 1
  have hz2 := frozen_kept1 hb 2
  have hz3 := frozen_kept1 hb 3
  have HB := Aside0.mk (below_one hb)
  clear hb
  go_wp2
  refine bodyPost_ret (v := .tuple #[.agg #[.int .i64 15, .string (s.extract 0 q), .int .i64 0, .int .i64 q], .bool true, .bool true]) (by simp [results, Tryd.results5, go_sem, r0, r1, r2, r3]) rfl ⟨rfl, ?_⟩
  exact below_four HB.out
end Go.Proofs.YtofafhboagfihaaDoor.Lex
