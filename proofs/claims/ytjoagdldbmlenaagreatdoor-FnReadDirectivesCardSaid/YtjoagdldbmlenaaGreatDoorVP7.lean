import Derived.Test.YtjoagdldbmlenaaGreatDoorVP0
set_option maxRecDepth 100000
set_option maxHeartbeats 8000000
set_option linter.unusedVariables false
set_option linter.unusedSimpArgs false
namespace Go.Proofs.YtjoagdldbmlenaaGreatDoor.PFnReadDirectives
open Go.RowKit Go.Proofs.YtjoagdldbmlenaaGreatDoorW.PrintWords Go.Proofs.YtjoagdldbmlenaaGreatDoorW.PrintLast Go.Proofs.YtjoagdldbmlenaaGreatDoorW.PrintMore
attribute [local go_sem] max2_int min2_int max_two min_two max_three min_three max_four min_four
mutual
def spec_hexadecimal.j0 : Nat → Int → Bool → Option (Int)
 | 0, _, _ => none
 | k + 1, x0, x3 => if x3 = true then (some ((x0 - 48) % 256)) else (if x0 ≥ 97 then (spec_hexadecimal.j1 k x0 (decide (x0 ≤ 102))) else (spec_hexadecimal.j1 k x0 false))
def spec_hexadecimal.j1 : Nat → Int → Bool → Option (Int)
 | 0, _, _ => none
 | k + 1, x0, x13 => if x13 = true then (some (((x0 - 97) % 256) + 10)) else (if x0 ≥ 65 then (if x0 ≤ 70 then (some (((x0 - 65) % 256) + 10)) else (some (-1))) else (some (-1)))
end
def spec_hexadecimal.f (k : Nat) (a0 : Int) : Option (Int) := if a0 ≥ 48 then (spec_hexadecimal.j0 k a0 (decide (a0 ≤ 57))) else (spec_hexadecimal.j0 k a0 false)
def IsS45 (w0 W : World) (g : Nat) (f0 : List (S49)) (f1 : Int) (f2 : Int) (f3 : Int) (f4 : Bool) (f5 : Bool) : Prop := ∃ A0 c0, W.heap[g]? = some (.cells #[.slice A0 f0.length c0, .int .i64 f1, .int .i64 f2, .int .i64 f3, .bool f4, .bool f5] 45 (0, 0)) ∧ w0.heap.size ≤ g ∧ Kd.C k49 w0 A0 f0.length f0
theorem IsS45.grown {w0 W : World} {g : Nat} {f0 : List (S49)} {f1 : Int} {f2 : Int} {f3 : Int} {f4 : Bool} {f5 : Bool} {W1 : World} {row : Option Nat} (h : IsS45 w0 W g f0 f1 f2 f3 f4 f5) (hw : W.grownBy W1 row) (hne : some g ≠ row) : IsS45 w0 W1 g f0 f1 f2 f3 f4 f5 := by
 obtain ⟨A0, c0, hb, hg, hr0⟩ := h
 exact ⟨A0, c0, blk_grown hb hw hne, hg, hr0⟩
theorem IsS45.own_neN {w0 W : World} {g : Nat} {f0 : List (S49)} {f1 : Int} {f2 : Int} {f3 : Int} {f4 : Bool} {f5 : Bool} {α : Type} {d : Kd α} {e : Nat} {base : Nat} {ok : Nat → Prop} {v : Value} {xs : List α} (h : IsS45 w0 W g f0 f1 f2 f3 f4 f5) (ho : Kd.N d e W base ok v xs) (ht : e ≠ 45) : some g ≠ v.ownBlock := by
 obtain ⟨A0, c0, hb, hg, hr0⟩ := h
 exact Kd.N_ne ho hb ht
theorem IsS45.fresh {w0 W : World} {g : Nat} {f0 : List (S49)} {f1 : Int} {f2 : Int} {f3 : Int} {f4 : Bool} {f5 : Bool} (h : IsS45 w0 W g f0 f1 f2 f3 f4 f5) : ∀ k, W.heap.size ≤ k → k ≠ g := by
 obtain ⟨A0, c0, hb, hg, hr0⟩ := h
 exact Kd.freshB hb
theorem IsS45.below {w0 W : World} {g : Nat} {f0 : List (S49)} {f1 : Int} {f2 : Int} {f3 : Int} {f4 : Bool} {f5 : Bool} {W1 : World} (h : IsS45 w0 W g f0 f1 f2 f3 f4 f5) (hw : Below W.heap.size W W1) : IsS45 w0 W1 g f0 f1 f2 f3 f4 f5 := h.grown (grown_of_below hw none) (by simp)
theorem IsS45.alloc {w0 W : World} {g : Nat} {f0 : List (S49)} {f1 : Int} {f2 : Int} {f3 : Int} {f4 : Bool} {f5 : Bool} (h : IsS45 w0 W g f0 f1 f2 f3 f4 f5) (o : Obj) : IsS45 w0 (W.alloc o) g f0 f1 f2 f3 f4 f5 := h.below (below_alloc (Below.refl _ _) o)
theorem IsS45.drewN {w0 W : World} {g : Nat} {f0 : List (S49)} {f1 : Int} {f2 : Int} {f3 : Int} {f4 : Bool} {f5 : Bool} (h : IsS45 w0 W g f0 f1 f2 f3 f4 f5) (m : Nat) : IsS45 w0 (W.drewN m) g f0 f1 f2 f3 f4 f5 := h
theorem IsS45.drew {w0 W : World} {g : Nat} {f0 : List (S49)} {f1 : Int} {f2 : Int} {f3 : Int} {f4 : Bool} {f5 : Bool} (h : IsS45 w0 W g f0 f1 f2 f3 f4 f5) : IsS45 w0 W.drew g f0 f1 f2 f3 f4 f5 := h
theorem IsS45.apart {w0 W : World} {g : Nat} {f0 : List (S49)} {f1 : Int} {f2 : Int} {f3 : Int} {f4 : Bool} {f5 : Bool} {α : Type} {d : Kd α} {e : Nat} {base : Nat} {ok : Nat → Prop} {v : Value} {xs : List α} (h : IsS45 w0 W g f0 f1 f2 f3 f4 f5) (ho : d.R e W base ok v xs) (ht : ∀ q, q ∈ e :: d.E → q ≠ 45) : d.R e W base (fun k => ok k ∧ k ≠ g) v xs := by
 obtain ⟨A0, c0, hb, hg, hr0⟩ := h
 exact Kd.R_types ho hb ht
theorem IsS45.own_ne {w0 W : World} {g : Nat} {f0 : List (S49)} {f1 : Int} {f2 : Int} {f3 : Int} {f4 : Bool} {f5 : Bool} {α : Type} {d : Kd α} {e : Nat} {base : Nat} {ok : Nat → Prop} {v : Value} {xs : List α} (h : IsS45 w0 W g f0 f1 f2 f3 f4 f5) (ho : d.R e W base ok v xs) (ht : e ≠ 45) : some g ≠ v.ownBlock := by
 obtain ⟨A0, c0, hb, hg, hr0⟩ := h
 exact Kd.R_ne ho hb ht
theorem IsS45.lt {w0 W : World} {g : Nat} {f0 : List (S49)} {f1 : Int} {f2 : Int} {f3 : Int} {f4 : Bool} {f5 : Bool} (h : IsS45 w0 W g f0 f1 f2 f3 f4 f5) : g < W.heap.size := by
 obtain ⟨A0, c0, hb, hg, hr0⟩ := h
 exact blk_lt hb
theorem IsS45.ge {w0 W : World} {g : Nat} {f0 : List (S49)} {f1 : Int} {f2 : Int} {f3 : Int} {f4 : Bool} {f5 : Bool} (h : IsS45 w0 W g f0 f1 f2 f3 f4 f5) : w0.heap.size ≤ g := by
 obtain ⟨A0, c0, hb, hg, hr0⟩ := h
 exact hg
theorem cellS45_0 {W : World} {g : Nat} {A0 : Option Addr} {c0 : Nat} {f0 : List (S49)} {f1 : Int} {f2 : Int} {f3 : Int} {f4 : Bool} {f5 : Bool} (h : W.heap[g]? = some (.cells #[.slice A0 f0.length c0, .int .i64 f1, .int .i64 f2, .int .i64 f3, .bool f4, .bool f5] 45 (0, 0))) : W.cell? ⟨g, 0, none⟩ = some (.slice A0 f0.length c0) := (blk_cell h 0).trans rfl
theorem cellS45_1 {W : World} {g : Nat} {A0 : Option Addr} {c0 : Nat} {f0 : List (S49)} {f1 : Int} {f2 : Int} {f3 : Int} {f4 : Bool} {f5 : Bool} (h : W.heap[g]? = some (.cells #[.slice A0 f0.length c0, .int .i64 f1, .int .i64 f2, .int .i64 f3, .bool f4, .bool f5] 45 (0, 0))) : W.cell? ⟨g, 1, none⟩ = some (.int .i64 f1) := (blk_cell h 1).trans rfl
theorem IsS45.set_1 {w0 W : World} {g : Nat} {f0 : List (S49)} {f1 : Int} {f2 : Int} {f3 : Int} {f4 : Bool} {f5 : Bool} (h : IsS45 w0 W g f0 f1 f2 f3 f4 f5) (x : Int) : IsS45 w0 (W.setCell ⟨g, 1, none⟩ (.int .i64 x)) g f0 x f2 f3 f4 f5 := by
 obtain ⟨A0, c0, hb, hg, hr0⟩ := h
 exact ⟨A0, c0, by simpa using blk_set hb 1 (.int .i64 x), hg, hr0⟩
theorem cellS45_2 {W : World} {g : Nat} {A0 : Option Addr} {c0 : Nat} {f0 : List (S49)} {f1 : Int} {f2 : Int} {f3 : Int} {f4 : Bool} {f5 : Bool} (h : W.heap[g]? = some (.cells #[.slice A0 f0.length c0, .int .i64 f1, .int .i64 f2, .int .i64 f3, .bool f4, .bool f5] 45 (0, 0))) : W.cell? ⟨g, 2, none⟩ = some (.int .i64 f2) := (blk_cell h 2).trans rfl
theorem IsS45.set_2 {w0 W : World} {g : Nat} {f0 : List (S49)} {f1 : Int} {f2 : Int} {f3 : Int} {f4 : Bool} {f5 : Bool} (h : IsS45 w0 W g f0 f1 f2 f3 f4 f5) (x : Int) : IsS45 w0 (W.setCell ⟨g, 2, none⟩ (.int .i64 x)) g f0 f1 x f3 f4 f5 := by
 obtain ⟨A0, c0, hb, hg, hr0⟩ := h
 exact ⟨A0, c0, by simpa using blk_set hb 2 (.int .i64 x), hg, hr0⟩
theorem cellS45_3 {W : World} {g : Nat} {A0 : Option Addr} {c0 : Nat} {f0 : List (S49)} {f1 : Int} {f2 : Int} {f3 : Int} {f4 : Bool} {f5 : Bool} (h : W.heap[g]? = some (.cells #[.slice A0 f0.length c0, .int .i64 f1, .int .i64 f2, .int .i64 f3, .bool f4, .bool f5] 45 (0, 0))) : W.cell? ⟨g, 3, none⟩ = some (.int .i64 f3) := (blk_cell h 3).trans rfl
theorem IsS45.set_3 {w0 W : World} {g : Nat} {f0 : List (S49)} {f1 : Int} {f2 : Int} {f3 : Int} {f4 : Bool} {f5 : Bool} (h : IsS45 w0 W g f0 f1 f2 f3 f4 f5) (x : Int) : IsS45 w0 (W.setCell ⟨g, 3, none⟩ (.int .i64 x)) g f0 f1 f2 x f4 f5 := by
 obtain ⟨A0, c0, hb, hg, hr0⟩ := h
 exact ⟨A0, c0, by simpa using blk_set hb 3 (.int .i64 x), hg, hr0⟩
theorem cellS45_4 {W : World} {g : Nat} {A0 : Option Addr} {c0 : Nat} {f0 : List (S49)} {f1 : Int} {f2 : Int} {f3 : Int} {f4 : Bool} {f5 : Bool} (h : W.heap[g]? = some (.cells #[.slice A0 f0.length c0, .int .i64 f1, .int .i64 f2, .int .i64 f3, .bool f4, .bool f5] 45 (0, 0))) : W.cell? ⟨g, 4, none⟩ = some (.bool f4) := (blk_cell h 4).trans rfl
theorem IsS45.set_4 {w0 W : World} {g : Nat} {f0 : List (S49)} {f1 : Int} {f2 : Int} {f3 : Int} {f4 : Bool} {f5 : Bool} (h : IsS45 w0 W g f0 f1 f2 f3 f4 f5) (x : Bool) : IsS45 w0 (W.setCell ⟨g, 4, none⟩ (.bool x)) g f0 f1 f2 f3 x f5 := by
 obtain ⟨A0, c0, hb, hg, hr0⟩ := h
 exact ⟨A0, c0, by simpa using blk_set hb 4 (.bool x), hg, hr0⟩
theorem cellS45_5 {W : World} {g : Nat} {A0 : Option Addr} {c0 : Nat} {f0 : List (S49)} {f1 : Int} {f2 : Int} {f3 : Int} {f4 : Bool} {f5 : Bool} (h : W.heap[g]? = some (.cells #[.slice A0 f0.length c0, .int .i64 f1, .int .i64 f2, .int .i64 f3, .bool f4, .bool f5] 45 (0, 0))) : W.cell? ⟨g, 5, none⟩ = some (.bool f5) := (blk_cell h 5).trans rfl
theorem IsS45.set_5 {w0 W : World} {g : Nat} {f0 : List (S49)} {f1 : Int} {f2 : Int} {f3 : Int} {f4 : Bool} {f5 : Bool} (h : IsS45 w0 W g f0 f1 f2 f3 f4 f5) (x : Bool) : IsS45 w0 (W.setCell ⟨g, 5, none⟩ (.bool x)) g f0 f1 f2 f3 f4 x := by
 obtain ⟨A0, c0, hb, hg, hr0⟩ := h
 exact ⟨A0, c0, by simpa using blk_set hb 5 (.bool x), hg, hr0⟩
theorem IsS45.new (w0 W : World) (A0 : Option Addr) (c0 : Nat) (f0 : List (S49)) (f1 : Int) (f2 : Int) (f3 : Int) (f4 : Bool) (f5 : Bool) (hB : Below w0.heap.size w0 W) (hr0 : Kd.C k49 w0 A0 f0.length f0) : IsS45 w0 (W.alloc (.cells #[.slice A0 f0.length c0, .int .i64 f1, .int .i64 f2, .int .i64 f3, .bool f4, .bool f5] 45)) W.heap.size f0 f1 f2 f3 f4 f5 := ⟨A0, c0, by simpa using heap_alloc_new W _, hB.size, hr0⟩
def spec_parser_fail.f (s0_0 : List (S49)) (s0_1 : Int) (s0_2 : Int) (s0_3 : Int) (s0_4 : Bool) (s0_5 : Bool) : Option ((List (S51)) × Int × Int × Int × Bool × Bool) := if s0_4 = true then (some (([] : List (S51)), s0_1, s0_2, s0_3, s0_4, s0_5)) else (some (([] : List (S51)), s0_1, s0_2, s0_1, true, s0_5))
theorem spec_parser_fail.calls (g : Nat) (s0_0 : List (S49)) (s0_1 : Int) (s0_2 : Int) (s0_3 : Int) (s0_4 : Bool) (s0_5 : Bool) (r1 : List (S51)) (r2 : Int) (r3 : Int) (r4 : Int) (r5 : Bool) (r6 : Bool) (w0 w : World) (hI : IsS45 w0 w g s0_0 s0_1 s0_2 s0_3 s0_4 s0_5) (hB : Below w0.heap.size w0 w) (h : spec_parser_fail.f s0_0 s0_1 s0_2 s0_3 s0_4 s0_5 = some (r1, r2, r3, r4, r5, r6)) :
  Calls Tryz.prog 55 #[.pointer (some ⟨g, 0, none⟩)] w fun e w' => ∃ v0_ : Value, e = .returned (v0_) ∧ Kd.R k51 51 w' w.heap.size (fun _ => True) v0_ r1 ∧ IsS45 w0 w' g s0_0 r2 r3 r4 r5 r6 ∧ Below w0.heap.size w0 w' ∧ KeepBut w w' g none := by
 have HI0 := aK hI
 have HK := aK (KeepBut.refl w g none)
 have HL := aK hB.size
 clear hI
 have HW0 := aK hB.size
 have HB := aK hB
 clear hB
 have H : (if s0_4 = true then (some (([] : List (S51)), s0_1, s0_2, s0_3, s0_4, s0_5)) else (some (([] : List (S51)), s0_1, s0_2, s0_1, true, s0_5))) = some (r1, r2, r3, r4, r5, r6) := h
 clear h
 by_cases c2 : s0_4 = true
 ·subst c2
  have H1 : (some (([] : List (S51)), s0_1, s0_2, s0_3, true, s0_5)) = some (r1, r2, r3, r4, r5, r6) := by rw [if_pos rfl] at H; exact H
  clear H
  have H := H1
  clear H1
  simp only [Option.some.injEq, Prod.mk.injEq] at H
  obtain ⟨rfl, rfl, rfl, rfl, rfl, rfl⟩ := H
  obtain ⟨ASz3_0, cSz3_0, HGz3, hgz3, HSz3_0⟩ := HI0.out
  have hcz3_0 := cellS45_0 HGz3
  have hcz3_1 := cellS45_1 HGz3
  have hcz3_2 := cellS45_2 HGz3
  have hcz3_3 := cellS45_3 HGz3
  have hcz3_4 := cellS45_4 HGz3
  have hcz3_5 := cellS45_5 HGz3
  have hfz3_1 := blk_frozen HGz3 1
  have hfz3_2 := blk_frozen HGz3 2
  have hfz3_3 := blk_frozen HGz3 3
  have hfz3_4 := blk_frozen HGz3 4
  have hfz3_5 := blk_frozen HGz3 5
  clear HGz3 hgz3
  go_enter Tryz.func55, Tryz.ntmps55
  go_wp2
  go_ret
  exact ⟨_, vE, by first | exact Kd.R_nil _ _ _ _ _ | exact Kd.N_nil _ _ _ _ _ | exact Kd.V_nil _ _ _ _ _ | exact Kd.Q_nil _ _ _ _ _ | exact Kd.S_nil _ _ _ _ _, vI, vJ, vK⟩
 ·replace c2 := Bool.eq_false_iff.mpr c2
  subst c2
  have H1 : (some (([] : List (S51)), s0_1, s0_2, s0_1, true, s0_5)) = some (r1, r2, r3, r4, r5, r6) := by rw [if_neg (show ¬ (false = true) by decide)] at H; exact H
  clear H
  have H := H1
  clear H1
  simp only [Option.some.injEq, Prod.mk.injEq] at H
  obtain ⟨rfl, rfl, rfl, rfl, rfl, rfl⟩ := H
  obtain ⟨ASz4_0, cSz4_0, HGz4, hgz4, HSz4_0⟩ := HI0.out
  have hcz4_0 := cellS45_0 HGz4
  have hcz4_1 := cellS45_1 HGz4
  have hcz4_2 := cellS45_2 HGz4
  have hcz4_3 := cellS45_3 HGz4
  have hcz4_4 := cellS45_4 HGz4
  have hcz4_5 := cellS45_5 HGz4
  have hfz4_1 := blk_frozen HGz4 1
  have hfz4_2 := blk_frozen HGz4 2
  have hfz4_3 := blk_frozen HGz4 3
  have hfz4_4 := blk_frozen HGz4 4
  have hfz4_5 := blk_frozen HGz4 5
  clear HGz4 hgz4
  go_enter Tryz.func55, Tryz.ntmps55
  go_wp2
  go_ret
  exact ⟨_, vE, by first | exact Kd.R_nil _ _ _ _ _ | exact Kd.N_nil _ _ _ _ _ | exact Kd.V_nil _ _ _ _ _ | exact Kd.Q_nil _ _ _ _ _ | exact Kd.S_nil _ _ _ _ _, vI, vJ, vK⟩
def spec_parser_enter.f (s0_0 : List (S49)) (s0_1 : Int) (s0_2 : Int) (s0_3 : Int) (s0_4 : Bool) (s0_5 : Bool) : Option (Bool × Int × Int × Int × Bool × Bool) := if (wrap64 (s0_2 + 1)) > 60 then ((spec_parser_fail.f s0_0 s0_1 (wrap64 (s0_2 + 1)) s0_3 s0_4 true).bind fun bt241 => (some (!bt241.2.2.2.2.1, bt241.2.1, bt241.2.2.1, bt241.2.2.2.1, bt241.2.2.2.2.1, bt241.2.2.2.2.2))) else (some (!s0_4, s0_1, wrap64 (s0_2 + 1), s0_3, s0_4, s0_5))
theorem spec_parser_enter.calls (g : Nat) (s0_0 : List (S49)) (s0_1 : Int) (s0_2 : Int) (s0_3 : Int) (s0_4 : Bool) (s0_5 : Bool) (r1 : Bool) (r2 : Int) (r3 : Int) (r4 : Int) (r5 : Bool) (r6 : Bool) (w0 w : World) (hI : IsS45 w0 w g s0_0 s0_1 s0_2 s0_3 s0_4 s0_5) (hB : Below w0.heap.size w0 w) (h : spec_parser_enter.f s0_0 s0_1 s0_2 s0_3 s0_4 s0_5 = some (r1, r2, r3, r4, r5, r6)) :
  Calls Tryz.prog 27 #[.pointer (some ⟨g, 0, none⟩)] w fun e w' => e = .returned (.bool r1) ∧ IsS45 w0 w' g s0_0 r2 r3 r4 r5 r6 ∧ Below w0.heap.size w0 w' ∧ KeepBut w w' g none := by
 have HI0 := aK hI
 have HK := aK (KeepBut.refl w g none)
 have HL := aK hB.size
 clear hI
 have HW0 := aK hB.size
 have HB := aK hB
 clear hB
 have H : (if (wrap64 (s0_2 + 1)) > 60 then ((spec_parser_fail.f s0_0 s0_1 (wrap64 (s0_2 + 1)) s0_3 s0_4 true).bind fun bt241 => (some (!bt241.2.2.2.2.1, bt241.2.1, bt241.2.2.1, bt241.2.2.2.1, bt241.2.2.2.2.1, bt241.2.2.2.2.2))) else (some (!s0_4, s0_1, wrap64 (s0_2 + 1), s0_3, s0_4, s0_5))) = some (r1, r2, r3, r4, r5, r6) := h
 clear h
 by_cases c2 : (wrap64 (s0_2 + 1)) > 60
 ·rw [if_pos c2] at H
  have c2b0 : decide (60 < (wrap64 (s0_2 + 1))) = true := decide_eq_true c2
  clear c2
  replace H := Option.bind_eq_some_iff.mp H
  obtain ⟨⟨t241, t244, t245, t246, t247, t248⟩, A30, H⟩ := H
  replace H : (some (!t247, t244, t245, t246, t247, t248)) = some (r1, r2, r3, r4, r5, r6) := H
  have A3 := aK A30
  clear A30
  simp only [Option.some.injEq, Prod.mk.injEq] at H
  obtain ⟨rfl, rfl, rfl, rfl, rfl, rfl⟩ := H
  obtain ⟨ASz4_0, cSz4_0, HGz4, hgz4, HSz4_0⟩ := HI0.out
  have hcz4_0 := cellS45_0 HGz4
  have hcz4_1 := cellS45_1 HGz4
  have hcz4_2 := cellS45_2 HGz4
  have hcz4_3 := cellS45_3 HGz4
  have hcz4_4 := cellS45_4 HGz4
  have hcz4_5 := cellS45_5 HGz4
  have hfz4_1 := blk_frozen HGz4 1
  have hfz4_2 := blk_frozen HGz4 2
  have hfz4_3 := blk_frozen HGz4 3
  have hfz4_4 := blk_frozen HGz4 4
  have hfz4_5 := blk_frozen HGz4 5
  clear HGz4 hgz4
  go_enter Tryz.func27, Tryz.ntmps27
  go_wp2_with (first | ((with_reducible refine gate_callee (f := 55) rfl ?_); refine goesL_ (some 19) rfl rfl Tryz.func55 (by kernel_rfl) rfl #[.pointer (some ⟨g, 0, none⟩)] rfl (by (try simp only [List.map_toArray, List.map_cons, List.map_nil]); first | done | rfl | (simp only [List.length_drop, List.length_take]; rfl)) ?_; (with_reducible refine (spec_parser_fail.calls g s0_0 s0_1 (wrap64 (s0_2 + 1)) s0_3 s0_4 true t241 t244 t245 t246 t247 t248 w0 _ ?side1 ?side2 A3.out).mono ?_); (case side1 => exact vI); (case side2 => exact vJ); rintro e w5 ⟨v242, rfl, ho0, hi, hb, hk⟩; refine ⟨_, rfl, ?_⟩; have n0_ := aK (Kd.R_lower ho0 (keep_size (w := w) (g := g) (row := none) vK)); have n1_ := aK (KeepBut.trans vK hk (.inl rfl)); have n2_ := aK (hb); have n3_ := aK (hi); clear HK; clear HB; clear HI0; have HO243 := n0_; have HK := n1_; have HB := n2_; have HI0 := n3_; clear n0_ n1_ n2_ n3_; (try clear hb); (try clear hb2); (try clear hk); (try clear hi); (try clear ho0); obtain ⟨ASz6_0, cSz6_0, HGz6, hgz6, HSz6_0⟩ := HI0.out; have hcz6_0 := cellS45_0 HGz6; have hcz6_1 := cellS45_1 HGz6; have hcz6_2 := cellS45_2 HGz6; have hcz6_3 := cellS45_3 HGz6; have hcz6_4 := cellS45_4 HGz6; have hcz6_5 := cellS45_5 HGz6; have hfz6_1 := blk_frozen HGz6 1; have hfz6_2 := blk_frozen HGz6 2; have hfz6_3 := blk_frozen HGz6 3; have hfz6_4 := blk_frozen HGz6 4; have hfz6_5 := blk_frozen HGz6 5; clear HGz6 hgz6))
  go_ret
  exact ⟨vE, vI, vJ, vK⟩
 ·rw [if_neg c2] at H
  have c2b0 : decide (60 < (wrap64 (s0_2 + 1))) = false := decide_eq_false c2
  clear c2
  simp only [Option.some.injEq, Prod.mk.injEq] at H
  obtain ⟨rfl, rfl, rfl, rfl, rfl, rfl⟩ := H
  obtain ⟨ASz7_0, cSz7_0, HGz7, hgz7, HSz7_0⟩ := HI0.out
  have hcz7_0 := cellS45_0 HGz7
  have hcz7_1 := cellS45_1 HGz7
  have hcz7_2 := cellS45_2 HGz7
  have hcz7_3 := cellS45_3 HGz7
  have hcz7_4 := cellS45_4 HGz7
  have hcz7_5 := cellS45_5 HGz7
  have hfz7_1 := blk_frozen HGz7 1
  have hfz7_2 := blk_frozen HGz7 2
  have hfz7_3 := blk_frozen HGz7 3
  have hfz7_4 := blk_frozen HGz7 4
  have hfz7_5 := blk_frozen HGz7 5
  clear HGz7 hgz7
  go_enter Tryz.func27, Tryz.ntmps27
  go_wp2
  go_ret
  exact ⟨vE, vI, vJ, vK⟩
def spec_parser_kind.f (s0_0 : List (S49)) (s0_1 : Int) (s0_2 : Int) (s0_3 : Int) (s0_4 : Bool) (s0_5 : Bool) (a1 : Int) : Option (Int × Int × Int × Int × Bool × Bool) := if (wrap64 (s0_1 + a1)) ≥ (s0_0.length : Int) then (some (1, s0_1, s0_2, s0_3, s0_4, s0_5)) else (if 0 ≤ (wrap64 (s0_1 + a1)) then (if (wrap64 (s0_1 + a1)) < (s0_0.length : Int) then (some ((rd_T49 s0_0 (wrap64 (s0_1 + a1))).f0, s0_1, s0_2, s0_3, s0_4, s0_5)) else (none)) else (none))
theorem spec_parser_kind.calls (g : Nat) (s0_0 : List (S49)) (s0_1 : Int) (s0_2 : Int) (s0_3 : Int) (s0_4 : Bool) (s0_5 : Bool) (a1 : Int) (r1 : Int) (r2 : Int) (r3 : Int) (r4 : Int) (r5 : Bool) (r6 : Bool) (w0 w : World) (hI : IsS45 w0 w g s0_0 s0_1 s0_2 s0_3 s0_4 s0_5) (hB : Below w0.heap.size w0 w) (h : spec_parser_kind.f s0_0 s0_1 s0_2 s0_3 s0_4 s0_5 a1 = some (r1, r2, r3, r4, r5, r6)) :
  Calls Tryz.prog 28 #[.pointer (some ⟨g, 0, none⟩), .int .i64 a1] w fun e w' => e = .returned (.int .i64 r1) ∧ IsS45 w0 w' g s0_0 r2 r3 r4 r5 r6 ∧ Below w0.heap.size w0 w' ∧ KeepBut w w' g none := by
 have HI0 := aK hI
 have HK := aK (KeepBut.refl w g none)
 have HL := aK hB.size
 clear hI
 have HW0 := aK hB.size
 have HB := aK hB
 clear hB
 have H : (if (wrap64 (s0_1 + a1)) ≥ (s0_0.length : Int) then (some (1, s0_1, s0_2, s0_3, s0_4, s0_5)) else (if 0 ≤ (wrap64 (s0_1 + a1)) then (if (wrap64 (s0_1 + a1)) < (s0_0.length : Int) then (some ((rd_T49 s0_0 (wrap64 (s0_1 + a1))).f0, s0_1, s0_2, s0_3, s0_4, s0_5)) else (none)) else (none))) = some (r1, r2, r3, r4, r5, r6) := h
 clear h
 by_cases c3 : (wrap64 (s0_1 + a1)) ≥ (s0_0.length : Int)
 ·rw [if_pos c3] at H
  have c3b0 : decide ((s0_0.length : Int) ≤ (wrap64 (s0_1 + a1))) = true := decide_eq_true c3
  clear c3
  simp only [Option.some.injEq, Prod.mk.injEq] at H
  obtain ⟨rfl, rfl, rfl, rfl, rfl, rfl⟩ := H
  obtain ⟨ASz4_0, cSz4_0, HGz4, hgz4, HSz4_0⟩ := HI0.out
  have hcz4_0 := cellS45_0 HGz4
  have hcz4_1 := cellS45_1 HGz4
  have hcz4_2 := cellS45_2 HGz4
  have hcz4_3 := cellS45_3 HGz4
  have hcz4_4 := cellS45_4 HGz4
  have hcz4_5 := cellS45_5 HGz4
  have hfz4_1 := blk_frozen HGz4 1
  have hfz4_2 := blk_frozen HGz4 2
  have hfz4_3 := blk_frozen HGz4 3
  have hfz4_4 := blk_frozen HGz4 4
  have hfz4_5 := blk_frozen HGz4 5
  clear HGz4 hgz4
  go_enter Tryz.func28, Tryz.ntmps28
  go_wp2
  repeat (go_quiet (fail); try go_wp2)
  go_ret
  exact ⟨vE, vI, vJ, vK⟩
 ·rw [if_neg c3] at H
  have c3b0 : decide ((s0_0.length : Int) ≤ (wrap64 (s0_1 + a1))) = false := decide_eq_false c3
  clear c3
  obtain ⟨ji5, hji5⟩ : ∃ j_ : Int, (wrap64 (s0_1 + a1)) = j_ := ⟨_, rfl⟩
  replace H : (if 0 ≤ (ji5) then (if (ji5) < (s0_0.length : Int) then (some ((rd_T49 s0_0 (ji5)).f0, s0_1, s0_2, s0_3, s0_4, s0_5)) else (none)) else (none)) = some (r1, r2, r3, r4, r5, r6) := by first | (rw [hji5] at H; exact H) | (simp only [hji5] at H ⊢; exact H)
  (try rw [hji5] at c3b0)
  have hji5w : (IntKind.i64.wrap (s0_1 + a1)) = ji5 := (i64_w _).trans hji5
  by_cases c6 : 0 ≤ (ji5)
  ·rw [if_pos c6] at H
   have c6b0 : decide (0 ≤ (ji5)) = true := decide_eq_true c6
   clear c6
   by_cases c7 : (ji5) < (s0_0.length : Int)
   ·rw [if_pos c7] at H
    have c7b0 : decide ((ji5) < (s0_0.length : Int)) = true := decide_eq_true c7
    clear c7
    simp only [Option.some.injEq, Prod.mk.injEq] at H
    obtain ⟨rfl, rfl, rfl, rfl, rfl, rfl⟩ := H
    obtain ⟨ASz8_0, cSz8_0, HGz8, hgz8, HSz8_0⟩ := HI0.out
    have hcz8_0 := cellS45_0 HGz8
    have hcz8_1 := cellS45_1 HGz8
    have hcz8_2 := cellS45_2 HGz8
    have hcz8_3 := cellS45_3 HGz8
    have hcz8_4 := cellS45_4 HGz8
    have hcz8_5 := cellS45_5 HGz8
    have hfz8_1 := blk_frozen HGz8 1
    have hfz8_2 := blk_frozen HGz8 2
    have hfz8_3 := blk_frozen HGz8 3
    have hfz8_4 := blk_frozen HGz8 4
    have hfz8_5 := blk_frozen HGz8 5
    clear HGz8 hgz8
    have p249 : 0 ≤ ((ji5) : Int) := of_decide_eq_true vA
    have q249 : (ji5) < (s0_0.length : Int) := of_decide_eq_true vA
    obtain ⟨ad249, e249, hx249_0, hx249_1, hx249_2, hx249_3⟩ := at_T49 HSz8_0 (ji5) p249 q249
    cases e249
    replace hx249_0 := pw_cell_below HB.out hx249_0
    replace hx249_1 := pw_cell_below HB.out hx249_1
    replace hx249_2 := pw_cell_below HB.out hx249_2
    replace hx249_3 := pw_cell_below HB.out hx249_3
    replace p249 := eq_true p249
    replace q249 := eq_true q249
    go_enter Tryz.func28, Tryz.ntmps28
    go_wp2
    repeat (go_quiet (fail); try go_wp2)
    go_ret
    exact ⟨by first | rfl | (simp [errW_none, errW_some] <;> rfl) | (simp only [← hji5]; first | rfl | (simp [errW_none, errW_some] <;> rfl)) | (simp [*, errW_none, errW_some] <;> rfl), vI, vJ, vK⟩
   ·rw [if_neg c7] at H
    exact absurd H (by simp)
  ·rw [if_neg c6] at H
   exact absurd H (by simp)
def spec_parser_taken.f (s0_0 : List (S49)) (s0_1 : Int) (s0_2 : Int) (s0_3 : Int) (s0_4 : Bool) (s0_5 : Bool) (a1 : Int) : Option (Bool × Int × Int × Int × Bool × Bool) := if s0_4 = true then (some (false, s0_1, s0_2, s0_3, s0_4, s0_5)) else ((spec_parser_kind.f s0_0 s0_1 s0_2 s0_3 s0_4 s0_5 0).bind fun bt250 => (if bt250.1 = a1 then (some (true, wrap64 (bt250.2.1 + 1), bt250.2.2.1, bt250.2.2.2.1, bt250.2.2.2.2.1, bt250.2.2.2.2.2)) else (some (false, bt250.2.1, bt250.2.2.1, bt250.2.2.2.1, bt250.2.2.2.2.1, bt250.2.2.2.2.2))))
theorem spec_parser_taken.calls (g : Nat) (s0_0 : List (S49)) (s0_1 : Int) (s0_2 : Int) (s0_3 : Int) (s0_4 : Bool) (s0_5 : Bool) (a1 : Int) (r1 : Bool) (r2 : Int) (r3 : Int) (r4 : Int) (r5 : Bool) (r6 : Bool) (w0 w : World) (hI : IsS45 w0 w g s0_0 s0_1 s0_2 s0_3 s0_4 s0_5) (hB : Below w0.heap.size w0 w) (h : spec_parser_taken.f s0_0 s0_1 s0_2 s0_3 s0_4 s0_5 a1 = some (r1, r2, r3, r4, r5, r6)) :
  Calls Tryz.prog 29 #[.pointer (some ⟨g, 0, none⟩), .int .i64 a1] w fun e w' => e = .returned (.bool r1) ∧ IsS45 w0 w' g s0_0 r2 r3 r4 r5 r6 ∧ Below w0.heap.size w0 w' ∧ KeepBut w w' g none := by
 have HI0 := aK hI
 have HK := aK (KeepBut.refl w g none)
 have HL := aK hB.size
 clear hI
 have HW0 := aK hB.size
 have HB := aK hB
 clear hB
 have H : (if s0_4 = true then (some (false, s0_1, s0_2, s0_3, s0_4, s0_5)) else ((spec_parser_kind.f s0_0 s0_1 s0_2 s0_3 s0_4 s0_5 0).bind fun bt250 => (if bt250.1 = a1 then (some (true, wrap64 (bt250.2.1 + 1), bt250.2.2.1, bt250.2.2.2.1, bt250.2.2.2.2.1, bt250.2.2.2.2.2)) else (some (false, bt250.2.1, bt250.2.2.1, bt250.2.2.2.1, bt250.2.2.2.2.1, bt250.2.2.2.2.2))))) = some (r1, r2, r3, r4, r5, r6) := h
 clear h
 by_cases c3 : s0_4 = true
 ·subst c3
  have H1 : (some (false, s0_1, s0_2, s0_3, true, s0_5)) = some (r1, r2, r3, r4, r5, r6) := by rw [if_pos rfl] at H; exact H
  clear H
  have H := H1
  clear H1
  simp only [Option.some.injEq, Prod.mk.injEq] at H
  obtain ⟨rfl, rfl, rfl, rfl, rfl, rfl⟩ := H
  obtain ⟨ASz4_0, cSz4_0, HGz4, hgz4, HSz4_0⟩ := HI0.out
  have hcz4_0 := cellS45_0 HGz4
  have hcz4_1 := cellS45_1 HGz4
  have hcz4_2 := cellS45_2 HGz4
  have hcz4_3 := cellS45_3 HGz4
  have hcz4_4 := cellS45_4 HGz4
  have hcz4_5 := cellS45_5 HGz4
  have hfz4_1 := blk_frozen HGz4 1
  have hfz4_2 := blk_frozen HGz4 2
  have hfz4_3 := blk_frozen HGz4 3
  have hfz4_4 := blk_frozen HGz4 4
  have hfz4_5 := blk_frozen HGz4 5
  clear HGz4 hgz4
  go_enter Tryz.func29, Tryz.ntmps29
  go_wp2
  go_ret
  exact ⟨vE, vI, vJ, vK⟩
 ·replace c3 := Bool.eq_false_iff.mpr c3
  subst c3
  have H1 : ((spec_parser_kind.f s0_0 s0_1 s0_2 s0_3 false s0_5 0).bind fun bt250 => (if bt250.1 = a1 then (some (true, wrap64 (bt250.2.1 + 1), bt250.2.2.1, bt250.2.2.2.1, bt250.2.2.2.2.1, bt250.2.2.2.2.2)) else (some (false, bt250.2.1, bt250.2.2.1, bt250.2.2.2.1, bt250.2.2.2.2.1, bt250.2.2.2.2.2)))) = some (r1, r2, r3, r4, r5, r6) := by rw [if_neg (show ¬ (false = true) by decide)] at H; exact H
  clear H
  have H := H1
  clear H1
  replace H := Option.bind_eq_some_iff.mp H
  obtain ⟨⟨t250, t251, t252, t253, t254, t255⟩, A50, H⟩ := H
  replace H : (if t250 = a1 then (some (true, wrap64 (t251 + 1), t252, t253, t254, t255)) else (some (false, t251, t252, t253, t254, t255))) = some (r1, r2, r3, r4, r5, r6) := H
  have A5 := aK A50
  clear A50
  by_cases c6 : t250 = a1
  ·rw [if_pos c6] at H
   have c6b0 : (t250 == a1) = true := beq_iff_eq.mpr c6
   have c6b1 : (t250 != a1) = false := bne_eq_false_iff_eq.mpr c6
   clear c6
   simp only [Option.some.injEq, Prod.mk.injEq] at H
   obtain ⟨rfl, rfl, rfl, rfl, rfl, rfl⟩ := H
   obtain ⟨ASz7_0, cSz7_0, HGz7, hgz7, HSz7_0⟩ := HI0.out
   have hcz7_0 := cellS45_0 HGz7
   have hcz7_1 := cellS45_1 HGz7
   have hcz7_2 := cellS45_2 HGz7
   have hcz7_3 := cellS45_3 HGz7
   have hcz7_4 := cellS45_4 HGz7
   have hcz7_5 := cellS45_5 HGz7
   have hfz7_1 := blk_frozen HGz7 1
   have hfz7_2 := blk_frozen HGz7 2
   have hfz7_3 := blk_frozen HGz7 3
   have hfz7_4 := blk_frozen HGz7 4
   have hfz7_5 := blk_frozen HGz7 5
   clear HGz7 hgz7
   go_enter Tryz.func29, Tryz.ntmps29
   go_wp2_with (first | (go_at_call 28; (with_reducible refine (spec_parser_kind.calls g s0_0 s0_1 s0_2 s0_3 false s0_5 0 t250 t251 t252 t253 t254 t255 w0 _ ?side1 ?side2 A5.out).mono ?_); (case side1 => exact vI); (case side2 => exact vJ); rintro e w8 ⟨rfl, hi, hb, hk⟩; have n0_ := aK (KeepBut.trans vK hk (.inl rfl)); have n1_ := aK (hb); have n2_ := aK (hi); clear HK; clear HB; clear HI0; have HK := n0_; have HB := n1_; have HI0 := n2_; clear n0_ n1_ n2_; (try clear hb); (try clear hb2); (try clear hk); (try clear hi); obtain ⟨ASz9_0, cSz9_0, HGz9, hgz9, HSz9_0⟩ := HI0.out; have hcz9_0 := cellS45_0 HGz9; have hcz9_1 := cellS45_1 HGz9; have hcz9_2 := cellS45_2 HGz9; have hcz9_3 := cellS45_3 HGz9; have hcz9_4 := cellS45_4 HGz9; have hcz9_5 := cellS45_5 HGz9; have hfz9_1 := blk_frozen HGz9 1; have hfz9_2 := blk_frozen HGz9 2; have hfz9_3 := blk_frozen HGz9 3; have hfz9_4 := blk_frozen HGz9 4; have hfz9_5 := blk_frozen HGz9 5; clear HGz9 hgz9))
   go_ret
   exact ⟨vE, vI, vJ, vK⟩
  ·rw [if_neg c6] at H
   have c6b0 : (t250 == a1) = false := beq_eq_false_iff_ne.mpr c6
   have c6b1 : (t250 != a1) = true := bne_iff_ne.mpr c6
   simp only [Option.some.injEq, Prod.mk.injEq] at H
   obtain ⟨rfl, rfl, rfl, rfl, rfl, rfl⟩ := H
   obtain ⟨ASz10_0, cSz10_0, HGz10, hgz10, HSz10_0⟩ := HI0.out
   have hcz10_0 := cellS45_0 HGz10
   have hcz10_1 := cellS45_1 HGz10
   have hcz10_2 := cellS45_2 HGz10
   have hcz10_3 := cellS45_3 HGz10
   have hcz10_4 := cellS45_4 HGz10
   have hcz10_5 := cellS45_5 HGz10
   have hfz10_1 := blk_frozen HGz10 1
   have hfz10_2 := blk_frozen HGz10 2
   have hfz10_3 := blk_frozen HGz10 3
   have hfz10_4 := blk_frozen HGz10 4
   have hfz10_5 := blk_frozen HGz10 5
   clear HGz10 hgz10
   go_enter Tryz.func29, Tryz.ntmps29
   go_wp2_with (first | (go_at_call 28; (with_reducible refine (spec_parser_kind.calls g s0_0 s0_1 s0_2 s0_3 false s0_5 0 t250 t251 t252 t253 t254 t255 w0 _ ?side1 ?side2 A5.out).mono ?_); (case side1 => exact vI); (case side2 => exact vJ); rintro e w11 ⟨rfl, hi, hb, hk⟩; have n0_ := aK (KeepBut.trans vK hk (.inl rfl)); have n1_ := aK (hb); have n2_ := aK (hi); clear HK; clear HB; clear HI0; have HK := n0_; have HB := n1_; have HI0 := n2_; clear n0_ n1_ n2_; (try clear hb); (try clear hb2); (try clear hk); (try clear hi)))
   go_ret
   exact ⟨vE, vI, vJ, vK⟩
def spec_Made.l0 : Nat → List (List (S51)) → List (S51) → Int → Option ((List (S51)))
 | 0, _, _, _ => none
 | k + 1, x1, x5, x6 => if x6 < (x1.length : Int) then (if 0 ≤ x6 then (if x5.length + (rd_L4 x1 x6).length < 1954687338268 then (spec_Made.l0 k x1 (x5 ++ (rd_L4 x1 x6)) (wrap64 (x6 + 1))) else (none)) else (none)) else (if 0 < (x5.length : Int) then (some (x5.set (0 : Int).toNat (⟨(rd_T51 x5 0).f0, (rd_T51 x5 0).f1, (rd_T51 x5 0).f2, (rd_T51 x5 0).f3, (rd_T51 x5 0).f4, (x5.length : Int)⟩ : S51))) else (none))
def spec_Made.f (k : Nat) (a0_0 : Int) (a0_1 : ByteArray) (a0_2 : ByteArray) (a0_3 : ByteArray) (a0_4 : Int) (a0_5 : Int) (l1 : List (List (S51))) : Option ((List (S51))) := spec_Made.l0 k l1 (([(⟨a0_0, a0_1, a0_2, a0_3, a0_4, a0_5⟩ : S51)] : List (S51))) 0
theorem spec_Made.calls (k : Nat) (a0_0 : Int) (a0_1 : ByteArray) (a0_2 : ByteArray) (a0_3 : ByteArray) (a0_4 : Int) (a0_5 : Int) (A1 : Option Addr) (c1 : Nat) (l1 : List (List (S51))) (r : List (S51)) (w : World) (hr1 : Kd.C (Kd.slice 51 k51) w A1 l1.length l1) (hc1 : l1.length ≤ c1) (h : spec_Made.f k a0_0 a0_1 a0_2 a0_3 a0_4 a0_5 l1 = some r) :
  Calls Tryz.prog 30 #[.agg #[.int .i64 a0_0, .string a0_1, .string a0_2, .string a0_3, .int .i64 a0_4, .int .i64 a0_5], .slice A1 l1.length c1] w fun e w' => ∃ v0_ : Value, e = .returned (v0_) ∧ Kd.R k51 51 w' w.heap.size (fun _ => True) v0_ r ∧ Below w.heap.size w w' := by
 have hu51 := Tryz.underlying51
 have HR1 := aK hr1
 have HC1 := aK hc1
 clear hr1 hc1
 have HB := aK (Below.refl w.heap.size w)
 have H : (spec_Made.l0 k l1 (([(⟨a0_0, a0_1, a0_2, a0_3, a0_4, a0_5⟩ : S51)] : List (S51))) 0) = some r := h
 clear h
 obtain ⟨y257, hy257⟩ : ∃ y_ : List (S51), y_ = (([(⟨a0_0, a0_1, a0_2, a0_3, a0_4, a0_5⟩ : S51)] : List (S51))) := ⟨_, rfl⟩
 replace H : (spec_Made.l0 k l1 y257 0) = some r := by first | (rw [hy257]; with_reducible exact H) | (have H2_ := (Option.bind_some _ _).symm.trans H; rw [hy257]; with_reducible exact H2_) | (have H2_ := (Option.bind_some _ _).symm.trans H; with_reducible exact H2_) | with_reducible exact H | (rw [hy257]; exact H) | exact H
 have Ny257 := aK hy257
 clear hy257
 have H' := aK H
 clear H
 go_enter Tryz.func30, Tryz.ntmps30
 go_wp2_with (first | ((with_reducible refine gate_dst (N := 2) rfl ?_); refine box_event ?hg (N := 2) ?hd (cs := #[.int .i64 a0_0, .string a0_1, .string a0_2, .string a0_3, .int .i64 a0_4, .int .i64 a0_5]) (t := 51) ?hr ?_; (case hd => rfl); (case hg => rfl); (case hr => first | (go_simp; done) | (go_simp; rfl)); intro gb256 hg w3 hbox hb; have n0_ := aK (below_step vB hb); have n1_ := aK (hbox); have n2_ := aK ((by rw [hg]; exact (below_size vB) : w.heap.size ≤ gb256)); have n3_ := aK ((by rw [hg]; exact (below_size vB) : w.heap.size ≤ gb256)); clear HB; have HB := n0_; have BK256 := n1_; have GW256 := n2_; have GE256 := n3_; clear n0_ n1_ n2_ n3_; clear hb hbox hg; have hcz4_0 : w3.cell? ⟨gb256, 0, none⟩ = some (.int .i64 a0_0) := (blk_cell BK256.out 0).trans rfl; have hcz4_1 : w3.cell? ⟨gb256, 1, none⟩ = some (.string a0_1) := (blk_cell BK256.out 1).trans rfl; have hcz4_2 : w3.cell? ⟨gb256, 2, none⟩ = some (.string a0_2) := (blk_cell BK256.out 2).trans rfl; have hcz4_3 : w3.cell? ⟨gb256, 3, none⟩ = some (.string a0_3) := (blk_cell BK256.out 3).trans rfl; have hcz4_4 : w3.cell? ⟨gb256, 4, none⟩ = some (.int .i64 a0_4) := (blk_cell BK256.out 4).trans rfl; have hcz4_5 : w3.cell? ⟨gb256, 5, none⟩ = some (.int .i64 a0_5) := (blk_cell BK256.out 5).trans rfl; have hfz4_0 := blk_frozen BK256.out 0; have hfz4_1 := blk_frozen BK256.out 1; have hfz4_2 := blk_frozen BK256.out 2; have hfz4_3 := blk_frozen BK256.out 3; have hfz4_4 := blk_frozen BK256.out 4; have hfz4_5 := blk_frozen BK256.out 5) | ((with_reducible refine gate_dst (N := 8) rfl ?_); refine Kd.R_lit k51 _ 51 ?hg (N := 8) ?hd (xs := ([(⟨a0_0, a0_1, a0_2, a0_3, a0_4, a0_5⟩ : S51)] : List (S51))) (inner := [.int .i64 a0_0, .string a0_1, .string a0_2, .string a0_3, .int .i64 a0_4, .int .i64 a0_5]) (ok := fun _ => True) (okp := fun _ => True) ?hr ?hp (fun _ hk => hk) trivial (Below.refl _ _) (Nat.le_refl _) (by simp) ?_; (case hd => rfl); (case hg => rfl); (case hr => first | (go_simp; done) | (go_simp; rfl)); (case hp => exact (Reps.c6 (show Kd.M k51 _ _ _ (⟨a0_0, a0_1, a0_2, a0_3, a0_4, a0_5⟩ : S51) [.int .i64 a0_0, .string a0_1, .string a0_2, .string a0_3, .int .i64 a0_4, .int .i64 a0_5] from (k51_mkM _ _ _ (⟨a0_0, a0_1, a0_2, a0_3, a0_4, a0_5⟩ : S51) )) (Reps.none _ _))); intro v258 w5 ho6 hb hg_ hnew_; clear hg_ hnew_; (first | rw [← Ny257.out] at ho6 | (simp only [Int.reduceToNat] at ho6; rw [← Ny257.out] at ho6)); have n0_ := aK (Kd.R_lower (Kd.R_newB ho6 (g := gb256) (o := .cells #[.int .i64 a0_0, .string a0_1, .string a0_2, .string a0_3, .int .i64 a0_4, .int .i64 a0_5] 51 (0, 0)) (by (with_reducible repeat (first | refine blk_drewN ?_ _ | refine blk_drew ?_ | refine blk_alloc ?_ _)); exact BK256.out)) (below_size (by repeat (first | (with_reducible first | exact HB.out | apply below_alloc | apply pw_below_drewN | apply below_drew1 | refine below_set ?_ GE256.out) | exact HB.out)))); have n1_ := aK (blk_below (g := gb256) (o := .cells #[.int .i64 a0_0, .string a0_1, .string a0_2, .string a0_3, .int .i64 a0_4, .int .i64 a0_5] 51 (0, 0)) (by (with_reducible repeat (first | refine blk_drewN ?_ _ | refine blk_drew ?_ | refine blk_alloc ?_ _)); exact BK256.out) hb); have n2_ := aK (below_step (by repeat (first | (with_reducible first | exact HB.out | apply below_alloc | apply pw_below_drewN | apply below_drew1 | refine below_set ?_ GE256.out) | exact HB.out)) hb); clear BK256; clear HB; have HO259 := n0_; have BK256 := n1_; have HB := n2_; clear n0_ n1_ n2_; clear hb ho6))
 go_loopg [5, 6] k (fun kq v5 v6 w' => ∃ (x5_1 : List (S51)) (x6_1 : Int), v6 = .int .i64 x6_1 ∧ Aside0 (spec_Made.l0 kq l1 x5_1 x6_1 = some r) ∧ Aside0 (kq ≤ k) ∧ Aside0 (Kd.R k51 51 w' w.heap.size (fun k_ => k_ ≠ gb256) v5 x5_1) ∧ Aside0 (w'.heap[gb256]? = some (.cells #[.int .i64 a0_0, .string a0_1, .string a0_2, .string a0_3, .int .i64 a0_4, .int .i64 a0_5] 51 (0, 0))) ∧ Aside0 (Below w.heap.size w w'))
 case atStart => exact ⟨(y257), (0), vR, H', ⟨Nat.le_refl _⟩, ⟨by (with_reducible repeat (first | apply Kd.R_alloc | apply Kd.R_drewN | apply Kd.R_drew)); exact Kd.R_mono HO259.out (fun _ hk => hk.2)⟩, ⟨by (with_reducible repeat (first | refine blk_drewN ?_ _ | refine blk_drew ?_ | refine blk_alloc ?_ _)); exact BK256.out⟩, ⟨by repeat (first | (with_reducible first | exact HB.out | apply below_alloc | apply pw_below_drewN | apply below_drew1 | refine below_set ?_ GE256.out) | exact HB.out)⟩⟩
 case round =>
  clear H'
  (try clear c1); (try clear p2); (try clear c3); (try clear c6); (try clear hcz4_0); (try clear hcz4_1); (try clear hcz4_2); (try clear hcz4_3); (try clear hcz4_4); (try clear hcz4_5); (try clear hfz4_0); (try clear hfz4_1); (try clear hfz4_2); (try clear hfz4_3); (try clear hfz4_4); (try clear hfz4_5)
  obtain ⟨x5_1, x6_1, rfl, HA, HK1, HO_5, BK256, HB⟩ := hrel
  cases gk with
  | zero => exact absurd HA.out (by simp [spec_Made.l0])
  | succ k1 =>
   have H := HA.out
   clear HA
   simp only [spec_Made.l0] at H
   by_cases c7 : x6_1 < (l1.length : Int)
   ·rw [if_pos c7] at H
    have c7b0 : decide (x6_1 < (l1.length : Int)) = true := decide_eq_true c7
    clear c7
    by_cases c8 : 0 ≤ x6_1
    ·rw [if_pos c8] at H
     have c8b0 : decide (0 ≤ x6_1) = true := decide_eq_true c8
     clear c8
     by_cases c9 : x5_1.length + (rd_L4 l1 x6_1).length < 1954687338268
     ·rw [if_pos c9] at H
      have LMc9 := aK c9
      clear c9
      obtain ⟨y261, hy261⟩ : ∃ y_ : List (S51), y_ = (x5_1 ++ (rd_L4 l1 x6_1)) := ⟨_, rfl⟩
      replace H : (spec_Made.l0 k1 l1 y261 (wrap64 (x6_1 + 1))) = some r := by first | (rw [hy261]; with_reducible exact H) | (have H2_ := (Option.bind_some _ _).symm.trans H; rw [hy261]; with_reducible exact H2_) | (have H2_ := (Option.bind_some _ _).symm.trans H; with_reducible exact H2_) | with_reducible exact H | (rw [hy261]; exact H) | exact H
      have Ny261 := aK hy261
      clear hy261
      have H' := aK H
      clear H
      have p260 : 0 ≤ (x6_1 : Int) := of_decide_eq_true vA
      have q260 : x6_1 < (l1.length : Int) := of_decide_eq_true vA
      obtain ⟨ad260, A260_0, c260_0, e260, hx260_0, hl260_0, hi260_0⟩ := at_L4 HR1.out x6_1 p260 q260
      cases e260
      replace hx260_0 := (HB.out.cell (World.block_lt_of_cell? w _ hx260_0)).trans hx260_0
      have HR260_0 := aK hi260_0
      have HC260_0 := aK hl260_0
      clear hi260_0 hl260_0
      replace p260 := eq_true p260
      replace q260 := eq_true q260
      go_wp2_with (first | ((with_reducible refine gate_builtin (b := .append) (xs := #[.tmp 15, .tmp 19]) rfl ?_); at_builtin; refine Kd.R_append_rows k51 (w0 := w) w.heap.size rfl (.tmp 15) (.tmp 19) 25 51 (.agg #[(.int .i64 0), (.string ⟨#[]⟩), (.string ⟨#[]⟩), (.string ⟨#[]⟩), (.int .i64 0), (.int .i64 0)]) 72 rfl Tryz.underlying25 info51 rfl (by decide) (by omega) u5 x5_1 (rd_L4 l1 x6_1) _ _ _ (fun k_ => k_ ≠ gb256) (fun _ => False) rfl rfl ?aO ?aR (fun _ _ h => h) (fun _ h => h.elim) ?aF ?aB ?aS ?aL ?_; (case aR => repeat (first | exact (Kd.C_below HR260_0.out HB.out) | (with_reducible refine Kd.C_alloc ?_ _) | (with_reducible refine Kd.C_drewN ?_ _) | (with_reducible refine Kd.C_drew ?_))); (case aB => exact (by repeat (first | (with_reducible first | exact HB.out | apply below_alloc | apply pw_below_drewN | apply below_drew1 | refine below_set ?_ GE256.out) | exact HB.out))); (case aF => exact (fun k_ hk => Kd.freshB (g := gb256) (o := .cells #[.int .i64 a0_0, .string a0_1, .string a0_2, .string a0_3, .int .i64 a0_4, .int .i64 a0_5] 51 (0, 0)) (by (with_reducible repeat (first | refine blk_drewN ?_ _ | refine blk_drew ?_ | refine blk_alloc ?_ _)); exact BK256.out) k_ hk)); (case aO => exact (by (with_reducible repeat (first | apply Kd.R_alloc | apply Kd.R_drewN | apply Kd.R_drew)); exact HO_5.out)); (case aS => exact (below_size (by repeat (first | (with_reducible first | exact HB.out | apply below_alloc | apply pw_below_drewN | apply below_drew1 | refine below_set ?_ GE256.out) | exact HB.out)))); (case aL => have := LMc9.out; omega); intro v262 w10 ho hb hg hat; rw [← Ny261.out] at ho; have n0_ := aK (blk_grown (g := gb256) (o := .cells #[.int .i64 a0_0, .string a0_1, .string a0_2, .string a0_3, .int .i64 a0_4, .int .i64 a0_5] 51 (0, 0)) (by (with_reducible repeat (first | refine blk_drewN ?_ _ | refine blk_drew ?_ | refine blk_alloc ?_ _)); exact BK256.out) hg (Kd.R_away HO_5.out (fun _ hk => hk))); have n1_ := aK (hb); have n2_ := aK (ho); clear BK256; clear HB; clear HO_5; have BK256 := n0_; have HB := n1_; have HO263 := n2_; clear n0_ n1_ n2_; clear ho hb hg hat))
      go_roundg k1
      case measure => have := HK1.out; omega
      case rel => exact ⟨(y261), (wrap64 (x6_1 + 1)), vR, H', ⟨by have := HK1.out; omega⟩, ⟨by (with_reducible repeat (first | apply Kd.R_alloc | apply Kd.R_drewN | apply Kd.R_drew)); exact HO263.out⟩, ⟨by (with_reducible repeat (first | refine blk_drewN ?_ _ | refine blk_drew ?_ | refine blk_alloc ?_ _)); exact BK256.out⟩, ⟨by repeat (first | (with_reducible first | exact HB.out | apply below_alloc | apply pw_below_drewN | apply below_drew1 | refine below_set ?_ GE256.out) | exact HB.out)⟩⟩
     ·rw [if_neg c9] at H
      exact absurd H (by simp)
    ·rw [if_neg c8] at H
     exact absurd H (by simp)
   ·rw [if_neg c7] at H
    have c7b0 : decide (x6_1 < (l1.length : Int)) = false := decide_eq_false c7
    clear c7
    by_cases c11 : 0 < (x5_1.length : Int)
    ·rw [if_pos c11] at H
     have c11b0 : decide (0 < (x5_1.length : Int)) = true := decide_eq_true c11
     have c11b1 : decide (0 < x5_1.length) = true := decide_eq_true (by omega)
     clear c11
     obtain ⟨y264, hy264⟩ : ∃ y_ : List (S51), y_ = (x5_1.set (0 : Int).toNat (⟨(rd_T51 x5_1 0).f0, (rd_T51 x5_1 0).f1, (rd_T51 x5_1 0).f2, (rd_T51 x5_1 0).f3, (rd_T51 x5_1 0).f4, (x5_1.length : Int)⟩ : S51)) := ⟨_, rfl⟩
     replace H : (some y264) = some r := by first | (rw [hy264]; with_reducible exact H) | (have H2_ := (Option.bind_some _ _).symm.trans H; rw [hy264]; with_reducible exact H2_) | (have H2_ := (Option.bind_some _ _).symm.trans H; with_reducible exact H2_) | with_reducible exact H | (rw [hy264]; exact H) | exact H
     have Ny264 := aK hy264
     clear hy264
     obtain rfl := Option.some.inj H
     obtain ⟨Ao13, co13, eo13⟩ := Kd.R_slice HO_5.out
     subst eo13
     have p12 : 0 ≤ (0 : Int) := (by omega)
     have q12 : (0 : Int) < ((x5_1.length : Int) : Int) := of_decide_eq_true vA
     have qi12 : (0 < x5_1.length) = True := eq_true (by omega)
     obtain ⟨go12, co12, eo12, gb12, gl12, cl12, HG12⟩ := Kd.R_form HO_5.out (by omega)
     (first | cases eo12 | (injection eo12 with ea_ en_ ec_; (first | subst ea_ | (injection ea_ with ea_; subst ea_)); subst ec_; clear en_))
     have GB12 := aK gb12
     have GG12 := aK HG12
     clear gb12 gl12 HG12
     obtain ⟨ce12, hcl12, hM12, hcc12, hfr12⟩ := Kd.R_elem HO_5.out z51 (0 : Int) p12 q12
     obtain rfl := k51_openM hM12
     have hx12_0 : wr.cell? ⟨go12, (0 : Int).toNat * 6, none⟩ = some (.int .i64 ((rd_T51 x5_1 0).f0)) := hcc12 0 _ rfl
     have hx12_1 : wr.cell? ⟨go12, (0 : Int).toNat * 6 + 1, none⟩ = some (.string ((rd_T51 x5_1 0).f1)) := hcc12 1 _ rfl
     have hx12_2 : wr.cell? ⟨go12, (0 : Int).toNat * 6 + 2, none⟩ = some (.string ((rd_T51 x5_1 0).f2)) := hcc12 2 _ rfl
     have hx12_3 : wr.cell? ⟨go12, (0 : Int).toNat * 6 + 3, none⟩ = some (.string ((rd_T51 x5_1 0).f3)) := hcc12 3 _ rfl
     have hx12_4 : wr.cell? ⟨go12, (0 : Int).toNat * 6 + 4, none⟩ = some (.int .i64 ((rd_T51 x5_1 0).f4)) := hcc12 4 _ rfl
     have hx12_5 : wr.cell? ⟨go12, (0 : Int).toNat * 6 + 5, none⟩ = some (.int .i64 ((rd_T51 x5_1 0).f5)) := hcc12 5 _ rfl
     have hf12_0 : wr.frozen? ⟨go12, (0 : Int).toNat * 6, none⟩ = false := hfr12 0
     have hf12_1 : wr.frozen? ⟨go12, (0 : Int).toNat * 6 + 1, none⟩ = false := hfr12 1
     have hf12_2 : wr.frozen? ⟨go12, (0 : Int).toNat * 6 + 2, none⟩ = false := hfr12 2
     have hf12_3 : wr.frozen? ⟨go12, (0 : Int).toNat * 6 + 3, none⟩ = false := hfr12 3
     have hf12_4 : wr.frozen? ⟨go12, (0 : Int).toNat * 6 + 4, none⟩ = false := hfr12 4
     have hf12_5 : wr.frozen? ⟨go12, (0 : Int).toNat * 6 + 5, none⟩ = false := hfr12 5
     clear hcl12 hcc12 hfr12 hM12
     (try rw [show ((0 : Int)).toNat = 0 from rfl] at hx12_0)
     (try simp only [Nat.reduceMul, Nat.zero_mul, Nat.zero_add, Nat.reduceAdd] at hx12_0)
     (try rw [show ((0 : Int)).toNat = 0 from rfl] at hf12_0)
     (try simp only [Nat.reduceMul, Nat.zero_mul, Nat.zero_add, Nat.reduceAdd] at hf12_0)
     (try rw [show ((0 : Int)).toNat = 0 from rfl] at hx12_1)
     (try simp only [Nat.reduceMul, Nat.zero_mul, Nat.zero_add, Nat.reduceAdd] at hx12_1)
     (try rw [show ((0 : Int)).toNat = 0 from rfl] at hf12_1)
     (try simp only [Nat.reduceMul, Nat.zero_mul, Nat.zero_add, Nat.reduceAdd] at hf12_1)
     (try rw [show ((0 : Int)).toNat = 0 from rfl] at hx12_2)
     (try simp only [Nat.reduceMul, Nat.zero_mul, Nat.zero_add, Nat.reduceAdd] at hx12_2)
     (try rw [show ((0 : Int)).toNat = 0 from rfl] at hf12_2)
     (try simp only [Nat.reduceMul, Nat.zero_mul, Nat.zero_add, Nat.reduceAdd] at hf12_2)
     (try rw [show ((0 : Int)).toNat = 0 from rfl] at hx12_3)
     (try simp only [Nat.reduceMul, Nat.zero_mul, Nat.zero_add, Nat.reduceAdd] at hx12_3)
     (try rw [show ((0 : Int)).toNat = 0 from rfl] at hf12_3)
     (try simp only [Nat.reduceMul, Nat.zero_mul, Nat.zero_add, Nat.reduceAdd] at hf12_3)
     (try rw [show ((0 : Int)).toNat = 0 from rfl] at hx12_4)
     (try simp only [Nat.reduceMul, Nat.zero_mul, Nat.zero_add, Nat.reduceAdd] at hx12_4)
     (try rw [show ((0 : Int)).toNat = 0 from rfl] at hf12_4)
     (try simp only [Nat.reduceMul, Nat.zero_mul, Nat.zero_add, Nat.reduceAdd] at hf12_4)
     (try rw [show ((0 : Int)).toNat = 0 from rfl] at hx12_5)
     (try simp only [Nat.reduceMul, Nat.zero_mul, Nat.zero_add, Nat.reduceAdd] at hx12_5)
     (try rw [show ((0 : Int)).toNat = 0 from rfl] at hf12_5)
     (try simp only [Nat.reduceMul, Nat.zero_mul, Nat.zero_add, Nat.reduceAdd] at hf12_5)
     replace p12 := eq_true p12
     replace q12 := eq_true q12
     have HX14 := aK (show Kd.R k51 51 wr w.heap.size (fun k_ => k_ ≠ gb256) (.slice (some ⟨go12, 0, none⟩) x5_1.length co13) x5_1 from (by (with_reducible repeat (first | apply Kd.R_alloc | apply Kd.R_drewN | apply Kd.R_drew)); exact HO_5.out))
     obtain ⟨ce14, hcl14, hM14, hcc14, hfr14⟩ := Kd.R_elem HX14.out z51 (0 : Int) (by omega) (by have h_ : (0 : Int) < ((x5_1.length : Int) : Int) := of_decide_eq_true vA; first | exact h_ | (have e_ := (Kd.R_reads' HO_5.out).1; omega) | simpa using h_)
     obtain rfl := k51_openM hM14
     have HP14 := Kd.R_seg HX14.out (0 : Int) (by omega) (by have h_ : (0 : Int) < ((x5_1.length : Int) : Int) := of_decide_eq_true vA; first | exact h_ | (have e_ := (Kd.R_reads' HO_5.out).1; omega) | simpa using h_) (seg := [.int .i64 (x5_1.length : Int)]) (j := 5) hcl14 hcc14 (show 6 ≤ 6 from by decide) (x' := (⟨(rd_T51 x5_1 0).f0, (rd_T51 x5_1 0).f1, (rd_T51 x5_1 0).f2, (rd_T51 x5_1 0).f3, (rd_T51 x5_1 0).f4, (x5_1.length : Int)⟩ : S51)) (k51_mkM _ _ _ (⟨(rd_T51 x5_1 0).f0, (rd_T51 x5_1 0).f1, (rd_T51 x5_1 0).f2, (rd_T51 x5_1 0).f3, (rd_T51 x5_1 0).f4, (x5_1.length : Int)⟩ : S51) ) (fun _ hk => hk)
     have hx14_5 := hcc14 5 _ rfl
     (try simp only [show (k51).sz = 6 from rfl, Nat.mul_one, Nat.add_zero] at hx14_5)
     (try rw [show ((0 : Int)).toNat = 0 from rfl] at hx14_5)
     (try simp only [Nat.reduceMul, Nat.zero_mul, Nat.zero_add, Nat.reduceAdd] at hx14_5)
     have hf14_5 := hfr14 5
     (try simp only [show (k51).sz = 6 from rfl, Nat.mul_one, Nat.add_zero] at hf14_5)
     (try rw [show ((0 : Int)).toNat = 0 from rfl] at hf14_5)
     (try simp only [Nat.reduceMul, Nat.zero_mul, Nat.zero_add, Nat.reduceAdd] at hf14_5)
     clear hcl14 hcc14 hfr14 hM14
     go_wp2_with (first | ((with_reducible refine gate_store (t := 3) (p := 25) rfl ?_); refine store_event (t := 3) (p := 25) (v := ?vo_w15) (w1 := (wr.setCell ⟨go12, 5, none⟩ (.int .i64 (x5_1.length : Int)))) ?hg ?ho ?hn ?hr ?_; (case ho => rfl); (case hg => rfl); (case hn => rfl); (case hr => first | (go_simp; done) | (go_simp; rfl)); intro w15 hw; have hg : wr.grownBy w15 (some go12) := (by rw [hw]; exact HP14.2); have hp_ : Kd.R k51 51 w15 w.heap.size (fun k_ => k_ ≠ gb256) (.slice (some ⟨go12, 0, none⟩) x5_1.length co13) y264 := (by rw [hw, Ny264.out]; exact HP14.1); clear HP14; have n0_ := aK (hp_); have n1_ := aK (blk_grown (g := gb256) (o := .cells #[.int .i64 a0_0, .string a0_1, .string a0_2, .string a0_3, .int .i64 a0_4, .int .i64 a0_5] 51 (0, 0)) (by (with_reducible repeat (first | refine blk_drewN ?_ _ | refine blk_drew ?_ | refine blk_alloc ?_ _)); exact BK256.out) hg (Kd.R_away HO_5.out (fun _ hk => hk))); have n2_ := aK ((by rw [hw]; exact below_set (HB.out) GB12.out : Below w.heap.size w w15)); clear HO_5; clear BK256; clear HB; have HO_5 := n0_; have BK256 := n1_; have HB := n2_; clear n0_ n1_ n2_; clear hg hw hp_))
     go_ret
     exact ⟨_, vE, by (with_reducible repeat (first | apply Kd.R_alloc | apply Kd.R_drewN | apply Kd.R_drew)); exact Kd.R_mono HO_5.out (fun _ hk => trivial), by repeat (first | (with_reducible first | exact HB.out | apply below_alloc | apply pw_below_drewN | apply below_drew1 | refine below_set ?_ GE256.out) | exact HB.out)⟩
    ·rw [if_neg c11] at H
     exact absurd H (by simp)
def spec_parser_must.f (s0_0 : List (S49)) (s0_1 : Int) (s0_2 : Int) (s0_3 : Int) (s0_4 : Bool) (s0_5 : Bool) (a1 : Int) : Option (Int × Int × Int × Bool × Bool) := (spec_parser_taken.f s0_0 s0_1 s0_2 s0_3 s0_4 s0_5 a1).bind fun bt265 => (if bt265.1 = true then (some (bt265.2.1, bt265.2.2.1, bt265.2.2.2.1, bt265.2.2.2.2.1, bt265.2.2.2.2.2)) else ((spec_parser_fail.f s0_0 bt265.2.1 bt265.2.2.1 bt265.2.2.2.1 bt265.2.2.2.2.1 bt265.2.2.2.2.2).bind fun bt271 => (some (bt271.2.1, bt271.2.2.1, bt271.2.2.2.1, bt271.2.2.2.2.1, bt271.2.2.2.2.2))))
theorem spec_parser_must.calls (g : Nat) (s0_0 : List (S49)) (s0_1 : Int) (s0_2 : Int) (s0_3 : Int) (s0_4 : Bool) (s0_5 : Bool) (a1 : Int) (r1 : Int) (r2 : Int) (r3 : Int) (r4 : Bool) (r5 : Bool) (w0 w : World) (hI : IsS45 w0 w g s0_0 s0_1 s0_2 s0_3 s0_4 s0_5) (hB : Below w0.heap.size w0 w) (h : spec_parser_must.f s0_0 s0_1 s0_2 s0_3 s0_4 s0_5 a1 = some (r1, r2, r3, r4, r5)) :
  Calls Tryz.prog 31 #[.pointer (some ⟨g, 0, none⟩), .int .i64 a1] w fun e w' => e = .returned (.tuple #[]) ∧ IsS45 w0 w' g s0_0 r1 r2 r3 r4 r5 ∧ Below w0.heap.size w0 w' ∧ KeepBut w w' g none := by
 have HI0 := aK hI
 have HK := aK (KeepBut.refl w g none)
 have HL := aK hB.size
 clear hI
 have HW0 := aK hB.size
 have HB := aK hB
 clear hB
 have H : ((spec_parser_taken.f s0_0 s0_1 s0_2 s0_3 s0_4 s0_5 a1).bind fun bt265 => (if bt265.1 = true then (some (bt265.2.1, bt265.2.2.1, bt265.2.2.2.1, bt265.2.2.2.2.1, bt265.2.2.2.2.2)) else ((spec_parser_fail.f s0_0 bt265.2.1 bt265.2.2.1 bt265.2.2.2.1 bt265.2.2.2.2.1 bt265.2.2.2.2.2).bind fun bt271 => (some (bt271.2.1, bt271.2.2.1, bt271.2.2.2.1, bt271.2.2.2.2.1, bt271.2.2.2.2.2))))) = some (r1, r2, r3, r4, r5) := h
 clear h
 replace H := Option.bind_eq_some_iff.mp H
 obtain ⟨⟨t265, t266, t267, t268, t269, t270⟩, A30, H⟩ := H
 replace H : (if t265 = true then (some (t266, t267, t268, t269, t270)) else ((spec_parser_fail.f s0_0 t266 t267 t268 t269 t270).bind fun bt271 => (some (bt271.2.1, bt271.2.2.1, bt271.2.2.2.1, bt271.2.2.2.2.1, bt271.2.2.2.2.2)))) = some (r1, r2, r3, r4, r5) := H
 have A3 := aK A30
 clear A30
 by_cases c4 : t265 = true
 ·subst c4
  have H1 : (some (t266, t267, t268, t269, t270)) = some (r1, r2, r3, r4, r5) := by rw [if_pos rfl] at H; exact H
  clear H
  have H := H1
  clear H1
  simp only [Option.some.injEq, Prod.mk.injEq] at H
  obtain ⟨rfl, rfl, rfl, rfl, rfl⟩ := H
  go_enter Tryz.func31, Tryz.ntmps31
  go_wp2_with (first | ((with_reducible refine gate_callee (f := 29) rfl ?_); refine goesL_ (some 6) rfl rfl Tryz.func29 (by kernel_rfl) rfl #[.pointer (some ⟨g, 0, none⟩), .int .i64 a1] rfl (by (try simp only [List.map_toArray, List.map_cons, List.map_nil]); first | done | rfl | (simp only [List.length_drop, List.length_take]; rfl)) ?_; (with_reducible refine (spec_parser_taken.calls g s0_0 s0_1 s0_2 s0_3 s0_4 s0_5 a1 true t266 t267 t268 t269 t270 w0 _ ?side1 ?side2 A3.out).mono ?_); (case side1 => exact vI); (case side2 => exact vJ); rintro e w5 ⟨rfl, hi, hb, hk⟩; refine ⟨_, rfl, ?_⟩; have n0_ := aK (KeepBut.trans vK hk (.inl rfl)); have n1_ := aK (hb); have n2_ := aK (hi); clear HK; clear HB; clear HI0; have HK := n0_; have HB := n1_; have HI0 := n2_; clear n0_ n1_ n2_; (try clear hb); (try clear hb2); (try clear hk); (try clear hi)))
  first | go_end0 | ((try simp only [Exit.inBlock, Exit.then]); refine bodyPost_ret (results_none rfl _ _ _) rfl ?_)
  exact ⟨vE, vI, vJ, vK⟩
 ·replace c4 := Bool.eq_false_iff.mpr c4
  subst c4
  have H1 : ((spec_parser_fail.f s0_0 t266 t267 t268 t269 t270).bind fun bt271 => (some (bt271.2.1, bt271.2.2.1, bt271.2.2.2.1, bt271.2.2.2.2.1, bt271.2.2.2.2.2))) = some (r1, r2, r3, r4, r5) := by rw [if_neg (show ¬ (false = true) by decide)] at H; exact H
  clear H
  have H := H1
  clear H1
  replace H := Option.bind_eq_some_iff.mp H
  obtain ⟨⟨t271, t274, t275, t276, t277, t278⟩, A60, H⟩ := H
  replace H : (some (t274, t275, t276, t277, t278)) = some (r1, r2, r3, r4, r5) := H
  have A6 := aK A60
  clear A60
  simp only [Option.some.injEq, Prod.mk.injEq] at H
  obtain ⟨rfl, rfl, rfl, rfl, rfl⟩ := H
  go_enter Tryz.func31, Tryz.ntmps31
  go_wp2_with (first | ((with_reducible refine gate_callee (f := 29) rfl ?_); refine goesL_ (some 6) rfl rfl Tryz.func29 (by kernel_rfl) rfl #[.pointer (some ⟨g, 0, none⟩), .int .i64 a1] rfl (by (try simp only [List.map_toArray, List.map_cons, List.map_nil]); first | done | rfl | (simp only [List.length_drop, List.length_take]; rfl)) ?_; (with_reducible refine (spec_parser_taken.calls g s0_0 s0_1 s0_2 s0_3 s0_4 s0_5 a1 false t266 t267 t268 t269 t270 w0 _ ?side1 ?side2 A3.out).mono ?_); (case side1 => exact vI); (case side2 => exact vJ); rintro e w7 ⟨rfl, hi, hb, hk⟩; refine ⟨_, rfl, ?_⟩; have n0_ := aK (KeepBut.trans vK hk (.inl rfl)); have n1_ := aK (hb); have n2_ := aK (hi); clear HK; clear HB; clear HI0; have HK := n0_; have HB := n1_; have HI0 := n2_; clear n0_ n1_ n2_; (try clear hb); (try clear hb2); (try clear hk); (try clear hi)) | ((with_reducible refine gate_callee (f := 55) rfl ?_); refine goesL_ (some 9) rfl rfl Tryz.func55 (by kernel_rfl) rfl #[.pointer (some ⟨g, 0, none⟩)] rfl (by (try simp only [List.map_toArray, List.map_cons, List.map_nil]); first | done | rfl | (simp only [List.length_drop, List.length_take]; rfl)) ?_; (with_reducible refine (spec_parser_fail.calls g s0_0 t266 t267 t268 t269 t270 t271 t274 t275 t276 t277 t278 w0 _ ?side1 ?side2 A6.out).mono ?_); (case side1 => exact vI); (case side2 => exact vJ); rintro e w8 ⟨v272, rfl, ho0, hi, hb, hk⟩; refine ⟨_, rfl, ?_⟩; have n0_ := aK (Kd.R_lower ho0 (keep_size (w := w) (g := g) (row := none) vK)); have n1_ := aK (KeepBut.trans vK hk (.inl rfl)); have n2_ := aK (hb); have n3_ := aK (hi); clear HK; clear HB; clear HI0; have HO273 := n0_; have HK := n1_; have HB := n2_; have HI0 := n3_; clear n0_ n1_ n2_ n3_; (try clear hb); (try clear hb2); (try clear hk); (try clear hi); (try clear ho0)))
  first | go_end0 | ((try simp only [Exit.inBlock, Exit.then]); refine bodyPost_ret (results_none rfl _ _ _) rfl ?_)
  exact ⟨vE, vI, vJ, vK⟩
end Go.Proofs.YtjoagdldbmlenaaGreatDoor.PFnReadDirectives
