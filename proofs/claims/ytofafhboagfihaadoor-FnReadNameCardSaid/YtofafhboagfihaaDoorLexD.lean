import Derived.Test.YtofafhboagfihaaDoorLexC
namespace Go.Proofs.YtofafhboagfihaaDoor.Lex
open Go.RowKit Go.Proofs.YtofafhboagfihaaDoor.Mem Go.Proofs.YtofafhboagfihaaDoorW.PrintWords

theorem step_name (b base : Nat) (s : ByteArray) (p q : Nat) (v : Value) (uns : Bool) (l : List Tok) (w : World)
    (hL : LexAt w b s p v false uns) (hown : w.ownsRow base 24 4 v l.length (toks l)) (hbase : base ≤ w.heap.size) (hB : base ≤ b) (hn : l.length ≤ 2147483648)
    (hs : s.size ≤ 140737488351232) (hpq : p < q) (hq : q ≤ s.size) (hb0 : isBeginB (bt s p) = true) (hin : ∀ i : Nat, p ≤ i → i < q → inNameB (bt s i) = true) (hout : inNameB (bt s q) = false) :
    Calls Tryd.prog 11 #[.pointer (some ⟨b, 0, none⟩)] w fun e w' => e = .returned (.tuple #[]) ∧
      ∃ v', LexAt w' b s q v' false uns ∧ w'.ownsRow base 24 4 v' (l.length + 1) (toks (l ++ [⟨15, s.extract p q, p, q⟩])) ∧ Below base w w' := by
  have HC := Aside0.mk (token_name b base s p q v uns l w hL hown hbase hB hn hs hpq hq hb0 hin hout)
  clear hL hown hbase hB hn hs hpq hq hb0 hin hout
  go_enter Tryd.func11, Tryd.ntmps11
  go_wp2_with (go_at_call 12; refine HC.out.mono ?_; rintro e w' ⟨rfl, v', h1, h2, h3⟩)
  go_end0
  exact ⟨rfl, v', h1, h2, h3⟩

/-- spec.only, where the text begins with nothing of the kind. -/
theorem only_no (s : ByteArray) (g : Value) (w : World) :
    Calls Tryd.prog 9 #[.string s, .bool false, g] w fun e w' => e = .returned (.tuple #[.agg #[.int .i64 0, .string ⟨#[]⟩, .int .i64 0, .int .i64 0], .bool false, .bool true]) ∧ Below w.heap.size w w' := by
  go_enter Tryd.func9, Tryd.ntmps9
  go_wp2
  refine bodyPost_ret (v := .tuple #[.agg #[.int .i64 0, .string ⟨#[]⟩, .int .i64 0, .int .i64 0], .bool false, .bool true]) (by simp [results, Tryd.results9, go_sem]) rfl ⟨rfl, ?_⟩
  exact below_alloc (Below.refl _ _) _

/-- The cells of a row of one token. -/
theorem one_token {w : World} {base : Nat} {v : Value} {t : Tok} (h : w.ownsRow base 24 4 v 1 (toks [t])) :
    ∃ g cap, v = .slice (some ⟨g, 0, none⟩) 1 cap ∧ base ≤ g ∧ g < w.heap.size ∧ w.cell? ⟨g, 0, none⟩ = some (.int .i64 t.kind) ∧ w.cell? ⟨g, 1, none⟩ = some (.string t.value) ∧
      w.cell? ⟨g, 2, none⟩ = some (.int .i64 t.start) ∧ w.cell? ⟨g, 3, none⟩ = some (.int .i64 t.stop) := by
  obtain ⟨g, cap, rfl, hg, hlt⟩ := h.form (by omega)
  have hc := fun j u hu => h.cells (g := g) rfl j u hu
  have ha : ∀ j, (⟨g, 0, none⟩ : Addr).add j = ⟨g, j, none⟩ := fun j => add_plain g j
  refine ⟨g, cap, rfl, hg, hlt, ?_, ?_, ?_, ?_⟩
  · have := hc 0 _ (by simp [toks, Tok.cells]; rfl)
    rwa [ha] at this
  · have := hc 1 _ (by simp [toks, Tok.cells]; rfl)
    rwa [ha] at this
  · have := hc 2 _ (by simp [toks, Tok.cells]; rfl)
    rwa [ha] at this
  · have := hc 3 _ (by simp [toks, Tok.cells]; rfl)
    rwa [ha] at this

theorem step_one (b base : Nat) (s : ByteArray) (q : Nat) (w : World)
    (hL : LexAt w b s 0 (.slice none 0 0) false false) (hbase : base ≤ w.heap.size) (hB : base ≤ b)
    (hs : s.size ≤ 140737488351232) (hpq : 0 < q) (hq : q ≤ s.size) (hb0 : isBeginB (bt s 0) = true) (hin : ∀ i : Nat, i < q → inNameB (bt s i) = true) (hout : inNameB (bt s q) = false) :
    Calls Tryd.prog 11 #[.pointer (some ⟨b, 0, none⟩)] w fun e w' => e = .returned (.tuple #[]) ∧
      ∃ g cap, base ≤ g ∧ g < w'.heap.size ∧ w'.cell? ⟨b, 2, none⟩ = some (.slice (some ⟨g, 0, none⟩) 1 cap) ∧ w'.cell? ⟨b, 3, none⟩ = some (.bool false) ∧ w'.cell? ⟨b, 4, none⟩ = some (.bool false) ∧
        w'.cell? ⟨g, 0, none⟩ = some (.int .i64 15) ∧ w'.cell? ⟨g, 1, none⟩ = some (.string (s.extract 0 q)) ∧ w'.cell? ⟨g, 2, none⟩ = some (.int .i64 0) ∧ w'.cell? ⟨g, 3, none⟩ = some (.int .i64 q) ∧ Below base w w' := by
  refine (step_name b base s 0 q (.slice none 0 0) false [] w hL (own_nil _ _ _ _) hbase hB (by simp) hs hpq hq hb0 (fun i _ h => hin i h) hout).mono ?_
  rintro e w' ⟨rfl, v', h1, h2, h3⟩
  obtain ⟨g, cap, rfl, hg, hlt, k0, k1, k2, k3⟩ := one_token (by simpa using h2)
  exact ⟨rfl, g, cap, hg, hlt, h1.c2, h1.c3, h1.c4, k0, k1, k2, k3, h3⟩

theorem four_kept {w w1 : World} {t t' : TypeId} {x0 x1 x2 x3 : Value} {cs : Array Value} (hb : Below (w.heap.size + 1) ((w.alloc (.cells #[x0, x1, x2, x3] t)).alloc (.cells cs t')) w1) :
    w1.cell? ⟨w.heap.size, 0, none⟩ = some x0 ∧ w1.cell? ⟨w.heap.size, 1, none⟩ = some x1 ∧ w1.cell? ⟨w.heap.size, 2, none⟩ = some x2 ∧ w1.cell? ⟨w.heap.size, 3, none⟩ = some x3 := by
  have h := Blk.below (Blk.alloc (Blk.new w t #[x0, x1, x2, x3]) (.cells cs t')) hb (by omega)
  exact ⟨(h.cell 0).trans rfl, (h.cell 1).trans rfl, (h.cell 2).trans rfl, (h.cell 3).trans rfl⟩
theorem frozen_kept {w w1 : World} {t t' : TypeId} {x0 x1 x2 x3 : Value} {cs : Array Value} (hb : Below (w.heap.size + 1) ((w.alloc (.cells #[x0, x1, x2, x3] t)).alloc (.cells cs t')) w1) (j : Nat) :
    w1.frozen? ⟨w.heap.size, j, none⟩ = false :=
  (Blk.below (Blk.alloc (Blk.new w t #[x0, x1, x2, x3]) (.cells cs t')) hb (by omega)).frozen j
theorem below_two {w w1 : World} {o o' : Obj} (hb : Below (w.heap.size + 1) ((w.alloc o).alloc o') w1) : Below w.heap.size w w1 :=
  (((Below.refl w.heap.size w).alloc (Nat.le_refl _) o).alloc (by simp) o').trans (hb.mono (by omega))

set_option maxRecDepth 100000 in
set_option maxHeartbeats 1000000 in
theorem only_name (s : ByteArray) (q : Nat) (w : World) (hs : s.size ≤ 140737488351232) (hpq : 0 < q) (hq : q ≤ s.size) (hb0 : isBeginB (bt s 0) = true) (hin : ∀ i : Nat, i < q → inNameB (bt s i) = true) (hout : inNameB (bt s q) = false) :
    Calls Tryd.prog 9 #[.string s, .bool true, .func (.func 11) #[] #[]] w fun e w' => e = .returned (.tuple #[.agg #[.int .i64 15, .string (s.extract 0 q), .int .i64 0, .int .i64 q], .bool true, .bool true]) ∧ Below w.heap.size w w' := by
  have HC := Aside0.mk (fun W (hB : w.heap.size + 1 ≤ W.heap.size) (hL : LexAt W (w.heap.size + 1) s 0 (.slice none 0 0) false false) => step_one (w.heap.size + 1) (w.heap.size + 1) s q W hL hB (Nat.le_refl _) hs hpq hq hb0 hin hout)
  clear hpq hq hb0 hin hout
  go_enter Tryd.func9, Tryd.ntmps9
  go_wp2_with (go_at_call 11; refine (HC.out _ ?_ ?_).mono ?_)
  · simp
  · have h := Blk.new (w.alloc (.cells #[.int .i64 0, .string ⟨#[]⟩, .int .i64 0, .int .i64 0] 24)) 43 #[.string s, .int .i64 0, .slice none 0 0, .bool false, .bool false]
    rw [World.size_alloc] at h
    exact h
  rintro e w1 ⟨rfl, g, cap, hg, hlt, e2, e3, e4, k0, k1, k2, k3, hb⟩
  obtain ⟨r0, r1, r2, r3⟩ := four_kept hb
  have hz0 := frozen_kept hb 0
  have hz1 := frozen_kept hb 1
  have hz2 := frozen_kept hb 2
  have hz3 := frozen_kept hb 3
  have hsz : w.heap.size + 2 ≤ w1.heap.size := by have := hb.size; simp at this; omega
  have HB := Aside0.mk (below_two hb)
  clear hb HC
  have hgne : g ≠ w.heap.size := by omega
  go_wp2_with fail
  go_region
  go_wp2
  refine bodyPost_ret (v := .tuple #[.agg #[.int .i64 15, .string (s.extract 0 q), .int .i64 0, .int .i64 q], .bool true, .bool true]) (by simp [results, Tryd.results9, go_sem, r0, r1, r2, r3]) rfl ⟨rfl, ?_⟩
  exact below_drew ((((HB.out.setCell (p := ⟨w.heap.size, 0, none⟩) (Nat.le_refl _) _).setCell (p := ⟨w.heap.size, 1, none⟩) (Nat.le_refl _) _).setCell (p := ⟨w.heap.size, 2, none⟩) (Nat.le_refl _) _).setCell (p := ⟨w.heap.size, 3, none⟩) (Nat.le_refl _) _)
end Go.Proofs.YtofafhboagfihaaDoor.Lex
