import Derived.Test.YtklgaldpcaogbaaGreatDoorBlockS
namespace Go.Proofs.YtklgaldpcaogbaaGreatDoor.Block
set_option linter.unusedVariables false
set_option linter.unusedSimpArgs false
open Go.RowKit Go.Proofs.YtklgaldpcaogbaaGreatDoor.Mem Go.Proofs.YtklgaldpcaogbaaGreatDoor.Lex Go.Proofs.YtklgaldpcaogbaaGreatDoor.Rune Go.Proofs.YtklgaldpcaogbaaGreatDoor.NameP Go.Proofs.YtklgaldpcaogbaaGreatDoor.LinesP Go.Proofs.YtklgaldpcaogbaaGreatDoorW.PrintWords Go.Proofs.YtklgaldpcaogbaaGreatDoorW.PrintLast

theorem step_block (b base : Nat) (s : ByteArray) (w : World) (hL : LexAt w b s 0 (.slice none 0 0) false false) (hbase : base ≤ w.heap.size) (hB : base ≤ b) (hs : s.size ≤ 2000) (h3 : 3 ≤ s.size) :
    Calls Tryz.prog 11 #[.pointer (some ⟨b, 0, none⟩)] w fun e w' => e = .returned (.tuple #[]) ∧ BlockEnd w base b s w' := by
  have HC := Aside0.mk (block_any b base s w hL hbase hB hs h3)
  clear hL hbase hB hs h3
  go_enter Tryz.func11, Tryz.ntmps11
  go_wp2_with fail
  refine HC.out.mono ?_
  rintro e w' ⟨rfl, h1⟩
  go_wp2_with fail
  go_end0
  exact ⟨rfl, h1⟩

/-- The cells of a row of one token. -/
theorem one_token {w : World} {base : Nat} {v : Value} {t : Tok} (h : w.ownsRow base 24 4 v 1 (toks [t])) :
    ∃ g cap, v = .slice (some ⟨g, 0, none⟩) 1 cap ∧ base ≤ g ∧ g < w.heap.size ∧ w.cell? ⟨g, 0, none⟩ = some (.int .i64 t.kind) ∧ w.cell? ⟨g, 1, none⟩ = some (.string t.value) ∧
      w.cell? ⟨g, 2, none⟩ = some (.int .i64 t.start) ∧ w.cell? ⟨g, 3, none⟩ = some (.int .i64 t.stop) := by
  obtain ⟨g, cap, rfl, hg, hlt⟩ := h.form (by omega)
  have hc := fun j u hu => h.cells (g := g) rfl j u hu
  have ha : ∀ j, (⟨g, 0, none⟩ : Addr).add j = ⟨g, j, none⟩ := fun j => add_plain g j
  refine ⟨g, cap, rfl, hg, hlt, ?_, ?_, ?_, ?_⟩
  · have := hc 0 _ (by simp [toks, Tok.cells]; rfl)
    rwa [ha] at this
  · have := hc 1 _ (by simp [toks, Tok.cells]; rfl)
    rwa [ha] at this
  · have := hc 2 _ (by simp [toks, Tok.cells]; rfl)
    rwa [ha] at this
  · have := hc 3 _ (by simp [toks, Tok.cells]; rfl)
    rwa [ha] at this
theorem four_kept {w w1 : World} {t t' : TypeId} {x0 x1 x2 x3 : Value} {cs : Array Value} (hb : Below (w.heap.size + 1) ((w.alloc (.cells #[x0, x1, x2, x3] t)).alloc (.cells cs t')) w1) :
    w1.cell? ⟨w.heap.size, 0, none⟩ = some x0 ∧ w1.cell? ⟨w.heap.size, 1, none⟩ = some x1 ∧ w1.cell? ⟨w.heap.size, 2, none⟩ = some x2 ∧ w1.cell? ⟨w.heap.size, 3, none⟩ = some x3 := by
  have h := Blk.below (Blk.alloc (Blk.new w t #[x0, x1, x2, x3]) (.cells cs t')) hb (by omega)
  exact ⟨(h.cell 0).trans rfl, (h.cell 1).trans rfl, (h.cell 2).trans rfl, (h.cell 3).trans rfl⟩
theorem frozen_kept {w w1 : World} {t t' : TypeId} {x0 x1 x2 x3 : Value} {cs : Array Value} (hb : Below (w.heap.size + 1) ((w.alloc (.cells #[x0, x1, x2, x3] t)).alloc (.cells cs t')) w1) (j : Nat) :
    w1.frozen? ⟨w.heap.size, j, none⟩ = false :=
  (Blk.below (Blk.alloc (Blk.new w t #[x0, x1, x2, x3]) (.cells cs t')) hb (by omega)).frozen j
theorem below_two {w w1 : World} {o o' : Obj} (hb : Below (w.heap.size + 1) ((w.alloc o).alloc o') w1) : Below w.heap.size w w1 :=
  (((Below.refl w.heap.size w).alloc (Nat.le_refl _) o).alloc (by simp) o').trans (hb.mono (by omega))

def aggT (t : Tok) : Value := .agg #[.int .i64 t.kind, .string t.value, .int .i64 t.start, .int .i64 t.stop]
/-- What the reference says of a block string: a token, whether there is one, whether that is sure. -/
def SpecAns (s : ByteArray) (w : World) (e : Ending) (w' : World) : Prop :=
  ∃ (t : Tok) (ok sure : Bool), e = .returned (.tuple #[aggT t, .bool ok, .bool sure]) ∧ Below w.heap.size w w' ∧ (sure = true → (ok = false ∧ FailAt s) ∨ (ok = true ∧ DoneAt s t))

set_option maxRecDepth 100000 in
set_option maxHeartbeats 2000000 in
theorem only_block (s : ByteArray) (w : World) (hs : s.size ≤ 2000) (h3 : 3 ≤ s.size) :
    Calls Tryz.prog 9 #[.string s, .bool true, .func (.func 11) #[] #[]] w fun e w' => SpecAns s w e w' := by
  have HC := Aside0.mk (fun W (hB : w.heap.size + 1 ≤ W.heap.size) (hL : LexAt W (w.heap.size + 1) s 0 (.slice none 0 0) false false) => step_block (w.heap.size + 1) (w.heap.size + 1) s W hL hB (Nat.le_refl _) hs h3)
  go_enter Tryz.func9, Tryz.ntmps9
  go_wp2_with fail
  refine (HC.out _ ?_ ?_).mono ?_
  · simp
  · have h := Blk.new (w.alloc (.cells #[.int .i64 0, .string ⟨#[]⟩, .int .i64 0, .int .i64 0] 24)) 46 #[.string s, .int .i64 0, .slice none 0 0, .bool false, .bool false]
    rw [World.size_alloc] at h
    exact h
  rintro e w1 ⟨rfl, hb, hend⟩
  obtain ⟨r0, r1, r2, r3⟩ := four_kept hb
  have hz0 := frozen_kept hb 0
  have hz1 := frozen_kept hb 1
  have hz2 := frozen_kept hb 2
  have hz3 := frozen_kept hb 3
  have hsz : w.heap.size + 2 ≤ w1.heap.size := by have := hb.size; simp at this; omega
  have HB := Aside0.mk (below_two hb)
  clear hb HC
  rcases hend with ⟨uns, hL, hF⟩ | ⟨t, v, uns, hL, hown, hD⟩
  · have e2 := hL.c2
    have e3 := hL.c3
    have e4 := hL.c4
    have HF := Aside0.mk hF
    clear hF hL
    go_wp2_with fail
    go_region
    go_wp2
    refine bodyPost_ret (v := .tuple #[.agg #[.int .i64 0, .string ⟨#[]⟩, .int .i64 0, .int .i64 0], .bool false, .bool (!uns)]) (by simp [results, Tryz.results9, go_sem, r0, r1, r2, r3]) rfl ⟨⟨0, ⟨#[]⟩, 0, 0⟩, false, !uns, rfl, ?_, fun h => .inl ⟨rfl, HF.out (by simpa using h)⟩⟩
    exact below_drew ((((HB.out.setCell (p := ⟨w.heap.size, 0, none⟩) (Nat.le_refl _) _).setCell (p := ⟨w.heap.size, 1, none⟩) (Nat.le_refl _) _).setCell (p := ⟨w.heap.size, 2, none⟩) (Nat.le_refl _) _).setCell (p := ⟨w.heap.size, 3, none⟩) (Nat.le_refl _) _)
  · obtain ⟨g, cap, rfl, hg, hlt, k0, k1, k2, k3⟩ := one_token hown
    have e2 := hL.c2
    have e3 := hL.c3
    have e4 := hL.c4
    have HF := Aside0.mk hD
    clear hD hL hown
    have hgne : g ≠ w.heap.size := by omega
    go_wp2_with fail
    go_region
    go_wp2
    refine bodyPost_ret (v := .tuple #[aggT t, .bool true, .bool (!uns)]) (by simp [results, Tryz.results9, go_sem, r0, r1, r2, r3, aggT]) rfl ⟨t, true, !uns, rfl, ?_, fun h => .inr ⟨rfl, HF.out (by simpa using h)⟩⟩
    exact below_drew ((((HB.out.setCell (p := ⟨w.heap.size, 0, none⟩) (Nat.le_refl _) _).setCell (p := ⟨w.heap.size, 1, none⟩) (Nat.le_refl _) _).setCell (p := ⟨w.heap.size, 2, none⟩) (Nat.le_refl _) _).setCell (p := ⟨w.heap.size, 3, none⟩) (Nat.le_refl _) _)

set_option maxRecDepth 100000 in
set_option maxHeartbeats 2000000 in
/-- spec.ReadBlock of a text that begins with three quotation marks. -/
theorem specReadBlock (s : ByteArray) (w : World) (hs : s.size ≤ 2000) (hq : startsB s 0 quotes = true) :
    Calls Tryz.prog 5 #[.string s] w fun e w' => SpecAns s w e w' := by
  have h3 : 3 ≤ s.size := by have h := starts_le hq; have h2 : quotes.size = 3 := rfl; omega
  have HS := Aside0.mk (fun W => starts_any s quotes 0 W (by omega) (by decide) (by omega))
  have HO := Aside0.mk (fun W => only_block s W hs h3)
  go_enter Tryz.func5, Tryz.ntmps5
  go_wp2_with fail
  refine (HS.out _).mono ?_
  rintro e w1 ⟨rfl, rfl⟩
  rw [hq]
  go_wp2_with fail
  refine (HO.out _).mono ?_
  rintro e w1 ⟨t, ok, sure, rfl, hb, hA⟩
  obtain ⟨r0, r1, r2, r3⟩ := four_kept1 hb
  have hz0 := frozen_kept1 hb 0
  have hz1 := frozen_kept1 hb 1
  have hz2 := frozen_kept1 hb 2
  have hz3 := frozen_kept1 hb 3
  have HB := Aside0.mk (below_one hb)
  have HA := Aside0.mk hA
  clear hb hA
  unfold aggT
  go_wp2_with fail
  refine bodyPost_ret (v := .tuple #[aggT t, .bool ok, .bool sure]) (by simp [results, Tryz.results5, go_sem, r0, r1, r2, r3, aggT]) rfl ⟨t, ok, sure, rfl, ?_, HA.out⟩
  exact below_four HB.out
end Go.Proofs.YtklgaldpcaogbaaGreatDoor.Block
