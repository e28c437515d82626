import Derived.Test.YtjoagdldbmlenaaGreatDoorVE1
set_option maxRecDepth 100000
set_option maxHeartbeats 8000000
set_option linter.unusedVariables false
set_option linter.unusedSimpArgs false
namespace Go.Proofs.YtjoagdldbmlenaaGreatDoor.Rp
open Go.RowKit Go.Proofs.YtjoagdldbmlenaaGreatDoorW.PrintWords Go.Proofs.YtjoagdldbmlenaaGreatDoorW.PrintLast PFnReadDirectives Go.Proofs.YtjoagdldbmlenaaGreatDoor.Mod Tree Rel
theorem tok_open {L r : List Tok} {t : Tok} {i : Nat} {d wr : Int} {g : Nat} {w0 w : World} (HI : IsS45 w0 w g (L.map sT) i d wr false false) (HB : Below w0.heap.size w0 w) (ht : L.drop i = t :: r) (hL : L.length ≤ 2000) :
  ∃ (ad : Addr) (c0 : Nat), w0.heap.size ≤ g ∧ w.cell? ⟨g, 0, none⟩ = some (.slice (some ad) (L.map sT).length c0) ∧ w.cell? ⟨g, 1, none⟩ = some (.int .i64 i) ∧ w.cell? ⟨g, 4, none⟩ = some (.bool false) ∧ w.cell? ⟨g, 5, none⟩ = some (.bool false) ∧ w.frozen? ⟨g, 1, none⟩ = false ∧ w.frozen? ⟨g, 5, none⟩ = false ∧
   w.cell? (ad.add (i * 4)) = some (.int .i64 t.kind) ∧ w.cell? ⟨(ad.add (i * 4)).block, (ad.add (i * 4)).off + 1, none⟩ = some (.string t.value) ∧ w.cell? ⟨(ad.add (i * 4)).block, (ad.add (i * 4)).off + 2, none⟩ = some (.int .i64 t.start) ∧ w.cell? ⟨(ad.add (i * 4)).block, (ad.add (i * 4)).off + 3, none⟩ = some (.int .i64 t.stop) ∧
   g < w.heap.size ∧ (ad.add (i * 4)).block < w.heap.size ∧ (0 ≤ (i : Int)) = True ∧ ((i : Int) < ((L.map sT).length : Int)) = True ∧ decide (L.length ≤ i) = false ∧ IntKind.i64.wrap ((i : Int) + 1) = (i : Int) + 1 := by
 have hi := lt_drop ht
 obtain ⟨A0, c0, HG, hg, HS⟩ := HI
 obtain ⟨ad, ea, hx0, hx1, hx2, hx3⟩ := at_T49 HS (i : Int) (by omega) (by rw [List.length_map]; omega)
 cases ea
 replace hx0 := pw_cell_below HB hx0
 replace hx1 := pw_cell_below HB hx1
 replace hx2 := pw_cell_below HB hx2
 replace hx3 := pw_cell_below HB hx3
 rw [rd_at ht, Int.toNat_natCast] at hx0 hx1 hx2 hx3
 exact ⟨ad, c0, hg, cellS45_0 HG, cellS45_1 HG, cellS45_4 HG, cellS45_5 HG, blk_frozen HG 1, blk_frozen HG 5, hx0, hx1, hx2, hx3, World.block_lt_of_cell? w _ (cellS45_0 HG), World.block_lt_of_cell? w _ hx0, eq_true (by omega), eq_true (by rw [List.length_map]; omega), decide_eq_false (by omega), by rw [IntKind.wrap_i64]; omega⟩
theorem newt (w : World) (n : Nat) : ((w.drewN (n + 1)).alloc (.cells #[.int .i64 0, .string ⟨#[]⟩, .int .i64 0, .int .i64 0] 49)).cell? ⟨w.heap.size, 0, none⟩ = some (.int .i64 0) ∧ ((w.drewN (n + 1)).alloc (.cells #[.int .i64 0, .string ⟨#[]⟩, .int .i64 0, .int .i64 0] 49)).frozen? ⟨w.heap.size, 0, none⟩ = false ∧ ((w.drewN (n + 1)).alloc (.cells #[.int .i64 0, .string ⟨#[]⟩, .int .i64 0, .int .i64 0] 49)).cell? ⟨w.heap.size, 1, none⟩ = some (.string ⟨#[]⟩) ∧ ((w.drewN (n + 1)).alloc (.cells #[.int .i64 0, .string ⟨#[]⟩, .int .i64 0, .int .i64 0] 49)).frozen? ⟨w.heap.size, 1, none⟩ = false ∧ ((w.drewN (n + 1)).alloc (.cells #[.int .i64 0, .string ⟨#[]⟩, .int .i64 0, .int .i64 0] 49)).cell? ⟨w.heap.size, 2, none⟩ = some (.int .i64 0) ∧ ((w.drewN (n + 1)).alloc (.cells #[.int .i64 0, .string ⟨#[]⟩, .int .i64 0, .int .i64 0] 49)).frozen? ⟨w.heap.size, 2, none⟩ = false ∧ ((w.drewN (n + 1)).alloc (.cells #[.int .i64 0, .string ⟨#[]⟩, .int .i64 0, .int .i64 0] 49)).cell? ⟨w.heap.size, 3, none⟩ = some (.int .i64 0) ∧ ((w.drewN (n + 1)).alloc (.cells #[.int .i64 0, .string ⟨#[]⟩, .int .i64 0, .int .i64 0] 49)).frozen? ⟨w.heap.size, 3, none⟩ = false :=
 ⟨(blk_cell (heap_alloc_new (w.drewN (n + 1)) _) 0).trans rfl, blk_frozen (heap_alloc_new (w.drewN (n + 1)) _) 0, (blk_cell (heap_alloc_new (w.drewN (n + 1)) _) 1).trans rfl, blk_frozen (heap_alloc_new (w.drewN (n + 1)) _) 1, (blk_cell (heap_alloc_new (w.drewN (n + 1)) _) 2).trans rfl, blk_frozen (heap_alloc_new (w.drewN (n + 1)) _) 2, (blk_cell (heap_alloc_new (w.drewN (n + 1)) _) 3).trans rfl, blk_frozen (heap_alloc_new (w.drewN (n + 1)) _) 3⟩
theorem nal {w : World} {a : Addr} {v : Value} (n : Nat) (h : w.cell? a = some v) : ((w.drewN (n + 1)).alloc (.cells #[.int .i64 0, .string ⟨#[]⟩, .int .i64 0, .int .i64 0] 49)).cell? a = some v :=
 (World.cell?_alloc_lt (w.drewN (n + 1)) (.cells #[.int .i64 0, .string ⟨#[]⟩, .int .i64 0, .int .i64 0] 49) _ (World.block_lt_of_cell? (w.drewN (n + 1)) _ h)).trans h
theorem tok_world (w : World) (m : Nat) (k : Int) (v : ByteArray) (a b : Nat) : ∃ w4 : World, ((((((w.drewN m).alloc (.cells #[.int .i64 0, .string ⟨#[]⟩, .int .i64 0, .int .i64 0] 49)).setCell ⟨w.heap.size, 0, none⟩ (.int .i64 k)).setCell ⟨w.heap.size, 1, none⟩ (.string v)).setCell ⟨w.heap.size, 2, none⟩ (.int .i64 a)).setCell ⟨w.heap.size, 3, none⟩ (.int .i64 b)) = w4 ∧ w4.heap[w.heap.size]? = some (.cells #[.int .i64 k, .string v, .int .i64 a, .int .i64 b] 49 (0, 0)) ∧ Below w.heap.size w w4 := by
 refine ⟨_, rfl, ?_, ?_⟩
 ·have h0 : ((w.drewN m).alloc (.cells #[.int .i64 0, .string ⟨#[]⟩, .int .i64 0, .int .i64 0] 49)).heap[w.heap.size]? = _ := heap_alloc_new (w.drewN m) _
  have h1 := blk_set h0 0 (.int .i64 k)
  have h2 := blk_set h1 1 (.string v)
  have h3 := blk_set h2 2 (.int .i64 a)
  have h4 := blk_set h3 3 (.int .i64 b)
  simpa using h4
 ·exact ((((below_alloc (pw_below_drewN (Below.refl _ _) m) _).setCell (p := ⟨w.heap.size, 0, none⟩) (Nat.le_refl _) _).setCell (p := ⟨w.heap.size, 1, none⟩) (Nat.le_refl _) _).setCell (p := ⟨w.heap.size, 2, none⟩) (Nat.le_refl _) _).setCell (p := ⟨w.heap.size, 3, none⟩) (Nat.le_refl _) _
theorem fail_any (L : List S49) (a d wr : Int) (b u : Bool) (g : Nat) (w0 w : World) (hI : IsS45 w0 w g L a d wr b u) (hB : Below w0.heap.size w0 w) :
  Calls Tryz.prog 55 #[.pointer (some ⟨g, 0, none⟩)] w fun e w' => ∃ (v : Value) (wr' : Int), e = .returned v ∧ Kd.R k51 51 w' w.heap.size (fun _ => True) v [] ∧ IsS45 w0 w' g L a d wr' true u ∧ Below w0.heap.size w0 w' ∧ KeepBut w w' g none := by
 obtain ⟨wr', h⟩ := fail_eq d wr b u a L
 exact (spec_parser_fail.calls g L a d wr b u _ _ _ _ _ _ w0 w hI hB h).mono fun e w' ⟨v, h1, h2, h3, h4, h5⟩ => ⟨v, wr', h1, h2, h3, h4, h5⟩
theorem here_end (cst : Bool) (L : List Tok) (i : Nat) (d wr : Int) (g : Nat) (w0 w : World) (hL : L.length ≤ 2000) (hi : i ≤ L.length) (ht : L.drop i = []) (HI : IsS45 w0 w g (L.map sT) i d wr false false) (HB : Below w0.heap.size w0 w) :
  Calls Tryz.prog 34 #[.pointer (some ⟨g, 0, none⟩), .bool cst] w (VPost cst L i d g w0 w) := by
 have HF := aK (fun wx (h : IsS45 w0 wx g (L.map sT) i d wr false false) (hb : Below w0.heap.size w0 wx) => fail_any _ _ _ _ _ _ g w0 wx h hb)
 have HI0 := aK HI
 have hge : decide (L.length ≤ i) = true := decide_eq_true (ge_drop ht)
 have hn : ∀ n, (L.drop i).length + 1 ≤ n → sVal cst n (L.drop i) = none := by
  intro n hn
  obtain ⟨n, rfl⟩ : ∃ m, n = m + 1 := ⟨n - 1, by omega⟩
  rw [ht]; rfl
 have HN := aK hn
 obtain ⟨A0, c0, HG, hg, HS⟩ := HI
 have hc0 := cellS45_0 HG
 have hc1 := cellS45_1 HG
 have hc4 := cellS45_4 HG
 have hc5 := cellS45_5 HG
 have hf1 := blk_frozen HG 1
 have hf5 := blk_frozen HG 5
 have HBB := aK HB
 clear hn ht HG HS HB
 go_enter Tryz.func34, Tryz.ntmps34
 go_wp2_with fail
 repeat (go_quiet (fail); try go_wp2_with fail)
 refine (HF.out _ (by repeat (first | exact HI0.out | apply IsS45.alloc | apply IsS45.drewN | apply IsS45.drew)) (by repeat (first | exact HBB.out | apply below_alloc | apply pw_below_drewN | apply below_drew1))).mono ?_
 rintro e w1 ⟨v, wr', rfl, hr, hi, hb, hk⟩
 have HR := aK hr
 have HI := aK hi
 have HB := aK hb
 have HK := aK hk
 clear hr hi hb hk
 go_wp2_with fail
 go_ret
 exact ⟨v, [], _, _, _, _, _, rfl, Kd.R_lower HR.out (by simp), HI.out, HB.out, KeepBut.trans (by repeat (first | exact KeepBut.refl _ _ _ | apply keep_drewN | apply keep_drew | apply keep_alloc)) HK.out (.inl rfl), by simp only [List.length_nil]; omega, .inr ⟨rfl, .inr HN.out⟩⟩
theorem here_other (cst : Bool) (L : List Tok) (i : Nat) (d wr : Int) (g : Nat) (w0 w : World) (hL : L.length ≤ 2000) (t : Tok) (r : List Tok) (ht : L.drop i = t :: r) (hk : ∀ k : Int, k = 3 ∨ k = 10 ∨ k = 12 ∨ k = 15 ∨ k = 16 ∨ k = 17 ∨ k = 18 ∨ k = 19 → t.kind ≠ k) (HI : IsS45 w0 w g (L.map sT) i d wr false false) (HB : Below w0.heap.size w0 w) :
  Calls Tryz.prog 34 #[.pointer (some ⟨g, 0, none⟩), .bool cst] w (VPost cst L i d g w0 w) := by
 have hi := lt_drop ht
 have hrl := rest_len ht
 have HF := aK (fun wx (h : IsS45 w0 wx g (L.map sT) i d wr false false) (hb : Below w0.heap.size w0 wx) => fail_any _ _ _ _ _ _ g w0 wx h hb)
 have HI0 := aK HI
 have hn : ∀ n, (L.drop i).length + 1 ≤ n → sVal cst n (L.drop i) = none := by
  intro n hn
  obtain ⟨n, rfl⟩ : ∃ m, n = m + 1 := ⟨n - 1, by omega⟩
  rw [ht]
  unfold sVal
  rw [if_neg (hk 10 (by simp)), if_neg (hk 12 (by simp)), if_neg (fun h => by have h1 := hk 16 (by simp); have h2 := hk 17 (by simp); have h3 := hk 18 (by simp); have h4 := hk 19 (by simp); omega), if_neg (hk 15 (by simp)), if_neg (fun h => hk 3 (by simp) h.1)]
 have HN := aK hn
 clear hn
 obtain ⟨ad, c0, hg, hc0, hc1, hc4, hc5, hf1, hf5, hx0, hx1, hx2, hx3, hgl, hal, p1, p2, hge, hw1⟩ := tok_open HI HB ht hL
 have HBB := aK HB
 clear ht HB HI
 have b3 : (t.kind == 3) = false := beq_eq_false_iff_ne.2 (hk 3 (by simp))
 have b10 : (t.kind == 10) = false := beq_eq_false_iff_ne.2 (hk 10 (by simp))
 have b12 : (t.kind == 12) = false := beq_eq_false_iff_ne.2 (hk 12 (by simp))
 have b15 : (t.kind == 15) = false := beq_eq_false_iff_ne.2 (hk 15 (by simp))
 have b16 : (t.kind == 16) = false := beq_eq_false_iff_ne.2 (hk 16 (by simp))
 have b17 : (t.kind == 17) = false := beq_eq_false_iff_ne.2 (hk 17 (by simp))
 have b18 : (t.kind == 18) = false := beq_eq_false_iff_ne.2 (hk 18 (by simp))
 have b19 : (t.kind == 19) = false := beq_eq_false_iff_ne.2 (hk 19 (by simp))
 clear hk
 generalize t.kind = tk at *
 go_enter Tryz.func34, Tryz.ntmps34
 go_wp2_with fail
 repeat (go_quiet (fail); try go_wp2_with fail)
 obtain ⟨nr0, nf0, nr1, nf1, nr2, nf2, nr3, nf3⟩ := newt w nq
 have na0 := nal nq hc0
 have na1 := nal nq hc1
 have na2 := nal nq hx0
 have na3 := nal nq hx1
 have na4 := nal nq hx2
 have na5 := nal nq hx3
 go_region
 obtain ⟨w4, e4, hq4, hb4⟩ := tok_world w (nq + 1) tk t.value t.start t.stop
 rw [e4]
 clear e4 na0 na1 na2 na3 na4 na5 nr0 nr1 nr2 nr3 nf0 nf1 nf2 nf3 hc0 hc1 hc4 hc5 hx0 hx1 hx2 hx3 hge hgl hal hf1 hf5
 have HI4 := aK (HI0.out.below hb4)
 have HB4 := aK (HBB.out.trans (hb4.mono HBB.out.size))
 have HK4 := aK (show KeepBut w w4 g none from ⟨hb4.size, fun i hi _ _ => hb4.block i hi⟩)
 have hgt : g ≠ w.heap.size := Nat.ne_of_lt HI0.out.lt
 have hsz4 := hb4.size
 clear hb4
 have ht0 : w4.cell? ⟨w.heap.size, 0, none⟩ = _ := (blk_cell hq4 0).trans rfl
 have ht1 : w4.cell? ⟨w.heap.size, 1, none⟩ = _ := (blk_cell hq4 1).trans rfl
 obtain ⟨A4, c4, HG4, hg4, HS4⟩ := HI4.out
 have hd1 := cellS45_1 HG4
 have hd5 := cellS45_5 HG4
 have hf1 := blk_frozen HG4 1
 have hf5 := blk_frozen HG4 5
 clear HG4 HS4 hq4
 go_wp2_with fail
 refine (HF.out _ (by exact HI4.out) (by exact HB4.out)).mono ?_
 rintro e w5 ⟨v, wr', rfl, hr, hi5, hb, hk5⟩
 have HR := aK hr
 have HI5 := aK hi5
 have HB5 := aK hb
 have HK5 := aK hk5
 clear hr hi5 hb hk5
 go_wp2_with fail
 go_ret
 exact ⟨v, [], _, _, _, _, _, rfl, Kd.R_lower HR.out hsz4, HI5.out, HB5.out, HK4.out.trans HK5.out (.inl rfl), by simp only [List.length_nil]; omega, .inr ⟨rfl, .inr HN.out⟩⟩
theorem here_dollar (cst : Bool) (L : List Tok) (i : Nat) (d wr : Int) (g : Nat) (w0 w : World) (hL : L.length ≤ 2000) (t : Tok) (r : List Tok) (ht : L.drop i = t :: r) (hk : t.kind = 3) (hc : cst = true) (HI : IsS45 w0 w g (L.map sT) i d wr false false) (HB : Below w0.heap.size w0 w) :
  Calls Tryz.prog 34 #[.pointer (some ⟨g, 0, none⟩), .bool cst] w (VPost cst L i d g w0 w) := by
 have hi := lt_drop ht
 have hrl := rest_len ht
 have HF := aK (fun wx (h : IsS45 w0 wx g (L.map sT) i d wr false false) (hb : Below w0.heap.size w0 wx) => fail_any _ _ _ _ _ _ g w0 wx h hb)
 have HI0 := aK HI
 have hn : ∀ n, (L.drop i).length + 1 ≤ n → sVal cst n (L.drop i) = none := by
  intro n hn
  obtain ⟨n, rfl⟩ : ∃ m, n = m + 1 := ⟨n - 1, by omega⟩
  rw [ht]
  unfold sVal
  rw [if_neg (by omega), if_neg (by omega), if_neg (by omega), if_neg (by omega), if_neg (fun h => by rw [hc] at h; cases h.2)]
 have HN := aK hn
 clear hn
 obtain ⟨ad, c0, hg, hc0, hc1, hc4, hc5, hf1, hf5, hx0, hx1, hx2, hx3, hgl, hal, p1, p2, hge, hw1⟩ := tok_open HI HB ht hL
 have HBB := aK HB
 clear ht HB HI
 subst hc
 rw [hk] at hx0
 clear hk
 go_enter Tryz.func34, Tryz.ntmps34
 go_wp2_with fail
 repeat (go_quiet (fail); try go_wp2_with fail)
 obtain ⟨nr0, nf0, nr1, nf1, nr2, nf2, nr3, nf3⟩ := newt w nq
 have na0 := nal nq hc0
 have na1 := nal nq hc1
 have na2 := nal nq hx0
 have na3 := nal nq hx1
 have na4 := nal nq hx2
 have na5 := nal nq hx3
 go_region
 obtain ⟨w4, e4, hq4, hb4⟩ := tok_world w (nq + 1) 3 t.value t.start t.stop
 rw [e4]
 clear e4 na0 na1 na2 na3 na4 na5 nr0 nr1 nr2 nr3 nf0 nf1 nf2 nf3 hc0 hc1 hc4 hc5 hx0 hx1 hx2 hx3 hge hgl hal hf1 hf5
 have HI4 := aK (HI0.out.below hb4)
 have HB4 := aK (HBB.out.trans (hb4.mono HBB.out.size))
 have HK4 := aK (show KeepBut w w4 g none from ⟨hb4.size, fun i hi _ _ => hb4.block i hi⟩)
 have hgt : g ≠ w.heap.size := Nat.ne_of_lt HI0.out.lt
 have hsz4 := hb4.size
 clear hb4
 have ht0 : w4.cell? ⟨w.heap.size, 0, none⟩ = _ := (blk_cell hq4 0).trans rfl
 have ht1 : w4.cell? ⟨w.heap.size, 1, none⟩ = _ := (blk_cell hq4 1).trans rfl
 obtain ⟨A4, c4, HG4, hg4, HS4⟩ := HI4.out
 have hd1 := cellS45_1 HG4
 have hd5 := cellS45_5 HG4
 have hf1 := blk_frozen HG4 1
 have hf5 := blk_frozen HG4 5
 clear HG4 HS4 hq4
 go_wp2_with fail
 refine (HF.out _ (by exact HI4.out) (by exact HB4.out)).mono ?_
 rintro e w5 ⟨v, wr', rfl, hr, hi5, hb, hk5⟩
 have HR := aK hr
 have HI5 := aK hi5
 have HB5 := aK hb
 have HK5 := aK hk5
 clear hr hi5 hb hk5
 go_wp2_with fail
 go_ret
 exact ⟨v, [], _, _, _, _, _, rfl, Kd.R_lower HR.out hsz4, HI5.out, HB5.out, HK4.out.trans HK5.out (.inl rfl), by simp only [List.length_nil]; omega, .inr ⟨rfl, .inr HN.out⟩⟩
theorem made_none (k : Int) (name alias text : ByteArray) (flag : Int) (w : World) :
  Calls Tryz.prog 30 #[.agg #[.int .i64 k, .string name, .string alias, .string text, .int .i64 flag, .int .i64 0], .slice none 0 0] w fun e w' => ∃ v : Value, e = .returned v ∧ Kd.R k51 51 w' w.heap.size (fun _ => True) v (mk54 k name alias text flag []) ∧ Below w.heap.size w w' :=
 spec_Made.calls 1 k name alias text flag 0 none 0 [] _ w (Kd.C_nil _ _) (Nat.le_refl _) (made_eq k name alias text flag 0 [] (by simp) (by simp))
theorem lit_val (cst : Bool) {L r : List Tok} {t : Tok} {i : Nat} {k q : Int} (ht : L.drop i = t :: r) (hk : t.kind = k) (hkq : (k = 16 ∧ q = 12) ∨ (k = 17 ∧ q = 13) ∨ (k = 18 ∧ q = 14) ∨ (k = 19 ∧ q = 14)) : ∀ n, (L.drop i).length + 1 ≤ n → sVal cst n (L.drop i) = some (nd q emp emp t.value 0 [], L.drop (i + 1)) := by
 intro n hn
 obtain ⟨n, rfl⟩ : ∃ m, n = m + 1 := ⟨n - 1, by omega⟩
 rw [drop_next ht, ht]
 unfold sVal
 rw [if_neg (by omega), if_neg (by omega), if_pos (by omega)]
 rcases hkq with ⟨rfl, rfl⟩ | ⟨rfl, rfl⟩ | ⟨rfl, rfl⟩ | ⟨rfl, rfl⟩
 ·rw [if_pos hk]
 ·rw [if_neg (by omega), if_pos hk]
 ·rw [if_neg (by omega), if_neg (by omega)]
 ·rw [if_neg (by omega), if_neg (by omega)]
theorem here_lit (cst : Bool) (L : List Tok) (i : Nat) (d wr : Int) (g : Nat) (w0 w : World) (hL : L.length ≤ 2000) (t : Tok) (r : List Tok) (ht : L.drop i = t :: r) (k q : Int) (hkq : (k = 16 ∧ q = 12) ∨ (k = 17 ∧ q = 13) ∨ (k = 18 ∧ q = 14) ∨ (k = 19 ∧ q = 14)) (hk : t.kind = k) (HI : IsS45 w0 w g (L.map sT) i d wr false false) (HB : Below w0.heap.size w0 w) :
  Calls Tryz.prog 34 #[.pointer (some ⟨g, 0, none⟩), .bool cst] w (VPost cst L i d g w0 w) := by
 rcases hkq with ⟨rfl, rfl⟩ | ⟨rfl, rfl⟩ | ⟨rfl, rfl⟩ | ⟨rfl, rfl⟩
 all_goals
  have hi := lt_drop ht
  have hrl := rest_len ht
  have HF := aK (fun wx (h : IsS45 w0 wx g (L.map sT) i d wr false false) (hb : Below w0.heap.size w0 wx) => fail_any _ _ _ _ _ _ g w0 wx h hb)
  have HI0 := aK HI
  have hn := lit_val cst ht hk (by first | exact .inl ⟨rfl, rfl⟩ | exact .inr (.inl ⟨rfl, rfl⟩) | exact .inr (.inr (.inl ⟨rfl, rfl⟩)) | exact .inr (.inr (.inr ⟨rfl, rfl⟩)))
  have HN := aK hn
  clear hn
  obtain ⟨ad, c0, hg, hc0, hc1, hc4, hc5, hf1, hf5, hx0, hx1, hx2, hx3, hgl, hal, p1, p2, hge, hw1⟩ := tok_open HI HB ht hL
  have HBB := aK HB
  clear ht HB HI
  rw [hk] at hx0
  clear hk
  go_enter Tryz.func34, Tryz.ntmps34
  go_wp2_with fail
  repeat (go_quiet (fail); try go_wp2_with fail)
  obtain ⟨nr0, nf0, nr1, nf1, nr2, nf2, nr3, nf3⟩ := newt w nq
  have na0 := nal nq hc0
  have na1 := nal nq hc1
  have na2 := nal nq hx0
  have na3 := nal nq hx1
  have na4 := nal nq hx2
  have na5 := nal nq hx3
  go_region
  first | (obtain ⟨w4, e4, hq4, hb4⟩ := tok_world w (nq + 1) 16 t.value t.start t.stop; rw [e4]) | (obtain ⟨w4, e4, hq4, hb4⟩ := tok_world w (nq + 1) 17 t.value t.start t.stop; rw [e4]) | (obtain ⟨w4, e4, hq4, hb4⟩ := tok_world w (nq + 1) 18 t.value t.start t.stop; rw [e4]) | (obtain ⟨w4, e4, hq4, hb4⟩ := tok_world w (nq + 1) 19 t.value t.start t.stop; rw [e4])
  clear e4 na0 na1 na2 na3 na4 na5 nr0 nr1 nr2 nr3 nf0 nf1 nf2 nf3 hc0 hc1 hc4 hc5 hx0 hx1 hx2 hx3 hge hgl hal hf1 hf5
  have HI4 := aK (HI0.out.below hb4)
  have HB4 := aK (HBB.out.trans (hb4.mono HBB.out.size))
  have HK4 := aK (show KeepBut w w4 g none from ⟨hb4.size, fun i hi _ _ => hb4.block i hi⟩)
  have hgt : g ≠ w.heap.size := Nat.ne_of_lt HI0.out.lt
  have hsz4 := hb4.size
  clear hb4
  have ht0 : w4.cell? ⟨w.heap.size, 0, none⟩ = _ := (blk_cell hq4 0).trans rfl
  have ht1 : w4.cell? ⟨w.heap.size, 1, none⟩ = _ := (blk_cell hq4 1).trans rfl
  obtain ⟨A4, c4, HG4, hg4, HS4⟩ := HI4.out
  have hd1 := cellS45_1 HG4
  have hd5 := cellS45_5 HG4
  have hf1 := blk_frozen HG4 1
  have hf5 := blk_frozen HG4 5
  clear HG4 HS4 hq4
  go_wp2_with fail
  have HI5 := aK (HI4.out.set_1 ((i : Int) + 1))
  have HB5 := aK (below_set HB4.out hg4 (v := .int .i64 ((i : Int) + 1)) (j := 1))
  have HK5 := aK (HK4.out.set_ 1 (.int .i64 ((i : Int) + 1)))
  refine (made_none _ _ _ _ _ _).mono ?_
  rintro e w6 ⟨v, rfl, hr, hb6⟩
  have HR := aK hr
  have HB6 := aK hb6
  clear hr hb6
  go_wp2_with fail
  go_ret
  refine ⟨v, _, _, _, _, _, _, rfl, Kd.R_lower HR.out (by simpa using hsz4), HI5.out.below HB6.out, HB5.out.trans (HB6.out.mono HB5.out.size), HK5.out.trans ⟨HB6.out.size, fun i hi _ _ => HB6.out.block i hi⟩ (.inl rfl), ?_, .inl ⟨rfl, rfl, rfl, (i + 1), _, by omega, by omega, by omega, ?_, HN.out, lk_nd .nil (fun h => by first | rfl | (exfalso; omega))⟩⟩
  all_goals simp only [mk54, List.flatten_nil, List.length_nil, List.length_cons]
  all_goals omega
end Go.Proofs.YtjoagdldbmlenaaGreatDoor.Rp
