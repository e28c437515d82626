import Derived.Test.YtjoagdldbmlenaaGreatDoorVE2
import Derived.Test.YtjoagdldbmlenaaGreatDoorVC0
set_option maxRecDepth 100000
set_option maxHeartbeats 8000000
set_option linter.unusedVariables false
set_option linter.unusedSimpArgs false
namespace Go.Proofs.YtjoagdldbmlenaaGreatDoor.Rp
open Go.RowKit Go.Proofs.YtjoagdldbmlenaaGreatDoorW.PrintWords Go.Proofs.YtjoagdldbmlenaaGreatDoorW.PrintLast PFnReadDirectives Go.Proofs.YtjoagdldbmlenaaGreatDoor.Mod Tree Rel
theorem here_true (cst : Bool) (L : List Tok) (i : Nat) (d wr : Int) (g : Nat) (w0 w : World) (hL : L.length ≤ 2000) (t : Tok) (r : List Tok) (ht : L.drop i = t :: r) (hk : t.kind = 15) (hv : t.value = ⟨#[116, 114, 117, 101]⟩) (HI : IsS45 w0 w g (L.map sT) i d wr false false) (HB : Below w0.heap.size w0 w) :
  Calls Tryz.prog 34 #[.pointer (some ⟨g, 0, none⟩), .bool cst] w (VPost cst L i d g w0 w) := by
 have hi := lt_drop ht
 have hrl := rest_len ht
 have HF := aK (fun wx (h : IsS45 w0 wx g (L.map sT) i d wr false false) (hb : Below w0.heap.size w0 wx) => fail_any _ _ _ _ _ _ g w0 wx h hb)
 have HI0 := aK HI
 have hn3 : ¬ t.value.toList = nullT.toList := fun h => absurd (congrArg (fun b : ByteArray => b.data.toList) (hv.symm.trans (Go.Proofs.YtjoagdldbmlenaaGreatDoor.Lex.toList_inj h))) (by decide)
 have hwd : word t.value = nd 15 emp emp emp 1 [] := by unfold word; rw [if_pos (by rw [hv]; rfl)]
 have hn : ∀ n, (L.drop i).length + 1 ≤ n → sVal cst n (L.drop i) = some (nd 15 emp emp emp 1 [], L.drop (i + 1)) := by
  intro n hn
  obtain ⟨n, rfl⟩ : ∃ m, n = m + 1 := ⟨n - 1, by omega⟩
  rw [drop_next ht, ht]
  unfold sVal
  rw [if_neg (by omega), if_neg (by omega), if_neg (by omega), if_pos hk, if_neg hn3, hwd]
 have HN := aK hn
 clear hn
 obtain ⟨ad, c0, hg, hc0, hc1, hc4, hc5, hf1, hf5, hx0, hx1, hx2, hx3, hgl, hal, p1, p2, hge, hw1⟩ := tok_open HI HB ht hL
 have HBB := aK HB
 clear ht HB HI
 rw [hk] at hx0
 rw [hv] at hx1
 clear hk hv hn3 hwd
 go_enter Tryz.func34, Tryz.ntmps34
 go_wp2_with fail
 repeat (go_quiet (fail); try go_wp2_with fail)
 obtain ⟨nr0, nf0, nr1, nf1, nr2, nf2, nr3, nf3⟩ := newt w nq
 have na0 := nal nq hc0
 have na1 := nal nq hc1
 have na2 := nal nq hx0
 have na3 := nal nq hx1
 have na4 := nal nq hx2
 have na5 := nal nq hx3
 go_region
 obtain ⟨w4, e4, hq4, hb4⟩ := tok_world w (nq + 1) 15 ⟨#[116, 114, 117, 101]⟩ t.start t.stop
 rw [e4]
 clear e4 na0 na1 na2 na3 na4 na5 nr0 nr1 nr2 nr3 nf0 nf1 nf2 nf3 hc0 hc1 hc4 hc5 hx0 hx1 hx2 hx3 hge hgl hal hf1 hf5
 have HI4 := aK (HI0.out.below hb4)
 have HB4 := aK (HBB.out.trans (hb4.mono HBB.out.size))
 have HK4 := aK (show KeepBut w w4 g none from ⟨hb4.size, fun i hi _ _ => hb4.block i hi⟩)
 have hgt : g ≠ w.heap.size := Nat.ne_of_lt HI0.out.lt
 have hsz4 := hb4.size
 clear hb4
 have ht0 : w4.cell? ⟨w.heap.size, 0, none⟩ = _ := (blk_cell hq4 0).trans rfl
 have ht1 : w4.cell? ⟨w.heap.size, 1, none⟩ = _ := (blk_cell hq4 1).trans rfl
 obtain ⟨A4, c4, HG4, hg4, HS4⟩ := HI4.out
 have hd1 := cellS45_1 HG4
 have hd5 := cellS45_5 HG4
 have hf1 := blk_frozen HG4 1
 have hf5 := blk_frozen HG4 5
 clear HG4 HS4 hq4
 go_wp2_with fail
 have HI5 := aK (HI4.out.set_1 ((i : Int) + 1))
 have HB5 := aK (below_set HB4.out hg4 (v := .int .i64 ((i : Int) + 1)) (j := 1))
 have HK5 := aK (HK4.out.set_ 1 (.int .i64 ((i : Int) + 1)))
 refine (made_none _ _ _ _ _ _).mono ?_
 rintro e w6 ⟨v, rfl, hr, hb6⟩
 have HR := aK hr
 have HB6 := aK hb6
 clear hr hb6
 go_wp2_with fail
 go_ret
 refine ⟨v, _, _, _, _, _, _, rfl, Kd.R_lower HR.out (by simpa using hsz4), HI5.out.below HB6.out, HB5.out.trans (HB6.out.mono HB5.out.size), HK5.out.trans ⟨HB6.out.size, fun i hi _ _ => HB6.out.block i hi⟩ (.inl rfl), ?_, .inl ⟨rfl, rfl, rfl, (i + 1), _, by omega, by omega, by omega, ?_, HN.out, lk_nd .nil (fun h => by first | rfl | (exfalso; omega))⟩⟩
 all_goals simp only [mk54, List.flatten_nil, List.length_nil, List.length_cons]
 all_goals omega
theorem here_false (cst : Bool) (L : List Tok) (i : Nat) (d wr : Int) (g : Nat) (w0 w : World) (hL : L.length ≤ 2000) (t : Tok) (r : List Tok) (ht : L.drop i = t :: r) (hk : t.kind = 15) (hv : t.value = ⟨#[102, 97, 108, 115, 101]⟩) (HI : IsS45 w0 w g (L.map sT) i d wr false false) (HB : Below w0.heap.size w0 w) :
  Calls Tryz.prog 34 #[.pointer (some ⟨g, 0, none⟩), .bool cst] w (VPost cst L i d g w0 w) := by
 have hi := lt_drop ht
 have hrl := rest_len ht
 have HF := aK (fun wx (h : IsS45 w0 wx g (L.map sT) i d wr false false) (hb : Below w0.heap.size w0 wx) => fail_any _ _ _ _ _ _ g w0 wx h hb)
 have HI0 := aK HI
 have hn3 : ¬ t.value.toList = nullT.toList := fun h => absurd (congrArg (fun b : ByteArray => b.data.toList) (hv.symm.trans (Go.Proofs.YtjoagdldbmlenaaGreatDoor.Lex.toList_inj h))) (by decide)
 have hn1 : ¬ t.value.toList = trueT.toList := fun h => absurd (congrArg (fun b : ByteArray => b.data.toList) (hv.symm.trans (Go.Proofs.YtjoagdldbmlenaaGreatDoor.Lex.toList_inj h))) (by decide)
 have hwd : word t.value = nd 15 emp emp emp 0 [] := by unfold word; rw [if_neg hn1, if_pos (by rw [hv]; rfl)]
 have hn : ∀ n, (L.drop i).length + 1 ≤ n → sVal cst n (L.drop i) = some (nd 15 emp emp emp 0 [], L.drop (i + 1)) := by
  intro n hn
  obtain ⟨n, rfl⟩ : ∃ m, n = m + 1 := ⟨n - 1, by omega⟩
  rw [drop_next ht, ht]
  unfold sVal
  rw [if_neg (by omega), if_neg (by omega), if_neg (by omega), if_pos hk, if_neg hn3, hwd]
 have HN := aK hn
 clear hn
 obtain ⟨ad, c0, hg, hc0, hc1, hc4, hc5, hf1, hf5, hx0, hx1, hx2, hx3, hgl, hal, p1, p2, hge, hw1⟩ := tok_open HI HB ht hL
 have HBB := aK HB
 clear ht HB HI
 rw [hk] at hx0
 rw [hv] at hx1
 clear hk hv hn3 hwd
 go_enter Tryz.func34, Tryz.ntmps34
 go_wp2_with fail
 repeat (go_quiet (fail); try go_wp2_with fail)
 obtain ⟨nr0, nf0, nr1, nf1, nr2, nf2, nr3, nf3⟩ := newt w nq
 have na0 := nal nq hc0
 have na1 := nal nq hc1
 have na2 := nal nq hx0
 have na3 := nal nq hx1
 have na4 := nal nq hx2
 have na5 := nal nq hx3
 go_region
 obtain ⟨w4, e4, hq4, hb4⟩ := tok_world w (nq + 1) 15 ⟨#[102, 97, 108, 115, 101]⟩ t.start t.stop
 rw [e4]
 clear e4 na0 na1 na2 na3 na4 na5 nr0 nr1 nr2 nr3 nf0 nf1 nf2 nf3 hc0 hc1 hc4 hc5 hx0 hx1 hx2 hx3 hge hgl hal hf1 hf5
 have HI4 := aK (HI0.out.below hb4)
 have HB4 := aK (HBB.out.trans (hb4.mono HBB.out.size))
 have HK4 := aK (show KeepBut w w4 g none from ⟨hb4.size, fun i hi _ _ => hb4.block i hi⟩)
 have hgt : g ≠ w.heap.size := Nat.ne_of_lt HI0.out.lt
 have hsz4 := hb4.size
 clear hb4
 have ht0 : w4.cell? ⟨w.heap.size, 0, none⟩ = _ := (blk_cell hq4 0).trans rfl
 have ht1 : w4.cell? ⟨w.heap.size, 1, none⟩ = _ := (blk_cell hq4 1).trans rfl
 obtain ⟨A4, c4, HG4, hg4, HS4⟩ := HI4.out
 have hd1 := cellS45_1 HG4
 have hd5 := cellS45_5 HG4
 have hf1 := blk_frozen HG4 1
 have hf5 := blk_frozen HG4 5
 clear HG4 HS4 hq4
 go_wp2_with fail
 have HI5 := aK (HI4.out.set_1 ((i : Int) + 1))
 have HB5 := aK (below_set HB4.out hg4 (v := .int .i64 ((i : Int) + 1)) (j := 1))
 have HK5 := aK (HK4.out.set_ 1 (.int .i64 ((i : Int) + 1)))
 refine (made_none _ _ _ _ _ _).mono ?_
 rintro e w6 ⟨v, rfl, hr, hb6⟩
 have HR := aK hr
 have HB6 := aK hb6
 clear hr hb6
 go_wp2_with fail
 go_ret
 refine ⟨v, _, _, _, _, _, _, rfl, Kd.R_lower HR.out (by simpa using hsz4), HI5.out.below HB6.out, HB5.out.trans (HB6.out.mono HB5.out.size), HK5.out.trans ⟨HB6.out.size, fun i hi _ _ => HB6.out.block i hi⟩ (.inl rfl), ?_, .inl ⟨rfl, rfl, rfl, (i + 1), _, by omega, by omega, by omega, ?_, HN.out, lk_nd .nil (fun h => by first | rfl | (exfalso; omega))⟩⟩
 all_goals simp only [mk54, List.flatten_nil, List.length_nil, List.length_cons]
 all_goals omega
theorem here_null (cst : Bool) (L : List Tok) (i : Nat) (d wr : Int) (g : Nat) (w0 w : World) (hL : L.length ≤ 2000) (t : Tok) (r : List Tok) (ht : L.drop i = t :: r) (hk : t.kind = 15) (hv : t.value = ⟨#[110, 117, 108, 108]⟩) (HI : IsS45 w0 w g (L.map sT) i d wr false false) (HB : Below w0.heap.size w0 w) :
  Calls Tryz.prog 34 #[.pointer (some ⟨g, 0, none⟩), .bool cst] w (VPost cst L i d g w0 w) := by
 have hi := lt_drop ht
 have hrl := rest_len ht
 have HF := aK (fun wx (h : IsS45 w0 wx g (L.map sT) i d wr false false) (hb : Below w0.heap.size w0 wx) => fail_any _ _ _ _ _ _ g w0 wx h hb)
 have HI0 := aK HI
 have hn : ∀ n, (L.drop i).length + 1 ≤ n → sVal cst n (L.drop i) = none := by
  intro n hn
  obtain ⟨n, rfl⟩ : ∃ m, n = m + 1 := ⟨n - 1, by omega⟩
  rw [ht]
  unfold sVal
  rw [if_neg (by omega), if_neg (by omega), if_neg (by omega), if_pos hk, if_pos (by rw [hv]; rfl)]
 have HN := aK hn
 clear hn
 obtain ⟨ad, c0, hg, hc0, hc1, hc4, hc5, hf1, hf5, hx0, hx1, hx2, hx3, hgl, hal, p1, p2, hge, hw1⟩ := tok_open HI HB ht hL
 have HBB := aK HB
 clear ht HB HI
 rw [hk] at hx0
 rw [hv] at hx1
 clear hk hv
 go_enter Tryz.func34, Tryz.ntmps34
 go_wp2_with fail
 repeat (go_quiet (fail); try go_wp2_with fail)
 obtain ⟨nr0, nf0, nr1, nf1, nr2, nf2, nr3, nf3⟩ := newt w nq
 have na0 := nal nq hc0
 have na1 := nal nq hc1
 have na2 := nal nq hx0
 have na3 := nal nq hx1
 have na4 := nal nq hx2
 have na5 := nal nq hx3
 go_region
 obtain ⟨w4, e4, hq4, hb4⟩ := tok_world w (nq + 1) 15 ⟨#[110, 117, 108, 108]⟩ t.start t.stop
 rw [e4]
 clear e4 na0 na1 na2 na3 na4 na5 nr0 nr1 nr2 nr3 nf0 nf1 nf2 nf3 hc0 hc1 hc4 hc5 hx0 hx1 hx2 hx3 hge hgl hal hf1 hf5
 have HI4 := aK (HI0.out.below hb4)
 have HB4 := aK (HBB.out.trans (hb4.mono HBB.out.size))
 have HK4 := aK (show KeepBut w w4 g none from ⟨hb4.size, fun i hi _ _ => hb4.block i hi⟩)
 have hgt : g ≠ w.heap.size := Nat.ne_of_lt HI0.out.lt
 have hsz4 := hb4.size
 clear hb4
 have ht0 : w4.cell? ⟨w.heap.size, 0, none⟩ = _ := (blk_cell hq4 0).trans rfl
 have ht1 : w4.cell? ⟨w.heap.size, 1, none⟩ = _ := (blk_cell hq4 1).trans rfl
 obtain ⟨A4, c4, HG4, hg4, HS4⟩ := HI4.out
 have hd1 := cellS45_1 HG4
 have hd5 := cellS45_5 HG4
 have hf1 := blk_frozen HG4 1
 have hf5 := blk_frozen HG4 5
 clear HG4 HS4 hq4
 go_wp2_with fail
 have HI5 := aK ((HI4.out.set_1 ((i : Int) + 1)).set_5 true)
 have HB5 := aK (below_set (below_set HB4.out hg4 (v := .int .i64 ((i : Int) + 1)) (j := 1)) hg4 (v := .bool true) (j := 5))
 have HK5 := aK ((HK4.out.set_ 1 (.int .i64 ((i : Int) + 1))).set_ 5 (.bool true))
 refine (fail_any _ _ _ _ _ _ g w0 _ HI5.out HB5.out).mono ?_
 rintro e w5 ⟨v, wr', rfl, hr, hi5, hb, hk5⟩
 have HR := aK hr
 have HI6 := aK hi5
 have HB6 := aK hb
 have HK6 := aK hk5
 clear hr hi5 hb hk5
 go_wp2_with fail
 go_ret
 exact ⟨v, [], _, _, _, _, _, rfl, Kd.R_lower HR.out (by simpa using hsz4), HI6.out, HB6.out, HK5.out.trans HK6.out (.inl rfl), by simp only [List.length_nil]; omega, .inr ⟨rfl, .inl rfl⟩⟩
theorem here_word (cst : Bool) (L : List Tok) (i : Nat) (d wr : Int) (g : Nat) (w0 w : World) (hL : L.length ≤ 2000) (t : Tok) (r : List Tok) (ht : L.drop i = t :: r) (hk : t.kind = 15) (h1 : t.value.toList ≠ [116, 114, 117, 101]) (h2 : t.value.toList ≠ [102, 97, 108, 115, 101]) (h3 : t.value.toList ≠ [110, 117, 108, 108]) (HI : IsS45 w0 w g (L.map sT) i d wr false false) (HB : Below w0.heap.size w0 w) :
  Calls Tryz.prog 34 #[.pointer (some ⟨g, 0, none⟩), .bool cst] w (VPost cst L i d g w0 w) := by
 have hi := lt_drop ht
 have hrl := rest_len ht
 have HF := aK (fun wx (h : IsS45 w0 wx g (L.map sT) i d wr false false) (hb : Below w0.heap.size w0 wx) => fail_any _ _ _ _ _ _ g w0 wx h hb)
 have HI0 := aK HI
 have e1 : trueT.toList = [116, 114, 117, 101] := by decide +kernel
 have e2 : falseT.toList = [102, 97, 108, 115, 101] := by decide +kernel
 have e3 : nullT.toList = [110, 117, 108, 108] := by decide +kernel
 have hwd : word t.value = nd 16 t.value emp emp 0 [] := by unfold word; rw [e1, e2, if_neg h1, if_neg h2]
 have hn : ∀ n, (L.drop i).length + 1 ≤ n → sVal cst n (L.drop i) = some (nd 16 t.value emp emp 0 [], L.drop (i + 1)) := by
  intro n hn
  obtain ⟨n, rfl⟩ : ∃ m, n = m + 1 := ⟨n - 1, by omega⟩
  rw [drop_next ht, ht]
  unfold sVal
  rw [if_neg (by omega), if_neg (by omega), if_neg (by omega), if_pos hk, if_neg (by rw [e3]; exact h3), hwd]
 have HN := aK hn
 clear hn
 obtain ⟨ad, c0, hg, hc0, hc1, hc4, hc5, hf1, hf5, hx0, hx1, hx2, hx3, hgl, hal, p1, p2, hge, hw1⟩ := tok_open HI HB ht hL
 have HBB := aK HB
 clear ht HB HI
 rw [hk] at hx0
 have b1 : (t.value.toList == [116, 114, 117, 101]) = false := beq_eq_false_iff_ne.2 h1
 have b2 : (t.value.toList == [102, 97, 108, 115, 101]) = false := beq_eq_false_iff_ne.2 h2
 have b3 : (t.value.toList == [110, 117, 108, 108]) = false := beq_eq_false_iff_ne.2 h3
 clear hk hwd e1 e2 e3
 go_enter Tryz.func34, Tryz.ntmps34
 go_wp2_with fail
 repeat (go_quiet (fail); try go_wp2_with fail)
 obtain ⟨nr0, nf0, nr1, nf1, nr2, nf2, nr3, nf3⟩ := newt w nq
 have na0 := nal nq hc0
 have na1 := nal nq hc1
 have na2 := nal nq hx0
 have na3 := nal nq hx1
 have na4 := nal nq hx2
 have na5 := nal nq hx3
 go_region
 obtain ⟨w4, e4, hq4, hb4⟩ := tok_world w (nq + 1) 15 t.value t.start t.stop
 rw [e4]
 clear e4 na0 na1 na2 na3 na4 na5 nr0 nr1 nr2 nr3 nf0 nf1 nf2 nf3 hc0 hc1 hc4 hc5 hx0 hx1 hx2 hx3 hge hgl hal hf1 hf5
 have HI4 := aK (HI0.out.below hb4)
 have HB4 := aK (HBB.out.trans (hb4.mono HBB.out.size))
 have HK4 := aK (show KeepBut w w4 g none from ⟨hb4.size, fun i hi _ _ => hb4.block i hi⟩)
 have hgt : g ≠ w.heap.size := Nat.ne_of_lt HI0.out.lt
 have hsz4 := hb4.size
 clear hb4
 have ht0 : w4.cell? ⟨w.heap.size, 0, none⟩ = _ := (blk_cell hq4 0).trans rfl
 have ht1 : w4.cell? ⟨w.heap.size, 1, none⟩ = _ := (blk_cell hq4 1).trans rfl
 obtain ⟨A4, c4, HG4, hg4, HS4⟩ := HI4.out
 have hd1 := cellS45_1 HG4
 have hd5 := cellS45_5 HG4
 have hf1 := blk_frozen HG4 1
 have hf5 := blk_frozen HG4 5
 clear HG4 HS4 hq4
 go_wp2_with fail
 have HI5 := aK (HI4.out.set_1 ((i : Int) + 1))
 have HB5 := aK (below_set HB4.out hg4 (v := .int .i64 ((i : Int) + 1)) (j := 1))
 have HK5 := aK (HK4.out.set_ 1 (.int .i64 ((i : Int) + 1)))
 refine (made_none _ _ _ _ _ _).mono ?_
 rintro e w6 ⟨v, rfl, hr, hb6⟩
 have HR := aK hr
 have HB6 := aK hb6
 clear hr hb6
 go_wp2_with fail
 go_ret
 refine ⟨v, _, _, _, _, _, _, rfl, Kd.R_lower HR.out (by simpa using hsz4), HI5.out.below HB6.out, HB5.out.trans (HB6.out.mono HB5.out.size), HK5.out.trans ⟨HB6.out.size, fun i hi _ _ => HB6.out.block i hi⟩ (.inl rfl), ?_, .inl ⟨rfl, rfl, rfl, (i + 1), _, by omega, by omega, by omega, ?_, HN.out, lk_nd .nil (fun h => by first | rfl | (exfalso; omega))⟩⟩
 all_goals simp only [mk54, List.flatten_nil, List.length_nil, List.length_cons]
 all_goals omega
end Go.Proofs.YtjoagdldbmlenaaGreatDoor.Rp
