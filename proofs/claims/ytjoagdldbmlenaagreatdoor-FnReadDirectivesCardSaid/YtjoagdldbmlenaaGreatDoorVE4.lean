import Derived.Test.YtjoagdldbmlenaaGreatDoorVE2
import Derived.Test.YtjoagdldbmlenaaGreatDoorVE1
set_option maxRecDepth 100000
set_option maxHeartbeats 8000000
set_option linter.unusedVariables false
set_option linter.unusedSimpArgs false
namespace Go.Proofs.YtjoagdldbmlenaaGreatDoor.Rp
open Go.RowKit Go.Proofs.YtjoagdldbmlenaaGreatDoorW.PrintWords Go.Proofs.YtjoagdldbmlenaaGreatDoorW.PrintLast PFnReadDirectives Go.Proofs.YtjoagdldbmlenaaGreatDoor.Mod Tree Rel
theorem here_var (cst : Bool) (L : List Tok) (i : Nat) (d wr : Int) (g : Nat) (w0 w : World) (hL : L.length ≤ 2000) (t : Tok) (r : List Tok) (ht : L.drop i = t :: r) (hk : t.kind = 3) (hc : cst = false) (t2 : Tok) (r2 : List Tok) (hr2 : r = t2 :: r2) (hk2 : t2.kind = 15) (HI : IsS45 w0 w g (L.map sT) i d wr false false) (HB : Below w0.heap.size w0 w) :
  Calls Tryz.prog 34 #[.pointer (some ⟨g, 0, none⟩), .bool cst] w (VPost cst L i d g w0 w) := by
 have hi := lt_drop ht
 have hrl := rest_len ht
 have HF := aK (fun wx (h : IsS45 w0 wx g (L.map sT) i d wr false false) (hb : Below w0.heap.size w0 wx) => fail_any _ _ _ _ _ _ g w0 wx h hb)
 have HI0 := aK HI
 have ht2 : L.drop (i + 1) = t2 :: r2 := (drop_next ht).trans hr2
 have hi2 := lt_drop ht2
 have HY := aK (name_yes L (i + 1) d wr false hL ht2 hk2)
 have hn : ∀ n, (L.drop i).length + 1 ≤ n → sVal cst n (L.drop i) = some (nd 11 t2.value emp emp 0 [], L.drop (i + 2)) := by
  intro n hn
  obtain ⟨n, rfl⟩ : ∃ m, n = m + 1 := ⟨n - 1, by omega⟩
  rw [show L.drop (i + 2) = r2 from drop_next ht2, ht]
  unfold sVal
  rw [if_neg (by omega), if_neg (by omega), if_neg (by omega), if_neg (by omega), if_pos ⟨hk, hc⟩, hr2]
  rw [show sName (t2 :: r2) = some (t2.value, r2) from if_pos hk2]
  rfl
 have HN := aK hn
 clear hn
 obtain ⟨ad, c0, hg, hc0, hc1, hc4, hc5, hf1, hf5, hx0, hx1, hx2, hx3, hgl, hal, p1, p2, hge, hw1⟩ := tok_open HI HB ht hL
 have HBB := aK HB
 clear ht HB HI
 subst hc
 rw [hk] at hx0
 clear hk ht2 hr2 hk2
 go_enter Tryz.func34, Tryz.ntmps34
 go_wp2_with fail
 repeat (go_quiet (fail); try go_wp2_with fail)
 obtain ⟨nr0, nf0, nr1, nf1, nr2, nf2, nr3, nf3⟩ := newt w nq
 have na0 := nal nq hc0
 have na1 := nal nq hc1
 have na2 := nal nq hx0
 have na3 := nal nq hx1
 have na4 := nal nq hx2
 have na5 := nal nq hx3
 go_region
 obtain ⟨w4, e4, hq4, hb4⟩ := tok_world w (nq + 1) 3 t.value t.start t.stop
 rw [e4]
 clear e4 na0 na1 na2 na3 na4 na5 nr0 nr1 nr2 nr3 nf0 nf1 nf2 nf3 hc0 hc1 hc4 hc5 hx0 hx1 hx2 hx3 hge hgl hal hf1 hf5
 have HI4 := aK (HI0.out.below hb4)
 have HB4 := aK (HBB.out.trans (hb4.mono HBB.out.size))
 have HK4 := aK (show KeepBut w w4 g none from ⟨hb4.size, fun i hi _ _ => hb4.block i hi⟩)
 have hgt : g ≠ w.heap.size := Nat.ne_of_lt HI0.out.lt
 have hsz4 := hb4.size
 clear hb4
 have ht0 : w4.cell? ⟨w.heap.size, 0, none⟩ = _ := (blk_cell hq4 0).trans rfl
 have ht1 : w4.cell? ⟨w.heap.size, 1, none⟩ = _ := (blk_cell hq4 1).trans rfl
 obtain ⟨A4, c4, HG4, hg4, HS4⟩ := HI4.out
 have hd1 := cellS45_1 HG4
 have hd5 := cellS45_5 HG4
 have hf1 := blk_frozen HG4 1
 have hf5 := blk_frozen HG4 5
 clear HG4 HS4 hq4
 go_wp2_with fail
 have HI5 := aK (HI4.out.set_1 ((i : Int) + 1))
 have HB5 := aK (below_set HB4.out hg4 (v := .int .i64 ((i : Int) + 1)) (j := 1))
 have HK5 := aK (HK4.out.set_ 1 (.int .i64 ((i : Int) + 1)))
 have HM := aK (made_none 11 t2.value emp emp 0)
 have HNm := aK (spec_parser_name.calls g _ _ _ _ _ _ _ _ _ _ _ _ w0 _ HI5.out HB5.out HY.out)
 refine HNm.out.mono ?_
 rintro e w6 ⟨rfl, hi6, hb6, hk6⟩
 have HI6 := aK hi6
 have HB6 := aK hb6
 have HK6 := aK (HK5.out.trans hk6 (.inl rfl))
 have hsz6 : w.heap.size ≤ w6.heap.size := HK6.out.1
 clear hi6 hb6 hk6
 go_wp2_with fail
 refine (HM.out _).mono ?_
 rintro e w7 ⟨v, rfl, hr, hb7⟩
 have HR := aK hr
 have HB7 := aK hb7
 clear hr hb7
 go_wp2_with fail
 go_ret
 refine ⟨v, _, _, _, _, _, _, rfl, Kd.R_lower HR.out hsz6, HI6.out.below HB7.out, HB6.out.trans (HB7.out.mono HB6.out.size), HK6.out.trans ⟨HB7.out.size, fun i hi _ _ => HB7.out.block i hi⟩ (.inl rfl), ?_, .inl ⟨rfl, rfl, rfl, (i + 2), _, by omega, by omega, by omega, ?_, HN.out, lk_nd .nil (fun h => by first | rfl | (exfalso; omega))⟩⟩
 all_goals simp only [mk54, List.flatten_nil, List.length_nil, List.length_cons]
 all_goals omega
theorem here_vno (cst : Bool) (L : List Tok) (i : Nat) (d wr : Int) (g : Nat) (w0 w : World) (hL : L.length ≤ 2000) (t : Tok) (r : List Tok) (ht : L.drop i = t :: r) (hk : t.kind = 3) (hc : cst = false) (hr2 : Rp.hk r ≠ 15) (HI : IsS45 w0 w g (L.map sT) i d wr false false) (HB : Below w0.heap.size w0 w) :
  Calls Tryz.prog 34 #[.pointer (some ⟨g, 0, none⟩), .bool cst] w (VPost cst L i d g w0 w) := by
 have hi := lt_drop ht
 have hrl := rest_len ht
 have HF := aK (fun wx (h : IsS45 w0 wx g (L.map sT) i d wr false false) (hb : Below w0.heap.size w0 wx) => fail_any _ _ _ _ _ _ g w0 wx h hb)
 have HI0 := aK HI
 have HY := aK (name_no L (i + 1) d wr false hL (by omega) (by rw [drop_next ht]; exact hr2))
 have hn : ∀ n, (L.drop i).length + 1 ≤ n → sVal cst n (L.drop i) = none := by
  intro n hn
  obtain ⟨n, rfl⟩ : ∃ m, n = m + 1 := ⟨n - 1, by omega⟩
  rw [ht]
  unfold sVal
  rw [if_neg (by omega), if_neg (by omega), if_neg (by omega), if_neg (by omega), if_pos ⟨hk, hc⟩]
  cases r with
  | nil => rfl
  | cons a b =>
   rw [show sName (a :: b) = none from if_neg hr2]
   rfl
 have HN := aK hn
 clear hn
 obtain ⟨ad, c0, hg, hc0, hc1, hc4, hc5, hf1, hf5, hx0, hx1, hx2, hx3, hgl, hal, p1, p2, hge, hw1⟩ := tok_open HI HB ht hL
 have HBB := aK HB
 clear ht HB HI
 subst hc
 rw [hk] at hx0
 clear hk hr2
 go_enter Tryz.func34, Tryz.ntmps34
 go_wp2_with fail
 repeat (go_quiet (fail); try go_wp2_with fail)
 obtain ⟨nr0, nf0, nr1, nf1, nr2, nf2, nr3, nf3⟩ := newt w nq
 have na0 := nal nq hc0
 have na1 := nal nq hc1
 have na2 := nal nq hx0
 have na3 := nal nq hx1
 have na4 := nal nq hx2
 have na5 := nal nq hx3
 go_region
 obtain ⟨w4, e4, hq4, hb4⟩ := tok_world w (nq + 1) 3 t.value t.start t.stop
 rw [e4]
 clear e4 na0 na1 na2 na3 na4 na5 nr0 nr1 nr2 nr3 nf0 nf1 nf2 nf3 hc0 hc1 hc4 hc5 hx0 hx1 hx2 hx3 hge hgl hal hf1 hf5
 have HI4 := aK (HI0.out.below hb4)
 have HB4 := aK (HBB.out.trans (hb4.mono HBB.out.size))
 have HK4 := aK (show KeepBut w w4 g none from ⟨hb4.size, fun i hi _ _ => hb4.block i hi⟩)
 have hgt : g ≠ w.heap.size := Nat.ne_of_lt HI0.out.lt
 have hsz4 := hb4.size
 clear hb4
 have ht0 : w4.cell? ⟨w.heap.size, 0, none⟩ = _ := (blk_cell hq4 0).trans rfl
 have ht1 : w4.cell? ⟨w.heap.size, 1, none⟩ = _ := (blk_cell hq4 1).trans rfl
 obtain ⟨A4, c4, HG4, hg4, HS4⟩ := HI4.out
 have hd1 := cellS45_1 HG4
 have hd5 := cellS45_5 HG4
 have hf1 := blk_frozen HG4 1
 have hf5 := blk_frozen HG4 5
 clear HG4 HS4 hq4
 go_wp2_with fail
 have HI5 := aK (HI4.out.set_1 ((i : Int) + 1))
 have HB5 := aK (below_set HB4.out hg4 (v := .int .i64 ((i : Int) + 1)) (j := 1))
 have HK5 := aK (HK4.out.set_ 1 (.int .i64 ((i : Int) + 1)))
 have HM := aK (made_none 11 emp emp emp 0)
 have HNm := aK (spec_parser_name.calls g _ _ _ _ _ _ _ _ _ _ _ _ w0 _ HI5.out HB5.out HY.out)
 refine HNm.out.mono ?_
 rintro e w6 ⟨rfl, hi6, hb6, hk6⟩
 have HI6 := aK hi6
 have HB6 := aK hb6
 have HK6 := aK (HK5.out.trans hk6 (.inl rfl))
 have hsz6 : w.heap.size ≤ w6.heap.size := HK6.out.1
 clear hi6 hb6 hk6
 go_wp2_with fail
 refine (HM.out _).mono ?_
 rintro e w7 ⟨v, rfl, hr, hb7⟩
 have HR := aK hr
 have HB7 := aK hb7
 clear hr hb7
 go_wp2_with fail
 go_ret
 refine ⟨v, _, _, _, _, _, _, rfl, Kd.R_lower HR.out hsz6, HI6.out.below HB7.out, HB6.out.trans (HB7.out.mono HB6.out.size), HK6.out.trans ⟨HB7.out.size, fun i hi _ _ => HB7.out.block i hi⟩ (.inl rfl), ?_, .inr ⟨rfl, .inr HN.out⟩⟩
 all_goals simp only [mk54, List.flatten_nil, List.length_nil, List.length_cons]
 all_goals omega
theorem own8 {u v : Value} {m n : Nat} (h : ∀ k, u.ownBlock = some k → m ≤ k) (hn : m ≤ n) (ho : v.ownBlock = u.ownBlock ∨ ∃ b, v.ownBlock = some b ∧ n ≤ b) : ∀ k, v.ownBlock = some k → m ≤ k := by
 intro k hk
 rcases ho with h1 | ⟨b, h1, h2⟩
 ·exact h k (h1 ▸ hk)
 ·rw [h1] at hk
  have := Option.some.inj hk
  omega
theorem own_or {u : Value} {m : Nat} (h : ∀ k, u.ownBlock = some k → m ≤ k) : u.ownBlock = none ∨ ∃ b, u.ownBlock = some b ∧ m ≤ b := by
 cases e : u.ownBlock with
 | none => exact .inl rfl
 | some b => exact .inr ⟨b, rfl, h b e⟩
theorem list_none {cst : Bool} {L r : List Tok} {t : Tok} {i : Nat} (ht : L.drop i = t :: r) (hk : t.kind = 10) (h : ∀ n, (L.drop (i + 1)).length + 1 ≤ n → sMany (sVal cst n) 11 n (L.drop (i + 1)) = none) : ∀ n, (L.drop i).length + 1 ≤ n → sVal cst n (L.drop i) = none := by
 intro n hn
 rw [drop_next ht] at h
 rw [ht, List.length_cons] at hn
 rw [ht]
 obtain ⟨m, rfl⟩ : ∃ m, n = m + 1 := ⟨n - 1, by omega⟩
 unfold sVal
 rw [if_pos hk, h m (by omega)]
 rfl
theorem list_some {cst : Bool} {L r : List Tok} {t : Tok} {i j : Nat} {X : List NL} (ht : L.drop i = t :: r) (hk : t.kind = 10) (h : ∀ n, (L.drop (i + 1)).length + 1 ≤ n → sMany (sVal cst n) 11 n (L.drop (i + 1)) = some (X, L.drop j)) : ∀ n, (L.drop i).length + 1 ≤ n → sVal cst n (L.drop i) = some (nd 17 emp emp emp 0 X, L.drop j) := by
 intro n hn
 rw [drop_next ht] at h
 rw [ht, List.length_cons] at hn
 conv => lhs; rw [ht]
 obtain ⟨m, rfl⟩ : ∃ m, n = m + 1 := ⟨n - 1, by omega⟩
 unfold sVal
 rw [if_pos hk, h m (by omega)]
 rfl
theorem made_kids (k : Int) (K : List (List S51)) (A : Option Addr) (c : Nat) (w : World) (base : Nat) (ok : Nat → Prop) (hN : Kd.N (Kd.slice 51 k51) 25 w base ok (.slice A K.length c) K) (h1 : K.length ≤ 1000000) (h2 : 1 + K.flatten.length ≤ 1000000) :
  Calls Tryz.prog 30 #[.agg #[.int .i64 k, .string emp, .string emp, .string emp, .int .i64 0, .int .i64 0], .slice A K.length c] w fun e w' => ∃ v : Value, e = .returned v ∧ Kd.R k51 51 w' w.heap.size (fun _ => True) v (mk54 k emp emp emp 0 K) ∧ Below w.heap.size w w' :=
 spec_Made.calls (K.length + 1) k emp emp emp 0 0 A c K _ w (Kd.N_reads' hN).2.2 (Kd.N_reads' hN).2.1 (made_eq k emp emp emp 0 0 K h1 h2)
theorem here_list (cst : Bool) (L : List Tok) (i : Nat) (d wr : Int) (g : Nat) (w0 w : World) (hL : L.length ≤ 2000) (t : Tok) (r : List Tok) (ht : L.drop i = t :: r) (hk : t.kind = 10) (HV : ∀ (j : Nat) (wr2 : Int) (wx : World), j ≤ L.length → IsS45 w0 wx g (L.map sT) j d wr2 false false → Below w0.heap.size w0 wx → Calls Tryz.prog 14 #[.pointer (some ⟨g, 0, none⟩), .bool cst] wx (VPost cst L j d g w0 wx))  (HI : IsS45 w0 w g (L.map sT) i d wr false false) (HB : Below w0.heap.size w0 w) :
  Calls Tryz.prog 34 #[.pointer (some ⟨g, 0, none⟩), .bool cst] w (VPost cst L i d g w0 w) := by
 have hi := lt_drop ht
 have hrl := rest_len ht
 have HF := aK (fun wx (h : IsS45 w0 wx g (L.map sT) i d wr false false) (hb : Below w0.heap.size w0 wx) => fail_any _ _ _ _ _ _ g w0 wx h hb)
 have HI0 := aK HI
 have HV := aK HV
 have HT := aK ht
 have HKD := aK hk
 obtain ⟨ad, c0, hg, hc0, hc1, hc4, hc5, hf1, hf5, hx0, hx1, hx2, hx3, hgl, hal, p1, p2, hge, hw1⟩ := tok_open HI HB ht hL
 have HBB := aK HB
 clear ht HB HI
 rw [hk] at hx0
 clear hk
 go_enter Tryz.func34, Tryz.ntmps34
 go_wp2_with fail
 repeat (go_quiet (fail); try go_wp2_with fail)
 obtain ⟨nr0, nf0, nr1, nf1, nr2, nf2, nr3, nf3⟩ := newt w nq
 have na0 := nal nq hc0
 have na1 := nal nq hc1
 have na2 := nal nq hx0
 have na3 := nal nq hx1
 have na4 := nal nq hx2
 have na5 := nal nq hx3
 go_region
 obtain ⟨w4, e4, hq4, hb4⟩ := tok_world w (nq + 1) 10 t.value t.start t.stop
 rw [e4]
 clear e4 na0 na1 na2 na3 na4 na5 nr0 nr1 nr2 nr3 nf0 nf1 nf2 nf3 hc0 hc1 hc4 hc5 hx0 hx1 hx2 hx3 hge hgl hal hf1 hf5
 have HI4 := aK (HI0.out.below hb4)
 have HB4 := aK (HBB.out.trans (hb4.mono HBB.out.size))
 have HK4 := aK (show KeepBut w w4 g none from ⟨hb4.size, fun i hi _ _ => hb4.block i hi⟩)
 have hgt : g ≠ w.heap.size := Nat.ne_of_lt HI0.out.lt
 have hsz4 := hb4.size
 clear hb4
 have ht0 : w4.cell? ⟨w.heap.size, 0, none⟩ = _ := (blk_cell hq4 0).trans rfl
 have ht1 : w4.cell? ⟨w.heap.size, 1, none⟩ = _ := (blk_cell hq4 1).trans rfl
 obtain ⟨A4, c4, HG4, hg4, HS4⟩ := HI4.out
 have hd1 := cellS45_1 HG4
 have hd5 := cellS45_5 HG4
 have hf1 := blk_frozen HG4 1
 have hf5 := blk_frozen HG4 5
 clear HG4 HS4 hq4
 go_wp2_with fail
 have HI5 := aK (HI4.out.set_1 ((i : Int) + 1))
 have HB5 := aK (below_set HB4.out hg4 (v := .int .i64 ((i : Int) + 1)) (j := 1))
 have HK5 := aK (HK4.out.set_ 1 (.int .i64 ((i : Int) + 1)))
 clear hd1 hd5 hf1 hf5 ht0 ht1 HI4 HB4 HK4
 go_loopg [6] (L.length + 2) (fun kq v6 w' => ∃ (K : List (List S51)) (a dd wr2 : Int) (b u : Bool), Aside0 (Kd.N (Kd.slice 51 k51) 25 w' w0.heap.size (fun k => k ≠ g) v6 K) ∧ Aside0 (∀ k, v6.ownBlock = some k → w.heap.size ≤ k) ∧ Aside0 (IsS45 w0 w' g (L.map sT) a dd wr2 b u) ∧ Aside0 (Below w0.heap.size w0 w') ∧ Aside0 (KeepBut w w' g none) ∧ Aside0 (LInv (sVal cst) 11 L (i + 1) d K a dd b u kq))
 case atStart => exact ⟨[], (i : Int) + 1, d, wr, false, false, ⟨Kd.N_nil _ _ _ _ _⟩, ⟨fun k hk => by simp [Value.ownBlock] at hk⟩, HI5, HB5, HK5, ⟨LInv.begin_ (by omega) (by omega)⟩⟩
 case round =>
  obtain ⟨K, a, dd, wr2, b, u, HNr, HOr, HIr, HBr, HKr, HLr⟩ := hrel
  obtain ⟨Ar, cr, HGr, hgr, HSr⟩ := HIr.out
  have hr4 := cellS45_4 HGr
  clear HGr HSr
  cases b with
  | true =>
   obtain ⟨Ak, ck, ek⟩ := Kd.N_slice HNr.out
   subst ek
   have HM := aK (made_kids 17 K Ak ck _ _ _ HNr.out (by have := HLr.out.1; omega) (by have := HLr.out.2.1; omega))
   go_wp2_with fail
   refine HM.out.mono ?_
   rintro e w9 ⟨v, rfl, hr9, hb9⟩
   have HR := aK hr9
   have HB9 := aK hb9
   clear hr9 hb9
   go_wp2_with fail
   go_ret
   refine ⟨v, _, _, _, _, _, _, rfl, Kd.R_lower HR.out HKr.out.1, HIr.out.below HB9.out, HBr.out.trans (HB9.out.mono HBr.out.size), HKr.out.trans ⟨HB9.out.size, fun i hi _ _ => HB9.out.block i hi⟩ (.inl rfl), ?_, .inr ⟨rfl, ?_⟩⟩
   ·have := HLr.out.2.1
    simp only [mk54, List.length_cons]
    omega
   ·rcases HLr.out.2.2 with ⟨h, _⟩ | ⟨_, h⟩
    ·cases h
    ·exact h.imp id (list_none HT.out HKD.out)
  | false =>
   rcases HLr.out.2.2 with ⟨_, hu, hdd, j, X, hj, hjl, hKj, hFj, hq, hKX, hall⟩ | ⟨h, _⟩
   rotate_left
   ·cases h
   have hdd2 := hdd.symm
   subst hu hj hdd2
   have HKX := aK hKX
   clear hKX hall
   by_cases hcl : Rp.hk (L.drop j) = 11
   ·have hte := taken_eq L j d wr2 false hL hjl 11
    rw [if_pos hcl] at hte
    have HTk := aK (spec_parser_taken.calls g _ _ _ _ _ _ 11 _ _ _ _ _ _ w0 wr HIr.out HBr.out hte)
    have HLD := aK (HLr.out.done hcl (by decide))
    clear hte hcl
    go_wp2_with fail
    refine HTk.out.mono ?_
    rintro e w5 ⟨rfl, hi5, hb5, hk5⟩
    have HI6 := aK hi5
    have HB6 := aK hb5
    have HK6 := aK (HKr.out.trans hk5 (.inl rfl))
    have HN6 := aK (Kd.N_keep HNr.out hk5 (fun _ h => h))
    clear hi5 hb5 hk5
    obtain ⟨Ak, ck, ek⟩ := Kd.N_slice HN6.out
    subst ek
    have HM := aK (made_kids 17 K Ak ck _ _ _ HN6.out (by have := HLr.out.1; omega) (by have := HLr.out.2.1; omega))
    go_wp2_with fail
    refine HM.out.mono ?_
    rintro e w9 ⟨v, rfl, hr9, hb9⟩
    have HR := aK hr9
    have HB9 := aK hb9
    clear hr9 hb9
    go_wp2_with fail
    go_ret
    obtain ⟨_, _, X2, hX2, hj2, hF2, hs2⟩ := HLD.out
    refine ⟨v, _, _, _, _, _, _, rfl, Kd.R_lower HR.out HK6.out.1, HI6.out.below HB9.out, HB6.out.trans (HB9.out.mono HB6.out.size), HK6.out.trans ⟨HB9.out.size, fun i hi _ _ => HB9.out.block i hi⟩ (.inl rfl), ?_, .inl ⟨rfl, rfl, rfl, j + 1, _, by omega, by omega, by omega, ?_, list_some HT.out HKD.out hs2, lk_nd hX2 (fun h => rfl)⟩⟩
    ·simp only [mk54, List.length_cons]
     omega
    ·simp only [mk54, List.length_cons]
     omega
   ·have hte := taken_eq L j d wr2 false hL hjl 11
    rw [if_neg hcl] at hte
    have HTk := aK (spec_parser_taken.calls g _ _ _ _ _ _ 11 _ _ _ _ _ _ w0 wr HIr.out HBr.out hte)
    have HCL := aK hcl
    clear hte hcl
    go_wp2_with fail
    refine HTk.out.mono ?_
    rintro e w5 ⟨rfl, hi5, hb5, hk5⟩
    have HG5 := aK hi5.lt
    have HVC := aK (HV.out j wr2 w5 hjl hi5 hb5)
    have HK6 := aK (HKr.out.trans hk5 (.inl rfl))
    have HN6 := aK (Kd.N_keep HNr.out hk5 (fun _ h => h))
    have HU5 := aK (Kd.N_lt HN6.out)
    clear hi5 hb5 hk5
    obtain ⟨k1, rfl⟩ : ∃ k1, gk = k1 + 1 := ⟨gk - 1, by omega⟩
    go_wp2_with fail
    refine HVC.out.mono ?_
    rintro e w7 ⟨v, ns, a2, dd2, wr3, b2, u2, rfl, hr7, hi7, hb7, hk7, hv7⟩
    have HR7 := aK hr7
    have HI7 := aK hi7
    have HB7 := aK hb7
    have HK7 := aK (HK6.out.trans hk7 (.inl rfl))
    have HN7 := aK (Kd.N_keep HN6.out hk7 (fun _ h => h))
    have HV7 := aK hv7
    clear hr7 hi7 hb7 hk7 hv7
    obtain ⟨A7, c7, e7⟩ := Kd.R_slice HR7.out
    subst e7
    have HR8 := Kd.R_mono (ok' := fun k => k ≠ g ∧ some k ≠ u6.ownBlock) (Kd.R_bound HR7.out) (fun k h => ⟨fun e => by have h1 := HG5.out; have h2 := h.2.1; omega, fun e => by have h1 := HU5.out k e.symm; have h2 := h.2.1; omega⟩)
    have HFK := aK ((show Kd.FK (Kd.slice 51 k51) w7 (fun k => k ≠ g ∧ some k ≠ u6.ownBlock) ns [.slice A7 ns.length c7] from Kd.FK_slice_mk (Kd.R_reads' HR8).2.1 (Kd.R_F HR8)))
    clear HR8
    have HFR := aK (show ∀ k, w7.heap.size ≤ k → k ≠ g from fun k hk => IsS45.fresh HI7.out k hk)
    have HSZ := aK HB7.out.size
    have HLM := aK (show (K.length + 1) * 24 ≤ 140737488355328 by have := HLr.out.1; omega)
    go_wp2_with (first | ((with_reducible refine gate_builtin (b := .append) (xs := #[.tmp 133, .tmp 137]) rfl ?_); at_builtin; refine Kd.N_append (Kd.slice 51 k51) (w0 := w0) w0.heap.size rfl (.tmp 133) (.tmp 137) 87 25 (.slice none 0 0) 24 rfl Tryz.underlying87 info25 rfl (by decide) (by omega) u6 K ns [.slice A7 ns.length c7] (fun k => k ≠ g) (fun k => k ≠ g ∧ some k ≠ u6.ownBlock) rfl rfl HFK.out (fun _ h => h) HFR.out HN7.out HB7.out HSZ.out HLM.out ?_; intro v8 w8 hn8 hb8 hg8 ho8; have HN8 := aK hn8; have HB8 := aK hb8; have HG8 := aK hg8; have HO8 := aK ho8; clear hn8 hb8 hg8 ho8))
    go_roundg k1
    case measure => first | omega | simp
    case rel => exact ⟨K ++ [ns], a2, dd2, wr3, b2, u2, HN8, ⟨own8 HOr.out HK7.out.1 HO8.out⟩, ⟨HI7.out.grown HG8.out (HI7.out.own_neN HN7.out (by decide))⟩, HB8, ⟨HK7.out.trans (KeepBut.of_grown HG8.out g) (own_or HOr.out)⟩, ⟨HLr.out.more hjl HCL.out HV7.out.kres hKj hFj⟩⟩
end Go.Proofs.YtjoagdldbmlenaaGreatDoor.Rp
