import Derived.Test.YtjoagdldbmlenaaGreatDoorVE4
import Derived.Test.YtjoagdldbmlenaaGreatDoorVE1
import Derived.Deep.RegionHeld3
set_option maxRecDepth 100000
set_option maxHeartbeats 8000000
set_option linter.unusedVariables false
set_option linter.unusedSimpArgs false
namespace Go.Proofs.YtjoagdldbmlenaaGreatDoor.Rp
open Go.RowKit Go.Proofs.YtjoagdldbmlenaaGreatDoorW.PrintWords Go.Proofs.YtjoagdldbmlenaaGreatDoorW.PrintLast PFnReadDirectives Go.Proofs.YtjoagdldbmlenaaGreatDoor.Mod Tree Rel
theorem here_obj (cst : Bool) (L : List Tok) (i : Nat) (d wr : Int) (g : Nat) (w0 w : World) (hL : L.length ≤ 2000) (t : Tok) (r : List Tok) (ht : L.drop i = t :: r) (hk : t.kind = 12) (HV : ∀ (j : Nat) (wr2 : Int) (wx : World), j ≤ L.length → IsS45 w0 wx g (L.map sT) j d wr2 false false → Below w0.heap.size w0 wx → Calls Tryz.prog 14 #[.pointer (some ⟨g, 0, none⟩), .bool cst] wx (VPost cst L j d g w0 wx))  (HI : IsS45 w0 w g (L.map sT) i d wr false false) (HB : Below w0.heap.size w0 w) :
  Calls Tryz.prog 34 #[.pointer (some ⟨g, 0, none⟩), .bool cst] w (VPost cst L i d g w0 w) := by
 have hi := lt_drop ht
 have hrl := rest_len ht
 have HF := aK (fun wx (h : IsS45 w0 wx g (L.map sT) i d wr false false) (hb : Below w0.heap.size w0 wx) => fail_any _ _ _ _ _ _ g w0 wx h hb)
 have HI0 := aK HI
 have HV := aK HV
 have HT := aK ht
 have HKD := aK hk
 obtain ⟨ad, c0, hg, hc0, hc1, hc4, hc5, hf1, hf5, hx0, hx1, hx2, hx3, hgl, hal, p1, p2, hge, hw1⟩ := tok_open HI HB ht hL
 have HBB := aK HB
 clear ht HB HI
 rw [hk] at hx0
 clear hk
 go_enter Tryz.func34, Tryz.ntmps34
 go_wp2_with fail
 repeat (go_quiet (fail); try go_wp2_with fail)
 obtain ⟨nr0, nf0, nr1, nf1, nr2, nf2, nr3, nf3⟩ := newt w nq
 have na0 := nal nq hc0
 have na1 := nal nq hc1
 have na2 := nal nq hx0
 have na3 := nal nq hx1
 have na4 := nal nq hx2
 have na5 := nal nq hx3
 go_region
 obtain ⟨w4, e4, hq4, hb4⟩ := tok_world w (nq + 1) 12 t.value t.start t.stop
 rw [e4]
 clear e4 na0 na1 na2 na3 na4 na5 nr0 nr1 nr2 nr3 nf0 nf1 nf2 nf3 hc0 hc1 hc4 hc5 hx0 hx1 hx2 hx3 hge hgl hal hf1 hf5
 have HI4 := aK (HI0.out.below hb4)
 have HB4 := aK (HBB.out.trans (hb4.mono HBB.out.size))
 have HK4 := aK (show KeepBut w w4 g none from ⟨hb4.size, fun i hi _ _ => hb4.block i hi⟩)
 have hgt : g ≠ w.heap.size := Nat.ne_of_lt HI0.out.lt
 have hsz4 := hb4.size
 clear hb4
 have ht0 : w4.cell? ⟨w.heap.size, 0, none⟩ = _ := (blk_cell hq4 0).trans rfl
 have ht1 : w4.cell? ⟨w.heap.size, 1, none⟩ = _ := (blk_cell hq4 1).trans rfl
 obtain ⟨A4, c4, HG4, hg4, HS4⟩ := HI4.out
 have hd1 := cellS45_1 HG4
 have hd5 := cellS45_5 HG4
 have hf1 := blk_frozen HG4 1
 have hf5 := blk_frozen HG4 5
 clear HG4 HS4 hq4
 go_wp2_with fail
 have HI5 := aK (HI4.out.set_1 ((i : Int) + 1))
 have HB5 := aK (below_set HB4.out hg4 (v := .int .i64 ((i : Int) + 1)) (j := 1))
 have HK5 := aK (HK4.out.set_ 1 (.int .i64 ((i : Int) + 1)))
 clear hd1 hd5 hf1 hf5 ht0 ht1 HI4 HB4 HK4
 go_loopg [7] (L.length + 2) (fun kq v7 w' => ∃ (K : List (List S51)) (a dd wr2 : Int) (b u : Bool), Aside0 (Kd.N (Kd.slice 51 k51) 25 w' w0.heap.size (fun k => k ≠ g) v7 K) ∧ Aside0 (∀ k, v7.ownBlock = some k → w.heap.size ≤ k) ∧ Aside0 (IsS45 w0 w' g (L.map sT) a dd wr2 b u) ∧ Aside0 (Below w0.heap.size w0 w') ∧ Aside0 (KeepBut w w' g none) ∧ Aside0 (LInv (fun n => sPair 19 (sVal cst n)) 14 L (i + 1) d K a dd b u kq))
 case atStart => exact ⟨[], (i : Int) + 1, d, wr, false, false, ⟨Kd.N_nil _ _ _ _ _⟩, ⟨fun k hk => by simp [Value.ownBlock] at hk⟩, HI5, HB5, HK5, ⟨LInv.begin_ (by omega) (by omega)⟩⟩
 case round =>
  obtain ⟨K, a, dd, wr2, b, u, HNr, HOr, HIr, HBr, HKr, HLr⟩ := hrel
  obtain ⟨Ar, cr, HGr, hgr, HSr⟩ := HIr.out
  have hr4 := cellS45_4 HGr
  clear HGr HSr
  cases b with
  | true =>
   obtain ⟨Ak, ck, ek⟩ := Kd.N_slice HNr.out
   subst ek
   have HM := aK (made_kids 18 K Ak ck _ _ _ HNr.out (by have := HLr.out.1; omega) (by have := HLr.out.2.1; omega))
   go_wp2_with fail
   refine HM.out.mono ?_
   rintro e w9 ⟨v, rfl, hr9, hb9⟩
   have HR := aK hr9
   have HB9 := aK hb9
   clear hr9 hb9
   go_wp2_with fail
   go_ret
   refine ⟨v, _, _, _, _, _, _, rfl, Kd.R_lower HR.out HKr.out.1, HIr.out.below HB9.out, HBr.out.trans (HB9.out.mono HBr.out.size), HKr.out.trans ⟨HB9.out.size, fun i hi _ _ => HB9.out.block i hi⟩ (.inl rfl), ?_, .inr ⟨rfl, ?_⟩⟩
   ·have := HLr.out.2.1
    simp only [mk54, List.length_cons]
    omega
   ·rcases HLr.out.2.2 with ⟨h, _⟩ | ⟨_, h⟩
    ·cases h
    ·exact h.imp id (obj_none HT.out HKD.out)
  | false =>
   rcases HLr.out.2.2 with ⟨_, hu, hdd, j, X, hj, hjl, hKj, hFj, hq, hKX, hall⟩ | ⟨h, _⟩
   rotate_left
   ·cases h
   have hdd2 := hdd.symm
   subst hu hj hdd2
   have HKX := aK hKX
   clear hKX hall
   by_cases hcl : Rp.hk (L.drop j) = 14
   ·have hte := taken_eq L j d wr2 false hL hjl 14
    rw [if_pos hcl] at hte
    have HTk := aK (spec_parser_taken.calls g _ _ _ _ _ _ 14 _ _ _ _ _ _ w0 wr HIr.out HBr.out hte)
    have HLD := aK (HLr.out.done hcl (by decide))
    clear hte hcl
    go_wp2_with fail
    refine HTk.out.mono ?_
    rintro e w5 ⟨rfl, hi5, hb5, hk5⟩
    have HI6 := aK hi5
    have HB6 := aK hb5
    have HK6 := aK (HKr.out.trans hk5 (.inl rfl))
    have HN6 := aK (Kd.N_keep HNr.out hk5 (fun _ h => h))
    clear hi5 hb5 hk5
    obtain ⟨Ak, ck, ek⟩ := Kd.N_slice HN6.out
    subst ek
    have HM := aK (made_kids 18 K Ak ck _ _ _ HN6.out (by have := HLr.out.1; omega) (by have := HLr.out.2.1; omega))
    go_wp2_with fail
    refine HM.out.mono ?_
    rintro e w9 ⟨v, rfl, hr9, hb9⟩
    have HR := aK hr9
    have HB9 := aK hb9
    clear hr9 hb9
    go_wp2_with fail
    go_ret
    obtain ⟨_, _, X2, hX2, hj2, hF2, hs2⟩ := HLD.out
    refine ⟨v, _, _, _, _, _, _, rfl, Kd.R_lower HR.out HK6.out.1, HI6.out.below HB9.out, HB6.out.trans (HB9.out.mono HB6.out.size), HK6.out.trans ⟨HB9.out.size, fun i hi _ _ => HB9.out.block i hi⟩ (.inl rfl), ?_, .inl ⟨rfl, rfl, rfl, j + 1, _, by omega, by omega, by omega, ?_, obj_some HT.out HKD.out hs2, lk_nd hX2 (fun h => rfl)⟩⟩
    ·simp only [mk54, List.length_cons]
     omega
    ·simp only [mk54, List.length_cons]
     omega
   ·have hte := taken_eq L j d wr2 false hL hjl 14
    rw [if_neg hcl] at hte
    have HTk := aK (spec_parser_taken.calls g _ _ _ _ _ _ 14 _ _ _ _ _ _ w0 wr HIr.out HBr.out hte)
    have HCL := aK hcl
    clear hte hcl
    go_wp2_with fail
    refine HTk.out.mono ?_
    rintro e w5 ⟨rfl, hi5, hb5, hk5⟩
    have HG5 := aK hi5.lt
    have HI6 := aK hi5
    have HB6 := aK hb5
    have HK6 := aK (HKr.out.trans hk5 (.inl rfl))
    have HN6 := aK (Kd.N_keep HNr.out hk5 (fun _ h => h))
    clear hi5 hb5 hk5
    obtain ⟨k1, rfl⟩ : ∃ k1, gk = k1 + 1 := ⟨gk - 1, by omega⟩
    obtain ⟨nm, a1, d1, wr1, b1, u1, a2, d2, wr3, b2, u2, hny, hmy, hvx⟩ := member_plan 19 (by decide) cst L j d wr2 g w0 hL hjl HV.out
    have HVX := aK hvx
    have HNY := aK hny
    have HMY := aK hmy
    have HLL := aK hL
    clear hvx hny hmy
    go_wp2_with fail
    refine (spec_parser_name.calls g _ _ _ _ _ _ _ _ _ _ _ _ w0 _ HI6.out HB6.out HNY.out).mono ?_
    rintro e w6 ⟨rfl, hi7, hb7, hk7⟩
    have HI7 := aK hi7
    have HB7 := aK hb7
    have HK7 := aK (HK6.out.trans hk7 (.inl rfl))
    have HN7 := aK (Kd.N_keep HN6.out hk7 (fun _ h => h))
    have HI7a := aK (HI7.out.alloc (.cells #[.int .i64 19, .string nm, .string emp, .string emp, .int .i64 0, .int .i64 0] 51))
    have HB7a := aK (below_alloc HB7.out (.cells #[.int .i64 19, .string nm, .string emp, .string emp, .int .i64 0, .int .i64 0] 51))
    have HX7 := aK (heap_alloc_new w6 (.cells #[.int .i64 19, .string nm, .string emp, .string emp, .int .i64 0, .int .i64 0] 51))
    have HK7a := aK (keep_alloc HK7.out (.cells #[.int .i64 19, .string nm, .string emp, .string emp, .int .i64 0, .int .i64 0] 51))
    have HN7a := aK (Kd.N_alloc HN7.out (.cells #[.int .i64 19, .string nm, .string emp, .string emp, .int .i64 0, .int .i64 0] 51))
    have HGX := aK (Nat.ne_of_gt HI7.out.lt)
    clear hi7 hb7 hk7
    go_wp2_with fail
    refine (spec_parser_must.calls g _ _ _ _ _ _ 7 _ _ _ _ _ w0 _ HI7a.out HB7a.out HMY.out).mono ?_
    rintro e w7 ⟨rfl, hi8, hb8, hk8⟩
    have HVC := aK (HVX.out w7.drew hi8.drew (below_drew hb8))
    have HK8 := aK (HK7a.out.trans hk8 (.inl rfl))
    have HN8 := aK (Kd.N_drew (Kd.N_keep HN7a.out hk8 (fun _ h => h)))
    have hs8 : (w6.alloc (.cells #[.int .i64 19, .string nm, .string emp, .string emp, .int .i64 0, .int .i64 0] 51)).heap.size = w6.heap.size + 1 := by simp
    have hx8 := (hk8.2 w6.heap.size (by omega) HGX.out (by simp)).trans HX7.out
    have hxl7 : w6.heap.size < w7.heap.size := by have := hk8.1; omega
    have HXC := aK (fun (w' : World) (hk : KeepBut w7.drew w' g none) => (⟨(blk_cell ((hk.2 w6.heap.size hxl7 HGX.out (by simp)).trans hx8) 0).trans rfl, (blk_cell ((hk.2 w6.heap.size hxl7 HGX.out (by simp)).trans hx8) 1).trans rfl, (blk_cell ((hk.2 w6.heap.size hxl7 HGX.out (by simp)).trans hx8) 2).trans rfl, (blk_cell ((hk.2 w6.heap.size hxl7 HGX.out (by simp)).trans hx8) 3).trans rfl, (blk_cell ((hk.2 w6.heap.size hxl7 HGX.out (by simp)).trans hx8) 4).trans rfl, (blk_cell ((hk.2 w6.heap.size hxl7 HGX.out (by simp)).trans hx8) 5).trans rfl⟩ : w'.cell? ⟨w6.heap.size, 0, none⟩ = some (.int .i64 19) ∧ w'.cell? ⟨w6.heap.size, 1, none⟩ = some (.string nm) ∧ w'.cell? ⟨w6.heap.size, 2, none⟩ = some (.string emp) ∧ w'.cell? ⟨w6.heap.size, 3, none⟩ = some (.string emp) ∧ w'.cell? ⟨w6.heap.size, 4, none⟩ = some (.int .i64 0) ∧ w'.cell? ⟨w6.heap.size, 5, none⟩ = some (.int .i64 0)))
    obtain ⟨x0, x1, x2, x3, x4, x5⟩ := (⟨(blk_cell hx8 0).trans rfl, (blk_cell hx8 1).trans rfl, (blk_cell hx8 2).trans rfl, (blk_cell hx8 3).trans rfl, (blk_cell hx8 4).trans rfl, (blk_cell hx8 5).trans rfl⟩ : w7.cell? ⟨w6.heap.size, 0, none⟩ = some (.int .i64 19) ∧ w7.cell? ⟨w6.heap.size, 1, none⟩ = some (.string nm) ∧ w7.cell? ⟨w6.heap.size, 2, none⟩ = some (.string emp) ∧ w7.cell? ⟨w6.heap.size, 3, none⟩ = some (.string emp) ∧ w7.cell? ⟨w6.heap.size, 4, none⟩ = some (.int .i64 0) ∧ w7.cell? ⟨w6.heap.size, 5, none⟩ = some (.int .i64 0))
    have HXB := aK (fun (w8 w9 : World) (o : Obj) (h : w8.cell? ⟨w6.heap.size, 0, none⟩ = some (.int .i64 19) ∧ w8.cell? ⟨w6.heap.size, 1, none⟩ = some (.string nm) ∧ w8.cell? ⟨w6.heap.size, 2, none⟩ = some (.string emp) ∧ w8.cell? ⟨w6.heap.size, 3, none⟩ = some (.string emp) ∧ w8.cell? ⟨w6.heap.size, 4, none⟩ = some (.int .i64 0) ∧ w8.cell? ⟨w6.heap.size, 5, none⟩ = some (.int .i64 0)) (hb : Below (w8.alloc o).heap.size (w8.alloc o) w9) => (⟨pw_cell_below hb ((World.cell?_alloc_lt w8 o _ (World.block_lt_of_cell? w8 _ h.1)).trans h.1), pw_cell_below hb ((World.cell?_alloc_lt w8 o _ (World.block_lt_of_cell? w8 _ h.2.1)).trans h.2.1), pw_cell_below hb ((World.cell?_alloc_lt w8 o _ (World.block_lt_of_cell? w8 _ h.2.2.1)).trans h.2.2.1), pw_cell_below hb ((World.cell?_alloc_lt w8 o _ (World.block_lt_of_cell? w8 _ h.2.2.2.1)).trans h.2.2.2.1), pw_cell_below hb ((World.cell?_alloc_lt w8 o _ (World.block_lt_of_cell? w8 _ h.2.2.2.2.1)).trans h.2.2.2.2.1), pw_cell_below hb ((World.cell?_alloc_lt w8 o _ (World.block_lt_of_cell? w8 _ h.2.2.2.2.2)).trans h.2.2.2.2.2)⟩ : w9.cell? ⟨w6.heap.size, 0, none⟩ = some (.int .i64 19) ∧ w9.cell? ⟨w6.heap.size, 1, none⟩ = some (.string nm) ∧ w9.cell? ⟨w6.heap.size, 2, none⟩ = some (.string emp) ∧ w9.cell? ⟨w6.heap.size, 3, none⟩ = some (.string emp) ∧ w9.cell? ⟨w6.heap.size, 4, none⟩ = some (.int .i64 0) ∧ w9.cell? ⟨w6.heap.size, 5, none⟩ = some (.int .i64 0)))
    have HUX := aK (show some w6.heap.size ≠ u7.ownBlock from fun e => Nat.lt_irrefl _ (Kd.N_lt HN7.out _ e.symm))
    have HXD := aK (fun (w9 w10 : World) (h : w9.cell? ⟨w6.heap.size, 0, none⟩ = some (.int .i64 19) ∧ w9.cell? ⟨w6.heap.size, 1, none⟩ = some (.string nm) ∧ w9.cell? ⟨w6.heap.size, 2, none⟩ = some (.string emp) ∧ w9.cell? ⟨w6.heap.size, 3, none⟩ = some (.string emp) ∧ w9.cell? ⟨w6.heap.size, 4, none⟩ = some (.int .i64 0) ∧ w9.cell? ⟨w6.heap.size, 5, none⟩ = some (.int .i64 0)) (hg : w9.grownBy w10 u7.ownBlock) => (⟨(World.cell?_of_block (w := w9) (hg.block w6.heap.size (World.block_lt_of_cell? w9 _ h.1) HUX.out)).trans h.1, (World.cell?_of_block (w := w9) (hg.block w6.heap.size (World.block_lt_of_cell? w9 _ h.2.1) HUX.out)).trans h.2.1, (World.cell?_of_block (w := w9) (hg.block w6.heap.size (World.block_lt_of_cell? w9 _ h.2.2.1) HUX.out)).trans h.2.2.1, (World.cell?_of_block (w := w9) (hg.block w6.heap.size (World.block_lt_of_cell? w9 _ h.2.2.2.1) HUX.out)).trans h.2.2.2.1, (World.cell?_of_block (w := w9) (hg.block w6.heap.size (World.block_lt_of_cell? w9 _ h.2.2.2.2.1) HUX.out)).trans h.2.2.2.2.1, (World.cell?_of_block (w := w9) (hg.block w6.heap.size (World.block_lt_of_cell? w9 _ h.2.2.2.2.2) HUX.out)).trans h.2.2.2.2.2⟩ : w10.cell? ⟨w6.heap.size, 0, none⟩ = some (.int .i64 19) ∧ w10.cell? ⟨w6.heap.size, 1, none⟩ = some (.string nm) ∧ w10.cell? ⟨w6.heap.size, 2, none⟩ = some (.string emp) ∧ w10.cell? ⟨w6.heap.size, 3, none⟩ = some (.string emp) ∧ w10.cell? ⟨w6.heap.size, 4, none⟩ = some (.int .i64 0) ∧ w10.cell? ⟨w6.heap.size, 5, none⟩ = some (.int .i64 0)))
    have HLM := aK (show (K.length + 1) * 24 ≤ 140737488355328 by have := HLr.out.1; omega)
    clear hi8 hb8 hk8 hs8 hx8 hL
    go_wp2_with fail
    go_region_held3 (fun w' => w'.cell? ⟨w6.heap.size, 0, none⟩ = some (.int .i64 19) ∧ w'.cell? ⟨w6.heap.size, 1, none⟩ = some (.string nm) ∧ w'.cell? ⟨w6.heap.size, 2, none⟩ = some (.string emp) ∧ w'.cell? ⟨w6.heap.size, 3, none⟩ = some (.string emp) ∧ w'.cell? ⟨w6.heap.size, 4, none⟩ = some (.int .i64 0) ∧ w'.cell? ⟨w6.heap.size, 5, none⟩ = some (.int .i64 0)) (go_keep) (first
     | (go_at_call 14; refine HVC.out.mono ?_; rintro e w8 ⟨v8, ns, a8, d8, wr8, b8, u8, rfl, hr8, hi8, hb8, hk8, hv8⟩; obtain ⟨A8, c8, e8⟩ := Kd.R_slice hr8; subst e8; obtain ⟨y0, y1, y2, y3, y4, y5⟩ := HXC.out w8 hk8)
     | (go_at_call 30; refine (made_member HLL.out hr8 hv8).mono ?_; rintro e w9 ⟨v9, rfl, hr9, hb9⟩; obtain ⟨A9, c9, e9⟩ := Kd.R_slice hr9; subst e9; have HAP := app_member hi8 hb8 HN8.out hk8 hb9 hr9; obtain ⟨z0, z1, z2, z3, z4, z5⟩ := HXB.out w8 w9 _ ⟨y0, y1, y2, y3, y4, y5⟩ hb9)
     | (refine Kd.N_append_step (Kd.slice 51 k51) (w0 := w0) w0.heap.size (by rfl) (.tmp 166) (.tmp 173) 87 25 (.slice none 0 0) 24 (by rfl) Tryz.underlying87 info25 (by rfl) (by decide) (by omega) u7 K _ _ (fun k => k ≠ g) (fun k => k ≠ g ∧ some k ≠ u7.ownBlock) (by rfl) (by rfl) HAP.1 (fun _ h => h) HAP.2.1 HAP.2.2.1 HAP.2.2.2.1 HAP.2.2.2.2.1 HLM.out ?_; intro v10 w10 hn10 hb10 hg10 ho10; obtain ⟨t0, t1, t2, t3, t4, t5⟩ := HXD.out w9 w10 ⟨z0, z1, z2, z3, z4, z5⟩ hg10))
    all_goals
     have HKW := aK ((keep_drew HK8.out).trans HAP.2.2.2.2.2.2.1 (.inl rfl))
     have HI9 := aK HAP.2.2.2.2.2.1
     have HN9 := aK HAP.2.2.1
     have HN10 := aK hn10
     have HB10 := aK hb10
     have HG10 := aK hg10
     have HO10 := aK ho10
     have HV8 := aK hv8
     clear HAP hn10 hb10 hg10 ho10 hv8 hr8 hi8 hb8 hk8 hb9 hr9 x0 x1 x2 x3 x4 x5 y0 y1 y2 y3 y4 y5 z0 z1 z2 z3 z4 z5 t0 t1 t2 t3 t4 t5
     go_wp2_with fail
     go_roundg k1
     case measure => first | omega | simp
     case rel => exact ⟨K ++ [mk54 19 nm emp emp 0 [ns]], a8, d8, wr8, b8, u8, HN10, ⟨own8 HOr.out HKW.out.1 HO10.out⟩, ⟨HI9.out.grown HG10.out (HI9.out.own_neN HN9.out (by decide))⟩, HB10, ⟨HKW.out.trans (KeepBut.of_grown HG10.out g) (own_or HOr.out)⟩, ⟨HLr.out.more hjl HCL.out HV8.out hKj hFj⟩⟩
end Go.Proofs.YtjoagdldbmlenaaGreatDoor.Rp
