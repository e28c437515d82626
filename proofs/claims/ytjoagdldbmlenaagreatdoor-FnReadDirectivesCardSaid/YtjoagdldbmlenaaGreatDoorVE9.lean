import Derived.Test.YtjoagdldbmlenaaGreatDoorVE8
import Derived.Test.YtjoagdldbmlenaaGreatDoorVE6
import Derived.Test.YtjoagdldbmlenaaGreatDoorVC5
set_option maxRecDepth 100000
set_option maxHeartbeats 8000000
set_option linter.unusedVariables false
set_option linter.unusedSimpArgs false
namespace Go.Proofs.YtjoagdldbmlenaaGreatDoor.Rp
open Go.RowKit Go.Proofs.YtjoagdldbmlenaaGreatDoorW.PrintWords Go.Proofs.YtjoagdldbmlenaaGreatDoorW.PrintLast PFnReadDirectives Go.Proofs.YtjoagdldbmlenaaGreatDoor.Mod Tree Rel
theorem args_here (L : List Tok) (i : Nat) (d wr : Int) (g : Nat) (w0 w : World) (hL : L.length ≤ 2000) (hi : i ≤ L.length) (HV : ∀ (j : Nat) (wr2 : Int) (wx : World), j ≤ L.length → IsS45 w0 wx g (L.map sT) j d wr2 false false → Below w0.heap.size w0 wx → Calls Tryz.prog 14 #[.pointer (some ⟨g, 0, none⟩), .bool false] wx (VPost false L j d g w0 wx)) (HI : IsS45 w0 w g (L.map sT) i d wr false false) (HB : Below w0.heap.size w0 w) :
  Calls Tryz.prog 16 #[.pointer (some ⟨g, 0, none⟩), .bool false] w (APost L i d g w0 w) := by
 by_cases h4 : hk (L.drop i) = 4
 ·obtain ⟨t, r, ht, hk4⟩ := hk_cons h4 (by decide)
  by_cases h5 : hk (L.drop (i + 1)) = 5
  ·exact args_close L i d wr g w0 w hL hi t r ht hk4 h5 HI HB
  ·exact args_yes L i d wr g w0 w hL hi t r ht hk4 h5 HV HI HB
 ·exact args_no L i d wr g w0 w hL hi h4 HI HB
def DMPost (L : List Tok) (j : Nat) (d : Int) (nm : ByteArray) (g : Nat) (w0 W : World) (e : Ending) (w' : World) : Prop :=
 ∃ (v : Value) (ns : List S51) (a dd wr : Int) (b u : Bool), e = .returned v ∧ Kd.R k51 51 w' W.heap.size (fun _ => True) v ns ∧ IsS45 w0 w' g (L.map sT) a dd wr b u ∧ Below w0.heap.size w0 w' ∧ KeepBut W w' g none ∧ KRes sDir L j d (mk54 10 nm emp emp 0 [ns]) a dd b u
theorem dir_plan (L : List Tok) (j : Nat) (d wr : Int) (g : Nat) (w0 : World) (hL : L.length ≤ 2000) (h9 : hk (L.drop j) = 9) (HV : ∀ (j : Nat) (wr2 : Int) (wx : World), j ≤ L.length → IsS45 w0 wx g (L.map sT) j d wr2 false false → Below w0.heap.size w0 wx → Calls Tryz.prog 14 #[.pointer (some ⟨g, 0, none⟩), .bool false] wx (VPost false L j d g w0 wx)) :
  ∃ (nm : ByteArray) (a1 d1 wr1 : Int) (b1 : Bool), spec_parser_name.f (L.map sT) ((j : Int) + 1) d wr false false = some (nm, a1, d1, wr1, b1, false) ∧
   ∀ W, IsS45 w0 W g (L.map sT) a1 d1 wr1 b1 false → Below w0.heap.size w0 W → Calls Tryz.prog 16 #[.pointer (some ⟨g, 0, none⟩), .bool false] W (DMPost L j d nm g w0 W) := by
 obtain ⟨t, r, ht, hk9⟩ := hk_cons h9 (by decide)
 have hj := lt_drop ht
 have ec : (j : Int) + 1 = ((j + 1 : Nat) : Int) := by omega
 rw [ec]
 by_cases h15 : hk (L.drop (j + 1)) = 15
 ·obtain ⟨t2, r2, ht2, hk2⟩ := hk_cons h15 (by decide)
  have hj2 := lt_drop ht2
  have hny := name_yes L (j + 1) d wr false hL ht2 hk2
  have ec2 : ((j + 1 : Nat) : Int) + 1 = ((j + 2 : Nat) : Int) := by omega
  rw [ec2] at hny
  have hrr : L.drop j = t :: t2 :: r2 := by rw [ht, ← drop_next ht, ht2]
  refine ⟨t2.value, _, d, wr, false, hny, fun W hI hB => ?_⟩
  refine (args_here L (j + 2) d wr g w0 W hL (by omega) HV hI hB).mono ?_
  rintro e w' ⟨v, ns, a, dd, wr', b, u, he, hr, hi, hb, hkb, hv⟩
  exact ⟨v, ns, a, dd, wr', b, u, he, hr, hi, hb, hkb, dir_yes hrr hk9 hk2 hv⟩
 ·refine ⟨emp, _, d, _, true, name_no L (j + 1) d wr false hL hj h15, fun W hI hB => ?_⟩
  refine (args_ill (L.map sT) _ d _ false g w0 W hI hB).mono ?_
  rintro e w' ⟨v, he, hr, hi, hb, hkb⟩
  exact ⟨v, [], _, d, _, true, false, he, hr, hi, hb, hkb, dir_no ht hk9 h15⟩
def DRes (L : List Tok) (i : Nat) (d : Int) (ns : List S51) (a dd : Int) (b u : Bool) : Prop :=
 ns.length + i ≤ L.length + 1 ∧ ((b = false ∧ u = false ∧ dd = d ∧ ∃ (j : Nat) (X : List NL), a = j ∧ j ≤ L.length ∧ (∀ n c, (L.drop i).length + 1 ≤ n → (L.drop i).length + 1 ≤ c → sDirs n c (L.drop i) = some (X, L.drop j)) ∧ Lk ns X.flatten)
  ∨ (b = true ∧ (u = true ∨ ∀ n c, (L.drop i).length + 1 ≤ n → (L.drop i).length + 1 ≤ c → sDirs n c (L.drop i) = none)))
def DPost (L : List Tok) (i : Nat) (d : Int) (g : Nat) (w0 w : World) (e : Ending) (w' : World) : Prop :=
 ∃ (v : Value) (ns : List S51) (a dd wr : Int) (b u : Bool), e = .returned v ∧ Kd.R k51 51 w' w.heap.size (fun _ => True) v ns ∧ IsS45 w0 w' g (L.map sT) a dd wr b u ∧ Below w0.heap.size w0 w' ∧ KeepBut w w' g none ∧ DRes L i d ns a dd b u
theorem dres_bad {L : List Tok} {i : Nat} {d a dd : Int} {u : Bool} {K : List (List S51)} {kq : Nat} (h : DInv L i d K a dd true u kq) : DRes L i d K.flatten a dd true u := by
 obtain ⟨_, h1, h2⟩ := h
 rcases h2 with ⟨h2, _⟩ | ⟨_, h2⟩
 ·cases h2
 ·exact ⟨h1, .inr ⟨rfl, h2⟩⟩
theorem dres_done {L : List Tok} {i j : Nat} {d dd : Int} {u : Bool} {K : List (List S51)} {kq : Nat} (h : DInv L i d K (j : Int) dd false u kq) (h9 : hk (L.drop j) ≠ 9) : DRes L i d K.flatten (j : Int) dd false u := by
 obtain ⟨hu, hd, X, hX, hj, hf, hs⟩ := h.done h9
 exact ⟨h.2.1, .inl ⟨rfl, hu, hd, j, X, rfl, hj, hs, hX.flat⟩⟩
theorem dirs_here (L : List Tok) (i : Nat) (d wr : Int) (g : Nat) (w0 w : World) (hL : L.length ≤ 2000) (hi : i ≤ L.length) (HV : ∀ (j : Nat) (wr2 : Int) (wx : World), j ≤ L.length → IsS45 w0 wx g (L.map sT) j d wr2 false false → Below w0.heap.size w0 wx → Calls Tryz.prog 14 #[.pointer (some ⟨g, 0, none⟩), .bool false] wx (VPost false L j d g w0 wx)) (HI : IsS45 w0 w g (L.map sT) i d wr false false) (HB : Below w0.heap.size w0 w) :
  Calls Tryz.prog 17 #[.pointer (some ⟨g, 0, none⟩), .bool false] w (DPost L i d g w0 w) := by
 have HI2 := aK HI
 have HB2 := aK HB
 have HK2 := aK (KeepBut.refl w g none)
 have HV := aK HV
 clear HI HB
 go_enter Tryz.func17, Tryz.ntmps17
 go_wp2_with fail
 go_loopg [5] (L.length + 2) (fun kq v5 w' => ∃ (K : List (List S51)) (a dd wr2 : Int) (b u : Bool), Aside0 (Kd.R k51 51 w' w0.heap.size (fun _ => True) v5 K.flatten) ∧ Aside0 (∀ k, v5.ownBlock = some k → w.heap.size ≤ k) ∧ Aside0 (IsS45 w0 w' g (L.map sT) a dd wr2 b u) ∧ Aside0 (Below w0.heap.size w0 w') ∧ Aside0 (KeepBut w w' g none) ∧ Aside0 (DInv L i d K a dd b u kq))
 case atStart => exact ⟨[], (i : Int), d, wr, false, false, ⟨nil_row _ _ _⟩, ⟨fun k hk => by simp [Value.ownBlock] at hk⟩, HI2, HB2, HK2, ⟨DInv.begin_ (by omega) (by omega)⟩⟩
 case round =>
  obtain ⟨K, a, dd, wr2, b, u, HNr, HOr, HIr, HBr, HKr, HLr⟩ := hrel
  obtain ⟨Ar, cr, HGr, hgr, HSr⟩ := HIr.out
  have hr4 := cellS45_4 HGr
  clear HGr HSr
  cases b with
  | true =>
   have HAB := aK (dres_bad HLr.out)
   go_wp2_with fail
   go_ret
   exact ⟨_, _, _, _, _, _, _, rfl, R_raise HNr.out HOr.out, HIr.out, HBr.out, HKr.out, HAB.out⟩
  | false =>
   rcases HLr.out.2.2 with ⟨_, hu, hdd, j, X, hj, hjl, hKj, hFj, hq, hKX, hall⟩ | ⟨h, _⟩
   rotate_left
   ·cases h
   have hdd2 := hdd.symm
   subst hu hj hdd2
   clear hKX hall
   by_cases hcl : Rp.hk (L.drop j) = 9
   rotate_left
   ·have hte := taken_eq L j d wr2 false hL hjl 9
    rw [if_neg hcl] at hte
    have HTk := aK (spec_parser_taken.calls g _ _ _ _ _ _ 9 _ _ _ _ _ _ w0 wr HIr.out HBr.out hte)
    have HAD := aK (dres_done HLr.out hcl)
    clear hte hcl
    go_wp2_with fail
    refine HTk.out.mono ?_
    rintro e w5 ⟨rfl, hi5, hb5, hk5⟩
    have HI6 := aK hi5
    have HB6 := aK hb5
    have HK6 := aK (HKr.out.trans hk5 (.inl rfl))
    have HN6 := aK (row_kept HIr.out HNr.out hk5)
    clear hi5 hb5 hk5
    go_wp2_with fail
    go_ret
    exact ⟨_, _, _, _, _, _, _, rfl, R_raise HN6.out HOr.out, HI6.out, HB6.out, HK6.out, HAD.out⟩
   ·have hte := taken_eq L j d wr2 false hL hjl 9
    rw [if_pos hcl] at hte
    have HTk := aK (spec_parser_taken.calls g _ _ _ _ _ _ 9 _ _ _ _ _ _ w0 wr HIr.out HBr.out hte)
    have HCL := aK hcl
    obtain ⟨nm, a1, d1, wr1, b1, hny, hvx⟩ := dir_plan L j d wr2 g w0 hL hcl HV.out
    have HVX := aK hvx
    have HNY := aK hny
    have HLL := aK hL
    clear hte hcl hny hvx
    go_wp2_with fail
    refine HTk.out.mono ?_
    rintro e w5 ⟨rfl, hi5, hb5, hk5⟩
    have HI6 := aK hi5
    have HB6 := aK hb5
    have HK6 := aK (HKr.out.trans hk5 (.inl rfl))
    have HN6 := aK (row_kept HIr.out HNr.out hk5)
    clear hi5 hb5 hk5
    obtain ⟨k1, rfl⟩ : ∃ k1, gk = k1 + 1 := ⟨gk - 1, by omega⟩
    go_wp2_with fail
    refine (spec_parser_name.calls g _ _ _ _ _ _ _ _ _ _ _ _ w0 _ HI6.out HB6.out HNY.out).mono ?_
    rintro e w6 ⟨rfl, hi7, hb7, hk7⟩
    have HI7 := aK hi7
    have HB7 := aK hb7
    have HK7 := aK (HK6.out.trans hk7 (.inl rfl))
    have HN7 := aK (row_kept HI6.out HN6.out hk7)
    have HI7a := aK (HI7.out.alloc (.cells #[.int .i64 10, .string nm, .string ⟨#[]⟩, .string ⟨#[]⟩, .int .i64 0, .int .i64 0] 51))
    have HB7a := aK (below_alloc HB7.out (.cells #[.int .i64 10, .string nm, .string ⟨#[]⟩, .string ⟨#[]⟩, .int .i64 0, .int .i64 0] 51))
    have HX7 := aK (heap_alloc_new w6 (.cells #[.int .i64 10, .string nm, .string ⟨#[]⟩, .string ⟨#[]⟩, .int .i64 0, .int .i64 0] 51))
    have HK7a := aK (keep_alloc HK7.out (.cells #[.int .i64 10, .string nm, .string ⟨#[]⟩, .string ⟨#[]⟩, .int .i64 0, .int .i64 0] 51))
    have HN7a := aK (Kd.R_below HN7.out (below_alloc (Below.refl _ _) (.cells #[.int .i64 10, .string nm, .string ⟨#[]⟩, .string ⟨#[]⟩, .int .i64 0, .int .i64 0] 51)))
    have HGX := aK (Nat.ne_of_gt HI7.out.lt)
    obtain ⟨A7, c7, HG7, hg7, HS7⟩ := HI7.out
    have hc5 := cellS45_5 HG7
    have hf5 := blk_frozen HG7 5
    have hgl := HI7.out.lt
    have hgn : ¬ g = w6.heap.size := Nat.ne_of_lt hgl
    have hgn2 : ¬ w6.heap.size = g := Nat.ne_of_gt hgl
    clear hi7 hb7 hk7 HG7 HS7
    go_wp2_with fail
    have HI7s := HI7.out.set_5 false
    have HB7s := below_set HB7.out hg7 (v := .bool false) (j := 5)
    have HK7s := HK7.out.set_ 5 (.bool false)
    have HN7s := row_kept HI7.out HN7.out ((KeepBut.refl w6 g none).set_ 5 (.bool false))
    have hsz : (w6.setCell ⟨g, 5, none⟩ (.bool false)).heap.size = w6.heap.size := by simp [World.setCell]
    have hx7 := heap_alloc_new (w6.setCell ⟨g, 5, none⟩ (.bool false)) (.cells #[.int .i64 10, .string nm, .string ⟨#[]⟩, .string ⟨#[]⟩, .int .i64 0, .int .i64 0] 51)
    rw [hsz] at hx7
    have hi8 := HI7s.alloc (.cells #[.int .i64 10, .string nm, .string ⟨#[]⟩, .string ⟨#[]⟩, .int .i64 0, .int .i64 0] 51)
    have hb8 := below_alloc HB7s (.cells #[.int .i64 10, .string nm, .string ⟨#[]⟩, .string ⟨#[]⟩, .int .i64 0, .int .i64 0] 51)
    have hk8 := keep_alloc HK7s (.cells #[.int .i64 10, .string nm, .string ⟨#[]⟩, .string ⟨#[]⟩, .int .i64 0, .int .i64 0] 51)
    have hn8 := Kd.R_below HN7s (below_alloc (Below.refl _ _) (.cells #[.int .i64 10, .string nm, .string ⟨#[]⟩, .string ⟨#[]⟩, .int .i64 0, .int .i64 0] 51))
    have hxl7 : w6.heap.size < ((w6.setCell ⟨g, 5, none⟩ (.bool false)).alloc (.cells #[.int .i64 10, .string nm, .string ⟨#[]⟩, .string ⟨#[]⟩, .int .i64 0, .int .i64 0] 51)).heap.size := by simp [World.setCell]
    generalize (w6.setCell ⟨g, 5, none⟩ (.bool false)).alloc (.cells #[.int .i64 10, .string nm, .string ⟨#[]⟩, .string ⟨#[]⟩, .int .i64 0, .int .i64 0] 51) = w7 at hx7 hi8 hb8 hk8 hn8 hxl7 ⊢
    have HVC := aK (HVX.out w7.drew hi8.drew (below_drew hb8))
    have HI8 := aK hi8.drew
    have HK8 := aK hk8
    have HN8 := aK (Kd.R_drew hn8)
    have HXC := aK (fun (w' : World) (hk : KeepBut w7.drew w' g none) => (⟨(blk_cell ((hk.2 w6.heap.size hxl7 HGX.out (by simp)).trans hx7) 0).trans rfl, (blk_cell ((hk.2 w6.heap.size hxl7 HGX.out (by simp)).trans hx7) 1).trans rfl, (blk_cell ((hk.2 w6.heap.size hxl7 HGX.out (by simp)).trans hx7) 2).trans rfl, (blk_cell ((hk.2 w6.heap.size hxl7 HGX.out (by simp)).trans hx7) 3).trans rfl, (blk_cell ((hk.2 w6.heap.size hxl7 HGX.out (by simp)).trans hx7) 4).trans rfl, (blk_cell ((hk.2 w6.heap.size hxl7 HGX.out (by simp)).trans hx7) 5).trans rfl⟩ : w'.cell? ⟨w6.heap.size, 0, none⟩ = some (.int .i64 10) ∧ w'.cell? ⟨w6.heap.size, 1, none⟩ = some (.string nm) ∧ w'.cell? ⟨w6.heap.size, 2, none⟩ = some (.string ⟨#[]⟩) ∧ w'.cell? ⟨w6.heap.size, 3, none⟩ = some (.string ⟨#[]⟩) ∧ w'.cell? ⟨w6.heap.size, 4, none⟩ = some (.int .i64 0) ∧ w'.cell? ⟨w6.heap.size, 5, none⟩ = some (.int .i64 0)))
    obtain ⟨x0, x1, x2, x3, x4, x5⟩ := (⟨(blk_cell hx7 0).trans rfl, (blk_cell hx7 1).trans rfl, (blk_cell hx7 2).trans rfl, (blk_cell hx7 3).trans rfl, (blk_cell hx7 4).trans rfl, (blk_cell hx7 5).trans rfl⟩ : w7.cell? ⟨w6.heap.size, 0, none⟩ = some (.int .i64 10) ∧ w7.cell? ⟨w6.heap.size, 1, none⟩ = some (.string nm) ∧ w7.cell? ⟨w6.heap.size, 2, none⟩ = some (.string ⟨#[]⟩) ∧ w7.cell? ⟨w6.heap.size, 3, none⟩ = some (.string ⟨#[]⟩) ∧ w7.cell? ⟨w6.heap.size, 4, none⟩ = some (.int .i64 0) ∧ w7.cell? ⟨w6.heap.size, 5, none⟩ = some (.int .i64 0))
    have HXB := aK (fun (w8 w9 : World) (o : Obj) (h : w8.cell? ⟨w6.heap.size, 0, none⟩ = some (.int .i64 10) ∧ w8.cell? ⟨w6.heap.size, 1, none⟩ = some (.string nm) ∧ w8.cell? ⟨w6.heap.size, 2, none⟩ = some (.string ⟨#[]⟩) ∧ w8.cell? ⟨w6.heap.size, 3, none⟩ = some (.string ⟨#[]⟩) ∧ w8.cell? ⟨w6.heap.size, 4, none⟩ = some (.int .i64 0) ∧ w8.cell? ⟨w6.heap.size, 5, none⟩ = some (.int .i64 0)) (hb : Below (w8.alloc o).heap.size (w8.alloc o) w9) => (⟨pw_cell_below hb ((World.cell?_alloc_lt w8 o _ (World.block_lt_of_cell? w8 _ h.1)).trans h.1), pw_cell_below hb ((World.cell?_alloc_lt w8 o _ (World.block_lt_of_cell? w8 _ h.2.1)).trans h.2.1), pw_cell_below hb ((World.cell?_alloc_lt w8 o _ (World.block_lt_of_cell? w8 _ h.2.2.1)).trans h.2.2.1), pw_cell_below hb ((World.cell?_alloc_lt w8 o _ (World.block_lt_of_cell? w8 _ h.2.2.2.1)).trans h.2.2.2.1), pw_cell_below hb ((World.cell?_alloc_lt w8 o _ (World.block_lt_of_cell? w8 _ h.2.2.2.2.1)).trans h.2.2.2.2.1), pw_cell_below hb ((World.cell?_alloc_lt w8 o _ (World.block_lt_of_cell? w8 _ h.2.2.2.2.2)).trans h.2.2.2.2.2)⟩ : w9.cell? ⟨w6.heap.size, 0, none⟩ = some (.int .i64 10) ∧ w9.cell? ⟨w6.heap.size, 1, none⟩ = some (.string nm) ∧ w9.cell? ⟨w6.heap.size, 2, none⟩ = some (.string ⟨#[]⟩) ∧ w9.cell? ⟨w6.heap.size, 3, none⟩ = some (.string ⟨#[]⟩) ∧ w9.cell? ⟨w6.heap.size, 4, none⟩ = some (.int .i64 0) ∧ w9.cell? ⟨w6.heap.size, 5, none⟩ = some (.int .i64 0)))
    have HUX := aK (show some w6.heap.size ≠ u5.ownBlock from fun e => Nat.lt_irrefl _ (Kd.N_lt (Kd.R_N HN7.out) _ e.symm))
    have HXD := aK (fun (w9 w10 : World) (h : w9.cell? ⟨w6.heap.size, 0, none⟩ = some (.int .i64 10) ∧ w9.cell? ⟨w6.heap.size, 1, none⟩ = some (.string nm) ∧ w9.cell? ⟨w6.heap.size, 2, none⟩ = some (.string ⟨#[]⟩) ∧ w9.cell? ⟨w6.heap.size, 3, none⟩ = some (.string ⟨#[]⟩) ∧ w9.cell? ⟨w6.heap.size, 4, none⟩ = some (.int .i64 0) ∧ w9.cell? ⟨w6.heap.size, 5, none⟩ = some (.int .i64 0)) (hg : w9.grownBy w10 u5.ownBlock) => (⟨(World.cell?_of_block (w := w9) (hg.block w6.heap.size (World.block_lt_of_cell? w9 _ h.1) HUX.out)).trans h.1, (World.cell?_of_block (w := w9) (hg.block w6.heap.size (World.block_lt_of_cell? w9 _ h.2.1) HUX.out)).trans h.2.1, (World.cell?_of_block (w := w9) (hg.block w6.heap.size (World.block_lt_of_cell? w9 _ h.2.2.1) HUX.out)).trans h.2.2.1, (World.cell?_of_block (w := w9) (hg.block w6.heap.size (World.block_lt_of_cell? w9 _ h.2.2.2.1) HUX.out)).trans h.2.2.2.1, (World.cell?_of_block (w := w9) (hg.block w6.heap.size (World.block_lt_of_cell? w9 _ h.2.2.2.2.1) HUX.out)).trans h.2.2.2.2.1, (World.cell?_of_block (w := w9) (hg.block w6.heap.size (World.block_lt_of_cell? w9 _ h.2.2.2.2.2) HUX.out)).trans h.2.2.2.2.2⟩ : w10.cell? ⟨w6.heap.size, 0, none⟩ = some (.int .i64 10) ∧ w10.cell? ⟨w6.heap.size, 1, none⟩ = some (.string nm) ∧ w10.cell? ⟨w6.heap.size, 2, none⟩ = some (.string ⟨#[]⟩) ∧ w10.cell? ⟨w6.heap.size, 3, none⟩ = some (.string ⟨#[]⟩) ∧ w10.cell? ⟨w6.heap.size, 4, none⟩ = some (.int .i64 0) ∧ w10.cell? ⟨w6.heap.size, 5, none⟩ = some (.int .i64 0)))
    have HLM := aK (show ∀ (ms : List S51) (a dd : Int) (b u : Bool), KRes sDir L j d ms a dd b u → (K.flatten.length + ms.length) * 72 ≤ 140737488355328 from fun ms a dd b u h => by have h1 := h.1; have h2 := HLr.out.2.1; omega)
    clear HI7s HB7s HK7s HN7s hi8 hb8 hk8 hn8 hx7 hsz hc5 hf5 hgl hgn hgn2
    go_region_held3 (fun w' => w'.cell? ⟨w6.heap.size, 0, none⟩ = some (.int .i64 10) ∧ w'.cell? ⟨w6.heap.size, 1, none⟩ = some (.string nm) ∧ w'.cell? ⟨w6.heap.size, 2, none⟩ = some (.string ⟨#[]⟩) ∧ w'.cell? ⟨w6.heap.size, 3, none⟩ = some (.string ⟨#[]⟩) ∧ w'.cell? ⟨w6.heap.size, 4, none⟩ = some (.int .i64 0) ∧ w'.cell? ⟨w6.heap.size, 5, none⟩ = some (.int .i64 0)) (go_keep) (first
     | (go_at_call 16; refine HVC.out.mono ?_; rintro e w8 ⟨v8, ns, a8, d8, wr8, b8, u8, rfl, hr8, hi8, hb8, hk8, hv8⟩; obtain ⟨A8, c8, e8⟩ := Kd.R_slice hr8; subst e8; obtain ⟨y0, y1, y2, y3, y4, y5⟩ := HXC.out w8 hk8)
     | (go_at_call 30; refine (made_member HLL.out hr8 hv8).mono ?_; rintro e w9 ⟨v9, rfl, hr9, hb9⟩; obtain ⟨A9, c9, e9⟩ := Kd.R_slice hr9; subst e9; have HAP := app_rows HI8.out hi8 hb8 HN8.out hk8 hb9 hr9; obtain ⟨z0, z1, z2, z3, z4, z5⟩ := HXB.out w8 w9 _ ⟨y0, y1, y2, y3, y4, y5⟩ hb9; have HLN := HLM.out _ _ _ _ _ hv8)
     | (refine Kd.R_append_rows_step k51 (w0 := w0) w0.heap.size (by rfl) (.tmp 33) (.tmp 38) 25 51 (.agg #[.int .i64 0, .string ⟨#[]⟩, .string ⟨#[]⟩, .string ⟨#[]⟩, .int .i64 0, .int .i64 0]) 72 (by rfl) Tryz.underlying25 info51 (by rfl) (by decide) (by omega) u5 K.flatten _ _ _ _ (fun _ => True) (fun _ => False) (by rfl) (by rfl) HAP.1 HAP.2.1 (fun _ _ h => h) (fun _ h => h.elim) (fun _ _ => trivial) HAP.2.2.1 HAP.2.2.2.1 HLN ?_; intro v10 w10 hn10 hb10 hg10 ho10; obtain ⟨t0, t1, t2, t3, t4, t5⟩ := HXD.out w9 w10 ⟨z0, z1, z2, z3, z4, z5⟩ hg10))
    all_goals
     have HKW := aK ((keep_drew HK8.out).trans HAP.2.2.2.2.2 (.inl rfl))
     have HI9 := aK HAP.2.2.2.2.1
     have HN9 := aK HAP.1
     have HN10 := aK hn10
     have HB10 := aK hb10
     have HG10 := aK hg10
     have HO10 := aK ho10
     have HV8 := aK hv8
     clear HAP HLN hn10 hb10 hg10 ho10 hv8 hr8 hi8 hb8 hk8 hb9 hr9 x0 x1 x2 x3 x4 x5 y0 y1 y2 y3 y4 y5 z0 z1 z2 z3 z4 z5 t0 t1 t2 t3 t4 t5
     go_wp2_with fail
     go_roundg k1
     case measure => first | omega | simp
     case rel => exact ⟨K ++ [mk54 10 nm emp emp 0 [ns]], a8, d8, wr8, b8, u8, ⟨by rw [List.flatten_append, List.flatten_cons, List.flatten_nil, List.append_nil]; exact HN10.out⟩, ⟨own9 HOr.out HKW.out.1 HO10.out⟩, ⟨HI9.out.grown HG10.out (HI9.out.own_ne HN9.out (by decide))⟩, HB10, ⟨HKW.out.trans (KeepBut.of_grown HG10.out g) (own_or9 HOr.out)⟩, ⟨HLr.out.more HCL.out HV8.out hKj hFj⟩⟩
theorem reps_flat {α : Type} {R : α → List Value → Prop} {size : Nat} (c : α → List Value) (hl : ∀ x, (c x).length = size) (hR : ∀ x, R x (c x)) : ∀ xs : List α, Reps R size xs (xs.flatMap c)
 | [] => Reps.none _ _
 | x :: xs => by
  obtain ⟨h1, h2⟩ := reps_flat c hl hR xs
  rw [List.flatMap_cons]
  refine ⟨by rw [List.length_append, hl, h1, List.length_cons, Nat.succ_mul]; omega, fun j p hj => ?_⟩
  rcases j with _ | j
  ·obtain rfl : x = p := by simpa using hj
   rw [Nat.zero_mul, List.drop_zero, List.take_left' (hl x)]
   exact hR x
  ·have hj' : xs[j]? = some p := by simpa using hj
   rw [show (j + 1) * size = size + j * size by rw [Nat.succ_mul]; omega, ← List.drop_drop, List.drop_left' (hl x)]
   exact h2 j p hj'
theorem own_R {α : Type} {d : Kd α} {e base : Nat} {w : World} {v : Value} {xs : List α} (c : α → List Value) (hl : ∀ x, (c x).length = d.sz) (hM : ∀ ok x, d.M w base ok x (c x)) (h : w.ownsRow base e d.sz v xs.length (xs.flatMap c)) : d.R e w base (fun _ => True) v xs :=
 ⟨fun _ _ => trivial, _, h, reps_flat c hl (hM _) xs⟩
def c52 (x : S49) : List Value := [.int .i64 x.f0, .string x.f1, .int .i64 x.f2, .int .i64 x.f3]
def c54 (x : S51) : List Value := [.int .i64 x.f0, .string x.f1, .string x.f2, .string x.f3, .int .i64 x.f4, .int .i64 x.f5]
theorem own_52 {e base : Nat} {w : World} {v : Value} {xs : List S49} (h : w.ownsRow base e 4 v xs.length (xs.flatMap c52)) : Kd.R k49 e w base (fun _ => True) v xs :=
 own_R c52 (fun _ => rfl) (fun _ x => ⟨[_], _, rfl, rfl, [_], _, rfl, rfl, [_], _, rfl, rfl, rfl⟩) h
theorem own_54 {e base : Nat} {w : World} {v : Value} {xs : List S51} (h : w.ownsRow base e 6 v xs.length (xs.flatMap c54)) : Kd.R k51 e w base (fun _ => True) v xs :=
 own_R c54 (fun _ => rfl) (fun _ x => ⟨[_], _, rfl, rfl, [_], _, rfl, rfl, [_], _, rfl, rfl, [_], _, rfl, rfl, [_], _, rfl, rfl, rfl⟩) h
theorem toks_52 (l : List Tok) : Mem.toks (l.map Lex.cv) = (l.map sT).flatMap c52 := by
 unfold Mem.toks
 rw [List.flatMap_map, List.flatMap_map]
 rfl
theorem row_52 {w : World} {base : Nat} {A : Option Addr} {c : Nat} {l : List Tok} (h : Lex.RowAt w base (.slice A l.length c) (l.map Lex.cv)) : Kd.C k49 w A (l.map sT).length (l.map sT) := by
 have h' : w.ownsRow base 49 4 (.slice A l.length c) (l.map sT).length ((l.map sT).flatMap c52) := by
  rw [← toks_52, List.length_map]
  have h2 := h
  unfold Lex.RowAt at h2
  rw [List.length_map] at h2
  exact h2
 have h4 : (Value.slice A l.length c) = .slice A (l.map sT).length c := by rw [List.length_map]
 have h5 := own_52 h'
 rw [h4] at h5
 exact (Kd.R_reads' h5).2.2
def Answer (s : ByteArray) (l : List Tok) (whole : Bool) : Option (List NL × Tok) := (sDirs 200000 200000 l).bind fun x => (headL s whole x.2).map fun t => (x.1, t)
def RdPost (s : ByteArray) (w : World) (e : Ending) (w' : World) : Prop :=
 Below w.heap.size w w' ∧ ∃ (v : Value) (next : Int) (ok sure : Bool), e = .returned (.tuple #[v, .int .i64 next, .bool ok, .bool sure]) ∧
  (sure = true → ∃ (l : List Tok) (whole : Bool), Chain s (TokAt Lex.blkV s) (BadAt s) whole 0 l ∧ l.length ≤ 2000 ∧
   ((ok = false ∧ Answer s l whole = none) ∨ (ok = true ∧ ∃ (ns : List S51) (x : List NL) (t : Tok), Kd.R k51 51 w' w.heap.size (fun _ => True) v ns ∧ ns.length ≤ 2001 ∧ Lk ns x.flatten ∧ Answer s l whole = some (x, t) ∧ (next < 0 ∨ next = t.start))))
theorem bad_none {s : ByteArray} {l : List Tok} {whole : Bool} {d a dd : Int} {u : Bool} {ns : List S51} (h : DRes l 0 d ns a dd true u) (hu : u = false) (hl : l.length ≤ 2000) : Answer s l whole = none := by
 rcases h.2 with ⟨h, _⟩ | ⟨_, h | h⟩
 ·cases h
 ·rw [hu] at h; cases h
 ·unfold Answer
  have := h 200000 200000 (by rw [List.drop_zero]; omega) (by rw [List.drop_zero]; omega)
  rw [List.drop_zero] at this
  rw [this]
  rfl
theorem answer_some (s : ByteArray) {l : List Tok} (whole : Bool) {x : List NL} {j : Nat} (h : ∀ n c, (l.drop 0).length + 1 ≤ n → (l.drop 0).length + 1 ≤ c → sDirs n c (l.drop 0) = some (x, l.drop j)) (hl : l.length ≤ 2000) : Answer s l whole = (headL s whole (l.drop j)).map fun t => (x, t) := by
 have := h 200000 200000 (by rw [List.drop_zero]; omega) (by rw [List.drop_zero]; omega)
 rw [List.drop_zero] at this
 unfold Answer
 rw [this]
 rfl
theorem rd_no {s : ByteArray} {l : List Tok} {whole sure : Bool} {w w2 : World} (hB : Below w.heap.size w w2) (hC : sure = true → Chain s (TokAt Lex.blkV s) (BadAt s) whole 0 l ∧ Answer s l whole = none) (hl : l.length ≤ 2000) : RdPost s w (.returned (.tuple #[.slice none 0 0, .int .i64 0, .bool false, .bool sure])) w2 :=
 ⟨hB, _, _, false, _, rfl, fun h => ⟨l, whole, (hC h).1, hl, .inl ⟨rfl, (hC h).2⟩⟩⟩
theorem rd_yes {s : ByteArray} {l : List Tok} {whole sure : Bool} {w w2 w3 : World} {v : Value} {ns : List S51} {x : List NL} {t : Tok} {next : Int} (hB : Below w.heap.size w w2) (h3 : Below w2.heap.size w2 w3) (hC : sure = true → Chain s (TokAt Lex.blkV s) (BadAt s) whole 0 l) (hl : l.length ≤ 2000)
  (hR : Kd.R k51 51 w2 w.heap.size (fun _ => True) v ns) (hn : ns.length ≤ 2001) (hk : Lk ns x.flatten) (hA : Answer s l whole = some (x, t)) (hx : next < 0 ∨ next = t.start) : RdPost s w (.returned (.tuple #[v, .int .i64 next, .bool true, .bool sure])) w3 :=
 ⟨hB.trans (h3.mono hB.size), _, _, true, _, rfl, fun h => ⟨l, whole, hC h, hl, .inr ⟨rfl, ns, x, t, Kd.R_below hR h3, hn, hk, hA, hx⟩⟩⟩
theorem read_5 (s : ByteArray) (w : World) (hs : s.size ≤ 2000) :
  Calls Tryz.prog 7 #[.string s, .int .i64 5] w (RdPost s w) := by
 have HLX := aK (Lex.lexed_any s w hs)
 go_enter Tryz.func7, Tryz.ntmps7
 go_wp2_with fail
 refine HLX.out.mono ?_
 rintro e w1 ⟨l, A, c, whole, uns, rfl, hc, hb, hrow, hl, hch⟩
 have hnew := IsS45.new w1 w1 A c (l.map sT) 0 0 0 false false (Below.refl _ _) (row_52 hrow)
 rw [List.length_map] at hnew
 have HNEW := aK hnew
 have HB1 := aK hb
 have HCH := aK hch
 have HL := aK hl
 have HV := aK (dirs_here l 0 0 0 w1.heap.size w1 _ hl (Nat.zero_le _) (val_all false l hl w1.heap.size w1 60 0 (by omega) (by omega)) hnew (below_alloc (Below.refl _ _) _))
 have HROW := aK (row_52 hrow)
 clear hnew hrow hb hch hl hc
 go_wp2_with fail
 refine HV.out.mono ?_
 rintro e w2 ⟨v, ns, a, dd, wr, b, u, rfl, hr, hi, hb2, hk, hv⟩
 obtain ⟨A2, c2, HG, hg, HS⟩ := hi
 have hc1 := cellS45_1 HG
 have hc4 := cellS45_4 HG
 have hc5 := cellS45_5 HG
 have HR := aK (Kd.R_lower hr (Nat.le_trans HB1.out.size (Nat.le_of_lt (by simp)) : w.heap.size ≤ _))
 have HB2 := aK (HB1.out.trans (hb2.mono HB1.out.size))
 have HB3 := aK hb2
 have HVR := aK hv
 clear hr hb2 hk hv HG HS
 cases b with
 | true =>
  have HN := aK (fun (h : u = false) => bad_none HVR.out h (s := s) (whole := whole) HL.out)
  cases uns <;> cases u
  all_goals
   go_wp2_with fail
   first
    | (refine bodyPost_ret (v := .tuple #[.slice none 0 0, .int .i64 0, .bool false, .bool true]) ?_ rfl (rd_no HB2.out (fun h => ⟨HCH.out trivial, HN.out trivial⟩) HL.out); simp [results, Tryz.results7, go_sem]; done)
    | (refine bodyPost_ret (v := .tuple #[.slice none 0 0, .int .i64 0, .bool false, .bool false]) ?_ rfl (rd_no (whole := whole) (l := l) HB2.out (fun h => absurd h Bool.false_ne_true) HL.out); simp [results, Tryz.results7, go_sem]; done)
 | false =>
  rcases HVR.out.2 with ⟨_, hu, hdd, j, x, hj, hjl, hs2, hlk⟩ | ⟨h, _⟩
  rotate_left
  ·cases h
  subst hu hj
  have HLK := aK hlk
  have HAN := aK (answer_some s whole hs2 HL.out)
  have HNL := aK (show ns.length ≤ 2001 by have := HVR.out.1; have := HL.out; omega)
  clear hlk hs2 HVR
  by_cases hlt : j < l.length
  ·obtain ⟨t, r, ht⟩ : ∃ t r, l.drop j = t :: r := by
    cases h : l.drop j with
    | nil => have := ge_drop h; omega
    | cons t r => exact ⟨t, r, rfl⟩
   have HAS := aK (HAN.out.trans (by rw [ht]; rfl) : Answer s l whole = some (x, t))
   obtain ⟨ad, ea, hx0, hx1, hx2, hx3⟩ := at_T49 HROW.out (j : Int) (by omega) (by rw [List.length_map]; omega)
   subst ea
   replace hx2 := pw_cell_below HB3.out hx2
   rw [rd_at ht, Int.toNat_natCast] at hx2
   simp only [sT] at hx2
   clear hx0 hx1 hx3 ht
   have p1 := eq_true (show 0 ≤ (j : Int) by omega)
   have p2 := eq_true (show (j : Int) < (l.length : Int) by omega)
   have hge : decide (l.length ≤ j) = false := decide_eq_false (by omega)
   cases uns
   all_goals
    go_wp2_with fail
    go_quiet (fail)
    go_wp2_with fail
    first
     | (refine bodyPost_ret (v := .tuple #[v, .int .i64 t.start, .bool true, .bool true]) ?_ rfl (rd_yes HB2.out (pw_below_drewN (Below.refl _ _) _) (fun h => HCH.out trivial) HL.out HR.out HNL.out HLK.out HAS.out (.inr rfl)); simp [results, Tryz.results7, go_sem]; done)
     | (refine bodyPost_ret (v := .tuple #[v, .int .i64 t.start, .bool true, .bool false]) ?_ rfl (rd_yes HB2.out (pw_below_drewN (Below.refl _ _) _) (fun h => absurd h Bool.false_ne_true) HL.out HR.out HNL.out HLK.out HAS.out (.inr rfl)); simp [results, Tryz.results7, go_sem]; done)
  ·obtain rfl : j = l.length := by omega
   have hge : decide (l.length ≤ l.length) = true := decide_eq_true (Nat.le_refl _)
   have hdr : l.drop l.length = [] := List.drop_length
   rw [hdr] at HAN
   cases whole <;> cases uns
   all_goals
    go_wp2_with fail
    first
     | (refine bodyPost_ret (v := .tuple #[.slice none 0 0, .int .i64 0, .bool false, .bool true]) ?_ rfl (rd_no HB2.out (fun h => ⟨HCH.out trivial, HAN.out⟩) HL.out); simp [results, Tryz.results7, go_sem]; done)
     | (refine bodyPost_ret (v := .tuple #[.slice none 0 0, .int .i64 0, .bool false, .bool false]) ?_ rfl (rd_no (whole := false) (l := l) HB2.out (fun h => absurd h Bool.false_ne_true) HL.out); simp [results, Tryz.results7, go_sem]; done)
     | (refine bodyPost_ret (v := .tuple #[v, .int .i64 (-1), .bool true, .bool true]) ?_ rfl (rd_yes HB2.out (Below.refl _ _) (fun h => HCH.out trivial) HL.out HR.out HNL.out HLK.out HAN.out (.inl (by decide))); simp [results, Tryz.results7, go_sem]; done)
     | (refine bodyPost_ret (v := .tuple #[v, .int .i64 (-1), .bool true, .bool false]) ?_ rfl (rd_yes HB2.out (Below.refl _ _) (fun h => absurd h Bool.false_ne_true) HL.out HR.out HNL.out HLK.out HAN.out (.inl (by decide))); simp [results, Tryz.results7, go_sem]; done)
end Go.Proofs.YtjoagdldbmlenaaGreatDoor.Rp
