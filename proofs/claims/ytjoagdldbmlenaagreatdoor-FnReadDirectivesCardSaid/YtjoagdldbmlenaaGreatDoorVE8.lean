import Derived.Test.YtjoagdldbmlenaaGreatDoorVE1
import Derived.Deep.RegionHeld3
set_option maxRecDepth 100000
set_option maxHeartbeats 8000000
set_option linter.unusedVariables false
set_option linter.unusedSimpArgs false
namespace Go.Proofs.YtjoagdldbmlenaaGreatDoor.Rp
open Go.RowKit Go.Proofs.YtjoagdldbmlenaaGreatDoorW.PrintWords Go.Proofs.YtjoagdldbmlenaaGreatDoorW.PrintLast PFnReadDirectives Go.Proofs.YtjoagdldbmlenaaGreatDoor.Mod Tree Rel
theorem own9 {u v : Value} {m n : Nat} (h : ∀ k, u.ownBlock = some k → m ≤ k) (hn : m ≤ n) (ho : v.ownBlock = u.ownBlock ∨ ∃ b, v.ownBlock = some b ∧ n ≤ b) : ∀ k, v.ownBlock = some k → m ≤ k := by
 intro k hk
 rcases ho with h1 | ⟨b, h1, h2⟩
 ·exact h k (h1 ▸ hk)
 ·rw [h1] at hk
  have := Option.some.inj hk
  omega
theorem own_or9 {u : Value} {m : Nat} (h : ∀ k, u.ownBlock = some k → m ≤ k) : u.ownBlock = none ∨ ∃ b, u.ownBlock = some b ∧ m ≤ b := by
 cases e : u.ownBlock with
 | none => exact .inl rfl
 | some b => exact .inr ⟨b, rfl, h b e⟩
def APost (L : List Tok) (i : Nat) (d : Int) (g : Nat) (w0 w : World) (e : Ending) (w' : World) : Prop :=
 ∃ (v : Value) (ns : List S51) (a dd wr : Int) (b u : Bool), e = .returned v ∧ Kd.R k51 51 w' w.heap.size (fun _ => True) v ns ∧ IsS45 w0 w' g (L.map sT) a dd wr b u ∧ Below w0.heap.size w0 w' ∧ KeepBut w w' g none ∧ ARes L i d ns a dd b u
theorem some_eq (L : List Tok) (i : Nat) (d wr : Int) (u : Bool) (hL : L.length ≤ 2000) (hi : i ≤ L.length) (k : Int) : spec_parser_some.f (L.map sT) (i : Int) d wr false u k = if hk (L.drop i) = k then some ((i : Int) - 1, d, (i : Int) - 1, true, u) else some ((i : Int), d, wr, false, u) := by
 unfold spec_parser_some.f
 rw [if_neg (by decide), kind_eq L i d wr false u hL hi]
 simp only [Option.bind_some]
 by_cases h : hk (L.drop i) = k
 ·rw [if_pos h, if_pos h, w64 (x := (i : Int) - 1) (by omega) (by omega)]
  rfl
 ·rw [if_neg h, if_neg h]
theorem R_raise {w : World} {base base' : Nat} {ok : Nat → Prop} {v : Value} {xs : List S51} (h : Kd.R k51 51 w base ok v xs) (ho : ∀ k, v.ownBlock = some k → base' ≤ k) : Kd.R k51 51 w base' ok v xs := by
 obtain ⟨h0, inner, hi, hr⟩ := h
 refine ⟨h0, inner, ⟨hi.1, ?_⟩, hr⟩
 rcases hi.2 with h2 | ⟨g, cap, cur, rfl, _, r⟩
 ·exact .inl h2
 ·exact .inr ⟨g, cap, cur, rfl, ho g (by simp [Value.ownBlock]), r⟩
theorem app_rows {L : List S49} {a dd wr a7 d7 wr7 : Int} {b u b7 u7 : Bool} {g : Nat} {w0 w7 w8 w9 : World} {o : Obj} {uv : Value} {xs ms : List S51} {A9 : Option Addr} {c9 : Nat}
  (hI7 : IsS45 w0 w7 g L a7 d7 wr7 b7 u7) (hI : IsS45 w0 w8 g L a dd wr b u) (hB : Below w0.heap.size w0 w8) (hN : Kd.R k51 51 w7 w0.heap.size (fun _ => True) uv xs) (hk : KeepBut w7 w8 g none)
  (hb : Below (w8.alloc o).heap.size (w8.alloc o) w9) (hr : Kd.R k51 51 w9 (w8.alloc o).heap.size (fun _ => True) (.slice A9 ms.length c9) ms) :
  Kd.R k51 51 w9 w0.heap.size (fun _ => True) uv xs ∧ Kd.C k51 w9 A9 ms.length ms ∧ Below w0.heap.size w0 w9 ∧ w0.heap.size ≤ w9.heap.size ∧ IsS45 w0 w9 g L a dd wr b u ∧ KeepBut w7 w9 g none := by
 have hbw : Below w8.heap.size w8 w9 := (below_alloc (Below.refl _ _) o).trans (hb.mono (by simp))
 have hB9 := hB.trans (hbw.mono hB.size)
 exact ⟨Kd.R_below (row_kept hI7 hN hk) hbw, (Kd.R_reads' hr).2.2, hB9, hB9.size, hI.below hbw, hk.trans ⟨hbw.size, fun i hi _ _ => hbw.block i hi⟩ (.inl rfl)⟩
theorem args_ill (L : List S49) (a d wr : Int) (u : Bool) (g : Nat) (w0 w : World) (hI : IsS45 w0 w g L a d wr true u) (hB : Below w0.heap.size w0 w) :
  Calls Tryz.prog 16 #[.pointer (some ⟨g, 0, none⟩), .bool false] w fun e w' => ∃ v : Value, e = .returned v ∧ Kd.R k51 51 w' w.heap.size (fun _ => True) v [] ∧ IsS45 w0 w' g L a d wr true u ∧ Below w0.heap.size w0 w' ∧ KeepBut w w' g none := by
 have HE := aK (spec_parser_taken.calls g L a d wr true u 4 false a d wr true u w0 w hI hB (taken_bad d wr u a L 4))
 clear hI hB
 go_enter Tryz.func16, Tryz.ntmps16
 go_wp2_with fail
 refine HE.out.mono ?_
 rintro e w1 ⟨rfl, hi, hb, hk⟩
 have HI := aK hi
 have HB := aK hb
 have HK := aK hk
 clear hi hb hk
 go_wp2_with fail
 go_ret
 exact ⟨_, rfl, nil_row _ _ _, HI.out, HB.out, HK.out⟩
theorem args_no (L : List Tok) (i : Nat) (d wr : Int) (g : Nat) (w0 w : World) (hL : L.length ≤ 2000) (hi : i ≤ L.length) (h4 : hk (L.drop i) ≠ 4) (HI : IsS45 w0 w g (L.map sT) i d wr false false) (HB : Below w0.heap.size w0 w) :
  Calls Tryz.prog 16 #[.pointer (some ⟨g, 0, none⟩), .bool false] w (APost L i d g w0 w) := by
 have hte := taken_eq L i d wr false hL hi 4
 rw [if_neg h4] at hte
 have HTk := aK (spec_parser_taken.calls g _ _ _ _ _ _ 4 _ _ _ _ _ _ w0 w HI HB hte)
 have HAS := aK (args_skip (d := d) hi h4)
 clear HI HB hte
 go_enter Tryz.func16, Tryz.ntmps16
 go_wp2_with fail
 refine HTk.out.mono ?_
 rintro e w1 ⟨rfl, hi1, hb1, hk1⟩
 have HI1 := aK hi1
 have HB1 := aK hb1
 have HK1 := aK hk1
 clear hi1 hb1 hk1
 go_wp2_with fail
 go_ret
 exact ⟨_, [], _, _, _, _, _, rfl, nil_row _ _ _, HI1.out, HB1.out, HK1.out, HAS.out⟩
theorem args_close (L : List Tok) (i : Nat) (d wr : Int) (g : Nat) (w0 w : World) (hL : L.length ≤ 2000) (hi : i ≤ L.length) (t : Tok) (r : List Tok) (ht : L.drop i = t :: r) (hk4 : t.kind = 4) (h5 : hk (L.drop (i + 1)) = 5) (HI : IsS45 w0 w g (L.map sT) i d wr false false) (HB : Below w0.heap.size w0 w) :
  Calls Tryz.prog 16 #[.pointer (some ⟨g, 0, none⟩), .bool false] w (APost L i d g w0 w) := by
 have hi1 := lt_drop ht
 have hte := taken_eq L i d wr false hL hi 4
 rw [if_pos (show hk (L.drop i) = 4 by rw [ht]; exact hk4)] at hte
 have ec : (i : Int) + 1 = ((i + 1 : Nat) : Int) := by omega
 rw [ec] at hte
 have HTk := aK (spec_parser_taken.calls g _ _ _ _ _ _ 4 _ _ _ _ _ _ w0 w HI HB hte)
 have hso := some_eq L (i + 1) d wr false hL hi1 5
 rw [if_pos h5] at hso
 have HAS := aK (fun a dd => args_shut (d := d) (a := a) (dd := dd) (u := false) ht hk4 h5)
 have HSO := aK hso
 clear HI HB hte hso
 go_enter Tryz.func16, Tryz.ntmps16
 go_wp2_with fail
 refine HTk.out.mono ?_
 rintro e w1 ⟨rfl, hi1, hb1, hk1⟩
 have HS := aK (spec_parser_some.calls g _ _ _ _ _ _ 5 _ _ _ _ _ w0 w1 hi1 hb1 HSO.out)
 have HK1 := aK hk1
 clear hi1 hb1 hk1
 go_wp2_with fail
 refine HS.out.mono ?_
 rintro e w2 ⟨rfl, hi2, hb2, hk2⟩
 have HI2 := aK hi2
 have HB2 := aK hb2
 have HK2 := aK (HK1.out.trans hk2 (.inl rfl))
 clear hb2 hk2
 obtain ⟨A2, c2, HG, hg, HSx⟩ := hi2
 have hc4 := cellS45_4 HG
 clear HG HSx
 go_wp2_with fail
 go_loopg [5, 6] 1 (fun kq v5 v6 w' => v5 = .slice none 0 0 ∧ v6 = .int .i64 0 ∧ w' = w2)
 case atStart => exact ⟨rfl, rfl, rfl⟩
 case round =>
  obtain ⟨rfl, rfl, rfl⟩ := hrel
  go_wp2_with fail
  go_ret
  exact ⟨_, [], _, _, _, _, _, rfl, nil_row _ _ _, HI2.out, HB2.out, HK2.out, HAS.out _ _⟩
theorem args_yes (L : List Tok) (i : Nat) (d wr : Int) (g : Nat) (w0 w : World) (hL : L.length ≤ 2000) (hi : i ≤ L.length) (t : Tok) (r : List Tok) (ht : L.drop i = t :: r) (hk4 : t.kind = 4) (h5 : hk (L.drop (i + 1)) ≠ 5) (HV : ∀ (j : Nat) (wr2 : Int) (wx : World), j ≤ L.length → IsS45 w0 wx g (L.map sT) j d wr2 false false → Below w0.heap.size w0 wx → Calls Tryz.prog 14 #[.pointer (some ⟨g, 0, none⟩), .bool false] wx (VPost false L j d g w0 wx)) (HI : IsS45 w0 w g (L.map sT) i d wr false false) (HB : Below w0.heap.size w0 w) :
  Calls Tryz.prog 16 #[.pointer (some ⟨g, 0, none⟩), .bool false] w (APost L i d g w0 w) := by
 have hi1 := lt_drop ht
 have hte := taken_eq L i d wr false hL hi 4
 rw [if_pos (show hk (L.drop i) = 4 by rw [ht]; exact hk4)] at hte
 have ec : (i : Int) + 1 = ((i + 1 : Nat) : Int) := by omega
 rw [ec] at hte
 have HTk := aK (spec_parser_taken.calls g _ _ _ _ _ _ 4 _ _ _ _ _ _ w0 w HI HB hte)
 have hso := some_eq L (i + 1) d wr false hL hi1 5
 rw [if_neg h5] at hso
 have HV := aK HV
 have HT := aK ht
 have HKD := aK hk4
 have HSO := aK hso
 clear HI HB hte hso
 go_enter Tryz.func16, Tryz.ntmps16
 go_wp2_with fail
 refine HTk.out.mono ?_
 rintro e w1 ⟨rfl, hi1, hb1, hk1⟩
 have HS := aK (spec_parser_some.calls g _ _ _ _ _ _ 5 _ _ _ _ _ w0 w1 hi1 hb1 HSO.out)
 have HK1 := aK hk1
 clear hi1 hb1 hk1
 go_wp2_with fail
 refine HS.out.mono ?_
 rintro e w2 ⟨rfl, hi2, hb2, hk2⟩
 have HI2 := aK hi2
 have HB2 := aK hb2
 have HK2 := aK (HK1.out.trans hk2 (.inl rfl))
 clear hb2 hk2 hi2
 go_wp2_with fail
 go_loopg [5, 6] (L.length + 2) (fun kq v5 v6 w' => ∃ (K : List (List S51)) (a dd wr2 : Int) (b u : Bool), Aside0 (Kd.R k51 51 w' w0.heap.size (fun _ => True) v5 K.flatten) ∧ Aside0 (∀ k, v5.ownBlock = some k → w.heap.size ≤ k) ∧ Aside0 (IsS45 w0 w' g (L.map sT) a dd wr2 b u) ∧ Aside0 (Below w0.heap.size w0 w') ∧ Aside0 (KeepBut w w' g none) ∧ Aside0 (v6 = .int .i64 (K.length : Int)) ∧ Aside0 (K = [] → a = ((i + 1 : Nat) : Int)) ∧ Aside0 (LInv (fun n => sPair 9 (sVal false n)) 5 L (i + 1) d K a dd b u kq))
 case atStart => exact ⟨[], ((i + 1 : Nat) : Int), d, wr, false, false, ⟨nil_row _ _ _⟩, ⟨fun k hk => by simp [Value.ownBlock] at hk⟩, HI2, HB2, HK2, ⟨rfl⟩, ⟨fun _ => rfl⟩, ⟨LInv.begin_ (by omega) (by omega)⟩⟩
 case round =>
  obtain ⟨K, a, dd, wr2, b, u, HNr, HOr, HIr, HBr, HKr, HMr, HAr, HLr⟩ := hrel
  obtain ⟨Ar, cr, HGr, hgr, HSr⟩ := HIr.out
  have hr4 := cellS45_4 HGr
  have hm6 := HMr.out
  subst hm6
  clear HGr HSr
  cases b with
  | true =>
   have HAB := aK (args_bad HT.out HKD.out HLr.out)
   go_wp2_with fail
   go_ret
   exact ⟨_, _, _, _, _, _, _, rfl, R_raise HNr.out HOr.out, HIr.out, HBr.out, HKr.out, HAB.out⟩
  | false =>
   rcases HLr.out.2.2 with ⟨_, hu, hdd, j, X, hj, hjl, hKj, hFj, hq, hKX, hall⟩ | ⟨h, _⟩
   rotate_left
   ·cases h
   have hdd2 := hdd.symm
   subst hu hj hdd2
   clear hKX hall
   by_cases hK : K = []
   have hj1 : j = i + 1 := by have := HAr.out hK; omega
   have hk0 : (K.length : Int) = 0 := by rw [hK]; rfl
   have hcl : ¬ Rp.hk (L.drop j) = 5 := by rw [hj1]; exact h5
   have HCL := aK hcl
   have HI6 := HIr
   have HB6 := HBr
   have HK6 := HKr
   have HN6 := HNr
   clear hcl
   rw [hk0]
   clear hj1
   rotate_left
   have hk0 : ¬ (K.length : Int) = 0 := fun e => hK (List.eq_nil_of_length_eq_zero (by omega))
   by_cases hcl : Rp.hk (L.drop j) = 5
   ·have hte := taken_eq L j d wr2 false hL hjl 5
    rw [if_pos hcl] at hte
    have HTk := aK (spec_parser_taken.calls g _ _ _ _ _ _ 5 _ _ _ _ _ _ w0 wr HIr.out HBr.out hte)
    have HAD := aK (args_done HT.out HKD.out HLr.out hcl hK (by omega))
    clear hte hcl
    go_wp2_with fail
    refine HTk.out.mono ?_
    rintro e w5 ⟨rfl, hi5, hb5, hk5⟩
    have HI6 := aK hi5
    have HB6 := aK hb5
    have HK6 := aK (HKr.out.trans hk5 (.inl rfl))
    have HN6 := aK (row_kept HIr.out HNr.out hk5)
    clear hi5 hb5 hk5
    go_wp2_with fail
    go_ret
    exact ⟨_, _, _, _, _, _, _, rfl, R_raise HN6.out HOr.out, HI6.out, HB6.out, HK6.out, HAD.out⟩
   have hte := taken_eq L j d wr2 false hL hjl 5
   rw [if_neg hcl] at hte
   have HTk := aK (spec_parser_taken.calls g _ _ _ _ _ _ 5 _ _ _ _ _ _ w0 wr HIr.out HBr.out hte)
   have HCL := aK hcl
   clear hte hcl
   go_wp2_with fail
   refine HTk.out.mono ?_
   rintro e w5 ⟨rfl, hi5, hb5, hk5⟩
   have HI6 := aK hi5
   have HB6 := aK hb5
   have HK6 := aK (HKr.out.trans hk5 (.inl rfl))
   have HN6 := aK (row_kept HIr.out HNr.out hk5)
   clear hi5 hb5 hk5
   all_goals
    obtain ⟨k1, rfl⟩ : ∃ k1, gk = k1 + 1 := ⟨gk - 1, by omega⟩
    obtain ⟨nm, a1, d1, wr1, b1, u1, a2, d2, wr3, b2, u2, hny, hmy, hvx⟩ := member_plan 9 (by decide) false L j d wr2 g w0 hL hjl HV.out
    have HVX := aK hvx
    have HNY := aK hny
    have HMY := aK hmy
    have HLL := aK hL
    clear hvx hny hmy
    go_wp2_with fail
    refine (spec_parser_name.calls g _ _ _ _ _ _ _ _ _ _ _ _ w0 _ HI6.out HB6.out HNY.out).mono ?_
    rintro e w6 ⟨rfl, hi7, hb7, hk7⟩
    have HI7 := aK hi7
    have HB7 := aK hb7
    have HK7 := aK (HK6.out.trans hk7 (.inl rfl))
    have HN7 := aK (row_kept HI6.out HN6.out hk7)
    have HI7a := aK (HI7.out.alloc (.cells #[.int .i64 9, .string nm, .string emp, .string emp, .int .i64 0, .int .i64 0] 51))
    have HB7a := aK (below_alloc HB7.out (.cells #[.int .i64 9, .string nm, .string emp, .string emp, .int .i64 0, .int .i64 0] 51))
    have HX7 := aK (heap_alloc_new w6 (.cells #[.int .i64 9, .string nm, .string emp, .string emp, .int .i64 0, .int .i64 0] 51))
    have HK7a := aK (keep_alloc HK7.out (.cells #[.int .i64 9, .string nm, .string emp, .string emp, .int .i64 0, .int .i64 0] 51))
    have HN7a := aK (Kd.R_below HN7.out (below_alloc (Below.refl _ _) (.cells #[.int .i64 9, .string nm, .string emp, .string emp, .int .i64 0, .int .i64 0] 51)))
    have HGX := aK (Nat.ne_of_gt HI7.out.lt)
    clear hi7 hb7 hk7
    go_wp2_with fail
    refine (spec_parser_must.calls g _ _ _ _ _ _ 7 _ _ _ _ _ w0 _ HI7a.out HB7a.out HMY.out).mono ?_
    rintro e w7 ⟨rfl, hi8, hb8, hk8⟩
    have HVC := aK (HVX.out w7.drew hi8.drew (below_drew hb8))
    have HI8 := aK hi8.drew
    have HK8 := aK (HK7a.out.trans hk8 (.inl rfl))
    have HN8 := aK (Kd.R_drew (row_kept HI7a.out HN7a.out hk8))
    have hs8 : (w6.alloc (.cells #[.int .i64 9, .string nm, .string emp, .string emp, .int .i64 0, .int .i64 0] 51)).heap.size = w6.heap.size + 1 := by simp
    have hx8 := (hk8.2 w6.heap.size (by omega) HGX.out (by simp)).trans HX7.out
    have hxl7 : w6.heap.size < w7.heap.size := by have := hk8.1; omega
    have HXC := aK (fun (w' : World) (hk : KeepBut w7.drew w' g none) => (⟨(blk_cell ((hk.2 w6.heap.size hxl7 HGX.out (by simp)).trans hx8) 0).trans rfl, (blk_cell ((hk.2 w6.heap.size hxl7 HGX.out (by simp)).trans hx8) 1).trans rfl, (blk_cell ((hk.2 w6.heap.size hxl7 HGX.out (by simp)).trans hx8) 2).trans rfl, (blk_cell ((hk.2 w6.heap.size hxl7 HGX.out (by simp)).trans hx8) 3).trans rfl, (blk_cell ((hk.2 w6.heap.size hxl7 HGX.out (by simp)).trans hx8) 4).trans rfl, (blk_cell ((hk.2 w6.heap.size hxl7 HGX.out (by simp)).trans hx8) 5).trans rfl⟩ : w'.cell? ⟨w6.heap.size, 0, none⟩ = some (.int .i64 9) ∧ w'.cell? ⟨w6.heap.size, 1, none⟩ = some (.string nm) ∧ w'.cell? ⟨w6.heap.size, 2, none⟩ = some (.string emp) ∧ w'.cell? ⟨w6.heap.size, 3, none⟩ = some (.string emp) ∧ w'.cell? ⟨w6.heap.size, 4, none⟩ = some (.int .i64 0) ∧ w'.cell? ⟨w6.heap.size, 5, none⟩ = some (.int .i64 0)))
    obtain ⟨x0, x1, x2, x3, x4, x5⟩ := (⟨(blk_cell hx8 0).trans rfl, (blk_cell hx8 1).trans rfl, (blk_cell hx8 2).trans rfl, (blk_cell hx8 3).trans rfl, (blk_cell hx8 4).trans rfl, (blk_cell hx8 5).trans rfl⟩ : w7.cell? ⟨w6.heap.size, 0, none⟩ = some (.int .i64 9) ∧ w7.cell? ⟨w6.heap.size, 1, none⟩ = some (.string nm) ∧ w7.cell? ⟨w6.heap.size, 2, none⟩ = some (.string emp) ∧ w7.cell? ⟨w6.heap.size, 3, none⟩ = some (.string emp) ∧ w7.cell? ⟨w6.heap.size, 4, none⟩ = some (.int .i64 0) ∧ w7.cell? ⟨w6.heap.size, 5, none⟩ = some (.int .i64 0))
    have HXB := aK (fun (w8 w9 : World) (o : Obj) (h : w8.cell? ⟨w6.heap.size, 0, none⟩ = some (.int .i64 9) ∧ w8.cell? ⟨w6.heap.size, 1, none⟩ = some (.string nm) ∧ w8.cell? ⟨w6.heap.size, 2, none⟩ = some (.string emp) ∧ w8.cell? ⟨w6.heap.size, 3, none⟩ = some (.string emp) ∧ w8.cell? ⟨w6.heap.size, 4, none⟩ = some (.int .i64 0) ∧ w8.cell? ⟨w6.heap.size, 5, none⟩ = some (.int .i64 0)) (hb : Below (w8.alloc o).heap.size (w8.alloc o) w9) => (⟨pw_cell_below hb ((World.cell?_alloc_lt w8 o _ (World.block_lt_of_cell? w8 _ h.1)).trans h.1), pw_cell_below hb ((World.cell?_alloc_lt w8 o _ (World.block_lt_of_cell? w8 _ h.2.1)).trans h.2.1), pw_cell_below hb ((World.cell?_alloc_lt w8 o _ (World.block_lt_of_cell? w8 _ h.2.2.1)).trans h.2.2.1), pw_cell_below hb ((World.cell?_alloc_lt w8 o _ (World.block_lt_of_cell? w8 _ h.2.2.2.1)).trans h.2.2.2.1), pw_cell_below hb ((World.cell?_alloc_lt w8 o _ (World.block_lt_of_cell? w8 _ h.2.2.2.2.1)).trans h.2.2.2.2.1), pw_cell_below hb ((World.cell?_alloc_lt w8 o _ (World.block_lt_of_cell? w8 _ h.2.2.2.2.2)).trans h.2.2.2.2.2)⟩ : w9.cell? ⟨w6.heap.size, 0, none⟩ = some (.int .i64 9) ∧ w9.cell? ⟨w6.heap.size, 1, none⟩ = some (.string nm) ∧ w9.cell? ⟨w6.heap.size, 2, none⟩ = some (.string emp) ∧ w9.cell? ⟨w6.heap.size, 3, none⟩ = some (.string emp) ∧ w9.cell? ⟨w6.heap.size, 4, none⟩ = some (.int .i64 0) ∧ w9.cell? ⟨w6.heap.size, 5, none⟩ = some (.int .i64 0)))
    have HUX := aK (show some w6.heap.size ≠ u5.ownBlock from fun e => Nat.lt_irrefl _ (Kd.N_lt (Kd.R_N HN7.out) _ e.symm))
    have HXD := aK (fun (w9 w10 : World) (h : w9.cell? ⟨w6.heap.size, 0, none⟩ = some (.int .i64 9) ∧ w9.cell? ⟨w6.heap.size, 1, none⟩ = some (.string nm) ∧ w9.cell? ⟨w6.heap.size, 2, none⟩ = some (.string emp) ∧ w9.cell? ⟨w6.heap.size, 3, none⟩ = some (.string emp) ∧ w9.cell? ⟨w6.heap.size, 4, none⟩ = some (.int .i64 0) ∧ w9.cell? ⟨w6.heap.size, 5, none⟩ = some (.int .i64 0)) (hg : w9.grownBy w10 u5.ownBlock) => (⟨(World.cell?_of_block (w := w9) (hg.block w6.heap.size (World.block_lt_of_cell? w9 _ h.1) HUX.out)).trans h.1, (World.cell?_of_block (w := w9) (hg.block w6.heap.size (World.block_lt_of_cell? w9 _ h.2.1) HUX.out)).trans h.2.1, (World.cell?_of_block (w := w9) (hg.block w6.heap.size (World.block_lt_of_cell? w9 _ h.2.2.1) HUX.out)).trans h.2.2.1, (World.cell?_of_block (w := w9) (hg.block w6.heap.size (World.block_lt_of_cell? w9 _ h.2.2.2.1) HUX.out)).trans h.2.2.2.1, (World.cell?_of_block (w := w9) (hg.block w6.heap.size (World.block_lt_of_cell? w9 _ h.2.2.2.2.1) HUX.out)).trans h.2.2.2.2.1, (World.cell?_of_block (w := w9) (hg.block w6.heap.size (World.block_lt_of_cell? w9 _ h.2.2.2.2.2) HUX.out)).trans h.2.2.2.2.2⟩ : w10.cell? ⟨w6.heap.size, 0, none⟩ = some (.int .i64 9) ∧ w10.cell? ⟨w6.heap.size, 1, none⟩ = some (.string nm) ∧ w10.cell? ⟨w6.heap.size, 2, none⟩ = some (.string emp) ∧ w10.cell? ⟨w6.heap.size, 3, none⟩ = some (.string emp) ∧ w10.cell? ⟨w6.heap.size, 4, none⟩ = some (.int .i64 0) ∧ w10.cell? ⟨w6.heap.size, 5, none⟩ = some (.int .i64 0)))
    have HLM := aK (show ∀ (ms : List S51) (a dd : Int) (b u : Bool), KRes (fun n => sPair 9 (sVal false n)) L j d ms a dd b u → (K.flatten.length + ms.length) * 72 ≤ 140737488355328 from fun ms a dd b u h => by have h1 := h.1; have h2 := HLr.out.2.1; omega)
    clear hi8 hb8 hk8 hs8 hx8
    go_wp2_with fail
    go_region_held3 (fun w' => w'.cell? ⟨w6.heap.size, 0, none⟩ = some (.int .i64 9) ∧ w'.cell? ⟨w6.heap.size, 1, none⟩ = some (.string nm) ∧ w'.cell? ⟨w6.heap.size, 2, none⟩ = some (.string emp) ∧ w'.cell? ⟨w6.heap.size, 3, none⟩ = some (.string emp) ∧ w'.cell? ⟨w6.heap.size, 4, none⟩ = some (.int .i64 0) ∧ w'.cell? ⟨w6.heap.size, 5, none⟩ = some (.int .i64 0)) (go_keep) (first
     | (go_at_call 14; refine HVC.out.mono ?_; rintro e w8 ⟨v8, ns, a8, d8, wr8, b8, u8, rfl, hr8, hi8, hb8, hk8, hv8⟩; obtain ⟨A8, c8, e8⟩ := Kd.R_slice hr8; subst e8; obtain ⟨y0, y1, y2, y3, y4, y5⟩ := HXC.out w8 hk8)
     | (go_at_call 30; refine (made_member HLL.out hr8 hv8).mono ?_; rintro e w9 ⟨v9, rfl, hr9, hb9⟩; obtain ⟨A9, c9, e9⟩ := Kd.R_slice hr9; subst e9; have HAP := app_rows HI8.out hi8 hb8 HN8.out hk8 hb9 hr9; obtain ⟨z0, z1, z2, z3, z4, z5⟩ := HXB.out w8 w9 _ ⟨y0, y1, y2, y3, y4, y5⟩ hb9; have HLN := HLM.out _ _ _ _ _ hv8)
     | (refine Kd.R_append_rows_step k51 (w0 := w0) w0.heap.size (by rfl) (.tmp 34) (.tmp 40) 25 51 (.agg #[.int .i64 0, .string ⟨#[]⟩, .string ⟨#[]⟩, .string ⟨#[]⟩, .int .i64 0, .int .i64 0]) 72 (by rfl) Tryz.underlying25 info51 (by rfl) (by decide) (by omega) u5 K.flatten _ _ _ _ (fun _ => True) (fun _ => False) (by rfl) (by rfl) HAP.1 HAP.2.1 (fun _ _ h => h) (fun _ h => h.elim) (fun _ _ => trivial) HAP.2.2.1 HAP.2.2.2.1 HLN ?_; intro v10 w10 hn10 hb10 hg10 ho10; obtain ⟨t0, t1, t2, t3, t4, t5⟩ := HXD.out w9 w10 ⟨z0, z1, z2, z3, z4, z5⟩ hg10))
    all_goals
     have HKW := aK ((keep_drew HK8.out).trans HAP.2.2.2.2.2 (.inl rfl))
     have HI9 := aK HAP.2.2.2.2.1
     have HN9 := aK HAP.1
     have HN10 := aK hn10
     have HB10 := aK hb10
     have HG10 := aK hg10
     have HO10 := aK ho10
     have HV8 := aK hv8
     clear HAP HLN hn10 hb10 hg10 ho10 hv8 hr8 hi8 hb8 hk8 hb9 hr9 x0 x1 x2 x3 x4 x5 y0 y1 y2 y3 y4 y5 z0 z1 z2 z3 z4 z5 t0 t1 t2 t3 t4 t5
     go_wp2_with fail
     go_roundg k1
     case measure => first | omega | simp
     case rel => exact ⟨K ++ [mk54 9 nm emp emp 0 [ns]], a8, d8, wr8, b8, u8, ⟨by rw [List.flatten_append, List.flatten_cons, List.flatten_nil, List.append_nil]; exact HN10.out⟩, ⟨own9 HOr.out HKW.out.1 HO10.out⟩, ⟨HI9.out.grown HG10.out (HI9.out.own_ne HN9.out (by decide))⟩, HB10, ⟨HKW.out.trans (KeepBut.of_grown HG10.out g) (own_or9 HOr.out)⟩, ⟨by rw [List.length_append, List.length_cons, List.length_nil]; first | rfl | (congr 1; omega)⟩, ⟨fun h => by simp at h⟩, ⟨HLr.out.more hjl HCL.out HV8.out hKj hFj⟩⟩
end Go.Proofs.YtjoagdldbmlenaaGreatDoor.Rp
