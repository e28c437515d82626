import Derived.Test.YtjoagdldbmlenaaGreatDoorVP0
import Derived.Test.YtjoagdldbmlenaaGreatDoorVP7
set_option maxRecDepth 100000
set_option maxHeartbeats 8000000
set_option linter.unusedVariables false
set_option linter.unusedSimpArgs false
namespace Go.Proofs.YtjoagdldbmlenaaGreatDoor.PFnReadDirectives
open Go.RowKit Go.Proofs.YtjoagdldbmlenaaGreatDoorW.PrintWords Go.Proofs.YtjoagdldbmlenaaGreatDoorW.PrintLast Go.Proofs.YtjoagdldbmlenaaGreatDoorW.PrintMore
attribute [local go_sem] max2_int min2_int max_two min_two max_three min_three max_four min_four
def spec_parser_name.f (s0_0 : List (S49)) (s0_1 : Int) (s0_2 : Int) (s0_3 : Int) (s0_4 : Bool) (s0_5 : Bool) : Option (ByteArray × Int × Int × Int × Bool × Bool) := if s0_4 = true then ((spec_parser_fail.f s0_0 s0_1 s0_2 s0_3 s0_4 s0_5).bind fun bt279 => (some ((⟨#[]⟩ : ByteArray), bt279.2.1, bt279.2.2.1, bt279.2.2.2.1, bt279.2.2.2.2.1, bt279.2.2.2.2.2))) else ((spec_parser_kind.f s0_0 s0_1 s0_2 s0_3 s0_4 s0_5 0).bind fun bt287 => (if bt287.1 = 15 then (if 0 ≤ (wrap64 ((wrap64 (bt287.2.1 + 1)) - 1)) then (if (wrap64 ((wrap64 (bt287.2.1 + 1)) - 1)) < (s0_0.length : Int) then (some ((rd_T49 s0_0 (wrap64 ((wrap64 (bt287.2.1 + 1)) - 1))).f1, wrap64 (bt287.2.1 + 1), bt287.2.2.1, bt287.2.2.2.1, bt287.2.2.2.2.1, bt287.2.2.2.2.2)) else (none)) else (none)) else ((spec_parser_fail.f s0_0 bt287.2.1 bt287.2.2.1 bt287.2.2.2.1 bt287.2.2.2.2.1 bt287.2.2.2.2.2).bind fun bt294 => (some ((⟨#[]⟩ : ByteArray), bt294.2.1, bt294.2.2.1, bt294.2.2.2.1, bt294.2.2.2.2.1, bt294.2.2.2.2.2)))))
theorem spec_parser_name.calls (g : Nat) (s0_0 : List (S49)) (s0_1 : Int) (s0_2 : Int) (s0_3 : Int) (s0_4 : Bool) (s0_5 : Bool) (r1 : ByteArray) (r2 : Int) (r3 : Int) (r4 : Int) (r5 : Bool) (r6 : Bool) (w0 w : World) (hI : IsS45 w0 w g s0_0 s0_1 s0_2 s0_3 s0_4 s0_5) (hB : Below w0.heap.size w0 w) (h : spec_parser_name.f s0_0 s0_1 s0_2 s0_3 s0_4 s0_5 = some (r1, r2, r3, r4, r5, r6)) :
  Calls Tryz.prog 32 #[.pointer (some ⟨g, 0, none⟩)] w fun e w' => e = .returned (.string r1) ∧ IsS45 w0 w' g s0_0 r2 r3 r4 r5 r6 ∧ Below w0.heap.size w0 w' ∧ KeepBut w w' g none := by
 have HI0 := aK hI
 have HK := aK (KeepBut.refl w g none)
 have HL := aK hB.size
 clear hI
 have HW0 := aK hB.size
 have HB := aK hB
 clear hB
 have H : (if s0_4 = true then ((spec_parser_fail.f s0_0 s0_1 s0_2 s0_3 s0_4 s0_5).bind fun bt279 => (some ((⟨#[]⟩ : ByteArray), bt279.2.1, bt279.2.2.1, bt279.2.2.2.1, bt279.2.2.2.2.1, bt279.2.2.2.2.2))) else ((spec_parser_kind.f s0_0 s0_1 s0_2 s0_3 s0_4 s0_5 0).bind fun bt287 => (if bt287.1 = 15 then (if 0 ≤ (wrap64 ((wrap64 (bt287.2.1 + 1)) - 1)) then (if (wrap64 ((wrap64 (bt287.2.1 + 1)) - 1)) < (s0_0.length : Int) then (some ((rd_T49 s0_0 (wrap64 ((wrap64 (bt287.2.1 + 1)) - 1))).f1, wrap64 (bt287.2.1 + 1), bt287.2.2.1, bt287.2.2.2.1, bt287.2.2.2.2.1, bt287.2.2.2.2.2)) else (none)) else (none)) else ((spec_parser_fail.f s0_0 bt287.2.1 bt287.2.2.1 bt287.2.2.2.1 bt287.2.2.2.2.1 bt287.2.2.2.2.2).bind fun bt294 => (some ((⟨#[]⟩ : ByteArray), bt294.2.1, bt294.2.2.1, bt294.2.2.2.1, bt294.2.2.2.2.1, bt294.2.2.2.2.2)))))) = some (r1, r2, r3, r4, r5, r6) := h
 clear h
 by_cases c2 : s0_4 = true
 ·subst c2
  have H1 : ((spec_parser_fail.f s0_0 s0_1 s0_2 s0_3 true s0_5).bind fun bt279 => (some ((⟨#[]⟩ : ByteArray), bt279.2.1, bt279.2.2.1, bt279.2.2.2.1, bt279.2.2.2.2.1, bt279.2.2.2.2.2))) = some (r1, r2, r3, r4, r5, r6) := by rw [if_pos rfl] at H; exact H
  clear H
  have H := H1
  clear H1
  replace H := Option.bind_eq_some_iff.mp H
  obtain ⟨⟨t279, t282, t283, t284, t285, t286⟩, A30, H⟩ := H
  replace H : (some ((⟨#[]⟩ : ByteArray), t282, t283, t284, t285, t286)) = some (r1, r2, r3, r4, r5, r6) := H
  have A3 := aK A30
  clear A30
  simp only [Option.some.injEq, Prod.mk.injEq] at H
  obtain ⟨rfl, rfl, rfl, rfl, rfl, rfl⟩ := H
  obtain ⟨ASz4_0, cSz4_0, HGz4, hgz4, HSz4_0⟩ := HI0.out
  have hcz4_0 := cellS45_0 HGz4
  have hcz4_1 := cellS45_1 HGz4
  have hcz4_2 := cellS45_2 HGz4
  have hcz4_3 := cellS45_3 HGz4
  have hcz4_4 := cellS45_4 HGz4
  have hcz4_5 := cellS45_5 HGz4
  have hfz4_1 := blk_frozen HGz4 1
  have hfz4_2 := blk_frozen HGz4 2
  have hfz4_3 := blk_frozen HGz4 3
  have hfz4_4 := blk_frozen HGz4 4
  have hfz4_5 := blk_frozen HGz4 5
  clear HGz4 hgz4
  go_enter Tryz.func32, Tryz.ntmps32
  go_wp2_with (first | (go_at_call 55; (with_reducible refine (spec_parser_fail.calls g s0_0 s0_1 s0_2 s0_3 true s0_5 t279 t282 t283 t284 t285 t286 w0 _ ?side1 ?side2 A3.out).mono ?_); (case side1 => exact vI); (case side2 => exact vJ); rintro e w5 ⟨v280, rfl, ho0, hi, hb, hk⟩; have n0_ := aK (Kd.R_lower ho0 (keep_size (w := w) (g := g) (row := none) vK)); have n1_ := aK (KeepBut.trans vK hk (.inl rfl)); have n2_ := aK (hb); have n3_ := aK (hi); clear HK; clear HB; clear HI0; have HO281 := n0_; have HK := n1_; have HB := n2_; have HI0 := n3_; clear n0_ n1_ n2_ n3_; (try clear hb); (try clear hb2); (try clear hk); (try clear hi); (try clear ho0)))
  repeat (go_quiet (first | (go_at_call 55; (with_reducible refine (spec_parser_fail.calls g s0_0 s0_1 s0_2 s0_3 true s0_5 t279 t282 t283 t284 t285 t286 w0 _ ?side1 ?side2 A3.out).mono ?_); (case side1 => exact vI); (case side2 => exact vJ); rintro e w5 ⟨v280, rfl, ho0, hi, hb, hk⟩; have n0_ := aK (Kd.R_lower ho0 (keep_size (w := w) (g := g) (row := none) vK)); have n1_ := aK (KeepBut.trans vK hk (.inl rfl)); have n2_ := aK (hb); have n3_ := aK (hi); clear HK; clear HB; clear HI0; have HO281 := n0_; have HK := n1_; have HB := n2_; have HI0 := n3_; clear n0_ n1_ n2_ n3_; (try clear hb); (try clear hb2); (try clear hk); (try clear hi); (try clear ho0))); try go_wp2_with (first | (go_at_call 55; (with_reducible refine (spec_parser_fail.calls g s0_0 s0_1 s0_2 s0_3 true s0_5 t279 t282 t283 t284 t285 t286 w0 _ ?side1 ?side2 A3.out).mono ?_); (case side1 => exact vI); (case side2 => exact vJ); rintro e w5 ⟨v280, rfl, ho0, hi, hb, hk⟩; have n0_ := aK (Kd.R_lower ho0 (keep_size (w := w) (g := g) (row := none) vK)); have n1_ := aK (KeepBut.trans vK hk (.inl rfl)); have n2_ := aK (hb); have n3_ := aK (hi); clear HK; clear HB; clear HI0; have HO281 := n0_; have HK := n1_; have HB := n2_; have HI0 := n3_; clear n0_ n1_ n2_ n3_; (try clear hb); (try clear hb2); (try clear hk); (try clear hi); (try clear ho0))))
  go_ret
  exact ⟨vE, vI, vJ, vK⟩
 ·replace c2 := Bool.eq_false_iff.mpr c2
  subst c2
  have H1 : ((spec_parser_kind.f s0_0 s0_1 s0_2 s0_3 false s0_5 0).bind fun bt287 => (if bt287.1 = 15 then (if 0 ≤ (wrap64 ((wrap64 (bt287.2.1 + 1)) - 1)) then (if (wrap64 ((wrap64 (bt287.2.1 + 1)) - 1)) < (s0_0.length : Int) then (some ((rd_T49 s0_0 (wrap64 ((wrap64 (bt287.2.1 + 1)) - 1))).f1, wrap64 (bt287.2.1 + 1), bt287.2.2.1, bt287.2.2.2.1, bt287.2.2.2.2.1, bt287.2.2.2.2.2)) else (none)) else (none)) else ((spec_parser_fail.f s0_0 bt287.2.1 bt287.2.2.1 bt287.2.2.2.1 bt287.2.2.2.2.1 bt287.2.2.2.2.2).bind fun bt294 => (some ((⟨#[]⟩ : ByteArray), bt294.2.1, bt294.2.2.1, bt294.2.2.2.1, bt294.2.2.2.2.1, bt294.2.2.2.2.2))))) = some (r1, r2, r3, r4, r5, r6) := by rw [if_neg (show ¬ (false = true) by decide)] at H; exact H
  clear H
  have H := H1
  clear H1
  replace H := Option.bind_eq_some_iff.mp H
  obtain ⟨⟨t287, t288, t289, t290, t291, t292⟩, A60, H⟩ := H
  replace H : (if t287 = 15 then (if 0 ≤ (wrap64 ((wrap64 (t288 + 1)) - 1)) then (if (wrap64 ((wrap64 (t288 + 1)) - 1)) < (s0_0.length : Int) then (some ((rd_T49 s0_0 (wrap64 ((wrap64 (t288 + 1)) - 1))).f1, wrap64 (t288 + 1), t289, t290, t291, t292)) else (none)) else (none)) else ((spec_parser_fail.f s0_0 t288 t289 t290 t291 t292).bind fun bt294 => (some ((⟨#[]⟩ : ByteArray), bt294.2.1, bt294.2.2.1, bt294.2.2.2.1, bt294.2.2.2.2.1, bt294.2.2.2.2.2)))) = some (r1, r2, r3, r4, r5, r6) := H
  have A6 := aK A60
  clear A60
  by_cases c7 : t287 = 15
  ·rw [if_pos c7] at H
   have c7b0 : (t287 == 15) = true := beq_iff_eq.mpr c7
   have c7b1 : (t287 != 15) = false := bne_eq_false_iff_eq.mpr c7
   clear c7
   obtain ⟨ji8, hji8⟩ : ∃ j_ : Int, (wrap64 ((wrap64 (t288 + 1)) - 1)) = j_ := ⟨_, rfl⟩
   replace H : (if 0 ≤ (ji8) then (if (ji8) < (s0_0.length : Int) then (some ((rd_T49 s0_0 (ji8)).f1, wrap64 (t288 + 1), t289, t290, t291, t292)) else (none)) else (none)) = some (r1, r2, r3, r4, r5, r6) := by first | (rw [hji8] at H; exact H) | (simp only [hji8] at H ⊢; exact H)
   (try rw [hji8] at A6)
   have hji8w : (IntKind.i64.wrap ((wrap64 (t288 + 1)) - 1)) = ji8 := (i64_w _).trans hji8
   by_cases c9 : 0 ≤ (ji8)
   ·rw [if_pos c9] at H
    have c9b0 : decide (0 ≤ (ji8)) = true := decide_eq_true c9
    clear c9
    by_cases c10 : (ji8) < (s0_0.length : Int)
    ·rw [if_pos c10] at H
     have c10b0 : decide ((ji8) < (s0_0.length : Int)) = true := decide_eq_true c10
     clear c10
     simp only [Option.some.injEq, Prod.mk.injEq] at H
     obtain ⟨rfl, rfl, rfl, rfl, rfl, rfl⟩ := H
     obtain ⟨ASz11_0, cSz11_0, HGz11, hgz11, HSz11_0⟩ := HI0.out
     have hcz11_0 := cellS45_0 HGz11
     have hcz11_1 := cellS45_1 HGz11
     have hcz11_2 := cellS45_2 HGz11
     have hcz11_3 := cellS45_3 HGz11
     have hcz11_4 := cellS45_4 HGz11
     have hcz11_5 := cellS45_5 HGz11
     have hfz11_1 := blk_frozen HGz11 1
     have hfz11_2 := blk_frozen HGz11 2
     have hfz11_3 := blk_frozen HGz11 3
     have hfz11_4 := blk_frozen HGz11 4
     have hfz11_5 := blk_frozen HGz11 5
     clear HGz11 hgz11
     go_enter Tryz.func32, Tryz.ntmps32
     go_wp2_with (first | (go_at_call 28; (with_reducible refine (spec_parser_kind.calls g s0_0 s0_1 s0_2 s0_3 false s0_5 0 t287 t288 t289 t290 t291 t292 w0 _ ?side1 ?side2 A6.out).mono ?_); (case side1 => exact vI); (case side2 => exact vJ); rintro e w12 ⟨rfl, hi, hb, hk⟩; have n0_ := aK (KeepBut.trans vK hk (.inl rfl)); have n1_ := aK (hb); have n2_ := aK (hi); clear HK; clear HB; clear HI0; have HK := n0_; have HB := n1_; have HI0 := n2_; clear n0_ n1_ n2_; (try clear hb); (try clear hb2); (try clear hk); (try clear hi); obtain ⟨ASz13_0, cSz13_0, HGz13, hgz13, HSz13_0⟩ := HI0.out; have hcz13_0 := cellS45_0 HGz13; have hcz13_1 := cellS45_1 HGz13; have hcz13_2 := cellS45_2 HGz13; have hcz13_3 := cellS45_3 HGz13; have hcz13_4 := cellS45_4 HGz13; have hcz13_5 := cellS45_5 HGz13; have hfz13_1 := blk_frozen HGz13 1; have hfz13_2 := blk_frozen HGz13 2; have hfz13_3 := blk_frozen HGz13 3; have hfz13_4 := blk_frozen HGz13 4; have hfz13_5 := blk_frozen HGz13 5; clear HGz13 hgz13; have p293 : 0 ≤ ((ji8) : Int) := of_decide_eq_true vA; have q293 : (ji8) < (s0_0.length : Int) := of_decide_eq_true vA; obtain ⟨ad293, e293, hx293_0, hx293_1, hx293_2, hx293_3⟩ := at_T49 HSz13_0 (ji8) p293 q293; cases e293; have hn293_0 : ad293.block ≠ g := Nat.ne_of_lt (Nat.lt_of_lt_of_le (by have := World.block_lt_of_cell? _ _ hx293_0; first | rwa [add_block] at this | exact this) (IsS45.ge HI0.out)); replace hx293_0 := pw_cell_below HB.out hx293_0; replace hx293_1 := pw_cell_below HB.out hx293_1; replace hx293_2 := pw_cell_below HB.out hx293_2; replace hx293_3 := pw_cell_below HB.out hx293_3; replace hx293_0 := (cell_far (p := ⟨g, 1, none⟩) (by first | (rw [add_block]; exact hn293_0) | (show (Addr.add _ _).block ≠ _; rw [add_block]; exact hn293_0) | exact hn293_0) (.int .i64 (wrap64 (t288 + 1)))).trans hx293_0; replace hx293_1 := (cell_far (p := ⟨g, 1, none⟩) (by first | (rw [add_block]; exact hn293_0) | (show (Addr.add _ _).block ≠ _; rw [add_block]; exact hn293_0) | exact hn293_0) (.int .i64 (wrap64 (t288 + 1)))).trans hx293_1; replace hx293_2 := (cell_far (p := ⟨g, 1, none⟩) (by first | (rw [add_block]; exact hn293_0) | (show (Addr.add _ _).block ≠ _; rw [add_block]; exact hn293_0) | exact hn293_0) (.int .i64 (wrap64 (t288 + 1)))).trans hx293_2; replace hx293_3 := (cell_far (p := ⟨g, 1, none⟩) (by first | (rw [add_block]; exact hn293_0) | (show (Addr.add _ _).block ≠ _; rw [add_block]; exact hn293_0) | exact hn293_0) (.int .i64 (wrap64 (t288 + 1)))).trans hx293_3; (try have hy293_0 := fun (n_ : Nat) => (show (((w12.drewN n_).setCell ⟨g, 1, none⟩ (.int .i64 (wrap64 (t288 + 1))))).cell? _ = some _ from hx293_0)); (try have hy293_1 := fun (n_ : Nat) => (show (((w12.drewN n_).setCell ⟨g, 1, none⟩ (.int .i64 (wrap64 (t288 + 1))))).cell? _ = some _ from hx293_1)); (try have hy293_2 := fun (n_ : Nat) => (show (((w12.drewN n_).setCell ⟨g, 1, none⟩ (.int .i64 (wrap64 (t288 + 1))))).cell? _ = some _ from hx293_2)); (try have hy293_3 := fun (n_ : Nat) => (show (((w12.drewN n_).setCell ⟨g, 1, none⟩ (.int .i64 (wrap64 (t288 + 1))))).cell? _ = some _ from hx293_3)); clear hn293_0; replace p293 := eq_true p293; replace q293 := eq_true q293))
     repeat (go_quiet (first | (go_at_call 28; (with_reducible refine (spec_parser_kind.calls g s0_0 s0_1 s0_2 s0_3 false s0_5 0 t287 t288 t289 t290 t291 t292 w0 _ ?side1 ?side2 A6.out).mono ?_); (case side1 => exact vI); (case side2 => exact vJ); rintro e w12 ⟨rfl, hi, hb, hk⟩; have n0_ := aK (KeepBut.trans vK hk (.inl rfl)); have n1_ := aK (hb); have n2_ := aK (hi); clear HK; clear HB; clear HI0; have HK := n0_; have HB := n1_; have HI0 := n2_; clear n0_ n1_ n2_; (try clear hb); (try clear hb2); (try clear hk); (try clear hi); obtain ⟨ASz13_0, cSz13_0, HGz13, hgz13, HSz13_0⟩ := HI0.out; have hcz13_0 := cellS45_0 HGz13; have hcz13_1 := cellS45_1 HGz13; have hcz13_2 := cellS45_2 HGz13; have hcz13_3 := cellS45_3 HGz13; have hcz13_4 := cellS45_4 HGz13; have hcz13_5 := cellS45_5 HGz13; have hfz13_1 := blk_frozen HGz13 1; have hfz13_2 := blk_frozen HGz13 2; have hfz13_3 := blk_frozen HGz13 3; have hfz13_4 := blk_frozen HGz13 4; have hfz13_5 := blk_frozen HGz13 5; clear HGz13 hgz13; have p293 : 0 ≤ ((ji8) : Int) := of_decide_eq_true vA; have q293 : (ji8) < (s0_0.length : Int) := of_decide_eq_true vA; obtain ⟨ad293, e293, hx293_0, hx293_1, hx293_2, hx293_3⟩ := at_T49 HSz13_0 (ji8) p293 q293; cases e293; have hn293_0 : ad293.block ≠ g := Nat.ne_of_lt (Nat.lt_of_lt_of_le (by have := World.block_lt_of_cell? _ _ hx293_0; first | rwa [add_block] at this | exact this) (IsS45.ge HI0.out)); replace hx293_0 := pw_cell_below HB.out hx293_0; replace hx293_1 := pw_cell_below HB.out hx293_1; replace hx293_2 := pw_cell_below HB.out hx293_2; replace hx293_3 := pw_cell_below HB.out hx293_3; replace hx293_0 := (cell_far (p := ⟨g, 1, none⟩) (by first | (rw [add_block]; exact hn293_0) | (show (Addr.add _ _).block ≠ _; rw [add_block]; exact hn293_0) | exact hn293_0) (.int .i64 (wrap64 (t288 + 1)))).trans hx293_0; replace hx293_1 := (cell_far (p := ⟨g, 1, none⟩) (by first | (rw [add_block]; exact hn293_0) | (show (Addr.add _ _).block ≠ _; rw [add_block]; exact hn293_0) | exact hn293_0) (.int .i64 (wrap64 (t288 + 1)))).trans hx293_1; replace hx293_2 := (cell_far (p := ⟨g, 1, none⟩) (by first | (rw [add_block]; exact hn293_0) | (show (Addr.add _ _).block ≠ _; rw [add_block]; exact hn293_0) | exact hn293_0) (.int .i64 (wrap64 (t288 + 1)))).trans hx293_2; replace hx293_3 := (cell_far (p := ⟨g, 1, none⟩) (by first | (rw [add_block]; exact hn293_0) | (show (Addr.add _ _).block ≠ _; rw [add_block]; exact hn293_0) | exact hn293_0) (.int .i64 (wrap64 (t288 + 1)))).trans hx293_3; (try have hy293_0 := fun (n_ : Nat) => (show (((w12.drewN n_).setCell ⟨g, 1, none⟩ (.int .i64 (wrap64 (t288 + 1))))).cell? _ = some _ from hx293_0)); (try have hy293_1 := fun (n_ : Nat) => (show (((w12.drewN n_).setCell ⟨g, 1, none⟩ (.int .i64 (wrap64 (t288 + 1))))).cell? _ = some _ from hx293_1)); (try have hy293_2 := fun (n_ : Nat) => (show (((w12.drewN n_).setCell ⟨g, 1, none⟩ (.int .i64 (wrap64 (t288 + 1))))).cell? _ = some _ from hx293_2)); (try have hy293_3 := fun (n_ : Nat) => (show (((w12.drewN n_).setCell ⟨g, 1, none⟩ (.int .i64 (wrap64 (t288 + 1))))).cell? _ = some _ from hx293_3)); clear hn293_0; replace p293 := eq_true p293; replace q293 := eq_true q293)); try go_wp2_with (first | (go_at_call 28; (with_reducible refine (spec_parser_kind.calls g s0_0 s0_1 s0_2 s0_3 false s0_5 0 t287 t288 t289 t290 t291 t292 w0 _ ?side1 ?side2 A6.out).mono ?_); (case side1 => exact vI); (case side2 => exact vJ); rintro e w12 ⟨rfl, hi, hb, hk⟩; have n0_ := aK (KeepBut.trans vK hk (.inl rfl)); have n1_ := aK (hb); have n2_ := aK (hi); clear HK; clear HB; clear HI0; have HK := n0_; have HB := n1_; have HI0 := n2_; clear n0_ n1_ n2_; (try clear hb); (try clear hb2); (try clear hk); (try clear hi); obtain ⟨ASz13_0, cSz13_0, HGz13, hgz13, HSz13_0⟩ := HI0.out; have hcz13_0 := cellS45_0 HGz13; have hcz13_1 := cellS45_1 HGz13; have hcz13_2 := cellS45_2 HGz13; have hcz13_3 := cellS45_3 HGz13; have hcz13_4 := cellS45_4 HGz13; have hcz13_5 := cellS45_5 HGz13; have hfz13_1 := blk_frozen HGz13 1; have hfz13_2 := blk_frozen HGz13 2; have hfz13_3 := blk_frozen HGz13 3; have hfz13_4 := blk_frozen HGz13 4; have hfz13_5 := blk_frozen HGz13 5; clear HGz13 hgz13; have p293 : 0 ≤ ((ji8) : Int) := of_decide_eq_true vA; have q293 : (ji8) < (s0_0.length : Int) := of_decide_eq_true vA; obtain ⟨ad293, e293, hx293_0, hx293_1, hx293_2, hx293_3⟩ := at_T49 HSz13_0 (ji8) p293 q293; cases e293; have hn293_0 : ad293.block ≠ g := Nat.ne_of_lt (Nat.lt_of_lt_of_le (by have := World.block_lt_of_cell? _ _ hx293_0; first | rwa [add_block] at this | exact this) (IsS45.ge HI0.out)); replace hx293_0 := pw_cell_below HB.out hx293_0; replace hx293_1 := pw_cell_below HB.out hx293_1; replace hx293_2 := pw_cell_below HB.out hx293_2; replace hx293_3 := pw_cell_below HB.out hx293_3; replace hx293_0 := (cell_far (p := ⟨g, 1, none⟩) (by first | (rw [add_block]; exact hn293_0) | (show (Addr.add _ _).block ≠ _; rw [add_block]; exact hn293_0) | exact hn293_0) (.int .i64 (wrap64 (t288 + 1)))).trans hx293_0; replace hx293_1 := (cell_far (p := ⟨g, 1, none⟩) (by first | (rw [add_block]; exact hn293_0) | (show (Addr.add _ _).block ≠ _; rw [add_block]; exact hn293_0) | exact hn293_0) (.int .i64 (wrap64 (t288 + 1)))).trans hx293_1; replace hx293_2 := (cell_far (p := ⟨g, 1, none⟩) (by first | (rw [add_block]; exact hn293_0) | (show (Addr.add _ _).block ≠ _; rw [add_block]; exact hn293_0) | exact hn293_0) (.int .i64 (wrap64 (t288 + 1)))).trans hx293_2; replace hx293_3 := (cell_far (p := ⟨g, 1, none⟩) (by first | (rw [add_block]; exact hn293_0) | (show (Addr.add _ _).block ≠ _; rw [add_block]; exact hn293_0) | exact hn293_0) (.int .i64 (wrap64 (t288 + 1)))).trans hx293_3; (try have hy293_0 := fun (n_ : Nat) => (show (((w12.drewN n_).setCell ⟨g, 1, none⟩ (.int .i64 (wrap64 (t288 + 1))))).cell? _ = some _ from hx293_0)); (try have hy293_1 := fun (n_ : Nat) => (show (((w12.drewN n_).setCell ⟨g, 1, none⟩ (.int .i64 (wrap64 (t288 + 1))))).cell? _ = some _ from hx293_1)); (try have hy293_2 := fun (n_ : Nat) => (show (((w12.drewN n_).setCell ⟨g, 1, none⟩ (.int .i64 (wrap64 (t288 + 1))))).cell? _ = some _ from hx293_2)); (try have hy293_3 := fun (n_ : Nat) => (show (((w12.drewN n_).setCell ⟨g, 1, none⟩ (.int .i64 (wrap64 (t288 + 1))))).cell? _ = some _ from hx293_3)); clear hn293_0; replace p293 := eq_true p293; replace q293 := eq_true q293)))
     go_ret
     exact ⟨by first | rfl | (simp [errW_none, errW_some] <;> rfl) | (simp only [← hji8]; first | rfl | (simp [errW_none, errW_some] <;> rfl)) | (simp [*, errW_none, errW_some] <;> rfl), vI, vJ, vK⟩
    ·rw [if_neg c10] at H
     exact absurd H (by simp)
   ·rw [if_neg c9] at H
    exact absurd H (by simp)
  ·rw [if_neg c7] at H
   have c7b0 : (t287 == 15) = false := beq_eq_false_iff_ne.mpr c7
   have c7b1 : (t287 != 15) = true := bne_iff_ne.mpr c7
   replace H := Option.bind_eq_some_iff.mp H
   obtain ⟨⟨t294, t297, t298, t299, t300, t301⟩, A140, H⟩ := H
   replace H : (some ((⟨#[]⟩ : ByteArray), t297, t298, t299, t300, t301)) = some (r1, r2, r3, r4, r5, r6) := H
   have A14 := aK A140
   clear A140
   simp only [Option.some.injEq, Prod.mk.injEq] at H
   obtain ⟨rfl, rfl, rfl, rfl, rfl, rfl⟩ := H
   obtain ⟨ASz15_0, cSz15_0, HGz15, hgz15, HSz15_0⟩ := HI0.out
   have hcz15_0 := cellS45_0 HGz15
   have hcz15_1 := cellS45_1 HGz15
   have hcz15_2 := cellS45_2 HGz15
   have hcz15_3 := cellS45_3 HGz15
   have hcz15_4 := cellS45_4 HGz15
   have hcz15_5 := cellS45_5 HGz15
   have hfz15_1 := blk_frozen HGz15 1
   have hfz15_2 := blk_frozen HGz15 2
   have hfz15_3 := blk_frozen HGz15 3
   have hfz15_4 := blk_frozen HGz15 4
   have hfz15_5 := blk_frozen HGz15 5
   clear HGz15 hgz15
   go_enter Tryz.func32, Tryz.ntmps32
   go_wp2_with (first | (go_at_call 28; (with_reducible refine (spec_parser_kind.calls g s0_0 s0_1 s0_2 s0_3 false s0_5 0 t287 t288 t289 t290 t291 t292 w0 _ ?side1 ?side2 A6.out).mono ?_); (case side1 => exact vI); (case side2 => exact vJ); rintro e w16 ⟨rfl, hi, hb, hk⟩; have n0_ := aK (KeepBut.trans vK hk (.inl rfl)); have n1_ := aK (hb); have n2_ := aK (hi); clear HK; clear HB; clear HI0; have HK := n0_; have HB := n1_; have HI0 := n2_; clear n0_ n1_ n2_; (try clear hb); (try clear hb2); (try clear hk); (try clear hi)) | (go_at_call 55; (with_reducible refine (spec_parser_fail.calls g s0_0 t288 t289 t290 t291 t292 t294 t297 t298 t299 t300 t301 w0 _ ?side1 ?side2 A14.out).mono ?_); (case side1 => exact vI); (case side2 => exact vJ); rintro e w17 ⟨v295, rfl, ho0, hi, hb, hk⟩; have n0_ := aK (Kd.R_lower ho0 (keep_size (w := w) (g := g) (row := none) vK)); have n1_ := aK (KeepBut.trans vK hk (.inl rfl)); have n2_ := aK (hb); have n3_ := aK (hi); clear HK; clear HB; clear HI0; have HO296 := n0_; have HK := n1_; have HB := n2_; have HI0 := n3_; clear n0_ n1_ n2_ n3_; (try clear hb); (try clear hb2); (try clear hk); (try clear hi); (try clear ho0)))
   repeat (go_quiet (first | (go_at_call 28; (with_reducible refine (spec_parser_kind.calls g s0_0 s0_1 s0_2 s0_3 false s0_5 0 t287 t288 t289 t290 t291 t292 w0 _ ?side1 ?side2 A6.out).mono ?_); (case side1 => exact vI); (case side2 => exact vJ); rintro e w16 ⟨rfl, hi, hb, hk⟩; have n0_ := aK (KeepBut.trans vK hk (.inl rfl)); have n1_ := aK (hb); have n2_ := aK (hi); clear HK; clear HB; clear HI0; have HK := n0_; have HB := n1_; have HI0 := n2_; clear n0_ n1_ n2_; (try clear hb); (try clear hb2); (try clear hk); (try clear hi)) | (go_at_call 55; (with_reducible refine (spec_parser_fail.calls g s0_0 t288 t289 t290 t291 t292 t294 t297 t298 t299 t300 t301 w0 _ ?side1 ?side2 A14.out).mono ?_); (case side1 => exact vI); (case side2 => exact vJ); rintro e w17 ⟨v295, rfl, ho0, hi, hb, hk⟩; have n0_ := aK (Kd.R_lower ho0 (keep_size (w := w) (g := g) (row := none) vK)); have n1_ := aK (KeepBut.trans vK hk (.inl rfl)); have n2_ := aK (hb); have n3_ := aK (hi); clear HK; clear HB; clear HI0; have HO296 := n0_; have HK := n1_; have HB := n2_; have HI0 := n3_; clear n0_ n1_ n2_ n3_; (try clear hb); (try clear hb2); (try clear hk); (try clear hi); (try clear ho0))); try go_wp2_with (first | (go_at_call 28; (with_reducible refine (spec_parser_kind.calls g s0_0 s0_1 s0_2 s0_3 false s0_5 0 t287 t288 t289 t290 t291 t292 w0 _ ?side1 ?side2 A6.out).mono ?_); (case side1 => exact vI); (case side2 => exact vJ); rintro e w16 ⟨rfl, hi, hb, hk⟩; have n0_ := aK (KeepBut.trans vK hk (.inl rfl)); have n1_ := aK (hb); have n2_ := aK (hi); clear HK; clear HB; clear HI0; have HK := n0_; have HB := n1_; have HI0 := n2_; clear n0_ n1_ n2_; (try clear hb); (try clear hb2); (try clear hk); (try clear hi)) | (go_at_call 55; (with_reducible refine (spec_parser_fail.calls g s0_0 t288 t289 t290 t291 t292 t294 t297 t298 t299 t300 t301 w0 _ ?side1 ?side2 A14.out).mono ?_); (case side1 => exact vI); (case side2 => exact vJ); rintro e w17 ⟨v295, rfl, ho0, hi, hb, hk⟩; have n0_ := aK (Kd.R_lower ho0 (keep_size (w := w) (g := g) (row := none) vK)); have n1_ := aK (KeepBut.trans vK hk (.inl rfl)); have n2_ := aK (hb); have n3_ := aK (hi); clear HK; clear HB; clear HI0; have HO296 := n0_; have HK := n1_; have HB := n2_; have HI0 := n3_; clear n0_ n1_ n2_ n3_; (try clear hb); (try clear hb2); (try clear hk); (try clear hi); (try clear ho0))))
   go_ret
   exact ⟨vE, vI, vJ, vK⟩
def spec_parser_leave.f (s0_0 : List (S49)) (s0_1 : Int) (s0_2 : Int) (s0_3 : Int) (s0_4 : Bool) (s0_5 : Bool) : Option (Int × Int × Int × Bool × Bool) := some (s0_1, wrap64 (s0_2 - 1), s0_3, s0_4, s0_5)
theorem spec_parser_leave.calls (g : Nat) (s0_0 : List (S49)) (s0_1 : Int) (s0_2 : Int) (s0_3 : Int) (s0_4 : Bool) (s0_5 : Bool) (r1 : Int) (r2 : Int) (r3 : Int) (r4 : Bool) (r5 : Bool) (w0 w : World) (hI : IsS45 w0 w g s0_0 s0_1 s0_2 s0_3 s0_4 s0_5) (hB : Below w0.heap.size w0 w) (h : spec_parser_leave.f s0_0 s0_1 s0_2 s0_3 s0_4 s0_5 = some (r1, r2, r3, r4, r5)) :
  Calls Tryz.prog 33 #[.pointer (some ⟨g, 0, none⟩)] w fun e w' => e = .returned (.tuple #[]) ∧ IsS45 w0 w' g s0_0 r1 r2 r3 r4 r5 ∧ Below w0.heap.size w0 w' ∧ KeepBut w w' g none := by
 have HI0 := aK hI
 have HK := aK (KeepBut.refl w g none)
 have HL := aK hB.size
 clear hI
 have HW0 := aK hB.size
 have HB := aK hB
 clear hB
 have H : (some (s0_1, wrap64 (s0_2 - 1), s0_3, s0_4, s0_5)) = some (r1, r2, r3, r4, r5) := h
 clear h
 simp only [Option.some.injEq, Prod.mk.injEq] at H
 obtain ⟨rfl, rfl, rfl, rfl, rfl⟩ := H
 obtain ⟨ASz2_0, cSz2_0, HGz2, hgz2, HSz2_0⟩ := HI0.out
 have hcz2_0 := cellS45_0 HGz2
 have hcz2_1 := cellS45_1 HGz2
 have hcz2_2 := cellS45_2 HGz2
 have hcz2_3 := cellS45_3 HGz2
 have hcz2_4 := cellS45_4 HGz2
 have hcz2_5 := cellS45_5 HGz2
 have hfz2_1 := blk_frozen HGz2 1
 have hfz2_2 := blk_frozen HGz2 2
 have hfz2_3 := blk_frozen HGz2 3
 have hfz2_4 := blk_frozen HGz2 4
 have hfz2_5 := blk_frozen HGz2 5
 clear HGz2 hgz2
 go_enter Tryz.func33, Tryz.ntmps33
 go_wp2
 first | go_end0 | ((try simp only [Exit.inBlock, Exit.then]); refine bodyPost_ret (results_none rfl _ _ _) rfl ?_)
 exact ⟨vE, vI, vJ, vK⟩
mutual
def spec_parser_typed.j0 : Nat → Bool → List (S49) → Int → Int → Int → Bool → Bool → Option ((List (S51)) × Int × Int × Int × Bool × Bool)
 | 0, _, _, _, _, _, _, _ => none
 | k + 1, x14, x1000, x1001, x1002, x1003, x1004, x1005 => if x14 = true then (spec_parser_typed.j1 k x1000 x1001 x1002 x1003 x1004 true) else (spec_parser_typed.j1 k x1000 x1001 x1002 x1003 x1004 x1005)
def spec_parser_typed.j1 : Nat → List (S49) → Int → Int → Int → Bool → Bool → Option ((List (S51)) × Int × Int × Int × Bool × Bool)
 | 0, _, _, _, _, _, _ => none
 | k + 1, x1000, x1001, x1002, x1003, x1004, x1005 => (spec_parser_taken.f x1000 x1001 x1002 x1003 x1004 x1005 10).bind fun bt320 => (if bt320.1 = true then ((spec_parser_typed.f k x1000 bt320.2.1 bt320.2.2.1 bt320.2.2.2.1 bt320.2.2.2.2.1 bt320.2.2.2.2.2).bind fun bt326 => ((spec_Made.f k 21 (⟨#[]⟩ : ByteArray) (⟨#[]⟩ : ByteArray) (⟨#[]⟩ : ByteArray) 0 0 (([bt326.1] : List (List (S51))))).bind fun t337 => (if bt326.2.2.2.2.2 = true then ((spec_parser_must.f x1000 bt326.2.1 bt326.2.2.1 bt326.2.2.2.1 bt326.2.2.2.2.1 true 11).bind fun bt340 => (spec_parser_typed.j2 k t337 x1000 bt340.1 bt340.2.1 bt340.2.2.1 bt340.2.2.2.1 bt340.2.2.2.2)) else ((spec_parser_kind.f x1000 bt326.2.1 bt326.2.2.1 bt326.2.2.2.1 bt326.2.2.2.2.1 bt326.2.2.2.2.2 0).bind fun bt345 => ((spec_parser_must.f x1000 bt345.2.1 bt345.2.2.1 bt345.2.2.2.1 bt345.2.2.2.2.1 (bt345.1 != 11) 11).bind fun bt351 => (spec_parser_typed.j2 k t337 x1000 bt351.1 bt351.2.1 bt351.2.2.1 bt351.2.2.2.1 bt351.2.2.2.2)))))) else ((spec_parser_name.f x1000 bt320.2.1 bt320.2.2.1 bt320.2.2.2.1 bt320.2.2.2.2.1 bt320.2.2.2.2.2).bind fun bt356 => ((spec_Made.f k 20 bt356.1 (⟨#[]⟩ : ByteArray) (⟨#[]⟩ : ByteArray) 0 0 ([] : List (List (S51)))).bind fun t362 => (spec_parser_typed.j2 k t362 x1000 bt356.2.1 bt356.2.2.1 bt356.2.2.2.1 bt356.2.2.2.2.1 bt356.2.2.2.2.2))))
def spec_parser_typed.j2 : Nat → List (S51) → List (S49) → Int → Int → Int → Bool → Bool → Option ((List (S51)) × Int × Int × Int × Bool × Bool)
 | 0, _, _, _, _, _, _, _ => none
 | k + 1, x3, x1000, x1001, x1002, x1003, x1004, x1005 => (spec_parser_taken.f x1000 x1001 x1002 x1003 x1004 x1005 2).bind fun bt365 => (if bt365.1 = true then ((spec_Made.f k 22 (⟨#[]⟩ : ByteArray) (⟨#[]⟩ : ByteArray) (⟨#[]⟩ : ByteArray) 0 0 (([x3] : List (List (S51))))).bind fun t374 => ((spec_parser_leave.f x1000 bt365.2.1 bt365.2.2.1 bt365.2.2.2.1 bt365.2.2.2.2.1 bt365.2.2.2.2.2).bind fun bt377 => (some (t374, bt377.1, bt377.2.1, bt377.2.2.1, bt377.2.2.2.1, bt377.2.2.2.2)))) else ((spec_parser_leave.f x1000 bt365.2.1 bt365.2.2.1 bt365.2.2.2.1 bt365.2.2.2.2.1 bt365.2.2.2.2.2).bind fun bt382 => (some (x3, bt382.1, bt382.2.1, bt382.2.2.1, bt382.2.2.2.1, bt382.2.2.2.2))))
def spec_parser_typed.f : Nat → List (S49) → Int → Int → Int → Bool → Bool → Option ((List (S51)) × Int × Int × Int × Bool × Bool)
 | 0, _, _, _, _, _, _ => none
 | k + 1, s0_0, s0_1, s0_2, s0_3, s0_4, s0_5 => (spec_parser_enter.f s0_0 s0_1 s0_2 s0_3 s0_4 s0_5).bind fun bt302 => (if bt302.1 = true then ((spec_parser_kind.f s0_0 bt302.2.1 bt302.2.2.1 bt302.2.2.2.1 bt302.2.2.2.2.1 bt302.2.2.2.2.2 0).bind fun bt308 => (if bt308.1 = 10 then (spec_parser_typed.j0 k false s0_0 bt308.2.1 bt308.2.2.1 bt308.2.2.2.1 bt308.2.2.2.2.1 bt308.2.2.2.2.2) else ((spec_parser_kind.f s0_0 bt308.2.1 bt308.2.2.1 bt308.2.2.2.1 bt308.2.2.2.2.1 bt308.2.2.2.2.2 0).bind fun bt314 => (spec_parser_typed.j0 k (bt314.1 != 15) s0_0 bt314.2.1 bt314.2.2.1 bt314.2.2.2.1 bt314.2.2.2.2.1 bt314.2.2.2.2.2)))) else (some (([] : List (S51)), bt302.2.1, bt302.2.2.1, bt302.2.2.2.1, bt302.2.2.2.2.1, bt302.2.2.2.2.2)))
end
def spec_parser_some.f (s0_0 : List (S49)) (s0_1 : Int) (s0_2 : Int) (s0_3 : Int) (s0_4 : Bool) (s0_5 : Bool) (a1 : Int) : Option (Int × Int × Int × Bool × Bool) := if s0_4 = true then (some (s0_1, s0_2, s0_3, s0_4, s0_5)) else ((spec_parser_kind.f s0_0 s0_1 s0_2 s0_3 s0_4 s0_5 0).bind fun bt455 => (if bt455.1 = a1 then ((spec_parser_fail.f s0_0 (wrap64 (bt455.2.1 - 1)) bt455.2.2.1 bt455.2.2.2.1 bt455.2.2.2.2.1 bt455.2.2.2.2.2).bind fun bt461 => (some (bt461.2.1, bt461.2.2.1, bt461.2.2.2.1, bt461.2.2.2.2.1, bt461.2.2.2.2.2))) else (some (bt455.2.1, bt455.2.2.1, bt455.2.2.2.1, bt455.2.2.2.2.1, bt455.2.2.2.2.2))))
theorem spec_parser_some.calls (g : Nat) (s0_0 : List (S49)) (s0_1 : Int) (s0_2 : Int) (s0_3 : Int) (s0_4 : Bool) (s0_5 : Bool) (a1 : Int) (r1 : Int) (r2 : Int) (r3 : Int) (r4 : Bool) (r5 : Bool) (w0 w : World) (hI : IsS45 w0 w g s0_0 s0_1 s0_2 s0_3 s0_4 s0_5) (hB : Below w0.heap.size w0 w) (h : spec_parser_some.f s0_0 s0_1 s0_2 s0_3 s0_4 s0_5 a1 = some (r1, r2, r3, r4, r5)) :
  Calls Tryz.prog 35 #[.pointer (some ⟨g, 0, none⟩), .int .i64 a1] w fun e w' => e = .returned (.tuple #[]) ∧ IsS45 w0 w' g s0_0 r1 r2 r3 r4 r5 ∧ Below w0.heap.size w0 w' ∧ KeepBut w w' g none := by
 have HI0 := aK hI
 have HK := aK (KeepBut.refl w g none)
 have HL := aK hB.size
 clear hI
 have HW0 := aK hB.size
 have HB := aK hB
 clear hB
 have H : (if s0_4 = true then (some (s0_1, s0_2, s0_3, s0_4, s0_5)) else ((spec_parser_kind.f s0_0 s0_1 s0_2 s0_3 s0_4 s0_5 0).bind fun bt455 => (if bt455.1 = a1 then ((spec_parser_fail.f s0_0 (wrap64 (bt455.2.1 - 1)) bt455.2.2.1 bt455.2.2.2.1 bt455.2.2.2.2.1 bt455.2.2.2.2.2).bind fun bt461 => (some (bt461.2.1, bt461.2.2.1, bt461.2.2.2.1, bt461.2.2.2.2.1, bt461.2.2.2.2.2))) else (some (bt455.2.1, bt455.2.2.1, bt455.2.2.2.1, bt455.2.2.2.2.1, bt455.2.2.2.2.2))))) = some (r1, r2, r3, r4, r5) := h
 clear h
 by_cases c3 : s0_4 = true
 ·subst c3
  have H1 : (some (s0_1, s0_2, s0_3, true, s0_5)) = some (r1, r2, r3, r4, r5) := by rw [if_pos rfl] at H; exact H
  clear H
  have H := H1
  clear H1
  simp only [Option.some.injEq, Prod.mk.injEq] at H
  obtain ⟨rfl, rfl, rfl, rfl, rfl⟩ := H
  obtain ⟨ASz4_0, cSz4_0, HGz4, hgz4, HSz4_0⟩ := HI0.out
  have hcz4_0 := cellS45_0 HGz4
  have hcz4_1 := cellS45_1 HGz4
  have hcz4_2 := cellS45_2 HGz4
  have hcz4_3 := cellS45_3 HGz4
  have hcz4_4 := cellS45_4 HGz4
  have hcz4_5 := cellS45_5 HGz4
  have hfz4_1 := blk_frozen HGz4 1
  have hfz4_2 := blk_frozen HGz4 2
  have hfz4_3 := blk_frozen HGz4 3
  have hfz4_4 := blk_frozen HGz4 4
  have hfz4_5 := blk_frozen HGz4 5
  clear HGz4 hgz4
  go_enter Tryz.func35, Tryz.ntmps35
  go_wp2
  first | go_end0 | ((try simp only [Exit.inBlock, Exit.then]); refine bodyPost_ret (results_none rfl _ _ _) rfl ?_)
  exact ⟨vE, vI, vJ, vK⟩
 ·replace c3 := Bool.eq_false_iff.mpr c3
  subst c3
  have H1 : ((spec_parser_kind.f s0_0 s0_1 s0_2 s0_3 false s0_5 0).bind fun bt455 => (if bt455.1 = a1 then ((spec_parser_fail.f s0_0 (wrap64 (bt455.2.1 - 1)) bt455.2.2.1 bt455.2.2.2.1 bt455.2.2.2.2.1 bt455.2.2.2.2.2).bind fun bt461 => (some (bt461.2.1, bt461.2.2.1, bt461.2.2.2.1, bt461.2.2.2.2.1, bt461.2.2.2.2.2))) else (some (bt455.2.1, bt455.2.2.1, bt455.2.2.2.1, bt455.2.2.2.2.1, bt455.2.2.2.2.2)))) = some (r1, r2, r3, r4, r5) := by rw [if_neg (show ¬ (false = true) by decide)] at H; exact H
  clear H
  have H := H1
  clear H1
  replace H := Option.bind_eq_some_iff.mp H
  obtain ⟨⟨t455, t456, t457, t458, t459, t460⟩, A50, H⟩ := H
  replace H : (if t455 = a1 then ((spec_parser_fail.f s0_0 (wrap64 (t456 - 1)) t457 t458 t459 t460).bind fun bt461 => (some (bt461.2.1, bt461.2.2.1, bt461.2.2.2.1, bt461.2.2.2.2.1, bt461.2.2.2.2.2))) else (some (t456, t457, t458, t459, t460))) = some (r1, r2, r3, r4, r5) := H
  have A5 := aK A50
  clear A50
  by_cases c6 : t455 = a1
  ·rw [if_pos c6] at H
   have c6b0 : (t455 == a1) = true := beq_iff_eq.mpr c6
   have c6b1 : (t455 != a1) = false := bne_eq_false_iff_eq.mpr c6
   clear c6
   replace H := Option.bind_eq_some_iff.mp H
   obtain ⟨⟨t461, t464, t465, t466, t467, t468⟩, A70, H⟩ := H
   replace H : (some (t464, t465, t466, t467, t468)) = some (r1, r2, r3, r4, r5) := H
   have A7 := aK A70
   clear A70
   simp only [Option.some.injEq, Prod.mk.injEq] at H
   obtain ⟨rfl, rfl, rfl, rfl, rfl⟩ := H
   obtain ⟨ASz8_0, cSz8_0, HGz8, hgz8, HSz8_0⟩ := HI0.out
   have hcz8_0 := cellS45_0 HGz8
   have hcz8_1 := cellS45_1 HGz8
   have hcz8_2 := cellS45_2 HGz8
   have hcz8_3 := cellS45_3 HGz8
   have hcz8_4 := cellS45_4 HGz8
   have hcz8_5 := cellS45_5 HGz8
   have hfz8_1 := blk_frozen HGz8 1
   have hfz8_2 := blk_frozen HGz8 2
   have hfz8_3 := blk_frozen HGz8 3
   have hfz8_4 := blk_frozen HGz8 4
   have hfz8_5 := blk_frozen HGz8 5
   clear HGz8 hgz8
   go_enter Tryz.func35, Tryz.ntmps35
   go_wp2_with (first | (go_at_call 28; (with_reducible refine (spec_parser_kind.calls g s0_0 s0_1 s0_2 s0_3 false s0_5 0 t455 t456 t457 t458 t459 t460 w0 _ ?side1 ?side2 A5.out).mono ?_); (case side1 => exact vI); (case side2 => exact vJ); rintro e w9 ⟨rfl, hi, hb, hk⟩; have n0_ := aK (KeepBut.trans vK hk (.inl rfl)); have n1_ := aK (hb); have n2_ := aK (hi); clear HK; clear HB; clear HI0; have HK := n0_; have HB := n1_; have HI0 := n2_; clear n0_ n1_ n2_; (try clear hb); (try clear hb2); (try clear hk); (try clear hi); obtain ⟨ASz10_0, cSz10_0, HGz10, hgz10, HSz10_0⟩ := HI0.out; have hcz10_0 := cellS45_0 HGz10; have hcz10_1 := cellS45_1 HGz10; have hcz10_2 := cellS45_2 HGz10; have hcz10_3 := cellS45_3 HGz10; have hcz10_4 := cellS45_4 HGz10; have hcz10_5 := cellS45_5 HGz10; have hfz10_1 := blk_frozen HGz10 1; have hfz10_2 := blk_frozen HGz10 2; have hfz10_3 := blk_frozen HGz10 3; have hfz10_4 := blk_frozen HGz10 4; have hfz10_5 := blk_frozen HGz10 5; clear HGz10 hgz10) | ((with_reducible refine gate_callee (f := 55) rfl ?_); refine goesL_ (some 23) rfl rfl Tryz.func55 (by kernel_rfl) rfl #[.pointer (some ⟨g, 0, none⟩)] rfl (by (try simp only [List.map_toArray, List.map_cons, List.map_nil]); first | done | rfl | (simp only [List.length_drop, List.length_take]; rfl)) ?_; (with_reducible refine (spec_parser_fail.calls g s0_0 (wrap64 (t456 - 1)) t457 t458 t459 t460 t461 t464 t465 t466 t467 t468 w0 _ ?side1 ?side2 A7.out).mono ?_); (case side1 => exact vI); (case side2 => exact vJ); rintro e w11 ⟨v462, rfl, ho0, hi, hb, hk⟩; refine ⟨_, rfl, ?_⟩; have n0_ := aK (Kd.R_lower ho0 (keep_size (w := w) (g := g) (row := none) vK)); have n1_ := aK (KeepBut.trans vK hk (.inl rfl)); have n2_ := aK (hb); have n3_ := aK (hi); clear HK; clear HB; clear HI0; have HO463 := n0_; have HK := n1_; have HB := n2_; have HI0 := n3_; clear n0_ n1_ n2_ n3_; (try clear hb); (try clear hb2); (try clear hk); (try clear hi); (try clear ho0)))
   first | go_end0 | ((try simp only [Exit.inBlock, Exit.then]); refine bodyPost_ret (results_none rfl _ _ _) rfl ?_)
   exact ⟨vE, vI, vJ, vK⟩
  ·rw [if_neg c6] at H
   have c6b0 : (t455 == a1) = false := beq_eq_false_iff_ne.mpr c6
   have c6b1 : (t455 != a1) = true := bne_iff_ne.mpr c6
   simp only [Option.some.injEq, Prod.mk.injEq] at H
   obtain ⟨rfl, rfl, rfl, rfl, rfl⟩ := H
   obtain ⟨ASz12_0, cSz12_0, HGz12, hgz12, HSz12_0⟩ := HI0.out
   have hcz12_0 := cellS45_0 HGz12
   have hcz12_1 := cellS45_1 HGz12
   have hcz12_2 := cellS45_2 HGz12
   have hcz12_3 := cellS45_3 HGz12
   have hcz12_4 := cellS45_4 HGz12
   have hcz12_5 := cellS45_5 HGz12
   have hfz12_1 := blk_frozen HGz12 1
   have hfz12_2 := blk_frozen HGz12 2
   have hfz12_3 := blk_frozen HGz12 3
   have hfz12_4 := blk_frozen HGz12 4
   have hfz12_5 := blk_frozen HGz12 5
   clear HGz12 hgz12
   go_enter Tryz.func35, Tryz.ntmps35
   go_wp2_with (first | (go_at_call 28; (with_reducible refine (spec_parser_kind.calls g s0_0 s0_1 s0_2 s0_3 false s0_5 0 t455 t456 t457 t458 t459 t460 w0 _ ?side1 ?side2 A5.out).mono ?_); (case side1 => exact vI); (case side2 => exact vJ); rintro e w13 ⟨rfl, hi, hb, hk⟩; have n0_ := aK (KeepBut.trans vK hk (.inl rfl)); have n1_ := aK (hb); have n2_ := aK (hi); clear HK; clear HB; clear HI0; have HK := n0_; have HB := n1_; have HI0 := n2_; clear n0_ n1_ n2_; (try clear hb); (try clear hb2); (try clear hk); (try clear hi)))
   first | go_end0 | ((try simp only [Exit.inBlock, Exit.then]); refine bodyPost_ret (results_none rfl _ _ _) rfl ?_)
   exact ⟨vE, vI, vJ, vK⟩
end Go.Proofs.YtjoagdldbmlenaaGreatDoor.PFnReadDirectives
