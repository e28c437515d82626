import Derived.Test.YtjoagdldbmlenaaGreatDoorVF1
import Derived.Deep.RegionLaw
import Derived.OneCell
import Derived.Deep.RegionHeld3
set_option maxRecDepth 100000
set_option maxHeartbeats 8000000
set_option linter.unusedVariables false
set_option linter.unusedSimpArgs false
namespace Go.Proofs.YtjoagdldbmlenaaGreatDoor.Take
open Go.RowKit Go.Proofs.YtjoagdldbmlenaaGreatDoorW.PrintWords Keep Env Ast Tree
theorem put_fn (f : Nat) (hf : f = 63 ∨ f = 64 ∨ f = 65 ∨ f = 42 ∨ f = 23) (w0 w : World) (tb lb : Nat) (xs : NL) (k fl a b : Int) (nm al tx : ByteArray) (bt bx : Nat) (kids : List NL) (hin : ∀ w1, Tk w0 tb (xs ++ [(⟨k, nm, al, tx, fl, 0⟩ : Nd)]) w1 → FrT tb w w1 → Calls Tryz.prog f #[.pointer (some ⟨bt, 0, none⟩), .pointer (some ⟨bx, 0, none⟩)] w1 fun e w2 => e = .returned (.tuple #[]) ∧ Tk w0 tb (xs ++ (⟨k, nm, al, tx, fl, 0⟩ : Nd) :: kids.flatten) w2 ∧ FrT tb w1 w2) (hT : Tk w0 tb xs w) (l0 : w0.cell? ⟨lb, 0, none⟩ = some (.int .i64 a)) (l1 : w0.cell? ⟨lb, 1, none⟩ = some (.int .i64 b)) (hN : (xs ++ nd k nm al tx fl kids).length ≤ 200000) :
  Calls Tryz.prog 21 #[.pointer (some ⟨tb, 0, none⟩), .pointer (some ⟨lb, 0, none⟩), .agg #[.int .i64 k, .string nm, .string al, .string tx, .int .i64 fl, .int .i64 0], .func (.func f) #[] #[.pointer (some ⟨bt, 0, none⟩), .pointer (some ⟨bx, 0, none⟩)]] w fun e w' => e = .returned (.tuple #[]) ∧ Tk w0 tb (xs ++ nd k nm al tx fl kids) w' ∧ FrT tb w w' := by
 rcases hf with rfl | rfl | rfl | rfl | rfl
 all_goals
  obtain ⟨i0, hi, hz0, hz1, hz2⟩ := info_parts infoNd
  obtain ⟨j0, hj, hy0, hy1, hy2⟩ := info_parts infoSp
  obtain ⟨d, sp, hC⟩ := hT
  obtain ⟨A1, c1, rfl, _⟩ := own_shape hC.rowD
  obtain ⟨vs, hsp⟩ := hC.rowS
  obtain ⟨A2, c2, rfl, _⟩ := own_shape hsp
  have q0 := (hC.blk.cell 0).trans (show _ = some (Value.slice A1 xs.length c1) from rfl)
  have q1 := (hC.blk.cell 1).trans (show _ = some (Value.slice A2 xs.length c2) from rfl)
  have z0 := hC.blk.frozen 0
  have z1 := hC.blk.frozen 1
  have hlt := hC.blk.lt
  have hlb : lb < w0.heap.size := World.block_lt_of_cell? w0 _ l0
  have hbase := hC.base
  have hsz := hC.below.size
  have hxl : xs.length < 200000 := by rw [List.length_append, nd_len] at hN; omega
  have HC1 := aK (hC.of_below (below_alloc (Below.refl w.heap.size w) (.cells #[.int .i64 k, .string nm, .string al, .string tx, .int .i64 fl, .int .i64 0] TN)))
  have HL := aK (fun W (hb : Below w0.heap.size w0 W) => (⟨pw_cell_below hb l0, pw_cell_below hb l1⟩ : W.cell? ⟨lb, 0, none⟩ = some (.int .i64 a) ∧ W.cell? ⟨lb, 1, none⟩ = some (.int .i64 b)))
  have HN := aK hN
  have hfn := fun (g : Fn) => ne_fn g #[] #[.pointer (some ⟨bt, 0, none⟩), .pointer (some ⟨bx, 0, none⟩)]
  clear hC hsp l0 l1 hN
  go_enter Tryz.func21, Tryz.ntmps21
  have hnew := heap_alloc_new (w.alloc (.cells #[.int .i64 k, .string nm, .string al, .string tx, .int .i64 fl, .int .i64 0] TN)) (.cells #[.int .i64 k, .string nm, .string al, .string tx, .int .i64 fl, .int .i64 0] TN)
  rw [World.size_alloc] at hnew
  have HNEW := aK hnew
  clear hnew
  go_wp2_with fail
  go_cut [] (fun wx => ∃ gg cap, Aside0 (TkC w0 tb (xs ++ [(⟨k, nm, al, tx, fl, 0⟩ : Nd)]) xs.length (.slice (some ⟨gg, 0, none⟩) (xs.length + 1) cap) (.slice A2 xs.length c2) wx ∧ FrT tb w wx))
  case first =>
   go_region_law ((refine step_append_lies _ (by rfl) _ _ _ (by rfl) w0.heap.size TN i0 _ 6 72 Tryz.underlying25 hi hz0 hz1 hz2 rfl (by omega) (.slice A1 xs.length c1) xs.length (cellsOf xs) (by rfl) ((HC1.out.rowD.alloc _).drew) ⟨w.heap.size + 1, 0, none⟩ 1 1 (cell6 ⟨k, nm, al, tx, fl, 0⟩) (by rfl) (by rfl) (World.news_of_block (cs := #[.int .i64 k, .string nm, .string al, .string tx, .int .i64 fl, .int .i64 0]) (t := TN) (fr := (0, 0)) HNEW.out) (by simp [Value.oneCell', cell6]) (by omega) (by simp [maxLen]; omega) (by omega) (by simp; omega) (w.heap.size + 2) (by simp) ?_; intro gg cap w4 hown1 hgrow hat hlt4; obtain ⟨hB4, hb4, hC4, hF4⟩ := tk_node HC1.out hown1 ⟨hgrow.os, hgrow.tape, hgrow.output, hgrow.size, hgrow.block⟩; have y0 := hB4.frozen 0; have e0 := (hB4.cell 0).trans (show _ = some (Value.slice A1 xs.length c1) from rfl); have hlt4b := hB4.lt))
   all_goals
    have HE := aK (⟨hC4, ((FrT.refl tb w).alloc _).trans hF4⟩ : TkC w0 tb (xs ++ [(⟨k, nm, al, tx, fl, 0⟩ : Nd)]) xs.length (.slice (some ⟨gg, 0, none⟩) (xs.length + 1) cap) (.slice A2 xs.length c2) _ ∧ FrT tb w _)
    clear hC4 hF4 hB4 hb4
    go_wp2_with fail
    go_meet
    case rel => exact ⟨gg, cap, HE⟩
  case rest =>
   obtain ⟨gg, cap, HE⟩ := hcut
   obtain ⟨vs4, hs4⟩ := HE.out.1.rowS
   have HS4 := aK hs4
   have r0 := (HE.out.1.blk.cell 0).trans (show _ = some (Value.slice (some ⟨gg, 0, none⟩) (xs.length + 1) cap) from rfl)
   have r1 := (HE.out.1.blk.cell 1).trans (show _ = some (Value.slice A2 xs.length c2) from rfl)
   have y1 := HE.out.1.blk.frozen 1
   have hltc := HE.out.1.blk.lt
   have hszc := HE.out.1.below.size
   obtain ⟨p0, p1⟩ := HL.out wc HE.out.1.below
   have hnew := aK (heap_alloc_new wc (.cells #[.int .i64 a, .int .i64 b] TS))
   clear q0 q1 z0 z1 hs4 HNEW
   go_wp2_with fail
   go_cut [] (fun wx => ∃ gs cs, Aside0 (TkC w0 tb (xs ++ [(⟨k, nm, al, tx, fl, 0⟩ : Nd)]) (xs.length + 1) (.slice (some ⟨gg, 0, none⟩) (xs.length + 1) cap) (.slice (some ⟨gs, 0, none⟩) (xs.length + 1) cs) wx ∧ FrT tb w wx))
   case first =>
    go_region_law ((refine step_append_lies _ (by rfl) _ _ _ (by rfl) w0.heap.size TS j0 _ 2 16 Tryz.underlying36 hj hy0 hy1 hy2 rfl (by omega) (.slice A2 xs.length c2) xs.length vs4 (by rfl) ((HS4.out.alloc _).drew) ⟨wc.heap.size, 0, none⟩ 1 1 [.int .i64 a, .int .i64 b] (by rfl) (by rfl) (World.news_of_block (cs := #[.int .i64 a, .int .i64 b]) (t := TS) (fr := (0, 0)) hnew.out) (by simp [Value.oneCell']) (by omega) (by simp [maxLen]; omega) (by omega) (by simp; omega) (wc.heap.size + 1) (by simp) ?_; intro gs cs w4 hown1 hgrow hat hlt4; obtain ⟨hB4, hC4, hF4⟩ := tk_place HE.out.1 hown1 ⟨hgrow.os, hgrow.tape, hgrow.output, hgrow.size, hgrow.block⟩; have y2 := hB4.frozen 1; have e2 := (hB4.cell 1).trans (show _ = some (Value.slice A2 xs.length c2) from rfl); have hlt4b := hB4.lt))
    all_goals
     have HE2 := aK (⟨hC4, HE.out.2.trans hF4⟩ : TkC w0 tb (xs ++ [(⟨k, nm, al, tx, fl, 0⟩ : Nd)]) (xs.length + 1) (.slice (some ⟨gg, 0, none⟩) (xs.length + 1) cap) (.slice (some ⟨gs, 0, none⟩) (xs.length + 1) cs) _ ∧ FrT tb w _)
     clear hC4 hF4 hB4
     go_wp2_with fail
     go_meet
     case rel => exact ⟨gs, cs, HE2⟩
   case rest =>
    obtain ⟨gs, cs, HE2⟩ := hcut
    clear r0 r1 y1 hltc hszc p0 p1 hnew HS4 HE
    go_wp2_with fail
    refine (hin wc (⟨_, _, by rw [List.length_append]; exact HE2.out.1⟩) HE2.out.2).mono ?_
    rintro e w5 ⟨rfl, ⟨d5, s5, hC5⟩, hF5⟩
    have HE5 := aK (⟨hC5, HE2.out.2.trans hF5⟩ : TkC _ _ _ _ _ _ w5 ∧ FrT tb w w5)
    clear hC5 hF5
    obtain ⟨g5, c5, rfl⟩ := own_some HE5.out.1.rowD (by rw [List.length_append, List.length_cons]; omega)
    have HE6 := aK (tk_size (n := (kids.flatten).length + 1) HE5.out.1)
    have hLl : (xs ++ (⟨k, nm, al, tx, fl, 0⟩ : Nd) :: kids.flatten).length = xs.length + ((kids.flatten).length + 1) := by rw [List.length_append, List.length_cons]
    have r0 := (HE5.out.1.blk.cell 0).trans (show _ = some (Value.slice (some ⟨g5, 0, none⟩) (xs ++ (⟨k, nm, al, tx, fl, 0⟩ : Nd) :: kids.flatten).length c5) from rfl)
    have r5 : ∃ u, w5.cell? ⟨g5, xs.length * 6 + 5, none⟩ = some u := by
     rw [World.ownsRow.cellAt HE5.out.1.rowD _ (by rw [hLl]; omega)]
     exact ⟨_, List.getElem?_eq_getElem (by rw [cells_len, hLl]; omega)⟩
    obtain ⟨u5, r5⟩ := r5
    have z5 := World.ownsRow.frozenAt HE5.out.1.rowD (xs.length * 6 + 5)
    have hlt5 := HE5.out.1.blk.lt
    rw [hLl] at r0
    have hsub : ((xs.length + ((kids.flatten).length + 1) : Nat) : Int) - (xs.length : Int) = (((kids.flatten).length + 1 : Nat) : Int) := by omega
    have HFIN : Aside0 (TkM w0 tb (xs ++ nd k nm al tx fl kids) (xs ++ nd k nm al tx fl kids).length (w5.setCell ⟨g5, xs.length * 6 + 5, none⟩ (.int .i64 (((kids.flatten).length + 1 : Nat) : Int))) ∧ FrT tb w (w5.setCell ⟨g5, xs.length * 6 + 5, none⟩ (.int .i64 (((kids.flatten).length + 1 : Nat) : Int)))) :=
     ⟨by have h := HE6.out.1; rw [hLl] at h; rw [List.length_append, nd_len]; exact h, HE5.out.2.trans HE6.out.2⟩
    have hkn : (kids.flatten).length + 1 ≤ 200000 := by
     have h := HN.out
     rw [List.length_append, nd_len] at h
     first | omega | simp
    have htg : ¬ tb = g5 := by
     obtain ⟨_, cs5, h5⟩ := own_type HE5.out.1.rowD rfl
     exact ne_types (show w5.heap[tb]? = some (Obj.cells _ TT (0, 0)) from HE5.out.1.blk) h5 (by decide)
    have hgt : ¬ g5 = tb := fun e => htg e.symm
    have hkp : 0 < (kids.flatten).length + 1 := Nat.succ_pos _
    generalize hkf : (kids.flatten).length + 1 = kn at *
    have hb1 : (0 : Int) ≤ (xs.length : Int) := by omega
    have hb2 : (xs.length : Int) < (xs.length : Int) + (kn : Int) := by omega
    have hb3 : (xs.length : Int) < ((xs.length + kn : Nat) : Int) := by omega
    have hsub2 : (xs.length : Int) + (kn : Int) - (xs.length : Int) = (kn : Int) := by omega
    clear HE2 HE5 HE6 hLl hkf
    go_wp2_with fail
    go_region_held3 (fun w' => w'.cell? ⟨tb, 0, none⟩ = some (.slice (some ⟨g5, 0, none⟩) (xs.length + kn) c5)) (go_keep) (fail)
    all_goals
     go_wp2_with fail
     go_end0
     have hwr : IntKind.i64.wrap (kn : Int) = (kn : Int) := by rw [IntKind.wrap_i64]; omega
     rw [hwr]
     exact ⟨rfl, HFIN.out.1.of_below (below_drew (Below.refl _ _)), HFIN.out.2.drew⟩
end Go.Proofs.YtjoagdldbmlenaaGreatDoor.Take
