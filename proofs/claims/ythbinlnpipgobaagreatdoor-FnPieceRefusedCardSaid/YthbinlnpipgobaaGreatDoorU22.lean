import Derived.Test.YthbinlnpipgobaaGreatDoorU21
namespace Go.Proofs.YthbinlnpipgobaaGreatDoor.Take
set_option linter.unusedVariables false
set_option linter.unusedSimpArgs false
open Go.RowKit Go.Proofs.YthbinlnpipgobaaGreatDoorW.PrintWords Go.Proofs.YthbinlnpipgobaaGreatDoor.Keep Go.Proofs.YthbinlnpipgobaaGreatDoor.Env Go.Proofs.YthbinlnpipgobaaGreatDoor.Ast Go.Proofs.YthbinlnpipgobaaGreatDoor.Tree

set_option maxRecDepth 100000 in
set_option maxHeartbeats 4000000 in
theorem tkv_0 {L : Nat} (w0 w : World) (tb g : Nat) (xs : NL) (lv : Value) (nv : Value) (s : ByteArray) (h2 : Cl2 L w0 g 2 nv) (hn : GName L s w0 nv) (hT : Tk w0 tb xs w) (h1 : Cl2 L w0 g 1 lv) (hl : GLoc L w0 lv) (hN : (xs ++ nd 11 s emp emp 0 []).length ≤ 200000) :
    Calls Tryz.prog 49 #[.pointer (some ⟨tb, 0, none⟩), .iface 123 (ptr g)] w (TkPost w0 tb (xs ++ nd 11 s emp emp 0 []) w) := by
  obtain ⟨lb, la, lc, rfl, l0, l1⟩ := hl
  have hb := hT.below
  have c1 := pw_cell_below hb (cl2_cell h1)
  have c2 := pw_cell_below hb (cl2_cell h2)
  have hgl : g < w.heap.size := World.block_lt_of_cell? w _ c1
  have HP := Aside0.mk (fun W (hW : Below w.heap.size w W) => put_nil w0 W tb lb xs 11 0 la lc s emp emp (hT.of_below hW) (cl2_cell l0) (cl2_cell l1) hN)
  have HX := Aside0.mk (fun W (hW : Below w.heap.size w W) => text_any hn (hb.trans (hW.mono hb.size)))
  obtain ⟨nb, rfl, _⟩ := hn
  have a0 := tv_0_0 (.pointer (some ⟨g, 0, none⟩))
  clear hT h1 h2 l0 l1 hN hb
  unfold ptr at *
  go_enter Tryz.func49, Tryz.ntmps49
  go_wp2_with fail
  have hbw := Aside0.mk (below_drew (below_alloc (Below.refl w.heap.size w) (.cells #[.pointer (some ⟨tb, 0, none⟩)] 38)))
  go_region_with (first | (go_at_call 24; refine (HX.out _ hbw.out).mono ?_; rintro e w2 ⟨rfl, rfl⟩) | (go_at_call 14; refine (HP.out _ hbw.out).mono ?_; rintro e w2 ⟨rfl, hT2, hF2⟩))
  all_goals
    have HR := Aside0.mk (⟨hT2, (FrT.of_below tb hbw.out).trans hF2⟩ : Tk w0 tb _ w2 ∧ FrT tb w w2)
    clear hT2 hF2
    go_wp2_with fail
    go_end0
    exact ⟨rfl, HR.out⟩
set_option maxRecDepth 100000 in
set_option maxHeartbeats 4000000 in
theorem tkv_1 {L : Nat} (w0 w : World) (tb g : Nat) (xs : NL) (lv : Value) (s : ByteArray) (h2 : Cl2 L w0 g 2 (.string s)) (hT : Tk w0 tb xs w) (h1 : Cl2 L w0 g 1 lv) (hl : GLoc L w0 lv) (hN : (xs ++ nd 12 emp emp s 0 []).length ≤ 200000) :
    Calls Tryz.prog 49 #[.pointer (some ⟨tb, 0, none⟩), .iface 211 (ptr g)] w (TkPost w0 tb (xs ++ nd 12 emp emp s 0 []) w) := by
  obtain ⟨lb, la, lc, rfl, l0, l1⟩ := hl
  have hb := hT.below
  have c1 := pw_cell_below hb (cl2_cell h1)
  have c2 := pw_cell_below hb (cl2_cell h2)
  have hgl : g < w.heap.size := World.block_lt_of_cell? w _ c1
  have HP := Aside0.mk (fun W (hW : Below w.heap.size w W) => put_nil w0 W tb lb xs 12 0 la lc emp emp s (hT.of_below hW) (cl2_cell l0) (cl2_cell l1) hN)
  have a0 := tv_1_0 (.pointer (some ⟨g, 0, none⟩))
  have a1 := tv_1_1 (.pointer (some ⟨g, 0, none⟩))
  clear hT h1 h2 l0 l1 hN hb
  unfold ptr at *
  go_enter Tryz.func49, Tryz.ntmps49
  go_wp2_with fail
  have hbw := Aside0.mk (below_drew (below_alloc (Below.refl w.heap.size w) (.cells #[.pointer (some ⟨tb, 0, none⟩)] 38)))
  go_region_with ((go_at_call 14; refine (HP.out _ hbw.out).mono ?_; rintro e w2 ⟨rfl, hT2, hF2⟩))
  all_goals
    have HR := Aside0.mk (⟨hT2, (FrT.of_below tb hbw.out).trans hF2⟩ : Tk w0 tb _ w2 ∧ FrT tb w w2)
    clear hT2 hF2
    go_wp2_with fail
    go_end0
    exact ⟨rfl, HR.out⟩
set_option maxRecDepth 100000 in
set_option maxHeartbeats 4000000 in
theorem tkv_2 {L : Nat} (w0 w : World) (tb g : Nat) (xs : NL) (lv : Value) (s : ByteArray) (h2 : Cl2 L w0 g 2 (.string s)) (hT : Tk w0 tb xs w) (h1 : Cl2 L w0 g 1 lv) (hl : GLoc L w0 lv) (hN : (xs ++ nd 13 emp emp s 0 []).length ≤ 200000) :
    Calls Tryz.prog 49 #[.pointer (some ⟨tb, 0, none⟩), .iface 213 (ptr g)] w (TkPost w0 tb (xs ++ nd 13 emp emp s 0 []) w) := by
  obtain ⟨lb, la, lc, rfl, l0, l1⟩ := hl
  have hb := hT.below
  have c1 := pw_cell_below hb (cl2_cell h1)
  have c2 := pw_cell_below hb (cl2_cell h2)
  have hgl : g < w.heap.size := World.block_lt_of_cell? w _ c1
  have HP := Aside0.mk (fun W (hW : Below w.heap.size w W) => put_nil w0 W tb lb xs 13 0 la lc emp emp s (hT.of_below hW) (cl2_cell l0) (cl2_cell l1) hN)
  have a0 := tv_2_0 (.pointer (some ⟨g, 0, none⟩))
  have a1 := tv_2_1 (.pointer (some ⟨g, 0, none⟩))
  have a2 := tv_2_2 (.pointer (some ⟨g, 0, none⟩))
  clear hT h1 h2 l0 l1 hN hb
  unfold ptr at *
  go_enter Tryz.func49, Tryz.ntmps49
  go_wp2_with fail
  have hbw := Aside0.mk (below_drew (below_alloc (Below.refl w.heap.size w) (.cells #[.pointer (some ⟨tb, 0, none⟩)] 38)))
  go_region_with ((go_at_call 14; refine (HP.out _ hbw.out).mono ?_; rintro e w2 ⟨rfl, hT2, hF2⟩))
  all_goals
    have HR := Aside0.mk (⟨hT2, (FrT.of_below tb hbw.out).trans hF2⟩ : Tk w0 tb _ w2 ∧ FrT tb w w2)
    clear hT2 hF2
    go_wp2_with fail
    go_end0
    exact ⟨rfl, HR.out⟩
set_option maxRecDepth 100000 in
set_option maxHeartbeats 4000000 in
theorem tkv_3 {L : Nat} (w0 w : World) (tb g : Nat) (xs : NL) (lv : Value) (s : ByteArray) (h2 : Cl2 L w0 g 2 (.string s)) (hT : Tk w0 tb xs w) (h1 : Cl2 L w0 g 1 lv) (hl : GLoc L w0 lv) (hN : (xs ++ nd 14 emp emp s 0 []).length ≤ 200000) :
    Calls Tryz.prog 49 #[.pointer (some ⟨tb, 0, none⟩), .iface 154 (ptr g)] w (TkPost w0 tb (xs ++ nd 14 emp emp s 0 []) w) := by
  obtain ⟨lb, la, lc, rfl, l0, l1⟩ := hl
  have hb := hT.below
  have c1 := pw_cell_below hb (cl2_cell h1)
  have c2 := pw_cell_below hb (cl2_cell h2)
  have hgl : g < w.heap.size := World.block_lt_of_cell? w _ c1
  have HP := Aside0.mk (fun W (hW : Below w.heap.size w W) => put_nil w0 W tb lb xs 14 0 la lc emp emp s (hT.of_below hW) (cl2_cell l0) (cl2_cell l1) hN)
  have a0 := tv_3_0 (.pointer (some ⟨g, 0, none⟩))
  have a1 := tv_3_1 (.pointer (some ⟨g, 0, none⟩))
  have a2 := tv_3_2 (.pointer (some ⟨g, 0, none⟩))
  have a3 := tv_3_3 (.pointer (some ⟨g, 0, none⟩))
  clear hT h1 h2 l0 l1 hN hb
  unfold ptr at *
  go_enter Tryz.func49, Tryz.ntmps49
  go_wp2_with fail
  have hbw := Aside0.mk (below_drew (below_alloc (Below.refl w.heap.size w) (.cells #[.pointer (some ⟨tb, 0, none⟩)] 38)))
  go_region_with ((go_at_call 14; refine (HP.out _ hbw.out).mono ?_; rintro e w2 ⟨rfl, hT2, hF2⟩))
  all_goals
    have HR := Aside0.mk (⟨hT2, (FrT.of_below tb hbw.out).trans hF2⟩ : Tk w0 tb _ w2 ∧ FrT tb w w2)
    clear hT2 hF2
    go_wp2_with fail
    go_end0
    exact ⟨rfl, HR.out⟩
set_option maxRecDepth 100000 in
set_option maxHeartbeats 4000000 in
theorem tkv_5 {L : Nat} (w0 w : World) (tb g : Nat) (xs : NL) (lv : Value) (s : ByteArray) (h2 : Cl2 L w0 g 2 (.string s)) (hT : Tk w0 tb xs w) (h1 : Cl2 L w0 g 1 lv) (hl : GLoc L w0 lv) (hN : (xs ++ nd 16 s emp emp 0 []).length ≤ 200000) :
    Calls Tryz.prog 49 #[.pointer (some ⟨tb, 0, none⟩), .iface 219 (ptr g)] w (TkPost w0 tb (xs ++ nd 16 s emp emp 0 []) w) := by
  obtain ⟨lb, la, lc, rfl, l0, l1⟩ := hl
  have hb := hT.below
  have c1 := pw_cell_below hb (cl2_cell h1)
  have c2 := pw_cell_below hb (cl2_cell h2)
  have hgl : g < w.heap.size := World.block_lt_of_cell? w _ c1
  have HP := Aside0.mk (fun W (hW : Below w.heap.size w W) => put_nil w0 W tb lb xs 16 0 la lc s emp emp (hT.of_below hW) (cl2_cell l0) (cl2_cell l1) hN)
  have a0 := tv_5_0 (.pointer (some ⟨g, 0, none⟩))
  have a1 := tv_5_1 (.pointer (some ⟨g, 0, none⟩))
  have a2 := tv_5_2 (.pointer (some ⟨g, 0, none⟩))
  have a3 := tv_5_3 (.pointer (some ⟨g, 0, none⟩))
  have a4 := tv_5_4 (.pointer (some ⟨g, 0, none⟩))
  have a5 := tv_5_5 (.pointer (some ⟨g, 0, none⟩))
  clear hT h1 h2 l0 l1 hN hb
  unfold ptr at *
  go_enter Tryz.func49, Tryz.ntmps49
  go_wp2_with fail
  have hbw := Aside0.mk (below_drew (below_alloc (Below.refl w.heap.size w) (.cells #[.pointer (some ⟨tb, 0, none⟩)] 38)))
  go_region_with ((go_at_call 14; refine (HP.out _ hbw.out).mono ?_; rintro e w2 ⟨rfl, hT2, hF2⟩))
  all_goals
    have HR := Aside0.mk (⟨hT2, (FrT.of_below tb hbw.out).trans hF2⟩ : Tk w0 tb _ w2 ∧ FrT tb w w2)
    clear hT2 hF2
    go_wp2_with fail
    go_end0
    exact ⟨rfl, HR.out⟩
end Go.Proofs.YthbinlnpipgobaaGreatDoor.Take
