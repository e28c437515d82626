import Derived.Test.YtjoagdldbmlenaaGreatDoorVF1
import Derived.Deep.RegionWith
set_option maxRecDepth 100000
set_option maxHeartbeats 8000000
set_option linter.unusedVariables false
set_option linter.unusedSimpArgs false
namespace Go.Proofs.YtjoagdldbmlenaaGreatDoor.Take
open Go.RowKit Go.Proofs.YtjoagdldbmlenaaGreatDoorW.PrintWords Keep Env Ast Tree
def TkPost (w0 : World) (tb : Nat) (ys : NL) (w : World) (e : Ending) (w' : World) : Prop := e = .returned (.tuple #[]) ∧ Tk w0 tb ys w' ∧ FrT tb w w'
theorem cl2_cell {L : Nat} {w : World} {g i : Nat} {x : Value} (h : Cl2 L w g i x) : w.cell? ⟨g, i, none⟩ = some x := h.2.1
theorem cl_cell {L : Nat} {w : World} {g i : Nat} {x : Value} (h : Cl L w g i x) : w.cell? ⟨g, i, none⟩ = some x := h.2.1
theorem text_any {L : Nat} {s : ByteArray} {w0 w : World} {v : Value} (h : GName L s w0 v) (hb : Below w0.heap.size w0 w) :
  Calls Tryz.prog 22 #[v] w fun e w' => e = .returned (.string s) ∧ w = w' := by
 obtain ⟨g, rfl, hc⟩ := h
 have c2 := pw_cell_below hb (cl2_cell hc)
 clear hc hb
 unfold ptr
 go_enter Tryz.func22, Tryz.ntmps22
 go_wp2_with fail
 go_ret
 exact ⟨rfl, rfl⟩
theorem tv_0_0 (v : Value) (W : World) : (Instr.typeAssert (.iface 122 v) 103 122 true).run Tryz.prog W = .ok (.tuple #[v, .bool true]) W := by kernel_rfl
theorem tv_1_0 (v : Value) (W : World) : (Instr.typeAssert (.iface 125 v) 103 122 true).run Tryz.prog W = .ok (.tuple #[.pointer none, .bool false]) W := by kernel_rfl
theorem tv_1_1 (v : Value) (W : World) : (Instr.typeAssert (.iface 125 v) 103 125 true).run Tryz.prog W = .ok (.tuple #[v, .bool true]) W := by kernel_rfl
theorem tv_2_0 (v : Value) (W : World) : (Instr.typeAssert (.iface 127 v) 103 122 true).run Tryz.prog W = .ok (.tuple #[.pointer none, .bool false]) W := by kernel_rfl
theorem tv_2_1 (v : Value) (W : World) : (Instr.typeAssert (.iface 127 v) 103 125 true).run Tryz.prog W = .ok (.tuple #[.pointer none, .bool false]) W := by kernel_rfl
theorem tv_2_2 (v : Value) (W : World) : (Instr.typeAssert (.iface 127 v) 103 127 true).run Tryz.prog W = .ok (.tuple #[v, .bool true]) W := by kernel_rfl
theorem tv_3_0 (v : Value) (W : World) : (Instr.typeAssert (.iface 129 v) 103 122 true).run Tryz.prog W = .ok (.tuple #[.pointer none, .bool false]) W := by kernel_rfl
theorem tv_3_1 (v : Value) (W : World) : (Instr.typeAssert (.iface 129 v) 103 125 true).run Tryz.prog W = .ok (.tuple #[.pointer none, .bool false]) W := by kernel_rfl
theorem tv_3_2 (v : Value) (W : World) : (Instr.typeAssert (.iface 129 v) 103 127 true).run Tryz.prog W = .ok (.tuple #[.pointer none, .bool false]) W := by kernel_rfl
theorem tv_3_3 (v : Value) (W : World) : (Instr.typeAssert (.iface 129 v) 103 129 true).run Tryz.prog W = .ok (.tuple #[v, .bool true]) W := by kernel_rfl
theorem tv_4_0 (v : Value) (W : World) : (Instr.typeAssert (.iface 131 v) 103 122 true).run Tryz.prog W = .ok (.tuple #[.pointer none, .bool false]) W := by kernel_rfl
theorem tv_4_1 (v : Value) (W : World) : (Instr.typeAssert (.iface 131 v) 103 125 true).run Tryz.prog W = .ok (.tuple #[.pointer none, .bool false]) W := by kernel_rfl
theorem tv_4_2 (v : Value) (W : World) : (Instr.typeAssert (.iface 131 v) 103 127 true).run Tryz.prog W = .ok (.tuple #[.pointer none, .bool false]) W := by kernel_rfl
theorem tv_4_3 (v : Value) (W : World) : (Instr.typeAssert (.iface 131 v) 103 129 true).run Tryz.prog W = .ok (.tuple #[.pointer none, .bool false]) W := by kernel_rfl
theorem tv_4_4 (v : Value) (W : World) : (Instr.typeAssert (.iface 131 v) 103 131 true).run Tryz.prog W = .ok (.tuple #[v, .bool true]) W := by kernel_rfl
theorem tv_5_0 (v : Value) (W : World) : (Instr.typeAssert (.iface 134 v) 103 122 true).run Tryz.prog W = .ok (.tuple #[.pointer none, .bool false]) W := by kernel_rfl
theorem tv_5_1 (v : Value) (W : World) : (Instr.typeAssert (.iface 134 v) 103 125 true).run Tryz.prog W = .ok (.tuple #[.pointer none, .bool false]) W := by kernel_rfl
theorem tv_5_2 (v : Value) (W : World) : (Instr.typeAssert (.iface 134 v) 103 127 true).run Tryz.prog W = .ok (.tuple #[.pointer none, .bool false]) W := by kernel_rfl
theorem tv_5_3 (v : Value) (W : World) : (Instr.typeAssert (.iface 134 v) 103 129 true).run Tryz.prog W = .ok (.tuple #[.pointer none, .bool false]) W := by kernel_rfl
theorem tv_5_4 (v : Value) (W : World) : (Instr.typeAssert (.iface 134 v) 103 131 true).run Tryz.prog W = .ok (.tuple #[.pointer none, .bool false]) W := by kernel_rfl
theorem tv_5_5 (v : Value) (W : World) : (Instr.typeAssert (.iface 134 v) 103 134 true).run Tryz.prog W = .ok (.tuple #[v, .bool true]) W := by kernel_rfl
theorem tv_6_0 (v : Value) (W : World) : (Instr.typeAssert (.iface 136 v) 103 122 true).run Tryz.prog W = .ok (.tuple #[.pointer none, .bool false]) W := by kernel_rfl
theorem tv_6_1 (v : Value) (W : World) : (Instr.typeAssert (.iface 136 v) 103 125 true).run Tryz.prog W = .ok (.tuple #[.pointer none, .bool false]) W := by kernel_rfl
theorem tv_6_2 (v : Value) (W : World) : (Instr.typeAssert (.iface 136 v) 103 127 true).run Tryz.prog W = .ok (.tuple #[.pointer none, .bool false]) W := by kernel_rfl
theorem tv_6_3 (v : Value) (W : World) : (Instr.typeAssert (.iface 136 v) 103 129 true).run Tryz.prog W = .ok (.tuple #[.pointer none, .bool false]) W := by kernel_rfl
theorem tv_6_4 (v : Value) (W : World) : (Instr.typeAssert (.iface 136 v) 103 131 true).run Tryz.prog W = .ok (.tuple #[.pointer none, .bool false]) W := by kernel_rfl
theorem tv_6_5 (v : Value) (W : World) : (Instr.typeAssert (.iface 136 v) 103 134 true).run Tryz.prog W = .ok (.tuple #[.pointer none, .bool false]) W := by kernel_rfl
theorem tv_6_6 (v : Value) (W : World) : (Instr.typeAssert (.iface 136 v) 103 136 true).run Tryz.prog W = .ok (.tuple #[v, .bool true]) W := by kernel_rfl
theorem tv_7_0 (v : Value) (W : World) : (Instr.typeAssert (.iface 140 v) 103 122 true).run Tryz.prog W = .ok (.tuple #[.pointer none, .bool false]) W := by kernel_rfl
theorem tv_7_1 (v : Value) (W : World) : (Instr.typeAssert (.iface 140 v) 103 125 true).run Tryz.prog W = .ok (.tuple #[.pointer none, .bool false]) W := by kernel_rfl
theorem tv_7_2 (v : Value) (W : World) : (Instr.typeAssert (.iface 140 v) 103 127 true).run Tryz.prog W = .ok (.tuple #[.pointer none, .bool false]) W := by kernel_rfl
theorem tv_7_3 (v : Value) (W : World) : (Instr.typeAssert (.iface 140 v) 103 129 true).run Tryz.prog W = .ok (.tuple #[.pointer none, .bool false]) W := by kernel_rfl
theorem tv_7_4 (v : Value) (W : World) : (Instr.typeAssert (.iface 140 v) 103 131 true).run Tryz.prog W = .ok (.tuple #[.pointer none, .bool false]) W := by kernel_rfl
theorem tv_7_5 (v : Value) (W : World) : (Instr.typeAssert (.iface 140 v) 103 134 true).run Tryz.prog W = .ok (.tuple #[.pointer none, .bool false]) W := by kernel_rfl
theorem tv_7_6 (v : Value) (W : World) : (Instr.typeAssert (.iface 140 v) 103 136 true).run Tryz.prog W = .ok (.tuple #[.pointer none, .bool false]) W := by kernel_rfl
theorem tv_7_7 (v : Value) (W : World) : (Instr.typeAssert (.iface 140 v) 103 140 true).run Tryz.prog W = .ok (.tuple #[v, .bool true]) W := by kernel_rfl
theorem tkv_0 {L : Nat} (w0 w : World) (tb g : Nat) (xs : NL) (lv : Value) (nv : Value) (s : ByteArray) (h2 : Cl2 L w0 g 2 nv) (hn : GName L s w0 nv) (hT : Tk w0 tb xs w) (h1 : Cl2 L w0 g 1 lv) (hl : GLoc L w0 lv) (hN : (xs ++ nd 11 s emp emp 0 []).length ≤ 200000) :
  Calls Tryz.prog 43 #[.pointer (some ⟨tb, 0, none⟩), .iface 122 (ptr g)] w (TkPost w0 tb (xs ++ nd 11 s emp emp 0 []) w) := by
 obtain ⟨lb, la, lc, rfl, l0, l1⟩ := hl
 have hb := hT.below
 have c1 := pw_cell_below hb (cl2_cell h1)
 have c2 := pw_cell_below hb (cl2_cell h2)
 have hgl : g < w.heap.size := World.block_lt_of_cell? w _ c1
 have HP := aK (fun W (hW : Below w.heap.size w W) => put_nil w0 W tb lb xs 11 0 la lc s emp emp (hT.of_below hW) (cl2_cell l0) (cl2_cell l1) hN)
 have HX := aK (fun W (hW : Below w.heap.size w W) => text_any hn (hb.trans (hW.mono hb.size)))
 obtain ⟨nb, rfl, _⟩ := hn
 have a0 := tv_0_0 (.pointer (some ⟨g, 0, none⟩))
 clear hT h1 h2 l0 l1 hN hb
 unfold ptr at *
 go_enter Tryz.func43, Tryz.ntmps43
 go_wp2_with fail
 have hbw := aK (below_drew (below_alloc (Below.refl w.heap.size w) (.cells #[.pointer (some ⟨tb, 0, none⟩)] 35)))
 go_region_with (first | (go_at_call 22; refine (HX.out _ hbw.out).mono ?_; rintro e w2 ⟨rfl, rfl⟩) | (go_at_call 21; refine (HP.out _ hbw.out).mono ?_; rintro e w2 ⟨rfl, hT2, hF2⟩))
 all_goals
  have HR := aK (⟨hT2, (FrT.of_below tb hbw.out).trans hF2⟩ : Tk w0 tb _ w2 ∧ FrT tb w w2)
  clear hT2 hF2
  go_wp2_with fail
  go_end0
  exact ⟨rfl, HR.out⟩
theorem tkv_1 {L : Nat} (w0 w : World) (tb g : Nat) (xs : NL) (lv : Value) (s : ByteArray) (h2 : Cl2 L w0 g 2 (.string s)) (hT : Tk w0 tb xs w) (h1 : Cl2 L w0 g 1 lv) (hl : GLoc L w0 lv) (hN : (xs ++ nd 12 emp emp s 0 []).length ≤ 200000) :
  Calls Tryz.prog 43 #[.pointer (some ⟨tb, 0, none⟩), .iface 125 (ptr g)] w (TkPost w0 tb (xs ++ nd 12 emp emp s 0 []) w) := by
 obtain ⟨lb, la, lc, rfl, l0, l1⟩ := hl
 have hb := hT.below
 have c1 := pw_cell_below hb (cl2_cell h1)
 have c2 := pw_cell_below hb (cl2_cell h2)
 have hgl : g < w.heap.size := World.block_lt_of_cell? w _ c1
 have HP := aK (fun W (hW : Below w.heap.size w W) => put_nil w0 W tb lb xs 12 0 la lc emp emp s (hT.of_below hW) (cl2_cell l0) (cl2_cell l1) hN)
 have a0 := tv_1_0 (.pointer (some ⟨g, 0, none⟩))
 have a1 := tv_1_1 (.pointer (some ⟨g, 0, none⟩))
 clear hT h1 h2 l0 l1 hN hb
 unfold ptr at *
 go_enter Tryz.func43, Tryz.ntmps43
 go_wp2_with fail
 have hbw := aK (below_drew (below_alloc (Below.refl w.heap.size w) (.cells #[.pointer (some ⟨tb, 0, none⟩)] 35)))
 go_region_with ((go_at_call 21; refine (HP.out _ hbw.out).mono ?_; rintro e w2 ⟨rfl, hT2, hF2⟩))
 all_goals
  have HR := aK (⟨hT2, (FrT.of_below tb hbw.out).trans hF2⟩ : Tk w0 tb _ w2 ∧ FrT tb w w2)
  clear hT2 hF2
  go_wp2_with fail
  go_end0
  exact ⟨rfl, HR.out⟩
theorem tkv_2 {L : Nat} (w0 w : World) (tb g : Nat) (xs : NL) (lv : Value) (s : ByteArray) (h2 : Cl2 L w0 g 2 (.string s)) (hT : Tk w0 tb xs w) (h1 : Cl2 L w0 g 1 lv) (hl : GLoc L w0 lv) (hN : (xs ++ nd 13 emp emp s 0 []).length ≤ 200000) :
  Calls Tryz.prog 43 #[.pointer (some ⟨tb, 0, none⟩), .iface 127 (ptr g)] w (TkPost w0 tb (xs ++ nd 13 emp emp s 0 []) w) := by
 obtain ⟨lb, la, lc, rfl, l0, l1⟩ := hl
 have hb := hT.below
 have c1 := pw_cell_below hb (cl2_cell h1)
 have c2 := pw_cell_below hb (cl2_cell h2)
 have hgl : g < w.heap.size := World.block_lt_of_cell? w _ c1
 have HP := aK (fun W (hW : Below w.heap.size w W) => put_nil w0 W tb lb xs 13 0 la lc emp emp s (hT.of_below hW) (cl2_cell l0) (cl2_cell l1) hN)
 have a0 := tv_2_0 (.pointer (some ⟨g, 0, none⟩))
 have a1 := tv_2_1 (.pointer (some ⟨g, 0, none⟩))
 have a2 := tv_2_2 (.pointer (some ⟨g, 0, none⟩))
 clear hT h1 h2 l0 l1 hN hb
 unfold ptr at *
 go_enter Tryz.func43, Tryz.ntmps43
 go_wp2_with fail
 have hbw := aK (below_drew (below_alloc (Below.refl w.heap.size w) (.cells #[.pointer (some ⟨tb, 0, none⟩)] 35)))
 go_region_with ((go_at_call 21; refine (HP.out _ hbw.out).mono ?_; rintro e w2 ⟨rfl, hT2, hF2⟩))
 all_goals
  have HR := aK (⟨hT2, (FrT.of_below tb hbw.out).trans hF2⟩ : Tk w0 tb _ w2 ∧ FrT tb w w2)
  clear hT2 hF2
  go_wp2_with fail
  go_end0
  exact ⟨rfl, HR.out⟩
theorem tkv_3 {L : Nat} (w0 w : World) (tb g : Nat) (xs : NL) (lv : Value) (s : ByteArray) (h2 : Cl2 L w0 g 2 (.string s)) (hT : Tk w0 tb xs w) (h1 : Cl2 L w0 g 1 lv) (hl : GLoc L w0 lv) (hN : (xs ++ nd 14 emp emp s 0 []).length ≤ 200000) :
  Calls Tryz.prog 43 #[.pointer (some ⟨tb, 0, none⟩), .iface 129 (ptr g)] w (TkPost w0 tb (xs ++ nd 14 emp emp s 0 []) w) := by
 obtain ⟨lb, la, lc, rfl, l0, l1⟩ := hl
 have hb := hT.below
 have c1 := pw_cell_below hb (cl2_cell h1)
 have c2 := pw_cell_below hb (cl2_cell h2)
 have hgl : g < w.heap.size := World.block_lt_of_cell? w _ c1
 have HP := aK (fun W (hW : Below w.heap.size w W) => put_nil w0 W tb lb xs 14 0 la lc emp emp s (hT.of_below hW) (cl2_cell l0) (cl2_cell l1) hN)
 have a0 := tv_3_0 (.pointer (some ⟨g, 0, none⟩))
 have a1 := tv_3_1 (.pointer (some ⟨g, 0, none⟩))
 have a2 := tv_3_2 (.pointer (some ⟨g, 0, none⟩))
 have a3 := tv_3_3 (.pointer (some ⟨g, 0, none⟩))
 clear hT h1 h2 l0 l1 hN hb
 unfold ptr at *
 go_enter Tryz.func43, Tryz.ntmps43
 go_wp2_with fail
 have hbw := aK (below_drew (below_alloc (Below.refl w.heap.size w) (.cells #[.pointer (some ⟨tb, 0, none⟩)] 35)))
 go_region_with ((go_at_call 21; refine (HP.out _ hbw.out).mono ?_; rintro e w2 ⟨rfl, hT2, hF2⟩))
 all_goals
  have HR := aK (⟨hT2, (FrT.of_below tb hbw.out).trans hF2⟩ : Tk w0 tb _ w2 ∧ FrT tb w w2)
  clear hT2 hF2
  go_wp2_with fail
  go_end0
  exact ⟨rfl, HR.out⟩
theorem tkv_5 {L : Nat} (w0 w : World) (tb g : Nat) (xs : NL) (lv : Value) (s : ByteArray) (h2 : Cl2 L w0 g 2 (.string s)) (hT : Tk w0 tb xs w) (h1 : Cl2 L w0 g 1 lv) (hl : GLoc L w0 lv) (hN : (xs ++ nd 16 s emp emp 0 []).length ≤ 200000) :
  Calls Tryz.prog 43 #[.pointer (some ⟨tb, 0, none⟩), .iface 134 (ptr g)] w (TkPost w0 tb (xs ++ nd 16 s emp emp 0 []) w) := by
 obtain ⟨lb, la, lc, rfl, l0, l1⟩ := hl
 have hb := hT.below
 have c1 := pw_cell_below hb (cl2_cell h1)
 have c2 := pw_cell_below hb (cl2_cell h2)
 have hgl : g < w.heap.size := World.block_lt_of_cell? w _ c1
 have HP := aK (fun W (hW : Below w.heap.size w W) => put_nil w0 W tb lb xs 16 0 la lc s emp emp (hT.of_below hW) (cl2_cell l0) (cl2_cell l1) hN)
 have a0 := tv_5_0 (.pointer (some ⟨g, 0, none⟩))
 have a1 := tv_5_1 (.pointer (some ⟨g, 0, none⟩))
 have a2 := tv_5_2 (.pointer (some ⟨g, 0, none⟩))
 have a3 := tv_5_3 (.pointer (some ⟨g, 0, none⟩))
 have a4 := tv_5_4 (.pointer (some ⟨g, 0, none⟩))
 have a5 := tv_5_5 (.pointer (some ⟨g, 0, none⟩))
 clear hT h1 h2 l0 l1 hN hb
 unfold ptr at *
 go_enter Tryz.func43, Tryz.ntmps43
 go_wp2_with fail
 have hbw := aK (below_drew (below_alloc (Below.refl w.heap.size w) (.cells #[.pointer (some ⟨tb, 0, none⟩)] 35)))
 go_region_with ((go_at_call 21; refine (HP.out _ hbw.out).mono ?_; rintro e w2 ⟨rfl, hT2, hF2⟩))
 all_goals
  have HR := aK (⟨hT2, (FrT.of_below tb hbw.out).trans hF2⟩ : Tk w0 tb _ w2 ∧ FrT tb w w2)
  clear hT2 hF2
  go_wp2_with fail
  go_end0
  exact ⟨rfl, HR.out⟩
theorem tkv_4t {L : Nat} (w0 w : World) (tb g : Nat) (xs : NL) (lv : Value) (h2 : Cl2 L w0 g 2 (.bool true)) (hT : Tk w0 tb xs w) (h1 : Cl2 L w0 g 1 lv) (hl : GLoc L w0 lv) (hN : (xs ++ nd 15 emp emp emp (if true = true then 1 else 0) []).length ≤ 200000) :
  Calls Tryz.prog 43 #[.pointer (some ⟨tb, 0, none⟩), .iface 131 (ptr g)] w (TkPost w0 tb (xs ++ nd 15 emp emp emp (if true = true then 1 else 0) []) w) := by
 obtain ⟨lb, la, lc, rfl, l0, l1⟩ := hl
 have hb := hT.below
 have c1 := pw_cell_below hb (cl2_cell h1)
 have c2 := pw_cell_below hb (cl2_cell h2)
 have hgl : g < w.heap.size := World.block_lt_of_cell? w _ c1
 have HP := aK (fun W (hW : Below w.heap.size w W) => put_nil w0 W tb lb xs 15 1 la lc emp emp emp (hT.of_below hW) (cl2_cell l0) (cl2_cell l1) hN)
 have a0 := tv_4_0 (.pointer (some ⟨g, 0, none⟩))
 have a1 := tv_4_1 (.pointer (some ⟨g, 0, none⟩))
 have a2 := tv_4_2 (.pointer (some ⟨g, 0, none⟩))
 have a3 := tv_4_3 (.pointer (some ⟨g, 0, none⟩))
 have a4 := tv_4_4 (.pointer (some ⟨g, 0, none⟩))
 clear hT h1 h2 l0 l1 hN hb
 unfold ptr at *
 go_enter Tryz.func43, Tryz.ntmps43
 go_wp2_with fail
 have hbw := aK (below_drew (below_alloc (below_alloc (Below.refl w.heap.size w) (.cells #[.pointer (some ⟨tb, 0, none⟩)] 35)) (.cells #[.int .i64 15, .string ⟨#[]⟩, .string ⟨#[]⟩, .string ⟨#[]⟩, .int .i64 1, .int .i64 0] 51)))
 go_region_with ((go_at_call 21; refine (HP.out _ hbw.out).mono ?_; rintro e w2 ⟨rfl, hT2, hF2⟩))
 all_goals
  have HR := aK (⟨hT2, (FrT.of_below tb hbw.out).trans hF2⟩ : Tk w0 tb _ w2 ∧ FrT tb w w2)
  clear hT2 hF2
  go_wp2_with fail
  go_end0
  exact ⟨rfl, HR.out⟩
theorem tkv_4f {L : Nat} (w0 w : World) (tb g : Nat) (xs : NL) (lv : Value) (h2 : Cl2 L w0 g 2 (.bool false)) (hT : Tk w0 tb xs w) (h1 : Cl2 L w0 g 1 lv) (hl : GLoc L w0 lv) (hN : (xs ++ nd 15 emp emp emp (if false = true then 1 else 0) []).length ≤ 200000) :
  Calls Tryz.prog 43 #[.pointer (some ⟨tb, 0, none⟩), .iface 131 (ptr g)] w (TkPost w0 tb (xs ++ nd 15 emp emp emp (if false = true then 1 else 0) []) w) := by
 obtain ⟨lb, la, lc, rfl, l0, l1⟩ := hl
 have hb := hT.below
 have c1 := pw_cell_below hb (cl2_cell h1)
 have c2 := pw_cell_below hb (cl2_cell h2)
 have hgl : g < w.heap.size := World.block_lt_of_cell? w _ c1
 have HP := aK (fun W (hW : Below w.heap.size w W) => put_nil w0 W tb lb xs 15 0 la lc emp emp emp (hT.of_below hW) (cl2_cell l0) (cl2_cell l1) hN)
 have a0 := tv_4_0 (.pointer (some ⟨g, 0, none⟩))
 have a1 := tv_4_1 (.pointer (some ⟨g, 0, none⟩))
 have a2 := tv_4_2 (.pointer (some ⟨g, 0, none⟩))
 have a3 := tv_4_3 (.pointer (some ⟨g, 0, none⟩))
 have a4 := tv_4_4 (.pointer (some ⟨g, 0, none⟩))
 clear hT h1 h2 l0 l1 hN hb
 unfold ptr at *
 go_enter Tryz.func43, Tryz.ntmps43
 go_wp2_with fail
 have hbw := aK (below_drew (below_alloc (below_alloc (Below.refl w.heap.size w) (.cells #[.pointer (some ⟨tb, 0, none⟩)] 35)) (.cells #[.int .i64 15, .string ⟨#[]⟩, .string ⟨#[]⟩, .string ⟨#[]⟩, .int .i64 0, .int .i64 0] 51)))
 go_region_with ((go_at_call 21; refine (HP.out _ hbw.out).mono ?_; rintro e w2 ⟨rfl, hT2, hF2⟩))
 all_goals
  have HR := aK (⟨hT2, (FrT.of_below tb hbw.out).trans hF2⟩ : Tk w0 tb _ w2 ∧ FrT tb w w2)
  clear hT2 hF2
  go_wp2_with fail
  go_end0
  exact ⟨rfl, HR.out⟩
end Go.Proofs.YtjoagdldbmlenaaGreatDoor.Take
