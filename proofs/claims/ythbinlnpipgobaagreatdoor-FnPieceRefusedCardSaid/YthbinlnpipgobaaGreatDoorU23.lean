import Derived.Test.YthbinlnpipgobaaGreatDoorU22
import Derived.Test.YthbinlnpipgobaaGreatDoorU18
import Derived.Test.YthbinlnpipgobaaGreatDoorU21
import Derived.Test.YthbinlnpipgobaaGreatDoorU17
import Derived.Deep.RegionHeld3
namespace Go.Proofs.YthbinlnpipgobaaGreatDoor.Take
set_option linter.unusedVariables false
set_option linter.unusedSimpArgs false
open Go.RowKit Go.Proofs.YthbinlnpipgobaaGreatDoorW.PrintWords Go.Proofs.YthbinlnpipgobaaGreatDoor.Keep Go.Proofs.YthbinlnpipgobaaGreatDoor.Env Go.Proofs.YthbinlnpipgobaaGreatDoor.Ast Go.Proofs.YthbinlnpipgobaaGreatDoor.Tree

theorem take_one {zs : List NL} {i : Nat} {z : NL} (h : zs[i]? = some z) : (zs.take (i + 1)).flatten = (zs.take i).flatten ++ z := by
  rw [List.take_add_one, h]
  simp
theorem take_len {zs : List NL} {xs : NL} (i : Nat) (hN : (xs ++ zs.flatten).length ≤ 200000) : (xs ++ (zs.take i).flatten).length ≤ 200000 := by
  have h : zs.flatten = (zs.take i).flatten ++ (zs.drop i).flatten := by rw [← List.flatten_append, List.take_append_drop]
  rw [h] at hN
  simp only [List.length_append] at *
  omega
theorem row_few {zs : List NL} (h : ∀ (i : Nat) (z : NL), zs[i]? = some z → 0 < z.length) : zs.length ≤ zs.flatten.length := by
  induction zs with
  | nil => simp
  | cons z zs ih =>
    have h1 := h 0 z (by simp)
    have h2 := ih fun i z hz => h (i + 1) z (by simpa using hz)
    rw [List.flatten_cons, List.length_append, List.length_cons]
    omega
theorem gval_pos {L n : Nat} {y : NL} {w : World} {v : Value} (h : GVal L n y w v) : 0 < y.length := by
  cases n with
  | zero => cases h
  | succ n =>
    obtain ⟨g, lv, _, _, h⟩ := h
    rcases h with ⟨_, _, _, _, _, rfl⟩ | ⟨_, _, _, rfl⟩ | ⟨_, _, _, rfl⟩ | ⟨_, _, _, rfl⟩ | ⟨_, _, _, rfl⟩ | ⟨_, _, _, rfl⟩ | ⟨_, _, _, _, _, rfl⟩ | ⟨_, _, _, _, _, rfl⟩ <;> exact Nat.succ_pos _
theorem grow_few {L : Nat} {P : NL → World → Value → Prop} {zs : List NL} {w : World} {v : Value} (hP : ∀ y w v, P y w v → 0 < y.length) (h : GRow L P zs w v) : zs.length ≤ zs.flatten.length := by
  obtain ⟨A, c, _, h⟩ := h
  rcases h with rfl | ⟨b, o, _, h⟩
  · simp
  · exact row_few fun i z hz => by obtain ⟨x, _, hp⟩ := h i z hz; exact hP _ _ _ hp
theorem growD_few {L : Nat} {P : NL → World → Value → Prop} {zs : List NL} {w : World} {v : Value} (hP : ∀ y w v, P y w v → 0 < y.length) (h : GRowD L P zs w v) : zs.length ≤ zs.flatten.length := by
  obtain ⟨A, c, _, h⟩ := h
  rcases h with rfl | ⟨b, o, _, h⟩
  · simp
  · exact row_few fun i z hz => by obtain ⟨x, _, hp⟩ := h i z hz; exact hP _ _ _ hp
def ValOk (L n : Nat) : Prop := ∀ (w0 w : World) (tb : Nat) (xs y : NL) (v : Value), GVal L n y w0 v → Tk w0 tb xs w → (xs ++ y).length ≤ 200000 → Calls Tryz.prog 49 #[.pointer (some ⟨tb, 0, none⟩), v] w (TkPost w0 tb (xs ++ y) w)
set_option maxRecDepth 100000 in
set_option maxHeartbeats 4000000 in
theorem list_loop {L n : Nat} (hV : ValOk L n) (w0 w : World) (tb g bv bt : Nat) (xs : NL) (zs : List NL) (sv : Value) (h2 : Cl2 L w0 g 2 sv) (hr : GRow L (GVal L n) zs w0 sv) (hbv : Blk w bv 221 #[ptr g]) (hbt : Blk w bt 38 #[.pointer (some ⟨tb, 0, none⟩)]) (hne : bv ≠ tb ∧ bt ≠ tb) (hT : Tk w0 tb xs w) (hN : (xs ++ zs.flatten).length ≤ 200000) :
    Calls Tryz.prog 94 #[.pointer (some ⟨bv, 0, none⟩), .pointer (some ⟨bt, 0, none⟩)] w (TkPost w0 tb (xs ++ zs.flatten) w) := by
  have hfew : zs.length ≤ 200000 := by have h := grow_few (fun _ _ _ h => gval_pos h) hr; rw [List.length_append] at hN; omega
  obtain ⟨A, c, rfl, hrow⟩ := hr
  have hb := hT.below
  have c2 := pw_cell_below hb (cl2_cell h2)
  have q1 := (hbv.cell 0).trans rfl
  have q2 := (hbt.cell 0).trans rfl
  have HT := Aside0.mk hT
  have HBT := Aside0.mk hbt
  have HROW := Aside0.mk hrow
  have HN := Aside0.mk hN
  clear hT hrow h2 hN hbv hbt
  unfold ptr at *
  go_enter Tryz.func94, Tryz.ntmps94
  go_wp2_with fail
  go_loopw [9] (fun v9 wr => ∃ i : Nat, v9 = .int .i64 i ∧ i ≤ zs.length ∧ Aside0 (Tk w0 tb (xs ++ (zs.take i).flatten) wr ∧ FrT tb w wr)) (fun v9 _ => zs.length - (intOf v9).toNat)
  case atStart => exact ⟨0, rfl, Nat.zero_le _, ⟨by simpa using HT.out, FrT.refl _ _⟩⟩
  case round =>
    obtain ⟨i, rfl, him, HI⟩ := hrel
    by_cases hlt : i < zs.length
    · obtain ⟨z, hz⟩ : ∃ z, zs[i]? = some z := ⟨zs[i], List.getElem?_eq_getElem hlt⟩
      have hlti : (i : Int) < (zs.length : Int) := by omega
      have hr2 : ∃ b o x, A = some ⟨b, o, none⟩ ∧ Cl2 L w0 b (o + i) x ∧ GVal L n z w0 x := by
        rcases HROW.out with h | ⟨b, o, hA, h⟩
        · rw [h] at hlt; exact absurd hlt (by simp)
        · obtain ⟨x, h1, h2⟩ := h i z hz
          exact ⟨b, o, x, hA, h1, h2⟩
      obtain ⟨b, o, x, rfl, hc, hg⟩ := hr2
      have cx := pw_cell_below HI.out.1.below (cl2_cell hc)
      have q3 := ((HI.out.2.keep HBT.out hne.2 (by decide) (by decide)).cell 0).trans rfl
      have HC := Aside0.mk (fun W (hW : Below wr.heap.size wr W) => hV w0 W tb _ z x hg (HI.out.1.of_below hW) (by
        have h := take_len (xs := xs) (i + 1) HN.out
        rw [take_one hz, ← List.append_assoc] at h
        exact h))
      clear hc hg
      go_wp2_with fail
      refine (HC.out _ (Below.refl _ _)).mono ?_
      rintro e w2 ⟨rfl, hT2, hF2⟩
      have HS := Aside0.mk (⟨by rw [take_one hz, ← List.append_assoc]; exact hT2, HI.out.2.trans hF2⟩ : Tk w0 tb (xs ++ (zs.take (i + 1)).flatten) w2 ∧ FrT tb w w2)
      clear hT2 hF2
      go_wp2_with fail
      go_roundw
      case rel => exact ⟨i + 1, by go_num, by omega, HS⟩
      case measure => simp [intOf]; omega
    · obtain rfl : i = zs.length := by omega
      have hge : ¬ (zs.length : Int) < (zs.length : Int) := by omega
      go_wp2_with fail
      go_end0
      refine ⟨rfl, ?_, HI.out.2⟩
      have h := HI.out.1
      rw [List.take_length] at h
      exact h
end Go.Proofs.YthbinlnpipgobaaGreatDoor.Take
namespace Go.Proofs.YthbinlnpipgobaaGreatDoor.Take
set_option linter.unusedVariables false
set_option linter.unusedSimpArgs false
open Go.RowKit Go.Proofs.YthbinlnpipgobaaGreatDoorW.PrintWords Go.Proofs.YthbinlnpipgobaaGreatDoor.Keep Go.Proofs.YthbinlnpipgobaaGreatDoor.Env Go.Proofs.YthbinlnpipgobaaGreatDoor.Ast Go.Proofs.YthbinlnpipgobaaGreatDoor.Tree

set_option maxRecDepth 100000 in
set_option maxHeartbeats 8000000 in
theorem tkv_6 {L n : Nat} (hV : ValOk L n) (w0 w : World) (tb g : Nat) (xs : NL) (zs : List NL) (lv sv : Value) (h2 : Cl2 L w0 g 2 sv) (hr : GRow L (GVal L n) zs w0 sv) (hT : Tk w0 tb xs w) (h1 : Cl2 L w0 g 1 lv) (hl : GLoc L w0 lv) (hN : (xs ++ nd 17 emp emp emp 0 zs).length ≤ 200000) :
    Calls Tryz.prog 49 #[.pointer (some ⟨tb, 0, none⟩), .iface 221 (ptr g)] w (TkPost w0 tb (xs ++ nd 17 emp emp emp 0 zs) w) := by
  obtain ⟨lb, la, lc, rfl, l0, l1⟩ := hl
  have hb := hT.below
  have hbs := hT.base
  have htb : tb < w.heap.size := by obtain ⟨d, sp, h⟩ := hT; exact h.blk.lt
  have c1 := pw_cell_below hb (cl2_cell h1)
  have hgl : g < w.heap.size := World.block_lt_of_cell? w _ c1
  have HP := Aside0.mk (fun W (hW : Below w.heap.size w W) (hB1 : Blk W w.heap.size 38 #[.pointer (some ⟨tb, 0, none⟩)]) (hB2 : Blk W (w.heap.size + 1) 221 #[ptr g]) =>
    put_list w0 W tb lb xs 17 0 la lc emp emp emp (w.heap.size + 1) w.heap.size zs (fun w1 hT1 hF1 => by
      have h := list_loop hV w0 w1 tb g (w.heap.size + 1) w.heap.size _ zs sv h2 hr (hF1.keep hB2 (by omega) (by decide) (by decide)) (hF1.keep hB1 (by omega) (by decide) (by decide)) ⟨by omega, by omega⟩ hT1 (by rw [List.length_append] at hN ⊢; rw [nd_len] at hN; rw [List.length_append]; simp only [List.length_cons, List.length_nil]; omega)
      rw [List.append_assoc, List.singleton_append] at h
      exact h) (hT.of_below hW) (cl2_cell l0) (cl2_cell l1) hN)
  have a0 := tv_6_0 (.pointer (some ⟨g, 0, none⟩))
  have a1 := tv_6_1 (.pointer (some ⟨g, 0, none⟩))
  have a2 := tv_6_2 (.pointer (some ⟨g, 0, none⟩))
  have a3 := tv_6_3 (.pointer (some ⟨g, 0, none⟩))
  have a4 := tv_6_4 (.pointer (some ⟨g, 0, none⟩))
  have a5 := tv_6_5 (.pointer (some ⟨g, 0, none⟩))
  have a6 := tv_6_6 (.pointer (some ⟨g, 0, none⟩))
  clear hT h1 h2 hr l0 l1 hN hb
  unfold ptr at *
  go_enter Tryz.func49, Tryz.ntmps49
  go_wp2_with fail
  have hbw := Aside0.mk (below_drew (below_alloc (below_alloc (Below.refl w.heap.size w) (.cells #[.pointer (some ⟨tb, 0, none⟩)] 38)) (.cells #[.pointer (some ⟨g, 0, none⟩)] 221)))
  have hB1 := Aside0.mk ((Blk.new w 38 #[.pointer (some ⟨tb, 0, none⟩)]).alloc (.cells #[.pointer (some ⟨g, 0, none⟩)] 221)).drew
  have hB2 := Aside0.mk (Blk.new (w.alloc (.cells #[.pointer (some ⟨tb, 0, none⟩)] 38)) 221 #[.pointer (some ⟨g, 0, none⟩)]).drew
  rw [World.size_alloc] at hB2
  go_region_with (go_at_call 14; refine (HP.out _ hbw.out hB1.out hB2.out).mono ?_; rintro e w2 ⟨rfl, hT2, hF2⟩)
  all_goals
    have HR := Aside0.mk (⟨hT2, (FrT.of_below tb hbw.out).trans hF2⟩ : Tk w0 tb _ w2 ∧ FrT tb w w2)
    clear hT2 hF2
    go_wp2_with fail
    go_end0
    exact ⟨rfl, HR.out⟩
end Go.Proofs.YthbinlnpipgobaaGreatDoor.Take
namespace Go.Proofs.YthbinlnpipgobaaGreatDoor.Take
set_option linter.unusedVariables false
set_option linter.unusedSimpArgs false
open Go.RowKit Go.Proofs.YthbinlnpipgobaaGreatDoorW.PrintWords Go.Proofs.YthbinlnpipgobaaGreatDoor.Keep Go.Proofs.YthbinlnpipgobaaGreatDoor.Env Go.Proofs.YthbinlnpipgobaaGreatDoor.Ast Go.Proofs.YthbinlnpipgobaaGreatDoor.Tree

set_option maxRecDepth 100000 in
set_option maxHeartbeats 4000000 in
theorem tkv_4t {L : Nat} (w0 w : World) (tb g : Nat) (xs : NL) (lv : Value) (h2 : Cl2 L w0 g 2 (.bool true)) (hT : Tk w0 tb xs w) (h1 : Cl2 L w0 g 1 lv) (hl : GLoc L w0 lv) (hN : (xs ++ nd 15 emp emp emp (if true = true then 1 else 0) []).length ≤ 200000) :
    Calls Tryz.prog 49 #[.pointer (some ⟨tb, 0, none⟩), .iface 216 (ptr g)] w (TkPost w0 tb (xs ++ nd 15 emp emp emp (if true = true then 1 else 0) []) w) := by
  obtain ⟨lb, la, lc, rfl, l0, l1⟩ := hl
  have hb := hT.below
  have c1 := pw_cell_below hb (cl2_cell h1)
  have c2 := pw_cell_below hb (cl2_cell h2)
  have hgl : g < w.heap.size := World.block_lt_of_cell? w _ c1
  have HP := Aside0.mk (fun W (hW : Below w.heap.size w W) => put_nil w0 W tb lb xs 15 1 la lc emp emp emp (hT.of_below hW) (cl2_cell l0) (cl2_cell l1) hN)
  have a0 := tv_4_0 (.pointer (some ⟨g, 0, none⟩))
  have a1 := tv_4_1 (.pointer (some ⟨g, 0, none⟩))
  have a2 := tv_4_2 (.pointer (some ⟨g, 0, none⟩))
  have a3 := tv_4_3 (.pointer (some ⟨g, 0, none⟩))
  have a4 := tv_4_4 (.pointer (some ⟨g, 0, none⟩))
  clear hT h1 h2 l0 l1 hN hb
  unfold ptr at *
  go_enter Tryz.func49, Tryz.ntmps49
  go_wp2_with fail
  have hbw := Aside0.mk (below_drew (below_alloc (below_alloc (Below.refl w.heap.size w) (.cells #[.pointer (some ⟨tb, 0, none⟩)] 38)) (.cells #[.int .i64 15, .string ⟨#[]⟩, .string ⟨#[]⟩, .string ⟨#[]⟩, .int .i64 1, .int .i64 0] 59)))
  go_region_with ((go_at_call 14; refine (HP.out _ hbw.out).mono ?_; rintro e w2 ⟨rfl, hT2, hF2⟩))
  all_goals
    have HR := Aside0.mk (⟨hT2, (FrT.of_below tb hbw.out).trans hF2⟩ : Tk w0 tb _ w2 ∧ FrT tb w w2)
    clear hT2 hF2
    go_wp2_with fail
    go_end0
    exact ⟨rfl, HR.out⟩
set_option maxRecDepth 100000 in
set_option maxHeartbeats 4000000 in
theorem tkv_4f {L : Nat} (w0 w : World) (tb g : Nat) (xs : NL) (lv : Value) (h2 : Cl2 L w0 g 2 (.bool false)) (hT : Tk w0 tb xs w) (h1 : Cl2 L w0 g 1 lv) (hl : GLoc L w0 lv) (hN : (xs ++ nd 15 emp emp emp (if false = true then 1 else 0) []).length ≤ 200000) :
    Calls Tryz.prog 49 #[.pointer (some ⟨tb, 0, none⟩), .iface 216 (ptr g)] w (TkPost w0 tb (xs ++ nd 15 emp emp emp (if false = true then 1 else 0) []) w) := by
  obtain ⟨lb, la, lc, rfl, l0, l1⟩ := hl
  have hb := hT.below
  have c1 := pw_cell_below hb (cl2_cell h1)
  have c2 := pw_cell_below hb (cl2_cell h2)
  have hgl : g < w.heap.size := World.block_lt_of_cell? w _ c1
  have HP := Aside0.mk (fun W (hW : Below w.heap.size w W) => put_nil w0 W tb lb xs 15 0 la lc emp emp emp (hT.of_below hW) (cl2_cell l0) (cl2_cell l1) hN)
  have a0 := tv_4_0 (.pointer (some ⟨g, 0, none⟩))
  have a1 := tv_4_1 (.pointer (some ⟨g, 0, none⟩))
  have a2 := tv_4_2 (.pointer (some ⟨g, 0, none⟩))
  have a3 := tv_4_3 (.pointer (some ⟨g, 0, none⟩))
  have a4 := tv_4_4 (.pointer (some ⟨g, 0, none⟩))
  clear hT h1 h2 l0 l1 hN hb
  unfold ptr at *
  go_enter Tryz.func49, Tryz.ntmps49
  go_wp2_with fail
  have hbw := Aside0.mk (below_drew (below_alloc (below_alloc (Below.refl w.heap.size w) (.cells #[.pointer (some ⟨tb, 0, none⟩)] 38)) (.cells #[.int .i64 15, .string ⟨#[]⟩, .string ⟨#[]⟩, .string ⟨#[]⟩, .int .i64 0, .int .i64 0] 59)))
  go_region_with ((go_at_call 14; refine (HP.out _ hbw.out).mono ?_; rintro e w2 ⟨rfl, hT2, hF2⟩))
  all_goals
    have HR := Aside0.mk (⟨hT2, (FrT.of_below tb hbw.out).trans hF2⟩ : Tk w0 tb _ w2 ∧ FrT tb w w2)
    clear hT2 hF2
    go_wp2_with fail
    go_end0
    exact ⟨rfl, HR.out⟩
end Go.Proofs.YthbinlnpipgobaaGreatDoor.Take
namespace Go.Proofs.YthbinlnpipgobaaGreatDoor.Take
set_option linter.unusedVariables false
set_option linter.unusedSimpArgs false
open Go.RowKit Go.Proofs.YthbinlnpipgobaaGreatDoorW.PrintWords Go.Proofs.YthbinlnpipgobaaGreatDoor.Keep Go.Proofs.YthbinlnpipgobaaGreatDoor.Env Go.Proofs.YthbinlnpipgobaaGreatDoor.Ast Go.Proofs.YthbinlnpipgobaaGreatDoor.Tree

theorem garg_pos {L n : Nat} (y : NL) (w : World) (v : Value) (h : GArg L n y w v) : 0 < y.length := by
  obtain ⟨_, _, _, _, _, _, _, _, _, _, _, _, _, rfl⟩ := h
  exact Nat.succ_pos _
theorem gfld_pos {L n : Nat} (y : NL) (w : World) (v : Value) (h : GFld L n y w v) : 0 < y.length := by
  obtain ⟨_, _, _, _, _, _, _, _, _, _, _, _, _, rfl⟩ := h
  exact Nat.succ_pos _
theorem gdir_pos {L n : Nat} (y : NL) (w : World) (v : Value) (h : GDir L n y w v) : 0 < y.length := by
  obtain ⟨_, _, _, _, _, _, _, _, _, _, _, _, _, rfl⟩ := h
  exact Nat.succ_pos _
set_option maxRecDepth 100000 in
set_option maxHeartbeats 4000000 in
theorem arg_body {L n : Nat} (hV : ValOk L n) (w0 w : World) (tb g bt bg : Nat) (xs : NL) (z : NL) (u : Value) (h3 : Cl2 L w0 g 3 u) (hz : GVal L n z w0 u) (hbt : Blk w bt 38 #[.pointer (some ⟨tb, 0, none⟩)]) (hbg : Blk w bg 232 #[ptr g]) (hT : Tk w0 tb xs w) (hN : (xs ++ z).length ≤ 200000) :
    Calls Tryz.prog 97 #[.pointer (some ⟨bt, 0, none⟩), .pointer (some ⟨bg, 0, none⟩)] w (TkPost w0 tb (xs ++ z) w) := by
  have hb := hT.below
  have c3 := pw_cell_below hb (cl2_cell h3)
  have q1 := (hbt.cell 0).trans rfl
  have q2 := (hbg.cell 0).trans rfl
  have HC := Aside0.mk (fun W (hW : Below w.heap.size w W) => hV w0 W tb xs z u hz (hT.of_below hW) hN)
  clear hT h3 hz hN hbt hbg hb
  unfold ptr at *
  go_enter Tryz.func97, Tryz.ntmps97
  go_wp2_with fail
  go_region_with (go_at_call 49; refine (HC.out _ (below_drew (Below.refl _ _))).mono ?_; rintro e w2 ⟨rfl, hT2, hF2⟩)
  all_goals
    have HR := Aside0.mk (⟨hT2, (FrT.refl tb w).drew.trans hF2⟩ : Tk w0 tb _ w2 ∧ FrT tb w w2)
    clear hT2 hF2
    go_wp2_with fail
    go_end0
    exact ⟨rfl, HR.out⟩
set_option maxRecDepth 100000 in
set_option maxHeartbeats 8000000 in
theorem args_loop {L n : Nat} (hV : ValOk L n) (w0 w : World) (tb : Nat) (xs : NL) (zs : List NL) (sv : Value) (hr : GRow L (GArg L n) zs w0 sv) (hT : Tk w0 tb xs w) (hN : (xs ++ zs.flatten).length ≤ 200000) :
    Calls Tryz.prog 51 #[.pointer (some ⟨tb, 0, none⟩), sv] w (TkPost w0 tb (xs ++ zs.flatten) w) := by
  have hfew : zs.length ≤ 200000 := by have h := grow_few garg_pos hr; rw [List.length_append] at hN; omega
  obtain ⟨A, c, rfl, hrow⟩ := hr
  have hb := hT.below
  have hbtne : w.heap.size ≠ tb := by obtain ⟨d, sp, h⟩ := hT; have := h.blk.lt; omega
  have HB0 := Aside0.mk (Blk.new w 38 #[.pointer (some ⟨tb, 0, none⟩)])
  have HF0 := Aside0.mk (FrT.of_below tb (below_alloc (Below.refl w.heap.size w) (.cells #[.pointer (some ⟨tb, 0, none⟩)] 38)))
  have HTS := Aside0.mk (hT.of_below (below_alloc (Below.refl w.heap.size w) (.cells #[.pointer (some ⟨tb, 0, none⟩)] 38)))
  have HROW := Aside0.mk hrow
  have HN := Aside0.mk hN
  clear hT hrow hN
  unfold ptr at *
  go_enter Tryz.func51, Tryz.ntmps51
  go_wp2_with fail
  go_loopw [8] (fun v9 wr => ∃ i : Nat, v9 = .int .i64 i ∧ i ≤ zs.length ∧ Aside0 (Tk w0 tb (xs ++ (zs.take i).flatten) wr ∧ FrT tb (w.alloc (.cells #[.pointer (some ⟨tb, 0, none⟩)] 38)) wr)) (fun v9 _ => zs.length - (intOf v9).toNat)
  case atStart => exact ⟨0, rfl, Nat.zero_le _, ⟨by simpa using HTS.out, FrT.refl _ _⟩⟩
  case round =>
    obtain ⟨i, rfl, him, HI⟩ := hrel
    by_cases hlt : i < zs.length
    · obtain ⟨z, hz⟩ : ∃ z, zs[i]? = some z := ⟨zs[i], List.getElem?_eq_getElem hlt⟩
      have hlti : (i : Int) < (zs.length : Int) := by omega
      have hr2 : ∃ b o x, A = some ⟨b, o, none⟩ ∧ Cl2 L w0 b (o + i) x ∧ (GArg L n) z w0 x := by
        rcases HROW.out with h | ⟨b, o, hA, h⟩
        · rw [h] at hlt; exact absurd hlt (by simp)
        · obtain ⟨x, h1, h2⟩ := h i z hz
          exact ⟨b, o, x, hA, h1, h2⟩
      obtain ⟨b, o, x, rfl, hc, hg⟩ := hr2
      have hbr := HI.out.1.below
      have cx := pw_cell_below hbr (cl2_cell hc)
      have hBt := HI.out.2.keep HB0.out hbtne (by decide) (by decide)
      have q3 := (hBt.cell 0).trans rfl
      have hltt : tb < wr.heap.size := by obtain ⟨d, sp, h⟩ := HI.out.1; exact h.blk.lt
      have hbt2 := hBt.lt
      have htl := take_len (xs := xs) (i + 1) HN.out
      rw [take_one hz, ← List.append_assoc] at htl
      obtain ⟨g, lv, nv, s, z2, u, rfl, h1, hl, h2, hn, h3, hz2, rfl⟩ := hg
      obtain ⟨lb, la, lc, rfl, l0, l1⟩ := hl
      have c1 := pw_cell_below hbr (cl2_cell h1)
      have cn := pw_cell_below hbr (cl2_cell h2)
      have hgl : g < wr.heap.size := World.block_lt_of_cell? wr _ c1
      have HX := Aside0.mk (fun W (hW : Below wr.heap.size wr W) => text_any hn (hbr.trans (hW.mono hbr.size)))
      have HP := Aside0.mk (fun W (hW : Below wr.heap.size wr W) (hB2 : Blk W wr.heap.size 232 #[ptr g]) =>
        put_arg w0 W tb lb (xs ++ (zs.take i).flatten) 9 0 la lc s emp emp w.heap.size wr.heap.size [z2] (fun w1 hT1 hF1 => by
          have h := arg_body hV w0 w1 tb g w.heap.size wr.heap.size _ z2 u h3 hz2 (hF1.keep (hBt.below hW hbt2) hbtne (by decide) (by decide)) (hF1.keep hB2 (by omega) (by decide) (by decide)) hT1 (by
            have h := htl
            simp only [List.length_append, nd_len, List.length_cons, List.length_nil, List.flatten_cons, List.flatten_nil] at h ⊢
            omega)
          rw [List.append_assoc, List.singleton_append] at h
          rw [show ([z2] : List NL).flatten = z2 by simp]; exact h) (HI.out.1.of_below hW) (cl2_cell l0) (cl2_cell l1) htl)
      obtain ⟨nb, rfl, _⟩ := hn
      clear hc l0 l1 hbr htl
      unfold ptr at *
      go_wp2_with fail
      have hbw := Aside0.mk (below_drew (below_alloc (Below.refl wr.heap.size wr) (.cells #[.pointer (some ⟨g, 0, none⟩)] 232)))
      have hB2 := Aside0.mk (Blk.new wr 232 #[.pointer (some ⟨g, 0, none⟩)]).drew
      have hB1 := Aside0.mk (hBt.below hbw.out hbt2)
      have HS4 := Aside0.mk (fun w2 (hF : FrT tb (wr.alloc (.cells #[.pointer (some ⟨g, 0, none⟩)] 232)).drew w2) (hb : Below w0.heap.size w0 w2) => (⟨((hF.keep hB1.out hbtne (by decide) (by decide)).cell 0).trans rfl, ((hF.keep hB2.out (by omega) (by decide) (by decide)).cell 0).trans rfl, pw_cell_below hb (cl2_cell h1), pw_cell_below hb (cl2_cell h2)⟩ : w2.cell? ⟨w.heap.size, 0, none⟩ = some (.pointer (some ⟨tb, 0, none⟩)) ∧ w2.cell? ⟨wr.heap.size, 0, none⟩ = some (.pointer (some ⟨g, 0, none⟩)) ∧ w2.cell? ⟨g, 1, none⟩ = some (.pointer (some ⟨lb, 0, none⟩)) ∧ w2.cell? ⟨g, 2, none⟩ = some (.pointer (some ⟨nb, 0, none⟩))))
      have HLI := Aside0.mk (⟨hlt, hfew⟩ : i < zs.length ∧ zs.length ≤ 200000)
      clear cx hlt hbt2 hltt hgl hlti hfew hBt h1 h2
      go_region_held3 (fun w' => w'.cell? ⟨w.heap.size, 0, none⟩ = some (.pointer (some ⟨tb, 0, none⟩)) ∧ w'.cell? ⟨wr.heap.size, 0, none⟩ = some (.pointer (some ⟨g, 0, none⟩)) ∧ w'.cell? ⟨g, 1, none⟩ = some (.pointer (some ⟨lb, 0, none⟩)) ∧ w'.cell? ⟨g, 2, none⟩ = some (.pointer (some ⟨nb, 0, none⟩))) (go_keep) (first | (go_at_call 24; refine (HX.out _ hbw.out).mono ?_; rintro e w2 ⟨rfl, rfl⟩) | (go_at_call 14; refine (HP.out _ hbw.out hB2.out).mono ?_; rintro e w2 ⟨rfl, hT2, hF2⟩; obtain ⟨k1, k2, k3, k4⟩ := HS4.out w2 hF2 hT2.below))
      all_goals
        have HS := Aside0.mk (⟨by rw [take_one hz, ← List.append_assoc]; exact hT2, HI.out.2.trans ((FrT.of_below tb hbw.out).trans hF2)⟩ : Tk w0 tb (xs ++ (zs.take (i + 1)).flatten) w2 ∧ FrT tb (w.alloc (.cells #[.pointer (some ⟨tb, 0, none⟩)] 38)) w2)
        clear hT2 hF2
        obtain ⟨hlt, hfew⟩ := HLI.out
        go_wp2_with fail
        go_roundw
        case rel => exact ⟨i + 1, by go_num, by omega, HS⟩
        case measure => simp [intOf]; omega
    · obtain rfl : i = zs.length := by omega
      have hge : ¬ (zs.length : Int) < (zs.length : Int) := by omega
      go_wp2_with fail
      go_end0
      refine ⟨rfl, ?_, HF0.out.trans HI.out.2⟩
      have h := HI.out.1
      rw [List.take_length] at h
      exact h
end Go.Proofs.YthbinlnpipgobaaGreatDoor.Take
namespace Go.Proofs.YthbinlnpipgobaaGreatDoor.Take
set_option linter.unusedVariables false
set_option linter.unusedSimpArgs false
open Go.RowKit Go.Proofs.YthbinlnpipgobaaGreatDoorW.PrintWords Go.Proofs.YthbinlnpipgobaaGreatDoor.Keep Go.Proofs.YthbinlnpipgobaaGreatDoor.Env Go.Proofs.YthbinlnpipgobaaGreatDoor.Ast Go.Proofs.YthbinlnpipgobaaGreatDoor.Tree

set_option maxRecDepth 100000 in
set_option maxHeartbeats 4000000 in
theorem dir_body {L n : Nat} (hA : ∀ (w0 w : World) (tb : Nat) (xs : NL) (zs : List NL) (sv : Value), GRow L (GArg L n) zs w0 sv → Tk w0 tb xs w → (xs ++ zs.flatten).length ≤ 200000 → Calls Tryz.prog 51 #[.pointer (some ⟨tb, 0, none⟩), sv] w (TkPost w0 tb (xs ++ zs.flatten) w)) (w0 w : World) (tb g bt bg : Nat) (xs : NL) (zz : List NL) (u : Value) (h3 : Cl2 L w0 g 3 u) (hz : GRow L (GArg L n) zz w0 u) (hbt : Blk w bt 38 #[.pointer (some ⟨tb, 0, none⟩)]) (hbg : Blk w bg 134 #[ptr g]) (hT : Tk w0 tb xs w) (hN : (xs ++ zz.flatten).length ≤ 200000) :
    Calls Tryz.prog 50 #[.pointer (some ⟨bt, 0, none⟩), .pointer (some ⟨bg, 0, none⟩)] w (TkPost w0 tb (xs ++ zz.flatten) w) := by
  have hb := hT.below
  have c3 := pw_cell_below hb (cl2_cell h3)
  have q1 := (hbt.cell 0).trans rfl
  have q2 := (hbg.cell 0).trans rfl
  have HC := Aside0.mk (fun W (hW : Below w.heap.size w W) => hA w0 W tb xs zz u hz (hT.of_below hW) hN)
  clear hT h3 hz hN hbt hbg hb
  unfold ptr at *
  go_enter Tryz.func50, Tryz.ntmps50
  go_wp2_with fail
  go_region_with (go_at_call 51; refine (HC.out _ (below_drew (Below.refl _ _))).mono ?_; rintro e w2 ⟨rfl, hT2, hF2⟩)
  all_goals
    have HR := Aside0.mk (⟨hT2, (FrT.refl tb w).drew.trans hF2⟩ : Tk w0 tb _ w2 ∧ FrT tb w w2)
    clear hT2 hF2
    go_wp2_with fail
    go_end0
    exact ⟨rfl, HR.out⟩
set_option maxRecDepth 100000 in
set_option maxHeartbeats 8000000 in
theorem dirs_loop {L n : Nat} (hA : ∀ (w0 w : World) (tb : Nat) (xs : NL) (zs : List NL) (sv : Value), GRow L (GArg L n) zs w0 sv → Tk w0 tb xs w → (xs ++ zs.flatten).length ≤ 200000 → Calls Tryz.prog 51 #[.pointer (some ⟨tb, 0, none⟩), sv] w (TkPost w0 tb (xs ++ zs.flatten) w)) (w0 w : World) (tb : Nat) (xs : NL) (zs : List NL) (sv : Value) (hr : GRowD L (GDir L n) zs w0 sv) (hT : Tk w0 tb xs w) (hN : (xs ++ zs.flatten).length ≤ 200000) :
    Calls Tryz.prog 27 #[.pointer (some ⟨tb, 0, none⟩), sv] w (TkPost w0 tb (xs ++ zs.flatten) w) := by
  have hfew : zs.length ≤ 200000 := by have h := growD_few gdir_pos hr; rw [List.length_append] at hN; omega
  obtain ⟨A, c, rfl, hrow⟩ := hr
  have hb := hT.below
  have hbtne : w.heap.size ≠ tb := by obtain ⟨d, sp, h⟩ := hT; have := h.blk.lt; omega
  have HB0 := Aside0.mk (Blk.new w 38 #[.pointer (some ⟨tb, 0, none⟩)])
  have HF0 := Aside0.mk (FrT.of_below tb (below_alloc (Below.refl w.heap.size w) (.cells #[.pointer (some ⟨tb, 0, none⟩)] 38)))
  have HTS := Aside0.mk (hT.of_below (below_alloc (Below.refl w.heap.size w) (.cells #[.pointer (some ⟨tb, 0, none⟩)] 38)))
  have HROW := Aside0.mk hrow
  have HN := Aside0.mk hN
  clear hT hrow hN
  unfold ptr at *
  go_enter Tryz.func27, Tryz.ntmps27
  go_wp2_with fail
  go_loopw [8] (fun v9 wr => ∃ i : Nat, v9 = .int .i64 i ∧ i ≤ zs.length ∧ Aside0 (Tk w0 tb (xs ++ (zs.take i).flatten) wr ∧ FrT tb (w.alloc (.cells #[.pointer (some ⟨tb, 0, none⟩)] 38)) wr)) (fun v9 _ => zs.length - (intOf v9).toNat)
  case atStart => exact ⟨0, rfl, Nat.zero_le _, ⟨by simpa using HTS.out, FrT.refl _ _⟩⟩
  case round =>
    obtain ⟨i, rfl, him, HI⟩ := hrel
    by_cases hlt : i < zs.length
    · obtain ⟨z, hz⟩ : ∃ z, zs[i]? = some z := ⟨zs[i], List.getElem?_eq_getElem hlt⟩
      have hlti : (i : Int) < (zs.length : Int) := by omega
      have hr2 : ∃ b o x, A = some ⟨b, o, none⟩ ∧ Cl L w0 b (o + i) x ∧ (GDir L n) z w0 x := by
        rcases HROW.out with h | ⟨b, o, hA, h⟩
        · rw [h] at hlt; exact absurd hlt (by simp)
        · obtain ⟨x, h1, h2⟩ := h i z hz
          exact ⟨b, o, x, hA, h1, h2⟩
      obtain ⟨b, o, x, rfl, hc, hg⟩ := hr2
      have hbr := HI.out.1.below
      have cx := pw_cell_below hbr (cl_cell hc)
      have hBt := HI.out.2.keep HB0.out hbtne (by decide) (by decide)
      have q3 := (hBt.cell 0).trans rfl
      have hltt : tb < wr.heap.size := by obtain ⟨d, sp, h⟩ := HI.out.1; exact h.blk.lt
      have hbt2 := hBt.lt
      have htl := take_len (xs := xs) (i + 1) HN.out
      rw [take_one hz, ← List.append_assoc] at htl
      obtain ⟨g, lv, nv, s, z2, u, rfl, h1, hl, h2, hn, h3, hz2, rfl⟩ := hg
      obtain ⟨lb, la, lc, rfl, l0, l1⟩ := hl
      have c1 := pw_cell_below hbr (cl2_cell h1)
      have cn := pw_cell_below hbr (cl2_cell h2)
      have hgl : g < wr.heap.size := World.block_lt_of_cell? wr _ c1
      have HX := Aside0.mk (fun W (hW : Below wr.heap.size wr W) => text_any hn (hbr.trans (hW.mono hbr.size)))
      have HP := Aside0.mk (fun W (hW : Below wr.heap.size wr W) (hB2 : Blk W wr.heap.size 134 #[ptr g]) =>
        put_dir w0 W tb lb (xs ++ (zs.take i).flatten) 10 0 la lc s emp emp w.heap.size wr.heap.size z2 (fun w1 hT1 hF1 => by
          have h := dir_body hA w0 w1 tb g w.heap.size wr.heap.size _ z2 u h3 hz2 (hF1.keep (hBt.below hW hbt2) hbtne (by decide) (by decide)) (hF1.keep hB2 (by omega) (by decide) (by decide)) hT1 (by
            have h := htl
            simp only [List.length_append, nd_len, List.length_cons, List.length_nil, List.flatten_cons, List.flatten_nil] at h ⊢
            omega)
          rw [List.append_assoc, List.singleton_append] at h
          exact h) (HI.out.1.of_below hW) (cl2_cell l0) (cl2_cell l1) htl)
      obtain ⟨nb, rfl, _⟩ := hn
      clear hc l0 l1 hbr htl
      unfold ptr at *
      go_wp2_with fail
      have hbw := Aside0.mk (below_drew (below_alloc (Below.refl wr.heap.size wr) (.cells #[.pointer (some ⟨g, 0, none⟩)] 134)))
      have hB2 := Aside0.mk (Blk.new wr 134 #[.pointer (some ⟨g, 0, none⟩)]).drew
      have hB1 := Aside0.mk (hBt.below hbw.out hbt2)
      have HS4 := Aside0.mk (fun w2 (hF : FrT tb (wr.alloc (.cells #[.pointer (some ⟨g, 0, none⟩)] 134)).drew w2) (hb : Below w0.heap.size w0 w2) => (⟨((hF.keep hB1.out hbtne (by decide) (by decide)).cell 0).trans rfl, ((hF.keep hB2.out (by omega) (by decide) (by decide)).cell 0).trans rfl, pw_cell_below hb (cl2_cell h1), pw_cell_below hb (cl2_cell h2)⟩ : w2.cell? ⟨w.heap.size, 0, none⟩ = some (.pointer (some ⟨tb, 0, none⟩)) ∧ w2.cell? ⟨wr.heap.size, 0, none⟩ = some (.pointer (some ⟨g, 0, none⟩)) ∧ w2.cell? ⟨g, 1, none⟩ = some (.pointer (some ⟨lb, 0, none⟩)) ∧ w2.cell? ⟨g, 2, none⟩ = some (.pointer (some ⟨nb, 0, none⟩))))
      have HLI := Aside0.mk (⟨hlt, hfew⟩ : i < zs.length ∧ zs.length ≤ 200000)
      clear cx hlt hbt2 hltt hgl hlti hfew hBt h1 h2
      go_region_held3 (fun w' => w'.cell? ⟨w.heap.size, 0, none⟩ = some (.pointer (some ⟨tb, 0, none⟩)) ∧ w'.cell? ⟨wr.heap.size, 0, none⟩ = some (.pointer (some ⟨g, 0, none⟩)) ∧ w'.cell? ⟨g, 1, none⟩ = some (.pointer (some ⟨lb, 0, none⟩)) ∧ w'.cell? ⟨g, 2, none⟩ = some (.pointer (some ⟨nb, 0, none⟩))) (go_keep) (first | (go_at_call 24; refine (HX.out _ hbw.out).mono ?_; rintro e w2 ⟨rfl, rfl⟩) | (go_at_call 14; refine (HP.out _ hbw.out hB2.out).mono ?_; rintro e w2 ⟨rfl, hT2, hF2⟩; obtain ⟨k1, k2, k3, k4⟩ := HS4.out w2 hF2 hT2.below))
      all_goals
        have HS := Aside0.mk (⟨by rw [take_one hz, ← List.append_assoc]; exact hT2, HI.out.2.trans ((FrT.of_below tb hbw.out).trans hF2)⟩ : Tk w0 tb (xs ++ (zs.take (i + 1)).flatten) w2 ∧ FrT tb (w.alloc (.cells #[.pointer (some ⟨tb, 0, none⟩)] 38)) w2)
        clear hT2 hF2
        obtain ⟨hlt, hfew⟩ := HLI.out
        go_wp2_with fail
        go_roundw
        case rel => exact ⟨i + 1, by go_num, by omega, HS⟩
        case measure => simp [intOf]; omega
    · obtain rfl : i = zs.length := by omega
      have hge : ¬ (zs.length : Int) < (zs.length : Int) := by omega
      go_wp2_with fail
      go_end0
      refine ⟨rfl, ?_, HF0.out.trans HI.out.2⟩
      have h := HI.out.1
      rw [List.take_length] at h
      exact h
end Go.Proofs.YthbinlnpipgobaaGreatDoor.Take
namespace Go.Proofs.YthbinlnpipgobaaGreatDoor.Take
set_option linter.unusedVariables false
set_option linter.unusedSimpArgs false
open Go.RowKit Go.Proofs.YthbinlnpipgobaaGreatDoorW.PrintWords Go.Proofs.YthbinlnpipgobaaGreatDoor.Keep Go.Proofs.YthbinlnpipgobaaGreatDoor.Env Go.Proofs.YthbinlnpipgobaaGreatDoor.Ast Go.Proofs.YthbinlnpipgobaaGreatDoor.Tree

set_option maxRecDepth 100000 in
set_option maxHeartbeats 4000000 in
theorem fld_body {L n : Nat} (hV : ValOk L n) (w0 w : World) (tb g bt bg : Nat) (xs : NL) (z : NL) (u : Value) (h3 : Cl2 L w0 g 3 u) (hz : GVal L n z w0 u) (hbt : Blk w bt 38 #[.pointer (some ⟨tb, 0, none⟩)]) (hbg : Blk w bg 229 #[ptr g]) (hT : Tk w0 tb xs w) (hN : (xs ++ z).length ≤ 200000) :
    Calls Tryz.prog 96 #[.pointer (some ⟨bt, 0, none⟩), .pointer (some ⟨bg, 0, none⟩)] w (TkPost w0 tb (xs ++ z) w) := by
  have hb := hT.below
  have c3 := pw_cell_below hb (cl2_cell h3)
  have q1 := (hbt.cell 0).trans rfl
  have q2 := (hbg.cell 0).trans rfl
  have HC := Aside0.mk (fun W (hW : Below w.heap.size w W) => hV w0 W tb xs z u hz (hT.of_below hW) hN)
  clear hT h3 hz hN hbt hbg hb
  unfold ptr at *
  go_enter Tryz.func96, Tryz.ntmps96
  go_wp2_with fail
  go_region_with (go_at_call 49; refine (HC.out _ (below_drew (Below.refl _ _))).mono ?_; rintro e w2 ⟨rfl, hT2, hF2⟩)
  all_goals
    have HR := Aside0.mk (⟨hT2, (FrT.refl tb w).drew.trans hF2⟩ : Tk w0 tb _ w2 ∧ FrT tb w w2)
    clear hT2 hF2
    go_wp2_with fail
    go_end0
    exact ⟨rfl, HR.out⟩
set_option maxRecDepth 100000 in
set_option maxHeartbeats 8000000 in
theorem flds_loop {L n : Nat} (hV : ValOk L n) (w0 w : World) (tb : Nat) (xs : NL) (zs : List NL) (gv bv bt : Nat) (sv : Value) (hc2 : Cl2 L w0 gv 2 sv) (hbv : Blk w bv 225 #[ptr gv]) (hbt0 : Blk w bt 38 #[.pointer (some ⟨tb, 0, none⟩)]) (hne : bv ≠ tb ∧ bt ≠ tb) (hr : GRow L (GFld L n) zs w0 sv) (hT : Tk w0 tb xs w) (hN : (xs ++ zs.flatten).length ≤ 200000) :
    Calls Tryz.prog 95 #[.pointer (some ⟨bv, 0, none⟩), .pointer (some ⟨bt, 0, none⟩)] w (TkPost w0 tb (xs ++ zs.flatten) w) := by
  have hfew : zs.length ≤ 200000 := by have h := grow_few gfld_pos hr; rw [List.length_append] at hN; omega
  obtain ⟨A, c, rfl, hrow⟩ := hr
  have hb := hT.below
  have c2 := pw_cell_below hb (cl2_cell hc2)
  have q1 := (hbv.cell 0).trans rfl
  have q2 := (hbt0.cell 0).trans rfl
  have hbtne := hne.2
  have HB0 := Aside0.mk hbt0
  have HF0 := Aside0.mk (FrT.refl tb w)
  have HTS := Aside0.mk hT
  have HROW := Aside0.mk hrow
  have HN := Aside0.mk hN
  clear hT hrow hN hc2 hbv hbt0 hne
  unfold ptr at *
  go_enter Tryz.func95, Tryz.ntmps95
  go_wp2_with fail
  go_loopw [9] (fun v9 wr => ∃ i : Nat, v9 = .int .i64 i ∧ i ≤ zs.length ∧ Aside0 (Tk w0 tb (xs ++ (zs.take i).flatten) wr ∧ FrT tb w wr)) (fun v9 _ => zs.length - (intOf v9).toNat)
  case atStart => exact ⟨0, rfl, Nat.zero_le _, ⟨by simpa using HTS.out, FrT.refl _ _⟩⟩
  case round =>
    obtain ⟨i, rfl, him, HI⟩ := hrel
    by_cases hlt : i < zs.length
    · obtain ⟨z, hz⟩ : ∃ z, zs[i]? = some z := ⟨zs[i], List.getElem?_eq_getElem hlt⟩
      have hlti : (i : Int) < (zs.length : Int) := by omega
      have hr2 : ∃ b o x, A = some ⟨b, o, none⟩ ∧ Cl2 L w0 b (o + i) x ∧ (GFld L n) z w0 x := by
        rcases HROW.out with h | ⟨b, o, hA, h⟩
        · rw [h] at hlt; exact absurd hlt (by simp)
        · obtain ⟨x, h1, h2⟩ := h i z hz
          exact ⟨b, o, x, hA, h1, h2⟩
      obtain ⟨b, o, x, rfl, hc, hg⟩ := hr2
      have hbr := HI.out.1.below
      have cx := pw_cell_below hbr (cl2_cell hc)
      have hBt := HI.out.2.keep HB0.out hbtne (by decide) (by decide)
      have q3 := (hBt.cell 0).trans rfl
      have hltt : tb < wr.heap.size := by obtain ⟨d, sp, h⟩ := HI.out.1; exact h.blk.lt
      have hbt2 := hBt.lt
      have htl := take_len (xs := xs) (i + 1) HN.out
      rw [take_one hz, ← List.append_assoc] at htl
      obtain ⟨g, lv, nv, s, z2, u, rfl, h1, hl, h2, hn, h3, hz2, rfl⟩ := hg
      obtain ⟨lb, la, lc, rfl, l0, l1⟩ := hl
      have c1 := pw_cell_below hbr (cl2_cell h1)
      have cn := pw_cell_below hbr (cl2_cell h2)
      have hgl : g < wr.heap.size := World.block_lt_of_cell? wr _ c1
      have HX := Aside0.mk (fun W (hW : Below wr.heap.size wr W) => text_any hn (hbr.trans (hW.mono hbr.size)))
      have HP := Aside0.mk (fun W (hW : Below wr.heap.size wr W) (hB2 : Blk W wr.heap.size 229 #[ptr g]) =>
        put_fld w0 W tb lb (xs ++ (zs.take i).flatten) 19 0 la lc s emp emp bt wr.heap.size [z2] (fun w1 hT1 hF1 => by
          have h := fld_body hV w0 w1 tb g bt wr.heap.size _ z2 u h3 hz2 (hF1.keep (hBt.below hW hbt2) hbtne (by decide) (by decide)) (hF1.keep hB2 (by omega) (by decide) (by decide)) hT1 (by
            have h := htl
            simp only [List.length_append, nd_len, List.length_cons, List.length_nil, List.flatten_cons, List.flatten_nil] at h ⊢
            omega)
          rw [List.append_assoc, List.singleton_append] at h
          rw [show ([z2] : List NL).flatten = z2 by simp]; exact h) (HI.out.1.of_below hW) (cl2_cell l0) (cl2_cell l1) htl)
      obtain ⟨nb, rfl, _⟩ := hn
      clear hc l0 l1 hbr htl
      unfold ptr at *
      go_wp2_with fail
      have hbw := Aside0.mk (below_drew (below_alloc (Below.refl wr.heap.size wr) (.cells #[.pointer (some ⟨g, 0, none⟩)] 229)))
      have hB2 := Aside0.mk (Blk.new wr 229 #[.pointer (some ⟨g, 0, none⟩)]).drew
      have hB1 := Aside0.mk (hBt.below hbw.out hbt2)
      have HS4 := Aside0.mk (fun w2 (hF : FrT tb (wr.alloc (.cells #[.pointer (some ⟨g, 0, none⟩)] 229)).drew w2) (hb : Below w0.heap.size w0 w2) => (⟨((hF.keep hB1.out hbtne (by decide) (by decide)).cell 0).trans rfl, ((hF.keep hB2.out (by omega) (by decide) (by decide)).cell 0).trans rfl, pw_cell_below hb (cl2_cell h1), pw_cell_below hb (cl2_cell h2)⟩ : w2.cell? ⟨bt, 0, none⟩ = some (.pointer (some ⟨tb, 0, none⟩)) ∧ w2.cell? ⟨wr.heap.size, 0, none⟩ = some (.pointer (some ⟨g, 0, none⟩)) ∧ w2.cell? ⟨g, 2, none⟩ = some (.pointer (some ⟨lb, 0, none⟩)) ∧ w2.cell? ⟨g, 1, none⟩ = some (.pointer (some ⟨nb, 0, none⟩))))
      have HLI := Aside0.mk (⟨hlt, hfew⟩ : i < zs.length ∧ zs.length ≤ 200000)
      clear cx hlt hbt2 hltt hgl hlti hfew hBt h1 h2
      go_region_held3 (fun w' => w'.cell? ⟨bt, 0, none⟩ = some (.pointer (some ⟨tb, 0, none⟩)) ∧ w'.cell? ⟨wr.heap.size, 0, none⟩ = some (.pointer (some ⟨g, 0, none⟩)) ∧ w'.cell? ⟨g, 2, none⟩ = some (.pointer (some ⟨lb, 0, none⟩)) ∧ w'.cell? ⟨g, 1, none⟩ = some (.pointer (some ⟨nb, 0, none⟩))) (go_keep) (first | (go_at_call 24; refine (HX.out _ hbw.out).mono ?_; rintro e w2 ⟨rfl, rfl⟩) | (go_at_call 14; refine (HP.out _ hbw.out hB2.out).mono ?_; rintro e w2 ⟨rfl, hT2, hF2⟩; obtain ⟨k1, k2, k3, k4⟩ := HS4.out w2 hF2 hT2.below))
      all_goals
        have HS := Aside0.mk (⟨by rw [take_one hz, ← List.append_assoc]; exact hT2, HI.out.2.trans ((FrT.of_below tb hbw.out).trans hF2)⟩ : Tk w0 tb (xs ++ (zs.take (i + 1)).flatten) w2 ∧ FrT tb w w2)
        clear hT2 hF2
        obtain ⟨hlt, hfew⟩ := HLI.out
        go_wp2_with fail
        go_roundw
        case rel => exact ⟨i + 1, by go_num, by omega, HS⟩
        case measure => simp [intOf]; omega
    · obtain rfl : i = zs.length := by omega
      have hge : ¬ (zs.length : Int) < (zs.length : Int) := by omega
      go_wp2_with fail
      go_end0
      refine ⟨rfl, ?_, HF0.out.trans HI.out.2⟩
      have h := HI.out.1
      rw [List.take_length] at h
      exact h
end Go.Proofs.YthbinlnpipgobaaGreatDoor.Take
namespace Go.Proofs.YthbinlnpipgobaaGreatDoor.Take
set_option linter.unusedVariables false
set_option linter.unusedSimpArgs false
open Go.RowKit Go.Proofs.YthbinlnpipgobaaGreatDoorW.PrintWords Go.Proofs.YthbinlnpipgobaaGreatDoor.Keep Go.Proofs.YthbinlnpipgobaaGreatDoor.Env Go.Proofs.YthbinlnpipgobaaGreatDoor.Ast Go.Proofs.YthbinlnpipgobaaGreatDoor.Tree

set_option maxRecDepth 100000 in
set_option maxHeartbeats 8000000 in
theorem tkv_7 {L n : Nat} (hV : ValOk L n) (w0 w : World) (tb g : Nat) (xs : NL) (zs : List NL) (lv sv : Value) (h2 : Cl2 L w0 g 2 sv) (hr : GRow L (GFld L n) zs w0 sv) (hT : Tk w0 tb xs w) (h1 : Cl2 L w0 g 1 lv) (hl : GLoc L w0 lv) (hN : (xs ++ nd 18 emp emp emp 0 zs).length ≤ 200000) :
    Calls Tryz.prog 49 #[.pointer (some ⟨tb, 0, none⟩), .iface 225 (ptr g)] w (TkPost w0 tb (xs ++ nd 18 emp emp emp 0 zs) w) := by
  obtain ⟨lb, la, lc, rfl, l0, l1⟩ := hl
  have hb := hT.below
  have hbs := hT.base
  have htb : tb < w.heap.size := by obtain ⟨d, sp, h⟩ := hT; exact h.blk.lt
  have c1 := pw_cell_below hb (cl2_cell h1)
  have hgl : g < w.heap.size := World.block_lt_of_cell? w _ c1
  have HP := Aside0.mk (fun W (hW : Below w.heap.size w W) (hB1 : Blk W w.heap.size 38 #[.pointer (some ⟨tb, 0, none⟩)]) (hB2 : Blk W (w.heap.size + 1) 225 #[ptr g]) =>
    put_obj w0 W tb lb xs 18 0 la lc emp emp emp (w.heap.size + 1) w.heap.size zs (fun w1 hT1 hF1 => by
      have h := flds_loop hV w0 w1 tb _ zs g (w.heap.size + 1) w.heap.size sv h2 (hF1.keep hB2 (by omega) (by decide) (by decide)) (hF1.keep hB1 (by omega) (by decide) (by decide)) ⟨by omega, by omega⟩ hr hT1 (by rw [List.length_append] at hN ⊢; rw [nd_len] at hN; rw [List.length_append]; simp only [List.length_cons, List.length_nil]; omega)
      rw [List.append_assoc, List.singleton_append] at h
      exact h) (hT.of_below hW) (cl2_cell l0) (cl2_cell l1) hN)
  have a0 := tv_7_0 (.pointer (some ⟨g, 0, none⟩))
  have a1 := tv_7_1 (.pointer (some ⟨g, 0, none⟩))
  have a2 := tv_7_2 (.pointer (some ⟨g, 0, none⟩))
  have a3 := tv_7_3 (.pointer (some ⟨g, 0, none⟩))
  have a4 := tv_7_4 (.pointer (some ⟨g, 0, none⟩))
  have a5 := tv_7_5 (.pointer (some ⟨g, 0, none⟩))
  have a6 := tv_7_6 (.pointer (some ⟨g, 0, none⟩))
  have a7 := tv_7_7 (.pointer (some ⟨g, 0, none⟩))
  clear hT h1 h2 hr l0 l1 hN hb
  unfold ptr at *
  go_enter Tryz.func49, Tryz.ntmps49
  go_wp2_with fail
  have hbw := Aside0.mk (below_drew (below_alloc (below_alloc (Below.refl w.heap.size w) (.cells #[.pointer (some ⟨tb, 0, none⟩)] 38)) (.cells #[.pointer (some ⟨g, 0, none⟩)] 225)))
  have hB1 := Aside0.mk ((Blk.new w 38 #[.pointer (some ⟨tb, 0, none⟩)]).alloc (.cells #[.pointer (some ⟨g, 0, none⟩)] 225)).drew
  have hB2 := Aside0.mk (Blk.new (w.alloc (.cells #[.pointer (some ⟨tb, 0, none⟩)] 38)) 225 #[.pointer (some ⟨g, 0, none⟩)]).drew
  rw [World.size_alloc] at hB2
  go_region_with (go_at_call 14; refine (HP.out _ hbw.out hB1.out hB2.out).mono ?_; rintro e w2 ⟨rfl, hT2, hF2⟩)
  all_goals
    have HR := Aside0.mk (⟨hT2, (FrT.of_below tb hbw.out).trans hF2⟩ : Tk w0 tb _ w2 ∧ FrT tb w w2)
    clear hT2 hF2
    go_wp2_with fail
    go_end0
    exact ⟨rfl, HR.out⟩
end Go.Proofs.YthbinlnpipgobaaGreatDoor.Take
