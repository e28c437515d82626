import Derived.Test.YtjoagdldbmlenaaGreatDoorVF3
import Derived.Test.YtjoagdldbmlenaaGreatDoorVF2
import Derived.Deep.RegionHeld3
import Derived.Test.YtjoagdldbmlenaaGreatDoorVD7
set_option maxRecDepth 100000
set_option maxHeartbeats 8000000
set_option linter.unusedVariables false
set_option linter.unusedSimpArgs false
namespace Go.Proofs.YtjoagdldbmlenaaGreatDoor.Take
open Go.RowKit Go.Proofs.YtjoagdldbmlenaaGreatDoorW.PrintWords Keep Env Ast Tree
theorem take_one {zs : List NL} {i : Nat} {z : NL} (h : zs[i]? = some z) : (zs.take (i + 1)).flatten = (zs.take i).flatten ++ z := by
 rw [List.take_add_one, h]
 simp
theorem take_len {zs : List NL} {xs : NL} (i : Nat) (hN : (xs ++ zs.flatten).length ≤ 200000) : (xs ++ (zs.take i).flatten).length ≤ 200000 := by
 have h : zs.flatten = (zs.take i).flatten ++ (zs.drop i).flatten := by rw [← List.flatten_append, List.take_append_drop]
 rw [h] at hN
 simp only [List.length_append] at *
 omega
theorem row_few {zs : List NL} (h : ∀ (i : Nat) (z : NL), zs[i]? = some z → 0 < z.length) : zs.length ≤ zs.flatten.length := by
 induction zs with
 | nil => simp
 | cons z zs ih =>
  have h1 := h 0 z (by simp)
  have h2 := ih fun i z hz => h (i + 1) z (by simpa using hz)
  rw [List.flatten_cons, List.length_append, List.length_cons]
  omega
theorem gval_pos {L n : Nat} {y : NL} {w : World} {v : Value} (h : GVal L n y w v) : 0 < y.length := by
 cases n with
 | zero => cases h
 | succ n =>
  obtain ⟨g, lv, _, _, h⟩ := h
  rcases h with ⟨_, _, _, _, _, rfl⟩ | ⟨_, _, _, rfl⟩ | ⟨_, _, _, rfl⟩ | ⟨_, _, _, rfl⟩ | ⟨_, _, _, rfl⟩ | ⟨_, _, _, rfl⟩ | ⟨_, _, _, _, _, rfl⟩ | ⟨_, _, _, _, _, rfl⟩ <;> exact Nat.succ_pos _
theorem grow_few {L : Nat} {P : NL → World → Value → Prop} {zs : List NL} {w : World} {v : Value} (hP : ∀ y w v, P y w v → 0 < y.length) (h : GRow L P zs w v) : zs.length ≤ zs.flatten.length := by
 obtain ⟨A, c, _, h⟩ := h
 rcases h with rfl | ⟨b, o, _, h⟩
 ·simp
 ·exact row_few fun i z hz => by obtain ⟨x, _, hp⟩ := h i z hz; exact hP _ _ _ hp
theorem growD_few {L : Nat} {P : NL → World → Value → Prop} {zs : List NL} {w : World} {v : Value} (hP : ∀ y w v, P y w v → 0 < y.length) (h : GRowD L P zs w v) : zs.length ≤ zs.flatten.length := by
 obtain ⟨A, c, _, h⟩ := h
 rcases h with rfl | ⟨b, o, _, h⟩
 ·simp
 ·exact row_few fun i z hz => by obtain ⟨x, _, hp⟩ := h i z hz; exact hP _ _ _ hp
def ValOk (L n : Nat) : Prop := ∀ (w0 w : World) (tb : Nat) (xs y : NL) (v : Value), GVal L n y w0 v → Tk w0 tb xs w → (xs ++ y).length ≤ 200000 → Calls Tryz.prog 43 #[.pointer (some ⟨tb, 0, none⟩), v] w (TkPost w0 tb (xs ++ y) w)
theorem list_loop {L n : Nat} (hV : ValOk L n) (w0 w : World) (tb g bv bt : Nat) (xs : NL) (zs : List NL) (sv : Value) (h2 : Cl2 L w0 g 2 sv) (hr : GRow L (GVal L n) zs w0 sv) (hbv : Blk w bv 136 #[ptr g]) (hbt : Blk w bt 35 #[.pointer (some ⟨tb, 0, none⟩)]) (hne : bv ≠ tb ∧ bt ≠ tb) (hT : Tk w0 tb xs w) (hN : (xs ++ zs.flatten).length ≤ 200000) :
  Calls Tryz.prog 63 #[.pointer (some ⟨bv, 0, none⟩), .pointer (some ⟨bt, 0, none⟩)] w (TkPost w0 tb (xs ++ zs.flatten) w) := by
 have hfew : zs.length ≤ 200000 := by have h := grow_few (fun _ _ _ h => gval_pos h) hr; rw [List.length_append] at hN; omega
 obtain ⟨A, c, rfl, hrow⟩ := hr
 have hb := hT.below
 have c2 := pw_cell_below hb (cl2_cell h2)
 have q1 := (hbv.cell 0).trans rfl
 have q2 := (hbt.cell 0).trans rfl
 have HT := aK hT
 have HBT := aK hbt
 have HROW := aK hrow
 have HN := aK hN
 clear hT hrow h2 hN hbv hbt
 unfold ptr at *
 go_enter Tryz.func63, Tryz.ntmps63
 go_wp2_with fail
 go_loopw [9] (fun v9 wr => ∃ i : Nat, v9 = .int .i64 i ∧ i ≤ zs.length ∧ Aside0 (Tk w0 tb (xs ++ (zs.take i).flatten) wr ∧ FrT tb w wr)) (fun v9 _ => zs.length - (intOf v9).toNat)
 case atStart => exact ⟨0, rfl, Nat.zero_le _, ⟨by simpa using HT.out, FrT.refl _ _⟩⟩
 case round =>
  obtain ⟨i, rfl, him, HI⟩ := hrel
  by_cases hlt : i < zs.length
  ·obtain ⟨z, hz⟩ : ∃ z, zs[i]? = some z := ⟨zs[i], List.getElem?_eq_getElem hlt⟩
   have hlti : (i : Int) < (zs.length : Int) := by omega
   have hr2 : ∃ b o x, A = some ⟨b, o, none⟩ ∧ Cl2 L w0 b (o + i) x ∧ GVal L n z w0 x := by
    rcases HROW.out with h | ⟨b, o, hA, h⟩
    ·rw [h] at hlt; exact absurd hlt (by simp)
    ·obtain ⟨x, h1, h2⟩ := h i z hz
     exact ⟨b, o, x, hA, h1, h2⟩
   obtain ⟨b, o, x, rfl, hc, hg⟩ := hr2
   have cx := pw_cell_below HI.out.1.below (cl2_cell hc)
   have q3 := ((HI.out.2.keep HBT.out hne.2 (by decide) (by decide)).cell 0).trans rfl
   have HC := aK (fun W (hW : Below wr.heap.size wr W) => hV w0 W tb _ z x hg (HI.out.1.of_below hW) (by
    have h := take_len (xs := xs) (i + 1) HN.out
    rw [take_one hz, ← List.append_assoc] at h
    exact h))
   clear hc hg
   go_wp2_with fail
   refine (HC.out _ (Below.refl _ _)).mono ?_
   rintro e w2 ⟨rfl, hT2, hF2⟩
   have HS := aK (⟨by rw [take_one hz, ← List.append_assoc]; exact hT2, HI.out.2.trans hF2⟩ : Tk w0 tb (xs ++ (zs.take (i + 1)).flatten) w2 ∧ FrT tb w w2)
   clear hT2 hF2
   go_wp2_with fail
   go_roundw
   case rel => exact ⟨i + 1, by go_num, by omega, HS⟩
   case measure => simp [intOf]; omega
  ·obtain rfl : i = zs.length := by omega
   have hge : ¬ (zs.length : Int) < (zs.length : Int) := by omega
   go_wp2_with fail
   go_end0
   refine ⟨rfl, ?_, HI.out.2⟩
   have h := HI.out.1
   rw [List.take_length] at h
   exact h
theorem tkv_6 {L n : Nat} (hV : ValOk L n) (w0 w : World) (tb g : Nat) (xs : NL) (zs : List NL) (lv sv : Value) (h2 : Cl2 L w0 g 2 sv) (hr : GRow L (GVal L n) zs w0 sv) (hT : Tk w0 tb xs w) (h1 : Cl2 L w0 g 1 lv) (hl : GLoc L w0 lv) (hN : (xs ++ nd 17 emp emp emp 0 zs).length ≤ 200000) :
  Calls Tryz.prog 43 #[.pointer (some ⟨tb, 0, none⟩), .iface 136 (ptr g)] w (TkPost w0 tb (xs ++ nd 17 emp emp emp 0 zs) w) := by
 obtain ⟨lb, la, lc, rfl, l0, l1⟩ := hl
 have hb := hT.below
 have hbs := hT.base
 have htb : tb < w.heap.size := by obtain ⟨d, sp, h⟩ := hT; exact h.blk.lt
 have c1 := pw_cell_below hb (cl2_cell h1)
 have hgl : g < w.heap.size := World.block_lt_of_cell? w _ c1
 have HP := aK (fun W (hW : Below w.heap.size w W) (hB1 : Blk W w.heap.size 35 #[.pointer (some ⟨tb, 0, none⟩)]) (hB2 : Blk W (w.heap.size + 1) 136 #[ptr g]) =>
  put_fn 63 (.inl rfl) w0 W tb lb xs 17 0 la lc emp emp emp (w.heap.size + 1) w.heap.size zs (fun w1 hT1 hF1 => by
   have h := list_loop hV w0 w1 tb g (w.heap.size + 1) w.heap.size _ zs sv h2 hr (hF1.keep hB2 (by omega) (by decide) (by decide)) (hF1.keep hB1 (by omega) (by decide) (by decide)) ⟨by omega, by omega⟩ hT1 (by rw [List.length_append] at hN ⊢; rw [nd_len] at hN; rw [List.length_append]; simp only [List.length_cons, List.length_nil]; omega)
   rw [List.append_assoc, List.singleton_append] at h
   exact h) (hT.of_below hW) (cl2_cell l0) (cl2_cell l1) hN)
 have a0 := tv_6_0 (.pointer (some ⟨g, 0, none⟩))
 have a1 := tv_6_1 (.pointer (some ⟨g, 0, none⟩))
 have a2 := tv_6_2 (.pointer (some ⟨g, 0, none⟩))
 have a3 := tv_6_3 (.pointer (some ⟨g, 0, none⟩))
 have a4 := tv_6_4 (.pointer (some ⟨g, 0, none⟩))
 have a5 := tv_6_5 (.pointer (some ⟨g, 0, none⟩))
 have a6 := tv_6_6 (.pointer (some ⟨g, 0, none⟩))
 clear hT h1 h2 hr l0 l1 hN hb
 unfold ptr at *
 go_enter Tryz.func43, Tryz.ntmps43
 go_wp2_with fail
 have hbw := aK (below_drew (below_alloc (below_alloc (Below.refl w.heap.size w) (.cells #[.pointer (some ⟨tb, 0, none⟩)] 35)) (.cells #[.pointer (some ⟨g, 0, none⟩)] 136)))
 have hB1 := aK ((Blk.new w 35 #[.pointer (some ⟨tb, 0, none⟩)]).alloc (.cells #[.pointer (some ⟨g, 0, none⟩)] 136)).drew
 have hB2 := aK (Blk.new (w.alloc (.cells #[.pointer (some ⟨tb, 0, none⟩)] 35)) 136 #[.pointer (some ⟨g, 0, none⟩)]).drew
 rw [World.size_alloc] at hB2
 go_region_with (go_at_call 21; refine (HP.out _ hbw.out hB1.out hB2.out).mono ?_; rintro e w2 ⟨rfl, hT2, hF2⟩)
 all_goals
  have HR := aK (⟨hT2, (FrT.of_below tb hbw.out).trans hF2⟩ : Tk w0 tb _ w2 ∧ FrT tb w w2)
  clear hT2 hF2
  go_wp2_with fail
  go_end0
  exact ⟨rfl, HR.out⟩
theorem garg_pos {L n : Nat} (y : NL) (w : World) (v : Value) (h : GArg L n y w v) : 0 < y.length := by
 obtain ⟨_, _, _, _, _, _, _, _, _, _, _, _, _, rfl⟩ := h
 exact Nat.succ_pos _
theorem gfld_pos {L n : Nat} (y : NL) (w : World) (v : Value) (h : GFld L n y w v) : 0 < y.length := by
 obtain ⟨_, _, _, _, _, _, _, _, _, _, _, _, _, rfl⟩ := h
 exact Nat.succ_pos _
theorem gdir_pos {L n : Nat} (y : NL) (w : World) (v : Value) (h : GDir L n y w v) : 0 < y.length := by
 obtain ⟨_, _, _, _, _, _, _, _, _, _, _, _, _, rfl⟩ := h
 exact Nat.succ_pos _
theorem arg_body {L n : Nat} (hV : ValOk L n) (w0 w : World) (tb g bt bg : Nat) (xs : NL) (z : NL) (u : Value) (h3 : Cl2 L w0 g 3 u) (hz : GVal L n z w0 u) (hbt : Blk w bt 35 #[.pointer (some ⟨tb, 0, none⟩)]) (hbg : Blk w bg 101 #[ptr g]) (hT : Tk w0 tb xs w) (hN : (xs ++ z).length ≤ 200000) :
  Calls Tryz.prog 42 #[.pointer (some ⟨bt, 0, none⟩), .pointer (some ⟨bg, 0, none⟩)] w (TkPost w0 tb (xs ++ z) w) := by
 have hb := hT.below
 have c3 := pw_cell_below hb (cl2_cell h3)
 have q1 := (hbt.cell 0).trans rfl
 have q2 := (hbg.cell 0).trans rfl
 have HC := aK (fun W (hW : Below w.heap.size w W) => hV w0 W tb xs z u hz (hT.of_below hW) hN)
 clear hT h3 hz hN hbt hbg hb
 unfold ptr at *
 go_enter Tryz.func42, Tryz.ntmps42
 go_wp2_with fail
 go_region_with (go_at_call 43; refine (HC.out _ (below_drew (Below.refl _ _))).mono ?_; rintro e w2 ⟨rfl, hT2, hF2⟩)
 all_goals
  have HR := aK (⟨hT2, (FrT.refl tb w).drew.trans hF2⟩ : Tk w0 tb _ w2 ∧ FrT tb w w2)
  clear hT2 hF2
  go_wp2_with fail
  go_end0
  exact ⟨rfl, HR.out⟩
theorem args_loop {L n : Nat} (hV : ValOk L n) (w0 w : World) (tb : Nat) (xs : NL) (zs : List NL) (sv : Value) (hr : GRow L (GArg L n) zs w0 sv) (hT : Tk w0 tb xs w) (hN : (xs ++ zs.flatten).length ≤ 200000) :
  Calls Tryz.prog 24 #[.pointer (some ⟨tb, 0, none⟩), sv] w (TkPost w0 tb (xs ++ zs.flatten) w) := by
 have hfew : zs.length ≤ 200000 := by have h := grow_few garg_pos hr; rw [List.length_append] at hN; omega
 obtain ⟨A, c, rfl, hrow⟩ := hr
 have hb := hT.below
 have hbtne : w.heap.size ≠ tb := by obtain ⟨d, sp, h⟩ := hT; have := h.blk.lt; omega
 have HB0 := aK (Blk.new w 35 #[.pointer (some ⟨tb, 0, none⟩)])
 have HF0 := aK (FrT.of_below tb (below_alloc (Below.refl w.heap.size w) (.cells #[.pointer (some ⟨tb, 0, none⟩)] 35)))
 have HTS := aK (hT.of_below (below_alloc (Below.refl w.heap.size w) (.cells #[.pointer (some ⟨tb, 0, none⟩)] 35)))
 have HROW := aK hrow
 have HN := aK hN
 clear hT hrow hN
 unfold ptr at *
 go_enter Tryz.func24, Tryz.ntmps24
 go_wp2_with fail
 go_loopw [8] (fun v9 wr => ∃ i : Nat, v9 = .int .i64 i ∧ i ≤ zs.length ∧ Aside0 (Tk w0 tb (xs ++ (zs.take i).flatten) wr ∧ FrT tb (w.alloc (.cells #[.pointer (some ⟨tb, 0, none⟩)] 35)) wr)) (fun v9 _ => zs.length - (intOf v9).toNat)
 case atStart => exact ⟨0, rfl, Nat.zero_le _, ⟨by simpa using HTS.out, FrT.refl _ _⟩⟩
 case round =>
  obtain ⟨i, rfl, him, HI⟩ := hrel
  by_cases hlt : i < zs.length
  ·obtain ⟨z, hz⟩ : ∃ z, zs[i]? = some z := ⟨zs[i], List.getElem?_eq_getElem hlt⟩
   have hlti : (i : Int) < (zs.length : Int) := by omega
   have hr2 : ∃ b o x, A = some ⟨b, o, none⟩ ∧ Cl2 L w0 b (o + i) x ∧ (GArg L n) z w0 x := by
    rcases HROW.out with h | ⟨b, o, hA, h⟩
    ·rw [h] at hlt; exact absurd hlt (by simp)
    ·obtain ⟨x, h1, h2⟩ := h i z hz
     exact ⟨b, o, x, hA, h1, h2⟩
   obtain ⟨b, o, x, rfl, hc, hg⟩ := hr2
   have hbr := HI.out.1.below
   have cx := pw_cell_below hbr (cl2_cell hc)
   have hBt := HI.out.2.keep HB0.out hbtne (by decide) (by decide)
   have q3 := (hBt.cell 0).trans rfl
   have hltt : tb < wr.heap.size := by obtain ⟨d, sp, h⟩ := HI.out.1; exact h.blk.lt
   have hbt2 := hBt.lt
   have htl := take_len (xs := xs) (i + 1) HN.out
   rw [take_one hz, ← List.append_assoc] at htl
   obtain ⟨g, lv, nv, s, z2, u, rfl, h1, hl, h2, hn, h3, hz2, rfl⟩ := hg
   obtain ⟨lb, la, lc, rfl, l0, l1⟩ := hl
   have c1 := pw_cell_below hbr (cl2_cell h1)
   have cn := pw_cell_below hbr (cl2_cell h2)
   have hgl : g < wr.heap.size := World.block_lt_of_cell? wr _ c1
   have HX := aK (fun W (hW : Below wr.heap.size wr W) => text_any hn (hbr.trans (hW.mono hbr.size)))
   have HP := aK (fun W (hW : Below wr.heap.size wr W) (hB2 : Blk W wr.heap.size 101 #[ptr g]) =>
    put_fn 42 (.inr (.inr (.inr (.inl rfl)))) w0 W tb lb (xs ++ (zs.take i).flatten) 9 0 la lc s emp emp w.heap.size wr.heap.size [z2] (fun w1 hT1 hF1 => by
     have h := arg_body hV w0 w1 tb g w.heap.size wr.heap.size _ z2 u h3 hz2 (hF1.keep (hBt.below hW hbt2) hbtne (by decide) (by decide)) (hF1.keep hB2 (by omega) (by decide) (by decide)) hT1 (by
      have h := htl
      simp only [List.length_append, nd_len, List.length_cons, List.length_nil, List.flatten_cons, List.flatten_nil] at h ⊢
      omega)
     rw [List.append_assoc, List.singleton_append] at h
     rw [show ([z2] : List NL).flatten = z2 by simp]; exact h) (HI.out.1.of_below hW) (cl2_cell l0) (cl2_cell l1) htl)
   obtain ⟨nb, rfl, _⟩ := hn
   clear hc l0 l1 hbr htl
   unfold ptr at *
   go_wp2_with fail
   have hbw := aK (below_drew (below_alloc (Below.refl wr.heap.size wr) (.cells #[.pointer (some ⟨g, 0, none⟩)] 101)))
   have hB2 := aK (Blk.new wr 101 #[.pointer (some ⟨g, 0, none⟩)]).drew
   have hB1 := aK (hBt.below hbw.out hbt2)
   have HS4 := aK (fun w2 (hF : FrT tb (wr.alloc (.cells #[.pointer (some ⟨g, 0, none⟩)] 101)).drew w2) (hb : Below w0.heap.size w0 w2) => (⟨((hF.keep hB1.out hbtne (by decide) (by decide)).cell 0).trans rfl, ((hF.keep hB2.out (by omega) (by decide) (by decide)).cell 0).trans rfl, pw_cell_below hb (cl2_cell h1), pw_cell_below hb (cl2_cell h2)⟩ : w2.cell? ⟨w.heap.size, 0, none⟩ = some (.pointer (some ⟨tb, 0, none⟩)) ∧ w2.cell? ⟨wr.heap.size, 0, none⟩ = some (.pointer (some ⟨g, 0, none⟩)) ∧ w2.cell? ⟨g, 1, none⟩ = some (.pointer (some ⟨lb, 0, none⟩)) ∧ w2.cell? ⟨g, 2, none⟩ = some (.pointer (some ⟨nb, 0, none⟩))))
   have HLI := aK (⟨hlt, hfew⟩ : i < zs.length ∧ zs.length ≤ 200000)
   clear cx hlt hbt2 hltt hgl hlti hfew hBt h1 h2
   go_region_held3 (fun w' => w'.cell? ⟨w.heap.size, 0, none⟩ = some (.pointer (some ⟨tb, 0, none⟩)) ∧ w'.cell? ⟨wr.heap.size, 0, none⟩ = some (.pointer (some ⟨g, 0, none⟩)) ∧ w'.cell? ⟨g, 1, none⟩ = some (.pointer (some ⟨lb, 0, none⟩)) ∧ w'.cell? ⟨g, 2, none⟩ = some (.pointer (some ⟨nb, 0, none⟩))) (go_keep) (first | (go_at_call 22; refine (HX.out _ hbw.out).mono ?_; rintro e w2 ⟨rfl, rfl⟩) | (go_at_call 21; refine (HP.out _ hbw.out hB2.out).mono ?_; rintro e w2 ⟨rfl, hT2, hF2⟩; obtain ⟨k1, k2, k3, k4⟩ := HS4.out w2 hF2 hT2.below))
   all_goals
    have HS := aK (⟨by rw [take_one hz, ← List.append_assoc]; exact hT2, HI.out.2.trans ((FrT.of_below tb hbw.out).trans hF2)⟩ : Tk w0 tb (xs ++ (zs.take (i + 1)).flatten) w2 ∧ FrT tb (w.alloc (.cells #[.pointer (some ⟨tb, 0, none⟩)] 35)) w2)
    clear hT2 hF2
    obtain ⟨hlt, hfew⟩ := HLI.out
    go_wp2_with fail
    go_roundw
    case rel => exact ⟨i + 1, by go_num, by omega, HS⟩
    case measure => simp [intOf]; omega
  ·obtain rfl : i = zs.length := by omega
   have hge : ¬ (zs.length : Int) < (zs.length : Int) := by omega
   go_wp2_with fail
   go_end0
   refine ⟨rfl, ?_, HF0.out.trans HI.out.2⟩
   have h := HI.out.1
   rw [List.take_length] at h
   exact h
theorem dir_body {L n : Nat} (hA : ∀ (w0 w : World) (tb : Nat) (xs : NL) (zs : List NL) (sv : Value), GRow L (GArg L n) zs w0 sv → Tk w0 tb xs w → (xs ++ zs.flatten).length ≤ 200000 → Calls Tryz.prog 24 #[.pointer (some ⟨tb, 0, none⟩), sv] w (TkPost w0 tb (xs ++ zs.flatten) w)) (w0 w : World) (tb g bt bg : Nat) (xs : NL) (zz : List NL) (u : Value) (h3 : Cl2 L w0 g 3 u) (hz : GRow L (GArg L n) zz w0 u) (hbt : Blk w bt 35 #[.pointer (some ⟨tb, 0, none⟩)]) (hbg : Blk w bg 67 #[ptr g]) (hT : Tk w0 tb xs w) (hN : (xs ++ zz.flatten).length ≤ 200000) :
  Calls Tryz.prog 23 #[.pointer (some ⟨bt, 0, none⟩), .pointer (some ⟨bg, 0, none⟩)] w (TkPost w0 tb (xs ++ zz.flatten) w) := by
 have hb := hT.below
 have c3 := pw_cell_below hb (cl2_cell h3)
 have q1 := (hbt.cell 0).trans rfl
 have q2 := (hbg.cell 0).trans rfl
 have HC := aK (fun W (hW : Below w.heap.size w W) => hA w0 W tb xs zz u hz (hT.of_below hW) hN)
 clear hT h3 hz hN hbt hbg hb
 unfold ptr at *
 go_enter Tryz.func23, Tryz.ntmps23
 go_wp2_with fail
 go_region_with (go_at_call 24; refine (HC.out _ (below_drew (Below.refl _ _))).mono ?_; rintro e w2 ⟨rfl, hT2, hF2⟩)
 all_goals
  have HR := aK (⟨hT2, (FrT.refl tb w).drew.trans hF2⟩ : Tk w0 tb _ w2 ∧ FrT tb w w2)
  clear hT2 hF2
  go_wp2_with fail
  go_end0
  exact ⟨rfl, HR.out⟩
theorem dirs_loop {L n : Nat} (hA : ∀ (w0 w : World) (tb : Nat) (xs : NL) (zs : List NL) (sv : Value), GRow L (GArg L n) zs w0 sv → Tk w0 tb xs w → (xs ++ zs.flatten).length ≤ 200000 → Calls Tryz.prog 24 #[.pointer (some ⟨tb, 0, none⟩), sv] w (TkPost w0 tb (xs ++ zs.flatten) w)) (w0 w : World) (tb : Nat) (xs : NL) (zs : List NL) (sv : Value) (hr : GRowD L (GDir L n) zs w0 sv) (hT : Tk w0 tb xs w) (hN : (xs ++ zs.flatten).length ≤ 200000) :
  Calls Tryz.prog 10 #[.pointer (some ⟨tb, 0, none⟩), sv] w (TkPost w0 tb (xs ++ zs.flatten) w) := by
 have hfew : zs.length ≤ 200000 := by have h := growD_few gdir_pos hr; rw [List.length_append] at hN; omega
 obtain ⟨A, c, rfl, hrow⟩ := hr
 have hb := hT.below
 have hbtne : w.heap.size ≠ tb := by obtain ⟨d, sp, h⟩ := hT; have := h.blk.lt; omega
 have HB0 := aK (Blk.new w 35 #[.pointer (some ⟨tb, 0, none⟩)])
 have HF0 := aK (FrT.of_below tb (below_alloc (Below.refl w.heap.size w) (.cells #[.pointer (some ⟨tb, 0, none⟩)] 35)))
 have HTS := aK (hT.of_below (below_alloc (Below.refl w.heap.size w) (.cells #[.pointer (some ⟨tb, 0, none⟩)] 35)))
 have HROW := aK hrow
 have HN := aK hN
 clear hT hrow hN
 unfold ptr at *
 go_enter Tryz.func10, Tryz.ntmps10
 go_wp2_with fail
 go_loopw [8] (fun v9 wr => ∃ i : Nat, v9 = .int .i64 i ∧ i ≤ zs.length ∧ Aside0 (Tk w0 tb (xs ++ (zs.take i).flatten) wr ∧ FrT tb (w.alloc (.cells #[.pointer (some ⟨tb, 0, none⟩)] 35)) wr)) (fun v9 _ => zs.length - (intOf v9).toNat)
 case atStart => exact ⟨0, rfl, Nat.zero_le _, ⟨by simpa using HTS.out, FrT.refl _ _⟩⟩
 case round =>
  obtain ⟨i, rfl, him, HI⟩ := hrel
  by_cases hlt : i < zs.length
  ·obtain ⟨z, hz⟩ : ∃ z, zs[i]? = some z := ⟨zs[i], List.getElem?_eq_getElem hlt⟩
   have hlti : (i : Int) < (zs.length : Int) := by omega
   have hr2 : ∃ b o x, A = some ⟨b, o, none⟩ ∧ Cl L w0 b (o + i) x ∧ (GDir L n) z w0 x := by
    rcases HROW.out with h | ⟨b, o, hA, h⟩
    ·rw [h] at hlt; exact absurd hlt (by simp)
    ·obtain ⟨x, h1, h2⟩ := h i z hz
     exact ⟨b, o, x, hA, h1, h2⟩
   obtain ⟨b, o, x, rfl, hc, hg⟩ := hr2
   have hbr := HI.out.1.below
   have cx := pw_cell_below hbr (cl_cell hc)
   have hBt := HI.out.2.keep HB0.out hbtne (by decide) (by decide)
   have q3 := (hBt.cell 0).trans rfl
   have hltt : tb < wr.heap.size := by obtain ⟨d, sp, h⟩ := HI.out.1; exact h.blk.lt
   have hbt2 := hBt.lt
   have htl := take_len (xs := xs) (i + 1) HN.out
   rw [take_one hz, ← List.append_assoc] at htl
   obtain ⟨g, lv, nv, s, z2, u, rfl, h1, hl, h2, hn, h3, hz2, rfl⟩ := hg
   obtain ⟨lb, la, lc, rfl, l0, l1⟩ := hl
   have c1 := pw_cell_below hbr (cl2_cell h1)
   have cn := pw_cell_below hbr (cl2_cell h2)
   have hgl : g < wr.heap.size := World.block_lt_of_cell? wr _ c1
   have HX := aK (fun W (hW : Below wr.heap.size wr W) => text_any hn (hbr.trans (hW.mono hbr.size)))
   have HP := aK (fun W (hW : Below wr.heap.size wr W) (hB2 : Blk W wr.heap.size 67 #[ptr g]) =>
    put_fn 23 (.inr (.inr (.inr (.inr rfl)))) w0 W tb lb (xs ++ (zs.take i).flatten) 10 0 la lc s emp emp w.heap.size wr.heap.size z2 (fun w1 hT1 hF1 => by
     have h := dir_body hA w0 w1 tb g w.heap.size wr.heap.size _ z2 u h3 hz2 (hF1.keep (hBt.below hW hbt2) hbtne (by decide) (by decide)) (hF1.keep hB2 (by omega) (by decide) (by decide)) hT1 (by
      have h := htl
      simp only [List.length_append, nd_len, List.length_cons, List.length_nil, List.flatten_cons, List.flatten_nil] at h ⊢
      omega)
     rw [List.append_assoc, List.singleton_append] at h
     exact h) (HI.out.1.of_below hW) (cl2_cell l0) (cl2_cell l1) htl)
   obtain ⟨nb, rfl, _⟩ := hn
   clear hc l0 l1 hbr htl
   unfold ptr at *
   go_wp2_with fail
   have hbw := aK (below_drew (below_alloc (Below.refl wr.heap.size wr) (.cells #[.pointer (some ⟨g, 0, none⟩)] 67)))
   have hB2 := aK (Blk.new wr 67 #[.pointer (some ⟨g, 0, none⟩)]).drew
   have hB1 := aK (hBt.below hbw.out hbt2)
   have HS4 := aK (fun w2 (hF : FrT tb (wr.alloc (.cells #[.pointer (some ⟨g, 0, none⟩)] 67)).drew w2) (hb : Below w0.heap.size w0 w2) => (⟨((hF.keep hB1.out hbtne (by decide) (by decide)).cell 0).trans rfl, ((hF.keep hB2.out (by omega) (by decide) (by decide)).cell 0).trans rfl, pw_cell_below hb (cl2_cell h1), pw_cell_below hb (cl2_cell h2)⟩ : w2.cell? ⟨w.heap.size, 0, none⟩ = some (.pointer (some ⟨tb, 0, none⟩)) ∧ w2.cell? ⟨wr.heap.size, 0, none⟩ = some (.pointer (some ⟨g, 0, none⟩)) ∧ w2.cell? ⟨g, 1, none⟩ = some (.pointer (some ⟨lb, 0, none⟩)) ∧ w2.cell? ⟨g, 2, none⟩ = some (.pointer (some ⟨nb, 0, none⟩))))
   have HLI := aK (⟨hlt, hfew⟩ : i < zs.length ∧ zs.length ≤ 200000)
   clear cx hlt hbt2 hltt hgl hlti hfew hBt h1 h2
   go_region_held3 (fun w' => w'.cell? ⟨w.heap.size, 0, none⟩ = some (.pointer (some ⟨tb, 0, none⟩)) ∧ w'.cell? ⟨wr.heap.size, 0, none⟩ = some (.pointer (some ⟨g, 0, none⟩)) ∧ w'.cell? ⟨g, 1, none⟩ = some (.pointer (some ⟨lb, 0, none⟩)) ∧ w'.cell? ⟨g, 2, none⟩ = some (.pointer (some ⟨nb, 0, none⟩))) (go_keep) (first | (go_at_call 22; refine (HX.out _ hbw.out).mono ?_; rintro e w2 ⟨rfl, rfl⟩) | (go_at_call 21; refine (HP.out _ hbw.out hB2.out).mono ?_; rintro e w2 ⟨rfl, hT2, hF2⟩; obtain ⟨k1, k2, k3, k4⟩ := HS4.out w2 hF2 hT2.below))
   all_goals
    have HS := aK (⟨by rw [take_one hz, ← List.append_assoc]; exact hT2, HI.out.2.trans ((FrT.of_below tb hbw.out).trans hF2)⟩ : Tk w0 tb (xs ++ (zs.take (i + 1)).flatten) w2 ∧ FrT tb (w.alloc (.cells #[.pointer (some ⟨tb, 0, none⟩)] 35)) w2)
    clear hT2 hF2
    obtain ⟨hlt, hfew⟩ := HLI.out
    go_wp2_with fail
    go_roundw
    case rel => exact ⟨i + 1, by go_num, by omega, HS⟩
    case measure => simp [intOf]; omega
  ·obtain rfl : i = zs.length := by omega
   have hge : ¬ (zs.length : Int) < (zs.length : Int) := by omega
   go_wp2_with fail
   go_end0
   refine ⟨rfl, ?_, HF0.out.trans HI.out.2⟩
   have h := HI.out.1
   rw [List.take_length] at h
   exact h
theorem fld_body {L n : Nat} (hV : ValOk L n) (w0 w : World) (tb g bt bg : Nat) (xs : NL) (z : NL) (u : Value) (h3 : Cl2 L w0 g 3 u) (hz : GVal L n z w0 u) (hbt : Blk w bt 35 #[.pointer (some ⟨tb, 0, none⟩)]) (hbg : Blk w bg 144 #[ptr g]) (hT : Tk w0 tb xs w) (hN : (xs ++ z).length ≤ 200000) :
  Calls Tryz.prog 65 #[.pointer (some ⟨bt, 0, none⟩), .pointer (some ⟨bg, 0, none⟩)] w (TkPost w0 tb (xs ++ z) w) := by
 have hb := hT.below
 have c3 := pw_cell_below hb (cl2_cell h3)
 have q1 := (hbt.cell 0).trans rfl
 have q2 := (hbg.cell 0).trans rfl
 have HC := aK (fun W (hW : Below w.heap.size w W) => hV w0 W tb xs z u hz (hT.of_below hW) hN)
 clear hT h3 hz hN hbt hbg hb
 unfold ptr at *
 go_enter Tryz.func65, Tryz.ntmps65
 go_wp2_with fail
 go_region_with (go_at_call 43; refine (HC.out _ (below_drew (Below.refl _ _))).mono ?_; rintro e w2 ⟨rfl, hT2, hF2⟩)
 all_goals
  have HR := aK (⟨hT2, (FrT.refl tb w).drew.trans hF2⟩ : Tk w0 tb _ w2 ∧ FrT tb w w2)
  clear hT2 hF2
  go_wp2_with fail
  go_end0
  exact ⟨rfl, HR.out⟩
theorem flds_loop {L n : Nat} (hV : ValOk L n) (w0 w : World) (tb : Nat) (xs : NL) (zs : List NL) (gv bv bt : Nat) (sv : Value) (hc2 : Cl2 L w0 gv 2 sv) (hbv : Blk w bv 140 #[ptr gv]) (hbt0 : Blk w bt 35 #[.pointer (some ⟨tb, 0, none⟩)]) (hne : bv ≠ tb ∧ bt ≠ tb) (hr : GRow L (GFld L n) zs w0 sv) (hT : Tk w0 tb xs w) (hN : (xs ++ zs.flatten).length ≤ 200000) :
  Calls Tryz.prog 64 #[.pointer (some ⟨bv, 0, none⟩), .pointer (some ⟨bt, 0, none⟩)] w (TkPost w0 tb (xs ++ zs.flatten) w) := by
 have hfew : zs.length ≤ 200000 := by have h := grow_few gfld_pos hr; rw [List.length_append] at hN; omega
 obtain ⟨A, c, rfl, hrow⟩ := hr
 have hb := hT.below
 have c2 := pw_cell_below hb (cl2_cell hc2)
 have q1 := (hbv.cell 0).trans rfl
 have q2 := (hbt0.cell 0).trans rfl
 have hbtne := hne.2
 have HB0 := aK hbt0
 have HF0 := aK (FrT.refl tb w)
 have HTS := aK hT
 have HROW := aK hrow
 have HN := aK hN
 clear hT hrow hN hc2 hbv hbt0 hne
 unfold ptr at *
 go_enter Tryz.func64, Tryz.ntmps64
 go_wp2_with fail
 go_loopw [9] (fun v9 wr => ∃ i : Nat, v9 = .int .i64 i ∧ i ≤ zs.length ∧ Aside0 (Tk w0 tb (xs ++ (zs.take i).flatten) wr ∧ FrT tb w wr)) (fun v9 _ => zs.length - (intOf v9).toNat)
 case atStart => exact ⟨0, rfl, Nat.zero_le _, ⟨by simpa using HTS.out, FrT.refl _ _⟩⟩
 case round =>
  obtain ⟨i, rfl, him, HI⟩ := hrel
  by_cases hlt : i < zs.length
  ·obtain ⟨z, hz⟩ : ∃ z, zs[i]? = some z := ⟨zs[i], List.getElem?_eq_getElem hlt⟩
   have hlti : (i : Int) < (zs.length : Int) := by omega
   have hr2 : ∃ b o x, A = some ⟨b, o, none⟩ ∧ Cl2 L w0 b (o + i) x ∧ (GFld L n) z w0 x := by
    rcases HROW.out with h | ⟨b, o, hA, h⟩
    ·rw [h] at hlt; exact absurd hlt (by simp)
    ·obtain ⟨x, h1, h2⟩ := h i z hz
     exact ⟨b, o, x, hA, h1, h2⟩
   obtain ⟨b, o, x, rfl, hc, hg⟩ := hr2
   have hbr := HI.out.1.below
   have cx := pw_cell_below hbr (cl2_cell hc)
   have hBt := HI.out.2.keep HB0.out hbtne (by decide) (by decide)
   have q3 := (hBt.cell 0).trans rfl
   have hltt : tb < wr.heap.size := by obtain ⟨d, sp, h⟩ := HI.out.1; exact h.blk.lt
   have hbt2 := hBt.lt
   have htl := take_len (xs := xs) (i + 1) HN.out
   rw [take_one hz, ← List.append_assoc] at htl
   obtain ⟨g, lv, nv, s, z2, u, rfl, h1, hl, h2, hn, h3, hz2, rfl⟩ := hg
   obtain ⟨lb, la, lc, rfl, l0, l1⟩ := hl
   have c1 := pw_cell_below hbr (cl2_cell h1)
   have cn := pw_cell_below hbr (cl2_cell h2)
   have hgl : g < wr.heap.size := World.block_lt_of_cell? wr _ c1
   have HX := aK (fun W (hW : Below wr.heap.size wr W) => text_any hn (hbr.trans (hW.mono hbr.size)))
   have HP := aK (fun W (hW : Below wr.heap.size wr W) (hB2 : Blk W wr.heap.size 144 #[ptr g]) =>
    put_fn 65 (.inr (.inr (.inl rfl))) w0 W tb lb (xs ++ (zs.take i).flatten) 19 0 la lc s emp emp bt wr.heap.size [z2] (fun w1 hT1 hF1 => by
     have h := fld_body hV w0 w1 tb g bt wr.heap.size _ z2 u h3 hz2 (hF1.keep (hBt.below hW hbt2) hbtne (by decide) (by decide)) (hF1.keep hB2 (by omega) (by decide) (by decide)) hT1 (by
      have h := htl
      simp only [List.length_append, nd_len, List.length_cons, List.length_nil, List.flatten_cons, List.flatten_nil] at h ⊢
      omega)
     rw [List.append_assoc, List.singleton_append] at h
     rw [show ([z2] : List NL).flatten = z2 by simp]; exact h) (HI.out.1.of_below hW) (cl2_cell l0) (cl2_cell l1) htl)
   obtain ⟨nb, rfl, _⟩ := hn
   clear hc l0 l1 hbr htl
   unfold ptr at *
   go_wp2_with fail
   have hbw := aK (below_drew (below_alloc (Below.refl wr.heap.size wr) (.cells #[.pointer (some ⟨g, 0, none⟩)] 144)))
   have hB2 := aK (Blk.new wr 144 #[.pointer (some ⟨g, 0, none⟩)]).drew
   have hB1 := aK (hBt.below hbw.out hbt2)
   have HS4 := aK (fun w2 (hF : FrT tb (wr.alloc (.cells #[.pointer (some ⟨g, 0, none⟩)] 144)).drew w2) (hb : Below w0.heap.size w0 w2) => (⟨((hF.keep hB1.out hbtne (by decide) (by decide)).cell 0).trans rfl, ((hF.keep hB2.out (by omega) (by decide) (by decide)).cell 0).trans rfl, pw_cell_below hb (cl2_cell h1), pw_cell_below hb (cl2_cell h2)⟩ : w2.cell? ⟨bt, 0, none⟩ = some (.pointer (some ⟨tb, 0, none⟩)) ∧ w2.cell? ⟨wr.heap.size, 0, none⟩ = some (.pointer (some ⟨g, 0, none⟩)) ∧ w2.cell? ⟨g, 2, none⟩ = some (.pointer (some ⟨lb, 0, none⟩)) ∧ w2.cell? ⟨g, 1, none⟩ = some (.pointer (some ⟨nb, 0, none⟩))))
   have HLI := aK (⟨hlt, hfew⟩ : i < zs.length ∧ zs.length ≤ 200000)
   clear cx hlt hbt2 hltt hgl hlti hfew hBt h1 h2
   go_region_held3 (fun w' => w'.cell? ⟨bt, 0, none⟩ = some (.pointer (some ⟨tb, 0, none⟩)) ∧ w'.cell? ⟨wr.heap.size, 0, none⟩ = some (.pointer (some ⟨g, 0, none⟩)) ∧ w'.cell? ⟨g, 2, none⟩ = some (.pointer (some ⟨lb, 0, none⟩)) ∧ w'.cell? ⟨g, 1, none⟩ = some (.pointer (some ⟨nb, 0, none⟩))) (go_keep) (first | (go_at_call 22; refine (HX.out _ hbw.out).mono ?_; rintro e w2 ⟨rfl, rfl⟩) | (go_at_call 21; refine (HP.out _ hbw.out hB2.out).mono ?_; rintro e w2 ⟨rfl, hT2, hF2⟩; obtain ⟨k1, k2, k3, k4⟩ := HS4.out w2 hF2 hT2.below))
   all_goals
    have HS := aK (⟨by rw [take_one hz, ← List.append_assoc]; exact hT2, HI.out.2.trans ((FrT.of_below tb hbw.out).trans hF2)⟩ : Tk w0 tb (xs ++ (zs.take (i + 1)).flatten) w2 ∧ FrT tb w w2)
    clear hT2 hF2
    obtain ⟨hlt, hfew⟩ := HLI.out
    go_wp2_with fail
    go_roundw
    case rel => exact ⟨i + 1, by go_num, by omega, HS⟩
    case measure => simp [intOf]; omega
  ·obtain rfl : i = zs.length := by omega
   have hge : ¬ (zs.length : Int) < (zs.length : Int) := by omega
   go_wp2_with fail
   go_end0
   refine ⟨rfl, ?_, HF0.out.trans HI.out.2⟩
   have h := HI.out.1
   rw [List.take_length] at h
   exact h
theorem tkv_7 {L n : Nat} (hV : ValOk L n) (w0 w : World) (tb g : Nat) (xs : NL) (zs : List NL) (lv sv : Value) (h2 : Cl2 L w0 g 2 sv) (hr : GRow L (GFld L n) zs w0 sv) (hT : Tk w0 tb xs w) (h1 : Cl2 L w0 g 1 lv) (hl : GLoc L w0 lv) (hN : (xs ++ nd 18 emp emp emp 0 zs).length ≤ 200000) :
  Calls Tryz.prog 43 #[.pointer (some ⟨tb, 0, none⟩), .iface 140 (ptr g)] w (TkPost w0 tb (xs ++ nd 18 emp emp emp 0 zs) w) := by
 obtain ⟨lb, la, lc, rfl, l0, l1⟩ := hl
 have hb := hT.below
 have hbs := hT.base
 have htb : tb < w.heap.size := by obtain ⟨d, sp, h⟩ := hT; exact h.blk.lt
 have c1 := pw_cell_below hb (cl2_cell h1)
 have hgl : g < w.heap.size := World.block_lt_of_cell? w _ c1
 have HP := aK (fun W (hW : Below w.heap.size w W) (hB1 : Blk W w.heap.size 35 #[.pointer (some ⟨tb, 0, none⟩)]) (hB2 : Blk W (w.heap.size + 1) 140 #[ptr g]) =>
  put_fn 64 (.inr (.inl rfl)) w0 W tb lb xs 18 0 la lc emp emp emp (w.heap.size + 1) w.heap.size zs (fun w1 hT1 hF1 => by
   have h := flds_loop hV w0 w1 tb _ zs g (w.heap.size + 1) w.heap.size sv h2 (hF1.keep hB2 (by omega) (by decide) (by decide)) (hF1.keep hB1 (by omega) (by decide) (by decide)) ⟨by omega, by omega⟩ hr hT1 (by rw [List.length_append] at hN ⊢; rw [nd_len] at hN; rw [List.length_append]; simp only [List.length_cons, List.length_nil]; omega)
   rw [List.append_assoc, List.singleton_append] at h
   exact h) (hT.of_below hW) (cl2_cell l0) (cl2_cell l1) hN)
 have a0 := tv_7_0 (.pointer (some ⟨g, 0, none⟩))
 have a1 := tv_7_1 (.pointer (some ⟨g, 0, none⟩))
 have a2 := tv_7_2 (.pointer (some ⟨g, 0, none⟩))
 have a3 := tv_7_3 (.pointer (some ⟨g, 0, none⟩))
 have a4 := tv_7_4 (.pointer (some ⟨g, 0, none⟩))
 have a5 := tv_7_5 (.pointer (some ⟨g, 0, none⟩))
 have a6 := tv_7_6 (.pointer (some ⟨g, 0, none⟩))
 have a7 := tv_7_7 (.pointer (some ⟨g, 0, none⟩))
 clear hT h1 h2 hr l0 l1 hN hb
 unfold ptr at *
 go_enter Tryz.func43, Tryz.ntmps43
 go_wp2_with fail
 have hbw := aK (below_drew (below_alloc (below_alloc (Below.refl w.heap.size w) (.cells #[.pointer (some ⟨tb, 0, none⟩)] 35)) (.cells #[.pointer (some ⟨g, 0, none⟩)] 140)))
 have hB1 := aK ((Blk.new w 35 #[.pointer (some ⟨tb, 0, none⟩)]).alloc (.cells #[.pointer (some ⟨g, 0, none⟩)] 140)).drew
 have hB2 := aK (Blk.new (w.alloc (.cells #[.pointer (some ⟨tb, 0, none⟩)] 35)) 140 #[.pointer (some ⟨g, 0, none⟩)]).drew
 rw [World.size_alloc] at hB2
 go_region_with (go_at_call 21; refine (HP.out _ hbw.out hB1.out hB2.out).mono ?_; rintro e w2 ⟨rfl, hT2, hF2⟩)
 all_goals
  have HR := aK (⟨hT2, (FrT.of_below tb hbw.out).trans hF2⟩ : Tk w0 tb _ w2 ∧ FrT tb w w2)
  clear hT2 hF2
  go_wp2_with fail
  go_end0
  exact ⟨rfl, HR.out⟩
theorem val_take {L : Nat} : ∀ n, ValOk L n
 | 0 => fun _ _ _ _ _ _ h _ _ => absurd h (by intro h; cases h)
 | n + 1 => fun w0 w tb xs y v hg hT hN => by
  obtain ⟨g, lv, h1, hl, h⟩ := hg
  rcases h with ⟨rfl, nv, s, a, b, rfl⟩ | ⟨rfl, s, a, rfl⟩ | ⟨rfl, s, a, rfl⟩ | ⟨rfl, s, a, rfl⟩ | ⟨rfl, b, a, rfl⟩ | ⟨rfl, s, a, rfl⟩ | ⟨rfl, sv, zs, a, b, rfl⟩ | ⟨rfl, sv, zs, a, b, rfl⟩
  ·exact tkv_0 w0 w tb g xs lv nv s a b hT h1 hl hN
  ·exact tkv_1 w0 w tb g xs lv s a hT h1 hl hN
  ·exact tkv_2 w0 w tb g xs lv s a hT h1 hl hN
  ·exact tkv_3 w0 w tb g xs lv s a hT h1 hl hN
  ·cases b with
   | true => exact tkv_4t w0 w tb g xs lv a hT h1 hl hN
   | false => exact tkv_4f w0 w tb g xs lv a hT h1 hl hN
  ·exact tkv_5 w0 w tb g xs lv s a hT h1 hl hN
  ·exact tkv_6 (val_take n) w0 w tb g xs zs lv sv a b hT h1 hl hN
  ·exact tkv_7 (val_take n) w0 w tb g xs zs lv sv a b hT h1 hl hN
theorem own_low {w : World} {base base' n k : Nat} {T : TypeId} {v : Value} {xs : List Value} (h : w.ownsRow base T k v n xs) (hb : base' ≤ base) : w.ownsRow base' T k v n xs := by
 refine ⟨h.1, ?_⟩
 rcases h.2 with h2 | ⟨g, cap, cur, e, h1, r⟩
 ·exact .inl h2
 ·exact .inr ⟨g, cap, cur, e, by omega, r⟩
theorem tk_start {w W : World} {tb : Nat} (hB : Blk W tb TT #[.slice none 0 0, .slice none 0 0, .bool false]) (hb : Below w.heap.size w W) (ht : w.heap.size ≤ tb) : Tk w tb [] W :=
 ⟨_, _, hB, World.ownsRow_nil _ _ _ _, ⟨[], World.ownsRow_nil _ _ _ _⟩, hb, ht⟩
theorem args_take {L n : Nat} : (∀ (w0 w : World) (tb : Nat) (xs : NL) (zs : List NL) (sv : Value), GRow L (GArg L n) zs w0 sv → Tk w0 tb xs w → (xs ++ zs.flatten).length ≤ 200000 → Calls Tryz.prog 24 #[.pointer (some ⟨tb, 0, none⟩), sv] w (TkPost w0 tb (xs ++ zs.flatten) w)) := fun w0 w tb xs zs sv h hT hN => args_loop (val_take n) w0 w tb xs zs sv h hT hN
theorem dirs_take {L n : Nat} : (∀ (w0 w : World) (tb : Nat) (xs : NL) (zs : List NL) (sv : Value), GRowD L (GDir L n) zs w0 sv → Tk w0 tb xs w → (xs ++ zs.flatten).length ≤ 200000 → Calls Tryz.prog 10 #[.pointer (some ⟨tb, 0, none⟩), sv] w (TkPost w0 tb (xs ++ zs.flatten) w)) := fun w0 w tb xs zs sv h hT hN => dirs_loop args_take w0 w tb xs zs sv h hT hN
open Par Go.Proofs.YtjoagdldbmlenaaGreatDoor.Mod Lx Err
theorem impl_dirs (s : ByteArray) (lx : Nat → Option Tok) (ask : Nat → Prop) (w : World) (hx : LxAt s lx ask) (ht : Tabs w) (hsz : s.size ≤ 2000) :
  Calls Tryz.prog 5 #[.string s] w fun e w' => Below w.heap.size w w' ∧
   ((∃ y t d, (lx 0).bind (nDirs lx 200000 200000) = some (y, t) ∧ e = .returned (.tuple #[d, .int .i64 t.start, .bool true]) ∧ w'.ownsRow w.heap.size TN 6 d y.flatten.length (cellsOf y.flatten) ∧ y.flatten.length ≤ 2001) ∨
    ((lx 0).bind (nDirs lx 200000 200000) = none ∧ e = .returned (.tuple #[.slice none 0 0, .int .i64 0, .bool false]))) := by
 have HD := aK (door_dirs s lx ask w hx ht hsz)
 clear hx ht hsz
 go_enter Tryz.func5, Tryz.ntmps5
 go_wp2_with fail
 refine HD.out.mono ?_
 rintro e w1 ⟨⟨y, t, v, L, n, hg, rfl, hv, hn⟩ | ⟨hg, v, k, g, rfl⟩, hb⟩
 ·have hbw : Below w1.heap.size w1 (w1.alloc (.cells #[.slice none 0 0, .slice none 0 0, .bool false] TT)) := below_alloc (Below.refl _ _) _
  have HV := aK (dirs_take (n := n) w1 _ w1.heap.size [] y v hv (tk_start (Blk.new w1 TT #[.slice none 0 0, .slice none 0 0, .bool false]) hbw (Nat.le_refl _)) (by simpa using Nat.le_trans hn (by decide)))
  have HG := aK hg
  have HB := aK hb
  have HN := aK hn
  clear hg hv hb hn hbw
  go_wp2_with fail
  refine HV.out.mono ?_
  rintro e w2 ⟨rfl, ⟨d, sp, hC⟩, hF⟩
  have c0 := (hC.blk.cell 0).trans (show _ = some d from rfl)
  have c2 := (hC.blk.cell 2).trans (show _ = some (Value.bool false) from rfl)
  have HC := aK hC
  clear hC hF
  go_wp2_with fail
  go_quiet (fail)
  go_wp2_with fail
  refine bodyPost_ret (v := .tuple #[d, .int .i64 t.start, .bool true]) ?_ rfl ⟨?_, .inl ⟨y, t, d, HG.out, rfl, ?_, HN.out⟩⟩
  ·simp [results, Tryz.results5, go_sem]
  ·exact pw_below_drewN (HB.out.trans (HC.out.below.mono HB.out.size)) _
  ·exact own_low HC.out.rowD HB.out.size
 ·have HG := aK hg
  have HB := aK hb
  clear hg hb
  go_wp2_with fail
  refine bodyPost_ret (v := .tuple #[.slice none 0 0, .int .i64 0, .bool false]) ?_ rfl ⟨HB.out, .inr ⟨HG.out, rfl⟩⟩
  simp [results, Tryz.results5, go_sem]
end Go.Proofs.YtjoagdldbmlenaaGreatDoor.Take
