import Derived.Test.YthbinlnpipgobaaGreatDoorU23
import Derived.Test.YthbinlnpipgobaaGreatDoorU17
namespace Go.Proofs.YthbinlnpipgobaaGreatDoor.Take
set_option linter.unusedVariables false
set_option linter.unusedSimpArgs false
open Go.RowKit Go.Proofs.YthbinlnpipgobaaGreatDoorW.PrintWords Go.Proofs.YthbinlnpipgobaaGreatDoor.Keep Go.Proofs.YthbinlnpipgobaaGreatDoor.Env Go.Proofs.YthbinlnpipgobaaGreatDoor.Ast Go.Proofs.YthbinlnpipgobaaGreatDoor.Tree

/-- What is asked of the taker of selections, and of sets. -/
def SelT (L n : Nat) (S : NL → World → Value → Prop) : Prop := ∀ (w0 w : World) (tb : Nat) (xs y : NL) (v : Value), GSel L n S y w0 v → Tk w0 tb xs w → (xs ++ y).length ≤ 200000 → Calls Tryz.prog 53 #[.pointer (some ⟨tb, 0, none⟩), v] w (TkPost w0 tb (xs ++ y) w)
def SetT (S : NL → World → Value → Prop) : Prop := ∀ (w0 w : World) (tb : Nat) (xs y : NL) (v : Value), S y w0 v → Tk w0 tb xs w → (xs ++ y).length ≤ 200000 → Calls Tryz.prog 28 #[.pointer (some ⟨tb, 0, none⟩), v] w (TkPost w0 tb (xs ++ y) w)
theorem gsel_pos {L n : Nat} {S : NL → World → Value → Prop} (y : NL) (w : World) (v : Value) (h : GSel L n S y w v) : 0 < y.length := by
  obtain ⟨g, lv, _, _, h⟩ := h
  rcases h with ⟨_, _, _, _, _, _, _, _, _, _, _, _, _, _, _, _, _, _, _, _, _, rfl⟩ | ⟨_, _, _, _, _, _, _, _, _, rfl⟩ | ⟨_, _, _, _, _, _, _, _, _, _, _, _, _, rfl⟩ <;> exact Nat.succ_pos _
set_option maxRecDepth 100000 in
set_option maxHeartbeats 4000000 in
theorem sel_loop {L n : Nat} {S : NL → World → Value → Prop} (hV : SelT L n S) (w0 w : World) (tb g bv bt : Nat) (xs : NL) (zs : List NL) (sv : Value) (h2 : Cl L w0 g 2 sv) (hr : GRowD L (GSel L n S) zs w0 sv) (hbv : Blk w bv 87 #[ptr g]) (hbt : Blk w bt 38 #[.pointer (some ⟨tb, 0, none⟩)]) (hne : bv ≠ tb ∧ bt ≠ tb) (hT : Tk w0 tb xs w) (hN : (xs ++ zs.flatten).length ≤ 200000) :
    Calls Tryz.prog 52 #[.pointer (some ⟨bv, 0, none⟩), .pointer (some ⟨bt, 0, none⟩)] w (TkPost w0 tb (xs ++ zs.flatten) w) := by
  have hfew : zs.length ≤ 200000 := by have h := growD_few gsel_pos hr; rw [List.length_append] at hN; omega
  obtain ⟨A, c, rfl, hrow⟩ := hr
  have hb := hT.below
  have c2 := pw_cell_below hb (cl_cell h2)
  have q1 := (hbv.cell 0).trans rfl
  have q2 := (hbt.cell 0).trans rfl
  have HT := Aside0.mk hT
  have HBT := Aside0.mk hbt
  have HROW := Aside0.mk hrow
  have HN := Aside0.mk hN
  clear hT hrow h2 hN hbv hbt
  unfold ptr at *
  go_enter Tryz.func52, Tryz.ntmps52
  go_wp2_with fail
  go_loopw [9] (fun v9 wr => ∃ i : Nat, v9 = .int .i64 i ∧ i ≤ zs.length ∧ Aside0 (Tk w0 tb (xs ++ (zs.take i).flatten) wr ∧ FrT tb w wr)) (fun v9 _ => zs.length - (intOf v9).toNat)
  case atStart => exact ⟨0, rfl, Nat.zero_le _, ⟨by simpa using HT.out, FrT.refl _ _⟩⟩
  case round =>
    obtain ⟨i, rfl, him, HI⟩ := hrel
    by_cases hlt : i < zs.length
    · obtain ⟨z, hz⟩ : ∃ z, zs[i]? = some z := ⟨zs[i], List.getElem?_eq_getElem hlt⟩
      have hlti : (i : Int) < (zs.length : Int) := by omega
      have hr2 : ∃ b o x, A = some ⟨b, o, none⟩ ∧ Cl L w0 b (o + i) x ∧ (GSel L n S) z w0 x := by
        rcases HROW.out with h | ⟨b, o, hA, h⟩
        · rw [h] at hlt; exact absurd hlt (by simp)
        · obtain ⟨x, h1, h2⟩ := h i z hz
          exact ⟨b, o, x, hA, h1, h2⟩
      obtain ⟨b, o, x, rfl, hc, hg⟩ := hr2
      have cx := pw_cell_below HI.out.1.below (cl_cell hc)
      have q3 := ((HI.out.2.keep HBT.out hne.2 (by decide) (by decide)).cell 0).trans rfl
      have HC := Aside0.mk (fun W (hW : Below wr.heap.size wr W) => hV w0 W tb _ z x hg (HI.out.1.of_below hW) (by
        have h := take_len (xs := xs) (i + 1) HN.out
        rw [take_one hz, ← List.append_assoc] at h
        exact h))
      clear hc hg
      go_wp2_with fail
      refine (HC.out _ (Below.refl _ _)).mono ?_
      rintro e w2 ⟨rfl, hT2, hF2⟩
      have HS := Aside0.mk (⟨by rw [take_one hz, ← List.append_assoc]; exact hT2, HI.out.2.trans hF2⟩ : Tk w0 tb (xs ++ (zs.take (i + 1)).flatten) w2 ∧ FrT tb w w2)
      clear hT2 hF2
      go_wp2_with fail
      go_roundw
      case rel => exact ⟨i + 1, by go_num, by omega, HS⟩
      case measure => simp [intOf]; omega
    · obtain rfl : i = zs.length := by omega
      have hge : ¬ (zs.length : Int) < (zs.length : Int) := by omega
      go_wp2_with fail
      go_end0
      refine ⟨rfl, ?_, HI.out.2⟩
      have h := HI.out.1
      rw [List.take_length] at h
      exact h
set_option maxRecDepth 100000 in
set_option maxHeartbeats 8000000 in
theorem set_take {L n k : Nat} (hS : SelT L n (GSet L n k)) : SetT (GSet L n (k + 1)) := by
  intro w0 w tb xs y v hg hT hN
  obtain ⟨g, lv, sv, zs, rfl, h1, hl, h2, hr, rfl⟩ := hg
  obtain ⟨lb, la, lc, rfl, l0, l1⟩ := hl
  have hb := hT.below
  have htb : tb < w.heap.size := by obtain ⟨d, sp, h⟩ := hT; exact h.blk.lt
  have c1 := pw_cell_below hb (cl_cell h1)
  have hgl : g < w.heap.size := World.block_lt_of_cell? w _ c1
  have HP := Aside0.mk (fun W (hW : Below w.heap.size w W) (hB1 : Blk W w.heap.size 38 #[.pointer (some ⟨tb, 0, none⟩)]) (hB2 : Blk W (w.heap.size + 1) 87 #[ptr g]) =>
    put_set w0 W tb lb xs 5 0 la lc emp emp emp (w.heap.size + 1) w.heap.size zs (fun w1 hT1 hF1 => by
      have h := sel_loop hS w0 w1 tb g (w.heap.size + 1) w.heap.size _ zs sv h2 hr (hF1.keep hB2 (by omega) (by decide) (by decide)) (hF1.keep hB1 (by omega) (by decide) (by decide)) ⟨by omega, by omega⟩ hT1 (by rw [List.length_append] at hN ⊢; rw [nd_len] at hN; rw [List.length_append]; simp only [List.length_cons, List.length_nil]; omega)
      rw [List.append_assoc, List.singleton_append] at h
      exact h) (hT.of_below hW) (cl2_cell l0) (cl2_cell l1) hN)
  clear hT h1 h2 hr l0 l1 hN hb hS
  unfold ptr at *
  go_enter Tryz.func28, Tryz.ntmps28
  go_wp2_with fail
  have hbw := Aside0.mk (below_drew (below_alloc (below_alloc (Below.refl w.heap.size w) (.cells #[.pointer (some ⟨tb, 0, none⟩)] 38)) (.cells #[.pointer (some ⟨g, 0, none⟩)] 87)))
  have hB1 := Aside0.mk ((Blk.new w 38 #[.pointer (some ⟨tb, 0, none⟩)]).alloc (.cells #[.pointer (some ⟨g, 0, none⟩)] 87)).drew
  have hB2 := Aside0.mk (Blk.new (w.alloc (.cells #[.pointer (some ⟨tb, 0, none⟩)] 38)) 87 #[.pointer (some ⟨g, 0, none⟩)]).drew
  rw [World.size_alloc] at hB2
  go_region_with (go_at_call 14; refine (HP.out _ hbw.out hB1.out hB2.out).mono ?_; rintro e w2 ⟨rfl, hT2, hF2⟩)
  all_goals
    have HR := Aside0.mk (⟨hT2, (FrT.of_below tb hbw.out).trans hF2⟩ : Tk w0 tb _ w2 ∧ FrT tb w w2)
    clear hT2 hF2
    go_wp2_with fail
    go_end0
    exact ⟨rfl, HR.out⟩
set_option maxRecDepth 100000 in
theorem set_nil (w0 w : World) (tb : Nat) (xs : NL) (hT : Tk w0 tb xs w) : Calls Tryz.prog 28 #[.pointer (some ⟨tb, 0, none⟩), .pointer none] w (TkPost w0 tb xs w) := by
  have HT := Aside0.mk hT
  clear hT
  go_enter Tryz.func28, Tryz.ntmps28
  go_wp2_with fail
  go_end0
  exact ⟨rfl, HT.out.of_below (below_alloc (below_alloc (Below.refl _ _) _) _), FrT.of_below tb (below_alloc (below_alloc (Below.refl _ _) _) _)⟩
theorem set_opt {S : NL → World → Value → Prop} (hS : SetT S) (w0 w : World) (tb : Nat) (xs : NL) (ss : List NL) (v : Value) (h : GOptS S ss w0 v) (hT : Tk w0 tb xs w) (hN : (xs ++ ss.flatten).length ≤ 200000) : Calls Tryz.prog 28 #[.pointer (some ⟨tb, 0, none⟩), v] w (TkPost w0 tb (xs ++ ss.flatten) w) := by
  rcases h with ⟨rfl, rfl⟩ | ⟨x, rfl, h⟩
  · simpa using set_nil w0 w tb xs hT
  · have e : ([x] : List NL).flatten = x := by simp
    rw [e] at hN ⊢
    exact hS w0 w tb xs x v h hT hN
end Go.Proofs.YthbinlnpipgobaaGreatDoor.Take
namespace Go.Proofs.YthbinlnpipgobaaGreatDoor.Take
set_option linter.unusedVariables false
set_option linter.unusedSimpArgs false
open Go.RowKit Go.Proofs.YthbinlnpipgobaaGreatDoorW.PrintWords Go.Proofs.YthbinlnpipgobaaGreatDoor.Keep Go.Proofs.YthbinlnpipgobaaGreatDoor.Env Go.Proofs.YthbinlnpipgobaaGreatDoor.Ast Go.Proofs.YthbinlnpipgobaaGreatDoor.Tree

set_option maxRecDepth 100000 in
set_option maxHeartbeats 8000000 in
theorem field_body {L n : Nat} (hA : (∀ (w0 w : World) (tb : Nat) (xs : NL) (zs : List NL) (sv : Value), GRow L (GArg L n) zs w0 sv → Tk w0 tb xs w → (xs ++ zs.flatten).length ≤ 200000 → Calls Tryz.prog 51 #[.pointer (some ⟨tb, 0, none⟩), sv] w (TkPost w0 tb (xs ++ zs.flatten) w))) (hD : (∀ (w0 w : World) (tb : Nat) (xs : NL) (zs : List NL) (sv : Value), GRowD L (GDir L n) zs w0 sv → Tk w0 tb xs w → (xs ++ zs.flatten).length ≤ 200000 → Calls Tryz.prog 27 #[.pointer (some ⟨tb, 0, none⟩), sv] w (TkPost w0 tb (xs ++ zs.flatten) w))) {S : NL → World → Value → Prop} (hS : SetT S) (w0 w : World) (tb g bt bg : Nat) (xs : NL) (as_ ds ss : List NL) (va vd vs : Value) (h4 : Cl L w0 g 4 va) (ga : GRow L (GArg L n) as_ w0 va) (h5 : Cl L w0 g 5 vd) (gd : GRowD L (GDir L n) ds w0 vd) (h6 : Cl L w0 g 6 vs) (gs : GOptS S ss w0 vs) (hbt : Blk w bt 38 #[.pointer (some ⟨tb, 0, none⟩)]) (hbg : Blk w bg 235 #[ptr g]) (hne : bt ≠ tb ∧ bg ≠ tb) (hT : Tk w0 tb xs w) (hN : (xs ++ (as_ ++ ds ++ ss).flatten).length ≤ 200000) :
    Calls Tryz.prog 98 #[.pointer (some ⟨bt, 0, none⟩), .pointer (some ⟨bg, 0, none⟩)] w (TkPost w0 tb (xs ++ (as_ ++ ds ++ ss).flatten) w) := by
  have HF0 := Aside0.mk (FrT.refl tb w)
  have HT0 := Aside0.mk hT
  have HBT := Aside0.mk hbt
  have HBG := Aside0.mk hbg
  have HC0 := Aside0.mk (fun W (hT : Tk w0 tb (xs) W) => hA w0 W tb (xs) as_ va ga hT (by simp only [List.length_append, List.flatten_append, List.flatten_cons, List.flatten_nil, List.append_nil, List.length_nil] at hN ⊢; omega))
  have HH0 := Aside0.mk (fun W (hb : Below w0.heap.size w0 W) => pw_cell_below hb (cl_cell h4))
  have HC1 := Aside0.mk (fun W (hT : Tk w0 tb (xs ++ as_.flatten) W) => hD w0 W tb (xs ++ as_.flatten) ds vd gd hT (by simp only [List.length_append, List.flatten_append, List.flatten_cons, List.flatten_nil, List.append_nil, List.length_nil] at hN ⊢; omega))
  have HH1 := Aside0.mk (fun W (hb : Below w0.heap.size w0 W) => pw_cell_below hb (cl_cell h5))
  have HC2 := Aside0.mk (fun W (hT : Tk w0 tb ((xs ++ as_.flatten) ++ ds.flatten) W) => set_opt hS w0 W tb ((xs ++ as_.flatten) ++ ds.flatten) ss vs gs hT (by simp only [List.length_append, List.flatten_append, List.flatten_cons, List.flatten_nil, List.append_nil, List.length_nil] at hN ⊢; omega))
  have HH2 := Aside0.mk (fun W (hb : Below w0.heap.size w0 W) => pw_cell_below hb (cl_cell h6))
  clear hT hN hbt hbg h4 h5 h6
  unfold ptr at *
  go_enter Tryz.func98, Tryz.ntmps98
  have q1 := ((HF0.out.keep HBT.out hne.1 (by decide) (by decide)).cell 0).trans rfl
  have q2 := ((HF0.out.keep HBG.out hne.2 (by decide) (by decide)).cell 0).trans rfl
  have q3 := HH0.out _ HT0.out.below
  go_wp2_with fail
  go_region_with (go_at_call 51; refine (HC0.out _ (HT0.out.of_below (below_drew (Below.refl _ _)))).mono ?_; rintro e w2 ⟨rfl, hT2, hF2⟩)
  all_goals
    have HT1 := Aside0.mk hT2
    have HF1 := Aside0.mk (HF0.out.drew.trans hF2)
    clear q1 q2 q3 hT2 hF2
    have q1 := ((HF1.out.keep HBT.out hne.1 (by decide) (by decide)).cell 0).trans rfl
    have q2 := ((HF1.out.keep HBG.out hne.2 (by decide) (by decide)).cell 0).trans rfl
    have q3 := HH1.out _ HT1.out.below
    go_wp2_with fail
    go_region_with (go_at_call 27; refine (HC1.out _ (HT1.out.of_below (below_drew (Below.refl _ _)))).mono ?_; rintro e w3 ⟨rfl, hT3, hF3⟩)
    all_goals
      have HT2 := Aside0.mk hT3
      have HF2 := Aside0.mk (HF1.out.drew.trans hF3)
      clear q1 q2 q3 hT3 hF3
      have q1 := ((HF2.out.keep HBT.out hne.1 (by decide) (by decide)).cell 0).trans rfl
      have q2 := ((HF2.out.keep HBG.out hne.2 (by decide) (by decide)).cell 0).trans rfl
      have q3 := HH2.out _ HT2.out.below
      go_wp2_with fail
      go_region_with (go_at_call 28; refine (HC2.out _ (HT2.out.of_below (below_drew (Below.refl _ _)))).mono ?_; rintro e w4 ⟨rfl, hT4, hF4⟩)
      all_goals
        have HT3 := Aside0.mk hT4
        have HF3 := Aside0.mk (HF2.out.drew.trans hF4)
        clear q1 q2 q3 hT4 hF4
        go_wp2_with fail
        go_end0
        refine ⟨rfl, ?_, HF3.out⟩
        have h := HT3.out
        simpa [List.append_assoc] using h
set_option maxRecDepth 100000 in
set_option maxHeartbeats 8000000 in
theorem spread_body {L n : Nat} (hA : (∀ (w0 w : World) (tb : Nat) (xs : NL) (zs : List NL) (sv : Value), GRow L (GArg L n) zs w0 sv → Tk w0 tb xs w → (xs ++ zs.flatten).length ≤ 200000 → Calls Tryz.prog 51 #[.pointer (some ⟨tb, 0, none⟩), sv] w (TkPost w0 tb (xs ++ zs.flatten) w))) (hD : (∀ (w0 w : World) (tb : Nat) (xs : NL) (zs : List NL) (sv : Value), GRowD L (GDir L n) zs w0 sv → Tk w0 tb xs w → (xs ++ zs.flatten).length ≤ 200000 → Calls Tryz.prog 27 #[.pointer (some ⟨tb, 0, none⟩), sv] w (TkPost w0 tb (xs ++ zs.flatten) w))) {S : NL → World → Value → Prop} (hS : SetT S) (w0 w : World) (tb g bt bg : Nat) (xs : NL) (ds : List NL) (vd : Value) (h3 : Cl L w0 g 3 vd) (gd : GRowD L (GDir L n) ds w0 vd) (hbt : Blk w bt 38 #[.pointer (some ⟨tb, 0, none⟩)]) (hbg : Blk w bg 238 #[ptr g]) (hne : bt ≠ tb ∧ bg ≠ tb) (hT : Tk w0 tb xs w) (hN : (xs ++ ds.flatten).length ≤ 200000) :
    Calls Tryz.prog 99 #[.pointer (some ⟨bt, 0, none⟩), .pointer (some ⟨bg, 0, none⟩)] w (TkPost w0 tb (xs ++ ds.flatten) w) := by
  have HF0 := Aside0.mk (FrT.refl tb w)
  have HT0 := Aside0.mk hT
  have HBT := Aside0.mk hbt
  have HBG := Aside0.mk hbg
  have HC0 := Aside0.mk (fun W (hT : Tk w0 tb (xs) W) => hD w0 W tb (xs) ds vd gd hT (by simp only [List.length_append, List.flatten_append, List.flatten_cons, List.flatten_nil, List.append_nil, List.length_nil] at hN ⊢; omega))
  have HH0 := Aside0.mk (fun W (hb : Below w0.heap.size w0 W) => pw_cell_below hb (cl_cell h3))
  clear hT hN hbt hbg h3
  unfold ptr at *
  go_enter Tryz.func99, Tryz.ntmps99
  have q1 := ((HF0.out.keep HBT.out hne.1 (by decide) (by decide)).cell 0).trans rfl
  have q2 := ((HF0.out.keep HBG.out hne.2 (by decide) (by decide)).cell 0).trans rfl
  have q3 := HH0.out _ HT0.out.below
  go_wp2_with fail
  go_region_with (go_at_call 27; refine (HC0.out _ (HT0.out.of_below (below_drew (Below.refl _ _)))).mono ?_; rintro e w2 ⟨rfl, hT2, hF2⟩)
  all_goals
    have HT1 := Aside0.mk hT2
    have HF1 := Aside0.mk (HF0.out.drew.trans hF2)
    clear q1 q2 q3 hT2 hF2
    go_wp2_with fail
    go_end0
    refine ⟨rfl, ?_, HF1.out⟩
    have h := HT1.out
    simpa [List.append_assoc] using h
set_option maxRecDepth 100000 in
set_option maxHeartbeats 8000000 in
theorem inline_body {L n : Nat} (hA : (∀ (w0 w : World) (tb : Nat) (xs : NL) (zs : List NL) (sv : Value), GRow L (GArg L n) zs w0 sv → Tk w0 tb xs w → (xs ++ zs.flatten).length ≤ 200000 → Calls Tryz.prog 51 #[.pointer (some ⟨tb, 0, none⟩), sv] w (TkPost w0 tb (xs ++ zs.flatten) w))) (hD : (∀ (w0 w : World) (tb : Nat) (xs : NL) (zs : List NL) (sv : Value), GRowD L (GDir L n) zs w0 sv → Tk w0 tb xs w → (xs ++ zs.flatten).length ≤ 200000 → Calls Tryz.prog 27 #[.pointer (some ⟨tb, 0, none⟩), sv] w (TkPost w0 tb (xs ++ zs.flatten) w))) {S : NL → World → Value → Prop} (hS : SetT S) (w0 w : World) (tb g bt bg : Nat) (xs : NL) (ds : List NL) (z : NL) (vd vs : Value) (h3 : Cl L w0 g 3 vd) (gd : GRowD L (GDir L n) ds w0 vd) (h4 : Cl L w0 g 4 vs) (gs : S z w0 vs) (hbt : Blk w bt 38 #[.pointer (some ⟨tb, 0, none⟩)]) (hbg : Blk w bg 241 #[ptr g]) (hne : bt ≠ tb ∧ bg ≠ tb) (hT : Tk w0 tb xs w) (hN : (xs ++ (ds ++ [z]).flatten).length ≤ 200000) :
    Calls Tryz.prog 100 #[.pointer (some ⟨bt, 0, none⟩), .pointer (some ⟨bg, 0, none⟩)] w (TkPost w0 tb (xs ++ (ds ++ [z]).flatten) w) := by
  have HF0 := Aside0.mk (FrT.refl tb w)
  have HT0 := Aside0.mk hT
  have HBT := Aside0.mk hbt
  have HBG := Aside0.mk hbg
  have HC0 := Aside0.mk (fun W (hT : Tk w0 tb (xs) W) => hD w0 W tb (xs) ds vd gd hT (by simp only [List.length_append, List.flatten_append, List.flatten_cons, List.flatten_nil, List.append_nil, List.length_nil] at hN ⊢; omega))
  have HH0 := Aside0.mk (fun W (hb : Below w0.heap.size w0 W) => pw_cell_below hb (cl_cell h3))
  have HC1 := Aside0.mk (fun W (hT : Tk w0 tb (xs ++ ds.flatten) W) => hS w0 W tb (xs ++ ds.flatten) z vs gs hT (by simp only [List.length_append, List.flatten_append, List.flatten_cons, List.flatten_nil, List.append_nil, List.length_nil] at hN ⊢; omega))
  have HH1 := Aside0.mk (fun W (hb : Below w0.heap.size w0 W) => pw_cell_below hb (cl_cell h4))
  clear hT hN hbt hbg h3 h4
  unfold ptr at *
  go_enter Tryz.func100, Tryz.ntmps100
  have q1 := ((HF0.out.keep HBT.out hne.1 (by decide) (by decide)).cell 0).trans rfl
  have q2 := ((HF0.out.keep HBG.out hne.2 (by decide) (by decide)).cell 0).trans rfl
  have q3 := HH0.out _ HT0.out.below
  go_wp2_with fail
  go_region_with (go_at_call 27; refine (HC0.out _ (HT0.out.of_below (below_drew (Below.refl _ _)))).mono ?_; rintro e w2 ⟨rfl, hT2, hF2⟩)
  all_goals
    have HT1 := Aside0.mk hT2
    have HF1 := Aside0.mk (HF0.out.drew.trans hF2)
    clear q1 q2 q3 hT2 hF2
    have q1 := ((HF1.out.keep HBT.out hne.1 (by decide) (by decide)).cell 0).trans rfl
    have q2 := ((HF1.out.keep HBG.out hne.2 (by decide) (by decide)).cell 0).trans rfl
    have q3 := HH1.out _ HT1.out.below
    go_wp2_with fail
    go_region_with (go_at_call 28; refine (HC1.out _ (HT1.out.of_below (below_drew (Below.refl _ _)))).mono ?_; rintro e w3 ⟨rfl, hT3, hF3⟩)
    all_goals
      have HT2 := Aside0.mk hT3
      have HF2 := Aside0.mk (HF1.out.drew.trans hF3)
      clear q1 q2 q3 hT3 hF3
      go_wp2_with fail
      go_end0
      refine ⟨rfl, ?_, HF2.out⟩
      have h := HT2.out
      simpa [List.append_assoc] using h
end Go.Proofs.YthbinlnpipgobaaGreatDoor.Take
