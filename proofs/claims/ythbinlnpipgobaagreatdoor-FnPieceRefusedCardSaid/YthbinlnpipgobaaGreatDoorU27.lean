import Derived.Test.YthbinlnpipgobaaGreatDoorU15
import Derived.Test.YthbinlnpipgobaaGreatDoorU26
import Derived.Test.YthbinlnpipgobaaGreatDoorU20
import Derived.Deep.RegionHeld3
namespace Go.Proofs.YthbinlnpipgobaaGreatDoor.Take
set_option linter.unusedVariables false
set_option linter.unusedSimpArgs false
open Go.RowKit Go.Proofs.YthbinlnpipgobaaGreatDoorW.PrintWords Go.Proofs.YthbinlnpipgobaaGreatDoor.Keep Go.Proofs.YthbinlnpipgobaaGreatDoor.Env Go.Proofs.YthbinlnpipgobaaGreatDoor.Ast Go.Proofs.YthbinlnpipgobaaGreatDoor.Tree Go.Proofs.YthbinlnpipgobaaGreatDoor.Par

theorem gdef_pos {L n : Nat} {S : NL → World → Value → Prop} (y : NL) (w : World) (v : Value) (h : GDef L n S y w v) : 0 < y.length := by
  rcases h with ⟨g, lv, s, A, c, st, z, h, h1, h2, h3, h4, h5, h6, h7, h8, rfl⟩ | ⟨g, lv, s, nm, tc, d, st, sn, sc, ds, z, h, h1, h2, h3, h4, h5, h6, h7, h8, h9, h10, h11, rfl⟩ <;> exact Nat.succ_pos _
/-- What is asked of the taker of definitions. -/
def DefT (L n : Nat) (S : NL → World → Value → Prop) : Prop := ∀ (w0 w : World) (tb : Nat) (xs y : NL) (v : Value), GDef L n S y w0 v → Tk w0 tb xs w → (xs ++ y).length ≤ 200000 → Calls Tryz.prog 16 #[.pointer (some ⟨tb, 0, none⟩), v] w (TkPost w0 tb (xs ++ y) w)
set_option maxRecDepth 100000 in
set_option maxHeartbeats 8000000 in
theorem def_op {L n : Nat} (hD : (∀ (w0 w : World) (tb : Nat) (xs : NL) (zs : List NL) (sv : Value), GRowD L (GDir L n) zs w0 sv → Tk w0 tb xs w → (xs ++ zs.flatten).length ≤ 200000 → Calls Tryz.prog 27 #[.pointer (some ⟨tb, 0, none⟩), sv] w (TkPost w0 tb (xs ++ zs.flatten) w))) {S : NL → World → Value → Prop} (hS : SetT S) (w0 w : World) (tb g : Nat) (xs : NL) (lv : Value) (h1 : Cl L w0 g 1 lv) (hl : GLoc L w0 lv) (s : ByteArray) (A : Option Addr) (c : Nat) (vs : Value) (z : NL) (h2 : Cl L w0 g 2 (.string s)) (h3 : Cl L w0 g 3 (.pointer none)) (h4 : Cl L w0 g 4 (.slice none 0 0)) (h5 : Cl L w0 g 5 (.slice A 0 c)) (h6 : Cl L w0 g 6 vs) (gs : S z w0 vs) (hT : Tk w0 tb xs w) (hN : (xs ++ nd 2 emp emp s 0 [z]).length ≤ 200000) :
    Calls Tryz.prog 16 #[.pointer (some ⟨tb, 0, none⟩), .iface 83 (ptr g)] w (TkPost w0 tb (xs ++ nd 2 emp emp s 0 [z]) w) := by
  obtain ⟨lb, la, lc, rfl, l0, l1⟩ := hl
  have hb := hT.below
  have htb : tb < w.heap.size := by obtain ⟨d, sp, h⟩ := hT; exact h.blk.lt
  have c1 := pw_cell_below hb (cl_cell h1)
  have c2 := pw_cell_below hb (cl_cell h2)
  have c3 := pw_cell_below hb (cl_cell h3)
  have hgl : g < w.heap.size := World.block_lt_of_cell? w _ c1
  have HX0 := Aside0.mk (fun W (hW : Below w.heap.size w W) => text_nil W)
  have HP := Aside0.mk (fun W (hW : Below w.heap.size w W) (hB1 : Blk W w.heap.size 38 #[.pointer (some ⟨tb, 0, none⟩)]) (hB2 : Blk W (w.heap.size + 1) 83 #[ptr g]) =>
    put_op w0 W tb lb xs 2 0 la lc emp emp s w.heap.size (w.heap.size + 1) _ (fun w1 hT1 hF1 => by
      have h := op_body hD hS w0 w1 tb g w.heap.size (w.heap.size + 1) _ z A c vs h4 h5 h6 gs (hF1.keep hB1 (by omega) (by decide) (by decide)) (hF1.keep hB2 (by omega) (by decide) (by decide)) ⟨by omega, by omega⟩ hT1 (by rw [List.length_append] at hN ⊢; rw [nd_len] at hN; rw [List.length_append]; simp only [List.length_cons, List.length_nil]; omega)
      rw [List.append_assoc, List.singleton_append] at h
      exact h) (hT.of_below hW) (cl2_cell l0) (cl2_cell l1) hN)
  have hbw := Aside0.mk (below_drew (below_alloc (below_alloc (Below.refl w.heap.size w) (.cells #[.pointer (some ⟨tb, 0, none⟩)] 38)) (.cells #[.pointer (some ⟨g, 0, none⟩)] 83)))
  have hB1 := Aside0.mk ((Blk.new w 38 #[.pointer (some ⟨tb, 0, none⟩)]).alloc (.cells #[.pointer (some ⟨g, 0, none⟩)] 83)).drew
  have hB2 := Aside0.mk (Blk.new (w.alloc (.cells #[.pointer (some ⟨tb, 0, none⟩)] 38)) 83 #[.pointer (some ⟨g, 0, none⟩)]).drew
  rw [World.size_alloc] at hB2
  have HS4 := Aside0.mk (fun w2 (hF : FrT tb ((w.alloc (.cells #[.pointer (some ⟨tb, 0, none⟩)] 38)).alloc (.cells #[.pointer (some ⟨g, 0, none⟩)] 83)).drew w2) (hb2 : Below w0.heap.size w0 w2) => (⟨((hF.keep hB1.out (by omega) (by decide) (by decide)).cell 0).trans rfl, ((hF.keep hB2.out (by omega) (by decide) (by decide)).cell 0).trans rfl, pw_cell_below hb2 (cl_cell h1), pw_cell_below hb2 (cl_cell h2), pw_cell_below hb2 (cl_cell h3)⟩ : w2.cell? ⟨w.heap.size, 0, none⟩ = some (.pointer (some ⟨tb, 0, none⟩)) ∧ w2.cell? ⟨w.heap.size + 1, 0, none⟩ = some (.pointer (some ⟨g, 0, none⟩)) ∧ w2.cell? ⟨g, 1, none⟩ = some (.pointer (some ⟨lb, 0, none⟩)) ∧ w2.cell? ⟨g, 2, none⟩ = some (.string s) ∧ w2.cell? ⟨g, 3, none⟩ = some (.pointer none)))
  have a0 := td_0_0 (.pointer (some ⟨g, 0, none⟩))
  clear hT h1 h2 h3 h4 h5 h6 gs hD hS l0 l1 hN hb
  unfold ptr at *
  go_enter Tryz.func16, Tryz.ntmps16
  go_wp2_with fail
  go_region_held3 (fun w' => w'.cell? ⟨w.heap.size, 0, none⟩ = some (.pointer (some ⟨tb, 0, none⟩)) ∧ w'.cell? ⟨w.heap.size + 1, 0, none⟩ = some (.pointer (some ⟨g, 0, none⟩)) ∧ w'.cell? ⟨g, 1, none⟩ = some (.pointer (some ⟨lb, 0, none⟩)) ∧ w'.cell? ⟨g, 2, none⟩ = some (.string s) ∧ w'.cell? ⟨g, 3, none⟩ = some (.pointer none)) (go_keep) (first | (go_at_call 24; refine (HX0.out _ hbw.out).mono ?_; rintro e w2 ⟨rfl, rfl⟩) | (go_at_call 14; refine (HP.out _ hbw.out hB1.out hB2.out).mono ?_; rintro e w2 ⟨rfl, hT2, hF2⟩; obtain ⟨k0, k1, k2, k3, k4⟩ := HS4.out w2 hF2 hT2.below))
  all_goals
    have HR := Aside0.mk (⟨hT2, (FrT.of_below tb hbw.out).trans hF2⟩ : Tk w0 tb _ w2 ∧ FrT tb w w2)
    clear hT2 hF2
    go_wp2_with fail
    go_end0
    exact ⟨rfl, HR.out⟩
set_option maxRecDepth 100000 in
set_option maxHeartbeats 8000000 in
theorem def_fd {L n : Nat} (hD : (∀ (w0 w : World) (tb : Nat) (xs : NL) (zs : List NL) (sv : Value), GRowD L (GDir L n) zs w0 sv → Tk w0 tb xs w → (xs ++ zs.flatten).length ≤ 200000 → Calls Tryz.prog 27 #[.pointer (some ⟨tb, 0, none⟩), sv] w (TkPost w0 tb (xs ++ zs.flatten) w))) {S : NL → World → Value → Prop} (hS : SetT S) (w0 w : World) (tb g : Nat) (xs : NL) (lv : Value) (h1 : Cl L w0 g 1 lv) (hl : GLoc L w0 lv) (nm tc vd vs : Value) (sn sc : ByteArray) (ds : List NL) (z : NL) (h3 : Cl L w0 g 3 nm) (gn : GName L sn w0 nm) (h5 : Cl L w0 g 5 tc) (gc : GNamed L sc w0 tc) (h6 : Cl L w0 g 6 vd) (gd : GRowD L (GDir L n) ds w0 vd) (h7 : Cl L w0 g 7 vs) (gs : S z w0 vs) (hT : Tk w0 tb xs w) (hN : (xs ++ nd 3 sn emp sc 0 (ds ++ [z])).length ≤ 200000) :
    Calls Tryz.prog 16 #[.pointer (some ⟨tb, 0, none⟩), .iface 94 (ptr g)] w (TkPost w0 tb (xs ++ nd 3 sn emp sc 0 (ds ++ [z])) w) := by
  obtain ⟨lb, la, lc, rfl, l0, l1⟩ := hl
  have hb := hT.below
  have htb : tb < w.heap.size := by obtain ⟨d, sp, h⟩ := hT; exact h.blk.lt
  have c1 := pw_cell_below hb (cl_cell h1)
  have c3 := pw_cell_below hb (cl_cell h3)
  have c5 := pw_cell_below hb (cl_cell h5)
  have hgl : g < w.heap.size := World.block_lt_of_cell? w _ c1
  have HX0 := Aside0.mk (fun W (hW : Below w.heap.size w W) => text_any gn (hb.trans (hW.mono hb.size)))
  have HX1 := Aside0.mk (fun W (hW : Below w.heap.size w W) => on_any gc (hb.trans (hW.mono hb.size)))
  have HP := Aside0.mk (fun W (hW : Below w.heap.size w W) (hB1 : Blk W w.heap.size 38 #[.pointer (some ⟨tb, 0, none⟩)]) (hB2 : Blk W (w.heap.size + 1) 94 #[ptr g]) =>
    put_fd w0 W tb lb xs 3 0 la lc sn emp sc w.heap.size (w.heap.size + 1) _ (fun w1 hT1 hF1 => by
      have h := fd_body hD hS w0 w1 tb g w.heap.size (w.heap.size + 1) _ ds z vd vs h6 gd h7 gs (hF1.keep hB1 (by omega) (by decide) (by decide)) (hF1.keep hB2 (by omega) (by decide) (by decide)) ⟨by omega, by omega⟩ hT1 (by rw [List.length_append] at hN ⊢; rw [nd_len] at hN; rw [List.length_append]; simp only [List.length_cons, List.length_nil]; omega)
      rw [List.append_assoc, List.singleton_append] at h
      exact h) (hT.of_below hW) (cl2_cell l0) (cl2_cell l1) hN)
  have hbw := Aside0.mk (below_drew (below_alloc (below_alloc (Below.refl w.heap.size w) (.cells #[.pointer (some ⟨tb, 0, none⟩)] 38)) (.cells #[.pointer (some ⟨g, 0, none⟩)] 94)))
  have hB1 := Aside0.mk ((Blk.new w 38 #[.pointer (some ⟨tb, 0, none⟩)]).alloc (.cells #[.pointer (some ⟨g, 0, none⟩)] 94)).drew
  have hB2 := Aside0.mk (Blk.new (w.alloc (.cells #[.pointer (some ⟨tb, 0, none⟩)] 38)) 94 #[.pointer (some ⟨g, 0, none⟩)]).drew
  rw [World.size_alloc] at hB2
  have HS4 := Aside0.mk (fun w2 (hF : FrT tb ((w.alloc (.cells #[.pointer (some ⟨tb, 0, none⟩)] 38)).alloc (.cells #[.pointer (some ⟨g, 0, none⟩)] 94)).drew w2) (hb2 : Below w0.heap.size w0 w2) => (⟨((hF.keep hB1.out (by omega) (by decide) (by decide)).cell 0).trans rfl, ((hF.keep hB2.out (by omega) (by decide) (by decide)).cell 0).trans rfl, pw_cell_below hb2 (cl_cell h1), pw_cell_below hb2 (cl_cell h3), pw_cell_below hb2 (cl_cell h5)⟩ : w2.cell? ⟨w.heap.size, 0, none⟩ = some (.pointer (some ⟨tb, 0, none⟩)) ∧ w2.cell? ⟨w.heap.size + 1, 0, none⟩ = some (.pointer (some ⟨g, 0, none⟩)) ∧ w2.cell? ⟨g, 1, none⟩ = some (.pointer (some ⟨lb, 0, none⟩)) ∧ w2.cell? ⟨g, 3, none⟩ = some (nm) ∧ w2.cell? ⟨g, 5, none⟩ = some (tc)))
  have a0 := td_1_0 (.pointer (some ⟨g, 0, none⟩))
  have a1 := td_1_1 (.pointer (some ⟨g, 0, none⟩))
  clear hT h1 h3 gn h5 gc h6 gd h7 gs hD hS l0 l1 hN hb
  unfold ptr at *
  go_enter Tryz.func16, Tryz.ntmps16
  go_wp2_with fail
  go_region_held3 (fun w' => w'.cell? ⟨w.heap.size, 0, none⟩ = some (.pointer (some ⟨tb, 0, none⟩)) ∧ w'.cell? ⟨w.heap.size + 1, 0, none⟩ = some (.pointer (some ⟨g, 0, none⟩)) ∧ w'.cell? ⟨g, 1, none⟩ = some (.pointer (some ⟨lb, 0, none⟩)) ∧ w'.cell? ⟨g, 3, none⟩ = some (nm) ∧ w'.cell? ⟨g, 5, none⟩ = some (tc)) (go_keep) (first | (go_at_call 24; refine (HX0.out _ hbw.out).mono ?_; rintro e w2 ⟨rfl, rfl⟩) | (go_at_call 29; refine (HX1.out _ hbw.out).mono ?_; rintro e w2 ⟨rfl, rfl⟩) | (go_at_call 14; refine (HP.out _ hbw.out hB1.out hB2.out).mono ?_; rintro e w2 ⟨rfl, hT2, hF2⟩; obtain ⟨k0, k1, k2, k3, k4⟩ := HS4.out w2 hF2 hT2.below))
  all_goals
    have HR := Aside0.mk (⟨hT2, (FrT.of_below tb hbw.out).trans hF2⟩ : Tk w0 tb _ w2 ∧ FrT tb w w2)
    clear hT2 hF2
    go_wp2_with fail
    go_end0
    exact ⟨rfl, HR.out⟩
theorem def_take {L n : Nat} (hD : (∀ (w0 w : World) (tb : Nat) (xs : NL) (zs : List NL) (sv : Value), GRowD L (GDir L n) zs w0 sv → Tk w0 tb xs w → (xs ++ zs.flatten).length ≤ 200000 → Calls Tryz.prog 27 #[.pointer (some ⟨tb, 0, none⟩), sv] w (TkPost w0 tb (xs ++ zs.flatten) w))) {S : NL → World → Value → Prop} (hS : SetT S) : DefT L n S := by
  intro w0 w tb xs y v hg hT hN
  rcases hg with ⟨g, lv, s, A, c, st, z, rfl, a1, a2, a3, a4, a5, a6, a7, a8, rfl⟩ | ⟨g, lv, s, nm, tc, d, st, sn, sc, ds, z, rfl, a1, a2, a3, a4, a5, a6, a7, a8, a9, a10, a11, rfl⟩
  · exact def_op hD hS w0 w tb g xs lv a1 a2 s A c st z a3 a4 a5 a6 a7 a8 hT hN
  · exact def_fd hD hS w0 w tb g xs lv a1 a2 nm tc d st sn sc ds z a4 a5 a6 a7 a8 a9 a10 a11 hT hN
set_option maxRecDepth 100000 in
set_option maxHeartbeats 4000000 in
theorem doc_loop {L n : Nat} {S : NL → World → Value → Prop} (hV : DefT L n S) (w0 w : World) (tb g bv bt : Nat) (xs : NL) (zs : List NL) (sv : Value) (h2 : Cl L w0 g 2 sv) (hr : GRowD L (GDef L n S) zs w0 sv) (hbv : Blk w bv 26 #[ptr g]) (hbt : Blk w bt 38 #[.pointer (some ⟨tb, 0, none⟩)]) (hne : bv ≠ tb ∧ bt ≠ tb) (hT : Tk w0 tb xs w) (hN : (xs ++ zs.flatten).length ≤ 200000) :
    Calls Tryz.prog 15 #[.pointer (some ⟨bv, 0, none⟩), .pointer (some ⟨bt, 0, none⟩)] w (TkPost w0 tb (xs ++ zs.flatten) w) := by
  have hfew : zs.length ≤ 200000 := by have h := growD_few gdef_pos hr; rw [List.length_append] at hN; omega
  obtain ⟨A, c, rfl, hrow⟩ := hr
  have hb := hT.below
  have c2 := pw_cell_below hb (cl_cell h2)
  have q1 := (hbv.cell 0).trans rfl
  have q2 := (hbt.cell 0).trans rfl
  have HT := Aside0.mk hT
  have HBT := Aside0.mk hbt
  have HROW := Aside0.mk hrow
  have HN := Aside0.mk hN
  clear hT hrow h2 hN hbv hbt
  unfold ptr at *
  go_enter Tryz.func15, Tryz.ntmps15
  go_wp2_with fail
  go_loopw [9] (fun v9 wr => ∃ i : Nat, v9 = .int .i64 i ∧ i ≤ zs.length ∧ Aside0 (Tk w0 tb (xs ++ (zs.take i).flatten) wr ∧ FrT tb w wr)) (fun v9 _ => zs.length - (intOf v9).toNat)
  case atStart => exact ⟨0, rfl, Nat.zero_le _, ⟨by simpa using HT.out, FrT.refl _ _⟩⟩
  case round =>
    obtain ⟨i, rfl, him, HI⟩ := hrel
    by_cases hlt : i < zs.length
    · obtain ⟨z, hz⟩ : ∃ z, zs[i]? = some z := ⟨zs[i], List.getElem?_eq_getElem hlt⟩
      have hlti : (i : Int) < (zs.length : Int) := by omega
      have hr2 : ∃ b o x, A = some ⟨b, o, none⟩ ∧ Cl L w0 b (o + i) x ∧ (GDef L n S) z w0 x := by
        rcases HROW.out with h | ⟨b, o, hA, h⟩
        · rw [h] at hlt; exact absurd hlt (by simp)
        · obtain ⟨x, h1, h2⟩ := h i z hz
          exact ⟨b, o, x, hA, h1, h2⟩
      obtain ⟨b, o, x, rfl, hc, hg⟩ := hr2
      have cx := pw_cell_below HI.out.1.below (cl_cell hc)
      have q3 := ((HI.out.2.keep HBT.out hne.2 (by decide) (by decide)).cell 0).trans rfl
      have HC := Aside0.mk (fun W (hW : Below wr.heap.size wr W) => hV w0 W tb _ z x hg (HI.out.1.of_below hW) (by
        have h := take_len (xs := xs) (i + 1) HN.out
        rw [take_one hz, ← List.append_assoc] at h
        exact h))
      clear hc hg
      go_wp2_with fail
      refine (HC.out _ (Below.refl _ _)).mono ?_
      rintro e w2 ⟨rfl, hT2, hF2⟩
      have HS := Aside0.mk (⟨by rw [take_one hz, ← List.append_assoc]; exact hT2, HI.out.2.trans hF2⟩ : Tk w0 tb (xs ++ (zs.take (i + 1)).flatten) w2 ∧ FrT tb w w2)
      clear hT2 hF2
      go_wp2_with fail
      go_roundw
      case rel => exact ⟨i + 1, by go_num, by omega, HS⟩
      case measure => simp [intOf]; omega
    · obtain rfl : i = zs.length := by omega
      have hge : ¬ (zs.length : Int) < (zs.length : Int) := by omega
      go_wp2_with fail
      go_end0
      refine ⟨rfl, ?_, HI.out.2⟩
      have h := HI.out.1
      rw [List.take_length] at h
      exact h
end Go.Proofs.YthbinlnpipgobaaGreatDoor.Take
namespace Go.Proofs.YthbinlnpipgobaaGreatDoor.Take
set_option linter.unusedVariables false
set_option linter.unusedSimpArgs false
open Go.RowKit Go.Proofs.YthbinlnpipgobaaGreatDoorW.PrintWords Go.Proofs.YthbinlnpipgobaaGreatDoor.Keep Go.Proofs.YthbinlnpipgobaaGreatDoor.Env Go.Proofs.YthbinlnpipgobaaGreatDoor.Ast Go.Proofs.YthbinlnpipgobaaGreatDoor.Tree Go.Proofs.YthbinlnpipgobaaGreatDoor.Par Go.Proofs.YthbinlnpipgobaaGreatDoor.Mod Go.Proofs.YthbinlnpipgobaaGreatDoor.Lx Go.Proofs.YthbinlnpipgobaaGreatDoor.Err

theorem own_low {w : World} {base base' n k : Nat} {T : TypeId} {v : Value} {xs : List Value} (h : w.ownsRow base T k v n xs) (hb : base' ≤ base) : w.ownsRow base' T k v n xs := by
  refine ⟨h.1, ?_⟩
  rcases h.2 with h2 | ⟨g, cap, cur, e, h1, r⟩
  · exact .inl h2
  · exact .inr ⟨g, cap, cur, e, by omega, r⟩
theorem st_gdoc {L : Nat} {V : NL → World → Value → Prop} (hV : ∀ y, Stable L (V y)) {y : NL} : Stable L (GDoc L V y) := fun w w' v hu ⟨g, lv, sv, xs, h, h1, h2, h3, h4, h5⟩ => ⟨g, lv, sv, xs, h, h1.up hu, st_loc _ _ _ hu h2, h3.up hu, st_rowS hV _ _ _ hu h4, h5⟩
theorem tk_start {w W : World} {tb : Nat} (hB : Blk W tb TT #[.slice none 0 0, .slice none 0 0, .bool false]) (hb : Below w.heap.size w W) (ht : w.heap.size ≤ tb) : Tk w tb [] W :=
  ⟨_, _, hB, World.ownsRow_nil _ _ _ _, ⟨[], World.ownsRow_nil _ _ _ _⟩, hb, ht⟩
set_option maxRecDepth 100000 in
set_option maxHeartbeats 8000000 in
theorem taken_any {L n : Nat} {S : NL → World → Value → Prop} (hS : DefT L n S) (w : World) (y : NL) (v : Value) (hg : GDoc L (GDef L n S) y w v) (hN : y.length ≤ 200000) :
    Calls Tryz.prog 10 #[v] w fun e w' => ∃ tb, e = .returned (.pointer (some ⟨tb, 0, none⟩)) ∧ Tk w tb y w' := by
  obtain ⟨g, lv, sv, zs, rfl, h1, hl, h2, hr, rfl⟩ := hg
  obtain ⟨lb, la, lc, rfl, l0, l1⟩ := hl
  have c1 := cl_cell h1
  have hgl : g < w.heap.size := World.block_lt_of_cell? w _ c1
  have hB0 := Blk.new w 26 #[.pointer (some ⟨g, 0, none⟩)]
  have hB1 := Blk.new (w.alloc (.cells #[.pointer (some ⟨g, 0, none⟩)] 26)) TT #[.slice none 0 0, .slice none 0 0, .bool false]
  have hB2 := Blk.new ((w.alloc (.cells #[.pointer (some ⟨g, 0, none⟩)] 26)).alloc (.cells #[.slice none 0 0, .slice none 0 0, .bool false] TT)) 38 #[.pointer (some ⟨w.heap.size + 1, 0, none⟩)]
  have hbw0 : Below w.heap.size w (((w.alloc (.cells #[.pointer (some ⟨g, 0, none⟩)] 26)).alloc (.cells #[.slice none 0 0, .slice none 0 0, .bool false] TT)).alloc (.cells #[.pointer (some ⟨w.heap.size + 1, 0, none⟩)] 38)).drew := below_drew (below_alloc (below_alloc (below_alloc (Below.refl w.heap.size w) _) _) _)
  replace hB0 := ((hB0.alloc (.cells #[.slice none 0 0, .slice none 0 0, .bool false] TT)).alloc (.cells #[.pointer (some ⟨w.heap.size + 1, 0, none⟩)] 38)).drew
  replace hB1 := (hB1.alloc (.cells #[.pointer (some ⟨w.heap.size + 1, 0, none⟩)] 38)).drew
  replace hB2 := hB2.drew
  simp only [World.size_alloc] at hB1 hB2
  have HP := Aside0.mk (put_doc w _ (w.heap.size + 1) lb [] 1 0 la lc emp emp emp w.heap.size (w.heap.size + 1 + 1) zs (fun w1 hT1 hF1 => by
      have h := doc_loop hS w w1 (w.heap.size + 1) g w.heap.size (w.heap.size + 1 + 1) _ zs sv h2 hr (hF1.keep hB0 (by omega) (by decide) (by decide)) (hF1.keep hB2 (by omega) (by decide) (by decide)) ⟨by omega, by omega⟩ hT1 (by rw [nd_len] at hN; rw [List.length_append]; simp only [List.length_append, List.length_cons, List.length_nil]; omega)
      rw [List.append_assoc, List.singleton_append] at h
      exact h) (tk_start hB1 hbw0 (by omega)) (cl2_cell l0) (cl2_cell l1) (by simpa using hN))
  have HK := Aside0.mk (fun (w2 : World) (hF : FrT (w.heap.size + 1) (((w.alloc (.cells #[.pointer (some ⟨g, 0, none⟩)] 26)).alloc (.cells #[.slice none 0 0, .slice none 0 0, .bool false] TT)).alloc (.cells #[.pointer (some ⟨w.heap.size + 1, 0, none⟩)] 38)).drew w2) (hb : Below w.heap.size w w2) => (⟨((hF.keep hB2 (by omega) (by decide) (by decide)).cell 0).trans rfl, ((hF.keep hB0 (by omega) (by decide) (by decide)).cell 0).trans rfl, pw_cell_below hb c1⟩ : w2.cell? ⟨w.heap.size + 1 + 1, 0, none⟩ = some (.pointer (some ⟨w.heap.size + 1, 0, none⟩)) ∧ w2.cell? ⟨w.heap.size, 0, none⟩ = some (.pointer (some ⟨g, 0, none⟩)) ∧ w2.cell? ⟨g, 1, none⟩ = some (.pointer (some ⟨lb, 0, none⟩))))
  have HKS := Aside0.mk (HK.out _ (FrT.refl _ _) hbw0)
  clear h1 h2 hr l0 l1 hN hB0 hB1 hB2 hbw0 hS
  unfold ptr at *
  go_enter Tryz.func10, Tryz.ntmps10
  go_wp2_with fail
  obtain ⟨s1, s2, s3⟩ := HKS.out
  go_region_held3 (fun w' => w'.cell? ⟨w.heap.size + 1 + 1, 0, none⟩ = some (.pointer (some ⟨w.heap.size + 1, 0, none⟩)) ∧ w'.cell? ⟨w.heap.size, 0, none⟩ = some (.pointer (some ⟨g, 0, none⟩)) ∧ w'.cell? ⟨g, 1, none⟩ = some (.pointer (some ⟨lb, 0, none⟩))) (go_keep) (first | (go_at_call 14; refine HP.out.mono ?_; rintro e w2 ⟨rfl, hT2, hF2⟩; obtain ⟨k1, k2, k3⟩ := HK.out w2 hF2 hT2.below))
  all_goals
    have k4 := (HK.out w2 hF2 hT2.below).1
    have HR := Aside0.mk hT2
    clear hT2 hF2
    go_wp2_with fail
    go_ret
    exact ⟨_, rfl, by simpa using HR.out⟩
set_option maxRecDepth 100000 in
set_option maxHeartbeats 4000000 in
theorem data_any {L n : Nat} {S : NL → World → Value → Prop} (hS : DefT L n S) (w : World) (y : NL) (v : Value) (hg : GDoc L (GDef L n S) y w v) (hN : y.length ≤ 200000) :
    Calls Tryz.prog 8 #[v] w fun e w' => ∃ d, e = .returned (.tuple #[d, .bool true]) ∧ Below w.heap.size w w' ∧ w'.ownsRow w.heap.size TN 6 d y.length (cellsOf y) := by
  have HT := Aside0.mk (taken_any hS w y v hg hN)
  clear hg hN hS
  go_enter Tryz.func8, Tryz.ntmps8
  go_wp2_with fail
  refine HT.out.mono ?_
  rintro e w2 ⟨tb, rfl, d, sp, hC⟩
  have c0 := (hC.blk.cell 0).trans (show _ = some d from rfl)
  have c2 := (hC.blk.cell 2).trans (show _ = some (Value.bool false) from rfl)
  have HC := Aside0.mk hC
  clear hC
  go_wp2_with fail
  go_region
  all_goals
    go_wp2_with fail
    refine bodyPost_ret (v := .tuple #[d, .bool true]) (by simp [results, Tryz.results8, go_sem]) rfl ⟨_, rfl, below_drew HC.out.below, HC.out.rowD.drew⟩
set_option maxRecDepth 100000 in
set_option maxHeartbeats 4000000 in
theorem parsed_any (s : ByteArray) (w : World) (goal : Option NL) (h : Calls Tryz.prog 9 #[.agg #[.iface 9 (.string s), .bool false, .bool false]] w fun e w' => PDone goal e w' ∧ Below w.heap.size w w') :
    Calls Tryz.prog 7 #[.string s] w fun e w' => Below w.heap.size w w' ∧ ((∃ y v L N, goal = some y ∧ e = .returned (.tuple #[v, .bool true]) ∧ GDoc L (GDef L N (GSet L N N)) (nd 1 emp emp emp 0 [y]) w' v) ∨ (goal = none ∧ ∃ p, e = .returned (.tuple #[p, .bool false]))) := by
  have H := Aside0.mk h
  clear h
  go_enter Tryz.func7, Tryz.ntmps7
  go_wp2_with fail
  refine H.out.mono ?_
  rintro e w2 ⟨hp, hb⟩
  have HB := Aside0.mk hb
  clear hb
  rcases hp with ⟨y, v, L, N, hy, rfl, hg⟩ | ⟨hy, p, g, rfl⟩
  · have HR := Aside0.mk (⟨hy, hg⟩ : goal = some y ∧ GDoc L (GDef L N (GSet L N N)) (nd 1 emp emp emp 0 [y]) w2 v)
    clear hy hg
    go_wp2_with fail
    go_region
    all_goals
     go_wp2_with fail
     refine bodyPost_ret (v := .tuple #[v, .bool true]) (by simp [results, Tryz.results7, go_sem]) rfl ⟨below_drew HB.out, .inl ⟨y, _, L, N, HR.out.1, rfl, st_gdoc (st_def (st_set N)) _ _ _ (Up.of_below (below_drew (Below.refl _ _))) HR.out.2⟩⟩
  · have HR := Aside0.mk hy
    clear hy
    go_wp2_with fail
    go_region
    all_goals
     go_wp2_with fail
     refine bodyPost_ret (v := .tuple #[p, .bool false]) (by simp [results, Tryz.results7, go_sem, errV]) rfl ⟨below_drew HB.out, .inr ⟨HR.out, _, rfl⟩⟩
theorem def_all {L N : Nat} : DefT L N (GSet L N N) := def_take dirs_take (sets_take args_take dirs_take N)
set_option maxRecDepth 100000 in
set_option maxHeartbeats 4000000 in
theorem implParse_any (s : ByteArray) (w : World) (goal : Option NL) (hN : ∀ y, goal = some y → y.length + 1 ≤ 200000) (h : Calls Tryz.prog 9 #[.agg #[.iface 9 (.string s), .bool false, .bool false]] w fun e w' => PDone goal e w' ∧ Below w.heap.size w w') :
    Calls Tryz.prog 5 #[.string s] w fun e w' => Below w.heap.size w w' ∧ ∃ d, e = .returned (.tuple #[d, .bool goal.isSome]) ∧ ∀ y, goal = some y → w'.ownsRow w.heap.size TN 6 d (nd 1 emp emp emp 0 [y]).length (cellsOf (nd 1 emp emp emp 0 [y])) := by
  have H := Aside0.mk (parsed_any s w goal h)
  clear h
  go_enter Tryz.func5, Tryz.ntmps5
  go_wp2_with fail
  refine H.out.mono ?_
  rintro e w2 ⟨hb, hp⟩
  have HB := Aside0.mk hb
  clear hb
  rcases hp with ⟨y, v, L, N, rfl, rfl, hg⟩ | ⟨rfl, p, rfl⟩
  · have HD := Aside0.mk (data_any def_all w2 _ v hg (by have := hN y rfl; rw [nd_len]; simp; omega))
    clear hg hN
    go_wp2_with fail
    refine HD.out.mono ?_
    rintro e w3 ⟨d, rfl, hb3, hown⟩
    have HR := Aside0.mk (⟨hb3, hown⟩ : Below w2.heap.size w2 w3 ∧ _)
    clear hb3 hown
    go_wp2_with fail
    go_ret2
    refine ⟨HB.out.trans (HR.out.1.mono HB.out.size), _, rfl, fun y' e => ?_⟩
    obtain rfl := Option.some.inj e
    exact own_low HR.out.2 HB.out.size
  · clear hN
    go_wp2_with fail
    go_ret2
    exact ⟨HB.out, _, rfl, fun y e => by cases e⟩
end Go.Proofs.YthbinlnpipgobaaGreatDoor.Take
