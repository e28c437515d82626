import Derived.Test.YthbinlnpipgobaaGreatDoorU24
import Derived.Test.YthbinlnpipgobaaGreatDoorU19
import Derived.Test.YthbinlnpipgobaaGreatDoorU21
import Derived.Deep.RegionHeld3
namespace Go.Proofs.YthbinlnpipgobaaGreatDoor.Take
set_option linter.unusedVariables false
set_option linter.unusedSimpArgs false
open Go.RowKit Go.Proofs.YthbinlnpipgobaaGreatDoorW.PrintWords Go.Proofs.YthbinlnpipgobaaGreatDoor.Keep Go.Proofs.YthbinlnpipgobaaGreatDoor.Env Go.Proofs.YthbinlnpipgobaaGreatDoor.Ast Go.Proofs.YthbinlnpipgobaaGreatDoor.Tree

set_option maxRecDepth 100000 in
set_option maxHeartbeats 8000000 in
theorem sel_field {L n : Nat} (hA : (∀ (w0 w : World) (tb : Nat) (xs : NL) (zs : List NL) (sv : Value), GRow L (GArg L n) zs w0 sv → Tk w0 tb xs w → (xs ++ zs.flatten).length ≤ 200000 → Calls Tryz.prog 51 #[.pointer (some ⟨tb, 0, none⟩), sv] w (TkPost w0 tb (xs ++ zs.flatten) w))) (hD : (∀ (w0 w : World) (tb : Nat) (xs : NL) (zs : List NL) (sv : Value), GRowD L (GDir L n) zs w0 sv → Tk w0 tb xs w → (xs ++ zs.flatten).length ≤ 200000 → Calls Tryz.prog 27 #[.pointer (some ⟨tb, 0, none⟩), sv] w (TkPost w0 tb (xs ++ zs.flatten) w))) {S : NL → World → Value → Prop} (hS : SetT S) (w0 w : World) (tb g : Nat) (xs : NL) (lv : Value) (h1 : Cl L w0 g 1 lv) (hl : GLoc L w0 lv) (al nm va vd vs : Value) (sa sn : ByteArray) (as_ ds ss : List NL) (h2 : Cl L w0 g 2 al) (ga2 : GOptT (GName L) sa w0 al) (h3 : Cl L w0 g 3 nm) (gn : GName L sn w0 nm) (h4 : Cl L w0 g 4 va) (ga : GRow L (GArg L n) as_ w0 va) (h5 : Cl L w0 g 5 vd) (gd : GRowD L (GDir L n) ds w0 vd) (h6 : Cl L w0 g 6 vs) (gs : GOptS S ss w0 vs) (hT : Tk w0 tb xs w) (hN : (xs ++ nd 6 sn sa emp 0 (as_ ++ ds ++ ss)).length ≤ 200000) :
    Calls Tryz.prog 53 #[.pointer (some ⟨tb, 0, none⟩), .iface 235 (ptr g)] w (TkPost w0 tb (xs ++ nd 6 sn sa emp 0 (as_ ++ ds ++ ss)) w) := by
  obtain ⟨lb, la, lc, rfl, l0, l1⟩ := hl
  have hb := hT.below
  have htb : tb < w.heap.size := by obtain ⟨d, sp, h⟩ := hT; exact h.blk.lt
  have c1 := pw_cell_below hb (cl_cell h1)
  have c3 := pw_cell_below hb (cl_cell h3)
  have c2 := pw_cell_below hb (cl_cell h2)
  have hgl : g < w.heap.size := World.block_lt_of_cell? w _ c1
  have HX0 := Aside0.mk (fun W (hW : Below w.heap.size w W) => text_any gn (hb.trans (hW.mono hb.size)))
  have HX1 := Aside0.mk (fun W (hW : Below w.heap.size w W) => text_opt ga2 (hb.trans (hW.mono hb.size)))
  have HP := Aside0.mk (fun W (hW : Below w.heap.size w W) (hB1 : Blk W w.heap.size 38 #[.pointer (some ⟨tb, 0, none⟩)]) (hB2 : Blk W (w.heap.size + 1) 235 #[ptr g]) =>
    put_field w0 W tb lb xs 6 0 la lc sn sa emp w.heap.size (w.heap.size + 1) _ (fun w1 hT1 hF1 => by
      have h := field_body hA hD hS w0 w1 tb g w.heap.size (w.heap.size + 1) _ as_ ds ss va vd vs h4 ga h5 gd h6 gs (hF1.keep hB1 (by omega) (by decide) (by decide)) (hF1.keep hB2 (by omega) (by decide) (by decide)) ⟨by omega, by omega⟩ hT1 (by rw [List.length_append] at hN ⊢; rw [nd_len] at hN; rw [List.length_append]; simp only [List.length_cons, List.length_nil]; omega)
      rw [List.append_assoc, List.singleton_append] at h
      exact h) (hT.of_below hW) (cl2_cell l0) (cl2_cell l1) hN)
  have hbw := Aside0.mk (below_drew (below_alloc (below_alloc (Below.refl w.heap.size w) (.cells #[.pointer (some ⟨tb, 0, none⟩)] 38)) (.cells #[.pointer (some ⟨g, 0, none⟩)] 235)))
  have hB1 := Aside0.mk ((Blk.new w 38 #[.pointer (some ⟨tb, 0, none⟩)]).alloc (.cells #[.pointer (some ⟨g, 0, none⟩)] 235)).drew
  have hB2 := Aside0.mk (Blk.new (w.alloc (.cells #[.pointer (some ⟨tb, 0, none⟩)] 38)) 235 #[.pointer (some ⟨g, 0, none⟩)]).drew
  rw [World.size_alloc] at hB2
  have HS4 := Aside0.mk (fun w2 (hF : FrT tb ((w.alloc (.cells #[.pointer (some ⟨tb, 0, none⟩)] 38)).alloc (.cells #[.pointer (some ⟨g, 0, none⟩)] 235)).drew w2) (hb2 : Below w0.heap.size w0 w2) => (⟨((hF.keep hB1.out (by omega) (by decide) (by decide)).cell 0).trans rfl, ((hF.keep hB2.out (by omega) (by decide) (by decide)).cell 0).trans rfl, pw_cell_below hb2 (cl_cell h1), pw_cell_below hb2 (cl_cell h3), pw_cell_below hb2 (cl_cell h2)⟩ : w2.cell? ⟨w.heap.size, 0, none⟩ = some (.pointer (some ⟨tb, 0, none⟩)) ∧ w2.cell? ⟨w.heap.size + 1, 0, none⟩ = some (.pointer (some ⟨g, 0, none⟩)) ∧ w2.cell? ⟨g, 1, none⟩ = some (.pointer (some ⟨lb, 0, none⟩)) ∧ w2.cell? ⟨g, 3, none⟩ = some (nm) ∧ w2.cell? ⟨g, 2, none⟩ = some (al)))
  have a0 := ts_0_0 (.pointer (some ⟨g, 0, none⟩))
  clear hT h1 h2 ga2 h3 gn h4 ga h5 gd h6 gs hA hD hS l0 l1 hN hb
  unfold ptr at *
  go_enter Tryz.func53, Tryz.ntmps53
  go_wp2_with fail
  go_region_held3 (fun w' => w'.cell? ⟨w.heap.size, 0, none⟩ = some (.pointer (some ⟨tb, 0, none⟩)) ∧ w'.cell? ⟨w.heap.size + 1, 0, none⟩ = some (.pointer (some ⟨g, 0, none⟩)) ∧ w'.cell? ⟨g, 1, none⟩ = some (.pointer (some ⟨lb, 0, none⟩)) ∧ w'.cell? ⟨g, 3, none⟩ = some (nm) ∧ w'.cell? ⟨g, 2, none⟩ = some (al)) (go_keep) (first | (go_at_call 24; refine (HX0.out _ hbw.out).mono ?_; rintro e w2 ⟨rfl, rfl⟩) | (go_at_call 24; refine (HX1.out _ hbw.out).mono ?_; rintro e w2 ⟨rfl, rfl⟩) | (go_at_call 14; refine (HP.out _ hbw.out hB1.out hB2.out).mono ?_; rintro e w2 ⟨rfl, hT2, hF2⟩; obtain ⟨k0, k1, k2, k3, k4⟩ := HS4.out w2 hF2 hT2.below))
  all_goals
    have HR := Aside0.mk (⟨hT2, (FrT.of_below tb hbw.out).trans hF2⟩ : Tk w0 tb _ w2 ∧ FrT tb w w2)
    clear hT2 hF2
    go_wp2_with fail
    go_end0
    exact ⟨rfl, HR.out⟩
set_option maxRecDepth 100000 in
set_option maxHeartbeats 8000000 in
theorem sel_spread {L n : Nat} (hA : (∀ (w0 w : World) (tb : Nat) (xs : NL) (zs : List NL) (sv : Value), GRow L (GArg L n) zs w0 sv → Tk w0 tb xs w → (xs ++ zs.flatten).length ≤ 200000 → Calls Tryz.prog 51 #[.pointer (some ⟨tb, 0, none⟩), sv] w (TkPost w0 tb (xs ++ zs.flatten) w))) (hD : (∀ (w0 w : World) (tb : Nat) (xs : NL) (zs : List NL) (sv : Value), GRowD L (GDir L n) zs w0 sv → Tk w0 tb xs w → (xs ++ zs.flatten).length ≤ 200000 → Calls Tryz.prog 27 #[.pointer (some ⟨tb, 0, none⟩), sv] w (TkPost w0 tb (xs ++ zs.flatten) w))) {S : NL → World → Value → Prop} (hS : SetT S) (w0 w : World) (tb g : Nat) (xs : NL) (lv : Value) (h1 : Cl L w0 g 1 lv) (hl : GLoc L w0 lv) (nm vd : Value) (sn : ByteArray) (ds : List NL) (h2 : Cl L w0 g 2 nm) (gn : GName L sn w0 nm) (h3 : Cl L w0 g 3 vd) (gd : GRowD L (GDir L n) ds w0 vd) (hT : Tk w0 tb xs w) (hN : (xs ++ nd 7 sn emp emp 0 ds).length ≤ 200000) :
    Calls Tryz.prog 53 #[.pointer (some ⟨tb, 0, none⟩), .iface 238 (ptr g)] w (TkPost w0 tb (xs ++ nd 7 sn emp emp 0 ds) w) := by
  obtain ⟨lb, la, lc, rfl, l0, l1⟩ := hl
  have hb := hT.below
  have htb : tb < w.heap.size := by obtain ⟨d, sp, h⟩ := hT; exact h.blk.lt
  have c1 := pw_cell_below hb (cl_cell h1)
  have c2 := pw_cell_below hb (cl_cell h2)
  have hgl : g < w.heap.size := World.block_lt_of_cell? w _ c1
  have HX0 := Aside0.mk (fun W (hW : Below w.heap.size w W) => text_any gn (hb.trans (hW.mono hb.size)))
  have HP := Aside0.mk (fun W (hW : Below w.heap.size w W) (hB1 : Blk W w.heap.size 38 #[.pointer (some ⟨tb, 0, none⟩)]) (hB2 : Blk W (w.heap.size + 1) 238 #[ptr g]) =>
    put_spread w0 W tb lb xs 7 0 la lc sn emp emp w.heap.size (w.heap.size + 1) _ (fun w1 hT1 hF1 => by
      have h := spread_body hA hD hS w0 w1 tb g w.heap.size (w.heap.size + 1) _ ds vd h3 gd (hF1.keep hB1 (by omega) (by decide) (by decide)) (hF1.keep hB2 (by omega) (by decide) (by decide)) ⟨by omega, by omega⟩ hT1 (by rw [List.length_append] at hN ⊢; rw [nd_len] at hN; rw [List.length_append]; simp only [List.length_cons, List.length_nil]; omega)
      rw [List.append_assoc, List.singleton_append] at h
      exact h) (hT.of_below hW) (cl2_cell l0) (cl2_cell l1) hN)
  have hbw := Aside0.mk (below_drew (below_alloc (below_alloc (Below.refl w.heap.size w) (.cells #[.pointer (some ⟨tb, 0, none⟩)] 38)) (.cells #[.pointer (some ⟨g, 0, none⟩)] 238)))
  have hB1 := Aside0.mk ((Blk.new w 38 #[.pointer (some ⟨tb, 0, none⟩)]).alloc (.cells #[.pointer (some ⟨g, 0, none⟩)] 238)).drew
  have hB2 := Aside0.mk (Blk.new (w.alloc (.cells #[.pointer (some ⟨tb, 0, none⟩)] 38)) 238 #[.pointer (some ⟨g, 0, none⟩)]).drew
  rw [World.size_alloc] at hB2
  have HS4 := Aside0.mk (fun w2 (hF : FrT tb ((w.alloc (.cells #[.pointer (some ⟨tb, 0, none⟩)] 38)).alloc (.cells #[.pointer (some ⟨g, 0, none⟩)] 238)).drew w2) (hb2 : Below w0.heap.size w0 w2) => (⟨((hF.keep hB1.out (by omega) (by decide) (by decide)).cell 0).trans rfl, ((hF.keep hB2.out (by omega) (by decide) (by decide)).cell 0).trans rfl, pw_cell_below hb2 (cl_cell h1), pw_cell_below hb2 (cl_cell h2)⟩ : w2.cell? ⟨w.heap.size, 0, none⟩ = some (.pointer (some ⟨tb, 0, none⟩)) ∧ w2.cell? ⟨w.heap.size + 1, 0, none⟩ = some (.pointer (some ⟨g, 0, none⟩)) ∧ w2.cell? ⟨g, 1, none⟩ = some (.pointer (some ⟨lb, 0, none⟩)) ∧ w2.cell? ⟨g, 2, none⟩ = some (nm)))
  have a0 := ts_1_0 (.pointer (some ⟨g, 0, none⟩))
  have a1 := ts_1_1 (.pointer (some ⟨g, 0, none⟩))
  clear hT h1 h2 gn h3 gd hA hD hS l0 l1 hN hb
  unfold ptr at *
  go_enter Tryz.func53, Tryz.ntmps53
  go_wp2_with fail
  go_region_held3 (fun w' => w'.cell? ⟨w.heap.size, 0, none⟩ = some (.pointer (some ⟨tb, 0, none⟩)) ∧ w'.cell? ⟨w.heap.size + 1, 0, none⟩ = some (.pointer (some ⟨g, 0, none⟩)) ∧ w'.cell? ⟨g, 1, none⟩ = some (.pointer (some ⟨lb, 0, none⟩)) ∧ w'.cell? ⟨g, 2, none⟩ = some (nm)) (go_keep) (first | (go_at_call 24; refine (HX0.out _ hbw.out).mono ?_; rintro e w2 ⟨rfl, rfl⟩) | (go_at_call 14; refine (HP.out _ hbw.out hB1.out hB2.out).mono ?_; rintro e w2 ⟨rfl, hT2, hF2⟩; obtain ⟨k0, k1, k2, k3⟩ := HS4.out w2 hF2 hT2.below))
  all_goals
    have HR := Aside0.mk (⟨hT2, (FrT.of_below tb hbw.out).trans hF2⟩ : Tk w0 tb _ w2 ∧ FrT tb w w2)
    clear hT2 hF2
    go_wp2_with fail
    go_end0
    exact ⟨rfl, HR.out⟩
set_option maxRecDepth 100000 in
set_option maxHeartbeats 8000000 in
theorem sel_inline {L n : Nat} (hA : (∀ (w0 w : World) (tb : Nat) (xs : NL) (zs : List NL) (sv : Value), GRow L (GArg L n) zs w0 sv → Tk w0 tb xs w → (xs ++ zs.flatten).length ≤ 200000 → Calls Tryz.prog 51 #[.pointer (some ⟨tb, 0, none⟩), sv] w (TkPost w0 tb (xs ++ zs.flatten) w))) (hD : (∀ (w0 w : World) (tb : Nat) (xs : NL) (zs : List NL) (sv : Value), GRowD L (GDir L n) zs w0 sv → Tk w0 tb xs w → (xs ++ zs.flatten).length ≤ 200000 → Calls Tryz.prog 27 #[.pointer (some ⟨tb, 0, none⟩), sv] w (TkPost w0 tb (xs ++ zs.flatten) w))) {S : NL → World → Value → Prop} (hS : SetT S) (w0 w : World) (tb g : Nat) (xs : NL) (lv : Value) (h1 : Cl L w0 g 1 lv) (hl : GLoc L w0 lv) (tc vd vs : Value) (sc : ByteArray) (ds : List NL) (z : NL) (h2 : Cl L w0 g 2 tc) (gc : GOptT (GNamed L) sc w0 tc) (h3 : Cl L w0 g 3 vd) (gd : GRowD L (GDir L n) ds w0 vd) (h4 : Cl L w0 g 4 vs) (gs : S z w0 vs) (hT : Tk w0 tb xs w) (hN : (xs ++ nd 8 emp emp sc 0 (ds ++ [z])).length ≤ 200000) :
    Calls Tryz.prog 53 #[.pointer (some ⟨tb, 0, none⟩), .iface 241 (ptr g)] w (TkPost w0 tb (xs ++ nd 8 emp emp sc 0 (ds ++ [z])) w) := by
  obtain ⟨lb, la, lc, rfl, l0, l1⟩ := hl
  have hb := hT.below
  have htb : tb < w.heap.size := by obtain ⟨d, sp, h⟩ := hT; exact h.blk.lt
  have c1 := pw_cell_below hb (cl_cell h1)
  have c2 := pw_cell_below hb (cl_cell h2)
  have hgl : g < w.heap.size := World.block_lt_of_cell? w _ c1
  have HX0 := Aside0.mk (fun W (hW : Below w.heap.size w W) => on_opt gc (hb.trans (hW.mono hb.size)))
  have HP := Aside0.mk (fun W (hW : Below w.heap.size w W) (hB1 : Blk W w.heap.size 38 #[.pointer (some ⟨tb, 0, none⟩)]) (hB2 : Blk W (w.heap.size + 1) 241 #[ptr g]) =>
    put_inline w0 W tb lb xs 8 0 la lc emp emp sc w.heap.size (w.heap.size + 1) _ (fun w1 hT1 hF1 => by
      have h := inline_body hA hD hS w0 w1 tb g w.heap.size (w.heap.size + 1) _ ds z vd vs h3 gd h4 gs (hF1.keep hB1 (by omega) (by decide) (by decide)) (hF1.keep hB2 (by omega) (by decide) (by decide)) ⟨by omega, by omega⟩ hT1 (by rw [List.length_append] at hN ⊢; rw [nd_len] at hN; rw [List.length_append]; simp only [List.length_cons, List.length_nil]; omega)
      rw [List.append_assoc, List.singleton_append] at h
      exact h) (hT.of_below hW) (cl2_cell l0) (cl2_cell l1) hN)
  have hbw := Aside0.mk (below_drew (below_alloc (below_alloc (Below.refl w.heap.size w) (.cells #[.pointer (some ⟨tb, 0, none⟩)] 38)) (.cells #[.pointer (some ⟨g, 0, none⟩)] 241)))
  have hB1 := Aside0.mk ((Blk.new w 38 #[.pointer (some ⟨tb, 0, none⟩)]).alloc (.cells #[.pointer (some ⟨g, 0, none⟩)] 241)).drew
  have hB2 := Aside0.mk (Blk.new (w.alloc (.cells #[.pointer (some ⟨tb, 0, none⟩)] 38)) 241 #[.pointer (some ⟨g, 0, none⟩)]).drew
  rw [World.size_alloc] at hB2
  have HS4 := Aside0.mk (fun w2 (hF : FrT tb ((w.alloc (.cells #[.pointer (some ⟨tb, 0, none⟩)] 38)).alloc (.cells #[.pointer (some ⟨g, 0, none⟩)] 241)).drew w2) (hb2 : Below w0.heap.size w0 w2) => (⟨((hF.keep hB1.out (by omega) (by decide) (by decide)).cell 0).trans rfl, ((hF.keep hB2.out (by omega) (by decide) (by decide)).cell 0).trans rfl, pw_cell_below hb2 (cl_cell h1), pw_cell_below hb2 (cl_cell h2)⟩ : w2.cell? ⟨w.heap.size, 0, none⟩ = some (.pointer (some ⟨tb, 0, none⟩)) ∧ w2.cell? ⟨w.heap.size + 1, 0, none⟩ = some (.pointer (some ⟨g, 0, none⟩)) ∧ w2.cell? ⟨g, 1, none⟩ = some (.pointer (some ⟨lb, 0, none⟩)) ∧ w2.cell? ⟨g, 2, none⟩ = some (tc)))
  have a0 := ts_2_0 (.pointer (some ⟨g, 0, none⟩))
  have a1 := ts_2_1 (.pointer (some ⟨g, 0, none⟩))
  have a2 := ts_2_2 (.pointer (some ⟨g, 0, none⟩))
  clear hT h1 h2 gc h3 gd h4 gs hA hD hS l0 l1 hN hb
  unfold ptr at *
  go_enter Tryz.func53, Tryz.ntmps53
  go_wp2_with fail
  go_region_held3 (fun w' => w'.cell? ⟨w.heap.size, 0, none⟩ = some (.pointer (some ⟨tb, 0, none⟩)) ∧ w'.cell? ⟨w.heap.size + 1, 0, none⟩ = some (.pointer (some ⟨g, 0, none⟩)) ∧ w'.cell? ⟨g, 1, none⟩ = some (.pointer (some ⟨lb, 0, none⟩)) ∧ w'.cell? ⟨g, 2, none⟩ = some (tc)) (go_keep) (first | (go_at_call 29; refine (HX0.out _ hbw.out).mono ?_; rintro e w2 ⟨rfl, rfl⟩) | (go_at_call 14; refine (HP.out _ hbw.out hB1.out hB2.out).mono ?_; rintro e w2 ⟨rfl, hT2, hF2⟩; obtain ⟨k0, k1, k2, k3⟩ := HS4.out w2 hF2 hT2.below))
  all_goals
    have HR := Aside0.mk (⟨hT2, (FrT.of_below tb hbw.out).trans hF2⟩ : Tk w0 tb _ w2 ∧ FrT tb w w2)
    clear hT2 hF2
    go_wp2_with fail
    go_end0
    exact ⟨rfl, HR.out⟩
theorem sel_take {L n : Nat} (hA : (∀ (w0 w : World) (tb : Nat) (xs : NL) (zs : List NL) (sv : Value), GRow L (GArg L n) zs w0 sv → Tk w0 tb xs w → (xs ++ zs.flatten).length ≤ 200000 → Calls Tryz.prog 51 #[.pointer (some ⟨tb, 0, none⟩), sv] w (TkPost w0 tb (xs ++ zs.flatten) w))) (hD : (∀ (w0 w : World) (tb : Nat) (xs : NL) (zs : List NL) (sv : Value), GRowD L (GDir L n) zs w0 sv → Tk w0 tb xs w → (xs ++ zs.flatten).length ≤ 200000 → Calls Tryz.prog 27 #[.pointer (some ⟨tb, 0, none⟩), sv] w (TkPost w0 tb (xs ++ zs.flatten) w))) {S : NL → World → Value → Prop} (hS : SetT S) : SelT L n S := by
  intro w0 w tb xs y v hg hT hN
  obtain ⟨g, lv, h1, hl, h⟩ := hg
  rcases h with ⟨rfl, al, nm, ar, d, st, sa, sn, az, ds, ss, a1, a2, a3, a4, a5, a6, a7, a8, a9, a10, rfl⟩ | ⟨rfl, nm, d, sn, ds, a1, a2, a3, a4, rfl⟩ | ⟨rfl, tc, d, st, sc, ds, z, a1, a2, a3, a4, a5, a6, rfl⟩
  · exact sel_field hA hD hS w0 w tb g xs lv h1 hl al nm ar d st sa sn az ds ss a1 a2 a3 a4 a5 a6 a7 a8 a9 a10 hT hN
  · exact sel_spread hA hD hS w0 w tb g xs lv h1 hl nm d sn ds a1 a2 a3 a4 hT hN
  · exact sel_inline hA hD hS w0 w tb g xs lv h1 hl tc d st sc ds z a1 a2 a3 a4 a5 a6 hT hN
theorem sets_take {L n : Nat} (hA : (∀ (w0 w : World) (tb : Nat) (xs : NL) (zs : List NL) (sv : Value), GRow L (GArg L n) zs w0 sv → Tk w0 tb xs w → (xs ++ zs.flatten).length ≤ 200000 → Calls Tryz.prog 51 #[.pointer (some ⟨tb, 0, none⟩), sv] w (TkPost w0 tb (xs ++ zs.flatten) w))) (hD : (∀ (w0 w : World) (tb : Nat) (xs : NL) (zs : List NL) (sv : Value), GRowD L (GDir L n) zs w0 sv → Tk w0 tb xs w → (xs ++ zs.flatten).length ≤ 200000 → Calls Tryz.prog 27 #[.pointer (some ⟨tb, 0, none⟩), sv] w (TkPost w0 tb (xs ++ zs.flatten) w))) : ∀ k, SetT (GSet L n k)
  | 0 => fun _ _ _ _ _ _ h _ _ => absurd h (by intro h; cases h)
  | k + 1 => set_take (sel_take hA hD (sets_take hA hD k))
end Go.Proofs.YthbinlnpipgobaaGreatDoor.Take
